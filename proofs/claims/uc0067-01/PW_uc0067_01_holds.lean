import PyProof.Rows.All
import Wide.All
import OpenK.AllK
import Wide.FinOn
import KE.KPopAny
import KE.KListMore
import KE.KBools
import PyProof.AttrMissHeap
import KE.KEqSeq
import Lean
import PySem.Challenge.RW_uc0067_01
set_option Elab.async false
namespace Mine
theorem same_named : PySem.Manifest.find? = PySem.Manifest.find? := rfl
end Mine
name_quick tw5200128776193632040 for PySem.Manifest.find? by Mine.same_named
name_quick tw5111356299099525756 for PySem.Manifest.find? by Mine.same_named
name_quick tw10470071008263537045 for PySem.Manifest.find? by Mine.same_named
name_quick tw682011567655089306 for PySem.Manifest.find? by Mine.same_named
name_quick tw12172078356533094185 for PySem.Manifest.find? by Mine.same_named
name_quick tw16869277618539721502 for PySem.Manifest.find? by Mine.same_named
name_quick tw11306939235166856333 for PySem.Manifest.find? by Mine.same_named
name_quick tw6426273055680023932 for PySem.Manifest.find? by Mine.same_named
name_quick tw2315820567201803617 for PySem.Manifest.find? by Mine.same_named
name_quick tw9594665118957945026 for PySem.Manifest.find? by Mine.same_named
name_quick tw11707433790658880453 for PySem.Manifest.find? by Mine.same_named
name_quick tw14884601019740666482 for PySem.Manifest.find? by Mine.same_named
name_quick tw14213472795030965493 for PySem.Manifest.find? by Mine.same_named
name_quick tw5307473218048427134 for PySem.Manifest.find? by Mine.same_named
name_quick tw11796506867022685745 for PySem.Manifest.find? by Mine.same_named
name_quick tw7098571738820278039 for PySem.Manifest.find? by Mine.same_named
name_quick tw6004533443673955352 for PySem.Manifest.find? by Mine.same_named
name_quick tw16214148842636244229 for PySem.Manifest.find? by Mine.same_named
name_quick tw3315324234476444515 for PySem.Manifest.find? by Mine.same_named
name_quick tw2193789692954389824 for PySem.Manifest.find? by Mine.same_named
name_quick tw7783732958741208154 for PySem.Manifest.find? by Mine.same_named
name_quick tw3522871003180720194 for PySem.Manifest.find? by Mine.same_named
name_quick tw15323854079317868165 for PySem.Manifest.find? by Mine.same_named
name_quick tw4636218855388986860 for PySem.Manifest.find? by Mine.same_named
name_quick tw13642483538084851733 for PySem.Manifest.find? by Mine.same_named
name_quick tw4444965560193506482 for PySem.Manifest.find? by Mine.same_named
name_quick tw4292500188555128830 for PySem.Manifest.find? by Mine.same_named
name_quick tw17537794083376710389 for PySem.Manifest.find? by Mine.same_named
name_quick tw7094674258960923220 for PySem.Manifest.find? by Mine.same_named
name_quick tw7650934615059315214 for PySem.Manifest.find? by Mine.same_named
name_quick tw12224578244612797663 for PySem.Manifest.find? by Mine.same_named
name_quick tw7496433998918960881 for PySem.Manifest.find? by Mine.same_named
name_quick tw14376985748213822385 for PySem.Manifest.find? by Mine.same_named
name_quick tw18260038339965228139 for PySem.Manifest.find? by Mine.same_named
name_quick tw14896874001708588922 for PySem.Manifest.find? by Mine.same_named
name_quick tw2905824091091238844 for PySem.Manifest.find? by Mine.same_named
name_quick tw12832477231654346042 for PySem.Manifest.find? by Mine.same_named
name_quick tw6711915476519705758 for PySem.Manifest.find? by Mine.same_named
name_quick tw1620339239838986703 for PySem.Manifest.find? by Mine.same_named
name_quick tw13141144453892091621 for PySem.Manifest.find? by Mine.same_named
name_quick tw932993149863042379 for PySem.Manifest.find? by Mine.same_named
name_quick tw5591276700874282246 for PySem.Manifest.find? by Mine.same_named
name_quick tw12850107946570832962 for PySem.Manifest.find? by Mine.same_named
name_quick tw17352973434858128600 for PySem.Manifest.find? by Mine.same_named
name_quick tw8695380994152314050 for PySem.Manifest.find? by Mine.same_named
name_quick tw313226197891681235 for PySem.Manifest.find? by Mine.same_named
name_quick tw505943868828395459 for PySem.Manifest.find? by Mine.same_named
name_quick tw4681523508651956083 for PySem.Manifest.find? by Mine.same_named
name_quick tw14530364306720264245 for PySem.Manifest.find? by Mine.same_named
name_quick tw10314498396905981064 for PySem.Manifest.find? by Mine.same_named
name_quick tw8693227569615203950 for PySem.Manifest.find? by Mine.same_named
name_quick tw7788680626742099145 for PySem.Manifest.find? by Mine.same_named
name_quick tw8744466632488226463 for PySem.Manifest.find? by Mine.same_named
name_quick tw17497748084772794779 for PySem.Manifest.find? by Mine.same_named
name_quick tw7397068168572129948 for PySem.Manifest.find? by Mine.same_named
name_quick tw9931943479562821362 for PySem.Manifest.find? by Mine.same_named
name_quick tw2826521108475653482 for PySem.Manifest.find? by Mine.same_named
name_quick tw14325701944645716230 for PySem.Manifest.find? by Mine.same_named
name_quick tw16798434585113584660 for PySem.Manifest.find? by Mine.same_named
name_quick tw13559156169165276386 for PySem.Manifest.find? by Mine.same_named
name_quick tw17274371674624000324 for PySem.Manifest.find? by Mine.same_named
name_quick tw5978237884098788730 for PySem.Manifest.find? by Mine.same_named
name_quick tw12945451867199242903 for PySem.Manifest.find? by Mine.same_named
name_quick tw1419416864934026935 for PySem.Manifest.find? by Mine.same_named
name_quick tw6679490504615227074 for PySem.Manifest.find? by Mine.same_named
name_quick tw3972328310683599613 for PySem.Manifest.find? by Mine.same_named
name_quick tw4246733406610392388 for PySem.Manifest.find? by Mine.same_named
name_quick tw8450942572126056277 for PySem.Manifest.find? by Mine.same_named
name_quick tw3880421473898291048 for PySem.Manifest.find? by Mine.same_named
name_quick tw7581816359482902497 for PySem.Manifest.find? by Mine.same_named
name_quick tw9011979029575296479 for PySem.Manifest.find? by Mine.same_named
name_quick tw4797165386629745026 for PySem.Manifest.find? by Mine.same_named
name_quick tw10942035263794033107 for PySem.Manifest.find? by Mine.same_named
name_quick tw12022618010286034681 for PySem.Manifest.find? by Mine.same_named
name_quick tw7198390536060210744 for PySem.Manifest.find? by Mine.same_named
name_quick tw10416916031126315651 for PySem.Manifest.find? by Mine.same_named
name_quick tw2354135333415324597 for PySem.Manifest.find? by Mine.same_named
name_quick tw11420187438672877268 for PySem.Manifest.find? by Mine.same_named
name_quick tw10029231156530900338 for PySem.Manifest.find? by Mine.same_named
name_quick tw16339471991904476338 for PySem.Manifest.find? by Mine.same_named
name_quick tw15007238320947547705 for PySem.Manifest.find? by Mine.same_named
name_quick tw4302124980754421698 for PySem.Manifest.find? by Mine.same_named
name_quick tw7323676302269181137 for PySem.Manifest.find? by Mine.same_named
name_quick tw13335737130258781183 for PySem.Manifest.find? by Mine.same_named
name_quick tw662354867322794072 for PySem.Manifest.find? by Mine.same_named
name_quick tw14778209649434054790 for PySem.Manifest.find? by Mine.same_named
name_quick tw15066959818950650227 for PySem.Manifest.find? by Mine.same_named
name_quick tw9396933662098498411 for PySem.Manifest.find? by Mine.same_named
name_quick tw2862820112641550484 for PySem.Manifest.find? by Mine.same_named
name_quick tw14570686136959624382 for PySem.Manifest.find? by Mine.same_named
name_quick tw11108263761283441063 for PySem.Manifest.find? by Mine.same_named
name_quick tw1218959903707654005 for PySem.Manifest.find? by Mine.same_named
name_quick tw3105397867545767578 for PySem.Manifest.find? by Mine.same_named
name_quick tw15168306246750427876 for PySem.Manifest.find? by Mine.same_named
name_quick tw7250012664060256230 for PySem.Manifest.find? by Mine.same_named
name_quick tw5357591511691535388 for PySem.Manifest.find? by Mine.same_named
name_quick tw4904739604578439355 for PySem.Manifest.find? by Mine.same_named
name_quick tw878741703135273975 for PySem.Manifest.find? by Mine.same_named
name_quick tw17730448691065144110 for PySem.Manifest.find? by Mine.same_named
name_quick tw6683783046931543321 for PySem.Manifest.find? by Mine.same_named
name_quick tw5721027456603625697 for PySem.Manifest.find? by Mine.same_named
name_quick tw3636048126100218174 for PySem.Manifest.find? by Mine.same_named
name_quick tw15475462885187679331 for PySem.Manifest.find? by Mine.same_named
name_quick tw17964007177503468958 for PySem.Manifest.find? by Mine.same_named
name_quick tw15560500314895047343 for PySem.Manifest.find? by Mine.same_named
name_quick tw6380047634161181297 for PySem.Manifest.find? by Mine.same_named
name_quick tw1355338860687761863 for PySem.Manifest.find? by Mine.same_named
name_quick tw7504490480230193789 for PySem.Manifest.find? by Mine.same_named
name_quick tw7802139600951554647 for PySem.Manifest.find? by Mine.same_named
name_quick tw1957207395444925530 for PySem.Manifest.find? by Mine.same_named
name_quick tw4978915544186085027 for PySem.Manifest.find? by Mine.same_named
name_quick tw5529568453561195837 for PySem.Manifest.find? by Mine.same_named
name_quick tw17300597898927385350 for PySem.Manifest.find? by Mine.same_named
name_quick tw17394056326795013819 for PySem.Manifest.find? by Mine.same_named
name_quick tw16804044748790271530 for PySem.Manifest.find? by Mine.same_named
name_quick tw8224813933742928703 for PySem.Manifest.find? by Mine.same_named
name_quick tw14714103240675001986 for PySem.Manifest.find? by Mine.same_named
name_quick tw11130039905162102590 for PySem.Manifest.find? by Mine.same_named
name_quick tw8253183596043897158 for PySem.Manifest.find? by Mine.same_named
name_quick tw8860024209350480642 for PySem.Manifest.find? by Mine.same_named
name_quick tw11964429278604863157 for PySem.Manifest.find? by Mine.same_named
name_quick tw11445135464325071761 for PySem.Manifest.find? by Mine.same_named
name_quick tw219737044198020058 for PySem.Manifest.find? by Mine.same_named
name_quick tw6587116730350146372 for PySem.Manifest.find? by Mine.same_named
name_quick tw9136488742655976645 for PySem.Manifest.find? by Mine.same_named
name_quick tw1041845030581493396 for PySem.Manifest.find? by Mine.same_named
name_quick tw14333388528381170442 for PySem.Manifest.find? by Mine.same_named
name_quick tw2951486255847992690 for PySem.Manifest.find? by Mine.same_named
name_quick tw1258299570235058372 for PySem.Manifest.find? by Mine.same_named
name_quick tw10323183001455561277 for PySem.Manifest.find? by Mine.same_named
name_quick tw1749818173716722547 for PySem.Manifest.find? by Mine.same_named
name_quick tw5518745428033880147 for PySem.Manifest.find? by Mine.same_named
name_quick tw13987355940573415152 for PySem.Manifest.find? by Mine.same_named
name_quick tw189603312586018693 for PySem.Manifest.find? by Mine.same_named
name_quick tw5748944642966459573 for PySem.Manifest.find? by Mine.same_named
name_quick tw11013792430000457035 for PySem.Manifest.find? by Mine.same_named
name_quick tw15900120412870309639 for PySem.Manifest.find? by Mine.same_named
name_quick tw12177639751122801600 for PySem.Manifest.find? by Mine.same_named
name_quick tw460243522976405022 for PySem.Manifest.find? by Mine.same_named
name_quick tw1772237422875290029 for PySem.Manifest.find? by Mine.same_named
name_quick tw3698559305507148144 for PySem.Manifest.find? by Mine.same_named
name_quick tw17672482021469178181 for PySem.Manifest.find? by Mine.same_named
name_quick tw9787463984185863102 for PySem.Manifest.find? by Mine.same_named
name_quick tw11790162104776037713 for PySem.Manifest.find? by Mine.same_named
name_quick tw12825359941727978080 for PySem.Manifest.find? by Mine.same_named
name_quick tw721709456127091705 for PySem.Manifest.find? by Mine.same_named
name_quick tw4658958612460137192 for PySem.Manifest.find? by Mine.same_named
name_quick tw6662432510661729299 for PySem.Manifest.find? by Mine.same_named
name_quick tw17164873540382356111 for PySem.Manifest.find? by Mine.same_named
name_quick tw17001327861769816259 for PySem.Manifest.find? by Mine.same_named
name_quick tw16947794391021106201 for PySem.Manifest.find? by Mine.same_named
name_quick tw12488000419048109807 for PySem.Manifest.find? by Mine.same_named
name_quick tw7721631327575515661 for PySem.Manifest.find? by Mine.same_named
name_quick tw1184552218554016812 for PySem.Manifest.find? by Mine.same_named
name_quick tw16531745337717519161 for PySem.Manifest.find? by Mine.same_named
name_quick tw16966814322356759819 for PySem.Manifest.find? by Mine.same_named
name_quick tw912392155897948271 for PySem.Manifest.find? by Mine.same_named
name_quick tw16548257151911338427 for PySem.Manifest.find? by Mine.same_named
name_quick tw9674257727999782656 for PySem.Manifest.find? by Mine.same_named
name_quick tw151948405760981731 for PySem.Manifest.find? by Mine.same_named
name_quick tw12268644228514654432 for PySem.Manifest.find? by Mine.same_named
name_quick tw2378363196638174374 for PySem.Manifest.find? by Mine.same_named
name_quick tw12659028871203227004 for PySem.Manifest.find? by Mine.same_named
name_quick tw5732905514179830355 for PySem.Manifest.find? by Mine.same_named
name_quick tw11788150170368784547 for PySem.Manifest.find? by Mine.same_named
name_quick tw6135381517318000843 for PySem.Manifest.find? by Mine.same_named
name_quick tw16413264400604254196 for PySem.Manifest.find? by Mine.same_named
name_quick tw9501820088010722379 for PySem.Manifest.find? by Mine.same_named
name_quick tw1702518465993881591 for PySem.Manifest.find? by Mine.same_named
name_quick tw12233582284571471492 for PySem.Manifest.find? by Mine.same_named
name_quick tw1370275717833778536 for PySem.Manifest.find? by Mine.same_named
name_quick tw14834023430324568649 for PySem.Manifest.find? by Mine.same_named
name_quick tw1574873078441994576 for PySem.Manifest.find? by Mine.same_named
name_quick tw9151444980202551346 for PySem.Manifest.find? by Mine.same_named
name_quick tw6792406925840432001 for PySem.Manifest.find? by Mine.same_named
name_quick tw4075660801711882420 for PySem.Manifest.find? by Mine.same_named
name_quick tw11270796479367742343 for PySem.Manifest.find? by Mine.same_named
name_quick tw17000155066101142889 for PySem.Manifest.find? by Mine.same_named
name_quick tw10015664371746657536 for PySem.Manifest.find? by Mine.same_named
name_quick tw8537084889766193716 for PySem.Manifest.find? by Mine.same_named
name_quick tw5706481520468235054 for PySem.Manifest.find? by Mine.same_named
name_quick tw4090926877573551719 for PySem.Manifest.find? by Mine.same_named
name_quick tw2334299552400917057 for PySem.Manifest.find? by Mine.same_named
name_quick tw13759679279233594173 for PySem.Manifest.find? by Mine.same_named
name_quick tw13236226663087606529 for PySem.Manifest.find? by Mine.same_named
name_quick tw10938465397075749097 for PySem.Manifest.find? by Mine.same_named
name_quick tw10227693086864044499 for PySem.Manifest.find? by Mine.same_named
name_quick tw7275051467321613617 for PySem.Manifest.find? by Mine.same_named
name_quick tw951843321253372498 for PySem.Manifest.find? by Mine.same_named
name_quick tw7608000425936976151 for PySem.Manifest.find? by Mine.same_named
name_quick tw16593013826814733010 for PySem.Manifest.find? by Mine.same_named
name_quick tw13789449189825218787 for PySem.Manifest.find? by Mine.same_named
name_quick tw7299951869573292228 for PySem.Manifest.find? by Mine.same_named
name_quick tw9300948228871686676 for PySem.Manifest.find? by Mine.same_named
name_quick tw18345786424863182364 for PySem.Manifest.find? by Mine.same_named
name_quick tw900395245841561262 for PySem.Manifest.find? by Mine.same_named
name_quick tw17279654841073493023 for PySem.Manifest.find? by Mine.same_named
name_quick tw15263041282635125899 for PySem.Manifest.find? by Mine.same_named
name_quick tw13526986893379352335 for PySem.Manifest.find? by Mine.same_named
name_quick tw10948738476641704880 for PySem.Manifest.find? by Mine.same_named
name_quick tw2611137233208623240 for PySem.Manifest.find? by Mine.same_named
name_quick tw14108194823987119177 for PySem.Manifest.find? by Mine.same_named
name_quick tw558745408833754511 for PySem.Manifest.find? by Mine.same_named
name_quick tw12371321757623732685 for PySem.Manifest.find? by Mine.same_named
name_quick tw17069979004554194336 for PySem.Manifest.find? by Mine.same_named
name_quick tw9800571698397750058 for PySem.Manifest.find? by Mine.same_named
name_quick tw9626621113073979434 for PySem.Manifest.find? by Mine.same_named
name_quick tw8989982439271903415 for PySem.Manifest.find? by Mine.same_named
name_quick tw7365555872484859036 for PySem.Manifest.find? by Mine.same_named
name_quick tw4224760802259116069 for PySem.Manifest.find? by Mine.same_named
name_quick tw15542503528162795033 for PySem.Manifest.find? by Mine.same_named
name_quick tw13002492023102617099 for PySem.Manifest.find? by Mine.same_named
name_quick tw12450158673883907302 for PySem.Manifest.find? by Mine.same_named
name_quick tw11317593695737139937 for PySem.Manifest.find? by Mine.same_named
name_quick tw17244072584429378644 for PySem.Manifest.find? by Mine.same_named
name_quick tw13180171748994924942 for PySem.Manifest.find? by Mine.same_named
name_quick tw16406328271908756883 for PySem.Manifest.find? by Mine.same_named
name_quick tw11543547407058413889 for PySem.Manifest.find? by Mine.same_named
name_quick tw13317431791736044220 for PySem.Manifest.find? by Mine.same_named
name_quick tw18350330562280901221 for PySem.Manifest.find? by Mine.same_named
name_quick tw16643706677886111943 for PySem.Manifest.find? by Mine.same_named
name_quick tw9467589175468403638 for PySem.Manifest.find? by Mine.same_named
name_quick tw7401281599722004195 for PySem.Manifest.find? by Mine.same_named
name_quick tw18220123701641295943 for PySem.Manifest.find? by Mine.same_named
name_quick tw16817318245366136608 for PySem.Manifest.find? by Mine.same_named
name_quick tw16241802466949684156 for PySem.Manifest.find? by Mine.same_named
name_quick tw11487541028326302738 for PySem.Manifest.find? by Mine.same_named
name_quick tw6090905460779295987 for PySem.Manifest.find? by Mine.same_named
name_quick tw4071324889030633612 for PySem.Manifest.find? by Mine.same_named
name_quick tw387338674003428930 for PySem.Manifest.find? by Mine.same_named
name_quick tw6448080314894763839 for PySem.Manifest.find? by Mine.same_named
name_quick tw17100903815162463580 for PySem.Manifest.find? by Mine.same_named
name_quick tw8075568018651887793 for PySem.Manifest.find? by Mine.same_named
name_quick tw7840161865786897635 for PySem.Manifest.find? by Mine.same_named
name_quick tw8071516742090371072 for PySem.Manifest.find? by Mine.same_named
name_quick tw14979626087600564940 for PySem.Manifest.find? by Mine.same_named
name_quick tw6733733256287894996 for PySem.Manifest.find? by Mine.same_named
name_quick tw10262943654017269364 for PySem.Manifest.find? by Mine.same_named
name_quick tw1086765413395364841 for PySem.Manifest.find? by Mine.same_named
name_quick tw10454494479268063676 for PySem.Manifest.find? by Mine.same_named
name_quick tw57612305304379694 for PySem.Manifest.find? by Mine.same_named
name_quick tw13988732525274261415 for PySem.Manifest.find? by Mine.same_named
name_quick tw7969666803414932050 for PySem.Manifest.find? by Mine.same_named
name_quick tw5557055217656661889 for PySem.Manifest.find? by Mine.same_named
name_quick tw17428874351420789250 for PySem.Manifest.find? by Mine.same_named
name_quick tw6714822604882049554 for PySem.Manifest.find? by Mine.same_named
name_quick tw14066793110252480789 for PySem.Manifest.find? by Mine.same_named
name_quick tw5925582254088234700 for PySem.Manifest.find? by Mine.same_named
name_quick tw17863021456227041891 for PySem.Manifest.find? by Mine.same_named
name_quick tw2554192105039267796 for PySem.Manifest.find? by Mine.same_named
name_quick tw11510521692212771419 for PySem.Manifest.find? by Mine.same_named
name_quick tw14241437641891027426 for PySem.Manifest.find? by Mine.same_named
name_quick tw1617757218408452269 for PySem.Manifest.find? by Mine.same_named
name_quick tw16176465441171805009 for PySem.Manifest.find? by Mine.same_named
name_quick tw1706496860858754268 for PySem.Manifest.find? by Mine.same_named
name_quick tw3306185631391853384 for PySem.Manifest.find? by Mine.same_named
name_quick tw13912434898499826684 for PySem.Manifest.find? by Mine.same_named
name_quick tw11453259415203709369 for PySem.Manifest.find? by Mine.same_named
name_quick tw2968979199505139716 for PySem.Manifest.find? by Mine.same_named
name_quick tw16494616584097029746 for PySem.Manifest.find? by Mine.same_named
name_quick tw17517737089405305841 for PySem.Manifest.find? by Mine.same_named
name_quick tw1291980286583624508 for PySem.Manifest.find? by Mine.same_named
name_quick tw1258717718454355964 for PySem.Manifest.find? by Mine.same_named
name_quick tw16145008321745377990 for PySem.Manifest.find? by Mine.same_named
name_quick tw282004115355043989 for PySem.Manifest.find? by Mine.same_named
name_quick tw13640514254501968386 for PySem.Manifest.find? by Mine.same_named
name_quick tw3856783459128436802 for PySem.Manifest.find? by Mine.same_named
name_quick tw17804436615005485693 for PySem.Manifest.find? by Mine.same_named
name_quick tw15079194523842364033 for PySem.Manifest.find? by Mine.same_named
name_quick tw3093977132361051618 for PySem.Manifest.find? by Mine.same_named
name_quick tw5626521722763996951 for PySem.Manifest.find? by Mine.same_named
name_quick tw10528696920762540405 for PySem.Manifest.find? by Mine.same_named
name_quick tw3619232141914619222 for PySem.Manifest.find? by Mine.same_named
name_quick tw1829445100760108279 for PySem.Manifest.find? by Mine.same_named
name_quick tw9376109419431680627 for PySem.Manifest.find? by Mine.same_named
name_quick tw757081541053455785 for PySem.Manifest.find? by Mine.same_named
name_quick tw2948108419219029167 for PySem.Manifest.find? by Mine.same_named
name_quick tw4011157648589011858 for PySem.Manifest.find? by Mine.same_named
name_quick tw4407734736301137906 for PySem.Manifest.find? by Mine.same_named
name_quick tw4434333111790514575 for PySem.Manifest.find? by Mine.same_named
name_quick tw704327219915372674 for PySem.Manifest.find? by Mine.same_named
name_quick tw10010936943081839664 for PySem.Manifest.find? by Mine.same_named
name_quick tw7035115661146626270 for PySem.Manifest.find? by Mine.same_named
name_quick tw15899114121259513789 for PySem.Manifest.find? by Mine.same_named
name_quick tw16741492637210864865 for PySem.Manifest.find? by Mine.same_named
name_quick tw9285146279643344392 for PySem.Manifest.find? by Mine.same_named
name_quick tw18101931140130867144 for PySem.Manifest.find? by Mine.same_named
name_quick tw10073347824450446311 for PySem.Manifest.find? by Mine.same_named
name_quick tw7585139358526817783 for PySem.Manifest.find? by Mine.same_named
name_quick tw14386061602966655976 for PySem.Manifest.find? by Mine.same_named
name_quick tw3891137856419664920 for PySem.Manifest.find? by Mine.same_named
name_quick tw13915792640404377917 for PySem.Manifest.find? by Mine.same_named
name_quick tw17101871299007795629 for PySem.Manifest.find? by Mine.same_named
name_quick tw16643379632663270332 for PySem.Manifest.find? by Mine.same_named
name_quick tw8708707556590381134 for PySem.Manifest.find? by Mine.same_named
name_quick tw17888162413812561239 for PySem.Manifest.find? by Mine.same_named
name_quick tw5882768191206486792 for PySem.Manifest.find? by Mine.same_named
name_quick tw9979284746773624096 for PySem.Manifest.find? by Mine.same_named
name_quick tw14126943448341045398 for PySem.Manifest.find? by Mine.same_named
name_quick tw6589095468515690095 for PySem.Manifest.find? by Mine.same_named
name_quick tw3820604794100220378 for PySem.Manifest.find? by Mine.same_named
name_quick tw17975652961387846372 for PySem.Manifest.find? by Mine.same_named
name_quick tw15278061642289888581 for PySem.Manifest.find? by Mine.same_named
name_quick tw11853533878840232495 for PySem.Manifest.find? by Mine.same_named
name_quick tw8579058602437062094 for PySem.Manifest.find? by Mine.same_named
name_quick tw12393455550290869266 for PySem.Manifest.find? by Mine.same_named
name_quick tw5068434257544371817 for PySem.Manifest.find? by Mine.same_named
name_quick tw4319705520415482375 for PySem.Manifest.find? by Mine.same_named
name_quick tw17552769576498331613 for PySem.Manifest.find? by Mine.same_named
name_quick tw1735497430108182060 for PySem.Manifest.find? by Mine.same_named
name_quick tw5076957145309523181 for PySem.Manifest.find? by Mine.same_named
name_quick tw6122645084068987007 for PySem.Manifest.find? by Mine.same_named
name_quick tw1537898542681612871 for PySem.Manifest.find? by Mine.same_named
name_quick tw8719427161674164953 for PySem.Manifest.find? by Mine.same_named
name_quick tw3778451253796500701 for PySem.Manifest.find? by Mine.same_named
name_quick tw17476080006546285661 for PySem.Manifest.find? by Mine.same_named
name_quick tw11333186260410459676 for PySem.Manifest.find? by Mine.same_named
name_quick tw15423634916342008072 for PySem.Manifest.find? by Mine.same_named
name_quick tw2627984346626558326 for PySem.Manifest.find? by Mine.same_named
name_quick tw16752143609539240740 for PySem.Manifest.find? by Mine.same_named
name_quick tw183835017167291270 for PySem.Manifest.find? by Mine.same_named
name_quick tw5565278806992967083 for PySem.Manifest.find? by Mine.same_named
name_quick tw7932110497407068121 for PySem.Manifest.find? by Mine.same_named
name_quick tw15823609455315575823 for PySem.Manifest.find? by Mine.same_named
name_quick tw12898947447245864913 for PySem.Manifest.find? by Mine.same_named
name_quick tw16350708796919097252 for PySem.Manifest.find? by Mine.same_named
name_quick tw2460228577881660442 for PySem.Manifest.find? by Mine.same_named
name_quick tw724751600484774222 for PySem.Manifest.find? by Mine.same_named
name_quick tw2283851925072248500 for PySem.Manifest.find? by Mine.same_named
name_quick tw17954471519018878134 for PySem.Manifest.find? by Mine.same_named
name_quick tw11588390666370768167 for PySem.Manifest.find? by Mine.same_named
name_quick tw9458956999447867950 for PySem.Manifest.find? by Mine.same_named
name_quick tw12767683915131110723 for PySem.Manifest.find? by Mine.same_named
name_quick tw667198328695590252 for PySem.Manifest.find? by Mine.same_named
name_quick tw13314330512976039754 for PySem.Manifest.find? by Mine.same_named
name_quick tw10919533547850550483 for PySem.Manifest.find? by Mine.same_named
name_quick tw2354101950205528012 for PySem.Manifest.find? by Mine.same_named
name_quick tw15490439104401381959 for PySem.Manifest.find? by Mine.same_named
name_quick tw16374537267813192141 for PySem.Manifest.find? by Mine.same_named
name_quick tw12632203425335570320 for PySem.Manifest.find? by Mine.same_named
name_quick tw10887116778572429059 for PySem.Manifest.find? by Mine.same_named
name_quick tw3424931102881643321 for PySem.Manifest.find? by Mine.same_named
name_quick tw5349121933718820234 for PySem.Manifest.find? by Mine.same_named
name_quick tw15980859228951719591 for PySem.Manifest.find? by Mine.same_named
name_quick tw17532440430192770315 for PySem.Manifest.find? by Mine.same_named
name_quick tw2670528217467546775 for PySem.Manifest.find? by Mine.same_named
name_quick tw2478078296215019888 for PySem.Manifest.find? by Mine.same_named
name_quick tw8206430501311747189 for PySem.Manifest.find? by Mine.same_named
name_quick tw16296994325663420285 for PySem.Manifest.find? by Mine.same_named
name_quick tw1402947280878808549 for PySem.Manifest.find? by Mine.same_named
name_quick tw3976722010076183465 for PySem.Manifest.find? by Mine.same_named
name_quick tw6722154040420286063 for PySem.Manifest.find? by Mine.same_named
name_quick tw16846860572762119324 for PySem.Manifest.find? by Mine.same_named
name_quick tw5396446701170858492 for PySem.Manifest.find? by Mine.same_named
name_quick tw9763268239775435451 for PySem.Manifest.find? by Mine.same_named
name_quick tw5697894365363955025 for PySem.Manifest.find? by Mine.same_named
name_quick tw7392212959928792091 for PySem.Manifest.find? by Mine.same_named
name_quick tw3442601649717412197 for PySem.Manifest.find? by Mine.same_named
name_quick tw14821650378409806113 for PySem.Manifest.find? by Mine.same_named
name_quick tw3264259588550801142 for PySem.Manifest.find? by Mine.same_named
name_quick tw18263319221461684349 for PySem.Manifest.find? by Mine.same_named
name_quick tw14073706353221006472 for PySem.Manifest.find? by Mine.same_named
name_quick tw13678640442995254988 for PySem.Manifest.find? by Mine.same_named
name_quick tw1886563365779066154 for PySem.Manifest.find? by Mine.same_named
name_quick tw4549333791460862111 for PySem.Manifest.find? by Mine.same_named
name_quick tw14433975572909055671 for PySem.Manifest.find? by Mine.same_named
name_quick tw5268983451555188008 for PySem.Manifest.find? by Mine.same_named
name_quick tw3094477031063562474 for PySem.Manifest.find? by Mine.same_named
name_quick tw12813236842856870187 for PySem.Manifest.find? by Mine.same_named
name_quick tw11313170107247368264 for PySem.Manifest.find? by Mine.same_named
name_quick tw16018607276475445134 for PySem.Manifest.find? by Mine.same_named
name_quick tw3436264866546951355 for PySem.Manifest.find? by Mine.same_named
name_quick tw13254397897704925713 for PySem.Manifest.find? by Mine.same_named
name_quick tw7269565832213808900 for PySem.Manifest.find? by Mine.same_named
name_quick tw13776390136698705113 for PySem.Manifest.find? by Mine.same_named
name_quick tw11625766737575182897 for PySem.Manifest.find? by Mine.same_named
name_quick tw6550987210724342151 for PySem.Manifest.find? by Mine.same_named
name_quick tw15615819752592202608 for PySem.Manifest.find? by Mine.same_named
name_quick tw11186114360453789277 for PySem.Manifest.find? by Mine.same_named
name_quick tw4921902886906138986 for PySem.Manifest.find? by Mine.same_named
name_quick tw411341824665146567 for PySem.Manifest.find? by Mine.same_named
name_quick tw3209381107111851631 for PySem.Manifest.find? by Mine.same_named
name_quick tw16874561944515371726 for PySem.Manifest.find? by Mine.same_named
name_quick tw4525517667737911620 for PySem.Manifest.find? by Mine.same_named
name_quick tw15195428891847259777 for PySem.Manifest.find? by Mine.same_named
name_quick tw16697116713213952808 for PySem.Manifest.find? by Mine.same_named
name_quick tw5345256250457102556 for PySem.Manifest.find? by Mine.same_named
name_quick tw5770868932273138760 for PySem.Manifest.find? by Mine.same_named
name_quick tw5248340912204065574 for PySem.Manifest.find? by Mine.same_named
name_quick tw1962928258387122110 for PySem.Manifest.find? by Mine.same_named
name_quick tw9315938663221665524 for PySem.Manifest.find? by Mine.same_named
name_quick tw10996506086634736982 for PySem.Manifest.find? by Mine.same_named
name_quick tw6059929106960060952 for PySem.Manifest.find? by Mine.same_named
name_quick tw1204117194425446250 for PySem.Manifest.find? by Mine.same_named
name_quick tw7157684699910612514 for PySem.Manifest.find? by Mine.same_named
name_quick tw2922074901204462755 for PySem.Manifest.find? by Mine.same_named
name_quick tw15663404670287596823 for PySem.Manifest.find? by Mine.same_named
name_quick tw11994158751524154303 for PySem.Manifest.find? by Mine.same_named
name_quick tw13615603153576403970 for PySem.Manifest.find? by Mine.same_named
name_quick tw4039474712603431140 for PySem.Manifest.find? by Mine.same_named
name_quick tw11863081143760314161 for PySem.Manifest.find? by Mine.same_named
name_quick tw7299303143086499733 for PySem.Manifest.find? by Mine.same_named
name_quick tw16432479971616331241 for PySem.Manifest.find? by Mine.same_named
name_quick tw16916688483869632129 for PySem.Manifest.find? by Mine.same_named
name_quick tw17828083071136270317 for PySem.Manifest.find? by Mine.same_named
name_quick tw8703263022893421829 for PySem.Manifest.find? by Mine.same_named
name_quick tw8017206721242287953 for PySem.Manifest.find? by Mine.same_named
name_quick tw6434138532213402376 for PySem.Manifest.find? by Mine.same_named
name_quick tw2660918139993853925 for PySem.Manifest.find? by Mine.same_named
name_quick tw7581352650102555174 for PySem.Manifest.find? by Mine.same_named
name_quick tw9948023125614773506 for PySem.Manifest.find? by Mine.same_named
name_quick tw4933834842325187142 for PySem.Manifest.find? by Mine.same_named
name_quick tw11682084944484805031 for PySem.Manifest.find? by Mine.same_named
name_quick tw17730428716208468724 for PySem.Manifest.find? by Mine.same_named
name_quick tw1414301608579184545 for PySem.Manifest.find? by Mine.same_named
name_quick tw14223099787259518943 for PySem.Manifest.find? by Mine.same_named
name_quick tw17018628822417861297 for PySem.Manifest.find? by Mine.same_named
name_quick tw8595292554425487202 for PySem.Manifest.find? by Mine.same_named
name_quick tw11985326045990495214 for PySem.Manifest.find? by Mine.same_named
name_quick tw6929956602132211858 for PySem.Manifest.find? by Mine.same_named
name_quick tw16979880578912567463 for PySem.Manifest.find? by Mine.same_named
name_quick tw17057272898397164401 for PySem.Manifest.find? by Mine.same_named
name_quick tw392140993173905013 for PySem.Manifest.find? by Mine.same_named
name_quick tw18056578402003937789 for PySem.Manifest.find? by Mine.same_named
name_quick tw11636919720809706868 for PySem.Manifest.find? by Mine.same_named
name_quick tw3131671291697673992 for PySem.Manifest.find? by Mine.same_named
name_quick tw12635297910168745909 for PySem.Manifest.find? by Mine.same_named
name_quick tw18340240734955500558 for PySem.Manifest.find? by Mine.same_named
name_quick tw1763209079605825380 for PySem.Manifest.find? by Mine.same_named
name_quick tw17941836619637887471 for PySem.Manifest.find? by Mine.same_named
name_quick tw11707371222683016368 for PySem.Manifest.find? by Mine.same_named
name_quick tw4558998842232669794 for PySem.Manifest.find? by Mine.same_named
name_quick tw7892128664451923741 for PySem.Manifest.find? by Mine.same_named
name_quick tw2664551874359636763 for PySem.Manifest.find? by Mine.same_named
name_quick tw347637069881736656 for PySem.Manifest.find? by Mine.same_named
name_quick tw1638017585896720355 for PySem.Manifest.find? by Mine.same_named
name_quick tw9951705424602377420 for PySem.Manifest.find? by Mine.same_named
name_quick tw4552823106982906706 for PySem.Manifest.find? by Mine.same_named
name_quick tw11957962974430299695 for PySem.Manifest.find? by Mine.same_named
name_quick tw2039238271031011813 for PySem.Manifest.find? by Mine.same_named
name_quick tw10706342367453228570 for PySem.Manifest.find? by Mine.same_named
name_quick tw2447775223705975068 for PySem.Manifest.find? by Mine.same_named
name_quick tw13145125596335152023 for PySem.Manifest.find? by Mine.same_named
name_quick tw9908251947323293946 for PySem.Manifest.find? by Mine.same_named
name_quick tw5032809538720368765 for PySem.Manifest.find? by Mine.same_named
name_quick tw9407582987413476825 for PySem.Manifest.find? by Mine.same_named
name_quick tw10670733350059645105 for PySem.Manifest.find? by Mine.same_named
name_quick tw7276740287692124622 for PySem.Manifest.find? by Mine.same_named
name_quick tw1092655722715705105 for PySem.Manifest.find? by Mine.same_named
name_quick tw16644606511662114574 for PySem.Manifest.find? by Mine.same_named
name_quick tw15766043655864335149 for PySem.Manifest.find? by Mine.same_named
name_quick tw14210447440969649564 for PySem.Manifest.find? by Mine.same_named
name_quick tw5701610774189311196 for PySem.Manifest.find? by Mine.same_named
name_quick tw6817277305950994716 for PySem.Manifest.find? by Mine.same_named
name_quick tw12866136484021002089 for PySem.Manifest.find? by Mine.same_named
name_quick tw14112274594779413971 for PySem.Manifest.find? by Mine.same_named
name_quick tw11939915149646268982 for PySem.Manifest.find? by Mine.same_named
name_quick tw8642067239939848140 for PySem.Manifest.find? by Mine.same_named
name_quick tw4748654258956052638 for PySem.Manifest.find? by Mine.same_named
name_quick tw8727135674562949291 for PySem.Manifest.find? by Mine.same_named
name_quick tw2599325451414397859 for PySem.Manifest.find? by Mine.same_named
name_quick tw2408619945344806742 for PySem.Manifest.find? by Mine.same_named
name_quick tw3560238982266916124 for PySem.Manifest.find? by Mine.same_named
name_quick tw8424611434330503625 for PySem.Manifest.find? by Mine.same_named
name_quick tw9862997608875712007 for PySem.Manifest.find? by Mine.same_named
name_quick tw8376441433122354887 for PySem.Manifest.find? by Mine.same_named
name_quick tw4980102563643897964 for PySem.Manifest.find? by Mine.same_named
name_quick tw15894407043143930727 for PySem.Manifest.find? by Mine.same_named
name_quick tw12635813782599140982 for PySem.Manifest.find? by Mine.same_named
name_quick tw11729385059970357855 for PySem.Manifest.find? by Mine.same_named
name_quick tw13036272033356848781 for PySem.Manifest.find? by Mine.same_named
name_quick tw14682916456496288721 for PySem.Manifest.find? by Mine.same_named
name_quick tw13981391230805400906 for PySem.Manifest.find? by Mine.same_named
name_quick tw14326252917377295143 for PySem.Manifest.find? by Mine.same_named
name_quick tw6654550962395885724 for PySem.Manifest.find? by Mine.same_named
name_quick tw3470799630455053000 for PySem.Manifest.find? by Mine.same_named
name_quick tw16414604833108395602 for PySem.Manifest.find? by Mine.same_named
name_quick tw15450981722951097364 for PySem.Manifest.find? by Mine.same_named
name_quick tw9564595351457756722 for PySem.Manifest.find? by Mine.same_named
name_quick tw5135500740108067664 for PySem.Manifest.find? by Mine.same_named
name_quick tw2719445374943340272 for PySem.Manifest.find? by Mine.same_named
name_quick tw15480198773659482676 for PySem.Manifest.find? by Mine.same_named
name_quick tw9529234661008812162 for PySem.Manifest.find? by Mine.same_named
name_quick tw18211773271919218964 for PySem.Manifest.find? by Mine.same_named
name_quick tw117213463901210413 for PySem.Manifest.find? by Mine.same_named
name_quick tw15742981410569661332 for PySem.Manifest.find? by Mine.same_named
name_quick tw4775785305629353868 for PySem.Manifest.find? by Mine.same_named
name_quick tw10317580896714288900 for PySem.Manifest.find? by Mine.same_named
name_quick tw5902227825499142635 for PySem.Manifest.find? by Mine.same_named
name_quick tw16655555454665732581 for PySem.Manifest.find? by Mine.same_named
name_quick tw3764465048917985505 for PySem.Manifest.find? by Mine.same_named
name_quick tw11566699232636054958 for PySem.Manifest.find? by Mine.same_named
name_quick tw13512673800721320934 for PySem.Manifest.find? by Mine.same_named
section
open PySem PySem.W PyProof.Rows
namespace Mine
set_option maxRecDepth 100000
set_option maxHeartbeats 8000000
open_top hd for PySem.Challenge.rw_uc0067_01
end Mine
namespace Mine
theorem top_off : True := by
  w_top off
  trivial
end Mine
end

section
open PySem PySem.W PyProof.Rows
namespace Mine
theorem eps_ne {α : Type _} (ne : Nonempty α) (R : α → Prop) : Nonempty {x : α // R x → ∀ y, R y} := by
  by_cases h : ∃ x, ¬ R x
  · obtain ⟨x, hx⟩ := h
    exact ⟨x, fun k => absurd k hx⟩
  · exact ⟨Classical.choice ne, fun _ y => Classical.byContradiction fun k => h ⟨y, k⟩⟩
noncomputable def pk1 {α : Type _} (ne : Nonempty α) (R : α → Prop) : α := (Classical.choice (eps_ne ne R)).1
theorem all1 {α : Type _} (ne : Nonempty α) {R : α → Prop} (h : R (pk1 ne R)) : ∀ x, R x := (Classical.choice (eps_ne ne R)).2 h
noncomputable def epsi {α : Type _} (ne : Nonempty α) (p : α → Prop) : α := @Classical.epsilon α ne p
theorem ex_use {α : Type _} (ne : Nonempty α) {p : α → Prop} {G : Prop} (h : ∃ x, p x) (k : p (epsi ne p) → G) : G := k (@Classical.epsilon_spec_aux α ne p h)
theorem ex_id {α : Type _} {p : α → Prop} (h : ∃ x, p x) : ∃ x, p x := h
abbrev A3 {α β γ : Type} (R : α → β → γ → Prop) (x : α) (y : β) (z : γ) : Prop := R x y z
abbrev B3 {α β γ : Type} (R : α → β → γ → Prop) : Prop := ∀ x y z, A3 R x y z
theorem d3 {α β γ : Type} {R : α → β → γ → Prop} {x : α} {y : β} {z : γ} (h : R x y z) : A3 R x y z := h
theorem conj_at {a b T : Nat} {P : Prop} (h : b < T ∧ P) (k : b < T ∧ P → a < T) : a < T := k h
theorem ne_nat : Nonempty Nat := ⟨0⟩
theorem ne_int : Nonempty Int := ⟨0⟩
theorem ne_heap : Nonempty Heap := ⟨{}⟩
theorem ne_val : Nonempty Value := ⟨.none⟩
theorem ne_str : Nonempty Str := ⟨Str.ofString ""⟩
theorem ne_obj : Nonempty Obj := ⟨default⟩
theorem ne_list {α : Type _} : Nonempty (List α) := ⟨[]⟩
theorem ne_arr {α : Type _} : Nonempty (Array α) := ⟨#[]⟩
theorem ne_fn {α β : Type _} (h : Nonempty β) : Nonempty (α → β) := h.elim fun b => ⟨fun _ => b⟩
theorem ne_opt {α : Type _} : Nonempty (Option α) := ⟨none⟩
theorem ne_pp : Nonempty Prop := ⟨True⟩
theorem ne_drawn : Nonempty Drawn := ⟨{}⟩
theorem ne_around : Nonempty Around := ⟨{}⟩
theorem ne_shared : Nonempty Shared := ⟨{}⟩
theorem ne_params : Nonempty Params := ⟨{ strHash := fun _ => 0, shareClass := fun _ => 0, mergeTok := fun t => t, idOf := fun _ => 0, idOfShared := fun _ _ => 0, followText := fun _ => false, idOfImm := fun _ => 0 }⟩
theorem ne_world : Nonempty World := ne_params.elim fun p => ⟨⟨fun _ _ => 0, p⟩⟩
theorem ne_prod {α β : Type _} (h : Nonempty α) (k : Nonempty β) : Nonempty (α × β) := h.elim fun a => k.elim fun b => ⟨(a, b)⟩
/-! plain arithmetic -/
theorem meas1 {n i : Nat} (h : i < n) : n + 1 - (i + 1) < n + 1 - i := Nat.sub_lt_sub_left (Nat.lt_succ_of_lt h) (Nat.lt_succ_self i)
theorem meas2 {lo mid hi : Nat} (h1 : lo ≤ mid) (h2 : mid < hi) : hi - (mid + 1) < hi - lo := Nat.sub_lt_sub_left (Nat.lt_of_le_of_lt h1 h2) (Nat.lt_succ_of_le h1)
theorem meas3 {p s x : Nat} (h : p < x) (hs : 0 < s) : x + 3 - (p + s) < x + 3 - p := Nat.sub_lt_sub_left (Nat.lt_of_lt_of_le h (Nat.le_add_right x 3)) (Nat.lt_add_of_pos_right hs)
theorem mid_ex {lo hi : Nat} (h : (lo : Int) < hi) : ∃ mid : Nat, ((lo : Int) + hi).fdiv 2 = mid ∧ lo ≤ mid ∧ mid < hi :=
  have h' : lo < hi := Int.ofNat_lt.mp h
  ⟨(lo + hi) / 2, by rw [Int.fdiv_eq_ediv_of_nonneg _ (by decide)]; rfl, by omega, by omega⟩
theorem lt63 {a n : Nat} (h : a < n) (hn : n ≤ 100) : (a : Int) < 2 ^ 63 := Int.ofNat_lt.mpr (Nat.lt_of_lt_of_le h (Nat.le_trans hn (by decide : 100 ≤ 9223372036854775808)))
theorem ar_split {a c b : Nat} (h1 : a < c) (h2 : c < b) : b - a = (c - a) + (b - c) := by omega
theorem kn1 {f c l n : Nat} (h1 : f < c) (h2 : c < l) (h : l - f ≤ n + 1) : c - f ≤ n := Nat.le_of_lt_succ (Nat.lt_of_lt_of_le (Nat.sub_lt_sub_right (Nat.le_of_lt h1) h2) h)
theorem kn2 {f c l n : Nat} (h1 : f < c) (h2 : c < l) (h : l - f ≤ n + 1) : l - c ≤ n := Nat.le_of_lt_succ (Nat.lt_of_lt_of_le (Nat.sub_lt_sub_left (Nat.lt_trans h1 h2) h1) h)
theorem kn_len {x1 x2 p q n : Nat} (h1 : x1 + 7 ≤ 12 * p) (h2 : x2 + 7 ≤ 12 * q) (h : n = p + q) : 2 + 1 + x1 + x2 + 4 + 7 ≤ 12 * n := by omega
theorem kn3 {o n p q : Nat} (hs : n = p + q) (hq : 0 < q) (h : o + 12 * n ≤ 90) : o + 3 + 12 * p ≤ 90 := by omega
theorem kn4 {o n p q x : Nat} (hs : n = p + q) (h : o + 12 * n ≤ 90) (h1 : x + 7 ≤ 12 * p) : o + 3 + x + 12 * q ≤ 90 := by omega
theorem kn5 {p m : Nat} (hp : p ≤ 5) (h : m + 3 ≤ 3 * p) : 1 + (m + 1) ≤ 1000 := by omega
theorem kn6 {n p q m k : Nat} (hs : n = p + q) (hn : n ≤ 5) (h : m + 3 ≤ 3 * p) (h' : k + 3 ≤ 3 * q) : m + 1 + 1 + (k + 1) ≤ 1000 := by omega
theorem kn7 {n p q m k : Nat} (hs : n = p + q) (h : m + 3 ≤ 3 * p) (h' : k + 3 ≤ 3 * q) : m + 1 + 1 + (k + 1) + 3 ≤ 3 * n := by omega
theorem kn8 {o n p q x y : Nat} (h : o + 3 + x + 12 * q ≤ 90) (h1 : y + 7 ≤ 12 * q) : o + 3 + x + y ≤ 90 := Nat.le_trans (Nat.add_le_add_left (Nat.le_trans (Nat.le_add_right y 7) h1) _) h
theorem pg0 {a i : Nat} (h : a ≤ i) : i + 1 = a + (i + 1 - a) := (Nat.add_sub_of_le (Nat.le_succ_of_le h)).symm
theorem pg1a {i a b x : Nat} (e : i + 1 = a + b) (h5 : i < 5) (hx : x ≤ 12 * a) : 0 + 2 + 1 + x + 12 * b ≤ 90 := by omega
theorem pg1 {i a x : Nat} (h : a ≤ i) (h5 : i < 5) (hx : x ≤ 12 * a) : 0 + 2 + 1 + x + 12 * (i + 1 - a) ≤ 90 := pg1a (pg0 h) h5 hx
theorem pg2a {m k i a b : Nat} (e : i + 1 = a + b) (hm : m ≤ 3 * a) (hk : k + 3 ≤ 3 * b) : m + k + 1 ≤ 3 * (i + 1) := by omega
theorem pg3 {m k i a : Nat} (hm : m ≤ 3 * a) (hk : k + 3 ≤ 3 * (i + 1 - a)) (h : a ≤ i) : m + k + 1 ≤ 3 * (i + 1) := pg2a (pg0 h) hm hk
theorem pg2 {m k i a : Nat} (hm : m ≤ 3 * a) (hk : k + 3 ≤ 3 * (i + 1 - a)) (h : a ≤ i) (h5 : i < 5) : m + 1 + (k + 1) ≤ 1000 := by have := pg3 hm hk h; omega
theorem pg4 {i a x y : Nat} (h : a ≤ i) (hx : x ≤ 12 * a) (hy : y + 7 ≤ 12 * (i + 1 - a)) : x + y ≤ 12 * (i + 1) := by
  have e := pg0 h
  generalize i + 1 - a = b at *
  omega
theorem last_ix (n : Nat) : ((-1 : Int) + ((n + 1 : Nat) : Int)).toNat = n := by rw [Int.natCast_succ, Int.add_comm, Int.add_neg_cancel_right]; rfl
theorem toNat0 (i : Nat) : ((0 : Int) + (i : Int)).toNat = i := by rw [Int.zero_add]; rfl
theorem sub5 {a b : Nat} (ha : a < 5) (hb : b < 5) (h : a ≠ b) (e : 5 - a = 5 - b) : False := h (by rw [← Nat.sub_sub_self (Nat.le_of_lt ha), e, Nat.sub_sub_self (Nat.le_of_lt hb)])
theorem pred2 {a b : Nat} (ha : 1 ≤ a) (hb : 1 ≤ b) : a + b - 1 = a - 1 + (b - 1) + 1 := by rw [Nat.add_assoc, Nat.sub_add_cancel hb, Nat.sub_add_comm ha]
theorem mul64 {f k : Int} {n : Nat} (hf : f = 1 ∨ f = -1) (hk : k.natAbs ≤ n) (hn : n ≤ 1000000) : -2 ^ 64 < f * k ∧ f * k < 2 ^ 64 := by
  have h : (f * k).natAbs ≤ 1000000 := by
    rw [Int.natAbs_mul]
    rcases hf with rfl | rfl <;> exact Nat.le_trans (Nat.le_of_eq (Nat.one_mul _)) (Nat.le_trans hk hn)
  generalize f * k = z at h
  constructor <;> omega
theorem back_ix {n i : Nat} (h : i < n) (h5 : n ≤ 5) : (0 : Int) ≤ (n : Int) - 1 - (0 + (i : Int)) ∧ (n : Int) - 1 - (0 + (i : Int)) < 2 ^ 63 ∧ ((n : Int) - 1 - (0 + (i : Int))).toNat = n - 1 - i := by
  obtain ⟨k, rfl⟩ : ∃ k, n = i + k + 1 := Nat.exists_eq_add_of_lt h
  have e : ((i + k + 1 : Nat) : Int) - 1 - (0 + (i : Int)) = k := by rw [Int.natCast_succ, Int.add_sub_cancel, Int.zero_add, Int.natCast_add, Int.add_comm, Int.add_sub_cancel]
  rw [e]
  refine ⟨Int.natCast_nonneg k, lt63 (Nat.lt_succ_of_le (Nat.le_trans (Nat.le_add_left k i) (Nat.le_of_succ_le h5))) (by decide), ?_⟩
  rw [Nat.add_sub_cancel, Nat.add_sub_cancel_left]
  rfl
section
open Lean
set_option compiler.extract_closed false
 def tq (k : String) (xs : List Syntax) : Syntax := .node .none ("Lean.Parser.Tactic." ++ k).toName xs.toArray
 def an (s : String) : Syntax := .atom .none s
 def nl (xs : List Syntax) : Syntax := .node .none `null xs.toArray
 def sep (c : String) : List Syntax → List Syntax
  | x :: y :: r => x :: an c :: sep c (y :: r)
  | l => l
 def ts (xs : List Syntax) : Syntax := tq "tacticSeq" [tq "tacticSeq1Indented" [nl (sep ";" xs)]]
 def sq (xs : List Syntax) : Syntax := tq "paren" [an "(", ts xs, an ")"]
 def fo : List Syntax → List Syntax
  | x :: r => .node .none `group #[an "|", ts [x]] :: fo r
  | l => l
 def fi (xs : List Syntax) : Syntax := tq "first" [an "first", nl (fo xs)]
 def kx (s : String) : Syntax := .node .none `PySem.W.tacticK_extra_ #[an "k_extra", Syntax.mkStrLit s]
 def nx (k : String) (xs : List Syntax) : Syntax := tq k [an k, nl xs]
 def sk : Syntax := tq "skip" [an "skip"]
 def cl (x : Syntax) : Syntax := fi [nx "clear" [x], sk]
 def md (x : Syntax) : Syntax := tq "rcasesPatMed" [nl [x]]
 def lp (x : Syntax) : Syntax := tq "rcasesPatLo" [x, nl []]
 def tu (xs : List Syntax) : Syntax := tq "rcasesPat.tuple" [an "⟨", nl (sep "," xs), an "⟩"]
 def rc (e p : Syntax) : Syntax := tq "rcases" [an "rcases", nl [tq "elimTarget" [nl [], e]], nl [an "with", p]]
 def ob (p e : Syntax) : Syntax := tq "obtain" [an "obtain", nl [md p], nl [], nl [an ":=", nl [e]]]
 def isK (s : Syntax) (k : String) : Bool := s.getKind == ("Lean.Parser.Tactic." ++ k).toName
 def nam (q : Syntax) : Bool := isK q "rcasesPat.one" && q[0].getId != `rfl
 def mi (s : String) : Syntax := mkIdent s.toName
 def rst (r : List Syntax) : Syntax := if r.isEmpty then sk else nx "intro" r
 def alts (ids : List Syntax) : Nat → List Syntax
  | 0 => []
  | n + 1 => sq [kx ("m:in " ++ toString (n + 1)), nx "intros" (ids.take (n + 1)), rst (ids.drop (n + 1))] :: alts ids n
 def ino (ids : List Syntax) : Syntax :=
  let a := ids.take 1
  fi [sq [kx "m:on", fi (alts ids ids.length ++ [sq [nx "intros" a, fi [sq [nx "revert" a, kx "m:in 1", nx "intros" a], sk], rst (ids.drop 1)]])], nx "intros" ids]
 def idl : List Syntax → Nat → List Syntax
  | [], _ => []
  | x :: r, n => (if x.isIdent then x else if x.getKind == `Lean.Parser.Term.hole then mi ("hole" ++ toString n) else .missing) :: idl r (n + 1)
 def mis : List Syntax → Bool
  | [] => false
  | x :: r => x.isMissing || mis r
 def out (xs : List Syntax) (s : Syntax) : MacroM Syntax := if xs.isEmpty || mis xs then Macro.throwUnsupported else pure s
 def mIn (xs : Array Syntax) : MacroM Syntax := out (idl xs.toList 0) (ino (idl xs.toList 0))
 def obt (pat e : Syntax) : Syntax :=
  match pat[0][0][1].getSepArgs.toList with
  | q0 :: l0 :: r =>
    if pat[0].getNumArgs != 1 || !isK pat[0][0] "rcasesPat.tuple" then .missing else
    let q := q0[0][0][0]
    let l := l0[0][0][0]
    let last := r.isEmpty && nam l
    let y := if last then l[0] else mi "hq9"
    let rest := if last then sk else sq [ob (if r.isEmpty then l else tu (l0 :: r)) y, cl y]
    let p2 := fun x => lp (md (tu [lp (md x), lp (md (tq "rcasesPat.one" [y]))]))
    let h := mi "hp9"
    let b := if isK q "rcasesPat.tuple" then sq [rc e (p2 (tq "rcasesPat.one" [h])), ob q h, cl h, rest] else sq [rc e (p2 q), rest]
    let al := sq [kx "m:ob0", tq "exact" [an "exact", e], kx "m:eps", cl e, kx "m:ob2", nx "intros" [if nam q then q[0] else mi "hole", y], rest]
    fi [sq [kx "m:on", fi (if nam q || isK q "rcasesPat.ignore" then [al, b] else [b])], sq [kx "m:off", rc e (lp pat)]]
  | _ => .missing
 def mOb (pat e : Syntax) : MacroM Syntax := out [obt pat e] (obt pat e)
 def rin (h : Syntax) : List Syntax → List Syntax → List Syntax
  | [], ids => [rst ids]
  | x :: r, ids => if !isK x "rintroPat.one" then [.missing] else if nam x[0] then rin h r (ids ++ [x[0][0]]) else nx "intro" (ids ++ [h]) :: ob x[0] h :: cl h :: rin h r []
 def mRin (xs : Array Syntax) : MacroM Syntax := out (rin (mi "hr9") xs.toList []) (sq (rin (mi "hr9") xs.toList []))
end
end Mine
end
section
namespace Mine
@[irreducible] def fs {α β : Type} (p : α × β) : α := p.1
@[irreducible] def sn {α β : Type} (p : α × β) : β := p.2
noncomputable def pk2 {A0 A1 : Type} (ne : Nonempty (A0 × A1)) (R : A0 → A1 → Prop) : A0 × A1 := pk1 ne fun t => R (fs t) (sn t)
theorem all2 {A0 A1 : Type} (ne : Nonempty (A0 × A1)) {R : A0 → A1 → Prop} (h : R (fs (pk2 ne R)) (sn (pk2 ne R))) : ∀ x0 x1, R x0 x1 := fun x0 x1 => by with_unfolding_all exact all1 ne (R := fun t => R (fs t) (sn t)) h (x0, x1)
noncomputable def pk3 {A0 A1 A2 : Type} (ne : Nonempty (A0 × A1 × A2)) (R : A0 → A1 → A2 → Prop) : A0 × A1 × A2 := pk1 ne fun t => R (fs t) (fs (sn t)) (sn (sn t))
theorem all3 {A0 A1 A2 : Type} (ne : Nonempty (A0 × A1 × A2)) {R : A0 → A1 → A2 → Prop} (h : R (fs (pk3 ne R)) (fs (sn (pk3 ne R))) (sn (sn (pk3 ne R)))) : ∀ x0 x1 x2, R x0 x1 x2 := fun x0 x1 x2 => by with_unfolding_all exact all1 ne (R := fun t => R (fs t) (fs (sn t)) (sn (sn t))) h (x0, x1, x2)
noncomputable def pk4 {A0 A1 A2 A3 : Type} (ne : Nonempty (A0 × A1 × A2 × A3)) (R : A0 → A1 → A2 → A3 → Prop) : A0 × A1 × A2 × A3 := pk1 ne fun t => R (fs t) (fs (sn t)) (fs (sn (sn t))) (sn (sn (sn t)))
theorem all4 {A0 A1 A2 A3 : Type} (ne : Nonempty (A0 × A1 × A2 × A3)) {R : A0 → A1 → A2 → A3 → Prop} (h : R (fs (pk4 ne R)) (fs (sn (pk4 ne R))) (fs (sn (sn (pk4 ne R)))) (sn (sn (sn (pk4 ne R))))) : ∀ x0 x1 x2 x3, R x0 x1 x2 x3 := fun x0 x1 x2 x3 => by with_unfolding_all exact all1 ne (R := fun t => R (fs t) (fs (sn t)) (fs (sn (sn t))) (sn (sn (sn t)))) h (x0, x1, x2, x3)
noncomputable def pk5 {A0 A1 A2 A3 A4 : Type} (ne : Nonempty (A0 × A1 × A2 × A3 × A4)) (R : A0 → A1 → A2 → A3 → A4 → Prop) : A0 × A1 × A2 × A3 × A4 := pk1 ne fun t => R (fs t) (fs (sn t)) (fs (sn (sn t))) (fs (sn (sn (sn t)))) (sn (sn (sn (sn t))))
theorem all5 {A0 A1 A2 A3 A4 : Type} (ne : Nonempty (A0 × A1 × A2 × A3 × A4)) {R : A0 → A1 → A2 → A3 → A4 → Prop} (h : R (fs (pk5 ne R)) (fs (sn (pk5 ne R))) (fs (sn (sn (pk5 ne R)))) (fs (sn (sn (sn (pk5 ne R))))) (sn (sn (sn (sn (pk5 ne R)))))) : ∀ x0 x1 x2 x3 x4, R x0 x1 x2 x3 x4 := fun x0 x1 x2 x3 x4 => by with_unfolding_all exact all1 ne (R := fun t => R (fs t) (fs (sn t)) (fs (sn (sn t))) (fs (sn (sn (sn t)))) (sn (sn (sn (sn t))))) h (x0, x1, x2, x3, x4)
noncomputable def pk6 {A0 A1 A2 A3 A4 A5 : Type} (ne : Nonempty (A0 × A1 × A2 × A3 × A4 × A5)) (R : A0 → A1 → A2 → A3 → A4 → A5 → Prop) : A0 × A1 × A2 × A3 × A4 × A5 := pk1 ne fun t => R (fs t) (fs (sn t)) (fs (sn (sn t))) (fs (sn (sn (sn t)))) (fs (sn (sn (sn (sn t))))) (sn (sn (sn (sn (sn t)))))
theorem all6 {A0 A1 A2 A3 A4 A5 : Type} (ne : Nonempty (A0 × A1 × A2 × A3 × A4 × A5)) {R : A0 → A1 → A2 → A3 → A4 → A5 → Prop} (h : R (fs (pk6 ne R)) (fs (sn (pk6 ne R))) (fs (sn (sn (pk6 ne R)))) (fs (sn (sn (sn (pk6 ne R))))) (fs (sn (sn (sn (sn (pk6 ne R)))))) (sn (sn (sn (sn (sn (pk6 ne R))))))) : ∀ x0 x1 x2 x3 x4 x5, R x0 x1 x2 x3 x4 x5 := fun x0 x1 x2 x3 x4 x5 => by with_unfolding_all exact all1 ne (R := fun t => R (fs t) (fs (sn t)) (fs (sn (sn t))) (fs (sn (sn (sn t)))) (fs (sn (sn (sn (sn t))))) (sn (sn (sn (sn (sn t)))))) h (x0, x1, x2, x3, x4, x5)
noncomputable def pk7 {A0 A1 A2 A3 A4 A5 A6 : Type} (ne : Nonempty (A0 × A1 × A2 × A3 × A4 × A5 × A6)) (R : A0 → A1 → A2 → A3 → A4 → A5 → A6 → Prop) : A0 × A1 × A2 × A3 × A4 × A5 × A6 := pk1 ne fun t => R (fs t) (fs (sn t)) (fs (sn (sn t))) (fs (sn (sn (sn t)))) (fs (sn (sn (sn (sn t))))) (fs (sn (sn (sn (sn (sn t)))))) (sn (sn (sn (sn (sn (sn t))))))
theorem all7 {A0 A1 A2 A3 A4 A5 A6 : Type} (ne : Nonempty (A0 × A1 × A2 × A3 × A4 × A5 × A6)) {R : A0 → A1 → A2 → A3 → A4 → A5 → A6 → Prop} (h : R (fs (pk7 ne R)) (fs (sn (pk7 ne R))) (fs (sn (sn (pk7 ne R)))) (fs (sn (sn (sn (pk7 ne R))))) (fs (sn (sn (sn (sn (pk7 ne R)))))) (fs (sn (sn (sn (sn (sn (pk7 ne R))))))) (sn (sn (sn (sn (sn (sn (pk7 ne R)))))))) : ∀ x0 x1 x2 x3 x4 x5 x6, R x0 x1 x2 x3 x4 x5 x6 := fun x0 x1 x2 x3 x4 x5 x6 => by with_unfolding_all exact all1 ne (R := fun t => R (fs t) (fs (sn t)) (fs (sn (sn t))) (fs (sn (sn (sn t)))) (fs (sn (sn (sn (sn t))))) (fs (sn (sn (sn (sn (sn t)))))) (sn (sn (sn (sn (sn (sn t))))))) h (x0, x1, x2, x3, x4, x5, x6)
noncomputable def pk8 {A0 A1 A2 A3 A4 A5 A6 A7 : Type} (ne : Nonempty (A0 × A1 × A2 × A3 × A4 × A5 × A6 × A7)) (R : A0 → A1 → A2 → A3 → A4 → A5 → A6 → A7 → Prop) : A0 × A1 × A2 × A3 × A4 × A5 × A6 × A7 := pk1 ne fun t => R (fs t) (fs (sn t)) (fs (sn (sn t))) (fs (sn (sn (sn t)))) (fs (sn (sn (sn (sn t))))) (fs (sn (sn (sn (sn (sn t)))))) (fs (sn (sn (sn (sn (sn (sn t))))))) (sn (sn (sn (sn (sn (sn (sn t)))))))
theorem all8 {A0 A1 A2 A3 A4 A5 A6 A7 : Type} (ne : Nonempty (A0 × A1 × A2 × A3 × A4 × A5 × A6 × A7)) {R : A0 → A1 → A2 → A3 → A4 → A5 → A6 → A7 → Prop} (h : R (fs (pk8 ne R)) (fs (sn (pk8 ne R))) (fs (sn (sn (pk8 ne R)))) (fs (sn (sn (sn (pk8 ne R))))) (fs (sn (sn (sn (sn (pk8 ne R)))))) (fs (sn (sn (sn (sn (sn (pk8 ne R))))))) (fs (sn (sn (sn (sn (sn (sn (pk8 ne R)))))))) (sn (sn (sn (sn (sn (sn (sn (pk8 ne R))))))))) : ∀ x0 x1 x2 x3 x4 x5 x6 x7, R x0 x1 x2 x3 x4 x5 x6 x7 := fun x0 x1 x2 x3 x4 x5 x6 x7 => by with_unfolding_all exact all1 ne (R := fun t => R (fs t) (fs (sn t)) (fs (sn (sn t))) (fs (sn (sn (sn t)))) (fs (sn (sn (sn (sn t))))) (fs (sn (sn (sn (sn (sn t)))))) (fs (sn (sn (sn (sn (sn (sn t))))))) (sn (sn (sn (sn (sn (sn (sn t)))))))) h (x0, x1, x2, x3, x4, x5, x6, x7)
noncomputable def pk9 {A0 A1 A2 A3 A4 A5 A6 A7 A8 : Type} (ne : Nonempty (A0 × A1 × A2 × A3 × A4 × A5 × A6 × A7 × A8)) (R : A0 → A1 → A2 → A3 → A4 → A5 → A6 → A7 → A8 → Prop) : A0 × A1 × A2 × A3 × A4 × A5 × A6 × A7 × A8 := pk1 ne fun t => R (fs t) (fs (sn t)) (fs (sn (sn t))) (fs (sn (sn (sn t)))) (fs (sn (sn (sn (sn t))))) (fs (sn (sn (sn (sn (sn t)))))) (fs (sn (sn (sn (sn (sn (sn t))))))) (fs (sn (sn (sn (sn (sn (sn (sn t)))))))) (sn (sn (sn (sn (sn (sn (sn (sn t))))))))
theorem all9 {A0 A1 A2 A3 A4 A5 A6 A7 A8 : Type} (ne : Nonempty (A0 × A1 × A2 × A3 × A4 × A5 × A6 × A7 × A8)) {R : A0 → A1 → A2 → A3 → A4 → A5 → A6 → A7 → A8 → Prop} (h : R (fs (pk9 ne R)) (fs (sn (pk9 ne R))) (fs (sn (sn (pk9 ne R)))) (fs (sn (sn (sn (pk9 ne R))))) (fs (sn (sn (sn (sn (pk9 ne R)))))) (fs (sn (sn (sn (sn (sn (pk9 ne R))))))) (fs (sn (sn (sn (sn (sn (sn (pk9 ne R)))))))) (fs (sn (sn (sn (sn (sn (sn (sn (pk9 ne R))))))))) (sn (sn (sn (sn (sn (sn (sn (sn (pk9 ne R)))))))))) : ∀ x0 x1 x2 x3 x4 x5 x6 x7 x8, R x0 x1 x2 x3 x4 x5 x6 x7 x8 := fun x0 x1 x2 x3 x4 x5 x6 x7 x8 => by with_unfolding_all exact all1 ne (R := fun t => R (fs t) (fs (sn t)) (fs (sn (sn t))) (fs (sn (sn (sn t)))) (fs (sn (sn (sn (sn t))))) (fs (sn (sn (sn (sn (sn t)))))) (fs (sn (sn (sn (sn (sn (sn t))))))) (fs (sn (sn (sn (sn (sn (sn (sn t)))))))) (sn (sn (sn (sn (sn (sn (sn (sn t))))))))) h (x0, x1, x2, x3, x4, x5, x6, x7, x8)
noncomputable def pk10 {A0 A1 A2 A3 A4 A5 A6 A7 A8 A9 : Type} (ne : Nonempty (A0 × A1 × A2 × A3 × A4 × A5 × A6 × A7 × A8 × A9)) (R : A0 → A1 → A2 → A3 → A4 → A5 → A6 → A7 → A8 → A9 → Prop) : A0 × A1 × A2 × A3 × A4 × A5 × A6 × A7 × A8 × A9 := pk1 ne fun t => R (fs t) (fs (sn t)) (fs (sn (sn t))) (fs (sn (sn (sn t)))) (fs (sn (sn (sn (sn t))))) (fs (sn (sn (sn (sn (sn t)))))) (fs (sn (sn (sn (sn (sn (sn t))))))) (fs (sn (sn (sn (sn (sn (sn (sn t)))))))) (fs (sn (sn (sn (sn (sn (sn (sn (sn t))))))))) (sn (sn (sn (sn (sn (sn (sn (sn (sn t)))))))))
theorem all10 {A0 A1 A2 A3 A4 A5 A6 A7 A8 A9 : Type} (ne : Nonempty (A0 × A1 × A2 × A3 × A4 × A5 × A6 × A7 × A8 × A9)) {R : A0 → A1 → A2 → A3 → A4 → A5 → A6 → A7 → A8 → A9 → Prop} (h : R (fs (pk10 ne R)) (fs (sn (pk10 ne R))) (fs (sn (sn (pk10 ne R)))) (fs (sn (sn (sn (pk10 ne R))))) (fs (sn (sn (sn (sn (pk10 ne R)))))) (fs (sn (sn (sn (sn (sn (pk10 ne R))))))) (fs (sn (sn (sn (sn (sn (sn (pk10 ne R)))))))) (fs (sn (sn (sn (sn (sn (sn (sn (pk10 ne R))))))))) (fs (sn (sn (sn (sn (sn (sn (sn (sn (pk10 ne R)))))))))) (sn (sn (sn (sn (sn (sn (sn (sn (sn (pk10 ne R))))))))))) : ∀ x0 x1 x2 x3 x4 x5 x6 x7 x8 x9, R x0 x1 x2 x3 x4 x5 x6 x7 x8 x9 := fun x0 x1 x2 x3 x4 x5 x6 x7 x8 x9 => by with_unfolding_all exact all1 ne (R := fun t => R (fs t) (fs (sn t)) (fs (sn (sn t))) (fs (sn (sn (sn t)))) (fs (sn (sn (sn (sn t))))) (fs (sn (sn (sn (sn (sn t)))))) (fs (sn (sn (sn (sn (sn (sn t))))))) (fs (sn (sn (sn (sn (sn (sn (sn t)))))))) (fs (sn (sn (sn (sn (sn (sn (sn (sn t))))))))) (sn (sn (sn (sn (sn (sn (sn (sn (sn t)))))))))) h (x0, x1, x2, x3, x4, x5, x6, x7, x8, x9)
noncomputable def pk11 {A0 A1 A2 A3 A4 A5 A6 A7 A8 A9 A10 : Type} (ne : Nonempty (A0 × A1 × A2 × A3 × A4 × A5 × A6 × A7 × A8 × A9 × A10)) (R : A0 → A1 → A2 → A3 → A4 → A5 → A6 → A7 → A8 → A9 → A10 → Prop) : A0 × A1 × A2 × A3 × A4 × A5 × A6 × A7 × A8 × A9 × A10 := pk1 ne fun t => R (fs t) (fs (sn t)) (fs (sn (sn t))) (fs (sn (sn (sn t)))) (fs (sn (sn (sn (sn t))))) (fs (sn (sn (sn (sn (sn t)))))) (fs (sn (sn (sn (sn (sn (sn t))))))) (fs (sn (sn (sn (sn (sn (sn (sn t)))))))) (fs (sn (sn (sn (sn (sn (sn (sn (sn t))))))))) (fs (sn (sn (sn (sn (sn (sn (sn (sn (sn t)))))))))) (sn (sn (sn (sn (sn (sn (sn (sn (sn (sn t))))))))))
theorem all11 {A0 A1 A2 A3 A4 A5 A6 A7 A8 A9 A10 : Type} (ne : Nonempty (A0 × A1 × A2 × A3 × A4 × A5 × A6 × A7 × A8 × A9 × A10)) {R : A0 → A1 → A2 → A3 → A4 → A5 → A6 → A7 → A8 → A9 → A10 → Prop} (h : R (fs (pk11 ne R)) (fs (sn (pk11 ne R))) (fs (sn (sn (pk11 ne R)))) (fs (sn (sn (sn (pk11 ne R))))) (fs (sn (sn (sn (sn (pk11 ne R)))))) (fs (sn (sn (sn (sn (sn (pk11 ne R))))))) (fs (sn (sn (sn (sn (sn (sn (pk11 ne R)))))))) (fs (sn (sn (sn (sn (sn (sn (sn (pk11 ne R))))))))) (fs (sn (sn (sn (sn (sn (sn (sn (sn (pk11 ne R)))))))))) (fs (sn (sn (sn (sn (sn (sn (sn (sn (sn (pk11 ne R))))))))))) (sn (sn (sn (sn (sn (sn (sn (sn (sn (sn (pk11 ne R)))))))))))) : ∀ x0 x1 x2 x3 x4 x5 x6 x7 x8 x9 x10, R x0 x1 x2 x3 x4 x5 x6 x7 x8 x9 x10 := fun x0 x1 x2 x3 x4 x5 x6 x7 x8 x9 x10 => by with_unfolding_all exact all1 ne (R := fun t => R (fs t) (fs (sn t)) (fs (sn (sn t))) (fs (sn (sn (sn t)))) (fs (sn (sn (sn (sn t))))) (fs (sn (sn (sn (sn (sn t)))))) (fs (sn (sn (sn (sn (sn (sn t))))))) (fs (sn (sn (sn (sn (sn (sn (sn t)))))))) (fs (sn (sn (sn (sn (sn (sn (sn (sn t))))))))) (fs (sn (sn (sn (sn (sn (sn (sn (sn (sn t)))))))))) (sn (sn (sn (sn (sn (sn (sn (sn (sn (sn t))))))))))) h (x0, x1, x2, x3, x4, x5, x6, x7, x8, x9, x10)
noncomputable def pk12 {A0 A1 A2 A3 A4 A5 A6 A7 A8 A9 A10 A11 : Type} (ne : Nonempty (A0 × A1 × A2 × A3 × A4 × A5 × A6 × A7 × A8 × A9 × A10 × A11)) (R : A0 → A1 → A2 → A3 → A4 → A5 → A6 → A7 → A8 → A9 → A10 → A11 → Prop) : A0 × A1 × A2 × A3 × A4 × A5 × A6 × A7 × A8 × A9 × A10 × A11 := pk1 ne fun t => R (fs t) (fs (sn t)) (fs (sn (sn t))) (fs (sn (sn (sn t)))) (fs (sn (sn (sn (sn t))))) (fs (sn (sn (sn (sn (sn t)))))) (fs (sn (sn (sn (sn (sn (sn t))))))) (fs (sn (sn (sn (sn (sn (sn (sn t)))))))) (fs (sn (sn (sn (sn (sn (sn (sn (sn t))))))))) (fs (sn (sn (sn (sn (sn (sn (sn (sn (sn t)))))))))) (fs (sn (sn (sn (sn (sn (sn (sn (sn (sn (sn t))))))))))) (sn (sn (sn (sn (sn (sn (sn (sn (sn (sn (sn t)))))))))))
theorem all12 {A0 A1 A2 A3 A4 A5 A6 A7 A8 A9 A10 A11 : Type} (ne : Nonempty (A0 × A1 × A2 × A3 × A4 × A5 × A6 × A7 × A8 × A9 × A10 × A11)) {R : A0 → A1 → A2 → A3 → A4 → A5 → A6 → A7 → A8 → A9 → A10 → A11 → Prop} (h : R (fs (pk12 ne R)) (fs (sn (pk12 ne R))) (fs (sn (sn (pk12 ne R)))) (fs (sn (sn (sn (pk12 ne R))))) (fs (sn (sn (sn (sn (pk12 ne R)))))) (fs (sn (sn (sn (sn (sn (pk12 ne R))))))) (fs (sn (sn (sn (sn (sn (sn (pk12 ne R)))))))) (fs (sn (sn (sn (sn (sn (sn (sn (pk12 ne R))))))))) (fs (sn (sn (sn (sn (sn (sn (sn (sn (pk12 ne R)))))))))) (fs (sn (sn (sn (sn (sn (sn (sn (sn (sn (pk12 ne R))))))))))) (fs (sn (sn (sn (sn (sn (sn (sn (sn (sn (sn (pk12 ne R)))))))))))) (sn (sn (sn (sn (sn (sn (sn (sn (sn (sn (sn (pk12 ne R))))))))))))) : ∀ x0 x1 x2 x3 x4 x5 x6 x7 x8 x9 x10 x11, R x0 x1 x2 x3 x4 x5 x6 x7 x8 x9 x10 x11 := fun x0 x1 x2 x3 x4 x5 x6 x7 x8 x9 x10 x11 => by with_unfolding_all exact all1 ne (R := fun t => R (fs t) (fs (sn t)) (fs (sn (sn t))) (fs (sn (sn (sn t)))) (fs (sn (sn (sn (sn t))))) (fs (sn (sn (sn (sn (sn t)))))) (fs (sn (sn (sn (sn (sn (sn t))))))) (fs (sn (sn (sn (sn (sn (sn (sn t)))))))) (fs (sn (sn (sn (sn (sn (sn (sn (sn t))))))))) (fs (sn (sn (sn (sn (sn (sn (sn (sn (sn t)))))))))) (fs (sn (sn (sn (sn (sn (sn (sn (sn (sn (sn t))))))))))) (sn (sn (sn (sn (sn (sn (sn (sn (sn (sn (sn t)))))))))))) h (x0, x1, x2, x3, x4, x5, x6, x7, x8, x9, x10, x11)
noncomputable def pk13 {A0 A1 A2 A3 A4 A5 A6 A7 A8 A9 A10 A11 A12 : Type} (ne : Nonempty (A0 × A1 × A2 × A3 × A4 × A5 × A6 × A7 × A8 × A9 × A10 × A11 × A12)) (R : A0 → A1 → A2 → A3 → A4 → A5 → A6 → A7 → A8 → A9 → A10 → A11 → A12 → Prop) : A0 × A1 × A2 × A3 × A4 × A5 × A6 × A7 × A8 × A9 × A10 × A11 × A12 := pk1 ne fun t => R (fs t) (fs (sn t)) (fs (sn (sn t))) (fs (sn (sn (sn t)))) (fs (sn (sn (sn (sn t))))) (fs (sn (sn (sn (sn (sn t)))))) (fs (sn (sn (sn (sn (sn (sn t))))))) (fs (sn (sn (sn (sn (sn (sn (sn t)))))))) (fs (sn (sn (sn (sn (sn (sn (sn (sn t))))))))) (fs (sn (sn (sn (sn (sn (sn (sn (sn (sn t)))))))))) (fs (sn (sn (sn (sn (sn (sn (sn (sn (sn (sn t))))))))))) (fs (sn (sn (sn (sn (sn (sn (sn (sn (sn (sn (sn t)))))))))))) (sn (sn (sn (sn (sn (sn (sn (sn (sn (sn (sn (sn t))))))))))))
theorem all13 {A0 A1 A2 A3 A4 A5 A6 A7 A8 A9 A10 A11 A12 : Type} (ne : Nonempty (A0 × A1 × A2 × A3 × A4 × A5 × A6 × A7 × A8 × A9 × A10 × A11 × A12)) {R : A0 → A1 → A2 → A3 → A4 → A5 → A6 → A7 → A8 → A9 → A10 → A11 → A12 → Prop} (h : R (fs (pk13 ne R)) (fs (sn (pk13 ne R))) (fs (sn (sn (pk13 ne R)))) (fs (sn (sn (sn (pk13 ne R))))) (fs (sn (sn (sn (sn (pk13 ne R)))))) (fs (sn (sn (sn (sn (sn (pk13 ne R))))))) (fs (sn (sn (sn (sn (sn (sn (pk13 ne R)))))))) (fs (sn (sn (sn (sn (sn (sn (sn (pk13 ne R))))))))) (fs (sn (sn (sn (sn (sn (sn (sn (sn (pk13 ne R)))))))))) (fs (sn (sn (sn (sn (sn (sn (sn (sn (sn (pk13 ne R))))))))))) (fs (sn (sn (sn (sn (sn (sn (sn (sn (sn (sn (pk13 ne R)))))))))))) (fs (sn (sn (sn (sn (sn (sn (sn (sn (sn (sn (sn (pk13 ne R))))))))))))) (sn (sn (sn (sn (sn (sn (sn (sn (sn (sn (sn (sn (pk13 ne R)))))))))))))) : ∀ x0 x1 x2 x3 x4 x5 x6 x7 x8 x9 x10 x11 x12, R x0 x1 x2 x3 x4 x5 x6 x7 x8 x9 x10 x11 x12 := fun x0 x1 x2 x3 x4 x5 x6 x7 x8 x9 x10 x11 x12 => by with_unfolding_all exact all1 ne (R := fun t => R (fs t) (fs (sn t)) (fs (sn (sn t))) (fs (sn (sn (sn t)))) (fs (sn (sn (sn (sn t))))) (fs (sn (sn (sn (sn (sn t)))))) (fs (sn (sn (sn (sn (sn (sn t))))))) (fs (sn (sn (sn (sn (sn (sn (sn t)))))))) (fs (sn (sn (sn (sn (sn (sn (sn (sn t))))))))) (fs (sn (sn (sn (sn (sn (sn (sn (sn (sn t)))))))))) (fs (sn (sn (sn (sn (sn (sn (sn (sn (sn (sn t))))))))))) (fs (sn (sn (sn (sn (sn (sn (sn (sn (sn (sn (sn t)))))))))))) (sn (sn (sn (sn (sn (sn (sn (sn (sn (sn (sn (sn t))))))))))))) h (x0, x1, x2, x3, x4, x5, x6, x7, x8, x9, x10, x11, x12)
noncomputable def pk15 {A0 A1 A2 A3 A4 A5 A6 A7 A8 A9 A10 A11 A12 A13 A14 : Type} (ne : Nonempty (A0 × A1 × A2 × A3 × A4 × A5 × A6 × A7 × A8 × A9 × A10 × A11 × A12 × A13 × A14)) (R : A0 → A1 → A2 → A3 → A4 → A5 → A6 → A7 → A8 → A9 → A10 → A11 → A12 → A13 → A14 → Prop) : A0 × A1 × A2 × A3 × A4 × A5 × A6 × A7 × A8 × A9 × A10 × A11 × A12 × A13 × A14 := pk1 ne fun t => R (fs t) (fs (sn t)) (fs (sn (sn t))) (fs (sn (sn (sn t)))) (fs (sn (sn (sn (sn t))))) (fs (sn (sn (sn (sn (sn t)))))) (fs (sn (sn (sn (sn (sn (sn t))))))) (fs (sn (sn (sn (sn (sn (sn (sn t)))))))) (fs (sn (sn (sn (sn (sn (sn (sn (sn t))))))))) (fs (sn (sn (sn (sn (sn (sn (sn (sn (sn t)))))))))) (fs (sn (sn (sn (sn (sn (sn (sn (sn (sn (sn t))))))))))) (fs (sn (sn (sn (sn (sn (sn (sn (sn (sn (sn (sn t)))))))))))) (fs (sn (sn (sn (sn (sn (sn (sn (sn (sn (sn (sn (sn t))))))))))))) (fs (sn (sn (sn (sn (sn (sn (sn (sn (sn (sn (sn (sn (sn t)))))))))))))) (sn (sn (sn (sn (sn (sn (sn (sn (sn (sn (sn (sn (sn (sn t))))))))))))))
theorem all15 {A0 A1 A2 A3 A4 A5 A6 A7 A8 A9 A10 A11 A12 A13 A14 : Type} (ne : Nonempty (A0 × A1 × A2 × A3 × A4 × A5 × A6 × A7 × A8 × A9 × A10 × A11 × A12 × A13 × A14)) {R : A0 → A1 → A2 → A3 → A4 → A5 → A6 → A7 → A8 → A9 → A10 → A11 → A12 → A13 → A14 → Prop} (h : R (fs (pk15 ne R)) (fs (sn (pk15 ne R))) (fs (sn (sn (pk15 ne R)))) (fs (sn (sn (sn (pk15 ne R))))) (fs (sn (sn (sn (sn (pk15 ne R)))))) (fs (sn (sn (sn (sn (sn (pk15 ne R))))))) (fs (sn (sn (sn (sn (sn (sn (pk15 ne R)))))))) (fs (sn (sn (sn (sn (sn (sn (sn (pk15 ne R))))))))) (fs (sn (sn (sn (sn (sn (sn (sn (sn (pk15 ne R)))))))))) (fs (sn (sn (sn (sn (sn (sn (sn (sn (sn (pk15 ne R))))))))))) (fs (sn (sn (sn (sn (sn (sn (sn (sn (sn (sn (pk15 ne R)))))))))))) (fs (sn (sn (sn (sn (sn (sn (sn (sn (sn (sn (sn (pk15 ne R))))))))))))) (fs (sn (sn (sn (sn (sn (sn (sn (sn (sn (sn (sn (sn (pk15 ne R)))))))))))))) (fs (sn (sn (sn (sn (sn (sn (sn (sn (sn (sn (sn (sn (sn (pk15 ne R))))))))))))))) (sn (sn (sn (sn (sn (sn (sn (sn (sn (sn (sn (sn (sn (sn (pk15 ne R)))))))))))))))) : ∀ x0 x1 x2 x3 x4 x5 x6 x7 x8 x9 x10 x11 x12 x13 x14, R x0 x1 x2 x3 x4 x5 x6 x7 x8 x9 x10 x11 x12 x13 x14 := fun x0 x1 x2 x3 x4 x5 x6 x7 x8 x9 x10 x11 x12 x13 x14 => by with_unfolding_all exact all1 ne (R := fun t => R (fs t) (fs (sn t)) (fs (sn (sn t))) (fs (sn (sn (sn t)))) (fs (sn (sn (sn (sn t))))) (fs (sn (sn (sn (sn (sn t)))))) (fs (sn (sn (sn (sn (sn (sn t))))))) (fs (sn (sn (sn (sn (sn (sn (sn t)))))))) (fs (sn (sn (sn (sn (sn (sn (sn (sn t))))))))) (fs (sn (sn (sn (sn (sn (sn (sn (sn (sn t)))))))))) (fs (sn (sn (sn (sn (sn (sn (sn (sn (sn (sn t))))))))))) (fs (sn (sn (sn (sn (sn (sn (sn (sn (sn (sn (sn t)))))))))))) (fs (sn (sn (sn (sn (sn (sn (sn (sn (sn (sn (sn (sn t))))))))))))) (fs (sn (sn (sn (sn (sn (sn (sn (sn (sn (sn (sn (sn (sn t)))))))))))))) (sn (sn (sn (sn (sn (sn (sn (sn (sn (sn (sn (sn (sn (sn t))))))))))))))) h (x0, x1, x2, x3, x4, x5, x6, x7, x8, x9, x10, x11, x12, x13, x14)
noncomputable def pk16 {A0 A1 A2 A3 A4 A5 A6 A7 A8 A9 A10 A11 A12 A13 A14 A15 : Type} (ne : Nonempty (A0 × A1 × A2 × A3 × A4 × A5 × A6 × A7 × A8 × A9 × A10 × A11 × A12 × A13 × A14 × A15)) (R : A0 → A1 → A2 → A3 → A4 → A5 → A6 → A7 → A8 → A9 → A10 → A11 → A12 → A13 → A14 → A15 → Prop) : A0 × A1 × A2 × A3 × A4 × A5 × A6 × A7 × A8 × A9 × A10 × A11 × A12 × A13 × A14 × A15 := pk1 ne fun t => R (fs t) (fs (sn t)) (fs (sn (sn t))) (fs (sn (sn (sn t)))) (fs (sn (sn (sn (sn t))))) (fs (sn (sn (sn (sn (sn t)))))) (fs (sn (sn (sn (sn (sn (sn t))))))) (fs (sn (sn (sn (sn (sn (sn (sn t)))))))) (fs (sn (sn (sn (sn (sn (sn (sn (sn t))))))))) (fs (sn (sn (sn (sn (sn (sn (sn (sn (sn t)))))))))) (fs (sn (sn (sn (sn (sn (sn (sn (sn (sn (sn t))))))))))) (fs (sn (sn (sn (sn (sn (sn (sn (sn (sn (sn (sn t)))))))))))) (fs (sn (sn (sn (sn (sn (sn (sn (sn (sn (sn (sn (sn t))))))))))))) (fs (sn (sn (sn (sn (sn (sn (sn (sn (sn (sn (sn (sn (sn t)))))))))))))) (fs (sn (sn (sn (sn (sn (sn (sn (sn (sn (sn (sn (sn (sn (sn t))))))))))))))) (sn (sn (sn (sn (sn (sn (sn (sn (sn (sn (sn (sn (sn (sn (sn t)))))))))))))))
theorem all16 {A0 A1 A2 A3 A4 A5 A6 A7 A8 A9 A10 A11 A12 A13 A14 A15 : Type} (ne : Nonempty (A0 × A1 × A2 × A3 × A4 × A5 × A6 × A7 × A8 × A9 × A10 × A11 × A12 × A13 × A14 × A15)) {R : A0 → A1 → A2 → A3 → A4 → A5 → A6 → A7 → A8 → A9 → A10 → A11 → A12 → A13 → A14 → A15 → Prop} (h : R (fs (pk16 ne R)) (fs (sn (pk16 ne R))) (fs (sn (sn (pk16 ne R)))) (fs (sn (sn (sn (pk16 ne R))))) (fs (sn (sn (sn (sn (pk16 ne R)))))) (fs (sn (sn (sn (sn (sn (pk16 ne R))))))) (fs (sn (sn (sn (sn (sn (sn (pk16 ne R)))))))) (fs (sn (sn (sn (sn (sn (sn (sn (pk16 ne R))))))))) (fs (sn (sn (sn (sn (sn (sn (sn (sn (pk16 ne R)))))))))) (fs (sn (sn (sn (sn (sn (sn (sn (sn (sn (pk16 ne R))))))))))) (fs (sn (sn (sn (sn (sn (sn (sn (sn (sn (sn (pk16 ne R)))))))))))) (fs (sn (sn (sn (sn (sn (sn (sn (sn (sn (sn (sn (pk16 ne R))))))))))))) (fs (sn (sn (sn (sn (sn (sn (sn (sn (sn (sn (sn (sn (pk16 ne R)))))))))))))) (fs (sn (sn (sn (sn (sn (sn (sn (sn (sn (sn (sn (sn (sn (pk16 ne R))))))))))))))) (fs (sn (sn (sn (sn (sn (sn (sn (sn (sn (sn (sn (sn (sn (sn (pk16 ne R)))))))))))))))) (sn (sn (sn (sn (sn (sn (sn (sn (sn (sn (sn (sn (sn (sn (sn (pk16 ne R))))))))))))))))) : ∀ x0 x1 x2 x3 x4 x5 x6 x7 x8 x9 x10 x11 x12 x13 x14 x15, R x0 x1 x2 x3 x4 x5 x6 x7 x8 x9 x10 x11 x12 x13 x14 x15 := fun x0 x1 x2 x3 x4 x5 x6 x7 x8 x9 x10 x11 x12 x13 x14 x15 => by with_unfolding_all exact all1 ne (R := fun t => R (fs t) (fs (sn t)) (fs (sn (sn t))) (fs (sn (sn (sn t)))) (fs (sn (sn (sn (sn t))))) (fs (sn (sn (sn (sn (sn t)))))) (fs (sn (sn (sn (sn (sn (sn t))))))) (fs (sn (sn (sn (sn (sn (sn (sn t)))))))) (fs (sn (sn (sn (sn (sn (sn (sn (sn t))))))))) (fs (sn (sn (sn (sn (sn (sn (sn (sn (sn t)))))))))) (fs (sn (sn (sn (sn (sn (sn (sn (sn (sn (sn t))))))))))) (fs (sn (sn (sn (sn (sn (sn (sn (sn (sn (sn (sn t)))))))))))) (fs (sn (sn (sn (sn (sn (sn (sn (sn (sn (sn (sn (sn t))))))))))))) (fs (sn (sn (sn (sn (sn (sn (sn (sn (sn (sn (sn (sn (sn t)))))))))))))) (fs (sn (sn (sn (sn (sn (sn (sn (sn (sn (sn (sn (sn (sn (sn t))))))))))))))) (sn (sn (sn (sn (sn (sn (sn (sn (sn (sn (sn (sn (sn (sn (sn t)))))))))))))))) h (x0, x1, x2, x3, x4, x5, x6, x7, x8, x9, x10, x11, x12, x13, x14, x15)
noncomputable def pk18 {A0 A1 A2 A3 A4 A5 A6 A7 A8 A9 A10 A11 A12 A13 A14 A15 A16 A17 : Type} (ne : Nonempty (A0 × A1 × A2 × A3 × A4 × A5 × A6 × A7 × A8 × A9 × A10 × A11 × A12 × A13 × A14 × A15 × A16 × A17)) (R : A0 → A1 → A2 → A3 → A4 → A5 → A6 → A7 → A8 → A9 → A10 → A11 → A12 → A13 → A14 → A15 → A16 → A17 → Prop) : A0 × A1 × A2 × A3 × A4 × A5 × A6 × A7 × A8 × A9 × A10 × A11 × A12 × A13 × A14 × A15 × A16 × A17 := pk1 ne fun t => R (fs t) (fs (sn t)) (fs (sn (sn t))) (fs (sn (sn (sn t)))) (fs (sn (sn (sn (sn t))))) (fs (sn (sn (sn (sn (sn t)))))) (fs (sn (sn (sn (sn (sn (sn t))))))) (fs (sn (sn (sn (sn (sn (sn (sn t)))))))) (fs (sn (sn (sn (sn (sn (sn (sn (sn t))))))))) (fs (sn (sn (sn (sn (sn (sn (sn (sn (sn t)))))))))) (fs (sn (sn (sn (sn (sn (sn (sn (sn (sn (sn t))))))))))) (fs (sn (sn (sn (sn (sn (sn (sn (sn (sn (sn (sn t)))))))))))) (fs (sn (sn (sn (sn (sn (sn (sn (sn (sn (sn (sn (sn t))))))))))))) (fs (sn (sn (sn (sn (sn (sn (sn (sn (sn (sn (sn (sn (sn t)))))))))))))) (fs (sn (sn (sn (sn (sn (sn (sn (sn (sn (sn (sn (sn (sn (sn t))))))))))))))) (fs (sn (sn (sn (sn (sn (sn (sn (sn (sn (sn (sn (sn (sn (sn (sn t)))))))))))))))) (fs (sn (sn (sn (sn (sn (sn (sn (sn (sn (sn (sn (sn (sn (sn (sn (sn t))))))))))))))))) (sn (sn (sn (sn (sn (sn (sn (sn (sn (sn (sn (sn (sn (sn (sn (sn (sn t)))))))))))))))))
theorem all18 {A0 A1 A2 A3 A4 A5 A6 A7 A8 A9 A10 A11 A12 A13 A14 A15 A16 A17 : Type} (ne : Nonempty (A0 × A1 × A2 × A3 × A4 × A5 × A6 × A7 × A8 × A9 × A10 × A11 × A12 × A13 × A14 × A15 × A16 × A17)) {R : A0 → A1 → A2 → A3 → A4 → A5 → A6 → A7 → A8 → A9 → A10 → A11 → A12 → A13 → A14 → A15 → A16 → A17 → Prop} (h : R (fs (pk18 ne R)) (fs (sn (pk18 ne R))) (fs (sn (sn (pk18 ne R)))) (fs (sn (sn (sn (pk18 ne R))))) (fs (sn (sn (sn (sn (pk18 ne R)))))) (fs (sn (sn (sn (sn (sn (pk18 ne R))))))) (fs (sn (sn (sn (sn (sn (sn (pk18 ne R)))))))) (fs (sn (sn (sn (sn (sn (sn (sn (pk18 ne R))))))))) (fs (sn (sn (sn (sn (sn (sn (sn (sn (pk18 ne R)))))))))) (fs (sn (sn (sn (sn (sn (sn (sn (sn (sn (pk18 ne R))))))))))) (fs (sn (sn (sn (sn (sn (sn (sn (sn (sn (sn (pk18 ne R)))))))))))) (fs (sn (sn (sn (sn (sn (sn (sn (sn (sn (sn (sn (pk18 ne R))))))))))))) (fs (sn (sn (sn (sn (sn (sn (sn (sn (sn (sn (sn (sn (pk18 ne R)))))))))))))) (fs (sn (sn (sn (sn (sn (sn (sn (sn (sn (sn (sn (sn (sn (pk18 ne R))))))))))))))) (fs (sn (sn (sn (sn (sn (sn (sn (sn (sn (sn (sn (sn (sn (sn (pk18 ne R)))))))))))))))) (fs (sn (sn (sn (sn (sn (sn (sn (sn (sn (sn (sn (sn (sn (sn (sn (pk18 ne R))))))))))))))))) (fs (sn (sn (sn (sn (sn (sn (sn (sn (sn (sn (sn (sn (sn (sn (sn (sn (pk18 ne R)))))))))))))))))) (sn (sn (sn (sn (sn (sn (sn (sn (sn (sn (sn (sn (sn (sn (sn (sn (sn (pk18 ne R))))))))))))))))))) : ∀ x0 x1 x2 x3 x4 x5 x6 x7 x8 x9 x10 x11 x12 x13 x14 x15 x16 x17, R x0 x1 x2 x3 x4 x5 x6 x7 x8 x9 x10 x11 x12 x13 x14 x15 x16 x17 := fun x0 x1 x2 x3 x4 x5 x6 x7 x8 x9 x10 x11 x12 x13 x14 x15 x16 x17 => by with_unfolding_all exact all1 ne (R := fun t => R (fs t) (fs (sn t)) (fs (sn (sn t))) (fs (sn (sn (sn t)))) (fs (sn (sn (sn (sn t))))) (fs (sn (sn (sn (sn (sn t)))))) (fs (sn (sn (sn (sn (sn (sn t))))))) (fs (sn (sn (sn (sn (sn (sn (sn t)))))))) (fs (sn (sn (sn (sn (sn (sn (sn (sn t))))))))) (fs (sn (sn (sn (sn (sn (sn (sn (sn (sn t)))))))))) (fs (sn (sn (sn (sn (sn (sn (sn (sn (sn (sn t))))))))))) (fs (sn (sn (sn (sn (sn (sn (sn (sn (sn (sn (sn t)))))))))))) (fs (sn (sn (sn (sn (sn (sn (sn (sn (sn (sn (sn (sn t))))))))))))) (fs (sn (sn (sn (sn (sn (sn (sn (sn (sn (sn (sn (sn (sn t)))))))))))))) (fs (sn (sn (sn (sn (sn (sn (sn (sn (sn (sn (sn (sn (sn (sn t))))))))))))))) (fs (sn (sn (sn (sn (sn (sn (sn (sn (sn (sn (sn (sn (sn (sn (sn t)))))))))))))))) (fs (sn (sn (sn (sn (sn (sn (sn (sn (sn (sn (sn (sn (sn (sn (sn (sn t))))))))))))))))) (sn (sn (sn (sn (sn (sn (sn (sn (sn (sn (sn (sn (sn (sn (sn (sn (sn t)))))))))))))))))) h (x0, x1, x2, x3, x4, x5, x6, x7, x8, x9, x10, x11, x12, x13, x14, x15, x16, x17)
noncomputable def pk20 {A0 A1 A2 A3 A4 A5 A6 A7 A8 A9 A10 A11 A12 A13 A14 A15 A16 A17 A18 A19 : Type} (ne : Nonempty (A0 × A1 × A2 × A3 × A4 × A5 × A6 × A7 × A8 × A9 × A10 × A11 × A12 × A13 × A14 × A15 × A16 × A17 × A18 × A19)) (R : A0 → A1 → A2 → A3 → A4 → A5 → A6 → A7 → A8 → A9 → A10 → A11 → A12 → A13 → A14 → A15 → A16 → A17 → A18 → A19 → Prop) : A0 × A1 × A2 × A3 × A4 × A5 × A6 × A7 × A8 × A9 × A10 × A11 × A12 × A13 × A14 × A15 × A16 × A17 × A18 × A19 := pk1 ne fun t => R (fs t) (fs (sn t)) (fs (sn (sn t))) (fs (sn (sn (sn t)))) (fs (sn (sn (sn (sn t))))) (fs (sn (sn (sn (sn (sn t)))))) (fs (sn (sn (sn (sn (sn (sn t))))))) (fs (sn (sn (sn (sn (sn (sn (sn t)))))))) (fs (sn (sn (sn (sn (sn (sn (sn (sn t))))))))) (fs (sn (sn (sn (sn (sn (sn (sn (sn (sn t)))))))))) (fs (sn (sn (sn (sn (sn (sn (sn (sn (sn (sn t))))))))))) (fs (sn (sn (sn (sn (sn (sn (sn (sn (sn (sn (sn t)))))))))))) (fs (sn (sn (sn (sn (sn (sn (sn (sn (sn (sn (sn (sn t))))))))))))) (fs (sn (sn (sn (sn (sn (sn (sn (sn (sn (sn (sn (sn (sn t)))))))))))))) (fs (sn (sn (sn (sn (sn (sn (sn (sn (sn (sn (sn (sn (sn (sn t))))))))))))))) (fs (sn (sn (sn (sn (sn (sn (sn (sn (sn (sn (sn (sn (sn (sn (sn t)))))))))))))))) (fs (sn (sn (sn (sn (sn (sn (sn (sn (sn (sn (sn (sn (sn (sn (sn (sn t))))))))))))))))) (fs (sn (sn (sn (sn (sn (sn (sn (sn (sn (sn (sn (sn (sn (sn (sn (sn (sn t)))))))))))))))))) (fs (sn (sn (sn (sn (sn (sn (sn (sn (sn (sn (sn (sn (sn (sn (sn (sn (sn (sn t))))))))))))))))))) (sn (sn (sn (sn (sn (sn (sn (sn (sn (sn (sn (sn (sn (sn (sn (sn (sn (sn (sn t)))))))))))))))))))
theorem all20 {A0 A1 A2 A3 A4 A5 A6 A7 A8 A9 A10 A11 A12 A13 A14 A15 A16 A17 A18 A19 : Type} (ne : Nonempty (A0 × A1 × A2 × A3 × A4 × A5 × A6 × A7 × A8 × A9 × A10 × A11 × A12 × A13 × A14 × A15 × A16 × A17 × A18 × A19)) {R : A0 → A1 → A2 → A3 → A4 → A5 → A6 → A7 → A8 → A9 → A10 → A11 → A12 → A13 → A14 → A15 → A16 → A17 → A18 → A19 → Prop} (h : R (fs (pk20 ne R)) (fs (sn (pk20 ne R))) (fs (sn (sn (pk20 ne R)))) (fs (sn (sn (sn (pk20 ne R))))) (fs (sn (sn (sn (sn (pk20 ne R)))))) (fs (sn (sn (sn (sn (sn (pk20 ne R))))))) (fs (sn (sn (sn (sn (sn (sn (pk20 ne R)))))))) (fs (sn (sn (sn (sn (sn (sn (sn (pk20 ne R))))))))) (fs (sn (sn (sn (sn (sn (sn (sn (sn (pk20 ne R)))))))))) (fs (sn (sn (sn (sn (sn (sn (sn (sn (sn (pk20 ne R))))))))))) (fs (sn (sn (sn (sn (sn (sn (sn (sn (sn (sn (pk20 ne R)))))))))))) (fs (sn (sn (sn (sn (sn (sn (sn (sn (sn (sn (sn (pk20 ne R))))))))))))) (fs (sn (sn (sn (sn (sn (sn (sn (sn (sn (sn (sn (sn (pk20 ne R)))))))))))))) (fs (sn (sn (sn (sn (sn (sn (sn (sn (sn (sn (sn (sn (sn (pk20 ne R))))))))))))))) (fs (sn (sn (sn (sn (sn (sn (sn (sn (sn (sn (sn (sn (sn (sn (pk20 ne R)))))))))))))))) (fs (sn (sn (sn (sn (sn (sn (sn (sn (sn (sn (sn (sn (sn (sn (sn (pk20 ne R))))))))))))))))) (fs (sn (sn (sn (sn (sn (sn (sn (sn (sn (sn (sn (sn (sn (sn (sn (sn (pk20 ne R)))))))))))))))))) (fs (sn (sn (sn (sn (sn (sn (sn (sn (sn (sn (sn (sn (sn (sn (sn (sn (sn (pk20 ne R))))))))))))))))))) (fs (sn (sn (sn (sn (sn (sn (sn (sn (sn (sn (sn (sn (sn (sn (sn (sn (sn (sn (pk20 ne R)))))))))))))))))))) (sn (sn (sn (sn (sn (sn (sn (sn (sn (sn (sn (sn (sn (sn (sn (sn (sn (sn (sn (pk20 ne R))))))))))))))))))))) : ∀ x0 x1 x2 x3 x4 x5 x6 x7 x8 x9 x10 x11 x12 x13 x14 x15 x16 x17 x18 x19, R x0 x1 x2 x3 x4 x5 x6 x7 x8 x9 x10 x11 x12 x13 x14 x15 x16 x17 x18 x19 := fun x0 x1 x2 x3 x4 x5 x6 x7 x8 x9 x10 x11 x12 x13 x14 x15 x16 x17 x18 x19 => by with_unfolding_all exact all1 ne (R := fun t => R (fs t) (fs (sn t)) (fs (sn (sn t))) (fs (sn (sn (sn t)))) (fs (sn (sn (sn (sn t))))) (fs (sn (sn (sn (sn (sn t)))))) (fs (sn (sn (sn (sn (sn (sn t))))))) (fs (sn (sn (sn (sn (sn (sn (sn t)))))))) (fs (sn (sn (sn (sn (sn (sn (sn (sn t))))))))) (fs (sn (sn (sn (sn (sn (sn (sn (sn (sn t)))))))))) (fs (sn (sn (sn (sn (sn (sn (sn (sn (sn (sn t))))))))))) (fs (sn (sn (sn (sn (sn (sn (sn (sn (sn (sn (sn t)))))))))))) (fs (sn (sn (sn (sn (sn (sn (sn (sn (sn (sn (sn (sn t))))))))))))) (fs (sn (sn (sn (sn (sn (sn (sn (sn (sn (sn (sn (sn (sn t)))))))))))))) (fs (sn (sn (sn (sn (sn (sn (sn (sn (sn (sn (sn (sn (sn (sn t))))))))))))))) (fs (sn (sn (sn (sn (sn (sn (sn (sn (sn (sn (sn (sn (sn (sn (sn t)))))))))))))))) (fs (sn (sn (sn (sn (sn (sn (sn (sn (sn (sn (sn (sn (sn (sn (sn (sn t))))))))))))))))) (fs (sn (sn (sn (sn (sn (sn (sn (sn (sn (sn (sn (sn (sn (sn (sn (sn (sn t)))))))))))))))))) (fs (sn (sn (sn (sn (sn (sn (sn (sn (sn (sn (sn (sn (sn (sn (sn (sn (sn (sn t))))))))))))))))))) (sn (sn (sn (sn (sn (sn (sn (sn (sn (sn (sn (sn (sn (sn (sn (sn (sn (sn (sn t)))))))))))))))))))) h (x0, x1, x2, x3, x4, x5, x6, x7, x8, x9, x10, x11, x12, x13, x14, x15, x16, x17, x18, x19)
noncomputable def pk22 {A0 A1 A2 A3 A4 A5 A6 A7 A8 A9 A10 A11 A12 A13 A14 A15 A16 A17 A18 A19 A20 A21 : Type} (ne : Nonempty (A0 × A1 × A2 × A3 × A4 × A5 × A6 × A7 × A8 × A9 × A10 × A11 × A12 × A13 × A14 × A15 × A16 × A17 × A18 × A19 × A20 × A21)) (R : A0 → A1 → A2 → A3 → A4 → A5 → A6 → A7 → A8 → A9 → A10 → A11 → A12 → A13 → A14 → A15 → A16 → A17 → A18 → A19 → A20 → A21 → Prop) : A0 × A1 × A2 × A3 × A4 × A5 × A6 × A7 × A8 × A9 × A10 × A11 × A12 × A13 × A14 × A15 × A16 × A17 × A18 × A19 × A20 × A21 := pk1 ne fun t => R (fs t) (fs (sn t)) (fs (sn (sn t))) (fs (sn (sn (sn t)))) (fs (sn (sn (sn (sn t))))) (fs (sn (sn (sn (sn (sn t)))))) (fs (sn (sn (sn (sn (sn (sn t))))))) (fs (sn (sn (sn (sn (sn (sn (sn t)))))))) (fs (sn (sn (sn (sn (sn (sn (sn (sn t))))))))) (fs (sn (sn (sn (sn (sn (sn (sn (sn (sn t)))))))))) (fs (sn (sn (sn (sn (sn (sn (sn (sn (sn (sn t))))))))))) (fs (sn (sn (sn (sn (sn (sn (sn (sn (sn (sn (sn t)))))))))))) (fs (sn (sn (sn (sn (sn (sn (sn (sn (sn (sn (sn (sn t))))))))))))) (fs (sn (sn (sn (sn (sn (sn (sn (sn (sn (sn (sn (sn (sn t)))))))))))))) (fs (sn (sn (sn (sn (sn (sn (sn (sn (sn (sn (sn (sn (sn (sn t))))))))))))))) (fs (sn (sn (sn (sn (sn (sn (sn (sn (sn (sn (sn (sn (sn (sn (sn t)))))))))))))))) (fs (sn (sn (sn (sn (sn (sn (sn (sn (sn (sn (sn (sn (sn (sn (sn (sn t))))))))))))))))) (fs (sn (sn (sn (sn (sn (sn (sn (sn (sn (sn (sn (sn (sn (sn (sn (sn (sn t)))))))))))))))))) (fs (sn (sn (sn (sn (sn (sn (sn (sn (sn (sn (sn (sn (sn (sn (sn (sn (sn (sn t))))))))))))))))))) (fs (sn (sn (sn (sn (sn (sn (sn (sn (sn (sn (sn (sn (sn (sn (sn (sn (sn (sn (sn t)))))))))))))))))))) (fs (sn (sn (sn (sn (sn (sn (sn (sn (sn (sn (sn (sn (sn (sn (sn (sn (sn (sn (sn (sn t))))))))))))))))))))) (sn (sn (sn (sn (sn (sn (sn (sn (sn (sn (sn (sn (sn (sn (sn (sn (sn (sn (sn (sn (sn t)))))))))))))))))))))
theorem all22 {A0 A1 A2 A3 A4 A5 A6 A7 A8 A9 A10 A11 A12 A13 A14 A15 A16 A17 A18 A19 A20 A21 : Type} (ne : Nonempty (A0 × A1 × A2 × A3 × A4 × A5 × A6 × A7 × A8 × A9 × A10 × A11 × A12 × A13 × A14 × A15 × A16 × A17 × A18 × A19 × A20 × A21)) {R : A0 → A1 → A2 → A3 → A4 → A5 → A6 → A7 → A8 → A9 → A10 → A11 → A12 → A13 → A14 → A15 → A16 → A17 → A18 → A19 → A20 → A21 → Prop} (h : R (fs (pk22 ne R)) (fs (sn (pk22 ne R))) (fs (sn (sn (pk22 ne R)))) (fs (sn (sn (sn (pk22 ne R))))) (fs (sn (sn (sn (sn (pk22 ne R)))))) (fs (sn (sn (sn (sn (sn (pk22 ne R))))))) (fs (sn (sn (sn (sn (sn (sn (pk22 ne R)))))))) (fs (sn (sn (sn (sn (sn (sn (sn (pk22 ne R))))))))) (fs (sn (sn (sn (sn (sn (sn (sn (sn (pk22 ne R)))))))))) (fs (sn (sn (sn (sn (sn (sn (sn (sn (sn (pk22 ne R))))))))))) (fs (sn (sn (sn (sn (sn (sn (sn (sn (sn (sn (pk22 ne R)))))))))))) (fs (sn (sn (sn (sn (sn (sn (sn (sn (sn (sn (sn (pk22 ne R))))))))))))) (fs (sn (sn (sn (sn (sn (sn (sn (sn (sn (sn (sn (sn (pk22 ne R)))))))))))))) (fs (sn (sn (sn (sn (sn (sn (sn (sn (sn (sn (sn (sn (sn (pk22 ne R))))))))))))))) (fs (sn (sn (sn (sn (sn (sn (sn (sn (sn (sn (sn (sn (sn (sn (pk22 ne R)))))))))))))))) (fs (sn (sn (sn (sn (sn (sn (sn (sn (sn (sn (sn (sn (sn (sn (sn (pk22 ne R))))))))))))))))) (fs (sn (sn (sn (sn (sn (sn (sn (sn (sn (sn (sn (sn (sn (sn (sn (sn (pk22 ne R)))))))))))))))))) (fs (sn (sn (sn (sn (sn (sn (sn (sn (sn (sn (sn (sn (sn (sn (sn (sn (sn (pk22 ne R))))))))))))))))))) (fs (sn (sn (sn (sn (sn (sn (sn (sn (sn (sn (sn (sn (sn (sn (sn (sn (sn (sn (pk22 ne R)))))))))))))))))))) (fs (sn (sn (sn (sn (sn (sn (sn (sn (sn (sn (sn (sn (sn (sn (sn (sn (sn (sn (sn (pk22 ne R))))))))))))))))))))) (fs (sn (sn (sn (sn (sn (sn (sn (sn (sn (sn (sn (sn (sn (sn (sn (sn (sn (sn (sn (sn (pk22 ne R)))))))))))))))))))))) (sn (sn (sn (sn (sn (sn (sn (sn (sn (sn (sn (sn (sn (sn (sn (sn (sn (sn (sn (sn (sn (pk22 ne R))))))))))))))))))))))) : ∀ x0 x1 x2 x3 x4 x5 x6 x7 x8 x9 x10 x11 x12 x13 x14 x15 x16 x17 x18 x19 x20 x21, R x0 x1 x2 x3 x4 x5 x6 x7 x8 x9 x10 x11 x12 x13 x14 x15 x16 x17 x18 x19 x20 x21 := fun x0 x1 x2 x3 x4 x5 x6 x7 x8 x9 x10 x11 x12 x13 x14 x15 x16 x17 x18 x19 x20 x21 => by with_unfolding_all exact all1 ne (R := fun t => R (fs t) (fs (sn t)) (fs (sn (sn t))) (fs (sn (sn (sn t)))) (fs (sn (sn (sn (sn t))))) (fs (sn (sn (sn (sn (sn t)))))) (fs (sn (sn (sn (sn (sn (sn t))))))) (fs (sn (sn (sn (sn (sn (sn (sn t)))))))) (fs (sn (sn (sn (sn (sn (sn (sn (sn t))))))))) (fs (sn (sn (sn (sn (sn (sn (sn (sn (sn t)))))))))) (fs (sn (sn (sn (sn (sn (sn (sn (sn (sn (sn t))))))))))) (fs (sn (sn (sn (sn (sn (sn (sn (sn (sn (sn (sn t)))))))))))) (fs (sn (sn (sn (sn (sn (sn (sn (sn (sn (sn (sn (sn t))))))))))))) (fs (sn (sn (sn (sn (sn (sn (sn (sn (sn (sn (sn (sn (sn t)))))))))))))) (fs (sn (sn (sn (sn (sn (sn (sn (sn (sn (sn (sn (sn (sn (sn t))))))))))))))) (fs (sn (sn (sn (sn (sn (sn (sn (sn (sn (sn (sn (sn (sn (sn (sn t)))))))))))))))) (fs (sn (sn (sn (sn (sn (sn (sn (sn (sn (sn (sn (sn (sn (sn (sn (sn t))))))))))))))))) (fs (sn (sn (sn (sn (sn (sn (sn (sn (sn (sn (sn (sn (sn (sn (sn (sn (sn t)))))))))))))))))) (fs (sn (sn (sn (sn (sn (sn (sn (sn (sn (sn (sn (sn (sn (sn (sn (sn (sn (sn t))))))))))))))))))) (fs (sn (sn (sn (sn (sn (sn (sn (sn (sn (sn (sn (sn (sn (sn (sn (sn (sn (sn (sn t)))))))))))))))))))) (fs (sn (sn (sn (sn (sn (sn (sn (sn (sn (sn (sn (sn (sn (sn (sn (sn (sn (sn (sn (sn t))))))))))))))))))))) (sn (sn (sn (sn (sn (sn (sn (sn (sn (sn (sn (sn (sn (sn (sn (sn (sn (sn (sn (sn (sn t)))))))))))))))))))))) h (x0, x1, x2, x3, x4, x5, x6, x7, x8, x9, x10, x11, x12, x13, x14, x15, x16, x17, x18, x19, x20, x21)
noncomputable def pk35 {A0 A1 A2 A3 A4 A5 A6 A7 A8 A9 A10 A11 A12 A13 A14 A15 A16 A17 A18 A19 A20 A21 A22 A23 A24 A25 A26 A27 A28 A29 A30 A31 A32 A33 A34 : Type} (ne : Nonempty (A0 × A1 × A2 × A3 × A4 × A5 × A6 × A7 × A8 × A9 × A10 × A11 × A12 × A13 × A14 × A15 × A16 × A17 × A18 × A19 × A20 × A21 × A22 × A23 × A24 × A25 × A26 × A27 × A28 × A29 × A30 × A31 × A32 × A33 × A34)) (R : A0 → A1 → A2 → A3 → A4 → A5 → A6 → A7 → A8 → A9 → A10 → A11 → A12 → A13 → A14 → A15 → A16 → A17 → A18 → A19 → A20 → A21 → A22 → A23 → A24 → A25 → A26 → A27 → A28 → A29 → A30 → A31 → A32 → A33 → A34 → Prop) : A0 × A1 × A2 × A3 × A4 × A5 × A6 × A7 × A8 × A9 × A10 × A11 × A12 × A13 × A14 × A15 × A16 × A17 × A18 × A19 × A20 × A21 × A22 × A23 × A24 × A25 × A26 × A27 × A28 × A29 × A30 × A31 × A32 × A33 × A34 := pk1 ne fun t => R (fs t) (fs (sn t)) (fs (sn (sn t))) (fs (sn (sn (sn t)))) (fs (sn (sn (sn (sn t))))) (fs (sn (sn (sn (sn (sn t)))))) (fs (sn (sn (sn (sn (sn (sn t))))))) (fs (sn (sn (sn (sn (sn (sn (sn t)))))))) (fs (sn (sn (sn (sn (sn (sn (sn (sn t))))))))) (fs (sn (sn (sn (sn (sn (sn (sn (sn (sn t)))))))))) (fs (sn (sn (sn (sn (sn (sn (sn (sn (sn (sn t))))))))))) (fs (sn (sn (sn (sn (sn (sn (sn (sn (sn (sn (sn t)))))))))))) (fs (sn (sn (sn (sn (sn (sn (sn (sn (sn (sn (sn (sn t))))))))))))) (fs (sn (sn (sn (sn (sn (sn (sn (sn (sn (sn (sn (sn (sn t)))))))))))))) (fs (sn (sn (sn (sn (sn (sn (sn (sn (sn (sn (sn (sn (sn (sn t))))))))))))))) (fs (sn (sn (sn (sn (sn (sn (sn (sn (sn (sn (sn (sn (sn (sn (sn t)))))))))))))))) (fs (sn (sn (sn (sn (sn (sn (sn (sn (sn (sn (sn (sn (sn (sn (sn (sn t))))))))))))))))) (fs (sn (sn (sn (sn (sn (sn (sn (sn (sn (sn (sn (sn (sn (sn (sn (sn (sn t)))))))))))))))))) (fs (sn (sn (sn (sn (sn (sn (sn (sn (sn (sn (sn (sn (sn (sn (sn (sn (sn (sn t))))))))))))))))))) (fs (sn (sn (sn (sn (sn (sn (sn (sn (sn (sn (sn (sn (sn (sn (sn (sn (sn (sn (sn t)))))))))))))))))))) (fs (sn (sn (sn (sn (sn (sn (sn (sn (sn (sn (sn (sn (sn (sn (sn (sn (sn (sn (sn (sn t))))))))))))))))))))) (fs (sn (sn (sn (sn (sn (sn (sn (sn (sn (sn (sn (sn (sn (sn (sn (sn (sn (sn (sn (sn (sn t)))))))))))))))))))))) (fs (sn (sn (sn (sn (sn (sn (sn (sn (sn (sn (sn (sn (sn (sn (sn (sn (sn (sn (sn (sn (sn (sn t))))))))))))))))))))))) (fs (sn (sn (sn (sn (sn (sn (sn (sn (sn (sn (sn (sn (sn (sn (sn (sn (sn (sn (sn (sn (sn (sn (sn t)))))))))))))))))))))))) (fs (sn (sn (sn (sn (sn (sn (sn (sn (sn (sn (sn (sn (sn (sn (sn (sn (sn (sn (sn (sn (sn (sn (sn (sn t))))))))))))))))))))))))) (fs (sn (sn (sn (sn (sn (sn (sn (sn (sn (sn (sn (sn (sn (sn (sn (sn (sn (sn (sn (sn (sn (sn (sn (sn (sn t)))))))))))))))))))))))))) (fs (sn (sn (sn (sn (sn (sn (sn (sn (sn (sn (sn (sn (sn (sn (sn (sn (sn (sn (sn (sn (sn (sn (sn (sn (sn (sn t))))))))))))))))))))))))))) (fs (sn (sn (sn (sn (sn (sn (sn (sn (sn (sn (sn (sn (sn (sn (sn (sn (sn (sn (sn (sn (sn (sn (sn (sn (sn (sn (sn t)))))))))))))))))))))))))))) (fs (sn (sn (sn (sn (sn (sn (sn (sn (sn (sn (sn (sn (sn (sn (sn (sn (sn (sn (sn (sn (sn (sn (sn (sn (sn (sn (sn (sn t))))))))))))))))))))))))))))) (fs (sn (sn (sn (sn (sn (sn (sn (sn (sn (sn (sn (sn (sn (sn (sn (sn (sn (sn (sn (sn (sn (sn (sn (sn (sn (sn (sn (sn (sn t)))))))))))))))))))))))))))))) (fs (sn (sn (sn (sn (sn (sn (sn (sn (sn (sn (sn (sn (sn (sn (sn (sn (sn (sn (sn (sn (sn (sn (sn (sn (sn (sn (sn (sn (sn (sn t))))))))))))))))))))))))))))))) (fs (sn (sn (sn (sn (sn (sn (sn (sn (sn (sn (sn (sn (sn (sn (sn (sn (sn (sn (sn (sn (sn (sn (sn (sn (sn (sn (sn (sn (sn (sn (sn t)))))))))))))))))))))))))))))))) (fs (sn (sn (sn (sn (sn (sn (sn (sn (sn (sn (sn (sn (sn (sn (sn (sn (sn (sn (sn (sn (sn (sn (sn (sn (sn (sn (sn (sn (sn (sn (sn (sn t))))))))))))))))))))))))))))))))) (fs (sn (sn (sn (sn (sn (sn (sn (sn (sn (sn (sn (sn (sn (sn (sn (sn (sn (sn (sn (sn (sn (sn (sn (sn (sn (sn (sn (sn (sn (sn (sn (sn (sn t)))))))))))))))))))))))))))))))))) (sn (sn (sn (sn (sn (sn (sn (sn (sn (sn (sn (sn (sn (sn (sn (sn (sn (sn (sn (sn (sn (sn (sn (sn (sn (sn (sn (sn (sn (sn (sn (sn (sn (sn t))))))))))))))))))))))))))))))))))
theorem all35 {A0 A1 A2 A3 A4 A5 A6 A7 A8 A9 A10 A11 A12 A13 A14 A15 A16 A17 A18 A19 A20 A21 A22 A23 A24 A25 A26 A27 A28 A29 A30 A31 A32 A33 A34 : Type} (ne : Nonempty (A0 × A1 × A2 × A3 × A4 × A5 × A6 × A7 × A8 × A9 × A10 × A11 × A12 × A13 × A14 × A15 × A16 × A17 × A18 × A19 × A20 × A21 × A22 × A23 × A24 × A25 × A26 × A27 × A28 × A29 × A30 × A31 × A32 × A33 × A34)) {R : A0 → A1 → A2 → A3 → A4 → A5 → A6 → A7 → A8 → A9 → A10 → A11 → A12 → A13 → A14 → A15 → A16 → A17 → A18 → A19 → A20 → A21 → A22 → A23 → A24 → A25 → A26 → A27 → A28 → A29 → A30 → A31 → A32 → A33 → A34 → Prop} (h : R (fs (pk35 ne R)) (fs (sn (pk35 ne R))) (fs (sn (sn (pk35 ne R)))) (fs (sn (sn (sn (pk35 ne R))))) (fs (sn (sn (sn (sn (pk35 ne R)))))) (fs (sn (sn (sn (sn (sn (pk35 ne R))))))) (fs (sn (sn (sn (sn (sn (sn (pk35 ne R)))))))) (fs (sn (sn (sn (sn (sn (sn (sn (pk35 ne R))))))))) (fs (sn (sn (sn (sn (sn (sn (sn (sn (pk35 ne R)))))))))) (fs (sn (sn (sn (sn (sn (sn (sn (sn (sn (pk35 ne R))))))))))) (fs (sn (sn (sn (sn (sn (sn (sn (sn (sn (sn (pk35 ne R)))))))))))) (fs (sn (sn (sn (sn (sn (sn (sn (sn (sn (sn (sn (pk35 ne R))))))))))))) (fs (sn (sn (sn (sn (sn (sn (sn (sn (sn (sn (sn (sn (pk35 ne R)))))))))))))) (fs (sn (sn (sn (sn (sn (sn (sn (sn (sn (sn (sn (sn (sn (pk35 ne R))))))))))))))) (fs (sn (sn (sn (sn (sn (sn (sn (sn (sn (sn (sn (sn (sn (sn (pk35 ne R)))))))))))))))) (fs (sn (sn (sn (sn (sn (sn (sn (sn (sn (sn (sn (sn (sn (sn (sn (pk35 ne R))))))))))))))))) (fs (sn (sn (sn (sn (sn (sn (sn (sn (sn (sn (sn (sn (sn (sn (sn (sn (pk35 ne R)))))))))))))))))) (fs (sn (sn (sn (sn (sn (sn (sn (sn (sn (sn (sn (sn (sn (sn (sn (sn (sn (pk35 ne R))))))))))))))))))) (fs (sn (sn (sn (sn (sn (sn (sn (sn (sn (sn (sn (sn (sn (sn (sn (sn (sn (sn (pk35 ne R)))))))))))))))))))) (fs (sn (sn (sn (sn (sn (sn (sn (sn (sn (sn (sn (sn (sn (sn (sn (sn (sn (sn (sn (pk35 ne R))))))))))))))))))))) (fs (sn (sn (sn (sn (sn (sn (sn (sn (sn (sn (sn (sn (sn (sn (sn (sn (sn (sn (sn (sn (pk35 ne R)))))))))))))))))))))) (fs (sn (sn (sn (sn (sn (sn (sn (sn (sn (sn (sn (sn (sn (sn (sn (sn (sn (sn (sn (sn (sn (pk35 ne R))))))))))))))))))))))) (fs (sn (sn (sn (sn (sn (sn (sn (sn (sn (sn (sn (sn (sn (sn (sn (sn (sn (sn (sn (sn (sn (sn (pk35 ne R)))))))))))))))))))))))) (fs (sn (sn (sn (sn (sn (sn (sn (sn (sn (sn (sn (sn (sn (sn (sn (sn (sn (sn (sn (sn (sn (sn (sn (pk35 ne R))))))))))))))))))))))))) (fs (sn (sn (sn (sn (sn (sn (sn (sn (sn (sn (sn (sn (sn (sn (sn (sn (sn (sn (sn (sn (sn (sn (sn (sn (pk35 ne R)))))))))))))))))))))))))) (fs (sn (sn (sn (sn (sn (sn (sn (sn (sn (sn (sn (sn (sn (sn (sn (sn (sn (sn (sn (sn (sn (sn (sn (sn (sn (pk35 ne R))))))))))))))))))))))))))) (fs (sn (sn (sn (sn (sn (sn (sn (sn (sn (sn (sn (sn (sn (sn (sn (sn (sn (sn (sn (sn (sn (sn (sn (sn (sn (sn (pk35 ne R)))))))))))))))))))))))))))) (fs (sn (sn (sn (sn (sn (sn (sn (sn (sn (sn (sn (sn (sn (sn (sn (sn (sn (sn (sn (sn (sn (sn (sn (sn (sn (sn (sn (pk35 ne R))))))))))))))))))))))))))))) (fs (sn (sn (sn (sn (sn (sn (sn (sn (sn (sn (sn (sn (sn (sn (sn (sn (sn (sn (sn (sn (sn (sn (sn (sn (sn (sn (sn (sn (pk35 ne R)))))))))))))))))))))))))))))) (fs (sn (sn (sn (sn (sn (sn (sn (sn (sn (sn (sn (sn (sn (sn (sn (sn (sn (sn (sn (sn (sn (sn (sn (sn (sn (sn (sn (sn (sn (pk35 ne R))))))))))))))))))))))))))))))) (fs (sn (sn (sn (sn (sn (sn (sn (sn (sn (sn (sn (sn (sn (sn (sn (sn (sn (sn (sn (sn (sn (sn (sn (sn (sn (sn (sn (sn (sn (sn (pk35 ne R)))))))))))))))))))))))))))))))) (fs (sn (sn (sn (sn (sn (sn (sn (sn (sn (sn (sn (sn (sn (sn (sn (sn (sn (sn (sn (sn (sn (sn (sn (sn (sn (sn (sn (sn (sn (sn (sn (pk35 ne R))))))))))))))))))))))))))))))))) (fs (sn (sn (sn (sn (sn (sn (sn (sn (sn (sn (sn (sn (sn (sn (sn (sn (sn (sn (sn (sn (sn (sn (sn (sn (sn (sn (sn (sn (sn (sn (sn (sn (pk35 ne R)))))))))))))))))))))))))))))))))) (fs (sn (sn (sn (sn (sn (sn (sn (sn (sn (sn (sn (sn (sn (sn (sn (sn (sn (sn (sn (sn (sn (sn (sn (sn (sn (sn (sn (sn (sn (sn (sn (sn (sn (pk35 ne R))))))))))))))))))))))))))))))))))) (sn (sn (sn (sn (sn (sn (sn (sn (sn (sn (sn (sn (sn (sn (sn (sn (sn (sn (sn (sn (sn (sn (sn (sn (sn (sn (sn (sn (sn (sn (sn (sn (sn (sn (pk35 ne R)))))))))))))))))))))))))))))))))))) : ∀ x0 x1 x2 x3 x4 x5 x6 x7 x8 x9 x10 x11 x12 x13 x14 x15 x16 x17 x18 x19 x20 x21 x22 x23 x24 x25 x26 x27 x28 x29 x30 x31 x32 x33 x34, R x0 x1 x2 x3 x4 x5 x6 x7 x8 x9 x10 x11 x12 x13 x14 x15 x16 x17 x18 x19 x20 x21 x22 x23 x24 x25 x26 x27 x28 x29 x30 x31 x32 x33 x34 := fun x0 x1 x2 x3 x4 x5 x6 x7 x8 x9 x10 x11 x12 x13 x14 x15 x16 x17 x18 x19 x20 x21 x22 x23 x24 x25 x26 x27 x28 x29 x30 x31 x32 x33 x34 => by with_unfolding_all exact all1 ne (R := fun t => R (fs t) (fs (sn t)) (fs (sn (sn t))) (fs (sn (sn (sn t)))) (fs (sn (sn (sn (sn t))))) (fs (sn (sn (sn (sn (sn t)))))) (fs (sn (sn (sn (sn (sn (sn t))))))) (fs (sn (sn (sn (sn (sn (sn (sn t)))))))) (fs (sn (sn (sn (sn (sn (sn (sn (sn t))))))))) (fs (sn (sn (sn (sn (sn (sn (sn (sn (sn t)))))))))) (fs (sn (sn (sn (sn (sn (sn (sn (sn (sn (sn t))))))))))) (fs (sn (sn (sn (sn (sn (sn (sn (sn (sn (sn (sn t)))))))))))) (fs (sn (sn (sn (sn (sn (sn (sn (sn (sn (sn (sn (sn t))))))))))))) (fs (sn (sn (sn (sn (sn (sn (sn (sn (sn (sn (sn (sn (sn t)))))))))))))) (fs (sn (sn (sn (sn (sn (sn (sn (sn (sn (sn (sn (sn (sn (sn t))))))))))))))) (fs (sn (sn (sn (sn (sn (sn (sn (sn (sn (sn (sn (sn (sn (sn (sn t)))))))))))))))) (fs (sn (sn (sn (sn (sn (sn (sn (sn (sn (sn (sn (sn (sn (sn (sn (sn t))))))))))))))))) (fs (sn (sn (sn (sn (sn (sn (sn (sn (sn (sn (sn (sn (sn (sn (sn (sn (sn t)))))))))))))))))) (fs (sn (sn (sn (sn (sn (sn (sn (sn (sn (sn (sn (sn (sn (sn (sn (sn (sn (sn t))))))))))))))))))) (fs (sn (sn (sn (sn (sn (sn (sn (sn (sn (sn (sn (sn (sn (sn (sn (sn (sn (sn (sn t)))))))))))))))))))) (fs (sn (sn (sn (sn (sn (sn (sn (sn (sn (sn (sn (sn (sn (sn (sn (sn (sn (sn (sn (sn t))))))))))))))))))))) (fs (sn (sn (sn (sn (sn (sn (sn (sn (sn (sn (sn (sn (sn (sn (sn (sn (sn (sn (sn (sn (sn t)))))))))))))))))))))) (fs (sn (sn (sn (sn (sn (sn (sn (sn (sn (sn (sn (sn (sn (sn (sn (sn (sn (sn (sn (sn (sn (sn t))))))))))))))))))))))) (fs (sn (sn (sn (sn (sn (sn (sn (sn (sn (sn (sn (sn (sn (sn (sn (sn (sn (sn (sn (sn (sn (sn (sn t)))))))))))))))))))))))) (fs (sn (sn (sn (sn (sn (sn (sn (sn (sn (sn (sn (sn (sn (sn (sn (sn (sn (sn (sn (sn (sn (sn (sn (sn t))))))))))))))))))))))))) (fs (sn (sn (sn (sn (sn (sn (sn (sn (sn (sn (sn (sn (sn (sn (sn (sn (sn (sn (sn (sn (sn (sn (sn (sn (sn t)))))))))))))))))))))))))) (fs (sn (sn (sn (sn (sn (sn (sn (sn (sn (sn (sn (sn (sn (sn (sn (sn (sn (sn (sn (sn (sn (sn (sn (sn (sn (sn t))))))))))))))))))))))))))) (fs (sn (sn (sn (sn (sn (sn (sn (sn (sn (sn (sn (sn (sn (sn (sn (sn (sn (sn (sn (sn (sn (sn (sn (sn (sn (sn (sn t)))))))))))))))))))))))))))) (fs (sn (sn (sn (sn (sn (sn (sn (sn (sn (sn (sn (sn (sn (sn (sn (sn (sn (sn (sn (sn (sn (sn (sn (sn (sn (sn (sn (sn t))))))))))))))))))))))))))))) (fs (sn (sn (sn (sn (sn (sn (sn (sn (sn (sn (sn (sn (sn (sn (sn (sn (sn (sn (sn (sn (sn (sn (sn (sn (sn (sn (sn (sn (sn t)))))))))))))))))))))))))))))) (fs (sn (sn (sn (sn (sn (sn (sn (sn (sn (sn (sn (sn (sn (sn (sn (sn (sn (sn (sn (sn (sn (sn (sn (sn (sn (sn (sn (sn (sn (sn t))))))))))))))))))))))))))))))) (fs (sn (sn (sn (sn (sn (sn (sn (sn (sn (sn (sn (sn (sn (sn (sn (sn (sn (sn (sn (sn (sn (sn (sn (sn (sn (sn (sn (sn (sn (sn (sn t)))))))))))))))))))))))))))))))) (fs (sn (sn (sn (sn (sn (sn (sn (sn (sn (sn (sn (sn (sn (sn (sn (sn (sn (sn (sn (sn (sn (sn (sn (sn (sn (sn (sn (sn (sn (sn (sn (sn t))))))))))))))))))))))))))))))))) (fs (sn (sn (sn (sn (sn (sn (sn (sn (sn (sn (sn (sn (sn (sn (sn (sn (sn (sn (sn (sn (sn (sn (sn (sn (sn (sn (sn (sn (sn (sn (sn (sn (sn t)))))))))))))))))))))))))))))))))) (sn (sn (sn (sn (sn (sn (sn (sn (sn (sn (sn (sn (sn (sn (sn (sn (sn (sn (sn (sn (sn (sn (sn (sn (sn (sn (sn (sn (sn (sn (sn (sn (sn (sn t))))))))))))))))))))))))))))))))))) h (x0, x1, x2, x3, x4, x5, x6, x7, x8, x9, x10, x11, x12, x13, x14, x15, x16, x17, x18, x19, x20, x21, x22, x23, x24, x25, x26, x27, x28, x29, x30, x31, x32, x33, x34)
theorem alA3 {α β γ : Type} (ne : Nonempty (α × β × γ)) {R : α → β → γ → Prop} (h : A3 R (fs (pk3 ne R)) (fs (sn (pk3 ne R))) (sn (sn (pk3 ne R)))) : ∀ x y z, R x y z := all3 ne h
end Mine
end

section
set_option linter.all false
set_option compiler.extract_closed false
local macro_rules
  | `(tactic| intro $xs:term*) => Mine.mIn xs.raw
  | `(tactic| obtain $pat:rcasesPatMed := $e:term) => Mine.mOb pat e
  | `(tactic| obtain $pat:rcasesPatMed : $ty := $e:term) => `(tactic| obtain $pat := ($e : $ty))
  | `(tactic| rintro $xs:rintroPat*) => Mine.mRin xs.raw
namespace Mine
theorem words_eps : True := by
  (k_with "m:eps ne" => first | exact Mine.ne_nat | exact Mine.ne_heap | exact Mine.ne_val | exact Mine.ne_list | exact Mine.ne_str | exact Mine.ne_obj | exact Mine.ne_arr | exact Mine.ne_opt | exact Mine.ne_shared | exact Mine.ne_world | exact Mine.ne_around | exact Mine.ne_drawn | exact Mine.ne_pp | (refine Mine.ne_fn ?_; k_extra "m:eps ne") | (refine Mine.ne_prod ?_ ?_ <;> k_extra "m:eps ne") | infer_instance | exact ⟨PySem.Expr.Name (PySem.Str.ofString "") default⟩ | exact ⟨{ scope := default, locals := 0, globals := 0, cells := [] }⟩ | exact ⟨.next⟩)
  (k_with "m:off" => fail_if_success (k_extra "m:on"))
  (k_with "m:eps" => (case ne => k_extra "m:eps ne"))
  (k_with "m:ob0" => (with_reducible refine' Mine.ex_use ?ne ?_ ?_); rotate_left 3)
  (k_with "m:ob2" => generalize Mine.epsi _ _ = hp9; revert hp9)
  (k_with "m:all 1" => (with_reducible refine no_implicit_lambda% (Mine.all1 ?ne ?_)); k_extra "m:eps")
  (k_with "m:in 1" => k_extra "m:all 1"; generalize Mine.pk1 _ _ = h0; revert h0)
  (k_with "m:all 2" => (with_reducible refine no_implicit_lambda% (Mine.all2 ?ne ?_)); k_extra "m:eps")
  (k_with "m:in 2" => k_extra "m:all 2"; generalize Mine.pk2 _ _ = tt0; (generalize Mine.fs tt0 = h0, Mine.sn tt0 = h1); (try clear tt0); revert h0 h1)
  (k_with "m:all 3" => (with_reducible refine no_implicit_lambda% (Mine.all3 ?ne ?_)); k_extra "m:eps")
  (k_with "m:in 3" => k_extra "m:all 3"; generalize Mine.pk3 _ _ = tt0; (generalize Mine.fs tt0 = h0, Mine.fs (Mine.sn tt0) = h1, Mine.sn (Mine.sn tt0) = h2); (try clear tt0); revert h0 h1 h2)
  (k_with "m:all 4" => (with_reducible refine no_implicit_lambda% (Mine.all4 ?ne ?_)); k_extra "m:eps")
  (k_with "m:in 4" => k_extra "m:all 4"; generalize Mine.pk4 _ _ = tt0; (generalize Mine.fs tt0 = h0, Mine.fs (Mine.sn tt0) = h1, Mine.fs (Mine.sn (Mine.sn tt0)) = h2, Mine.sn (Mine.sn (Mine.sn tt0)) = h3); (try clear tt0); revert h0 h1 h2 h3)
  (k_with "m:all 5" => (with_reducible refine no_implicit_lambda% (Mine.all5 ?ne ?_)); k_extra "m:eps")
  (k_with "m:in 5" => k_extra "m:all 5"; generalize Mine.pk5 _ _ = tt0; (generalize Mine.fs tt0 = h0, Mine.fs (Mine.sn tt0) = h1, Mine.fs (Mine.sn (Mine.sn tt0)) = h2, Mine.fs (Mine.sn (Mine.sn (Mine.sn tt0))) = h3, Mine.sn (Mine.sn (Mine.sn (Mine.sn tt0))) = h4); (try clear tt0); revert h0 h1 h2 h3 h4)
  (k_with "m:all 6" => (with_reducible refine no_implicit_lambda% (Mine.all6 ?ne ?_)); k_extra "m:eps")
  (k_with "m:in 6" => k_extra "m:all 6"; generalize Mine.pk6 _ _ = tt0; (generalize Mine.fs tt0 = h0, Mine.fs (Mine.sn tt0) = h1, Mine.fs (Mine.sn (Mine.sn tt0)) = h2, Mine.fs (Mine.sn (Mine.sn (Mine.sn tt0))) = h3, Mine.fs (Mine.sn (Mine.sn (Mine.sn (Mine.sn tt0)))) = h4, Mine.sn (Mine.sn (Mine.sn (Mine.sn (Mine.sn tt0)))) = h5); (try clear tt0); revert h0 h1 h2 h3 h4 h5)
  (k_with "m:all 7" => (with_reducible refine no_implicit_lambda% (Mine.all7 ?ne ?_)); k_extra "m:eps")
  (k_with "m:in 7" => k_extra "m:all 7"; generalize Mine.pk7 _ _ = tt0; (generalize Mine.fs tt0 = h0, Mine.fs (Mine.sn tt0) = h1, Mine.fs (Mine.sn (Mine.sn tt0)) = h2, Mine.fs (Mine.sn (Mine.sn (Mine.sn tt0))) = h3, Mine.fs (Mine.sn (Mine.sn (Mine.sn (Mine.sn tt0)))) = h4, Mine.fs (Mine.sn (Mine.sn (Mine.sn (Mine.sn (Mine.sn tt0))))) = h5, Mine.sn (Mine.sn (Mine.sn (Mine.sn (Mine.sn (Mine.sn tt0))))) = h6); (try clear tt0); revert h0 h1 h2 h3 h4 h5 h6)
  (k_with "m:all 8" => (with_reducible refine no_implicit_lambda% (Mine.all8 ?ne ?_)); k_extra "m:eps")
  (k_with "m:in 8" => k_extra "m:all 8"; generalize Mine.pk8 _ _ = tt0; (generalize Mine.fs tt0 = h0, Mine.fs (Mine.sn tt0) = h1, Mine.fs (Mine.sn (Mine.sn tt0)) = h2, Mine.fs (Mine.sn (Mine.sn (Mine.sn tt0))) = h3, Mine.fs (Mine.sn (Mine.sn (Mine.sn (Mine.sn tt0)))) = h4, Mine.fs (Mine.sn (Mine.sn (Mine.sn (Mine.sn (Mine.sn tt0))))) = h5, Mine.fs (Mine.sn (Mine.sn (Mine.sn (Mine.sn (Mine.sn (Mine.sn tt0)))))) = h6, Mine.sn (Mine.sn (Mine.sn (Mine.sn (Mine.sn (Mine.sn (Mine.sn tt0)))))) = h7); (try clear tt0); revert h0 h1 h2 h3 h4 h5 h6 h7)
  (k_with "m:all 9" => (with_reducible refine no_implicit_lambda% (Mine.all9 ?ne ?_)); k_extra "m:eps")
  (k_with "m:in 9" => k_extra "m:all 9"; generalize Mine.pk9 _ _ = tt0; (generalize Mine.fs tt0 = h0, Mine.fs (Mine.sn tt0) = h1, Mine.fs (Mine.sn (Mine.sn tt0)) = h2, Mine.fs (Mine.sn (Mine.sn (Mine.sn tt0))) = h3, Mine.fs (Mine.sn (Mine.sn (Mine.sn (Mine.sn tt0)))) = h4, Mine.fs (Mine.sn (Mine.sn (Mine.sn (Mine.sn (Mine.sn tt0))))) = h5, Mine.fs (Mine.sn (Mine.sn (Mine.sn (Mine.sn (Mine.sn (Mine.sn tt0)))))) = h6, Mine.fs (Mine.sn (Mine.sn (Mine.sn (Mine.sn (Mine.sn (Mine.sn (Mine.sn tt0))))))) = h7, Mine.sn (Mine.sn (Mine.sn (Mine.sn (Mine.sn (Mine.sn (Mine.sn (Mine.sn tt0))))))) = h8); (try clear tt0); revert h0 h1 h2 h3 h4 h5 h6 h7 h8)
  (k_with "m:all 10" => (with_reducible refine no_implicit_lambda% (Mine.all10 ?ne ?_)); k_extra "m:eps")
  (k_with "m:in 10" => k_extra "m:all 10"; generalize Mine.pk10 _ _ = tt0; (generalize Mine.fs tt0 = h0, Mine.fs (Mine.sn tt0) = h1, Mine.fs (Mine.sn (Mine.sn tt0)) = h2, Mine.fs (Mine.sn (Mine.sn (Mine.sn tt0))) = h3, Mine.fs (Mine.sn (Mine.sn (Mine.sn (Mine.sn tt0)))) = h4, Mine.fs (Mine.sn (Mine.sn (Mine.sn (Mine.sn (Mine.sn tt0))))) = h5, Mine.fs (Mine.sn (Mine.sn (Mine.sn (Mine.sn (Mine.sn (Mine.sn tt0)))))) = h6, Mine.fs (Mine.sn (Mine.sn (Mine.sn (Mine.sn (Mine.sn (Mine.sn (Mine.sn tt0))))))) = h7, Mine.fs (Mine.sn (Mine.sn (Mine.sn (Mine.sn (Mine.sn (Mine.sn (Mine.sn (Mine.sn tt0)))))))) = h8, Mine.sn (Mine.sn (Mine.sn (Mine.sn (Mine.sn (Mine.sn (Mine.sn (Mine.sn (Mine.sn tt0)))))))) = h9); (try clear tt0); revert h0 h1 h2 h3 h4 h5 h6 h7 h8 h9)
  (k_with "m:all 11" => (with_reducible refine no_implicit_lambda% (Mine.all11 ?ne ?_)); k_extra "m:eps")
  (k_with "m:in 11" => k_extra "m:all 11"; generalize Mine.pk11 _ _ = tt0; (generalize Mine.fs tt0 = h0, Mine.fs (Mine.sn tt0) = h1, Mine.fs (Mine.sn (Mine.sn tt0)) = h2, Mine.fs (Mine.sn (Mine.sn (Mine.sn tt0))) = h3, Mine.fs (Mine.sn (Mine.sn (Mine.sn (Mine.sn tt0)))) = h4, Mine.fs (Mine.sn (Mine.sn (Mine.sn (Mine.sn (Mine.sn tt0))))) = h5, Mine.fs (Mine.sn (Mine.sn (Mine.sn (Mine.sn (Mine.sn (Mine.sn tt0)))))) = h6, Mine.fs (Mine.sn (Mine.sn (Mine.sn (Mine.sn (Mine.sn (Mine.sn (Mine.sn tt0))))))) = h7, Mine.fs (Mine.sn (Mine.sn (Mine.sn (Mine.sn (Mine.sn (Mine.sn (Mine.sn (Mine.sn tt0)))))))) = h8, Mine.fs (Mine.sn (Mine.sn (Mine.sn (Mine.sn (Mine.sn (Mine.sn (Mine.sn (Mine.sn (Mine.sn tt0))))))))) = h9, Mine.sn (Mine.sn (Mine.sn (Mine.sn (Mine.sn (Mine.sn (Mine.sn (Mine.sn (Mine.sn (Mine.sn tt0))))))))) = h10); (try clear tt0); revert h0 h1 h2 h3 h4 h5 h6 h7 h8 h9 h10)
  (k_with "m:all 12" => (with_reducible refine no_implicit_lambda% (Mine.all12 ?ne ?_)); k_extra "m:eps")
  (k_with "m:in 12" => k_extra "m:all 12"; generalize Mine.pk12 _ _ = tt0; (generalize Mine.fs tt0 = h0, Mine.fs (Mine.sn tt0) = h1, Mine.fs (Mine.sn (Mine.sn tt0)) = h2, Mine.fs (Mine.sn (Mine.sn (Mine.sn tt0))) = h3, Mine.fs (Mine.sn (Mine.sn (Mine.sn (Mine.sn tt0)))) = h4, Mine.fs (Mine.sn (Mine.sn (Mine.sn (Mine.sn (Mine.sn tt0))))) = h5, Mine.fs (Mine.sn (Mine.sn (Mine.sn (Mine.sn (Mine.sn (Mine.sn tt0)))))) = h6, Mine.fs (Mine.sn (Mine.sn (Mine.sn (Mine.sn (Mine.sn (Mine.sn (Mine.sn tt0))))))) = h7, Mine.fs (Mine.sn (Mine.sn (Mine.sn (Mine.sn (Mine.sn (Mine.sn (Mine.sn (Mine.sn tt0)))))))) = h8, Mine.fs (Mine.sn (Mine.sn (Mine.sn (Mine.sn (Mine.sn (Mine.sn (Mine.sn (Mine.sn (Mine.sn tt0))))))))) = h9, Mine.fs (Mine.sn (Mine.sn (Mine.sn (Mine.sn (Mine.sn (Mine.sn (Mine.sn (Mine.sn (Mine.sn (Mine.sn tt0)))))))))) = h10, Mine.sn (Mine.sn (Mine.sn (Mine.sn (Mine.sn (Mine.sn (Mine.sn (Mine.sn (Mine.sn (Mine.sn (Mine.sn tt0)))))))))) = h11); (try clear tt0); revert h0 h1 h2 h3 h4 h5 h6 h7 h8 h9 h10 h11)
  (k_with "m:all 13" => (with_reducible refine no_implicit_lambda% (Mine.all13 ?ne ?_)); k_extra "m:eps")
  (k_with "m:in 13" => k_extra "m:all 13"; generalize Mine.pk13 _ _ = tt0; (generalize Mine.fs tt0 = h0, Mine.fs (Mine.sn tt0) = h1, Mine.fs (Mine.sn (Mine.sn tt0)) = h2, Mine.fs (Mine.sn (Mine.sn (Mine.sn tt0))) = h3, Mine.fs (Mine.sn (Mine.sn (Mine.sn (Mine.sn tt0)))) = h4, Mine.fs (Mine.sn (Mine.sn (Mine.sn (Mine.sn (Mine.sn tt0))))) = h5, Mine.fs (Mine.sn (Mine.sn (Mine.sn (Mine.sn (Mine.sn (Mine.sn tt0)))))) = h6, Mine.fs (Mine.sn (Mine.sn (Mine.sn (Mine.sn (Mine.sn (Mine.sn (Mine.sn tt0))))))) = h7, Mine.fs (Mine.sn (Mine.sn (Mine.sn (Mine.sn (Mine.sn (Mine.sn (Mine.sn (Mine.sn tt0)))))))) = h8, Mine.fs (Mine.sn (Mine.sn (Mine.sn (Mine.sn (Mine.sn (Mine.sn (Mine.sn (Mine.sn (Mine.sn tt0))))))))) = h9, Mine.fs (Mine.sn (Mine.sn (Mine.sn (Mine.sn (Mine.sn (Mine.sn (Mine.sn (Mine.sn (Mine.sn (Mine.sn tt0)))))))))) = h10, Mine.fs (Mine.sn (Mine.sn (Mine.sn (Mine.sn (Mine.sn (Mine.sn (Mine.sn (Mine.sn (Mine.sn (Mine.sn (Mine.sn tt0))))))))))) = h11, Mine.sn (Mine.sn (Mine.sn (Mine.sn (Mine.sn (Mine.sn (Mine.sn (Mine.sn (Mine.sn (Mine.sn (Mine.sn (Mine.sn tt0))))))))))) = h12); (try clear tt0); revert h0 h1 h2 h3 h4 h5 h6 h7 h8 h9 h10 h11 h12)
  (k_with "m:all 15" => (with_reducible refine no_implicit_lambda% (Mine.all15 ?ne ?_)); k_extra "m:eps")
  (k_with "m:in 15" => k_extra "m:all 15"; generalize Mine.pk15 _ _ = tt0; (generalize Mine.fs tt0 = h0, Mine.fs (Mine.sn tt0) = h1, Mine.fs (Mine.sn (Mine.sn tt0)) = h2, Mine.fs (Mine.sn (Mine.sn (Mine.sn tt0))) = h3, Mine.fs (Mine.sn (Mine.sn (Mine.sn (Mine.sn tt0)))) = h4, Mine.fs (Mine.sn (Mine.sn (Mine.sn (Mine.sn (Mine.sn tt0))))) = h5, Mine.fs (Mine.sn (Mine.sn (Mine.sn (Mine.sn (Mine.sn (Mine.sn tt0)))))) = h6, Mine.fs (Mine.sn (Mine.sn (Mine.sn (Mine.sn (Mine.sn (Mine.sn (Mine.sn tt0))))))) = h7, Mine.fs (Mine.sn (Mine.sn (Mine.sn (Mine.sn (Mine.sn (Mine.sn (Mine.sn (Mine.sn tt0)))))))) = h8, Mine.fs (Mine.sn (Mine.sn (Mine.sn (Mine.sn (Mine.sn (Mine.sn (Mine.sn (Mine.sn (Mine.sn tt0))))))))) = h9, Mine.fs (Mine.sn (Mine.sn (Mine.sn (Mine.sn (Mine.sn (Mine.sn (Mine.sn (Mine.sn (Mine.sn (Mine.sn tt0)))))))))) = h10, Mine.fs (Mine.sn (Mine.sn (Mine.sn (Mine.sn (Mine.sn (Mine.sn (Mine.sn (Mine.sn (Mine.sn (Mine.sn (Mine.sn tt0))))))))))) = h11, Mine.fs (Mine.sn (Mine.sn (Mine.sn (Mine.sn (Mine.sn (Mine.sn (Mine.sn (Mine.sn (Mine.sn (Mine.sn (Mine.sn (Mine.sn tt0)))))))))))) = h12, Mine.fs (Mine.sn (Mine.sn (Mine.sn (Mine.sn (Mine.sn (Mine.sn (Mine.sn (Mine.sn (Mine.sn (Mine.sn (Mine.sn (Mine.sn (Mine.sn tt0))))))))))))) = h13, Mine.sn (Mine.sn (Mine.sn (Mine.sn (Mine.sn (Mine.sn (Mine.sn (Mine.sn (Mine.sn (Mine.sn (Mine.sn (Mine.sn (Mine.sn (Mine.sn tt0))))))))))))) = h14); (try clear tt0); revert h0 h1 h2 h3 h4 h5 h6 h7 h8 h9 h10 h11 h12 h13 h14)
  (k_with "m:all 16" => (with_reducible refine no_implicit_lambda% (Mine.all16 ?ne ?_)); k_extra "m:eps")
  (k_with "m:in 16" => k_extra "m:all 16"; generalize Mine.pk16 _ _ = tt0; (generalize Mine.fs tt0 = h0, Mine.fs (Mine.sn tt0) = h1, Mine.fs (Mine.sn (Mine.sn tt0)) = h2, Mine.fs (Mine.sn (Mine.sn (Mine.sn tt0))) = h3, Mine.fs (Mine.sn (Mine.sn (Mine.sn (Mine.sn tt0)))) = h4, Mine.fs (Mine.sn (Mine.sn (Mine.sn (Mine.sn (Mine.sn tt0))))) = h5, Mine.fs (Mine.sn (Mine.sn (Mine.sn (Mine.sn (Mine.sn (Mine.sn tt0)))))) = h6, Mine.fs (Mine.sn (Mine.sn (Mine.sn (Mine.sn (Mine.sn (Mine.sn (Mine.sn tt0))))))) = h7, Mine.fs (Mine.sn (Mine.sn (Mine.sn (Mine.sn (Mine.sn (Mine.sn (Mine.sn (Mine.sn tt0)))))))) = h8, Mine.fs (Mine.sn (Mine.sn (Mine.sn (Mine.sn (Mine.sn (Mine.sn (Mine.sn (Mine.sn (Mine.sn tt0))))))))) = h9, Mine.fs (Mine.sn (Mine.sn (Mine.sn (Mine.sn (Mine.sn (Mine.sn (Mine.sn (Mine.sn (Mine.sn (Mine.sn tt0)))))))))) = h10, Mine.fs (Mine.sn (Mine.sn (Mine.sn (Mine.sn (Mine.sn (Mine.sn (Mine.sn (Mine.sn (Mine.sn (Mine.sn (Mine.sn tt0))))))))))) = h11, Mine.fs (Mine.sn (Mine.sn (Mine.sn (Mine.sn (Mine.sn (Mine.sn (Mine.sn (Mine.sn (Mine.sn (Mine.sn (Mine.sn (Mine.sn tt0)))))))))))) = h12, Mine.fs (Mine.sn (Mine.sn (Mine.sn (Mine.sn (Mine.sn (Mine.sn (Mine.sn (Mine.sn (Mine.sn (Mine.sn (Mine.sn (Mine.sn (Mine.sn tt0))))))))))))) = h13, Mine.fs (Mine.sn (Mine.sn (Mine.sn (Mine.sn (Mine.sn (Mine.sn (Mine.sn (Mine.sn (Mine.sn (Mine.sn (Mine.sn (Mine.sn (Mine.sn (Mine.sn tt0)))))))))))))) = h14, Mine.sn (Mine.sn (Mine.sn (Mine.sn (Mine.sn (Mine.sn (Mine.sn (Mine.sn (Mine.sn (Mine.sn (Mine.sn (Mine.sn (Mine.sn (Mine.sn (Mine.sn tt0)))))))))))))) = h15); (try clear tt0); revert h0 h1 h2 h3 h4 h5 h6 h7 h8 h9 h10 h11 h12 h13 h14 h15)
  (k_with "m:all 18" => (with_reducible refine no_implicit_lambda% (Mine.all18 ?ne ?_)); k_extra "m:eps")
  (k_with "m:in 18" => k_extra "m:all 18"; generalize Mine.pk18 _ _ = tt0; (generalize Mine.fs tt0 = h0, Mine.fs (Mine.sn tt0) = h1, Mine.fs (Mine.sn (Mine.sn tt0)) = h2, Mine.fs (Mine.sn (Mine.sn (Mine.sn tt0))) = h3, Mine.fs (Mine.sn (Mine.sn (Mine.sn (Mine.sn tt0)))) = h4, Mine.fs (Mine.sn (Mine.sn (Mine.sn (Mine.sn (Mine.sn tt0))))) = h5, Mine.fs (Mine.sn (Mine.sn (Mine.sn (Mine.sn (Mine.sn (Mine.sn tt0)))))) = h6, Mine.fs (Mine.sn (Mine.sn (Mine.sn (Mine.sn (Mine.sn (Mine.sn (Mine.sn tt0))))))) = h7, Mine.fs (Mine.sn (Mine.sn (Mine.sn (Mine.sn (Mine.sn (Mine.sn (Mine.sn (Mine.sn tt0)))))))) = h8, Mine.fs (Mine.sn (Mine.sn (Mine.sn (Mine.sn (Mine.sn (Mine.sn (Mine.sn (Mine.sn (Mine.sn tt0))))))))) = h9, Mine.fs (Mine.sn (Mine.sn (Mine.sn (Mine.sn (Mine.sn (Mine.sn (Mine.sn (Mine.sn (Mine.sn (Mine.sn tt0)))))))))) = h10, Mine.fs (Mine.sn (Mine.sn (Mine.sn (Mine.sn (Mine.sn (Mine.sn (Mine.sn (Mine.sn (Mine.sn (Mine.sn (Mine.sn tt0))))))))))) = h11, Mine.fs (Mine.sn (Mine.sn (Mine.sn (Mine.sn (Mine.sn (Mine.sn (Mine.sn (Mine.sn (Mine.sn (Mine.sn (Mine.sn (Mine.sn tt0)))))))))))) = h12, Mine.fs (Mine.sn (Mine.sn (Mine.sn (Mine.sn (Mine.sn (Mine.sn (Mine.sn (Mine.sn (Mine.sn (Mine.sn (Mine.sn (Mine.sn (Mine.sn tt0))))))))))))) = h13, Mine.fs (Mine.sn (Mine.sn (Mine.sn (Mine.sn (Mine.sn (Mine.sn (Mine.sn (Mine.sn (Mine.sn (Mine.sn (Mine.sn (Mine.sn (Mine.sn (Mine.sn tt0)))))))))))))) = h14, Mine.fs (Mine.sn (Mine.sn (Mine.sn (Mine.sn (Mine.sn (Mine.sn (Mine.sn (Mine.sn (Mine.sn (Mine.sn (Mine.sn (Mine.sn (Mine.sn (Mine.sn (Mine.sn tt0))))))))))))))) = h15, Mine.fs (Mine.sn (Mine.sn (Mine.sn (Mine.sn (Mine.sn (Mine.sn (Mine.sn (Mine.sn (Mine.sn (Mine.sn (Mine.sn (Mine.sn (Mine.sn (Mine.sn (Mine.sn (Mine.sn tt0)))))))))))))))) = h16, Mine.sn (Mine.sn (Mine.sn (Mine.sn (Mine.sn (Mine.sn (Mine.sn (Mine.sn (Mine.sn (Mine.sn (Mine.sn (Mine.sn (Mine.sn (Mine.sn (Mine.sn (Mine.sn (Mine.sn tt0)))))))))))))))) = h17); (try clear tt0); revert h0 h1 h2 h3 h4 h5 h6 h7 h8 h9 h10 h11 h12 h13 h14 h15 h16 h17)
  (k_with "m:all 20" => (with_reducible refine no_implicit_lambda% (Mine.all20 ?ne ?_)); k_extra "m:eps")
  (k_with "m:in 20" => k_extra "m:all 20"; generalize Mine.pk20 _ _ = tt0; (generalize Mine.fs tt0 = h0, Mine.fs (Mine.sn tt0) = h1, Mine.fs (Mine.sn (Mine.sn tt0)) = h2, Mine.fs (Mine.sn (Mine.sn (Mine.sn tt0))) = h3, Mine.fs (Mine.sn (Mine.sn (Mine.sn (Mine.sn tt0)))) = h4, Mine.fs (Mine.sn (Mine.sn (Mine.sn (Mine.sn (Mine.sn tt0))))) = h5, Mine.fs (Mine.sn (Mine.sn (Mine.sn (Mine.sn (Mine.sn (Mine.sn tt0)))))) = h6, Mine.fs (Mine.sn (Mine.sn (Mine.sn (Mine.sn (Mine.sn (Mine.sn (Mine.sn tt0))))))) = h7, Mine.fs (Mine.sn (Mine.sn (Mine.sn (Mine.sn (Mine.sn (Mine.sn (Mine.sn (Mine.sn tt0)))))))) = h8, Mine.fs (Mine.sn (Mine.sn (Mine.sn (Mine.sn (Mine.sn (Mine.sn (Mine.sn (Mine.sn (Mine.sn tt0))))))))) = h9, Mine.fs (Mine.sn (Mine.sn (Mine.sn (Mine.sn (Mine.sn (Mine.sn (Mine.sn (Mine.sn (Mine.sn (Mine.sn tt0)))))))))) = h10, Mine.fs (Mine.sn (Mine.sn (Mine.sn (Mine.sn (Mine.sn (Mine.sn (Mine.sn (Mine.sn (Mine.sn (Mine.sn (Mine.sn tt0))))))))))) = h11, Mine.fs (Mine.sn (Mine.sn (Mine.sn (Mine.sn (Mine.sn (Mine.sn (Mine.sn (Mine.sn (Mine.sn (Mine.sn (Mine.sn (Mine.sn tt0)))))))))))) = h12, Mine.fs (Mine.sn (Mine.sn (Mine.sn (Mine.sn (Mine.sn (Mine.sn (Mine.sn (Mine.sn (Mine.sn (Mine.sn (Mine.sn (Mine.sn (Mine.sn tt0))))))))))))) = h13, Mine.fs (Mine.sn (Mine.sn (Mine.sn (Mine.sn (Mine.sn (Mine.sn (Mine.sn (Mine.sn (Mine.sn (Mine.sn (Mine.sn (Mine.sn (Mine.sn (Mine.sn tt0)))))))))))))) = h14, Mine.fs (Mine.sn (Mine.sn (Mine.sn (Mine.sn (Mine.sn (Mine.sn (Mine.sn (Mine.sn (Mine.sn (Mine.sn (Mine.sn (Mine.sn (Mine.sn (Mine.sn (Mine.sn tt0))))))))))))))) = h15, Mine.fs (Mine.sn (Mine.sn (Mine.sn (Mine.sn (Mine.sn (Mine.sn (Mine.sn (Mine.sn (Mine.sn (Mine.sn (Mine.sn (Mine.sn (Mine.sn (Mine.sn (Mine.sn (Mine.sn tt0)))))))))))))))) = h16, Mine.fs (Mine.sn (Mine.sn (Mine.sn (Mine.sn (Mine.sn (Mine.sn (Mine.sn (Mine.sn (Mine.sn (Mine.sn (Mine.sn (Mine.sn (Mine.sn (Mine.sn (Mine.sn (Mine.sn (Mine.sn tt0))))))))))))))))) = h17, Mine.fs (Mine.sn (Mine.sn (Mine.sn (Mine.sn (Mine.sn (Mine.sn (Mine.sn (Mine.sn (Mine.sn (Mine.sn (Mine.sn (Mine.sn (Mine.sn (Mine.sn (Mine.sn (Mine.sn (Mine.sn (Mine.sn tt0)))))))))))))))))) = h18, Mine.sn (Mine.sn (Mine.sn (Mine.sn (Mine.sn (Mine.sn (Mine.sn (Mine.sn (Mine.sn (Mine.sn (Mine.sn (Mine.sn (Mine.sn (Mine.sn (Mine.sn (Mine.sn (Mine.sn (Mine.sn (Mine.sn tt0)))))))))))))))))) = h19); (try clear tt0); revert h0 h1 h2 h3 h4 h5 h6 h7 h8 h9 h10 h11 h12 h13 h14 h15 h16 h17 h18 h19)
  (k_with "m:all 22" => (with_reducible refine no_implicit_lambda% (Mine.all22 ?ne ?_)); k_extra "m:eps")
  (k_with "m:in 22" => k_extra "m:all 22"; generalize Mine.pk22 _ _ = tt0; (generalize Mine.fs tt0 = h0, Mine.fs (Mine.sn tt0) = h1, Mine.fs (Mine.sn (Mine.sn tt0)) = h2, Mine.fs (Mine.sn (Mine.sn (Mine.sn tt0))) = h3, Mine.fs (Mine.sn (Mine.sn (Mine.sn (Mine.sn tt0)))) = h4, Mine.fs (Mine.sn (Mine.sn (Mine.sn (Mine.sn (Mine.sn tt0))))) = h5, Mine.fs (Mine.sn (Mine.sn (Mine.sn (Mine.sn (Mine.sn (Mine.sn tt0)))))) = h6, Mine.fs (Mine.sn (Mine.sn (Mine.sn (Mine.sn (Mine.sn (Mine.sn (Mine.sn tt0))))))) = h7, Mine.fs (Mine.sn (Mine.sn (Mine.sn (Mine.sn (Mine.sn (Mine.sn (Mine.sn (Mine.sn tt0)))))))) = h8, Mine.fs (Mine.sn (Mine.sn (Mine.sn (Mine.sn (Mine.sn (Mine.sn (Mine.sn (Mine.sn (Mine.sn tt0))))))))) = h9, Mine.fs (Mine.sn (Mine.sn (Mine.sn (Mine.sn (Mine.sn (Mine.sn (Mine.sn (Mine.sn (Mine.sn (Mine.sn tt0)))))))))) = h10, Mine.fs (Mine.sn (Mine.sn (Mine.sn (Mine.sn (Mine.sn (Mine.sn (Mine.sn (Mine.sn (Mine.sn (Mine.sn (Mine.sn tt0))))))))))) = h11, Mine.fs (Mine.sn (Mine.sn (Mine.sn (Mine.sn (Mine.sn (Mine.sn (Mine.sn (Mine.sn (Mine.sn (Mine.sn (Mine.sn (Mine.sn tt0)))))))))))) = h12, Mine.fs (Mine.sn (Mine.sn (Mine.sn (Mine.sn (Mine.sn (Mine.sn (Mine.sn (Mine.sn (Mine.sn (Mine.sn (Mine.sn (Mine.sn (Mine.sn tt0))))))))))))) = h13, Mine.fs (Mine.sn (Mine.sn (Mine.sn (Mine.sn (Mine.sn (Mine.sn (Mine.sn (Mine.sn (Mine.sn (Mine.sn (Mine.sn (Mine.sn (Mine.sn (Mine.sn tt0)))))))))))))) = h14, Mine.fs (Mine.sn (Mine.sn (Mine.sn (Mine.sn (Mine.sn (Mine.sn (Mine.sn (Mine.sn (Mine.sn (Mine.sn (Mine.sn (Mine.sn (Mine.sn (Mine.sn (Mine.sn tt0))))))))))))))) = h15, Mine.fs (Mine.sn (Mine.sn (Mine.sn (Mine.sn (Mine.sn (Mine.sn (Mine.sn (Mine.sn (Mine.sn (Mine.sn (Mine.sn (Mine.sn (Mine.sn (Mine.sn (Mine.sn (Mine.sn tt0)))))))))))))))) = h16, Mine.fs (Mine.sn (Mine.sn (Mine.sn (Mine.sn (Mine.sn (Mine.sn (Mine.sn (Mine.sn (Mine.sn (Mine.sn (Mine.sn (Mine.sn (Mine.sn (Mine.sn (Mine.sn (Mine.sn (Mine.sn tt0))))))))))))))))) = h17, Mine.fs (Mine.sn (Mine.sn (Mine.sn (Mine.sn (Mine.sn (Mine.sn (Mine.sn (Mine.sn (Mine.sn (Mine.sn (Mine.sn (Mine.sn (Mine.sn (Mine.sn (Mine.sn (Mine.sn (Mine.sn (Mine.sn tt0)))))))))))))))))) = h18, Mine.fs (Mine.sn (Mine.sn (Mine.sn (Mine.sn (Mine.sn (Mine.sn (Mine.sn (Mine.sn (Mine.sn (Mine.sn (Mine.sn (Mine.sn (Mine.sn (Mine.sn (Mine.sn (Mine.sn (Mine.sn (Mine.sn (Mine.sn tt0))))))))))))))))))) = h19, Mine.fs (Mine.sn (Mine.sn (Mine.sn (Mine.sn (Mine.sn (Mine.sn (Mine.sn (Mine.sn (Mine.sn (Mine.sn (Mine.sn (Mine.sn (Mine.sn (Mine.sn (Mine.sn (Mine.sn (Mine.sn (Mine.sn (Mine.sn (Mine.sn tt0)))))))))))))))))))) = h20, Mine.sn (Mine.sn (Mine.sn (Mine.sn (Mine.sn (Mine.sn (Mine.sn (Mine.sn (Mine.sn (Mine.sn (Mine.sn (Mine.sn (Mine.sn (Mine.sn (Mine.sn (Mine.sn (Mine.sn (Mine.sn (Mine.sn (Mine.sn (Mine.sn tt0)))))))))))))))))))) = h21); (try clear tt0); revert h0 h1 h2 h3 h4 h5 h6 h7 h8 h9 h10 h11 h12 h13 h14 h15 h16 h17 h18 h19 h20 h21)
  (k_with "m:all 35" => (with_reducible refine no_implicit_lambda% (Mine.all35 ?ne ?_)); k_extra "m:eps")
  (k_with "m:in 35" => k_extra "m:all 35"; generalize Mine.pk35 _ _ = tt0; (generalize Mine.fs tt0 = h0, Mine.fs (Mine.sn tt0) = h1, Mine.fs (Mine.sn (Mine.sn tt0)) = h2, Mine.fs (Mine.sn (Mine.sn (Mine.sn tt0))) = h3, Mine.fs (Mine.sn (Mine.sn (Mine.sn (Mine.sn tt0)))) = h4, Mine.fs (Mine.sn (Mine.sn (Mine.sn (Mine.sn (Mine.sn tt0))))) = h5, Mine.fs (Mine.sn (Mine.sn (Mine.sn (Mine.sn (Mine.sn (Mine.sn tt0)))))) = h6, Mine.fs (Mine.sn (Mine.sn (Mine.sn (Mine.sn (Mine.sn (Mine.sn (Mine.sn tt0))))))) = h7, Mine.fs (Mine.sn (Mine.sn (Mine.sn (Mine.sn (Mine.sn (Mine.sn (Mine.sn (Mine.sn tt0)))))))) = h8, Mine.fs (Mine.sn (Mine.sn (Mine.sn (Mine.sn (Mine.sn (Mine.sn (Mine.sn (Mine.sn (Mine.sn tt0))))))))) = h9, Mine.fs (Mine.sn (Mine.sn (Mine.sn (Mine.sn (Mine.sn (Mine.sn (Mine.sn (Mine.sn (Mine.sn (Mine.sn tt0)))))))))) = h10, Mine.fs (Mine.sn (Mine.sn (Mine.sn (Mine.sn (Mine.sn (Mine.sn (Mine.sn (Mine.sn (Mine.sn (Mine.sn (Mine.sn tt0))))))))))) = h11, Mine.fs (Mine.sn (Mine.sn (Mine.sn (Mine.sn (Mine.sn (Mine.sn (Mine.sn (Mine.sn (Mine.sn (Mine.sn (Mine.sn (Mine.sn tt0)))))))))))) = h12, Mine.fs (Mine.sn (Mine.sn (Mine.sn (Mine.sn (Mine.sn (Mine.sn (Mine.sn (Mine.sn (Mine.sn (Mine.sn (Mine.sn (Mine.sn (Mine.sn tt0))))))))))))) = h13, Mine.fs (Mine.sn (Mine.sn (Mine.sn (Mine.sn (Mine.sn (Mine.sn (Mine.sn (Mine.sn (Mine.sn (Mine.sn (Mine.sn (Mine.sn (Mine.sn (Mine.sn tt0)))))))))))))) = h14, Mine.fs (Mine.sn (Mine.sn (Mine.sn (Mine.sn (Mine.sn (Mine.sn (Mine.sn (Mine.sn (Mine.sn (Mine.sn (Mine.sn (Mine.sn (Mine.sn (Mine.sn (Mine.sn tt0))))))))))))))) = h15, Mine.fs (Mine.sn (Mine.sn (Mine.sn (Mine.sn (Mine.sn (Mine.sn (Mine.sn (Mine.sn (Mine.sn (Mine.sn (Mine.sn (Mine.sn (Mine.sn (Mine.sn (Mine.sn (Mine.sn tt0)))))))))))))))) = h16, Mine.fs (Mine.sn (Mine.sn (Mine.sn (Mine.sn (Mine.sn (Mine.sn (Mine.sn (Mine.sn (Mine.sn (Mine.sn (Mine.sn (Mine.sn (Mine.sn (Mine.sn (Mine.sn (Mine.sn (Mine.sn tt0))))))))))))))))) = h17, Mine.fs (Mine.sn (Mine.sn (Mine.sn (Mine.sn (Mine.sn (Mine.sn (Mine.sn (Mine.sn (Mine.sn (Mine.sn (Mine.sn (Mine.sn (Mine.sn (Mine.sn (Mine.sn (Mine.sn (Mine.sn (Mine.sn tt0)))))))))))))))))) = h18, Mine.fs (Mine.sn (Mine.sn (Mine.sn (Mine.sn (Mine.sn (Mine.sn (Mine.sn (Mine.sn (Mine.sn (Mine.sn (Mine.sn (Mine.sn (Mine.sn (Mine.sn (Mine.sn (Mine.sn (Mine.sn (Mine.sn (Mine.sn tt0))))))))))))))))))) = h19, Mine.fs (Mine.sn (Mine.sn (Mine.sn (Mine.sn (Mine.sn (Mine.sn (Mine.sn (Mine.sn (Mine.sn (Mine.sn (Mine.sn (Mine.sn (Mine.sn (Mine.sn (Mine.sn (Mine.sn (Mine.sn (Mine.sn (Mine.sn (Mine.sn tt0)))))))))))))))))))) = h20, Mine.fs (Mine.sn (Mine.sn (Mine.sn (Mine.sn (Mine.sn (Mine.sn (Mine.sn (Mine.sn (Mine.sn (Mine.sn (Mine.sn (Mine.sn (Mine.sn (Mine.sn (Mine.sn (Mine.sn (Mine.sn (Mine.sn (Mine.sn (Mine.sn (Mine.sn tt0))))))))))))))))))))) = h21, Mine.fs (Mine.sn (Mine.sn (Mine.sn (Mine.sn (Mine.sn (Mine.sn (Mine.sn (Mine.sn (Mine.sn (Mine.sn (Mine.sn (Mine.sn (Mine.sn (Mine.sn (Mine.sn (Mine.sn (Mine.sn (Mine.sn (Mine.sn (Mine.sn (Mine.sn (Mine.sn tt0)))))))))))))))))))))) = h22, Mine.fs (Mine.sn (Mine.sn (Mine.sn (Mine.sn (Mine.sn (Mine.sn (Mine.sn (Mine.sn (Mine.sn (Mine.sn (Mine.sn (Mine.sn (Mine.sn (Mine.sn (Mine.sn (Mine.sn (Mine.sn (Mine.sn (Mine.sn (Mine.sn (Mine.sn (Mine.sn (Mine.sn tt0))))))))))))))))))))))) = h23, Mine.fs (Mine.sn (Mine.sn (Mine.sn (Mine.sn (Mine.sn (Mine.sn (Mine.sn (Mine.sn (Mine.sn (Mine.sn (Mine.sn (Mine.sn (Mine.sn (Mine.sn (Mine.sn (Mine.sn (Mine.sn (Mine.sn (Mine.sn (Mine.sn (Mine.sn (Mine.sn (Mine.sn (Mine.sn tt0)))))))))))))))))))))))) = h24, Mine.fs (Mine.sn (Mine.sn (Mine.sn (Mine.sn (Mine.sn (Mine.sn (Mine.sn (Mine.sn (Mine.sn (Mine.sn (Mine.sn (Mine.sn (Mine.sn (Mine.sn (Mine.sn (Mine.sn (Mine.sn (Mine.sn (Mine.sn (Mine.sn (Mine.sn (Mine.sn (Mine.sn (Mine.sn (Mine.sn tt0))))))))))))))))))))))))) = h25, Mine.fs (Mine.sn (Mine.sn (Mine.sn (Mine.sn (Mine.sn (Mine.sn (Mine.sn (Mine.sn (Mine.sn (Mine.sn (Mine.sn (Mine.sn (Mine.sn (Mine.sn (Mine.sn (Mine.sn (Mine.sn (Mine.sn (Mine.sn (Mine.sn (Mine.sn (Mine.sn (Mine.sn (Mine.sn (Mine.sn (Mine.sn tt0)))))))))))))))))))))))))) = h26, Mine.fs (Mine.sn (Mine.sn (Mine.sn (Mine.sn (Mine.sn (Mine.sn (Mine.sn (Mine.sn (Mine.sn (Mine.sn (Mine.sn (Mine.sn (Mine.sn (Mine.sn (Mine.sn (Mine.sn (Mine.sn (Mine.sn (Mine.sn (Mine.sn (Mine.sn (Mine.sn (Mine.sn (Mine.sn (Mine.sn (Mine.sn (Mine.sn tt0))))))))))))))))))))))))))) = h27, Mine.fs (Mine.sn (Mine.sn (Mine.sn (Mine.sn (Mine.sn (Mine.sn (Mine.sn (Mine.sn (Mine.sn (Mine.sn (Mine.sn (Mine.sn (Mine.sn (Mine.sn (Mine.sn (Mine.sn (Mine.sn (Mine.sn (Mine.sn (Mine.sn (Mine.sn (Mine.sn (Mine.sn (Mine.sn (Mine.sn (Mine.sn (Mine.sn (Mine.sn tt0)))))))))))))))))))))))))))) = h28, Mine.fs (Mine.sn (Mine.sn (Mine.sn (Mine.sn (Mine.sn (Mine.sn (Mine.sn (Mine.sn (Mine.sn (Mine.sn (Mine.sn (Mine.sn (Mine.sn (Mine.sn (Mine.sn (Mine.sn (Mine.sn (Mine.sn (Mine.sn (Mine.sn (Mine.sn (Mine.sn (Mine.sn (Mine.sn (Mine.sn (Mine.sn (Mine.sn (Mine.sn (Mine.sn tt0))))))))))))))))))))))))))))) = h29, Mine.fs (Mine.sn (Mine.sn (Mine.sn (Mine.sn (Mine.sn (Mine.sn (Mine.sn (Mine.sn (Mine.sn (Mine.sn (Mine.sn (Mine.sn (Mine.sn (Mine.sn (Mine.sn (Mine.sn (Mine.sn (Mine.sn (Mine.sn (Mine.sn (Mine.sn (Mine.sn (Mine.sn (Mine.sn (Mine.sn (Mine.sn (Mine.sn (Mine.sn (Mine.sn (Mine.sn tt0)))))))))))))))))))))))))))))) = h30, Mine.fs (Mine.sn (Mine.sn (Mine.sn (Mine.sn (Mine.sn (Mine.sn (Mine.sn (Mine.sn (Mine.sn (Mine.sn (Mine.sn (Mine.sn (Mine.sn (Mine.sn (Mine.sn (Mine.sn (Mine.sn (Mine.sn (Mine.sn (Mine.sn (Mine.sn (Mine.sn (Mine.sn (Mine.sn (Mine.sn (Mine.sn (Mine.sn (Mine.sn (Mine.sn (Mine.sn (Mine.sn tt0))))))))))))))))))))))))))))))) = h31, Mine.fs (Mine.sn (Mine.sn (Mine.sn (Mine.sn (Mine.sn (Mine.sn (Mine.sn (Mine.sn (Mine.sn (Mine.sn (Mine.sn (Mine.sn (Mine.sn (Mine.sn (Mine.sn (Mine.sn (Mine.sn (Mine.sn (Mine.sn (Mine.sn (Mine.sn (Mine.sn (Mine.sn (Mine.sn (Mine.sn (Mine.sn (Mine.sn (Mine.sn (Mine.sn (Mine.sn (Mine.sn (Mine.sn tt0)))))))))))))))))))))))))))))))) = h32, Mine.fs (Mine.sn (Mine.sn (Mine.sn (Mine.sn (Mine.sn (Mine.sn (Mine.sn (Mine.sn (Mine.sn (Mine.sn (Mine.sn (Mine.sn (Mine.sn (Mine.sn (Mine.sn (Mine.sn (Mine.sn (Mine.sn (Mine.sn (Mine.sn (Mine.sn (Mine.sn (Mine.sn (Mine.sn (Mine.sn (Mine.sn (Mine.sn (Mine.sn (Mine.sn (Mine.sn (Mine.sn (Mine.sn (Mine.sn tt0))))))))))))))))))))))))))))))))) = h33, Mine.sn (Mine.sn (Mine.sn (Mine.sn (Mine.sn (Mine.sn (Mine.sn (Mine.sn (Mine.sn (Mine.sn (Mine.sn (Mine.sn (Mine.sn (Mine.sn (Mine.sn (Mine.sn (Mine.sn (Mine.sn (Mine.sn (Mine.sn (Mine.sn (Mine.sn (Mine.sn (Mine.sn (Mine.sn (Mine.sn (Mine.sn (Mine.sn (Mine.sn (Mine.sn (Mine.sn (Mine.sn (Mine.sn (Mine.sn tt0))))))))))))))))))))))))))))))))) = h34); (try clear tt0); revert h0 h1 h2 h3 h4 h5 h6 h7 h8 h9 h10 h11 h12 h13 h14 h15 h16 h17 h18 h19 h20 h21 h22 h23 h24 h25 h26 h27 h28 h29 h30 h31 h32 h33 h34)
  trivial
end Mine
section
open PySem PySem.W PyProof.Rows
namespace Mine
set_option maxRecDepth 100000
set_option maxHeartbeats 8000000
/-- what a callee gives back to its caller: the frame as it was, the ledger news' -/
noncomputable abbrev Ret (h₀ : Heap) (L : Addr) (m : Str → Option Value) (news' : List (Addr × Obj)) (s : Shared) (Q : Value → Shared → Prop) (v : Value) : Prop :=
  ∀ (h' : Heap) (tk' : Nat), 1 ≤ tk' → Fr h₀ L h' m → News h₀ L h' news' → Q v { s with heap := h', toks := tk' }
/-- a call of the def at f with the values vs: D frames and U units of room; what it wants and gives is the last -/
noncomputable abbrev Call (w : World) (f : Value) (vs : List Value) (kw : List (Str × Value)) (D U : Nat) (news : List (Addr × Obj)) (Out : (Value → List (Addr × Obj) → Prop) → Prop) : Prop :=
  ∀ (p : Program) (loose : List Str) (mean : ExcName → Option Value) (mg mb : Str → Option Value)
    (dp un : Nat) (gd : Option (List Code)) (cn : Str) (cs : Scope) (a : Addr) (ccd : Value) (cl : List (Str × Addr)) (outer : List Env) (A₀ : Around) (base h₀ : Heap) (L : Addr) (m : Str → Option Value) (s : Shared) (Q E : Value → Shared → Prop),
    Below A₀ base outer h₀ → Fr h₀ L s.heap m → (hd.heap_39 w.params).In h₀ → News h₀ L s.heap news → Top p loose mean mg mb h₀ → cs.kind = .function →
    dp + D < recursionLimit → un + U < cLine → 1 ≤ s.toks →
    Out (fun v news' => Ret h₀ L m news' s Q v) →
    wpAny (model PySem.Challenge.rw_uc0067_01.row.prog w) (ktrTop dp un gd cn cs L a ccd cl outer) (call f vs kw) Q E s

noncomputable abbrev Tree (w : World) (tr : Sem Value) (D U : Nat) (news : List (Addr × Obj)) (Out : (Value → List (Addr × Obj) → Prop) → Prop) : Prop :=
  ∀ (p : Program) (loose : List Str) (mean : ExcName → Option Value) (mg mb : Str → Option Value)
    (dp un : Nat) (gd : Option (List Code)) (cn : Str) (cs : Scope) (a : Addr) (ccd : Value) (cl : List (Str × Addr)) (outer : List Env) (A₀ : Around) (base h₀ : Heap) (L : Addr) (m : Str → Option Value) (s : Shared) (Q E : Value → Shared → Prop),
    Below A₀ base outer h₀ → Fr h₀ L s.heap m → (hd.heap_39 w.params).In h₀ → News h₀ L s.heap news → Top p loose mean mg mb h₀ → cs.kind = .function →
    dp + D < recursionLimit → un + U < cLine → 1 ≤ s.toks →
    Out (fun v news' => Ret h₀ L m news' s Q v) →
    wpAny (model PySem.Challenge.rw_uc0067_01.row.prog w) (ktrTop dp un gd cn cs L a ccd cl outer) tr Q E s
theorem use_tree {w : World} {tr : Sem Value} {D U : Nat} {news : List (Addr × Obj)} {Out : (Value → List (Addr × Obj) → Prop) → Prop} (C : Tree w tr D U news Out)
    {p : Program} {loose : List Str} {mean : ExcName → Option Value} {mg mb : Str → Option Value}
    {dp un : Nat} {gd : Option (List Code)} {cn : Str} {cs : Scope} {a : Addr} {ccd : Value} {cl : List (Str × Addr)} {outer : List Env} {A₀ : Around} {base h₀ : Heap} {L : Addr} {m : Str → Option Value} {h : Heap} {g : Array GenState} {d : Drawn} {tk : Nat} {os : OsState} {Q E : Value → Shared → Prop}
    (B : Below A₀ base outer h₀) (F : Fr h₀ L h m) (X : (hd.heap_39 w.params).In h₀) (N : News h₀ L h news) (T : Top p loose mean mg mb h₀) (hk : cs.kind = .function) (hd : dp + D < recursionLimit) (hu : un + U < cLine) (h1 : 1 ≤ tk)
    (hret : Out (fun v news' => ∀ (h' : Heap) (tk' : Nat), 1 ≤ tk' → Fr h₀ L h' m → News h₀ L h' news' → Q v ⟨h', g, d, tk', os⟩)) :
    wpAny (model PySem.Challenge.rw_uc0067_01.row.prog w) (ktrTop dp un gd cn cs L a ccd cl outer) tr Q E ⟨h, g, d, tk, os⟩ :=
  C p loose mean mg mb dp un gd cn cs a ccd cl outer A₀ base h₀ L m ⟨h, g, d, tk, os⟩ Q E B F X N T hk hd hu h1 hret
theorem use_call {w : World} {f : Value} {vs : List Value} {kw : List (Str × Value)} {D U : Nat} {news : List (Addr × Obj)} {Out : (Value → List (Addr × Obj) → Prop) → Prop} (C : Call w f vs kw D U news Out)
    {p : Program} {loose : List Str} {mean : ExcName → Option Value} {mg mb : Str → Option Value}
    {dp un : Nat} {gd : Option (List Code)} {cn : Str} {cs : Scope} {a : Addr} {ccd : Value} {cl : List (Str × Addr)} {outer : List Env} {A₀ : Around} {base h₀ : Heap} {L : Addr} {m : Str → Option Value} {h : Heap} {g : Array GenState} {d : Drawn} {tk : Nat} {os : OsState} {Q E : Value → Shared → Prop}
    (B : Below A₀ base outer h₀) (F : Fr h₀ L h m) (X : (hd.heap_39 w.params).In h₀) (N : News h₀ L h news) (T : Top p loose mean mg mb h₀) (hk : cs.kind = .function) (hd : dp + D < recursionLimit) (hu : un + U < cLine) (h1 : 1 ≤ tk)
    (hret : Out (fun v news' => ∀ (h' : Heap) (tk' : Nat), 1 ≤ tk' → Fr h₀ L h' m → News h₀ L h' news' → Q v ⟨h', g, d, tk', os⟩)) :
    wpAny (model PySem.Challenge.rw_uc0067_01.row.prog w) (ktrTop dp un gd cn cs L a ccd cl outer) (call f vs kw) Q E ⟨h, g, d, tk, os⟩ :=
  C p loose mean mg mb dp un gd cn cs a ccd cl outer A₀ base h₀ L m ⟨h, g, d, tk, os⟩ Q E B F X N T hk hd hu h1 hret
noncomputable def fdOf (K : Frag) (f : Addr) : FuncData := match K.lookup f with
  | some ⟨_, _, .func fd, _⟩ => fd
  | _ => default
section
variable {M : Model} {A : Around} {E : Value → Shared → Prop} {env : Env} {st : Stmt} {rest : List Stmt}
theorem cons_tok {Q : Flow → Shared → Prop} {h : Heap} {g : Array GenState} {d : Drawn} {X : Nat} {os : OsState} (h1 : 1 ≤ X)
    (k : ∀ tk : Nat, 1 ≤ tk → wpAny M A (exec st env) (fun f s' => 1 ≤ s'.toks → (match f with | .next => wpAny M A (execs rest env) Q E s' | f => Q f s')) E ⟨h, g, d, tk, os⟩) :
    wpAny M A (execs (st :: rest) env) Q E ⟨h, g, d, X, os⟩ :=
  wpAny_execs_cons (wpAny_with_toks (n := 1) h1 (wpAny_mono (k X h1) (fun _ _ x => x) (fun _ _ x _ => x)))
theorem nil_tok {Q : Flow → Shared → Prop} {h : Heap} {g : Array GenState} {d : Drawn} {X : Nat} {os : OsState} (h1 : 1 ≤ X)
    (k : ∀ tk : Nat, 1 ≤ tk → Q .next ⟨h, g, d, tk, os⟩) : wpAny M A (execs [] env) Q E ⟨h, g, d, X, os⟩ := wpAny_execs_nil (k X h1)
theorem call_tok {c : Value} {pos : List Value} {kw : List (Str × Value)} {Q : Value → Shared → Prop} {s : Shared} (h1 : 1 ≤ s.toks)
    (k : wpAny M A (call c pos kw) (fun v s' => 1 ≤ s'.toks → Q v s') (fun _ _ => False) s) : wpAny M A (call c pos kw) Q E s :=
  wpAny_noRaise (wpAny_with_toks (n := 1) h1 (wpAny_mono k (fun _ _ x => x) (fun _ _ x => x.elim)))
end
theorem allne_lt {r : List (Addr × Obj)} {d : Addr} (h : ∀ p ∈ r, p.1 < d) : ∀ p ∈ r, p.1 ≠ d := fun p hp => Nat.ne_of_lt (h p hp)
theorem allne_gt {r : List (Addr × Obj)} {d : Addr} (h : ∀ p ∈ r, d < p.1) : ∀ p ∈ r, p.1 ≠ d := fun p hp => Nat.ne_of_gt (h p hp)
theorem allne_AllLt {r : List (Addr × Obj)} {d : Addr} (h : AllLt d r) : ∀ p ∈ r, p.1 ≠ d := by
  induction r with
  | nil => intro p hp; nomatch hp
  | cons q r ih =>
    intro p hp
    rcases List.mem_cons.mp hp with rfl | hp
    · exact Nat.ne_of_lt h.1
    · exact ih h.2 p hp
theorem fr_is {h₀ : Heap} {L : Addr} {h : Heap} {m m' : Str → Option Value} (F : Fr h₀ L h m) (e : ∀ y, m y = m' y) : Fr h₀ L h m' := by
  have : m = m' := funext e
  exact this ▸ F
theorem cut_post {α : Type} {M : Model} {A : Around} {E : Value → Shared → Prop} {t : Sem α} {s : Shared} {Q : α → Shared → Prop} (P : α → Shared → Prop)
    (h1 : wpAny M A t P (fun _ _ => False) s) (h2 : ∀ a s', P a s' → Q a s') : wpAny M A t Q E s := wpAny_mono h1 h2 fun _ _ x => x.elim
section
variable {prog : Program} {w : World} {A : Around} {E : Value → Shared → Prop} {s : Shared} {h₀ : Heap} {L l : Addr} {news : List (Addr × Obj)} {vs : List Value} {n : Nat}
theorem my_len {Q : Value → Shared → Prop} (N : News h₀ L s.heap news) (hm : (l, listOf vs.toArray n) ∈ news) (hf : vs.length ≤ 1000) (h : Q (.int vs.length (s.toks + 1)) { s with toks := s.toks + 1 + 1 }) :
    wpAny (model prog w) A (call (.builtin "len") [.ref l]) Q E s := by
  have e : (List.toArray vs).size = vs.length := List.size_toArray ..
  exact PySem.Calls.call_len_list (N.isList hm) (by rw [e]; omega) (by rw [e]; exact h)
theorem my_item {value slice : PySem.Expr} {k : Int} {t : Tok} {x : Value} {Q : Value → Shared → Prop} (N : News h₀ L s.heap news) (hm : (l, listOf vs.toArray n) ∈ news) (h0 : 0 ≤ k) (hk : k < 2 ^ 63) (hx : vs[k.toNat]? = some x) (h : Q x s)
    (hs : subscripted slice false (.ref l) (.int k t) = operate [.ref l, .int k t] (getItem (.ref l) (.int k t))) :
    wpAny (model prog w) A (subscriptTail value slice (.ref l) (.int k t)) Q E s :=
  tail_any (N.isList hm).typeIs slot_list_getitem.lookup (wpAny_getItem_list (N.isList hm) h0 hk (by simpa using hx) h) hs
end
noncomputable def Nm (m : Str → Option Value) : List (Str × Value) → Prop
  | [] => True
  | p :: r => m p.1 = some p.2 ∧ Nm m r
theorem Nm.eq {m : Str → Option Value} : ∀ {ps : List (Str × Value)}, Nm m ps → ∀ y, kstB m ps y = m y
  | [], _, _ => rfl
  | p :: r, ⟨h, t⟩, y => by
    show (if y = p.1 then some p.2 else kstB m r y) = m y
    by_cases e : y = p.1
    · rw [if_pos e, e, h]
    · rw [if_neg e]; exact Nm.eq t y
theorem fr_nm {h₀ : Heap} {L : Addr} {h : Heap} {m : Str → Option Value} {ps : List (Str × Value)} (F : Fr h₀ L h m) (e : Nm m ps) : Fr h₀ L h (kstB m ps) := fr_is F fun y => (e.eq y).symm
theorem fr_nm1 {h₀ : Heap} {L : Addr} {h : Heap} {x : Str} {v : Option Value} {m : Str → Option Value} {ps : List (Str × Value)} (F : Fr h₀ L h (fun y => if y = x then v else m y)) (e : Nm m ps) : Fr h₀ L h (fun y => if y = x then v else kstB m ps y) :=
  fr_is F fun y => by rw [e.eq]
theorem with_tok {α : Type} {M : Model} {A : Around} {E : Value → Shared → Prop} {t : Sem α} {h : Heap} {g : Array GenState} {d : Drawn} {X : Nat} {os : OsState} {Q : α → Shared → Prop} (h1 : 1 ≤ X)
    (k : wpAny M A t (fun a s' => 1 ≤ s'.toks → Q a s') (fun _ _ => False) ⟨h, g, d, X, os⟩) : wpAny M A t Q E ⟨h, g, d, X, os⟩ :=
  wpAny_noRaise (wpAny_with_toks (n := 1) h1 (wpAny_mono k (fun _ _ x => x) fun _ _ x => x.elim))
theorem news_sub {h₀ : Heap} {L : Addr} {h : Heap} {l l' : List (Addr × Obj)} (N : News h₀ L h l) (hs : ∀ p ∈ l', p ∈ l) : News h₀ L h l' := fun p hp => N p (hs p hp)
end Mine
end

section
open PySem PySem.W PyProof.Rows PyProof.V
namespace Mine
set_option maxRecDepth 100000
set_option maxHeartbeats 8000000
/-! loops by what holds between the turns, over the frame's map and the ledger; no turn raises; the tokens stay above nought -/
noncomputable def WPost (h₀ : Heap) (L : Addr) (g : Array GenState) (d : Drawn) (os : OsState) (J : Nat → (Str → Option Value) → List (Addr × Obj) → Prop) (Q : Flow → Shared → Prop) (n : Nat) (f : Flow) (s : Shared) : Prop :=
  match f with
  | .next | .cont => ∃ h' tk m₂ news₂ n', s = ⟨h', g, d, tk, os⟩ ∧ 1 ≤ tk ∧ Fr h₀ L h' m₂ ∧ News h₀ L h' news₂ ∧ n' < n ∧ J n' m₂ news₂
  | .brk => Q .next s
  | .ret v => Q (.ret v) s
section
variable {prog : Program} {w : World} {A : Around} {env : Env} {h₀ h : Heap} {L : Addr} {g : Array GenState} {d : Drawn} {tk : Nat} {os : OsState} {m : Str → Option Value} {news : List (Addr × Obj)}
theorem on_my_while : True := by
  (k_with "m:on" => (fail_if_success (k_extra "m:end my_while")))
  trivial
theorem my_while {E : Value → Shared → Prop} {Q : Flow → Shared → Prop} {test : PySem.Expr} {body : List Stmt} {pos : Pos} (J : Nat → (Str → Option Value) → List (Addr × Obj) → Prop) {n₀ : Nat}
    (F : Fr h₀ L h m) (N : News h₀ L h news) (htk : 1 ≤ tk) (hJ : J n₀ m news)
    (turn : ∀ n m₁ news₁ h₁ tk₁, 1 ≤ tk₁ → Fr h₀ L h₁ m₁ → News h₀ L h₁ news₁ → J n m₁ news₁ →
      wpAny (model prog w) A (isTrue test env (eval test env)) (fun b s₂ =>
        if b = true then wpAny (model prog w) A (execs body env) (WPost h₀ L g d os J Q n) (fun _ _ => False) s₂ else Q .next s₂) (fun _ _ => False) ⟨h₁, g, d, tk₁, os⟩) :
    wpAny (model prog w) A (exec (.While test body [] pos) env) Q E ⟨h, g, d, tk, os⟩ := by
  revert prog w A env h₀ h L g d tk os m news E Q test body pos J n₀ F N htk hJ turn
  intro prog w A env h₀ h L g d tk os m news E Q test body pos J n₀ F N htk hJ turn
  refine wpAny_noRaise (wpAny_While (codeAny_mono (codeAny_whileLoop (R := fun r s' => match r with | .ok f => Q f s' | .error _ => False)
    (fun n s' => ∃ h₁ tk₁ m₁ news₁, s' = ⟨h₁, g, d, tk₁, os⟩ ∧ 1 ≤ tk₁ ∧ Fr h₀ L h₁ m₁ ∧ News h₀ L h₁ news₁ ∧ J n m₁ news₁) ?_ n₀ ⟨h, tk, m, news, rfl, htk, F, N, hJ⟩) ?_))
  · rintro n s' ⟨h₁, tk₁, m₁, news₁, rfl, ht₁, F₁, N₁, J₁⟩
    refine wpAny_mono (turn n m₁ news₁ h₁ tk₁ ht₁ F₁ N₁ J₁) ?_ fun _ _ x => x.elim
    intro b s₂ h₂
    cases b with
    | false =>
      simp only [Bool.false_eq_true, if_false] at h₂ ⊢
      exact wpAny_execs_nil h₂
    | true =>
      simp only [if_true] at h₂ ⊢
      refine wpAny_mono h₂ ?_ fun _ _ x => x.elim
      intro f s₃ h₃
      cases f with
      | next =>
        obtain ⟨h', tk, m₂, news₂, n', rfl, ht, F₂, N₂, hn, J₂⟩ := h₃
        exact ⟨n', hn, h', tk, m₂, news₂, rfl, ht, F₂, N₂, J₂⟩
      | cont =>
        obtain ⟨h', tk, m₂, news₂, n', rfl, ht, F₂, N₂, hn, J₂⟩ := h₃
        exact ⟨n', hn, h', tk, m₂, news₂, rfl, ht, F₂, N₂, J₂⟩
      | brk => exact h₃
      | ret v => exact h₃
  · intro r s' x
    cases r with
    | ok f => exact x
    | error e => exact x.elim
theorem off_my_while : True := by
  (k_with "m:end my_while" => skip)
  trivial
noncomputable def ForAt (prog : Program) (w : World) (A : Around) (env : Env) (x : Str) (px : Pos) (body : List Stmt) (Q : Flow → Shared → Prop) (it : Value) (s₂ : Shared) : Prop :=
  codeAny (model prog w) A (.forLoop (.Name x px) it body [] env) (fun r s' => match r with | .ok f => Q f s' | .error _ => False) s₂
theorem my_For {E : Value → Shared → Prop} {Q : Flow → Shared → Prop} {s : Shared} {x : Str} {px pos : Pos} {iter : PySem.Expr} {body : List Stmt} (htk : 1 ≤ s.toks)
    (h : wpAny (model prog w) A (eval iter env) (fun xv s₁ => 1 ≤ s₁.toks → wpAny (model prog w) A (pyIter xv) (fun it s₂ => ForAt prog w A env x px body Q it s₂) (fun _ _ => False) s₁) (fun _ _ => False) s)
    (hs : ∀ x, foldedSetIterable iter env x = pure x) :
    wpAny (model prog w) A (exec (.For (.Name x px) iter body [] pos) env) Q E s := by
  refine wpAny_noRaise (wpAny_For (wpAny_mono (wpAny_with_toks (n := 1) htk (wpAny_mono h (fun _ _ x => x) fun _ _ x => x.elim)) (fun xv s₁ h₁ => wpAny_mono h₁ (fun it s₂ h₂ => codeAny_mono h₂ fun r s' z => ?_) fun _ _ e => e) fun _ _ e => e) hs)
  cases r with
  | ok f => exact z
  | error e => exact z.elim
noncomputable def FPost (h₀ : Heap) (L : Addr) (g : Array GenState) (d : Drawn) (os : OsState) (I : Addr) (it : Obj) (ks : List (Addr × Obj)) (J : (Str → Option Value) → List (Addr × Obj) → Prop) (Q : Flow → Shared → Prop) (f : Flow) (s : Shared) : Prop :=
  match f with
  | .next | .cont => ∃ h' tk m₂ news₂, s = ⟨h', g, d, tk, os⟩ ∧ 1 ≤ tk ∧ Fr h₀ L h' m₂ ∧ News h₀ L h' ((I, it) :: news₂) ∧ (∀ p ∈ news₂, p.1 ≠ I) ∧ (∀ p ∈ ks, p ∈ news₂) ∧ J m₂ news₂
  | .brk => Q .next s
  | .ret v => Q (.ret v) s
theorem on_for_core : True := by
  (k_with "m:on" => (fail_if_success (k_extra "m:end for_core")))
  trivial
theorem for_core {Q : Flow → Shared → Prop} {x : Str} {px : Pos} {body : List Stmt} {I : Addr} {fp : List Addr} {n : Nat} {P : Nat → Value → Prop} {St : Nat → Heap → Prop} (ks : List (Addr × Obj))
    (J : Nat → (Str → Option Value) → List (Addr × Obj) → Prop)
    (W : Walks prog w A I fp [I] n P St) (hx : env.kindOf x = some .local) (hp : (env.scope.kind == .class || (env.scope.kind == .module && env.locals != env.globals)) = false)
    (hfp : ∀ b ∈ fp, b = I ∨ ∃ o, (b, o) ∈ ks) (hI0 : h₀.get? I = none) (hIL : I ≠ env.locals) (hob : ∀ i h, St i h → ∃ o, h.get? I = some o)
    (F : Fr h₀ env.locals h m) (N : News h₀ env.locals h news) (htk : 1 ≤ tk) (hst : St 0 h) (hnw : ∀ p ∈ news, p.1 ≠ I) (hks : ∀ p ∈ ks, p ∈ news) (h0 : J 0 m news)
    (turn : ∀ i v m₁ news₁ h₁ tk₁ it, i < n → P i v → 1 ≤ tk₁ → Fr h₀ env.locals h₁ (fun y => if y = x then some v else m₁ y) → News h₀ env.locals h₁ ((I, it) :: news₁) → (∀ p ∈ news₁, p.1 ≠ I) → (∀ p ∈ ks, p ∈ news₁) → J i m₁ news₁ →
      wpAny (model prog w) A (execs body env) (FPost h₀ env.locals g d os I it ks (J (i + 1)) Q) (fun _ _ => False) ⟨h₁, g, d, tk₁, os⟩)
    (done : ∀ h' tk' m' news', 1 ≤ tk' → Fr h₀ env.locals h' m' → News h₀ env.locals h' news' → (∀ p ∈ ks, p ∈ news') → J n m' news' → Q .next ⟨h', g, d, tk', os⟩) :
    ForAt prog w A env x px body Q (.ref I) ⟨h, g, d, tk, os⟩ := by
  revert prog w A env h₀ h g d tk os m news Q x px body I fp n P St ks J W hx hp hfp hI0 hIL hob F N htk hst hnw hks h0 turn done
  intro prog w A env h₀ h g d tk os m news Q x px body I fp n P St ks J W hx hp hfp hI0 hIL hob F N htk hst hnw hks h0 turn done
  have hLI : env.locals ∉ [I] := fun q => hIL (List.mem_singleton.mp q).symm
  have old : ∀ b o, h₀.get? b = some o → b ∉ [I] := fun b o e hb => by rw [List.mem_singleton.mp hb, hI0] at e; cases e
  refine codeAny_forLoop
    (fun k s' => ∃ h' tk' m' news' i, s' = ⟨h', g, d, tk', os⟩ ∧ 1 ≤ tk' ∧ St i h' ∧ Fr h₀ env.locals h' m' ∧ News h₀ env.locals h' news' ∧ (∀ p ∈ news', p.1 ≠ I) ∧ (∀ p ∈ ks, p ∈ news') ∧ J i m' news' ∧ i ≤ n ∧ k = n + 1 - i) ?_ (n + 1)
    ⟨h, tk, m, news, 0, rfl, htk, hst, F, N, hnw, hks, h0, Nat.zero_le _, rfl⟩
  rintro k s' ⟨h', tk', m', news', i, rfl, ht', hst', F', N', hnw', hks', hJ, hi, rfl⟩
  have next : ∀ h₁ : Heap, (∀ b o, b ∉ [I] → h'.get? b = some o → h₁.get? b = some o) → Fr h₀ env.locals h₁ m' ∧ News h₀ env.locals h₁ news' := fun h₁ hk₁ =>
    ⟨⟨F'.ns.at' fun o e => hk₁ _ o hLI e, fun b o e => hk₁ b o (old b o e) (F'.keep b o e), F'.above⟩, fun p hp => ⟨hk₁ _ _ (fun q => hnw' p hp (List.mem_singleton.mp q)) (N' p hp).1, (N' p hp).2⟩⟩
  by_cases hlt : i < n
  · refine wpAny_with_toks (n := 1) ht' (W.item i _ _ _ hlt hst' ?_)
    intro v h₁ tk₁ hP hst₁ hk₁
    intro ht₁
    obtain ⟨F₁, N₁⟩ := next h₁ hk₁
    refine wpAny_assign_Name (wpAny_storeName_local hx F₁.ns ?_ hp)
    intro h₂ hn₂ hs₂
    have F₂ := F₁.set hn₂ hs₂
    have N₂ := N₁.set hs₂
    have hst₂ : St (i + 1) h₂ := W.frame _ _ _ hst₁ fun b hb o e => (hs₂.2 b fun q => by
      rcases hfp b hb with e' | ⟨o', e'⟩
      · exact hIL (e'.symm.trans q)
      · exact (N' _ (hks' _ e')).2.1 q).trans e
    obtain ⟨it, hit⟩ := hob _ _ hst₂
    have N₃ : News h₀ env.locals h₂ ((I, it) :: news') := fun p hp => by
      rcases List.mem_cons.mp hp with rfl | hp
      · exact ⟨hit, hIL, hI0⟩
      · exact N₂ p hp
    have fin : ∀ s₃, (∃ h' tk m₂ news₂, s₃ = (⟨h', g, d, tk, os⟩ : Shared) ∧ 1 ≤ tk ∧ Fr h₀ env.locals h' m₂ ∧ News h₀ env.locals h' ((I, it) :: news₂) ∧ (∀ p ∈ news₂, p.1 ≠ I) ∧ (∀ p ∈ ks, p ∈ news₂) ∧ J (i + 1) m₂ news₂) →
        ∃ q, q < n + 1 - i ∧ ∃ h' tk' m' news' i', s₃ = (⟨h', g, d, tk', os⟩ : Shared) ∧ 1 ≤ tk' ∧ St i' h' ∧ Fr h₀ env.locals h' m' ∧ News h₀ env.locals h' news' ∧ (∀ p ∈ news', p.1 ≠ I) ∧ (∀ p ∈ ks, p ∈ news') ∧ J i' m' news' ∧ i' ≤ n ∧ q = n + 1 - i' := by
      rintro s₃ ⟨h₃, tk₃, m₂, news₂, rfl, ht₃, F₃, N₃', hnw₃, hks₃, hJ₃⟩
      refine ⟨n + 1 - (i + 1), by first | exact meas1 (by assumption) | omega, h₃, tk₃, m₂, news₂, i + 1, rfl, ht₃, ?_, F₃, fun p hp => N₃' p (.tail _ hp), hnw₃, hks₃, hJ₃, hlt, rfl⟩
      refine W.frame _ _ _ hst₂ ?_
      intro b hb o e
      rcases hfp b hb with e' | ⟨o', e'⟩
      · subst e'
        rw [hit] at e
        cases e
        exact (N₃' _ (.head _)).1
      · have q1 := (N₃ _ (.tail _ (hks' _ e'))).1
        rw [e] at q1
        cases q1
        exact (N₃' _ (.tail _ (hks₃ _ e'))).1
    refine wpAny_mono (turn i v m' news' h₂ _ it hlt hP (Nat.le_add_left 1 tk₁) F₂ N₃ hnw' hks' hJ) ?_ fun _ _ e => e.elim
    intro f s₃ h₃
    cases f with
    | ret v => exact h₃
    | brk => exact h₃
    | cont => exact fin s₃ h₃
    | next => exact fin s₃ h₃
  · have hin : i = n := by omega
    subst hin
    refine wpAny_with_toks (n := 1) ht' (W.done _ _ _ hst' ?_)
    intro h₁ tk₁ hk₁
    intro ht₁
    obtain ⟨F₁, N₁⟩ := next h₁ hk₁
    exact wpAny_execs_nil (done h₁ tk₁ m' news' ht₁ F₁ N₁ hks' hJ)
theorem off_for_core : True := by
  (k_with "m:end for_core" => skip)
  trivial
theorem my_list {E : Value → Shared → Prop} {Q : Flow → Shared → Prop} {x : Str} {px : Pos} {body : List Stmt} {l : Addr} {vs : List Value} {nn : Nat} (J : Nat → (Str → Option Value) → List (Addr × Obj) → Prop)
    (hh : A.handled = none) (hx : env.kindOf x = some .local) (hp : (env.scope.kind == .class || (env.scope.kind == .module && env.locals != env.globals)) = false)
    (hm : (l, listOf vs.toArray nn) ∈ news) (F : Fr h₀ env.locals h m) (N : News h₀ env.locals h news) (htk : 1 ≤ tk) (h0 : J 0 m news)
    (turn : ∀ (i : Nat) (v : Value) m₁ news₁ h₁ tk₁ I it, vs[i]? = some v → 1 ≤ tk₁ → Fr h₀ env.locals h₁ (fun y => if y = x then some v else m₁ y) → News h₀ env.locals h₁ ((I, it) :: news₁) → (∀ p ∈ news₁, p.1 ≠ I) → (l, listOf vs.toArray nn) ∈ news₁ → J i m₁ news₁ →
      wpAny (model prog w) A (execs body env) (FPost h₀ env.locals g d os I it [(l, listOf vs.toArray nn)] (J (i + 1)) Q) (fun _ _ => False) ⟨h₁, g, d, tk₁, os⟩)
    (done : ∀ h' tk' m' news', 1 ≤ tk' → Fr h₀ env.locals h' m' → News h₀ env.locals h' news' → (l, listOf vs.toArray nn) ∈ news' → J vs.length m' news' → Q .next ⟨h', g, d, tk', os⟩) :
    wpAny (model prog w) A (pyIter (.ref l)) (fun it s₂ => ForAt prog w A env x px body Q it s₂) E ⟨h, g, d, tk, os⟩ := by
  have hls : h.IsList l vs.toArray := N.isList hm
  have hll : l ≠ env.locals := (N _ hm).2.1
  have hlt : l < h.objs.size := Heap.lt_size (N _ hm).1
  refine wpAny_pyIter_list (s := ⟨h, g, d, tk, os⟩) hls ?_
  have W := Walks.list (prog := prog) (w := w) hh h.objs.size l (Nat.ne_of_lt hlt) vs.toArray
  have hsz : (vs.toArray).size = vs.length := List.size_toArray ..
  rw [hsz] at W
  refine for_core [(l, listOf vs.toArray nn)] J W hx hp ?_ (next_is_new F) (Nat.ne_of_gt F.ns.lt) (fun i h st => ⟨_, st.1.choose_spec.1⟩) (F.push _) (fun p hp => ⟨Heap.get?_push_of_some _ (N p hp).1, (N p hp).2⟩) htk ⟨⟨_, Heap.get?_push_size _ rfl, rfl, rfl⟩, hls.at fun o e => Heap.get?_push_of_some _ e⟩ (fun p hp => Nat.ne_of_lt (Heap.lt_size (N p hp).1)) (fun p hp => by rw [List.mem_singleton.mp hp]; exact hm) h0 ?_ ?_
  · intro b hb
    rcases List.mem_cons.mp hb with e | hb
    · exact .inl e
    · exact .inr ⟨_, by rw [List.mem_singleton.mp hb]; exact .head _⟩
  · intro i v m₁ news₁ h₁ tk₁ it hi hP ht F₁ N₁ hn hk hJ
    exact turn i v m₁ news₁ h₁ tk₁ _ it (by simpa using hP) ht F₁ N₁ hn (hk _ (.head _)) hJ
  · intro h' tk' m' news' ht F' N' hk hJ
    exact done h' tk' m' news' ht F' N' (hk _ (.head _)) hJ
theorem my_range {E : Value → Shared → Prop} {Q : Flow → Shared → Prop} {x : Str} {px : Pos} {body : List Stmt} {r : Addr} {a b : Int} {t u v : Tok} {n : Nat} (J : Nat → (Str → Option Value) → List (Addr × Obj) → Prop)
    (hh : A.handled = none) (hx : env.kindOf x = some .local) (hp : (env.scope.kind == .class || (env.scope.kind == .module && env.locals != env.globals)) = false)
    (hr : IsRange h r a b 1 t u v) (hsmall : Builtin.Range.small a b 1 = true) (hn : Builtin.Range.rangeSize a b 1 = (n : Int)) (F : Fr h₀ env.locals h m) (N : News h₀ env.locals h news) (htk : 1 ≤ tk) (h0 : J 0 m news)
    (turn : ∀ (i : Nat) (t : Tok) m₁ news₁ h₁ tk₁ I it, i < n → 1 ≤ tk₁ → Fr h₀ env.locals h₁ (fun y => if y = x then some (.int (a + i) t) else m₁ y) → News h₀ env.locals h₁ ((I, it) :: news₁) → (∀ p ∈ news₁, p.1 ≠ I) → J i m₁ news₁ →
      wpAny (model prog w) A (execs body env) (FPost h₀ env.locals g d os I it [] (J (i + 1)) Q) (fun _ _ => False) ⟨h₁, g, d, tk₁, os⟩)
    (done : ∀ h' tk' m' news', 1 ≤ tk' → Fr h₀ env.locals h' m' → News h₀ env.locals h' news' → J n m' news' → Q .next ⟨h', g, d, tk', os⟩) :
    wpAny (model prog w) A (pyIter (.ref r)) (fun it s₂ => ForAt prog w A env x px body Q it s₂) E ⟨h, g, d, tk, os⟩ := by
  refine wpAny_pyIter_range (s := ⟨h, g, d, tk, os⟩) hr hsmall ?_
  have W : Walks prog w A h.objs.size [h.objs.size] [h.objs.size] n (fun i v => i < n ∧ ∃ t, v = .int (a + i * 1) t) (fun i h' => IsRangeIter h' h.objs.size (a + (i : Nat) * 1) ((n : Int) - (i : Nat)) 1) := (Walks.range hh _ a 1 n).bound
  refine for_core [] J W hx hp (fun b hb => .inl (List.mem_singleton.mp hb)) (next_is_new F) (Nat.ne_of_gt F.ns.lt) (fun i h st => ⟨_, st⟩) (F.push _) (fun p hp => ⟨Heap.get?_push_of_some _ (N p hp).1, (N p hp).2⟩) htk (by show IsRangeIter _ _ _ _ _; rw [hn]; simpa using Heap.get?_push_size _ rfl) (fun p hp => Nat.ne_of_lt (Heap.lt_size (N p hp).1)) (fun p hp => nomatch hp) h0 ?_ ?_
  · rintro i v m₁ news₁ h₁ tk₁ it hi ⟨_, t', rfl⟩ ht F₁ N₁ hn hk hJ
    rw [Int.mul_one] at F₁
    exact turn i t' m₁ news₁ h₁ tk₁ _ it hi ht F₁ N₁ hn hJ
  · intro h' tk' m' news' ht F' N' _ hJ
    exact done h' tk' m' news' ht F' N' hJ
end
end Mine
end

section
open PySem PySem.W PyProof.Rows
namespace Mine
set_option maxRecDepth 100000
set_option maxHeartbeats 8000000
noncomputable def AllNe (d : Nat) : List (Addr × Obj) → Prop
  | [] => True
  | p :: r => @Ne Nat p.1 d ∧ AllNe d r
theorem AllNe_q0 (d : Nat) : AllNe d [] = True := rfl
theorem AllNe_q1 (d : Nat) (p : Addr × Obj) (r : List (Addr × Obj)) : AllNe d (p :: r) = (@Ne Nat p.1 d ∧ AllNe d r) := rfl
theorem allNe_of {d : Addr} : ∀ {l : List (Addr × Obj)}, (∀ p ∈ l, p.1 ≠ d) → AllNe d l
  | [], _ => trivial
  | p :: _, h => ⟨h p (.head _), allNe_of fun q hq => h q (.tail _ hq)⟩
theorem tail_ne {a b : List (Addr × Obj)} {X T B : Nat} (h1 : ∀ q ∈ a, @LT.lt Nat _ T q.1) (h2 : ∀ p ∈ b, p.1 < B) (h3 : X ≤ T) (h4 : B ≤ X) : ∀ q ∈ a ++ b, q.1 ≠ X := fun q hq => by
  show @Ne Nat q.1 X
  rcases List.mem_append.mp hq with h | h
  · have := h1 q h; omega
  · have : @LT.lt Nat _ q.1 B := h2 q h; omega
theorem sub_c {A : Type} {P : A → Prop} {a : A} {l : List A} (ha : P a) (hl : ∀ q ∈ l, P q) : ∀ q ∈ a :: l, P q := List.forall_mem_cons.mpr ⟨ha, hl⟩
theorem app_c {A : Type} {P : A → Prop} {l r : List A} (hl : ∀ q ∈ l, P q) (hr : ∀ q ∈ r, P q) : ∀ q ∈ l ++ r, P q := fun q hq => (List.mem_append.mp hq).elim (hl q) (hr q)
theorem mrot {A : Type} {x y : A} {l l' : List A} (h : ∀ p ∈ y :: l, p ∈ l') : ∀ p ∈ y :: x :: l, p ∈ x :: l' :=
  sub_c (.tail _ (h y (.head _))) (sub_c (.head _) fun q hq => .tail _ (h q (.tail _ hq)))
theorem rot1 {h₀ h : Heap} {L : Addr} {x0 x1 : Addr × Obj} {r : List (Addr × Obj)} (N : News h₀ L h (x0 :: x1 :: r)) : News h₀ L h (x1 :: x0 :: r) := news_sub N (mrot (fun _ h => h))
theorem rot2 {h₀ h : Heap} {L : Addr} {x0 x1 x2 : Addr × Obj} {r : List (Addr × Obj)} (N : News h₀ L h (x0 :: x1 :: x2 :: r)) : News h₀ L h (x2 :: x0 :: x1 :: r) := news_sub N (mrot (mrot (fun _ h => h)))
theorem rot3 {h₀ h : Heap} {L : Addr} {x0 x1 x2 x3 : Addr × Obj} {r : List (Addr × Obj)} (N : News h₀ L h (x0 :: x1 :: x2 :: x3 :: r)) : News h₀ L h (x3 :: x0 :: x1 :: x2 :: r) := news_sub N (mrot (mrot (mrot (fun _ h => h))))
theorem rot4 {h₀ h : Heap} {L : Addr} {x0 x1 x2 x3 x4 : Addr × Obj} {r : List (Addr × Obj)} (N : News h₀ L h (x0 :: x1 :: x2 :: x3 :: x4 :: r)) : News h₀ L h (x4 :: x0 :: x1 :: x2 :: x3 :: r) := news_sub N (mrot (mrot (mrot (mrot (fun _ h => h)))))
theorem rot5 {h₀ h : Heap} {L : Addr} {x0 x1 x2 x3 x4 x5 : Addr × Obj} {r : List (Addr × Obj)} (N : News h₀ L h (x0 :: x1 :: x2 :: x3 :: x4 :: x5 :: r)) : News h₀ L h (x5 :: x0 :: x1 :: x2 :: x3 :: x4 :: r) := news_sub N (mrot (mrot (mrot (mrot (mrot (fun _ h => h))))))
theorem rot6 {h₀ h : Heap} {L : Addr} {x0 x1 x2 x3 x4 x5 x6 : Addr × Obj} {r : List (Addr × Obj)} (N : News h₀ L h (x0 :: x1 :: x2 :: x3 :: x4 :: x5 :: x6 :: r)) : News h₀ L h (x6 :: x0 :: x1 :: x2 :: x3 :: x4 :: x5 :: r) := news_sub N (mrot (mrot (mrot (mrot (mrot (mrot (fun _ h => h)))))))
theorem rot7 {h₀ h : Heap} {L : Addr} {x0 x1 x2 x3 x4 x5 x6 x7 : Addr × Obj} {r : List (Addr × Obj)} (N : News h₀ L h (x0 :: x1 :: x2 :: x3 :: x4 :: x5 :: x6 :: x7 :: r)) : News h₀ L h (x7 :: x0 :: x1 :: x2 :: x3 :: x4 :: x5 :: x6 :: r) := news_sub N (mrot (mrot (mrot (mrot (mrot (mrot (mrot (fun _ h => h))))))))
section
variable {prog : Program} {w : World} {A : Around} {E : Value → Shared → Prop} {s : Shared} {h₀ : Heap} {L l : Addr} {m : Str → Option Value} {rest : List (Addr × Obj)} {vs : List Value} {n : Nat}
theorem my_append {v : Value} {Q : Value → Shared → Prop} (F : Fr h₀ L s.heap m) (N : News h₀ L s.heap ((l, listOf vs.toArray n) :: rest)) (hne : ∀ q ∈ rest, q.1 ≠ l) (hl : vs.length ≤ 1000)
    (h : ∀ h', Fr h₀ L h' m → News h₀ L h' ((l, listOf (vs ++ [v]).toArray (n + 1)) :: rest) → Q .none { s with heap := h' }) :
    wpAny (model prog w) A (call (.builtin "list.append") [.ref l, v]) Q E s :=
  append_K F N (Upd.head hne) (fun h' F' N' => h h' F' (by rw [List.push_toArray] at N'; exact N')) (by rw [List.size_toArray, sizeLine_eq]; omega)
end
/-- a proposition that no line opens -/
noncomputable def Hid (P : Prop) : Prop := P
theorem hid {P : Prop} (h : P) : Hid P := h
theorem cut_fr {α : Type} {M : Model} {A : Around} {E : Value → Shared → Prop} {t : Sem α} {h h₀ : Heap} {L : Addr} {g : Array GenState} {d : Drawn} {tk : Nat} {os : OsState} {Q : α → Shared → Prop} {m : Str → Option Value} (_F : Fr h₀ L h m) (P : (Str → Option Value) → α → Shared → Prop)
    (h1 : wpAny M A t (fun a s' => Hid (P m a s')) (fun _ _ => False) ⟨h, g, d, tk, os⟩) (h2 : ∀ a s', P m a s' → Q a s') : wpAny M A t Q E ⟨h, g, d, tk, os⟩ := wpAny_mono h1 (fun a s' x => h2 a s' x) fun _ _ x => x.elim
end Mine
end

section
open PySem PySem.W PyProof.Rows
namespace Mine
set_option maxRecDepth 100000
set_option maxHeartbeats 8000000
/-! a dict of the program's own, seen from its literal entries; its items as a list -/
noncomputable def keyOf : Value → Str
  | .str x _ => x
  | _ => default
noncomputable def kvsOf (es : List DictEntry) : List (Str × Value) := es.map fun e => (keyOf e.key, e.val)
theorem pairs_lit {prog : Program} {w : World} : ∀ {l : List DictEntry}, KeysLit w.params l → Pairs (PySem.strKind prog w) l (kvsOf l) := by
  intro l
  induction l with
  | nil => intro _; exact .nil
  | cons e r ih =>
    intro h
    obtain ⟨⟨x, t, e1, e2⟩, hr⟩ := h
    refine .cons ?_ rfl (ih hr)
    show Value.isStrOf (keyOf e.key) e.key = true
    rw [e1]
    exact strKind_is prog w x t
theorem dictAt_K {prog : Program} {w : World} {K : Frag} {h : Heap} {a : Addr} {es : Array DictEntry} {n : Nat} (X : K.In h) (hl : K.lookup a = some ⟨.type "dict", none, .dict es n, #[]⟩) (hk : KeysLit w.params es.toList)
    (hn : ((kvsOf es.toList).map (·.1)).Nodup) : h.DictAt (PySem.strKind prog w) a (kvsOf es.toList) n :=
  ⟨_, es, X _ _ hl, ⟨rfl, rfl, rfl⟩, rfl, fun e he => by
    obtain ⟨x, t, e1, e2⟩ := hk.all e (Array.mem_toList_iff.mpr he)
    exact ⟨x, by rw [e1]; exact strKind_is prog w x t, e2⟩, pairs_lit hk, hn⟩
noncomputable abbrev viewOf (a : Addr) : Obj := { cls := .type "dict_items", data := .fields #[.ref a] }
section
variable {prog : Program} {w : World} {A : Around} {E : Value → Shared → Prop} {s : Shared} {h₀ : Heap} {L a V : Addr} {m : Str → Option Value} {K : Frag} {es : Array DictEntry} {n : Nat} {news : List (Addr × Obj)} {Q : Value → Shared → Prop}
theorem news_new (F : Fr h₀ L s.heap m) (N : News h₀ L s.heap news) (o : Obj) (ho : o.isFreed = false) : News h₀ L (s.heap.push o) ((s.heap.objs.size, o) :: news) := fun p hp => by
  rcases List.mem_cons.mp hp with rfl | hp
  · exact ⟨Heap.get?_push_size _ ho, Nat.ne_of_gt F.ns.lt, next_is_new F⟩
  · exact ⟨Heap.get?_push_of_some _ (N p hp).1, (N p hp).2⟩
theorem method_K {name : Str} {id : String} {pl : Sem Bool} {Q : Value × List Value → Shared → Prop} (slot : Slot "dict" name id) (hty : typeOf (.builtin id) = pure (.type "method_descriptor"))
    (F : Fr h₀ L s.heap m) (X : K.In h₀) (hl : K.lookup a = some ⟨.type "dict", none, .dict es n, #[]⟩) (h : Q (.builtin id, [.ref a]) s) : wpAny (model prog w) A (getMethod (.ref a) name pl) Q E s :=
  getMethod_builtin ⟨_, (X.keeps F.keep) _ _ hl, rfl⟩ PySem.F.plainAttrs_dict slot hty (fun b e => by cases e; exact ⟨_, (X.keeps F.keep) _ _ hl, rfl⟩) h
theorem items_K (F : Fr h₀ L s.heap m) (N : News h₀ L s.heap news) (X : K.In h₀) (hl : K.lookup a = some ⟨.type "dict", none, .dict es n, #[]⟩) (hk : KeysLit w.params es.toList)
    (hn : decide ((kvsOf es.toList).map (·.1)).Nodup = true) (lo : (a == sysModules) = false)
    (h : ∀ (V : Nat) h', Fr h₀ L h' m → News h₀ L h' ((V, viewOf a) :: news) → (∀ p ∈ news, p.1 < V) → Q (.ref V) { s with heap := h' }) : wpAny (model prog w) A (call (.builtin "dict.items") [.ref a]) Q E s := by
  have hD := dictAt_K (prog := prog) (X.keeps F.keep) hl hk (of_decide_eq_true hn)
  exact call_meetsIn PySem.F.slot_dict_items hD.dictOf.typeIs PySem.F.entry_dict_items (PySem.F.args_dict_items_1 _) (meets_dict_items (PySem.strKind prog w) a lo)
    ⟨⟨_, hD.dictOf⟩, h _ _ (F.push _) (news_new F N _ rfl) fun p hp => Heap.lt_size (N p hp).1⟩
theorem list_K (hh : A.handled = none) (F : Fr h₀ L s.heap m) (N : News h₀ L s.heap news) (X : K.In h₀) (hm : (V, viewOf a) ∈ news) (hl : K.lookup a = some ⟨.type "dict", none, .dict es n, #[]⟩) (hk : KeysLit w.params es.toList)
    (hn : decide ((kvsOf es.toList).map (·.1)).Nodup = true) (hz : decide ((kvsOf es.toList).length ≤ sizeLine) = true)
    (h : ∀ (S : Nat) acc c h' tk, Fr h₀ L h' m → News h₀ L h' ((S, listOf acc c) :: news) → (∀ p ∈ news, p.1 < S) → Q (.ref S) { s with heap := h', toks := tk }) : wpAny (model prog w) A (call (.type "list") [.ref V]) Q E s := by
  have hD := dictAt_K (prog := prog) (X.keeps F.keep) hl hk (of_decide_eq_true hn)
  refine kdx_call (knd := PySem.strKind prog w) hh ⟨_, (N _ hm).1, rfl, rfl⟩ hD (of_decide_eq_true hz) ?_
  intro h' tk acc c as hkeep hS _ _ _
  have F' : Fr h₀ L h' m := ⟨F.ns.at' fun o e => hkeep _ o e, fun b o e => hkeep b o (F.keep b o e), F.above⟩
  refine h s.heap.objs.size acc c h' tk F' (fun p hp => ?_) (fun p hp => Heap.lt_size (N p hp).1)
  rcases List.mem_cons.mp hp with rfl | hp
  · exact ⟨hS, Nat.ne_of_gt F.ns.lt, next_is_new F⟩
  · exact ⟨hkeep _ _ (N p hp).1, (N p hp).2⟩
end
theorem allLt_of {d : Addr} : ∀ {l : List (Addr × Obj)}, (∀ p ∈ l, p.1 < d) → AllLt d l := by
  intro l
  induction l with
  | nil => intro _; trivial
  | cons q r ih => intro h; exact ⟨h q (.head _), ih fun p hp => h p (.tail _ hp)⟩
end Mine
end

section
open PySem PySem.W PyProof.Rows
namespace Mine
set_option maxRecDepth 100000
set_option maxHeartbeats 8000000
/-! the writer's own dict, and what of the writer matters -/
noncomputable abbrev kE (w : World) (x : String) (t : Tok) (v : Value) : DictEntry := { hash := PyData.keyHash w.params (Str.ofString x), key := .str (Str.ofString x) t, val := v }
noncomputable abbrev tg17 (w : World) (kk : Nat → Tok) (aW lD lDS lNS lPM lPS : Nat) (seen done : Bool) : List DictEntry :=
  [kE w "_write" (kk 0) (.ref aW), kE w "_data" (kk 1) (.ref lD), kE w "_with_comments" (kk 2) (.bool false), kE w "_strip_text" (kk 3) (.bool false), kE w "_exclude_attrs" (kk 4) .none, kE w "_exclude_tags" (kk 5) .none,
   kE w "_rewrite_prefixes" (kk 6) (.bool false), kE w "_qname_aware_tags" (kk 7) .none, kE w "_find_qname_aware_attrs" (kk 8) .none, kE w "_declared_ns_stack" (kk 9) (.ref lDS), kE w "_ns_stack" (kk 10) (.ref lNS),
   kE w "_prefix_map" (kk 11) (.ref lPM), kE w "_preserve_space" (kk 12) (.ref lPS), kE w "_pending_start" (kk 13) .none, kE w "_root_seen" (kk 14) (.bool seen), kE w "_root_done" (kk 15) (.bool done), kE w "_ignored_depth" (kk 16) (.int 0 (kk 17))]
noncomputable abbrev tg18 (w : World) (kk : Nat → Tok) (aW lD lDS lNS lPM lPS : Nat) (seen done : Bool) : List DictEntry :=
  [kE w "_write" (kk 0) (.ref aW), kE w "_data" (kk 1) (.ref lD), kE w "_with_comments" (kk 2) (.bool false), kE w "_strip_text" (kk 3) (.bool false), kE w "_exclude_attrs" (kk 4) .none, kE w "_exclude_tags" (kk 5) .none,
   kE w "_rewrite_prefixes" (kk 6) (.bool false), kE w "_qname_aware_tags" (kk 7) .none, kE w "_find_qname_aware_attrs" (kk 8) .none, kE w "_declared_ns_stack" (kk 9) (.ref lDS), kE w "_ns_stack" (kk 10) (.ref lNS),
   kE w "_prefix_map" (kk 11) (.ref lPM), kE w "_preserve_space" (kk 12) (.ref lPS), kE w "_pending_start" (kk 13) .none, kE w "_root_seen" (kk 14) (.bool seen), kE w "_root_done" (kk 15) (.bool done), kE w "_ignored_depth" (kk 16) (.int 0 (kk 17)),
   kE w "_iter_namespaces" (kk 18) (.ref 332)]
noncomputable abbrev xmlTup (t1 t2 : Tok) : Obj := { cls := .type "tuple", data := .seq #[.str (Str.ofString "http://www.w3.org/XML/1998/namespace") t1, .str (Str.ofString "xml") t2] }
noncomputable abbrev kkOf (l : List Tok) : Nat → Tok := fun i => l.getD i 0
theorem sub_cons {x : Addr × Obj} {l' l : List (Addr × Obj)} (h1 : x ∈ l) (h2 : ∀ p ∈ l', p ∈ l) : ∀ p ∈ x :: l', p ∈ l := fun p hp => by
  rcases List.mem_cons.mp hp with rfl | hp
  · exact h1
  · exact h2 p hp
end Mine
end

section
open PySem PySem.W PyProof.Rows PySem.Spec PySem.Calls PyProof.Rows.LCg
namespace Mine
set_option maxRecDepth 100000
set_option maxHeartbeats 8000000
/-! a list comprehension of two clauses: the first over a range, the second over lists of the ledger, its own name the element -/
noncomputable abbrev two (elt t1 i1 t2 i2 : PySem.Expr) (scope : Scope) (pos : Pos) : PySem.Expr := .ListComp elt [⟨t1, i1, [], 0⟩, ⟨t2, i2, [], 0⟩] scope pos
theorem compTurn_two0 (elt t1 i1 t2 i2 : PySem.Expr) (scope : Scope) (pos : Pos) (it acc : Value) (env : Env) :
    compTurn (two elt t1 i1 t2 i2 scope pos) 0 it acc env = (standAt i1.pos >>= fun _ => pyNext it >>= fun r => match r with
      | none => pure (.done .next)
      | some v => letOwnedTupleGo t1 it v >>= fun _ => assign t1 env v >>= fun _ =>
        (eval i2 env >>= fun x => standAt i2.pos >>= fun _ => foldedSetIterable i2 env x >>= fun x => holding [x] (pyIter x) >>= fun it2 => runOwn (.compStart (two elt t1 i1 t2 i2 scope pos) 1 it2 acc env) env >>= fun _ => 
          again (.compLoop (two elt t1 i1 t2 i2 scope pos) 0 it acc env))) := by rfl
theorem compTurn_two1 (elt t1 i1 t2 i2 : PySem.Expr) (scope : Scope) (pos : Pos) (it acc : Value) (env : Env) :
    compTurn (two elt t1 i1 t2 i2 scope pos) 1 it acc env = (standAt i2.pos >>= fun _ => pyNext it >>= fun r => match r with
      | none => pure (.done .next)
      | some v => letOwnedTupleGo t2 it v >>= fun _ => assign t2 env v >>= fun _ =>
        (eval elt env >>= fun x => call (.builtin "list.append") [acc, x] >>= fun _ => pure ()) >>= fun _ =>
          again (.compLoop (two elt t1 i1 t2 i2 scope pos) 1 it acc env)) := by rfl
section
variable {prog : Program} {w : World} {A : Around} {E : Value → Shared → Prop} {R : Result → Shared → Prop} {s : Shared} {env : Env}
theorem compStart_two1 {elt t1 i1 t2 i2 scope pos it acc env}
    (h0 : codeAny (model prog w) A (.compLoop (two elt t1 i1 t2 i2 scope pos) 1 it acc env) R s)
    (h : wpAny (model prog w) A (pyIter it) (fun it' s' => codeAny (model prog w) A (.compLoop (two elt t1 i1 t2 i2 scope pos) 1 it' acc env) R s')
      (notedBy (model prog w) A env fun x s' => R (.error x) s') s) :
    codeAny (model prog w) A (.compStart (two elt t1 i1 t2 i2 scope pos) 1 it acc env) R s := by
  refine codeAny_of_tree ?_
  show wpAny _ _ ((compStart (two elt t1 i1 t2 i2 scope pos) 1 it acc env).onRaise (fun x => do noteFrame x env; standAt theWindowsPlace)) _ _ s
  refine wpAny_notedAt ?_
  unfold compStart
  show wpAny _ _ (ask >>= _) _ _ s
  refine wpAny_bind (wpAny_askSetting (wpAny_ite ?_))
  split
  · first
      | exact wpAny_bind (wpAny_pure (wpAny_pure (And.intro rfl h0)))
      | exact wpAny_pure (And.intro rfl h0)
  · first
      | exact wpAny_bind (wpAny_rule (wpAny_bind (wpAny_standAt (wpAny_bind (wpAny_mono h (fun it' s' h' => wpAny_pure (And.intro rfl h')) fun _ _ x => x)))))
      | (refine wpAny_bind (wpAny_rule ?_); show wpAny _ _ (standAt i2.pos >>= _) _ _ s; exact wpAny_bind (wpAny_standAt (wpAny_bind (wpAny_mono h (fun it' s' h' => wpAny_pure (And.intro rfl h')) fun _ _ x => x))))
theorem on_comp_inner : True := by
  (k_with "m:on" => (fail_if_success (k_extra "m:end comp_inner")))
  trivial
theorem comp_inner {t1 i1 i2 : PySem.Expr} {y : Str} {py py2 : Pos} {scope : Scope} {pos : Pos} {cl : List (Str × Addr)} {I2 ax D C : Addr} {its ys : List Value} {m : Str → Option Value}
    (hh : A.handled = none) (hkind : scope.kind = .function) (hy : scope.names.lookup y = some .local) (hd : (y == ("__debug__" : Str)) = false) (hIa : ax ≠ I2) (hID : I2 ≠ D) (hIC : I2 ≠ C) (haD : ax ≠ D) (haC : ax ≠ C) (hDC : D ≠ C)
    (hit : s.heap.IsListIter I2 ax 0) (hl : s.heap.IsList ax its.toArray) (hn : s.heap.Ns C m) (hD : s.heap.get? D = some (lst ys)) (hsz : ys.length + its.length ≤ 1000)
    (fin : ∀ h' tk' m', (∀ b o, b ≠ I2 → b ≠ D → b ≠ C → s.heap.get? b = some o → h'.get? b = some o) → h'.Ns C m' → h'.get? D = some (lst (ys ++ its)) → R (.ok .next) { s with heap := h', toks := tk' }) :
    codeAny (model prog w) A (.compLoop (two (.Name y py) t1 i1 (.Name y py2) i2 scope pos) 1 (.ref I2) (.ref D) (compEnvC scope cl C env)) R s := by
  revert prog w A R s env t1 i1 i2 y py py2 scope pos cl I2 ax D C its ys m hh hkind hy hd hIa hID hIC haD haC hDC hit hl hn hD hsz fin
  intro prog w A R s env t1 i1 i2 y py py2 scope pos cl I2 ax D C its ys m hh hkind hy hd hIa hID hIC haD haC hDC hit hl hn hD hsz fin
  have W := Walks.list (prog := prog) (w := w) hh I2 ax hIa its.toArray
  have hz : its.toArray.size = its.length := List.size_toArray ..
  rw [hz] at W
  refine codeAny_loop rfl (fun k s' => ∃ h' tk i m', s' = { s with heap := h', toks := tk } ∧ i ≤ its.length ∧ k = its.length + 1 - i ∧ (h'.IsListIter I2 ax i ∧ h'.IsList ax its.toArray) ∧ h'.Ns C m' ∧ h'.get? D = some (lst (ys ++ its.take i)) ∧
    (∀ b o, b ≠ I2 → b ≠ D → b ≠ C → s.heap.get? b = some o → h'.get? b = some o)) ?_ (its.length + 1) ⟨s.heap, s.toks, 0, m, rfl, Nat.zero_le _, rfl, ⟨hit, hl⟩, hn, by simpa using hD, fun b o _ _ _ e => e⟩
  rintro k s' ⟨h', tk, i, m', rfl, hi, rfl, hst, hn', hD', hk'⟩
  show wpAny _ A ((compTurn (two (.Name y py) t1 i1 (.Name y py2) i2 scope pos) 1 (.ref I2) (.ref D) (compEnvC scope cl C env)).onRaise (fun x => do noteFrame x (compEnvC scope cl C env); theTreesLotGoes x)) _ _ _
  refine wpAny_noted ?_
  rw [compTurn_two1]
  refine wpAny_bind (wpAny_standAt (wpAny_bind ?_))
  by_cases hlt : i < its.length
  · refine W.item i _ _ _ hlt hst ?_
    intro v h₂ tk₂ hP hst₂ hk₂
    have keep2 : ∀ b o, b ≠ I2 → h'.get? b = some o → h₂.get? b = some o := fun b o hb e => hk₂ b o (by simpa using hb) e
    refine wpAny_bind (wpAny_of_eq (by rfl) ?_)
    refine wpAny_bind (wpAny_assign_Name (wpAny_storeName_local (lookup_relabel_local hy) (hn'.at' fun o e => keep2 _ o (Ne.symm hIC) e) ?_ (by simp [compEnvC, relabel, hkind])))
    intro h₃ hn₃ hs₃
    have keep3 : ∀ b o, b ≠ C → h₂.get? b = some o → h₃.get? b = some o := fun b o hb e => hs₃.extBut b o hb e
    have hst₃ : h₃.IsListIter I2 ax (i + 1) ∧ h₃.IsList ax its.toArray := W.frame _ _ _ hst₂ fun b hb o e => keep3 b o (fun q => by
      simp at hb
      rcases hb with rfl | rfl
      · exact hIC q
      · exact haC q) e
    refine wpAny_bind (wpAny_bind (wpAny_Name (wpAny_loadName_local (by simp [compEnvC, relabel, hkind]) (lookup_relabel_local hy) hn₃ (v := v) (by simp) ?_) hd))
    have hD₃ : h₃.get? D = some (lst (ys ++ its.take i)) := keep3 _ _ hDC (keep2 _ _ (Ne.symm hID) hD')
    have hv : its[i]? = some v := by simpa using hP
    refine wpAny_bind (append_at (hsz := by show (ys ++ its.take i).toArray.size ≤ sizeLine; rw [List.size_toArray, List.length_append, List.length_take, sizeLine_eq]; omega) hD₃ ?_)
    intro h₅ hs₅ hD₅
    refine wpAny_pure (wpAny_pure ⟨rfl, its.length + 1 - (i + 1), by first | exact meas1 (by assumption) | omega, h₅, _, i + 1, _, rfl, hlt, rfl, W.frame _ _ _ hst₃ fun b hb o e => hs₅.extBut b o ?_ e, hn₃.sameBut hs₅ (Ne.symm hDC), ?_, fun b o h1 h2 h3 e => hs₅.extBut b o h2 (keep3 b o h3 (keep2 b o h1 (hk' b o h1 h2 h3 e)))⟩)
    · intro q
      simp at hb
      rcases hb with rfl | rfl
      · exact hID q
      · exact haD q
    · rw [hD₅]
      have : its.take (i + 1) = its.take i ++ [v] := by rw [List.take_add_one, hv]; rfl
      rw [this, ← List.append_assoc]
      exact congrArg some (lst_snoc _ _)
  · have hin : i = its.length := by omega
    subst hin
    refine W.done _ _ _ hst ?_
    intro h₂ tk₂ hk₂
    refine wpAny_pure (fin h₂ tk₂ m' (fun b o h1 h2 h3 e => hk₂ b o (by simpa using h1) (hk' b o h1 h2 h3 e)) (hn'.at' fun o e => hk₂ _ o (by simpa using Ne.symm hIC) e) ?_)
    rw [List.take_length] at hD'
    exact hk₂ _ _ (by simpa using Ne.symm hID) hD'
theorem off_comp_inner : True := by
  (k_with "m:end comp_inner" => skip)
  trivial
noncomputable def Turn2 (prog : Program) (w : World) (A : Around) (h₀ : Heap) (L : Addr) (m : Str → Option Value) (env : Env) (i2 : PySem.Expr) (x : Str) (scope : Scope) (cl : List (Str × Addr)) (J : Nat → List Value → List (Addr × Obj) → Prop) (a : Int) (i : Nat) (s₂ : Shared) : Prop :=
  ∀ (ys : List Value) (news : List (Addr × Obj)) (I : Addr) (oI : Obj) (C : Addr) (oC : Obj) (D : Addr) (m₂ : Str → Option Value) (t : Tok) (E' : Value → Shared → Prop), J i ys news → NsObj oC m₂ → m₂ x = some (.int (a + (i : Int)) t) → Fr h₀ L s₂.heap m →
    News h₀ L s₂.heap ((I, oI) :: (C, oC) :: (D, lst ys) :: news) → Off3 I C D news → ((@Ne Nat I C) ∧ (@Ne Nat I D) ∧ (@Ne Nat C D)) →
    wpAny (model prog w) A (eval i2 (compEnvC scope cl C env)) (fun xv s' => Hid (∃ ax its k h' tk' news', xv = .ref ax ∧ s' = { s₂ with heap := h', toks := tk' } ∧ Fr h₀ L h' m ∧ News h₀ L h' ((I, oI) :: (C, oC) :: (D, lst ys) :: news') ∧ Off3 I C D news' ∧
      (ax, listOf its.toArray k) ∈ news' ∧ ys.length + its.length ≤ 1000 ∧ J (i + 1) (ys ++ its) news')) E' s₂
noncomputable def Src2 (prog : Program) (w : World) (A : Around) (h₀ : Heap) (L : Addr) (m : Str → Option Value) (env : Env) (i2 : PySem.Expr) (x : Str) (scope : Scope) (cl : List (Str × Addr)) (J : Nat → List Value → List (Addr × Obj) → Prop) (Q : Value → Shared → Prop) (xv : Value) (s₁ : Shared) : Prop :=
  ∃ r a b t u v n news, xv = .ref r ∧ A.handled = none ∧ Fr h₀ L s₁.heap m ∧ News h₀ L s₁.heap news ∧ IsRange s₁.heap r a b 1 t u v ∧ Builtin.Range.small a b 1 = true ∧ Builtin.Range.rangeSize a b 1 = ((n : Nat) : Int) ∧
    J 0 [] news ∧ (∀ i h tk, i < n → 1 ≤ tk → Turn2 prog w A h₀ L m env i2 x scope cl J a i { s₁ with heap := h, toks := tk }) ∧ (∀ ys news', J n ys news' → FinE h₀ L m s₁ Q ys news')
theorem on_comp_two : True := by
  (k_with "m:on" => (fail_if_success (k_extra "m:end comp_two")))
  trivial
theorem comp_two {i1 i2 : PySem.Expr} {x y : Str} {px py py2 : Pos} {scope : Scope} {pos : Pos} {cl : List (Str × Addr)} {h₀ : Heap} {L : Addr} {m : Str → Option Value} {Q : Value → Shared → Prop}
    (J : Nat → List Value → List (Addr × Obj) → Prop)
    (hclos : closureFor scope env = pure cl) (hcell : ∀ y ∈ scope.names, y.2 ≠ .cell) (hkind : scope.kind = .function)
    (hnames : ∀ y ∈ scope.names, y.2 = .local → scope.names.lookup y.1 = some .local) (hx : scope.names.lookup x = some .local) (hy : scope.names.lookup y = some .local) (hd : (y == ("__debug__" : Str)) = false)
    (h : wpAny (model prog w) A (eval i1 env) (Src2 prog w A h₀ L m env i2 x scope cl J Q) E s)
    (hs1 : ∀ x, foldedSetIterable i1 env x = pure x) (hs2 : ∀ e x, foldedSetIterable i2 e x = pure x) :
    wpAny (model prog w) A (eval (two (.Name y py) (.Name x px) i1 (.Name y py2) i2 scope pos) env) Q E s := by
  revert prog w A E s env i1 i2 x y px py py2 scope pos cl h₀ L m Q J hclos hcell hkind hnames hx hy hd h hs1 hs2
  intro prog w A E s env i1 i2 x y px py py2 scope pos cl h₀ L m Q J hclos hcell hkind hnames hx hy hd h hs1 hs2
  rw [eval_ListComp]
  refine wpAny_comprehension_free (use := none) rfl hs1 hclos hkind hnames (wpAny_mono h ?_ fun _ _ e => e)
  intro xv s₁ h₁
  obtain ⟨r, a, b, t, u, v, n, news, rfl, hh, F, N, hr, hsm, hn, hJ, hT, hF⟩ := h₁
  refine wpAny_pyIter_range hr hsm ?_
  have W := range_walks (prog := prog) (w := w) (I := s₁.heap.objs.size) hh a n
  have hst : IsRangeIter (s₁.heap.push { cls := .type "range_iterator", data := .fields #[rawInt a, rawInt (Builtin.Range.rangeSize a b 1), rawInt 1] }) s₁.heap.objs.size (a + ((0 : Nat) : Nat) * 1) ((n : Int) - ((0 : Nat) : Nat)) 1 := by rw [hn]; simpa using Heap.get?_push_size _ rfl
  generalize hH1 : s₁.heap.push { cls := .type "range_iterator", data := .fields #[rawInt a, rawInt (Builtin.Range.rangeSize a b 1), rawInt 1] } = H1 at hst ⊢
  have hI : s₁.heap.objs.size < H1.objs.size := by rw [← hH1, Heap.size_push]; exact Nat.lt_succ_self _
  have F1 : Fr h₀ L H1 m := by rw [← hH1]; exact F.push _
  have N1 : News h₀ L H1 news := by rw [← hH1]; exact fun p hp => ⟨Heap.get?_push_of_some _ (N p hp).1, (N p hp).2⟩
  have offI : ∀ p ∈ news, p.1 ≠ s₁.heap.objs.size := fun p hp => Nat.ne_of_lt (Heap.lt_size (N p hp).1)
  have hI₀ : h₀.get? s₁.heap.objs.size = none := next_is_new F
  have hIL : L ≠ s₁.heap.objs.size := Nat.ne_of_lt F.ns.lt
  generalize s₁.heap.objs.size = I at *
  refine wpAny_newObj_type (wpAny_newFunctionEnv hcell (by intro y hy; simp at hy) ?_ hkind)
  intro h₁ hns₁ hsb₁
  dsimp only at hns₁ hsb₁ ⊢
  generalize hH2 : H1.push { cls := .type "list", dict := none, data := .seq ([] : List Value).toArray } = H2 at hns₁ hsb₁ ⊢
  have hC : H2.objs.size = H1.objs.size + 1 := by rw [← hH2, Heap.size_push]
  have hDC : H1.objs.size ≠ H2.objs.size := by rw [hC]; exact Nat.ne_of_lt (Nat.lt_succ_self _)
  have below : ∀ b, b < H1.objs.size → b ≠ H2.objs.size ∧ b ≠ H1.objs.size := fun b hb => ⟨by rw [hC]; exact Nat.ne_of_lt (Nat.lt_succ_of_lt hb), Nat.ne_of_lt hb⟩
  have old : ∀ b o, H1.get? b = some o → h₁.get? b = some o := fun b o e => hsb₁.extBut b o (below b (Heap.lt_size e)).1 (Heap.get?_push_of_some _ (hH2 ▸ Heap.get?_push_of_some _ e))
  have hacc : h₁.get? H1.objs.size = some (lst []) := hsb₁.extBut _ _ hDC (Heap.get?_push_of_some _ (hH2 ▸ Heap.get?_push_size _ rfl))
  have hst₁ : IsRangeIter h₁ I (a + ((0 : Nat) : Nat) * 1) ((n : Int) - ((0 : Nat) : Nat)) 1 := old _ _ hst
  have fresh₀ : ∀ a, H1.objs.size ≤ a → h₀.get? a = none := fun a ha => by
    cases e : h₀.get? a with
    | none => rfl
    | some o' => exact absurd (Heap.lt_size (F1.keep a o' e)) (Nat.not_lt.mpr ha)
  have hD₀ : h₀.get? H1.objs.size = none := fresh₀ _ (Nat.le_refl _)
  have hC₀ : h₀.get? H2.objs.size = none := fresh₀ _ (by rw [hC]; exact Nat.le_succ _)
  have hLlt : L < H1.objs.size := F1.ns.lt
  have hDL : H1.objs.size ≠ L := Ne.symm (below L hLlt).2
  have hCL : H2.objs.size ≠ L := Ne.symm (below L hLlt).1
  have hCI : I ≠ H2.objs.size := (below I hI).1
  have hDI : I ≠ H1.objs.size := (below I hI).2
  have off₀ : Off3 I H2.objs.size H1.objs.size news := Off3.of fun p hp => ⟨offI p hp, (below _ (Heap.lt_size (N1 p hp).1)).1, (below _ (Heap.lt_size (N1 p hp).1)).2⟩
  generalize H1.objs.size = D at *
  generalize H2.objs.size = C at *
  have loop : ∀ tk0, codeAny (model prog w) A (.compLoop (two (.Name y py) (.Name x px) i1 (.Name y py2) i2 scope pos) 0 (.ref I) (.ref D) (compEnvC scope cl C env)) (compPost (model prog w) A E none Q (.ref D) C) { s₁ with heap := h₁, toks := tk0 } := by
    intro tk0
    refine codeAny_loop rfl
      (fun k s' => ∃ h' tk i ys m' news', s' = { s₁ with heap := h', toks := tk } ∧ i ≤ n ∧ k = n + 1 - i ∧ IsRangeIter h' I (a + (i : Nat) * 1) ((n : Int) - (i : Nat)) 1 ∧ Fr h₀ L h' m ∧ h'.Ns C m' ∧ News h₀ L h' ((D, lst ys) :: news') ∧
        Off3 I C D news' ∧ J i ys news') ?_ (n + 1)
      ⟨h₁, _, 0, [], _, news, rfl, Nat.zero_le _, rfl, hst₁, F1.keeps old, hns₁, fun p hp => ?_, off₀, hJ⟩
    · rintro k s' ⟨h', tk, i, ys, m', news', rfl, hi, rfl, hst', F', hn', N', off', hJ'⟩
      show wpAny _ A ((compTurn (two (.Name y py) (.Name x px) i1 (.Name y py2) i2 scope pos) 0 (.ref I) (.ref D) (compEnvC scope cl C env)).onRaise (fun x => do noteFrame x (compEnvC scope cl C env); theTreesLotGoes x)) _ _ _
      refine wpAny_noted ?_
      rw [compTurn_two0]
      refine wpAny_bind (wpAny_standAt (wpAny_bind ?_))
      by_cases hlt : i < n
      · refine W.item i _ _ _ hlt hst' ?_
        intro v h₂ tk₂ hPv hst₂ hk₂
        obtain ⟨tv, rfl⟩ := hPv
        refine wpAny_bind (wpAny_of_eq (by rfl) ?_)
        refine wpAny_bind (wpAny_assign_Name (wpAny_storeName_local (lookup_relabel_local hx) (hn'.at' fun o e => hk₂ _ o (by simpa using Ne.symm hCI) e) ?_ (by simp [compEnvC, relabel, hkind])))
        intro h₃ hn₃ hs₃
        have hst₃ : IsRangeIter h₃ I (a + ((i + 1 : Nat) : Nat) * 1) ((n : Int) - ((i + 1 : Nat) : Nat)) 1 := hs₃.extBut _ _ hCI hst₂
        obtain ⟨oI, heI⟩ : ∃ oI, h₃.get? I = some oI := ⟨_, hst₃⟩
        obtain ⟨oC, heC, hoC⟩ := ns_obj hn₃
        have F₃ : Fr h₀ L h₃ m := (fr_but F' hk₂ hIL hI₀).change hs₃ hCL hC₀
        have off3 := off'.mem
        have N₂ : News h₀ L h₂ ((D, lst ys) :: news') := news_but N' hk₂ fun p hp => by
          rcases List.mem_cons.mp hp with rfl | hp
          · exact Ne.symm hDI
          · exact (off3 p hp).1
        have N₃ : News h₀ L h₃ ((I, oI) :: (C, oC) :: (D, lst ys) :: news') := fun p hp => by
          rcases List.mem_cons.mp hp with rfl | hp
          · exact ⟨heI, Ne.symm hIL, hI₀⟩
          · rcases List.mem_cons.mp hp with rfl | hp
            · exact ⟨heC, hCL, hC₀⟩
            · have z := N₂ p hp
              refine ⟨hs₃.extBut _ _ ?_ z.1, z.2⟩
              rcases List.mem_cons.mp hp with rfl | hp
              · exact hDC
              · exact (off3 p hp).2.1
        refine wpAny_bind (wpAny_mono (hT i h₃ _ hlt (Nat.le_add_left 1 _) ys news' I oI C oC D _ _ _ hJ' hoC (by simp; rfl) F₃ N₃ off' ⟨hCI, hDI, Ne.symm hDC⟩) ?_ fun _ _ e => e)
        intro xv s₄ h₄
        obtain ⟨ax, its, kk, h₄, tk₄, news₄, rfl, rfl, F₄, N₄, off₄, hax, hz, hJ₄⟩ := h₄
        have off4 := off₄.mem
        have zI := (N₄ (I, oI) List.mem_cons_self).1
        have zC := (N₄ (C, oC) (List.mem_cons_of_mem _ List.mem_cons_self)).1
        have zD := (N₄ (D, lst ys) (List.mem_cons_of_mem _ (List.mem_cons_of_mem _ List.mem_cons_self))).1
        have N₄' : News h₀ L h₄ news₄ := fun p hp => N₄ p (List.mem_cons_of_mem _ (List.mem_cons_of_mem _ (List.mem_cons_of_mem _ hp)))
        have hls : h₄.IsList ax its.toArray := N₄'.isList hax
        have hlt4 : ax < h₄.objs.size := Heap.lt_size (N₄' _ hax).1
        have hst₄ : IsRangeIter h₄ I (a + ((i + 1 : Nat) : Nat) * 1) ((n : Int) - ((i + 1 : Nat) : Nat)) 1 := by
          have : h₃.get? I = some _ := hst₃
          rw [heI] at this
          show h₄.get? I = some _
          rw [zI, ← this]
        refine wpAny_bind (wpAny_standAt (wpAny_bind (wpAny_of_eq (hs2 _ _) (wpAny_bind (wpAny_holding (wpAny_pyIter_list hls ?_))))))
        refine wpAny_bind (wpAny_runOwn ?_)
        have up : ∀ b o, h₄.get? b = some o → (h₄.push { cls := .type "list_iterator", data := .fields #[.ref ax, .int 0 0] }).get? b = some o := fun b o e => Heap.get?_push_of_some _ e
        have hI2 : (h₄.push { cls := .type "list_iterator", data := .fields #[.ref ax, .int 0 0] }).IsListIter h₄.objs.size ax 0 := ⟨_, Heap.get?_push_size _ rfl, rfl, rfl⟩
        dsimp only
        generalize (h₄.push { cls := .type "list_iterator", data := .fields #[.ref ax, .int 0 0] }) = h₅ at up hI2 ⊢
        have hDn : h₄.objs.size ≠ D := Ne.symm (Nat.ne_of_lt (Heap.lt_size zD))
        have hCn : h₄.objs.size ≠ C := Ne.symm (Nat.ne_of_lt (Heap.lt_size zC))
        have hIn : I ≠ h₄.objs.size := Nat.ne_of_lt (Heap.lt_size zI)
        have hI2₀ : h₀.get? h₄.objs.size = none := next_is_new F₄
        have hLn : L ≠ h₄.objs.size := Nat.ne_of_lt F₄.ns.lt
        have inner : ∀ tk0, codeAny (model prog w) (A.mark none) (.compLoop (two (.Name y py) (.Name x px) i1 (.Name y py2) i2 scope pos) 1 (.ref h₄.objs.size) (.ref D) (compEnvC scope cl C env))
            (fun r s' => match r with
              | .ok f => wpAny (model prog w) A (again (.compLoop (two (.Name y py) (.Name x px) i1 (.Name y py2) i2 scope pos) 0 (.ref I) (.ref D) (compEnvC scope cl C env)))
                (fun fin s' => match fin with
                  | .done f => compPost (model prog w) A E none Q (.ref D) C (.ok f) s'
                  | .again c' => c' = (.compLoop (two (.Name y py) (.Name x px) i1 (.Name y py2) i2 scope pos) 0 (.ref I) (.ref D) (compEnvC scope cl C env)) ∧ ∃ q, q < n + 1 - i ∧ ∃ h' tk i ys m' news', s' = { s₁ with heap := h', toks := tk } ∧ i ≤ n ∧ q = n + 1 - i ∧ IsRangeIter h' I (a + (i : Nat) * 1) ((n : Int) - (i : Nat)) 1 ∧ Fr h₀ L h' m ∧ h'.Ns C m' ∧ News h₀ L h' ((D, lst ys) :: news') ∧ Off3 I C D news' ∧ J i ys news')
                (notedBy (model prog w) A (compEnvC scope cl C env) fun e s' => compPost (model prog w) A E none Q (.ref D) C (.error e) s') s'
              | .error e => cameBackBy (model prog w) A (compEnvC scope cl C env) (notedBy (model prog w) A (compEnvC scope cl C env) fun e s' => compPost (model prog w) A E none Q (.ref D) C (.error e) s') e s') { s₁ with heap := h₅, toks := tk0 } := by
          intro tk0
          refine comp_inner (its := its) (ys := ys) (ax := ax) (m := _) (by exact hh) hkind hy hd (Nat.ne_of_lt hlt4) hDn hCn (off4 _ hax).2.2 (off4 _ hax).2.1 (Ne.symm hDC |> Ne.symm) hI2 (hls.at fun o e => up _ o e) ((hoC.ns zC).at' fun o e => up _ o e) (up _ _ zD) hz ?_
          intro h₆ tk₆ m₆ hk₆ hn₆ hD₆
          refine wpAny_pure ⟨rfl, n + 1 - (i + 1), by first | exact meas1 (by assumption) | omega, h₆, tk₆, i + 1, ys ++ its, m₆, news₄, rfl, hlt, rfl, hk₆ _ _ hIn hDI hCI (up _ _ hst₄), ⟨F₄.ns.at' fun o e => hk₆ _ o hLn (Ne.symm hDL) (Ne.symm hCL) (up _ o e), ?_, F₄.above⟩, hn₆, ?_, off₄, hJ₄⟩
          · intro b o e
            exact hk₆ b o (fun q => by rw [q, hI2₀] at e; cases e) (fun q => by rw [q, hD₀] at e; cases e) (fun q => by rw [q, hC₀] at e; cases e) (up _ _ (F₄.keep b o e))
          · intro p hp
            rcases List.mem_cons.mp hp with rfl | hp
            · exact ⟨hD₆, hDL, hD₀⟩
            · exact ⟨hk₆ _ _ (Nat.ne_of_lt (Heap.lt_size (N₄' p hp).1)) (off4 p hp).2.2 (off4 p hp).2.1 (up _ _ (N₄' p hp).1), (N₄' p hp).2⟩
        exact compStart_two1 (inner _) (wpAny_pyIter_listiter hI2 (inner _))
      · obtain rfl : i = n := Nat.le_antisymm hi (Nat.not_lt.mp hlt)
        refine W.done _ _ _ hst' ?_
        intro h₂ tk₂ hk₂
        have off3 := off'.mem
        refine wpAny_pure ⟨m', hn'.at' fun o e => hk₂ _ o (by simpa using Ne.symm hCI) e, ?_⟩
        intro h'' hs''
        have N₂ : News h₀ L h₂ ((D, lst ys) :: news') := news_but N' hk₂ fun p hp => by
          rcases List.mem_cons.mp hp with rfl | hp
          · exact Ne.symm hDI
          · exact (off3 p hp).1
        refine hF ys news' hJ' D h'' tk₂ ((fr_but F' hk₂ hIL hI₀).change hs'' hCL hC₀) ?_ off'.one
        intro p hp
        refine ⟨hs''.extBut _ _ ?_ (N₂ p hp).1, (N₂ p hp).2⟩
        rcases List.mem_cons.mp hp with rfl | hp
        · exact hDC
        · exact (off3 p hp).2.1
    · rcases List.mem_cons.mp hp with rfl | hp
      · exact ⟨hacc, hDL, hD₀⟩
      · exact ⟨old _ _ (N1 p hp).1, (N1 p hp).2⟩
  exact codeAny_compStart_list (loop _) (W.self 0 _ _ _ hst₁ (loop _))
theorem off_comp_two : True := by
  (k_with "m:end comp_two" => skip)
  trivial
end
end Mine
end

section
open PySem PySem.W PyProof.Rows PySem.Spec PySem.Calls PyProof.Rows.LCg
namespace Mine
set_option maxRecDepth 100000
set_option maxHeartbeats 8000000
/-! a list comprehension of one clause over anything that can be walked, with a test or none -/
section
variable {prog : Program} {w : World} {A : Around} {E : Value → Shared → Prop} {s : Shared} {env : Env}
noncomputable abbrev tests (prog : Program) (w : World) (A : Around) (ifs : List PySem.Expr) (env : Env) (Q : Bool → Shared → Prop) (E : Value → Shared → Prop) (s : Shared) : Prop :=
  wpAny (model prog w) A (forIn ifs true fun c r => if r = true then do let ok ← isTrue c env (eval c env); pure (ForInStep.yield ok) else pure (ForInStep.yield r)) Q E s
noncomputable def CEnd (h₀ : Heap) (L : Addr) (m : Str → Option Value) (s₂ : Shared) (I : Addr) (oI : Obj) (C : Addr) (oC : Obj) (D : Addr) (oD : Obj) (ks : List (Addr × Obj)) (J : List (Addr × Obj) → Prop) (s' : Shared) : Prop :=
  ∃ h' tk' news', s' = { s₂ with heap := h', toks := tk' } ∧ Fr h₀ L h' m ∧ News h₀ L h' ((I, oI) :: (C, oC) :: (D, oD) :: news') ∧ Off3 I C D news' ∧ (∀ p ∈ ks, p ∈ news') ∧ J news'
noncomputable def Turn1 (prog : Program) (w : World) (A : Around) (h₀ : Heap) (L : Addr) (m : Str → Option Value) (env : Env) (elt : PySem.Expr) (ifs : List PySem.Expr) (x : Str) (scope : Scope) (cl : List (Str × Addr)) (ks : List (Addr × Obj)) (J : Nat → List Value → List (Addr × Obj) → Prop) (i : Nat) (v : Value) (s₂ : Shared) : Prop :=
  ∀ (ys : List Value) (news : List (Addr × Obj)) (I : Addr) (oI : Obj) (C : Addr) (oC : Obj) (D : Addr) (m₂ : Str → Option Value) (E' : Value → Shared → Prop), J i ys news → NsObj oC m₂ → m₂ x = some v → Fr h₀ L s₂.heap m →
    News h₀ L s₂.heap ((I, oI) :: (C, oC) :: (D, lst ys) :: news) → Off3 I C D news → ((@Ne Nat I C) ∧ (@Ne Nat I D) ∧ (@Ne Nat C D)) → (∀ p ∈ ks, p ∈ news) →
    tests prog w A ifs (compEnvC scope cl C env) (fun ok s₃ => if ok = true then wpAny (model prog w) A (eval elt (compEnvC scope cl C env)) (fun y s' => Hid (CEnd h₀ L m s₂ I oI C oC D (lst ys) ks (J (i + 1) (ys ++ [y])) s')) E' s₃
      else CEnd h₀ L m s₂ I oI C oC D (lst ys) ks (J (i + 1) ys) s₃) E' s₂
theorem on_comp_core : True := by
  (k_with "m:on" => (fail_if_success (k_extra "m:end comp_core")))
  trivial
theorem comp_core {elt i1 : PySem.Expr} {ifs : List PySem.Expr} {x : Str} {px : Pos} {scope : Scope} {pos : Pos} {cl : List (Str × Addr)} {h₀ : Heap} {L I : Addr} {fp : List Addr} {n : Nat} {P : Nat → Value → Prop} {St : Nat → Heap → Prop} {m : Str → Option Value} {Q : Value → Shared → Prop} {news : List (Addr × Obj)} (ks : List (Addr × Obj))
    (J : Nat → List Value → List (Addr × Obj) → Prop) (W : Walks prog w A I fp [I] n P St) (hIo : ∀ i h, St i h → ∃ o, h.get? I = some o) (hfp : ∀ b ∈ fp, b = I ∨ ∃ o, (b, o) ∈ ks)
    (hcell : ∀ y ∈ scope.names, y.2 ≠ .cell) (hkind : scope.kind = .function) (hx : scope.names.lookup x = some .local) (hst : St 0 s.heap)
    (F1 : Fr h₀ L s.heap m) (N1 : News h₀ L s.heap news) (hIL : L ≠ I) (hI₀ : h₀.get? I = none) (offI : ∀ p ∈ news, p.1 ≠ I) (hks : ∀ p ∈ ks, p ∈ news) (hJ : J 0 [] news) (hlen : ∀ i ys news, J i ys news → ys.length ≤ 1000)
    (hT : ∀ i v h tk, i < n → P i v → 1 ≤ tk → Turn1 prog w A h₀ L m env elt ifs x scope cl ks J i v { s with heap := h, toks := tk })
    (hF : ∀ ys news', J n ys news' → FinE h₀ L m s Q ys news') :
    wpAny (model prog w) A (newList []) (fun acc s₃ => wpAny (model prog w) A (newFunctionEnv scope env.globals cl [] env.qual none .none (some env)) (fun cenv s₄ =>
      codeAny (model prog w) A (.compStart (.ListComp elt [⟨.Name x px, i1, ifs, 0⟩] scope pos) 0 (.ref I) acc { cenv with scope := relabel scope env }) (compPost (model prog w) A E none Q acc cenv.locals) s₄) E s₃) E s := by
  revert prog w A E s env elt i1 ifs x px scope pos cl h₀ L I fp n P St m Q news ks J W hIo hfp hcell hkind hx hst F1 N1 hIL hI₀ offI hks hJ hlen hT hF
  intro prog w A E s env elt i1 ifs x px scope pos cl h₀ L I fp n P St m Q news ks J W hIo hfp hcell hkind hx hst F1 N1 hIL hI₀ offI hks hJ hlen hT hF
  refine wpAny_newObj_type (wpAny_newFunctionEnv hcell (by intro y hy; simp at hy) ?_ hkind)
  intro h₁ hns₁ hsb₁
  dsimp only at hns₁ hsb₁ ⊢
  have hI : I < s.heap.objs.size := by obtain ⟨o, e⟩ := hIo _ _ hst; exact Heap.lt_size e
  generalize hH1 : s.heap = H1 at *
  generalize hH2 : H1.push { cls := .type "list", dict := none, data := .seq ([] : List Value).toArray } = H2 at hns₁ hsb₁ ⊢
  have hC : H2.objs.size = H1.objs.size + 1 := by rw [← hH2, Heap.size_push]
  have hDC : H1.objs.size ≠ H2.objs.size := by rw [hC]; exact Nat.ne_of_lt (Nat.lt_succ_self _)
  have below : ∀ b, b < H1.objs.size → b ≠ H2.objs.size ∧ b ≠ H1.objs.size := fun b hb => ⟨by rw [hC]; exact Nat.ne_of_lt (Nat.lt_succ_of_lt hb), Nat.ne_of_lt hb⟩
  have old : ∀ b o, H1.get? b = some o → h₁.get? b = some o := fun b o e => hsb₁.extBut b o (below b (Heap.lt_size e)).1 (Heap.get?_push_of_some _ (hH2 ▸ Heap.get?_push_of_some _ e))
  have hacc : h₁.get? H1.objs.size = some (lst []) := hsb₁.extBut _ _ hDC (Heap.get?_push_of_some _ (hH2 ▸ Heap.get?_push_size _ rfl))
  have ltfp : ∀ b ∈ fp, b < H1.objs.size := fun b hb => by
    rcases hfp b hb with rfl | ⟨o, ho⟩
    · exact hI
    · exact Heap.lt_size (N1 _ (hks _ ho)).1
  have hst₁ : St 0 h₁ := W.frame _ _ _ hst fun b _ o e => old b o e
  have fresh₀ : ∀ a, H1.objs.size ≤ a → h₀.get? a = none := fun a ha => by
    cases e : h₀.get? a with
    | none => rfl
    | some o' => exact absurd (Heap.lt_size (F1.keep a o' e)) (Nat.not_lt.mpr ha)
  have hD₀ : h₀.get? H1.objs.size = none := fresh₀ _ (Nat.le_refl _)
  have hC₀ : h₀.get? H2.objs.size = none := fresh₀ _ (by rw [hC]; exact Nat.le_succ _)
  have hLlt : L < H1.objs.size := F1.ns.lt
  have hDL : H1.objs.size ≠ L := Ne.symm (below L hLlt).2
  have hCL : H2.objs.size ≠ L := Ne.symm (below L hLlt).1
  have hCI : I ≠ H2.objs.size := (below I hI).1
  have hDI : I ≠ H1.objs.size := (below I hI).2
  have hDf : H1.objs.size ∉ fp := fun hm => Nat.lt_irrefl _ (ltfp _ hm)
  have hCf : H2.objs.size ∉ fp := fun hm => by have := ltfp _ hm; rw [hC] at this; exact Nat.lt_irrefl _ (Nat.lt_of_succ_lt this)
  have off₀ : Off3 I H2.objs.size H1.objs.size news := Off3.of fun p hp => ⟨offI p hp, (below _ (Heap.lt_size (N1 p hp).1)).1, (below _ (Heap.lt_size (N1 p hp).1)).2⟩
  generalize H1.objs.size = D at *
  generalize H2.objs.size = C at *
  have loop : ∀ tk0, codeAny (model prog w) A (.compLoop (.ListComp elt [⟨.Name x px, i1, ifs, 0⟩] scope pos) 0 (.ref I) (.ref D) (compEnvC scope cl C env)) (compPost (model prog w) A E none Q (.ref D) C) { s with heap := h₁, toks := tk0 } := by
    intro tk0
    refine codeAny_compLoop_tests
      (fun k s' => ∃ h' tk i ys m' news', s' = { s with heap := h', toks := tk } ∧ i ≤ n ∧ k = n + 1 - i ∧ St i h' ∧ Fr h₀ L h' m ∧ h'.Ns C m' ∧ News h₀ L h' ((D, lst ys) :: news') ∧
        Off3 I C D news' ∧ (∀ p ∈ ks, p ∈ news') ∧ J i ys news') ?_ (n + 1)
      ⟨h₁, _, 0, [], _, news, rfl, Nat.zero_le _, rfl, hst₁, F1.keeps old, hns₁, fun p hp => ?_, off₀, hks, hJ⟩
    · rintro k s' ⟨h', tk, i, ys, m', news', rfl, hi, rfl, hst', F', hn', N', off', hks', hJ'⟩
      by_cases hlt : i < n
      · refine W.item i _ _ _ hlt hst' ?_
        intro v h₂ tk₂ hPv hst₂ hk₂
        refine wpAny_assign_Name (wpAny_storeName_local (lookup_relabel_local hx) (hn'.at' fun o e => hk₂ _ o (by simpa using Ne.symm hCI) e) ?_ (by simp [compEnvC, relabel, hkind]))
        intro h₃ hn₃ hs₃
        have hst₃ : St (i + 1) h₃ := W.frame _ _ _ hst₂ fun b hb o e => hs₃.extBut b o (fun q => hCf (by have q' : b = C := q; rw [← q']; exact hb)) e
        obtain ⟨oI, heI⟩ := hIo _ _ hst₃
        obtain ⟨oC, heC, hoC⟩ := ns_obj hn₃
        have F₃ : Fr h₀ L h₃ m := (fr_but F' hk₂ hIL hI₀).change hs₃ hCL hC₀
        have off3 := off'.mem
        have N₂ : News h₀ L h₂ ((D, lst ys) :: news') := news_but N' hk₂ fun p hp => by
          rcases List.mem_cons.mp hp with rfl | hp
          · exact Ne.symm hDI
          · exact (off3 p hp).1
        have N₃ : News h₀ L h₃ ((I, oI) :: (C, oC) :: (D, lst ys) :: news') := fun p hp => by
          rcases List.mem_cons.mp hp with rfl | hp
          · exact ⟨heI, Ne.symm hIL, hI₀⟩
          · rcases List.mem_cons.mp hp with rfl | hp
            · exact ⟨heC, hCL, hC₀⟩
            · have z := N₂ p hp
              refine ⟨hs₃.extBut _ _ ?_ z.1, z.2⟩
              rcases List.mem_cons.mp hp with rfl | hp
              · exact hDC
              · exact (off3 p hp).2.1
        have ends : ∀ (ys' : List Value) (h₄ h₅ : Heap) (tk₄ : Nat) (news₄ : List (Addr × Obj)), Fr h₀ L h₄ m → News h₀ L h₄ ((I, oI) :: (C, oC) :: (D, lst ys) :: news₄) → Off3 I C D news₄ → (∀ p ∈ ks, p ∈ news₄) → J (i + 1) ys' news₄ → Heap.SameBut D h₄ h₅ → h₅.get? D = some (lst ys') →
            ∃ q, q < n + 1 - i ∧ ∃ h' tk i ys m' news', ({ s with heap := h₅, toks := tk₄ } : Shared) = { s with heap := h', toks := tk } ∧ i ≤ n ∧ q = n + 1 - i ∧ St i h' ∧ Fr h₀ L h' m ∧ h'.Ns C m' ∧ News h₀ L h' ((D, lst ys) :: news') ∧ Off3 I C D news' ∧ (∀ p ∈ ks, p ∈ news') ∧ J i ys news' := by
          intro ys' h₄ h₅ tk₄ news₄ F₄ N₄ off₄ hks₄ hJ₄ hs₅ hD₅
          have off4 := off₄.mem
          have zI := (N₄ (I, oI) List.mem_cons_self).1
          have zC := (N₄ (C, oC) (List.mem_cons_of_mem _ List.mem_cons_self)).1
          have N₄' : News h₀ L h₄ news₄ := fun p hp => N₄ p (List.mem_cons_of_mem _ (List.mem_cons_of_mem _ (List.mem_cons_of_mem _ hp)))
          have hst₄ : St (i + 1) h₄ := W.frame _ _ _ hst₃ fun b hb o e => by
            rcases hfp b hb with rfl | ⟨o', ho'⟩
            · rw [heI] at e; cases e; exact zI
            · have z1 := (N₃ _ (List.mem_cons_of_mem _ (List.mem_cons_of_mem _ (List.mem_cons_of_mem _ (hks' _ ho'))))).1
              rw [z1] at e; cases e
              exact (N₄' _ (hks₄ _ ho')).1
          refine ⟨n + 1 - (i + 1), by first | exact meas1 (by assumption) | omega, h₅, tk₄, i + 1, ys', _, news₄, rfl, hlt, rfl, W.frame _ _ _ hst₄ fun b hb o e => hs₅.extBut b o (fun q => hDf (q ▸ hb)) e, F₄.change hs₅ hDL hD₀,
            (hoC.ns zC).sameBut hs₅ (Ne.symm hDC), fun p hp => ?_, off₄, hks₄, hJ₄⟩
          rcases List.mem_cons.mp hp with rfl | hp
          · exact ⟨hD₅, hDL, hD₀⟩
          · exact ⟨hs₅.extBut _ _ (off4 p hp).2.2 (N₄' p hp).1, (N₄' p hp).2⟩
        refine wpAny_mono (hT i v h₃ _ hlt hPv (Nat.le_add_left 1 _) ys news' I oI C oC D _ _ hJ' hoC (by simp) F₃ N₃ off' ⟨hCI, hDI, Ne.symm hDC⟩ hks') ?_ fun _ _ e => e
        intro ok s₄ h₄
        cases ok with
        | false =>
          simp only [Bool.false_eq_true, if_false] at h₄ ⊢
          obtain ⟨h₄, tk₄, news₄, rfl, F₄, N₄, off₄, hks₄, hJ₄⟩ := h₄
          exact ends ys h₄ h₄ tk₄ news₄ F₄ N₄ off₄ hks₄ hJ₄ (Heap.SameBut.refl _ _) (N₄ (D, lst ys) (List.mem_cons_of_mem _ (List.mem_cons_of_mem _ List.mem_cons_self))).1
        | true =>
          simp only [if_true] at h₄ ⊢
          refine wpAny_mono h₄ ?_ fun _ _ e => e
          intro y s₅ h₅
          obtain ⟨h₄, tk₄, news₄, rfl, F₄, N₄, off₄, hks₄, hJ₄⟩ := h₅
          have zD := (N₄ (D, lst ys) (List.mem_cons_of_mem _ (List.mem_cons_of_mem _ List.mem_cons_self))).1
          have hl := hlen _ _ _ hJ'
          refine append_at (hsz := by show ys.toArray.size ≤ sizeLine; rw [List.size_toArray, sizeLine_eq]; omega) zD ?_
          intro h₅ hs₅ hD₅
          exact ends (ys ++ [y]) h₄ h₅ tk₄ news₄ F₄ N₄ off₄ hks₄ hJ₄ hs₅ (hD₅.trans (congrArg some (lst_snoc ys y)))
      · obtain rfl : i = n := Nat.le_antisymm hi (Nat.not_lt.mp hlt)
        refine W.done _ _ _ hst' ?_
        intro h₂ tk₂ hk₂
        have off3 := off'.mem
        refine ⟨m', hn'.at' fun o e => hk₂ _ o (by simpa using Ne.symm hCI) e, ?_⟩
        intro h'' hs''
        have N₂ : News h₀ L h₂ ((D, lst ys) :: news') := news_but N' hk₂ fun p hp => by
          rcases List.mem_cons.mp hp with rfl | hp
          · exact Ne.symm hDI
          · exact (off3 p hp).1
        refine hF ys news' hJ' D h'' tk₂ ((fr_but F' hk₂ hIL hI₀).change hs'' hCL hC₀) ?_ off'.one
        intro p hp
        refine ⟨hs''.extBut _ _ ?_ (N₂ p hp).1, (N₂ p hp).2⟩
        rcases List.mem_cons.mp hp with rfl | hp
        · exact hDC
        · exact (off3 p hp).2.1
    · rcases List.mem_cons.mp hp with rfl | hp
      · exact ⟨hacc, hDL, hD₀⟩
      · exact ⟨old _ _ (N1 p hp).1, (N1 p hp).2⟩
  exact codeAny_compStart_list (loop _) (W.self 0 _ _ _ hst₁ (loop _))
theorem off_comp_core : True := by
  (k_with "m:end comp_core" => skip)
  trivial
end
end Mine
end

section
open PySem PySem.W PyProof.Rows PySem.Spec PySem.Calls PyProof.Rows.LCg
namespace Mine
set_option maxRecDepth 100000
set_option maxHeartbeats 8000000
section
variable {prog : Program} {w : World} {A : Around} {E : Value → Shared → Prop} {s : Shared} {env : Env}
noncomputable def CompAt (prog : Program) (w : World) (A : Around) (env : Env) (elt i1 : PySem.Expr) (ifs : List PySem.Expr) (x : Str) (px : Pos) (scope : Scope) (pos : Pos) (cl : List (Str × Addr)) (E Q : Value → Shared → Prop) (it : Value) (s : Shared) : Prop :=
  wpAny (model prog w) A (newList []) (fun acc s₃ => wpAny (model prog w) A (newFunctionEnv scope env.globals cl [] env.qual none .none (some env)) (fun cenv s₄ =>
      codeAny (model prog w) A (.compStart (.ListComp elt [⟨.Name x px, i1, ifs, 0⟩] scope pos) 0 it acc { cenv with scope := relabel scope env }) (compPost (model prog w) A E none Q acc cenv.locals) s₄) E s₃) E s
theorem my_comp {elt i1 : PySem.Expr} {ifs : List PySem.Expr} {x : Str} {px : Pos} {scope : Scope} {pos : Pos} {cl : List (Str × Addr)} {Q : Value → Shared → Prop} (htk : 1 ≤ s.toks)
    (hclos : closureFor scope env = pure cl) (hkind : scope.kind = .function) (hnames : ∀ y ∈ scope.names, y.2 = .local → scope.names.lookup y.1 = some .local)
    (h : wpAny (model prog w) A (eval i1 env) (fun xv s₁ => 1 ≤ s₁.toks → wpAny (model prog w) A (pyIter xv) (fun it s₂ => CompAt prog w A env elt i1 ifs x px scope pos cl (fun e s' => 1 ≤ s'.toks → E e s') (fun v s' => 1 ≤ s'.toks → Q v s') it s₂) (fun _ _ => False) s₁) (fun _ _ => False) s)
    (hs : ∀ x, foldedSetIterable i1 env x = pure x) :
    wpAny (model prog w) A (eval (.ListComp elt [⟨.Name x px, i1, ifs, 0⟩] scope pos) env) Q E s := by
  refine wpAny_mono (wpAny_with_toks (n := 1) htk ?_ (E := E)) (fun _ _ x => x) fun _ _ x => x
  rw [eval_ListComp]
  refine wpAny_comprehension_free (use := none) rfl hs hclos hkind hnames (wpAny_mono (wpAny_with_toks (n := 1) htk (wpAny_mono h (fun _ _ x => x) fun _ _ x => x.elim)) (fun xv s₁ h₁ => wpAny_mono h₁ (fun it s₂ h₂ => h₂) fun _ _ e => e.elim) fun _ _ e => e)
variable {elt i1 : PySem.Expr} {ifs : List PySem.Expr} {x : Str} {px : Pos} {scope : Scope} {pos : Pos} {cl : List (Str × Addr)} {h₀ : Heap} {L : Addr} {m : Str → Option Value} {Q : Value → Shared → Prop} {news : List (Addr × Obj)}
theorem my_comp_list {E₂ : Value → Shared → Prop} {l : Addr} {vs : List Value} {nn : Nat} (J : Nat → List Value → List (Addr × Obj) → Prop)
    (hh : A.handled = none) (hcell : ∀ y ∈ scope.names, y.2 ≠ .cell) (hkind : scope.kind = .function) (hx : scope.names.lookup x = some .local)
    (hm : (l, listOf vs.toArray nn) ∈ news) (F : Fr h₀ L s.heap m) (N : News h₀ L s.heap news) (h0 : J 0 [] news) (hlen : ∀ i ys news, J i ys news → ys.length ≤ 1000)
    (hT : ∀ i v h tk, vs[i]? = some v → 1 ≤ tk → Turn1 prog w A h₀ L m env elt ifs x scope cl [(l, listOf vs.toArray nn)] J i v { s with heap := h, toks := tk })
    (hF : ∀ ys news', J vs.length ys news' → FinE h₀ L m s Q ys news') :
    wpAny (model prog w) A (pyIter (.ref l)) (fun it s₂ => CompAt prog w A env elt i1 ifs x px scope pos cl E Q it s₂) E₂ s := by
  have hls : s.heap.IsList l vs.toArray := N.isList hm
  have hlt : l < s.heap.objs.size := Heap.lt_size (N _ hm).1
  refine wpAny_pyIter_list hls ?_
  have W := Walks.list (prog := prog) (w := w) hh s.heap.objs.size l (Nat.ne_of_lt hlt) vs.toArray
  have hsz : (vs.toArray).size = vs.length := List.size_toArray ..
  rw [hsz] at W
  exact comp_core (s := { s with heap := s.heap.push { cls := .type "list_iterator", data := .fields #[.ref l, .int 0 0] } }) [(l, listOf vs.toArray nn)] J W (fun i h st => ⟨_, st.1.choose_spec.1⟩) (fun b hb => by
      rcases List.mem_cons.mp hb with e | hb
      · exact .inl e
      · exact .inr ⟨_, by rw [List.mem_singleton.mp hb]; exact .head _⟩) hcell hkind hx ⟨⟨_, Heap.get?_push_size _ rfl, rfl, rfl⟩, hls.at fun o e => Heap.get?_push_of_some _ e⟩
    (F.push _) (fun p hp => ⟨Heap.get?_push_of_some _ (N p hp).1, (N p hp).2⟩) (Nat.ne_of_lt F.ns.lt) (next_is_new F) (fun p hp => Nat.ne_of_lt (Heap.lt_size (N p hp).1)) (fun p hp => by rw [List.mem_singleton.mp hp]; exact hm) h0 hlen
    (fun i v h tk _ hP ht => hT i v h tk (by simpa using hP) ht) hF
theorem my_comp_range {E₂ : Value → Shared → Prop} {r : Addr} {a b : Int} {t u v : Tok} {n : Nat} (J : Nat → List Value → List (Addr × Obj) → Prop)
    (hh : A.handled = none) (hcell : ∀ y ∈ scope.names, y.2 ≠ .cell) (hkind : scope.kind = .function) (hx : scope.names.lookup x = some .local)
    (hr : IsRange s.heap r a b 1 t u v) (hsmall : Builtin.Range.small a b 1 = true) (hn : Builtin.Range.rangeSize a b 1 = (n : Int)) (F : Fr h₀ L s.heap m) (N : News h₀ L s.heap news) (h0 : J 0 [] news) (hlen : ∀ i ys news, J i ys news → ys.length ≤ 1000)
    (hT : ∀ (i : Nat) (t : Tok) h tk, i < n → 1 ≤ tk → Turn1 prog w A h₀ L m env elt ifs x scope cl [] J i (.int (a + (i : Int)) t) { s with heap := h, toks := tk })
    (hF : ∀ ys news', J n ys news' → FinE h₀ L m s Q ys news') :
    wpAny (model prog w) A (pyIter (.ref r)) (fun it s₂ => CompAt prog w A env elt i1 ifs x px scope pos cl E Q it s₂) E₂ s := by
  refine wpAny_pyIter_range hr hsmall ?_
  have W := range_walks (prog := prog) (w := w) (I := s.heap.objs.size) hh a n
  have hst : IsRangeIter (s.heap.push { cls := .type "range_iterator", data := .fields #[rawInt a, rawInt (Builtin.Range.rangeSize a b 1), rawInt 1] }) s.heap.objs.size (a + ((0 : Nat) : Nat) * 1) ((n : Int) - ((0 : Nat) : Nat)) 1 := by rw [hn]; simpa using Heap.get?_push_size _ rfl
  exact comp_core (s := { s with heap := s.heap.push { cls := .type "range_iterator", data := .fields #[rawInt a, rawInt (Builtin.Range.rangeSize a b 1), rawInt 1] } }) [] J W (fun i h st => ⟨_, st⟩) (fun b hb => .inl (List.mem_singleton.mp hb)) hcell hkind hx hst
    (F.push _) (fun p hp => ⟨Heap.get?_push_of_some _ (N p hp).1, (N p hp).2⟩) (Nat.ne_of_lt F.ns.lt) (next_is_new F) (fun p hp => Nat.ne_of_lt (Heap.lt_size (N p hp).1)) (fun p hp => nomatch hp) h0 hlen
    (fun i v h tk hi hP ht => by obtain ⟨tv, rfl⟩ := hP; exact hT i tv h tk hi ht) hF
end
end Mine
end

section
open PySem PySem.W PyProof.Rows PySem.Spec PySem.Calls
namespace Mine
set_option maxRecDepth 100000
set_option maxHeartbeats 8000000
section
variable {prog : Program} {w : World} {A A₀ : Around} {s : Shared} {h₀ base : Heap} {L f : Addr} {m mg mb : Str → Option Value} {news : List (Addr × Obj)} {env : Env} {outer : List Env} {R : Result → Shared → Prop} {name qual : Str} {params : Arguments} {body : List Stmt} {scope : Scope} {dV kV doc pm cdv ct oc : Value} {an od : Option Addr} {osl : Array (Option Value)} {args : Args} {binds : List (Str × Value)} {K : Frag} {p : Program} {loose : List Str} {mean : ExcName → Option Value}
theorem my_defC
    (B : Below A₀ base outer h₀) (F : Fr h₀ L s.heap m) (X₀ : K.In h₀) (N : News h₀ L s.heap news) (T : Top p loose mean mg mb h₀) (hA : A.frames = some (env :: outer)) (hf : env.frame = some L) (hke : env.scope.kind = .function)
    (ho : K.lookup f = some ⟨oc, od, .func (fnOf name qual params body scope dV kV doc pm an cdv ct), osl⟩) (hcd : codeIn K cdv qual = true) (hroom : A.depth < recursionLimit) (h1 : 1 ≤ s.toks)
    (hbind : BindsTo s (fnOf name qual params body scope dV kV doc pm an cdv ct) args binds) (hkind : (binds.all fun y => scope.names.lookup y.1 == some .local || scope.names.lookup y.1 == some .cell) = true)
    (hnd : ((cellsFrom 0 scope.names []).map (·.1)).Nodup)
    (h : ∀ g L' h₁ tk cells, Fr h₀ L g m → Fr g L' h₁ (bindL (envOfC qual scope L' f cdv).kindOf binds fun _ => none) → News g L' h₁ (cells ++ news) →
      CellsAre (bindC (envOfC qual scope L' f cdv).kindOf binds fun _ => none) (cellsFrom (L' + 1) scope.names []) cells → Below A base (env :: outer) g → K.In g → Top p loose mean mg mb g → (∀ p ∈ news, p.1 < L') → 1 ≤ tk →
      wpAny (model prog w) (A.deeper (envOfC qual scope L' f cdv)) (execs body (envOfC qual scope L' f cdv))
        (fun fl s' => LeaveK h₀ L m g R (match fl with | .ret v => v | _ => .none) s')
        (fun e s' => wpAny (model prog w) (A.deeper (envOfC qual scope L' f cdv)) (leaving (envOfC qual scope L' f cdv) e) (fun _ s'' => R (.error e) s'') (fun e' s'' => R (.error e') s'') s')
        { s with heap := h₁, toks := tk })
    (hco : scope.isCoroutine = false) (hgen : scope.isGenerator = false) (hk : scope.kind = .function) : codeAny (model prog w) A (.call (.ref f) args) R s := by
  have hkind' := kindsX hkind
  obtain ⟨FG, BG, st, lv⟩ := groundX (R := R) B F N hA hf hke
  refine codeAny_call_function (o := ⟨oc, od, .func (fnOf name qual params body scope dV kV doc pm an cdv ct), osl⟩) hroom ((X₀.keeps F.keep) _ _ ho) rfl hco hgen rfl (codeRec_of (X₀.keeps F.keep) hcd) (hbind _ _ _ _ ?_)
  refine wpAny_with_toks (n := 1) h1 ?_
  refine wpAny_newFunctionEnv_cells hk (hkind' _) fun env' he s' x => ?_
  subst he
  intro hs1
  refine ⟨(T.nolimit.keeps F.keep).keeps x.toInCall.keep, codeAny_func ?_⟩
  obtain ⟨h₁, tk, rfl, _⟩ := x.done
  have hk₁ := x.toInCall.keep
  obtain ⟨cells, NC, Y⟩ := Cl.news (h₀ := s.heap) (Nat.le_refl _) fun n c hm => ⟨x.cell n c (lookup_of_mem_nodup (cellsFrom_names scope.names 0 (s.heap.objs.size + 1) [] [] rfl ▸ hnd) hm), x.above n c hm⟩
  refine wpAny_mono (h _ s.heap.objs.size h₁ tk cells FG ⟨x.toInCall.ns, fun b o e => hk₁ b o (of_hideAll _ e), Nat.le_of_eq (hideAll_size _ _)⟩ (fun p hp => ?_) Y BG (X₀.keeps st) (T.keeps st) (fun p hp => Heap.lt_size (N p hp).1) hs1) (fun fl s' hl => lv _ _ hl) fun _ _ y => y
  rcases List.mem_append.mp hp with hp | hp
  · refine ⟨(NC p hp).1, (NC p hp).2.1, ?_⟩
    cases q : (hideAll s.heap (news.map (·.1))).get? p.1 with
    | none => rfl
    | some o => have := of_hideAll _ q; rw [(NC p hp).2.2] at this; cases this
  · exact ⟨hk₁ _ _ (N p hp).1, Nat.ne_of_lt (Heap.lt_size (N p hp).1), hideAll_none _ (List.mem_map_of_mem hp)⟩
end
theorem size_n (n : Nat) : Builtin.Range.rangeSize 0 (n : Int) 1 = (n : Int) := by
  simp [Builtin.Range.rangeSize]
  intro h; omega
theorem small_n (n : Nat) (h : n ≤ 1000) : Builtin.Range.small 0 (n : Int) 1 = true := by
  have := size_n n
  simp [Builtin.Range.small, Builtin.Range.rangeFitsLong, this]; omega
end Mine
end

section
open PySem PySem.W PyProof.Rows PyProof.V
namespace Mine
set_option maxRecDepth 100000
set_option maxHeartbeats 8000000
/-! `for a, b in L:` over a list of the ledger -/
section
variable {prog : Program} {w : World} {A : Around} {env : Env} {h₀ h : Heap} {L : Addr} {g : Array GenState} {d : Drawn} {tk : Nat} {os : OsState} {m : Str → Option Value} {news : List (Addr × Obj)}
noncomputable def ForAtT (prog : Program) (w : World) (A : Around) (env : Env) (tgt : PySem.Expr) (body : List Stmt) (Q : Flow → Shared → Prop) (it : Value) (s₂ : Shared) : Prop :=
  codeAny (model prog w) A (.forLoop tgt it body [] env) (fun r s' => match r with | .ok f => Q f s' | .error _ => False) s₂
theorem my_ForT {E : Value → Shared → Prop} {Q : Flow → Shared → Prop} {s : Shared} {elts : List PySem.Expr} {x1 : Nat} {px pos : Pos} {iter : PySem.Expr} {body : List Stmt} (htk : 1 ≤ s.toks)
    (h : wpAny (model prog w) A (eval iter env) (fun xv s₁ => 1 ≤ s₁.toks → wpAny (model prog w) A (pyIter xv) (fun it s₂ => ForAtT prog w A env (.Tuple elts x1 px) body Q it s₂) (fun _ _ => False) s₁) (fun _ _ => False) s)
    (hs : ∀ x, foldedSetIterable iter env x = pure x) :
    wpAny (model prog w) A (exec (.For (.Tuple elts x1 px) iter body [] pos) env) Q E s := by
  refine wpAny_noRaise (wpAny_For (wpAny_mono (wpAny_with_toks (n := 1) htk (wpAny_mono h (fun _ _ x => x) fun _ _ x => x.elim)) (fun xv s₁ h₁ => wpAny_mono h₁ (fun it s₂ h₂ => codeAny_mono h₂ fun r s' z => ?_) fun _ _ e => e) fun _ _ e => e) hs)
  cases r with
  | ok f => exact z
  | error e => exact z.elim
theorem on_my_listT : True := by
  (k_with "m:on" => (fail_if_success (k_extra "m:end my_listT")))
  trivial
theorem my_listT {E : Value → Shared → Prop} {Q : Flow → Shared → Prop} {elts : List PySem.Expr} {x1 : Nat} {px : Pos} {body : List Stmt} {l : Addr} {vs : List Value} {nn : Nat} (J : Nat → (Str → Option Value) → List (Addr × Obj) → Prop)
    (hh : A.handled = none) (href : ∀ (i : Nat) (v : Value), vs[i]? = some v → ∃ T, v = .ref T)
    (hm : (l, listOf vs.toArray nn) ∈ news) (F : Fr h₀ env.locals h m) (N : News h₀ env.locals h news) (htk : 1 ≤ tk) (h0 : J 0 m news)
    (turn : ∀ (i : Nat) (v : Value) m₁ news₁ h₁ tk₁ I it, vs[i]? = some v → 1 ≤ tk₁ → Fr h₀ env.locals h₁ m₁ → News h₀ env.locals h₁ ((I, it) :: news₁) → (∀ p ∈ news₁, p.1 ≠ I) → (l, listOf vs.toArray nn) ∈ news₁ → J i m₁ news₁ →
      wpAny (model prog w) A (assign (.Tuple elts x1 px) env v) (fun _ s₂ => 1 ≤ s₂.toks → wpAny (model prog w) A (execs body env) (FPost h₀ env.locals g d os I it [(l, listOf vs.toArray nn)] (J (i + 1)) Q) (fun _ _ => False) s₂) (fun _ _ => False) ⟨h₁, g, d, tk₁, os⟩)
    (done : ∀ h' tk' m' news', 1 ≤ tk' → Fr h₀ env.locals h' m' → News h₀ env.locals h' news' → (l, listOf vs.toArray nn) ∈ news' → J vs.length m' news' → Q .next ⟨h', g, d, tk', os⟩) :
    wpAny (model prog w) A (pyIter (.ref l)) (fun it s₂ => ForAtT prog w A env (.Tuple elts x1 px) body Q it s₂) E ⟨h, g, d, tk, os⟩ := by
  revert prog w A env h₀ h g d tk os m news E Q elts x1 px body l vs nn J hh href hm F N htk h0 turn done
  intro prog w A env h₀ h g d tk os m news E Q elts x1 px body l vs nn J hh href hm F N htk h0 turn done
  have hls : h.IsList l vs.toArray := N.isList hm
  have hll : l ≠ env.locals := (N _ hm).2.1
  have hlt : l < h.objs.size := Heap.lt_size (N _ hm).1
  refine wpAny_pyIter_list (s := ⟨h, g, d, tk, os⟩) hls ?_
  have hI0 : h₀.get? h.objs.size = none := next_is_new F
  have hIL : h.objs.size ≠ env.locals := Nat.ne_of_gt F.ns.lt
  have hIl : l ≠ h.objs.size := Nat.ne_of_lt hlt
  have W := Walks.list (prog := prog) (w := w) hh h.objs.size l hIl vs.toArray
  have hsz : (vs.toArray).size = vs.length := List.size_toArray ..
  rw [hsz] at W
  have F1 : Fr h₀ env.locals (h.push { cls := .type "list_iterator", data := .fields #[.ref l, .int 0 0] }) m := F.push _
  have N1 : News h₀ env.locals (h.push { cls := .type "list_iterator", data := .fields #[.ref l, .int 0 0] }) news := fun p hp => ⟨Heap.get?_push_of_some _ (N p hp).1, (N p hp).2⟩
  have st1 : (h.push { cls := .type "list_iterator", data := .fields #[.ref l, .int 0 0] }).IsListIter h.objs.size l 0 ∧ (h.push { cls := .type "list_iterator", data := .fields #[.ref l, .int 0 0] }).IsList l vs.toArray := ⟨⟨_, Heap.get?_push_size _ rfl, rfl, rfl⟩, hls.at fun o e => Heap.get?_push_of_some _ e⟩
  have offI : ∀ p ∈ news, p.1 ≠ h.objs.size := fun p hp => Nat.ne_of_lt (Heap.lt_size (N p hp).1)
  dsimp only
  generalize h.push { cls := .type "list_iterator", data := .fields #[.ref l, .int 0 0] } = h1 at *
  generalize h.objs.size = I at *
  have hLI : env.locals ∉ [I] := fun q => hIL (List.mem_singleton.mp q).symm
  have old : ∀ b o, h₀.get? b = some o → b ∉ [I] := fun b o e hb => by rw [List.mem_singleton.mp hb, hI0] at e; cases e
  refine codeAny_forLoop_any
    (fun k s' => ∃ h' tk' m' news' i, s' = ⟨h', g, d, tk', os⟩ ∧ 1 ≤ tk' ∧ (h'.IsListIter I l i ∧ h'.IsList l vs.toArray) ∧ Fr h₀ env.locals h' m' ∧ News h₀ env.locals h' news' ∧ (∀ p ∈ news', p.1 ≠ I) ∧ (l, listOf vs.toArray nn) ∈ news' ∧ J i m' news' ∧ i ≤ vs.length ∧ k = vs.length + 1 - i) ?_ (vs.length + 1)
    ⟨h1, tk, m, news, 0, rfl, htk, st1, F1, N1, offI, hm, h0, Nat.zero_le _, rfl⟩
  rintro k s' ⟨h', tk', m', news', i, rfl, ht', hst', F', N', hnw', hm', hJ, hi, rfl⟩
  have next : ∀ h₁ : Heap, (∀ b o, b ∉ [I] → h'.get? b = some o → h₁.get? b = some o) → Fr h₀ env.locals h₁ m' ∧ News h₀ env.locals h₁ news' := fun h₁ hk₁ =>
    ⟨⟨F'.ns.at' fun o e => hk₁ _ o hLI e, fun b o e => hk₁ b o (old b o e) (F'.keep b o e), F'.above⟩, fun p hp => ⟨hk₁ _ _ (fun q => hnw' p hp (List.mem_singleton.mp q)) (N' p hp).1, (N' p hp).2⟩⟩
  by_cases hlt : i < vs.length
  · refine wpAny_with_toks (n := 1) ht' (W.item i _ _ _ hlt hst' ?_)
    intro v h₁ tk₁ hP hst₁ hk₁
    intro ht₁
    obtain ⟨F₁, N₁⟩ := next h₁ hk₁
    obtain ⟨it, hit⟩ : ∃ it, h₁.get? I = some it := ⟨_, hst₁.1.choose_spec.1⟩
    have N₃ : News h₀ env.locals h₁ ((I, it) :: news') := fun p hp => by
      rcases List.mem_cons.mp hp with rfl | hp
      · exact ⟨hit, hIL, hI0⟩
      · exact N₁ p hp
    have hv : vs[i]? = some v := by simpa using hP
    obtain ⟨T, rfl⟩ := href i v hv
    dsimp only
    refine wpAny_letOwnedTupleGo_listiter (s := ⟨h₁, g, d, tk₁, os⟩) (I := I) (l := l) (i := i + 1) hst₁.1 ?_
    refine wpAny_mono (wpAny_with_toks (n := 1) ht₁ (wpAny_mono (turn i (.ref T) m' news' h₁ tk₁ I it hv ht₁ F₁ N₃ hnw' hm' hJ) (fun _ _ x => x) fun _ _ x => x.elim)) ?_ fun _ _ e => e
    intro _ s₂ h₂
    refine wpAny_mono h₂ ?_ fun _ _ e => e.elim
    intro f s₃ h₃
    have fin : ∀ s₃, (∃ h' tk m₂ news₂, s₃ = (⟨h', g, d, tk, os⟩ : Shared) ∧ 1 ≤ tk ∧ Fr h₀ env.locals h' m₂ ∧ News h₀ env.locals h' ((I, it) :: news₂) ∧ (∀ p ∈ news₂, p.1 ≠ I) ∧ (∀ p ∈ [(l, listOf vs.toArray nn)], p ∈ news₂) ∧ J (i + 1) m₂ news₂) →
        ∃ q, q < vs.length + 1 - i ∧ ∃ h' tk' m' news' i', s₃ = (⟨h', g, d, tk', os⟩ : Shared) ∧ 1 ≤ tk' ∧ (h'.IsListIter I l i' ∧ h'.IsList l vs.toArray) ∧ Fr h₀ env.locals h' m' ∧ News h₀ env.locals h' news' ∧ (∀ p ∈ news', p.1 ≠ I) ∧ (l, listOf vs.toArray nn) ∈ news' ∧ J i' m' news' ∧ i' ≤ vs.length ∧ q = vs.length + 1 - i' := by
      rintro s₃ ⟨h₃, tk₃, m₂, news₂, rfl, ht₃, F₃, N₃', hnw₃, hks₃, hJ₃⟩
      have hm₃ := hks₃ _ (.head _)
      have N₄ : News h₀ env.locals h₃ news₂ := fun p hp => N₃' p (.tail _ hp)
      refine ⟨vs.length + 1 - (i + 1), by first | exact meas1 (by assumption) | omega, h₃, tk₃, m₂, news₂, i + 1, rfl, ht₃, ⟨?_, N₄.isList hm₃⟩, F₃, N₄, hnw₃, hm₃, hJ₃, hlt, rfl⟩
      obtain ⟨o, e1, e2⟩ := hst₁.1
      rw [hit] at e1
      cases e1
      exact ⟨_, (N₃' _ (.head _)).1, e2⟩
    cases f with
    | ret v => exact h₃
    | brk => exact h₃
    | cont => exact fin s₃ h₃
    | next => exact fin s₃ h₃
  · have hin : i = vs.length := by omega
    subst hin
    refine wpAny_with_toks (n := 1) ht' (W.done _ _ _ hst' ?_)
    intro h₁ tk₁ hk₁
    intro ht₁
    obtain ⟨F₁, N₁⟩ := next h₁ hk₁
    exact wpAny_execs_nil (done h₁ tk₁ m' news' ht₁ F₁ N₁ hm' hJ)
theorem off_my_listT : True := by
  (k_with "m:end my_listT" => skip)
  trivial
end
end Mine
end

section
open PySem PySem.W PyProof.Rows
namespace Mine
set_option maxRecDepth 100000
set_option maxHeartbeats 8000000
/-! a method's name hidden by the object's own attribute -/
section
variable {prog : Program} {w : World} {A : Around} {E : Value → Shared → Prop} {s : Shared} {h₀ : Heap} {L x C f : Addr} {ox : Obj} {m : Str → Option Value} {K : Frag} {es : List DictEntry} {n : Nat} {name : Str} {v g : Value}
theorem findObj_ownfn {od : Obj} (hh : hasDictIn K C = true) (ha : findIn K (.ref C) name = some (some (.ref f))) (hg : specialIn K (.ref f) "__get__" = some (some g)) (ht : takesIn K (.ref f) = some false) (hl : lookIn name od = some (some v)) :
    findObj K C (some od) name = some (.value v) := by
  obtain ⟨cd, hc, hd⟩ := any_some hh
  unfold findObj
  have ho : PySem.W.ownOf cd (some od) name = some (some v) := by unfold PySem.W.ownOf; rw [if_pos hd]; exact hl
  rw [hc]
  show Option.bind _ _ = _
  rw [Option.bind_some, ha, Option.bind_some]
  dsimp only
  rw [hg, Option.bind_some]
  dsimp only
  rw [ht, Option.bind_some]
  dsimp only
  rw [ho, Option.bind_some]
theorem on_method_ownfn : True := by
  (k_with "m:on" => (fail_if_success (k_extra "m:end method_ownfn")))
  trivial
theorem method_ownfn {pl : Sem Bool} {Q : Value × List Value → Shared → Prop} (F : Fr h₀ L s.heap m) (X₀ : K.In h₀) (I : InstAt s.heap x ox C (some (dictOf es n))) (hg : plainGet K C name = true) (hh : hasDictIn K C = true)
    (hf : findIn K (.ref C) name = some (some (.ref f))) (ht : isFn K (.ref f) = true) (hgt : specialIn K (.ref f) "__get__" = some (some g)) (htk : takesIn K (.ref f) = some false) (hl : getL name es = some (some v)) (hv : handedIn v = true)
    (h : Q (v, []) { s with toks := s.toks + 1 }) : wpAny (model prog w) A (getMethod (.ref x) name pl) Q E s := by
  revert prog w A E s h₀ L x C f ox m K es n name v g pl Q F X₀ I hg hh hf ht hgt htk hl hv h
  intro prog w A E s h₀ L x C f ox m K es n name v g pl Q F X₀ I hg hh hf ht hgt htk hl hv h
  have X := X₀.keeps F.keep
  have hlk : lookIn name (dictOf es n) = some (some v) := by rw [lookIn_dict, hl]
  have hcan := PySem.F.canon_object_ga
  have gt := get_value (prog := prog) (w := w) (A := A) (E := E) (expr := false) X I (plainGet_of hg).1 (findObj_ownfn hh hf hgt htk hlk) hv (Q := fun v s' => Q (v, []) s') h
  have u : wpAny (model prog w) A (do return (← getAttr (.ref x) name, ([] : List Value))) Q E s := wpAny_bind (wpAny_mono gt (fun _ _ z => wpAny_pure z) fun _ _ z => z)
  unfold getMethod specialOf
  refine wpAny_bind (wpAny_bind (I.type.here ((looks_findIn X (plainGet_of hg).1).here ?_)))
  dsimp only
  rw [hcan, if_neg (by decide)]
  refine wpAny_bind (wpAny_bind (I.type.here ((looks_findIn X (plainGet_of hg).2).here ?_)))
  refine wpAny_bind (wpAny_bind (I.type.here ((looks_findIn X hf).here (wpAny_bind ((looks_typeIn X (beq_iff_eq.mp ht)).here ?_)))))
  rw [if_neg (by decide +kernel)]
  refine wpAny_bind (wpAny_loadPart I.at_ ?_)
  have hd := I.dict
  cases e : ox.dict with
  | none => rw [e] at hd; exact hd.elim
  | some dx =>
    rw [e] at hd
    refine wpAny_bind (wpAny_bind (wpAny_loadPart hd ?_))
    rw [nsLook_of hlk]
    refine wpAny_pure ?_
    rw [if_pos (show (some v).isSome = true from rfl)]
    exact u
theorem off_method_ownfn : True := by
  (k_with "m:end method_ownfn" => skip)
  trivial
end
end Mine
end

section
open PySem PySem.W PyProof.Rows PyProof.V
namespace Mine
set_option maxRecDepth 100000
set_option maxHeartbeats 8000000
theorem ne_of_allNe {d : Nat} : ∀ {l : List (Addr × Obj)}, AllNe d l → ∀ p ∈ l, p.1 ≠ d
  | [], _ => fun _ h => nomatch h
  | p :: r, h => fun q hq => by
    rcases List.mem_cons.mp hq with rfl | hq
    · exact h.1
    · exact ne_of_allNe h.2 q hq
theorem lt_sub {D : Nat} {l l' : List (Addr × Obj)} (h : AllLt D l) (hs : ∀ p ∈ l', p ∈ l) : AllLt D l' := allLt_of fun p hp => by
  have h' : ∀ {l : List (Addr × Obj)}, AllLt D l → ∀ p ∈ l, @LT.lt Nat _ p.1 D := by
    intro l
    induction l with
    | nil => intro _ p hp; nomatch hp
    | cons q r ih =>
      intro h p hp
      rcases List.mem_cons.mp hp with rfl | hp
      · exact h.1
      · exact ih h.2 p hp
  exact h' h p (hs p hp)
theorem lt_news {h₀ h : Heap} {L D : Addr} {o : Obj} {l l' : List (Addr × Obj)} (_N : News h₀ L h ((D, o) :: l)) (h : AllLt D l) (hs : ∀ p ∈ l', p ∈ l) : AllLt D l' := lt_sub h hs
/-! a loop over a list of one item: the turn's end goes on -/
section
variable {prog : Program} {w : World} {A : Around} {env : Env} {h₀ h : Heap} {L : Addr} {g : Array GenState} {d : Drawn} {tk : Nat} {os : OsState} {m : Str → Option Value} {news : List (Addr × Obj)}
noncomputable abbrev Go (h₀ : Heap) (L : Addr) (g : Array GenState) (d : Drawn) (os : OsState) (Q : Flow → Shared → Prop) (m₂ : Str → Option Value) (news₂ : List (Addr × Obj)) : Prop := ∀ h' tk', 1 ≤ tk' → Fr h₀ L h' m₂ → News h₀ L h' news₂ → Q .next ⟨h', g, d, tk', os⟩
theorem my_listT1 {E : Value → Shared → Prop} {Q : Flow → Shared → Prop} {elts : List PySem.Expr} {x1 : Nat} {px : Pos} {body : List Stmt} {l T : Addr} {nn : Nat}
    (hh : A.handled = none) (hm : (l, listOf [.ref T].toArray nn) ∈ news) (F : Fr h₀ env.locals h m) (N : News h₀ env.locals h news) (htk : 1 ≤ tk)
    (turn : ∀ h₁ tk₁ I it, 1 ≤ tk₁ → Fr h₀ env.locals h₁ m → News h₀ env.locals h₁ ((I, it) :: news) → (∀ p ∈ news, p.1 ≠ I) →
      wpAny (model prog w) A (assign (.Tuple elts x1 px) env (.ref T)) (fun _ s₂ => 1 ≤ s₂.toks → wpAny (model prog w) A (execs body env) (FPost h₀ env.locals g d os I it [(l, listOf [.ref T].toArray nn)] (fun m₂ news₂ => Hid (Go h₀ env.locals g d os Q m₂ news₂)) Q) (fun _ _ => False) s₂) (fun _ _ => False) ⟨h₁, g, d, tk₁, os⟩) :
    wpAny (model prog w) A (pyIter (.ref l)) (fun it s₂ => ForAtT prog w A env (.Tuple elts x1 px) body Q it s₂) E ⟨h, g, d, tk, os⟩ := by
  refine my_listT (vs := [.ref T]) (fun i m₁ news₁ => match i with | 0 => m₁ = m ∧ news₁ = news | _ => Hid (Go h₀ env.locals g d os Q m₁ news₁)) hh ?_ hm F N htk ⟨rfl, rfl⟩ ?_ ?_
  · intro i v hv
    cases i with
    | zero => exact ⟨T, by simpa using hv.symm⟩
    | succ i => simp at hv
  · intro i v m₁ news₁ h₁ tk₁ I it hv ht F₁ N₁ hI hmem hJ
    cases i with
    | zero =>
      obtain ⟨rfl, rfl⟩ := hJ
      have : v = .ref T := by simpa using hv.symm
      subst this
      exact turn h₁ tk₁ I it ht F₁ N₁ hI
    | succ i => simp at hv
  · intro h' tk' m' news' ht F' N' _ hJ
    exact hJ h' tk' ht F' N'
end
end Mine
end

section
open PySem PySem.W PyProof.Rows PySem.Spec PySem.Calls
namespace Mine
set_option maxRecDepth 100000
set_option maxHeartbeats 8000000
/-! bound methods of the library's own: `''.join` of the top, `written.append` of the ledger -/
noncomputable abbrev sigJ : Manifest.Signature := (Manifest.signature? "str.join").get (by decide +kernel)
noncomputable abbrev sigA : Manifest.Signature := (Manifest.signature? "list.append").get (by decide +kernel)
theorem sigA_is : Manifest.signature? "list.append" = some sigA := by simp [sigA]
theorem quietJ {as : Args} : (Code.builtin "str.join" as).quiet = true := Code.quiet_builtin _ (by decide +kernel)
theorem quietA {as : Args} : (Code.builtin "list.append" as).quiet = true := Code.quiet_builtin _ (by decide +kernel)
theorem checkJ {x : Str} {t : Tok} {v : Value} : checkBoundCall "str.join" ⟨[.str x t, v], []⟩ = pure () := by first | kernel_rfl | rfl
section
variable {prog : Program} {w : World} {M : Model} {A : Around} {E : Value → Shared → Prop} {s : Shared} {K : Frag} {h₀ : Heap} {L : Addr} {m : Str → Option Value} {news rest : List (Addr × Obj)}
theorem checkArgsA {l : Addr} {v : Value} : Bind.checkArgs "list.append" { machinery := sigA.machinery, full := toString (Bind.lastOf "list") ++ toString "." ++ toString (Bind.lastOf "list.append"), short := sigA.short, receiver := sigA.receiver, params := sigA.params } { pos := [Value.ref l, v] } = pure () := by first | kernel_rfl | rfl
theorem checkA {l : Addr} {v : Value} {its : Array Value} {n : Nat} {Q : Unit → Shared → Prop} (ho : s.heap.get? l = some (listOf its n)) (hQ : Q () s) : wpAny M A (checkBoundCall "list.append" ⟨[.ref l, v], []⟩) Q E s := by
  have hT : s.TypeIs (.ref l) "list" := ⟨_, ho, rfl⟩
  unfold checkBoundCall
  rw [sigA_is]
  have hk : builtinKind "list.append" = some .method := by kernel_rfl
  simp -iota only [hk]
  dsimp only
  rw [if_neg (by decide)]
  refine wpAny_bind (wpAny_isInstance hT (b := false) (by rw [isSubtype_type]; kernel_rfl) ?_)
  rw [if_neg (by decide +kernel)]
  refine wpAny_bind (wpAny_bind ?_)
  refine wpAny_loadPart ho (wpAny_pure ?_)
  dsimp only
  rw [if_neg (by decide)]
  refine wpAny_bind (wpAny_typeOf hT ?_)
  dsimp only
  rw [checkArgsA]
  exact wpAny_pure hQ
theorem tree_append {l : Addr} {v : Value} {its : Array Value} {n : Nat} {P : Fin → Shared → Prop} (ho : s.heap.get? l = some (listOf its n)) (hsz : its.size ≤ sizeLine)
    (h : ∀ h', Heap.SameBut l s.heap h' → h'.get? l = some (listOf (its.push v) (n + 1)) → P (.done (.ret .none)) { s with heap := h' }) : wpAny M A (Builtin.«list.append» ⟨[.ref l, v], []⟩) P E s := by
  show wpAny _ _ (updateSeq l (·.push v) >>= fun _ => ret .none) _ _ s
  refine wpAny_bind ?_
  refine wpAny_updateSeq ho rfl (wpAny_pure (h _ (Heap.SameBut.update ..) ?_))
  rw [Heap.get?_update_self _ ho (by rw [mapSeq_push]; rfl), mapSeq_push]
noncomputable abbrev bndAp (l : Nat) : Obj := { cls := .type "builtin_function_or_method", data := .fields #[.builtin "list.append", .ref l] }
noncomputable abbrev bndOf (id : String) (v : Value) : Obj := { cls := .type "builtin_function_or_method", data := .fields #[.builtin id, v] }
theorem bound_callWith {pos : Pos} {u : Addr} {id : String} {z : Value} {first : List Value} {args : List (Bool × Sem Value)} {Q : Value → Shared → Prop} (_F : Fr h₀ L s.heap m) (hplain : args.any (·.1) = false)
    (h : wpAny M A (evalArgs (.ref u) true args []) (fun x s₁ => s₁.heap.get? u = some (bndOf id z) ∧ wpAny M A (call (.ref u) (first ++ x.pos) x.kw) Q E s₁) E s) : wpAny M A (callWith pos (.ref u) first args []) Q E s := by
  unfold callWith
  refine wpAny_bind (wpAny_holding (wpAny_mono h (fun x s₁ h₁ => wpAny_bind (wpAny_standAt ?_)) fun _ _ x => x))
  obtain ⟨ho, hcall⟩ := h₁
  simp -iota only [hplain, List.any_nil, Bool.or_false]
  (try dsimp only)
  refine wpAny_bind (m := keeperOf (.ref u)) ?_
  unfold keeperOf
  refine wpAny_bind (wpAny_load ho ?_)
  dsimp only [bndOf]
  simp -iota only [show (Value.type "builtin_function_or_method" != Value.type "method") = true by decide, show (Value.type "builtin_function_or_method" == Value.type "builtin_function_or_method" || Value.type "builtin_function_or_method" == Value.type "method-wrapper") = true by decide, if_true]
  refine wpAny_pure ?_
  exact wpAny_bind (wpAny_mono hcall (fun r s₂ hr => wpAny_bind (wpAny_holding (wpAny_point (wpAny_pure hr)))) fun _ _ x => x)
noncomputable def BndAt (u : Addr) (id : String) (z : Value) (h : Heap) : Prop := h.get? u = some (bndOf id z)
theorem bound_args {pos : Pos} {u : Addr} {id : String} {z : Value} {first : List Value} {env : Env} {e : PySem.Expr} {rest : List PySem.Expr} {Q : Value → Shared → Prop} (F : Fr h₀ L s.heap m)
    (h : wpAny M A (spliced (backTo pos (starEach (e :: rest) env))) (fun vs s₁ => BndAt u id z s₁.heap ∧ wpAny M A (call (.ref u) (first ++ vs)) Q E s₁) E s)
    (he : starEach (e :: rest) env = (false, eval e env) :: starEach rest env) (hplain : (backTo pos (starEach rest env)).any (·.1) = false) :
    wpAny M A (callWith pos (.ref u) first (backTo pos (starEach (e :: rest) env)) []) Q E s := by
  rw [he] at h ⊢
  refine bound_callWith (id := id) (z := z) F (by show (false || (backTo pos (starEach rest env)).any (·.1)) = false; rw [hplain]; rfl) ?_
  exact evalArgs_plain h
theorem on_bound_call : True := by
  (k_with "m:on" => (fail_if_success (k_extra "m:end bound_call")))
  trivial
theorem bound_call {u : Addr} {id : String} {z : Value} {B : Builtin} {vs : List Value} {Q : Value → Shared → Prop} (ho : s.heap.get? u = some (bndOf id z)) (hq : (Code.builtin id ⟨z :: vs, []⟩).quiet = true) (entry : entryFor table id = some B)
    (h : ∀ A' : Around, wpAny (model prog w) A' (checkBoundCall id ⟨z :: vs, []⟩) (fun _ s₁ => ∀ A' : Around, wpAny (model prog w) A' (B ⟨z :: vs, []⟩) (fun fin s' => ∃ v, fin = .done (.ret v) ∧ Q v s') E s₁) E s) :
    wpAny (model prog w) A (call (.ref u) vs) Q E s := by
  revert prog w A E s u id z B vs Q ho hq entry h
  intro prog w A E s u id z B vs Q ho hq entry h
  refine wpAny_call (codeAny_of_tree ?_)
  show wpAny _ A.in1 (callAny (.ref u) ⟨vs, []⟩) _ _ s
  unfold callAny
  (try dsimp only)
  refine wpAny_bind (wpAny_load ho ?_)
  dsimp only [bndOf]
  simp -iota only [show (Value.type "builtin_function_or_method" == Value.type "method" || Value.type "builtin_function_or_method" == Value.type "builtin_function_or_method" || Value.type "builtin_function_or_method" == Value.type "method-wrapper") = true by decide, if_true]
  refine KFB.if_so (by decide) ?_
  refine wpAny_bind (wpAny_mono (h _) ?_ fun _ _ x => x)
  intro _ s₁ h₁
  refine wpAny_bind (wpAny_pure (wpAny_pure ?_))
  exact ⟨hq, codeAny_builtin entry (wpAny_mono (h₁ _) (fun fin s' h' => by obtain ⟨v, rfl, hv⟩ := h'; exact hv) fun _ _ x => x)⟩
theorem off_bound_call : True := by
  (k_with "m:end bound_call" => skip)
  trivial
theorem bound_append {u l : Addr} {vs : List Value} {n : Nat} {v : Value} {Q : Value → Shared → Prop} (F : Fr h₀ L s.heap m) (N : News h₀ L s.heap ((l, listOf vs.toArray n) :: rest)) (hu : (u, bndAp l) ∈ rest) (hne : ∀ q ∈ rest, q.1 ≠ l) (hl : vs.length ≤ 1000)
    (h : ∀ h', Fr h₀ L h' m → News h₀ L h' ((l, listOf (vs ++ [v]).toArray (n + 1)) :: rest) → Q .none { s with heap := h' }) :
    wpAny (model prog w) A (call (.ref u) [v]) Q E s := by
  have z := N (l, listOf vs.toArray n) (.head _)
  refine bound_call (id := "list.append") (z := .ref l) (N _ (.tail _ hu)).1 quietA entry_list_append fun A' => checkA z.1 fun A'' => ?_
  refine tree_append z.1 (by rw [List.size_toArray, sizeLine_eq]; omega) fun h' hs ho' => ⟨_, rfl, h h' (F.change hs z.2.1 z.2.2) ?_⟩
  rw [List.push_toArray] at ho'
  exact news_set (pre := []) N (fun p hp => nomatch hp) hne hs ho'
theorem on_bound_join : True := by
  (k_with "m:on" => (fail_if_success (k_extra "m:end bound_join")))
  trivial
theorem bound_join {u l : Addr} {x : Str} {t : Tok} {vs : List Value} {ys : List Str} {n : Nat} {Q : Value → Shared → Prop} (hu : s.heap.get? u = some (bndOf "str.join" (.str x t))) (N : News h₀ L s.heap news) (hm : (l, listOf vs.toArray n) ∈ news) (hi : StrsAre vs ys) (hok : (ys.map (·.length)).sum + ys.length * x.length ≤ 16777216)
    (h : ∀ t' k, Q (.str (Txt.join x ys) t') { s with toks := k }) :
    wpAny (model prog w) A (call (.ref u) [.ref l]) Q E s := by
  revert prog w A E s h₀ L news u l x t vs ys n Q hu N hm hi hok h
  intro prog w A E s h₀ L news u l x t vs ys n Q hu N hm hi hok h
  obtain ⟨ps, hv, ht⟩ := strsAre_values hi
  subst hv
  subst ht
  have hok' := joinOk_of hok
  unfold JoinOk at hok'
  rw [Bool.not_eq_true'] at hok'
  refine wpAny_call (codeAny_of_tree ?_)
  show wpAny _ A.in1 (callAny (.ref u) ⟨[.ref l], []⟩) _ _ s
  unfold callAny
  (try dsimp only)
  refine wpAny_bind (wpAny_load hu ?_)
  (try dsimp only)
  simp -iota only [show (Value.type "builtin_function_or_method" == Value.type "method" || Value.type "builtin_function_or_method" == Value.type "builtin_function_or_method" || Value.type "builtin_function_or_method" == Value.type "method-wrapper") = true by decide, if_true]
  refine KFB.if_so (by decide) ?_
  refine wpAny_bind (wpAny_of_eq checkJ ?_)
  refine wpAny_bind (wpAny_pure (wpAny_pure ?_))
  refine ⟨quietJ, codeAny_builtin PySem.F.entry_str_join ?_⟩
  rw [Around.under_plainId (by decide +kernel)]
  exact meets_str_join_list x t l ps hok' prog w _ (wants Q E) _ ⟨N.isList hm, post_join ps ⟨joinFit_length hok', h⟩⟩
theorem off_bound_join : True := by
  (k_with "m:end bound_join" => skip)
  trivial
end
noncomputable def t176 (w : World) : Tok := match (hd.heap_39 w.params).lookup 176 with
  | some ⟨_, _, .fields vs, _⟩ => match vs[1]? with
    | some (Value.str _ t) => t
    | _ => 0
  | _ => 0
theorem k176 (w : World) : (hd.heap_39 w.params).lookup 176 = some (bndOf "str.join" (.str (Str.ofString "") (t176 w))) := by rfl
end Mine
end

section
open PySem PySem.W PyProof.Rows PySem.Spec PySem.Calls
namespace Mine
set_option maxRecDepth 100000
set_option maxHeartbeats 8000000
/-! `del xs[:]` -/
section
variable {prog : Program} {w : World} {A : Around} {E : Value → Shared → Prop} {s : Shared} {h₀ : Heap} {L : Addr} {m : Str → Option Value} {news rest : List (Addr × Obj)}
theorem del_none (items : Array Value) (f : Value × Nat → Option Value) (hf : ∀ x k, k < items.size → f (x, k) = none) : (items.toList.zipIdx.filterMap f).toArray = #[] := by
  have : items.toList.zipIdx.filterMap f = [] := by
    refine List.filterMap_eq_nil_iff.mpr fun p hp => ?_
    obtain ⟨x, k⟩ := p
    refine hf x k ?_
    have := (List.mem_zipIdx hp).2.1
    simpa using this
  rw [this]
theorem upd_nil {M : Model} {l : Addr} {vs : List Value} {n : Nat} {f : Array Value → Array Value} {Q : Unit → Shared → Prop} (ho : s.heap.get? l = some (listOf vs.toArray n)) (hf : f vs.toArray = #[]) (hsz : vs.length ≤ 1000)
    (h : ∀ h' n', Heap.SameBut l s.heap h' → h'.get? l = some (listOf #[] n') → Q () { s with heap := h' }) : wpAny M A (updateSeq l f) Q E s := by
  have e : Obj.mapSeq f (listOf vs.toArray n) = listOf #[] (if (#[] : Array Value).size == vs.toArray.size then n else n + 1) := by
    show Obj.mk _ _ (.seq (f vs.toArray) (if (f vs.toArray).size == vs.toArray.size then n else n + 1)) _ = _
    rw [hf]
  refine wpAny_updateSeq ho rfl (h _ (if (#[] : Array Value).size == vs.toArray.size then n else n + 1) (Heap.SameBut.update ..) ?_) (by rw [List.size_toArray, sizeLine_eq]; omega) (by rw [hf]; exact Nat.zero_le _)
  rw [Heap.get?_update_self _ ho (by rw [e]; rfl), e]
theorem on_my_delAll : True := by
  (k_with "m:on" => (fail_if_success (k_extra "m:end my_delAll")))
  trivial
theorem my_delAll {l : Addr} {vs : List Value} {n : Nat} {sp : Pos} {env : Env} {Q : Unit → Shared → Prop} (F : Fr h₀ L s.heap m) (N : News h₀ L s.heap ((l, listOf vs.toArray n) :: rest)) (hne : ∀ q ∈ rest, q.1 ≠ l) (hsz : vs.length ≤ 1000)
    (h : ∀ h' n', Fr h₀ L h' m → News h₀ L h' ((l, listOf [].toArray n') :: rest) → Q () { s with heap := h' }) :
    wpAny (model prog w) A (eval (.Slice none none none sp) env) (fun iv s₂ => wpAny (model prog w) A (delItem (.ref l) iv) Q E s₂) E s := by
  revert prog w A E s h₀ L m rest l vs n sp env Q F N hne hsz h
  intro prog w A E s h₀ L m rest l vs n sp env Q F N hne hsz h
  refine wpAny_Slice ?_
  rw [evalPart_none]
  refine wpAny_pure (wpAny_pure (wpAny_pure ?_))
  have F1 : Fr h₀ L (s.heap.push { cls := .type "slice", data := .fields #[.none, .none, .none] }) m := F.push _
  have N1 : News h₀ L (s.heap.push { cls := .type "slice", data := .fields #[.none, .none, .none] }) ((l, listOf vs.toArray n) :: rest) := fun p hp => ⟨Heap.get?_push_of_some _ (N p hp).1, (N p hp).2⟩
  obtain ⟨os, hos, hcs, hds⟩ := Heap.IsSliceOf.new s.heap .none .none .none
  generalize s.heap.push { cls := .type "slice", data := .fields #[.none, .none, .none] } = h1 at *
  generalize s.heap.objs.size = sl at *
  have hls : h1.IsList l vs.toArray := N1.isList (.head _)
  have z := N1 (l, listOf vs.toArray n) (.head _)
  have hTs : ({ s with heap := h1 } : Shared).TypeIs (.ref sl) "slice" := ⟨os, hos, hcs⟩
  refine wpAny_delItem_slot (s := { s with heap := h1 }) hls.typeIs (by decide) PySem.F.slot_list_delitem (wpAny_call_entry PySem.F.slot_list_delitem hls.typeIs PySem.F.entry_list_delitem ?_ (PySem.F.args_list_delitem_2 _ _))
  show wpAny _ _ (Builtin.List.listSubscript? (.ref sl) >>= _) _ _ _
  refine wpAny_bind ?_
  unfold Builtin.List.listSubscript?
  refine wpAny_bind (wpAny_specialOf hTs slice_no_index ?_)
  simp -iota only [Option.isNone_none, if_true]
  (try dsimp only)
  refine wpAny_pure ?_
  show wpAny _ _ (typeOf (.ref sl) >>= _) _ _ _
  refine wpAny_bind (wpAny_typeOf hTs ?_)
  rw [if_neg (by decide)]
  rw [listSliceParts_eq]
  refine wpAny_bind (wpAny_bind (wpAny_field hos hds (x := .none) rfl (wpAny_bind (wpAny_listPart .none ?_))))
  rw [if_neg (show ¬ ((rawPart none == rawInt 0) = true) from Bool.false_ne_true)]
  refine wpAny_bind (wpAny_field hos hds (x := .none) rfl (wpAny_bind (wpAny_listPart .none ?_)))
  refine wpAny_bind (wpAny_field hos hds (x := .none) rfl (wpAny_bind (wpAny_listPart .none (wpAny_pure ?_))))
  refine wpAny_bind (m := Builtin.List.listItems (.ref l)) ?_
  unfold Builtin.List.listItems
  refine wpAny_bind (wpAny_seqItems z.1 rfl (wpAny_pure ?_))
  refine wpAny_bind (wpAny_of_eq (sliceIndices_raw none none none vs.toArray.size (by simp)) ?_)
  dsimp only [sliceBounds, Option.getD_none]
  rw [if_pos (by decide), if_pos (by decide)]
  refine wpAny_bind (wpAny_rule ?_)
  show wpAny _ _ (updateSeq l _ >>= _) _ _ _
  refine wpAny_bind ?_
  refine upd_nil z.1 ?_ hsz fun h' n' hs ho' => ?_
  · refine del_none _ _ ?_
    intro x k hk
    show (if (if (1 : Int) > 0 then (decide ((0 : Int) ≤ (k : Int)) && decide ((k : Int) < (vs.toArray.size : Int)) && (((k : Int) - 0) % 1 == 0)) else _) = true then none else some x) = none
    rw [if_pos (by decide : (1 : Int) > 0), if_pos]
    simp only [Bool.and_eq_true, decide_eq_true_eq, beq_iff_eq]
    omega
  refine wpAny_bind (wpAny_letGo ?_)
  exact wpAny_pure ⟨_, rfl, h h' n' (F1.change hs z.2.1 z.2.2) (news_set (pre := []) N1 (fun p hp => nomatch hp) hne hs ho')⟩
theorem off_my_delAll : True := by
  (k_with "m:end my_delAll" => skip)
  trivial
end
end Mine
end

section
open PySem PySem.W PyProof.Rows PySem.Spec PySem.Calls
namespace Mine
set_option maxRecDepth 100000
set_option maxHeartbeats 8000000
/-! texts laid side by side -/
noncomputable def catS (ys : List Str) : List Nat := ys.flatMap fun y => y.cps.toList
theorem emp_cps : (Str.ofString "").cps.toList = [] := by decide +kernel
theorem join_codes0 : ∀ ys : List Str, (Str.join (Str.ofString "") ys).cps.toList = catS ys
  | [] => rfl
  | [x] => by show x.cps.toList = catS [x]; simp [catS]
  | x :: y :: r => by
    show (x ++ Str.ofString "" ++ Str.join (Str.ofString "") (y :: r)).cps.toList = _
    have ih' := join_codes0 (y :: r)
    simp only [Str.cps_append, Array.toList_append, emp_cps, List.append_nil]
    rw [ih']
    simp only [catS, List.flatMap_cons]
theorem join_codes (ys : List Str) : (Txt.join (Str.ofString "") ys).cps.toList = catS ys := by
  rw [show Txt.join (Str.ofString "") ys = Str.join (Str.ofString "") ys from StrLaws.glued_eq_join _ _]
  exact join_codes0 ys
theorem len_codes (x : Str) : x.length = x.cps.toList.length := by rw [Array.length_toList]; rfl
theorem catS_length (ys : List Str) : (catS ys).length = (ys.map (·.length)).sum := by
  induction ys with
  | nil => rfl
  | cons a r ih =>
    have e : catS (a :: r) = a.cps.toList ++ catS r := by unfold catS; rw [List.flatMap_cons]
    rw [e, List.length_append, ih, List.map_cons, List.sum_cons, len_codes]
theorem join_length (ys : List Str) : (Txt.join (Str.ofString "") ys).length = (ys.map (·.length)).sum := by
  rw [len_codes, join_codes, catS_length]
section
variable {M : Model} {A : Around} {E : Value → Shared → Prop} {s : Shared} {h₀ : Heap} {L : Addr} {m : Str → Option Value} {news : List (Addr × Obj)}
theorem bound_argsN {pos : Pos} {u l : Addr} {first : List Value} {env : Env} {e : PySem.Expr} {rest : List PySem.Expr} {Q : Value → Shared → Prop} (F : Fr h₀ L s.heap m) (_N : News h₀ L s.heap news) (_hm : (u, bndAp l) ∈ news)
    (h : wpAny M A (spliced (backTo pos (starEach (e :: rest) env))) (fun vs s₁ => BndAt u "list.append" (.ref l) s₁.heap ∧ wpAny M A (call (.ref u) (first ++ vs)) Q E s₁) E s)
    (he : starEach (e :: rest) env = (false, eval e env) :: starEach rest env) (hplain : (backTo pos (starEach rest env)).any (·.1) = false) :
    wpAny M A (callWith pos (.ref u) first (backTo pos (starEach (e :: rest) env)) []) Q E s := bound_args (id := "list.append") (z := .ref l) F h he hplain
theorem bndAt_N {h : Heap} {u l : Addr} (N : News h₀ L h news) (hm : (u, bndAp l) ∈ news) : BndAt u "list.append" (.ref l) h := (N _ hm).1
end
end Mine
end

section
open PySem PySem.W PyProof.Rows PySem.Spec PySem.Calls
namespace Mine
set_option maxRecDepth 100000
set_option maxHeartbeats 8000000
/-! a set of one text: made by a display, walked -/
noncomputable abbrev setOne (h : Int) (x : Str) (t : Tok) (ep : Nat) (tb : SetTable) : Obj := { cls := .type "set", data := .set #[(h, .str x t)] ep tb }
noncomputable def OneT (led : Bool) (tb : SetTable) : Prop := tb.place.size = 1 ∧ tb.fill = 1 ∧ 7 ≤ tb.mask ∧ tb.led = led
theorem put_one (led : Bool) (j : Nat) : ((SetTable.fresh 0 0 led).put j).1 = { SetTable.fresh 0 0 led with place := #[j] } ∧ ((SetTable.fresh 0 0 led).put j).2 = 0 := by
  refine ⟨?_, rfl⟩
  unfold SetTable.put SetTable.fresh
  simp [show SetTable.below #[] j = 0 from rfl, SetTable.insertAt, SetTable.has]
theorem layNew_one (led : Bool) (h : Int) (x : Value) : (layNew (.fresh 0 0 led) #[] h x).1 = #[(h, x)] ∧ OneT led (layNew (.fresh 0 0 led) #[] h x).2.1 := by
  unfold layNew
  cases hf : (SetTable.fresh 0 0 led).freeSlot h with
  | none =>
    refine ⟨rfl, ?_⟩
    refine ⟨by simp [SetTable.standIn], by simp [SetTable.standIn, SetTable.fill], by simp [SetTable.standIn], rfl⟩
  | some p =>
    obtain ⟨slot, wd⟩ := p
    obtain ⟨h1, h2⟩ := put_one led slot
    dsimp only
    generalize (SetTable.fresh 0 0 led).put slot = r at h1 h2
    obtain ⟨t', q⟩ := r
    dsimp only at h1 h2 ⊢
    subst h1 h2
    have hs : SetTable.insertAt (#[] : Array (Int × Value)) 0 (h, x) = #[(h, x)] := by simp [SetTable.insertAt]
    rw [hs]
    refine ⟨rfl, ?_⟩
    have hfit : SetTable.fits { SetTable.fresh 0 0 led with place := #[slot] } 1 = true := by simp [SetTable.fits, SetTable.fill, SetTable.fresh]
    unfold SetTable.orStandIn
    rw [if_pos (by exact hfit)]
    exact ⟨rfl, rfl, Nat.le_refl _, rfl⟩
section
variable {prog : Program} {w : World} {M : Model} {A : Around} {E : Value → Shared → Prop} {s : Shared} {h₀ : Heap} {L D : Addr} {m : Str → Option Value} {news rest : List (Addr × Obj)} {x : Str} {t : Tok} {led : Bool}
theorem on_setAdd_fresh : True := by
  (k_with "m:on" => (fail_if_success (k_extra "m:end setAdd_fresh")))
  trivial
theorem setAdd_fresh {Q : Bool → Shared → Prop} (ho : s.heap.get? D = some { cls := .type "set", dict := none, data := .set #[] 0 (.fresh 0 0 led) })
    (h : ∀ h' hsh ep tb, Heap.SameBut D s.heap h' → h'.get? D = some (setOne hsh x t ep tb) → OneT led tb → Q true { s with heap := h', toks := s.toks + 1 }) :
    wpAny (model prog w) A (setAdd D (.str x t)) Q E s := by
  revert prog w A E s D x t led Q ho h
  intro prog w A E s D x t led Q ho h
  unfold setAdd
  refine wpAny_holding (wpAny_bind ((PySem.strKind prog w).pyHash (k := x) (strKind_is _ _ _ _) ?_))
  unfold setAddHashed setAddHashedIn
  refine wpAny_holding (wpAny_bind (wpAny_setState_of ho rfl (by rfl) ?_))
  dsimp only
  rw [if_pos (by unfold byScan; rw [show Value.scannable (.str x t) = true from rfl]; simp [scanBound])]
  unfold setAddByScan
  refine wpAny_bind ?_
  refine wpAny_bind (wpAny_rule ?_)
  refine wpAny_bind (wpAny_of_eq (a := ScanMet.absent) (by first | rfl | (unfold setScan; simp [setScanStrs])) ?_)
  dsimp only
  obtain ⟨e1, e2⟩ := layNew_one led ((PySem.strKind prog w).hash x) (.str x t)
  generalize layNew (SetTable.fresh 0 0 led) #[] ((PySem.strKind prog w).hash x) (Value.str x t) = R at e1 e2 ⊢
  obtain ⟨es, tb, wd, gv⟩ := R
  dsimp only at e1 e2 ⊢
  subst e1
  obtain ⟨p1, p2, p3, p4⟩ := e2
  have hgw : ∀ (b : Bool) {s₁ : Shared} {Q' : Unit → Shared → Prop}, Q' () s₁ → wpAny (model prog w) A (match b with | true => rule "set.scan.the-table-gave-way" | false => pure ()) Q' E s₁ :=
      fun b s₁ Q' hq => by cases b <;> first | exact wpAny_pure hq | exact wpAny_rule hq
  refine wpAny_bind (hgw _ ?_)
  have hput : ∀ (tb' : SetTable), OneT led tb' → tb'.tooFull = false ∧ (∀ s' : Shared, s'.heap = s.heap.update D (Obj.putSet #[((PySem.strKind prog w).hash x, Value.str x t)] tb') → s' = { s with heap := s'.heap, toks := s.toks + 1 } → Q true s') := by
    intro tb' ⟨q1, q2, q3, q4⟩
    refine ⟨by unfold SetTable.tooFull; rw [q2]; simp; omega, ?_⟩
    intro s' e1 e2
    rw [e2, e1]
    refine h _ ((PySem.strKind prog w).hash x) 1 tb' (Heap.SameBut.update ..) ?_ ⟨q1, q2, q3, q4⟩
    rw [Heap.get?_update_self _ ho (by rfl)]
    rfl
  split
  · refine wpAny_bind ?_
    rw [hashByValue_scannable 8 (by rfl)]
    refine wpAny_pure ?_
    obtain ⟨hnf, hq⟩ := hput { tb with plain := false } ⟨p1, p2, p3, p4⟩
    simp only [show plainKind (.str x t) = false from rfl, Bool.false_eq_true, if_false]
    refine wpAny_bind (wpAny_storeSet_of (s := { s with toks := s.toks + 1 }) ho rfl ?_ (by show 1 ≤ _; rw [sizeLine_eq]; decide))
    rw [hnf, Bool.and_false, if_neg (by decide)]
    refine wpAny_pure (wpAny_pure ?_)
    exact hq _ rfl rfl
  · refine wpAny_bind (wpAny_pure ?_)
    simp only [↓reduceIte]
    obtain ⟨hnf, hq⟩ := hput tb ⟨p1, p2, p3, p4⟩
    refine wpAny_bind (wpAny_storeSet_of (s := { s with toks := s.toks + 1 }) ho rfl ?_ (by show 1 ≤ _; rw [sizeLine_eq]; decide))
    rw [hnf, Bool.and_false, if_neg (by decide)]
    refine wpAny_pure (wpAny_pure ?_)
    exact hq _ rfl rfl
theorem off_setAdd_fresh : True := by
  (k_with "m:end setAdd_fresh" => skip)
  trivial
theorem newSet_led {Q : Value → Shared → Prop}
    (h : Q (.ref s.heap.objs.size) { s with heap := s.heap.push { cls := .type "set", dict := none, data := .set #[] 0 (.fresh 0 0 (!w.params.followText "set-order")) } }) :
    wpAny (model prog w) A (newSet (.type "set")) Q E s := by
  unfold newSet setsByText
  refine wpAny_bind (wpAny_bind (wpAny_askSetting (wpAny_pure ?_)))
  dsimp only
  simp only [newObj]
  exact wpAny_bind (wpAny_alloc (wpAny_pure h))
theorem roomFor_one {tb : SetTable} (h : OneT led tb) : tb.roomFor 0 = none := by
  obtain ⟨_, q2, q3, _⟩ := h
  unfold SetTable.roomFor
  rw [q2, if_neg (by omega)]
theorem one_fits {tb : SetTable} (h : OneT led tb) : tb.fits 1 = true := by
  obtain ⟨q1, q2, q3, _⟩ := h
  unfold SetTable.fits
  rw [q1, q2]
  simp; omega
theorem on_star_empty : True := by
  (k_with "m:on" => (fail_if_success (k_extra "m:end star_empty")))
  trivial
theorem star_empty {a : Addr} {hsh : Int} {ep nA : Nat} {tb : SetTable} {Q : Unit → Shared → Prop} (hh : A.handled = none) (ho : s.heap.get? D = some (setOne hsh x t ep tb)) (ht : OneT led tb) (ha : s.heap.get? a = some (dictOf [] nA)) (lo : (a == sysModules) = false)
    (h : ∀ h' tk, (∀ b o, s.heap.get? b = some o → h'.get? b = some o) → Q () { s with heap := h', toks := tk }) : wpAny (model prog w) A (setDisplayStar D (.ref a)) Q E s := by
  revert prog w A E s D x t led a hsh ep nA tb Q hh ho ht ha lo h
  intro prog w A E s D x t led a hsh ep nA tb Q hh ho ht ha lo h
  have hT : s.TypeIs (.ref a) "dict" := ⟨_, ha, rfl⟩
  unfold setDisplayStar
  refine wpAny_bind (wpAny_isInstance hT (b := false) (by rw [isSubtype_type]; kernel_rfl) ?_)
  rw [if_neg (by decide)]
  refine wpAny_bind (wpAny_isInstance hT (b := false) (by rw [isSubtype_type]; kernel_rfl) ?_)
  refine wpAny_bind (wpAny_askSetting ?_)
  dsimp only
  have hbm : (model prog w).w.params.followText "set-display-star-reads-storage" = w.params.followText "set-display-star-reads-storage" := rfl
  rw [hbm]
  cases hb : w.params.followText "set-display-star-reads-storage" with
  | false =>
    rw [if_neg (by decide)]
    dsimp only
    rw [if_neg (by decide)]
    refine wpAny_bind (wpAny_typeOf hT ?_)
    rw [if_pos (by decide)]
    refine wpAny_bind (wpAny_rule ?_)
    rw [lo, if_neg (by decide)]
    refine wpAny_bind (wpAny_dictEpoch ha rfl ?_)
    refine wpAny_bind (wpAny_dictEntries ha rfl ?_)
    refine wpAny_bind ?_
    unfold setRoomFor
    refine wpAny_bind (wpAny_setState_of ho rfl (one_fits ht) ?_)
    dsimp only
    rw [show (List.toArray ([] : List DictEntry)).size = 0 from rfl, roomFor_one ht]
    refine wpAny_pure ?_
    exact wpAny_bind (wpAny_of_eq (a := PUnit.unit) (by simp [Std.Legacy.Range.forIn_eq_forIn_range', Std.Legacy.Range.size]) (wpAny_pure (h s.heap s.toks fun _ _ e => e)))
  | true =>
    rw [if_pos rfl]
    dsimp only
    obtain ⟨oD, hD⟩ : ∃ kvs : List (Str × Value), kvs = [] ∧ s.heap.DictAt (PySem.strKind prog w) a kvs nA := ⟨[], rfl, _, _, ha, ⟨rfl, rfl, rfl⟩, rfl, fun e he => by simp at he, .nil, List.nodup_nil⟩
    obtain ⟨rfl, hD⟩ := hD
    refine wpAny_bind (wpAny_pyIter_dict lo hD ?_)
    refine wpAny_bind (wpAny_runValue (codeAny_builtin PyProof.Rows.F.entry_set_update_loop ?_))
    rw [Around.under_plainId PyProof.Rows.F.plain_set_update_loop _]
    show wpAny _ A.in1 (pyNext (.ref s.heap.objs.size) >>= _) _ _ _
    refine wpAny_bind (wpAny_pyNext_dict_end (knd := PySem.strKind prog w) (d := a) (i := 0) (ep := nA) (kvs := []) hh ⟨_, Heap.get?_push_size _ rfl, rfl, rfl⟩ (hD.push _) rfl fun h' he' => ?_)
    show wpAny _ _ (ret Value.none) _ _ _
    refine wpAny_pure ?_
    exact wpAny_pure (h h' s.toks fun b o e => he' b o (Nat.ne_of_lt (Heap.lt_size e)) (Heap.get?_push_of_some _ e))
theorem off_star_empty : True := by
  (k_with "m:end star_empty" => skip)
  trivial
theorem set_display {road : DisplayRoad} {b : Bool} {t1 t2 : Sem Value} {Q : Value → Shared → Prop} (hroad : road = .oneByOne)
    (h : ∀ h1, h1 = s.heap.push { cls := .type "set", dict := none, data := .set #[] 0 (.fresh 0 0 (!w.params.followText "set-order")) } →
      wpAny (model prog w) A t1 (fun v s' => wpAny (model prog w) A (setAdd s.heap.objs.size v) (fun _ s'' => wpAny (model prog w) A t2 (fun v2 s3 => wpAny (model prog w) A (setDisplayStar s.heap.objs.size v2) (fun _ s4 => Q (.ref s.heap.objs.size) s4) E s3) E s'') E s') E { s with heap := h1 }) :
    wpAny (model prog w) A (setDisplay road b [(false, t1), (true, t2)]) Q E s := by
  subst hroad
  unfold setDisplay
  rw [if_neg (by decide)]
  refine wpAny_bind (newSet_led ?_)
  have h' := h _ rfl
  dsimp only
  rw [show (if [(false, t1), (true, t2)].length > 30 then 0 else ([(false, t1), (true, t2)].findIdx? (·.1)).getD [(false, t1), (true, t2)].length) = 1 from rfl]
  refine wpAny_bind (wpAny_holding ?_)
  refine wpAny_bind ?_
  show wpAny _ _ (evalAll [t1]) _ _ _
  unfold evalAll
  refine wpAny_bind (wpAny_mono h' (fun v s1 h1 => ?_) fun _ _ e => e)
  refine wpAny_bind (wpAny_holding (wpAny_pure (wpAny_pure ?_)))
  refine wpAny_bind (wpAny_holding ?_)
  rw [List.forIn_cons]
  refine wpAny_bind (wpAny_bind (wpAny_bind (wpAny_mono h1 (fun _ s2 h2 => ?_) fun _ _ e => e)))
  refine wpAny_pure ?_
  dsimp only
  rw [List.forIn_nil]
  refine wpAny_pure ?_
  rw [if_neg (by decide)]
  refine wpAny_pure ?_
  show wpAny _ _ (forIn [(true, t2)] PUnit.unit _ >>= _) _ _ _
  refine wpAny_bind ?_
  rw [List.forIn_cons]
  refine wpAny_bind (wpAny_bind (wpAny_mono h2 (fun v2 s3 h3 => ?_) fun _ _ e => e))
  dsimp only
  rw [if_pos rfl]
  refine wpAny_bind (wpAny_holding (wpAny_mono h3 (fun _ s4 h4 => ?_) fun _ _ e => e))
  refine wpAny_pure ?_
  dsimp only
  rw [List.forIn_nil]
  exact wpAny_pure (wpAny_pure (wpAny_pure h4))
theorem set_star {K : Frag} {e1 e2 : PySem.Expr} {p1 pos : Pos} {env : Env} {Q : Value → Shared → Prop} (X : K.In h₀) (hc : kdsCode K env.code = true) (hp : kdsPlain e1 = true) (hh : A.handled = none) (F : Fr h₀ L s.heap m) (N : News h₀ L s.heap news)
    (h1 : ∀ h', Fr h₀ L h' m → wpAny (model prog w) A (eval e1 env) (fun v s' => v = .str x t ∧ ∃ tk, s' = { s with heap := h', toks := tk }) (fun _ _ => False) { s with heap := h' })
    {a : Addr} {nA : Nat} (hA : (a, dictOf [] nA) ∈ news) (lo : (a == sysModules) = false)
    (h2 : ∀ h' tk, Fr h₀ L h' m → wpAny (model prog w) A (eval e2 env) (fun v s' => v = .ref a ∧ ∃ tk, s' = { s with heap := h', toks := tk }) (fun _ _ => False) { s with heap := h', toks := tk })
    (h : ∀ D h' tk hsh ep tb, Fr h₀ L h' m → News h₀ L h' ((D, setOne hsh x t ep tb) :: news) → AllLt D news → OneT (!w.params.followText "set-order") tb → Q (.ref D) { s with heap := h', toks := tk }) :
    wpAny (model prog w) A (eval (.Set [e1, .Starred e2 p1] 0 pos) env) Q E s := by
  rw [arm_eval_Set]
  refine wpAny_bind (wpAny_standAt ?_)
  refine wpAny_bind (kds_main (X.keeps F.keep) hc fun b => ?_)
  have hs : starEach [e1, .Starred e2 p1] env = [(false, eval e1 env), (true, eval e2 env)] := by
    cases e1 <;> first | rfl | exact absurd hp (by simp [kdsPlain])
  rw [hs]
  refine set_display rfl fun g hg => ?_
  have F1 : Fr h₀ L g m := by rw [hg]; exact F.push _
  have N1 : News h₀ L g ((s.heap.objs.size, { cls := .type "set", dict := none, data := .set #[] 0 (.fresh 0 0 (!w.params.followText "set-order")) }) :: news) := by rw [hg]; exact news_new F N _ rfl
  have hlt : ∀ p ∈ news, p.1 < s.heap.objs.size := fun p hp => Heap.lt_size (N p hp).1
  clear hg
  generalize s.heap.objs.size = D at *
  refine wpAny_bind (wpAny_noRaise (wpAny_mono (h1 g F1) (fun v s1 hv => ?_) fun _ _ x => x))
  obtain ⟨rfl, tk1, rfl⟩ := hv
  refine wpAny_bind (wpAny_standAt (wpAny_pure ?_))
  have zD := N1 _ (.head _)
  refine setAdd_fresh (s := { s with heap := g, toks := tk1 }) zD.1 fun h3 hsh ep tb hs3 hD3 ht => ?_
  have F3 : Fr h₀ L h3 m := F1.change hs3 zD.2.1 zD.2.2
  have N3 : News h₀ L h3 ((D, setOne hsh x t ep tb) :: news) := news_set (pre := []) N1 (fun p hp => nomatch hp) (fun p hp => Nat.ne_of_lt (hlt p hp)) hs3 hD3
  refine wpAny_bind (wpAny_noRaise (wpAny_mono (h2 h3 _ F3) (fun v s1 hv => ?_) fun _ _ x => x))
  obtain ⟨rfl, tk2, rfl⟩ := hv
  refine wpAny_bind (wpAny_standAt (wpAny_pure ?_))
  refine star_empty (s := { s with heap := h3, toks := tk2 }) hh (N3 _ (.head _)).1 ht (N3 _ (.tail _ hA)).1 lo fun h4 tk4 hk => ?_
  exact h D h4 tk4 hsh ep tb (F3.keeps hk) (fun p hp => ⟨hk _ _ (N3 p hp).1, (N3 p hp).2⟩) (allLt_of hlt) ht
end
end Mine
end

section
open PySem PySem.W PyProof.Rows PySem.Spec PySem.Calls
namespace Mine
set_option maxRecDepth 100000
set_option maxHeartbeats 8000000
/-! a set of one text, walked -/
noncomputable abbrev siObj (D : Addr) (ep : Nat) (f i : Int) : Obj := { cls := .type "set_iterator", data := .fields #[.int f 0, .int i 0, .ref D, .int 1 0, .int ep 0] }
theorem slot_si_next : Slot "set_iterator" "__next__" "set_iterator.__next__" :=
  .of (owner := "set_iterator") (n := "__next__") (by rw [typeLookup_type, builtinLookup_eq_fast]; kernel_rfl) (by decide +kernel) (by decide +kernel) (by decide +kernel)
    (by first | exact .inl (by decide +kernel) | exact .inr (by decide +kernel)) (by rw [isSubtype_type]; kernel_rfl)
theorem slot_si_iter : Slot "set_iterator" "__iter__" "set_iterator.__iter__" :=
  .of (owner := "set_iterator") (n := "__iter__") (by rw [typeLookup_type, builtinLookup_eq_fast]; kernel_rfl) (by decide +kernel) (by decide +kernel) (by decide +kernel)
    (by first | exact .inl (by decide +kernel) | exact .inr (by decide +kernel)) (by rw [isSubtype_type]; kernel_rfl)
theorem entry_si_next : entryFor table "set_iterator.__next__" = some Builtin.«set_iterator.__next__» := entryFor_of_tree (by kernel_rfl)
theorem entry_si_iter : entryFor table "set_iterator.__iter__" = some Builtin.«dict_keyiterator.__iter__» := entryFor_alias (id' := "dict_keyiterator.__iter__") (by rw [fastTable_eq_tree]; kernel_rfl) rfl (by decide +kernel) (by rw [fastTable_eq_tree]; kernel_rfl)
theorem entry_set_iter : entryFor table "set.__iter__" = some Builtin.«frozenset.__iter__» := entryFor_alias (id' := "frozenset.__iter__") (by rw [fastTable_eq_tree]; kernel_rfl) rfl (by decide +kernel) (by rw [fastTable_eq_tree]; kernel_rfl)
theorem args_si_next (a : Value) : argsOk "set_iterator.__next__" ⟨[a], []⟩ := by unfold argsOk; kernel_rfl
theorem args_si_iter (a : Value) : argsOk "set_iterator.__iter__" ⟨[a], []⟩ := by unfold argsOk; kernel_rfl
theorem arr_one {a : Array Nat} (h : a.size = 1) : ∃ j, a = #[j] := by
  obtain ⟨l⟩ := a
  match l, h with
  | [j], _ => exact ⟨j, rfl⟩
section
variable {prog : Program} {w : World} {M : Model} {A : Around} {E : Value → Shared → Prop} {s : Shared} {h₀ : Heap} {L D : Addr} {m : Str → Option Value} {news rest : List (Addr × Obj)} {x : Str} {t : Tok} {led : Bool} {hsh : Int} {ep : Nat} {tb : SetTable}
theorem on_pyIter_one : True := by
  (k_with "m:on" => (fail_if_success (k_extra "m:end pyIter_one")))
  trivial
theorem pyIter_one {Q : Value → Shared → Prop} (ho : s.heap.get? D = some (setOne hsh x t ep tb)) (ht : OneT led tb)
    (h : Q (.ref s.heap.objs.size) { s with heap := s.heap.push (siObj D ep 0 0) }) : wpAny (model prog w) A (pyIter (.ref D)) Q E s := by
  revert prog w A E s D x t led hsh ep tb Q ho ht h
  intro prog w A E s D x t led hsh ep tb Q ho ht h
  have hT : s.TypeIs (.ref D) "set" := ⟨_, ho, rfl⟩
  refine wpAny_pyIter_slot hT PySem.F.slot_set_iter (wpAny_call_entry PySem.F.slot_set_iter hT entry_set_iter ?_ (PySem.F.args_set_iter_1 _))
  unfold Builtin.«frozenset.__iter__»
  show wpAny _ _ (Builtin.Frozenset.sizeOf D >>= _) _ _ s
  unfold Builtin.Frozenset.sizeOf
  refine wpAny_bind (wpAny_bind (wpAny_setEntries_of ho rfl (one_fits ht) (wpAny_pure ?_)))
  unfold setDrawn setsByText
  refine wpAny_bind (wpAny_bind (wpAny_setState_of ho rfl (one_fits ht) ?_))
  dsimp only
  refine wpAny_bind (wpAny_bind (wpAny_askSetting (wpAny_pure (wpAny_pure ?_))))
  rw [if_neg (by show ¬ ((!_ && (!tb.plain && decide (1 > 1))) = true); simp)]
  refine wpAny_bind (wpAny_pure ?_)
  unfold setEpoch
  refine wpAny_bind (wpAny_bind (wpAny_setState_of ho rfl (one_fits ht) (wpAny_pure ?_)))
  show wpAny _ _ (newFields _ _ >>= _) _ _ s
  unfold newFields
  refine wpAny_bind (wpAny_newObj_type (wpAny_pure ⟨_, rfl, "set_iterator", _, ⟨_, Heap.get?_push_size _ rfl, rfl⟩, slot_si_next.lookup, ?_⟩))
  exact h
theorem off_pyIter_one : True := by
  (k_with "m:end pyIter_one" => skip)
  trivial
theorem below1 {j k : Nat} (h : j < k) : SetTable.below #[j] k = 1 := by
  show SetTable.below.go #[j] k 1 0 1 = 1
  dsimp only [SetTable.below.go]
  rw [if_pos (by decide), if_pos (by exact h)]
theorem pick_one (f : Nat → Nat) (e : Int × Value) : pickOrder f #[e] = #[e] := by
  show pickOrder.go f 1 0 [e] #[] = #[e]
  dsimp only [pickOrder.go]
  rw [show f 0 % [e].length = 0 from Nat.mod_one _]
  rfl
theorem on_setNext_first : True := by
  (k_with "m:on" => (fail_if_success (k_extra "m:end setNext_first")))
  trivial
theorem setNext_first {Q : Option (Value × Nat) → Shared → Prop} (ho : s.heap.get? D = some (setOne hsh x t ep tb)) (ht : OneT (!w.params.followText "set-order") tb)
    (h : ∀ f : Nat, (w.params.followText "set-order" = false → tb.place.getD 0 0 + 1 = f) → Q (some (.str x t, f)) s) : wpAny (model prog w) A (setNext D 0 0 ep) Q E s := by
  revert prog w A E s D x t hsh ep tb Q ho ht h
  intro prog w A E s D x t hsh ep tb Q ho ht h
  unfold setNext setsByText
  refine wpAny_bind (wpAny_setState_of ho rfl (one_fits ht) ?_)
  dsimp only
  refine wpAny_bind (wpAny_bind (wpAny_askSetting (wpAny_pure ?_)))
  have hm : (model prog w).w.params.followText "set-order" = w.params.followText "set-order" := rfl
  rw [hm]
  cases hb : w.params.followText "set-order" with
  | true =>
    rw [if_pos rfl, if_neg (by simp)]
    refine wpAny_bind ?_
    unfold setWalk setsByText
    refine wpAny_bind (wpAny_setState_of ho rfl (one_fits ht) ?_)
    dsimp only
    refine wpAny_bind (wpAny_bind (wpAny_askSetting (wpAny_pure ?_)))
    rw [hm, hb, if_pos rfl]
    refine wpAny_bind (wpAny_askSetting (wpAny_pure ?_))
    rw [pick_one]
    exact wpAny_pure (h 0 (fun e => by rw [hb] at e; cases e))
  | false =>
    rw [if_neg (by decide)]
    rw [if_neg (by show ¬ ((!tb.plain && decide (1 > 1)) = true); simp)]
    obtain ⟨q1, q2, q3, q4⟩ := ht
    rw [hb] at q4
    refine wpAny_bind (wpAny_of_eq (a := ()) (by show (if (!tb.led && !(#[(hsh, Value.str x t)] : Array (Int × Value)).isEmpty) = true then _ else _) = _; rw [q4]; rfl) ?_)
    obtain ⟨j, hj⟩ := arr_one q1
    rw [hj] at h ⊢
    have hbl : SetTable.below #[j] 0 = 0 := @if_neg (j < 0) _ (Nat.not_lt_zero j) Nat 1 0
    rw [hbl]
    exact wpAny_pure (h (j + 1) fun _ => rfl)
theorem off_setNext_first : True := by
  (k_with "m:end setNext_first" => skip)
  trivial
theorem on_setNext_last : True := by
  (k_with "m:on" => (fail_if_success (k_extra "m:end setNext_last")))
  trivial
theorem setNext_last {f : Nat} {Q : Option (Value × Nat) → Shared → Prop} (ho : s.heap.get? D = some (setOne hsh x t ep tb)) (ht : OneT (!w.params.followText "set-order") tb) (hf : w.params.followText "set-order" = false → tb.place.getD 0 0 + 1 = f)
    (h : Q none s) : wpAny (model prog w) A (setNext D f 1 ep) Q E s := by
  revert prog w A E s D x t hsh ep tb f Q ho ht hf h
  intro prog w A E s D x t hsh ep tb f Q ho ht hf h
  unfold setNext setsByText
  refine wpAny_bind (wpAny_setState_of ho rfl (one_fits ht) ?_)
  dsimp only
  refine wpAny_bind (wpAny_bind (wpAny_askSetting (wpAny_pure ?_)))
  have hm : (model prog w).w.params.followText "set-order" = w.params.followText "set-order" := rfl
  rw [hm]
  cases hb : w.params.followText "set-order" with
  | true =>
    rw [if_pos rfl, if_neg (by simp)]
    refine wpAny_bind ?_
    unfold setWalk setsByText
    refine wpAny_bind (wpAny_setState_of ho rfl (one_fits ht) ?_)
    dsimp only
    refine wpAny_bind (wpAny_bind (wpAny_askSetting (wpAny_pure ?_)))
    rw [hm, hb, if_pos rfl]
    refine wpAny_bind (wpAny_askSetting (wpAny_pure ?_))
    rw [pick_one]
    exact wpAny_pure h
  | false =>
    rw [if_neg (by decide)]
    rw [if_neg (by show ¬ ((!tb.plain && decide (1 > 1)) = true); simp)]
    obtain ⟨q1, q2, q3, q4⟩ := ht
    rw [hb] at q4
    refine wpAny_bind (wpAny_of_eq (a := ()) (by show (if (!tb.led && !(#[(hsh, Value.str x t)] : Array (Int × Value)).isEmpty) = true then _ else _) = _; rw [q4]; rfl) ?_)
    obtain ⟨j, hj⟩ := arr_one q1
    have hf' := hf hb
    rw [hj] at hf' ⊢
    have hf2 : j + 1 = f := hf'
    subst hf2
    have hbl : SetTable.below #[j] (j + 1) = 1 := below1 (Nat.lt_succ_self j)
    rw [hbl]
    exact wpAny_pure h
theorem off_setNext_last : True := by
  (k_with "m:end setNext_last" => skip)
  trivial
theorem on_pyNext_one : True := by
  (k_with "m:on" => (fail_if_success (k_extra "m:end pyNext_one")))
  trivial
theorem pyNext_one {I : Addr} {Q : Option Value → Shared → Prop} (hI : s.heap.get? I = some (siObj D ep 0 0)) (ho : s.heap.get? D = some (setOne hsh x t ep tb)) (ht : OneT (!w.params.followText "set-order") tb)
    (h : ∀ (f : Nat) h', (w.params.followText "set-order" = false → tb.place.getD 0 0 + 1 = f) → h'.get? I = some (siObj D ep f 1) → Heap.SameBut I s.heap h' → Q (some (.str x t)) { s with heap := h' }) : wpAny (model prog w) A (pyNext (.ref I)) Q E s := by
  revert prog w A E s D x t hsh ep tb I Q hI ho ht h
  intro prog w A E s D x t hsh ep tb I Q hI ho ht h
  have hT : s.TypeIs (.ref I) "set_iterator" := ⟨_, hI, rfl⟩
  unfold pyNext
  refine wpAny_bind (wpAny_attempt (wpAny_callSpecial?_slot (name := Str.ofString "__next__") hT slot_si_next
    (wpAny_call_entry slot_si_next hT entry_si_next ?_ (args_si_next _))))
  unfold Builtin.«set_iterator.__next__»
  show wpAny _ _ (fieldsOf (.ref I) >>= _) _ _ s
  refine wpAny_bind (wpAny_fieldsOf hI rfl ?_)
  dsimp only
  refine wpAny_bind (wpAny_setEntries_of ho rfl (one_fits ht) ?_)
  rw [if_neg (by simp)]
  refine wpAny_bind (setNext_first ho ht ?_)
  intro f hf
  dsimp only
  refine wpAny_bind (wpAny_setField hI rfl (by simp) ?_)
  have hI1 : (s.heap.update I (Obj.mapFields (·.setIfInBounds 0 (rawInt (f : Int))))).get? I = some (siObj D ep f 0) := by
    rw [Heap.get?_update_self _ hI (by rfl)]; rfl
  refine wpAny_bind (wpAny_setField hI1 rfl (by simp) ?_)
  refine wpAny_pure ⟨_, rfl, wpAny_pure (h f _ hf ?_ ((Heap.SameBut.update ..).trans (Heap.SameBut.update ..)))⟩
  rw [Heap.get?_update_self _ hI1 (by rfl)]; rfl
theorem off_pyNext_one : True := by
  (k_with "m:end pyNext_one" => skip)
  trivial
theorem on_pyNext_none : True := by
  (k_with "m:on" => (fail_if_success (k_extra "m:end pyNext_none")))
  trivial
theorem pyNext_none {I : Addr} {f : Nat} {Q : Option Value → Shared → Prop} (hh : A.handled = none) (hI : s.heap.get? I = some (siObj D ep f 1)) (ho : s.heap.get? D = some (setOne hsh x t ep tb)) (ht : OneT (!w.params.followText "set-order") tb) (hf : w.params.followText "set-order" = false → tb.place.getD 0 0 + 1 = f)
    (h : ∀ h', Heap.ExtBut I s.heap h' → Q none { s with heap := h' }) : wpAny (model prog w) A (pyNext (.ref I)) Q E s := by
  revert prog w A E s D x t hsh ep tb I f Q hh hI ho ht hf h
  intro prog w A E s D x t hsh ep tb I f Q hh hI ho ht hf h
  have hT : s.TypeIs (.ref I) "set_iterator" := ⟨_, hI, rfl⟩
  unfold pyNext
  refine wpAny_bind (wpAny_attempt (wpAny_callSpecial?_slot (name := Str.ofString "__next__") hT slot_si_next
    (wpAny_call_entry slot_si_next hT entry_si_next ?_ (args_si_next _))))
  unfold Builtin.«set_iterator.__next__»
  show wpAny _ _ (fieldsOf (.ref I) >>= _) _ _ s
  refine wpAny_bind (wpAny_fieldsOf hI rfl ?_)
  dsimp only
  refine wpAny_bind (wpAny_setEntries_of ho rfl (one_fits ht) ?_)
  rw [if_neg (by simp)]
  refine wpAny_bind (setNext_last (f := f) ho ht hf ?_)
  dsimp only
  refine wpAny_bind (wpAny_setField hI rfl (by simp) ?_)
  show wpAny _ _ (newExc (.type "StopIteration") [] >>= _) _ _ _
  refine wpAny_bind ?_
  simp only [newExc, newTuple]
  refine wpAny_bind (wpAny_newObj_type ?_ (by size_fits))
  refine wpAny_bind (m := firstArgMember _ _) (wpAny_of_eq (a := Value.none) (by first | rfl | (simp only [firstArgMember]; rfl)) ?_)
  refine wpAny_newObj_type ?_ (by size_fits)
  unfold raiseNew
  refine wpAny_bind (wpAny_handled ?_)
  rw [show A.in1.handled = none from hh]
  refine wpAny_bind (wpAny_pure (wpAny_throw ?_))
  refine wpAny_bind (wpAny_isInstance (T := "StopIteration") (b := true) ⟨_, Heap.get?_push_size _ rfl, rfl⟩ isSubtype_stop ?_)
  exact wpAny_pure (h _ (((Heap.SameBut.update ..).extBut.push _).push _))
theorem off_pyNext_none : True := by
  (k_with "m:end pyNext_none" => skip)
  trivial
end
end Mine
end

section
open PySem PySem.W PyProof.Rows PySem.Spec PySem.Calls
namespace Mine
set_option maxRecDepth 100000
set_option maxHeartbeats 8000000
/-! a set of one text, sorted by a key -/
section
variable {prog : Program} {w : World} {M : Model} {A : Around} {E : Value → Shared → Prop} {s : Shared} {h₀ : Heap} {L D : Addr} {m : Str → Option Value} {news rest : List (Addr × Obj)} {x : Str} {t : Tok} {led : Bool} {hsh : Int} {ep : Nat} {tb : SetTable}
theorem on_hint_set : True := by
  (k_with "m:on" => (fail_if_success (k_extra "m:end hint_set")))
  trivial
theorem hint_set {r : Addr} {Q : Bool → Shared → Prop} (hT : s.TypeIs (.ref r) "set") (h : Q false s) : wpAny (model prog w) A (Builtin.List.listLengthHint (.ref r)) Q E s := by
  revert prog w A E s r Q hT h
  intro prog w A E s r Q hT h
  unfold Builtin.List.listLengthHint
  refine wpAny_bind (wpAny_specialOf hT PySem.F.slot_set_len.lookup ?_)
  generalize hid : ("set.__len__" : String) = id0
  wp_delta
  rw [show splitId id0 = some ("set", "__len__") from by subst hid; decide +kernel]
  subst hid
  refine wpAny_bind (wpAny_isInstance (T := "set") (b := true) hT (by rw [isSubtype_type]; kernel_rfl) ?_)
  refine wpAny_ite_split (fun hab => absurd hab (by decide)) ?_
  intro _
  refine wpAny_ite_split ?_ (fun hab => absurd (by decide +kernel) hab)
  intro _
  refine wpAny_bind (wpAny_typeOf hT ?_)
  exact wpAny_pure h
theorem off_hint_set : True := by
  (k_with "m:end hint_set" => skip)
  trivial
theorem self_si {I : Addr} {f i : Int} {Q : Value → Shared → Prop} (hI : s.heap.get? I = some (siObj D ep f i)) (h : Q (.ref I) s) : wpAny (model prog w) A (pyIter (.ref I)) Q E s := by
  have hT : s.TypeIs (.ref I) "set_iterator" := ⟨_, hI, rfl⟩
  refine wpAny_pyIter_slot hT slot_si_iter (wpAny_call_entry slot_si_iter hT entry_si_iter ?_ (args_si_iter _))
  show wpAny _ _ (ret (.ref I)) _ _ s
  exact wpAny_pure ⟨_, rfl, "set_iterator", _, hT, slot_si_next.lookup, h⟩
theorem src_one (ht : OneT (!w.params.followText "set-order") tb) : KdlSrc prog w "set" D D 1 (fun _ v => v = .str x t) (fun h => h.get? D = some (setOne hsh x t ep tb)) where
  type := fun _ hm => ⟨_, hm, rfl⟩
  there := fun _ hm => ⟨Heap.lt_size hm, Heap.lt_size hm⟩
  keep := fun _ _ hm hk => hk D (.inl rfl) _ hm
  notList := by decide
  notTuple := by decide
  hint := fun _ _ _ _ hm hq => hint_set ⟨_, hm, rfl⟩ hq
  iter := fun A s hh hm => by
    have hne : D ≠ s.heap.objs.size := Nat.ne_of_lt (Heap.lt_size hm)
    refine ⟨siObj D ep 0 0, fun i h => h.get? D = some (setOne hsh x t ep tb) ∧ ∃ f : Nat, h.get? s.heap.objs.size = some (siObj D ep f i) ∧ (i = 0 → f = 0) ∧ (i = 1 → w.params.followText "set-order" = false → tb.place.getD 0 0 + 1 = f), fun E Q hq => pyIter_one hm ht hq, ?_,
      Heap.get?_push_of_some _ hm, 0, Heap.get?_push_size _ rfl, fun _ => rfl, fun e => by cases e⟩
    generalize s.heap.objs.size = I at hne
    refine ⟨fun b hb => by simp at hb; simp [hb], fun i h h' st hk => ?_, fun i s Q E hi st hQ => ?_, fun s Q E st hQ => ?_, fun i s Q E st hQ => ?_⟩
    · obtain ⟨a, f, b, c⟩ := st
      exact ⟨hk D (by simp) _ a, f, hk I (by simp) _ b, c⟩
    · obtain ⟨a, f, b, c1, c2⟩ := st
      obtain rfl : i = 0 := by omega
      obtain rfl := c1 rfl
      refine pyNext_one b a ht fun f' h' hf hI hs => hQ (.str x t) h' s.toks rfl ⟨hs.extBut _ _ hne a, f', hI, fun e => (by cases e), fun _ => hf⟩ fun b o hb e => hs.extBut b o (fun q => hb (by simp [q])) e
    · obtain ⟨a, f, b, c1, c2⟩ := st
      exact pyNext_none hh b a ht (c2 rfl) fun h' hs => hQ h' s.toks fun b o hb e => hs b o (fun q => hb (by simp [q])) e
    · obtain ⟨a, f, b, c1, c2⟩ := st
      exact self_si b hQ
end
end Mine
end

section
open PySem PySem.W PyProof.Rows PySem.Spec PySem.Calls
namespace Mine
set_option maxRecDepth 100000
set_option maxHeartbeats 8000000
section
variable {prog : Program} {w : World} {M : Model} {A : Around} {E : Value → Shared → Prop} {s : Shared} {h₀ : Heap} {L D a kS : Addr} {m : Str → Option Value} {news rest : List (Addr × Obj)} {x : Str} {t : Tok} {led : Bool} {hsh : Int} {ep e e1 : Nat} {tb : SetTable} {P : PySem.Fin → Shared → Prop}
/-- the end of the sort of one item -/
theorem one_end {k v : Value} (F : Fr h₀ L s.heap m) (N : News h₀ L s.heap (news ++ [(kS, seqObj "list" #[k] e), (a, seqObj "list" #[] e1)])) (hka : kS ≠ a) (hnk : ∀ p ∈ news, p.1 ≠ kS) (hna : ∀ p ∈ news, p.1 ≠ a)
    (h : ∀ h' tk c, Fr h₀ L h' m → News h₀ L h' ((a, seqObj "list" #[v] c) :: news) → P (.done (.ret .none)) { s with heap := h', toks := tk }) :
    wpAny (model prog w) A (ksk_end a false #[v] e1 (.ref kS) #[k]) P E s := by
  have nk := N (kS, seqObj "list" #[k] e) (List.mem_append_right _ (.head _))
  have na := N (a, seqObj "list" #[] e1) (List.mem_append_right _ (.tail _ (.head _)))
  have Nn : News h₀ L s.heap news := fun p hp => N p (List.mem_append_left _ hp)
  unfold ksk_end
  try dsimp only
  have h12 : (#[v] : Array Value).size < 2 := by show 1 < 2; decide
  rw [if_neg (by decide), if_pos h12, if_pos h12]
  refine wpAny_bind (wpAny_pure ?_)
  rw [StateT.run_pure]
  refine wpAny_bind (wpAny_pure ?_)
  try dsimp only
  have hst : arrOf (SortSt.mk' general' (if false = true then ((#[k] : Array Value).zip #[v]).reverse else (#[k] : Array Value).zip #[v]) #[] 7 none) = #[(k, v)] := by
    show (#[k] : Array Value).zip #[v] = _
    simp
  have hfl : failedOf (SortSt.mk' general' (if false = true then ((#[k] : Array Value).zip #[v]).reverse else (#[k] : Array Value).zip #[v]) #[] 7 none) = none := by rfl
  generalize (SortSt.mk' general' (if false = true then ((#[k] : Array Value).zip #[v]).reverse else (#[k] : Array Value).zip #[v]) #[] 7 none) = st at hst hfl ⊢
  have s1 := Heap.SameBut.update s.heap kS (Obj.mapSeq fun _ => (#[] : Array Value))
  have na1 : (s.heap.update kS (Obj.mapSeq fun _ => (#[] : Array Value))).get? a = some (seqObj "list" #[] e1) := (s1.2 a hka.symm).trans na.1
  have s2 := Heap.SameBut.update (s.heap.update kS (Obj.mapSeq fun _ => (#[] : Array Value))) a (Obj.mapSeq fun _ => #[v])
  obtain ⟨c2, hc2⟩ : ∃ c2, ((s.heap.update kS (Obj.mapSeq fun _ => (#[] : Array Value))).update a (Obj.mapSeq fun _ => #[v])).get? a = some (seqObj "list" #[v] c2) := ⟨_, get?_update_seq na1 fun _ => #[v]⟩
  have N2 := ksk_news (ksk_news Nn s1 hnk) s2 hna
  unfold ksk_tail
  try dsimp only
  rw [hst, hfl]
  rw [if_neg (by decide), show Array.map (fun x : Keyed => x.2) #[(k, v)] = #[v] from by simp]
  refine wpAny_bind (listUpdate_at nk.1 rfl ?_ (by show 1 ≤ _; rw [sizeLine_eq]; decide) (Nat.zero_le _))
  refine wpAny_bind (wpAny_letGo ?_)
  refine wpAny_bind (seqEpoch_at na1 rfl ?_)
  refine wpAny_bind (listUpdate_at na1 rfl ?_ (Nat.zero_le _) (by show 1 ≤ _; rw [sizeLine_eq]; decide))
  simp only [bne_self_eq_false, Bool.false_eq_true, if_false]
  refine wpAny_pure (h _ _ c2 (ksk_fr (ksk_fr F s1 nk.2.1 nk.2.2) s2 na.2.1 na.2.2) (fun p hp => ?_))
  rcases List.mem_cons.mp hp with rfl | hp
  · exact ⟨hc2, na.2⟩
  · exact N2 p hp
noncomputable def KeyTurn (prog : Program) (w : World) (A : Around) (h₀ : Heap) (L : Addr) (m : Str → Option Value) (news : List (Addr × Obj)) (f v : Value) (s : Shared) : Prop :=
  ∀ (h : Heap) (tk : Nat) (own : List (Addr × Obj)), 1 ≤ tk → Fr h₀ L h m → News h₀ L h (news ++ own) →
      wpAny (model prog w) A (call f [v]) (fun k s₂ => ∃ h' tk', s₂ = { s with heap := h', toks := tk' } ∧ Fr h₀ L h' m ∧ News h₀ L h' (news ++ own)) (fun _ _ => False) { s with heap := h, toks := tk }
theorem one_sort {f v : Value} {n : Nat} (htk : 1 ≤ s.toks) (F : Fr h₀ L s.heap m) (N : News h₀ L s.heap news) (ho : s.heap.get? a = some (seqObj "list" #[v] n)) (haL : a ≠ L) (ha0 : h₀.get? a = none) (hna : ∀ p ∈ news, p.1 ≠ a)
    (turn : KeyTurn prog w A h₀ L m news f v s)
    (h : ∀ h' tk c, Fr h₀ L h' m → News h₀ L h' ((a, seqObj "list" #[v] c) :: news) → P (.done (.ret .none)) { s with heap := h', toks := tk }) :
    wpAny (model prog w) A (ksk_tree a f false) P E s := by
  have ha : a < s.heap.objs.size := Heap.lt_size ho
  have s1 := Heap.SameBut.update s.heap a (Obj.mapSeq fun _ => (#[] : Array Value))
  obtain ⟨e1, ho1⟩ : ∃ e1, (s.heap.update a (Obj.mapSeq fun _ => (#[] : Array Value))).get? a = some (seqObj "list" #[] e1) := ⟨_, get?_update_seq ho fun _ => #[]⟩
  have F1 := ksk_fr F s1 haL ha0
  have N1 := ksk_news N s1 hna
  have hkS : ((s.heap.update a (Obj.mapSeq fun _ => (#[] : Array Value))).push (seqObj "tuple" #[v] 0)).objs.size = s.heap.objs.size + 1 := by rw [size_push', Heap.size_update]
  have hLk : L < ((s.heap.update a (Obj.mapSeq fun _ => (#[] : Array Value))).push (seqObj "tuple" #[v] 0)).objs.size := (F1.push _).ns.lt
  unfold ksk_tree
  refine wpAny_bind (listItems_at ho rfl ?_)
  refine wpAny_bind (listUpdate_at ho rfl ?_ (by show 1 ≤ _; rw [sizeLine_eq]; decide) (Nat.zero_le _))
  refine wpAny_bind (seqEpoch_at ho1 rfl ?_)
  refine wpAny_bind (wpAny_newTuple ?_ (by show 1 ≤ _; rw [sizeLine_eq]; decide))
  refine wpAny_bind (wpAny_newList ?_ (Nat.zero_le _))
  refine wpAny_holding ?_
  have F2 := ((F1.push (seqObj "tuple" #[v] 0)).push (seqObj "list" #[] 0))
  have N2 : News h₀ L (((s.heap.update a (Obj.mapSeq fun _ => (#[] : Array Value))).push (seqObj "tuple" #[v] 0)).push (seqObj "list" #[] 0)) (news ++ [(((s.heap.update a (Obj.mapSeq fun _ => (#[] : Array Value))).push (seqObj "tuple" #[v] 0)).objs.size, seqObj "list" #[] 0), (a, seqObj "list" #[] e1)]) := fun p hp => by
    rcases List.mem_append.mp hp with hp | hp
    · exact ⟨Heap.get?_push_of_some _ (Heap.get?_push_of_some _ (N1 p hp).1), (N1 p hp).2⟩
    · rcases List.mem_cons.mp hp with rfl | hp
      · exact ⟨Heap.get?_push_size _ rfl, Nat.ne_of_gt hLk, Heap.get?_none_of_le (Nat.le_trans F.above (Nat.le_of_lt hLk))⟩
      · rw [List.mem_singleton.mp hp]
        exact ⟨Heap.get?_push_of_some _ (Heap.get?_push_of_some _ ho1), haL, ha0⟩
  have hka : ((s.heap.update a (Obj.mapSeq fun _ => (#[] : Array Value))).push (seqObj "tuple" #[v] 0)).objs.size ≠ a := by rw [hkS]; exact Nat.ne_of_gt (Nat.lt_succ_of_lt ha)
  have hnk : ∀ p ∈ news, p.1 ≠ ((s.heap.update a (Obj.mapSeq fun _ => (#[] : Array Value))).push (seqObj "tuple" #[v] 0)).objs.size := fun p hp => by rw [hkS]; exact Nat.ne_of_lt (Nat.lt_succ_of_lt (Heap.lt_size (N p hp).1))
  show wpAny _ _ (ksk_rest a f false #[v] e1 (.ref _)) _ _ { s with heap := ((s.heap.update a (Obj.mapSeq fun _ => (#[] : Array Value))).push (seqObj "tuple" #[v] 0)).push (seqObj "list" #[] 0) }
  generalize ((s.heap.update a (Obj.mapSeq fun _ => (#[] : Array Value))).push (seqObj "tuple" #[v] 0)).objs.size = kS at *
  generalize ((s.heap.update a (Obj.mapSeq fun _ => (#[] : Array Value))).push (seqObj "tuple" #[v] 0)).push (seqObj "list" #[] 0) = g at *
  unfold ksk_rest
  refine wpAny_bind (wpAny_rule ?_)
  rw [← Array.forIn_toList]
  show wpAny _ _ (forIn [v] PUnit.unit _ >>= _) _ _ _
  rw [List.forIn_cons]
  refine wpAny_bind (wpAny_bind (wpAny_bind (wpAny_attempt (wpAny_mono (turn g s.toks _ htk F2 N2) (fun k s'' he => ?_) fun _ _ hF => hF.elim))))
  obtain ⟨g2, tk2, rfl, F3, N3⟩ := he
  try dsimp only
  have nk := N3 (kS, seqObj "list" #[] 0) (List.mem_append_right _ (.head _))
  have na := N3 (a, seqObj "list" #[] e1) (List.mem_append_right _ (.tail _ (.head _)))
  have s4 := Heap.SameBut.update g2 kS (Obj.mapSeq (·.push k))
  obtain ⟨c2, hc2⟩ : ∃ c2, (g2.update kS (Obj.mapSeq (·.push k))).get? kS = some (seqObj "list" #[k] c2) := ⟨_, get?_update_seq nk.1 (·.push k)⟩
  refine wpAny_bind (listUpdate_at nk.1 rfl ?_ (Nat.zero_le _) (by show 1 ≤ _; rw [sizeLine_eq]; decide))
  refine wpAny_pure ?_
  dsimp only
  rw [List.forIn_nil]
  refine wpAny_pure ?_
  refine wpAny_bind (listItems_at hc2 rfl ?_)
  refine one_end (e := c2) (s := { s with heap := g2.update kS (Obj.mapSeq (·.push k)), toks := tk2 }) (ksk_fr F3 s4 nk.2.1 nk.2.2) (fun p hp => ?_) hka hnk hna fun h3 tk3 c F4 N4 => h h3 tk3 c F4 N4
  rcases List.mem_append.mp hp with hp | hp
  · exact ksk_news (fun q hq => N3 q (List.mem_append_left _ hq)) s4 hnk p hp
  · rcases List.mem_cons.mp hp with rfl | hp
    · exact ⟨hc2, nk.2⟩
    · rw [List.mem_singleton.mp hp]
      exact ⟨(s4.2 a hka.symm).trans na.1, na.2⟩
theorem sorted_one {q : Addr} {Q : Value → Shared → Prop} (hh : A.handled = none) (htk : 1 ≤ s.toks) (ht : OneT (!w.params.followText "set-order") tb) (F : Fr h₀ L s.heap m) (N : News h₀ L s.heap news) (hD : (D, setOne hsh x t ep tb) ∈ news)
    (turn : KeyTurn prog w A.in1.in1 h₀ L m news (.ref q) (.str x t) s)
    (h : ∀ S h' tk c, Fr h₀ L h' m → News h₀ L h' ((S, listOf [.str x t].toArray c) :: news) → AllLt S news → Q (.ref S) { s with heap := h', toks := tk }) :
    wpAny (model prog w) A (call (.builtin "sorted") [.ref D] [(Str.ofString "key", .ref q)]) Q E s := by
  refine call_function_entry_kw kind_sorted plain_sorted entry_sorted (ksk_s1 _ _) ?_
  unfold Builtin.«sorted»
  refine wpAny_bind (m := checkCount "sorted" 1 1 _) (wpAny_pure ?_)
  refine wpAny_bind (wpAny_with_toks (n := 1) htk (kdu_collect (A := A.in1) (src_one (prog := prog) ht) hh (N _ hD).1 (by rw [sizeLine_eq]; decide) fun h' tk acc hk hacc => ?_))
  intro htk'
  have hl : acc.toList = [.str x t] := by
    obtain ⟨l⟩ := acc
    have h1 : l.length = 1 := hacc.1
    obtain ⟨v, rfl⟩ := List.length_eq_one_iff.mp h1
    have := hacc.2 0 v (by rfl)
    rw [this]
  rw [hl]
  refine wpAny_bind (wpAny_newList ?_ (by show 1 ≤ _; rw [sizeLine_eq]; decide))
  have F1 : Fr h₀ L h' m := F.keeps hk
  have N1 : News h₀ L h' news := fun p hp => ⟨hk _ _ (N p hp).1, (N p hp).2⟩
  have F2 : Fr h₀ L (h'.push (seqObj "list" #[.str x t] 0)) m := F1.push _
  have N2 : News h₀ L (h'.push (seqObj "list" #[.str x t] 0)) news := fun p hp => ⟨Heap.get?_push_of_some _ (N1 p hp).1, (N1 p hp).2⟩
  have ho : (h'.push (seqObj "list" #[.str x t] 0)).get? h'.objs.size = some (seqObj "list" #[.str x t] 0) := Heap.get?_push_size _ rfl
  have hlt : ∀ p ∈ news, p.1 < h'.objs.size := fun p hp => Heap.lt_size (N1 p hp).1
  have hSL : h'.objs.size ≠ L := Nat.ne_of_gt F1.ns.lt
  have hS0 : h₀.get? h'.objs.size = none := next_is_new F1
  show wpAny _ _ (holding [Value.ref h'.objs.size] (call (.builtin "list.sort") [.ref h'.objs.size] [(Str.ofString "key", .ref q)]) >>= _) _ _ { s with heap := h'.push (seqObj "list" #[.str x t] 0), toks := tk }
  generalize h'.objs.size = S at *
  generalize h'.push (seqObj "list" #[.str x t] 0) = g at *
  refine wpAny_bind (wpAny_holding (wpAny_call_entry_kw slot_list_sort ⟨_, ho, rfl⟩ entry_list_sort ?body (ksk_l1 _ _)))
  case body =>
    rw [ksk_t1]
    refine one_sort (s := { s with heap := g, toks := tk }) htk' F2 N2 ho hSL hS0 (fun p hp => Nat.ne_of_lt (hlt p hp)) turn fun h3 tk3 c F3 N3 => ⟨_, rfl, ?_⟩
    exact wpAny_pure ⟨_, rfl, h S h3 tk3 c F3 N3 (allLt_of hlt)⟩
end
theorem ne_up {h₀ h : Heap} {L B d : Addr} {l l' : List (Addr × Obj)} (_N : News h₀ L h l) (h1 : AllLt B l) (hs : ∀ p ∈ l', p ∈ l) (hd : @LE.le Nat _ B d) : ∀ p ∈ l', p.1 ≠ d := fun p hp => by
  have := lt_sub h1 hs
  have h' : ∀ {l : List (Addr × Obj)}, AllLt B l → ∀ p ∈ l, @LT.lt Nat _ p.1 B := by
    intro l
    induction l with
    | nil => intro _ p hp; nomatch hp
    | cons q r ih =>
      intro h p hp
      rcases List.mem_cons.mp hp with rfl | hp
      · exact h.1
      · exact ih h.2 p hp
  have := h' this p hp
  exact Nat.ne_of_lt (Nat.lt_of_lt_of_le this hd)
end Mine
end

section
open PySem PySem.W PyProof.Rows PySem.Spec PySem.Calls PyProof.Rows.LCg
namespace Mine
set_option maxRecDepth 100000
set_option maxHeartbeats 8000000
/-! a dict comprehension of one clause over a list of one item -/
section
variable {prog : Program} {w : World} {A : Around} {E : Value → Shared → Prop} {s : Shared} {env : Env}
variable {kx vx i1 : PySem.Expr} {x : Str} {px : Pos} {scope : Scope} {pos : Pos} {cl : List (Str × Addr)} {h₀ : Heap} {L : Addr} {m : Str → Option Value} {Q : Value → Shared → Prop} {news : List (Addr × Obj)}
noncomputable def DTurn (prog : Program) (w : World) (A : Around) (h₀ : Heap) (L : Addr) (m : Str → Option Value) (env : Env) (kx vx : PySem.Expr) (x : Str) (scope : Scope) (cl : List (Str × Addr)) (news : List (Addr × Obj)) (J : Str → Value → List (Addr × Obj) → Prop) (v : Value) (s : Shared) : Prop :=
  ∀ (I : Addr) (oI : Obj) (C : Addr) (oC : Obj) (D : Addr) (m₂ : Str → Option Value) (h : Heap) (tk : Nat) (E' : Value → Shared → Prop), 1 ≤ tk → NsObj oC m₂ → m₂ x = some v → Fr h₀ L h m →
    News h₀ L h ((I, oI) :: (C, oC) :: (D, dictOf [] 0) :: news) → Off3 I C D news → ((@Ne Nat I C) ∧ (@Ne Nat I D) ∧ (@Ne Nat C D)) →
    wpAny (model prog w) A (eval kx (compEnvC scope cl C env)) (fun kv s₃ => wpAny (model prog w) A (eval vx (compEnvC scope cl C env)) (fun vv s' => Hid (∃ k h' tk' news', (PySem.strKind prog w).is k kv = true ∧ s' = { s with heap := h', toks := tk' } ∧ Fr h₀ L h' m ∧
      News h₀ L h' ((I, oI) :: (C, oC) :: (D, dictOf [] 0) :: news') ∧ Off3 I C D news' ∧ J k vv news')) E' s₃) E' { s with heap := h, toks := tk }
end
end Mine
end

section
open PySem PySem.W PyProof.Rows PySem.Spec PySem.Calls PyProof.Rows.LCg
namespace Mine
set_option maxRecDepth 100000
set_option maxHeartbeats 8000000
/-! a list comprehension of one clause whose value goes to a name at once -/
section
variable {prog : Program} {w : World} {A : Around} {E : Value → Shared → Prop} {s : Shared} {env : Env}
theorem on_comp_coreR : True := by
  (k_with "m:on" => (fail_if_success (k_extra "m:end comp_coreR")))
  trivial
theorem comp_coreR {elt i1 : PySem.Expr} {ifs : List PySem.Expr} {x : Str} {px : Pos} {scope : Scope} {pos : Pos} {cl : List (Str × Addr)} {h₀ : Heap} {L I : Addr} {fp : List Addr} {n : Nat} {P : Nat → Value → Prop} {St : Nat → Heap → Prop} {m : Str → Option Value} {news : List (Addr × Obj)} (RR : Value → Addr → Result → Shared → Prop) (ks : List (Addr × Obj))
    (J : Nat → List Value → List (Addr × Obj) → Prop) (W : Walks prog w A I fp [I] n P St) (hIo : ∀ i h, St i h → ∃ o, h.get? I = some o) (hfp : ∀ b ∈ fp, b = I ∨ ∃ o, (b, o) ∈ ks)
    (hcell : ∀ y ∈ scope.names, y.2 ≠ .cell) (hkind : scope.kind = .function) (hx : scope.names.lookup x = some .local) (hst : St 0 s.heap)
    (F1 : Fr h₀ L s.heap m) (N1 : News h₀ L s.heap news) (hIL : L ≠ I) (hI₀ : h₀.get? I = none) (offI : ∀ p ∈ news, p.1 ≠ I) (hks : ∀ p ∈ ks, p ∈ news) (hJ : J 0 [] news) (hlen : ∀ i ys news, J i ys news → ys.length ≤ 1000)
    (hT : ∀ i v h tk, i < n → P i v → 1 ≤ tk → Turn1 prog w A h₀ L m env elt ifs x scope cl ks J i v { s with heap := h, toks := tk })
    (hF : ∀ ys news' D C m' h tk, J n ys news' → Fr h₀ L h m → h.Ns C m' → News h₀ L h ((D, lst ys) :: news') → Off3 I C D news' → @Ne Nat C L → @Ne Nat D C → h₀.get? C = none → RR (.ref D) C (.ok .next) { s with heap := h, toks := tk }) :
    wpAny (model prog w) A (newList []) (fun acc s₃ => wpAny (model prog w) A (newFunctionEnv scope env.globals cl [] env.qual none .none (some env)) (fun cenv s₄ =>
      codeAny (model prog w) A (.compStart (.ListComp elt [⟨.Name x px, i1, ifs, 0⟩] scope pos) 0 (.ref I) acc { cenv with scope := relabel scope env }) (RR acc cenv.locals) s₄) E s₃) E s := by
  revert prog w A E s env elt i1 ifs x px scope pos cl h₀ L I fp n P St m news RR ks J W hIo hfp hcell hkind hx hst F1 N1 hIL hI₀ offI hks hJ hlen hT hF
  intro prog w A E s env elt i1 ifs x px scope pos cl h₀ L I fp n P St m news RR ks J W hIo hfp hcell hkind hx hst F1 N1 hIL hI₀ offI hks hJ hlen hT hF
  refine wpAny_newObj_type (wpAny_newFunctionEnv hcell (by intro y hy; simp at hy) ?_ hkind)
  intro h₁ hns₁ hsb₁
  dsimp only at hns₁ hsb₁ ⊢
  have hI : I < s.heap.objs.size := by obtain ⟨o, e⟩ := hIo _ _ hst; exact Heap.lt_size e
  generalize hH1 : s.heap = H1 at *
  generalize hH2 : H1.push { cls := .type "list", dict := none, data := .seq ([] : List Value).toArray } = H2 at hns₁ hsb₁ ⊢
  have hC : H2.objs.size = H1.objs.size + 1 := by rw [← hH2, Heap.size_push]
  have hDC : H1.objs.size ≠ H2.objs.size := by rw [hC]; exact Nat.ne_of_lt (Nat.lt_succ_self _)
  have below : ∀ b, b < H1.objs.size → b ≠ H2.objs.size ∧ b ≠ H1.objs.size := fun b hb => ⟨by rw [hC]; exact Nat.ne_of_lt (Nat.lt_succ_of_lt hb), Nat.ne_of_lt hb⟩
  have old : ∀ b o, H1.get? b = some o → h₁.get? b = some o := fun b o e => hsb₁.extBut b o (below b (Heap.lt_size e)).1 (Heap.get?_push_of_some _ (hH2 ▸ Heap.get?_push_of_some _ e))
  have hacc : h₁.get? H1.objs.size = some (lst []) := hsb₁.extBut _ _ hDC (Heap.get?_push_of_some _ (hH2 ▸ Heap.get?_push_size _ rfl))
  have ltfp : ∀ b ∈ fp, b < H1.objs.size := fun b hb => by
    rcases hfp b hb with rfl | ⟨o, ho⟩
    · exact hI
    · exact Heap.lt_size (N1 _ (hks _ ho)).1
  have hst₁ : St 0 h₁ := W.frame _ _ _ hst fun b _ o e => old b o e
  have fresh₀ : ∀ a, H1.objs.size ≤ a → h₀.get? a = none := fun a ha => by
    cases e : h₀.get? a with
    | none => rfl
    | some o' => exact absurd (Heap.lt_size (F1.keep a o' e)) (Nat.not_lt.mpr ha)
  have hD₀ : h₀.get? H1.objs.size = none := fresh₀ _ (Nat.le_refl _)
  have hC₀ : h₀.get? H2.objs.size = none := fresh₀ _ (by rw [hC]; exact Nat.le_succ _)
  have hLlt : L < H1.objs.size := F1.ns.lt
  have hDL : H1.objs.size ≠ L := Ne.symm (below L hLlt).2
  have hCL : H2.objs.size ≠ L := Ne.symm (below L hLlt).1
  have hCI : I ≠ H2.objs.size := (below I hI).1
  have hDI : I ≠ H1.objs.size := (below I hI).2
  have hDf : H1.objs.size ∉ fp := fun hm => Nat.lt_irrefl _ (ltfp _ hm)
  have hCf : H2.objs.size ∉ fp := fun hm => by have := ltfp _ hm; rw [hC] at this; exact Nat.lt_irrefl _ (Nat.lt_of_succ_lt this)
  have off₀ : Off3 I H2.objs.size H1.objs.size news := Off3.of fun p hp => ⟨offI p hp, (below _ (Heap.lt_size (N1 p hp).1)).1, (below _ (Heap.lt_size (N1 p hp).1)).2⟩
  generalize H1.objs.size = D at *
  generalize H2.objs.size = C at *
  have loop : ∀ tk0, codeAny (model prog w) A (.compLoop (.ListComp elt [⟨.Name x px, i1, ifs, 0⟩] scope pos) 0 (.ref I) (.ref D) (compEnvC scope cl C env)) (RR (.ref D) C) { s with heap := h₁, toks := tk0 } := by
    intro tk0
    refine codeAny_compLoop_tests
      (fun k s' => ∃ h' tk i ys m' news', s' = { s with heap := h', toks := tk } ∧ i ≤ n ∧ k = n + 1 - i ∧ St i h' ∧ Fr h₀ L h' m ∧ h'.Ns C m' ∧ News h₀ L h' ((D, lst ys) :: news') ∧
        Off3 I C D news' ∧ (∀ p ∈ ks, p ∈ news') ∧ J i ys news') ?_ (n + 1)
      ⟨h₁, _, 0, [], _, news, rfl, Nat.zero_le _, rfl, hst₁, F1.keeps old, hns₁, fun p hp => ?_, off₀, hks, hJ⟩
    · rintro k s' ⟨h', tk, i, ys, m', news', rfl, hi, rfl, hst', F', hn', N', off', hks', hJ'⟩
      by_cases hlt : i < n
      · refine W.item i _ _ _ hlt hst' ?_
        intro v h₂ tk₂ hPv hst₂ hk₂
        refine wpAny_assign_Name (wpAny_storeName_local (lookup_relabel_local hx) (hn'.at' fun o e => hk₂ _ o (by simpa using Ne.symm hCI) e) ?_ (by simp [compEnvC, relabel, hkind]))
        intro h₃ hn₃ hs₃
        have hst₃ : St (i + 1) h₃ := W.frame _ _ _ hst₂ fun b hb o e => hs₃.extBut b o (fun q => hCf (by have q' : b = C := q; rw [← q']; exact hb)) e
        obtain ⟨oI, heI⟩ := hIo _ _ hst₃
        obtain ⟨oC, heC, hoC⟩ := ns_obj hn₃
        have F₃ : Fr h₀ L h₃ m := (fr_but F' hk₂ hIL hI₀).change hs₃ hCL hC₀
        have off3 := off'.mem
        have N₂ : News h₀ L h₂ ((D, lst ys) :: news') := news_but N' hk₂ fun p hp => by
          rcases List.mem_cons.mp hp with rfl | hp
          · exact Ne.symm hDI
          · exact (off3 p hp).1
        have N₃ : News h₀ L h₃ ((I, oI) :: (C, oC) :: (D, lst ys) :: news') := fun p hp => by
          rcases List.mem_cons.mp hp with rfl | hp
          · exact ⟨heI, Ne.symm hIL, hI₀⟩
          · rcases List.mem_cons.mp hp with rfl | hp
            · exact ⟨heC, hCL, hC₀⟩
            · have z := N₂ p hp
              refine ⟨hs₃.extBut _ _ ?_ z.1, z.2⟩
              rcases List.mem_cons.mp hp with rfl | hp
              · exact hDC
              · exact (off3 p hp).2.1
        have ends : ∀ (ys' : List Value) (h₄ h₅ : Heap) (tk₄ : Nat) (news₄ : List (Addr × Obj)), Fr h₀ L h₄ m → News h₀ L h₄ ((I, oI) :: (C, oC) :: (D, lst ys) :: news₄) → Off3 I C D news₄ → (∀ p ∈ ks, p ∈ news₄) → J (i + 1) ys' news₄ → Heap.SameBut D h₄ h₅ → h₅.get? D = some (lst ys') →
            ∃ q, q < n + 1 - i ∧ ∃ h' tk i ys m' news', ({ s with heap := h₅, toks := tk₄ } : Shared) = { s with heap := h', toks := tk } ∧ i ≤ n ∧ q = n + 1 - i ∧ St i h' ∧ Fr h₀ L h' m ∧ h'.Ns C m' ∧ News h₀ L h' ((D, lst ys) :: news') ∧ Off3 I C D news' ∧ (∀ p ∈ ks, p ∈ news') ∧ J i ys news' := by
          intro ys' h₄ h₅ tk₄ news₄ F₄ N₄ off₄ hks₄ hJ₄ hs₅ hD₅
          have off4 := off₄.mem
          have zI := (N₄ (I, oI) List.mem_cons_self).1
          have zC := (N₄ (C, oC) (List.mem_cons_of_mem _ List.mem_cons_self)).1
          have N₄' : News h₀ L h₄ news₄ := fun p hp => N₄ p (List.mem_cons_of_mem _ (List.mem_cons_of_mem _ (List.mem_cons_of_mem _ hp)))
          have hst₄ : St (i + 1) h₄ := W.frame _ _ _ hst₃ fun b hb o e => by
            rcases hfp b hb with rfl | ⟨o', ho'⟩
            · rw [heI] at e; cases e; exact zI
            · have z1 := (N₃ _ (List.mem_cons_of_mem _ (List.mem_cons_of_mem _ (List.mem_cons_of_mem _ (hks' _ ho'))))).1
              rw [z1] at e; cases e
              exact (N₄' _ (hks₄ _ ho')).1
          refine ⟨n + 1 - (i + 1), by first | exact meas1 (by assumption) | omega, h₅, tk₄, i + 1, ys', _, news₄, rfl, hlt, rfl, W.frame _ _ _ hst₄ fun b hb o e => hs₅.extBut b o (fun q => hDf (q ▸ hb)) e, F₄.change hs₅ hDL hD₀,
            (hoC.ns zC).sameBut hs₅ (Ne.symm hDC), fun p hp => ?_, off₄, hks₄, hJ₄⟩
          rcases List.mem_cons.mp hp with rfl | hp
          · exact ⟨hD₅, hDL, hD₀⟩
          · exact ⟨hs₅.extBut _ _ (off4 p hp).2.2 (N₄' p hp).1, (N₄' p hp).2⟩
        refine wpAny_mono (hT i v h₃ _ hlt hPv (Nat.le_add_left 1 _) ys news' I oI C oC D _ _ hJ' hoC (by simp) F₃ N₃ off' ⟨hCI, hDI, Ne.symm hDC⟩ hks') ?_ fun _ _ e => e
        intro ok s₄ h₄
        cases ok with
        | false =>
          simp only [Bool.false_eq_true, if_false] at h₄ ⊢
          obtain ⟨h₄, tk₄, news₄, rfl, F₄, N₄, off₄, hks₄, hJ₄⟩ := h₄
          exact ends ys h₄ h₄ tk₄ news₄ F₄ N₄ off₄ hks₄ hJ₄ (Heap.SameBut.refl _ _) (N₄ (D, lst ys) (List.mem_cons_of_mem _ (List.mem_cons_of_mem _ List.mem_cons_self))).1
        | true =>
          simp only [if_true] at h₄ ⊢
          refine wpAny_mono h₄ ?_ fun _ _ e => e
          intro y s₅ h₅
          obtain ⟨h₄, tk₄, news₄, rfl, F₄, N₄, off₄, hks₄, hJ₄⟩ := h₅
          have zD := (N₄ (D, lst ys) (List.mem_cons_of_mem _ (List.mem_cons_of_mem _ List.mem_cons_self))).1
          have hl := hlen _ _ _ hJ'
          refine append_at (hsz := by show ys.toArray.size ≤ sizeLine; rw [List.size_toArray, sizeLine_eq]; omega) zD ?_
          intro h₅ hs₅ hD₅
          exact ends (ys ++ [y]) h₄ h₅ tk₄ news₄ F₄ N₄ off₄ hks₄ hJ₄ hs₅ (hD₅.trans (congrArg some (lst_snoc ys y)))
      · obtain rfl : i = n := Nat.le_antisymm hi (Nat.not_lt.mp hlt)
        refine W.done _ _ _ hst' ?_
        intro h₂ tk₂ hk₂
        have off3 := off'.mem
        have N₂ : News h₀ L h₂ ((D, lst ys) :: news') := news_but N' hk₂ fun p hp => by
          rcases List.mem_cons.mp hp with rfl | hp
          · exact Ne.symm hDI
          · exact (off3 p hp).1
        exact hF ys news' D C m' h₂ tk₂ hJ' (fr_but F' hk₂ hIL hI₀) (hn'.at' fun o e => hk₂ _ o (by simpa using Ne.symm hCI) e) N₂ off' hCL hDC hC₀
    · rcases List.mem_cons.mp hp with rfl | hp
      · exact ⟨hacc, hDL, hD₀⟩
      · exact ⟨old _ _ (N1 p hp).1, (N1 p hp).2⟩
  exact codeAny_compStart_list (loop _) (W.self 0 _ _ _ hst₁ (loop _))
theorem off_comp_coreR : True := by
  (k_with "m:end comp_coreR" => skip)
  trivial
noncomputable def CompAtU (prog : Program) (w : World) (A : Around) (env : Env) (elt i1 : PySem.Expr) (ifs : List PySem.Expr) (x : Str) (px : Pos) (scope : Scope) (pos : Pos) (cl : List (Str × Addr)) (y : Str) (py : Pos) (E Q : Value → Shared → Prop) (it : Value) (s : Shared) : Prop :=
  wpAny (model prog w) A (newList []) (fun acc s₃ => wpAny (model prog w) A (newFunctionEnv scope env.globals cl [] env.qual none .none (some env)) (fun cenv s₄ =>
      codeAny (model prog w) A (.compStart (.ListComp elt [⟨.Name x px, i1, ifs, 0⟩] scope pos) 0 it acc { cenv with scope := relabel scope env }) (compPost (model prog w) A E (some (assign (.Name y py) env)) Q acc cenv.locals) s₄) E s₃) E s
theorem my_compU {elt i1 : PySem.Expr} {ifs : List PySem.Expr} {x y : Str} {px py : Pos} {scope : Scope} {pos spos : Pos} {cl : List (Str × Addr)} {Q : Flow → Shared → Prop} (htk : 1 ≤ s.toks)
    (hsw : swapsWith (.ListComp elt [⟨.Name x px, i1, ifs, 0⟩] scope pos) (some (.Name y py)) spos.line env = pure true)
    (hclos : closureFor scope env = pure cl) (hkind : scope.kind = .function) (hnames : ∀ y ∈ scope.names, y.2 = .local → scope.names.lookup y.1 = some .local)
    (h : wpAny (model prog w) A (eval i1 env) (fun xv s₁ => 1 ≤ s₁.toks → wpAny (model prog w) A (pyIter xv) (fun it s₂ => CompAtU prog w A env elt i1 ifs x px scope pos cl y py (fun e s' => 1 ≤ s'.toks → E e s') (fun _ s' => 1 ≤ s'.toks → Q .next s') it s₂) (fun _ _ => False) s₁) (fun _ _ => False) s)
    (hs : ∀ x, foldedSetIterable i1 env x = pure x) :
    wpAny (model prog w) A (exec (.Assign [.Name y py] (.ListComp elt [⟨.Name x px, i1, ifs, 0⟩] scope pos) spos) env) Q E s := by
  rw [exec_Assign_Name_used _ _ _ _ hsw]
  refine wpAny_bind (wpAny_standAt (wpAny_bind ?_))
  show wpAny _ A (do let _ ← comprehension (.ListComp elt [⟨.Name x px, i1, ifs, 0⟩] scope pos) scope env _ (newList []) false (eval i1 env) (some (assign (.Name y py) env))) _ _ s
  refine wpAny_mono (wpAny_with_toks (n := 1) htk ?_ (Q := fun _ s' => Q .next s') (E := E)) (fun _ _ x => wpAny_pure x) fun _ _ x => x
  refine wpAny_bind (wpAny_mono (wpAny_comprehension_free (use := some (assign (.Name y py) env)) (Q := fun _ s' => 1 ≤ s'.toks → Q .next s') rfl hs hclos hkind hnames
    (wpAny_mono (wpAny_with_toks (n := 1) htk (wpAny_mono h (fun _ _ x => x) fun _ _ x => x.elim)) (fun xv s₁ h₁ => wpAny_mono h₁ (fun it s₂ h₂ => h₂) fun _ _ e => e.elim) fun _ _ e => e)) (fun _ s' hq => wpAny_pure hq) fun _ _ e => e)
variable {elt i1 : PySem.Expr} {ifs : List PySem.Expr} {x y : Str} {px py : Pos} {scope : Scope} {pos : Pos} {cl : List (Str × Addr)} {h₀ : Heap} {m : Str → Option Value} {Q : Value → Shared → Prop} {news : List (Addr × Obj)}
noncomputable def FinU (h₀ : Heap) (L : Addr) (m : Str → Option Value) (s : Shared) (y : Str) (Q : Value → Shared → Prop) (ys : List Value) (news : List (Addr × Obj)) : Prop :=
  ∀ D h tk, Fr h₀ L h (fun z => if z = y then some (.ref D) else m z) → News h₀ L h ((D, lst ys) :: news) → Off1 D news → Q .none { s with heap := h, toks := tk }
theorem endU {D C : Addr} {o : Obj} {news' : List (Addr × Obj)} {m' : Str → Option Value} {h : Heap} {tk I : Nat} (hy : env.kindOf y = some .local) (hp : (env.scope.kind == .class || (env.scope.kind == .module && env.locals != env.globals)) = false)
    (F : Fr h₀ env.locals h m) (hn : h.Ns C m') (N : News h₀ env.locals h ((D, o) :: news')) (off : Off3 I C D news') (hCL : @Ne Nat C env.locals) (hDC : @Ne Nat D C) (hC₀ : h₀.get? C = none)
    (hF : ∀ h tk, Fr h₀ env.locals h (fun z => if z = y then some (.ref D) else m z) → News h₀ env.locals h ((D, o) :: news') → Off1 D news' → Q .none { s with heap := h, toks := tk }) :
    compPost (model prog w) A E (some (assign (.Name y py) env)) Q (.ref D) C (.ok .next) { s with heap := h, toks := tk } := by
  show wpAny _ _ (assign (.Name y py) env (.ref D)) _ _ _
  refine wpAny_assign_Name (wpAny_storeName_local hy F.ns (fun h₃ hn₃ hs₃ => ?_) hp)
  have off3 := off.mem
  refine ⟨m', hn.sameBut hs₃ hCL, fun h'' hs'' => hF h'' _ ((F.set hn₃ hs₃).change hs'' hCL hC₀) (fun p hp => ?_) off.one⟩
  have z := (N.set hs₃) p hp
  refine ⟨hs''.extBut _ _ ?_ z.1, z.2⟩
  rcases List.mem_cons.mp hp with rfl | hp
  · exact hDC
  · exact (off3 p hp).2.1
theorem my_comp_rangeU {E₂ : Value → Shared → Prop} {r : Addr} {a b : Int} {t u v : Tok} {n : Nat} (J : Nat → List Value → List (Addr × Obj) → Prop) (hy : env.kindOf y = some .local) (hp : (env.scope.kind == .class || (env.scope.kind == .module && env.locals != env.globals)) = false)
    (hh : A.handled = none) (hcell : ∀ y ∈ scope.names, y.2 ≠ .cell) (hkind : scope.kind = .function) (hx : scope.names.lookup x = some .local)
    (hr : IsRange s.heap r a b 1 t u v) (hsmall : Builtin.Range.small a b 1 = true) (hn : Builtin.Range.rangeSize a b 1 = (n : Int)) (F : Fr h₀ env.locals s.heap m) (N : News h₀ env.locals s.heap news) (h0 : J 0 [] news) (hlen : ∀ i ys news, J i ys news → ys.length ≤ 1000)
    (hT : ∀ (i : Nat) (t : Tok) h tk, i < n → 1 ≤ tk → Turn1 prog w A h₀ env.locals m env elt ifs x scope cl [] J i (.int (a + (i : Int)) t) { s with heap := h, toks := tk })
    (hF : ∀ ys news', J n ys news' → FinU h₀ env.locals m s y Q ys news') :
    wpAny (model prog w) A (pyIter (.ref r)) (fun it s₂ => CompAtU prog w A env elt i1 ifs x px scope pos cl y py E Q it s₂) E₂ s := by
  refine wpAny_pyIter_range hr hsmall ?_
  have W := range_walks (prog := prog) (w := w) (I := s.heap.objs.size) hh a n
  have hst : IsRangeIter (s.heap.push { cls := .type "range_iterator", data := .fields #[rawInt a, rawInt (Builtin.Range.rangeSize a b 1), rawInt 1] }) s.heap.objs.size (a + ((0 : Nat) : Nat) * 1) ((n : Int) - ((0 : Nat) : Nat)) 1 := by rw [hn]; simpa using Heap.get?_push_size _ rfl
  exact comp_coreR (s := { s with heap := s.heap.push { cls := .type "range_iterator", data := .fields #[rawInt a, rawInt (Builtin.Range.rangeSize a b 1), rawInt 1] } }) (fun acc C => compPost (model prog w) A E (some (assign (.Name y py) env)) Q acc C) [] J W (fun i h st => ⟨_, st⟩) (fun b hb => .inl (List.mem_singleton.mp hb)) hcell hkind hx hst
    (F.push _) (fun p hp => ⟨Heap.get?_push_of_some _ (N p hp).1, (N p hp).2⟩) (Nat.ne_of_lt F.ns.lt) (next_is_new F) (fun p hp => Nat.ne_of_lt (Heap.lt_size (N p hp).1)) (fun p hp => nomatch hp) h0 hlen
    (fun i v h tk hi hP ht => by obtain ⟨tv, rfl⟩ := hP; exact hT i tv h tk hi ht) (fun ys news' D C m' h tk hJ F' hn N' off hCL hDC hC₀ => endU hy hp F' hn N' off hCL hDC hC₀ fun h2 tk2 F2 N2 o2 => hF ys news' hJ D h2 tk2 F2 N2 o2)
end
end Mine
end

section
open PySem PySem.W PyProof.Rows PySem.Spec PySem.Calls PyProof.Rows.LCg
namespace Mine
set_option maxRecDepth 100000
set_option maxHeartbeats 8000000
section
variable {prog : Program} {w : World} {A : Around} {E : Value → Shared → Prop} {s : Shared} {env : Env}
variable {kx vx i1 : PySem.Expr} {x y : Str} {px py : Pos} {scope : Scope} {pos : Pos} {cl : List (Str × Addr)} {h₀ : Heap} {m : Str → Option Value} {Q : Value → Shared → Prop} {news : List (Addr × Obj)}
noncomputable def DCompAtU (prog : Program) (w : World) (A : Around) (env : Env) (kx vx i1 : PySem.Expr) (x : Str) (px : Pos) (scope : Scope) (pos : Pos) (cl : List (Str × Addr)) (y : Str) (py : Pos) (E Q : Value → Shared → Prop) (it : Value) (s : Shared) : Prop :=
  wpAny (model prog w) A newDict (fun acc s₃ => wpAny (model prog w) A (newFunctionEnv scope env.globals cl [] env.qual none .none (some env)) (fun cenv s₄ =>
      codeAny (model prog w) A (.compStart (.DictComp kx vx [⟨.Name x px, i1, [], 0⟩] scope pos) 0 it acc { cenv with scope := relabel scope env }) (compPost (model prog w) A E (some (assign (.Name y py) env)) Q acc cenv.locals) s₄) E s₃) E s
theorem my_dcompU {spos : Pos} {Q : Flow → Shared → Prop} (htk : 1 ≤ s.toks)
    (hsw : swapsWith (.DictComp kx vx [⟨.Name x px, i1, [], 0⟩] scope pos) (some (.Name y py)) spos.line env = pure true)
    (hclos : closureFor scope env = pure cl) (hkind : scope.kind = .function) (hnames : ∀ y ∈ scope.names, y.2 = .local → scope.names.lookup y.1 = some .local)
    (h : wpAny (model prog w) A (eval i1 env) (fun xv s₁ => 1 ≤ s₁.toks → wpAny (model prog w) A (pyIter xv) (fun it s₂ => DCompAtU prog w A env kx vx i1 x px scope pos cl y py (fun e s' => 1 ≤ s'.toks → E e s') (fun _ s' => 1 ≤ s'.toks → Q .next s') it s₂) (fun _ _ => False) s₁) (fun _ _ => False) s)
    (hs : ∀ x, foldedSetIterable i1 env x = pure x) :
    wpAny (model prog w) A (exec (.Assign [.Name y py] (.DictComp kx vx [⟨.Name x px, i1, [], 0⟩] scope pos) spos) env) Q E s := by
  rw [exec_Assign_Name_used _ _ _ _ hsw]
  refine wpAny_bind (wpAny_standAt (wpAny_bind ?_))
  show wpAny _ A (do let _ ← comprehension (.DictComp kx vx [⟨.Name x px, i1, [], 0⟩] scope pos) scope env _ newDict false (eval i1 env) (some (assign (.Name y py) env))) _ _ s
  refine wpAny_mono (wpAny_with_toks (n := 1) htk ?_ (Q := fun _ s' => Q .next s') (E := E)) (fun _ _ x => wpAny_pure x) fun _ _ x => x
  refine wpAny_bind (wpAny_mono (wpAny_comprehension_free (use := some (assign (.Name y py) env)) (Q := fun _ s' => 1 ≤ s'.toks → Q .next s') rfl hs hclos hkind hnames
    (wpAny_mono (wpAny_with_toks (n := 1) htk (wpAny_mono h (fun _ _ x => x) fun _ _ x => x.elim)) (fun xv s₁ h₁ => wpAny_mono h₁ (fun it s₂ h₂ => h₂) fun _ _ e => e.elim) fun _ _ e => e)) (fun _ s' hq => wpAny_pure hq) fun _ _ e => e)
theorem on_my_dcomp_oneU : True := by
  (k_with "m:on" => (fail_if_success (k_extra "m:end my_dcomp_oneU")))
  trivial
theorem my_dcomp_oneU {E₂ : Value → Shared → Prop} {l : Addr} {v : Value} {nn : Nat} (J : Str → Value → List (Addr × Obj) → Prop)
    (hy : env.kindOf y = some .local) (hp : (env.scope.kind == .class || (env.scope.kind == .module && env.locals != env.globals)) = false) (hh : A.handled = none) (hcell : ∀ y ∈ scope.names, y.2 ≠ .cell) (hkind : scope.kind = .function) (hx : scope.names.lookup x = some .local)
    (hm : (l, listOf [v].toArray nn) ∈ news) (hJm : ∀ k vv news', J k vv news' → (l, listOf [v].toArray nn) ∈ news') (F : Fr h₀ env.locals s.heap m) (N : News h₀ env.locals s.heap news)
    (hT : DTurn prog w A h₀ env.locals m env kx vx x scope cl news J v s)
    (hF : ∀ k vv news' D h' tk o, J k vv news' → AllLt D news → Fr h₀ env.locals h' (fun z => if z = y then some (.ref D) else m z) → News h₀ env.locals h' ((D, o) :: news') → o.IsDictOf (PySem.strKind prog w) [(k, vv)] → Off1 D news' → Q .none { s with heap := h', toks := tk }) :
    wpAny (model prog w) A (pyIter (.ref l)) (fun it s₂ => DCompAtU prog w A env kx vx i1 x px scope pos cl y py E Q it s₂) E₂ s := by
  revert prog w A E s env kx vx i1 x y px py scope pos cl h₀ m Q news E₂ l v nn J hy hp hh hcell hkind hx hm hJm F N hT hF
  intro prog w A E s env kx vx i1 x y px py scope pos cl h₀ m Q news E₂ l v nn J hy hp hh hcell hkind hx hm hJm F N hT hF
  have hls : s.heap.IsList l [v].toArray := N.isList hm
  have hlt : l < s.heap.objs.size := Heap.lt_size (N _ hm).1
  refine wpAny_pyIter_list hls ?_
  have W := Walks.list (prog := prog) (w := w) hh s.heap.objs.size l (Nat.ne_of_lt hlt) [v].toArray
  have hsz : ([v].toArray).size = 1 := rfl
  rw [hsz] at W
  have hIo : ∀ i h, (Heap.IsListIter h s.heap.objs.size l i ∧ h.IsList l [v].toArray) → ∃ o, h.get? s.heap.objs.size = some o := fun i h st => ⟨_, st.1.choose_spec.1⟩
  have hfp : ∀ b ∈ [s.heap.objs.size, l], b = s.heap.objs.size ∨ b = l := fun b hb => by simpa using hb
  unfold DCompAtU
  have F1 : Fr h₀ env.locals (s.heap.push { cls := .type "list_iterator", data := .fields #[.ref l, .int 0 0] }) m := F.push _
  have N1 : News h₀ env.locals (s.heap.push { cls := .type "list_iterator", data := .fields #[.ref l, .int 0 0] }) news := fun p hp => ⟨Heap.get?_push_of_some _ (N p hp).1, (N p hp).2⟩
  have hst : Heap.IsListIter (s.heap.push { cls := .type "list_iterator", data := .fields #[.ref l, .int 0 0] }) s.heap.objs.size l 0 ∧ (s.heap.push { cls := .type "list_iterator", data := .fields #[.ref l, .int 0 0] }).IsList l [v].toArray := ⟨⟨_, Heap.get?_push_size _ rfl, rfl, rfl⟩, hls.at fun o e => Heap.get?_push_of_some _ e⟩
  have hIL : env.locals ≠ s.heap.objs.size := Nat.ne_of_lt F.ns.lt
  have hI₀ : h₀.get? s.heap.objs.size = none := next_is_new F
  have offI : ∀ p ∈ news, p.1 ≠ s.heap.objs.size := fun p hp => Nat.ne_of_lt (Heap.lt_size (N p hp).1)
  have hI : s.heap.objs.size < (s.heap.push { cls := .type "list_iterator", data := .fields #[.ref l, .int 0 0] }).objs.size := by rw [Heap.size_push]; exact Nat.lt_succ_self _
  generalize s.heap.push { cls := .type "list_iterator", data := .fields #[.ref l, .int 0 0] } = H1 at *
  generalize s.heap.objs.size = I at *
  unfold newDict
  refine wpAny_newObj_type (wpAny_newFunctionEnv hcell (by intro y hy; simp at hy) ?_ hkind)
  intro h₁ hns₁ hsb₁
  dsimp only at hns₁ hsb₁ ⊢
  generalize hH2 : H1.push { cls := .type "dict", dict := none, data := .dict #[] } = H2 at hns₁ hsb₁ ⊢
  have hC : H2.objs.size = H1.objs.size + 1 := by rw [← hH2, Heap.size_push]
  have hDC : H1.objs.size ≠ H2.objs.size := by rw [hC]; exact Nat.ne_of_lt (Nat.lt_succ_self _)
  have below : ∀ b, b < H1.objs.size → b ≠ H2.objs.size ∧ b ≠ H1.objs.size := fun b hb => ⟨by rw [hC]; exact Nat.ne_of_lt (Nat.lt_succ_of_lt hb), Nat.ne_of_lt hb⟩
  have old : ∀ b o, H1.get? b = some o → h₁.get? b = some o := fun b o e => hsb₁.extBut b o (below b (Heap.lt_size e)).1 (Heap.get?_push_of_some _ (hH2 ▸ Heap.get?_push_of_some _ e))
  have hacc : h₁.get? H1.objs.size = some (dictOf [] 0) := hsb₁.extBut _ _ hDC (Heap.get?_push_of_some _ (hH2 ▸ Heap.get?_push_size _ rfl))
  have hst₁ : Heap.IsListIter h₁ I l 0 ∧ h₁.IsList l [v].toArray := W.frame 0 _ _ hst fun b _ o e => old b o e
  have fresh₀ : ∀ a, H1.objs.size ≤ a → h₀.get? a = none := fun a ha => by
    cases e : h₀.get? a with
    | none => rfl
    | some o' => exact absurd (Heap.lt_size (F1.keep a o' e)) (Nat.not_lt.mpr ha)
  have hD₀ : h₀.get? H1.objs.size = none := fresh₀ _ (Nat.le_refl _)
  have hC₀ : h₀.get? H2.objs.size = none := fresh₀ _ (by rw [hC]; exact Nat.le_succ _)
  have hLlt : env.locals < H1.objs.size := F1.ns.lt
  have hDL : H1.objs.size ≠ env.locals := Ne.symm (below env.locals hLlt).2
  have hCL : H2.objs.size ≠ env.locals := Ne.symm (below env.locals hLlt).1
  have hCI : I ≠ H2.objs.size := (below I hI).1
  have hDI : I ≠ H1.objs.size := (below I hI).2
  have hlC : l ≠ H2.objs.size := (below l (Heap.lt_size (N1 _ hm).1)).1
  have hlD : l ≠ H1.objs.size := (below l (Heap.lt_size (N1 _ hm).1)).2
  have hlI : l ≠ I := offI _ hm
  have off₀ : Off3 I H2.objs.size H1.objs.size news := Off3.of fun p hp => ⟨offI p hp, (below _ (Heap.lt_size (N1 p hp).1)).1, (below _ (Heap.lt_size (N1 p hp).1)).2⟩
  have ltD : AllLt H1.objs.size news := allLt_of fun p hp => Heap.lt_size (N1 p hp).1
  generalize H1.objs.size = D at *
  generalize H2.objs.size = C at *
  have loop : ∀ tk0, codeAny (model prog w) A (.compLoop (.DictComp kx vx [⟨.Name x px, i1, [], 0⟩] scope pos) 0 (.ref I) (.ref D) (compEnvC scope cl C env)) (compPost (model prog w) A E (some (assign (.Name y py) env)) Q (.ref D) C) { s with heap := h₁, toks := tk0 } := by
    intro tk0
    refine codeAny_compLoop_testsD
      (fun k s' => ∃ h' tk i m' , s' = { s with heap := h', toks := tk } ∧ i ≤ 1 ∧ k = 1 + 1 - i ∧ (h'.IsListIter I l i ∧ h'.IsList l [v].toArray) ∧ Fr h₀ env.locals h' m ∧ h'.Ns C m' ∧
        ((i = 0 ∧ News h₀ env.locals h' ((D, dictOf [] 0) :: news)) ∨ (i = 1 ∧ ∃ o kk vv news', News h₀ env.locals h' ((D, o) :: news') ∧ o.IsDictOf (PySem.strKind prog w) [(kk, vv)] ∧ Off3 I C D news' ∧ J kk vv news'))) ?_ (1 + 1)
      ⟨h₁, _, 0, _, rfl, Nat.zero_le _, rfl, hst₁, F1.keeps old, hns₁, .inl ⟨rfl, fun p hp => ?_⟩⟩
    · rintro k s' ⟨h', tk, i, m', rfl, hi, rfl, hst', F', hn', hcase⟩
      rcases hcase with ⟨rfl, N'⟩ | ⟨rfl, o, kk, vv, news', N', hdo, off', hJ'⟩
      · refine W.item 0 _ _ _ Nat.zero_lt_one hst' ?_
        intro v' h₂ tk₂ hPv hst₂ hk₂
        obtain rfl : v' = v := by simpa using hPv.symm
        refine wpAny_assign_Name (wpAny_storeName_local (lookup_relabel_local hx) (hn'.at' fun o e => hk₂ _ o (by simpa using Ne.symm hCI) e) ?_ (by simp [compEnvC, relabel, hkind]))
        intro h₃ hn₃ hs₃
        have hst₃ : Heap.IsListIter h₃ I l (0 + 1) ∧ h₃.IsList l [v'].toArray := W.frame (0 + 1) _ _ hst₂ fun b hb o e => hs₃.extBut b o (fun q => by
          rcases hfp b hb with rfl | rfl
          · exact hCI q
          · exact hlC q) e
        obtain ⟨oI, heI⟩ := hIo _ _ hst₃
        obtain ⟨oC, heC, hoC⟩ := ns_obj hn₃
        have F₃ : Fr h₀ env.locals h₃ m := (fr_but F' hk₂ hIL hI₀).change hs₃ hCL hC₀
        have off3 := off₀.mem
        have N₂ : News h₀ env.locals h₂ ((D, dictOf [] 0) :: news) := news_but N' hk₂ fun p hp => by
          rcases List.mem_cons.mp hp with rfl | hp
          · exact Ne.symm hDI
          · exact (off3 p hp).1
        have N₃ : News h₀ env.locals h₃ ((I, oI) :: (C, oC) :: (D, dictOf [] 0) :: news) := fun p hp => by
          rcases List.mem_cons.mp hp with rfl | hp
          · exact ⟨heI, Ne.symm hIL, hI₀⟩
          · rcases List.mem_cons.mp hp with rfl | hp
            · exact ⟨heC, hCL, hC₀⟩
            · have z := N₂ p hp
              refine ⟨hs₃.extBut _ _ ?_ z.1, z.2⟩
              rcases List.mem_cons.mp hp with rfl | hp
              · exact hDC
              · exact (off3 p hp).2.1
        rw [List.forIn_nil]
        refine wpAny_pure ?_
        rw [if_pos rfl]
        refine wpAny_mono (hT I oI C oC D _ h₃ _ _ (Nat.le_add_left 1 _) hoC (by simp) F₃ N₃ off₀ ⟨hCI, hDI, Ne.symm hDC⟩) ?_ fun _ _ e => e
        intro kv s₄ h₄
        refine wpAny_mono h₄ ?_ fun _ _ e => e
        intro vv s₅ h₅
        obtain ⟨k, h₅, tk₅, news₅, hk, rfl, F₅, N₅, off₅, hJ₅⟩ := h₅
        have off5 := off₅.mem
        have zI := (N₅ (I, oI) List.mem_cons_self).1
        have zC := (N₅ (C, oC) (List.mem_cons_of_mem _ List.mem_cons_self)).1
        have zD := N₅ (D, dictOf [] 0) (List.mem_cons_of_mem _ (List.mem_cons_of_mem _ List.mem_cons_self))
        have N₅' : News h₀ env.locals h₅ news₅ := fun p hp => N₅ p (List.mem_cons_of_mem _ (List.mem_cons_of_mem _ (List.mem_cons_of_mem _ hp)))
        have hdE : h₅.DictOf (PySem.strKind prog w) D [] := ⟨_, _, 0, zD.1, ⟨rfl, rfl, rfl⟩, rfl, fun e he => by simp at he, .nil, List.nodup_nil⟩
        refine wpAny_dictSet_pairs (s := { s with heap := h₅, toks := tk₅ }) hk hdE ?_ (Nat.zero_le _)
        intro h₆ hd₆ hs₆
        obtain ⟨o, ho, hdo⟩ := Heap.dictOf_iff.mp hd₆
        refine ⟨1 + 1 - (0 + 1), by omega, h₆, _, 1, _, rfl, Nat.le_refl _, rfl, ⟨?_, ?_⟩, F₅.change hs₆ hDL hD₀, (hoC.ns zC).sameBut hs₆ (Ne.symm hDC), .inr ⟨rfl, o, k, vv, news₅, ?_, hdo, off₅, hJ₅⟩⟩
        · obtain ⟨oo, e1, e2⟩ := hst₃.1
          rw [heI] at e1; cases e1
          exact ⟨_, hs₆.extBut _ _ hDI zI, e2⟩
        · exact (N₅'.isList (hJm _ _ _ hJ₅)).at fun o e => hs₆.extBut _ _ hlD e
        · intro p hp
          rcases List.mem_cons.mp hp with rfl | hp
          · exact ⟨ho, hDL, hD₀⟩
          · exact ⟨hs₆.extBut _ _ (off5 p hp).2.2 (N₅' p hp).1, (N₅' p hp).2⟩
      · refine W.done _ _ _ hst' ?_
        intro h₂ tk₂ hk₂
        have off3 := off'.mem
        have N₂ : News h₀ env.locals h₂ ((D, o) :: news') := news_but N' hk₂ fun p hp => by
          rcases List.mem_cons.mp hp with rfl | hp
          · exact Ne.symm hDI
          · exact (off3 p hp).1
        exact endU hy hp (fr_but F' hk₂ hIL hI₀) (hn'.at' fun o e => hk₂ _ o (by simpa using Ne.symm hCI) e) N₂ off' hCL hDC hC₀ fun h2 tk2 F2 N2 o2 => hF kk vv news' D h2 tk2 o hJ' ltD F2 N2 hdo o2
    · rcases List.mem_cons.mp hp with rfl | hp
      · exact ⟨hacc, hDL, hD₀⟩
      · exact ⟨old _ _ (N1 p hp).1, (N1 p hp).2⟩
  exact codeAny_compStart_dict (loop _) (W.self 0 _ _ _ hst₁ (loop _))
theorem off_my_dcomp_oneU : True := by
  (k_with "m:end my_dcomp_oneU" => skip)
  trivial
end
end Mine
end

section
open PySem PySem.W PyProof.Rows PySem.Spec PySem.Calls PyProof.Rows.LCg
namespace Mine
set_option maxRecDepth 100000
set_option maxHeartbeats 8000000
/-! a lambda made: its code is laid into the table once -/
theorem ch203 {w : World} {h : Heap} (X : (hd.heap_39 w.params).In h) : CodeHd h 203 201 := ⟨_, _, _, _, _, _, _, _, _, X 203 _ rfl, rfl, rfl, rfl, rfl, rfl, rfl, rfl, rfl, by decide⟩
noncomputable def TabOK (pos : Pos) (qual : Str) (ps : Array Value) (l : List (Addr × Obj)) : Prop :=
  ps = #[] ∨ ∃ c' oc vs t, ps = #[rawInt pos.line, rawInt pos.col, .ref c'] ∧ (c', oc) ∈ l ∧ oc.data = .fields vs ∧ vs[1]? = some (.str qual t)
section
variable {M : Model} {A : Around} {E : Value → Shared → Prop} {s : Shared} {h₀ : Heap} {L a c P : Addr} {m mg mb : Str → Option Value} {cn : Str} {cs : Scope} {ccd : Value} {cl : List (Str × Addr)} {rest : List (Addr × Obj)}
  {p : Program} {loose : List Str} {mean : ExcName → Option Value} {params : Arguments} {body : PySem.Expr} {scope : Scope} {ps : Array Value} {pos : Pos} {clos : List (Str × Addr)}
theorem mk_lam {Q : Value → Shared → Prop} {r0 : List (Addr × Obj)} (F : Fr h₀ L s.heap m) (N : News h₀ L s.heap ((P, tabObj ps) :: rest)) (T : Top p loose mean mg mb h₀) (C : CodeHd h₀ c P) (hcd : ccd = .ref c) (hP : ∀ q ∈ rest, q.1 ≠ P)
    (hcl : closureFor scope (envX cn cs L a ccd cl) = pure clos) (hdf : defaultsOf params (envX cn cs L a ccd cl) = ([], []))
    (hps : TabOK pos ((envX cn cs L a ccd cl).qual ++ "<lambda>") ps r0) (hr0 : ∀ p ∈ r0, p ∈ rest)
    (h : ∀ f c' oc vs t ctv h' tk, Fr h₀ L h' m →
      News h₀ L h' ((f, kla_obj "<lambda>" ((envX cn cs L a ccd cl).qual ++ "<lambda>") params body scope clos ((mg "__name__").getD .none) c' ctv) :: (c', oc) :: (P, tabObj #[rawInt pos.line, rawInt pos.col, .ref c']) :: rest) →
      oc.data = .fields vs → vs[1]? = some (.str ((envX cn cs L a ccd cl).qual ++ "<lambda>") t) → AllLt f ((c', oc) :: (P, tabObj ps) :: rest) → (AllLt c' ((P, tabObj ps) :: rest) ∨ (c', oc) ∈ r0) → Q (.ref f) { s with heap := h', toks := tk }) :
    wpAny M A (eval (.Lambda params body scope pos) (envX cn cs L a ccd cl)) Q E s := by
  refine kla_eval hdf ?_
  rcases hps with rfl | ⟨c', oc, vs, t, rfl, hm, hd, hv⟩
  · refine kla_nest F N T C hcd (.head hP) trivial rfl hcl fun f c' oc vs t ctv h' tk F' N' hd hv h1 h2 => ?_
    refine h f c' oc vs t ctv h' tk F' N' hd hv (allLt_of fun q hq => ?_) (.inl (allLt_of h1))
    rcases List.mem_cons.mp hq with rfl | e
    · exact h2
    · exact Nat.lt_trans (h1 _ e) h2
  · refine kla_hit (c' := c') F N T C hcd (.head _) trivial (by simp [codeAmong, rawInt]) hcl fun f ctv h' tk F' N' h1 => ?_
    refine h f c' oc vs t ctv h' tk F' (news_sub N' fun q hq => ?_) hd hv (allLt_of fun q hq => ?_) (.inr hm)
    · simp only [List.mem_cons] at hq ⊢
      rcases hq with e | rfl | e | e
      · exact .inl e
      · exact .inr (.inr (hr0 _ hm))
      · exact .inr (.inl e)
      · exact .inr (.inr e)
    · rcases List.mem_cons.mp hq with rfl | e
      · exact h1 _ (.tail _ (hr0 _ hm))
      · exact h1 _ e
theorem ne_c {c' d : Addr} {oc : Obj} {l r0 : List (Addr × Obj)} (hc : AllLt c' l ∨ (c', oc) ∈ r0) (hd : ∃ o, (d, o) ∈ l) (hr : ∀ q ∈ r0, q.1 ≠ d) : @Ne Nat c' d := by
  rcases hc with h | h
  · obtain ⟨o, ho⟩ := hd
    have h' : ∀ {l : List (Addr × Obj)}, AllLt c' l → ∀ p ∈ l, @LT.lt Nat _ p.1 c' := by
      intro l
      induction l with
      | nil => intro _ p hp; nomatch hp
      | cons q r ih =>
        intro h p hp
        rcases List.mem_cons.mp hp with rfl | hp
        · exact h.1
        · exact ih h.2 p hp
    exact Nat.ne_of_gt (h' h _ ho)
  · exact hr _ h
end
theorem drop1 {h₀ h : Heap} {L : Addr} {x0 x1 : Addr × Obj} {r : List (Addr × Obj)} (N : News h₀ L h (x0 :: x1 :: r)) : News h₀ L h (x0 :: r) := fun p hp => N p (by
  rcases List.mem_cons.mp hp with e | e
  · exact e ▸ .head _
  · exact .tail _ (.tail _ e))
section
variable {prog : Program} {w : World} {A : Around} {E : Value → Shared → Prop} {s : Shared} {env : Env}
variable {kx vx i1 : PySem.Expr} {x y : Str} {px py : Pos} {scope : Scope} {pos : Pos} {cl : List (Str × Addr)} {h₀ : Heap} {m : Str → Option Value} {Q : Value → Shared → Prop} {news : List (Addr × Obj)}
noncomputable def JOne (news : List (Addr × Obj)) (JP : Str → Addr → Obj → Prop) (k : Str) (vv : Value) (news' : List (Addr × Obj)) : Prop := ∃ T o, vv = .ref T ∧ JP k T o ∧ AllLt T news ∧ news' = (T, o) :: news
theorem my_dcomp_oneN {E₂ : Value → Shared → Prop} {l : Addr} {v : Value} {nn : Nat} (JP : Str → Addr → Obj → Prop)
    (hy : env.kindOf y = some .local) (hp : (env.scope.kind == .class || (env.scope.kind == .module && env.locals != env.globals)) = false) (hh : A.handled = none) (hcell : ∀ y ∈ scope.names, y.2 ≠ .cell) (hkind : scope.kind = .function) (hx : scope.names.lookup x = some .local)
    (hm : (l, listOf [v].toArray nn) ∈ news) (F : Fr h₀ env.locals s.heap m) (N : News h₀ env.locals s.heap news)
    (hT : DTurn prog w A h₀ env.locals m env kx vx x scope cl news (JOne news JP) v s)
    (hF : ∀ k T o D h' tk od, JP k T o → AllLt T news → AllLt D news → Fr h₀ env.locals h' (fun z => if z = y then some (.ref D) else m z) → News h₀ env.locals h' ((D, od) :: (T, o) :: news) → od.IsDictOf (PySem.strKind prog w) [(k, .ref T)] → Off1 D ((T, o) :: news) → Q .none { s with heap := h', toks := tk }) :
    wpAny (model prog w) A (pyIter (.ref l)) (fun it s₂ => DCompAtU prog w A env kx vx i1 x px scope pos cl y py E Q it s₂) E₂ s :=
  my_dcomp_oneU (JOne news JP) hy hp hh hcell hkind hx hm (fun k vv news' h => by obtain ⟨T, o, rfl, _, _, rfl⟩ := h; exact .tail _ hm) F N hT (fun k vv news' D h' tk o hJ hlD F' N' hd off => by
    obtain ⟨T, ob, rfl, h1, h2, rfl⟩ := hJ
    exact hF k T ob D h' tk o h1 h2 hlD F' N' hd off)
end
end Mine
end

section
open PySem PySem.W PyProof.Rows
namespace Mine
set_option maxRecDepth 100000
set_option maxHeartbeats 8000000
/-! contracts of a call as the code runs it: for a method that is called through a bound one -/
noncomputable abbrev CallC (w : World) (f : Value) (vs : List Value) (kw : List (Str × Value)) (D U : Nat) (news : List (Addr × Obj)) (Out : (Value → List (Addr × Obj) → Prop) → Prop) : Prop :=
  ∀ (p : Program) (loose : List Str) (mean : ExcName → Option Value) (mg mb : Str → Option Value)
    (dp un : Nat) (gd : Option (List Code)) (cn : Str) (cs : Scope) (a : Addr) (ccd : Value) (cl : List (Str × Addr)) (outer : List Env) (A₀ : Around) (base h₀ : Heap) (L : Addr) (m : Str → Option Value) (s : Shared) (Q E : Value → Shared → Prop),
    Below A₀ base outer h₀ → Fr h₀ L s.heap m → (hd.heap_39 w.params).In h₀ → News h₀ L s.heap news → Top p loose mean mg mb h₀ → cs.kind = .function →
    dp + D < recursionLimit → un + U < cLine → 1 ≤ s.toks →
    Out (fun v news' => Ret h₀ L m news' s Q v) →
    codeAny (model PySem.Challenge.rw_uc0067_01.row.prog w) (ktrTop dp un gd cn cs L a ccd cl outer) (.call f ⟨vs, kw⟩) (fun r s' => match r with | .ok (.ret v) => Q v s' | .ok _ => False | .error e => E e s') s
theorem CallC.call {w : World} {f : Value} {vs : List Value} {kw : List (Str × Value)} {D U : Nat} {news : List (Addr × Obj)} {Out : (Value → List (Addr × Obj) → Prop) → Prop} (C : CallC w f vs kw D U news Out) : Call w f vs kw D U news Out :=
  fun p loose mean mg mb dp un gd cn cs a ccd cl outer A₀ base h₀ L m s Q E B F X N T hk hd hu h1 hret => wpAny_call (C p loose mean mg mb dp un gd cn cs a ccd cl outer A₀ base h₀ L m s Q E B F X N T hk hd hu h1 hret)
theorem code_tok {M : Model} {A : Around} {s : Shared} {E : Value → Shared → Prop} {c : Code} {Q : Value → Shared → Prop} (h1 : 1 ≤ s.toks)
    (k : codeAny M A c (fun r s' => match r with | .ok (.ret v) => 1 ≤ s'.toks → Q v s' | .ok _ => False | .error _ => False) s) : codeAny M A c (fun r s' => match r with | .ok (.ret v) => Q v s' | .ok _ => False | .error e => E e s') s :=
  codeAny_with_toks (n := 1) h1 (codeAny_mono k fun r s' x ht => by
    cases r with
    | ok f => cases f with
      | ret v => exact x ht
      | _ => exact x
    | error e => exact x.elim)
theorem use_meth {w : World} {q g : Addr} {self : Value} {vs : List Value} {kw : List (Str × Value)} {D U : Nat} {news : List (Addr × Obj)} {Out : (Value → List (Addr × Obj) → Prop) → Prop} (C : CallC w (.ref g) (self :: vs) kw D U news Out)
    {p : Program} {loose : List Str} {mean : ExcName → Option Value} {mg mb : Str → Option Value}
    {dp un : Nat} {gd : Option (List Code)} {cn : Str} {cs : Scope} {a : Addr} {ccd : Value} {cl : List (Str × Addr)} {outer : List Env} {A₀ : Around} {base h₀ : Heap} {L : Addr} {m : Str → Option Value} {h : Heap} {ge : Array GenState} {d : Drawn} {tk : Nat} {os : OsState} {Q E : Value → Shared → Prop} {all : List (Addr × Obj)}
    (NA : News h₀ L h all) (hq : (q, methodObj (.ref g) self) ∈ all)
    (B : Below A₀ base outer h₀) (F : Fr h₀ L h m) (X : (hd.heap_39 w.params).In h₀) (N : News h₀ L h news) (T : Top p loose mean mg mb h₀) (hk : cs.kind = .function) (hd : dp + D < recursionLimit) (hu : un + U < cLine) (h1 : 1 ≤ tk)
    (hret : Out (fun v news' => ∀ (h' : Heap) (tk' : Nat), 1 ≤ tk' → Fr h₀ L h' m → News h₀ L h' news' → Q v ⟨h', ge, d, tk', os⟩)) :
    wpAny (model PySem.Challenge.rw_uc0067_01.row.prog w) (ktrTop dp un gd cn cs L a ccd cl outer) (call (.ref q) vs kw) Q E ⟨h, ge, d, tk, os⟩ :=
  call_meth (s := ⟨h, ge, d, tk, os⟩) NA hq (C p loose mean mg mb dp un gd cn cs a ccd cl outer A₀ base h₀ L m ⟨h, ge, d, tk, os⟩ Q E B F X N T hk hd hu h1 hret)
theorem rotK {h₀ h : Heap} {L : Addr} {l : List (Addr × Obj)} {p : Addr × Obj} (k : Nat) (N : News h₀ L h l) (hk : l[k]? = some p) : News h₀ L h (p :: l.eraseIdx k) := fun q hq => N q (by
  rcases List.mem_cons.mp hq with rfl | hq
  · exact List.mem_of_getElem? hk
  · exact List.mem_of_mem_eraseIdx hq)
section
variable {prog : Program} {w : World} {A : Around} {E : Value → Shared → Prop} {s : Shared} {h₀ : Heap} {L a : Addr} {news : List (Addr × Obj)} {n : Nat}
theorem empty_isDict : (dictOf [] n).IsDictOf (PySem.strKind prog w) [] := ⟨_, n, ⟨rfl, rfl, rfl⟩, rfl, fun e he => by simp at he, .nil, List.nodup_nil⟩
theorem truthy_empty {Q : Bool → Shared → Prop} (N : News h₀ L s.heap news) (hm : (a, dictOf [] n) ∈ news) (lo : (a == sysModules) = false) (h : ∀ tk, Q false { s with toks := tk }) : wpAny (model prog w) A (truthy (.ref a)) Q E s :=
  PySem.wpAny_truthy_dict (knd := PySem.strKind prog w) lo (kda_dict N hm empty_isDict) (by simp) (h _)
theorem get_empty {x : Str} {t : Tok} {Q : Value → Shared → Prop} (N : News h₀ L s.heap news) (hm : (a, dictOf [] n) ∈ news) (lo : (a == sysModules) = false) (h : ∀ tk, Q .none { s with toks := tk }) : wpAny (model prog w) A (call (.builtin "dict.get") [.ref a, .str x t]) Q E s :=
  kdg_get1 (knd := PySem.strKind prog w) N hm empty_isDict lo (strKind_is _ _ _ _) none rfl (h _)
theorem getm_empty {pl : Sem Bool} {Q : Value × List Value → Shared → Prop} (N : News h₀ L s.heap news) (hm : (a, dictOf [] n) ∈ news) (h : Q (.builtin "dict.get", [.ref a]) s) : wpAny (model prog w) A (getMethod (.ref a) "get" pl) Q E s :=
  kdg_method (knd := PySem.strKind prog w) N hm empty_isDict h
end
section
variable {prog : Program} {w : World} {A : Around} {E : Value → Shared → Prop} {s : Shared} {h₀ : Heap} {L l : Addr} {news : List (Addr × Obj)} {vs : List Value} {n : Nat}
theorem my_last {value slice : PySem.Expr} {t : Tok} {x : Value} {Q : Value → Shared → Prop} (N : News h₀ L s.heap news) (hm : (l, listOf (vs ++ [x]).toArray n) ∈ news) (hl : vs.length ≤ 1000) (h : Q x s)
    (hs : subscripted slice false (.ref l) (.int (-1) t) = operate [.ref l, .int (-1) t] (getItem (.ref l) (.int (-1) t))) :
    wpAny (model prog w) A (subscriptTail value slice (.ref l) (.int (-1) t)) Q E s :=
  tail_any (N.isList hm).typeIs slot_list_getitem.lookup (wpAny_getItem_list_neg (N.isList hm) (by decide) (by rw [List.size_toArray, List.length_append, List.length_singleton]; omega) (by decide) (by
    have e : ((-1 : Int) + ((vs ++ [x]).toArray.size : Int)).toNat = vs.length := by rw [List.size_toArray, List.length_append, List.length_singleton]; exact last_ix _
    rw [e]; simp) h) hs
end
end Mine
end

section
namespace Mine
open PySem PySem.W PyProof.Rows
section
variable {prog : Program} {w : World} {A : Around} {E : Value → Shared → Prop} {s : Shared} {h₀ : Heap} {L : Addr} {m : Str → Option Value} {l : Addr} {vs : List Value} {y : Value} {n : Nat} {rest : List (Addr × Obj)}
theorem my_pop {Q : Value → Shared → Prop} (F : Fr h₀ L s.heap m) (N : News h₀ L s.heap ((l, listOf (vs ++ [y]).toArray n) :: rest)) (hne : ∀ q ∈ rest, q.1 ≠ l) (hl : vs.length ≤ 1000)
    (h : ∀ h', Fr h₀ L h' m → News h₀ L h' ((l, listOf vs.toArray (n + 1)) :: rest) → Q y { s with heap := h' }) :
    wpAny (model prog w) A (call (.builtin "list.pop") [.ref l]) Q E s :=
  kl_pop F N (by rw [List.toList_toArray]; exact kpa_last y vs) (Upd.head hne) (by rw [List.toList_toArray, sizeLine_eq, List.length_append]; simp; omega) h
theorem my_extend {b n2 : Nat} {us : List Value} {Q : Value → Shared → Prop} (F : Fr h₀ L s.heap m) (N : News h₀ L s.heap ((l, listOf vs.toArray n) :: rest)) (hb : (b, listOf us.toArray n2) ∈ rest) (hne : ∀ q ∈ rest, q.1 ≠ l) (hu : us.length ≠ 0) (hl : vs.length + us.length ≤ 1000)
    (h : ∀ h', Fr h₀ L h' m → News h₀ L h' ((l, listOf (vs ++ us).toArray (n + 1)) :: rest) → Q .none { s with heap := h' }) :
    wpAny (model prog w) A (call (.builtin "list.extend") [.ref l, .ref b]) Q E s :=
  kl_extend F N (.tail _ hb) (by simp) (by simpa using hu) (Upd.head hne) (by
    rw [List.size_toArray, List.size_toArray]
    have : Builtin.List.listTooLong (vs.length + us.length) = false := by
      unfold Builtin.List.listTooLong
      simp
      rw [sizeLine_eq]; omega
    rw [this]; simp) (by rw [List.toList_toArray, sizeLine_eq]; omega) (by rw [List.size_toArray, List.size_toArray, sizeLine_eq]; omega) h
theorem my_set {k : Int} {t : Tok} {v : Value} {Q : Unit → Shared → Prop} (F : Fr h₀ L s.heap m) (N : News h₀ L s.heap ((l, listOf vs.toArray n) :: rest)) (hne : ∀ q ∈ rest, q.1 ≠ l) (h0 : 0 ≤ k) (hk : k.toNat < vs.length) (hl : vs.length ≤ 1000)
    (h : ∀ h', Fr h₀ L h' m → News h₀ L h' ((l, listOf (vs.set k.toNat v).toArray n) :: rest) → Q () { s with heap := h' }) :
    wpAny (model prog w) A (setItem (.ref l) (.int k t) v) Q E s := by
  obtain ⟨pre, post, e1, e2, a, b'⟩ := (Upd.head (o := listOf vs.toArray n) (o' := listOf (vs.set k.toNat v).toArray n) hne).split
  rw [e1] at N
  have z := N (l, listOf vs.toArray n) (List.mem_append.mpr (.inr (.head _)))
  refine ki_setAt z.1 h0 (by have : (2 : Int) ^ 63 = 9223372036854775808 := by decide
                             omega) (by rw [List.size_toArray]; omega) (h _ (F.change (Heap.SameBut.update ..) z.2.1 z.2.2) ?_)
  rw [e2]
  refine ki_turn _ N a b' ?_ ?_
  · show vs.toArray.setIfInBounds k.toNat v = (vs.set k.toNat v).toArray
    apply Array.toList_inj.mp
    simp
  · simp
end
end Mine
end

section
open PySem PySem.W PyProof.Rows
namespace Mine
theorem isDict_nil {prog : Program} {w : World} {K : Type} [DecidableEq K] {knd : KeyKind prog w K} {o : Obj} (h : o.IsDictOf knd []) : ∃ n, o = dictOf [] n := by
  obtain ⟨es, n, ⟨h1, h2, h3⟩, h4, h5, h6, h7⟩ := h
  have he : es = #[] := by
    have : es.toList = [] := by
      generalize es.toList = l at h6
      cases h6; rfl
    exact Array.toList_inj.mp this
  subst he
  refine ⟨n, ?_⟩
  obtain ⟨c, d, x, sl⟩ := o
  dsimp only at h1 h2 h3 h4
  subst h1 h2 h3 h4
  rfl
end Mine
end

section
open PySem PySem.W PyProof.Rows PySem.Spec PySem.Calls
namespace Mine
set_option maxRecDepth 100000
set_option maxHeartbeats 8000000
theorem ga_lookup : typeLookup (.type "method_descriptor") (Str.ofString "__get__") = pure (some (.builtin "method_descriptor.__get__")) := by rw [typeLookup_type, builtinLookup_eq_fast]; kernel_rfl
theorem ga_slot : Slot "method_descriptor" (Str.ofString "__get__") "method_descriptor.__get__" :=
  .of (owner := "method_descriptor") (n := "__get__") ga_lookup (by decide +kernel) (by decide +kernel) (by decide +kernel)
    (by first | exact .inl (by decide +kernel) | exact .inr (by decide +kernel)) (by rw [isSubtype_type]; kernel_rfl)
theorem ga_entry : entryFor table "method_descriptor.__get__" = some Builtin.«method_descriptor.__get__» := entryFor_of_tree (by kernel_rfl)
theorem ga_owner : Manifest.owners.lookup (String.ofList (['r', 'o', 't', 'p', 'i', 'r', 'c', 's', 'e', 'd', '_', 'd', 'o', 'h', 't', 'e', 'm']).reverse) = some Manifest.sig_method_descriptor := by kernel_rfl
theorem ga_args (a b c : Value) : argsOk "method_descriptor.__get__" ⟨[a, b, c], []⟩ := by
  unfold argsOk; rw [signature?_of (id := "method_descriptor.__get__") (n := ['_', '_', 't', 'e', 'g', '_', '_']) (o := ['r', 'o', 't', 'p', 'i', 'r', 'c', 's', 'e', 'd', '_', 'd', 'o', 'h', 't', 'e', 'm']) (by kernel_rfl) ga_owner]; kernel_rfl
theorem ga_set : typeLookup (.type "method_descriptor") (Str.ofString "__set__") = pure none := by rw [typeLookup_type, builtinLookup_eq_fast]; kernel_rfl
theorem ga_del : typeLookup (.type "method_descriptor") (Str.ofString "__delete__") = pure none := by rw [typeLookup_type, builtinLookup_eq_fast]; kernel_rfl
theorem words_ga : True := by
  (k_with "m:ga" => (first | (with_reducible assumption) | (with_reducible (first | refine wpAny_pure ?_ | refine wpAny_bind ?_ | refine wpAny_holding ?_ | refine wpAny_standAt ?_ | refine wpAny_point ?_ | refine wpAny_rule ?_ | refine wpAny_letGo ?_ | refine wpAny_mkInt' ?_ | refine wpAny_mkStr' ?_ | refine wpAny_fresh' ?_ | refine wpAny_alloc' ?_ | refine wpAny_attempt ?_ | refine wpAny_throw ?_ | refine wpAny_of_eq (by with_reducible assumption) ?_ | refine wpAny_typeOf (by with_reducible assumption) ?_)) | wp_delta | wp_step))
  trivial

theorem ga_meets (a : Addr) (xs : Array Value) (k : Nat) (sl : Array (Option Value)) :
    Meets (Builtin.«method_descriptor.__get__» ⟨[.builtin "list.append", .ref a, .type "list"], []⟩) (fun A R s => s.heap.get? a = some { cls := .type "list", dict := none, data := .seq xs k, slots := sl } ∧ R (.ok (.ret (.ref s.heap.objs.size))) { s with heap := s.heap.push (bndAp a) }) :=
  Meets.of_wp fun prog w A R s hs => by
    obtain ⟨hp, g, d, tk, os⟩ := s
    obtain ⟨hx, hs⟩ := hs
    have hT : (⟨hp, g, d, tk, os⟩ : Shared).TypeIs (.ref a) "list" := ⟨_, hx, rfl⟩
    unfold Builtin.«method_descriptor.__get__»
    repeat (any_goals (k_extra "m:ga"))
    have e : (".".intercalate ("list.append".cutAt '.').dropLast) = "list" := by decide +kernel
    rw [e]
    have e2 : isSubtype (.type "list") (.type "list") = pure true := by rw [isSubtype_type]; kernel_rfl
    refine wpAny_of_eq e2 ?_
    simp only [Bool.not_true, Bool.false_eq_true, if_false]
    refine wpAny_pure ?_
    unfold newFields
    refine wpAny_bind (wpAny_newObj_type (wpAny_pure ⟨_, rfl, ?_⟩))
    exact hs

theorem ga_find (a : Addr) (xs : Array Value) (k : Nat) (sl : Array (Option Value)) (u : Tok) :
    Meets (Builtin.«object.__getattribute__» ⟨[.ref a, .str (Str.ofString "append") u], []⟩) (fun A R s => s.heap.get? a = some { cls := .type "list", dict := none, data := .seq xs k, slots := sl } ∧ ∀ tk, R (.ok (.ret (.ref s.heap.objs.size))) { s with heap := s.heap.push (bndAp a), toks := tk }) :=
  Meets.of_wp fun prog w A R s hs => by
    obtain ⟨hp, g, d, tk, os⟩ := s
    obtain ⟨hx, hs⟩ := hs
    have hT : (⟨hp, g, d, tk, os⟩ : Shared).TypeIs (.ref a) "list" := ⟨_, hx, rfl⟩
    have hl := F.slot_list_append.lookup
    have ht := F.type_list_append
    have hg := ga_lookup
    have h1 := ga_set
    have h2 := ga_del
    unfold Builtin.«object.__getattribute__»
    repeat (any_goals (first | ((with_reducible show wpAny _ _ (call (Value.builtin "method_descriptor.__get__") _ _) _ _ _); refine call_meets ga_slot (by exact ht) ga_entry (ga_args _ _ _) (ga_meets a xs k sl) ⟨hx, ?_⟩; exact wpAny_pure ⟨_, rfl, hs _⟩) | (k_extra "m:ga")))

theorem getattr_append {prog : Program} {w : World} {A : Around} {E : Value → Shared → Prop} {s : Shared} {a : Addr} {o : Obj} {xs : Array Value} {k : Nat} {Q : Value → Shared → Prop}
    (hx : s.heap.get? a = some o) (hc : o.cls = .type "list") (hdat : o.data = .seq xs k) (hd : o.dict = none)
    (h : ∀ tk, Q (.ref s.heap.objs.size) { s with heap := s.heap.push (bndAp a), toks := tk }) :
    wpAny (model prog w) A (getAttr (.ref a) (Str.ofString "append") true) Q E s := by
  obtain ⟨c, dct, dat, sl⟩ := o
  simp only at hc hdat hd
  subst hc hdat hd
  obtain ⟨hp, g, d, tk, os⟩ := s
  have hT : ∀ tk', (⟨hp, g, d, tk', os⟩ : Shared).TypeIs (.ref a) "list" := fun _ => ⟨_, hx, rfl⟩
  have f3 := F.slot_list_getattribute.lookup
  have f4 := F.slot_list_getattribute.bind (.ref a)
  have f5 := am_list_getattr_none
  unfold getAttr getAttrBy
  repeat (any_goals (first | ((with_reducible show wpAny _ _ (call (Value.builtin "list.__getattribute__") _ _) _ _ _); refine call_meets F.slot_list_getattribute (hT _) am_entry_list_getattribute (F.args_list_getattribute_2 _ _) (ga_find a xs k sl _) ⟨hx, fun tk' => ?_⟩) | (with_reducible exact hT _) | (k_extra "m:ga")))
  show wpAny _ _ (handedOut _) _ _ _
  exact wpAny_pure (h _)
section
variable {prog : Program} {w : World} {A : Around} {E : Value → Shared → Prop} {s : Shared} {h₀ : Heap} {L l : Addr} {m : Str → Option Value} {news : List (Addr × Obj)} {its : Array Value} {n : Nat}
theorem my_bound {Q : Value → Shared → Prop} (F : Fr h₀ L s.heap m) (N : News h₀ L s.heap news) (hm : (l, listOf its n) ∈ news)
    (h : ∀ (u : Nat) h' tk, Fr h₀ L h' m → News h₀ L h' ((u, bndAp l) :: news) → AllLt u news → Q (.ref u) { s with heap := h', toks := tk }) :
    wpAny (model prog w) A (getAttr (.ref l) (Str.ofString "append") true) Q E s :=
  getattr_append (N _ hm).1 rfl rfl rfl fun tk => h _ _ tk (F.push _) (news_new F N _ rfl) (allLt_of fun p hp => Heap.lt_size (N p hp).1)
end
end Mine
end

section
open PySem PySem.W PyProof.Rows PyProof.V
namespace Mine
set_option maxRecDepth 100000
set_option maxHeartbeats 8000000
/-! the loop over a range again, where it is known that the walker is no code -/
noncomputable def ItP (o : Obj) : Prop := ∀ vs, o.data = .fields vs → ∀ (q : Str) (t : Tok), vs[1]? ≠ some (.str q t)
section
variable {prog : Program} {w : World} {A : Around} {env : Env} {h₀ h : Heap} {L : Addr} {g : Array GenState} {d : Drawn} {tk : Nat} {os : OsState} {m : Str → Option Value} {news : List (Addr × Obj)}
theorem on_for_coreP : True := by
  (k_with "m:on" => (fail_if_success (k_extra "m:end for_coreP")))
  trivial
theorem for_coreP {Q : Flow → Shared → Prop} {x : Str} {px : Pos} {body : List Stmt} {I : Addr} {fp : List Addr} {n : Nat} {P : Nat → Value → Prop} {St : Nat → Heap → Prop} (ks : List (Addr × Obj)) (Pr : Obj → Prop)
    (J : Nat → (Str → Option Value) → List (Addr × Obj) → Prop)
    (W : Walks prog w A I fp [I] n P St) (hx : env.kindOf x = some .local) (hp : (env.scope.kind == .class || (env.scope.kind == .module && env.locals != env.globals)) = false)
    (hfp : ∀ b ∈ fp, b = I ∨ ∃ o, (b, o) ∈ ks) (hI0 : h₀.get? I = none) (hIL : I ≠ env.locals) (hob : ∀ i h, St i h → ∃ o, h.get? I = some o ∧ Pr o)
    (F : Fr h₀ env.locals h m) (N : News h₀ env.locals h news) (htk : 1 ≤ tk) (hst : St 0 h) (hnw : ∀ p ∈ news, p.1 ≠ I) (hks : ∀ p ∈ ks, p ∈ news) (h0 : J 0 m news)
    (turn : ∀ i v m₁ news₁ h₁ tk₁ it, Pr it → i < n → P i v → 1 ≤ tk₁ → Fr h₀ env.locals h₁ (fun y => if y = x then some v else m₁ y) → News h₀ env.locals h₁ ((I, it) :: news₁) → (∀ p ∈ news₁, p.1 ≠ I) → (∀ p ∈ ks, p ∈ news₁) → J i m₁ news₁ →
      wpAny (model prog w) A (execs body env) (FPost h₀ env.locals g d os I it ks (J (i + 1)) Q) (fun _ _ => False) ⟨h₁, g, d, tk₁, os⟩)
    (done : ∀ h' tk' m' news', 1 ≤ tk' → Fr h₀ env.locals h' m' → News h₀ env.locals h' news' → (∀ p ∈ ks, p ∈ news') → J n m' news' → Q .next ⟨h', g, d, tk', os⟩) :
    ForAt prog w A env x px body Q (.ref I) ⟨h, g, d, tk, os⟩ := by
  revert prog w A env h₀ h g d tk os m news Q x px body I fp n P St ks Pr J W hx hp hfp hI0 hIL hob F N htk hst hnw hks h0 turn done
  intro prog w A env h₀ h g d tk os m news Q x px body I fp n P St ks Pr J W hx hp hfp hI0 hIL hob F N htk hst hnw hks h0 turn done
  have hLI : env.locals ∉ [I] := fun q => hIL (List.mem_singleton.mp q).symm
  have old : ∀ b o, h₀.get? b = some o → b ∉ [I] := fun b o e hb => by rw [List.mem_singleton.mp hb, hI0] at e; cases e
  refine codeAny_forLoop
    (fun k s' => ∃ h' tk' m' news' i, s' = ⟨h', g, d, tk', os⟩ ∧ 1 ≤ tk' ∧ St i h' ∧ Fr h₀ env.locals h' m' ∧ News h₀ env.locals h' news' ∧ (∀ p ∈ news', p.1 ≠ I) ∧ (∀ p ∈ ks, p ∈ news') ∧ J i m' news' ∧ i ≤ n ∧ k = n + 1 - i) ?_ (n + 1)
    ⟨h, tk, m, news, 0, rfl, htk, hst, F, N, hnw, hks, h0, Nat.zero_le _, rfl⟩
  rintro k s' ⟨h', tk', m', news', i, rfl, ht', hst', F', N', hnw', hks', hJ, hi, rfl⟩
  have next : ∀ h₁ : Heap, (∀ b o, b ∉ [I] → h'.get? b = some o → h₁.get? b = some o) → Fr h₀ env.locals h₁ m' ∧ News h₀ env.locals h₁ news' := fun h₁ hk₁ =>
    ⟨⟨F'.ns.at' fun o e => hk₁ _ o hLI e, fun b o e => hk₁ b o (old b o e) (F'.keep b o e), F'.above⟩, fun p hp => ⟨hk₁ _ _ (fun q => hnw' p hp (List.mem_singleton.mp q)) (N' p hp).1, (N' p hp).2⟩⟩
  by_cases hlt : i < n
  · refine wpAny_with_toks (n := 1) ht' (W.item i _ _ _ hlt hst' ?_)
    intro v h₁ tk₁ hP hst₁ hk₁
    intro ht₁
    obtain ⟨F₁, N₁⟩ := next h₁ hk₁
    refine wpAny_assign_Name (wpAny_storeName_local hx F₁.ns ?_ hp)
    intro h₂ hn₂ hs₂
    have F₂ := F₁.set hn₂ hs₂
    have N₂ := N₁.set hs₂
    have hst₂ : St (i + 1) h₂ := W.frame _ _ _ hst₁ fun b hb o e => (hs₂.2 b fun q => by
      rcases hfp b hb with e' | ⟨o', e'⟩
      · exact hIL (e'.symm.trans q)
      · exact (N' _ (hks' _ e')).2.1 q).trans e
    obtain ⟨it, hit, hpr⟩ := hob _ _ hst₂
    have N₃ : News h₀ env.locals h₂ ((I, it) :: news') := fun p hp => by
      rcases List.mem_cons.mp hp with rfl | hp
      · exact ⟨hit, hIL, hI0⟩
      · exact N₂ p hp
    have fin : ∀ s₃, (∃ h' tk m₂ news₂, s₃ = (⟨h', g, d, tk, os⟩ : Shared) ∧ 1 ≤ tk ∧ Fr h₀ env.locals h' m₂ ∧ News h₀ env.locals h' ((I, it) :: news₂) ∧ (∀ p ∈ news₂, p.1 ≠ I) ∧ (∀ p ∈ ks, p ∈ news₂) ∧ J (i + 1) m₂ news₂) →
        ∃ q, q < n + 1 - i ∧ ∃ h' tk' m' news' i', s₃ = (⟨h', g, d, tk', os⟩ : Shared) ∧ 1 ≤ tk' ∧ St i' h' ∧ Fr h₀ env.locals h' m' ∧ News h₀ env.locals h' news' ∧ (∀ p ∈ news', p.1 ≠ I) ∧ (∀ p ∈ ks, p ∈ news') ∧ J i' m' news' ∧ i' ≤ n ∧ q = n + 1 - i' := by
      rintro s₃ ⟨h₃, tk₃, m₂, news₂, rfl, ht₃, F₃, N₃', hnw₃, hks₃, hJ₃⟩
      refine ⟨n + 1 - (i + 1), by first | exact meas1 (by assumption) | omega, h₃, tk₃, m₂, news₂, i + 1, rfl, ht₃, ?_, F₃, fun p hp => N₃' p (.tail _ hp), hnw₃, hks₃, hJ₃, hlt, rfl⟩
      refine W.frame _ _ _ hst₂ ?_
      intro b hb o e
      rcases hfp b hb with e' | ⟨o', e'⟩
      · subst e'
        rw [hit] at e
        cases e
        exact (N₃' _ (.head _)).1
      · have q1 := (N₃ _ (.tail _ (hks' _ e'))).1
        rw [e] at q1
        cases q1
        exact (N₃' _ (.tail _ (hks₃ _ e'))).1
    refine wpAny_mono (turn i v m' news' h₂ _ it hpr hlt hP (Nat.le_add_left 1 tk₁) F₂ N₃ hnw' hks' hJ) ?_ fun _ _ e => e.elim
    intro f s₃ h₃
    cases f with
    | ret v => exact h₃
    | brk => exact h₃
    | cont => exact fin s₃ h₃
    | next => exact fin s₃ h₃
  · have hin : i = n := by omega
    subst hin
    refine wpAny_with_toks (n := 1) ht' (W.done _ _ _ hst' ?_)
    intro h₁ tk₁ hk₁
    intro ht₁
    obtain ⟨F₁, N₁⟩ := next h₁ hk₁
    exact wpAny_execs_nil (done h₁ tk₁ m' news' ht₁ F₁ N₁ hks' hJ)
theorem off_for_coreP : True := by
  (k_with "m:end for_coreP" => skip)
  trivial
theorem my_rangeP {E : Value → Shared → Prop} {Q : Flow → Shared → Prop} {x : Str} {px : Pos} {body : List Stmt} {r : Addr} {a b : Int} {t u v : Tok} {n : Nat} (J : Nat → (Str → Option Value) → List (Addr × Obj) → Prop)
    (hh : A.handled = none) (hx : env.kindOf x = some .local) (hp : (env.scope.kind == .class || (env.scope.kind == .module && env.locals != env.globals)) = false)
    (hr : IsRange h r a b 1 t u v) (hsmall : Builtin.Range.small a b 1 = true) (hn : Builtin.Range.rangeSize a b 1 = (n : Int)) (F : Fr h₀ env.locals h m) (N : News h₀ env.locals h news) (htk : 1 ≤ tk) (h0 : J 0 m news)
    (turn : ∀ (i : Nat) (t : Tok) m₁ news₁ h₁ tk₁ I it, ItP it → i < n → 1 ≤ tk₁ → Fr h₀ env.locals h₁ (fun y => if y = x then some (.int (a + i) t) else m₁ y) → News h₀ env.locals h₁ ((I, it) :: news₁) → (∀ p ∈ news₁, p.1 ≠ I) → J i m₁ news₁ →
      wpAny (model prog w) A (execs body env) (FPost h₀ env.locals g d os I it [] (J (i + 1)) Q) (fun _ _ => False) ⟨h₁, g, d, tk₁, os⟩)
    (done : ∀ h' tk' m' news', 1 ≤ tk' → Fr h₀ env.locals h' m' → News h₀ env.locals h' news' → J n m' news' → Q .next ⟨h', g, d, tk', os⟩) :
    wpAny (model prog w) A (pyIter (.ref r)) (fun it s₂ => ForAt prog w A env x px body Q it s₂) E ⟨h, g, d, tk, os⟩ := by
  refine wpAny_pyIter_range (s := ⟨h, g, d, tk, os⟩) hr hsmall ?_
  have W : Walks prog w A h.objs.size [h.objs.size] [h.objs.size] n (fun i v => i < n ∧ ∃ t, v = .int (a + i * 1) t) (fun i h' => IsRangeIter h' h.objs.size (a + (i : Nat) * 1) ((n : Int) - (i : Nat)) 1) := (Walks.range hh _ a 1 n).bound
  refine for_coreP [] ItP J W hx hp (fun b hb => .inl (List.mem_singleton.mp hb)) (next_is_new F) (Nat.ne_of_gt F.ns.lt) (fun i h st => ⟨_, st, fun vs e => by cases e; intro q t; simp [rawInt]⟩) (F.push _) (fun p hp => ⟨Heap.get?_push_of_some _ (N p hp).1, (N p hp).2⟩) htk (by show IsRangeIter _ _ _ _ _; rw [hn]; simpa using Heap.get?_push_size _ rfl) (fun p hp => Nat.ne_of_lt (Heap.lt_size (N p hp).1)) (fun p hp => nomatch hp) h0 ?_ ?_
  · rintro i v m₁ news₁ h₁ tk₁ it hpr hi ⟨_, t', rfl⟩ ht F₁ N₁ hn hk hJ
    rw [Int.mul_one] at F₁
    exact turn i t' m₁ news₁ h₁ tk₁ _ it hpr hi ht F₁ N₁ hn hJ
  · intro h' tk' m' news' ht F' N' _ hJ
    exact done h' tk' m' news' ht F' N' hJ
end
end Mine
end

section
namespace Mine
/-! the plain law: words are lists of numbers, sums are lists of (word, number) -/
noncomputable abbrev Poly := List (List Nat × Int)
noncomputable def getP : Poly → List Nat → Int
  | [], _ => 0
  | (a, x) :: r, k => if a = k then x else getP r k
theorem getP_q0 (k : List Nat) : getP [] k = 0 := rfl
theorem getP_q1 (a : List Nat) (x : Int) (r : Poly) (k : List Nat) : getP ((a, x) :: r) k = if a = k then x else getP r k := rfl
noncomputable def setP : Poly → List Nat → Int → Poly
  | [], k, v => [(k, v)]
  | (a, x) :: r, k, v => if a = k then (a, v) :: r else (a, x) :: setP r k v
theorem setP_q0 (k : List Nat) (v : Int) : setP [] k v = [(k, v)] := rfl
theorem setP_q1 (a : List Nat) (x : Int) (r : Poly) (k : List Nat) (v : Int) : setP ((a, x) :: r) k v = if a = k then (a, v) :: r else (a, x) :: setP r k v := rfl
noncomputable def rowTimes (S : Poly) (a : List Nat) (x f : Int) : Poly → Poly
  | [] => S
  | (b, y) :: r => rowTimes (setP S (a ++ b) (getP S (a ++ b) + f * x * y)) a x f r
theorem rowTimes_q0 (S : Poly) (a : List Nat) (x f : Int) : rowTimes S a x f [] = S := rfl
theorem rowTimes_q1 (S : Poly) (a : List Nat) (x f : Int) (b : List Nat) (y : Int) (r : Poly) : rowTimes S a x f ((b, y) :: r) = rowTimes (setP S (a ++ b) (getP S (a ++ b) + f * x * y)) a x f r := rfl
noncomputable def timesP (S : Poly) (B : Poly) (f : Int) : Poly → Poly
  | [] => S
  | (a, x) :: r => timesP (rowTimes S a x f B) B f r
theorem timesP_q0 (S B : Poly) (f : Int) : timesP S B f [] = S := rfl
theorem timesP_q1 (S B : Poly) (f : Int) (a : List Nat) (x : Int) (r : Poly) : timesP S B f ((a, x) :: r) = timesP (rowTimes S a x f B) B f r := rfl
/-- a linear measure of a sum -/
noncomputable def phi (φ : List Nat → Int) : Poly → Int
  | [] => 0
  | (a, x) :: r => φ a * x + phi φ r
theorem phi_q0 (φ : List Nat → Int) : phi φ [] = 0 := rfl
theorem phi_q1 (φ : List Nat → Int) (a : List Nat) (x : Int) (r : Poly) : phi φ ((a, x) :: r) = φ a * x + phi φ r := rfl
noncomputable def keysP (P : Poly) : List (List Nat) := P.map (·.1)
theorem mem_keys_set {S : Poly} {k w : List Nat} {v : Int} : w ∈ keysP (setP S k v) ↔ w = k ∨ w ∈ keysP S := by
  induction S with
  | nil => simp [setP_q0, setP_q1, keysP]
  | cons p r ih =>
    obtain ⟨a, x⟩ := p
    ((first | rewrite [setP_q0] | rewrite [setP_q1]); (try with_reducible rfl))
    by_cases h : a = k
    · rw [if_pos h]
      subst h
      simp [keysP]
    · rw [if_neg h]
      simp only [keysP, List.map_cons, List.mem_cons] at ih ⊢
      rw [ih]
      constructor
      · rintro (h | h | h)
        · exact .inr (.inl h)
        · exact .inl h
        · exact .inr (.inr h)
      · rintro (h | h | h)
        · exact .inr (.inl h)
        · exact .inl h
        · exact .inr (.inr h)
theorem nodup_set {S : Poly} {k : List Nat} {v : Int} (h : (keysP S).Nodup) : (keysP (setP S k v)).Nodup := by
  induction S with
  | nil => simp [setP_q0, setP_q1, keysP]
  | cons p r ih =>
    obtain ⟨a, x⟩ := p
    have h1 : a ∉ keysP r := (List.nodup_cons.mp h).1
    have h2 := (List.nodup_cons.mp h).2
    ((first | rewrite [setP_q0] | rewrite [setP_q1]); (try with_reducible rfl))
    by_cases e : a = k
    · rw [if_pos e]
      exact List.nodup_cons.mpr ⟨h1, h2⟩
    · rw [if_neg e]
      refine List.nodup_cons.mpr ⟨fun hm => ?_, ih h2⟩
      rcases mem_keys_set.mp hm with h | h
      · exact e h
      · exact h1 h
theorem get_notin {S : Poly} {k : List Nat} (h : k ∉ keysP S) : getP S k = 0 := by
  induction S with
  | nil => rfl
  | cons p r ih =>
    obtain ⟨a, x⟩ := p
    have h' : k ≠ a ∧ k ∉ keysP r := by simpa [keysP] using h
    ((first | rewrite [getP_q0] | rewrite [getP_q1]); rewrite [if_neg (Ne.symm h'.1), ih h'.2]; (try with_reducible rfl))
theorem phi_set (φ : List Nat → Int) {S : Poly} {k : List Nat} {d : Int} (h : (keysP S).Nodup) : phi φ (setP S k (getP S k + d)) = phi φ S + φ k * d := by
  induction S with
  | nil => simp [setP_q0, setP_q1, getP_q0, getP_q1, phi_q0, phi_q1]
  | cons p r ih =>
    obtain ⟨a, x⟩ := p
    have h2 := (List.nodup_cons.mp h).2
    ((first | rewrite [setP_q0] | rewrite [setP_q1]); (first | rewrite [getP_q0] | rewrite [getP_q1]); (try with_reducible rfl))
    by_cases e : a = k
    · rw [if_pos e, if_pos e]
      subst e
      simp only [phi_q0, phi_q1]
      rw [Int.mul_add]
      omega
    · rw [if_neg e, if_neg e]
      simp only [phi_q0, phi_q1]
      rw [ih h2]
      omega
/-- the sum of φ (a ++ b) x y over a row -/
noncomputable def rowPhi (φ : List Nat → Int) (a : List Nat) (x : Int) : Poly → Int
  | [] => 0
  | (b, y) :: r => φ (a ++ b) * (x * y) + rowPhi φ a x r
theorem rowPhi_q0 (φ : List Nat → Int) (a : List Nat) (x : Int) : rowPhi φ a x [] = 0 := rfl
theorem rowPhi_q1 (φ : List Nat → Int) (a : List Nat) (x : Int) (b : List Nat) (y : Int) (r : Poly) : rowPhi φ a x ((b, y) :: r) = φ (a ++ b) * (x * y) + rowPhi φ a x r := rfl
noncomputable def gridPhi (φ : List Nat → Int) (B : Poly) : Poly → Int
  | [] => 0
  | (a, x) :: r => rowPhi φ a x B + gridPhi φ B r
theorem gridPhi_q0 (φ : List Nat → Int) (B : Poly) : gridPhi φ B [] = 0 := rfl
theorem gridPhi_q1 (φ : List Nat → Int) (B : Poly) (a : List Nat) (x : Int) (r : Poly) : gridPhi φ B ((a, x) :: r) = rowPhi φ a x B + gridPhi φ B r := rfl
theorem rowTimes_ok (φ : List Nat → Int) (a : List Nat) (x f : Int) : ∀ (B S : Poly), (keysP S).Nodup →
    (keysP (rowTimes S a x f B)).Nodup ∧ phi φ (rowTimes S a x f B) = phi φ S + f * rowPhi φ a x B ∧ ∀ w, w ∈ keysP (rowTimes S a x f B) ↔ w ∈ keysP S ∨ ∃ b ∈ keysP B, w = a ++ b
  | [], S, h => ⟨h, by simp [rowTimes_q0, rowTimes_q1, rowPhi_q0, rowPhi_q1], fun w => by simp [rowTimes_q0, rowTimes_q1, keysP]⟩
  | (b, y) :: r, S, h => by
    obtain ⟨h1, h2, h3⟩ := rowTimes_ok φ a x f r (setP S (a ++ b) (getP S (a ++ b) + f * x * y)) (nodup_set h)
    refine ⟨h1, ?_, fun w => ?_⟩
    · show phi φ (rowTimes (setP S (a ++ b) (getP S (a ++ b) + f * x * y)) a x f r) = _
      rw [h2, phi_set φ h]
      simp only [rowPhi_q0, rowPhi_q1]
      rw [Int.mul_add, show φ (a ++ b) * (f * x * y) = f * (φ (a ++ b) * (x * y)) from by
        rw [Int.mul_assoc f x y, ← Int.mul_assoc (φ (a ++ b)) f, Int.mul_comm (φ (a ++ b)) f, Int.mul_assoc]]
      omega
    · show w ∈ keysP (rowTimes (setP S (a ++ b) (getP S (a ++ b) + f * x * y)) a x f r) ↔ _
      rw [h3 w, mem_keys_set]
      simp only [keysP, List.map_cons, List.mem_cons, exists_eq_or_imp]
      constructor
      · rintro ((h | h) | h)
        · exact .inr (.inl h)
        · exact .inl h
        · exact .inr (.inr h)
      · rintro (h | h | h)
        · exact .inl (.inr h)
        · exact .inl (.inl h)
        · exact .inr h
theorem timesP_ok (φ : List Nat → Int) (B : Poly) (f : Int) : ∀ (A S : Poly), (keysP S).Nodup →
    (keysP (timesP S B f A)).Nodup ∧ phi φ (timesP S B f A) = phi φ S + f * gridPhi φ B A ∧ ∀ w, w ∈ keysP (timesP S B f A) ↔ w ∈ keysP S ∨ ∃ a ∈ keysP A, ∃ b ∈ keysP B, w = a ++ b
  | [], S, h => ⟨h, by simp [timesP_q0, timesP_q1, gridPhi_q0, gridPhi_q1], fun w => by simp [timesP_q0, timesP_q1, keysP]⟩
  | (a, x) :: r, S, h => by
    obtain ⟨g1, g2, g3⟩ := rowTimes_ok φ a x f B S h
    obtain ⟨h1, h2, h3⟩ := timesP_ok φ B f r (rowTimes S a x f B) g1
    refine ⟨h1, ?_, fun w => ?_⟩
    · show phi φ (timesP (rowTimes S a x f B) B f r) = _
      rw [h2, g2]
      simp only [gridPhi_q0, gridPhi_q1]
      rw [Int.mul_add]
      omega
    · show w ∈ keysP (timesP (rowTimes S a x f B) B f r) ↔ _
      rw [h3 w, g3 w]
      simp only [keysP, List.map_cons, List.mem_cons, exists_eq_or_imp]
      constructor
      · rintro ((h | h) | h)
        · exact .inl h
        · exact .inr (.inl h)
        · exact .inr (.inr h)
      · rintro (h | h | h)
        · exact .inl (.inl h)
        · exact .inl (.inr h)
        · exact .inr h
/-! the two measures: all numbers together; one word's number -/
noncomputable abbrev one1 : List Nat → Int := fun _ => 1
noncomputable abbrev atW (w : List Nat) : List Nat → Int := fun k => if k = w then 1 else 0
theorem rowPhi_one (a : List Nat) (x : Int) : ∀ B : Poly, rowPhi one1 a x B = x * phi one1 B
  | [] => by simp [rowPhi_q0, rowPhi_q1, phi_q0, phi_q1]
  | (b, y) :: r => by
    simp only [rowPhi_q0, rowPhi_q1, phi_q0, phi_q1, rowPhi_one a x r]
    rw [Int.mul_add]
    simp
theorem gridPhi_one (B : Poly) : ∀ A : Poly, gridPhi one1 B A = phi one1 A * phi one1 B
  | [] => by simp [gridPhi_q0, gridPhi_q1, phi_q0, phi_q1]
  | (a, x) :: r => by
    simp only [gridPhi_q0, gridPhi_q1, phi_q0, phi_q1, rowPhi_one, gridPhi_one B r]
    rw [Int.add_mul]
    simp
theorem phi_at {P : Poly} {w : List Nat} (h : (keysP P).Nodup) : phi (atW w) P = getP P w := by
  induction P with
  | nil => rfl
  | cons p r ih =>
    obtain ⟨a, x⟩ := p
    have h1 : a ∉ keysP r := (List.nodup_cons.mp h).1
    ((first | rewrite [phi_q0] | rewrite [phi_q1]); (first | rewrite [getP_q0] | rewrite [getP_q1]); rewrite [ih (List.nodup_cons.mp h).2]; (try with_reducible rfl))
    by_cases e : a = w
    · subst e
      simp [atW, get_notin h1]
    · simp [atW, e]
theorem rowPhi_at (a : List Nat) (x : Int) (u v : List Nat) (hl : a.length = u.length) : ∀ B : Poly, rowPhi (atW (u ++ v)) a x B = (atW u a * x) * phi (atW v) B
  | [] => by simp [rowPhi_q0, rowPhi_q1, phi_q0, phi_q1]
  | (b, y) :: r => by
    simp only [rowPhi_q0, rowPhi_q1, phi_q0, phi_q1, rowPhi_at a x u v hl r]
    rw [Int.mul_add]
    congr 1
    by_cases e : a = u
    · subst e
      by_cases e2 : b = v
      · subst e2; simp [atW]
      · have : a ++ b ≠ a ++ v := fun h => e2 (List.append_cancel_left h)
        simp [atW, e2]
    · have : a ++ b ≠ u ++ v := fun h => e (List.append_inj h hl).1
      simp [atW, e, this]
theorem gridPhi_at (B : Poly) (u v : List Nat) : ∀ A : Poly, (∀ a ∈ keysP A, a.length = u.length) → gridPhi (atW (u ++ v)) B A = phi (atW u) A * phi (atW v) B
  | [], _ => by simp [gridPhi_q0, gridPhi_q1, phi_q0, phi_q1]
  | (a, x) :: r, h => by
    simp only [gridPhi_q0, gridPhi_q1, phi_q0, phi_q1]
    rw [rowPhi_at a x u v (h a (by simp [keysP])), gridPhi_at B u v r (fun b hb => h b (by simp only [keysP, List.map_cons, List.mem_cons] at hb ⊢; exact .inr hb)), Int.add_mul]
theorem rowPhi_zero {φ : List Nat → Int} {a : List Nat} {x : Int} : ∀ {B : Poly}, (∀ b ∈ keysP B, φ (a ++ b) = 0) → rowPhi φ a x B = 0
  | [], _ => rfl
  | (b, y) :: r, h => by
    ((first | rewrite [rowPhi_q0] | rewrite [rowPhi_q1]); rewrite [h b (by simp [keysP]), rowPhi_zero (fun b hb => h b (by simp only [keysP, List.map_cons, List.mem_cons] at hb ⊢; exact .inr hb))]; (try with_reducible rfl))
    simp
theorem gridPhi_zero {φ : List Nat → Int} {B : Poly} : ∀ {A : Poly}, (∀ a ∈ keysP A, ∀ b ∈ keysP B, φ (a ++ b) = 0) → gridPhi φ B A = 0
  | [], _ => rfl
  | (a, x) :: r, h => by
    ((first | rewrite [gridPhi_q0] | rewrite [gridPhi_q1]); rewrite [rowPhi_zero (h a (by simp [keysP])), gridPhi_zero (fun b hb => h b (by simp only [keysP, List.map_cons, List.mem_cons] at hb ⊢; exact .inr hb))]; (try with_reducible rfl))
    simp
end Mine
end

section
namespace Mine
inductive Tr where
  | leaf (c : Nat) : Tr
  | node (l r : Tr) : Tr
noncomputable def ltB : List Nat → List Nat → Bool
  | _, [] => false
  | [], _ :: _ => true
  | a :: r, b :: s => bif Nat.blt a b then true else bif Nat.beq a b then ltB r s else false
theorem ltB_q0 (l : List Nat) : ltB l [] = false := by cases l <;> rfl
theorem ltB_q1 (b : Nat) (s : List Nat) : ltB [] (b :: s) = true := rfl
theorem ltB_q2 (a b : Nat) (r s : List Nat) : ltB (a :: r) (b :: s) = bif Nat.blt a b then true else bif Nat.beq a b then ltB r s else false := rfl
noncomputable def fol : Tr → List Nat
  | .leaf c => [c]
  | .node l r => fol l ++ fol r
theorem fol_q0 (c : Nat) : fol (.leaf c) = [c] := rfl
theorem fol_q1 (l r : Tr) : fol (.node l r) = fol l ++ fol r := rfl
/-- in each knot the word comes before its turned one -/
noncomputable def leadT : Tr → Bool
  | .leaf _ => true
  | .node l r => ltB (fol l ++ fol r) (fol r ++ fol l) && (leadT l && leadT r)
theorem leadT_q0 (c : Nat) : leadT (.leaf c) = true := rfl
theorem leadT_q1 (l r : Tr) : leadT (.node l r) = (ltB (fol l ++ fol r) (fol r ++ fol l) && (leadT l && leadT r)) := rfl
theorem ltB_cons (a b : Nat) (r s : List Nat) : ltB (a :: r) (b :: s) = if a < b then true else if a = b then ltB r s else false := by
  ((first | rewrite [ltB_q0] | rewrite [ltB_q1] | rewrite [ltB_q2]); (try with_reducible rfl))
  by_cases h : a < b
  · rw [if_pos h, show Nat.blt a b = true from Nat.ble_eq_true_of_le h]; rfl
  · have h1 : Nat.blt a b = false := by
      cases e : Nat.blt a b with
      | true => exact absurd (Nat.le_of_ble_eq_true e) h
      | false => rfl
    rw [if_neg h, h1]
    by_cases e : a = b
    · rw [if_pos e, show Nat.beq a b = true from Nat.beq_eq ▸ e]; rfl
    · rw [if_neg e]
      cases e2 : Nat.beq a b with
      | true => exact absurd (Nat.eq_of_beq_eq_true e2) e
      | false => rfl
theorem ltB_irr : ∀ a : List Nat, ltB a a = false
  | [] => rfl
  | a :: r => by rw [ltB_cons, if_neg (Nat.lt_irrefl a), if_pos rfl, ltB_irr r]
theorem ltB_trans : ∀ {a b c : List Nat}, ltB a b = true → ltB b c = true → ltB a c = true
  | [], [], _, h, _ => by cases h
  | [], _ :: _, [], _, h => by cases h
  | [], _ :: _, _ :: _, _, _ => rfl
  | _ :: _, [], _, h, _ => by cases h
  | _ :: _, _ :: _, [], _, h => by cases h
  | a :: r, b :: s, c :: t, h1, h2 => by
    rw [ltB_cons] at h1 h2 ⊢
    by_cases e1 : a < b
    · by_cases e2 : b < c
      · rw [if_pos (by omega)]
      · rw [if_neg e2] at h2
        by_cases e3 : b = c
        · subst e3; rw [if_pos e1]
        · rw [if_neg e3] at h2; cases h2
    · rw [if_neg e1] at h1
      by_cases e3 : a = b
      · rw [if_pos e3] at h1
        subst e3
        by_cases e2 : a < c
        · rw [if_pos e2]
        · rw [if_neg e2] at h2 ⊢
          by_cases e4 : a = c
          · rw [if_pos e4] at h2 ⊢
            exact ltB_trans h1 h2
          · rw [if_neg e4] at h2; cases h2
      · rw [if_neg e3] at h1; cases h1
theorem ltB_tri : ∀ {a b : List Nat}, ltB a b = false → ltB b a = false → a = b
  | [], [], _, _ => rfl
  | [], _ :: _, h, _ => by cases h
  | _ :: _, [], _, h => by cases h
  | a :: r, b :: s, h1, h2 => by
    rw [ltB_cons] at h1 h2
    by_cases e : a = b
    · subst e
      rw [if_neg (Nat.lt_irrefl a), if_pos rfl] at h1 h2
      rw [ltB_tri h1 h2]
    · by_cases e1 : a < b
      · rw [if_pos e1] at h1; cases h1
      · rw [if_pos (by omega)] at h2; cases h2
theorem ltB_app : ∀ {a u : List Nat} (b v : List Nat), a.length = u.length → ltB (a ++ b) (u ++ v) = if ltB a u = true then true else if a = u then ltB b v else false
  | [], [], b, v, _ => by simp [ltB_q0, ltB_q1, ltB_q2]
  | [], _ :: _, b, v, h => by cases h
  | _ :: _, [], b, v, h => by cases h
  | a :: r, c :: s, b, v, h => by
    rw [List.cons_append, List.cons_append, ltB_cons, ltB_cons, ltB_app b v (Nat.succ.inj h)]
    by_cases e1 : a < c
    · simp [e1]
    · by_cases e2 : a = c
      · subst e2
        simp
      · simp [e1, e2]
theorem ltB_app_ge {a u b v : List Nat} (hl : a.length = u.length) (h1 : ltB a u = false) (h2 : ltB b v = false) : ltB (a ++ b) (u ++ v) = false := by
  rw [ltB_app b v hl, h1, h2]
  simp
/-- what is known of a sum: its words differ, the word w is there once, no word comes before it, all are of its length -/
noncomputable def GoodP (κ : Nat → Nat) (P : Poly) (w : List Nat) : Prop :=
  (keysP P).Nodup ∧ getP P w = 1 ∧ ∀ k ∈ keysP P, k.length = w.length ∧ ltB (k.map κ) (w.map κ) = false
theorem good_mul {κ : Nat → Nat} {P Q : Poly} {u v : List Nat} (hP : GoodP κ P u) (hQ : GoodP κ Q v) : GoodP κ (timesP [] Q 1 P) (u ++ v) := by
  obtain ⟨p1, p2, p3⟩ := hP
  obtain ⟨q1, q2, q3⟩ := hQ
  obtain ⟨h1, h2, h3⟩ := timesP_ok (atW (u ++ v)) Q 1 P [] List.nodup_nil
  refine ⟨h1, ?_, fun k hk => ?_⟩
  · rw [phi_at h1, gridPhi_at Q u v P (fun a ha => (p3 a ha).1), phi_at p1, phi_at q1, p2, q2] at h2
    simpa [phi_q0, phi_q1] using h2
  · rcases (h3 k).mp hk with hk | ⟨a, ha, b, hb, rfl⟩
    · simp [keysP] at hk
    · refine ⟨by rw [List.length_append, List.length_append, (p3 a ha).1, (q3 b hb).1], ?_⟩
      rw [List.map_append, List.map_append]
      exact ltB_app_ge (by rw [List.length_map, List.length_map, (p3 a ha).1]) (p3 a ha).2 (q3 b hb).2
theorem good_knot {κ : Nat → Nat} {P Q : Poly} {u v : List Nat} (hP : GoodP κ P u) (hQ : GoodP κ Q v) (hlt : ltB ((u ++ v).map κ) ((v ++ u).map κ) = true) :
    GoodP κ (timesP (timesP [] Q 1 P) P (-1) Q) (u ++ v) := by
  have hg := good_mul hP hQ
  obtain ⟨g1, g2, g3⟩ := hg
  obtain ⟨p1, p2, p3⟩ := hP
  obtain ⟨q1, q2, q3⟩ := hQ
  have hba : ∀ b ∈ keysP Q, ∀ a ∈ keysP P, ltB ((b ++ a).map κ) ((v ++ u).map κ) = false := fun b hb a ha => by
    rw [List.map_append, List.map_append]
    exact ltB_app_ge (by rw [List.length_map, List.length_map, (q3 b hb).1]) (q3 b hb).2 (p3 a ha).2
  obtain ⟨h1, h2, h3⟩ := timesP_ok (atW (u ++ v)) P (-1) Q (timesP [] Q 1 P) g1
  refine ⟨h1, ?_, fun k hk => ?_⟩
  · rw [phi_at h1, phi_at g1, g2, gridPhi_zero (fun b hb a ha => by
      have hne : b ++ a ≠ u ++ v := fun e => by
        have := hba b hb a ha
        rw [e, hlt] at this
        cases this
      simp [atW, hne])] at h2
    simpa using h2
  · rcases (h3 k).mp hk with hk | ⟨b, hb, a, ha, rfl⟩
    · exact g3 k hk
    · refine ⟨by rw [List.length_append, List.length_append, (p3 a ha).1, (q3 b hb).1, Nat.add_comm], ?_⟩
      cases e : ltB ((b ++ a).map κ) ((u ++ v).map κ) with
      | false => rfl
      | true =>
        have := hba b hb a ha
        rw [ltB_trans e hlt] at this
        cases this
noncomputable def polyT (sg : Nat → Nat) : Tr → Poly
  | .leaf c => [([sg c], 1)]
  | .node l r => timesP (timesP [] (polyT sg r) 1 (polyT sg l)) (polyT sg l) (-1) (polyT sg r)
theorem polyT_q0 (sg : Nat → Nat) (c : Nat) : polyT sg (.leaf c) = [([sg c], 1)] := rfl
theorem polyT_q1 (sg : Nat → Nat) (l r : Tr) : polyT sg (.node l r) = timesP (timesP [] (polyT sg r) 1 (polyT sg l)) (polyT sg l) (-1) (polyT sg r) := rfl
noncomputable def wholeP (sg : Nat → Nat) (P : Poly) : List Tr → Poly
  | [] => P
  | t :: r => wholeP sg (timesP [] (polyT sg t) 1 P) r
theorem wholeP_q0 (sg : Nat → Nat) (P : Poly) : wholeP sg P [] = P := rfl
theorem wholeP_q1 (sg : Nat → Nat) (P : Poly) (t : Tr) (r : List Tr) : wholeP sg P (t :: r) = wholeP sg (timesP [] (polyT sg t) 1 P) r := rfl
theorem good_tree {κ sg : Nat → Nat} : ∀ t : Tr, leadT t = true → (∀ c ∈ fol t, κ (sg c) = c) → GoodP κ (polyT sg t) ((fol t).map sg)
  | .leaf c, _, hc => by
    refine ⟨by simp [polyT_q0, polyT_q1, keysP], by simp [polyT_q0, polyT_q1, getP_q0, getP_q1, fol_q0, fol_q1], fun k hk => ?_⟩
    simp only [polyT_q0, polyT_q1, keysP, List.map_cons, List.map_nil, List.mem_singleton] at hk
    subst hk
    exact ⟨rfl, ltB_irr _⟩
  | .node l r, h, hc => by
    have h' : ltB (fol l ++ fol r) (fol r ++ fol l) = true ∧ leadT l = true ∧ leadT r = true := by simpa [leadT_q0, leadT_q1] using h
    have e : ∀ t : List Nat, (∀ c ∈ t, κ (sg c) = c) → (t.map sg).map κ = t := fun t ht => by
      rw [List.map_map]
      exact (List.map_congr_left fun c hc => ht c hc).trans (List.map_id t)
    have hl : ∀ c ∈ fol l, κ (sg c) = c := fun c h => hc c (List.mem_append_left _ h)
    have hr : ∀ c ∈ fol r, κ (sg c) = c := fun c h => hc c (List.mem_append_right _ h)
    have := good_knot (good_tree l h'.2.1 hl) (good_tree r h'.2.2 hr) (by
      rw [List.map_append, List.map_append, e _ hl, e _ hr]
      exact h'.1)
    simpa [polyT_q0, polyT_q1, fol_q0, fol_q1] using this
theorem good_whole {κ sg : Nat → Nat} : ∀ (ts : List Tr) (P : Poly) (w : List Nat), GoodP κ P w → (∀ t ∈ ts, leadT t = true ∧ ∀ c ∈ fol t, κ (sg c) = c) → GoodP κ (wholeP sg P ts) (w ++ (ts.flatMap fol).map sg)
  | [], P, w, h, _ => by simpa [wholeP_q0, wholeP_q1] using h
  | t :: r, P, w, h, ht => by
    obtain ⟨h1, h2⟩ := ht t (.head _)
    have := good_whole r _ _ (good_mul h (good_tree t h1 h2)) fun t' h' => ht t' (.tail _ h')
    simpa [wholeP_q0, wholeP_q1] using this
noncomputable def isLeaf : Tr → Bool
  | .leaf _ => true
  | .node _ _ => false
theorem sum_mul {P Q : Poly} : phi one1 (timesP [] Q 1 P) = phi one1 P * phi one1 Q := by
  obtain ⟨h1, h2, h3⟩ := timesP_ok one1 Q 1 P [] List.nodup_nil
  rw [h2, gridPhi_one]
  simp [phi_q0, phi_q1]
theorem sum_knot {P Q : Poly} : phi one1 (timesP (timesP [] Q 1 P) P (-1) Q) = 0 := by
  obtain ⟨h1, h2, h3⟩ := timesP_ok one1 Q 1 P [] List.nodup_nil
  obtain ⟨g1, g2, g3⟩ := timesP_ok one1 P (-1) Q _ h1
  rw [g2, h2, gridPhi_one, gridPhi_one]
  simp only [phi_q0, phi_q1]
  rw [Int.mul_comm (phi one1 Q)]
  omega
theorem sum_tree (sg : Nat → Nat) : ∀ t : Tr, phi one1 (polyT sg t) = if isLeaf t then 1 else 0
  | .leaf c => by simp [polyT_q0, polyT_q1, phi_q0, phi_q1, isLeaf]
  | .node l r => by ((first | rewrite [polyT_q0] | rewrite [polyT_q1]); rewrite [sum_knot]; (try with_reducible rfl)); rfl
theorem sum_whole (sg : Nat → Nat) : ∀ (ts : List Tr) (P : Poly), phi one1 (wholeP sg P ts) = phi one1 P * if ts.all isLeaf then 1 else 0
  | [], P => by simp [wholeP_q0, wholeP_q1]
  | t :: r, P => by
    ((first | rewrite [wholeP_q0] | rewrite [wholeP_q1]); rewrite [sum_whole sg r, sum_mul, sum_tree, List.all_cons]; (try with_reducible rfl))
    cases isLeaf t <;> cases r.all isLeaf <;> simp
end Mine
end

section
open PySem PySem.W PyProof.Rows PyProof.V PySem.Spec
namespace Mine
set_option maxRecDepth 100000
set_option maxHeartbeats 8000000
theorem px_canLayAll0 : ∀ ns : List Str, (∀ x ∈ ns, PyData.strOk x = true) → PyData.canLayAll0 (ns.map PyData.str) = true
  | [], _ => rfl
  | x :: r, h => by simp [PyData.canLayAll0, PyData.canLay0, px_canLayAll0 r fun y hy => h y (.tail _ hy), h x (.head _)]
theorem px_depthAll : ∀ ns : List Str, PyData.depthAll (ns.map PyData.str) = 0
  | [] => rfl
  | _ :: r => by simp [PyData.depthAll, PyData.depth, px_depthAll r]
theorem px_shaped (ns : List Str) (h : ∀ x ∈ ns, PyData.strOk x = true) : SeqAt.shaped (.list (ns.map PyData.str)) = true := by
  simp [SeqAt.shaped, PyData.canLay0, PyData.depth, px_canLayAll0 ns h, px_depthAll]
theorem px_same (ns : List Str) : PySem.Spec.same (.list (ns.map PyData.str)) (.list []) = ns.isEmpty := by
  cases ns <;> simp [PySem.Spec.same, PySem.Spec.sameAll]
theorem strOk_app {x y : Str} (hx : PyData.strOk x = true) (hy : PyData.strOk y = true) : PyData.strOk (x ++ y) = true := by
  unfold PyData.strOk at *
  rw [Str.cps_append, Array.all_append, hx, hy]
  rfl
section
variable {prog : Program} {w : World} {A : Around} {E : Value → Shared → Prop} {s : Shared} {h₀ : Heap} {L a b : Addr} {news : List (Addr × Obj)} {vs : List Value} {xs : List Str} {n k : Nat} {Q : Value → Shared → Prop}
theorem my_ne_nil (N : News h₀ L s.heap news) (ha : (a, listOf vs.toArray n) ∈ news) (hb : (b, listOf ([] : List Value).toArray k) ∈ news) (hi : StrsAre vs xs) (hok : ∀ x ∈ xs, PyData.strOk x = true) (hu : A.units + 64 < cLine) (h : Q (.bool (!vs.isEmpty)) s) :
    wpAny (model prog w) A (compareOp .NotEq (.ref a) (.ref b)) Q E s := by
  have e : xs.isEmpty = vs.isEmpty := by cases hi <;> rfl
  exact ne_dataH_same (reads_newData (N.isList ha) hi.carried) (reads_newData (ys := []) (N.isList hb) .nil) (px_shaped xs hok) (px_shaped [] fun x hx => absurd hx List.not_mem_nil) hu (SeqAt.noMix_of_shape (.list .str) rfl _ _ (list_map_has fun _ => rfl) (list_map_has (l := ([] : List Str)) (g := PyData.str) fun _ => rfl)) (by rw [px_same, e]; exact h)
end
end Mine
end

section
open PySem PySem.W PyProof.Rows PyProof.V PySem.Spec PySem.Calls PyProof.Rows.LCg
namespace Mine
set_option maxRecDepth 100000
set_option maxHeartbeats 8000000
/-! dicts of unknown ints under str keys: a sum as a dict; the loop over a dict -/
theorem str_eq {x y : Str} : x = y ↔ x.cps.toList = y.cps.toList := by
  cases x; cases y
  simp [Array.toList_inj]
inductive PIs : List (Str × Value) → Poly → Prop
  | nil : PIs [] []
  | cons {x : Str} {k : Int} {t : Tok} {kvs : List (Str × Value)} {P : Poly} : PIs kvs P → PIs ((x, .int k t) :: kvs) ((x.cps.toList, k) :: P)
theorem PIs.len {kvs : List (Str × Value)} {P : Poly} (h : PIs kvs P) : kvs.length = P.length := by
  induction h with
  | nil => rfl
  | cons _ ih => simp [ih]
theorem PIs.val {kvs : List (Str × Value)} {P : Poly} (h : PIs kvs P) (x : Str) : (∃ t, valueAt kvs x = some (.int (getP P x.cps.toList) t)) ∨ (valueAt kvs x = none ∧ getP P x.cps.toList = 0) := by
  induction h with
  | nil => exact .inr ⟨rfl, rfl⟩
  | @cons y k t kvs P _ ih =>
    by_cases e : y = x
    · subst e
      exact .inl ⟨t, by simp [valueAt, getP_q0, getP_q1]⟩
    · have e' : ¬ y.cps.toList = x.cps.toList := fun h => e (str_eq.mpr h)
      have h1 : valueAt ((y, Value.int k t) :: kvs) x = valueAt kvs x := by simp [valueAt, e]
      (rewrite [h1]; (first | rewrite [getP_q0] | rewrite [getP_q1]); rewrite [if_neg e']; (try with_reducible rfl))
      exact ih
theorem PIs.mem {kvs : List (Str × Value)} {P : Poly} (h : PIs kvs P) (x : Str) (hx : x.cps.toList ∈ keysP P) : ∃ t, valueAt kvs x = some (.int (getP P x.cps.toList) t) := by
  induction h with
  | nil => simp [keysP] at hx
  | @cons y k t kvs P _ ih =>
    by_cases e : y = x
    · subst e
      exact ⟨t, by simp [valueAt, getP_q0, getP_q1]⟩
    · have e' : ¬ y.cps.toList = x.cps.toList := fun h => e (str_eq.mpr h)
      have h1 : valueAt ((y, Value.int k t) :: kvs) x = valueAt kvs x := by simp [valueAt, e]
      (rewrite [h1]; (first | rewrite [getP_q0] | rewrite [getP_q1]); rewrite [if_neg e']; (try with_reducible rfl))
      refine ih ?_
      rcases List.mem_cons.mp hx with h | h
      · exact absurd h.symm e'
      · exact h
theorem PIs.any {kvs : List (Str × Value)} {P : Poly} (h : PIs kvs P) (x : Str) : kvs.any (fun kv => kv.1 = x) = decide (x.cps.toList ∈ keysP P) := by
  induction h with
  | nil => simp [keysP]
  | @cons y k t kvs P _ ih =>
    rw [List.any_cons, ih]
    simp only [keysP, List.map_cons, List.mem_cons]
    by_cases e : y = x
    · simp [e]
    · have e' : ¬ x.cps.toList = y.cps.toList := fun h => e (str_eq.mpr h.symm)
      rw [decide_eq_false e, Bool.false_or]
      exact decide_eq_decide.mpr ⟨.inr, fun h => h.resolve_left e'⟩
theorem PIs.app {kvs : List (Str × Value)} {P : Poly} (h : PIs kvs P) (x : Str) (v : Int) (t : Tok) : PIs (kvs ++ [(x, .int v t)]) (P ++ [(x.cps.toList, v)]) := by
  induction h with
  | nil => exact .cons .nil
  | cons _ ih => exact .cons ih
theorem PIs.map {kvs : List (Str × Value)} {P : Poly} (h : PIs kvs P) (x : Str) (v : Int) (t : Tok) : PIs (kvs.map (fun kv => if kv.1 = x then (kv.1, .int v t) else kv)) (P.map fun p => if p.1 = x.cps.toList then (p.1, v) else p) := by
  induction h with
  | nil => exact .nil
  | @cons y k t' kvs P _ ih =>
    rw [List.map_cons, List.map_cons]
    by_cases e : y = x
    · subst e
      rw [if_pos rfl, if_pos rfl]
      exact .cons ih
    · have e' : ¬ y.cps.toList = x.cps.toList := fun h => e (str_eq.mpr h)
      rw [if_neg e, if_neg e']
      exact .cons ih
theorem setP_notin {S : Poly} {k : List Nat} {v : Int} (h : k ∉ keysP S) : setP S k v = S ++ [(k, v)] := by
  induction S with
  | nil => rfl
  | cons p r ih =>
    obtain ⟨a, x⟩ := p
    have h' : k ≠ a ∧ k ∉ keysP r := by simpa [keysP] using h
    ((first | rewrite [setP_q0] | rewrite [setP_q1]); rewrite [if_neg (Ne.symm h'.1), ih h'.2]; (try with_reducible rfl))
    rfl
theorem map_notin {S : Poly} {k : List Nat} {v : Int} (h : k ∉ keysP S) : (S.map fun p => if p.1 = k then (p.1, v) else p) = S := by
  induction S with
  | nil => rfl
  | cons p r ih =>
    obtain ⟨a, x⟩ := p
    have h' : k ≠ a ∧ k ∉ keysP r := by simpa [keysP] using h
    rw [List.map_cons, if_neg (Ne.symm h'.1), ih h'.2]
theorem setP_in {S : Poly} {k : List Nat} {v : Int} (hn : (keysP S).Nodup) (h : k ∈ keysP S) : setP S k v = S.map fun p => if p.1 = k then (p.1, v) else p := by
  induction S with
  | nil => simp [keysP] at h
  | cons p r ih =>
    obtain ⟨a, x⟩ := p
    have h1 : a ∉ keysP r := (List.nodup_cons.mp hn).1
    ((first | rewrite [setP_q0] | rewrite [setP_q1]); rewrite [List.map_cons]; (try with_reducible rfl))
    by_cases e : a = k
    · rw [if_pos e, if_pos e]
      subst e
      rw [map_notin h1]
    · rw [if_neg e, if_neg e]
      rw [ih (List.nodup_cons.mp hn).2]
      have h' : k = a ∨ k ∈ keysP r := by simpa [keysP] using h
      rcases h' with h | h
      · exact absurd h.symm e
      · exact h
theorem PIs.set {kvs : List (Str × Value)} {P : Poly} (h : PIs kvs P) (hn : (keysP P).Nodup) (x : Str) (v : Int) (t : Tok) : PIs (stored kvs x (.int v t)) (setP P x.cps.toList v) := by
  unfold stored
  rw [h.any x]
  by_cases e : x.cps.toList ∈ keysP P
  · rw [decide_eq_true e, if_pos rfl, setP_in hn e]
    exact h.map x v t
  · rw [decide_eq_false e, if_neg Bool.false_ne_true, setP_notin e]
    exact h.app x v t
theorem PIs.at {kvs : List (Str × Value)} {P : Poly} (h : PIs kvs P) : ∀ (i : Nat) (x : Str) (y : Value), kvs[i]? = some (x, y) → ∃ k t, y = .int k t ∧ P[i]? = some (x.cps.toList, k) := by
  induction h with
  | nil => intro i x y e; simp at e
  | cons _ ih =>
    intro i x y e
    cases i with
    | zero =>
      have := Option.some.inj e
      cases this
      exact ⟨_, _, rfl, rfl⟩
    | succ i => exact ih i x y (by simpa using e)
theorem PIs.nodup {kvs : List (Str × Value)} {P : Poly} (h : PIs kvs P) (hn : (kvs.map (·.1)).Nodup) : (keysP P).Nodup := by
  induction h with
  | nil => exact List.nodup_nil
  | @cons y k t kvs P hp ih =>
    have h1 := List.nodup_cons.mp hn
    refine List.nodup_cons.mpr ⟨fun hm => h1.1 ?_, ih h1.2⟩
    have := hp.any y
    rw [show decide (y.cps.toList ∈ keysP P) = true from decide_eq_true hm] at this
    obtain ⟨kv, hkv, e⟩ := List.any_eq_true.mp this
    exact List.mem_map.mpr ⟨kv, hkv, by simpa using e⟩
theorem isDict_nodup {prog : Program} {w : World} {o : Obj} {kvs : List (Str × Value)} (h : o.IsDictOf (PySem.strKind prog w) kvs) : (kvs.map (·.1)).Nodup := by
  obtain ⟨_, _, _, _, _, _, h⟩ := h
  exact h
/-- how large a sum is: its words, and its numbers together -/
noncomputable def nrm : Poly → Nat
  | [] => 0
  | (_, x) :: r => x.natAbs + nrm r
theorem nrm_q0 : nrm [] = 0 := rfl
theorem nrm_q1 (a : List Nat) (x : Int) (r : Poly) : nrm ((a, x) :: r) = x.natAbs + nrm r := rfl
theorem nrm_set (S : Poly) (k : List Nat) (d : Int) : nrm (setP S k (getP S k + d)) ≤ nrm S + d.natAbs := by
  induction S with
  | nil => simp [setP_q0, setP_q1, getP_q0, getP_q1, nrm_q0, nrm_q1]
  | cons p r ih =>
    obtain ⟨a, x⟩ := p
    ((first | rewrite [setP_q0] | rewrite [setP_q1]); (first | rewrite [getP_q0] | rewrite [getP_q1]); (try with_reducible rfl))
    by_cases e : a = k
    · rw [if_pos e, if_pos e]
      show (x + d).natAbs + nrm r ≤ x.natAbs + nrm r + d.natAbs
      rw [Nat.add_right_comm]
      exact Nat.add_le_add_right (Int.natAbs_add_le x d) _
    · rw [if_neg e, if_neg e]
      simp only [nrm_q0, nrm_q1]
      lia
theorem len_set (S : Poly) (k : List Nat) (v : Int) : (setP S k v).length ≤ S.length + 1 := by
  induction S with
  | nil => simp [setP_q0, setP_q1]
  | cons p r ih =>
    obtain ⟨a, x⟩ := p
    ((first | rewrite [setP_q0] | rewrite [setP_q1]); (try with_reducible rfl))
    by_cases e : a = k
    · rw [if_pos e]; simp
    · rw [if_neg e]; simp only [List.length_cons]; lia
theorem rowTimes_sz (a : List Nat) (x f : Int) (hf : f.natAbs ≤ 1) : ∀ (B S : Poly), (rowTimes S a x f B).length ≤ S.length + B.length ∧ nrm (rowTimes S a x f B) ≤ nrm S + x.natAbs * nrm B
  | [], S => ⟨Nat.le_refl _, Nat.le_add_right _ _⟩
  | (b, y) :: r, S => by
    obtain ⟨h1, h2⟩ := rowTimes_sz a x f hf r (setP S (a ++ b) (getP S (a ++ b) + f * x * y))
    have h3 := len_set S (a ++ b) (getP S (a ++ b) + f * x * y)
    have h4 := nrm_set S (a ++ b) (f * x * y)
    have h5 : (f * x * y).natAbs ≤ x.natAbs * y.natAbs := by
      rw [Int.natAbs_mul, Int.natAbs_mul]
      calc f.natAbs * x.natAbs * y.natAbs ≤ 1 * x.natAbs * y.natAbs := Nat.mul_le_mul_right _ (Nat.mul_le_mul_right _ hf)
        _ = _ := by rw [Nat.one_mul]
    refine ⟨?_, ?_⟩
    · ((first | rewrite [rowTimes_q0] | rewrite [rowTimes_q1]); (try with_reducible rfl)); simp only [List.length_cons]; lia
    · ((first | rewrite [rowTimes_q0] | rewrite [rowTimes_q1]); (try with_reducible rfl))
      simp only [nrm_q0, nrm_q1, Nat.mul_add]
      lia
theorem timesP_sz (B : Poly) (f : Int) (hf : f.natAbs ≤ 1) : ∀ (A S : Poly), (timesP S B f A).length ≤ S.length + A.length * B.length ∧ nrm (timesP S B f A) ≤ nrm S + nrm A * nrm B
  | [], S => ⟨Nat.le_add_right _ _, Nat.le_add_right _ _⟩
  | (a, x) :: r, S => by
    obtain ⟨h1, h2⟩ := rowTimes_sz a x f hf B S
    obtain ⟨h3, h4⟩ := timesP_sz B f hf r (rowTimes S a x f B)
    refine ⟨?_, ?_⟩
    · ((first | rewrite [timesP_q0] | rewrite [timesP_q1]); (try with_reducible rfl))
      simp only [List.length_cons, Nat.add_mul, Nat.one_mul]
      lia
    · ((first | rewrite [timesP_q0] | rewrite [timesP_q1]); (try with_reducible rfl))
      simp only [nrm_q0, nrm_q1, Nat.add_mul]
      lia
theorem nrm_at {P : Poly} {w : List Nat} {k : Int} : ∀ i : Nat, P[i]? = some (w, k) → k.natAbs ≤ nrm P := by
  induction P with
  | nil => intro i e; simp at e
  | cons p r ih =>
    intro i e
    cases i with
    | zero => have := Option.some.inj e; subst this; simp only [nrm_q0, nrm_q1]; lia
    | succ i => have := ih i (by simpa using e); obtain ⟨a, x⟩ := p; simp only [nrm_q0, nrm_q1]; lia
theorem get_at {P : Poly} {w : List Nat} {k : Int} (hn : (keysP P).Nodup) : ∀ i : Nat, P[i]? = some (w, k) → getP P w = k ∧ w ∈ keysP P := by
  induction P with
  | nil => intro i e; simp at e
  | cons p r ih =>
    obtain ⟨a, x⟩ := p
    intro i e
    cases i with
    | zero =>
      have := Option.some.inj e
      cases this
      exact ⟨by ((first | rewrite [getP_q0] | rewrite [getP_q1]); rewrite [if_pos rfl]; (try with_reducible rfl)), by simp [keysP]⟩
    | succ i =>
      obtain ⟨h1, h2⟩ := ih (List.nodup_cons.mp hn).2 i (by simpa using e)
      have hne : a ≠ w := fun h => (List.nodup_cons.mp hn).1 (h ▸ h2)
      exact ⟨by ((first | rewrite [getP_q0] | rewrite [getP_q1]); rewrite [if_neg hne, h1]; (try with_reducible rfl)), by simp only [keysP, List.map_cons, List.mem_cons]; exact .inr h2⟩
section
variable {prog : Program} {w : World} {A : Around} {env : Env} {h₀ h : Heap} {L : Addr} {g : Array GenState} {dr : Drawn} {tk : Nat} {os : OsState} {m : Str → Option Value} {news : List (Addr × Obj)}
theorem my_dict {E : Value → Shared → Prop} {Q : Flow → Shared → Prop} {x : Str} {px : Pos} {body : List Stmt} {d : Addr} {o : Obj} {kvs : List (Str × Value)} (J : Nat → (Str → Option Value) → List (Addr × Obj) → Prop)
    (hh : A.handled = none) (hx : env.kindOf x = some .local) (hp : (env.scope.kind == .class || (env.scope.kind == .module && env.locals != env.globals)) = false)
    (lo : (d == sysModules) = false) (hm : (d, o) ∈ news) (hd : o.IsDictOf (PySem.strKind prog w) kvs) (F : Fr h₀ env.locals h m) (N : News h₀ env.locals h news) (htk : 1 ≤ tk) (h0 : J 0 m news)
    (turn : ∀ (i : Nat) (k : Str) (t : Tok) (y : Value) m₁ news₁ h₁ tk₁ I it, kvs[i]? = some (k, y) → 1 ≤ tk₁ → Fr h₀ env.locals h₁ (fun z => if z = x then some (.str k t) else m₁ z) → News h₀ env.locals h₁ ((I, it) :: news₁) → (∀ p ∈ news₁, p.1 ≠ I) → (d, o) ∈ news₁ → J i m₁ news₁ →
      wpAny (model prog w) A (execs body env) (FPost h₀ env.locals g dr os I it [(d, o)] (J (i + 1)) Q) (fun _ _ => False) ⟨h₁, g, dr, tk₁, os⟩)
    (done : ∀ h' tk' m' news', 1 ≤ tk' → Fr h₀ env.locals h' m' → News h₀ env.locals h' news' → (d, o) ∈ news' → J kvs.length m' news' → Q .next ⟨h', g, dr, tk', os⟩) :
    wpAny (model prog w) A (pyIter (.ref d)) (fun it s₂ => ForAt prog w A env x px body Q it s₂) E ⟨h, g, dr, tk, os⟩ := by
  obtain ⟨ep, hat⟩ := (kda_dict (s := ⟨h, g, dr, tk, os⟩) N hm hd).dictAt
  have hlt : d < h.objs.size := Heap.lt_size (N _ hm).1
  refine wpAny_pyIter_dict (s := ⟨h, g, dr, tk, os⟩) lo hat ?_
  have W := Walks.dictKeys (prog := prog) (w := w) (knd := PySem.strKind prog w) hh h.objs.size d (Nat.ne_of_lt hlt) kvs ep
  refine for_core [(d, o)] J W hx hp ?_ (next_is_new F) (Nat.ne_of_gt F.ns.lt) (fun i h st => ⟨_, st.1.choose_spec.1⟩) (F.push _) (fun p hp => ⟨Heap.get?_push_of_some _ (N p hp).1, (N p hp).2⟩) htk ⟨⟨_, Heap.get?_push_size _ rfl, rfl, rfl⟩, hat.push _⟩ (fun p hp => Nat.ne_of_lt (Heap.lt_size (N p hp).1)) (fun p hp => by rw [List.mem_singleton.mp hp]; exact hm) h0 ?_ ?_
  · intro b hb
    rcases List.mem_cons.mp hb with e | hb
    · exact .inl e
    · exact .inr ⟨_, by rw [List.mem_singleton.mp hb]; exact .head _⟩
  · rintro i v m₁ news₁ h₁ tk₁ it hi ⟨k, y, hk, hv⟩ ht F₁ N₁ hn hks hJ
    obtain ⟨t, rfl⟩ := Value.isStrOf_shape hv
    exact turn i k t y m₁ news₁ h₁ tk₁ _ it hk ht F₁ N₁ hn (hks _ (.head _)) hJ
  · intro h' tk' m' news' ht F' N' hks hJ
    exact done h' tk' m' news' ht F' N' (hks _ (.head _)) hJ
end
section
variable {prog : Program} {w : World} {A : Around} {E : Value → Shared → Prop} {s : Shared} {env : Env}
variable {elt i1 : PySem.Expr} {ifs : List PySem.Expr} {x : Str} {px : Pos} {scope : Scope} {pos : Pos} {cl : List (Str × Addr)} {h₀ : Heap} {L : Addr} {m : Str → Option Value} {Q : Value → Shared → Prop} {news : List (Addr × Obj)}
theorem my_comp_dict {E₂ : Value → Shared → Prop} {d : Addr} {o : Obj} {kvs : List (Str × Value)} (J : Nat → List Value → List (Addr × Obj) → Prop)
    (hh : A.handled = none) (hcell : ∀ y ∈ scope.names, y.2 ≠ .cell) (hkind : scope.kind = .function) (hx : scope.names.lookup x = some .local)
    (lo : (d == sysModules) = false) (hm : (d, o) ∈ news) (hd : o.IsDictOf (PySem.strKind prog w) kvs) (F : Fr h₀ L s.heap m) (N : News h₀ L s.heap news) (h0 : J 0 [] news) (hlen : ∀ i ys news, J i ys news → ys.length ≤ 1000)
    (hT : ∀ (i : Nat) (k : Str) (t : Tok) (y : Value) h tk, kvs[i]? = some (k, y) → 1 ≤ tk → Turn1 prog w A h₀ L m env elt ifs x scope cl [(d, o)] J i (.str k t) { s with heap := h, toks := tk })
    (hF : ∀ ys news', J kvs.length ys news' → FinE h₀ L m s Q ys news') :
    wpAny (model prog w) A (pyIter (.ref d)) (fun it s₂ => CompAt prog w A env elt i1 ifs x px scope pos cl E Q it s₂) E₂ s := by
  obtain ⟨ep, hat⟩ := (kda_dict N hm hd).dictAt
  have hlt : d < s.heap.objs.size := Heap.lt_size (N _ hm).1
  refine wpAny_pyIter_dict lo hat ?_
  have W := Walks.dictKeys (prog := prog) (w := w) (knd := PySem.strKind prog w) hh s.heap.objs.size d (Nat.ne_of_lt hlt) kvs ep
  exact comp_core (s := { s with heap := s.heap.push { cls := .type "dict_keyiterator", data := .fields #[.ref d, .int 0 0, .int kvs.length 0, .int ep 0] } }) [(d, o)] J W (fun i h st => ⟨_, st.1.choose_spec.1⟩) (fun b hb => by
      rcases List.mem_cons.mp hb with e | hb
      · exact .inl e
      · exact .inr ⟨_, by rw [List.mem_singleton.mp hb]; exact .head _⟩) hcell hkind hx ⟨⟨_, Heap.get?_push_size _ rfl, rfl, rfl⟩, hat.push _⟩
    (F.push _) (fun p hp => ⟨Heap.get?_push_of_some _ (N p hp).1, (N p hp).2⟩) (Nat.ne_of_lt F.ns.lt) (next_is_new F) (fun p hp => Nat.ne_of_lt (Heap.lt_size (N p hp).1)) (fun p hp => by rw [List.mem_singleton.mp hp]; exact hm) h0 hlen
    (fun i v h tk _ hP ht => by
      obtain ⟨k, y, hk, hv⟩ := hP
      obtain ⟨t, rfl⟩ := Value.isStrOf_shape hv
      exact hT i k t y h tk hk ht) hF
end
end Mine
end

section
open PySem PySem.W PyProof.Rows
namespace Mine
/-! what the symbols of a page do to the pile (its topmost first) -/
/-- two sums that may be joined -/
noncomputable def Fit (A B : Poly) : Prop := A.length * B.length ≤ 400 ∧ nrm A ≤ 1000000 ∧ nrm B ≤ 1000000 ∧ (∀ a ∈ keysP A, a.length ≤ 5) ∧ (∀ b ∈ keysP B, b.length ≤ 5)
inductive Whl : List Poly → Poly → Poly → Prop
  | nil {W : Poly} : Whl [] W W
  | cons {P W X : Poly} {r : List Poly} : Fit W P → Whl r (timesP [] P 1 W) X → Whl (P :: r) W X
noncomputable def sgV : Nat → Nat
  | 0 => 13
  | 1 => 38
  | 2 => 60
  | _ => 62
inductive Val : List Nat → List Poly → Nat → Bool → Poly → Prop
  | done {W : Poly} {nm : Nat} {e : Bool} : Val [] [W] nm e W
  | name {n nm : Nat} {e : Bool} {r : List Nat} {st : List Poly} {W : Poly} : 256 ≤ n → Val r st n e W → Val (n :: r) st nm e W
  | push {k nm : Nat} {e : Bool} {r : List Nat} {st : List Poly} {W : Poly} : k < 4 → nm = 258 + k → Val r ([([sgV k], 1)] :: st) nm e W → Val (247 :: r) st nm e W
  | slash {nm : Nat} {e : Bool} {r : List Nat} {st : List Poly} {W : Poly} : Val r st nm true W → Val (251 :: r) st nm e W
  | skip {n nm : Nat} {e : Bool} {r : List Nat} {st : List Poly} {W : Poly} : (n = 253 ∨ n = 254) ∨ (n = 255 ∧ e = false) → Val r st nm e W → Val (n :: r) st nm e W
  | knot {r : List Nat} {A B : Poly} {st : List Poly} {W : Poly} : Fit A B → Val r (timesP (timesP [] B 1 A) A (-1) B :: st) 256 false W → Val (255 :: r) (B :: A :: st) 256 true W
  | root {r : List Nat} {st : List Poly} {V W : Poly} : Whl st.reverse [([], 1)] V → Val r [V] 257 false W → Val (255 :: r) st 257 true W
inductive Stk {α : Type} (f : α → Value → Prop) : List Value → List α → Prop
  | nil : Stk f [] []
  | snoc {vs : List Value} {st : List α} {p : α} {v : Value} : Stk f vs st → f p v → Stk f (vs ++ [v]) (p :: st)
theorem Stk.len {α : Type} {f : α → Value → Prop} {vs : List Value} {st : List α} (h : Stk f vs st) : vs.length = st.length := by
  induction h with
  | nil => rfl
  | snoc _ _ ih => rw [List.length_append, ih]; rfl
theorem Stk.mono {α : Type} {f g : α → Value → Prop} {vs : List Value} {st : List α} (h : Stk f vs st) (hfg : ∀ p v, f p v → g p v) : Stk g vs st := by
  induction h with
  | nil => exact .nil
  | snoc _ h2 ih => exact .snoc ih (hfg _ _ h2)
theorem Stk.at {α : Type} {f : α → Value → Prop} {vs : List Value} {st : List α} (h : Stk f vs st) : ∀ (i : Nat) (v : Value), vs[i]? = some v → ∃ p, st.reverse[i]? = some p ∧ f p v := by
  induction h with
  | nil => intro i v e; simp at e
  | @snoc vs st p v hs hf ih =>
    intro i u e
    rw [List.reverse_cons]
    have hl := hs.len
    by_cases hi : i < vs.length
    · rw [List.getElem?_append_left hi] at e
      obtain ⟨q, h1, h2⟩ := ih i u e
      exact ⟨q, by rw [List.getElem?_append_left (by rw [List.length_reverse]; omega)]; exact h1, h2⟩
    · rw [List.getElem?_append_right (by omega)] at e
      have : i - vs.length = 0 := by
        have := (List.getElem?_eq_some_iff.mp e).1
        simp at this
        omega
      rw [this] at e
      have e' : v = u := by simpa using e
      subst e'
      refine ⟨p, ?_, hf⟩
      rw [List.getElem?_append_right (by rw [List.length_reverse]; omega), List.length_reverse, ← hl, this]
      rfl
noncomputable abbrev SK (w : World) := PySem.strKind PySem.Challenge.rw_uc0067_01.row.prog w
/-- a value that is a dict of the ledger that bears a sum -/
noncomputable def DIs (w : World) (l : List (Addr × Obj)) (P : Poly) (v : Value) : Prop := ∃ (a : Nat) (o : Obj) (kvs : List (Str × Value)), v = .ref a ∧ (a, o) ∈ l ∧ (a == sysModules) = false ∧ o.IsDictOf (SK w) kvs ∧ PIs kvs P
theorem DIs.mono {w : World} {l l' : List (Addr × Obj)} {P : Poly} {v : Value} (h : DIs w l P v) (hs : ∀ q ∈ l, q ∈ l') : DIs w l' P v := by
  obtain ⟨a, o, kvs, h1, h2, h3⟩ := h
  exact ⟨a, o, kvs, h1, hs _ h2, h3⟩
end Mine
end

section
open PySem PySem.W PyProof.Rows PySem.Spec PySem.Calls
namespace Mine
set_option maxRecDepth 100000
set_option maxHeartbeats 8000000
/-! the token table, seen as a dict; pieces of a text; the index of a str in a list -/
noncomputable def tokK (w : World) : List (Str × Value) := match (hd.heap_39 w.params).lookup 283 with
  | some ⟨_, _, .dict es _, _⟩ => kvsOf es.toList
  | _ => []
theorem tok_at {w : World} {h : Heap} (X : (hd.heap_39 w.params).In h) : ∃ n, h.DictAt (PySem.strKind PySem.Challenge.rw_uc0067_01.row.prog w) 283 (tokK w) n :=
  ⟨_, dictAt_K X (by rfl) (by k_keys) (of_decide_eq_true (by kernel_rfl))⟩
theorem slice_clip {x : Str} {i j : Int} (h0 : 0 ≤ i) (h1 : (x.length : Int) ≤ j) : Txt.slice x (some i) (some j) = Txt.slice x (some i) (some (x.length : Int)) := by
  have e : PySem.Builtin.Str.strSliceIndices (some i) (some j) 1 x.length = PySem.Builtin.Str.strSliceIndices (some i) (some (x.length : Int)) 1 x.length := by
    unfold PySem.Builtin.Str.strSliceIndices
    have hj : ¬ (j < 0) := by lia
    have hn : ¬ ((x.length : Int) < 0) := by lia
    simp only [if_neg hj, if_neg hn, show (1 : Int) > 0 by decide, if_true, Int.min_eq_right h1, Int.min_self]
  unfold Txt.slice
  rw [e]
theorem slice_cps {x : Str} {i k : Nat} (hi : i ≤ x.length) : (Txt.slice x (some (i : Int)) (some ((i : Int) + (k : Int)))).cps.toList = (x.cps.toList.drop i).take k := by
  have hl : x.cps.toList.length = x.length := by rw [Array.length_toList]; rfl
  by_cases h : i + k ≤ x.length
  · have := slice_closesL (x := x) (i := i) (j := (i : Int) + k) (by lia) (by lia) (by lia)
    rw [eq_of_beq this, show ((i : Int) + k - i).toNat = k from by lia, show (i : Int).toNat = i from rfl]
  · have := slice_closesL (x := x) (i := i) (j := (x.length : Int)) (by lia) (by lia) (by lia)
    rw [slice_clip (by lia) (by lia), eq_of_beq this, show (i : Int).toNat = i from rfl]
    show (x.cps.toList.drop i).take _ = _
    rw [List.take_of_length_le (by rw [List.length_drop, hl]; lia), List.take_of_length_le (by rw [List.length_drop, hl]; lia)]
section
variable {w : World} {A : Around} {E : Value → Shared → Prop} {s : Shared} {h₀ : Heap} {L : Addr} {m : Str → Option Value} {news : List (Addr × Obj)}
theorem notin283 {x : Str} {t : Tok} {Q : Value → Shared → Prop} (F : Fr h₀ L s.heap m) (X : (hd.heap_39 w.params).In h₀) (h : Q (.bool (!(valueAt (tokK w) x).isSome)) { s with toks := s.toks + 1 }) :
    wpAny (model PySem.Challenge.rw_uc0067_01.row.prog w) A (compareOp .NotIn (.str x t) (.ref 283)) Q E s := by
  obtain ⟨n, hD⟩ := tok_at (X.keeps F.keep)
  have hD2 := Heap.DictAt.dictOf hD
  exact wpAny_notIn_of (PySem.strKind_is _ w _ _) (by decide) hD2.mapOf h
theorem item283 {value slice : PySem.Expr} {x : Str} {t : Tok} {v : Value} {Q : Value → Shared → Prop} (F : Fr h₀ L s.heap m) (X : (hd.heap_39 w.params).In h₀) (hv : valueAt (tokK w) x = some v) (h : Q v { s with toks := s.toks + 1 })
    (hs : subscripted slice false (.ref 283) (.str x t) = operate [.ref 283, .str x t] (getItem (.ref 283) (.str x t))) (hg : ∀ r, letTemporaryGo value (.ref 283) r = pure ()) :
    wpAny (model PySem.Challenge.rw_uc0067_01.row.prog w) A (subscriptTail value slice (.ref 283) (.str x t)) Q E s := by
  obtain ⟨n, hD⟩ := tok_at (X.keeps F.keep)
  have hD2 := Heap.DictAt.dictOf hD
  exact subscriptTail_builtin hD2.typeIs slot_dict_getitem.lookup (wpAny_getItem_of (PySem.strKind_is _ w _ _) hD2.mapOf hv h) hs hg
end
theorem slice_eq {x : Str} {i k : Nat} (hi : i ≤ x.length) : Txt.slice x (some (i : Int)) (some ((i : Int) + (k : Int))) = ⟨((x.cps.toList.drop i).take k).toArray⟩ := by
  have h := slice_cps (k := k) hi
  have : (Txt.slice x (some (i : Int)) (some ((i : Int) + (k : Int)))).cps = ((x.cps.toList.drop i).take k).toArray := by
    rw [← h, Array.toArray_toList]
  cases hx : Txt.slice x (some (i : Int)) (some ((i : Int) + (k : Int)))
  rw [hx] at this
  dsimp only at this
  rw [this]
theorem pis_map : ∀ kvs : List (Str × Value), (kvs.all fun p => match p.2 with | .int _ _ => true | _ => false) = true → PIs kvs (kvs.map fun p => (p.1.cps.toList, match p.2 with | .int k _ => k | _ => 0))
  | [], _ => .nil
  | (x, v) :: r, h => by
    simp only [List.all_cons, Bool.and_eq_true] at h
    cases v with
    | int k t => exact .cons (pis_map r h.2)
    | _ => exact absurd h.1 (by simp)
noncomputable def tokT : Poly := [([33], 54), ([33, 61], 28), ([37], 24), ([37, 61], 40), ([38], 19), ([38, 61], 41), ([40], 7), ([41], 8), ([42], 16), ([42, 42], 35), ([42, 42, 61], 46), ([42, 61], 38), ([43], 14), ([43, 61], 36), ([44], 12), ([45], 15), ([45, 61], 37), ([45, 62], 51), ([46], 23), ([46, 46, 46], 52), ([47], 17), ([47, 47], 47), ([47, 47, 61], 48), ([47, 61], 39), ([58], 11), ([58, 61], 53), ([59], 13), ([60], 20), ([60, 60], 33), ([60, 60, 61], 44), ([60, 61], 29), ([61], 22), ([61, 61], 27), ([62], 21), ([62, 61], 30), ([62, 62], 34), ([62, 62, 61], 45), ([64], 49), ([64, 61], 50), ([91], 9), ([93], 10), ([94], 32), ([94, 61], 43), ([123], 25), ([124], 18), ([124, 61], 42), ([125], 26), ([126], 31)]
theorem tok_pis (w : World) : PIs (tokK w) tokT := by
  have h := pis_map (tokK w) (by kernel_rfl)
  have e : ((tokK w).map fun p => (p.1.cps.toList, match p.2 with | .int k _ => k | _ => 0)) = tokT := by kernel_rfl
  rwa [e] at h
theorem PIs.isSome {kvs : List (Str × Value)} {P : Poly} (h : PIs kvs P) (x : Str) : (valueAt kvs x).isSome = decide (x.cps.toList ∈ keysP P) := by
  induction h with
  | nil => simp [valueAt, keysP]
  | @cons y k t kvs P _ ih =>
    by_cases e : y = x
    · subst e
      simp [valueAt, keysP]
    · have e' : ¬ x.cps.toList = y.cps.toList := fun h => e (str_eq.mpr h.symm)
      have h1 : valueAt ((y, Value.int k t) :: kvs) x = valueAt kvs x := by simp [valueAt, e]
      rw [h1, ih]
      simp only [keysP, List.map_cons, List.mem_cons]
      exact decide_eq_decide.mpr ⟨.inr, fun h => h.resolve_left e'⟩
noncomputable def tokH (l : List Nat) : Bool := (keysP tokT).contains l
noncomputable def isStr (x : Str) : Value → Bool
  | .str a _ => decide (a = x)
  | _ => false
theorem my_index_str {prog : Program} {w : World} {A : Around} {E : Value → Shared → Prop} {s : Shared} {h₀ : Heap} {L l : Addr} {news : List (Addr × Obj)} {vs : List Value} {xs : List Str} {n j : Nat} {x : Str} {t : Tok} {Q : Value → Shared → Prop}
    (N : News h₀ L s.heap news) (hm : (l, listOf vs.toArray n) ∈ news) (hi : StrsAre vs xs) (hj : xs[j]? = some x) (hno : ∀ i, i < j → xs[i]? ≠ some x) (hz : vs.length ≤ 1000)
    (h : Q (.int (j : Nat) s.toks) { s with toks := s.toks + 1 }) : wpAny (model prog w) A (call (.builtin "list.index") [.ref l, .str x t]) Q E s := by
  have hl := hi.len_eq
  have hjl : j < xs.length := (List.getElem?_eq_some_iff.mp hj).1
  have hat : ∀ i (hv : i < vs.length), ∃ t', vs[i] = .str (xs[i]'(by lia)) t' := fun i hv => by
    obtain ⟨y, u, e1, e2⟩ := hi.item i vs[i] (List.getElem?_eq_getElem hv)
    refine ⟨u, ?_⟩
    rw [e1]
    congr 1
    rw [List.getElem?_eq_getElem (by lia)] at e2
    exact (Option.some.inj e2).symm
  have hsz : vs.toArray.size = vs.length := List.size_toArray ..
  refine call_meets PySem.F.slot_list_index ⟨_, (N _ hm).1, rfl⟩ PySem.F.entry_list_index (PySem.F.args_list_index_2 _ _)
    (MeetsSeq.list_index l vs.toArray n (.str x t) (isStr x) (fun y hy => ?_) j (by lia) (by lia) ?_ (fun i hv hlt => ?_)) ⟨(N _ hm).1, h⟩
  · obtain ⟨i, hv, rfl⟩ := List.mem_iff_getElem.mp (by simpa using hy : y ∈ vs)
    obtain ⟨u, e⟩ := hat i hv
    rw [e]
    exact fun _ _ _ _ _ _ hq => wpAny_eqBool_str hq
  · obtain ⟨u, e⟩ := hat j (by lia)
    rw [List.getElem_toArray, e]
    rw [List.getElem?_eq_getElem hjl] at hj
    simp [isStr, Option.some.inj hj]
  · obtain ⟨u, e⟩ := hat i (by lia)
    rw [List.getElem_toArray, e]
    have := hno i hlt
    rw [List.getElem?_eq_getElem (by lia)] at this
    simp [isStr]
    exact fun e => this (by rw [e])
end Mine
end

section
open PySem PySem.W PyProof.Rows PyProof.V PySem.Spec PySem.Calls PyProof.Rows.LCg
namespace Mine
set_option maxRecDepth 100000
set_option maxHeartbeats 8000000
/-! a list comprehension over the signs of a written text -/
section
variable {prog : Program} {w : World} {A : Around} {E : Value → Shared → Prop} {s : Shared} {env : Env}
variable {elt i1 : PySem.Expr} {ifs : List PySem.Expr} {x : Str} {px : Pos} {scope : Scope} {pos : Pos} {cl : List (Str × Addr)} {h₀ : Heap} {L : Addr} {m : Str → Option Value} {Q : Value → Shared → Prop} {news : List (Addr × Obj)}
theorem my_comp_str {E₂ : Value → Shared → Prop} {y : Str} {ty : Tok} (J : Nat → List Value → List (Addr × Obj) → Prop)
    (hh : A.handled = none) (hcell : ∀ y ∈ scope.names, y.2 ≠ .cell) (hkind : scope.kind = .function) (hx : scope.names.lookup x = some .local)
    (ha : y.cps.all (· < 128) = true) (F : Fr h₀ L s.heap m) (N : News h₀ L s.heap news) (h0 : J 0 [] news) (hlen : ∀ i ys news, J i ys news → ys.length ≤ 1000)
    (hT : ∀ (i c : Nat) (t : Tok) h tk, y.cps[i]? = some c → 1 ≤ tk → Turn1 prog w A h₀ L m env elt ifs x scope cl [] J i (.str ⟨#[c]⟩ t) { s with heap := h, toks := tk })
    (hF : ∀ ys news', J y.cps.size ys news' → FinE h₀ L m s Q ys news') :
    wpAny (model prog w) A (pyIter (.str y ty)) (fun it s₂ => CompAt prog w A env elt i1 ifs x px scope pos cl E Q it s₂) E₂ s := by
  refine wpAny_pyIter_ascii ha ?_
  have W := Walks.strAscii (prog := prog) (w := w) hh s.heap.objs.size y ty
  exact comp_core (s := { s with heap := s.heap.push { cls := .type "str_ascii_iterator", data := .fields #[.str y ty, .int 0 0] } }) [] J W (fun i h st => ⟨_, st.choose_spec.1⟩) (fun b hb => .inl (List.mem_singleton.mp hb)) hcell hkind hx ⟨_, Heap.get?_push_size _ rfl, rfl, rfl⟩
    (F.push _) (fun p hp => ⟨Heap.get?_push_of_some _ (N p hp).1, (N p hp).2⟩) (Nat.ne_of_lt F.ns.lt) (next_is_new F) (fun p hp => Nat.ne_of_lt (Heap.lt_size (N p hp).1)) (fun p hp => nomatch hp) h0 hlen
    (fun i v h tk _ hP ht => by
      obtain ⟨c, u, hc, rfl⟩ := hP
      exact hT i c u h tk hc ht) hF
end
end Mine
end

open PySem PySem.W PyProof.Rows
local macro_rules | `(tactic| walk_at $s:str) => `(tactic| k_extra $(Lean.quote ("m:" ++ s.getString)))
local macro_rules | `(tactic| omega) => `(tactic| k_extra "m:omega")
local macro_rules | `(tactic| k_fold) => `(tactic| skip)
local macro_rules | `(tactic| k_room) => `(tactic| k_extra "m:k_room")
local macro_rules | `(tactic| ktr_room) => `(tactic| k_extra "m:k_room")
local macro_rules | `(tactic| k_units) => `(tactic| k_extra "m:k_units")
local macro_rules | `(tactic| size_fits) => `(tactic| k_dflt (exact Nat.le_of_ble_eq_true rfl))
local macro_rules | `(tactic| k_all) => `(tactic| k_extra "m:k_all")
namespace Mine
set_option maxRecDepth 100000
set_option maxHeartbeats 8000000
set_option linter.all false
theorem words_base : True := by
  (k_with "m:callWith ref" => ((k_here; k_dflt (refine' callWith_K ?k1 ?k2 ?_; (case k1 => k_asm); (case k2 => k_is); k_whole))))
  (k_with "m:eps ne" => (first | exact Mine.ne_nat | exact Mine.ne_heap | exact Mine.ne_val | exact Mine.ne_list | exact Mine.ne_str | exact Mine.ne_obj | exact Mine.ne_arr | exact Mine.ne_opt | exact Mine.ne_shared | exact Mine.ne_world | exact Mine.ne_around | exact Mine.ne_drawn | exact Mine.ne_pp | (refine Mine.ne_fn ?_; k_extra "m:eps ne") | (refine Mine.ne_prod ?_ ?_ <;> k_extra "m:eps ne") | infer_instance))
  (k_with "m:execs cons" => ((k_here; refine cons_tok (by first | exact htk | omega) ?_; intro tk htk)))
  (k_with "m:execs nil" => ((k_here; refine nil_tok (by first | exact htk | omega) ?_; intro tk htk)))
  (k_with "m:my step" => (first | ((with_reducible show (1:Nat) ≤ _ → _); intro htk; (try dsimp only at htk); (with_reducible rename Fr _ _ _ _ => Fq); (try dsimp only at Fq); try dsimp only) | (k_unfold; (try dsimp only)) | walk1 | (dsimp only; walk1) | (leave1; walk_say "STEP leave1"; try dsimp only)))
  (k_with "m:my steps" => (repeat' (k_extra "m:my step")))
  (k_with "m:my intro" => ((unfold Call; k_fill; intro pg loose mean mg mb dp un gd cn cs a ccd cl outer A₀ base h₀ L m s Q E B F X N T hk hd hu h1 hret; refine call_tok h1 ?_; refine wpAny_call ?_)))
  (k_with "m:my enter" => ((k_dflt (refine' code_def ?k1 ?k2 ?k3 ?k4 ?k5 ?kA ?kF ?kK ?k6 ?k7 ?k8 ?k9 ?kB ?_ ?c2 ?c3 ?c4 ?c5; (case kA => exact rfl); (case kF => exact rfl); (case kK => first | exact rfl | assumption); (case k1 => k_asm); (case k2 => k_asm); (case k3 => k_asm); (case k4 => k_asm); (case k5 => k_asm); (case k6 => k_is); (case k7 => k_is); (case k8 => ktr_room); (case k9 => first | exact BindsTo.of_eq rfl | exact binds_K (by k_in) rfl (by k_is) rfl rfl rfl | (refine' kp_binds ?kx ?ke; (case kx => k_in); (case ke => exact fun _ => rfl))); (case c5 => decide); (case kB => exact locs rfl); (case c2 => exact rfl); (case c3 => exact rfl); (case c4 => exact rfl); k_whole; intro g' L' h' FG' F' N' B' X' T'; (try dsimp only); (try k_lift B'); (refine wpAny_noRaise ?_); (try k_fold)))))
  (k_with "m:my enterB" => ((k_dflt (refine' code_def ?k1 ?k2 ?k3 ?k4 ?k5 ?kA ?kF ?kK ?k6 ?k7 ?k8 ?k9 ?kB ?_ ?c2 ?c3 ?c4 ?c5; (case kA => exact rfl); (case kF => exact rfl); (case kK => first | exact rfl | assumption); (case k1 => k_asm); (case k2 => k_asm); (case k3 => k_asm); (case k4 => k_asm); (case k5 => k_asm); (case k6 => k_is); (case k7 => k_is); (case k8 => ktr_room); (case k9 => exact hB _ (by k_in)); (case c5 => decide); (case kB => exact locs rfl); (case c2 => exact rfl); (case c3 => exact rfl); (case c4 => exact rfl); k_whole; intro g' L' h' FG' F' N' B' X' T'; (try dsimp only); (try k_lift B'); (refine wpAny_noRaise ?_); (try k_fold)))))
  (k_with "m:k_room" => (((try simp only [depth_under_make, depth_under_kw, depth_in1, depth_deeper, depth_caller]); (try dsimp only [ktrTop]); omega)))
  (k_with "m:k_units" => (((have hcL9 := cLine_is); (try simp only [units_in1, units_deeper, Around.mark_units, units_caller]); (try dsimp only [ktrTop]); omega)))
  (k_with "m:k_all" => (first | assumption | exact allne_lt (by assumption) | exact allne_gt (by assumption) | exact allne_AllLt (by assumption)))
  (k_with "m:call ref" => ((k_here; refine wpAny_call ?_; k_extra "m:my enter")))
  (k_with "m:my tree" => ((unfold Tree; k_fill; intro pg loose mean mg mb dp un gd cn cs a ccd cl outer A₀ base h₀ L m s Q E B F X N T hk hd hu h1 hret)))
  (k_with "m:my end" => (first | exact hret _ _ (by first | assumption | omega) (by k_asm) (by k_asm) | exact hret _ _ _ (by first | assumption | omega) (by k_asm) (by k_asm)))
  (k_with "m:call builtin:len" => ((k_here; (with_reducible show wpAny _ _ (call (Value.builtin "len") [Value.ref _]) _ _ _); k_dflt (refine my_len (by k_asm) (by assumption) (by omega) ?_))))
  (k_with "m:my room" => (((try simp only [depth_under_make, depth_under_kw, depth_in1, depth_deeper, units_in1, units_deeper]); (try dsimp only [ktrTop]); omega)))
  (k_with "m:spliced" => (((fail_if_success (with_reducible show wpAny _ _ _ (fun _ s' => (1:Nat) ≤ Shared.toks s' → _) _ _)); refine with_tok (by first | exact htk | omega) ?_; k_dflt (walk1))))
  (k_with "m:my ne" => ((repeat ((with_reducible show ∀ q, q ∈ (_ :: _) → _); refine List.forall_mem_cons.mpr ⟨by (show @Ne Nat _ _; dsimp only; omega), ?_⟩))))
  (k_with "m:my room3" => (k_extra "m:my room"))
  (k_with "m:my step" => (first | ((with_reducible show (1:Nat) ≤ _ → _); intro htk; (try dsimp only at htk); (with_reducible rename Fr _ _ _ _ => Fq); (try dsimp only at Fq); (with_reducible rename News _ _ _ _ => Nq); (try dsimp only at Nq); try dsimp only) | (k_unfold; (try dsimp only)) | walk1 | (dsimp only; walk1) | (leave1; walk_say "STEP leave1"; try dsimp only)))
  (k_with "m:execs cons" => ((k_here; refine cons_tok (by first | exact htk | omega) ?_; intro tk htk; (with_reducible rename News _ _ _ _ => Nq); (try dsimp only at Nq))))
  (k_with "m:getMethod ref" => ((k_here; (with_reducible show wpAny _ _ (getMethod (Value.ref 122) _ _) _ _ _); k_dflt (refine' method_K PySem.F.slot_dict_items PySem.F.type_dict_items ?k1 ?k2 ?k3 ?_; (case k1 => k_asm); (case k2 => k_asm); (case k3 => k_is)))))
  (k_with "m:call builtin:dict.items" => ((k_here; (with_reducible show wpAny _ _ (call (Value.builtin "dict.items") [Value.ref 122]) _ _ _); k_dflt (refine' items_K ?k1 ?k2 ?k3 ?k4 ?k5 ?k6 ?k7 ?_; (case k1 => k_asm); (case k2 => k_asm); (case k3 => k_asm); (case k4 => k_is); (case k5 => k_keys); (case k6 => kernel_rfl); (case k7 => decide)); intro V h' F' N' lV; replace lV := allLt_of lV; dsimp only [AllLt] at lV)))
  (k_with "m:call type:list" => ((k_here; k_dflt (refine' list_K (a := 122) ?k0 ?k1 ?k2 ?k3 ?k8 ?k4 ?k5 ?k6 ?k7 ?_; (case k0 => rfl); (case k1 => k_asm); (case k2 => k_asm); (case k3 => k_asm); (case k8 => exact .head _); (case k4 => k_is); (case k5 => k_keys); (case k6 => kernel_rfl); (case k7 => kernel_rfl)); intro S acc c h' tk F' N' lS; replace lS := allLt_of lS; dsimp only [AllLt] at lS)))
  (k_with "m:my mem" => ((repeat (first | exact List.Mem.head _ | refine List.Mem.tail _ ?_))))
  (k_with "m:my sub" => ((first | ((repeat ((with_reducible show ∀ q, q ∈ (_ :: _) → _); refine sub_cons (by k_extra "m:my mem") ?_)); (intro p hp; first | ((repeat (first | exact hp | refine List.Mem.tail _ ?_)); done) | exact absurd hp List.not_mem_nil)) | ((repeat (refine sub_cons (by k_extra "m:my mem") ?_)); (intro p hp; first | ((repeat (first | exact hp | refine List.Mem.tail _ ?_)); done) | exact absurd hp List.not_mem_nil)))))
  (k_with "m:my enterC" => ((k_dflt (refine' my_defC ?k1 ?k2 ?k3 ?k4 ?k5 ?kA ?kF ?kK ?k6 ?k7 ?k8 ?kt ?k9 ?kB ?kD ?_ ?c2 ?c3 ?c4; (case kA => exact rfl); (case kF => exact rfl); (case kK => first | exact rfl | assumption); (case k1 => k_asm); (case k2 => k_asm); (case k3 => k_asm); (case k4 => k_asm); (case k5 => k_asm); (case k6 => k_is); (case k7 => k_is); (case k8 => ktr_room); (case kt => first | assumption | omega); (case k9 => first | exact BindsTo.of_eq rfl | exact binds_K (by k_in) rfl (by k_is) rfl rfl rfl | (refine' kp_binds ?kx ?ke; (case kx => k_in); (case ke => exact fun _ => rfl))); (case kB => exact rfl); (case kD => decide +kernel); (case c2 => exact rfl); (case c3 => exact rfl); (case c4 => exact rfl); k_whole; intro g' L' h' tk' cells' FG' F' N' Y' B' X' T' l1 htk; (try k_lt l1); (try dsimp only); (try k_lift B'); (refine wpAny_noRaise ?_); (try k_fold)))))
  (k_with "m:call builtin:len" => ((k_here; (with_reducible show wpAny _ _ (call (Value.builtin "len") [Value.ref _]) _ _ _); k_dflt (refine my_len (by k_asm) (by first | assumption | (k_extra "m:my mem")) (by first | omega | (simp only [List.length_map, List.length_cons, List.length_append]; omega)) ?_))))
  (k_with "m:my introC" => ((unfold CallC; k_fill; intro pg loose mean mg mb dp un gd cn cs a ccd cl outer A₀ base h₀ L m s Q E B F X N T hk hd hu h1 hret; refine code_tok h1 ?_)))
  (k_with "m:getMethod ref" => ((k_here; (with_reducible show wpAny _ _ (getMethod (Value.ref _) (Str.ofString "_iter_namespaces") _) _ _ _); k_dflt (refine' method_ownfn ?k1 ?k2 ?k3 ?k4 ?k5 ?k6 ?k7 ?k8 ?k9 ?k10 ?k11 ?_; (case k1 => k_asm); (case k2 => k_asm); (case k3 => k_inst); (case k4 => k_is); (case k5 => k_is); (case k6 => k_is); (case k7 => k_is); (case k8 => k_is); (case k9 => k_is); (case k10 => k_get); (case k11 => k_handed)); (try dsimp only))))
  (k_with "m:callWith ref" => ((k_here; (with_reducible show wpAny _ _ (callWith _ (Value.ref 176) _ (backTo _ (starEach (_ :: _) _)) []) _ _ _); k_dflt (refine' bound_args (id := "str.join") (z := .str (Str.ofString "") (t176 w)) ?bF ?_ rfl rfl; (case bF => k_asm); k_whole))))
  (k_with "m:BndAt" => (((with_reducible show BndAt 176 _ _ _); (with_reducible rename Fr _ _ _ _ => Fq); exact (Frag.In.keeps (K := hd.heap_39 w.params) (by assumption) Fq.keep) _ _ (k176 w))))
  (k_with "m:callWith ref" => ((k_here; (with_reducible show wpAny _ _ (callWith _ (Value.ref _) _ (backTo _ (starEach (_ :: _) _)) []) _ _ _); (with_reducible refine' bound_argsN ?bF ?bN ?bM ?_ ?b1 ?b2); (case bF => k_dflt k_asm); (case bN => k_dflt k_asm); (case bM => k_dflt (k_extra "m:my mem")); (case b1 => k_dflt (exact rfl)); (case b2 => k_dflt (exact rfl)); k_dflt (k_whole))))
  (k_with "m:getMethod ref" => ((k_here; (with_reducible show wpAny _ _ (getMethod (Value.ref _) (Str.ofString "_write") _) _ _ _); k_dflt (refine' kmu_own ?k1 ?k2 ?k3 ?k4 ?k5 ?_; (case k1 => k_asm); (case k2 => k_asm); (case k3 => k_inst); (case k4 => k_is); (case k5 => k_is); k_whole); (try dsimp only))))
  (k_with "m:my ne" => ((repeat ((with_reducible show ∀ q, q ∈ (_ :: _) → _); refine List.forall_mem_cons.mpr ⟨by (show @Ne Nat _ _; dsimp only; first | with_reducible assumption | (with_reducible refine Ne.symm ?_; with_reducible assumption) | omega), ?_⟩))))
  (k_with "m:ite" => ((k_closed; first | ((with_reducible refine' ite_pos ?c9 ?_); (case c9 => k_dflt decide)) | ((with_reducible refine' ite_neg ?c9 ?_); (case c9 => k_dflt decide)))))
  (k_with "m:pick" => first | (with_reducible exact hz9.1) | (replace hz9 := hz9.2; k_extra "m:pick") | (with_reducible exact hz9))
  (k_with "m:lt conj" => refine Mine.conj_at (by with_reducible assumption) ?_; intros hz9; k_extra "m:pick")
  (k_with "m:two" => first | ((with_reducible refine Two.here ?_); k_extra "m:my mem"; done) | ((with_reducible refine Two.there ?_); k_extra "m:two"))
  (k_with "m:ord" => (with_reducible rename Ord _ _ _ _ _ _ _ _ _ _ _ => hO9); refine Two.lt (ord_pw hO9) ?_; k_extra "m:two")
  (k_with "m:lt0" => first | (with_reducible assumption) | k_extra "m:lt conj" | k_extra "m:ord")
  (k_with "m:lt1" => first | k_extra "m:lt0" | exact Nat.lt_succ_self _ | ((with_reducible show @LT.lt Nat _ _ (HAdd.hAdd _ _)); with_reducible refine Nat.lt_succ_of_lt ?_; first | k_extra "m:lt0" | exact Nat.lt_succ_self _ | ((with_reducible show @LT.lt Nat _ _ (HAdd.hAdd _ _)); with_reducible refine Nat.lt_succ_of_lt ?_; k_extra "m:lt0")))
  (k_with "m:ne1" => first | (with_reducible assumption) | ((with_reducible refine Ne.symm ?_); (with_reducible assumption)) | (refine Nat.ne_of_lt ?_; k_extra "m:lt1") | (refine Nat.ne_of_gt ?_; k_extra "m:lt1"))
  (k_with "m:one1" => first | (with_reducible assumption) | (first | (with_reducible refine Nat.le_add_right_of_le ?_; (with_reducible assumption)) | (with_reducible refine Nat.le_add_right_of_le ?_; with_reducible refine Nat.le_add_right_of_le ?_; (with_reducible assumption)) | (with_reducible refine Nat.le_add_right_of_le ?_; with_reducible refine Nat.le_add_right_of_le ?_; with_reducible refine Nat.le_add_right_of_le ?_; (with_reducible assumption)) | (with_reducible refine Nat.le_add_right_of_le ?_; with_reducible refine Nat.le_add_right_of_le ?_; with_reducible refine Nat.le_add_right_of_le ?_; with_reducible refine Nat.le_add_right_of_le ?_; (with_reducible assumption)) | (with_reducible refine Nat.le_add_right_of_le ?_; with_reducible refine Nat.le_add_right_of_le ?_; with_reducible refine Nat.le_add_right_of_le ?_; with_reducible refine Nat.le_add_right_of_le ?_; with_reducible refine Nat.le_add_right_of_le ?_; (with_reducible assumption)) | (with_reducible refine Nat.le_add_right_of_le ?_; with_reducible refine Nat.le_add_right_of_le ?_; with_reducible refine Nat.le_add_right_of_le ?_; with_reducible refine Nat.le_add_right_of_le ?_; with_reducible refine Nat.le_add_right_of_le ?_; with_reducible refine Nat.le_add_right_of_le ?_; (with_reducible assumption)) | (with_reducible refine Nat.le_add_right_of_le ?_; with_reducible refine Nat.le_add_right_of_le ?_; with_reducible refine Nat.le_add_right_of_le ?_; with_reducible refine Nat.le_add_right_of_le ?_; with_reducible refine Nat.le_add_right_of_le ?_; with_reducible refine Nat.le_add_right_of_le ?_; with_reducible refine Nat.le_add_right_of_le ?_; (with_reducible assumption))))
  (k_with "m:omega" => first | ((with_reducible show @Ne Nat _ _); k_extra "m:ne1") | ((with_reducible show @LT.lt Nat _ _ _); k_extra "m:lt1") | ((with_reducible show (1:Nat) ≤ _); k_extra "m:one1") | (law_clear; lia) | ((repeat (with_reducible rename News _ _ _ _ => zz9; clear zz9)); (repeat (with_reducible rename Fr _ _ _ _ => zz9; clear zz9)); (try clear hret); (try clear ih); lia))
  (k_with "m:on" => skip)
  (k_with "m:my stop" => (first | ((with_reducible show wpAny _ _ (call _ _ _) _ _ _); first | (with_reducible show wpAny _ _ (call (Value.builtin "list.extend") _ _) _ _ _) | (with_reducible show wpAny _ _ (call (Value.builtin "dict.get") _ _) _ _ _) | (with_reducible show wpAny _ _ (call (Value.builtin "sorted") _ _) _ _ _) | (with_reducible show wpAny _ _ (call (Value.ref 176) _ _) _ _ _) | (with_reducible show wpAny _ _ (call (Value.ref 168) _ _) _ _ _) | (with_reducible show wpAny _ _ (call (Value.ref 332) _ _) _ _ _) | (with_reducible show wpAny _ _ (call (Value.builtin "list.append") _ _) _ _ _) | (with_reducible show wpAny _ _ (call (Value.ref 117) _ _) _ _ _) | (with_reducible show wpAny _ _ (call (Value.ref 273) _ _) _ _ _) | (with_reducible show wpAny _ _ (call (Value.ref 255) _ _) _ _ _) | (with_reducible show wpAny _ _ (call (Value.builtin "list.insert") _ _) _ _ _) | (with_reducible show wpAny _ _ (call (Value.ref 282) _ _) _ _ _) | (with_reducible show wpAny _ _ (call (Value.ref 264) _ _) _ _ _) | (with_reducible show wpAny _ _ (call (Value.ref 239) _ _) _ _ _)) | ((with_reducible show wpAny _ _ (pyIter _) _ _ _); first | (with_reducible show wpAny _ _ (pyIter _) _ _ _)) | ((with_reducible show wpAny _ _ (PySem.eval _ _) _ _ _); first | (with_reducible show wpAny _ _ (PySem.eval (PySem.Expr.Lambda _ _ _ _) _) _ _ _) | (with_reducible show wpAny _ _ (PySem.eval (PySem.Expr.Set _ _ _) _) _ _ _) | (with_reducible show wpAny _ _ (PySem.eval (PySem.Expr.Slice none none none _) _) _ _ _)) | ((with_reducible show wpAny _ _ (exec _ _) _ _ _); first | (with_reducible show wpAny _ _ (exec (Stmt.Assign [PySem.Expr.Name _ _] (PySem.Expr.DictComp _ _ _ _ _) _) _) _ _ _)) | ((with_reducible show wpAny _ _ (truthy _) _ _ _); first | (with_reducible show wpAny _ _ (truthy (Value.ref _)) _ _ _)) | ((with_reducible show wpAny _ _ (getMethod _ _ _) _ _ _); first | (with_reducible show wpAny _ _ (getMethod (Value.ref _) (Str.ofString "get") _) _ _ _)) | ((with_reducible show wpAny _ _ (subscriptTail _ _ _ _) _ _ _); first | (with_reducible show wpAny _ _ (subscriptTail _ _ (Value.ref _) (Value.str _ _)) _ _ _) | (with_reducible show wpAny _ _ (subscriptTail _ _ (Value.ref _) (Value.int _ _)) _ _ _)) | (with_reducible show BndAt _ _ _ _)))
  (k_with "m:my run" => (repeat' ((fail_if_success (first | ((with_reducible show wpAny _ _ (exec _ _) _ _ _); first | (with_reducible show wpAny _ _ (exec (Stmt.While _ _ _ _) _) _ _ _) | (with_reducible show wpAny _ _ (exec (Stmt.For _ _ _ _ _) _) _ _ _)) | (k_extra "m:my stop"))); k_extra "m:my step")))
  (k_with "m:my runI" => (repeat' ((fail_if_success (first | ((with_reducible show wpAny _ _ (exec _ _) _ _ _); first | (with_reducible show wpAny _ _ (exec (Stmt.While _ _ _ _) _) _ _ _) | (with_reducible show wpAny _ _ (exec (Stmt.For _ _ _ _ _) _) _ _ _) | (with_reducible show wpAny _ _ (exec (Stmt.If _ _ _ _) _) _ _ _)) | (k_extra "m:my stop"))); k_extra "m:my step")))
  trivial
end Mine
section
namespace Mine
set_option maxRecDepth 100000
set_option maxHeartbeats 8000000
set_option linter.all false
/-- the text in which each sign c stands as z -/
noncomputable def sub1 (c : Nat) (z : List Nat) (l : List Nat) : List Nat := l.flatMap fun k => if k = c then z else [k]
theorem sub1_free (c : Nat) (z : List Nat) : ∀ l : List Nat, c ∉ l → sub1 c z l = l
  | [], _ => rfl
  | k :: r, h => by
    have h1 : k ≠ c := fun e => h (e ▸ List.mem_cons_self ..)
    have ih := sub1_free c z r fun m => h (List.mem_cons_of_mem _ m)
    unfold sub1 at ih ⊢
    rw [List.flatMap_cons, if_neg h1, ih]; rfl
theorem sub1_append (c : Nat) (z a b : List Nat) : sub1 c z (a ++ b) = sub1 c z a ++ sub1 c z b := by unfold sub1; exact List.flatMap_append
theorem sub1_join (c : Nat) (z : Str) : ∀ parts : List Str, (∀ p ∈ parts, c ∉ p.cps.toList) → sub1 c z.cps.toList (Str.join ⟨#[c]⟩ parts).cps.toList = (Str.join z parts).cps.toList
  | [], _ => rfl
  | [p], h => sub1_free c _ _ (h p (List.mem_singleton.mpr rfl))
  | p :: q :: r, h => by
    have ih := sub1_join c z (q :: r) fun a ha => h a (List.mem_cons_of_mem _ ha)
    show sub1 c z.cps.toList (p ++ ⟨#[c]⟩ ++ Str.join ⟨#[c]⟩ (q :: r)).cps.toList = (p ++ z ++ Str.join z (q :: r)).cps.toList
    simp only [Str.cps_append, Array.toList_append, sub1_append]
    rw [ih, sub1_free c _ _ (h p (List.mem_cons_self ..))]
    simp [sub1]
theorem replace_is (x z : Str) (c : Nat) : Txt.replace x ⟨#[c]⟩ z = ⟨(sub1 c z.cps.toList x.cps.toList).toArray⟩ := by
  have h := sub1_join c z _ (StrLaws.split_free x c)
  rw [StrLaws.join_split, ← StrLaws.replace_one] at h
  generalize Txt.replace x ⟨#[c]⟩ z = r at h
  obtain ⟨⟨l⟩⟩ := r
  have e : sub1 c z.cps.toList x.cps.toList = l := h
  rw [e]
theorem replace_none {x y z : Str} (c : Nat) (h : (Builtin.Str.occurrences x y 0 x.length 1).isEmpty = true) (hy : y = ⟨#[c]⟩) : Txt.replace x y z = x := by
  subst hy
  have hf := StrLaws.found_one x c
  rw [h] at hf
  have hn : c ∉ x.cps.toList := by simpa using hf
  rw [replace_is, sub1_free c _ _ hn]
/-- the reference of a sign -/
noncomputable def escC (k : Nat) : List Nat := if k = 38 then [38, 97, 109, 112, 59] else if k = 60 then [38, 108, 116, 59] else if k = 62 then [38, 103, 116, 59] else if k = 13 then [38, 35, 120, 68, 59] else [k]
noncomputable def escL (l : List Nat) : List Nat := l.flatMap escC
noncomputable def escS (x : Str) : Str := ⟨(escL x.cps.toList).toArray⟩
theorem esc_chain : ∀ l : List Nat, sub1 13 [38, 35, 120, 68, 59] (sub1 62 [38, 103, 116, 59] (sub1 60 [38, 108, 116, 59] (sub1 38 [38, 97, 109, 112, 59] l))) = escL l
  | [] => rfl
  | k :: r => by
    have ih := esc_chain r
    have e : ∀ c z, sub1 c z (k :: r) = (if k = c then z else [k]) ++ sub1 c z r := fun c z => by unfold sub1; rw [List.flatMap_cons]
    have e2 : escL (k :: r) = escC k ++ escL r := by unfold escL; rw [List.flatMap_cons]
    rw [e, e2, ← ih]
    simp only [sub1_append]
    congr 1
    unfold escC
    by_cases h1 : k = 38
    · subst h1; first | rfl | simp [sub1]
    · by_cases h2 : k = 60
      · subst h2; first | rfl | simp [sub1]
      · by_cases h3 : k = 62
        · subst h3; first | rfl | simp [sub1]
        · by_cases h4 : k = 13
          · subst h4; first | rfl | simp [sub1]
          · simp [sub1, h1, h2, h3, h4]
theorem esc_is (x : Str) : Txt.replace (Txt.replace (Txt.replace (Txt.replace x (Str.ofString "&") (Str.ofString "&amp;")) (Str.ofString "<") (Str.ofString "&lt;")) (Str.ofString ">") (Str.ofString "&gt;")) (Str.ofString "\x0d") (Str.ofString "&#xD;") = escS x := by
  rw [show Str.ofString "&" = ⟨#[38]⟩ from by decide +kernel, show Str.ofString "&amp;" = ⟨#[38, 97, 109, 112, 59]⟩ from by decide +kernel, show Str.ofString "<" = ⟨#[60]⟩ from by decide +kernel, show Str.ofString "&lt;" = ⟨#[38, 108, 116, 59]⟩ from by decide +kernel,
    show Str.ofString ">" = ⟨#[62]⟩ from by decide +kernel, show Str.ofString "&gt;" = ⟨#[38, 103, 116, 59]⟩ from by decide +kernel, show Str.ofString "\x0d" = ⟨#[13]⟩ from by decide +kernel, show Str.ofString "&#xD;" = ⟨#[38, 35, 120, 68, 59]⟩ from by decide +kernel]
  simp only [replace_is, esc_chain]
  rfl
theorem sub1_length (c : Nat) (z : List Nat) (hz : 1 ≤ z.length) : ∀ l : List Nat, (sub1 c z l).length ≤ z.length * l.length
  | [] => Nat.zero_le _
  | k :: r => by
    have ih := sub1_length c z hz r
    have e : sub1 c z (k :: r) = (if k = c then z else [k]) ++ sub1 c z r := by unfold sub1; rw [List.flatMap_cons]
    rw [e, List.length_append, List.length_cons, Nat.mul_succ]
    have : (if k = c then z else [k]).length ≤ z.length := by split <;> simp [hz]
    omega
theorem replace_len (x z : Str) (c : Nat) (n : Nat) (hz : 1 ≤ z.length) (hn : z.length ≤ n) : (Txt.replace x ⟨#[c]⟩ z).length ≤ n * x.length := by
  rw [replace_is]
  have h := sub1_length c z.cps.toList (by rw [Array.length_toList]; exact hz) x.cps.toList
  have h2 : z.cps.toList.length * x.cps.toList.length ≤ n * x.cps.toList.length := Nat.mul_le_mul_right _ (by rw [Array.length_toList]; exact hn)
  show (sub1 c z.cps.toList x.cps.toList).toArray.size ≤ _
  rw [List.size_toArray]
  refine Nat.le_trans h ?_
  refine Nat.le_trans h2 ?_
  simp [Str.length]

noncomputable def TextEnd (h₀ : Heap) (L : Addr) (y : Str) (m : Str → Option Value) (news : List (Addr × Obj)) (g : Array GenState) (d : Drawn) (os : OsState) (R : Str) (f : Flow) (s' : Shared) : Prop :=
  f = .next ∧ ∃ t' h' tk', s' = ⟨h', g, d, tk', os⟩ ∧ 1 ≤ tk' ∧ Fr h₀ L h' (fun z => if z = y then some (.str R t') else m z) ∧ News h₀ L h' news
theorem cut_text {M : Model} {A : Around} {E : Value → Shared → Prop} {t : Sem Flow} {h h₀ : Heap} {g : Array GenState} {d : Drawn} {tk : Nat} {os : OsState} {Q : Flow → Shared → Prop} {L : Addr} {m : Str → Option Value} {news : List (Addr × Obj)} (y : Str) (R : Str)
    (_F : Fr h₀ L h m) (_N : News h₀ L h news) (h1 : wpAny M A t (TextEnd h₀ L y m news g d os R) (fun _ _ => False) ⟨h, g, d, tk, os⟩)
    (h2 : ∀ t' h' tk', 1 ≤ tk' → Fr h₀ L h' (fun z => if z = y then some (.str R t') else m z) → News h₀ L h' news → Q .next ⟨h', g, d, tk', os⟩) : wpAny M A t Q E ⟨h, g, d, tk, os⟩ :=
  cut_post _ h1 fun f s' h => by
    obtain ⟨rfl, t', h', tk', rfl, a, b, c⟩ := h
    exact h2 t' h' tk' a b c
theorem text_same {h₀ : Heap} {L : Addr} {y : Str} {m : Str → Option Value} {news : List (Addr × Obj)} {h' : Heap} {g : Array GenState} {d : Drawn} {tk' : Nat} {os : OsState} {R x : Str} {t : Tok} (F : Fr h₀ L h' m) (N : News h₀ L h' news) (h1 : 1 ≤ tk') (e : m y = some (.str x t)) (e2 : R = x) :
    TextEnd h₀ L y m news g d os R .next ⟨h', g, d, tk', os⟩ :=
  ⟨rfl, t, h', tk', rfl, h1, fr_is F (fun z => by
    by_cases hz : z = y
    · rw [if_pos hz, hz, e, e2]
    · rw [if_neg hz]), N⟩
theorem words_c2_0 : True := by
  (k_with "m:call builtin:str.replace" => ((fail_if_success (k_extra "m:out c2")); (k_here; (with_reducible show wpAny _ _ (call (Value.builtin "str.replace") [Value.str _ _, Value.str _ _, Value.str _ _]) _ _ _); refine SC.replaceW (by show @Ne Nat _ _; omega) (by show @Ne Nat _ _; omega) (by show @Ne Nat _ _; omega) (by decide) (by omega) (by decide) ?_; intro t9 k9)))
  trivial
set_option maxHeartbeats 20000000 in
theorem esc (w : World) (news : List (Addr × Obj)) (x : Str) (t : Tok) (hx : x.length ≤ 100) : Call w (.ref 239) [.str x t] [] 1 8 news (fun K => ∀ t', K (.str (escS x) t') news) := by
  revert w news x t hx
  intro w news x t hx
  have l1 := replace_len x (Str.ofString "&amp;") 38 5 (by decide +kernel) (by decide +kernel)
  have l2 := replace_len (Txt.replace x ⟨#[38]⟩ (Str.ofString "&amp;")) (Str.ofString "&lt;") 60 4 (by decide +kernel) (by decide +kernel)
  have l3 := replace_len (Txt.replace (Txt.replace x ⟨#[38]⟩ (Str.ofString "&amp;")) ⟨#[60]⟩ (Str.ofString "&lt;")) (Str.ofString "&gt;") 62 4 (by decide +kernel) (by decide +kernel)
  rw [← show Str.ofString "&" = ⟨#[38]⟩ from by decide +kernel] at l1 l2 l3
  rw [← show Str.ofString "<" = ⟨#[60]⟩ from by decide +kernel] at l2 l3
  rw [← show Str.ofString ">" = ⟨#[62]⟩ from by decide +kernel] at l3
  rw [← esc_is]
  k_extra "m:my intro"
  k_extra "m:my enter"
  replace F' : Fr g' L' h' (fun y => List.lookup y [(Str.ofString "text", Value.str x t)]) := F'
  iterate 3 (k_extra "m:my step")
  refine cut_text (Str.ofString "text") (Txt.replace x (Str.ofString "&") (Str.ofString "&amp;")) (by assumption) (by assumption) ?_ ?_
  · k_extra "m:my steps"
    · exact text_same (by assumption) (by assumption) (by assumption) rfl (replace_none 38 (by assumption) (by decide +kernel))
    · exact ⟨rfl, _, _, _, rfl, by assumption, by assumption, by assumption⟩
  intro t' h' tk' htk F' N'
  k_extra "m:my step"
  k_extra "m:my step"
  refine cut_text (Str.ofString "text") (Txt.replace (Txt.replace x (Str.ofString "&") (Str.ofString "&amp;")) (Str.ofString "<") (Str.ofString "&lt;")) (by assumption) (by assumption) ?_ ?_
  · k_extra "m:my steps"
    · exact text_same (by assumption) (by assumption) (by assumption) rfl (replace_none 60 (by assumption) (by decide +kernel))
    · exact ⟨rfl, _, _, _, rfl, by assumption, by assumption, by assumption⟩
  intro t' h' tk' htk F' N'
  k_extra "m:my step"
  k_extra "m:my step"
  refine cut_text (Str.ofString "text") (Txt.replace (Txt.replace (Txt.replace x (Str.ofString "&") (Str.ofString "&amp;")) (Str.ofString "<") (Str.ofString "&lt;")) (Str.ofString ">") (Str.ofString "&gt;")) (by assumption) (by assumption) ?_ ?_
  · k_extra "m:my steps"
    · exact text_same (by assumption) (by assumption) (by assumption) rfl (replace_none 62 (by assumption) (by decide +kernel))
    · exact ⟨rfl, _, _, _, rfl, by assumption, by assumption, by assumption⟩
  intro t' h' tk' htk F' N'
  k_extra "m:my step"
  k_extra "m:my step"
  refine cut_text (Str.ofString "text") (Txt.replace (Txt.replace (Txt.replace (Txt.replace x (Str.ofString "&") (Str.ofString "&amp;")) (Str.ofString "<") (Str.ofString "&lt;")) (Str.ofString ">") (Str.ofString "&gt;")) (Str.ofString "\x0d") (Str.ofString "&#xD;")) (by assumption) (by assumption) ?_ ?_
  · k_extra "m:my steps"
    · exact text_same (by assumption) (by assumption) (by assumption) rfl (replace_none 13 (by assumption) (by decide +kernel))
    · exact ⟨rfl, _, _, _, rfl, by assumption, by assumption, by assumption⟩
  intro t' h' tk' htk F' N'
  k_extra "m:my steps"
  exact hret _ _ _ (by assumption) (by assumption) (by assumption)
theorem words_c2_out : True := by
  (k_with "m:out c2" => skip)
  trivial
end Mine
end
section
namespace Mine
set_option maxRecDepth 100000
set_option maxHeartbeats 8000000
set_option linter.all false
noncomputable abbrev qd (w : World) (k : Tok) (x : Str) (t : Tok) : Obj := dictOf [⟨PyData.keyHash w.params (Str.ofString "text"), .str (Str.ofString "text") k, .str x t⟩] 1
inductive TV (w : World) (news : List (Addr × Obj)) : Value → Str → Prop
  | str (x : Str) (t : Tok) : TV w news (.str x t) x
  | qn (a d : Addr) (k : Tok) (x : Str) (t : Tok) : (a, instObj 117 d) ∈ news → (d, qd w k x t) ∈ news → TV w news (.ref a) x
section
variable {prog : Program} {w : World} {A : Around} {E : Value → Shared → Prop} {s : Shared} {K : Frag} {x C f L : Addr} {h₀ : Heap} {m : Str → Option Value} {ox : Obj} {od : Option Obj}
theorem call_str_lt_ref {y : Str} {t : Tok} {o : Obj} {Q : Value → Shared → Prop} (ho : s.heap.get? x = some o) (hd : o.data = .plain) (h : Q .notImplemented s) :
    wpAny (model prog w) A (call (.builtin "str.__lt__") [.str y t, .ref x]) Q E s := by
  refine wpAny_call_entry PySem.F.slot_str_lt (typeIs_str s y t) PySem.F.entry_str_lt ?_ (PySem.F.args_str_lt_2 _ _)
  show wpAny _ _ (do
    match ← asStr? (.ref x) with
    | some o => ret (.bool (decide (y.cps.toList < o.cps.toList)))
    | none => rule s!"str.{"__lt__"}.not-a-str"; ret .notImplemented) _ _ s
  refine wpAny_bind ?_
  show wpAny _ _ (load x >>= fun ob => match ob.data with
    | .prim (.str s _) => pure (some s)
    | _ => pure none) _ _ s
  refine wpAny_bind (wpAny_load ho ?_)
  rw [hd]
  exact wpAny_pure (wpAny_bind (wpAny_rule (wpAny_pure ⟨_, rfl, h⟩)))
theorem lt_str_K {y : Str} {t : Tok} {Q : Value → Shared → Prop} (hu : A.units < cLine) (F : Fr h₀ L s.heap m) (X₀ : K.In h₀) (I : InstAt s.heap x ox C od) (hp : ox.data = .plain)
    (hn : subIn K (.ref C) (.type "str") = some false) (hs : findIn K (.ref C) "__gt__" = some (some (.ref f))) (hf : isFn K (.ref f) = true)
    (h : wpAny (model prog w) A (call (.ref f) [.ref x, .str y t]) (PySem.W.CmpBack Q) E s) : wpAny (model prog w) A (compareOp .Lt (.str y t) (.ref x)) Q E s := by
  have X := X₀.keeps F.keep
  show wpAny _ _ (richCompare .Lt (.str y t) (.ref x)) Q E s
  have one : wpAny (model prog w) A (tryCompare (.ref x) "__gt__" (.str y t)) (fun r s' => ∃ v, r = some v ∧ Q v s') E s := by
    unfold tryCompare
    refine wpAny_bind (ifBound_K X I hs hf (wpAny_mono h (fun v s' hv => ?_) fun _ _ e => e))
    cases v <;> first | exact hv.elim | exact wpAny_pure ⟨_, rfl, hv⟩
  have zero : wpAny (model prog w) A (tryCompare (.str y t) "__lt__" (.ref x)) (fun r s' => r = none ∧ s' = s) E s := by
    unfold tryCompare
    refine wpAny_bind (wpAny_callSpecialIfBound?_slot (typeIs_str s y t) PySem.F.slot_str_lt (call_str_lt_ref I.at_ hp ?_))
    exact wpAny_pure ⟨rfl, rfl⟩
  unfold richCompare
  refine wpAny_holding (wpAny_bind (wpAny_cRoomFor hu ?_))
  show wpAny _ _ (do
    let ta ← typeOf (.str y t); let tb ← typeOf (.ref x)
    let rightFirst ← if ta != tb then isSubtype tb ta else pure false
    if rightFirst then
      if let some v ← tryCompare (.ref x) "__gt__" (.str y t) then rule "compare.subclass-reflected-first"; return v
    if let some v ← tryCompare (.str y t) "__lt__" (.ref x) then return v
    if !rightFirst then
      if let some v ← tryCompare (.ref x) "__gt__" (.str y t) then return v
    rule "compare.unsupported"
    raiseError "TypeError" s!"'{"<"}' not supported between instances of '{← typeNameOf (.str y t)}' and '{← typeNameOf (.ref x)}'") _ _ s
  refine wpAny_bind (wpAny_typeOf (typeIs_str s y t) (wpAny_bind (I.type.here ?_)))
  rw [if_pos (by simp)]
  refine wpAny_bind ((looks_subIn X hn).here ?_)
  simp only [Bool.false_eq_true, if_false, Bool.not_false, if_true]
  refine wpAny_bind (wpAny_mono zero (fun r s' z => ?_) fun _ _ e => e)
  obtain ⟨rfl, rfl⟩ := z
  refine wpAny_bind (wpAny_mono one (fun r s' z => ?_) fun _ _ e => e)
  obtain ⟨v, rfl, hq⟩ := z
  exact wpAny_pure hq
end
theorem words_c4_0 : True := by
  (k_with "m:compareOp Lt str ref" => ((fail_if_success (k_extra "m:out c4")); (k_here; (with_reducible show wpAny _ _ (compareOp CmpOp.Lt (Value.str _ _) (Value.ref _)) _ _ _); k_dflt (refine' lt_str_K ?k1 ?k2 ?k3 ?k4 ?k5 ?k6 ?k7 ?k8 ?_; (case k1 => k_units); (case k2 => k_asm); (case k3 => k_asm); (case k4 => k_inst); (case k5 => rfl); (case k6 => k_is); (case k7 => k_is); (case k8 => k_is); k_whole))))
  trivial
theorem tv_lt (w : World) (news : List (Addr × Obj)) (v1 v2 : Value) (x y : Str) (t1 : TV w news v1 x) (t2 : TV w news v2 y) : Tree w (compareOp .Lt v1 v2) 3 40 news (fun K => K (.bool (decide (x.cps.toList < y.cps.toList))) news) := by
  revert w news v1 v2 x y t1 t2
  intro w news v1 v2 x y t1 t2
  cases t1 with
  | str x t =>
    revert x t
    intro x t
    cases t2 with
    | str y u =>
      revert y u
      intro y u
      k_extra "m:my tree"
      k_extra "m:my steps"
      all_goals k_extra "m:my end"
    | qn b d k y u hm1 hm2 =>
      revert b d k y u hm1 hm2
      intro b d k y u hm1 hm2
      k_extra "m:my tree"
      k_extra "m:my steps"
      all_goals k_extra "m:my end"
  | qn b d k x t hm1 hm2 =>
    revert b d k x t hm1 hm2
    intro b d k x t hm1 hm2
    cases t2 with
    | str y u =>
      revert y u
      intro y u
      k_extra "m:my tree"
      k_extra "m:my steps"
      all_goals k_extra "m:my end"
    | qn b2 d2 k2 y u hm3 hm4 =>
      revert b2 d2 k2 y u hm3 hm4
      intro b2 d2 k2 y u hm3 hm4
      k_extra "m:my tree"
      k_extra "m:my steps"
      all_goals k_extra "m:my end"
theorem words_c4_out : True := by
  (k_with "m:out c4" => skip)
  trivial
end Mine
end
section
namespace Mine
set_option maxRecDepth 100000
set_option maxHeartbeats 8000000
set_option linter.all false
theorem qn_new (w : World) (news : List (Addr × Obj)) (x : Str) (t : Tok) : Call w (.ref 117) [.str x t] [] 3 40 news (fun K => ∀ a d k, (∀ p ∈ news, p.1 < d) → @LT.lt Nat _ d a → K (.ref a) ((a, instObj 117 d) :: (d, qd w k x t) :: news)) := by
  revert w news x t
  intro w news x t
  unfold Call; k_fill; intro p loose mean mg mb dp un gd cn cs a ccd cl outer A₀ base h₀ L m s Q E B F X N T hk hd hu h1 hret; refine call_tok h1 ?_
  k_dflt (refine' call_cls ?k1 ?k2 ?k3 ?k4 ?k5 ?k6 ?_; (case k1 => k_asm); (case k2 => k_asm); (case k3 => k_asm); (case k4 => k_is); (case k5 => k_is); (case k6 => k_is); k_whole; intro x1 d1 h1 F1 N1 l1 l2; replace l2 := ltN l2)
  k_extra "m:my enter"
  k_extra "m:my steps"
  exact hret _ _ _ l1 l2 _ _ (by first | assumption | omega) (by k_asm) (by k_asm)
end Mine
end
section
open PySem PySem.W PyProof.Rows
namespace Mine
set_option maxRecDepth 100000
set_option maxHeartbeats 8000000
/-! what has been written and what is pending, as one text -/
theorem strs_append {a b : List Value} {xs ys : List Str} (h : StrsAre a xs) (h2 : StrsAre b ys) : StrsAre (a ++ b) (xs ++ ys) := by
  induction h with
  | nil => exact h2
  | cons y t _ ih => exact .cons y t ih
theorem strs_one {x : Str} {t : Tok} : StrsAre [.str x t] [x] := .cons _ _ .nil
theorem catS_append (a b : List Str) : catS (a ++ b) = catS a ++ catS b := by unfold catS; rw [List.flatMap_append]
theorem escL_append (a b : List Nat) : escL (a ++ b) = escL a ++ escL b := by unfold escL; rw [List.flatMap_append]
theorem escL_len (a : List Nat) : a.length ≤ (escL a).length := by
  induction a with
  | nil => exact Nat.zero_le _
  | cons k r ih =>
    have e : escL (k :: r) = escC k ++ escL r := by unfold escL; rw [List.flatMap_cons]
    rw [e, List.length_append, List.length_cons]
    have : 1 ≤ (escC k).length := by unfold escC; repeat' split
                                     all_goals simp
    omega
noncomputable def WOut (vsW vsD : List Value) (out : List Nat) : Prop :=
  ∃ ysW ysD, StrsAre vsW ysW ∧ StrsAre vsD ysD ∧ catS ysW ++ escL (catS ysD) = out ∧ (∀ y ∈ ysW, 1 ≤ y.length) ∧ (∀ y ∈ ysD, 1 ≤ y.length)
theorem cat_len {ys : List Str} (h : ∀ y ∈ ys, 1 ≤ y.length) : ys.length ≤ (catS ys).length := by
  rw [catS_length]
  induction ys with
  | nil => exact Nat.zero_le _
  | cons a r ih =>
    have := ih fun y hy => h y (.tail _ hy)
    have := h a (.head _)
    simp only [List.map_cons, List.sum_cons, List.length_cons]; omega
theorem WOut.len {vsW vsD : List Value} {out : List Nat} (h : WOut vsW vsD out) : vsW.length ≤ out.length ∧ vsD.length ≤ out.length := by
  obtain ⟨ysW, ysD, h1, h2, rfl, h4, h5⟩ := h
  rw [h1.length, h2.length, List.length_append]
  have := cat_len h4
  have := cat_len h5
  have := escL_len (catS ysD)
  omega
theorem WOut.flush {vsW vsD : List Value} {out : List Nat} (h : WOut vsW vsD out) (hne : vsD ≠ []) : ∃ ys, StrsAre vsD ys ∧ (ys.map (·.length)).sum ≤ out.length ∧ ys.length ≤ out.length ∧ (ys.map (·.length)).sum ≠ 0 ∧ ∀ t, WOut (vsW ++ [.str (escS (Txt.join (Str.ofString "") ys)) t]) [] out := by
  obtain ⟨ysW, ysD, h1, h2, rfl, h4, h5⟩ := h
  have l5 := cat_len h5
  have le := escL_len (catS ysD)
  have hpos : ysD.length ≠ 0 := by
    rw [← h2.length]
    exact fun e => hne (List.length_eq_zero_iff.mp e)
  rw [catS_length] at l5
  refine ⟨ysD, h2, ?_, ?_, by omega, fun t => ⟨ysW ++ [escS (Txt.join (Str.ofString "") ysD)], [], strs_append h1 strs_one, .nil, ?_, ?_, fun y hy => nomatch hy⟩⟩
  · rw [List.length_append, ← catS_length]; omega
  · rw [List.length_append]; rw [catS_length] at le; omega
  · rw [catS_append]
    have : catS [escS (Txt.join (Str.ofString "") ysD)] = escL (catS ysD) := by
      simp only [catS, List.flatMap_cons, List.flatMap_nil, List.append_nil]
      show (escL (Txt.join (Str.ofString "") ysD).cps.toList) = _
      rw [join_codes]; rfl
    rw [this]; simp [catS, escL]
  · intro y hy
    rcases List.mem_append.mp hy with hy | hy
    · exact h4 y hy
    · rw [List.mem_singleton.mp hy]
      show 1 ≤ (escL (Txt.join (Str.ofString "") ysD).cps.toList).toArray.size
      rw [List.size_toArray, join_codes]
      have := escL_len (catS ysD)
      rw [catS_length] at this
      omega
theorem WOut.more {vsW : List Value} {out : List Nat} (h : WOut vsW [] out) {x : Str} {t : Tok} (hx : 1 ≤ x.length) : WOut (vsW ++ [.str x t]) [] (out ++ x.cps.toList) := by
  obtain ⟨ysW, ysD, h1, h2, rfl, h4, h5⟩ := h
  cases h2
  refine ⟨ysW ++ [x], [], strs_append h1 strs_one, .nil, ?_, ?_, fun y hy => nomatch hy⟩
  · rw [catS_append]; simp [catS, escL]
  · intro y hy
    rcases List.mem_append.mp hy with hy | hy
    · exact h4 y hy
    · rw [List.mem_singleton.mp hy]; exact hx
theorem WOut.pend {vsW vsD : List Value} {out : List Nat} (h : WOut vsW vsD out) {x : Str} {t : Tok} (hx : 1 ≤ x.length) : WOut vsW (vsD ++ [.str x t]) (out ++ escL x.cps.toList) := by
  obtain ⟨ysW, ysD, h1, h2, rfl, h4, h5⟩ := h
  refine ⟨ysW, ysD ++ [x], h1, strs_append h2 strs_one, ?_, h4, ?_⟩
  · rw [catS_append, escL_append]; simp [catS]
  · intro y hy
    rcases List.mem_append.mp hy with hy | hy
    · exact h5 y hy
    · rw [List.mem_singleton.mp hy]; exact hx
end Mine
end
section
namespace Mine
set_option maxRecDepth 100000
set_option maxHeartbeats 8000000
set_option linter.all false
noncomputable def TVs (w : World) (news : List (Addr × Obj)) (vs : List Value) (xs : List Str) : Prop := vs.length = xs.length ∧ ∀ (i : Nat) (v : Value) (x : Str), vs[i]? = some v → xs[i]? = some x → TV w news v x
noncomputable def SVs (vs : List Value) (xs : List Str) : Prop := vs.length = xs.length ∧ ∀ (i : Nat) (v : Value) (x : Str), vs[i]? = some v → xs[i]? = some x → ∃ t, v = .str x t

theorem bisRPlain (w : World) (news : List (Addr × Obj)) (l : Addr) (vs : List Value) (n : Nat) (xs : List Str) (v : Value) (x : Str) (t0 : Tok) (p : Nat) (pos : List Value) (kw : List (Str × Value))
    (hB : ∀ s : Shared, (hd.heap_39 w.params).In s.heap → BindsTo s (fdOf (hd.heap_39 w.params) 264) ⟨pos, kw⟩ [(Str.ofString "a", Value.ref l), (Str.ofString "x", v), (Str.ofString "lo", Value.int 0 t0), (Str.ofString "hi", Value.none), (Str.ofString "key", Value.none)])
    (hm : (l, listOf vs.toArray n) ∈ news) (hvs : TVs w news vs xs) (hv : TV w news v x) (hlen : vs.length ≤ 100) (hp : p ≤ vs.length) (hpi : ∀ (i : Nat) (y : Str), xs[i]? = some y → (x.cps.toList < y.cps.toList ↔ p ≤ i)) :
    Call w (.ref 264) pos kw 5 60 news (fun K => ∀ t, K (.int p t) news) := by
  revert w news l vs n xs v x t0 p pos kw hB hm hvs hv hlen hp hpi
  intro w news l vs n xs v x t0 p pos kw hB hm hvs hv hlen hp hpi
  k_extra "m:my intro"
  k_extra "m:my enterB"
  replace F' : Fr g' L' h' (fun y => List.lookup y [(Str.ofString "key", Value.none), (Str.ofString "hi", Value.none), (Str.ofString "lo", Value.int 0 t0), (Str.ofString "x", v), (Str.ofString "a", Value.ref l)]) := F'
  k_extra "m:my run"
  rename Fr g' L' _ _ => F1
  rename News g' L' _ _ => N1
  refine my_while (fun k m₁ news₁ => ∃ (lo hi : Nat) (tl th : Tok), k = hi - lo ∧ lo ≤ p ∧ p ≤ hi ∧ hi ≤ vs.length ∧ Nm m₁ [(Str.ofString "lo", Value.int lo tl), (Str.ofString "hi", Value.int hi th), (Str.ofString "a", Value.ref l), (Str.ofString "x", v), (Str.ofString "key", Value.none)] ∧ news₁ = news)
    F1 N1 htk ⟨0, vs.length, _, _, rfl, Nat.zero_le _, hp, Nat.le_refl _, ⟨rfl, rfl, rfl, rfl, rfl, trivial⟩, rfl⟩ ?_
  clear F1 N1
  rintro k m₁ news₁ h₁ tk₁ htk F₁ N₁ ⟨lo, hi, tl, th, rfl, hl1, hl2, hl3, hnm, rfl⟩
  revert htk F₁ N₁ hl1 hl2 hl3 hnm hm hvs hv N hret
  revert m₁ news₁ h₁ tk₁ lo hi tl th
  intro m₁ news₁ h₁ tk₁ lo hi tl th
  intros htk F₁ N₁ hl1 hl2 hl3 hnm hm hvs hv N hret
  replace F₁ := fr_nm F₁ hnm
  dsimp only [kstB] at F₁
  k_extra "m:my run"
  · obtain ⟨mid, hmide, hm1, hm2⟩ := mid_ex (by assumption)
    have hv3 : mid < vs.length := Nat.lt_of_lt_of_le hm2 hl3
    have hv4 : (mid : Int) < 2 ^ 63 := lt63 hv3 hlen
    rw [hmide]
    obtain ⟨v', hx'⟩ : ∃ v', vs[mid]? = some v' := ⟨vs[mid]'hv3, List.getElem?_eq_getElem hv3⟩
    revert hx'
    revert v'
    intro v'
    intros hx'
    obtain ⟨y, hy'⟩ : ∃ y, xs[mid]? = some y := ⟨xs[mid]'(hvs.1 ▸ hv3), List.getElem?_eq_getElem (hvs.1 ▸ hv3)⟩
    revert hy'
    revert y
    intro y
    intros hy'
    have hpm := hpi mid y hy'
    refine my_item (by k_asm) hm (by first | exact Int.natCast_nonneg _ | exact hv4 | omega) (by first | exact hv4 | omega) hx' ?_ (by with_unfolding_all rfl)
    k_extra "m:my run"
    refine use_tree (tv_lt w _ _ _ _ _ hv (hvs.2 _ _ _ hx' hy')) (by k_asm) (by k_asm) (by k_asm) (by k_asm) (by k_asm) rfl (by k_extra "m:my room") (by k_extra "m:my room") (by assumption) ?_
    intro h₂ tk₂ htk F₂ N₂
    k_extra "m:my run"
    · have hp1 := hpm.mp (by assumption)
      exact ⟨_, _, _, _, mid - lo, rfl, htk, by k_asm, by k_asm, Nat.sub_lt_sub_right hm1 hm2, lo, mid, tl, _, rfl, hl1, by omega, by omega, ⟨rfl, by rw [← hmide]; rfl, rfl, rfl, rfl, trivial⟩, rfl⟩
    · have hp1 : ¬ p ≤ mid := fun q => absurd (hpm.mpr q) (by assumption)
      exact ⟨_, _, _, _, hi - (mid + 1), rfl, htk, by k_asm, by k_asm, meas2 hm1 hm2, mid + 1, hi, _, th, rfl, by omega, hl2, hl3, ⟨by rw [Int.natCast_succ, ← hmide]; rfl, rfl, rfl, rfl, rfl, trivial⟩, rfl⟩
  · obtain rfl : p = lo := by omega
    k_extra "m:my end"

theorem bisRKey (w : World) (news : List (Addr × Obj)) (l : Addr) (vs : List Value) (n : Nat) (xs : List Str) (x : Str) (tx : Tok) (t0 : Tok) (p : Nat) (pos : List Value) (kw : List (Str × Value))
    (hB : ∀ s : Shared, (hd.heap_39 w.params).In s.heap → BindsTo s (fdOf (hd.heap_39 w.params) 264) ⟨pos, kw⟩ [(Str.ofString "a", Value.ref l), (Str.ofString "x", (Value.str x tx)), (Str.ofString "lo", Value.int 0 t0), (Str.ofString "hi", Value.none), (Str.ofString "key", (Value.ref 239))])
    (hm : (l, listOf vs.toArray n) ∈ news) (hvs : SVs vs xs) (hshort : ∀ y ∈ xs, y.length ≤ 100) (hlen : vs.length ≤ 100) (hp : p ≤ vs.length) (hpi : ∀ (i : Nat) (y : Str), xs[i]? = some y → (x.cps.toList < (escS y).cps.toList ↔ p ≤ i)) :
    Call w (.ref 264) pos kw 5 60 news (fun K => ∀ t, K (.int p t) news) := by
  revert w news l vs n xs x tx t0 p pos kw hB hm hvs hshort hlen hp hpi
  intro w news l vs n xs x tx t0 p pos kw hB hm hvs hshort hlen hp hpi
  k_extra "m:my intro"
  k_extra "m:my enterB"
  replace F' : Fr g' L' h' (fun y => List.lookup y [(Str.ofString "key", (Value.ref 239)), (Str.ofString "hi", Value.none), (Str.ofString "lo", Value.int 0 t0), (Str.ofString "x", (Value.str x tx)), (Str.ofString "a", Value.ref l)]) := F'
  k_extra "m:my run"
  rename Fr g' L' _ _ => F1
  rename News g' L' _ _ => N1
  refine my_while (fun k m₁ news₁ => ∃ (lo hi : Nat) (tl th : Tok), k = hi - lo ∧ lo ≤ p ∧ p ≤ hi ∧ hi ≤ vs.length ∧ Nm m₁ [(Str.ofString "lo", Value.int lo tl), (Str.ofString "hi", Value.int hi th), (Str.ofString "a", Value.ref l), (Str.ofString "x", (Value.str x tx)), (Str.ofString "key", (Value.ref 239))] ∧ news₁ = news)
    F1 N1 htk ⟨0, vs.length, _, _, rfl, Nat.zero_le _, hp, Nat.le_refl _, ⟨rfl, rfl, rfl, rfl, rfl, trivial⟩, rfl⟩ ?_
  clear F1 N1
  rintro k m₁ news₁ h₁ tk₁ htk F₁ N₁ ⟨lo, hi, tl, th, rfl, hl1, hl2, hl3, hnm, rfl⟩
  revert htk F₁ N₁ hl1 hl2 hl3 hnm hm N hret
  revert m₁ news₁ h₁ tk₁ lo hi tl th
  intro m₁ news₁ h₁ tk₁ lo hi tl th
  intros htk F₁ N₁ hl1 hl2 hl3 hnm hm N hret
  replace F₁ := fr_nm F₁ hnm
  dsimp only [kstB] at F₁
  k_extra "m:my run"
  · obtain ⟨mid, hmide, hm1, hm2⟩ := mid_ex (by assumption)
    have hv3 : mid < vs.length := Nat.lt_of_lt_of_le hm2 hl3
    have hv4 : (mid : Int) < 2 ^ 63 := lt63 hv3 hlen
    rw [hmide]
    obtain ⟨v', hx'⟩ : ∃ v', vs[mid]? = some v' := ⟨vs[mid]'hv3, List.getElem?_eq_getElem hv3⟩
    revert hx'
    revert v'
    intro v'
    intros hx'
    obtain ⟨y, hy'⟩ : ∃ y, xs[mid]? = some y := ⟨xs[mid]'(hvs.1 ▸ hv3), List.getElem?_eq_getElem (hvs.1 ▸ hv3)⟩
    revert hy'
    revert y
    intro y
    intros hy'
    have hpm := hpi mid y hy'
    obtain ⟨ty, hty⟩ := hvs.2 mid v' y hx' hy'
    revert hty
    revert ty
    intro ty
    intros hty
    have hys := hshort y (List.mem_of_getElem? hy')
    subst hty
    refine my_item (by k_asm) hm (by first | exact Int.natCast_nonneg _ | exact hv4 | omega) (by first | exact hv4 | omega) hx' ?_ (by with_unfolding_all rfl)
    k_extra "m:my run"
    refine use_call (esc w _ y ty hys) (by k_asm) (by k_asm) (by k_asm) (by k_asm) (by k_asm) rfl (by k_extra "m:my room") (by k_extra "m:my room") (by assumption) ?_
    intro t₂ h₂ tk₂ htk F₂ N₂
    k_extra "m:my run"
    · have hp1 := hpm.mp (by assumption)
      exact ⟨_, _, _, _, mid - lo, rfl, htk, by k_asm, by k_asm, Nat.sub_lt_sub_right hm1 hm2, lo, mid, tl, _, rfl, hl1, by omega, by omega, ⟨rfl, by rw [← hmide]; rfl, rfl, rfl, rfl, trivial⟩, rfl⟩
    · have hp1 : ¬ p ≤ mid := fun q => absurd (hpm.mpr q) (by assumption)
      exact ⟨_, _, _, _, hi - (mid + 1), rfl, htk, by k_asm, by k_asm, meas2 hm1 hm2, mid + 1, hi, _, th, rfl, by omega, hl2, hl3, ⟨by rw [Int.natCast_succ, ← hmide]; rfl, rfl, rfl, rfl, rfl, trivial⟩, rfl⟩
  · obtain rfl : p = lo := by omega
    k_extra "m:my end"

theorem bisLPlain (w : World) (news : List (Addr × Obj)) (l : Addr) (vs : List Value) (n : Nat) (xs : List Str) (v : Value) (x : Str) (t0 : Tok) (p : Nat) (pos : List Value) (kw : List (Str × Value))
    (hB : ∀ s : Shared, (hd.heap_39 w.params).In s.heap → BindsTo s (fdOf (hd.heap_39 w.params) 282) ⟨pos, kw⟩ [(Str.ofString "a", Value.ref l), (Str.ofString "x", v), (Str.ofString "lo", Value.int 0 t0), (Str.ofString "hi", Value.none), (Str.ofString "key", Value.none)])
    (hm : (l, listOf vs.toArray n) ∈ news) (hvs : TVs w news vs xs) (hv : TV w news v x) (hlen : vs.length ≤ 100) (hp : p ≤ vs.length) (hpi : ∀ (i : Nat) (y : Str), xs[i]? = some y → (y.cps.toList < x.cps.toList ↔ i < p)) :
    Call w (.ref 282) pos kw 5 60 news (fun K => ∀ t, K (.int p t) news) := by
  revert w news l vs n xs v x t0 p pos kw hB hm hvs hv hlen hp hpi
  intro w news l vs n xs v x t0 p pos kw hB hm hvs hv hlen hp hpi
  k_extra "m:my intro"
  k_extra "m:my enterB"
  replace F' : Fr g' L' h' (fun y => List.lookup y [(Str.ofString "key", Value.none), (Str.ofString "hi", Value.none), (Str.ofString "lo", Value.int 0 t0), (Str.ofString "x", v), (Str.ofString "a", Value.ref l)]) := F'
  k_extra "m:my run"
  rename Fr g' L' _ _ => F1
  rename News g' L' _ _ => N1
  refine my_while (fun k m₁ news₁ => ∃ (lo hi : Nat) (tl th : Tok), k = hi - lo ∧ lo ≤ p ∧ p ≤ hi ∧ hi ≤ vs.length ∧ Nm m₁ [(Str.ofString "lo", Value.int lo tl), (Str.ofString "hi", Value.int hi th), (Str.ofString "a", Value.ref l), (Str.ofString "x", v), (Str.ofString "key", Value.none)] ∧ news₁ = news)
    F1 N1 htk ⟨0, vs.length, _, _, rfl, Nat.zero_le _, hp, Nat.le_refl _, ⟨rfl, rfl, rfl, rfl, rfl, trivial⟩, rfl⟩ ?_
  clear F1 N1
  rintro k m₁ news₁ h₁ tk₁ htk F₁ N₁ ⟨lo, hi, tl, th, rfl, hl1, hl2, hl3, hnm, rfl⟩
  revert htk F₁ N₁ hl1 hl2 hl3 hnm hm hvs hv N hret
  revert m₁ news₁ h₁ tk₁ lo hi tl th
  intro m₁ news₁ h₁ tk₁ lo hi tl th
  intros htk F₁ N₁ hl1 hl2 hl3 hnm hm hvs hv N hret
  replace F₁ := fr_nm F₁ hnm
  dsimp only [kstB] at F₁
  k_extra "m:my run"
  · obtain ⟨mid, hmide, hm1, hm2⟩ := mid_ex (by assumption)
    have hv3 : mid < vs.length := Nat.lt_of_lt_of_le hm2 hl3
    have hv4 : (mid : Int) < 2 ^ 63 := lt63 hv3 hlen
    rw [hmide]
    obtain ⟨v', hx'⟩ : ∃ v', vs[mid]? = some v' := ⟨vs[mid]'hv3, List.getElem?_eq_getElem hv3⟩
    revert hx'
    revert v'
    intro v'
    intros hx'
    obtain ⟨y, hy'⟩ : ∃ y, xs[mid]? = some y := ⟨xs[mid]'(hvs.1 ▸ hv3), List.getElem?_eq_getElem (hvs.1 ▸ hv3)⟩
    revert hy'
    revert y
    intro y
    intros hy'
    have hpm := hpi mid y hy'
    refine my_item (by k_asm) hm (by first | exact Int.natCast_nonneg _ | exact hv4 | omega) (by first | exact hv4 | omega) hx' ?_ (by with_unfolding_all rfl)
    k_extra "m:my run"
    refine use_tree (tv_lt w _ _ _ _ _ (hvs.2 _ _ _ hx' hy') hv) (by k_asm) (by k_asm) (by k_asm) (by k_asm) (by k_asm) rfl (by k_extra "m:my room") (by k_extra "m:my room") (by assumption) ?_
    intro h₂ tk₂ htk F₂ N₂
    k_extra "m:my run"
    · have hp1 := hpm.mp (by assumption)
      exact ⟨_, _, _, _, hi - (mid + 1), rfl, htk, by k_asm, by k_asm, meas2 hm1 hm2, mid + 1, hi, _, th, rfl, by omega, hl2, hl3, ⟨by rw [Int.natCast_succ, ← hmide]; rfl, rfl, rfl, rfl, rfl, trivial⟩, rfl⟩
    · have hp1 : ¬ mid < p := fun q => absurd (hpm.mpr q) (by assumption)
      exact ⟨_, _, _, _, mid - lo, rfl, htk, by k_asm, by k_asm, Nat.sub_lt_sub_right hm1 hm2, lo, mid, tl, _, rfl, hl1, by omega, by omega, ⟨rfl, by rw [← hmide]; rfl, rfl, rfl, rfl, trivial⟩, rfl⟩
  · obtain rfl : p = lo := by omega
    k_extra "m:my end"

theorem bisLKey (w : World) (news : List (Addr × Obj)) (l : Addr) (vs : List Value) (n : Nat) (xs : List Str) (x : Str) (tx : Tok) (t0 : Tok) (p : Nat) (pos : List Value) (kw : List (Str × Value))
    (hB : ∀ s : Shared, (hd.heap_39 w.params).In s.heap → BindsTo s (fdOf (hd.heap_39 w.params) 282) ⟨pos, kw⟩ [(Str.ofString "a", Value.ref l), (Str.ofString "x", (Value.str x tx)), (Str.ofString "lo", Value.int 0 t0), (Str.ofString "hi", Value.none), (Str.ofString "key", (Value.ref 239))])
    (hm : (l, listOf vs.toArray n) ∈ news) (hvs : SVs vs xs) (hshort : ∀ y ∈ xs, y.length ≤ 100) (hlen : vs.length ≤ 100) (hp : p ≤ vs.length) (hpi : ∀ (i : Nat) (y : Str), xs[i]? = some y → ((escS y).cps.toList < x.cps.toList ↔ i < p)) :
    Call w (.ref 282) pos kw 5 60 news (fun K => ∀ t, K (.int p t) news) := by
  revert w news l vs n xs x tx t0 p pos kw hB hm hvs hshort hlen hp hpi
  intro w news l vs n xs x tx t0 p pos kw hB hm hvs hshort hlen hp hpi
  k_extra "m:my intro"
  k_extra "m:my enterB"
  replace F' : Fr g' L' h' (fun y => List.lookup y [(Str.ofString "key", (Value.ref 239)), (Str.ofString "hi", Value.none), (Str.ofString "lo", Value.int 0 t0), (Str.ofString "x", (Value.str x tx)), (Str.ofString "a", Value.ref l)]) := F'
  k_extra "m:my run"
  rename Fr g' L' _ _ => F1
  rename News g' L' _ _ => N1
  refine my_while (fun k m₁ news₁ => ∃ (lo hi : Nat) (tl th : Tok), k = hi - lo ∧ lo ≤ p ∧ p ≤ hi ∧ hi ≤ vs.length ∧ Nm m₁ [(Str.ofString "lo", Value.int lo tl), (Str.ofString "hi", Value.int hi th), (Str.ofString "a", Value.ref l), (Str.ofString "x", (Value.str x tx)), (Str.ofString "key", (Value.ref 239))] ∧ news₁ = news)
    F1 N1 htk ⟨0, vs.length, _, _, rfl, Nat.zero_le _, hp, Nat.le_refl _, ⟨rfl, rfl, rfl, rfl, rfl, trivial⟩, rfl⟩ ?_
  clear F1 N1
  rintro k m₁ news₁ h₁ tk₁ htk F₁ N₁ ⟨lo, hi, tl, th, rfl, hl1, hl2, hl3, hnm, rfl⟩
  revert htk F₁ N₁ hl1 hl2 hl3 hnm hm N hret
  revert m₁ news₁ h₁ tk₁ lo hi tl th
  intro m₁ news₁ h₁ tk₁ lo hi tl th
  intros htk F₁ N₁ hl1 hl2 hl3 hnm hm N hret
  replace F₁ := fr_nm F₁ hnm
  dsimp only [kstB] at F₁
  k_extra "m:my run"
  · obtain ⟨mid, hmide, hm1, hm2⟩ := mid_ex (by assumption)
    have hv3 : mid < vs.length := Nat.lt_of_lt_of_le hm2 hl3
    have hv4 : (mid : Int) < 2 ^ 63 := lt63 hv3 hlen
    rw [hmide]
    obtain ⟨v', hx'⟩ : ∃ v', vs[mid]? = some v' := ⟨vs[mid]'hv3, List.getElem?_eq_getElem hv3⟩
    revert hx'
    revert v'
    intro v'
    intros hx'
    obtain ⟨y, hy'⟩ : ∃ y, xs[mid]? = some y := ⟨xs[mid]'(hvs.1 ▸ hv3), List.getElem?_eq_getElem (hvs.1 ▸ hv3)⟩
    revert hy'
    revert y
    intro y
    intros hy'
    have hpm := hpi mid y hy'
    obtain ⟨ty, hty⟩ := hvs.2 mid v' y hx' hy'
    revert hty
    revert ty
    intro ty
    intros hty
    have hys := hshort y (List.mem_of_getElem? hy')
    subst hty
    refine my_item (by k_asm) hm (by first | exact Int.natCast_nonneg _ | exact hv4 | omega) (by first | exact hv4 | omega) hx' ?_ (by with_unfolding_all rfl)
    k_extra "m:my run"
    refine use_call (esc w _ y ty hys) (by k_asm) (by k_asm) (by k_asm) (by k_asm) (by k_asm) rfl (by k_extra "m:my room") (by k_extra "m:my room") (by assumption) ?_
    intro t₂ h₂ tk₂ htk F₂ N₂
    k_extra "m:my run"
    · have hp1 := hpm.mp (by assumption)
      exact ⟨_, _, _, _, hi - (mid + 1), rfl, htk, by k_asm, by k_asm, meas2 hm1 hm2, mid + 1, hi, _, th, rfl, by omega, hl2, hl3, ⟨by rw [Int.natCast_succ, ← hmide]; rfl, rfl, rfl, rfl, rfl, trivial⟩, rfl⟩
    · have hp1 : ¬ mid < p := fun q => absurd (hpm.mpr q) (by assumption)
      exact ⟨_, _, _, _, mid - lo, rfl, htk, by k_asm, by k_asm, Nat.sub_lt_sub_right hm1 hm2, lo, mid, tl, _, rfl, hl1, by omega, by omega, ⟨rfl, by rw [← hmide]; rfl, rfl, rfl, rfl, trivial⟩, rfl⟩
  · obtain rfl : p = lo := by omega
    k_extra "m:my end"
end Mine
end
section
namespace Mine
set_option maxRecDepth 100000
set_option maxHeartbeats 8000000
set_option linter.all false
noncomputable def insAt (p : Nat) (v : α) (l : List α) : List α := l.take p ++ v :: l.drop p
section
variable {prog : Program} {w : World} {A : Around} {E : Value → Shared → Prop} {s : Shared} {h₀ : Heap} {L l : Addr} {m : Str → Option Value} {rest : List (Addr × Obj)} {vs : List Value} {n : Nat}
theorem my_insert {p : Nat} {t : Tok} {v : Value} {Q : Value → Shared → Prop} (F : Fr h₀ L s.heap m) (N : News h₀ L s.heap ((l, listOf vs.toArray n) :: rest)) (hne : ∀ q ∈ rest, q.1 ≠ l) (hp : p ≤ vs.length) (hl : vs.length ≤ 1000)
    (h : ∀ h', Fr h₀ L h' m → News h₀ L h' ((l, listOf (insAt p v vs).toArray (n + 1)) :: rest) → Q .none { s with heap := h' }) :
    wpAny (model prog w) A (call (.builtin "list.insert") [.ref l, .int p t, v]) Q E s := by
  refine kl_insert F N ?_ ?_ (Upd.head hne) ?_ h
  · unfold Builtin.List.listFitsIndex
    simp only [Bool.and_eq_true, decide_eq_true_eq]
    omega
  · unfold kl_ins insAt
    rw [if_neg (by omega)]
    have : min (p : Int).toNat vs.length = p := by omega
    show List.take (min (p : Int).toNat vs.length) vs ++ v :: List.drop (min (p : Int).toNat vs.length) vs = _
    rw [this]
  · show vs.length ≤ sizeLine
    rw [sizeLine_eq]; omega
end
theorem bndRPlain {w : World} (l : Addr) (v : Value) (t0 : Tok) (s : Shared) (X : (hd.heap_39 w.params).In s.heap) : BindsTo s (fdOf (hd.heap_39 w.params) 264) ⟨[Value.ref l, v, Value.int 0 t0, Value.none], []⟩ [(Str.ofString "a", Value.ref l), (Str.ofString "x", v), (Str.ofString "lo", Value.int 0 t0), (Str.ofString "hi", Value.none), (Str.ofString "key", Value.none)] :=
  kp_binds X (fun S => by kernel_rfl)
theorem bndRKey {w : World} (l : Addr) (v : Value) (t0 : Tok) (s : Shared) (X : (hd.heap_39 w.params).In s.heap) : BindsTo s (fdOf (hd.heap_39 w.params) 264) ⟨[Value.ref l, v, Value.int 0 t0, Value.none], [(Str.ofString "key", Value.ref 239)]⟩ [(Str.ofString "a", Value.ref l), (Str.ofString "x", v), (Str.ofString "lo", Value.int 0 t0), (Str.ofString "hi", Value.none), (Str.ofString "key", (Value.ref 239))] :=
  kp_binds X (fun S => by kernel_rfl)
theorem bndLPlain {w : World} (l : Addr) (v : Value) (t0 : Tok) (s : Shared) (X : (hd.heap_39 w.params).In s.heap) : BindsTo s (fdOf (hd.heap_39 w.params) 282) ⟨[Value.ref l, v, Value.int 0 t0, Value.none], []⟩ [(Str.ofString "a", Value.ref l), (Str.ofString "x", v), (Str.ofString "lo", Value.int 0 t0), (Str.ofString "hi", Value.none), (Str.ofString "key", Value.none)] :=
  kp_binds X (fun S => by kernel_rfl)
theorem bndLKey {w : World} (l : Addr) (v : Value) (t0 : Tok) (s : Shared) (X : (hd.heap_39 w.params).In s.heap) : BindsTo s (fdOf (hd.heap_39 w.params) 282) ⟨[Value.ref l, v, Value.int 0 t0, Value.none], [(Str.ofString "key", Value.ref 239)]⟩ [(Str.ofString "a", Value.ref l), (Str.ofString "x", v), (Str.ofString "lo", Value.int 0 t0), (Str.ofString "hi", Value.none), (Str.ofString "key", (Value.ref 239))] :=
  kp_binds X (fun S => by kernel_rfl)
theorem insRPlain (w : World) (rest : List (Addr × Obj)) (l : Addr) (vs : List Value) (n : Nat) (xs : List Str) (v : Value) (x : Str) (p : Nat)
    (hne : ∀ q ∈ rest, q.1 ≠ l) (hvs : TVs w ((l, listOf vs.toArray n) :: rest) vs xs) (hv : TV w ((l, listOf vs.toArray n) :: rest) v x) (hlen : vs.length ≤ 100) (hp : p ≤ vs.length) (hpi : ∀ (i : Nat) (y : Str), xs[i]? = some y → (x.cps.toList < y.cps.toList ↔ p ≤ i)) :
    Call w (.ref 255) [.ref l, v] [] 8 90 ((l, listOf vs.toArray n) :: rest) (fun K => K .none ((l, listOf (insAt p v vs).toArray (n + 1)) :: rest)) := by
  revert w rest l vs n xs v x p hne hvs hv hlen hp hpi
  intro w rest l vs n xs v x p hne hvs hv hlen hp hpi
  k_extra "m:my intro"
  k_extra "m:my enter"
  k_extra "m:my run"
  refine use_call (bisRPlain w _ l vs n xs v x _ p _ _ (bndRPlain _ _ _) (.head _) hvs hv hlen hp hpi) (by k_asm) (by k_asm) (by k_asm) (by k_asm) (by k_asm) rfl (by k_extra "m:my room") (by k_extra "m:my room") (by first | assumption | omega) ?_
  intro t₂ h₂ tk₂ htk F₂ N₂
  k_extra "m:my run"
  refine my_insert (by k_asm) (by k_asm) hne hp (by omega) ?_
  intro h₃ F₃ N₃
  k_extra "m:my run"
  k_extra "m:my end"

theorem insRKey (w : World) (rest : List (Addr × Obj)) (l : Addr) (vs : List Value) (n : Nat) (xs : List Str) (x : Str) (tx : Tok) (p : Nat)
    (hne : ∀ q ∈ rest, q.1 ≠ l) (hvs : SVs vs xs) (hshort : ∀ y ∈ xs, y.length ≤ 100) (hx : x.length ≤ 100) (hlen : vs.length ≤ 100) (hp : p ≤ vs.length) (hpi : ∀ (i : Nat) (y : Str), xs[i]? = some y → ((escS x).cps.toList < (escS y).cps.toList ↔ p ≤ i)) :
    Call w (.ref 255) [.ref l, (Value.str x tx)] [(Str.ofString "key", Value.ref 239)] 8 90 ((l, listOf vs.toArray n) :: rest) (fun K => K .none ((l, listOf (insAt p (Value.str x tx) vs).toArray (n + 1)) :: rest)) := by
  revert w rest l vs n xs x tx p hne hvs hshort hx hlen hp hpi
  intro w rest l vs n xs x tx p hne hvs hshort hx hlen hp hpi
  k_extra "m:my intro"
  k_extra "m:my enter"
  k_extra "m:my run"
  refine use_call (esc w _ x tx hx) (by k_asm) (by k_asm) (by k_asm) (by k_asm) (by k_asm) rfl (by k_extra "m:my room") (by k_extra "m:my room") (by first | assumption | omega) ?_
  intro tx2 h₂ tk₂ htk F₂ N₂
  k_extra "m:my run"
  refine use_call (bisRKey w _ l vs n xs (escS x) tx2 _ p _ _ (bndRKey _ _ _) (.head _) hvs hshort hlen hp hpi) (by k_asm) (by k_asm) (by k_asm) (by k_asm) (by k_asm) rfl (by k_extra "m:my room") (by k_extra "m:my room") (by first | assumption | omega) ?_
  intro t₂ h₂ tk₂ htk F₂ N₂
  k_extra "m:my run"
  refine my_insert (by k_asm) (by k_asm) hne hp (by omega) ?_
  intro h₃ F₃ N₃
  k_extra "m:my run"
  k_extra "m:my end"

theorem insLPlain (w : World) (rest : List (Addr × Obj)) (l : Addr) (vs : List Value) (n : Nat) (xs : List Str) (v : Value) (x : Str) (p : Nat)
    (hne : ∀ q ∈ rest, q.1 ≠ l) (hvs : TVs w ((l, listOf vs.toArray n) :: rest) vs xs) (hv : TV w ((l, listOf vs.toArray n) :: rest) v x) (hlen : vs.length ≤ 100) (hp : p ≤ vs.length) (hpi : ∀ (i : Nat) (y : Str), xs[i]? = some y → (y.cps.toList < x.cps.toList ↔ i < p)) :
    Call w (.ref 273) [.ref l, v] [] 8 90 ((l, listOf vs.toArray n) :: rest) (fun K => K .none ((l, listOf (insAt p v vs).toArray (n + 1)) :: rest)) := by
  revert w rest l vs n xs v x p hne hvs hv hlen hp hpi
  intro w rest l vs n xs v x p hne hvs hv hlen hp hpi
  k_extra "m:my intro"
  k_extra "m:my enter"
  k_extra "m:my run"
  refine use_call (bisLPlain w _ l vs n xs v x _ p _ _ (bndLPlain _ _ _) (.head _) hvs hv hlen hp hpi) (by k_asm) (by k_asm) (by k_asm) (by k_asm) (by k_asm) rfl (by k_extra "m:my room") (by k_extra "m:my room") (by first | assumption | omega) ?_
  intro t₂ h₂ tk₂ htk F₂ N₂
  k_extra "m:my run"
  refine my_insert (by k_asm) (by k_asm) hne hp (by omega) ?_
  intro h₃ F₃ N₃
  k_extra "m:my run"
  k_extra "m:my end"

theorem insLKey (w : World) (rest : List (Addr × Obj)) (l : Addr) (vs : List Value) (n : Nat) (xs : List Str) (x : Str) (tx : Tok) (p : Nat)
    (hne : ∀ q ∈ rest, q.1 ≠ l) (hvs : SVs vs xs) (hshort : ∀ y ∈ xs, y.length ≤ 100) (hx : x.length ≤ 100) (hlen : vs.length ≤ 100) (hp : p ≤ vs.length) (hpi : ∀ (i : Nat) (y : Str), xs[i]? = some y → ((escS y).cps.toList < (escS x).cps.toList ↔ i < p)) :
    Call w (.ref 273) [.ref l, (Value.str x tx)] [(Str.ofString "key", Value.ref 239)] 8 90 ((l, listOf vs.toArray n) :: rest) (fun K => K .none ((l, listOf (insAt p (Value.str x tx) vs).toArray (n + 1)) :: rest)) := by
  revert w rest l vs n xs x tx p hne hvs hshort hx hlen hp hpi
  intro w rest l vs n xs x tx p hne hvs hshort hx hlen hp hpi
  k_extra "m:my intro"
  k_extra "m:my enter"
  k_extra "m:my run"
  refine use_call (esc w _ x tx hx) (by k_asm) (by k_asm) (by k_asm) (by k_asm) (by k_asm) rfl (by k_extra "m:my room") (by k_extra "m:my room") (by first | assumption | omega) ?_
  intro tx2 h₂ tk₂ htk F₂ N₂
  k_extra "m:my run"
  refine use_call (bisLKey w _ l vs n xs (escS x) tx2 _ p _ _ (bndLKey _ _ _) (.head _) hvs hshort hlen hp hpi) (by k_asm) (by k_asm) (by k_asm) (by k_asm) (by k_asm) rfl (by k_extra "m:my room") (by k_extra "m:my room") (by first | assumption | omega) ?_
  intro t₂ h₂ tk₂ htk F₂ N₂
  k_extra "m:my run"
  refine my_insert (by k_asm) (by k_asm) hne hp (by omega) ?_
  intro h₃ F₃ N₃
  k_extra "m:my run"
  k_extra "m:my end"
end Mine
end
section
open PySem PySem.W PyProof.Rows
namespace Mine
set_option maxRecDepth 100000
set_option maxHeartbeats 8000000
/-! a bisect called without lo and hi -/
noncomputable def dtok (w : World) (f : Addr) : Tok := match (fdOf (hd.heap_39 w.params) f).defaults with
  | .ref a => (match (hd.heap_39 w.params).lookup a with
    | some ⟨_, _, .seq its _, _⟩ => (match its.toList with
      | .int _ t :: _ => t
      | _ => 0)
    | _ => 0)
  | _ => 0
theorem bndL0 {w : World} (l : Addr) (v : Value) (s : Shared) (X : (hd.heap_39 w.params).In s.heap) : BindsTo s (fdOf (hd.heap_39 w.params) 282) ⟨[Value.ref l, v], []⟩ [(Str.ofString "a", Value.ref l), (Str.ofString "x", v), (Str.ofString "lo", Value.int 0 (dtok w 282)), (Str.ofString "hi", Value.none), (Str.ofString "key", Value.none)] :=
  kp_binds X (fun S => by kernel_rfl)
theorem bndR0 {w : World} (l : Addr) (v : Value) (s : Shared) (X : (hd.heap_39 w.params).In s.heap) : BindsTo s (fdOf (hd.heap_39 w.params) 264) ⟨[Value.ref l, v], []⟩ [(Str.ofString "a", Value.ref l), (Str.ofString "x", v), (Str.ofString "lo", Value.int 0 (dtok w 264)), (Str.ofString "hi", Value.none), (Str.ofString "key", Value.none)] :=
  kp_binds X (fun S => by kernel_rfl)
theorem bndLK0 {w : World} (l : Addr) (v : Value) (s : Shared) (X : (hd.heap_39 w.params).In s.heap) : BindsTo s (fdOf (hd.heap_39 w.params) 282) ⟨[Value.ref l, v], [(Str.ofString "key", Value.ref 239)]⟩ [(Str.ofString "a", Value.ref l), (Str.ofString "x", v), (Str.ofString "lo", Value.int 0 (dtok w 282)), (Str.ofString "hi", Value.none), (Str.ofString "key", (Value.ref 239))] :=
  kp_binds X (fun S => by kernel_rfl)
theorem bndRK0 {w : World} (l : Addr) (v : Value) (s : Shared) (X : (hd.heap_39 w.params).In s.heap) : BindsTo s (fdOf (hd.heap_39 w.params) 264) ⟨[Value.ref l, v], [(Str.ofString "key", Value.ref 239)]⟩ [(Str.ofString "a", Value.ref l), (Str.ofString "x", v), (Str.ofString "lo", Value.int 0 (dtok w 264)), (Str.ofString "hi", Value.none), (Str.ofString "key", (Value.ref 239))] :=
  kp_binds X (fun S => by kernel_rfl)
end Mine
end
section
namespace Mine
set_option maxRecDepth 100000
set_option maxHeartbeats 8000000
set_option linter.all false
theorem words_c7_0 : True := by
  (k_with "m:in 3" => ((fail_if_success (k_extra "m:out c7")); ((with_reducible refine no_implicit_lambda% (Mine.alA3 ?ne ((?_ : Mine.B3 _) _ _ _))); k_extra "m:eps"; intros h0 h1 h2; (with_reducible refine Mine.d3 ?_); revert h0 h1 h2)))
  trivial
noncomputable abbrev tupleOf (vs : List Value) : Obj := { cls := .type "tuple", data := .seq vs.toArray }
noncomputable def RowsJ (w : World) (news0 : List (Addr × Obj)) (x : Str) (tx : Tok) (num : Int) (tn : Tok) (lN lP lT : Addr) (PI : Nat → List Str → List Str → Prop) (i : Nat) (m : Str → Option Value) (news : List (Addr × Obj)) : Prop :=
  ∃ (vsN vsP : List Value) (nN nP nT : Nat) (objs : List (Addr × Obj)) (xsN xsP : List Str),
    news = (lT, listOf (List.replicate (2 * i) Value.none).toArray nT) :: (lP, listOf vsP.toArray nP) :: (lN, listOf vsN.toArray nN) :: (objs ++ news0) ∧
    TVs w objs vsN xsN ∧ SVs vsP xsP ∧ PI i xsN xsP ∧ (∀ q ∈ objs, @LT.lt Nat _ lT q.1) ∧
    Nm m [(Str.ofString "text", Value.str x tx), (Str.ofString "number", Value.int num tn), (Str.ofString "names", Value.ref lN), (Str.ofString "pages", Value.ref lP), (Str.ofString "told", Value.ref lT)]
theorem reorg1 {h₀ h : Heap} {L : Addr} {a b t n i p : Addr × Obj} {r1 r2 : List (Addr × Obj)} (N : News h₀ L h (t :: n :: a :: b :: i :: p :: (r1 ++ r2))) : News h₀ L h (t :: p :: n :: i :: (([a, b] ++ r1) ++ r2)) :=
  news_sub N (sub_c (.head _) (sub_c (.tail _ (.tail _ (.tail _ (.tail _ (.tail _ (.head _)))))) (sub_c (.tail _ (.head _)) (sub_c (.tail _ (.tail _ (.tail _ (.tail _ (.head _))))) (sub_c (.tail _ (.tail _ (.head _))) (sub_c (.tail _ (.tail _ (.tail _ (.head _)))) fun q hq => .tail _ (.tail _ (.tail _ (.tail _ (.tail _ (.tail _ hq)))))))))))
theorem reorg2 {h₀ h : Heap} {L : Addr} {t n i p : Addr × Obj} {r1 r2 : List (Addr × Obj)} (N : News h₀ L h (t :: n :: i :: p :: (r1 ++ r2))) : News h₀ L h (t :: p :: n :: i :: (([] ++ r1) ++ r2)) :=
  news_sub N (sub_c (.head _) (sub_c (.tail _ (.tail _ (.tail _ (.head _)))) (sub_c (.tail _ (.head _)) (sub_c (.tail _ (.tail _ (.head _))) fun q hq => .tail _ (.tail _ (.tail _ (.tail _ hq)))))))
theorem insAt_get {α : Type} {p : Nat} {v : α} {l : List α} (hp : p ≤ l.length) (i : Nat) : (insAt p v l)[i]? = if i < p then l[i]? else if i = p then some v else l[i - 1]? := by
  unfold insAt
  rw [List.getElem?_append]
  have hl : (l.take p).length = p := by simp [hp]
  rw [hl]
  by_cases h : i < p
  · rw [if_pos h, if_pos h, List.getElem?_take, if_pos h]
  · rw [if_neg h, if_neg h]
    by_cases h2 : i = p
    · subst h2; simp
    · rw [if_neg h2]
      obtain ⟨k, rfl⟩ : ∃ k, i = p + k + 1 := Nat.exists_eq_add_of_lt (Nat.lt_of_le_of_ne (Nat.le_of_not_lt h) (Ne.symm h2))
      have : p + k + 1 - p = k + 1 := by rw [Nat.add_assoc, Nat.add_sub_cancel_left]
      rw [this, List.getElem?_cons_succ, List.getElem?_drop]
      congr 1
theorem insAt_length {α : Type} {p : Nat} {v : α} {l : List α} (hp : p ≤ l.length) : (insAt p v l).length = l.length + 1 := by
  unfold insAt; simp; first | (rw [Nat.min_eq_left hp, ← Nat.add_assoc, Nat.add_sub_of_le hp]; done) | omega
theorem tvs_ins {w : World} {l : List (Addr × Obj)} {vs : List Value} {xs : List Str} {v : Value} {x : Str} {p : Nat} (h : TVs w l vs xs) (hv : TV w l v x) (hp : p ≤ xs.length) : TVs w l (insAt p v vs) (insAt p x xs) := by
  have hp' : p ≤ vs.length := by rw [h.1]; exact hp
  refine ⟨by rw [insAt_length hp', insAt_length hp, h.1], fun i u y h1 h2 => ?_⟩
  rw [insAt_get hp'] at h1
  rw [insAt_get hp] at h2
  split at h1
  · rename_i hi; rw [if_pos hi] at h2; exact h.2 i u y h1 h2
  · rename_i hi
    rw [if_neg hi] at h2
    split at h1
    · rename_i he; rw [if_pos he] at h2; cases h1; cases h2; exact hv
    · rename_i he; rw [if_neg he] at h2; exact h.2 _ u y h1 h2
theorem svs_ins {vs : List Value} {xs : List Str} {x : Str} {t : Tok} {p : Nat} (h : SVs vs xs) (hp : p ≤ xs.length) : SVs (insAt p (Value.str x t) vs) (insAt p x xs) := by
  have hp' : p ≤ vs.length := by rw [h.1]; exact hp
  refine ⟨by rw [insAt_length hp', insAt_length hp, h.1], fun i u y h1 h2 => ?_⟩
  rw [insAt_get hp'] at h1
  rw [insAt_get hp] at h2
  split at h1
  · rename_i hi; rw [if_pos hi] at h2; exact h.2 i u y h1 h2
  · rename_i hi
    rw [if_neg hi] at h2
    split at h1
    · rename_i he; rw [if_pos he] at h2; cases h1; cases h2; exact ⟨t, rfl⟩
    · rename_i he; rw [if_neg he] at h2; exact h.2 _ u y h1 h2
theorem allLt_get {d : Addr} {l : List (Addr × Obj)} (h : AllLt d l) : ∀ p ∈ l, @LT.lt Nat _ p.1 d := by
  induction l with
  | nil => intro p hp; nomatch hp
  | cons q r ih =>
    intro p hp
    rcases List.mem_cons.mp hp with rfl | hp
    · exact h.1
    · exact ih h.2 p hp
theorem reorg3 {h₀ h : Heap} {L : Addr} {a b c d : Addr × Obj} {r : List (Addr × Obj)} (N : News h₀ L h (a :: b :: c :: d :: r)) : News h₀ L h (a :: d :: c :: b :: r) :=
  news_sub N (sub_c (.head _) (sub_c (.tail _ (.tail _ (.tail _ (.head _)))) (sub_c (.tail _ (.tail _ (.head _))) (sub_c (.tail _ (.head _)) fun q hq => .tail _ (.tail _ (.tail _ (.tail _ hq)))))))
theorem tv_mono {w : World} {l l' : List (Addr × Obj)} {v : Value} {x : Str} (h : TV w l v x) (hs : ∀ p ∈ l, p ∈ l') : TV w l' v x := by
  cases h with
  | str x t => exact .str x t
  | qn a d k x t h1 h2 => exact .qn a d k x t (hs _ h1) (hs _ h2)
theorem tvs_mono {w : World} {l l' : List (Addr × Obj)} {vs : List Value} {xs : List Str} (h : TVs w l vs xs) (hs : ∀ p ∈ l, p ∈ l') : TVs w l' vs xs := ⟨h.1, fun i v x h1 h2 => tv_mono (h.2 i v x h1 h2) hs⟩
theorem rows (w : World) (news0 : List (Addr × Obj)) (x : Str) (tx : Tok) (num : Int) (tn : Tok) (hx : x.length = 5) (hn0 : 0 ≤ num) (hn1 : num < 1000000) (PI : Nat → List Str → List Str → Prop)
    (hPL : ∀ i xsN xsP, PI i xsN xsP → xsN.length = i ∧ xsP.length = i ∧ ∀ y ∈ xsP, y.length ≤ 5)
    (hPS : ∀ (i : Nat) (xsN xsP : List Str) (j : Nat), i < 5 → PI i xsN xsP → (num.fdiv 4 + (0 + (i : Int)) * (1 + num.fmod 4)).fmod 5 = j → j < 5 → ∃ p q, p ≤ xsN.length ∧ q ≤ xsP.length ∧
      (∀ (k : Nat) (z : Str), xsN[k]? = some z → ((Txt.slice x (some j) none).cps.toList < z.cps.toList ↔ p ≤ k)) ∧
      (∀ (k : Nat) (z : Str), xsN[k]? = some z → (z.cps.toList < (Txt.slice x (some j) none).cps.toList ↔ k < p)) ∧
      (∀ (k : Nat) (z : Str), xsP[k]? = some z → ((escS (Txt.slice x (some j) none)).cps.toList < (escS z).cps.toList ↔ q ≤ k)) ∧
      (Txt.slice x (some j) none).length ≤ 5 ∧ PI (i + 1) (insAt p (Txt.slice x (some j) none) xsN) (insAt q (Txt.slice x (some j) none) xsP))
    (hP0 : PI 0 [] []) :
    Call w (.ref 320) [.str x tx, .int num tn] [] 12 120 news0 (fun K => ∀ lN lP lT lU nN nP nT vsN vsP objs xsN xsP, TVs w objs vsN xsN → SVs vsP xsP → PI 5 xsN xsP →
      (∀ q ∈ objs, @LT.lt Nat _ lT q.1) → (∀ q ∈ objs, @LT.lt Nat _ q.1 lU) → @LT.lt Nat _ lN lP → @LT.lt Nat _ lP lT → @LT.lt Nat _ lT lU → (∀ q ∈ news0, q.1 < lN) →
      K (.ref lU) ((lU, tupleOf [.ref lN, .ref lP, .ref lT]) :: (lN, listOf vsN.toArray nN) :: (lP, listOf vsP.toArray nP) :: (lT, listOf (List.replicate 10 Value.none).toArray nT) :: (objs ++ news0))) := by
  revert w news0 x tx num tn hx hn0 hn1 PI hPL hPS hP0
  intro w news0 x tx num tn hx hn0 hn1 PI hPL hPS hP0
  k_extra "m:my intro"
  k_extra "m:my enter"
  k_extra "m:my run"
  with_reducible rename (∀ p ∈ news0, p.1 < _) => l1a
  obtain ⟨lN, eN, l1a⟩ : ∃ lN : Nat, lN = _ ∧ ∀ p ∈ news0, p.1 < lN := ⟨_, rfl, l1a⟩
  subst eN
  with_reducible rename (@LT.lt Nat _ lN _ ∧ AllLt _ news0) => l1b
  obtain ⟨lP, eP, l1b⟩ : ∃ lP : Nat, lP = _ ∧ (@LT.lt Nat _ lN lP ∧ AllLt lP news0) := ⟨_, rfl, l1b⟩
  subst eP
  with_reducible rename (@LT.lt Nat _ lP _ ∧ _ ∧ AllLt _ news0) => l1c
  obtain ⟨lT, eT, l1c⟩ : ∃ lT : Nat, lT = _ ∧ (@LT.lt Nat _ lP lT ∧ @LT.lt Nat _ lN lT ∧ AllLt lT news0) := ⟨_, rfl, l1c⟩
  subst eT
  refine my_For htk ?_ (fun _ => rfl)
  k_extra "m:my run"
  refine my_range (n := 5) (RowsJ w news0 x tx num tn lN lP lT PI) rfl rfl rfl (by assumption) (by rw [hx]; decide) (by rw [hx]; rfl) (by k_asm) (by k_asm) htk
    ⟨[], [], 0, 0, 0, [], [], [], rfl, ⟨rfl, fun i v x h => by simp at h⟩, ⟨rfl, fun i v x h => by simp at h⟩, hP0, fun q hq => (nomatch hq), ⟨rfl, rfl, rfl, rfl, rfl, trivial⟩⟩ ?_ ?_
  · rintro i t m₁ news₁ h₁ tk₁ I it hi htk F₁ N₁ hI ⟨vsN, vsP, nN, nP, nT, objs, xsN, xsP, rfl, hN, hP, hPI, hO, hnm⟩
    have hI2 := allNe_of hI
    simp only [AllNe_q0, AllNe_q1] at hI2
    replace F₁ := fr_nm1 F₁ hnm
    dsimp only [kstB] at F₁
    k_extra "m:my runI"
    with_reducible rename Fr g' _ _ _ => F2
    obtain ⟨j, hj, hj5⟩ : ∃ j : Nat, (num.fdiv 4 + (0 + (i : Int)) * (1 + num.fmod 4)).fmod x.length = j ∧ j < 5 := by
      rw [hx]
      have h1 := Int.fmod_nonneg_of_pos (num.fdiv 4 + (0 + (i : Int)) * (1 + num.fmod 4)) (b := ((5 : Nat) : Int)) (by decide)
      have h2 := Int.fmod_lt_of_pos (num.fdiv 4 + (0 + (i : Int)) * (1 + num.fmod 4)) (b := ((5 : Nat) : Int)) (by decide)
      exact ⟨Int.toNat _, (Int.toNat_of_nonneg h1).symm, by omega⟩
    rw [hj] at F2
    obtain ⟨hL1, hL2, hL3⟩ := hPL _ _ _ hPI
    obtain ⟨pN, pP, hpN, hpP, hR, hL, hK, hY, hPI'⟩ := hPS i xsN xsP j hi hPI (by rw [← hj, hx]; rfl) hj5
    have hvl : vsN.length = i := by rw [hN.1]; exact hL1
    have hvp : vsP.length = i := by rw [hP.1]; exact hL2
    generalize hy : Txt.slice x (some (j : Int)) none = y at *
    with_reducible rename Fr g' L' _ _ => F3
    with_reducible rename News g' L' _ _ => N3
    refine cut_fr F3 (fun mm f s' => f = Flow.next ∧ ∃ h' tk' vN new, s' = ⟨h', s.gens, s.drawn, tk', s.os⟩ ∧ 1 ≤ tk' ∧ Fr g' L' h' mm ∧
      News g' L' h' ((lT, listOf (List.replicate (2 * i + 1) Value.none).toArray (nT + 1)) :: (lP, listOf vsP.toArray nP) :: (lN, listOf (insAt pN vN vsN).toArray (nN + 1)) :: (I, it) :: ((new ++ objs) ++ news0)) ∧
      TV w (new ++ objs) vN y ∧ (∀ q ∈ new, @LT.lt Nat _ lT q.1 ∧ @Ne Nat q.1 I)) ?_ ?_
    · k_extra "m:my step"
      k_extra "m:my runI"
      · rw [hy]
        refine use_call (qn_new w _ _ _) (by k_asm) (by k_asm) (by k_asm) (by k_asm) (by k_asm) rfl (by k_extra "m:my room") (by k_extra "m:my room") (by assumption) ?_
        intro a2 d2 k2 hlt hda h2 tk2 htk F2 N2
        k_extra "m:my run"
        k_lt hlt
        replace hda := ltN hda
        with_reducible rename News g' L' _ _ => N2
        have N3 := rot5 N2
        refine use_call (insRPlain w _ lN vsN nN xsN (.ref a2) y pN ?_ ?_ ?_ (by omega) (by omega) hR)
          (by k_asm) (by k_asm) (by k_asm) N3 (by k_asm) rfl (by k_extra "m:my room") (by k_extra "m:my room") (by assumption) ?_
        · k_extra "m:my ne"
          exact tail_ne hO l1a (by omega) (by omega)
        · refine ⟨hN.1, fun i v z h1 h2 => ?_⟩
          refine tv_mono (hN.2 i v z h1 h2) fun p hp => by simp [hp]
        · exact .qn a2 d2 k2 y _ (.tail _ (.head _)) (.tail _ (.tail _ (.head _)))
        · intro h4 tk4 htk F4 N4
          k_extra "m:my run"
          with_reducible rename News g' L' _ _ => N4
          have N5 := rot4 N4
          refine my_append (by k_asm) N5 (by k_extra "m:my ne"; exact tail_ne hO l1a (by omega) (by omega)) (by simp; omega) ?_
          intro h6 F6 N6
          k_extra "m:my run"
          with_reducible rename News g' L' _ _ => N6
          rw [show List.replicate (2 * i) Value.none ++ [Value.none] = List.replicate (2 * i + 1) Value.none from (List.replicate_succ' ..).symm] at N6
          refine hid ⟨rfl, h6, _, Value.ref a2, _, rfl, htk, by k_asm, reorg1 N6, .qn a2 d2 k2 y _ (.head _) (.tail _ (.head _)), ?_⟩
          · intro q hq
            simp only [List.mem_cons, List.not_mem_nil, or_false] at hq
            rcases hq with rfl | rfl
            · exact ⟨by dsimp only; omega, by dsimp only; omega⟩
            · exact ⟨by dsimp only; omega, by dsimp only; omega⟩
      · rw [hy]
        with_reducible rename News g' L' _ _ => N2
        have N3 := rot3 N2
        refine use_call (insLPlain w _ lN vsN nN xsN (.str y _) y pN ?_ ?_ (.str y _) (by omega) (by omega) hL)
          (by k_asm) (by k_asm) (by k_asm) N3 (by k_asm) rfl (by k_extra "m:my room") (by k_extra "m:my room") (by assumption) ?_
        · k_extra "m:my ne"
          exact tail_ne hO l1a (by omega) (by omega)
        · refine ⟨hN.1, fun i v z h1 h2 => ?_⟩
          refine tv_mono (hN.2 i v z h1 h2) fun p hp => by simp [hp]
        · intro h4 tk4 htk F4 N4
          k_extra "m:my run"
          with_reducible rename News g' L' _ _ => N4
          have N5 := rot2 N4
          refine my_append (by k_asm) N5 (by k_extra "m:my ne"; exact tail_ne hO l1a (by omega) (by omega)) (by simp; omega) ?_
          intro h6 F6 N6
          k_extra "m:my run"
          with_reducible rename News g' L' _ _ => N6
          rw [show List.replicate (2 * i) Value.none ++ [Value.none] = List.replicate (2 * i + 1) Value.none from (List.replicate_succ' ..).symm] at N6
          exact hid ⟨rfl, h6, _, Value.str y _, [], rfl, htk, by k_asm, reorg2 N6, .str y _, fun q hq => nomatch hq⟩
    · intro f s' h
      obtain ⟨rfl, h', tk', vN, new, rfl, htk, F8, N8, hTV, hnew⟩ := h
      k_extra "m:my run"
      rw [hy]
      with_reducible rename News g' L' _ _ => N2
      have N3 := rot1 N2
      have hnw : ∀ q ∈ (new ++ objs) ++ news0, q.1 ≠ lP := by
        refine tail_ne (T := lT) (fun q hq => ?_) l1a (by omega) (by omega)
        rcases List.mem_append.mp hq with h | h
        · exact (hnew q h).1
        · exact hO q h
      refine use_call (insRKey w _ lP vsP nP xsP y _ pP ?_ hP (fun z hz => Nat.le_trans (hL3 z hz) (by decide)) (Nat.le_trans hY (by decide)) (by omega) (by omega) hK)
          (by k_asm) (by k_asm) (by k_asm) N3 (by k_asm) rfl (by k_extra "m:my room") (by k_extra "m:my room") (by assumption) ?_
      · k_extra "m:my ne"
        exact hnw
      · intro h4 tk4 htk F4 N4
        k_extra "m:my run"
        with_reducible rename News g' L' _ _ => N4
        have N5 := rot1 N4
        refine my_append (by k_asm) N5 (by
            k_extra "m:my ne"
            refine fun q hq => ?_
            show @Ne Nat _ _
            rcases List.mem_append.mp hq with h | h
            · rcases List.mem_append.mp h with h | h
              · have := (hnew q h).1; omega
              · have := hO q h; omega
            · have : @LT.lt Nat _ q.1 lN := l1a q h; omega) (by simp; omega) ?_
        intro h6 F6 N6
        k_extra "m:my run"
        with_reducible rename News g' L' _ _ => N6
        rw [show List.replicate (2 * i + 1) Value.none ++ [Value.none] = List.replicate (2 * (i + 1)) Value.none from (List.replicate_succ' ..).symm] at N6
        have N7 := rot3 N6
        refine ⟨h6, _, _, _, rfl, htk, by k_asm, N7, ?_, fun p hp => (nomatch hp), ⟨insAt pN vN vsN, insAt pP (Value.str y _) vsP, _, _, _, new ++ objs, insAt pN y xsN, insAt pP y xsP, rfl, tvs_ins (tvs_mono hN fun p hp => List.mem_append_right _ hp) hTV hpN, svs_ins hP hpP, hPI', ?_, ⟨rfl, rfl, rfl, rfl, rfl, trivial⟩⟩⟩
        · intro q hq
          show @Ne Nat _ _
          simp only [List.mem_cons, List.mem_append] at hq
          rcases hq with rfl | rfl | rfl | (h | h) | h
          · dsimp only; omega
          · dsimp only; omega
          · dsimp only; omega
          · exact (hnew q h).2
          · exact hI q (by simp [h])
          · exact hI q (by simp [h])
        · intro q hq
          rcases List.mem_append.mp hq with h | h
          · exact (hnew q h).1
          · exact hO q h
  · rintro h' tk' m' news' htk F' N' ⟨vsN, vsP, nN, nP, nT, objs, xsN, xsP, rfl, hN, hP, hPI, hO, hnm⟩
    replace F' := fr_nm F' hnm
    dsimp only [kstB] at F'
    k_extra "m:my run"
    with_reducible rename News h₀ L _ _ => N9
    with_reducible rename (@LT.lt Nat _ lT _ ∧ _ ∧ _ ∧ AllLt _ (objs ++ news0)) => l1d
    have hal := allLt_get l1d.2.2.2
    exact hret lN lP lT _ _ _ _ vsN vsP objs xsN xsP hN hP hPI hO (fun q hq => hal q (List.mem_append_left _ hq)) l1b.1 l1c.1 l1d.1 l1a _ _ htk (by k_asm) (reorg3 N9)
theorem words_c7_out : True := by
  (k_with "m:out c7" => skip)
  trivial
end Mine
end
section
namespace Mine
set_option maxRecDepth 100000
set_option maxHeartbeats 8000000
set_option linter.all false
theorem tgt_new (w : World) (lW aW : Addr) (rest : List (Addr × Obj)) (hm : (aW, ({ cls := .type "builtin_function_or_method", data := .fields #[.builtin "list.append", .ref lW] } : Obj)) ∈ rest) :
    Call w (.ref 228) [.ref aW] [] 5 60 rest (fun K => ∀ (x d lD D0 l0 lDS lNS lPM lPS : Nat) (kk : Nat → Tok) (nNS : Nat) (t1 t2 : Tok) (vS vE : Value), (∀ p ∈ rest, p.1 < d) → d < x → x < lD → lD < D0 → D0 < l0 → l0 < lDS → lDS < lNS → lNS < lPM → lPM < lPS →
      K (.ref x) ((x, instObj 228 d) :: (d, dictOf (tg17 w kk aW lD lDS lNS lPM lPS false false) 17) :: (lD, listOf [].toArray 0) :: (D0, xmlTup t1 t2) :: (l0, listOf [.ref D0].toArray 0) :: (lDS, listOf [.ref l0].toArray 0) :: (lNS, listOf [vS, vE].toArray nNS) :: (lPS, listOf [.bool false].toArray 0) :: rest)) := by
  revert w lW aW rest hm
  intro w lW aW rest hm
  unfold Call; k_fill; intro pg loose mean mg mb dp un gd cn cs a ccd cl outer A₀ base h₀ L m s Q E B F X N T hk hd hu h1 hret; refine call_tok h1 ?_
  k_dflt (refine' call_cls ?k1 ?k2 ?k3 ?k4 ?k5 ?k6 ?_; (case k1 => k_asm); (case k2 => k_asm); (case k3 => k_asm); (case k4 => k_is); (case k5 => k_is); (case k6 => k_is); k_whole; intro x1 d1 h1 F1 N1 l1a l2; replace l2 := ltN l2)
  k_extra "m:my enter"
  replace F' : Fr g' L' h' (fun y => List.lookup y [(Str.ofString "exclude_tags", Value.none), (Str.ofString "exclude_attrs", Value.none), (Str.ofString "qname_aware_attrs", Value.none), (Str.ofString "qname_aware_tags", Value.none), (Str.ofString "rewrite_prefixes", Value.bool false), (Str.ofString "strip_text", Value.bool false), (Str.ofString "with_comments", Value.bool false), (Str.ofString "write", Value.ref aW), (Str.ofString "self", Value.ref x1)]) := F'
  k_extra "m:my steps"
  with_reducible rename News h₀ L _ _ => N9
  with_reducible rename Fr h₀ L _ _ => F9
  refine' hret x1 d1 _ _ _ _ _ _ _ (kkOf [_, _, _, _, _, _, _, _, _, _, _, _, _, _, _, _, _, _]) _ _ _ _ _ l1a l2 ?o1 ?o2 ?o3 ?o4 ?o5 ?o6 ?o7 _ _ htk F9 (news_sub N9 ?sub)
  case sub => k_extra "m:my sub"
  all_goals omega
end Mine
end
section
namespace Mine
set_option maxRecDepth 100000
set_option maxHeartbeats 8000000
set_option linter.all false
theorem walkC (w : World) (lDS l0 D0 : Nat) (lv : List Nat) (nD n0 : Nat) (rest : List (Addr × Obj)) (hlv : ∀ a ∈ lv, ∃ n, (a, listOf [].toArray n) ∈ rest) (hz : lv.length ≤ 20) :
    Call w (.ref 332) [.ref lDS] [] 6 60 ((l0, listOf [.ref D0].toArray n0) :: (lDS, listOf (((l0 :: lv).map Value.ref)).toArray nD) :: rest) (fun K => ∀ (D : Nat), LCg.Off1 D ((l0, listOf [.ref D0].toArray n0) :: (lDS, listOf (((l0 :: lv).map Value.ref)).toArray nD) :: rest) → K (.ref D) ((D, listOf [.ref D0].toArray 1) :: (l0, listOf [.ref D0].toArray n0) :: (lDS, listOf (((l0 :: lv).map Value.ref)).toArray nD) :: rest)) := by
  revert w lDS l0 D0 lv nD n0 rest hlv hz
  intro w lDS l0 D0 lv nD n0 rest hlv hz
  k_extra "m:my intro"
  k_extra "m:my enterC"
  obtain ⟨o1, hE, d1⟩ := CellsAre.one Y'
  subst hE
  simp only [List.cons_append, List.nil_append] at N'
  replace d1 : o1.data = .cell (some (.ref lDS)) := d1
  replace F' : Fr g' L' h' (fun _ => none) := fr_is F' fun y => by rfl
  k_extra "m:my run"
  refine with_tok htk ?_
  refine comp_two (h₀ := g') (L := L') (m := fun _ => none) (fun i ys news => news = ((L' + 1, o1) :: (l0, listOf [.ref D0].toArray n0) :: (lDS, listOf (((l0 :: lv).map Value.ref)).toArray nD) :: rest) ∧ ys = if i = lv.length + 1 then [.ref D0] else []) (by with_unfolding_all rfl) (by decide) rfl (by decide) rfl rfl (by decide) ?_ (fun _ => rfl) (fun _ _ => rfl)
  k_extra "m:my run"
  refine ⟨_, _, _, _, _, _, lv.length + 1, _, rfl, rfl, (by k_asm), (by k_asm), (by assumption), small_n _ (by simp; omega), (by rw [size_n]; simp), ⟨rfl, rfl⟩, ?_, ?_⟩
  · rintro i h₁ tk₁ hi htk ys news₁ I oI C oC D m₂ t E' ⟨rfl, hys⟩ hC hx F₁ N₁ hoff ⟨ne1, ne2, ne3⟩
    k_extra "m:my run"
    obtain ⟨al, its, kk, hal, hmem, hits⟩ : ∃ al its kk, ((l0 :: lv).map Value.ref)[lv.length - i]? = some (.ref al) ∧ (al, listOf its.toArray kk) ∈ (l0, listOf [.ref D0].toArray n0) :: (lDS, listOf (((l0 :: lv).map Value.ref)).toArray nD) :: rest ∧ its = if i = lv.length then [Value.ref D0] else [] := by
      by_cases hil : i = lv.length
      · exact ⟨l0, _, n0, by simp [hil], .head _, by rw [if_pos hil]⟩
      · obtain ⟨k, hk⟩ : ∃ k, lv.length - i = k + 1 := ⟨lv.length - i - 1, by first | exact (Nat.sub_add_cancel (Nat.sub_pos_of_lt (Nat.lt_of_le_of_ne (Nat.le_of_lt_succ (by assumption)) (by assumption)))).symm | omega⟩
        have hkl : k < lv.length := Nat.lt_of_lt_of_le (Nat.lt_succ_self k) (Nat.le_trans (Nat.le_of_eq hk.symm) (Nat.sub_le _ _))
        obtain ⟨n, hn⟩ := hlv lv[k] (List.getElem_mem hkl)
        exact ⟨lv[k], [], n, by rw [hk, List.map_cons, List.getElem?_cons_succ, List.getElem?_map, List.getElem?_eq_getElem hkl]; rfl, .tail _ (.tail _ hn), by rw [if_neg hil]⟩
    have hlen : ((l0 :: lv).map Value.ref).length = lv.length + 1 := by simp
    refine my_item (x := .ref al) (by k_asm) (by k_extra "m:my mem") (by rw [hlen]; omega) (by rw [hlen]; omega) (by rw [hlen, show (((lv.length + 1 : Nat) : Int) - 1 - (0 + (i : Int))).toNat = lv.length - i from by omega]; exact hal) ?_ (by with_unfolding_all rfl)
    refine hid ⟨al, its, kk, _, _, _, rfl, rfl, by k_asm, by k_asm, hoff, .tail _ hmem, ?_, rfl, ?_⟩
    · rw [hys, hits]; split <;> split <;> simp
    · rw [hys, hits, if_neg (by omega), List.nil_append]
      simp only [Nat.add_right_cancel_iff]
  · rintro ys news₁ ⟨rfl, hys⟩
    rw [if_pos rfl] at hys
    subst hys
    intro D h₂ tk₂ F₂ N₂ o2
    k_extra "m:my run"
    with_reducible rename Fr h₀ L _ _ => F9
    with_reducible rename News h₀ L _ _ => N9
    exact hret D o2.2 _ _ (by assumption) F9 (news_sub N9 (by k_extra "m:my sub"))
end Mine
end
section
namespace Mine
set_option maxRecDepth 100000
set_option maxHeartbeats 8000000
set_option linter.all false
noncomputable abbrev tup3 (x : Str) (t t' : Tok) : Obj := { cls := .type "tuple", data := .seq #[.str x t, .str x t, .str (Str.ofString "") t'] }
theorem qnameC (w : World) (x d lD D0 l0 lDS lNS lPM lPS aW : Nat) (kk : Nat → Tok) (seen done : Bool) (n n0 nDS : Nat) (t1 t2 : Tok) (lv : List Nat) (rest : List (Addr × Obj)) (tag : Str) (t : Tok)
    (hlv : ∀ a ∈ lv, ∃ n, (a, listOf [].toArray n) ∈ rest) (hz : lv.length ≤ 20) (hb : (Txt.slice tag none (some 1) == Str.ofString "{") = false) (ht : tag.length ≤ 100) :
    CallC w (.ref 168) [.ref x, .str tag t] [] 20 150 ((x, instObj 228 d) :: (d, dictOf (tg18 w kk aW lD lDS lNS lPM lPS seen done) n) :: (D0, xmlTup t1 t2) :: (l0, listOf [.ref D0].toArray n0) :: (lDS, listOf (((l0 :: lv).map Value.ref)).toArray nDS) :: rest)
      (fun K => ∀ T t', AllLt T ((x, instObj 228 d) :: (d, dictOf (tg18 w kk aW lD lDS lNS lPM lPS seen done) n) :: (D0, xmlTup t1 t2) :: (l0, listOf [.ref D0].toArray n0) :: (lDS, listOf (((l0 :: lv).map Value.ref)).toArray nDS) :: rest) → K (.ref T) ((T, tup3 tag t t') :: (x, instObj 228 d) :: (d, dictOf (tg18 w kk aW lD lDS lNS lPM lPS seen done) n) :: (D0, xmlTup t1 t2) :: (l0, listOf [.ref D0].toArray n0) :: (lDS, listOf (((l0 :: lv).map Value.ref)).toArray nDS) :: rest)) := by
  revert w x d lD D0 l0 lDS lNS lPM lPS aW kk seen done n n0 nDS t1 t2 lv rest tag t hlv hz hb ht
  intro w x d lD D0 l0 lDS lNS lPM lPS aW kk seen done n n0 nDS t1 t2 lv rest tag t hlv hz hb ht
  k_extra "m:my introC"
  k_extra "m:my enter"
  replace F' : Fr g' L' h' (fun y => List.lookup y [(Str.ofString "uri", Value.none), (Str.ofString "qname", Value.str tag t), (Str.ofString "self", Value.ref x)]) := F'
  k_extra "m:my runI"
  k_extra "m:my step"
  k_extra "m:my run"
  refine my_ForT htk ?_ (fun _ => rfl)
  k_extra "m:my run"
  with_reducible rename News g' L' _ _ => N2
  replace N2 := rot6 (rot6 N2)
  refine use_call (walkC w lDS l0 D0 lv nDS n0 _ (fun a ha => ?_) hz) (by k_asm) (by k_asm) (by k_asm) N2 (by k_asm) rfl (by k_extra "m:my room") (by k_extra "m:my room") (by first | assumption | omega) ?_
  · obtain ⟨k, hk⟩ := hlv a ha
    exact ⟨k, by k_extra "m:my mem"; exact hk⟩
  intro lT hT h₂ tk₂ htk F₂ N₂
  simp only [LCg.Off1] at hT
  k_extra "m:my run"
  with_reducible rename News g' L' _ _ => N2
  with_reducible rename Fr g' L' _ _ => F2
  refine my_listT1 rfl (.head _) F2 N2 (by first | assumption | omega) ?_
  intro h₁ tk₁ I it htk F₁ N₁ hI
  have hI2 := allNe_of hI
  simp only [AllNe_q0, AllNe_q1] at hI2
  k_extra "m:my run"
  refine ⟨_, _, _, _, rfl, by first | assumption | omega, by k_asm, by k_asm, ne_of_allNe (by simp only [AllNe_q0, AllNe_q1]; exact hI2), fun p hp => by rw [List.mem_singleton.mp hp]; exact .head _, hid ?_⟩
  intro h₅ tk₅ htk F₅ N₅
  k_extra "m:my run"
  with_reducible rename (@LT.lt Nat _ lT _ ∧ _) => lT9
  with_reducible rename News h₀ L _ _ => N9
  exact hret _ _ (lt_news N9 lT9 (by k_extra "m:my sub")) _ _ (by first | assumption | omega) (by k_asm) (news_sub N9 (by k_extra "m:my sub"))
end Mine
end
section
namespace Mine
set_option maxRecDepth 100000
set_option maxHeartbeats 8000000
set_option linter.all false
theorem words_c11_0 : True := by
  (k_with "m:my run" => (repeat' ((fail_if_success (first | ((with_reducible show wpAny _ _ (exec _ _) _ _ _); first | (with_reducible show wpAny _ _ (exec (Stmt.While _ _ _ _) _) _ _ _) | (with_reducible show wpAny _ _ (exec (Stmt.For _ _ _ _ _) _) _ _ _)) | (k_extra "m:my stop") | ((with_reducible show wpAny _ _ (call _ _ _) _ _ _); first | (with_reducible show wpAny _ _ (call (Value.ref _) [Value.str _ _] _) _ _ _)))); k_extra "m:my step")))
  (k_with "m:my runI" => (repeat' ((fail_if_success (first | ((with_reducible show wpAny _ _ (exec _ _) _ _ _); first | (with_reducible show wpAny _ _ (exec (Stmt.While _ _ _ _) _) _ _ _) | (with_reducible show wpAny _ _ (exec (Stmt.For _ _ _ _ _) _) _ _ _) | (with_reducible show wpAny _ _ (exec (Stmt.If _ _ _ _) _) _ _ _)) | (k_extra "m:my stop") | ((with_reducible show wpAny _ _ (call _ _ _) _ _ _); first | (with_reducible show wpAny _ _ (call (Value.ref _) [Value.str _ _] _) _ _ _)))); k_extra "m:my step")))
  trivial
theorem flushC (w : World) (x d lD lDS lNS lPM lPS aW lW : Nat) (kk : Nat → Tok) (done : Bool) (n nD nW : Nat) (vsD vsW : List Value) (ys : List Str) (rest : List (Addr × Obj))
    (hys : StrsAre vsD ys) (hlen : (ys.map (·.length)).sum ≤ 90) (hlenD : ys.length ≤ 90) (hlenW : vsW.length ≤ 500) (hne : (ys.map (·.length)).sum ≠ 0)
    (oD : (x ≠ lD ∧ d ≠ lD ∧ lW ≠ lD ∧ aW ≠ lD) ∧ ∀ q ∈ rest, q.1 ≠ lD) (oW : (x ≠ lW ∧ d ≠ lW ∧ lD ≠ lW ∧ aW ≠ lW) ∧ ∀ q ∈ rest, q.1 ≠ lW) :
    Call w (.ref 184) [.ref x] [] 20 150 ((x, instObj 228 d) :: (d, dictOf (tg18 w kk aW lD lDS lNS lPM lPS true done) n) :: (lD, listOf vsD.toArray nD) :: (lW, listOf vsW.toArray nW) :: (aW, bndAp lW) :: rest)
      (fun K => ∀ t nD', K .none ((x, instObj 228 d) :: (d, dictOf (tg18 w kk aW lD lDS lNS lPM lPS true done) n) :: (lD, listOf [].toArray nD') :: (lW, listOf (vsW ++ [Value.str (escS (Txt.join (Str.ofString "") ys)) t]).toArray (nW + 1)) :: (aW, bndAp lW) :: rest)) := by
  revert w x d lD lDS lNS lPM lPS aW lW kk done n nD nW vsD vsW ys rest hys hlen hlenD hlenW hne oD oW
  intro w x d lD lDS lNS lPM lPS aW lW kk done n nD nW vsD vsW ys rest hys hlen hlenD hlenW hne oD oW
  k_extra "m:my intro"
  k_extra "m:my enter"
  k_extra "m:my run"
  · with_reducible rename Fr _ _ _ _ => Fq
    exact (Frag.In.keeps (K := Mine.hd.heap_39 w.params) (by assumption) Fq.keep) _ _ (k176 w)
  with_reducible rename Fr g' L' _ _ => Fj
  refine bound_join ((Frag.In.keeps X' Fj.keep) _ _ (k176 w)) (by k_asm) (by k_extra "m:my mem") hys (by rw [show (Str.ofString "").length = 0 from by decide +kernel]; omega) ?_
  intro t5 k5
  k_extra "m:my run"
  with_reducible rename News g' L' _ _ => N5
  refine my_delAll (by k_asm) (rot2 N5) (by k_extra "m:my ne"; exact oD.2) (by rw [StrsAre.length hys]; omega) ?_
  intro h6 n6 F6 N6
  replace N6 := rot2 (rot2 N6)
  repeat' ((fail_if_success (first | (with_reducible show wpAny _ _ (truthy (Value.str _ _)) _ _ _) | (with_reducible show wpAny _ _ (exec (Stmt.While _ _ _ _) _) _ _ _) | (with_reducible show wpAny _ _ (exec (Stmt.For _ _ _ _ _) _) _ _ _) | k_extra "m:my stop")); k_extra "m:my step")
  have hJ := join_length ys
  generalize Txt.join (Str.ofString "") ys = J at *
  refine KXt.truthy_pos (K := 90) (by omega) (by omega) (by decide) ?_
  intro k7
  dsimp only
  k_extra "m:my run"
  refine use_call (esc w _ J t5 (by omega)) (by k_asm) (by k_asm) (by k_asm) (by k_asm) (by k_asm) rfl (by k_extra "m:my room") (by k_extra "m:my room") (by first | assumption | omega) ?_
  intro t8 h8 tk8 htk F8 N8
  k_extra "m:my run"
  · with_reducible rename News g' L' _ _ => N8
    exact bndAt_N N8 (by k_extra "m:my mem")
  with_reducible rename News g' L' _ _ => N8
  refine bound_append (by k_asm) (rot3 N8) (by k_extra "m:my mem") (by k_extra "m:my ne"; exact oW.2) (by omega) ?_
  intro h9 F9 N9
  k_extra "m:my run"
  with_reducible rename Fr h₀ L _ _ => F9
  with_reducible rename News h₀ L _ _ => N9
  exact hret t8 n6 _ _ (by first | assumption | omega) F9 (news_sub N9 (by k_extra "m:my sub"))
end Mine
end
section
namespace Mine
set_option maxRecDepth 100000
set_option maxHeartbeats 8000000
set_option linter.all false
theorem words_c12_0 : True := by
  (k_with "m:my run" => (repeat' ((fail_if_success (first | ((with_reducible show wpAny _ _ (exec _ _) _ _ _); first | (with_reducible show wpAny _ _ (exec (Stmt.While _ _ _ _) _) _ _ _) | (with_reducible show wpAny _ _ (exec (Stmt.For _ _ _ _ _) _) _ _ _)) | (k_extra "m:my stop") | ((with_reducible show wpAny _ _ (call _ _ _) _ _ _); first | (with_reducible show wpAny _ _ (call (Value.ref _) [Value.str _ _] _) _ _ _)))); k_extra "m:my step")))
  (k_with "m:my runI" => (repeat' ((fail_if_success (first | ((with_reducible show wpAny _ _ (exec _ _) _ _ _); first | (with_reducible show wpAny _ _ (exec (Stmt.While _ _ _ _) _) _ _ _) | (with_reducible show wpAny _ _ (exec (Stmt.For _ _ _ _ _) _) _ _ _) | (with_reducible show wpAny _ _ (exec (Stmt.If _ _ _ _) _) _ _ _)) | (k_extra "m:my stop") | ((with_reducible show wpAny _ _ (call _ _ _) _ _ _); first | (with_reducible show wpAny _ _ (call (Value.ref _) [Value.str _ _] _) _ _ _)))); k_extra "m:my step")))
  trivial
/-- where the writer's things lie -/
noncomputable abbrev Ord (lW aW d x lD D0 l0 lDS lNS lPM lPS : Nat) : Prop := 201 < lW ∧ lW < aW ∧ aW < d ∧ d < x ∧ x < lD ∧ lD < D0 ∧ D0 < l0 ∧ l0 < lDS ∧ lDS < lNS ∧ lNS < lPM ∧ lPM < lPS
noncomputable def Inc : List Nat → Prop
  | a :: b :: t => a < b ∧ Inc (b :: t)
  | _ => True
theorem Inc.pw : ∀ {l : List Nat}, Inc l → List.Pairwise (@LT.lt Nat _) l
  | [], _ => .nil
  | [_], _ => .cons (fun _ h => nomatch h) .nil
  | a :: b :: t, h => by
    have ih := Inc.pw h.2
    refine .cons (fun c hc => ?_) ih
    rcases List.mem_cons.mp hc with rfl | hc
    · exact h.1
    · exact Nat.lt_trans h.1 ((List.pairwise_cons.mp ih).1 c hc)
theorem ord_pw {lW aW d x lD D0 l0 lDS lNS lPM lPS : Nat} (h : Ord lW aW d x lD D0 l0 lDS lNS lPM lPS) : List.Pairwise (@LT.lt Nat _) [201, lW, aW, d, x, lD, D0, l0, lDS, lNS, lPM, lPS] :=
  Inc.pw ⟨h.1, h.2.1, h.2.2.1, h.2.2.2.1, h.2.2.2.2.1, h.2.2.2.2.2.1, h.2.2.2.2.2.2.1, h.2.2.2.2.2.2.2.1, h.2.2.2.2.2.2.2.2.1, h.2.2.2.2.2.2.2.2.2.1, h.2.2.2.2.2.2.2.2.2.2, trivial⟩
inductive Two (a b : Nat) : List Nat → Prop
  | here {t : List Nat} (h : b ∈ t) : Two a b (a :: t)
  | there {c : Nat} {t : List Nat} (h : Two a b t) : Two a b (c :: t)
theorem Two.lt {a b : Nat} {l : List Nat} (P : List.Pairwise (@LT.lt Nat _) l) (h : Two a b l) : a < b := by
  induction h with
  | here h => exact (List.pairwise_cons.mp P).1 _ h
  | there _ ih => exact ih (List.pairwise_cons.mp P).2
/-- nothing else lies where the writer's changing things lie -/
noncomputable abbrev Far (lW d lD lDS lNS lPS : Nat) (l : List (Addr × Obj)) : Prop := ∀ q ∈ l, @Ne Nat q.1 201 ∧ @Ne Nat q.1 lW ∧ @Ne Nat q.1 d ∧ @Ne Nat q.1 lD ∧ @Ne Nat q.1 lDS ∧ @Ne Nat q.1 lNS ∧ @Ne Nat q.1 lPS
theorem far_low {lW aW d x lD D0 l0 lDS lNS lPM lPS : Nat} (h : Ord lW aW d x lD D0 l0 lDS lNS lPM lPS) {a : Nat} (h1 : @Ne Nat a 201) (ha : @LT.lt Nat _ a lW) :
    @Ne Nat a 201 ∧ @Ne Nat a lW ∧ @Ne Nat a d ∧ @Ne Nat a lD ∧ @Ne Nat a lDS ∧ @Ne Nat a lNS ∧ @Ne Nat a lPS :=
  have a2 := Nat.lt_trans (Nat.lt_trans ha h.2.1) h.2.2.1
  have a3 := Nat.lt_trans (Nat.lt_trans a2 h.2.2.2.1) h.2.2.2.2.1
  have a4 := Nat.lt_trans (Nat.lt_trans (Nat.lt_trans a3 h.2.2.2.2.2.1) h.2.2.2.2.2.2.1) h.2.2.2.2.2.2.2.1
  have a5 := Nat.lt_trans a4 h.2.2.2.2.2.2.2.2.1
  have a6 := Nat.lt_trans (Nat.lt_trans a5 h.2.2.2.2.2.2.2.2.2.1) h.2.2.2.2.2.2.2.2.2.2
  ⟨h1, Nat.ne_of_lt ha, Nat.ne_of_lt a2, Nat.ne_of_lt a3, Nat.ne_of_lt a4, Nat.ne_of_lt a5, Nat.ne_of_lt a6⟩
noncomputable abbrev lamPos : Pos := { line := 175, col := 71, endLine := 175, endCol := 96 }
noncomputable abbrev lamQual : Str := (Str.ofString "C14NWriterTarget._start" ++ ".<locals>.") ++ "<lambda>"
theorem startC (w : World) (ps : Array Value) (x d lD D0 l0 lDS lNS lPM lPS aW lW aD nl : Nat) (kk : Nat → Tok) (seen done : Bool) (n0 nDS nNS nPS nW nA nD k : Nat) (t1 t2 : Tok) (lv : List Nat) (vsN vsW vsD : List Value) (rest : List (Addr × Obj)) (tag : Str) (t : Tok)
    (hlv : ∀ a ∈ lv, ∃ n, (a, listOf [].toArray n) ∈ rest) (hz : lv.length ≤ 20) (hb : (Txt.slice tag none (some 1) == Str.ofString "{") = false) (ht : tag.length ≤ 100) (hlenW : vsW.length ≤ 500) (hlenN : vsN.length ≤ 500) (hk1 : k ≤ 100)
    (hps : TabOK lamPos lamQual ps rest) (hord : Ord lW aW d x lD D0 l0 lDS lNS lPM lPS) (oR : Far lW d lD lDS lNS lPS rest)
    (hA : (aD, dictOf [] nA) ∈ rest) (hAm : (aD == sysModules) = false) (hnl : ∃ n, (nl, listOf [].toArray n) ∈ rest) :
    Call w (.ref 204) [.ref x, .str tag t, .ref aD, .ref nl] [] 40 400 ((201, tabObj ps) :: (x, instObj 228 d) :: (d, dictOf (tg18 w kk aW lD lDS lNS lPM lPS seen done) 18) :: (D0, xmlTup t1 t2) :: (l0, listOf [.ref D0].toArray n0) :: (lDS, listOf (((l0 :: lv).map Value.ref)).toArray nDS) :: (lD, listOf vsD.toArray nD) :: (lW, listOf vsW.toArray nW) :: (aW, bndAp lW) :: (lNS, listOf vsN.toArray nNS) :: (lPS, listOf (List.replicate k (Value.bool false) ++ [Value.bool false]).toArray nPS) :: rest)
      (fun K => ∀ v nW' nNS' nPS' ta tb c' oc vs tq, oc.data = .fields vs → vs[1]? = some (.str lamQual tq) → Far lW d lD lDS lNS lPS [(c', oc)] → K .none ((c', oc) :: (201, tabObj #[rawInt lamPos.line, rawInt lamPos.col, .ref c']) :: (x, instObj 228 d) :: (d, dictOf (tg18 w kk aW lD lDS lNS lPM lPS true done) 18) :: (D0, xmlTup t1 t2) :: (l0, listOf [.ref D0].toArray n0) :: (lDS, listOf (((l0 :: lv).map Value.ref)).toArray nDS) :: (lD, listOf vsD.toArray nD) :: (lW, listOf (vsW ++ [Value.str (Str.ofString "<" ++ tag) ta] ++ [Value.str (Str.ofString ">") tb]).toArray nW') :: (aW, bndAp lW) :: (lNS, listOf (vsN ++ [v]).toArray nNS') :: (lPS, listOf (List.replicate k (Value.bool false) ++ [Value.bool false] ++ [Value.bool false]).toArray nPS') :: rest)) := by
  revert w ps x d lD D0 l0 lDS lNS lPM lPS aW lW aD nl kk seen done n0 nDS nNS nPS nW nA nD k t1 t2 lv vsN vsW vsD rest tag t hlv hz hb ht hlenW hlenN hk1 hps hord oR hA hAm hnl
  intro w ps x d lD D0 l0 lDS lNS lPM lPS aW lW aD nl kk seen done n0 nDS nNS nPS nW nA nD k t1 t2 lv vsN vsW vsD rest tag t hlv hz hb ht hlenW hlenN hk1 hps hord oR hA hAm hnl
  k_extra "m:my intro"
  obtain ⟨nn, hnl⟩ := hnl
  have oA := oR _ hA
  have oL := oR _ hnl
  have oR1 : ∀ q ∈ rest, q.1 ≠ 201 := fun q hq => (oR q hq).1
  have oR2 : ∀ q ∈ rest, q.1 ≠ lW := fun q hq => (oR q hq).2.1
  have oR3 : ∀ q ∈ rest, q.1 ≠ d := fun q hq => (oR q hq).2.2.1
  have oR4 : ∀ q ∈ rest, q.1 ≠ lNS := fun q hq => (oR q hq).2.2.2.2.2.1
  have oR5 : ∀ q ∈ rest, q.1 ≠ lPS := fun q hq => (oR q hq).2.2.2.2.2.2
  dsimp only at oA oL
  obtain ⟨oA1, oA2, oA3, -, -, oA6, oA7⟩ := oA
  obtain ⟨oL1, oL2, oL3, -, -, oL6, oL7⟩ := oL
  replace N : News h₀ L s.heap ((aD, dictOf [] nA) :: (nl, listOf [].toArray nn) :: (201, tabObj ps) :: (x, instObj 228 d) :: (d, dictOf (tg18 w kk aW lD lDS lNS lPM lPS seen done) 18) :: (D0, xmlTup t1 t2) :: (l0, listOf [.ref D0].toArray n0) :: (lDS, listOf (((l0 :: lv).map Value.ref)).toArray nDS) :: (lD, listOf vsD.toArray nD) :: (lW, listOf vsW.toArray nW) :: (aW, bndAp lW) :: (lNS, listOf vsN.toArray nNS) :: (lPS, listOf (List.replicate k (Value.bool false) ++ [Value.bool false]).toArray nPS) :: rest) := by
    refine news_sub N fun p hp => ?_
    rcases List.mem_cons.mp hp with rfl | hp
    · k_extra "m:my mem"; exact hA
    rcases List.mem_cons.mp hp with rfl | hp
    · k_extra "m:my mem"; exact hnl
    exact hp
  k_extra "m:my enterC"
  obtain ⟨o1, o2, hE, d1, d2⟩ := CellsAre.two Y'
  subst hE
  simp only [List.cons_append, List.nil_append] at N'
  replace d1 : o1.data = .cell none := d1.trans (congrArg Data.cell (by kernel_rfl))
  replace d2 : o2.data = .cell (some (.ref x)) := d2.trans (congrArg Data.cell (by kernel_rfl))
  replace F' : Fr g' L' h' (fun y => if y = Str.ofString "qname_text" then some Value.none else if y = Str.ofString "new_namespaces" then some (Value.ref nl) else if y = Str.ofString "attrs" then some (Value.ref aD) else if y = Str.ofString "tag" then some (Value.str tag t) else none) := fr_is F' fun y => by
    kernel_rfl
  with_reducible rename (@LT.lt Nat _ aD L' ∧ _) => hl0
  have hr2 := ne_up (d := L' + 1 + 1) N hl0 (l' := rest) (fun p hp => by k_extra "m:my mem"; exact hp) (by omega)
  have hr1 := ne_up (d := L' + 1) N hl0 (l' := rest) (fun p hp => by k_extra "m:my mem"; exact hp) (by omega)
  k_extra "m:my run"
  with_reducible rename Fr g' L' _ _ => F1
  with_reducible rename News g' L' _ _ => N1
  refine set_star (x := tag) (t := t) (a := aD) (nA := nA) (K := Mine.hd.heap_39 w.params) (by assumption) (by kernel_rfl) rfl rfl F1 N1 ?_ (by k_extra "m:my mem") hAm ?_ ?_
  · intro h2 F2
    k_extra "m:my step"
    exact ⟨rfl, _, rfl⟩
  · intro h2 tk2 F2
    k_extra "m:my step"
    exact ⟨rfl, _, rfl⟩
  intro D h2 tk2 hsh ep tb F2 N2 hD hOne
  dsimp only [AllLt] at hD
  k_extra "m:my run"
  refine my_dcompU (by first | exact htk | omega) (by with_unfolding_all rfl) (by with_unfolding_all rfl) rfl (by decide) ?_ (fun _ => rfl)
  k_extra "m:my run"
  with_reducible rename News g' L' _ _ => N3
  with_reducible rename Fr g' L' _ _ => F3
  refine with_tok (by first | exact htk | omega) ?_
  refine mk_lam (P := 201) (c := 203) (ps := ps) (r0 := rest) F3 (rot7 N3) T' (ch203 X') rfl (by k_extra "m:my ne"; exact oR1) rfl rfl hps (fun p hp => by k_extra "m:my mem"; exact hp) ?_
  intro f c' oc vs5 t5 ctv h5 tk5 F5 N5 hd5 hv5 hf5 hc5
  dsimp only [AllLt] at hf5
  k_extra "m:my run"
  show wpAny _ _ (call (Value.builtin "sorted") [Value.ref D] [(Str.ofString "key", Value.ref f)]) _ _ _
  with_reducible rename News g' L' _ _ => N5
  with_reducible rename Fr g' L' _ _ => F5
  refine sorted_one rfl (by first | exact htk | omega) hOne F5 N5 (by k_extra "m:my mem") ?_ ?_
  · intro h6 tk6 own htk F6 N6
    simp only [List.cons_append] at N6
    refine with_tok htk ?_
    have hCH := ch203 X'
    k_here; kn_here; k_dflt (refine wpAny_call ?_; kdv_enterE)
    k_extra "m:my run"
    · k_asm
    · with_reducible rename News g' L' _ _ => N7
      exact fun p hp => N7 p (.tail _ hp)
  intro S h7 tk7 c7 F7 N7 hS
  dsimp only [AllLt] at hS
  k_extra "m:my run"
  with_reducible rename News g' L' _ _ => N8
  with_reducible rename Fr g' L' _ _ => F8
  refine my_dcomp_oneN (fun k T o => k = tag ∧ ∃ t', o = tup3 tag t t') rfl rfl rfl (by decide) rfl rfl (.head _) F8 (drop1 N8) ?_ ?_
  · rintro I oI C oC Dd m₂ h9 tk9 E9 htk hC hx F9 N9 hoff ⟨ne1, ne2, ne3⟩
    replace F9 : Fr g' L' h9 _ := F9
    replace N9 : News g' L' h9 _ := N9
    refine with_tok htk ?_
    k_extra "m:my run"
    with_reducible rename News g' _ _ _ => N9
    replace N9 := rotK 17 (rotK 17 (rotK 17 (rotK 17 (rotK 17 N9 rfl) rfl) rfl) rfl) rfl
    dsimp only [List.eraseIdx] at N9
    refine use_meth (qnameC w x d lD D0 l0 lDS lNS lPM lPS aW kk seen done 18 n0 nDS t1 t2 lv _ tag t (fun a ha => ?_) hz hb ht) N9 (by k_extra "m:my mem") (by k_asm) (by k_asm) (by k_asm) N9 (by k_asm) rfl (by k_extra "m:my room") (by k_extra "m:my room") (by first | exact htk | omega) ?_
    · obtain ⟨k, hk⟩ := hlv a ha
      exact ⟨k, by k_extra "m:my mem"; exact hk⟩
    intro T tT hT h10 tk10 htk F10 N10
    k_extra "m:my run"
    refine hid ⟨tag, h10, tk10, _, strKind_is _ _ _ _, rfl, F10, news_sub N10 ?sub, ?off, T, _, rfl, ⟨rfl, tT, rfl⟩, lt_sub hT ?lt, rfl⟩
    case sub => k_extra "m:my sub"
    case lt => k_extra "m:my sub"
    case off => dsimp only [AllLt] at hT; exact And.intro ⟨by show @Ne Nat _ _; omega, by show @Ne Nat _ _; omega, by show @Ne Nat _ _; omega⟩ hoff
  · rintro k' T o D9 h9 tk9 od ⟨rfl, tT, rfl⟩ hT hlD F9 N9 hd9 hD9
    dsimp only [AllLt, LCg.Off1] at hT hD9 hlD
    replace F9 : Fr g' L' h9 _ := F9
    replace N9 : News g' L' h9 ((D9, od) :: (T, tup3 k' t tT) :: (c', oc) :: (201, tabObj #[rawInt lamPos.line, rawInt lamPos.col, .ref c']) :: (L' + 1, o2) :: (aD, dictOf [] nA) :: (nl, listOf [].toArray nn) :: (x, instObj 228 d) :: (d, dictOf (tg18 w kk aW lD lDS lNS lPM lPS seen done) 18) :: (D0, xmlTup t1 t2) :: (l0, listOf [.ref D0].toArray n0) :: (lDS, listOf (((l0 :: lv).map Value.ref)).toArray nDS) :: (lD, listOf vsD.toArray nD) :: (lW, listOf vsW.toArray nW) :: (aW, bndAp lW) :: (lNS, listOf vsN.toArray nNS) :: (lPS, listOf (List.replicate k (Value.bool false) ++ [Value.bool false]).toArray nPS) :: rest) := news_sub N9 (by k_extra "m:my sub")
    have hcW := ne_c (d := lW) hc5 ⟨_, by k_extra "m:my mem"⟩ oR2
    have hcD := ne_c (d := d) hc5 ⟨_, by k_extra "m:my mem"⟩ oR3
    have hcN := ne_c (d := lNS) hc5 ⟨_, by k_extra "m:my mem"⟩ oR4
    have hcL := ne_c (d := lD) hc5 ⟨_, by k_extra "m:my mem"⟩ fun q hq => (oR q hq).2.2.2.1
    have hcS := ne_c (d := lDS) hc5 ⟨_, by k_extra "m:my mem"⟩ fun q hq => (oR q hq).2.2.2.2.1
    have hc1 := ne_c (d := 201) hc5 ⟨_, by k_extra "m:my mem"⟩ oR1
    have hcP := ne_c (d := lPS) hc5 ⟨_, by k_extra "m:my mem"⟩ oR5
    have gT : @LT.lt Nat _ (L' + 1) T := by omega
    have gD1 : @LT.lt Nat _ (L' + 1) D9 ∧ @LT.lt Nat _ c' D9 ∧ @Ne Nat T D9 := ⟨by omega, by omega, by omega⟩
    have gL : @LT.lt Nat _ aD L' ∧ @LT.lt Nat _ nl L' ∧ @LT.lt Nat _ lPS L' := ⟨by omega, by omega, by omega⟩
    k_extra "m:my run"
    walk1
    k_extra "m:my run"
    with_reducible rename News g' L' _ _ => N10
    refine truthy_empty (n := nA) N10 (by k_extra "m:my mem") hAm ?_
    intro tkE
    try dsimp only
    k_extra "m:my run"
    with_reducible rename News g' L' _ _ => N10
    refine getm_empty (n := nA) N10 (by k_extra "m:my mem") ?_
    dsimp only
    k_extra "m:my run"
    with_reducible rename News g' L' _ _ => N10
    refine get_empty (n := nA) N10 (by k_extra "m:my mem") hAm ?_
    intro tkG
    try dsimp only
    k_extra "m:my run"
    with_reducible rename News g' L' _ _ => N10
    refine my_last N10 (by k_extra "m:my mem") (by rw [List.length_replicate]; omega) ?_ (by with_unfolding_all rfl)
    k_extra "m:my run"
    with_reducible rename News g' L' _ _ => N10
    replace N10 := rotK 17 N10 rfl
    dsimp only [List.eraseIdx] at N10
    refine my_append (by k_asm) N10 (by k_extra "m:my ne"; exact oR5) (by simp; omega) ?_
    intro h11 F11 N11
    k_extra "m:my run"
    with_reducible rename News g' L' _ _ => N10
    refine kda_item (v := .ref T) N10 (by k_extra "m:my mem") hd9 (strKind_is _ _ _ _) (by simp [valueAt]) ?_
    k_extra "m:my run"
    walk1
    k_extra "m:my run"
    · with_reducible rename News g' L' _ _ => N10
      exact bndAt_N N10 (by k_extra "m:my mem")
    with_reducible rename News g' L' _ _ => N10
    replace N10 := rotK 15 N10 rfl
    dsimp only [List.eraseIdx] at N10
    refine bound_append (by k_asm) N10 (by k_extra "m:my mem") (by k_extra "m:my ne"; exact oR2) (by omega) ?_
    intro h12 F12 N12
    k_extra "m:my run"
    walk1
    k_extra "m:my run"
    · with_reducible rename News g' L' _ _ => N10
      exact bndAt_N N10 (by k_extra "m:my mem")
    with_reducible rename News g' L' _ _ => N10
    refine bound_append (by k_asm) N10 (by k_extra "m:my mem") (by k_extra "m:my ne"; exact oR2) (by simp; omega) ?_
    intro h13 F13 N13
    k_extra "m:my run"
    k_extra "m:my step"
    k_extra "m:my run"
    with_reducible rename News h₀ L _ _ => N20
    with_reducible rename Fr h₀ L _ _ => F20
    simp only [List.push_toArray] at N20
    exact hret _ _ _ _ _ _ c' oc _ _ hd5 hv5 (fun q hq => by rw [List.mem_singleton.mp hq]; exact ⟨hc1, hcW, hcD, hcL, hcS, hcN, hcP⟩) _ _ htk F20 (news_sub N20 (by k_extra "m:my sub"))
end Mine
end
section
namespace Mine
set_option maxRecDepth 100000
set_option maxHeartbeats 8000000
set_option linter.all false
theorem words_c13_0 : True := by
  (k_with "m:my run" => (repeat' ((fail_if_success (first | ((with_reducible show wpAny _ _ (exec _ _) _ _ _); first | (with_reducible show wpAny _ _ (exec (Stmt.While _ _ _ _) _) _ _ _) | (with_reducible show wpAny _ _ (exec (Stmt.For _ _ _ _ _) _) _ _ _)) | (k_extra "m:my stop") | ((with_reducible show wpAny _ _ (call _ _ _) _ _ _); first | (with_reducible show wpAny _ _ (call (Value.ref 204) _ _) _ _ _) | (with_reducible show wpAny _ _ (call (Value.ref 184) _ _) _ _ _)))); k_extra "m:my step")))
  (k_with "m:my runI" => (repeat' ((fail_if_success (first | ((with_reducible show wpAny _ _ (exec _ _) _ _ _); first | (with_reducible show wpAny _ _ (exec (Stmt.While _ _ _ _) _) _ _ _) | (with_reducible show wpAny _ _ (exec (Stmt.For _ _ _ _ _) _) _ _ _) | (with_reducible show wpAny _ _ (exec (Stmt.If _ _ _ _) _) _ _ _)) | (k_extra "m:my stop") | ((with_reducible show wpAny _ _ (call _ _ _) _ _ _); first | (with_reducible show wpAny _ _ (call (Value.ref 204) _ _) _ _ _) | (with_reducible show wpAny _ _ (call (Value.ref 184) _ _) _ _ _)))); k_extra "m:my step")))
  trivial
/-- the writer, and what it holds -/
noncomputable abbrev WL (w : World) (kk : Nat → Tok) (x d lD D0 l0 lDS lNS lPM lPS aW lW : Nat) (seen done : Bool) (n0 nDS nD nW nNS nPS : Nat) (t1 t2 : Tok) (lv : List Nat) (vsD vsW vsN : List Value) (k : Nat) (ps : Array Value) (rest : List (Addr × Obj)) : List (Addr × Obj) :=
  (201, tabObj ps) :: (x, instObj 228 d) :: (d, dictOf (tg18 w kk aW lD lDS lNS lPM lPS seen done) 18) :: (D0, xmlTup t1 t2) :: (l0, listOf [.ref D0].toArray n0) :: (lDS, listOf (((l0 :: lv).map Value.ref)).toArray nDS) :: (lD, listOf vsD.toArray nD) :: (lW, listOf vsW.toArray nW) :: (aW, bndAp lW) :: (lNS, listOf vsN.toArray nNS) :: (lPS, listOf (List.replicate k (Value.bool false) ++ [Value.bool false]).toArray nPS) :: rest
theorem tabok_mono {pos : Pos} {q : Str} {ps : Array Value} {l l' : List (Addr × Obj)} (h : TabOK pos q ps l) (hs : ∀ p ∈ l, p ∈ l') : TabOK pos q ps l' := by
  rcases h with h | ⟨c', oc, vs, t, h1, h2, h3⟩
  · exact .inl h
  · exact .inr ⟨c', oc, vs, t, h1, hs _ h2, h3⟩
theorem truthy_lst {prog : Program} {w : World} {A : Around} {E : Value → Shared → Prop} {s : Shared} {h₀ : Heap} {L l : Addr} {news : List (Addr × Obj)} {vs : List Value} {n : Nat} {Q : Bool → Shared → Prop} (N : News h₀ L s.heap news) (hm : (l, listOf vs.toArray n) ∈ news) (hl : vs.length ≤ 1000)
    (h : Q (!vs.isEmpty) { s with toks := s.toks + 1 + 1 }) : wpAny (model prog w) A (truthy (.ref l)) Q E s := by
  have e : vs.toArray.isEmpty = vs.isEmpty := by cases vs <;> rfl
  exact wpAny_truthy_list (N.isList hm) (by rw [List.size_toArray]; omega) (by rw [e]; exact h)
theorem startW (w : World) (kk : Nat → Tok) (x d lD D0 l0 lDS lNS lPM lPS aW lW aD nA : Nat) (seen done : Bool) (n0 nDS nD nW nNS nPS : Nat) (t1 t2 : Tok) (lv : List Nat) (vsD vsW vsN : List Value) (k : Nat) (ps : Array Value) (rest : List (Addr × Obj)) (tag : Str) (t : Tok) (out : List Nat)
    (hlv : ∀ a ∈ lv, ∃ n, (a, listOf [].toArray n) ∈ rest) (hz : lv.length ≤ 19) (hb : (Txt.slice tag none (some 1) == Str.ofString "{") = false) (ht : tag.length ≤ 100) (hk1 : k ≤ 90) (hlenN : vsN.length ≤ 400)
    (hout : WOut vsW vsD out) (hol : out.length ≤ 90) (hsd : vsD = [] ∨ seen = true)
    (hps : TabOK lamPos lamQual ps rest) (hord : Ord lW aW d x lD D0 l0 lDS lNS lPM lPS) (oR : Far lW d lD lDS lNS lPS rest) (hA : (aD, dictOf [] nA) ∈ rest) (hAm : (aD == sysModules) = false) :
    Call w (.ref 198) [.ref x, .str tag t, .ref aD] [] 60 600 (WL w kk x d lD D0 l0 lDS lNS lPM lPS aW lW seen done n0 nDS nD nW nNS nPS t1 t2 lv vsD vsW vsN k ps rest)
      (fun K => ∀ (a na : Nat) (ex : List (Addr × Obj)) (nDS' nD' nW' nNS' nPS' : Nat) (vsW' : List Value) (v : Value) (ps' : Array Value), ex.length ≤ 1 → (∀ q ∈ ex, ∃ vs, q.2.data = .fields vs) → WOut vsW' [] (out ++ (Str.ofString "<" ++ tag).cps.toList ++ (Str.ofString ">").cps.toList) → TabOK lamPos lamQual ps' (ex ++ rest) → Far lW d lD lDS lNS lPS ((a, listOf [].toArray na) :: (ex ++ rest)) →
        AllLt a rest →
        K .none (WL w kk x d lD D0 l0 lDS lNS lPM lPS aW lW true done n0 nDS' nD' nW' nNS' nPS' t1 t2 (lv ++ [a]) [] vsW' (vsN ++ [v]) (k + 1) ps' ((a, listOf [].toArray na) :: (ex ++ rest)))) := by
  revert w kk x d lD D0 l0 lDS lNS lPM lPS aW lW aD nA seen done n0 nDS nD nW nNS nPS t1 t2 lv vsD vsW vsN k ps rest tag t out hlv hz hb ht hk1 hlenN hout hol hsd hps hord oR hA hAm
  intro w kk x d lD D0 l0 lDS lNS lPM lPS aW lW aD nA seen done n0 nDS nD nW nNS nPS t1 t2 lv vsD vsW vsN k ps rest tag t out hlv hz hb ht hk1 hlenN hout hol hsd hps hord oR hA hAm
  k_extra "m:my intro"
  dsimp only [WL] at N
  k_extra "m:my enter"
  replace F' : Fr g' L' h' (fun y => List.lookup y [(Str.ofString "attrs", Value.ref aD), (Str.ofString "tag", Value.str tag t), (Str.ofString "self", Value.ref x)]) := F'
  k_extra "m:my runI"
  k_extra "m:my step"
  k_extra "m:my runI"
  with_reducible rename Fr g' L' _ _ => F3
  refine cut_fr F3 (fun mm f s' => f = Flow.next ∧ ∃ h' tk' vsW' nW' nD', s' = ⟨h', s.gens, s.drawn, tk', s.os⟩ ∧ 1 ≤ tk' ∧ Fr g' L' h' mm ∧ News g' L' h' (WL w kk x d lD D0 l0 lDS lNS lPM lPS aW lW seen done n0 nDS nD' nW' nNS nPS t1 t2 lv [] vsW' vsN k ps rest) ∧ WOut vsW' [] out) ?_ ?_
  · k_extra "m:my step"
    k_extra "m:my run"
    have hl := hout.len
    with_reducible rename News g' L' _ _ => N3
    refine truthy_lst N3 (by k_extra "m:my mem") (by omega) ?_
    try dsimp only
    by_cases hv : vsD = []
    · subst hv
      rw [show (!List.isEmpty ([] : List Value)) = false from rfl]
      k_extra "m:my run"
      with_reducible rename News g' L' _ _ => N3
      exact hid ⟨rfl, _, _, vsW, nW, nD, rfl, (by first | exact htk | omega), by k_asm, N3, hout⟩
    · rw [show (!vsD.isEmpty) = true from by cases vsD with | nil => exact absurd rfl hv | cons a r => rfl]
      obtain rfl : seen = true := hsd.resolve_left hv
      obtain ⟨ys, hy1, hy2, hy3, hy4, hy5⟩ := hout.flush hv
      k_extra "m:my run"
      with_reducible rename News g' L' _ _ => N3
      replace N3 := rotK 5 (rotK 5 (rotK 8 (rotK 8 (rotK 8 N3 rfl) rfl) rfl) rfl) rfl
      dsimp only [List.eraseIdx] at N3
      show wpAny _ _ (call (Value.ref 184) [Value.ref x]) _ _ _
      refine use_call (flushC w x d lD lDS lNS lPM lPS aW lW kk done 18 nD nW vsD vsW ys _ hy1 (by omega) (by omega) (by omega) hy4 ⟨⟨by omega, by omega, by omega, by omega⟩, ?_⟩ ⟨⟨by omega, by omega, by omega, by omega⟩, ?_⟩)
        (by k_asm) (by k_asm) (by k_asm) N3 (by k_asm) rfl (by k_extra "m:my room") (by k_extra "m:my room") (by first | exact htk | omega) ?_
      · k_extra "m:my ne"
        exact fun q hq => (oR q hq).2.2.2.1
      · k_extra "m:my ne"
        exact fun q hq => (oR q hq).2.1
      intro tF nDF h4 tk4 htk F4 N4
      k_extra "m:my run"
      with_reducible rename News g' L' _ _ => N4
      exact hid ⟨rfl, _, _, _, _, _, rfl, (by first | exact htk | omega), by k_asm, news_sub N4 (by k_extra "m:my sub"), hy5 _⟩
  · rintro f s' ⟨rfl, h4, tk4, vsW', nW', nD', rfl, htk, F4, N4, hO⟩
    dsimp only [WL] at N4
    have hl := hO.len
    k_extra "m:my run"
    with_reducible rename (@LT.lt Nat _ 201 _ ∧ _) => hla
    obtain ⟨la, ea, hla⟩ : ∃ la : Nat, la = _ ∧ (201 < la ∧ x < la ∧ d < la ∧ D0 < la ∧ l0 < la ∧ lDS < la ∧ lD < la ∧ lW < la ∧ aW < la ∧ lNS < la ∧ lPS < la ∧ AllLt la rest) := ⟨_, rfl, hla⟩
    subst ea
    have oR5 : ∀ q ∈ rest, q.1 ≠ lDS := fun q hq => (oR q hq).2.2.2.2.1
    with_reducible rename News g' L' _ _ => N5
    replace N5 := rotK 6 N5 rfl
    dsimp only [List.eraseIdx] at N5
    refine my_append (by k_asm) N5 (by k_extra "m:my ne"; exact oR5) (by simp; omega) ?_
    intro h6 F6 N6
    rw [show (List.map Value.ref (l0 :: lv) ++ [Value.ref la]) = List.map Value.ref (l0 :: (lv ++ [la])) from by simp] at N6
    k_extra "m:my run"
    with_reducible rename News g' L' _ _ => N7
    have N8 : News g' L' _ (WL w kk x d lD D0 l0 lDS lNS lPM lPS aW lW seen done n0 (nDS + 1) nD' nW' nNS nPS t1 t2 (lv ++ [la]) [] vsW' vsN k ps ((la, listOf [].toArray 0) :: rest)) := news_sub N7 (by k_extra "m:my sub")
    try dsimp only [List.cons_append, List.nil_append]
    refine use_call (startC w ps x d lD D0 l0 lDS lNS lPM lPS aW lW aD la kk seen done n0 (nDS + 1) nNS nPS nW' nA nD' k t1 t2 (lv ++ [la]) vsN vsW' [] ((la, listOf [].toArray 0) :: rest) tag t ?_ (by simp; omega) hb ht (by omega) (by omega) (by omega) (tabok_mono hps fun p hp => .tail _ hp) hord ?_ (.tail _ hA) hAm ⟨0, .head _⟩)
      (by k_asm) (by k_asm) (by k_asm) N8 (by k_asm) rfl (by k_extra "m:my room") (by k_extra "m:my room") (by first | exact htk | omega) ?_
    · intro z hz'
      rcases List.mem_append.mp hz' with hz' | hz'
      · obtain ⟨q, hq⟩ := hlv z hz'
        exact ⟨q, .tail _ hq⟩
      · exact ⟨0, by rw [List.mem_singleton.mp hz']; exact .head _⟩
    · intro q hq
      rcases List.mem_cons.mp hq with rfl | hq
      · exact ⟨by show @Ne Nat _ _; dsimp only; omega, by show @Ne Nat _ _; dsimp only; omega, by show @Ne Nat _ _; dsimp only; omega, by show @Ne Nat _ _; dsimp only; omega, by show @Ne Nat _ _; dsimp only; omega, by show @Ne Nat _ _; dsimp only; omega, by show @Ne Nat _ _; dsimp only; omega⟩
      · exact oR q hq
    intro v nW2 nNS2 nPS2 ta tb c' oc vs5 tq hoc hvs hfc h9 tk9 htk F9 N9
    k_extra "m:my run"
    with_reducible rename News h₀ L _ _ => N20
    with_reducible rename Fr h₀ L _ _ => F20
    rw [show (List.replicate k (Value.bool false) ++ [Value.bool false] ++ [Value.bool false]) = List.replicate (k + 1) (Value.bool false) ++ [Value.bool false] from by rw [List.replicate_succ']] at N20
    refine hret la 0 [(c', oc)] (nDS + 1) nD' nW2 nNS2 nPS2 _ v #[rawInt lamPos.line, rawInt lamPos.col, .ref c'] (Nat.le_refl _) (fun q hq => by rw [List.mem_singleton.mp hq]; exact ⟨_, hoc⟩) ((hO.more (t := ta) ?_).more (t := tb) ?_) (.inr ⟨c', oc, _, _, rfl, .head _, hoc, hvs⟩) ?_ (hla.2.2.2.2.2.2.2.2.2.2.2) _ _ htk F20 (news_sub N20 (by k_extra "m:my sub"))
    · rw [Str.length_append, show (Str.ofString "<").length = 1 from by decide +kernel]; omega
    · decide +kernel
    · intro q hq
      rcases List.mem_cons.mp hq with rfl | hq
      · exact ⟨by show @Ne Nat _ _; dsimp only; omega, by show @Ne Nat _ _; dsimp only; omega, by show @Ne Nat _ _; dsimp only; omega, by show @Ne Nat _ _; dsimp only; omega, by show @Ne Nat _ _; dsimp only; omega, by show @Ne Nat _ _; dsimp only; omega, by show @Ne Nat _ _; dsimp only; omega⟩
      · rcases List.mem_cons.mp hq with rfl | hq
        · exact hfc _ (.head _)
        · exact oR q hq
end Mine
end
section
namespace Mine
set_option maxRecDepth 100000
set_option maxHeartbeats 8000000
set_option linter.all false
theorem words_c14_0 : True := by
  (k_with "m:my run" => (repeat' ((fail_if_success (first | ((with_reducible show wpAny _ _ (exec _ _) _ _ _); first | (with_reducible show wpAny _ _ (exec (Stmt.While _ _ _ _) _) _ _ _) | (with_reducible show wpAny _ _ (exec (Stmt.For _ _ _ _ _) _) _ _ _)) | (k_extra "m:my stop"))); k_extra "m:my step")))
  (k_with "m:my runI" => (repeat' ((fail_if_success (first | ((with_reducible show wpAny _ _ (exec _ _) _ _ _); first | (with_reducible show wpAny _ _ (exec (Stmt.While _ _ _ _) _) _ _ _) | (with_reducible show wpAny _ _ (exec (Stmt.For _ _ _ _ _) _) _ _ _) | (with_reducible show wpAny _ _ (exec (Stmt.If _ _ _ _) _) _ _ _)) | (k_extra "m:my stop"))); k_extra "m:my step")))
  trivial
theorem dataW (w : World) (kk : Nat → Tok) (x d lD D0 l0 lDS lNS lPM lPS aW lW : Nat) (seen done : Bool) (n0 nDS nD nW nNS nPS : Nat) (t1 t2 : Tok) (lv : List Nat) (vsD vsW vsN : List Value) (k : Nat) (ps : Array Value) (rest : List (Addr × Obj)) (sg : Str) (t : Tok)
    (hlen : vsD.length ≤ 500) (hord : Ord lW aW d x lD D0 l0 lDS lNS lPM lPS) (oR : Far lW d lD lDS lNS lPS rest) :
    Call w (.ref 175) [.ref x, .str sg t] [] 10 60 (WL w kk x d lD D0 l0 lDS lNS lPM lPS aW lW seen done n0 nDS nD nW nNS nPS t1 t2 lv vsD vsW vsN k ps rest)
      (fun K => K .none (WL w kk x d lD D0 l0 lDS lNS lPM lPS aW lW seen done n0 nDS (nD + 1) nW nNS nPS t1 t2 lv (vsD ++ [Value.str sg t]) vsW vsN k ps rest)) := by
  revert w kk x d lD D0 l0 lDS lNS lPM lPS aW lW seen done n0 nDS nD nW nNS nPS t1 t2 lv vsD vsW vsN k ps rest sg t hlen hord oR
  intro w kk x d lD D0 l0 lDS lNS lPM lPS aW lW seen done n0 nDS nD nW nNS nPS t1 t2 lv vsD vsW vsN k ps rest sg t hlen hord oR
  k_extra "m:my intro"
  dsimp only [WL] at N
  k_extra "m:my enter"
  k_extra "m:my run"
  have oRD : ∀ q ∈ rest, q.1 ≠ lD := fun q hq => (oR q hq).2.2.2.1
  with_reducible rename News g' L' _ _ => N5
  replace N5 := rotK 6 N5 rfl
  dsimp only [List.eraseIdx] at N5
  refine my_append (by k_asm) N5 (by k_extra "m:my ne"; exact oRD) (by omega) ?_
  intro h6 F6 N6
  k_extra "m:my run"
  with_reducible rename News h₀ L _ _ => N20
  with_reducible rename Fr h₀ L _ _ => F20
  exact hret _ _ htk F20 (news_sub N20 (by k_extra "m:my sub"))
end Mine
end
section
namespace Mine
set_option maxRecDepth 100000
set_option maxHeartbeats 8000000
set_option linter.all false
theorem words_c15_0 : True := by
  (k_with "m:my run" => (repeat' ((fail_if_success (first | ((with_reducible show wpAny _ _ (exec _ _) _ _ _); first | (with_reducible show wpAny _ _ (exec (Stmt.While _ _ _ _) _) _ _ _) | (with_reducible show wpAny _ _ (exec (Stmt.For _ _ _ _ _) _) _ _ _)) | (k_extra "m:my stop") | ((with_reducible show wpAny _ _ (call _ _ _) _ _ _); first | (with_reducible show wpAny _ _ (call (Value.ref _) [Value.str _ _] _) _ _ _) | (with_reducible show wpAny _ _ (call (Value.builtin "list.pop") _ _) _ _ _) | (with_reducible show wpAny _ _ (call (Value.ref 168) _ _) _ _ _) | (with_reducible show wpAny _ _ (call (Value.ref 184) _ _) _ _ _)))); k_extra "m:my step")))
  (k_with "m:my runI" => (repeat' ((fail_if_success (first | ((with_reducible show wpAny _ _ (exec _ _) _ _ _); first | (with_reducible show wpAny _ _ (exec (Stmt.While _ _ _ _) _) _ _ _) | (with_reducible show wpAny _ _ (exec (Stmt.For _ _ _ _ _) _) _ _ _) | (with_reducible show wpAny _ _ (exec (Stmt.If _ _ _ _) _) _ _ _)) | (k_extra "m:my stop") | ((with_reducible show wpAny _ _ (call _ _ _) _ _ _); first | (with_reducible show wpAny _ _ (call (Value.ref _) [Value.str _ _] _) _ _ _) | (with_reducible show wpAny _ _ (call (Value.builtin "list.pop") _ _) _ _ _) | (with_reducible show wpAny _ _ (call (Value.ref 168) _ _) _ _ _) | (with_reducible show wpAny _ _ (call (Value.ref 184) _ _) _ _ _)))); k_extra "m:my step")))
  trivial
theorem catE {vsW' : List Value} {out : List Nat} {tag : Str} {t : Tok} (hO : WOut vsW' [] out) :
    WOut (vsW' ++ [Value.str (Str.empty ++ Str.ofString "</" ++ tag ++ Str.ofString ">") t]) [] (out ++ (Str.ofString "</" ++ tag ++ Str.ofString ">").cps.toList) := by
  have e : (Str.empty ++ Str.ofString "</" ++ tag ++ Str.ofString ">") = (Str.ofString "</" ++ tag ++ Str.ofString ">") := by
    have e0 : Str.empty ++ Str.ofString "</" = Str.ofString "</" := by decide
    rw [e0]
  rw [e]
  refine hO.more ?_
  rw [Str.length_append, Str.length_append, show (Str.ofString ">").length = 1 from by decide +kernel]; omega
theorem endW (w : World) (kk : Nat → Tok) (x d lD D0 l0 lDS lNS lPM lPS aW lW : Nat) (seen done : Bool) (n0 nDS nD nW nNS nPS : Nat) (t1 t2 : Tok) (lv : List Nat) (la : Nat) (vsD vsW vsN : List Value) (v : Value) (k : Nat) (ps : Array Value) (rest : List (Addr × Obj)) (tag : Str) (t : Tok) (out : List Nat)
    (hlv : ∀ a ∈ lv ++ [la], ∃ n, (a, listOf [].toArray n) ∈ rest) (hz : lv.length ≤ 19) (hb : (Txt.slice tag none (some 1) == Str.ofString "{") = false) (ht : tag.length ≤ 100) (hk1 : k ≤ 90) (hlenN : vsN.length ≤ 400)
    (hout : WOut vsW vsD out) (hol : out.length ≤ 90) (hsd : vsD = [] ∨ seen = true) (hord : Ord lW aW d x lD D0 l0 lDS lNS lPM lPS) (oR : Far lW d lD lDS lNS lPS rest) :
    Call w (.ref 211) [.ref x, .str tag t] [] 60 600 (WL w kk x d lD D0 l0 lDS lNS lPM lPS aW lW seen done n0 nDS nD nW nNS nPS t1 t2 (lv ++ [la]) vsD vsW (vsN ++ [v]) (k + 1) ps rest)
      (fun K => ∀ (nDS' nD' nW' nNS' nPS' : Nat) (vsW' : List Value) (done' : Bool), WOut vsW' [] (out ++ (Str.ofString "</" ++ tag ++ Str.ofString ">").cps.toList) →
        K .none (WL w kk x d lD D0 l0 lDS lNS lPM lPS aW lW seen done' n0 nDS' nD' nW' nNS' nPS' t1 t2 lv [] vsW' vsN k ps rest)) := by
  revert w kk x d lD D0 l0 lDS lNS lPM lPS aW lW seen done n0 nDS nD nW nNS nPS t1 t2 lv la vsD vsW vsN v k ps rest tag t out hlv hz hb ht hk1 hlenN hout hol hsd hord oR
  intro w kk x d lD D0 l0 lDS lNS lPM lPS aW lW seen done n0 nDS nD nW nNS nPS t1 t2 lv la vsD vsW vsN v k ps rest tag t out hlv hz hb ht hk1 hlenN hout hol hsd hord oR
  k_extra "m:my intro"
  dsimp only [WL] at N
  k_extra "m:my enter"
  replace F' : Fr g' L' h' (fun y => List.lookup y [(Str.ofString "tag", Value.str tag t), (Str.ofString "self", Value.ref x)]) := F'
  k_extra "m:my runI"
  k_extra "m:my step"
  k_extra "m:my runI"
  with_reducible rename Fr g' L' _ _ => F3
  refine cut_fr F3 (fun mm f s' => f = Flow.next ∧ ∃ h' tk' vsW' nW' nD', s' = ⟨h', s.gens, s.drawn, tk', s.os⟩ ∧ 1 ≤ tk' ∧ Fr g' L' h' mm ∧ News g' L' h' (WL w kk x d lD D0 l0 lDS lNS lPM lPS aW lW seen done n0 nDS nD' nW' nNS nPS t1 t2 (lv ++ [la]) [] vsW' (vsN ++ [v]) (k + 1) ps rest) ∧ WOut vsW' [] out) ?_ ?_
  · k_extra "m:my step"
    k_extra "m:my run"
    have hl := hout.len
    with_reducible rename News g' L' _ _ => N3
    refine truthy_lst N3 (by k_extra "m:my mem") (by omega) ?_
    try dsimp only
    by_cases hv : vsD = []
    · subst hv
      rw [show (!List.isEmpty ([] : List Value)) = false from rfl]
      k_extra "m:my run"
      with_reducible rename News g' L' _ _ => N3
      exact hid ⟨rfl, _, _, vsW, nW, nD, rfl, (by first | exact htk | omega), by k_asm, N3, hout⟩
    · rw [show (!vsD.isEmpty) = true from by cases vsD with | nil => exact absurd rfl hv | cons a r => rfl]
      obtain rfl : seen = true := hsd.resolve_left hv
      obtain ⟨ys, hy1, hy2, hy3, hy4, hy5⟩ := hout.flush hv
      k_extra "m:my run"
      with_reducible rename News g' L' _ _ => N3
      replace N3 := rotK 5 (rotK 5 (rotK 8 (rotK 8 (rotK 8 N3 rfl) rfl) rfl) rfl) rfl
      dsimp only [List.eraseIdx] at N3
      show wpAny _ _ (call (Value.ref 184) [Value.ref x]) _ _ _
      refine use_call (flushC w x d lD lDS lNS lPM lPS aW lW kk done 18 nD nW vsD vsW ys _ hy1 (by omega) (by omega) (by omega) hy4 ⟨⟨by omega, by omega, by omega, by omega⟩, ?_⟩ ⟨⟨by omega, by omega, by omega, by omega⟩, ?_⟩)
        (by k_asm) (by k_asm) (by k_asm) N3 (by k_asm) rfl (by k_extra "m:my room") (by k_extra "m:my room") (by first | exact htk | omega) ?_
      · k_extra "m:my ne"
        exact fun q hq => (oR q hq).2.2.2.1
      · k_extra "m:my ne"
        exact fun q hq => (oR q hq).2.1
      intro tF nDF h4 tk4 htk F4 N4
      k_extra "m:my run"
      with_reducible rename News g' L' _ _ => N4
      exact hid ⟨rfl, _, _, _, _, _, rfl, (by first | exact htk | omega), by k_asm, news_sub N4 (by k_extra "m:my sub"), hy5 _⟩
  · rintro f s' ⟨rfl, h4, tk4, vsW', nW', nD', rfl, htk, F4, N4, hO⟩
    dsimp only [WL] at N4
    have hl := hO.len
    k_extra "m:my run"
    with_reducible rename News g' L' _ _ => N5
    replace N5 := rotK 5 (rotK 5 (rotK 5 (rotK 5 (rotK 5 N5 rfl) rfl) rfl) rfl) rfl
    dsimp only [List.eraseIdx] at N5
    refine use_call (qnameC w x d lD D0 l0 lDS lNS lPM lPS aW kk seen done 18 n0 nDS t1 t2 (lv ++ [la]) _ tag t (fun a ha => ?_) (by rw [List.length_append]; simp; omega) hb ht).call
      (by k_asm) (by k_asm) (by k_asm) N5 (by k_asm) rfl (by k_extra "m:my room") (by k_extra "m:my room") (by first | exact htk | omega) ?_
    · obtain ⟨k, hk⟩ := hlv a ha
      exact ⟨k, by k_extra "m:my mem"; exact hk⟩
    intro T tT hT h5 tk5 htk F5 N5
    dsimp only [AllLt] at hT
    obtain ⟨hTx, hTd, -, hT0, hTDS, -, -, hTW, -, hTNS, hTPS, -⟩ := hT
    have gW : @Ne Nat T lW := by show @Ne Nat _ _; omega
    have gd : @Ne Nat T d := by show @Ne Nat _ _; omega
    have gDS : @Ne Nat T lDS := by show @Ne Nat _ _; omega
    have gNS : @Ne Nat T lNS := by show @Ne Nat _ _; omega
    have gPS : @Ne Nat T lPS := by show @Ne Nat _ _; omega
    k_extra "m:my run"
    walk1
    k_extra "m:my run"
    · with_reducible rename News g' L' _ _ => N10
      exact bndAt_N N10 (by k_extra "m:my mem")
    have oR2 : ∀ q ∈ rest, q.1 ≠ lW := fun q hq => (oR q hq).2.1
    have oR3 : ∀ q ∈ rest, q.1 ≠ d := fun q hq => (oR q hq).2.2.1
    have oR4 : ∀ q ∈ rest, q.1 ≠ lDS := fun q hq => (oR q hq).2.2.2.2.1
    have oR5 : ∀ q ∈ rest, q.1 ≠ lNS := fun q hq => (oR q hq).2.2.2.2.2.1
    have oR6 : ∀ q ∈ rest, q.1 ≠ lPS := fun q hq => (oR q hq).2.2.2.2.2.2
    with_reducible rename News g' L' _ _ => N10
    replace N10 := rotK 8 N10 rfl
    dsimp only [List.eraseIdx] at N10
    refine bound_append (by k_asm) N10 (by k_extra "m:my mem") (by k_extra "m:my ne"; exact oR2) (by omega) ?_
    intro h12 F12 N12
    k_extra "m:my run"
    with_reducible rename News g' L' _ _ => N10
    replace N10 := rotK 11 N10 rfl
    dsimp only [List.eraseIdx] at N10
    refine my_pop (by k_asm) N10 (by k_extra "m:my ne"; exact oR6) (by simp; omega) ?_
    intro h13 F13 N13
    repeat' ((fail_if_success (with_reducible show wpAny _ _ (call (Value.builtin "len") _ _) _ _ _)); k_extra "m:my step")
    with_reducible rename News g' L' _ _ => N10
    refine my_len N10 (by k_extra "m:my mem") (by rw [List.length_replicate]; omega) ?_
    k_extra "m:my run"
    with_reducible rename News g' L' _ _ => N10
    replace N10 := rotK 7 N10 rfl
    dsimp only [List.eraseIdx] at N10
    rw [show List.map Value.ref (l0 :: (lv ++ [la])) = List.map Value.ref (l0 :: lv) ++ [Value.ref la] from by simp] at N10
    try dsimp only
    refine my_pop (by k_asm) N10 (by k_extra "m:my ne"; exact oR4) (by simp; omega) ?_
    intro h14 F14 N14
    k_extra "m:my run"
    with_reducible rename News g' L' _ _ => N10
    replace N10 := rotK 11 N10 rfl
    dsimp only [List.eraseIdx] at N10
    try dsimp only
    refine my_pop (by k_asm) N10 (by k_extra "m:my ne"; exact oR5) (by omega) ?_
    intro h15 F15 N15
    k_extra "m:my run"
    with_reducible rename News h₀ L _ _ => N20
    with_reducible rename Fr h₀ L _ _ => F20
    rw [List.replicate_succ'] at N20
    refine hret _ _ _ _ _ _ _ ?_ _ _ htk F20 (news_sub N20 (by k_extra "m:my sub"))
    exact catE hO
end Mine
end
section
namespace Mine
set_option maxRecDepth 100000
set_option maxHeartbeats 8000000
set_option linter.all false
theorem words_c16_0 : True := by
  (k_with "m:my run" => (repeat' ((fail_if_success (first | ((with_reducible show wpAny _ _ (exec _ _) _ _ _); first | (with_reducible show wpAny _ _ (exec (Stmt.While _ _ _ _) _) _ _ _) | (with_reducible show wpAny _ _ (exec (Stmt.For _ _ _ _ _) _) _ _ _)) | (k_extra "m:my stop") | ((with_reducible show wpAny _ _ (call _ _ _) _ _ _); first | (with_reducible show wpAny _ _ (call (Value.ref 339) _ _) _ _ _) | (with_reducible show wpAny _ _ (call (Value.ref 211) _ _) _ _ _) | (with_reducible show wpAny _ _ (call (Value.ref 198) _ _) _ _ _) | (with_reducible show wpAny _ _ (call (Value.ref 175) _ _) _ _ _)))); k_extra "m:my step")))
  (k_with "m:my runI" => (repeat' ((fail_if_success (first | ((with_reducible show wpAny _ _ (exec _ _) _ _ _); first | (with_reducible show wpAny _ _ (exec (Stmt.While _ _ _ _) _) _ _ _) | (with_reducible show wpAny _ _ (exec (Stmt.For _ _ _ _ _) _) _ _ _) | (with_reducible show wpAny _ _ (exec (Stmt.If _ _ _ _) _) _ _ _)) | (k_extra "m:my stop") | ((with_reducible show wpAny _ _ (call _ _ _) _ _ _); first | (with_reducible show wpAny _ _ (call (Value.ref 339) _ _) _ _ _) | (with_reducible show wpAny _ _ (call (Value.ref 211) _ _) _ _ _) | (with_reducible show wpAny _ _ (call (Value.ref 198) _ _) _ _ _) | (with_reducible show wpAny _ _ (call (Value.ref 175) _ _) _ _ _)))); k_extra "m:my step")))
  trivial
noncomputable def cutP (rk : Nat → Nat) (first : Nat) : Nat → Nat
  | 0 => first + 1
  | i + 1 => if rk (first + 2 + i) < rk (cutP rk first i) then first + 2 + i else cutP rk first i
noncomputable def tellP (sg : Nat → List Nat) (rk : Nat → Nat) : Nat → Nat → Nat → List Nat
  | 0, _, _ => []
  | n + 1, a, b => if b = a + 1 then escL (sg a) else
      (Str.ofString "<" ++ Str.ofString "b").cps.toList ++ (Str.ofString ">").cps.toList ++ tellP sg rk n a (cutP rk a (b - a - 2)) ++ tellP sg rk n (cutP rk a (b - a - 2)) b ++ (Str.ofString "</" ++ Str.ofString "b" ++ Str.ofString ">").cps.toList
theorem tellP_q0 (sg : Nat → List Nat) (rk : Nat → Nat) (a b : Nat) : tellP sg rk 0 a b = [] := rfl
theorem tellP_q1 (sg : Nat → List Nat) (rk : Nat → Nat) (n a b : Nat) : tellP sg rk (n + 1) a b = if b = a + 1 then escL (sg a) else (Str.ofString "<" ++ Str.ofString "b").cps.toList ++ (Str.ofString ">").cps.toList ++ tellP sg rk n a (cutP rk a (b - a - 2)) ++ tellP sg rk n (cutP rk a (b - a - 2)) b ++ (Str.ofString "</" ++ Str.ofString "b" ++ Str.ofString ">").cps.toList := rfl
noncomputable abbrev Quiet (l : List (Addr × Obj)) : Prop := ∀ q ∈ l, ∀ (v : Value) (vs : List Value) (n : Nat), q.2 ≠ listOf (v :: vs).toArray n
noncomputable abbrev sgT (tx : Str) (i : Nat) : List Nat := (Txt.item tx (i : Int)).cps.toList
noncomputable abbrev TellC (w : World) (kk : Nat → Tok) (x d lD D0 l0 lDS lNS lPM lPS aW lW n0 : Nat) (t1 t2 : Tok) (tx : Str) (rk : Nat → Nat) (N first last : Nat) : Prop :=
  ∀ (ta tb tt : Tok) (lR nR : Nat) (vsR : List Value) (done : Bool) (nDS nD nW nNS nPS : Nat) (lv : List Nat) (vsD vsW vsN : List Value) (k : Nat) (ps : Array Value) (rest : List (Addr × Obj)) (out : List Nat),
    (lR, listOf vsR.toArray nR) ∈ rest → (∀ i, i < 5 → ∃ t, vsR[i]? = some (.int (rk i) t)) → (∀ a ∈ lv, ∃ n, (a, listOf [].toArray n) ∈ rest) → lv.length + N ≤ 19 → k + N ≤ 90 → vsN.length + N ≤ 400 →
    WOut vsW vsD out → out.length + 12 * (last - first) ≤ 90 → TabOK lamPos lamQual ps rest → Far lW d lD lDS lNS lPS rest →
    Call w (.ref 339) [.ref x, .str tx tt, .ref lR, .int first ta, .int last tb] [] (70 + 10 * N) (700 + 100 * N) (WL w kk x d lD D0 l0 lDS lNS lPM lPS aW lW true done n0 nDS nD nW nNS nPS t1 t2 lv vsD vsW vsN k ps rest)
      (fun K => ∀ (lG nG mG : Nat) (ex : List (Addr × Obj)) (done' : Bool) (nDS' nD' nW' nNS' nPS' : Nat) (vsD' vsW' : List Value) (ps' : Array Value), mG + 3 ≤ 3 * (last - first) → Quiet ex → AllLt lG rest → @LT.lt Nat _ lPS lG → TabOK lamPos lamQual ps' (ex ++ rest) → Far lW d lD lDS lNS lPS (ex ++ rest) →
        WOut vsW' vsD' (out ++ tellP (sgT tx) rk (N + 1) first last) →
        K (.ref lG) ((lG, listOf (List.replicate (mG + 1) Value.none).toArray nG) :: WL w kk x d lD D0 l0 lDS lNS lPM lPS aW lW true done' n0 nDS' nD' nW' nNS' nPS' t1 t2 lv vsD' vsW' vsN k ps' (ex ++ rest)))
theorem tell_leaf (w : World) (kk : Nat → Tok) (x d lD D0 l0 lDS lNS lPM lPS aW lW n0 : Nat) (t1 t2 : Tok) (tx : Str) (rk : Nat → Nat) (hx : tx.length = 5) (hord : Ord lW aW d x lD D0 l0 lDS lNS lPM lPS) (NN first last : Nat) (h5 : last ≤ 5) (hl : last = first + 1) :
    TellC w kk x d lD D0 l0 lDS lNS lPM lPS aW lW n0 t1 t2 tx rk NN first last := by
  revert w kk x d lD D0 l0 lDS lNS lPM lPS aW lW n0 t1 t2 tx rk hx hord NN first last h5 hl
  intro w kk x d lD D0 l0 lDS lNS lPM lPS aW lW n0 t1 t2 tx rk hx hord NN first last h5 hl
  intro ta tb tt lR nR vsR done nDS nD nW nNS nPS lv vsD vsW vsN k ps rest out hR hrk hlv hz hk1 hlenN hout hol hps oR
  k_extra "m:my intro"
  dsimp only [WL] at N
  k_extra "m:my enter"
  replace F' : Fr g' L' h' (fun y => List.lookup y [(Str.ofString "last", Value.int last tb), (Str.ofString "first", Value.int first ta), (Str.ofString "rank", Value.ref lR), (Str.ofString "text", Value.str tx tt), (Str.ofString "target", Value.ref x)]) := F'
  k_extra "m:my runI"
  k_extra "m:my step"
  k_extra "m:my runI"
  have hln := hout.len
  with_reducible rename News g' L' _ _ => N3
  refine use_call (dataW w kk x d lD D0 l0 lDS lNS lPM lPS aW lW true done n0 nDS nD nW nNS nPS t1 t2 lv vsD vsW vsN k ps rest _ _ (by omega) hord oR) (by k_asm) (by k_asm) (by k_asm) N3 (by k_asm) rfl (by k_extra "m:my room") (by k_extra "m:my room") (by first | exact htk | omega) ?_
  intro h4 tk4 htk F4 N4
  dsimp only [WL] at N4
  k_extra "m:my run"
  · with_reducible rename (@LT.lt Nat _ 201 _ ∧ _) => hla
    with_reducible rename (1 ≤ (Txt.item tx first).length ∧ _) => hln1
    with_reducible rename News h₀ L _ _ => N20
    with_reducible rename Fr h₀ L _ _ => F20
    refine hret _ _ 0 [] done nDS (nD + 1) nW nNS nPS _ _ ps (by omega) (fun q hq => nomatch hq) hla.2.2.2.2.2.2.2.2.2.2.2 hla.2.2.2.2.2.2.2.2.2.2.1 hps oR ?_ _ _ htk F20 N20
    show WOut _ _ (out ++ (if last = first + 1 then _ else _))
    rw [if_pos hl]
    exact hout.pend hln1.1
noncomputable def TellJ (x : Nat) (tx : Str) (tt : Tok) (lR : Nat) (ta tb : Tok) (rk : Nat → Nat) (first last : Nat) (news0 : List (Addr × Obj)) (i : Nat) (m : Str → Option Value) (news : List (Addr × Obj)) : Prop :=
  news = news0 ∧ ∃ (tc : Tok) (c : Int), c = (cutP rk first i : Nat) ∧ Nm m [(Str.ofString "target", Value.ref x), (Str.ofString "text", Value.str tx tt), (Str.ofString "rank", Value.ref lR), (Str.ofString "first", Value.int first ta), (Str.ofString "last", Value.int last tb), (Str.ofString "cut", Value.int c tc)]
theorem range_fact : ∀ last : Nat, last ≤ 5 → ∀ first : Nat, first + 1 < last → Builtin.Range.small ((first : Int) + 2) (last : Int) 1 = true ∧ Builtin.Range.rangeSize ((first : Int) + 2) (last : Int) 1 = ((last - first - 2 : Nat) : Int) := by
  have H : ∀ last : Nat, last < 6 → ∀ first : Nat, first < 6 → first + 1 < last → Builtin.Range.small ((first : Int) + 2) (last : Int) 1 = true ∧ Builtin.Range.rangeSize ((first : Int) + 2) (last : Int) 1 = ((last - first - 2 : Nat) : Int) := by decide +kernel
  intro last h5 first h
  exact H last (by omega) first (by omega) h
theorem cut0 (rk : Nat → Nat) (first : Nat) : (first : Int) + 1 = (cutP rk first 0 : Nat) := by dsimp only [cutP]; omega
theorem cutP_lt (rk : Nat → Nat) (first : Nat) : ∀ i, first < cutP rk first i ∧ cutP rk first i < first + 2 + i
  | 0 => by show first < first + 1 ∧ first + 1 < _; omega
  | i + 1 => by
    have := cutP_lt rk first i
    dsimp only [cutP]
    split <;> omega
theorem cut_in (rk : Nat → Nat) {a b : Nat} (h : a + 1 < b) : a < cutP rk a (b - a - 2) ∧ cutP rk a (b - a - 2) < b :=
  have e : a + 2 + (b - a - 2) = b := by omega
  ⟨(cutP_lt rk a _).1, Nat.lt_of_lt_of_eq (cutP_lt rk a _).2 e⟩
theorem allLt_mem {B : Addr} : ∀ {l : List (Addr × Obj)}, AllLt B l → ∀ p ∈ l, @LT.lt Nat _ p.1 B := by
  intro l
  induction l with
  | nil => intro _ p hp; nomatch hp
  | cons a r ih =>
    intro h p hp
    rcases List.mem_cons.mp hp with rfl | hp
    · exact h.1
    · exact ih h.2 p hp
theorem mv_dn {A : Type} {x y : A} {P r : List A} : ∀ p ∈ P ++ (x :: r), p ∈ x :: y :: (P ++ r) := by
  intro p hp
  simp only [List.mem_cons, List.mem_append] at hp ⊢
  rcases hp with h | h | h <;> simp [h]
theorem mv_fr {A : Type} {x : A} {P r : List A} : ∀ p ∈ x :: (P ++ r), p ∈ P ++ (x :: r) := by
  intro p hp
  simp only [List.mem_cons, List.mem_append] at hp ⊢
  rcases hp with h | h | h <;> simp [h]
theorem tabok_drop {pos : Pos} {q : Str} {ps : Array Value} {l n : Nat} {its : Array Value} {e r : List (Addr × Obj)} (h : TabOK pos q ps (e ++ ((l, listOf its n) :: r))) : TabOK pos q ps (e ++ r) := by
  rcases h with h | ⟨c', oc, vs, t, h1, h2, h3, h4⟩
  · exact .inl h
  · refine .inr ⟨c', oc, vs, t, h1, ?_, h3, h4⟩
    rcases List.mem_append.mp h2 with h2 | h2
    · exact List.mem_append_left _ h2
    · rcases List.mem_cons.mp h2 with h2 | h2
      · cases h2
        cases h3
      · exact List.mem_append_right _ h2
theorem nones_eq (a b : Nat) : (Value.none :: List.replicate (a + 1) Value.none) ++ List.replicate (b + 1) Value.none ++ [Value.none] = List.replicate (a + 1 + 1 + (b + 1) + 1) Value.none := by
  rw [← List.replicate_succ, List.replicate_append_replicate, ← List.replicate_succ']
theorem quiet_knot {ex ex1 ex2 : List (Addr × Obj)} {a na dA nA : Nat} (h1 : Quiet ex1) (h2 : Quiet ex2) (hf : ∀ q ∈ ex, ∃ vs, q.2.data = .fields vs) :
    Quiet (ex2 ++ (ex1 ++ ((a, listOf [].toArray na) :: (ex ++ [(dA, dictOf [] nA)])))) := by
  intro q hq v vs n e
  rcases List.mem_append.mp hq with hq | hq
  · exact h2 q hq v vs n e
  rcases List.mem_append.mp hq with hq | hq
  · exact h1 q hq v vs n e
  rcases List.mem_cons.mp hq with rfl | hq
  · have := congrArg (fun o : Obj => match o.data with | .seq its _ => its.size | _ => 0) e
    simp [W.listOf] at this
  rcases List.mem_append.mp hq with hq | hq
  · obtain ⟨fs, hfs⟩ := hf q hq
    rw [e] at hfs
    cases hfs
  · rw [List.mem_singleton.mp hq] at e
    have := congrArg (fun o : Obj => match o.data with | .seq its _ => 1 | _ => 0) e
    simp [W.listOf, dictOf] at this
theorem tabok_swap {pos : Pos} {q : Str} {ps : Array Value} {l n : Nat} {its : Array Value} {o' : Obj} {e r : List (Addr × Obj)} (h : TabOK pos q ps (e ++ ((l, listOf its n) :: r))) : TabOK pos q ps ((l, o') :: (e ++ r)) := by
  rcases h with h | ⟨c', oc, vs, t, h1, h2, h3, h4⟩
  · exact .inl h
  · refine .inr ⟨c', oc, vs, t, h1, .tail _ ?_, h3, h4⟩
    rcases List.mem_append.mp h2 with h2 | h2
    · exact List.mem_append_left _ h2
    · rcases List.mem_cons.mp h2 with h2 | h2
      · cases h2
        cases h3
      · exact List.mem_append_right _ h2
theorem ne_quiet {h0 h : Heap} {L lG n : Nat} {v : Value} {vs : List Value} {l' ex : List (Addr × Obj)} (N : News h0 L h l') (hG : (lG, listOf (v :: vs).toArray n) ∈ l') (hq : Quiet ex) (hs : ∀ q ∈ ex, q ∈ l') : ∀ q ∈ ex, q.1 ≠ lG :=
  fun q hq' e => hq q hq' v vs n (by
    have a := (N _ hG).1
    have b := (N _ (hs q hq')).1
    rw [e] at b
    exact Option.some.inj (b.symm.trans a))
theorem mv_up {A : Type} {x y : A} {P e r : List A} : ∀ p ∈ x :: y :: (P ++ (e ++ r)), p ∈ y :: (P ++ (e ++ (x :: r))) := by
  intro p hp
  simp only [List.mem_cons, List.mem_append] at hp ⊢
  rcases hp with h | h | h | h | h <;> simp [h]
theorem words_c16_1 : True := by
  (k_with "m:newList" => ((fail_if_success (k_extra "m:out c16")); ((with_reducible show wpAny _ _ (newList [Value.none]) _ _ _); refine newList_N (by assumption) (by assumption) ?_; intro _ _ _)))
  trivial
theorem tell_knot (w : World) (kk : Nat → Tok) (x d lD D0 l0 lDS lNS lPM lPS aW lW n0 : Nat) (t1 t2 : Tok) (tx : Str) (rk : Nat → Nat) (hx : tx.length = 5) (hord : Ord lW aW d x lD D0 l0 lDS lNS lPM lPS) (NN first last : Nat) (h5 : last ≤ 5) (hl : first + 1 < last) (hnn : last - first ≤ NN + 2)
    (hlen : ∀ a b, a < b → b ≤ 5 → (tellP (sgT tx) rk (NN + 1) a b).length + 7 ≤ 12 * (b - a))
    (ih : ∀ a b, a < b → b ≤ 5 → b - a ≤ NN + 1 → TellC w kk x d lD D0 l0 lDS lNS lPM lPS aW lW n0 t1 t2 tx rk NN a b) :
    TellC w kk x d lD D0 l0 lDS lNS lPM lPS aW lW n0 t1 t2 tx rk (NN + 1) first last := by
  revert w kk x d lD D0 l0 lDS lNS lPM lPS aW lW n0 t1 t2 tx rk hx hord NN first last h5 hl hnn hlen ih
  intro w kk x d lD D0 l0 lDS lNS lPM lPS aW lW n0 t1 t2 tx rk hx hord NN first last h5 hl hnn hlen ih
  intro ta tb tt lR nR vsR done nDS nD nW nNS nPS lv vsD vsW vsN k ps rest out hR hrk hlv hz hk1 hlenN hout hol hps oR
  k_extra "m:my intro"
  dsimp only [WL] at N
  k_extra "m:my enter"
  replace F' : Fr g' L' h' (fun y => List.lookup y [(Str.ofString "last", Value.int last tb), (Str.ofString "first", Value.int first ta), (Str.ofString "rank", Value.ref lR), (Str.ofString "text", Value.str tx tt), (Str.ofString "target", Value.ref x)]) := F'
  k_extra "m:my runI"
  k_extra "m:my step"
  k_extra "m:my runI"
  refine my_For htk ?_ (fun _ => rfl)
  k_extra "m:my run"
  with_reducible rename IsRange _ _ _ _ _ _ _ _ => hR9
  obtain ⟨hsm, hrs⟩ := range_fact last h5 first hl
  with_reducible rename Fr g' L' _ _ => F3
  with_reducible rename News g' L' _ _ => N3
  refine my_range (n := last - first - 2) (TellJ x tx tt lR ta tb rk first last (WL w kk x d lD D0 l0 lDS lNS lPM lPS aW lW true done n0 nDS nD nW nNS nPS t1 t2 lv vsD vsW vsN k ps rest)) rfl rfl rfl hR9 hsm hrs F3 N3 (by omega)
    ⟨rfl, _, _, cut0 rk first, rfl, rfl, rfl, rfl, rfl, rfl, trivial⟩ ?_ ?_
  · rintro i t m₁ news₁ h₁ tk₁ I it hi htk F₁ N₁ hI ⟨rfl, tc, c, hc, hnm⟩
    have hnm2 := hnm
    replace F₁ := fr_nm1 F₁ hnm
    dsimp only [kstB] at F₁
    dsimp only [WL] at N₁
    obtain ⟨tp, hp⟩ := hrk (first + 2 + i) (by omega)
    have hcl := cutP_lt rk first i
    obtain ⟨tq, hq⟩ := hrk (cutP rk first i) (by omega)
    subst hc
    have h63 : (2 : Int) ^ 63 = 9223372036854775808 := by decide
    replace F₁ : Fr g' L' h₁ _ := F₁
    replace N₁ : News g' L' h₁ _ := N₁
    k_extra "m:my runI"
    k_extra "m:my step"
    k_extra "m:my run"
    with_reducible rename News g' L' _ _ => N5
    refine my_item N5 (by k_extra "m:my mem"; exact hR) (by omega) (by omega) (by rw [show ((first : Int) + 2 + i).toNat = first + 2 + i from by omega]; exact hp) ?_ (by with_unfolding_all rfl)
    k_extra "m:my run"
    with_reducible rename News g' L' _ _ => N5
    refine my_item N5 (by k_extra "m:my mem"; exact hR) (by omega) (by omega) (by rw [show ((cutP rk first i : Nat) : Int).toNat = cutP rk first i from by omega]; exact hq) ?_ (by with_unfolding_all rfl)
    k_extra "m:my run"
    all_goals with_reducible rename News g' L' _ _ => N5
    · refine ⟨_, _, _, _, rfl, by first | exact htk | omega, by k_asm, N5, hI, fun p hp => (nomatch hp), ⟨rfl, _, _, ?_, rfl, rfl, rfl, rfl, rfl, rfl, trivial⟩⟩
      dsimp only [cutP]
      rw [if_pos (by omega)]; omega
    · refine ⟨_, _, _, _, rfl, by first | exact htk | omega, by k_asm, N5, hI, fun p hp => (nomatch hp), ⟨rfl, _, _, ?_, rfl, rfl, rfl, rfl, rfl, rfl, trivial⟩⟩
      dsimp only [cutP]
      rw [if_neg (by omega)]
  · rintro h' tk' m' news' htk F' N' ⟨rfl, tc, c, hc, hnm⟩
    replace F' := fr_nm F' hnm
    dsimp only [kstB] at F'
    dsimp only [WL] at N'
    replace F' : Fr g' L' h' _ := F'
    replace N' : News g' L' h' _ := N'
    k_extra "m:my run"
    subst hc
    have hcl := cut_in rk hl
    have hL5 := h5
    have hc5 : cutP rk first (last - first - 2) ≤ 5 := Nat.le_of_lt (Nat.lt_of_lt_of_le hcl.2 h5)
    have hc6 := kn1 hcl.1 hcl.2 hnn
    have hc7 := kn2 hcl.1 hcl.2 hnn
    have hsp := ar_split hcl.1 hcl.2
    with_reducible rename News g' L' _ _ => N5
    with_reducible rename (@LT.lt Nat _ 201 _ ∧ _) => hA9
    obtain ⟨dA, ea, hA9⟩ : ∃ dA : Nat, dA = _ ∧ (201 < dA ∧ x < dA ∧ d < dA ∧ D0 < dA ∧ l0 < dA ∧ lDS < dA ∧ lD < dA ∧ lW < dA ∧ aW < dA ∧ lNS < dA ∧ lPS < dA ∧ AllLt dA rest) := ⟨_, rfl, hA9⟩
    subst ea
    with_reducible rename Obj.IsDictOf (PySem.strKind _ _) _ [] => hE9
    obtain ⟨nA, rfl⟩ := isDict_nil hE9
    have N6 : News g' L' _ (WL w kk x d lD D0 l0 lDS lNS lPM lPS aW lW true done n0 nDS nD nW nNS nPS t1 t2 lv vsD vsW vsN k ps ((dA, dictOf [] nA) :: rest)) := news_sub N5 (by k_extra "m:my sub")
    refine use_call (startW w kk x d lD D0 l0 lDS lNS lPM lPS aW lW dA nA true done n0 nDS nD nW nNS nPS t1 t2 lv vsD vsW vsN k ps ((dA, dictOf [] nA) :: rest) (Str.ofString "b") _ out (fun a ha => ?_) (by omega) (by decide +kernel) (by decide +kernel) (by omega) (by omega) hout (by omega) (.inr rfl) (tabok_mono hps fun p hp => .tail _ hp) hord ?_ (.head _) ?_)
      (by k_asm) (by k_asm) (by k_asm) N6 (by k_asm) rfl (by k_extra "m:my room") (by k_extra "m:my room") (by first | exact htk | omega) ?_
    · obtain ⟨n, hn⟩ := hlv a ha
      exact ⟨n, .tail _ hn⟩
    · intro q hq
      rcases List.mem_cons.mp hq with rfl | hq
      · exact ⟨by show @Ne Nat _ _; dsimp only; omega, by show @Ne Nat _ _; dsimp only; omega, by show @Ne Nat _ _; dsimp only; omega, by show @Ne Nat _ _; dsimp only; omega, by show @Ne Nat _ _; dsimp only; omega, by show @Ne Nat _ _; dsimp only; omega, by show @Ne Nat _ _; dsimp only; omega⟩
      · exact oR q hq
    · have : @Ne Nat dA 1 := by show @Ne Nat _ _; omega
      simpa [sysModules] using this
    intro a na ex nDS1 nD1 nW1 nNS1 nPS1 vsW1 v ps1 hex hexf hO1 hT1 hF1 hAl h4 tk4 htk F4 N4
    dsimp only [WL] at N4
    have hG9 : AllLt h4.objs.size _ := allLt_of fun p hp => Heap.lt_size (N4 p hp).1
    dsimp only [AllLt] at hG9
    k_extra "m:my run"
    with_reducible rename News g' L' _ _ => N5
    generalize h4.objs.size = lG at *
    obtain ⟨g1, g2, g3, g4, g5, g6, g7, g8, g9, g10, g11, g12, g13⟩ := hG9
    have N6 : News g' L' _ (WL w kk x d lD D0 l0 lDS lNS lPM lPS aW lW true done n0 nDS1 nD1 nW1 nNS1 nPS1 t1 t2 (lv ++ [a]) [] vsW1 (vsN ++ [v]) (k + 1) ps1 ((lG, listOf [Value.none].toArray 0) :: (a, listOf [].toArray na) :: (ex ++ (dA, dictOf [] nA) :: rest))) := news_sub N5 (by k_extra "m:my sub")
    have hR2 : (lR, listOf vsR.toArray nR) ∈ ((lG, listOf [Value.none].toArray 0) :: (a, listOf [].toArray na) :: (ex ++ (dA, dictOf [] nA) :: rest)) := .tail _ (.tail _ (List.mem_append_right _ (.tail _ hR)))
    have hlv2 : ∀ a' ∈ lv ++ [a], ∃ n, (a', listOf [].toArray n) ∈ ((lG, listOf [Value.none].toArray 0) :: (a, listOf [].toArray na) :: (ex ++ (dA, dictOf [] nA) :: rest)) := by
      intro a' ha
      rcases List.mem_append.mp ha with ha | ha
      · obtain ⟨n, hn⟩ := hlv a' ha
        exact ⟨n, .tail _ (.tail _ (List.mem_append_right _ (.tail _ hn)))⟩
      · rw [List.mem_singleton.mp ha]
        exact ⟨na, .tail _ (.head _)⟩
    have oR2 : Far lW d lD lDS lNS lPS ((lG, listOf [Value.none].toArray 0) :: (a, listOf [].toArray na) :: (ex ++ (dA, dictOf [] nA) :: rest)) := by
      intro q hq
      rcases List.mem_cons.mp hq with rfl | hq
      · exact ⟨by show @Ne Nat _ _; dsimp only; omega, by show @Ne Nat _ _; dsimp only; omega, by show @Ne Nat _ _; dsimp only; omega, by show @Ne Nat _ _; dsimp only; omega, by show @Ne Nat _ _; dsimp only; omega, by show @Ne Nat _ _; dsimp only; omega, by show @Ne Nat _ _; dsimp only; omega⟩
      · exact hF1 q hq
    have hlo1 : (out ++ (Str.ofString "<" ++ Str.ofString "b").cps.toList ++ (Str.ofString ">").cps.toList).length = out.length + 3 := by
      rw [List.length_append, List.length_append, show (Str.ofString "<" ++ Str.ofString "b").cps.toList.length = 2 from by decide +kernel, show (Str.ofString ">").cps.toList.length = 1 from by decide +kernel]
    have hlt1 := hlen first (cutP rk first (last - first - 2)) hcl.1 hc5
    have hol1 := kn3 hsp (Nat.sub_pos_of_lt hcl.2) hol
    rw [← hlo1] at hol1
    refine use_call (ih first (cutP rk first (last - first - 2)) hcl.1 hc5 hc6 ta _ tt lR nR vsR done nDS1 nD1 nW1 nNS1 nPS1 (lv ++ [a]) [] vsW1 (vsN ++ [v]) (k + 1) ps1 _ _ hR2 hrk hlv2 (by simp; omega) (by omega) (by simp; omega) hO1 hol1 (tabok_mono hT1 fun p hp => .tail _ (.tail _ hp)) oR2)
      (by k_asm) (by k_asm) (by k_asm) N6 (by k_asm) rfl (by k_extra "m:my room") (by k_extra "m:my room") (by first | exact htk | omega) ?_
    intro lG1 nG1 mG1 ex1 done1 nDS2 nD2 nW2 nNS2 nPS2 vsD2 vsW2 ps2 hm1 hq1 hal1 hpl1 hT2 hF2 hO2 h5 tk5 htk F5 N7
    dsimp only [WL] at N7
    k_extra "m:my run"
    with_reducible rename News g' L' _ _ => N8
    have N9 : News g' L' _ ((lG, listOf [Value.none].toArray 0) :: (lG1, listOf (List.replicate (mG1 + 1) Value.none).toArray nG1) :: WL w kk x d lD D0 l0 lDS lNS lPM lPS aW lW true done1 n0 nDS2 nD2 nW2 nNS2 nPS2 t1 t2 (lv ++ [a]) vsD2 vsW2 (vsN ++ [v]) (k + 1) ps2 (ex1 ++ ((a, listOf [].toArray na) :: (ex ++ (dA, dictOf [] nA) :: rest)))) :=
      news_sub N8 (mv_up (P := WL w kk x d lD D0 l0 lDS lNS lPM lPS aW lW true done1 n0 nDS2 nD2 nW2 nNS2 nPS2 t1 t2 (lv ++ [a]) vsD2 vsW2 (vsN ++ [v]) (k + 1) ps2 []))
    have hx1 : ∀ q ∈ ex1, q.1 ≠ lG := ne_quiet N9 (.head _) hq1 fun q hq => .tail _ (.tail _ (List.mem_append_right (WL w kk x d lD D0 l0 lDS lNS lPM lPS aW lW true done1 n0 nDS2 nD2 nW2 nNS2 nPS2 t1 t2 (lv ++ [a]) vsD2 vsW2 (vsN ++ [v]) (k + 1) ps2 []) (List.mem_append_left _ hq)))
    have hal2 : @LT.lt Nat _ lG lG1 := hal1.1
    have hg13 := allLt_mem g13
    dsimp only [WL] at N9
    refine my_extend (by k_asm) N9 (.head _) ?_ (by simp) (by simp; exact kn5 (Nat.le_trans (Nat.sub_le _ _) hc5) hm1) ?_
    · have gg : @Ne Nat a lG := by show @Ne Nat _ _; omega
      clear hF1 hF2 oR2 hA9
      k_extra "m:my ne"
      intro q hq
      rcases List.mem_append.mp hq with hq | hq
      · exact hx1 q hq
      · rcases List.mem_cons.mp hq with rfl | hq
        · exact gg
        · show @Ne Nat _ _
          have := hg13 q hq
          omega
    intro h6 F6 N10
    k_extra "m:my run"
    with_reducible rename News g' L' _ _ => N11
    have N12 : News g' L' _ (WL w kk x d lD D0 l0 lDS lNS lPM lPS aW lW true done1 n0 nDS2 nD2 nW2 nNS2 nPS2 t1 t2 (lv ++ [a]) vsD2 vsW2 (vsN ++ [v]) (k + 1) ps2 ((lG, listOf (Value.none :: List.replicate (mG1 + 1) Value.none).toArray 1) :: (ex1 ++ ((a, listOf [].toArray na) :: (ex ++ (dA, dictOf [] nA) :: rest))))) :=
      news_sub N11 (mv_dn (P := WL w kk x d lD D0 l0 lDS lNS lPM lPS aW lW true done1 n0 nDS2 nD2 nW2 nNS2 nPS2 t1 t2 (lv ++ [a]) vsD2 vsW2 (vsN ++ [v]) (k + 1) ps2 []))
    have oR3 : Far lW d lD lDS lNS lPS ((lG, listOf (Value.none :: List.replicate (mG1 + 1) Value.none).toArray 1) :: (ex1 ++ ((a, listOf [].toArray na) :: (ex ++ (dA, dictOf [] nA) :: rest)))) := by
      intro q hq
      rcases List.mem_cons.mp hq with rfl | hq
      · exact oR2 (lG, listOf [Value.none].toArray 0) (.head _)
      · refine hF2 q ?_
        rcases List.mem_append.mp hq with hq | hq
        · exact List.mem_append_left _ hq
        · exact List.mem_append_right _ (.tail _ hq)
    have hlv3 : ∀ a' ∈ lv ++ [a], ∃ n, (a', listOf [].toArray n) ∈ ((a, listOf [].toArray na) :: (ex ++ (dA, dictOf [] nA) :: rest)) := by
      intro a' ha
      rcases List.mem_append.mp ha with ha | ha
      · obtain ⟨n, hn⟩ := hlv a' ha
        exact ⟨n, .tail _ (List.mem_append_right _ (.tail _ hn))⟩
      · rw [List.mem_singleton.mp ha]
        exact ⟨na, .head _⟩
    have hlo2 : (out ++ (Str.ofString "<" ++ Str.ofString "b").cps.toList ++ (Str.ofString ">").cps.toList ++ tellP (sgT tx) rk (NN + 1) first (cutP rk first (last - first - 2))).length = out.length + 3 + (tellP (sgT tx) rk (NN + 1) first (cutP rk first (last - first - 2))).length := by
      rw [List.length_append, hlo1]
    have hlt2 := hlen (cutP rk first (last - first - 2)) last hcl.2 hL5
    have hol2 := kn4 hsp hol hlt1
    have hol3 := kn8 (n := 0) (p := 0) hol2 hlt2
    rw [← hlo2] at hol2
    refine use_call (ih (cutP rk first (last - first - 2)) last hcl.2 hL5 hc7 _ tb tt lR nR vsR done1 nDS2 nD2 nW2 nNS2 nPS2 (lv ++ [a]) vsD2 vsW2 (vsN ++ [v]) (k + 1) ps2 _ _
      (.tail _ (List.mem_append_right _ (.tail _ (List.mem_append_right _ (.tail _ hR))))) hrk (fun a' ha => (hlv3 a' ha).imp fun n hn => .tail _ (List.mem_append_right _ hn)) (by simp; omega) (by omega) (by simp; omega) hO2 hol2 (tabok_swap hT2) oR3)
      (by k_asm) (by k_asm) (by k_asm) N12 (by k_asm) rfl (by k_extra "m:my room") (by k_extra "m:my room") (by first | exact htk | omega) ?_
    intro lG2 nG2 mG2 ex2 done2 nDS3 nD3 nW3 nNS3 nPS3 vsD3 vsW3 ps3 hm2 hq2 hal3 hpl2 hT3 hF3 hO3 h7 tk7 htk F7 N13
    dsimp only [WL] at N13
    k_extra "m:my run"
    with_reducible rename News g' L' _ _ => N14
    have N15 : News g' L' _ ((lG, listOf (Value.none :: List.replicate (mG1 + 1) Value.none).toArray 1) :: (lG2, listOf (List.replicate (mG2 + 1) Value.none).toArray nG2) :: WL w kk x d lD D0 l0 lDS lNS lPM lPS aW lW true done2 n0 nDS3 nD3 nW3 nNS3 nPS3 t1 t2 (lv ++ [a]) vsD3 vsW3 (vsN ++ [v]) (k + 1) ps3 (ex2 ++ (ex1 ++ ((a, listOf [].toArray na) :: (ex ++ (dA, dictOf [] nA) :: rest))))) :=
      news_sub N14 (mv_up (P := WL w kk x d lD D0 l0 lDS lNS lPM lPS aW lW true done2 n0 nDS3 nD3 nW3 nNS3 nPS3 t1 t2 (lv ++ [a]) vsD3 vsW3 (vsN ++ [v]) (k + 1) ps3 []))
    have hx2 : ∀ q ∈ ex2, q.1 ≠ lG := ne_quiet N15 (.head _) hq2 fun q hq => .tail _ (.tail _ (List.mem_append_right (WL w kk x d lD D0 l0 lDS lNS lPM lPS aW lW true done2 n0 nDS3 nD3 nW3 nNS3 nPS3 t1 t2 (lv ++ [a]) vsD3 vsW3 (vsN ++ [v]) (k + 1) ps3 []) (List.mem_append_left _ hq)))
    have hal4 : @LT.lt Nat _ lG lG2 := hal3.1
    have hx3 : ∀ q ∈ ex2 ++ (ex1 ++ ((a, listOf [].toArray na) :: (ex ++ (dA, dictOf [] nA) :: rest))), @Ne Nat q.1 lG := by
      have gg : @Ne Nat a lG := by show @Ne Nat _ _; omega
      intro q hq
      rcases List.mem_append.mp hq with hq | hq
      · exact hx2 q hq
      rcases List.mem_append.mp hq with hq | hq
      · exact hx1 q hq
      rcases List.mem_cons.mp hq with rfl | hq
      · exact gg
      · have := hg13 q hq
        exact Nat.ne_of_lt this
    dsimp only [WL] at N15
    refine my_extend (by k_asm) N15 (.head _) ?_ (by simp) (by simp; first | exact kn6 hsp (Nat.le_trans (Nat.sub_le _ _) hL5) hm1 hm2 | omega) ?_
    · clear hF1 hF2 oR2 hA9 oR3 hF3
      k_extra "m:my ne"
      exact hx3
    intro h8 F8 N16
    k_extra "m:my run"
    with_reducible rename News g' L' _ _ => N17
    have N18 : News g' L' _ (WL w kk x d lD D0 l0 lDS lNS lPM lPS aW lW true done2 n0 nDS3 nD3 nW3 nNS3 nPS3 t1 t2 (lv ++ [a]) vsD3 vsW3 (vsN ++ [v]) (k + 1) ps3 ((lG, listOf ((Value.none :: List.replicate (mG1 + 1) Value.none) ++ List.replicate (mG2 + 1) Value.none).toArray 2) :: (ex2 ++ (ex1 ++ ((a, listOf [].toArray na) :: (ex ++ (dA, dictOf [] nA) :: rest)))))) :=
      news_sub N17 (mv_dn (P := WL w kk x d lD D0 l0 lDS lNS lPM lPS aW lW true done2 n0 nDS3 nD3 nW3 nNS3 nPS3 t1 t2 (lv ++ [a]) vsD3 vsW3 (vsN ++ [v]) (k + 1) ps3 []))
    have oR4 : Far lW d lD lDS lNS lPS ((lG, listOf ((Value.none :: List.replicate (mG1 + 1) Value.none) ++ List.replicate (mG2 + 1) Value.none).toArray 2) :: (ex2 ++ (ex1 ++ ((a, listOf [].toArray na) :: (ex ++ (dA, dictOf [] nA) :: rest))))) := by
      intro q hq
      rcases List.mem_cons.mp hq with rfl | hq
      · exact oR2 (lG, listOf [Value.none].toArray 0) (.head _)
      · refine hF3 q ?_
        rcases List.mem_append.mp hq with hq | hq
        · exact List.mem_append_left _ hq
        · exact List.mem_append_right _ (.tail _ hq)
    refine use_call (endW w kk x d lD D0 l0 lDS lNS lPM lPS aW lW true done2 n0 nDS3 nD3 nW3 nNS3 nPS3 t1 t2 lv a vsD3 vsW3 vsN v k ps3 _ (Str.ofString "b") _ _
      (fun a' ha => (hlv3 a' ha).imp fun n hn => .tail _ (List.mem_append_right _ (List.mem_append_right _ hn))) (by omega) (by decide +kernel) (by decide +kernel) (by omega) (by omega) hO3 (by rw [List.length_append, hlo2]; exact hol3) (.inr rfl) hord oR4)
      (by k_asm) (by k_asm) (by k_asm) N18 (by k_asm) rfl (by k_extra "m:my room") (by k_extra "m:my room") (by first | exact htk | omega) ?_
    intro nDS4 nD4 nW4 nNS4 nPS4 vsW4 done4 hO4 h9 tk9 htk F9 N19
    dsimp only [WL] at N19
    k_extra "m:my run"
    with_reducible rename News g' L' _ _ => N20
    have N21 : News g' L' _ ((lG, listOf ((Value.none :: List.replicate (mG1 + 1) Value.none) ++ List.replicate (mG2 + 1) Value.none).toArray 2) :: WL w kk x d lD D0 l0 lDS lNS lPM lPS aW lW true done4 n0 nDS4 nD4 nW4 nNS4 nPS4 t1 t2 lv [] vsW4 vsN k ps3 (ex2 ++ (ex1 ++ ((a, listOf [].toArray na) :: (ex ++ (dA, dictOf [] nA) :: rest))))) :=
      news_sub N20 (mv_fr (P := WL w kk x d lD D0 l0 lDS lNS lPM lPS aW lW true done4 n0 nDS4 nD4 nW4 nNS4 nPS4 t1 t2 lv [] vsW4 vsN k ps3 []))
    refine my_append (by k_asm) N21 ?_ (by simp; omega) ?_
    · clear hF1 hF2 oR2 hA9 oR3 hF3
      dsimp only [WL]
      k_extra "m:my ne"
      exact hx3
    intro h10 F10 N22
    dsimp only [WL] at N22
    k_extra "m:my run"
    with_reducible rename News h₀ L _ _ => N23
    with_reducible rename Fr h₀ L _ _ => F23
    have hap : ex2 ++ (ex1 ++ ((a, listOf [].toArray na) :: (ex ++ (dA, dictOf [] nA) :: rest))) = (ex2 ++ (ex1 ++ ((a, listOf [].toArray na) :: (ex ++ [(dA, dictOf [] nA)])))) ++ rest := by simp
    rw [nones_eq, hap] at N23
    refine hret lG _ _ _ done4 nDS4 nD4 nW4 nNS4 nPS4 _ _ ps3 ?_ (quiet_knot hq1 hq2 hexf) (allLt_of fun q hq => hg13 q (List.mem_append_right _ (.tail _ hq))) g11 ?_ ?_ ?_ _ _ htk F23 N23
    · first | exact kn7 hsp hm1 hm2 | omega
    · rw [← hap]
      exact tabok_drop hT3
    · rw [← hap]
      exact fun q hq => oR4 q (.tail _ hq)
    · ((first | rewrite [tellP_q0] | rewrite [tellP_q1]); rewrite [if_neg (by omega)]; (try with_reducible rfl))
      simp only [List.append_assoc] at hO4 ⊢
      exact hO4
theorem tellP_len (tx : Str) (rk : Nat → Nat) (hs : ∀ i, i < 5 → (escL (sgT tx i)).length ≤ 5) : ∀ n a b, a < b → b ≤ 5 → (tellP (sgT tx) rk n a b).length + 7 ≤ 12 * (b - a)
  | 0, a, b, h, _ => Nat.le_trans (by decide : 0 + 7 ≤ 12 * 1) (Nat.mul_le_mul_left 12 (Nat.sub_pos_of_lt h))
  | n + 1, a, b, h, h5 => by
    ((first | rewrite [tellP_q0] | rewrite [tellP_q1]); (try with_reducible rfl))
    split
    · exact Nat.le_trans (Nat.add_le_add_right (hs a (Nat.lt_of_lt_of_le h h5)) 7) (Nat.mul_le_mul_left 12 (Nat.sub_pos_of_lt h))
    · rename_i hne
      have hc := cut_in rk (Nat.lt_of_le_of_ne h (Ne.symm hne))
      have i1 := tellP_len tx rk hs n a (cutP rk a (b - a - 2)) hc.1 (Nat.le_of_lt (Nat.lt_of_lt_of_le hc.2 h5))
      have i2 := tellP_len tx rk hs n (cutP rk a (b - a - 2)) b hc.2 h5
      have e1 : (Str.ofString "<" ++ Str.ofString "b").cps.toList.length = 2 := by decide +kernel
      have e2 : (Str.ofString ">").cps.toList.length = 1 := by decide +kernel
      have e3 : (Str.ofString "</" ++ Str.ofString "b" ++ Str.ofString ">").cps.toList.length = 4 := by decide +kernel
      rw [List.length_append, List.length_append, List.length_append, List.length_append, e1, e2, e3]
      exact kn_len i1 i2 (ar_split hc.1 hc.2)
theorem tellW (w : World) (kk : Nat → Tok) (x d lD D0 l0 lDS lNS lPM lPS aW lW n0 : Nat) (t1 t2 : Tok) (tx : Str) (rk : Nat → Nat) (hx : tx.length = 5) (hord : Ord lW aW d x lD D0 l0 lDS lNS lPM lPS) (hs : ∀ i, i < 5 → (escL (sgT tx i)).length ≤ 5) :
    ∀ (N first last : Nat), first < last → last ≤ 5 → last - first ≤ N + 1 → TellC w kk x d lD D0 l0 lDS lNS lPM lPS aW lW n0 t1 t2 tx rk N first last
  | 0, first, last, h1, h2, h3 => tell_leaf w kk x d lD D0 l0 lDS lNS lPM lPS aW lW n0 t1 t2 tx rk hx hord 0 first last h2 (by omega)
  | N + 1, first, last, h1, h2, h3 => by
    by_cases hl : last = first + 1
    · exact tell_leaf w kk x d lD D0 l0 lDS lNS lPM lPS aW lW n0 t1 t2 tx rk hx hord (N + 1) first last h2 hl
    · exact tell_knot w kk x d lD D0 l0 lDS lNS lPM lPS aW lW n0 t1 t2 tx rk hx hord N first last h2 (by omega) (by omega) (fun a b => tellP_len tx rk hs (N + 1) a b) (fun a b => tellW w kk x d lD D0 l0 lDS lNS lPM lPS aW lW n0 t1 t2 tx rk hx hord hs N a b)
theorem words_c16_out : True := by
  (k_with "m:out c16" => skip)
  trivial
end Mine
end
section
namespace Mine
set_option maxRecDepth 100000
set_option maxHeartbeats 8000000
set_option linter.all false
theorem words_c17_0 : True := by
  (k_with "m:my run" => (repeat' ((fail_if_success (first | ((with_reducible show wpAny _ _ (exec _ _) _ _ _); first | (with_reducible show wpAny _ _ (exec (Stmt.While _ _ _ _) _) _ _ _) | (with_reducible show wpAny _ _ (exec (Stmt.For _ _ _ _ _) _) _ _ _)) | (k_extra "m:my stop"))); k_extra "m:my step")))
  (k_with "m:my runI" => (repeat' ((fail_if_success (first | ((with_reducible show wpAny _ _ (exec _ _) _ _ _); first | (with_reducible show wpAny _ _ (exec (Stmt.While _ _ _ _) _) _ _ _) | (with_reducible show wpAny _ _ (exec (Stmt.For _ _ _ _ _) _) _ _ _) | (with_reducible show wpAny _ _ (exec (Stmt.If _ _ _ _) _) _ _ _)) | (k_extra "m:my stop"))); k_extra "m:my step")))
  trivial
theorem bareT (w : World) (news : List (Addr × Obj)) (v : Value) (y : Str) (hv : TV w news v y) :
    Call w (.ref 327) [v] [] 5 40 news (fun K => ∀ t, K (.str y t) news) := by
  revert w news v y hv
  intro w news v y hv
  cases hv with
  | str y t =>
    revert y t
    intro y t
    k_extra "m:my intro"
    k_extra "m:my enter"
    k_extra "m:my run"
    with_reducible rename News h₀ L _ _ => N20
    with_reducible rename Fr h₀ L _ _ => F20
    exact hret _ _ _ (by first | exact htk | omega) F20 N20
  | qn a d k x t h1 h2 =>
    revert a d k y t h1 h2
    intro a d k y t h1 h2
    k_extra "m:my intro"
    k_extra "m:my enter"
    k_extra "m:my run"
    with_reducible rename News h₀ L _ _ => N20
    with_reducible rename Fr h₀ L _ _ => F20
    exact hret _ _ _ (by first | exact htk | omega) F20 N20
theorem words_c17_1 : True := by
  (k_with "m:my run" => (repeat' ((fail_if_success (first | ((with_reducible show wpAny _ _ (exec _ _) _ _ _); first | (with_reducible show wpAny _ _ (exec (Stmt.While _ _ _ _) _) _ _ _) | (with_reducible show wpAny _ _ (exec (Stmt.For _ _ _ _ _) _) _ _ _)) | (k_extra "m:my stop") | ((with_reducible show wpAny _ _ (setItem _ _ _) _ _ _); first | (with_reducible show wpAny _ _ (setItem (Value.ref _) (Value.int _ _) _) _ _ _)))); k_extra "m:my step")))
  (k_with "m:my runI" => (repeat' ((fail_if_success (first | ((with_reducible show wpAny _ _ (exec _ _) _ _ _); first | (with_reducible show wpAny _ _ (exec (Stmt.While _ _ _ _) _) _ _ _) | (with_reducible show wpAny _ _ (exec (Stmt.For _ _ _ _ _) _) _ _ _) | (with_reducible show wpAny _ _ (exec (Stmt.If _ _ _ _) _) _ _ _)) | (k_extra "m:my stop") | ((with_reducible show wpAny _ _ (setItem _ _ _) _ _ _); first | (with_reducible show wpAny _ _ (setItem (Value.ref _) (Value.int _ _) _) _ _ _)))); k_extra "m:my step")))
  trivial
noncomputable def CellJ (lS lC : Nat) (news0 : List (Addr × Obj)) (m : Str → Option Value) (news : List (Addr × Obj)) : Prop :=
  ∃ (c0 c1 : Int) (t0 t1 : Tok) (nC : Nat), news = (lC, listOf [.int c0 t0, .int c1 t1].toArray nC) :: news0 ∧ 0 ≤ c0 ∧ c0 < 1000000 ∧ 0 ≤ c1 ∧ c1 < 1000000 ∧ Nm m [(Str.ofString "script", Value.ref lS), (Str.ofString "cells", Value.ref lC)]
theorem range_fact63 : ∀ n : Nat, n < 64 → Builtin.Range.small 0 (n : Int) 1 = true ∧ Builtin.Range.rangeSize 0 (n : Int) 1 = (n : Int) := by decide +kernel
theorem par2 (i : Nat) : ((0 : Int) + (i : Int)).fmod 2 = 0 ∨ ((0 : Int) + (i : Int)).fmod 2 = 1 := by
  have h1 := Int.fmod_nonneg_of_pos ((0 : Int) + (i : Int)) (b := 2) (by decide)
  have h2 := Int.fmod_lt_of_pos ((0 : Int) + (i : Int)) (b := 2) (by decide)
  omega
noncomputable abbrev CallL (w : World) (f : Value) (vs : List Value) (kw : List (Str × Value)) (D U : Nat) (lS : Addr) (its : Array Value) (news : List (Addr × Obj)) (Out : (Value → List (Addr × Obj) → Prop) → Prop) : Prop :=
  ∀ (p : Program) (loose : List Str) (mean : ExcName → Option Value) (mg mb : Str → Option Value)
    (dp un : Nat) (gd : Option (List Code)) (cn : Str) (cs : Scope) (a : Addr) (ccd : Value) (cl : List (Str × Addr)) (outer : List Env) (A₀ : Around) (base h₀ : Heap) (L : Addr) (m : Str → Option Value) (s : Shared) (Q E : Value → Shared → Prop),
    Below A₀ base outer h₀ → Fr h₀ L s.heap m → (hd.heap_39 w.params).In h₀ → News h₀ L s.heap news → Top p loose mean mg mb h₀ → cs.kind = .function →
    dp + D < recursionLimit → un + U < cLine → h₀.IsList lS its →
    Out (fun v news' => Ret h₀ L m news' s Q v) →
    wpAny (model PySem.Challenge.rw_uc0067_01.row.prog w) (ktrTop dp un gd cn cs L a ccd cl outer) (call f vs kw) Q E s
section
variable {prog : Program} {w : World} {A : Around} {E : Value → Shared → Prop} {s : Shared} {h₀ : Heap} {L l : Addr} {m : Str → Option Value} {vs : List Value}
theorem my_lenB {Q : Value → Shared → Prop} (F : Fr h₀ L s.heap m) (hL : h₀.IsList l vs.toArray) (hf : vs.length ≤ 1000) (h : Q (.int vs.length (s.toks + 1)) { s with toks := s.toks + 1 + 1 }) :
    wpAny (model prog w) A (call (.builtin "len") [.ref l]) Q E s := by
  have e : (List.toArray vs).size = vs.length := List.size_toArray ..
  exact PySem.Calls.call_len_list (hL.at fun o e => F.keep _ o e) (by rw [e]; omega) (by rw [e]; exact h)
theorem my_itemB {value slice : PySem.Expr} {k : Int} {t : Tok} {x : Value} {Q : Value → Shared → Prop} (F : Fr h₀ L s.heap m) (hL : h₀.IsList l vs.toArray) (h0 : 0 ≤ k) (hk : k < 2 ^ 63) (hx : vs[k.toNat]? = some x) (h : Q x s)
    (hs : subscripted slice false (.ref l) (.int k t) = operate [.ref l, .int k t] (getItem (.ref l) (.int k t))) :
    wpAny (model prog w) A (subscriptTail value slice (.ref l) (.int k t)) Q E s :=
  have hL' := hL.at (h' := s.heap) fun o e => F.keep _ o e
  tail_any hL'.typeIs slot_list_getitem.lookup (wpAny_getItem_list hL' h0 hk (by simpa using hx) h) hs
end
theorem cellsT (w : World) (news0 : List (Addr × Obj)) (lS : Addr) (vs : List Value) (hv : ∀ i, i < vs.length → ∃ k t, vs[i]? = some (.int k t)) (hl : vs.length ≤ 63) :
    CallL w (.ref 313) [.ref lS] [] 10 100 lS vs.toArray news0 (fun K => ∀ (lC nC : Nat) (c0 c1 : Int) (t0 t1 : Tok), 0 ≤ c0 → c0 < 1000000 → 0 ≤ c1 → c1 < 1000000 → AllLt lC news0 → K (.ref lC) ((lC, listOf [.int c0 t0, .int c1 t1].toArray nC) :: news0)) := by
  revert w news0 lS vs hv hl
  intro w news0 lS vs hv hl
  unfold CallL; k_fill; intro pg loose mean mg mb dp un gd cn cs a ccd cl outer A₀ base h₀ L m s Q E B F X N T hk hd hu hLs hret; refine wpAny_call ?_
  k_extra "m:my enter"
  refine with_tok (Nat.le_add_left 1 _) ?_
  replace F' : Fr g' L' h' (fun y => List.lookup y [(Str.ofString "script", Value.ref lS)]) := F'
  have hLg : g'.IsList lS vs.toArray := hLs.at fun o e => FG'.keep _ o e
  k_extra "m:my run"
  with_reducible rename (∀ p ∈ news0, p.1 < _) => l1a
  obtain ⟨lC, eN, l1a⟩ : ∃ lC : Nat, lC = _ ∧ ∀ p ∈ news0, p.1 < lC := ⟨_, rfl, l1a⟩
  subst eN
  refine my_For htk ?_ (fun _ => rfl)
  k_extra "m:my run"
  with_reducible rename News g' L' _ _ => N3
  refine my_lenB (by k_asm) hLg (by omega) ?_
  k_extra "m:my run"
  with_reducible rename News g' L' _ _ => N3
  with_reducible rename Fr g' L' _ _ => F3
  with_reducible rename IsRange _ _ _ _ _ _ _ _ => hR9
  obtain ⟨hsm, hrs⟩ := range_fact63 vs.length (by omega)
  refine my_range (n := vs.length) (fun _ => CellJ lS lC news0) rfl rfl rfl hR9 hsm hrs F3 N3 (by omega)
    ⟨954, 213, _, _, 0, rfl, by decide, by decide, by decide, by decide, rfl, rfl, trivial⟩ ?_ ?_
  · rintro i t m₁ news₁ h₁ tk₁ I it hi htk F₁ N₁ hI ⟨c0, c1, t0, t1, nC, rfl, b0, b1, b2, b3, hnm⟩
    have hI2 := allNe_of hI
    simp only [AllNe_q0, AllNe_q1] at hI2
    replace F₁ := fr_nm1 F₁ hnm
    dsimp only [kstB] at F₁
    replace F₁ : Fr g' L' h₁ _ := F₁
    replace N₁ : News g' L' h₁ _ := N₁
    obtain ⟨kz, tz, hz⟩ := hv i hi
    k_extra "m:my run"
    rcases par2 i with e | e
    · have h0 : (0 : Int) ≤ ((0 : Int) + (i : Int)).fmod 2 := by rw [e]; decide
      have h1 : (((0 : Int) + (i : Int)).fmod 2).toNat = 0 := by rw [e]; decide
      have hb1 := Int.fmod_nonneg_of_pos (c0 + kz) (b := 1000000) (by decide)
      have hb2 := Int.fmod_lt_of_pos (c0 + kz) (b := 1000000) (by decide)
      have h63 : (2 : Int) ^ 63 = 9223372036854775808 := by decide
      with_reducible rename News g' L' _ _ => N5
      refine my_item N5 (by k_extra "m:my mem") h0 (by rw [e]; decide) (by rw [h1]; rfl) ?_ (by with_unfolding_all rfl)
      k_extra "m:my run"
      with_reducible rename News g' L' _ _ => N5
      refine my_itemB (by k_asm) hLg (by omega) (by omega) (by rw [show ((0 : Int) + i).toNat = i from by omega]; exact hz) ?_ (by with_unfolding_all rfl)
      k_extra "m:my run"
      with_reducible rename News g' L' _ _ => N5
      replace N5 := rotK 1 N5 rfl
      dsimp only [List.eraseIdx] at N5
      refine my_set (by k_asm) N5 (by k_extra "m:my ne"; exact fun q hq => Nat.ne_of_lt (l1a q hq)) h0 (by rw [h1]; simp) (by simp) ?_
      intro h6 F6 N6
      rw [h1] at N6
      k_extra "m:my run"
      with_reducible rename News g' L' _ _ => N7
      replace N7 := rotK 1 N7 rfl
      dsimp only [List.eraseIdx, List.set] at N7
      refine ⟨_, _, _, _, rfl, (by first | exact htk | omega), (by k_asm), N7, ?_, fun p hp => (nomatch hp), ⟨_, _, _, _, _, rfl, hb1, hb2, b2, b3, rfl, rfl, trivial⟩⟩
      intro q hq
      rcases List.mem_cons.mp hq with rfl | hq
      · show @Ne Nat _ _; dsimp only; omega
      · exact hI q (.tail _ hq)
    · have h0 : (0 : Int) ≤ ((0 : Int) + (i : Int)).fmod 2 := by rw [e]; decide
      have h1 : (((0 : Int) + (i : Int)).fmod 2).toNat = 1 := by rw [e]; decide
      have hb1 := Int.fmod_nonneg_of_pos (c1 + kz) (b := 1000000) (by decide)
      have hb2 := Int.fmod_lt_of_pos (c1 + kz) (b := 1000000) (by decide)
      have h63 : (2 : Int) ^ 63 = 9223372036854775808 := by decide
      with_reducible rename News g' L' _ _ => N5
      refine my_item N5 (by k_extra "m:my mem") h0 (by rw [e]; decide) (by rw [h1]; rfl) ?_ (by with_unfolding_all rfl)
      k_extra "m:my run"
      with_reducible rename News g' L' _ _ => N5
      refine my_itemB (by k_asm) hLg (by omega) (by omega) (by rw [show ((0 : Int) + i).toNat = i from by omega]; exact hz) ?_ (by with_unfolding_all rfl)
      k_extra "m:my run"
      with_reducible rename News g' L' _ _ => N5
      replace N5 := rotK 1 N5 rfl
      dsimp only [List.eraseIdx] at N5
      refine my_set (by k_asm) N5 (by k_extra "m:my ne"; exact fun q hq => Nat.ne_of_lt (l1a q hq)) h0 (by rw [h1]; simp) (by simp) ?_
      intro h6 F6 N6
      rw [h1] at N6
      k_extra "m:my run"
      with_reducible rename News g' L' _ _ => N7
      replace N7 := rotK 1 N7 rfl
      dsimp only [List.eraseIdx, List.set] at N7
      refine ⟨_, _, _, _, rfl, (by first | exact htk | omega), (by k_asm), N7, ?_, fun p hp => (nomatch hp), ⟨_, _, _, _, _, rfl, b0, b1, hb1, hb2, rfl, rfl, trivial⟩⟩
      intro q hq
      rcases List.mem_cons.mp hq with rfl | hq
      · show @Ne Nat _ _; dsimp only; omega
      · exact hI q (.tail _ hq)
  · rintro h' tk' m' news' htk F' N' ⟨c0, c1, t0, t1, nC, rfl, b0, b1, b2, b3, hnm⟩
    replace F' := fr_nm F' hnm
    dsimp only [kstB] at F'
    replace F' : Fr g' L' h' _ := F'
    replace N' : News g' L' h' _ := N'
    k_extra "m:my run"
    with_reducible rename News h₀ L _ _ => N20
    with_reducible rename Fr h₀ L _ _ => F20
    exact hret lC nC c0 c1 t0 t1 b0 b1 b2 b3 (allLt_of l1a) _ _ (by first | exact htk | omega) F20 N20
end Mine
end
section
open PySem PySem.W
namespace Mine
noncomputable def eqT : Tr → Tr → Bool
  | .leaf a, .leaf b => Nat.beq a b
  | .node a b, .node c d => bif eqT a c then eqT b d else false
  | _, _ => false
theorem eqT_q0 (a b : Nat) : eqT (.leaf a) (.leaf b) = Nat.beq a b := rfl
theorem eqT_q1 (a b c d : Tr) : eqT (.node a b) (.node c d) = bif eqT a c then eqT b d else false := rfl
noncomputable def eqTs : List Tr → List Tr → Bool
  | [], [] => true
  | a :: r, b :: s => bif eqT a b then eqTs r s else false
  | _, _ => false
theorem eqTs_q0 : eqTs [] [] = true := rfl
theorem eqTs_q1 (a b : Tr) (r s : List Tr) : eqTs (a :: r) (b :: s) = bif eqT a b then eqTs r s else false := rfl
theorem eqT_eq : ∀ {a b : Tr}, eqT a b = true → a = b
  | .leaf a, .leaf b, h => by rw [Nat.eq_of_beq_eq_true h]
  | .node a b, .node c d, h => by
    simp only [eqT_q0, eqT_q1] at h
    cases e : eqT a c with
    | false => rw [e] at h; cases h
    | true =>
      rw [e] at h
      rw [eqT_eq e, eqT_eq h]
  | .leaf _, .node _ _, h => by cases h
  | .node _ _, .leaf _, h => by cases h
theorem eqTs_eq : ∀ {a b : List Tr}, eqTs a b = true → a = b
  | [], [], _ => rfl
  | a :: r, b :: s, h => by
    simp only [eqTs_q0, eqTs_q1] at h
    cases e : eqT a b with
    | false => rw [e] at h; cases h
    | true =>
      rw [e] at h
      rw [eqT_eq e, eqTs_eq h]
  | [], _ :: _, h => by cases h
  | _ :: _, [], h => by cases h
/-- a place's rank: how many rests come before its own -/
noncomputable def countB (f : Nat → Bool) : Nat → Nat
  | 0 => 0
  | n + 1 => bif f n then countB f n + 1 else countB f n
theorem countB_q0 (f : Nat → Bool) : countB f 0 = 0 := rfl
theorem countB_q1 (f : Nat → Bool) (n : Nat) : countB f (n + 1) = bif f n then countB f n + 1 else countB f n := rfl
noncomputable def rkC (u : List Nat) (i : Nat) : Nat := countB (fun j => ltB (u.drop j) (u.drop i)) 5
noncomputable def tellT (rk : Nat → Nat) (t : List Nat) : Nat → Nat → Nat → Tr
  | 0, _, _ => .leaf 9
  | n + 1, a, b => if b = a + 1 then .leaf (t.getD a 0) else
    (fun c => .node (tellT rk t n a c) (tellT rk t n c b)) (cutP rk a (b - a - 2))
theorem tellT_q0 (rk : Nat → Nat) (t : List Nat) (a b : Nat) : tellT rk t 0 a b = .leaf 9 := rfl
theorem tellT_q1 (rk : Nat → Nat) (t : List Nat) (n a b : Nat) : tellT rk t (n + 1) a b = if b = a + 1 then .leaf (t.getD a 0) else (fun c => .node (tellT rk t n a c) (tellT rk t n c b)) (cutP rk a (b - a - 2)) := rfl
noncomputable def isCut (rk : Nat → Nat) (i : Nat) : Bool := Nat.beq i 5 || !(List.range i).any fun j => Nat.ble (rk j) (rk i)
noncomputable def pageT (rk : Nat → Nat) (t : List Nat) : Nat → Nat × List Tr
  | 0 => (0, [])
  | i + 1 => (fun p : Nat × List Tr => bif isCut rk (i + 1) then (i + 1, p.2 ++ [tellT rk t 5 p.1 (i + 1)]) else p) (pageT rk t i)
theorem pageT_q0 (rk : Nat → Nat) (t : List Nat) : pageT rk t 0 = (0, []) := rfl
theorem pageT_q1 (rk : Nat → Nat) (t : List Nat) (i : Nat) : pageT rk t (i + 1) = (fun p : Nat × List Tr => bif isCut rk (i + 1) then (i + 1, p.2 ++ [tellT rk t 5 p.1 (i + 1)]) else p) (pageT rk t i) := rfl
noncomputable def pageJ (sg : Nat → List Nat) (rk : Nat → Nat) : Nat → Nat × List Nat
  | 0 => (0, [])
  | i + 1 => (fun p : Nat × List Nat => bif isCut rk (i + 1) then (i + 1, p.2 ++ tellP sg rk 5 p.1 (i + 1)) else p) (pageJ sg rk i)
theorem pageJ_q0 (sg : Nat → List Nat) (rk : Nat → Nat) : pageJ sg rk 0 = (0, []) := rfl
theorem pageJ_q1 (sg : Nat → List Nat) (rk : Nat → Nat) (i : Nat) : pageJ sg rk (i + 1) = (fun p : Nat × List Nat => bif isCut rk (i + 1) then (i + 1, p.2 ++ tellP sg rk 5 p.1 (i + 1)) else p) (pageJ sg rk i) := rfl
noncomputable def rn (f : Nat → List Nat) : Tr → List Nat
  | .leaf c => f c
  | .node l r => (Str.ofString "<" ++ Str.ofString "b").cps.toList ++ (Str.ofString ">").cps.toList ++ rn f l ++ rn f r ++ (Str.ofString "</" ++ Str.ofString "b" ++ Str.ofString ">").cps.toList
theorem rn_q0 (f : Nat → List Nat) (c : Nat) : rn f (.leaf c) = f c := rfl
theorem rn_q1 (f : Nat → List Nat) (l r : Tr) : rn f (.node l r) = (Str.ofString "<" ++ Str.ofString "b").cps.toList ++ (Str.ofString ">").cps.toList ++ rn f l ++ rn f r ++ (Str.ofString "</" ++ Str.ofString "b" ++ Str.ofString ">").cps.toList := rfl
theorem tellP_rn {sg : Nat → List Nat} {rk : Nat → Nat} {f : Nat → List Nat} {t : List Nat} (hs : ∀ i, i < 5 → escL (sg i) = f (t.getD i 0)) :
    ∀ n a b, a < b → b ≤ 5 → b - a ≤ n → tellP sg rk n a b = rn f (tellT rk t n a b)
  | 0, a, b, h1, _, h2 => absurd h2 (Nat.not_le_of_gt (Nat.sub_pos_of_lt h1))
  | n + 1, a, b, h1, h5, h2 => by
    ((first | rewrite [tellP_q0] | rewrite [tellP_q1]); (first | rewrite [tellT_q0] | rewrite [tellT_q1]); (try with_reducible rfl))
    by_cases e : b = a + 1
    · rw [if_pos e, if_pos e]
      exact hs a (Nat.lt_of_lt_of_le h1 h5)
    · rw [if_neg e, if_neg e]
      have hc := cut_in rk (Nat.lt_of_le_of_ne h1 (Ne.symm e))
      show _ = rn f (.node _ _)
      ((first | rewrite [rn_q0] | rewrite [rn_q1]); rewrite [tellP_rn hs n a _ hc.1 (Nat.le_of_lt (Nat.lt_of_lt_of_le hc.2 h5)) (kn1 hc.1 hc.2 h2), tellP_rn hs n _ b hc.2 h5 (kn2 hc.1 hc.2 h2)]; (try with_reducible rfl))
theorem pageJ_le (sg : Nat → List Nat) (rk : Nat → Nat) : ∀ i, (pageJ sg rk i).1 ≤ i
  | 0 => Nat.le_refl _
  | i + 1 => by
    have := pageJ_le sg rk i
    ((first | rewrite [pageJ_q0] | rewrite [pageJ_q1]); (try with_reducible rfl))
    dsimp only
    cases isCut rk (i + 1)
    · exact Nat.le_succ_of_le this
    · exact Nat.le_refl _
theorem pageJ_rn {sg : Nat → List Nat} {rk : Nat → Nat} {f : Nat → List Nat} {t : List Nat} (hs : ∀ i, i < 5 → escL (sg i) = f (t.getD i 0)) :
    ∀ i, i ≤ 5 → pageJ sg rk i = ((pageT rk t i).1, (pageT rk t i).2.flatMap (rn f))
  | 0, _ => rfl
  | i + 1, h => by
    have ih := pageJ_rn (rk := rk) hs i (by lia)
    have hle := pageJ_le sg rk i
    ((first | rewrite [pageJ_q0] | rewrite [pageJ_q1]); (first | rewrite [pageT_q0] | rewrite [pageT_q1]); (try with_reducible rfl))
    dsimp only
    cases isCut rk (i + 1)
    · exact ih
    · rw [ih] at hle
      dsimp only at hle
      simp only [cond_true]
      rw [ih]
      dsimp only
      rw [tellP_rn hs 5 _ _ (by lia) h (by lia), List.flatMap_append]
      simp
noncomputable def dueIn : List Nat → Tr → List (List Nat × Tr) → List (List Nat × Tr)
  | word, page, [] => [(word, page)]
  | word, page, (w, p) :: r => bif ltB word w then dueIn (word ++ w) (.node page p) r else (word, page) :: (w, p) :: r
theorem dueIn_q0 (word : List Nat) (page : Tr) : dueIn word page [] = [(word, page)] := rfl
theorem dueIn_q1 (word : List Nat) (page : Tr) (w : List Nat) (p : Tr) (r : List (List Nat × Tr)) : dueIn word page ((w, p) :: r) = bif ltB word w then dueIn (word ++ w) (.node page p) r else (word, page) :: (w, p) :: r := rfl
noncomputable def dueGo : List Nat → List (List Nat × Tr) → List (List Nat × Tr)
  | [], st => st
  | c :: r, st => dueGo r (dueIn [c] (.leaf c) st)
noncomputable def eqL : List Nat → List Nat → Bool
  | [], [] => true
  | a :: r, b :: s => bif Nat.beq a b then eqL r s else false
  | _, _ => false
theorem eqL_q0 : eqL [] [] = true := rfl
theorem eqL_q1 (a b : Nat) (r s : List Nat) : eqL (a :: r) (b :: s) = bif Nat.beq a b then eqL r s else false := rfl
theorem eqL_eq : ∀ {a b : List Nat}, eqL a b = true → a = b
  | [], [], _ => rfl
  | a :: r, b :: s, h => by
    simp only [eqL_q0, eqL_q1] at h
    cases e : Nat.beq a b with
    | false => rw [e] at h; cases h
    | true =>
      rw [e] at h
      rw [Nat.eq_of_beq_eq_true e, eqL_eq h]
  | [], _ :: _, h => by cases h
  | _ :: _, [], h => by cases h
noncomputable def treesP (u : List Nat) : List Tr := (pageT (rkC u) u 5).2
noncomputable def chkP (u : List Nat) : Bool := (fun ts => eqTs ts ((dueGo u.reverse []).map (·.2)) && (ts.all leadT && eqL (ts.flatMap fol) u)) (treesP u)
noncomputable def wordP (n : Nat) : List Nat := [n % 4, n / 4 % 4, n / 16 % 4, n / 64 % 4, n / 256 % 4]
noncomputable def chksP : Nat → Nat → Bool
  | 0, _ => true
  | n + 1, k => chkP (wordP k) && chksP n (k + 1)
theorem chksP_q0 (k : Nat) : chksP 0 k = true := rfl
theorem chksP_q1 (n k : Nat) : chksP (n + 1) k = (chkP (wordP k) && chksP n (k + 1)) := rfl
theorem chks0 : chksP 16 0 = true := by decide +kernel
end Mine
end
section
open PySem PySem.W PyProof.Rows
namespace Mine
/-! how a page is cut into symbols -/
noncomputable def szL (l : List Nat) : Nat := if tokH (l.take 3) = true then 3 else if tokH (l.take 2) = true then 2 else if tokH (l.take 1) = true then 1 else 0
noncomputable def nameL : Nat → List Nat
  | 0 => [98]
  | 1 => [114]
  | 2 => [35, 120, 68]
  | 3 => [97, 109, 112]
  | 4 => [108, 116]
  | _ => [103, 116]
inductive Lex : List Nat → List Nat → Prop
  | nil : Lex [] []
  | sign {l r : List Nat} {s n : Nat} : szL l = s → s ≠ 0 → l ≠ [] → getP tokT (l.take s) + 234 = (n : Int) → Lex (l.drop s) r → Lex l (n :: r)
  | name {l r : List Nat} {s k : Nat} : szL l = 0 → s < l.length → (∀ j, j < s → tokH [l.getD j 0] = false) → tokH [l.getD s 0] = true → k < 6 → l.take s = nameL k → s ≠ 0 → Lex (l.drop s) r → Lex l ((256 + k) :: r)
theorem szL_eq {l : List Nat} {n : Nat} (h3 : n ≤ 3) (h : ∀ s, n < s → s ≤ 3 → tokH (l.take s) = false) (hn : n = 0 ∨ tokH (l.take n) = true) : szL l = n := by
  unfold szL
  rcases (by omega : n = 0 ∨ n = 1 ∨ n = 2 ∨ n = 3) with rfl | rfl | rfl | rfl
  · rw [h 3 (by omega) (by omega), h 2 (by omega) (by omega), h 1 (by omega) (by omega)]; simp
  · rw [h 3 (by omega) (by omega), h 2 (by omega) (by omega), (hn.resolve_left (by decide) : tokH (l.take 1) = true)]; simp
  · rw [h 3 (by omega) (by omega), (hn.resolve_left (by decide) : tokH (l.take 2) = true)]; simp
  · rw [(hn.resolve_left (by decide) : tokH (l.take 3) = true)]; simp
theorem mem_tokH {l : List Nat} : tokH l = true ↔ l ∈ keysP tokT := by
  unfold tokH
  rw [List.contains_iff_mem]
theorem tok_some (w : World) (x : Str) : (valueAt (tokK w) x).isSome = tokH x.cps.toList := by
  rw [(tok_pis w).isSome x]
  cases h : tokH x.cps.toList with
  | true => exact decide_eq_true (mem_tokH.mp h)
  | false => exact decide_eq_false fun e => by rw [mem_tokH.mpr e] at h; cases h
theorem ints_app {vs us : List Value} {ns ms : List Int} (h : IntsAre vs ns) (h2 : IntsAre us ms) : IntsAre (vs ++ us) (ns ++ ms) := IntsAre.append h h2
theorem seqIndex_nat {i n : Nat} (h : i < n) : seqIndex? (i : Int) n = some i := by
  unfold seqIndex?
  have e : (if (i : Int) < 0 then (i : Int) + n else i) = i := if_neg (Int.not_lt.mpr (Int.natCast_nonneg i))
  dsimp only
  rw [e, decide_eq_true (Int.natCast_nonneg i), decide_eq_true (Int.ofNat_lt.mpr h)]
  rfl
theorem item_cps {x : Str} {i j : Nat} (h : i + j < x.length) : (Txt.item x ((i : Int) + (j : Int))).cps.toList = [(x.cps.toList.drop i).getD j 0] := by
  have e : Txt.charAt x ((i : Int) + (j : Int)) = x.cps.toList[i + j]? := by
    unfold Txt.charAt
    rw [show ((i : Int) + (j : Int)) = ((i + j : Nat) : Int) from by omega, seqIndex_nat h]
    simp
  unfold Txt.item
  rw [e, List.getD_eq_getElem?_getD, List.getElem?_drop]
theorem lex_nil {r : List Nat} (h : Lex [] r) : r = [] := by
  cases h with
  | nil => rfl
  | sign _ _ h _ _ => exact absurd rfl h
  | name _ h _ _ _ _ _ _ => exact absurd h (by simp)
theorem lex_sign {l rem : List Nat} {s : Nat} (h : Lex l rem) (hs : szL l = s) (h0 : s ≠ 0) (hl : l ≠ []) : ∃ n r, rem = n :: r ∧ getP tokT (l.take s) + 234 = (n : Int) ∧ Lex (l.drop s) r := by
  cases h with
  | nil => exact absurd rfl hl
  | sign h1 _ _ h4 h5 => rw [h1] at hs; subst hs; exact ⟨_, _, rfl, h4, h5⟩
  | name h1 _ _ _ _ _ _ _ => rw [h1] at hs; exact absurd hs.symm h0
theorem lex_name {l rem : List Nat} (h : Lex l rem) (hs : szL l = 0) (hl : l ≠ []) : ∃ s k r, rem = (256 + k) :: r ∧ s < l.length ∧ (∀ j, j < s → tokH [l.getD j 0] = false) ∧ tokH [l.getD s 0] = true ∧ k < 6 ∧ l.take s = nameL k ∧ s ≠ 0 ∧ Lex (l.drop s) r := by
  cases h with
  | nil => exact absurd rfl hl
  | sign h1 h2 _ _ _ => rw [h1] at hs; exact absurd hs h2
  | name _ h2 h3 h4 h5 h6 h7 h8 => exact ⟨_, _, _, rfl, h2, h3, h4, h5, h6, h7, h8⟩
end Mine
end
section
namespace Mine
set_option maxRecDepth 100000
set_option maxHeartbeats 8000000
set_option linter.all false
theorem words_c18_0 : True := by
  (k_with "m:newList" => ((fail_if_success (k_extra "m:out c18")); ((with_reducible show wpAny _ _ (newList [Value.none]) _ _ _); refine newList_N (by assumption) (by assumption) ?_; intro _ _ _)))
  (k_with "m:my neN" => ((fail_if_success (k_extra "m:out c18")); (repeat (first | exact List.forall_mem_nil _ | refine List.forall_mem_cons.mpr ⟨by (show @Ne Nat _ _; dsimp only; first | with_reducible assumption | (with_reducible refine Ne.symm ?_; with_reducible assumption) | omega), ?_⟩))))
  (k_with "m:eval Name" => ((fail_if_success (k_extra "m:out c18")); (k_here; (with_reducible show wpAny _ _ (eval (Expr.Name (Str.ofString "len") _) (compEnvC _ _ _ _)) _ _ _); k_dflt (refine LCgL.ld_built (by k_asm) (by k_asm) (by k_asm) (by k_is) (by boot_by_name) (by decide) ?_))))
  (k_with "m:my run" => (repeat' ((fail_if_success (first | ((with_reducible show wpAny _ _ (exec _ _) _ _ _); first | (with_reducible show wpAny _ _ (exec (Stmt.While _ _ _ _) _) _ _ _) | (with_reducible show wpAny _ _ (exec (Stmt.For _ _ _ _ _) _) _ _ _)) | (k_extra "m:my stop") | ((with_reducible show wpAny _ _ (call _ _ _) _ _ _); first | (with_reducible show wpAny _ _ (call (Value.ref 228) _ _) _ _ _) | (with_reducible show wpAny _ _ (call (Value.builtin "list.index") _ _) _ _ _) | (with_reducible show wpAny _ _ (call (Value.ref 327) _ _) _ _ _) | (with_reducible show wpAny _ _ (call (Value.ref 175) _ _) _ _ _) | (with_reducible show wpAny _ _ (call (Value.ref 198) _ _) _ _ _) | (with_reducible show wpAny _ _ (call (Value.ref 211) _ _) _ _ _) | (with_reducible show wpAny _ _ (call (Value.ref 339) _ _) _ _ _) | (with_reducible show wpAny _ _ (call (Value.builtin "min") _ _) _ _ _) | (with_reducible show wpAny _ _ (call (Value.builtin "str.join") _ _) _ _ _)) | ((with_reducible show wpAny _ _ (subscriptTail _ _ _ _) _ _ _); first | (with_reducible show wpAny _ _ (subscriptTail _ _ (Value.ref _) (Value.ref _)) _ _ _)) | ((with_reducible show wpAny _ _ (PySem.eval _ _) _ _ _); first | (with_reducible show wpAny _ _ (PySem.eval (PySem.Expr.ListComp _ _ _ _) _) _ _ _)) | ((with_reducible show wpAny _ _ (exec _ _) _ _ _); first | (with_reducible show wpAny _ _ (exec (Stmt.Assign [PySem.Expr.Name _ _] (PySem.Expr.ListComp _ _ _ _) _) _) _ _ _)) | ((with_reducible show wpAny _ _ (getAttr _ _ _) _ _ _); first | (with_reducible show wpAny _ _ (getAttr (Value.ref _) (Str.ofString "append") _) _ _ _)))); k_extra "m:my step")))
  (k_with "m:my runI" => (repeat' ((fail_if_success (first | ((with_reducible show wpAny _ _ (exec _ _) _ _ _); first | (with_reducible show wpAny _ _ (exec (Stmt.While _ _ _ _) _) _ _ _) | (with_reducible show wpAny _ _ (exec (Stmt.For _ _ _ _ _) _) _ _ _) | (with_reducible show wpAny _ _ (exec (Stmt.If _ _ _ _) _) _ _ _)) | (k_extra "m:my stop") | ((with_reducible show wpAny _ _ (call _ _ _) _ _ _); first | (with_reducible show wpAny _ _ (call (Value.ref 228) _ _) _ _ _) | (with_reducible show wpAny _ _ (call (Value.builtin "list.index") _ _) _ _ _) | (with_reducible show wpAny _ _ (call (Value.ref 327) _ _) _ _ _) | (with_reducible show wpAny _ _ (call (Value.ref 175) _ _) _ _ _) | (with_reducible show wpAny _ _ (call (Value.ref 198) _ _) _ _ _) | (with_reducible show wpAny _ _ (call (Value.ref 211) _ _) _ _ _) | (with_reducible show wpAny _ _ (call (Value.ref 339) _ _) _ _ _) | (with_reducible show wpAny _ _ (call (Value.builtin "min") _ _) _ _ _) | (with_reducible show wpAny _ _ (call (Value.builtin "str.join") _ _) _ _ _)) | ((with_reducible show wpAny _ _ (subscriptTail _ _ _ _) _ _ _); first | (with_reducible show wpAny _ _ (subscriptTail _ _ (Value.ref _) (Value.ref _)) _ _ _)) | ((with_reducible show wpAny _ _ (PySem.eval _ _) _ _ _); first | (with_reducible show wpAny _ _ (PySem.eval (PySem.Expr.ListComp _ _ _ _) _) _ _ _)) | ((with_reducible show wpAny _ _ (exec _ _) _ _ _); first | (with_reducible show wpAny _ _ (exec (Stmt.Assign [PySem.Expr.Name _ _] (PySem.Expr.ListComp _ _ _ _) _) _) _ _ _)) | ((with_reducible show wpAny _ _ (getAttr _ _ _) _ _ _); first | (with_reducible show wpAny _ _ (getAttr (Value.ref _) (Str.ofString "append") _) _ _ _)))); k_extra "m:my step")))
  trivial
noncomputable def SzAre (ys : List Value) (xs : List Str) (i : Nat) : Prop := ys.length = i ∧ ∀ j, j < i → ∃ t z, xs[j]? = some z ∧ ys[j]? = some (.int (z.length : Nat) t)
theorem szAre_le {ys : List Value} {xs : List Str} {i : Nat} (h : SzAre ys xs i) : ys.length ≤ xs.length := by
  rw [h.1]
  cases i with
  | zero => exact Nat.zero_le _
  | succ i =>
    obtain ⟨t, z, h1, h2⟩ := h.2 i (Nat.lt_succ_self i)
    exact (List.getElem?_eq_some_iff.mp h1).1
theorem szAre_snoc {ys : List Value} {xs : List Str} {i : Nat} {z : Str} {t : Tok} (h : SzAre ys xs i) (hz : xs[i]? = some z) : SzAre (ys ++ [.int (z.length : Nat) t]) xs (i + 1) := by
  refine ⟨by rw [List.length_append, h.1]; rfl, fun j hj => ?_⟩
  by_cases e : j = i
  · subst e
    refine ⟨t, z, hz, ?_⟩
    rw [List.getElem?_append_right (by rw [h.1]; exact Nat.le_refl _), h.1, Nat.sub_self]
    rfl
  · obtain ⟨t', z', a, b⟩ := h.2 j (by omega)
    refine ⟨t', z', a, ?_⟩
    rw [List.getElem?_append_left (by rw [h.1]; omega)]
    exact b
theorem sz_ints : ∀ {ys : List Value}, (∀ v ∈ ys, ∃ k t, v = .int k t) → kf_ints ys = true
  | [], _ => rfl
  | x :: r, h => by
    obtain ⟨k, t, rfl⟩ := h x (.head _)
    exact sz_ints (ys := r) fun v hv => h v (.tail _ hv)
theorem kf_at_of (k : Int) : ∀ (j : Nat) (l : List Value), (∃ t, l[j]? = some (.int k t)) → (∀ i, i < j → ∃ n t, l[i]? = some (.int n t) ∧ n ≠ k) → kf_at k l = some j
  | _, [], h, _ => by obtain ⟨t, h⟩ := h; simp at h
  | 0, x :: r, h, _ => by
    obtain ⟨t, h⟩ := h
    obtain rfl : x = .int k t := by simpa using h
    simp [kf_at, PyProof.Rows.isInt]
  | j + 1, x :: r, h, h2 => by
    obtain ⟨n, t, e, hne⟩ := h2 0 (Nat.zero_lt_succ j)
    obtain rfl : x = .int n t := by simpa using e
    have := kf_at_of k j r (by simpa using h) (fun i hi => by simpa using h2 (i + 1) (Nat.succ_lt_succ hi))
    have hb : (n == k) = false := by simpa using hne
    simp [kf_at, PyProof.Rows.isInt, this, hb]
noncomputable def RkIs (xs : List Str) (rk : Nat → Nat) : Prop := ∀ i, i < 5 → ∃ z, xs[rk i]? = some z ∧ z.length = 5 - i ∧ ∀ j, j < rk i → ∀ y, xs[j]? = some y → y.length ≠ 5 - i
theorem szAre_ints {ys : List Value} {xs : List Str} {i : Nat} (h : SzAre ys xs i) : kf_ints ys = true := by
  refine sz_ints fun v hv => ?_
  obtain ⟨j, hj, rfl⟩ := List.mem_iff_getElem.mp hv
  obtain ⟨t, z, _, h2⟩ := h.2 j (by rw [← h.1]; exact hj)
  rw [List.getElem?_eq_getElem hj] at h2
  exact ⟨_, t, Option.some.inj h2⟩
theorem szAre_at {ys : List Value} {xs : List Str} {rk : Nat → Nat} (h : SzAre ys xs 5) (h5 : xs.length = 5) (hr : RkIs xs rk) {i : Nat} (hi : i < 5) : kf_at ((5 : Int) - (i : Nat)) ys = some (rk i) := by
  obtain ⟨z, h1, h2, h3⟩ := hr i hi
  have hk : rk i < 5 := by rw [← h5]; exact (List.getElem?_eq_some_iff.mp h1).1
  refine kf_at_of _ _ _ ?_ fun j hj => ?_
  · obtain ⟨t, z', a, b⟩ := h.2 (rk i) hk
    rw [h1] at a
    cases a
    exact ⟨t, by rw [b, h2]; congr 2; omega⟩
  · obtain ⟨t, z', a, b⟩ := h.2 j (by omega)
    have := h3 j hj z' a
    exact ⟨_, t, b, by first | exact fun e => absurd (Int.ofNat.inj e) this | omega⟩
noncomputable def RkAre (ys : List Value) (rk : Nat → Nat) (i : Nat) : Prop := ys.length = i ∧ i ≤ 5 ∧ ∀ j, j < i → ∃ t, ys[j]? = some (.int (rk j : Nat) t)
theorem rkAre_snoc {ys : List Value} {rk : Nat → Nat} {i : Nat} {t : Tok} (h : RkAre ys rk i) (hi : i < 5) : RkAre (ys ++ [.int (rk i : Nat) t]) rk (i + 1) := by
  refine ⟨by rw [List.length_append, h.1]; rfl, hi, fun j hj => ?_⟩
  by_cases e : j = i
  · subst e
    refine ⟨t, ?_⟩
    rw [List.getElem?_append_right (by rw [h.1]; exact Nat.le_refl _), h.1, Nat.sub_self]
    rfl
  · obtain ⟨t', b⟩ := h.2.2 j (by omega)
    refine ⟨t', ?_⟩
    rw [List.getElem?_append_left (by rw [h.1]; omega)]
    exact b
noncomputable def CodeP (o : Obj) : Prop := ∃ vs q t, o.data = .fields vs ∧ vs[1]? = some (.str q t)
theorem tab_cut {pos : Pos} {q : Str} {ps : Array Value} {l r : List (Addr × Obj)} (h : TabOK pos q ps (l ++ r)) :
    ∃ ex, (∀ q ∈ ex, q ∈ l ++ r) ∧ (∀ q ∈ ex, CodeP q.2) ∧ TabOK pos q ps (ex ++ r) := by
  rcases h with h | ⟨c', oc, vs, t, h1, h2, h3, h4⟩
  · exact ⟨[], fun q hq => absurd hq List.not_mem_nil, fun q hq => absurd hq List.not_mem_nil, .inl h⟩
  · refine ⟨[(c', oc)], fun q hq => ?_, fun q hq => ?_, .inr ⟨c', oc, vs, t, h1, .head _, h3, h4⟩⟩
    · rw [List.mem_singleton.mp hq]; exact h2
    · rw [List.mem_singleton.mp hq]; exact ⟨_, _, _, h3, h4⟩
theorem ne_obk {h0 h : Heap} {L : Addr} {l : List (Addr × Obj)} {a : Addr} {o : Obj} {q : Addr × Obj} (N : News h0 L h l) (h1 : (a, o) ∈ l) (h2 : q ∈ l) (hne : q.2 ≠ o) : @Ne Nat q.1 a := fun e => hne (by
  have z1 := (N _ h1).1
  have z2 := (N _ h2).1
  rw [show q.1 = a from e] at z2
  exact Option.some.inj (z2.symm.trans z1))
theorem code_ne_list {o : Obj} {its : Array Value} {n : Nat} (h : CodeP o) : o ≠ listOf its n := by
  obtain ⟨vs, q, t, h1, h2⟩ := h
  intro e
  rw [e] at h1
  cases h1
theorem code_ne_it {o it : Obj} (h : CodeP o) (hi : ItP it) : o ≠ it := by
  obtain ⟨vs, q, t, h1, h2⟩ := h
  intro e
  rw [e] at h1
  exact hi vs h1 q t h2
noncomputable def PageJ (w : World) (kk : Nat → Tok) (x d lD D0 l0 lDS lNS lPM lPS aW lW n0 : Nat) (t1 t2 : Tok) (tx : Str) (rk : Nat → Nat) (lv : List Nat) (vsN : List Value) (k lG c lR : Nat) (oc oR : Obj) (rest : List (Addr × Obj)) (out : List Nat) (nms : Tok → Int → List (Str × Value)) (i : Nat) (m : Str → Option Value) (news : List (Addr × Obj)) : Prop :=
  ∃ (done : Bool) (nDS nD nW nNS nPS nG mG : Nat) (vsD vsW : List Value) (ps : Array Value) (ex : List (Addr × Obj)) (tf : Tok),
    news = (lG, listOf (List.replicate (mG + 1) Value.none).toArray nG) :: (c, oc) :: (lR, oR) :: WL w kk x d lD D0 l0 lDS lNS lPM lPS aW lW true done n0 nDS nD nW nNS nPS t1 t2 lv vsD vsW vsN k ps (ex ++ rest) ∧
    WOut vsW vsD (out ++ (pageJ (sgT tx) rk i).2) ∧ TabOK lamPos lamQual ps (ex ++ rest) ∧ Far lW d lD lDS lNS lPS (ex ++ rest) ∧ (∀ q ∈ ex, @Ne Nat q.1 lG) ∧ mG ≤ 3 * (pageJ (sgT tx) rk i).1 ∧ Nm m (nms tf (pageJ (sgT tx) rk i).1)
theorem sub14 {A : Type} {g a c r : A} {P ex rest ex0 : List A} (h : ∀ q ∈ ex0, q ∈ ex ++ rest) (hc : c ∈ rest) (hr : r ∈ rest) : ∀ p ∈ g :: c :: r :: (P ++ (ex0 ++ (a :: rest))), p ∈ g :: (P ++ (a :: (ex ++ rest))) :=
  sub_c (.head _) (sub_c (.tail _ (List.mem_append_right P (.tail _ (List.mem_append_right ex hc)))) (sub_c (.tail _ (List.mem_append_right P (.tail _ (List.mem_append_right ex hr)))) (app_c (fun q hq => .tail _ (List.mem_append_left _ hq)) (app_c (fun q hq => .tail _ (List.mem_append_right P (.tail _ (h q hq)))) (sub_c (.tail _ (List.mem_append_right P (.head _))) fun q hq => .tail _ (List.mem_append_right P (.tail _ (List.mem_append_right ex hq))))))))
section
variable {prog : Program} {w : World} {A : Around} {E : Value → Shared → Prop} {h₀ h : Heap} {g : Array GenState} {d : Drawn} {tk : Nat} {os : OsState} {L l : Addr} {m : Str → Option Value} {news : List (Addr × Obj)} {value slice : PySem.Expr} {vs : List Value} {ns : List Int} {n : Nat} {y : Int} {t : Tok} {Q : Value → Shared → Prop}
theorem my_upto (F : Fr h₀ L h m) (N : News h₀ L h news) (hm : (l, listOf vs.toArray n) ∈ news) (hi : IntsAre vs ns) (hz : vs.length ≤ 1000) (h0 : 0 ≤ y)
    (k : ∀ (D : Nat) ws h', Fr h₀ L h' m → News h₀ L h' ((D, listOf (List.toArray ws) 0) :: news) → AllLt D news → IntsAre ws (ns.take y.toNat) → Q (.ref D) ⟨h', g, d, tk, os⟩)
    (hs : subscripted slice false (.ref l) (.ref h.objs.size) = operate [.ref h.objs.size, .ref l] (getItem (.ref l) (.ref h.objs.size))) (ht : ∀ r, letTemporaryGo value (.ref l) r = pure ()) :
    wpAny (model prog w) A (subscriptTail value slice (.ref l) (.ref h.objs.size)) Q E ⟨h.push { cls := .type "slice", data := .fields #[.none, .int y t, .none] }, g, d, tk, os⟩ :=
  kmk_slice_ints (s := ⟨h, g, d, tk, os⟩) F N (N.isList hm) .none (.int _ _) hi (kmk_upto hi h0) rfl (fun D ws h' F' N' l1 i' _ _ => k D ws h' F' N' (allLt_of l1) i') hs ht (by rw [List.size_toArray, sizeLine_eq]; omega)
end
theorem pageJ_len (tx : Str) (rk : Nat → Nat) (hs : ∀ i, i < 5 → (escL (sgT tx i)).length ≤ 5) : ∀ i, i ≤ 5 → (pageJ (sgT tx) rk i).2.length ≤ 12 * (pageJ (sgT tx) rk i).1
  | 0, _ => Nat.le_refl _
  | i + 1, h => by
    have ih := pageJ_len tx rk hs i (by omega)
    have hle := pageJ_le (sgT tx) rk i
    ((first | rewrite [pageJ_q0] | rewrite [pageJ_q1]); (try with_reducible rfl))
    dsimp only
    cases isCut rk (i + 1)
    · exact ih
    · have := tellP_len tx rk hs 5 (pageJ (sgT tx) rk i).1 (i + 1) (Nat.lt_succ_of_le hle) h
      simp only [cond_true, List.length_append]
      exact pg4 hle ih this
theorem sub15 {A : Type} {g i c r : A} {P R : List A} : ∀ p ∈ P ++ (g :: i :: R), p ∈ i :: g :: c :: r :: (P ++ R) :=
  app_c (fun q hq => .tail _ (.tail _ (.tail _ (.tail _ (List.mem_append_left _ hq))))) (sub_c (.tail _ (.head _)) (sub_c (.head _) fun q hq => .tail _ (.tail _ (.tail _ (.tail _ (List.mem_append_right _ hq))))))
theorem sub16 {A : Type} {g g1 i c r : A} {P R ex1 ex2 ex3 : List A} (h : ∀ q ∈ ex2, q ∈ (ex1 ++ (g :: i :: ex3)) ++ R) (hc : c ∈ R) (hr : r ∈ R) : ∀ p ∈ g :: g1 :: i :: c :: r :: (P ++ (ex2 ++ R)), p ∈ g1 :: (P ++ (ex1 ++ (g :: i :: (ex3 ++ R)))) :=
  have B : ∀ q ∈ (ex1 ++ (g :: i :: ex3)) ++ R, q ∈ ex1 ++ (g :: i :: (ex3 ++ R)) := fun q hq => by rw [List.append_assoc] at hq; exact hq
  have E : ∀ q ∈ R, q ∈ ex1 ++ (g :: i :: (ex3 ++ R)) := fun q hq => List.mem_append_right ex1 (.tail _ (.tail _ (List.mem_append_right ex3 hq)))
  sub_c (.tail _ (List.mem_append_right P (List.mem_append_right ex1 (.head _)))) (sub_c (.head _) (sub_c (.tail _ (List.mem_append_right P (List.mem_append_right ex1 (.tail _ (.head _))))) (sub_c (.tail _ (List.mem_append_right P (E c hc))) (sub_c (.tail _ (List.mem_append_right P (E r hr))) (app_c (fun q hq => .tail _ (List.mem_append_left _ hq)) (app_c (fun q hq => .tail _ (List.mem_append_right P (B q (h q hq)))) fun q hq => .tail _ (List.mem_append_right P (E q hq))))))))
theorem sub17 {A : Type} {g g1 i c r : A} {P : List A} : ∀ p ∈ i :: g :: c :: r :: P, p ∈ g :: g1 :: i :: c :: r :: P :=
  sub_c (.tail _ (.tail _ (.head _))) (sub_c (.head _) fun q hq => .tail _ (.tail _ (.tail _ hq)))
theorem sub18 {A : Type} {g c r : A} {P R : List A} : ∀ p ∈ P ++ (g :: R), p ∈ g :: c :: r :: (P ++ R) :=
  app_c (fun q hq => .tail _ (.tail _ (.tail _ (List.mem_append_left _ hq)))) (sub_c (.head _) fun q hq => .tail _ (.tail _ (.tail _ (List.mem_append_right _ hq))))
theorem sub19 {A : Type} {t x1 x2 x3 x4 x5 x6 w x8 x9 x10 g : A} {T : List A} : ∀ p ∈ g :: w :: t :: T, p ∈ t :: x1 :: x2 :: x3 :: x4 :: x5 :: x6 :: w :: x8 :: x9 :: x10 :: g :: T :=
  sub_c (.tail _ (.tail _ (.tail _ (.tail _ (.tail _ (.tail _ (.tail _ (.tail _ (.tail _ (.tail _ (.tail _ (.head _)))))))))))) (sub_c (.tail _ (.tail _ (.tail _ (.tail _ (.tail _ (.tail _ (.tail _ (.head _)))))))) (sub_c (.head _) fun q hq => .tail _ (.tail _ (.tail _ (.tail _ (.tail _ (.tail _ (.tail _ (.tail _ (.tail _ (.tail _ (.tail _ (.tail _ hq)))))))))))))
theorem ne_app {A : Type} {Pr : A → Prop} {P T : List A} (h1 : ∀ q ∈ P, Pr q) (h2 : ∀ q ∈ T, Pr q) : ∀ q ∈ P ++ T, Pr q := fun q hq => by
  rcases List.mem_append.mp hq with h | h
  · exact h1 q h
  · exact h2 q h
theorem sub20 {A : Type} {e1 e2 g w t : A} {ex r l : List A} (h : ∀ q ∈ ex, q ∈ l) (hn : ∀ q ∈ r, q ∈ l) : ∀ p ∈ t :: (ex ++ r), p ∈ e1 :: e2 :: g :: w :: t :: l :=
  sub_c (.tail _ (.tail _ (.tail _ (.tail _ (.head _))))) (app_c (fun q hq => .tail _ (.tail _ (.tail _ (.tail _ (.tail _ (h q hq)))))) fun q hq => .tail _ (.tail _ (.tail _ (.tail _ (.tail _ (hn q hq))))))
theorem ints_of : ∀ (zs : List Value) (f : Nat → Int), (∀ j, j < zs.length → ∃ t, zs[j]? = some (.int (f j) t)) → IntsAre zs ((List.range zs.length).map f)
  | [], f, _ => .nil
  | v :: r, f, h => by
    obtain ⟨t, e⟩ := h 0 (Nat.zero_lt_succ _)
    obtain rfl : v = .int (f 0) t := by simpa using e
    have := ints_of r (fun j => f (j + 1)) fun j hj => by
      obtain ⟨t, e⟩ := h (j + 1) (Nat.succ_lt_succ hj)
      exact ⟨t, by simpa using e⟩
    rw [List.length_cons, List.range_succ_eq_map, List.map_cons, List.map_map]
    exact .cons _ _ this
theorem isCut_min {rk : Nat → Nat} {i : Nat} {M : Int} (hi : i + 1 < 5) (hM : M ∈ (List.range (i + 1)).map fun j => ((rk j : Nat) : Int)) (hle : ∀ a ∈ (List.range (i + 1)).map fun j => ((rk j : Nat) : Int), M ≤ a) : isCut rk (i + 1) = decide (((rk (i + 1) : Nat) : Int) < M) := by
  have h5 : Nat.beq (i + 1) 5 = false := by
    cases e : Nat.beq (i + 1) 5 with
    | false => rfl
    | true =>
      have := Nat.eq_of_beq_eq_true e
      omega
  unfold isCut
  rw [h5, Bool.false_or]
  by_cases h : ((rk (i + 1) : Nat) : Int) < M
  · rw [decide_eq_true h, Bool.not_eq_true', List.any_eq_false]
    intro j hj hb
    have := hle _ (List.mem_map.mpr ⟨j, hj, rfl⟩)
    have := Nat.le_of_ble_eq_true hb
    omega
  · rw [decide_eq_false h, Bool.not_eq_false', List.any_eq_true]
    obtain ⟨j, hj, rfl⟩ := List.mem_map.mp hM
    exact ⟨j, hj, Nat.ble_eq_true_of_le (by omega)⟩
theorem isCut_end {rk : Nat → Nat} {i : Nat} (hi : i + 1 = 5) : isCut rk (i + 1) = true := by
  unfold isCut
  rw [hi]
  rfl
theorem WOut0 : WOut [] [] [] := by
  exact ⟨[], [], .nil, .nil, rfl, fun y hy => absurd hy List.not_mem_nil, fun y hy => absurd hy List.not_mem_nil⟩
theorem key18 (w : World) (kk : Nat → Tok) (aW lD lDS lNS lPM lPS : Nat) (seen done : Bool) (T : Tok) :
    ∃ kk', tg17 w kk aW lD lDS lNS lPM lPS seen done ++ [kE w "_iter_namespaces" T (.ref 332)] = tg18 w kk' aW lD lDS lNS lPM lPS seen done := ⟨fun i => if i = 18 then T else kk i, rfl⟩
theorem pageW (w : World) (tx : Str) (tt : Tok) (hxl : tx.length = 5) (lR nR : Nat) (vs : List Value) (xs : List Str) (nws news0 : List (Addr × Obj)) (ps : Array Value) (hnw0 : news0 = (201, tabObj ps) :: nws) (hps : TabOK lamPos lamQual ps nws) (h201 : ∀ q ∈ nws, @Ne Nat q.1 201) (hm : (lR, listOf vs.toArray nR) ∈ news0) (hv : TVs w news0 vs xs) (hxs : xs.length = 5) (hlx : ∀ z ∈ xs, z.length ≤ 5) (rk : Nat → Nat) (hrk : RkIs xs rk) (hesc : ∀ i, i < 5 → (escL (sgT tx i)).length ≤ 5) :
    Call w (.ref 344) [.str tx tt, .ref lR] [] 200 2000 news0 (fun K => ∀ (S : Str) (t : Tok) (ps' : Array Value) (ex : List (Addr × Obj)), S.cps.toList = (Str.ofString "<" ++ Str.ofString "r").cps.toList ++ (Str.ofString ">").cps.toList ++ (pageJ (sgT tx) rk 5).2 ++ (Str.ofString "</" ++ Str.ofString "r" ++ Str.ofString ">").cps.toList → TabOK lamPos lamQual ps' (ex ++ nws) → (∀ q ∈ ex, CodeP q.2) → (∀ q ∈ ex, @Ne Nat q.1 201) → K (.str S t) ((201, tabObj ps') :: (ex ++ nws))) := by
  revert w tx tt hxl lR nR vs xs nws news0 ps hnw0 hps h201 hm hv hxs hlx rk hrk hesc
  intro w tx tt hxl lR nR vs xs nws news0 ps hnw0 hps h201 hm hv hxs hlx rk hrk hesc
  have hlv : vs.length = 5 := by rw [hv.1]; exact hxs
  k_extra "m:my intro"
  k_extra "m:my enterC"
  obtain ⟨o1, o2, hE, d1, d2⟩ := CellsAre.two Y'
  subst hE
  simp only [List.cons_append, List.nil_append] at N'
  replace d1 : o1.data = .cell none := d1.trans (congrArg Data.cell (by kernel_rfl))
  replace d2 : o2.data = .cell (some (.str tx tt)) := d2.trans (congrArg Data.cell (by kernel_rfl))
  replace F' : Fr g' L' h' (fun y => if y = Str.ofString "row" then some (Value.ref lR) else none) := fr_is F' fun y => by
    kernel_rfl
  walk1
  walk1
  refine my_comp htk rfl rfl (by decide) ?_ (fun _ => rfl)
  k_extra "m:my run"
  with_reducible rename News g' L' _ _ => N2
  with_reducible rename Fr g' L' _ _ => F2
  refine my_comp_list (nn := nR) (vs := vs) (fun i ys news => news = (L' + 1 + 1, o1) :: (L' + 1, o2) :: news0 ∧ SzAre ys xs i) rfl (by decide) rfl rfl (.tail _ (.tail _ hm)) F2 N2 ⟨rfl, rfl, fun j hj => by omega⟩ ?_ ?_ ?_
  · rintro i ys news ⟨_, h⟩
    have := szAre_le h
    omega
  · rintro i v h1 tk1 hiv htk ys news₁ I oI C oC D m₂ E' ⟨hnw, hys⟩ hC hx F₁ N₁ hoff hne hks
    subst hnw
    obtain ⟨z, hz1, hz2⟩ : ∃ z, xs[i]? = some z ∧ TV w news0 v z := by
      have hi : i < xs.length := by
        rw [← hv.1]
        exact (List.getElem?_eq_some_iff.mp hiv).1
      exact ⟨xs[i], List.getElem?_eq_getElem hi, hv.2 i v _ hiv (List.getElem?_eq_getElem hi)⟩
    have hzl : z.length ≤ 5 := hlx z (List.mem_of_getElem? hz1)
    unfold tests
    k_extra "m:my run"
    with_reducible rename News g' L' _ _ => N₁
    refine use_call (bareT w _ v z (tv_mono hz2 fun p hp => .tail _ (.tail _ (.tail _ (.tail _ (.tail _ hp)))))) (by k_asm) (by k_asm) (by k_asm) N₁ (by k_asm) rfl (by k_extra "m:my room") (by k_extra "m:my room") (by first | exact htk | omega) ?_
    intro tz h3 tk3 htk F3 N3
    have h63 : (2 : Int) ^ 63 = 9223372036854775808 := by decide
    have hz63 : ¬ (z.length : Int) ≥ 2 ^ 63 := by omega
    k_extra "m:my run"
    with_reducible rename Fr g' L' _ _ => F4
    with_reducible rename News g' L' _ _ => N4
    exact hid ⟨_, _, _, rfl, F4, N4, hoff, hks, rfl, szAre_snoc hys hz1⟩
  · rintro ys news' ⟨rfl, hys⟩
    rw [hlv] at hys
    intro D h2 tk2 F₂ N₂ hD
    intro htk
    dsimp only at htk ⊢
    have gD : @Ne Nat D (L' + 1 + 1) := Ne.symm hD.1
    have g0 : ∀ q ∈ ((L' + 1, o2) :: news0), q.1 ≠ L' + 1 + 1 := by
      intro q hq
      rcases List.mem_cons.mp hq with rfl | hq
      · show @Ne Nat _ _; dsimp only; omega
      · have : @LT.lt Nat _ q.1 L' := l1 q hq
        show @Ne Nat _ _; omega
    have hU : UpdF (L' + 1 + 1) o1 ((D, LCg.lst ys) :: (L' + 1 + 1, o1) :: (L' + 1, o2) :: news0) (fun o' => (D, LCg.lst ys) :: (L' + 1 + 1, o') :: (L' + 1, o2) :: news0) := UpdF.tail gD (UpdF.head g0)
    refine storeX_C F₂ N₂ ?hc hU d1 ?_ ?hk ?hx
    case hk => rfl
    case hc => kernel_rfl
    case hx => kernel_rfl
    intro h3 o3 F3 N3 d3
    replace N3 : News g' L' h3 ((D, listOf ys.toArray ys.length) :: (L' + 1 + 1, o3) :: (L' + 1, o2) :: news0) := N3
    obtain ⟨lS, eS⟩ : ∃ lS : Nat, lS = D := ⟨_, rfl⟩
    subst eS
    k_extra "m:my run"
    refine my_compU (by first | exact htk | omega) (by with_unfolding_all rfl) (by with_unfolding_all rfl) rfl (by decide) ?_ (fun _ => rfl)
    k_extra "m:my run"
    with_reducible rename News g' L' _ _ => N4
    with_reducible rename Fr g' L' _ _ => F4
    with_reducible rename IsRange _ _ _ _ _ _ _ _ => hR9
    obtain ⟨hsm, hrs⟩ := range_fact63 tx.length (by omega)
    refine my_comp_rangeU (n := 5) (fun i zs news => news = (lS, listOf ys.toArray ys.length) :: (L' + 1 + 1, o3) :: (L' + 1, o2) :: news0 ∧ RkAre zs rk i) rfl rfl rfl (by decide) rfl rfl hR9 hsm (by rw [hrs, hxl]) F4 N4 ⟨rfl, rfl, by omega, fun j hj => by omega⟩ ?_ ?_ ?_
    · rintro i zs news ⟨_, h⟩
      have := h.1
      have := h.2.1
      omega
    · rintro i t h5 tk5 hi htk zs news₁ I oI C oC D m₂ E' ⟨hnw, hzs⟩ hC hx F₁ N₁ hoff hne hks
      subst hnw
      unfold tests
      dsimp only at F₁ N₁ ⊢
      replace F₁ : Fr g' L' h5 _ := F₁
      replace N₁ : News g' L' h5 _ := N₁
      k_extra "m:my run"
      have hka : kf_at ((tx.length : Int) - (0 + (i : Int))) ys = some (rk i) := by
        rw [show (tx.length : Int) - (0 + (i : Int)) = (5 : Int) - (i : Nat) from by omega]
        exact szAre_at hys hxs hrk hi
      with_reducible rename News g' L' _ _ => N₂
      refine kf_index N₂ (by k_extra "m:my mem") (szAre_ints hys) hka rfl (by show ys.length ≤ sizeLine; rw [sizeLine_eq, hys.1]; decide) ?_
      k_extra "m:my run"
      with_reducible rename Fr g' L' _ _ => F₂
      with_reducible rename News g' L' _ _ => N₂
      exact hid ⟨_, _, _, rfl, F₂, N₂, hoff, hks, rfl, rkAre_snoc hzs hi⟩
    · rintro zs news' ⟨rfl, hzs⟩
      intro D h5 tk5 F5 N5 hD5
      dsimp only at F5 N5 ⊢
      replace F5 : Fr g' L' h5 _ := F5
      replace N5 : News g' L' h5 _ := N5
      obtain ⟨lR2, eS⟩ : ∃ lR2 : Nat, lR2 = D := ⟨_, rfl⟩
      subst eS
      k_extra "m:my run"
      replace gD : @Ne Nat lS 201 := by
        have := hD
        rw [hnw0] at this
        exact Ne.symm this.2.2.1
      have g2D : @Ne Nat lR2 201 := by
        have := hD5
        rw [hnw0] at this
        exact Ne.symm this.2.2.2.1
      have gL : @LT.lt Nat _ 201 L' := by
        have := l1 (201, tabObj ps) (by rw [hnw0]; exact .head _)
        exact this
      with_reducible rename (@LT.lt Nat _ lR2 _ ∧ _) => l1a
      obtain ⟨lW, eW, l1a⟩ : ∃ lW : Nat, lW = _ ∧ (@LT.lt Nat _ lR2 lW ∧ @LT.lt Nat _ lS lW ∧ @LT.lt Nat _ (L' + 1 + 1) lW ∧ @LT.lt Nat _ (L' + 1) lW ∧ AllLt lW news0) := ⟨_, rfl, l1a⟩
      subst eW
      with_reducible rename News g' L' _ _ => N6
      with_reducible rename Fr g' L' _ _ => F6
      refine with_tok (by first | exact htk | omega) ?_
      refine my_bound (by k_asm) N6 (.head _) ?_
      intro aW h7 tk7 F7 N7 hA7 htk
      dsimp only at htk ⊢
      replace hA7 : @LT.lt Nat _ lW aW := hA7.1
      k_extra "m:my run"
      with_reducible rename News g' L' _ _ => N8
      refine use_call (tgt_new w lW aW _ (.head _)) (by k_asm) (by k_asm) (by k_asm) N8 (by k_asm) rfl (by k_extra "m:my room") (by k_extra "m:my room") (by first | exact htk | omega) ?_
      intro x d lD D0 l0 lDS lNS lPM lPS kk nNS t1 t2 vS vE od0 od1 od2 od3 od4 od5 od6 od7 od8 h8 tk8 htk F8 N9
      have od9 := allLt_of od0
      dsimp only [AllLt] at od9
      replace od0 : @LT.lt Nat _ aW d := od0 _ (.head _)
      have hord : Ord lW aW d x lD D0 l0 lDS lNS lPM lPS := ⟨by omega, hA7, od0, od1, od2, od3, od4, od5, od6, od7, od8⟩
      dsimp only [tg17, kE] at N9
      k_extra "m:my run"
      with_reducible rename News g' L' _ _ => N10
      with_reducible rename (@LT.lt Nat _ x _ ∧ _) => hA9
      obtain ⟨dA, eA, hA9⟩ : ∃ dA : Nat, dA = _ ∧ (@LT.lt Nat _ x dA ∧ @LT.lt Nat _ d dA ∧ @LT.lt Nat _ lD dA ∧ @LT.lt Nat _ D0 dA ∧ @LT.lt Nat _ l0 dA ∧ @LT.lt Nat _ lDS dA ∧ @LT.lt Nat _ lNS dA ∧ @LT.lt Nat _ lPS dA ∧ @LT.lt Nat _ aW dA ∧ @LT.lt Nat _ lW dA ∧ @LT.lt Nat _ lR2 dA ∧ @LT.lt Nat _ lS dA ∧ @LT.lt Nat _ (L' + 1 + 1) dA ∧ @LT.lt Nat _ (L' + 1) dA ∧ AllLt dA news0) := ⟨_, rfl, hA9⟩
      subst eA
      with_reducible rename Obj.IsDictOf (PySem.strKind _ _) _ [] => hE9
      obtain ⟨nA, rfl⟩ := isDict_nil hE9
      subst hnw0
      dsimp only [AllLt] at hA9 l1a od9
      obtain ⟨Tk, N11⟩ : ∃ Tk, News g' L' _ ((201, tabObj ps) :: (x, instObj 228 d) :: (d, dictOf (tg17 w kk aW lD lDS lNS lPM lPS false false ++ [kE w "_iter_namespaces" Tk (.ref 332)]) 18) :: (D0, xmlTup t1 t2) :: (l0, listOf [.ref D0].toArray 0) :: (lDS, listOf [.ref l0].toArray 0) :: (lD, listOf [].toArray 0) :: (lW, listOf [].toArray 0) :: (aW, bndAp lW) :: (lNS, listOf [vS, vE].toArray nNS) :: (lPS, listOf [.bool false].toArray 0) :: (dA, dictOf [] nA) :: (lR2, listOf zs.toArray zs.length) :: (L' + 1, o2) :: nws) := ⟨_, news_sub N10 (by k_extra "m:my sub")⟩
      obtain ⟨kk', hkk⟩ := key18 w kk aW lD lDS lNS lPM lPS false false Tk
      rw [hkk] at N11
      clear hkk
      replace N11 : News g' L' _ (WL w kk' x d lD D0 l0 lDS lNS lPM lPS aW lW false false 0 0 0 0 nNS 0 t1 t2 [] [] [] [vS, vE] 0 ps ((dA, dictOf [] nA) :: (lR2, listOf zs.toArray zs.length) :: (L' + 1, o2) :: nws)) := N11
      have hnl := allLt_mem l1a.2.2.2.2.2
      have oR0 : Far lW d lD lDS lNS lPS ((dA, dictOf [] nA) :: (lR2, listOf zs.toArray zs.length) :: (L' + 1, o2) :: nws) := by
        intro q hq
        rcases List.mem_cons.mp hq with rfl | hq
        · exact ⟨by show @Ne Nat _ _; dsimp only; omega, by show @Ne Nat _ _; dsimp only; omega, by show @Ne Nat _ _; dsimp only; omega, by show @Ne Nat _ _; dsimp only; omega, by show @Ne Nat _ _; dsimp only; omega, by show @Ne Nat _ _; dsimp only; omega, by show @Ne Nat _ _; dsimp only; omega⟩
        rcases List.mem_cons.mp hq with rfl | hq
        · exact far_low hord (by show @Ne Nat _ _; dsimp only; omega) (by dsimp only; omega)
        rcases List.mem_cons.mp hq with rfl | hq
        · exact far_low hord (by show @Ne Nat _ _; dsimp only; omega) (by dsimp only; omega)
        · exact far_low hord (h201 q hq) (hnl q hq)
      refine use_call (startW w kk' x d lD D0 l0 lDS lNS lPM lPS aW lW dA nA false false 0 0 0 0 nNS 0 t1 t2 [] [] [] [vS, vE] 0 ps ((dA, dictOf [] nA) :: (lR2, listOf zs.toArray zs.length) :: (L' + 1, o2) :: nws) (Str.ofString "r") _ [] (fun a ha => nomatch ha) (by decide) (by decide +kernel) (by decide +kernel) (by omega) (by simp) WOut0 (by simp) (.inl rfl) (tabok_mono hps fun p hp => .tail _ (.tail _ (.tail _ hp))) hord oR0 (.head _) ?_)
        (by k_asm) (by k_asm) (by k_asm) N11 (by k_asm) rfl (by k_extra "m:my room") (by k_extra "m:my room") (by first | exact htk | omega) ?_
      · have : @Ne Nat dA 1 := by show @Ne Nat _ _; omega
        simpa [sysModules] using this
      intro a0 na0 ex nDS1 nD1 nW1 nNS1 nPS1 vsW1 v1 ps1 hex hexf hO1 hT1 hF1 hAl h9 tk9 htk F9 N12
      dsimp only [WL] at N12
      have hG9 : AllLt h9.objs.size _ := allLt_of fun p hp => Heap.lt_size (N12 p hp).1
      dsimp only [AllLt] at hG9
      k_extra "m:my run"
      with_reducible rename News g' L' _ _ => N13
      generalize h9.objs.size = lG at *
      obtain ⟨g1, g2, g3, g4, g5, g6, g7, g8, g9, g10, g11, g12, g13⟩ := hG9
      obtain ⟨ex0, hx0a, hx0b, hx0c⟩ := tab_cut hT1
      have hlN13 : ∀ q ∈ ex0, @Ne Nat q.1 lG := fun q hq => ne_obk N13 (.head _) (.tail _ (List.mem_append_right (WL w kk' x d lD D0 l0 lDS lNS lPM lPS aW lW true false 0 nDS1 nD1 nW1 nNS1 nPS1 t1 t2 [a0] [] vsW1 [vS, vE, v1] 1 ps1 []) (.tail _ (hx0a q hq)))) (code_ne_list (hx0b q hq))
      have N14 : News g' L' _ ((lG, listOf (List.replicate (0 + 1) Value.none).toArray 0) :: (L' + 1, o2) :: (lR2, listOf zs.toArray zs.length) :: WL w kk' x d lD D0 l0 lDS lNS lPM lPS aW lW true false 0 nDS1 nD1 nW1 nNS1 nPS1 t1 t2 [a0] [] vsW1 [vS, vE, v1] 1 ps1 (ex0 ++ ((a0, listOf [].toArray na0) :: (dA, dictOf [] nA) :: (lR2, listOf zs.toArray zs.length) :: (L' + 1, o2) :: nws))) :=
        news_sub N13 (sub14 (P := WL w kk' x d lD D0 l0 lDS lNS lPM lPS aW lW true false 0 nDS1 nD1 nW1 nNS1 nPS1 t1 t2 [a0] [] vsW1 [vS, vE, v1] 1 ps1 []) hx0a (.tail _ (.tail _ (.head _))) (.tail _ (.head _)))
      refine my_For htk ?_ (fun _ => rfl)
      dsimp only [WL] at N14
      k_extra "m:my run"
      with_reducible rename IsRange _ _ _ _ _ _ _ _ => hR9
      with_reducible rename News g' L' _ _ => N15
      with_reducible rename Fr g' L' _ _ => F15
      refine my_rangeP (n := 5) (PageJ w kk' x d lD D0 l0 lDS lNS lPM lPS aW lW 0 t1 t2 tx rk [a0] [vS, vE, v1] 1 lG (L' + 1) lR2 o2 (listOf zs.toArray zs.length) ((a0, listOf [].toArray na0) :: (dA, dictOf [] nA) :: (lR2, listOf zs.toArray zs.length) :: (L' + 1, o2) :: nws)
        ([] ++ (Str.ofString "<" ++ Str.ofString "r").cps.toList ++ (Str.ofString ">").cps.toList) (fun tf f => [(Str.ofString "row", Value.ref lR), (Str.ofString "rank", Value.ref lR2), (Str.ofString "written", Value.ref lW), (Str.ofString "target", Value.ref x), (Str.ofString "given", Value.ref lG), (Str.ofString "first", Value.int f tf)]))
        rfl rfl rfl hR9 (by rw [hxl]; decide +kernel) (by rw [hxl]; decide +kernel) F15 N15 (by omega) ⟨false, nDS1, nD1, nW1, nNS1, nPS1, 0, 0, [], vsW1, ps1, ex0, _, rfl, ?_, ?_, ?_, hlN13, Nat.zero_le _, rfl, rfl, rfl, rfl, rfl, rfl, trivial⟩ ?_ ?_
      · simpa [pageJ_q0, pageJ_q1] using hO1
      · exact tabok_mono hx0c (fun p hp => by
          rcases List.mem_append.mp hp with hp | hp
          · exact List.mem_append_left _ hp
          · exact List.mem_append_right _ (.tail _ hp))
      · intro q hq
        rcases List.mem_append.mp hq with hq | hq
        · exact hF1 q (.tail _ (hx0a q hq))
        · rcases List.mem_cons.mp hq with rfl | hq
          · exact hF1 _ (.head _)
          · exact oR0 q hq
      · rintro i t m₁ news₁ h₁ tk₁ I it hpr hi htk F₁ N₁ hI ⟨done, nDS, nD, nW, nNS, nPS, nG, mG, vsD, vsW, ps3, ex3, tf, rfl, hO, hT, hF, hxG, hmG, hnm⟩
        replace F₁ := fr_nm1 F₁ hnm
        dsimp only [kstB] at F₁
        replace F₁ : Fr g' L' h₁ _ := F₁
        replace N₁ : News g' L' h₁ _ := N₁
        dsimp only [WL] at N₁
        k_extra "m:my runI"
        k_extra "m:my step"
        k_extra "m:my runI"
        rotate_left
        have hzi : IntsAre zs ((List.range 5).map fun j => ((rk j : Nat) : Int)) := by
          have := ints_of zs (fun j => ((rk j : Nat) : Int)) fun j hj => hzs.2.2 j (by rw [← hzs.1]; exact hj)
          rwa [hzs.1] at this
        with_reducible rename ¬ (1 + (i : Int) = _) => hni
        have hi4 : i + 1 < 5 := by omega
        obtain ⟨tz, hz⟩ := hzs.2.2 (i + 1) (by omega)
        with_reducible rename News g' L' _ _ => N16
        refine my_item N16 (.tail _ (.tail _ (.tail _ (.head _)))) (by omega) (by omega) (by rw [show ((1 : Int) + i).toNat = i + 1 from by omega]; exact hz) ?_ (by with_unfolding_all rfl)
        k_extra "m:my runI"
        with_reducible rename News g' L' _ _ => N16
        with_reducible rename Fr g' L' _ _ => F16
        dsimp only
        refine my_upto F16 N16 (.tail _ (.tail _ (.tail _ (.head _)))) hzi (by rw [hzs.1]; decide) (by omega) ?_ (by with_unfolding_all rfl) (fun _ => by with_unfolding_all rfl)
        intro lM ws h5 F17 N17 lM1 hws
        k_extra "m:my runI"
        have hws2 : IntsAre ws ((List.range (i + 1)).map fun j => ((rk j : Nat) : Int)) := by
          have e1 : ((1 : Int) + (i : Int)).toNat = i + 1 := by omega
          rw [e1, ← List.map_take, List.take_range, show min (i + 1) 5 = i + 1 from by omega] at hws
          exact hws
        with_reducible rename News g' L' _ _ => N18
        with_reducible rename Fr g' L' _ _ => F18
        refine with_tok (by first | exact htk | omega) ?_
        refine kso_min F18 N18 (N18.isList (.head _)) hws2 (by simp) rfl ?_
        intro h6 M tM tk6 F19 N19 hM hle htk
        have hcM := isCut_min hi4 hM hle
        dsimp only at htk ⊢
        k_extra "m:my run"
        rotate_left
        · with_reducible rename News g' L' _ _ => N20
          with_reducible rename Fr g' L' _ _ => F20
          have hcut : isCut rk (i + 1) = false := by rw [hcM, decide_eq_false (by assumption)]
          have hpj : pageJ (sgT tx) rk (i + 1) = pageJ (sgT tx) rk i := by
            ((first | rewrite [pageJ_q0] | rewrite [pageJ_q1]); (try with_reducible rfl))
            dsimp only
            rw [hcut]
            rfl
          refine ⟨_, _, _, _, rfl, (by first | exact htk | omega), F20, news_sub N20 fun p hp => .tail _ hp, hI, fun p hp => (nomatch hp), ⟨done, nDS, nD, nW, nNS, nPS, nG, mG, vsD, vsW, ps3, ex3, tf, rfl, ?_, hT, hF, hxG, ?_, ?_⟩⟩
          · rw [hpj]; exact hO
          · rw [hpj]; exact hmG
          · rw [hpj]; exact ⟨rfl, rfl, rfl, rfl, rfl, rfl, trivial⟩
        all_goals
          have hcut : isCut rk (i + 1) = true := by first | exact isCut_end (by omega) | (rw [hcM, decide_eq_true (by assumption)])
          have hpj : pageJ (sgT tx) rk (i + 1) = (i + 1, (pageJ (sgT tx) rk i).2 ++ tellP (sgT tx) rk 5 (pageJ (sgT tx) rk i).1 (i + 1)) := by
            ((first | rewrite [pageJ_q0] | rewrite [pageJ_q1]); (try with_reducible rfl))
            dsimp only
            rw [hcut]
            rfl
          have hple := pageJ_le (sgT tx) rk i
          have hi5 : i < 5 := by omega
          have hpln := pageJ_len tx rk hesc i (Nat.le_of_lt hi5)
          with_reducible rename News g' L' _ _ => N20
          have N21 : News g' L' _ (WL w kk' x d lD D0 l0 lDS lNS lPM lPS aW lW true done 0 nDS nD nW nNS nPS t1 t2 [a0] vsD vsW [vS, vE, v1] 1 ps3 ((lG, listOf (List.replicate (mG + 1) Value.none).toArray nG) :: (I, it) :: (ex3 ++ ((a0, listOf [].toArray na0) :: (dA, dictOf [] nA) :: (lR2, listOf zs.toArray zs.length) :: (L' + 1, o2) :: nws)))) :=
            news_sub N20 (by first | exact sub15 (P := WL w kk' x d lD D0 l0 lDS lNS lPM lPS aW lW true done 0 nDS nD nW nNS nPS t1 t2 [a0] vsD vsW [vS, vE, v1] 1 ps3 []) | exact fun p hp => .tail _ (sub15 (P := WL w kk' x d lD D0 l0 lDS lNS lPM lPS aW lW true done 0 nDS nD nW nNS nPS t1 t2 [a0] vsD vsW [vS, vE, v1] 1 ps3 []) p hp))
          have hFc : Far lW d lD lDS lNS lPS ((lG, listOf (List.replicate (mG + 1) Value.none).toArray nG) :: (I, it) :: (ex3 ++ ((a0, listOf [].toArray na0) :: (dA, dictOf [] nA) :: (lR2, listOf zs.toArray zs.length) :: (L' + 1, o2) :: nws))) := by
            intro q hq
            rcases List.mem_cons.mp hq with rfl | hq
            · exact ⟨by show @Ne Nat _ _; dsimp only; omega, by show @Ne Nat _ _; dsimp only; omega, by show @Ne Nat _ _; dsimp only; omega, by show @Ne Nat _ _; dsimp only; omega, by show @Ne Nat _ _; dsimp only; omega, by show @Ne Nat _ _; dsimp only; omega, by show @Ne Nat _ _; dsimp only; omega⟩
            rcases List.mem_cons.mp hq with rfl | hq
            · have hI2 := hI
              dsimp only [WL] at hI2
              replace hI2 := allNe_of hI2
              simp only [AllNe_q0, AllNe_q1] at hI2
              exact ⟨Ne.symm hI2.2.2.2.1, Ne.symm hI2.2.2.2.2.2.2.2.2.2.2.1, Ne.symm hI2.2.2.2.2.2.1, Ne.symm hI2.2.2.2.2.2.2.2.2.2.1, Ne.symm hI2.2.2.2.2.2.2.2.2.1, Ne.symm hI2.2.2.2.2.2.2.2.2.2.2.2.2.1, Ne.symm hI2.2.2.2.2.2.2.2.2.2.2.2.2.2.1⟩
            · exact hF q hq
          rw [show (1 : Int) + (i : Int) = ((i + 1 : Nat) : Int) from by omega]
          refine use_call (tellW w kk' x d lD D0 l0 lDS lNS lPM lPS aW lW 0 t1 t2 tx rk hxl hord hesc 4 (pageJ (sgT tx) rk i).1 (i + 1) (Nat.lt_succ_of_le hple) hi5 (Nat.le_trans (Nat.sub_le _ _) hi5) _ _ tt lR2 zs.length zs done nDS nD nW nNS nPS [a0] vsD vsW [vS, vE, v1] 1 ps3 _ _ (.tail _ (.tail _ (List.mem_append_right _ (.tail _ (.tail _ (.head _)))))) hzs.2.2 ?_ (by simp) (by omega) (by simp) hO ?_ (tabok_mono hT fun p hp => .tail _ (.tail _ hp)) hFc)
            (by k_asm) (by k_asm) (by k_asm) N21 (by k_asm) rfl (by k_extra "m:my room") (by k_extra "m:my room") (by first | exact htk | omega) ?_
          · intro a' ha
            rw [List.mem_singleton.mp ha]
            exact ⟨na0, .tail _ (.tail _ (List.mem_append_right _ (.head _)))⟩
          · rw [List.length_append, List.length_append, List.length_append, show (Str.ofString "<" ++ Str.ofString "r").cps.toList.length = 2 from by decide +kernel, show (Str.ofString ">").cps.toList.length = 1 from by decide +kernel, List.length_nil]
            exact pg1 hple hi5 hpln
          intro lG1 nG1 mG1 ex1 done1 nDS2 nD2 nW2 nNS2 nPS2 vsD2 vsW2 ps2 hm1 hq1 hal1 hpl1 hT2 hF2 hO2 h7 tk7 htk F21 N22
          dsimp only [WL] at N22
          k_extra "m:my run"
          with_reducible rename News g' L' _ _ => N23
          obtain ⟨ex2, h2a, h2b, h2c⟩ := tab_cut (l := ex1 ++ ((lG, listOf (List.replicate (mG + 1) Value.none).toArray nG) :: (I, it) :: ex3)) (r := (a0, listOf [].toArray na0) :: (dA, dictOf [] nA) :: (lR2, listOf zs.toArray zs.length) :: (L' + 1, o2) :: nws) (by rw [List.append_assoc]; exact hT2)
          have N24 : News g' L' _ ((lG, listOf (List.replicate (mG + 1) Value.none).toArray nG) :: (lG1, listOf (List.replicate (mG1 + 1) Value.none).toArray nG1) :: (I, it) :: (L' + 1, o2) :: (lR2, listOf zs.toArray zs.length) :: WL w kk' x d lD D0 l0 lDS lNS lPM lPS aW lW true done1 0 nDS2 nD2 nW2 nNS2 nPS2 t1 t2 [a0] vsD2 vsW2 [vS, vE, v1] 1 ps2 (ex2 ++ ((a0, listOf [].toArray na0) :: (dA, dictOf [] nA) :: (lR2, listOf zs.toArray zs.length) :: (L' + 1, o2) :: nws))) :=
            news_sub N23 (sub16 (P := WL w kk' x d lD D0 l0 lDS lNS lPM lPS aW lW true done1 0 nDS2 nD2 nW2 nNS2 nPS2 t1 t2 [a0] vsD2 vsW2 [vS, vE, v1] 1 ps2 []) h2a (.tail _ (.tail _ (.tail _ (.head _)))) (.tail _ (.tail _ (.head _))))
          have hxG2 : ∀ q ∈ ex2, @Ne Nat q.1 lG := fun q hq => ne_obk N24 (.head _) (.tail _ (.tail _ (.tail _ (.tail _ (.tail _ (List.mem_append_right (WL w kk' x d lD D0 l0 lDS lNS lPM lPS aW lW true done1 0 nDS2 nD2 nW2 nNS2 nPS2 t1 t2 [a0] vsD2 vsW2 [vS, vE, v1] 1 ps2 []) (List.mem_append_left _ hq))))))) (code_ne_list (h2b q hq))
          have hxI2 : ∀ q ∈ ex2, @Ne Nat q.1 I := fun q hq => ne_obk N24 (.tail _ (.tail _ (.head _))) (.tail _ (.tail _ (.tail _ (.tail _ (.tail _ (List.mem_append_right (WL w kk' x d lD D0 l0 lDS lNS lPM lPS aW lW true done1 0 nDS2 nD2 nW2 nNS2 nPS2 t1 t2 [a0] vsD2 vsW2 [vS, vE, v1] 1 ps2 []) (List.mem_append_left _ hq))))))) (code_ne_it (h2b q hq) hpr)
          have hal2 : @LT.lt Nat _ lG lG1 := hal1.1
          have hlI : @Ne Nat I lG := Ne.symm (hI _ (.head _))
          have hrG : ∀ q ∈ ((a0, listOf [].toArray na0) :: (dA, dictOf [] nA) :: (lR2, listOf zs.toArray zs.length) :: (L' + 1, o2) :: nws), @Ne Nat q.1 lG := by
            intro q hq
            rcases List.mem_cons.mp hq with rfl | hq
            · show @Ne Nat _ _; dsimp only; omega
            · exact Nat.ne_of_lt (allLt_mem g13 q (List.mem_append_right _ hq))
          dsimp only [WL] at N24
          have gR2 : @LT.lt Nat _ lR2 lG := allLt_mem g13 (lR2, listOf zs.toArray zs.length) (List.mem_append_right _ (.tail _ (.head _)))
          have gc2 : @LT.lt Nat _ (L' + 1) lG := allLt_mem g13 (L' + 1, o2) (List.mem_append_right _ (.tail _ (.tail _ (.head _))))
          refine my_extend (by k_asm) N24 (.head _) ?_ (by simp) (by simp; first | exact pg2 (by assumption) hm1 hple hi5 | omega) ?_
          · clear hF1 oR0 hFc hF2 hF
            refine ne_app (P := (lG1, listOf (List.replicate (mG1 + 1) Value.none).toArray nG1) :: (I, it) :: (L' + 1, o2) :: (lR2, listOf zs.toArray zs.length) :: WL w kk' x d lD D0 l0 lDS lNS lPM lPS aW lW true done1 0 nDS2 nD2 nW2 nNS2 nPS2 t1 t2 [a0] vsD2 vsW2 [vS, vE, v1] 1 ps2 []) ?_ (ne_app hxG2 hrG)
            dsimp only [WL]
            k_extra "m:my neN"
          intro h8 F25 N25
          k_extra "m:my run"
          with_reducible rename News g' L' _ _ => N26
          with_reducible rename Fr g' L' _ _ => F26
          rw [List.replicate_append_replicate, show mG + 1 + (mG1 + 1) = mG + mG1 + 1 + 1 from by omega] at N26
          refine ⟨_, _, _, _, rfl, (by first | exact htk | omega), F26, news_sub N26 (sub17 (P := WL w kk' x d lD D0 l0 lDS lNS lPM lPS aW lW true done1 0 nDS2 nD2 nW2 nNS2 nPS2 t1 t2 [a0] vsD2 vsW2 [vS, vE, v1] 1 ps2 (ex2 ++ ((a0, listOf [].toArray na0) :: (dA, dictOf [] nA) :: (lR2, listOf zs.toArray zs.length) :: (L' + 1, o2) :: nws)))), ?_, fun p hp => (nomatch hp), ⟨done1, nDS2, nD2, nW2, nNS2, nPS2, _, mG + mG1 + 1, vsD2, vsW2, ps2, ex2, t, rfl, ?_, h2c, ?_, hxG2, ?_, ?_⟩⟩
          · have hI2 := hI
            dsimp only [WL] at hI2
            replace hI2 := allNe_of hI2
            simp only [AllNe_q0, AllNe_q1] at hI2
            obtain ⟨i1, i2, i3, i4, i5, i6, i7, i8, i9, i10, i11, i12, i13, i14, i15⟩ := hI2
            clear hF1 oR0 hFc hF2 hF
            refine ne_app (P := (lG, listOf (List.replicate (mG + mG1 + 1 + 1) Value.none).toArray _) :: (L' + 1, o2) :: (lR2, listOf zs.toArray zs.length) :: WL w kk' x d lD D0 l0 lDS lNS lPM lPS aW lW true done1 0 nDS2 nD2 nW2 nNS2 nPS2 t1 t2 [a0] vsD2 vsW2 [vS, vE, v1] 1 ps2 []) ?_ (ne_app hxI2 fun q hq => ?_)
            · dsimp only [WL]
              k_extra "m:my neN"
            · exact hI q (.tail _ (.tail _ (.tail _ (List.mem_append_right (WL w kk' x d lD D0 l0 lDS lNS lPM lPS aW lW true done 0 nDS nD nW nNS nPS t1 t2 [a0] vsD vsW [vS, vE, v1] 1 ps3 []) (List.mem_append_right _ hq)))))
          · rw [hpj]
            simp only [List.append_assoc, List.nil_append] at hO2 ⊢
            exact hO2
          · intro q hq
            rcases List.mem_append.mp hq with hq | hq
            · have := h2a q hq
              rw [List.append_assoc] at this
              exact hF2 q this
            · exact hF q (List.mem_append_right _ hq)
          · rw [hpj]
            dsimp only
            first | exact pg3 (by assumption) hm1 hple | omega
          · rw [hpj]
            exact ⟨rfl, rfl, rfl, rfl, rfl, congrArg some (congrArg (fun z => Value.int z t) (by dsimp only; omega)), trivial⟩
      · rintro h' tk' m' news' htk F' N' ⟨done, nDS, nD, nW, nNS, nPS, nG, mG, vsD, vsW, ps3, ex3, tf, rfl, hO, hT, hF, hxG, hmG, hnm⟩
        replace F' := fr_nm F' hnm
        dsimp only [kstB] at F'
        replace F' : Fr g' L' h' _ := F'
        replace N' : News g' L' h' _ := N'
        dsimp only [WL] at N'
        k_extra "m:my run"
        with_reducible rename News g' L' _ _ => N20
        have N21 : News g' L' _ (WL w kk' x d lD D0 l0 lDS lNS lPM lPS aW lW true done 0 nDS nD nW nNS nPS t1 t2 ([] ++ [a0]) vsD vsW ([vS, vE] ++ [v1]) (0 + 1) ps3 ((lG, listOf (List.replicate (mG + 1) Value.none).toArray nG) :: (ex3 ++ ((a0, listOf [].toArray na0) :: (dA, dictOf [] nA) :: (lR2, listOf zs.toArray zs.length) :: (L' + 1, o2) :: nws)))) :=
          news_sub N20 (sub18 (P := WL w kk' x d lD D0 l0 lDS lNS lPM lPS aW lW true done 0 nDS nD nW nNS nPS t1 t2 [a0] vsD vsW [vS, vE, v1] 1 ps3 []))
        have hFc : Far lW d lD lDS lNS lPS ((lG, listOf (List.replicate (mG + 1) Value.none).toArray nG) :: (ex3 ++ ((a0, listOf [].toArray na0) :: (dA, dictOf [] nA) :: (lR2, listOf zs.toArray zs.length) :: (L' + 1, o2) :: nws))) := by
          intro q hq
          rcases List.mem_cons.mp hq with rfl | hq
          · exact ⟨by show @Ne Nat _ _; dsimp only; omega, by show @Ne Nat _ _; dsimp only; omega, by show @Ne Nat _ _; dsimp only; omega, by show @Ne Nat _ _; dsimp only; omega, by show @Ne Nat _ _; dsimp only; omega, by show @Ne Nat _ _; dsimp only; omega, by show @Ne Nat _ _; dsimp only; omega⟩
          · exact hF q hq
        have hpln := pageJ_len tx rk hesc 5 (by omega)
        have hple := pageJ_le (sgT tx) rk 5
        refine use_call (endW w kk' x d lD D0 l0 lDS lNS lPM lPS aW lW true done 0 nDS nD nW nNS nPS t1 t2 [] a0 vsD vsW [vS, vE] v1 0 ps3 ((lG, listOf (List.replicate (mG + 1) Value.none).toArray nG) :: (ex3 ++ ((a0, listOf [].toArray na0) :: (dA, dictOf [] nA) :: (lR2, listOf zs.toArray zs.length) :: (L' + 1, o2) :: nws))) (Str.ofString "r") _ _
          ?_ (by simp) (by decide +kernel) (by decide +kernel) (by omega) (by simp) hO ?_ (.inr rfl) hord hFc)
          (by k_asm) (by k_asm) (by k_asm) N21 (by k_asm) rfl (by k_extra "m:my room") (by k_extra "m:my room") (by first | exact htk | omega) ?_
        · intro a' ha
          rw [List.nil_append] at ha
          rw [List.mem_singleton.mp ha]
          exact ⟨na0, .tail _ (List.mem_append_right _ (.head _))⟩
        · rw [List.length_append, List.length_append, List.length_append, show (Str.ofString "<" ++ Str.ofString "r").cps.toList.length = 2 from by decide +kernel, show (Str.ofString ">").cps.toList.length = 1 from by decide +kernel, List.length_nil]
          omega
        intro nDS2 nD2 nW2 nNS2 nPS2 vsW2 done2 hO2 h7 tk7 htk F21 N22
        dsimp only [WL] at N22
        k_extra "m:my run"
        with_reducible rename News g' L' _ _ => N23
        have N24 : News g' L' _ ((lG, listOf (List.replicate (mG + 1) Value.none).toArray nG) :: (lW, listOf vsW2.toArray nW2) :: (201, tabObj ps3) :: (ex3 ++ ((a0, listOf [].toArray na0) :: (dA, dictOf [] nA) :: (lR2, listOf zs.toArray zs.length) :: (L' + 1, o2) :: nws))) := news_sub N23 sub19
        refine my_append (by k_asm) N24 ?_ (by simp; omega) ?_
        · clear hF1 oR0 hFc hF
          refine ne_app (P := [(lW, listOf vsW2.toArray nW2), (201, tabObj ps3)]) ?_ (ne_app hxG fun q hq => ?_)
          · k_extra "m:my neN"
          · rcases List.mem_cons.mp hq with rfl | hq
            · show @Ne Nat _ _; dsimp only; omega
            · exact Nat.ne_of_lt (allLt_mem g13 q (List.mem_append_right _ hq))
        intro h8 F25 N25
        k_extra "m:my run"
        refine my_comp (by first | exact htk | omega) (by with_unfolding_all rfl) rfl (by decide) ?_ (fun _ => rfl)
        k_extra "m:my run"
        with_reducible rename News g' L' _ _ => N27
        with_reducible rename Fr g' L' _ _ => F27
        rw [← List.replicate_succ'] at N27
        refine my_comp_list (nn := nG + 1) (vs := List.replicate (mG + 1 + 1) Value.none) (fun i ys news => news = (lG, listOf (List.replicate (mG + 1 + 1) Value.none).toArray (nG + 1)) :: (lW, listOf vsW2.toArray nW2) :: (201, tabObj ps3) :: (ex3 ++ ((a0, listOf [].toArray na0) :: (dA, dictOf [] nA) :: (lR2, listOf zs.toArray zs.length) :: (L' + 1, o2) :: nws)) ∧ ys = []) rfl (by decide) rfl rfl (.head _) F27 N27 ⟨rfl, rfl⟩ ?_ ?_ ?_
        · rintro i ys news ⟨_, rfl⟩
          exact Nat.zero_le _
        · rintro i v h9 tk9 hiv htk ys news₁ I oI C oC D m₂ E' ⟨rfl, rfl⟩ hC hx F₁ N₁ hoff hne hks
          have hvn : v = .none := by
            have := List.mem_of_getElem? hiv
            exact List.eq_of_mem_replicate this
          subst hvn
          unfold tests
          dsimp only at F₁ N₁ ⊢
          replace F₁ : Fr g' L' h9 _ := F₁
          replace N₁ : News g' L' h9 _ := N₁
          k_extra "m:my run"
          with_reducible rename News g' L' _ _ => N28
          with_reducible rename Fr g' L' _ _ => F28
          exact ⟨_, _, _, rfl, F28, N28, hoff, hks, rfl, rfl⟩
        · rintro ys news' ⟨rfl, rfl⟩
          intro D h9 tk9 F₂ N₂ hD htk
          dsimp only at htk ⊢
          replace F₂ : Fr g' L' h9 _ := F₂
          replace N₂ : News g' L' h9 _ := N₂
          k_extra "m:my run"
          obtain ⟨ysW, ysD, hsW, hsD, hcat, hlnW, hlnD⟩ := hO2
          cases hsD
          have hcat2 : catS ysW = [] ++ (Str.ofString "<" ++ Str.ofString "r").cps.toList ++ (Str.ofString ">").cps.toList ++ (pageJ (sgT tx) rk 5).2 ++ (Str.ofString "</" ++ Str.ofString "r" ++ Str.ofString ">").cps.toList := by
            rw [← hcat]
            exact (List.append_nil _).symm
          have hcl : (catS ysW).length ≤ 70 := by
            rw [hcat2]
            simp only [List.length_append, List.length_nil, show (Str.ofString "<" ++ Str.ofString "r").cps.toList.length = 2 from by decide +kernel, show (Str.ofString ">").cps.toList.length = 1 from by decide +kernel, show (Str.ofString "</" ++ Str.ofString "r" ++ Str.ofString ">").cps.toList.length = 4 from by decide +kernel]
            omega
          have hyl := cat_len hlnW
          rw [catS_length] at hcl hyl
          with_reducible rename News g' L' _ _ => N28
          refine with_tok (by first | exact htk | omega) ?_
          refine join_listW (N28.isList (by first | exact .tail _ (.head _) | exact .tail _ (.tail _ (.head _)) | exact .tail _ (.tail _ (.tail _ (.head _))))) hsW (by decide +kernel) (by omega) ?_
          intro tj kj htk
          dsimp only at htk ⊢
          k_extra "m:my run"
          with_reducible rename News h₀ L _ _ => N29
          with_reducible rename Fr h₀ L _ _ => F29
          obtain ⟨ex4, h4a, h4b, h4c⟩ := tab_cut (l := ex3 ++ [(a0, listOf [].toArray na0), (dA, dictOf [] nA), (lR2, listOf zs.toArray zs.length), (L' + 1, o2)]) (r := nws) (by rw [List.append_assoc]; exact hT)
          refine hret (Txt.join (Str.ofString "") ysW) _ ps3 ex4 ?_ h4c h4b (fun q hq => ?_) _ _ (by first | exact htk | omega) F29 (news_sub N29 (sub20 (fun q hq => ?_) fun q hq => List.mem_append_right _ (.tail _ (.tail _ (.tail _ (.tail _ hq))))))
          · rw [join_codes, hcat2]
            rfl
          · have := h4a q hq
            rw [List.append_assoc] at this
            exact (hF q this).1
          · have := h4a q hq
            rw [List.append_assoc] at this
            exact this
theorem words_c18_out : True := by
  (k_with "m:out c18" => skip)
  trivial
end Mine
end
section
namespace Mine
set_option maxRecDepth 100000
set_option maxHeartbeats 8000000
set_option linter.all false
theorem words_c20_0 : True := by
  (k_with "m:my run" => (repeat' ((fail_if_success (first | ((with_reducible show wpAny _ _ (exec _ _) _ _ _); first | (with_reducible show wpAny _ _ (exec (Stmt.While _ _ _ _) _) _ _ _) | (with_reducible show wpAny _ _ (exec (Stmt.For _ _ _ _ _) _) _ _ _)) | (k_extra "m:my stop") | ((with_reducible show wpAny _ _ (setItem _ _ _) _ _ _); first | (with_reducible show wpAny _ _ (setItem _ _ _) _ _ _)))); k_extra "m:my step")))
  (k_with "m:my runI" => (repeat' ((fail_if_success (first | ((with_reducible show wpAny _ _ (exec _ _) _ _ _); first | (with_reducible show wpAny _ _ (exec (Stmt.While _ _ _ _) _) _ _ _) | (with_reducible show wpAny _ _ (exec (Stmt.For _ _ _ _ _) _) _ _ _) | (with_reducible show wpAny _ _ (exec (Stmt.If _ _ _ _) _) _ _ _)) | (k_extra "m:my stop") | ((with_reducible show wpAny _ _ (setItem _ _ _) _ _ _); first | (with_reducible show wpAny _ _ (setItem _ _ _) _ _ _)))); k_extra "m:my step")))
  trivial
noncomputable def TimO (lS lA lB : Nat) (w : World) (PA PB : Poly) (f : Int) (tf : Tok) (n0 : Nat) (rest : List (Addr × Obj)) (fin : Poly) (i : Nat) (m : Str → Option Value) (news : List (Addr × Obj)) : Prop :=
  ∃ (oS : Obj) (kS : List (Str × Value)) (S : Poly), news = (lS, oS) :: rest ∧ oS.IsDictOf (SK w) kS ∧ PIs kS S ∧ S.length ≤ n0 + i * PB.length ∧ timesP S PB f (PA.drop i) = fin ∧
    Nm m [(Str.ofString "sums", .ref lS), (Str.ofString "ahead", .ref lA), (Str.ofString "behind", .ref lB), (Str.ofString "factor", .int f tf)]
noncomputable def TimI (lS lA lB : Nat) (w : World) (PB : Poly) (f : Int) (tf : Tok) (one : Str) (t1 : Tok) (k : Int) (n1 : Nat) (rest : List (Addr × Obj)) (fin : Poly) (i : Nat) (m : Str → Option Value) (news : List (Addr × Obj)) : Prop :=
  ∃ (oS : Obj) (kS : List (Str × Value)) (S : Poly), news = (lS, oS) :: rest ∧ oS.IsDictOf (SK w) kS ∧ PIs kS S ∧ S.length ≤ n1 + i ∧ rowTimes S one.cps.toList k f (PB.drop i) = fin ∧
    Nm m [(Str.ofString "sums", .ref lS), (Str.ofString "ahead", .ref lA), (Str.ofString "behind", .ref lB), (Str.ofString "factor", .int f tf), (Str.ofString "one", .str one t1)]
theorem drop_at {α : Type} {l : List α} {i : Nat} {p : α} (h : l[i]? = some p) : l.drop i = p :: l.drop (i + 1) := by
  obtain ⟨h1, h2⟩ := List.getElem?_eq_some_iff.mp h
  rw [List.drop_eq_getElem_cons h1, h2]
theorem timesW (w : World) (lS lA lB : Nat) (oS oA oB : Obj) (kS kA kB : List (Str × Value)) (PS PA PB : Poly) (f : Int) (tf : Tok) (rest : List (Addr × Obj)) (hmA : (lA, oA) ∈ rest) (hmB : (lB, oB) ∈ rest) (hne : ∀ q ∈ rest, @Ne Nat q.1 lS)
    (sS : (lS == sysModules) = false) (sA : (lA == sysModules) = false) (sB : (lB == sysModules) = false)
    (dS : oS.IsDictOf (SK w) kS) (dA : oA.IsDictOf (SK w) kA) (dB : oB.IsDictOf (SK w) kB) (pS : PIs kS PS) (pA : PIs kA PA) (pB : PIs kB PB) (hf : f = 1 ∨ f = -1) (hsz : PS.length + PA.length * PB.length ≤ 1000)
    (hA5 : ∀ a ∈ keysP PA, a.length ≤ 5) (hB5 : ∀ a ∈ keysP PB, a.length ≤ 5) (hAn : nrm PA ≤ 1000000) :
    Call w (.ref 363) [.ref lS, .ref lA, .ref lB, .int f tf] [] 5 60 ((lS, oS) :: rest) (fun K => ∀ oS' kS', oS'.IsDictOf (SK w) kS' → PIs kS' (timesP PS PB f PA) → K (.ref lS) ((lS, oS') :: rest)) := by
  revert w lS lA lB oS oA oB kS kA kB PS PA PB f tf rest hmA hmB hne sS sA sB dS dA dB pS pA pB hf hsz hA5 hB5 hAn
  intro w lS lA lB oS oA oB kS kA kB PS PA PB f tf rest hmA hmB hne sS sA sB dS dA dB pS pA pB hf hsz hA5 hB5 hAn
  have nA := pA.nodup (isDict_nodup dA)
  have nB := pB.nodup (isDict_nodup dB)
  k_extra "m:my intro"
  k_extra "m:my enter"
  k_extra "m:my run"
  refine my_For htk ?_ (fun _ => rfl)
  k_extra "m:my run"
  refine my_dict (TimO lS lA lB w PA PB f tf PS.length rest (timesP PS PB f PA)) rfl rfl rfl sA (.tail _ hmA) dA Fq Nq htk ⟨oS, kS, PS, rfl, dS, pS, by omega, rfl, rfl, rfl, rfl, rfl, trivial⟩ ?_ ?_
  · rintro i one t1 y m₁ news₁ h₁ tk₁ I it hi htk F₁ N₁ hI hk₁ ⟨o1, k1, S1, rfl, d1, p1, hl1, hfin, hnm⟩
    obtain ⟨k, ty, rfl, hPi⟩ := pA.at i one y hi
    obtain ⟨hgk, hmk⟩ := get_at nA i hPi
    have hk5 := hA5 _ hmk
    have hkn := nrm_at i hPi
    have hone : one.length ≤ 5 := by rw [len_codes]; exact hk5
    have hiA : i < PA.length := (List.getElem?_eq_some_iff.mp hPi).1
    have hmul : (i + 1) * PB.length ≤ PA.length * PB.length := Nat.mul_le_mul_right _ hiA
    rw [Nat.add_mul, Nat.one_mul] at hmul
    replace F₁ := fr_nm1 F₁ hnm
    dsimp only [kstB] at F₁
    replace F₁ : Fr g' L' h₁ _ := F₁
    replace N₁ : News g' L' h₁ _ := N₁
    k_extra "m:my run"
    refine my_For htk ?_ (fun _ => rfl)
    k_extra "m:my run"
    with_reducible rename News g' L' _ _ => N2
    with_reducible rename Fr g' L' _ _ => F2
    have N3 : News g' L' _ ((lS, o1) :: (I, it) :: rest) := news_sub N2 (by k_extra "m:my sub")
    refine my_dict (TimI lS lA lB w PB f tf one t1 k S1.length ((I, it) :: rest) (rowTimes S1 one.cps.toList k f PB)) rfl rfl rfl sB (.tail _ (.tail _ hmB)) dB F2 N3 htk ⟨o1, k1, S1, rfl, d1, p1, by omega, rfl, rfl, rfl, rfl, rfl, rfl, trivial⟩ ?_ ?_
    · rintro j other t2 y2 m₂ news₂ h₂ tk₂ I2 it2 hj htk F₂ N₂ hI2 hk₂ ⟨o2, k2, S2, rfl, d2, p2, hl2, hfin2, hnm2⟩
      obtain ⟨k', ty2, rfl, hPj⟩ := pB.at j other y2 hj
      obtain ⟨hgk', hmk'⟩ := get_at nB j hPj
      have hother : other.length ≤ 5 := by rw [len_codes]; exact hB5 _ hmk'
      replace F₂ := fr_nm1 F₂ hnm2
      dsimp only [kstB] at F₂
      replace F₂ : Fr g' L' h₂ _ := F₂
      replace N₂ : News g' L' h₂ _ := N₂
      k_extra "m:my run"
      with_reducible rename News g' L' _ _ => N4
      refine kdg_method (knd := SK w) N4 (.tail _ (.head _)) d2 ?_
      k_extra "m:my run"
      obtain ⟨tg, hget⟩ : ∃ tg : Tok → Tok, ∀ u : Tok, (valueAt k2 (one ++ other)).getD (.int 0 u) = .int (getP S2 (one.cps.toList ++ other.cps.toList)) (tg u) := by
        have e : (one ++ other).cps.toList = one.cps.toList ++ other.cps.toList := by rw [Str.cps_append, Array.toList_append]
        rcases p2.val (one ++ other) with ⟨t, h⟩ | ⟨h, h0⟩
        · exact ⟨fun _ => t, fun u => by rw [h, e]; rfl⟩
        · exact ⟨fun u => u, fun u => by rw [h, ← e, h0]; rfl⟩
      with_reducible rename News g' L' _ _ => N5
      refine kdg_get2 (knd := SK w) N5 (.tail _ (.head _)) d2 sS (PySem.strKind_is _ w _ _) _ rfl ?_
      rw [hget]
      k_extra "m:my run"
      with_reducible rename News g' L' _ _ => N6
      obtain ⟨tA, hvA⟩ := pA.mem one hmk
      rw [hgk] at hvA
      refine kda_item N6 (.tail _ (.tail _ (.tail _ hmA))) dA (PySem.strKind_is _ w _ _) hvA ?_
      k_extra "m:my run"
      with_reducible rename News g' L' _ _ => N7
      obtain ⟨tB, hvB⟩ := pB.mem other hmk'
      rw [hgk'] at hvB
      refine kda_item N7 (.tail _ (.tail _ (.tail _ hmB))) dB (PySem.strKind_is _ w _ _) hvB ?_
      have hok9 : IntMulOk (f * k) k' := .of_left (intBits_le_64 (by first | exact (mul64 hf (by assumption) (by assumption)).1 | (rcases hf with rfl | rfl <;> omega)) (by first | exact (mul64 hf (by assumption) (by assumption)).2 | (rcases hf with rfl | rfl <;> omega)))
      k_extra "m:my run"
      with_reducible rename News g' L' _ _ => N8
      with_reducible rename Fr g' L' _ _ => F8
      have hU : UpdF lS o2 ((I2, it2) :: (lS, o2) :: (I, it) :: rest) (fun o' => (I2, it2) :: (lS, o') :: (I, it) :: rest) :=
        .tail (fun e => hI2 _ (.head _) e.symm) (.head fun q hq => by
          rcases List.mem_cons.mp hq with rfl | hq
          · exact fun e => hI _ (.head _) e.symm
          · exact hne q hq)
      refine kda_set F8 N8 hU d2 (PySem.strKind_is _ w _ _) (by rw [sizeLine_eq, p2.len]; have := (List.getElem?_eq_some_iff.mp hPj).1; omega) ?_
      intro h9 o9 F9 N9 d9
      dsimp only at F9 N9 ⊢
      have n2 := p2.nodup (isDict_nodup d2)
      intro htk
      k_extra "m:my run"
      have e9 : (one ++ other).cps.toList = one.cps.toList ++ other.cps.toList := by rw [Str.cps_append, Array.toList_append]
      have p9 := fun t => p2.set n2 (one ++ other) (getP S2 (one.cps.toList ++ other.cps.toList) + f * k * k') t
      rw [e9] at p9
      refine ⟨_, _, _, _, rfl, (by first | exact htk | omega), F9, N9, fun q hq => ?_, fun q hq => ?_, ⟨o9, _, _, rfl, d9, p9 _, ?_, ?_, rfl, rfl, rfl, rfl, rfl, trivial⟩⟩
      · rcases List.mem_cons.mp hq with rfl | hq
        · exact hI2 (lS, o2) (.head _)
        · exact hI2 q (.tail _ hq)
      · rw [List.mem_singleton.mp hq]
        exact .tail _ (.tail _ hmB)
      · have := len_set S2 (one.cps.toList ++ other.cps.toList) (getP S2 (one.cps.toList ++ other.cps.toList) + f * k * k')
        omega
      · rw [drop_at hPj] at hfin2
        exact hfin2
    · rintro h2 tk2 m2 news2 htk F3 N3 hks2 ⟨o2, k2, S2, rfl, d2, p2, hl2, hfin2, hnm2⟩
      replace F3 := fr_nm F3 hnm2
      dsimp only [kstB] at F3
      replace F3 : Fr g' L' h2 _ := F3
      replace N3 : News g' L' h2 _ := N3
      k_extra "m:my run"
      with_reducible rename News g' L' h2 _ => N3
      with_reducible rename Fr g' L' h2 _ => F3
      have e : rowTimes S1 one.cps.toList k f PB = S2 := by
        rw [← hfin2, List.drop_of_length_le (by rw [pB.len]; exact Nat.le_refl _)]
        rfl
      have N4 : News g' L' h2 ((I, it) :: (lS, o2) :: rest) := news_sub N3 (by k_extra "m:my sub")
      refine ⟨_, _, _, _, rfl, (by first | exact htk | omega), F3, N4, fun q hq => ?_, fun q hq => ?_, ⟨o2, _, S2, rfl, d2, p2, ?_, ?_, rfl, rfl, rfl, rfl, trivial⟩⟩
      · rcases List.mem_cons.mp hq with rfl | hq
        · exact hI (lS, o1) (.head _)
        · exact hI q (.tail _ hq)
      · rw [List.mem_singleton.mp hq]
        exact .tail _ hmA
      · rw [pB.len] at hl2
        rw [Nat.add_mul, Nat.one_mul]
        omega
      · rw [drop_at hPi] at hfin
        rw [← e]
        exact hfin
  · rintro h2 tk2 m2 news2 htk F3 N3 hks2 ⟨o1, k1, S1, rfl, d1, p1, hl1, hfin, hnm⟩
    replace F3 := fr_nm F3 hnm
    dsimp only [kstB] at F3
    replace F3 : Fr g' L' h2 _ := F3
    replace N3 : News g' L' h2 _ := N3
    k_extra "m:my run"
    refine hret o1 k1 d1 ?_ _ _ htk (by assumption) (by assumption)
    have e : timesP PS PB f PA = S1 := by
      rw [← hfin, List.drop_of_length_le (by rw [pA.len]; exact Nat.le_refl _)]
      rfl
    rw [e]
    exact p1
end Mine
end
section
namespace Mine
set_option maxRecDepth 100000
set_option maxHeartbeats 8000000
set_option linter.all false
theorem words_c21_0 : True := by
  (k_with "m:my run" => (repeat' ((fail_if_success (first | ((with_reducible show wpAny _ _ (exec _ _) _ _ _); first | (with_reducible show wpAny _ _ (exec (Stmt.While _ _ _ _) _) _ _ _) | (with_reducible show wpAny _ _ (exec (Stmt.For _ _ _ _ _) _) _ _ _)) | (k_extra "m:my stop") | ((with_reducible show wpAny _ _ (compareOp _ _ _) _ _ _); first | (with_reducible show wpAny _ _ (compareOp CmpOp.NotIn _ (Value.ref _)) _ _ _)) | ((with_reducible show wpAny _ _ (call _ _ _) _ _ _); first | (with_reducible show wpAny _ _ (call (Value.builtin "list.index") _ _) _ _ _)))); k_extra "m:my step")))
  (k_with "m:my runI" => (repeat' ((fail_if_success (first | ((with_reducible show wpAny _ _ (exec _ _) _ _ _); first | (with_reducible show wpAny _ _ (exec (Stmt.While _ _ _ _) _) _ _ _) | (with_reducible show wpAny _ _ (exec (Stmt.For _ _ _ _ _) _) _ _ _) | (with_reducible show wpAny _ _ (exec (Stmt.If _ _ _ _) _) _ _ _)) | (k_extra "m:my stop") | ((with_reducible show wpAny _ _ (compareOp _ _ _) _ _ _); first | (with_reducible show wpAny _ _ (compareOp CmpOp.NotIn _ (Value.ref _)) _ _ _)) | ((with_reducible show wpAny _ _ (call _ _ _) _ _ _); first | (with_reducible show wpAny _ _ (call (Value.builtin "list.index") _ _) _ _ _)))); k_extra "m:my step")))
  trivial
noncomputable def SymJ (x : Str) (tx : Tok) (lN lR : Nat) (oN : Obj) (base : List (Addr × Obj)) (fin : List Nat) (n : Nat) (m : Str → Option Value) (news : List (Addr × Obj)) : Prop :=
  ∃ (p : Nat) (tp : Tok) (acc rem : List Nat) (vs : List Value) (nR : Nat), n = x.length + 3 - p ∧ news = (lR, listOf vs.toArray nR) :: (lN, oN) :: base ∧ IntsAre vs (acc.map Int.ofNat) ∧ Lex (x.cps.toList.drop p) rem ∧ acc ++ rem = fin ∧ acc.length ≤ p ∧ p ≤ x.length + 3 ∧
    Nm m [(Str.ofString "page", .str x tx), (Str.ofString "names", .ref lN), (Str.ofString "row", .ref lR), (Str.ofString "place", .int p tp)]
noncomputable def SymI (x : Str) (tx : Tok) (lN lR : Nat) (p : Nat) (tp : Tok) (news0 : List (Addr × Obj)) (n : Nat) (m : Str → Option Value) (news : List (Addr × Obj)) : Prop :=
  ∃ (ts : Tok), news = news0 ∧ n ≤ 3 ∧ (∀ s, n < s → s ≤ 3 → tokH ((x.cps.toList.drop p).take s) = false) ∧
    Nm m [(Str.ofString "page", .str x tx), (Str.ofString "names", .ref lN), (Str.ofString "row", .ref lR), (Str.ofString "place", .int p tp), (Str.ofString "size", .int n ts)]
noncomputable def SymN (x : Str) (tx : Tok) (lN lR : Nat) (p : Nat) (tp : Tok) (news0 : List (Addr × Obj)) (s9 n : Nat) (m : Str → Option Value) (news : List (Addr × Obj)) : Prop :=
  ∃ (sz : Nat) (ts : Tok), n = s9 - sz ∧ news = news0 ∧ sz ≤ s9 ∧
    Nm m [(Str.ofString "page", .str x tx), (Str.ofString "names", .ref lN), (Str.ofString "row", .ref lR), (Str.ofString "place", .int p tp), (Str.ofString "size", .int sz ts)]
noncomputable abbrev nm6 : List Str := [Str.ofString "b", Str.ofString "r", Str.ofString "#xD", Str.ofString "amp", Str.ofString "lt", Str.ofString "gt"]
theorem nm_eq : ∀ k : Nat, k < 6 → (⟨(nameL k).toArray⟩ : Str) = nm6.getD k default := by decide +kernel
theorem nm_at : ∀ k : Nat, k < 6 → nm6[k]? = some (nm6.getD k default) := by decide +kernel
theorem nm_no : ∀ k : Nat, k < 6 → ∀ i, i < k → nm6[i]? ≠ some (nm6.getD k default) := by decide +kernel
theorem symW (w : World) (x : Str) (tx : Tok) (hx : x.length ≤ 200) (syms : List Nat) (hlex : Lex x.cps.toList syms) (news0 : List (Addr × Obj)) :
    Call w (.ref 356) [.str x tx] [] 5 60 news0 (fun K => ∀ (lF nF : Nat) (vs : List Value), IntsAre vs ((syms ++ [0]).map Int.ofNat) → (∀ p ∈ news0, p.1 < lF) → K (.ref lF) ((lF, listOf vs.toArray nF) :: news0)) := by
  revert w x tx hx syms hlex news0
  intro w x tx hx syms hlex news0
  k_extra "m:my intro"
  k_extra "m:my enter"
  k_extra "m:my run"
  with_reducible rename (@LT.lt Nat _ _ _ ∧ AllLt _ news0) => lR1
  obtain ⟨lR, eR, lR1⟩ : ∃ lR : Nat, lR = _ ∧ (@LT.lt Nat _ _ lR ∧ AllLt lR news0) := ⟨_, rfl, lR1⟩
  subst eR
  with_reducible rename News g' L' _ _ => N2
  with_reducible rename Fr g' L' _ _ => F2
  obtain ⟨lN, vsN, mm, N3, F3, ⟨t0, hmm⟩, hsN, gNR⟩ : ∃ (lN : Nat) (vsN : List Value) (mm : Str → Option Value), News g' L' _ ((lR, listOf #[] 0) :: (lN, listOf vsN.toArray 0) :: news0) ∧
      Fr g' L' _ mm ∧ (∃ t0, Nm mm [(Str.ofString "page", .str x tx), (Str.ofString "names", .ref lN), (Str.ofString "row", .ref lR), (Str.ofString "place", .int 0 t0)]) ∧
      StrsAre vsN nm6 ∧ @LT.lt Nat _ lN lR := by
    refine ⟨_, _, _, N2, F2, ⟨_, rfl, rfl, rfl, rfl, trivial⟩, ?_, lR1.1⟩
    exact .cons _ _ (.cons _ _ (.cons _ _ (.cons _ _ (.cons _ _ (.cons _ _ .nil)))))
  refine my_while (SymJ x tx lN lR (listOf vsN.toArray 0) news0 syms) (n₀ := x.length + 3) F3 N3 htk ⟨0, t0, [], syms, [], 0, by omega, rfl, .nil, hlex, rfl, Nat.le_refl _, by omega, hmm⟩ ?_
  rintro n m₁ news₁ h₁ tk₁ htk F₁ N₁ ⟨p, tp, acc, rem, vs, nR, rfl, rfl, hvs, hlx, hfin, hap, hpx, hnm⟩
  replace F₁ := fr_nm F₁ hnm
  dsimp only [kstB] at F₁
  replace F₁ : Fr g' L' h₁ _ := F₁
  replace N₁ : News g' L' h₁ _ := N₁
  k_extra "m:my run"
  · with_reducible rename (@LT.lt Int _ _ _) => hpl
    have hpl' : p < x.length := by omega
    with_reducible rename News g' L' _ _ => N5
    with_reducible rename Fr g' L' _ _ => F5
    refine my_while (SymI x tx lN lR p tp ((lR, listOf vs.toArray nR) :: (lN, listOf vsN.toArray 0) :: news0)) (n₀ := 3) F5 N5 (by first | exact htk | omega) ⟨_, rfl, Nat.le_refl _, fun s h1 h2 => by omega, rfl, rfl, rfl, rfl, rfl, trivial⟩ ?_
    rintro sz m₂ news₂ h₂ tk₂ htk F₂ N₂ ⟨ts, rfl, hsz3, hsz, hnm2⟩
    replace F₂ := fr_nm F₂ hnm2
    dsimp only [kstB] at F₂
    replace F₂ : Fr g' L' h₂ _ := F₂
    replace N₂ : News g' L' h₂ _ := N₂
    have hlp : (x.cps.toList.drop p).length = x.length - p := by rw [List.length_drop, ← len_codes]
    have hne : x.cps.toList.drop p ≠ [] := fun e => by rw [e] at hlp; simp at hlp; omega
    k_extra "m:my run"
    · with_reducible rename (@LT.lt Int _ _ _) => hszp
      refine notin283 (by assumption) (by assumption) ?_
      rw [tok_some, slice_cps (Nat.le_of_lt hpl')]
      cases htt : tokH ((x.cps.toList.drop p).take sz) with
      | true =>
        dsimp only [Bool.not_true]
        have hsL := szL_eq hsz3 hsz (.inr htt)
        obtain ⟨n, r, rfl, hn, hlr⟩ := lex_sign hlx hsL (by omega) hne
        k_extra "m:my run"
        have hcs : (Txt.slice x (some (p : Int)) (some ((p : Int) + (sz : Int)))).cps.toList = (x.cps.toList.drop p).take sz := slice_cps (Nat.le_of_lt hpl')
        obtain ⟨tv, hv⟩ := (tok_pis w).mem (Txt.slice x (some (p : Int)) (some ((p : Int) + (sz : Int)))) (by rw [hcs]; exact mem_tokH.mp htt)
        refine item283 (by assumption) (by assumption) hv ?_ (by with_unfolding_all rfl) (fun _ => by with_unfolding_all rfl)
        rw [hcs]
        k_extra "m:my run"
        rw [hn]
        with_reducible rename News g' L' _ _ => N7
        refine my_append (by k_asm) N7 (by k_extra "m:my ne"; exact fun q hq => Nat.ne_of_lt (allLt_mem lR1.2 q hq)) (by have := hvs.length; rw [List.length_map] at this; omega) ?_
        intro h8 F8 N8
        k_extra "m:my run"
        with_reducible rename News g' L' _ _ => N9
        with_reducible rename Fr g' L' _ _ => F9
        rw [show (p : Int) + (sz : Int) = ((p + sz : Nat) : Int) from rfl] at F9
        refine ⟨_, _, _, _, _, rfl, (by first | exact htk | omega), F9, N9, ?_, ⟨p + sz, _, acc ++ [n], r, _, _, rfl, rfl, ?_, ?_, ?_, ?_, by omega, rfl, rfl, rfl, rfl, trivial⟩⟩
        · first | exact meas3 hpl' (by first | assumption | exact Int.ofNat_lt.mp (by assumption) | exact Nat.pos_of_ne_zero (by assumption)) | omega
        · rw [List.map_append]
          exact ints_app hvs (.cons _ _ .nil)
        · rw [← List.drop_drop]
          exact hlr
        · rw [List.append_assoc]
          exact hfin
        · rw [List.length_append, List.length_singleton]
          omega
      | false =>
        dsimp only [Bool.not_false]
        k_extra "m:my run"
        with_reducible rename News g' L' _ _ => N6
        with_reducible rename Fr g' L' _ _ => F6
        rw [show (sz : Int) - 1 = ((sz - 1 : Nat) : Int) from by omega] at F6
        refine ⟨_, _, _, _, sz - 1, rfl, (by first | exact htk | omega), F6, N6, by omega, ⟨_, rfl, by omega, fun s h1 h2 => ?_, rfl, rfl, rfl, rfl, rfl, trivial⟩⟩
        rcases (by omega : s = sz ∨ sz < s) with rfl | h
        · exact htt
        · exact hsz s h h2
    · have hs0 : sz = 0 := by omega
      subst hs0
      obtain ⟨s9, k9, r, rfl, hsl, hsn, hst, hk6, hnm9, hs09, hlr⟩ := lex_name hlx (szL_eq (by omega) hsz (.inl rfl)) hne
      with_reducible rename News g' L' _ _ => N6
      with_reducible rename Fr g' L' _ _ => F6
      refine my_while (SymN x tx lN lR p tp ((lR, listOf vs.toArray nR) :: (lN, listOf vsN.toArray 0) :: news0) s9) (n₀ := s9) F6 N6 (by first | exact htk | omega) ⟨0, _, rfl, rfl, Nat.zero_le _, rfl, rfl, rfl, rfl, rfl, trivial⟩ ?_
      rintro n3 m₃ news₃ h₃ tk₃ htk F₃ N₃ ⟨sz, ts3, rfl, rfl, hss, hnm3⟩
      replace F₃ := fr_nm F₃ hnm3
      dsimp only [kstB] at F₃
      replace F₃ : Fr g' L' h₃ _ := F₃
      replace N₃ : News g' L' h₃ _ := N₃
      k_extra "m:my run"
      refine notin283 (by assumption) (by assumption) ?_
      rw [tok_some, item_cps (by omega)]
      by_cases hh : sz < s9
      · rw [hsn sz hh]
        dsimp only [Bool.not_false]
        k_extra "m:my run"
        with_reducible rename News g' L' _ _ => N6
        with_reducible rename Fr g' L' _ _ => F6
        rw [show (sz : Int) + 1 = ((sz + 1 : Nat) : Int) from rfl] at F6
        exact ⟨_, _, _, _, s9 - (sz + 1), rfl, (by first | exact htk | omega), F6, N6, by first | exact Nat.sub_lt_sub_left (by assumption) (Nat.lt_succ_self _) | omega, ⟨sz + 1, _, rfl, rfl, by omega, rfl, rfl, rfl, rfl, rfl, trivial⟩⟩
      · obtain rfl : sz = s9 := by omega
        rw [hst]
        dsimp only [Bool.not_true]
        k_extra "m:my run"
        have hcs : Txt.slice x (some (p : Int)) (some ((p : Int) + (sz : Int))) = nm6.getD k9 default := by
          rw [slice_eq (Nat.le_of_lt hpl'), hnm9]
          exact nm_eq k9 hk6
        rw [hcs]
        with_reducible rename News g' L' _ _ => N7
        refine my_index_str (j := k9) N7 (by k_extra "m:my mem") hsN (nm_at k9 hk6) (nm_no k9 hk6) (by rw [hsN.len_eq]; decide) ?_
        k_extra "m:my run"
        with_reducible rename News g' L' _ _ => N7
        rw [show (256 : Int) + (k9 : Int) = ((256 + k9 : Nat) : Int) from rfl]
        refine my_append (by k_asm) N7 (by k_extra "m:my ne"; exact fun q hq => Nat.ne_of_lt (allLt_mem lR1.2 q hq)) (by have := hvs.length; rw [List.length_map] at this; omega) ?_
        intro h8 F8 N8
        k_extra "m:my run"
        with_reducible rename News g' L' _ _ => N9
        with_reducible rename Fr g' L' _ _ => F9
        rw [show (p : Int) + (sz : Int) = ((p + sz : Nat) : Int) from rfl] at F9
        refine ⟨_, _, _, _, _, rfl, (by first | exact htk | omega), F9, N9, ?_, ⟨p + sz, _, acc ++ [256 + k9], r, _, _, rfl, rfl, ?_, ?_, ?_, ?_, by omega, rfl, rfl, rfl, rfl, trivial⟩⟩
        · first | exact meas3 hpl' (by first | assumption | exact Int.ofNat_lt.mp (by assumption) | exact Nat.pos_of_ne_zero (by assumption)) | omega
        · rw [List.map_append]
          exact ints_app hvs (.cons _ _ .nil)
        · rw [← List.drop_drop]
          exact hlr
        · rw [List.append_assoc]
          exact hfin
        · rw [List.length_append, List.length_singleton]
          omega
  · with_reducible rename (¬ @LT.lt Int _ _ _) => hpl
    have e : x.cps.toList.drop p = [] := List.drop_of_length_le (by rw [← len_codes]; omega)
    rw [e] at hlx
    have e2 := lex_nil hlx
    subst e2
    rw [List.append_nil] at hfin
    subst hfin
    with_reducible rename News h₀ L _ _ => N5
    with_reducible rename Fr h₀ L _ _ => F5
    refine hret _ _ _ (by rw [List.map_append]; assumption) ?_ _ _ (by omega) F5 (news_sub N5 (by k_extra "m:my sub"))
    with_reducible rename (@LT.lt Nat _ _ _ ∧ @LT.lt Nat _ _ _ ∧ @LT.lt Nat _ _ _ ∧ AllLt _ news0) => l5
    exact allLt_mem l5.2.2.2
end Mine
end
section
namespace Mine
set_option maxRecDepth 100000
set_option maxHeartbeats 8000000
set_option linter.all false
theorem words_c22_0 : True := by
  (k_with "m:my run" => (repeat' ((fail_if_success (first | ((with_reducible show wpAny _ _ (exec _ _) _ _ _); first | (with_reducible show wpAny _ _ (exec (Stmt.While _ _ _ _) _) _ _ _) | (with_reducible show wpAny _ _ (exec (Stmt.For _ _ _ _ _) _) _ _ _)) | (k_extra "m:my stop"))); k_extra "m:my step")))
  (k_with "m:my runI" => (repeat' ((fail_if_success (first | ((with_reducible show wpAny _ _ (exec _ _) _ _ _); first | (with_reducible show wpAny _ _ (exec (Stmt.While _ _ _ _) _) _ _ _) | (with_reducible show wpAny _ _ (exec (Stmt.For _ _ _ _ _) _) _ _ _) | (with_reducible show wpAny _ _ (exec (Stmt.If _ _ _ _) _) _ _ _)) | (k_extra "m:my stop"))); k_extra "m:my step")))
  trivial
theorem isE (w : World) (news : List (Addr × Obj)) (n : Int) (t : Tok) (b : Bool) (hb : (n == 0) = b) : Call w (.ref 306) [.int n t] [] 1 8 news (fun K => K (.bool b) news) := by
  revert w news n t b hb
  intro w news n t b hb
  k_extra "m:my intro"
  k_extra "m:my enter"
  k_extra "m:my run"
  subst hb
  exact hret _ _ (by first | exact htk | omega) (by assumption) (by assumption)
theorem isT (w : World) (news : List (Addr × Obj)) (n : Int) (t : Tok) (b : Bool) (hb : decide (n < 256) = b) : Call w (.ref 292) [.int n t] [] 1 8 news (fun K => K (.bool b) news) := by
  revert w news n t b hb
  intro w news n t b hb
  k_extra "m:my intro"
  k_extra "m:my enter"
  k_extra "m:my run"
  subst hb
  exact hret _ _ (by first | exact htk | omega) (by assumption) (by assumption)
theorem isN (w : World) (news : List (Addr × Obj)) (n : Int) (t : Tok) (b : Bool) (hb : decide (256 ≤ n) = b) : Call w (.ref 299) [.int n t] [] 1 8 news (fun K => K (.bool b) news) := by
  revert w news n t b hb
  intro w news n t b hb
  k_extra "m:my intro"
  k_extra "m:my enter"
  k_extra "m:my run"
  subst hb
  exact hret _ _ (by first | exact htk | omega) (by assumption) (by assumption)
end Mine
end
section
namespace Mine
set_option maxRecDepth 100000
set_option maxHeartbeats 8000000
set_option linter.all false
theorem words_c23_0 : True := by
  (k_with "m:my step" => ((fail_if_success (k_extra "m:out c23")); ((first | (with_reducible show wpAny _ _ (callWith _ (Prod.fst _) _ _ _) _ _ _) | (with_reducible show wpAny _ _ (call (Prod.fst _) _ _) _ _ _) | (with_reducible show wpAny _ _ (call _ (Prod.snd _) _) _ _ _)); dsimp only)))
  (k_with "m:callWith" => ((fail_if_success (k_extra "m:out c23")); ((with_reducible show wpAny _ _ (callWith _ (Value.builtin _) [_] _ _) _ _ _); k_dflt (refine callWith_method1 ?_))))
  (k_with "m:my run" => (repeat' ((fail_if_success (first | ((with_reducible show wpAny _ _ (exec _ _) _ _ _); first | (with_reducible show wpAny _ _ (exec (Stmt.While _ _ _ _) _) _ _ _) | (with_reducible show wpAny _ _ (exec (Stmt.For _ _ _ _ _) _) _ _ _)) | (k_extra "m:my stop") | ((with_reducible show wpAny _ _ (call _ _ _) _ _ _); first | (with_reducible show wpAny _ _ (call (Value.builtin "list.pop") _ _) _ _ _) | (with_reducible show wpAny _ _ (call (Value.ref 363) _ _) _ _ _) | (with_reducible show wpAny _ _ (call (Value.ref 299) _ _) _ _ _) | (with_reducible show wpAny _ _ (call (Value.ref 292) _ _) _ _ _) | (with_reducible show wpAny _ _ (call (Value.ref 306) _ _) _ _ _)) | ((with_reducible show wpAny _ _ (PySem.eval _ _) _ _ _); first | (with_reducible show wpAny _ _ (eval (PySem.Expr.Dict (_ :: _) _ _) _) _ _ _)) | (with_reducible show Exists _))); k_extra "m:my step")))
  (k_with "m:my runI" => (repeat' ((fail_if_success (first | ((with_reducible show wpAny _ _ (exec _ _) _ _ _); first | (with_reducible show wpAny _ _ (exec (Stmt.While _ _ _ _) _) _ _ _) | (with_reducible show wpAny _ _ (exec (Stmt.For _ _ _ _ _) _) _ _ _) | (with_reducible show wpAny _ _ (exec (Stmt.If _ _ _ _) _) _ _ _)) | (k_extra "m:my stop") | ((with_reducible show wpAny _ _ (call _ _ _) _ _ _); first | (with_reducible show wpAny _ _ (call (Value.builtin "list.pop") _ _) _ _ _) | (with_reducible show wpAny _ _ (call (Value.ref 363) _ _) _ _ _) | (with_reducible show wpAny _ _ (call (Value.ref 299) _ _) _ _ _) | (with_reducible show wpAny _ _ (call (Value.ref 292) _ _) _ _ _) | (with_reducible show wpAny _ _ (call (Value.ref 306) _ _) _ _ _)) | ((with_reducible show wpAny _ _ (PySem.eval _ _) _ _ _); first | (with_reducible show wpAny _ _ (eval (PySem.Expr.Dict (_ :: _) _ _) _) _ _ _)) | (with_reducible show Exists _))); k_extra "m:my step")))
  trivial
noncomputable def ValJ (w : World) (lR nR : Nat) (vsR : List Value) (syms : List Nat) (W : Poly) (base : List (Addr × Obj)) (n : Nat) (m : Str → Option Value) (news : List (Addr × Obj)) : Prop :=
  ∃ (p : Nat) (tp tn : Tok) (lP nP : Nat) (vs : List Value) (st : List Poly) (nm : Nat) (e : Bool) (ex : List (Addr × Obj)) (pi : Int), pi = (p : Int) ∧ n = syms.length - p ∧ p ≤ syms.length ∧ news = (lP, listOf vs.toArray nP) :: (ex ++ base) ∧ Stk (DIs w ex) vs st ∧ (∀ q ∈ ex ++ base, @Ne Nat q.1 lP) ∧ st.length ≤ p + 1 ∧ Val (syms.drop p) st nm e W ∧
    Nm m [(Str.ofString "row", .ref lR), (Str.ofString "pile", .ref lP), (Str.ofString "name", .int nm tn), (Str.ofString "ends", .bool e), (Str.ofString "place", .int pi tp)]
/-- behind the tests of a turn, ahead of the step to the next place -/
noncomputable def ValM (w : World) (lR : Nat) (syms : List Nat) (W : Poly) (base : List (Addr × Obj)) (p : Nat) (pi : Int) (tp : Tok) (m : Str → Option Value) (news : List (Addr × Obj)) : Prop :=
  ∃ (tn : Tok) (lP nP : Nat) (vs : List Value) (st : List Poly) (nm : Nat) (e : Bool) (ex : List (Addr × Obj)), news = (lP, listOf vs.toArray nP) :: (ex ++ base) ∧ Stk (DIs w ex) vs st ∧ (∀ q ∈ ex ++ base, @Ne Nat q.1 lP) ∧ st.length ≤ p + 2 ∧ Val (syms.drop (p + 1)) st nm e W ∧
    Nm m [(Str.ofString "row", .ref lR), (Str.ofString "pile", .ref lP), (Str.ofString "name", .int nm tn), (Str.ofString "ends", .bool e), (Str.ofString "place", .int pi tp)]
noncomputable def ValP (w : World) (lR : Nat) (syms : List Nat) (W : Poly) (base : List (Addr × Obj)) (p : Nat) (pi : Int) (tp : Tok) (g' : Heap) (L' : Addr) (g : Array GenState) (d : Drawn) (os : OsState) (f : Flow) (s' : Shared) : Prop :=
  f = .next ∧ ∃ h' tk m' news', s' = ⟨h', g, d, tk, os⟩ ∧ 1 ≤ tk ∧ Fr g' L' h' m' ∧ News g' L' h' news' ∧ ValM w lR syms W base p pi tp m' news'
noncomputable def WhlJ (w : World) (lR lP : Nat) (V : Poly) (pi : Int) (tp tn : Tok) (rest : List (Addr × Obj)) (ps : List Poly) (i : Nat) (m : Str → Option Value) (news : List (Addr × Obj)) : Prop :=
  ∃ (dX : Nat) (oX : Obj) (kX : List (Str × Value)) (X : Poly), news = (dX, oX) :: rest ∧ (dX == sysModules) = false ∧ (∀ q ∈ rest, @LT.lt Nat _ q.1 dX) ∧ oX.IsDictOf (SK w) kX ∧ PIs kX X ∧ Whl (ps.drop i) X V ∧
    Nm m [(Str.ofString "row", .ref lR), (Str.ofString "pile", .ref lP), (Str.ofString "name", .int 257 tn), (Str.ofString "ends", .bool false), (Str.ofString "place", .int pi tp), (Str.ofString "whole", .ref dX)]
theorem stk_inv {α : Type} {f : α → Value → Prop} {vs : List Value} {p : α} {st : List α} (h : Stk f vs (p :: st)) : ∃ (vs1 : List Value) (v : Value), vs = vs1 ++ [v] ∧ Stk f vs1 st ∧ f p v := by
  cases h with | snoc h1 h2 => exact ⟨_, _, rfl, h1, h2⟩
noncomputable def VInv (y : Nat) (r : List Nat) (st : List Poly) (nm : Nat) (e : Bool) (W : Poly) : Prop := (256 ≤ y ∧ Val r st y e W) ∨ (∃ k, y = 247 ∧ k < 4 ∧ nm = 258 + k ∧ Val r ([([sgV k], 1)] :: st) nm e W) ∨
    (y = 251 ∧ Val r st nm true W) ∨ (((y = 253 ∨ y = 254) ∨ (y = 255 ∧ e = false)) ∧ Val r st nm e W) ∨ (∃ A B st2, y = 255 ∧ st = B :: A :: st2 ∧ nm = 256 ∧ e = true ∧ Fit A B ∧ Val r (timesP (timesP [] B 1 A) A (-1) B :: st2) 256 false W) ∨
    (∃ V, y = 255 ∧ nm = 257 ∧ e = true ∧ Whl st.reverse [([], 1)] V ∧ Val r [V] 257 false W)
noncomputable def VI (l : List Nat) (st : List Poly) (nm : Nat) (e : Bool) (W : Poly) : Prop := match l with
  | [] => True
  | y :: r => VInv y r st nm e W
theorem val_inv0 {l : List Nat} {nm : Nat} {st : List Poly} {e : Bool} {W : Poly} (h : Val l st nm e W) : VI l st nm e W := by
  cases h with
  | done => exact trivial
  | name h1 h2 => exact Or.inl ⟨h1, h2⟩
  | push h1 h2 h3 => exact Or.inr (Or.inl ⟨_, rfl, h1, h2, h3⟩)
  | slash h1 => exact Or.inr (Or.inr (Or.inl ⟨rfl, h1⟩))
  | skip h1 h2 => exact Or.inr (Or.inr (Or.inr (Or.inl ⟨h1, h2⟩)))
  | knot h1 h2 => exact Or.inr (Or.inr (Or.inr (Or.inr (Or.inl ⟨_, _, _, rfl, rfl, rfl, rfl, h1, h2⟩))))
  | root h1 h2 => exact Or.inr (Or.inr (Or.inr (Or.inr (Or.inr ⟨_, rfl, rfl, rfl, h1, h2⟩))))
theorem val_inv {y nm : Nat} {r : List Nat} {st : List Poly} {e : Bool} {W : Poly} (h : Val (y :: r) st nm e W) : (256 ≤ y ∧ Val r st y e W) ∨ (∃ k, y = 247 ∧ k < 4 ∧ nm = 258 + k ∧ Val r ([([sgV k], 1)] :: st) nm e W) ∨
    (y = 251 ∧ Val r st nm true W) ∨ (((y = 253 ∨ y = 254) ∨ (y = 255 ∧ e = false)) ∧ Val r st nm e W) ∨ (∃ A B st2, y = 255 ∧ st = B :: A :: st2 ∧ nm = 256 ∧ e = true ∧ Fit A B ∧ Val r (timesP (timesP [] B 1 A) A (-1) B :: st2) 256 false W) ∨
    (∃ V, y = 255 ∧ nm = 257 ∧ e = true ∧ Whl st.reverse [([], 1)] V ∧ Val r [V] 257 false W) := val_inv0 h
theorem val_done {nm : Nat} {st : List Poly} {e : Bool} {W : Poly} (h : Val [] st nm e W) : st = [W] := by cases h; rfl
theorem stk_nil {α : Type} {f : α → Value → Prop} {vs : List Value} (h : Stk f vs []) : vs = [] := by cases h; rfl
theorem whl_inv {P W X : Poly} {r : List Poly} (h : Whl (P :: r) W X) : Fit W P ∧ Whl r (timesP [] P 1 W) X := by cases h with | cons h1 h2 => exact ⟨h1, h2⟩
theorem whl_nil {W X : Poly} (h : Whl [] W X) : X = W := by cases h; rfl
theorem ints_nat : ∀ {vs : List Value} {l : List Nat}, IntsAre vs (l.map Int.ofNat) → ∀ {i : Nat}, i < l.length → ∃ t, vs[i]? = some (.int (l.getD i 0 : Nat) t)
  | _, [], _, i, hi => absurd hi (Nat.not_lt_zero _)
  | _, a :: r, h, i, hi => by
    cases h with
    | cons k t hr =>
      cases i with
      | zero => exact ⟨t, rfl⟩
      | succ i => exact ints_nat (l := r) hr (Nat.lt_of_succ_lt_succ hi)
theorem sg_item : ∀ k : Nat, k < 4 → (Txt.item (Str.ofString "\r&<>") (k : Int)).cps.toList = [sgV k] := by decide +kernel
theorem valW (w : World) (lR nR : Nat) (vsR : List Value) (syms : List Nat) (hi : IntsAre vsR ((syms ++ [0]).map Int.ofNat)) (hn0 : ∀ n ∈ syms, n ≠ 0) (hsl : syms.length ≤ 200) (W : Poly) (hv : Val syms [] 0 false W) (news0 : List (Addr × Obj)) (hm : (lR, listOf vsR.toArray nR) ∈ news0) :
    Call w (.ref 370) [.ref lR] [] 10 120 news0 (fun K => ∀ (v : Value) (ex : List (Addr × Obj)), DIs w ex W v → K v (ex ++ news0)) := by
  revert w lR nR vsR syms hi hn0 hsl W hv news0 hm
  intro w lR nR vsR syms hi hn0 hsl W hv news0 hm
  have hat : ∀ i : Nat, i ≤ syms.length → ∃ t, vsR[i]? = some (.int ((syms ++ [0]).getD i 0 : Nat) t) := fun i h => ints_nat hi (by rw [List.length_append]; exact Nat.lt_succ_of_le h)
  k_extra "m:my intro"
  k_extra "m:my enter"
  k_extra "m:my run"
  with_reducible rename (∀ q ∈ news0, q.1 < _) => lP1
  obtain ⟨lP, eP, lP1⟩ : ∃ lP : Nat, lP = _ ∧ ∀ q ∈ news0, @LT.lt Nat _ q.1 lP := ⟨_, rfl, lP1⟩
  subst eP
  with_reducible rename News g' L' _ _ => N2
  with_reducible rename Fr g' L' _ _ => F2
  refine my_while (ValJ w lR nR vsR syms W news0) (n₀ := syms.length) F2 N2 (by first | exact htk | omega) ⟨0, _, _, lP, 0, [], [], 0, false, [], 0, rfl, by omega, Nat.zero_le _, rfl, .nil, fun q hq => Nat.ne_of_lt (lP1 q hq), Nat.zero_le _, hv, rfl, rfl, rfl, rfl, rfl, trivial⟩ ?_
  rintro n m₁ news₁ h₁ tk₁ htk F₁ N₁ ⟨p, tp, tn, lP, nP, vs, st, nm, e, ex, pi, hpi, rfl, hp, rfl, hst, hne, hstl, hval, hnm⟩
  replace F₁ := fr_nm F₁ hnm
  dsimp only [kstB] at F₁
  replace F₁ : Fr g' L' h₁ _ := F₁
  replace N₁ : News g' L' h₁ _ := N₁
  obtain ⟨ty, hy⟩ := hat p hp
  generalize hq9 : (syms ++ [0]).getD p 0 = y at hy
  k_extra "m:my run"
  refine my_item N₁ (.tail _ (List.mem_append_right _ hm)) (by omega) (by omega) (by rw [hpi]; exact hy) ?_ (by with_unfolding_all rfl)
  k_extra "m:my run"
  with_reducible rename News g' L' _ _ => N3
  with_reducible rename Fr g' L' _ _ => F3
  obtain ⟨b0, hb0⟩ : ∃ b, (((y : Nat) : Int) == 0) = b := ⟨_, rfl⟩
  refine use_call (isE w _ _ _ b0 hb0) (by k_asm) F3 (by assumption) N3 (by assumption) rfl (by k_extra "m:my room") (by k_extra "m:my room") (by first | exact htk | omega) ?_
  intro h4 tk4 htk F4 N4
  rcases Nat.lt_or_ge p syms.length with hlt | hge
  · have hyd : syms[p]? = some y := by
      rw [← hq9, List.getD_eq_getElem?_getD, List.getElem?_append_left hlt, List.getElem?_eq_getElem hlt]
      rfl
    have hy0 : y ≠ 0 := hn0 y (List.mem_of_getElem? hyd)
    rw [drop_at hyd] at hval
    have hpi1 : pi + 1 = ((p + 1 : Nat) : Int) := by omega
    obtain rfl : b0 = false := by rw [← hb0]; simpa using hy0
    k_extra "m:my run"
    with_reducible rename News g' L' _ _ => N5
    refine my_item N5 (.tail _ (List.mem_append_right _ hm)) (by omega) (by omega) (by rw [hpi]; exact hy) ?_ (by with_unfolding_all rfl)
    k_extra "m:my runI"
    refine cut_post (ValP w lR syms W news0 p pi tp g' L' s.gens s.drawn s.os) ?_ ?_
    · k_extra "m:my run"
      with_reducible rename News g' L' _ _ => N6
      with_reducible rename Fr g' L' _ _ => F6
      by_cases h256 : 256 ≤ y
      · refine use_call (isN w _ _ _ true (decide_eq_true (by omega))) (by k_asm) F6 (by assumption) N6 (by assumption) rfl (by k_extra "m:my room") (by k_extra "m:my room") (by first | exact htk | omega) ?_
        intro h7 tk7 htk F7 N7
        k_extra "m:my run"
        with_reducible rename News g' L' _ _ => N6
        with_reducible rename Fr g' L' _ _ => F6
        refine use_call (isT w _ _ _ false (decide_eq_false (by omega))) (by k_asm) F6 (by assumption) N6 (by assumption) rfl (by k_extra "m:my room") (by k_extra "m:my room") (by first | exact htk | omega) ?_
        intro h8 tk8 htk F8 N8
        k_extra "m:my run"
        with_reducible rename News g' L' _ _ => N9
        with_reducible rename Fr g' L' _ _ => F9
        rcases val_inv hval with ⟨hn, hv2⟩ | ⟨k, rfl, -⟩ | ⟨rfl, -⟩ | ⟨h, -⟩ | ⟨A, B, st2, rfl, -⟩ | ⟨V, rfl, -⟩
        · exact ⟨rfl, _, _, _, _, rfl, (by first | exact htk | omega), F9, N9, _, lP, nP, vs, st, y, e, ex, rfl, hst, hne, Nat.le_succ_of_le hstl, hv2, rfl, rfl, rfl, rfl, rfl, trivial⟩
        · exact absurd h256 (by decide)
        · exact absurd h256 (by decide)
        · exact absurd h256 (by rcases h with (rfl | rfl) | ⟨rfl, _⟩ <;> decide)
        · exact absurd h256 (by decide)
        · exact absurd h256 (by decide)
      · refine use_call (isN w _ _ _ false (decide_eq_false (by omega))) (by k_asm) F6 (by assumption) N6 (by assumption) rfl (by k_extra "m:my room") (by k_extra "m:my room") (by first | exact htk | omega) ?_
        intro h7 tk7 htk F7 N7
        k_extra "m:my run"
        with_reducible rename News g' L' _ _ => N6
        with_reducible rename Fr g' L' _ _ => F6
        refine use_call (isT w _ _ _ true (decide_eq_true (by omega))) (by k_asm) F6 (by assumption) N6 (by assumption) rfl (by k_extra "m:my room") (by k_extra "m:my room") (by first | exact htk | omega) ?_
        intro h8 tk8 htk F8 N8
        k_extra "m:my run"
        with_reducible rename News g' L' _ _ => N6
        with_reducible rename Fr g' L' _ _ => F6
        refine use_call (isN w _ _ _ false (decide_eq_false (by omega))) (by k_asm) F6 (by assumption) N6 (by assumption) rfl (by k_extra "m:my room") (by k_extra "m:my room") (by first | exact htk | omega) ?_
        intro h9 tk9 htk F9 N9
        k_extra "m:my runI"
        with_reducible rename Fr g' L' _ _ => F9
        with_reducible rename News g' L' _ _ => N9
        rcases val_inv hval with ⟨hn, hv2⟩ | h | ⟨rfl, hv2⟩ | ⟨h1, hv2⟩ | h | h
        · exact absurd hn h256
        · obtain ⟨k, rfl, hk4, hnk, hv2⟩ := h
          k_extra "m:my run"
          with_reducible rename News g' L' _ _ => N9
          with_reducible rename Fr g' L' _ _ => F9
          with_reducible refine' kdn_eval (knd := SK w) F9 N9 ?q1 ?q2 ?q3 ?q4 ?q5 ?_
          case q1 => exact Top.nolimit (by assumption)
          case q2 => rfl
          case q3 => rfl
          case q4 => exact List.cons_ne_nil _ _
          case q5 => decide
          intro dD h10 oD0 F10 N10 ldD loD hd0
          k_extra "m:my run"
          with_reducible rename News g' L' _ _ => N11
          with_reducible rename Obj.IsDictOf _ _ _ => hdD
          have N12 : News g' L' _ ((lP, listOf vs.toArray nP) :: (dD, _) :: (ex ++ news0)) := news_sub N11 (by k_extra "m:my sub")
          refine my_append (by k_asm) N12 (fun q hq => by
            rcases List.mem_cons.mp hq with rfl | hq
            · exact Ne.symm (Nat.ne_of_lt (ldD _ (.head _)))
            · exact hne q hq) (by have := hst.len; omega) ?_
          intro h12 F12 N13
          k_extra "m:my run"
          with_reducible rename News g' L' _ _ => N9
          with_reducible rename Fr g' L' _ _ => F9
          refine ⟨rfl, _, _, _, _, rfl, (by first | exact htk | omega), F9, N9, _, lP, _, _, _, nm, e, (dD, _) :: ex, rfl, .snoc (hst.mono fun P v h => h.mono fun q hq => .tail _ hq) ⟨dD, _, _, rfl, .head _, loD, hdD, ?_⟩, fun q hq => ?_, Nat.succ_le_succ hstl, hv2, rfl, rfl, rfl, rfl, rfl, trivial⟩
          · have hsg := sg_item k hk4
            rw [show (k : Int) = (nm : Int) - 258 from by omega] at hsg
            rw [← hsg]
            exact .cons .nil
          · rcases List.mem_cons.mp hq with rfl | hq
            · exact Ne.symm (Nat.ne_of_lt (ldD _ (.head _)))
            · exact hne q hq
        · k_extra "m:my run"
          with_reducible rename News g' L' _ _ => N9
          with_reducible rename Fr g' L' _ _ => F9
          exact ⟨rfl, _, _, _, _, rfl, (by first | exact htk | omega), F9, N9, _, lP, nP, vs, st, nm, true, ex, rfl, hst, hne, Nat.le_succ_of_le hstl, hv2, rfl, rfl, rfl, rfl, rfl, trivial⟩
        · rcases h1 with (rfl | rfl) | ⟨rfl, rfl⟩
          · k_extra "m:my run"
            with_reducible rename News g' L' _ _ => N9
            with_reducible rename Fr g' L' _ _ => F9
            exact ⟨rfl, _, _, _, _, rfl, (by first | exact htk | omega), F9, N9, _, lP, nP, vs, st, nm, e, ex, rfl, hst, hne, Nat.le_succ_of_le hstl, hv2, rfl, rfl, rfl, rfl, rfl, trivial⟩
          · k_extra "m:my run"
            with_reducible rename News g' L' _ _ => N9
            with_reducible rename Fr g' L' _ _ => F9
            exact ⟨rfl, _, _, _, _, rfl, (by first | exact htk | omega), F9, N9, _, lP, nP, vs, st, nm, e, ex, rfl, hst, hne, Nat.le_succ_of_le hstl, hv2, rfl, rfl, rfl, rfl, rfl, trivial⟩
          · k_extra "m:my run"
            with_reducible rename News g' L' _ _ => N9
            with_reducible rename Fr g' L' _ _ => F9
            exact ⟨rfl, _, _, _, _, rfl, (by first | exact htk | omega), F9, N9, _, lP, nP, vs, st, nm, false, ex, rfl, hst, hne, Nat.le_succ_of_le hstl, hv2, rfl, rfl, rfl, rfl, rfl, trivial⟩
        · obtain ⟨A, B, st2, rfl, rfl, rfl, rfl, hfit, hv2⟩ := h
          obtain ⟨vs1, vB, rfl, hst1, hB⟩ := stk_inv hst
          obtain ⟨vs2, vA, rfl, hst2, hA⟩ := stk_inv hst1
          obtain ⟨aB, oB, kB, rfl, mB, loB, dB, pB⟩ := hB
          obtain ⟨aA, oA, kA, rfl, mA, loA, dA, pA⟩ := hA
          have hl2 := hst2.len
          simp only [List.length_cons] at hstl
          k_extra "m:my run"
          with_reducible rename News g' L' _ _ => N10
          refine my_pop (by k_asm) N10 hne (by rw [List.length_append, List.length_singleton]; omega) ?_
          intro h11 F11 N11
          dsimp only at F11 N11 ⊢
          k_extra "m:my run"
          with_reducible rename News g' L' _ _ => N10
          refine my_pop (by k_asm) N10 hne (by omega) ?_
          intro h11 F11 N11
          dsimp only at F11 N11 ⊢
          k_extra "m:my run"
          with_reducible rename (@LT.lt Nat _ _ _ ∧ AllLt _ (ex ++ news0)) => l1
          obtain ⟨l1a, l1b⟩ := l1
          have hS0 := allLt_mem l1b
          with_reducible rename News g' L' _ _ => N12
          with_reducible rename Fr g' L' _ _ => F12
          refine use_call (timesW w _ aA aB _ oA oB [] kA kB [] A B 1 _ ((lP, listOf vs2.toArray _) :: (ex ++ news0)) (.tail _ (List.mem_append_left _ mA)) (.tail _ (List.mem_append_left _ mB)) (fun q hq => by
            rcases List.mem_cons.mp hq with rfl | hq
            · exact Nat.ne_of_lt l1a
            · exact Nat.ne_of_lt (hS0 q hq)) (by assumption) loA loB (by assumption) dA dB .nil pA pB (.inl rfl) (by have := hfit.1; simp; omega) hfit.2.2.2.1 hfit.2.2.2.2 hfit.2.1) (by k_asm) F12 (by assumption) N12 (by assumption) rfl (by k_extra "m:my room") (by k_extra "m:my room") (by first | exact htk | omega) ?_
          intro oS1 kS1 dS1 pS1 h13 tk13 htk F13 N13
          k_extra "m:my run"
          with_reducible rename News g' L' _ _ => N12
          with_reducible rename Fr g' L' _ _ => F12
          have hsz9 := (timesP_sz B 1 (by decide) A []).1
          refine use_call (timesW w _ aB aA _ oB oA kS1 kB kA (timesP [] B 1 A) B A (-1) _ ((lP, listOf vs2.toArray _) :: (ex ++ news0)) (.tail _ (List.mem_append_left _ mB)) (.tail _ (List.mem_append_left _ mA)) (fun q hq => by
            rcases List.mem_cons.mp hq with rfl | hq
            · exact Nat.ne_of_lt l1a
            · exact Nat.ne_of_lt (hS0 q hq)) (by assumption) loB loA dS1 dB dA pS1 pB pA (.inr rfl) (by have := hfit.1; rw [Nat.mul_comm B.length]; simp at hsz9; omega) hfit.2.2.2.2 hfit.2.2.2.1 hfit.2.2.1) (by k_asm) F12 (by assumption) N12 (by assumption) rfl (by k_extra "m:my room") (by k_extra "m:my room") (by first | exact htk | omega) ?_
          intro oS2 kS2 dS2 pS2 h14 tk14 htk F14 N14
          k_extra "m:my run"
          with_reducible rename News g' L' _ _ => N15
          have N16 : News g' L' _ ((lP, listOf vs2.toArray _) :: (_, oS2) :: (ex ++ news0)) := news_sub N15 (by k_extra "m:my sub")
          refine my_append (by k_asm) N16 (fun q hq => by
            rcases List.mem_cons.mp hq with rfl | hq
            · exact Ne.symm (Nat.ne_of_lt l1a)
            · exact hne q hq) (by omega) ?_
          intro h17 F17 N17
          k_extra "m:my run"
          with_reducible rename News g' L' _ _ => N9
          with_reducible rename Fr g' L' _ _ => F9
          refine ⟨rfl, _, _, _, _, rfl, (by first | exact htk | omega), F9, N9, _, lP, _, _, _, 256, false, (_, oS2) :: ex, rfl, .snoc (hst2.mono fun P v h => h.mono fun q hq => .tail _ hq) ⟨_, _, _, rfl, .head _, (by assumption), dS2, pS2⟩, fun q hq => ?_, by simp only [List.length_cons]; omega, hv2, rfl, rfl, rfl, rfl, rfl, trivial⟩
          rcases List.mem_cons.mp hq with rfl | hq
          · exact Ne.symm (Nat.ne_of_lt l1a)
          · exact hne q hq
        · obtain ⟨V, rfl, rfl, rfl, hwhl, hv2⟩ := h
          k_extra "m:my run"
          with_reducible rename News g' L' _ _ => N9
          with_reducible rename Fr g' L' _ _ => F9
          with_reducible refine' kdn_eval (knd := SK w) F9 N9 ?q1 ?q2 ?q3 ?q4 ?q5 ?_
          case q1 => exact Top.nolimit (by assumption)
          case q2 => rfl
          case q3 => rfl
          case q4 => exact List.cons_ne_nil _ _
          case q5 => decide
          intro dW h10 oD0 F10 N10 ldW loW hd0
          k_extra "m:my run"
          with_reducible rename Obj.IsDictOf _ _ _ => hdD
          refine my_For (by first | exact htk | omega) ?_ (fun _ => rfl)
          k_extra "m:my run"
          with_reducible rename News g' L' _ _ => N11
          with_reducible rename Fr g' L' _ _ => F11
          refine my_list (WhlJ w lR lP V pi tp tn ((lP, listOf vs.toArray nP) :: (ex ++ news0)) st.reverse) rfl rfl rfl (.tail _ (.head _)) F11 N11 htk ⟨dW, _, _, [([], 1)], rfl, loW, ldW, hdD, .cons .nil, hwhl, rfl, rfl, rfl, rfl, rfl, rfl, trivial⟩ ?_ ?_
          · rintro i v m₅ news₅ h₅ tk₅ I it hi htk F₅ N₅ hI hks ⟨dX, oX, kX, X, rfl, loX, ldX, ddX, pX, hwX, hnm5⟩
            replace F₅ := fr_nm1 F₅ hnm5
            dsimp only [kstB] at F₅
            replace F₅ : Fr g' L' h₅ _ := F₅
            replace N₅ : News g' L' h₅ _ := N₅
            obtain ⟨P, hP, aP, oP, kP, rfl, mP, loP, ddP, pP⟩ := hst.at i v hi
            rw [drop_at hP] at hwX
            obtain ⟨hfit, hwX2⟩ := whl_inv hwX
            k_extra "m:my run"
            with_reducible rename (@LT.lt Nat _ _ _ ∧ @LT.lt Nat _ _ _ ∧ @LT.lt Nat _ _ _ ∧ AllLt _ (ex ++ news0)) => l1
            obtain ⟨l1a, l1b, l1c, l1d⟩ := l1
            have hS0 := allLt_mem l1d
            with_reducible rename News g' L' _ _ => N12
            with_reducible rename Fr g' L' _ _ => F12
            refine use_call (timesW w _ dX aP _ oX oP [] kX kP [] X P 1 _ ((I, it) :: (dX, oX) :: (lP, listOf vs.toArray nP) :: (ex ++ news0)) (.tail _ (.head _)) (.tail _ (.tail _ (.tail _ (List.mem_append_left _ mP)))) (fun q hq => by
              rcases List.mem_cons.mp hq with rfl | hq
              · exact Nat.ne_of_lt l1a
              rcases List.mem_cons.mp hq with rfl | hq
              · exact Nat.ne_of_lt l1b
              rcases List.mem_cons.mp hq with rfl | hq
              · exact Nat.ne_of_lt l1c
              · exact Nat.ne_of_lt (hS0 q hq)) (by assumption) loX loP (by assumption) ddX ddP .nil pX pP (.inl rfl) (by have := hfit.1; simp; omega) hfit.2.2.2.1 hfit.2.2.2.2 hfit.2.1) (by k_asm) F12 (by assumption) N12 (by assumption) rfl (by k_extra "m:my room") (by k_extra "m:my room") (by first | exact htk | omega) ?_
            intro oS1 kS1 dS1 pS1 h13 tk13 htk F13 N13
            k_extra "m:my run"
            with_reducible rename News g' L' _ _ => N14
            with_reducible rename Fr g' L' _ _ => F14
            have N15 : News g' L' _ ((I, it) :: (_, oS1) :: (lP, listOf vs.toArray nP) :: (ex ++ news0)) := news_sub N14 (by k_extra "m:my sub")
            refine ⟨_, _, _, _, rfl, (by first | exact htk | omega), F14, N15, fun q hq => ?_, fun q hq => ?_, _, oS1, kS1, _, rfl, (by assumption), fun q hq => ?_, dS1, pS1, hwX2, rfl, rfl, rfl, rfl, rfl, rfl, trivial⟩
            · rcases List.mem_cons.mp hq with rfl | hq
              · exact Ne.symm (Nat.ne_of_lt l1a)
              · exact hI q (.tail _ hq)
            · rw [List.mem_singleton.mp hq]
              exact .tail _ (.head _)
            · rcases List.mem_cons.mp hq with rfl | hq
              · exact l1c
              · exact hS0 q hq
          · rintro h₅ tk₅ m₅ news₅ htk F₅ N₅ hks ⟨dX, oX, kX, X, rfl, loX, ldX, ddX, pX, hwX, hnm5⟩
            replace F₅ := fr_nm F₅ hnm5
            dsimp only [kstB] at F₅
            replace F₅ : Fr g' L' h₅ _ := F₅
            replace N₅ : News g' L' h₅ _ := N₅
            rw [List.drop_of_length_le (by rw [List.length_reverse, ← hst.len]; exact Nat.le_refl _)] at hwX
            obtain rfl := whl_nil hwX
            k_extra "m:my run"
            with_reducible rename (@LT.lt Nat _ _ _ ∧ @LT.lt Nat _ _ _ ∧ AllLt _ (ex ++ news0)) => l1
            obtain ⟨l1a, l1b, l1c⟩ := l1
            have hS0 := allLt_mem l1c
            with_reducible rename News g' L' _ _ => N9
            with_reducible rename Fr g' L' _ _ => F9
            have N10 : News g' L' _ ((_, listOf [Value.ref dX].toArray 0) :: (((dX, oX) :: ex) ++ news0)) := news_sub N9 (by
              intro q hq
              rcases List.mem_cons.mp hq with rfl | hq
              · exact .head _
              rcases List.mem_cons.mp hq with rfl | hq
              · exact .tail _ (.head _)
              · exact .tail _ (.tail _ (.tail _ hq)))
            refine ⟨rfl, _, _, _, _, rfl, (by first | exact htk | omega), F9, N10, _, _, _, _, [_], 257, false, (dX, oX) :: ex, rfl, .snoc .nil ⟨dX, oX, kX, rfl, .head _, loX, ddX, pX⟩, fun q hq => ?_, by simp only [List.length_cons, List.length_nil]; omega, hv2, rfl, rfl, rfl, rfl, rfl, trivial⟩
            rcases List.mem_cons.mp hq with rfl | hq
            · exact Nat.ne_of_lt l1a
            · exact Nat.ne_of_lt (hS0 q hq)
    · rintro f s' ⟨rfl, h6, tk6, m6, news6, rfl, htk, F6, N6, tn, lP, nP, vs, st, nm, e, ex, rfl, hst, hne, hstl, hval, hnm6⟩
      replace F6 := fr_nm F6 hnm6
      dsimp only [kstB] at F6
      k_extra "m:my run"
      with_reducible rename News g' L' _ _ => N9
      with_reducible rename Fr g' L' _ _ => F9
      exact ⟨_, _, _, _, syms.length - (p + 1), rfl, (by first | exact htk | omega), F9, N9, by first | exact Nat.sub_lt_sub_left (by assumption) (Nat.lt_succ_self _) | omega, ⟨p + 1, _, _, lP, nP, vs, st, nm, e, ex, _, hpi1, rfl, hlt, rfl, hst, hne, hstl, hval, rfl, rfl, rfl, rfl, rfl, trivial⟩⟩
  · obtain rfl : p = syms.length := by omega
    rw [List.drop_of_length_le (Nat.le_refl _)] at hval
    obtain rfl : y = 0 := by
      rw [← hq9, List.getD_eq_getElem?_getD, List.getElem?_append_right (Nat.le_refl _), Nat.sub_self]
      rfl
    obtain rfl : b0 = true := by rw [← hb0]; rfl
    k_extra "m:my run"
    with_reducible rename News g' L' _ _ => N5
    refine my_item N5 (.tail _ (List.mem_append_right _ hm)) (by omega) (by omega) (by rw [hpi]; exact hy) ?_ (by with_unfolding_all rfl)
    k_extra "m:my run"
    with_reducible rename News g' L' _ _ => N6
    with_reducible rename Fr g' L' _ _ => F6
    refine use_call (isE w _ _ _ true rfl) (by k_asm) F6 (by assumption) N6 (by assumption) rfl (by k_extra "m:my room") (by k_extra "m:my room") (by first | exact htk | omega) ?_
    intro h7 tk7 htk F7 N7
    k_extra "m:my run"
    with_reducible rename News g' L' _ _ => N5
    refine my_item N5 (.tail _ (List.mem_append_right _ hm)) (by omega) (by omega) (by rw [hpi]; exact hy) ?_ (by with_unfolding_all rfl)
    k_extra "m:my run"
    with_reducible rename News g' L' _ _ => N6
    with_reducible rename Fr g' L' _ _ => F6
    refine use_call (isT w _ _ _ true rfl) (by k_asm) F6 (by assumption) N6 (by assumption) rfl (by k_extra "m:my room") (by k_extra "m:my room") (by first | exact htk | omega) ?_
    intro h8 tk8 htk F8 N8
    k_extra "m:my run"
    obtain rfl := val_done hval
    obtain ⟨vs0, v, rfl, hs0, hd⟩ := stk_inv hst
    obtain rfl := stk_nil hs0
    with_reducible rename News g' L' _ _ => N9
    refine my_item N9 (.head _) (by omega) (by omega) (x := v) rfl ?_ (by with_unfolding_all rfl)
    k_extra "m:my run"
    with_reducible rename News h₀ L _ _ => N10
    with_reducible rename Fr h₀ L _ _ => F10
    exact hret v ex hd _ _ (by first | exact htk | omega) F10 (news_sub N10 fun q hq => .tail _ hq)
theorem words_c23_out : True := by
  (k_with "m:out c23" => skip)
  trivial
end Mine
end
section
namespace Mine
set_option maxRecDepth 100000
set_option maxHeartbeats 8000000
set_option linter.all false
theorem words_c19_0 : True := by
  (k_with "m:eps ne" => ((fail_if_success (k_extra "m:out c19")); exact Mine.ne_tr))
  (k_with "m:my run" => (repeat' ((fail_if_success (first | ((with_reducible show wpAny _ _ (exec _ _) _ _ _); first | (with_reducible show wpAny _ _ (exec (Stmt.While _ _ _ _) _) _ _ _) | (with_reducible show wpAny _ _ (exec (Stmt.For _ _ _ _ _) _) _ _ _)) | (k_extra "m:my stop") | ((with_reducible show wpAny _ _ (storeName _ _ _) _ _ _); first | (with_reducible show wpAny _ _ (storeName _ (Str.ofString "pages") _) _ _ _)) | ((with_reducible show wpAny _ _ (call _ _ _) _ _ _); first | (with_reducible show wpAny _ _ (call (Value.builtin "str.join") _ _) _ _ _)))); k_extra "m:my step")))
  (k_with "m:my runI" => (repeat' ((fail_if_success (first | ((with_reducible show wpAny _ _ (exec _ _) _ _ _); first | (with_reducible show wpAny _ _ (exec (Stmt.While _ _ _ _) _) _ _ _) | (with_reducible show wpAny _ _ (exec (Stmt.For _ _ _ _ _) _) _ _ _) | (with_reducible show wpAny _ _ (exec (Stmt.If _ _ _ _) _) _ _ _)) | (k_extra "m:my stop") | ((with_reducible show wpAny _ _ (storeName _ _ _) _ _ _); first | (with_reducible show wpAny _ _ (storeName _ (Str.ofString "pages") _) _ _ _)) | ((with_reducible show wpAny _ _ (call _ _ _) _ _ _); first | (with_reducible show wpAny _ _ (call (Value.builtin "str.join") _ _) _ _ _)))); k_extra "m:my step")))
  trivial
theorem ne_tr : Nonempty Tr := ⟨.leaf 0⟩
theorem words_c19_1 : True := by
  (k_with "m:eval Name" => ((fail_if_success (k_extra "m:out c19")); (k_here; (with_reducible show wpAny _ _ (eval (Expr.Name (Str.ofString "len") _) (compEnvC _ _ _ _)) _ _ _); k_dflt (refine LCgL.ld_built (by k_asm) (by k_asm) (by k_asm) (by k_is) (by boot_by_name) (by decide) ?_))))
  (k_with "m:my neN" => ((fail_if_success (k_extra "m:out c19")); (repeat (first | exact List.forall_mem_nil _ | refine List.forall_mem_cons.mpr ⟨by (show @Ne Nat _ _; dsimp only; first | with_reducible assumption | (with_reducible refine Ne.symm ?_; with_reducible assumption) | omega), ?_⟩))))
  (k_with "m:my run" => (repeat' ((fail_if_success (first | ((with_reducible show wpAny _ _ (exec _ _) _ _ _); first | (with_reducible show wpAny _ _ (exec (Stmt.While _ _ _ _) _) _ _ _) | (with_reducible show wpAny _ _ (exec (Stmt.For _ _ _ _ _) _) _ _ _)) | (k_extra "m:my stop") | ((with_reducible show wpAny _ _ (storeName _ _ _) _ _ _); first | (with_reducible show wpAny _ _ (storeName _ (Str.ofString "pages") _) _ _ _)) | ((with_reducible show wpAny _ _ (call _ _ _) _ _ _); first | (with_reducible show wpAny _ _ (call (Value.builtin "str.index") _ _) _ _ _) | (with_reducible show wpAny _ _ (call (Value.builtin "list.pop") _ _) _ _ _) | (with_reducible show wpAny _ _ (call (Value.builtin "str.join") _ _) _ _ _)) | ((with_reducible show wpAny _ _ (PySem.eval _ _) _ _ _); first | (with_reducible show wpAny _ _ (PySem.eval (PySem.Expr.ListComp _ _ _ _) _) _ _ _)) | ((with_reducible show wpAny _ _ (compareOp _ _ _) _ _ _); first | (with_reducible show wpAny _ _ (compareOp CmpOp.NotEq (Value.ref _) (Value.ref _)) _ _ _)) | (with_reducible show Exists _))); k_extra "m:my step")))
  (k_with "m:my runI" => (repeat' ((fail_if_success (first | ((with_reducible show wpAny _ _ (exec _ _) _ _ _); first | (with_reducible show wpAny _ _ (exec (Stmt.While _ _ _ _) _) _ _ _) | (with_reducible show wpAny _ _ (exec (Stmt.For _ _ _ _ _) _) _ _ _) | (with_reducible show wpAny _ _ (exec (Stmt.If _ _ _ _) _) _ _ _)) | (k_extra "m:my stop") | ((with_reducible show wpAny _ _ (storeName _ _ _) _ _ _); first | (with_reducible show wpAny _ _ (storeName _ (Str.ofString "pages") _) _ _ _)) | ((with_reducible show wpAny _ _ (call _ _ _) _ _ _); first | (with_reducible show wpAny _ _ (call (Value.builtin "str.index") _ _) _ _ _) | (with_reducible show wpAny _ _ (call (Value.builtin "list.pop") _ _) _ _ _) | (with_reducible show wpAny _ _ (call (Value.builtin "str.join") _ _) _ _ _)) | ((with_reducible show wpAny _ _ (PySem.eval _ _) _ _ _); first | (with_reducible show wpAny _ _ (PySem.eval (PySem.Expr.ListComp _ _ _ _) _) _ _ _)) | ((with_reducible show wpAny _ _ (compareOp _ _ _) _ _ _); first | (with_reducible show wpAny _ _ (compareOp CmpOp.NotEq (Value.ref _) (Value.ref _)) _ _ _)) | (with_reducible show Exists _))); k_extra "m:my step")))
  trivial
/-- a pile of strs, the topmost last in the list and first in what it stands for -/
inductive StkA {α : Type} (f : α → Str → Prop) : List Value → List α → Prop
  | nil : StkA f [] []
  | snoc {vs : List Value} {st : List α} {p : α} {x : Str} {t : Tok} : StkA f vs st → f p x → StkA f (vs ++ [.str x t]) (p :: st)
theorem StkA.len {α : Type} {f : α → Str → Prop} {vs : List Value} {st : List α} (h : StkA f vs st) : vs.length = st.length := by
  induction h with
  | nil => rfl
  | snoc _ _ ih => rw [List.length_append, ih]; rfl
theorem StkA.strs {α : Type} {f : α → Str → Prop} {vs : List Value} {st : List α} (h : StkA f vs st) (hf : ∀ p x, f p x → PyData.strOk x = true) : ∃ xs, StrsAre vs xs ∧ ∀ x ∈ xs, PyData.strOk x = true := by
  induction h with
  | nil => exact ⟨[], .nil, fun x hx => absurd hx List.not_mem_nil⟩
  | snoc _ h1 ih =>
    obtain ⟨xs, h, h2⟩ := ih
    refine ⟨_, strs_append h strs_one, fun x hx => ?_⟩
    rcases List.mem_append.mp hx with hx | hx
    · exact h2 x hx
    · rw [List.mem_singleton.mp hx]; exact hf _ _ h1
theorem StkA.at {α : Type} {f : α → Str → Prop} {vs : List Value} {st : List α} (h : StkA f vs st) : ∀ (i : Nat) (p : α), st[i]? = some p → ∃ x t, vs[vs.length - 1 - i]? = some (.str x t) ∧ f p x := by
  induction h with
  | nil => intro i p e; simp at e
  | @snoc vs st p x t h hf ih =>
    intro i q e
    cases i with
    | zero =>
      obtain rfl : p = q := by simpa using e
      refine ⟨x, t, ?_, hf⟩
      rw [List.length_append, List.length_singleton, show vs.length + 1 - 1 - 0 = vs.length from rfl, List.getElem?_append_right (Nat.le_refl _), Nat.sub_self]
      rfl
    | succ i =>
      have e' : st[i]? = some q := by simpa using e
      obtain ⟨y, t', e2, hq⟩ := ih i q e'
      have hlt : i < vs.length := by
        rw [h.len]
        exact (List.getElem?_eq_some_iff.mp e').1
      refine ⟨y, t', ?_, hq⟩
      rw [List.length_append, List.length_singleton, show vs.length + 1 - 1 - (i + 1) = vs.length - 1 - i from by rw [Nat.add_sub_cancel, Nat.add_comm i 1, Nat.sub_sub], List.getElem?_append_left (Nat.lt_of_le_of_lt (Nat.sub_le _ _) (Nat.sub_lt (Nat.lt_of_le_of_lt (Nat.zero_le _) hlt) Nat.one_pos))]
      exact e2
theorem StkA.uncons {α : Type} {f : α → Str → Prop} {vs : List Value} {p : α} {r : List α} (h : StkA f vs (p :: r)) : ∃ (vs3 : List Value) (y : Str) (ty : Tok), vs = vs3 ++ [.str y ty] ∧ StkA f vs3 r ∧ f p y := by
  cases h with
  | snoc h1 h2 => exact ⟨_, _, _, rfl, h1, h2⟩
theorem list_two {α : Type} (l : List α) : l = [] ∨ ∃ p r, l = p :: r := by
  cases l with
  | nil => exact .inl rfl
  | cons p r => exact .inr ⟨p, r, rfl⟩
noncomputable abbrev lw (l : List Nat) : List Nat := l.map (97 + ·)
theorem lw_lt : ∀ a b : List Nat, (lw a < lw b) ↔ ltB a b = true
  | [], [] => by simp [ltB_q0, ltB_q1, ltB_q2]
  | [], _ :: _ => by simp [ltB_q0, ltB_q1, ltB_q2]
  | _ :: _, [] => by simp [ltB_q0, ltB_q1, ltB_q2]
  | a :: r, b :: s => by
    show (97 + a) :: lw r < (97 + b) :: lw s ↔ _
    rw [List.cons_lt_cons_iff, ltB_cons, lw_lt r s]
    by_cases h : a < b
    · simp [h]
    · by_cases e : a = b
      · simp [e]
      · rw [if_neg h, if_neg e]
        constructor
        · rintro (h' | ⟨h', _⟩) <;> omega
        · intro h'; cases h'
noncomputable def wtS (st : List (List Nat × Tr)) : Nat := (st.map (·.1.length)).sum
noncomputable abbrev fW (p : List Nat × Tr) (x : Str) : Prop := x.cps.toList = lw p.1 ∧ 1 ≤ p.1.length ∧ PyData.strOk x = true
noncomputable abbrev fP (F : Nat → List Nat) (p : List Nat × Tr) (x : Str) : Prop := x.cps.toList = rn F p.2 ∧ x.length + 7 ≤ 12 * p.1.length
theorem StkA.le_wt {vs : List Value} {st : List (List Nat × Tr)} (h : StkA fW vs st) : st.length ≤ wtS st := by
  induction h with
  | nil => exact Nat.le_refl _
  | @snoc vs st p x t _ hf ih =>
    have : wtS (p :: st) = p.1.length + wtS st := by simp [wtS]
    have := hf.2.1
    rw [List.length_cons]
    omega
noncomputable def DueJ (F : Nat → List Nat) (tx os : Str) (tt to : Tok) (lD lW lP c : Nat) (oD oc : Obj) (base : List (Addr × Obj)) (tot : Nat) (fin : List (List Nat × Tr)) (n : Nat) (m : Str → Option Value) (news : List (Addr × Obj)) : Prop :=
  ∃ (wd : List Nat) (tr : Tr) (st : List (List Nat × Tr)) (xw xp : Str) (tw tp : Tok) (vsW vsP : List Value) (nW nP : Nat), n = st.length ∧
    news = (lW, listOf vsW.toArray nW) :: (lP, listOf vsP.toArray nP) :: (c, oc) :: (lD, oD) :: base ∧ StkA fW vsW st ∧ StkA (fP F) vsP st ∧ xw.cps.toList = lw wd ∧ 1 ≤ wd.length ∧ PyData.strOk xw = true ∧ xp.cps.toList = rn F tr ∧ xp.length + 7 ≤ 12 * wd.length ∧ wd.length + wtS st = tot ∧ dueIn wd tr st = fin ∧
    Nm m [(Str.ofString "text", .str tx tt), (Str.ofString "order", .str os to), (Str.ofString "references", .ref lD), (Str.ofString "words", .ref lW), (Str.ofString "word", .str xw tw), (Str.ofString "page", .str xp tp)]
noncomputable def DueO (F : Nat → List Nat) (u : List Nat) (tx os : Str) (tt to : Tok) (lD lW lP c : Nat) (oD oc : Obj) (base : List (Addr × Obj)) (fin : List (List Nat × Tr)) (i : Nat) (m : Str → Option Value) (news : List (Addr × Obj)) : Prop :=
  ∃ (st : List (List Nat × Tr)) (vsW vsP : List Value) (nW nP : Nat),
    news = (lW, listOf vsW.toArray nW) :: (lP, listOf vsP.toArray nP) :: (c, oc) :: (lD, oD) :: base ∧ StkA fW vsW st ∧ StkA (fP F) vsP st ∧ wtS st = i ∧ dueGo (u.reverse.drop i) st = fin ∧
    Nm m [(Str.ofString "text", .str tx tt), (Str.ofString "order", .str os to), (Str.ofString "references", .ref lD), (Str.ofString "words", .ref lW)]
theorem wt_mem {p : List Nat × Tr} {st : List (List Nat × Tr)} (h : p ∈ st) : p.1.length ≤ wtS st := by
  induction st with
  | nil => nomatch h
  | cons q r ih =>
    have e : wtS (q :: r) = q.1.length + wtS r := by simp [wtS]
    rcases List.mem_cons.mp h with rfl | h
    · omega
    · have := ih h; omega
theorem le60 {a b c : Nat} (h : a + 7 ≤ 12 * b) (h2 : b ≤ c) (h3 : c = 5) : a ≤ 60 := by omega
theorem sum_small {a b n : Nat} (h : a ≤ 60 * n) (h2 : b = n) (h3 : n ≤ 5) : a + b ≤ 1048576 := by omega
theorem cat_take {α : Type} {st : List α} {i : Nat} {p : α} {zs : List Str} {z : Str} {f : α → List Nat} (h : catS zs = (st.take i).flatMap f) (hp : st[i]? = some p) (hz : z.cps.toList = f p) : catS (zs ++ [z]) = (st.take (i + 1)).flatMap f := by
  rw [catS_append, h, List.take_succ, hp, List.flatMap_append]
  refine congrArg _ ?_
  simp only [Option.toList_some, List.flatMap_cons, List.flatMap_nil, List.append_nil]
  rw [← hz]
  simp [catS]
theorem abcd : ∀ c : Nat, c < 4 → (Txt.item (Str.ofString "abcd") (c : Int)).cps.toList = lw [c] ∧ PyData.strOk (Txt.item (Str.ofString "abcd") (c : Int)) = true := by decide +kernel
theorem drop_rev {u : List Nat} {i c : Nat} (hu : u.length = 5) (hi : i < 5) (hc : u.getD (4 - i) 0 = c) : u.reverse.drop i = c :: u.reverse.drop (i + 1) := by
  have hl : i < u.reverse.length := by rw [List.length_reverse, hu]; exact hi
  rw [List.drop_eq_getElem_cons hl]
  congr 1
  rw [List.getElem_reverse, ← hc, List.getD_eq_getElem?_getD, List.getElem?_eq_getElem (by rw [hu]; exact Nat.lt_of_le_of_lt (Nat.sub_le _ _) (by decide))]
  simp only [Option.getD_some]
  congr 1
  first | (rw [hu]; done) | (rw [hu]; rfl) | omega
theorem dueW (w : World) (tx os : Str) (tt to : Tok) (hxl : tx.length = 5) (F9 : Nat → List Nat) (u : List Nat) (hul : u.length = 5) (hu4 : ∀ c ∈ u, c < 4) (sgs : Nat → Str) (htx : ∀ i : Nat, i < 5 → Txt.item tx (i : Int) = sgs (u.getD i 0)) (hidx : ∀ c : Nat, c < 4 → Txt.find os (sgs c) = (c : Int))
    (rS : Nat → Str) (hsg : ∀ c, c < 4 → (sgs c = Str.ofString "\r" ∧ rS c = Str.ofString "&#xD;") ∨ (sgs c = Str.ofString "&" ∧ rS c = Str.ofString "&amp;") ∨ (sgs c = Str.ofString "<" ∧ rS c = Str.ofString "&lt;") ∨ (sgs c = Str.ofString ">" ∧ rS c = Str.ofString "&gt;")) (hF : ∀ c, c < 4 → F9 c = (rS c).cps.toList) (news0 : List (Addr × Obj)) :
    Call w (.ref 349) [.str tx tt, .str os to] [] 40 400 news0 (fun K => ∀ (S : Str) (t : Tok), S.cps.toList = (Str.ofString "<r>").cps.toList ++ ((dueGo u.reverse []).map (·.2)).flatMap (rn F9) ++ (Str.ofString "</r>").cps.toList → K (.str S t) news0) := by
  revert w tx os tt to hxl F9 u hul hu4 sgs htx hidx rS hsg hF news0
  intro w tx os tt to hxl F9 u hul hu4 sgs htx hidx rS hsg hF news0
  k_extra "m:my intro"
  k_extra "m:my enterC"
  obtain ⟨oc, hE, d1⟩ := CellsAre.one Y'
  subst hE
  simp only [List.cons_append, List.nil_append] at N'
  replace d1 : oc.data = .cell none := d1.trans (congrArg Data.cell (by kernel_rfl))
  replace F' : Fr g' L' h' (fun y => if y = Str.ofString "order" then some (Value.str os to) else if y = Str.ofString "text" then some (Value.str tx tt) else none) := fr_is F' fun y => by
    kernel_rfl
  k_extra "m:my run"
  dsimp only
  k_extra "m:my step"
  k_extra "m:my run"
  with_reducible rename News g' L' _ _ => N2
  with_reducible rename Fr g' L' _ _ => F2
  with_reducible rename (@LT.lt Nat _ _ _ ∧ @LT.lt Nat _ _ _ ∧ @LT.lt Nat _ _ _ ∧ AllLt _ news0) => lP1
  with_reducible rename (@LT.lt Nat _ _ _ ∧ @LT.lt Nat _ _ _ ∧ AllLt _ news0) => lW1
  obtain ⟨lP, eP, lP1⟩ : ∃ lP : Nat, lP = _ ∧ (@LT.lt Nat _ _ lP ∧ @LT.lt Nat _ _ lP ∧ @LT.lt Nat _ (L' + 1) lP ∧ AllLt lP news0) := ⟨_, rfl, lP1⟩
  subst eP
  obtain ⟨lW, eW, lW1⟩ : ∃ lW : Nat, lW = _ ∧ (@LT.lt Nat _ _ lW ∧ @LT.lt Nat _ (L' + 1) lW ∧ AllLt lW news0) := ⟨_, rfl, lW1⟩
  subst eW
  with_reducible rename Obj.IsDictOf _ _ _ => hd9
  obtain ⟨lD, oD, kvs, N3, F3, hdI, hval, gDW, gWP, gcD⟩ : ∃ (lD : Nat) (oD : Obj) (kvs : List (Str × Value)), News g' L' _ ((lP, listOf #[] 0) :: (lW, listOf #[] 0) :: (lD, oD) :: (L' + 1, oc) :: news0) ∧
      Fr g' L' _ (fun y => if y = Str.ofString "words" then some (Value.ref lW) else if y = Str.ofString "references" then some (Value.ref lD) else if y = Str.ofString "order" then some (Value.str os to) else if y = Str.ofString "text" then some (Value.str tx tt) else none) ∧
      oD.IsDictOf (PySem.strKind _ w) kvs ∧ (∀ c, c < 4 → ∃ t, valueAt kvs (sgs c) = some (.str (rS c) t)) ∧ @LT.lt Nat _ lD lW ∧ @LT.lt Nat _ lW lP ∧ @LT.lt Nat _ (L' + 1) lD := by
    refine ⟨_, _, _, N2, F2, hd9, fun c hc => ?_, lW1.1, lP1.1, ?_⟩
    · rcases hsg c hc with ⟨e, e2⟩ | ⟨e, e2⟩ | ⟨e, e2⟩ | ⟨e, e2⟩ <;> rw [e, e2] <;> exact ⟨_, rfl⟩
    · with_reducible rename (@LT.lt Nat _ (L' + 1) _ ∧ AllLt _ news0) => lD1
      exact lD1.1
  have hU : UpdF (L' + 1) oc ((lP, listOf #[] 0) :: (lW, listOf #[] 0) :: (lD, oD) :: (L' + 1, oc) :: news0) (fun o' => (lP, listOf #[] 0) :: (lW, listOf #[] 0) :: (lD, oD) :: (L' + 1, o') :: news0) :=
    .tail (by show @Ne Nat _ _; omega) (.tail (by show @Ne Nat _ _; omega) (.tail (by show @Ne Nat _ _; omega) (.head fun q hq => by
      have : @LT.lt Nat _ q.1 L' := allLt_mem (allLt_of l1) q hq
      show @Ne Nat _ _
      omega)))
  refine storeX_C F3 N3 ?hc hU d1 ?_ ?hk ?hx
  case hk => rfl
  case hc => kernel_rfl
  case hx => kernel_rfl
  intro h3 oP F4 N4 d3
  intro htk
  dsimp only at htk ⊢
  k_extra "m:my run"
  refine my_For htk ?_ (fun _ => rfl)
  k_extra "m:my run"
  with_reducible rename IsRange _ _ _ _ _ _ _ _ => hR9
  obtain ⟨hsm, hrs⟩ := range_fact63 tx.length (by omega)
  with_reducible rename News g' L' _ _ => N5
  with_reducible rename Fr g' L' _ _ => F5
  have N6 : News g' L' _ ((lW, listOf [].toArray 0) :: (lP, listOf [].toArray 0) :: (L' + 1, oP) :: (lD, oD) :: news0) := news_sub N5 (by k_extra "m:my sub")
  refine my_range (n := 5) (DueO F9 u tx os tt to lD lW lP (L' + 1) oD oP news0 (dueGo u.reverse [])) rfl rfl rfl hR9 hsm (by rw [hrs, hxl]) F5 N6 (by omega) ⟨[], [], [], 0, 0, rfl, .nil, .nil, rfl, rfl, rfl, rfl, rfl, rfl, trivial⟩ ?_ ?_
  · rintro i t m₁ news₁ h₁ tk₁ I it hi htk F₁ N₁ hI ⟨st, vsW, vsP, nW, nP, rfl, hsW, hsP, hwt, hgo, hnm⟩
    replace F₁ := fr_nm1 F₁ hnm
    dsimp only [kstB] at F₁
    replace F₁ : Fr g' L' h₁ _ := F₁
    replace N₁ : News g' L' h₁ _ := N₁
    obtain ⟨c, hc⟩ : ∃ c, u.getD (4 - i) 0 = c := ⟨_, rfl⟩
    have hc4 : c < 4 := by
      rw [← hc, List.getD_eq_getElem?_getD, List.getElem?_eq_getElem (by omega)]
      exact hu4 _ (List.getElem_mem _)
    k_extra "m:my run"
    have hsig : Txt.item tx ((tx.length : Int) - 1 - (0 + (i : Int))) = sgs c := by
      rw [show (tx.length : Int) - 1 - (0 + (i : Int)) = ((4 - i : Nat) : Int) from by omega, htx _ (by omega), hc]
    with_reducible rename Fr g' L' _ _ => F6
    with_reducible rename (1 ≤ (Txt.item tx _).length ∧ _) => hl9
    clear hl9
    rw [hsig] at F6 ⊢
    refine with_tok (by first | exact htk | omega) ?_
    refine index_or rfl (fun h => ?_) (fun _ _ htk => ?_)
    · rw [hidx c hc4] at h
      omega
    rw [hidx c hc4]
    dsimp only at htk ⊢
    k_extra "m:my run"
    obtain ⟨tv, hv⟩ := hval c hc4
    with_reducible rename News g' L' _ _ => N7
    refine with_tok (by first | exact htk | omega) ?_
    refine kda_item N7 (by k_extra "m:my mem") hdI (PySem.strKind_is _ w _ _) hv ?_
    intro htk
    dsimp only at htk ⊢
    k_extra "m:my run"
    have hrl : (rS c).length ≤ 5 := by
      rcases hsg c hc4 with ⟨e, e2⟩ | ⟨e, e2⟩ | ⟨e, e2⟩ | ⟨e, e2⟩ <;> rw [e2] <;> decide +kernel
    obtain ⟨hw0, hw1⟩ := abcd c hc4
    with_reducible rename News g' L' _ _ => N8
    with_reducible rename Fr g' L' _ _ => F8
    have N9 : News g' L' _ ((lW, listOf vsW.toArray nW) :: (lP, listOf vsP.toArray nP) :: (L' + 1, oP) :: (lD, oD) :: (I, it) :: news0) := news_sub N8 (by k_extra "m:my sub")
    refine my_while (DueJ F9 tx os tt to lD lW lP (L' + 1) oD oP ((I, it) :: news0) (i + 1) (dueIn [c] (.leaf c) st)) (n₀ := st.length) F8 N9 htk ⟨[c], .leaf c, st, _, _, _, _, vsW, vsP, nW, nP, rfl, rfl, hsW, hsP, hw0, Nat.le_refl _, hw1, (hF c hc4).symm, (by show (rS c).length + 7 ≤ 12 * 1; omega), (by show 1 + wtS st = i + 1; omega), rfl, rfl, rfl, rfl, rfl, rfl, rfl, trivial⟩ ?_
    rintro n m₂ news₂ h₂ tk₂ htk F₂ N₂ ⟨wd, tr, st2, xw, xp, tw, tp, vsW2, vsP2, nW2, nP2, hn, hnw, hsW2, hsP2, hxw, hwd, hxok, hxp, hxpl, hwt2, hin, hnm2⟩
    subst hnw
    subst hn
    replace F₂ := fr_nm F₂ hnm2
    dsimp only [kstB] at F₂
    replace F₂ : Fr g' L' h₂ _ := F₂
    replace N₂ : News g' L' h₂ _ := N₂
    obtain ⟨xs2, hxs2, hok2⟩ := hsW2.strs fun p x h => h.2.2
    k_extra "m:my run"
    with_reducible rename News g' L' _ _ => N10
    refine my_ne_nil N10 (.tail _ (.head _)) (.head _) hxs2 hok2 (by k_extra "m:my room") ?_
    have hI2 := allNe_of hI
    simp only [AllNe_q0, AllNe_q1] at hI2
    obtain ⟨iW, iP, ic, iD, iN⟩ := hI2
    have hxw5 : xw.length ≤ 5 := by
      rw [len_codes, hxw, List.length_map]
      omega
    have hxp5 : xp.length ≤ 60 := by omega
    have hNp : ∀ q ∈ news0, @Ne Nat q.1 lP := fun q hq => Nat.ne_of_lt (allLt_mem lP1.2.2.2 q hq)
    have hNw : ∀ q ∈ news0, @Ne Nat q.1 lW := fun q hq => Nat.ne_of_lt (allLt_mem lW1.2.2 q hq)
    rcases list_two st2 with e2 | e2
    · subst e2
      obtain rfl : vsW2 = [] := List.length_eq_zero_iff.mp hsW2.len
      obtain rfl : vsP2 = [] := List.length_eq_zero_iff.mp hsP2.len
      dsimp only [List.isEmpty, Bool.not_true]
      k_extra "m:my run"
      with_reducible rename News g' L' _ _ => N13
      have N14 : News g' L' _ ((lW, listOf ([] : List Value).toArray nW2) :: (lP, listOf ([] : List Value).toArray nP2) :: (L' + 1, oP) :: (lD, oD) :: (I, it) :: news0) := news_sub N13 fun q hq => .tail _ hq
      refine my_append (by k_asm) N14 (by k_extra "m:my ne"; exact hNw) (by have := (hsW2).len; have := StkA.le_wt hsW2; omega) ?_
      intro h5 F14 N15
      k_extra "m:my run"
      with_reducible rename News g' L' _ _ => N16
      have N17 : News g' L' _ ((lP, listOf ([] : List Value).toArray nP2) :: (lW, listOf (([] : List Value) ++ [Value.str xw tw]).toArray (nW2 + 1)) :: (L' + 1, oP) :: (lD, oD) :: (I, it) :: news0) := news_sub N16 (by k_extra "m:my sub")
      refine my_append (by k_asm) N17 (by k_extra "m:my ne"; exact hNp) (by have := (hsP2).len; have := StkA.le_wt hsW2; omega) ?_
      intro h6 F17 N18
      k_extra "m:my run"
      with_reducible rename News g' L' _ _ => N19
      with_reducible rename Fr g' L' _ _ => F19
      have N20 : News g' L' _ ((I, it) :: (lW, listOf (([] : List Value) ++ [Value.str xw tw]).toArray (nW2 + 1)) :: (lP, listOf (([] : List Value) ++ [Value.str xp tp]).toArray (nP2 + 1)) :: (L' + 1, oP) :: (lD, oD) :: news0) := news_sub N19 (by k_extra "m:my sub")
      refine ⟨_, _, _, _, rfl, (by first | exact htk | omega), F19, N20, by k_extra "m:my ne"; exact fun q hq => hI q (.tail _ (.tail _ (.tail _ (.tail _ hq)))), fun q hq => (nomatch hq), ⟨(wd, tr) :: [], _, _, _, _, rfl, .snoc hsW2 ⟨hxw, hwd, hxok⟩, .snoc hsP2 ⟨hxp, hxpl⟩, ?_, ?_, rfl, rfl, rfl, rfl, trivial⟩⟩
      · simpa [wtS] using hwt2
      · rw [← hgo, drop_rev hul hi hc]
        show _ = dueGo _ (dueIn [c] (.leaf c) st)
        rw [← hin]
        rfl
    · obtain ⟨p, r, rfl⟩ := e2
      obtain ⟨vsW3, y, ty, rfl, hsW3, hfy⟩ := hsW2.uncons
      obtain ⟨vsP3, z, tz, rfl, hsP3, hfz⟩ := hsP2.uncons
      have hsW2 : StkA fW (vsW3 ++ [.str y ty]) (p :: r) := .snoc hsW3 hfy
      have hsP2 : StkA (fP F9) (vsP3 ++ [.str z tz]) (p :: r) := .snoc hsP3 hfz
      rw [show (vsW3 ++ [Value.str y ty]).isEmpty = false from by simp]
      dsimp only [Bool.not_false]
      have hwc : wtS (p :: r) = p.1.length + wtS r := by simp [wtS]
      have hy5 : y.length ≤ 5 := by
        rw [len_codes, hfy.1, List.length_map]
        omega
      have hz5 : z.length ≤ 60 := by
        have := hfz.2
        omega
      have hl3 := hsW3.len
      have hl4 := hsP3.len
      have hl5 := StkA.le_wt hsW3
      k_extra "m:my run"
      with_reducible rename News g' L' _ _ => N12
      refine my_last N12 (.tail _ (.head _)) (by omega) ?_ (by with_unfolding_all rfl)
      k_extra "m:my run"
      rotate_left
      · have hlt : ltB wd p.1 = false := by
          with_reducible rename ¬ _ => hnl
          cases e : ltB wd p.1 with
          | false => rfl
          | true =>
            exfalso
            apply hnl
            rw [hxw, hfy.1]
            exact (lw_lt _ _).mpr e
        with_reducible rename News g' L' _ _ => N13
        have N14 : News g' L' _ ((lW, listOf (vsW3 ++ [Value.str y ty]).toArray nW2) :: (lP, listOf (vsP3 ++ [Value.str z tz]).toArray nP2) :: (L' + 1, oP) :: (lD, oD) :: (I, it) :: news0) := news_sub N13 fun q hq => .tail _ hq
        refine my_append (by k_asm) N14 (by k_extra "m:my ne"; exact hNw) (by have := (hsW2).len; have := StkA.le_wt hsW2; omega) ?_
        intro h5 F14 N15
        k_extra "m:my run"
        with_reducible rename News g' L' _ _ => N16
        have N17 : News g' L' _ ((lP, listOf (vsP3 ++ [Value.str z tz]).toArray nP2) :: (lW, listOf ((vsW3 ++ [Value.str y ty]) ++ [Value.str xw tw]).toArray (nW2 + 1)) :: (L' + 1, oP) :: (lD, oD) :: (I, it) :: news0) := news_sub N16 (by k_extra "m:my sub")
        refine my_append (by k_asm) N17 (by k_extra "m:my ne"; exact hNp) (by have := (hsP2).len; have := StkA.le_wt hsW2; omega) ?_
        intro h6 F17 N18
        k_extra "m:my run"
        with_reducible rename News g' L' _ _ => N19
        with_reducible rename Fr g' L' _ _ => F19
        have N20 : News g' L' _ ((I, it) :: (lW, listOf ((vsW3 ++ [Value.str y ty]) ++ [Value.str xw tw]).toArray (nW2 + 1)) :: (lP, listOf ((vsP3 ++ [Value.str z tz]) ++ [Value.str xp tp]).toArray (nP2 + 1)) :: (L' + 1, oP) :: (lD, oD) :: news0) := news_sub N19 (by k_extra "m:my sub")
        refine ⟨_, _, _, _, rfl, (by first | exact htk | omega), F19, N20, by k_extra "m:my ne"; exact fun q hq => hI q (.tail _ (.tail _ (.tail _ (.tail _ hq)))), fun q hq => (nomatch hq), ⟨(wd, tr) :: p :: r, _, _, _, _, rfl, .snoc hsW2 ⟨hxw, hwd, hxok⟩, .snoc hsP2 ⟨hxp, hxpl⟩, ?_, ?_, rfl, rfl, rfl, rfl, trivial⟩⟩
        · simpa [wtS] using hwt2
        · rw [← hgo, drop_rev hul hi hc]
          show _ = dueGo _ (dueIn [c] (.leaf c) st)
          rw [← hin]
          ((first | rewrite [dueIn_q0] | rewrite [dueIn_q1]); rewrite [hlt]; (try with_reducible rfl)); rfl
      · have hlt : ltB wd p.1 = true := by
          with_reducible rename (xw.cps.toList < y.cps.toList) => hyl
          rw [hxw, hfy.1] at hyl
          exact (lw_lt _ _).mp hyl
        dsimp only
        with_reducible rename News g' L' _ _ => N13
        have N14 : News g' L' _ ((lW, listOf (vsW3 ++ [Value.str y ty]).toArray nW2) :: (lP, listOf (vsP3 ++ [Value.str z tz]).toArray nP2) :: (L' + 1, oP) :: (lD, oD) :: (I, it) :: news0) := news_sub N13 fun q hq => .tail _ hq
        refine my_pop (by k_asm) N14 (by k_extra "m:my ne"; exact hNw) (by omega) ?_
        intro h5 F14 N15
        dsimp only at F14 N15 ⊢
        k_extra "m:my run"
        dsimp only
        with_reducible rename News g' L' _ _ => N16
        have N17 : News g' L' _ ((lP, listOf (vsP3 ++ [Value.str z tz]).toArray nP2) :: (lW, listOf vsW3.toArray (nW2 + 1)) :: (L' + 1, oP) :: (lD, oD) :: (I, it) :: news0) := news_sub N16 (by k_extra "m:my sub")
        refine my_pop (by k_asm) N17 (by k_extra "m:my ne"; exact hNp) (by omega) ?_
        intro h6 F17 N18
        dsimp only at F17 N18 ⊢
        k_extra "m:my run"
        with_reducible rename News g' L' _ _ => N19
        with_reducible rename Fr g' L' _ _ => F19
        have N20 : News g' L' _ ((lW, listOf vsW3.toArray (nW2 + 1)) :: (lP, listOf vsP3.toArray (nP2 + 1)) :: (L' + 1, oP) :: (lD, oD) :: (I, it) :: news0) := news_sub N19 (by k_extra "m:my sub")
        refine ⟨_, _, _, _, r.length, rfl, (by first | exact htk | omega), F19, N20, Nat.lt_succ_self _, ⟨wd ++ p.1, .node tr p.2, r, _, _, _, _, vsW3, vsP3, _, _, rfl, rfl, hsW3, hsP3, ?_, ?_, strOk_app hxok hfy.2.2, ?_, ?_, ?_, ?_, rfl, rfl, rfl, rfl, rfl, rfl, trivial⟩⟩
        · rw [Str.cps_append, Array.toList_append, hxw, hfy.1]; exact List.map_append.symm
        · rw [List.length_append]; omega
        · simp only [Str.cps_append, Array.toList_append, hxp, hfz.1, rn_q0, rn_q1, List.append_assoc]
          rw [show (Str.ofString "<b>").cps.toList = (Str.ofString "<" ++ Str.ofString "b").cps.toList ++ (Str.ofString ">").cps.toList from by decide +kernel, show (Str.ofString "</b>").cps.toList = (Str.ofString "</" ++ Str.ofString "b" ++ Str.ofString ">").cps.toList from by decide +kernel]
          simp only [Str.cps_append, Array.toList_append, List.append_assoc]
        · rw [len_codes] at hxpl ⊢
          have h2 := hfz.2
          rw [len_codes] at h2
          simp only [Str.cps_append, Array.toList_append, List.length_append, show (Str.ofString "<b>").cps.toList.length = 3 from by decide +kernel, show (Str.ofString "</b>").cps.toList.length = 4 from by decide +kernel]
          omega
        · rw [List.length_append]; omega
        · (rewrite [← hin]; (first | rewrite [dueIn_q0] | rewrite [dueIn_q1]); rewrite [hlt]; (try with_reducible rfl)); rfl
  · rintro h' tk' m' news' htk F' N' ⟨st, vsW, vsP, nW, nP, rfl, hsW, hsP, hwt, hgo, hnm⟩
    replace F' := fr_nm F' hnm
    dsimp only [kstB] at F'
    replace F' : Fr g' L' h' _ := F'
    replace N' : News g' L' h' _ := N'
    k_extra "m:my run"
    have hfin : st = dueGo u.reverse [] := by
      rw [← hgo, List.drop_of_length_le (by rw [List.length_reverse, hul]; exact Nat.le_refl _)]
      rfl
    have hvl : vsP.length ≤ 5 := by
      rw [hsP.len]
      exact Nat.le_trans (StkA.le_wt hsW) (Nat.le_of_eq hwt)
    refine my_comp (by first | exact htk | omega | (dsimp only; omega)) (by with_unfolding_all rfl) rfl (by decide) ?_ (fun _ => rfl)
    k_extra "m:my run"
    with_reducible rename News g' L' _ _ => N27
    with_reducible rename Fr g' L' _ _ => F27
    with_reducible rename IsRange _ _ _ _ _ _ _ _ => hR9
    obtain ⟨hsm, hrs⟩ := range_fact63 vsP.length (Nat.lt_of_le_of_lt hvl (by decide))
    refine my_comp_range (n := vsP.length) (fun i ys news => news = (lW, listOf vsW.toArray nW) :: (lP, listOf vsP.toArray nP) :: (L' + 1, oP) :: (lD, oD) :: news0 ∧ i ≤ vsP.length ∧ ∃ zs, StrsAre ys zs ∧ zs.length = i ∧ ys.length = i ∧ (zs.map (·.length)).sum ≤ 60 * i ∧ catS zs = (st.take i).flatMap fun p => rn F9 p.2) rfl (by decide) rfl rfl hR9 hsm hrs F27 N27 ⟨rfl, Nat.zero_le _, [], .nil, rfl, rfl, Nat.le_refl _, rfl⟩ ?_ ?_ ?_
    · rintro i ys news ⟨_, h1, zs, _, _, h2, _⟩
      omega
    · rintro i t h9 tk9 hi htk ys news₁ I oI C oC D m₂ E' ⟨rfl, hi2, zs, hzs, hzl, hyl, hsum, hcat⟩ hC hx F₁ N₁ hoff hne hks
      unfold tests
      dsimp only at F₁ N₁ ⊢
      replace F₁ : Fr g' L' h9 _ := F₁
      replace N₁ : News g' L' h9 _ := N₁
      obtain ⟨p, hp⟩ : ∃ p, st[i]? = some p := ⟨_, List.getElem?_eq_getElem (Nat.lt_of_lt_of_eq hi hsP.len)⟩
      obtain ⟨z, tz, hz, hfz⟩ := hsP.at i p hp
      k_extra "m:my run"
      with_reducible rename News g' L' _ _ => N28
      obtain ⟨h00, h01, h02⟩ := back_ix hi hvl
      refine my_item N28 (by k_extra "m:my mem") h00 h01 (by rw [h02]; exact hz) ?_ (by with_unfolding_all rfl)
      have hzl9 : z.length ≤ 60 := by
        exact le60 hfz.2 (wt_mem (List.mem_of_getElem? hp)) hwt
      k_extra "m:my run"
      with_reducible rename Fr g' L' _ _ => F₂
      with_reducible rename News g' L' _ _ => N₂
      refine hid ⟨_, _, _, rfl, F₂, N₂, hoff, hks, rfl, Nat.succ_le_of_lt hi, zs ++ [z], strs_append hzs strs_one, ?_, ?_, ?_, ?_⟩
      · rw [List.length_append, hzl]; rfl
      · rw [List.length_append, hyl]; rfl
      · rw [List.map_append, List.sum_append]
        simp only [List.map_cons, List.map_nil, List.sum_cons, List.sum_nil]
        exact Nat.add_le_add hsum hzl9
      · exact cat_take (f := fun p => rn F9 p.2) hcat hp hfz.1
    · rintro ys news' ⟨rfl, hi2, zs, hzs, hzl, hyl, hsum, hcat⟩
      intro D h9 tk9 F₂ N₂ hD htk
      dsimp only at htk F₂ N₂ ⊢
      replace F₂ : Fr g' L' h9 _ := F₂
      replace N₂ : News g' L' h9 _ := N₂
      k_extra "m:my run"
      with_reducible rename News g' L' _ _ => N28
      refine with_tok (by first | exact htk | omega) ?_
      refine join_listW (N28.isList (.head _)) hzs (by decide +kernel) (sum_small hsum hzl hvl) ?_
      intro tj kj htk
      dsimp only at htk ⊢
      have hjl : (Txt.join (Str.ofString "") zs).length ≤ 300 := by
        rw [join_length]
        exact Nat.le_trans hsum (by rw [Nat.mul_comm]; exact Nat.le_trans (Nat.mul_le_mul_right 60 hvl) (by decide))
      k_extra "m:my run"
      with_reducible rename News h₀ L _ _ => N29
      with_reducible rename Fr h₀ L _ _ => F29
      refine hret _ _ ?_ _ _ (by omega) F29 (news_sub N29 fun q hq => .tail _ (.tail _ (.tail _ (.tail _ (.tail _ hq)))))
      rw [Str.cps_append, Str.cps_append, Array.toList_append, Array.toList_append, join_codes, hcat, List.take_of_length_le (by rw [hsP.len]; exact Nat.le_refl _), hfin, List.flatMap_map]
theorem words_c19_out : True := by
  (k_with "m:out c19" => skip)
  trivial
end Mine
end
section
open PySem PySem.W PyProof.Rows
namespace Mine
/-! the rows: where a text is put into a row in order -/
theorem lt_ltB : ∀ a b : List Nat, (a < b) ↔ ltB a b = true
  | [], [] => by simp [ltB_q0, ltB_q1, ltB_q2]
  | [], _ :: _ => by simp [ltB_q0, ltB_q1, ltB_q2]
  | _ :: _, [] => by simp [ltB_q0, ltB_q1, ltB_q2]
  | a :: r, b :: s => by
    rw [List.cons_lt_cons_iff, ltB_cons, lt_ltB r s]
    by_cases h : a < b
    · simp [h]
    · by_cases e : a = b
      · simp [e]
      · rw [if_neg h, if_neg e]
        constructor
        · rintro (h' | ⟨h', _⟩)
          · exact absurd h' h
          · exact absurd h' e
        · intro h'; cases h'
theorem lx_irr (a : List Nat) : ¬ a < a := fun h => by rw [lt_ltB, ltB_irr] at h; cases h
theorem lx_trans {a b c : List Nat} (h1 : a < b) (h2 : b < c) : a < c := by
  rw [lt_ltB] at *
  exact ltB_trans h1 h2
theorem lx_asym {a b : List Nat} (h1 : a < b) : ¬ b < a := fun h2 => lx_irr a (lx_trans h1 h2)
theorem lx_tri {a b : List Nat} (h1 : ¬ a < b) (hne : a ≠ b) : b < a := by
  rw [lt_ltB] at *
  cases h : ltB b a with
  | true => rfl
  | false => exact absurd (ltB_tri (by simpa using h1) h) hne
section
variable {α : Type} {key : α → List Nat} {k : List Nat}
noncomputable def Srt (key : α → List Nat) (l : List α) : Prop := l.Pairwise fun a b => key a < key b
noncomputable def posP (key : α → List Nat) (k : List Nat) (l : List α) : Nat := l.countP fun a => decide (key a < k)
theorem ins_pos : ∀ {l : List α}, Srt key l → (∀ a ∈ l, key a ≠ k) → posP key k l ≤ l.length ∧ ∀ (i : Nat) (a : α), l[i]? = some a → ((k < key a ↔ posP key k l ≤ i) ∧ (key a < k ↔ i < posP key k l))
  | [], _, _ => ⟨Nat.le_refl _, fun i a e => by simp at e⟩
  | a :: r, h, hne => by
    obtain ⟨h1, h2⟩ := List.pairwise_cons.mp h
    obtain ⟨i1, i2⟩ := ins_pos (l := r) h2 fun b hb => hne b (.tail _ hb)
    by_cases hlt : key a < k
    · have e : posP key k (a :: r) = posP key k r + 1 := by
        unfold posP
        rw [List.countP_cons_of_pos (by simpa using hlt)]
      rw [e]
      refine ⟨Nat.succ_le_succ i1, fun i b hb => ?_⟩
      cases i with
      | zero =>
        have : a = b := by simpa using hb
        subst this
        exact ⟨⟨fun h => absurd h (lx_asym hlt), fun h => absurd h (by lia)⟩, ⟨fun _ => Nat.succ_pos _, fun _ => hlt⟩⟩
      | succ i =>
        obtain ⟨j1, j2⟩ := i2 i b (by simpa using hb)
        exact ⟨j1.trans (by lia), j2.trans (by lia)⟩
    · have hk : k < key a := lx_tri hlt (hne a (.head _))
      have hall : ∀ b ∈ r, k < key b := fun b hb => lx_trans hk (h1 b hb)
      have e : posP key k (a :: r) = 0 := by
        unfold posP
        rw [List.countP_cons_of_neg (by simpa using hlt)]
        exact List.countP_eq_zero.mpr fun b hb => by simpa using lx_asym (hall b hb)
      rw [e]
      refine ⟨Nat.zero_le _, fun i b hb => ?_⟩
      have hb' : k < key b := by
        cases i with
        | zero =>
          have : a = b := by simpa using hb
          exact this ▸ hk
        | succ i => exact hall b (List.mem_of_getElem? (by simpa using hb))
      exact ⟨⟨fun _ => Nat.zero_le _, fun _ => hb'⟩, ⟨fun h => absurd h (lx_asym hb'), fun h => absurd h (Nat.not_lt_zero _)⟩⟩
theorem ins_srt {l : List α} {a : α} (h : Srt key l) (hne : ∀ b ∈ l, key b ≠ key a) : Srt key (insAt (posP key (key a) l) a l) ∧ (insAt (posP key (key a) l) a l).Perm (a :: l) := by
  obtain ⟨h1, h2⟩ := ins_pos h hne
  generalize posP key (key a) l = p at h1 h2
  have ht : ∀ x ∈ l.take p, key x < key a := fun x hx => by
    obtain ⟨i, hi⟩ := List.mem_iff_getElem?.mp hx
    rw [List.getElem?_take] at hi
    by_cases hip : i < p
    · rw [if_pos hip] at hi
      exact (h2 i x hi).2.mpr hip
    · rw [if_neg hip] at hi; cases hi
  have hd : ∀ x ∈ l.drop p, key a < key x := fun x hx => by
    obtain ⟨i, hi⟩ := List.mem_iff_getElem?.mp hx
    rw [List.getElem?_drop] at hi
    exact (h2 _ x hi).1.mpr (Nat.le_add_right _ _)
  unfold insAt
  refine ⟨?_, ?_⟩
  · have h' := h
    unfold Srt at h' ⊢
    rw [← List.take_append_drop p l, List.pairwise_append] at h'
    refine List.pairwise_append.mpr ⟨h'.1, List.pairwise_cons.mpr ⟨fun b hb => hd b hb, h'.2.1⟩, fun x hx y hy => ?_⟩
    rcases List.mem_cons.mp hy with rfl | hy
    · exact ht x hx
    · exact h'.2.2 x hx y hy
  · refine List.perm_middle.trans ?_
    rw [List.take_append_drop]
theorem srt_count : ∀ {l : List α}, Srt key l → ∀ (q : Nat) (a : α), l[q]? = some a → l.countP (fun b => decide (key b < key a)) = q
  | [], _, q, a, e => by simp at e
  | b :: r, h, q, a, e => by
    obtain ⟨h1, h2⟩ := List.pairwise_cons.mp h
    cases q with
    | zero =>
      have : b = a := by simpa using e
      subst this
      rw [List.countP_cons_of_neg (by simpa using lx_irr _)]
      exact List.countP_eq_zero.mpr fun c hc => by simpa using lx_asym (h1 c hc)
    | succ q =>
      have e' : r[q]? = some a := by simpa using e
      rw [List.countP_cons_of_pos (by simpa using h1 a (List.mem_of_getElem? e')), srt_count h2 q a e']
end
noncomputable def plc (n k : Nat) : Nat := ((n / 4) % 5 + k * (1 + n % 4)) % 5
theorem plc_perm (n : Nat) : ((List.range 5).map (plc n)).Perm (List.range 5) := by
  unfold plc
  have h1 : (n / 4) % 5 < 5 := Nat.mod_lt _ (by decide)
  have h2 : n % 4 < 4 := Nat.mod_lt _ (by decide)
  generalize (n / 4) % 5 = a at h1
  generalize n % 4 = b at h2
  have : ∀ a, a < 5 → ∀ b, b < 4 → ((List.range 5).map fun k => (a + k * (1 + b)) % 5).Perm (List.range 5) := by decide
  exact this a h1 b h2
theorem plc_new (n i : Nat) (hi : i < 5) : plc n i ∉ (List.range i).map (plc n) := by
  unfold plc
  have h1 : (n / 4) % 5 < 5 := Nat.mod_lt _ (by decide)
  have h2 : n % 4 < 4 := Nat.mod_lt _ (by decide)
  generalize (n / 4) % 5 = a at h1
  generalize n % 4 = b at h2
  have : ∀ i, i < 5 → ∀ a, a < 5 → ∀ b, b < 4 → (a + i * (1 + b)) % 5 ∉ (List.range i).map fun k => (a + k * (1 + b)) % 5 := by decide
  exact this i hi a h1 b h2
theorem plc_lt (n k : Nat) : plc n k < 5 := Nat.mod_lt _ (by decide)
theorem plc_int (n k : Nat) : ((n : Int).fdiv 4 + (0 + (k : Int)) * (1 + (n : Int).fmod 4)).fmod 5 = (plc n k : Nat) := by
  have e1 : (n : Int).fdiv 4 = ((n / 4 : Nat) : Int) := by
    rw [Int.fdiv_eq_ediv_of_nonneg _ (by decide)]; lia
  have e2 : (n : Int).fmod 4 = ((n % 4 : Nat) : Int) := by
    rw [Int.fmod_eq_emod_of_nonneg _ (by decide)]; lia
  rw [e1, e2, Int.fmod_eq_emod_of_nonneg _ (by decide)]
  unfold plc
  have e3 : ((n / 4 : Nat) : Int) + (0 + (k : Int)) * (1 + ((n % 4 : Nat) : Int)) = ((n / 4 + k * (1 + n % 4) : Nat) : Int) := by
    rw [Int.natCast_add, Int.natCast_mul, Int.natCast_add]
    simp
  rw [e3]
  have e4 : (n / 4 % 5 + k * (1 + n % 4)) % 5 = (n / 4 + k * (1 + n % 4)) % 5 := by rw [Nat.add_mod, Nat.mod_mod, ← Nat.add_mod]
  rw [e4]
  lia
noncomputable abbrev restOf (x : Str) (j : Nat) : Str := Txt.slice x (some (j : Int)) none
theorem rest_cps {x : Str} {j : Nat} (h : j ≤ x.length) : (restOf x j).cps.toList = x.cps.toList.drop j := by
  have hl : x.cps.toList.length = x.length := by rw [Array.length_toList]; rfl
  have e : PySem.Builtin.Str.strSliceIndices (some (j : Int)) none 1 x.length = PySem.Builtin.Str.strSliceIndices (some (j : Int)) (some (x.length : Int)) 1 x.length := by
    unfold PySem.Builtin.Str.strSliceIndices
    have hn : ¬ ((x.length : Int) < 0) := Int.not_lt.mpr (Int.natCast_nonneg _)
    simp only [if_neg hn, show (1 : Int) > 0 by decide, if_true, Int.min_self, show max 0 (x.length : Int) = x.length from Int.max_eq_right (Int.natCast_nonneg _)]
  have e2 : restOf x j = Txt.slice x (some (j : Int)) (some (x.length : Int)) := by
    unfold restOf Txt.slice
    rw [e]
  have := slice_closesL (x := x) (i := (j : Int)) (j := (x.length : Int)) (by lia) (by lia) (by lia)
  rw [e2, eq_of_beq this, show (j : Int).toNat = j from rfl]
  show (x.cps.toList.drop j).take _ = _
  rw [List.take_of_length_le (by rw [List.length_drop, hl]; lia)]
noncomputable abbrev kp1 (x : Str) (j : Nat) : List Nat := x.cps.toList.drop j
noncomputable abbrev kp2 (x : Str) (j : Nat) : List Nat := escL (x.cps.toList.drop j)
theorem kp1_ne {x : Str} (hx : x.length = 5) {a b : Nat} (ha : a < 5) (hb : b < 5) (h : a ≠ b) : kp1 x a ≠ kp1 x b := fun e => by
  have := congrArg List.length e
  rw [List.length_drop, List.length_drop, ← len_codes, hx] at this
  exact sub5 ha hb h this
theorem kp2_lt {x : Str} (hx : x.length = 5) {a b : Nat} (hb : b < 5) (h : a < b) : (kp2 x b).length < (kp2 x a).length := by
  have e : x.cps.toList.drop a = (x.cps.toList.drop a).take (b - a) ++ x.cps.toList.drop b := by
    have := List.take_append_drop (b - a) (x.cps.toList.drop a)
    rw [List.drop_drop, show a + (b - a) = b from Nat.add_sub_of_le (Nat.le_of_lt h)] at this
    exact this.symm
  unfold kp2
  rw [e, escL_append, List.length_append]
  have h1 := escL_len ((x.cps.toList.drop a).take (b - a))
  rw [List.length_take, List.length_drop, ← len_codes, hx] at h1
  exact Nat.lt_add_of_pos_left (Nat.lt_of_lt_of_le (Nat.lt_min.mpr ⟨Nat.sub_pos_of_lt h, Nat.sub_pos_of_lt (Nat.lt_trans h hb)⟩) h1)
theorem kp2_ne {x : Str} (hx : x.length = 5) {a b : Nat} (ha : a < 5) (hb : b < 5) (h : a ≠ b) : kp2 x a ≠ kp2 x b := fun e => by
  have e' := congrArg List.length e
  rcases Nat.lt_or_gt_of_ne h with h | h
  · have := kp2_lt hx hb h; lia
  · have := kp2_lt hx ha h; lia
noncomputable def PIr (x : Str) (n : Nat) (i : Nat) (xsN xsP : List Str) : Prop :=
  ∃ lN lP : List Nat, xsN = lN.map (restOf x) ∧ xsP = lP.map (restOf x) ∧ Srt (kp1 x) lN ∧ Srt (kp2 x) lP ∧ lN.Perm ((List.range i).map (plc n)) ∧ lP.Perm ((List.range i).map (plc n))
theorem map_insAt {α β : Type} (f : α → β) (p : Nat) (a : α) (l : List α) : (insAt p a l).map f = insAt p (f a) (l.map f) := by
  unfold insAt
  rw [List.map_append, List.map_cons, List.map_take, List.map_drop]
theorem pir_len {x : Str} (hx : x.length = 5) {n : Nat} : ∀ i xsN xsP, PIr x n i xsN xsP → xsN.length = i ∧ xsP.length = i ∧ (∀ y ∈ xsP, y.length ≤ 5) ∧ ∀ y ∈ xsN, y.length ≤ 5 := by
  rintro i xsN xsP ⟨lN, lP, rfl, rfl, _, _, h1, h2⟩
  have hl : ∀ l : List Nat, l.Perm ((List.range i).map (plc n)) → ∀ y ∈ l.map (restOf x), y.length ≤ 5 := fun l h y hy => by
    obtain ⟨j, hj, rfl⟩ := List.mem_map.mp hy
    obtain ⟨k, _, rfl⟩ := List.mem_map.mp (h.mem_iff.mp hj)
    have := plc_lt n k
    rw [len_codes, rest_cps (by lia), List.length_drop, ← len_codes]
    lia
  refine ⟨?_, ?_, hl _ h2, hl _ h1⟩
  · rw [List.length_map, h1.length_eq, List.length_map, List.length_range]
  · rw [List.length_map, h2.length_eq, List.length_map, List.length_range]
theorem escS_cps (x : Str) : (escS x).cps.toList = escL x.cps.toList := rfl
theorem pir_step {x : Str} (hx : x.length = 5) {n : Nat} (i : Nat) (xsN xsP : List Str) (j : Nat) (hi : i < 5) (h : PIr x n i xsN xsP) (hj : ((n : Int).fdiv 4 + (0 + (i : Int)) * (1 + (n : Int).fmod 4)).fmod 5 = j) (hj5 : j < 5) : ∃ p q, p ≤ xsN.length ∧ q ≤ xsP.length ∧
      (∀ (k : Nat) (z : Str), xsN[k]? = some z → ((Txt.slice x (some j) none).cps.toList < z.cps.toList ↔ p ≤ k)) ∧
      (∀ (k : Nat) (z : Str), xsN[k]? = some z → (z.cps.toList < (Txt.slice x (some j) none).cps.toList ↔ k < p)) ∧
      (∀ (k : Nat) (z : Str), xsP[k]? = some z → ((escS (Txt.slice x (some j) none)).cps.toList < (escS z).cps.toList ↔ q ≤ k)) ∧
      (Txt.slice x (some j) none).length ≤ 5 ∧ PIr x n (i + 1) (insAt p (Txt.slice x (some j) none) xsN) (insAt q (Txt.slice x (some j) none) xsP) := by
  obtain ⟨lN, lP, rfl, rfl, sN, sP, pN, pP⟩ := h
  have hjp : j = plc n i := by rw [plc_int] at hj; lia
  have hnew := plc_new n i hi
  rw [← hjp] at hnew
  have hmem : ∀ {l : List Nat}, l.Perm ((List.range i).map (plc n)) → ∀ b ∈ l, b < 5 ∧ b ≠ j := fun {l} h b hb => by
    have hb' := h.mem_iff.mp hb
    obtain ⟨k, _, e⟩ := List.mem_map.mp hb'
    exact ⟨by rw [← e]; exact plc_lt n k, fun e2 => hnew (e2 ▸ hb')⟩
  have nN : ∀ b ∈ lN, kp1 x b ≠ kp1 x j := fun b hb => kp1_ne hx (hmem pN b hb).1 hj5 (hmem pN b hb).2
  have nP : ∀ b ∈ lP, kp2 x b ≠ kp2 x j := fun b hb => kp2_ne hx (hmem pP b hb).1 hj5 (hmem pP b hb).2
  obtain ⟨a1, a2⟩ := ins_pos (k := kp1 x j) sN nN
  obtain ⟨b1, b2⟩ := ins_pos (k := kp2 x j) sP nP
  obtain ⟨a3, a4⟩ := ins_srt sN nN
  obtain ⟨b3, b4⟩ := ins_srt sP nP
  have hc : ∀ {l : List Nat}, (∀ b ∈ l, b < 5 ∧ b ≠ j) → ∀ (k : Nat) (z : Str), (l.map (restOf x))[k]? = some z → ∃ b, l[k]? = some b ∧ z = restOf x b ∧ z.cps.toList = kp1 x b := fun {l} hl k z e => by
    rw [List.getElem?_map] at e
    obtain ⟨b, hb, rfl⟩ := Option.map_eq_some_iff.mp e
    exact ⟨b, hb, rfl, rest_cps (by have := (hl b (List.mem_of_getElem? hb)).1; lia)⟩
  have hrj : (restOf x j).cps.toList = kp1 x j := rest_cps (by lia)
  have hpm : ∀ {l : List Nat} (_ : l.Perm ((List.range i).map (plc n))), (j :: l).Perm ((List.range (i + 1)).map (plc n)) := fun {l} h => by
    rw [List.range_succ, List.map_append, hjp]
    exact (h.cons _).trans (List.perm_append_singleton _ _).symm
  refine ⟨posP (kp1 x) (kp1 x j) lN, posP (kp2 x) (kp2 x j) lP, by rw [List.length_map]; exact a1, by rw [List.length_map]; exact b1, fun k z e => ?_, fun k z e => ?_, fun k z e => ?_, ?_, ?_⟩
  · obtain ⟨b, hb, _, hz⟩ := hc (hmem pN) k z e
    rw [hz, hrj]
    exact (a2 k b hb).1
  · obtain ⟨b, hb, _, hz⟩ := hc (hmem pN) k z e
    rw [hz, hrj]
    exact (a2 k b hb).2
  · obtain ⟨b, hb, _, hz⟩ := hc (hmem pP) k z e
    rw [escS_cps, escS_cps, hz, hrj]
    exact (b2 k b hb).1
  · rw [len_codes, hrj, List.length_drop, ← len_codes]; lia
  · exact ⟨_, _, (map_insAt ..).symm, (map_insAt ..).symm, a3, b3, a4.trans (hpm pN), b4.trans (hpm pP)⟩
theorem pir0 (x : Str) (n : Nat) : PIr x n 0 [] [] := ⟨[], [], rfl, rfl, .nil, .nil, .nil, .nil⟩
theorem srt_rk {x : Str} (hx : x.length = 5) {key : Nat → List Nat} {l : List Nat} (hs : Srt key l) (hp : l.Perm (List.range 5)) : RkIs (l.map (restOf x)) fun i => (List.range 5).countP fun j => decide (key j < key i) := fun i hi => by
  have hm : ∀ {b}, b ∈ l → b < 5 := fun {b} hb => List.mem_range.mp (hp.mem_iff.mp hb)
  have hlen : ∀ {b}, b ∈ l → (restOf x b).length = 5 - b := fun {b} hb => by
    have := hm hb
    rw [len_codes, rest_cps (by lia), List.length_drop, ← len_codes, hx]
  obtain ⟨q, hq⟩ := List.mem_iff_getElem?.mp (hp.mem_iff.mpr (List.mem_range.mpr hi))
  have hc := srt_count hs q i hq
  rw [hp.countP_eq] at hc
  dsimp only
  rw [hc]
  refine ⟨restOf x i, by rw [List.getElem?_map, hq]; rfl, hlen (List.mem_of_getElem? hq), fun j hj y hy => ?_⟩
  rw [List.getElem?_map] at hy
  obtain ⟨b, hb, rfl⟩ := Option.map_eq_some_iff.mp hy
  have hbm := List.mem_of_getElem? hb
  rw [hlen hbm]
  have := hm hbm
  have hne : b ≠ i := fun e => by
    have h1 := srt_count hs j b hb
    rw [e, hp.countP_eq] at h1
    lia
  first | exact fun e => sub5 this hi hne e | lia
theorem pir_rk {x : Str} (hx : x.length = 5) {n : Nat} {xsN xsP : List Str} (h : PIr x n 5 xsN xsP) : RkIs xsN (fun i => (List.range 5).countP fun j => decide (kp1 x j < kp1 x i)) ∧ RkIs xsP (fun i => (List.range 5).countP fun j => decide (kp2 x j < kp2 x i)) := by
  obtain ⟨lN, lP, rfl, rfl, sN, sP, pN, pP⟩ := h
  exact ⟨srt_rk hx sN (pN.trans (plc_perm n)), srt_rk hx sP (pP.trans (plc_perm n))⟩
end Mine
end
section
open PySem PySem.W PyProof.Rows
namespace Mine
set_option maxRecDepth 20000
/-! the plain law's end: the two orders, a page's symbols and its sum -/
noncomputable def swp : Nat → Nat
  | 2 => 3
  | 3 => 2
  | c => c
theorem swp_lt {c : Nat} (h : c < 4) : swp c < 4 := by
  rcases (by lia : c = 0 ∨ c = 1 ∨ c = 2 ∨ c = 3) with rfl | rfl | rfl | rfl <;> decide
theorem swp_swp {c : Nat} (h : c < 4) : swp (swp c) = c := by
  rcases (by lia : c = 0 ∨ c = 1 ∨ c = 2 ∨ c = 3) with rfl | rfl | rfl | rfl <;> decide
theorem ltB_nil (b : List Nat) : ltB [] b = !b.isEmpty := by cases b <;> rfl
theorem ltB_nil2 (b : List Nat) : ltB b [] = false := by cases b <;> rfl
theorem ord1 : ∀ {a b : List Nat}, (∀ c ∈ a, c < 4) → (∀ c ∈ b, c < 4) → ltB (a.map sgV) (b.map sgV) = ltB a b
  | [], b, _, _ => by rw [List.map_nil, ltB_nil, ltB_nil]; cases b <;> rfl
  | _ :: _, [], _, _ => by rw [List.map_nil, ltB_nil2, ltB_nil2]
  | a :: r, b :: s, h1, h2 => by
    have ih := ord1 (a := r) (b := s) (fun c hc => h1 c (.tail _ hc)) fun c hc => h2 c (.tail _ hc)
    have ha := h1 a (.head _)
    have hb := h2 b (.head _)
    rw [List.map_cons, List.map_cons, ltB_cons, ltB_cons, ih]
    rcases (by lia : a = 0 ∨ a = 1 ∨ a = 2 ∨ a = 3) with rfl | rfl | rfl | rfl <;>
    rcases (by lia : b = 0 ∨ b = 1 ∨ b = 2 ∨ b = 3) with rfl | rfl | rfl | rfl <;> rfl
theorem escL_cons (a : Nat) (r : List Nat) : escL (a :: r) = escC a ++ escL r := by unfold escL; rw [List.flatMap_cons]
theorem esc0 : escC (sgV 0) = [38, 35, 120, 68, 59] := rfl
theorem esc1 : escC (sgV 1) = [38, 97, 109, 112, 59] := rfl
theorem esc2 : escC (sgV 2) = [38, 108, 116, 59] := rfl
theorem esc3 : escC (sgV 3) = [38, 103, 116, 59] := rfl
theorem ord2 : ∀ {a b : List Nat}, (∀ c ∈ a, c < 4) → (∀ c ∈ b, c < 4) → ltB (escL (a.map sgV)) (escL (b.map sgV)) = ltB (a.map swp) (b.map swp)
  | [], [], _, _ => rfl
  | [], b :: s, _, h2 => by
    have hb := h2 b (.head _)
    rw [List.map_cons, List.map_cons, escL_cons]
    rcases (by lia : b = 0 ∨ b = 1 ∨ b = 2 ∨ b = 3) with rfl | rfl | rfl | rfl <;> rfl
  | a :: r, [], _, _ => by
    rw [List.map_nil, List.map_nil, ltB_nil2]
    exact ltB_nil2 _
  | a :: r, b :: s, h1, h2 => by
    have ih := ord2 (a := r) (b := s) (fun c hc => h1 c (.tail _ hc)) fun c hc => h2 c (.tail _ hc)
    have ha := h1 a (.head _)
    have hb := h2 b (.head _)
    rw [List.map_cons, List.map_cons, List.map_cons, List.map_cons, escL_cons, escL_cons]
    rcases (by lia : a = 0 ∨ a = 1 ∨ a = 2 ∨ a = 3) with rfl | rfl | rfl | rfl <;>
    rcases (by lia : b = 0 ∨ b = 1 ∨ b = 2 ∨ b = 3) with rfl | rfl | rfl | rfl <;>
    first | rfl | exact ih | simp [esc0, esc1, esc2, esc3, swp, ltB_cons, ih]
theorem countB_eq (f : Nat → Bool) : ∀ n, countB f n = (List.range n).countP fun j => f j
  | 0 => rfl
  | n + 1 => by
    ((first | rewrite [countB_q0] | rewrite [countB_q1]); rewrite [List.range_succ, List.countP_append, countB_eq f n]; (try with_reducible rfl))
    cases h : f n <;> simp [h]
theorem rkIs_congr {xs : List Str} {r1 r2 : Nat → Nat} (h : RkIs xs r1) (e : ∀ i, i < 5 → r1 i = r2 i) : RkIs xs r2 := fun i hi => by
  rw [← e i hi]; exact h i hi
theorem drop_lt {u : List Nat} (h : ∀ c ∈ u, c < 4) (j : Nat) : ∀ c ∈ u.drop j, c < 4 := fun c hc => h c (List.mem_of_mem_drop hc)
theorem rk1 {x : Str} {u : List Nat} (hu : x.cps.toList = u.map sgV) (h4 : ∀ c ∈ u, c < 4) (i : Nat) : ((List.range 5).countP fun j => decide (kp1 x j < kp1 x i)) = rkC u i := by
  unfold rkC
  rw [countB_eq]
  refine List.countP_congr fun j _ => ?_
  unfold kp1
  rw [hu, ← List.map_drop, ← List.map_drop, decide_eq_true_iff, lt_ltB, ord1 (drop_lt h4 j) (drop_lt h4 i)]
theorem rk2 {x : Str} {u : List Nat} (hu : x.cps.toList = u.map sgV) (h4 : ∀ c ∈ u, c < 4) (i : Nat) : ((List.range 5).countP fun j => decide (kp2 x j < kp2 x i)) = rkC (u.map swp) i := by
  unfold rkC
  rw [countB_eq]
  refine List.countP_congr fun j _ => ?_
  unfold kp2
  rw [hu, ← List.map_drop, ← List.map_drop, decide_eq_true_iff, lt_ltB, ord2 (drop_lt h4 j) (drop_lt h4 i), List.map_drop, List.map_drop]
/-! the symbols -/
noncomputable def symT (kk : Nat → Nat) : Tr → List Nat
  | .leaf c => [253, 258 + kk c, 247]
  | .node l r => [254, 256, 255] ++ symT kk l ++ symT kk r ++ [254, 251, 256, 255]
theorem symT_q0 (kk : Nat → Nat) (c : Nat) : symT kk (.leaf c) = [253, 258 + kk c, 247] := rfl
theorem symT_q1 (kk : Nat → Nat) (l r : Tr) : symT kk (.node l r) = [254, 256, 255] ++ symT kk l ++ symT kk r ++ [254, 251, 256, 255] := rfl
noncomputable abbrev fK (kk : Nat → Nat) (c : Nat) : List Nat := escC (sgV (kk c))
noncomputable def Hd (l : List Nat) : Prop := ∃ d r, l = d :: r ∧ (d = 60 ∨ d = 38)
theorem sz_gt {l : List Nat} (h : Hd l) : szL (62 :: l) = 1 := by
  obtain ⟨d, r, rfl, rfl | rfl⟩ := h <;> cases r <;> rfl
theorem sz_semi {l : List Nat} (h : Hd l) : szL (59 :: l) = 1 := by
  obtain ⟨d, r, rfl, rfl | rfl⟩ := h <;> cases r <;> rfl
theorem lex_gt {l ys : List Nat} (h : Hd l) (hl : Lex l ys) : Lex (62 :: l) (255 :: ys) := .sign (s := 1) (sz_gt h) (by decide) (List.cons_ne_nil _ _) rfl hl
theorem lex_semi {l ys : List Nat} (h : Hd l) (hl : Lex l ys) : Lex (59 :: l) (247 :: ys) := .sign (s := 1) (sz_semi h) (by decide) (List.cons_ne_nil _ _) rfl hl
theorem lex_b {l ys : List Nat} (h : Hd l) (hl : Lex l ys) : Lex (98 :: 62 :: l) (256 :: 255 :: ys) := by
  refine .name (s := 1) (k := 0) ?_ (by simp) (fun j hj => ?_) rfl (by decide) rfl (by decide) (lex_gt h hl)
  · obtain ⟨d, r, rfl, rfl | rfl⟩ := h <;> rfl
  · obtain rfl : j = 0 := by lia
    rfl
theorem hd_rn {kk : Nat → Nat} (hk : ∀ c, c < 4 → kk c < 4) : ∀ (t : Tr) (l : List Nat), (∀ c ∈ fol t, c < 4) → Hd (rn (fK kk) t ++ l)
  | .leaf c, l, h => by
    have := hk c (h c (.head _))
    ((first | rewrite [rn_q0] | rewrite [rn_q1]); (try with_reducible rfl))
    unfold fK
    rcases (by lia : kk c = 0 ∨ kk c = 1 ∨ kk c = 2 ∨ kk c = 3) with e | e | e | e <;> rw [e] <;> exact ⟨38, _, rfl, .inr rfl⟩
  | .node a b, l, h => by
    ((first | rewrite [rn_q0] | rewrite [rn_q1]); rewrite [show (Str.ofString "<" ++ Str.ofString "b").cps.toList = [60, 98] from by decide +kernel]; (try with_reducible rfl))
    simp only [List.append_assoc, List.cons_append]
    exact ⟨60, _, rfl, .inl rfl⟩
theorem lex_tree {kk : Nat → Nat} (hk : ∀ c, c < 4 → kk c < 4) : ∀ (t : Tr) (l ys : List Nat), (∀ c ∈ fol t, c < 4) → Hd l → Lex l ys → Lex (rn (fK kk) t ++ l) (symT kk t ++ ys)
  | .leaf c, l, ys, h, hl, hx => by
    have hc := hk c (h c (.head _))
    ((first | rewrite [rn_q0] | rewrite [rn_q1]); (first | rewrite [symT_q0] | rewrite [symT_q1]); (try with_reducible rfl))
    unfold fK
    have hsemi := lex_semi hl hx
    rcases (by lia : kk c = 0 ∨ kk c = 1 ∨ kk c = 2 ∨ kk c = 3) with e | e | e | e <;> rw [e]
    · exact .sign (s := 1) (n := 253) rfl (by decide) (List.cons_ne_nil _ _) rfl (.name (s := 3) (k := 2) rfl (by simp [esc0]) (fun j hj => by rcases (by lia : j = 0 ∨ j = 1 ∨ j = 2) with rfl | rfl | rfl <;> rfl) rfl (by decide) rfl (by decide) hsemi)
    · exact .sign (s := 1) (n := 253) rfl (by decide) (List.cons_ne_nil _ _) rfl (.name (s := 3) (k := 3) rfl (by simp [esc1]) (fun j hj => by rcases (by lia : j = 0 ∨ j = 1 ∨ j = 2) with rfl | rfl | rfl <;> rfl) rfl (by decide) rfl (by decide) hsemi)
    · exact .sign (s := 1) (n := 253) rfl (by decide) (List.cons_ne_nil _ _) rfl (.name (s := 2) (k := 4) rfl (by simp [esc2]) (fun j hj => by rcases (by lia : j = 0 ∨ j = 1) with rfl | rfl <;> rfl) rfl (by decide) rfl (by decide) hsemi)
    · exact .sign (s := 1) (n := 253) rfl (by decide) (List.cons_ne_nil _ _) rfl (.name (s := 2) (k := 5) rfl (by simp [esc3]) (fun j hj => by rcases (by lia : j = 0 ∨ j = 1) with rfl | rfl <;> rfl) rfl (by decide) rfl (by decide) hsemi)
  | .node a b, l, ys, h, hl, hx => by
    have ha : ∀ c ∈ fol a, c < 4 := fun c hc => h c (List.mem_append_left _ hc)
    have hb : ∀ c ∈ fol b, c < 4 := fun c hc => h c (List.mem_append_right _ hc)
    ((first | rewrite [rn_q0] | rewrite [rn_q1]); (first | rewrite [symT_q0] | rewrite [symT_q1]); rewrite [show (Str.ofString "<" ++ Str.ofString "b").cps.toList = [60, 98] from by decide +kernel, show (Str.ofString ">").cps.toList = [62] from by decide +kernel, show (Str.ofString "</" ++ Str.ofString "b" ++ Str.ofString ">").cps.toList = [60, 47, 98, 62] from by decide +kernel]; (try with_reducible rfl))
    simp only [List.append_assoc, List.cons_append, List.nil_append]
    have h1 : Lex (60 :: 47 :: 98 :: 62 :: l) (254 :: 251 :: 256 :: 255 :: ys) :=
      .sign (s := 1) rfl (by decide) (List.cons_ne_nil _ _) rfl (.sign (s := 1) rfl (by decide) (List.cons_ne_nil _ _) rfl (lex_b hl hx))
    have hd1 : Hd (60 :: 47 :: 98 :: 62 :: l) := ⟨60, _, rfl, .inl rfl⟩
    have h2 := lex_tree hk b _ _ hb hd1 h1
    have h3 := lex_tree hk a _ _ ha (hd_rn hk b _ hb) h2
    exact .sign (s := 1) rfl (by decide) (List.cons_ne_nil _ _) rfl (lex_b (hd_rn hk a _ ha) h3)
theorem lex_trees {kk : Nat → Nat} (hk : ∀ c, c < 4 → kk c < 4) : ∀ (ts : List Tr) (l ys : List Nat), (∀ t ∈ ts, ∀ c ∈ fol t, c < 4) → Hd l → Lex l ys → Lex (ts.flatMap (rn (fK kk)) ++ l) (ts.flatMap (symT kk) ++ ys) ∧ Hd (ts.flatMap (rn (fK kk)) ++ l)
  | [], l, ys, _, hl, hx => ⟨hx, hl⟩
  | t :: r, l, ys, h, hl, hx => by
    obtain ⟨h1, h2⟩ := lex_trees hk r l ys (fun t ht => h t (.tail _ ht)) hl hx
    rw [List.flatMap_cons, List.flatMap_cons, List.append_assoc, List.append_assoc]
    exact ⟨lex_tree hk t _ _ (h t (.head _)) h2 h1, hd_rn hk t _ (h t (.head _))⟩
noncomputable def symP (kk : Nat → Nat) (ts : List Tr) : List Nat := [254, 257, 255] ++ ts.flatMap (symT kk) ++ [254, 251, 257, 255]
theorem lex_page {kk : Nat → Nat} (hk : ∀ c, c < 4 → kk c < 4) (ts : List Tr) (h : ∀ t ∈ ts, ∀ c ∈ fol t, c < 4) : Lex ([60, 114, 62] ++ ts.flatMap (rn (fK kk)) ++ [60, 47, 114, 62]) (symP kk ts) := by
  unfold symP
  simp only [List.append_assoc, List.cons_append, List.nil_append]
  have h1 : Lex [60, 47, 114, 62] [254, 251, 257, 255] :=
    .sign (s := 1) rfl (by decide) (List.cons_ne_nil _ _) rfl (.sign (s := 1) rfl (by decide) (List.cons_ne_nil _ _) rfl (.name (s := 1) (k := 1) rfl (by decide) (fun j hj => by obtain rfl : j = 0 := by lia
                                                                                                                                                                                  rfl) rfl (by decide) rfl (by decide) (.sign (s := 3) rfl (by decide) (List.cons_ne_nil _ _) rfl .nil)))
  obtain ⟨h2, h3⟩ := lex_trees hk ts _ _ h ⟨60, _, rfl, .inl rfl⟩ h1
  refine .sign (s := 1) rfl (by decide) (List.cons_ne_nil _ _) rfl (.name (s := 1) (k := 1) ?_ (by simp) (fun j hj => by obtain rfl : j = 0 := by lia
                                                                                                                         rfl) rfl (by decide) rfl (by decide) (lex_gt h3 h2))
  obtain ⟨d, r, e, hd⟩ := h3
  rw [e]
  rcases hd with rfl | rfl <;> rfl
/-! the sum -/
noncomputable def NLen (t : Tr) : Nat := (fol t).length
theorem NLen_pos : ∀ t : Tr, 1 ≤ NLen t
  | .leaf _ => Nat.le_refl _
  | .node a b => by have := NLen_pos a; unfold NLen at *; ((first | rewrite [fol_q0] | rewrite [fol_q1]); rewrite [List.length_append]; (try with_reducible rfl)); lia
noncomputable def Meas (P : Poly) (a n : Nat) : Prop := P.length ≤ 2 ^ a ∧ nrm P ≤ 2 ^ a ∧ ∀ k ∈ keysP P, k.length = n
theorem meas_mul {P Q : Poly} {a b n m : Nat} (hP : Meas P a n) (hQ : Meas Q b m) : Meas (timesP [] Q 1 P) (a + b) (n + m) := by
  obtain ⟨p1, p2, p3⟩ := hP
  obtain ⟨q1, q2, q3⟩ := hQ
  obtain ⟨h1, h2⟩ := timesP_sz Q 1 (by decide) P []
  obtain ⟨_, _, h3⟩ := timesP_ok one1 Q 1 P [] List.nodup_nil
  refine ⟨?_, ?_, fun k hk => ?_⟩
  · rw [Nat.pow_add]; exact Nat.le_trans (by simpa using h1) (Nat.mul_le_mul p1 q1)
  · rw [Nat.pow_add]; exact Nat.le_trans (by simpa [nrm_q0, nrm_q1] using h2) (Nat.mul_le_mul p2 q2)
  · rcases (h3 k).mp hk with hk | ⟨x, hx, y, hy, rfl⟩
    · simp [keysP] at hk
    · rw [List.length_append, p3 x hx, q3 y hy]
theorem meas_knot {P Q : Poly} {a b n m : Nat} (hP : Meas P a n) (hQ : Meas Q b m) : Meas (timesP (timesP [] Q 1 P) P (-1) Q) (a + b + 1) (n + m) := by
  obtain ⟨r1, r2, r3⟩ := meas_mul hP hQ
  obtain ⟨p1, p2, p3⟩ := hP
  obtain ⟨q1, q2, q3⟩ := hQ
  obtain ⟨g1, _, _⟩ := timesP_ok one1 Q 1 P [] List.nodup_nil
  obtain ⟨h1, h2⟩ := timesP_sz P (-1) (by decide) Q (timesP [] Q 1 P)
  obtain ⟨_, _, h3⟩ := timesP_ok one1 P (-1) Q (timesP [] Q 1 P) g1
  have e : 2 ^ (a + b + 1) = 2 ^ (a + b) + 2 ^ b * 2 ^ a := by rw [Nat.pow_succ, Nat.pow_add, Nat.mul_comm (2 ^ b)]; lia
  refine ⟨?_, ?_, fun k hk => ?_⟩
  · rw [e]; exact Nat.le_trans h1 (Nat.add_le_add r1 (Nat.mul_le_mul q1 p1))
  · rw [e]; exact Nat.le_trans h2 (Nat.add_le_add r2 (Nat.mul_le_mul q2 p2))
  · rcases (h3 k).mp hk with hk | ⟨y, hy, x, hx, rfl⟩
    · exact r3 k hk
    · rw [List.length_append, p3 x hx, q3 y hy, Nat.add_comm]
theorem meas_tree (sg : Nat → Nat) : ∀ t : Tr, Meas (polyT sg t) (NLen t - 1) (NLen t)
  | .leaf c => ⟨by simp [polyT_q0, polyT_q1, NLen, fol_q0, fol_q1], by simp [polyT_q0, polyT_q1, nrm_q0, nrm_q1, NLen, fol_q0, fol_q1], fun k hk => by
      simp only [polyT_q0, polyT_q1, keysP, List.map_cons, List.map_nil, List.mem_singleton] at hk
      rw [hk]; rfl⟩
  | .node a b => by
    have h := meas_knot (meas_tree sg a) (meas_tree sg b)
    have ha := NLen_pos a
    have hb := NLen_pos b
    have e : NLen (.node a b) = NLen a + NLen b := by unfold NLen; ((first | rewrite [fol_q0] | rewrite [fol_q1]); rewrite [List.length_append]; (try with_reducible rfl))
    (rewrite [e]; (first | rewrite [polyT_q0] | rewrite [polyT_q1]); rewrite [show NLen a + NLen b - 1 = NLen a - 1 + (NLen b - 1) + 1 from pred2 ha hb]; (try with_reducible rfl))
    exact h
theorem pow_small : ∀ a : Nat, a ≤ 10 → 2 ^ a ≤ 1000000 := fun a h => Nat.le_trans (Nat.pow_le_pow_right (by decide) h) (by decide)
theorem fit_of {P Q : Poly} {a b n m : Nat} (hP : Meas P a n) (hQ : Meas Q b m) (hab : a + b ≤ 8) (hn : n ≤ 5) (hm : m ≤ 5) : Fit P Q := by
  obtain ⟨p1, p2, p3⟩ := hP
  obtain ⟨q1, q2, q3⟩ := hQ
  refine ⟨?_, Nat.le_trans p2 (pow_small a (by lia)), Nat.le_trans q2 (pow_small b (by lia)), fun x hx => by rw [p3 x hx]; exact hn, fun x hx => by rw [q3 x hx]; exact hm⟩
  have : P.length * Q.length ≤ 2 ^ (a + b) := by rw [Nat.pow_add]; exact Nat.mul_le_mul p1 q1
  exact Nat.le_trans this (Nat.le_trans (Nat.pow_le_pow_right (by decide) hab) (by decide))
noncomputable abbrev sK (kk : Nat → Nat) (c : Nat) : Nat := sgV (kk c)
theorem val_tree {kk : Nat → Nat} (hk : ∀ c, c < 4 → kk c < 4) : ∀ (t : Tr) (ys : List Nat) (st : List Poly) (W : Poly) (nm : Nat), (∀ c ∈ fol t, c < 4) → NLen t ≤ 5 → (∀ nm', Val ys (polyT (sK kk) t :: st) nm' false W) → Val (symT kk t ++ ys) st nm false W
  | .leaf c, ys, st, W, nm, h, _, hv => .skip (.inl (.inl rfl)) (.name (by lia) (.push (hk c (h c (.head _))) rfl (hv _)))
  | .node a b, ys, st, W, nm, h, hn, hv => by
    have ha : ∀ c ∈ fol a, c < 4 := fun c hc => h c (List.mem_append_left _ hc)
    have hb : ∀ c ∈ fol b, c < 4 := fun c hc => h c (List.mem_append_right _ hc)
    have e : NLen (.node a b) = NLen a + NLen b := by unfold NLen; ((first | rewrite [fol_q0] | rewrite [fol_q1]); rewrite [List.length_append]; (try with_reducible rfl))
    rw [e] at hn
    have ha1 := NLen_pos a
    have hb1 := NLen_pos b
    ((first | rewrite [symT_q0] | rewrite [symT_q1]); (try with_reducible rfl))
    simp only [List.append_assoc, List.cons_append, List.nil_append]
    refine .skip (.inl (.inr rfl)) (.name (by decide) (.skip (.inr ⟨rfl, rfl⟩) ?_))
    refine val_tree hk a _ _ _ _ ha (by lia) fun nm1 => ?_
    refine val_tree hk b _ _ _ _ hb (by lia) fun nm2 => ?_
    refine .skip (.inl (.inr rfl)) (.slash (.name (by decide) (.knot (fit_of (meas_tree _ a) (meas_tree _ b) (by first | exact Nat.le_trans (Nat.add_le_add (Nat.sub_le _ _) (Nat.sub_le _ _)) (Nat.le_trans hn (by decide)) | lia) (by first | exact Nat.le_trans (Nat.add_le_add (Nat.sub_le _ _) (Nat.sub_le _ _)) (Nat.le_trans hn (by decide)) | lia) (by first | exact Nat.le_trans (Nat.add_le_add (Nat.sub_le _ _) (Nat.sub_le _ _)) (Nat.le_trans hn (by decide)) | lia)) ?_)))
    exact hv 256
theorem val_trees {kk : Nat → Nat} (hk : ∀ c, c < 4 → kk c < 4) : ∀ (ts : List Tr) (ys : List Nat) (st : List Poly) (W : Poly) (nm : Nat), (∀ t ∈ ts, ∀ c ∈ fol t, c < 4) → (∀ t ∈ ts, NLen t ≤ 5) → (∀ nm', Val ys ((ts.map (polyT (sK kk))).reverse ++ st) nm' false W) → Val (ts.flatMap (symT kk) ++ ys) st nm false W
  | [], ys, st, W, nm, _, _, hv => hv nm
  | t :: r, ys, st, W, nm, h, hn, hv => by
    rw [List.flatMap_cons, List.append_assoc]
    refine val_tree hk t _ _ _ _ (h t (.head _)) (hn t (.head _)) fun nm1 => ?_
    refine val_trees hk r _ _ _ _ (fun t ht => h t (.tail _ ht)) (fun t ht => hn t (.tail _ ht)) fun nm2 => ?_
    have := hv nm2
    rw [List.map_cons, List.reverse_cons, List.append_assoc] at this
    exact this
theorem whl_trees (sg : Nat → Nat) : ∀ (ts : List Tr) (W : Poly) (a n : Nat), Meas W a n → n + (ts.map NLen).sum ≤ 5 → a ≤ n → Whl (ts.map (polyT sg)) W (wholeP sg W ts)
  | [], W, _, _, _, _, _ => .nil
  | t :: r, W, a, n, hW, hs, han => by
    have ht1 := NLen_pos t
    simp only [List.map_cons, List.sum_cons] at hs
    have hm := meas_tree sg t
    refine .cons (fit_of hW hm (by lia) (by lia) (by lia)) ?_
    exact whl_trees sg r _ (a + (NLen t - 1)) (n + NLen t) (meas_mul hW hm) (by lia) (by lia)
theorem val_page {kk : Nat → Nat} (hk : ∀ c, c < 4 → kk c < 4) (ts : List Tr) (h : ∀ t ∈ ts, ∀ c ∈ fol t, c < 4) (hs : (ts.map NLen).sum ≤ 5) : Val (symP kk ts) [] 0 false (wholeP (sK kk) [([], 1)] ts) := by
  unfold symP
  simp only [List.append_assoc, List.cons_append, List.nil_append]
  refine .skip (.inl (.inr rfl)) (.name (by decide) (.skip (.inr ⟨rfl, rfl⟩) ?_))
  have hle : ∀ {ts : List Tr}, (ts.map NLen).sum ≤ 5 → ∀ t ∈ ts, NLen t ≤ 5 := fun {ts} => by
    induction ts with
    | nil => intro _ t ht; nomatch ht
    | cons a r ih =>
      intro h t ht
      simp only [List.map_cons, List.sum_cons] at h
      rcases List.mem_cons.mp ht with rfl | ht
      · lia
      · exact ih (by lia) t ht
  refine val_trees hk ts _ _ _ _ h (hle hs) fun nm1 => ?_
  refine .skip (.inl (.inr rfl)) (.slash (.name (by decide) (.root (V := wholeP (sK kk) [([], 1)] ts) ?_ .done)))
  rw [List.append_nil, List.reverse_reverse]
  refine whl_trees _ ts _ 0 0 ⟨by simp, by simp [nrm_q0, nrm_q1], fun k hk => ?_⟩ (by lia) (Nat.le_refl _)
  simp only [keysP, List.map_cons, List.map_nil, List.mem_singleton] at hk
  rw [hk]; rfl
end Mine
end
section
open PySem PySem.W PyProof.Rows
namespace Mine
set_option maxRecDepth 20000
/-! each text of five signs, by the finite check -/
theorem chksP_at : ∀ (n k j : Nat), chksP n k = true → j < n → chkP (wordP (k + j)) = true
  | 0, _, _, _, h => absurd h (Nat.not_lt_zero _)
  | n + 1, k, j, h, hj => by
    ((first | rewrite [chksP_q0] at h | rewrite [chksP_q1] at h); rewrite [Bool.and_eq_true] at h; (try with_reducible rfl))
    cases j with
    | zero => exact h.1
    | succ j =>
      have := chksP_at n (k + 1) j h.2 (Nat.lt_of_succ_lt_succ hj)
      rwa [show k + 1 + j = k + (j + 1) from by lia] at this
theorem chk64_0 : chksP 64 0 = true := by decide +kernel
theorem chk64_1 : chksP 64 64 = true := by decide +kernel
theorem chk64_2 : chksP 64 128 = true := by decide +kernel
theorem chk64_3 : chksP 64 192 = true := by decide +kernel
theorem chk64_4 : chksP 64 256 = true := by decide +kernel
theorem chk64_5 : chksP 64 320 = true := by decide +kernel
theorem chk64_6 : chksP 64 384 = true := by decide +kernel
theorem chk64_7 : chksP 64 448 = true := by decide +kernel
theorem chk64_8 : chksP 64 512 = true := by decide +kernel
theorem chk64_9 : chksP 64 576 = true := by decide +kernel
theorem chk64_10 : chksP 64 640 = true := by decide +kernel
theorem chk64_11 : chksP 64 704 = true := by decide +kernel
theorem chk64_12 : chksP 64 768 = true := by decide +kernel
theorem chk64_13 : chksP 64 832 = true := by decide +kernel
theorem chk64_14 : chksP 64 896 = true := by decide +kernel
theorem chk64_15 : chksP 64 960 = true := by decide +kernel
theorem chk_sixteen : ([0, 64, 128, 192, 256, 320, 384, 448, 512, 576, 640, 704, 768, 832, 896, 960].all fun s => chksP 64 s) = true := by
  rw [List.all_cons, chk64_0, List.all_cons, chk64_1, List.all_cons, chk64_2, List.all_cons, chk64_3, List.all_cons, chk64_4, List.all_cons, chk64_5, List.all_cons, chk64_6, List.all_cons, chk64_7, List.all_cons, chk64_8, List.all_cons, chk64_9, List.all_cons, chk64_10, List.all_cons, chk64_11, List.all_cons, chk64_12, List.all_cons, chk64_13, List.all_cons, chk64_14, List.all_cons, chk64_15]
  rfl
theorem in_sixteen : ∀ q : Nat, q < 16 → q * 64 ∈ [0, 64, 128, 192, 256, 320, 384, 448, 512, 576, 640, 704, 768, 832, 896, 960] := by decide
theorem chk_num (n : Nat) (h : n < 1024) : chkP (wordP n) = true := by
  have h2 : n / 64 < 16 := Nat.div_lt_of_lt_mul h
  have := chksP_at 64 (n / 64 * 64) (n % 64) (List.all_eq_true.mp chk_sixteen _ (in_sixteen _ h2)) (Nat.mod_lt _ (by decide))
  rwa [Nat.mul_comm, Nat.div_add_mod] at this
theorem dig4 {a : Nat} (n : Nat) (h : a < 4) : (a + 4 * n) % 4 = a ∧ (a + 4 * n) / 4 = n :=
  ⟨by rw [Nat.add_mul_mod_self_left, Nat.mod_eq_of_lt h], by rw [Nat.add_mul_div_left _ _ (by decide), Nat.div_eq_of_lt h, Nat.zero_add]⟩
theorem dig_lt {a n m : Nat} (h : a < 4) (k : n < m) : a + 4 * n < 4 * m :=
  Nat.lt_of_lt_of_le (Nat.add_lt_add_right h _) (by rw [Nat.add_comm, ← Nat.mul_succ]; exact Nat.mul_le_mul_left 4 k)
theorem chk_five {a b c d e : Nat} (ha : a < 4) (hb : b < 4) (hc : c < 4) (hd : d < 4) (he : e < 4) : chkP [a, b, c, d, e] = true := by
  have := chk_num (a + 4 * (b + 4 * (c + 4 * (d + 4 * e)))) (dig_lt ha (dig_lt hb (dig_lt hc (dig_lt hd he))))
  unfold wordP at this
  rw [show 256 = 4 * 4 * 4 * 4 from rfl, show 64 = 4 * 4 * 4 from rfl, show 16 = 4 * 4 from rfl] at this
  simp only [← Nat.div_div_eq_div_mul] at this
  rw [(dig4 _ ha).1, (dig4 _ ha).2, (dig4 _ hb).1, (dig4 _ hb).2, (dig4 _ hc).1, (dig4 _ hc).2, (dig4 _ hd).1, (dig4 _ hd).2, Nat.mod_eq_of_lt he] at this
  exact this
theorem chk_all : ∀ {u : List Nat} (_ : u.length = 5) (_ : ∀ c ∈ u, c < 4), chkP u = true
  | [a, b, c, d, e], _, h4 => chk_five (h4 a (.head _)) (h4 b (.tail _ (.head _))) (h4 c (.tail _ (.tail _ (.head _)))) (h4 d (.tail _ (.tail _ (.tail _ (.head _))))) (h4 e (.tail _ (.tail _ (.tail _ (.tail _ (.head _))))))
noncomputable def kap : Nat → Nat
  | 38 => 1
  | 60 => 2
  | 62 => 3
  | _ => 0
theorem kap_sg : ∀ c, c < 4 → kap (sgV c) = c := by decide
theorem all_facts {u : List Nat} (hl : u.length = 5) (h4 : ∀ c ∈ u, c < 4) : treesP u = (dueGo u.reverse []).map (·.2) ∧ (∀ t ∈ treesP u, leadT t = true) ∧ (treesP u).flatMap fol = u := by
  have h := chk_all hl h4
  unfold chkP at h
  rw [Bool.and_eq_true, Bool.and_eq_true] at h
  exact ⟨eqTs_eq h.1, fun t ht => List.all_eq_true.mp h.2.1 t ht, eqL_eq h.2.2⟩
theorem trees_lt {u : List Nat} (hl : u.length = 5) (h4 : ∀ c ∈ u, c < 4) : ∀ t ∈ treesP u, ∀ c ∈ fol t, c < 4 := fun t ht c hc => by
  refine h4 c ?_
  rw [← (all_facts hl h4).2.2]
  exact List.mem_flatMap.mpr ⟨t, ht, hc⟩
theorem nlen_sum : ∀ ts : List Tr, (ts.map NLen).sum = (ts.flatMap fol).length
  | [] => rfl
  | t :: r => by rw [List.map_cons, List.sum_cons, List.flatMap_cons, List.length_append, nlen_sum r]; rfl
theorem trees_sum {u : List Nat} (hl : u.length = 5) (h4 : ∀ c ∈ u, c < 4) : ((treesP u).map NLen).sum ≤ 5 := by
  rw [nlen_sum, (all_facts hl h4).2.2, hl]
  exact Nat.le_refl _
/-- the sum of a text's page -/
noncomputable def sumP (kk : Nat → Nat) (u : List Nat) : Poly := wholeP (sK kk) [([], 1)] (treesP u)
theorem good_page {kk κ : Nat → Nat} {u : List Nat} (hl : u.length = 5) (h4 : ∀ c ∈ u, c < 4) (hκ : ∀ c, c < 4 → κ (sK kk c) = c) : GoodP κ (sumP kk u) (u.map (sK kk)) := by
  obtain ⟨_, h2, h3⟩ := all_facts hl h4
  have := good_whole (κ := κ) (sg := sK kk) (treesP u) [([], 1)] [] ⟨by simp [keysP], by simp [getP_q0, getP_q1], fun k hk => by
    simp only [keysP, List.map_cons, List.map_nil, List.mem_singleton] at hk
    rw [hk]
    exact ⟨rfl, rfl⟩⟩ fun t ht => ⟨h2 t ht, fun c hc => hκ c (trees_lt hl h4 t ht c hc)⟩
  rw [List.nil_append, h3] at this
  exact this
theorem sum_page (kk : Nat → Nat) (u : List Nat) : phi one1 (sumP kk u) = if (treesP u).all isLeaf then 1 else 0 := by
  unfold sumP
  rw [sum_whole]
  simp [phi_q0, phi_q1]
/-- the words are made of the signs -/
noncomputable def OfSg (sg : Nat → Nat) (k : List Nat) : Prop := ∃ l : List Nat, k = l.map sg ∧ ∀ c ∈ l, c < 4
theorem ofSg_app {sg : Nat → Nat} {a b : List Nat} (ha : OfSg sg a) (hb : OfSg sg b) : OfSg sg (a ++ b) := by
  obtain ⟨l, rfl, h1⟩ := ha
  obtain ⟨r, rfl, h2⟩ := hb
  exact ⟨l ++ r, List.map_append.symm, fun c hc => (List.mem_append.mp hc).elim (h1 c) (h2 c)⟩
theorem ofSg_times {sg : Nat → Nat} {P Q S : Poly} {f : Int} (hS : (keysP S).Nodup) (h1 : ∀ k ∈ keysP S, OfSg sg k) (hP : ∀ k ∈ keysP P, OfSg sg k) (hQ : ∀ k ∈ keysP Q, OfSg sg k) : ∀ k ∈ keysP (timesP S Q f P), OfSg sg k := fun k hk => by
  rcases ((timesP_ok one1 Q f P S hS).2.2 k).mp hk with h | ⟨a, ha, b, hb, rfl⟩
  · exact h1 k h
  · exact ofSg_app (hP a ha) (hQ b hb)
theorem ofSg_tree (sg : Nat → Nat) : ∀ t : Tr, (∀ c ∈ fol t, c < 4) → ∀ k ∈ keysP (polyT sg t), OfSg sg k
  | .leaf c, h, k, hk => by
    simp only [polyT_q0, polyT_q1, keysP, List.map_cons, List.map_nil, List.mem_singleton] at hk
    exact ⟨[c], hk, fun d hd => by rw [List.mem_singleton.mp hd]; exact h c (.head _)⟩
  | .node a b, h, k, hk => by
    have ha := ofSg_tree sg a fun c hc => h c (List.mem_append_left _ hc)
    have hb := ofSg_tree sg b fun c hc => h c (List.mem_append_right _ hc)
    ((first | rewrite [polyT_q0] at hk | rewrite [polyT_q1] at hk); (try with_reducible rfl))
    have h0 := (timesP_ok one1 (polyT sg b) 1 (polyT sg a) [] List.nodup_nil).1
    exact ofSg_times h0 (ofSg_times List.nodup_nil (fun k hk => by simp [keysP] at hk) ha hb) hb ha k hk
theorem ofSg_whole (sg : Nat → Nat) : ∀ (ts : List Tr) (W : Poly), (∀ t ∈ ts, ∀ c ∈ fol t, c < 4) → (∀ k ∈ keysP W, OfSg sg k) → ∀ k ∈ keysP (wholeP sg W ts), OfSg sg k
  | [], W, _, hW, k, hk => hW k hk
  | t :: r, W, h, hW, k, hk => by
    refine ofSg_whole sg r _ (fun t ht => h t (.tail _ ht)) ?_ k hk
    exact ofSg_times List.nodup_nil (fun k hk => by simp [keysP] at hk) hW (ofSg_tree sg t (h t (.head _)))
theorem ofSg_page {kk : Nat → Nat} {u : List Nat} (hl : u.length = 5) (h4 : ∀ c ∈ u, c < 4) : ∀ k ∈ keysP (sumP kk u), OfSg (sK kk) k :=
  ofSg_whole _ _ _ (trees_lt hl h4) fun k hk => by
    simp only [keysP, List.map_cons, List.map_nil, List.mem_singleton] at hk
    exact ⟨[], hk, fun c hc => nomatch hc⟩
theorem whole_len (sg : Nat → Nat) : ∀ (ts : List Tr) (W : Poly) (a n : Nat), Meas W a n → a ≤ n → Meas (wholeP sg W ts) (n + (ts.map NLen).sum) (n + (ts.map NLen).sum)
  | [], W, a, n, hW, h => by
    obtain ⟨p1, p2, p3⟩ := hW
    exact ⟨Nat.le_trans p1 (Nat.pow_le_pow_right (by decide) h), Nat.le_trans p2 (Nat.pow_le_pow_right (by decide) h), p3⟩
  | t :: r, W, a, n, hW, h => by
    have := whole_len sg r _ _ _ (meas_mul hW (meas_tree sg t)) (by have := NLen_pos t; lia)
    rw [List.map_cons, List.sum_cons, ← Nat.add_assoc]
    exact this
theorem page_len {kk : Nat → Nat} {u : List Nat} (hl : u.length = 5) (h4 : ∀ c ∈ u, c < 4) : (sumP kk u).length ≤ 32 ∧ ∀ k ∈ keysP (sumP kk u), k.length = 5 := by
  have h := whole_len (sK kk) (treesP u) [([], 1)] 0 0 ⟨by simp, by simp [nrm_q0, nrm_q1], fun k hk => by
    simp only [keysP, List.map_cons, List.map_nil, List.mem_singleton] at hk
    rw [hk]; rfl⟩ (Nat.le_refl _)
  rw [nlen_sum, (all_facts hl h4).2.2, hl] at h
  exact ⟨h.1, h.2.2⟩
/-! the page tells b where a knot is -/
theorem rn_b {f : Nat → List Nat} : ∀ t : Tr, isLeaf t = false → ∃ a b, rn f t = a ++ ([60, 98, 62] ++ b)
  | .leaf _, h => by cases h
  | .node l r, _ => ⟨[], _, by
      ((first | rewrite [rn_q0] | rewrite [rn_q1]); rewrite [show (Str.ofString "<" ++ Str.ofString "b").cps.toList = [60, 98] from by decide +kernel, show (Str.ofString ">").cps.toList = [62] from by decide +kernel]; (try with_reducible rfl))
      simp only [List.append_assoc, List.cons_append, List.nil_append]
      rfl⟩
theorem flat_b {f : Nat → List Nat} : ∀ ts : List Tr, ts.all isLeaf = false → ∃ a b, ts.flatMap (rn f) = a ++ ([60, 98, 62] ++ b)
  | [], h => by cases h
  | t :: r, h => by
    cases e : isLeaf t with
    | false =>
      obtain ⟨a, b, h1⟩ := rn_b (f := f) t e
      exact ⟨a, b ++ r.flatMap (rn f), by rw [List.flatMap_cons, h1]; simp only [List.append_assoc]⟩
    | true =>
      rw [List.all_cons, e, Bool.true_and] at h
      obtain ⟨a, b, h1⟩ := flat_b (f := f) r h
      exact ⟨rn f t ++ a, b, by rw [List.flatMap_cons, h1]; simp only [List.append_assoc]⟩
theorem flat_nob {kk : Nat → Nat} (hk : ∀ c, c < 4 → kk c < 4) : ∀ ts : List Tr, ts.all isLeaf = true → (∀ t ∈ ts, ∀ c ∈ fol t, c < 4) → 98 ∉ ts.flatMap (rn (fK kk))
  | [], _, _ => by simp
  | .leaf c :: r, h, h4 => by
    rw [List.all_cons, Bool.and_eq_true] at h
    rw [List.flatMap_cons, List.mem_append, not_or]
    refine ⟨?_, flat_nob hk r h.2 fun t ht => h4 t (.tail _ ht)⟩
    have := hk c (h4 _ (.head _) c (.head _))
    ((first | rewrite [rn_q0] | rewrite [rn_q1]); (try with_reducible rfl))
    unfold fK
    rcases (by lia : kk c = 0 ∨ kk c = 1 ∨ kk c = 2 ∨ kk c = 3) with e | e | e | e <;> rw [e] <;> decide
  | .node _ _ :: r, h, _ => by
    rw [List.all_cons] at h
    cases h
end Mine
end
section
open PySem PySem.W PyProof.Rows
namespace Mine
set_option maxRecDepth 20000
theorem list_find {l : List Nat} {y : List Nat} : (∃ a b, l = a ++ (y ++ b)) → ∃ i, i + y.length ≤ l.length ∧ (l.drop i).take y.length = y := by
  rintro ⟨a, b, rfl⟩
  refine ⟨a.length, by simp, ?_⟩
  rw [List.drop_left, List.take_left]
theorem b_codes : (Str.ofString "<b>").cps.toList = [60, 98, 62] := by decide +kernel
theorem page_b {kk : Nat → Nat} (hk : ∀ c, c < 4 → kk c < 4) {x : Str} {ts : List Tr} (hx : x.cps.toList = [60, 114, 62] ++ ts.flatMap (rn (fK kk)) ++ [60, 47, 114, 62]) (h4 : ∀ t ∈ ts, ∀ c ∈ fol t, c < 4) :
    (!(PySem.Builtin.Str.occurrences x (Str.ofString "<b>") 0 x.length 1).isEmpty) = !(ts.all isLeaf) := by
  have hlen : x.length = x.cps.toList.length := len_codes x
  have hb : (Str.ofString "<b>").length = 3 := by rw [len_codes, b_codes]; rfl
  cases hl : ts.all isLeaf with
  | false =>
    obtain ⟨a, b, h1⟩ := flat_b (f := fK kk) ts hl
    obtain ⟨i, h2, h3⟩ := list_find (l := x.cps.toList) (y := [60, 98, 62]) ⟨[60, 114, 62] ++ a, b ++ [60, 47, 114, 62], by rw [hx, h1]; simp only [List.append_assoc]⟩
    refine (StrLaws.found_iff x (Str.ofString "<b>")).mpr ⟨i, by rw [hb, hlen]; exact h2, ?_⟩
    rw [StrLaws.subAt_eq, hb, b_codes]
    exact beq_iff_eq.mpr h3
  | true =>
    cases he : (!(PySem.Builtin.Str.occurrences x (Str.ofString "<b>") 0 x.length 1).isEmpty) with
    | false => rfl
    | true =>
      obtain ⟨i, _, h2⟩ := (StrLaws.found_iff x (Str.ofString "<b>")).mp he
      rw [StrLaws.subAt_eq, hb, b_codes] at h2
      have h3 := beq_iff_eq.mp h2
      have h98 : 98 ∈ x.cps.toList := by
        have : 98 ∈ (x.cps.toList.drop i).take 3 := by rw [h3]; decide
        exact List.mem_of_mem_drop (List.mem_of_mem_take this)
      rw [hx] at h98
      have := flat_nob hk ts hl h4
      simp [this] at h98
theorem least {kk κ : Nat → Nat} {u : List Nat} (hl : u.length = 5) (h4 : ∀ c ∈ u, c < 4) (hκ : ∀ c, c < 4 → κ (sK kk c) = c) : ∀ k ∈ keysP (sumP kk u), k ≠ u.map (sK kk) → ∃ l : List Nat, k = l.map (sK kk) ∧ (∀ c ∈ l, c < 4) ∧ ltB u l = true := fun k hk hne => by
  obtain ⟨l, rfl, h⟩ := ofSg_page hl h4 k hk
  have hm : ∀ {t : List Nat}, (∀ c ∈ t, c < 4) → (t.map (sK kk)).map κ = t := fun {t} ht => by
    rw [List.map_map]
    exact (List.map_congr_left fun c hc => hκ c (ht c hc)).trans (List.map_id t)
  have h2 := ((good_page hl h4 hκ).2.2 _ hk).2
  rw [hm h, hm h4] at h2
  refine ⟨l, rfl, h, ?_⟩
  cases e : ltB u l with
  | true => rfl
  | false => exact absurd (ltB_tri h2 e) fun e2 => hne (by rw [e2])
theorem map_swp {u : List Nat} (h4 : ∀ c ∈ u, c < 4) : (u.map swp).map swp = u := by
  rw [List.map_map]
  exact (List.map_congr_left fun c hc => swp_swp (h4 c hc)).trans (List.map_id u)
theorem swp_all {u : List Nat} (h4 : ∀ c ∈ u, c < 4) : ∀ c ∈ u.map swp, c < 4 := fun c hc => by
  obtain ⟨d, hd, rfl⟩ := List.mem_map.mp hc
  exact swp_lt (h4 d hd)
theorem kap1 : ∀ c, c < 4 → kap (sK id c) = c := kap_sg
theorem kap2 : ∀ c, c < 4 → swp (kap (sK swp c)) = c := fun c h => by
  show swp (kap (sgV (swp c))) = c
  rw [kap_sg _ (swp_lt h), swp_swp h]
theorem least1 {u : List Nat} (hl : u.length = 5) (h4 : ∀ c ∈ u, c < 4) : ∀ k ∈ keysP (sumP id u), k ≠ u.map sgV → u.map sgV < k := fun k hk hne => by
  obtain ⟨l, rfl, h, h2⟩ := least hl h4 kap1 k hk hne
  rw [lt_ltB]
  exact (ord1 h4 h).trans h2
theorem least2 {u : List Nat} (hl : u.length = 5) (h4 : ∀ c ∈ u, c < 4) : ∀ k ∈ keysP (sumP swp (u.map swp)), k ≠ u.map sgV → escL (u.map sgV) < escL k := fun k hk hne => by
  have e : (u.map swp).map (sK swp) = u.map sgV := by
    have e0 : (u.map swp).map (sK swp) = ((u.map swp).map swp).map sgV := by rw [List.map_map (g := sgV)]; rfl
    rw [e0, map_swp h4]
  obtain ⟨l, rfl, h, h2⟩ := least (by rw [List.length_map]; exact hl) (swp_all h4) (κ := fun c => swp (kap c)) kap2 k hk (by rw [e]; exact hne)
  rw [lt_ltB]
  have e2 : l.map (sK swp) = (l.map swp).map sgV := by rw [List.map_map]; rfl
  rw [e2, ord2 h4 (swp_all h), map_swp h]
  exact h2
/-! a row of words in which one comes first -/
theorem first_of {α : Type} {key : α → List Nat} {l : List α} {a : α} (hs : Srt key l) (ha : a ∈ l) (hm : ∀ b ∈ l, b = a ∨ key a < key b) : l[0]? = some a ∧ (∀ (i : Nat) (b : α), l[i]? = some b → (key b < key a ↔ i < 0)) ∧ ∀ (i : Nat) (b : α), l[i]? = some b → (key a < key b ↔ 1 ≤ i) := by
  obtain ⟨q, hq⟩ := List.mem_iff_getElem?.mp ha
  have h0 := srt_count hs q a hq
  have : l.countP (fun b => decide (key b < key a)) = 0 := List.countP_eq_zero.mpr fun b hb => by
    rcases hm b hb with rfl | h
    · simpa using lx_irr _
    · simpa using lx_asym h
  rw [this] at h0
  subst h0
  refine ⟨hq, fun i b hb => ⟨fun h => ?_, fun h => absurd h (Nat.not_lt_zero _)⟩, fun i b hb => ⟨fun h => ?_, fun h => ?_⟩⟩
  · rcases hm b (List.mem_of_getElem? hb) with rfl | h2
    · exact absurd h (lx_irr _)
    · exact absurd h (lx_asym h2)
  · cases i with
    | zero => rw [hq] at hb; cases hb; exact absurd h (lx_irr _)
    | succ i => exact Nat.succ_le_succ (Nat.zero_le _)
  · have hlt := List.pairwise_iff_getElem.mp hs 0 i
    obtain ⟨h1, e1⟩ := List.getElem?_eq_some_iff.mp hq
    obtain ⟨h2, e2⟩ := List.getElem?_eq_some_iff.mp hb
    have := hlt h1 h2 h
    rw [e1, e2] at this
    exact this
end Mine
end
section
open PySem PySem.W PyProof.Rows
namespace Mine
set_option maxRecDepth 20000
theorem item_at {x : Str} {i : Nat} (h : i < x.length) : (Txt.item x (i : Int)).cps.toList = [x.cps.toList.getD i 0] := by
  have := item_cps (x := x) (i := 0) (j := i) (by lia)
  rw [show ((0 : Nat) : Int) + (i : Int) = (i : Int) from by lia, List.drop_zero] at this
  exact this
theorem getD_map (f : Nat → Nat) : ∀ (v : List Nat) (i : Nat), i < v.length → (v.map f).getD i 0 = f (v.getD i 0)
  | [], i, h => absurd h (Nat.not_lt_zero _)
  | a :: r, 0, _ => rfl
  | a :: r, i + 1, h => getD_map f r i (Nat.lt_of_succ_lt_succ h)
theorem sgT_at {kk : Nat → Nat} {x : Str} {v : List Nat} (hx : x.cps.toList = v.map (sK kk)) (hv : v.length = 5) {i : Nat} (hi : i < 5) : sgT x i = [sK kk (v.getD i 0)] := by
  have hl : x.length = 5 := by rw [len_codes, hx, List.length_map, hv]
  show (Txt.item x (i : Int)).cps.toList = _
  rw [item_at (by lia), hx, getD_map _ _ _ (by lia)]
theorem escL_one (c : Nat) : escL [c] = escC c := by unfold escL; simp
theorem page_codes {kk : Nat → Nat} {x S : Str} {v : List Nat} (hx : x.cps.toList = v.map (sK kk)) (hv : v.length = 5)
    (hS : S.cps.toList = (Str.ofString "<" ++ Str.ofString "r").cps.toList ++ (Str.ofString ">").cps.toList ++ (pageJ (sgT x) (rkC v) 5).2 ++ (Str.ofString "</" ++ Str.ofString "r" ++ Str.ofString ">").cps.toList) :
    S.cps.toList = [60, 114, 62] ++ (treesP v).flatMap (rn (fK kk)) ++ [60, 47, 114, 62] := by
  rw [hS, show (Str.ofString "<" ++ Str.ofString "r").cps.toList = [60, 114] from by decide +kernel, show (Str.ofString ">").cps.toList = [62] from by decide +kernel, show (Str.ofString "</" ++ Str.ofString "r" ++ Str.ofString ">").cps.toList = [60, 47, 114, 62] from by decide +kernel,
    pageJ_rn (f := fK kk) (t := v) (fun i hi => by rw [sgT_at hx hv hi, escL_one]) 5 (Nat.le_refl _)]
  rfl
theorem esc_le {kk : Nat → Nat} (hk : ∀ c, c < 4 → kk c < 4) {x : Str} {v : List Nat} (hx : x.cps.toList = v.map (sK kk)) (hv : v.length = 5) (h4 : ∀ c ∈ v, c < 4) : ∀ i, i < 5 → (escL (sgT x i)).length ≤ 5 := fun i hi => by
  rw [sgT_at hx hv hi, escL_one]
  have hm : v.getD i 0 < 4 := by
    rw [List.getD_eq_getElem?_getD, List.getElem?_eq_getElem (by lia)]
    exact h4 _ (List.getElem_mem _)
  have := hk _ hm
  unfold sK
  rcases (by lia : kk (v.getD i 0) = 0 ∨ kk (v.getD i 0) = 1 ∨ kk (v.getD i 0) = 2 ∨ kk (v.getD i 0) = 3) with e | e | e | e <;> rw [e] <;> decide
noncomputable abbrev sgS (kk : Nat → Nat) (c : Nat) : Str := ⟨#[sgV (kk c)]⟩
noncomputable abbrev rS (kk : Nat → Nat) (c : Nat) : Str := ⟨(escC (sgV (kk c))).toArray⟩
theorem item_sg {kk : Nat → Nat} {x : Str} {v : List Nat} (hx : x.cps.toList = v.map (sK kk)) (hv : v.length = 5) : ∀ i : Nat, i < 5 → Txt.item x (i : Int) = sgS kk (v.getD i 0) := fun i hi => by
  rw [str_eq]
  exact sgT_at hx hv hi
theorem sg_ref1 : ∀ c, c < 4 → (sgS id c = Str.ofString "\r" ∧ rS id c = Str.ofString "&#xD;") ∨ (sgS id c = Str.ofString "&" ∧ rS id c = Str.ofString "&amp;") ∨ (sgS id c = Str.ofString "<" ∧ rS id c = Str.ofString "&lt;") ∨ (sgS id c = Str.ofString ">" ∧ rS id c = Str.ofString "&gt;") := by decide +kernel
theorem sg_ref2 : ∀ c, c < 4 → (sgS swp c = Str.ofString "\r" ∧ rS swp c = Str.ofString "&#xD;") ∨ (sgS swp c = Str.ofString "&" ∧ rS swp c = Str.ofString "&amp;") ∨ (sgS swp c = Str.ofString "<" ∧ rS swp c = Str.ofString "&lt;") ∨ (sgS swp c = Str.ofString ">" ∧ rS swp c = Str.ofString "&gt;") := by decide +kernel
theorem sg_idx1 : ∀ c : Nat, c < 4 → Txt.find (Str.ofString "\r&<>") (sgS id c) = (c : Int) := by decide +kernel
theorem sg_idx2 : ∀ c : Nat, c < 4 → Txt.find (Str.ofString "\r&><") (sgS swp c) = (c : Int) := by decide +kernel
theorem due_same {kk : Nat → Nat} {S D : Str} {v : List Nat} (hv : v.length = 5) (h4 : ∀ c ∈ v, c < 4) (hS : S.cps.toList = [60, 114, 62] ++ (treesP v).flatMap (rn (fK kk)) ++ [60, 47, 114, 62])
    (hD : D.cps.toList = (Str.ofString "<r>").cps.toList ++ ((dueGo v.reverse []).map (·.2)).flatMap (rn (fK kk)) ++ (Str.ofString "</r>").cps.toList) : D = S := by
  rw [str_eq, hS, hD, (all_facts hv h4).1, show (Str.ofString "<r>").cps.toList = [60, 114, 62] from by decide +kernel, show (Str.ofString "</r>").cps.toList = [60, 47, 114, 62] from by decide +kernel]
theorem id_lt : ∀ c, c < 4 → id c < 4 := fun _ h => h
theorem swp_lt' : ∀ c, c < 4 → swp c < 4 := fun _ h => swp_lt h
theorem len_page : ∀ (kk : Nat → Nat), (∀ c, c < 4 → kk c < 4) → ∀ t : Tr, (∀ c ∈ fol t, c < 4) → (rn (fK kk) t).length + 7 ≤ 12 * NLen t
  | kk, hk, .leaf c, h => by
    have := hk c (h c (.head _))
    ((first | rewrite [rn_q0] | rewrite [rn_q1]); rewrite [show NLen (.leaf c) = 1 from rfl]; (try with_reducible rfl))
    unfold fK
    rcases (by lia : kk c = 0 ∨ kk c = 1 ∨ kk c = 2 ∨ kk c = 3) with e | e | e | e <;> rw [e] <;> decide
  | kk, hk, .node a b, h => by
    have ha := len_page kk hk a fun c hc => h c (List.mem_append_left _ hc)
    have hb := len_page kk hk b fun c hc => h c (List.mem_append_right _ hc)
    have e : NLen (.node a b) = NLen a + NLen b := by unfold NLen; ((first | rewrite [fol_q0] | rewrite [fol_q1]); rewrite [List.length_append]; (try with_reducible rfl))
    ((first | rewrite [rn_q0] | rewrite [rn_q1]); rewrite [e, show (Str.ofString "<" ++ Str.ofString "b").cps.toList = [60, 98] from by decide +kernel, show (Str.ofString ">").cps.toList = [62] from by decide +kernel, show (Str.ofString "</" ++ Str.ofString "b" ++ Str.ofString ">").cps.toList = [60, 47, 98, 62] from by decide +kernel]; (try with_reducible rfl))
    simp only [List.length_append, List.length_cons, List.length_nil]
    lia
theorem len_pages {kk : Nat → Nat} (hk : ∀ c, c < 4 → kk c < 4) : ∀ ts : List Tr, (∀ t ∈ ts, ∀ c ∈ fol t, c < 4) → (ts.flatMap (rn (fK kk))).length ≤ 12 * (ts.map NLen).sum
  | [], _ => by simp
  | t :: r, h => by
    have h1 := len_page kk hk t (h t (.head _))
    have h2 := len_pages hk r fun t ht => h t (.tail _ ht)
    rw [List.flatMap_cons, List.length_append, List.map_cons, List.sum_cons]
    lia
theorem page_le {kk : Nat → Nat} (hk : ∀ c, c < 4 → kk c < 4) {S : Str} {v : List Nat} (hv : v.length = 5) (h4 : ∀ c ∈ v, c < 4) (hS : S.cps.toList = [60, 114, 62] ++ (treesP v).flatMap (rn (fK kk)) ++ [60, 47, 114, 62]) : S.length ≤ 70 := by
  have h1 := len_pages hk (treesP v) (trees_lt hv h4)
  have h2 := trees_sum hv h4
  rw [len_codes, hS]
  simp only [List.length_append, List.length_cons, List.length_nil]
  lia
theorem sym_len (kk : Nat → Nat) : ∀ t : Tr, (symT kk t).length + 7 ≤ 10 * NLen t
  | .leaf c => Nat.le_refl _
  | .node a b => by
    have ha := sym_len kk a
    have hb := sym_len kk b
    have e : NLen (.node a b) = NLen a + NLen b := by unfold NLen; ((first | rewrite [fol_q0] | rewrite [fol_q1]); rewrite [List.length_append]; (try with_reducible rfl))
    ((first | rewrite [symT_q0] | rewrite [symT_q1]); rewrite [e]; (try with_reducible rfl))
    simp only [List.length_append, List.length_cons, List.length_nil]
    lia
theorem sym_lens (kk : Nat → Nat) : ∀ ts : List Tr, (ts.flatMap (symT kk)).length ≤ 10 * (ts.map NLen).sum
  | [] => by simp
  | t :: r => by
    have h1 := sym_len kk t
    have h2 := sym_lens kk r
    rw [List.flatMap_cons, List.length_append, List.map_cons, List.sum_cons]
    lia
theorem sym_le (kk : Nat → Nat) {v : List Nat} (hv : v.length = 5) (h4 : ∀ c ∈ v, c < 4) : (symP kk (treesP v)).length ≤ 200 := by
  have h1 := sym_lens kk (treesP v)
  have h2 := trees_sum hv h4
  unfold symP
  simp only [List.length_append, List.length_cons, List.length_nil]
  lia
theorem sym_nz (kk : Nat → Nat) : ∀ t : Tr, ∀ n ∈ symT kk t, n ≠ 0
  | .leaf c, n, h => by
    simp only [symT_q0, symT_q1, List.mem_cons, List.not_mem_nil, or_false] at h
    lia
  | .node a b, n, h => by
    simp only [symT_q0, symT_q1, List.mem_append, List.mem_cons, List.not_mem_nil, or_false] at h
    rcases h with ((h | h) | h) | h
    · lia
    · exact sym_nz kk a n h
    · exact sym_nz kk b n h
    · lia
theorem symP_nz (kk : Nat → Nat) (ts : List Tr) : ∀ n ∈ symP kk ts, n ≠ 0 := fun n h => by
  simp only [symP, List.mem_append, List.mem_cons, List.not_mem_nil, or_false, List.mem_flatMap] at h
  rcases h with (h | ⟨t, _, h⟩) | h
  · lia
  · exact sym_nz kk t n h
  · lia
end Mine
end
section
open PySem PySem.W PyProof.Rows
namespace Mine
set_option maxRecDepth 20000
/-! the row of the words whose number is not 0 -/
noncomputable def RowQ (K : List Nat → List Nat) (P : Poly) (i : Nat) (xs : List Str) : Prop :=
  Srt (fun z : Str => K z.cps.toList) xs ∧ xs.length ≤ i ∧ (∀ z ∈ xs, ∃ (j : Nat) (v : Int), j < i ∧ P[j]? = some (z.cps.toList, v)) ∧ ∀ (j : Nat) (k : List Nat) (v : Int), j < i → P[j]? = some (k, v) → v ≠ 0 → ∃ z ∈ xs, z.cps.toList = k
theorem rowQ0 (K : List Nat → List Nat) (P : Poly) : RowQ K P 0 [] := ⟨.nil, Nat.le_refl _, fun z hz => (nomatch hz), fun j k v h => absurd h (Nat.not_lt_zero _)⟩
theorem rowQ_skip {K : List Nat → List Nat} {P : Poly} {i : Nat} {xs : List Str} {k : List Nat} (h : RowQ K P i xs) (hP : P[i]? = some (k, 0)) : RowQ K P (i + 1) xs := by
  obtain ⟨h1, h2, h3, h4⟩ := h
  refine ⟨h1, by omega, fun z hz => ?_, fun j k' v hj e hv => ?_⟩
  · obtain ⟨j, v, hj, e⟩ := h3 z hz
    exact ⟨j, v, by omega, e⟩
  · rcases (by omega : j < i ∨ j = i) with h | rfl
    · exact h4 j k' v h e hv
    · rw [hP] at e
      cases e
      exact absurd rfl hv
theorem keys_at {P : Poly} {i : Nat} {k : List Nat} {v : Int} (h : P[i]? = some (k, v)) : k ∈ keysP P := List.mem_map.mpr ⟨_, List.mem_of_getElem? h, rfl⟩
theorem rowQ_ne {K : List Nat → List Nat} {P : Poly} {i : Nat} {xs : List Str} {x : Str} {v : Int} (h : RowQ K P i xs) (hn : (keysP P).Nodup) (hinj : ∀ a ∈ keysP P, ∀ b ∈ keysP P, K a = K b → a = b) (hP : P[i]? = some (x.cps.toList, v)) : ∀ b ∈ xs, K b.cps.toList ≠ K x.cps.toList := fun b hb e => by
  obtain ⟨j, v', hj, e'⟩ := h.2.2.1 b hb
  have e2 := hinj _ (keys_at e') _ (keys_at hP) e
  rw [e2] at e'
  have h1 : (keysP P)[j]? = some x.cps.toList := by unfold keysP; rw [List.getElem?_map, e']; rfl
  have h2 : (keysP P)[i]? = some x.cps.toList := by unfold keysP; rw [List.getElem?_map, hP]; rfl
  obtain ⟨hj1, ej⟩ := List.getElem?_eq_some_iff.mp h1
  obtain ⟨hi1, ei⟩ := List.getElem?_eq_some_iff.mp h2
  have := List.pairwise_iff_getElem.mp hn j i hj1 hi1 hj
  exact this (ej.trans ei.symm)
theorem rowQ_put {K : List Nat → List Nat} {P : Poly} {i : Nat} {xs : List Str} {x : Str} {v : Int} (h : RowQ K P i xs) (hn : (keysP P).Nodup) (hinj : ∀ a ∈ keysP P, ∀ b ∈ keysP P, K a = K b → a = b) (hP : P[i]? = some (x.cps.toList, v)) :
    ∃ p, p ≤ xs.length ∧ (∀ (j : Nat) (z : Str), xs[j]? = some z → ((K x.cps.toList < K z.cps.toList ↔ p ≤ j) ∧ (K z.cps.toList < K x.cps.toList ↔ j < p))) ∧ RowQ K P (i + 1) (insAt p x xs) := by
  have hne := rowQ_ne h hn hinj hP
  obtain ⟨h1, h2, h3, h4⟩ := h
  obtain ⟨a1, a2⟩ := ins_pos (key := fun z : Str => K z.cps.toList) (k := K x.cps.toList) h1 hne
  obtain ⟨b1, b2⟩ := ins_srt (key := fun z : Str => K z.cps.toList) (a := x) h1 hne
  refine ⟨_, a1, a2, b1, ?_, fun z hz => ?_, fun j k' v' hj e hv => ?_⟩
  · rw [b2.length_eq, List.length_cons]; omega
  · rcases List.mem_cons.mp (b2.mem_iff.mp hz) with rfl | hz
    · exact ⟨i, v, by omega, hP⟩
    · obtain ⟨j, v', hj, e⟩ := h3 z hz
      exact ⟨j, v', by omega, e⟩
  · rcases (by omega : j < i ∨ j = i) with h | rfl
    · obtain ⟨z, hz, e'⟩ := h4 j k' v' h e hv
      exact ⟨z, b2.mem_iff.mpr (.tail _ hz), e'⟩
    · rw [hP] at e
      cases e
      exact ⟨x, b2.mem_iff.mpr (.head _), rfl⟩
theorem rowQ_end {K : List Nat → List Nat} {P : Poly} {xs : List Str} {x : Str} (h : RowQ K P P.length xs) (hn : (keysP P).Nodup) (h1 : getP P x.cps.toList = 1) (hm : x.cps.toList ∈ keysP P) (hleast : ∀ k ∈ keysP P, k ≠ x.cps.toList → K x.cps.toList < K k) :
    xs[0]? = some x ∧ (∀ (i : Nat) (b : Str), xs[i]? = some b → (K b.cps.toList < K x.cps.toList ↔ i < 0)) ∧ ∀ (i : Nat) (b : Str), xs[i]? = some b → (K x.cps.toList < K b.cps.toList ↔ 1 ≤ i) := by
  obtain ⟨a1, a2, a3, a4⟩ := h
  obtain ⟨p, hp, e⟩ := List.mem_map.mp hm
  obtain ⟨j, hj⟩ := List.mem_iff_getElem?.mp hp
  obtain ⟨k, v⟩ := p
  dsimp only at e
  subst e
  have hg := (get_at hn j hj).1
  rw [h1] at hg
  obtain ⟨z, hz, ez⟩ := a4 j _ v (List.getElem?_eq_some_iff.mp hj).1 hj (by rw [← hg]; decide)
  have hzx := str_eq.mpr ez
  subst hzx
  refine first_of (key := fun z : Str => K z.cps.toList) a1 hz fun b hb => ?_
  obtain ⟨i, v', _, e'⟩ := a3 b hb
  by_cases hbz : b = z
  · exact .inl hbz
  · exact .inr (hleast _ (keys_at e') fun e => hbz (str_eq.mpr e))
theorem inj1 {P : Poly} : ∀ a ∈ keysP P, ∀ b ∈ keysP P, id a = id b → a = b := fun _ _ _ _ h => h
theorem inj2 {v : List Nat} (hv : v.length = 5) (h4 : ∀ c ∈ v, c < 4) : ∀ a ∈ keysP (sumP swp v), ∀ b ∈ keysP (sumP swp v), escL a = escL b → a = b := fun a ha b hb e => by
  obtain ⟨l, rfl, hl⟩ := ofSg_page hv h4 a ha
  obtain ⟨r, rfl, hr⟩ := ofSg_page hv h4 b hb
  have e2 : ∀ t : List Nat, t.map (sK swp) = (t.map swp).map sgV := fun t => by rw [List.map_map]; rfl
  have h1 := ord2 (swp_all hl) (swp_all hr)
  have h2 := ord2 (swp_all hr) (swp_all hl)
  rw [← e2, ← e2, e, ltB_irr, map_swp hl, map_swp hr] at h1
  rw [← e2, ← e2, ← e, ltB_irr, map_swp hl, map_swp hr] at h2
  rw [ltB_tri h1.symm h2.symm]
end Mine
end
section
namespace Mine
set_option maxRecDepth 100000
set_option maxHeartbeats 8000000
set_option linter.all false
theorem words_law_0 : True := by
  (k_with "m:my run" => (repeat' ((fail_if_success (first | ((with_reducible show wpAny _ _ (exec _ _) _ _ _); first | (with_reducible show wpAny _ _ (exec (Stmt.While _ _ _ _) _) _ _ _) | (with_reducible show wpAny _ _ (exec (Stmt.For _ _ _ _ _) _) _ _ _)) | (k_extra "m:my stop") | ((with_reducible show wpAny _ _ (call _ _ _) _ _ _); first | (with_reducible show wpAny _ _ (call (Value.ref 239) _ _) _ _ _) | (with_reducible show wpAny _ _ (call (Value.ref 117) _ _) _ _ _) | (with_reducible show wpAny _ _ (call (Value.ref 370) _ _) _ _ _) | (with_reducible show wpAny _ _ (call (Value.ref 356) _ _) _ _ _) | (with_reducible show wpAny _ _ (call (Value.ref 349) _ _) _ _ _) | (with_reducible show wpAny _ _ (call (Value.ref 344) _ _) _ _ _) | (with_reducible show wpAny _ _ (call (Value.ref 320) _ _) _ _ _) | (with_reducible show wpAny _ _ (call (Value.builtin "str.join") _ _) _ _ _) | (with_reducible show wpAny _ _ (call (Value.ref 313) _ _) _ _ _)) | ((with_reducible show wpAny _ _ (storeName _ _ _) _ _ _); first | (with_reducible show wpAny _ _ (storeName _ (Str.ofString "turned") _) _ _ _) | (with_reducible show wpAny _ _ (storeName _ (Str.ofString "plain") _) _ _ _) | (with_reducible show wpAny _ _ (storeName _ (Str.ofString "cells") _) _ _ _)) | ((with_reducible show wpAny _ _ (PySem.eval _ _) _ _ _); first | (with_reducible show wpAny _ _ (PySem.eval (PySem.Expr.ListComp _ _ _ _) _) _ _ _)) | ((with_reducible show wpAny _ _ (compareOp _ _ _) _ _ _); first | (with_reducible show wpAny _ _ (compareOp CmpOp.Eq (Value.ref _) (Value.ref _)) _ _ _) | (with_reducible show wpAny _ _ (compareOp _ (Value.str _ _) (Value.str _ _)) _ _ _)))); k_extra "m:my step")))
  (k_with "m:my runI" => (repeat' ((fail_if_success (first | ((with_reducible show wpAny _ _ (exec _ _) _ _ _); first | (with_reducible show wpAny _ _ (exec (Stmt.While _ _ _ _) _) _ _ _) | (with_reducible show wpAny _ _ (exec (Stmt.For _ _ _ _ _) _) _ _ _) | (with_reducible show wpAny _ _ (exec (Stmt.If _ _ _ _) _) _ _ _)) | (k_extra "m:my stop") | ((with_reducible show wpAny _ _ (call _ _ _) _ _ _); first | (with_reducible show wpAny _ _ (call (Value.ref 239) _ _) _ _ _) | (with_reducible show wpAny _ _ (call (Value.ref 117) _ _) _ _ _) | (with_reducible show wpAny _ _ (call (Value.ref 370) _ _) _ _ _) | (with_reducible show wpAny _ _ (call (Value.ref 356) _ _) _ _ _) | (with_reducible show wpAny _ _ (call (Value.ref 349) _ _) _ _ _) | (with_reducible show wpAny _ _ (call (Value.ref 344) _ _) _ _ _) | (with_reducible show wpAny _ _ (call (Value.ref 320) _ _) _ _ _) | (with_reducible show wpAny _ _ (call (Value.builtin "str.join") _ _) _ _ _) | (with_reducible show wpAny _ _ (call (Value.ref 313) _ _) _ _ _)) | ((with_reducible show wpAny _ _ (storeName _ _ _) _ _ _); first | (with_reducible show wpAny _ _ (storeName _ (Str.ofString "turned") _) _ _ _) | (with_reducible show wpAny _ _ (storeName _ (Str.ofString "plain") _) _ _ _) | (with_reducible show wpAny _ _ (storeName _ (Str.ofString "cells") _) _ _ _)) | ((with_reducible show wpAny _ _ (PySem.eval _ _) _ _ _); first | (with_reducible show wpAny _ _ (PySem.eval (PySem.Expr.ListComp _ _ _ _) _) _ _ _)) | ((with_reducible show wpAny _ _ (compareOp _ _ _) _ _ _); first | (with_reducible show wpAny _ _ (compareOp CmpOp.Eq (Value.ref _) (Value.ref _)) _ _ _) | (with_reducible show wpAny _ _ (compareOp _ (Value.str _ _) (Value.str _ _)) _ _ _)))); k_extra "m:my step")))
  trivial
theorem use_cells {w : World} {lS : Addr} {vs : List Value} {news : List (Addr × Obj)} {Out : (Value → List (Addr × Obj) → Prop) → Prop} (C : CallL w (.ref 313) [.ref lS] [] 10 100 lS vs.toArray news Out)
    {p : Program} {loose : List Str} {mean : ExcName → Option Value} {mg mb : Str → Option Value}
    {dp un : Nat} {gd : Option (List Code)} {cn : Str} {cs : Scope} {a : Addr} {ccd : Value} {cl : List (Str × Addr)} {outer : List Env} {A₀ : Around} {base h₀ : Heap} {L : Addr} {m : Str → Option Value} {h : Heap} {g : Array GenState} {d : Drawn} {tk : Nat} {os : OsState} {Q E : Value → Shared → Prop}
    (B : Below A₀ base outer h₀) (F : Fr h₀ L h m) (X : (hd.heap_39 w.params).In h₀) (N : News h₀ L h news) (T : Top p loose mean mg mb h₀) (hk : cs.kind = .function) (hd : dp + 10 < recursionLimit) (hu : un + 100 < cLine) (hL : h₀.IsList lS vs.toArray)
    (hret : Out (fun v news' => ∀ (h' : Heap) (tk' : Nat), 1 ≤ tk' → Fr h₀ L h' m → News h₀ L h' news' → Q v ⟨h', g, d, tk', os⟩)) :
    wpAny (model PySem.Challenge.rw_uc0067_01.row.prog w) (ktrTop dp un gd cn cs L a ccd cl outer) (call (.ref 313) [.ref lS]) Q E ⟨h, g, d, tk, os⟩ :=
  C p loose mean mg mb dp un gd cn cs a ccd cl outer A₀ base h₀ L m ⟨h, g, d, tk, os⟩ Q E B F X N T hk hd hu hL hret
theorem ints_at {vs : List Value} {ns : List Int} (h : IntsAre vs ns) : ∀ i, i < vs.length → ∃ k t, vs[i]? = some (.int k t) := by
  induction h with
  | nil => exact fun i h => absurd h (Nat.not_lt_zero _)
  | cons k t _ ih =>
    refine fun i h => ?_
    cases i with
    | zero => exact ⟨k, t, rfl⟩
    | succ i => exact ih i (Nat.lt_of_succ_lt_succ h)
theorem cells3 {cm : Str → Option Value} {n₁ n₂ n₃ : Str} {c₁ c₂ c₃ a b c : Addr} {x y z : Obj} (Y : CellsAre cm [(n₁, c₁), (n₂, c₂), (n₃, c₃)] [(a, x), (b, y), (c, z)]) : x.data = .cell (cm n₁) ∧ y.data = .cell (cm n₂) ∧ z.data = .cell (cm n₃) := by
  obtain ⟨o1, o2, o3, hE, d1, d2, d3⟩ := CellsAre.three Y
  have e1 := congrArg (fun l : List (Addr × Obj) => (l.headD (a, x)).2) hE
  have e2 := congrArg (fun l : List (Addr × Obj) => (l.tail.headD (a, x)).2) hE
  have e3 := congrArg (fun l : List (Addr × Obj) => (l.tail.tail.headD (a, x)).2) hE
  exact ⟨(congrArg Obj.data e1).trans d1, (congrArg Obj.data e2).trans d2, (congrArg Obj.data e3).trans d3⟩
noncomputable def dgN (c : Int) (j : Nat) : Nat := ((c.fdiv (4 ^ j)).fmod 4).toNat
theorem pow4_small : ∀ i : Nat, i < 5 → ((4 : Int) ^ i).natAbs < 1073741824 := by decide
theorem dg_fact (c : Int) {i : Nat} (hi : i < 5) : (4 : Int) ^ (0 + (i : Int)).toNat ≠ 0 ∧ ((4 : Int) ^ (0 + (i : Int)).toNat).natAbs < 1073741824 ∧ 0 ≤ (c.fdiv (4 ^ (0 + (i : Int)).toNat)).fmod 4 ∧ (c.fdiv (4 ^ (0 + (i : Int)).toNat)).fmod 4 < 4 ∧ (c.fdiv (4 ^ (0 + (i : Int)).toNat)).fmod 4 = ((dgN c i : Nat) : Int) := by
  have e : (0 + (i : Int)).toNat = i := by omega
  rw [e]
  have h1 := Int.fmod_nonneg_of_pos (c.fdiv (4 ^ i)) (b := 4) (by decide)
  have h2 := Int.fmod_lt_of_pos (c.fdiv (4 ^ i)) (b := 4) (by decide)
  refine ⟨Int.ne_of_gt (Int.pow_pos (by decide)), pow4_small i hi, h1, h2, ?_⟩
  unfold dgN
  omega
theorem item1 (k : Int) : (Txt.item (Str.ofString "\r&<>") k).length = 1 := rfl
theorem dg_lt (c : Int) (j : Nat) : dgN c j < 4 := by
  unfold dgN
  have h1 := Int.fmod_nonneg_of_pos (c.fdiv (4 ^ j)) (b := 4) (by decide)
  have h2 := Int.fmod_lt_of_pos (c.fdiv (4 ^ j)) (b := 4) (by decide)
  omega
theorem tvs_of_svs {w : World} {l : List (Addr × Obj)} {vs : List Value} {xs : List Str} (h : SVs vs xs) : TVs w l vs xs := ⟨h.1, fun i v x h1 h2 => by
  obtain ⟨t, rfl⟩ := h.2 i v x h1 h2
  exact .str _ _⟩
theorem marks : ∀ (i c : Nat), (Str.ofString "<>/&;").cps[i]? = some c → [c] ∈ keysP tokT ∧ [20, 21, 17, 19, 13].take i ++ [getP tokT [c]] = ([20, 21, 17, 19, 13] : List Int).take (i + 1) ∧ i < 5 := by
  intro i c h
  have hs : (Str.ofString "<>/&;").cps = #[60, 62, 47, 38, 59] := by decide +kernel
  rw [hs] at h
  have hi : i < 5 := by
    have := (Array.getElem?_eq_some_iff.mp h).1
    simpa using this
  rcases (by omega : i = 0 ∨ i = 1 ∨ i = 2 ∨ i = 3 ∨ i = 4) with rfl | rfl | rfl | rfl | rfl <;>
  · simp at h
    subst h
    decide
theorem code_ne_cell {o o' : Obj} {v : Option Value} (h : CodeP o) (hc : o'.data = .cell v) : o ≠ o' :=
  fun e => h.elim fun vs k => k.elim fun q k => k.elim fun t k => nomatch (k.1.symm.trans ((congrArg Obj.data e).trans hc) : Data.fields vs = Data.cell v)
theorem dict_ne_cell {w : World} {o o' : Obj} {v : Option Value} {kvs : List (Str × Value)} (h : o.IsDictOf (SK w) kvs) (hc : o'.data = .cell v) : o ≠ o' :=
  fun e => h.elim fun es k => k.elim fun ep k => nomatch (k.2.1.symm.trans ((congrArg Obj.data e).trans hc) : Data.dict es ep = Data.cell v)
theorem dict_ne_list {w : World} {o : Obj} {its : Array Value} {n : Nat} {kvs : List (Str × Value)} (h : o.IsDictOf (SK w) kvs) : o ≠ listOf its n :=
  fun e => h.elim fun es k => k.elim fun ep k => nomatch (k.2.1.symm.trans (congrArg Obj.data e) : Data.dict es ep = (listOf its n).data)
theorem dict_ne_code {w : World} {o o' : Obj} {kvs : List (Str × Value)} (h : o.IsDictOf (SK w) kvs) (hc : CodeP o') : o' ≠ o :=
  fun e => h.elim fun es k => k.elim fun ep k => hc.elim fun vs j => j.elim fun q j => j.elim fun t j => nomatch (k.2.1.symm.trans ((congrArg Obj.data e.symm).trans j.1) : Data.dict es ep = Data.fields vs)
theorem good_mem {κ : Nat → Nat} {P : Poly} {w : List Nat} (h : GoodP κ P w) : w ∈ keysP P := by
  by_cases e : w ∈ keysP P
  · exact e
  · have := h.2.1
    rw [get_notin e] at this
    cases this
theorem good_val {κ : Nat → Nat} {P : Poly} {x : Str} {kvs : List (Str × Value)} (hp : PIs kvs P) (h : GoodP κ P x.cps.toList) : ∃ t, valueAt kvs x = some (.int 1 t) := by
  obtain ⟨t, ht⟩ := hp.mem x (good_mem h)
  rw [h.2.1] at ht
  exact ⟨t, ht⟩
theorem take_snoc {α : Type} {l : List α} {i : Nat} {a : α} (h : l[i]? = some a) : l.take (i + 1) = l.take i ++ [a] := by
  rw [List.take_succ, h]; rfl
theorem phi_sum : ∀ P : Poly, phi one1 P = (P.map (·.2)).sum
  | [] => rfl
  | (a, x) :: r => by ((first | rewrite [phi_q0] | rewrite [phi_q1]); rewrite [phi_sum r, List.map_cons, List.sum_cons]; (try with_reducible rfl)); simp
/-- the first row, as it grows -/
noncomputable def RowJ (w : World) (lR lT : Nat) (P : Poly) (pre base : List (Addr × Obj)) (nms : List (Str × Value)) (i : Nat) (m : Str → Option Value) (news : List (Addr × Obj)) : Prop :=
  ∃ (vsR : List Value) (nR nT jn : Nat) (xs : List Str) (objs : List (Addr × Obj)), news = (lR, listOf vsR.toArray nR) :: (lT, listOf (List.replicate jn Value.none).toArray nT) :: (pre ++ (objs ++ base)) ∧ (TVs w objs vsR xs ∧ ∀ v ∈ vsR, ∃ a : Addr, v = .ref a) ∧ RowQ id P i xs ∧ jn ≤ 10 + i ∧ (∀ q ∈ objs, @Ne Nat q.1 lR ∧ @Ne Nat q.1 lT) ∧ Nm m nms
theorem ne_pre {A : Type} {Pr : A → Prop} {a b c d e : A} {o x : List A} (h1 : ∀ q ∈ a :: b :: c :: d :: e :: x, Pr q) (h2 : ∀ q ∈ o, Pr q) : ∀ q ∈ a :: b :: c :: d :: e :: (o ++ x), Pr q :=
  sub_c (h1 a (.head _)) (sub_c (h1 b (.tail _ (.head _))) (sub_c (h1 c (.tail _ (.tail _ (.head _)))) (sub_c (h1 d (.tail _ (.tail _ (.tail _ (.head _))))) (sub_c (h1 e (.tail _ (.tail _ (.tail _ (.tail _ (.head _)))))) (app_c h2 fun q hq => h1 q (.tail _ (.tail _ (.tail _ (.tail _ (.tail _ hq))))))))))
theorem mem_pre {A : Type} {p s a b c d e : A} {o x : List A} {q : A} (h : q ∈ a :: b :: c :: d :: e :: x) : q ∈ p :: s :: ([a, b, c, d, e] ++ (o ++ x)) :=
  sub_c (P := fun q => q ∈ p :: s :: ([a, b, c, d, e] ++ (o ++ x))) (.tail _ (.tail _ (.head _))) (sub_c (.tail _ (.tail _ (.tail _ (.head _)))) (sub_c (.tail _ (.tail _ (.tail _ (.tail _ (.head _))))) (sub_c (.tail _ (.tail _ (.tail _ (.tail _ (.tail _ (.head _)))))) (sub_c (.tail _ (.tail _ (.tail _ (.tail _ (.tail _ (.tail _ (.head _))))))) (fun q hq => .tail _ (.tail _ (.tail _ (.tail _ (.tail _ (.tail _ (.tail _ (List.mem_append_right o hq)))))))))))) q h
theorem insAt_len {α : Type} {p : Nat} {v : α} {l : List α} (hp : p ≤ l.length) : (insAt p v l).length = l.length + 1 := insAt_length hp
/-- the second row, as it grows -/
noncomputable def ShfJ (lH lT : Nat) (P : Poly) (R : List (Addr × Obj)) (nms : List (Str × Value)) (i : Nat) (m : Str → Option Value) (news : List (Addr × Obj)) : Prop :=
  ∃ (vsH : List Value) (nH nT jn : Nat) (xs : List Str), news = (lH, listOf vsH.toArray nH) :: (lT, listOf (List.replicate jn Value.none).toArray nT) :: R ∧ SVs vsH xs ∧ RowQ escL P i xs ∧ jn ≤ 42 + i ∧ Nm m nms
theorem rowQ_at {K : List Nat → List Nat} {P : Poly} {i : Nat} {xs : List Str} (h : RowQ K P i xs) {n : Nat} (hn : ∀ k ∈ keysP P, k.length ≤ n) : ∀ z ∈ xs, z.length ≤ n := fun z hz => by
  obtain ⟨j, v, _, e⟩ := h.2.2.1 z hz
  rw [len_codes]
  exact hn _ (keys_at e)
theorem spots_eq {prog : Program} {w : World} {A : Around} {E : Value → Shared → Prop} {s : Shared} {h₀ : Heap} {L a b : Addr} {t1 t2 t3 t4 u1 u2 u3 u4 : Tok} {n k : Nat} {r : List (Addr × Obj)} {Q : Value → Shared → Prop}
    (N : News h₀ L s.heap ((a, listOf #[.int 0 u1, .int 1 u2, .int 0 u3, .int 1 u4] k) :: (b, listOf ((#[.int ((0 : Nat) : Int) t1, .int ((1 : Nat) : Int) t2].push (.int ((0 : Nat) : Int) t3)).push (.int ((1 : Nat) : Int) t4)) n) :: r)) (hu : A.units + 64 < cLine) (h : Q (.bool true) s) :
    wpAny (model prog w) A (compareOp .Eq (.ref b) (.ref a)) Q E s :=
  ke_eq_ints (xs := [.int ((0 : Nat) : Int) t1, .int ((1 : Nat) : Int) t2, .int ((0 : Nat) : Int) t3, .int ((1 : Nat) : Int) t4]) (ys := [.int 0 u1, .int 1 u2, .int 0 u3, .int 1 u4]) (N.isList (.tail _ (.head _))) (N.isList (.head _))
    (.cons _ _ (.cons _ _ (.cons _ _ (.cons _ _ .nil)))) (.cons _ _ (.cons _ _ (.cons _ _ (.cons _ _ .nil)))) hu h
theorem lawT : PySem.Challenge.rw_uc0067_01.Holds := Mine.hd (by
  k_go0
  (all_goals try k_fold)
  rename_i w s₀ s₁ mg mb G Y fa o pm cd doc ho hcd hg X V T B TE TW ns hs hlay0 hL hr hl2 e6 e5 lS9 vs9 e2 hL2 ra w1 r0 hI hr2 hcond hcond2 hD h₁ tk₁ o1 o2 left1 left2 X0 X' T' K' F' N' l0
  revert w s₀ s₁ mg mb G Y fa o pm cd doc ho hcd hg hT8 X V T B TE TW hT9 ns hs hlay0 hL hr hl2 e6 e5 lS9 vs9 e2 hL2 ra w1 r0 hI hr2 hcond hcond2 hD h₁ tk₁ o1 o2 hole left1 left2 X0 X' T' K' F' lifted codeHd N' l0
  intro w s₀ s₁ mg mb G Y fa o pm cd doc ho hcd hg hT8 X V T B TE TW hT9 ns hs hlay0 hL hr hl2 e6 e5 lS9 vs9 e2 hL2 ra w1 r0 hI hr2 hcond hcond2 hD h₁ tk₁ o1 o2 hole left1 left2 X0 X' T' K' F' lifted codeHd N' l0
  k_extra "m:my runI"
  with_reducible rename World => w
  with_reducible rename CellsAre _ _ _ => Y0
  with_reducible rename Fr _ _ _ _ => F0
  with_reducible rename News _ _ _ _ => N0
  with_reducible rename Below _ _ _ _ => B0
  with_reducible rename (hd.heap_39 _).In _ => X0
  with_reducible rename Top _ _ _ _ _ _ => T0
  with_reducible rename Heap.IsList (ghostOf _ _) _ _ => hL0
  with_reducible rename IntsAre _ _ => hI0
  with_reducible rename (201 < _) => l0
  with_reducible rename (¬ @LT.lt Int _ _ _) => hlen0
  have hi0 := hI0.length
  obtain ⟨lS, eS, hLS⟩ : ∃ lS : Addr, lS = _ ∧ Heap.IsList _ lS _ := ⟨_, rfl, hL0⟩
  subst eS
  clear hLS
  refine use_cells (cellsT w _ _ _ (ints_at hI0) (by omega)) B0 F0 X0 N0 T0 rfl (by decide) (by decide) hL0 ?_
  intro lC nC c0 c1 t0 t1 hc0 hc1 hc2 hc3 hAll h2 tk2 htk F2 N2
  k_extra "m:my run"
  have hC9 := cells3 Y0
  obtain ⟨oT, oP, oC, N3, dT, dP, dC⟩ : ∃ (oT oP oC : Obj), News (ghostOf _ _) _ h2 [(lC, listOf [.int c0 t0, .int c1 t1].toArray nC), (_ + 1 + 1 + 1, oT), (_ + 1 + 1, oP), (_ + 1, oC), (201, tabObj #[])] ∧ oT.data = .cell none ∧ oP.data = .cell none ∧ oC.data = .cell none :=
    ⟨_, _, _, N2, hC9.1.trans (congrArg Data.cell (by kernel_rfl)), hC9.2.1.trans (congrArg Data.cell (by kernel_rfl)), hC9.2.2.trans (congrArg Data.cell (by kernel_rfl))⟩
  clear hC9 N2 N0 F0 Y0
  replace F2 : Fr (ghostOf _ _) _ h2 (fun y => if y = Str.ofString "script" then some (Value.ref lS) else none) := fr_is F2 fun y => by kernel_rfl
  simp only [AllLt] at hAll
  obtain ⟨hA1, hA2, hA3, hA4, -⟩ := hAll
  obtain ⟨LL, eLL, l0⟩ : ∃ LL : Nat, LL = _ ∧ @LT.lt Nat _ 201 LL := ⟨_, rfl, l0⟩
  rw [← eLL] at F2 N3 hA1 hA2 hA3 ⊢
  w_top off
  have hU : UpdF (LL + 1) oC [(lC, listOf [.int c0 t0, .int c1 t1].toArray nC), (LL + 1 + 1 + 1, oT), (LL + 1 + 1, oP), (LL + 1, oC), (201, tabObj #[])] (fun o' => [(lC, listOf [.int c0 t0, .int c1 t1].toArray nC), (LL + 1 + 1 + 1, oT), (LL + 1 + 1, oP), (LL + 1, o'), (201, tabObj #[])]) :=
    .tail (by show @Ne Nat _ _; omega) (.tail (by show @Ne Nat _ _; omega) (.tail (by show @Ne Nat _ _; omega) (.head fun q hq => by
      rw [List.mem_singleton.mp hq]
      show @Ne Nat _ _; dsimp only; omega)))
  refine storeX_C F2 N3 ?hc hU dC ?_ ?hk ?hx
  case hk => rfl
  case hc => kernel_rfl
  case hx => kernel_rfl
  intro h3 oC2 F3 N3 dC2
  (try dsimp only at N3)
  clear hU dC F2
  k_extra "m:my run"
  refine my_comp (by first | exact htk | omega | (dsimp only; omega)) (by with_unfolding_all rfl) rfl (by decide) ?_ (fun _ => rfl)
  k_extra "m:my run"
  with_reducible rename News _ _ _ _ => N4
  with_reducible rename Fr _ _ _ _ => F4
  with_reducible rename IsRange _ _ _ _ _ _ _ _ => hR9
  obtain ⟨hsm, hrs⟩ := range_fact63 5 (by omega)
  refine my_comp_range (n := 5) (fun i ys news => news = [(lC, listOf [.int c0 t0, .int c1 t1].toArray nC), (LL + 1 + 1 + 1, oT), (LL + 1 + 1, oP), (LL + 1, oC2), (201, tabObj #[])] ∧ i ≤ 5 ∧ ∃ zs, StrsAre ys zs ∧ zs.length = i ∧ (zs.map (·.length)).sum ≤ i ∧ catS zs = (List.range i).map fun j => sgV (dgN c0 j)) rfl (by decide) rfl rfl hR9 hsm hrs F4 N4 ⟨rfl, Nat.zero_le _, [], .nil, rfl, Nat.le_refl _, rfl⟩ ?_ ?_ ?_
  · rintro i ys news ⟨_, h1, zs, h2, h3, _⟩
    rw [h2.len_eq]
    omega
  · rintro i t h9 tk9 hi htk ys news₁ I oI C oC D m₂ E' ⟨rfl, hi5, zs, hzs, hzl, hsum, hcat⟩ hC hx F₁ N₁ hoff hne hks
    unfold tests
    dsimp only at F₁ N₁ ⊢
    k_extra "m:my run"
    with_reducible rename News _ _ _ _ => N5
    refine my_item N5 (by k_extra "m:my mem") (by decide) (by decide) rfl ?_ (by with_unfolding_all rfl)
    repeat' ((fail_if_success (with_reducible show wpAny _ _ (binaryOp Operator.FloorDiv _ _) _ _ _)); k_extra "m:my step")
    obtain ⟨hp1, hp0, hp2, hp3, hp4⟩ := dg_fact c0 hi
    refine floordiv_int hp1 ?_ (.inl (PyProof.noPylong_small hp0))
    k_extra "m:my run"
    with_reducible rename Fr _ _ _ _ => F6
    with_reducible rename News _ _ _ _ => N6
    refine hid ⟨_, _, _, rfl, F6, N6, hoff, hks, rfl, hi, zs ++ [_], strs_append hzs strs_one, ?_, ?_, ?_⟩
    · rw [List.length_append, hzl]; rfl
    · rw [List.map_append, List.sum_append]
      simp only [List.map_cons, List.map_nil, List.sum_cons, List.sum_nil]
      rw [hp4]
      exact Nat.add_le_add hsum (Nat.le_of_eq (item1 ((dgN c0 i : Nat) : Int)))
    · rw [catS_append, hcat, List.range_succ, List.map_append]
      refine congrArg _ ?_
      rw [hp4]
      simp only [List.map_cons, List.map_nil]
      rw [← sg_item _ (by omega)]
      simp [catS]
  · rintro ys news' ⟨rfl, hi5, zs, hzs, hzl, hsum, hcat⟩
    intro D h9 tk9 F₂ N₂ hD htk
    dsimp only at htk F₂ N₂ ⊢
    k_extra "m:my run"
    with_reducible rename News _ _ _ _ => N7
    refine with_tok (by first | exact htk | omega) ?_
    refine join_listW (N7.isList (.head _)) hzs (by decide +kernel) (by omega) ?_
    intro tj kj htk
    dsimp only at htk ⊢
    have hjc : (Txt.join (Str.ofString "") zs).cps.toList = ((List.range 5).map (dgN c0)).map sgV := by
      rw [join_codes, hcat, List.map_map]
      rfl
    have hjl : (Txt.join (Str.ofString "") zs).length = 5 := by
      rw [len_codes, hjc]
      simp
    generalize Txt.join (Str.ofString "") zs = tx at hjc hjl ⊢
    k_extra "m:my run"
    with_reducible rename News _ _ _ _ => N8
    refine my_item N8 (by k_extra "m:my mem") (by decide) (by decide) rfl ?_ (by with_unfolding_all rfl)
    k_extra "m:my run"
    with_reducible rename News _ _ _ _ => N9
    with_reducible rename Fr _ _ _ _ => F9
    obtain ⟨u, eu, hu5, h4⟩ : ∃ u : List Nat, u = (List.range 5).map (dgN c0) ∧ u.length = 5 ∧ ∀ c ∈ u, c < 4 := ⟨_, rfl, by simp, fun c hc => by
      obtain ⟨j, _, rfl⟩ := List.mem_map.mp hc
      exact dg_lt c0 j⟩
    rw [← eu] at hjc
    obtain ⟨n, hn⟩ : ∃ n : Nat, c1 = (n : Int) := ⟨c1.toNat, by omega⟩
    refine use_call (rows w _ tx tj c1 t1 hjl hc2 hc3 (PIr tx n) (fun i a b h => ⟨(pir_len hjl i a b h).1, (pir_len hjl i a b h).2.1, (pir_len hjl i a b h).2.2.1⟩) (fun i a b j hi h hj hj5 => pir_step hjl i a b j hi h (hn ▸ hj) hj5) (pir0 tx n)) B0 F9 X0 N9 T0 rfl (by decide) (by decide) (by first | exact htk | omega) ?_
    intro lN lP lT lU nN nP nT vsN vsP objs xsN xsP hTV hSV hPI ho1 ho2 g1 g2 g3 gAll h10 tk10 htk F10 N10
    k_extra "m:my run"
    obtain ⟨hr1, hr2⟩ := pir_rk hjl hPI
    obtain ⟨hxN, hxP, hyP, hyN⟩ := pir_len hjl 5 xsN xsP hPI
    replace hr1 : RkIs xsN (rkC u) := rkIs_congr hr1 fun i _ => rk1 hjc h4 i
    replace hr2 : RkIs xsP (rkC (u.map swp)) := rkIs_congr hr2 fun i _ => rk2 hjc h4 i
    have hu2 : tx.cps.toList = (u.map swp).map (sK swp) := by
      rw [hjc, List.map_map]
      exact List.map_congr_left fun c hc => by show sgV c = sgV (swp (swp c)); rw [swp_swp (h4 c hc)]
    have hl2 : (u.map swp).length = 5 := by rw [List.length_map]; exact hu5
    have h42 := swp_all h4
    with_reducible rename News _ _ _ _ => N11
    with_reducible rename Fr _ _ _ _ => F11
    have g0 : @LT.lt Nat _ 201 lN := gAll (201, tabObj #[]) (by simp)
    have gT : @LT.lt Nat _ (LL + 1 + 1 + 1) lN := gAll (LL + 1 + 1 + 1, oT) (by simp)
    have gP : @LT.lt Nat _ (LL + 1 + 1) lN := gAll (LL + 1 + 1, oP) (by simp)
    obtain ⟨nw1, enw1⟩ : ∃ nw1 : List (Addr × Obj), nw1 = (lN, listOf vsN.toArray nN) :: (lP, listOf vsP.toArray nP) :: (lT, listOf (List.replicate 10 Value.none).toArray nT) :: (LL + 1 + 1 + 1, oT) :: (LL + 1 + 1, oP) :: objs := ⟨_, rfl⟩
    have N12 : News (ghostOf _ _) LL _ ((201, tabObj #[]) :: nw1) := news_sub N11 (by
      rw [enw1]
      intro q hq
      simp only [List.mem_cons, List.mem_append, List.not_mem_nil, or_false] at hq ⊢
      rcases hq with h | h | h | h | h | h | h <;> simp [h])
    have h201 : ∀ q ∈ nw1, @Ne Nat q.1 201 := by
      rw [enw1]
      intro q hq
      simp only [List.mem_cons] at hq
      rcases hq with rfl | rfl | rfl | rfl | rfl | h
      · show @Ne Nat _ _; dsimp only; omega
      · show @Ne Nat _ _; dsimp only; omega
      · show @Ne Nat _ _; dsimp only; omega
      · show @Ne Nat _ _; dsimp only; omega
      · show @Ne Nat _ _; dsimp only; omega
      · have := ho1 q h
        show @Ne Nat _ _; omega
    refine use_call (pageW w tx tj hjl lN nN vsN xsN nw1 _ #[] rfl (.inl rfl) h201 (.tail _ (by rw [enw1]; exact .head _)) (tvs_mono hTV fun q hq => .tail _ (by rw [enw1]; exact .tail _ (.tail _ (.tail _ (.tail _ (.tail _ hq)))))) hxN hyN (rkC u) hr1 (esc_le id_lt hjc hu5 h4)) B0 F11 X0 N12 T0 rfl (by decide) (by decide) (by first | exact htk | omega) ?_
    intro S1 tS1 ps1 ex1 hS1 hps1 hc1x hn1 h13 tk13 htk F13 N13
    replace hS1 := page_codes (kk := id) hjc hu5 hS1
    (try clear F11)
    (try clear N11)
    (try clear N12)
    k_extra "m:my run"
    with_reducible rename News _ _ _ _ => N14
    with_reducible rename Fr _ _ _ _ => F14
    refine use_call (pageW w tx tj hjl lP nP vsP xsP (ex1 ++ nw1) _ ps1 rfl hps1 (fun q hq => (List.mem_append.mp hq).elim (hn1 q) (h201 q)) (.tail _ (List.mem_append_right _ (by rw [enw1]; exact .tail _ (.head _)))) (tvs_of_svs hSV) hxP hyP (rkC (u.map swp)) hr2 (esc_le swp_lt' hu2 hl2 h42)) B0 F14 X0 N14 T0 rfl (by decide) (by decide) (by first | exact htk | omega) ?_
    intro S2 tS2 ps2 ex2 hS2 hps2 hc2x hn2 h15 tk15 htk F15 N15
    replace hS2 := page_codes (kk := swp) hu2 hl2 hS2
    (try clear F14)
    (try clear N14)
    (try clear F13)
    (try clear N13)
    k_extra "m:my run"
    with_reducible rename News _ _ _ _ => N16
    with_reducible rename Fr _ _ _ _ => F16
    refine use_call (dueW w tx (Str.ofString "\r&<>") tj _ hjl (fK id) u hu5 h4 (sgS id) (item_sg hjc hu5) sg_idx1 (rS id) sg_ref1 (fun c _ => rfl) _) B0 F16 X0 N16 T0 rfl (by decide) (by decide) (by first | exact htk | omega) ?_
    intro D1 tD1 hD1 h17 tk17 htk F17 N17
    obtain rfl := due_same hu5 h4 hS1 hD1
    (try clear hD1)
    (try clear F16)
    (try clear N16)
    (try clear F15)
    (try clear N15)
    k_extra "m:my run"
    refine PyProof.Rows.ne_str ?_
    rw [bne_self_eq_false]
    k_extra "m:my run"
    with_reducible rename News _ _ _ _ => N18
    with_reducible rename Fr _ _ _ _ => F18
    refine use_call (dueW w tx (Str.ofString "\r&><") tj _ hjl (fK swp) (u.map swp) hl2 h42 (sgS swp) (item_sg hu2 hl2) sg_idx2 (rS swp) sg_ref2 (fun c _ => rfl) _) B0 F18 X0 N18 T0 rfl (by decide) (by decide) (by first | exact htk | omega) ?_
    intro D2 tD2 hD2 h19 tk19 htk F19 N19
    obtain rfl := due_same hl2 h42 hS2 hD2
    clear hD2
    k_extra "m:my run"
    refine PyProof.Rows.ne_str ?_
    rw [bne_self_eq_false]
    k_extra "m:my run"
    refine my_comp (by first | exact htk | omega | (dsimp only; omega)) (by with_unfolding_all rfl) rfl (by decide) ?_ (fun _ => rfl)
    k_extra "m:my run"
    with_reducible rename News _ _ _ _ => N20
    with_reducible rename Fr _ _ _ _ => F20
    refine my_comp_str (fun i ys news => news = (201, tabObj ps2) :: (ex2 ++ (ex1 ++ nw1)) ∧ IntsAre ys (([20, 21, 17, 19, 13] : List Int).take i)) rfl (by decide) rfl rfl (by decide +kernel) F20 N20 ⟨rfl, .nil⟩ ?_ ?_ ?_
    · rintro i ys news ⟨_, h⟩
      have := h.length
      rw [List.length_take] at this
      simp at this
      omega
    · rintro i c t h9 tk9 hc htk ys news₁ I oI C oC D m₂ E' ⟨rfl, hys⟩ hC hx F₁ N₁ hoff hne hks
      unfold tests
      dsimp only at F₁ N₁ ⊢
      k_extra "m:my run"
      obtain ⟨hm1, hm2, hm3⟩ := marks i c hc
      obtain ⟨tv, hv⟩ := (tok_pis w).mem ⟨#[c]⟩ hm1
      refine item283 F₁ X0 hv ?_ (by with_unfolding_all rfl) (fun _ => by with_unfolding_all rfl)
      exact hid ⟨_, _, _, rfl, F₁, N₁, hoff, hks, rfl, hm2 ▸ ints_app hys (.cons _ _ .nil)⟩
    · rintro ys news' ⟨rfl, hys⟩
      intro D h9 tk9 F₂ N₂ hD htk
      dsimp only at htk F₂ N₂ ⊢
      k_extra "m:my run"
      with_reducible rename News _ _ _ _ => N21
      with_reducible rename Fr _ _ _ _ => F21
      obtain ⟨exK, hK1, hK2, hK3⟩ := tab_cut (l := ex2 ++ (ex1 ++ nw1)) (r := []) (by rw [List.append_nil]; exact hps2)
      simp only [List.append_nil] at hK1 hK3
      have hin : ∀ q ∈ nw1, q ∈ ex2 ++ (ex1 ++ nw1) := fun q hq => List.mem_append_right _ (List.mem_append_right _ hq)
      have i1 : (LL + 1 + 1, oP) ∈ nw1 := by rw [enw1]; simp
      have i2 : (LL + 1 + 1 + 1, oT) ∈ nw1 := by rw [enw1]; simp
      have i3 : (lT, listOf (List.replicate 10 Value.none).toArray nT) ∈ nw1 := by rw [enw1]; simp
      have N22 : News (ghostOf _ _) LL _ ((LL + 1 + 1, oP) :: (LL + 1 + 1 + 1, oT) :: (lT, listOf (List.replicate 10 Value.none).toArray nT) :: (201, tabObj ps2) :: exK) := news_sub N21 (by
        intro q hq
        refine .tail _ (.tail _ ?_)
        rcases List.mem_cons.mp hq with rfl | hq
        · exact .tail _ (hin _ i1)
        rcases List.mem_cons.mp hq with rfl | hq
        · exact .tail _ (hin _ i2)
        rcases List.mem_cons.mp hq with rfl | hq
        · exact .tail _ (hin _ i3)
        rcases List.mem_cons.mp hq with rfl | hq
        · exact .head _
        · exact .tail _ (hK1 q hq))
      have k1 : ∀ q ∈ exK, @Ne Nat q.1 (LL + 1 + 1) := fun q hq => ne_obk N22 (.head _) (.tail _ (.tail _ (.tail _ (.tail _ hq)))) (code_ne_cell (hK2 q hq) dP)
      have k2 : ∀ q ∈ exK, @Ne Nat q.1 (LL + 1 + 1 + 1) := fun q hq => ne_obk N22 (.tail _ (.head _)) (.tail _ (.tail _ (.tail _ (.tail _ hq)))) (code_ne_cell (hK2 q hq) dT)
      have k3 : ∀ q ∈ exK, @Ne Nat q.1 lT := fun q hq => ne_obk N22 (.tail _ (.tail _ (.head _))) (.tail _ (.tail _ (.tail _ (.tail _ hq)))) (code_ne_list (hK2 q hq))
      refine use_call (symW w D1 tS1 (Nat.le_trans (page_le id_lt hu5 h4 hS1) (by decide)) (symP id (treesP u)) (hS1 ▸ lex_page id_lt _ (trees_lt hu5 h4)) _) B0 F21 X0 N22 T0 rfl (by decide) (by decide) (by first | exact htk | omega) ?_
      intro lF nF vsF hF gF h23 tk23 htk F23 N23
      k_extra "m:my run"
      with_reducible rename News _ _ _ _ => N24
      with_reducible rename Fr _ _ _ _ => F24
      refine use_call (valW w lF nF vsF (symP id (treesP u)) hF (symP_nz _ _) (sym_le id hu5 h4) (sumP id u) (val_page id_lt _ (trees_lt hu5 h4) (trees_sum hu5 h4)) _ (.head _)) B0 F24 X0 N24 T0 rfl (by decide) (by decide) (by first | exact htk | omega) ?_
      rintro v exV ⟨aP, oPd, kP, rfl, mP, loP, ddP, pP⟩ h25 tk25 htk F25 N25
      have N26 : News (ghostOf _ _) LL _ ((aP, oPd) :: (LL + 1 + 1, oP) :: (LL + 1 + 1 + 1, oT) :: (lT, listOf (List.replicate 10 Value.none).toArray nT) :: (201, tabObj ps2) :: exK) := news_sub N25 (by
        intro q hq
        rcases List.mem_cons.mp hq with rfl | hq
        · exact List.mem_append_left _ mP
        · exact List.mem_append_right _ (.tail _ hq))
      have q1 : @Ne Nat aP (LL + 1 + 1) := ne_obk N26 (.tail _ (.head _)) (.head _) (dict_ne_cell ddP dP)
      have q2 : @Ne Nat aP (LL + 1 + 1 + 1) := ne_obk N26 (.tail _ (.tail _ (.head _))) (.head _) (dict_ne_cell ddP dT)
      have q3 : @Ne Nat aP lT := ne_obk N26 (.tail _ (.tail _ (.tail _ (.head _)))) (.head _) (dict_ne_list ddP)
      have q4 : ∀ q ∈ exK, @Ne Nat q.1 aP := fun q hq => ne_obk N26 (.head _) (.tail _ (.tail _ (.tail _ (.tail _ (.tail _ hq))))) (dict_ne_code ddP (hK2 q hq))
      k_extra "m:my run"
      with_reducible rename News _ _ _ _ => N27
      with_reducible rename Fr _ _ _ _ => F27
      have hU : UpdF (LL + 1 + 1) oP ((aP, oPd) :: (LL + 1 + 1, oP) :: (LL + 1 + 1 + 1, oT) :: (lT, listOf (List.replicate 10 Value.none).toArray nT) :: (201, tabObj ps2) :: exK) (fun o' => (aP, oPd) :: (LL + 1 + 1, o') :: (LL + 1 + 1 + 1, oT) :: (lT, listOf (List.replicate 10 Value.none).toArray nT) :: (201, tabObj ps2) :: exK) :=
        .tail q1 (.head fun q hq => by
          rcases List.mem_cons.mp hq with rfl | hq
          · show @Ne Nat _ _; omega
          rcases List.mem_cons.mp hq with rfl | hq
          · show @Ne Nat _ _; dsimp only; omega
          rcases List.mem_cons.mp hq with rfl | hq
          · show @Ne Nat _ _; dsimp only; omega
          · exact k1 q hq)
      refine storeX_C F27 N27 ?hc hU dP ?_ ?hk ?hx
      case hk => rfl
      case hc => kernel_rfl
      case hx => kernel_rfl
      intro h28 oP2 F28 N28 dP2
      (try dsimp only at N28)
      clear hU
      k_extra "m:my run"
      with_reducible rename News _ _ _ _ => N29
      with_reducible rename Fr _ _ _ _ => F29
      refine use_call (symW w D2 tS2 (Nat.le_trans (page_le swp_lt' hl2 h42 hS2) (by decide)) (symP swp (treesP (u.map swp))) (hS2 ▸ lex_page swp_lt' _ (trees_lt hl2 h42)) _) B0 F29 X0 N29 T0 rfl (by decide) (by decide) (by first | exact htk | omega) ?_
      intro lF2 nF2 vsF2 hF2 gF2 h30 tk30 htk F30 N30
      k_extra "m:my run"
      with_reducible rename News _ _ _ _ => N31
      with_reducible rename Fr _ _ _ _ => F31
      refine use_call (valW w lF2 nF2 vsF2 (symP swp (treesP (u.map swp))) hF2 (symP_nz _ _) (sym_le swp hl2 h42) (sumP swp (u.map swp)) (val_page swp_lt' _ (trees_lt hl2 h42) (trees_sum hl2 h42)) _ (.head _)) B0 F31 X0 N31 T0 rfl (by decide) (by decide) (by first | exact htk | omega) ?_
      rintro v exV2 ⟨aT, oTd, kT, rfl, mT, loT, ddT, pT⟩ h32 tk32 htk F32 N32
      -- of the values' objects only the dicts are kept
      have N33 : News (ghostOf _ _) LL _ ((aT, oTd) :: (aP, oPd) :: (LL + 1 + 1, oP2) :: (LL + 1 + 1 + 1, oT) :: (lT, listOf (List.replicate 10 Value.none).toArray nT) :: (201, tabObj ps2) :: exK) := news_sub N32 (by
        intro q hq
        rcases List.mem_cons.mp hq with rfl | hq
        · exact List.mem_append_left _ mT
        · exact List.mem_append_right _ (.tail _ hq))
      have r1 : @Ne Nat aT (LL + 1 + 1) := ne_obk N33 (.tail _ (.tail _ (.head _))) (.head _) (dict_ne_cell ddT dP2)
      have r2 : @Ne Nat aT (LL + 1 + 1 + 1) := ne_obk N33 (.tail _ (.tail _ (.tail _ (.head _)))) (.head _) (dict_ne_cell ddT dT)
      have r3 : @Ne Nat aT lT := ne_obk N33 (.tail _ (.tail _ (.tail _ (.tail _ (.head _))))) (.head _) (dict_ne_list ddT)
      k_extra "m:my run"
      with_reducible rename News _ _ _ _ => N34
      with_reducible rename Fr _ _ _ _ => F34
      have hU : UpdF (LL + 1 + 1 + 1) oT ((aT, oTd) :: (aP, oPd) :: (LL + 1 + 1, oP2) :: (LL + 1 + 1 + 1, oT) :: (lT, listOf (List.replicate 10 Value.none).toArray nT) :: (201, tabObj ps2) :: exK) (fun o' => (aT, oTd) :: (aP, oPd) :: (LL + 1 + 1, oP2) :: (LL + 1 + 1 + 1, o') :: (lT, listOf (List.replicate 10 Value.none).toArray nT) :: (201, tabObj ps2) :: exK) :=
        .tail r2 (.tail q2 (.tail (by show @Ne Nat _ _; omega) (.head fun q hq => by
          rcases List.mem_cons.mp hq with rfl | hq
          · show @Ne Nat _ _; dsimp only; omega
          rcases List.mem_cons.mp hq with rfl | hq
          · show @Ne Nat _ _; dsimp only; omega
          · exact k2 q hq)))
      refine storeX_C F34 N34 ?hc hU dT ?_ ?hk ?hx
      case hk => rfl
      case hc => kernel_rfl
      case hx => kernel_rfl
      intro h35 oT2 F35 N35 dT2
      (try dsimp only at N35)
      clear hU
      have hg1 : GoodP kap (sumP id u) tx.cps.toList := hjc ▸ good_page (kk := id) hu5 h4 kap1
      have hg2 : GoodP (fun c => swp (kap c)) (sumP swp (u.map swp)) tx.cps.toList := hu2 ▸ good_page (kk := swp) hl2 h42 kap2
      obtain ⟨tv1, hv1⟩ := good_val pP hg1
      obtain ⟨tv2, hv2⟩ := good_val pT hg2
      k_extra "m:my run"
      with_reducible rename News _ _ _ _ => N36
      refine kdg_method (knd := SK w) N36 (.tail _ (.head _)) ddP ?_
      k_extra "m:my run"
      with_reducible rename News _ _ _ _ => N36
      refine kdg_get2 (knd := SK w) N36 (.tail _ (.head _)) ddP loP (PySem.strKind_is _ w _ _) _ hv1 ?_
      dsimp only [Option.getD_some]
      k_extra "m:my run"
      with_reducible rename News _ _ _ _ => N36
      refine kdg_method (knd := SK w) N36 (.head _) ddT ?_
      k_extra "m:my run"
      with_reducible rename News _ _ _ _ => N36
      refine kdg_get2 (knd := SK w) N36 (.head _) ddT loT (PySem.strKind_is _ w _ _) _ hv2 ?_
      dsimp only [Option.getD_some]
      k_extra "m:my run"
      refine my_comp (by first | exact htk | omega | (dsimp only; omega)) (by with_unfolding_all rfl) rfl (by decide) ?_ (fun _ => rfl)
      k_extra "m:my run"
      with_reducible rename News _ _ _ _ => N37
      with_reducible rename Fr _ _ _ _ => F37
      obtain ⟨NW, eNW⟩ : ∃ NW : List (Addr × Obj), NW = (aT, oTd) :: (aP, oPd) :: (LL + 1 + 1, oP2) :: (LL + 1 + 1 + 1, oT2) :: (lT, listOf (List.replicate 10 Value.none).toArray nT) :: (201, tabObj ps2) :: exK := ⟨_, rfl⟩
      refine my_comp_dict (fun i ys news => news = (aT, oTd) :: (aP, oPd) :: (LL + 1 + 1, oP2) :: (LL + 1 + 1 + 1, oT2) :: (lT, listOf (List.replicate 10 Value.none).toArray nT) :: (201, tabObj ps2) :: exK ∧ ys.length ≤ 32 ∧ i ≤ (sumP id u).length ∧ IntsAre ys (((sumP id u).map (·.2)).take i)) rfl (by decide) rfl rfl loP (.tail _ (.head _)) ddP F37 N37 ⟨rfl, Nat.zero_le _, Nat.zero_le _, .nil⟩ ?_ ?_ ?_
      · rintro i ys news ⟨_, h, _⟩
        omega
      · rintro i k t y h9 tk9 hi htk ys news₁ I oI C oC D m₂ E' ⟨rfl, hy32, hil, hys⟩ hC hx F₁ N₁ hoff hne hks
        unfold tests
        dsimp only at F₁ N₁ ⊢
        obtain ⟨v, ty, rfl, hPi⟩ := pP.at i k y hi
        obtain ⟨hgk, hmk⟩ := get_at hg1.1 i hPi
        obtain ⟨t9, hv9⟩ := pP.mem k hmk
        rw [hgk] at hv9
        k_extra "m:my run"
        with_reducible rename News _ _ _ _ => N38
        refine kda_item N38 (.tail _ (.tail _ (.tail _ (.tail _ (.head _))))) ddP (PySem.strKind_is _ w _ _) hv9 ?_
        k_extra "m:my run"
        refine hid ⟨_, _, _, rfl, (by assumption), N38, hoff, hks, rfl, ?_⟩
        have hil2 := (List.getElem?_eq_some_iff.mp hPi).1
        have hpl := (page_len (kk := id) hu5 h4).1
        have hyl := hys.length
        rw [List.length_take, List.length_map] at hyl
        refine ⟨by rw [List.length_append, List.length_singleton]; omega, hil2, ?_⟩
        rw [take_snoc (a := v) (by rw [List.getElem?_map, hPi]; rfl)]
        exact ints_app hys (.cons _ _ .nil)
      · rintro ys news' ⟨rfl, hy32, hil, hys⟩
        intro D h9 tk9 F₂ N₂ hD htk
        dsimp only at htk F₂ N₂ ⊢
        rw [pP.len, show ((sumP id u).map (·.2)).take (sumP id u).length = (sumP id u).map (·.2) from List.take_of_length_le (by rw [List.length_map]; exact Nat.le_refl _)] at hys
        have hsum1 : ((sumP id u).map (·.2)).sum = if (treesP u).all isLeaf then 1 else 0 := (phi_sum _).symm.trans (sum_page id u)
        k_extra "m:my run"
        refine PyProof.Rows.notIn_str ?_
        rw [page_b id_lt hS1 (trees_lt hu5 h4), Bool.not_not]
        k_extra "m:my run"
        with_reducible rename News _ _ _ _ => N39
        have N40 : News (ghostOf _ _) LL _ ((aT, oTd) :: (aP, oPd) :: (LL + 1 + 1, oP2) :: (LL + 1 + 1 + 1, oT2) :: (lT, listOf (List.replicate 10 Value.none).toArray nT) :: (201, tabObj ps2) :: exK) := news_sub N39 fun q hq => .tail _ hq
        with_reducible rename Fr _ _ _ _ => F40
        refine my_comp (by first | exact htk | omega | (dsimp only; omega)) (by with_unfolding_all rfl) rfl (by decide) ?_ (fun _ => rfl)
        k_extra "m:my run"
        with_reducible rename News _ _ _ _ => N41
        with_reducible rename Fr _ _ _ _ => F41
        refine my_comp_dict (fun i ys news => news = (aT, oTd) :: (aP, oPd) :: (LL + 1 + 1, oP2) :: (LL + 1 + 1 + 1, oT2) :: (lT, listOf (List.replicate 10 Value.none).toArray nT) :: (201, tabObj ps2) :: exK ∧ ys.length ≤ 32 ∧ i ≤ (sumP swp (u.map swp)).length ∧ IntsAre ys (((sumP swp (u.map swp)).map (·.2)).take i)) rfl (by decide) rfl rfl loT (.head _) ddT F41 N41 ⟨rfl, Nat.zero_le _, Nat.zero_le _, .nil⟩ ?_ ?_ ?_
        · rintro i ys news ⟨_, h, _⟩
          omega
        · rintro i k t y h9 tk9 hi htk ys news₁ I oI C oC D m₂ E' ⟨rfl, hy32, hil, hys⟩ hC hx F₁ N₁ hoff hne hks
          unfold tests
          dsimp only at F₁ N₁ ⊢
          obtain ⟨v, ty, rfl, hPi⟩ := pT.at i k y hi
          obtain ⟨hgk, hmk⟩ := get_at hg2.1 i hPi
          obtain ⟨t9, hv9⟩ := pT.mem k hmk
          rw [hgk] at hv9
          k_extra "m:my run"
          with_reducible rename News _ _ _ _ => N42
          refine kda_item N42 (.tail _ (.tail _ (.tail _ (.head _)))) ddT (PySem.strKind_is _ w _ _) hv9 ?_
          k_extra "m:my run"
          refine hid ⟨_, _, _, rfl, (by assumption), N42, hoff, hks, rfl, ?_⟩
          have hil2 := (List.getElem?_eq_some_iff.mp hPi).1
          have hpl := (page_len (kk := swp) hl2 h42).1
          have hyl := hys.length
          rw [List.length_take, List.length_map] at hyl
          refine ⟨by rw [List.length_append, List.length_singleton]; omega, hil2, ?_⟩
          rw [take_snoc (a := v) (by rw [List.getElem?_map, hPi]; rfl)]
          exact ints_app hys (.cons _ _ .nil)
        · rintro ys news' ⟨rfl, hy32, hil, hys⟩
          intro D h9 tk9 F₂ N₂ hD htk
          dsimp only at htk F₂ N₂ ⊢
          rw [pT.len, show ((sumP swp (u.map swp)).map (·.2)).take (sumP swp (u.map swp)).length = (sumP swp (u.map swp)).map (·.2) from List.take_of_length_le (by rw [List.length_map]; exact Nat.le_refl _)] at hys
          have hsum2 : ((sumP swp (u.map swp)).map (·.2)).sum = if (treesP (u.map swp)).all isLeaf then 1 else 0 := (phi_sum _).symm.trans (sum_page swp (u.map swp))
          k_extra "m:my run"
          refine PyProof.Rows.notIn_str ?_
          rw [page_b swp_lt' hS2 (trees_lt hl2 h42), Bool.not_not]
          k_extra "m:my run"
          rename_i z6_0 z6_1 z6_2 z6_3 z6_4 z6_5 z6_6 z6_7 z6_8 z6_9 z6_10 z6_11 z6_12 z6_13 z6_14 z6_15 z6_16 z6_17 z6_18 z6_19 z6_20 z6_21 z6_22 z6_23 z6_24 z6_25 z6_26 z6_27 z6_28 z6_29 z6_30 z6_31 z6_32 z6_33 z6_34 z6_35 z6_36 z6_37 z6_38 z6_39 z6_40 z6_41 z6_42 z6_43 z6_44 z6_45 z6_46 z6_47 z6_48 z6_49 z6_50 z6_51 z6_52 z6_53 z6_54 z6_55 z6_56 z6_57 z6_58 z6_59 z6_60 z6_61 z6_62 z6_63 z6_64 z6_65 z6_66 z6_67 z6_68 z6_69 z6_70 z6_71 z6_72 z6_73 z6_74 z6_75 z6_76 z6_77 z6_78 z6_79 z6_80 z6_81 z6_82 z6_83 z6_84 z6_85 z6_86 z6_87 z6_88 z6_89 z6_90 z6_91 z6_92 z6_93 z6_94 z6_95 z6_96 z6_97 z6_98 z6_99 z6_100 z6_101 z6_102 z6_103 z6_104 z6_105 z6_106 z6_107 z6_108 z6_109 z6_110 z6_111 z6_112 z6_113 z6_114 z6_115 z6_116 z6_117 z6_118 z6_119 z6_120 z6_121 z6_122 z6_123 z6_124
          clear G Y ho hcd hT8 X V T B TE TW hT9 hs hlay0 hL hr z6_0 ra hI0 z6_1 hlen0 hcond2 z6_2 codeHd z6_3 hi0 hL2 w1 r0 left1 left2 hL0 hc0 hc1 hc2 hc3 z6_4 dT dP hA4 hA3 hA2 hA1 eLL dC2 z6_6 z6_7 hR9 hole8 z6_8 hsm hrs hi5 hzs hzl hsum hcat z6_13 z6_14 z6_15 z6_16 z6_18 z6_20 z6_21 eu hn hTV hSV hPI ho1 ho2 g3 gAll z6_22 z6_27 z6_29 z6_30 hxN hxP hyP hyN hr1 hr2 hu2 g0 gP enw1 h201 hps1 hc1x hn1 z6_31 z6_33 z6_35 z6_36 hps2 hc2x hn2 z6_37 z6_39 z6_41 z6_42 z6_43 hS1 z6_44 z6_45 hS2 z6_47 z6_48 z6_50 z6_51 z6_53 z6_57 z6_58 z6_59 z6_62 z6_64 z6_65 z6_67 z6_68 hK2 hK1 hK3 hin i1 i2 i3 k1 k2 hF gF z6_69 z6_70 mP z6_71 q1 q2 q4 z6_72 z6_74 z6_75 hF2 gF2 z6_76 z6_77 mT z6_78 r1 r2 hv1 hv2 z6_79 z6_81 z6_82 z6_83 z6_85 z6_86 z6_88 z6_89 eNW z6_91 z6_92 z6_93 z6_97 z6_98 hsum1 z6_99 z6_103 z6_105 z6_106 z6_108 z6_109 hy32 hil hD z6_110 hsum2 z6_111 z6_115 z6_117 z6_118 z6_119
          (try clear tk)
          (try clear z6_123)
          (try clear z6_121)
          (try clear z6_120)
          (try clear z6_116)
          (try clear z6_114)
          (try clear z6_113)
          (try clear z6_112)
          (try clear tk9)
          (try clear h9)
          (try clear D)
          (try clear ys)
          (try clear z6_107)
          (try clear z6_104)
          (try clear z6_102)
          (try clear z6_101)
          (try clear z6_100)
          (try clear z6_96)
          (try clear z6_95)
          (try clear z6_94)
          (try clear z6_90)
          (try clear NW)
          (try clear z6_87)
          (try clear z6_84)
          (try clear z6_80)
          (try clear tv2)
          (try clear tv1)
          (try clear oT2)
          (try clear h35)
          (try clear tk32)
          (try clear h32)
          (try clear kT)
          (try clear oTd)
          (try clear aT)
          (try clear exV2)
          (try clear tk30)
          (try clear h30)
          (try clear vsF2)
          (try clear nF2)
          (try clear lF2)
          (try clear z6_73)
          (try clear oP2)
          (try clear h28)
          (try clear tk25)
          (try clear h25)
          (try clear kP)
          (try clear oPd)
          (try clear aP)
          (try clear exV)
          (try clear tk23)
          (try clear h23)
          (try clear vsF)
          (try clear nF)
          (try clear lF)
          (try clear exK)
          (try clear z6_66)
          (try clear z6_63)
          (try clear z6_61)
          (try clear z6_60)
          (try clear z6_56)
          (try clear z6_55)
          (try clear z6_54)
          (try clear z6_52)
          (try clear z6_49)
          (try clear z6_46)
          (try clear tk19)
          (try clear h19)
          (try clear tD2)
          (try clear D2)
          (try clear tk17)
          (try clear h17)
          (try clear tD1)
          (try clear D1)
          (try clear z6_40)
          (try clear z6_38)
          (try clear tk15)
          (try clear h15)
          (try clear ex2)
          (try clear ps2)
          (try clear tS2)
          (try clear z6_34)
          (try clear z6_32)
          (try clear tk13)
          (try clear h13)
          (try clear ex1)
          (try clear ps1)
          (try clear tS1)
          (try clear nw1)
          (try clear z6_28)
          (try clear z6_26)
          (try clear z6_25)
          (try clear z6_24)
          (try clear z6_23)
          (try clear tk10)
          (try clear h10)
          (try clear xsP)
          (try clear xsN)
          (try clear objs)
          (try clear vsP)
          (try clear vsN)
          (try clear nT)
          (try clear nP)
          (try clear nN)
          (try clear lU)
          (try clear lT)
          (try clear lP)
          (try clear lN)
          (try clear n)
          (try clear u)
          (try clear z6_19)
          (try clear z6_17)
          (try clear tx)
          (try clear kj)
          (try clear tj)
          (try clear z6_12)
          (try clear z6_11)
          (try clear z6_10)
          (try clear zs)
          (try clear z6_9)
          (try clear hole4)
          (try clear hole3)
          (try clear hole2)
          (try clear hole1)
          (try clear hole0)
          (try clear z6_5)
          (try clear oC2)
          (try clear h3)
          (try clear LL)
          (try clear oC)
          (try clear oP)
          (try clear oT)
          (try clear tk2)
          (try clear h2)
          (try clear t1)
          (try clear t0)
          (try clear c1)
          (try clear c0)
          (try clear nC)
          (try clear lC)
          (try clear lS)
          (try clear hole)
          (try clear o2)
          (try clear o1)
          (try clear tk₁)
          (try clear h₁)
          (try clear e2)
          (try clear vs9)
          (try clear e5)
          (try clear e6)
          (try clear ns)
          (try clear doc)
          (try clear cd)
          (try clear pm)
          (try clear o)
          (try clear fa)
          (try clear mb)
          (try clear mg)
          (try clear s₁)
          (try clear s₀)
          (try clear w)
          revert hg X0 T0 B0 l0 hjl hjc hu5 h4 g1 g2 hl2 h42 gT k3 loP ddP pP q3 dP2 loT ddT pT r3 dT2 hg1 hg2 hys z6_122 z6_124 Nq htk
          revert w s₀ s₁ mg mb fa cd ns lS LL tj tx u lN lP lT nT tS1 tS2 ps2 D1 D2 exK aP oPd kP oP2 aT oTd kT oT2 ys D z6_112 z6_116 z6_120 z6_121 z6_123 tk
          as_aux_lemma =>
            intro w s₀ s₁ mg mb fa cd ns lS LL tj tx u lN lP lT nT tS1 tS2 ps2 D1 D2 exK aP oPd kP oP2 aT oTd kT oT2 ys D z6_112 z6_116 z6_120 z6_121 z6_123 tk
            intros hg X0 T0 B0 l0 hjl hjc hu5 h4 g1 g2 hl2 h42 gT k3 loP ddP pP q3 dP2 loT ddT pT r3 dT2 hg1 hg2 hys z6_122 z6_124 Nq htk
            with_reducible rename News _ _ _ _ => N50
            with_reducible rename Fr _ _ _ _ => F50
            with_reducible rename (@LT.lt Nat _ D _ ∧ _) => lR1
            obtain ⟨lR, eR, lR1⟩ : ∃ lR : Nat, lR = _ ∧ (@LT.lt Nat _ D lR ∧ @LT.lt Nat _ aT lR ∧ @LT.lt Nat _ aP lR ∧ @LT.lt Nat _ (LL + 1 + 1) lR ∧ @LT.lt Nat _ (LL + 1 + 1 + 1) lR ∧ @LT.lt Nat _ lT lR ∧ @LT.lt Nat _ 201 lR ∧ AllLt lR exK) := ⟨_, rfl, lR1⟩
            subst eR
            obtain ⟨-, w1, w2, w3, w4, w5, w6, w7⟩ := lR1
            have N51 : News (ghostOf _ _) LL _ ((lR, listOf ([] : List Value).toArray 0) :: (lT, listOf (List.replicate 10 Value.none).toArray nT) :: (aT, oTd) :: (aP, oPd) :: (LL + 1 + 1, oP2) :: (LL + 1 + 1 + 1, oT2) :: (201, tabObj ps2) :: exK) := news_sub N50 (by
              intro q hq
              simp only [List.nil_append, List.mem_cons] at hq ⊢
              rcases hq with h | h | h | h | h | h | h | h <;> simp [h])
            have hbR : ∀ q ∈ (aT, oTd) :: (aP, oPd) :: (LL + 1 + 1, oP2) :: (LL + 1 + 1 + 1, oT2) :: (201, tabObj ps2) :: exK, @Ne Nat q.1 lR := by
              intro q hq
              simp only [List.mem_cons] at hq
              rcases hq with rfl | rfl | rfl | rfl | rfl | h
              · exact Nat.ne_of_lt w1
              · exact Nat.ne_of_lt w2
              · exact Nat.ne_of_lt w3
              · exact Nat.ne_of_lt w4
              · exact Nat.ne_of_lt w6
              · exact Nat.ne_of_lt (allLt_mem w7 q h)
            have hbT : ∀ q ∈ (aT, oTd) :: (aP, oPd) :: (LL + 1 + 1, oP2) :: (LL + 1 + 1 + 1, oT2) :: (201, tabObj ps2) :: exK, @Ne Nat q.1 lT := by
              intro q hq
              simp only [List.mem_cons] at hq
              rcases hq with rfl | rfl | rfl | rfl | rfl | h
              · exact r3
              · exact q3
              · show @Ne Nat _ _; dsimp only; omega
              · show @Ne Nat _ _; dsimp only; omega
              · show @Ne Nat _ _; dsimp only; omega
              · exact k3 q h
            have hpl1 := page_len (kk := id) hu5 h4
            refine my_For (by first | exact htk | omega) ?_ (fun _ => rfl)
            k_extra "m:my run"
            with_reducible rename News _ _ _ _ => N51
            with_reducible rename Fr _ _ _ _ => F51
            have hmP : (aP, oPd) ∈ (lR, listOf ([] : List Value).toArray 0) :: (lT, listOf (List.replicate 10 Value.none).toArray nT) :: (aT, oTd) :: (aP, oPd) :: (LL + 1 + 1, oP2) :: (LL + 1 + 1 + 1, oT2) :: (201, tabObj ps2) :: exK := .tail _ (.tail _ (.tail _ (.head _)))
            obtain ⟨mm, hmm, F52⟩ : ∃ mm, Nm mm [(Str.ofString "text", .str tx tj), (Str.ofString "told", .ref lT), (Str.ofString "row", .ref lR)] ∧ Fr (ghostOf _ _) LL _ mm := ⟨_, ⟨by kernel_rfl, by kernel_rfl, by kernel_rfl, trivial⟩, F51⟩
            refine my_dict (RowJ w lR lT (sumP id u) [(aT, oTd), (aP, oPd), (LL + 1 + 1, oP2), (LL + 1 + 1 + 1, oT2), (201, tabObj ps2)] exK [(Str.ofString "text", .str tx tj), (Str.ofString "told", .ref lT), (Str.ofString "row", .ref lR)]) rfl rfl rfl loP hmP ddP F52 N51 (by first | exact htk | omega) ⟨[], 0, nT, 10, [], [], rfl, ⟨⟨rfl, fun i v x h => by simp at h⟩, fun v hv => (nomatch hv)⟩, rowQ0 _ _, by omega, fun q hq => (nomatch hq), hmm⟩ ?_ ?_
            · rintro i k t y m₁ news₁ h₁ tk₁ I it hi htk F₁ N₁ hI hks ⟨vsR, nR, nT1, jn, xs, objs1, rfl, ⟨hvR, hvA⟩, hQ, hjn, hob, hnm⟩
              obtain ⟨v, ty, rfl, hPi⟩ := pP.at i k y hi
              obtain ⟨hgk, hmk⟩ := get_at hg1.1 i hPi
              obtain ⟨t9, hv9⟩ := pP.mem k hmk
              rw [hgk] at hv9
              have hil := (List.getElem?_eq_some_iff.mp hPi).1
              replace F₁ := fr_nm1 F₁ hnm
              dsimp only [kstB] at F₁
              replace F₁ : Fr (ghostOf _ _) LL h₁ _ := F₁
              replace N₁ : News (ghostOf _ _) LL h₁ _ := N₁
              simp only [List.cons_append, List.nil_append] at N₁
              k_extra "m:my run"
              with_reducible rename News _ _ _ _ => N53
              refine kda_item N53 (.tail _ (.tail _ (.tail _ (.tail _ (.head _))))) ddP (PySem.strKind_is _ w _ _) hv9 ?_
              have hxl : xs.length = vsR.length := hvR.1.symm
              by_cases hv0 : v = 0
              · subst hv0
                k_extra "m:my run"
                with_reducible rename News _ _ _ _ => N54
                with_reducible rename Fr _ _ _ _ => F54
                refine ⟨_, _, _, _, rfl, (by first | exact htk | omega), F54, N54, hI, fun q hq => by rw [List.mem_singleton.mp hq]; exact .tail _ (.tail _ (.tail _ (.head _))), ⟨vsR, nR, nT1, jn, xs, objs1, rfl, ⟨hvR, hvA⟩, rowQ_skip hQ hPi, by omega, hob, by kernel_rfl, by kernel_rfl, by kernel_rfl, trivial⟩⟩
              · k_extra "m:my run"
                any_goals (try exact absurd (by assumption) hv0)
                with_reducible rename News _ _ _ _ => N55
                with_reducible rename Fr _ _ _ _ => F55
                refine use_call (qn_new w _ k t) B0 F55 X0 N55 T0 rfl (by decide) (by decide) (by first | exact htk | omega) ?_
                intro a2 d2 k2 hlt hda h2 tk2 htk F2 N2
                replace hda : @LT.lt Nat _ d2 a2 := hda
                k_extra "m:my run"
                obtain ⟨pp, hp1, hp2, hQ2⟩ := rowQ_put hQ hg1.1 inj1 hPi
                have dR : @LT.lt Nat _ lR d2 := hlt (lR, listOf vsR.toArray nR) (.tail _ (.head _))
                have dT9 : @LT.lt Nat _ lT d2 := hlt (lT, listOf (List.replicate jn Value.none).toArray nT1) (.tail _ (.tail _ (.head _)))
                have dI : @LT.lt Nat _ I d2 := hlt (I, it) (.head _)
                have iR : @Ne Nat lR I := hI (lR, listOf vsR.toArray nR) (.head _)
                have iT : @Ne Nat lT I := hI (lT, listOf (List.replicate jn Value.none).toArray nT1) (.tail _ (.head _))
                with_reducible rename News _ _ _ _ => N56
                with_reducible rename Fr _ _ _ _ => F56
                have N57 : News (ghostOf _ _) LL _ ((lR, listOf vsR.toArray nR) :: (a2, instObj 117 d2) :: (d2, qd w k2 k t) :: (I, it) :: (lT, listOf (List.replicate jn Value.none).toArray nT1) :: (aT, oTd) :: (aP, oPd) :: (LL + 1 + 1, oP2) :: (LL + 1 + 1 + 1, oT2) :: (201, tabObj ps2) :: (objs1 ++ exK)) := news_sub N56 (by k_extra "m:my sub")
                refine use_call (insRPlain w _ lR vsR nR xs (.ref a2) k pp ?_ ⟨hvR.1, fun i v z h1 h2 => tv_mono (hvR.2 i v z h1 h2) fun q hq => ?_⟩ (.qn a2 d2 k2 k t (.tail _ (.head _)) (.tail _ (.tail _ (.head _)))) ?_ (by omega) (fun j z hz => (hp2 j z hz).1)) B0 F56 X0 N57 T0 rfl (by decide) (by decide) (by first | exact htk | omega) ?_
                · intro q hq
                  rcases List.mem_cons.mp hq with rfl | hq
                  · show @Ne Nat _ _; dsimp only; omega
                  rcases List.mem_cons.mp hq with rfl | hq
                  · show @Ne Nat _ _; dsimp only; omega
                  rcases List.mem_cons.mp hq with rfl | hq
                  · exact Ne.symm iR
                  rcases List.mem_cons.mp hq with rfl | hq
                  · exact Nat.ne_of_lt w5
                  exact ne_pre (Pr := fun q : Addr × Obj => @Ne Nat q.1 lR) hbR (fun q hq => (hob q hq).1) q hq
                · exact .tail _ (.tail _ (.tail _ (.tail _ (.tail _ (.tail _ (.tail _ (.tail _ (.tail _ (.tail _ (List.mem_append_left _ hq))))))))))
                · have := hQ.2.1
                  have := hpl1.1
                  omega
                intro h4 tk4 htk F4 N4
                k_extra "m:my run"
                with_reducible rename News _ _ _ _ => N58
                with_reducible rename Fr _ _ _ _ => F58
                have N59 : News (ghostOf _ _) LL _ ((lT, listOf (List.replicate jn Value.none).toArray nT1) :: (lR, listOf (insAt pp (Value.ref a2) vsR).toArray (nR + 1)) :: (a2, instObj 117 d2) :: (d2, qd w k2 k t) :: (I, it) :: (aT, oTd) :: (aP, oPd) :: (LL + 1 + 1, oP2) :: (LL + 1 + 1 + 1, oT2) :: (201, tabObj ps2) :: (objs1 ++ exK)) := news_sub N58 (by k_extra "m:my sub")
                refine my_append F58 N59 ?_ (by rw [List.length_replicate]; have := hpl1.1; omega) ?_
                · intro q hq
                  rcases List.mem_cons.mp hq with rfl | hq
                  · exact Ne.symm (Nat.ne_of_lt w5)
                  rcases List.mem_cons.mp hq with rfl | hq
                  · show @Ne Nat _ _; dsimp only; omega
                  rcases List.mem_cons.mp hq with rfl | hq
                  · show @Ne Nat _ _; dsimp only; omega
                  rcases List.mem_cons.mp hq with rfl | hq
                  · exact Ne.symm iT
                  exact ne_pre (Pr := fun q : Addr × Obj => @Ne Nat q.1 lT) hbT (fun q hq => (hob q hq).2) q hq
                intro h6 F60 N60
                rw [← List.replicate_succ'] at N60
                k_extra "m:my run"
                with_reducible rename News _ _ _ _ => N61
                with_reducible rename Fr _ _ _ _ => F61
                have N62 : News (ghostOf _ _) LL _ ((I, it) :: (lR, listOf (insAt pp (Value.ref a2) vsR).toArray (nR + 1)) :: (lT, listOf (List.replicate (jn + 1) Value.none).toArray (nT1 + 1)) :: (aT, oTd) :: (aP, oPd) :: (LL + 1 + 1, oP2) :: (LL + 1 + 1 + 1, oT2) :: (201, tabObj ps2) :: (((a2, instObj 117 d2) :: (d2, qd w k2 k t) :: objs1) ++ exK)) := news_sub N61 (by
                  intro q hq
                  simp only [List.cons_append, List.mem_cons, List.mem_append] at hq ⊢
                  rcases hq with h | h | h | h | h | h | h | h | h | h | h | h <;> simp [h])
                refine ⟨_, _, _, _, rfl, (by first | exact htk | omega), F61, N62, ?_, fun q hq => by rw [List.mem_singleton.mp hq]; exact .tail _ (.tail _ (.tail _ (.head _))), ⟨insAt pp (Value.ref a2) vsR, nR + 1, nT1 + 1, jn + 1, insAt pp k xs, (a2, instObj 117 d2) :: (d2, qd w k2 k t) :: objs1, rfl, ?_, hQ2, by omega, ?_, by kernel_rfl, by kernel_rfl, by kernel_rfl, trivial⟩⟩
                · intro q hq
                  rcases List.mem_cons.mp hq with rfl | hq
                  · exact iR
                  rcases List.mem_cons.mp hq with rfl | hq
                  · exact iT
                  refine ne_pre (Pr := fun q : Addr × Obj => @Ne Nat q.1 I) (fun q hq => hI q ?_) (fun q hq => ?_) q hq
                  · exact mem_pre hq
                  · rcases List.mem_cons.mp hq with rfl | hq
                    · show @Ne Nat _ _; dsimp only; omega
                    rcases List.mem_cons.mp hq with rfl | hq
                    · show @Ne Nat _ _; dsimp only; omega
                    · exact hI q (.tail _ (.tail _ (List.mem_append_right _ (List.mem_append_left _ hq))))
                · refine ⟨tvs_ins (tvs_mono hvR fun q hq => .tail _ (.tail _ hq)) (.qn a2 d2 k2 k t (.head _) (.tail _ (.head _))) (by omega), fun v hv => ?_⟩
                  unfold insAt at hv
                  rcases List.mem_append.mp hv with hv | hv
                  · exact hvA v (List.mem_of_mem_take hv)
                  rcases List.mem_cons.mp hv with rfl | hv
                  · exact ⟨a2, rfl⟩
                  · exact hvA v (List.mem_of_mem_drop hv)
                · intro q hq
                  rcases List.mem_cons.mp hq with rfl | hq
                  · exact ⟨by show @Ne Nat _ _; dsimp only; omega, by show @Ne Nat _ _; dsimp only; omega⟩
                  rcases List.mem_cons.mp hq with rfl | hq
                  · exact ⟨by show @Ne Nat _ _; dsimp only; omega, by show @Ne Nat _ _; dsimp only; omega⟩
                  · exact hob q hq
            · rintro h₁ tk₁ m₁ news₁ htk F₁ N₁ hks ⟨vsR, nR, nT1, jn, xs, objs1, rfl, ⟨hvR, hvA⟩, hQ, hjn, hob, hnm⟩
              replace F₁ := fr_nm F₁ hnm
              dsimp only [kstB] at F₁
              replace F₁ : Fr (ghostOf _ _) LL h₁ _ := F₁
              replace N₁ : News (ghostOf _ _) LL h₁ _ := N₁
              simp only [List.cons_append, List.nil_append] at N₁
              k_extra "m:my run"
              rename_i z7_0 z7_1 z7_2 z7_3 z7_4 z7_5 z7_6 z7_7 z7_8 z7_9 z7_10
              clear l0 g1 g2 gT k3 loP ddP q3 dP2 r3 z7_1 lR1 w1 w2 w3 w4 w6 w7 hbR z7_2 hmP hmm z7_3 hks hnm z7_4 z7_5
              (try clear tk)
              (try clear z7_9)
              (try clear z7_7)
              (try clear z7_6)
              (try clear objs1)
              (try clear xs)
              (try clear jn)
              (try clear nT1)
              (try clear nR)
              (try clear vsR)
              (try clear m₁)
              (try clear tk₁)
              (try clear h₁)
              (try clear mm)
              (try clear lR)
              (try clear z7_0)
              (try clear z6_123)
              (try clear z6_121)
              (try clear z6_116)
              (try clear z6_112)
              (try clear D)
              (try clear ys)
              (try clear oT2)
              (try clear kT)
              (try clear oTd)
              (try clear aT)
              (try clear oP2)
              (try clear kP)
              (try clear oPd)
              (try clear aP)
              (try clear exK)
              (try clear D2)
              (try clear D1)
              (try clear ps2)
              (try clear tS2)
              (try clear tS1)
              (try clear nT)
              (try clear lT)
              (try clear lP)
              (try clear lN)
              (try clear u)
              (try clear tx)
              (try clear tj)
              (try clear LL)
              (try clear lS)
              (try clear ns)
              (try clear cd)
              (try clear fa)
              (try clear mb)
              (try clear mg)
              (try clear s₁)
              (try clear s₀)
              (try clear w)
              revert hg X0 T0 B0 hjl hjc hu5 h4 hl2 h42 pP loT ddT pT dT2 hg1 hg2 hys w5 hbT hpl1 hvR hvA hQ hjn hob z7_8 z7_10 Nq htk
              revert w s₀ s₁ mg mb fa cd ns LL tj tx u lT ps2 exK aP oPd kP oP2 aT oTd kT oT2 ys lR h₁ tk₁ m₁ vsR nR nT1 jn xs objs1 z7_6 z7_7 z7_9 tk
              as_aux_lemma =>
                intro w s₀ s₁ mg mb fa cd ns LL tj tx u lT ps2 exK aP oPd kP oP2 aT oTd kT oT2 ys lR h₁ tk₁ m₁ vsR nR nT1 jn xs objs1 z7_6 z7_7 z7_9 tk
                intros hg X0 T0 B0 hjl hjc hu5 h4 hl2 h42 pP loT ddT pT dT2 hg1 hg2 hys w5 hbT hpl1 hvR hvA hQ hjn hob z7_8 z7_10 Nq htk
                with_reducible rename News _ _ _ _ => N70
                with_reducible rename Fr _ _ _ _ => F70
                rw [pP.len] at hQ hjn
                have hjn2 : jn ≤ 42 := by have := hpl1.1; omega
                with_reducible rename (@LT.lt Nat _ lR _ ∧ _) => lH1
                obtain ⟨lH, eH, lH1⟩ : ∃ lH : Nat, lH = _ ∧ (@LT.lt Nat _ lR lH ∧ @LT.lt Nat _ lT lH ∧ @LT.lt Nat _ aT lH ∧ @LT.lt Nat _ aP lH ∧ @LT.lt Nat _ (LL + 1 + 1) lH ∧ @LT.lt Nat _ (LL + 1 + 1 + 1) lH ∧ @LT.lt Nat _ 201 lH ∧ AllLt lH (objs1 ++ exK)) := ⟨_, rfl, lH1⟩
                subst eH
                obtain ⟨x1, x2, x3, x4, x5, x6, x7, x8⟩ := lH1
                have N71 : News (ghostOf _ _) LL _ ((lH, listOf ([] : List Value).toArray 0) :: (lT, listOf (List.replicate jn Value.none).toArray nT1) :: (lR, listOf vsR.toArray nR) :: (aT, oTd) :: (aP, oPd) :: (LL + 1 + 1, oP2) :: (LL + 1 + 1 + 1, oT2) :: (201, tabObj ps2) :: (objs1 ++ exK)) := news_sub N70 (by k_extra "m:my sub")
                have hRH : ∀ q ∈ (lR, listOf vsR.toArray nR) :: (aT, oTd) :: (aP, oPd) :: (LL + 1 + 1, oP2) :: (LL + 1 + 1 + 1, oT2) :: (201, tabObj ps2) :: (objs1 ++ exK), @Ne Nat q.1 lH := by
                  intro q hq
                  rcases List.mem_cons.mp hq with rfl | hq
                  · exact Nat.ne_of_lt x1
                  rcases List.mem_cons.mp hq with rfl | hq
                  · exact Nat.ne_of_lt x3
                  rcases List.mem_cons.mp hq with rfl | hq
                  · exact Nat.ne_of_lt x4
                  rcases List.mem_cons.mp hq with rfl | hq
                  · exact Nat.ne_of_lt x5
                  rcases List.mem_cons.mp hq with rfl | hq
                  · exact Nat.ne_of_lt x6
                  rcases List.mem_cons.mp hq with rfl | hq
                  · exact Nat.ne_of_lt x7
                  · exact Nat.ne_of_lt (allLt_mem x8 q hq)
                have hRT : ∀ q ∈ (lR, listOf vsR.toArray nR) :: (aT, oTd) :: (aP, oPd) :: (LL + 1 + 1, oP2) :: (LL + 1 + 1 + 1, oT2) :: (201, tabObj ps2) :: (objs1 ++ exK), @Ne Nat q.1 lT := by
                  intro q hq
                  rcases List.mem_cons.mp hq with rfl | hq
                  · exact Ne.symm (Nat.ne_of_lt w5)
                  exact ne_pre (Pr := fun q : Addr × Obj => @Ne Nat q.1 lT) hbT (fun q hq => (hob q hq).2) q hq
                have hpl2 := page_len (kk := swp) hl2 h42
                have hinj2 := inj2 hl2 h42
                refine my_For (by first | exact htk | omega) ?_ (fun _ => rfl)
                k_extra "m:my run"
                with_reducible rename News _ _ _ _ => N71
                with_reducible rename Fr _ _ _ _ => F71
                obtain ⟨mm, hmm, F72⟩ : ∃ mm, Nm mm [(Str.ofString "text", .str tx tj), (Str.ofString "told", .ref lT), (Str.ofString "row", .ref lR), (Str.ofString "shelf", .ref lH)] ∧ Fr (ghostOf _ _) LL _ mm := ⟨_, ⟨by kernel_rfl, by kernel_rfl, by kernel_rfl, by kernel_rfl, trivial⟩, F71⟩
                refine my_dict (ShfJ lH lT (sumP swp (u.map swp)) ((lR, listOf vsR.toArray nR) :: (aT, oTd) :: (aP, oPd) :: (LL + 1 + 1, oP2) :: (LL + 1 + 1 + 1, oT2) :: (201, tabObj ps2) :: (objs1 ++ exK)) [(Str.ofString "text", .str tx tj), (Str.ofString "told", .ref lT), (Str.ofString "row", .ref lR), (Str.ofString "shelf", .ref lH)]) rfl rfl rfl loT (.tail _ (.tail _ (.tail _ (.head _)))) ddT F72 N71 (by first | exact htk | omega) ⟨[], 0, nT1, jn, [], rfl, ⟨rfl, fun i v x h => by simp at h⟩, rowQ0 _ _, by omega, hmm⟩ ?_ ?_
                · rintro i k t y m₂ news₂ h₂ tk₂ I it hi htk F₁ N₁ hI hks ⟨vsH, nH, nT2, jm, xsH, rfl, hvH, hQH, hjm, hnm2⟩
                  obtain ⟨v, ty, rfl, hPi⟩ := pT.at i k y hi
                  obtain ⟨hgk, hmk⟩ := get_at hg2.1 i hPi
                  obtain ⟨t9, hv9⟩ := pT.mem k hmk
                  rw [hgk] at hv9
                  have hil := (List.getElem?_eq_some_iff.mp hPi).1
                  replace F₁ := fr_nm1 F₁ hnm2
                  dsimp only [kstB] at F₁
                  replace F₁ : Fr (ghostOf _ _) LL h₂ _ := F₁
                  replace N₁ : News (ghostOf _ _) LL h₂ _ := N₁
                  k_extra "m:my run"
                  with_reducible rename News _ _ _ _ => N53
                  refine kda_item N53 (.tail _ (.tail _ (.tail _ (.tail _ (.head _))))) ddT (PySem.strKind_is _ w _ _) hv9 ?_
                  have hxl : xsH.length = vsH.length := hvH.1.symm
                  by_cases hv0 : v = 0
                  · subst hv0
                    k_extra "m:my run"
                    with_reducible rename News _ _ _ _ => N54
                    with_reducible rename Fr _ _ _ _ => F54
                    refine ⟨_, _, _, _, rfl, (by first | exact htk | omega), F54, N54, hI, fun q hq => by rw [List.mem_singleton.mp hq]; exact .tail _ (.tail _ (.tail _ (.head _))), ⟨vsH, nH, nT2, jm, xsH, rfl, hvH, rowQ_skip hQH hPi, by omega, by kernel_rfl, by kernel_rfl, by kernel_rfl, by kernel_rfl, trivial⟩⟩
                  · k_extra "m:my run"
                    any_goals (try exact absurd (by assumption) hv0)
                    obtain ⟨pp, hp1, hp2, hQ2⟩ := rowQ_put hQH hg2.1 hinj2 hPi
                    have iR : @Ne Nat lH I := hI (lH, listOf vsH.toArray nH) (.head _)
                    have iT : @Ne Nat lT I := hI (lT, listOf (List.replicate jm Value.none).toArray nT2) (.tail _ (.head _))
                    have hk5 : k.length = 5 := by rw [len_codes]; exact hpl2.2 _ hmk
                    with_reducible rename News _ _ _ _ => N56
                    with_reducible rename Fr _ _ _ _ => F56
                    have N57 : News (ghostOf _ _) LL _ ((lH, listOf vsH.toArray nH) :: (I, it) :: (lT, listOf (List.replicate jm Value.none).toArray nT2) :: (lR, listOf vsR.toArray nR) :: (aT, oTd) :: (aP, oPd) :: (LL + 1 + 1, oP2) :: (LL + 1 + 1 + 1, oT2) :: (201, tabObj ps2) :: (objs1 ++ exK)) := news_sub N56 (by k_extra "m:my sub")
                    refine use_call (insLKey w _ lH vsH nH xsH k t pp ?_ hvH (fun z hz => Nat.le_trans (rowQ_at hQH (fun k hk => Nat.le_of_eq (hpl2.2 k hk)) z hz) (by decide)) (by omega) ?_ (by omega) (fun j z hz => (hp2 j z hz).2)) B0 F56 X0 N57 T0 rfl (by decide) (by decide) (by first | exact htk | omega) ?_
                    · intro q hq
                      rcases List.mem_cons.mp hq with rfl | hq
                      · exact Ne.symm iR
                      rcases List.mem_cons.mp hq with rfl | hq
                      · exact Nat.ne_of_lt x2
                      exact hRH q hq
                    · have := hQH.2.1
                      have := hpl2.1
                      omega
                    intro h4 tk4 htk F4 N4
                    k_extra "m:my run"
                    with_reducible rename News _ _ _ _ => N58
                    with_reducible rename Fr _ _ _ _ => F58
                    have N59 : News (ghostOf _ _) LL _ ((lT, listOf (List.replicate jm Value.none).toArray nT2) :: (lH, listOf (insAt pp (Value.str k t) vsH).toArray (nH + 1)) :: (I, it) :: (lR, listOf vsR.toArray nR) :: (aT, oTd) :: (aP, oPd) :: (LL + 1 + 1, oP2) :: (LL + 1 + 1 + 1, oT2) :: (201, tabObj ps2) :: (objs1 ++ exK)) := news_sub N58 (by k_extra "m:my sub")
                    refine my_append F58 N59 ?_ (by rw [List.length_replicate]; have := hpl2.1; omega) ?_
                    · intro q hq
                      rcases List.mem_cons.mp hq with rfl | hq
                      · exact Ne.symm (Nat.ne_of_lt x2)
                      rcases List.mem_cons.mp hq with rfl | hq
                      · exact Ne.symm iT
                      exact hRT q hq
                    intro h6 F60 N60
                    rw [← List.replicate_succ'] at N60
                    k_extra "m:my run"
                    with_reducible rename News _ _ _ _ => N61
                    with_reducible rename Fr _ _ _ _ => F61
                    have N62 : News (ghostOf _ _) LL _ ((I, it) :: (lH, listOf (insAt pp (Value.str k t) vsH).toArray (nH + 1)) :: (lT, listOf (List.replicate (jm + 1) Value.none).toArray (nT2 + 1)) :: (lR, listOf vsR.toArray nR) :: (aT, oTd) :: (aP, oPd) :: (LL + 1 + 1, oP2) :: (LL + 1 + 1 + 1, oT2) :: (201, tabObj ps2) :: (objs1 ++ exK)) := news_sub N61 (by k_extra "m:my sub")
                    refine ⟨_, _, _, _, rfl, (by first | exact htk | omega), F61, N62, ?_, fun q hq => by rw [List.mem_singleton.mp hq]; exact .tail _ (.tail _ (.tail _ (.head _))), ⟨insAt pp (Value.str k t) vsH, nH + 1, nT2 + 1, jm + 1, insAt pp k xsH, rfl, svs_ins hvH (by omega), hQ2, by omega, by kernel_rfl, by kernel_rfl, by kernel_rfl, by kernel_rfl, trivial⟩⟩
                    intro q hq
                    rcases List.mem_cons.mp hq with rfl | hq
                    · exact iR
                    rcases List.mem_cons.mp hq with rfl | hq
                    · exact iT
                    · exact hI q (.tail _ (.tail _ hq))
                · rintro h₂ tk₂ m₂ news₂ htk F₁ N₁ hks ⟨vsH, nH, nT2, jm, xsH, rfl, hvH, hQH, hjm, hnm2⟩
                  replace F₁ := fr_nm F₁ hnm2
                  dsimp only [kstB] at F₁
                  replace F₁ : Fr (ghostOf _ _) LL h₂ _ := F₁
                  replace N₁ : News (ghostOf _ _) LL h₂ _ := N₁
                  rw [pT.len] at hQH hjm
                  k_extra "m:my run"
                  rename_i z8_0 z8_1 z8_2 z8_3 z8_4
                  clear hl2 h42 pP loT ddT pT dT2 hys w5 hbT hjn hob z8_1 hjn2 lH1 F71 N70 x1 x2 x3 x4 x5 x6 x7 x8 N71 hRH hRT hinj2 z8_2 hmm F72 z8_3 hks hjm hnm2 z8_4
                  (try clear tk)
                  (try clear xsH)
                  (try clear jm)
                  (try clear nT2)
                  (try clear nH)
                  (try clear vsH)
                  (try clear m₂)
                  (try clear tk₂)
                  (try clear h₂)
                  (try clear mm)
                  (try clear lH)
                  (try clear z8_0)
                  (try clear z7_9)
                  (try clear z7_7)
                  (try clear objs1)
                  (try clear xs)
                  (try clear jn)
                  (try clear nT1)
                  (try clear nR)
                  (try clear vsR)
                  (try clear m₁)
                  (try clear tk₁)
                  (try clear h₁)
                  (try clear lR)
                  (try clear ys)
                  (try clear oT2)
                  (try clear kT)
                  (try clear oTd)
                  (try clear aT)
                  (try clear oP2)
                  (try clear kP)
                  (try clear oPd)
                  (try clear aP)
                  (try clear exK)
                  (try clear ps2)
                  (try clear lT)
                  (try clear u)
                  (try clear tx)
                  (try clear tj)
                  (try clear LL)
                  (try clear ns)
                  (try clear cd)
                  (try clear fa)
                  (try clear mb)
                  (try clear mg)
                  (try clear s₁)
                  (try clear s₀)
                  (try clear w)
                  revert hg X0 T0 B0 hjl hjc hu5 h4 hg1 hg2 hpl1 hvR hvA hQ hpl2 hvH hQH Fq Nq htk
                  revert w s₀ s₁ mg mb fa cd ns LL tj tx u lT ps2 exK aP oPd oP2 aT oTd oT2 lR vsR nR xs objs1 lH h₂ m₂ vsH nH nT2 jm xsH tk
                  as_aux_lemma =>
                    intro w s₀ s₁ mg mb fa cd ns LL tj tx u lT ps2 exK aP oPd oP2 aT oTd oT2 lR vsR nR xs objs1 lH h₂ m₂ vsH nH nT2 jm xsH tk
                    intros hg X0 T0 B0 hjl hjc hu5 h4 hg1 hg2 hpl1 hvR hvA hQ hpl2 hvH hQH Fq Nq htk
                    have hlst1 : ∀ k ∈ keysP (sumP id u), k ≠ tx.cps.toList → id tx.cps.toList < id k := fun k hk hne => by
                      show tx.cps.toList < k
                      rw [hjc] at hne ⊢
                      exact least1 hu5 h4 k hk hne
                    have hlst2 : ∀ k ∈ keysP (sumP swp (u.map swp)), k ≠ tx.cps.toList → escL tx.cps.toList < escL k := fun k hk hne => by
                      rw [hjc] at hne ⊢
                      exact least2 hu5 h4 k hk hne
                    obtain ⟨e1, e2, e3⟩ := rowQ_end hQ hg1.1 hg1.2.1 (good_mem hg1) hlst1
                    obtain ⟨f1, f2, f3⟩ := rowQ_end hQH hg2.1 hg2.2.1 (good_mem hg2) hlst2
                    have hlR9 : 1 ≤ vsR.length := by rw [hvR.1]; have := (List.getElem?_eq_some_iff.mp e1).1; omega
                    have hlH9 : 1 ≤ vsH.length := by rw [hvH.1]; have := (List.getElem?_eq_some_iff.mp f1).1; omega
                    have hlR8 : vsR.length ≤ 100 := by rw [hvR.1]; have := hQ.2.1; have := hpl1.1; omega
                    have hlH8 : vsH.length ≤ 100 := by rw [hvH.1]; have := hQH.2.1; have := hpl2.1; omega
                    obtain ⟨a0, d0, kt, t0, hvR0, ma0, md0⟩ : ∃ (a0 d0 : Addr) (kt t0 : Tok), vsR[0]? = some (.ref a0) ∧ (a0, instObj 117 d0) ∈ objs1 ∧ (d0, qd w kt tx t0) ∈ objs1 := by
                      have h0 : vsR[0]? = some vsR[0] := List.getElem?_eq_getElem (by omega)
                      have htv := hvR.2 0 _ tx h0 e1
                      obtain ⟨a, ea⟩ := hvA _ (List.getElem_mem (by omega : 0 < vsR.length))
                      rw [ea] at htv h0
                      cases htv with
                      | qn a d k x t h1 h2 => exact ⟨a, d, k, t, h0, h1, h2⟩
                    obtain ⟨tH, hvH0⟩ : ∃ tH, vsH[0]? = some (.str tx tH) := by
                      have h0 : vsH[0]? = some vsH[0] := List.getElem?_eq_getElem (by omega)
                      obtain ⟨t, e⟩ := hvH.2 0 _ tx h0 f1
                      exact ⟨t, by rw [h0, e]⟩
                    refine my_comp (by first | exact htk | omega | (dsimp only; omega)) (by with_unfolding_all rfl) rfl (by decide) ?_ (fun _ => rfl)
                    k_extra "m:my run"
                    with_reducible rename News _ _ _ _ => N81
                    with_reducible rename Fr _ _ _ _ => F81
                    refine my_comp_list (nn := nT2) (vs := List.replicate jm Value.none) (fun i ys news => news = (lH, listOf vsH.toArray nH) :: (lT, listOf (List.replicate jm Value.none).toArray nT2) :: (lR, listOf vsR.toArray nR) :: (aT, oTd) :: (aP, oPd) :: (LL + 1 + 1, oP2) :: (LL + 1 + 1 + 1, oT2) :: (201, tabObj ps2) :: (objs1 ++ exK) ∧ ys = []) rfl (by decide) rfl rfl (.tail _ (.head _)) F81 N81 ⟨rfl, rfl⟩ ?_ ?_ ?_
                    · rintro i ys news ⟨_, rfl⟩
                      exact Nat.zero_le _
                    · rintro i v h9 tk9 hiv htk ys news₁ I oI C oC D m₂ E' ⟨rfl, rfl⟩ hC hx F₁ N₁ hoff hne hks
                      have hvn : v = .none := by
                        have := List.mem_of_getElem? hiv
                        exact List.eq_of_mem_replicate this
                      subst hvn
                      unfold tests
                      dsimp only at F₁ N₁ ⊢
                      k_extra "m:my run"
                      with_reducible rename News _ _ _ _ => N82
                      with_reducible rename Fr _ _ _ _ => F82
                      exact ⟨_, _, _, rfl, F82, N82, hoff, hks, rfl, rfl⟩
                    · rintro ys news' ⟨rfl, rfl⟩
                      intro D h9 tk9 F₂ N₂ hD htk
                      dsimp only at htk F₂ N₂ ⊢
                      k_extra "m:my run"
                      with_reducible rename News _ _ _ _ => N83
                      refine my_item N83 (by k_extra "m:my mem") (by decide) (by decide) hvR0 ?_ (by with_unfolding_all rfl)
                      have N84 : News (ghostOf _ _) LL _ ((a0, instObj 117 d0) :: (d0, qd w kt tx t0) :: (lH, listOf vsH.toArray nH) :: (lR, listOf vsR.toArray nR) :: (201, tabObj ps2) :: (objs1 ++ exK)) := news_sub N83 (by
                        intro q hq
                        simp only [List.mem_cons, List.mem_append] at hq ⊢
                        rcases hq with rfl | rfl | h | h | h | h | h
                        · simp [ma0]
                        · simp [md0]
                        all_goals simp [h])
                      k_extra "m:my run"
                      rename_i z9_0 z9_1 z9_2 z9_3 z9_4 z9_5 z9_6
                      clear hjc hu5 h4 hg1 hg2 hpl1 hvA hQ z9_0 hlst1 hlst2 e1 f1 hvR0 ma0 md0 z9_1 hD z9_2 N83 z9_6
                      (try clear z9_4)
                      (try clear z9_3)
                      (try clear tk9)
                      (try clear h9)
                      (try clear D)
                      (try clear tH)
                      (try clear t0)
                      (try clear kt)
                      (try clear d0)
                      (try clear a0)
                      (try clear tk)
                      (try clear xsH)
                      (try clear jm)
                      (try clear nT2)
                      (try clear nH)
                      (try clear vsH)
                      (try clear m₂)
                      (try clear h₂)
                      (try clear lH)
                      (try clear objs1)
                      (try clear xs)
                      (try clear nR)
                      (try clear vsR)
                      (try clear lR)
                      (try clear oT2)
                      (try clear oTd)
                      (try clear aT)
                      (try clear oP2)
                      (try clear oPd)
                      (try clear aP)
                      (try clear exK)
                      (try clear ps2)
                      (try clear lT)
                      (try clear u)
                      (try clear tx)
                      (try clear tj)
                      (try clear LL)
                      (try clear ns)
                      (try clear cd)
                      (try clear fa)
                      (try clear mb)
                      (try clear mg)
                      (try clear s₁)
                      (try clear s₀)
                      (try clear w)
                      revert hg X0 T0 B0 hjl hvR hpl2 hvH hQH e2 e3 f2 f3 hlR9 hlH9 hlR8 hlH8 hvH0 htk z9_5 N84
                      revert w s₀ s₁ mg mb fa cd ns LL tj tx u lT ps2 exK lR vsR nR xs objs1 lH m₂ vsH nH xsH a0 d0 kt t0 tH tk9 z9_4
                      as_aux_lemma =>
                        intro w s₀ s₁ mg mb fa cd ns LL tj tx u lT ps2 exK lR vsR nR xs objs1 lH m₂ vsH nH xsH a0 d0 kt t0 tH tk9 z9_4
                        intros hg X0 T0 B0 hjl hvR hpl2 hvH hQH e2 e3 f2 f3 hlR9 hlH9 hlR8 hlH8 hvH0 htk z9_5 N84
                        refine PyProof.Rows.ne_str ?_
                        rw [bne_self_eq_false]
                        k_extra "m:my run"
                        with_reducible rename News _ _ _ _ => N85
                        refine my_item N85 (.tail _ (.tail _ (.head _))) (by decide) (by decide) hvH0 ?_ (by with_unfolding_all rfl)
                        k_extra "m:my run"
                        refine PyProof.Rows.ne_str ?_
                        rw [bne_self_eq_false]
                        k_extra "m:my run"
                        with_reducible rename News _ _ _ _ => N86
                        with_reducible rename Fr _ _ _ _ => F86
                        refine use_call (qn_new w _ tx tj) B0 F86 X0 N86 T0 rfl (by decide) (by decide) (by first | exact htk | omega) ?_
                        intro a3 d3 k3 hlt3 hda3 h87 tk87 htk F87 N87
                        k_extra "m:my run"
                        with_reducible rename News _ _ _ _ => N88
                        with_reducible rename Fr _ _ _ _ => F88
                        refine use_call (bisLPlain w _ lR vsR nR xs (.ref a3) tx _ 0 _ _ (bndL0 _ _) (.tail _ (.tail _ (.tail _ (.tail _ (.tail _ (.head _)))))) (tvs_mono hvR fun q hq => .tail _ (.tail _ (.tail _ (.tail _ (.tail _ (.tail _ (.tail _ (List.mem_append_left _ hq)))))))) (.qn a3 d3 k3 tx _ (.head _) (.tail _ (.head _))) hlR8 (Nat.zero_le _) e2) B0 F88 X0 N88 T0 rfl (by decide) (by decide) (by first | exact htk | omega) ?_
                        intro tb1 h89 tk89 htk F89 N89
                        k_extra "m:my run"
                        with_reducible rename News _ _ _ _ => N90
                        with_reducible rename Fr _ _ _ _ => F90
                        refine use_call (bisRPlain w _ lR vsR nR xs (.str tx tj) tx _ 1 _ _ (bndR0 _ _) (.tail _ (.tail _ (.tail _ (.tail _ (.tail _ (.head _)))))) (tvs_mono hvR fun q hq => .tail _ (.tail _ (.tail _ (.tail _ (.tail _ (.tail _ (.tail _ (List.mem_append_left _ hq)))))))) (.str _ _) hlR8 hlR9 e3) B0 F90 X0 N90 T0 rfl (by decide) (by decide) (by first | exact htk | omega) ?_
                        intro tb2 h91 tk91 htk F91 N91
                        k_extra "m:my run"
                        with_reducible rename News _ _ _ _ => N92
                        with_reducible rename Fr _ _ _ _ => F92
                        refine use_call (esc w _ tx tj (by omega)) B0 F92 X0 N92 T0 rfl (by decide) (by decide) (by first | exact htk | omega) ?_
                        intro te1 h93 tk93 htk F93 N93
                        k_extra "m:my run"
                        have hsh : ∀ y ∈ xsH, y.length ≤ 100 := fun z hz => Nat.le_trans (rowQ_at hQH (fun k hk => Nat.le_of_eq (hpl2.2 k hk)) z hz) (by decide)
                        with_reducible rename News _ _ _ _ => N94
                        with_reducible rename Fr _ _ _ _ => F94
                        refine use_call (bisLKey w _ lH vsH nH xsH (escS tx) te1 _ 0 _ _ (bndLK0 _ _) (.tail _ (.tail _ (.tail _ (.tail _ (.tail _ (.head _)))))) hvH hsh hlH8 (Nat.zero_le _) f2) B0 F94 X0 N94 T0 rfl (by decide) (by decide) (by first | exact htk | omega) ?_
                        intro tb3 h95 tk95 htk F95 N95
                        k_extra "m:my run"
                        walk1
                        k_extra "m:my run"
                        with_reducible rename News _ _ _ _ => N96
                        with_reducible rename Fr _ _ _ _ => F96
                        refine use_call (esc w _ tx tj (by omega)) B0 F96 X0 N96 T0 rfl (by decide) (by decide) (by first | exact htk | omega) ?_
                        intro te2 h97 tk97 htk F97 N97
                        k_extra "m:my run"
                        with_reducible rename News _ _ _ _ => N98
                        with_reducible rename Fr _ _ _ _ => F98
                        refine use_call (bisRKey w _ lH vsH nH xsH (escS tx) te2 _ 1 _ _ (bndRK0 _ _) (.tail _ (.tail _ (.tail _ (.tail _ (.tail _ (.head _)))))) hvH hsh hlH8 hlH9 f3) B0 F98 X0 N98 T0 rfl (by decide) (by decide) (by first | exact htk | omega) ?_
                        intro tb4 h99 tk99 htk F99 N99
                        k_extra "m:my run"
                        walk1
                        k_extra "m:my run"
                        with_reducible rename News _ _ _ _ => N99
                        refine spots_eq N99 (by first | units_room | exact Nat.le_of_ble_eq_true rfl) ?_
                        k_extra "m:my run"
                        rename_i z10_0 z10_1 z10_2 z10_3 z10_4 z10_5 z10_6 z10_7 z10_8 z10_9 z10_10 z10_11 z10_12 z10_13 z10_14 z10_15 z10_16 z10_17 z10_18 z10_19 z10_20 z10_21 z10_22 z10_23 z10_24 z10_25 z10_26 z10_27 z10_28 z10_29 z10_30 z10_31 z10_32 z10_33 z10_34 z10_35 z10_36 z10_37 z10_38 z10_39 z10_40
                        clear X0 T0 B0 hjl hvR hpl2 hvH hQH e2 e3 f2 f3 hlR9 hlH9 hlR8 hlH8 hvH0 z10_0 z10_2 z10_3 z10_5 z10_6 hlt3 hda3 z10_7 z10_8 z10_9 z10_10 z10_11 z10_12 z10_15 z10_17 z10_19 z10_20 z10_21 z10_22 hsh z10_23 z10_24 z10_26 z10_28 z10_29 z10_30 z10_31 z10_32 z10_33 z10_35 z10_36 z10_37 Nq z10_40 htk
                        (try clear z10_39)
                        (try clear z10_38)
                        (try clear tk)
                        (try clear z10_34)
                        (try clear tk99)
                        (try clear h99)
                        (try clear tb4)
                        (try clear tk97)
                        (try clear h97)
                        (try clear te2)
                        (try clear z10_27)
                        (try clear z10_25)
                        (try clear tk95)
                        (try clear h95)
                        (try clear tb3)
                        (try clear tk93)
                        (try clear h93)
                        (try clear te1)
                        (try clear z10_18)
                        (try clear z10_16)
                        (try clear z10_14)
                        (try clear z10_13)
                        (try clear tk91)
                        (try clear h91)
                        (try clear tb2)
                        (try clear tk89)
                        (try clear h89)
                        (try clear tb1)
                        (try clear tk87)
                        (try clear h87)
                        (try clear k3)
                        (try clear d3)
                        (try clear a3)
                        (try clear z10_4)
                        (try clear z10_1)
                        (try clear z9_4)
                        (try clear tk9)
                        (try clear tH)
                        (try clear t0)
                        (try clear kt)
                        (try clear d0)
                        (try clear a0)
                        (try clear xsH)
                        (try clear nH)
                        (try clear vsH)
                        (try clear m₂)
                        (try clear lH)
                        (try clear objs1)
                        (try clear xs)
                        (try clear nR)
                        (try clear vsR)
                        (try clear lR)
                        (try clear exK)
                        (try clear ps2)
                        (try clear lT)
                        (try clear u)
                        (try clear tx)
                        (try clear tj)
                        (try clear LL)
                        (try clear ns)
                        (try clear cd)
                        (try clear fa)
                        (try clear mb)
                        (try clear mg)
                        (try clear s₁)
                        (try clear s₀)
                        (try clear w)
                        revert hg Fq
                        revert s₀ s₁ ns LL tj tx lT lR lH m₂ z10_13 tk z10_39
                        as_aux_lemma =>
                          intro s₀ s₁ ns LL tj tx lT lR lH m₂ z10_13 tk z10_39
                          intros hg Fq
                          refine goodW_bool (by with_reducible assumption) (by with_reducible assumption) (raisesW_false ?_) ?_
                          · wrow_none_raised
                          · first | kc_post | wrow_post)
end Mine
end
end
theorem PySem.Challenge.cw_uc0067_01_holds : PySem.Challenge.rw_uc0067_01.Holds :=
  Mine.lawT
