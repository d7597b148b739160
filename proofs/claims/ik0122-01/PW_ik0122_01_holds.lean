import PyProof.Rows.All
import Wide.All
import OpenK.AllK
import Wide.FinOn
import Lean
import PySem.Challenge.RW_ik0122_01
set_option Elab.async false
set_option maxRecDepth 100000
set_option maxHeartbeats 8000000
section
open PySem PySem.W PyProof.Rows
namespace Mine
theorem self_ty : PySem.Manifest.ty_dict = PySem.Manifest.ty_dict := rfl
end Mine
name_quick tw15158043598476960053 for PySem.Manifest.ty_dict by Mine.self_ty
name_quick tw10253492065209306289 for PySem.Manifest.ty_dict by Mine.self_ty
name_quick tw16145008321745377990 for PySem.Manifest.ty_dict by Mine.self_ty
name_quick tw18345786424863182364 for PySem.Manifest.ty_dict by Mine.self_ty
name_quick tw5529568453561195837 for PySem.Manifest.ty_dict by Mine.self_ty
name_quick tw9594665118957945026 for PySem.Manifest.ty_dict by Mine.self_ty
name_quick tw460243522976405022 for PySem.Manifest.ty_dict by Mine.self_ty
name_quick tw4658958612460137192 for PySem.Manifest.ty_dict by Mine.self_ty
name_quick tw9407582987413476825 for PySem.Manifest.ty_dict by Mine.self_ty
name_quick tw13559156169165276386 for PySem.Manifest.ty_dict by Mine.self_ty
name_quick tw15894407043143930727 for PySem.Manifest.ty_dict by Mine.self_ty
name_quick tw17888251807661845753 for PySem.Manifest.ty_dict by Mine.self_ty
name_quick tw11306939235166856333 for PySem.Manifest.ty_dict by Mine.self_ty
name_quick tw13955413277416935044 for PySem.Manifest.ty_dict by Mine.self_ty
name_quick tw17000155066101142889 for PySem.Manifest.ty_dict by Mine.self_ty
name_quick tw13335737130258781183 for PySem.Manifest.ty_dict by Mine.self_ty
name_quick tw7232422423428716515 for PySem.Manifest.ty_dict by Mine.self_ty
name_quick tw3577408171920636059 for PySem.Manifest.ty_dict by Mine.self_ty
name_quick tw14821650378409806113 for PySem.Manifest.ty_dict by Mine.self_ty
name_quick tw10424941004445345732 for PySem.Manifest.ty_dict by Mine.self_ty
name_quick tw3778451253796500701 for PySem.Manifest.ty_dict by Mine.self_ty
name_quick tw5032809538720368765 for PySem.Manifest.ty_dict by Mine.self_ty
name_quick tw13057501360547312074 for PySem.Manifest.ty_dict by Mine.self_ty
name_quick tw10323183001455561277 for PySem.Manifest.ty_dict by Mine.self_ty
name_quick tw7323676302269181137 for PySem.Manifest.ty_dict by Mine.self_ty
name_quick tw8365737250058030908 for PySem.Manifest.ty_dict by Mine.self_ty
name_quick tw219737044198020058 for PySem.Manifest.ty_dict by Mine.self_ty
name_quick tw11788150170368784547 for PySem.Manifest.ty_dict by Mine.self_ty
name_quick tw9011979029575296479 for PySem.Manifest.ty_dict by Mine.self_ty
name_quick tw8693227569615203950 for PySem.Manifest.ty_dict by Mine.self_ty
name_quick tw11566699232636054958 for PySem.Manifest.ty_dict by Mine.self_ty
name_quick tw9339011207650244144 for PySem.Manifest.ty_dict by Mine.self_ty
name_quick tw5268983451555188008 for PySem.Manifest.ty_dict by Mine.self_ty
name_quick tw5721027456603625697 for PySem.Manifest.ty_dict by Mine.self_ty
name_quick tw4679858250743294509 for PySem.Manifest.ty_dict by Mine.self_ty
name_quick tw9763268239775435451 for PySem.Manifest.ty_dict by Mine.self_ty
name_quick tw6245536207120538393 for PySem.Manifest.ty_dict by Mine.self_ty
name_quick tw2963401690265292820 for PySem.Manifest.ty_dict by Mine.self_ty
name_quick tw3093977132361051618 for PySem.Manifest.ty_dict by Mine.self_ty
name_quick tw11985326045990495214 for PySem.Manifest.ty_dict by Mine.self_ty
name_quick tw6004533443673955352 for PySem.Manifest.ty_dict by Mine.self_ty
name_quick tw10010936943081839664 for PySem.Manifest.ty_dict by Mine.self_ty
name_quick tw3891137856419664920 for PySem.Manifest.ty_dict by Mine.self_ty
name_quick tw10887116778572429059 for PySem.Manifest.ty_dict by Mine.self_ty
name_quick tw14904524295806243326 for PySem.Manifest.ty_dict by Mine.self_ty
name_quick tw13678640442995254988 for PySem.Manifest.ty_dict by Mine.self_ty
name_quick tw8376752744543775738 for PySem.Manifest.ty_dict by Mine.self_ty
name_quick tw662354867322794072 for PySem.Manifest.ty_dict by Mine.self_ty
name_quick tw7721631327575515661 for PySem.Manifest.ty_dict by Mine.self_ty
name_quick tw8719427161674164953 for PySem.Manifest.ty_dict by Mine.self_ty
name_quick tw9976185976690106402 for PySem.Manifest.ty_dict by Mine.self_ty
name_quick tw5591276700874282246 for PySem.Manifest.ty_dict by Mine.self_ty
name_quick tw12233582284571471492 for PySem.Manifest.ty_dict by Mine.self_ty
name_quick tw10063671712614023339 for PySem.Manifest.ty_dict by Mine.self_ty
name_quick tw14971746577665755125 for PySem.Manifest.ty_dict by Mine.self_ty
name_quick tw14023627001141898710 for PySem.Manifest.ty_dict by Mine.self_ty
name_quick tw15278061642289888581 for PySem.Manifest.ty_dict by Mine.self_ty
name_quick tw17954471519018878134 for PySem.Manifest.ty_dict by Mine.self_ty
name_quick tw11317593695737139937 for PySem.Manifest.ty_dict by Mine.self_ty
name_quick tw16804044748790271530 for PySem.Manifest.ty_dict by Mine.self_ty
name_quick tw369529430317351170 for PySem.Manifest.ty_dict by Mine.self_ty
name_quick tw13900631225919944168 for PySem.Manifest.ty_dict by Mine.self_ty
name_quick tw3764465048917985505 for PySem.Manifest.ty_dict by Mine.self_ty
name_quick tw16049961110935095269 for PySem.Manifest.ty_dict by Mine.self_ty
name_quick tw15480198773659482676 for PySem.Manifest.ty_dict by Mine.self_ty
name_quick tw17925548735911062312 for PySem.Manifest.ty_dict by Mine.self_ty
name_quick tw3282434896037501709 for PySem.Manifest.ty_dict by Mine.self_ty
name_quick tw14386061602966655976 for PySem.Manifest.ty_dict by Mine.self_ty
name_quick tw3976722010076183465 for PySem.Manifest.ty_dict by Mine.self_ty
name_quick tw11313170107247368264 for PySem.Manifest.ty_dict by Mine.self_ty
name_quick tw17888162413812561239 for PySem.Manifest.ty_dict by Mine.self_ty
name_quick tw16593013826814733010 for PySem.Manifest.ty_dict by Mine.self_ty
name_quick tw1537898542681612871 for PySem.Manifest.ty_dict by Mine.self_ty
name_quick tw6435988898589368438 for PySem.Manifest.ty_dict by Mine.self_ty
name_quick tw16916688483869632129 for PySem.Manifest.ty_dict by Mine.self_ty
name_quick tw16741492637210864865 for PySem.Manifest.ty_dict by Mine.self_ty
name_quick tw8897938508979226211 for PySem.Manifest.ty_dict by Mine.self_ty
name_quick tw17552769576498331613 for PySem.Manifest.ty_dict by Mine.self_ty
name_quick tw4978915544186085027 for PySem.Manifest.ty_dict by Mine.self_ty
name_quick tw1092655722715705105 for PySem.Manifest.ty_dict by Mine.self_ty
name_quick tw470574548607681690 for PySem.Manifest.ty_dict by Mine.self_ty
name_quick tw7276740287692124622 for PySem.Manifest.ty_dict by Mine.self_ty
name_quick tw3560238982266916124 for PySem.Manifest.ty_dict by Mine.self_ty
name_quick tw11277716924127702174 for PySem.Manifest.ty_dict by Mine.self_ty
name_quick tw14223099787259518943 for PySem.Manifest.ty_dict by Mine.self_ty
name_quick tw951843321253372498 for PySem.Manifest.ty_dict by Mine.self_ty
name_quick tw6380047634161181297 for PySem.Manifest.ty_dict by Mine.self_ty
name_quick tw13729253559640862656 for PySem.Manifest.ty_dict by Mine.self_ty
name_quick tw6654550962395885724 for PySem.Manifest.ty_dict by Mine.self_ty
name_quick tw136631920214876835 for PySem.Manifest.ty_dict by Mine.self_ty
name_quick tw8075568018651887793 for PySem.Manifest.ty_dict by Mine.self_ty
name_quick tw12767683915131110723 for PySem.Manifest.ty_dict by Mine.self_ty
name_quick tw15742981410569661332 for PySem.Manifest.ty_dict by Mine.self_ty
name_quick tw15066959818950650227 for PySem.Manifest.ty_dict by Mine.self_ty
name_quick tw7269565832213808900 for PySem.Manifest.ty_dict by Mine.self_ty
name_quick tw14108194823987119177 for PySem.Manifest.ty_dict by Mine.self_ty
name_quick tw14884601019740666482 for PySem.Manifest.ty_dict by Mine.self_ty
name_quick tw974560594509533065 for PySem.Manifest.ty_dict by Mine.self_ty
name_quick tw1962928258387122110 for PySem.Manifest.ty_dict by Mine.self_ty
name_quick tw11939915149646268982 for PySem.Manifest.ty_dict by Mine.self_ty
name_quick tw3094477031063562474 for PySem.Manifest.ty_dict by Mine.self_ty
name_quick tw16349804527192203551 for PySem.Manifest.ty_dict by Mine.self_ty
name_quick tw4552823106982906706 for PySem.Manifest.ty_dict by Mine.self_ty
name_quick tw14376985748213822385 for PySem.Manifest.ty_dict by Mine.self_ty
name_quick tw13981391230805400906 for PySem.Manifest.ty_dict by Mine.self_ty
name_quick tw4071324889030633612 for PySem.Manifest.ty_dict by Mine.self_ty
name_quick tw1620339239838986703 for PySem.Manifest.ty_dict by Mine.self_ty
name_quick tw14311459727803291754 for PySem.Manifest.ty_dict by Mine.self_ty
name_quick tw13191295725559111208 for PySem.Manifest.ty_dict by Mine.self_ty
name_quick tw1702518465993881591 for PySem.Manifest.ty_dict by Mine.self_ty
name_quick tw2354135333415324597 for PySem.Manifest.ty_dict by Mine.self_ty
name_quick tw9564595351457756722 for PySem.Manifest.ty_dict by Mine.self_ty
name_quick tw12866136484021002089 for PySem.Manifest.ty_dict by Mine.self_ty
name_quick tw16018607276475445134 for PySem.Manifest.ty_dict by Mine.self_ty
name_quick tw4980102563643897964 for PySem.Manifest.ty_dict by Mine.self_ty
name_quick tw14530364306720264245 for PySem.Manifest.ty_dict by Mine.self_ty
name_quick tw9501820088010722379 for PySem.Manifest.ty_dict by Mine.self_ty
name_quick tw15263041282635125899 for PySem.Manifest.ty_dict by Mine.self_ty
name_quick tw8579058602437062094 for PySem.Manifest.ty_dict by Mine.self_ty
name_quick tw11270796479367742343 for PySem.Manifest.ty_dict by Mine.self_ty
name_quick tw6683783046931543321 for PySem.Manifest.ty_dict by Mine.self_ty
name_quick tw13317431791736044220 for PySem.Manifest.ty_dict by Mine.self_ty
name_quick tw17476080006546285661 for PySem.Manifest.ty_dict by Mine.self_ty
name_quick tw1402947280878808549 for PySem.Manifest.ty_dict by Mine.self_ty
name_quick tw4636218855388986860 for PySem.Manifest.ty_dict by Mine.self_ty
name_quick tw2664551874359636763 for PySem.Manifest.ty_dict by Mine.self_ty
name_quick tw9948023125614773506 for PySem.Manifest.ty_dict by Mine.self_ty
name_quick tw2611137233208623240 for PySem.Manifest.ty_dict by Mine.self_ty
name_quick tw3619232141914619222 for PySem.Manifest.ty_dict by Mine.self_ty
name_quick tw1229493121823783015 for PySem.Manifest.ty_dict by Mine.self_ty
name_quick tw4444965560193506482 for PySem.Manifest.ty_dict by Mine.self_ty
name_quick tw5357591511691535388 for PySem.Manifest.ty_dict by Mine.self_ty
name_quick tw5731285843209492418 for PySem.Manifest.ty_dict by Mine.self_ty
name_quick tw4075660801711882420 for PySem.Manifest.ty_dict by Mine.self_ty
name_quick tw8974274202572390862 for PySem.Manifest.ty_dict by Mine.self_ty
name_quick tw2478078296215019888 for PySem.Manifest.ty_dict by Mine.self_ty
name_quick tw4933834842325187142 for PySem.Manifest.ty_dict by Mine.self_ty
name_quick tw16414604833108395602 for PySem.Manifest.ty_dict by Mine.self_ty
name_quick tw6817277305950994716 for PySem.Manifest.ty_dict by Mine.self_ty
name_quick tw8603108125212654177 for PySem.Manifest.ty_dict by Mine.self_ty
name_quick tw13512673800721320934 for PySem.Manifest.ty_dict by Mine.self_ty
name_quick tw2364824441312284604 for PySem.Manifest.ty_dict by Mine.self_ty
name_quick tw3972328310683599613 for PySem.Manifest.ty_dict by Mine.self_ty
name_quick tw7378761846476686904 for PySem.Manifest.ty_dict by Mine.self_ty
name_quick tw16531745337717519161 for PySem.Manifest.ty_dict by Mine.self_ty
name_quick tw17000458434675057986 for PySem.Manifest.ty_dict by Mine.self_ty
name_quick tw13145125596335152023 for PySem.Manifest.ty_dict by Mine.self_ty
name_quick tw4527066259768149269 for PySem.Manifest.ty_dict by Mine.self_ty
name_quick tw17828083071136270317 for PySem.Manifest.ty_dict by Mine.self_ty
name_quick tw17057272898397164401 for PySem.Manifest.ty_dict by Mine.self_ty
name_quick tw13254397897704925713 for PySem.Manifest.ty_dict by Mine.self_ty
name_quick tw13036272033356848781 for PySem.Manifest.ty_dict by Mine.self_ty
name_quick tw2719445374943340272 for PySem.Manifest.ty_dict by Mine.self_ty
name_quick tw16548257151911338427 for PySem.Manifest.ty_dict by Mine.self_ty
name_quick tw4797165386629745026 for PySem.Manifest.ty_dict by Mine.self_ty
name_quick tw9529234661008812162 for PySem.Manifest.ty_dict by Mine.self_ty
name_quick tw387338674003428930 for PySem.Manifest.ty_dict by Mine.self_ty
name_quick tw8703263022893421829 for PySem.Manifest.ty_dict by Mine.self_ty
name_quick tw12635297910168745909 for PySem.Manifest.ty_dict by Mine.self_ty
name_quick tw413528180498961939 for PySem.Manifest.ty_dict by Mine.self_ty
name_quick tw17532718790514356516 for PySem.Manifest.ty_dict by Mine.self_ty
name_quick tw788995980369251910 for PySem.Manifest.ty_dict by Mine.self_ty
name_quick tw17100903815162463580 for PySem.Manifest.ty_dict by Mine.self_ty
name_quick tw7433093208181500128 for PySem.Manifest.ty_dict by Mine.self_ty
name_quick tw17069979004554194336 for PySem.Manifest.ty_dict by Mine.self_ty
name_quick tw9315938663221665524 for PySem.Manifest.ty_dict by Mine.self_ty
name_quick tw10944729642247514566 for PySem.Manifest.ty_dict by Mine.self_ty
name_quick tw6679490504615227074 for PySem.Manifest.ty_dict by Mine.self_ty
name_quick tw1333364371103165705 for PySem.Manifest.ty_dict by Mine.self_ty
name_quick tw1486927313064005944 for PySem.Manifest.ty_dict by Mine.self_ty
name_quick tw11186114360453789277 for PySem.Manifest.ty_dict by Mine.self_ty
name_quick tw13789449189825218787 for PySem.Manifest.ty_dict by Mine.self_ty
name_quick tw1377046205977697930 for PySem.Manifest.ty_dict by Mine.self_ty
name_quick tw18323700119837366958 for PySem.Manifest.ty_dict by Mine.self_ty
name_quick tw17964007177503468958 for PySem.Manifest.ty_dict by Mine.self_ty
name_quick tw5902227825499142635 for PySem.Manifest.ty_dict by Mine.self_ty
name_quick tw4558998842232669794 for PySem.Manifest.ty_dict by Mine.self_ty
name_quick tw17975652961387846372 for PySem.Manifest.ty_dict by Mine.self_ty
name_quick tw15832565104096599602 for PySem.Manifest.ty_dict by Mine.self_ty
name_quick tw10942035263794033107 for PySem.Manifest.ty_dict by Mine.self_ty
name_quick tw11452132507678324671 for PySem.Manifest.ty_dict by Mine.self_ty
name_quick tw10205541121877940668 for PySem.Manifest.ty_dict by Mine.self_ty
name_quick tw1829445100760108279 for PySem.Manifest.ty_dict by Mine.self_ty
name_quick tw3698559305507148144 for PySem.Manifest.ty_dict by Mine.self_ty
name_quick tw16643379632663270332 for PySem.Manifest.ty_dict by Mine.self_ty
name_quick tw17730428716208468724 for PySem.Manifest.ty_dict by Mine.self_ty
name_quick tw3636048126100218174 for PySem.Manifest.ty_dict by Mine.self_ty
name_quick tw18211773271919218964 for PySem.Manifest.ty_dict by Mine.self_ty
name_quick tw14168537005229113720 for PySem.Manifest.ty_dict by Mine.self_ty
name_quick tw17164873540382356111 for PySem.Manifest.ty_dict by Mine.self_ty
name_quick tw11543547407058413889 for PySem.Manifest.ty_dict by Mine.self_ty
name_quick tw6792406925840432001 for PySem.Manifest.ty_dict by Mine.self_ty
name_quick tw11729385059970357855 for PySem.Manifest.ty_dict by Mine.self_ty
name_quick tw12945451867199242903 for PySem.Manifest.ty_dict by Mine.self_ty
name_quick tw9908251947323293946 for PySem.Manifest.ty_dict by Mine.self_ty
name_quick tw10948738476641704880 for PySem.Manifest.ty_dict by Mine.self_ty
name_quick tw7275051467321613617 for PySem.Manifest.ty_dict by Mine.self_ty
name_quick tw6448080314894763839 for PySem.Manifest.ty_dict by Mine.self_ty
name_quick tw17532440430192770315 for PySem.Manifest.ty_dict by Mine.self_ty
name_quick tw10706342367453228570 for PySem.Manifest.ty_dict by Mine.self_ty
name_quick tw18340240734955500558 for PySem.Manifest.ty_dict by Mine.self_ty
name_quick tw4302124980754421698 for PySem.Manifest.ty_dict by Mine.self_ty
name_quick tw5465617051466427057 for PySem.Manifest.ty_dict by Mine.self_ty
name_quick tw14326252917377295143 for PySem.Manifest.ty_dict by Mine.self_ty
name_quick tw1158146176485857559 for PySem.Manifest.ty_dict by Mine.self_ty
name_quick tw17497748084772794779 for PySem.Manifest.ty_dict by Mine.self_ty
name_quick tw10996506086634736982 for PySem.Manifest.ty_dict by Mine.self_ty
name_quick tw18350330562280901221 for PySem.Manifest.ty_dict by Mine.self_ty
name_quick tw11853533878840232495 for PySem.Manifest.ty_dict by Mine.self_ty
name_quick tw16539863328622980319 for PySem.Manifest.ty_dict by Mine.self_ty
name_quick tw2460228577881660442 for PySem.Manifest.ty_dict by Mine.self_ty
name_quick tw2660918139993853925 for PySem.Manifest.ty_dict by Mine.self_ty
name_quick tw14834023430324568649 for PySem.Manifest.ty_dict by Mine.self_ty
name_quick tw392140993173905013 for PySem.Manifest.ty_dict by Mine.self_ty
name_quick tw5349121933718820234 for PySem.Manifest.ty_dict by Mine.self_ty
name_quick tw1258717718454355964 for PySem.Manifest.ty_dict by Mine.self_ty
name_quick tw10938465397075749097 for PySem.Manifest.ty_dict by Mine.self_ty
name_quick tw3131671291697673992 for PySem.Manifest.ty_dict by Mine.self_ty
name_quick tw15168306246750427876 for PySem.Manifest.ty_dict by Mine.self_ty
name_quick tw2627984346626558326 for PySem.Manifest.ty_dict by Mine.self_ty
name_quick tw4251353427327788602 for PySem.Manifest.ty_dict by Mine.self_ty
name_quick tw3362959441861295915 for PySem.Manifest.ty_dict by Mine.self_ty
name_quick tw1218959903707654005 for PySem.Manifest.ty_dict by Mine.self_ty
name_quick tw2862820112641550484 for PySem.Manifest.ty_dict by Mine.self_ty
name_quick tw7892128664451923741 for PySem.Manifest.ty_dict by Mine.self_ty
name_quick tw15548232759531236198 for PySem.Manifest.ty_dict by Mine.self_ty
name_quick tw11588390666370768167 for PySem.Manifest.ty_dict by Mine.self_ty
name_quick tw2283851925072248500 for PySem.Manifest.ty_dict by Mine.self_ty
name_quick tw1414301608579184545 for PySem.Manifest.ty_dict by Mine.self_ty
name_quick tw6589095468515690095 for PySem.Manifest.ty_dict by Mine.self_ty
name_quick tw682011567655089306 for PySem.Manifest.ty_dict by Mine.self_ty
name_quick tw932993149863042379 for PySem.Manifest.ty_dict by Mine.self_ty
name_quick tw4919607303878514444 for PySem.Manifest.ty_dict by Mine.self_ty
name_quick tw17279654841073493023 for PySem.Manifest.ty_dict by Mine.self_ty
name_quick tw15007238320947547705 for PySem.Manifest.ty_dict by Mine.self_ty
name_quick tw13236226663087606529 for PySem.Manifest.ty_dict by Mine.self_ty
name_quick tw17018628822417861297 for PySem.Manifest.ty_dict by Mine.self_ty
name_quick tw151948405760981731 for PySem.Manifest.ty_dict by Mine.self_ty
name_quick tw9862997608875712007 for PySem.Manifest.ty_dict by Mine.self_ty
name_quick tw6733733256287894996 for PySem.Manifest.ty_dict by Mine.self_ty
name_quick tw1355338860687761863 for PySem.Manifest.ty_dict by Mine.self_ty
name_quick tw17730448691065144110 for PySem.Manifest.ty_dict by Mine.self_ty
name_quick tw8860024209350480642 for PySem.Manifest.ty_dict by Mine.self_ty
name_quick tw8424611434330503625 for PySem.Manifest.ty_dict by Mine.self_ty
name_quick tw8537084889766193716 for PySem.Manifest.ty_dict by Mine.self_ty
name_quick tw505943868828395459 for PySem.Manifest.ty_dict by Mine.self_ty
name_quick tw6434138532213402376 for PySem.Manifest.ty_dict by Mine.self_ty
name_quick tw12290603225136948437 for PySem.Manifest.ty_dict by Mine.self_ty
name_quick tw9285146279643344392 for PySem.Manifest.ty_dict by Mine.self_ty
name_quick tw8119918657739134586 for PySem.Manifest.ty_dict by Mine.self_ty
name_quick tw117213463901210413 for PySem.Manifest.ty_dict by Mine.self_ty
name_quick tw18056578402003937789 for PySem.Manifest.ty_dict by Mine.self_ty
name_quick tw15980859228951719591 for PySem.Manifest.ty_dict by Mine.self_ty
name_quick tw704327219915372674 for PySem.Manifest.ty_dict by Mine.self_ty
name_quick tw2670528217467546775 for PySem.Manifest.ty_dict by Mine.self_ty
name_quick tw5770868932273138760 for PySem.Manifest.ty_dict by Mine.self_ty
name_quick tw6929956602132211858 for PySem.Manifest.ty_dict by Mine.self_ty
name_quick tw1258299570235058372 for PySem.Manifest.ty_dict by Mine.self_ty
name_quick tw5200128776193632040 for PySem.Manifest.ty_dict by Mine.self_ty
name_quick tw8595292554425487202 for PySem.Manifest.ty_dict by Mine.self_ty
name_quick tw14714103240675001986 for PySem.Manifest.ty_dict by Mine.self_ty
name_quick tw14847034805825309785 for PySem.Manifest.ty_dict by Mine.self_ty
name_quick tw5978237884098788730 for PySem.Manifest.ty_dict by Mine.self_ty
name_quick tw43969757491396457 for PySem.Manifest.ty_dict by Mine.self_ty
name_quick tw14979626087600564940 for PySem.Manifest.ty_dict by Mine.self_ty
name_quick tw16350708796919097252 for PySem.Manifest.ty_dict by Mine.self_ty
name_quick tw4011157648589011858 for PySem.Manifest.ty_dict by Mine.self_ty
name_quick tw10362974711232342345 for PySem.Manifest.ty_dict by Mine.self_ty
name_quick tw10528696920762540405 for PySem.Manifest.ty_dict by Mine.self_ty
name_quick tw4775785305629353868 for PySem.Manifest.ty_dict by Mine.self_ty
name_quick tw14433975572909055671 for PySem.Manifest.ty_dict by Mine.self_ty
name_quick tw9759809726879904816 for PySem.Manifest.ty_dict by Mine.self_ty
namespace Mine
open_top hd for PySem.Challenge.rw_ik0122_01
theorem topOff : True := by
  w_top off
  trivial
end Mine
end
section
open PySem PySem.W PyProof.Rows PySem.Builtin.Str
namespace Mine
/-- a text by its signs' numbers -/
def S (l : List Nat) : Str := ⟨l.toArray⟩
theorem S_len (l : List Nat) : (S l).length = l.length := by simp [S, Str.length]
theorem S_app (a b : List Nat) : S a ++ S b = S (a ++ b) := by
  show Str.append (S a) (S b) = _
  simp [S, Str.append]
theorem S_inj {a b : List Nat} : S a = S b ↔ a = b := by simp [S]
theorem S_of (x : Str) : S x.cps.toList = x := by simp [S]
theorem S_mk1 (c : Nat) : (⟨#[c]⟩ : Str) = S [c] := rfl
theorem S_eq (a b : List Nat) : (S a == S b) = decide (a = b) := by
  by_cases h : a = b
  · subst h; simp
  · simp [h, S_inj]
theorem lit_q : Str.ofString "?" = S [63] := by decide +kernel
theorem lit_d : Str.ofString "-" = S [45] := by decide +kernel
theorem lit_o : Str.ofString "[" = S [91] := by decide +kernel
theorem lit_c : Str.ofString "]" = S [93] := by decide +kernel
theorem lit_dc : Str.ofString "-]" = S [45, 93] := by decide +kernel
theorem lit_xST : Str.ofString "xST" = S [120, 83, 84] := by decide +kernel
theorem lit_s : Str.ofString "s" = S [115] := by decide +kernel
theorem lit_t : Str.ofString "t" = S [116] := by decide +kernel
theorem charAt_S {l : List Nat} {k : Nat} {c : Nat} (h : l[k]? = some c) : Txt.charAt (S l) (k : Int) = some c := by
  have hk : k < l.length := (List.getElem?_eq_some_iff.mp h).1
  unfold Txt.charAt
  have e : seqIndex? (k : Int) (S l).length = some k := by
    rw [S_len]
    unfold seqIndex?
    simp only []
    (repeat' split) <;> simp_all <;> omega
  rw [e]
  show (S l).cps[k]? = some c
  simpa [S] using h
theorem item_S {l : List Nat} {k : Nat} {c : Nat} (h : l[k]? = some c) : Txt.item (S l) (k : Int) = S [c] := by
  unfold Txt.item
  rw [charAt_S h]; rfl
theorem in_one (l : List Nat) (c : Nat) : (!(occurrences (S l) (S [c]) 0 (Str.length (S l)) 1).isEmpty) = decide (c ∈ l) := by
  have h := (StrLaws.found_iff (S l) (S [c]))
  have e : (!(occurrences (S l) (S [c]) 0 (Str.length (S l)) 1).isEmpty) = true ↔ c ∈ l := by
    rw [h]
    constructor
    · rintro ⟨i, hi⟩
      have q := (StrLaws.subAt_one (S l) c i).mp hi
      have q' : l[i]? = some c := by simpa [S] using q
      exact List.mem_of_getElem? q'
    · intro hm
      obtain ⟨i, hi⟩ := List.getElem?_of_mem hm
      exact ⟨i, (StrLaws.subAt_one (S l) c i).mpr (by simpa [S] using hi)⟩
  by_cases hm : c ∈ l
  · rw [decide_eq_true hm]; exact e.mpr hm
  · rw [decide_eq_false hm]
    cases q : (!(occurrences (S l) (S [c]) 0 (Str.length (S l)) 1).isEmpty) with
    | true => exact absurd (e.mp q) hm
    | false => rfl
end Mine
end
section
open PySem PySem.W PyProof.Rows PySem.Builtin.Str
namespace Mine
def tokM (c : Nat) : List Nat := if c = 45 then [45] else if c ∈ [120, 83, 84] then [91, c, 45, 93] else [63]
def tokL (k c : Nat) : List Nat := if c = 45 then [63] else if c ∈ [120, 83, 84] then [91, c, if k = 9 then 116 else 115, 93] else [c]
def mostP (r0 : Nat) (rs : List Nat) : List Nat := [91, r0, 93] ++ rs.flatMap tokM
def toksL : Nat → List Nat → List Nat
  | _, [] => []
  | k, c :: r => tokL k c ++ toksL (k + 1) r
def leastP (r0 : Nat) (rs : List Nat) : List Nat := [91, r0, 93] ++ toksL 1 rs
theorem toksL_snoc (c : Nat) : ∀ (l : List Nat) (k : Nat), toksL k (l ++ [c]) = toksL k l ++ tokL (k + l.length) c
  | [], k => by simp [toksL]
  | x :: r, k => by
    simp only [List.cons_append, toksL, toksL_snoc c r (k + 1), List.length_cons, List.append_assoc]
    have : k + 1 + r.length = k + (r.length + 1) := by omega
    rw [this]
theorem leastP_snoc (r0 : Nat) (l : List Nat) (c : Nat) : leastP r0 (l ++ [c]) = leastP r0 l ++ tokL (1 + l.length) c := by
  simp [leastP, toksL_snoc]
theorem mostP_snoc (r0 : Nat) (l : List Nat) (c : Nat) : mostP r0 (l ++ [c]) = mostP r0 l ++ tokM c := by
  simp [mostP]
theorem toNat_snoc (pre : List Int) (c : Nat) : (pre ++ [(c : Int)]).map Int.toNat = pre.map Int.toNat ++ [c] := by simp
theorem isDash {c : Nat} (h : ((⟨#[c]⟩ : Str) == Str.ofString "-") = true) : c = 45 := by
  rw [lit_d, S_mk1, S_eq] at h
  simpa using h
theorem noDash {c : Nat} (h : ((⟨#[c]⟩ : Str) == Str.ofString "-") = false) : c ≠ 45 := by
  rw [lit_d, S_mk1, S_eq] at h
  simpa using h
theorem isX {c : Nat} (h : (occurrences (Str.ofString "xST") (⟨#[c]⟩ : Str) 0 (Str.length (Str.ofString "xST")) 1).isEmpty = false) : c ∈ [120, 83, 84] := by
  have h' : (!(occurrences (Str.ofString "xST") (⟨#[c]⟩ : Str) 0 (Str.length (Str.ofString "xST")) 1).isEmpty) = true := by rw [h]; rfl
  rw [lit_xST, S_mk1, in_one] at h'
  simpa using h'
theorem noX {c : Nat} (h : (occurrences (Str.ofString "xST") (⟨#[c]⟩ : Str) 0 (Str.length (Str.ofString "xST")) 1).isEmpty = true) : c ∉ [120, 83, 84] := by
  have h' : (!(occurrences (Str.ofString "xST") (⟨#[c]⟩ : Str) 0 (Str.length (Str.ofString "xST")) 1).isEmpty) = false := by rw [h]; rfl
  rw [lit_xST, S_mk1, in_one] at h'
  simpa using h'
theorem mostA {r0 : Nat} {pre : List Int} {c : Nat} {p : Str} (hp : p = S (mostP r0 (pre.map Int.toNat))) (h : ((⟨#[c]⟩ : Str) == Str.ofString "-") = true) :
    p ++ Str.ofString "-" = S (mostP r0 ((pre ++ [(c : Int)]).map Int.toNat)) := by
  have e := isDash h
  subst e
  rw [hp, toNat_snoc, mostP_snoc, lit_d, S_app]; rfl
theorem mostB {r0 : Nat} {pre : List Int} {c : Nat} {p : Str} (hp : p = S (mostP r0 (pre.map Int.toNat))) (h : ((⟨#[c]⟩ : Str) == Str.ofString "-") = false)
    (h2 : (occurrences (Str.ofString "xST") (⟨#[c]⟩ : Str) 0 (Str.length (Str.ofString "xST")) 1).isEmpty = false) :
    p ++ Str.ofString "[" ++ (⟨#[c]⟩ : Str) ++ Str.ofString "-]" = S (mostP r0 ((pre ++ [(c : Int)]).map Int.toNat)) := by
  rw [hp, toNat_snoc, mostP_snoc, lit_o, lit_dc, S_mk1, S_app, S_app, S_app]
  have e : tokM c = [91, c, 45, 93] := by unfold tokM; rw [if_neg (noDash h), if_pos (isX h2)]
  rw [e]; simp
theorem mostC {r0 : Nat} {pre : List Int} {c : Nat} {p : Str} (hp : p = S (mostP r0 (pre.map Int.toNat))) (h : ((⟨#[c]⟩ : Str) == Str.ofString "-") = false)
    (h2 : (occurrences (Str.ofString "xST") (⟨#[c]⟩ : Str) 0 (Str.length (Str.ofString "xST")) 1).isEmpty = true) :
    p ++ Str.ofString "?" = S (mostP r0 ((pre ++ [(c : Int)]).map Int.toNat)) := by
  rw [hp, toNat_snoc, mostP_snoc, lit_q, S_app]
  have e : tokM c = [63] := by unfold tokM; rw [if_neg (noDash h), if_neg (noX h2)]
  rw [e]
theorem start_eq {r0 : Nat} {rs : List Nat} : Str.ofString "[" ++ Txt.item (S (r0 :: rs)) 0 ++ Str.ofString "]" = S [91, r0, 93] := by
  have h : Txt.item (S (r0 :: rs)) 0 = S [r0] := item_S (k := 0) rfl
  rw [h, lit_o, lit_c, S_app, S_app]; rfl
theorem sl_from {l : List Nat} {i : Int} (h : 0 ≤ i ∧ i ≤ l.length) : Txt.slice (S l) (some i) none = S (l.drop i.toNat) := by
  show StrLaws.sliceText (S l) (some i) none = _
  rw [StrLaws.sliceText_from (by simpa [S] using h)]
  show S ((l.drop i.toNat).take _) = _
  rw [List.take_of_length_le]
  simp [S, List.length_drop]; omega
theorem sl_to {l : List Nat} {j : Int} (h : 0 ≤ j ∧ j ≤ l.length) : Txt.slice (S l) none (some j) = S (l.take j.toNat) := by
  show StrLaws.sliceText (S l) none (some j) = _
  rw [StrLaws.sliceText_to (by simpa [S] using h)]
  simp [S]
theorem sl_mid {l : List Nat} {i j : Int} (h : 0 ≤ i ∧ i ≤ j ∧ j ≤ l.length) : Txt.slice (S l) (some i) (some j) = S ((l.drop i.toNat).take (j - i).toNat) := by
  show StrLaws.sliceText (S l) (some i) (some j) = _
  rw [StrLaws.sliceText_plain (by simpa [S] using h)]
  simp [S]
theorem sl_fromNeg {l : List Nat} {i : Int} (h0 : i < 0) (h : -(l.length : Int) ≤ i) : Txt.slice (S l) (some i) none = S (l.drop (i + l.length).toNat) := by
  show StrLaws.sliceText (S l) (some i) none = _
  rw [StrLaws.sliceText_neg_lo _ _ h0 (by rw [S_len]; exact h), S_len]
  exact sl_from (l := l) ⟨by omega, by omega⟩
theorem slice1_S (a : Nat) (l : List Nat) : Txt.slice (S (a :: l)) (some 1) none = S l := by
  rw [sl_from (by simp; omega)]; rfl
theorem codes_S (l : List Nat) : KStt.codes (S l) = l.map fun (c : Nat) => (c : Int) := by simp [KStt.codes, S]
theorem codes_back (l : List Nat) : (l.map fun (c : Nat) => (c : Int)).map Int.toNat = l := by
  induction l with
  | nil => rfl
  | cons a r ih => simp [ih]
/-- the loop of least: k names the place -/
theorem leastA {r0 : Nat} {rs : List Nat} {n : Nat} {k : Int} {c : Nat} {p : Str} (hp : p = S (leastP r0 (rs.take n))) (hk : k = 1 + (n : Int)) (hc : rs[n]? = some c) :
    (((Txt.item (S (r0 :: rs)) k == Str.ofString "-") = true → p ++ Str.ofString "?" = S (leastP r0 (rs.take (n + 1))))) := by
  intro h
  have e : Txt.item (S (r0 :: rs)) k = S [c] := by
    have : k = ((n + 1 : Nat) : Int) := by omega
    rw [this]; exact item_S (by simpa using hc)
  rw [e] at h
  have e1 : c = 45 := isDash h
  have e2 : rs.take (n + 1) = rs.take n ++ [c] := by rw [List.take_add_one, hc]; rfl
  have hn : (rs.take n).length = n := by
    have := (List.getElem?_eq_some_iff.mp hc).1
    simp; omega
  rw [hp, e2, leastP_snoc, hn, lit_q, S_app, e1]; rfl
theorem leastB {r0 : Nat} {rs : List Nat} {n : Nat} {k : Int} {c : Nat} {p : Str} (hp : p = S (leastP r0 (rs.take n))) (hk : k = 1 + (n : Int)) (hc : rs[n]? = some c)
    (h : (Txt.item (S (r0 :: rs)) k == Str.ofString "-") = false)
    (h2 : (occurrences (Str.ofString "xST") (Txt.item (S (r0 :: rs)) k) 0 (Str.length (Str.ofString "xST")) 1).isEmpty = false) (q : Str) (hq : q = if k = 9 then Str.ofString "t" else Str.ofString "s") :
    p ++ Str.ofString "[" ++ Txt.item (S (r0 :: rs)) k ++ q ++ Str.ofString "]" = S (leastP r0 (rs.take (n + 1))) := by
  have e : Txt.item (S (r0 :: rs)) k = S [c] := by
    have : k = ((n + 1 : Nat) : Int) := by omega
    rw [this]; exact item_S (by simpa using hc)
  rw [e] at h h2
  have e1 := noDash h
  have e3 := isX h2
  have e2 : rs.take (n + 1) = rs.take n ++ [c] := by rw [List.take_add_one, hc]; rfl
  have hn : (rs.take n).length = n := by
    have := (List.getElem?_eq_some_iff.mp hc).1
    simp; omega
  have hq' : q = S [if 1 + n = 9 then 116 else 115] := by
    rw [hq]
    by_cases h9 : k = 9
    · rw [if_pos h9, if_pos (by omega), lit_t]
    · rw [if_neg h9, if_neg (by omega), lit_s]
  rw [hp, e, e2, leastP_snoc, hn, hq', lit_o, lit_c, S_app, S_app, S_app, S_app]
  unfold tokL
  rw [if_neg e1, if_pos e3]
  simp
theorem leastC {r0 : Nat} {rs : List Nat} {n : Nat} {k : Int} {c : Nat} {p : Str} (hp : p = S (leastP r0 (rs.take n))) (hk : k = 1 + (n : Int)) (hc : rs[n]? = some c)
    (h : (Txt.item (S (r0 :: rs)) k == Str.ofString "-") = false)
    (h2 : (occurrences (Str.ofString "xST") (Txt.item (S (r0 :: rs)) k) 0 (Str.length (Str.ofString "xST")) 1).isEmpty = true) :
    p ++ Txt.item (S (r0 :: rs)) k = S (leastP r0 (rs.take (n + 1))) := by
  have e : Txt.item (S (r0 :: rs)) k = S [c] := by
    have : k = ((n + 1 : Nat) : Int) := by omega
    rw [this]; exact item_S (by simpa using hc)
  rw [e] at h h2
  have e1 := noDash h
  have e3 := noX h2
  have e2 : rs.take (n + 1) = rs.take n ++ [c] := by rw [List.take_add_one, hc]; rfl
  have hn : (rs.take n).length = n := by
    have := (List.getElem?_eq_some_iff.mp hc).1
    simp; omega
  rw [hp, e, e2, leastP_snoc, hn, S_app]
  unfold tokL
  rw [if_neg e1, if_neg e3]
theorem least1 {r0 : Nat} {rs : List Nat} {pre : List Int} {k : Int} {p : Str} (hp : p = S (leastP r0 (rs.take pre.length))) (hk : k = 1 + (pre.length : Int)) (hn : pre.length < rs.length)
    (h : (Txt.item (S (r0 :: rs)) k == Str.ofString "-") = true) : p ++ Str.ofString "?" = S (leastP r0 (rs.take (pre ++ [k]).length)) := by
  rw [List.length_append]
  exact leastA hp hk (List.getElem?_eq_getElem hn) h
theorem least2 {r0 : Nat} {rs : List Nat} {pre : List Int} {k : Int} {p : Str} (hp : p = S (leastP r0 (rs.take pre.length))) (hk : k = 1 + (pre.length : Int)) (hn : pre.length < rs.length)
    (h : (Txt.item (S (r0 :: rs)) k == Str.ofString "-") = false)
    (h2 : (occurrences (Str.ofString "xST") (Txt.item (S (r0 :: rs)) k) 0 (Str.length (Str.ofString "xST")) 1).isEmpty = false) (h9 : k = 9) :
    p ++ Str.ofString "[" ++ Txt.item (S (r0 :: rs)) k ++ Str.ofString "t" ++ Str.ofString "]" = S (leastP r0 (rs.take (pre ++ [k]).length)) := by
  rw [List.length_append]
  exact leastB hp hk (List.getElem?_eq_getElem hn) h h2 _ (by rw [if_pos h9])
theorem least3 {r0 : Nat} {rs : List Nat} {pre : List Int} {k : Int} {p : Str} (hp : p = S (leastP r0 (rs.take pre.length))) (hk : k = 1 + (pre.length : Int)) (hn : pre.length < rs.length)
    (h : (Txt.item (S (r0 :: rs)) k == Str.ofString "-") = false)
    (h2 : (occurrences (Str.ofString "xST") (Txt.item (S (r0 :: rs)) k) 0 (Str.length (Str.ofString "xST")) 1).isEmpty = false) (h9 : k ≠ 9) :
    p ++ Str.ofString "[" ++ Txt.item (S (r0 :: rs)) k ++ Str.ofString "s" ++ Str.ofString "]" = S (leastP r0 (rs.take (pre ++ [k]).length)) := by
  rw [List.length_append]
  exact leastB hp hk (List.getElem?_eq_getElem hn) h h2 _ (by rw [if_neg h9])
theorem least4 {r0 : Nat} {rs : List Nat} {pre : List Int} {k : Int} {p : Str} (hp : p = S (leastP r0 (rs.take pre.length))) (hk : k = 1 + (pre.length : Int)) (hn : pre.length < rs.length)
    (h : (Txt.item (S (r0 :: rs)) k == Str.ofString "-") = false)
    (h2 : (occurrences (Str.ofString "xST") (Txt.item (S (r0 :: rs)) k) 0 (Str.length (Str.ofString "xST")) 1).isEmpty = true) :
    p ++ Txt.item (S (r0 :: rs)) k = S (leastP r0 (rs.take (pre ++ [k]).length)) := by
  rw [List.length_append]
  exact leastC hp hk (List.getElem?_eq_getElem hn) h h2
theorem leastP_len (r0 : Nat) (l : List Nat) : (leastP r0 l).length ≤ 3 + 4 * l.length := by
  have h : ∀ (l : List Nat) (k : Nat), (toksL k l).length ≤ 4 * l.length := by
    intro l
    induction l with
    | nil => intro k; simp [toksL]
    | cons a r ih =>
      intro k
      have := ih (k + 1)
      have h1 : (tokL k a).length ≤ 4 := by unfold tokL; (repeat' split) <;> simp
      simp only [toksL, List.length_append, List.length_cons]; omega
  have := h l 1
  simp only [leastP, List.length_append, List.length_cons, List.length_nil]; omega
theorem leastPair {q : Str} {r0 : Nat} {rs : List Nat} {pre : List Int} (e : q = S (leastP r0 (rs.take pre.length))) : q = S (leastP r0 (rs.take pre.length)) ∧ q.length ≤ 3 + 4 * pre.length := by
  refine ⟨e, ?_⟩
  rw [e, S_len]
  refine Nat.le_trans (leastP_len _ _) ?_
  rw [List.length_take]; omega
theorem mostP_len (r0 : Nat) (l : List Nat) : (mostP r0 l).length ≤ 3 + 4 * l.length := by
  have h : ∀ (l : List Nat), (l.flatMap tokM).length ≤ 4 * l.length := by
    intro l
    induction l with
    | nil => simp
    | cons a r ih =>
      have h1 : (tokM a).length ≤ 4 := by unfold tokM; (repeat' split) <;> simp
      simp only [List.flatMap_cons, List.length_append, List.length_cons]; omega
  have := h l
  simp only [mostP, List.length_append, List.length_cons, List.length_nil]; omega
theorem mostPair {q : Str} {r0 : Nat} {pre : List Int} (e : q = S (mostP r0 (pre.map Int.toNat))) : q = S (mostP r0 (pre.map Int.toNat)) ∧ q.length ≤ 3 + 4 * pre.length := by
  refine ⟨e, ?_⟩
  rw [e, S_len]
  refine Nat.le_trans (mostP_len _ _) ?_
  rw [List.length_map]; omega
theorem start_least {r0 : Nat} {rs : List Nat} : Str.ofString "[" ++ Txt.item (S (r0 :: rs)) 0 ++ Str.ofString "]" = S (leastP r0 (rs.take ([] : List Int).length)) := start_eq
theorem start_most {r0 : Nat} {rs : List Nat} : Str.ofString "[" ++ Txt.item (S (r0 :: rs)) 0 ++ Str.ofString "]" = S (mostP r0 (([] : List Int).map Int.toNat)) := start_eq
theorem nine {n : Nat} (h : n < (10 - 1 : Int).toNat) (hr : (9 : Nat) = 9) : n < 9 := h
end Mine
end
section
open PySem PySem.W PyProof.Rows PySem.Calls
namespace Mine
section
variable {prog : Program} {w : World} {A : Around} {E : Value → Shared → Prop} {s : Shared} {env : Env} {h₀ : Heap} {target : Expr} {body orelse : List Stmt} {Q : Flow → Shared → Prop}
/-- a for with an else, by what holds ahead of its i-th turn -/
theorem forE {I : Addr} {fp wr : List Addr} {n : Nat} {P Md : Nat → Value → Heap → Prop} {St : Nat → Heap → Prop} {m : Str → Option Value} {news : List (Addr × Obj)}
    (W : KTurns prog w A target I fp wr n P Md St) (hE : PassesOwn (model prog w) A env E)
    (hLf : env.locals ∉ fp) (hwr : ∀ b ∈ wr, h₀.get? b = none) (hnf : ∀ p ∈ news, p.1 ∉ fp) (hst : St 0 s.heap) (F : Fr h₀ env.locals s.heap m) (N : News h₀ env.locals s.heap news)
    (J : Nat → (Str → Option Value) → List (Addr × Obj) → Prop) (h0 : J 0 m news)
    (turn : ∀ i v m₁ nx h tk own, i < n → P i v h → nx.map (·.1) = news.map (·.1) → OwnOff own (news.map (·.1)) → J i m₁ nx → Fr h₀ env.locals h m₁ → News h₀ env.locals h (nx ++ own) →
      wpAny (model prog w) A (assign target env v) (fun _ s₃ => wpAny (model prog w) A (execs body env)
        (InvPostN h₀ env.locals (J (i + 1)) own (news.map (·.1)) { s with heap := h, toks := tk } Q) E s₃) E { s with heap := h, toks := tk })
    (done : ∀ m₁ nx h tk, nx.map (·.1) = news.map (·.1) → J n m₁ nx → Fr h₀ env.locals h m₁ → News h₀ env.locals h nx → wpAny (model prog w) A (execs orelse env) Q E { s with heap := h, toks := tk }) :
    codeAny (model prog w) A (.forLoop target (.ref I) body orelse env) (fun r s' => match r with | .ok f => Q f s' | .error e => cameBackBy (model prog w) A env E e s') s := by
  have hLw : env.locals ∉ wr := fun h => hLf (W.sub _ h)
  have old : ∀ b o, h₀.get? b = some o → b ∉ wr := fun b o e hb => by rw [hwr b hb] at e; cases e
  refine codeAny_forLoop_any
    (fun k s' => ∃ h' tk m' nx i, s' = { s with heap := h', toks := tk } ∧ St i h' ∧ Fr h₀ env.locals h' m' ∧ News h₀ env.locals h' nx ∧ nx.map (·.1) = news.map (·.1) ∧ J i m' nx ∧ i ≤ n ∧ k = n + 1 - i) ?_ (n + 1)
    ⟨s.heap, s.toks, m, news, 0, rfl, hst, F, N, rfl, h0, Nat.zero_le _, rfl⟩
  rintro k s' ⟨h', tk, m', nx, i, rfl, hst', F', N', hadr, hJ, hi, rfl⟩
  have hnf' : ∀ p ∈ nx, p.1 ∉ fp := fun p hp hf => by
    have h1 : p.1 ∈ nx.map (·.1) := List.mem_map.mpr ⟨p, hp, rfl⟩
    rw [hadr] at h1
    obtain ⟨q, hq, e⟩ := List.mem_map.mp h1
    exact hnf q hq (by rw [e]; exact hf)
  have next : ∀ h₁ : Heap, (∀ b o, b ∉ wr → h'.get? b = some o → h₁.get? b = some o) → Fr h₀ env.locals h₁ m' ∧ News h₀ env.locals h₁ nx := fun h₁ hk₁ =>
    ⟨⟨F'.ns.at' fun o e => hk₁ _ o hLw e, fun b o e => hk₁ b o (old b o e) (F'.keep b o e), F'.above⟩, fun p hp => ⟨hk₁ _ _ (fun hw => hnf' p hp (W.sub _ hw)) (N' p hp).1, (N' p hp).2⟩⟩
  by_cases hlt : i < n
  · refine W.item i _ _ _ hlt hst' fun v h₁ tk₁ hMd hk₁ => ?_
    refine W.go i v _ _ _ hMd fun h₂ hP hst₂ hk₂ => ?_
    obtain ⟨F₂, N₂⟩ := next h₂ fun b o hb x => hk₂ b o hb (hk₁ b o hb x)
    have Nown : News h₀ env.locals h₂ (PyProof.Rows.ownOf h₀ fp h₂) := news_ownOf hLf
    have hoff : OwnOff (PyProof.Rows.ownOf h₀ fp h₂) (news.map (·.1)) := fun p hp b hb e => by
      obtain ⟨q, hq, rfl⟩ := List.mem_map.mp hb
      exact hnf q hq (e ▸ ownOf_sub p hp)
    refine wpAny_mono (turn i v m' nx h₂ tk₁ _ hlt hP hadr hoff hJ F₂ (N₂.append Nown))
      (fun _ s₂ h₂' => wpAny_passesOwn hE (wpAny_mono h₂' (fun f s₃ h₃ => ?_) fun _ _ e => e)) hE
    have fin : InvEndN h₀ env.locals (J (i + 1)) (PyProof.Rows.ownOf h₀ fp h₂) (news.map (·.1)) { s with heap := h₂, toks := tk₁ } s₃ →
        ∃ m, m < n + 1 - i ∧ ∃ h' tk m' nx i, s₃ = { s with heap := h', toks := tk } ∧ St i h' ∧ Fr h₀ env.locals h' m' ∧ News h₀ env.locals h' nx ∧ nx.map (·.1) = news.map (·.1) ∧ J i m' nx ∧ i ≤ n ∧ m = n + 1 - i := by
      rintro ⟨h₃', tk₃, m₂, news', nx₂, rfl, F₃, N₃, hn₃, ho₃, ha₃, hJ₃⟩
      refine ⟨n + 1 - (i + 1), by omega, h₃', tk₃, m₂, nx₂, i + 1, rfl, ?_, F₃, fun p hp => N₃ p (hn₃ p hp), ha₃, hJ₃, hlt, rfl⟩
      refine W.frame _ _ _ hst₂ fun b hb o e => ?_
      cases hn : h₀.get? b with
      | some o₀ =>
        have q := F₂.keep b o₀ hn
        rw [e] at q
        cases q
        exact F₃.keep b _ hn
      | none => exact (N₃ _ (ho₃ _ (mem_ownOf hb hn e))).1
    cases f with
    | ret v => exact h₃
    | brk => exact h₃
    | next => exact fin h₃
    | cont => exact fin h₃
  · have hin : i = n := by omega
    subst hin
    refine W.done _ _ _ hst' fun h₁ tk₁ hk₁ => ?_
    obtain ⟨F₁, N₁⟩ := next h₁ hk₁
    exact wpAny_passesOwn hE (done m' nx h₁ tk₁ hadr hJ F₁ N₁)
end
section
variable {prog : Program} {w : World} {A : Around} {E : Value → Shared → Prop} {s : Shared}
open AutoSeq1 (wpAny_loadPart')
theorem meets_enumerate_newT (l : Addr) (items : Array Value) (n : Nat) (dct : Option Addr) (sl : Array (Option Value)) :
    Meets (Builtin.«enumerate.__new__» ⟨[.type "enumerate", .ref l], []⟩) (fun _ R s => s.heap.get? l = some { cls := .type "tuple", dict := dct, data := .seq items n, slots := sl } ∧
      R (.ok (.ret (.ref (s.heap.push { cls := .type "tuple_iterator", data := .fields #[.ref l, .int 0 0] }).objs.size)))
        { s with heap := (s.heap.push { cls := .type "tuple_iterator", data := .fields #[.ref l, .int 0 0] }).push { cls := .type "enumerate", data := .fields #[.none, .bool false, .ref s.heap.objs.size, rawInt 0, .none, .none] } }) :=
  .of_wp fun prog w A R s h => by
    obtain ⟨hp, g, d, tk, os⟩ := s; obtain ⟨hl, h⟩ := h
    have hsub := sub_enumerate
    have hL : Heap.IsTuple (Shared.heap ⟨hp, g, d, tk, os⟩) l items := ⟨_, hl, rfl, n, rfl⟩
    wp_walk using wpAny_loadPart' hl
    refine wpAny_stack_any fun st => wpAny_pure ?_
    split
    · rename_i c _ _ _ _ _
      cases (c == Value.type "enumerate")
      · wp_walk using wpAny_loadPart' hl, wpAny_pyIter_tuple hL
        exact ⟨_, rfl, h⟩
      · wp_walk using wpAny_loadPart' hl, wpAny_pyIter_tuple hL
        exact ⟨_, rfl, h⟩
    · wp_walk using wpAny_loadPart' hl, wpAny_pyIter_tuple hL
      exact ⟨_, rfl, h⟩
theorem call_enumerate_tuple {l : Addr} {items : Array Value} {Q : Value → Shared → Prop} (hL : s.heap.IsTuple l items)
    (h : ∀ h', IsEnum h' (s.heap.objs.size + 1) s.heap.objs.size 0 .none → h'.IsTupleIter s.heap.objs.size l 0 → h'.objs.size = s.heap.objs.size + 2 →
      (∀ b o, s.heap.get? b = some o → h'.get? b = some o) → Q (.ref (s.heap.objs.size + 1)) { s with heap := h' }) :
    wpAny (model prog w) A (call (.type "enumerate") [.ref l]) Q E s := by
  obtain ⟨⟨c, dct, dt, sl⟩, hl, hc, n, hd⟩ := hL
  replace hc : c = .type "tuple" := hc
  replace hd : dt = .seq items n := hd
  subst hc hd
  refine callType_new F.called_enumerate (by decide) (F.typeCall_enumerate_1 _) (F.newCall_enumerate_1 _) (fun obj => F.args_object_init_2 obj _) F.entry_enumerate_new
    (meets_enumerate_newT l items n dct sl) ⟨hl, ?_⟩
  have hz : (s.heap.push { cls := .type "tuple_iterator", data := .fields #[.ref l, .int 0 0] }).objs.size = s.heap.objs.size + 1 := Heap.size_push ..
  show _ ∧ _
  rw [hz]
  have he : IsEnum ((s.heap.push { cls := .type "tuple_iterator", data := .fields #[.ref l, .int 0 0] }).push
      { cls := .type "enumerate", data := .fields #[.none, .bool false, .ref s.heap.objs.size, rawInt 0, .none, .none] }) (s.heap.objs.size + 1) s.heap.objs.size 0 .none := by
    have := Heap.get?_push_size (s.heap.push { cls := .type "tuple_iterator", data := .fields #[.ref l, .int 0 0] })
      (o := { cls := .type "enumerate", data := .fields #[.none, .bool false, .ref s.heap.objs.size, rawInt 0, .none, .none] }) rfl
    rw [hz] at this; exact this
  refine ⟨⟨_, he, rfl⟩, h _ he ⟨_, Heap.get?_push_of_some _ (Heap.get?_push_size _ rfl), rfl, rfl⟩ (by rw [Heap.size_push, hz]) fun b o x => Heap.get?_push_of_some _ (Heap.get?_push_of_some _ x)⟩
theorem nextOf_tuple_item {it t : Addr} {i : Nat} {items : Array Value} {x : Value} {Q : Value → Shared → Prop} (hit : s.heap.IsTupleIter it t i) (ht : s.heap.IsTuple t items) (hx : items[i]? = some x)
    (hQ : ∀ h', h'.IsTupleIter it t (i + 1) → Heap.SameBut it s.heap h' → Q x { s with heap := h' }) :
    wpAny (model prog w) A (Builtin.SmallTypes.nextOf (.ref it)) Q E s := by
  obtain ⟨o, ho, hc, hd⟩ := id hit
  obtain ⟨ol, hol, _, nl, hdl⟩ := ht
  unfold Builtin.SmallTypes.nextOf
  refine wpAny_bind (wpAny_callSpecial?_slot (name := Str.ofString "__next__") hit.typeIs F.slot_tuple_iterator_next
    (wpAny_call_entry F.slot_tuple_iterator_next hit.typeIs F.entry_tuple_iterator_next ?_ (F.args_tuple_iterator_next_1 _)))
  show wpAny _ _ (field (.ref it) 0 >>= _) _ _ s
  refine wpAny_bind (wpAny_field ho hd (x := .ref t) rfl ?_)
  show wpAny _ _ (if (Value.ref t == Value.none) = true then _ else _) _ _ s
  rw [if_neg (show ¬ ((Value.ref t == Value.none) = true) from Bool.false_ne_true)]
  show wpAny _ _ (field (.ref it) 1 >>= _) _ _ s
  refine wpAny_bind (wpAny_field ho hd (x := .int i 0) rfl ?_)
  show wpAny _ _ (seqItems? (.ref t) >>= _) _ _ s
  refine wpAny_bind (wpAny_seqItems hol hdl ?_)
  simp only [Int.toNat_natCast, hx]
  refine wpAny_bind (wpAny_setField ho hd (by simp) (wpAny_pure ⟨x, rfl, wpAny_pure (hQ _ ?_ (Heap.SameBut.update ..))⟩))
  exact ⟨_, Heap.get?_update_self _ ho (Obj.isFreed_of_fields (Obj.data_mapFields hd _)), (Obj.cls_mapFields ..).trans hc, by
    rw [Obj.data_mapFields hd]; simp [rawInt]⟩
end
end Mine
end
section
open PySem PySem.W PyProof.Rows PySem.Calls
namespace Mine
section
variable {prog : Program} {w : World} {A : Around} {E : Value → Shared → Prop} {s : Shared}
theorem nextOf_tuple_end {it t : Addr} {i : Nat} {items : Array Value} {Q : Value → Shared → Prop} (hh : A.handled = none) (hit : s.heap.IsTupleIter it t i) (ht : s.heap.IsTuple t items) (hx : items[i]? = none)
    (hE : ∀ h' e, Heap.ExtBut it s.heap h' → (∃ o, h'.get? e = some o ∧ o.cls = .type "StopIteration") → E (.ref e) { s with heap := h' }) :
    wpAny (model prog w) A (Builtin.SmallTypes.nextOf (.ref it)) Q E s := by
  obtain ⟨o, ho, hc, hd⟩ := id hit
  obtain ⟨ol, hol, _, nl, hdl⟩ := ht
  unfold Builtin.SmallTypes.nextOf
  refine wpAny_bind (wpAny_callSpecial?_slot (name := Str.ofString "__next__") hit.typeIs F.slot_tuple_iterator_next
    (wpAny_call_entry F.slot_tuple_iterator_next hit.typeIs F.entry_tuple_iterator_next ?_ (F.args_tuple_iterator_next_1 _)))
  show wpAny _ _ (field (.ref it) 0 >>= _) _ _ s
  refine wpAny_bind (wpAny_field ho hd (x := .ref t) rfl ?_)
  show wpAny _ _ (if (Value.ref t == Value.none) = true then _ else _) _ _ s
  rw [if_neg (show ¬ ((Value.ref t == Value.none) = true) from Bool.false_ne_true)]
  show wpAny _ _ (field (.ref it) 1 >>= _) _ _ s
  refine wpAny_bind (wpAny_field ho hd (x := .int i 0) rfl ?_)
  show wpAny _ _ (seqItems? (.ref t) >>= _) _ _ s
  refine wpAny_bind (wpAny_seqItems hol hdl ?_)
  simp only [Int.toNat_natCast, hx]
  refine wpAny_bind (wpAny_rule (wpAny_bind (wpAny_setField ho hd (by simp) ?_)))
  show wpAny _ _ (newExc (.type "StopIteration") [] >>= _) _ _ _
  refine wpAny_bind ?_
  simp only [newExc, newTuple]
  refine wpAny_bind (wpAny_newObj_type ?_ (by size_fits))
  refine wpAny_bind (m := firstArgMember _ _) (wpAny_of_eq (a := Value.none) (by first | rfl | (simp only [firstArgMember]; rfl)) ?_)
  refine wpAny_newObj_type ?_ (by size_fits)
  simp only [raiseNew]
  refine wpAny_bind (wpAny_handled ?_)
  first | rw [show A.in1.handled = none from hh] | rw [hh]
  refine wpAny_bind (wpAny_pure (wpAny_throw ?_))
  exact hE _ _ (((Heap.SameBut.update ..).extBut.push _).push _) ⟨_, Heap.get?_push_size _ rfl, rfl⟩
theorem drawsTuple (hh : A.handled = none) (it l : Addr) (hne : l ≠ it) (items : Array Value) :
    Draws prog w A it [it, l] items.size (fun i v => items[i]? = some v) (fun i h => h.IsTupleIter it l i ∧ h.IsTuple l items) where
  live := fun _ _ st => let ⟨o, ho, _⟩ := st.1; ⟨o, ho⟩
  frame := fun _ _ _ st hk => ⟨st.1.at fun o e => hk it (by simp) o e, st.2.at fun o e => hk l (by simp) o e⟩
  item := fun i s Q E hi st hQ => by
    refine nextOf_tuple_item st.1 st.2 (x := items[i]) (by simp [hi]) fun h' hit' hs' => ?_
    exact hQ _ h' s.toks (by simp [hi]) ⟨hit', st.2.extBut hs'.extBut hne⟩ hs'
  done := fun s Q E st hE => nextOf_tuple_end hh st.1 st.2 (by simp) hE
end
section
variable {prog : Program} {w : World} {A : Around} {E : Value → Shared → Prop} {s : Shared} {env : Env} {h₀ : Heap} {body orelse : List Stmt} {Q : Flow → Shared → Prop}
theorem none_of_le {h₀ h : Heap} {L : Addr} {m : Str → Option Value} {b : Addr} (F : Fr h₀ L h m) (hb : h.objs.size ≤ b) : h₀.get? b = none := by
  cases e : h₀.get? b with
  | none => rfl
  | some o => exact absurd (Heap.lt_size (F.keep _ _ e)) (Nat.not_lt.mpr hb)
/-- for a, b in enumerate(a tuple of the text's own): .. else: .. -/
theorem forEnumT {x1 : Nat} {elts : List Expr} {pt : Pos} {l : Addr} {vs : List Value} {m : Str → Option Value} {news : List (Addr × Obj)}
    (hE : PassesOwn (model prog w) A env E) (hh : A.handled = none) (hl : h₀.IsTuple l vs.toArray) (F : Fr h₀ env.locals s.heap m) (N : News h₀ env.locals s.heap news)
    (J : Nat → (Str → Option Value) → List (Addr × Obj) → Prop) (h0 : J 0 m news)
    (turn : ∀ (i : Nat) x t T m₁ nx h tk own, vs[i]? = some x → IsTup h T #[.int (i : Int) t, x] → nx.map (·.1) = news.map (·.1) → OwnOff own (news.map (·.1)) → J i m₁ nx → Fr h₀ env.locals h m₁ → News h₀ env.locals h (nx ++ own) →
      wpAny (model prog w) A (assign (.Tuple elts x1 pt) env (.ref T)) (fun _ s₃ => wpAny (model prog w) A (execs body env)
        (InvPostN h₀ env.locals (J (i + 1)) own (news.map (·.1)) { s with heap := h, toks := tk } Q) E s₃) E { s with heap := h, toks := tk })
    (done : ∀ m₁ nx h tk, nx.map (·.1) = news.map (·.1) → J vs.length m₁ nx → Fr h₀ env.locals h m₁ → News h₀ env.locals h nx → wpAny (model prog w) A (execs orelse env) Q E { s with heap := h, toks := tk }) :
    wpAny (model prog w) A (call (.type "enumerate") [.ref l]) (fun xv s₁ => wpAny (model prog w) A (pyIter xv) (fun it s₂ =>
      codeAny (model prog w) A (.forLoop (.Tuple elts x1 pt) it body orelse env) (fun r s' => match r with | .ok f => Q f s' | .error e => cameBackBy (model prog w) A env E e s') s₂) E s₁) E s := by
  have hls : s.heap.IsTuple l vs.toArray := hl.at fun o e => F.keep l o e
  obtain ⟨ol, hol, _⟩ := id hl
  have hlt0 : l < h₀.objs.size := Heap.lt_size hol
  have hLs : env.locals < s.heap.objs.size := F.ns.lt
  have hlt : l < s.heap.objs.size := Nat.lt_trans (Nat.lt_of_lt_of_le hlt0 F.above) hLs
  refine call_enumerate_tuple hls fun h' he hit hsz hk => wpAny_pyIter_enum he ?_
  have W := KTurns.ofWalksU (k := x1) (pos := pt) (elts := elts) (WalksT.enumerateD (prog := prog) (w := w) (A := A) (drawsTuple (A := A.in1) hh s.heap.objs.size l (Nat.ne_of_lt hlt) vs.toArray) (s.heap.objs.size + 1) (Nat.succ_ne_self _)
    (by intro hm; rcases List.mem_cons.mp hm with e | e
        · exact Nat.succ_ne_self _ e
        · exact Nat.ne_of_gt (Nat.lt_succ_of_lt hlt) (List.mem_singleton.mp e)) (by simp)).toU
  refine forE (news := news) W hE ?_ ?_ ?_ ⟨⟨.none, he⟩, hit, hls.at fun o e => hk l o e⟩ (F.keeps hk) (N.grown hk) J h0 ?_ ?_
  · intro hm
    rcases List.mem_cons.mp hm with e | hm
    · exact Nat.ne_of_lt (Nat.lt_succ_of_lt hLs) e
    rcases List.mem_cons.mp hm with e | hm
    · exact Nat.ne_of_lt hLs e
    · have e := List.mem_singleton.mp hm
      exact absurd (Nat.lt_of_lt_of_le hlt0 F.above) (by rw [e]; exact Nat.lt_irrefl _)
  · intro b hb
    rcases List.mem_cons.mp hb with rfl | hb
    · exact none_of_le F (Nat.le_succ _)
    · rw [List.mem_singleton.mp hb]; exact none_of_le F (Nat.le_refl _)
  · intro p hp hm
    have hps : p.1 < s.heap.objs.size := Heap.lt_size (N p hp).1
    rcases List.mem_cons.mp hm with e | hm
    · exact Nat.ne_of_lt (Nat.lt_succ_of_lt hps) e
    rcases List.mem_cons.mp hm with e | hm
    · exact Nat.ne_of_lt hps e
    · have h3 := (N p hp).2.2
      rw [List.mem_singleton.mp hm, hol] at h3
      cases h3
  · rintro i v m₁ nx h tk own hi ⟨T, vals, rfl, ⟨t, x, hx, rfl⟩, hT⟩ hadr hoff hJ F₁ N₁
    have hx' : vs[i]? = some x := by simpa using hx
    exact turn i x t T m₁ nx h tk own hx' hT hadr hoff hJ F₁ N₁
  · intro m₁ nx h tk ha hJ F₁ N₁
    exact done m₁ nx h tk ha (by simpa using hJ) F₁ N₁
/-- for .. in (a tuple of the text's own): .. else: .. -/
theorem forTup {target : Expr} {l : Addr} {vs : List Value} {m : Str → Option Value} {news : List (Addr × Obj)}
    (hE : PassesOwn (model prog w) A env E) (hh : A.handled = none) (hl : h₀.IsTuple l vs.toArray) (F : Fr h₀ env.locals s.heap m) (N : News h₀ env.locals s.heap news)
    (J : Nat → (Str → Option Value) → List (Addr × Obj) → Prop) (h0 : J 0 m news)
    (turn : ∀ (i : Nat) x m₁ nx h tk own, vs[i]? = some x → nx.map (·.1) = news.map (·.1) → OwnOff own (news.map (·.1)) → J i m₁ nx → Fr h₀ env.locals h m₁ → News h₀ env.locals h (nx ++ own) →
      wpAny (model prog w) A (assign target env x) (fun _ s₃ => wpAny (model prog w) A (execs body env)
        (InvPostN h₀ env.locals (J (i + 1)) own (news.map (·.1)) { s with heap := h, toks := tk } Q) E s₃) E { s with heap := h, toks := tk })
    (done : ∀ m₁ nx h tk, nx.map (·.1) = news.map (·.1) → J vs.length m₁ nx → Fr h₀ env.locals h m₁ → News h₀ env.locals h nx → wpAny (model prog w) A (execs orelse env) Q E { s with heap := h, toks := tk }) :
    wpAny (model prog w) A (pyIter (.ref l)) (fun it s₂ =>
      codeAny (model prog w) A (.forLoop target it body orelse env) (fun r s' => match r with | .ok f => Q f s' | .error e => cameBackBy (model prog w) A env E e s') s₂) E s := by
  have hls : s.heap.IsTuple l vs.toArray := hl.at fun o e => F.keep l o e
  obtain ⟨ol, hol, _⟩ := id hl
  have hlt0 : l < h₀.objs.size := Heap.lt_size hol
  have hLs : env.locals < s.heap.objs.size := F.ns.lt
  have hlt : l < s.heap.objs.size := Nat.lt_trans (Nat.lt_of_lt_of_le hlt0 F.above) hLs
  refine wpAny_pyIter_tuple hls ?_
  have W := KTurns.ofWalks (target := target) (Walks.tuple (prog := prog) (w := w) (A := A) hh s.heap.objs.size l (Nat.ne_of_lt hlt) vs.toArray) fun i v s Q E st q => letGo_tupleiter st.1 q
  refine forE (news := news) W hE ?_ ?_ ?_ ⟨⟨_, Heap.get?_push_size _ rfl, rfl, rfl⟩, hls.at fun o e => Heap.get?_push_of_some _ e⟩ (F.push _) (fun p hp => ⟨Heap.get?_push_of_some _ (N p hp).1, (N p hp).2⟩) J h0 ?_ ?_
  · intro hm
    rcases List.mem_cons.mp hm with e | hm
    · exact Nat.ne_of_lt hLs e
    · have e := List.mem_singleton.mp hm
      exact absurd (Nat.lt_of_lt_of_le hlt0 F.above) (by rw [e]; exact Nat.lt_irrefl _)
  · intro b hb
    rw [List.mem_singleton.mp hb]; exact none_of_le F (Nat.le_refl _)
  · intro p hp hm
    have hps : p.1 < s.heap.objs.size := Heap.lt_size (N p hp).1
    rcases List.mem_cons.mp hm with e | hm
    · exact Nat.ne_of_lt hps e
    · have h3 := (N p hp).2.2
      rw [List.mem_singleton.mp hm, hol] at h3
      cases h3
  · intro i v m₁ nx h tk own hi hv hadr hoff hJ F₁ N₁
    exact turn i v m₁ nx h tk own (by simpa using hv) hadr hoff hJ F₁ N₁
  · intro m₁ nx h tk ha hJ F₁ N₁
    exact done m₁ nx h tk ha (by simpa using hJ) F₁ N₁
end
end Mine
end
section
open PySem PySem.W PyProof.Rows PySem.Calls
namespace Mine
theorem allLt_mem {d : Addr} : ∀ {l : List (Addr × Obj)}, AllLt d l → ∀ p ∈ l, p.1 < d
  | [], _, p, hp => nomatch hp
  | q :: r, h, p, hp => by
    rcases List.mem_cons.mp hp with rfl | hp
    · exact h.1
    · exact allLt_mem h.2 p hp
theorem allLt_ne {d a : Nat} {l : List (Addr × Obj)} (h : AllLt d l) (hd : d ≤ a) : ∀ p ∈ l, p.1 ≠ a := fun p hp e => by
  have := allLt_mem h p hp
  rw [e] at this
  exact absurd this (Nat.not_lt.mpr hd)
end Mine
end
section
open PySem PySem.W PyProof.Rows
namespace Mine
/-- the def within _int2digits, read off the row -/
def inDef : Stmt := match PySem.Challenge.pw_ik0122_01.main.body with
  | _ :: _ :: .FunctionDef _ _ (_ :: d :: _) _ _ _ _ _ _ _ :: _ => d
  | _ => .Pass default
end Mine
end
section
open PySem PySem.W PyProof.Rows
namespace Mine
/-- the k lowest figures of x by b bits -/
def digs (b k x : Nat) : List Int := (List.range k).map fun j => ((x / 2 ^ (b * j) % 2 ^ b : Nat) : Int)
def fill (ns : List Int) (l k b x : Nat) : List Int := ns.take l ++ digs b k x ++ ns.drop (l + k)
theorem digs_len (b k x : Nat) : (digs b k x).length = k := by simp [digs]
theorem fill_len {ns : List Int} {l k b x : Nat} (h : l + k ≤ ns.length) : (fill ns l k b x).length = ns.length := by
  simp only [fill, List.length_append, List.length_take, digs_len, List.length_drop]; omega
theorem fill_one {ns : List Int} {l b x : Nat} (h : l + 1 ≤ ns.length) (hx : x < 2 ^ b) : fill ns l 1 b x = ns.set l (x : Int) := by
  have e : digs b 1 x = [(x : Int)] := by
    show [((x / 2 ^ (b * 0) % 2 ^ b : Nat) : Int)] = _
    rw [Nat.mul_zero, Nat.pow_zero, Nat.div_one, Nat.mod_eq_of_lt hx]
  rw [fill, e, List.set_eq_take_append_cons_drop, if_pos (by omega)]
  simp
theorem digs_split {b k k1 x : Nat} (h : k1 ≤ k) : digs b k1 (x % 2 ^ (b * k1)) ++ digs b (k - k1) (x / 2 ^ (b * k1)) = digs b k x := by
  apply List.ext_getElem
  · simp only [List.length_append, digs_len]; omega
  · intro i h1 h2
    simp only [digs_len] at h2
    by_cases hi : i < k1
    · rw [List.getElem_append_left (by rw [digs_len]; exact hi)]
      simp only [digs, List.getElem_map, List.getElem_range]
      congr 1
      have e : 2 ^ (b * k1) = 2 ^ (b * i) * 2 ^ (b * (k1 - i)) := by
        rw [← Nat.pow_add, ← Nat.mul_add]; congr 2; omega
      rw [e, Nat.mod_mul_right_div_self, Nat.mod_mod_of_dvd]
      exact Nat.pow_dvd_pow 2 (Nat.le_mul_of_pos_right b (by omega))
    · rw [List.getElem_append_right (by rw [digs_len]; omega)]
      simp only [digs, List.getElem_map, List.getElem_range, digs_len, List.length_map, List.length_range]
      congr 1
      rw [Nat.div_div_eq_div_mul, ← Nat.pow_add, ← Nat.mul_add]
      have : k1 + (i - k1) = i := by omega
      rw [this]
theorem fill_split {ns : List Int} {l k k1 b x : Nat} (h : k1 ≤ k) (hn : l + k ≤ ns.length) :
    fill (fill ns l k1 b (x % 2 ^ (b * k1))) (l + k1) (k - k1) b (x / 2 ^ (b * k1)) = fill ns l k b x := by
  have hl : (ns.take l ++ digs b k1 (x % 2 ^ (b * k1))).length = l + k1 := by
    simp only [List.length_append, List.length_take, digs_len]; omega
  have e1 : (fill ns l k1 b (x % 2 ^ (b * k1))).take (l + k1) = ns.take l ++ digs b k1 (x % 2 ^ (b * k1)) := by
    unfold fill; exact List.take_left' hl
  have e2 : (fill ns l k1 b (x % 2 ^ (b * k1))).drop (l + k1 + (k - k1)) = ns.drop (l + k) := by
    unfold fill
    rw [← List.drop_drop, List.drop_left' hl, List.drop_drop]
    congr 1; omega
  rw [fill, e1, e2, List.append_assoc (ns.take l), digs_split h]
  rfl
theorem tb_low (x m i : Nat) : (x / 2 ^ m * 2 ^ m).testBit i = (decide (m ≤ i) && x.testBit i) := by
  rw [Nat.testBit_mul_two_pow]
  by_cases h : m ≤ i
  · simp only [h, decide_true, Bool.true_and, Nat.testBit_div_two_pow]
    congr 1; omega
  · simp [h]
theorem or_low (x m : Nat) : x ||| (x / 2 ^ m * 2 ^ m) = x := by
  apply Nat.eq_of_testBit_eq
  intro i
  rw [Nat.testBit_or, tb_low]
  cases x.testBit i <;> simp
theorem and_low (x m : Nat) : x &&& (x / 2 ^ m * 2 ^ m) = x / 2 ^ m * 2 ^ m := by
  apply Nat.eq_of_testBit_eq
  intro i
  rw [Nat.testBit_and, tb_low]
  cases x.testBit i <;> simp
theorem bitNot_nat (n : Nat) : Builtin.bitNot (n : Int) = -((n : Int) + 1) := by
  simp only [Builtin.bitNot]; omega
theorem bitNot_neg (n : Nat) : Builtin.bitNot (-((n : Int) + 1)) = (n : Int) := by
  simp only [Builtin.bitNot]; omega
theorem bitAnd_nat (x y : Nat) : Builtin.bitAnd (x : Int) (y : Int) = ((x &&& y : Nat) : Int) := by
  rw [bitAnd_pp (by omega) (by omega)]; simp
theorem bitOr_nat (x y : Nat) : Builtin.bitOr (x : Int) (y : Int) = ((x ||| y : Nat) : Int) := by
  unfold Builtin.bitOr
  rw [bitNot_nat, bitNot_nat, bitAnd_nn (by omega) (by omega), bitNot_neg, bitNot_neg, bitNot_nat, bitNot_neg]
  simp
theorem xor_low (x m : Nat) : Builtin.bitXor (x : Int) ((x / 2 ^ m * 2 ^ m : Nat) : Int) = ((x % 2 ^ m : Nat) : Int) := by
  unfold Builtin.bitXor
  rw [bitAnd_nat, bitOr_nat, or_low, and_low]
  have := Nat.div_add_mod x (2 ^ m)
  rw [Nat.mul_comm] at this
  omega
theorem lt_low {b k k1 x : Nat} (h : k1 ≤ k) (hx : x < 2 ^ (b * k)) : x / 2 ^ (b * k1) < 2 ^ (b * (k - k1)) := by
  rw [Nat.div_lt_iff_lt_mul (Nat.pow_pos (by decide)), ← Nat.pow_add, ← Nat.mul_add]
  have : k - k1 + k1 = k := by omega
  rw [this]; exact hx
end Mine
end
section
open PySem PySem.W PyProof.Rows
namespace Mine
theorem fill_all {ns : List Int} {K b x : Nat} (h : ns.length = K) : fill ns (0 : Int).toNat K b x = digs b K x := by
  subst h; simp [fill]
theorem rep_flat (K : Nat) : (List.replicate K [(0 : Int)]).flatten = List.replicate K 0 := by
  induction K with
  | zero => rfl
  | succ n ih => rw [List.replicate_succ, List.replicate_succ, List.flatten_cons, ih]; rfl
theorem ints_zero {vs : List Value} {e : Int} {K b x : Nat} (h : IntsAre vs (List.replicate e.toNat [(0 : Int)]).flatten) (he : e = (K : Int)) (hx : (x : Int) = 0) : IntsAre vs (digs b K x) := by
  have e0 : x = 0 := by omega
  subst e0
  rw [he, Int.toNat_natCast, rep_flat] at h
  have e1 : digs b K 0 = List.replicate K 0 := by
    simp [digs, List.map_const']
  rw [e1]; exact h
theorem ints_full {vs : List Value} {e : Int} {K b x : Nat} (h : IntsAre vs (fill (List.replicate e.toNat [(0 : Int)]).flatten (0 : Int).toNat K b x)) (he : e = (K : Int)) : IntsAre vs (digs b K x) := by
  rw [he, Int.toNat_natCast, rep_flat, fill_all (List.length_replicate ..)] at h
  exact h
theorem pick1 {g h : Heap} {L : Addr} {a c D e f i l j : Addr × Obj} {r : List (Addr × Obj)} (N : News g L h (a :: D :: e :: f :: i :: c :: l :: j :: r)) : News g L h (D :: j :: c :: r) :=
  N.perm (by intro p; simp only [List.mem_cons]; grind)
theorem pick2 {g h : Heap} {L : Addr} {a c D e f i l j : Addr × Obj} {r : List (Addr × Obj)} (N : News g L h (a :: c :: D :: l :: e :: f :: i :: j :: r)) : News g L h (D :: j :: c :: r) :=
  N.perm (by intro p; simp only [List.mem_cons]; grind)
theorem pick3 {g h : Heap} {L : Addr} {a D e f i l : Addr × Obj} {r : List (Addr × Obj)} (N : News g L h (a :: D :: e :: f :: i :: l :: r)) : News g L h (D :: r) :=
  N.perm (by intro p; simp only [List.mem_cons]; grind)
theorem pick4 {g h : Heap} {L : Addr} {a D e f i l : Addr × Obj} {r : List (Addr × Obj)} (N : News g L h (a :: D :: l :: e :: f :: i :: r)) : News g L h (D :: r) :=
  N.perm (by intro p; simp only [List.mem_cons]; grind)
theorem news_swap1 {g h : Heap} {L : Addr} {a b c d e f i : Addr × Obj} {r : List (Addr × Obj)} (N : News g L h (a :: b :: c :: d :: e :: f :: i :: r)) : News g L h (a :: c :: e :: f :: i :: b :: d :: r) :=
  N.perm (by intro p; simp only [List.mem_cons]; grind)
theorem news_swap2 {g h : Heap} {L : Addr} {a c d e f i : Addr × Obj} {r : List (Addr × Obj)} (N : News g L h (a :: c :: d :: e :: f :: i :: r)) : News g L h (a :: c :: e :: f :: i :: d :: r) :=
  N.perm (by intro p; simp only [List.mem_cons]; grind)
end Mine
end
section
open PySem PySem.W PyProof.Rows PySem.Calls
namespace Mine
def sigApp : Manifest.Signature := ⟨.oneArg, "list.append", "append", .self, [⟨"object", .posOnly, true⟩]⟩
theorem sig_app : Manifest.signature? "list.append" = some sigApp := by kernel_rfl
theorem kind_app : builtinKind "list.append" = some .method := by decide +kernel
theorem args_app (a b : Value) : Bind.checkArgs "list.append" sigApp ⟨[a, b], []⟩ = pure () := by
  have h := F.args_list_append_2 a b
  unfold argsOk at h
  rw [sig_app] at h
  exact h
theorem sub_app : isSubtype (.type "list") (.type "module") = pure false := by rw [isSubtype_type]; kernel_rfl
theorem check_app {M : Model} {A : Around} {E : Value → Shared → Prop} {s : Shared} {l : Addr} {o : Obj} {v : Value} {Q : Unit → Shared → Prop} (hx : s.heap.get? l = some o) (hc : o.cls = .type "list") {xs : Array Value} {n : Nat} (hd : o.data = .seq xs n) (h : Q () s) :
    wpAny M A (checkBoundCall "list.append" ⟨[.ref l, v], []⟩) Q E s := by
  have hT : s.TypeIs (.ref l) "list" := ⟨o, hx, hc⟩
  unfold checkBoundCall
  simp only [sig_app, kind_app]
  refine KFB.if_not (by decide) ?_
  refine wpAny_bind (wpAny_isInstance hT sub_app ?_)
  refine KFB.if_not (by decide +kernel) ?_
  refine wpAny_bind ?_
  unfold isType loadHead
  refine wpAny_bind (wpAny_loadPart hx ?_)
  rw [hd]
  refine wpAny_pure ?_
  refine KFB.if_not rfl ?_
  refine wpAny_bind (wpAny_typeOf hT ?_)
  dsimp only
  have e : (toString (Bind.lastOf "list") ++ toString "." ++ toString (Bind.lastOf "list.append")) = "list.append" := by decide +kernel
  rw [e]
  exact wpAny_of_eq (args_app _ _) h
end Mine
end
section
open PySem PySem.W PyProof.Rows PySem.Calls
namespace Mine
/-- a table of code objects: places and refs -/
def TabOk : List Value → Prop
  | [] => True
  | .int _ _ :: .int _ _ :: .ref _ :: rest => TabOk rest
  | _ => False
theorem TabOk.triples : ∀ {l : List Value}, TabOk l → TriplesOk l
  | [], _ => trivial
  | .int _ _ :: .int _ _ :: .ref _ :: rest, h => TabOk.triples (l := rest) (by exact h)
theorem TabOk.refs {pos : Pos} {v : Value} : ∀ {l : List Value}, TabOk l → codeAmong pos l = some v → ∃ c, v = .ref c
  | [], _, e => by simp [codeAmong] at e
  | .int a _ :: .int b _ :: .ref c :: rest, h, e => by
    unfold codeAmong at e
    split at e
    · exact ⟨c, (Option.some.inj e).symm⟩
    · exact TabOk.refs (l := rest) (by exact h) e
theorem TabOk.snoc {a b : Int} {c : Addr} : ∀ {l : List Value}, TabOk l → TabOk (l ++ [rawInt a, rawInt b, .ref c])
  | [], _ => trivial
  | .int _ _ :: .int _ _ :: .ref _ :: rest, h => TabOk.snoc (l := rest) (by exact h)
section
variable {prog : Program} {w : World} {A : Around} {E : Value → Shared → Prop} {s : Shared} {h₀ : Heap} {L c P : Addr} {ps : Array Value} {m mg mb : Str → Option Value} {p : Program} {loose : List Str} {mean : ExcName → Option Value} {news : List (Addr × Obj)} {g : Obj → List (Addr × Obj)}
theorem tab_code (C : CodeHd h₀ c P) (F : Fr h₀ L s.heap m) (N : News h₀ L s.heap news) (hm : (P, tabObj ps) ∈ news) (ht : TabOk ps.toList) : s.heap.IsCode c P ps ∧ s.heap.TableAt c P ps := by
  obtain ⟨o, vs, file, tf, flags, tg, inF, text, tt, h1, h2, h3, h4, h5, h6, h7, h8, h9, h10⟩ := C.keeps F.keep
  exact ⟨⟨o, vs, file, tf, flags, tg, inF, text, tt, tabObj ps, h1, h3, h5, h6, h7, h8, h9, (N _ hm).1, rfl, ht.triples, h10⟩, ⟨o, vs, h1, h2, h3, h4⟩, (N _ hm).1⟩
theorem code_any {env : Env} {pos : Pos} {qualname : Str} {scope : Scope} {Q : Value → Shared → Prop} (hc : env.code = .ref c) (hok : s.heap.IsCode c P ps) (htab : s.heap.TableAt c P ps) (ht : TabOk ps.toList)
    (hQ : ∀ cv h' tk ps', Heap.ExtBut P s.heap h' → s.heap.objs.size ≤ h'.objs.size → h'.get? P = some (tabObj ps') → TabOk ps'.toList → Q cv { s with heap := h', toks := tk }) :
    wpAny (model prog w) A (genexprCode env pos qualname scope) Q E s := by
  cases hf : codeAmong pos ps.toList with
  | some v => exact wpAny_genexprCode_hit hc hok hf (hQ v s.heap s.toks ps (Heap.ExtBut.refl _ _) (Nat.le_refl _) htab.2 ht)
  | none => exact wpAny_genexprCodeX hc hok htab hf fun c' h' tk hx h1 h2 _ _ htb _ => hQ _ _ _ _ hx (Nat.le_trans h1 (Nat.le_of_lt h2)) htb.2 (by rw [Array.toList_append]; exact ht.snoc)
/-- the frame and the ledger over a change at P alone -/
theorem keep_but {h' : Heap} {ps' : Array Value} (F : Fr h₀ L s.heap m) (N : News h₀ L s.heap news) (U : UpdF P (tabObj ps) news g) (hx : Heap.ExtBut P s.heap h') (hP : h'.get? P = some (tabObj ps')) :
    Fr h₀ L h' m ∧ News h₀ L h' (g (tabObj ps')) := by
  obtain ⟨own, rest, rfl, hgr, h1, h2⟩ := U.split
  have hm := N (P, tabObj ps) (List.mem_append_right _ (.head _))
  refine ⟨⟨F.ns.extBut hx hm.2.1.symm, fun b o e => hx b o (fun q => by rw [q, hm.2.2] at e; cases e) (F.keep b o e), F.above⟩, fun q hq => ?_⟩
  rw [hgr] at hq
  rcases List.mem_append.mp hq with hq | hq
  · have n := N q (List.mem_append_left _ hq)
    exact ⟨hx _ _ (h1 q hq) n.1, n.2⟩
  · rcases List.mem_cons.mp hq with rfl | hq
    · exact ⟨hP, hm.2⟩
    · have n := N q (List.mem_append_right _ (.tail _ hq))
      exact ⟨hx _ _ (h2 q hq) n.1, n.2⟩
/-- a lambda made, whatever the table holds -/
theorem lam_any {cn : Str} {cs : PySem.Scope} {a : Addr} {ccd : Value} {cl clos : List (Str × Addr)} {name qual : Str} {params : Arguments} {body : PySem.Expr} {scope : PySem.Scope} {pos : Pos} {firstLine : Nat} {Q : Value → Shared → Prop}
    (F : Fr h₀ L s.heap m) (N : News h₀ L s.heap news) (T : Top p loose mean mg mb h₀) (C : CodeHd h₀ c P) (hcd : ccd = .ref c) (U : UpdF P (tabObj ps) news g) (ht : TabOk ps.toList)
    (hcl : closureFor scope (envX cn cs L a ccd cl) = pure clos)
    (h : ∀ f d dt sl h' tk ps', TabOk ps'.toList → Fr h₀ L h' m → News h₀ L h' ((f, ⟨.type "function", d, dt, sl⟩) :: g (tabObj ps')) → (∀ q ∈ news, q.1 < f) → Q (.ref f) { s with heap := h', toks := tk }) :
    wpAny (model prog w) A (makeFunction name qual params (.expr body) scope (envX cn cs L a ccd cl) [] [] [] pos firstLine) Q E s := by
  cases hf : codeAmong pos ps.toList with
  | some v =>
    obtain ⟨c', rfl⟩ := ht.refs hf
    obtain ⟨own, rest, e, hgr, h1, h2⟩ := U.split
    have hg : g (tabObj ps) = news := by rw [hgr, e]
    refine kla_hit F N T C hcd (by rw [e]; simp) ht.triples hf hcl fun f ctv h' tk F' N' l => ?_
    exact h f _ _ _ h' tk ps ht F' (by rw [hg]; exact N') l
  | none =>
    refine kla_nest F N T C hcd U ht.triples hf hcl fun f c' oc vs t ctv h' tk F' N' _ _ l1 l2 => ?_
    exact h f _ _ _ h' tk (ps ++ #[rawInt pos.line, rawInt pos.col, .ref c']) (by rw [Array.toList_append]; exact ht.snoc) F' (N'.perm (by intro q hq; rcases List.mem_cons.mp hq with rfl | hq; exact .head _; exact .tail _ (.tail _ hq))) fun q hq => Nat.lt_trans (l1 q hq) l2
theorem keeps_self (s : Shared) : Keeps s s := ⟨s.heap, s.toks, rfl, fun _ _ e => e⟩
def GenOne (prog : Program) (w : World) (A : Around) (Kb a : Addr) (z : Str) (s : Shared) : Prop :=
  Gen prog w A Kb a (passing (fun _ => true) 1 0).length (fun j y => ∃ i, (passing (fun _ => true) 1 0)[j]? = some i ∧ ∃ u, y = .str z u) s
/-- a generator over a list of one text, made, whatever the table holds -/
theorem gen_any {env : Env} {elt iter : PySem.Expr} {x : Str} {px : Pos} {scope : PySem.Scope} {pos : Pos} {cl : List (Str × Addr)} {Q : Value → Shared → Prop} {D : Addr} {cnt : Nat} {y z : Str} {t : Tok}
    (F : Fr h₀ L s.heap m) (N : News h₀ L s.heap news) (T : Top p loose mean mg mb h₀) (C : CodeHd h₀ c P) (hcode : env.code = .ref c) (hglob : env.globals = mainGlobals) (U : UpdF P (tabObj ps) news g) (hmem : (P, tabObj ps) ∈ news) (ht : TabOk ps.toList)
    (hD : (D, W.listOf #[.str y t] cnt) ∈ news) (hDP : D ≠ P) (G : AllBare s.gens)
    (hh : A.handled = none) (hco : scope.isCoroutine = false) (hclos : closureFor scope env = pure cl) (hcell : ∀ y ∈ scope.names, y.2 ≠ .cell) (h0 : scope.names.lookup (".0" : Str) = some NameKind.local)
    (hx : scope.names.lookup x = some .local) (hkind : scope.kind = .function) (hroom : A.depth < recursionLimit)
    (hit : ∀ {R : Value → Shared → Prop}, R (.ref D) s → wpAny (model prog w) A (eval iter env) R E s)
    (hs : ∀ x, genFold iter env x = pure x)
    (hel : ∀ (C : Addr) (code : Value) (A' : Around) (E' : Value → Shared → Prop) (u : Tok) (s₂ : Shared) (m₂ : Str → Option Value), A'.handled = none → s₂.heap.Ns (genEnv scope cl C code builtinsNs env).locals m₂ → m₂ x = some (.str y u) →
      wpAny (model prog w) A' (eval elt (genEnv scope cl C code builtinsNs env)) (fun v s₃ => (∃ u, v = .str z u) ∧ Keeps s₂ s₃) E' s₂)
    (h : ∀ a s' ps' Kb, TabOk ps'.toList → Fr h₀ L s'.heap m → News h₀ L s'.heap (g (tabObj ps')) → AllBare s'.gens → s'.os = s.os → L ≤ Kb → (∀ q ∈ g (tabObj ps'), q.1 ≤ Kb) →
      GenOne prog w A Kb a z s' → Q (.ref a) s') :
    wpAny (model prog w) A (eval (.GeneratorExp elt [⟨.Name x px, iter, [], 0⟩] scope pos) env) Q E s := by
  have hl : s.heap.IsList D #[.str y t] := ⟨_, (N _ hD).1, rfl, cnt, rfl⟩
  have hlim : s.heap.NoLimit := T.nolimit.keeps F.keep
  obtain ⟨hok, htab⟩ := tab_code C F N hmem ht
  obtain ⟨bm, ob, b1, b2, b3, b4, b5, b6⟩ := T.bmain
  have M₀ : BMod h₀ env.globals mg bm ob := ⟨by rw [hglob]; exact T.g, b1, b2, b3, b4, b5, b6⟩
  have M : BMod s.heap env.globals mg bm ob := M₀.keeps F.keep
  have hlt : D < s.heap.objs.size := by obtain ⟨_, e, _⟩ := hl; exact Heap.lt_size e
  have hPlt : P < s.heap.objs.size := Heap.lt_size htab.2
  have hLlt : L < s.heap.objs.size := F.ns.lt
  have hcP : cStatics ≠ P := fun e => by
    obtain ⟨_, hns, _⟩ := hlim
    obtain ⟨o, es, ep, ho, hd, _⟩ := hns
    rw [e, htab.2] at ho; cases ho; cases hd
  have hclt : cStatics < s.heap.objs.size := let ⟨_, hn, _⟩ := hlim; hn.lt
  refine wpAny_GeneratorExp_walksQ hh hco hclos hcell h0 hx hkind hroom (hit (wpAny_pyIter_list hl ?_)) hs
  refine ⟨hlim.push _, code_any hcode (hok.push _) (htab.push _) ht fun cv h₃ tk₃ ps' hx₃ hsz₃ hP₃ ht₃ => ?_⟩
  have hsz : s.heap.objs.size < h₃.objs.size := Nat.lt_of_lt_of_le (by rw [Heap.size_push]; exact Nat.lt_succ_self _) hsz₃
  have F₁ : Fr h₀ L (s.heap.push { cls := .type "list_iterator", data := .fields #[.ref D, .int 0 0] }) m := F.push _
  have N₁ : News h₀ L (s.heap.push { cls := .type "list_iterator", data := .fields #[.ref D, .int 0 0] }) news := N.pushKeep _
  obtain ⟨F₃, N₃⟩ := keep_but (s := { s with heap := s.heap.push { cls := .type "list_iterator", data := .fields #[.ref D, .int 0 0] } }) F₁ N₁ U hx₃ hP₃
  have M₃ : BMod h₃ env.globals mg bm ob := (M.keeps (fun b o e => Heap.get?_push_of_some _ e)).extBut (htab.push _) hx₃
  have hl₃ : h₃.NoLimit := (hlim.push _).extBut hx₃ hcP
  refine wpAny_builtinsFor M₃.ns M₃.name M₃.ne M₃.obj M₃.cls M₃.dict M₃.data ?_
  have hlist : (s.heap.push { cls := .type "list_iterator", data := .fields #[.ref D, .int 0 0] }).IsList D #[.str y t] := hl.push _
  refine ⟨s.heap.objs.size, [s.heap.objs.size, D], [s.heap.objs.size], 1, _, _, (fun _ => true), (fun _ v => ∃ u, v = .str z u), rfl,
    (fun A' hA => Walks.list hA _ _ (Nat.ne_of_lt hlt) #[.str y t]), ?_, ?_, hl₃, ?_, ?_, ?_⟩
  · refine (Walks.list (prog := prog) (w := w) hh _ _ (Nat.ne_of_lt hlt) #[.str y t]).frame _ _ _ ⟨⟨_, Heap.get?_push_size _ rfl, rfl, rfl⟩, hl.push _⟩ (fun b hb o e => hx₃ b o (fun e' => ?_) e)
    rcases List.mem_cons.mp hb with rfl | hb
    · exact absurd (e' ▸ hPlt) (Nat.lt_irrefl _)
    · rcases List.mem_cons.mp hb with rfl | hb
      · exact hDP e'
      · cases hb
  · intro b hb
    rcases List.mem_cons.mp hb with rfl | hb
    · exact hsz
    · rcases List.mem_cons.mp hb with rfl | hb
      · exact Nat.lt_trans hlt hsz
      · cases hb
  · intro hb
    rcases List.mem_cons.mp hb with e | hb
    · exact absurd (e ▸ hclt) (Nat.lt_irrefl _)
    · cases hb
  · intro href hhref
    refine ⟨fun A' E' i v s₂ m₂ hA hP hn hm _ => wpAny_pure ⟨rfl, keeps_self _⟩, fun A' E' i v s₂ m₂ hA hP _ hn hm _ => ?_⟩
    have hv : v = .str y t := by
      cases i with
      | zero => simpa using hP.symm
      | succ i => simp at hP
    subst hv
    exact hel _ _ A' E' t s₂ m₂ hA hn hm
  · intro a h₅ tk gs hgb hag hsz₅ hk₅ W hat
    have N₅ : News h₀ L h₅ (g (tabObj ps')) := N₃.keepsAll hk₅
    have hlow : ∀ q ∈ g (tabObj ps'), q.1 < s.heap.objs.size := by
      obtain ⟨own, rest, e, hgr, _, _⟩ := U.split
      intro q hq
      rw [hgr] at hq
      rcases List.mem_append.mp hq with hq | hq
      · exact Heap.lt_size (N q (by rw [e]; exact List.mem_append_left _ hq)).1
      · rcases List.mem_cons.mp hq with rfl | hq
        · exact hPlt
        · exact Heap.lt_size (N q (by rw [e]; exact List.mem_append_right _ (.tail _ hq))).1
    refine h a _ ps' (s.heap.objs.size - 1) ht₃ (F₃.keeps hk₅) N₅ (G.push hgb) rfl (Nat.le_sub_one_of_lt hLlt) (fun q hq => Nat.le_sub_one_of_lt (hlow q hq)) ?_
    refine ⟨_, _, _, _, W, hat, (fun i s' st => st.1.typeIs), List.mem_cons_self, ?_, ?_⟩
    · intro b hb
      show b < h₅.objs.size
      rw [hsz₅]
      rcases List.mem_cons.mp hb with rfl | hb
      · exact Nat.lt_succ_self _
      · rcases List.mem_cons.mp hb with rfl | hb
        · exact Nat.lt_succ_of_lt hag
        · exact Nat.lt_succ_of_lt (Nat.lt_trans (List.mem_range.mp hb) hag)
    · intro b hb
      rcases List.mem_cons.mp hb with rfl | hb
      · exact Nat.lt_of_le_of_lt (Nat.sub_le _ _) hsz
      · rcases List.mem_cons.mp hb with rfl | hb
        · exact Nat.sub_lt (Nat.lt_of_le_of_lt (Nat.zero_le _) hlt) Nat.one_pos
        · cases hb
theorem join_one {sep z : Str} {t : Tok} {a Kb : Addr} {Q : Value → Shared → Prop} (F : Fr h₀ L s.heap m) (N : News h₀ L s.heap news) (G : AllBare s.gens) (X : GenOne prog w A Kb a z s) (hL : L ≤ Kb) (hN : ∀ q ∈ news, q.1 ≤ Kb) (hz : JoinOk sep [z] = true)
    (h : ∀ s' t', Fr h₀ L s'.heap m → News h₀ L s'.heap news → AllBare s'.gens → s'.os = s.os → Q (.str (Txt.join sep [z]) t') s') :
    wpAny (model prog w) A (call (.builtin "str.join") [.str sep t, .ref a]) Q E s := by
  refine join_rowsK F G X hL (fun _ => z) (fun j v hv => ?_) hz (fun s' t' F' G' hos hk => h s' t' F' (N.kept hN hk) G' hos)
  obtain ⟨i, _, u, rfl⟩ := hv
  exact ⟨u, rfl⟩
end
end Mine
end
section
open PySem PySem.W PyProof.Rows PySem.Builtin
namespace Mine
section
variable {prog : Program} {w : World} {A : Around} {E : Value → Shared → Prop} {s : Shared}
theorem looks_miss {d : Addr} {f : Int → Option Value} {c : Nat} {Q : Str.Mapped → Shared → Prop} (hd : (d == sysModules) = false) (hh : A.handled = none) (hm : s.heap.MapOf (PySem.intKind prog w) d f) (hv : f (c : Int) = none)
    (h : ∀ h' tk, (∀ b o, s.heap.get? b = some o → h'.get? b = some o) → Q .keep { s with heap := h', toks := tk }) :
    wpAny (model prog w) A (Str.tableLookup (.ref d) c) Q E s := by
  unfold Str.tableLookup
  refine wpAny_bind (wpAny_attempt ?_)
  refine wpAny_bind (wpAny_mkInt ?_)
  refine wpAny_getItem_missing_of (s := { s with toks := s.toks + 1 }) (knd := PySem.intKind prog w) (k := (c : Int)) (intKind_is _ _ _ _) hd hh hm hv fun h' e x => ?_
  obtain ⟨ob, t, ho, hc, hdt⟩ := x.there
  dsimp only
  refine wpAny_bind (wpAny_isInstance (v := .ref e) (T := "KeyError") (U := "LookupError") (b := true) ⟨ob, ho, hc⟩ ?_ ?_)
  · rw [isSubtype_type]; kernel_rfl
  · exact wpAny_bind (wpAny_rule (wpAny_pure (h _ _ x.keeps)))
theorem looks_hit {d : Addr} {f : Int → Option Value} {c : Nat} {x : Str} {t : Tok} {Q : Str.Mapped → Shared → Prop} (hm : s.heap.MapOf (PySem.intKind prog w) d f) (hv : f (c : Int) = some (.str x t))
    (h : ∀ tk, Q (.text x) { s with toks := tk }) :
    wpAny (model prog w) A (Str.tableLookup (.ref d) c) Q E s := by
  unfold Str.tableLookup
  refine wpAny_bind (wpAny_attempt ?_)
  refine wpAny_bind (wpAny_mkInt ?_)
  refine wpAny_getItem_of (s := { s with toks := s.toks + 1 }) (knd := PySem.intKind prog w) (k := (c : Int)) (intKind_is _ _ _ _) hm hv ?_
  dsimp only
  refine wpAny_bind (wpAny_of_eq (a := none) rfl ?_)
  dsimp only
  refine wpAny_bind (wpAny_of_eq (a := some x) rfl ?_)
  exact wpAny_pure (h _)
theorem tr_miss {d : Addr} {f : Int → Option Value} {c : Nat} {t : Tok} {Q : Value → Shared → Prop} (hc : c < 128) (hd : (d == sysModules) = false) (hh : A.handled = none) (hm : s.heap.MapOf (PySem.intKind prog w) d f) (hv : f (c : Int) = none)
    (h : ∀ h' t' tk, (∀ b o, s.heap.get? b = some o → h'.get? b = some o) → Q (.str ⟨#[c]⟩ t') { s with heap := h', toks := tk }) :
    wpAny (model prog w) A (Builtin.«str.translate» ⟨[.str ⟨#[c]⟩ t, .ref d], []⟩) (fun fin s' => ∃ v, fin = .done (.ret v) ∧ Q v s') E s := by
  unfold Builtin.«str.translate»
  refine wpAny_bind (wpAny_of_eq (a := (Value.str ⟨#[c]⟩ t, (⟨#[c]⟩ : Str), Value.ref d)) rfl ?_)
  dsimp only
  rw [if_neg (by exact Bool.false_ne_true)]
  refine wpAny_bind ?_
  have ha : (#[c].all fun x => decide (x < 128)) = true := by simp [hc]
  rw [ha]
  simp only [List.forIn_toArray, List.forIn_cons, List.forIn_nil]
  refine wpAny_bind ?_
  rw [if_neg (by exact Bool.false_ne_true), if_pos trivial]
  dsimp only [List.lookup]
  refine wpAny_bind (looks_miss hd hh hm hv fun h' tk hk => ?_)
  dsimp only
  refine wpAny_bind (wpAny_pure ?_)
  dsimp only
  refine wpAny_pure ?_
  dsimp only
  refine wpAny_pure ?_
  rw [if_neg (by exact Bool.false_ne_true)]
  unfold retStr
  refine wpAny_bind (wpAny_mkStr ?_ ?_)
  · exact wpAny_pure ⟨_, rfl, h _ _ _ hk⟩
  · exact Nat.le_trans (show _ ≤ 1 from Nat.le_refl _) (by rw [sizeLine_eq]; decide)
theorem tr_hit {d : Addr} {f : Int → Option Value} {c : Nat} {t u : Tok} {x : Str} {Q : Value → Shared → Prop} (hc : c < 128) (hd : (d == sysModules) = false) (hm : s.heap.MapOf (PySem.intKind prog w) d f) (hv : f (c : Int) = some (.str x u)) (hx : x.length = 2)
    (h : ∀ t' tk, Q (.str x t') { s with toks := tk }) :
    wpAny (model prog w) A (Builtin.«str.translate» ⟨[.str ⟨#[c]⟩ t, .ref d], []⟩) (fun fin s' => ∃ v, fin = .done (.ret v) ∧ Q v s') E s := by
  unfold Builtin.«str.translate»
  refine wpAny_bind (wpAny_of_eq (a := (Value.str ⟨#[c]⟩ t, (⟨#[c]⟩ : Str), Value.ref d)) rfl ?_)
  dsimp only
  rw [if_neg (by exact Bool.false_ne_true)]
  refine wpAny_bind ?_
  have ha : (#[c].all fun x => decide (x < 128)) = true := by simp [hc]
  rw [ha]
  simp only [List.forIn_toArray, List.forIn_cons, List.forIn_nil]
  refine wpAny_bind ?_
  rw [if_neg (by exact Bool.false_ne_true), if_pos trivial]
  dsimp only [List.lookup]
  refine wpAny_bind (looks_hit hm hv fun tk => ?_)
  dsimp only
  have hx1 : (x.length == 1 && x.cps.all fun x => decide (x < 128)) = false := by rw [hx]; rfl
  rw [hx1, if_neg (by exact Bool.false_ne_true)]
  dsimp only
  refine wpAny_bind (wpAny_pure ?_)
  dsimp only
  refine wpAny_bind (wpAny_rule ?_)
  rw [if_neg (by exact Bool.false_ne_true)]
  refine wpAny_bind (looks_hit (s := { s with toks := tk }) hm hv fun tk2 => ?_)
  dsimp only
  refine wpAny_pure ?_
  dsimp only
  refine wpAny_pure ?_
  rw [hx, if_neg (by exact Bool.false_ne_true)]
  unfold retStr
  have e : (List.foldl (fun acc p => acc ++ p.cps) #[] [x].reverse : Array Nat) = x.cps := by simp
  rw [e]
  refine wpAny_bind (wpAny_mkStr ?_ ?_)
  · exact wpAny_pure ⟨_, rfl, h _ _⟩
  · exact Nat.le_trans (show x.length ≤ 2 from Nat.le_of_eq hx) (by rw [sizeLine_eq]; decide)
end
end Mine
end
section
open PySem PySem.W PyProof.Rows
namespace Mine
theorem keysOf_all {prog : Program} {w : World} {es : Array DictEntry} (h : es.toList.all (fun e => match e.key with | .int k _ => e.hash == hashInt k | _ => false) = true) : KeysOf (PySem.intKind prog w) es := by
  intro e he
  have := List.all_eq_true.mp h e (by simpa using he)
  revert this
  cases hk : e.key with
  | int k t => intro h2; exact ⟨k, intKind_is _ _ _ _, eq_of_beq h2⟩
  | _ => intro h2; simp at h2
theorem map52 {prog : Program} {w : World} {h : Heap} (X : (hd.heap_39 w.params).In h) : ∃ f, h.MapOf (PySem.intKind prog w) 52 f ∧ (∃ u, f 45 = some (.str ⟨#[92, 45]⟩ u)) ∧ f 114 = none ∧ f 119 = none ∧ f 115 = none ∧ f 116 = none := by
  refine ⟨_, ⟨_, _, _, X 52 _ rfl, ⟨rfl, rfl, rfl⟩, rfl, keysOf_all (by kernel_rfl), fun k => rfl⟩, ⟨_, rfl⟩, rfl, rfl, rfl, rfl⟩
theorem gm_translate {M : Model} {A : Around} {E : Value → Shared → Prop} {s : Shared} {x : Str} {t : Tok} {pl : Sem Bool} {Q : Value × List Value → Shared → Prop} (h : Q (.builtin "str.translate", [.str x t]) s) : wpAny M A (getMethod (.str x t) "translate" pl) Q E s := by
  with_reducible exact GM.of (.str x t) (typeIs_str _ _ _) F.slot_str_translate F.type_str_translate GM.noRef h
def escL (c : Nat) : List Nat := if c = 45 then [92, 45] else [c]
theorem tr_call {prog : Program} {w : World} {A : Around} {E : Value → Shared → Prop} {s : Shared} {Q : Value → Shared → Prop} {c : Nat} {t : Tok} (hc : c ∈ [45, 114, 119, 115, 116]) (X : (hd.heap_39 w.params).In s.heap) (hh : A.handled = none)
    (ret : ∀ h' t' tk, (∀ b o, s.heap.get? b = some o → h'.get? b = some o) → Q (.str (S (escL c)) t') { s with heap := h', toks := tk }) :
    wpAny (model prog w) A (call (.builtin "str.translate") [.str (S [c]) t, .ref 52]) Q E s := by
  obtain ⟨f, hm, ⟨u, h45⟩, h1, h2, h3, h4⟩ := map52 (prog := prog) X
  refine wpAny_call_entry F.slot_str_translate (typeIs_str _ _ _) F.entry_str_translate ?_ (F.args_str_translate_2 _ _)
  by_cases e : c = 45
  · subst e
    exact tr_hit (A := A.in1) (by decide) (by decide) hm h45 rfl fun t' tk => ret _ _ _ fun _ _ x => x
  · have hn : f (c : Int) = none := by
      rcases List.mem_cons.mp hc with rfl | hc
      · exact absurd rfl e
      · simp only [List.mem_cons, List.not_mem_nil, or_false] at hc
        rcases hc with rfl | rfl | rfl | rfl <;> assumption
    have hl : c < 128 := by
      simp only [List.mem_cons, List.not_mem_nil, or_false] at hc; omega
    have e1 : S (escL c) = (⟨#[c]⟩ : Str) := by simp only [escL, if_neg e]; rfl
    rw [e1] at ret
    exact tr_miss (A := A.in1) hl (by decide) hh hm hn ret
end Mine
end
section
open PySem PySem.W PyProof.Rows
namespace Mine
def objPlain : Obj := { cls := .type "object" }
def stuffs : List (List Nat) := [[108], [115], [98], [100], [99], [112], [63], [92, 45], [120, 115], [83, 115], [120, 116], [84, 116], [120, 92, 45], [83, 92, 45], [84, 92, 45]]
open PySem.W.X in
theorem mem_keeps {h₀ h : Heap} {news : List (Addr × Obj)} (D : Mem h₀ h [] news) : ∀ b o, h₀.get? b = some o → h.get? b = some o := fun b o e => D.keep b o e (by simp [away])
def ObjRet (s : Shared) (Q : Value → Shared → Prop) : Prop := ∀ a h' tk', (∀ b o, s.heap.get? b = some o → h'.get? b = some o) → h'.get? a = some objPlain → s.heap.get? a = none → Q (.ref a) { s with heap := h', toks := tk' }
def SubRet (s : Shared) (l : List Nat) (Q : Value → Shared → Prop) : Prop := ∀ h' t' tk', (∀ b o, s.heap.get? b = some o → h'.get? b = some o) → Q (.str (S l) t') { s with heap := h', toks := tk' }
theorem ObjRet.out {s : Shared} {Q : Value → Shared → Prop} {h : Heap} {a tk : Nat} (R : ObjRet s Q) (D : PySem.W.X.Mem s.heap h [] [(a, objPlain)]) : Q (.ref a) ⟨h, s.gens, s.drawn, tk, s.os⟩ :=
  R a h tk (mem_keeps D) (D.nw _ (List.mem_cons_self ..)).1 (D.nw _ (List.mem_cons_self ..)).2
theorem SubRet.out {s : Shared} {l : List Nat} {Q : Value → Shared → Prop} {h : Heap} {news : List (Addr × Obj)} {t tk : Nat} (R : SubRet s l Q) (D : PySem.W.X.Mem s.heap h [] news) : Q (.str (S l) t) ⟨h, s.gens, s.drawn, tk, s.os⟩ :=
  R h t tk (mem_keeps D)
section
local macro_rules | `(tactic| x_close) => `(tactic| first
  | with_unfolding_all exact ObjRet.out (by assumption) (by assumption)
  | with_unfolding_all exact SubRet.out (by assumption) (by assumption))
theorem obj_call {w : World} {A : Around} {s : Shared} {Q : Value → Shared → Prop} {E : Value → Shared → Prop}
    (X : (hd.heap_39 w.params).In s.heap)
    (ret : ObjRet s Q) :
    wpAny (model PySem.Challenge.rw_ik0122_01.row.prog w) A (call (.type "object") []) Q E s := by
  revert X; k_fill; intro X
  x_run
theorem sub_call {w : World} {A : Around} {s : Shared} {Q : Value → Shared → Prop} {E : Value → Shared → Prop} {t : Tok} {f : Addr} {d : Option Addr} {vs : Data} {sl : Array (Option Value)} {l : List Nat} (hl : l ∈ stuffs)
    (X : (hd.heap_39 w.params).In s.heap) (hf : s.heap.get? f = some ⟨.type "function", d, vs, sl⟩)
    (ret : SubRet s l Q) :
    wpAny (model PySem.Challenge.rw_ik0122_01.row.prog w) A (call (.builtin "re.Pattern.sub") [.ref 43, .ref f, .str (S l) t]) Q E s := by
  revert X; k_fill; intro X
  simp only [stuffs, List.mem_cons, List.not_mem_nil, or_false] at hl
  rcases hl with rfl | rfl | rfl | rfl | rfl | rfl | rfl | rfl | rfl | rfl | rfl | rfl | rfl | rfl | rfl
  all_goals x_run
end
end Mine
end
section
open PySem PySem.W PyProof.Rows PySem.Calls
namespace Mine
def appObj (l : Addr) : Obj := { cls := .type "builtin_function_or_method", data := .fields #[.builtin "list.append", .ref l] }
def AppRet (s : Shared) (l : Addr) (Q : Value → Shared → Prop) : Prop := ∀ u h' tk', (∀ b o, s.heap.get? b = some o → h'.get? b = some o) → h'.get? u = some (appObj l) → s.heap.get? u = none → Q (.ref u) { s with heap := h', toks := tk' }
theorem AppRet.out {s : Shared} {l : Addr} {Q : Value → Shared → Prop} {h : Heap} {a tk : Nat} {o : Obj} (R : AppRet s l Q) (ho : o = appObj l) (D : PySem.W.X.Mem s.heap h [] [(a, o)]) : Q (.ref a) ⟨h, s.gens, s.drawn, tk, s.os⟩ := by
  subst ho
  exact R a h tk (fun b o e => D.keep b o e (by simp [PySem.W.X.away])) (D.nw _ (List.mem_cons_self ..)).1 (D.nw _ (List.mem_cons_self ..)).2
section
local macro_rules | `(tactic| x_close) => `(tactic| exact AppRet.out (by assumption) (by kernel_rfl) (by assumption))
theorem app_get {w : World} {A : Around} {s : Shared} {Q : Value → Shared → Prop} {E : Value → Shared → Prop} {l : Addr} {t : Tok} {vs : Array Value} {k : Nat}
    (hl : s.heap.get? l = some ⟨.type "list", none, .seq vs k, #[]⟩) (ret : AppRet s l Q) :
    wpAny (model PySem.Challenge.rw_ik0122_01.row.prog w) A (call (.builtin "list.__getattribute__") [.ref l, .str (Str.ofString "append") t]) Q E s := by
  x_run
end
section
variable {prog : Program} {w : World} {M : Model} {A : Around} {E : Value → Shared → Prop} {s : Shared} {h₀ : Heap} {L l u : Addr} {m : Str → Option Value} {news : List (Addr × Obj)} {g : Obj → List (Addr × Obj)}
theorem app_attr {Q : Value → Shared → Prop} {o : Obj}
    (hx : s.heap.get? l = some o) (hc : o.cls = .type "list")
    (h : wpAny (model prog w) A (call (.builtin "list.__getattribute__") [.ref l, .str (Str.ofString "append") s.toks]) (fun v s' => wpAny (model prog w) A (handedOut v) Q E s') (fun e s' => wpAny (model prog w) A (getattributeRaised (.ref l) (.str (Str.ofString "append") s.toks) (.type "list") e none true true) Q E s') { s with toks := s.toks + 1 }) :
    wpAny (model prog w) A (getAttr (.ref l) (Str.ofString "append") true) Q E s := by
  have f2 := F.slot_list_getattribute.lookup
  have f3 := F.slot_list_getattribute.bind (.ref l)
  unfold getAttr
  refine wpAny_bind (wpAny_mkText ?_)
  unfold getAttrBy
  refine wpAny_holding ?_
  refine wpAny_bind (wpAny_typeOf (s := { s with toks := s.toks + 1 }) (T := "list") ⟨o, hx, hc⟩ ?_)
  refine wpAny_bind (wpAny_of_eq f2 ?_)
  dsimp only
  rw [if_neg (by decide)]
  unfold getAttrByItsOwn
  refine wpAny_bind (wpAny_of_eq (a := none) rfl ?_)
  refine wpAny_bind (wpAny_attempt ?_)
  refine wpAny_holding ?_
  unfold callGetattribute
  rw [if_neg (by decide)]
  unfold boundAndCalled
  refine wpAny_bind (wpAny_of_eq f3 ?_)
  exact h
/-- the list's own append, as a value -/
theorem app_made {Q : Value → Shared → Prop} {items : Array Value} {cnt : Nat} (F : Fr h₀ L s.heap m) (N : News h₀ L s.heap news) (hm : (l, W.listOf items cnt) ∈ news)
    (h : ∀ u h' tk', Fr h₀ L h' m → News h₀ L h' ((u, appObj l) :: news) → (∀ q ∈ news, q.1 ≠ u) → Q (.ref u) { s with heap := h', toks := tk' }) :
    wpAny (model PySem.Challenge.rw_ik0122_01.row.prog w) A (getAttr (.ref l) (Str.ofString "append") true) Q E s := by
  refine app_attr (N _ hm).1 rfl (app_get (s := { s with toks := s.toks + 1 }) (N _ hm).1 fun u h' tk' hk hu hn => ?_)
  refine wpAny_of_eq (a := .ref u) rfl ?_
  refine h u h' tk' (F.keeps hk) (fun q hq => ?_) fun q hq e => ?_
  · rcases List.mem_cons.mp hq with rfl | hq
    · refine ⟨hu, fun e => ?_, ?_⟩
      · obtain ⟨oL, _, _, hL, _⟩ := F.ns
        dsimp only at e hn
        rw [e, hL] at hn; cases hn
      · cases hq : h₀.get? u with
        | none => rfl
        | some o' =>
          have := F.keep _ _ hq
          dsimp only at hn
          rw [this] at hn; cases hn
    · exact ⟨hk _ _ (N q hq).1, (N q hq).2⟩
  · have := (N q hq).1
    dsimp only at hn
    rw [e, hn] at this; cases this
def AppAt (u l : Addr) (h : Heap) : Prop := h.get? u = some (appObj l)
theorem callWith_appF {pos : Pos} {first : List Value} {args : List (Bool × Sem Value)} {Q : Value → Shared → Prop} (hplain : args.any (·.1) = false)
    (h : wpAny M A (evalArgs (.ref u) true args []) (fun x s₁ => AppAt u l s₁.heap ∧ wpAny M A (call (.ref u) (first ++ x.pos) x.kw) Q E s₁) E s) : wpAny M A (callWith pos (.ref u) first args []) Q E s := by
  unfold callWith
  refine wpAny_bind (wpAny_holding (wpAny_mono h (fun x s₁ h₁ => wpAny_bind (wpAny_standAt ?_)) fun _ _ x => x))
  obtain ⟨ho, hcall⟩ := h₁
  simp only [hplain, List.any_nil, Bool.or_false]
  refine wpAny_bind (m := keeperOf (.ref u)) ?_
  unfold keeperOf
  refine wpAny_bind (wpAny_load ho ?_)
  simp only [appObj, show (Value.type "builtin_function_or_method" != Value.type "method") = true by decide, show (Value.type "builtin_function_or_method" == Value.type "builtin_function_or_method" || Value.type "builtin_function_or_method" == Value.type "method-wrapper") = true by decide, if_true]
  refine wpAny_pure ?_
  exact wpAny_bind (wpAny_mono hcall (fun r s₂ hr => wpAny_bind (wpAny_holding (wpAny_point (wpAny_pure hr)))) fun _ _ x => x)
theorem callWith_app {pos : Pos} {first : List Value} {env : Env} {e : PySem.Expr} {rest : List PySem.Expr} {Q : Value → Shared → Prop} (_N : News h₀ L s.heap news) (_hm : (u, appObj l) ∈ news)
    (h : wpAny M A (spliced (backTo pos (starEach (e :: rest) env))) (fun vs s₁ => AppAt u l s₁.heap ∧ wpAny M A (call (.ref u) (first ++ vs)) Q E s₁) E s)
    (he : starEach (e :: rest) env = (false, eval e env) :: starEach rest env := by rfl) (hplain : (backTo pos (starEach rest env)).any (·.1) = false := by rfl) :
    wpAny M A (callWith pos (.ref u) first (backTo pos (starEach (e :: rest) env)) []) Q E s := by
  rw [he] at h ⊢
  refine callWith_appF (l := l) (by show (false || (backTo pos (starEach rest env)).any (·.1)) = false; rw [hplain]; rfl) ?_
  exact evalArgs_plain h
theorem quiet_app {as : Args} : (Code.builtin "list.append" as).quiet = true := Code.quiet_builtin _ (by decide +kernel)
theorem app_call {Q : Value → Shared → Prop} {items : Array Value} {cnt : Nat} {v : Value} (F' : Fr h₀ L s.heap m) (N : News h₀ L s.heap news) (U : UpdF l (W.listOf items cnt) news g) (hm : (l, W.listOf items cnt) ∈ news) (hu : (u, appObj l) ∈ news) (hsz : items.size ≤ sizeLine)
    (h : ∀ h' cnt', Fr h₀ L h' m → News h₀ L h' (g (W.listOf (items.push v) cnt')) → Q .none { s with heap := h' }) :
    wpAny (model prog w) A (call (.ref u) [v]) Q E s := by
  refine wpAny_call (codeAny_of_tree ?_)
  show wpAny _ A.in1 (callAny (.ref u) ⟨[v], []⟩) _ _ s
  simp only [callAny]
  refine wpAny_bind (wpAny_load (N _ hu).1 ?_)
  simp only [appObj]
  refine KFB.if_so (by decide) ?_
  refine KFB.if_so (by decide) ?_
  refine wpAny_bind (check_app (N _ hm).1 rfl rfl ?_)
  refine wpAny_bind (wpAny_pure (wpAny_pure ?_))
  refine ⟨quiet_app, codeAny_builtin F.entry_list_append ?_⟩
  show wpAny _ _ (updateSeq l (·.push v) >>= fun _ => ret .none) _ _ s
  refine wpAny_bind (wpAny_updateSeq (N _ hm).1 rfl (wpAny_pure ?_) (hz := hsz) (_hz' := by rw [Array.size_push]; omega))
  show Q .none { s with heap := s.heap.update l (Obj.mapSeq fun x => x.push v) }
  have hn := (N _ hm).2
  have hs : Heap.SameBut l s.heap (s.heap.update l (Obj.mapSeq fun x => x.push v)) := Heap.SameBut.update ..
  obtain ⟨cnt', e⟩ : ∃ cnt', Obj.mapSeq (fun x => x.push v) (W.listOf items cnt) = W.listOf (items.push v) cnt' := ⟨_, rfl⟩
  have hget : (s.heap.update l (Obj.mapSeq fun x => x.push v)).get? l = some (W.listOf (items.push v) cnt') := by
    rw [← e]; exact Heap.get?_update_self _ (N _ hm).1 (Obj.isFreed_of_seq (by rw [e]))
  refine h _ cnt' (F'.change hs hn.1 hn.2) fun q hq => ?_
  obtain ⟨pre, post, e1, e2, h1, h2⟩ := U.split
  rw [e2] at hq
  have out : ∀ q ∈ news, q.1 ≠ l → (s.heap.update l (Obj.mapSeq fun x => x.push v)).get? q.1 = some q.2 ∧ q.1 ≠ L ∧ h₀.get? q.1 = none := fun q hq hne => ⟨(hs.2 _ hne).trans (N q hq).1, (N q hq).2⟩
  rcases List.mem_append.mp hq with hq | hq
  · exact out q (by rw [e1]; exact List.mem_append_left _ hq) (h1 q hq)
  · rcases List.mem_cons.mp hq with rfl | hq
    · exact ⟨hget, hn⟩
    · exact out q (by rw [e1]; exact List.mem_append_right _ (.tail _ hq)) (h2 q hq)
end
end Mine
end
section
open PySem PySem.W PyProof.Rows PySem.Calls
namespace Mine
def TurnEnd (J : Nat → Shared → Prop) (n : Nat) (f : Flow) (s : Shared) : Prop := f = .next ∧ J n s
section
variable {prog : Program} {w : World} {A : Around} {E : Value → Shared → Prop} {env : Env} {test : PySem.Expr} {body orelse : List Stmt} {Q : Flow → Shared → Prop}
theorem loop_ind (J : Nat → Shared → Prop) (hE : PassesOwn (model prog w) A env E)
    (turn : ∀ n s, J (n + 1) s → wpAny (model prog w) A (isTrue test env (eval test env)) (fun b s₂ => WhlIf b (wpAny (model prog w) A (execs body env) (TurnEnd J n) E s₂) False) E s)
    (last : ∀ s, J 0 s → wpAny (model prog w) A (isTrue test env (eval test env)) (fun b s₂ => WhlIf b False (wpAny (model prog w) A (execs orelse env) Q E s₂)) E s) :
    ∀ n s k, J n s → WhlRest prog w A E env test body orelse Q k s := by
  intro n
  induction n with
  | zero =>
    intro s k hJ
    refine whl_turn (k := 0) hE (wpAny_mono (last s hJ) (fun b s₂ h => ?_) fun _ _ e => e)
    cases b with
    | false => exact h
    | true => exact absurd h (by unfold WhlIf; simp)
  | succ n ih =>
    intro s k hJ
    refine whl_turn (k := 0) hE (wpAny_mono (turn n s hJ) (fun b s₂ h => ?_) fun _ _ e => e)
    cases b with
    | false => exact absurd h (by unfold WhlIf; simp)
    | true =>
      refine WhlIf.yes rfl (wpAny_mono (show wpAny _ _ _ _ _ _ from h) (fun f s₃ h₃ => ?_) fun _ _ e => e)
      obtain ⟨rfl, hJ'⟩ := h₃
      exact ih s₃ 0 hJ'
end
section
variable {prog : Program} {w : World} {A : Around} {E : Value → Shared → Prop} {s : Shared} {value slice : PySem.Expr} {t u : Tok} {i : Int}
theorem item_at {Q : Value → Shared → Prop} {l : List Nat} {k c : Nat} (hi : i = (k : Int)) (hc : l[k]? = some c) (hn : l.length ≤ 1000) (h : Q (.str (S [c]) s.toks) { s with toks := s.toks + 1 })
    (hs : subscripted slice false (.str (S l) t) (.int i u) = operate [.str (S l) t, .int i u] (getItem (.str (S l) t) (.int i u)) := by with_unfolding_all rfl)
    (ht : ∀ r, letTemporaryGo value (.str (S l) t) r = pure () := by intro _; with_unfolding_all rfl) :
    wpAny (model prog w) A (subscriptTail value slice (.str (S l) t) (.int i u)) Q E s := by
  subst hi
  have hk : k < l.length := (List.getElem?_eq_some_iff.mp hc).1
  refine KXi.item (n := l.length) (by rw [S_len]) (by omega) (by omega) (by omega) (fun _ => ?_) hs ht
  rw [item_S hc]; exact h
theorem cmp_eq {Q : Value → Shared → Prop} {x y : Str} {b : Bool} (hb : (x == y) = b) (h : Q (.bool b) s) : wpAny (model prog w) A (compareOp .Eq (.str x t) (.str y u)) Q E s := by
  subst hb; exact eq_str h
theorem cmp_ne {Q : Value → Shared → Prop} {x y : Str} {b : Bool} (hb : (x == y) = b) (h : Q (.bool (!b)) s) : wpAny (model prog w) A (compareOp .NotEq (.str x t) (.str y u)) Q E s := by
  subst hb; exact ne_str h
end
theorem len_S {prog : Program} {w : World} {A : Around} {E : Value → Shared → Prop} {s : Shared} {t : Tok} {Q : Value → Shared → Prop} {l : List Nat} (hn : l.length ≤ 1000) (h : Q (.int (l.length : Int) (s.toks + 1)) { s with toks := s.toks + 1 + 1 }) : wpAny (model prog w) A (call (.builtin "len") [.str (S l) t]) Q E s := by
  refine PyProof.Rows.len_str (by rw [S_len]; omega) ?_
  rw [S_len]; exact h
/-- the signs of the law's patterns -/
def singles : List Nat := [45, 114, 119, 115, 116]
def heads : List Nat := [108, 115, 98, 100, 99, 112, 63]
def pairsT : List (Nat × Nat) := [(120, 115), (83, 115), (120, 116), (84, 116)]
def firsts : List Nat := [120, 83, 84]
inductive Tk : List Nat → List Nat → Prop
  | q : Tk [63] [46]
  | one (c : Nat) (h : c ∈ singles) : Tk [c] (escL c)
  | head (a : Nat) (h : a ∈ heads) : Tk [91, a, 93] [91, a, 93]
  | dash : Tk [91, 45, 93] [91, 92, 45, 93]
  | two (p : Nat × Nat) (h : p ∈ pairsT) : Tk [91, p.1, p.2, 93] [91, p.1, p.2, 93]
  | dot (a : Nat) (h : a ∈ firsts) : Tk [91, a, 45, 93] [91, a, 92, 45, 93]
inductive Tks : List (List Nat) → List (List Nat) → Prop
  | nil : Tks [] []
  | cons {a b : List Nat} {as bs : List (List Nat)} (h : Tk a b) (r : Tks as bs) : Tks (a :: as) (b :: bs)
/-- the state ahead of each turn of _translate's while -/
def JT (g : Heap) (L star u l : Nat) (rest : List (Addr × Obj)) (P : List Nat) (outs : List (List Nat)) (tp tq : Tok) (os : OsState) (n : Nat) (s : Shared) : Prop :=
  ∃ (done : List Nat) (toks os1 os2 : List (List Nat)) (m : Str → Option Value) (vs : List Value) (cnt : Nat) (ps : Array Value) (x : Int) (ti tn : Tok),
    toks.length = n ∧ P = done ++ toks.flatten ∧ Tks toks os2 ∧ outs = os1 ++ os2 ∧ StrsAre vs (os1.map S) ∧ vs.length + n ≤ 100 ∧ TabOk ps.toList ∧ AllBare s.gens ∧ s.os = os ∧ x = (done.length : Int) ∧
    News g L s.heap ((u, appObj l) :: (l, W.listOf vs.toArray cnt) :: (star, objPlain) :: (64, tabObj ps) :: rest) ∧
    Fr g L s.heap (fun y => if y = Str.ofString "pat" then some (.str (S P) tp) else if y = Str.ofString "STAR" then some (.ref star) else if y = Str.ofString "QUESTION_MARK" then some (.str (Str.ofString ".") tq) else
      if y = Str.ofString "res" then some (.ref l) else if y = Str.ofString "add" then some (.ref u) else if y = Str.ofString "i" then some (.int x ti) else if y = Str.ofString "n" then some (.int (P.length : Int) tn) else m y)
theorem fr7 {g h : Heap} {L : Addr} {m : Str → Option Value} {n1 n2 n3 n4 n5 n6 n7 : Str} {v1 v2 v3 v4 v5 v6 v7 : Value} (F : Fr g L h m) (h1 : m n1 = some v1) (h2 : m n2 = some v2) (h3 : m n3 = some v3) (h4 : m n4 = some v4) (h5 : m n5 = some v5) (h6 : m n6 = some v6) (h7 : m n7 = some v7) :
    Fr g L h (fun y => if y = n1 then some v1 else if y = n2 then some v2 else if y = n3 then some v3 else if y = n4 then some v4 else if y = n5 then some v5 else if y = n6 then some v6 else if y = n7 then some v7 else m y) := by
  have e : (fun y => if y = n1 then some v1 else if y = n2 then some v2 else if y = n3 then some v3 else if y = n4 then some v4 else if y = n5 then some v5 else if y = n6 then some v6 else if y = n7 then some v7 else m y) = m := by
    funext y
    repeat' split
    all_goals first | (subst_vars; simp_all) | rfl
  rw [e]; exact F
theorem strs_push {vs : List Value} {xs : List Str} {x : Str} {t : Tok} (h : StrsAre vs xs) : StrsAre (vs ++ [.str x t]) (xs ++ [x]) := by
  induction h with
  | nil => exact .cons _ _ .nil
  | cons a b _ ih => exact .cons _ _ ih
theorem JT_end {g : Heap} {L star u l : Nat} {rest : List (Addr × Obj)} {P : List Nat} {outs : List (List Nat)} {tp tq : Tok} {os : OsState} {n : Nat} {s : Shared}
    {done tok o : List Nat} {toks os1 os2 : List (List Nat)} {m : Str → Option Value} {vs : List Value} {cnt : Nat} {ps : Array Value} {x : Int} {ti tn to : Tok}
    (h1 : toks.length = n) (h2 : P = done ++ (tok :: toks).flatten) (h3 : Tks toks os2) (h4 : outs = os1 ++ o :: os2) (h5 : StrsAre vs (os1.map S)) (h6 : vs.length + (n + 1) ≤ 100) (h7 : TabOk ps.toList) (h8 : AllBare s.gens) (h9 : s.os = os) (h10 : x = ((done.length + tok.length : Nat) : Int))
    (N : News g L s.heap ((u, appObj l) :: (l, W.listOf (vs.toArray.push (.str (S o) to)) cnt) :: (star, objPlain) :: (64, tabObj ps) :: rest))
    (F : Fr g L s.heap m) (a1 : m (Str.ofString "pat") = some (.str (S P) tp)) (a2 : m (Str.ofString "STAR") = some (.ref star)) (a3 : m (Str.ofString "QUESTION_MARK") = some (.str (Str.ofString ".") tq)) (a4 : m (Str.ofString "res") = some (.ref l)) (a5 : m (Str.ofString "add") = some (.ref u)) (a6 : m (Str.ofString "i") = some (.int x ti)) (a7 : m (Str.ofString "n") = some (.int (P.length : Int) tn)) :
    TurnEnd (JT g L star u l rest P outs tp tq os) n .next s := by
  refine ⟨rfl, done ++ tok, toks, os1 ++ [o], os2, m, vs ++ [.str (S o) to], cnt, ps, x, ti, tn, h1, ?_, h3, ?_, ?_, ?_, h7, h8, h9, ?_, ?_, fr7 F a1 a2 a3 a4 a5 a6 a7⟩
  · rw [h2, List.flatten_cons, List.append_assoc]
  · rw [h4]; simp
  · rw [List.map_append]; exact strs_push h5
  · simp only [List.length_append, List.length_cons, List.length_nil]; omega
  · rw [h10, List.length_append]
  · rw [List.push_toArray] at N; exact N
theorem while_go {prog : Program} {w : World} {A : Around} {E : Value → Shared → Prop} {env : Env} {test : PySem.Expr} {body orelse : List Stmt} {pos : Pos} {Q : Flow → Shared → Prop} {s : Shared}
    {g : Heap} {L star u l : Nat} {rest : List (Addr × Obj)} {P : List Nat} {outs toks : List (List Nat)} {tp tq ti tn : Tok} {m : Str → Option Value} {cnt : Nat} {ps : Array Value}
    (F : Fr g L s.heap m) (N : News g L s.heap ((u, appObj l) :: (l, W.listOf #[] cnt) :: (star, objPlain) :: (64, tabObj ps) :: rest)) (ht : TabOk ps.toList) (G : AllBare s.gens)
    (hP : P = toks.flatten) (hT : Tks toks outs) (hl : toks.length ≤ 20)
    (a1 : m (Str.ofString "pat") = some (.str (S P) tp)) (a2 : m (Str.ofString "STAR") = some (.ref star)) (a3 : m (Str.ofString "QUESTION_MARK") = some (.str (Str.ofString ".") tq)) (a4 : m (Str.ofString "res") = some (.ref l)) (a5 : m (Str.ofString "add") = some (.ref u)) (a6 : m (Str.ofString "i") = some (.int 0 ti)) (a7 : m (Str.ofString "n") = some (.int (P.length : Int) tn))
    (hE : PassesOwn (model prog w) A env E)
    (turn : ∀ n s', JT g L star u l rest P outs tp tq s.os (n + 1) s' → wpAny (model prog w) A (isTrue test env (eval test env)) (fun b s₂ => WhlIf b (wpAny (model prog w) A (execs body env) (TurnEnd (JT g L star u l rest P outs tp tq s.os) n) E s₂) False) E s')
    (last : ∀ s', JT g L star u l rest P outs tp tq s.os 0 s' → wpAny (model prog w) A (isTrue test env (eval test env)) (fun b s₂ => WhlIf b False (wpAny (model prog w) A (execs orelse env) Q E s₂)) E s') :
    wpAny (model prog w) A (exec (.While test body orelse pos) env) Q E s := by
  refine whl_start 0 (loop_ind (JT g L star u l rest P outs tp tq s.os) hE turn last toks.length s 0 ?_)
  refine ⟨[], toks, [], outs, m, [], cnt, ps, 0, ti, tn, rfl, ?_, hT, rfl, .nil, ?_, ht, G, rfl, rfl, N, fr7 F a1 a2 a3 a4 a5 a6 a7⟩
  · simpa using hP
  · simp; omega
end Mine
end
section
open PySem PySem.W PyProof.Rows PySem.Calls
namespace Mine
def JJ (g : Heap) (L star u l inp ic : Nat) (rest : List (Addr × Obj)) (vsI : List Value) (s₀ : Shared) (n : Nat) (s : Shared) : Prop :=
  ∃ (i : Nat) (mm : Str → Option Value) (cnt : Nat) (x : Int) (ti tn : Tok) (h : Heap) (tk : Nat), s = { s₀ with heap := h, toks := tk } ∧ i + n = vsI.length ∧ x = (i : Int) ∧
    News g L h ((u, appObj l) :: (l, W.listOf (vsI.take i).toArray cnt) :: (inp, W.listOf vsI.toArray ic) :: rest) ∧
    Fr g L h (fun y => if y = Str.ofString "inp" then some (.ref inp) else if y = Str.ofString "STAR" then some (.ref star) else if y = Str.ofString "res" then some (.ref l) else if y = Str.ofString "add" then some (.ref u) else if y = Str.ofString "i" then some (.int x ti) else if y = Str.ofString "n" then some (.int (vsI.length : Int) tn) else mm y)
theorem fr6 {g h : Heap} {L : Addr} {m : Str → Option Value} {n1 n2 n3 n4 n5 n6 : Str} {v1 v2 v3 v4 v5 v6 : Value} (F : Fr g L h m) (h1 : m n1 = some v1) (h2 : m n2 = some v2) (h3 : m n3 = some v3) (h4 : m n4 = some v4) (h5 : m n5 = some v5) (h6 : m n6 = some v6) :
    Fr g L h (fun y => if y = n1 then some v1 else if y = n2 then some v2 else if y = n3 then some v3 else if y = n4 then some v4 else if y = n5 then some v5 else if y = n6 then some v6 else m y) := by
  have e : (fun y => if y = n1 then some v1 else if y = n2 then some v2 else if y = n3 then some v3 else if y = n4 then some v4 else if y = n5 then some v5 else if y = n6 then some v6 else m y) = m := by
    funext y
    repeat' split
    all_goals first | (subst_vars; simp_all) | rfl
  rw [e]; exact F
theorem take_push {vs : List Value} {i : Nat} {v : Value} (h : vs[i]? = some v) : (vs.take i).toArray.push v = (vs.take (i + 1)).toArray := by
  rw [List.push_toArray, List.take_add_one, h]; rfl
theorem JJ_end {g : Heap} {L star u l inp ic : Nat} {rest : List (Addr × Obj)} {vsI : List Value} {s₀ : Shared} {n : Nat} {h : Heap} {tk i cnt : Nat} {m : Str → Option Value} {x : Int} {ti tn : Tok} {v : Value}
    (h1 : i + (n + 1) = vsI.length) (hv : vsI[i]? = some v) (hx : x = ((i + 1 : Nat) : Int))
    (N : News g L h ((u, appObj l) :: (l, W.listOf ((vsI.take i).toArray.push v) cnt) :: (inp, W.listOf vsI.toArray ic) :: rest))
    (F : Fr g L h m) (a1 : m (Str.ofString "inp") = some (.ref inp)) (a2 : m (Str.ofString "STAR") = some (.ref star)) (a3 : m (Str.ofString "res") = some (.ref l)) (a4 : m (Str.ofString "add") = some (.ref u)) (a5 : m (Str.ofString "i") = some (.int x ti)) (a6 : m (Str.ofString "n") = some (.int (vsI.length : Int) tn)) :
    TurnEnd (JJ g L star u l inp ic rest vsI s₀) n .next { s₀ with heap := h, toks := tk } := by
  rw [take_push hv] at N
  exact ⟨rfl, i + 1, m, cnt, x, ti, tn, h, tk, rfl, by omega, hx, N, fr6 F a1 a2 a3 a4 a5 a6⟩
theorem JJ_go {prog : Program} {w : World} {A : Around} {E : Value → Shared → Prop} {env : Env} {test : PySem.Expr} {body orelse : List Stmt} {pos : Pos} {Q : Flow → Shared → Prop} {s : Shared}
    {g : Heap} {L star u l inp ic : Nat} {rest : List (Addr × Obj)} {vsI : List Value} {ti tn : Tok} {m : Str → Option Value} {cnt : Nat}
    (F : Fr g L s.heap m) (N : News g L s.heap ((u, appObj l) :: (l, W.listOf #[] cnt) :: (inp, W.listOf vsI.toArray ic) :: rest))
    (a1 : m (Str.ofString "inp") = some (.ref inp)) (a2 : m (Str.ofString "STAR") = some (.ref star)) (a3 : m (Str.ofString "res") = some (.ref l)) (a4 : m (Str.ofString "add") = some (.ref u)) (a5 : m (Str.ofString "i") = some (.int 0 ti)) (a6 : m (Str.ofString "n") = some (.int (vsI.length : Int) tn))
    (hE : PassesOwn (model prog w) A env E)
    (turn : ∀ n s', JJ g L star u l inp ic rest vsI s (n + 1) s' → wpAny (model prog w) A (isTrue test env (eval test env)) (fun b s₂ => WhlIf b (wpAny (model prog w) A (execs body env) (TurnEnd (JJ g L star u l inp ic rest vsI s) n) E s₂) False) E s')
    (last : ∀ s', JJ g L star u l inp ic rest vsI s 0 s' → wpAny (model prog w) A (isTrue test env (eval test env)) (fun b s₂ => WhlIf b False (wpAny (model prog w) A (execs orelse env) Q E s₂)) E s') :
    wpAny (model prog w) A (exec (.While test body orelse pos) env) Q E s := by
  refine whl_start 0 (loop_ind (JJ g L star u l inp ic rest vsI s) hE turn last vsI.length s 0 ?_)
  exact ⟨0, m, cnt, 0, ti, tn, s.heap, s.toks, rfl, by omega, rfl, N, fr6 F a1 a2 a3 a4 a5 a6⟩
theorem strs_get {vs : List Value} {xs : List (List Nat)} (h : StrsAre vs (xs.map S)) {i : Nat} (hi : i < vs.length) : ∃ l t, vs[i]? = some (.str (S l) t) := by
  induction xs generalizing vs i with
  | nil => cases h; simp at hi
  | cons a r ih =>
    cases h with
    | cons _ t q =>
      cases i with
      | zero => exact ⟨a, t, rfl⟩
      | succ i => exact ih q (by simpa using hi)
theorem strs_len {vs : List Value} {ys : List Str} (h : StrsAre vs ys) : vs.length = ys.length := by
  induction h with
  | nil => rfl
  | cons _ _ _ ih => simp [ih]
theorem join_flat : ∀ xs : List (List Nat), Txt.join (S []) (xs.map S) = S xs.flatten := by
  intro xs
  show Builtin.Str.glued _ _ = _
  rw [StrLaws.glued_eq_join]
  induction xs with
  | nil => rfl
  | cons a r ih =>
    show Str.join ⟨#[]⟩ (S a :: r.map S) = _
    rw [PyProof.Rows.join_nil_cons]
    show S a ++ Str.join (S []) (r.map S) = _
    rw [ih, S_app]; rfl
theorem join_S0 {prog : Program} {w : World} {A : Around} {E : Value → Shared → Prop} {s : Shared} {D : Addr} {vs : List Value} {xs : List (List Nat)} {sep : Str} {t : Tok} {Q : Value → Shared → Prop} (hsep : sep = S []) (hl : s.heap.IsList D vs.toArray) (hi : StrsAre vs (xs.map S)) (hok : xs.flatten.length ≤ 1000)
    (h : ∀ t' k, Q (.str (S xs.flatten) t') { s with toks := k }) : wpAny (model prog w) A (call (.builtin "str.join") [.str sep t, .ref D]) Q E s := by
  subst hsep
  refine join_list hl (by simpa using hi) ?_ (fun t' k => by rw [join_flat]; exact h t' k)
  have e : ((xs.map S).map (·.length)).sum = xs.flatten.length := by
    rw [List.length_flatten, List.map_map]
    have e2 : (fun (l : List Nat) => l.length) = (Str.length ∘ S) := by funext a; exact (S_len a).symm
    show _ = (xs.map (fun (l : List Nat) => l.length)).sum
    rw [e2]
  rw [e, S_len, List.length_nil, Nat.mul_zero]; omega
theorem len_L {prog : Program} {w : World} {A : Around} {E : Value → Shared → Prop} {s : Shared} {l : Addr} {vs : List Value} {Q : Value → Shared → Prop} (hl : s.heap.IsList l vs.toArray) (hn : vs.length ≤ 1000)
    (h : Q (.int (vs.length : Int) (s.toks + 1)) { s with toks := s.toks + 1 + 1 }) : wpAny (model prog w) A (call (.builtin "len") [.ref l]) Q E s := by
  refine PyProof.Rows.len_list hl (by rw [List.size_toArray]; omega) ?_
  rw [List.size_toArray]; exact h
theorem item_L {prog : Program} {w : World} {A : Around} {E : Value → Shared → Prop} {s : Shared} {value slice : PySem.Expr} {l : Addr} {vs : List Value} {k : Int} {i : Nat} {u : Tok} {x : Value} {Q : Value → Shared → Prop} (hl : s.heap.IsList l vs.toArray)
    (hk : k = (i : Int)) (hi : i < 2 ^ 62) (hx : vs[i]? = some x) (h : Q x s)
    (hs : subscripted slice false (.ref l) (.int k u) = operate [.ref l, .int k u] (getItem (.ref l) (.int k u)) := by with_unfolding_all rfl) (hg : ∀ r, letTemporaryGo value (.ref l) r = pure () := by intro _; with_unfolding_all rfl) :
    wpAny (model prog w) A (subscriptTail value slice (.ref l) (.int k u)) Q E s := by
  subst hk
  exact PyProof.Rows.item_list hl (by omega) (by omega) (by simpa using hx) h hs hg
end Mine
end
section
open PySem PySem.W PyProof.Rows PySem.Calls
namespace Mine
theorem hd1 : ∀ a ∈ heads, (S [a] == Str.ofString "!") = false ∧ (S [a] == Str.ofString "]") = false ∧ decide (45 ∈ [a]) = false ∧ [a] ∈ stuffs := by decide +kernel
theorem hd2 : ∀ a ∈ heads, Txt.replace (S [a]) (Str.ofString "\\") (Str.ofString "\\\\") = S [a] := by decide +kernel
theorem hd3 : ∀ a ∈ heads, ((Builtin.Str.occurrences (S [a]) (Str.ofString "\\") 0 (S [a]).length ((S [a]).length + 1)).isEmpty || ((Str.ofString "\\").length == 0 && (Str.ofString "\\\\").length == 0)) = true := by decide +kernel
theorem pr1 : ∀ p ∈ pairsT, (S [p.1] == Str.ofString "!") = false ∧ (S [p.1] == Str.ofString "]") = false ∧ (S [p.2] == Str.ofString "]") = false ∧ decide (45 ∈ [p.1, p.2]) = false ∧ [p.1, p.2] ∈ stuffs ∧
    ((Builtin.Str.occurrences (S [p.1, p.2]) (Str.ofString "\\") 0 (S [p.1, p.2]).length ((S [p.1, p.2]).length + 1)).isEmpty || ((Str.ofString "\\").length == 0 && (Str.ofString "\\\\").length == 0)) = true ∧
    ([Str.ofString "^", Str.ofString "["].any fun x => x == S [p.1]) = false ∧ (S [p.1, p.2] == Str.ofString "!") = false := by decide +kernel
theorem dt1 : ∀ a ∈ firsts, (S [a] == Str.ofString "!") = false ∧ (S [a] == Str.ofString "]") = false ∧ decide (45 ∈ [a, 45]) = true ∧ [a, 92, 45] ∈ stuffs ∧
    ([Str.ofString "^", Str.ofString "["].any fun x => x == S [a]) = false ∧ (S [a, 92, 45] == Str.ofString "!") = false ∧ (S [45] == Str.ofString "]") = false ∧
    Txt.replace (S [a, 45]) (Str.ofString "-") (Str.ofString "\\-") = S [a, 92, 45] ∧
    ((Builtin.Str.occurrences (S [a, 45]) (Str.ofString "\\") 0 (S [a, 45]).length ((S [a, 45]).length + 1)).isEmpty || ((Str.ofString "\\").length == 0 && (Str.ofString "\\\\").length == 0)) = true := by decide +kernel
theorem truthy_S {prog : Program} {w : World} {A : Around} {E : Value → Shared → Prop} {s : Shared} {t : Tok} {l : List Nat} {b : Bool} {Q : Bool → Shared → Prop} (hn : l.length ≤ 1000) (hb : ((l.length : Int) != 0) = b) (h : Q b { s with toks := s.toks + 1 + 1 }) : wpAny (model prog w) A (truthy (.str (S l) t)) Q E s := by
  subst hb
  refine P.truthy_str (by rw [S_len]; omega) ?_
  rw [S_len]; exact h
theorem dt2 : ∀ a ∈ firsts, JoinOk (Str.ofString "-") [S [a, 92, 45]] = true := by decide +kernel
theorem iadd_S {prog : Program} {w : World} {A : Around} {E : Value → Shared → Prop} {s : Shared} {t u : Tok} {l r : List Nat} {x : Str} {Q : Value → Shared → Prop} (hr : S l ++ x = S r) (hn : r.length ≤ 1000) (h : ∀ t k, Q (.str (S r) t) { s with toks := k }) : wpAny (model prog w) A (inplaceOp .Add (.str (S l) t) (.str x u)) Q E s := by
  refine PyProof.Rows.iadd_str (fun t' k => by rw [hr]; exact h t' k) (hsz := ?_)
  rw [← Str.length_append, hr, S_len]
  exact Nat.le_trans hn (by rw [sizeLine_eq]; decide)
theorem fmt_S {M : Model} {A : Around} {E : Value → Shared → Prop} {s : Shared} {t : Tok} {l : List Nat} {Q : Value → Shared → Prop} (hn : l.length ≤ 1000) (h : ∀ t' tk, Q (.str (S l) t') { s with toks := tk }) : wpAny M A (formatField (.str (S l) t) Str.empty) Q E s :=
  PyProof.Rows.formatField_str h (by rw [S_len]; exact Nat.le_trans hn (by rw [sizeLine_eq]; decide))
end Mine
end
section
open PySem PySem.W PyProof.Rows PySem.Calls
namespace Mine
/-- an entry of the table of filemode: address, bit, its token, sign, its token -/
structure Ent where
  ad : Nat
  bit : Nat
  bt : Nat
  sign : Nat
  st : Nat
def fmT : List (Nat × List Ent) := [
  (91, [⟨84, 40960, 552, 108, 580⟩, ⟨85, 49152, 554, 115, 581⟩, ⟨86, 32768, 548, 45, 582⟩, ⟨87, 24576, 546, 98, 583⟩, ⟨88, 16384, 542, 100, 584⟩, ⟨89, 8192, 544, 99, 585⟩, ⟨90, 4096, 550, 112, 586⟩]),
  (93, [⟨92, 256, 562, 114, 587⟩]), (95, [⟨94, 128, 564, 119, 588⟩]), (99, [⟨96, 2112, 589, 115, 590⟩, ⟨97, 2048, 556, 83, 591⟩, ⟨98, 64, 566, 120, 592⟩]),
  (101, [⟨100, 32, 568, 114, 593⟩]), (103, [⟨102, 16, 570, 119, 594⟩]), (107, [⟨104, 1032, 595, 115, 596⟩, ⟨105, 1024, 558, 83, 597⟩, ⟨106, 8, 572, 120, 598⟩]),
  (109, [⟨108, 4, 574, 114, 599⟩]), (111, [⟨110, 2, 576, 119, 600⟩]), (115, [⟨112, 513, 601, 116, 602⟩, ⟨113, 512, 560, 84, 603⟩, ⟨114, 1, 578, 120, 604⟩])]
def entVals (e : Ent) : Array Value := #[.int (e.bit : Int) e.bt, .str (S [e.sign]) e.st]
def refsOf (l : List Ent) : List Value := l.map fun e => .ref e.ad
def tupO (vs : Array Value) : Obj := { cls := .type "tuple", data := .seq vs }
theorem fm_ok {P : Params} : ∀ t ∈ fmT, List.lookup t.1 (hd.heap_39 P) = some (tupO (refsOf t.2).toArray) ∧ ∀ e ∈ t.2, List.lookup e.ad (hd.heap_39 P) = some (tupO (entVals e)) := by
  simp only [fmT, List.forall_mem_cons, List.not_mem_nil, false_implies, implies_true, and_true]
  repeat' apply And.intro
  all_goals kernel_rfl
theorem fm_top {P : Params} : List.lookup 116 (hd.heap_39 P) = some (tupO (fmT.map fun t => Value.ref t.1).toArray) := by kernel_rfl
theorem tup_is {h : Heap} {a : Addr} {vs : Array Value} (h0 : h.get? a = some (tupO vs)) : h.IsTuple a vs := ⟨_, h0, rfl, _, rfl⟩
theorem fm_tab {P : Params} {h : Heap} (X : (hd.heap_39 P).In h) {t : Nat × List Ent} (ht : t ∈ fmT) : h.IsTuple t.1 (refsOf t.2).toArray := tup_is (X _ _ (fm_ok t ht).1)
theorem fm_ent {P : Params} {h : Heap} (X : (hd.heap_39 P).In h) {t : Nat × List Ent} (ht : t ∈ fmT) {e : Ent} (he : e ∈ t.2) : h.IsTuple e.ad (entVals e) := tup_is (X _ _ ((fm_ok t ht).2 e he))
/-- does the entry fit -/
def fits (i : Nat) (mode : Int) (e : Ent) : Bool := if i = 0 then decide (Builtin.bitAnd mode 61440 = (e.bit : Int)) else decide (Builtin.bitAnd mode (e.bit : Int) = (e.bit : Int))
def pick (i : Nat) (mode : Int) (l : List Ent) : Nat := match l.find? (fits i mode) with
  | some e => e.sign
  | none => if i = 0 then 63 else 45
def rowG (mode : Int) : Nat → List (Nat × List Ent) → List Nat
  | _, [] => []
  | i, t :: r => pick i mode t.2 :: rowG mode (i + 1) r
def rowL (mode : Int) : List Nat := rowG mode 0 fmT
end Mine
end
section
open PySem PySem.W PyProof.Rows PySem.Calls
namespace Mine
theorem fr2 {g h : Heap} {L : Addr} {m : Str → Option Value} {n1 n2 : Str} {v1 v2 : Value} (F : Fr g L h m) (h1 : m n1 = some v1) (h2 : m n2 = some v2) :
    Fr g L h (fun y => if y = n1 then some v1 else if y = n2 then some v2 else m y) := by
  have e : (fun y => if y = n1 then some v1 else if y = n2 then some v2 else m y) = m := by
    funext y
    repeat' split
    all_goals first | (subst_vars; simp_all) | rfl
  rw [e]; exact F
theorem fr3 {m : Str → Option Value} {n1 n2 n3 : Str} {v1 v2 v3 : Value} (h1 : m n1 = some v1) (h2 : m n2 = some v2) (h3 : m n3 = some v3) :
    m = (fun y => if y = n1 then some v1 else if y = n2 then some v2 else if y = n3 then some v3 else m y) := by
  funext y
  repeat' split
  all_goals first | (subst_vars; simp_all) | rfl
theorem fr2e {m : Str → Option Value} {n1 n2 : Str} {v1 v2 : Value} (h1 : m n1 = some v1) (h2 : m n2 = some v2) :
    m = (fun y => if y = n1 then some v1 else if y = n2 then some v2 else m y) := by
  funext y
  repeat' split
  all_goals first | (subst_vars; simp_all) | rfl
theorem rowG_get {mode : Int} : ∀ {l : List (Nat × List Ent)} {k i : Nat} {t : Nat × List Ent}, l[i]? = some t → (rowG mode k l)[i]? = some (pick (k + i) mode t.2)
  | [], _, _, _, h => by simp at h
  | a :: r, k, 0, t, h => by simp at h; subst h; rfl
  | a :: r, k, i + 1, t, h => by
    have h' : r[i]? = some t := by simpa using h
    have := rowG_get (mode := mode) (k := k + 1) h'
    show (rowG mode (k + 1) r)[i]? = _
    rw [this]
    have e : k + 1 + i = k + (i + 1) := by omega
    rw [e]
theorem rowG_len {mode : Int} : ∀ (l : List (Nat × List Ent)) (k : Nat), (rowG mode k l).length = l.length
  | [], _ => rfl
  | _ :: r, k => by show (rowG mode (k + 1) r).length + 1 = _; rw [rowG_len r]; rfl
theorem rowL_get {mode : Int} {i : Nat} {t : Nat × List Ent} (h : fmT[i]? = some t) : (rowL mode)[i]? = some (pick i mode t.2) := by
  have := rowG_get (mode := mode) (k := 0) h
  rw [Nat.zero_add] at this; exact this
theorem rowL_len (mode : Int) : (rowL mode).length = 10 := rowG_len fmT 0
theorem pick_at {i : Nat} {mode : Int} {l : List Ent} {j : Nat} {e : Ent} (h0 : ∀ x ∈ l.take j, fits i mode x = false) (he : l[j]? = some e) (h1 : fits i mode e = true) : pick i mode l = e.sign := by
  have hs : l = l.take j ++ e :: l.drop (j + 1) := by
    have hj : j < l.length := (List.getElem?_eq_some_iff.mp he).1
    have : l[j] = e := by rw [List.getElem?_eq_getElem hj] at he; exact Option.some.inj he
    rw [← this, ← List.drop_eq_getElem_cons hj, List.take_append_drop]
  unfold pick
  have hf : l.find? (fits i mode) = some e := by
    rw [hs, List.find?_append]
    have h2 : (l.take j).find? (fits i mode) = none := by
      rw [List.find?_eq_none]; intro x hx; rw [h0 x hx]; simp
    rw [h2]; simp [h1]
  rw [hf]
theorem pick_none {i : Nat} {mode : Int} {l : List Ent} (h0 : ∀ x ∈ l.take l.length, fits i mode x = false) : pick i mode l = if i = 0 then 63 else 45 := by
  rw [List.take_length] at h0
  unfold pick
  have h2 : l.find? (fits i mode) = none := by
    rw [List.find?_eq_none]; intro x hx; rw [h0 x hx]; simp
  rw [h2]
def JO (perm : Nat) (mode : Int) (tm : Tok) (rest : List (Addr × Obj)) (i : Nat) (m : Str → Option Value) (nx : List (Addr × Obj)) : Prop :=
  ∃ (vs : List Value) (cnt : Nat) (mm : Str → Option Value), nx = (perm, W.listOf vs.toArray cnt) :: rest ∧ StrsAre vs ((((rowL mode).take i).map fun c => [c]).map S) ∧
    m = fun y => if y = Str.ofString "mode" then some (.int mode tm) else if y = Str.ofString "perm" then some (.ref perm) else mm y
def JI (news : List (Addr × Obj)) (perm : Nat) (mode : Int) (tm ti : Tok) (i : Nat) (tab : List Ent) (j : Nat) (m : Str → Option Value) (nx : List (Addr × Obj)) : Prop :=
  nx = news ∧ (∀ e ∈ tab.take j, fits i mode e = false) ∧
    ∃ (mm : Str → Option Value), m = fun y => if y = Str.ofString "mode" then some (.int mode tm) else if y = Str.ofString "perm" then some (.ref perm) else if y = Str.ofString "index" then some (.int (i : Int) ti) else mm y
theorem JO_end {h₀ h : Heap} {L : Addr} {perm : Nat} {mode : Int} {tm : Tok} {rest own tl : List (Addr × Obj)} {adr : List Addr} {s₁ s₂ : Shared} {m' : Str → Option Value} {vs : List Value} {cnt i c tk : Nat} {tc : Tok} {t : Nat × List Ent}
    (F : Fr h₀ L h m') (N : News h₀ L h ((perm, W.listOf (vs.toArray.push (.str (S [c]) tc)) cnt) :: tl)) (hadr : adr = perm :: rest.map (·.1)) (htl : ∀ p ∈ rest ++ own, p ∈ tl)
    (hv : StrsAre vs ((((rowL mode).take i).map fun c => [c]).map S)) (ht : fmT[i]? = some t) (hc : pick i mode t.2 = c)
    (a1 : m' (Str.ofString "mode") = some (.int mode tm)) (a2 : m' (Str.ofString "perm") = some (.ref perm)) (hs : s₂ = { s₁ with heap := h, toks := tk }) :
    InvEndN h₀ L (JO perm mode tm rest (i + 1)) own adr s₁ s₂ := by
  refine ⟨h, tk, m', _, (perm, W.listOf (vs.toArray.push (.str (S [c]) tc)) cnt) :: rest, hs, F, N, ?_, ?_, ?_, vs ++ [.str (S [c]) tc], cnt, m', ?_, ?_, fr2e a1 a2⟩
  · intro p hp
    rcases List.mem_cons.mp hp with rfl | hp
    · exact .head _
    · exact .tail _ (htl p (List.mem_append_left _ hp))
  · intro p hp; exact .tail _ (htl p (List.mem_append_right _ hp))
  · rw [hadr]; rfl
  · rw [List.push_toArray]
  · have e : (rowL mode).take (i + 1) = (rowL mode).take i ++ [c] := by
      rw [List.take_add_one, rowL_get ht, hc]; rfl
    rw [e, List.map_append, List.map_append]
    exact strs_push hv
theorem JI_end {h₀ h : Heap} {L : Addr} {perm : Nat} {mode : Int} {tm ti : Tok} {i j : Nat} {tab : List Ent} {e : Ent} {news own tl : List (Addr × Obj)} {adr : List Addr} {s₁ s₂ : Shared} {m' : Str → Option Value} {tk : Nat}
    (F : Fr h₀ L h m') (N : News h₀ L h tl) (hadr : adr = news.map (·.1)) (htl : ∀ p ∈ news ++ own, p ∈ tl)
    (h0 : ∀ e ∈ tab.take j, fits i mode e = false) (he : tab[j]? = some e) (hf : fits i mode e = false)
    (a1 : m' (Str.ofString "mode") = some (.int mode tm)) (a2 : m' (Str.ofString "perm") = some (.ref perm)) (a3 : m' (Str.ofString "index") = some (.int (i : Int) ti)) (hs : s₂ = { s₁ with heap := h, toks := tk }) :
    InvEndN h₀ L (JI news perm mode tm ti i tab (j + 1)) own adr s₁ s₂ := by
  refine ⟨h, tk, m', tl, news, hs, F, N, fun p hp => htl p (List.mem_append_left _ hp), fun p hp => htl p (List.mem_append_right _ hp), hadr.symm, rfl, ?_, m', fr3 a1 a2 a3⟩
  rw [List.take_add_one, he]
  intro x hx
  rcases List.mem_append.mp hx with hx | hx
  · exact h0 x hx
  · simp at hx; subst hx; exact hf
theorem tl_ne {perm : Nat} {o : Obj} {rest own tl : List (Addr × Obj)} (htl : tl = rest ++ own) (hal : ∀ p ∈ rest, p.1 < perm) (hoff : OwnOff own (((perm, o) :: rest).map (·.1))) : ∀ p ∈ tl, @Ne Nat p.1 perm := by
  rw [htl]; intro p hp
  rcases List.mem_append.mp hp with hp | hp
  · exact Nat.ne_of_lt (hal p hp)
  · exact hoff p hp _ (List.mem_cons_self ..)
theorem tl_ne2 {perm : Nat} {o : Obj} {own tl tl2 : List (Addr × Obj)} (htl : tl2 = tl ++ own) (hal : ∀ p ∈ tl, @Ne Nat p.1 perm) (hoff : OwnOff own (((perm, o) :: tl).map (·.1))) : ∀ p ∈ tl2, @Ne Nat p.1 perm := by
  rw [htl]; intro p hp
  rcases List.mem_append.mp hp with hp | hp
  · exact hal p hp
  · exact hoff p hp _ (List.mem_cons_self ..)
theorem name_it {rest : List (Addr × Obj)} {l : Nat} (h : ∀ p ∈ rest, p.1 < l) : ∃ q : Nat, q = l ∧ ∀ p ∈ rest, p.1 < q := ⟨l, rfl, h⟩
theorem fitsA {i : Nat} {mode : Int} {e : Ent} (h0 : (i : Int) = 0) (h : Builtin.bitAnd mode 61440 = (e.bit : Int)) : fits i mode e = true := by
  unfold fits; rw [if_pos (by omega), h]; simp
theorem fitsA' {i : Nat} {mode : Int} {e : Ent} (h0 : (i : Int) = 0) (h : Builtin.bitAnd mode 61440 ≠ (e.bit : Int)) : fits i mode e = false := by
  unfold fits; rw [if_pos (by omega)]; simp [h]
theorem fitsB {i : Nat} {mode : Int} {e : Ent} (h0 : (i : Int) ≠ 0) (h : Builtin.bitAnd mode (e.bit : Int) = (e.bit : Int)) : fits i mode e = true := by
  unfold fits; rw [if_neg (by omega), h]; simp
theorem fitsB' {i : Nat} {mode : Int} {e : Ent} (h0 : (i : Int) ≠ 0) (h : Builtin.bitAnd mode (e.bit : Int) ≠ (e.bit : Int)) : fits i mode e = false := by
  unfold fits; rw [if_neg (by omega)]; simp [h]
theorem flat_one : ∀ l : List Nat, (l.map fun c => [c]).flatten = l
  | [] => rfl
  | a :: r => by rw [List.map_cons, List.flatten_cons, flat_one r]; rfl
end Mine
end
section
open PySem PySem.W PyProof.Rows PySem.Calls PySem.Builtin.Str
namespace Mine
def allS : List Nat := [45, 114, 119, 120, 115, 83, 116, 84]
def plainS : List Nat := [114, 119, 115, 116]
inductive Sk : List Nat → List Nat → Prop
  | any : Sk [46] allS
  | esc : Sk [92, 45] [45]
  | one (c : Nat) (h : c ∈ plainS) : Sk [c] [c]
  | head (a : Nat) (h : a ∈ heads) : Sk [91, a, 93] [a]
  | dash : Sk [91, 92, 45, 93] [45]
  | two (p : Nat × Nat) (h : p ∈ pairsT) : Sk [91, p.1, p.2, 93] [p.1, p.2]
  | dot (a : Nat) (h : a ∈ firsts) : Sk [91, a, 92, 45, 93] [a, 45]
inductive Sks : List (List Nat) → List (List Nat) → Prop
  | nil : Sks [] []
  | cons {a b : List Nat} {as bs : List (List Nat)} (h : Sk a b) (r : Sks as bs) : Sks (a :: as) (b :: bs)
/-- the state ahead of each turn of _law_sets' while -/
def JS (g : Heap) (L l : Nat) (rest : List (Addr × Obj)) (P : List Nat) (sets : List (List Nat)) (tp : Tok) (s₀ : Shared) (n : Nat) (s : Shared) : Prop :=
  ∃ (done : List Nat) (toks os1 os2 : List (List Nat)) (mm : Str → Option Value) (vs : List Value) (cnt : Nat) (x : Int) (tk : Tok) (h : Heap) (tk1 : Nat), s = { s₀ with heap := h, toks := tk1 } ∧
    toks.length = n ∧ P = done ++ (toks.flatten ++ [41, 92, 90]) ∧ Sks toks os2 ∧ sets = os1 ++ os2 ∧ StrsAre vs (os1.map S) ∧ vs.length + n ≤ 100 ∧ x = (done.length : Int) ∧
    News g L h ((l, W.listOf vs.toArray cnt) :: rest) ∧
    Fr g L h (fun y => if y = Str.ofString "text" then some (.str (S P) tp) else if y = Str.ofString "sets" then some (.ref l) else if y = Str.ofString "k" then some (.int x tk) else mm y)
theorem fr3f {g h : Heap} {L : Addr} {m : Str → Option Value} {n1 n2 n3 : Str} {v1 v2 v3 : Value} (F : Fr g L h m) (h1 : m n1 = some v1) (h2 : m n2 = some v2) (h3 : m n3 = some v3) :
    Fr g L h (fun y => if y = n1 then some v1 else if y = n2 then some v2 else if y = n3 then some v3 else m y) := by
  have e := fr3 h1 h2 h3
  rw [← e]; exact F
theorem JS_end {g : Heap} {L l : Nat} {rest : List (Addr × Obj)} {P : List Nat} {sets : List (List Nat)} {tp : Tok} {s₀ s₂ : Shared} {n : Nat} {done tok o : List Nat} {toks os1 os2 : List (List Nat)} {m : Str → Option Value} {vs : List Value} {cnt : Nat} {x : Int} {tk to : Tok} {h : Heap} {tk1 : Nat} {oo : Str}
    (h1 : toks.length = n) (h2 : P = done ++ ((tok :: toks).flatten ++ [41, 92, 90])) (h3 : Sks toks os2) (h4 : sets = os1 ++ o :: os2) (h5 : StrsAre vs (os1.map S)) (h6 : vs.length + (n + 1) ≤ 100) (h7 : x = ((done.length + tok.length : Nat) : Int)) (hoo : oo = S o)
    (N : News g L h ((l, W.listOf (vs.toArray.push (.str oo to)) cnt) :: rest)) (F : Fr g L h m)
    (a1 : m (Str.ofString "text") = some (.str (S P) tp)) (a2 : m (Str.ofString "sets") = some (.ref l)) (a3 : m (Str.ofString "k") = some (.int x tk)) (hs : s₂ = { s₀ with heap := h, toks := tk1 }) :
    TurnEnd (JS g L l rest P sets tp s₀) n .next s₂ := by
  subst hoo
  refine ⟨rfl, done ++ tok, toks, os1 ++ [o], os2, m, vs ++ [.str (S o) to], cnt, x, tk, h, tk1, hs, h1, ?_, h3, ?_, ?_, ?_, ?_, ?_, fr3f F a1 a2 a3⟩
  · rw [h2, List.flatten_cons, List.append_assoc, List.append_assoc]
  · rw [h4]; simp
  · rw [List.map_append]; exact strs_push h5
  · simp only [List.length_append, List.length_cons, List.length_nil]; omega
  · rw [h7, List.length_append]
  · rw [List.push_toArray] at N; exact N
theorem JS_go {prog : Program} {w : World} {A : Around} {E : Value → Shared → Prop} {env : Env} {test : PySem.Expr} {body orelse : List Stmt} {pos : Pos} {Q : Flow → Shared → Prop} {s : Shared}
    {g : Heap} {L l : Nat} {rest : List (Addr × Obj)} {P : List Nat} {toks sets : List (List Nat)} {tp tk : Tok} {m : Str → Option Value} {cnt : Nat}
    (F : Fr g L s.heap m) (N : News g L s.heap ((l, W.listOf #[] cnt) :: rest)) (hP : P = [40, 63, 115, 58] ++ (toks.flatten ++ [41, 92, 90])) (hT : Sks toks sets) (hl : toks.length ≤ 20)
    (a1 : m (Str.ofString "text") = some (.str (S P) tp)) (a2 : m (Str.ofString "sets") = some (.ref l)) (a3 : m (Str.ofString "k") = some (.int 4 tk))
    (hE : PassesOwn (model prog w) A env E)
    (turn : ∀ n s', JS g L l rest P sets tp s (n + 1) s' → wpAny (model prog w) A (isTrue test env (eval test env)) (fun b s₂ => WhlIf b (wpAny (model prog w) A (execs body env) (TurnEnd (JS g L l rest P sets tp s) n) E s₂) False) E s')
    (last : ∀ s', JS g L l rest P sets tp s 0 s' → wpAny (model prog w) A (isTrue test env (eval test env)) (fun b s₂ => WhlIf b False (wpAny (model prog w) A (execs orelse env) Q E s₂)) E s') :
    wpAny (model prog w) A (exec (.While test body orelse pos) env) Q E s := by
  refine whl_start 0 (loop_ind (JS g L l rest P sets tp s) hE turn last toks.length s 0 ?_)
  exact ⟨[40, 63, 115, 58], toks, [], sets, m, [], cnt, 4, tk, s.heap, s.toks, rfl, rfl, hP, hT, rfl, .nil, by simp; omega, rfl, N, fr3f F a1 a2 a3⟩
section
variable {prog : Program} {w : World} {A : Around} {E : Value → Shared → Prop} {s : Shared} {Q : Value → Shared → Prop} {t u : Tok}
theorem in_Sb {x y : Str} {b : Bool} (hb : (!(occurrences x y 0 x.length 1).isEmpty) = b) (h : Q (.bool b) s) : wpAny (model prog w) A (compareOp .In (.str y u) (.str x t)) Q E s := by
  subst hb; exact P.in_str h
theorem add_S {l r : List Nat} (hl : l.length + r.length ≤ 1000) (h : ∀ t k, Q (.str (S (l ++ r)) t) { s with toks := k }) : wpAny (model prog w) A (binaryOp .Add (.str (S l) t) (.str (S r) u)) Q E s := by
  refine SBL.add (fun t' k _ => by rw [S_app]; exact h t' k) (hsz := ?_)
  rw [S_len, S_len]
  exact Nat.le_trans hl (by rw [sizeLine_eq]; decide)
theorem add_S0 {r : List Nat} (hl : r.length ≤ 1000) (h : ∀ t k, Q (.str (S r) t) { s with toks := k }) : wpAny (model prog w) A (binaryOp .Add (.str (Str.ofString "") t) (.str (S r) u)) Q E s := by
  rw [show Str.ofString "" = S [] from by decide +kernel]
  exact add_S (by simpa using hl) h
end
section
variable {prog : Program} {w : World} {A : Around} {E : Value → Shared → Prop} {s : Shared} {value slice : PySem.Expr} {P l : List Nat} {t : Tok} {h₀ : Heap} {L : Addr} {m : Str → Option Value} {news : List (Addr × Obj)} {Q : Value → Shared → Prop}
theorem slice_to {j : Int} {uj : Tok} (hF : Fr h₀ L s.heap m) (hN : News h₀ L s.heap news) (hn : P.length ≤ 1000) (he : Txt.slice (S P) none (some j) = S l)
    (h : ∀ h' t' k, Fr h₀ L h' m → News h₀ L h' news → Q (.str (S l) t') { s with heap := h', toks := k })
    (hs : subscripted slice false (.str (S P) t) (.ref s.heap.objs.size) = operate [.ref s.heap.objs.size, .str (S P) t] (getItem (.str (S P) t) (.ref s.heap.objs.size)) := by with_unfolding_all rfl)
    (ht : ∀ r, letTemporaryGo value (.str (S P) t) r = pure () := by intro _; with_unfolding_all rfl) :
    wpAny (model prog w) A (subscriptTail value slice (.str (S P) t) (.ref s.heap.objs.size)) Q E { s with heap := s.heap.push { cls := .type "slice", data := .fields #[.none, .int j uj, .none] } } :=
  slice_strN_ns hF hN (by rw [he]; exact h) hs ht (by rw [S_len]; exact Nat.le_trans hn (by rw [sizeLine_eq]; decide))
theorem slice_from {i : Int} {ui : Tok} (hF : Fr h₀ L s.heap m) (hN : News h₀ L s.heap news) (hn : P.length ≤ 1000) (he : Txt.slice (S P) (some i) none = S l)
    (h : ∀ h' t' k, Fr h₀ L h' m → News h₀ L h' news → Q (.str (S l) t') { s with heap := h', toks := k })
    (hs : subscripted slice false (.str (S P) t) (.ref s.heap.objs.size) = operate [.ref s.heap.objs.size, .str (S P) t] (getItem (.str (S P) t) (.ref s.heap.objs.size)) := by with_unfolding_all rfl)
    (ht : ∀ r, letTemporaryGo value (.str (S P) t) r = pure () := by intro _; with_unfolding_all rfl) :
    wpAny (model prog w) A (subscriptTail value slice (.str (S P) t) (.ref s.heap.objs.size)) Q E { s with heap := s.heap.push { cls := .type "slice", data := .fields #[.int i ui, .none, .none] } } :=
  slice_strN_sn hF hN (by rw [he]; exact h) hs ht (by rw [S_len]; exact Nat.le_trans hn (by rw [sizeLine_eq]; decide))
end
theorem text_head {P r : List Nat} (hP : P = [40, 63, 115, 58] ++ r) : Txt.slice (S P) none (some 4) = S [40, 63, 115, 58] := by
  rw [sl_to ⟨by omega, by rw [hP]; simp; omega⟩, hP]; rfl
theorem text_tail {P r : List Nat} (hP : P = r ++ [41, 92, 90]) : Txt.slice (S P) (some (-3)) none = S [41, 92, 90] := by
  rw [sl_fromNeg (by omega) (by rw [hP]; simp; omega), hP]
  have e : (-3 + ((r ++ [41, 92, 90]).length : Int)).toNat = r.length := by simp; omega
  rw [e, List.drop_left]
end Mine
end
section
open PySem PySem.W PyProof.Rows
namespace Mine
/-- what stands for one sign between brackets -/
inductive Uk : List Nat → Nat → Prop
  | plain (c : Nat) (h1 : (S [c] == Str.ofString "]") = false) (h2 : (S [c] == Str.ofString "\\") = false) (h3 : (!(Builtin.Str.occurrences (Str.ofString "-^") (S [c]) 0 (Str.ofString "-^").length 1).isEmpty) = false) : Uk [c] c
  | esc : Uk [92, 45] 45
inductive Uks : List (List Nat) → List Nat → Prop
  | nil : Uks [] []
  | cons {a : List Nat} {b : Nat} {as : List (List Nat)} {bs : List Nat} (h : Uk a b) (r : Uks as bs) : Uks (a :: as) (b :: bs)
def inSigns : List Nat := [108, 115, 98, 100, 99, 112, 63, 120, 83, 84, 116]
theorem uk_of {c : Nat} (h : c ∈ inSigns) : Uk [c] c :=
  .plain c ((by decide +kernel : ∀ a ∈ inSigns, (S [a] == Str.ofString "]") = false) c h) ((by decide +kernel : ∀ a ∈ inSigns, (S [a] == Str.ofString "\\") = false) c h)
    ((by decide +kernel : ∀ a ∈ inSigns, (!(Builtin.Str.occurrences (Str.ofString "-^") (S [a]) 0 (Str.ofString "-^").length 1).isEmpty) = false) c h)
theorem sk_cases {tok o : List Nat} (h : Sk tok o) : (tok = [46] ∧ o = allS) ∨ (tok = [92, 45] ∧ o = [45]) ∨ (∃ c, c ∈ plainS ∧ tok = [c] ∧ o = [c]) ∨ ∃ us, Uks us o ∧ us.length ≤ 2 ∧ tok = 91 :: (us.flatten ++ [93]) := by
  cases h with
  | any => exact .inl ⟨rfl, rfl⟩
  | esc => exact .inr (.inl ⟨rfl, rfl⟩)
  | one c h => exact .inr (.inr (.inl ⟨c, h, rfl, rfl⟩))
  | head a h => exact .inr (.inr (.inr ⟨[[a]], .cons (uk_of ((by decide +kernel : ∀ a ∈ heads, a ∈ inSigns) a h)) .nil, Nat.le_of_ble_eq_true rfl, rfl⟩))
  | dash => exact .inr (.inr (.inr ⟨[[92, 45]], .cons .esc .nil, Nat.le_of_ble_eq_true rfl, rfl⟩))
  | two p h => exact .inr (.inr (.inr ⟨[[p.1], [p.2]], .cons (uk_of ((by decide +kernel : ∀ p ∈ pairsT, p.1 ∈ inSigns) p h)) (.cons (uk_of ((by decide +kernel : ∀ p ∈ pairsT, p.2 ∈ inSigns) p h)) .nil), Nat.le_of_ble_eq_true rfl, rfl⟩))
  | dot a h => exact .inr (.inr (.inr ⟨[[a], [92, 45]], .cons (uk_of ((by decide +kernel : ∀ a ∈ firsts, a ∈ inSigns) a h)) (.cons .esc .nil), Nat.le_of_ble_eq_true rfl, rfl⟩))
theorem fr4f {g h : Heap} {L : Addr} {m : Str → Option Value} {n1 n2 n3 n4 : Str} {v1 v2 v3 v4 : Value} (F : Fr g L h m) (h1 : m n1 = some v1) (h2 : m n2 = some v2) (h3 : m n3 = some v3) (h4 : m n4 = some v4) :
    Fr g L h (fun y => if y = n1 then some v1 else if y = n2 then some v2 else if y = n3 then some v3 else if y = n4 then some v4 else m y) := by
  have e : (fun y => if y = n1 then some v1 else if y = n2 then some v2 else if y = n3 then some v3 else if y = n4 then some v4 else m y) = m := by
    funext y
    repeat' split
    all_goals first | (subst_vars; simp_all) | rfl
  rw [e]; exact F
/-- the state ahead of each turn of the while between brackets -/
def JW (g : Heap) (L l : Nat) (led : List (Addr × Obj)) (P post o : List Nat) (tp : Tok) (s₀ : Shared) (n : Nat) (s : Shared) : Prop :=
  ∃ (pre : List Nat) (us : List (List Nat)) (sg os2 : List Nat) (mm : Str → Option Value) (x : Int) (tk ts : Tok) (h : Heap) (tk1 : Nat), s = { s₀ with heap := h, toks := tk1 } ∧
    us.length = n ∧ P = pre ++ (us.flatten ++ 93 :: post) ∧ Uks us os2 ∧ o = sg ++ os2 ∧ sg.length + n ≤ 100 ∧ x = (pre.length : Int) ∧
    News g L h led ∧
    Fr g L h (fun y => if y = Str.ofString "text" then some (.str (S P) tp) else if y = Str.ofString "sets" then some (.ref l) else if y = Str.ofString "k" then some (.int x tk) else if y = Str.ofString "signs" then some (.str (S sg) ts) else mm y)
theorem JW_end {g : Heap} {L l : Nat} {led : List (Addr × Obj)} {P post o : List Nat} {tp : Tok} {s₀ s₂ : Shared} {n : Nat} {pre a sg os2 : List Nat} {b : Nat} {us : List (List Nat)} {m : Str → Option Value} {x : Int} {tk ts : Tok} {h : Heap} {tk1 : Nat} {sg' : List Nat}
    (h1 : us.length = n) (h2 : P = pre ++ ((a :: us).flatten ++ 93 :: post)) (h3 : Uks us os2) (h4 : o = sg ++ b :: os2) (h6 : sg.length + (n + 1) ≤ 100) (h7 : x = ((pre.length + a.length : Nat) : Int)) (hsg : sg' = sg ++ [b])
    (N : News g L h led) (F : Fr g L h m)
    (a1 : m (Str.ofString "text") = some (.str (S P) tp)) (a2 : m (Str.ofString "sets") = some (.ref l)) (a3 : m (Str.ofString "k") = some (.int x tk)) (a4 : m (Str.ofString "signs") = some (.str (S sg') ts)) (hs : s₂ = { s₀ with heap := h, toks := tk1 }) :
    TurnEnd (JW g L l led P post o tp s₀) n .next s₂ := by
  subst hsg
  refine ⟨rfl, pre ++ a, us, sg ++ [b], os2, m, x, tk, ts, h, tk1, hs, h1, ?_, h3, ?_, ?_, ?_, N, fr4f F a1 a2 a3 a4⟩
  · rw [h2, List.flatten_cons, List.append_assoc, List.append_assoc]
  · rw [h4]; simp
  · simp only [List.length_append, List.length_cons, List.length_nil]; omega
  · rw [h7, List.length_append]
theorem JW_go {prog : Program} {w : World} {A : Around} {E : Value → Shared → Prop} {env : Env} {test : PySem.Expr} {body orelse : List Stmt} {pos : Pos} {Q : Flow → Shared → Prop} {s s₀ : Shared}
    {g : Heap} {L l : Nat} {led : List (Addr × Obj)} {P pre post o : List Nat} {us : List (List Nat)} {tp tk ts : Tok} {x : Int} {m : Str → Option Value} {tk1 : Nat} {h : Heap}
    (F : Fr g L h m) (N : News g L h led) (hP : P = pre ++ (us.flatten ++ 93 :: post)) (hU : Uks us o) (hl : us.length ≤ 2) (hx : x = (pre.length : Int))
    (a1 : m (Str.ofString "text") = some (.str (S P) tp)) (a2 : m (Str.ofString "sets") = some (.ref l)) (a3 : m (Str.ofString "k") = some (.int x tk)) (a4 : m (Str.ofString "signs") = some (.str (Str.ofString "") ts)) (hs : s = { s₀ with heap := h, toks := tk1 })
    (hE : PassesOwn (model prog w) A env E)
    (turn : ∀ n s', JW g L l led P post o tp s₀ (n + 1) s' → wpAny (model prog w) A (isTrue test env (eval test env)) (fun b s₂ => WhlIf b (wpAny (model prog w) A (execs body env) (TurnEnd (JW g L l led P post o tp s₀) n) E s₂) False) E s')
    (last : ∀ s', JW g L l led P post o tp s₀ 0 s' → wpAny (model prog w) A (isTrue test env (eval test env)) (fun b s₂ => WhlIf b False (wpAny (model prog w) A (execs orelse env) Q E s₂)) E s') :
    wpAny (model prog w) A (exec (.While test body orelse pos) env) Q E s := by
  refine whl_start 0 (loop_ind (JW g L l led P post o tp s₀) hE turn last us.length s 0 ?_)
  rw [show Str.ofString "" = S [] from by decide +kernel] at a4
  exact ⟨pre, us, [], o, m, x, tk, ts, h, tk1, hs, rfl, hP, hU, rfl, by simp; omega, hx, N, fr4f F a1 a2 a3 a4⟩
end Mine
end
section
open PySem PySem.W PyProof.Rows PySem.Calls PySem.Builtin.Str
namespace Mine
/-- a goal that the walk leaves alone -/
def Halt (p : Prop) : Prop := p
theorem Halt.mk {p : Prop} (h : Halt p) : p := h
def takes (sets : List (List Nat)) (r : List Nat) : Bool := (List.range r.length).all fun k => decide (r.getD k 0 ∈ sets.getD k [])
section
variable {prog : Program} {w : World} {A : Around} {s : Shared} {h₀ : Heap} {L : Addr} {m : Str → Option Value} {env : Env}
theorem restT_inv {ct elt : PySem.Expr} {x : Str} {scope : PySem.Scope} {cl : List (Str × Addr)} {S : List (Addr × Obj) → Prop} {P : Nat → Value → Prop} {Fin : List Value → List (Addr × Obj) → Prop} {n : Nat} {news : List (Addr × Obj)} (J : Nat → List Value → Prop) (hS : S news) (h0 : J 0 [])
    (turn : ∀ i ys v I oI C oC D m₂ h tk (E' : Value → Shared → Prop), i < n → J i ys → P i v → LCg.NsObj oC m₂ → m₂ x = some v → Fr h₀ L h m → News h₀ L h ((I, oI) :: (C, oC) :: (D, LCg.lst ys) :: news) → LCg.Off3 I C D news → ((@Ne Nat I C) ∧ (@Ne Nat I D) ∧ (@Ne Nat C D)) →
      wpAny (model prog w) A (isTrue ct (compEnvC scope cl C env) (eval ct (compEnvC scope cl C env))) (fun ok s' => if ok = true then
        wpAny (model prog w) A (eval elt (compEnvC scope cl C env)) (LCg.CompEnd h₀ L m { s with heap := h, toks := tk } I oI C oC D (LCg.lst ys) (fun _ => True) (fun y news' => news' = news ∧ J (i + 1) (ys ++ [y]))) E' s'
        else LCg.CompEnd h₀ L m { s with heap := h, toks := tk } I oI C oC D (LCg.lst ys) (fun _ => True) (fun _ news' => news' = news ∧ J (i + 1) ys) Value.none s') E' { s with heap := h, toks := tk })
    (fin : ∀ ys, J n ys → Fin ys news) : LCt.CompRestT prog w A h₀ L m env ct elt x scope cl s S P Fin n 0 [] news := by
  have key : ∀ k i ys, i + k = n → J i ys → LCt.CompRestT prog w A h₀ L m env ct elt x scope cl s S P Fin k i ys news := by
    intro k
    induction k with
    | zero => intro i ys e hJ; exact LCt.CompRestT.zero (fin ys (by have : i = n := by omega
                                                                    rw [← this]; exact hJ))
    | succ k ih =>
      intro i ys e hJ
      refine LCt.CompRestT.succ fun v I oI C oC D m₂ h tk E' hP hC hx F N off ne => ?_
      refine wpAny_mono (turn i ys v I oI C oC D m₂ h tk E' (by omega) hJ hP hC hx F N off ne) (fun ok s' h' => ?_) fun _ _ e => e
      by_cases hok : ok = true
      · rw [if_pos hok] at h' ⊢
        refine wpAny_mono h' (fun y s₂ h₂ => ?_) fun _ _ e => e
        obtain ⟨h9, tk', news', rfl, F', N', off', _, rfl, hJ'⟩ := h₂
        exact ⟨h9, tk', news', rfl, F', N', off', hS, ih _ _ (by omega) hJ'⟩
      · rw [if_neg hok] at h' ⊢
        obtain ⟨h9, tk', news', rfl, F', N', off', _, rfl, hJ'⟩ := h'
        exact ⟨h9, tk', news', rfl, F', N', off', hS, ih _ _ (by omega) hJ'⟩
  exact key n 0 [] (by omega) h0
theorem rest_inv {elt : PySem.Expr} {x : Str} {scope : PySem.Scope} {cl : List (Str × Addr)} {S : List (Addr × Obj) → Prop} {P : Nat → Value → Prop} {Fin : List Value → List (Addr × Obj) → Prop} {n : Nat} {news : List (Addr × Obj)} (J : Nat → List Value → Prop) (hS : S news) (h0 : J 0 [])
    (turn : ∀ i ys v I oI C oC D m₂ h tk (E' : Value → Shared → Prop), i < n → J i ys → P i v → LCg.NsObj oC m₂ → m₂ x = some v → Fr h₀ L h m → News h₀ L h ((I, oI) :: (C, oC) :: (D, LCg.lst ys) :: news) → LCg.Off3 I C D news → ((@Ne Nat I C) ∧ (@Ne Nat I D) ∧ (@Ne Nat C D)) →
      wpAny (model prog w) A (eval elt (compEnvC scope cl C env)) (LCg.CompEnd h₀ L m { s with heap := h, toks := tk } I oI C oC D (LCg.lst ys) (fun _ => True) (fun y news' => news' = news ∧ J (i + 1) (ys ++ [y]))) E' { s with heap := h, toks := tk })
    (fin : ∀ ys, J n ys → Fin ys news) : LCg.CompRest prog w A h₀ L m env elt x scope cl s S P Fin n 0 [] news := by
  have key : ∀ k i ys, i + k = n → J i ys → LCg.CompRest prog w A h₀ L m env elt x scope cl s S P Fin k i ys news := by
    intro k
    induction k with
    | zero => intro i ys e hJ; exact LCg.CompRest.zero (fin ys (by have : i = n := by omega
                                                                   rw [← this]; exact hJ))
    | succ k ih =>
      intro i ys e hJ
      refine LCg.CompRest.succ fun v I oI C oC D m₂ h tk E' hP hC hx F N off ne => ?_
      refine wpAny_mono (turn i ys v I oI C oC D m₂ h tk E' (by omega) hJ hP hC hx F N off ne) (fun y s₂ h₂ => ?_) fun _ _ e => e
      obtain ⟨h', tk', news', rfl, F', N', off', _, rfl, hJ'⟩ := h₂
      exact ⟨h', tk', news', rfl, F', N', off', hS, ih _ _ (by omega) hJ'⟩
  exact key n 0 [] (by omega) h0
end
section
variable {prog : Program} {w : World} {A : Around} {E : Value → Shared → Prop} {s : Shared} {Q : Value → Shared → Prop} {t u : Tok}
theorem notin_Sb {c : Nat} {l : List Nat} {b : Bool} (hb : decide (c ∈ l) = b) (h : Q (.bool (!b)) s) : wpAny (model prog w) A (compareOp .NotIn (.str (S [c]) u) (.str (S l) t)) Q E s := by
  refine PyProof.Rows.notIn_str ?_
  rw [in_one, hb]; exact h
theorem len_Sx {l : List Nat} {x : Int} (hx : (l.length : Int) = x) (hl : l.length ≤ 1000) (h : Q (.int x (s.toks + 1)) { s with toks := s.toks + 1 + 1 }) : wpAny (model prog w) A (call (.builtin "len") [.str (S l) t]) Q E s := by
  subst hx
  exact len_S hl h
end
def lacks (sets : List (List Nat)) (r : List Nat) (i : Nat) : List Int := ((List.range i).filter fun k => !decide (r.getD k 0 ∈ sets.getD k [])).map fun (k : Nat) => (k : Int)
theorem lacks_yes {sets : List (List Nat)} {r : List Nat} {i : Nat} (h : decide (r.getD i 0 ∈ sets.getD i []) = true) : lacks sets r (i + 1) = lacks sets r i := by
  unfold lacks; rw [List.range_succ, List.filter_append]; simp at h; simp [h]
theorem lacks_no {sets : List (List Nat)} {r : List Nat} {i : Nat} (h : decide (r.getD i 0 ∈ sets.getD i []) = false) : lacks sets r (i + 1) = lacks sets r i ++ [(i : Int)] := by
  unfold lacks; rw [List.range_succ, List.filter_append]; simp at h; simp [h]
theorem lacks_takes {sets : List (List Nat)} {r : List Nat} : decide (lacks sets r r.length = []) = takes sets r := by
  unfold lacks takes
  rw [Bool.eq_iff_iff]
  simp only [decide_eq_true_eq, List.map_eq_nil_iff, List.filter_eq_nil_iff, List.all_eq_true, Bool.not_eq_true', Bool.not_eq_false, decide_eq_true_eq]
theorem strs_getD {vs : List Value} {xs : List (List Nat)} (h : StrsAre vs (xs.map S)) {i : Nat} (hi : i < xs.length) : ∃ t, vs[i]? = some (.str (S (xs.getD i [])) t) := by
  induction xs generalizing vs i with
  | nil => simp at hi
  | cons a r ih =>
    cases h with
    | cons _ t q =>
      cases i with
      | zero => exact ⟨t, rfl⟩
      | succ i => obtain ⟨t', e⟩ := ih q (by simpa using hi); exact ⟨t', by simpa using e⟩
theorem ints_push {vs : List Value} {xs : List Int} {x : Int} {t : Tok} (h : IntsAre vs xs) : IntsAre (vs ++ [.int x t]) (xs ++ [x]) := by
  induction h with
  | nil => exact .cons _ _ .nil
  | cons a b _ ih => exact .cons _ _ ih
theorem ints_push' {vs : List Value} {xs : List Int} {x y : Int} {t : Tok} (e : x = y) (h : IntsAre vs xs) : IntsAre (vs ++ [.int x t]) (xs ++ [y]) := by
  subst e; exact ints_push h
theorem ints_nil {vs : List Value} (h : IntsAre vs []) : vs = [] := by cases h; rfl
theorem ints_cons {vs : List Value} {x : Int} {xs : List Int} (h : IntsAre vs (x :: xs)) : ∃ t vs', vs = .int x t :: vs' ∧ IntsAre vs' xs := by cases h with | cons _ t r => exact ⟨_, _, rfl, r⟩
/-- a list of ten ints -/
def Ten (vs : List Value) : Prop := ∃ x0 x1 x2 x3 x4 x5 x6 x7 x8 x9 t0 t1 t2 t3 t4 t5 t6 t7 t8 t9, vs = [.int x0 t0, .int x1 t1, .int x2 t2, .int x3 t3, .int x4 t4, .int x5 t5, .int x6 t6, .int x7 t7, .int x8 t8, .int x9 t9]
def Some' (n : Nat) (vs : List Value) : Prop := ∃ xs : List Int, xs.length = n ∧ IntsAre vs xs
theorem some_one {n : Nat} {vs : List Value} (h : Some' (n + 1) vs) : ∃ x t vs', vs = .int x t :: vs' ∧ Some' n vs' := by
  obtain ⟨xs, hl, h⟩ := h
  cases h with
  | nil => cases hl
  | cons x t r => exact ⟨_, _, _, rfl, _, Nat.succ.inj hl, r⟩
theorem ints10 {vs : List Value} (h : ∃ xs : List Int, xs.length = 10 ∧ IntsAre vs xs) : Ten vs := by
  obtain ⟨x0, t0, v0, e0, h1⟩ := some_one (n := 9) h
  obtain ⟨x1, t1, v1, e1, h2⟩ := some_one (n := 8) h1
  obtain ⟨x2, t2, v2, e2, h3⟩ := some_one (n := 7) h2
  obtain ⟨x3, t3, v3, e3, h4⟩ := some_one (n := 6) h3
  obtain ⟨x4, t4, v4, e4, h5⟩ := some_one (n := 5) h4
  obtain ⟨x5, t5, v5, e5, h6⟩ := some_one (n := 4) h5
  obtain ⟨x6, t6, v6, e6, h7⟩ := some_one (n := 3) h6
  obtain ⟨x7, t7, v7, e7, h8⟩ := some_one (n := 2) h7
  obtain ⟨x8, t8, v8, e8, h9⟩ := some_one (n := 1) h8
  obtain ⟨x9, t9, v9, e9, h10⟩ := some_one (n := 0) h9
  obtain ⟨xs, hl, h11⟩ := h10
  cases h11 with
  | nil =>
    subst e9 e8 e7 e6 e5 e4 e3 e2 e1 e0
    exact ⟨x0, x1, x2, x3, x4, x5, x6, x7, x8, x9, t0, t1, t2, t3, t4, t5, t6, t7, t8, t9, rfl⟩
  | cons _ _ _ => cases hl
theorem some_push {ys : List Value} {i : Nat} {x : Int} {t : Tok} (h : ∃ xs : List Int, xs.length = i ∧ IntsAre ys xs) : ∃ xs : List Int, xs.length = i + 1 ∧ IntsAre (ys ++ [.int x t]) xs := by
  obtain ⟨xs, e, h⟩ := h
  exact ⟨xs ++ [x], by simp [e], ints_push h⟩
theorem fm8 (x : Int) : 0 ≤ x.fmod 8 ∧ x.fmod 8 < 8 := ⟨Int.fmod_nonneg_of_pos _ (by decide), Int.fmod_lt_of_pos _ (by decide)⟩
theorem num4 (f0 f1 f2 f3 : Int) : ∃ R : Nat, (((0 * 8 + f0.fmod 8) * 8 + f1.fmod 8) * 8 + f2.fmod 8) * 8 + f3.fmod 8 = (R : Int) ∧ R < 4096 := by
  have h0 := fm8 f0
  have h1 := fm8 f1
  have h2 := fm8 f2
  have h3 := fm8 f3
  exact ⟨((((0 * 8 + f0.fmod 8) * 8 + f1.fmod 8) * 8 + f2.fmod 8) * 8 + f3.fmod 8).toNat, by omega, by omega⟩
end Mine
end
section
open PySem PySem.W PyProof.Rows PySem.Calls
namespace Mine
theorem digs_pad {b K n x : Nat} (hK : K ≤ n) (hx : x < 2 ^ (b * K)) : digs b K x ++ List.replicate (n - K) 0 = digs b n x := by
  rw [← digs_split (k1 := K) (k := n) hK, Nat.mod_eq_of_lt hx]
  congr 1
  rw [Nat.div_eq_of_lt hx]
  apply List.ext_getElem
  · simp [digs]
  · intro i h1 h2
    simp [digs]
theorem rep0 (K : Nat) : (List.replicate K [(0 : Int)]).flatten = List.replicate K 0 := by
  induction K with
  | zero => rfl
  | succ n ih => rw [List.replicate_succ, List.replicate_succ, List.flatten_cons, ih]; rfl
theorem bits_nat (x : Nat) : x < 2 ^ Builtin.Int.intBits (x : Int) := by
  unfold Builtin.Int.intBits
  by_cases h : x = 0
  · subst h; decide
  · rw [if_neg (by simpa using h)]
    have e : ((x : Int)).natAbs = x := by omega
    rw [e]
    exact Nat.lt_log2_self
theorem bits_le {x k : Nat} (h : x < 2 ^ k) : Builtin.Int.intBits (x : Int) ≤ k := by
  unfold Builtin.Int.intBits
  by_cases h0 : x = 0
  · subst h0; simp
  · rw [if_neg (by simpa using h0)]
    have e : ((x : Int)).natAbs = x := by omega
    rw [e]
    have := (Nat.log2_lt h0).mpr h
    omega
/-- how many figures to the base 8 -/
def kOf (x : Nat) : Nat := (Builtin.Int.intBits (x : Int) + 2) / 3
theorem kOf_div (x : Nat) : ((Builtin.Int.intBits (x : Int) : Int) + 3 - 1).fdiv 3 = (kOf x : Int) := by
  rw [Int.fdiv_eq_ediv_of_nonneg _ (by decide)]
  unfold kOf; omega
theorem kOf_le {x : Nat} (h : x < 4096) : kOf x ≤ 4 := by
  have := bits_le (k := 12) (x := x) (by simpa using h)
  unfold kOf; omega
theorem kOf_pos {x : Nat} (h : x ≠ 0) : 1 ≤ kOf x := by
  have hb : Builtin.Int.intBits (x : Int) ≠ 0 := by
    unfold Builtin.Int.intBits
    rw [if_neg (by simpa using h)]; omega
  unfold kOf; omega
theorem kOf_lt (x : Nat) : x < 2 ^ (3 * kOf x) :=
  Nat.lt_of_lt_of_le (bits_nat x) (Nat.pow_le_pow_right (by decide) (by unfold kOf; omega))
theorem four_digs {R : Nat} (h : R < 4096) : digs 3 (kOf R) R ++ (List.replicate (4 - kOf R) [(0 : Int)]).flatten = digs 3 4 R := by
  rw [rep0]; exact digs_pad (kOf_le h) (kOf_lt R)
theorem pow65 : ∀ f, f < 8 → ((Builtin.Int.intBits ((65 ^ f : Nat) : Int) : Int) + 6 - 1).fdiv 6 = ((f + 1 : Nat) : Int) ∧ 65 ^ f < 2 ^ (6 * (f + 1)) ∧ 65 ^ f < 2 ^ 60 ∧ 65 ^ f ≠ 0 := by decide +kernel
theorem len_Lx {prog : Program} {w : World} {A : Around} {E : Value → Shared → Prop} {s : Shared} {l : Addr} {vs : List Value} {x : Int} {Q : Value → Shared → Prop} (hl : s.heap.IsList l vs.toArray) (hx : (vs.length : Int) = x) (hn : vs.length ≤ 1000)
    (h : Q (.int x (s.toks + 1)) { s with toks := s.toks + 1 + 1 }) : wpAny (model prog w) A (call (.builtin "len") [.ref l]) Q E s := by
  subst hx
  exact len_L hl hn h
theorem digs_vs {vs : List Value} {b K x : Nat} (h : IntsAre vs (digs b K x)) : vs.length = K := by
  have e := IntsAre.length h
  rw [digs_len] at e; exact e
theorem four_room {R : Nat} (h : R < 4096) : (digs 3 (kOf R) R).length + ((List.replicate (4 - (kOf R : Int)).toNat [(0 : Int)]).flatten).length ≤ sizeLine := by
  have e : (4 - (kOf R : Int)).toNat = 4 - kOf R := by omega
  have := kOf_le h
  rw [e, rep0, digs_len, List.length_replicate]
  exact Nat.le_trans (show _ ≤ 100 by omega) (by rw [sizeLine_eq]; decide)
theorem four_ints {R : Nat} {us : List Value} (hR : R < 4096) (h : IntsAre us (digs 3 (kOf R) R ++ (List.replicate (4 - (kOf R : Int)).toNat [(0 : Int)]).flatten)) : IntsAre us (digs 3 4 R) := by
  have e : (4 - (kOf R : Int)).toNat = 4 - kOf R := by omega
  rw [e, four_digs hR] at h; exact h
theorem sub_first {a b c d : Addr × Obj} {r : List (Addr × Obj)} : ∀ p ∈ a :: r, p ∈ a :: b :: c :: d :: r := by
  intro p hp
  rcases List.mem_cons.mp hp with rfl | hp
  · exact .head _
  · exact .tail _ (.tail _ (.tail _ (.tail _ hp)))
end Mine
end
section
open PySem PySem.W PyProof.Rows PySem.Calls
namespace Mine
/-- what a joined expression gives: an int that fits P -/
def JoinP (P : Int → Prop) (s : Shared) (v : Value) (s' : Shared) : Prop := ∃ (x : Int) (t : Tok) (tk : Nat), P x ∧ v = .int x t ∧ s' = { s with toks := tk }
section
variable {prog : Program} {w : World} {A : Around} {E : Value → Shared → Prop} {s : Shared} {env : Env} {t u : Tok}
theorem join_ev {e : PySem.Expr} {Q : Value → Shared → Prop} (P : Int → Prop) (h1 : wpAny (model prog w) A (eval e env) (JoinP P s) E s) (h2 : ∀ x t tk, P x → Q (.int x t) { s with toks := tk }) : wpAny (model prog w) A (eval e env) Q E s :=
  wpAny_mono h1 (fun v s' h => by obtain ⟨x, t, tk, hP, rfl, rfl⟩ := h; exact h2 x t tk hP) fun _ _ e => e
theorem JoinP.mk {P : Int → Prop} {x : Int} {t : Tok} {tk : Nat} (h : P x) : JoinP P s (.int x t) { s with toks := tk } := ⟨x, t, tk, h, rfl, rfl⟩
theorem pow65_call {f : Nat} {Q : Value → Shared → Prop} (hf : f < 8) (h : ∀ t k, Q (.int ((65 ^ f : Nat) : Int) t) { s with toks := k }) : wpAny (model prog w) A (binaryOp .Pow (.int 65 t) (.int (f : Int) u)) Q E s := by
  refine pow_int_small (by omega) (by omega) (by decide) ?_
  have e : (65 : Int) ^ ((f : Int)).toNat = ((65 ^ f : Nat) : Int) := by rw [Int.toNat_natCast]; norm_cast
  rw [e]; exact h _ _
theorem pow2_call {f : Nat} {Q : Value → Shared → Prop} (hf : f < 100) (h : ∀ t k, Q (.int ((2 ^ f : Nat) : Int) t) { s with toks := k }) : wpAny (model prog w) A (binaryOp .Pow (.int 2 t) (.int (f : Int) u)) Q E s := by
  refine pow_int_small (by omega) (by omega) (by decide) ?_
  have e : (2 : Int) ^ ((f : Int)).toNat = ((2 ^ f : Nat) : Int) := by rw [Int.toNat_natCast]; norm_cast
  rw [e]; exact h _ _
end
def fig (R k : Nat) : Nat := R / 8 ^ k % 8
theorem fig_lt (R k : Nat) : fig R k < 8 := Nat.mod_lt _ (by decide)
theorem digs4 (R : Nat) : digs 3 4 R = [((fig R 0 : Nat) : Int), ((fig R 1 : Nat) : Int), ((fig R 2 : Nat) : Int), ((fig R 3 : Nat) : Int)] := by
  show [((R / 2 ^ (3 * 0) % 2 ^ 3 : Nat) : Int), ((R / 2 ^ (3 * 1) % 2 ^ 3 : Nat) : Int), ((R / 2 ^ (3 * 2) % 2 ^ 3 : Nat) : Int), ((R / 2 ^ (3 * 3) % 2 ^ 3 : Nat) : Int)] = _
  rfl
theorem four_vs {vs : List Value} {R : Nat} (h : IntsAre vs (digs 3 4 R)) : ∃ t0 t1 t2 t3, vs = [.int ((fig R 0 : Nat) : Int) t0, .int ((fig R 1 : Nat) : Int) t1, .int ((fig R 2 : Nat) : Int) t2, .int ((fig R 3 : Nat) : Int) t3] := by
  rw [digs4] at h
  obtain ⟨t0, v0, e0, h1⟩ := ints_cons h
  obtain ⟨t1, v1, e1, h2⟩ := ints_cons h1
  obtain ⟨t2, v2, e2, h3⟩ := ints_cons h2
  obtain ⟨t3, v3, e3, h4⟩ := ints_cons h3
  have e4 := ints_nil h4
  subst e4 e3 e2 e1 e0
  exact ⟨t0, t1, t2, t3, rfl⟩
/-- the row of Pascal's triangle as _int2digits tells it -/
def lineOf (f : Nat) : List Int := digs 6 (f + 1) (65 ^ f)
def entOf (f p : Nat) : Int := if p < f + 1 then (lineOf f).getD p 0 else 0
def oddOf (f : Nat) : Nat := ((lineOf f).filter fun x => decide (x.fmod 2 = 1)).length
theorem line_len (f : Nat) : (lineOf f).length = f + 1 := digs_len _ _ _
theorem and_lt {a b : Nat} (hb : b < 4096) : a &&& b < 4096 := Nat.lt_of_le_of_lt Nat.and_le_right hb
theorem ints_get {vs : List Value} {xs : List Int} (h : IntsAre vs xs) {i : Nat} (hi : i < xs.length) : ∃ t, vs[i]? = some (.int (xs.getD i 0) t) := by
  induction h generalizing i with
  | nil => simp at hi
  | cons _ t q ih =>
    cases i with
    | zero => exact ⟨t, rfl⟩
    | succ i => obtain ⟨t', e⟩ := ih (by simpa using hi); exact ⟨t', by simpa using e⟩
theorem rot10 {g h : Heap} {L : Addr} {a b c d e f i j k l : Addr × Obj} (N : News g L h [a, b, c, d, e, f, i, j, k, l]) : News g L h (l :: [a, b, c, d, e, f, i, j, k]) :=
  N.perm (by intro p; simp only [List.mem_cons, List.not_mem_nil, or_false]; grind)
def AllNot (d : Nat) : List (Addr × Obj) → Prop
  | [] => True
  | p :: r => @Ne Nat p.1 d ∧ AllNot d r
theorem ne_all {d : Nat} : ∀ {l : List (Addr × Obj)}, AllNot d l → ∀ p ∈ l, p.1 ≠ d
  | [], _, _, h => nomatch h
  | q :: r, a, p, h => by
    rcases List.mem_cons.mp h with rfl | h
    · exact a.1
    · exact ne_all a.2 p h
theorem size4 {a b c d : Value} : (#[a, b, c, d] : Array Value).size ≤ sizeLine := Nat.le_trans (show 4 ≤ 100 by decide) (by rw [sizeLine_eq]; decide)
theorem off_push {I C D E : Addr} {oI oC oD x : Obj} {old : List (Addr × Obj)} (hz : AllLt E ((I, oI) :: (C, oC) :: (D, oD) :: old)) (off : LCg.Off3 I C D old) : LCg.Off3 I C D ((E, x) :: old) :=
  ⟨⟨Nat.ne_of_gt hz.1, Nat.ne_of_gt hz.2.1, Nat.ne_of_gt hz.2.2.1⟩, off⟩
theorem rot3 {a b c d : Addr × Obj} {old : List (Addr × Obj)} : ∀ p ∈ a :: b :: c :: d :: old, p ∈ d :: a :: b :: c :: old := by
  intro p hp
  simp only [List.mem_cons] at hp ⊢
  grind
theorem restG_inv {prog : Program} {w : World} {A : Around} {s : Shared} {h₀ : Heap} {L : Addr} {m : Str → Option Value} {env : Env} {elt : PySem.Expr} {x : Str} {scope : PySem.Scope} {cl : List (Str × Addr)} {S : List (Addr × Obj) → Prop} {P : Nat → Value → Prop} {Fin : List Value → List (Addr × Obj) → Prop} {n : Nat} {news₀ : List (Addr × Obj)} (J : Nat → List Value → List (Addr × Obj) → Prop) (h0 : J 0 [] news₀)
    (turn : ∀ i ys news v I oI C oC D m₂ h tk (E' : Value → Shared → Prop), i < n → J i ys news → P i v → LCg.NsObj oC m₂ → m₂ x = some v → Fr h₀ L h m → News h₀ L h ((I, oI) :: (C, oC) :: (D, LCg.lst ys) :: news) → LCg.Off3 I C D news → ((@Ne Nat I C) ∧ (@Ne Nat I D) ∧ (@Ne Nat C D)) →
      wpAny (model prog w) A (eval elt (compEnvC scope cl C env)) (LCg.CompEnd h₀ L m { s with heap := h, toks := tk } I oI C oC D (LCg.lst ys) S (fun y news' => J (i + 1) (ys ++ [y]) news')) E' { s with heap := h, toks := tk })
    (fin : ∀ ys news, J n ys news → Fin ys news) : LCg.CompRest prog w A h₀ L m env elt x scope cl s S P Fin n 0 [] news₀ := by
  have key : ∀ k i ys news, i + k = n → J i ys news → LCg.CompRest prog w A h₀ L m env elt x scope cl s S P Fin k i ys news := by
    intro k
    induction k with
    | zero => intro i ys news e hJ; exact LCg.CompRest.zero (fin ys news (by have : i = n := by omega
                                                                             rw [← this]; exact hJ))
    | succ k ih =>
      intro i ys news e hJ
      refine LCg.CompRest.succ fun v I oI C oC D m₂ h tk E' hP hC hx F N off ne => ?_
      refine wpAny_mono (turn i ys news v I oI C oC D m₂ h tk E' (by omega) hJ hP hC hx F N off ne) (fun y s₂ h₂ => ?_) fun _ _ e => e
      obtain ⟨h9, tk', news', rfl, F', N', off', hS, hJ'⟩ := h₂
      exact ⟨h9, tk', news', rfl, F', N', off', hS, ih _ _ _ (by omega) hJ'⟩
  exact key n 0 [] news₀ (by omega) h0
inductive Lines (R : Nat) (n₀ : List (Addr × Obj)) : Nat → List Value → List (Addr × Obj) → Prop
  | nil : Lines R n₀ 0 [] []
  | snoc {i : Nat} {ys : List Value} {ls : List (Addr × Obj)} (h : Lines R n₀ i ys ls) (D : Nat) (vs : List Value) (cnt : Nat) (hv : IntsAre vs (lineOf (fig R i))) (hn : AllLt D (ls ++ n₀)) : Lines R n₀ (i + 1) (ys ++ [.ref D]) ((D, W.listOf vs.toArray cnt) :: ls)
def JL (R : Nat) (news₀ : List (Addr × Obj)) (i : Nat) (ys : List Value) (news : List (Addr × Obj)) : Prop := ∃ ls, news = ls ++ news₀ ∧ Lines R news₀ i ys ls
theorem JL_next {R : Nat} {news₀ news : List (Addr × Obj)} {i : Nat} {ys : List Value} {D cnt : Nat} {vs : List Value} (h : JL R news₀ i ys news) (hv : IntsAre vs (lineOf (fig R i))) (hn : AllLt D news) : JL R news₀ (i + 1) (ys ++ [.ref D]) ((D, W.listOf vs.toArray cnt) :: news) := by
  obtain ⟨ls, rfl, hl⟩ := h
  exact ⟨_, rfl, .snoc hl D vs cnt hv hn⟩
theorem JL_mem {R : Nat} {news₀ news : List (Addr × Obj)} {i : Nat} {ys : List Value} (h : JL R news₀ i ys news) {p : Addr × Obj} (hp : p ∈ news₀) : p ∈ news := by
  obtain ⟨ls, rfl, _⟩ := h
  exact List.mem_append_right _ hp
theorem lines4 {R : Nat} {ys : List Value} {ls : List (Addr × Obj)} {n₀ : List (Addr × Obj)} (h : Lines R n₀ 4 ys ls) : ∃ (a b c d : Nat) (v0 v1 v2 v3 : List Value) (k0 k1 k2 k3 : Nat), ys = [.ref a, .ref b, .ref c, .ref d] ∧ ls = [(d, W.listOf v3.toArray k3), (c, W.listOf v2.toArray k2), (b, W.listOf v1.toArray k1), (a, W.listOf v0.toArray k0)] ∧
    IntsAre v0 (lineOf (fig R 0)) ∧ IntsAre v1 (lineOf (fig R 1)) ∧ IntsAre v2 (lineOf (fig R 2)) ∧ IntsAre v3 (lineOf (fig R 3)) ∧
    AllLt a n₀ ∧ AllLt b ((a, W.listOf v0.toArray k0) :: n₀) ∧ AllLt c ((b, W.listOf v1.toArray k1) :: (a, W.listOf v0.toArray k0) :: n₀) ∧ AllLt d ((c, W.listOf v2.toArray k2) :: (b, W.listOf v1.toArray k1) :: (a, W.listOf v0.toArray k0) :: n₀) := by
  cases h with
  | snoc h d v3 k3 i3 n3 =>
    cases h with
    | snoc h c v2 k2 i2 n2 =>
      cases h with
      | snoc h b v1 k1 i1 n1 =>
        cases h with
        | snoc h a v0 k0 i0 n0 =>
          cases h with
          | nil => exact ⟨a, b, c, d, v0, v1, v2, v3, k0, k1, k2, k3, rfl, rfl, i0, i1, i2, i3, n0, n1, n2, n3⟩
theorem fig_at {R i : Nat} {t0 t1 t2 t3 : Tok} {v : Value} (hi : i < 4) (h : (#[Value.int ((fig R 0 : Nat) : Int) t0, Value.int ((fig R 1 : Nat) : Int) t1, Value.int ((fig R 2 : Nat) : Int) t2, Value.int ((fig R 3 : Nat) : Int) t3] : Array Value)[i]? = some v) : ∃ t, v = .int ((fig R i : Nat) : Int) t := by
  match i, hi with
  | 0, _ => exact ⟨t0, (Option.some.inj h).symm⟩
  | 1, _ => exact ⟨t1, (Option.some.inj h).symm⟩
  | 2, _ => exact ⟨t2, (Option.some.inj h).symm⟩
  | 3, _ => exact ⟨t3, (Option.some.inj h).symm⟩
theorem srcAt_mem {h₀ : Heap} {ax : Addr} {its : Array Value} {n : Nat} {news : List (Addr × Obj)} (hm : (ax, W.listOf its n) ∈ news) : LCg.SrcAt h₀ ax its news := .inr ⟨_, hm, rfl, _, rfl⟩
theorem name_R {vs : List Value} {R : Nat} (h : IntsAre vs (digs 3 4 R)) : ∃ q : Nat, q = R ∧ IntsAre vs (digs 3 4 q) := ⟨R, rfl, h⟩
theorem news_ne {g h : Heap} {L : Addr} {a b : Nat} {o1 o2 : Obj} {news : List (Addr × Obj)} (N : News g L h news) (h1 : (a, o1) ∈ news) (h2 : (b, o2) ∈ news) (hne : o1.data ≠ o2.data) : @Ne Nat a b := fun e => by
  have q1 := (N _ h1).1
  have q2 := (N _ h2).1
  dsimp only at q1 q2
  rw [e, q2] at q1
  cases q1; exact hne rfl
def ents (R W : Nat) : List Int := [entOf (fig R 0) (fig W 0), entOf (fig R 1) (fig W 1), entOf (fig R 2) (fig W 2), entOf (fig R 3) (fig W 3)]
theorem ents_push {R W i : Nat} {ys : List Value} {x : Int} {t : Tok} (h : IntsAre ys ((ents R W).take i)) (hi : i < 4) (hx : x = entOf (fig R i) (fig W i)) : IntsAre (ys ++ [.int x t]) ((ents R W).take (i + 1)) := by
  have e : (ents R W).take (i + 1) = (ents R W).take i ++ [x] := by
    subst hx
    match i, hi with
    | 0, _ => rfl
    | 1, _ => rfl
    | 2, _ => rfl
    | 3, _ => rfl
  rw [e]; exact ints_push h
theorem line_vs {vs : List Value} {f : Nat} (h : IntsAre vs (lineOf f)) : vs.length = f + 1 := by
  have e := IntsAre.length h
  rw [line_len] at e; exact e
theorem ent_yes {f p : Nat} (h : p < f + 1) : (lineOf f).getD p 0 = entOf f p := by unfold entOf; rw [if_pos h]
theorem ent_no {f p : Nat} (h : ¬ p < f + 1) : (0 : Int) = entOf f p := by unfold entOf; rw [if_neg h]
theorem line_get {vs : List Value} {f p : Nat} (h : IntsAre vs (lineOf f)) (hp : p < f + 1) : ∃ t, vs[p]? = some (.int (entOf f p) t) := by
  obtain ⟨t, e⟩ := ints_get h (show p < (lineOf f).length by rw [line_len]; exact hp)
  exact ⟨t, by rw [e, ent_yes hp]⟩
end Mine
end
section
open PySem PySem.Spec PySem.Calls PyProof.Rows PyProof.Rows.LCt PyProof.Rows.LCg
namespace Mine
/-- a comprehension's source that is a text -/
def SrcX (prog : Program) (w : World) (A : Around) (h₀ : Heap) (L : Addr) (m : Str → Option Value) (env : Env) (ct elt : Expr) (x : Str) (scope : Scope) (cl : List (Str × Addr)) (Fin : Shared → List Value → List (Addr × Obj) → Prop) (xv : Value) (s₁ : Shared) : Prop :=
  ∃ tx t news, xv = .str tx t ∧ A.handled = none ∧ Fr h₀ L s₁.heap m ∧ News h₀ L s₁.heap news ∧ tx.cps.size ≤ sizeLine ∧
    ∀ s₂ : Shared, (∃ h, s₂ = { s₁ with heap := h }) → CompRestT prog w A h₀ L m env ct elt x scope cl s₂ (fun _ => True) (SignAt tx) (Fin s₂) tx.cps.size 0 [] news
section
variable {prog : Program} {w : World} {A : Around} {E : Value → Shared → Prop} {s : Shared} {h₀ : Heap} {L : Addr} {m : Str → Option Value} {env : Env}
theorem text_st {I : Addr} {ty : String} {x : Str} {t : Tok} : ∀ i (h h' : Heap) (o : Obj) (nw : List (Addr × Obj)), h.IsStrIter I ty x t i → h.get? I = some o → h'.get? I = some o → (∀ b o, h₀.get? b = some o → h'.get? b = some o) → News h₀ L h' nw → True → h'.IsStrIter I ty x t i :=
  fun i h h' o nw st e e' _ _ _ => by
    obtain ⟨o', q, r⟩ := st
    rw [e] at q; cases q
    exact ⟨o, e', r⟩
theorem listComp_X {ct elt iter : Expr} {x : Str} {px : Pos} {scope : Scope} {cl : List (Str × Addr)} {pos : Pos} {Q : Value → Shared → Prop} (F₀ : Fr h₀ L s.heap m)
    (hclos : closureFor scope env = pure cl) (hcell : ∀ y ∈ scope.names, y.2 ≠ .cell) (hkind : scope.kind = .function)
    (hnames : ∀ y ∈ scope.names, y.2 = .local → scope.names.lookup y.1 = some .local) (hx : scope.names.lookup x = some .local)
    (h : wpAny (model prog w) A (eval iter env) (SrcX prog w A h₀ L m env ct elt x scope cl (fun s₂ => FinE h₀ L m s₂ Q)) E s)
    (hs : ∀ x, foldedSetIterable iter env x = pure x := by intro _; rfl) :
    wpAny (model prog w) A (eval (.ListComp elt [⟨.Name x px, iter, [ct], 0⟩] scope pos) env) Q E s := by
  rw [eval_ListComp]
  refine wpAny_comprehension_free (use := none) rfl hs hclos hkind hnames (wpAny_mono h (fun xv s₁ h₁ => ?_) fun _ _ e => e)
  obtain ⟨tx, t, news, rfl, hh, F, N, hsz, R⟩ := h₁
  cases ha : tx.cps.all (· < 128)
  · refine wpAny_pyIter_wide ha ?_
    refine block_T (Walks.strWide hh _ tx t) hsz (fun i h st => by obtain ⟨o, e, _⟩ := st; exact ⟨o, e⟩) text_st hcell hkind hx ⟨_, Heap.get?_push_size _ rfl, rfl, rfl⟩ (fun b hb => ?_)
      (F.keeps fun _ _ e => Heap.get?_push_of_some _ e) (N.grown fun _ _ e => Heap.get?_push_of_some _ e) (Nat.ne_of_lt F.ns.lt) (next_is_new F) (fun p hp => Nat.ne_of_lt (Heap.lt_size (N p hp).1)) trivial (R _ ⟨_, rfl⟩) ?_
    · rw [List.mem_singleton.mp hb]
      show s₁.heap.objs.size < (s₁.heap.push _).objs.size
      rw [Heap.size_push]; exact Nat.lt_succ_self _
    · intro D C h tk m' ys news' F' N' o1 hn hC₀ hD₀ hCL hDL hCD offC fin
      refine ⟨m', hn, fun h'' hs'' => fin D h'' tk (F'.change hs'' hCL hC₀) (fun p hp => ?_) o1⟩
      refine ⟨hs''.extBut _ _ ?_ (N' p hp).1, (N' p hp).2⟩
      rcases List.mem_cons.mp hp with rfl | hp
      · exact Ne.symm hCD
      · exact offC p hp
  · refine wpAny_pyIter_ascii ha ?_
    refine block_T (Walks.strAscii hh _ tx t) hsz (fun i h st => by obtain ⟨o, e, _⟩ := st; exact ⟨o, e⟩) text_st hcell hkind hx ⟨_, Heap.get?_push_size _ rfl, rfl, rfl⟩ (fun b hb => ?_)
      (F.keeps fun _ _ e => Heap.get?_push_of_some _ e) (N.grown fun _ _ e => Heap.get?_push_of_some _ e) (Nat.ne_of_lt F.ns.lt) (next_is_new F) (fun p hp => Nat.ne_of_lt (Heap.lt_size (N p hp).1)) trivial (R _ ⟨_, rfl⟩) ?_
    · rw [List.mem_singleton.mp hb]
      show s₁.heap.objs.size < (s₁.heap.push _).objs.size
      rw [Heap.size_push]; exact Nat.lt_succ_self _
    · intro D C h tk m' ys news' F' N' o1 hn hC₀ hD₀ hCL hDL hCD offC fin
      refine ⟨m', hn, fun h'' hs'' => fin D h'' tk (F'.change hs'' hCL hC₀) (fun p hp => ?_) o1⟩
      refine ⟨hs''.extBut _ _ ?_ (N' p hp).1, (N' p hp).2⟩
      rcases List.mem_cons.mp hp with rfl | hp
      · exact Ne.symm hCD
      · exact offC p hp
end
end Mine
end
section
open PySem PySem.W PyProof.Rows PySem.Calls
namespace Mine
theorem slice_at {P pre l post : List Nat} {i j : Int} (hP : P = pre ++ (l ++ post)) (hi : i = (pre.length : Int)) (hj : j = ((pre.length + l.length : Nat) : Int)) : Txt.slice (S P) (some i) (some j) = S l := by
  subst hi hj hP
  rw [sl_mid ⟨by omega, by omega, by simp only [List.length_append]; omega⟩]
  congr 1
  rw [Int.toNat_natCast, List.drop_left]
  have e : (((pre.length + l.length : Nat) : Int) - (pre.length : Int)).toNat = l.length := by omega
  rw [e, List.take_left]
section
variable {prog : Program} {w : World} {A : Around} {E : Value → Shared → Prop} {s : Shared} {value slice : PySem.Expr} {P l : List Nat} {t : Tok} {h₀ : Heap} {L : Addr} {m : Str → Option Value} {news : List (Addr × Obj)} {Q : Value → Shared → Prop}
theorem slice_S {i j : Int} {ui uj : Tok} (hF : Fr h₀ L s.heap m) (hN : News h₀ L s.heap news) (hn : P.length ≤ 1000) (he : Txt.slice (S P) (some i) (some j) = S l)
    (h : ∀ h' t' k, Fr h₀ L h' m → News h₀ L h' news → Q (.str (S l) t') { s with heap := h', toks := k })
    (hs : subscripted slice false (.str (S P) t) (.ref s.heap.objs.size) = operate [.ref s.heap.objs.size, .str (S P) t] (getItem (.str (S P) t) (.ref s.heap.objs.size)) := by with_unfolding_all rfl)
    (ht : ∀ r, letTemporaryGo value (.str (S P) t) r = pure () := by intro _; with_unfolding_all rfl) :
    wpAny (model prog w) A (subscriptTail value slice (.str (S P) t) (.ref s.heap.objs.size)) Q E { s with heap := s.heap.push { cls := .type "slice", data := .fields #[.int i ui, .int j uj, .none] } } :=
  slice_strN_ss hF hN (by rw [he]; exact h) hs ht (by rw [S_len]; exact Nat.le_trans hn (by rw [sizeLine_eq]; decide))
theorem slice_S1 {i : Int} {ui : Tok} (hF : Fr h₀ L s.heap m) (hN : News h₀ L s.heap news) (hn : P.length ≤ 1000) (he : Txt.slice (S P) (some i) none = S l)
    (h : ∀ h' t' k, Fr h₀ L h' m → News h₀ L h' news → Q (.str (S l) t') { s with heap := h', toks := k })
    (hs : subscripted slice false (.str (S P) t) (.ref s.heap.objs.size) = operate [.ref s.heap.objs.size, .str (S P) t] (getItem (.str (S P) t) (.ref s.heap.objs.size)) := by with_unfolding_all rfl)
    (ht : ∀ r, letTemporaryGo value (.str (S P) t) r = pure () := by intro _; with_unfolding_all rfl) :
    wpAny (model prog w) A (subscriptTail value slice (.str (S P) t) (.ref s.heap.objs.size)) Q E { s with heap := s.heap.push { cls := .type "slice", data := .fields #[.int i ui, .none, .none] } } :=
  slice_strN_sn hF hN (by rw [he]; exact h) hs ht (by rw [S_len]; exact Nat.le_trans hn (by rw [sizeLine_eq]; decide))
theorem notin_S {u : Tok} {b : Bool} (hb : decide (45 ∈ l) = b) (h : Q (.bool (!b)) s) : wpAny (model prog w) A (compareOp .NotIn (.str (Str.ofString "-") u) (.str (S l) t)) Q E s := by
  refine PyProof.Rows.notIn_str ?_
  rw [lit_d, in_one, hb]; exact h
theorem repl_S {u v : Tok} {y z : Str} {r : List Nat} (hu : u ≠ 0) (hv : v ≠ 0) (huv : u ≠ v) (hyz : (y == z) = false) (hx : l.length ≤ 1000) (hz : z.length ≤ 14) (he : Txt.replace (S l) y z = S r)
    (hq : ∀ t' k, Q (.str (S r) t') { s with toks := k }) : wpAny (model prog w) A (call (.builtin "str.replace") [.str (S l) t, .str y u, .str z v]) Q E s :=
  SC.replaceW hu hv huv hyz (by rw [S_len]; omega) hz (by rw [he]; exact hq)
theorem repl_none {x y z : Str} {u v : Tok} (he : ((Builtin.Str.occurrences x y 0 x.length (x.length + 1)).isEmpty || (y.length == 0 && z.length == 0)) = true) (h : Q (.str x t) s) :
    wpAny (model prog w) A (call (.builtin "str.replace") [.str x t, .str y u, .str z v]) Q E s := by
  refine call_gives F.slot_str_replace (typeIs_str _ _ _) F.entry_str_replace (F.args_str_replace_3 _ _ _) (gives_str_replace x y z t u v fun hf => absurd (he.symm.trans hf) (by decide)) ?_
  rw [he]
  simp only [if_true]
  exact h
theorem sub_K {f : Addr} {d : Option Addr} {dt : Data} {sl : Array (Option Value)} (F : Fr h₀ L s.heap m) (N : News h₀ L s.heap news) (X : (hd.heap_39 w.params).In h₀) (hm : (f, (⟨.type "function", d, dt, sl⟩ : Obj)) ∈ news) (hl : l ∈ stuffs)
    (h : ∀ h' t' k, Fr h₀ L h' m → News h₀ L h' news → Q (.str (S l) t') { s with heap := h', toks := k }) :
    wpAny (model PySem.Challenge.rw_ik0122_01.row.prog w) A (call (.builtin "re.Pattern.sub") [.ref 43, .ref f, .str (S l) t]) Q E s :=
  sub_call hl (X.keeps F.keep) (N _ hm).1 fun h' t' k hk => h h' t' k (F.keeps hk) (N.keepsAll hk)
theorem tr_K {c : Nat} (F : Fr h₀ L s.heap m) (N : News h₀ L s.heap news) (X : (hd.heap_39 w.params).In h₀) (hc : c ∈ [45, 114, 119, 115, 116]) (hh : A.handled = none)
    (h : ∀ h' t' k, Fr h₀ L h' m → News h₀ L h' news → Q (.str (S (escL c)) t') { s with heap := h', toks := k }) :
    wpAny (model prog w) A (call (.builtin "str.translate") [.str (S [c]) t, .ref 52]) Q E s :=
  tr_call hc (X.keeps F.keep) hh fun h' t' k hk => h h' t' k (F.keeps hk) (N.keepsAll hk)
end
end Mine
end
section
open PySem PySem.W PyProof.Rows PySem.Calls
namespace Mine
theorem pat_plain : PlainAttrs "re.Pattern" :=
  ⟨⟨"object.__getattribute__", by rw [typeLookup_type, builtinLookup_eq_fast]; kernel_rfl, by decide +kernel⟩, by rw [typeLookup_type, builtinLookup_eq_fast]; kernel_rfl⟩
theorem pat_slot : Slot "re.Pattern" (Str.ofString "sub") "re.Pattern.sub" :=
  .of (owner := "re.Pattern") (n := "sub") (by rw [typeLookup_type, builtinLookup_eq_fast]; kernel_rfl) (by decide +kernel) (by decide +kernel) (by decide +kernel)
    (by first | exact .inl (by decide +kernel) | exact .inr (by decide +kernel)) (by rw [isSubtype_type]; kernel_rfl)
theorem pat_type : typeOf (.builtin "re.Pattern.sub") = pure (.type "method_descriptor") := by show builtinType _ = _; rw [builtinType_eq_fast]; kernel_rfl
theorem pat_sub {w : World} {M : Model} {A : Around} {E : Value → Shared → Prop} {s : Shared} {h₀ : Heap} {L : Addr} {m : Str → Option Value} {pl : Sem Bool} {Q : Value × List Value → Shared → Prop}
    (F : Fr h₀ L s.heap m) (X : (hd.heap_39 w.params).In h₀) (h : Q (.builtin "re.Pattern.sub", [.ref 43]) s) : wpAny M A (getMethod (.ref 43) (Str.ofString "sub") pl) Q E s := by
  have ho := F.keep 43 _ (X 43 _ rfl)
  exact getMethod_builtin ⟨_, ho, rfl⟩ pat_plain pat_slot pat_type (fun a e => by injection e with e; subst e; exact ⟨_, ho, rfl⟩) h
end Mine
end
section
open PySem PySem.W PyProof.Rows PySem.Calls PySem.Builtin PySem.Builtin.Str
namespace Mine
theorem occ_none {x y : Str} {lo hi : Nat} (hy : 1 ≤ y.length) (h : hi ≤ lo) : occurrences x y lo hi 1 = [] := by
  rw [StrLaws.occ_eq]
  rcases StrLaws.occ_first x y hi 1 (Nat.le_refl 1) (List.range' lo (hi + 1 - lo)) lo (fun i hi => by have := List.mem_range'_1.mp hi; omega) with ⟨h0, hn⟩ | ⟨pre, a, post, e, h0, ha, hn⟩
  · rw [h0]
  · exfalso
    have hm : a ∈ List.range' lo (hi + 1 - lo) := by rw [e]; simp
    have := List.mem_range'_1.mp hm
    have := ha.1
    omega
theorem occ_here {x y : Str} {lo hi : Nat} (hl : lo ≤ hi) (h : StrLaws.At x y hi lo) : ∃ r, occurrences x y lo hi 1 = lo :: r := by
  rw [StrLaws.occ_eq]
  rcases StrLaws.occ_first x y hi 1 (Nat.le_refl 1) (List.range' lo (hi + 1 - lo)) lo (fun i hi => by have := List.mem_range'_1.mp hi; omega) with ⟨h0, hn⟩ | ⟨pre, a, post, e, h0, ha, hn⟩
  · exact absurd h (hn lo (by rw [List.mem_range'_1]; omega))
  · have hs := StrLaws.range'_split_from e
    have e2 : a = lo := by
      rcases Nat.lt_or_ge lo a with q | q
      · exact absurd h (hn lo (hs.2 lo (Nat.le_refl _) q))
      · omega
    subst e2
    generalize (forIn (List.range' a (hi + 1 - a)) ((#[] : Array Nat), a) (StrLaws.occBody x y hi 1)).run.fst = arr at h0
    have h1 : arr.toList[0]? = some a := by simpa using h0
    cases hL : arr.toList with
    | nil => rw [hL] at h1; cases h1
    | cons b t => rw [hL] at h1; simp at h1; exact ⟨t, by rw [h1]⟩
theorem gives_find4 (x y : Str) (i j : Int) (t u v z : Tok) : Gives («str.find» ⟨[.str x t, .str y u, .int i v, .int j z], []⟩) (.int (match occurrences x y (fromIndex x.length i) (min (fromIndex x.length j) x.length) 1 with | k :: _ => (k : Int) | [] => -1)) := by
  show Gives (match occurrences x y (fromIndex x.length i) (min (fromIndex x.length j) x.length) 1 with | k :: _ => retInt k | [] => (do rule "str.find.not-found"; retInt (-1))) _
  cases occurrences x y (fromIndex x.length i) (min (fromIndex x.length j) x.length) 1 with
  | nil => exact .rule (.of_eq rfl)
  | cons k _ => exact .of_eq rfl
theorem from_nat (n : Nat) {i : Int} {a : Nat} (h : i = (a : Int)) : fromIndex n i = a := by
  subst h; unfold fromIndex; omega
section
variable {prog : Program} {w : World} {A : Around} {E : Value → Shared → Prop} {s : Shared} {t u v z : Tok} {i j : Int} {l : List Nat} {Q : Value → Shared → Prop}
theorem find_no {y : Str} (hy : 1 ≤ y.length) (hi : 0 ≤ i) (hj : 0 ≤ j) (hij : j ≤ i) (h : Q (.int (-1) s.toks) { s with toks := s.toks + 1 }) :
    wpAny (model prog w) A (call (.builtin "str.find") [.str (S l) t, .str y u, .int i v, .int j z]) Q E s := by
  refine call_gives F.slot_str_find (typeIs_str _ _ _) F.entry_str_find (F.args_str_find_4 _ _ _ _) (gives_find4 (S l) y i j t u v z) ?_
  rw [from_nat _ (a := i.toNat) (by omega), from_nat _ (a := j.toNat) (by omega), occ_none hy (by omega)]
  exact h
theorem find_yes {k : Nat} (hi : i = (k : Int)) (hj : i < j) (hjl : j ≤ l.length) (hk : l[k]? = some 45) (h : Q (.int i s.toks) { s with toks := s.toks + 1 }) :
    wpAny (model prog w) A (call (.builtin "str.find") [.str (S l) t, .str (Str.ofString "-") u, .int i v, .int j z]) Q E s := by
  refine call_gives F.slot_str_find (typeIs_str _ _ _) F.entry_str_find (F.args_str_find_4 _ _ _ _) (gives_find4 (S l) (Str.ofString "-") i j t u v z) ?_
  have hat : StrLaws.At (S l) (S [45]) (min j.toNat l.length) k := by
    refine ⟨?_, ?_⟩
    · rw [S_len]; simp only [List.length_cons, List.length_nil]; omega
    · exact ((StrLaws.subAt_one (S l) 45 k).mpr (by simpa [S] using hk)).2
  obtain ⟨r, e⟩ := occ_here (by omega) hat
  rw [from_nat _ (a := k) (by omega), from_nat _ (a := j.toNat) (by omega), S_len, lit_d, e]
  subst hi
  exact h
end
end Mine
end
section
open PySem PySem.W PyProof.Rows PySem.Calls
namespace Mine
section
variable {prog : Program} {w : World} {A : Around} {E : Value → Shared → Prop} {s : Shared} {env : Env}
theorem elt_repl {x : Str} {px p1 p2 p3 p4 q1 q2 q3 q4 : Pos} {b1 b2 : Str} {n1 n2 n3 n4 : Nat} {l r : List Nat} {u : Tok} {pl1 pl2 : Sem Bool}
    (hx : ∀ {Q : Value → Shared → Prop}, Q (.str (S l) u) s → wpAny (model prog w) A (eval (.Name x px) env) Q E s) (hl : l.length ≤ 1000)
    (hno : ((Builtin.Str.occurrences (S l) b1 0 (S l).length ((S l).length + 1)).isEmpty || (b1.length == 0 && b2.length == 0)) = true)
    (hr : Txt.replace (S l) (Str.ofString "-") (Str.ofString "\\-") = S r)
    (he1 : eval (.Call (.Attribute (.Call (.Attribute (.Name x px) "replace" p1) [.Constant (.str b1) n1 q1, .Constant (.str b2) n2 q2] [] p2) "replace" p3) [.Constant (.str (Str.ofString "-")) n3 q3, .Constant (.str (Str.ofString "\\-")) n4 q4] [] p4) env = (do
      let ov ← eval (.Call (.Attribute (.Name x px) "replace" p1) [.Constant (.str b1) n1 q1, .Constant (.str b2) n2 q2] [] p2) env
      standAt p3.atName
      let (f, first) ← holding [ov] (getMethod ov "replace" pl1)
      callWith p4 f first (backTo p4 (starEach [.Constant (.str (Str.ofString "-")) n3 q3, .Constant (.str (Str.ofString "\\-")) n4 q4] env)) []))
    (he2 : eval (.Call (.Attribute (.Name x px) "replace" p1) [.Constant (.str b1) n1 q1, .Constant (.str b2) n2 q2] [] p2) env = (do
      let ov ← eval (.Name x px) env
      standAt p1.atName
      let (f, first) ← holding [ov] (getMethod ov "replace" pl2)
      callWith p2 f first (backTo p2 (starEach [.Constant (.str b1) n1 q1, .Constant (.str b2) n2 q2] env)) [])) :
    wpAny (model prog w) A (eval (.Call (.Attribute (.Call (.Attribute (.Name x px) "replace" p1) [.Constant (.str b1) n1 q1, .Constant (.str b2) n2 q2] [] p2) "replace" p3) [.Constant (.str (Str.ofString "-")) n3 q3, .Constant (.str (Str.ofString "\\-")) n4 q4] [] p4) env)
      (fun v s₃ => (∃ u, v = .str (S r) u) ∧ Keeps s s₃) E s := by
  refine MethodCall_ ?_ he1
  refine MethodCall_ ?_ he2
  refine hx ?_
  refine GM.replace ?_
  refine callWith_method1 ?_
  refine spliced_cons ?_
  refine Constant_str (k := n1) (pos := q1) ?_
  refine spliced_cons ?_
  refine Constant_str (k := n2) (pos := q2) ?_
  refine spliced_nil ?_
  refine repl_none hno ?_
  refine GM.replace ?_
  refine callWith_method1 ?_
  refine spliced_cons ?_
  refine Constant_str (k := n3) (pos := q3) ?_
  refine spliced_cons ?_
  refine Constant_str (k := n4) (pos := q4) ?_
  refine spliced_nil ?_
  refine repl_S (by simp) (by simp) (by simp) (by decide +kernel) hl (by decide +kernel) hr ?_
  intro t' k
  exact ⟨⟨_, rfl⟩, s.heap, k, rfl, fun _ _ e => e⟩
theorem join_S {h₀ : Heap} {L : Addr} {m : Str → Option Value} {news : List (Addr × Obj)} {sep : Str} {l : List Nat} {t : Tok} {a Kb : Addr} {Q : Value → Shared → Prop} (F : Fr h₀ L s.heap m) (N : News h₀ L s.heap news) (G : AllBare s.gens) (X : GenOne prog w A Kb a (S l) s) (hL : L ≤ Kb) (hN : ∀ q ∈ news, q.1 ≤ Kb) (hz : JoinOk sep [S l] = true)
    (h : ∀ s' t', Fr h₀ L s'.heap m → News h₀ L s'.heap news → AllBare s'.gens → s'.os = s.os → Q (.str (S l) t') s') :
    wpAny (model prog w) A (call (.builtin "str.join") [.str sep t, .ref a]) Q E s :=
  join_one F N G X hL hN hz fun s' t' F' N' G' ho => by
    have e : Txt.join sep [S l] = S l := rfl
    rw [e]; exact h s' t' F' N' G' ho
end
end Mine
end
section
open PySem PySem.W PyProof.Rows PySem.Calls
namespace Mine
theorem tks_len {a b : List (List Nat)} (h : Tks a b) : a.length = b.length := by
  induction h with
  | nil => rfl
  | cons _ _ ih => simp [ih]
section
variable {prog : Program} {w : World} {A : Around} {E : Value → Shared → Prop} {s : Shared} {h₀ : Heap} {L : Addr} {m : Str → Option Value} {news : List (Addr × Obj)} {Q : Value → Shared → Prop}
theorem obj_K (F : Fr h₀ L s.heap m) (N : News h₀ L s.heap news) (X : (hd.heap_39 w.params).In h₀)
    (h : ∀ a h' tk', Fr h₀ L h' m → News h₀ L h' ((a, objPlain) :: news) → (∀ q ∈ news, q.1 ≠ a) → Q (.ref a) { s with heap := h', toks := tk' }) :
    wpAny (model PySem.Challenge.rw_ik0122_01.row.prog w) A (call (.type "object") []) Q E s := by
  refine obj_call (X.keeps F.keep) fun a h' tk' hk ha hn => ?_
  refine h a h' tk' (F.keeps hk) (fun q hq => ?_) fun q hq e => ?_
  · rcases List.mem_cons.mp hq with rfl | hq
    · refine ⟨ha, fun e => ?_, ?_⟩
      · obtain ⟨oL, _, _, hL, _⟩ := F.ns
        dsimp only at e
        rw [e, hL] at hn; cases hn
      · cases hq : h₀.get? a with
        | none => rfl
        | some o' =>
          have := F.keep _ _ hq
          rw [this] at hn; cases hn
    · exact ⟨hk _ _ (N q hq).1, (N q hq).2⟩
  · have := (N q hq).1
    rw [e, hn] at this; cases this
end
end Mine
end
section
open PySem PySem.W PyProof.Rows
namespace Mine
def plains : List (Nat × List Nat) := [(108, []), (115, []), (98, []), (100, []), (99, []), (112, []), (63, []), (120, [115]), (83, [115]), (120, [116]), (84, [116])]
/-- what stands between brackets in a pattern, and what _translate makes of it -/
inductive Bk : List Nat → List Nat → Prop
  | plain (p : Nat × List Nat) (h : p ∈ plains) : Bk (p.1 :: p.2) (p.1 :: p.2)
  | dash : Bk [45] [92, 45]
  | dot (a : Nat) (h : a ∈ firsts) : Bk [a, 45] [a, 92, 45]
theorem tk_cases {tok o : List Nat} (h : Tk tok o) : (tok = [63] ∧ o = [46]) ∨ (∃ c, c ∈ singles ∧ tok = [c] ∧ o = escL c) ∨ ∃ bd ob, Bk bd ob ∧ tok = 91 :: (bd ++ [93]) ∧ o = 91 :: (ob ++ [93]) := by
  cases h with
  | q => exact .inl ⟨rfl, rfl⟩
  | one c h => exact .inr (.inl ⟨c, h, rfl, rfl⟩)
  | head a h => exact .inr (.inr ⟨[a], [a], .plain (a, []) ((by decide +kernel : ∀ a ∈ heads, (a, []) ∈ plains) a h), rfl, rfl⟩)
  | dash => exact .inr (.inr ⟨[45], [92, 45], .dash, rfl, rfl⟩)
  | two p h => exact .inr (.inr ⟨[p.1, p.2], [p.1, p.2], .plain (p.1, [p.2]) ((by decide +kernel : ∀ p ∈ pairsT, (p.1, [p.2]) ∈ plains) p h), rfl, rfl⟩)
  | dot a h => exact .inr (.inr ⟨[a, 45], [a, 92, 45], .dot a h, rfl, rfl⟩)
theorem bk_first {bd ob : List Nat} (h : Bk bd ob) : ∃ d tl, bd = d :: tl ∧ tl.length ≤ 1 ∧ (S [d] == Str.ofString "!") = false ∧ (S [d] == Str.ofString "]") = false ∧ ∀ c ∈ bd, (S [c] == Str.ofString "]") = false := by
  cases h with
  | plain p h =>
    obtain ⟨h1, h2, h3⟩ := (by decide +kernel : ∀ p ∈ plains, p.2.length ≤ 1 ∧ (S [p.1] == Str.ofString "!") = false ∧ ∀ c ∈ p.1 :: p.2, (S [c] == Str.ofString "]") = false) p h
    exact ⟨p.1, p.2, rfl, h1, h2, h3 _ (.head _), h3⟩
  | dash => exact ⟨45, [], rfl, Nat.zero_le _, by decide +kernel, by decide +kernel, by decide +kernel⟩
  | dot a h =>
    obtain ⟨h1, h3⟩ := (by decide +kernel : ∀ a ∈ firsts, (S [a] == Str.ofString "!") = false ∧ ∀ c ∈ [a, 45], (S [c] == Str.ofString "]") = false) a h
    exact ⟨a, [45], rfl, Nat.le_refl _, h1, h3 _ (.head _), h3⟩
theorem pl1 : ∀ p ∈ plains, decide (45 ∈ p.1 :: p.2) = false ∧ (p.1 :: p.2) ∈ stuffs ∧
    ((Builtin.Str.occurrences (S (p.1 :: p.2)) (Str.ofString "\\") 0 (S (p.1 :: p.2)).length ((S (p.1 :: p.2)).length + 1)).isEmpty || ((Str.ofString "\\").length == 0 && (Str.ofString "\\\\").length == 0)) = true ∧
    ([Str.ofString "^", Str.ofString "["].any fun x => x == S [p.1]) = false ∧ (S (p.1 :: p.2) == Str.ofString "!") = false ∧ (S [p.1] == Str.ofString "!") = false ∧ p.2.length ≤ 2 := by decide +kernel
theorem at_bd {P done bd tl : List Nat} (h : P = (done ++ [91]) ++ (bd ++ tl)) {k : Nat} (hk : k < bd.length) : P[done.length + 1 + k]? = bd[k]? := by
  have e : done.length + 1 + k = (done ++ [91]).length + k := by simp
  rw [h, e, List.getElem?_append_right (Nat.le_add_right _ _), Nat.add_sub_cancel_left, List.getElem?_append_left hk]
theorem at_end {P done bd tl : List Nat} (h : P = (done ++ [91]) ++ (bd ++ 93 :: tl)) : P[done.length + 1 + bd.length]? = some 93 := by
  have e : done.length + 1 + bd.length = (done ++ [91]).length + bd.length := by simp
  rw [h, e, List.getElem?_append_right (Nat.le_add_right _ _), Nat.add_sub_cancel_left, List.getElem?_append_right (Nat.le_refl _), Nat.sub_self]; rfl
theorem in_bd {P done bd tl : List Nat} (h : P = (done ++ [91]) ++ (bd ++ tl)) (hb : ∀ c ∈ bd, (S [c] == Str.ofString "]") = false) (p : Nat) (h1 : done.length + 1 ≤ p) (h2 : p < done.length + 1 + bd.length) : ∃ c, P[p]? = some c ∧ (S [c] == Str.ofString "]") = false := by
  obtain ⟨k, rfl⟩ : ∃ k, p = done.length + 1 + k := ⟨p - (done.length + 1), by omega⟩
  have hk : k < bd.length := by omega
  exact ⟨bd[k], by rw [at_bd h hk, List.getElem?_eq_getElem hk], hb _ (List.getElem_mem hk)⟩
theorem fr8f {g h : Heap} {L : Addr} {m : Str → Option Value} {n1 n2 n3 n4 n5 n6 n7 n8 : Str} {v1 v2 v3 v4 v5 v6 v7 v8 : Value} (F : Fr g L h m) (h1 : m n1 = some v1) (h2 : m n2 = some v2) (h3 : m n3 = some v3) (h4 : m n4 = some v4) (h5 : m n5 = some v5) (h6 : m n6 = some v6) (h7 : m n7 = some v7) (h8 : m n8 = some v8) :
    Fr g L h (fun y => if y = n1 then some v1 else if y = n2 then some v2 else if y = n3 then some v3 else if y = n4 then some v4 else if y = n5 then some v5 else if y = n6 then some v6 else if y = n7 then some v7 else if y = n8 then some v8 else m y) := by
  have e : (fun y => if y = n1 then some v1 else if y = n2 then some v2 else if y = n3 then some v3 else if y = n4 then some v4 else if y = n5 then some v5 else if y = n6 then some v6 else if y = n7 then some v7 else if y = n8 then some v8 else m y) = m := by
    funext y
    repeat' split
    all_goals first | (subst_vars; simp_all) | rfl
  rw [e]; exact F
/-- the state ahead of each turn of the search for the closing bracket -/
def JB (g : Heap) (L star u l : Nat) (led : List (Addr × Obj)) (P : List Nat) (tp tq : Tok) (x : Int) (ti tn : Tok) (b fin : Nat) (s₀ : Shared) (n : Nat) (s : Shared) : Prop :=
  ∃ (p : Nat) (m : Str → Option Value) (xj : Int) (tj : Tok) (h : Heap) (tk1 : Nat), s = { s₀ with heap := h, toks := tk1 } ∧ p + n = fin ∧ b ≤ p ∧ xj = (p : Int) ∧ News g L h led ∧
    Fr g L h (fun y => if y = Str.ofString "pat" then some (.str (S P) tp) else if y = Str.ofString "STAR" then some (.ref star) else if y = Str.ofString "QUESTION_MARK" then some (.str (Str.ofString ".") tq) else
      if y = Str.ofString "res" then some (.ref l) else if y = Str.ofString "add" then some (.ref u) else if y = Str.ofString "i" then some (.int x ti) else if y = Str.ofString "n" then some (.int (P.length : Int) tn) else if y = Str.ofString "j" then some (.int xj tj) else m y)
theorem JB_end {g : Heap} {L star u l : Nat} {led : List (Addr × Obj)} {P : List Nat} {tp tq : Tok} {x : Int} {ti tn : Tok} {b fin : Nat} {s₀ s₂ : Shared} {n p : Nat} {m : Str → Option Value} {xj : Int} {tj : Tok} {h : Heap} {tk1 : Nat}
    (h1 : p + (n + 1) = fin) (h2 : b ≤ p) (h3 : xj = ((p + 1 : Nat) : Int)) (N : News g L h led) (F : Fr g L h m)
    (a1 : m (Str.ofString "pat") = some (.str (S P) tp)) (a2 : m (Str.ofString "STAR") = some (.ref star)) (a3 : m (Str.ofString "QUESTION_MARK") = some (.str (Str.ofString ".") tq)) (a4 : m (Str.ofString "res") = some (.ref l)) (a5 : m (Str.ofString "add") = some (.ref u)) (a6 : m (Str.ofString "i") = some (.int x ti)) (a7 : m (Str.ofString "n") = some (.int (P.length : Int) tn)) (a8 : m (Str.ofString "j") = some (.int xj tj))
    (hs : s₂ = { s₀ with heap := h, toks := tk1 }) : TurnEnd (JB g L star u l led P tp tq x ti tn b fin s₀) n .next s₂ :=
  ⟨rfl, p + 1, m, xj, tj, h, tk1, hs, by omega, by omega, h3, N, fr8f F a1 a2 a3 a4 a5 a6 a7 a8⟩
theorem JB_go {prog : Program} {w : World} {A : Around} {E : Value → Shared → Prop} {env : Env} {test : PySem.Expr} {body orelse : List Stmt} {pos : Pos} {Q : Flow → Shared → Prop}
    {g : Heap} {L star u l : Nat} {led : List (Addr × Obj)} {P : List Nat} {tp tq : Tok} {x : Int} {ti tn : Tok} {b fin : Nat} {s₀ s : Shared} {m : Str → Option Value} {xj : Int} {tj : Tok} {h : Heap} {tk1 : Nat}
    (hb : b ≤ fin) (h3 : xj = (b : Int)) (N : News g L h led) (F : Fr g L h m)
    (a1 : m (Str.ofString "pat") = some (.str (S P) tp)) (a2 : m (Str.ofString "STAR") = some (.ref star)) (a3 : m (Str.ofString "QUESTION_MARK") = some (.str (Str.ofString ".") tq)) (a4 : m (Str.ofString "res") = some (.ref l)) (a5 : m (Str.ofString "add") = some (.ref u)) (a6 : m (Str.ofString "i") = some (.int x ti)) (a7 : m (Str.ofString "n") = some (.int (P.length : Int) tn)) (a8 : m (Str.ofString "j") = some (.int xj tj))
    (hs : s = { s₀ with heap := h, toks := tk1 }) (hE : PassesOwn (model prog w) A env E)
    (turn : ∀ n s', JB g L star u l led P tp tq x ti tn b fin s₀ (n + 1) s' → wpAny (model prog w) A (isTrue test env (eval test env)) (fun b' s₂ => WhlIf b' (wpAny (model prog w) A (execs body env) (TurnEnd (JB g L star u l led P tp tq x ti tn b fin s₀) n) E s₂) False) E s')
    (last : ∀ s', JB g L star u l led P tp tq x ti tn b fin s₀ 0 s' → wpAny (model prog w) A (isTrue test env (eval test env)) (fun b' s₂ => WhlIf b' False (wpAny (model prog w) A (execs orelse env) Q E s₂)) E s') :
    wpAny (model prog w) A (exec (.While test body orelse pos) env) Q E s := by
  refine whl_start 0 (loop_ind (JB g L star u l led P tp tq x ti tn b fin s₀) hE turn last (fin - b) s 0 ?_)
  exact ⟨b, m, xj, tj, h, tk1, hs, by omega, Nat.le_refl _, h3, N, fr8f F a1 a2 a3 a4 a5 a6 a7 a8⟩
end Mine
end
section
open PySem PySem.W PyProof.Rows
namespace Mine
def bt (R i : Nat) : Bool := R.testBit i
def s1 (c : Nat) (b : Bool) : Nat := if b = true then c else 45
def s2 (lo hi : Nat) (s x : Bool) : Nat := if (s && x) = true then lo else if s = true then hi else if x = true then 120 else 45
def sgns (R : Nat) : List Nat := [s1 114 (bt R 8), s1 119 (bt R 7), s2 115 83 (bt R 11) (bt R 6), s1 114 (bt R 5), s1 119 (bt R 4), s2 115 83 (bt R 10) (bt R 3), s1 114 (bt R 2), s1 119 (bt R 1), s2 116 84 (bt R 9) (bt R 0)]
def headF (x : Nat) : List (Nat × Nat) → Nat
  | [] => 63
  | p :: r => if x = p.1 then p.2 else headF x r
def headTab : List (Nat × Nat) := [(40960, 108), (49152, 115), (32768, 45), (24576, 98), (16384, 100), (8192, 99), (4096, 112)]
def headOf (k : Nat) : Nat := headF (k * 4096) headTab
theorem and_mask {M m : Nat} : M &&& m = m ↔ ∀ i, m.testBit i = true → M.testBit i = true := by
  constructor
  · intro h i hi
    have e : (M &&& m).testBit i = m.testBit i := by rw [h]
    rw [Nat.testBit_and, hi] at e
    simpa using e
  · intro h
    apply Nat.eq_of_testBit_eq
    intro i
    rw [Nat.testBit_and]
    cases hm : m.testBit i with
    | false => simp
    | true => simp [h i hm]
theorem mask1 (M a : Nat) : decide (M &&& 2 ^ a = 2 ^ a) = M.testBit a := by
  rw [Bool.eq_iff_iff, decide_eq_true_iff, and_mask]
  constructor
  · intro h; exact h a (by simp [Nat.testBit_two_pow])
  · intro h i hi
    rw [Nat.testBit_two_pow] at hi
    simp only [decide_eq_true_eq] at hi
    rw [← hi]; exact h
theorem mask2 (M a b : Nat) : decide (M &&& (2 ^ a ||| 2 ^ b) = (2 ^ a ||| 2 ^ b)) = (M.testBit a && M.testBit b) := by
  rw [Bool.eq_iff_iff, decide_eq_true_iff, and_mask, Bool.and_eq_true]
  constructor
  · intro h; exact ⟨h a (by simp [Nat.testBit_or, Nat.testBit_two_pow]), h b (by simp [Nat.testBit_or, Nat.testBit_two_pow])⟩
  · intro h i hi
    rw [Nat.testBit_or, Nat.testBit_two_pow, Nat.testBit_two_pow] at hi
    simp only [Bool.or_eq_true, decide_eq_true_eq] at hi
    rcases hi with e | e
    · rw [← e]; exact h.1
    · rw [← e]; exact h.2
theorem low_bit {k R i : Nat} (hR : R < 4096) (hi : i < 12) : (k * 4096 + R).testBit i = R.testBit i := by
  have e : k * 4096 + R = 2 ^ 12 * k + R := by omega
  rw [e, Nat.testBit_two_pow_mul_add k (show R < 2 ^ 12 from hR), if_pos hi]
theorem top_bits {k R : Nat} (hk : k < 16) (hR : R < 4096) : (k * 4096 + R) &&& 61440 = k * 4096 := by
  have e : k * 4096 + R = 2 ^ 12 * k + R := by omega
  have e2 : k * 4096 = 2 ^ 12 * k + 0 := by omega
  apply Nat.eq_of_testBit_eq
  intro i
  rw [Nat.testBit_and, e, e2, Nat.testBit_two_pow_mul_add k (show R < 2 ^ 12 from hR), Nat.testBit_two_pow_mul_add k (show 0 < 2 ^ 12 by decide), show (61440 : Nat) = 2 ^ 12 * 15 + 0 from rfl, Nat.testBit_two_pow_mul_add 15 (show 0 < 2 ^ 12 by decide)]
  by_cases h : i < 12
  · simp [h]
  · simp only [h, if_false]
    by_cases h4 : i - 12 < 4
    · have : ∀ j < 4, Nat.testBit 15 j = true := by decide
      rw [this _ h4, Bool.and_true]
    · have : k < 2 ^ (i - 12) := Nat.lt_of_lt_of_le hk (Nat.pow_le_pow_right (n := 2) (by decide) (show 4 ≤ i - 12 by omega))
      rw [Nat.testBit_lt_two_pow this, Bool.false_and]
theorem lit61440 : (61440 : Int) = ((61440 : Nat) : Int) := rfl
end Mine
end
section
open PySem PySem.W PyProof.Rows
namespace Mine
theorem fits0 {M b : Nat} (e : Ent) (hb : e.bit = b) : fits 0 (M : Int) e = decide (M &&& 61440 = b) := by
  unfold fits; rw [if_pos rfl, lit61440, bitAnd_nat, hb]
  exact decide_eq_decide.mpr (by omega)
theorem fitsS {M b i : Nat} (hi : i ≠ 0) (e : Ent) (hb : e.bit = b) : fits i (M : Int) e = decide (M &&& b = b) := by
  unfold fits; rw [if_neg hi, hb, bitAnd_nat]
  exact decide_eq_decide.mpr (by omega)
theorem pkS1 {M i a ad t q n c : Nat} (hi : i ≠ 0) (hq : q = 2 ^ a) : pick i (M : Int) [⟨ad, q, t, c, n⟩] = s1 c (M.testBit a) := by
  unfold pick
  rw [List.find?, fitsS hi _ rfl]
  simp only [hq, mask1, s1]
  cases M.testBit a <;> simp [hi]
theorem pkS2 {M i a b ad1 t1 ad2 t2 ad3 t3 q1 q2 q3 n1 n2 n3 lo hi' : Nat} (hi : i ≠ 0) (h1 : q1 = 2 ^ a ||| 2 ^ b) (h2 : q2 = 2 ^ a) (h3 : q3 = 2 ^ b) : pick i (M : Int) [⟨ad1, q1, t1, lo, n1⟩, ⟨ad2, q2, t2, hi', n2⟩, ⟨ad3, q3, t3, 120, n3⟩] = s2 lo hi' (M.testBit a) (M.testBit b) := by
  unfold pick
  rw [List.find?, fitsS hi _ rfl, List.find?, fitsS hi _ rfl, List.find?, fitsS hi _ rfl]
  simp only [h1, h2, h3, mask1, mask2, s2]
  cases M.testBit a <;> cases M.testBit b <;> simp [hi]
theorem find_sign (x : Nat) : ∀ l : List Ent, (match l.find? (fun e => decide (x = e.bit)) with | some e => e.sign | none => 63) = headF x (l.map fun e => (e.bit, e.sign))
  | [] => rfl
  | e :: r => by
    rw [List.find?, List.map_cons, headF]
    cases h : decide (x = e.bit) with
    | true => rw [if_pos (of_decide_eq_true h)]
    | false => rw [if_neg (of_decide_eq_false h)]; exact find_sign x r
theorem pkS0 {M k : Nat} (hM : M &&& 61440 = k * 4096) (l : List Ent) : pick 0 (M : Int) l = headF (k * 4096) (l.map fun e => (e.bit, e.sign)) := by
  rw [← find_sign]
  unfold pick
  rw [show fits 0 (M : Int) = fun e => decide (k * 4096 = e.bit) from funext fun e => by rw [fits0 e rfl, hM]]
  rfl
theorem row_is {k R : Nat} (hk : k < 16) (hR : R < 4096) : rowL ((k * 4096 + R : Nat) : Int) = headOf k :: sgns R := by
  have b : ∀ i, i < 12 → (k * 4096 + R).testBit i = bt R i := fun i hi => low_bit hR hi
  show [pick 0 _ _, pick 1 _ _, pick 2 _ _, pick 3 _ _, pick 4 _ _, pick 5 _ _, pick 6 _ _, pick 7 _ _, pick 8 _ _, pick 9 _ _] = _
  rw [pkS0 (top_bits hk hR), pkS1 (a := 8) (by decide) (by decide), pkS1 (a := 7) (by decide) (by decide), pkS2 (a := 11) (b := 6) (by decide) (by decide) (by decide) (by decide), pkS1 (a := 5) (by decide) (by decide), pkS1 (a := 4) (by decide) (by decide), pkS2 (a := 10) (b := 3) (by decide) (by decide) (by decide) (by decide), pkS1 (a := 2) (by decide) (by decide), pkS1 (a := 1) (by decide) (by decide), pkS2 (a := 9) (b := 0) (by decide) (by decide) (by decide) (by decide)]
  rw [b 8 (by decide), b 7 (by decide), b 11 (by decide), b 6 (by decide), b 5 (by decide), b 4 (by decide), b 10 (by decide), b 3 (by decide), b 2 (by decide), b 1 (by decide), b 9 (by decide), b 0 (by decide)]
  rfl
end Mine
end
section
open PySem PySem.W PyProof.Rows
namespace Mine
def oL (k c : Nat) : List Nat := if c = 45 then [46] else if c ∈ [120, 83, 84] then [91, c, if k = 9 then 116 else 115, 93] else [c]
def zL (k c : Nat) : List Nat := if c = 45 then allS else if c ∈ [120, 83, 84] then [c, if k = 9 then 116 else 115] else [c]
def oM (c : Nat) : List Nat := if c = 45 then [92, 45] else if c ∈ [120, 83, 84] then [91, c, 92, 45, 93] else [46]
def zM (c : Nat) : List Nat := if c = 45 then [45] else if c ∈ [120, 83, 84] then [c, 45] else allS
def goodSign (k c : Nat) : Prop := c ∈ [45, 114, 119, 115, 116, 120] ∨ (c = 83 ∧ k ≠ 9) ∨ (c = 84 ∧ k = 9)
theorem tk_L {k c : Nat} (h : goodSign k c) : Tk (tokL k c) (oL k c) ∧ Sk (oL k c) (zL k c) := by
  unfold tokL oL zL
  rcases h with h | ⟨rfl, h⟩ | ⟨rfl, h⟩
  · simp only [List.mem_cons, List.not_mem_nil, or_false] at h
    rcases h with rfl | rfl | rfl | rfl | rfl | rfl
    · exact ⟨.q, .any⟩
    · exact ⟨.one 114 (by decide), .one 114 (by decide)⟩
    · exact ⟨.one 119 (by decide), .one 119 (by decide)⟩
    · exact ⟨.one 115 (by decide), .one 115 (by decide)⟩
    · exact ⟨.one 116 (by decide), .one 116 (by decide)⟩
    · by_cases hk : k = 9
      · simp only [hk, if_true, show (120 : Nat) ≠ 45 by decide, if_false, show (120 : Nat) ∈ [120, 83, 84] by decide]
        exact ⟨.two (120, 116) (by decide), .two (120, 116) (by decide)⟩
      · simp only [hk, if_true, show (120 : Nat) ≠ 45 by decide, if_false, show (120 : Nat) ∈ [120, 83, 84] by decide]
        exact ⟨.two (120, 115) (by decide), .two (120, 115) (by decide)⟩
  · simp only [h, if_true, show (83 : Nat) ≠ 45 by decide, if_false, show (83 : Nat) ∈ [120, 83, 84] by decide]
    exact ⟨.two (83, 115) (by decide), .two (83, 115) (by decide)⟩
  · simp only [h, if_true, show (84 : Nat) ≠ 45 by decide, if_false, show (84 : Nat) ∈ [120, 83, 84] by decide]
    exact ⟨.two (84, 116) (by decide), .two (84, 116) (by decide)⟩
theorem tk_M {k c : Nat} (h : goodSign k c) : Tk (tokM c) (oM c) ∧ Sk (oM c) (zM c) := by
  have q : ∀ c ∈ [114, 119, 115, 116], tokM c = [63] ∧ oM c = [46] ∧ zM c = allS := by decide
  have d : ∀ c ∈ firsts, tokM c = [91, c, 45, 93] ∧ oM c = [91, c, 92, 45, 93] ∧ zM c = [c, 45] := by decide
  have dot : c ∈ firsts → Tk (tokM c) (oM c) ∧ Sk (oM c) (zM c) := fun hc => by
    obtain ⟨e1, e2, e3⟩ := d c hc
    rw [e1, e2, e3]; exact ⟨.dot c hc, .dot c hc⟩
  rcases h with h | ⟨rfl, _⟩ | ⟨rfl, _⟩
  · rcases List.mem_cons.mp h with rfl | h
    · exact ⟨.one 45 (by decide), .esc⟩
    · by_cases hc : c ∈ [114, 119, 115, 116]
      · obtain ⟨e1, e2, e3⟩ := q c hc
        rw [e1, e2, e3]; exact ⟨.q, .any⟩
      · refine dot ?_
        have : c ∈ [114, 119, 115, 116] ++ [120] := h
        rcases List.mem_append.mp this with h | h
        · exact absurd h hc
        · rw [List.mem_singleton.mp h]; decide
  · exact dot (by decide)
  · exact dot (by decide)
def oH (h : Nat) : List Nat := if h = 45 then [91, 92, 45, 93] else [91, h, 93]
theorem head_in (x : Nat) : ∀ l : List (Nat × Nat), (∀ p ∈ l, p.2 = 45 ∨ p.2 ∈ heads) → headF x l = 45 ∨ headF x l ∈ heads
  | [], _ => .inr (show 63 ∈ heads by decide)
  | p :: r, h => by
    rw [headF]; split
    · exact h p (.head _)
    · exact head_in x r fun q hq => h q (.tail _ hq)
theorem tk_H (k : Nat) : Tk [91, headOf k, 93] (oH (headOf k)) ∧ Sk (oH (headOf k)) [headOf k] := by
  have h : headOf k = 45 ∨ headOf k ∈ heads := head_in _ _ (by decide)
  rcases h with h | h
  · rw [h]; exact ⟨.dash, .dash⟩
  · have : headOf k ≠ 45 := by intro e; rw [e] at h; revert h; decide
    unfold oH; rw [if_neg this]; exact ⟨.head _ h, .head _ h⟩
theorem good1 {k : Nat} (b : Bool) : goodSign k (s1 114 b) ∧ goodSign k (s1 119 b) := by
  cases b <;> exact ⟨.inl (by decide), .inl (by decide)⟩
theorem good3 {k : Nat} (hk : k ≠ 9) (s x : Bool) : goodSign k (s2 115 83 s x) := by
  cases s <;> cases x
  · exact .inl (by decide)
  · exact .inl (by decide)
  · exact .inr (.inl ⟨by decide, hk⟩)
  · exact .inl (by decide)
theorem good9 (s x : Bool) : goodSign 9 (s2 116 84 s x) := by
  cases s <;> cases x
  · exact .inl (by decide)
  · exact .inl (by decide)
  · exact .inr (.inr ⟨by decide, rfl⟩)
  · exact .inl (by decide)
/-- nine signs, each good at its place -/
def Good9 : Nat → List Nat → Prop
  | _, [] => True
  | k, c :: r => goodSign k c ∧ Good9 (k + 1) r
theorem good_sgns (R : Nat) : Good9 1 (sgns R) := by
  refine ⟨(good1 _).1, (good1 _).2, good3 (by decide) _ _, (good1 _).1, (good1 _).2, good3 (by decide) _ _, (good1 _).1, (good1 _).2, good9 _ _, trivial⟩
def toksLs : Nat → List Nat → List (List Nat)
  | _, [] => []
  | k, c :: r => tokL k c :: toksLs (k + 1) r
def oLs : Nat → List Nat → List (List Nat)
  | _, [] => []
  | k, c :: r => oL k c :: oLs (k + 1) r
def zLs : Nat → List Nat → List (List Nat)
  | _, [] => []
  | k, c :: r => zL k c :: zLs (k + 1) r
theorem flat_L : ∀ (k : Nat) (l : List Nat), toksL k l = (toksLs k l).flatten
  | _, [] => rfl
  | k, c :: r => by rw [toksL, toksLs, List.flatten_cons, flat_L (k + 1) r]
theorem tks_L : ∀ {k : Nat} {l : List Nat}, Good9 k l → Tks (toksLs k l) (oLs k l) ∧ Sks (oLs k l) (zLs k l)
  | _, [], _ => ⟨.nil, .nil⟩
  | _, _ :: _, h => ⟨.cons (tk_L h.1).1 (tks_L h.2).1, .cons (tk_L h.1).2 (tks_L h.2).2⟩
theorem tks_M : ∀ {k : Nat} {l : List Nat}, Good9 k l → Tks (l.map tokM) (l.map oM) ∧ Sks (l.map oM) (l.map zM)
  | _, [], _ => ⟨.nil, .nil⟩
  | _, _ :: _, h => ⟨.cons (tk_M h.1).1 (tks_M h.2).1, .cons (tk_M h.1).2 (tks_M h.2).2⟩
theorem len_tokL (k c : Nat) : (tokL k c).length ≤ 4 ∧ (oL k c).length ≤ 4 := by
  unfold tokL oL; repeat' split
  all_goals (constructor <;> simp only [List.length_cons, List.length_nil] <;> omega)
theorem len_tokM (c : Nat) : (tokM c).length ≤ 4 ∧ (oM c).length ≤ 5 := by
  unfold tokM oM; repeat' split
  all_goals (constructor <;> simp only [List.length_cons, List.length_nil] <;> omega)
theorem len_Ls : ∀ (k : Nat) (l : List Nat), (toksLs k l).length = l.length ∧ (toksLs k l).flatten.length ≤ 4 * l.length ∧ (oLs k l).flatten.length ≤ 4 * l.length ∧ (zLs k l).length = l.length ∧ (oLs k l).length = l.length
  | _, [] => by simp [toksLs, oLs, zLs]
  | k, c :: r => by
    have h := len_Ls (k + 1) r
    have q := len_tokL k c
    simp only [toksLs, oLs, zLs, List.flatten_cons, List.length_append, List.length_cons]
    omega
theorem len_Ms : ∀ (l : List Nat), (l.map tokM).flatten.length ≤ 4 * l.length ∧ (l.map oM).flatten.length ≤ 5 * l.length
  | [] => by simp
  | c :: r => by
    have h := len_Ms r
    have q := len_tokM c
    simp only [List.map_cons, List.flatten_cons, List.length_append, List.length_cons]
    omega
/-- what the law's walk needs to know of a pattern: its tokens, what translate makes of them, the sets -/
structure Pat (P : List Nat) (toks outs sets : List (List Nat)) : Prop where
  flat : P = toks.flatten
  tks : Tks toks outs
  sks : Sks outs sets
  l1 : toks.length = 10
  l2 : P.length ≤ 100
  l3 : outs.flatten.length ≤ 100
  l4 : sets.length = 10
  l5 : outs.length = 10
theorem pat_least (k W : Nat) : Pat (leastP (headOf k) (sgns W)) ([91, headOf k, 93] :: toksLs 1 (sgns W)) (oH (headOf k) :: oLs 1 (sgns W)) ([headOf k] :: zLs 1 (sgns W)) := by
  have l := len_Ls 1 (sgns W)
  have e : (sgns W).length = 9 := rfl
  have lo : (oH (headOf k)).length ≤ 4 := by unfold oH; split <;> simp only [List.length_cons, List.length_nil] <;> omega
  have fl : leastP (headOf k) (sgns W) = ([91, headOf k, 93] :: toksLs 1 (sgns W)).flatten := by rw [leastP, List.flatten_cons, flat_L]
  refine ⟨fl, .cons (tk_H k).1 (tks_L (good_sgns W)).1, .cons (tk_H k).2 (tks_L (good_sgns W)).2, ?_, ?_, ?_, ?_, ?_⟩
  · simp only [List.length_cons]; omega
  · rw [fl]; simp only [List.flatten_cons, List.length_append, List.length_cons, List.length_nil]; omega
  · simp only [List.flatten_cons, List.length_append]; omega
  · simp only [List.length_cons]; omega
  · simp only [List.length_cons]; omega
theorem pat_most (k R : Nat) : Pat (mostP (headOf k) (sgns R)) ([91, headOf k, 93] :: (sgns R).map tokM) (oH (headOf k) :: (sgns R).map oM) ([headOf k] :: (sgns R).map zM) := by
  have l := len_Ms (sgns R)
  have e : (sgns R).length = 9 := rfl
  have lo : (oH (headOf k)).length ≤ 4 := by unfold oH; split <;> simp only [List.length_cons, List.length_nil] <;> omega
  have fl : mostP (headOf k) (sgns R) = ([91, headOf k, 93] :: (sgns R).map tokM).flatten := by rw [mostP, List.flatten_cons, List.flatMap_def]
  refine ⟨fl, .cons (tk_H k).1 (tks_M (good_sgns R)).1, .cons (tk_H k).2 (tks_M (good_sgns R)).2, ?_, ?_, ?_, ?_, ?_⟩
  · simp only [List.length_cons, List.length_map]; omega
  · rw [fl]; simp only [List.flatten_cons, List.length_append, List.length_cons, List.length_nil]; omega
  · simp only [List.flatten_cons, List.length_append]; omega
  · simp only [List.length_cons, List.length_map]; omega
  · simp only [List.length_cons, List.length_map]; omega
end Mine
end
section
open PySem PySem.W PyProof.Rows
namespace Mine
theorem takes10 {z0 z1 z2 z3 z4 z5 z6 z7 z8 z9 : List Nat} {c0 c1 c2 c3 c4 c5 c6 c7 c8 c9 : Nat} : takes [z0, z1, z2, z3, z4, z5, z6, z7, z8, z9] [c0, c1, c2, c3, c4, c5, c6, c7, c8, c9] =
    (decide (c0 ∈ z0) && (decide (c1 ∈ z1) && (decide (c2 ∈ z2) && (decide (c3 ∈ z3) && (decide (c4 ∈ z4) && (decide (c5 ∈ z5) && (decide (c6 ∈ z6) && (decide (c7 ∈ z7) && (decide (c8 ∈ z8) && (decide (c9 ∈ z9) && true)))))))))) := rfl
def imp (a b : Bool) : Bool := !a || b
theorem L1a (k : Nat) (hk : k ≠ 9) (w r : Bool) : decide (s1 114 r ∈ zL k (s1 114 w)) = imp w r := by
  cases w <;> cases r <;> rfl
theorem L1b (k : Nat) (w r : Bool) : decide (s1 119 r ∈ zL k (s1 119 w)) = imp w r := by
  cases w <;> cases r <;> rfl
theorem L3 (k : Nat) (hk : k ≠ 9) (ws wx rs rx : Bool) : decide (s2 115 83 rs rx ∈ zL k (s2 115 83 ws wx)) = (imp ws rs && imp wx rx) := by
  unfold zL; simp only [hk, if_false]
  cases ws <;> cases wx <;> cases rs <;> cases rx <;> rfl
theorem L9 (ws wx rs rx : Bool) : decide (s2 116 84 rs rx ∈ zL 9 (s2 116 84 ws wx)) = (imp ws rs && imp wx rx) := by
  cases ws <;> cases wx <;> cases rs <;> cases rx <;> rfl
theorem M1a (w r : Bool) : decide (s1 114 w ∈ zM (s1 114 r)) = imp w r := by
  cases w <;> cases r <;> rfl
theorem M1b (w r : Bool) : decide (s1 119 w ∈ zM (s1 119 r)) = imp w r := by
  cases w <;> cases r <;> rfl
theorem M3 (ws wx rs rx : Bool) : decide (s2 115 83 ws wx ∈ zM (s2 115 83 rs rx)) = (imp ws rs && imp wx rx) := by
  cases ws <;> cases wx <;> cases rs <;> cases rx <;> rfl
theorem M9 (ws wx rs rx : Bool) : decide (s2 116 84 ws wx ∈ zM (s2 116 84 rs rx)) = (imp ws rs && imp wx rx) := by
  cases ws <;> cases wx <;> cases rs <;> cases rx <;> rfl
/-- each wished bit is among the rights -/
def within (R W : Nat) : Bool := imp (bt W 8) (bt R 8) && (imp (bt W 7) (bt R 7) && ((imp (bt W 11) (bt R 11) && imp (bt W 6) (bt R 6)) && (imp (bt W 5) (bt R 5) && (imp (bt W 4) (bt R 4) && ((imp (bt W 10) (bt R 10) && imp (bt W 3) (bt R 3)) && (imp (bt W 2) (bt R 2) && (imp (bt W 1) (bt R 1) && ((imp (bt W 9) (bt R 9) && imp (bt W 0) (bt R 0)) && true))))))))
theorem headIn (h : Nat) : decide (h ∈ [h]) = true := by simp
theorem takes_least (k R W : Nat) : takes ([headOf k] :: zLs 1 (sgns W)) (headOf k :: sgns R) = within R W := by
  unfold sgns
  show takes [_, zL 1 _, zL 2 _, zL 3 _, zL 4 _, zL 5 _, zL 6 _, zL 7 _, zL 8 _, zL 9 _] _ = _
  rw [takes10, headIn, L1a 1 (by decide), L1b 2, L3 3 (by decide), L1a 4 (by decide), L1b 5, L3 6 (by decide), L1a 7 (by decide), L1b 8, L9, Bool.true_and]
  rfl
theorem takes_most (k R W : Nat) : takes ([headOf k] :: (sgns R).map zM) (headOf k :: sgns W) = within R W := by
  unfold sgns
  show takes [_, zM _, zM _, zM _, zM _, zM _, zM _, zM _, zM _, zM _] _ = _
  rw [takes10, headIn, M1a, M1b, M3, M1a, M1b, M3, M1a, M1b, M9, Bool.true_and]
  rfl
theorem lucas : ∀ f, f < 8 → ∀ p, p < 8 → decide ((entOf f p).fmod 2 = 0) = !(imp (p.testBit 0) (f.testBit 0) && (imp (p.testBit 1) (f.testBit 1) && imp (p.testBit 2) (f.testBit 2))) := by decide +kernel
theorem oddRow : ∀ f, f < 8 → oddOf f = 2 ^ ((f.testBit 0).toNat + ((f.testBit 1).toNat + (f.testBit 2).toNat)) := by decide +kernel
theorem fig_bit {R k j : Nat} (hj : j < 3) : (fig R k).testBit j = R.testBit (3 * k + j) := by
  unfold fig
  rw [show 8 = 2 ^ 3 from rfl, ← Nat.pow_mul, Nat.testBit_mod_two_pow, Nat.testBit_div_two_pow]
  simp only [hj, decide_true, Bool.true_and]
  congr 1; omega
/-- the even entries -/
def evens (R W : Nat) : List Int := (ents R W).filter fun x => decide (x.fmod 2 = 0)
theorem ent_even (R W k : Nat) : decide ((entOf (fig R k) (fig W k)).fmod 2 = 0) = !(imp (bt W (3 * k)) (bt R (3 * k)) && (imp (bt W (3 * k + 1)) (bt R (3 * k + 1)) && imp (bt W (3 * k + 2)) (bt R (3 * k + 2)))) := by
  rw [lucas _ (fig_lt _ _) _ (fig_lt _ _), fig_bit (by decide), fig_bit (by decide), fig_bit (by decide), fig_bit (by decide), fig_bit (by decide), fig_bit (by decide)]
  rfl
theorem isEmpty_filter4 {a b c d : Int} {p : Int → Bool} : ([a, b, c, d].filter p).isEmpty = (!p a && (!p b && (!p c && !p d))) := by
  simp only [List.filter]
  cases p a <;> cases p b <;> cases p c <;> cases p d <;> rfl
theorem granted_is (R W : Nat) : (evens R W).isEmpty = within R W := by
  unfold evens ents
  rw [isEmpty_filter4, ent_even, ent_even, ent_even, ent_even]
  simp only [Bool.not_not]
  unfold within
  simp only [Nat.mul_zero, Nat.zero_add, Nat.mul_one, Nat.reduceMul, Nat.reduceAdd, Bool.and_true]
  ac_rfl
def worth (c : Nat) : Nat := if c = 45 then 0 else if c = 115 ∨ c = 116 then 2 else 1
theorem worth1 (b : Bool) : worth (s1 114 b) = b.toNat ∧ worth (s1 119 b) = b.toNat := by cases b <;> decide
theorem worth3 (s x : Bool) : worth (s2 115 83 s x) = s.toNat + x.toNat ∧ worth (s2 116 84 s x) = s.toNat + x.toNat := by cases s <;> cases x <;> decide
theorem odd_fig (R k : Nat) : oddOf (fig R k) = 2 ^ ((bt R (3 * k)).toNat + ((bt R (3 * k + 1)).toNat + (bt R (3 * k + 2)).toNat)) := by
  rw [oddRow _ (fig_lt _ _), fig_bit (by decide), fig_bit (by decide), fig_bit (by decide)]; rfl
def shownOf (R : Nat) : Nat := ((sgns R).map worth).sum
theorem shown_is (R : Nat) : oddOf (fig R 0) * oddOf (fig R 1) * oddOf (fig R 2) * oddOf (fig R 3) = 2 ^ shownOf R := by
  unfold shownOf sgns
  rw [odd_fig, odd_fig, odd_fig, odd_fig, ← Nat.pow_add, ← Nat.pow_add, ← Nat.pow_add]
  congr 1
  simp only [List.map_cons, List.map_nil, List.sum_cons, List.sum_nil, (worth1 _).1, (worth1 _).2, (worth3 _ _).1, (worth3 _ _).2, Nat.mul_zero, Nat.zero_add, Nat.mul_one, Nat.reduceMul, Nat.reduceAdd]
  omega
theorem bool_le (b : Bool) : b.toNat ≤ 1 := by cases b <;> decide
theorem shown_le (R : Nat) : shownOf R ≤ 12 := by
  unfold shownOf sgns
  simp only [List.map_cons, List.map_nil, List.sum_cons, List.sum_nil, (worth1 _).1, (worth1 _).2, (worth3 _ _).1, (worth3 _ _).2]
  have h := fun i => bool_le (bt R i)
  have := h 0; have := h 1; have := h 2; have := h 3; have := h 4; have := h 5; have := h 6; have := h 7; have := h 8; have := h 9; have := h 10; have := h 11
  omega
theorem odd_le (R k : Nat) : oddOf (fig R k) ≤ 8 := (by decide +kernel : ∀ f, f < 8 → oddOf f ≤ 8) _ (fig_lt R k)
end Mine
end
section
open PySem PySem.W PyProof.Rows
namespace Mine
/-- the law's def, read off the row -/
def lawDef : Stmt := PySem.Challenge.pw_ik0122_01.main.body.getLastD (.Pass default)
/-- one of the four rows of Pascal's triangle, by its number -/
theorem line_at {R : Nat} {A0 A1 A2 A3 k0 k1 k2 k3 : Nat} {w0 w1 w2 w3 : List Value} {rest : List (Addr × Obj)} {x y : Addr × Obj}
    (hw0 : IntsAre w0 (lineOf (fig R 0))) (hw1 : IntsAre w1 (lineOf (fig R 1))) (hw2 : IntsAre w2 (lineOf (fig R 2))) (hw3 : IntsAre w3 (lineOf (fig R 3))) {i : Nat} (hi : i < 4) :
    ∃ Ak wk ck, ([Value.ref A0, .ref A1, .ref A2, .ref A3])[i]? = some (.ref Ak) ∧ (Ak, W.listOf wk.toArray ck) ∈ x :: y :: (A3, W.listOf w3.toArray k3) :: (A2, W.listOf w2.toArray k2) :: (A1, W.listOf w1.toArray k1) :: (A0, W.listOf w0.toArray k0) :: rest ∧ IntsAre wk (lineOf (fig R i)) := by
  match i, hi with
  | 0, _ => exact ⟨A0, w0, k0, rfl, by simp, hw0⟩
  | 1, _ => exact ⟨A1, w1, k1, rfl, by simp, hw1⟩
  | 2, _ => exact ⟨A2, w2, k2, rfl, by simp, hw2⟩
  | 3, _ => exact ⟨A3, w3, k3, rfl, by simp, hw3⟩
theorem place_at {W : Nat} {u0 u1 u2 u3 : Tok} {i : Nat} (hi : i < 4) : ∃ t, ([Value.int ((fig W 0 : Nat) : Int) u0, .int ((fig W 1 : Nat) : Int) u1, .int ((fig W 2 : Nat) : Int) u2, .int ((fig W 3 : Nat) : Int) u3] : List Value)[i]? = some (.int ((fig W i : Nat) : Int) t) := by
  match i, hi with
  | 0, _ => exact ⟨_, rfl⟩
  | 1, _ => exact ⟨_, rfl⟩
  | 2, _ => exact ⟨_, rfl⟩
  | 3, _ => exact ⟨_, rfl⟩
theorem take_one {xs : List Int} {i : Nat} (hi : i < xs.length) : xs.take (i + 1) = xs.take i ++ [xs.getD i 0] := by
  rw [List.take_succ, List.getD_eq_getElem?_getD, List.getElem?_eq_getElem hi]; rfl
theorem filt_yes {xs : List Int} {p : Int → Bool} {i : Nat} {ys : List Value} {t : Tok} (h : IntsAre ys ((xs.take i).filter p)) (hi : i < xs.length) (hp : p (xs.getD i 0) = true) : IntsAre (ys ++ [.int (xs.getD i 0) t]) ((xs.take (i + 1)).filter p) := by
  have e : [xs.getD i 0].filter p = [xs.getD i 0] := by rw [List.filter_cons_of_pos hp]; rfl
  rw [take_one hi, List.filter_append, e]; exact ints_push h
theorem filt_no {xs : List Int} {p : Int → Bool} {i : Nat} {ys : List Value} (h : IntsAre ys ((xs.take i).filter p)) (hi : i < xs.length) (hp : p (xs.getD i 0) = false) : IntsAre ys ((xs.take (i + 1)).filter p) := by
  have e : [xs.getD i 0].filter p = [] := by rw [List.filter_cons_of_neg (by rw [hp]; exact Bool.false_ne_true)]; rfl
  rw [take_one hi, List.filter_append, e, List.append_nil]; exact h
theorem int_at {vs : List Value} {xs : List Int} (h : IntsAre vs xs) {i : Nat} {v : Value} (hv : vs.toArray[i]? = some v) : i < xs.length ∧ ∃ t, v = .int (xs.getD i 0) t := by
  have hv' : vs[i]? = some v := by simpa using hv
  have hl := IntsAre.length h
  have hi : i < xs.length := by
    by_cases c : i < vs.length
    · omega
    · rw [List.getElem?_eq_none (by omega)] at hv'; cases hv'
  obtain ⟨t, e⟩ := ints_get h hi
  rw [e] at hv'; cases hv'
  exact ⟨hi, t, rfl⟩
def odds (R : Nat) : List Int := [((oddOf (fig R 0) : Nat) : Int), ((oddOf (fig R 1) : Nat) : Int), ((oddOf (fig R 2) : Nat) : Int), ((oddOf (fig R 3) : Nat) : Int)]
theorem odds_push {R i : Nat} {ys : List Value} {x : Int} {t : Tok} (h : IntsAre ys ((odds R).take i)) (hi : i < 4) (hx : x = ((oddOf (fig R i) : Nat) : Int)) : IntsAre (ys ++ [.int x t]) ((odds R).take (i + 1)) := by
  have e : (odds R).take (i + 1) = (odds R).take i ++ [x] := by
    subst hx
    match i, hi with
    | 0, _ => rfl
    | 1, _ => rfl
    | 2, _ => rfl
    | 3, _ => rfl
  rw [e]; exact ints_push h
end Mine
end
section
open PySem PySem.W PyProof.Rows
namespace Mine
def shN (l : List Nat) : List Int := (l.filter fun c => decide (c ≠ 45)).map fun c => ((worth c : Nat) : Int)
theorem take_nat {l : List Nat} {i : Nat} {c : Nat} (h : l[i]? = some c) : l.take (i + 1) = l.take i ++ [c] := by
  rw [List.take_succ, h]; rfl
theorem sh_yes {l : List Nat} {i c : Nat} {ys : List Value} {x : Int} {t : Tok} (h : IntsAre ys (shN (l.take i))) (hc : l[i]? = some c) (h45 : c ≠ 45) (hx : x = ((worth c : Nat) : Int)) : IntsAre (ys ++ [.int x t]) (shN (l.take (i + 1))) := by
  have e : shN (l.take (i + 1)) = shN (l.take i) ++ [x] := by
    rw [take_nat hc, shN, List.filter_append, List.map_append, hx]
    congr 1
    rw [List.filter_cons_of_pos (by simpa using h45)]; rfl
  rw [e]; exact ints_push h
theorem sh_no {l : List Nat} {i c : Nat} {ys : List Value} (h : IntsAre ys (shN (l.take i))) (hc : l[i]? = some c) (h45 : c = 45) : IntsAre ys (shN (l.take (i + 1))) := by
  have e : shN (l.take (i + 1)) = shN (l.take i) := by
    rw [take_nat hc, shN, List.filter_append, List.map_append, h45]
    simp [shN]
  rw [e]; exact h
theorem sh_sum : ∀ l : List Nat, (shN l).sum = (((l.map worth).sum : Nat) : Int)
  | [] => rfl
  | c :: r => by
    have ih := sh_sum r
    unfold shN at ih ⊢
    by_cases h : c = 45
    · subst h
      rw [List.filter_cons_of_neg (by decide), ih, List.map_cons, List.sum_cons, show worth 45 = 0 from rfl, Nat.zero_add]
    · rw [List.filter_cons_of_pos (by simpa using h), List.map_cons, List.sum_cons, ih, List.map_cons, List.sum_cons, Int.natCast_add]
theorem lit_st : Str.ofString "st" = S [115, 116] := by decide +kernel
theorem sign_at {l : List Nat} {i : Nat} {v : Value} (h : SignAt (S l) i v) : ∃ c t, l[i]? = some c ∧ v = .str (S [c]) t := by
  obtain ⟨c, u, h1, rfl⟩ := h
  exact ⟨c, u, by simpa [S] using h1, rfl⟩
theorem wNe {c : Nat} (h : (S [c] != Str.ofString "-") = true) : c ≠ 45 := by
  intro e; subst e
  rw [lit_d] at h; simp at h
theorem wEq {c : Nat} (h : (S [c] != Str.ofString "-") = false) : c = 45 := by
  rw [lit_d, bne, S_eq] at h
  simpa using h
theorem stNo {c : Nat} (h : (Builtin.Str.occurrences (Str.ofString "st") (S [c]) 0 (Str.length (Str.ofString "st")) 1).isEmpty = true) (h45 : c ≠ 45) : (1 : Int) = ((worth c : Nat) : Int) := by
  have q := in_one [115, 116] c
  rw [← lit_st, h] at q
  have q' : c ∉ [115, 116] := by simpa using q.symm
  unfold worth
  rw [if_neg h45, if_neg (by simpa using q')]; rfl
theorem stYes {c : Nat} (h : (Builtin.Str.occurrences (Str.ofString "st") (S [c]) 0 (Str.length (Str.ofString "st")) 1).isEmpty = false) (h45 : c ≠ 45) : (2 : Int) = ((worth c : Nat) : Int) := by
  have q := in_one [115, 116] c
  rw [← lit_st, h] at q
  have q' : c ∈ [115, 116] := by simpa using q.symm
  unfold worth
  rw [if_neg h45, if_pos (by simpa using q')]; rfl
end Mine
end
section
open PySem PySem.W PyProof.Rows
namespace Mine
theorem row_int (x : Int) : ∃ k : Nat, ∀ R : Nat, R < 4096 → rowL (x.fmod 16 * 4096 + (R : Int)) = headOf k :: sgns R := by
  have h0 : 0 ≤ x.fmod 16 := Int.fmod_nonneg_of_pos x (by decide)
  have h1 : x.fmod 16 < 16 := Int.fmod_lt_of_pos x (by decide)
  refine ⟨(x.fmod 16).toNat, fun R hR => ?_⟩
  rw [← row_is (k := (x.fmod 16).toNat) (by omega) hR]
  congr 1
  omega
theorem fr1_eq {m : Str → Option Value} {n : Str} {v : Value} (h : m n = some v) : (fun y => if y = n then some v else m y) = m := by
  funext y
  split
  · subst_vars; exact h.symm
  · rfl
theorem fr1 {g h : Heap} {L : Addr} {m : Str → Option Value} {n : Str} {v : Value} (F : Fr g L h m) (e : m n = some v) : Fr g L h (fun y => if y = n then some v else m y) := by
  rw [fr1_eq e]; exact F
theorem drop6 {g h : Heap} {L : Addr} {a b c d e x : Addr × Obj} {r : List (Addr × Obj)} (N : News g L h (a :: b :: c :: d :: e :: x :: r)) : News g L h (a :: b :: c :: d :: e :: r) :=
  N.perm fun _ hp => (List.Sublist.cons₂ a (.cons₂ b (.cons₂ c (.cons₂ d (.cons₂ e (.cons x (List.Sublist.refl r))))))).subset hp
theorem drop1 {g h : Heap} {L : Addr} {a : Addr × Obj} {r : List (Addr × Obj)} (N : News g L h (a :: r)) : News g L h r :=
  N.perm fun _ hp => List.Mem.tail _ hp
theorem drop_given {g h : Heap} {L : Addr} {a b l4 l3 l2 l1 : Addr × Obj} {r : List (Addr × Obj)} (N : News g L h (a :: b :: l4 :: l3 :: l2 :: l1 :: r)) : News g L h (a :: l4 :: l3 :: r) :=
  N.perm fun _ hp => (List.Sublist.cons₂ a (.cons b (.cons₂ l4 (.cons₂ l3 (.cons l2 (.cons l1 (List.Sublist.refl r))))))).subset hp
theorem pick_four {g h : Heap} {L : Addr} {b l4 l3 t u : Addr × Obj} (N : News g L h [b, l4, l3, t, u]) : News g L h [u, l3, l4, t] :=
  N.perm (by
    intro p hp
    simp only [List.mem_cons, List.not_mem_nil, or_false] at hp ⊢
    rcases hp with h | h | h | h <;> simp [h])
theorem pick_news {g h : Heap} {L : Addr} {a b c d e f u v l3 l4 t : Addr × Obj} (N : News g L h [a, b, c, d, e, f, u, v, l3, l4, t]) : News g L h [a, b, c, d, e, f, l4, l3, t, u] :=
  N.perm (by
    intro p hp
    simp only [List.mem_cons, List.not_mem_nil, or_false] at hp ⊢
    rcases hp with h | h | h | h | h | h | h | h | h | h <;> simp [h])
end Mine
end
section
open PySem PySem.W PyProof.Rows
namespace Mine
/-- GoodW, where generators may be left behind, all of them bare -/
def GoodB (c : ClaimW) (cl : Str → Option Addr) (mean : ExcName → Option Value) (args : List WData) (s₁ : Shared) (res : Result) (s' : Shared) : Prop :=
  GoodW c cl mean args s₁ res { s' with gens := #[] } ∧ AllBare s'.gens
theorem goodB_post {s₁ s' : Shared} {cw : ClaimW} {cl : Str → Option Addr} {mean : ExcName → Option Value} {args : List WData} {r : Result} {tabs : List (Addr × Addr)} (hT : TabsAt tabs s₁.heap) (hr : ∀ a x, cw.raises a x = false)
    (g : GoodB cw cl mean args { s₁ with heap := ghostOf s₁.heap tabs } r s') (gr : GrownAll tabs s'.heap) : GoodWG cw cl mean args s₁ r s' := by
  obtain ⟨⟨hc, hk, hos, _⟩, hg⟩ := g
  have tab : ∀ q ∈ tabs, isCodeTable s₁.heap q.2 ∧ s₁.heap.get? q.2 = some (tabObj #[]) ∧ ∃ ps, s'.heap.get? q.2 = some (tabObj ps) := fun q hq =>
    ⟨((hT q hq).1.tab (hT q hq).2).isCodeTable, (hT q hq).2, gr.get q hq⟩
  have mem : ∀ b, b ∈ tabs.map (·.2) → isCodeTable s₁.heap b ∧ s₁.heap.get? b = some (tabObj #[]) ∧ ∃ ps, s'.heap.get? b = some (tabObj ps) := fun b hb => by
    rcases List.mem_map.mp hb with ⟨q, hq, e⟩
    rw [← e]; exact tab q hq
  have other : ∀ b o, b ∉ tabs.map (·.2) → s₁.heap.get? b = some o → s'.heap.get? b = some o := fun b o hb e => hk b o (ghost_ne e hb)
  constructor
  · rcases hc with ⟨v, d, as, h1, h2, h3, h4, h5⟩ | ⟨e, ob, x, _, _, _, h4, _⟩
    · refine Or.inl ⟨v, d, as, h1, h2, h3, h4, fun hu => ⟨(h5 hu).1, fun a ha => ?_⟩⟩
      by_cases hb : a ∈ tabs.map (·.2)
      · obtain ⟨_, _, ps, hP⟩ := mem a hb
        exact absurd ha (readsW_apart hP rfl h3)
      · have h6 := (h5 hu).2 a ha
        cases ha' : s₁.heap.get? a with
        | none => rfl
        | some o =>
          have h7 : (ghostOf s₁.heap tabs).get? a = some o := ghost_ne ha' hb
          rw [show (ghostOf s₁.heap tabs).get? a = none from h6] at h7
          cases h7
    · rw [hr] at h4; cases h4
  · refine ⟨⟨fun b o e => ?_, fun b o e => ?_⟩, hos, hg⟩
    · by_cases hb : b ∈ tabs.map (·.2)
      · obtain ⟨hi, h2, ps, hP⟩ := mem b hb
        rw [h2] at e; cases e
        exact Or.inr (Or.inl ⟨hi, rfl, #[], ps, rfl, by rw [Array.empty_append]; exact hP⟩)
      · exact Or.inl (other b o hb e)
    · by_cases hb : b ∈ tabs.map (·.2)
      · obtain ⟨_, _, ps, hP⟩ := mem b hb
        exact ⟨_, hP⟩
      · exact ⟨_, other b o hb e⟩
theorem code_post {M : Model} {A : Around} {cd : Code} {s s₁ : Shared} {cw : ClaimW} {cl : Str → Option Addr} {mean : ExcName → Option Value} {args : List WData} {tabs : List (Addr × Addr)} (hT : TabsAt tabs s₁.heap) (hr : ∀ a x, cw.raises a x = false)
    (h : codeAny M A cd (fun r s' => GoodB cw cl mean args { s₁ with heap := ghostOf s₁.heap tabs } r s' ∧ GrownAll tabs s'.heap) s) : codeAny M A cd (GoodWG cw cl mean args s₁) s :=
  codeAny_mono h fun _ _ g => goodB_post hT hr g.1 g.2
end Mine
end
section
open PySem PySem.W PyProof.Rows
namespace Mine
local macro_rules | `(tactic| walk_at $s) => `(tactic| k_extra $s)
local macro_rules | `(tactic| k_all) => `(tactic| first | assumption | exact allLt_ne (by assumption) (by (try dsimp only); omega))
def Hid (p : Prop) : Prop := p
theorem Hid.out {p : Prop} (h : Hid p) : p := h
variable {prog : Program} {w : World} {A : Around} {E : Value → Shared → Prop} {s : Shared} {a b v : Int} {t u : Tok} {Q : Value → Shared → Prop}
theorem rsh_as (e : a.fdiv (2 ^ b.toNat) = v) (hn : 0 ≤ b) (h : Q (.int v s.toks) { s with toks := s.toks + 1 }) : wpAny (model prog w) A (binaryOp .RShift (.int a t) (.int b u)) Q E s :=
  rshift_int hn (by rw [e]; exact h)
theorem lsh_as (e : a * 2 ^ b.toNat = v) (hn : 0 ≤ b) (hn2 : b ≤ 1000000) (ha : a.natAbs < 2 ^ 64) (h : Q (.int v s.toks) { s with toks := s.toks + 1 }) : wpAny (model prog w) A (binaryOp .LShift (.int a t) (.int b u)) Q E s :=
  lshift_int_small hn hn2 ha (by rw [e]; exact h)
theorem xor_as (e : Builtin.bitXor a b = v) (h : Q (.int v s.toks) { s with toks := s.toks + 1 }) : wpAny (model prog w) A (binaryOp .BitXor (.int a t) (.int b u)) Q E s :=
  xor_int (by rw [e]; exact h)
theorem mul_as (e : a * b = v) (hm : IntMulOk a b) (h : Q (.int v s.toks) { s with toks := s.toks + 1 }) : wpAny (model prog w) A (binaryOp .Mult (.int a t) (.int b u)) Q E s :=
  mul_int (by rw [e]; exact h) hm
theorem inner_call {w : World} {p : Program} {loose : List Str} {mean : ExcName → Option Value} {mg mb : Str → Option Value} {base : Heap}
    {fI D cI cD cN : Nat} {c' : Addr} {q : Str} {doc mn ctv : Value} {oc oI oD oN : Obj} {vsc : Array Value} {t : Tok} {b : Nat} {tn : Tok} {rest : List (Addr × Obj)}
    (C : CodeHd base 37 33) (hne : ∀ p ∈ rest, p.1 ≠ D) (hlt : cN < cD ∧ cD < cI ∧ cI < D ∧ D < fI) (hcm : (c', oc) ∈ rest)
    (hoc : oc.data = .fields vsc) (hq : vsc[1]? = some (.str q t)) (hI : oI.data = .cell (some (.ref fI))) (hD : oD.data = .cell (some (.ref D))) (hN : oN.data = .cell (some (.int b tn)))
    {nm : Str} {ps : Arguments} {bd : List Stmt} {dl : List Expr} {re : Option Expr} {tp : List TypeParam} {sc : PySem.Scope} {ts : Option PySem.Scope} {bn : Str} {po : Pos} (hdef : inDef = .FunctionDef nm ps bd dl re tp sc ts bn po)
    (hb : 1 ≤ b ∧ b ≤ 8) : ∀ (k : Nat) {dp un : Nat} {gd : Option (List Code)} {cn : Str} {cs : PySem.Scope} {a : Addr} {ccd : Value} {cl : List (Str × Addr)} {outer : List Env} {A₀ : Around} {h₀ : Heap} {L : Addr} {m : Str → Option Value} {s : Shared} {Q : Value → Shared → Prop} {E : Value → Shared → Prop}
    {vs : List Value} {ns : List Int} {cnt : Nat} {x : Nat} {l r : Int} {tx tl tr : Tok} (hk1 : 1 ≤ k) (hk2 : k ≤ 16)
    (B : Below A₀ base outer h₀) (F : Fr h₀ L s.heap m) (X : (hd.heap_39 w.params).In h₀) (N : News h₀ L s.heap ((fI, fnMade (Str.ofString "inner") q ps bd sc [(Str.ofString "n", cN), (Str.ofString "inner", cI), (Str.ofString "a_digits", cD)] doc mn c' ctv) :: (D, W.listOf vs.toArray cnt) :: (cI, oI) :: (cD, oD) :: (cN, oN) :: rest)) (T : Top p loose mean mg mb h₀) (hk : cs.kind = .function)
    (hi : IntsAre vs ns) (hl : 0 ≤ l ∧ l + k ≤ ns.length) (hr : r = l + k) (hns : ns.length ≤ 16) (hx : x < 2 ^ (b * k))
    (hx64 : x < 2 ^ 64) (hdp : dp + 2 * k + 20 < recursionLimit) (hu : un + 10 * k + 100 < cLine)
    (ret : ∀ vs' cnt' h' tk', IntsAre vs' (fill ns l.toNat k b x) → Fr h₀ L h' m → News h₀ L h' ((fI, fnMade (Str.ofString "inner") q ps bd sc [(Str.ofString "n", cN), (Str.ofString "inner", cI), (Str.ofString "a_digits", cD)] doc mn c' ctv) :: (D, W.listOf vs'.toArray cnt') :: (cI, oI) :: (cD, oD) :: (cN, oN) :: rest) → Q .none { s with heap := h', toks := tk' }),
    wpAny (model PySem.Challenge.rw_ik0122_01.row.prog w) (ktrTop dp un gd cn cs L a ccd cl outer) (call (.ref fI) [.int (x : Int) tx, .int l tl, .int r tr]) Q E s := by
  injection hdef with e1 e2 e3 e4 e5 e6 e7
  subst e2 e3 e7
  clear e1 e4 e5 e6
  intro k
  induction k using Nat.strongRecOn with
  | ind k IH =>
  intro dp un gd cn cs a ccd cl outer A₀ h₀ L m s Q E vs ns cnt x l r tx tl tr hk1 hk2 B F X N T hk hi hl hr hns hx hx64 hdp hu ret
  revert X; k_fill; intro X
  refine wpAny_call ?_
  refine' code_nest ?k1FI ?k2FI ?k3FI ?k4FI ?k5FI ?kAFI ?kFFI ?kKFI ?k6FI ?k7FI ?k8FI ?k9FI ?kBFI ?_ ?c2FI ?c3FI ?c4FI ?c5FI; (case kAFI => exact rfl); (case kFFI => exact rfl); (case kKFI => assumption); (case k1FI => k_asm); (case k2FI => k_asm); (case k3FI => k_asm); (case k4FI => k_asm); (case k5FI => k_asm); (case k6FI => k_mem); (case k7FI => exact codeRec_news (by k_asm) (by repeat (first | exact hcm | apply List.mem_cons_of_mem)) (by assumption) (by assumption)); (case k8FI => ktr_room); (case k9FI => exact BindsTo.of_eq rfl); (case c5FI => decide); (case kBFI => exact locs rfl); (case c2FI => exact rfl); (case c3FI => exact rfl); (case c4FI => exact rfl); k_whole; intro g' L' h' FG' F' N' B' X' T'; (try dsimp only); (try k_lift B'); (try k_fold)
  by_cases h1 : k = 1
  · subst h1
    have hr' : r = l + 1 := by omega
    subst hr'
    k_with_none
    k_with "ite" => ((k_dflt (first
  | (refine' PySem.W.ite_pos ?cck0aFI ?_; (case cck0aFI => first | exact beq_self_eq_true _ | (simp only [beq_iff_eq, decide_eq_true_eq, bne_iff_ne, ne_eq]; omega)))
  | (refine' PySem.W.ite_neg ?cck0aFI ?_; (case cck0aFI => simp only [beq_iff_eq, decide_eq_true_eq, bne_iff_ne, ne_eq]; omega)))))
    k_with "eval Name" => ((k_dflt (refine' nameX_F ?Nk1aFI ?ck1aFI ?mk1aFI ?dk1aFI ?_ ?ak1aFI ?bk1aFI; (case ak1aFI => rfl); (case bk1aFI => rfl); (case Nk1aFI => k_asm); (case ck1aFI => rfl); (case mk1aFI => k_mem); (case dk1aFI => k_asm); k_whole)))
    k_with "setItem ref int" => (((k_dflt (refine' ksa_set ?k1k2aFI ?k2k2aFI ?k3k2aFI ?k4k2aFI ?k5k2aFI ?k6k2aFI ?k7k2aFI ?_; (case k1k2aFI => k_asm); (case k2k2aFI => k_asm); (case k3k2aFI => k_upd); (case k4k2aFI => assumption); (case k5k2aFI => omega); (case k6k2aFI => omega); (case k7k2aFI => omega); k_whole); intro h' F' N' hi' hl' hs'; (try k_sweep))))
    k_with "binaryOp RShift int int" => (((refine' rsh_as ?ek3aFI ?nk3aFI ?_; (case ek3aFI => first | assumption | exact Hid.out (by assumption)); (case nk3aFI => first | decide | omega))))
    k_with "binaryOp LShift int int" => (((refine' lsh_as ?ek4aFI ?nk4aFI ?n2k4aFI ?ak4aFI ?_; (case ek4aFI => assumption); (case nk4aFI => omega); (case n2k4aFI => omega); (case ak4aFI => assumption))))
    k_with "binaryOp BitXor int int" => (((refine' xor_as ?ek5aFI ?_; (case ek5aFI => assumption))))
    k_with "binaryOp Mult int int" => (((refine' mul_as ?ek6aFI ?ak6aFI ?_; (case ek6aFI => assumption); (case ak6aFI => assumption))))
    k_steps
    refine ret _ _ _ _ ?_ (by k_asm) (by k_asm)
    rw [fill_one (by omega) (by simpa using hx)]
    assumption
  · have h2 : l + 1 ≠ r := by omega
    obtain ⟨k1, hk1'⟩ : ∃ k1 : Nat, k1 = k / 2 := ⟨_, rfl⟩
    have f1 : Hid ((l + r).fdiv (2 ^ Int.toNat 1) = l + (k1 : Int)) := by
      show (l + r).fdiv 2 = _
      rw [Int.fdiv_eq_ediv_of_nonneg _ (by decide)]; omega
    obtain ⟨b1, b2⟩ : 1 ≤ k1 ∧ k1 < k := by clear f1; omega
    clear hk1'
    have f2 : (l + (k1 : Int) - l) * (b : Int) = ((b * k1 : Nat) : Int) := by rw [Int.natCast_mul, Int.mul_comm (b : Int)]; congr 1; omega
    have f2' : IntMulOk (l + (k1 : Int) - l) (b : Int) := IntMulOk.of_right (Nat.le_trans (intBits_le_64 (by omega) (by omega)) (by decide))
    have hpos : (0 : Nat) < 2 ^ (b * k1) := Nat.pow_pos (by decide)
    have f3 : (x : Int).fdiv (2 ^ ((b * k1 : Nat) : Int).toNat) = ((x / 2 ^ (b * k1) : Nat) : Int) := by
      rw [Int.toNat_natCast, Int.fdiv_eq_ediv_of_nonneg _ (Int.le_of_lt (Int.pow_pos (by decide)))]
      simp
    have f4 : ((x / 2 ^ (b * k1) : Nat) : Int) * 2 ^ ((b * k1 : Nat) : Int).toNat = ((x / 2 ^ (b * k1) * 2 ^ (b * k1) : Nat) : Int) := by
      rw [Int.toNat_natCast]
      simp
    have f4' : (((x / 2 ^ (b * k1) : Nat) : Int)).natAbs < 2 ^ 64 := by
      rw [Int.natAbs_natCast]
      exact Nat.lt_of_le_of_lt (Nat.div_le_self _ _) hx64
    have f5 : Builtin.bitXor (x : Int) ((x / 2 ^ (b * k1) * 2 ^ (b * k1) : Nat) : Int) = ((x % 2 ^ (b * k1) : Nat) : Int) := xor_low x (b * k1)
    have f6 : ((b * k1 : Nat) : Int) ≤ 128 := by
      have : b * k1 ≤ 8 * 16 := Nat.mul_le_mul hb.2 (by omega)
      omega
    have f7 : x % 2 ^ (b * k1) < 2 ^ (b * k1) := Nat.mod_lt _ hpos
    have f8 : x / 2 ^ (b * k1) < 2 ^ (b * (k - k1)) := lt_low (by omega) hx
    have g1 : x % 2 ^ (b * k1) < 2 ^ 64 := Nat.lt_of_le_of_lt (Nat.mod_le _ _) hx64
    have g2 : x / 2 ^ (b * k1) < 2 ^ 64 := Nat.lt_of_le_of_lt (Nat.div_le_self _ _) hx64
    k_with_none
    k_with "ite" => ((k_dflt (first
  | (refine' PySem.W.ite_pos ?cck0aFI ?_; (case cck0aFI => first | exact beq_self_eq_true _ | (simp only [beq_iff_eq, decide_eq_true_eq, bne_iff_ne, ne_eq]; omega)))
  | (refine' PySem.W.ite_neg ?cck0aFI ?_; (case cck0aFI => simp only [beq_iff_eq, decide_eq_true_eq, bne_iff_ne, ne_eq]; omega)))))
    k_with "eval Name" => ((k_dflt (refine' nameX_F ?Nk1aFI ?ck1aFI ?mk1aFI ?dk1aFI ?_ ?ak1aFI ?bk1aFI; (case ak1aFI => rfl); (case bk1aFI => rfl); (case Nk1aFI => k_asm); (case ck1aFI => rfl); (case mk1aFI => k_mem); (case dk1aFI => k_asm); k_whole)))
    k_with "setItem ref int" => (((k_dflt (refine' ksa_set ?k1k2aFI ?k2k2aFI ?k3k2aFI ?k4k2aFI ?k5k2aFI ?k6k2aFI ?k7k2aFI ?_; (case k1k2aFI => k_asm); (case k2k2aFI => k_asm); (case k3k2aFI => k_upd); (case k4k2aFI => assumption); (case k5k2aFI => omega); (case k6k2aFI => omega); (case k7k2aFI => omega); k_whole); intro h' F' N' hi' hl' hs'; (try k_sweep))))
    k_with "binaryOp RShift int int" => (((refine' rsh_as ?ek3aFI ?nk3aFI ?_; (case ek3aFI => first | assumption | exact Hid.out (by assumption)); (case nk3aFI => first | decide | omega))))
    k_with "binaryOp LShift int int" => (((refine' lsh_as ?ek4aFI ?nk4aFI ?n2k4aFI ?ak4aFI ?_; (case ek4aFI => assumption); (case nk4aFI => omega); (case n2k4aFI => omega); (case ak4aFI => assumption))))
    k_with "binaryOp BitXor int int" => (((refine' xor_as ?ek5aFI ?_; (case ek5aFI => assumption))))
    k_with "binaryOp Mult int int" => (((refine' mul_as ?ek6aFI ?ak6aFI ?_; (case ek6aFI => assumption); (case ak6aFI => assumption))))
    k_with "call ref" => ((k_dflt ((first
      | (refine' IH k1 ?h1k7aFI ?h2k7aFI ?h3k7aFI ?Bk7aFI ?Fk7aFI ?Xk7aFI ?Nk7aFI ?Tk7aFI ?hkk7aFI ?hik7aFI ?hlk7aFI ?hrk7aFI ?hnsk7aFI ?hxk7aFI ?h64k7aFI ?hdpk7aFI ?huk7aFI ?_; (case Bk7aFI => k_asm); (case Fk7aFI => k_asm); (case Xk7aFI => k_asm); (case Nk7aFI => k_asm); (case Tk7aFI => k_asm); (case hkk7aFI => first | rfl | assumption); (case hik7aFI => assumption); (case hxk7aFI => assumption); (case h64k7aFI => assumption); (case h1k7aFI => omega); (case h2k7aFI => omega); (case h3k7aFI => omega); (case hlk7aFI => omega); (case hrk7aFI => omega); (case hnsk7aFI => omega); (case hdpk7aFI => dsimp only; omega); (case huk7aFI => dsimp only; omega); intro vs' cnt' h' tk' hi' F' N'; have hlen := fill_len (ns := ns) (l := l.toNat) (k := k1) (b := b) (x := x % 2 ^ (b * k1)) (by omega))
      | (refine' IH (k - k1) ?h1k7aFI ?h2k7aFI ?h3k7aFI ?Bk7aFI ?Fk7aFI ?Xk7aFI ?Nk7aFI ?Tk7aFI ?hkk7aFI ?hik7aFI ?hlk7aFI ?hrk7aFI ?hnsk7aFI ?hxk7aFI ?h64k7aFI ?hdpk7aFI ?huk7aFI ?_; (case Bk7aFI => k_asm); (case Fk7aFI => k_asm); (case Xk7aFI => k_asm); (case Nk7aFI => k_asm); (case Tk7aFI => k_asm); (case hkk7aFI => first | rfl | assumption); (case hik7aFI => assumption); (case hxk7aFI => assumption); (case h64k7aFI => assumption); (case h1k7aFI => omega); (case h2k7aFI => omega); (case h3k7aFI => omega); (case hlk7aFI => omega); (case hrk7aFI => omega); (case hnsk7aFI => omega); (case hdpk7aFI => dsimp only; omega); (case huk7aFI => dsimp only; omega); intro vs' cnt' h' tk' hi' F' N'; have hlen := fill_len (ns := ns) (l := l.toNat) (k := k1) (b := b) (x := x % 2 ^ (b * k1)) (by omega))))))
    k_steps
    refine ret _ _ _ _ ?_ (by k_asm) (by k_asm)
    have e1 : (l + (k1 : Int)).toNat = l.toNat + k1 := by omega
    rw [← fill_split (k1 := k1) (by omega) (by omega), ← e1]
    assumption
theorem walksFDfFNfFBgFCgFJFWFS4FKfFUf :
  (∀ {w : World} {p : Program} {loose : List Str} {mean : ExcName → Option Value} {mg mb : Str → Option Value}
    {dp un : Nat} {gd : Option (List Code)} {cn : Str} {cs : PySem.Scope} {a : Addr} {ccd : Value} {cl : List (Str × Addr)} {outer : List Env} {A₀ : Around} {base h₀ : Heap} {L : Addr} {m : Str → Option Value} {s : Shared} {Q : Value → Shared → Prop} {E : Value → Shared → Prop}
    {rest : List (Addr × Obj)} {x n : Int} {tx tn : Tok} {K x0 b : Nat} 
    (B : Below A₀ base outer h₀) (F : Fr h₀ L s.heap m) (X : (hd.heap_39 w.params).In h₀) (N : News h₀ L s.heap ((33, tabObj #[]) :: rest)) (T : Top p loose mean mg mb h₀) (hk : cs.kind = .function) (C : CodeHd base 37 33) (h33 : ∀ p ∈ rest, p.1 ≠ 33) (hx : x = (x0 : Int)) (hx64 : x0 < 2 ^ 60) (hn : n = (b : Int)) (hb : 1 ≤ b ∧ b ≤ 8) (hK : ((Builtin.Int.intBits x : Int) + n - 1).fdiv n = (K : Int)) (hK0 : x0 ≠ 0 → 1 ≤ K) (hK1 : K ≤ 16) (hKX : x0 < 2 ^ (b * K))
    (hdp : dp + 80 < recursionLimit) (hu : un + 400 < cLine)
    (ret : ∀ D' c' vs' cnt' oc' vsc' t' h' tk', IntsAre vs' (digs b K x0) → AllLt c' rest → oc'.data = .fields vsc' → vsc'[1]? = some (.str (Str.ofString "_int2digits.<locals>.inner") t') → Fr h₀ L h' m → News h₀ L h' ((D', W.listOf vs'.toArray cnt') :: (33, tabObj #[rawInt 6, rawInt 4, .ref c']) :: (c', oc') :: rest) → Q (.ref D') { s with heap := h', toks := tk' }),
    wpAny (model PySem.Challenge.rw_ik0122_01.row.prog w) (ktrTop dp un gd cn cs L a ccd cl outer) (call (.ref 38) [.int x tx, .int n tn]) Q E s) ∧
  (∀ {w : World} {p : Program} {loose : List Str} {mean : ExcName → Option Value} {mg mb : Str → Option Value}
    {dp un : Nat} {gd : Option (List Code)} {cn : Str} {cs : PySem.Scope} {a : Addr} {ccd : Value} {cl : List (Str × Addr)} {outer : List Env} {A₀ : Around} {base h₀ : Heap} {L : Addr} {m : Str → Option Value} {s : Shared} {Q : Value → Shared → Prop} {E : Value → Shared → Prop}
    {rest : List (Addr × Obj)} {x n : Int} {tx tn : Tok} {K x0 b : Nat} {c' : Addr} {oc : Obj} {vsc : Array Value} {t : Tok} (hoc : oc.data = .fields vsc) (hq : vsc[1]? = some (.str (Str.ofString "_int2digits.<locals>.inner") t))
    (B : Below A₀ base outer h₀) (F : Fr h₀ L s.heap m) (X : (hd.heap_39 w.params).In h₀) (N : News h₀ L s.heap ((33, tabObj #[rawInt 6, rawInt 4, .ref c']) :: (c', oc) :: rest)) (T : Top p loose mean mg mb h₀) (hk : cs.kind = .function) (C : CodeHd base 37 33) (h33 : ∀ p ∈ rest, p.1 ≠ 33) (hx : x = (x0 : Int)) (hx64 : x0 < 2 ^ 60) (hn : n = (b : Int)) (hb : 1 ≤ b ∧ b ≤ 8) (hK : ((Builtin.Int.intBits x : Int) + n - 1).fdiv n = (K : Int)) (hK0 : x0 ≠ 0 → 1 ≤ K) (hK1 : K ≤ 16) (hKX : x0 < 2 ^ (b * K))
    (hdp : dp + 80 < recursionLimit) (hu : un + 400 < cLine)
    (ret : ∀ D' vs' cnt' h' tk', IntsAre vs' (digs b K x0) → (33 < D' ∧ AllLt D' rest) → Fr h₀ L h' m → News h₀ L h' ((D', W.listOf vs'.toArray cnt') :: (33, tabObj #[rawInt 6, rawInt 4, .ref c']) :: (c', oc) :: rest) → Q (.ref D') { s with heap := h', toks := tk' }),
    wpAny (model PySem.Challenge.rw_ik0122_01.row.prog w) (ktrTop dp un gd cn cs L a ccd cl outer) (call (.ref 38) [.int x tx, .int n tn]) Q E s) ∧
  (∀ {w : World} {p : Program} {loose : List Str} {mean : ExcName → Option Value} {mg mb : Str → Option Value}
    {dp un : Nat} {gd : Option (List Code)} {cn : Str} {cs : PySem.Scope} {a : Addr} {ccd : Value} {cl : List (Str × Addr)} {outer : List Env} {A₀ : Around} {base h₀ : Heap} {L : Addr} {m : Str → Option Value} {s : Shared} {Q : Value → Shared → Prop} {E : Value → Shared → Prop}
    {rest : List (Addr × Obj)} {r0 : Nat} {rs : List Nat} {tx : Tok}
    (B : Below A₀ base outer h₀) (F : Fr h₀ L s.heap m) (X : (hd.heap_39 w.params).In h₀) (N : News h₀ L s.heap rest) (T : Top p loose mean mg mb h₀) (hk : cs.kind = .function) (hrs : rs.length = 9)
    (hdp : dp + 20 < recursionLimit) (hu : un + 100 < cLine)
    (ret : ∀ t h' tk', Fr h₀ L h' m → News h₀ L h' rest → Q (.str (S (leastP r0 rs)) t) { s with heap := h', toks := tk' }),
    wpAny (model PySem.Challenge.rw_ik0122_01.row.prog w) (ktrTop dp un gd cn cs L a ccd cl outer) (call (.ref 144) [.str (S (r0 :: rs)) tx]) Q E s) ∧
  (∀ {w : World} {p : Program} {loose : List Str} {mean : ExcName → Option Value} {mg mb : Str → Option Value}
    {dp un : Nat} {gd : Option (List Code)} {cn : Str} {cs : PySem.Scope} {a : Addr} {ccd : Value} {cl : List (Str × Addr)} {outer : List Env} {A₀ : Around} {base h₀ : Heap} {L : Addr} {m : Str → Option Value} {s : Shared} {Q : Value → Shared → Prop} {E : Value → Shared → Prop}
    {rest : List (Addr × Obj)} {r0 : Nat} {rs : List Nat} {tx : Tok}
    (B : Below A₀ base outer h₀) (F : Fr h₀ L s.heap m) (X : (hd.heap_39 w.params).In h₀) (N : News h₀ L s.heap rest) (T : Top p loose mean mg mb h₀) (hk : cs.kind = .function) (hrs : rs.length = 9)
    (hdp : dp + 20 < recursionLimit) (hu : un + 100 < cLine)
    (ret : ∀ t h' tk', Fr h₀ L h' m → News h₀ L h' rest → Q (.str (S (mostP r0 rs)) t) { s with heap := h', toks := tk' }),
    wpAny (model PySem.Challenge.rw_ik0122_01.row.prog w) (ktrTop dp un gd cn cs L a ccd cl outer) (call (.ref 151) [.str (S (r0 :: rs)) tx]) Q E s) ∧
  (∀ {w : World} {p : Program} {loose : List Str} {mean : ExcName → Option Value} {mg mb : Str → Option Value}
    {dp un : Nat} {gd : Option (List Code)} {cn : Str} {cs : PySem.Scope} {a : Addr} {ccd : Value} {cl : List (Str × Addr)} {outer : List Env} {A₀ : Around} {base h₀ : Heap} {L : Addr} {m : Str → Option Value} {s : Shared} {Q : Value → Shared → Prop} {E : Value → Shared → Prop}
    {rest : List (Addr × Obj)} {vsI : List Value} {xs : List (List Nat)} {inp ic star : Nat}
    (B : Below A₀ base outer h₀) (F : Fr h₀ L s.heap m) (X : (hd.heap_39 w.params).In h₀) (N : News h₀ L s.heap ((inp, W.listOf vsI.toArray ic) :: rest)) (T : Top p loose mean mg mb h₀) (hk : cs.kind = .function)
    (hv : StrsAre vsI (xs.map S)) (hn : vsI.length ≤ 100) (hfl : xs.flatten.length ≤ 1000)
    (hdp : dp + 20 < recursionLimit) (hu : un + 100 < cLine)
    (ret : ∀ t h' tk', Fr h₀ L h' m → News h₀ L h' ((inp, W.listOf vsI.toArray ic) :: rest) → Q (.str (S ([40, 63, 115, 58] ++ xs.flatten ++ [41, 92, 90])) t) { s with heap := h', toks := tk' }),
    wpAny (model PySem.Challenge.rw_ik0122_01.row.prog w) (ktrTop dp un gd cn cs L a ccd cl outer) (call (.ref 76) [.ref inp, .ref star]) Q E s) ∧
  (∀ {w : World} {p : Program} {loose : List Str} {mean : ExcName → Option Value} {mg mb : Str → Option Value}
    {dp un : Nat} {gd : Option (List Code)} {cn : Str} {cs : PySem.Scope} {a : Addr} {ccd : Value} {cl : List (Str × Addr)} {outer : List Env} {A₀ : Around} {base h₀ : Heap} {L : Addr} {m : Str → Option Value} {s : Shared} {Q : Value → Shared → Prop} {E : Value → Shared → Prop}
    {rest : List (Addr × Obj)} {mode : Int} {tm : Tok}
    (B : Below A₀ base outer h₀) (F : Fr h₀ L s.heap m) (X : (hd.heap_39 w.params).In h₀) (N : News h₀ L s.heap rest) (T : Top p loose mean mg mb h₀) (hk : cs.kind = .function)
    (hdp : dp + 40 < recursionLimit) (hu : un + 200 < cLine)
    (ret : ∀ t h' tk', Fr h₀ L h' m → News h₀ L h' rest → Q (.str (S (rowL mode)) t) { s with heap := h', toks := tk' }),
    wpAny (model PySem.Challenge.rw_ik0122_01.row.prog w) (ktrTop dp un gd cn cs L a ccd cl outer) (call (.ref 123) [.int mode tm]) Q E s) ∧
  (∀ {w : World} {p : Program} {loose : List Str} {mean : ExcName → Option Value} {mg mb : Str → Option Value}
    {dp un : Nat} {gd : Option (List Code)} {cn : Str} {cs : PySem.Scope} {a : Addr} {ccd : Value} {cl : List (Str × Addr)} {outer : List Env} {A₀ : Around} {base h₀ : Heap} {L : Addr} {m : Str → Option Value} {s : Shared} {Q : Value → Shared → Prop} {E : Value → Shared → Prop}
    {rest : List (Addr × Obj)} {tp : Tok} {toks sets : List (List Nat)}
    (B : Below A₀ base outer h₀) (F : Fr h₀ L s.heap m) (X : (hd.heap_39 w.params).In h₀) (N : News h₀ L s.heap rest) (T : Top p loose mean mg mb h₀) (hk : cs.kind = .function)
    (hT : Sks toks sets) (hl : toks.length ≤ 20) (hPl : toks.flatten.length ≤ 100)
    (hdp : dp + 40 < recursionLimit) (hu : un + 200 < cLine)
    (ret : ∀ (D : Nat) vs cnt h' tk', StrsAre vs (sets.map S) → (∀ p ∈ rest, p.1 < D) → Fr h₀ L h' m → News h₀ L h' ((D, W.listOf vs.toArray cnt) :: rest) → Q (.ref D) { s with heap := h', toks := tk' }),
    wpAny (model PySem.Challenge.rw_ik0122_01.row.prog w) (ktrTop dp un gd cn cs L a ccd cl outer) (call (.ref 158) [.str (S ([40, 63, 115, 58] ++ toks.flatten ++ [41, 92, 90])) tp]) Q E s) ∧
  (∀ {w : World} {p : Program} {loose : List Str} {mean : ExcName → Option Value} {mg mb : Str → Option Value}
    {dp un : Nat} {gd : Option (List Code)} {cn : Str} {cs : PySem.Scope} {a : Addr} {ccd : Value} {cl : List (Str × Addr)} {outer : List Env} {A₀ : Around} {base h₀ : Heap} {L : Addr} {m : Str → Option Value} {s : Shared} {Q : Value → Shared → Prop} {E : Value → Shared → Prop}
    {rest : List (Addr × Obj)} {tr : Tok} {sets : List (List Nat)} {r : List Nat} {D cnt : Nat} {vs : List Value}
    (B : Below A₀ base outer h₀) (F : Fr h₀ L s.heap m) (X : (hd.heap_39 w.params).In h₀) (N : News h₀ L s.heap ((D, W.listOf vs.toArray cnt) :: rest)) (T : Top p loose mean mg mb h₀) (hk : cs.kind = .function)
    (hv : StrsAre vs (sets.map S)) (hs : sets.length = 10) (hr : r.length = 10)
    (hdp : dp + 40 < recursionLimit) (hu : un + 200 < cLine)
    (ret : ∀ h' tk', Fr h₀ L h' m → News h₀ L h' ((D, W.listOf vs.toArray cnt) :: rest) → Q (.bool (takes sets r)) { s with heap := h', toks := tk' }),
    wpAny (model PySem.Challenge.rw_ik0122_01.row.prog w) (ktrTop dp un gd cn cs L a ccd cl outer) (call (.ref 163) [.ref D, .str (S r) tr]) Q E s) ∧
  (∀ {w : World} {p : Program} {loose : List Str} {mean : ExcName → Option Value} {mg mb : Str → Option Value}
    {dp un : Nat} {gd : Option (List Code)} {cn : Str} {cs : PySem.Scope} {a : Addr} {ccd : Value} {cl : List (Str × Addr)} {outer : List Env} {A₀ : Around} {base h₀ : Heap} {L : Addr} {m : Str → Option Value} {s : Shared} {Q : Value → Shared → Prop} {E : Value → Shared → Prop}
    {rest : List (Addr × Obj)} {l cnt : Nat} {f0 f1 f2 f3 : Int} {t0 t1 t2 t3 : Tok}
    (B : Below A₀ base outer h₀) (F : Fr h₀ L s.heap m) (X : (hd.heap_39 w.params).In h₀) (N : News h₀ L s.heap ((l, W.listOf #[.int f0 t0, .int f1 t1, .int f2 t2, .int f3 t3] cnt) :: rest)) (T : Top p loose mean mg mb h₀) (hk : cs.kind = .function)
    (hdp : dp + 40 < recursionLimit) (hu : un + 200 < cLine)
    (ret : ∀ (R : Nat) t h' tk', R < 4096 → Fr h₀ L h' m → News h₀ L h' ((l, W.listOf #[.int f0 t0, .int f1 t1, .int f2 t2, .int f3 t3] cnt) :: rest) → Q (.int (R : Int) t) { s with heap := h', toks := tk' }),
    wpAny (model PySem.Challenge.rw_ik0122_01.row.prog w) (ktrTop dp un gd cn cs L a ccd cl outer) (call (.ref 130) [.ref l]) Q E s) := ⟨
  fun {w : World} {p : Program} {loose : List Str} {mean : ExcName → Option Value} {mg mb : Str → Option Value}
    {dp un : Nat} {gd : Option (List Code)} {cn : Str} {cs : PySem.Scope} {a : Addr} {ccd : Value} {cl : List (Str × Addr)} {outer : List Env} {A₀ : Around} {base h₀ : Heap} {L : Addr} {m : Str → Option Value} {s : Shared} {Q : Value → Shared → Prop} {E : Value → Shared → Prop}
    {rest : List (Addr × Obj)} {x n : Int} {tx tn : Tok} {K x0 b : Nat} 
    (B : Below A₀ base outer h₀) (F : Fr h₀ L s.heap m) (X : (hd.heap_39 w.params).In h₀) (N : News h₀ L s.heap ((33, tabObj #[]) :: rest)) (T : Top p loose mean mg mb h₀) (hk : cs.kind = .function) (C : CodeHd base 37 33) (h33 : ∀ p ∈ rest, p.1 ≠ 33) (hx : x = (x0 : Int)) (hx64 : x0 < 2 ^ 60) (hn : n = (b : Int)) (hb : 1 ≤ b ∧ b ≤ 8) (hK : ((Builtin.Int.intBits x : Int) + n - 1).fdiv n = (K : Int)) (hK0 : x0 ≠ 0 → 1 ≤ K) (hK1 : K ≤ 16) (hKX : x0 < 2 ^ (b * K))
    (hdp : dp + 80 < recursionLimit) (hu : un + 400 < cLine)
    (ret : ∀ D' c' vs' cnt' oc' vsc' t' h' tk', IntsAre vs' (digs b K x0) → AllLt c' rest → oc'.data = .fields vsc' → vsc'[1]? = some (.str (Str.ofString "_int2digits.<locals>.inner") t') → Fr h₀ L h' m → News h₀ L h' ((D', W.listOf vs'.toArray cnt') :: (33, tabObj #[rawInt 6, rawInt 4, .ref c']) :: (c', oc') :: rest) → Q (.ref D') { s with heap := h', toks := tk' }) => by
  subst hn hx
  revert X; k_fill; intro X
  refine wpAny_call ?_
  k_dflt (refine' code_defC ?k1FDf ?k2FDf ?k3FDf ?k4FDf ?k5FDf ?kAFDf ?kFFDf ?kKFDf ?k6FDf ?k7FDf ?k8FDf ?k9FDf ?kBFDf ?kDFDf ?_ ?c2FDf ?c3FDf ?c4FDf; (case kAFDf => exact rfl); (case kFFDf => exact rfl); (case kKFDf => assumption); (case k1FDf => k_asm); (case k2FDf => k_asm); (case k3FDf => k_asm); (case k4FDf => k_asm); (case k5FDf => k_asm); (case k6FDf => k_is); (case k7FDf => k_is); (case k8FDf => ktr_room); (case k9FDf => exact BindsTo.of_eq rfl); (case kBFDf => exact rfl); (case kDFDf => decide +kernel); (case c2FDf => exact rfl); (case c3FDf => exact rfl); (case c4FDf => exact rfl); k_whole; intro g' L' h' tk' cells' FG' F' N' Y' B' X' T' l1; (try k_lt l1); k_cells Y'; (try simp only [List.cons_append, List.nil_append] at N'); (try dsimp only); (try k_lift B'); (try k_fold))
  have hal : AllLt L' rest := l1.2
  k_with_none
  k_with "execs cons" => ((k_dflt ((first | k_gentoks | ((with_reducible refine wpAny_execs_cons ?_); (try dsimp only); (try k_fold))))))
  k_with "call ref" => ((k_dflt (((rename News _ _ _ _ => lN); refine' inner_call (hb := hb) ?Ck1aFDf ?hnek1aFDf ?hltk1aFDf ?hcmk1aFDf ?hock1aFDf ?hqk1aFDf ?hIk1aFDf ?hDk1aFDf ?hNk1aFDf ?hdefk1aFDf K ?h1k1aFDf ?h2k1aFDf ?Bk1aFDf ?Fk1aFDf ?Xk1aFDf ?Nk1aFDf ?Tk1aFDf ?hkk1aFDf ?hik1aFDf ?hlk1aFDf ?hrk1aFDf ?hnsk1aFDf ?hxk1aFDf ?h64k1aFDf ?hdpk1aFDf ?huk1aFDf ?_; (case Nk1aFDf => exact news_swap1 lN); (case hIk1aFDf => assumption); (case hcmk1aFDf => k_mem); (case hock1aFDf => assumption); (case hqk1aFDf => assumption); (case hDk1aFDf => assumption); (case hNk1aFDf => assumption); (case hdefk1aFDf => exact rfl); (case Ck1aFDf => exact C); (case Bk1aFDf => k_asm); (case Fk1aFDf => k_asm); (case Xk1aFDf => k_asm); (case Tk1aFDf => k_asm); (case hkk1aFDf => first | rfl | assumption); (case hik1aFDf => assumption); (case hlk1aFDf => omega); (case hrk1aFDf => omega); (case hnsk1aFDf => omega); (case hxk1aFDf => exact hKX); (case h64k1aFDf => omega); (case h1k1aFDf => omega); (case h2k1aFDf => omega); (case hltk1aFDf => omega); (case hnek1aFDf => k_all); (case hdpk1aFDf => dsimp only; omega); (case huk1aFDf => dsimp only; omega); intro vs' cnt' h' tk' hi' F' N'))))
  k_steps
  (rename News _ _ _ _ => lN; refine ret _ _ _ _ _ _ _ _ _ ?_ ?_ (by assumption) (by with_unfolding_all assumption) (by k_asm) (pick1 lN); exact ints_full (by assumption) hK; exact (by assumption : _ ∧ _ ∧ _ ∧ _ ∧ _ ∧ _ ∧ AllLt _ rest).2.2.2.2.2.2)
  (rename News _ _ _ _ => lN; refine ret _ _ _ _ _ _ _ _ _ ?_ ?_ (by assumption) (by with_unfolding_all assumption) (by k_asm) (pick2 lN); exact ints_zero (by assumption) hK (by assumption); exact (by assumption : _ ∧ _ ∧ _ ∧ _ ∧ _ ∧ _ ∧ AllLt _ rest).2.2.2.2.2.2)
,
  fun {w : World} {p : Program} {loose : List Str} {mean : ExcName → Option Value} {mg mb : Str → Option Value}
    {dp un : Nat} {gd : Option (List Code)} {cn : Str} {cs : PySem.Scope} {a : Addr} {ccd : Value} {cl : List (Str × Addr)} {outer : List Env} {A₀ : Around} {base h₀ : Heap} {L : Addr} {m : Str → Option Value} {s : Shared} {Q : Value → Shared → Prop} {E : Value → Shared → Prop}
    {rest : List (Addr × Obj)} {x n : Int} {tx tn : Tok} {K x0 b : Nat} {c' : Addr} {oc : Obj} {vsc : Array Value} {t : Tok} (hoc : oc.data = .fields vsc) (hq : vsc[1]? = some (.str (Str.ofString "_int2digits.<locals>.inner") t))
    (B : Below A₀ base outer h₀) (F : Fr h₀ L s.heap m) (X : (hd.heap_39 w.params).In h₀) (N : News h₀ L s.heap ((33, tabObj #[rawInt 6, rawInt 4, .ref c']) :: (c', oc) :: rest)) (T : Top p loose mean mg mb h₀) (hk : cs.kind = .function) (C : CodeHd base 37 33) (h33 : ∀ p ∈ rest, p.1 ≠ 33) (hx : x = (x0 : Int)) (hx64 : x0 < 2 ^ 60) (hn : n = (b : Int)) (hb : 1 ≤ b ∧ b ≤ 8) (hK : ((Builtin.Int.intBits x : Int) + n - 1).fdiv n = (K : Int)) (hK0 : x0 ≠ 0 → 1 ≤ K) (hK1 : K ≤ 16) (hKX : x0 < 2 ^ (b * K))
    (hdp : dp + 80 < recursionLimit) (hu : un + 400 < cLine)
    (ret : ∀ D' vs' cnt' h' tk', IntsAre vs' (digs b K x0) → (33 < D' ∧ AllLt D' rest) → Fr h₀ L h' m → News h₀ L h' ((D', W.listOf vs'.toArray cnt') :: (33, tabObj #[rawInt 6, rawInt 4, .ref c']) :: (c', oc) :: rest) → Q (.ref D') { s with heap := h', toks := tk' }) => by
  subst hn hx
  revert X; k_fill; intro X
  refine wpAny_call ?_
  k_dflt (refine' code_defC ?k1FNf ?k2FNf ?k3FNf ?k4FNf ?k5FNf ?kAFNf ?kFFNf ?kKFNf ?k6FNf ?k7FNf ?k8FNf ?k9FNf ?kBFNf ?kDFNf ?_ ?c2FNf ?c3FNf ?c4FNf; (case kAFNf => exact rfl); (case kFFNf => exact rfl); (case kKFNf => assumption); (case k1FNf => k_asm); (case k2FNf => k_asm); (case k3FNf => k_asm); (case k4FNf => k_asm); (case k5FNf => k_asm); (case k6FNf => k_is); (case k7FNf => k_is); (case k8FNf => ktr_room); (case k9FNf => exact BindsTo.of_eq rfl); (case kBFNf => exact rfl); (case kDFNf => decide +kernel); (case c2FNf => exact rfl); (case c3FNf => exact rfl); (case c4FNf => exact rfl); k_whole; intro g' L' h' tk' cells' FG' F' N' Y' B' X' T' l1; (try k_lt l1); k_cells Y'; (try simp only [List.cons_append, List.nil_append] at N'); (try dsimp only); (try k_lift B'); (try k_fold))
  have hal : AllLt L' rest := l1.2.2
  k_with_none
  k_with "execs cons" => ((k_dflt ((first | k_gentoks | ((with_reducible refine wpAny_execs_cons ?_); (try dsimp only); (try k_fold))))))
  k_with "call ref" => ((k_dflt (((rename News _ _ _ _ => lN); refine' inner_call (hb := hb) ?Ck1aFNf ?hnek1aFNf ?hltk1aFNf ?hcmk1aFNf ?hock1aFNf ?hqk1aFNf ?hIk1aFNf ?hDk1aFNf ?hNk1aFNf ?hdefk1aFNf K ?h1k1aFNf ?h2k1aFNf ?Bk1aFNf ?Fk1aFNf ?Xk1aFNf ?Nk1aFNf ?Tk1aFNf ?hkk1aFNf ?hik1aFNf ?hlk1aFNf ?hrk1aFNf ?hnsk1aFNf ?hxk1aFNf ?h64k1aFNf ?hdpk1aFNf ?huk1aFNf ?_; (case Nk1aFNf => exact news_swap2 lN); (case hIk1aFNf => assumption); (case hcmk1aFNf => k_mem); (case hock1aFNf => assumption); (case hqk1aFNf => with_unfolding_all exact hq); (case hDk1aFNf => assumption); (case hNk1aFNf => assumption); (case hdefk1aFNf => exact rfl); (case Ck1aFNf => exact C); (case Bk1aFNf => k_asm); (case Fk1aFNf => k_asm); (case Xk1aFNf => k_asm); (case Tk1aFNf => k_asm); (case hkk1aFNf => first | rfl | assumption); (case hik1aFNf => assumption); (case hlk1aFNf => omega); (case hrk1aFNf => omega); (case hnsk1aFNf => omega); (case hxk1aFNf => exact hKX); (case h64k1aFNf => omega); (case h1k1aFNf => omega); (case h2k1aFNf => omega); (case hltk1aFNf => omega); (case hnek1aFNf => k_all); (case hdpk1aFNf => dsimp only; omega); (case huk1aFNf => dsimp only; omega); intro vs' cnt' h' tk' hi' F' N'))))
  k_steps
  (rename News _ _ _ _ => lN; refine ret _ _ _ _ _ ?_ ?_ (by k_asm) (pick3 lN); exact ints_full (by assumption) hK; have hh := (by assumption : _ ∧ _ ∧ _ ∧ _ ∧ _ ∧ _ ∧ AllLt _ rest); exact ⟨hh.2.2.2.2.1, hh.2.2.2.2.2.2⟩)
  (rename News _ _ _ _ => lN; refine ret _ _ _ _ _ ?_ ?_ (by k_asm) (pick4 lN); exact ints_zero (by assumption) hK (by assumption); have hh := (by assumption : _ ∧ _ ∧ _ ∧ _ ∧ _ ∧ _ ∧ AllLt _ rest); exact ⟨hh.2.2.2.2.1, hh.2.2.2.2.2.2⟩)
,
  fun {w : World} {p : Program} {loose : List Str} {mean : ExcName → Option Value} {mg mb : Str → Option Value}
    {dp un : Nat} {gd : Option (List Code)} {cn : Str} {cs : PySem.Scope} {a : Addr} {ccd : Value} {cl : List (Str × Addr)} {outer : List Env} {A₀ : Around} {base h₀ : Heap} {L : Addr} {m : Str → Option Value} {s : Shared} {Q : Value → Shared → Prop} {E : Value → Shared → Prop}
    {rest : List (Addr × Obj)} {r0 : Nat} {rs : List Nat} {tx : Tok}
    (B : Below A₀ base outer h₀) (F : Fr h₀ L s.heap m) (X : (hd.heap_39 w.params).In h₀) (N : News h₀ L s.heap rest) (T : Top p loose mean mg mb h₀) (hk : cs.kind = .function) (hrs : rs.length = 9)
    (hdp : dp + 20 < recursionLimit) (hu : un + 100 < cLine)
    (ret : ∀ t h' tk', Fr h₀ L h' m → News h₀ L h' rest → Q (.str (S (leastP r0 rs)) t) { s with heap := h', toks := tk' }) => by
  revert X; k_fill; intro X
  refine wpAny_call ?_
  k_dflt cell_enter
  have hx : (S (r0 :: rs)).length = 10 := by rw [S_len, List.length_cons, hrs]
  k_with_none
  k_with "exec For Name Call cons nil" => ((((rename Fr _ _ _ _ => lF'); (with_unfolding_all refine' For_invVF lF' ?k1k0aFBg ?k2k0aFBg ?_; (case k1k0aFBg => exact rfl); (case k2k0aFBg => exact rfl); k_whole))))
  k_with "exec For Name Subscript cons nil" => ((((rename Fr _ _ _ _ => lF'); (with_unfolding_all refine' For_invVF lF' ?k1k1aFBg ?k2k1aFBg ?_; (case k1k1aFBg => exact rfl); (case k2k1aFBg => exact rfl); k_whole))))
  k_with "execs cons" => ((k_dflt ((first | k_gentoks | ((with_reducible refine wpAny_execs_cons ?_); (try dsimp only); (try k_fold))))))
  k_with "pyIter ref" => ((k_dflt (((repeat (rename (_ + _ ≤ PySem.Str.length _) ∧ (PySem.Str.length _ ≤ _ + _) => hz9; clear hz9)); (try (rename (1 ≤ PySem.Str.length _) ∧ (PySem.Str.length _ ≤ 1) => hz8; clear hz8)); k_state (fun (pre : List Int) p => p = S (leastP r0 (rs.take pre.length)) ∧ p.length ≤ 3 + 4 * pre.length) "pattern"))))
  k_with "state" => (refine leastPair ?_; with_reducible (first
    | exact start_least
    | exact least1 (by assumption) (by assumption) (by omega) (by assumption)
    | exact least2 (by assumption) (by assumption) (by omega) (by assumption) (by assumption) (by omega)
    | exact least3 (by assumption) (by assumption) (by omega) (by assumption) (by assumption) (by omega)
    | exact least4 (by assumption) (by assumption) (by omega) (by assumption) (by assumption)))
  k_steps
  refine cb_retS ret ?_ (by k_asm) (by k_asm)
  (with_reducible rename _ = S (leastP _ _) => hE)
  rw [hE, rangeKs_length]
  congr 2
  rw [List.take_of_length_le]
  rw [hrs]; decide
,
  fun {w : World} {p : Program} {loose : List Str} {mean : ExcName → Option Value} {mg mb : Str → Option Value}
    {dp un : Nat} {gd : Option (List Code)} {cn : Str} {cs : PySem.Scope} {a : Addr} {ccd : Value} {cl : List (Str × Addr)} {outer : List Env} {A₀ : Around} {base h₀ : Heap} {L : Addr} {m : Str → Option Value} {s : Shared} {Q : Value → Shared → Prop} {E : Value → Shared → Prop}
    {rest : List (Addr × Obj)} {r0 : Nat} {rs : List Nat} {tx : Tok}
    (B : Below A₀ base outer h₀) (F : Fr h₀ L s.heap m) (X : (hd.heap_39 w.params).In h₀) (N : News h₀ L s.heap rest) (T : Top p loose mean mg mb h₀) (hk : cs.kind = .function) (hrs : rs.length = 9)
    (hdp : dp + 20 < recursionLimit) (hu : un + 100 < cLine)
    (ret : ∀ t h' tk', Fr h₀ L h' m → News h₀ L h' rest → Q (.str (S (mostP r0 rs)) t) { s with heap := h', toks := tk' }) => by
  revert X; k_fill; intro X
  refine wpAny_call ?_
  k_dflt cell_enter
  have hx : (S (r0 :: rs)).length = 10 := by rw [S_len, List.length_cons, hrs]
  k_with_none
  k_with "exec For Name Call cons nil" => ((((rename Fr _ _ _ _ => lF'); (with_unfolding_all refine' For_invVF lF' ?k1k0aFCg ?k2k0aFCg ?_; (case k1k0aFCg => exact rfl); (case k2k0aFCg => exact rfl); k_whole))))
  k_with "exec For Name Subscript cons nil" => ((((rename Fr _ _ _ _ => lF'); (with_unfolding_all refine' For_invVF lF' ?k1k1aFCg ?k2k1aFCg ?_; (case k1k1aFCg => exact rfl); (case k2k1aFCg => exact rfl); k_whole))))
  k_with "execs cons" => ((k_dflt ((first | k_gentoks | ((with_reducible refine wpAny_execs_cons ?_); (try dsimp only); (try k_fold))))))
  k_with "pyIter str" => ((repeat (rename (_ + _ ≤ PySem.Str.length _) ∧ (PySem.Str.length _ ≤ _ + _) => hz9; clear hz9)); (try (rename (1 ≤ PySem.Str.length _) ∧ (PySem.Str.length _ ≤ 1) => hz8; clear hz8)); k_state (fun (pre : List Int) p => p = S (mostP r0 (pre.map Int.toNat)) ∧ p.length ≤ 3 + 4 * pre.length) "pattern")
  k_with "state" => (refine mostPair ?_; first
    | exact start_eq
    | exact mostA (by assumption) (by assumption) | exact mostB (by assumption) (by assumption) (by assumption) | exact mostC (by assumption) (by assumption) (by assumption))
  k_steps
  refine cb_retS ret ?_ (by k_asm) (by k_asm)
  (with_reducible rename _ = S (mostP _ _) => hE)
  rw [hE, slice1_S, codes_S, codes_back]
,
  fun {w : World} {p : Program} {loose : List Str} {mean : ExcName → Option Value} {mg mb : Str → Option Value}
    {dp un : Nat} {gd : Option (List Code)} {cn : Str} {cs : PySem.Scope} {a : Addr} {ccd : Value} {cl : List (Str × Addr)} {outer : List Env} {A₀ : Around} {base h₀ : Heap} {L : Addr} {m : Str → Option Value} {s : Shared} {Q : Value → Shared → Prop} {E : Value → Shared → Prop}
    {rest : List (Addr × Obj)} {vsI : List Value} {xs : List (List Nat)} {inp ic star : Nat}
    (B : Below A₀ base outer h₀) (F : Fr h₀ L s.heap m) (X : (hd.heap_39 w.params).In h₀) (N : News h₀ L s.heap ((inp, W.listOf vsI.toArray ic) :: rest)) (T : Top p loose mean mg mb h₀) (hk : cs.kind = .function)
    (hv : StrsAre vsI (xs.map S)) (hn : vsI.length ≤ 100) (hfl : xs.flatten.length ≤ 1000)
    (hdp : dp + 20 < recursionLimit) (hu : un + 100 < cLine)
    (ret : ∀ t h' tk', Fr h₀ L h' m → News h₀ L h' ((inp, W.listOf vsI.toArray ic) :: rest) → Q (.str (S ([40, 63, 115, 58] ++ xs.flatten ++ [41, 92, 90])) t) { s with heap := h', toks := tk' }) => by
  revert X; k_fill; intro X
  refine wpAny_call ?_
  k_dflt cell_enter
  k_with_none
  k_with "getAttr ref" => (((k_dflt (refine' app_made ?Fk0aFJ ?Nk0aFJ ?memk0aFJ ?_; (case Fk0aFJ => k_asm); (case Nk0aFJ => k_asm); (case memk0aFJ => k_mem); k_whole); intro u' h' tk' F' N' l9; (try dsimp only at N'); have n1 : @Ne Nat _ _ := l9 _ (List.mem_cons_self ..); have n2 : @Ne Nat _ _ := l9 _ (List.mem_cons_of_mem _ (List.mem_cons_self ..)); dsimp only at n1 n2)))
  k_with "callWith ref" => ((k_dflt (refine' callWith_app ?Nk1aFJ ?Mk1aFJ ?_; (case Nk1aFJ => k_asm); (case Mk1aFJ => k_mem); k_whole)))
  k_with "And" => ((((with_reducible show AppAt _ _ _ ∧ _); k_dflt (refine ⟨News.get (by k_asm) (by k_mem), ?_⟩); (try dsimp only [List.nil_append, List.cons_append]))))
  k_with "call ref" => ((k_dflt ((refine' app_call ?Fk3aFJ ?Nk3aFJ ?Uk3aFJ ?mk3aFJ ?uk3aFJ ?zk3aFJ ?_; (case Fk3aFJ => k_asm); (case Nk3aFJ => k_asm); (case uk3aFJ => k_mem); (case mk3aFJ => k_mem); (case Uk3aFJ => k_updF); (case zk3aFJ => assumption); k_whole); intro h' cnt' F' N'; (try dsimp only at N'))))
  k_with "WhlIf" => ((first | (refine WhlIf.yes rfl ?_) | (refine WhlIf.no rfl ?_) | (refine WhlIf.no (by first | assumption | (simp only [decide_eq_false_iff_not]; omega)) ?_) | (refine WhlIf.yes (by first | assumption | (simp only [decide_eq_true_eq]; omega)) ?_)))
  k_with "formatField" => (((refine' fmt_S ?nk5aFJ ?_; (case nk5aFJ => first | (simp only [List.length_cons, List.length_nil]; omega) | omega); intro t' tk')))
  k_with "call builtin:len" => (((k_dflt (refine' len_L ?lk6aFJ ?nk6aFJ ?_; (case lk6aFJ => is_list); (case nk6aFJ => omega)))))
  k_with "compareOp IsNot" => (((refine wpAny_isNot_other (by rfl) (by intro x; cases x) ?_)))
  k_with "call builtin:str.join" => (((k_dflt (refine' join_S0 ?ek8aFJ ?lk8aFJ ?ik8aFJ ?nk8aFJ ?_; (case lk8aFJ => is_list); (case ik8aFJ => assumption); (case nk8aFJ => assumption); (case ek8aFJ => decide +kernel)); intro t' k')))
  iterate 39 (first | (k_unfold; (try dsimp only)) | walk1 | (dsimp only; walk1) | (leave1; walk_say "STEP leave1"; (try dsimp only)) | fail "no step")
  rename Fr _ _ _ _ => lF
  rename News _ _ _ _ => lN
  refine' JJ_go lF (News.perm lN fun _ hp => List.Mem.tail _ hp) ?a1FJ ?a2FJ ?a3FJ ?a4FJ ?a5FJ ?a6FJ ?hEFJ ?turnFJ ?lastFJ
  case hEFJ => passes_own
  case a1FJ => with_unfolding_all rfl
  case a2FJ => with_unfolding_all rfl
  case a3FJ => with_unfolding_all rfl
  case a4FJ => with_unfolding_all rfl
  case a5FJ => with_unfolding_all rfl
  case a6FJ => with_unfolding_all rfl
  case turnFJ =>
    clear lF lN
    intro n s' hJ
    obtain ⟨i, mm, cnt, x, ti, tn, h1, tk1, rfl, e1, e2, N2, F2⟩ := hJ
    obtain ⟨l0, t0, hx0⟩ := strs_get hv (show i < vsI.length by omega)
    have hsz : (vsI.take i).toArray.size ≤ sizeLine := by
      rw [List.size_toArray]; exact Nat.le_trans (show _ ≤ 100 by rw [List.length_take]; omega) (by rw [sizeLine_eq]; decide)
    k_with_none
    k_with "getAttr ref" => (((k_dflt (refine' app_made ?Fk0aFJ ?Nk0aFJ ?memk0aFJ ?_; (case Fk0aFJ => k_asm); (case Nk0aFJ => k_asm); (case memk0aFJ => k_mem); k_whole); intro u' h' tk' F' N' l9; (try dsimp only at N'); have n1 : @Ne Nat _ _ := l9 _ (List.mem_cons_self ..); have n2 : @Ne Nat _ _ := l9 _ (List.mem_cons_of_mem _ (List.mem_cons_self ..)); dsimp only at n1 n2)))
    k_with "callWith ref" => ((k_dflt (refine' callWith_app ?Nk1aFJ ?Mk1aFJ ?_; (case Nk1aFJ => k_asm); (case Mk1aFJ => k_mem); k_whole)))
    k_with "And" => ((((with_reducible show AppAt _ _ _ ∧ _); k_dflt (refine ⟨News.get (by k_asm) (by k_mem), ?_⟩); (try dsimp only [List.nil_append, List.cons_append]))))
    k_with "call ref" => ((k_dflt ((refine' app_call ?Fk3aFJ ?Nk3aFJ ?Uk3aFJ ?mk3aFJ ?uk3aFJ ?zk3aFJ ?_; (case Fk3aFJ => k_asm); (case Nk3aFJ => k_asm); (case uk3aFJ => k_mem); (case mk3aFJ => k_mem); (case Uk3aFJ => k_updF); (case zk3aFJ => assumption); k_whole); intro h' cnt' F' N'; (try dsimp only at N'))))
    k_with "WhlIf" => ((first | (refine WhlIf.yes rfl ?_) | (refine WhlIf.no rfl ?_) | (refine WhlIf.no (by first | assumption | (simp only [decide_eq_false_iff_not]; omega)) ?_) | (refine WhlIf.yes (by first | assumption | (simp only [decide_eq_true_eq]; omega)) ?_)))
    k_with "formatField" => (((refine' fmt_S ?nk5aFJ ?_; (case nk5aFJ => first | (simp only [List.length_cons, List.length_nil]; omega) | omega); intro t' tk')))
    k_with "call builtin:len" => (((k_dflt (refine' len_L ?lk6aFJ ?nk6aFJ ?_; (case lk6aFJ => is_list); (case nk6aFJ => omega)))))
    k_with "compareOp IsNot" => (((refine wpAny_isNot_other (by rfl) (by intro x; cases x) ?_)))
    k_with "call builtin:str.join" => (((k_dflt (refine' join_S0 ?ek8aFJ ?lk8aFJ ?ik8aFJ ?nk8aFJ ?_; (case lk8aFJ => is_list); (case ik8aFJ => assumption); (case nk8aFJ => assumption); (case ek8aFJ => decide +kernel)); intro t' k')))
    k_with "subscriptTail Name Name ref int" => (k_dflt (refine' item_L (i := i) ?lFJ ?kFJ ?bFJ hx0 ?_; (case lFJ => is_list); (case kFJ => omega); (case bFJ => omega)))
    k_steps
    rename Fr _ _ _ _ => lF
    rename News _ _ _ _ => lN
    refine' JJ_end e1 hx0 ?hxFJ lN lF ?a1FJ ?a2FJ ?a3FJ ?a4FJ ?a5FJ ?a6FJ
    case a1FJ => with_unfolding_all rfl
    case a2FJ => with_unfolding_all rfl
    case a3FJ => with_unfolding_all rfl
    case a4FJ => with_unfolding_all rfl
    case a5FJ => with_unfolding_all rfl
    case a6FJ => with_unfolding_all rfl
    case hxFJ => omega
  case lastFJ =>
    clear lF lN
    intro s' hJ
    obtain ⟨i, mm, cnt, x, ti, tn, h1, tk1, rfl, e1, e2, N2, F2⟩ := hJ
    have e3 : vsI.take i = vsI := List.take_of_length_le (by omega)
    rw [e3] at N2
    have hfl2 : (S xs.flatten).length ≤ 1000 := by rw [S_len]; exact hfl
    k_with_none
    k_with "getAttr ref" => (((k_dflt (refine' app_made ?Fk0aFJ ?Nk0aFJ ?memk0aFJ ?_; (case Fk0aFJ => k_asm); (case Nk0aFJ => k_asm); (case memk0aFJ => k_mem); k_whole); intro u' h' tk' F' N' l9; (try dsimp only at N'); have n1 : @Ne Nat _ _ := l9 _ (List.mem_cons_self ..); have n2 : @Ne Nat _ _ := l9 _ (List.mem_cons_of_mem _ (List.mem_cons_self ..)); dsimp only at n1 n2)))
    k_with "callWith ref" => ((k_dflt (refine' callWith_app ?Nk1aFJ ?Mk1aFJ ?_; (case Nk1aFJ => k_asm); (case Mk1aFJ => k_mem); k_whole)))
    k_with "And" => ((((with_reducible show AppAt _ _ _ ∧ _); k_dflt (refine ⟨News.get (by k_asm) (by k_mem), ?_⟩); (try dsimp only [List.nil_append, List.cons_append]))))
    k_with "call ref" => ((k_dflt ((refine' app_call ?Fk3aFJ ?Nk3aFJ ?Uk3aFJ ?mk3aFJ ?uk3aFJ ?zk3aFJ ?_; (case Fk3aFJ => k_asm); (case Nk3aFJ => k_asm); (case uk3aFJ => k_mem); (case mk3aFJ => k_mem); (case Uk3aFJ => k_updF); (case zk3aFJ => assumption); k_whole); intro h' cnt' F' N'; (try dsimp only at N'))))
    k_with "WhlIf" => ((first | (refine WhlIf.yes rfl ?_) | (refine WhlIf.no rfl ?_) | (refine WhlIf.no (by first | assumption | (simp only [decide_eq_false_iff_not]; omega)) ?_) | (refine WhlIf.yes (by first | assumption | (simp only [decide_eq_true_eq]; omega)) ?_)))
    k_with "formatField" => (((refine' fmt_S ?nk5aFJ ?_; (case nk5aFJ => first | (simp only [List.length_cons, List.length_nil]; omega) | omega); intro t' tk')))
    k_with "call builtin:len" => (((k_dflt (refine' len_L ?lk6aFJ ?nk6aFJ ?_; (case lk6aFJ => is_list); (case nk6aFJ => omega)))))
    k_with "compareOp IsNot" => (((refine wpAny_isNot_other (by rfl) (by intro x; cases x) ?_)))
    k_with "call builtin:str.join" => (((k_dflt (refine' join_S0 ?ek8aFJ ?lk8aFJ ?ik8aFJ ?nk8aFJ ?_; (case lk8aFJ => is_list); (case ik8aFJ => assumption); (case nk8aFJ => assumption); (case ek8aFJ => decide +kernel)); intro t' k')))
    k_with "last exec While" => (refine whl_start 100 ?_)
    k_steps
    all_goals first | (exfalso; omega) | skip
    with_reducible rename Fr h₀ L _ m => kF
    with_reducible rename News h₀ L _ _ => kN
    have ez : Str.empty ++ Str.ofString "(?s:" ++ S xs.flatten ++ Str.ofString ")\\Z" = S ([40, 63, 115, 58] ++ xs.flatten ++ [41, 92, 90]) := by
      rw [show Str.empty = S [] from rfl, show Str.ofString "(?s:" = S [40, 63, 115, 58] from by decide +kernel, show Str.ofString ")\\Z" = S [41, 92, 90] from by decide +kernel, S_app, S_app, S_app]; rfl
    rw [ez]
    exact ret _ _ _ kF (News.perm kN fun _ hp => List.Mem.tail _ (List.Mem.tail _ hp))
,
  fun {w : World} {p : Program} {loose : List Str} {mean : ExcName → Option Value} {mg mb : Str → Option Value}
    {dp un : Nat} {gd : Option (List Code)} {cn : Str} {cs : PySem.Scope} {a : Addr} {ccd : Value} {cl : List (Str × Addr)} {outer : List Env} {A₀ : Around} {base h₀ : Heap} {L : Addr} {m : Str → Option Value} {s : Shared} {Q : Value → Shared → Prop} {E : Value → Shared → Prop}
    {rest : List (Addr × Obj)} {mode : Int} {tm : Tok}
    (B : Below A₀ base outer h₀) (F : Fr h₀ L s.heap m) (X : (hd.heap_39 w.params).In h₀) (N : News h₀ L s.heap rest) (T : Top p loose mean mg mb h₀) (hk : cs.kind = .function)
    (hdp : dp + 40 < recursionLimit) (hu : un + 200 < cLine)
    (ret : ∀ t h' tk', Fr h₀ L h' m → News h₀ L h' rest → Q (.str (S (rowL mode)) t) { s with heap := h', toks := tk' }) => by
  revert X; k_fill; intro X
  refine wpAny_call ?_
  k_dflt cell_enter
  k_with_none
  k_with "call builtin:str.join" => (((k_dflt (refine' join_S0 ?ek0aFW ?lk0aFW ?ik0aFW ?nk0aFW ?_; (case lk0aFW => is_list); (case ik0aFW => assumption); (case nk0aFW => assumption); (case ek0aFW => decide +kernel)); intro t' k')))
  k_with "exec For Tuple Call" => (((k_dflt (refine wpAny_For ?_))))
  k_with "exec For Tuple Name" => (((k_dflt (refine wpAny_For ?_))))
  k_with "call ref" => (((k_here; k_dflt (refine wpAny_call ?_; (refine' code_def ?k1k3aFW ?k2k3aFW ?k3k3aFW ?k4k3aFW ?k5k3aFW ?kAk3aFW ?kFk3aFW ?kKk3aFW ?k6k3aFW ?k7k3aFW ?k8k3aFW ?k9k3aFW ?kBk3aFW ?_ ?c2k3aFW ?c3k3aFW ?c4k3aFW ?c5k3aFW; (case kAk3aFW => exact rfl); (case kFk3aFW => exact rfl); (case kKk3aFW => first | exact rfl | assumption); (case k1k3aFW => k_asm); (case k2k3aFW => k_asm); (case k3k3aFW => k_asm); (case k4k3aFW => k_asm); (case k5k3aFW => k_asm); (case k6k3aFW => k_is); (case k7k3aFW => k_is); (case k8k3aFW => ktr_room); (case k9k3aFW => exact BindsTo.of_eq rfl); (case c5k3aFW => decide); (case kBk3aFW => exact locs rfl); (case c2k3aFW => exact rfl); (case c3k3aFW => exact rfl); (case c4k3aFW => exact rfl); k_whole; intro g' L' h' FG' F' N' B' X' T'; (try dsimp only); (try k_lift B'); (try k_fold))))))
  iterate 16 (first | (k_unfold; (try dsimp only)) | walk1 | (dsimp only; walk1) | (leave1; walk_say "STEP leave1"; (try dsimp only)) | fail "no step")
  obtain ⟨perm, hpe, hal⟩ := name_it (show ∀ p ∈ rest, p.1 < _ by assumption)
  subst hpe
  rename Fr _ _ _ _ => lF
  rename News _ _ _ _ => lN
  refine' forEnumT (vs := fmT.map fun t => .ref t.1) ?hEFW ?hhFW ?hlFW ?FFW ?NFW (JO perm mode tm rest) ?h0FW ?turnFW ?doneFW
  case FFW => exact lF
  case NFW => exact lN
  case hEFW => passes_own
  case hhFW => exact rfl
  case hlFW => exact tup_is ((by assumption : (hd.heap_39 w.params).In _) 116 _ fm_top)
  case h0FW => exact ⟨[], 0, _, rfl, .nil, fr2e (by with_unfolding_all rfl) (by with_unfolding_all rfl)⟩
  case turnFW =>
    clear lF lN
    intro i x t T m₁ nx h tk own hx hT hadr hoff hJ F₁ N₁
    obtain ⟨vs, cnt, mm, rfl, hv, rfl⟩ := hJ
    obtain ⟨tb, htb, rfl⟩ : ∃ tb, fmT[i]? = some tb ∧ Value.ref tb.1 = x := by simpa using hx
    have htm : tb ∈ fmT := List.mem_of_getElem? htb
    have hi10 : i < 10 := (List.getElem?_eq_some_iff.mp htb).1
    rw [List.cons_append] at N₁
    obtain ⟨tl, htl⟩ : ∃ tl, tl = rest ++ own := ⟨_, rfl⟩
    rw [← htl] at N₁
    have hvsz : vs.toArray.size ≤ sizeLine := by
      have e := strs_len hv
      rw [List.length_map, List.length_map, List.length_take] at e
      rw [List.size_toArray]; exact Nat.le_trans (show _ ≤ 100 by omega) (by rw [sizeLine_eq]; decide)
    have htlne := tl_ne htl hal hoff
    iterate 12 (first | (k_unfold; (try dsimp only)) | walk1 | (dsimp only; walk1) | (leave1; walk_say "STEP leave1"; (try dsimp only)) | fail "no step")
    rename Fr _ _ _ _ => lF
    rename News _ _ _ _ => lN
    refine' forTup (vs := refsOf tb.2) ?hE2FW ?hh2FW ?hl2FW ?F2FW ?N2FW (JI ((perm, W.listOf vs.toArray cnt) :: tl) perm mode tm t i tb.2) ?h02FW ?turn2FW ?done2FW
    case F2FW => exact lF
    case N2FW => exact lN
    case hE2FW => passes_own
    case hh2FW => exact rfl
    case hl2FW => exact fm_tab (by assumption) htm
    case h02FW => exact ⟨rfl, by simp, _, fr3 (by with_unfolding_all rfl) (by with_unfolding_all rfl) (by with_unfolding_all rfl)⟩
    case turn2FW =>
      clear lF lN
      intro j x m₁ nx h2 tk2 own2 hx2 hadr2 hoff2 hJ2 F₂ N₂
      obtain ⟨rfl, hno, mm2, rfl⟩ := hJ2
      obtain ⟨e, he, rfl⟩ : ∃ e, tb.2[j]? = some e ∧ Value.ref e.ad = x := by simpa [refsOf] using hx2
      have hem : e ∈ tb.2 := List.mem_of_getElem? he
      rw [List.cons_append] at N₂
      have hent := fm_ent (by assumption : (hd.heap_39 w.params).In _) htm hem
      obtain ⟨tl2, htl2⟩ : ∃ tl2, tl2 = tl ++ own2 := ⟨_, rfl⟩
      rw [← htl2] at N₂
      have htlne2 := tl_ne2 htl2 htlne hoff2
      k_steps
      all_goals first
        | (refine JO_end (by assumption) (by assumption) rfl ?_ hv htb (pick_at hno he (by first | exact fitsA (by assumption) (by assumption) | exact fitsB (by assumption) (by assumption))) (by with_unfolding_all rfl) (by with_unfolding_all rfl) rfl; (intro p hp; rw [htl2, htl]; exact List.mem_append_left _ hp))
        | (refine JI_end (by assumption) (by assumption) rfl ?_ hno he (by first | exact fitsA' (by assumption) (by assumption) | exact fitsB' (by assumption) (by assumption)) (by with_unfolding_all rfl) (by with_unfolding_all rfl) (by with_unfolding_all rfl) rfl; (intro p hp; rw [htl2]; rw [List.cons_append] at hp; exact hp))
    case done2FW =>
      intro m₁ nx h2 tk2 hadr2 hJ2 F₂ N₂
      obtain ⟨rfl, hno, mm2, rfl⟩ := hJ2
      clear lF lN
      have hno' : ∀ x ∈ tb.2.take tb.2.length, fits i mode x = false := by
        have e := hno
        rw [show (refsOf tb.2).length = tb.2.length from List.length_map ..] at e; exact e
      have hp9 := pick_none hno'
      k_steps
      all_goals (rename Fr _ _ _ _ => lF; rename News _ _ _ _ => lN)
      all_goals first
        | (rw [lit_q] at lN; refine JO_end lF lN rfl ?_ hv htb (hp9.trans (if_pos (by omega))) (by with_unfolding_all rfl) (by with_unfolding_all rfl) rfl; (intro p hp; rw [htl]; exact hp))
        | (rw [lit_d] at lN; refine JO_end lF lN rfl ?_ hv htb (hp9.trans (if_neg (by omega))) (by with_unfolding_all rfl) (by with_unfolding_all rfl) rfl; (intro p hp; rw [htl]; exact hp))
  case doneFW =>
    intro m₁ nx h tk hadr hJ F₁ N₁
    obtain ⟨vs, cnt, mm, rfl, hv, rfl⟩ := hJ
    clear lF lN
    have e10 : (rowL mode).take (fmT.map fun t => Value.ref t.1).length = rowL mode := List.take_of_length_le (by rw [rowL_len]; exact Nat.le_refl 10)
    rw [e10] at hv
    have hfl : ((rowL mode).map fun c => [c]).flatten.length ≤ 1000 := by rw [flat_one, rowL_len]; decide
    k_steps
    with_reducible rename Fr h₀ L _ m => kF
    with_reducible rename News h₀ L _ _ => kN
    rw [flat_one]
    exact ret _ _ _ kF (News.perm kN fun _ hp => List.Mem.tail _ hp)
,
  fun {w : World} {p : Program} {loose : List Str} {mean : ExcName → Option Value} {mg mb : Str → Option Value}
    {dp un : Nat} {gd : Option (List Code)} {cn : Str} {cs : PySem.Scope} {a : Addr} {ccd : Value} {cl : List (Str × Addr)} {outer : List Env} {A₀ : Around} {base h₀ : Heap} {L : Addr} {m : Str → Option Value} {s : Shared} {Q : Value → Shared → Prop} {E : Value → Shared → Prop}
    {rest : List (Addr × Obj)} {tp : Tok} {toks sets : List (List Nat)}
    (B : Below A₀ base outer h₀) (F : Fr h₀ L s.heap m) (X : (hd.heap_39 w.params).In h₀) (N : News h₀ L s.heap rest) (T : Top p loose mean mg mb h₀) (hk : cs.kind = .function)
    (hT : Sks toks sets) (hl : toks.length ≤ 20) (hPl : toks.flatten.length ≤ 100)
    (hdp : dp + 40 < recursionLimit) (hu : un + 200 < cLine)
    (ret : ∀ (D : Nat) vs cnt h' tk', StrsAre vs (sets.map S) → (∀ p ∈ rest, p.1 < D) → Fr h₀ L h' m → News h₀ L h' ((D, W.listOf vs.toArray cnt) :: rest) → Q (.ref D) { s with heap := h', toks := tk' }) => by
  revert X; k_fill; intro X
  obtain ⟨P, hP⟩ : ∃ P, P = [40, 63, 115, 58] ++ toks.flatten ++ [41, 92, 90] := ⟨_, rfl⟩
  rw [← hP]
  have hP1 : P = [40, 63, 115, 58] ++ (toks.flatten ++ [41, 92, 90]) := by rw [hP, List.append_assoc]
  have hPl1 : P.length ≤ 200 := by rw [hP, List.length_append, List.length_append]; simp only [List.length_cons, List.length_nil]; omega
  have ha1 := text_head hP1
  have ha2 := text_tail hP
  refine wpAny_call ?_
  k_dflt cell_enter
  k_with_none
  k_with "WhlIf" => ((first | (refine WhlIf.yes rfl ?_) | (refine WhlIf.no rfl ?_) | (refine WhlIf.no (by first | assumption | (simp only [decide_eq_false_iff_not]; omega)) ?_) | (refine WhlIf.yes (by first | assumption | (simp only [decide_eq_true_eq]; omega)) ?_)))
  k_with "ite" => ((k_dflt (first
  | (refine' PySem.W.ite_pos ?cck1aFS4 ?_; (case cck1aFS4 => first | rfl | (simp only [beq_iff_eq, decide_eq_true_eq, bne_iff_ne, ne_eq]; omega)))
  | (refine' PySem.W.ite_neg ?cck1aFS4 ?_; (case cck1aFS4 => first | exact Bool.false_ne_true | exact Bool.eq_false_iff.mp (by assumption) | (simp only [beq_iff_eq, decide_eq_true_eq, bne_iff_ne, ne_eq]; omega))))))
  k_with "compareOp Eq str str" => (((refine' cmp_eq ?hk2aFS4 ?_; (case hk2aFS4 => first | assumption | exact (by decide +kernel : _ = true) | exact (by decide +kernel : _ = false)))))
  k_with "compareOp NotEq str str" => (((refine' cmp_ne ?hk3aFS4 ?_; (case hk3aFS4 => first | assumption | exact (by decide +kernel : _ = true) | exact (by decide +kernel : _ = false)))))
  k_with "call builtin:len" => (((refine len_S (by omega) ?_)))
  k_with "subscriptTail Name Slice str ref" => ((((with_reducible rename Fr _ _ _ _ => lF'); (with_reducible rename News _ _ _ _ => lN'); (first | (refine' slice_to (s := ⟨_, _, _, _, _⟩) lF' lN' ?nk5aFS4 ?ek5aFS4 ?_; (case ek5aFS4 => assumption); (case nk5aFS4 => omega)) | (refine' slice_from (s := ⟨_, _, _, _, _⟩) lF' lN' ?nk5aFS4 ?ek5aFS4 ?_; (case ek5aFS4 => assumption); (case nk5aFS4 => omega))); intro h' t' k' F' N')))
  k_with "compareOp In str str" => (((refine' in_Sb ?hk6aFS4 ?_; (case hk6aFS4 => first | assumption | exact (by decide +kernel : _ = true) | exact (by decide +kernel : _ = false)))))
  k_with "binaryOp Add str str" => ((((first | (refine' add_S0 ?nk7aFS4 ?_; (case nk7aFS4 => (simp only [List.length_cons, List.length_nil, List.length_append]; omega))) | (refine' add_S ?nk7aFS4 ?_; (case nk7aFS4 => (simp only [List.length_cons, List.length_nil, List.length_append]; omega)))); intro t' k')))
  k_with "execs cons" => ((k_dflt ((first | k_gentoks | ((with_reducible refine wpAny_execs_cons ?_); (try dsimp only); (try k_fold))))))
  k_with "exec While" => (refine Halt.mk ?_)
  k_with "exec While Compare" => (refine Halt.mk ?_)
  k_with "last exec While" => (refine Halt.mk ?_)
  k_steps
  unfold Halt
  obtain ⟨D, hpe, hal⟩ := name_it (show ∀ p ∈ rest, p.1 < _ by assumption)
  subst hpe
  rename Fr _ _ _ _ => lF
  rename News _ _ _ _ => lN
  refine' JS_go lF lN hP1 hT hl ?a1FS4 ?a2FS4 ?a3FS4 ?hEFS4 ?turnFS4 ?lastFS4
  case hEFS4 => passes_own
  case a1FS4 => with_unfolding_all rfl
  case a2FS4 => with_unfolding_all rfl
  case a3FS4 => with_unfolding_all rfl
  case turnFS4 =>
    clear lF lN
    intro n s' hJ
    obtain ⟨done, tks, os1, os2, mm, vs, cnt, x, tk, h1, tk1, rfl, e1, e2, e3, e4, e5, e6, e10, N2, F2⟩ := hJ
    cases e3 with
    | nil => simp at e1
    | @cons tok o toks' os2' hk r =>
    have e1' : toks'.length = n := by simpa using e1
    have hPn : P.length = done.length + tok.length + toks'.flatten.length + 3 := by rw [e2]; simp; omega
    have e6' : vs.toArray.size ≤ sizeLine := by
      have h100 : vs.length ≤ 100 := by omega
      rw [List.size_toArray]; exact Nat.le_trans h100 (by rw [sizeLine_eq]; decide)
    rcases sk_cases hk with ⟨rfl, rfl⟩ | ⟨rfl, rfl⟩ | ⟨c, hc, rfl, rfl⟩ | ⟨us, hus, hul, rfl⟩
    · -- any
      have i0 : P[done.length]? = some 46 := by rw [e2]; simp
      simp only [List.length_cons, List.length_nil] at hPn
      k_with_none
      k_with "WhlIf" => ((first | (refine WhlIf.yes rfl ?_) | (refine WhlIf.no rfl ?_) | (refine WhlIf.no (by first | assumption | (simp only [decide_eq_false_iff_not]; omega)) ?_) | (refine WhlIf.yes (by first | assumption | (simp only [decide_eq_true_eq]; omega)) ?_)))
      k_with "ite" => ((k_dflt (first
  | (refine' PySem.W.ite_pos ?cck1aFS4 ?_; (case cck1aFS4 => first | rfl | (simp only [beq_iff_eq, decide_eq_true_eq, bne_iff_ne, ne_eq]; omega)))
  | (refine' PySem.W.ite_neg ?cck1aFS4 ?_; (case cck1aFS4 => first | exact Bool.false_ne_true | exact Bool.eq_false_iff.mp (by assumption) | (simp only [beq_iff_eq, decide_eq_true_eq, bne_iff_ne, ne_eq]; omega))))))
      k_with "compareOp Eq str str" => (((refine' cmp_eq ?hk2aFS4 ?_; (case hk2aFS4 => first | assumption | exact (by decide +kernel : _ = true) | exact (by decide +kernel : _ = false)))))
      k_with "compareOp NotEq str str" => (((refine' cmp_ne ?hk3aFS4 ?_; (case hk3aFS4 => first | assumption | exact (by decide +kernel : _ = true) | exact (by decide +kernel : _ = false)))))
      k_with "call builtin:len" => (((refine len_S (by omega) ?_)))
      k_with "subscriptTail Name Slice str ref" => ((((with_reducible rename Fr _ _ _ _ => lF'); (with_reducible rename News _ _ _ _ => lN'); (first | (refine' slice_to (s := ⟨_, _, _, _, _⟩) lF' lN' ?nk5aFS4 ?ek5aFS4 ?_; (case ek5aFS4 => assumption); (case nk5aFS4 => omega)) | (refine' slice_from (s := ⟨_, _, _, _, _⟩) lF' lN' ?nk5aFS4 ?ek5aFS4 ?_; (case ek5aFS4 => assumption); (case nk5aFS4 => omega))); intro h' t' k' F' N')))
      k_with "compareOp In str str" => (((refine' in_Sb ?hk6aFS4 ?_; (case hk6aFS4 => first | assumption | exact (by decide +kernel : _ = true) | exact (by decide +kernel : _ = false)))))
      k_with "binaryOp Add str str" => ((((first | (refine' add_S0 ?nk7aFS4 ?_; (case nk7aFS4 => (simp only [List.length_cons, List.length_nil, List.length_append]; omega))) | (refine' add_S ?nk7aFS4 ?_; (case nk7aFS4 => (simp only [List.length_cons, List.length_nil, List.length_append]; omega)))); intro t' k')))
      k_with "execs cons" => ((k_dflt ((first | k_gentoks | ((with_reducible refine wpAny_execs_cons ?_); (try dsimp only); (try k_fold))))))
      k_with "subscriptTail Name Name str int" => (first | (refine item_at (k := done.length) (by omega) i0 (by omega) ?_) | (refine item_at (k := done.length + 1) (by omega) i1 (by omega) ?_))
      k_steps
      rename Fr _ _ _ _ => lF
      rename News _ _ _ _ => lN
      refine' JS_end (tok := [46]) (o := allS) e1' e2 r e4 e5 (by omega) ?hxFS4 ?hooFS4 lN lF ?a1FS4 ?a2FS4 ?a3FS4 ?hsFS4
      case a1FS4 => with_unfolding_all rfl
      case a2FS4 => with_unfolding_all rfl
      case a3FS4 => with_unfolding_all rfl
      case hxFS4 => rw [e10]; simp; try omega
      case hooFS4 => first | rfl | decide +kernel
      case hsFS4 => rfl
    · -- esc
      have i0 : P[done.length]? = some 92 := by rw [e2]; simp
      have i1 : P[done.length + 1]? = some 45 := by rw [e2]; simp
      simp only [List.length_cons, List.length_nil] at hPn
      k_with_none
      k_with "WhlIf" => ((first | (refine WhlIf.yes rfl ?_) | (refine WhlIf.no rfl ?_) | (refine WhlIf.no (by first | assumption | (simp only [decide_eq_false_iff_not]; omega)) ?_) | (refine WhlIf.yes (by first | assumption | (simp only [decide_eq_true_eq]; omega)) ?_)))
      k_with "ite" => ((k_dflt (first
  | (refine' PySem.W.ite_pos ?cck1aFS4 ?_; (case cck1aFS4 => first | rfl | (simp only [beq_iff_eq, decide_eq_true_eq, bne_iff_ne, ne_eq]; omega)))
  | (refine' PySem.W.ite_neg ?cck1aFS4 ?_; (case cck1aFS4 => first | exact Bool.false_ne_true | exact Bool.eq_false_iff.mp (by assumption) | (simp only [beq_iff_eq, decide_eq_true_eq, bne_iff_ne, ne_eq]; omega))))))
      k_with "compareOp Eq str str" => (((refine' cmp_eq ?hk2aFS4 ?_; (case hk2aFS4 => first | assumption | exact (by decide +kernel : _ = true) | exact (by decide +kernel : _ = false)))))
      k_with "compareOp NotEq str str" => (((refine' cmp_ne ?hk3aFS4 ?_; (case hk3aFS4 => first | assumption | exact (by decide +kernel : _ = true) | exact (by decide +kernel : _ = false)))))
      k_with "call builtin:len" => (((refine len_S (by omega) ?_)))
      k_with "subscriptTail Name Slice str ref" => ((((with_reducible rename Fr _ _ _ _ => lF'); (with_reducible rename News _ _ _ _ => lN'); (first | (refine' slice_to (s := ⟨_, _, _, _, _⟩) lF' lN' ?nk5aFS4 ?ek5aFS4 ?_; (case ek5aFS4 => assumption); (case nk5aFS4 => omega)) | (refine' slice_from (s := ⟨_, _, _, _, _⟩) lF' lN' ?nk5aFS4 ?ek5aFS4 ?_; (case ek5aFS4 => assumption); (case nk5aFS4 => omega))); intro h' t' k' F' N')))
      k_with "compareOp In str str" => (((refine' in_Sb ?hk6aFS4 ?_; (case hk6aFS4 => first | assumption | exact (by decide +kernel : _ = true) | exact (by decide +kernel : _ = false)))))
      k_with "binaryOp Add str str" => ((((first | (refine' add_S0 ?nk7aFS4 ?_; (case nk7aFS4 => (simp only [List.length_cons, List.length_nil, List.length_append]; omega))) | (refine' add_S ?nk7aFS4 ?_; (case nk7aFS4 => (simp only [List.length_cons, List.length_nil, List.length_append]; omega)))); intro t' k')))
      k_with "execs cons" => ((k_dflt ((first | k_gentoks | ((with_reducible refine wpAny_execs_cons ?_); (try dsimp only); (try k_fold))))))
      k_with "subscriptTail Name Name str int" => (first | (refine item_at (k := done.length) (by omega) i0 (by omega) ?_) | (refine item_at (k := done.length + 1) (by omega) i1 (by omega) ?_))
      k_steps
      rename Fr _ _ _ _ => lF
      rename News _ _ _ _ => lN
      refine' JS_end (tok := [92, 45]) (o := [45]) e1' e2 r e4 e5 (by omega) ?hxFS4 ?hooFS4 lN lF ?a1FS4 ?a2FS4 ?a3FS4 ?hsFS4
      case a1FS4 => with_unfolding_all rfl
      case a2FS4 => with_unfolding_all rfl
      case a3FS4 => with_unfolding_all rfl
      case hxFS4 => rw [e10]; simp; try omega
      case hooFS4 => first | rfl | decide +kernel
      case hsFS4 => rfl
    · -- one
      have i0 : P[done.length]? = some c := by rw [e2]; simp
      have eb : (S [c] == Str.ofString "[") = false := (by decide +kernel : ∀ a ∈ plainS, (S [a] == Str.ofString "[") = false) c hc
      have es : (S [c] == Str.ofString "\\") = false := (by decide +kernel : ∀ a ∈ plainS, (S [a] == Str.ofString "\\") = false) c hc
      have ed : (S [c] == Str.ofString ".") = false := (by decide +kernel : ∀ a ∈ plainS, (S [a] == Str.ofString ".") = false) c hc
      have ei : (!(Builtin.Str.occurrences (Str.ofString "rwst") (S [c]) 0 (Str.ofString "rwst").length 1).isEmpty) = true := (by decide +kernel : ∀ a ∈ plainS, (!(Builtin.Str.occurrences (Str.ofString "rwst") (S [a]) 0 (Str.ofString "rwst").length 1).isEmpty) = true) c hc
      simp only [List.length_cons, List.length_nil] at hPn
      k_with_none
      k_with "WhlIf" => ((first | (refine WhlIf.yes rfl ?_) | (refine WhlIf.no rfl ?_) | (refine WhlIf.no (by first | assumption | (simp only [decide_eq_false_iff_not]; omega)) ?_) | (refine WhlIf.yes (by first | assumption | (simp only [decide_eq_true_eq]; omega)) ?_)))
      k_with "ite" => ((k_dflt (first
  | (refine' PySem.W.ite_pos ?cck1aFS4 ?_; (case cck1aFS4 => first | rfl | (simp only [beq_iff_eq, decide_eq_true_eq, bne_iff_ne, ne_eq]; omega)))
  | (refine' PySem.W.ite_neg ?cck1aFS4 ?_; (case cck1aFS4 => first | exact Bool.false_ne_true | exact Bool.eq_false_iff.mp (by assumption) | (simp only [beq_iff_eq, decide_eq_true_eq, bne_iff_ne, ne_eq]; omega))))))
      k_with "compareOp Eq str str" => (((refine' cmp_eq ?hk2aFS4 ?_; (case hk2aFS4 => first | assumption | exact (by decide +kernel : _ = true) | exact (by decide +kernel : _ = false)))))
      k_with "compareOp NotEq str str" => (((refine' cmp_ne ?hk3aFS4 ?_; (case hk3aFS4 => first | assumption | exact (by decide +kernel : _ = true) | exact (by decide +kernel : _ = false)))))
      k_with "call builtin:len" => (((refine len_S (by omega) ?_)))
      k_with "subscriptTail Name Slice str ref" => ((((with_reducible rename Fr _ _ _ _ => lF'); (with_reducible rename News _ _ _ _ => lN'); (first | (refine' slice_to (s := ⟨_, _, _, _, _⟩) lF' lN' ?nk5aFS4 ?ek5aFS4 ?_; (case ek5aFS4 => assumption); (case nk5aFS4 => omega)) | (refine' slice_from (s := ⟨_, _, _, _, _⟩) lF' lN' ?nk5aFS4 ?ek5aFS4 ?_; (case ek5aFS4 => assumption); (case nk5aFS4 => omega))); intro h' t' k' F' N')))
      k_with "compareOp In str str" => (((refine' in_Sb ?hk6aFS4 ?_; (case hk6aFS4 => first | assumption | exact (by decide +kernel : _ = true) | exact (by decide +kernel : _ = false)))))
      k_with "binaryOp Add str str" => ((((first | (refine' add_S0 ?nk7aFS4 ?_; (case nk7aFS4 => (simp only [List.length_cons, List.length_nil, List.length_append]; omega))) | (refine' add_S ?nk7aFS4 ?_; (case nk7aFS4 => (simp only [List.length_cons, List.length_nil, List.length_append]; omega)))); intro t' k')))
      k_with "execs cons" => ((k_dflt ((first | k_gentoks | ((with_reducible refine wpAny_execs_cons ?_); (try dsimp only); (try k_fold))))))
      k_with "subscriptTail Name Name str int" => (first | (refine item_at (k := done.length) (by omega) i0 (by omega) ?_) | (refine item_at (k := done.length + 1) (by omega) i1 (by omega) ?_))
      k_steps
      rename Fr _ _ _ _ => lF
      rename News _ _ _ _ => lN
      refine' JS_end (tok := [c]) (o := [c]) e1' e2 r e4 e5 (by omega) ?hxFS4 ?hooFS4 lN lF ?a1FS4 ?a2FS4 ?a3FS4 ?hsFS4
      case a1FS4 => with_unfolding_all rfl
      case a2FS4 => with_unfolding_all rfl
      case a3FS4 => with_unfolding_all rfl
      case hxFS4 => rw [e10]; simp; try omega
      case hooFS4 => first | rfl | decide +kernel
      case hsFS4 => rfl
    · have i0 : P[done.length]? = some 91 := by rw [e2]; simp
      simp only [List.length_cons, List.length_append, List.length_nil] at hPn
      have e22 : P = (done ++ [91]) ++ (us.flatten ++ 93 :: (toks'.flatten ++ [41, 92, 90])) := by rw [e2]; simp
      k_with_none
      k_with "WhlIf" => ((first | (refine WhlIf.yes rfl ?_) | (refine WhlIf.no rfl ?_) | (refine WhlIf.no (by first | assumption | (simp only [decide_eq_false_iff_not]; omega)) ?_) | (refine WhlIf.yes (by first | assumption | (simp only [decide_eq_true_eq]; omega)) ?_)))
      k_with "ite" => ((k_dflt (first
  | (refine' PySem.W.ite_pos ?cck1aFS4 ?_; (case cck1aFS4 => first | rfl | (simp only [beq_iff_eq, decide_eq_true_eq, bne_iff_ne, ne_eq]; omega)))
  | (refine' PySem.W.ite_neg ?cck1aFS4 ?_; (case cck1aFS4 => first | exact Bool.false_ne_true | exact Bool.eq_false_iff.mp (by assumption) | (simp only [beq_iff_eq, decide_eq_true_eq, bne_iff_ne, ne_eq]; omega))))))
      k_with "compareOp Eq str str" => (((refine' cmp_eq ?hk2aFS4 ?_; (case hk2aFS4 => first | assumption | exact (by decide +kernel : _ = true) | exact (by decide +kernel : _ = false)))))
      k_with "compareOp NotEq str str" => (((refine' cmp_ne ?hk3aFS4 ?_; (case hk3aFS4 => first | assumption | exact (by decide +kernel : _ = true) | exact (by decide +kernel : _ = false)))))
      k_with "call builtin:len" => (((refine len_S (by omega) ?_)))
      k_with "subscriptTail Name Slice str ref" => ((((with_reducible rename Fr _ _ _ _ => lF'); (with_reducible rename News _ _ _ _ => lN'); (first | (refine' slice_to (s := ⟨_, _, _, _, _⟩) lF' lN' ?nk5aFS4 ?ek5aFS4 ?_; (case ek5aFS4 => assumption); (case nk5aFS4 => omega)) | (refine' slice_from (s := ⟨_, _, _, _, _⟩) lF' lN' ?nk5aFS4 ?ek5aFS4 ?_; (case ek5aFS4 => assumption); (case nk5aFS4 => omega))); intro h' t' k' F' N')))
      k_with "compareOp In str str" => (((refine' in_Sb ?hk6aFS4 ?_; (case hk6aFS4 => first | assumption | exact (by decide +kernel : _ = true) | exact (by decide +kernel : _ = false)))))
      k_with "binaryOp Add str str" => ((((first | (refine' add_S0 ?nk7aFS4 ?_; (case nk7aFS4 => (simp only [List.length_cons, List.length_nil, List.length_append]; omega))) | (refine' add_S ?nk7aFS4 ?_; (case nk7aFS4 => (simp only [List.length_cons, List.length_nil, List.length_append]; omega)))); intro t' k')))
      k_with "execs cons" => ((k_dflt ((first | k_gentoks | ((with_reducible refine wpAny_execs_cons ?_); (try dsimp only); (try k_fold))))))
      k_with "subscriptTail Name Name str int" => (refine item_at (k := done.length) (by omega) i0 (by omega) ?_)
      k_with "last exec While" => (refine Halt.mk ?_)
      k_with "exec While" => (refine Halt.mk ?_)
      k_steps
      unfold Halt
      rename Fr _ _ _ _ => lF
      rename News _ _ _ _ => lN
      refine' JW_go (s₀ := s) lF lN e22 hus hul ?hx2FS4 ?a1FS4 ?a2FS4 ?a3FS4 ?a4FS4 ?hs2FS4 ?hE2FS4 ?turn2FS4 ?last2FS4
      case hE2FS4 => passes_own
      case a1FS4 => with_unfolding_all rfl
      case a2FS4 => with_unfolding_all rfl
      case a3FS4 => with_unfolding_all rfl
      case a4FS4 => with_unfolding_all rfl
      case hx2FS4 => rw [e10]; simp
      case hs2FS4 => rfl
      case turn2FS4 =>
        clear lF lN
        intro n2 s2 hJ2
        obtain ⟨pre, us2, sg, osb, mm2, x2, tk2, ts2, h2, tk12, rfl, d1, d2, d3, d4, d5, d6, N3, F3⟩ := hJ2
        cases d3 with
        | nil => simp at d1
        | @cons cd c us3 osb2 hu r2 =>
        have d1' : us3.length = n2 := by simpa using d1
        have hPn2 : P.length = pre.length + cd.length + us3.flatten.length + 1 + (toks'.flatten.length + 3) := by rw [d2]; simp only [List.length_append, List.length_cons, List.length_nil, List.flatten_cons]; omega
        cases hu with
        | plain h1 h2 h3 =>
          have i2 : P[pre.length]? = some c := by rw [d2]; simp
          simp only [List.length_cons, List.length_nil] at hPn2
          k_with_none
          k_with "WhlIf" => ((first | (refine WhlIf.yes rfl ?_) | (refine WhlIf.no rfl ?_) | (refine WhlIf.no (by first | assumption | (simp only [decide_eq_false_iff_not]; omega)) ?_) | (refine WhlIf.yes (by first | assumption | (simp only [decide_eq_true_eq]; omega)) ?_)))
          k_with "ite" => ((k_dflt (first
  | (refine' PySem.W.ite_pos ?cck1aFS4 ?_; (case cck1aFS4 => first | rfl | (simp only [beq_iff_eq, decide_eq_true_eq, bne_iff_ne, ne_eq]; omega)))
  | (refine' PySem.W.ite_neg ?cck1aFS4 ?_; (case cck1aFS4 => first | exact Bool.false_ne_true | exact Bool.eq_false_iff.mp (by assumption) | (simp only [beq_iff_eq, decide_eq_true_eq, bne_iff_ne, ne_eq]; omega))))))
          k_with "compareOp Eq str str" => (((refine' cmp_eq ?hk2aFS4 ?_; (case hk2aFS4 => first | assumption | exact (by decide +kernel : _ = true) | exact (by decide +kernel : _ = false)))))
          k_with "compareOp NotEq str str" => (((refine' cmp_ne ?hk3aFS4 ?_; (case hk3aFS4 => first | assumption | exact (by decide +kernel : _ = true) | exact (by decide +kernel : _ = false)))))
          k_with "call builtin:len" => (((refine len_S (by omega) ?_)))
          k_with "subscriptTail Name Slice str ref" => ((((with_reducible rename Fr _ _ _ _ => lF'); (with_reducible rename News _ _ _ _ => lN'); (first | (refine' slice_to (s := ⟨_, _, _, _, _⟩) lF' lN' ?nk5aFS4 ?ek5aFS4 ?_; (case ek5aFS4 => assumption); (case nk5aFS4 => omega)) | (refine' slice_from (s := ⟨_, _, _, _, _⟩) lF' lN' ?nk5aFS4 ?ek5aFS4 ?_; (case ek5aFS4 => assumption); (case nk5aFS4 => omega))); intro h' t' k' F' N')))
          k_with "compareOp In str str" => (((refine' in_Sb ?hk6aFS4 ?_; (case hk6aFS4 => first | assumption | exact (by decide +kernel : _ = true) | exact (by decide +kernel : _ = false)))))
          k_with "binaryOp Add str str" => ((((first | (refine' add_S0 ?nk7aFS4 ?_; (case nk7aFS4 => (simp only [List.length_cons, List.length_nil, List.length_append]; omega))) | (refine' add_S ?nk7aFS4 ?_; (case nk7aFS4 => (simp only [List.length_cons, List.length_nil, List.length_append]; omega)))); intro t' k')))
          k_with "execs cons" => ((k_dflt ((first | k_gentoks | ((with_reducible refine wpAny_execs_cons ?_); (try dsimp only); (try k_fold))))))
          k_with "subscriptTail Name Name str int" => (refine item_at (k := pre.length) (by omega) i2 (by omega) ?_)
          k_steps
          rename Fr _ _ _ _ => lF
          rename News _ _ _ _ => lN
          refine' JW_end (a := [c]) (b := c) d1' d2 r2 d4 (by omega) ?hxFS4 rfl lN lF ?a1FS4 ?a2FS4 ?a3FS4 ?a4FS4 ?hsFS4
          case a1FS4 => with_unfolding_all rfl
          case a2FS4 => with_unfolding_all rfl
          case a3FS4 => with_unfolding_all rfl
          case a4FS4 => with_unfolding_all rfl
          case hxFS4 => rw [d6]; simp; try omega
          case hsFS4 => rfl
        | esc =>
          have i2 : P[pre.length]? = some 92 := by rw [d2]; simp
          have i3 : P[pre.length + 1]? = some 45 := by rw [d2]; simp
          have em9 : (!(Builtin.Str.occurrences (Str.ofString "-^") (S [92]) 0 (Str.ofString "-^").length 1).isEmpty) = false := by decide +kernel
          have ec9 : (S [92] == Str.ofString "]") = false := by decide +kernel
          have es9 : (S [92] == Str.ofString "\\") = true := by decide +kernel
          simp only [List.length_cons, List.length_nil] at hPn2
          k_with_none
          k_with "WhlIf" => ((first | (refine WhlIf.yes rfl ?_) | (refine WhlIf.no rfl ?_) | (refine WhlIf.no (by first | assumption | (simp only [decide_eq_false_iff_not]; omega)) ?_) | (refine WhlIf.yes (by first | assumption | (simp only [decide_eq_true_eq]; omega)) ?_)))
          k_with "ite" => ((k_dflt (first
  | (refine' PySem.W.ite_pos ?cck1aFS4 ?_; (case cck1aFS4 => first | rfl | (simp only [beq_iff_eq, decide_eq_true_eq, bne_iff_ne, ne_eq]; omega)))
  | (refine' PySem.W.ite_neg ?cck1aFS4 ?_; (case cck1aFS4 => first | exact Bool.false_ne_true | exact Bool.eq_false_iff.mp (by assumption) | (simp only [beq_iff_eq, decide_eq_true_eq, bne_iff_ne, ne_eq]; omega))))))
          k_with "compareOp Eq str str" => (((refine' cmp_eq ?hk2aFS4 ?_; (case hk2aFS4 => first | assumption | exact (by decide +kernel : _ = true) | exact (by decide +kernel : _ = false)))))
          k_with "compareOp NotEq str str" => (((refine' cmp_ne ?hk3aFS4 ?_; (case hk3aFS4 => first | assumption | exact (by decide +kernel : _ = true) | exact (by decide +kernel : _ = false)))))
          k_with "call builtin:len" => (((refine len_S (by omega) ?_)))
          k_with "subscriptTail Name Slice str ref" => ((((with_reducible rename Fr _ _ _ _ => lF'); (with_reducible rename News _ _ _ _ => lN'); (first | (refine' slice_to (s := ⟨_, _, _, _, _⟩) lF' lN' ?nk5aFS4 ?ek5aFS4 ?_; (case ek5aFS4 => assumption); (case nk5aFS4 => omega)) | (refine' slice_from (s := ⟨_, _, _, _, _⟩) lF' lN' ?nk5aFS4 ?ek5aFS4 ?_; (case ek5aFS4 => assumption); (case nk5aFS4 => omega))); intro h' t' k' F' N')))
          k_with "compareOp In str str" => (((refine' in_Sb ?hk6aFS4 ?_; (case hk6aFS4 => first | assumption | exact (by decide +kernel : _ = true) | exact (by decide +kernel : _ = false)))))
          k_with "binaryOp Add str str" => ((((first | (refine' add_S0 ?nk7aFS4 ?_; (case nk7aFS4 => (simp only [List.length_cons, List.length_nil, List.length_append]; omega))) | (refine' add_S ?nk7aFS4 ?_; (case nk7aFS4 => (simp only [List.length_cons, List.length_nil, List.length_append]; omega)))); intro t' k')))
          k_with "execs cons" => ((k_dflt ((first | k_gentoks | ((with_reducible refine wpAny_execs_cons ?_); (try dsimp only); (try k_fold))))))
          k_with "subscriptTail Name Name str int" => (first | (refine item_at (k := pre.length) (by omega) i2 (by omega) ?_) | (refine item_at (k := pre.length + 1) (by omega) i3 (by omega) ?_))
          k_steps
          rename Fr _ _ _ _ => lF
          rename News _ _ _ _ => lN
          refine' JW_end (a := [92, 45]) (b := 45) d1' d2 r2 d4 (by omega) ?hxFS4 rfl lN lF ?a1FS4 ?a2FS4 ?a3FS4 ?a4FS4 ?hsFS4
          case a1FS4 => with_unfolding_all rfl
          case a2FS4 => with_unfolding_all rfl
          case a3FS4 => with_unfolding_all rfl
          case a4FS4 => with_unfolding_all rfl
          case hxFS4 => rw [d6]; simp; try omega
          case hsFS4 => rfl
      case last2FS4 =>
        clear lF lN
        intro s2 hJ2
        obtain ⟨pre, us2, sg, osb, mm2, x2, tk2, ts2, h2, tk12, rfl, d1, d2, d3, d4, d5, d6, N3, F3⟩ := hJ2
        obtain rfl : us2 = [] := List.length_eq_zero_iff.mp d1
        obtain rfl : osb = [] := by cases d3; rfl
        have i2 : P[pre.length]? = some 93 := by rw [d2]; simp
        have hPn2 : P.length = pre.length + 1 + (toks'.flatten.length + 3) := by rw [d2]; simp only [List.length_append, List.length_cons, List.length_nil, List.flatten_nil]; omega
        have hpl : pre.length = done.length + 1 + us.flatten.length := by omega
        k_with_none
        k_with "WhlIf" => ((first | (refine WhlIf.yes rfl ?_) | (refine WhlIf.no rfl ?_) | (refine WhlIf.no (by first | assumption | (simp only [decide_eq_false_iff_not]; omega)) ?_) | (refine WhlIf.yes (by first | assumption | (simp only [decide_eq_true_eq]; omega)) ?_)))
        k_with "ite" => ((k_dflt (first
  | (refine' PySem.W.ite_pos ?cck1aFS4 ?_; (case cck1aFS4 => first | rfl | (simp only [beq_iff_eq, decide_eq_true_eq, bne_iff_ne, ne_eq]; omega)))
  | (refine' PySem.W.ite_neg ?cck1aFS4 ?_; (case cck1aFS4 => first | exact Bool.false_ne_true | exact Bool.eq_false_iff.mp (by assumption) | (simp only [beq_iff_eq, decide_eq_true_eq, bne_iff_ne, ne_eq]; omega))))))
        k_with "compareOp Eq str str" => (((refine' cmp_eq ?hk2aFS4 ?_; (case hk2aFS4 => first | assumption | exact (by decide +kernel : _ = true) | exact (by decide +kernel : _ = false)))))
        k_with "compareOp NotEq str str" => (((refine' cmp_ne ?hk3aFS4 ?_; (case hk3aFS4 => first | assumption | exact (by decide +kernel : _ = true) | exact (by decide +kernel : _ = false)))))
        k_with "call builtin:len" => (((refine len_S (by omega) ?_)))
        k_with "subscriptTail Name Slice str ref" => ((((with_reducible rename Fr _ _ _ _ => lF'); (with_reducible rename News _ _ _ _ => lN'); (first | (refine' slice_to (s := ⟨_, _, _, _, _⟩) lF' lN' ?nk5aFS4 ?ek5aFS4 ?_; (case ek5aFS4 => assumption); (case nk5aFS4 => omega)) | (refine' slice_from (s := ⟨_, _, _, _, _⟩) lF' lN' ?nk5aFS4 ?ek5aFS4 ?_; (case ek5aFS4 => assumption); (case nk5aFS4 => omega))); intro h' t' k' F' N')))
        k_with "compareOp In str str" => (((refine' in_Sb ?hk6aFS4 ?_; (case hk6aFS4 => first | assumption | exact (by decide +kernel : _ = true) | exact (by decide +kernel : _ = false)))))
        k_with "binaryOp Add str str" => ((((first | (refine' add_S0 ?nk7aFS4 ?_; (case nk7aFS4 => (simp only [List.length_cons, List.length_nil, List.length_append]; omega))) | (refine' add_S ?nk7aFS4 ?_; (case nk7aFS4 => (simp only [List.length_cons, List.length_nil, List.length_append]; omega)))); intro t' k')))
        k_with "execs cons" => ((k_dflt ((first | k_gentoks | ((with_reducible refine wpAny_execs_cons ?_); (try dsimp only); (try k_fold))))))
        k_with "subscriptTail Name Name str int" => (refine item_at (k := pre.length) (by omega) i2 (by omega) ?_)
        k_steps
        rename Fr _ _ _ _ => lF
        rename News _ _ _ _ => lN
        refine' JS_end (o := o) e1' e2 r e4 e5 (by omega) ?hxFS4 ?hooFS4 lN lF ?a1FS4 ?a2FS4 ?a3FS4 ?hsFS4
        case a1FS4 => with_unfolding_all rfl
        case a2FS4 => with_unfolding_all rfl
        case a3FS4 => with_unfolding_all rfl
        case hxFS4 => rw [d6]; simp only [List.length_cons, List.length_append, List.length_nil]; omega
        case hooFS4 => rw [d4, List.append_nil]
        case hsFS4 => rfl
  case lastFS4 =>
    clear lF lN
    intro s' hJ
    obtain ⟨done, tks, os1, os2, mm, vs, cnt, x, tk, h1, tk1, rfl, e1, e2, e3, e4, e5, e6, e10, N2, F2⟩ := hJ
    obtain rfl : tks = [] := List.length_eq_zero_iff.mp e1
    obtain rfl : os2 = [] := by cases e3; rfl
    have hPn : P.length = done.length + 3 := by rw [e2]; simp
    k_with_none
    k_with "WhlIf" => ((first | (refine WhlIf.yes rfl ?_) | (refine WhlIf.no rfl ?_) | (refine WhlIf.no (by first | assumption | (simp only [decide_eq_false_iff_not]; omega)) ?_) | (refine WhlIf.yes (by first | assumption | (simp only [decide_eq_true_eq]; omega)) ?_)))
    k_with "ite" => ((k_dflt (first
  | (refine' PySem.W.ite_pos ?cck1aFS4 ?_; (case cck1aFS4 => first | rfl | (simp only [beq_iff_eq, decide_eq_true_eq, bne_iff_ne, ne_eq]; omega)))
  | (refine' PySem.W.ite_neg ?cck1aFS4 ?_; (case cck1aFS4 => first | exact Bool.false_ne_true | exact Bool.eq_false_iff.mp (by assumption) | (simp only [beq_iff_eq, decide_eq_true_eq, bne_iff_ne, ne_eq]; omega))))))
    k_with "compareOp Eq str str" => (((refine' cmp_eq ?hk2aFS4 ?_; (case hk2aFS4 => first | assumption | exact (by decide +kernel : _ = true) | exact (by decide +kernel : _ = false)))))
    k_with "compareOp NotEq str str" => (((refine' cmp_ne ?hk3aFS4 ?_; (case hk3aFS4 => first | assumption | exact (by decide +kernel : _ = true) | exact (by decide +kernel : _ = false)))))
    k_with "call builtin:len" => (((refine len_S (by omega) ?_)))
    k_with "subscriptTail Name Slice str ref" => ((((with_reducible rename Fr _ _ _ _ => lF'); (with_reducible rename News _ _ _ _ => lN'); (first | (refine' slice_to (s := ⟨_, _, _, _, _⟩) lF' lN' ?nk5aFS4 ?ek5aFS4 ?_; (case ek5aFS4 => assumption); (case nk5aFS4 => omega)) | (refine' slice_from (s := ⟨_, _, _, _, _⟩) lF' lN' ?nk5aFS4 ?ek5aFS4 ?_; (case ek5aFS4 => assumption); (case nk5aFS4 => omega))); intro h' t' k' F' N')))
    k_with "compareOp In str str" => (((refine' in_Sb ?hk6aFS4 ?_; (case hk6aFS4 => first | assumption | exact (by decide +kernel : _ = true) | exact (by decide +kernel : _ = false)))))
    k_with "binaryOp Add str str" => ((((first | (refine' add_S0 ?nk7aFS4 ?_; (case nk7aFS4 => (simp only [List.length_cons, List.length_nil, List.length_append]; omega))) | (refine' add_S ?nk7aFS4 ?_; (case nk7aFS4 => (simp only [List.length_cons, List.length_nil, List.length_append]; omega)))); intro t' k')))
    k_with "execs cons" => ((k_dflt ((first | k_gentoks | ((with_reducible refine wpAny_execs_cons ?_); (try dsimp only); (try k_fold))))))
    k_steps
    with_reducible rename Fr h₀ L _ m => kF
    with_reducible rename News h₀ L _ _ => kN
    refine ret _ vs cnt _ _ ?_ hal kF kN
    rw [e4, List.append_nil]; exact e5
,
  fun {w : World} {p : Program} {loose : List Str} {mean : ExcName → Option Value} {mg mb : Str → Option Value}
    {dp un : Nat} {gd : Option (List Code)} {cn : Str} {cs : PySem.Scope} {a : Addr} {ccd : Value} {cl : List (Str × Addr)} {outer : List Env} {A₀ : Around} {base h₀ : Heap} {L : Addr} {m : Str → Option Value} {s : Shared} {Q : Value → Shared → Prop} {E : Value → Shared → Prop}
    {rest : List (Addr × Obj)} {tr : Tok} {sets : List (List Nat)} {r : List Nat} {D cnt : Nat} {vs : List Value}
    (B : Below A₀ base outer h₀) (F : Fr h₀ L s.heap m) (X : (hd.heap_39 w.params).In h₀) (N : News h₀ L s.heap ((D, W.listOf vs.toArray cnt) :: rest)) (T : Top p loose mean mg mb h₀) (hk : cs.kind = .function)
    (hv : StrsAre vs (sets.map S)) (hs : sets.length = 10) (hr : r.length = 10)
    (hdp : dp + 40 < recursionLimit) (hu : un + 200 < cLine)
    (ret : ∀ h' tk', Fr h₀ L h' m → News h₀ L h' ((D, W.listOf vs.toArray cnt) :: rest) → Q (.bool (takes sets r)) { s with heap := h', toks := tk' }) => by
  revert X; k_fill; intro X
  have hvl : vs.length = 10 := by have e := strs_len hv; rw [List.length_map] at e; omega
  refine wpAny_call ?_
  k_dflt (refine' code_defC ?k1FKf ?k2FKf ?k3FKf ?k4FKf ?k5FKf ?kAFKf ?kFFKf ?kKFKf ?k6FKf ?k7FKf ?k8FKf ?k9FKf ?kBFKf ?kDFKf ?_ ?c2FKf ?c3FKf ?c4FKf; (case kAFKf => exact rfl); (case kFFKf => exact rfl); (case kKFKf => assumption); (case k1FKf => k_asm); (case k2FKf => k_asm); (case k3FKf => k_asm); (case k4FKf => k_asm); (case k5FKf => k_asm); (case k6FKf => k_is); (case k7FKf => k_is); (case k8FKf => ktr_room); (case k9FKf => exact BindsTo.of_eq rfl); (case kBFKf => exact rfl); (case kDFKf => decide +kernel); (case c2FKf => exact rfl); (case c3FKf => exact rfl); (case c4FKf => exact rfl); k_whole; intro g' L' h' tk' cells' FG' F' N' Y' B' X' T' l1; (try k_lt l1); k_cells Y'; (try simp only [List.cons_append, List.nil_append] at N'); (try dsimp only); (try k_lift B'); (try k_fold))
  k_with_none
  k_with "WhlIf" => ((first | (refine WhlIf.yes rfl ?_) | (refine WhlIf.no rfl ?_) | (refine WhlIf.no (by first | assumption | (simp only [decide_eq_false_iff_not]; omega)) ?_) | (refine WhlIf.yes (by first | assumption | (simp only [decide_eq_true_eq]; omega)) ?_)))
  k_with "ite" => ((k_dflt (first
  | (refine' PySem.W.ite_pos ?cck1aFKf ?_; (case cck1aFKf => first | rfl | (simp only [beq_iff_eq, decide_eq_true_eq, bne_iff_ne, ne_eq]; omega)))
  | (refine' PySem.W.ite_neg ?cck1aFKf ?_; (case cck1aFKf => first | exact Bool.false_ne_true | exact Bool.eq_false_iff.mp (by assumption) | (simp only [beq_iff_eq, decide_eq_true_eq, bne_iff_ne, ne_eq]; omega))))))
  k_with "call builtin:len" => (((first | (refine' len_Sx (x := 10) ?xk2aFKf ?nk2aFKf ?_; (case xk2aFKf => omega); (case nk2aFKf => omega)) | k_dflt (refine' len_L ?lk2aFKf ?nk2aFKf ?_; (case lk2aFKf => is_list); (case nk2aFKf => omega)))))
  k_with "CompSrcT" => (((k_dflt (refine' LCt.CompSrcT.range ?hhk3aFKf ?Fk3aFKf ?Nk3aFKf ?rk3aFKf ?smk3aFKf ?nk3aFKf ?szk3aFKf ?_; (case hhk3aFKf => rfl); (case Fk3aFKf => k_asm); (case Nk3aFKf => k_asm); (case rk3aFKf => assumption); (case smk3aFKf => first | decide | rfl); (case nk3aFKf => first | rfl | decide); (case szk3aFKf => first | size_fits | exact Nat.le_of_ble_eq_true rfl); intro g9; refine Halt.mk ?_))))
  k_with "execs cons" => ((k_dflt ((first | k_gentoks | ((with_reducible refine wpAny_execs_cons ?_); (try dsimp only); (try k_fold))))))
  k_steps
  unfold Halt
  refine' restT_inv (fun i ys => IntsAre ys (lacks sets r i)) trivial .nil ?turnFKf ?finFKf
  case turnFKf =>
    intro i ys v' I' oI' C' oC' D' m' h' tk' E' hi hJ hv' hC' hx' F' N' off' ne'
    obtain ⟨t9, rfl⟩ := hv'
    have off0 := off'
    try simp only [LCg.Off3] at off'
    have hi10 : i < 10 := hi
    have i0 : r[i]? = some (r.getD i 0) := by rw [List.getD_eq_getElem?_getD, List.getElem?_eq_getElem (by omega)]; rfl
    obtain ⟨t8, hvi⟩ := strs_getD hv (show i < sets.length by omega)
    k_with_none
    k_with "WhlIf" => ((first | (refine WhlIf.yes rfl ?_) | (refine WhlIf.no rfl ?_) | (refine WhlIf.no (by first | assumption | (simp only [decide_eq_false_iff_not]; omega)) ?_) | (refine WhlIf.yes (by first | assumption | (simp only [decide_eq_true_eq]; omega)) ?_)))
    k_with "ite" => ((k_dflt (first
  | (refine' PySem.W.ite_pos ?cck1aFKf ?_; (case cck1aFKf => first | rfl | (simp only [beq_iff_eq, decide_eq_true_eq, bne_iff_ne, ne_eq]; omega)))
  | (refine' PySem.W.ite_neg ?cck1aFKf ?_; (case cck1aFKf => first | exact Bool.false_ne_true | exact Bool.eq_false_iff.mp (by assumption) | (simp only [beq_iff_eq, decide_eq_true_eq, bne_iff_ne, ne_eq]; omega))))))
    k_with "call builtin:len" => (((first | (refine' len_Sx (x := 10) ?xk2aFKf ?nk2aFKf ?_; (case xk2aFKf => omega); (case nk2aFKf => omega)) | k_dflt (refine' len_L ?lk2aFKf ?nk2aFKf ?_; (case lk2aFKf => is_list); (case nk2aFKf => omega)))))
    k_with "CompSrcT" => (((k_dflt (refine' LCt.CompSrcT.range ?hhk3aFKf ?Fk3aFKf ?Nk3aFKf ?rk3aFKf ?smk3aFKf ?nk3aFKf ?szk3aFKf ?_; (case hhk3aFKf => rfl); (case Fk3aFKf => k_asm); (case Nk3aFKf => k_asm); (case rk3aFKf => assumption); (case smk3aFKf => first | decide | rfl); (case nk3aFKf => first | rfl | decide); (case szk3aFKf => first | size_fits | exact Nat.le_of_ble_eq_true rfl); intro g9; refine Halt.mk ?_))))
    k_with "execs cons" => ((k_dflt ((first | k_gentoks | ((with_reducible refine wpAny_execs_cons ?_); (try dsimp only); (try k_fold))))))
    k_with "subscriptTail Name Name str int" => (refine item_at (k := i) (by omega) i0 (by omega) ?_)
    k_with "subscriptTail Name Name ref int" => ((k_dflt ((k_dflt (refine' item_L (i := i) ?lk5aFKf ?kk5aFKf ?bk5aFKf hvi ?_; (case lk5aFKf => is_list); (case kk5aFKf => omega); (case bk5aFKf => omega))))))
    k_with "compareOp NotIn str str" => (refine' notin_Sb ?hFKf ?_; (case hFKf => assumption))
    cases hc : decide (r.getD i 0 ∈ sets.getD i []) with
    | true =>
      k_steps
      exact LCg.CompEnd.intro (by assumption) (by assumption) _ (fun p hp => hp) off0 trivial ⟨rfl, by rw [lacks_yes hc]; exact hJ⟩
    | false =>
      k_steps
      exact LCg.CompEnd.intro (by assumption) (by assumption) _ (fun p hp => hp) off0 trivial ⟨rfl, by rw [lacks_no hc]; exact ints_push' (by omega) hJ⟩
  case finFKf =>
    intro ys hys
    rw [show lacks sets r 10 = lacks sets r r.length from by rw [hr]] at hys
    k_with_none
    k_with "WhlIf" => ((first | (refine WhlIf.yes rfl ?_) | (refine WhlIf.no rfl ?_) | (refine WhlIf.no (by first | assumption | (simp only [decide_eq_false_iff_not]; omega)) ?_) | (refine WhlIf.yes (by first | assumption | (simp only [decide_eq_true_eq]; omega)) ?_)))
    k_with "ite" => ((k_dflt (first
  | (refine' PySem.W.ite_pos ?cck1aFKf ?_; (case cck1aFKf => first | rfl | (simp only [beq_iff_eq, decide_eq_true_eq, bne_iff_ne, ne_eq]; omega)))
  | (refine' PySem.W.ite_neg ?cck1aFKf ?_; (case cck1aFKf => first | exact Bool.false_ne_true | exact Bool.eq_false_iff.mp (by assumption) | (simp only [beq_iff_eq, decide_eq_true_eq, bne_iff_ne, ne_eq]; omega))))))
    k_with "call builtin:len" => (((first | (refine' len_Sx (x := 10) ?xk2aFKf ?nk2aFKf ?_; (case xk2aFKf => omega); (case nk2aFKf => omega)) | k_dflt (refine' len_L ?lk2aFKf ?nk2aFKf ?_; (case lk2aFKf => is_list); (case nk2aFKf => omega)))))
    k_with "CompSrcT" => (((k_dflt (refine' LCt.CompSrcT.range ?hhk3aFKf ?Fk3aFKf ?Nk3aFKf ?rk3aFKf ?smk3aFKf ?nk3aFKf ?szk3aFKf ?_; (case hhk3aFKf => rfl); (case Fk3aFKf => k_asm); (case Nk3aFKf => k_asm); (case rk3aFKf => assumption); (case smk3aFKf => first | decide | rfl); (case nk3aFKf => first | rfl | decide); (case szk3aFKf => first | size_fits | exact Nat.le_of_ble_eq_true rfl); intro g9; refine Halt.mk ?_))))
    k_with "execs cons" => ((k_dflt ((first | k_gentoks | ((with_reducible refine wpAny_execs_cons ?_); (try dsimp only); (try k_fold))))))
    k_steps
    with_reducible rename Fr h₀ L _ m => kF
    with_reducible rename News h₀ L _ _ => kN
    rw [lacks_takes]
    exact ret _ _ kF (News.perm kN fun _ hp => List.Mem.tail _ (List.Mem.tail _ (List.Mem.tail _ (List.Mem.tail _ hp))))
,
  fun {w : World} {p : Program} {loose : List Str} {mean : ExcName → Option Value} {mg mb : Str → Option Value}
    {dp un : Nat} {gd : Option (List Code)} {cn : Str} {cs : PySem.Scope} {a : Addr} {ccd : Value} {cl : List (Str × Addr)} {outer : List Env} {A₀ : Around} {base h₀ : Heap} {L : Addr} {m : Str → Option Value} {s : Shared} {Q : Value → Shared → Prop} {E : Value → Shared → Prop}
    {rest : List (Addr × Obj)} {l cnt : Nat} {f0 f1 f2 f3 : Int} {t0 t1 t2 t3 : Tok}
    (B : Below A₀ base outer h₀) (F : Fr h₀ L s.heap m) (X : (hd.heap_39 w.params).In h₀) (N : News h₀ L s.heap ((l, W.listOf #[.int f0 t0, .int f1 t1, .int f2 t2, .int f3 t3] cnt) :: rest)) (T : Top p loose mean mg mb h₀) (hk : cs.kind = .function)
    (hdp : dp + 40 < recursionLimit) (hu : un + 200 < cLine)
    (ret : ∀ (R : Nat) t h' tk', R < 4096 → Fr h₀ L h' m → News h₀ L h' ((l, W.listOf #[.int f0 t0, .int f1 t1, .int f2 t2, .int f3 t3] cnt) :: rest) → Q (.int (R : Int) t) { s with heap := h', toks := tk' }) => by
  revert X; k_fill; intro X
  refine wpAny_call ?_
  k_dflt cell_enter
  k_with_none
  k_with "execs cons" => ((k_dflt ((first | k_gentoks | ((with_reducible refine wpAny_execs_cons ?_); (try dsimp only); (try k_fold))))))
  k_steps
  with_reducible rename Fr h₀ L _ m => kF
  with_reducible rename News h₀ L _ _ => kN
  obtain ⟨R, hR, hlt⟩ := num4 f0 f1 f2 f3
  rw [hR]
  exact ret R _ _ _ hlt kF kN
⟩
theorem digits_first : ∀ {w : World} {p : Program} {loose : List Str} {mean : ExcName → Option Value} {mg mb : Str → Option Value}
    {dp un : Nat} {gd : Option (List Code)} {cn : Str} {cs : PySem.Scope} {a : Addr} {ccd : Value} {cl : List (Str × Addr)} {outer : List Env} {A₀ : Around} {base h₀ : Heap} {L : Addr} {m : Str → Option Value} {s : Shared} {Q : Value → Shared → Prop} {E : Value → Shared → Prop}
    {rest : List (Addr × Obj)} {x n : Int} {tx tn : Tok} {K x0 b : Nat} 
    (B : Below A₀ base outer h₀) (F : Fr h₀ L s.heap m) (X : (hd.heap_39 w.params).In h₀) (N : News h₀ L s.heap ((33, tabObj #[]) :: rest)) (T : Top p loose mean mg mb h₀) (hk : cs.kind = .function) (C : CodeHd base 37 33) (h33 : ∀ p ∈ rest, p.1 ≠ 33) (hx : x = (x0 : Int)) (hx64 : x0 < 2 ^ 60) (hn : n = (b : Int)) (hb : 1 ≤ b ∧ b ≤ 8) (hK : ((Builtin.Int.intBits x : Int) + n - 1).fdiv n = (K : Int)) (hK0 : x0 ≠ 0 → 1 ≤ K) (hK1 : K ≤ 16) (hKX : x0 < 2 ^ (b * K))
    (hdp : dp + 80 < recursionLimit) (hu : un + 400 < cLine)
    (ret : ∀ D' c' vs' cnt' oc' vsc' t' h' tk', IntsAre vs' (digs b K x0) → AllLt c' rest → oc'.data = .fields vsc' → vsc'[1]? = some (.str (Str.ofString "_int2digits.<locals>.inner") t') → Fr h₀ L h' m → News h₀ L h' ((D', W.listOf vs'.toArray cnt') :: (33, tabObj #[rawInt 6, rawInt 4, .ref c']) :: (c', oc') :: rest) → Q (.ref D') { s with heap := h', toks := tk' }),
    wpAny (model PySem.Challenge.rw_ik0122_01.row.prog w) (ktrTop dp un gd cn cs L a ccd cl outer) (call (.ref 38) [.int x tx, .int n tn]) Q E s := walksFDfFNfFBgFCgFJFWFS4FKfFUf.1
theorem digits_next : ∀ {w : World} {p : Program} {loose : List Str} {mean : ExcName → Option Value} {mg mb : Str → Option Value}
    {dp un : Nat} {gd : Option (List Code)} {cn : Str} {cs : PySem.Scope} {a : Addr} {ccd : Value} {cl : List (Str × Addr)} {outer : List Env} {A₀ : Around} {base h₀ : Heap} {L : Addr} {m : Str → Option Value} {s : Shared} {Q : Value → Shared → Prop} {E : Value → Shared → Prop}
    {rest : List (Addr × Obj)} {x n : Int} {tx tn : Tok} {K x0 b : Nat} {c' : Addr} {oc : Obj} {vsc : Array Value} {t : Tok} (hoc : oc.data = .fields vsc) (hq : vsc[1]? = some (.str (Str.ofString "_int2digits.<locals>.inner") t))
    (B : Below A₀ base outer h₀) (F : Fr h₀ L s.heap m) (X : (hd.heap_39 w.params).In h₀) (N : News h₀ L s.heap ((33, tabObj #[rawInt 6, rawInt 4, .ref c']) :: (c', oc) :: rest)) (T : Top p loose mean mg mb h₀) (hk : cs.kind = .function) (C : CodeHd base 37 33) (h33 : ∀ p ∈ rest, p.1 ≠ 33) (hx : x = (x0 : Int)) (hx64 : x0 < 2 ^ 60) (hn : n = (b : Int)) (hb : 1 ≤ b ∧ b ≤ 8) (hK : ((Builtin.Int.intBits x : Int) + n - 1).fdiv n = (K : Int)) (hK0 : x0 ≠ 0 → 1 ≤ K) (hK1 : K ≤ 16) (hKX : x0 < 2 ^ (b * K))
    (hdp : dp + 80 < recursionLimit) (hu : un + 400 < cLine)
    (ret : ∀ D' vs' cnt' h' tk', IntsAre vs' (digs b K x0) → (33 < D' ∧ AllLt D' rest) → Fr h₀ L h' m → News h₀ L h' ((D', W.listOf vs'.toArray cnt') :: (33, tabObj #[rawInt 6, rawInt 4, .ref c']) :: (c', oc) :: rest) → Q (.ref D') { s with heap := h', toks := tk' }),
    wpAny (model PySem.Challenge.rw_ik0122_01.row.prog w) (ktrTop dp un gd cn cs L a ccd cl outer) (call (.ref 38) [.int x tx, .int n tn]) Q E s := walksFDfFNfFBgFCgFJFWFS4FKfFUf.2.1
theorem least_call : ∀ {w : World} {p : Program} {loose : List Str} {mean : ExcName → Option Value} {mg mb : Str → Option Value}
    {dp un : Nat} {gd : Option (List Code)} {cn : Str} {cs : PySem.Scope} {a : Addr} {ccd : Value} {cl : List (Str × Addr)} {outer : List Env} {A₀ : Around} {base h₀ : Heap} {L : Addr} {m : Str → Option Value} {s : Shared} {Q : Value → Shared → Prop} {E : Value → Shared → Prop}
    {rest : List (Addr × Obj)} {r0 : Nat} {rs : List Nat} {tx : Tok}
    (B : Below A₀ base outer h₀) (F : Fr h₀ L s.heap m) (X : (hd.heap_39 w.params).In h₀) (N : News h₀ L s.heap rest) (T : Top p loose mean mg mb h₀) (hk : cs.kind = .function) (hrs : rs.length = 9)
    (hdp : dp + 20 < recursionLimit) (hu : un + 100 < cLine)
    (ret : ∀ t h' tk', Fr h₀ L h' m → News h₀ L h' rest → Q (.str (S (leastP r0 rs)) t) { s with heap := h', toks := tk' }),
    wpAny (model PySem.Challenge.rw_ik0122_01.row.prog w) (ktrTop dp un gd cn cs L a ccd cl outer) (call (.ref 144) [.str (S (r0 :: rs)) tx]) Q E s := walksFDfFNfFBgFCgFJFWFS4FKfFUf.2.2.1
theorem most_call : ∀ {w : World} {p : Program} {loose : List Str} {mean : ExcName → Option Value} {mg mb : Str → Option Value}
    {dp un : Nat} {gd : Option (List Code)} {cn : Str} {cs : PySem.Scope} {a : Addr} {ccd : Value} {cl : List (Str × Addr)} {outer : List Env} {A₀ : Around} {base h₀ : Heap} {L : Addr} {m : Str → Option Value} {s : Shared} {Q : Value → Shared → Prop} {E : Value → Shared → Prop}
    {rest : List (Addr × Obj)} {r0 : Nat} {rs : List Nat} {tx : Tok}
    (B : Below A₀ base outer h₀) (F : Fr h₀ L s.heap m) (X : (hd.heap_39 w.params).In h₀) (N : News h₀ L s.heap rest) (T : Top p loose mean mg mb h₀) (hk : cs.kind = .function) (hrs : rs.length = 9)
    (hdp : dp + 20 < recursionLimit) (hu : un + 100 < cLine)
    (ret : ∀ t h' tk', Fr h₀ L h' m → News h₀ L h' rest → Q (.str (S (mostP r0 rs)) t) { s with heap := h', toks := tk' }),
    wpAny (model PySem.Challenge.rw_ik0122_01.row.prog w) (ktrTop dp un gd cn cs L a ccd cl outer) (call (.ref 151) [.str (S (r0 :: rs)) tx]) Q E s := walksFDfFNfFBgFCgFJFWFS4FKfFUf.2.2.2.1
theorem glue_call : ∀ {w : World} {p : Program} {loose : List Str} {mean : ExcName → Option Value} {mg mb : Str → Option Value}
    {dp un : Nat} {gd : Option (List Code)} {cn : Str} {cs : PySem.Scope} {a : Addr} {ccd : Value} {cl : List (Str × Addr)} {outer : List Env} {A₀ : Around} {base h₀ : Heap} {L : Addr} {m : Str → Option Value} {s : Shared} {Q : Value → Shared → Prop} {E : Value → Shared → Prop}
    {rest : List (Addr × Obj)} {vsI : List Value} {xs : List (List Nat)} {inp ic star : Nat}
    (B : Below A₀ base outer h₀) (F : Fr h₀ L s.heap m) (X : (hd.heap_39 w.params).In h₀) (N : News h₀ L s.heap ((inp, W.listOf vsI.toArray ic) :: rest)) (T : Top p loose mean mg mb h₀) (hk : cs.kind = .function)
    (hv : StrsAre vsI (xs.map S)) (hn : vsI.length ≤ 100) (hfl : xs.flatten.length ≤ 1000)
    (hdp : dp + 20 < recursionLimit) (hu : un + 100 < cLine)
    (ret : ∀ t h' tk', Fr h₀ L h' m → News h₀ L h' ((inp, W.listOf vsI.toArray ic) :: rest) → Q (.str (S ([40, 63, 115, 58] ++ xs.flatten ++ [41, 92, 90])) t) { s with heap := h', toks := tk' }),
    wpAny (model PySem.Challenge.rw_ik0122_01.row.prog w) (ktrTop dp un gd cn cs L a ccd cl outer) (call (.ref 76) [.ref inp, .ref star]) Q E s := walksFDfFNfFBgFCgFJFWFS4FKfFUf.2.2.2.2.1
theorem mode_call : ∀ {w : World} {p : Program} {loose : List Str} {mean : ExcName → Option Value} {mg mb : Str → Option Value}
    {dp un : Nat} {gd : Option (List Code)} {cn : Str} {cs : PySem.Scope} {a : Addr} {ccd : Value} {cl : List (Str × Addr)} {outer : List Env} {A₀ : Around} {base h₀ : Heap} {L : Addr} {m : Str → Option Value} {s : Shared} {Q : Value → Shared → Prop} {E : Value → Shared → Prop}
    {rest : List (Addr × Obj)} {mode : Int} {tm : Tok}
    (B : Below A₀ base outer h₀) (F : Fr h₀ L s.heap m) (X : (hd.heap_39 w.params).In h₀) (N : News h₀ L s.heap rest) (T : Top p loose mean mg mb h₀) (hk : cs.kind = .function)
    (hdp : dp + 40 < recursionLimit) (hu : un + 200 < cLine)
    (ret : ∀ t h' tk', Fr h₀ L h' m → News h₀ L h' rest → Q (.str (S (rowL mode)) t) { s with heap := h', toks := tk' }),
    wpAny (model PySem.Challenge.rw_ik0122_01.row.prog w) (ktrTop dp un gd cn cs L a ccd cl outer) (call (.ref 123) [.int mode tm]) Q E s := walksFDfFNfFBgFCgFJFWFS4FKfFUf.2.2.2.2.2.1
theorem sets_call : ∀ {w : World} {p : Program} {loose : List Str} {mean : ExcName → Option Value} {mg mb : Str → Option Value}
    {dp un : Nat} {gd : Option (List Code)} {cn : Str} {cs : PySem.Scope} {a : Addr} {ccd : Value} {cl : List (Str × Addr)} {outer : List Env} {A₀ : Around} {base h₀ : Heap} {L : Addr} {m : Str → Option Value} {s : Shared} {Q : Value → Shared → Prop} {E : Value → Shared → Prop}
    {rest : List (Addr × Obj)} {tp : Tok} {toks sets : List (List Nat)}
    (B : Below A₀ base outer h₀) (F : Fr h₀ L s.heap m) (X : (hd.heap_39 w.params).In h₀) (N : News h₀ L s.heap rest) (T : Top p loose mean mg mb h₀) (hk : cs.kind = .function)
    (hT : Sks toks sets) (hl : toks.length ≤ 20) (hPl : toks.flatten.length ≤ 100)
    (hdp : dp + 40 < recursionLimit) (hu : un + 200 < cLine)
    (ret : ∀ (D : Nat) vs cnt h' tk', StrsAre vs (sets.map S) → (∀ p ∈ rest, p.1 < D) → Fr h₀ L h' m → News h₀ L h' ((D, W.listOf vs.toArray cnt) :: rest) → Q (.ref D) { s with heap := h', toks := tk' }),
    wpAny (model PySem.Challenge.rw_ik0122_01.row.prog w) (ktrTop dp un gd cn cs L a ccd cl outer) (call (.ref 158) [.str (S ([40, 63, 115, 58] ++ toks.flatten ++ [41, 92, 90])) tp]) Q E s := walksFDfFNfFBgFCgFJFWFS4FKfFUf.2.2.2.2.2.2.1
theorem takes_call : ∀ {w : World} {p : Program} {loose : List Str} {mean : ExcName → Option Value} {mg mb : Str → Option Value}
    {dp un : Nat} {gd : Option (List Code)} {cn : Str} {cs : PySem.Scope} {a : Addr} {ccd : Value} {cl : List (Str × Addr)} {outer : List Env} {A₀ : Around} {base h₀ : Heap} {L : Addr} {m : Str → Option Value} {s : Shared} {Q : Value → Shared → Prop} {E : Value → Shared → Prop}
    {rest : List (Addr × Obj)} {tr : Tok} {sets : List (List Nat)} {r : List Nat} {D cnt : Nat} {vs : List Value}
    (B : Below A₀ base outer h₀) (F : Fr h₀ L s.heap m) (X : (hd.heap_39 w.params).In h₀) (N : News h₀ L s.heap ((D, W.listOf vs.toArray cnt) :: rest)) (T : Top p loose mean mg mb h₀) (hk : cs.kind = .function)
    (hv : StrsAre vs (sets.map S)) (hs : sets.length = 10) (hr : r.length = 10)
    (hdp : dp + 40 < recursionLimit) (hu : un + 200 < cLine)
    (ret : ∀ h' tk', Fr h₀ L h' m → News h₀ L h' ((D, W.listOf vs.toArray cnt) :: rest) → Q (.bool (takes sets r)) { s with heap := h', toks := tk' }),
    wpAny (model PySem.Challenge.rw_ik0122_01.row.prog w) (ktrTop dp un gd cn cs L a ccd cl outer) (call (.ref 163) [.ref D, .str (S r) tr]) Q E s := walksFDfFNfFBgFCgFJFWFS4FKfFUf.2.2.2.2.2.2.2.1
theorem number_call : ∀ {w : World} {p : Program} {loose : List Str} {mean : ExcName → Option Value} {mg mb : Str → Option Value}
    {dp un : Nat} {gd : Option (List Code)} {cn : Str} {cs : PySem.Scope} {a : Addr} {ccd : Value} {cl : List (Str × Addr)} {outer : List Env} {A₀ : Around} {base h₀ : Heap} {L : Addr} {m : Str → Option Value} {s : Shared} {Q : Value → Shared → Prop} {E : Value → Shared → Prop}
    {rest : List (Addr × Obj)} {l cnt : Nat} {f0 f1 f2 f3 : Int} {t0 t1 t2 t3 : Tok}
    (B : Below A₀ base outer h₀) (F : Fr h₀ L s.heap m) (X : (hd.heap_39 w.params).In h₀) (N : News h₀ L s.heap ((l, W.listOf #[.int f0 t0, .int f1 t1, .int f2 t2, .int f3 t3] cnt) :: rest)) (T : Top p loose mean mg mb h₀) (hk : cs.kind = .function)
    (hdp : dp + 40 < recursionLimit) (hu : un + 200 < cLine)
    (ret : ∀ (R : Nat) t h' tk', R < 4096 → Fr h₀ L h' m → News h₀ L h' ((l, W.listOf #[.int f0 t0, .int f1 t1, .int f2 t2, .int f3 t3] cnt) :: rest) → Q (.int (R : Int) t) { s with heap := h', toks := tk' }),
    wpAny (model PySem.Challenge.rw_ik0122_01.row.prog w) (ktrTop dp un gd cn cs L a ccd cl outer) (call (.ref 130) [.ref l]) Q E s := walksFDfFNfFBgFCgFJFWFS4FKfFUf.2.2.2.2.2.2.2.2
noncomputable def trDef : Stmt := PySem.Challenge.pw_ik0122_01.main.body.getD 10 (.Pass default)
noncomputable def trBody : Stmt → List Stmt
  | .FunctionDef _ _ (_ :: _ :: _ :: .While _ b _ _ :: _) _ _ _ _ _ _ _ => b
  | _ => []
noncomputable def trB3 : List Stmt := match trBody trDef with
  | _ :: _ :: .If _ _ [.If _ _ [.If _ b _ _] _] _ :: _ => b
  | _ => []
noncomputable def trElse : List Stmt := match trB3 with
  | _ :: _ :: _ :: _ :: .If _ _ e _ :: _ => e
  | _ => []
noncomputable def trSuf : List Stmt := trElse.drop 2
theorem fr8 {g h : Heap} {L : Addr} {m : Str → Option Value} {n1 n2 n3 n4 n5 n6 n7 n8 : Str} {v1 v2 v3 v4 v5 v6 v7 v8 : Value} (F : Fr g L h m) (h1 : m n1 = some v1) (h2 : m n2 = some v2) (h3 : m n3 = some v3) (h4 : m n4 = some v4) (h5 : m n5 = some v5) (h6 : m n6 = some v6) (h7 : m n7 = some v7) (h8 : m n8 = some v8) :
    Fr g L h (fun y => if y = n1 then some v1 else if y = n2 then some v2 else if y = n3 then some v3 else if y = n4 then some v4 else if y = n5 then some v5 else if y = n6 then some v6 else if y = n7 then some v7 else if y = n8 then some v8 else m y) := by
  have e : (fun y => if y = n1 then some v1 else if y = n2 then some v2 else if y = n3 then some v3 else if y = n4 then some v4 else if y = n5 then some v5 else if y = n6 then some v6 else if y = n7 then some v7 else if y = n8 then some v8 else m y) = m := by
    funext y
    repeat' split
    all_goals first | (subst_vars; simp_all) | rfl
  rw [e]; exact F
theorem three_of {tl : List Nat} (h : tl.length ≤ 2) : tl = [] ∨ (∃ x, tl = [x]) ∨ ∃ x y, tl = [x, y] := by
  match tl, h with
  | [], _ => exact .inl rfl
  | [x], _ => exact .inr (.inl ⟨x, rfl⟩)
  | [x, y], _ => exact .inr (.inr ⟨x, y, rfl⟩)
theorem haltSuf {prog : Program} {w : World} {A : Around} {sd : List Stmt} {env : Env} {Q : Flow → Shared → Prop} {E : Value → Shared → Prop} {s : Shared} (_ : trSuf = sd) (h : Halt (wpAny (model prog w) A (execs sd env) Q E s)) : wpAny (model prog w) A (execs sd env) Q E s := h
theorem suf_step {w : World} {p : Program} {loose : List Str} {mean : ExcName → Option Value} {mg mb : Str → Option Value}
    {dp un : Nat} {gd : Option (List Code)} {cn : Str} {cs : PySem.Scope} {a : Addr} {ccd : Value} {cl : List (Str × Addr)} {outer : List Env} {base g : Heap} {L L0 fa : Addr} {cd : Value} {m : Str → Option Value} {s : Shared} {Q : Flow → Shared → Prop} {E : Value → Shared → Prop}
    {rest : List (Addr × Obj)} {P tl : List Nat} {tp tq tst tj tn : Tok} {star u l cnt d : Nat} {xj : Int} {vs : List Value} {ps : Array Value}
    {nm : Str} {pa : Arguments} {bd : List Stmt} {dl : List Expr} {re : Option Expr} {tps : List TypeParam} {sc : PySem.Scope} {ts : Option PySem.Scope} {bn : Str} {po : Pos} {s1 s2 s3 : Stmt}
    (hdef : trDef = .FunctionDef nm pa bd dl re tps sc ts bn po) (hsd : trSuf = s1 :: s2 :: s3 :: [])
    (B : Below (ktrTop dp un gd cn cs L0 a ccd cl outer) base (envX cn cs L0 a ccd cl :: outer) g) (F : Fr g L s.heap m) (X : (hd.heap_39 w.params).In g) (T : Top p loose mean mg mb g)
    (N : News g L s.heap ((u, appObj l) :: (l, W.listOf vs.toArray cnt) :: (star, objPlain) :: (64, tabObj ps) :: rest)) (hk : cs.kind = .function) (C : CodeHd base 68 64) (h64 : ∀ p ∈ rest, p.1 ≠ 64) (hstar : star ≠ 64) (ht : TabOk ps.toList) (G : AllBare s.gens)
    (hcd : cd = .ref 68)
    (n1 : @Ne Nat l u) (n2 : @Ne Nat star u) (n3 : @Ne Nat 64 u) (hal0 : star < l ∧ 64 < l ∧ AllLt l rest) (hal : AllLt l rest)
    (hdp : dp + 80 < recursionLimit) (hu : un + 400 < cLine)
    (a0 : m (Str.ofString "stuff") = some (.str (S (d :: tl)) tst)) (aj : m (Str.ofString "j") = some (.int xj tj)) (a1 : m (Str.ofString "pat") = some (.str (S P) tp)) (a2 : m (Str.ofString "STAR") = some (.ref star)) (a3 : m (Str.ofString "QUESTION_MARK") = some (.str (Str.ofString ".") tq)) (a4 : m (Str.ofString "res") = some (.ref l)) (a5 : m (Str.ofString "add") = some (.ref u)) (a7 : m (Str.ofString "n") = some (.int (P.length : Int) tn))
    (c5 : (d :: tl) ∈ stuffs) (cl0 : tl.length ≤ 2) (c1 : (S [d] == Str.ofString "!") = false) (c2 : (S (d :: tl) == Str.ofString "!") = false) (c6 : ([Str.ofString "^", Str.ofString "["].any fun x => x == S [d]) = false) (hxj : 0 ≤ xj ∧ xj ≤ 200) (hvs : vs.toArray.size ≤ sizeLine)
    (ret : ∀ (m' : Str → Option Value) (to ti : Tok) (cnt' : Nat) (ps' : Array Value) (s2 : Shared), Fr g L s2.heap (fun y => if y = Str.ofString "pat" then some (.str (S P) tp) else if y = Str.ofString "STAR" then some (.ref star) else if y = Str.ofString "QUESTION_MARK" then some (.str (Str.ofString ".") tq) else if y = Str.ofString "res" then some (.ref l) else if y = Str.ofString "add" then some (.ref u) else if y = Str.ofString "i" then some (.int (xj + 1) ti) else if y = Str.ofString "n" then some (.int (P.length : Int) tn) else m' y) →
      News g L s2.heap ((u, appObj l) :: (l, W.listOf (vs.toArray.push (.str (S ([91] ++ (d :: tl) ++ [93])) to)) cnt') :: (star, objPlain) :: (64, tabObj ps') :: rest) → TabOk ps'.toList → AllBare s2.gens → s2.os = s.os → Q .next s2) :
    wpAny (model PySem.Challenge.rw_ik0122_01.row.prog w) ((ktrTop dp un gd cn cs L0 a ccd cl outer).deeper (envOf (Str.ofString "_translate") sc L fa cd)) (execs [s1, s2, s3] (envOf (Str.ofString "_translate") sc L fa cd)) Q E s := by
  revert X; k_fill; intro X
  injection hdef with e1 e2 e3 e4 e5 e6 e7 e8 e9 e10
  injection hsd with b1 r1
  injection r1 with b2 r2
  injection r2 with b3 r3
  subst b1 b2 b3 e7
  clear e1 e2 e3 e4 e5 e6 e8 e9 e10 r3
  subst hcd
  obtain ⟨hp, gens, dr, tks, os⟩ := s
  dsimp only at F N G ret ⊢
  have F2 := fr8 F a0 aj a1 a2 a3 a4 a5 a7
  clear F
  have hl3 : (d :: tl).length ≤ 3 := by rw [List.length_cons]; omega
  have ez1 : Str.empty ++ Str.ofString "[" ++ S (d :: tl) = S (91 :: d :: tl) := by rw [lit_o, show Str.empty = S [] from rfl, S_app, S_app]; rfl
  have ez2 : Str.empty ++ Str.ofString "[" ++ S (d :: tl) ++ Str.ofString "]" = S ([91] ++ (d :: tl) ++ [93]) := by rw [ez1, lit_c, S_app]; rfl
  k_with_none
  k_with "inplaceOp Add str str" => (((refine' iadd_S ?ek0aFEsf ?nk0aFEsf ?_; (case ek0aFEsf => assumption); (case nk0aFEsf => (simp only [List.length_cons, List.length_nil]; omega)); intro t' k')))
  k_with "call builtin:str.join" => (((k_dflt (refine' join_S ?Fk1aFEsf ?Nk1aFEsf ?Gk1aFEsf ?Xk1aFEsf ?Lk1aFEsf ?Kk1aFEsf ?zk1aFEsf ?_; (case Xk1aFEsf => assumption); (case Fk1aFEsf => k_asm); (case Nk1aFEsf => k_asm); (case Gk1aFEsf => assumption); (case Lk1aFEsf => assumption); (case Kk1aFEsf => assumption); (case zk1aFEsf => first | assumption | decide +kernel); k_whole); intro s8 t8 F8 N8 G8 ho8; (try dsimp only at N8 ho8))))
  k_with "eval GeneratorExp" => (((k_dflt (refine' gen_any ?Fk2aFEsf ?Nk2aFEsf ?Tk2aFEsf ?Ck2aFEsf ?hck2aFEsf ?hgk2aFEsf ?Uk2aFEsf ?memk2aFEsf ?tk2aFEsf ?hDk2aFEsf ?hDPk2aFEsf ?Gk2aFEsf ?hhk2aFEsf ?hcok2aFEsf ?hclk2aFEsf ?hcellk2aFEsf ?h0k2aFEsf ?hxk2aFEsf ?hkindk2aFEsf ?hroomk2aFEsf ?hitk2aFEsf ?hsk2aFEsf ?helk2aFEsf ?_; (case Fk2aFEsf => k_asm); (case Nk2aFEsf => k_asm); (case Tk2aFEsf => k_asm); (case hck2aFEsf => exact rfl); (case hgk2aFEsf => exact rfl); (case Ck2aFEsf => kn_code); (case Uk2aFEsf => k_updF); (case memk2aFEsf => k_mem); (case tk2aFEsf => assumption); (case hitk2aFEsf => (intro R hR; refine' ld ?fk2aFEsf ?vk2aFEsf hR; (case fk2aFEsf => k_asm); (case vk2aFEsf => exact rfl))); (case hDk2aFEsf => k_dflt k_mem); (case hDPk2aFEsf => k_ne); (case Gk2aFEsf => assumption); (case hhk2aFEsf => first | exact rfl | k_asm); (case hcok2aFEsf => exact rfl); (case hclk2aFEsf => exact rfl); (case hcellk2aFEsf => decide); (case h0k2aFEsf => exact rfl); (case hxk2aFEsf => exact rfl); (case hkindk2aFEsf => exact rfl); (case hroomk2aFEsf => ktr_room); (case hsk2aFEsf => (intro x9; exact rfl)); (case helk2aFEsf => intro C9 code9 A9 E9 u9 s9 m9 hA9 hn9 hm9; refine' elt_repl ?x1k2aFEsf ?x2k2aFEsf ?x3k2aFEsf ?x4k2aFEsf ?x5k2aFEsf ?x6k2aFEsf; (case x5k2aFEsf => exact rfl); (case x6k2aFEsf => exact rfl); (case x1k2aFEsf => intro Q9 h9; exact wpAny_Name (wpAny_loadName_local rfl rfl hn9 hm9 h9) (by decide)); (case x2k2aFEsf => first | decide | (simp only [List.length_cons, List.length_nil]; omega)); (case x3k2aFEsf => first | assumption | decide +kernel); (case x4k2aFEsf => first | assumption | decide +kernel)); k_whole); intro a9 s9 ps9 K9 ht9 F9 N9 G9 ho9 hL9 hN9 X9; (try dsimp only at N9 ho9))))
  k_with "call builtin:str.find" => (((first | (refine find_no (by decide +kernel) (by omega) (by omega) (by omega) ?_) | (refine' find_yes ?hik3aFEsf ?hjk3aFEsf ?hlk3aFEsf ?hkk3aFEsf ?_; (case hkk3aFEsf => assumption); (case hik3aFEsf => omega); (case hjk3aFEsf => omega); (case hlk3aFEsf => omega)))))
  k_with "getMethod str" => (((with_reducible refine gm_translate ?_)))
  k_with "call builtin:str.translate" => ((((with_reducible rename Fr _ _ _ _ => lF'); (with_reducible rename News _ _ _ _ => lN'); k_dflt (refine' tr_K lF' lN' ?Xk5aFEsf ?ck5aFEsf ?hk5aFEsf ?_; (case Xk5aFEsf => k_asm); (case ck5aFEsf => assumption); (case hk5aFEsf => first | exact rfl | k_asm); k_whole); intro h' t' k' F' N')))
  k_with "call ref" => (first | (k_dflt ((refine' app_call ?Fk6aFEsf ?Nk6aFEsf ?Uk6aFEsf ?mk6aFEsf ?uk6aFEsf ?zk6aFEsf ?_; (case Fk6aFEsf => k_asm); (case Nk6aFEsf => k_asm); (case uk6aFEsf => k_mem); (case mk6aFEsf => k_mem); (case Uk6aFEsf => k_updF); (case zk6aFEsf => assumption); k_whole); intro h' cnt' F' N'; (try dsimp only at N'))) | ((k_here; k_dflt (refine wpAny_call ?_; (refine' code_def ?k1k6bFEsf ?k2k6bFEsf ?k3k6bFEsf ?k4k6bFEsf ?k5k6bFEsf ?kAk6bFEsf ?kFk6bFEsf ?kKk6bFEsf ?k6k6bFEsf ?k7k6bFEsf ?k8k6bFEsf ?k9k6bFEsf ?kBk6bFEsf ?_ ?c2k6bFEsf ?c3k6bFEsf ?c4k6bFEsf ?c5k6bFEsf; (case kAk6bFEsf => exact rfl); (case kFk6bFEsf => exact rfl); (case kKk6bFEsf => first | exact rfl | assumption); (case k1k6bFEsf => k_asm); (case k2k6bFEsf => k_asm); (case k3k6bFEsf => k_asm); (case k4k6bFEsf => k_asm); (case k5k6bFEsf => k_asm); (case k6k6bFEsf => k_is); (case k7k6bFEsf => k_is); (case k8k6bFEsf => ktr_room); (case k9k6bFEsf => exact BindsTo.of_eq rfl); (case c5k6bFEsf => decide); (case kBk6bFEsf => exact locs rfl); (case c2k6bFEsf => exact rfl); (case c3k6bFEsf => exact rfl); (case c4k6bFEsf => exact rfl); k_whole; intro g' L' h' FG' F' N' B' X' T'; (try dsimp only); (try k_lift B'); (try k_fold))))))
  k_with "getAttr ref" => (((k_dflt (refine' app_made ?Fk7aFEsf ?Nk7aFEsf ?memk7aFEsf ?_; (case Fk7aFEsf => k_asm); (case Nk7aFEsf => k_asm); (case memk7aFEsf => k_mem); k_whole); intro u' h' tk' F' N' l9; (try dsimp only at N'); have n1 : @Ne Nat _ _ := l9 _ (List.mem_cons_self ..); have n2 : @Ne Nat _ _ := l9 _ (List.mem_cons_of_mem _ (List.mem_cons_self ..)); have n3 : @Ne Nat _ _ := l9 _ (List.mem_cons_of_mem _ (List.mem_cons_of_mem _ (List.mem_cons_self ..))); dsimp only at n1 n2 n3)))
  k_with "callWith ref" => ((k_dflt (refine' callWith_app ?Nk8aFEsf ?Mk8aFEsf ?_; (case Nk8aFEsf => k_asm); (case Mk8aFEsf => k_mem); k_whole)))
  k_with "And" => ((((with_reducible show AppAt _ _ _ ∧ _); k_dflt (refine ⟨News.get (by k_asm) (by k_mem), ?_⟩); (try dsimp only [List.nil_append, List.cons_append]))))
  k_with "WhlIf" => ((first | (refine WhlIf.yes rfl ?_) | (refine WhlIf.no rfl ?_) | (refine WhlIf.no (by first | assumption | (simp only [decide_eq_false_iff_not]; omega)) ?_) | (refine WhlIf.yes (by first | assumption | (simp only [decide_eq_true_eq]; omega)) ?_)))
  k_with "call builtin:len" => (((refine len_S (by omega) ?_)))
  k_with "exec While" => (((refine whl_start 100 ?_)))
  k_with "eval Lambda" => (((k_dflt ((refine' kla_eval ?d0k13aFEsf ?_; (case d0k13aFEsf => exact rfl)); (refine' lam_any ?Fk13aFEsf ?Nk13aFEsf ?Tk13aFEsf ?Ck13aFEsf ?cdk13aFEsf ?Uk13aFEsf ?tk13aFEsf ?clk13aFEsf ?_; (case Fk13aFEsf => k_asm); (case Nk13aFEsf => k_asm); (case Tk13aFEsf => k_asm); (case cdk13aFEsf => exact rfl); (case Ck13aFEsf => kn_code); (case Uk13aFEsf => k_updF); (case tk13aFEsf => assumption); (case clk13aFEsf => exact rfl); k_whole)); intro f' d' dt' sl' h' tk' ps' ht' F' N' l1; (try dsimp only at N'); (try k_lt l1))))
  k_with "call builtin:re.Pattern.sub" => ((((with_reducible rename Fr _ _ _ _ => lF'); (with_reducible rename News _ _ _ _ => lN'); (refine' sub_K lF' lN' ?Xk14aFEsf ?mk14aFEsf ?lk14aFEsf ?_; (case Xk14aFEsf => k_asm); (case mk14aFEsf => k_mem); (case lk14aFEsf => assumption)); intro h' t' k' F' N')))
  k_with "getMethod ref" => ((((with_reducible show wpAny _ _ (getMethod (Value.ref 43) _ _) _ _ _); k_dflt (refine' pat_sub ?Fk15aFEsf ?Xk15aFEsf ?_; (case Fk15aFEsf => k_asm); (case Xk15aFEsf => k_asm)))))
  k_with "truthy str" => (((refine' truthy_S ?nk16aFEsf ?hk16aFEsf ?_; (case nk16aFEsf => first | (simp only [List.length_cons, List.length_nil]; omega) | omega); (case hk16aFEsf => exact (Eq.refl true)))))
  k_with "formatField" => (((refine' fmt_S ?nk17aFEsf ?_; (case nk17aFEsf => first | (simp only [List.length_cons, List.length_nil]; omega) | omega); intro t' tk')))
  k_with "ite" => ((k_dflt (first
  | (refine' PySem.W.ite_pos ?cck18aFEsf ?_; (case cck18aFEsf => first | rfl | (simp only [beq_iff_eq, decide_eq_true_eq, bne_iff_ne, ne_eq]; omega)))
  | (refine' PySem.W.ite_neg ?cck18aFEsf ?_; (case cck18aFEsf => first | exact Bool.false_ne_true | exact Bool.eq_false_iff.mp (by assumption) | (simp only [beq_iff_eq, decide_eq_true_eq, bne_iff_ne, ne_eq]; omega))))))
  k_with "compareOp NotIn str str" => (((refine' notin_S ?hk19aFEsf ?_; (case hk19aFEsf => first | assumption | exact (by decide +kernel : _ = true) | exact (by decide +kernel : _ = false)))))
  k_with "subscriptTail Name Slice str ref" => ((((with_reducible rename Fr _ _ _ _ => lF'); (with_reducible rename News _ _ _ _ => lN'); (refine' slice_S (s := ⟨_, _, _, _, _⟩) lF' lN' ?nk20aFEsf ?ek20aFEsf ?_; (case ek20aFEsf => assumption); (case nk20aFEsf => omega)); intro h' t' k' F' N')))
  k_with "call builtin:str.replace" => (((refine' repl_none ?ak21aFEsf ?_; (case ak21aFEsf => assumption))))
  k_with "compareOp Eq str str" => (((refine' cmp_eq ?hk22aFEsf ?_; (case hk22aFEsf => first | assumption | exact (by decide +kernel : _ = true) | exact (by decide +kernel : _ = false)))))
  k_with "compareOp NotEq str str" => (((refine' cmp_ne ?hk23aFEsf ?_; (case hk23aFEsf => first | assumption | exact (by decide +kernel : _ = true) | exact (by decide +kernel : _ = false)))))
  k_with "execs cons" => ((k_dflt ((first | k_gentoks | ((with_reducible refine wpAny_execs_cons ?_); (try dsimp only); (try k_fold))))))
  k_with "subscriptTail Name Constant str int" => (refine item_at (l := d :: tl) (k := 0) (c := d) (by omega) rfl (by simp only [List.length_cons]; omega) ?_)
  k_with "joinParts" => ((k_dflt ((refine Halt.mk ?_))))
  k_steps
  unfold Halt
  rcases three_of cl0 with rfl | ⟨x, rfl⟩ | ⟨x, y, rfl⟩
  all_goals
    k_with_none
    k_with "inplaceOp Add str str" => (((refine' iadd_S ?ek0aFEsf ?nk0aFEsf ?_; (case ek0aFEsf => assumption); (case nk0aFEsf => (simp only [List.length_cons, List.length_nil]; omega)); intro t' k')))
    k_with "call builtin:str.join" => (((k_dflt (refine' join_S ?Fk1aFEsf ?Nk1aFEsf ?Gk1aFEsf ?Xk1aFEsf ?Lk1aFEsf ?Kk1aFEsf ?zk1aFEsf ?_; (case Xk1aFEsf => assumption); (case Fk1aFEsf => k_asm); (case Nk1aFEsf => k_asm); (case Gk1aFEsf => assumption); (case Lk1aFEsf => assumption); (case Kk1aFEsf => assumption); (case zk1aFEsf => first | assumption | decide +kernel); k_whole); intro s8 t8 F8 N8 G8 ho8; (try dsimp only at N8 ho8))))
    k_with "eval GeneratorExp" => (((k_dflt (refine' gen_any ?Fk2aFEsf ?Nk2aFEsf ?Tk2aFEsf ?Ck2aFEsf ?hck2aFEsf ?hgk2aFEsf ?Uk2aFEsf ?memk2aFEsf ?tk2aFEsf ?hDk2aFEsf ?hDPk2aFEsf ?Gk2aFEsf ?hhk2aFEsf ?hcok2aFEsf ?hclk2aFEsf ?hcellk2aFEsf ?h0k2aFEsf ?hxk2aFEsf ?hkindk2aFEsf ?hroomk2aFEsf ?hitk2aFEsf ?hsk2aFEsf ?helk2aFEsf ?_; (case Fk2aFEsf => k_asm); (case Nk2aFEsf => k_asm); (case Tk2aFEsf => k_asm); (case hck2aFEsf => exact rfl); (case hgk2aFEsf => exact rfl); (case Ck2aFEsf => kn_code); (case Uk2aFEsf => k_updF); (case memk2aFEsf => k_mem); (case tk2aFEsf => assumption); (case hitk2aFEsf => (intro R hR; refine' ld ?fk2aFEsf ?vk2aFEsf hR; (case fk2aFEsf => k_asm); (case vk2aFEsf => exact rfl))); (case hDk2aFEsf => k_dflt k_mem); (case hDPk2aFEsf => k_ne); (case Gk2aFEsf => assumption); (case hhk2aFEsf => first | exact rfl | k_asm); (case hcok2aFEsf => exact rfl); (case hclk2aFEsf => exact rfl); (case hcellk2aFEsf => decide); (case h0k2aFEsf => exact rfl); (case hxk2aFEsf => exact rfl); (case hkindk2aFEsf => exact rfl); (case hroomk2aFEsf => ktr_room); (case hsk2aFEsf => (intro x9; exact rfl)); (case helk2aFEsf => intro C9 code9 A9 E9 u9 s9 m9 hA9 hn9 hm9; refine' elt_repl ?x1k2aFEsf ?x2k2aFEsf ?x3k2aFEsf ?x4k2aFEsf ?x5k2aFEsf ?x6k2aFEsf; (case x5k2aFEsf => exact rfl); (case x6k2aFEsf => exact rfl); (case x1k2aFEsf => intro Q9 h9; exact wpAny_Name (wpAny_loadName_local rfl rfl hn9 hm9 h9) (by decide)); (case x2k2aFEsf => first | decide | (simp only [List.length_cons, List.length_nil]; omega)); (case x3k2aFEsf => first | assumption | decide +kernel); (case x4k2aFEsf => first | assumption | decide +kernel)); k_whole); intro a9 s9 ps9 K9 ht9 F9 N9 G9 ho9 hL9 hN9 X9; (try dsimp only at N9 ho9))))
    k_with "call builtin:str.find" => (((first | (refine find_no (by decide +kernel) (by omega) (by omega) (by omega) ?_) | (refine' find_yes ?hik3aFEsf ?hjk3aFEsf ?hlk3aFEsf ?hkk3aFEsf ?_; (case hkk3aFEsf => assumption); (case hik3aFEsf => omega); (case hjk3aFEsf => omega); (case hlk3aFEsf => omega)))))
    k_with "getMethod str" => (((with_reducible refine gm_translate ?_)))
    k_with "call builtin:str.translate" => ((((with_reducible rename Fr _ _ _ _ => lF'); (with_reducible rename News _ _ _ _ => lN'); k_dflt (refine' tr_K lF' lN' ?Xk5aFEsf ?ck5aFEsf ?hk5aFEsf ?_; (case Xk5aFEsf => k_asm); (case ck5aFEsf => assumption); (case hk5aFEsf => first | exact rfl | k_asm); k_whole); intro h' t' k' F' N')))
    k_with "call ref" => (first | (k_dflt ((refine' app_call ?Fk6aFEsf ?Nk6aFEsf ?Uk6aFEsf ?mk6aFEsf ?uk6aFEsf ?zk6aFEsf ?_; (case Fk6aFEsf => k_asm); (case Nk6aFEsf => k_asm); (case uk6aFEsf => k_mem); (case mk6aFEsf => k_mem); (case Uk6aFEsf => k_updF); (case zk6aFEsf => assumption); k_whole); intro h' cnt' F' N'; (try dsimp only at N'))) | ((k_here; k_dflt (refine wpAny_call ?_; (refine' code_def ?k1k6bFEsf ?k2k6bFEsf ?k3k6bFEsf ?k4k6bFEsf ?k5k6bFEsf ?kAk6bFEsf ?kFk6bFEsf ?kKk6bFEsf ?k6k6bFEsf ?k7k6bFEsf ?k8k6bFEsf ?k9k6bFEsf ?kBk6bFEsf ?_ ?c2k6bFEsf ?c3k6bFEsf ?c4k6bFEsf ?c5k6bFEsf; (case kAk6bFEsf => exact rfl); (case kFk6bFEsf => exact rfl); (case kKk6bFEsf => first | exact rfl | assumption); (case k1k6bFEsf => k_asm); (case k2k6bFEsf => k_asm); (case k3k6bFEsf => k_asm); (case k4k6bFEsf => k_asm); (case k5k6bFEsf => k_asm); (case k6k6bFEsf => k_is); (case k7k6bFEsf => k_is); (case k8k6bFEsf => ktr_room); (case k9k6bFEsf => exact BindsTo.of_eq rfl); (case c5k6bFEsf => decide); (case kBk6bFEsf => exact locs rfl); (case c2k6bFEsf => exact rfl); (case c3k6bFEsf => exact rfl); (case c4k6bFEsf => exact rfl); k_whole; intro g' L' h' FG' F' N' B' X' T'; (try dsimp only); (try k_lift B'); (try k_fold))))))
    k_with "getAttr ref" => (((k_dflt (refine' app_made ?Fk7aFEsf ?Nk7aFEsf ?memk7aFEsf ?_; (case Fk7aFEsf => k_asm); (case Nk7aFEsf => k_asm); (case memk7aFEsf => k_mem); k_whole); intro u' h' tk' F' N' l9; (try dsimp only at N'); have n1 : @Ne Nat _ _ := l9 _ (List.mem_cons_self ..); have n2 : @Ne Nat _ _ := l9 _ (List.mem_cons_of_mem _ (List.mem_cons_self ..)); have n3 : @Ne Nat _ _ := l9 _ (List.mem_cons_of_mem _ (List.mem_cons_of_mem _ (List.mem_cons_self ..))); dsimp only at n1 n2 n3)))
    k_with "callWith ref" => ((k_dflt (refine' callWith_app ?Nk8aFEsf ?Mk8aFEsf ?_; (case Nk8aFEsf => k_asm); (case Mk8aFEsf => k_mem); k_whole)))
    k_with "And" => ((((with_reducible show AppAt _ _ _ ∧ _); k_dflt (refine ⟨News.get (by k_asm) (by k_mem), ?_⟩); (try dsimp only [List.nil_append, List.cons_append]))))
    k_with "WhlIf" => ((first | (refine WhlIf.yes rfl ?_) | (refine WhlIf.no rfl ?_) | (refine WhlIf.no (by first | assumption | (simp only [decide_eq_false_iff_not]; omega)) ?_) | (refine WhlIf.yes (by first | assumption | (simp only [decide_eq_true_eq]; omega)) ?_)))
    k_with "call builtin:len" => (((refine len_S (by omega) ?_)))
    k_with "exec While" => (((refine whl_start 100 ?_)))
    k_with "eval Lambda" => (((k_dflt ((refine' kla_eval ?d0k13aFEsf ?_; (case d0k13aFEsf => exact rfl)); (refine' lam_any ?Fk13aFEsf ?Nk13aFEsf ?Tk13aFEsf ?Ck13aFEsf ?cdk13aFEsf ?Uk13aFEsf ?tk13aFEsf ?clk13aFEsf ?_; (case Fk13aFEsf => k_asm); (case Nk13aFEsf => k_asm); (case Tk13aFEsf => k_asm); (case cdk13aFEsf => exact rfl); (case Ck13aFEsf => kn_code); (case Uk13aFEsf => k_updF); (case tk13aFEsf => assumption); (case clk13aFEsf => exact rfl); k_whole)); intro f' d' dt' sl' h' tk' ps' ht' F' N' l1; (try dsimp only at N'); (try k_lt l1))))
    k_with "call builtin:re.Pattern.sub" => ((((with_reducible rename Fr _ _ _ _ => lF'); (with_reducible rename News _ _ _ _ => lN'); (refine' sub_K lF' lN' ?Xk14aFEsf ?mk14aFEsf ?lk14aFEsf ?_; (case Xk14aFEsf => k_asm); (case mk14aFEsf => k_mem); (case lk14aFEsf => assumption)); intro h' t' k' F' N')))
    k_with "getMethod ref" => ((((with_reducible show wpAny _ _ (getMethod (Value.ref 43) _ _) _ _ _); k_dflt (refine' pat_sub ?Fk15aFEsf ?Xk15aFEsf ?_; (case Fk15aFEsf => k_asm); (case Xk15aFEsf => k_asm)))))
    k_with "truthy str" => (((refine' truthy_S ?nk16aFEsf ?hk16aFEsf ?_; (case nk16aFEsf => first | (simp only [List.length_cons, List.length_nil]; omega) | omega); (case hk16aFEsf => exact (Eq.refl true)))))
    k_with "formatField" => (((refine' fmt_S ?nk17aFEsf ?_; (case nk17aFEsf => first | (simp only [List.length_cons, List.length_nil]; omega) | omega); intro t' tk')))
    k_with "ite" => ((k_dflt (first
  | (refine' PySem.W.ite_pos ?cck18aFEsf ?_; (case cck18aFEsf => first | rfl | (simp only [beq_iff_eq, decide_eq_true_eq, bne_iff_ne, ne_eq]; omega)))
  | (refine' PySem.W.ite_neg ?cck18aFEsf ?_; (case cck18aFEsf => first | exact Bool.false_ne_true | exact Bool.eq_false_iff.mp (by assumption) | (simp only [beq_iff_eq, decide_eq_true_eq, bne_iff_ne, ne_eq]; omega))))))
    k_with "compareOp NotIn str str" => (((refine' notin_S ?hk19aFEsf ?_; (case hk19aFEsf => first | assumption | exact (by decide +kernel : _ = true) | exact (by decide +kernel : _ = false)))))
    k_with "subscriptTail Name Slice str ref" => ((((with_reducible rename Fr _ _ _ _ => lF'); (with_reducible rename News _ _ _ _ => lN'); (refine' slice_S (s := ⟨_, _, _, _, _⟩) lF' lN' ?nk20aFEsf ?ek20aFEsf ?_; (case ek20aFEsf => assumption); (case nk20aFEsf => omega)); intro h' t' k' F' N')))
    k_with "call builtin:str.replace" => (((refine' repl_none ?ak21aFEsf ?_; (case ak21aFEsf => assumption))))
    k_with "compareOp Eq str str" => (((refine' cmp_eq ?hk22aFEsf ?_; (case hk22aFEsf => first | assumption | exact (by decide +kernel : _ = true) | exact (by decide +kernel : _ = false)))))
    k_with "compareOp NotEq str str" => (((refine' cmp_ne ?hk23aFEsf ?_; (case hk23aFEsf => first | assumption | exact (by decide +kernel : _ = true) | exact (by decide +kernel : _ = false)))))
    k_with "execs cons" => ((k_dflt ((first | k_gentoks | ((with_reducible refine wpAny_execs_cons ?_); (try dsimp only); (try k_fold))))))
    k_steps
    rename Fr _ _ _ _ => lF
    rename News _ _ _ _ => lN
    rw [ez2] at lN
    exact ret _ _ _ _ _ _ (fr7 lF (by with_unfolding_all rfl) (by with_unfolding_all rfl) (by with_unfolding_all rfl) (by with_unfolding_all rfl) (by with_unfolding_all rfl) (by with_unfolding_all rfl) (by with_unfolding_all rfl)) (News.perm lN fun _ hp => List.Mem.tail _ (List.Mem.tail _ hp)) (by assumption) G rfl
theorem parts_call {w : World} {p : Program} {loose : List Str} {mean : ExcName → Option Value} {mg mb : Str → Option Value}
    {dp un : Nat} {gd : Option (List Code)} {cn : Str} {cs : PySem.Scope} {a : Addr} {ccd : Value} {cl : List (Str × Addr)} {outer : List Env} {A₀ : Around} {base h₀ : Heap} {L : Addr} {m : Str → Option Value} {s : Shared} {Q : Value → Shared → Prop} {E : Value → Shared → Prop}
    {rest : List (Addr × Obj)} {P : List Nat} {tp tq : Tok} {star : Nat} {ps : Array Value} {toks outs : List (List Nat)}
    (B : Below A₀ base outer h₀) (F : Fr h₀ L s.heap m) (X : (hd.heap_39 w.params).In h₀) (N : News h₀ L s.heap ((star, objPlain) :: (64, tabObj ps) :: rest)) (T : Top p loose mean mg mb h₀) (hk : cs.kind = .function) (C : CodeHd base 68 64) (h64 : ∀ p ∈ rest, p.1 ≠ 64) (hstar : star ≠ 64) (ht : TabOk ps.toList) (G : AllBare s.gens)
    (hP : P = toks.flatten) (hT : Tks toks outs) (hl : toks.length ≤ 20) (hPl : P.length ≤ 100)
    (hdp : dp + 80 < recursionLimit) (hu : un + 400 < cLine)
    (ret : ∀ (l : Addr) (vs : List Value) (cnt : Nat) (ps' : Array Value) (s' : Shared), Fr h₀ L s'.heap m → News h₀ L s'.heap ((l, W.listOf vs.toArray cnt) :: (star, objPlain) :: (64, tabObj ps') :: rest) → TabOk ps'.toList → StrsAre vs (outs.map S) → AllBare s'.gens → s'.os = s.os → (star < l ∧ 64 < l ∧ AllLt l rest) → Q (.ref l) s') :
    wpAny (model PySem.Challenge.rw_ik0122_01.row.prog w) (ktrTop dp un gd cn cs L a ccd cl outer) (call (.ref 69) [.str (S P) tp, .ref star, .str (Str.ofString ".") tq]) Q E s := by
  revert X; k_fill; intro X
  refine wpAny_call ?_
  k_dflt cell_enter
  k_with_none
  k_with "inplaceOp Add str str" => (((refine' iadd_S ?ek0aFE4 ?nk0aFE4 ?_; (case ek0aFE4 => assumption); (case nk0aFE4 => (simp only [List.length_cons, List.length_nil]; omega)); intro t' k')))
  k_with "call builtin:str.join" => (((k_dflt (refine' join_S ?Fk1aFE4 ?Nk1aFE4 ?Gk1aFE4 ?Xk1aFE4 ?Lk1aFE4 ?Kk1aFE4 ?zk1aFE4 ?_; (case Xk1aFE4 => assumption); (case Fk1aFE4 => k_asm); (case Nk1aFE4 => k_asm); (case Gk1aFE4 => assumption); (case Lk1aFE4 => assumption); (case Kk1aFE4 => assumption); (case zk1aFE4 => first | assumption | decide +kernel); k_whole); intro s8 t8 F8 N8 G8 ho8; (try dsimp only at N8 ho8))))
  k_with "eval GeneratorExp" => (((k_dflt (refine' gen_any ?Fk2aFE4 ?Nk2aFE4 ?Tk2aFE4 ?Ck2aFE4 ?hck2aFE4 ?hgk2aFE4 ?Uk2aFE4 ?memk2aFE4 ?tk2aFE4 ?hDk2aFE4 ?hDPk2aFE4 ?Gk2aFE4 ?hhk2aFE4 ?hcok2aFE4 ?hclk2aFE4 ?hcellk2aFE4 ?h0k2aFE4 ?hxk2aFE4 ?hkindk2aFE4 ?hroomk2aFE4 ?hitk2aFE4 ?hsk2aFE4 ?helk2aFE4 ?_; (case Fk2aFE4 => k_asm); (case Nk2aFE4 => k_asm); (case Tk2aFE4 => k_asm); (case hck2aFE4 => exact rfl); (case hgk2aFE4 => exact rfl); (case Ck2aFE4 => kn_code); (case Uk2aFE4 => k_updF); (case memk2aFE4 => k_mem); (case tk2aFE4 => assumption); (case hitk2aFE4 => (intro R hR; refine' ld ?fk2aFE4 ?vk2aFE4 hR; (case fk2aFE4 => k_asm); (case vk2aFE4 => exact rfl))); (case hDk2aFE4 => k_dflt k_mem); (case hDPk2aFE4 => k_ne); (case Gk2aFE4 => assumption); (case hhk2aFE4 => first | exact rfl | k_asm); (case hcok2aFE4 => exact rfl); (case hclk2aFE4 => exact rfl); (case hcellk2aFE4 => decide); (case h0k2aFE4 => exact rfl); (case hxk2aFE4 => exact rfl); (case hkindk2aFE4 => exact rfl); (case hroomk2aFE4 => ktr_room); (case hsk2aFE4 => (intro x9; exact rfl)); (case helk2aFE4 => intro C9 code9 A9 E9 u9 s9 m9 hA9 hn9 hm9; refine' elt_repl ?x1k2aFE4 ?x2k2aFE4 ?x3k2aFE4 ?x4k2aFE4 ?x5k2aFE4 ?x6k2aFE4; (case x5k2aFE4 => exact rfl); (case x6k2aFE4 => exact rfl); (case x1k2aFE4 => intro Q9 h9; exact wpAny_Name (wpAny_loadName_local rfl rfl hn9 hm9 h9) (by decide)); (case x2k2aFE4 => first | decide | (simp only [List.length_cons, List.length_nil]; omega)); (case x3k2aFE4 => first | assumption | decide +kernel); (case x4k2aFE4 => first | assumption | decide +kernel)); k_whole); intro a9 s9 ps9 K9 ht9 F9 N9 G9 ho9 hL9 hN9 X9; (try dsimp only at N9 ho9))))
  k_with "call builtin:str.find" => (((first | (refine find_no (by decide +kernel) (by omega) (by omega) (by omega) ?_) | (refine' find_yes ?hik3aFE4 ?hjk3aFE4 ?hlk3aFE4 ?hkk3aFE4 ?_; (case hkk3aFE4 => assumption); (case hik3aFE4 => omega); (case hjk3aFE4 => omega); (case hlk3aFE4 => omega)))))
  k_with "getMethod str" => (((with_reducible refine gm_translate ?_)))
  k_with "call builtin:str.translate" => ((((with_reducible rename Fr _ _ _ _ => lF'); (with_reducible rename News _ _ _ _ => lN'); k_dflt (refine' tr_K lF' lN' ?Xk5aFE4 ?ck5aFE4 ?hk5aFE4 ?_; (case Xk5aFE4 => k_asm); (case ck5aFE4 => assumption); (case hk5aFE4 => first | exact rfl | k_asm); k_whole); intro h' t' k' F' N')))
  k_with "call ref" => (first | (k_dflt ((refine' app_call ?Fk6aFE4 ?Nk6aFE4 ?Uk6aFE4 ?mk6aFE4 ?uk6aFE4 ?zk6aFE4 ?_; (case Fk6aFE4 => k_asm); (case Nk6aFE4 => k_asm); (case uk6aFE4 => k_mem); (case mk6aFE4 => k_mem); (case Uk6aFE4 => k_updF); (case zk6aFE4 => assumption); k_whole); intro h' cnt' F' N'; (try dsimp only at N'))) | ((k_here; k_dflt (refine wpAny_call ?_; (refine' code_def ?k1k6bFE4 ?k2k6bFE4 ?k3k6bFE4 ?k4k6bFE4 ?k5k6bFE4 ?kAk6bFE4 ?kFk6bFE4 ?kKk6bFE4 ?k6k6bFE4 ?k7k6bFE4 ?k8k6bFE4 ?k9k6bFE4 ?kBk6bFE4 ?_ ?c2k6bFE4 ?c3k6bFE4 ?c4k6bFE4 ?c5k6bFE4; (case kAk6bFE4 => exact rfl); (case kFk6bFE4 => exact rfl); (case kKk6bFE4 => first | exact rfl | assumption); (case k1k6bFE4 => k_asm); (case k2k6bFE4 => k_asm); (case k3k6bFE4 => k_asm); (case k4k6bFE4 => k_asm); (case k5k6bFE4 => k_asm); (case k6k6bFE4 => k_is); (case k7k6bFE4 => k_is); (case k8k6bFE4 => ktr_room); (case k9k6bFE4 => exact BindsTo.of_eq rfl); (case c5k6bFE4 => decide); (case kBk6bFE4 => exact locs rfl); (case c2k6bFE4 => exact rfl); (case c3k6bFE4 => exact rfl); (case c4k6bFE4 => exact rfl); k_whole; intro g' L' h' FG' F' N' B' X' T'; (try dsimp only); (try k_lift B'); (try k_fold))))))
  k_with "getAttr ref" => (((k_dflt (refine' app_made ?Fk7aFE4 ?Nk7aFE4 ?memk7aFE4 ?_; (case Fk7aFE4 => k_asm); (case Nk7aFE4 => k_asm); (case memk7aFE4 => k_mem); k_whole); intro u' h' tk' F' N' l9; (try dsimp only at N'); have n1 : @Ne Nat _ _ := l9 _ (List.mem_cons_self ..); have n2 : @Ne Nat _ _ := l9 _ (List.mem_cons_of_mem _ (List.mem_cons_self ..)); have n3 : @Ne Nat _ _ := l9 _ (List.mem_cons_of_mem _ (List.mem_cons_of_mem _ (List.mem_cons_self ..))); dsimp only at n1 n2 n3)))
  k_with "callWith ref" => ((k_dflt (refine' callWith_app ?Nk8aFE4 ?Mk8aFE4 ?_; (case Nk8aFE4 => k_asm); (case Mk8aFE4 => k_mem); k_whole)))
  k_with "And" => ((((with_reducible show AppAt _ _ _ ∧ _); k_dflt (refine ⟨News.get (by k_asm) (by k_mem), ?_⟩); (try dsimp only [List.nil_append, List.cons_append]))))
  k_with "WhlIf" => ((first | (refine WhlIf.yes rfl ?_) | (refine WhlIf.no rfl ?_) | (refine WhlIf.no (by first | assumption | (simp only [decide_eq_false_iff_not]; omega)) ?_) | (refine WhlIf.yes (by first | assumption | (simp only [decide_eq_true_eq]; omega)) ?_)))
  k_with "call builtin:len" => (((refine len_S (by omega) ?_)))
  k_with "eval Lambda" => (((k_dflt ((refine' kla_eval ?d0k12aFE4 ?_; (case d0k12aFE4 => exact rfl)); (refine' lam_any ?Fk12aFE4 ?Nk12aFE4 ?Tk12aFE4 ?Ck12aFE4 ?cdk12aFE4 ?Uk12aFE4 ?tk12aFE4 ?clk12aFE4 ?_; (case Fk12aFE4 => k_asm); (case Nk12aFE4 => k_asm); (case Tk12aFE4 => k_asm); (case cdk12aFE4 => exact rfl); (case Ck12aFE4 => kn_code); (case Uk12aFE4 => k_updF); (case tk12aFE4 => assumption); (case clk12aFE4 => exact rfl); k_whole)); intro f' d' dt' sl' h' tk' ps' ht' F' N' l1; (try dsimp only at N'); (try k_lt l1))))
  k_with "call builtin:re.Pattern.sub" => ((((with_reducible rename Fr _ _ _ _ => lF'); (with_reducible rename News _ _ _ _ => lN'); (refine' sub_K lF' lN' ?Xk13aFE4 ?mk13aFE4 ?lk13aFE4 ?_; (case Xk13aFE4 => k_asm); (case mk13aFE4 => k_mem); (case lk13aFE4 => assumption)); intro h' t' k' F' N')))
  k_with "getMethod ref" => ((((with_reducible show wpAny _ _ (getMethod (Value.ref 43) _ _) _ _ _); k_dflt (refine' pat_sub ?Fk14aFE4 ?Xk14aFE4 ?_; (case Fk14aFE4 => k_asm); (case Xk14aFE4 => k_asm)))))
  k_with "truthy str" => (((refine' truthy_S ?nk15aFE4 ?hk15aFE4 ?_; (case nk15aFE4 => first | (simp only [List.length_cons, List.length_nil]; omega) | omega); (case hk15aFE4 => exact (Eq.refl true)))))
  k_with "formatField" => (((refine' fmt_S ?nk16aFE4 ?_; (case nk16aFE4 => first | (simp only [List.length_cons, List.length_nil]; omega) | omega); intro t' tk')))
  k_with "ite" => ((k_dflt (first
  | (refine' PySem.W.ite_pos ?cck17aFE4 ?_; (case cck17aFE4 => first | rfl | (simp only [beq_iff_eq, decide_eq_true_eq, bne_iff_ne, ne_eq]; omega)))
  | (refine' PySem.W.ite_neg ?cck17aFE4 ?_; (case cck17aFE4 => first | exact Bool.false_ne_true | exact Bool.eq_false_iff.mp (by assumption) | (simp only [beq_iff_eq, decide_eq_true_eq, bne_iff_ne, ne_eq]; omega))))))
  k_with "subscriptTail Name Slice str ref" => ((((with_reducible rename Fr _ _ _ _ => lF'); (with_reducible rename News _ _ _ _ => lN'); (refine' slice_S (s := ⟨_, _, _, _, _⟩) lF' lN' ?nk18aFE4 ?ek18aFE4 ?_; (case ek18aFE4 => assumption); (case nk18aFE4 => omega)); intro h' t' k' F' N')))
  k_with "call builtin:str.replace" => (((refine' repl_none ?ak19aFE4 ?_; (case ak19aFE4 => assumption))))
  k_with "compareOp Eq str str" => (((refine' cmp_eq ?hk20aFE4 ?_; (case hk20aFE4 => first | assumption | exact (by decide +kernel : _ = true) | exact (by decide +kernel : _ = false)))))
  k_with "compareOp NotEq str str" => (((refine' cmp_ne ?hk21aFE4 ?_; (case hk21aFE4 => first | assumption | exact (by decide +kernel : _ = true) | exact (by decide +kernel : _ = false)))))
  k_with "execs cons" => ((k_dflt ((first | k_gentoks | ((with_reducible refine wpAny_execs_cons ?_); (try dsimp only); (try k_fold))))))
  have hGs := G
  k_with "exec While" => (refine Halt.mk ?_)
  k_with "last exec While" => (refine Halt.mk ?_)
  k_steps
  unfold Halt
  rename Fr _ _ _ _ => lF
  rename News _ _ _ _ => lN
  have hal0 := (show star < _ ∧ 64 < _ ∧ AllLt _ rest by assumption)
  have hal := And.right (And.right hal0)
  refine' while_go lF (News.perm lN fun _ hp => List.Mem.tail _ hp) ht G hP hT hl ?a1FE4 ?a2FE4 ?a3FE4 ?a4FE4 ?a5FE4 ?a6FE4 ?a7FE4 ?hEFE4 ?turnFE4 ?lastFE4
  case hEFE4 => passes_own
  case a1FE4 => with_unfolding_all rfl
  case a2FE4 => with_unfolding_all rfl
  case a3FE4 => with_unfolding_all rfl
  case a4FE4 => with_unfolding_all rfl
  case a5FE4 => with_unfolding_all rfl
  case a6FE4 => with_unfolding_all rfl
  case a7FE4 => with_unfolding_all rfl
  case turnFE4 =>
    clear lF lN
    intro n s' hJ
    obtain ⟨done, tks, os1, os2, mm, vs, cnt, ps', x, ti, tn, e1, e2, e3, e4, e5, e6, e7, e8, e9, e10, N2, F2⟩ := hJ
    cases e3 with
    | nil => simp at e1
    | @cons tok o toks' os2' htk r =>
    have e1' : toks'.length = n := by simpa using e1
    have hPn : P.length = done.length + tok.length + toks'.flatten.length := by rw [e2]; simp; omega
    have e6' : vs.toArray.size ≤ sizeLine := by
      have h100 : vs.length ≤ 100 := by omega
      rw [List.size_toArray]; exact Nat.le_trans h100 (by rw [sizeLine_eq]; decide)
    rcases tk_cases htk with ⟨rfl, rfl⟩ | ⟨c, hc, rfl, rfl⟩ | ⟨bd, ob, hbk, rfl, rfl⟩
    · clear htk
      have i0 : P[done.length]? = some 63 := by rw [e2]; simp
      simp only [List.length_cons, List.length_nil] at hPn
      k_with_none
      k_with "inplaceOp Add str str" => (((refine' iadd_S ?ek0aFE4 ?nk0aFE4 ?_; (case ek0aFE4 => assumption); (case nk0aFE4 => (simp only [List.length_cons, List.length_nil]; omega)); intro t' k')))
      k_with "call builtin:str.join" => (((k_dflt (refine' join_S ?Fk1aFE4 ?Nk1aFE4 ?Gk1aFE4 ?Xk1aFE4 ?Lk1aFE4 ?Kk1aFE4 ?zk1aFE4 ?_; (case Xk1aFE4 => assumption); (case Fk1aFE4 => k_asm); (case Nk1aFE4 => k_asm); (case Gk1aFE4 => assumption); (case Lk1aFE4 => assumption); (case Kk1aFE4 => assumption); (case zk1aFE4 => first | assumption | decide +kernel); k_whole); intro s8 t8 F8 N8 G8 ho8; (try dsimp only at N8 ho8))))
      k_with "eval GeneratorExp" => (((k_dflt (refine' gen_any ?Fk2aFE4 ?Nk2aFE4 ?Tk2aFE4 ?Ck2aFE4 ?hck2aFE4 ?hgk2aFE4 ?Uk2aFE4 ?memk2aFE4 ?tk2aFE4 ?hDk2aFE4 ?hDPk2aFE4 ?Gk2aFE4 ?hhk2aFE4 ?hcok2aFE4 ?hclk2aFE4 ?hcellk2aFE4 ?h0k2aFE4 ?hxk2aFE4 ?hkindk2aFE4 ?hroomk2aFE4 ?hitk2aFE4 ?hsk2aFE4 ?helk2aFE4 ?_; (case Fk2aFE4 => k_asm); (case Nk2aFE4 => k_asm); (case Tk2aFE4 => k_asm); (case hck2aFE4 => exact rfl); (case hgk2aFE4 => exact rfl); (case Ck2aFE4 => kn_code); (case Uk2aFE4 => k_updF); (case memk2aFE4 => k_mem); (case tk2aFE4 => assumption); (case hitk2aFE4 => (intro R hR; refine' ld ?fk2aFE4 ?vk2aFE4 hR; (case fk2aFE4 => k_asm); (case vk2aFE4 => exact rfl))); (case hDk2aFE4 => k_dflt k_mem); (case hDPk2aFE4 => k_ne); (case Gk2aFE4 => assumption); (case hhk2aFE4 => first | exact rfl | k_asm); (case hcok2aFE4 => exact rfl); (case hclk2aFE4 => exact rfl); (case hcellk2aFE4 => decide); (case h0k2aFE4 => exact rfl); (case hxk2aFE4 => exact rfl); (case hkindk2aFE4 => exact rfl); (case hroomk2aFE4 => ktr_room); (case hsk2aFE4 => (intro x9; exact rfl)); (case helk2aFE4 => intro C9 code9 A9 E9 u9 s9 m9 hA9 hn9 hm9; refine' elt_repl ?x1k2aFE4 ?x2k2aFE4 ?x3k2aFE4 ?x4k2aFE4 ?x5k2aFE4 ?x6k2aFE4; (case x5k2aFE4 => exact rfl); (case x6k2aFE4 => exact rfl); (case x1k2aFE4 => intro Q9 h9; exact wpAny_Name (wpAny_loadName_local rfl rfl hn9 hm9 h9) (by decide)); (case x2k2aFE4 => first | decide | (simp only [List.length_cons, List.length_nil]; omega)); (case x3k2aFE4 => first | assumption | decide +kernel); (case x4k2aFE4 => first | assumption | decide +kernel)); k_whole); intro a9 s9 ps9 K9 ht9 F9 N9 G9 ho9 hL9 hN9 X9; (try dsimp only at N9 ho9))))
      k_with "call builtin:str.find" => (((first | (refine find_no (by decide +kernel) (by omega) (by omega) (by omega) ?_) | (refine' find_yes ?hik3aFE4 ?hjk3aFE4 ?hlk3aFE4 ?hkk3aFE4 ?_; (case hkk3aFE4 => assumption); (case hik3aFE4 => omega); (case hjk3aFE4 => omega); (case hlk3aFE4 => omega)))))
      k_with "getMethod str" => (((with_reducible refine gm_translate ?_)))
      k_with "call builtin:str.translate" => ((((with_reducible rename Fr _ _ _ _ => lF'); (with_reducible rename News _ _ _ _ => lN'); k_dflt (refine' tr_K lF' lN' ?Xk5aFE4 ?ck5aFE4 ?hk5aFE4 ?_; (case Xk5aFE4 => k_asm); (case ck5aFE4 => assumption); (case hk5aFE4 => first | exact rfl | k_asm); k_whole); intro h' t' k' F' N')))
      k_with "call ref" => (first | (k_dflt ((refine' app_call ?Fk6aFE4 ?Nk6aFE4 ?Uk6aFE4 ?mk6aFE4 ?uk6aFE4 ?zk6aFE4 ?_; (case Fk6aFE4 => k_asm); (case Nk6aFE4 => k_asm); (case uk6aFE4 => k_mem); (case mk6aFE4 => k_mem); (case Uk6aFE4 => k_updF); (case zk6aFE4 => assumption); k_whole); intro h' cnt' F' N'; (try dsimp only at N'))) | ((k_here; k_dflt (refine wpAny_call ?_; (refine' code_def ?k1k6bFE4 ?k2k6bFE4 ?k3k6bFE4 ?k4k6bFE4 ?k5k6bFE4 ?kAk6bFE4 ?kFk6bFE4 ?kKk6bFE4 ?k6k6bFE4 ?k7k6bFE4 ?k8k6bFE4 ?k9k6bFE4 ?kBk6bFE4 ?_ ?c2k6bFE4 ?c3k6bFE4 ?c4k6bFE4 ?c5k6bFE4; (case kAk6bFE4 => exact rfl); (case kFk6bFE4 => exact rfl); (case kKk6bFE4 => first | exact rfl | assumption); (case k1k6bFE4 => k_asm); (case k2k6bFE4 => k_asm); (case k3k6bFE4 => k_asm); (case k4k6bFE4 => k_asm); (case k5k6bFE4 => k_asm); (case k6k6bFE4 => k_is); (case k7k6bFE4 => k_is); (case k8k6bFE4 => ktr_room); (case k9k6bFE4 => exact BindsTo.of_eq rfl); (case c5k6bFE4 => decide); (case kBk6bFE4 => exact locs rfl); (case c2k6bFE4 => exact rfl); (case c3k6bFE4 => exact rfl); (case c4k6bFE4 => exact rfl); k_whole; intro g' L' h' FG' F' N' B' X' T'; (try dsimp only); (try k_lift B'); (try k_fold))))))
      k_with "getAttr ref" => (((k_dflt (refine' app_made ?Fk7aFE4 ?Nk7aFE4 ?memk7aFE4 ?_; (case Fk7aFE4 => k_asm); (case Nk7aFE4 => k_asm); (case memk7aFE4 => k_mem); k_whole); intro u' h' tk' F' N' l9; (try dsimp only at N'); have n1 : @Ne Nat _ _ := l9 _ (List.mem_cons_self ..); have n2 : @Ne Nat _ _ := l9 _ (List.mem_cons_of_mem _ (List.mem_cons_self ..)); have n3 : @Ne Nat _ _ := l9 _ (List.mem_cons_of_mem _ (List.mem_cons_of_mem _ (List.mem_cons_self ..))); dsimp only at n1 n2 n3)))
      k_with "callWith ref" => ((k_dflt (refine' callWith_app ?Nk8aFE4 ?Mk8aFE4 ?_; (case Nk8aFE4 => k_asm); (case Mk8aFE4 => k_mem); k_whole)))
      k_with "And" => ((((with_reducible show AppAt _ _ _ ∧ _); k_dflt (refine ⟨News.get (by k_asm) (by k_mem), ?_⟩); (try dsimp only [List.nil_append, List.cons_append]))))
      k_with "WhlIf" => ((first | (refine WhlIf.yes rfl ?_) | (refine WhlIf.no rfl ?_) | (refine WhlIf.no (by first | assumption | (simp only [decide_eq_false_iff_not]; omega)) ?_) | (refine WhlIf.yes (by first | assumption | (simp only [decide_eq_true_eq]; omega)) ?_)))
      k_with "call builtin:len" => (((refine len_S (by omega) ?_)))
      k_with "eval Lambda" => (((k_dflt ((refine' kla_eval ?d0k12aFE4 ?_; (case d0k12aFE4 => exact rfl)); (refine' lam_any ?Fk12aFE4 ?Nk12aFE4 ?Tk12aFE4 ?Ck12aFE4 ?cdk12aFE4 ?Uk12aFE4 ?tk12aFE4 ?clk12aFE4 ?_; (case Fk12aFE4 => k_asm); (case Nk12aFE4 => k_asm); (case Tk12aFE4 => k_asm); (case cdk12aFE4 => exact rfl); (case Ck12aFE4 => kn_code); (case Uk12aFE4 => k_updF); (case tk12aFE4 => assumption); (case clk12aFE4 => exact rfl); k_whole)); intro f' d' dt' sl' h' tk' ps' ht' F' N' l1; (try dsimp only at N'); (try k_lt l1))))
      k_with "call builtin:re.Pattern.sub" => ((((with_reducible rename Fr _ _ _ _ => lF'); (with_reducible rename News _ _ _ _ => lN'); (refine' sub_K lF' lN' ?Xk13aFE4 ?mk13aFE4 ?lk13aFE4 ?_; (case Xk13aFE4 => k_asm); (case mk13aFE4 => k_mem); (case lk13aFE4 => assumption)); intro h' t' k' F' N')))
      k_with "getMethod ref" => ((((with_reducible show wpAny _ _ (getMethod (Value.ref 43) _ _) _ _ _); k_dflt (refine' pat_sub ?Fk14aFE4 ?Xk14aFE4 ?_; (case Fk14aFE4 => k_asm); (case Xk14aFE4 => k_asm)))))
      k_with "truthy str" => (((refine' truthy_S ?nk15aFE4 ?hk15aFE4 ?_; (case nk15aFE4 => first | (simp only [List.length_cons, List.length_nil]; omega) | omega); (case hk15aFE4 => exact (Eq.refl true)))))
      k_with "formatField" => (((refine' fmt_S ?nk16aFE4 ?_; (case nk16aFE4 => first | (simp only [List.length_cons, List.length_nil]; omega) | omega); intro t' tk')))
      k_with "ite" => ((k_dflt (first
  | (refine' PySem.W.ite_pos ?cck17aFE4 ?_; (case cck17aFE4 => first | rfl | (simp only [beq_iff_eq, decide_eq_true_eq, bne_iff_ne, ne_eq]; omega)))
  | (refine' PySem.W.ite_neg ?cck17aFE4 ?_; (case cck17aFE4 => first | exact Bool.false_ne_true | exact Bool.eq_false_iff.mp (by assumption) | (simp only [beq_iff_eq, decide_eq_true_eq, bne_iff_ne, ne_eq]; omega))))))
      k_with "subscriptTail Name Slice str ref" => ((((with_reducible rename Fr _ _ _ _ => lF'); (with_reducible rename News _ _ _ _ => lN'); (refine' slice_S (s := ⟨_, _, _, _, _⟩) lF' lN' ?nk18aFE4 ?ek18aFE4 ?_; (case ek18aFE4 => assumption); (case nk18aFE4 => omega)); intro h' t' k' F' N')))
      k_with "call builtin:str.replace" => (((refine' repl_none ?ak19aFE4 ?_; (case ak19aFE4 => assumption))))
      k_with "compareOp Eq str str" => (((refine' cmp_eq ?hk20aFE4 ?_; (case hk20aFE4 => first | assumption | exact (by decide +kernel : _ = true) | exact (by decide +kernel : _ = false)))))
      k_with "compareOp NotEq str str" => (((refine' cmp_ne ?hk21aFE4 ?_; (case hk21aFE4 => first | assumption | exact (by decide +kernel : _ = true) | exact (by decide +kernel : _ = false)))))
      k_with "execs cons" => ((k_dflt ((first | k_gentoks | ((with_reducible refine wpAny_execs_cons ?_); (try dsimp only); (try k_fold))))))
      k_with "subscriptTail Name Name str int" => (refine item_at (k := done.length) (by omega) i0 (by omega) ?_)
      k_steps
      rename Fr _ _ _ _ => lF
      rename News _ _ _ _ => lN
      rw [show Str.ofString "." = S [46] from by decide +kernel] at lN
      refine' JT_end (tok := [63]) (o := [46]) e1' e2 r e4 e5 (by omega) (by assumption) (by assumption) (by exact e9) ?hxFE4 lN lF ?a1FE4 ?a2FE4 ?a3FE4 ?a4FE4 ?a5FE4 ?a6FE4 ?a7FE4
      case a1FE4 => with_unfolding_all rfl
      case a2FE4 => with_unfolding_all rfl
      case a3FE4 => with_unfolding_all rfl
      case a4FE4 => with_unfolding_all rfl
      case a5FE4 => with_unfolding_all rfl
      case a6FE4 => with_unfolding_all rfl
      case a7FE4 => with_unfolding_all rfl
      case hxFE4 => rw [e10]; simp
    · clear htk
      have i0 : P[done.length]? = some c := by rw [e2]; simp
      have c1 : (S [c] == Str.ofString "*") = false := (by decide +kernel : ∀ a ∈ singles, (S [a] == Str.ofString "*") = false) c hc
      have c2 : (S [c] == Str.ofString "?") = false := (by decide +kernel : ∀ a ∈ singles, (S [a] == Str.ofString "?") = false) c hc
      have c3 : (S [c] == Str.ofString "[") = false := (by decide +kernel : ∀ a ∈ singles, (S [a] == Str.ofString "[") = false) c hc
      simp only [List.length_cons, List.length_nil] at hPn
      k_with_none
      k_with "inplaceOp Add str str" => (((refine' iadd_S ?ek0aFE4 ?nk0aFE4 ?_; (case ek0aFE4 => assumption); (case nk0aFE4 => (simp only [List.length_cons, List.length_nil]; omega)); intro t' k')))
      k_with "call builtin:str.join" => (((k_dflt (refine' join_S ?Fk1aFE4 ?Nk1aFE4 ?Gk1aFE4 ?Xk1aFE4 ?Lk1aFE4 ?Kk1aFE4 ?zk1aFE4 ?_; (case Xk1aFE4 => assumption); (case Fk1aFE4 => k_asm); (case Nk1aFE4 => k_asm); (case Gk1aFE4 => assumption); (case Lk1aFE4 => assumption); (case Kk1aFE4 => assumption); (case zk1aFE4 => first | assumption | decide +kernel); k_whole); intro s8 t8 F8 N8 G8 ho8; (try dsimp only at N8 ho8))))
      k_with "eval GeneratorExp" => (((k_dflt (refine' gen_any ?Fk2aFE4 ?Nk2aFE4 ?Tk2aFE4 ?Ck2aFE4 ?hck2aFE4 ?hgk2aFE4 ?Uk2aFE4 ?memk2aFE4 ?tk2aFE4 ?hDk2aFE4 ?hDPk2aFE4 ?Gk2aFE4 ?hhk2aFE4 ?hcok2aFE4 ?hclk2aFE4 ?hcellk2aFE4 ?h0k2aFE4 ?hxk2aFE4 ?hkindk2aFE4 ?hroomk2aFE4 ?hitk2aFE4 ?hsk2aFE4 ?helk2aFE4 ?_; (case Fk2aFE4 => k_asm); (case Nk2aFE4 => k_asm); (case Tk2aFE4 => k_asm); (case hck2aFE4 => exact rfl); (case hgk2aFE4 => exact rfl); (case Ck2aFE4 => kn_code); (case Uk2aFE4 => k_updF); (case memk2aFE4 => k_mem); (case tk2aFE4 => assumption); (case hitk2aFE4 => (intro R hR; refine' ld ?fk2aFE4 ?vk2aFE4 hR; (case fk2aFE4 => k_asm); (case vk2aFE4 => exact rfl))); (case hDk2aFE4 => k_dflt k_mem); (case hDPk2aFE4 => k_ne); (case Gk2aFE4 => assumption); (case hhk2aFE4 => first | exact rfl | k_asm); (case hcok2aFE4 => exact rfl); (case hclk2aFE4 => exact rfl); (case hcellk2aFE4 => decide); (case h0k2aFE4 => exact rfl); (case hxk2aFE4 => exact rfl); (case hkindk2aFE4 => exact rfl); (case hroomk2aFE4 => ktr_room); (case hsk2aFE4 => (intro x9; exact rfl)); (case helk2aFE4 => intro C9 code9 A9 E9 u9 s9 m9 hA9 hn9 hm9; refine' elt_repl ?x1k2aFE4 ?x2k2aFE4 ?x3k2aFE4 ?x4k2aFE4 ?x5k2aFE4 ?x6k2aFE4; (case x5k2aFE4 => exact rfl); (case x6k2aFE4 => exact rfl); (case x1k2aFE4 => intro Q9 h9; exact wpAny_Name (wpAny_loadName_local rfl rfl hn9 hm9 h9) (by decide)); (case x2k2aFE4 => first | decide | (simp only [List.length_cons, List.length_nil]; omega)); (case x3k2aFE4 => first | assumption | decide +kernel); (case x4k2aFE4 => first | assumption | decide +kernel)); k_whole); intro a9 s9 ps9 K9 ht9 F9 N9 G9 ho9 hL9 hN9 X9; (try dsimp only at N9 ho9))))
      k_with "call builtin:str.find" => (((first | (refine find_no (by decide +kernel) (by omega) (by omega) (by omega) ?_) | (refine' find_yes ?hik3aFE4 ?hjk3aFE4 ?hlk3aFE4 ?hkk3aFE4 ?_; (case hkk3aFE4 => assumption); (case hik3aFE4 => omega); (case hjk3aFE4 => omega); (case hlk3aFE4 => omega)))))
      k_with "getMethod str" => (((with_reducible refine gm_translate ?_)))
      k_with "call builtin:str.translate" => ((((with_reducible rename Fr _ _ _ _ => lF'); (with_reducible rename News _ _ _ _ => lN'); k_dflt (refine' tr_K lF' lN' ?Xk5aFE4 ?ck5aFE4 ?hk5aFE4 ?_; (case Xk5aFE4 => k_asm); (case ck5aFE4 => assumption); (case hk5aFE4 => first | exact rfl | k_asm); k_whole); intro h' t' k' F' N')))
      k_with "call ref" => (first | (k_dflt ((refine' app_call ?Fk6aFE4 ?Nk6aFE4 ?Uk6aFE4 ?mk6aFE4 ?uk6aFE4 ?zk6aFE4 ?_; (case Fk6aFE4 => k_asm); (case Nk6aFE4 => k_asm); (case uk6aFE4 => k_mem); (case mk6aFE4 => k_mem); (case Uk6aFE4 => k_updF); (case zk6aFE4 => assumption); k_whole); intro h' cnt' F' N'; (try dsimp only at N'))) | ((k_here; k_dflt (refine wpAny_call ?_; (refine' code_def ?k1k6bFE4 ?k2k6bFE4 ?k3k6bFE4 ?k4k6bFE4 ?k5k6bFE4 ?kAk6bFE4 ?kFk6bFE4 ?kKk6bFE4 ?k6k6bFE4 ?k7k6bFE4 ?k8k6bFE4 ?k9k6bFE4 ?kBk6bFE4 ?_ ?c2k6bFE4 ?c3k6bFE4 ?c4k6bFE4 ?c5k6bFE4; (case kAk6bFE4 => exact rfl); (case kFk6bFE4 => exact rfl); (case kKk6bFE4 => first | exact rfl | assumption); (case k1k6bFE4 => k_asm); (case k2k6bFE4 => k_asm); (case k3k6bFE4 => k_asm); (case k4k6bFE4 => k_asm); (case k5k6bFE4 => k_asm); (case k6k6bFE4 => k_is); (case k7k6bFE4 => k_is); (case k8k6bFE4 => ktr_room); (case k9k6bFE4 => exact BindsTo.of_eq rfl); (case c5k6bFE4 => decide); (case kBk6bFE4 => exact locs rfl); (case c2k6bFE4 => exact rfl); (case c3k6bFE4 => exact rfl); (case c4k6bFE4 => exact rfl); k_whole; intro g' L' h' FG' F' N' B' X' T'; (try dsimp only); (try k_lift B'); (try k_fold))))))
      k_with "getAttr ref" => (((k_dflt (refine' app_made ?Fk7aFE4 ?Nk7aFE4 ?memk7aFE4 ?_; (case Fk7aFE4 => k_asm); (case Nk7aFE4 => k_asm); (case memk7aFE4 => k_mem); k_whole); intro u' h' tk' F' N' l9; (try dsimp only at N'); have n1 : @Ne Nat _ _ := l9 _ (List.mem_cons_self ..); have n2 : @Ne Nat _ _ := l9 _ (List.mem_cons_of_mem _ (List.mem_cons_self ..)); have n3 : @Ne Nat _ _ := l9 _ (List.mem_cons_of_mem _ (List.mem_cons_of_mem _ (List.mem_cons_self ..))); dsimp only at n1 n2 n3)))
      k_with "callWith ref" => ((k_dflt (refine' callWith_app ?Nk8aFE4 ?Mk8aFE4 ?_; (case Nk8aFE4 => k_asm); (case Mk8aFE4 => k_mem); k_whole)))
      k_with "And" => ((((with_reducible show AppAt _ _ _ ∧ _); k_dflt (refine ⟨News.get (by k_asm) (by k_mem), ?_⟩); (try dsimp only [List.nil_append, List.cons_append]))))
      k_with "WhlIf" => ((first | (refine WhlIf.yes rfl ?_) | (refine WhlIf.no rfl ?_) | (refine WhlIf.no (by first | assumption | (simp only [decide_eq_false_iff_not]; omega)) ?_) | (refine WhlIf.yes (by first | assumption | (simp only [decide_eq_true_eq]; omega)) ?_)))
      k_with "call builtin:len" => (((refine len_S (by omega) ?_)))
      k_with "eval Lambda" => (((k_dflt ((refine' kla_eval ?d0k12aFE4 ?_; (case d0k12aFE4 => exact rfl)); (refine' lam_any ?Fk12aFE4 ?Nk12aFE4 ?Tk12aFE4 ?Ck12aFE4 ?cdk12aFE4 ?Uk12aFE4 ?tk12aFE4 ?clk12aFE4 ?_; (case Fk12aFE4 => k_asm); (case Nk12aFE4 => k_asm); (case Tk12aFE4 => k_asm); (case cdk12aFE4 => exact rfl); (case Ck12aFE4 => kn_code); (case Uk12aFE4 => k_updF); (case tk12aFE4 => assumption); (case clk12aFE4 => exact rfl); k_whole)); intro f' d' dt' sl' h' tk' ps' ht' F' N' l1; (try dsimp only at N'); (try k_lt l1))))
      k_with "call builtin:re.Pattern.sub" => ((((with_reducible rename Fr _ _ _ _ => lF'); (with_reducible rename News _ _ _ _ => lN'); (refine' sub_K lF' lN' ?Xk13aFE4 ?mk13aFE4 ?lk13aFE4 ?_; (case Xk13aFE4 => k_asm); (case mk13aFE4 => k_mem); (case lk13aFE4 => assumption)); intro h' t' k' F' N')))
      k_with "getMethod ref" => ((((with_reducible show wpAny _ _ (getMethod (Value.ref 43) _ _) _ _ _); k_dflt (refine' pat_sub ?Fk14aFE4 ?Xk14aFE4 ?_; (case Fk14aFE4 => k_asm); (case Xk14aFE4 => k_asm)))))
      k_with "truthy str" => (((refine' truthy_S ?nk15aFE4 ?hk15aFE4 ?_; (case nk15aFE4 => first | (simp only [List.length_cons, List.length_nil]; omega) | omega); (case hk15aFE4 => exact (Eq.refl true)))))
      k_with "formatField" => (((refine' fmt_S ?nk16aFE4 ?_; (case nk16aFE4 => first | (simp only [List.length_cons, List.length_nil]; omega) | omega); intro t' tk')))
      k_with "ite" => ((k_dflt (first
  | (refine' PySem.W.ite_pos ?cck17aFE4 ?_; (case cck17aFE4 => first | rfl | (simp only [beq_iff_eq, decide_eq_true_eq, bne_iff_ne, ne_eq]; omega)))
  | (refine' PySem.W.ite_neg ?cck17aFE4 ?_; (case cck17aFE4 => first | exact Bool.false_ne_true | exact Bool.eq_false_iff.mp (by assumption) | (simp only [beq_iff_eq, decide_eq_true_eq, bne_iff_ne, ne_eq]; omega))))))
      k_with "subscriptTail Name Slice str ref" => ((((with_reducible rename Fr _ _ _ _ => lF'); (with_reducible rename News _ _ _ _ => lN'); (refine' slice_S (s := ⟨_, _, _, _, _⟩) lF' lN' ?nk18aFE4 ?ek18aFE4 ?_; (case ek18aFE4 => assumption); (case nk18aFE4 => omega)); intro h' t' k' F' N')))
      k_with "call builtin:str.replace" => (((refine' repl_none ?ak19aFE4 ?_; (case ak19aFE4 => assumption))))
      k_with "compareOp Eq str str" => (((refine' cmp_eq ?hk20aFE4 ?_; (case hk20aFE4 => first | assumption | exact (by decide +kernel : _ = true) | exact (by decide +kernel : _ = false)))))
      k_with "compareOp NotEq str str" => (((refine' cmp_ne ?hk21aFE4 ?_; (case hk21aFE4 => first | assumption | exact (by decide +kernel : _ = true) | exact (by decide +kernel : _ = false)))))
      k_with "execs cons" => ((k_dflt ((first | k_gentoks | ((with_reducible refine wpAny_execs_cons ?_); (try dsimp only); (try k_fold))))))
      k_with "subscriptTail Name Name str int" => (refine item_at (k := done.length) (by omega) i0 (by omega) ?_)
      k_steps
      rename Fr _ _ _ _ => lF
      rename News _ _ _ _ => lN
      refine' JT_end (tok := [c]) (o := escL c) e1' e2 r e4 e5 (by omega) (by assumption) (by assumption) (by exact e9) ?hxFE4 lN lF ?a1FE4 ?a2FE4 ?a3FE4 ?a4FE4 ?a5FE4 ?a6FE4 ?a7FE4
      case a1FE4 => with_unfolding_all rfl
      case a2FE4 => with_unfolding_all rfl
      case a3FE4 => with_unfolding_all rfl
      case a4FE4 => with_unfolding_all rfl
      case a5FE4 => with_unfolding_all rfl
      case a6FE4 => with_unfolding_all rfl
      case a7FE4 => with_unfolding_all rfl
      case hxFE4 => rw [e10]; simp
    · clear htk
      obtain ⟨d, tl, hbd, htl1, q1, q2, q3⟩ := bk_first hbk
      have e22 : P = (done ++ [91]) ++ (bd ++ 93 :: toks'.flatten) := by rw [e2]; simp
      have i0 : P[done.length]? = some 91 := by rw [e2]; simp
      have i1 : P[done.length + 1]? = some d := by rw [e2, hbd]; simp
      have i9 := at_end e22
      have hin := in_bd e22 q3
      have hbl : 1 ≤ bd.length ∧ bd.length ≤ 2 := by rw [hbd, List.length_cons]; omega
      simp only [List.length_cons, List.length_append, List.length_nil] at hPn
      k_with_none
      k_with "inplaceOp Add str str" => (((refine' iadd_S ?ek0aFE4 ?nk0aFE4 ?_; (case ek0aFE4 => assumption); (case nk0aFE4 => (simp only [List.length_cons, List.length_nil]; omega)); intro t' k')))
      k_with "call builtin:str.join" => (((k_dflt (refine' join_S ?Fk1aFE4 ?Nk1aFE4 ?Gk1aFE4 ?Xk1aFE4 ?Lk1aFE4 ?Kk1aFE4 ?zk1aFE4 ?_; (case Xk1aFE4 => assumption); (case Fk1aFE4 => k_asm); (case Nk1aFE4 => k_asm); (case Gk1aFE4 => assumption); (case Lk1aFE4 => assumption); (case Kk1aFE4 => assumption); (case zk1aFE4 => first | assumption | decide +kernel); k_whole); intro s8 t8 F8 N8 G8 ho8; (try dsimp only at N8 ho8))))
      k_with "eval GeneratorExp" => (((k_dflt (refine' gen_any ?Fk2aFE4 ?Nk2aFE4 ?Tk2aFE4 ?Ck2aFE4 ?hck2aFE4 ?hgk2aFE4 ?Uk2aFE4 ?memk2aFE4 ?tk2aFE4 ?hDk2aFE4 ?hDPk2aFE4 ?Gk2aFE4 ?hhk2aFE4 ?hcok2aFE4 ?hclk2aFE4 ?hcellk2aFE4 ?h0k2aFE4 ?hxk2aFE4 ?hkindk2aFE4 ?hroomk2aFE4 ?hitk2aFE4 ?hsk2aFE4 ?helk2aFE4 ?_; (case Fk2aFE4 => k_asm); (case Nk2aFE4 => k_asm); (case Tk2aFE4 => k_asm); (case hck2aFE4 => exact rfl); (case hgk2aFE4 => exact rfl); (case Ck2aFE4 => kn_code); (case Uk2aFE4 => k_updF); (case memk2aFE4 => k_mem); (case tk2aFE4 => assumption); (case hitk2aFE4 => (intro R hR; refine' ld ?fk2aFE4 ?vk2aFE4 hR; (case fk2aFE4 => k_asm); (case vk2aFE4 => exact rfl))); (case hDk2aFE4 => k_dflt k_mem); (case hDPk2aFE4 => k_ne); (case Gk2aFE4 => assumption); (case hhk2aFE4 => first | exact rfl | k_asm); (case hcok2aFE4 => exact rfl); (case hclk2aFE4 => exact rfl); (case hcellk2aFE4 => decide); (case h0k2aFE4 => exact rfl); (case hxk2aFE4 => exact rfl); (case hkindk2aFE4 => exact rfl); (case hroomk2aFE4 => ktr_room); (case hsk2aFE4 => (intro x9; exact rfl)); (case helk2aFE4 => intro C9 code9 A9 E9 u9 s9 m9 hA9 hn9 hm9; refine' elt_repl ?x1k2aFE4 ?x2k2aFE4 ?x3k2aFE4 ?x4k2aFE4 ?x5k2aFE4 ?x6k2aFE4; (case x5k2aFE4 => exact rfl); (case x6k2aFE4 => exact rfl); (case x1k2aFE4 => intro Q9 h9; exact wpAny_Name (wpAny_loadName_local rfl rfl hn9 hm9 h9) (by decide)); (case x2k2aFE4 => first | decide | (simp only [List.length_cons, List.length_nil]; omega)); (case x3k2aFE4 => first | assumption | decide +kernel); (case x4k2aFE4 => first | assumption | decide +kernel)); k_whole); intro a9 s9 ps9 K9 ht9 F9 N9 G9 ho9 hL9 hN9 X9; (try dsimp only at N9 ho9))))
      k_with "call builtin:str.find" => (((first | (refine find_no (by decide +kernel) (by omega) (by omega) (by omega) ?_) | (refine' find_yes ?hik3aFE4 ?hjk3aFE4 ?hlk3aFE4 ?hkk3aFE4 ?_; (case hkk3aFE4 => assumption); (case hik3aFE4 => omega); (case hjk3aFE4 => omega); (case hlk3aFE4 => omega)))))
      k_with "getMethod str" => (((with_reducible refine gm_translate ?_)))
      k_with "call builtin:str.translate" => ((((with_reducible rename Fr _ _ _ _ => lF'); (with_reducible rename News _ _ _ _ => lN'); k_dflt (refine' tr_K lF' lN' ?Xk5aFE4 ?ck5aFE4 ?hk5aFE4 ?_; (case Xk5aFE4 => k_asm); (case ck5aFE4 => assumption); (case hk5aFE4 => first | exact rfl | k_asm); k_whole); intro h' t' k' F' N')))
      k_with "call ref" => (first | (k_dflt ((refine' app_call ?Fk6aFE4 ?Nk6aFE4 ?Uk6aFE4 ?mk6aFE4 ?uk6aFE4 ?zk6aFE4 ?_; (case Fk6aFE4 => k_asm); (case Nk6aFE4 => k_asm); (case uk6aFE4 => k_mem); (case mk6aFE4 => k_mem); (case Uk6aFE4 => k_updF); (case zk6aFE4 => assumption); k_whole); intro h' cnt' F' N'; (try dsimp only at N'))) | ((k_here; k_dflt (refine wpAny_call ?_; (refine' code_def ?k1k6bFE4 ?k2k6bFE4 ?k3k6bFE4 ?k4k6bFE4 ?k5k6bFE4 ?kAk6bFE4 ?kFk6bFE4 ?kKk6bFE4 ?k6k6bFE4 ?k7k6bFE4 ?k8k6bFE4 ?k9k6bFE4 ?kBk6bFE4 ?_ ?c2k6bFE4 ?c3k6bFE4 ?c4k6bFE4 ?c5k6bFE4; (case kAk6bFE4 => exact rfl); (case kFk6bFE4 => exact rfl); (case kKk6bFE4 => first | exact rfl | assumption); (case k1k6bFE4 => k_asm); (case k2k6bFE4 => k_asm); (case k3k6bFE4 => k_asm); (case k4k6bFE4 => k_asm); (case k5k6bFE4 => k_asm); (case k6k6bFE4 => k_is); (case k7k6bFE4 => k_is); (case k8k6bFE4 => ktr_room); (case k9k6bFE4 => exact BindsTo.of_eq rfl); (case c5k6bFE4 => decide); (case kBk6bFE4 => exact locs rfl); (case c2k6bFE4 => exact rfl); (case c3k6bFE4 => exact rfl); (case c4k6bFE4 => exact rfl); k_whole; intro g' L' h' FG' F' N' B' X' T'; (try dsimp only); (try k_lift B'); (try k_fold))))))
      k_with "getAttr ref" => (((k_dflt (refine' app_made ?Fk7aFE4 ?Nk7aFE4 ?memk7aFE4 ?_; (case Fk7aFE4 => k_asm); (case Nk7aFE4 => k_asm); (case memk7aFE4 => k_mem); k_whole); intro u' h' tk' F' N' l9; (try dsimp only at N'); have n1 : @Ne Nat _ _ := l9 _ (List.mem_cons_self ..); have n2 : @Ne Nat _ _ := l9 _ (List.mem_cons_of_mem _ (List.mem_cons_self ..)); have n3 : @Ne Nat _ _ := l9 _ (List.mem_cons_of_mem _ (List.mem_cons_of_mem _ (List.mem_cons_self ..))); dsimp only at n1 n2 n3)))
      k_with "callWith ref" => ((k_dflt (refine' callWith_app ?Nk8aFE4 ?Mk8aFE4 ?_; (case Nk8aFE4 => k_asm); (case Mk8aFE4 => k_mem); k_whole)))
      k_with "And" => ((((with_reducible show AppAt _ _ _ ∧ _); k_dflt (refine ⟨News.get (by k_asm) (by k_mem), ?_⟩); (try dsimp only [List.nil_append, List.cons_append]))))
      k_with "WhlIf" => ((first | (refine WhlIf.yes rfl ?_) | (refine WhlIf.no rfl ?_) | (refine WhlIf.no (by first | assumption | (simp only [decide_eq_false_iff_not]; omega)) ?_) | (refine WhlIf.yes (by first | assumption | (simp only [decide_eq_true_eq]; omega)) ?_)))
      k_with "call builtin:len" => (((refine len_S (by omega) ?_)))
      k_with "eval Lambda" => (((k_dflt ((refine' kla_eval ?d0k12aFE4 ?_; (case d0k12aFE4 => exact rfl)); (refine' lam_any ?Fk12aFE4 ?Nk12aFE4 ?Tk12aFE4 ?Ck12aFE4 ?cdk12aFE4 ?Uk12aFE4 ?tk12aFE4 ?clk12aFE4 ?_; (case Fk12aFE4 => k_asm); (case Nk12aFE4 => k_asm); (case Tk12aFE4 => k_asm); (case cdk12aFE4 => exact rfl); (case Ck12aFE4 => kn_code); (case Uk12aFE4 => k_updF); (case tk12aFE4 => assumption); (case clk12aFE4 => exact rfl); k_whole)); intro f' d' dt' sl' h' tk' ps' ht' F' N' l1; (try dsimp only at N'); (try k_lt l1))))
      k_with "call builtin:re.Pattern.sub" => ((((with_reducible rename Fr _ _ _ _ => lF'); (with_reducible rename News _ _ _ _ => lN'); (refine' sub_K lF' lN' ?Xk13aFE4 ?mk13aFE4 ?lk13aFE4 ?_; (case Xk13aFE4 => k_asm); (case mk13aFE4 => k_mem); (case lk13aFE4 => assumption)); intro h' t' k' F' N')))
      k_with "getMethod ref" => ((((with_reducible show wpAny _ _ (getMethod (Value.ref 43) _ _) _ _ _); k_dflt (refine' pat_sub ?Fk14aFE4 ?Xk14aFE4 ?_; (case Fk14aFE4 => k_asm); (case Xk14aFE4 => k_asm)))))
      k_with "truthy str" => (((refine' truthy_S ?nk15aFE4 ?hk15aFE4 ?_; (case nk15aFE4 => first | (simp only [List.length_cons, List.length_nil]; omega) | omega); (case hk15aFE4 => exact (Eq.refl true)))))
      k_with "formatField" => (((refine' fmt_S ?nk16aFE4 ?_; (case nk16aFE4 => first | (simp only [List.length_cons, List.length_nil]; omega) | omega); intro t' tk')))
      k_with "ite" => ((k_dflt (first
  | (refine' PySem.W.ite_pos ?cck17aFE4 ?_; (case cck17aFE4 => first | rfl | (simp only [beq_iff_eq, decide_eq_true_eq, bne_iff_ne, ne_eq]; omega)))
  | (refine' PySem.W.ite_neg ?cck17aFE4 ?_; (case cck17aFE4 => first | exact Bool.false_ne_true | exact Bool.eq_false_iff.mp (by assumption) | (simp only [beq_iff_eq, decide_eq_true_eq, bne_iff_ne, ne_eq]; omega))))))
      k_with "subscriptTail Name Slice str ref" => ((((with_reducible rename Fr _ _ _ _ => lF'); (with_reducible rename News _ _ _ _ => lN'); (refine' slice_S (s := ⟨_, _, _, _, _⟩) lF' lN' ?nk18aFE4 ?ek18aFE4 ?_; (case ek18aFE4 => assumption); (case nk18aFE4 => omega)); intro h' t' k' F' N')))
      k_with "call builtin:str.replace" => (((refine' repl_none ?ak19aFE4 ?_; (case ak19aFE4 => assumption))))
      k_with "compareOp Eq str str" => (((refine' cmp_eq ?hk20aFE4 ?_; (case hk20aFE4 => first | assumption | exact (by decide +kernel : _ = true) | exact (by decide +kernel : _ = false)))))
      k_with "compareOp NotEq str str" => (((refine' cmp_ne ?hk21aFE4 ?_; (case hk21aFE4 => first | assumption | exact (by decide +kernel : _ = true) | exact (by decide +kernel : _ = false)))))
      k_with "execs cons" => ((k_dflt ((first | k_gentoks | ((with_reducible refine wpAny_execs_cons ?_); (try dsimp only); (try k_fold))))))
      k_with "subscriptTail Name Name str int" => (first | (refine item_at (k := done.length) (by omega) i0 (by omega) ?_) | (refine item_at (k := done.length + 1) (by omega) i1 (by omega) ?_))
      k_with "exec While" => (refine Halt.mk ?_)
      k_with "last exec While" => (refine Halt.mk ?_)
      k_steps
      unfold Halt
      rename Fr _ _ _ _ => lF
      rename News _ _ _ _ => lN
      refine' JB_go (b := done.length + 1) (fin := done.length + 1 + bd.length) (x := x + 1) (tp := tp) (tq := tq) (tn := tn) (P := P) (s₀ := s') (Nat.le_add_right _ _) ?hxjFE4 lN lF ?a1FE4 ?a2FE4 ?a3FE4 ?a4FE4 ?a5FE4 ?a6FE4 ?a7FE4 ?a8FE4 ?hs2FE4 ?hE2FE4 ?turn2FE4 ?last2FE4
      case a1FE4 => with_unfolding_all rfl
      case a2FE4 => with_unfolding_all rfl
      case a3FE4 => with_unfolding_all rfl
      case a4FE4 => with_unfolding_all rfl
      case a5FE4 => with_unfolding_all rfl
      case a6FE4 => with_unfolding_all rfl
      case a7FE4 => with_unfolding_all rfl
      case a8FE4 => with_unfolding_all rfl
      case hxjFE4 => rw [e10]; simp
      case hs2FE4 => rfl
      case hE2FE4 => passes_own
      case turn2FE4 =>
        clear lF lN
        intro n2 s2 hJ2
        obtain ⟨p, mm2, xj, tj, h2, tk2, rfl, d1, d2, d3, N3, F3⟩ := hJ2
        obtain ⟨c, i2, c9⟩ := hin p d2 (by omega)
        clear hin i0 i1 i9
        k_with_none
        k_with "inplaceOp Add str str" => (((refine' iadd_S ?ek0aFE4 ?nk0aFE4 ?_; (case ek0aFE4 => assumption); (case nk0aFE4 => (simp only [List.length_cons, List.length_nil]; omega)); intro t' k')))
        k_with "call builtin:str.join" => (((k_dflt (refine' join_S ?Fk1aFE4 ?Nk1aFE4 ?Gk1aFE4 ?Xk1aFE4 ?Lk1aFE4 ?Kk1aFE4 ?zk1aFE4 ?_; (case Xk1aFE4 => assumption); (case Fk1aFE4 => k_asm); (case Nk1aFE4 => k_asm); (case Gk1aFE4 => assumption); (case Lk1aFE4 => assumption); (case Kk1aFE4 => assumption); (case zk1aFE4 => first | assumption | decide +kernel); k_whole); intro s8 t8 F8 N8 G8 ho8; (try dsimp only at N8 ho8))))
        k_with "eval GeneratorExp" => (((k_dflt (refine' gen_any ?Fk2aFE4 ?Nk2aFE4 ?Tk2aFE4 ?Ck2aFE4 ?hck2aFE4 ?hgk2aFE4 ?Uk2aFE4 ?memk2aFE4 ?tk2aFE4 ?hDk2aFE4 ?hDPk2aFE4 ?Gk2aFE4 ?hhk2aFE4 ?hcok2aFE4 ?hclk2aFE4 ?hcellk2aFE4 ?h0k2aFE4 ?hxk2aFE4 ?hkindk2aFE4 ?hroomk2aFE4 ?hitk2aFE4 ?hsk2aFE4 ?helk2aFE4 ?_; (case Fk2aFE4 => k_asm); (case Nk2aFE4 => k_asm); (case Tk2aFE4 => k_asm); (case hck2aFE4 => exact rfl); (case hgk2aFE4 => exact rfl); (case Ck2aFE4 => kn_code); (case Uk2aFE4 => k_updF); (case memk2aFE4 => k_mem); (case tk2aFE4 => assumption); (case hitk2aFE4 => (intro R hR; refine' ld ?fk2aFE4 ?vk2aFE4 hR; (case fk2aFE4 => k_asm); (case vk2aFE4 => exact rfl))); (case hDk2aFE4 => k_dflt k_mem); (case hDPk2aFE4 => k_ne); (case Gk2aFE4 => assumption); (case hhk2aFE4 => first | exact rfl | k_asm); (case hcok2aFE4 => exact rfl); (case hclk2aFE4 => exact rfl); (case hcellk2aFE4 => decide); (case h0k2aFE4 => exact rfl); (case hxk2aFE4 => exact rfl); (case hkindk2aFE4 => exact rfl); (case hroomk2aFE4 => ktr_room); (case hsk2aFE4 => (intro x9; exact rfl)); (case helk2aFE4 => intro C9 code9 A9 E9 u9 s9 m9 hA9 hn9 hm9; refine' elt_repl ?x1k2aFE4 ?x2k2aFE4 ?x3k2aFE4 ?x4k2aFE4 ?x5k2aFE4 ?x6k2aFE4; (case x5k2aFE4 => exact rfl); (case x6k2aFE4 => exact rfl); (case x1k2aFE4 => intro Q9 h9; exact wpAny_Name (wpAny_loadName_local rfl rfl hn9 hm9 h9) (by decide)); (case x2k2aFE4 => first | decide | (simp only [List.length_cons, List.length_nil]; omega)); (case x3k2aFE4 => first | assumption | decide +kernel); (case x4k2aFE4 => first | assumption | decide +kernel)); k_whole); intro a9 s9 ps9 K9 ht9 F9 N9 G9 ho9 hL9 hN9 X9; (try dsimp only at N9 ho9))))
        k_with "call builtin:str.find" => (((first | (refine find_no (by decide +kernel) (by omega) (by omega) (by omega) ?_) | (refine' find_yes ?hik3aFE4 ?hjk3aFE4 ?hlk3aFE4 ?hkk3aFE4 ?_; (case hkk3aFE4 => assumption); (case hik3aFE4 => omega); (case hjk3aFE4 => omega); (case hlk3aFE4 => omega)))))
        k_with "getMethod str" => (((with_reducible refine gm_translate ?_)))
        k_with "call builtin:str.translate" => ((((with_reducible rename Fr _ _ _ _ => lF'); (with_reducible rename News _ _ _ _ => lN'); k_dflt (refine' tr_K lF' lN' ?Xk5aFE4 ?ck5aFE4 ?hk5aFE4 ?_; (case Xk5aFE4 => k_asm); (case ck5aFE4 => assumption); (case hk5aFE4 => first | exact rfl | k_asm); k_whole); intro h' t' k' F' N')))
        k_with "call ref" => (first | (k_dflt ((refine' app_call ?Fk6aFE4 ?Nk6aFE4 ?Uk6aFE4 ?mk6aFE4 ?uk6aFE4 ?zk6aFE4 ?_; (case Fk6aFE4 => k_asm); (case Nk6aFE4 => k_asm); (case uk6aFE4 => k_mem); (case mk6aFE4 => k_mem); (case Uk6aFE4 => k_updF); (case zk6aFE4 => assumption); k_whole); intro h' cnt' F' N'; (try dsimp only at N'))) | ((k_here; k_dflt (refine wpAny_call ?_; (refine' code_def ?k1k6bFE4 ?k2k6bFE4 ?k3k6bFE4 ?k4k6bFE4 ?k5k6bFE4 ?kAk6bFE4 ?kFk6bFE4 ?kKk6bFE4 ?k6k6bFE4 ?k7k6bFE4 ?k8k6bFE4 ?k9k6bFE4 ?kBk6bFE4 ?_ ?c2k6bFE4 ?c3k6bFE4 ?c4k6bFE4 ?c5k6bFE4; (case kAk6bFE4 => exact rfl); (case kFk6bFE4 => exact rfl); (case kKk6bFE4 => first | exact rfl | assumption); (case k1k6bFE4 => k_asm); (case k2k6bFE4 => k_asm); (case k3k6bFE4 => k_asm); (case k4k6bFE4 => k_asm); (case k5k6bFE4 => k_asm); (case k6k6bFE4 => k_is); (case k7k6bFE4 => k_is); (case k8k6bFE4 => ktr_room); (case k9k6bFE4 => exact BindsTo.of_eq rfl); (case c5k6bFE4 => decide); (case kBk6bFE4 => exact locs rfl); (case c2k6bFE4 => exact rfl); (case c3k6bFE4 => exact rfl); (case c4k6bFE4 => exact rfl); k_whole; intro g' L' h' FG' F' N' B' X' T'; (try dsimp only); (try k_lift B'); (try k_fold))))))
        k_with "getAttr ref" => (((k_dflt (refine' app_made ?Fk7aFE4 ?Nk7aFE4 ?memk7aFE4 ?_; (case Fk7aFE4 => k_asm); (case Nk7aFE4 => k_asm); (case memk7aFE4 => k_mem); k_whole); intro u' h' tk' F' N' l9; (try dsimp only at N'); have n1 : @Ne Nat _ _ := l9 _ (List.mem_cons_self ..); have n2 : @Ne Nat _ _ := l9 _ (List.mem_cons_of_mem _ (List.mem_cons_self ..)); have n3 : @Ne Nat _ _ := l9 _ (List.mem_cons_of_mem _ (List.mem_cons_of_mem _ (List.mem_cons_self ..))); dsimp only at n1 n2 n3)))
        k_with "callWith ref" => ((k_dflt (refine' callWith_app ?Nk8aFE4 ?Mk8aFE4 ?_; (case Nk8aFE4 => k_asm); (case Mk8aFE4 => k_mem); k_whole)))
        k_with "And" => ((((with_reducible show AppAt _ _ _ ∧ _); k_dflt (refine ⟨News.get (by k_asm) (by k_mem), ?_⟩); (try dsimp only [List.nil_append, List.cons_append]))))
        k_with "WhlIf" => ((first | (refine WhlIf.yes rfl ?_) | (refine WhlIf.no rfl ?_) | (refine WhlIf.no (by first | assumption | (simp only [decide_eq_false_iff_not]; omega)) ?_) | (refine WhlIf.yes (by first | assumption | (simp only [decide_eq_true_eq]; omega)) ?_)))
        k_with "call builtin:len" => (((refine len_S (by omega) ?_)))
        k_with "eval Lambda" => (((k_dflt ((refine' kla_eval ?d0k12aFE4 ?_; (case d0k12aFE4 => exact rfl)); (refine' lam_any ?Fk12aFE4 ?Nk12aFE4 ?Tk12aFE4 ?Ck12aFE4 ?cdk12aFE4 ?Uk12aFE4 ?tk12aFE4 ?clk12aFE4 ?_; (case Fk12aFE4 => k_asm); (case Nk12aFE4 => k_asm); (case Tk12aFE4 => k_asm); (case cdk12aFE4 => exact rfl); (case Ck12aFE4 => kn_code); (case Uk12aFE4 => k_updF); (case tk12aFE4 => assumption); (case clk12aFE4 => exact rfl); k_whole)); intro f' d' dt' sl' h' tk' ps' ht' F' N' l1; (try dsimp only at N'); (try k_lt l1))))
        k_with "call builtin:re.Pattern.sub" => ((((with_reducible rename Fr _ _ _ _ => lF'); (with_reducible rename News _ _ _ _ => lN'); (refine' sub_K lF' lN' ?Xk13aFE4 ?mk13aFE4 ?lk13aFE4 ?_; (case Xk13aFE4 => k_asm); (case mk13aFE4 => k_mem); (case lk13aFE4 => assumption)); intro h' t' k' F' N')))
        k_with "getMethod ref" => ((((with_reducible show wpAny _ _ (getMethod (Value.ref 43) _ _) _ _ _); k_dflt (refine' pat_sub ?Fk14aFE4 ?Xk14aFE4 ?_; (case Fk14aFE4 => k_asm); (case Xk14aFE4 => k_asm)))))
        k_with "truthy str" => (((refine' truthy_S ?nk15aFE4 ?hk15aFE4 ?_; (case nk15aFE4 => first | (simp only [List.length_cons, List.length_nil]; omega) | omega); (case hk15aFE4 => exact (Eq.refl true)))))
        k_with "formatField" => (((refine' fmt_S ?nk16aFE4 ?_; (case nk16aFE4 => first | (simp only [List.length_cons, List.length_nil]; omega) | omega); intro t' tk')))
        k_with "ite" => ((k_dflt (first
  | (refine' PySem.W.ite_pos ?cck17aFE4 ?_; (case cck17aFE4 => first | rfl | (simp only [beq_iff_eq, decide_eq_true_eq, bne_iff_ne, ne_eq]; omega)))
  | (refine' PySem.W.ite_neg ?cck17aFE4 ?_; (case cck17aFE4 => first | exact Bool.false_ne_true | exact Bool.eq_false_iff.mp (by assumption) | (simp only [beq_iff_eq, decide_eq_true_eq, bne_iff_ne, ne_eq]; omega))))))
        k_with "subscriptTail Name Slice str ref" => ((((with_reducible rename Fr _ _ _ _ => lF'); (with_reducible rename News _ _ _ _ => lN'); (refine' slice_S (s := ⟨_, _, _, _, _⟩) lF' lN' ?nk18aFE4 ?ek18aFE4 ?_; (case ek18aFE4 => assumption); (case nk18aFE4 => omega)); intro h' t' k' F' N')))
        k_with "call builtin:str.replace" => (((refine' repl_none ?ak19aFE4 ?_; (case ak19aFE4 => assumption))))
        k_with "compareOp Eq str str" => (((refine' cmp_eq ?hk20aFE4 ?_; (case hk20aFE4 => first | assumption | exact (by decide +kernel : _ = true) | exact (by decide +kernel : _ = false)))))
        k_with "compareOp NotEq str str" => (((refine' cmp_ne ?hk21aFE4 ?_; (case hk21aFE4 => first | assumption | exact (by decide +kernel : _ = true) | exact (by decide +kernel : _ = false)))))
        k_with "execs cons" => ((k_dflt ((first | k_gentoks | ((with_reducible refine wpAny_execs_cons ?_); (try dsimp only); (try k_fold))))))
        k_with "subscriptTail Name Name str int" => (refine item_at (k := p) (by omega) i2 (by omega) ?_)
        k_steps
        rename Fr _ _ _ _ => lF
        rename News _ _ _ _ => lN
        refine' JB_end (p := p) d1 d2 ?hxjFE4 lN lF ?a1FE4 ?a2FE4 ?a3FE4 ?a4FE4 ?a5FE4 ?a6FE4 ?a7FE4 ?a8FE4 ?hs2FE4
        case a1FE4 => with_unfolding_all rfl
        case a2FE4 => with_unfolding_all rfl
        case a3FE4 => with_unfolding_all rfl
        case a4FE4 => with_unfolding_all rfl
        case a5FE4 => with_unfolding_all rfl
        case a6FE4 => with_unfolding_all rfl
        case a7FE4 => with_unfolding_all rfl
        case a8FE4 => with_unfolding_all rfl
        case hxjFE4 => rw [d3]; simp
        case hs2FE4 => rfl
      case last2FE4 =>
        clear lF lN
        intro s2 hJ2
        obtain ⟨p, mm2, xj, tj, h2, tk2, rfl, d1, d2, d3, N3, F3⟩ := hJ2
        obtain rfl : p = done.length + 1 + bd.length := d1
        clear hin
        have s1 : Txt.slice (S P) (some (x + 1)) (some xj) = S bd := slice_at (pre := done ++ [91]) (post := [93] ++ toks'.flatten) (by rw [e22]; simp) (by rw [e10]; simp) (by rw [d3]; simp only [List.length_append, List.length_cons, List.length_nil] <;> omega)
        k_with_none
        k_with "inplaceOp Add str str" => (((refine' iadd_S ?ek0aFE4 ?nk0aFE4 ?_; (case ek0aFE4 => assumption); (case nk0aFE4 => (simp only [List.length_cons, List.length_nil]; omega)); intro t' k')))
        k_with "call builtin:str.join" => (((k_dflt (refine' join_S ?Fk1aFE4 ?Nk1aFE4 ?Gk1aFE4 ?Xk1aFE4 ?Lk1aFE4 ?Kk1aFE4 ?zk1aFE4 ?_; (case Xk1aFE4 => assumption); (case Fk1aFE4 => k_asm); (case Nk1aFE4 => k_asm); (case Gk1aFE4 => assumption); (case Lk1aFE4 => assumption); (case Kk1aFE4 => assumption); (case zk1aFE4 => first | assumption | decide +kernel); k_whole); intro s8 t8 F8 N8 G8 ho8; (try dsimp only at N8 ho8))))
        k_with "eval GeneratorExp" => (((k_dflt (refine' gen_any ?Fk2aFE4 ?Nk2aFE4 ?Tk2aFE4 ?Ck2aFE4 ?hck2aFE4 ?hgk2aFE4 ?Uk2aFE4 ?memk2aFE4 ?tk2aFE4 ?hDk2aFE4 ?hDPk2aFE4 ?Gk2aFE4 ?hhk2aFE4 ?hcok2aFE4 ?hclk2aFE4 ?hcellk2aFE4 ?h0k2aFE4 ?hxk2aFE4 ?hkindk2aFE4 ?hroomk2aFE4 ?hitk2aFE4 ?hsk2aFE4 ?helk2aFE4 ?_; (case Fk2aFE4 => k_asm); (case Nk2aFE4 => k_asm); (case Tk2aFE4 => k_asm); (case hck2aFE4 => exact rfl); (case hgk2aFE4 => exact rfl); (case Ck2aFE4 => kn_code); (case Uk2aFE4 => k_updF); (case memk2aFE4 => k_mem); (case tk2aFE4 => assumption); (case hitk2aFE4 => (intro R hR; refine' ld ?fk2aFE4 ?vk2aFE4 hR; (case fk2aFE4 => k_asm); (case vk2aFE4 => exact rfl))); (case hDk2aFE4 => k_dflt k_mem); (case hDPk2aFE4 => k_ne); (case Gk2aFE4 => assumption); (case hhk2aFE4 => first | exact rfl | k_asm); (case hcok2aFE4 => exact rfl); (case hclk2aFE4 => exact rfl); (case hcellk2aFE4 => decide); (case h0k2aFE4 => exact rfl); (case hxk2aFE4 => exact rfl); (case hkindk2aFE4 => exact rfl); (case hroomk2aFE4 => ktr_room); (case hsk2aFE4 => (intro x9; exact rfl)); (case helk2aFE4 => intro C9 code9 A9 E9 u9 s9 m9 hA9 hn9 hm9; refine' elt_repl ?x1k2aFE4 ?x2k2aFE4 ?x3k2aFE4 ?x4k2aFE4 ?x5k2aFE4 ?x6k2aFE4; (case x5k2aFE4 => exact rfl); (case x6k2aFE4 => exact rfl); (case x1k2aFE4 => intro Q9 h9; exact wpAny_Name (wpAny_loadName_local rfl rfl hn9 hm9 h9) (by decide)); (case x2k2aFE4 => first | decide | (simp only [List.length_cons, List.length_nil]; omega)); (case x3k2aFE4 => first | assumption | decide +kernel); (case x4k2aFE4 => first | assumption | decide +kernel)); k_whole); intro a9 s9 ps9 K9 ht9 F9 N9 G9 ho9 hL9 hN9 X9; (try dsimp only at N9 ho9))))
        k_with "call builtin:str.find" => (((first | (refine find_no (by decide +kernel) (by omega) (by omega) (by omega) ?_) | (refine' find_yes ?hik3aFE4 ?hjk3aFE4 ?hlk3aFE4 ?hkk3aFE4 ?_; (case hkk3aFE4 => assumption); (case hik3aFE4 => omega); (case hjk3aFE4 => omega); (case hlk3aFE4 => omega)))))
        k_with "getMethod str" => (((with_reducible refine gm_translate ?_)))
        k_with "call builtin:str.translate" => ((((with_reducible rename Fr _ _ _ _ => lF'); (with_reducible rename News _ _ _ _ => lN'); k_dflt (refine' tr_K lF' lN' ?Xk5aFE4 ?ck5aFE4 ?hk5aFE4 ?_; (case Xk5aFE4 => k_asm); (case ck5aFE4 => assumption); (case hk5aFE4 => first | exact rfl | k_asm); k_whole); intro h' t' k' F' N')))
        k_with "call ref" => (first | (k_dflt ((refine' app_call ?Fk6aFE4 ?Nk6aFE4 ?Uk6aFE4 ?mk6aFE4 ?uk6aFE4 ?zk6aFE4 ?_; (case Fk6aFE4 => k_asm); (case Nk6aFE4 => k_asm); (case uk6aFE4 => k_mem); (case mk6aFE4 => k_mem); (case Uk6aFE4 => k_updF); (case zk6aFE4 => assumption); k_whole); intro h' cnt' F' N'; (try dsimp only at N'))) | ((k_here; k_dflt (refine wpAny_call ?_; (refine' code_def ?k1k6bFE4 ?k2k6bFE4 ?k3k6bFE4 ?k4k6bFE4 ?k5k6bFE4 ?kAk6bFE4 ?kFk6bFE4 ?kKk6bFE4 ?k6k6bFE4 ?k7k6bFE4 ?k8k6bFE4 ?k9k6bFE4 ?kBk6bFE4 ?_ ?c2k6bFE4 ?c3k6bFE4 ?c4k6bFE4 ?c5k6bFE4; (case kAk6bFE4 => exact rfl); (case kFk6bFE4 => exact rfl); (case kKk6bFE4 => first | exact rfl | assumption); (case k1k6bFE4 => k_asm); (case k2k6bFE4 => k_asm); (case k3k6bFE4 => k_asm); (case k4k6bFE4 => k_asm); (case k5k6bFE4 => k_asm); (case k6k6bFE4 => k_is); (case k7k6bFE4 => k_is); (case k8k6bFE4 => ktr_room); (case k9k6bFE4 => exact BindsTo.of_eq rfl); (case c5k6bFE4 => decide); (case kBk6bFE4 => exact locs rfl); (case c2k6bFE4 => exact rfl); (case c3k6bFE4 => exact rfl); (case c4k6bFE4 => exact rfl); k_whole; intro g' L' h' FG' F' N' B' X' T'; (try dsimp only); (try k_lift B'); (try k_fold))))))
        k_with "getAttr ref" => (((k_dflt (refine' app_made ?Fk7aFE4 ?Nk7aFE4 ?memk7aFE4 ?_; (case Fk7aFE4 => k_asm); (case Nk7aFE4 => k_asm); (case memk7aFE4 => k_mem); k_whole); intro u' h' tk' F' N' l9; (try dsimp only at N'); have n1 : @Ne Nat _ _ := l9 _ (List.mem_cons_self ..); have n2 : @Ne Nat _ _ := l9 _ (List.mem_cons_of_mem _ (List.mem_cons_self ..)); have n3 : @Ne Nat _ _ := l9 _ (List.mem_cons_of_mem _ (List.mem_cons_of_mem _ (List.mem_cons_self ..))); dsimp only at n1 n2 n3)))
        k_with "callWith ref" => ((k_dflt (refine' callWith_app ?Nk8aFE4 ?Mk8aFE4 ?_; (case Nk8aFE4 => k_asm); (case Mk8aFE4 => k_mem); k_whole)))
        k_with "And" => ((((with_reducible show AppAt _ _ _ ∧ _); k_dflt (refine ⟨News.get (by k_asm) (by k_mem), ?_⟩); (try dsimp only [List.nil_append, List.cons_append]))))
        k_with "WhlIf" => ((first | (refine WhlIf.yes rfl ?_) | (refine WhlIf.no rfl ?_) | (refine WhlIf.no (by first | assumption | (simp only [decide_eq_false_iff_not]; omega)) ?_) | (refine WhlIf.yes (by first | assumption | (simp only [decide_eq_true_eq]; omega)) ?_)))
        k_with "call builtin:len" => (((refine len_S (by omega) ?_)))
        k_with "eval Lambda" => (((k_dflt ((refine' kla_eval ?d0k12aFE4 ?_; (case d0k12aFE4 => exact rfl)); (refine' lam_any ?Fk12aFE4 ?Nk12aFE4 ?Tk12aFE4 ?Ck12aFE4 ?cdk12aFE4 ?Uk12aFE4 ?tk12aFE4 ?clk12aFE4 ?_; (case Fk12aFE4 => k_asm); (case Nk12aFE4 => k_asm); (case Tk12aFE4 => k_asm); (case cdk12aFE4 => exact rfl); (case Ck12aFE4 => kn_code); (case Uk12aFE4 => k_updF); (case tk12aFE4 => assumption); (case clk12aFE4 => exact rfl); k_whole)); intro f' d' dt' sl' h' tk' ps' ht' F' N' l1; (try dsimp only at N'); (try k_lt l1))))
        k_with "call builtin:re.Pattern.sub" => ((((with_reducible rename Fr _ _ _ _ => lF'); (with_reducible rename News _ _ _ _ => lN'); (refine' sub_K lF' lN' ?Xk13aFE4 ?mk13aFE4 ?lk13aFE4 ?_; (case Xk13aFE4 => k_asm); (case mk13aFE4 => k_mem); (case lk13aFE4 => assumption)); intro h' t' k' F' N')))
        k_with "getMethod ref" => ((((with_reducible show wpAny _ _ (getMethod (Value.ref 43) _ _) _ _ _); k_dflt (refine' pat_sub ?Fk14aFE4 ?Xk14aFE4 ?_; (case Fk14aFE4 => k_asm); (case Xk14aFE4 => k_asm)))))
        k_with "truthy str" => (((refine' truthy_S ?nk15aFE4 ?hk15aFE4 ?_; (case nk15aFE4 => first | (simp only [List.length_cons, List.length_nil]; omega) | omega); (case hk15aFE4 => exact (Eq.refl true)))))
        k_with "formatField" => (((refine' fmt_S ?nk16aFE4 ?_; (case nk16aFE4 => first | (simp only [List.length_cons, List.length_nil]; omega) | omega); intro t' tk')))
        k_with "ite" => ((k_dflt (first
  | (refine' PySem.W.ite_pos ?cck17aFE4 ?_; (case cck17aFE4 => first | rfl | (simp only [beq_iff_eq, decide_eq_true_eq, bne_iff_ne, ne_eq]; omega)))
  | (refine' PySem.W.ite_neg ?cck17aFE4 ?_; (case cck17aFE4 => first | exact Bool.false_ne_true | exact Bool.eq_false_iff.mp (by assumption) | (simp only [beq_iff_eq, decide_eq_true_eq, bne_iff_ne, ne_eq]; omega))))))
        k_with "subscriptTail Name Slice str ref" => ((((with_reducible rename Fr _ _ _ _ => lF'); (with_reducible rename News _ _ _ _ => lN'); (refine' slice_S (s := ⟨_, _, _, _, _⟩) lF' lN' ?nk18aFE4 ?ek18aFE4 ?_; (case ek18aFE4 => assumption); (case nk18aFE4 => omega)); intro h' t' k' F' N')))
        k_with "call builtin:str.replace" => (((refine' repl_none ?ak19aFE4 ?_; (case ak19aFE4 => assumption))))
        k_with "compareOp Eq str str" => (((refine' cmp_eq ?hk20aFE4 ?_; (case hk20aFE4 => first | assumption | exact (by decide +kernel : _ = true) | exact (by decide +kernel : _ = false)))))
        k_with "compareOp NotEq str str" => (((refine' cmp_ne ?hk21aFE4 ?_; (case hk21aFE4 => first | assumption | exact (by decide +kernel : _ = true) | exact (by decide +kernel : _ = false)))))
        k_with "execs cons" => ((k_dflt ((first | k_gentoks | ((with_reducible refine wpAny_execs_cons ?_); (try dsimp only); (try k_fold))))))
        k_with "subscriptTail Name Name str int" => (refine item_at (k := done.length + 1 + bd.length) (by omega) i9 (by omega) ?_)
        k_with "compareOp NotIn str str" => (refine Halt.mk ?_)
        k_steps
        unfold Halt
        cases hbk with
        | plain p hp =>
          obtain ⟨c3, c5, c4, c6, c2, c1, c7⟩ := pl1 p hp
          simp only [List.length_cons] at d3
          k_with_none
          k_with "inplaceOp Add str str" => (((refine' iadd_S ?ek0aFE4 ?nk0aFE4 ?_; (case ek0aFE4 => assumption); (case nk0aFE4 => (simp only [List.length_cons, List.length_nil]; omega)); intro t' k')))
          k_with "call builtin:str.join" => (((k_dflt (refine' join_S ?Fk1aFE4 ?Nk1aFE4 ?Gk1aFE4 ?Xk1aFE4 ?Lk1aFE4 ?Kk1aFE4 ?zk1aFE4 ?_; (case Xk1aFE4 => assumption); (case Fk1aFE4 => k_asm); (case Nk1aFE4 => k_asm); (case Gk1aFE4 => assumption); (case Lk1aFE4 => assumption); (case Kk1aFE4 => assumption); (case zk1aFE4 => first | assumption | decide +kernel); k_whole); intro s8 t8 F8 N8 G8 ho8; (try dsimp only at N8 ho8))))
          k_with "eval GeneratorExp" => (((k_dflt (refine' gen_any ?Fk2aFE4 ?Nk2aFE4 ?Tk2aFE4 ?Ck2aFE4 ?hck2aFE4 ?hgk2aFE4 ?Uk2aFE4 ?memk2aFE4 ?tk2aFE4 ?hDk2aFE4 ?hDPk2aFE4 ?Gk2aFE4 ?hhk2aFE4 ?hcok2aFE4 ?hclk2aFE4 ?hcellk2aFE4 ?h0k2aFE4 ?hxk2aFE4 ?hkindk2aFE4 ?hroomk2aFE4 ?hitk2aFE4 ?hsk2aFE4 ?helk2aFE4 ?_; (case Fk2aFE4 => k_asm); (case Nk2aFE4 => k_asm); (case Tk2aFE4 => k_asm); (case hck2aFE4 => exact rfl); (case hgk2aFE4 => exact rfl); (case Ck2aFE4 => kn_code); (case Uk2aFE4 => k_updF); (case memk2aFE4 => k_mem); (case tk2aFE4 => assumption); (case hitk2aFE4 => (intro R hR; refine' ld ?fk2aFE4 ?vk2aFE4 hR; (case fk2aFE4 => k_asm); (case vk2aFE4 => exact rfl))); (case hDk2aFE4 => k_dflt k_mem); (case hDPk2aFE4 => k_ne); (case Gk2aFE4 => assumption); (case hhk2aFE4 => first | exact rfl | k_asm); (case hcok2aFE4 => exact rfl); (case hclk2aFE4 => exact rfl); (case hcellk2aFE4 => decide); (case h0k2aFE4 => exact rfl); (case hxk2aFE4 => exact rfl); (case hkindk2aFE4 => exact rfl); (case hroomk2aFE4 => ktr_room); (case hsk2aFE4 => (intro x9; exact rfl)); (case helk2aFE4 => intro C9 code9 A9 E9 u9 s9 m9 hA9 hn9 hm9; refine' elt_repl ?x1k2aFE4 ?x2k2aFE4 ?x3k2aFE4 ?x4k2aFE4 ?x5k2aFE4 ?x6k2aFE4; (case x5k2aFE4 => exact rfl); (case x6k2aFE4 => exact rfl); (case x1k2aFE4 => intro Q9 h9; exact wpAny_Name (wpAny_loadName_local rfl rfl hn9 hm9 h9) (by decide)); (case x2k2aFE4 => first | decide | (simp only [List.length_cons, List.length_nil]; omega)); (case x3k2aFE4 => first | assumption | decide +kernel); (case x4k2aFE4 => first | assumption | decide +kernel)); k_whole); intro a9 s9 ps9 K9 ht9 F9 N9 G9 ho9 hL9 hN9 X9; (try dsimp only at N9 ho9))))
          k_with "call builtin:str.find" => (((first | (refine find_no (by decide +kernel) (by omega) (by omega) (by omega) ?_) | (refine' find_yes ?hik3aFE4 ?hjk3aFE4 ?hlk3aFE4 ?hkk3aFE4 ?_; (case hkk3aFE4 => assumption); (case hik3aFE4 => omega); (case hjk3aFE4 => omega); (case hlk3aFE4 => omega)))))
          k_with "getMethod str" => (((with_reducible refine gm_translate ?_)))
          k_with "call builtin:str.translate" => ((((with_reducible rename Fr _ _ _ _ => lF'); (with_reducible rename News _ _ _ _ => lN'); k_dflt (refine' tr_K lF' lN' ?Xk5aFE4 ?ck5aFE4 ?hk5aFE4 ?_; (case Xk5aFE4 => k_asm); (case ck5aFE4 => assumption); (case hk5aFE4 => first | exact rfl | k_asm); k_whole); intro h' t' k' F' N')))
          k_with "call ref" => (first | (k_dflt ((refine' app_call ?Fk6aFE4 ?Nk6aFE4 ?Uk6aFE4 ?mk6aFE4 ?uk6aFE4 ?zk6aFE4 ?_; (case Fk6aFE4 => k_asm); (case Nk6aFE4 => k_asm); (case uk6aFE4 => k_mem); (case mk6aFE4 => k_mem); (case Uk6aFE4 => k_updF); (case zk6aFE4 => assumption); k_whole); intro h' cnt' F' N'; (try dsimp only at N'))) | ((k_here; k_dflt (refine wpAny_call ?_; (refine' code_def ?k1k6bFE4 ?k2k6bFE4 ?k3k6bFE4 ?k4k6bFE4 ?k5k6bFE4 ?kAk6bFE4 ?kFk6bFE4 ?kKk6bFE4 ?k6k6bFE4 ?k7k6bFE4 ?k8k6bFE4 ?k9k6bFE4 ?kBk6bFE4 ?_ ?c2k6bFE4 ?c3k6bFE4 ?c4k6bFE4 ?c5k6bFE4; (case kAk6bFE4 => exact rfl); (case kFk6bFE4 => exact rfl); (case kKk6bFE4 => first | exact rfl | assumption); (case k1k6bFE4 => k_asm); (case k2k6bFE4 => k_asm); (case k3k6bFE4 => k_asm); (case k4k6bFE4 => k_asm); (case k5k6bFE4 => k_asm); (case k6k6bFE4 => k_is); (case k7k6bFE4 => k_is); (case k8k6bFE4 => ktr_room); (case k9k6bFE4 => exact BindsTo.of_eq rfl); (case c5k6bFE4 => decide); (case kBk6bFE4 => exact locs rfl); (case c2k6bFE4 => exact rfl); (case c3k6bFE4 => exact rfl); (case c4k6bFE4 => exact rfl); k_whole; intro g' L' h' FG' F' N' B' X' T'; (try dsimp only); (try k_lift B'); (try k_fold))))))
          k_with "getAttr ref" => (((k_dflt (refine' app_made ?Fk7aFE4 ?Nk7aFE4 ?memk7aFE4 ?_; (case Fk7aFE4 => k_asm); (case Nk7aFE4 => k_asm); (case memk7aFE4 => k_mem); k_whole); intro u' h' tk' F' N' l9; (try dsimp only at N'); have n1 : @Ne Nat _ _ := l9 _ (List.mem_cons_self ..); have n2 : @Ne Nat _ _ := l9 _ (List.mem_cons_of_mem _ (List.mem_cons_self ..)); have n3 : @Ne Nat _ _ := l9 _ (List.mem_cons_of_mem _ (List.mem_cons_of_mem _ (List.mem_cons_self ..))); dsimp only at n1 n2 n3)))
          k_with "callWith ref" => ((k_dflt (refine' callWith_app ?Nk8aFE4 ?Mk8aFE4 ?_; (case Nk8aFE4 => k_asm); (case Mk8aFE4 => k_mem); k_whole)))
          k_with "And" => ((((with_reducible show AppAt _ _ _ ∧ _); k_dflt (refine ⟨News.get (by k_asm) (by k_mem), ?_⟩); (try dsimp only [List.nil_append, List.cons_append]))))
          k_with "WhlIf" => ((first | (refine WhlIf.yes rfl ?_) | (refine WhlIf.no rfl ?_) | (refine WhlIf.no (by first | assumption | (simp only [decide_eq_false_iff_not]; omega)) ?_) | (refine WhlIf.yes (by first | assumption | (simp only [decide_eq_true_eq]; omega)) ?_)))
          k_with "call builtin:len" => (((refine len_S (by omega) ?_)))
          k_with "eval Lambda" => (((k_dflt ((refine' kla_eval ?d0k12aFE4 ?_; (case d0k12aFE4 => exact rfl)); (refine' lam_any ?Fk12aFE4 ?Nk12aFE4 ?Tk12aFE4 ?Ck12aFE4 ?cdk12aFE4 ?Uk12aFE4 ?tk12aFE4 ?clk12aFE4 ?_; (case Fk12aFE4 => k_asm); (case Nk12aFE4 => k_asm); (case Tk12aFE4 => k_asm); (case cdk12aFE4 => exact rfl); (case Ck12aFE4 => kn_code); (case Uk12aFE4 => k_updF); (case tk12aFE4 => assumption); (case clk12aFE4 => exact rfl); k_whole)); intro f' d' dt' sl' h' tk' ps' ht' F' N' l1; (try dsimp only at N'); (try k_lt l1))))
          k_with "call builtin:re.Pattern.sub" => ((((with_reducible rename Fr _ _ _ _ => lF'); (with_reducible rename News _ _ _ _ => lN'); (refine' sub_K lF' lN' ?Xk13aFE4 ?mk13aFE4 ?lk13aFE4 ?_; (case Xk13aFE4 => k_asm); (case mk13aFE4 => k_mem); (case lk13aFE4 => assumption)); intro h' t' k' F' N')))
          k_with "getMethod ref" => ((((with_reducible show wpAny _ _ (getMethod (Value.ref 43) _ _) _ _ _); k_dflt (refine' pat_sub ?Fk14aFE4 ?Xk14aFE4 ?_; (case Fk14aFE4 => k_asm); (case Xk14aFE4 => k_asm)))))
          k_with "truthy str" => (((refine' truthy_S ?nk15aFE4 ?hk15aFE4 ?_; (case nk15aFE4 => first | (simp only [List.length_cons, List.length_nil]; omega) | omega); (case hk15aFE4 => exact (Eq.refl true)))))
          k_with "formatField" => (((refine' fmt_S ?nk16aFE4 ?_; (case nk16aFE4 => first | (simp only [List.length_cons, List.length_nil]; omega) | omega); intro t' tk')))
          k_with "ite" => ((k_dflt (first
  | (refine' PySem.W.ite_pos ?cck17aFE4 ?_; (case cck17aFE4 => first | rfl | (simp only [beq_iff_eq, decide_eq_true_eq, bne_iff_ne, ne_eq]; omega)))
  | (refine' PySem.W.ite_neg ?cck17aFE4 ?_; (case cck17aFE4 => first | exact Bool.false_ne_true | exact Bool.eq_false_iff.mp (by assumption) | (simp only [beq_iff_eq, decide_eq_true_eq, bne_iff_ne, ne_eq]; omega))))))
          k_with "subscriptTail Name Slice str ref" => ((((with_reducible rename Fr _ _ _ _ => lF'); (with_reducible rename News _ _ _ _ => lN'); (refine' slice_S (s := ⟨_, _, _, _, _⟩) lF' lN' ?nk18aFE4 ?ek18aFE4 ?_; (case ek18aFE4 => assumption); (case nk18aFE4 => omega)); intro h' t' k' F' N')))
          k_with "call builtin:str.replace" => (((refine' repl_none ?ak19aFE4 ?_; (case ak19aFE4 => assumption))))
          k_with "compareOp Eq str str" => (((refine' cmp_eq ?hk20aFE4 ?_; (case hk20aFE4 => first | assumption | exact (by decide +kernel : _ = true) | exact (by decide +kernel : _ = false)))))
          k_with "compareOp NotEq str str" => (((refine' cmp_ne ?hk21aFE4 ?_; (case hk21aFE4 => first | assumption | exact (by decide +kernel : _ = true) | exact (by decide +kernel : _ = false)))))
          k_with "execs cons" => ((k_dflt ((first | k_gentoks | ((with_reducible refine wpAny_execs_cons ?_); (try dsimp only); (try k_fold))))))
          k_with "exec While" => (refine whl_start 100 ?_)
          k_with "last exec While" => (refine whl_start 100 ?_)
          k_with "execs cons" => ((k_dflt ((first | (refine haltSuf rfl ?_) | k_gentoks | ((with_reducible refine wpAny_execs_cons ?_); (try dsimp only); (try k_fold))))))
          k_with "compareOp NotIn str str" => (refine' notin_S ?hniFE4 ?_; (case hniFE4 => first | assumption | exact (by decide +kernel : _ = true) | exact (by decide +kernel : _ = false)))
          k_steps
          unfold Halt
          rename Fr _ _ _ _ => lF
          rename News _ _ _ _ => lN
          refine' suf_step (d := p.1) (tl := p.2) (xj := xj) (tp := tp) (tq := tq) (tn := tn) (P := P) (vs := vs) rfl rfl (by k_asm) lF (by k_asm) (by k_asm) (News.perm lN ?spmFE4) hk C h64 hstar (by assumption) (by assumption) rfl (by assumption) (by assumption) (by assumption) hal0 hal hdp hu ?b0FE4 ?bjFE4 ?b1FE4 ?b2FE4 ?b3FE4 ?b4FE4 ?b5FE4 ?b7FE4 c5 ?htlFE4 c1 c2 c6 (by omega) e6' ?sretFE4
          case spmFE4 => intro _ hp; exact hp
          case htlFE4 => first | assumption | exact Nat.le_of_ble_eq_true rfl
          case b0FE4 => with_unfolding_all rfl
          case bjFE4 => with_unfolding_all rfl
          case b1FE4 => with_unfolding_all rfl
          case b2FE4 => with_unfolding_all rfl
          case b3FE4 => with_unfolding_all rfl
          case b4FE4 => with_unfolding_all rfl
          case b5FE4 => with_unfolding_all rfl
          case b7FE4 => with_unfolding_all rfl
          case sretFE4 =>
            clear lF lN
            intro m9 to9 ti9 cnt9 ps9 s9 lF lN ht9 G9 ho9
            k_with_none
            k_with "inplaceOp Add str str" => (((refine' iadd_S ?ek0aFE4 ?nk0aFE4 ?_; (case ek0aFE4 => assumption); (case nk0aFE4 => (simp only [List.length_cons, List.length_nil]; omega)); intro t' k')))
            k_with "call builtin:str.join" => (((k_dflt (refine' join_S ?Fk1aFE4 ?Nk1aFE4 ?Gk1aFE4 ?Xk1aFE4 ?Lk1aFE4 ?Kk1aFE4 ?zk1aFE4 ?_; (case Xk1aFE4 => assumption); (case Fk1aFE4 => k_asm); (case Nk1aFE4 => k_asm); (case Gk1aFE4 => assumption); (case Lk1aFE4 => assumption); (case Kk1aFE4 => assumption); (case zk1aFE4 => first | assumption | decide +kernel); k_whole); intro s8 t8 F8 N8 G8 ho8; (try dsimp only at N8 ho8))))
            k_with "eval GeneratorExp" => (((k_dflt (refine' gen_any ?Fk2aFE4 ?Nk2aFE4 ?Tk2aFE4 ?Ck2aFE4 ?hck2aFE4 ?hgk2aFE4 ?Uk2aFE4 ?memk2aFE4 ?tk2aFE4 ?hDk2aFE4 ?hDPk2aFE4 ?Gk2aFE4 ?hhk2aFE4 ?hcok2aFE4 ?hclk2aFE4 ?hcellk2aFE4 ?h0k2aFE4 ?hxk2aFE4 ?hkindk2aFE4 ?hroomk2aFE4 ?hitk2aFE4 ?hsk2aFE4 ?helk2aFE4 ?_; (case Fk2aFE4 => k_asm); (case Nk2aFE4 => k_asm); (case Tk2aFE4 => k_asm); (case hck2aFE4 => exact rfl); (case hgk2aFE4 => exact rfl); (case Ck2aFE4 => kn_code); (case Uk2aFE4 => k_updF); (case memk2aFE4 => k_mem); (case tk2aFE4 => assumption); (case hitk2aFE4 => (intro R hR; refine' ld ?fk2aFE4 ?vk2aFE4 hR; (case fk2aFE4 => k_asm); (case vk2aFE4 => exact rfl))); (case hDk2aFE4 => k_dflt k_mem); (case hDPk2aFE4 => k_ne); (case Gk2aFE4 => assumption); (case hhk2aFE4 => first | exact rfl | k_asm); (case hcok2aFE4 => exact rfl); (case hclk2aFE4 => exact rfl); (case hcellk2aFE4 => decide); (case h0k2aFE4 => exact rfl); (case hxk2aFE4 => exact rfl); (case hkindk2aFE4 => exact rfl); (case hroomk2aFE4 => ktr_room); (case hsk2aFE4 => (intro x9; exact rfl)); (case helk2aFE4 => intro C9 code9 A9 E9 u9 s9 m9 hA9 hn9 hm9; refine' elt_repl ?x1k2aFE4 ?x2k2aFE4 ?x3k2aFE4 ?x4k2aFE4 ?x5k2aFE4 ?x6k2aFE4; (case x5k2aFE4 => exact rfl); (case x6k2aFE4 => exact rfl); (case x1k2aFE4 => intro Q9 h9; exact wpAny_Name (wpAny_loadName_local rfl rfl hn9 hm9 h9) (by decide)); (case x2k2aFE4 => first | decide | (simp only [List.length_cons, List.length_nil]; omega)); (case x3k2aFE4 => first | assumption | decide +kernel); (case x4k2aFE4 => first | assumption | decide +kernel)); k_whole); intro a9 s9 ps9 K9 ht9 F9 N9 G9 ho9 hL9 hN9 X9; (try dsimp only at N9 ho9))))
            k_with "call builtin:str.find" => (((first | (refine find_no (by decide +kernel) (by omega) (by omega) (by omega) ?_) | (refine' find_yes ?hik3aFE4 ?hjk3aFE4 ?hlk3aFE4 ?hkk3aFE4 ?_; (case hkk3aFE4 => assumption); (case hik3aFE4 => omega); (case hjk3aFE4 => omega); (case hlk3aFE4 => omega)))))
            k_with "getMethod str" => (((with_reducible refine gm_translate ?_)))
            k_with "call builtin:str.translate" => ((((with_reducible rename Fr _ _ _ _ => lF'); (with_reducible rename News _ _ _ _ => lN'); k_dflt (refine' tr_K lF' lN' ?Xk5aFE4 ?ck5aFE4 ?hk5aFE4 ?_; (case Xk5aFE4 => k_asm); (case ck5aFE4 => assumption); (case hk5aFE4 => first | exact rfl | k_asm); k_whole); intro h' t' k' F' N')))
            k_with "call ref" => (first | (k_dflt ((refine' app_call ?Fk6aFE4 ?Nk6aFE4 ?Uk6aFE4 ?mk6aFE4 ?uk6aFE4 ?zk6aFE4 ?_; (case Fk6aFE4 => k_asm); (case Nk6aFE4 => k_asm); (case uk6aFE4 => k_mem); (case mk6aFE4 => k_mem); (case Uk6aFE4 => k_updF); (case zk6aFE4 => assumption); k_whole); intro h' cnt' F' N'; (try dsimp only at N'))) | ((k_here; k_dflt (refine wpAny_call ?_; (refine' code_def ?k1k6bFE4 ?k2k6bFE4 ?k3k6bFE4 ?k4k6bFE4 ?k5k6bFE4 ?kAk6bFE4 ?kFk6bFE4 ?kKk6bFE4 ?k6k6bFE4 ?k7k6bFE4 ?k8k6bFE4 ?k9k6bFE4 ?kBk6bFE4 ?_ ?c2k6bFE4 ?c3k6bFE4 ?c4k6bFE4 ?c5k6bFE4; (case kAk6bFE4 => exact rfl); (case kFk6bFE4 => exact rfl); (case kKk6bFE4 => first | exact rfl | assumption); (case k1k6bFE4 => k_asm); (case k2k6bFE4 => k_asm); (case k3k6bFE4 => k_asm); (case k4k6bFE4 => k_asm); (case k5k6bFE4 => k_asm); (case k6k6bFE4 => k_is); (case k7k6bFE4 => k_is); (case k8k6bFE4 => ktr_room); (case k9k6bFE4 => exact BindsTo.of_eq rfl); (case c5k6bFE4 => decide); (case kBk6bFE4 => exact locs rfl); (case c2k6bFE4 => exact rfl); (case c3k6bFE4 => exact rfl); (case c4k6bFE4 => exact rfl); k_whole; intro g' L' h' FG' F' N' B' X' T'; (try dsimp only); (try k_lift B'); (try k_fold))))))
            k_with "getAttr ref" => (((k_dflt (refine' app_made ?Fk7aFE4 ?Nk7aFE4 ?memk7aFE4 ?_; (case Fk7aFE4 => k_asm); (case Nk7aFE4 => k_asm); (case memk7aFE4 => k_mem); k_whole); intro u' h' tk' F' N' l9; (try dsimp only at N'); have n1 : @Ne Nat _ _ := l9 _ (List.mem_cons_self ..); have n2 : @Ne Nat _ _ := l9 _ (List.mem_cons_of_mem _ (List.mem_cons_self ..)); have n3 : @Ne Nat _ _ := l9 _ (List.mem_cons_of_mem _ (List.mem_cons_of_mem _ (List.mem_cons_self ..))); dsimp only at n1 n2 n3)))
            k_with "callWith ref" => ((k_dflt (refine' callWith_app ?Nk8aFE4 ?Mk8aFE4 ?_; (case Nk8aFE4 => k_asm); (case Mk8aFE4 => k_mem); k_whole)))
            k_with "And" => ((((with_reducible show AppAt _ _ _ ∧ _); k_dflt (refine ⟨News.get (by k_asm) (by k_mem), ?_⟩); (try dsimp only [List.nil_append, List.cons_append]))))
            k_with "WhlIf" => ((first | (refine WhlIf.yes rfl ?_) | (refine WhlIf.no rfl ?_) | (refine WhlIf.no (by first | assumption | (simp only [decide_eq_false_iff_not]; omega)) ?_) | (refine WhlIf.yes (by first | assumption | (simp only [decide_eq_true_eq]; omega)) ?_)))
            k_with "call builtin:len" => (((refine len_S (by omega) ?_)))
            k_with "eval Lambda" => (((k_dflt ((refine' kla_eval ?d0k12aFE4 ?_; (case d0k12aFE4 => exact rfl)); (refine' lam_any ?Fk12aFE4 ?Nk12aFE4 ?Tk12aFE4 ?Ck12aFE4 ?cdk12aFE4 ?Uk12aFE4 ?tk12aFE4 ?clk12aFE4 ?_; (case Fk12aFE4 => k_asm); (case Nk12aFE4 => k_asm); (case Tk12aFE4 => k_asm); (case cdk12aFE4 => exact rfl); (case Ck12aFE4 => kn_code); (case Uk12aFE4 => k_updF); (case tk12aFE4 => assumption); (case clk12aFE4 => exact rfl); k_whole)); intro f' d' dt' sl' h' tk' ps' ht' F' N' l1; (try dsimp only at N'); (try k_lt l1))))
            k_with "call builtin:re.Pattern.sub" => ((((with_reducible rename Fr _ _ _ _ => lF'); (with_reducible rename News _ _ _ _ => lN'); (refine' sub_K lF' lN' ?Xk13aFE4 ?mk13aFE4 ?lk13aFE4 ?_; (case Xk13aFE4 => k_asm); (case mk13aFE4 => k_mem); (case lk13aFE4 => assumption)); intro h' t' k' F' N')))
            k_with "getMethod ref" => ((((with_reducible show wpAny _ _ (getMethod (Value.ref 43) _ _) _ _ _); k_dflt (refine' pat_sub ?Fk14aFE4 ?Xk14aFE4 ?_; (case Fk14aFE4 => k_asm); (case Xk14aFE4 => k_asm)))))
            k_with "truthy str" => (((refine' truthy_S ?nk15aFE4 ?hk15aFE4 ?_; (case nk15aFE4 => first | (simp only [List.length_cons, List.length_nil]; omega) | omega); (case hk15aFE4 => exact (Eq.refl true)))))
            k_with "formatField" => (((refine' fmt_S ?nk16aFE4 ?_; (case nk16aFE4 => first | (simp only [List.length_cons, List.length_nil]; omega) | omega); intro t' tk')))
            k_with "ite" => ((k_dflt (first
  | (refine' PySem.W.ite_pos ?cck17aFE4 ?_; (case cck17aFE4 => first | rfl | (simp only [beq_iff_eq, decide_eq_true_eq, bne_iff_ne, ne_eq]; omega)))
  | (refine' PySem.W.ite_neg ?cck17aFE4 ?_; (case cck17aFE4 => first | exact Bool.false_ne_true | exact Bool.eq_false_iff.mp (by assumption) | (simp only [beq_iff_eq, decide_eq_true_eq, bne_iff_ne, ne_eq]; omega))))))
            k_with "subscriptTail Name Slice str ref" => ((((with_reducible rename Fr _ _ _ _ => lF'); (with_reducible rename News _ _ _ _ => lN'); (refine' slice_S (s := ⟨_, _, _, _, _⟩) lF' lN' ?nk18aFE4 ?ek18aFE4 ?_; (case ek18aFE4 => assumption); (case nk18aFE4 => omega)); intro h' t' k' F' N')))
            k_with "call builtin:str.replace" => (((refine' repl_none ?ak19aFE4 ?_; (case ak19aFE4 => assumption))))
            k_with "compareOp Eq str str" => (((refine' cmp_eq ?hk20aFE4 ?_; (case hk20aFE4 => first | assumption | exact (by decide +kernel : _ = true) | exact (by decide +kernel : _ = false)))))
            k_with "compareOp NotEq str str" => (((refine' cmp_ne ?hk21aFE4 ?_; (case hk21aFE4 => first | assumption | exact (by decide +kernel : _ = true) | exact (by decide +kernel : _ = false)))))
            k_with "execs cons" => ((k_dflt ((first | k_gentoks | ((with_reducible refine wpAny_execs_cons ?_); (try dsimp only); (try k_fold))))))
            k_steps
            refine' JT_end (tok := 91 :: (p.1 :: p.2 ++ [93])) (o := 91 :: (p.1 :: p.2 ++ [93])) e1' e2 r e4 e5 (by omega) ht9 G9 ?hosFE4 ?hxFE4 lN lF ?a1FE4 ?a2FE4 ?a3FE4 ?a4FE4 ?a5FE4 ?a6FE4 ?a7FE4
            case hosFE4 => first | exact ho9.trans e9 | (rw [ho9]; simp only [*]) | simp only [*]
            case a1FE4 => with_unfolding_all rfl
            case a2FE4 => with_unfolding_all rfl
            case a3FE4 => with_unfolding_all rfl
            case a4FE4 => with_unfolding_all rfl
            case a5FE4 => with_unfolding_all rfl
            case a6FE4 => with_unfolding_all rfl
            case a7FE4 => with_unfolding_all rfl
            case hxFE4 => simp only [List.length_cons, List.length_append, List.length_nil]; omega
        | dash =>
          obtain rfl : xj = x + 1 + 1 := by simp only [List.length_cons, List.length_nil] at d3; omega
          have c3 : decide (45 ∈ [45]) = true := by decide
          have cz : Txt.replace (S [45]) (Str.ofString "-") (Str.ofString "\\-") = S [92, 45] := by decide +kernel
          have c5 : [92, 45] ∈ stuffs := by decide
          have c6 : ([Str.ofString "^", Str.ofString "["].any fun x => x == S [92]) = false := by decide +kernel
          obtain ⟨rfl, rfl⟩ : d = 45 ∧ tl = [] := by simpa [eq_comm] using hbd
          simp only [List.length_cons, List.length_nil] at hPn
          k_with_none
          k_with "inplaceOp Add str str" => (((refine' iadd_S ?ek0aFE4 ?nk0aFE4 ?_; (case ek0aFE4 => assumption); (case nk0aFE4 => (simp only [List.length_cons, List.length_nil]; omega)); intro t' k')))
          k_with "call builtin:str.join" => (((k_dflt (refine' join_S ?Fk1aFE4 ?Nk1aFE4 ?Gk1aFE4 ?Xk1aFE4 ?Lk1aFE4 ?Kk1aFE4 ?zk1aFE4 ?_; (case Xk1aFE4 => assumption); (case Fk1aFE4 => k_asm); (case Nk1aFE4 => k_asm); (case Gk1aFE4 => assumption); (case Lk1aFE4 => assumption); (case Kk1aFE4 => assumption); (case zk1aFE4 => first | assumption | decide +kernel); k_whole); intro s8 t8 F8 N8 G8 ho8; (try dsimp only at N8 ho8))))
          k_with "eval GeneratorExp" => (((k_dflt (refine' gen_any ?Fk2aFE4 ?Nk2aFE4 ?Tk2aFE4 ?Ck2aFE4 ?hck2aFE4 ?hgk2aFE4 ?Uk2aFE4 ?memk2aFE4 ?tk2aFE4 ?hDk2aFE4 ?hDPk2aFE4 ?Gk2aFE4 ?hhk2aFE4 ?hcok2aFE4 ?hclk2aFE4 ?hcellk2aFE4 ?h0k2aFE4 ?hxk2aFE4 ?hkindk2aFE4 ?hroomk2aFE4 ?hitk2aFE4 ?hsk2aFE4 ?helk2aFE4 ?_; (case Fk2aFE4 => k_asm); (case Nk2aFE4 => k_asm); (case Tk2aFE4 => k_asm); (case hck2aFE4 => exact rfl); (case hgk2aFE4 => exact rfl); (case Ck2aFE4 => kn_code); (case Uk2aFE4 => k_updF); (case memk2aFE4 => k_mem); (case tk2aFE4 => assumption); (case hitk2aFE4 => (intro R hR; refine' ld ?fk2aFE4 ?vk2aFE4 hR; (case fk2aFE4 => k_asm); (case vk2aFE4 => exact rfl))); (case hDk2aFE4 => k_dflt k_mem); (case hDPk2aFE4 => k_ne); (case Gk2aFE4 => assumption); (case hhk2aFE4 => first | exact rfl | k_asm); (case hcok2aFE4 => exact rfl); (case hclk2aFE4 => exact rfl); (case hcellk2aFE4 => decide); (case h0k2aFE4 => exact rfl); (case hxk2aFE4 => exact rfl); (case hkindk2aFE4 => exact rfl); (case hroomk2aFE4 => ktr_room); (case hsk2aFE4 => (intro x9; exact rfl)); (case helk2aFE4 => intro C9 code9 A9 E9 u9 s9 m9 hA9 hn9 hm9; refine' elt_repl ?x1k2aFE4 ?x2k2aFE4 ?x3k2aFE4 ?x4k2aFE4 ?x5k2aFE4 ?x6k2aFE4; (case x5k2aFE4 => exact rfl); (case x6k2aFE4 => exact rfl); (case x1k2aFE4 => intro Q9 h9; exact wpAny_Name (wpAny_loadName_local rfl rfl hn9 hm9 h9) (by decide)); (case x2k2aFE4 => first | decide | (simp only [List.length_cons, List.length_nil]; omega)); (case x3k2aFE4 => first | assumption | decide +kernel); (case x4k2aFE4 => first | assumption | decide +kernel)); k_whole); intro a9 s9 ps9 K9 ht9 F9 N9 G9 ho9 hL9 hN9 X9; (try dsimp only at N9 ho9))))
          k_with "call builtin:str.find" => (((first | (refine find_no (by decide +kernel) (by omega) (by omega) (by omega) ?_) | (refine' find_yes ?hik3aFE4 ?hjk3aFE4 ?hlk3aFE4 ?hkk3aFE4 ?_; (case hkk3aFE4 => assumption); (case hik3aFE4 => omega); (case hjk3aFE4 => omega); (case hlk3aFE4 => omega)))))
          k_with "getMethod str" => (((with_reducible refine gm_translate ?_)))
          k_with "call builtin:str.translate" => ((((with_reducible rename Fr _ _ _ _ => lF'); (with_reducible rename News _ _ _ _ => lN'); k_dflt (refine' tr_K lF' lN' ?Xk5aFE4 ?ck5aFE4 ?hk5aFE4 ?_; (case Xk5aFE4 => k_asm); (case ck5aFE4 => assumption); (case hk5aFE4 => first | exact rfl | k_asm); k_whole); intro h' t' k' F' N')))
          k_with "call ref" => (first | (k_dflt ((refine' app_call ?Fk6aFE4 ?Nk6aFE4 ?Uk6aFE4 ?mk6aFE4 ?uk6aFE4 ?zk6aFE4 ?_; (case Fk6aFE4 => k_asm); (case Nk6aFE4 => k_asm); (case uk6aFE4 => k_mem); (case mk6aFE4 => k_mem); (case Uk6aFE4 => k_updF); (case zk6aFE4 => assumption); k_whole); intro h' cnt' F' N'; (try dsimp only at N'))) | ((k_here; k_dflt (refine wpAny_call ?_; (refine' code_def ?k1k6bFE4 ?k2k6bFE4 ?k3k6bFE4 ?k4k6bFE4 ?k5k6bFE4 ?kAk6bFE4 ?kFk6bFE4 ?kKk6bFE4 ?k6k6bFE4 ?k7k6bFE4 ?k8k6bFE4 ?k9k6bFE4 ?kBk6bFE4 ?_ ?c2k6bFE4 ?c3k6bFE4 ?c4k6bFE4 ?c5k6bFE4; (case kAk6bFE4 => exact rfl); (case kFk6bFE4 => exact rfl); (case kKk6bFE4 => first | exact rfl | assumption); (case k1k6bFE4 => k_asm); (case k2k6bFE4 => k_asm); (case k3k6bFE4 => k_asm); (case k4k6bFE4 => k_asm); (case k5k6bFE4 => k_asm); (case k6k6bFE4 => k_is); (case k7k6bFE4 => k_is); (case k8k6bFE4 => ktr_room); (case k9k6bFE4 => exact BindsTo.of_eq rfl); (case c5k6bFE4 => decide); (case kBk6bFE4 => exact locs rfl); (case c2k6bFE4 => exact rfl); (case c3k6bFE4 => exact rfl); (case c4k6bFE4 => exact rfl); k_whole; intro g' L' h' FG' F' N' B' X' T'; (try dsimp only); (try k_lift B'); (try k_fold))))))
          k_with "getAttr ref" => (((k_dflt (refine' app_made ?Fk7aFE4 ?Nk7aFE4 ?memk7aFE4 ?_; (case Fk7aFE4 => k_asm); (case Nk7aFE4 => k_asm); (case memk7aFE4 => k_mem); k_whole); intro u' h' tk' F' N' l9; (try dsimp only at N'); have n1 : @Ne Nat _ _ := l9 _ (List.mem_cons_self ..); have n2 : @Ne Nat _ _ := l9 _ (List.mem_cons_of_mem _ (List.mem_cons_self ..)); have n3 : @Ne Nat _ _ := l9 _ (List.mem_cons_of_mem _ (List.mem_cons_of_mem _ (List.mem_cons_self ..))); dsimp only at n1 n2 n3)))
          k_with "callWith ref" => ((k_dflt (refine' callWith_app ?Nk8aFE4 ?Mk8aFE4 ?_; (case Nk8aFE4 => k_asm); (case Mk8aFE4 => k_mem); k_whole)))
          k_with "And" => ((((with_reducible show AppAt _ _ _ ∧ _); k_dflt (refine ⟨News.get (by k_asm) (by k_mem), ?_⟩); (try dsimp only [List.nil_append, List.cons_append]))))
          k_with "WhlIf" => ((first | (refine WhlIf.yes rfl ?_) | (refine WhlIf.no rfl ?_) | (refine WhlIf.no (by first | assumption | (simp only [decide_eq_false_iff_not]; omega)) ?_) | (refine WhlIf.yes (by first | assumption | (simp only [decide_eq_true_eq]; omega)) ?_)))
          k_with "call builtin:len" => (((refine len_S (by omega) ?_)))
          k_with "eval Lambda" => (((k_dflt ((refine' kla_eval ?d0k12aFE4 ?_; (case d0k12aFE4 => exact rfl)); (refine' lam_any ?Fk12aFE4 ?Nk12aFE4 ?Tk12aFE4 ?Ck12aFE4 ?cdk12aFE4 ?Uk12aFE4 ?tk12aFE4 ?clk12aFE4 ?_; (case Fk12aFE4 => k_asm); (case Nk12aFE4 => k_asm); (case Tk12aFE4 => k_asm); (case cdk12aFE4 => exact rfl); (case Ck12aFE4 => kn_code); (case Uk12aFE4 => k_updF); (case tk12aFE4 => assumption); (case clk12aFE4 => exact rfl); k_whole)); intro f' d' dt' sl' h' tk' ps' ht' F' N' l1; (try dsimp only at N'); (try k_lt l1))))
          k_with "call builtin:re.Pattern.sub" => ((((with_reducible rename Fr _ _ _ _ => lF'); (with_reducible rename News _ _ _ _ => lN'); (refine' sub_K lF' lN' ?Xk13aFE4 ?mk13aFE4 ?lk13aFE4 ?_; (case Xk13aFE4 => k_asm); (case mk13aFE4 => k_mem); (case lk13aFE4 => assumption)); intro h' t' k' F' N')))
          k_with "getMethod ref" => ((((with_reducible show wpAny _ _ (getMethod (Value.ref 43) _ _) _ _ _); k_dflt (refine' pat_sub ?Fk14aFE4 ?Xk14aFE4 ?_; (case Fk14aFE4 => k_asm); (case Xk14aFE4 => k_asm)))))
          k_with "truthy str" => (((refine' truthy_S ?nk15aFE4 ?hk15aFE4 ?_; (case nk15aFE4 => first | (simp only [List.length_cons, List.length_nil]; omega) | omega); (case hk15aFE4 => exact (Eq.refl true)))))
          k_with "formatField" => (((refine' fmt_S ?nk16aFE4 ?_; (case nk16aFE4 => first | (simp only [List.length_cons, List.length_nil]; omega) | omega); intro t' tk')))
          k_with "ite" => ((k_dflt (first
  | (refine' PySem.W.ite_pos ?cck17aFE4 ?_; (case cck17aFE4 => first | rfl | (simp only [beq_iff_eq, decide_eq_true_eq, bne_iff_ne, ne_eq]; omega)))
  | (refine' PySem.W.ite_neg ?cck17aFE4 ?_; (case cck17aFE4 => first | exact Bool.false_ne_true | exact Bool.eq_false_iff.mp (by assumption) | (simp only [beq_iff_eq, decide_eq_true_eq, bne_iff_ne, ne_eq]; omega))))))
          k_with "subscriptTail Name Slice str ref" => ((((with_reducible rename Fr _ _ _ _ => lF'); (with_reducible rename News _ _ _ _ => lN'); (refine' slice_S (s := ⟨_, _, _, _, _⟩) lF' lN' ?nk18aFE4 ?ek18aFE4 ?_; (case ek18aFE4 => assumption); (case nk18aFE4 => omega)); intro h' t' k' F' N')))
          k_with "call builtin:str.replace" => (((refine' repl_none ?ak19aFE4 ?_; (case ak19aFE4 => assumption))))
          k_with "compareOp Eq str str" => (((refine' cmp_eq ?hk20aFE4 ?_; (case hk20aFE4 => first | assumption | exact (by decide +kernel : _ = true) | exact (by decide +kernel : _ = false)))))
          k_with "compareOp NotEq str str" => (((refine' cmp_ne ?hk21aFE4 ?_; (case hk21aFE4 => first | assumption | exact (by decide +kernel : _ = true) | exact (by decide +kernel : _ = false)))))
          k_with "execs cons" => ((k_dflt ((first | k_gentoks | ((with_reducible refine wpAny_execs_cons ?_); (try dsimp only); (try k_fold))))))
          k_with "subscriptTail Name Name str int" => (refine item_at (k := done.length + 1) (by omega) i1 (by omega) ?_)
          k_with "subscriptTail Name Constant str int" => (refine item_at (l := [92, 45]) (k := 0) (c := 92) (by omega) (by first | rfl | exact rfl) (by simp only [List.length_cons, List.length_nil]; omega) ?_)
          k_with "exec While" => (refine whl_start 100 ?_)
          k_with "last exec While" => (refine whl_start 100 ?_)
          k_with "execs cons" => ((k_dflt ((first | (refine haltSuf rfl ?_) | k_gentoks | ((with_reducible refine wpAny_execs_cons ?_); (try dsimp only); (try k_fold))))))
          k_with "compareOp NotIn str str" => (refine' notin_S ?hniFE4 ?_; (case hniFE4 => first | assumption | exact (by decide +kernel : _ = true) | exact (by decide +kernel : _ = false)))
          k_steps
          unfold Halt
          rename Fr _ _ _ _ => lF
          rename News _ _ _ _ => lN
          refine' suf_step (d := 92) (tl := [45]) (xj := x + 1 + 1) (tp := tp) (tq := tq) (tn := tn) (P := P) (vs := vs) rfl rfl (by k_asm) lF (by k_asm) (by k_asm) (News.perm lN ?spmFE4) hk C h64 hstar (by assumption) (by assumption) rfl (by assumption) (by assumption) (by assumption) hal0 hal hdp hu ?b0FE4 ?bjFE4 ?b1FE4 ?b2FE4 ?b3FE4 ?b4FE4 ?b5FE4 ?b7FE4 c5 ?htlFE4 (by decide +kernel) (by decide +kernel) (by decide +kernel) (by omega) e6' ?sretFE4
          case spmFE4 => intro _ hp; exact .tail _ hp
          case htlFE4 => first | assumption | exact Nat.le_of_ble_eq_true rfl
          case b0FE4 => with_unfolding_all rfl
          case bjFE4 => with_unfolding_all rfl
          case b1FE4 => with_unfolding_all rfl
          case b2FE4 => with_unfolding_all rfl
          case b3FE4 => with_unfolding_all rfl
          case b4FE4 => with_unfolding_all rfl
          case b5FE4 => with_unfolding_all rfl
          case b7FE4 => with_unfolding_all rfl
          case sretFE4 =>
            clear lF lN
            intro m9 to9 ti9 cnt9 ps9 s9 lF lN ht9 G9 ho9
            k_with_none
            k_with "inplaceOp Add str str" => (((refine' iadd_S ?ek0aFE4 ?nk0aFE4 ?_; (case ek0aFE4 => assumption); (case nk0aFE4 => (simp only [List.length_cons, List.length_nil]; omega)); intro t' k')))
            k_with "call builtin:str.join" => (((k_dflt (refine' join_S ?Fk1aFE4 ?Nk1aFE4 ?Gk1aFE4 ?Xk1aFE4 ?Lk1aFE4 ?Kk1aFE4 ?zk1aFE4 ?_; (case Xk1aFE4 => assumption); (case Fk1aFE4 => k_asm); (case Nk1aFE4 => k_asm); (case Gk1aFE4 => assumption); (case Lk1aFE4 => assumption); (case Kk1aFE4 => assumption); (case zk1aFE4 => first | assumption | decide +kernel); k_whole); intro s8 t8 F8 N8 G8 ho8; (try dsimp only at N8 ho8))))
            k_with "eval GeneratorExp" => (((k_dflt (refine' gen_any ?Fk2aFE4 ?Nk2aFE4 ?Tk2aFE4 ?Ck2aFE4 ?hck2aFE4 ?hgk2aFE4 ?Uk2aFE4 ?memk2aFE4 ?tk2aFE4 ?hDk2aFE4 ?hDPk2aFE4 ?Gk2aFE4 ?hhk2aFE4 ?hcok2aFE4 ?hclk2aFE4 ?hcellk2aFE4 ?h0k2aFE4 ?hxk2aFE4 ?hkindk2aFE4 ?hroomk2aFE4 ?hitk2aFE4 ?hsk2aFE4 ?helk2aFE4 ?_; (case Fk2aFE4 => k_asm); (case Nk2aFE4 => k_asm); (case Tk2aFE4 => k_asm); (case hck2aFE4 => exact rfl); (case hgk2aFE4 => exact rfl); (case Ck2aFE4 => kn_code); (case Uk2aFE4 => k_updF); (case memk2aFE4 => k_mem); (case tk2aFE4 => assumption); (case hitk2aFE4 => (intro R hR; refine' ld ?fk2aFE4 ?vk2aFE4 hR; (case fk2aFE4 => k_asm); (case vk2aFE4 => exact rfl))); (case hDk2aFE4 => k_dflt k_mem); (case hDPk2aFE4 => k_ne); (case Gk2aFE4 => assumption); (case hhk2aFE4 => first | exact rfl | k_asm); (case hcok2aFE4 => exact rfl); (case hclk2aFE4 => exact rfl); (case hcellk2aFE4 => decide); (case h0k2aFE4 => exact rfl); (case hxk2aFE4 => exact rfl); (case hkindk2aFE4 => exact rfl); (case hroomk2aFE4 => ktr_room); (case hsk2aFE4 => (intro x9; exact rfl)); (case helk2aFE4 => intro C9 code9 A9 E9 u9 s9 m9 hA9 hn9 hm9; refine' elt_repl ?x1k2aFE4 ?x2k2aFE4 ?x3k2aFE4 ?x4k2aFE4 ?x5k2aFE4 ?x6k2aFE4; (case x5k2aFE4 => exact rfl); (case x6k2aFE4 => exact rfl); (case x1k2aFE4 => intro Q9 h9; exact wpAny_Name (wpAny_loadName_local rfl rfl hn9 hm9 h9) (by decide)); (case x2k2aFE4 => first | decide | (simp only [List.length_cons, List.length_nil]; omega)); (case x3k2aFE4 => first | assumption | decide +kernel); (case x4k2aFE4 => first | assumption | decide +kernel)); k_whole); intro a9 s9 ps9 K9 ht9 F9 N9 G9 ho9 hL9 hN9 X9; (try dsimp only at N9 ho9))))
            k_with "call builtin:str.find" => (((first | (refine find_no (by decide +kernel) (by omega) (by omega) (by omega) ?_) | (refine' find_yes ?hik3aFE4 ?hjk3aFE4 ?hlk3aFE4 ?hkk3aFE4 ?_; (case hkk3aFE4 => assumption); (case hik3aFE4 => omega); (case hjk3aFE4 => omega); (case hlk3aFE4 => omega)))))
            k_with "getMethod str" => (((with_reducible refine gm_translate ?_)))
            k_with "call builtin:str.translate" => ((((with_reducible rename Fr _ _ _ _ => lF'); (with_reducible rename News _ _ _ _ => lN'); k_dflt (refine' tr_K lF' lN' ?Xk5aFE4 ?ck5aFE4 ?hk5aFE4 ?_; (case Xk5aFE4 => k_asm); (case ck5aFE4 => assumption); (case hk5aFE4 => first | exact rfl | k_asm); k_whole); intro h' t' k' F' N')))
            k_with "call ref" => (first | (k_dflt ((refine' app_call ?Fk6aFE4 ?Nk6aFE4 ?Uk6aFE4 ?mk6aFE4 ?uk6aFE4 ?zk6aFE4 ?_; (case Fk6aFE4 => k_asm); (case Nk6aFE4 => k_asm); (case uk6aFE4 => k_mem); (case mk6aFE4 => k_mem); (case Uk6aFE4 => k_updF); (case zk6aFE4 => assumption); k_whole); intro h' cnt' F' N'; (try dsimp only at N'))) | ((k_here; k_dflt (refine wpAny_call ?_; (refine' code_def ?k1k6bFE4 ?k2k6bFE4 ?k3k6bFE4 ?k4k6bFE4 ?k5k6bFE4 ?kAk6bFE4 ?kFk6bFE4 ?kKk6bFE4 ?k6k6bFE4 ?k7k6bFE4 ?k8k6bFE4 ?k9k6bFE4 ?kBk6bFE4 ?_ ?c2k6bFE4 ?c3k6bFE4 ?c4k6bFE4 ?c5k6bFE4; (case kAk6bFE4 => exact rfl); (case kFk6bFE4 => exact rfl); (case kKk6bFE4 => first | exact rfl | assumption); (case k1k6bFE4 => k_asm); (case k2k6bFE4 => k_asm); (case k3k6bFE4 => k_asm); (case k4k6bFE4 => k_asm); (case k5k6bFE4 => k_asm); (case k6k6bFE4 => k_is); (case k7k6bFE4 => k_is); (case k8k6bFE4 => ktr_room); (case k9k6bFE4 => exact BindsTo.of_eq rfl); (case c5k6bFE4 => decide); (case kBk6bFE4 => exact locs rfl); (case c2k6bFE4 => exact rfl); (case c3k6bFE4 => exact rfl); (case c4k6bFE4 => exact rfl); k_whole; intro g' L' h' FG' F' N' B' X' T'; (try dsimp only); (try k_lift B'); (try k_fold))))))
            k_with "getAttr ref" => (((k_dflt (refine' app_made ?Fk7aFE4 ?Nk7aFE4 ?memk7aFE4 ?_; (case Fk7aFE4 => k_asm); (case Nk7aFE4 => k_asm); (case memk7aFE4 => k_mem); k_whole); intro u' h' tk' F' N' l9; (try dsimp only at N'); have n1 : @Ne Nat _ _ := l9 _ (List.mem_cons_self ..); have n2 : @Ne Nat _ _ := l9 _ (List.mem_cons_of_mem _ (List.mem_cons_self ..)); have n3 : @Ne Nat _ _ := l9 _ (List.mem_cons_of_mem _ (List.mem_cons_of_mem _ (List.mem_cons_self ..))); dsimp only at n1 n2 n3)))
            k_with "callWith ref" => ((k_dflt (refine' callWith_app ?Nk8aFE4 ?Mk8aFE4 ?_; (case Nk8aFE4 => k_asm); (case Mk8aFE4 => k_mem); k_whole)))
            k_with "And" => ((((with_reducible show AppAt _ _ _ ∧ _); k_dflt (refine ⟨News.get (by k_asm) (by k_mem), ?_⟩); (try dsimp only [List.nil_append, List.cons_append]))))
            k_with "WhlIf" => ((first | (refine WhlIf.yes rfl ?_) | (refine WhlIf.no rfl ?_) | (refine WhlIf.no (by first | assumption | (simp only [decide_eq_false_iff_not]; omega)) ?_) | (refine WhlIf.yes (by first | assumption | (simp only [decide_eq_true_eq]; omega)) ?_)))
            k_with "call builtin:len" => (((refine len_S (by omega) ?_)))
            k_with "eval Lambda" => (((k_dflt ((refine' kla_eval ?d0k12aFE4 ?_; (case d0k12aFE4 => exact rfl)); (refine' lam_any ?Fk12aFE4 ?Nk12aFE4 ?Tk12aFE4 ?Ck12aFE4 ?cdk12aFE4 ?Uk12aFE4 ?tk12aFE4 ?clk12aFE4 ?_; (case Fk12aFE4 => k_asm); (case Nk12aFE4 => k_asm); (case Tk12aFE4 => k_asm); (case cdk12aFE4 => exact rfl); (case Ck12aFE4 => kn_code); (case Uk12aFE4 => k_updF); (case tk12aFE4 => assumption); (case clk12aFE4 => exact rfl); k_whole)); intro f' d' dt' sl' h' tk' ps' ht' F' N' l1; (try dsimp only at N'); (try k_lt l1))))
            k_with "call builtin:re.Pattern.sub" => ((((with_reducible rename Fr _ _ _ _ => lF'); (with_reducible rename News _ _ _ _ => lN'); (refine' sub_K lF' lN' ?Xk13aFE4 ?mk13aFE4 ?lk13aFE4 ?_; (case Xk13aFE4 => k_asm); (case mk13aFE4 => k_mem); (case lk13aFE4 => assumption)); intro h' t' k' F' N')))
            k_with "getMethod ref" => ((((with_reducible show wpAny _ _ (getMethod (Value.ref 43) _ _) _ _ _); k_dflt (refine' pat_sub ?Fk14aFE4 ?Xk14aFE4 ?_; (case Fk14aFE4 => k_asm); (case Xk14aFE4 => k_asm)))))
            k_with "truthy str" => (((refine' truthy_S ?nk15aFE4 ?hk15aFE4 ?_; (case nk15aFE4 => first | (simp only [List.length_cons, List.length_nil]; omega) | omega); (case hk15aFE4 => exact (Eq.refl true)))))
            k_with "formatField" => (((refine' fmt_S ?nk16aFE4 ?_; (case nk16aFE4 => first | (simp only [List.length_cons, List.length_nil]; omega) | omega); intro t' tk')))
            k_with "ite" => ((k_dflt (first
  | (refine' PySem.W.ite_pos ?cck17aFE4 ?_; (case cck17aFE4 => first | rfl | (simp only [beq_iff_eq, decide_eq_true_eq, bne_iff_ne, ne_eq]; omega)))
  | (refine' PySem.W.ite_neg ?cck17aFE4 ?_; (case cck17aFE4 => first | exact Bool.false_ne_true | exact Bool.eq_false_iff.mp (by assumption) | (simp only [beq_iff_eq, decide_eq_true_eq, bne_iff_ne, ne_eq]; omega))))))
            k_with "subscriptTail Name Slice str ref" => ((((with_reducible rename Fr _ _ _ _ => lF'); (with_reducible rename News _ _ _ _ => lN'); (refine' slice_S (s := ⟨_, _, _, _, _⟩) lF' lN' ?nk18aFE4 ?ek18aFE4 ?_; (case ek18aFE4 => assumption); (case nk18aFE4 => omega)); intro h' t' k' F' N')))
            k_with "call builtin:str.replace" => (((refine' repl_none ?ak19aFE4 ?_; (case ak19aFE4 => assumption))))
            k_with "compareOp Eq str str" => (((refine' cmp_eq ?hk20aFE4 ?_; (case hk20aFE4 => first | assumption | exact (by decide +kernel : _ = true) | exact (by decide +kernel : _ = false)))))
            k_with "compareOp NotEq str str" => (((refine' cmp_ne ?hk21aFE4 ?_; (case hk21aFE4 => first | assumption | exact (by decide +kernel : _ = true) | exact (by decide +kernel : _ = false)))))
            k_with "execs cons" => ((k_dflt ((first | k_gentoks | ((with_reducible refine wpAny_execs_cons ?_); (try dsimp only); (try k_fold))))))
            k_steps
            refine' JT_end (tok := 91 :: ([45] ++ [93])) (o := 91 :: ([92, 45] ++ [93])) e1' e2 r e4 e5 (by omega) ht9 G9 ?hosFE4 ?hxFE4 lN lF ?a1FE4 ?a2FE4 ?a3FE4 ?a4FE4 ?a5FE4 ?a6FE4 ?a7FE4
            case hosFE4 => first | exact ho9.trans e9 | (rw [ho9]; simp only [*]) | simp only [*]
            case a1FE4 => with_unfolding_all rfl
            case a2FE4 => with_unfolding_all rfl
            case a3FE4 => with_unfolding_all rfl
            case a4FE4 => with_unfolding_all rfl
            case a5FE4 => with_unfolding_all rfl
            case a6FE4 => with_unfolding_all rfl
            case a7FE4 => with_unfolding_all rfl
            case hxFE4 => simp only [List.length_cons, List.length_append, List.length_nil]; omega
        | dot a ha =>
          obtain rfl : xj = x + 1 + 1 + 1 := by simp only [List.length_cons, List.length_nil] at d3; omega
          obtain ⟨rfl, rfl⟩ : d = a ∧ tl = [45] := by simpa [eq_comm] using hbd
          have i2 : P[done.length + 2]? = some 45 := by rw [e2]; simp
          have s2 : Txt.slice (S P) (some (x + 1)) (some (x + 1 + 1)) = S [d] := slice_at (pre := done ++ [91]) (post := [45, 93] ++ toks'.flatten) (by rw [e2]; simp) (by rw [e10]; simp) (by rw [e10]; simp)
          have s3 : Txt.slice (S P) (some (x + 1 + 1 + 1)) (some (x + 1 + 1 + 1)) = S [] := slice_at (pre := done ++ [91, d, 45]) (post := [93] ++ toks'.flatten) (by rw [e2]; simp) (by rw [e10]; simp; omega) (by rw [e10]; simp; omega)
          obtain ⟨c1, c2, c3, c4, c5, c6, c7, cz, cn⟩ := dt1 _ ha
          have cad : S [d] ++ Str.ofString "-" = S [d, 45] := by rw [lit_d, S_app]; rfl
          have cjo := dt2 _ ha
          simp only [List.length_cons, List.length_nil] at hPn
          k_with_none
          k_with "inplaceOp Add str str" => (((refine' iadd_S ?ek0aFE4 ?nk0aFE4 ?_; (case ek0aFE4 => assumption); (case nk0aFE4 => (simp only [List.length_cons, List.length_nil]; omega)); intro t' k')))
          k_with "call builtin:str.join" => (((k_dflt (refine' join_S ?Fk1aFE4 ?Nk1aFE4 ?Gk1aFE4 ?Xk1aFE4 ?Lk1aFE4 ?Kk1aFE4 ?zk1aFE4 ?_; (case Xk1aFE4 => assumption); (case Fk1aFE4 => k_asm); (case Nk1aFE4 => k_asm); (case Gk1aFE4 => assumption); (case Lk1aFE4 => assumption); (case Kk1aFE4 => assumption); (case zk1aFE4 => first | assumption | decide +kernel); k_whole); intro s8 t8 F8 N8 G8 ho8; (try dsimp only at N8 ho8))))
          k_with "eval GeneratorExp" => (((k_dflt (refine' gen_any ?Fk2aFE4 ?Nk2aFE4 ?Tk2aFE4 ?Ck2aFE4 ?hck2aFE4 ?hgk2aFE4 ?Uk2aFE4 ?memk2aFE4 ?tk2aFE4 ?hDk2aFE4 ?hDPk2aFE4 ?Gk2aFE4 ?hhk2aFE4 ?hcok2aFE4 ?hclk2aFE4 ?hcellk2aFE4 ?h0k2aFE4 ?hxk2aFE4 ?hkindk2aFE4 ?hroomk2aFE4 ?hitk2aFE4 ?hsk2aFE4 ?helk2aFE4 ?_; (case Fk2aFE4 => k_asm); (case Nk2aFE4 => k_asm); (case Tk2aFE4 => k_asm); (case hck2aFE4 => exact rfl); (case hgk2aFE4 => exact rfl); (case Ck2aFE4 => kn_code); (case Uk2aFE4 => k_updF); (case memk2aFE4 => k_mem); (case tk2aFE4 => assumption); (case hitk2aFE4 => (intro R hR; refine' ld ?fk2aFE4 ?vk2aFE4 hR; (case fk2aFE4 => k_asm); (case vk2aFE4 => exact rfl))); (case hDk2aFE4 => k_dflt k_mem); (case hDPk2aFE4 => k_ne); (case Gk2aFE4 => assumption); (case hhk2aFE4 => first | exact rfl | k_asm); (case hcok2aFE4 => exact rfl); (case hclk2aFE4 => exact rfl); (case hcellk2aFE4 => decide); (case h0k2aFE4 => exact rfl); (case hxk2aFE4 => exact rfl); (case hkindk2aFE4 => exact rfl); (case hroomk2aFE4 => ktr_room); (case hsk2aFE4 => (intro x9; exact rfl)); (case helk2aFE4 => intro C9 code9 A9 E9 u9 s9 m9 hA9 hn9 hm9; refine' elt_repl ?x1k2aFE4 ?x2k2aFE4 ?x3k2aFE4 ?x4k2aFE4 ?x5k2aFE4 ?x6k2aFE4; (case x5k2aFE4 => exact rfl); (case x6k2aFE4 => exact rfl); (case x1k2aFE4 => intro Q9 h9; exact wpAny_Name (wpAny_loadName_local rfl rfl hn9 hm9 h9) (by decide)); (case x2k2aFE4 => first | decide | (simp only [List.length_cons, List.length_nil]; omega)); (case x3k2aFE4 => first | assumption | decide +kernel); (case x4k2aFE4 => first | assumption | decide +kernel)); k_whole); intro a9 s9 ps9 K9 ht9 F9 N9 G9 ho9 hL9 hN9 X9; (try dsimp only at N9 ho9))))
          k_with "call builtin:str.find" => (((first | (refine find_no (by decide +kernel) (by omega) (by omega) (by omega) ?_) | (refine' find_yes ?hik3aFE4 ?hjk3aFE4 ?hlk3aFE4 ?hkk3aFE4 ?_; (case hkk3aFE4 => assumption); (case hik3aFE4 => omega); (case hjk3aFE4 => omega); (case hlk3aFE4 => omega)))))
          k_with "getMethod str" => (((with_reducible refine gm_translate ?_)))
          k_with "call builtin:str.translate" => ((((with_reducible rename Fr _ _ _ _ => lF'); (with_reducible rename News _ _ _ _ => lN'); k_dflt (refine' tr_K lF' lN' ?Xk5aFE4 ?ck5aFE4 ?hk5aFE4 ?_; (case Xk5aFE4 => k_asm); (case ck5aFE4 => assumption); (case hk5aFE4 => first | exact rfl | k_asm); k_whole); intro h' t' k' F' N')))
          k_with "call ref" => (first | (k_dflt ((refine' app_call ?Fk6aFE4 ?Nk6aFE4 ?Uk6aFE4 ?mk6aFE4 ?uk6aFE4 ?zk6aFE4 ?_; (case Fk6aFE4 => k_asm); (case Nk6aFE4 => k_asm); (case uk6aFE4 => k_mem); (case mk6aFE4 => k_mem); (case Uk6aFE4 => k_updF); (case zk6aFE4 => assumption); k_whole); intro h' cnt' F' N'; (try dsimp only at N'))) | ((k_here; k_dflt (refine wpAny_call ?_; (refine' code_def ?k1k6bFE4 ?k2k6bFE4 ?k3k6bFE4 ?k4k6bFE4 ?k5k6bFE4 ?kAk6bFE4 ?kFk6bFE4 ?kKk6bFE4 ?k6k6bFE4 ?k7k6bFE4 ?k8k6bFE4 ?k9k6bFE4 ?kBk6bFE4 ?_ ?c2k6bFE4 ?c3k6bFE4 ?c4k6bFE4 ?c5k6bFE4; (case kAk6bFE4 => exact rfl); (case kFk6bFE4 => exact rfl); (case kKk6bFE4 => first | exact rfl | assumption); (case k1k6bFE4 => k_asm); (case k2k6bFE4 => k_asm); (case k3k6bFE4 => k_asm); (case k4k6bFE4 => k_asm); (case k5k6bFE4 => k_asm); (case k6k6bFE4 => k_is); (case k7k6bFE4 => k_is); (case k8k6bFE4 => ktr_room); (case k9k6bFE4 => exact BindsTo.of_eq rfl); (case c5k6bFE4 => decide); (case kBk6bFE4 => exact locs rfl); (case c2k6bFE4 => exact rfl); (case c3k6bFE4 => exact rfl); (case c4k6bFE4 => exact rfl); k_whole; intro g' L' h' FG' F' N' B' X' T'; (try dsimp only); (try k_lift B'); (try k_fold))))))
          k_with "getAttr ref" => (((k_dflt (refine' app_made ?Fk7aFE4 ?Nk7aFE4 ?memk7aFE4 ?_; (case Fk7aFE4 => k_asm); (case Nk7aFE4 => k_asm); (case memk7aFE4 => k_mem); k_whole); intro u' h' tk' F' N' l9; (try dsimp only at N'); have n1 : @Ne Nat _ _ := l9 _ (List.mem_cons_self ..); have n2 : @Ne Nat _ _ := l9 _ (List.mem_cons_of_mem _ (List.mem_cons_self ..)); have n3 : @Ne Nat _ _ := l9 _ (List.mem_cons_of_mem _ (List.mem_cons_of_mem _ (List.mem_cons_self ..))); dsimp only at n1 n2 n3)))
          k_with "callWith ref" => ((k_dflt (refine' callWith_app ?Nk8aFE4 ?Mk8aFE4 ?_; (case Nk8aFE4 => k_asm); (case Mk8aFE4 => k_mem); k_whole)))
          k_with "And" => ((((with_reducible show AppAt _ _ _ ∧ _); k_dflt (refine ⟨News.get (by k_asm) (by k_mem), ?_⟩); (try dsimp only [List.nil_append, List.cons_append]))))
          k_with "WhlIf" => ((first | (refine WhlIf.yes rfl ?_) | (refine WhlIf.no rfl ?_) | (refine WhlIf.no (by first | assumption | (simp only [decide_eq_false_iff_not]; omega)) ?_) | (refine WhlIf.yes (by first | assumption | (simp only [decide_eq_true_eq]; omega)) ?_)))
          k_with "call builtin:len" => (((refine len_S (by omega) ?_)))
          k_with "eval Lambda" => (((k_dflt ((refine' kla_eval ?d0k12aFE4 ?_; (case d0k12aFE4 => exact rfl)); (refine' lam_any ?Fk12aFE4 ?Nk12aFE4 ?Tk12aFE4 ?Ck12aFE4 ?cdk12aFE4 ?Uk12aFE4 ?tk12aFE4 ?clk12aFE4 ?_; (case Fk12aFE4 => k_asm); (case Nk12aFE4 => k_asm); (case Tk12aFE4 => k_asm); (case cdk12aFE4 => exact rfl); (case Ck12aFE4 => kn_code); (case Uk12aFE4 => k_updF); (case tk12aFE4 => assumption); (case clk12aFE4 => exact rfl); k_whole)); intro f' d' dt' sl' h' tk' ps' ht' F' N' l1; (try dsimp only at N'); (try k_lt l1))))
          k_with "call builtin:re.Pattern.sub" => ((((with_reducible rename Fr _ _ _ _ => lF'); (with_reducible rename News _ _ _ _ => lN'); (refine' sub_K lF' lN' ?Xk13aFE4 ?mk13aFE4 ?lk13aFE4 ?_; (case Xk13aFE4 => k_asm); (case mk13aFE4 => k_mem); (case lk13aFE4 => assumption)); intro h' t' k' F' N')))
          k_with "getMethod ref" => ((((with_reducible show wpAny _ _ (getMethod (Value.ref 43) _ _) _ _ _); k_dflt (refine' pat_sub ?Fk14aFE4 ?Xk14aFE4 ?_; (case Fk14aFE4 => k_asm); (case Xk14aFE4 => k_asm)))))
          k_with "truthy str" => (((refine' truthy_S ?nk15aFE4 ?hk15aFE4 ?_; (case nk15aFE4 => first | (simp only [List.length_cons, List.length_nil]; omega) | omega); (case hk15aFE4 => exact (Eq.refl true)))))
          k_with "formatField" => (((refine' fmt_S ?nk16aFE4 ?_; (case nk16aFE4 => first | (simp only [List.length_cons, List.length_nil]; omega) | omega); intro t' tk')))
          k_with "ite" => ((k_dflt (first
  | (refine' PySem.W.ite_pos ?cck17aFE4 ?_; (case cck17aFE4 => first | rfl | (simp only [beq_iff_eq, decide_eq_true_eq, bne_iff_ne, ne_eq]; omega)))
  | (refine' PySem.W.ite_neg ?cck17aFE4 ?_; (case cck17aFE4 => first | exact Bool.false_ne_true | exact Bool.eq_false_iff.mp (by assumption) | (simp only [beq_iff_eq, decide_eq_true_eq, bne_iff_ne, ne_eq]; omega))))))
          k_with "subscriptTail Name Slice str ref" => ((((with_reducible rename Fr _ _ _ _ => lF'); (with_reducible rename News _ _ _ _ => lN'); (refine' slice_S (s := ⟨_, _, _, _, _⟩) lF' lN' ?nk18aFE4 ?ek18aFE4 ?_; (case ek18aFE4 => assumption); (case nk18aFE4 => omega)); intro h' t' k' F' N')))
          k_with "call builtin:str.replace" => (((refine' repl_none ?ak19aFE4 ?_; (case ak19aFE4 => assumption))))
          k_with "compareOp Eq str str" => (((refine' cmp_eq ?hk20aFE4 ?_; (case hk20aFE4 => first | assumption | exact (by decide +kernel : _ = true) | exact (by decide +kernel : _ = false)))))
          k_with "compareOp NotEq str str" => (((refine' cmp_ne ?hk21aFE4 ?_; (case hk21aFE4 => first | assumption | exact (by decide +kernel : _ = true) | exact (by decide +kernel : _ = false)))))
          k_with "execs cons" => ((k_dflt ((first | k_gentoks | ((with_reducible refine wpAny_execs_cons ?_); (try dsimp only); (try k_fold))))))
          k_with "subscriptTail Name Name str int" => (refine item_at (k := done.length + 1) (by omega) i1 (by omega) ?_)
          k_with "subscriptTail Name Constant str int" => (refine item_at (l := [d, 92, 45]) (k := 0) (c := d) (by omega) (by first | rfl | exact rfl) (by simp only [List.length_cons, List.length_nil]; omega) ?_)
          k_with "exec While" => (refine whl_start 100 ?_)
          k_with "last exec While" => (refine whl_start 100 ?_)
          k_with "execs cons" => ((k_dflt ((first | (refine haltSuf rfl ?_) | k_gentoks | ((with_reducible refine wpAny_execs_cons ?_); (try dsimp only); (try k_fold))))))
          k_with "compareOp NotIn str str" => (refine' notin_S ?hniFE4 ?_; (case hniFE4 => first | assumption | exact (by decide +kernel : _ = true) | exact (by decide +kernel : _ = false)))
          k_steps
          unfold Halt
          rename Fr _ _ _ _ => lF
          rename News _ _ _ _ => lN
          refine' suf_step (d := d) (tl := [92, 45]) (xj := x + 1 + 1 + 1) (tp := tp) (tq := tq) (tn := tn) (P := P) (vs := vs) rfl rfl (by k_asm) lF (by k_asm) (by k_asm) (News.perm lN ?spmFE4) hk C h64 hstar (by assumption) (by assumption) rfl (by assumption) (by assumption) (by assumption) hal0 hal hdp hu ?b0FE4 ?bjFE4 ?b1FE4 ?b2FE4 ?b3FE4 ?b4FE4 ?b5FE4 ?b7FE4 c4 ?htlFE4 c1 c6 c5 (by omega) e6' ?sretFE4
          case spmFE4 => intro _ hp; exact .tail _ hp
          case htlFE4 => first | assumption | exact Nat.le_of_ble_eq_true rfl
          case b0FE4 => with_unfolding_all rfl
          case bjFE4 => with_unfolding_all rfl
          case b1FE4 => with_unfolding_all rfl
          case b2FE4 => with_unfolding_all rfl
          case b3FE4 => with_unfolding_all rfl
          case b4FE4 => with_unfolding_all rfl
          case b5FE4 => with_unfolding_all rfl
          case b7FE4 => with_unfolding_all rfl
          case sretFE4 =>
            clear lF lN
            intro m9 to9 ti9 cnt9 ps9 s9 lF lN ht9 G9 ho9
            k_with_none
            k_with "inplaceOp Add str str" => (((refine' iadd_S ?ek0aFE4 ?nk0aFE4 ?_; (case ek0aFE4 => assumption); (case nk0aFE4 => (simp only [List.length_cons, List.length_nil]; omega)); intro t' k')))
            k_with "call builtin:str.join" => (((k_dflt (refine' join_S ?Fk1aFE4 ?Nk1aFE4 ?Gk1aFE4 ?Xk1aFE4 ?Lk1aFE4 ?Kk1aFE4 ?zk1aFE4 ?_; (case Xk1aFE4 => assumption); (case Fk1aFE4 => k_asm); (case Nk1aFE4 => k_asm); (case Gk1aFE4 => assumption); (case Lk1aFE4 => assumption); (case Kk1aFE4 => assumption); (case zk1aFE4 => first | assumption | decide +kernel); k_whole); intro s8 t8 F8 N8 G8 ho8; (try dsimp only at N8 ho8))))
            k_with "eval GeneratorExp" => (((k_dflt (refine' gen_any ?Fk2aFE4 ?Nk2aFE4 ?Tk2aFE4 ?Ck2aFE4 ?hck2aFE4 ?hgk2aFE4 ?Uk2aFE4 ?memk2aFE4 ?tk2aFE4 ?hDk2aFE4 ?hDPk2aFE4 ?Gk2aFE4 ?hhk2aFE4 ?hcok2aFE4 ?hclk2aFE4 ?hcellk2aFE4 ?h0k2aFE4 ?hxk2aFE4 ?hkindk2aFE4 ?hroomk2aFE4 ?hitk2aFE4 ?hsk2aFE4 ?helk2aFE4 ?_; (case Fk2aFE4 => k_asm); (case Nk2aFE4 => k_asm); (case Tk2aFE4 => k_asm); (case hck2aFE4 => exact rfl); (case hgk2aFE4 => exact rfl); (case Ck2aFE4 => kn_code); (case Uk2aFE4 => k_updF); (case memk2aFE4 => k_mem); (case tk2aFE4 => assumption); (case hitk2aFE4 => (intro R hR; refine' ld ?fk2aFE4 ?vk2aFE4 hR; (case fk2aFE4 => k_asm); (case vk2aFE4 => exact rfl))); (case hDk2aFE4 => k_dflt k_mem); (case hDPk2aFE4 => k_ne); (case Gk2aFE4 => assumption); (case hhk2aFE4 => first | exact rfl | k_asm); (case hcok2aFE4 => exact rfl); (case hclk2aFE4 => exact rfl); (case hcellk2aFE4 => decide); (case h0k2aFE4 => exact rfl); (case hxk2aFE4 => exact rfl); (case hkindk2aFE4 => exact rfl); (case hroomk2aFE4 => ktr_room); (case hsk2aFE4 => (intro x9; exact rfl)); (case helk2aFE4 => intro C9 code9 A9 E9 u9 s9 m9 hA9 hn9 hm9; refine' elt_repl ?x1k2aFE4 ?x2k2aFE4 ?x3k2aFE4 ?x4k2aFE4 ?x5k2aFE4 ?x6k2aFE4; (case x5k2aFE4 => exact rfl); (case x6k2aFE4 => exact rfl); (case x1k2aFE4 => intro Q9 h9; exact wpAny_Name (wpAny_loadName_local rfl rfl hn9 hm9 h9) (by decide)); (case x2k2aFE4 => first | decide | (simp only [List.length_cons, List.length_nil]; omega)); (case x3k2aFE4 => first | assumption | decide +kernel); (case x4k2aFE4 => first | assumption | decide +kernel)); k_whole); intro a9 s9 ps9 K9 ht9 F9 N9 G9 ho9 hL9 hN9 X9; (try dsimp only at N9 ho9))))
            k_with "call builtin:str.find" => (((first | (refine find_no (by decide +kernel) (by omega) (by omega) (by omega) ?_) | (refine' find_yes ?hik3aFE4 ?hjk3aFE4 ?hlk3aFE4 ?hkk3aFE4 ?_; (case hkk3aFE4 => assumption); (case hik3aFE4 => omega); (case hjk3aFE4 => omega); (case hlk3aFE4 => omega)))))
            k_with "getMethod str" => (((with_reducible refine gm_translate ?_)))
            k_with "call builtin:str.translate" => ((((with_reducible rename Fr _ _ _ _ => lF'); (with_reducible rename News _ _ _ _ => lN'); k_dflt (refine' tr_K lF' lN' ?Xk5aFE4 ?ck5aFE4 ?hk5aFE4 ?_; (case Xk5aFE4 => k_asm); (case ck5aFE4 => assumption); (case hk5aFE4 => first | exact rfl | k_asm); k_whole); intro h' t' k' F' N')))
            k_with "call ref" => (first | (k_dflt ((refine' app_call ?Fk6aFE4 ?Nk6aFE4 ?Uk6aFE4 ?mk6aFE4 ?uk6aFE4 ?zk6aFE4 ?_; (case Fk6aFE4 => k_asm); (case Nk6aFE4 => k_asm); (case uk6aFE4 => k_mem); (case mk6aFE4 => k_mem); (case Uk6aFE4 => k_updF); (case zk6aFE4 => assumption); k_whole); intro h' cnt' F' N'; (try dsimp only at N'))) | ((k_here; k_dflt (refine wpAny_call ?_; (refine' code_def ?k1k6bFE4 ?k2k6bFE4 ?k3k6bFE4 ?k4k6bFE4 ?k5k6bFE4 ?kAk6bFE4 ?kFk6bFE4 ?kKk6bFE4 ?k6k6bFE4 ?k7k6bFE4 ?k8k6bFE4 ?k9k6bFE4 ?kBk6bFE4 ?_ ?c2k6bFE4 ?c3k6bFE4 ?c4k6bFE4 ?c5k6bFE4; (case kAk6bFE4 => exact rfl); (case kFk6bFE4 => exact rfl); (case kKk6bFE4 => first | exact rfl | assumption); (case k1k6bFE4 => k_asm); (case k2k6bFE4 => k_asm); (case k3k6bFE4 => k_asm); (case k4k6bFE4 => k_asm); (case k5k6bFE4 => k_asm); (case k6k6bFE4 => k_is); (case k7k6bFE4 => k_is); (case k8k6bFE4 => ktr_room); (case k9k6bFE4 => exact BindsTo.of_eq rfl); (case c5k6bFE4 => decide); (case kBk6bFE4 => exact locs rfl); (case c2k6bFE4 => exact rfl); (case c3k6bFE4 => exact rfl); (case c4k6bFE4 => exact rfl); k_whole; intro g' L' h' FG' F' N' B' X' T'; (try dsimp only); (try k_lift B'); (try k_fold))))))
            k_with "getAttr ref" => (((k_dflt (refine' app_made ?Fk7aFE4 ?Nk7aFE4 ?memk7aFE4 ?_; (case Fk7aFE4 => k_asm); (case Nk7aFE4 => k_asm); (case memk7aFE4 => k_mem); k_whole); intro u' h' tk' F' N' l9; (try dsimp only at N'); have n1 : @Ne Nat _ _ := l9 _ (List.mem_cons_self ..); have n2 : @Ne Nat _ _ := l9 _ (List.mem_cons_of_mem _ (List.mem_cons_self ..)); have n3 : @Ne Nat _ _ := l9 _ (List.mem_cons_of_mem _ (List.mem_cons_of_mem _ (List.mem_cons_self ..))); dsimp only at n1 n2 n3)))
            k_with "callWith ref" => ((k_dflt (refine' callWith_app ?Nk8aFE4 ?Mk8aFE4 ?_; (case Nk8aFE4 => k_asm); (case Mk8aFE4 => k_mem); k_whole)))
            k_with "And" => ((((with_reducible show AppAt _ _ _ ∧ _); k_dflt (refine ⟨News.get (by k_asm) (by k_mem), ?_⟩); (try dsimp only [List.nil_append, List.cons_append]))))
            k_with "WhlIf" => ((first | (refine WhlIf.yes rfl ?_) | (refine WhlIf.no rfl ?_) | (refine WhlIf.no (by first | assumption | (simp only [decide_eq_false_iff_not]; omega)) ?_) | (refine WhlIf.yes (by first | assumption | (simp only [decide_eq_true_eq]; omega)) ?_)))
            k_with "call builtin:len" => (((refine len_S (by omega) ?_)))
            k_with "eval Lambda" => (((k_dflt ((refine' kla_eval ?d0k12aFE4 ?_; (case d0k12aFE4 => exact rfl)); (refine' lam_any ?Fk12aFE4 ?Nk12aFE4 ?Tk12aFE4 ?Ck12aFE4 ?cdk12aFE4 ?Uk12aFE4 ?tk12aFE4 ?clk12aFE4 ?_; (case Fk12aFE4 => k_asm); (case Nk12aFE4 => k_asm); (case Tk12aFE4 => k_asm); (case cdk12aFE4 => exact rfl); (case Ck12aFE4 => kn_code); (case Uk12aFE4 => k_updF); (case tk12aFE4 => assumption); (case clk12aFE4 => exact rfl); k_whole)); intro f' d' dt' sl' h' tk' ps' ht' F' N' l1; (try dsimp only at N'); (try k_lt l1))))
            k_with "call builtin:re.Pattern.sub" => ((((with_reducible rename Fr _ _ _ _ => lF'); (with_reducible rename News _ _ _ _ => lN'); (refine' sub_K lF' lN' ?Xk13aFE4 ?mk13aFE4 ?lk13aFE4 ?_; (case Xk13aFE4 => k_asm); (case mk13aFE4 => k_mem); (case lk13aFE4 => assumption)); intro h' t' k' F' N')))
            k_with "getMethod ref" => ((((with_reducible show wpAny _ _ (getMethod (Value.ref 43) _ _) _ _ _); k_dflt (refine' pat_sub ?Fk14aFE4 ?Xk14aFE4 ?_; (case Fk14aFE4 => k_asm); (case Xk14aFE4 => k_asm)))))
            k_with "truthy str" => (((refine' truthy_S ?nk15aFE4 ?hk15aFE4 ?_; (case nk15aFE4 => first | (simp only [List.length_cons, List.length_nil]; omega) | omega); (case hk15aFE4 => exact (Eq.refl true)))))
            k_with "formatField" => (((refine' fmt_S ?nk16aFE4 ?_; (case nk16aFE4 => first | (simp only [List.length_cons, List.length_nil]; omega) | omega); intro t' tk')))
            k_with "ite" => ((k_dflt (first
  | (refine' PySem.W.ite_pos ?cck17aFE4 ?_; (case cck17aFE4 => first | rfl | (simp only [beq_iff_eq, decide_eq_true_eq, bne_iff_ne, ne_eq]; omega)))
  | (refine' PySem.W.ite_neg ?cck17aFE4 ?_; (case cck17aFE4 => first | exact Bool.false_ne_true | exact Bool.eq_false_iff.mp (by assumption) | (simp only [beq_iff_eq, decide_eq_true_eq, bne_iff_ne, ne_eq]; omega))))))
            k_with "subscriptTail Name Slice str ref" => ((((with_reducible rename Fr _ _ _ _ => lF'); (with_reducible rename News _ _ _ _ => lN'); (refine' slice_S (s := ⟨_, _, _, _, _⟩) lF' lN' ?nk18aFE4 ?ek18aFE4 ?_; (case ek18aFE4 => assumption); (case nk18aFE4 => omega)); intro h' t' k' F' N')))
            k_with "call builtin:str.replace" => (((refine' repl_none ?ak19aFE4 ?_; (case ak19aFE4 => assumption))))
            k_with "compareOp Eq str str" => (((refine' cmp_eq ?hk20aFE4 ?_; (case hk20aFE4 => first | assumption | exact (by decide +kernel : _ = true) | exact (by decide +kernel : _ = false)))))
            k_with "compareOp NotEq str str" => (((refine' cmp_ne ?hk21aFE4 ?_; (case hk21aFE4 => first | assumption | exact (by decide +kernel : _ = true) | exact (by decide +kernel : _ = false)))))
            k_with "execs cons" => ((k_dflt ((first | k_gentoks | ((with_reducible refine wpAny_execs_cons ?_); (try dsimp only); (try k_fold))))))
            k_steps
            refine' JT_end (tok := 91 :: ([d, 45] ++ [93])) (o := 91 :: ([d, 92, 45] ++ [93])) e1' e2 r e4 e5 (by omega) ht9 G9 ?hosFE4 ?hxFE4 lN lF ?a1FE4 ?a2FE4 ?a3FE4 ?a4FE4 ?a5FE4 ?a6FE4 ?a7FE4
            case hosFE4 => first | exact ho9.trans e9 | (rw [ho9]; simp only [*]) | simp only [*]
            case a1FE4 => with_unfolding_all rfl
            case a2FE4 => with_unfolding_all rfl
            case a3FE4 => with_unfolding_all rfl
            case a4FE4 => with_unfolding_all rfl
            case a5FE4 => with_unfolding_all rfl
            case a6FE4 => with_unfolding_all rfl
            case a7FE4 => with_unfolding_all rfl
            case hxFE4 => simp only [List.length_cons, List.length_append, List.length_nil]; omega
  case lastFE4 =>
    clear lF lN
    intro s' hJ
    obtain ⟨done, tks, os1, os2, mm, vs, cnt, ps', x, ti, tn, e1, e2, e3, e4, e5, e6, e7, e8, e9, e10, N2, F2⟩ := hJ
    obtain rfl : tks = [] := List.length_eq_zero_iff.mp e1
    have hPn : P.length = done.length := by rw [e2]; simp
    k_with_none
    k_with "inplaceOp Add str str" => (((refine' iadd_S ?ek0aFE4 ?nk0aFE4 ?_; (case ek0aFE4 => assumption); (case nk0aFE4 => (simp only [List.length_cons, List.length_nil]; omega)); intro t' k')))
    k_with "call builtin:str.join" => (((k_dflt (refine' join_S ?Fk1aFE4 ?Nk1aFE4 ?Gk1aFE4 ?Xk1aFE4 ?Lk1aFE4 ?Kk1aFE4 ?zk1aFE4 ?_; (case Xk1aFE4 => assumption); (case Fk1aFE4 => k_asm); (case Nk1aFE4 => k_asm); (case Gk1aFE4 => assumption); (case Lk1aFE4 => assumption); (case Kk1aFE4 => assumption); (case zk1aFE4 => first | assumption | decide +kernel); k_whole); intro s8 t8 F8 N8 G8 ho8; (try dsimp only at N8 ho8))))
    k_with "eval GeneratorExp" => (((k_dflt (refine' gen_any ?Fk2aFE4 ?Nk2aFE4 ?Tk2aFE4 ?Ck2aFE4 ?hck2aFE4 ?hgk2aFE4 ?Uk2aFE4 ?memk2aFE4 ?tk2aFE4 ?hDk2aFE4 ?hDPk2aFE4 ?Gk2aFE4 ?hhk2aFE4 ?hcok2aFE4 ?hclk2aFE4 ?hcellk2aFE4 ?h0k2aFE4 ?hxk2aFE4 ?hkindk2aFE4 ?hroomk2aFE4 ?hitk2aFE4 ?hsk2aFE4 ?helk2aFE4 ?_; (case Fk2aFE4 => k_asm); (case Nk2aFE4 => k_asm); (case Tk2aFE4 => k_asm); (case hck2aFE4 => exact rfl); (case hgk2aFE4 => exact rfl); (case Ck2aFE4 => kn_code); (case Uk2aFE4 => k_updF); (case memk2aFE4 => k_mem); (case tk2aFE4 => assumption); (case hitk2aFE4 => (intro R hR; refine' ld ?fk2aFE4 ?vk2aFE4 hR; (case fk2aFE4 => k_asm); (case vk2aFE4 => exact rfl))); (case hDk2aFE4 => k_dflt k_mem); (case hDPk2aFE4 => k_ne); (case Gk2aFE4 => assumption); (case hhk2aFE4 => first | exact rfl | k_asm); (case hcok2aFE4 => exact rfl); (case hclk2aFE4 => exact rfl); (case hcellk2aFE4 => decide); (case h0k2aFE4 => exact rfl); (case hxk2aFE4 => exact rfl); (case hkindk2aFE4 => exact rfl); (case hroomk2aFE4 => ktr_room); (case hsk2aFE4 => (intro x9; exact rfl)); (case helk2aFE4 => intro C9 code9 A9 E9 u9 s9 m9 hA9 hn9 hm9; refine' elt_repl ?x1k2aFE4 ?x2k2aFE4 ?x3k2aFE4 ?x4k2aFE4 ?x5k2aFE4 ?x6k2aFE4; (case x5k2aFE4 => exact rfl); (case x6k2aFE4 => exact rfl); (case x1k2aFE4 => intro Q9 h9; exact wpAny_Name (wpAny_loadName_local rfl rfl hn9 hm9 h9) (by decide)); (case x2k2aFE4 => first | decide | (simp only [List.length_cons, List.length_nil]; omega)); (case x3k2aFE4 => first | assumption | decide +kernel); (case x4k2aFE4 => first | assumption | decide +kernel)); k_whole); intro a9 s9 ps9 K9 ht9 F9 N9 G9 ho9 hL9 hN9 X9; (try dsimp only at N9 ho9))))
    k_with "call builtin:str.find" => (((first | (refine find_no (by decide +kernel) (by omega) (by omega) (by omega) ?_) | (refine' find_yes ?hik3aFE4 ?hjk3aFE4 ?hlk3aFE4 ?hkk3aFE4 ?_; (case hkk3aFE4 => assumption); (case hik3aFE4 => omega); (case hjk3aFE4 => omega); (case hlk3aFE4 => omega)))))
    k_with "getMethod str" => (((with_reducible refine gm_translate ?_)))
    k_with "call builtin:str.translate" => ((((with_reducible rename Fr _ _ _ _ => lF'); (with_reducible rename News _ _ _ _ => lN'); k_dflt (refine' tr_K lF' lN' ?Xk5aFE4 ?ck5aFE4 ?hk5aFE4 ?_; (case Xk5aFE4 => k_asm); (case ck5aFE4 => assumption); (case hk5aFE4 => first | exact rfl | k_asm); k_whole); intro h' t' k' F' N')))
    k_with "call ref" => (first | (k_dflt ((refine' app_call ?Fk6aFE4 ?Nk6aFE4 ?Uk6aFE4 ?mk6aFE4 ?uk6aFE4 ?zk6aFE4 ?_; (case Fk6aFE4 => k_asm); (case Nk6aFE4 => k_asm); (case uk6aFE4 => k_mem); (case mk6aFE4 => k_mem); (case Uk6aFE4 => k_updF); (case zk6aFE4 => assumption); k_whole); intro h' cnt' F' N'; (try dsimp only at N'))) | ((k_here; k_dflt (refine wpAny_call ?_; (refine' code_def ?k1k6bFE4 ?k2k6bFE4 ?k3k6bFE4 ?k4k6bFE4 ?k5k6bFE4 ?kAk6bFE4 ?kFk6bFE4 ?kKk6bFE4 ?k6k6bFE4 ?k7k6bFE4 ?k8k6bFE4 ?k9k6bFE4 ?kBk6bFE4 ?_ ?c2k6bFE4 ?c3k6bFE4 ?c4k6bFE4 ?c5k6bFE4; (case kAk6bFE4 => exact rfl); (case kFk6bFE4 => exact rfl); (case kKk6bFE4 => first | exact rfl | assumption); (case k1k6bFE4 => k_asm); (case k2k6bFE4 => k_asm); (case k3k6bFE4 => k_asm); (case k4k6bFE4 => k_asm); (case k5k6bFE4 => k_asm); (case k6k6bFE4 => k_is); (case k7k6bFE4 => k_is); (case k8k6bFE4 => ktr_room); (case k9k6bFE4 => exact BindsTo.of_eq rfl); (case c5k6bFE4 => decide); (case kBk6bFE4 => exact locs rfl); (case c2k6bFE4 => exact rfl); (case c3k6bFE4 => exact rfl); (case c4k6bFE4 => exact rfl); k_whole; intro g' L' h' FG' F' N' B' X' T'; (try dsimp only); (try k_lift B'); (try k_fold))))))
    k_with "getAttr ref" => (((k_dflt (refine' app_made ?Fk7aFE4 ?Nk7aFE4 ?memk7aFE4 ?_; (case Fk7aFE4 => k_asm); (case Nk7aFE4 => k_asm); (case memk7aFE4 => k_mem); k_whole); intro u' h' tk' F' N' l9; (try dsimp only at N'); have n1 : @Ne Nat _ _ := l9 _ (List.mem_cons_self ..); have n2 : @Ne Nat _ _ := l9 _ (List.mem_cons_of_mem _ (List.mem_cons_self ..)); have n3 : @Ne Nat _ _ := l9 _ (List.mem_cons_of_mem _ (List.mem_cons_of_mem _ (List.mem_cons_self ..))); dsimp only at n1 n2 n3)))
    k_with "callWith ref" => ((k_dflt (refine' callWith_app ?Nk8aFE4 ?Mk8aFE4 ?_; (case Nk8aFE4 => k_asm); (case Mk8aFE4 => k_mem); k_whole)))
    k_with "And" => ((((with_reducible show AppAt _ _ _ ∧ _); k_dflt (refine ⟨News.get (by k_asm) (by k_mem), ?_⟩); (try dsimp only [List.nil_append, List.cons_append]))))
    k_with "WhlIf" => ((first | (refine WhlIf.yes rfl ?_) | (refine WhlIf.no rfl ?_) | (refine WhlIf.no (by first | assumption | (simp only [decide_eq_false_iff_not]; omega)) ?_) | (refine WhlIf.yes (by first | assumption | (simp only [decide_eq_true_eq]; omega)) ?_)))
    k_with "call builtin:len" => (((refine len_S (by omega) ?_)))
    k_with "eval Lambda" => (((k_dflt ((refine' kla_eval ?d0k12aFE4 ?_; (case d0k12aFE4 => exact rfl)); (refine' lam_any ?Fk12aFE4 ?Nk12aFE4 ?Tk12aFE4 ?Ck12aFE4 ?cdk12aFE4 ?Uk12aFE4 ?tk12aFE4 ?clk12aFE4 ?_; (case Fk12aFE4 => k_asm); (case Nk12aFE4 => k_asm); (case Tk12aFE4 => k_asm); (case cdk12aFE4 => exact rfl); (case Ck12aFE4 => kn_code); (case Uk12aFE4 => k_updF); (case tk12aFE4 => assumption); (case clk12aFE4 => exact rfl); k_whole)); intro f' d' dt' sl' h' tk' ps' ht' F' N' l1; (try dsimp only at N'); (try k_lt l1))))
    k_with "call builtin:re.Pattern.sub" => ((((with_reducible rename Fr _ _ _ _ => lF'); (with_reducible rename News _ _ _ _ => lN'); (refine' sub_K lF' lN' ?Xk13aFE4 ?mk13aFE4 ?lk13aFE4 ?_; (case Xk13aFE4 => k_asm); (case mk13aFE4 => k_mem); (case lk13aFE4 => assumption)); intro h' t' k' F' N')))
    k_with "getMethod ref" => ((((with_reducible show wpAny _ _ (getMethod (Value.ref 43) _ _) _ _ _); k_dflt (refine' pat_sub ?Fk14aFE4 ?Xk14aFE4 ?_; (case Fk14aFE4 => k_asm); (case Xk14aFE4 => k_asm)))))
    k_with "truthy str" => (((refine' truthy_S ?nk15aFE4 ?hk15aFE4 ?_; (case nk15aFE4 => first | (simp only [List.length_cons, List.length_nil]; omega) | omega); (case hk15aFE4 => exact (Eq.refl true)))))
    k_with "formatField" => (((refine' fmt_S ?nk16aFE4 ?_; (case nk16aFE4 => first | (simp only [List.length_cons, List.length_nil]; omega) | omega); intro t' tk')))
    k_with "ite" => ((k_dflt (first
  | (refine' PySem.W.ite_pos ?cck17aFE4 ?_; (case cck17aFE4 => first | rfl | (simp only [beq_iff_eq, decide_eq_true_eq, bne_iff_ne, ne_eq]; omega)))
  | (refine' PySem.W.ite_neg ?cck17aFE4 ?_; (case cck17aFE4 => first | exact Bool.false_ne_true | exact Bool.eq_false_iff.mp (by assumption) | (simp only [beq_iff_eq, decide_eq_true_eq, bne_iff_ne, ne_eq]; omega))))))
    k_with "subscriptTail Name Slice str ref" => ((((with_reducible rename Fr _ _ _ _ => lF'); (with_reducible rename News _ _ _ _ => lN'); (refine' slice_S (s := ⟨_, _, _, _, _⟩) lF' lN' ?nk18aFE4 ?ek18aFE4 ?_; (case ek18aFE4 => assumption); (case nk18aFE4 => omega)); intro h' t' k' F' N')))
    k_with "call builtin:str.replace" => (((refine' repl_none ?ak19aFE4 ?_; (case ak19aFE4 => assumption))))
    k_with "compareOp Eq str str" => (((refine' cmp_eq ?hk20aFE4 ?_; (case hk20aFE4 => first | assumption | exact (by decide +kernel : _ = true) | exact (by decide +kernel : _ = false)))))
    k_with "compareOp NotEq str str" => (((refine' cmp_ne ?hk21aFE4 ?_; (case hk21aFE4 => first | assumption | exact (by decide +kernel : _ = true) | exact (by decide +kernel : _ = false)))))
    k_with "execs cons" => ((k_dflt ((first | k_gentoks | ((with_reducible refine wpAny_execs_cons ?_); (try dsimp only); (try k_fold))))))
    k_steps
    with_reducible rename Fr h₀ L _ m => kF
    with_reducible rename News h₀ L _ _ => kN
    obtain rfl : os2 = [] := by cases e3; rfl
    refine ret _ vs cnt ps' s' kF (News.perm kN fun _ hp => List.Mem.tail _ hp) e7 ?_ e8 e9 hal0
    rw [e4, List.append_nil]; exact e5
theorem trans_call {w : World} {p : Program} {loose : List Str} {mean : ExcName → Option Value} {mg mb : Str → Option Value}
    {dp un : Nat} {gd : Option (List Code)} {cn : Str} {cs : PySem.Scope} {a : Addr} {ccd : Value} {cl : List (Str × Addr)} {outer : List Env} {A₀ : Around} {base h₀ : Heap} {L : Addr} {m : Str → Option Value} {s : Shared} {Q : Value → Shared → Prop} {E : Value → Shared → Prop}
    {rest : List (Addr × Obj)} {P : List Nat} {tp : Tok} {ps : Array Value} {toks outs : List (List Nat)}
    (B : Below A₀ base outer h₀) (F : Fr h₀ L s.heap m) (X : (hd.heap_39 w.params).In h₀) (N : News h₀ L s.heap ((64, tabObj ps) :: rest)) (T : Top p loose mean mg mb h₀) (hk : cs.kind = .function) (C : CodeHd base 68 64) (h64 : ∀ p ∈ rest, p.1 ≠ 64) (ht : TabOk ps.toList) (G : AllBare s.gens)
    (hP : P = toks.flatten) (hT : Tks toks outs) (hl : toks.length ≤ 20) (hPl : P.length ≤ 100) (hol : outs.flatten.length ≤ 1000)
    (hdp : dp + 120 < recursionLimit) (hu : un + 600 < cLine)
    (ret : ∀ (t : Tok) (ps' : Array Value) (s' : Shared), Fr h₀ L s'.heap m → News h₀ L s'.heap ((64, tabObj ps') :: rest) → TabOk ps'.toList → AllBare s'.gens → s'.os = s.os → Q (.str (S ([40, 63, 115, 58] ++ outs.flatten ++ [41, 92, 90])) t) s') :
    wpAny (model PySem.Challenge.rw_ik0122_01.row.prog w) (ktrTop dp un gd cn cs L a ccd cl outer) (call (.ref 50) [.str (S P) tp]) Q E s := by
  revert X; k_fill; intro X
  refine wpAny_call ?_
  k_dflt cell_enter
  k_with_none
  have hGs := G
  have hol2 : outs.length ≤ 20 := by rw [← tks_len hT]; exact hl
  k_with "call type:object" => ((k_dflt ((k_dflt (refine' obj_K ?Fk0aFT ?Nk0aFT ?Xk0aFT ?_; (case Fk0aFT => k_asm); (case Nk0aFT => k_asm); (case Xk0aFT => k_asm); k_whole); intro a' h' tk' F' N' l9; have n1 : @Ne Nat _ _ := l9 _ (List.mem_cons_self ..); dsimp only at n1))))
  k_with "call ref" => ((k_dflt ((first
    | (refine' parts_call ?Bk1aFT ?Fk1aFT ?Xk1aFT ?Nk1aFT ?Tk1aFT ?hkk1aFT ?Ck1aFT ?h64k1aFT ?hsk1aFT ?htk1aFT ?Gk1aFT hP hT hl hPl ?hdpk1aFT ?huk1aFT ?_; (case Nk1aFT => k_asm); (case Bk1aFT => k_asm); (case Fk1aFT => k_asm); (case Xk1aFT => k_asm); (case Tk1aFT => k_asm); (case hkk1aFT => first | rfl | assumption); (case Ck1aFT => exact C); (case h64k1aFT => exact h64); (case hsk1aFT => exact Ne.symm (by assumption)); (case htk1aFT => exact ht); (case Gk1aFT => assumption); (case hdpk1aFT => dsimp only; omega); (case huk1aFT => dsimp only; omega); intro l1 vs1 cnt1 ps1 s1 F' N' ht1 hv1 G1 ho1 hal1)
    | (refine' glue_call ?Bk1aFT ?Fk1aFT ?Xk1aFT ?Nk1aFT ?Tk1aFT ?hkk1aFT ?hvk1aFT ?hnk1aFT hol ?hdpk1aFT ?huk1aFT ?_; (case hvk1aFT => assumption); (case Nk1aFT => k_asm); (case Bk1aFT => k_asm); (case Fk1aFT => k_asm); (case Xk1aFT => k_asm); (case Tk1aFT => k_asm); (case hkk1aFT => first | rfl | assumption); (case hnk1aFT => ((have e9 := strs_len (by assumption : StrsAre _ (List.map S outs))); rw [List.length_map] at e9; omega)); (case hdpk1aFT => dsimp only; omega); (case huk1aFT => dsimp only; omega); intro t2 h2 tk2 F' N')))))
  k_steps
  with_reducible rename Fr h₀ L _ m => kF
  with_reducible rename News h₀ L _ _ => kN
  exact ret _ _ _ kF (News.perm kN fun _ hp => List.Mem.tail _ (List.Mem.tail _ hp)) (by assumption) (by assumption) (by assumption)
theorem four_first {w : World} {p : Program} {loose : List Str} {mean : ExcName → Option Value} {mg mb : Str → Option Value}
    {dp un : Nat} {gd : Option (List Code)} {cn : Str} {cs : PySem.Scope} {a : Addr} {ccd : Value} {cl : List (Str × Addr)} {outer : List Env} {A₀ : Around} {base h₀ : Heap} {L : Addr} {m : Str → Option Value} {s : Shared} {Q : Value → Shared → Prop} {E : Value → Shared → Prop}
    {rest : List (Addr × Obj)} {R : Nat} {tR : Tok} 
    (B : Below A₀ base outer h₀) (F : Fr h₀ L s.heap m) (X : (hd.heap_39 w.params).In h₀) (N : News h₀ L s.heap ((33, tabObj #[]) :: rest)) (T : Top p loose mean mg mb h₀) (hk : cs.kind = .function) (C : CodeHd base 37 33) (h33 : ∀ p ∈ rest, p.1 ≠ 33) (hR : R < 4096)
    (hdp : dp + 140 < recursionLimit) (hu : un + 700 < cLine)
    (ret : ∀ (D : Nat) c' oc' vsc' t' vs cnt h' tk', IntsAre vs (digs 3 4 R) → AllLt c' rest → oc'.data = .fields vsc' → vsc'[1]? = some (.str (Str.ofString "_int2digits.<locals>.inner") t') → (33 < D ∧ c' < D ∧ AllLt D rest) → Fr h₀ L h' m → News h₀ L h' ((D, W.listOf vs.toArray cnt) :: (33, tabObj #[rawInt 6, rawInt 4, .ref c']) :: (c', oc') :: rest) → Q (.ref D) { s with heap := h', toks := tk' }) :
    wpAny (model PySem.Challenge.rw_ik0122_01.row.prog w) (ktrTop dp un gd cn cs L a ccd cl outer) (call (.ref 137) [.int (R : Int) tR]) Q E s := by
  revert X; k_fill; intro X
  have hK1 := kOf_div R
  have hK2 := kOf_le hR
  refine wpAny_call ?_
  k_dflt cell_enter
  k_with_none
  k_with "execs cons" => ((k_dflt ((first | k_gentoks | ((with_reducible refine wpAny_execs_cons ?_); (try dsimp only); (try k_fold))))))
  k_with "call ref" => ((k_dflt (((rename News _ _ _ _ => lN); refine' digits_first (b := 3) (x0 := R) (K := kOf R) ?Bk1aFVf ?Fk1aFVf ?Xk1aFVf ?Nk1aFVf ?Tk1aFVf ?hkk1aFVf ?Ck1aFVf ?h33k1aFVf ?hxk1aFVf ?hx64k1aFVf ?hnk1aFVf ?hbk1aFVf ?hKk1aFVf ?hK0k1aFVf ?hK1k1aFVf ?hKXk1aFVf ?hdpk1aFVf ?huk1aFVf ?_; (case Nk1aFVf => exact lN); (case Bk1aFVf => k_asm); (case Fk1aFVf => k_asm); (case Xk1aFVf => k_asm); (case Tk1aFVf => k_asm); (case hkk1aFVf => first | rfl | assumption); (case Ck1aFVf => exact C); (case h33k1aFVf => exact h33); (case hxk1aFVf => exact rfl); (case hnk1aFVf => exact (rfl : (3 : Int) = ((3 : Nat) : Int))); (case hbk1aFVf => decide); (case hKk1aFVf => exact hK1); (case hK0k1aFVf => exact kOf_pos); (case hK1k1aFVf => omega); (case hKXk1aFVf => exact kOf_lt R); (case hx64k1aFVf => omega); (case hdpk1aFVf => dsimp only; omega); (case huk1aFVf => dsimp only; omega); intro D1 c1 vs1 cnt1 oc1 vsc1 t1 h1 tk1 hv1 hz1 ho1 hq1 F1 N1))))
  k_with "call builtin:len" => ((k_dflt ((k_dflt (refine' len_Lx (x := (kOf R : Int)) ?zlk2aFVf ?zxk2aFVf ?znk2aFVf ?_; (case zlk2aFVf => is_list); (case zxk2aFVf => exact congrArg _ (digs_vs hv1)); (case znk2aFVf => exact Nat.le_trans (Nat.le_of_eq (digs_vs hv1)) (by omega)))))))
  k_with "binaryOp Add ref ref" => (k_dflt (refine' kmk_add_ints ?zFFVf ?zNFVf ?zaFVf ?zbFVf hv1 ?zjFVf ?_ (four_room hR); (case zFFVf => k_asm); (case zNFVf => k_asm); (case zaFVf => is_list); (case zbFVf => is_list); (case zjFVf => assumption)); intro D9 us9 h9 F9 N9 l9 hI9; (try k_lt l9))
  k_steps
  with_reducible rename Fr h₀ L _ m => kF
  with_reducible rename News h₀ L _ _ => kN
  refine' ret _ _ _ _ _ _ _ _ _ (four_ints hR (by assumption)) hz1 ho1 hq1 ?_ kF (News.perm kN sub_first)
  have hh := (by assumption : _ ∧ _ ∧ _ ∧ _ ∧ _ ∧ AllLt _ rest)
  exact ⟨hh.2.2.2.1, hh.2.2.2.2.1, hh.2.2.2.2.2⟩
theorem four_next {w : World} {p : Program} {loose : List Str} {mean : ExcName → Option Value} {mg mb : Str → Option Value}
    {dp un : Nat} {gd : Option (List Code)} {cn : Str} {cs : PySem.Scope} {a : Addr} {ccd : Value} {cl : List (Str × Addr)} {outer : List Env} {A₀ : Around} {base h₀ : Heap} {L : Addr} {m : Str → Option Value} {s : Shared} {Q : Value → Shared → Prop} {E : Value → Shared → Prop}
    {rest : List (Addr × Obj)} {R : Nat} {tR : Tok} {c' : Addr} {oc : Obj} {vsc : Array Value} {t : Tok} (hoc : oc.data = .fields vsc) (hq : vsc[1]? = some (.str (Str.ofString "_int2digits.<locals>.inner") t))
    (B : Below A₀ base outer h₀) (F : Fr h₀ L s.heap m) (X : (hd.heap_39 w.params).In h₀) (N : News h₀ L s.heap ((33, tabObj #[rawInt 6, rawInt 4, .ref c']) :: (c', oc) :: rest)) (T : Top p loose mean mg mb h₀) (hk : cs.kind = .function) (C : CodeHd base 37 33) (h33 : ∀ p ∈ rest, p.1 ≠ 33) (hR : R < 4096)
    (hdp : dp + 140 < recursionLimit) (hu : un + 700 < cLine)
    (ret : ∀ (D : Nat)  vs cnt h' tk', IntsAre vs (digs 3 4 R) → (33 < D ∧ c' < D ∧ AllLt D rest) → Fr h₀ L h' m → News h₀ L h' ((D, W.listOf vs.toArray cnt) :: (33, tabObj #[rawInt 6, rawInt 4, .ref c']) :: (c', oc) :: rest) → Q (.ref D) { s with heap := h', toks := tk' }) :
    wpAny (model PySem.Challenge.rw_ik0122_01.row.prog w) (ktrTop dp un gd cn cs L a ccd cl outer) (call (.ref 137) [.int (R : Int) tR]) Q E s := by
  revert X; k_fill; intro X
  have hK1 := kOf_div R
  have hK2 := kOf_le hR
  refine wpAny_call ?_
  k_dflt cell_enter
  k_with_none
  k_with "execs cons" => ((k_dflt ((first | k_gentoks | ((with_reducible refine wpAny_execs_cons ?_); (try dsimp only); (try k_fold))))))
  k_with "call ref" => ((k_dflt (((rename News _ _ _ _ => lN); refine' digits_next (b := 3) (x0 := R) (K := kOf R) hoc hq ?Bk1aFVf ?Fk1aFVf ?Xk1aFVf ?Nk1aFVf ?Tk1aFVf ?hkk1aFVf ?Ck1aFVf ?h33k1aFVf ?hxk1aFVf ?hx64k1aFVf ?hnk1aFVf ?hbk1aFVf ?hKk1aFVf ?hK0k1aFVf ?hK1k1aFVf ?hKXk1aFVf ?hdpk1aFVf ?huk1aFVf ?_; (case Nk1aFVf => exact lN); (case Bk1aFVf => k_asm); (case Fk1aFVf => k_asm); (case Xk1aFVf => k_asm); (case Tk1aFVf => k_asm); (case hkk1aFVf => first | rfl | assumption); (case Ck1aFVf => exact C); (case h33k1aFVf => exact h33); (case hxk1aFVf => exact rfl); (case hnk1aFVf => exact (rfl : (3 : Int) = ((3 : Nat) : Int))); (case hbk1aFVf => decide); (case hKk1aFVf => exact hK1); (case hK0k1aFVf => exact kOf_pos); (case hK1k1aFVf => omega); (case hKXk1aFVf => exact kOf_lt R); (case hx64k1aFVf => omega); (case hdpk1aFVf => dsimp only; omega); (case huk1aFVf => dsimp only; omega); intro D1 vs1 cnt1 h1 tk1 hv1 hz1 F1 N1))))
  k_with "call builtin:len" => ((k_dflt ((k_dflt (refine' len_Lx (x := (kOf R : Int)) ?zlk2aFVf ?zxk2aFVf ?znk2aFVf ?_; (case zlk2aFVf => is_list); (case zxk2aFVf => exact congrArg _ (digs_vs hv1)); (case znk2aFVf => exact Nat.le_trans (Nat.le_of_eq (digs_vs hv1)) (by omega)))))))
  k_with "binaryOp Add ref ref" => (k_dflt (refine' kmk_add_ints ?zFFVf ?zNFVf ?zaFVf ?zbFVf hv1 ?zjFVf ?_ (four_room hR); (case zFFVf => k_asm); (case zNFVf => k_asm); (case zaFVf => is_list); (case zbFVf => is_list); (case zjFVf => assumption)); intro D9 us9 h9 F9 N9 l9 hI9; (try k_lt l9))
  k_steps
  with_reducible rename Fr h₀ L _ m => kF
  with_reducible rename News h₀ L _ _ => kN
  refine' ret _ _ _ _ _ (four_ints hR (by assumption)) ?_ kF (News.perm kN sub_first)
  have hh := (by assumption : _ ∧ _ ∧ _ ∧ _ ∧ _ ∧ AllLt _ rest)
  exact ⟨hh.2.2.2.1, hh.2.2.2.2.1, hh.2.2.2.2.2⟩
theorem rest_in {g h : Heap} {L : Addr} {d : Nat} {o : Obj} {c : Addr × Obj} {news : List (Addr × Obj)} (N : News g L h news) (m1 : (d, o) ∈ news) (m2 : c ∈ news) : News g L h ((d, o) :: c :: news.filter fun p => decide (p.1 ≠ d)) := fun p hp => by
  rcases List.mem_cons.mp hp with rfl | hp
  · exact N _ m1
  · rcases List.mem_cons.mp hp with rfl | hp
    · exact N _ m2
    · exact N _ ((List.mem_filter.mp hp).1)
theorem rest_ne {d : Nat} {news : List (Addr × Obj)} : ∀ p ∈ (news.filter fun p => decide (p.1 ≠ d)), p.1 ≠ d := fun p hp => by
  have := (List.mem_filter.mp hp).2
  simpa using this
theorem rest_out {g h h' : Heap} {L : Addr} {d : Nat} {o : Obj} {c x : Addr × Obj} {news : List (Addr × Obj)} (N : News g L h news) (m1 : (d, o) ∈ news) (N' : News g L h' (x :: (d, o) :: c :: news.filter fun p => decide (p.1 ≠ d))) : News g L h' (x :: news) := fun p hp => by
  rcases List.mem_cons.mp hp with rfl | hp
  · exact N' _ (.head _)
  · by_cases e : p.1 = d
    · have h1 := (N p hp).1
      have h2 := (N _ m1).1
      have e2 : p = (d, o) := by
        obtain ⟨p1, p2⟩ := p
        dsimp only at e h1 h2
        subst e
        rw [h1] at h2
        cases h2; rfl
      rw [e2]; exact N' _ (.tail _ (.head _))
    · exact N' _ (.tail _ (.tail _ (.tail _ (List.mem_filter.mpr ⟨hp, by simpa using e⟩))))
theorem sub2 {x y : Addr × Obj} {r : List (Addr × Obj)} : ∀ p ∈ x :: y :: [], p ∈ x :: y :: r := fun p hp => by
  rcases List.mem_cons.mp hp with rfl | hp
  · exact .head _
  · rcases List.mem_cons.mp hp with rfl | hp
    · exact .tail _ (.head _)
    · cases hp
theorem all_lt {d D : Nat} (h0 : d < D) : ∀ {news : List (Addr × Obj)}, AllLt D (news.filter fun p => decide (p.1 ≠ d)) → AllLt D news
  | [], _ => trivial
  | p :: r, hl => by
    by_cases e : p.1 = d
    · rw [List.filter_cons_of_neg (by simpa using e)] at hl
      exact ⟨by rw [e]; exact h0, all_lt h0 hl⟩
    · rw [List.filter_cons_of_pos (by simpa using e)] at hl
      exact ⟨hl.1, all_lt h0 hl.2⟩
theorem digits_M {w : World} {p : Program} {loose : List Str} {mean : ExcName → Option Value} {mg mb : Str → Option Value}
    {dp un : Nat} {gd : Option (List Code)} {cn : Str} {cs : PySem.Scope} {a : Addr} {ccd : Value} {cl : List (Str × Addr)} {outer : List Env} {A₀ : Around} {base h₀ : Heap} {L : Addr} {m : Str → Option Value} {s : Shared} {Q : Value → Shared → Prop} {E : Value → Shared → Prop}
    {news : List (Addr × Obj)} {x n : Int} {tx tn : Tok} {K x0 b : Nat} {c' : Addr} {oc : Obj} {vsc : Array Value} {t : Tok} (hoc : oc.data = .fields vsc) (hq : vsc[1]? = some (.str (Str.ofString "_int2digits.<locals>.inner") t))
    (B : Below A₀ base outer h₀) (F : Fr h₀ L s.heap m) (X : (hd.heap_39 w.params).In h₀) (N : News h₀ L s.heap news) (m1 : (33, tabObj #[rawInt 6, rawInt 4, .ref c']) ∈ news) (m2 : (c', oc) ∈ news) (T : Top p loose mean mg mb h₀) (hk : cs.kind = .function) (C : CodeHd base 37 33) (hx : x = (x0 : Int)) (hx64 : x0 < 2 ^ 60) (hn : n = (b : Int)) (hb : 1 ≤ b ∧ b ≤ 8) (hK : ((Builtin.Int.intBits x : Int) + n - 1).fdiv n = (K : Int)) (hK0 : x0 ≠ 0 → 1 ≤ K) (hK1 : K ≤ 16) (hKX : x0 < 2 ^ (b * K))
    (hdp : dp + 80 < recursionLimit) (hu : un + 400 < cLine)
    (ret : ∀ D' vs' cnt' h' tk', IntsAre vs' (digs b K x0) → AllLt D' news → Fr h₀ L h' m → News h₀ L h' ((D', W.listOf vs'.toArray cnt') :: news) → Q (.ref D') { s with heap := h', toks := tk' }) :
    wpAny (model PySem.Challenge.rw_ik0122_01.row.prog w) (ktrTop dp un gd cn cs L a ccd cl outer) (call (.ref 38) [.int x tx, .int n tn]) Q E s :=
  digits_next hoc hq B F X (rest_in N m1 m2) T hk C rest_ne hx hx64 hn hb hK hK0 hK1 hKX hdp hu fun D' vs' cnt' h' tk' hi hl F' N' => ret D' vs' cnt' h' tk' hi (all_lt hl.1 hl.2) F' (rest_out N m1 N')
theorem pas_call {w : World} {p : Program} {loose : List Str} {mean : ExcName → Option Value} {mg mb : Str → Option Value}
    {dp un : Nat} {gd : Option (List Code)} {cn : Str} {cs : PySem.Scope} {a : Addr} {ccd : Value} {cl : List (Str × Addr)} {outer : List Env} {A₀ : Around} {base h₀ : Heap} {L : Addr} {m : Str → Option Value} {s : Shared} {Q : Value → Shared → Prop} {E : Value → Shared → Prop}
    {news : List (Addr × Obj)} {f : Nat} {tx tn : Tok} {c' : Addr} {oc : Obj} {vsc : Array Value} {t : Tok} (hoc : oc.data = .fields vsc) (hq : vsc[1]? = some (.str (Str.ofString "_int2digits.<locals>.inner") t))
    (B : Below A₀ base outer h₀) (F : Fr h₀ L s.heap m) (X : (hd.heap_39 w.params).In h₀) (N : News h₀ L s.heap news) (m1 : (33, tabObj #[rawInt 6, rawInt 4, .ref c']) ∈ news) (m2 : (c', oc) ∈ news) (T : Top p loose mean mg mb h₀) (hk : cs.kind = .function) (C : CodeHd base 37 33) (hf : f < 8)
    (hdp : dp + 80 < recursionLimit) (hu : un + 400 < cLine)
    (ret : ∀ D' vs' cnt' h' tk', IntsAre vs' (lineOf f) → AllLt D' news → Fr h₀ L h' m → News h₀ L h' ((D', W.listOf vs'.toArray cnt') :: news) → Q (.ref D') { s with heap := h', toks := tk' }) :
    wpAny (model PySem.Challenge.rw_ik0122_01.row.prog w) (ktrTop dp un gd cn cs L a ccd cl outer) (call (.ref 38) [.int ((65 ^ f : Nat) : Int) tx, .int 6 tn]) Q E s := by
  obtain ⟨p1, p2, p3, p4⟩ := pow65 f hf
  exact digits_M (b := 6) (K := f + 1) (x0 := 65 ^ f) hoc hq B F X N m1 m2 T hk C rfl p3 rfl (by decide) p1 (fun _ => Nat.succ_pos f) (by omega) p2 hdp hu ret
theorem four_M {w : World} {p : Program} {loose : List Str} {mean : ExcName → Option Value} {mg mb : Str → Option Value}
    {dp un : Nat} {gd : Option (List Code)} {cn : Str} {cs : PySem.Scope} {a : Addr} {ccd : Value} {cl : List (Str × Addr)} {outer : List Env} {A₀ : Around} {base h₀ : Heap} {L : Addr} {m : Str → Option Value} {s : Shared} {Q : Value → Shared → Prop} {E : Value → Shared → Prop}
    {news : List (Addr × Obj)} {R : Nat} {tR : Tok} {c' : Addr} {oc : Obj} {vsc : Array Value} {t : Tok} (hoc : oc.data = .fields vsc) (hq : vsc[1]? = some (.str (Str.ofString "_int2digits.<locals>.inner") t))
    (B : Below A₀ base outer h₀) (F : Fr h₀ L s.heap m) (X : (hd.heap_39 w.params).In h₀) (N : News h₀ L s.heap news) (m1 : (33, tabObj #[rawInt 6, rawInt 4, .ref c']) ∈ news) (m2 : (c', oc) ∈ news) (T : Top p loose mean mg mb h₀) (hk : cs.kind = .function) (C : CodeHd base 37 33) (hR : R < 4096)
    (hdp : dp + 140 < recursionLimit) (hu : un + 700 < cLine)
    (ret : ∀ (D : Nat) t0 t1 t2 t3 cnt h' tk', AllLt D news → Fr h₀ L h' m → News h₀ L h' ((D, W.listOf #[.int ((fig R 0 : Nat) : Int) t0, .int ((fig R 1 : Nat) : Int) t1, .int ((fig R 2 : Nat) : Int) t2, .int ((fig R 3 : Nat) : Int) t3] cnt) :: news) → Q (.ref D) { s with heap := h', toks := tk' }) :
    wpAny (model PySem.Challenge.rw_ik0122_01.row.prog w) (ktrTop dp un gd cn cs L a ccd cl outer) (call (.ref 137) [.int (R : Int) tR]) Q E s :=
  four_next hoc hq B F X (rest_in N m1 m2) T hk C rest_ne hR hdp hu fun D vs cnt h' tk' hi hl F' N' => by
    obtain ⟨t0, t1, t2, t3, rfl⟩ := four_vs hi
    exact ret D t0 t1 t2 t3 cnt h' tk' (all_lt hl.1 hl.2.2) F' (rest_out N m1 N')
section
local macro_rules | `(tactic| k_ne) => `(tactic| first | assumption | exact Ne.symm (by assumption) | (refine neN ?walk_ne; (try dsimp only); omega))
theorem lines_step {w : World} {p : Program} {loose : List Str} {mean : ExcName → Option Value} {mg mb : Str → Option Value} {h₀ : Heap} {L : Addr} {m : Str → Option Value} {s : Shared} {Q : Flow → Shared → Prop} {E : Value → Shared → Prop} {fa : Addr} {cd : Value}
    {nm : Str} {ps : Arguments} {x0 x1 x2 x3 x4 x5 x6 st : Stmt} {more : List Stmt} {dl : List Expr} {re : Option Expr} {tp : List TypeParam} {sc : PySem.Scope} {ts : Option PySem.Scope} {bn : Str} {po : Pos}
    {R : Nat} {tR : Tok} {v3 : Option Value} {o3 o4 : Obj} {pz : Array Value}
    (hdef : lawDef = .FunctionDef nm ps (x0 :: x1 :: x2 :: x3 :: x4 :: x5 :: x6 :: st :: more) dl re tp sc ts bn po)
    (B : Below callerA h₀ [] h₀) (F : Fr h₀ L s.heap m) (X : (hd.heap_39 w.params).In h₀) (T : Top p loose mean mg mb h₀)
    (N : News h₀ L s.heap ((33, tabObj #[]) :: (L + 1 + 1 + 1, o3) :: (L + 1 + 1 + 1 + 1, o4) :: (64, tabObj pz) :: []))
    (d3 : o3.data = .cell v3) (hL : @LT.lt Nat _ 64 L) (hm : m (Str.ofString "rights") = some (.int (R : Int) tR)) (hR : R < 4096) (C : CodeHd h₀ 37 33)
    (ret : ∀ (D7 A0 A1 A2 A3 k0 k1 k2 k3 c3 : Nat) (w0 w1 w2 w3 : List Value) (oc3 o3' : Obj) (vsc3 : Array Value) (tc3 : Tok) (h' : Heap) (tk' : Nat), IntsAre w0 (lineOf (fig R 0)) → IntsAre w1 (lineOf (fig R 1)) → IntsAre w2 (lineOf (fig R 2)) → IntsAre w3 (lineOf (fig R 3)) → o3'.data = .cell (some (.ref D7)) → oc3.data = .fields vsc3 → vsc3[1]? = some (.str (Str.ofString "_int2digits.<locals>.inner") tc3) →
      AllNot (L + 1 + 1 + 1 + 1) ((D7, LCg.lst [.ref A0, .ref A1, .ref A2, .ref A3]) :: (A3, W.listOf w3.toArray k3) :: (A2, W.listOf w2.toArray k2) :: (A1, W.listOf w1.toArray k1) :: (A0, W.listOf w0.toArray k0) :: (c3, oc3) :: []) →
      Fr h₀ L h' m → News h₀ L h' ((D7, LCg.lst [.ref A0, .ref A1, .ref A2, .ref A3]) :: (A3, W.listOf w3.toArray k3) :: (A2, W.listOf w2.toArray k2) :: (A1, W.listOf w1.toArray k1) :: (A0, W.listOf w0.toArray k0) :: (33, tabObj #[rawInt 6, rawInt 4, .ref c3]) :: (c3, oc3) :: (L + 1 + 1 + 1, o3') :: (L + 1 + 1 + 1 + 1, o4) :: (64, tabObj pz) :: []) →
      Q .next { s with heap := h', toks := tk' }) :
    wpAny (model PySem.Challenge.rw_ik0122_01.row.prog w) (callerA.deeper (envOfC (Str.ofString "law") sc L fa cd)) (exec st (envOfC (Str.ofString "law") sc L fa cd)) Q E s := by
  injection hdef with e1 e2 e3 e4 e5 e6 e7 e8 e9 e10
  injection e3 with a0 r0
  injection r0 with a1 r1
  injection r1 with a2 r2
  injection r2 with a3 r3
  injection r3 with a4 r4
  injection r4 with a5 r5
  injection r5 with a6 r6
  injection r6 with a7 r7
  revert X; k_fill; intro X
  subst a0 a1 a2 a3 a4 a5 a6 a7 r7 e7
  clear e1 e2 e4 e5 e6 e8 e9 e10
  obtain ⟨hp, gens, dr, tks, os⟩ := s
  dsimp only at F N ret ⊢
  have F0 := fr1 F hm
  clear F
  k_with_none
  k_with "subscriptTail Subscript Subscript" => ((k_extra "subscriptTail Subscript Subscript ref int"))
  k_with "eval ListComp" => (((first | (lct_look; k_dflt (refine LCt.ListComp_T (F₀ := by k_asm) (by with_unfolding_all rfl) (by decide) (by rfl) (by decide) (by rfl) ?_)) | ((first | lcg_look | lcf_look); k_dflt (refine LCg.ListComp_U (F₀ := by k_asm) (by with_unfolding_all rfl) (by decide) (by rfl) (by decide) (by rfl) ?_)))))
  k_with "CompEnd" => ((((with_reducible rename Fr _ _ _ _ => lF'); (with_reducible rename News _ _ _ _ => lN'); (with_reducible rename AllNot _ _ => hz'); (with_reducible rename LCg.Off3 _ _ _ _ => of0'); k_dflt (refine' LCg.CompEnd.intro lF' lN' _ rot3 (off_push hz' of0') ?Sk2aFA1 ?Rk2aFA1; (case Sk2aFA1 => exact (.inr ⟨_, by k_mem, rfl, _, rfl⟩))))))
  k_with "CompRest" => ((((with_unfolding_all refine LCg.CompRest.succ ?_); intro v' I' oI' C' oC' D' m' h' tk' E' hv' hC' hx' F' N' off' ne'; (first | lcg_open hv' | (obtain ⟨t9', hv9'⟩ := hv'; subst hv9')); have off0' := off'; (try simp only [LCg.Off3, and_true] at off'))))
  k_with "call ref" => ((k_dflt ((refine Halt.mk ?_))))
  k_steps
  unfold Halt
  rename Fr _ _ _ _ => lF
  rename News _ _ _ _ => lN
  refine' four_first ?wBFA1 ?wFFA1 ?wXFA1 ?wNFA1 ?wTFA1 ?wkFA1 ?wCFA1 ?w33FA1 ?wRFA1 ?wdpFA1 ?wuFA1 ?wretFA1
  case wNFA1 => exact lN
  case wBFA1 => k_asm
  case wFFA1 => k_asm
  case wXFA1 => k_asm
  case wTFA1 => k_asm
  case wkFA1 => rfl
  case wCFA1 => exact C
  case w33FA1 => exact ne_all (by simp only [AllNot, and_true]; omega)
  case wRFA1 => assumption
  case wdpFA1 => decide
  case wuFA1 => decide
  case wretFA1 =>
    intro D3 c3 oc3 vsc3 tc3 vs3 cnt3 h3 tk3 hv3 hz3 ho3 hq3 hl3 F3 N3
    simp only [AllLt, and_true] at hz3 hl3
    obtain ⟨R9, hE9, hv9⟩ := name_R hv3
    subst hE9
    obtain ⟨tr0, tr1, tr2, tr3, rfl⟩ := four_vs hv9
    clear lF lN
    refine' LCg.CompSrc.ledger (by rfl) (by k_asm) (by k_asm) (by k_mem) size4 ?_
    intro g9
    refine' restG_inv (n := 4) (JL R9 _) ⟨[], rfl, .nil⟩ ?turn4FA1 ?fin4FA1
    case turn4FA1 =>
      intro i4 ys4 nw4 v4 I4 oI4 C4 oC4 D4 m4 h4 tk4 E4 hi4 hJ4 hv4 hC4 hx4 F4 N4 off4 ne4
      obtain ⟨t4, rfl⟩ := fig_at hi4 hv4
      have mm1 := JL_mem hJ4 (p := (33, tabObj #[rawInt 6, rawInt 4, .ref c3])) (by k_mem)
      have mm2 := JL_mem hJ4 (p := (c3, oc3)) (by k_mem)
      have mm3 := JL_mem hJ4 (List.mem_cons_self ..)
      have off5 := off4
      k_with_none
      k_with "subscriptTail Subscript Subscript" => ((k_extra "subscriptTail Subscript Subscript ref int"))
      k_with "eval ListComp" => (((first | (lct_look; k_dflt (refine LCt.ListComp_T (F₀ := by k_asm) (by with_unfolding_all rfl) (by decide) (by rfl) (by decide) (by rfl) ?_)) | ((first | lcg_look | lcf_look); k_dflt (refine LCg.ListComp_U (F₀ := by k_asm) (by with_unfolding_all rfl) (by decide) (by rfl) (by decide) (by rfl) ?_)))))
      k_with "CompEnd" => ((((with_reducible rename Fr _ _ _ _ => lF'); (with_reducible rename News _ _ _ _ => lN'); (with_reducible rename AllNot _ _ => hz'); (with_reducible rename LCg.Off3 _ _ _ _ => of0'); k_dflt (refine' LCg.CompEnd.intro lF' lN' _ rot3 (off_push hz' of0') ?Sk2aFA1 ?Rk2aFA1; (case Sk2aFA1 => exact (.inr ⟨_, by k_mem, rfl, _, rfl⟩))))))
      k_with "CompRest" => ((((with_unfolding_all refine LCg.CompRest.succ ?_); intro v' I' oI' C' oC' D' m' h' tk' E' hv' hC' hx' F' N' off' ne'; (first | lcg_open hv' | (obtain ⟨t9', hv9'⟩ := hv'; subst hv9')); have off0' := off'; (try simp only [LCg.Off3, and_true] at off'))))
      k_with "binaryOp Pow int int" => ((k_dflt ((refine' pow65_call (fig_lt _ _) ?_; intro tP kP))))
      k_with "call ref" => ((k_dflt ((refine Halt.mk ?_))))
      iterate 14 (first | (k_unfold; (try dsimp only)) | walk1 | (dsimp only; walk1) | (leave1; walk_say "STEP leave1"; (try dsimp only)) | fail "no step")
      unfold Halt
      refine' pas_call ho3 hq3 ?xBFA1 ?xFFA1 ?xXFA1 ?xNFA1 ?xmFA1 ?xnFA1 ?xTFA1 ?xkFA1 ?xCFA1 ?xfFA1 ?xdpFA1 ?xuFA1 ?_
      case xNFA1 => exact N4
      case xmFA1 => exact .tail _ (.tail _ (.tail _ mm1))
      case xnFA1 => exact .tail _ (.tail _ (.tail _ mm2))
      case xBFA1 => k_asm
      case xFFA1 => k_asm
      case xXFA1 => k_asm
      case xTFA1 => k_asm
      case xkFA1 => rfl
      case xCFA1 => exact C
      case xfFA1 => exact fig_lt _ _
      case xdpFA1 => decide
      case xuFA1 => decide
      intro D5 vs5 cnt5 h5 tk5 hv5 hz5 F5 N5
      exact LCg.CompEnd.intro F5 N5 _ rot3 (off_push hz5 off5) (srcAt_mem (.tail _ mm3)) (JL_next hJ4 hv5 hz5.2.2.2)
    case fin4FA1 =>
      intro ys4 nw4 hJ4
      obtain ⟨ls4, rfl, hL4⟩ := hJ4
      obtain ⟨A0, A1, A2, A3, w0, w1, w2, w3, k0, k1, k2, k3, rfl, rfl, hw0, hw1, hw2, hw3, hA0, hA1, hA2, hA3⟩ := lines4 hL4
      simp only [AllLt, and_true] at hA0 hA1 hA2 hA3
      simp only [List.cons_append, List.nil_append]
      clear hL4 hv9 hv3
      k_with_none
      k_with "subscriptTail Subscript Subscript" => ((k_extra "subscriptTail Subscript Subscript ref int"))
      k_with "eval ListComp" => (((first | (lct_look; k_dflt (refine LCt.ListComp_T (F₀ := by k_asm) (by with_unfolding_all rfl) (by decide) (by rfl) (by decide) (by rfl) ?_)) | ((first | lcg_look | lcf_look); k_dflt (refine LCg.ListComp_U (F₀ := by k_asm) (by with_unfolding_all rfl) (by decide) (by rfl) (by decide) (by rfl) ?_)))))
      k_with "CompEnd" => ((((with_reducible rename Fr _ _ _ _ => lF'); (with_reducible rename News _ _ _ _ => lN'); (with_reducible rename AllNot _ _ => hz'); (with_reducible rename LCg.Off3 _ _ _ _ => of0'); k_dflt (refine' LCg.CompEnd.intro lF' lN' _ rot3 (off_push hz' of0') ?Sk2aFA1 ?Rk2aFA1; (case Sk2aFA1 => exact (.inr ⟨_, by k_mem, rfl, _, rfl⟩))))))
      k_with "CompRest" => ((((with_unfolding_all refine LCg.CompRest.succ ?_); intro v' I' oI' C' oC' D' m' h' tk' E' hv' hC' hx' F' N' off' ne'; (first | lcg_open hv' | (obtain ⟨t9', hv9'⟩ := hv'; subst hv9')); have off0' := off'; (try simp only [LCg.Off3, and_true] at off'))))
      k_with "call ref" => ((k_dflt ((refine Halt.mk ?_))))
      k_with "exec Assign cons ListComp" => ((k_dflt ((refine Halt.mk ?_))))
      intro D7 h7 tk7 F7 N7 o7
      simp only [LCg.Off1, and_true] at o7
      obtain ⟨o71, o72, o73, o74, o75, o76, o77, o78, o79, o80⟩ := o7
      iterate 1 (first | (k_unfold; (try dsimp only)) | walk1 | (dsimp only; walk1) | (leave1; walk_say "STEP leave1"; (try dsimp only)) | fail "no step")
      rename Fr _ _ _ _ => kF
      rename News _ _ _ _ => kN
      have kF2 := kF
      rw [fr1_eq hm] at kF2
      exact ret _ _ _ _ _ _ _ _ _ _ _ _ _ _ _ _ _ _ _ _ hw0 hw1 hw2 hw3 (by assumption) ho3 hq3 (by simp only [AllNot, and_true]; exact ⟨Ne.symm o79, Nat.ne_of_gt hA3.2.2.2.2.2.2.2.1, Nat.ne_of_gt hA2.2.2.2.2.2.2.1, Nat.ne_of_gt hA1.2.2.2.2.2.1, Nat.ne_of_gt hA0.2.2.2.2.1, Nat.ne_of_gt hz3.2.1⟩) kF2 (drop6 kN)
theorem places_step {w : World} {p : Program} {loose : List Str} {mean : ExcName → Option Value} {mg mb : Str → Option Value} {h₀ : Heap} {L : Addr} {m : Str → Option Value} {s : Shared} {Q : Flow → Shared → Prop} {E : Value → Shared → Prop} {fa : Addr} {cd : Value}
    {nm : Str} {ps : Arguments} {x0 x1 x2 x3 x4 x5 x6 x7 st : Stmt} {more : List Stmt} {dl : List Expr} {re : Option Expr} {tp : List TypeParam} {sc : PySem.Scope} {ts : Option PySem.Scope} {bn : Str} {po : Pos}
    {D7 A0 A1 A2 A3 k0 k1 k2 k3 c3 V : Nat} {w0 w1 w2 w3 : List Value} {tV tc3 : Tok} {v4 : Option Value} {oc3 o3 o4 : Obj} {vsc3 pz : Array Value}
    (hdef : lawDef = .FunctionDef nm ps (x0 :: x1 :: x2 :: x3 :: x4 :: x5 :: x6 :: x7 :: st :: more) dl re tp sc ts bn po)
    (B : Below callerA h₀ [] h₀) (F : Fr h₀ L s.heap m) (X : (hd.heap_39 w.params).In h₀) (T : Top p loose mean mg mb h₀)
    (N : News h₀ L s.heap ((D7, LCg.lst [.ref A0, .ref A1, .ref A2, .ref A3]) :: (A3, W.listOf w3.toArray k3) :: (A2, W.listOf w2.toArray k2) :: (A1, W.listOf w1.toArray k1) :: (A0, W.listOf w0.toArray k0) :: (33, tabObj #[rawInt 6, rawInt 4, .ref c3]) :: (c3, oc3) :: (L + 1 + 1 + 1, o3) :: (L + 1 + 1 + 1 + 1, o4) :: (64, tabObj pz) :: []))
    (d4 : o4.data = .cell v4) (hL : @LT.lt Nat _ 64 L) (hm : m (Str.ofString "wished") = some (.int (V : Int) tV)) (hV : V < 4096) (C : CodeHd h₀ 37 33) (ho3 : oc3.data = .fields vsc3) (hq3 : vsc3[1]? = some (.str (Str.ofString "_int2digits.<locals>.inner") tc3))
    (hz : AllNot (L + 1 + 1 + 1 + 1) ((D7, LCg.lst [.ref A0, .ref A1, .ref A2, .ref A3]) :: (A3, W.listOf w3.toArray k3) :: (A2, W.listOf w2.toArray k2) :: (A1, W.listOf w1.toArray k1) :: (A0, W.listOf w0.toArray k0) :: (c3, oc3) :: []))
    (ret : ∀ (D8 cnt8 : Nat) (u0 u1 u2 u3 : Tok) (o4' : Obj) (h' : Heap) (tk' : Nat), o4'.data = .cell (some (.ref D8)) →
      Fr h₀ L h' m → News h₀ L h' ((D8, W.listOf #[.int ((fig V 0 : Nat) : Int) u0, .int ((fig V 1 : Nat) : Int) u1, .int ((fig V 2 : Nat) : Int) u2, .int ((fig V 3 : Nat) : Int) u3] cnt8) :: (D7, LCg.lst [.ref A0, .ref A1, .ref A2, .ref A3]) :: (A3, W.listOf w3.toArray k3) :: (A2, W.listOf w2.toArray k2) :: (A1, W.listOf w1.toArray k1) :: (A0, W.listOf w0.toArray k0) :: (33, tabObj #[rawInt 6, rawInt 4, .ref c3]) :: (c3, oc3) :: (L + 1 + 1 + 1, o3) :: (L + 1 + 1 + 1 + 1, o4') :: (64, tabObj pz) :: []) →
      Q .next { s with heap := h', toks := tk' }) :
    wpAny (model PySem.Challenge.rw_ik0122_01.row.prog w) (callerA.deeper (envOfC (Str.ofString "law") sc L fa cd)) (exec st (envOfC (Str.ofString "law") sc L fa cd)) Q E s := by
  injection hdef with e1 e2 e3 e4 e5 e6 e7 e8 e9 e10
  injection e3 with a0 r0
  injection r0 with a1 r1
  injection r1 with a2 r2
  injection r2 with a3 r3
  injection r3 with a4 r4
  injection r4 with a5 r5
  injection r5 with a6 r6
  injection r6 with a7 r7
  injection r7 with a8 r8
  revert X; k_fill; intro X
  subst a0 a1 a2 a3 a4 a5 a6 a7 a8 r8 e7
  clear e1 e2 e4 e5 e6 e8 e9 e10
  obtain ⟨hp, gens, dr, tks, os⟩ := s
  dsimp only at F N ret ⊢
  have F0 := fr1 F hm
  clear F
  simp only [AllNot, and_true] at hz
  obtain ⟨z1, z2, z3, z4, z5, z6⟩ := hz
  have z7 : @Ne Nat 33 (L + 1 + 1 + 1 + 1) := by omega
  have z8 : @Ne Nat 64 (L + 1 + 1 + 1 + 1) := by omega
  have z9 : @Ne Nat (L + 1 + 1 + 1) (L + 1 + 1 + 1 + 1) := by omega
  k_with_none
  k_with "subscriptTail Subscript Subscript" => ((k_extra "subscriptTail Subscript Subscript ref int"))
  k_with "eval ListComp" => (((first | (lct_look; k_dflt (refine LCt.ListComp_T (F₀ := by k_asm) (by with_unfolding_all rfl) (by decide) (by rfl) (by decide) (by rfl) ?_)) | ((first | lcg_look | lcf_look); k_dflt (refine LCg.ListComp_U (F₀ := by k_asm) (by with_unfolding_all rfl) (by decide) (by rfl) (by decide) (by rfl) ?_)))))
  k_with "CompEnd" => ((((with_reducible rename Fr _ _ _ _ => lF'); (with_reducible rename News _ _ _ _ => lN'); (with_reducible rename AllNot _ _ => hz'); (with_reducible rename LCg.Off3 _ _ _ _ => of0'); k_dflt (refine' LCg.CompEnd.intro lF' lN' _ rot3 (off_push hz' of0') ?Sk2aFA2 ?Rk2aFA2; (case Sk2aFA2 => exact (.inr ⟨_, by k_mem, rfl, _, rfl⟩))))))
  k_with "CompRest" => ((((with_unfolding_all refine LCg.CompRest.succ ?_); intro v' I' oI' C' oC' D' m' h' tk' E' hv' hC' hx' F' N' off' ne'; (first | lcg_open hv' | (obtain ⟨t9', hv9'⟩ := hv'; subst hv9')); have off0' := off'; (try simp only [LCg.Off3, and_true] at off'))))
  k_with "call ref" => ((k_dflt ((refine' four_M ho3 hq3 ?vBk4aFA2 ?vFk4aFA2 ?vXk4aFA2 ?vNk4aFA2 ?vmk4aFA2 ?vnk4aFA2 ?vTk4aFA2 ?vkk4aFA2 ?vCk4aFA2 ?vfk4aFA2 ?vdpk4aFA2 ?vuk4aFA2 ?_; (case vNk4aFA2 => k_asm); (case vmk4aFA2 => k_mem); (case vnk4aFA2 => k_mem); (case vBk4aFA2 => k_asm); (case vFk4aFA2 => k_asm); (case vXk4aFA2 => k_asm); (case vTk4aFA2 => k_asm); (case vkk4aFA2 => first | rfl | assumption); (case vCk4aFA2 => exact C); (case vfk4aFA2 => assumption); (case vdpk4aFA2 => decide); (case vuk4aFA2 => decide); intro D8 u0 u1 u2 u3 cnt8 h8 tk8 hz8 F8 N8; (simp only [AllLt, and_true] at hz8); have z0 : @Ne Nat D8 (L + 1 + 1 + 1 + 1) := Nat.ne_of_gt hz8.2.2.2.2.2.2.2.2.1))))
  k_steps
  rename Fr _ _ _ _ => kF
  rename News _ _ _ _ => kN
  have kF2 := kF
  rw [fr1_eq hm] at kF2
  exact ret _ _ _ _ _ _ _ _ _ (by assumption) kF2 kN
mutual
theorem entries_step {w : World} {p : Program} {loose : List Str} {mean : ExcName → Option Value} {mg mb : Str → Option Value} {h₀ : Heap} {L : Addr} {m : Str → Option Value} {s : Shared} {Q : Flow → Shared → Prop} {E : Value → Shared → Prop} {fa : Addr} {cd : Value}
    {nm : Str} {ps : Arguments} {x0 x1 x2 x3 x4 x5 x6 x7 x8 st : Stmt} {more : List Stmt} {dl : List Expr} {re : Option Expr} {tp : List TypeParam} {sc : PySem.Scope} {ts : Option PySem.Scope} {bn : Str} {po : Pos}
    (hdef : lawDef = .FunctionDef nm ps (x0 :: x1 :: x2 :: x3 :: x4 :: x5 :: x6 :: x7 :: x8 :: st :: more) dl re tp sc ts bn po)
    (B : Below callerA h₀ [] h₀) (F : Fr h₀ L s.heap m) (X : (hd.heap_39 w.params).In h₀) (T : Top p loose mean mg mb h₀)
    {D8 D7 A0 A1 A2 A3 k0 k1 k2 k3 cnt8 R V : Nat} {w0 w1 w2 w3 : List Value} {u0 u1 u2 u3 : Tok} {o3 o4 : Obj} {rest : List (Addr × Obj)}
    (N : News h₀ L s.heap ((D8, W.listOf #[.int ((fig V 0 : Nat) : Int) u0, .int ((fig V 1 : Nat) : Int) u1, .int ((fig V 2 : Nat) : Int) u2, .int ((fig V 3 : Nat) : Int) u3] cnt8) :: (D7, LCg.lst [.ref A0, .ref A1, .ref A2, .ref A3]) :: (A3, W.listOf w3.toArray k3) :: (A2, W.listOf w2.toArray k2) :: (A1, W.listOf w1.toArray k1) :: (A0, W.listOf w0.toArray k0) :: (L + 1 + 1 + 1 + 1, o4) :: (L + 1 + 1 + 1, o3) :: rest))
    (d3 : o3.data = .cell (some (.ref D7))) (d4 : o4.data = .cell (some (.ref D8)))
    (hw0 : IntsAre w0 (lineOf (fig R 0))) (hw1 : IntsAre w1 (lineOf (fig R 1))) (hw2 : IntsAre w2 (lineOf (fig R 2))) (hw3 : IntsAre w3 (lineOf (fig R 3)))
    (ret : ∀ D ys h' tk', IntsAre ys (ents R V) → Fr h₀ L h' (fun y => if y = Str.ofString "entries" then some (.ref D) else m y) → News h₀ L h' ((D, LCg.lst ys) :: (D8, W.listOf #[.int ((fig V 0 : Nat) : Int) u0, .int ((fig V 1 : Nat) : Int) u1, .int ((fig V 2 : Nat) : Int) u2, .int ((fig V 3 : Nat) : Int) u3] cnt8) :: (D7, LCg.lst [.ref A0, .ref A1, .ref A2, .ref A3]) :: (A3, W.listOf w3.toArray k3) :: (A2, W.listOf w2.toArray k2) :: (A1, W.listOf w1.toArray k1) :: (A0, W.listOf w0.toArray k0) :: (L + 1 + 1 + 1 + 1, o4) :: (L + 1 + 1 + 1, o3) :: rest) →
      Q .next { s with heap := h', toks := tk' }) :
    wpAny (model PySem.Challenge.rw_ik0122_01.row.prog w) (callerA.deeper (envOfC (Str.ofString "law") sc L fa cd)) (exec st (envOfC (Str.ofString "law") sc L fa cd)) Q E s := by
  injection hdef with e1 e2 e3 e4 e5 e6 e7 e8 e9 e10
  injection e3 with a0 r0
  injection r0 with a1 r1
  injection r1 with a2 r2
  injection r2 with a3 r3
  injection r3 with a4 r4
  injection r4 with a5 r5
  injection r5 with a6 r6
  injection r6 with a7 r7
  injection r7 with a8 r8
  injection r8 with a9 r9
  revert X; k_fill; intro X
  subst a0 a1 a2 a3 a4 a5 a6 a7 a8 a9 r9 e7
  clear e1 e2 e4 e5 e6 e8 e9 e10
  obtain ⟨hp, gens, dr, tks, os⟩ := s
  dsimp only at F N ret ⊢
  k_with_none
  k_with "subscriptTail Subscript Subscript" => ((k_extra "subscriptTail Subscript Subscript ref int"))
  k_with "eval ListComp" => (((first | (lct_look; k_dflt (refine LCt.ListComp_T (F₀ := by k_asm) (by with_unfolding_all rfl) (by decide) (by rfl) (by decide) (by rfl) ?_)) | ((first | lcg_look | lcf_look); k_dflt (refine LCg.ListComp_U (F₀ := by k_asm) (by with_unfolding_all rfl) (by decide) (by rfl) (by decide) (by rfl) ?_)))))
  k_with "CompEnd" => ((((with_reducible rename Fr _ _ _ _ => lF'); (with_reducible rename News _ _ _ _ => lN'); (with_reducible rename AllNot _ _ => hz'); (with_reducible rename LCg.Off3 _ _ _ _ => of0'); k_dflt (refine' LCg.CompEnd.intro lF' lN' _ rot3 (off_push hz' of0') ?Sk2aFQ ?Rk2aFQ; (case Sk2aFQ => exact (.inr ⟨_, by k_mem, rfl, _, rfl⟩))))))
  k_with "CompRest" => ((((with_unfolding_all refine LCg.CompRest.succ ?_); intro v' I' oI' C' oC' D' m' h' tk' E' hv' hC' hx' F' N' off' ne'; (first | lcg_open hv' | (obtain ⟨t9', hv9'⟩ := hv'; subst hv9')); have off0' := off'; (try simp only [LCg.Off3, and_true] at off'))))
  refine LCg.Assign_ListComp_U (F₀ := by k_asm) (by rfl) (by with_unfolding_all rfl) (by with_unfolding_all rfl) (by decide) (by rfl) (by decide) (by rfl) (by rfl) (by rfl) ?_
  k_with "CompSrc" => ((k_dflt ((refine Halt.mk ?_))))
  iterate 7 (first | (k_unfold; (try dsimp only)) | walk1 | (dsimp only; walk1) | (leave1; walk_say "STEP leave1"; (try dsimp only)) | fail "no step")
  refine' LCg.CompSrc.range (by rfl) (by k_asm) (by k_asm) (by assumption) (by decide) (by rfl) (by first | size_fits | exact Nat.le_of_ble_eq_true rfl) ?_
  intro g5
  refine' rest_inv (n := 4) (fun i ys => IntsAre ys ((ents R V).take i)) trivial .nil ?turn5FQ ?fin5FQ
  case turn5FQ =>
    intro i5 ys5 v5 I5 oI5 C5 oC5 D5 m5 h5 tk5 E5 hi5 hJ5 hv5 hC5 hx5 F5 N5 off5 ne5
    obtain ⟨t5, rfl⟩ := hv5
    have off55 := off5
    simp only [LCg.Off3] at off5
    obtain ⟨Ak, wk, ck, gk, mk, hwk⟩ := line_at (x := (D8, W.listOf #[.int ((fig V 0 : Nat) : Int) u0, .int ((fig V 1 : Nat) : Int) u1, .int ((fig V 2 : Nat) : Int) u2, .int ((fig V 3 : Nat) : Int) u3] cnt8)) (y := (D7, LCg.lst [.ref A0, .ref A1, .ref A2, .ref A3])) (rest := (L + 1 + 1 + 1 + 1, o4) :: (L + 1 + 1 + 1, o3) :: rest) (A0 := A0) (A1 := A1) (A2 := A2) (A3 := A3) (k0 := k0) (k1 := k1) (k2 := k2) (k3 := k3) hw0 hw1 hw2 hw3 hi5
    obtain ⟨tp5, pl5⟩ := place_at (W := V) (u0 := u0) (u1 := u1) (u2 := u2) (u3 := u3) hi5
    have mk3 := List.mem_cons_of_mem (I5, oI5) (List.mem_cons_of_mem (C5, oC5) (List.mem_cons_of_mem (D5, LCg.lst ys5) mk))
    have hln5 := line_vs hwk
    have hl8 : (8 : Nat) ≤ 2 ^ 62 := by decide
    have hfV := fig_lt V i5
    have hfR := fig_lt R i5
    k_with "call builtin:len" => ((k_dflt ((k_dflt (refine' len_Lx (x := ((fig R i5 + 1 : Nat) : Int)) ?a1k5aFQ ?a2k5aFQ ?a3k5aFQ ?_; (case a1k5aFQ => exact News.isList (by k_asm) mk3); (case a2k5aFQ => omega); (case a3k5aFQ => omega))))))
    k_with "subscriptTail Name Name ref int" => ((k_dflt ((k_dflt (first
      | (refine' item_L (i := i5) ?b1k6aFQ ?b2k6aFQ ?b3k6aFQ gk ?_; (case b1k6aFQ => is_list); (case b2k6aFQ => omega); (case b3k6aFQ => omega))
      | (refine' item_L (i := i5) ?b1k6aFQ ?b2k6aFQ ?b3k6aFQ pl5 ?_; (case b1k6aFQ => is_list); (case b2k6aFQ => omega); (case b3k6aFQ => omega)))))))
    by_cases hlt5 : fig V i5 < fig R i5 + 1
    · obtain ⟨te5, hge5⟩ := line_get hwk hlt5
      k_with "subscriptTail Subscript Subscript ref int" => ((k_dflt ((k_dflt (refine' item_L (i := fig V i5) ?c1k7aFQ ?c2k7aFQ ?c3k7aFQ hge5 ?_; (case c1k7aFQ => exact News.isList (by k_asm) mk3); (case c2k7aFQ => omega); (case c3k7aFQ => omega))))))
      iterate 29 (first | (k_unfold; (try dsimp only)) | walk1 | (dsimp only; walk1) | (leave1; walk_say "STEP leave1"; (try dsimp only)) | fail "no step")
      exact LCg.CompEnd.intro F5 N5 _ (fun p hp => hp) off55 trivial ⟨rfl, ents_push hJ5 hi5 (by rw [Int.toNat_natCast]; exact ent_yes hlt5)⟩
    · iterate 20 (first | (k_unfold; (try dsimp only)) | walk1 | (dsimp only; walk1) | (leave1; walk_say "STEP leave1"; (try dsimp only)) | fail "no step")
      exact LCg.CompEnd.intro F5 N5 _ (fun p hp => hp) off55 trivial ⟨rfl, ents_push hJ5 hi5 (ent_no hlt5)⟩
  case fin5FQ =>
    intro ys5 hys5
    k_with_none
    k_with "subscriptTail Subscript Subscript" => ((k_extra "subscriptTail Subscript Subscript ref int"))
    k_with "eval ListComp" => (((first | (lct_look; k_dflt (refine LCt.ListComp_T (F₀ := by k_asm) (by with_unfolding_all rfl) (by decide) (by rfl) (by decide) (by rfl) ?_)) | ((first | lcg_look | lcf_look); k_dflt (refine LCg.ListComp_U (F₀ := by k_asm) (by with_unfolding_all rfl) (by decide) (by rfl) (by decide) (by rfl) ?_)))))
    k_with "CompEnd" => ((((with_reducible rename Fr _ _ _ _ => lF'); (with_reducible rename News _ _ _ _ => lN'); (with_reducible rename AllNot _ _ => hz'); (with_reducible rename LCg.Off3 _ _ _ _ => of0'); k_dflt (refine' LCg.CompEnd.intro lF' lN' _ rot3 (off_push hz' of0') ?Sk2aFQ ?Rk2aFQ; (case Sk2aFQ => exact (.inr ⟨_, by k_mem, rfl, _, rfl⟩))))))
    k_with "CompRest" => ((((with_unfolding_all refine LCg.CompRest.succ ?_); intro v' I' oI' C' oC' D' m' h' tk' E' hv' hC' hx' F' N' off' ne'; (first | lcg_open hv' | (obtain ⟨t9', hv9'⟩ := hv'; subst hv9')); have off0' := off'; (try simp only [LCg.Off3, and_true] at off'))))
    intro D9 h9 tk9 F9 N9 o9
    exact ret _ _ _ _ hys5 F9 N9
theorem granted_step {w : World} {p : Program} {loose : List Str} {mean : ExcName → Option Value} {mg mb : Str → Option Value} {h₀ : Heap} {L : Addr} {m : Str → Option Value} {s : Shared} {Q : Flow → Shared → Prop} {E : Value → Shared → Prop} {fa : Addr} {cd : Value}
    {nm : Str} {ps : Arguments} {x0 x1 x2 x3 x4 x5 x6 x7 x8 x9 st : Stmt} {more : List Stmt} {dl : List Expr} {re : Option Expr} {tp : List TypeParam} {sc : PySem.Scope} {ts : Option PySem.Scope} {bn : Str} {po : Pos}
    {D9 : Nat} {ys : List Value} {xs : List Int} {rest : List (Addr × Obj)}
    (hdef : lawDef = .FunctionDef nm ps (x0 :: x1 :: x2 :: x3 :: x4 :: x5 :: x6 :: x7 :: x8 :: x9 :: st :: more) dl re tp sc ts bn po)
    (B : Below callerA h₀ [] h₀) (F : Fr h₀ L s.heap (fun y => if y = Str.ofString "entries" then some (.ref D9) else m y)) (X : (hd.heap_39 w.params).In h₀) (T : Top p loose mean mg mb h₀)
    (hys : IntsAre ys xs) (hxs : xs.length = 4)
    (N : News h₀ L s.heap ((D9, LCg.lst ys) :: rest))
    (ret : ∀ h' tk', Fr h₀ L h' (fun y => if y = Str.ofString "granted" then some (.bool ((xs.filter fun x => decide (x.fmod 2 = 0)).isEmpty)) else if y = Str.ofString "entries" then some (.ref D9) else m y) → News h₀ L h' ((D9, LCg.lst ys) :: rest) →
      Q .next { s with heap := h', toks := tk' }) :
    wpAny (model PySem.Challenge.rw_ik0122_01.row.prog w) (callerA.deeper (envOfC (Str.ofString "law") sc L fa cd)) (exec st (envOfC (Str.ofString "law") sc L fa cd)) Q E s := by
  injection hdef with e1 e2 e3 e4 e5 e6 e7 e8 e9 e10
  injection e3 with a0 r0
  injection r0 with a1 r1
  injection r1 with a2 r2
  injection r2 with a3 r3
  injection r3 with a4 r4
  injection r4 with a5 r5
  injection r5 with a6 r6
  injection r6 with a7 r7
  injection r7 with a8 r8
  injection r8 with a9 r9
  injection r9 with a10 r10
  revert X; k_fill; intro X
  subst a0 a1 a2 a3 a4 a5 a6 a7 a8 a9 a10 r10 e7
  clear e1 e2 e4 e5 e6 e8 e9 e10
  obtain ⟨hp, gens, dr, tks, os⟩ := s
  dsimp only at F N ret ⊢
  have hyl : ys.length = 4 := by rw [IntsAre.length hys]; exact hxs
  k_with_none
  k_with "subscriptTail Subscript Subscript" => ((k_extra "subscriptTail Subscript Subscript ref int"))
  k_with "eval ListComp" => (((first | (lct_look; k_dflt (refine LCt.ListComp_T (F₀ := by k_asm) (by with_unfolding_all rfl) (by decide) (by rfl) (by decide) (by rfl) ?_)) | ((first | lcg_look | lcf_look); k_dflt (refine LCg.ListComp_U (F₀ := by k_asm) (by with_unfolding_all rfl) (by decide) (by rfl) (by decide) (by rfl) ?_)))))
  k_with "CompEnd" => ((((with_reducible rename Fr _ _ _ _ => lF'); (with_reducible rename News _ _ _ _ => lN'); (with_reducible rename AllNot _ _ => hz'); (with_reducible rename LCg.Off3 _ _ _ _ => of0'); k_dflt (refine' LCg.CompEnd.intro lF' lN' _ rot3 (off_push hz' of0') ?Sk2aFG ?Rk2aFG; (case Sk2aFG => exact (.inr ⟨_, by k_mem, rfl, _, rfl⟩))))))
  k_with "CompRest" => ((((with_unfolding_all refine LCg.CompRest.succ ?_); intro v' I' oI' C' oC' D' m' h' tk' E' hv' hC' hx' F' N' off' ne'; (first | lcg_open hv' | (obtain ⟨t9', hv9'⟩ := hv'; subst hv9')); have off0' := off'; (try simp only [LCg.Off3, and_true] at off'))))
  k_with "CompSrcT" => ((k_dflt ((refine Halt.mk ?_))))
  iterate 4 (first | (k_unfold; (try dsimp only)) | walk1 | (dsimp only; walk1) | (leave1; walk_say "STEP leave1"; (try dsimp only)) | fail "no step")
  refine' LCt.CompSrcT.ledger (by rfl) F N (.head _) (by rw [List.size_toArray, hyl]; exact Nat.le_trans (show 4 ≤ 100 by decide) (by rw [sizeLine_eq]; decide)) ?_
  intro g5
  refine' restT_inv (fun i zs => IntsAre zs ((xs.take i).filter fun x => decide (x.fmod 2 = 0))) (srcAt_mem (.head _)) .nil ?turnFG ?finFG
  case turnFG =>
    intro i zs v' I' oI' C' oC' D' m' h' tk' E' hi hJ hv' hC' hx' F' N' off' ne'
    have off0 := off'
    obtain ⟨hi', t', rfl⟩ := int_at hys hv'
    try simp only [LCg.Off3] at off'
    k_with_none
    k_with "subscriptTail Subscript Subscript" => ((k_extra "subscriptTail Subscript Subscript ref int"))
    k_with "eval ListComp" => (((first | (lct_look; k_dflt (refine LCt.ListComp_T (F₀ := by k_asm) (by with_unfolding_all rfl) (by decide) (by rfl) (by decide) (by rfl) ?_)) | ((first | lcg_look | lcf_look); k_dflt (refine LCg.ListComp_U (F₀ := by k_asm) (by with_unfolding_all rfl) (by decide) (by rfl) (by decide) (by rfl) ?_)))))
    k_with "CompEnd" => ((((with_reducible rename Fr _ _ _ _ => lF'); (with_reducible rename News _ _ _ _ => lN'); (with_reducible rename AllNot _ _ => hz'); (with_reducible rename LCg.Off3 _ _ _ _ => of0'); k_dflt (refine' LCg.CompEnd.intro lF' lN' _ rot3 (off_push hz' of0') ?Sk2aFG ?Rk2aFG; (case Sk2aFG => exact (.inr ⟨_, by k_mem, rfl, _, rfl⟩))))))
    k_with "CompRest" => ((((with_unfolding_all refine LCg.CompRest.succ ?_); intro v' I' oI' C' oC' D' m' h' tk' E' hv' hC' hx' F' N' off' ne'; (first | lcg_open hv' | (obtain ⟨t9', hv9'⟩ := hv'; subst hv9')); have off0' := off'; (try simp only [LCg.Off3, and_true] at off'))))
    k_steps
    all_goals first
      | exact LCg.CompEnd.intro (by assumption) (by assumption) _ (fun p hp => hp) off0 trivial ⟨rfl, filt_yes hJ hi' (decide_eq_true (by assumption))⟩
      | exact LCg.CompEnd.intro (by assumption) (by assumption) _ (fun p hp => hp) off0 trivial ⟨rfl, filt_no hJ hi' (decide_eq_false (by assumption))⟩
  case finFG =>
    intro zs hzs
    k_with_none
    k_with "subscriptTail Subscript Subscript" => ((k_extra "subscriptTail Subscript Subscript ref int"))
    k_with "eval ListComp" => (((first | (lct_look; k_dflt (refine LCt.ListComp_T (F₀ := by k_asm) (by with_unfolding_all rfl) (by decide) (by rfl) (by decide) (by rfl) ?_)) | ((first | lcg_look | lcf_look); k_dflt (refine LCg.ListComp_U (F₀ := by k_asm) (by with_unfolding_all rfl) (by decide) (by rfl) (by decide) (by rfl) ?_)))))
    k_with "CompEnd" => ((((with_reducible rename Fr _ _ _ _ => lF'); (with_reducible rename News _ _ _ _ => lN'); (with_reducible rename AllNot _ _ => hz'); (with_reducible rename LCg.Off3 _ _ _ _ => of0'); k_dflt (refine' LCg.CompEnd.intro lF' lN' _ rot3 (off_push hz' of0') ?Sk2aFG ?Rk2aFG; (case Sk2aFG => exact (.inr ⟨_, by k_mem, rfl, _, rfl⟩))))))
    k_with "CompRest" => ((((with_unfolding_all refine LCg.CompRest.succ ?_); intro v' I' oI' C' oC' D' m' h' tk' E' hv' hC' hx' F' N' off' ne'; (first | lcg_open hv' | (obtain ⟨t9', hv9'⟩ := hv'; subst hv9')); have off0' := off'; (try simp only [LCg.Off3, and_true] at off'))))
    k_steps
    with_reducible rename Fr h₀ L _ _ => kF
    with_reducible rename News h₀ L _ _ => kN
    have e : decide (List.filter (fun x => decide (x.fmod 2 = 0)) (List.take ys.toArray.size xs) = []) = (xs.filter fun x => decide (x.fmod 2 = 0)).isEmpty := by
      rw [List.size_toArray, hyl, ← hxs, List.take_length]
      cases (xs.filter fun x => decide (x.fmod 2 = 0)) <;> rfl
    rw [e] at kF
    exact ret _ _ kF (News.perm kN fun _ hp => List.Mem.tail _ (List.Mem.tail _ hp))
theorem odd_step {w : World} {p : Program} {loose : List Str} {mean : ExcName → Option Value} {mg mb : Str → Option Value} {h₀ : Heap} {L : Addr} {m : Str → Option Value} {s : Shared} {Q : Flow → Shared → Prop} {E : Value → Shared → Prop} {fa : Addr} {cd : Value}
    {nm : Str} {ps : Arguments} {x0 x1 x2 x3 x4 x5 x6 x7 x8 x9 x10 st : Stmt} {more : List Stmt} {dl : List Expr} {re : Option Expr} {tp : List TypeParam} {sc : PySem.Scope} {ts : Option PySem.Scope} {bn : Str} {po : Pos}
    {D7 A0 A1 A2 A3 k0 k1 k2 k3 R : Nat} {w0 w1 w2 w3 : List Value} {o3 : Obj} {rest : List (Addr × Obj)}
    (hdef : lawDef = .FunctionDef nm ps (x0 :: x1 :: x2 :: x3 :: x4 :: x5 :: x6 :: x7 :: x8 :: x9 :: x10 :: st :: more) dl re tp sc ts bn po)
    (B : Below callerA h₀ [] h₀) (F : Fr h₀ L s.heap m) (X : (hd.heap_39 w.params).In h₀) (T : Top p loose mean mg mb h₀)
    (N : News h₀ L s.heap ((L + 1 + 1 + 1, o3) :: (D7, LCg.lst [.ref A0, .ref A1, .ref A2, .ref A3]) :: (A3, W.listOf w3.toArray k3) :: (A2, W.listOf w2.toArray k2) :: (A1, W.listOf w1.toArray k1) :: (A0, W.listOf w0.toArray k0) :: rest))
    (d3 : o3.data = .cell (some (.ref D7)))
    (hw0 : IntsAre w0 (lineOf (fig R 0))) (hw1 : IntsAre w1 (lineOf (fig R 1))) (hw2 : IntsAre w2 (lineOf (fig R 2))) (hw3 : IntsAre w3 (lineOf (fig R 3)))
    (ret : ∀ D ys h' tk', IntsAre ys (odds R) → Fr h₀ L h' (fun y => if y = Str.ofString "odd" then some (.ref D) else m y) → News h₀ L h' ((D, LCg.lst ys) :: (L + 1 + 1 + 1, o3) :: (D7, LCg.lst [.ref A0, .ref A1, .ref A2, .ref A3]) :: (A3, W.listOf w3.toArray k3) :: (A2, W.listOf w2.toArray k2) :: (A1, W.listOf w1.toArray k1) :: (A0, W.listOf w0.toArray k0) :: rest) →
      Q .next { s with heap := h', toks := tk' }) :
    wpAny (model PySem.Challenge.rw_ik0122_01.row.prog w) (callerA.deeper (envOfC (Str.ofString "law") sc L fa cd)) (exec st (envOfC (Str.ofString "law") sc L fa cd)) Q E s := by
  injection hdef with e1 e2 e3 e4 e5 e6 e7 e8 e9 e10
  injection e3 with a0 r0
  injection r0 with a1 r1
  injection r1 with a2 r2
  injection r2 with a3 r3
  injection r3 with a4 r4
  injection r4 with a5 r5
  injection r5 with a6 r6
  injection r6 with a7 r7
  injection r7 with a8 r8
  injection r8 with a9 r9
  injection r9 with a10 r10
  injection r10 with a11 r11
  revert X; k_fill; intro X
  subst a0 a1 a2 a3 a4 a5 a6 a7 a8 a9 a10 a11 r11 e7
  clear e1 e2 e4 e5 e6 e8 e9 e10
  obtain ⟨hp, gens, dr, tks, os⟩ := s
  dsimp only at F N ret ⊢
  k_with_none
  k_with "subscriptTail Subscript Subscript" => ((k_extra "subscriptTail Subscript Subscript ref int"))
  k_with "eval ListComp" => (((first | (lct_look; k_dflt (refine LCt.ListComp_T (F₀ := by k_asm) (by with_unfolding_all rfl) (by decide) (by rfl) (by decide) (by rfl) ?_)) | ((first | lcg_look | lcf_look); k_dflt (refine LCg.ListComp_U (F₀ := by k_asm) (by with_unfolding_all rfl) (by decide) (by rfl) (by decide) (by rfl) ?_)))))
  k_with "CompEnd" => ((((with_reducible rename Fr _ _ _ _ => lF'); (with_reducible rename News _ _ _ _ => lN'); (with_reducible rename AllNot _ _ => hz'); (with_reducible rename LCg.Off3 _ _ _ _ => of0'); k_dflt (refine' LCg.CompEnd.intro lF' lN' _ rot3 (off_push hz' of0') ?Sk2aFO ?Rk2aFO; (case Sk2aFO => exact (.inr ⟨_, by k_mem, rfl, _, rfl⟩))))))
  k_with "CompRest" => ((((with_unfolding_all refine LCg.CompRest.succ ?_); intro v' I' oI' C' oC' D' m' h' tk' E' hv' hC' hx' F' N' off' ne'; (first | lcg_open hv' | (obtain ⟨t9', hv9'⟩ := hv'; subst hv9')); have off0' := off'; (try simp only [LCg.Off3, and_true] at off'))))
  refine LCg.Assign_ListComp_U (F₀ := by k_asm) (by rfl) (by with_unfolding_all rfl) (by with_unfolding_all rfl) (by decide) (by rfl) (by decide) (by rfl) (by rfl) (by rfl) ?_
  k_with "CompSrc" => ((k_dflt ((refine Halt.mk ?_))))
  iterate 1 (first | (k_unfold; (try dsimp only)) | walk1 | (dsimp only; walk1) | (leave1; walk_say "STEP leave1"; (try dsimp only)) | fail "no step")
  refine' LCg.CompSrc.ledger (by rfl) F N (.tail _ (.head _)) (by exact size4) ?_
  intro g5
  refine' rest_inv (n := 4) (fun i ys => IntsAre ys ((odds R).take i)) (srcAt_mem (.tail _ (.head _))) .nil ?turn5FO ?fin5FO
  case turn5FO =>
    intro i5 ys5 v5 I5 oI5 C5 oC5 D5 m5 h5 tk5 E5 hi5 hJ5 hv5 hC5 hx5 F5 N5 off5 ne5
    obtain ⟨Ak, wk, ck, gk, mk, hwk⟩ := line_at (x := (L + 1 + 1 + 1, o3)) (y := (D7, LCg.lst [.ref A0, .ref A1, .ref A2, .ref A3])) (rest := rest) (A0 := A0) (A1 := A1) (A2 := A2) (A3 := A3) (k0 := k0) (k1 := k1) (k2 := k2) (k3 := k3) hw0 hw1 hw2 hw3 hi5
    have hv6 : v5 = .ref Ak := by
      have q : ([Value.ref A0, .ref A1, .ref A2, .ref A3])[i5]? = some v5 := by simpa using hv5
      rw [gk] at q; cases q; rfl
    subst hv6
    have off55 := off5
    simp only [LCg.Off3] at off5
    have mk3 := List.mem_cons_of_mem (I5, oI5) (List.mem_cons_of_mem (C5, oC5) (List.mem_cons_of_mem (D5, LCg.lst ys5) mk))
    have hln5 := line_vs hwk
    have hfR := fig_lt R i5
    k_with "CompSrcT" => ((k_dflt ((refine Halt.mk ?_))))
    iterate 6 (first | (k_unfold; (try dsimp only)) | walk1 | (dsimp only; walk1) | (leave1; walk_say "STEP leave1"; (try dsimp only)) | fail "no step")
    refine' LCt.CompSrcT.ledger (by rfl) F5 N5 mk3 (by rw [List.size_toArray, hln5]; exact Nat.le_trans (show fig R i5 + 1 ≤ 100 by omega) (by rw [sizeLine_eq]; decide)) ?_
    intro g6
    refine' restT_inv (fun i zs => IntsAre zs (((lineOf (fig R i5)).take i).filter fun x => decide (x.fmod 2 = 1))) (srcAt_mem mk3) .nil ?turn6FO ?fin6FO
    case turn6FO =>
      intro i zs v' I' oI' C' oC' D' m' h' tk' E' hi hJ hv' hC' hx' F' N' off' ne'
      have off0 := off'
      obtain ⟨hi', t', rfl⟩ := int_at hwk hv'
      clear F5 N5 F N
      try simp only [LCg.Off3] at off'
      k_with_none
      k_with "subscriptTail Subscript Subscript" => ((k_extra "subscriptTail Subscript Subscript ref int"))
      k_with "eval ListComp" => (((first | (lct_look; k_dflt (refine LCt.ListComp_T (F₀ := by k_asm) (by with_unfolding_all rfl) (by decide) (by rfl) (by decide) (by rfl) ?_)) | ((first | lcg_look | lcf_look); k_dflt (refine LCg.ListComp_U (F₀ := by k_asm) (by with_unfolding_all rfl) (by decide) (by rfl) (by decide) (by rfl) ?_)))))
      k_with "CompEnd" => ((((with_reducible rename Fr _ _ _ _ => lF'); (with_reducible rename News _ _ _ _ => lN'); (with_reducible rename AllNot _ _ => hz'); (with_reducible rename LCg.Off3 _ _ _ _ => of0'); k_dflt (refine' LCg.CompEnd.intro lF' lN' _ rot3 (off_push hz' of0') ?Sk2aFO ?Rk2aFO; (case Sk2aFO => exact (.inr ⟨_, by k_mem, rfl, _, rfl⟩))))))
      k_with "CompRest" => ((((with_unfolding_all refine LCg.CompRest.succ ?_); intro v' I' oI' C' oC' D' m' h' tk' E' hv' hC' hx' F' N' off' ne'; (first | lcg_open hv' | (obtain ⟨t9', hv9'⟩ := hv'; subst hv9')); have off0' := off'; (try simp only [LCg.Off3, and_true] at off'))))
      k_steps
      all_goals first
        | exact LCg.CompEnd.intro (by assumption) (by assumption) _ (fun p hp => hp) off0 trivial ⟨rfl, filt_yes hJ hi' (decide_eq_true (by assumption))⟩
        | exact LCg.CompEnd.intro (by assumption) (by assumption) _ (fun p hp => hp) off0 trivial ⟨rfl, filt_no hJ hi' (decide_eq_false (by assumption))⟩
    case fin6FO =>
      intro zs hzs
      k_with_none
      k_with "subscriptTail Subscript Subscript" => ((k_extra "subscriptTail Subscript Subscript ref int"))
      k_with "eval ListComp" => (((first | (lct_look; k_dflt (refine LCt.ListComp_T (F₀ := by k_asm) (by with_unfolding_all rfl) (by decide) (by rfl) (by decide) (by rfl) ?_)) | ((first | lcg_look | lcf_look); k_dflt (refine LCg.ListComp_U (F₀ := by k_asm) (by with_unfolding_all rfl) (by decide) (by rfl) (by decide) (by rfl) ?_)))))
      k_with "CompEnd" => ((((with_reducible rename Fr _ _ _ _ => lF'); (with_reducible rename News _ _ _ _ => lN'); (with_reducible rename AllNot _ _ => hz'); (with_reducible rename LCg.Off3 _ _ _ _ => of0'); k_dflt (refine' LCg.CompEnd.intro lF' lN' _ rot3 (off_push hz' of0') ?Sk2aFO ?Rk2aFO; (case Sk2aFO => exact (.inr ⟨_, by k_mem, rfl, _, rfl⟩))))))
      k_with "CompRest" => ((((with_unfolding_all refine LCg.CompRest.succ ?_); intro v' I' oI' C' oC' D' m' h' tk' E' hv' hC' hx' F' N' off' ne'; (first | lcg_open hv' | (obtain ⟨t9', hv9'⟩ := hv'; subst hv9')); have off0' := off'; (try simp only [LCg.Off3, and_true] at off'))))
      intro D6 h6 tk6 F6 N6 o6
      have hzl : zs.length = oddOf (fig R i5) := by
        rw [IntsAre.length hzs, List.size_toArray, hln5, ← line_len, List.take_length]; rfl
      have hz9 : oddOf (fig R i5) ≤ 8 := by
        have h1 : ((lineOf (fig R i5)).filter fun x => decide (x.fmod 2 = 1)).length ≤ (lineOf (fig R i5)).length := List.length_filter_le _ _
        rw [line_len] at h1
        show ((lineOf (fig R i5)).filter fun x => decide (x.fmod 2 = 1)).length ≤ 8
        omega
      k_with "call builtin:len" => ((k_dflt ((k_dflt (refine' len_Lx (x := ((oddOf (fig R i5) : Nat) : Int)) ?a1k6aFO ?a2k6aFO ?a3k6aFO ?_; (case a1k6aFO => exact News.isList N6 (.head _)); (case a2k6aFO => omega); (case a3k6aFO => omega))))))
      iterate 2 (first | (k_unfold; (try dsimp only)) | walk1 | (dsimp only; walk1) | (leave1; walk_say "STEP leave1"; (try dsimp only)) | fail "no step")
      exact LCg.CompEnd.intro F6 N6 _ (fun p hp => .tail _ hp) off55 trivial ⟨rfl, odds_push hJ5 hi5 rfl⟩
  case fin5FO =>
    intro ys5 hys5
    k_with_none
    k_with "subscriptTail Subscript Subscript" => ((k_extra "subscriptTail Subscript Subscript ref int"))
    k_with "eval ListComp" => (((first | (lct_look; k_dflt (refine LCt.ListComp_T (F₀ := by k_asm) (by with_unfolding_all rfl) (by decide) (by rfl) (by decide) (by rfl) ?_)) | ((first | lcg_look | lcf_look); k_dflt (refine LCg.ListComp_U (F₀ := by k_asm) (by with_unfolding_all rfl) (by decide) (by rfl) (by decide) (by rfl) ?_)))))
    k_with "CompEnd" => ((((with_reducible rename Fr _ _ _ _ => lF'); (with_reducible rename News _ _ _ _ => lN'); (with_reducible rename AllNot _ _ => hz'); (with_reducible rename LCg.Off3 _ _ _ _ => of0'); k_dflt (refine' LCg.CompEnd.intro lF' lN' _ rot3 (off_push hz' of0') ?Sk2aFO ?Rk2aFO; (case Sk2aFO => exact (.inr ⟨_, by k_mem, rfl, _, rfl⟩))))))
    k_with "CompRest" => ((((with_unfolding_all refine LCg.CompRest.succ ?_); intro v' I' oI' C' oC' D' m' h' tk' E' hv' hC' hx' F' N' off' ne'; (first | lcg_open hv' | (obtain ⟨t9', hv9'⟩ := hv'; subst hv9')); have off0' := off'; (try simp only [LCg.Off3, and_true] at off'))))
    intro D9 h9 tk9 F9 N9 o9
    exact ret _ _ _ _ hys5 F9 N9
theorem shown_step {w : World} {p : Program} {loose : List Str} {mean : ExcName → Option Value} {mg mb : Str → Option Value} {h₀ : Heap} {L : Addr} {m : Str → Option Value} {s : Shared} {Q : Flow → Shared → Prop} {E : Value → Shared → Prop} {fa : Addr} {cd : Value}
    {nm : Str} {ps : Arguments} {x0 x1 x2 x3 x4 x5 x6 x7 x8 x9 x10 x11 st : Stmt} {more : List Stmt} {dl : List Expr} {re : Option Expr} {tp : List TypeParam} {sc : PySem.Scope} {ts : Option PySem.Scope} {bn : Str} {po : Pos}
    {vo vg ve vw : Option Value} {r0 : Nat} {rs : List Nat} {tr : Tok} {rest : List (Addr × Obj)}
    (hdef : lawDef = .FunctionDef nm ps (x0 :: x1 :: x2 :: x3 :: x4 :: x5 :: x6 :: x7 :: x8 :: x9 :: x10 :: x11 :: st :: more) dl re tp sc ts bn po)
    (B : Below callerA h₀ [] h₀) (F : Fr h₀ L s.heap (fun y => if y = Str.ofString "odd" then vo else if y = Str.ofString "granted" then vg else if y = Str.ofString "entries" then ve else if y = Str.ofString "wish" then vw else if y = Str.ofString "row" then some (.str (S (r0 :: rs)) tr) else m y)) (X : (hd.heap_39 w.params).In h₀) (T : Top p loose mean mg mb h₀)
    (N : News h₀ L s.heap rest) (hrs : rs.length = 9)
    (ret : ∀ t h' tk', Fr h₀ L h' (fun y => if y = Str.ofString "shown" then some (.int (((rs.map worth).sum : Nat) : Int) t) else if y = Str.ofString "odd" then vo else if y = Str.ofString "granted" then vg else if y = Str.ofString "entries" then ve else if y = Str.ofString "wish" then vw else if y = Str.ofString "row" then some (.str (S (r0 :: rs)) tr) else m y) → News h₀ L h' rest →
      Q .next { s with heap := h', toks := tk' }) :
    wpAny (model PySem.Challenge.rw_ik0122_01.row.prog w) (callerA.deeper (envOfC (Str.ofString "law") sc L fa cd)) (exec st (envOfC (Str.ofString "law") sc L fa cd)) Q E s := by
  injection hdef with e1 e2 e3 e4 e5 e6 e7 e8 e9 e10
  injection e3 with a0 r0
  injection r0 with a1 r1
  injection r1 with a2 r2
  injection r2 with a3 r3
  injection r3 with a4 r4
  injection r4 with a5 r5
  injection r5 with a6 r6
  injection r6 with a7 r7
  injection r7 with a8 r8
  injection r8 with a9 r9
  injection r9 with a10 r10
  injection r10 with a11 r11
  injection r11 with a12 r12
  revert X; k_fill; intro X
  subst a0 a1 a2 a3 a4 a5 a6 a7 a8 a9 a10 a11 a12 r12 e7
  clear e1 e2 e4 e5 e6 e8 e9 e10
  obtain ⟨hp, gens, dr, tks, os⟩ := s
  dsimp only at F N ret ⊢
  have hx : (S (r0 :: rs)).length = 10 := by rw [S_len, List.length_cons, hrs]
  k_with_none
  k_with "subscriptTail Subscript Subscript" => ((k_extra "subscriptTail Subscript Subscript ref int"))
  k_with "eval ListComp" => (((first | (lct_look; k_dflt (refine LCt.ListComp_T (F₀ := by k_asm) (by with_unfolding_all rfl) (by decide) (by rfl) (by decide) (by rfl) ?_)) | ((first | lcg_look | lcf_look); k_dflt (refine LCg.ListComp_U (F₀ := by k_asm) (by with_unfolding_all rfl) (by decide) (by rfl) (by decide) (by rfl) ?_)))))
  k_with "CompEnd" => ((((with_reducible rename Fr _ _ _ _ => lF'); (with_reducible rename News _ _ _ _ => lN'); (with_reducible rename AllNot _ _ => hz'); (with_reducible rename LCg.Off3 _ _ _ _ => of0'); k_dflt (refine' LCg.CompEnd.intro lF' lN' _ rot3 (off_push hz' of0') ?Sk2aFH ?Rk2aFH; (case Sk2aFH => exact (.inr ⟨_, by k_mem, rfl, _, rfl⟩))))))
  k_with "CompRest" => ((((with_unfolding_all refine LCg.CompRest.succ ?_); intro v' I' oI' C' oC' D' m' h' tk' E' hv' hC' hx' F' N' off' ne'; (first | lcg_open hv' | (obtain ⟨t9', hv9'⟩ := hv'; subst hv9')); have off0' := off'; (try simp only [LCg.Off3, and_true] at off'))))
  k_with "eval ListComp" => (first | ((refine Halt.mk ?_)) | ((first | (lct_look; k_dflt (refine LCt.ListComp_T (F₀ := by k_asm) (by with_unfolding_all rfl) (by decide) (by rfl) (by decide) (by rfl) ?_)) | ((first | lcg_look | lcf_look); k_dflt (refine LCg.ListComp_U (F₀ := by k_asm) (by with_unfolding_all rfl) (by decide) (by rfl) (by decide) (by rfl) ?_)))))
  iterate 5 (first | (k_unfold; (try dsimp only)) | walk1 | (dsimp only; walk1) | (leave1; walk_say "STEP leave1"; (try dsimp only)) | fail "no step")
  refine listComp_X (F₀ := by k_asm) (by with_unfolding_all rfl) (by decide) (by rfl) (by decide) (by rfl) ?_
  iterate 8 (first | (k_unfold; (try dsimp only)) | walk1 | (dsimp only; walk1) | (leave1; walk_say "STEP leave1"; (try dsimp only)) | fail "no step")
  refine ⟨S rs, _, _, by rw [slice1_S], rfl, by k_asm, by k_asm, (by show (S rs).cps.size ≤ sizeLine; rw [show (S rs).cps.size = 9 from by (have := S_len rs; rw [hrs] at this; exact this)]; exact Nat.le_trans (show 9 ≤ 100 by decide) (by rw [sizeLine_eq]; decide)), ?_⟩
  rintro _ ⟨g5, rfl⟩
  refine' restT_inv (fun i zs => IntsAre zs (shN (rs.take i))) trivial .nil ?turnFH ?finFH
  case turnFH =>
    intro i zs v' I' oI' C' oC' D' m' h' tk' E' hi hJ hv' hC' hx' F' N' off' ne'
    have off0 := off'
    obtain ⟨c, t', hc, rfl⟩ := sign_at hv'
    try simp only [LCg.Off3] at off'
    k_with_none
    k_with "subscriptTail Subscript Subscript" => ((k_extra "subscriptTail Subscript Subscript ref int"))
    k_with "eval ListComp" => (((first | (lct_look; k_dflt (refine LCt.ListComp_T (F₀ := by k_asm) (by with_unfolding_all rfl) (by decide) (by rfl) (by decide) (by rfl) ?_)) | ((first | lcg_look | lcf_look); k_dflt (refine LCg.ListComp_U (F₀ := by k_asm) (by with_unfolding_all rfl) (by decide) (by rfl) (by decide) (by rfl) ?_)))))
    k_with "CompEnd" => ((((with_reducible rename Fr _ _ _ _ => lF'); (with_reducible rename News _ _ _ _ => lN'); (with_reducible rename AllNot _ _ => hz'); (with_reducible rename LCg.Off3 _ _ _ _ => of0'); k_dflt (refine' LCg.CompEnd.intro lF' lN' _ rot3 (off_push hz' of0') ?Sk2aFH ?Rk2aFH; (case Sk2aFH => exact (.inr ⟨_, by k_mem, rfl, _, rfl⟩))))))
    k_with "CompRest" => ((((with_unfolding_all refine LCg.CompRest.succ ?_); intro v' I' oI' C' oC' D' m' h' tk' E' hv' hC' hx' F' N' off' ne'; (first | lcg_open hv' | (obtain ⟨t9', hv9'⟩ := hv'; subst hv9')); have off0' := off'; (try simp only [LCg.Off3, and_true] at off'))))
    k_steps
    all_goals first
      | exact LCg.CompEnd.intro (by assumption) (by assumption) _ (fun p hp => hp) off0 trivial ⟨rfl, sh_yes hJ hc (wNe (by assumption)) (stNo (by assumption) (wNe (by assumption)))⟩
      | exact LCg.CompEnd.intro (by assumption) (by assumption) _ (fun p hp => hp) off0 trivial ⟨rfl, sh_yes hJ hc (wNe (by assumption)) (stYes (by assumption) (wNe (by assumption)))⟩
      | exact LCg.CompEnd.intro (by assumption) (by assumption) _ (fun p hp => hp) off0 trivial ⟨rfl, sh_no hJ hc (wEq (by assumption))⟩
  case finFH =>
    intro zs hzs
    k_with_none
    k_with "subscriptTail Subscript Subscript" => ((k_extra "subscriptTail Subscript Subscript ref int"))
    k_with "eval ListComp" => (((first | (lct_look; k_dflt (refine LCt.ListComp_T (F₀ := by k_asm) (by with_unfolding_all rfl) (by decide) (by rfl) (by decide) (by rfl) ?_)) | ((first | lcg_look | lcf_look); k_dflt (refine LCg.ListComp_U (F₀ := by k_asm) (by with_unfolding_all rfl) (by decide) (by rfl) (by decide) (by rfl) ?_)))))
    k_with "CompEnd" => ((((with_reducible rename Fr _ _ _ _ => lF'); (with_reducible rename News _ _ _ _ => lN'); (with_reducible rename AllNot _ _ => hz'); (with_reducible rename LCg.Off3 _ _ _ _ => of0'); k_dflt (refine' LCg.CompEnd.intro lF' lN' _ rot3 (off_push hz' of0') ?Sk2aFH ?Rk2aFH; (case Sk2aFH => exact (.inr ⟨_, by k_mem, rfl, _, rfl⟩))))))
    k_with "CompRest" => ((((with_unfolding_all refine LCg.CompRest.succ ?_); intro v' I' oI' C' oC' D' m' h' tk' E' hv' hC' hx' F' N' off' ne'; (first | lcg_open hv' | (obtain ⟨t9', hv9'⟩ := hv'; subst hv9')); have off0' := off'; (try simp only [LCg.Off3, and_true] at off'))))
    k_steps
    with_reducible rename Fr h₀ L _ _ => kF
    with_reducible rename News h₀ L _ _ => kN
    have e : (shN (List.take (S rs).cps.size rs)).sum = (((rs.map worth).sum : Nat) : Int) := by
      rw [show (S rs).cps.size = rs.length from S_len rs, List.take_length, sh_sum]
    rw [e] at kF
    exact ret _ _ _ kF (News.perm kN fun _ hp => List.Mem.tail _ hp)
theorem if1_step {w : World} {p : Program} {loose : List Str} {mean : ExcName → Option Value} {mg mb : Str → Option Value} {h₀ : Heap} {L : Addr} {m : Str → Option Value} {s : Shared} {Q : Flow → Shared → Prop} {E : Value → Shared → Prop} {fa : Addr} {cd : Value}
    {nm : Str} {ps : Arguments} {x0 x1 x2 x3 x4 x5 x6 x7 x8 x9 x10 x11 x12 st : Stmt} {more : List Stmt} {dl : List Expr} {re : Option Expr} {tp : List TypeParam} {sc : PySem.Scope} {ts : Option PySem.Scope} {bn : Str} {po : Pos}
    {vsh vo ve : Option Value} {gr : Bool} {h0 : Nat} {qs rs : List Nat} {tw tr : Tok} {rest : List (Addr × Obj)} {tb : Array Value} {toks outs sets : List (List Nat)}
    (hdef : lawDef = .FunctionDef nm ps (x0 :: x1 :: x2 :: x3 :: x4 :: x5 :: x6 :: x7 :: x8 :: x9 :: x10 :: x11 :: x12 :: st :: more) dl re tp sc ts bn po)
    (B : Below callerA h₀ [] h₀) (F : Fr h₀ L s.heap (fun y => if y = Str.ofString "shown" then vsh else if y = Str.ofString "odd" then vo else if y = Str.ofString "granted" then some (.bool gr) else if y = Str.ofString "entries" then ve else if y = Str.ofString "wish" then some (.str (S (h0 :: qs)) tw) else if y = Str.ofString "row" then some (.str (S (h0 :: rs)) tr) else m y)) (X : (hd.heap_39 w.params).In h₀) (T : Top p loose mean mg mb h₀)
    (N : News h₀ L s.heap ((64, tabObj tb) :: rest)) (hqs : qs.length = 9) (hrs : rs.length = 9) (C : CodeHd h₀ 68 64) (h64 : ∀ p ∈ rest, p.1 ≠ 64) (ht : TabOk tb.toList) (G : AllBare s.gens)
    (hP : Pat (leastP h0 qs) toks outs sets) (hgr : takes sets (h0 :: rs) = gr)
    (ret : ∀ (ps' : Array Value) (s' : Shared), Fr h₀ L s'.heap (fun y => if y = Str.ofString "shown" then vsh else if y = Str.ofString "odd" then vo else if y = Str.ofString "granted" then some (.bool gr) else if y = Str.ofString "entries" then ve else if y = Str.ofString "wish" then some (.str (S (h0 :: qs)) tw) else if y = Str.ofString "row" then some (.str (S (h0 :: rs)) tr) else m y) → News h₀ L s'.heap ((64, tabObj ps') :: rest) → TabOk ps'.toList → AllBare s'.gens → s'.os = s.os → Q .next s') :
    wpAny (model PySem.Challenge.rw_ik0122_01.row.prog w) (callerA.deeper (envOfC (Str.ofString "law") sc L fa cd)) (exec st (envOfC (Str.ofString "law") sc L fa cd)) Q E s := by
  injection hdef with e1 e2 e3 e4 e5 e6 e7 e8 e9 e10
  injection e3 with a0 r0
  injection r0 with a1 r1
  injection r1 with a2 r2
  injection r2 with a3 r3
  injection r3 with a4 r4
  injection r4 with a5 r5
  injection r5 with a6 r6
  injection r6 with a7 r7
  injection r7 with a8 r8
  injection r8 with a9 r9
  injection r9 with a10 r10
  injection r10 with a11 r11
  injection r11 with a12 r12
  injection r12 with a13 r13
  revert X; k_fill; intro X
  subst a0 a1 a2 a3 a4 a5 a6 a7 a8 a9 a10 a11 a12 a13 r13 e7
  clear e1 e2 e4 e5 e6 e8 e9 e10
  obtain ⟨hp, gens, dr, tks, os⟩ := s
  dsimp only at F N G ret ⊢
  have hP3 := Nat.le_trans hP.l3 (show 100 ≤ 1000 by decide)
  have hPt : toks.length ≤ 20 := by rw [hP.l1]; decide
  have hPo : outs.length ≤ 20 := by rw [hP.l5]; decide
  have hR9 : (h0 :: rs).length = 10 := by rw [List.length_cons, hrs]
  k_with_none
  k_with "subscriptTail Subscript Subscript" => ((k_extra "subscriptTail Subscript Subscript ref int"))
  k_with "eval ListComp" => (((first | (lct_look; k_dflt (refine LCt.ListComp_T (F₀ := by k_asm) (by with_unfolding_all rfl) (by decide) (by rfl) (by decide) (by rfl) ?_)) | ((first | lcg_look | lcf_look); k_dflt (refine LCg.ListComp_U (F₀ := by k_asm) (by with_unfolding_all rfl) (by decide) (by rfl) (by decide) (by rfl) ?_)))))
  k_with "CompEnd" => ((((with_reducible rename Fr _ _ _ _ => lF'); (with_reducible rename News _ _ _ _ => lN'); (with_reducible rename AllNot _ _ => hz'); (with_reducible rename LCg.Off3 _ _ _ _ => of0'); k_dflt (refine' LCg.CompEnd.intro lF' lN' _ rot3 (off_push hz' of0') ?Sk2aFM1 ?Rk2aFM1; (case Sk2aFM1 => exact (.inr ⟨_, by k_mem, rfl, _, rfl⟩))))))
  k_with "CompRest" => ((((with_unfolding_all refine LCg.CompRest.succ ?_); intro v' I' oI' C' oC' D' m' h' tk' E' hv' hC' hx' F' N' off' ne'; (first | lcg_open hv' | (obtain ⟨t9', hv9'⟩ := hv'; subst hv9')); have off0' := off'; (try simp only [LCg.Off3, and_true] at off'))))
  k_with "call ref" => ((k_dflt ((first
    | (refine' least_call ?aBk4aFM1 ?aFk4aFM1 ?aXk4aFM1 ?aNk4aFM1 ?aTk4aFM1 ?akk4aFM1 ?alk4aFM1 ?adpk4aFM1 ?auk4aFM1 ?_; (case aNk4aFM1 => k_asm); (case aBk4aFM1 => k_asm); (case aFk4aFM1 => k_asm); (case aXk4aFM1 => k_asm); (case aTk4aFM1 => k_asm); (case akk4aFM1 => first | rfl | assumption); (case alk4aFM1 => assumption); (case adpk4aFM1 => decide); (case auk4aFM1 => decide); intro t1 h1 tk1 F1 N1)
    | (refine' trans_call ?bBk4aFM1 ?bFk4aFM1 ?bXk4aFM1 ?bNk4aFM1 ?bTk4aFM1 ?bkk4aFM1 ?bCk4aFM1 ?bhk4aFM1 ?btk4aFM1 ?bGk4aFM1 hP.flat hP.tks hPt hP.l2 hP3 ?bdpk4aFM1 ?buk4aFM1 ?_; (case bNk4aFM1 => k_asm); (case bBk4aFM1 => k_asm); (case bFk4aFM1 => k_asm); (case bXk4aFM1 => k_asm); (case bTk4aFM1 => k_asm); (case bkk4aFM1 => first | rfl | assumption); (case bCk4aFM1 => exact C); (case bhk4aFM1 => assumption); (case btk4aFM1 => assumption); (case bGk4aFM1 => assumption); (case bdpk4aFM1 => decide); (case buk4aFM1 => decide); intro t2 ps2 s2 F2 N2 ht2 G2 ho2)
    | (refine' sets_call ?cBk4aFM1 ?cFk4aFM1 ?cXk4aFM1 ?cNk4aFM1 ?cTk4aFM1 ?ckk4aFM1 hP.sks hPo hP.l3 ?cdpk4aFM1 ?cuk4aFM1 ?_; (case cNk4aFM1 => k_asm); (case cBk4aFM1 => k_asm); (case cFk4aFM1 => k_asm); (case cXk4aFM1 => k_asm); (case cTk4aFM1 => k_asm); (case ckk4aFM1 => first | rfl | assumption); (case cdpk4aFM1 => decide); (case cuk4aFM1 => decide); intro D3 vs3 cnt3 h3 tk3 hv3 hl3 F3 N3)
    | (refine' takes_call ?dBk4aFM1 ?dFk4aFM1 ?dXk4aFM1 ?dNk4aFM1 ?dTk4aFM1 ?dkk4aFM1 ?dvk4aFM1 hP.l4 hR9 ?ddpk4aFM1 ?duk4aFM1 ?_; (case dNk4aFM1 => k_asm); (case dBk4aFM1 => k_asm); (case dFk4aFM1 => k_asm); (case dXk4aFM1 => k_asm); (case dTk4aFM1 => k_asm); (case dkk4aFM1 => first | rfl | assumption); (case dvk4aFM1 => assumption); (case ddpk4aFM1 => decide); (case duk4aFM1 => decide); intro h4 tk4 F4 N4; rw [hgr])))))
  k_steps
  · exfalso
    have hbad : (gr != gr) = true := by assumption
    cases gr <;> exact absurd hbad (by decide)
  · exact ret _ _ F4 (News.perm N4 fun _ hp => List.Mem.tail _ hp) ht2 G2 ho2
theorem if2_step {w : World} {p : Program} {loose : List Str} {mean : ExcName → Option Value} {mg mb : Str → Option Value} {h₀ : Heap} {L : Addr} {m : Str → Option Value} {s : Shared} {Q : Flow → Shared → Prop} {E : Value → Shared → Prop} {fa : Addr} {cd : Value}
    {nm : Str} {ps : Arguments} {x0 x1 x2 x3 x4 x5 x6 x7 x8 x9 x10 x11 x12 x13 st : Stmt} {more : List Stmt} {dl : List Expr} {re : Option Expr} {tp : List TypeParam} {sc : PySem.Scope} {ts : Option PySem.Scope} {bn : Str} {po : Pos}
    {vsh vo ve : Option Value} {gr : Bool} {h0 : Nat} {qs rs : List Nat} {tw tr : Tok} {rest : List (Addr × Obj)} {tb : Array Value} {toks outs sets : List (List Nat)}
    (hdef : lawDef = .FunctionDef nm ps (x0 :: x1 :: x2 :: x3 :: x4 :: x5 :: x6 :: x7 :: x8 :: x9 :: x10 :: x11 :: x12 :: x13 :: st :: more) dl re tp sc ts bn po)
    (B : Below callerA h₀ [] h₀) (F : Fr h₀ L s.heap (fun y => if y = Str.ofString "shown" then vsh else if y = Str.ofString "odd" then vo else if y = Str.ofString "granted" then some (.bool gr) else if y = Str.ofString "entries" then ve else if y = Str.ofString "wish" then some (.str (S (h0 :: qs)) tw) else if y = Str.ofString "row" then some (.str (S (h0 :: rs)) tr) else m y)) (X : (hd.heap_39 w.params).In h₀) (T : Top p loose mean mg mb h₀)
    (N : News h₀ L s.heap ((64, tabObj tb) :: rest)) (hqs : qs.length = 9) (hrs : rs.length = 9) (C : CodeHd h₀ 68 64) (h64 : ∀ p ∈ rest, p.1 ≠ 64) (ht : TabOk tb.toList) (G : AllBare s.gens)
    (hP : Pat (mostP h0 rs) toks outs sets) (hgr : takes sets (h0 :: qs) = gr)
    (ret : ∀ (ps' : Array Value) (s' : Shared), Fr h₀ L s'.heap (fun y => if y = Str.ofString "shown" then vsh else if y = Str.ofString "odd" then vo else if y = Str.ofString "granted" then some (.bool gr) else if y = Str.ofString "entries" then ve else if y = Str.ofString "wish" then some (.str (S (h0 :: qs)) tw) else if y = Str.ofString "row" then some (.str (S (h0 :: rs)) tr) else m y) → News h₀ L s'.heap ((64, tabObj ps') :: rest) → TabOk ps'.toList → AllBare s'.gens → s'.os = s.os → Q .next s') :
    wpAny (model PySem.Challenge.rw_ik0122_01.row.prog w) (callerA.deeper (envOfC (Str.ofString "law") sc L fa cd)) (exec st (envOfC (Str.ofString "law") sc L fa cd)) Q E s := by
  injection hdef with e1 e2 e3 e4 e5 e6 e7 e8 e9 e10
  injection e3 with a0 r0
  injection r0 with a1 r1
  injection r1 with a2 r2
  injection r2 with a3 r3
  injection r3 with a4 r4
  injection r4 with a5 r5
  injection r5 with a6 r6
  injection r6 with a7 r7
  injection r7 with a8 r8
  injection r8 with a9 r9
  injection r9 with a10 r10
  injection r10 with a11 r11
  injection r11 with a12 r12
  injection r12 with a13 r13
  injection r13 with a14 r14
  revert X; k_fill; intro X
  subst a0 a1 a2 a3 a4 a5 a6 a7 a8 a9 a10 a11 a12 a13 a14 r14 e7
  clear e1 e2 e4 e5 e6 e8 e9 e10
  obtain ⟨hp, gens, dr, tks, os⟩ := s
  dsimp only at F N G ret ⊢
  have hP3 := Nat.le_trans hP.l3 (show 100 ≤ 1000 by decide)
  have hPt : toks.length ≤ 20 := by rw [hP.l1]; decide
  have hPo : outs.length ≤ 20 := by rw [hP.l5]; decide
  have hR9 : (h0 :: qs).length = 10 := by rw [List.length_cons, hqs]
  k_with_none
  k_with "subscriptTail Subscript Subscript" => ((k_extra "subscriptTail Subscript Subscript ref int"))
  k_with "eval ListComp" => (((first | (lct_look; k_dflt (refine LCt.ListComp_T (F₀ := by k_asm) (by with_unfolding_all rfl) (by decide) (by rfl) (by decide) (by rfl) ?_)) | ((first | lcg_look | lcf_look); k_dflt (refine LCg.ListComp_U (F₀ := by k_asm) (by with_unfolding_all rfl) (by decide) (by rfl) (by decide) (by rfl) ?_)))))
  k_with "CompEnd" => ((((with_reducible rename Fr _ _ _ _ => lF'); (with_reducible rename News _ _ _ _ => lN'); (with_reducible rename AllNot _ _ => hz'); (with_reducible rename LCg.Off3 _ _ _ _ => of0'); k_dflt (refine' LCg.CompEnd.intro lF' lN' _ rot3 (off_push hz' of0') ?Sk2aFM2 ?Rk2aFM2; (case Sk2aFM2 => exact (.inr ⟨_, by k_mem, rfl, _, rfl⟩))))))
  k_with "CompRest" => ((((with_unfolding_all refine LCg.CompRest.succ ?_); intro v' I' oI' C' oC' D' m' h' tk' E' hv' hC' hx' F' N' off' ne'; (first | lcg_open hv' | (obtain ⟨t9', hv9'⟩ := hv'; subst hv9')); have off0' := off'; (try simp only [LCg.Off3, and_true] at off'))))
  k_with "call ref" => ((k_dflt ((first
    | (refine' most_call ?aBk4aFM2 ?aFk4aFM2 ?aXk4aFM2 ?aNk4aFM2 ?aTk4aFM2 ?akk4aFM2 ?alk4aFM2 ?adpk4aFM2 ?auk4aFM2 ?_; (case aNk4aFM2 => k_asm); (case aBk4aFM2 => k_asm); (case aFk4aFM2 => k_asm); (case aXk4aFM2 => k_asm); (case aTk4aFM2 => k_asm); (case akk4aFM2 => first | rfl | assumption); (case alk4aFM2 => assumption); (case adpk4aFM2 => decide); (case auk4aFM2 => decide); intro t1 h1 tk1 F1 N1)
    | (refine' trans_call ?bBk4aFM2 ?bFk4aFM2 ?bXk4aFM2 ?bNk4aFM2 ?bTk4aFM2 ?bkk4aFM2 ?bCk4aFM2 ?bhk4aFM2 ?btk4aFM2 ?bGk4aFM2 hP.flat hP.tks hPt hP.l2 hP3 ?bdpk4aFM2 ?buk4aFM2 ?_; (case bNk4aFM2 => k_asm); (case bBk4aFM2 => k_asm); (case bFk4aFM2 => k_asm); (case bXk4aFM2 => k_asm); (case bTk4aFM2 => k_asm); (case bkk4aFM2 => first | rfl | assumption); (case bCk4aFM2 => exact C); (case bhk4aFM2 => assumption); (case btk4aFM2 => assumption); (case bGk4aFM2 => assumption); (case bdpk4aFM2 => decide); (case buk4aFM2 => decide); intro t2 ps2 s2 F2 N2 ht2 G2 ho2)
    | (refine' sets_call ?cBk4aFM2 ?cFk4aFM2 ?cXk4aFM2 ?cNk4aFM2 ?cTk4aFM2 ?ckk4aFM2 hP.sks hPo hP.l3 ?cdpk4aFM2 ?cuk4aFM2 ?_; (case cNk4aFM2 => k_asm); (case cBk4aFM2 => k_asm); (case cFk4aFM2 => k_asm); (case cXk4aFM2 => k_asm); (case cTk4aFM2 => k_asm); (case ckk4aFM2 => first | rfl | assumption); (case cdpk4aFM2 => decide); (case cuk4aFM2 => decide); intro D3 vs3 cnt3 h3 tk3 hv3 hl3 F3 N3)
    | (refine' takes_call ?dBk4aFM2 ?dFk4aFM2 ?dXk4aFM2 ?dNk4aFM2 ?dTk4aFM2 ?dkk4aFM2 ?dvk4aFM2 hP.l4 hR9 ?ddpk4aFM2 ?duk4aFM2 ?_; (case dNk4aFM2 => k_asm); (case dBk4aFM2 => k_asm); (case dFk4aFM2 => k_asm); (case dXk4aFM2 => k_asm); (case dTk4aFM2 => k_asm); (case dkk4aFM2 => first | rfl | assumption); (case dvk4aFM2 => assumption); (case ddpk4aFM2 => decide); (case duk4aFM2 => decide); intro h4 tk4 F4 N4; rw [hgr])))))
  k_steps
  · exfalso
    have hbad : (gr != gr) = true := by assumption
    cases gr <;> exact absurd hbad (by decide)
  · exact ret _ _ F4 (News.perm N4 fun _ hp => List.Mem.tail _ hp) ht2 G2 ho2
theorem return_step {w : World} {p : Program} {loose : List Str} {mean : ExcName → Option Value} {mg mb : Str → Option Value} {h₀ : Heap} {L : Addr} {m : Str → Option Value} {s : Shared} {Q : Flow → Shared → Prop} {E : Value → Shared → Prop} {fa : Addr} {cd : Value}
    {nm : Str} {ps : Arguments} {x0 x1 x2 x3 x4 x5 x6 x7 x8 x9 x10 x11 x12 x13 x14 st : Stmt} {more : List Stmt} {dl : List Expr} {re : Option Expr} {tp : List TypeParam} {sc : PySem.Scope} {ts : Option PySem.Scope} {bn : Str} {po : Pos}
    {sh : Nat} {tsh : Tok} {D : Nat} {ys : List Value} {a b c d : Nat} {rest : List (Addr × Obj)}
    (hdef : lawDef = .FunctionDef nm ps (x0 :: x1 :: x2 :: x3 :: x4 :: x5 :: x6 :: x7 :: x8 :: x9 :: x10 :: x11 :: x12 :: x13 :: x14 :: st :: more) dl re tp sc ts bn po)
    (B : Below callerA h₀ [] h₀) (F : Fr h₀ L s.heap (fun y => if y = Str.ofString "shown" then some (.int (sh : Nat) tsh) else if y = Str.ofString "odd" then some (.ref D) else m y)) (X : (hd.heap_39 w.params).In h₀) (T : Top p loose mean mg mb h₀)
    (N : News h₀ L s.heap ((D, LCg.lst ys) :: rest)) (hys : IntsAre ys [(a : Int), (b : Int), (c : Int), (d : Int)]) (hs : sh ≤ 12) (ha : a ≤ 8) (hb : b ≤ 8) (hc : c ≤ 8) (hd' : d ≤ 8) (hp' : a * b * c * d = 2 ^ sh)
    (ret : ∀ (h' : Heap) (tk' : Nat), Fr h₀ L h' (fun y => if y = Str.ofString "shown" then some (.int (sh : Nat) tsh) else if y = Str.ofString "odd" then some (.ref D) else m y) → News h₀ L h' ((D, LCg.lst ys) :: rest) → Q (.ret (.bool true)) { s with heap := h', toks := tk' }) :
    wpAny (model PySem.Challenge.rw_ik0122_01.row.prog w) (callerA.deeper (envOfC (Str.ofString "law") sc L fa cd)) (exec st (envOfC (Str.ofString "law") sc L fa cd)) Q E s := by
  injection hdef with e1 e2 e3 e4 e5 e6 e7 e8 e9 e10
  injection e3 with a0 r0
  injection r0 with a1 r1
  injection r1 with a2 r2
  injection r2 with a3 r3
  injection r3 with a4 r4
  injection r4 with a5 r5
  injection r5 with a6 r6
  injection r6 with a7 r7
  injection r7 with a8 r8
  injection r8 with a9 r9
  injection r9 with a10 r10
  injection r10 with a11 r11
  injection r11 with a12 r12
  injection r12 with a13 r13
  injection r13 with a14 r14
  injection r14 with a15 r15
  revert X; k_fill; intro X
  subst a0 a1 a2 a3 a4 a5 a6 a7 a8 a9 a10 a11 a12 a13 a14 a15 r15 e7
  clear e1 e2 e4 e5 e6 e8 e9 e10
  obtain ⟨hp, gens, dr, tks, os⟩ := s
  dsimp only at F N ret ⊢
  k_with_none
  k_with "subscriptTail Subscript Subscript" => ((k_extra "subscriptTail Subscript Subscript ref int"))
  k_with "eval ListComp" => (((first | (lct_look; k_dflt (refine LCt.ListComp_T (F₀ := by k_asm) (by with_unfolding_all rfl) (by decide) (by rfl) (by decide) (by rfl) ?_)) | ((first | lcg_look | lcf_look); k_dflt (refine LCg.ListComp_U (F₀ := by k_asm) (by with_unfolding_all rfl) (by decide) (by rfl) (by decide) (by rfl) ?_)))))
  k_with "CompEnd" => ((((with_reducible rename Fr _ _ _ _ => lF'); (with_reducible rename News _ _ _ _ => lN'); (with_reducible rename AllNot _ _ => hz'); (with_reducible rename LCg.Off3 _ _ _ _ => of0'); k_dflt (refine' LCg.CompEnd.intro lF' lN' _ rot3 (off_push hz' of0') ?Sk2aFR ?Rk2aFR; (case Sk2aFR => exact (.inr ⟨_, by k_mem, rfl, _, rfl⟩))))))
  k_with "CompRest" => ((((with_unfolding_all refine LCg.CompRest.succ ?_); intro v' I' oI' C' oC' D' m' h' tk' E' hv' hC' hx' F' N' off' ne'; (first | lcg_open hv' | (obtain ⟨t9', hv9'⟩ := hv'; subst hv9')); have off0' := off'; (try simp only [LCg.Off3, and_true] at off'))))
  k_steps
  have e : ((a : Int) * (b : Int) * (c : Int) * (d : Int) == 2 ^ ((sh : Int)).toNat) = true := by
    rw [Int.toNat_natCast, beq_iff_eq]
    exact_mod_cast hp'
  refine (congrArg (fun v => Q (Flow.ret (Value.bool v)) _) (show (_ == _) = true from e)).mpr ?_
  exact ret hp _ F N
end
theorem law_tail {w : World} {p : Program} {loose : List Str} {mean : ExcName → Option Value} {mg mb : Str → Option Value} {h₀ : Heap} {L : Addr} {m : Str → Option Value} {s : Shared} {Q : Flow → Shared → Prop} {E : Value → Shared → Prop} {fa : Addr} {cd : Value}
    {D8 D7 A0 A1 A2 A3 k0 k1 k2 k3 cnt8 R V k : Nat} {w0 w1 w2 w3 : List Value} {u0 u1 u2 u3 tw tr : Tok} {o3 o4 : Obj} {pz : Array Value}
    {nm : Str} {ps : Arguments} {x0 x1 x2 x3 x4 x5 x6 x7 x8 : Stmt} {more : List Stmt} {dl : List Expr} {re : Option Expr} {tp : List TypeParam} {sc : PySem.Scope} {ts : Option PySem.Scope} {bn : Str} {po : Pos}
    (hdef : lawDef = .FunctionDef nm ps (x0 :: x1 :: x2 :: x3 :: x4 :: x5 :: x6 :: x7 :: x8 :: more) dl re tp sc ts bn po)
    (B : Below callerA h₀ [] h₀) (F : Fr h₀ L s.heap (fun y => if y = Str.ofString "wish" then some (.str (S (headOf k :: sgns V)) tw) else if y = Str.ofString "row" then some (.str (S (headOf k :: sgns R)) tr) else m y)) (X : (hd.heap_39 w.params).In h₀) (T : Top p loose mean mg mb h₀)
    (N : News h₀ L s.heap ((D8, W.listOf #[.int ((fig V 0 : Nat) : Int) u0, .int ((fig V 1 : Nat) : Int) u1, .int ((fig V 2 : Nat) : Int) u2, .int ((fig V 3 : Nat) : Int) u3] cnt8) :: (D7, LCg.lst [.ref A0, .ref A1, .ref A2, .ref A3]) :: (A3, W.listOf w3.toArray k3) :: (A2, W.listOf w2.toArray k2) :: (A1, W.listOf w1.toArray k1) :: (A0, W.listOf w0.toArray k0) :: (L + 1 + 1 + 1 + 1, o4) :: (L + 1 + 1 + 1, o3) :: (64, tabObj #[]) :: (33, tabObj pz) :: []))
    (d3 : o3.data = .cell (some (.ref D7))) (d4 : o4.data = .cell (some (.ref D8)))
    (hw0 : IntsAre w0 (lineOf (fig R 0))) (hw1 : IntsAre w1 (lineOf (fig R 1))) (hw2 : IntsAre w2 (lineOf (fig R 2))) (hw3 : IntsAre w3 (lineOf (fig R 3)))
    (C : CodeHd h₀ 68 64) (G : AllBare s.gens)
    (ret : ∀ (m' : Str → Option Value) (s' : Shared) (tb : Array Value), Fr h₀ L s'.heap m' → News h₀ L s'.heap [(64, tabObj tb), (33, tabObj pz)] → AllBare s'.gens → s'.os = s.os → Q (.ret (.bool true)) s') :
    wpAny (model PySem.Challenge.rw_ik0122_01.row.prog w) (callerA.deeper (envOfC (Str.ofString "law") sc L fa cd)) (execs more (envOfC (Str.ofString "law") sc L fa cd)) Q E s := by
  revert X; k_fill; intro X
  have hdef0 := hdef
  injection hdef with e1 e2 e3 e4 e5 e6 e7 e8 e9 e10
  injection e3 with a0 r0
  injection r0 with a1 r1
  injection r1 with a2 r2
  injection r2 with a3 r3
  injection r3 with a4 r4
  injection r4 with a5 r5
  injection r5 with a6 r6
  injection r6 with a7 r7
  injection r7 with a8 r8
  subst a0 a1 a2 a3 a4 a5 a6 a7 a8 r8 e7
  clear e1 e2 e4 e5 e6 e8 e9 e10
  k_with_none
  k_with "subscriptTail Subscript Subscript" => ((k_extra "subscriptTail Subscript Subscript ref int"))
  k_with "eval ListComp" => (((first | (lct_look; k_dflt (refine LCt.ListComp_T (F₀ := by k_asm) (by with_unfolding_all rfl) (by decide) (by rfl) (by decide) (by rfl) ?_)) | ((first | lcg_look | lcf_look); k_dflt (refine LCg.ListComp_U (F₀ := by k_asm) (by with_unfolding_all rfl) (by decide) (by rfl) (by decide) (by rfl) ?_)))))
  k_with "CompEnd" => ((((with_reducible rename Fr _ _ _ _ => lF'); (with_reducible rename News _ _ _ _ => lN'); (with_reducible rename AllNot _ _ => hz'); (with_reducible rename LCg.Off3 _ _ _ _ => of0'); k_dflt (refine' LCg.CompEnd.intro lF' lN' _ rot3 (off_push hz' of0') ?Sk2aFZ ?Rk2aFZ; (case Sk2aFZ => exact (.inr ⟨_, by k_mem, rfl, _, rfl⟩))))))
  k_with "CompRest" => ((((with_unfolding_all refine LCg.CompRest.succ ?_); intro v' I' oI' C' oC' D' m' h' tk' E' hv' hC' hx' F' N' off' ne'; (first | lcg_open hv' | (obtain ⟨t9', hv9'⟩ := hv'; subst hv9')); have off0' := off'; (try simp only [LCg.Off3, and_true] at off'))))
  iterate 1 (first | (k_unfold; (try dsimp only)) | walk1 | (dsimp only; walk1) | (leave1; walk_say "STEP leave1"; (try dsimp only)) | fail "no step")
  refine entries_step hdef0 B F X T N d3 d4 hw0 hw1 hw2 hw3 ?_
  intro D9 ys9 h9 tk9 hy9 F9 N9
  clear F N
  dsimp only
  iterate 1 (first | (k_unfold; (try dsimp only)) | walk1 | (dsimp only; walk1) | (leave1; walk_say "STEP leave1"; (try dsimp only)) | fail "no step")
  refine granted_step hdef0 B F9 X T hy9 rfl N9 ?_
  intro h10 tk10 F10 N10
  rw [show ((ents R V).filter fun x => decide (x.fmod 2 = 0)).isEmpty = within R V from granted_is R V] at F10
  dsimp only
  iterate 1 (first | (k_unfold; (try dsimp only)) | walk1 | (dsimp only; walk1) | (leave1; walk_say "STEP leave1"; (try dsimp only)) | fail "no step")
  refine odd_step (A0 := A0) (A1 := A1) (A2 := A2) (A3 := A3) (k0 := k0) (k1 := k1) (k2 := k2) (k3 := k3) (rest := [(64, tabObj #[]), (33, tabObj pz)]) hdef0 B F10 X T (News.perm N10 ?_) d3 hw0 hw1 hw2 hw3 ?_
  · intro p hp
    simp only [List.mem_cons, List.not_mem_nil, or_false] at hp ⊢
    rcases hp with h | h | h | h | h | h | h | h <;> simp [h]
  intro D11 ys11 h11 tk11 hy11 F11 N11
  clear F9 N9 F10 N10
  have n64 : @Ne Nat D11 64 := news_ne (o1 := LCg.lst ys11) (o2 := tabObj #[]) N11 (.head _) (by simp) (fun e => nomatch e)
  dsimp only
  iterate 1 (first | (k_unfold; (try dsimp only)) | walk1 | (dsimp only; walk1) | (leave1; walk_say "STEP leave1"; (try dsimp only)) | fail "no step")
  refine shown_step (rest := [(64, tabObj #[]), (D11, LCg.lst ys11), (33, tabObj pz)]) hdef0 B F11 X T (News.perm N11 ?_) rfl ?_
  · intro p hp
    simp only [List.mem_cons, List.not_mem_nil, or_false] at hp ⊢
    rcases hp with h | h | h <;> simp [h]
  intro t12 h12 tk12 F12 N12
  clear F11 N11
  dsimp only
  iterate 1 (first | (k_unfold; (try dsimp only)) | walk1 | (dsimp only; walk1) | (leave1; walk_say "STEP leave1"; (try dsimp only)) | fail "no step")
  refine if1_step hdef0 B F12 X T N12 rfl rfl C ?_ trivial G (pat_least k V) (takes_least k R V) ?_
  · intro p hp
    simp only [List.mem_cons, List.not_mem_nil, or_false] at hp
    rcases hp with h | h
    · rw [h]; exact n64
    · rw [h]; exact (by decide : @Ne Nat 33 64)
  intro tb13 s13 F13 N13 ht13 G13 ho13
  clear F12 N12
  dsimp only
  iterate 1 (first | (k_unfold; (try dsimp only)) | walk1 | (dsimp only; walk1) | (leave1; walk_say "STEP leave1"; (try dsimp only)) | fail "no step")
  refine if2_step hdef0 B F13 X T N13 rfl rfl C ?_ ht13 G13 (pat_most k R) (takes_most k R V) ?_
  · intro p hp
    simp only [List.mem_cons, List.not_mem_nil, or_false] at hp
    rcases hp with h | h
    · rw [h]; exact n64
    · rw [h]; exact (by decide : @Ne Nat 33 64)
  intro tb14 s14 F14 N14 ht14 G14 ho14
  clear F13 N13
  dsimp only
  iterate 1 (first | (k_unfold; (try dsimp only)) | walk1 | (dsimp only; walk1) | (leave1; walk_say "STEP leave1"; (try dsimp only)) | fail "no step")
  refine return_step (rest := [(64, tabObj tb14), (33, tabObj pz)]) hdef0 B F14 X T (News.perm N14 ?_) hy11 (shown_le R) (odd_le R 0) (odd_le R 1) (odd_le R 2) (odd_le R 3) (shown_is R) ?_
  · intro p hp
    simp only [List.mem_cons, List.not_mem_nil, or_false] at hp ⊢
    rcases hp with h | h | h <;> simp [h]
  intro h15 tk15 F15 N15
  exact ret _ _ tb14 F15 (News.perm N15 fun _ hp => List.Mem.tail _ hp) G14 (ho14.trans ho13)
local macro_rules | `(tactic| kn_posts) => `(tactic| refine code_post (by assumption) (fun _ _ => rfl) ?_)
theorem law_holds : PySem.Challenge.rw_ik0122_01.Holds := hd (by
  k_go0
  (all_goals try k_fold)
  k_with_none
  k_with "subscriptTail Subscript Subscript" => ((k_extra "subscriptTail Subscript Subscript ref int"))
  k_with "eval ListComp" => (((first | (lct_look; k_dflt (refine LCt.ListComp_T (F₀ := by k_asm) (by with_unfolding_all rfl) (by decide) (by rfl) (by decide) (by rfl) ?_)) | ((first | lcg_look | lcf_look); k_dflt (refine LCg.ListComp_U (F₀ := by k_asm) (by with_unfolding_all rfl) (by decide) (by rfl) (by decide) (by rfl) ?_)))))
  k_with "CompEnd" => ((((with_reducible rename Fr _ _ _ _ => lF'); (with_reducible rename News _ _ _ _ => lN'); (with_reducible rename AllNot _ _ => hz'); (with_reducible rename LCg.Off3 _ _ _ _ => of0'); k_dflt (refine' LCg.CompEnd.intro lF' lN' _ rot3 (off_push hz' of0') ?Sk2aFL ?Rk2aFL; (case Sk2aFL => exact (.inr ⟨_, by k_mem, rfl, _, rfl⟩))))))
  k_with "CompRest" => ((((with_unfolding_all refine LCg.CompRest.succ ?_); intro v' I' oI' C' oC' D' m' h' tk' E' hv' hC' hx' F' N' off' ne'; (first | lcg_open hv' | (obtain ⟨t9', hv9'⟩ := hv'; subst hv9')); have off0' := off'; (try simp only [LCg.Off3, and_true] at off'))))
  iterate 36 (first | (k_unfold; (try dsimp only)) | walk1 | (dsimp only; walk1) | (leave1; walk_say "STEP leave1"; (try dsimp only)) | fail "no step")
  refine' LCg.CompSrc.range (by rfl) (by k_asm) (by k_asm) (by assumption) (by decide) (by rfl) (by first | size_fits | exact Nat.le_of_ble_eq_true rfl) ?_
  intro g9
  refine' rest_inv (fun i ys => ∃ xs : List Int, xs.length = i ∧ IntsAre ys xs) trivial ⟨[], rfl, .nil⟩ ?turnFL ?finFL
  case turnFL =>
    intro i ys v' I' oI' C' oC' D' m' h' tk' E' hi hJ hv' hC' hx' F' N' off' ne'
    obtain ⟨t9, rfl⟩ := hv'
    have off0 := off'
    try simp only [LCg.Off3] at off'
    have hi10 : i < 10 := hi
    k_with "CompEnd" => (first | (k_dflt ((refine Halt.mk ?_))) | (((with_reducible rename Fr _ _ _ _ => lF'); (with_reducible rename News _ _ _ _ => lN'); (with_reducible rename AllNot _ _ => hz'); (with_reducible rename LCg.Off3 _ _ _ _ => of0'); k_dflt (refine' LCg.CompEnd.intro lF' lN' _ rot3 (off_push hz' of0') ?Sk2bFL ?Rk2bFL; (case Sk2bFL => exact (.inr ⟨_, by k_mem, rfl, _, rfl⟩))))))
    k_steps
    all_goals (unfold Halt; exact LCg.CompEnd.intro (by assumption) (by assumption) _ (fun p hp => hp) off0 trivial ⟨rfl, some_push hJ⟩)
  case finFL =>
    intro ys hys
    obtain ⟨f0, f1, f2, f3, f4, f5, f6, f7, f8, f9, t0, t1, t2, t3, t4, t5, t6, t7, t8, t9, rfl⟩ := ints10 hys
    clear hys
    intro D1 h1 tk1 F1 N1 o1
    have N2 := drop_given N1
    clear N1 o1
    k_with_none
    k_with "subscriptTail Subscript Subscript" => ((k_extra "subscriptTail Subscript Subscript ref int"))
    k_with "eval ListComp" => (((first | (lct_look; k_dflt (refine LCt.ListComp_T (F₀ := by k_asm) (by with_unfolding_all rfl) (by decide) (by rfl) (by decide) (by rfl) ?_)) | ((first | lcg_look | lcf_look); k_dflt (refine LCg.ListComp_U (F₀ := by k_asm) (by with_unfolding_all rfl) (by decide) (by rfl) (by decide) (by rfl) ?_)))))
    k_with "CompEnd" => ((((with_reducible rename Fr _ _ _ _ => lF'); (with_reducible rename News _ _ _ _ => lN'); (with_reducible rename AllNot _ _ => hz'); (with_reducible rename LCg.Off3 _ _ _ _ => of0'); k_dflt (refine' LCg.CompEnd.intro lF' lN' _ rot3 (off_push hz' of0') ?Sk2aFL ?Rk2aFL; (case Sk2aFL => exact (.inr ⟨_, by k_mem, rfl, _, rfl⟩))))))
    k_with "CompRest" => ((((with_unfolding_all refine LCg.CompRest.succ ?_); intro v' I' oI' C' oC' D' m' h' tk' E' hv' hC' hx' F' N' off' ne'; (first | lcg_open hv' | (obtain ⟨t9', hv9'⟩ := hv'; subst hv9')); have off0' := off'; (try simp only [LCg.Off3, and_true] at off'))))
    k_with "call ref" => ((k_dflt ((refine' number_call ?zBk4aFL ?zFk4aFL ?zXk4aFL ?zNk4aFL ?zTk4aFL ?zkk4aFL ?zdpk4aFL ?zuk4aFL ?_; (case zNk4aFL => k_asm); (case zBk4aFL => k_asm); (case zFk4aFL => k_asm); (case zXk4aFL => k_asm); (case zTk4aFL => k_asm); (case zkk4aFL => first | rfl | assumption); (case zdpk4aFL => decide); (case zuk4aFL => decide); intro R tR hR9 tkR hR FR NR; have NR2 := drop1 NR; clear NR))))
    k_with "eval IfExp" => ((k_dflt ((refine Halt.mk ?_))))
    k_steps
    unfold Halt
    refine' join_ev (fun x => ∃ W : Nat, W < 4096 ∧ x = (W : Int)) ?j1FL ?j2FL
    case j1FL =>
      k_with_none
      k_with "subscriptTail Subscript Subscript" => ((k_extra "subscriptTail Subscript Subscript ref int"))
      k_with "eval ListComp" => (((first | (lct_look; k_dflt (refine LCt.ListComp_T (F₀ := by k_asm) (by with_unfolding_all rfl) (by decide) (by rfl) (by decide) (by rfl) ?_)) | ((first | lcg_look | lcf_look); k_dflt (refine LCg.ListComp_U (F₀ := by k_asm) (by with_unfolding_all rfl) (by decide) (by rfl) (by decide) (by rfl) ?_)))))
      k_with "CompEnd" => ((((with_reducible rename Fr _ _ _ _ => lF'); (with_reducible rename News _ _ _ _ => lN'); (with_reducible rename AllNot _ _ => hz'); (with_reducible rename LCg.Off3 _ _ _ _ => of0'); k_dflt (refine' LCg.CompEnd.intro lF' lN' _ rot3 (off_push hz' of0') ?Sk2aFL ?Rk2aFL; (case Sk2aFL => exact (.inr ⟨_, by k_mem, rfl, _, rfl⟩))))))
      k_with "CompRest" => ((((with_unfolding_all refine LCg.CompRest.succ ?_); intro v' I' oI' C' oC' D' m' h' tk' E' hv' hC' hx' F' N' off' ne'; (first | lcg_open hv' | (obtain ⟨t9', hv9'⟩ := hv'; subst hv9')); have off0' := off'; (try simp only [LCg.Off3, and_true] at off'))))
      k_steps
      all_goals first
        | exact JoinP.mk ⟨_, and_lt (by assumption), bitAnd_nat _ _⟩
        | exact JoinP.mk ⟨_, by assumption, rfl⟩
    case j2FL =>
      intro xW tW tkW hW
      obtain ⟨W, hW, rfl⟩ := hW
      k_with_none
      k_with "subscriptTail Subscript Subscript" => ((k_extra "subscriptTail Subscript Subscript ref int"))
      k_with "eval ListComp" => (((first | (lct_look; k_dflt (refine LCt.ListComp_T (F₀ := by k_asm) (by with_unfolding_all rfl) (by decide) (by rfl) (by decide) (by rfl) ?_)) | ((first | lcg_look | lcf_look); k_dflt (refine LCg.ListComp_U (F₀ := by k_asm) (by with_unfolding_all rfl) (by decide) (by rfl) (by decide) (by rfl) ?_)))))
      k_with "CompEnd" => ((((with_reducible rename Fr _ _ _ _ => lF'); (with_reducible rename News _ _ _ _ => lN'); (with_reducible rename AllNot _ _ => hz'); (with_reducible rename LCg.Off3 _ _ _ _ => of0'); k_dflt (refine' LCg.CompEnd.intro lF' lN' _ rot3 (off_push hz' of0') ?Sk2aFL ?Rk2aFL; (case Sk2aFL => exact (.inr ⟨_, by k_mem, rfl, _, rfl⟩))))))
      k_with "CompRest" => ((((with_unfolding_all refine LCg.CompRest.succ ?_); intro v' I' oI' C' oC' D' m' h' tk' E' hv' hC' hx' F' N' off' ne'; (first | lcg_open hv' | (obtain ⟨t9', hv9'⟩ := hv'; subst hv9')); have off0' := off'; (try simp only [LCg.Off3, and_true] at off'))))
      k_with "exec Assign cons ListComp" => ((k_dflt ((refine Halt.mk ?_))))
      k_with "call ref" => ((k_dflt (((refine' mode_call ?yBk4aFL ?yFk4aFL ?yXk4aFL ?yNk4aFL ?yTk4aFL ?ykk4aFL ?ydpk4aFL ?yuk4aFL ?_; (case yNk4aFL => k_asm); (case yBk4aFL => k_asm); (case yFk4aFL => k_asm); (case yXk4aFL => k_asm); (case yTk4aFL => k_asm); (case ykk4aFL => first | rfl | assumption); (case ydpk4aFL => decide); (case yuk4aFL => decide); intro tM hM tkM FM NM); skip))))
      k_steps
      unfold Halt
      rename Fr _ _ _ _ => lF
      rename News _ _ _ _ => lN
      obtain ⟨κ, hκ⟩ := row_int (List.getD [f0, f1, f2, f3, f4, f5, f6, f7, f8, f9] (Int.toNat 8) 0)
      rw [hκ _ hW, hκ] at lF
      rotate_left
      · assumption
      have hL9 : @LT.lt Nat _ 64 (Heap.objs (Shared.heap _)).size := (by assumption : _ ∧ _).1
      refine' lines_step (hdef := ?p0FL) (B := ?p1FL) (F := lF) (X := ?p2FL) (T := ?p3FL) (N := pick_four lN) (d3 := ?p4FL) (hL := hL9) (hm := ?p5FL) (hR := ?p6FL) (C := ?p7FL) ?_
      case p0FL => rfl
      case p1FL => k_asm
      case p2FL => k_asm
      case p3FL => k_asm
      case p4FL => assumption
      case p5FL => with_unfolding_all rfl
      case p6FL => assumption
      case p7FL => kn_code
      clear lF lN
      intro D7 A0 A1 A2 A3 k0 k1 k2 k3 c3 w0 w1 w2 w3 oc3 o3' vsc3 tc3 h7 tk7 hw0 hw1 hw2 hw3 d7 ho3 hq3 hz7 F7 N7
      dsimp only
      iterate 1 (first | (k_unfold; (try dsimp only)) | walk1 | (dsimp only; walk1) | (leave1; walk_say "STEP leave1"; (try dsimp only)) | fail "no step")
      refine' places_step (V := W) (hdef := ?r0FL) (B := ?r1FL) (F := F7) (X := ?r2FL) (T := ?r3FL) (N := N7) (d4 := ?r4FL) (hL := hL9) (hm := ?r5FL) (hV := hW) (C := ?r7FL) ho3 hq3 hz7 ?_
      case r0FL => rfl
      case r1FL => k_asm
      case r2FL => k_asm
      case r3FL => k_asm
      case r4FL => assumption
      case r5FL => with_unfolding_all rfl
      case r7FL => kn_code
      clear N7 F7 hz7
      intro D8 cnt8 u0 u1 u2 u3 o4' h8 tk8 d8 F8 N8
      dsimp only
      refine' law_tail (k := κ) (hdef := ?q0FL) (B := ?q1FL) (F := F8) (X := ?q2FL) (T := ?q3FL) (N := pick_news N8) (d3 := d7) (d4 := d8) hw0 hw1 hw2 hw3 (C := ?q7FL) (G := ?q8FL) ?_
      case q0FL => rfl
      case q1FL => k_asm
      case q2FL => k_asm
      case q3FL => k_asm
      case q7FL => kn_code
      case q8FL => exact AllBare.of_eq (by assumption)
      intro m' s' tb hF hN hG' ho'
      refine ⟨⟨goodW_bool (b := true) (s' := { s' with gens := #[] }) hF rfl (fun _ => rfl) ?_ ho', hG'⟩, GrownAt.of hN (.head _), GrownAt.of hN (.tail _ (.head _)), trivial⟩
      first | rfl | (with_unfolding_all rfl) | (exact postW_of (by wrow_shape) (by wtm_val) (by str_meet; first | done | w_fin)))
end
end Mine
end
theorem PySem.Challenge.cw_ik0122_01_holds : PySem.Challenge.rw_ik0122_01.Holds :=
  Mine.law_holds
