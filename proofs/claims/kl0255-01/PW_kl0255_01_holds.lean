import PyProof.Rows.All
import Wide.All
import OpenK.AllK
import Wide.FinOn
import PySem.Challenge.RW_kl0255_01
open PySem PySem.W PySem.Spec PySem.Calls PyProof.Rows PyProof.V
set_option Elab.async false
set_option compiler.extract_closed false
set_option maxRecDepth 100000
name_quick tw8075568018651887793 for PySem.W.S.findZ by PySem.W.S.findZ_eq
name_quick tw14979626087600564940 for PySem.W.S.findZ by PySem.W.S.findZ_eq
name_quick tw7581816359482902497 for PySem.W.S.findZ by PySem.W.S.findZ_eq
name_quick tw16270752938277481826 for PySem.W.S.findZ by PySem.W.S.findZ_eq
name_quick tw6664980426165793575 for PySem.W.S.findZ by PySem.W.S.findZ_eq
name_quick tw12152520270820667787 for PySem.W.S.findZ by PySem.W.S.findZ_eq
name_quick tw9506841374142046533 for PySem.W.S.findZ by PySem.W.S.findZ_eq
name_quick tw2594094664786655113 for PySem.W.S.findZ by PySem.W.S.findZ_eq
name_quick tw204358133426689153 for PySem.W.S.findZ by PySem.W.S.findZ_eq
name_quick tw12284757191763014986 for PySem.W.S.findZ by PySem.W.S.findZ_eq
name_quick tw11166208814598095752 for PySem.W.S.findZ by PySem.W.S.findZ_eq
name_quick tw6631858758815746480 for PySem.W.S.findZ by PySem.W.S.findZ_eq
name_quick tw5040193762218094904 for PySem.W.S.findZ by PySem.W.S.findZ_eq
name_quick tw6733733256287894996 for PySem.W.S.findZ by PySem.W.S.findZ_eq
name_quick tw1651231452613355621 for PySem.W.S.findZ by PySem.W.S.findZ_eq
name_quick tw1184552218554016812 for PySem.W.S.findZ by PySem.W.S.findZ_eq
name_quick tw3820604794100220378 for PySem.W.S.findZ by PySem.W.S.findZ_eq
name_quick tw14781814936221603388 for PySem.W.S.findZ by PySem.W.S.findZ_eq
name_quick tw10919533547850550483 for PySem.W.S.findZ by PySem.W.S.findZ_eq
name_quick tw12813236842856870187 for PySem.W.S.findZ by PySem.W.S.findZ_eq
name_quick tw13443845346986579664 for PySem.W.S.findZ by PySem.W.S.findZ_eq
name_quick tw15450981722951097364 for PySem.W.S.findZ by PySem.W.S.findZ_eq
name_quick tw4224760802259116069 for PySem.W.S.findZ by PySem.W.S.findZ_eq
name_quick tw12835720964997663042 for PySem.W.S.findZ by PySem.W.S.findZ_eq
name_quick tw12825359941727978080 for PySem.W.S.findZ by PySem.W.S.findZ_eq
name_quick tw16697116713213952808 for PySem.W.S.findZ by PySem.W.S.findZ_eq
name_quick tw12177639751122801600 for PySem.W.S.findZ by PySem.W.S.findZ_eq
name_quick tw15273284572552504074 for PySem.W.S.findZ by PySem.W.S.findZ_eq
name_quick tw8897938508979226211 for PySem.W.S.findZ by PySem.W.S.findZ_eq
name_quick tw1749818173716722547 for PySem.W.S.findZ by PySem.W.S.findZ_eq
name_quick tw17730448691065144110 for PySem.W.S.findZ by PySem.W.S.findZ_eq
name_quick tw17001327861769816259 for PySem.W.S.findZ by PySem.W.S.findZ_eq
name_quick tw4434333111790514575 for PySem.W.S.findZ by PySem.W.S.findZ_eq
name_quick tw1291980286583624508 for PySem.W.S.findZ by PySem.W.S.findZ_eq
name_quick tw5345256250457102556 for PySem.W.S.findZ by PySem.W.S.findZ_eq
name_quick tw6434138532213402376 for PySem.W.S.findZ by PySem.W.S.findZ_eq
name_quick tw8450942572126056277 for PySem.W.S.findZ by PySem.W.S.findZ_eq
name_quick tw8017206721242287953 for PySem.W.S.findZ by PySem.W.S.findZ_eq
name_quick tw16804044748790271530 for PySem.W.S.findZ by PySem.W.S.findZ_eq
name_quick tw4748654258956052638 for PySem.W.S.findZ by PySem.W.S.findZ_eq
name_quick tw4636218855388986860 for PySem.W.S.findZ by PySem.W.S.findZ_eq
name_quick tw10881846856767400648 for PySem.W.S.findZ by PySem.W.S.findZ_eq
name_quick tw4444965560193506482 for PySem.W.S.findZ by PySem.W.S.findZ_eq
name_quick tw16741492637210864865 for PySem.W.S.findZ by PySem.W.S.findZ_eq
name_quick tw11796506867022685745 for PySem.W.S.findZ by PySem.W.S.findZ_eq
name_quick tw14376985748213822385 for PySem.W.S.findZ by PySem.W.S.findZ_eq
name_quick tw151948405760981731 for PySem.W.S.findZ by PySem.W.S.findZ_eq
name_quick tw11267663658021688815 for PySem.W.S.findZ by PySem.W.S.findZ_eq
name_quick tw15560500314895047343 for PySem.W.S.findZ by PySem.W.S.findZ_eq
name_quick tw3152983702415266003 for PySem.W.S.findZ by PySem.W.S.findZ_eq
name_quick tw16916688483869632129 for PySem.W.S.findZ by PySem.W.S.findZ_eq
name_quick tw4011157648589011858 for PySem.W.S.findZ by PySem.W.S.findZ_eq
name_quick tw4090926877573551719 for PySem.W.S.findZ by PySem.W.S.findZ_eq
name_quick tw2711585505577850959 for PySem.W.S.findZ by PySem.W.S.findZ_eq
name_quick tw932993149863042379 for PySem.W.S.findZ by PySem.W.S.findZ_eq
name_quick tw10323183001455561277 for PySem.W.S.findZ by PySem.W.S.findZ_eq
name_quick tw5591276700874282246 for PySem.W.S.findZ by PySem.W.S.findZ_eq
name_quick tw7299951869573292228 for PySem.W.S.findZ by PySem.W.S.findZ_eq
name_quick tw10596839373694312039 for PySem.W.S.findZ by PySem.W.S.findZ_eq
name_quick tw1706496860858754268 for PySem.W.S.findZ by PySem.W.S.findZ_eq
name_quick tw7401281599722004195 for PySem.W.S.findZ by PySem.W.S.findZ_eq
name_quick tw13987355940573415152 for PySem.W.S.findZ by PySem.W.S.findZ_eq
name_quick tw5978237884098788730 for PySem.W.S.findZ by PySem.W.S.findZ_eq
name_quick tw16049961110935095269 for PySem.W.S.findZ by PySem.W.S.findZ_eq
name_quick tw3786171109335207959 for PySem.W.S.findZ by PySem.W.S.findZ_eq
name_quick tw17532440430192770315 for PySem.W.S.findZ by PySem.W.S.findZ_eq
name_quick tw15007238320947547705 for PySem.W.S.findZ by PySem.W.S.findZ_eq
name_quick tw4797165386629745026 for PySem.W.S.findZ by PySem.W.S.findZ_eq
name_quick tw7650934615059315214 for PySem.W.S.findZ by PySem.W.S.findZ_eq
name_quick tw14884601019740666482 for PySem.W.S.findZ by PySem.W.S.findZ_eq
name_quick tw12659028871203227004 for PySem.W.S.findZ by PySem.W.S.findZ_eq
name_quick tw12898947447245864913 for PySem.W.S.findZ by PySem.W.S.findZ_eq
name_quick tw15894407043143930727 for PySem.W.S.findZ by PySem.W.S.findZ_eq
name_quick tw16966814322356759819 for PySem.W.S.findZ by PySem.W.S.findZ_eq
name_quick tw13193424258596409591 for PySem.W.S.findZ by PySem.W.S.findZ_eq
name_quick tw11588390666370768167 for PySem.W.S.findZ by PySem.W.S.findZ_eq
name_quick tw1942679103099616262 for PySem.W.S.findZ by PySem.W.S.findZ_eq
name_quick tw662354867322794072 for PySem.W.S.findZ by PySem.W.S.findZ_eq
name_quick tw12827158375178065980 for PySem.W.S.findZ by PySem.W.S.findZ_eq
name_quick tw10205541121877940668 for PySem.W.S.findZ by PySem.W.S.findZ_eq
name_quick tw7392212959928792091 for PySem.W.S.findZ by PySem.W.S.findZ_eq
name_quick tw18222870959881175025 for PySem.W.S.findZ by PySem.W.S.findZ_eq
name_quick tw10942035263794033107 for PySem.W.S.findZ by PySem.W.S.findZ_eq
name_quick tw8796240567053077481 for PySem.W.S.findZ by PySem.W.S.findZ_eq
name_quick tw1333364371103165705 for PySem.W.S.findZ by PySem.W.S.findZ_eq
name_quick tw4527066259768149269 for PySem.W.S.findZ by PySem.W.S.findZ_eq
name_quick tw14896874001708588922 for PySem.W.S.findZ by PySem.W.S.findZ_eq
name_quick tw7232422423428716515 for PySem.W.S.findZ by PySem.W.S.findZ_eq
name_quick tw164946165840970297468595292554425487202 for PySem.W.S.findZ by PySem.W.S.findZ_eq
name_quick tw1402947280878808549 for PySem.W.S.findZ by PySem.W.S.findZ_eq
name_quick tw3560238982266916124 for PySem.W.S.findZ by PySem.W.S.findZ_eq
name_quick tw7745614565497352828 for PySem.W.S.findZ by PySem.W.S.findZ_eq
name_quick tw8719427161674164953 for PySem.W.S.findZ by PySem.W.S.findZ_eq
name_quick tw6245536207120538393 for PySem.W.S.findZ by PySem.W.S.findZ_eq
name_quick tw12544889979750865404 for PySem.W.S.findZ by PySem.W.S.findZ_eq
name_quick tw9948023125614773506 for PySem.W.S.findZ by PySem.W.S.findZ_eq
name_quick tw7299303143086499733 for PySem.W.S.findZ by PySem.W.S.findZ_eq
name_quick tw11452132507678324671 for PySem.W.S.findZ by PySem.W.S.findZ_eq
name_quick tw16947794391021106201 for PySem.W.S.findZ by PySem.W.S.findZ_eq
name_quick tw16018607276475445134 for PySem.W.S.findZ by PySem.W.S.findZ_eq
name_quick tw2354135333415324597 for PySem.W.S.findZ by PySem.W.S.findZ_eq
name_quick tw15195428891847259777 for PySem.W.S.findZ by PySem.W.S.findZ_eq
name_quick tw12450158673883907302 for PySem.W.S.findZ by PySem.W.S.findZ_eq
name_quick tw5357591511691535388 for PySem.W.S.findZ by PySem.W.S.findZ_eq
name_quick tw13759679279233594173 for PySem.W.S.findZ by PySem.W.S.findZ_eq
name_quick tw4658958612460137192 for PySem.W.S.findZ by PySem.W.S.findZ_eq
name_quick tw14168537005229113720 for PySem.W.S.findZ by PySem.W.S.findZ_eq
name_quick tw15480198773659482676 for PySem.W.S.findZ by PySem.W.S.findZ_eq
name_quick tw17846936440860909165 for PySem.W.S.findZ by PySem.W.S.findZ_eq
name_quick tw12329403913580668285 for PySem.W.S.findZ by PySem.W.S.findZ_eq
name_quick tw14386061602966655976 for PySem.W.S.findZ by PySem.W.S.findZ_eq
name_quick tw10793946183389764080 for PySem.W.S.findZ by PySem.W.S.findZ_eq
name_quick tw3094477031063562474 for PySem.W.S.findZ by PySem.W.S.findZ_eq
name_quick tw9908251947323293946 for PySem.W.S.findZ by PySem.W.S.findZ_eq
name_quick tw2905824091091238844 for PySem.W.S.findZ by PySem.W.S.findZ_eq
name_quick tw8400853705098224536 for PySem.W.S.findZ by PySem.W.S.findZ_eq
name_quick tw18263319221461684349 for PySem.W.S.findZ by PySem.W.S.findZ_eq
name_quick tw9529234661008812162 for PySem.W.S.findZ by PySem.W.S.findZ_eq
name_quick tw14210447440969649564 for PySem.W.S.findZ by PySem.W.S.findZ_eq
name_quick tw7397068168572129948 for PySem.W.S.findZ by PySem.W.S.findZ_eq
name_quick tw6363645014702824404 for PySem.W.S.findZ by PySem.W.S.findZ_eq
name_quick tw16979880578912567463 for PySem.W.S.findZ by PySem.W.S.findZ_eq
name_quick tw18103910768895448316 for PySem.W.S.findZ by PySem.W.S.findZ_eq
name_quick tw6929956602132211858 for PySem.W.S.findZ by PySem.W.S.findZ_eq
name_quick tw9759809726879904816 for PySem.W.S.findZ by PySem.W.S.findZ_eq
name_quick tw8860024209350480642 for PySem.W.S.findZ by PySem.W.S.findZ_eq
name_quick tw7504490480230193789 for PySem.W.S.findZ by PySem.W.S.findZ_eq
name_quick tw558745408833754511 for PySem.W.S.findZ by PySem.W.S.findZ_eq
name_quick tw6176516700144440145 for PySem.W.S.findZ by PySem.W.S.findZ_eq
name_quick tw11707433790658880453 for PySem.W.S.findZ by PySem.W.S.findZ_eq
name_quick tw2719445374943340272 for PySem.W.S.findZ by PySem.W.S.findZ_eq
name_quick tw16846860572762119324 for PySem.W.S.findZ by PySem.W.S.findZ_eq
name_quick tw17828083071136270317 for PySem.W.S.findZ by PySem.W.S.findZ_eq
name_quick tw17274371674624000324 for PySem.W.S.findZ by PySem.W.S.findZ_eq
name_quick tw2664551874359636763 for PySem.W.S.findZ by PySem.W.S.findZ_eq
name_quick tw9787463984185863102 for PySem.W.S.findZ by PySem.W.S.findZ_eq
name_quick tw2611137233208623240 for PySem.W.S.findZ by PySem.W.S.findZ_eq
name_quick tw1041845030581493396 for PySem.W.S.findZ by PySem.W.S.findZ_eq
name_quick tw1218959903707654005 for PySem.W.S.findZ by PySem.W.S.findZ_eq
name_quick tw2627984346626558326 for PySem.W.S.findZ by PySem.W.S.findZ_eq
name_quick tw16548257151911338427 for PySem.W.S.findZ by PySem.W.S.findZ_eq
name_quick tw5032809538720368765 for PySem.W.S.findZ by PySem.W.S.findZ_eq
name_quick tw12022618010286034681 for PySem.W.S.findZ by PySem.W.S.findZ_eq
name_quick tw2478078296215019888 for PySem.W.S.findZ by PySem.W.S.findZ_eq
name_quick tw14073706353221006472 for PySem.W.S.findZ by PySem.W.S.findZ_eq
name_quick tw43969757491396457 for PySem.W.S.findZ by PySem.W.S.findZ_eq
name_quick tw12850107946570832962 for PySem.W.S.findZ by PySem.W.S.findZ_eq
name_quick tw912392155897948271 for PySem.W.S.findZ by PySem.W.S.findZ_eq
name_quick tw7721631327575515661 for PySem.W.S.findZ by PySem.W.S.findZ_eq
name_quick tw16180582048198870337 for PySem.W.S.findZ by PySem.W.S.findZ_eq
name_quick tw3619232141914619222 for PySem.W.S.findZ by PySem.W.S.findZ_eq
name_quick tw11964429278604863157 for PySem.W.S.findZ by PySem.W.S.findZ_eq
name_quick tw9931943479562821362 for PySem.W.S.findZ by PySem.W.S.findZ_eq
name_quick tw1377046205977697930 for PySem.W.S.findZ by PySem.W.S.findZ_eq
name_quick tw13615603153576403970 for PySem.W.S.findZ by PySem.W.S.findZ_eq
name_quick tw2180345788495564439 for PySem.W.S.findZ by PySem.W.S.findZ_eq
name_quick tw3264259588550801142 for PySem.W.S.findZ by PySem.W.S.findZ_eq
name_quick tw9376109419431680627 for PySem.W.S.findZ by PySem.W.S.findZ_eq
name_quick tw9315938663221665524 for PySem.W.S.findZ by PySem.W.S.findZ_eq
name_quick tw11838138170533393997 for PySem.W.S.findZ by PySem.W.S.findZ_eq
name_quick tw4292500188555128830 for PySem.W.S.findZ by PySem.W.S.findZ_eq
name_quick tw13640514254501968386 for PySem.W.S.findZ by PySem.W.S.findZ_eq
name_quick tw5076957145309523181 for PySem.W.S.findZ by PySem.W.S.findZ_eq
name_quick tw282004115355043989 for PySem.W.S.findZ by PySem.W.S.findZ_eq
name_quick tw8708707556590381134 for PySem.W.S.findZ by PySem.W.S.findZ_eq
name_quick tw7581352650102555174 for PySem.W.S.findZ by PySem.W.S.findZ_eq
name_quick tw10314498396905981064 for PySem.W.S.findZ by PySem.W.S.findZ_eq
name_quick tw6662432510661729299 for PySem.W.S.findZ by PySem.W.S.findZ_eq
name_quick tw17164873540382356111 for PySem.W.S.findZ by PySem.W.S.findZ_eq
name_quick tw15823609455315575823 for PySem.W.S.findZ by PySem.W.S.findZ_eq
name_quick tw4407734736301137906 for PySem.W.S.findZ by PySem.W.S.findZ_eq
name_quick tw12832477231654346042 for PySem.W.S.findZ by PySem.W.S.findZ_eq
name_quick tw15766043655864335149 for PySem.W.S.findZ by PySem.W.S.findZ_eq
name_quick tw11130039905162102590 for PySem.W.S.findZ by PySem.W.S.findZ_eq
name_quick tw13981391230805400906 for PySem.W.S.findZ by PySem.W.S.findZ_eq
name_quick tw3698559305507148144 for PySem.W.S.findZ by PySem.W.S.findZ_eq
name_quick tw1702518465993881591 for PySem.W.S.findZ by PySem.W.S.findZ_eq
name_quick tw11788150170368784547 for PySem.W.S.findZ by PySem.W.S.findZ_eq
name_quick tw14326252917377295143 for PySem.W.S.findZ by PySem.W.S.findZ_eq
name_quick tw4978915544186085027 for PySem.W.S.findZ by PySem.W.S.findZ_eq
name_quick tw4549333791460862111 for PySem.W.S.findZ by PySem.W.S.findZ_eq
name_quick tw18260038339965228139 for PySem.W.S.findZ by PySem.W.S.findZ_eq
name_quick tw2408619945344806742 for PySem.W.S.findZ by PySem.W.S.findZ_eq
name_quick tw5706481520468235054 for PySem.W.S.findZ by PySem.W.S.findZ_eq
name_quick tw951843321253372498 for PySem.W.S.findZ by PySem.W.S.findZ_eq
name_quick tw4319705520415482375 for PySem.W.S.findZ by PySem.W.S.findZ_eq
name_quick tw16752143609539240740 for PySem.W.S.findZ by PySem.W.S.findZ_eq
name_quick tw3282434896037501709 for PySem.W.S.findZ by PySem.W.S.findZ_eq
name_quick tw14108194823987119177 for PySem.W.S.findZ by PySem.W.S.findZ_eq
name_quick tw17100903815162463580 for PySem.W.S.findZ by PySem.W.S.findZ_eq
name_quick tw14433975572909055671 for PySem.W.S.findZ by PySem.W.S.findZ_eq
name_quick tw7275051467321613617 for PySem.W.S.findZ by PySem.W.S.findZ_eq
name_quick tw11445135464325071761 for PySem.W.S.findZ by PySem.W.S.findZ_eq
name_quick tw1092655722715705105 for PySem.W.S.findZ by PySem.W.S.findZ_eq
name_quick tw2670528217467546775 for PySem.W.S.findZ by PySem.W.S.findZ_eq
name_quick tw9862997608875712007 for PySem.W.S.findZ by PySem.W.S.findZ_eq
name_quick tw505943868828395459 for PySem.W.S.findZ by PySem.W.S.findZ_eq
name_quick tw18220123701641295943 for PySem.W.S.findZ by PySem.W.S.findZ_eq
name_quick tw10424941004445345732 for PySem.W.S.findZ by PySem.W.S.findZ_eq
name_quick tw8098380416015320538 for PySem.W.S.findZ by PySem.W.S.findZ_eq
name_quick tw18345786424863182364 for PySem.W.S.findZ by PySem.W.S.findZ_eq
name_quick tw10948738476641704880 for PySem.W.S.findZ by PySem.W.S.findZ_eq
name_quick tw2193789692954389824 for PySem.W.S.findZ by PySem.W.S.findZ_eq
name_quick tw4039474712603431140 for PySem.W.S.findZ by PySem.W.S.findZ_eq
name_quick tw1010255546594321568 for PySem.W.S.findZ by PySem.W.S.findZ_eq
name_quick tw7365555872484859036 for PySem.W.S.findZ by PySem.W.S.findZ_eq
name_quick tw10317580896714288900 for PySem.W.S.findZ by PySem.W.S.findZ_eq
name_quick tw5701610774189311196 for PySem.W.S.findZ by PySem.W.S.findZ_eq
name_quick tw2862820112641550484 for PySem.W.S.findZ by PySem.W.S.findZ_eq
name_quick tw16349216596472256690 for PySem.W.S.findZ by PySem.W.S.findZ_eq
name_quick tw10470071008263537045 for PySem.W.S.findZ by PySem.W.S.findZ_eq
name_quick tw12233582284571471492 for PySem.W.S.findZ by PySem.W.S.findZ_eq
name_quick tw10010936943081839664 for PySem.W.S.findZ by PySem.W.S.findZ_eq
name_quick tw4302124980754421698 for PySem.W.S.findZ by PySem.W.S.findZ_eq
name_quick tw11625766737575182897 for PySem.W.S.findZ by PySem.W.S.findZ_eq
name_quick tw4679858250743294509 for PySem.W.S.findZ by PySem.W.S.findZ_eq
name_quick tw1638017585896720355 for PySem.W.S.findZ by PySem.W.S.findZ_eq
name_quick tw16869277618539721502 for PySem.W.S.findZ by PySem.W.S.findZ_eq
name_quick tw12734952128020822468 for PySem.W.S.findZ by PySem.W.S.findZ_eq
name_quick tw9800571698397750058 for PySem.W.S.findZ by PySem.W.S.findZ_eq
name_quick tw18101931140130867144 for PySem.W.S.findZ by PySem.W.S.findZ_eq
name_quick tw17517737089405305841 for PySem.W.S.findZ by PySem.W.S.findZ_eq
name_quick tw16643379632663270332 for PySem.W.S.findZ by PySem.W.S.findZ_eq
name_quick tw3972328310683599613 for PySem.W.S.findZ by PySem.W.S.findZ_eq
name_quick tw460243522976405022 for PySem.W.S.findZ by PySem.W.S.findZ_eq
name_quick tw15542503528162795033 for PySem.W.S.findZ by PySem.W.S.findZ_eq
name_quick tw17024463272895095403 for PySem.W.S.findZ by PySem.W.S.findZ_eq
name_quick tw9011979029575296479 for PySem.W.S.findZ by PySem.W.S.findZ_eq
name_quick tw6683783046931543321 for PySem.W.S.findZ by PySem.W.S.findZ_eq
name_quick tw2422670821966735624 for PySem.W.S.findZ by PySem.W.S.findZ_eq
name_quick tw6448080314894763839 for PySem.W.S.findZ by PySem.W.S.findZ_eq
namespace Mine
set_option maxHeartbeats 8000000 in
open_top hd for PySem.Challenge.rw_kl0255_01

noncomputable abbrev Led := List (Addr × Obj)
noncomputable abbrev Loc := Str → Option Value
noncomputable abbrev Sh (s : Shared) (h : Heap) (t : Nat) : Shared := { s with heap := h, toks := t }

noncomputable def Ext (g h : Heap) : Prop := ∀ b o, g.get? b = some o → h.get? b = some o
theorem Ext.rfl' {g : Heap} : Ext g g := fun _ _ e => e
theorem Ext.tr {g h k : Heap} (x : Ext g h) (y : Ext h k) : Ext g k := fun b o e => y b o (x b o e)

structure Mem (g : Heap) (mu : Led) (h : Heap) : Prop where
  keep : Ext g h
  at_ : ∀ p ∈ mu, h.get? p.1 = some p.2 ∧ g.get? p.1 = none
  nd : (mu.map (·.1)).Nodup

section
variable {g h h' : Heap} {mu mu' : Led} {a : Addr} {o o' : Obj}
theorem Mem.ext (M : Mem g mu h) (x : Ext h h') : Mem g mu h' := ⟨M.keep.tr x, fun p hp => ⟨x _ _ (M.at_ p hp).1, (M.at_ p hp).2⟩, M.nd⟩
theorem Mem.lt (M : Mem g mu h) {p : Addr × Obj} (hp : p ∈ mu) : p.1 < h.objs.size := Heap.lt_size (M.at_ p hp).1
theorem Mem.fresh (M : Mem g mu h) : g.get? h.objs.size = none := by
  cases e : g.get? h.objs.size with
  | none => rfl
  | some o => exact absurd (Heap.lt_size (M.keep _ _ e)) (Nat.lt_irrefl _)
theorem Mem.push (M : Mem g mu h) (o : Obj) (hf : o.isFreed = false) : Mem g ((h.objs.size, o) :: mu) (h.push o) := by
  refine ⟨fun b x e => Heap.get?_push_of_some _ (M.keep b x e), fun p hp => ?_, ?_⟩
  · rcases List.mem_cons.mp hp with rfl | hp
    · exact ⟨Heap.get?_push_size _ hf, M.fresh⟩
    · exact ⟨Heap.get?_push_of_some _ (M.at_ p hp).1, (M.at_ p hp).2⟩
  · rw [List.map_cons]
    refine List.nodup_cons.mpr ⟨fun hm => ?_, M.nd⟩
    obtain ⟨p, hp, e⟩ := List.mem_map.mp hm
    exact absurd (M.lt hp) (e ▸ Nat.lt_irrefl _)
theorem Mem.top (M : Mem g mu h) : ∃ g', Ext g g' ∧ Mem g' mu h ∧ ∀ b x, h.get? b = some x → (∀ p ∈ mu, p.1 ≠ b) → g'.get? b = some x := by
  refine ⟨hideAll h (mu.map (·.1)), fun b x e => hideAll_get _ (M.keep b x e) fun hm => ?_, ⟨fun b x e => of_hideAll _ e, fun p hp => ⟨(M.at_ p hp).1, hideAll_none _ (List.mem_map_of_mem hp)⟩, M.nd⟩, fun b x e hn => hideAll_get _ e fun hm => ?_⟩
  · obtain ⟨p, hp, q⟩ := List.mem_map.mp hm
    have := (M.at_ p hp).2
    rw [q, e] at this; cases this
  · obtain ⟨p, hp, q⟩ := List.mem_map.mp hm
    exact hn p hp q
theorem Mem.freeze (M : Mem g ((a, o) :: mu) h) : ∃ g', Ext g g' ∧ Mem g' mu h ∧ g'.get? a = some o := by
  have M' : Mem g mu h := ⟨M.keep, fun p hp => M.at_ p (.tail _ hp), (List.nodup_cons.mp M.nd).2⟩
  obtain ⟨g', e, m, k⟩ := M'.top
  refine ⟨g', e, m, k _ _ (M.at_ _ (.head _)).1 fun p hp q => (List.nodup_cons.mp M.nd).1 (List.mem_map.mpr ⟨p, hp, q⟩)⟩
theorem Mem.drop (M : Mem g ((a, o) :: mu) h) : Mem g mu h := ⟨M.keep, fun p hp => M.at_ p (.tail _ hp), (List.nodup_cons.mp M.nd).2⟩
theorem Mem.pushP (M : Mem g mu h) (o : Obj) (hf : o.isFreed = false) : ∃ g', Ext g g' ∧ Mem g' mu (h.push o) ∧ g'.get? h.objs.size = some o := (M.push o hf).freeze
theorem Mem.sub (M : Mem g mu h) (hs : mu'.Sublist mu) : Mem g mu' h := ⟨M.keep, fun p hp => M.at_ p (hs.subset hp), M.nd.sublist (hs.map _)⟩
theorem Mem.perm (M : Mem g mu h) (hp : mu'.Perm mu) : Mem g mu' h := ⟨M.keep, fun p hq => M.at_ p (hp.subset hq), (hp.map _).nodup_iff.mpr M.nd⟩
theorem Mem.dropL {own : Led} (M : Mem g (own ++ mu) h) : Mem g mu h := M.sub (List.sublist_append_right _ _)
theorem Mem.set (M : Mem g ((a, o) :: mu) h) (hs : Heap.SameBut a h h') (ho : h'.get? a = some o') : Mem g ((a, o') :: mu) h' := by
  have na : ∀ p ∈ mu, p.1 ≠ a := fun p hp q => (List.nodup_cons.mp M.nd).1 (List.mem_map.mpr ⟨p, hp, q⟩)
  have ga := (M.at_ _ (.head _)).2
  refine ⟨fun b x e => (hs.2 b fun q => ?_).trans (M.keep b x e), fun p hp => ?_, M.nd⟩
  · subst q; rw [show g.get? b = none from ga] at e; cases e
  · rcases List.mem_cons.mp hp with rfl | hp
    · exact ⟨ho, ga⟩
    · exact ⟨(hs.2 _ (na p hp)).trans (M.at_ p (.tail _ hp)).1, (M.at_ p (.tail _ hp)).2⟩
theorem Mem.setAt {pre : Led} (M : Mem g (pre ++ (a, o) :: mu) h) (hs : Heap.SameBut a h h') (ho : h'.get? a = some o') : Mem g (pre ++ (a, o') :: mu) h' := by
  have p1 : (pre ++ (a, o) :: mu).Perm ((a, o) :: (pre ++ mu)) := List.perm_middle
  have p2 : (pre ++ (a, o') :: mu).Perm ((a, o') :: (pre ++ mu)) := List.perm_middle
  exact ((M.perm p1.symm).set hs ho).perm p2
theorem Mem.get (M : Mem g mu h) {p : Addr × Obj} (hp : p ∈ mu) : h.get? p.1 = some p.2 := (M.at_ p hp).1
theorem Mem.ne {p q : Addr × Obj} (M : Mem g (p :: mu) h) (hq : q ∈ mu) : q.1 ≠ p.1 := fun e => (List.nodup_cons.mp M.nd).1 (List.mem_map.mpr ⟨q, hq, e⟩)
end

noncomputable def At (g : Heap) (L : Addr) (m : Loc) (mu : Led) (h : Heap) : Prop := ∃ oL, LCg.NsObj oL m ∧ Mem g ((L, oL) :: mu) h
section
variable {g h h' : Heap} {L a : Addr} {m : Loc} {mu mu' : Led} {o o' : Obj}
theorem At.ns (T : At g L m mu h) : h.Ns L m := let ⟨_, n, M⟩ := T; n.ns (M.get (.head _))
theorem At.keep (T : At g L m mu h) : Ext g h := let ⟨_, _, M⟩ := T; M.keep
theorem At.mem (T : At g L m mu h) : Mem g mu h := let ⟨_, _, M⟩ := T; M.drop
theorem At.setL {m' : Loc} (T : At g L m mu h) (hn : h'.Ns L m') (hs : Heap.SameBut L h h') : At g L m' mu h' := by
  obtain ⟨oL, n, M⟩ := T
  obtain ⟨o', e, n'⟩ := LCg.ns_obj hn
  exact ⟨o', n', M.set hs e⟩
theorem At.ext (T : At g L m mu h) (x : Ext h h') : At g L m mu h' := let ⟨oL, n, M⟩ := T; ⟨oL, n, M.ext x⟩
theorem At.perm (T : At g L m mu h) (hp : mu'.Perm mu) : At g L m mu' h := let ⟨oL, n, M⟩ := T; ⟨oL, n, M.perm (hp.cons _)⟩
theorem At.drop (T : At g L m ((a, o) :: mu) h) : At g L m mu h := let ⟨oL, n, M⟩ := T; ⟨oL, n, M.sub ((List.sublist_cons_self _ _).cons_cons _)⟩
theorem At.dropL {own : Led} (T : At g L m (own ++ mu) h) : At g L m mu h := let ⟨oL, n, M⟩ := T; ⟨oL, n, M.sub ((List.sublist_append_right _ _).cons_cons _)⟩
theorem At.push (T : At g L m mu h) (o : Obj) (hf : o.isFreed = false) : At g L m ((h.objs.size, o) :: mu) (h.push o) := let ⟨oL, n, M⟩ := T; ⟨oL, n, (M.push o hf).perm (.swap ..)⟩
theorem At.pushP (T : At g L m mu h) (o : Obj) (hf : o.isFreed = false) : ∃ g', Ext g g' ∧ At g' L m mu (h.push o) ∧ g'.get? h.objs.size = some o :=
  let ⟨oL, n, M⟩ := T; let ⟨g', e, M', x⟩ := M.pushP o hf; ⟨g', e, ⟨oL, n, M'⟩, x⟩
inductive Frz (g : Heap) (L : Addr) (m : Loc) (mu : Led) (h : Heap) (a : Addr) (o : Obj) : Prop
  | mk (g' : Heap) : Ext g g' → At g' L m mu h → g'.get? a = some o → Frz g L m mu h a o
theorem At.freeze (T : At g L m ((a, o) :: mu) h) : Frz g L m mu h a o :=
  let ⟨oL, n, M⟩ := T; let ⟨g', e, M', x⟩ := Mem.freeze (M.perm (.swap ..)); ⟨g', e, ⟨oL, n, M'⟩, x⟩
theorem At.set (T : At g L m ((a, o) :: mu) h) (hs : Heap.SameBut a h h') (ho : h'.get? a = some o') : At g L m ((a, o') :: mu) h' :=
  let ⟨oL, n, M⟩ := T; ⟨oL, n, ((M.perm (.swap ..)).set hs ho).perm (.swap ..)⟩
theorem At.setAt {pre : Led} (T : At g L m (pre ++ (a, o) :: mu) h) (hs : Heap.SameBut a h h') (ho : h'.get? a = some o') : At g L m (pre ++ (a, o') :: mu) h' :=
  let ⟨oL, n, M⟩ := T; ⟨oL, n, Mem.setAt (pre := (L, oL) :: pre) M hs ho⟩
theorem At.get (T : At g L m mu h) {p : Addr × Obj} (hp : p ∈ mu) : h.get? p.1 = some p.2 := T.mem.get hp
theorem At.of {m' : Loc} {oL : Obj} (n : LCg.NsObj oL m') (M : Mem g ((L, oL) :: mu) h) : At g L m' mu h := ⟨oL, n, M⟩
end

noncomputable def Rd (h : Heap) (v : Value) (d : PyData) : Prop := ∃ as, Reads h v d as
noncomputable def RdA (h : Heap) (vs : List Value) (ds : List PyData) : Prop := ∃ as, ReadsAll h vs ds as
section
variable {g h h' : Heap} {v : Value} {vs ws : List Value} {d : PyData} {ds es : List PyData} {a : Addr}
theorem Rd.up (r : Rd g v d) (x : Ext g h) : Rd h v d := let ⟨as, q⟩ := r; ⟨as, Reads.keeps x q⟩
theorem RdA.up (r : RdA g vs ds) (x : Ext g h) : RdA h vs ds := let ⟨as, q⟩ := r; ⟨as, ReadsAll.keeps x q⟩
theorem RdA.nil : RdA h [] [] := ⟨_, .nil⟩
theorem RdA.cons' (r : Rd h v d) (q : RdA h vs ds) : RdA h (v :: vs) (d :: ds) := let ⟨_, x⟩ := r; let ⟨_, y⟩ := q; ⟨_, .cons x y⟩
theorem RdA.snoc (q : RdA h vs ds) (r : Rd h v d) : RdA h (vs ++ [v]) (ds ++ [d]) := by
  obtain ⟨as, q⟩ := q
  revert ds as
  induction vs with
  | nil => intro ds as q; cases q; exact RdA.cons' r RdA.nil
  | cons u us ih =>
    intro ds as q
    cases q with
    | cons x y => exact RdA.cons' ⟨_, x⟩ (ih _ y)
theorem RdA.length (q : RdA h vs ds) : vs.length = ds.length := by
  obtain ⟨as, q⟩ := q
  revert ds as
  induction vs with
  | nil => intro ds as q; cases q; rfl
  | cons u us ih =>
    intro ds as q
    cases q with
    | cons x y => simp [ih _ y]
theorem RdA.get (q : RdA h vs ds) {i : Nat} {v : Value} (hv : vs[i]? = some v) : ∃ d, ds[i]? = some d ∧ Rd h v d := by
  induction vs generalizing ds i with
  | nil => simp at hv
  | cons u us ih =>
    obtain ⟨as, q⟩ := q
    cases q with
    | cons x y =>
      cases i with
      | zero => simp at hv; subst hv; exact ⟨_, rfl, _, x⟩
      | succ i => simp at hv; simpa using ih ⟨_, y⟩ hv
theorem RdA.getD (q : RdA h vs ds) {i : Nat} {d : PyData} (hd : ds[i]? = some d) : ∃ v, vs[i]? = some v ∧ Rd h v d := by
  have hi : i < vs.length := by rw [q.length]; exact (List.getElem?_eq_some_iff.mp hd).1
  obtain ⟨d', e, r⟩ := q.get (List.getElem?_eq_getElem hi)
  rw [hd] at e; cases e
  exact ⟨_, List.getElem?_eq_getElem hi, r⟩
theorem Rd.int (i : Int) (t : Tok) : Rd h (.int i t) (.int i) := ⟨_, .int i t⟩
theorem Rd.str (x : Str) (t : Tok) : Rd h (.str x t) (.str x) := ⟨_, .str x t⟩
theorem Rd.bool (b : Bool) : Rd h (.bool b) (.bool b) := ⟨_, .bool b⟩
theorem Rd.none : Rd h .none .none := ⟨_, .none⟩
theorem Rd.list {o : Obj} {xs : Array Value} {n : Nat} (ho : h.get? a = some o) (hc : o.cls = .type "list") (hd : o.data = .seq xs n) (q : RdA h xs.toList ds) : Rd h (.ref a) (.list ds) :=
  let ⟨_, r⟩ := q; ⟨_, .list ho hc hd r⟩
theorem Rd.tup {o : Obj} {xs : Array Value} {n : Nat} (ho : h.get? a = some o) (hc : o.cls = .type "tuple") (hd : o.data = .seq xs n) (q : RdA h xs.toList ds) : Rd h (.ref a) (.tuple ds) :=
  let ⟨_, r⟩ := q; ⟨_, .tuple ho hc hd r⟩
theorem Rd.listE (r : Rd h v (.list ds)) : ∃ a vs, v = .ref a ∧ h.IsList a vs.toArray ∧ RdA h vs ds := by
  obtain ⟨as, r⟩ := r
  cases r with
  | @list a o vs n xs as ho hc hd q => exact ⟨_, vs.toList, rfl, ⟨o, ho, hc, n, by simpa using hd⟩, _, q⟩
theorem Rd.tupE (r : Rd h v (.tuple ds)) : ∃ a vs, v = .ref a ∧ h.IsTuple a vs.toArray ∧ RdA h vs ds := by
  obtain ⟨as, r⟩ := r
  cases r with
  | @tuple a o vs n xs as ho hc hd q => exact ⟨_, vs.toList, rfl, ⟨o, ho, hc, n, by simpa using hd⟩, _, q⟩
theorem Rd.intE {i : Int} (r : Rd h v (.int i)) : ∃ t, v = .int i t := by obtain ⟨_, r⟩ := r; cases r; exact ⟨_, rfl⟩
theorem Rd.strE {x : Str} (r : Rd h v (.str x)) : ∃ t, v = .str x t := by obtain ⟨_, r⟩ := r; cases r; exact ⟨_, rfl⟩
theorem Rd.boolE {b : Bool} (r : Rd h v (.bool b)) : v = .bool b := by obtain ⟨_, r⟩ := r; cases r; rfl
end

structure Gl (w : World) (g : Heap) : Prop where
  X : (hd.heap_39 w.params).In g
  nsG : ∃ mg, g.Ns mainGlobals mg
  nsB : ∃ mb, g.Ns builtinsNs mb ∧ ∀ x : Str, x ≠ "__name__" → mb x = bootBuiltins x
  lim : g.NoLimit
theorem Gl.up {w : World} {g h : Heap} (G : Gl w g) (x : Ext g h) : Gl w h :=
  ⟨G.X.keeps x, let ⟨mg, n⟩ := G.nsG; ⟨mg, n.keeps x⟩, let ⟨mb, n, b⟩ := G.nsB; ⟨mb, n.keeps x, b⟩, G.lim.keeps x⟩

structure Room (A : Around) (n u : Nat) : Prop where
  hh : A.handled = none
  hd : A.depth + n < recursionLimit
  hu : A.units + u < cLine
theorem Room.le {A : Around} {n u n' u' : Nat} (r : Room A n u) (a : n' ≤ n) (b : u' ≤ u) : Room A n' u' := ⟨r.hh, by have := r.hd; omega, by have := r.hu; omega⟩
theorem Room.deeper {A : Around} {n u : Nat} (r : Room A (n + 1) (u + 3)) (env : Env) : Room (A.deeper env) n u :=
  ⟨r.hh, by show A.depth + 1 + n < _; have := r.hd; omega, by show A.units + 3 + u < _; have := r.hu; omega⟩

section
variable {prog : Program} {w : World} {A : Around} {E : Value → Shared → Prop} {s : Shared} {g h : Heap} {t : Nat} {mu : Led} {m : Loc} {env : Env}

theorem r_local {x : Str} {pos : Pos} {v : Value} {Q : Value → Shared → Prop} (T : At g env.locals m mu h) (hv : m x = some v) (k : Q v (Sh s h t))
    (hk : env.scope.kind = .function := by rfl) (hl : env.kindOf x = some .local := by rfl) (hd : (x == ("__debug__" : Str)) = false := by decide) :
    wpAny (model prog w) A (eval (.Name x pos) env) Q E (Sh s h t) := wpAny_Name (wpAny_loadName_local hk hl T.ns hv k) hd
theorem r_localN {x : Str} {v : Value} {Q : Value → Shared → Prop} (T : At g env.locals m mu h) (hv : m x = some v) (k : Q v (Sh s h t))
    (hk : env.scope.kind = .function := by rfl) (hl : env.kindOf x = some .local := by rfl) :
    wpAny (model prog w) A (loadName env x) Q E (Sh s h t) := wpAny_loadName_local hk hl T.ns hv k
theorem r_store {x : Str} {v : Value} {Q : Unit → Shared → Prop} (T : At g env.locals m mu h)
    (k : ∀ h' t', At g env.locals (fun y => if y = x then some v else m y) mu h' → Q () (Sh s h' t'))
    (hk : env.scope.kind = .function := by rfl) (hl : env.kindOf x = some .local := by rfl) : wpAny (model prog w) A (storeName env x v) Q E (Sh s h t) :=
  wpAny_storeName_local hl T.ns (fun h' hn hs => k h' _ (T.setL hn hs)) (by rw [hk]; rfl)
theorem r_global {x : Str} {pos : Pos} {v : Value} {Q : Value → Shared → Prop} (G : Gl w g) (T : At g env.locals m mu h) (e : nsIn (hd.heap_39 w.params) mainGlobals x = some (some v)) (k : Q v (Sh s h t))
    (hk : env.scope.kind = .function := by rfl) (hx : env.kindOf x = some .globalImplicit := by rfl) (hgl : env.globals = mainGlobals := by rfl) (hd : (x == ("__debug__" : Str)) = false := by decide) :
    wpAny (model prog w) A (eval (.Name x pos) env) Q E (Sh s h t) := by
  obtain ⟨mg, n⟩ := G.nsG
  exact Name_function_global hk hx (loadGlobal_global (env := env) (hgl ▸ n.keeps T.keep) (mg_of G.X n e) k) hd
theorem r_builtin {x : Str} {pos : Pos} {v : Value} {Q : Value → Shared → Prop} (G : Gl w g) (T : At g env.locals m mu h) (e : nsIn (hd.heap_39 w.params) mainGlobals x = some none) (hv : bootBuiltins x = some v) (hn : x ≠ "__name__") (k : Q v (Sh s h t))
    (hk : env.scope.kind = .function := by rfl) (hx : env.kindOf x = some .globalImplicit := by rfl) (hgl : env.globals = mainGlobals := by rfl) (hbl : env.builtins = builtinsNs := by rfl) (hd : (x == ("__debug__" : Str)) = false := by decide) :
    wpAny (model prog w) A (eval (.Name x pos) env) Q E (Sh s h t) := by
  obtain ⟨mg, n⟩ := G.nsG
  obtain ⟨mb, nb, hb⟩ := G.nsB
  exact Name_function_global hk hx (loadGlobal_builtin (env := env) (hgl ▸ n.keeps T.keep) (mg_none_of G.X n e) (hbl ▸ nb.keeps T.keep) ((hb x hn).trans hv) k) hd

theorem r_enter {R : Result → Shared → Prop} {name qual : Str} {params : Arguments} {body : List Stmt} {scope : Scope} {dV kV doc pm cdv ct oc : Value} {an od : Option Addr} {osl : Array (Option Value)} {f : Addr} {args : Args} {binds : List (Str × Value)} {rn ru : Nat}
    (r : Room A (rn + 1) (ru + 3)) (G : Gl w g) (M : Mem g mu h) (ho : (hd.heap_39 w.params).lookup f = some ⟨oc, od, .func (fnOf name qual params body scope dV kV doc pm an cdv ct), osl⟩) (hcd : codeIn (hd.heap_39 w.params) cdv qual = true)
    (hbind : BindsTo (Sh s h t) (fnOf name qual params body scope dV kV doc pm an cdv ct) args binds) (hloc : ∀ y ∈ binds, scope.names.lookup y.1 = some .local)
    (k : ∀ A' L h' t', Room A' rn ru → At g L (fun y => binds.reverse.lookup y) mu h' → wpAny (model prog w) A' (execs body (envOf qual scope L f cdv))
        (fun fl s' => R (.ok (.ret (match fl with | .ret v => v | _ => .none))) s') (fun _ _ => False) (Sh s h' t'))
    (hcell : ∀ x ∈ scope.names, x.2 ≠ .cell) (hco : scope.isCoroutine = false) (hgen : scope.isGenerator = false) (hk : scope.kind = .function) :
    codeAny (model prog w) A (.call (.ref f) args) R (Sh s h t) := by
  have hroom : A.depth < recursionLimit := by have := r.hd; omega
  refine codeAny_call_def (fd := fnOf name qual params body scope dV kV doc pm an cdv ct) (body := body) (binds := binds) hroom ((G.X.keeps M.keep) _ _ ho) rfl (G.lim.keeps M.keep) (codeRec_of (G.X.keeps M.keep) hcd) rfl hbind hcell hloc (fun h₁ hns hk₁ => ?_) hco hgen hk
  obtain ⟨o, e, n⟩ := LCg.ns_obj hns
  have T : At g h.objs.size (fun y => binds.reverse.lookup y) mu h₁ := ⟨o, n, ⟨M.keep.tr hk₁, fun p hp => ?_, ?_⟩⟩
  · exact wpAny_mono (k _ _ h₁ _ (r.deeper _) T) (fun _ _ x => x) fun _ _ x => x.elim
  · rcases List.mem_cons.mp hp with rfl | hp
    · exact ⟨e, M.fresh⟩
    · exact ⟨hk₁ _ _ (M.at_ p hp).1, (M.at_ p hp).2⟩
  · rw [List.map_cons]
    refine List.nodup_cons.mpr ⟨fun hm => ?_, M.nd⟩
    obtain ⟨p, hp, e⟩ := List.mem_map.mp hm
    exact absurd (M.lt hp) (e ▸ Nat.lt_irrefl _)
end
section
variable {prog : Program} {w : World} {A : Around} {E : Value → Shared → Prop} {s : Shared} {g h : Heap} {t : Nat} {mu : Led} {m : Loc} {env : Env} {a b : Int} {u v : Tok} {Q : Value → Shared → Prop}
theorem s_cint {i : Int} {k : Nat} {pos : Pos} (q : Q (.int i t) (Sh s h (t + 1))) : wpAny (model prog w) A (eval (.Constant (.int i) k pos) env) Q E (Sh s h t) := wpAny_Constant_int q
theorem s_cstr {x : Str} {k : Nat} {pos : Pos} (q : Q (.str x t) (Sh s h (t + 1))) : wpAny (model prog w) A (eval (.Constant (.str x) k pos) env) Q E (Sh s h t) := Calls.Constant_str q
theorem s_add (q : Q (.int (a + b) t) (Sh s h (t + 1))) : wpAny (model prog w) A (binaryOp .Add (.int a u) (.int b v)) Q E (Sh s h t) := add_int q
theorem s_sub (q : Q (.int (a - b) t) (Sh s h (t + 1))) : wpAny (model prog w) A (binaryOp .Sub (.int a u) (.int b v)) Q E (Sh s h t) := sub_int q
theorem s_mul (q : Q (.int (a * b) t) (Sh s h (t + 1))) (hm : IntMulOk a b) : wpAny (model prog w) A (binaryOp .Mult (.int a u) (.int b v)) Q E (Sh s h t) := mul_int q hm
theorem s_and (q : Q (.int (Builtin.bitAnd a b) t) (Sh s h (t + 1))) : wpAny (model prog w) A (binaryOp .BitAnd (.int a u) (.int b v)) Q E (Sh s h t) := and_int q
theorem s_or (q : Q (.int (Builtin.bitOr a b) t) (Sh s h (t + 1))) : wpAny (model prog w) A (binaryOp .BitOr (.int a u) (.int b v)) Q E (Sh s h t) := or_int q
theorem s_xor (q : Q (.int (Builtin.bitXor a b) t) (Sh s h (t + 1))) : wpAny (model prog w) A (binaryOp .BitXor (.int a u) (.int b v)) Q E (Sh s h t) := xor_int q
theorem s_ixor (q : Q (.int (Builtin.bitXor a b) t) (Sh s h (t + 1))) : wpAny (model prog w) A (inplaceOp .BitXor (.int a u) (.int b v)) Q E (Sh s h t) := ixor_int q
theorem s_ior (q : Q (.int (Builtin.bitOr a b) t) (Sh s h (t + 1))) : wpAny (model prog w) A (inplaceOp .BitOr (.int a u) (.int b v)) Q E (Sh s h t) := ior_int q
theorem s_rsh (hn : 0 ≤ b) (q : Q (.int (a.fdiv (2 ^ b.toNat)) t) (Sh s h (t + 1))) : wpAny (model prog w) A (binaryOp .RShift (.int a u) (.int b v)) Q E (Sh s h t) := rshift_int hn q
theorem s_lsh (hn : 0 ≤ b) (hn2 : b ≤ 1000000) (ha : a.natAbs < 2 ^ 64) (q : Q (.int (a * 2 ^ b.toNat) t) (Sh s h (t + 1))) : wpAny (model prog w) A (binaryOp .LShift (.int a u) (.int b v)) Q E (Sh s h t) := lshift_int_small hn hn2 ha q
theorem s_ilsh (hn : 0 ≤ b) (hsz : (Builtin.Int.intBits a : Int) + b ≤ 2 ^ 27) (q : Q (.int (a * 2 ^ b.toNat) t) (Sh s h (t + 1))) : wpAny (model prog w) A (inplaceOp .LShift (.int a u) (.int b v)) Q E (Sh s h t) := ilshift_int hn hsz q
theorem s_mod (hb : b ≠ 0) (q : Q (.int (a.fmod b) t) (Sh s h (t + 1))) : wpAny (model prog w) A (binaryOp .Mod (.int a u) (.int b v)) Q E (Sh s h t) := PyProof.Rows.mod_int hb q
theorem s_fdiv (hb : b ≠ 0) (hb2 : b.natAbs < 1073741824) (q : Q (.int (a.fdiv b) t) (Sh s h (t + 1))) : wpAny (model prog w) A (binaryOp .FloorDiv (.int a u) (.int b v)) Q E (Sh s h t) := floordiv_int hb q (.inl (PyProof.noPylong_small hb2))
theorem s_neg (q : Q (.int (-a) t) (Sh s h (t + 1))) : wpAny (model prog w) A (unaryOp .USub (.int a u)) Q E (Sh s h t) := neg_int q
end
noncomputable def small (x : Int) : Bool := decide (-1000000 ≤ x) && decide (x ≤ 1000000)
theorem mulOk {a b : Int} (h : small a = true) : IntMulOk a b := by
  simp only [small, Bool.and_eq_true, decide_eq_true_eq] at h
  have q : Builtin.Int.intBits a ≤ 64 := intBits_le_64 (by omega) (by omega)
  unfold IntMulOk
  have : decide (Builtin.Int.intBits a > shortFactorBits) = false := decide_eq_false (by have : shortFactorBits ≥ 64 := (by decide); omega)
  simp [this]

local macro_rules | `(tactic| walk_at "room") => `(tactic| (have hRoom := Room.hd (by assumption); have hRoom2 := Room.hu (by assumption); omega))
local macro_rules | `(tactic| walk_at "entered") => `(tactic| ((case ho => k_is); (case hcd => k_is); (case hbind => exact BindsTo.of_eq rfl); (case hloc => exact locs rfl); (case hcell => decide); (case hco => exact rfl); (case hgen => exact rfl); (case hk => exact rfl)))
local macro_rules | `(tactic| walk_at "eval Name") => `(tactic| (with_unfolding_all refine r_local (by assumption) rfl ?_))
local macro_rules | `(tactic| walk_at "loadName") => `(tactic| (with_unfolding_all refine r_localN (by assumption) rfl ?_))
local macro_rules | `(tactic| walk_at "storeName") => `(tactic| (with_unfolding_all refine r_store (by assumption) ?_; intro hS tS TS))
local macro_rules | `(tactic| walk_at "eval Name") => `(tactic| (with_unfolding_all refine r_global (by assumption) (by assumption) (by k_is) ?_))
local macro_rules | `(tactic| walk_at "eval Name") => `(tactic| (with_unfolding_all refine r_builtin (by assumption) (by assumption) (by k_is) (by boot_fast) (by decide) ?_))
local macro_rules | `(tactic| walk_at "eval Constant int") => `(tactic| (refine s_cint ?_))
local macro_rules | `(tactic| walk_at "eval Constant str") => `(tactic| (refine s_cstr ?_))
local macro_rules | `(tactic| walk_at "binaryOp Add int int") => `(tactic| (refine s_add ?_))
local macro_rules | `(tactic| walk_at "binaryOp Sub int int") => `(tactic| (refine s_sub ?_))
local macro_rules | `(tactic| walk_at "binaryOp Mult int int") => `(tactic| (refine s_mul ?_ (mulOk (by first | assumption | decide))))
local macro_rules | `(tactic| walk_at "binaryOp BitAnd int int") => `(tactic| (refine s_and ?_))
local macro_rules | `(tactic| walk_at "binaryOp BitOr int int") => `(tactic| (refine s_or ?_))
local macro_rules | `(tactic| walk_at "binaryOp BitXor int int") => `(tactic| (refine s_xor ?_))
local macro_rules | `(tactic| walk_at "inplaceOp BitXor int int") => `(tactic| (refine s_ixor ?_))
local macro_rules | `(tactic| walk_at "inplaceOp BitOr int int") => `(tactic| (refine s_ior ?_))
local macro_rules | `(tactic| walk_at "binaryOp RShift int int") => `(tactic| (refine s_rsh (by first | decide | omega) ?_))
local macro_rules | `(tactic| walk_at "binaryOp Mod int int") => `(tactic| (refine s_mod (by first | decide | omega) ?_))
local macro_rules | `(tactic| walk_at "binaryOp FloorDiv int int") => `(tactic| (refine s_fdiv (by first | decide | omega) (by first | decide | omega) ?_))
local macro_rules | `(tactic| walk_at "unaryOp USub int") => `(tactic| (refine s_neg ?_))

theorem slot_search : Slot "re.Pattern" "search" "re.Pattern.search" :=
  .of (owner := "re.Pattern") (n := "search") (by rw [typeLookup_type, builtinLookup_eq_fast]; kernel_rfl) (by decide +kernel) (by decide +kernel) (by decide +kernel)
    (by first | exact .inl (by decide +kernel) | exact .inr (by decide +kernel)) (by rw [isSubtype_type]; kernel_rfl)
theorem entry_search : entryFor table "re.Pattern.search" = some Builtin.«re.Pattern.search» := entryFor_of_fast (by kernel_rfl)
theorem args_search (a b : Value) : argsOk "re.Pattern.search" ⟨[a, b], []⟩ := by unfold argsOk; kernel_rfl
theorem type_search : typeOf (.builtin "re.Pattern.search") = pure (.type "method_descriptor") := by show builtinType _ = _; rw [builtinType_eq_fast]; kernel_rfl
theorem plain_pattern : PlainAttrs "re.Pattern" :=
  ⟨⟨"object.__getattribute__", by rw [typeLookup_type, builtinLookup_eq_fast]; kernel_rfl, by decide +kernel⟩, by rw [typeLookup_type, builtinLookup_eq_fast]; kernel_rfl⟩

noncomputable def okc (c : Nat) : Bool := decide (32 ≤ c) && !decide (c = 127)
noncomputable def codeN : Array Nat := #[14, 10, 4, 1, 1, 22, 0, 31, 16, 127, 0, 13, 7, 22, 0, 31, 16, 127, 0, 1]
noncomputable def codeV : Array Nat := #[14, 14, 4, 1, 1, 9, 4294966783, 0, 0, 2147483648, 0, 0, 0, 0, 0, 13, 11, 9, 4294966783, 0, 0, 2147483648, 0, 0, 0, 0, 0, 1]
theorem inSet_N (c : Nat) (hc : okc c = true) (seen : Sre.Seen) : ∃ s', Sre.inSet codeN c codeN.size 5 true seen = .ok (false, s') := by
  simp only [okc, Bool.and_eq_true, decide_eq_true_eq, Bool.not_eq_true', decide_eq_false_iff_not] at hc
  obtain ⟨h1, h2⟩ := hc
  show ∃ s', Sre.inSet codeN c 20 5 true seen = .ok (false, s')
  unfold Sre.inSet
  simp only [show Sre.ops[codeN.getD (5 + 0) 0]? = some .RANGE from rfl]
  rw [if_neg (by simp only [show codeN.getD (5 + 2) 0 = 31 from rfl, Bool.and_eq_true, decide_eq_true_eq]; omega)]
  unfold Sre.inSet
  simp only [show Sre.ops[codeN.getD (5 + 3 + 0) 0]? = some .LITERAL from rfl]
  rw [if_neg (by simp only [show codeN.getD (5 + 3 + 1) 0 = 127 from rfl, beq_iff_eq]; omega)]
  unfold Sre.inSet
  simp only [show Sre.ops[codeN.getD (5 + 3 + 2 + 0) 0]? = some .FAILURE from rfl]
  exact ⟨_, rfl⟩
theorem bits_V : ∀ c, c < 256 → okc c = true → (codeV.getD (5 + (1 + c / 32)) 0).testBit (c % 32) = false := by decide +kernel
theorem inSet_V (c : Nat) (hc : okc c = true) (seen : Sre.Seen) : ∃ s', Sre.inSet codeV c codeV.size 5 true seen = .ok (false, s') := by
  show ∃ s', Sre.inSet codeV c 28 5 true seen = .ok (false, s')
  unfold Sre.inSet
  simp only [show Sre.ops[codeV.getD (5 + 0) 0]? = some .CHARSET from rfl]
  rw [if_neg (by
    intro h
    simp only [Bool.and_eq_true, decide_eq_true_eq] at h
    rw [bits_V c h.1 hc] at h; exact absurd h.2 Bool.false_ne_true)]
  unfold Sre.inSet
  simp only [show Sre.ops[codeV.getD (5 + 9 + 0) 0]? = some .FAILURE from rfl]
  exact ⟨_, rfl⟩
theorem admitted_none (m : Sre.M) (hm : ∀ c, okc c = true → ∀ seen, ∃ s', Sre.inSet m.code c m.code.size 5 true seen = .ok (false, s')) (ht : ∀ i, i < m.lim → okc (m.text.getD i 0) = true) :
    ∀ (fuel s : Nat) (seen : Sre.Seen), ∃ s', Sre.M.admitted m fuel s seen = .ok (none, s')
  | 0, _, _ => ⟨_, rfl⟩
  | fuel + 1, s, seen => by
    unfold Sre.M.admitted
    by_cases h : s ≥ m.lim
    · rw [if_pos h]; exact ⟨_, rfl⟩
    · rw [if_neg h]
      obtain ⟨s', e⟩ := hm _ (ht s (by omega)) seen
      rw [e]
      exact admitted_none m hm ht fuel (s + 1) s'
noncomputable def okx (x : Str) : Bool := x.cps.all okc
theorem okx_get {x : Str} (h : okx x = true) (i : Nat) (hi : i < x.cps.size) : okc (x.cps.getD i 0) = true := by
  have := Array.all_eq_true.mp h i hi
  simpa [Array.getD, hi] using this
noncomputable def NoAt (x : Sre.M) : Prop := x.answer = some false ∧ x.frames = [] ∧ x.outcome = none
theorem attempt_no (m : Sre.M) (s : Nat) (first : Bool) (hf : m.hasFirstSet = true) (hs : ∀ c, okc c = true → ∀ seen, ∃ s', Sre.inSet m.code c m.code.size 5 true seen = .ok (false, s')) (ht : ∀ i, i < m.lim → okc (m.text.getD i 0) = true)
    (h1 : m.frames = []) (h2 : m.outcome = none) : NoAt (m.attemptFrom s first) := by
  unfold Sre.M.attemptFrom
  rw [hf]
  obtain ⟨s', e'⟩ := admitted_none m hs ht (m.lim + 1 - s) s m.seen
  simp only [Bool.not_true, Bool.false_eq_true, if_false, e']
  exact ⟨rfl, h1, h2⟩
theorem search_no {code : Array Nat} (hc : code = codeN ∨ code = codeV) {x : Str} (hx : okx x = true) : NoAt (Sre.forSearch code x.cps 0 0 x.cps.size false) := by
  have key : ∀ code : Array Nat, Sre.header code = (1, (Sre.header code).2) → (∀ m : Sre.M, m.code = code → m.hasFirstSet = true) → (∀ c, okc c = true → ∀ seen, ∃ s', Sre.inSet code c code.size 5 true seen = .ok (false, s')) →
      NoAt (Sre.forSearch code x.cps 0 0 x.cps.size false) := by
    intro code hh hf hs
    unfold Sre.forSearch
    rw [hh]
    dsimp only
    split
    · exact ⟨rfl, rfl, rfl⟩
    · exact attempt_no _ _ _ (hf _ rfl) hs (fun i hi => okx_get hx i hi) rfl rfl
  rcases hc with rfl | rfl
  · exact key codeN (by rfl) (fun m e => by unfold Sre.M.hasFirstSet; rw [e]; rfl) inSet_N
  · exact key codeV (by rfl) (fun m e => by unfold Sre.M.hasFirstSet; rw [e]; rfl) inSet_V

section
variable {prog : Program} {w : World} {A : Around} {E : Value → Shared → Prop} {s : Shared}
theorem run_no {m : Sre.M} {Q : Option Sre.M → Shared → Prop} (hn : NoAt m) (q : Q none s) : wpAny (model prog w) A (Builtin.Re.reRunToEnd m) Q E s := by
  obtain ⟨ha, hf, ho⟩ := hn
  unfold Builtin.Re.reRunToEnd
  have e : Sre.M.runFor Builtin.Re.reTurnSteps m = { m with outcome := some .failed } := by
    show (if m.outcome.isSome then m else Sre.M.runFor 3 m.step) = _
    rw [ho]
    simp only [Option.isSome_none, Bool.false_eq_true, if_false]
    have : m.step = { m with outcome := some .failed } := by
      unfold Sre.M.step
      rw [ho, ha, hf]
      simp
    rw [this]; rfl
  refine wpAny_bind ?_
  show wpAny _ A (if (Sre.M.runFor Builtin.Re.reTurnSteps m).outcome.isSome then pure (Sre.M.runFor Builtin.Re.reTurnSteps m) else _) _ _ _
  rw [e]
  simp only [Option.isSome_some, if_true]
  refine wpAny_pure (wpAny_bind ?_)
  refine wpAny_forIn_list _ (fun _ _ s' => s' = s) _ ?_ ?_ _ _ rfl
  · rintro i rest _ s' rfl
    split
    · exact wpAny_bind (wpAny_rule (wpAny_pure rfl))
    · exact wpAny_pure rfl
  · rintro _ s' rfl
    exact wpAny_pure q
end
section
variable {prog : Program} {w : World} {A : Around} {E : Value → Shared → Prop} {s : Shared} {g h : Heap} {t : Nat} {mu : Led}
theorem named_search (v : Value) : Builtin.Re.reNamed "re.Pattern.search" "search" ["string", "pos", "endpos"] 1 [v] [] = pure [some v, none, none] := by rfl
theorem r_search {P T : Addr} {x : Str} {tx : Tok} {Q : Value → Shared → Prop} {d d' : Option Addr} {sl sl'} {items : Array Value} {n : Nat} {a0 a1 a3 a4 : Value} {t2 t6 : Tok}
    (hP : h.get? P = some ⟨.type "re.Pattern", d, .fields #[a0, a1, .int 0 t2, a3, a4, .ref T, .int 0 t6], sl⟩) (hT : h.get? T = some ⟨.type "tuple", d', .seq items n, sl'⟩)
    (hc : (items.map Builtin.Re.reRawOf).map (·.toNat) = codeN ∨ (items.map Builtin.Re.reRawOf).map (·.toNat) = codeV) (hx : okx x = true) (hl : x.cps.size < 2 ^ 63)
    (q : Q .none (Sh s h t)) : wpAny (model prog w) A (call (.builtin "re.Pattern.search") [.ref P, .str x tx]) Q E (Sh s h t) := by
  refine wpAny_call_entry slot_search ⟨_, hP, rfl⟩ entry_search ?_ (args_search _ _)
  unfold Builtin.«re.Pattern.search» Builtin.Re.reTarget
  dsimp only
  rw [named_search]
  refine wpAny_bind (wpAny_bind (wpAny_pure ?_))
  dsimp only
  refine wpAny_bind (wpAny_pure (wpAny_bind (wpAny_pure ?_)))
  refine wpAny_bind (wpAny_fieldsOf hP rfl ?_)
  refine wpAny_bind (wpAny_pure ?_)
  simp only [show Builtin.Re.reRawNat (#[a0, a1, Value.int 0 t2, a3, a4, Value.ref T, Value.int 0 t6].getD 6 Value.none) = 0 from rfl, show Builtin.Re.reRawNat (#[a0, a1, Value.int 0 t2, a3, a4, Value.ref T, Value.int 0 t6].getD 2 Value.none) = 0 from rfl, show (#[a0, a1, Value.int 0 t2, a3, a4, Value.ref T, Value.int 0 t6].getD 5 Value.none) = Value.ref T from rfl]
  show wpAny _ _ (do
    Builtin.Re.reNoCollectionInside (Value.str x tx) 0
    let its ← Builtin.Re.reRawItems (Value.ref T)
    pure _ : Sem Builtin.Re.ReTarget) _ _ _
  refine wpAny_bind (wpAny_pure (wpAny_bind ?_))
  unfold Builtin.Re.reRawItems
  refine wpAny_bind (wpAny_seqItems hT rfl (wpAny_pure (wpAny_pure ?_)))
  unfold Builtin.Re.reAnswer
  refine wpAny_bind (run_no ?_ (wpAny_pure ⟨_, rfl, q⟩))
  have e1 : min (Int.toNat 0) x.cps.size = 0 := by simp
  have e2 : min (2 ^ 63 - 1 : Int).toNat x.cps.size = x.cps.size := by
    have : (2 ^ 63 - 1 : Int).toNat = 2 ^ 63 - 1 := by decide
    rw [this]; omega
  show NoAt (Sre.forSearch _ x.cps 0 (min (Int.toNat 0) x.cps.size) (min (2 ^ 63 - 1 : Int).toNat x.cps.size) false)
  rw [e1, e2]
  exact search_no hc hx
theorem r_patSearch {P : Addr} {dat : Data} {sl : Array (Option Value)} {pl : Sem Bool} {L : Addr} {m : Loc} {Q : Value × List Value → Shared → Prop} (G : Gl w g) (T : At g L m mu h) (ho : (hd.heap_39 w.params).lookup P = some ⟨.type "re.Pattern", none, dat, sl⟩)
    (q : Q (.builtin "re.Pattern.search", [.ref P]) (Sh s h t)) : wpAny (model prog w) A (getMethod (.ref P) "search" pl) Q E (Sh s h t) :=
  have e := G.X.keeps T.keep _ _ ho
  getMethod_builtin ⟨_, e, rfl⟩ plain_pattern slot_search type_search (fun a x => by cases x; exact ⟨_, e, rfl⟩) q
theorem r_searchK {P T : Addr} {x : Str} {tx : Tok} {Q : Value → Shared → Prop} {d d' : Option Addr} {sl sl'} {items : Array Value} {n : Nat} {a0 a1 a3 a4 : Value} {t2 t6 : Tok} {L : Addr} {m : Loc} (G : Gl w g) (T' : At g L m mu h)
    (hP : (hd.heap_39 w.params).lookup P = some ⟨.type "re.Pattern", d, .fields #[a0, a1, .int 0 t2, a3, a4, .ref T, .int 0 t6], sl⟩) (hT : (hd.heap_39 w.params).lookup T = some ⟨.type "tuple", d', .seq items n, sl'⟩)
    (hc : (items.map Builtin.Re.reRawOf).map (·.toNat) = codeN ∨ (items.map Builtin.Re.reRawOf).map (·.toNat) = codeV) (hx : okx x = true) (hl : x.cps.size < 2 ^ 63)
    (q : Q .none (Sh s h t)) : wpAny (model prog w) A (call (.builtin "re.Pattern.search") [.ref P, .str x tx]) Q E (Sh s h t) :=
  r_search (G.X.keeps T'.keep _ _ hP) (G.X.keeps T'.keep _ _ hT) hc hx hl q
end
local macro_rules | `(tactic| walk_at "getMethod ref") => `(tactic| (refine r_patSearch (by assumption) (by assumption) (by k_is) ?_))
local macro_rules | `(tactic| walk_at "call builtin:re.Pattern.search") => `(tactic| (refine' r_searchK ?G ?T ?hP ?hT ?hc ?hx ?hl ?_; (case G => assumption); (case T => assumption); (case hP => k_is); (case hT => k_is); (case hc => (first | exact .inl (by decide +kernel) | exact .inr (by decide +kernel))); (case hx => assumption); (case hl => assumption)))

noncomputable abbrev lst (ys : List Value) (n : Nat) : Obj := { cls := .type "list", data := .seq ys.toArray n }

section
variable {g h h' : Heap} {L : Addr} {m : Loc} {own its tl : Led} {wa : List Addr}
theorem At.iter (T : At g L m (own ++ (its ++ tl)) h) (hwa : its.map (·.1) = wa) (keep : ∀ b o, b ∉ wa → h.get? b = some o → h'.get? b = some o) (hob : ∀ b ∈ wa, ∃ o, h'.get? b = some o) :
    ∃ its', its'.map (·.1) = wa ∧ At g L m (own ++ (its' ++ tl)) h' := by
  obtain ⟨oL, nL, M⟩ := T
  have nd := M.nd
  let f : Addr → Addr × Obj := fun b => (b, (h'.get? b).getD default)
  have e : (wa.map f).map (·.1) = wa := by rw [List.map_map]; simp [f, Function.comp_def]
  have hits : ∀ p ∈ its, g.get? p.1 = none := fun p hp => (M.at_ p (.tail _ (List.mem_append_right _ (List.mem_append_left _ hp)))).2
  have ndw : ∀ p ∈ (L, oL) :: (own ++ tl), p.1 ∉ wa := by
    intro p hp hw
    rw [← hwa] at hw
    obtain ⟨q, hq, he⟩ := List.mem_map.mp hw
    rw [List.map_cons, List.map_append, List.map_append] at nd
    rcases List.mem_cons.mp hp with rfl | hp
    · exact (List.nodup_cons.mp nd).1 (List.mem_append_right _ (List.mem_append_left _ (List.mem_map.mpr ⟨q, hq, he⟩)))
    · have nd2 := (List.nodup_cons.mp nd).2
      rw [List.nodup_append] at nd2
      rcases List.mem_append.mp hp with hp | hp
      · exact nd2.2.2 p.1 (List.mem_map.mpr ⟨p, hp, rfl⟩) q.1 (List.mem_append_left _ (List.mem_map.mpr ⟨q, hq, rfl⟩)) he.symm
      · have nd3 := nd2.2.1
        rw [List.nodup_append] at nd3
        exact nd3.2.2 q.1 (List.mem_map.mpr ⟨q, hq, rfl⟩) p.1 (List.mem_map.mpr ⟨p, hp, rfl⟩) he
  refine ⟨wa.map f, e, oL, nL, ⟨fun b o eb => keep b o (fun hb => ?_) (M.keep b o eb), fun p hp => ?_, ?_⟩⟩
  · rw [← hwa] at hb
    obtain ⟨q, hq, he⟩ := List.mem_map.mp hb
    have := hits q hq
    rw [he, eb] at this; cases this
  · have old : ∀ p ∈ (L, oL) :: (own ++ tl), p ∈ (L, oL) :: (own ++ (its ++ tl)) := by
      intro p hp
      rcases List.mem_cons.mp hp with rfl | hp
      · exact .head _
      · rcases List.mem_append.mp hp with hp | hp
        · exact .tail _ (List.mem_append_left _ hp)
        · exact .tail _ (List.mem_append_right _ (List.mem_append_right _ hp))
    have fin : ∀ p ∈ (L, oL) :: (own ++ tl), h'.get? p.1 = some p.2 ∧ g.get? p.1 = none := fun p hp =>
      ⟨keep _ _ (ndw p hp) (M.at_ p (old p hp)).1, (M.at_ p (old p hp)).2⟩
    rcases List.mem_cons.mp hp with rfl | hp
    · exact fin _ (.head _)
    · rcases List.mem_append.mp hp with hp | hp
      · exact fin p (.tail _ (List.mem_append_left _ hp))
      · rcases List.mem_append.mp hp with hp | hp
        · obtain ⟨b, hb, rfl⟩ := List.mem_map.mp hp
          obtain ⟨o, ho⟩ := hob b hb
          refine ⟨by show h'.get? b = some ((h'.get? b).getD default); rw [ho]; rfl, ?_⟩
          have hb' := hb
          rw [← hwa] at hb'
          obtain ⟨q, hq, he⟩ := List.mem_map.mp hb'
          show g.get? b = none
          rw [← he]; exact hits q hq
        · exact fin p (.tail _ (List.mem_append_right _ hp))
  · have : ((L, oL) :: (own ++ (wa.map f ++ tl))).map (·.1) = ((L, oL) :: (own ++ (its ++ tl))).map (·.1) := by
      simp only [List.map_cons, List.map_append, e, hwa]
    rw [this]; exact nd
end

inductive SrcX (prog : Program) (w : World) (A : Around) (target : Expr) (I : Addr) (its tl : Led) (g h : Heap) (n : Nat) (P : Nat → Value → Heap → Prop) : Prop
  | mk (fp wr : List Addr) (Md : Nat → Value → Heap → Prop) (St : Nat → Heap → Prop) :
    KTurns prog w A target I fp wr n P Md St →
    (∀ b ∈ wr, b ∈ its.map (·.1)) →
    (∀ b ∈ fp, b ∈ its.map (·.1) ∨ (∃ o, g.get? b = some o) ∨ b ∈ tl.map (·.1)) →
    (∀ i h, St i h → ∀ b ∈ its.map (·.1), ∃ o, h.get? b = some o) →
    (∀ i (s : Shared) (Q : Value → Shared → Prop) (E : Value → Shared → Prop), St i s.heap → Q (.ref I) s → wpAny (model prog w) A (pyIter (.ref I)) Q E s) →
    St 0 h →
    SrcX prog w A target I its tl g h n P
structure Src (prog : Program) (w : World) (A : Around) (target : Expr) (I : Addr) (its tl : Led) (g h : Heap) (n : Nat) (P : Nat → Value → Heap → Prop) : Prop where
  ex : SrcX prog w A target I its tl g h n P

noncomputable def LP (s : Shared) (g₁ : Heap) (L : Addr) (tl₁ : Led) (next brk : Heap → Loc → Led → Prop) (ret : Value → Heap → Loc → Led → Prop) (f : Flow) (s₃ : Shared) : Prop :=
  ∃ g₂ m₂ own₂ h₂ t₂, s₃ = Sh s h₂ t₂ ∧ Ext g₁ g₂ ∧ At g₂ L m₂ (own₂ ++ tl₁) h₂ ∧ (match f with
    | .next => next g₂ m₂ own₂
    | .cont => next g₂ m₂ own₂
    | .brk => brk g₂ m₂ own₂
    | .ret v => ret v g₂ m₂ own₂)

inductive FoSt (s : Shared) (L : Addr) (tl : Led) (as1 : List Addr) (g : Heap) (n : Nat) (St : Nat → Heap → Prop) (J : Nat → Heap → Loc → Led → Prop) (k : Nat) (s' : Shared) : Prop
  | mk (i : Nat) (g₁ : Heap) (m₁ : Loc) (own₁ its₁ : Led) (h₁ : Heap) (t₁ : Nat) : s' = Sh s h₁ t₁ → Ext g g₁ → its₁.map (·.1) = as1 → At g₁ L m₁ (own₁ ++ (its₁ ++ tl)) h₁ → St i h₁ → J i g₁ m₁ own₁ → i ≤ n → k = n + 1 - i → FoSt s L tl as1 g n St J k s'
section
variable {prog : Program} {w : World} {A : Around} {s : Shared} {g h : Heap} {t : Nat} {m : Loc} {env : Env} {own its tl : Led} {target : Expr} {I : Addr} {n : Nat} {P : Nat → Value → Heap → Prop} {body orelse : List Stmt}

theorem loop_ruleE {EE : Value → Shared → Prop} {R : Result → Shared → Prop} {brk : Heap → Loc → Led → Prop} {ret : Value → Heap → Loc → Led → Prop} (S : Src prog w A target I its tl g h n P) (T : At g env.locals m (own ++ (its ++ tl)) h)
    (J : Nat → Heap → Loc → Led → Prop) (h0 : J 0 g m own)
    (turn : ∀ i v g₁ m₁ own₁ tl₁ h₁ t₁, i < n → (∀ p ∈ tl, p ∈ tl₁) → Ext g g₁ → P i v h₁ → J i g₁ m₁ own₁ → At g₁ env.locals m₁ (own₁ ++ tl₁) h₁ →
      wpAny (model prog w) A (assign target env v) (fun _ s₂ => wpAny (model prog w) A (execs body env) (LP s g₁ env.locals tl₁ (J (i + 1)) brk ret) EE s₂) (fun _ _ => False) (Sh s h₁ t₁)) (no' : ∀ e s', EE e s' → notedBy (model prog w) A env (fun e s' => R (.error e) s') e s')
    (done : ∀ g₁ m₁ own₁ h₁ t₁, Ext g g₁ → J n g₁ m₁ own₁ → At g₁ env.locals m₁ (own₁ ++ tl) h₁ → wpAny (model prog w) A (execs orelse env) (fun f s₃ => R (.ok f) s₃) (fun _ _ => False) (Sh s h₁ t₁))
    (hbrk : ∀ g₁ m₁ own₁ h₁ t₁, Ext g g₁ → brk g₁ m₁ own₁ → At g₁ env.locals m₁ (own₁ ++ tl) h₁ → R (.ok .next) (Sh s h₁ t₁))
    (hret : ∀ v g₁ m₁ own₁ h₁ t₁, Ext g g₁ → ret v g₁ m₁ own₁ → At g₁ env.locals m₁ (own₁ ++ tl) h₁ → R (.ok (.ret v)) (Sh s h₁ t₁)) :
    codeAny (model prog w) A (.forLoop target (.ref I) body orelse env) R (Sh s h t) := by
  obtain ⟨fp, wr, Md, St, W, hwr, hfp, hob, _, st0⟩ := S.ex
  have no : ∀ {e : Value} {s' : Shared}, (fun _ _ => False : Value → Shared → Prop) e s' → notedBy (model prog w) A env (fun e s' => R (.error e) s') e s' := fun x => x.elim
  have dropI : ∀ {g₁ : Heap} {m₁ : Loc} {own₁ its₁ : Led} {h₁ : Heap}, At g₁ env.locals m₁ (own₁ ++ (its₁ ++ tl)) h₁ → At g₁ env.locals m₁ (own₁ ++ tl) h₁ := fun T => by
    obtain ⟨oL, nL, M⟩ := T
    exact ⟨oL, nL, M.sub (((List.Sublist.refl _).append (List.sublist_append_right _ _)).cons_cons _)⟩
  refine codeAny_forLoop_any
    (FoSt s env.locals tl (its.map (·.1)) g n St J) ?_ (n + 1)
    ⟨0, g, m, own, its, h, t, rfl, Ext.rfl', rfl, T, st0, h0, Nat.zero_le _, rfl⟩
  rintro k s' ⟨i, g₁, m₁, own₁, its₁, h₁, t₁, rfl, x₁, e₁, T₁, st₁, hJ, hi, rfl⟩
  by_cases hlt : i < n
  · refine W.item i _ _ _ hlt st₁ fun v h₂ t₂ hMd k₂ => ?_
    refine W.go i v _ _ _ hMd fun h₃ hP st₃ k₃ => ?_
    obtain ⟨its₃, e₃, T₃⟩ := T₁.iter (h' := h₃) e₁ (fun b o hb e => k₃ b o (fun q => hb (hwr b q)) (k₂ b o (fun q => hb (hwr b q)) e)) (hob _ _ st₃)
    refine wpAny_mono (turn i v g₁ m₁ own₁ (its₃ ++ tl) h₃ t₂ hlt (fun p hp => List.mem_append_right _ hp) x₁ hP hJ T₃) (fun _ s₂ q => wpAny_mono q (fun f s₃ q => ?_) fun _ _ x => no' _ _ x) fun _ _ x => no x
    obtain ⟨g₄, m₄, own₄, h₄, t₄, rfl, x₄, T₄, q⟩ := q
    have st₄ : St (i + 1) h₄ := W.frame _ _ _ st₃ fun b hb o e => by
      rcases hfp b hb with hb | ⟨o', e'⟩ | hb
      · rw [← e₃] at hb
        obtain ⟨p, hp, rfl⟩ := List.mem_map.mp hb
        have a := T₃.get (p := p) (List.mem_append_right _ (List.mem_append_left _ hp))
        rw [a] at e; cases e
        exact T₄.get (List.mem_append_right _ (List.mem_append_left _ hp))
      · have a := T₃.keep _ _ (x₁ _ _ e')
        rw [a] at e; cases e
        exact T₄.keep _ _ (x₄ _ _ (x₁ _ _ e'))
      · obtain ⟨p, hp, rfl⟩ := List.mem_map.mp hb
        have a := T₃.get (p := p) (List.mem_append_right _ (List.mem_append_right _ hp))
        rw [a] at e; cases e
        exact T₄.get (List.mem_append_right _ (List.mem_append_right _ hp))
    cases f with
    | next => exact ⟨n + 1 - (i + 1), by omega, i + 1, g₄, m₄, own₄, its₃, h₄, t₄, rfl, x₁.tr x₄, e₃, T₄, st₄, q, hlt, rfl⟩
    | cont => exact ⟨n + 1 - (i + 1), by omega, i + 1, g₄, m₄, own₄, its₃, h₄, t₄, rfl, x₁.tr x₄, e₃, T₄, st₄, q, hlt, rfl⟩
    | brk => exact hbrk _ _ _ _ _ (x₁.tr x₄) q (dropI T₄)
    | ret v => exact hret _ _ _ _ _ _ (x₁.tr x₄) q (dropI T₄)
  · have hin : i = n := by omega
    subst hin
    refine W.done _ _ _ st₁ fun h₂ t₂ k₂ => ?_
    have Td : At g₁ env.locals m₁ (own₁ ++ tl) h₂ := by
      obtain ⟨oL, nL, M⟩ := T₁
      have M' : Mem g₁ ((env.locals, oL) :: (own₁ ++ tl)) h₁ := M.sub (((List.Sublist.refl _).append (List.sublist_append_right _ _)).cons_cons _)
      have hits : ∀ p ∈ its₁, g₁.get? p.1 = none := fun p hp => (M.at_ p (.tail _ (List.mem_append_right _ (List.mem_append_left _ hp)))).2
      have nw : ∀ b ∈ wr, b ∈ its₁.map (·.1) := fun b hb => e₁ ▸ hwr b hb
      refine ⟨oL, nL, fun b o e => k₂ b o (fun hb => ?_) (M'.keep b o e), fun p hp => ⟨k₂ _ _ (fun hb => ?_) (M'.at_ p hp).1, (M'.at_ p hp).2⟩, M'.nd⟩
      · obtain ⟨q, hq, he⟩ := List.mem_map.mp (nw b hb)
        have := hits q hq
        rw [he, e] at this; cases this
      · obtain ⟨q, hq, he⟩ := List.mem_map.mp (nw _ hb)
        have nd := M.nd
        rw [List.map_cons, List.map_append, List.map_append] at nd
        rcases List.mem_cons.mp hp with rfl | hp
        · exact (List.nodup_cons.mp nd).1 (List.mem_append_right _ (List.mem_append_left _ (List.mem_map.mpr ⟨q, hq, he⟩)))
        · have nd2 := (List.nodup_cons.mp nd).2
          rw [List.nodup_append] at nd2
          rcases List.mem_append.mp hp with hp | hp
          · exact nd2.2.2 p.1 (List.mem_map.mpr ⟨p, hp, rfl⟩) q.1 (List.mem_append_left _ (List.mem_map.mpr ⟨q, hq, rfl⟩)) he.symm
          · have nd3 := nd2.2.1
            rw [List.nodup_append] at nd3
            exact nd3.2.2 q.1 (List.mem_map.mpr ⟨q, hq, rfl⟩) p.1 (List.mem_map.mpr ⟨p, hp, rfl⟩) he
    exact wpAny_mono (done g₁ m₁ own₁ h₂ t₂ x₁ hJ Td) (fun _ _ q => q) fun _ _ x => no x


theorem loop_rule {R : Result → Shared → Prop} {brk : Heap → Loc → Led → Prop} {ret : Value → Heap → Loc → Led → Prop} (S : Src prog w A target I its tl g h n P) (T : At g env.locals m (own ++ (its ++ tl)) h)
    (J : Nat → Heap → Loc → Led → Prop) (h0 : J 0 g m own)
    (turn : ∀ i v g₁ m₁ own₁ tl₁ h₁ t₁, i < n → (∀ p ∈ tl, p ∈ tl₁) → Ext g g₁ → P i v h₁ → J i g₁ m₁ own₁ → At g₁ env.locals m₁ (own₁ ++ tl₁) h₁ →
      wpAny (model prog w) A (assign target env v) (fun _ s₂ => wpAny (model prog w) A (execs body env) (LP s g₁ env.locals tl₁ (J (i + 1)) brk ret) (fun _ _ => False) s₂) (fun _ _ => False) (Sh s h₁ t₁))
    (done : ∀ g₁ m₁ own₁ h₁ t₁, Ext g g₁ → J n g₁ m₁ own₁ → At g₁ env.locals m₁ (own₁ ++ tl) h₁ → wpAny (model prog w) A (execs orelse env) (fun f s₃ => R (.ok f) s₃) (fun _ _ => False) (Sh s h₁ t₁))
    (hbrk : ∀ g₁ m₁ own₁ h₁ t₁, Ext g g₁ → brk g₁ m₁ own₁ → At g₁ env.locals m₁ (own₁ ++ tl) h₁ → R (.ok .next) (Sh s h₁ t₁))
    (hret : ∀ v g₁ m₁ own₁ h₁ t₁, Ext g g₁ → ret v g₁ m₁ own₁ → At g₁ env.locals m₁ (own₁ ++ tl) h₁ → R (.ok (.ret v)) (Sh s h₁ t₁)) :
    codeAny (model prog w) A (.forLoop target (.ref I) body orelse env) R (Sh s h t) :=
  loop_ruleE S T J h0 turn (fun _ _ x => x.elim) done hbrk hret
inductive ForAtX (prog : Program) (w : World) (A : Around) (env : Env) (target : Expr) (body orelse : List Stmt) (s : Shared) (Q : Flow → Shared → Prop) (it : Value) (s₂ : Shared) : Prop
  | mk (I : Addr) (own its tl : Led) (g h : Heap) (t : Nat) (m : Loc) (n : Nat) (P : Nat → Value → Heap → Prop) (J : Nat → Heap → Loc → Led → Prop) (brk : Heap → Loc → Led → Prop) (ret : Value → Heap → Loc → Led → Prop) :
    it = .ref I →
    s₂ = Sh s h t →
    Src prog w A target I its tl g h n P →
    At g env.locals m (own ++ (its ++ tl)) h →
    J 0 g m own →
    (∀ i v g₁ m₁ own₁ tl₁ h₁ t₁, i < n → (∀ p ∈ tl, p ∈ tl₁) → Ext g g₁ → P i v h₁ → J i g₁ m₁ own₁ → At g₁ env.locals m₁ (own₁ ++ tl₁) h₁ →
      wpAny (model prog w) A (assign target env v) (fun _ s₂ => wpAny (model prog w) A (execs body env) (LP s g₁ env.locals tl₁ (J (i + 1)) brk ret) (fun _ _ => False) s₂) (fun _ _ => False) (Sh s h₁ t₁)) →
    (∀ g₁ m₁ own₁ h₁ t₁, Ext g g₁ → J n g₁ m₁ own₁ → At g₁ env.locals m₁ (own₁ ++ tl) h₁ → wpAny (model prog w) A (execs orelse env) Q (fun _ _ => False) (Sh s h₁ t₁)) →
    (∀ g₁ m₁ own₁ h₁ t₁, Ext g g₁ → brk g₁ m₁ own₁ → At g₁ env.locals m₁ (own₁ ++ tl) h₁ → Q .next (Sh s h₁ t₁)) →
    (∀ v g₁ m₁ own₁ h₁ t₁, Ext g g₁ → ret v g₁ m₁ own₁ → At g₁ env.locals m₁ (own₁ ++ tl) h₁ → Q (.ret v) (Sh s h₁ t₁)) →
    ForAtX prog w A env target body orelse s Q it s₂
structure ForAt (prog : Program) (w : World) (A : Around) (env : Env) (target : Expr) (body orelse : List Stmt) (s : Shared) (Q : Flow → Shared → Prop) (it : Value) (s₂ : Shared) : Prop where
  ex : ForAtX prog w A env target body orelse s Q it s₂
theorem s_For {iter : Expr} {pos : Pos} {E : Value → Shared → Prop} {Q : Flow → Shared → Prop} {s₀ : Shared}
    (k : wpAny (model prog w) A (eval iter env) (fun xv s₁ => wpAny (model prog w) A (pyIter xv) (fun it s₂ => ForAt prog w A env target body orelse s Q it s₂) E s₁) E s₀)
    (hs : ∀ x, foldedSetIterable iter env x = pure x := by intro _; rfl) :
    wpAny (model prog w) A (exec (.For target iter body orelse pos) env) Q E s₀ := by
  refine wpAny_For (wpAny_mono k (fun xv s₁ h₁ => wpAny_mono h₁ (fun it s₂ h₂ => ?_) fun _ _ e => e) fun _ _ e => e) hs
  obtain ⟨I, own, its, tl, g, h, t, m, n, P, J, brk, ret, rfl, rfl, S, T, h0, turn, done, hb, hr⟩ := h₂.ex
  exact loop_rule S T J h0 turn done hb hr
end

noncomputable abbrev Tests (prog : Program) (w : World) (A : Around) (ifs : List Expr) (env : Env) (Q : Bool → Shared → Prop) (s : Shared) : Prop := match ifs with
  | [] => Q true s
  | [c] => wpAny (model prog w) A (isTrue c env (eval c env)) Q (fun _ _ => False) s
  | _ => False
theorem tests_of {prog : Program} {w : World} {A : Around} {ifs : List Expr} {env : Env} {Q : Bool → Shared → Prop} {s : Shared} (k : Tests prog w A ifs env Q s) :
    wpAny (model prog w) A (forIn ifs true fun c r => if r = true then do let ok ← isTrue c env (eval c env); pure (ForInStep.yield ok) else pure (ForInStep.yield r)) Q (fun _ _ => False) s := by
  match ifs with
  | [] => exact wpAny_tests_nil k
  | [c] => exact wpAny_tests_one k
  | _ :: _ :: _ => exact k.elim

theorem lst_push (ys : List Value) (y : Value) (n : Nat) : ({ cls := .type "list", data := .seq (ys.toArray.push y) n } : Obj) = lst (ys ++ [y]) n := by simp [lst]

inductive CP (s : Shared) (g₁ : Heap) (C : Addr) (tl₁ : Led) (J : Heap → Led → List Value → Prop) (ys : List Value) (s' : Shared) : Prop
  | mk (g₂ : Heap) (m₂ : Loc) (own₂ : Led) (h₂ : Heap) (t₂ : Nat) :
    s' = Sh s h₂ t₂ →
    Ext g₁ g₂ →
    At g₂ C m₂ (own₂ ++ tl₁) h₂ →
    J g₂ own₂ ys →
    CP s g₁ C tl₁ J ys s'

inductive CPDM (s : Shared) (g₁ : Heap) (C D : Addr) (tl₁ : Led) (J : Heap → Loc → Led → List Value → Prop) (s' : Shared) : Prop
  | mk (g₂ : Heap) (m₂ : Loc) (own₂ : Led) (h₂ : Heap) (t₂ : Nat) (ys : List Value) (e : Nat) :
    s' = Sh s h₂ t₂ →
    Ext g₁ g₂ →
    At g₂ C m₂ (own₂ ++ ((D, lst ys e) :: tl₁)) h₂ →
    J g₂ m₂ own₂ ys →
    CPDM s g₁ C D tl₁ J s'
noncomputable abbrev turnOf (e : Expr) (d : Nat) (target : Expr) (pos : Pos) (ifs : List Expr) (I : Addr) (acc : Value) (cenv : Env) (emit : Sem Fin) : Sem Fin := do
  standAt pos
  match ← pyNext (.ref I) with
  | none => pure (.done .next)
  | some v =>
    letOwnedTupleGo target (.ref I) v
    assign target cenv v
    let mut ok := true
    for c in ifs do
      if ok then ok ← isTrue c cenv (eval c cenv)
    if ok then emit else again (.compLoop e d (.ref I) acc cenv)
noncomputable abbrev emitA (elt : Expr) (acc : Value) (cenv : Env) : Sem PUnit := do let _ ← call (.builtin "list.append") [acc, ← eval elt cenv]
noncomputable abbrev emitL (e : Expr) (d : Nat) (elt : Expr) (I : Addr) (acc : Value) (cenv : Env) : Sem Fin := do
  emitA elt acc cenv
  again (.compLoop e d (.ref I) acc cenv)
inductive LpSt (s : Shared) (L D : Addr) (tl : Led) (as1 : List Addr) (g : Heap) (n : Nat) (St : Nat → Heap → Prop) (J : Nat → Heap → Loc → Led → List Value → Prop) (k : Nat) (s' : Shared) : Prop
  | mk (i : Nat) (g₁ : Heap) (m₁ : Loc) (own₁ its₁ : Led) (h₁ : Heap) (t₁ : Nat) (ys : List Value) (e : Nat) : s' = Sh s h₁ t₁ → Ext g g₁ → its₁.map (·.1) = as1 → At g₁ L m₁ (own₁ ++ (its₁ ++ ((D, lst ys e) :: tl))) h₁ → St i h₁ → J i g₁ m₁ own₁ ys → i ≤ n → k = n + 1 - i → LpSt s L D tl as1 g n St J k s'
section
variable {prog : Program} {w : World} {A : Around} {s : Shared} {g h : Heap} {t : Nat} {m : Loc} {env cenv : Env} {own its tl : Led} {target : Expr} {I D : Addr} {n : Nat} {P : Nat → Value → Heap → Prop} {elt iter : Expr} {ifs : List Expr} {scope : Scope} {pos : Pos}

theorem s_appendD {E : Value → Shared → Prop} {pre : Led} {ys : List Value} {e : Nat} {y : Value} {L : Addr} {Q : Value → Shared → Prop} (T : At g L m (pre ++ (D, lst ys e) :: tl) h) (hsz : ys.length ≤ sizeLine)
    (k : ∀ e' h' t', At g L m (pre ++ (D, lst (ys ++ [y]) e') :: tl) h' → Q .none (Sh s h' t')) : wpAny (model prog w) A (call (.builtin "list.append") [.ref D, y]) Q E (Sh s h t) := by
  refine wpAny_list_append_plain (items := ys.toArray) (hsz := by rw [List.size_toArray]; exact hsz) ⟨e, T.get (p := (D, lst ys e)) (List.mem_append_right _ (.head _))⟩ fun h' hl hs => ?_
  obtain ⟨e', ho⟩ := hl
  exact k e' h' _ (T.setAt hs (by rw [ho, lst_push]))

theorem tests_mono {env : Env} {Q Q' : Bool → Shared → Prop} {s : Shared} (k : Tests prog w A ifs env Q s) (hq : ∀ b s, Q b s → Q' b s) : Tests prog w A ifs env Q' s := by
  match ifs with
  | [] => exact hq _ _ k
  | [c] => exact wpAny_mono k (fun b s q => hq b s q) fun _ _ x => x
  | _ :: _ :: _ => exact k.elim
theorem compLoopGM {ce : Expr} {d : Nat} {pos : Pos} {emit : Sem Fin} {R : Result → Shared → Prop} {ys₀ : List Value} {e₀ : Nat}
    (hun : A.under (.compLoop ce d (.ref I) (.ref D) cenv) = A) (hfr : (Code.compLoop ce d (.ref I) (.ref D) cenv).isFrame = false) (hturn : compTurn ce d (.ref I) (.ref D) cenv = turnOf ce d target pos ifs I (.ref D) cenv emit)
    (S : Src prog w A target I its tl g h n P) (T : At g cenv.locals m (own ++ (its ++ ((D, lst ys₀ e₀) :: tl))) h)
    (J : Nat → Heap → Loc → Led → List Value → Prop) (h0 : J 0 g m own ys₀)
    (turn : ∀ i v g₁ m₁ own₁ tl₁ h₁ t₁ ys e, i < n → (∀ p ∈ tl, p ∈ tl₁) → Ext g g₁ → P i v h₁ → J i g₁ m₁ own₁ ys → At g₁ cenv.locals m₁ (own₁ ++ ((D, lst ys e) :: tl₁)) h₁ →
      wpAny (model prog w) A (assign target cenv v) (fun _ s₂ => Tests prog w A ifs cenv (fun ok s₃ => if ok = true then wpAny (model prog w) A emit (fun fin s₄ => fin = .again (.compLoop ce d (.ref I) (.ref D) cenv) ∧ CPDM s g₁ cenv.locals D tl₁ (J (i + 1)) s₄) (fun _ _ => False) s₃
        else CPDM s g₁ cenv.locals D tl₁ (J (i + 1)) s₃) s₂) (fun _ _ => False) (Sh s h₁ t₁))
    (done : ∀ g₁ m₁ own₁ h₁ t₁ ys e, Ext g g₁ → J n g₁ m₁ own₁ ys → At g₁ cenv.locals m₁ (own₁ ++ ((D, lst ys e) :: tl)) h₁ → R (.ok .next) (Sh s h₁ t₁)) :
    codeAny (model prog w) A (.compLoop ce d (.ref I) (.ref D) cenv) R (Sh s h t) := by
  obtain ⟨fp, wr, Md, St, W, hwr, hfp, hob, _, st0⟩ := S.ex
  have no : ∀ {e : Value} {s' : Shared}, (fun _ _ => False : Value → Shared → Prop) e s' → notedBy (model prog w) A cenv (fun e s' => R (.error e) s') e s' := fun x => x.elim
  refine codeAny_loop rfl
    (LpSt s cenv.locals D tl (its.map (·.1)) g n St J) ?_ (n + 1)
    ⟨0, g, m, own, its, h, t, ys₀, e₀, rfl, Ext.rfl', rfl, T, st0, h0, Nat.zero_le _, rfl⟩
  rintro k s' ⟨i, g₁, m₁, own₁, its₁, h₁, t₁, ys, e', rfl, x₁, e₁, T₁, st₁, hJ, hi, rfl⟩
  rw [hun]
  show wpAny _ A (if (Code.compLoop ce d (.ref I) (.ref D) cenv).isFrame then (compTurn ce d (.ref I) (.ref D) cenv).onRaise (leaving cenv) else (compTurn ce d (.ref I) (.ref D) cenv).onRaise (fun x => do noteFrame x cenv; theTreesLotGoes x)) _ _ _
  rw [hfr]
  simp only [Bool.false_eq_true, if_false]
  refine wpAny_noted ?_
  rw [hturn]
  refine wpAny_bind (wpAny_standAt (wpAny_bind ?_))
  by_cases hlt : i < n
  · refine W.item i _ _ _ hlt st₁ fun v h₂ t₂ hMd k₂ => ?_
    dsimp only
    refine wpAny_bind (W.go i v _ _ _ hMd fun h₃ hP st₃ k₃ => ?_)
    obtain ⟨its₃, e₃, T₃⟩ := T₁.iter (h' := h₃) e₁ (fun b o hb e => k₃ b o (fun q => hb (hwr b q)) (k₂ b o (fun q => hb (hwr b q)) e)) (hob _ _ st₃)
    have fin : ∀ g₄ m₄ own₄ h₄, Ext g₁ g₄ → ∀ ys₄ e₄, At g₄ cenv.locals m₄ (own₄ ++ (its₃ ++ ((D, lst ys₄ e₄) :: tl))) h₄ → St (i + 1) h₄ := fun g₄ m₄ own₄ h₄ x₄ ys₄ e₄ T₄ => W.frame _ _ _ st₃ fun b hb o e => by
      rcases hfp b hb with hb | ⟨o', e'⟩ | hb
      · rw [← e₃] at hb
        obtain ⟨p, hp, rfl⟩ := List.mem_map.mp hb
        have a := T₃.get (p := p) (List.mem_append_right _ (List.mem_append_left _ hp))
        rw [a] at e; cases e
        exact T₄.get (List.mem_append_right _ (List.mem_append_left _ hp))
      · have a := T₃.keep _ _ (x₁ _ _ e')
        rw [a] at e; cases e
        exact T₄.keep _ _ (x₄ _ _ (x₁ _ _ e'))
      · obtain ⟨p, hp, rfl⟩ := List.mem_map.mp hb
        have a := T₃.get (p := p) (List.mem_append_right _ (List.mem_append_right _ (.tail _ hp)))
        rw [a] at e; cases e
        exact T₄.get (List.mem_append_right _ (List.mem_append_right _ (.tail _ hp)))
    have pm : ∀ (o : Led) (ys : List Value) (e : Nat), (o ++ ((D, lst ys e) :: (its₃ ++ tl))).Perm (o ++ (its₃ ++ ((D, lst ys e) :: tl))) := fun o ys e => (List.perm_middle.symm).append_left o
    refine wpAny_bind (wpAny_mono (turn i v g₁ m₁ own₁ (its₃ ++ tl) h₃ t₂ ys e' hlt (fun p hp => List.mem_append_right _ hp) x₁ hP hJ (T₃.perm (pm _ _ _))) (fun _ s₂ q => ?_) fun _ _ x => no x)
    refine wpAny_bind (wpAny_mono (tests_of q) (fun ok s₃ q => ?_) fun _ _ x => no x)
    cases ok with
    | false =>
      simp only [Bool.false_eq_true, if_false] at q ⊢
      obtain ⟨g₄, m₄, own₄, h₄, t₄, ys₄, e₄, rfl, x₄, T₄, q⟩ := q
      have T₄ := T₄.perm (pm _ _ _).symm
      exact wpAny_pure ⟨rfl, n + 1 - (i + 1), by omega, i + 1, g₄, m₄, own₄, its₃, h₄, t₄, ys₄, e₄, rfl, x₁.tr x₄, e₃, T₄, fin g₄ m₄ own₄ h₄ x₄ _ _ T₄, q, hlt, rfl⟩
    | true =>
      simp only [if_true] at q ⊢
      refine wpAny_mono q (fun y s₄ q => ?_) fun _ _ x => no x
      obtain ⟨rfl, g₄, m₄, own₄, h₄, t₄, ys₄, e₄, rfl, x₄, T₄, q⟩ := q
      have T₄ := T₄.perm (pm _ _ _).symm
      exact ⟨rfl, n + 1 - (i + 1), by omega, i + 1, g₄, m₄, own₄, its₃, h₄, t₄, ys₄, e₄, rfl, x₁.tr x₄, e₃, T₄, fin g₄ m₄ own₄ h₄ x₄ _ _ T₄, q, hlt, rfl⟩
  · have hin : i = n := by omega
    subst hin
    refine W.done _ _ _ st₁ fun h₂ t₂ k₂ => ?_
    dsimp only
    refine wpAny_pure (done g₁ m₁ own₁ h₂ t₂ ys e' x₁ hJ ?_)
    obtain ⟨oL, nL, M⟩ := T₁
    have M' : Mem g₁ ((cenv.locals, oL) :: (own₁ ++ ((D, lst ys e') :: tl))) h₁ := M.sub (((List.Sublist.refl _).append (List.sublist_append_right _ _)).cons_cons _)
    have hits : ∀ p ∈ its₁, g₁.get? p.1 = none := fun p hp => (M.at_ p (.tail _ (List.mem_append_right _ (List.mem_append_left _ hp)))).2
    have nw : ∀ b ∈ wr, b ∈ its₁.map (·.1) := fun b hb => e₁ ▸ hwr b hb
    refine ⟨oL, nL, fun b o e => k₂ b o (fun hb => ?_) (M'.keep b o e), fun p hp => ⟨k₂ _ _ (fun hb => ?_) (M'.at_ p hp).1, (M'.at_ p hp).2⟩, M'.nd⟩
    · obtain ⟨q, hq, he⟩ := List.mem_map.mp (nw b hb)
      have := hits q hq
      rw [he, e] at this; cases this
    · obtain ⟨q, hq, he⟩ := List.mem_map.mp (nw _ hb)
      have nd := M.nd
      rw [List.map_cons, List.map_append, List.map_append] at nd
      rcases List.mem_cons.mp hp with rfl | hp
      · exact (List.nodup_cons.mp nd).1 (List.mem_append_right _ (List.mem_append_left _ (List.mem_map.mpr ⟨q, hq, he⟩)))
      · have nd2 := (List.nodup_cons.mp nd).2
        rw [List.nodup_append] at nd2
        rcases List.mem_append.mp hp with hp | hp
        · exact nd2.2.2 p.1 (List.mem_map.mpr ⟨p, hp, rfl⟩) q.1 (List.mem_append_left _ (List.mem_map.mpr ⟨q, hq, rfl⟩)) he.symm
        · have nd3 := nd2.2.1
          rw [List.nodup_append] at nd3
          exact nd3.2.2 q.1 (List.mem_map.mpr ⟨q, hq, rfl⟩) p.1 (List.mem_map.mpr ⟨p, hp, rfl⟩) he

theorem s_emitAM {g₁ : Heap} {C : Addr} {tl₁ : Led} {J : Heap → Loc → Led → List Value → Prop} {s₀ : Shared}
    (k : wpAny (model prog w) A (eval elt cenv) (fun y s₄ => ∃ g₂ m₂ own₂ h₂ t₂ ys e, s₄ = Sh s h₂ t₂ ∧ Ext g₁ g₂ ∧ At g₂ C m₂ (own₂ ++ ((D, lst ys e) :: tl₁)) h₂ ∧ ys.length ≤ sizeLine ∧ J g₂ m₂ own₂ (ys ++ [y])) (fun _ _ => False) s₀) :
    wpAny (model prog w) A (emitA elt (.ref D) cenv) (fun _ s₄ => CPDM s g₁ C D tl₁ J s₄) (fun _ _ => False) s₀ := by
  refine wpAny_bind (wpAny_mono k (fun y s₄ q => ?_) fun _ _ x => x)
  obtain ⟨g₂, m₂, own₂, h₂, t₂, ys, e, rfl, x₂, T₂, hsz, q⟩ := q
  exact wpAny_bind (s_appendD T₂ hsz fun e' h' t' T₅ => wpAny_pure ⟨g₂, m₂, own₂, h', t', ys ++ [y], e', rfl, x₂, T₅, q⟩)

theorem turn_one {acc : Value} : compTurn (.ListComp elt [⟨target, iter, ifs, 0⟩] scope pos) 0 (.ref I) acc cenv = turnOf (.ListComp elt [⟨target, iter, ifs, 0⟩] scope pos) 0 target iter.pos ifs I acc cenv (emitL (.ListComp elt [⟨target, iter, ifs, 0⟩] scope pos) 0 elt I acc cenv) := by rfl
theorem compLoop_rule {R : Result → Shared → Prop} {e₀ : Nat} (S : Src prog w A target I its tl g h n P) (T : At g cenv.locals m (own ++ (its ++ ((D, lst [] e₀) :: tl))) h)
    (J : Nat → Heap → Led → List Value → Prop) (h0 : J 0 g own []) (hsz : n ≤ sizeLine)
    (turn : ∀ i v g₁ m₁ own₁ tl₁ h₁ t₁ ys, i < n → (∀ p ∈ tl, p ∈ tl₁) → Ext g g₁ → P i v h₁ → J i g₁ own₁ ys → At g₁ cenv.locals m₁ (own₁ ++ tl₁) h₁ →
      wpAny (model prog w) A (assign target cenv v) (fun _ s₂ => Tests prog w A ifs cenv (fun ok s₃ => if ok = true then wpAny (model prog w) A (eval elt cenv) (fun y s₄ => CP s g₁ cenv.locals tl₁ (J (i + 1)) (ys ++ [y]) s₄) (fun _ _ => False) s₃
        else CP s g₁ cenv.locals tl₁ (J (i + 1)) ys s₃) s₂) (fun _ _ => False) (Sh s h₁ t₁))
    (done : ∀ g₁ m₁ own₁ h₁ t₁ ys e, Ext g g₁ → J n g₁ own₁ ys → At g₁ cenv.locals m₁ (own₁ ++ ((D, lst ys e) :: tl)) h₁ → R (.ok .next) (Sh s h₁ t₁)) :
    codeAny (model prog w) A (.compLoop (.ListComp elt [⟨target, iter, ifs, 0⟩] scope pos) 0 (.ref I) (.ref D) cenv) R (Sh s h t) := by
  refine compLoopGM rfl rfl turn_one S T (fun i g _ own ys => J i g own ys ∧ ys.length ≤ i) ⟨h0, Nat.le_refl _⟩ (fun i v g₁ m₁ own₁ tl₁ h₁ t₁ ys e hi hs x hP hJ T₁ => ?_) fun g₁ m₁ own₁ h₁ t₁ ys e x hJ T₁ => done g₁ m₁ own₁ h₁ t₁ ys e x hJ.1 T₁
  refine wpAny_mono (turn i v g₁ m₁ own₁ ((D, lst ys e) :: tl₁) h₁ t₁ ys hi (fun p hp => .tail _ (hs p hp)) x hP hJ.1 T₁) (fun _ s₂ q => tests_mono q fun ok s₃ q => ?_) fun _ _ x => x
  cases ok with
  | false =>
    simp only [Bool.false_eq_true, if_false] at q ⊢
    obtain ⟨g₂, m₂, own₂, h₂, t₂, rfl, x₂, T₂, q⟩ := q
    exact ⟨g₂, m₂, own₂, h₂, t₂, ys, e, rfl, x₂, T₂, q, Nat.le_trans hJ.2 (Nat.le_succ _)⟩
  | true =>
    simp only [if_true] at q ⊢
    refine wpAny_bind (wpAny_mono (s_emitAM (s := s) (wpAny_mono q (fun y s₄ q => ?_) fun _ _ x => x)) (fun _ s₄ q => wpAny_pure ⟨rfl, q⟩) fun _ _ x => x)
    obtain ⟨g₂, m₂, own₂, h₂, t₂, rfl, x₂, T₂, q⟩ := q
    exact ⟨g₂, m₂, own₂, h₂, t₂, ys, e, rfl, x₂, T₂, Nat.le_trans hJ.2 (by omega), q, by rw [List.length_append]; exact Nat.succ_le_succ hJ.2⟩
theorem Src.more {its' tl' : Led} {h' : Heap} (S : Src prog w A target I its tl g h n P) (hi : its' = its) (ht : ∀ p ∈ tl, p ∈ tl') (T : ∀ b o, h.get? b = some o → h'.get? b = some o) : Src prog w A target I its' tl' g h' n P := by
  subst hi
  obtain ⟨fp, wr, Md, St, W, hwr, hfp, hob, hself, st0⟩ := S.ex
  refine ⟨fp, wr, Md, St, W, hwr, fun b hb => (hfp b hb).imp id fun x => x.imp id fun x => ?_, hob, hself, W.frame _ _ _ st0 fun b _ o e => T b o e⟩
  obtain ⟨p, hp, rfl⟩ := List.mem_map.mp x
  exact List.mem_map.mpr ⟨p, ht p hp, rfl⟩

inductive CompAt (prog : Program) (w : World) (A : Around) (env : Env) (target elt : Expr) (ifs : List Expr) (scope : Scope) (cl : List (Str × Addr)) (s : Shared) (Fin : Heap → Addr → Loc → Led → List Value → Nat → Heap → Nat → Prop) (it : Value) (s₂ : Shared) : Prop
  | mk (I : Addr) (own its tl : Led) (g h : Heap) (t : Nat) (m : Loc) (n : Nat) (P : Nat → Value → Heap → Prop) (J : Nat → Heap → Led → List Value → Prop) :
    it = .ref I →
    s₂ = Sh s h t →
    Src prog w A target I its tl g h n P →
    At g env.locals m (own ++ (its ++ tl)) h →
    J 0 g own [] →
    n ≤ sizeLine →
    (∀ C i v g₁ m₁ own₁ tl₁ h₁ t₁ ys, i < n → (∀ p ∈ tl, p ∈ tl₁) → Ext g g₁ → P i v h₁ → J i g₁ own₁ ys → At g₁ C m₁ (own₁ ++ tl₁) h₁ →
      wpAny (model prog w) A (assign target (compEnvC scope cl C env) v) (fun _ s₂ => Tests prog w A ifs (compEnvC scope cl C env) (fun ok s₃ => if ok = true then wpAny (model prog w) A (eval elt (compEnvC scope cl C env)) (fun y s₄ => CP s g₁ C tl₁ (J (i + 1)) (ys ++ [y]) s₄) (fun _ _ => False) s₃
        else CP s g₁ C tl₁ (J (i + 1)) ys s₃) s₂) (fun _ _ => False) (Sh s h₁ t₁)) →
    (∀ g₁ own₁ h₁ t₁ D ys e, Ext g g₁ → J n g₁ own₁ ys → At g₁ env.locals m ((D, lst ys e) :: (own₁ ++ tl)) h₁ → Fin g₁ D m (own₁ ++ tl) ys e h₁ t₁) →
    CompAt prog w A env target elt ifs scope cl s Fin it s₂

theorem comp_block {cl : List (Str × Addr)} {Fin : Heap → Addr → Loc → Led → List Value → Nat → Heap → Nat → Prop} {it : Value} {s₂ : Shared} {E : Value → Shared → Prop} {RR : Value → Addr → Result → Shared → Prop}
    (hcell : ∀ y ∈ scope.names, y.2 ≠ .cell) (hkind : scope.kind = .function) (k : CompAt prog w A env target elt ifs scope cl s Fin it s₂)
    (fin : ∀ g₁ C D m mu ys e h₁ t₁, (∀ h₂, Heap.SameBut C h₁ h₂ → Fin g₁ D m mu ys e h₂ t₁) → (∃ mc, h₁.Ns C mc) → At g₁ env.locals m ((D, lst ys e) :: mu) h₁ → (∃ oC, h₁.get? C = some oC ∧ C ≠ env.locals ∧ C ≠ D ∧ (∀ p ∈ mu, p.1 ≠ C) ∧ g₁.get? C = none) → RR (.ref D) C (.ok .next) (Sh s h₁ t₁)) :
    wpAny (model prog w) A (newList []) (fun acc s₃ => wpAny (model prog w) A (newFunctionEnv scope env.globals cl [] env.qual none .none (some env)) (fun cenv s₄ =>
      codeAny (model prog w) A (.compStart (.ListComp elt [⟨target, iter, ifs, 0⟩] scope pos) 0 it acc { cenv with scope := relabel scope env }) (RR acc cenv.locals) s₄) E s₃) E s₂ := by
  obtain ⟨I, own, its, tl, g, h, t, m, n, P, J, rfl, rfl, S, T, h0, hsz, turn, done⟩ := k
  refine wpAny_newObj_type (wpAny_newFunctionEnv hcell (by intro y hy; simp at hy) (fun h₁ hns₁ hsb₁ => ?_) hkind)
  dsimp only at hns₁ hsb₁ ⊢
  obtain ⟨oL, nL, M⟩ := T
  have M1 := M.push (lst [] 0) rfl
  -- the comprehension's own frame
  generalize hH2 : h.push { cls := .type "list", dict := none, data := .seq ([] : List Value).toArray } = H2 at hns₁ hsb₁ ⊢
  have eH : H2 = h.push (lst [] 0) := hH2.symm
  subst eH
  have M2 := M1.push { cls := .type "dict", data := .dict #[] } rfl
  obtain ⟨oC, eC, nC⟩ := LCg.ns_obj hns₁
  have M3 := M2.set hsb₁ eC
  have up : ∀ b o, h.get? b = some o → h₁.get? b = some o := fun b o e => by
    refine (hsb₁.2 b (fun q => ?_)).trans (Heap.get?_push_of_some _ (Heap.get?_push_of_some _ e))
    have := Heap.lt_size e
    rw [q, Heap.size_push] at this
    exact absurd this (Nat.not_lt.mpr (Nat.le_succ _))
  have S' : Src prog w A target I its ((env.locals, oL) :: tl) g h₁ n P := S.more rfl (fun p hp => .tail _ hp) up
  generalize hCa : (h.push (lst [] 0)).objs.size = C at *
  generalize hDa : h.objs.size = D at *
  have T3 : At g C (fun x => List.lookup x ([] : List (Str × Value)).reverse) (own ++ (its ++ ((D, lst [] 0) :: (env.locals, oL) :: tl))) h₁ := by
    refine ⟨oC, nC, M3.perm ?_⟩
    refine List.Perm.cons _ ?_
    have p1 : (own ++ (its ++ ((D, lst [] 0) :: (env.locals, oL) :: tl))).Perm ((D, lst [] 0) :: (own ++ (its ++ ((env.locals, oL) :: tl)))) := by
      rw [← List.append_assoc, ← List.append_assoc]
      exact List.perm_middle
    refine p1.trans (List.Perm.cons _ ?_)
    rw [← List.append_assoc, ← List.append_assoc]
    exact List.perm_middle
  have loop : codeAny (model prog w) A (.compLoop (.ListComp elt [⟨target, iter, ifs, 0⟩] scope pos) 0 (.ref I) (.ref D) (compEnvC scope cl C env)) (RR (.ref D) C) (Sh s h₁ (t + ([] : List (Str × Value)).length)) := by
    refine compLoop_rule (cenv := compEnvC scope cl C env) S' T3 J h0 hsz (fun i v g₁ m₁ own₁ tl₁ h₁ t₁ ys hi hs x hP hJ T => ?_) fun g₁ m₁ own₁ h₂ t₂ ys e x hJ T4 => ?_
    · exact turn C i v g₁ m₁ own₁ tl₁ h₁ t₁ ys hi (fun p hp => hs p (.tail _ hp)) x hP hJ T
    · obtain ⟨oC', nC', M4⟩ := T4
      have M5 : Mem g₁ ((C, oC') :: (env.locals, oL) :: (D, lst ys e) :: (own₁ ++ tl)) h₂ := by
        refine M4.perm (List.Perm.cons _ ?_)
        refine List.Perm.symm ?_
        have p1 : (own₁ ++ ((D, lst ys e) :: (env.locals, oL) :: tl)).Perm ((D, lst ys e) :: (own₁ ++ ((env.locals, oL) :: tl))) := List.perm_middle
        have p2 : (own₁ ++ ((env.locals, oL) :: tl)).Perm ((env.locals, oL) :: (own₁ ++ tl)) := List.perm_middle
        exact p1.trans ((p2.cons _).trans (.swap ..))
      refine fin g₁ C D m (own₁ ++ tl) ys e h₂ t₂ (fun h₃ hs₃ => done g₁ own₁ h₃ t₂ D ys e x hJ ⟨oL, nL, ?_⟩) ⟨_, nC'.ns (M5.get (.head _))⟩ ⟨oL, nL, M5.drop⟩ ⟨oC', M5.get (.head _), ?_, ?_, ?_, (M5.at_ _ (.head _)).2⟩
      · have ne : ∀ p ∈ ((env.locals, oL) :: (D, lst ys e) :: (own₁ ++ tl)), p.1 ≠ C := fun p hp => M5.ne hp
        refine ⟨fun b o eb => (hs₃.2 b fun q => ?_).trans (M5.keep b o eb), fun p hp => ⟨(hs₃.2 _ (ne p hp)).trans (M5.at_ p (.tail _ hp)).1, (M5.at_ p (.tail _ hp)).2⟩, M5.drop.nd⟩
        subst q
        have z := (M5.at_ _ (.head _)).2
        rw [show g₁.get? b = none from z] at eb; cases eb
      · exact fun q => M5.ne (q := (env.locals, oL)) (.head _) q.symm
      · exact fun q => M5.ne (q := (D, lst ys e)) (.tail _ (.head _)) q.symm
      · exact fun p hp => M5.ne (.tail _ (.tail _ hp))
  refine codeAny_compStart_list loop ?_
  obtain ⟨fp, wr, Md, St, W, hwr, hfp, hob, hself, st0⟩ := S'.ex
  exact hself 0 _ _ _ st0 loop

theorem s_ListComp {cl : List (Str × Addr)} {Q : Value → Shared → Prop} {E : Value → Shared → Prop} {s₀ : Shared}
    (k : wpAny (model prog w) A (eval iter env) (fun xv s₁ => wpAny (model prog w) A (pyIter xv) (fun it s₂ => CompAt prog w A env target elt ifs scope cl s (fun g₁ D m mu ys e h₁ t₁ => At g₁ env.locals m ((D, lst ys e) :: mu) h₁ → Q (.ref D) (Sh s h₁ t₁)) it s₂) E s₁) E s₀)
    (hclos : closureFor scope env = pure cl) (hcell : ∀ y ∈ scope.names, y.2 ≠ .cell) (hkind : scope.kind = .function)
    (hnames : ∀ y ∈ scope.names, y.2 = .local → scope.names.lookup y.1 = some .local)
    (hs : ∀ x, foldedSetIterable iter env x = pure x := by intro _; rfl) :
    wpAny (model prog w) A (eval (.ListComp elt [⟨target, iter, ifs, 0⟩] scope pos) env) Q E s₀ := by
  rw [eval_ListComp]
  refine wpAny_comprehension_free (use := none) rfl hs hclos hkind hnames (wpAny_mono k (fun xv s₁ h₁ => wpAny_mono h₁ (fun it s₂ h₂ => ?_) fun _ _ e => e) fun _ _ e => e)
  refine comp_block (RR := fun acc C => compPost (model prog w) A E none Q acc C) hcell hkind h₂ fun g₁ C D m mu ys e h₁ t₁ F nC T hC => ?_
  obtain ⟨mc, nC⟩ := nC
  obtain ⟨oC, eC, n1, n2, n3, gC⟩ := hC
  refine ⟨mc, nC, fun h₂ hs₂ => F h₂ hs₂ ?_⟩
  obtain ⟨oL, nL, M⟩ := T
  refine ⟨oL, nL, fun b o eb => (hs₂.2 b fun q => ?_).trans (M.keep b o eb), fun p hp => ⟨(hs₂.2 _ ?_).trans (M.at_ p hp).1, (M.at_ p hp).2⟩, M.nd⟩
  · subst q; rw [gC] at eb; cases eb
  · rcases List.mem_cons.mp hp with rfl | hp
    · exact fun q => n1 q.symm
    · rcases List.mem_cons.mp hp with rfl | hp
      · exact fun q => n2 q.symm
      · exact n3 p hp
end

section
variable {prog : Program} {w : World} {A : Around} {s : Shared} {g h : Heap} {t : Nat} {m : Loc} {env : Env} {own its tl mu : Led} {target : Expr} {I D a : Addr} {n : Nat} {P : Nat → Value → Heap → Prop} {elt iter : Expr} {ifs : List Expr} {scope : Scope} {pos : Pos}

theorem s_AssignComp {cl : List (Str × Addr)} {Q : Flow → Shared → Prop} {E : Value → Shared → Prop} {s₀ : Shared} {y : Str} {py spos : Pos}
    (k : wpAny (model prog w) A (eval iter env) (fun xv s₁ => wpAny (model prog w) A (pyIter xv) (fun it s₂ => CompAt prog w A env target elt ifs scope cl s
      (fun g₁ D m mu ys e h₁ t₁ => At g₁ env.locals m ((D, lst ys e) :: mu) h₁ → ∀ h₂ t₂, At g₁ env.locals (fun z => if z = y then some (.ref D) else m z) ((D, lst ys e) :: mu) h₂ → Q .next (Sh s h₂ t₂)) it s₂) E s₁) E s₀)
    (hsw : swapsWith (.ListComp elt [⟨target, iter, ifs, 0⟩] scope pos) (some (.Name y py)) spos.line env = pure true)
    (hclos : closureFor scope env = pure cl) (hcell : ∀ y ∈ scope.names, y.2 ≠ .cell) (hkind : scope.kind = .function)
    (hnames : ∀ y ∈ scope.names, y.2 = .local → scope.names.lookup y.1 = some .local)
    (hy : env.kindOf y = some .local) (hke : env.scope.kind = .function)
    (hs : ∀ x, foldedSetIterable iter env x = pure x := by intro _; rfl) :
    wpAny (model prog w) A (exec (.Assign [.Name y py] (.ListComp elt [⟨target, iter, ifs, 0⟩] scope pos) spos) env) Q E s₀ := by
  rw [exec_Assign_Name_used _ _ _ _ hsw]
  refine wpAny_bind (wpAny_standAt (wpAny_bind ?_))
  show wpAny _ A (do let _ ← comprehension (.ListComp elt [⟨target, iter, ifs, 0⟩] scope pos) scope env _ (newList []) false (eval iter env) (some (assign (.Name y py) env))) _ _ _
  refine wpAny_bind (wpAny_mono (wpAny_comprehension_free (use := some (assign (.Name y py) env)) (Q := fun _ s' => Q .next s') rfl hs hclos hkind hnames
    (wpAny_mono k (fun xv s₁ h₁ => wpAny_mono h₁ (fun it s₂ h₂ => ?_) fun _ _ e => e) fun _ _ e => e)) (fun _ s' hq => wpAny_pure (wpAny_pure hq)) fun _ _ e => e)
  refine comp_block (RR := fun acc C => compPost (model prog w) A E (some (assign (.Name y py) env)) (fun _ s' => Q .next s') acc C) hcell hkind h₂ fun g₁ C D m mu ys e h₁ t₁ F nC T hC => ?_
  obtain ⟨mc, nC⟩ := nC
  obtain ⟨oC, eC, n1, n2, n3, gC⟩ := hC
  show wpAny _ A (assign (.Name y py) env (.ref D)) _ _ _
  refine wpAny_assign_Name (wpAny_storeName_local hy T.ns (fun h₂ hn₂ hs₂ => ?_) (by rw [hke]; rfl))
  refine ⟨mc, nC.sameBut hs₂ n1, fun h₃ hs₃ => ?_⟩
  have T₂ : At g₁ env.locals (fun z => if z = y then some (.ref D) else m z) ((D, lst ys e) :: mu) h₂ := T.setL hn₂ hs₂
  have keepC : ∀ {mm : Loc} {ha hb : Heap}, At g₁ env.locals mm ((D, lst ys e) :: mu) ha → Heap.SameBut C ha hb → At g₁ env.locals mm ((D, lst ys e) :: mu) hb := by
    intro mm ha hb T hs
    obtain ⟨oL, nL, M⟩ := T
    refine ⟨oL, nL, fun b o eb => (hs.2 b fun q => ?_).trans (M.keep b o eb), fun p hp => ⟨(hs.2 _ ?_).trans (M.at_ p hp).1, (M.at_ p hp).2⟩, M.nd⟩
    · subst q; rw [gC] at eb; cases eb
    · rcases List.mem_cons.mp hp with rfl | hp
      · exact fun q => n1 q.symm
      · rcases List.mem_cons.mp hp with rfl | hp
        · exact fun q => n2 q.symm
        · exact n3 p hp
  exact F h₁ (Heap.SameBut.refl ..) T _ _ (keepC T₂ hs₃)

-- sources
theorem go_name {x : Str} {px : Pos} (I : Addr) (v : Value) (s : Shared) (Q : Unit → Shared → Prop) (E : Value → Shared → Prop) (q : Q () s) : wpAny (model prog w) A (letOwnedTupleGo (.Name x px) (.ref I) v) Q E s := wpAny_pure q
theorem go_tuple {elts : List Expr} {x1 : Nat} {px : Pos} (I l : Addr) (i : Nat) (v : Value) (s : Shared) (Q : Unit → Shared → Prop) (E : Value → Shared → Prop) (hit : s.heap.IsListIter I l i) (q : Q () s) :
    wpAny (model prog w) A (letOwnedTupleGo (.Tuple elts x1 px) (.ref I) v) Q E s := by
  cases v with
  | ref T => exact wpAny_letOwnedTupleGo_listiter hit q
  | _ => exact wpAny_pure q

theorem src_list {vs : List Value} {Q : Value → Shared → Prop} {E : Value → Shared → Prop} (own tl : Led) (hh : A.handled = none) (T : At g env.locals m mu h) (hp : (own ++ tl).Perm mu) (hl : h.IsList a vs.toArray)
    (ha : (∃ o, g.get? a = some o) ∨ a ∈ tl.map (·.1))
    (hgo : ∀ I i v (s : Shared) (Q : Unit → Shared → Prop) (E : Value → Shared → Prop), s.heap.IsListIter I a i → Q () s → wpAny (model prog w) A (letOwnedTupleGo target (.ref I) v) Q E s)
    (k : ∀ I its h' t', Src prog w A target I its tl g h' vs.length (fun i v _ => vs[i]? = some v) → At g env.locals m (own ++ (its ++ tl)) h' → Q (.ref I) (Sh s h' t')) :
    wpAny (model prog w) A (pyIter (.ref a)) Q E (Sh s h t) := by
  have hlt : a < h.objs.size := by obtain ⟨o, e, _⟩ := hl; exact Heap.lt_size e
  refine wpAny_pyIter_list hl ?_
  have T' : At g env.locals m (own ++ ([(h.objs.size, { cls := .type "list_iterator", data := .fields #[.ref a, .int 0 0] })] ++ tl)) (h.push { cls := .type "list_iterator", data := .fields #[.ref a, .int 0 0] }) :=
    (T.push _ rfl).perm ((List.perm_middle).trans (hp.cons _))
  have W : Walks prog w A h.objs.size [h.objs.size, a] [h.objs.size] vs.length (fun i v => vs[i]? = some v) (fun i h' => h'.IsListIter h.objs.size a i ∧ h'.IsList a vs.toArray) := by
    simpa using Walks.list (prog := prog) (w := w) hh h.objs.size a (Nat.ne_of_lt hlt) vs.toArray
  refine k _ _ _ _ ⟨[h.objs.size, a], [h.objs.size], _, _, KTurns.ofWalks W (fun i v s Q E st q => hgo _ _ _ _ _ _ st.1 q), ?_, ?_, ?_, ?_, ?_⟩ T'
  · simp
  · intro b hb
    have hb' : b = h.objs.size ∨ b = a := by simpa using hb
    rcases hb' with rfl | rfl
    · exact .inl (by simp)
    · exact .inr ha
  · rintro i h' ⟨⟨o, e, _⟩, _⟩ b hb
    have : b = h.objs.size := by simpa using hb
    subst this
    exact ⟨o, e⟩
  · rintro i s' Q' E' ⟨e, _⟩ q
    exact wpAny_pyIter_listiter e q
  · exact ⟨⟨_, Heap.get?_push_size _ rfl, rfl, rfl⟩, hl.at fun o e => Heap.get?_push_of_some _ e⟩
theorem src_tuple {vs : List Value} {Q : Value → Shared → Prop} {E : Value → Shared → Prop} {x : Str} {px : Pos} (own tl : Led) (hh : A.handled = none) (T : At g env.locals m mu h) (hp : (own ++ tl).Perm mu) (hl : h.IsTuple a vs.toArray)
    (ha : (∃ o, g.get? a = some o) ∨ a ∈ tl.map (·.1))
    (k : ∀ I its h' t', Src prog w A (.Name x px) I its tl g h' vs.length (fun i v _ => vs[i]? = some v) → At g env.locals m (own ++ (its ++ tl)) h' → Q (.ref I) (Sh s h' t')) :
    wpAny (model prog w) A (pyIter (.ref a)) Q E (Sh s h t) := by
  have hlt : a < h.objs.size := by obtain ⟨o, e, _⟩ := hl; exact Heap.lt_size e
  refine wpAny_pyIter_tuple hl ?_
  have T' : At g env.locals m (own ++ ([(h.objs.size, { cls := .type "tuple_iterator", data := .fields #[.ref a, .int 0 0] })] ++ tl)) (h.push { cls := .type "tuple_iterator", data := .fields #[.ref a, .int 0 0] }) :=
    (T.push _ rfl).perm ((List.perm_middle).trans (hp.cons _))
  have W : Walks prog w A h.objs.size [h.objs.size, a] [h.objs.size] vs.length (fun i v => vs[i]? = some v) (fun i h' => h'.IsTupleIter h.objs.size a i ∧ h'.IsTuple a vs.toArray) := by
    simpa using Walks.tuple (prog := prog) (w := w) hh h.objs.size a (Nat.ne_of_lt hlt) vs.toArray
  refine k _ _ _ _ ⟨[h.objs.size, a], [h.objs.size], _, _, KTurns.ofWalks W (fun i v s Q E st q => go_name _ _ _ _ _ q), ?_, ?_, ?_, ?_, ?_⟩ T'
  · simp
  · intro b hb
    have hb' : b = h.objs.size ∨ b = a := by simpa using hb
    rcases hb' with rfl | rfl
    · exact .inl (by simp)
    · exact .inr ha
  · rintro i h' ⟨⟨o, e, _⟩, _⟩ b hb
    have : b = h.objs.size := by simpa using hb
    subst this
    exact ⟨o, e⟩
  · rintro i s' Q' E' ⟨e, _⟩ q
    exact wpAny_pyIter_tupleiter e q
  · exact ⟨⟨_, Heap.get?_push_size _ rfl, rfl, rfl⟩, hl.at fun o e => Heap.get?_push_of_some _ e⟩
theorem src_range {r : Addr} {lo hi : Int} {t1 t2 t3 : Tok} {Q : Value → Shared → Prop} {E : Value → Shared → Prop} {x : Str} {px : Pos} (own tl : Led) (hh : A.handled = none) (T : At g env.locals m mu h) (hp : (own ++ tl).Perm mu) (hr : IsRange h r lo hi 1 t1 t2 t3)
    (n : Nat) (h1 : -(2 ^ 62) ≤ lo) (h2 : hi < 2 ^ 62) (h3 : hi = lo + n)
    (k : ∀ I its h' t', Src prog w A (.Name x px) I its tl g h' n (fun i v _ => ∃ t, v = .int (lo + (i : Int)) t) → At g env.locals m (own ++ (its ++ tl)) h' → Q (.ref I) (Sh s h' t')) :
    wpAny (model prog w) A (pyIter (.ref r)) Q E (Sh s h t) := by
  refine wpAny_pyIter_range hr (small_one h1 (by omega) (by omega) h2) ?_
  have e0 : Builtin.Range.rangeSize lo hi 1 = (n : Int) := by rw [rangeSize_one]; split <;> omega
  rw [e0]
  have T' : At g env.locals m (own ++ ([(h.objs.size, { cls := .type "range_iterator", data := .fields #[rawInt lo, rawInt (n : Int), rawInt 1] })] ++ tl)) (h.push { cls := .type "range_iterator", data := .fields #[rawInt lo, rawInt (n : Int), rawInt 1] }) :=
    (T.push _ rfl).perm ((List.perm_middle).trans (hp.cons _))
  have W := LCg.range_walks (prog := prog) (w := w) (I := h.objs.size) hh lo n
  refine k _ _ _ _ ⟨[h.objs.size], [h.objs.size], _, _, KTurns.ofWalks W (fun i v s Q E st q => go_name _ _ _ _ _ q), ?_, ?_, ?_, ?_, ?_⟩ T'
  · simp
  · intro b hb
    exact .inl (by simpa using hb)
  · rintro i h' e b hb
    have : b = h.objs.size := by simpa using hb
    subst this
    exact ⟨_, e⟩
  · rintro i s' Q' E' e q
    exact wpAny_pyIter_rangeiter e q
  · have := Heap.get?_push_size h (o := { cls := .type "range_iterator", data := .fields #[rawInt lo, rawInt (n : Int), rawInt 1] }) rfl
    simpa [IsRangeIter] using this

theorem kturns_to {prog : Program} {w : World} {A : Around} {target : Expr} {I : Addr} {fp wr : List Addr} {n n' : Nat} {P P' Md : Nat → Value → Heap → Prop} {St : Nat → Heap → Prop} (K : KTurns prog w A target I fp wr n P Md St) (hn : n = n') (hP : ∀ i v h, P i v h → P' i v h) :
    KTurns prog w A target I fp wr n' P' Md St := by
  subst hn
  exact ⟨K.sub, K.frame, K.item, fun i v s Q E hm hQ => K.go i v s Q E hm fun h' p => hQ h' (hP _ _ _ p), K.done⟩
theorem src_enum {elts : List Expr} {x1 : Nat} {px : Pos} {vs : List Value} {Q : Value → Shared → Prop} {E : Value → Shared → Prop} (own tl : Led) (hh : A.handled = none) (T : At g env.locals m mu h) (hp : (own ++ tl).Perm mu) (hl : h.IsList a vs.toArray)
    (ha : (∃ o, g.get? a = some o) ∨ a ∈ tl.map (·.1))
    (k : ∀ I its h' t', Src prog w A (.Tuple elts x1 px) I its tl g h' vs.length (fun i v hh => ∃ T t x, v = .ref T ∧ vs[i]? = some x ∧ hh.IsTuple T #[.int i t, x]) → At g env.locals m (own ++ (its ++ tl)) h' → Q (.ref I) (Sh s h' t')) :
    wpAny (model prog w) A (call (.type "enumerate") [.ref a]) (fun xv s₁ => wpAny (model prog w) A (pyIter xv) Q E s₁) E (Sh s h t) := by
  have hlt : a < h.objs.size := by obtain ⟨o, e, _⟩ := hl; exact Heap.lt_size e
  refine call_enumerate_list hl fun h' hE hI hsz hk => ?_
  refine wpAny_pyIter_enum hE ?_
  obtain ⟨oI, eI, cI⟩ := id hI
  have W := (WalksT.enumerate (prog := prog) (w := w) hh (h.objs.size + 1) h.objs.size a (Nat.succ_ne_self _) (ktu_ne 1 hlt) (Nat.ne_of_lt hlt) vs.toArray).toU
  have T' : At g env.locals m (own ++ ([(h.objs.size + 1, { cls := .type "enumerate", dict := none, data := .fields #[.none, .bool false, .ref h.objs.size, rawInt 0, .none, .none], slots := #[] }), (h.objs.size, oI)] ++ tl)) h' := by
    obtain ⟨oL, nL, M⟩ := T
    have M0 := M.ext (h' := h') hk
    have n0 : ∀ p ∈ (env.locals, oL) :: mu, p.1 < h.objs.size := fun p hp => M.lt hp
    have g0 : ∀ b, h.objs.size ≤ b → g.get? b = none := fun b hb => by
      cases e : g.get? b with
      | none => rfl
      | some o => exact absurd (Heap.lt_size (M.keep _ _ e)) (Nat.not_lt.mpr hb)
    have M1 : Mem g ((h.objs.size + 1, { cls := .type "enumerate", dict := none, data := .fields #[.none, .bool false, .ref h.objs.size, rawInt 0, .none, .none], slots := #[] }) :: (h.objs.size, oI) :: (env.locals, oL) :: mu) h' := by
      refine ⟨M0.keep, fun p hp => ?_, ?_⟩
      · rcases List.mem_cons.mp hp with rfl | hp
        · exact ⟨hE, g0 _ (Nat.le_succ _)⟩
        · rcases List.mem_cons.mp hp with rfl | hp
          · exact ⟨eI, g0 _ (Nat.le_refl _)⟩
          · exact M0.at_ p hp
      · rw [List.map_cons, List.map_cons]
        refine List.nodup_cons.mpr ⟨fun hm => ?_, List.nodup_cons.mpr ⟨fun hm => ?_, M.nd⟩⟩
        · rcases List.mem_cons.mp hm with e | hm
          · exact Nat.succ_ne_self _ e
          · obtain ⟨p, hp, e⟩ := List.mem_map.mp hm
            have := n0 p hp
            rw [e] at this
            exact absurd this (Nat.not_lt.mpr (Nat.le_succ _))
        · obtain ⟨p, hp, e⟩ := List.mem_map.mp hm
          have := n0 p hp
          rw [e] at this
          exact absurd this (Nat.lt_irrefl _)
    refine ⟨oL, nL, M1.perm ?_⟩
    have p1 : ((env.locals, oL) :: mu).Perm ((env.locals, oL) :: (own ++ tl)) := (hp.symm).cons _
    have p2 : ∀ (x y z : Addr × Obj) (l : Led), (x :: y :: z :: l).Perm (z :: x :: y :: l) := fun x y z l => (((List.Perm.swap z y l).cons x).trans (List.Perm.swap z x (y :: l)))
    refine List.Perm.symm (List.Perm.trans (((p1.cons _)).cons _) ((p2 _ _ _ _).trans (List.Perm.cons _ ?_)))
    have q1 := (List.perm_middle (l₁ := own) (l₂ := tl) (a := (h.objs.size, oI)))
    have q2 := (List.perm_middle (l₁ := own) (l₂ := (h.objs.size, oI) :: tl) (a := (h.objs.size + 1, ({ cls := .type "enumerate", dict := none, data := .fields #[.none, .bool false, .ref h.objs.size, rawInt 0, .none, .none], slots := #[] } : Obj))))
    exact ((q1.symm.cons _).trans q2.symm)
  have K := kturns_to (n' := vs.length) (P' := fun i v hh => ∃ T t x, v = .ref T ∧ vs[i]? = some x ∧ hh.IsTuple T #[.int (i : Nat) t, x]) (KTurns.ofWalksU (elts := elts) (k := x1) (pos := px) W) (by simp)
    (by rintro i v hh ⟨T, vals, rfl, ⟨t, x, hx, rfl⟩, hT⟩; exact ⟨T, t, x, rfl, by simpa using hx, hT⟩)
  refine k _ _ _ _ ⟨[h.objs.size + 1, h.objs.size, a], [h.objs.size + 1, h.objs.size], _, _, K, ?_, ?_, ?_, ?_, ?_⟩ T'
  · intro b hb; simpa using hb
  · intro b hb
    have hb' : b = h.objs.size + 1 ∨ b = h.objs.size ∨ b = a := by simpa using hb
    rcases hb' with rfl | rfl | rfl
    · exact .inl (by simp)
    · exact .inl (by simp)
    · exact .inr ha
  · rintro i h' ⟨⟨old, e⟩, ⟨o, e2, _⟩, _⟩ b hb
    have hb' : b = h.objs.size + 1 ∨ b = h.objs.size := by simpa using hb
    rcases hb' with rfl | rfl
    · exact ⟨_, e⟩
    · exact ⟨_, e2⟩
  · exact fun i s Q E st q => W.self i s Q E st q
  · exact ⟨⟨.none, hE⟩, hI, hl.at fun o e => hk a o e⟩
theorem At.grow {L : Addr} {h' : Heap} {nw : Led} (T : At g L m mu h) (x : Ext h h') (hn : ∀ p ∈ nw, h'.get? p.1 = some p.2 ∧ h.objs.size ≤ p.1) (nd : (nw.map (·.1)).Nodup) : At g L m (nw ++ mu) h' := by
  obtain ⟨oL, nL, M⟩ := T
  have M0 := M.ext x
  have n0 : ∀ p ∈ (L, oL) :: mu, p.1 < h.objs.size := fun p hp => M.lt hp
  have g0 : ∀ b, h.objs.size ≤ b → g.get? b = none := fun b hb => by
    cases e : g.get? b with
    | none => rfl
    | some o => exact absurd (Heap.lt_size (M.keep _ _ e)) (Nat.not_lt.mpr hb)
  refine ⟨oL, nL, ?_⟩
  have M1 : Mem g (nw ++ ((L, oL) :: mu)) h' := by
    refine ⟨M0.keep, fun p hp => ?_, ?_⟩
    · rcases List.mem_append.mp hp with hp | hp
      · exact ⟨(hn p hp).1, g0 _ (hn p hp).2⟩
      · exact M0.at_ p hp
    · rw [List.map_append, List.nodup_append]
      refine ⟨nd, M.nd, fun a ha b hb e => ?_⟩
      obtain ⟨p, hp, rfl⟩ := List.mem_map.mp ha
      obtain ⟨q, hq, rfl⟩ := List.mem_map.mp hb
      have := n0 q hq
      rw [← e] at this
      exact absurd this (Nat.not_lt.mpr (hn p hp).2)
  exact M1.perm List.perm_middle.symm
theorem perm_in {nw own tl mu : Led} (hp : (own ++ tl).Perm mu) : (own ++ (nw ++ tl)).Perm (nw ++ mu) := by
  rw [← List.append_assoc]
  have : (own ++ nw).Perm (nw ++ own) := List.perm_append_comm
  refine (this.append_right tl).trans ?_
  rw [List.append_assoc]
  exact hp.append_left nw
theorem src_zip {b : Addr} {elts : List Expr} {x1 : Nat} {px : Pos} {vs ws : List Value} {Q : Value → Shared → Prop} {E : Value → Shared → Prop} (own tl : Led) (hh : A.handled = none) (T : At g env.locals m mu h) (hp : (own ++ tl).Perm mu)
    (hl : h.IsList a vs.toArray) (ha : (∃ o, g.get? a = some o) ∨ a ∈ tl.map (·.1)) (hl2 : h.IsList b ws.toArray) (hb : (∃ o, g.get? b = some o) ∨ b ∈ tl.map (·.1))
    (k : ∀ I its h' t', Src prog w A (.Tuple elts x1 px) I its tl g h' (min vs.length ws.length) (fun i v hh => ∃ T x y, v = .ref T ∧ vs[i]? = some x ∧ ws[i]? = some y ∧ hh.IsTuple T #[x, y]) → At g env.locals m (own ++ (its ++ tl)) h' → Q (.ref I) (Sh s h' t')) :
    wpAny (model prog w) A (call (.type "zip") [.ref a, .ref b]) (fun xv s₁ => wpAny (model prog w) A (pyIter xv) Q E s₁) E (Sh s h t) := by
  have hlt1 : a < h.objs.size := by obtain ⟨o, e, _⟩ := hl; exact Heap.lt_size e
  have hlt2 : b < h.objs.size := by obtain ⟨o, e, _⟩ := hl2; exact Heap.lt_size e
  have D : ZipApart (h.objs.size + 4) (h.objs.size + 2) (h.objs.size + 3) h.objs.size (h.objs.size + 1) a b := ktu_apart _ _ _ hlt1 hlt2
  refine call_zip_2 hl hl2 fun h' hz hTI hTO hi1 hi2 hsz hk => ?_
  refine wpAny_pyIter_zip hz ?_
  obtain ⟨o1, e1, c1⟩ := id hi1
  obtain ⟨o2, e2, c2⟩ := id hi2
  have W := (WalksT.zip2 (prog := prog) (w := w) hh _ _ _ _ _ _ _ D vs.toArray ws.toArray).toU
  have ez : ∃ o, h'.get? (h.objs.size + 4) = some o := ⟨_, hz⟩
  have e3 : ∃ o, h'.get? (h.objs.size + 2) = some o := ⟨_, hTI⟩
  have e4 : ∃ o, h'.get? (h.objs.size + 3) = some o := ⟨_, hTO⟩
  obtain ⟨oz, ez⟩ := ez
  obtain ⟨o3, e3⟩ := e3
  obtain ⟨o4, e4⟩ := e4
  have T' := (T.grow (nw := [(h.objs.size + 4, oz), (h.objs.size + 2, o3), (h.objs.size + 3, o4), (h.objs.size, o1), (h.objs.size + 1, o2)]) (h' := h') hk (by
    intro p hp
    simp only [List.mem_cons, List.not_mem_nil, or_false] at hp
    rcases hp with rfl | rfl | rfl | rfl | rfl
    · exact ⟨ez, Nat.le_add_right _ _⟩
    · exact ⟨e3, Nat.le_add_right _ _⟩
    · exact ⟨e4, Nat.le_add_right _ _⟩
    · exact ⟨e1, Nat.le_refl _⟩
    · exact ⟨e2, Nat.le_add_right _ _⟩) (by
    generalize h.objs.size = z
    simp only [List.map_cons, List.map_nil, List.nodup_cons, List.mem_cons, List.not_mem_nil, or_false, not_or]
    refine ⟨⟨?_, ?_, ?_, ?_⟩, ⟨?_, ?_, ?_⟩, ⟨?_, ?_⟩, ?_, ?_, List.nodup_nil⟩ <;> first | (show ¬ (_ : Nat) = _; omega) | simp)).perm (perm_in hp)
  have K := kturns_to (n' := min vs.length ws.length) (P' := fun i v hh => ∃ T x y, v = .ref T ∧ vs[i]? = some x ∧ ws[i]? = some y ∧ hh.IsTuple T #[x, y]) (KTurns.ofWalksU (elts := elts) (k := x1) (pos := px) W) (by simp)
    (by rintro i v hh ⟨T, vals, rfl, ⟨x, y, hx, hy, rfl⟩, hT⟩; exact ⟨T, x, y, rfl, by simpa using hx, by simpa using hy, hT⟩)
  refine k _ _ _ _ ⟨_, _, _, _, K, ?_, ?_, ?_, ?_, ?_⟩ T'
  · intro c hc
    have hc' : c = h.objs.size + 4 ∨ c = h.objs.size + 3 ∨ c = h.objs.size ∨ c = h.objs.size + 1 := by simpa using hc
    rcases hc' with rfl | rfl | rfl | rfl <;> simp
  · intro c hc
    have hc' : c = h.objs.size + 4 ∨ c = h.objs.size + 2 ∨ c = h.objs.size + 3 ∨ c = h.objs.size ∨ c = h.objs.size + 1 ∨ c = a ∨ c = b := by simpa using hc
    rcases hc' with rfl | rfl | rfl | rfl | rfl | rfl | rfl
    · exact .inl (by simp)
    · exact .inl (by simp)
    · exact .inl (by simp)
    · exact .inl (by simp)
    · exact .inl (by simp)
    · exact .inr ha
    · exact .inr hb
  · rintro i h' ⟨hz, hTI, ⟨_, _, hTO⟩, ⟨_, i1, _⟩, ⟨_, i2, _⟩, _⟩ c hc
    have hc' : c = h.objs.size + 4 ∨ c = h.objs.size + 2 ∨ c = h.objs.size + 3 ∨ c = h.objs.size ∨ c = h.objs.size + 1 := by simpa using hc
    rcases hc' with rfl | rfl | rfl | rfl | rfl
    · exact ⟨_, hz⟩
    · exact ⟨_, hTI⟩
    · exact ⟨_, hTO⟩
    · exact ⟨_, i1⟩
    · exact ⟨_, i2⟩
  · exact fun i s Q E st q => W.self i s Q E st q
  · exact ⟨hz, hTI, ⟨_, _, hTO⟩, hi1, hi2, hl.at fun o e => hk a o e, hl2.at fun o e => hk b o e⟩

-- assignments to a tuple of names
theorem s_assignTup {E : Value → Shared → Prop} {elts : List Expr} {x1 : Nat} {T : Addr} {items : Array Value} {Q : Unit → Shared → Prop} (hh : A.handled = none) (AT : At g env.locals m mu h) (ht : h.IsTuple T items)
    (hn : (assignEach elts env).length = items.size) (hstar : (assignEach elts env).findIdx? (·.1) = none)
    (k : ∀ h', At g env.locals m mu h' → wpAny (model prog w) A (assignInOrder ((assignEach elts env).map (·.2)) items.toList) Q E (Sh s h' t)) :
    wpAny (model prog w) A (assign (.Tuple elts x1 pos) env (.ref T)) Q E (Sh s h t) :=
  wpAny_assign_Tuple hh ht hn hstar fun h' hx => k h' (AT.ext fun b o e => hx b o (Nat.ne_of_lt (Heap.lt_size e)) e)
end
local macro_rules | `(tactic| walk_at "assign Tuple") => `(tactic| (refine s_assignTup (Room.hh (by assumption)) (by assumption) (by assumption) rfl rfl ?_; intro hA TA))
noncomputable def Tbl (g : Heap) (tb hl : Addr) : Prop := ∃ dx hsh tk n, g.get? tb = some (instObj 184 dx) ∧ g.get? dx = some (dictOf [⟨hsh, .str "_headers" tk, .ref hl⟩] n)
theorem Tbl.up {g h : Heap} {tb hl : Addr} (T : Tbl g tb hl) (x : Ext g h) : Tbl h tb hl := let ⟨a, b, c, d, e, f⟩ := T; ⟨a, b, c, d, x _ _ e, x _ _ f⟩
noncomputable def rowD (p : Str × Str) : PyData := .tuple [.str p.1, .str p.2]
section
variable {prog : Program} {w : World} {A : Around} {s : Shared} {g h : Heap} {t : Nat} {m : Loc} {env : Env} {own its tl mu : Led} {E : Value → Shared → Prop}
theorem kin_of (G : Gl w g) (T : At g env.locals m mu h) : (hd.heap_39 w.params).In (Sh s h t).heap := G.X.keeps T.keep
theorem kin_at {L : Addr} (G : Gl w g) (T : At g L m mu h) : (hd.heap_39 w.params).In h := G.X.keeps T.keep

theorem s_callK {pos : Pos} {f : Value} {first : List Value} {Q : Value → Shared → Prop} {e : Expr} {rest : List Expr} (G : Gl w g) (hk : keepIn (hd.heap_39 w.params) f = true)
    (k : wpAny (model prog w) A (spliced (backTo pos (starEach (e :: rest) env))) (fun vs s₁ => (hd.heap_39 w.params).In s₁.heap ∧ wpAny (model prog w) A (call f (first ++ vs)) Q E s₁) E (Sh s h t))
    (he : starEach (e :: rest) env = (false, eval e env) :: starEach rest env) (hplain : (backTo pos (starEach rest env)).any (·.1) = false) :
    wpAny (model prog w) A (callWith pos f first (backTo pos (starEach (e :: rest) env)) []) Q E (Sh s h t) := callWith_K G.X hk k he hplain
theorem s_callK0 {L : Addr} {pos : Pos} {f : Value} {first : List Value} {Q : Value → Shared → Prop} (G : Gl w g) (T : At g L m mu h) (hk : keepIn (hd.heap_39 w.params) f = true) (k : wpAny (model prog w) A (call f (first ++ [])) Q E (Sh s h t)) :
    wpAny (model prog w) A (callWith pos f first (backTo pos (starEach [] env)) []) Q E (Sh s h t) := callWith_K0 (G.X.keeps T.keep) hk k
theorem s_callKW {pos : Pos} {f : Value} {first : List Value} {Q : Value → Shared → Prop} {e : Expr} {rest : List Expr} {kws : List Keyword} (G : Gl w g) (hk : keepIn (hd.heap_39 w.params) f = true) (hall : (backToKw pos (keywordEach kws env)).all (·.1.isSome) = true)
    (k : wpAny (model prog w) A (spliced (backTo pos (starEach (e :: rest) env))) (fun vs s₁ => wpAny (model prog w) A (evalAll ((backToKw pos (keywordEach kws env)).map (·.2)))
      (fun ks s₂ => (hd.heap_39 w.params).In s₂.heap ∧ wpAny (model prog w) A (call f (first ++ vs) (((backToKw pos (keywordEach kws env)).filterMap (·.1)).zip ks)) Q E s₂) E s₁) E (Sh s h t))
    (hplain : ((backTo pos (starEach (e :: rest) env)).any (·.1) || (backToKw pos (keywordEach kws env)).any (·.1.isNone)) = false) (he : starEach (e :: rest) env = (false, eval e env) :: starEach rest env) :
    wpAny (model prog w) A (callWith pos f first (backTo pos (starEach (e :: rest) env)) (backToKw pos (keywordEach kws env))) Q E (Sh s h t) := callWith_KW G.X hk hall k hplain he

theorem Tbl.inst {tb hl : Addr} (T : Tbl g tb hl) (x : Ext g h) : ∃ dx hsh tk n, InstAt h tb (instObj 184 dx) 184 (some (dictOf [⟨hsh, .str "_headers" tk, .ref hl⟩] n)) := by
  obtain ⟨dx, hsh, tk, n, a, b⟩ := T
  exact ⟨dx, hsh, tk, n, x _ _ a, rfl, rfl, x _ _ b⟩
theorem s_tblMethod {L tb hl f : Addr} {name : Str} {pl : Sem Bool} {Q : Value × List Value → Shared → Prop} (G : Gl w g) (T : At g L m mu h) (hT : Tbl g tb hl)
    (hga : findIn (hd.heap_39 w.params) (.ref 184) "__getattribute__" = some (some (.builtin "object.__getattribute__"))) (hk : findIn (hd.heap_39 w.params) (.ref 184) "__getattr__" = some none)
    (hf : findIn (hd.heap_39 w.params) (.ref 184) name = some (some (.ref f))) (ht : typeIn (hd.heap_39 w.params) (.ref f) = some (.type "function")) (hn : (Str.ofString "_headers" == name) = false) (q : Q (.ref f, [.ref tb]) (Sh s h t)) :
    wpAny (model prog w) A (getMethod (.ref tb) name pl) Q E (Sh s h t) := by
  obtain ⟨dx, hsh, tk, n, I⟩ := hT.inst T.keep
  refine method_fn (G.X.keeps T.keep) I hga hk hf ht ?_ q
  simp only [shadowIn, lookIn]
  simp [Value.isStr, hn, DictEntry.refKey]
theorem s_tblAttr {L tb hl : Addr} {ex : Bool} {Q : Value → Shared → Prop} (G : Gl w g) (T : At g L m mu h) (hT : Tbl g tb hl)
    (hga : findIn (hd.heap_39 w.params) (.ref 184) "__getattribute__" = some (some (.builtin "object.__getattribute__"))) (hh : hasDictIn (hd.heap_39 w.params) 184 = true)
    (ha : findIn (hd.heap_39 w.params) (.ref 184) "_headers" = some none) (q : Q (.ref hl) (Sh s h (t + 1))) :
    wpAny (model prog w) A (getAttr (.ref tb) "_headers" ex) Q E (Sh s h t) := by
  obtain ⟨dx, hsh, tk, n, I⟩ := hT.inst T.keep
  exact get_value (G.X.keeps T.keep) I hga (findObj_own hh ha rfl (by simp only [lookIn]; simp [Value.isStr])) rfl q
end
local macro_rules | `(tactic| walk_at "entered") => `(tactic| ((case ho => k_is); (case hcd => k_is); (case hbind => first | exact BindsTo.of_eq rfl | exact binds_K (Frag.In.keeps (Gl.X (by assumption)) (Mem.keep (by assumption))) rfl (by k_is) rfl rfl rfl); (case hloc => exact locs rfl); (case hcell => decide); (case hco => exact rfl); (case hgen => exact rfl); (case hk => exact rfl)))
local macro_rules | `(tactic| walk_at "And") => `(tactic| ((with_reducible show Frag.In _ _ ∧ _); refine ⟨kin_at (by assumption) (by assumption), ?_⟩; try dsimp only [List.nil_append, List.cons_append]))
local macro_rules | `(tactic| walk_at "eval Call Attribute") => `(tactic| ((with_reducible show wpAny _ _ (eval (Expr.Call (Expr.Attribute _ _ _) _ (_ :: _) _) _) _ _ _); refine methodCall_KW ?_))
local macro_rules | `(tactic| walk_at "evalAll") => `(tactic| (first | refine kwAll_cons ?_ | refine kwAll_nil ?_))
local macro_rules | `(tactic| walk_at "callWith ref") => `(tactic| (first
  | (refine' s_callK ?G ?hk ?_ ?he ?hp; (case G => assumption); (case hk => k_is); (case he => exact rfl); (case hp => exact rfl))
  | (refine' s_callK0 ?G ?T ?hk ?_; (case G => assumption); (case T => assumption); (case hk => k_is))
  | (refine' s_callKW ?G ?hk ?ha ?_ ?hp ?he; (case G => assumption); (case hk => k_is); (case ha => exact rfl); (case hp => exact rfl); (case he => exact rfl))))
local macro_rules | `(tactic| walk_at "getMethod ref") => `(tactic| (refine' s_tblMethod ?G ?T ?hT ?h1 ?h2 ?h3 ?h4 ?h5 ?_; (case G => assumption); (case T => assumption); (case hT => assumption); (case h1 => k_is); (case h2 => k_is); (case h3 => k_is); (case h4 => k_is); (case h5 => decide)))
local macro_rules | `(tactic| walk_at "getAttr ref") => `(tactic| (refine' s_tblAttr ?G ?T ?hT ?h1 ?h2 ?h3 ?_; (case G => assumption); (case T => assumption); (case hT => assumption); (case h1 => k_is); (case h2 => k_is); (case h3 => k_is)))
section
variable {prog : Program} {w : World} {A : Around} {s : Shared} {g h : Heap} {t : Nat} {m : Loc} {env : Env} {own its tl mu : Led} {E : Value → Shared → Prop}
theorem s_lower {x : Str} {tx : Tok} {Q : Value → Shared → Prop} (hx : x.length ≤ 1000) (q : Q (.str (Txt.lower x) t) (Sh s h (t + 1))) : wpAny (model prog w) A (call (.builtin "str.lower") [.str x tx]) Q E (Sh s h t) :=
  SCL.lower (by omega) fun _ => q
theorem s_upper {x : Str} {tx : Tok} {Q : Value → Shared → Prop} (hx : x.length ≤ 1000) (q : Q (.str (Txt.upper x) t) (Sh s h (t + 1))) : wpAny (model prog w) A (call (.builtin "str.upper") [.str x tx]) Q E (Sh s h t) :=
  SCL.upper (by omega) fun _ => q
end
theorem isTuple_up {g h : Heap} {a : Addr} {vs : Array Value} (x : Ext g h) (i : g.IsTuple a vs) : h.IsTuple a vs := let ⟨o, e, r⟩ := i; ⟨o, x _ _ e, r⟩
theorem isList_up {g h : Heap} {a : Addr} {vs : Array Value} (x : Ext g h) (i : g.IsList a vs) : h.IsList a vs := let ⟨o, e, r⟩ := i; ⟨o, x _ _ e, r⟩
theorem RdA.nilE {h : Heap} {vs : List Value} (q : RdA h vs []) : vs = [] := by obtain ⟨_, q⟩ := q; cases q; rfl
theorem RdA.consE {h : Heap} {vs : List Value} {d : PyData} {ds : List PyData} (q : RdA h vs (d :: ds)) : ∃ v us, vs = v :: us ∧ Rd h v d ∧ RdA h us ds := by
  obtain ⟨_, q⟩ := q; cases q with | cons x y => exact ⟨_, _, rfl, ⟨_, x⟩, ⟨_, y⟩⟩
theorem Rd.row {h : Heap} {v : Value} {p : Str × Str} (r : Rd h v (rowD p)) : ∃ T ta tb, v = .ref T ∧ h.IsTuple T #[.str p.1 ta, .str p.2 tb] := by
  obtain ⟨T, us, rfl, hT, q⟩ := r.tupE
  obtain ⟨a, us, rfl, ra, q⟩ := q.consE
  obtain ⟨b, us, rfl, rb, q⟩ := q.consE
  obtain rfl := q.nilE
  obtain ⟨ta, rfl⟩ := ra.strE
  obtain ⟨tb, rfl⟩ := rb.strE
  exact ⟨T, ta, tb, rfl, hT⟩
local macro_rules | `(tactic| walk_at "eval Name") => `(tactic| (with_unfolding_all refine r_local (by assumption) (by assumption) ?_))
local macro_rules | `(tactic| walk_at "eval Name") => `(tactic| (with_unfolding_all refine r_local (by assumption) rfl ?_))
local macro_rules | `(tactic| walk_at "call builtin:str.lower") => `(tactic| (refine s_lower (by assumption) ?_))
local macro_rules | `(tactic| walk_at "call builtin:str.upper") => `(tactic| (refine s_upper (by assumption) ?_))
structure ForObl (prog : Program) (w : World) (A : Around) (env : Env) (target : Expr) (body orelse : List Stmt) (s : Shared) (Q : Flow → Shared → Prop) (own tl : Led) (g : Heap) (m : Loc) (n : Nat) (P : Nat → Value → Heap → Prop)
    (J : Nat → Heap → Loc → Led → Prop) (brk : Heap → Loc → Led → Prop) (ret : Value → Heap → Loc → Led → Prop) : Prop where
  h0 : J 0 g m own
  turn : ∀ i v g₁ m₁ own₁ tl₁ h₁ t₁, i < n → (∀ p ∈ tl, p ∈ tl₁) → Ext g g₁ → P i v h₁ → J i g₁ m₁ own₁ → At g₁ env.locals m₁ (own₁ ++ tl₁) h₁ → ∀ Post : Flow → Shared → Prop, (∀ fl s', LP s g₁ env.locals tl₁ (J (i + 1)) brk ret fl s' → Post fl s') →
      wpAny (model prog w) A (assign target env v) (fun _ s₂ => wpAny (model prog w) A (execs body env) Post (fun _ _ => False) s₂) (fun _ _ => False) (Sh s h₁ t₁)
  done : ∀ g₁ m₁ own₁ h₁ t₁, Ext g g₁ → J n g₁ m₁ own₁ → At g₁ env.locals m₁ (own₁ ++ tl) h₁ → wpAny (model prog w) A (execs orelse env) Q (fun _ _ => False) (Sh s h₁ t₁)
  brk : ∀ g₁ m₁ own₁ h₁ t₁, Ext g g₁ → brk g₁ m₁ own₁ → At g₁ env.locals m₁ (own₁ ++ tl) h₁ → Q .next (Sh s h₁ t₁)
  ret : ∀ v g₁ m₁ own₁ h₁ t₁, Ext g g₁ → ret v g₁ m₁ own₁ → At g₁ env.locals m₁ (own₁ ++ tl) h₁ → Q (.ret v) (Sh s h₁ t₁)
theorem ForObl.turn' {prog : Program} {w : World} {A : Around} {env : Env} {target : Expr} {body orelse : List Stmt} {s : Shared} {Q : Flow → Shared → Prop} {own tl : Led} {g : Heap} {m : Loc} {n : Nat} {P : Nat → Value → Heap → Prop}
    {J : Nat → Heap → Loc → Led → Prop} {brk : Heap → Loc → Led → Prop} {ret : Value → Heap → Loc → Led → Prop} (ob : ForObl prog w A env target body orelse s Q own tl g m n P J brk ret) : ∀ i v g₁ m₁ own₁ tl₁ h₁ t₁, i < n → (∀ p ∈ tl, p ∈ tl₁) → Ext g g₁ → P i v h₁ → J i g₁ m₁ own₁ → At g₁ env.locals m₁ (own₁ ++ tl₁) h₁ →
      wpAny (model prog w) A (assign target env v) (fun _ s₂ => wpAny (model prog w) A (execs body env) (LP s g₁ env.locals tl₁ (J (i + 1)) brk ret) (fun _ _ => False) s₂) (fun _ _ => False) (Sh s h₁ t₁) :=
  fun i v g₁ m₁ own₁ tl₁ h₁ t₁ hi hs x hP hJ T => ob.turn i v g₁ m₁ own₁ tl₁ h₁ t₁ hi hs x hP hJ T _ fun _ _ q => q
structure CompObl (prog : Program) (w : World) (A : Around) (env : Env) (target elt : Expr) (ifs : List Expr) (scope : Scope) (cl : List (Str × Addr)) (s : Shared) (Fin : Heap → Addr → Loc → Led → List Value → Nat → Heap → Nat → Prop) (own tl : Led) (g : Heap) (m : Loc) (n : Nat) (P : Nat → Value → Heap → Prop)
    (J : Nat → Heap → Led → List Value → Prop) : Prop where
  h0 : J 0 g own []
  sz : n ≤ sizeLine
  turn : ∀ C i v g₁ m₁ own₁ tl₁ h₁ t₁ ys, i < n → (∀ p ∈ tl, p ∈ tl₁) → Ext g g₁ → P i v h₁ → J i g₁ own₁ ys → At g₁ C m₁ (own₁ ++ tl₁) h₁ → ∀ Post : List Value → Shared → Prop, (∀ ys s', CP s g₁ C tl₁ (J (i + 1)) ys s' → Post ys s') →
      wpAny (model prog w) A (assign target (compEnvC scope cl C env) v) (fun _ s₂ => Tests prog w A ifs (compEnvC scope cl C env) (fun ok s₃ => if ok = true then wpAny (model prog w) A (eval elt (compEnvC scope cl C env)) (fun y s₄ => Post (ys ++ [y]) s₄) (fun _ _ => False) s₃
        else Post ys s₃) s₂) (fun _ _ => False) (Sh s h₁ t₁)
  done : ∀ g₁ own₁ h₁ t₁ D ys e, Ext g g₁ → J n g₁ own₁ ys → At g₁ env.locals m ((D, lst ys e) :: (own₁ ++ tl)) h₁ → Fin g₁ D m (own₁ ++ tl) ys e h₁ t₁
theorem CompObl.turn' {prog : Program} {w : World} {A : Around} {env : Env} {target elt : Expr} {ifs : List Expr} {scope : Scope} {cl : List (Str × Addr)} {s : Shared} {Fin : Heap → Addr → Loc → Led → List Value → Nat → Heap → Nat → Prop} {own tl : Led} {g : Heap} {m : Loc} {n : Nat} {P : Nat → Value → Heap → Prop}
    {J : Nat → Heap → Led → List Value → Prop} (ob : CompObl prog w A env target elt ifs scope cl s Fin own tl g m n P J) : ∀ C i v g₁ m₁ own₁ tl₁ h₁ t₁ ys, i < n → (∀ p ∈ tl, p ∈ tl₁) → Ext g g₁ → P i v h₁ → J i g₁ own₁ ys → At g₁ C m₁ (own₁ ++ tl₁) h₁ →
      wpAny (model prog w) A (assign target (compEnvC scope cl C env) v) (fun _ s₂ => Tests prog w A ifs (compEnvC scope cl C env) (fun ok s₃ => if ok = true then wpAny (model prog w) A (eval elt (compEnvC scope cl C env)) (fun y s₄ => CP s g₁ C tl₁ (J (i + 1)) (ys ++ [y]) s₄) (fun _ _ => False) s₃
        else CP s g₁ C tl₁ (J (i + 1)) ys s₃) s₂) (fun _ _ => False) (Sh s h₁ t₁) :=
  fun C i v g₁ m₁ own₁ tl₁ h₁ t₁ ys hi hs x hP hJ T => ob.turn C i v g₁ m₁ own₁ tl₁ h₁ t₁ ys hi hs x hP hJ T _ fun _ _ q => q
section
variable {prog : Program} {w : World} {A : Around} {s : Shared} {g h : Heap} {t : Nat} {m : Loc} {env : Env} {mu : Led} {target elt : Expr} {a b : Addr} {body orelse : List Stmt} {E : Value → Shared → Prop} {Q : Flow → Shared → Prop} {ifs : List Expr} {scope : Scope} {cl : List (Str × Addr)}
  {Fin : Heap → Addr → Loc → Led → List Value → Nat → Heap → Nat → Prop}
theorem for_list {x : Str} {px : Pos} {vs : List Value} (own tl : Led) (J : Nat → Heap → Loc → Led → Prop) (brk : Heap → Loc → Led → Prop) (ret : Value → Heap → Loc → Led → Prop) (hh : A.handled = none) (T : At g env.locals m mu h) (hp : (own ++ tl).Perm mu) (hl : h.IsList a vs.toArray)
    (ha : (∃ o, g.get? a = some o) ∨ a ∈ tl.map (·.1)) (ob : ForObl prog w A env (.Name x px) body orelse s Q own tl g m vs.length (fun i v _ => vs[i]? = some v) J brk ret) :
    wpAny (model prog w) A (pyIter (.ref a)) (fun it s₂ => ForAt prog w A env (.Name x px) body orelse s Q it s₂) E (Sh s h t) :=
  src_list own tl hh T hp hl ha (fun _ _ _ _ _ _ _ q => go_name _ _ _ _ _ q) fun I its h' t' S T' => ⟨I, own, its, tl, g, h', t', m, vs.length, _, J, brk, ret, rfl, rfl, S, T', ob.h0, ob.turn', ob.done, ob.brk, ob.ret⟩
theorem for_listT {elts : List Expr} {x1 : Nat} {px : Pos} {vs : List Value} (own tl : Led) (J : Nat → Heap → Loc → Led → Prop) (brk : Heap → Loc → Led → Prop) (ret : Value → Heap → Loc → Led → Prop) (hh : A.handled = none) (T : At g env.locals m mu h) (hp : (own ++ tl).Perm mu) (hl : h.IsList a vs.toArray)
    (ha : (∃ o, g.get? a = some o) ∨ a ∈ tl.map (·.1)) (ob : ForObl prog w A env (.Tuple elts x1 px) body orelse s Q own tl g m vs.length (fun i v _ => vs[i]? = some v) J brk ret) :
    wpAny (model prog w) A (pyIter (.ref a)) (fun it s₂ => ForAt prog w A env (.Tuple elts x1 px) body orelse s Q it s₂) E (Sh s h t) :=
  src_list own tl hh T hp hl ha (fun I i v _ _ _ e q => go_tuple I _ i v _ _ _ e q) fun I its h' t' S T' => ⟨I, own, its, tl, g, h', t', m, vs.length, _, J, brk, ret, rfl, rfl, S, T', ob.h0, ob.turn', ob.done, ob.brk, ob.ret⟩
theorem for_range {x : Str} {px : Pos} {lo hi : Int} {t1 t2 t3 : Tok} (own tl : Led) (n : Nat) (J : Nat → Heap → Loc → Led → Prop) (brk : Heap → Loc → Led → Prop) (ret : Value → Heap → Loc → Led → Prop) (hh : A.handled = none) (T : At g env.locals m mu h) (hp : (own ++ tl).Perm mu) (hr : IsRange h a lo hi 1 t1 t2 t3)
    (h1 : -(2 ^ 62) ≤ lo) (h2 : hi < 2 ^ 62) (h3 : hi = lo + n) (ob : ForObl prog w A env (.Name x px) body orelse s Q own tl g m n (fun i v _ => ∃ t, v = .int (lo + (i : Int)) t) J brk ret) :
    wpAny (model prog w) A (pyIter (.ref a)) (fun it s₂ => ForAt prog w A env (.Name x px) body orelse s Q it s₂) E (Sh s h t) :=
  src_range own tl hh T hp hr n h1 h2 h3 fun I its h' t' S T' => ⟨I, own, its, tl, g, h', t', m, n, _, J, brk, ret, rfl, rfl, S, T', ob.h0, ob.turn', ob.done, ob.brk, ob.ret⟩
theorem comp_list {x : Str} {px : Pos} {vs : List Value} (own tl : Led) (J : Nat → Heap → Led → List Value → Prop) (hh : A.handled = none) (T : At g env.locals m mu h) (hp : (own ++ tl).Perm mu) (hl : h.IsList a vs.toArray)
    (ha : (∃ o, g.get? a = some o) ∨ a ∈ tl.map (·.1)) (ob : CompObl prog w A env (.Name x px) elt ifs scope cl s Fin own tl g m vs.length (fun i v _ => vs[i]? = some v) J) :
    wpAny (model prog w) A (pyIter (.ref a)) (fun it s₂ => CompAt prog w A env (.Name x px) elt ifs scope cl s Fin it s₂) E (Sh s h t) :=
  src_list own tl hh T hp hl ha (fun _ _ _ _ _ _ _ q => go_name _ _ _ _ _ q) fun I its h' t' S T' => ⟨I, own, its, tl, g, h', t', m, vs.length, _, J, rfl, rfl, S, T', ob.h0, ob.sz, ob.turn', ob.done⟩
theorem comp_listT {elts : List Expr} {x1 : Nat} {px : Pos} {vs : List Value} (own tl : Led) (J : Nat → Heap → Led → List Value → Prop) (hh : A.handled = none) (T : At g env.locals m mu h) (hp : (own ++ tl).Perm mu) (hl : h.IsList a vs.toArray)
    (ha : (∃ o, g.get? a = some o) ∨ a ∈ tl.map (·.1)) (ob : CompObl prog w A env (.Tuple elts x1 px) elt ifs scope cl s Fin own tl g m vs.length (fun i v _ => vs[i]? = some v) J) :
    wpAny (model prog w) A (pyIter (.ref a)) (fun it s₂ => CompAt prog w A env (.Tuple elts x1 px) elt ifs scope cl s Fin it s₂) E (Sh s h t) :=
  src_list own tl hh T hp hl ha (fun I i v _ _ _ e q => go_tuple I _ i v _ _ _ e q) fun I its h' t' S T' => ⟨I, own, its, tl, g, h', t', m, vs.length, _, J, rfl, rfl, S, T', ob.h0, ob.sz, ob.turn', ob.done⟩
theorem comp_tuple {x : Str} {px : Pos} {vs : List Value} (own tl : Led) (J : Nat → Heap → Led → List Value → Prop) (hh : A.handled = none) (T : At g env.locals m mu h) (hp : (own ++ tl).Perm mu) (hl : h.IsTuple a vs.toArray)
    (ha : (∃ o, g.get? a = some o) ∨ a ∈ tl.map (·.1)) (ob : CompObl prog w A env (.Name x px) elt ifs scope cl s Fin own tl g m vs.length (fun i v _ => vs[i]? = some v) J) :
    wpAny (model prog w) A (pyIter (.ref a)) (fun it s₂ => CompAt prog w A env (.Name x px) elt ifs scope cl s Fin it s₂) E (Sh s h t) :=
  src_tuple own tl hh T hp hl ha fun I its h' t' S T' => ⟨I, own, its, tl, g, h', t', m, vs.length, _, J, rfl, rfl, S, T', ob.h0, ob.sz, ob.turn', ob.done⟩
theorem comp_range {x : Str} {px : Pos} {lo hi : Int} {t1 t2 t3 : Tok} (own tl : Led) (n : Nat) (J : Nat → Heap → Led → List Value → Prop) (hh : A.handled = none) (T : At g env.locals m mu h) (hp : (own ++ tl).Perm mu) (hr : IsRange h a lo hi 1 t1 t2 t3)
    (h1 : -(2 ^ 62) ≤ lo) (h2 : hi < 2 ^ 62) (h3 : hi = lo + n) (ob : CompObl prog w A env (.Name x px) elt ifs scope cl s Fin own tl g m n (fun i v _ => ∃ t, v = .int (lo + (i : Int)) t) J) :
    wpAny (model prog w) A (pyIter (.ref a)) (fun it s₂ => CompAt prog w A env (.Name x px) elt ifs scope cl s Fin it s₂) E (Sh s h t) :=
  src_range own tl hh T hp hr n h1 h2 h3 fun I its h' t' S T' => ⟨I, own, its, tl, g, h', t', m, n, _, J, rfl, rfl, S, T', ob.h0, ob.sz, ob.turn', ob.done⟩
theorem comp_enum {elts : List Expr} {x1 : Nat} {px : Pos} {vs : List Value} (own tl : Led) (J : Nat → Heap → Led → List Value → Prop) (hh : A.handled = none) (T : At g env.locals m mu h) (hp : (own ++ tl).Perm mu) (hl : h.IsList a vs.toArray)
    (ha : (∃ o, g.get? a = some o) ∨ a ∈ tl.map (·.1)) (ob : CompObl prog w A env (.Tuple elts x1 px) elt ifs scope cl s Fin own tl g m vs.length (fun i v hh => ∃ T t x, v = .ref T ∧ vs[i]? = some x ∧ hh.IsTuple T #[.int i t, x]) J) :
    wpAny (model prog w) A (call (.type "enumerate") [.ref a]) (fun xv s₁ => wpAny (model prog w) A (pyIter xv) (fun it s₂ => CompAt prog w A env (.Tuple elts x1 px) elt ifs scope cl s Fin it s₂) E s₁) E (Sh s h t) :=
  src_enum own tl hh T hp hl ha fun I its h' t' S T' => ⟨I, own, its, tl, g, h', t', m, vs.length, _, J, rfl, rfl, S, T', ob.h0, ob.sz, ob.turn', ob.done⟩
theorem comp_zip {elts : List Expr} {x1 : Nat} {px : Pos} {vs ws : List Value} (own tl : Led) (J : Nat → Heap → Led → List Value → Prop) (hh : A.handled = none) (T : At g env.locals m mu h) (hp : (own ++ tl).Perm mu) (hl : h.IsList a vs.toArray)
    (ha : (∃ o, g.get? a = some o) ∨ a ∈ tl.map (·.1)) (hl2 : h.IsList b ws.toArray) (hb : (∃ o, g.get? b = some o) ∨ b ∈ tl.map (·.1))
    (ob : CompObl prog w A env (.Tuple elts x1 px) elt ifs scope cl s Fin own tl g m (min vs.length ws.length) (fun i v hh => ∃ T x y, v = .ref T ∧ vs[i]? = some x ∧ ws[i]? = some y ∧ hh.IsTuple T #[x, y]) J) :
    wpAny (model prog w) A (call (.type "zip") [.ref a, .ref b]) (fun xv s₁ => wpAny (model prog w) A (pyIter xv) (fun it s₂ => CompAt prog w A env (.Tuple elts x1 px) elt ifs scope cl s Fin it s₂) E s₁) E (Sh s h t) :=
  src_zip own tl hh T hp hl ha hl2 hb fun I its h' t' S T' => ⟨I, own, its, tl, g, h', t', m, _, _, J, rfl, rfl, S, T', ob.h0, ob.sz, ob.turn', ob.done⟩
theorem lp_next {g₀ : Heap} {L : Addr} {tl₁ own₂ : Led} {next brk : Heap → Loc → Led → Prop} {ret : Value → Heap → Loc → Led → Prop} (T : At g L m (own₂ ++ tl₁) h) (x : Ext g₀ g) (q : next g m own₂) : LP s g₀ L tl₁ next brk ret .next (Sh s h t) := ⟨g, m, own₂, h, t, rfl, x, T, q⟩
theorem lp_brk {g₀ : Heap} {L : Addr} {tl₁ own₂ : Led} {next brk : Heap → Loc → Led → Prop} {ret : Value → Heap → Loc → Led → Prop} (T : At g L m (own₂ ++ tl₁) h) (x : Ext g₀ g) (q : brk g m own₂) : LP s g₀ L tl₁ next brk ret .brk (Sh s h t) := ⟨g, m, own₂, h, t, rfl, x, T, q⟩
theorem lp_ret {g₀ : Heap} {L : Addr} {tl₁ own₂ : Led} {next brk : Heap → Loc → Led → Prop} {ret : Value → Heap → Loc → Led → Prop} {v : Value} (T : At g L m (own₂ ++ tl₁) h) (x : Ext g₀ g) (q : ret v g m own₂) : LP s g₀ L tl₁ next brk ret (.ret v) (Sh s h t) := ⟨g, m, own₂, h, t, rfl, x, T, q⟩
theorem cp_end {g₀ : Heap} {C : Addr} {tl₁ own₂ : Led} {J : Heap → Led → List Value → Prop} {ys : List Value} (T : At g C m (own₂ ++ tl₁) h) (x : Ext g₀ g) (q : J g own₂ ys) : CP s g₀ C tl₁ J ys (Sh s h t) := ⟨g, m, own₂, h, t, rfl, x, T, q⟩
theorem Mem.weak {g g₁ h : Heap} {mu : Led} (M : Mem g₁ mu h) (x : Ext g g₁) : Mem g mu h := by
  refine ⟨x.tr M.keep, fun p hp => ⟨(M.at_ p hp).1, ?_⟩, M.nd⟩
  cases e : g.get? p.1 with
  | none => rfl
  | some o => have := x _ _ e; rw [(M.at_ p hp).2] at this; cases this
theorem At.weak {g g₁ h : Heap} {mu : Led} {L : Addr} {m : Loc} (T : At g₁ L m mu h) (x : Ext g g₁) : At g L m mu h := let ⟨oL, n, M⟩ := T; ⟨oL, n, M.weak x⟩
end
noncomputable abbrev tup (vs : List Value) : Obj := { cls := .type "tuple", data := .seq vs.toArray }
section
variable {prog : Program} {w : World} {A : Around} {s : Shared} {g h : Heap} {t : Nat} {m : Loc} {env : Env} {mu tl : Led} {a b D L : Addr} {E : Value → Shared → Prop} {Q : Value → Shared → Prop}
theorem s_newTupleM {vs : List Value} (T : At g L m mu h) (hsz : vs.length ≤ sizeLine) (k : ∀ a h', At g L m ((a, tup vs) :: mu) h' → Q (.ref a) (Sh s h' t)) : wpAny (model prog w) A (newTuple vs) Q E (Sh s h t) :=
  wpAny_newTuple (k _ _ (T.push _ rfl)) hsz
theorem s_newListM {vs : List Value} (T : At g L m mu h) (hsz : vs.length ≤ sizeLine) (k : ∀ a h', At g L m ((a, lst vs 0) :: mu) h' → Q (.ref a) (Sh s h' t)) : wpAny (model prog w) A (newList vs) Q E (Sh s h t) :=
  wpAny_newList (k _ _ (T.push _ rfl)) hsz
theorem s_listMethod {name : Str} {id : String} {pl : Sem Bool} {vs : List Value} {e : Nat} {Q : Value × List Value → Shared → Prop} (T : At g L m mu h) (hm : (D, lst vs e) ∈ mu) (slot : Slot "list" name id) (hty : typeOf (.builtin id) = pure (.type "method_descriptor"))
    (k : Q (.builtin id, [.ref D]) (Sh s h t)) : wpAny (model prog w) A (getMethod (.ref D) name pl) Q E (Sh s h t) :=
  have e := T.get hm
  getMethod_builtin ⟨_, e, rfl⟩ PySem.F.plainAttrs_list slot hty (fun a q => by cases q; exact ⟨_, e, rfl⟩) k
theorem s_append0 {vs : List Value} {e : Nat} {y : Value} (T : At g L m ((D, lst vs e) :: tl) h) (hsz : vs.length ≤ sizeLine) (k : ∀ e' h' t', At g L m ((D, lst (vs ++ [y]) e') :: tl) h' → Q .none (Sh s h' t')) :
    wpAny (model prog w) A (call (.builtin "list.append") [.ref D, y]) Q E (Sh s h t) := s_appendD (pre := []) T hsz k
theorem s_append1 {vs : List Value} {e : Nat} {y : Value} {p : Addr × Obj} (T : At g L m (p :: (D, lst vs e) :: tl) h) (hsz : vs.length ≤ sizeLine) (k : ∀ e' h' t', At g L m (p :: (D, lst (vs ++ [y]) e') :: tl) h' → Q .none (Sh s h' t')) :
    wpAny (model prog w) A (call (.builtin "list.append") [.ref D, y]) Q E (Sh s h t) := s_appendD (pre := [p]) T hsz k
theorem s_append2 {vs : List Value} {e : Nat} {y : Value} {p q : Addr × Obj} (T : At g L m (p :: q :: (D, lst vs e) :: tl) h) (hsz : vs.length ≤ sizeLine) (k : ∀ e' h' t', At g L m (p :: q :: (D, lst (vs ++ [y]) e') :: tl) h' → Q .none (Sh s h' t')) :
    wpAny (model prog w) A (call (.builtin "list.append") [.ref D, y]) Q E (Sh s h t) := s_appendD (pre := [p, q]) T hsz k
theorem s_append3 {vs : List Value} {e : Nat} {y : Value} {p q r : Addr × Obj} (T : At g L m (p :: q :: r :: (D, lst vs e) :: tl) h) (hsz : vs.length ≤ sizeLine) (k : ∀ e' h' t', At g L m (p :: q :: r :: (D, lst (vs ++ [y]) e') :: tl) h' → Q .none (Sh s h' t')) :
    wpAny (model prog w) A (call (.builtin "list.append") [.ref D, y]) Q E (Sh s h t) := s_appendD (pre := [p, q, r]) T hsz k
theorem szL {vs : List Value} {n : Nat} (h : vs.length ≤ n) (hn : n ≤ 1000000) : vs.length ≤ sizeLine := Nat.le_trans h (Nat.le_trans hn (by decide))
end
local macro_rules | `(tactic| walk_at "mem") => `(tactic| first | assumption | exact List.Mem.head _ | (refine List.Mem.tail _ ?_; walk_at "mem") | (refine List.mem_append_right _ ?_; walk_at "mem"))
local macro_rules | `(tactic| walk_at "size") => `(tactic| first | decide | (refine szL (n := 1000) ?_ (by decide); first | assumption | omega | (simp only [List.length_append, List.length_cons, List.length_nil]; omega)) | assumption)
local macro_rules | `(tactic| walk_at "eval Tuple") => `(tactic| (refine Tuple_ ?_))
local macro_rules | `(tactic| walk_at "eval List") => `(tactic| (refine List_ ?_))
local macro_rules | `(tactic| walk_at "newTuple") => `(tactic| (refine' s_newTupleM ?T ?z ?_; (case T => assumption); (case z => walk_at "size"); intro aN hN TN))
local macro_rules | `(tactic| walk_at "newList") => `(tactic| (refine' s_newListM ?T ?z ?_; (case T => assumption); (case z => walk_at "size"); intro aN hN TN))
local macro_rules | `(tactic| walk_at "getMethod ref") => `(tactic| ((with_reducible show wpAny _ _ (getMethod (Value.ref _) (PySem.Str.ofString "append") _) _ _ _); (refine' s_listMethod ?T ?m PySem.F.slot_list_append PySem.F.type_list_append ?_; (case T => assumption); (case m => walk_at "mem"))))
local macro_rules | `(tactic| walk_at "call builtin:list.append") => `(tactic| (first
  | (refine' s_append0 ?T ?z ?_; (case T => assumption); (case z => walk_at "size"); intro eN hN tN TN)
  | (refine' s_append1 ?T ?z ?_; (case T => assumption); (case z => walk_at "size"); intro eN hN tN TN)
  | (refine' s_append2 ?T ?z ?_; (case T => assumption); (case z => walk_at "size"); intro eN hN tN TN)
  | (refine' s_append3 ?T ?z ?_; (case T => assumption); (case z => walk_at "size"); intro eN hN tN TN)))
theorem cells_cons {cm : Str → Option Value} {n : Str} {c : Addr} {cs : List (Str × Addr)} {cells : Led} (x : CellsAre cm ((n, c) :: cs) cells) : ∃ o rest, cells = (c, o) :: rest ∧ o.data = .cell (cm n) ∧ CellsAre cm cs rest := by
  cases x with | cons d y => exact ⟨_, _, rfl, d, y⟩
theorem cells_nil {cm : Str → Option Value} {cells : Led} (x : CellsAre cm [] cells) : cells = [] := by cases x; rfl
theorem cells_addrs {cm : Str → Option Value} {cs : List (Str × Addr)} {cells : Led} (x : CellsAre cm cs cells) : cells.map (·.1) = cs.map (·.2) := by
  induction x with
  | nil => rfl
  | cons d y ih => simp [ih]
theorem cells_mk {cm : Str → Option Value} {h : Heap} : ∀ {cs : List (Str × Addr)}, (∀ n c, (n, c) ∈ cs → h.IsCell c (cm n)) → ∃ cells, CellsAre cm cs cells ∧ ∀ p ∈ cells, h.get? p.1 = some p.2
  | [], _ => ⟨[], .nil, fun _ hp => nomatch hp⟩
  | (n, c) :: cs, hx => by
    obtain ⟨cells, X, N⟩ := cells_mk (cs := cs) fun n' c' hm => hx n' c' (List.mem_cons_of_mem _ hm)
    obtain ⟨o, ho, hd⟩ := hx n c List.mem_cons_self
    refine ⟨(c, o) :: cells, .cons hd X, fun p hp => ?_⟩
    rcases List.mem_cons.mp hp with rfl | hp
    · exact ho
    · exact N p hp
section
variable {prog : Program} {w : World} {A : Around} {E : Value → Shared → Prop} {s : Shared} {g h : Heap} {t : Nat} {mu tl : Led} {m : Loc} {env : Env} {c : Addr} {o : Obj}
theorem r_enterC {R : Result → Shared → Prop} {name qual : Str} {params : Arguments} {body : List Stmt} {scope : Scope} {dV kV doc pm cdv ct oc : Value} {an od : Option Addr} {osl : Array (Option Value)} {f : Addr} {args : Args} {binds : List (Str × Value)} {rn ru : Nat}
    (r : Room A (rn + 1) (ru + 3)) (G : Gl w g) (M : Mem g mu h) (ho : (hd.heap_39 w.params).lookup f = some ⟨oc, od, .func (fnOf name qual params body scope dV kV doc pm an cdv ct), osl⟩) (hcd : codeIn (hd.heap_39 w.params) cdv qual = true)
    (hbind : BindsTo (Sh s h t) (fnOf name qual params body scope dV kV doc pm an cdv ct) args binds)
    (hkind : (binds.all fun y => scope.names.lookup y.1 == some .local || scope.names.lookup y.1 == some .cell) = true) (hnd : ((cellsFrom 0 scope.names []).map (·.1)).Nodup)
    (k : ∀ A' L h' t' cells, Room A' rn ru → CellsAre (bindC (envOfC qual scope L f cdv).kindOf binds fun _ => none) (cellsFrom (L + 1) scope.names []) cells →
        At g L (bindL (envOfC qual scope L f cdv).kindOf binds fun _ => none) (cells ++ mu) h' → wpAny (model prog w) A' (execs body (envOfC qual scope L f cdv))
        (fun fl s' => R (.ok (.ret (match fl with | .ret v => v | _ => .none))) s') (fun _ _ => False) (Sh s h' t'))
    (hco : scope.isCoroutine = false) (hgen : scope.isGenerator = false) (hk : scope.kind = .function) :
    codeAny (model prog w) A (.call (.ref f) args) R (Sh s h t) := by
  have hroom : A.depth < recursionLimit := by have := r.hd; omega
  refine codeAny_call_function hroom ((G.X.keeps M.keep) _ _ ho) rfl hco hgen rfl (codeRec_of (G.X.keeps M.keep) hcd) (hbind _ _ _ _ ?_)
  refine wpAny_newFunctionEnv_cells hk (kindsX hkind _) fun env' he s' x => ?_
  subst he
  refine ⟨(G.lim.keeps M.keep).keeps x.toInCall.keep, codeAny_func ?_⟩
  obtain ⟨h₁, tk, rfl, _⟩ := x.done
  have hk₁ := x.toInCall.keep
  obtain ⟨cells, Y, N⟩ := cells_mk (h := h₁) fun n c hm => x.cell n c (lookup_of_mem_nodup (cellsFrom_names scope.names 0 (h.objs.size + 1) [] [] rfl ▸ hnd) hm)
  have ab : ∀ p ∈ cells, h.objs.size < p.1 := fun p hp => by
    have : p.1 ∈ (cellsFrom (h.objs.size + 1) scope.names []).map (·.2) := (cells_addrs Y) ▸ List.mem_map_of_mem hp
    obtain ⟨⟨n, c⟩, hm, e⟩ := List.mem_map.mp this
    have := x.above n c hm
    exact e ▸ this
  obtain ⟨o, e, n⟩ := LCg.ns_obj x.toInCall.ns
  have T : At g h.objs.size (bindL (envOfC qual scope h.objs.size f cdv).kindOf binds fun _ => none) (cells ++ mu) h₁ := ⟨o, n, ⟨M.keep.tr hk₁, fun p hp => ?_, ?_⟩⟩
  · exact wpAny_mono (k _ _ h₁ _ cells (r.deeper _) Y T) (fun _ _ x => x) fun _ _ x => x.elim
  · rcases List.mem_cons.mp hp with rfl | hp
    · exact ⟨e, M.fresh⟩
    · rcases List.mem_append.mp hp with hp | hp
      · refine ⟨N p hp, ?_⟩
        cases q : g.get? p.1 with
        | none => rfl
        | some o => exact absurd (Heap.lt_size (M.keep _ _ q)) (Nat.not_lt.mpr (Nat.le_of_lt (ab p hp)))
      · exact ⟨hk₁ _ _ (M.at_ p hp).1, (M.at_ p hp).2⟩
  · rw [List.map_cons, List.map_append]
    refine List.nodup_cons.mpr ⟨fun hm => ?_, List.nodup_append.mpr ⟨?_, M.nd, ?_⟩⟩
    · rcases List.mem_append.mp hm with hm | hm
      · obtain ⟨p, hp, e⟩ := List.mem_map.mp hm
        exact absurd (ab p hp) (e ▸ Nat.lt_irrefl _)
      · obtain ⟨p, hp, e⟩ := List.mem_map.mp hm
        exact absurd (M.lt hp) (e ▸ Nat.lt_irrefl _)
    · rw [(cells_addrs Y)]
      exact List.pairwise_map.mpr (x.apart.imp fun h => h)
    · rintro a ha b hb rfl
      obtain ⟨p, hp, rfl⟩ := List.mem_map.mp ha
      obtain ⟨q, hq, e⟩ := List.mem_map.mp hb
      have := M.lt hq
      rw [e] at this
      exact absurd this (Nat.not_lt.mpr (Nat.le_of_lt (ab p hp)))

theorem cell_up {g h : Heap} {v : Option Value} (x : Ext g h) (i : g.IsCell c v) : h.IsCell c v := i.keeps x
theorem r_cellG {x : Str} {pos : Pos} {v : Value} {Q : Value → Shared → Prop} {L : Addr} (T : At g L m mu h) (hc : env.cells.lookup x = some c) (hv : g.IsCell c (some v)) (k : Q v (Sh s h t))
    (hk : env.scope.kind = .function := by rfl) (hl : env.kindOf x = some .cell := by rfl) (hd : (x == ("__debug__" : Str)) = false := by decide) :
    wpAny (model prog w) A (eval (.Name x pos) env) Q E (Sh s h t) := wpAny_Name (wpAny_loadName_cell hk hl hc (hv.keeps T.keep) k) hd
theorem r_cellM {x : Str} {pos : Pos} {v : Value} {Q : Value → Shared → Prop} {L : Addr} (T : At g L m mu h) (hc : env.cells.lookup x = some c) (hm : (c, o) ∈ mu) (hv : o.data = .cell (some v)) (k : Q v (Sh s h t))
    (hk : env.scope.kind = .function := by rfl) (hl : env.kindOf x = some .cell := by rfl) (hd : (x == ("__debug__" : Str)) = false := by decide) :
    wpAny (model prog w) A (eval (.Name x pos) env) Q E (Sh s h t) := wpAny_Name (wpAny_loadName_cell hk hl hc ⟨o, T.get hm, hv⟩ k) hd
theorem r_storeC {x : Str} {v : Value} {v₀ : Option Value} {Q : Unit → Shared → Prop} {L : Addr} (T : At g L m mu h) (hp : mu.Perm ((c, o) :: tl)) (hc : env.cells.lookup x = some c) (hv : o.data = .cell v₀)
    (k : ∀ o' h', o'.data = .cell (some v) → At g L m ((c, o') :: tl) h' → Q () (Sh s h' t))
    (hk : env.scope.kind = .function := by rfl) (hl : env.kindOf x = some .cell := by rfl) : wpAny (model prog w) A (storeName env x v) Q E (Sh s h t) := by
  have T' := T.perm hp.symm
  refine wpAny_storeName_cell hk hl hc ⟨o, T'.get (List.Mem.head _), hv⟩ fun h' hc' hs => ?_
  obtain ⟨o', e', d'⟩ := hc'
  exact k o' h' d' (T'.set hs e')
theorem r_storeF {x : Str} {v : Value} {v₀ : Option Value} {Q : Unit → Shared → Prop} {L : Addr} (T : At g L m mu h) (hp : mu.Perm ((c, o) :: tl)) (hc : env.cells.lookup x = some c) (hv : o.data = .cell v₀)
    (k : ∀ g' h', Ext g g' → g'.IsCell c (some v) → At g' L m tl h' → Q () (Sh s h' t))
    (hk : env.scope.kind = .function := by rfl) (hl : env.kindOf x = some .cell := by rfl) : wpAny (model prog w) A (storeName env x v) Q E (Sh s h t) :=
  r_storeC T hp hc hv (fun o' h' d' T' => let ⟨g', x', T'', e'⟩ := T'.freeze; k g' h' x' ⟨o', e', d'⟩ T'') hk hl
end
local macro_rules | `(tactic| walk_at "eval Name") => `(tactic| (with_unfolding_all refine r_cellG (by assumption) rfl (by assumption) ?_))
noncomputable def compEnvK (scope : Scope) (cl : List (Str × Addr)) (C : Addr) (env : Env) : Env :=
  { scope := relabel scope env, locals := C, globals := env.globals, cells := cellsFrom (C + 1) scope.names cl, qual := env.qual, func := none, code := env.code, frame := env.frame, builtins := env.builtins }
noncomputable abbrev noCell : Obj := { cls := .type "cell", data := .cell none }
section
variable {prog : Program} {w : World} {A : Around} {s : Shared} {g h : Heap} {t : Nat} {m : Loc} {env cenv : Env} {own its tl : Led} {target : Expr} {I D : Addr} {n : Nat} {P : Nat → Value → Heap → Prop} {elt iter : Expr} {ifs : List Expr} {scope : Scope} {pos : Pos}

theorem newEnv_one {cl : List (Str × Addr)} {globals : Addr} {qual : Str} {outer : Env} {E : Value → Shared → Prop} {Q : Env → Shared → Prop} (hp : ∀ h, pushCells h scope.names = h.push noCell)
    (k : Q { scope := scope, locals := s.heap.objs.size, globals := globals, cells := cellsFrom (s.heap.objs.size + 1) scope.names cl, qual := qual, func := none, code := outer.code, frame := outer.frame, builtins := outer.builtins }
      { s with heap := (s.heap.push { cls := .type "dict", data := .dict #[] }).push noCell }) :
    wpAny (model prog w) A (newFunctionEnv scope globals cl [] qual none .none (some outer)) Q E s := by
  simp only [newFunctionEnv, Option.isSome_some, if_true]
  refine wpAny_bind (wpAny_alloc ?_)
  refine wpAny_bind (wpAny_layCells _ (fun name kind cells => by cases hkc : kind == NameKind.cell <;> simp [hkc]) _ _ _ _ ?_)
  rw [show ({ s with heap := s.heap.push { cls := .type "dict", data := .dict #[] } } : Shared).heap.objs.size = s.heap.objs.size + 1 from Heap.size_push ..]
  rw [List.forIn_nil]
  refine wpAny_bind (wpAny_pure (wpAny_pure ?_))
  rw [hp]
  exact k

inductive CompAtK (prog : Program) (w : World) (A : Around) (env : Env) (target elt : Expr) (ifs : List Expr) (scope : Scope) (cl : List (Str × Addr)) (s : Shared) (Fin : Heap → Addr → Loc → Led → List Value → Nat → Heap → Nat → Prop) (it : Value) (s₂ : Shared) : Prop
  | mk (I : Addr) (own its tl : Led) (g h : Heap) (t : Nat) (m : Loc) (n : Nat) (P : Nat → Value → Heap → Prop) (J : Nat → Heap → Led → List Value → Prop) :
    it = .ref I →
    s₂ = Sh s h t →
    Src prog w A target I its tl g h n P →
    At g env.locals m (own ++ (its ++ tl)) h →
    J 0 g own [] →
    n ≤ sizeLine →
    (∀ C o v₀ i v g₁ m₁ own₁ tl₁ h₁ t₁ ys, i < n → (∀ p ∈ tl, p ∈ tl₁) → Ext g g₁ → P i v h₁ → o.data = .cell v₀ → J i g₁ own₁ ys → At g₁ C m₁ ((C + 1, o) :: (own₁ ++ tl₁)) h₁ →
      wpAny (model prog w) A (assign target (compEnvK scope cl C env) v) (fun _ s₂ => Tests prog w A ifs (compEnvK scope cl C env) (fun ok s₃ => if ok = true then wpAny (model prog w) A (eval elt (compEnvK scope cl C env)) (fun y s₄ => CP s g₁ C tl₁ (fun g own ys => ∃ o v₀ own', own = (C + 1, o) :: own' ∧ o.data = .cell v₀ ∧ J (i + 1) g own' ys) (ys ++ [y]) s₄) (fun _ _ => False) s₃
        else CP s g₁ C tl₁ (fun g own ys => ∃ o v₀ own', own = (C + 1, o) :: own' ∧ o.data = .cell v₀ ∧ J (i + 1) g own' ys) ys s₃) s₂) (fun _ _ => False) (Sh s h₁ t₁)) →
    (∀ g₁ own₁ h₁ t₁ D ys e, Ext g g₁ → J n g₁ own₁ ys → At g₁ env.locals m ((D, lst ys e) :: (own₁ ++ tl)) h₁ → Fin g₁ D m (own₁ ++ tl) ys e h₁ t₁) →
    CompAtK prog w A env target elt ifs scope cl s Fin it s₂

theorem ns_empty (h : Heap) : (h.push ({ cls := .type "dict", data := .dict #[] } : Obj)).Ns h.objs.size (fun _ => none) := Heap.Ns.new h (.type "dict")

theorem comp_blockK {cl : List (Str × Addr)} {Fin : Heap → Addr → Loc → Led → List Value → Nat → Heap → Nat → Prop} {it : Value} {s₂ : Shared} {E : Value → Shared → Prop} {RR : Value → Addr → Result → Shared → Prop}
    (hpush : ∀ h, pushCells h scope.names = h.push noCell) (k : CompAtK prog w A env target elt ifs scope cl s Fin it s₂)
    (fin : ∀ g₁ C D m mu ys e h₁ t₁, (∀ h₂, Heap.SameBut C h₁ h₂ → Fin g₁ D m mu ys e h₂ t₁) → (∃ mc, h₁.Ns C mc) → At g₁ env.locals m ((D, lst ys e) :: mu) h₁ → (∃ oC, h₁.get? C = some oC ∧ C ≠ env.locals ∧ C ≠ D ∧ (∀ p ∈ mu, p.1 ≠ C) ∧ g₁.get? C = none) → RR (.ref D) C (.ok .next) (Sh s h₁ t₁)) :
    wpAny (model prog w) A (newList []) (fun acc s₃ => wpAny (model prog w) A (newFunctionEnv scope env.globals cl [] env.qual none .none (some env)) (fun cenv s₄ =>
      codeAny (model prog w) A (.compStart (.ListComp elt [⟨target, iter, ifs, 0⟩] scope pos) 0 it acc { cenv with scope := relabel scope env }) (RR acc cenv.locals) s₄) E s₃) E s₂ := by
  obtain ⟨I, own, its, tl, g, h, t, m, n, P, J, rfl, rfl, S, T, h0, hsz, turn, done⟩ := k
  refine wpAny_newObj_type (newEnv_one hpush ?_)
  dsimp only
  obtain ⟨oL, nL, M⟩ := T
  have M1 := M.push (lst [] 0) rfl
  generalize hH2 : h.push { cls := .type "list", dict := none, data := .seq ([] : List Value).toArray } = H2 at ⊢
  have eH : H2 = h.push (lst [] 0) := hH2.symm
  subst eH
  obtain ⟨oC, eC, nC⟩ := LCg.ns_obj (ns_empty (h.push (lst [] 0)))
  have M2 := M1.push { cls := .type "dict", data := .dict #[] } rfl
  have eoC : oC = { cls := .type "dict", data := .dict #[] } := by
    have := M2.get (List.Mem.head _)
    rw [eC] at this; exact Option.some.inj this
  have M3 := M2.push noCell rfl
  rw [show ((h.push (lst [] 0)).push ({ cls := .type "dict", data := .dict #[] } : Obj)).objs.size = (h.push (lst [] 0)).objs.size + 1 from Heap.size_push ..] at M3
  rw [← eoC] at M3 ⊢
  have up : ∀ b o, h.get? b = some o → (((h.push (lst [] 0)).push oC).push noCell).get? b = some o := fun b o e =>
    Heap.get?_push_of_some _ (Heap.get?_push_of_some _ (Heap.get?_push_of_some _ e))
  generalize hh1 : ((h.push (lst [] 0)).push oC).push noCell = h₁ at *
  have S' : Src prog w A target I its ((env.locals, oL) :: tl) g h₁ n P := S.more rfl (fun p hp => .tail _ hp) up
  generalize hCa : (h.push (lst [] 0)).objs.size = C at *
  generalize hDa : h.objs.size = D at *
  have T3 : At g C (fun _ => none) (((C + 1, noCell) :: own) ++ (its ++ ((D, lst [] 0) :: (env.locals, oL) :: tl))) h₁ := by
    refine ⟨oC, nC, M3.perm ?_⟩
    rw [List.cons_append]
    refine (List.Perm.swap ..).trans (List.Perm.cons _ ?_)
    refine List.Perm.cons _ ?_
    have p1 : (own ++ (its ++ ((D, lst [] 0) :: (env.locals, oL) :: tl))).Perm ((D, lst [] 0) :: (own ++ (its ++ ((env.locals, oL) :: tl)))) := by
      rw [← List.append_assoc, ← List.append_assoc]
      exact List.perm_middle
    refine p1.trans (List.Perm.cons _ ?_)
    rw [← List.append_assoc, ← List.append_assoc]
    exact List.perm_middle
  have loop : codeAny (model prog w) A (.compLoop (.ListComp elt [⟨target, iter, ifs, 0⟩] scope pos) 0 (.ref I) (.ref D) (compEnvK scope cl C env)) (RR (.ref D) C) (Sh s h₁ t) := by
    refine compLoop_rule (cenv := compEnvK scope cl C env) S' T3 (fun i g own ys => ∃ o v₀ own', own = (C + 1, o) :: own' ∧ o.data = .cell v₀ ∧ J i g own' ys) ⟨_, none, own, rfl, rfl, h0⟩ hsz (fun i v g₁ m₁ own₁ tl₁ h₁ t₁ ys hi hs x hP hJ T => ?_) fun g₁ m₁ own₁ h₂ t₂ ys e x hJ T4 => ?_
    · obtain ⟨o, v₀, own', rfl, ho, hJ⟩ := hJ
      exact turn C o v₀ i v g₁ m₁ own' tl₁ h₁ t₁ ys hi (fun p hp => hs p (.tail _ hp)) x hP ho hJ T
    · obtain ⟨o, v₀, own', rfl, ho, hJ⟩ := hJ
      obtain ⟨oC', nC', M4⟩ := T4
      have M5 : Mem g₁ ((C, oC') :: (env.locals, oL) :: (D, lst ys e) :: (own' ++ tl)) h₂ := by
        have M4' : Mem g₁ ((C, oC') :: (own' ++ ((D, lst ys e) :: (env.locals, oL) :: tl))) h₂ := M4.sub ((List.sublist_cons_self _ _).cons_cons _)
        refine M4'.perm (List.Perm.cons _ ?_)
        refine List.Perm.symm ?_
        have p1 : (own' ++ ((D, lst ys e) :: (env.locals, oL) :: tl)).Perm ((D, lst ys e) :: (own' ++ ((env.locals, oL) :: tl))) := List.perm_middle
        have p2 : (own' ++ ((env.locals, oL) :: tl)).Perm ((env.locals, oL) :: (own' ++ tl)) := List.perm_middle
        exact p1.trans ((p2.cons _).trans (.swap ..))
      refine fin g₁ C D m (own' ++ tl) ys e h₂ t₂ (fun h₃ hs₃ => done g₁ own' h₃ t₂ D ys e x hJ ⟨oL, nL, ?_⟩) ⟨_, nC'.ns (M5.get (.head _))⟩ ⟨oL, nL, M5.drop⟩ ⟨oC', M5.get (.head _), ?_, ?_, ?_, (M5.at_ _ (.head _)).2⟩
      · have ne : ∀ p ∈ ((env.locals, oL) :: (D, lst ys e) :: (own' ++ tl)), p.1 ≠ C := fun p hp => M5.ne hp
        refine ⟨fun b o eb => (hs₃.2 b fun q => ?_).trans (M5.keep b o eb), fun p hp => ⟨(hs₃.2 _ (ne p hp)).trans (M5.at_ p (.tail _ hp)).1, (M5.at_ p (.tail _ hp)).2⟩, M5.drop.nd⟩
        subst q
        have z := (M5.at_ _ (.head _)).2
        rw [show g₁.get? b = none from z] at eb; cases eb
      · exact fun q => M5.ne (q := (env.locals, oL)) (.head _) q.symm
      · exact fun q => M5.ne (q := (D, lst ys e)) (.tail _ (.head _)) q.symm
      · exact fun p hp => M5.ne (.tail _ (.tail _ hp))
  refine codeAny_compStart_list loop ?_
  obtain ⟨fp, wr, Md, St, W, hwr, hfp, hob, hself, st0⟩ := S'.ex
  exact hself 0 _ _ _ st0 loop

theorem s_ListCompK {cl : List (Str × Addr)} {Q : Value → Shared → Prop} {E : Value → Shared → Prop} {s₀ : Shared}
    (k : wpAny (model prog w) A (eval iter env) (fun xv s₁ => wpAny (model prog w) A (pyIter xv) (fun it s₂ => CompAtK prog w A env target elt ifs scope cl s (fun g₁ D m mu ys e h₁ t₁ => At g₁ env.locals m ((D, lst ys e) :: mu) h₁ → Q (.ref D) (Sh s h₁ t₁)) it s₂) E s₁) E s₀)
    (hclos : closureFor scope env = pure cl) (hpush : ∀ h, pushCells h scope.names = h.push noCell) (hkind : scope.kind = .function)
    (hnames : ∀ y ∈ scope.names, y.2 = .local → scope.names.lookup y.1 = some .local)
    (hs : ∀ x, foldedSetIterable iter env x = pure x := by intro _; rfl) :
    wpAny (model prog w) A (eval (.ListComp elt [⟨target, iter, ifs, 0⟩] scope pos) env) Q E s₀ := by
  rw [eval_ListComp]
  refine wpAny_comprehension_free (use := none) rfl hs hclos hkind hnames (wpAny_mono k (fun xv s₁ h₁ => wpAny_mono h₁ (fun it s₂ h₂ => ?_) fun _ _ e => e) fun _ _ e => e)
  refine comp_blockK (RR := fun acc C => compPost (model prog w) A E none Q acc C) hpush h₂ fun g₁ C D m mu ys e h₁ t₁ F nC T hC => ?_
  obtain ⟨mc, nC⟩ := nC
  obtain ⟨oC, eC, n1, n2, n3, gC⟩ := hC
  refine ⟨mc, nC, fun h₂ hs₂ => F h₂ hs₂ ?_⟩
  obtain ⟨oL, nL, M⟩ := T
  refine ⟨oL, nL, fun b o eb => (hs₂.2 b fun q => ?_).trans (M.keep b o eb), fun p hp => ⟨(hs₂.2 _ ?_).trans (M.at_ p hp).1, (M.at_ p hp).2⟩, M.nd⟩
  · subst q; rw [gC] at eb; cases eb
  · rcases List.mem_cons.mp hp with rfl | hp
    · exact fun q => n1 q.symm
    · rcases List.mem_cons.mp hp with rfl | hp
      · exact fun q => n2 q.symm
      · exact n3 p hp

theorem s_AssignCompK {cl : List (Str × Addr)} {Q : Flow → Shared → Prop} {E : Value → Shared → Prop} {s₀ : Shared} {y : Str} {py spos : Pos}
    (k : wpAny (model prog w) A (eval iter env) (fun xv s₁ => wpAny (model prog w) A (pyIter xv) (fun it s₂ => CompAtK prog w A env target elt ifs scope cl s
      (fun g₁ D m mu ys e h₁ t₁ => At g₁ env.locals m ((D, lst ys e) :: mu) h₁ → ∀ h₂ t₂, At g₁ env.locals (fun z => if z = y then some (.ref D) else m z) ((D, lst ys e) :: mu) h₂ → Q .next (Sh s h₂ t₂)) it s₂) E s₁) E s₀)
    (hsw : swapsWith (.ListComp elt [⟨target, iter, ifs, 0⟩] scope pos) (some (.Name y py)) spos.line env = pure true)
    (hclos : closureFor scope env = pure cl) (hpush : ∀ h, pushCells h scope.names = h.push noCell) (hkind : scope.kind = .function)
    (hnames : ∀ y ∈ scope.names, y.2 = .local → scope.names.lookup y.1 = some .local)
    (hy : env.kindOf y = some .local) (hke : env.scope.kind = .function)
    (hs : ∀ x, foldedSetIterable iter env x = pure x := by intro _; rfl) :
    wpAny (model prog w) A (exec (.Assign [.Name y py] (.ListComp elt [⟨target, iter, ifs, 0⟩] scope pos) spos) env) Q E s₀ := by
  rw [exec_Assign_Name_used _ _ _ _ hsw]
  refine wpAny_bind (wpAny_standAt (wpAny_bind ?_))
  show wpAny _ A (do let _ ← comprehension (.ListComp elt [⟨target, iter, ifs, 0⟩] scope pos) scope env _ (newList []) false (eval iter env) (some (assign (.Name y py) env))) _ _ _
  refine wpAny_bind (wpAny_mono (wpAny_comprehension_free (use := some (assign (.Name y py) env)) (Q := fun _ s' => Q .next s') rfl hs hclos hkind hnames
    (wpAny_mono k (fun xv s₁ h₁ => wpAny_mono h₁ (fun it s₂ h₂ => ?_) fun _ _ e => e) fun _ _ e => e)) (fun _ s' hq => wpAny_pure (wpAny_pure hq)) fun _ _ e => e)
  refine comp_blockK (RR := fun acc C => compPost (model prog w) A E (some (assign (.Name y py) env)) (fun _ s' => Q .next s') acc C) hpush h₂ fun g₁ C D m mu ys e h₁ t₁ F nC T hC => ?_
  obtain ⟨mc, nC⟩ := nC
  obtain ⟨oC, eC, n1, n2, n3, gC⟩ := hC
  show wpAny _ A (assign (.Name y py) env (.ref D)) _ _ _
  refine wpAny_assign_Name (wpAny_storeName_local hy T.ns (fun h₂ hn₂ hs₂ => ?_) (by rw [hke]; rfl))
  refine ⟨mc, nC.sameBut hs₂ n1, fun h₃ hs₃ => ?_⟩
  have T₂ : At g₁ env.locals (fun z => if z = y then some (.ref D) else m z) ((D, lst ys e) :: mu) h₂ := T.setL hn₂ hs₂
  have keepC : ∀ {mm : Loc} {ha hb : Heap}, At g₁ env.locals mm ((D, lst ys e) :: mu) ha → Heap.SameBut C ha hb → At g₁ env.locals mm ((D, lst ys e) :: mu) hb := by
    intro mm ha hb T hs
    obtain ⟨oL, nL, M⟩ := T
    refine ⟨oL, nL, fun b o eb => (hs.2 b fun q => ?_).trans (M.keep b o eb), fun p hp => ⟨(hs.2 _ ?_).trans (M.at_ p hp).1, (M.at_ p hp).2⟩, M.nd⟩
    · subst q; rw [gC] at eb; cases eb
    · rcases List.mem_cons.mp hp with rfl | hp
      · exact fun q => n1 q.symm
      · rcases List.mem_cons.mp hp with rfl | hp
        · exact fun q => n2 q.symm
        · exact n3 p hp
  exact F h₁ (Heap.SameBut.refl ..) T _ _ (keepC T₂ hs₃)
end
noncomputable abbrev CPD (s : Shared) (g₁ : Heap) (C D : Addr) (tl₁ : Led) (J : Heap → Led → List Value → Prop) (s' : Shared) : Prop := CPDM s g₁ C D tl₁ (fun g _ own ys => J g own ys) s'
noncomputable abbrev emitN (e : Expr) (d : Nat) (i2 : Expr) (I : Addr) (acc : Value) (cenv : Env) : Sem Fin := do
  let x ← eval i2 cenv
  standAt i2.pos
  let x ← foldedSetIterable i2 cenv x
  let it ← holding [x] (pyIter x)
  let _ ← runOwn (.compStart e (d + 1) it acc cenv) cenv
  again (.compLoop e d (.ref I) acc cenv)
section
variable {elt t1 t2 i1 i2 : Expr} {f1 f2 : List Expr} {scope : Scope} {pos : Pos} {I : Addr} {acc : Value} {cenv : Env}
theorem turn_two0 : compTurn (.ListComp elt [⟨t1, i1, f1, 0⟩, ⟨t2, i2, f2, 0⟩] scope pos) 0 (.ref I) acc cenv = turnOf (.ListComp elt [⟨t1, i1, f1, 0⟩, ⟨t2, i2, f2, 0⟩] scope pos) 0 t1 i1.pos f1 I acc cenv (emitN (.ListComp elt [⟨t1, i1, f1, 0⟩, ⟨t2, i2, f2, 0⟩] scope pos) 0 i2 I acc cenv) := by rfl
theorem turn_two1 : compTurn (.ListComp elt [⟨t1, i1, f1, 0⟩, ⟨t2, i2, f2, 0⟩] scope pos) 1 (.ref I) acc cenv = turnOf (.ListComp elt [⟨t1, i1, f1, 0⟩, ⟨t2, i2, f2, 0⟩] scope pos) 1 t2 i2.pos f2 I acc cenv (emitL (.ListComp elt [⟨t1, i1, f1, 0⟩, ⟨t2, i2, f2, 0⟩] scope pos) 1 elt I acc cenv) := by rfl
end
section
variable {prog : Program} {w : World} {A : Around} {s : Shared} {g h : Heap} {t : Nat} {m : Loc} {env cenv : Env} {own its tl : Led} {target : Expr} {I D : Addr} {n : Nat} {P : Nat → Value → Heap → Prop} {elt iter : Expr} {ifs : List Expr} {scope : Scope} {pos : Pos}
theorem compLoopG {ce : Expr} {d : Nat} {pos : Pos} {emit : Sem Fin} {R : Result → Shared → Prop} {ys₀ : List Value} {e₀ : Nat}
    (hun : A.under (.compLoop ce d (.ref I) (.ref D) cenv) = A) (hfr : (Code.compLoop ce d (.ref I) (.ref D) cenv).isFrame = false) (hturn : compTurn ce d (.ref I) (.ref D) cenv = turnOf ce d target pos ifs I (.ref D) cenv emit)
    (S : Src prog w A target I its tl g h n P) (T : At g cenv.locals m (own ++ (its ++ ((D, lst ys₀ e₀) :: tl))) h)
    (J : Nat → Heap → Led → List Value → Prop) (h0 : J 0 g own ys₀)
    (turn : ∀ i v g₁ m₁ own₁ tl₁ h₁ t₁ ys e, i < n → (∀ p ∈ tl, p ∈ tl₁) → Ext g g₁ → P i v h₁ → J i g₁ own₁ ys → At g₁ cenv.locals m₁ (own₁ ++ ((D, lst ys e) :: tl₁)) h₁ →
      wpAny (model prog w) A (assign target cenv v) (fun _ s₂ => Tests prog w A ifs cenv (fun ok s₃ => if ok = true then wpAny (model prog w) A emit (fun fin s₄ => fin = .again (.compLoop ce d (.ref I) (.ref D) cenv) ∧ CPD s g₁ cenv.locals D tl₁ (J (i + 1)) s₄) (fun _ _ => False) s₃
        else CPD s g₁ cenv.locals D tl₁ (J (i + 1)) s₃) s₂) (fun _ _ => False) (Sh s h₁ t₁))
    (done : ∀ g₁ m₁ own₁ h₁ t₁ ys e, Ext g g₁ → J n g₁ own₁ ys → At g₁ cenv.locals m₁ (own₁ ++ ((D, lst ys e) :: tl)) h₁ → R (.ok .next) (Sh s h₁ t₁)) :
    codeAny (model prog w) A (.compLoop ce d (.ref I) (.ref D) cenv) R (Sh s h t) :=
  compLoopGM hun hfr hturn S T (fun i g _ own ys => J i g own ys) h0 turn done
theorem s_emitA {g₁ : Heap} {C : Addr} {tl₁ : Led} {J : Heap → Led → List Value → Prop} {s₀ : Shared}
    (k : wpAny (model prog w) A (eval elt cenv) (fun y s₄ => ∃ g₂ m₂ own₂ h₂ t₂ ys e, s₄ = Sh s h₂ t₂ ∧ Ext g₁ g₂ ∧ At g₂ C m₂ (own₂ ++ ((D, lst ys e) :: tl₁)) h₂ ∧ ys.length ≤ sizeLine ∧ J g₂ own₂ (ys ++ [y])) (fun _ _ => False) s₀) :
    wpAny (model prog w) A (emitA elt (.ref D) cenv) (fun _ s₄ => CPD s g₁ C D tl₁ J s₄) (fun _ _ => False) s₀ := by
  refine wpAny_bind (wpAny_mono k (fun y s₄ q => ?_) fun _ _ x => x)
  obtain ⟨g₂, m₂, own₂, h₂, t₂, ys, e, rfl, x₂, T₂, hsz, q⟩ := q
  exact wpAny_bind (s_appendD T₂ hsz fun e' h' t' T₅ => wpAny_pure ⟨g₂, m₂, own₂, h', t', ys ++ [y], e', rfl, x₂, T₅, q⟩)

theorem compStart_one {e₁ : Expr} {t1 t2 i1 i2 : Expr} {f1 f2 : List Expr} {R : Result → Shared → Prop} {it acc : Value} {s₀ : Shared} (he : e₁ = .ListComp elt [⟨t1, i1, f1, 0⟩, ⟨t2, i2, f2, 0⟩] scope pos)
    (h0 : codeAny (model prog w) A (.compLoop e₁ 1 it acc cenv) R s₀)
    (h : wpAny (model prog w) A (pyIter it) (fun it' s' => codeAny (model prog w) A (.compLoop e₁ 1 it' acc cenv) R s') (notedBy (model prog w) A cenv fun x s' => R (.error x) s') s₀) :
    codeAny (model prog w) A (.compStart e₁ 1 it acc cenv) R s₀ := by
  subst he
  refine codeAny_of_tree ?_
  show wpAny _ _ ((compStart (.ListComp elt [⟨t1, i1, f1, 0⟩, ⟨t2, i2, f2, 0⟩] scope pos) 1 it acc cenv).onRaise (fun x => do noteFrame x cenv; standAt theWindowsPlace)) _ _ s₀
  refine wpAny_notedAt ?_
  unfold compStart
  show wpAny _ _ (ask >>= _) _ _ s₀
  refine wpAny_bind (wpAny_askSetting (wpAny_ite ?_))
  split
  · first
      | exact wpAny_bind (wpAny_pure (wpAny_pure (And.intro rfl h0)))
      | exact wpAny_pure (And.intro rfl h0)
  · first
      | exact wpAny_bind (wpAny_rule (wpAny_bind (wpAny_standAt (wpAny_bind (wpAny_mono h (fun it' s' h' => wpAny_pure (And.intro rfl h')) fun _ _ x => x)))))
      | (refine wpAny_bind (wpAny_rule ?_); show wpAny _ _ (standAt i2.pos >>= _) _ _ s₀; exact wpAny_bind (wpAny_standAt (wpAny_bind (wpAny_mono h (fun it' s' h' => wpAny_pure (And.intro rfl h')) fun _ _ x => x))))

inductive InnerAt (prog : Program) (w : World) (A : Around) (cenv : Env) (target elt : Expr) (ifs : List Expr) (D : Addr) (s : Shared) (Q : Shared → Prop) (it : Value) (s₂ : Shared) : Prop
  | mk (I : Addr) (own its tl : Led) (g h : Heap) (t : Nat) (m : Loc) (n : Nat) (P : Nat → Value → Heap → Prop) (J : Nat → Heap → Led → List Value → Prop) (ys₀ : List Value) (e₀ : Nat) :
    it = .ref I →
    s₂ = Sh s h t →
    Src prog w (A.mark none) target I its tl g h n P →
    At g cenv.locals m (own ++ (its ++ ((D, lst ys₀ e₀) :: tl))) h →
    J 0 g own ys₀ →
    (∀ i v g₁ m₁ own₁ tl₁ h₁ t₁ ys e, i < n → (∀ p ∈ tl, p ∈ tl₁) → Ext g g₁ → P i v h₁ → J i g₁ own₁ ys → At g₁ cenv.locals m₁ (own₁ ++ ((D, lst ys e) :: tl₁)) h₁ →
      wpAny (model prog w) (A.mark none) (assign target cenv v) (fun _ s₂ => Tests prog w (A.mark none) ifs cenv (fun ok s₃ => if ok = true then wpAny (model prog w) (A.mark none) (emitA elt (.ref D) cenv) (fun _ s₄ => CPD s g₁ cenv.locals D tl₁ (J (i + 1)) s₄) (fun _ _ => False) s₃
        else CPD s g₁ cenv.locals D tl₁ (J (i + 1)) s₃) s₂) (fun _ _ => False) (Sh s h₁ t₁)) →
    (∀ g₁ m₁ own₁ h₁ t₁ ys e, Ext g g₁ → J n g₁ own₁ ys → At g₁ cenv.locals m₁ (own₁ ++ ((D, lst ys e) :: tl)) h₁ → Q (Sh s h₁ t₁)) →
    InnerAt prog w A cenv target elt ifs D s Q it s₂

inductive InnerAtM (prog : Program) (w : World) (A : Around) (cenv : Env) (target elt : Expr) (ifs : List Expr) (D : Addr) (s : Shared) (Q : Shared → Prop) (it : Value) (s₂ : Shared) : Prop
  | mk (I : Addr) (own its tl : Led) (g h : Heap) (t : Nat) (m : Loc) (n : Nat) (P : Nat → Value → Heap → Prop) (J : Nat → Heap → Loc → Led → List Value → Prop) (ys₀ : List Value) (e₀ : Nat) :
    it = .ref I →
    s₂ = Sh s h t →
    Src prog w (A.mark none) target I its tl g h n P →
    At g cenv.locals m (own ++ (its ++ ((D, lst ys₀ e₀) :: tl))) h →
    J 0 g m own ys₀ →
    (∀ i v g₁ m₁ own₁ tl₁ h₁ t₁ ys e, i < n → (∀ p ∈ tl, p ∈ tl₁) → Ext g g₁ → P i v h₁ → J i g₁ m₁ own₁ ys → At g₁ cenv.locals m₁ (own₁ ++ ((D, lst ys e) :: tl₁)) h₁ →
      wpAny (model prog w) (A.mark none) (assign target cenv v) (fun _ s₂ => Tests prog w (A.mark none) ifs cenv (fun ok s₃ => if ok = true then wpAny (model prog w) (A.mark none) (emitA elt (.ref D) cenv) (fun _ s₄ => CPDM s g₁ cenv.locals D tl₁ (J (i + 1)) s₄) (fun _ _ => False) s₃
        else CPDM s g₁ cenv.locals D tl₁ (J (i + 1)) s₃) s₂) (fun _ _ => False) (Sh s h₁ t₁)) →
    (∀ g₁ m₁ own₁ h₁ t₁ ys e, Ext g g₁ → J n g₁ m₁ own₁ ys → At g₁ cenv.locals m₁ (own₁ ++ ((D, lst ys e) :: tl)) h₁ → Q (Sh s h₁ t₁)) →
    InnerAtM prog w A cenv target elt ifs D s Q it s₂

theorem s_emitNM {t1 t2 i1 i2 : Expr} {f1 f2 : List Expr} {Q : Shared → Prop} {s₀ : Shared}
    (k : wpAny (model prog w) A (eval i2 cenv) (fun xv s₁ => wpAny (model prog w) A (pyIter xv) (fun it s₂ => InnerAtM prog w A cenv t2 elt f2 D s Q it s₂) (fun _ _ => False) s₁) (fun _ _ => False) s₀)
    (hs : ∀ x, foldedSetIterable i2 cenv x = pure x := by intro _; rfl) :
    wpAny (model prog w) A (emitN (.ListComp elt [⟨t1, i1, f1, 0⟩, ⟨t2, i2, f2, 0⟩] scope pos) 0 i2 I (.ref D) cenv) (fun fin s₄ => fin = .again (.compLoop (.ListComp elt [⟨t1, i1, f1, 0⟩, ⟨t2, i2, f2, 0⟩] scope pos) 0 (.ref I) (.ref D) cenv) ∧ Q s₄) (fun _ _ => False) s₀ := by
  refine wpAny_bind (wpAny_mono k (fun xv s₁ h₁ => ?_) fun _ _ x => x)
  refine wpAny_bind (wpAny_standAt (wpAny_bind (wpAny_of_eq (hs xv) (wpAny_bind (wpAny_holding (wpAny_mono h₁ (fun it s₂ h₂ => ?_) fun _ _ x => x))))))
  obtain ⟨I', own, its, tl, g, h, t, m, n, P, J, ys₀, e₀, rfl, rfl, S, T, h0, turn, done⟩ := h₂
  refine wpAny_bind (wpAny_runOwn (codeAny_mono (R := fun r s' => match r with | .ok _ => Q s' | .error _ => False) ?_ fun r s' q => ?_))
  rotate_left
  · cases r with
    | ok f => exact wpAny_pure ⟨rfl, q⟩
    | error e => exact q.elim
  have loop : codeAny (model prog w) (A.mark none) (.compLoop (.ListComp elt [⟨t1, i1, f1, 0⟩, ⟨t2, i2, f2, 0⟩] scope pos) 1 (.ref I') (.ref D) cenv) (fun r s' => match r with | .ok _ => Q s' | .error _ => False) (Sh s h t) :=
    compLoopGM (J := J) rfl rfl turn_two1 S T h0 (fun i v g₁ m₁ own₁ tl₁ h₁ t₁ ys e hi hs x hP hJ T => wpAny_mono (turn i v g₁ m₁ own₁ tl₁ h₁ t₁ ys e hi hs x hP hJ T) (fun _ s₂ q => tests_mono q fun ok s₃ q => by
      cases ok with
      | false => exact q
      | true => exact wpAny_bind (wpAny_mono q (fun _ s₄ q => wpAny_pure ⟨rfl, q⟩) fun _ _ x => x)) fun _ _ x => x)
      fun g₁ m₁ own₁ h₁ t₁ ys e x q T => done g₁ m₁ own₁ h₁ t₁ ys e x q T
  refine compStart_one rfl loop ?_
  obtain ⟨fp, wr, Md, St, W, hwr, hfp, hob, hself, st0⟩ := S.ex
  exact hself 0 _ _ _ st0 loop
theorem s_emitN {t1 t2 i1 i2 : Expr} {f1 f2 : List Expr} {Q : Shared → Prop} {s₀ : Shared}
    (k : wpAny (model prog w) A (eval i2 cenv) (fun xv s₁ => wpAny (model prog w) A (pyIter xv) (fun it s₂ => InnerAt prog w A cenv t2 elt f2 D s Q it s₂) (fun _ _ => False) s₁) (fun _ _ => False) s₀)
    (hs : ∀ x, foldedSetIterable i2 cenv x = pure x := by intro _; rfl) :
    wpAny (model prog w) A (emitN (.ListComp elt [⟨t1, i1, f1, 0⟩, ⟨t2, i2, f2, 0⟩] scope pos) 0 i2 I (.ref D) cenv) (fun fin s₄ => fin = .again (.compLoop (.ListComp elt [⟨t1, i1, f1, 0⟩, ⟨t2, i2, f2, 0⟩] scope pos) 0 (.ref I) (.ref D) cenv) ∧ Q s₄) (fun _ _ => False) s₀ := by
  refine s_emitNM (s := s) (wpAny_mono k (fun xv s₁ h₁ => wpAny_mono h₁ (fun it s₂ h₂ => ?_) fun _ _ x => x) fun _ _ x => x) hs
  obtain ⟨I', own, its, tl, g, h, t, m, n, P, J, ys₀, e₀, a, b, S, T, h0, turn, done⟩ := h₂
  exact ⟨I', own, its, tl, g, h, t, m, n, P, fun i g _ own ys => J i g own ys, ys₀, e₀, a, b, S, T, h0, turn, done⟩
end
section
variable {prog : Program} {w : World} {A : Around} {s : Shared} {g h : Heap} {t : Nat} {m : Loc} {env cenv : Env} {own its tl : Led} {t1 t2 i1 i2 elt : Expr} {f1 f2 : List Expr} {I D : Addr} {n : Nat} {P : Nat → Value → Heap → Prop} {scope : Scope} {pos : Pos}
inductive CompAt2 (prog : Program) (w : World) (A : Around) (env : Env) (t1 t2 i1 i2 elt : Expr) (f1 f2 : List Expr) (scope : Scope) (pos : Pos) (cl : List (Str × Addr)) (s : Shared) (Fin : Heap → Addr → Loc → Led → List Value → Nat → Heap → Nat → Prop) (it : Value) (s₂ : Shared) : Prop
  | mk (I : Addr) (own its tl : Led) (g h : Heap) (t : Nat) (m : Loc) (n : Nat) (P : Nat → Value → Heap → Prop) (J : Nat → Heap → Led → List Value → Prop) :
    it = .ref I →
    s₂ = Sh s h t →
    Src prog w A t1 I its tl g h n P →
    At g env.locals m (own ++ (its ++ tl)) h →
    J 0 g own [] →
    (∀ C D i v g₁ m₁ own₁ tl₁ h₁ t₀ ys e, i < n → (∀ p ∈ tl, p ∈ tl₁) → Ext g g₁ → P i v h₁ → J i g₁ own₁ ys → At g₁ C m₁ (own₁ ++ ((D, lst ys e) :: tl₁)) h₁ →
      wpAny (model prog w) A (assign t1 (compEnvC scope cl C env) v) (fun _ s₂ => Tests prog w A f1 (compEnvC scope cl C env) (fun ok s₃ => if ok = true then
          wpAny (model prog w) A (emitN (.ListComp elt [⟨t1, i1, f1, 0⟩, ⟨t2, i2, f2, 0⟩] scope pos) 0 i2 I (.ref D) (compEnvC scope cl C env)) (fun fin s₄ => fin = .again (.compLoop (.ListComp elt [⟨t1, i1, f1, 0⟩, ⟨t2, i2, f2, 0⟩] scope pos) 0 (.ref I) (.ref D) (compEnvC scope cl C env)) ∧ CPD s g₁ C D tl₁ (J (i + 1)) s₄) (fun _ _ => False) s₃
        else CPD s g₁ C D tl₁ (J (i + 1)) s₃) s₂) (fun _ _ => False) (Sh s h₁ t₀)) →
    (∀ g₁ own₁ h₁ t₀ D ys e, Ext g g₁ → J n g₁ own₁ ys → At g₁ env.locals m ((D, lst ys e) :: (own₁ ++ tl)) h₁ → Fin g₁ D m (own₁ ++ tl) ys e h₁ t₀) →
    CompAt2 prog w A env t1 t2 i1 i2 elt f1 f2 scope pos cl s Fin it s₂

theorem comp_block2 {cl : List (Str × Addr)} {Fin : Heap → Addr → Loc → Led → List Value → Nat → Heap → Nat → Prop} {it : Value} {s₂ : Shared} {E : Value → Shared → Prop} {RR : Value → Addr → Result → Shared → Prop}
    (hcell : ∀ y ∈ scope.names, y.2 ≠ .cell) (hkind : scope.kind = .function) (k : CompAt2 prog w A env t1 t2 i1 i2 elt f1 f2 scope pos cl s Fin it s₂)
    (fin : ∀ g₁ C D m mu ys e h₁ t₀, (∀ h₂, Heap.SameBut C h₁ h₂ → Fin g₁ D m mu ys e h₂ t₀) → (∃ mc, h₁.Ns C mc) → At g₁ env.locals m ((D, lst ys e) :: mu) h₁ → (∃ oC, h₁.get? C = some oC ∧ C ≠ env.locals ∧ C ≠ D ∧ (∀ p ∈ mu, p.1 ≠ C) ∧ g₁.get? C = none) → RR (.ref D) C (.ok .next) (Sh s h₁ t₀)) :
    wpAny (model prog w) A (newList []) (fun acc s₃ => wpAny (model prog w) A (newFunctionEnv scope env.globals cl [] env.qual none .none (some env)) (fun cenv s₄ =>
      codeAny (model prog w) A (.compStart (.ListComp elt [⟨t1, i1, f1, 0⟩, ⟨t2, i2, f2, 0⟩] scope pos) 0 it acc { cenv with scope := relabel scope env }) (RR acc cenv.locals) s₄) E s₃) E s₂ := by
  obtain ⟨I, own, its, tl, g, h, t, m, n, P, J, rfl, rfl, S, T, h0, turn, done⟩ := k
  refine wpAny_newObj_type (wpAny_newFunctionEnv hcell (by intro y hy; simp at hy) (fun h₁ hns₁ hsb₁ => ?_) hkind)
  dsimp only at hns₁ hsb₁ ⊢
  obtain ⟨oL, nL, M⟩ := T
  have M1 := M.push (lst [] 0) rfl
  generalize hH2 : h.push { cls := .type "list", dict := none, data := .seq ([] : List Value).toArray } = H2 at hns₁ hsb₁ ⊢
  have eH : H2 = h.push (lst [] 0) := hH2.symm
  subst eH
  have M2 := M1.push { cls := .type "dict", data := .dict #[] } rfl
  obtain ⟨oC, eC, nC⟩ := LCg.ns_obj hns₁
  have M3 := M2.set hsb₁ eC
  have up : ∀ b o, h.get? b = some o → h₁.get? b = some o := fun b o e => by
    refine (hsb₁.2 b (fun q => ?_)).trans (Heap.get?_push_of_some _ (Heap.get?_push_of_some _ e))
    have := Heap.lt_size e
    rw [q, Heap.size_push] at this
    exact absurd this (Nat.not_lt.mpr (Nat.le_succ _))
  have S' : Src prog w A t1 I its ((env.locals, oL) :: tl) g h₁ n P := S.more rfl (fun p hp => .tail _ hp) up
  generalize hCa : (h.push (lst [] 0)).objs.size = C at *
  generalize hDa : h.objs.size = D at *
  have T3 : At g C (fun x => List.lookup x ([] : List (Str × Value)).reverse) (own ++ (its ++ ((D, lst [] 0) :: (env.locals, oL) :: tl))) h₁ := by
    refine ⟨oC, nC, M3.perm ?_⟩
    refine List.Perm.cons _ ?_
    have p1 : (own ++ (its ++ ((D, lst [] 0) :: (env.locals, oL) :: tl))).Perm ((D, lst [] 0) :: (own ++ (its ++ ((env.locals, oL) :: tl)))) := by
      rw [← List.append_assoc, ← List.append_assoc]
      exact List.perm_middle
    refine p1.trans (List.Perm.cons _ ?_)
    rw [← List.append_assoc, ← List.append_assoc]
    exact List.perm_middle
  have loop : codeAny (model prog w) A (.compLoop (.ListComp elt [⟨t1, i1, f1, 0⟩, ⟨t2, i2, f2, 0⟩] scope pos) 0 (.ref I) (.ref D) (compEnvC scope cl C env)) (RR (.ref D) C) (Sh s h₁ (t + ([] : List (Str × Value)).length)) := by
    refine compLoopG (cenv := compEnvC scope cl C env) rfl rfl turn_two0 S' T3 J h0 (fun i v g₁ m₁ own₁ tl₁ h₁ t₁ ys e hi hs x hP hJ T => ?_) fun g₁ m₁ own₁ h₂ t₂ ys e x hJ T4 => ?_
    · exact turn C D i v g₁ m₁ own₁ tl₁ h₁ t₁ ys e hi (fun p hp => hs p (.tail _ hp)) x hP hJ T
    · obtain ⟨oC', nC', M4⟩ := T4
      have M5 : Mem g₁ ((C, oC') :: (env.locals, oL) :: (D, lst ys e) :: (own₁ ++ tl)) h₂ := by
        refine M4.perm (List.Perm.cons _ ?_)
        refine List.Perm.symm ?_
        have p1 : (own₁ ++ ((D, lst ys e) :: (env.locals, oL) :: tl)).Perm ((D, lst ys e) :: (own₁ ++ ((env.locals, oL) :: tl))) := List.perm_middle
        have p2 : (own₁ ++ ((env.locals, oL) :: tl)).Perm ((env.locals, oL) :: (own₁ ++ tl)) := List.perm_middle
        exact p1.trans ((p2.cons _).trans (.swap ..))
      refine fin g₁ C D m (own₁ ++ tl) ys e h₂ t₂ (fun h₃ hs₃ => done g₁ own₁ h₃ t₂ D ys e x hJ ⟨oL, nL, ?_⟩) ⟨_, nC'.ns (M5.get (.head _))⟩ ⟨oL, nL, M5.drop⟩ ⟨oC', M5.get (.head _), ?_, ?_, ?_, (M5.at_ _ (.head _)).2⟩
      · have ne : ∀ p ∈ ((env.locals, oL) :: (D, lst ys e) :: (own₁ ++ tl)), p.1 ≠ C := fun p hp => M5.ne hp
        refine ⟨fun b o eb => (hs₃.2 b fun q => ?_).trans (M5.keep b o eb), fun p hp => ⟨(hs₃.2 _ (ne p hp)).trans (M5.at_ p (.tail _ hp)).1, (M5.at_ p (.tail _ hp)).2⟩, M5.drop.nd⟩
        subst q
        have z := (M5.at_ _ (.head _)).2
        rw [show g₁.get? b = none from z] at eb; cases eb
      · exact fun q => M5.ne (q := (env.locals, oL)) (.head _) q.symm
      · exact fun q => M5.ne (q := (D, lst ys e)) (.tail _ (.head _)) q.symm
      · exact fun p hp => M5.ne (.tail _ (.tail _ hp))
  refine codeAny_compStart_list loop ?_
  obtain ⟨fp, wr, Md, St, W, hwr, hfp, hob, hself, st0⟩ := S'.ex
  exact hself 0 _ _ _ st0 loop

theorem s_AssignComp2 {cl : List (Str × Addr)} {Q : Flow → Shared → Prop} {E : Value → Shared → Prop} {s₀ : Shared} {y : Str} {py spos : Pos}
    (k : wpAny (model prog w) A (eval i1 env) (fun xv s₁ => wpAny (model prog w) A (pyIter xv) (fun it s₂ => CompAt2 prog w A env t1 t2 i1 i2 elt f1 f2 scope pos cl s
      (fun g₁ D m mu ys e h₁ t₁ => At g₁ env.locals m ((D, lst ys e) :: mu) h₁ → ∀ h₂ t₂, At g₁ env.locals (fun z => if z = y then some (.ref D) else m z) ((D, lst ys e) :: mu) h₂ → Q .next (Sh s h₂ t₂)) it s₂) E s₁) E s₀)
    (hsw : swapsWith (.ListComp elt [⟨t1, i1, f1, 0⟩, ⟨t2, i2, f2, 0⟩] scope pos) (some (.Name y py)) spos.line env = pure true)
    (hclos : closureFor scope env = pure cl) (hcell : ∀ y ∈ scope.names, y.2 ≠ .cell) (hkind : scope.kind = .function)
    (hnames : ∀ y ∈ scope.names, y.2 = .local → scope.names.lookup y.1 = some .local)
    (hy : env.kindOf y = some .local) (hke : env.scope.kind = .function)
    (hs : ∀ x, foldedSetIterable i1 env x = pure x := by intro _; rfl) :
    wpAny (model prog w) A (exec (.Assign [.Name y py] (.ListComp elt [⟨t1, i1, f1, 0⟩, ⟨t2, i2, f2, 0⟩] scope pos) spos) env) Q E s₀ := by
  rw [exec_Assign_Name_used _ _ _ _ hsw]
  refine wpAny_bind (wpAny_standAt (wpAny_bind ?_))
  show wpAny _ A (do let _ ← comprehension (.ListComp elt [⟨t1, i1, f1, 0⟩, ⟨t2, i2, f2, 0⟩] scope pos) scope env _ (newList []) false (eval i1 env) (some (assign (.Name y py) env))) _ _ _
  refine wpAny_bind (wpAny_mono (wpAny_comprehension_free (use := some (assign (.Name y py) env)) (Q := fun _ s' => Q .next s') rfl hs hclos hkind hnames
    (wpAny_mono k (fun xv s₁ h₁ => wpAny_mono h₁ (fun it s₂ h₂ => ?_) fun _ _ e => e) fun _ _ e => e)) (fun _ s' hq => wpAny_pure (wpAny_pure hq)) fun _ _ e => e)
  refine comp_block2 (RR := fun acc C => compPost (model prog w) A E (some (assign (.Name y py) env)) (fun _ s' => Q .next s') acc C) hcell hkind h₂ fun g₁ C D m mu ys e h₁ t₁ F nC T hC => ?_
  obtain ⟨mc, nC⟩ := nC
  obtain ⟨oC, eC, n1, n2, n3, gC⟩ := hC
  show wpAny _ A (assign (.Name y py) env (.ref D)) _ _ _
  refine wpAny_assign_Name (wpAny_storeName_local hy T.ns (fun h₂ hn₂ hs₂ => ?_) (by rw [hke]; rfl))
  refine ⟨mc, nC.sameBut hs₂ n1, fun h₃ hs₃ => ?_⟩
  have T₂ : At g₁ env.locals (fun z => if z = y then some (.ref D) else m z) ((D, lst ys e) :: mu) h₂ := T.setL hn₂ hs₂
  have keepC : ∀ {mm : Loc} {ha hb : Heap}, At g₁ env.locals mm ((D, lst ys e) :: mu) ha → Heap.SameBut C ha hb → At g₁ env.locals mm ((D, lst ys e) :: mu) hb := by
    intro mm ha hb T hs
    obtain ⟨oL, nL, M⟩ := T
    refine ⟨oL, nL, fun b o eb => (hs.2 b fun q => ?_).trans (M.keep b o eb), fun p hp => ⟨(hs.2 _ ?_).trans (M.at_ p hp).1, (M.at_ p hp).2⟩, M.nd⟩
    · subst q; rw [gC] at eb; cases eb
    · rcases List.mem_cons.mp hp with rfl | hp
      · exact fun q => n1 q.symm
      · rcases List.mem_cons.mp hp with rfl | hp
        · exact fun q => n2 q.symm
        · exact n3 p hp
  exact F h₁ (Heap.SameBut.refl ..) T _ _ (keepC T₂ hs₃)
end
local macro_rules | `(tactic| walk_at "comp sides") => `(tactic| ((case hclos => exact rfl); (case hcell => decide); (case hkind => exact rfl); (case hnames => decide)))
local macro_rules | `(tactic| walk_at "compK sides") => `(tactic| ((case hclos => exact rfl); (case hpush => exact fun _ => rfl); (case hkind => exact rfl); (case hnames => decide)))
local macro_rules | `(tactic| walk_at "compA sides") => `(tactic| ((case hsw => exact rfl); (case hclos => exact rfl); (case hcell => decide); (case hkind => exact rfl); (case hnames => decide); (case hy => exact rfl); (case hke => exact rfl)))
local macro_rules | `(tactic| walk_at "compAK sides") => `(tactic| ((case hsw => exact rfl); (case hclos => exact rfl); (case hpush => exact fun _ => rfl); (case hkind => exact rfl); (case hnames => decide); (case hy => exact rfl); (case hke => exact rfl)))
noncomputable def allBut (h : Heap) (L : Addr) : Led := (List.range h.objs.size).filterMap fun b => match h.get? b with
  | some o => if b = L then none else some (b, o)
  | none => none
theorem mem_allBut {h : Heap} {L : Addr} {p : Addr × Obj} : p ∈ allBut h L ↔ h.get? p.1 = some p.2 ∧ p.1 ≠ L := by
  unfold allBut
  rw [List.mem_filterMap]
  constructor
  · rintro ⟨b, hb, e⟩
    split at e
    · rename_i o ho
      by_cases q : b = L
      · rw [if_pos q] at e; cases e
      · rw [if_neg q] at e; cases e; exact ⟨ho, q⟩
    · cases e
  · rintro ⟨a, b⟩
    refine ⟨p.1, List.mem_range.mpr (Heap.lt_size a), ?_⟩
    rw [a]
    simp [b]
noncomputable def noHeap : Heap := { objs := #[] }
theorem noHeap_get (b : Addr) : noHeap.get? b = none := by
  cases e : noHeap.get? b with
  | none => rfl
  | some o => exact absurd (Heap.lt_size e) (Nat.not_lt_zero _)
section
variable {g h h' : Heap} {L D : Addr} {m : Loc} {mu : Led} {o : Obj}
theorem At.fr (T : At g L m mu h) : Fr noHeap L h m := ⟨T.ns, fun b _ e => absurd e (by rw [noHeap_get]; exact fun q => nomatch q), Nat.zero_le _⟩
theorem At.news (_T : At g L m mu h) : News noHeap L h (allBut h L) := fun p hp => ⟨(mem_allBut.mp hp).1, (mem_allBut.mp hp).2, noHeap_get _⟩
theorem At.back (T : At g L m mu h) (F : Fr noHeap L h' m) (N : News noHeap L h' (allBut h L)) : At g L m mu h' := by
  obtain ⟨oL, nL, M⟩ := T
  obtain ⟨oL', eL, nL'⟩ := LCg.ns_obj F.ns
  have gL := (M.at_ _ (.head _)).2
  refine ⟨oL', nL', fun b o e => (N (b, o) (mem_allBut.mpr ⟨M.keep b o e, fun q => ?_⟩)).1, fun p hp => ?_, M.nd⟩
  · have q' : b = L := q
    subst q'; rw [show g.get? b = none from gL] at e; cases e
  · rcases List.mem_cons.mp hp with rfl | hp
    · exact ⟨eL, gL⟩
    · exact ⟨(N p (mem_allBut.mpr ⟨(M.at_ p (.tail _ hp)).1, M.ne hp⟩)).1, (M.at_ p (.tail _ hp)).2⟩
theorem At.back1 (T : At g L m mu h) (F : Fr noHeap L h' m) (N : News noHeap L h' ((D, o) :: allBut h L)) (hD : h.objs.size ≤ D) : At g L m ((D, o) :: mu) h' := by
  obtain ⟨oL, nL, M⟩ := T.back F fun p hp => N p (.tail _ hp)
  obtain ⟨oL₀, nL₀, M₀⟩ := T
  have hn := N _ (.head _)
  have old : ∀ b x, h.get? b = some x → D ≠ b := fun b x e q => absurd (Heap.lt_size e) (Nat.not_lt.mpr (q ▸ hD))
  refine ⟨oL, nL, M.keep, fun p hp => ?_, ?_⟩
  · rcases List.mem_cons.mp hp with rfl | hp
    · exact M.at_ _ (.head _)
    · rcases List.mem_cons.mp hp with rfl | hp
      · refine ⟨hn.1, ?_⟩
        cases e : g.get? D with
        | none => rfl
        | some x => exact absurd rfl (old D x (M₀.keep _ _ e))
      · exact M.at_ p (.tail _ hp)
  · rw [List.map_cons, List.map_cons]
    have nd := M.nd
    rw [List.map_cons] at nd
    refine List.nodup_cons.mpr ⟨fun hm => ?_, List.nodup_cons.mpr ⟨fun hm => ?_, (List.nodup_cons.mp nd).2⟩⟩
    · rcases List.mem_cons.mp hm with e | hm
      · exact hn.2.1 e.symm
      · exact (List.nodup_cons.mp nd).1 hm
    · obtain ⟨p, hp, e⟩ := List.mem_map.mp hm
      exact old p.1 p.2 (M₀.at_ p (.tail _ hp)).1 e.symm
end
section
variable {prog : Program} {w : World} {A : Around} {E : Value → Shared → Prop} {s : Shared} {g h : Heap} {t : Nat} {mu : Led} {m : Loc} {L D l b : Addr} {Q : Value → Shared → Prop} {vs ws : List Value} {ns ms : List Int}
theorem s_slice {value slice : Expr} {lo hi : Option Int} {vl vu : Value} (T : At g L m mu h) (hl : h.IsList l vs.toArray) (pl : IsPart vl lo) (pu : IsPart vu hi) (hsz : vs.length ≤ sizeLine)
    (k : ∀ D h', At g L m ((D, lst (slicePick vs.toArray lo hi none).toList 0) :: mu) h' → Q (.ref D) (Sh s h' t))
    (hs : subscripted slice false (.ref l) (.ref h.objs.size) = operate [.ref h.objs.size, .ref l] (getItem (.ref l) (.ref h.objs.size)) := by with_unfolding_all rfl)
    (ht : ∀ r, letTemporaryGo value (.ref l) r = pure () := by intro _; with_unfolding_all rfl) :
    wpAny (model prog w) A (subscriptTail value slice (.ref l) (.ref h.objs.size)) Q E (Sh s (h.push { cls := .type "slice", data := .fields #[vl, vu, .none] }) t) :=
  slice_list (s := Sh s h t) T.fr T.news hl pl pu (fun h' F N => k _ h' (T.back1 F N (Nat.le_succ _))) hs ht (by rw [List.size_toArray]; exact hsz)
theorem s_slice3 {value slice : Expr} {lo hi st : Option Int} {vl vu vk : Value} {ops : List Value} (T : At g L m mu h) (hl : h.IsList l vs.toArray) (pl : IsPart vl lo) (pu : IsPart vu hi) (pk : IsPart vk st) (h0 : st ≠ some 0) (hsz : vs.length ≤ sizeLine)
    (k : ∀ D h', At g L m ((D, lst (slicePick vs.toArray lo hi st).toList 0) :: mu) h' → Q (.ref D) (Sh s h' t))
    (hs : subscripted slice false (.ref l) (.ref h.objs.size) = operate ops (getItem (.ref l) (.ref h.objs.size)) := by with_unfolding_all rfl)
    (ht : ∀ r, letTemporaryGo value (.ref l) r = pure () := by intro _; with_unfolding_all rfl) :
    wpAny (model prog w) A (subscriptTail value slice (.ref l) (.ref h.objs.size)) Q E (Sh s (h.push { cls := .type "slice", data := .fields #[vl, vu, vk] }) t) :=
  slice_list3 (s := Sh s h t) T.fr T.news hl pl pu pk h0 (fun h' F N => k _ h' (T.back1 F N (Nat.le_succ _))) hs ht (by rw [List.size_toArray]; exact hsz)
theorem s_addL (T : At g L m mu h) (hl : h.IsList l vs.toArray) (hb : h.IsList b ws.toArray) (hsz : vs.length + ws.length ≤ sizeLine)
    (k : ∀ D h', At g L m ((D, lst (vs ++ ws) 0) :: mu) h' → Q (.ref D) (Sh s h' t)) : wpAny (model prog w) A (binaryOp .Add (.ref l) (.ref b)) Q E (Sh s h t) :=
  add_lists (s := Sh s h t) (hsz := hsz) T.fr T.news hl hb fun h' F N => k _ h' (T.back1 F N (Nat.le_refl _))
theorem s_sum (hh : A.handled = none) (T : At g L m mu h) (hl : h.IsList l vs.toArray) (hi : IntsAre vs ns) (k : ∀ h' tk t', At g L m mu h' → Q (.int ns.sum t') (Sh s h' tk)) :
    wpAny (model prog w) A (call (.builtin "sum") [.ref l]) Q E (Sh s h t) :=
  sumK (s := Sh s h t) hh T.fr T.news hl hi fun h' tk t' F N => k h' tk t' (T.back F N)
theorem s_max2 {x y : Int} {tx ty : Tok} (hh : A.handled = none) (T : At g L m mu h) (k : ∀ h' tk t', At g L m mu h' → Q (.int (max x y) t') (Sh s h' tk)) :
    wpAny (model prog w) A (call (.builtin "max") [.int x tx, .int y ty]) Q E (Sh s h t) :=
  max_two_N (s := Sh s h t) hh T.fr T.news fun h' tk F N => by
    have : (if y > x then y else x) = max x y := by rw [Int.max_def]; split <;> split <;> omega
    rw [this]; exact k h' tk _ (T.back F N)
theorem s_sorted (T : At g L m mu h) (hl : h.IsList l vs.toArray) (hi : IntsAre vs ns) (hw : PyData.layable0 (.list (ns.map .int)) = true) (h64 : vs.length < 64)
    (k : ∀ D h' vs' ns' e, At g L m ((D, lst vs' e) :: mu) h' → IntsAre vs' ns' → ns'.Perm ns → ns'.Pairwise (· ≤ ·) → Q (.ref D) (Sh s h' t)) :
    wpAny (model prog w) A (call (.builtin "sorted") [.ref l]) Q E (Sh s h t) :=
  sorted_N2 (s := Sh s h t) T.fr T.news hl hi hw h64 fun h' vs' ns' e F N _ hI _ _ _ hp hq => k _ h' vs' ns' e (T.back1 (o := lst vs' e) F N (Nat.le_succ _)) hI hp hq
theorem s_split {x y : Str} {tx u : Tok} (T : At g L m mu h) (hy : (y.length == 0) = false) (hsz : x.length + 2 ≤ sizeLine)
    (k : ∀ D ls h' t', ls.map (·.1) = Txt.split x y → At g L m ((D, lst (strValues ls) 0) :: mu) h' → Q (.ref D) (Sh s h' t')) :
    wpAny (model prog w) A (call (.builtin "str.split") [.str x tx, .str y u]) Q E (Sh s h t) :=
  splitN1 (s := Sh s h t) (hsz := hsz) T.fr T.news hy fun ls h' k' e F N => k _ ls h' k' e (T.back1 F N (Nat.le_refl _))
theorem s_join {x : Str} {tx : Tok} {items : Array Value} {ys : List Str} (_T : At g L m mu h) (hl : h.IsList l items) (hi : StrsAre items.toList ys) (hok : (ys.map (·.length)).sum + ys.length * x.length ≤ 16777216)
    (k : ∀ t' t'', Q (.str (Txt.join x ys) t') (Sh s h t'')) : wpAny (model prog w) A (call (.builtin "str.join") [.str x tx, .ref l]) Q E (Sh s h t) :=
  join_list (s := Sh s h t) hl hi hok fun t' k' => k t' k'
theorem s_lenL (hl : h.IsList l vs.toArray) (hfit : vs.length ≤ 1000000) (k : ∀ t', Q (.int vs.length t') (Sh s h (t + 2))) : wpAny (model prog w) A (call (.builtin "len") [.ref l]) Q E (Sh s h t) :=
  PyProof.Rows.len_list (s := Sh s h t) hl (by rw [List.size_toArray]; omega) (by rw [List.size_toArray]; exact k _)
theorem s_strSlice {value slice : Expr} {x : Str} {tx : Tok} {i j : Int} {ui uj : Tok} (T : At g L m mu h) (hsz : x.length ≤ sizeLine)
    (k : ∀ h' t' tk, At g L m mu h' → Q (.str (Txt.slice x (some i) (some j)) t') (Sh s h' tk))
    (hs : subscripted slice false (.str x tx) (.ref h.objs.size) = operate [.ref h.objs.size, .str x tx] (getItem (.str x tx) (.ref h.objs.size)) := by with_unfolding_all rfl)
    (ht : ∀ r, letTemporaryGo value (.str x tx) r = pure () := by intro _; with_unfolding_all rfl) :
    wpAny (model prog w) A (subscriptTail value slice (.str x tx) (.ref h.objs.size)) Q E (Sh s (h.push { cls := .type "slice", data := .fields #[.int i ui, .int j uj, .none] }) t) :=
  tail_of_ItemOn (SBH.sliceItem_ss (s := Sh s h t) (P := fun h' => At g L m mu h') (fun _ ob hP => hP.ext fun _ _ e => Heap.get?_push_of_some _ e) T (fun h' t' k' P => k h' t' k' P) hsz) hs ht
end
theorem mu_isL {g h : Heap} {L : Addr} {m : Loc} {mu : Led} {D : Addr} {vs : List Value} {e : Nat} (T : At g L m mu h) (hm : (D, lst vs e) ∈ mu) : h.IsList D vs.toArray := ⟨_, T.get hm, rfl, _, rfl⟩
theorem mu_isT {g h : Heap} {L : Addr} {m : Loc} {mu : Led} {D : Addr} {vs : List Value} (T : At g L m mu h) (hm : (D, tup vs) ∈ mu) : h.IsTuple D vs.toArray := ⟨_, T.get hm, rfl, _, rfl⟩
local macro_rules | `(tactic| walk_at "isL") => `(tactic| first | assumption | exact mu_isL (by assumption) (by walk_at "mem") | exact isList_up (At.keep (by assumption)) (by assumption))
local macro_rules | `(tactic| walk_at "isT") => `(tactic| first | assumption | exact mu_isT (by assumption) (by walk_at "mem") | exact isTuple_up (At.keep (by assumption)) (by assumption))
local macro_rules | `(tactic| walk_at "part") => `(tactic| first | exact IsPart.none | exact IsPart.int _ _)
local macro_rules | `(tactic| walk_at "subscriptTail") => `(tactic| ((with_reducible show wpAny _ _ (subscriptTail _ (Expr.Slice _ _ none _) (Value.ref _) (Value.ref _)) _ _ _); (refine' s_slice ?T ?hl ?pl ?pu ?z ?_; (case T => assumption); (case hl => walk_at "isL"); (case pl => walk_at "part"); (case pu => walk_at "part"); (case z => walk_at "size"); intro aN hN TN)))
local macro_rules | `(tactic| walk_at "assign Tuple") => `(tactic| (refine s_assignTup (Room.hh (by assumption)) (by assumption) (by walk_at "isT") rfl rfl ?_; intro hA TA))
local macro_rules | `(tactic| walk_at "subscriptTail") => `(tactic| ((fail_if_success (with_reducible show wpAny _ _ (subscriptTail (PySem.Expr.Name _ _) _ _ _) _ _ _)); (refine kba_turn (value' := PySem.Expr.Name (PySem.Str.ofString "_") ⟨0, 0, 0, 0⟩) (fun _ => rfl) ?_)))
section
open PySem.W.KBw
noncomputable def BI (o : Obj) (b : Array UInt8) (tb : Tok) (i : Nat) : Prop := o.cls = .type "bytes_iterator" ∧ o.data = .fields #[.bytes b tb, .int i 0]
section
variable {prog : Program} {w : World} {A : Around} {E : Value → Shared → Prop} {s : Shared} {g h : Heap} {t : Nat} {mu pre tl : Led} {m : Loc} {L it : Addr} {o : Obj} {b : Array UInt8} {tb : Tok} {i : Nat}
theorem s_iterB {Q : Value → Shared → Prop} (T : At g L m mu h) (k : ∀ a o h', BI o b tb 0 → At g L m ((a, o) :: mu) h' → Q (.ref a) (Sh s h' t)) : wpAny (model prog w) A (call (.builtin "iter") [.bytes b tb]) Q E (Sh s h t) := by
  refine call_function_entry (by decide +kernel) (by decide +kernel) kdk_entry_iter (kdk_args_iter _) ?_
  unfold Builtin.«iter»
  refine wpAny_bind (m := someArgs "iter" 1 2 _) (wpAny_of_eq (a := [Value.bytes b tb]) (by first | rfl | kernel_rfl!) ?_)
  refine wpAny_bind (pyIter_bytes ?_)
  exact wpAny_pure ⟨_, rfl, k _ _ _ ⟨rfl, rfl⟩ (T.push _ rfl)⟩
theorem s_nextItem {c : UInt8} {Q : Value → Shared → Prop} (T : At g L m (pre ++ (it, o) :: tl) h) (hb : BI o b tb i) (hx : b[i]? = some c)
    (k : ∀ o' h', BI o' b tb (i + 1) → At g L m (pre ++ (it, o') :: tl) h' → Q (.int (c.toNat : Int) t) (Sh s h' (t + 1))) : wpAny (model prog w) A (call (.builtin "next") [.ref it]) Q E (Sh s h t) := by
  have ho := T.get (p := (it, o)) (List.mem_append_right _ (.head _))
  have hit : IsBytesIter h it b tb i := ⟨o, ho, hb.1, hb.2⟩
  obtain ⟨hc, hd⟩ := hb
  refine call_function_entry (by decide +kernel) (by decide +kernel) kdk_entry_next (kdk_args_next _) ?_
  unfold Builtin.«next»
  refine wpAny_bind (m := someArgs "next" 1 2 _) (wpAny_of_eq (a := [Value.ref it]) (by first | rfl | kernel_rfl!) ?_)
  dsimp only
  refine wpAny_bind (wpAny_specialOf (name := Str.ofString "__next__") (iter_typeIs hit) slot_next.lookup ?_)
  refine wpAny_ite_split (fun hab => absurd hab (by decide)) (fun _ => ?_)
  refine wpAny_bind (wpAny_callSpecial?_slot (name := PySem.Str.ofString "__next__") (iter_typeIs hit) slot_next
    (wpAny_call_entry slot_next (iter_typeIs hit) entry_next ?_ (args_next _)))
  show wpAny _ _ (field (.ref it) 0 >>= _) _ _ _
  refine wpAny_bind (wpAny_field ho hd (x := .bytes b tb) rfl ?_)
  show wpAny _ _ (if (Value.bytes b tb == Value.none) = true then _ else _) _ _ _
  rw [if_neg (show ¬ ((Value.bytes b tb == Value.none) = true) from Bool.false_ne_true)]
  show wpAny _ _ (field (.ref it) 1 >>= _) _ _ _
  refine wpAny_bind (wpAny_field ho hd (x := .int i 0) rfl ?_)
  refine wpAny_bind (wpAny_of_eq (a := b) rfl ?_)
  simp only [Int.toNat_natCast, hx]
  refine wpAny_bind (wpAny_setField ho hd (by simp) (wpAny_bind (wpAny_mkInt (wpAny_pure ⟨_, rfl, wpAny_pure ⟨_, rfl, ?_⟩⟩))))
  refine k _ _ ⟨?_, ?_⟩ (T.setAt (Heap.SameBut.update ..) (Heap.get?_update_self _ ho (Obj.isFreed_of_fields (Obj.data_mapFields hd _))))
  · exact (Obj.cls_mapFields ..).trans hc
  · rw [Obj.data_mapFields hd]; simp [rawInt]
theorem s_nextEnd {Q : Value → Shared → Prop} (hh : A.handled = none) (T : At g L m (pre ++ (it, o) :: tl) h) (hb : BI o b tb i) (hx : b[i]? = none)
    (k : ∀ o' h₀ h' e, At g L m (pre ++ (it, o') :: tl) h₀ → Heap.MadeExcOf h₀ h' e (.type "StopIteration") [] → E (.ref e) (Sh s h' t)) : wpAny (model prog w) A (call (.builtin "next") [.ref it]) Q E (Sh s h t) := by
  have ho := T.get (p := (it, o)) (List.mem_append_right _ (.head _))
  have hit : IsBytesIter h it b tb i := ⟨o, ho, hb.1, hb.2⟩
  obtain ⟨hc, hd⟩ := hb
  refine call_function_entry (by decide +kernel) (by decide +kernel) kdk_entry_next (kdk_args_next _) ?_
  unfold Builtin.«next»
  refine wpAny_bind (m := someArgs "next" 1 2 _) (wpAny_of_eq (a := [Value.ref it]) (by first | rfl | kernel_rfl!) ?_)
  dsimp only
  refine wpAny_bind (wpAny_specialOf (name := Str.ofString "__next__") (iter_typeIs hit) slot_next.lookup ?_)
  refine wpAny_ite_split (fun hab => absurd hab (by decide)) (fun _ => ?_)
  refine wpAny_bind (wpAny_callSpecial?_slot (name := PySem.Str.ofString "__next__") (iter_typeIs hit) slot_next
    (wpAny_call_entry slot_next (iter_typeIs hit) entry_next ?_ (args_next _)))
  show wpAny _ _ (field (.ref it) 0 >>= _) _ _ _
  refine wpAny_bind (wpAny_field ho hd (x := .bytes b tb) rfl ?_)
  show wpAny _ _ (if (Value.bytes b tb == Value.none) = true then _ else _) _ _ _
  rw [if_neg (show ¬ ((Value.bytes b tb == Value.none) = true) from Bool.false_ne_true)]
  show wpAny _ _ (field (.ref it) 1 >>= _) _ _ _
  refine wpAny_bind (wpAny_field ho hd (x := .int i 0) rfl ?_)
  refine wpAny_bind (wpAny_of_eq (a := b) rfl ?_)
  simp only [Int.toNat_natCast, hx]
  refine wpAny_bind (wpAny_rule (wpAny_bind (wpAny_setField ho hd (by simp) ?_)))
  have T₀ := T.setAt (h' := h.update it (Obj.mapFields (·.setIfInBounds 0 .none))) (Heap.SameBut.update ..) (Heap.get?_update_self _ ho (Obj.isFreed_of_fields (Obj.data_mapFields hd _)))
  show wpAny _ _ (newExc (.type "StopIteration") [] >>= _) _ _ _
  refine wpAny_bind ?_
  simp only [newExc, newTuple]
  refine wpAny_bind (wpAny_newObj_type ?_ (by size_fits))
  refine wpAny_bind (m := firstArgMember _ _) (wpAny_of_eq (a := Value.none) (by first | rfl | (simp only [firstArgMember]; rfl)) ?_)
  refine wpAny_newObj_type ?_ (by size_fits)
  simp only [raiseNew]
  refine wpAny_bind (wpAny_handled ?_)
  rw [show A.in1.in1.handled = none from hh]
  refine wpAny_bind (wpAny_pure (wpAny_throw ?_))
  refine k _ _ _ _ T₀ ⟨fun b' o' e => Heap.get?_push_of_some _ (Heap.get?_push_of_some _ e), Heap.get?_none_of_le ?_, ⟨_, Heap.get?_push_size _ rfl, Heap.get?_none_of_le (Nat.le_refl _), Heap.get?_push_of_some _ (Heap.get?_push_size _ rfl)⟩⟩
  show _ ≤ (Heap.push _ _).objs.size
  rw [Heap.size_push]; exact Nat.le_succ _
end
end
noncomputable abbrev stopT : Value := .type "StopIteration"
noncomputable def Fly (g : Heap) (mu : Led) (fr : List (Addr × Loc)) (envs : List Env) (e : Addr) (h : Heap) : Prop :=
  ∃ base a0, Mem g mu base ∧ Heap.FlyingW base envs e stopT a0 h ∧ ∀ p ∈ fr, base.get? p.1 = none ∧ h.Ns p.1 p.2
noncomputable def Hel (g : Heap) (mu : Led) (fr : List (Addr × Loc)) (envs : List Env) (e L : Addr) (h : Heap) : Prop :=
  ∃ base a0, Mem g mu base ∧ Heap.HeldW base envs e stopT a0 L h ∧ ∀ p ∈ fr, base.get? p.1 = none ∧ h.Ns p.1 p.2
theorem ns_slots {h h' : Heap} {L : Addr} {m : Loc} (n : h.Ns L m) (x : h.UpToSlots h') : h'.Ns L m := by
  obtain ⟨o, es, ep, ho, hd, r⟩ := n
  obtain ⟨sl, e⟩ := x L o ho fun vs q => by rw [hd] at q; cases q
  exact ⟨_, es, ep, e, hd, r⟩
theorem fr_slots {base h h' : Heap} {fr : List (Addr × Loc)} (n : ∀ p ∈ fr, base.get? p.1 = none ∧ h.Ns p.1 p.2) (x : h.UpToSlots h') : ∀ p ∈ fr, base.get? p.1 = none ∧ h'.Ns p.1 p.2 :=
  fun p hp => ⟨(n p hp).1, ns_slots (n p hp).2 x⟩
theorem Fly.tail {g h : Heap} {mu : Led} {fr : List (Addr × Loc)} {env : Env} {envs : List Env} {e : Addr} (F : Fly g mu fr (env :: envs) e h) : Fly g mu fr envs e h := by
  obtain ⟨base, a0, M, ⟨k1, k2, ⟨_, _, k3⟩, k4⟩, n⟩ := F
  exact ⟨base, a0, M, ⟨k1, k2, k3, k4⟩, n⟩
theorem Fly.sub {g h : Heap} {mu : Led} {fr fr' : List (Addr × Loc)} {envs : List Env} {e : Addr} (F : Fly g mu fr envs e h) (hs : ∀ p ∈ fr', p ∈ fr) : Fly g mu fr' envs e h := by
  obtain ⟨base, a0, M, k, n⟩ := F
  exact ⟨base, a0, M, k, fun p hp => n p (hs p hp)⟩
theorem Fly.type {g h : Heap} {mu : Led} {fr : List (Addr × Loc)} {envs : List Env} {e : Addr} {s : Shared} {t : Nat} (F : Fly g mu fr envs e h) : (Sh s h t).TypeIs (.ref e) "StopIteration" := by
  obtain ⟨base, a0, M, k, n⟩ := F
  obtain ⟨ob, ho, hc⟩ := k.there
  exact ⟨ob, ho, hc⟩
noncomputable def FrOf (envs : List Env) (fr : List (Addr × Loc)) : Prop := envs.map (·.frame) = fr.map (fun p => some p.1) ∧ ∀ env ∈ envs, env.scope.kind ≠ .module
theorem funFrames_of {h base : Heap} : ∀ {envs : List Env} {fr : List (Addr × Loc)}, FrOf envs fr → (∀ p ∈ fr, base.get? p.1 = none ∧ h.Ns p.1 p.2) → h.FunFrames base envs
  | [], _, _, _ => trivial
  | env :: envs, [], ⟨a, _⟩, _ => by simp at a
  | env :: envs, p :: fr, ⟨a, b⟩, n => by
    simp only [List.map_cons, List.cons.injEq] at a
    obtain ⟨o, _, _, ho, hd, _⟩ := (n p (.head _)).2
    exact ⟨b env (.head _), ⟨p.1, o, a.1, (n p (.head _)).1, ho, fun vs q => by rw [hd] at q; cases q⟩, funFrames_of ⟨a.2, fun e he => b e (.tail _ he)⟩ fun q hq => n q (.tail _ hq)⟩
section
variable {M : Model} {A : Around} {E : Value → Shared → Prop} {s : Shared} {g h h₀ : Heap} {t : Nat} {mu : Led} {fr : List (Addr × Loc)} {env : Env} {outer envs : List Env} {e L : Addr} {Q : Unit → Shared → Prop}
theorem f_note_new (hfr : A.frames = some (env :: outer)) (hf : env.frame = some L) (fo : FrOf (env :: outer) fr) (hm : ∀ p ∈ fr, h₀.Ns p.1 p.2 ∧ g.get? p.1 = none ∧ ∀ q ∈ mu, q.1 ≠ p.1) (Mm : Mem g mu h₀) (hx : Heap.MadeExcOf h₀ h e stopT [])
    (k : ∀ h', Hel g mu fr (env :: outer) e L h' → Q () (Sh s h' t)) : wpAny M A (noteFrame (.ref e) env) Q E (Sh s h t) := by
  obtain ⟨tt, he, htn, ht⟩ := hx.there
  have hb : ∀ b, b ∈ fr.map (·.1) → (hideAll h₀ (fr.map (·.1))).get? b = none := fun b hb => hideAll_none _ hb
  have Mb : Mem g mu (hideAll h₀ (fr.map (·.1))) := by
    refine ⟨fun b o q => hideAll_get _ (Mm.keep b o q) fun hq => ?_, fun q hq => ⟨hideAll_get _ (Mm.at_ q hq).1 fun hq' => ?_, (Mm.at_ q hq).2⟩, Mm.nd⟩
    · obtain ⟨p, hp, rfl⟩ := List.mem_map.mp hq
      rw [(hm p hp).2.1] at q; cases q
    · obtain ⟨p, hp, e⟩ := List.mem_map.mp hq'
      exact (hm p hp).2.2 q hq e.symm
  have nsb : ∀ p ∈ fr, (hideAll h₀ (fr.map (·.1))).get? p.1 = none ∧ h.Ns p.1 p.2 := fun p hp => ⟨hb _ (List.mem_map_of_mem hp), (hm p hp).1.keeps hx.keeps⟩
  have stay : (hideAll h₀ (fr.map (·.1))).StaysIn h := fun b o q => hx.keeps b o (of_hideAll _ q)
  have ne : (hideAll h₀ (fr.map (·.1))).get? e = none := by
    cases q : (hideAll h₀ (fr.map (·.1))).get? e with
    | none => rfl
    | some o => have := of_hideAll _ q; rw [hx.new] at this; cases this
  unfold noteFrame
  simp only [hf]
  refine wpAny_bind (wpAny_field (s := Sh s h t) he rfl (x := .none) rfl ?_)
  rw [if_neg (by decide)]
  refine wpAny_entryW (a0 := .ref tt) hfr (funFrames_of fo nsb) hf he stay ne rfl (by simp) rfl fun h' hN => ?_
  obtain ⟨k1, k2, k3, k4⟩ := hN
  exact k h' ⟨_, _, Mb, ⟨k1, ne, k2, k3⟩, fr_slots nsb k4⟩
theorem f_note_on (hfr : A.frames = some (env :: outer)) (hf : env.frame = some L) (F : Fly g mu fr (env :: outer) e h) (k : ∀ h', Hel g mu fr (env :: outer) e L h' → Q () (Sh s h' t)) : wpAny M A (noteFrame (.ref e) env) Q E (Sh s h t) := by
  obtain ⟨base, a0, Mb, fl, n⟩ := F
  exact wpAny_looks_onW (s := Sh s h t) hfr hf fl fun h' hH x => k h' ⟨base, a0, Mb, hH, fr_slots n x⟩
theorem f_note_again (hf : env.frame = some L) (F : Hel g mu fr envs e L h) (k : Q () (Sh s h t)) : wpAny M A (noteFrame (.ref e) env) Q E (Sh s h t) := by
  obtain ⟨base, a0, Mb, fl, n⟩ := F
  exact wpAny_noteFrame_againW hf fl.2.2.2 k
theorem f_land (F : Hel g mu fr envs e L h) (k : ∀ h', Fly g mu fr envs e h' → Q () (Sh s h' t)) : wpAny M A (setFlight (.ref e) none) Q E (Sh s h t) := by
  obtain ⟨base, a0, Mb, fl, n⟩ := F
  exact wpAny_landsW (s := Sh s h t) fl fun h' hH x => k h' ⟨base, a0, Mb, hH, fr_slots n x⟩
theorem f_land2 (F : Fly g mu fr envs e h) (k : ∀ h', Fly g mu fr envs e h' → Q () (Sh s h' t)) : wpAny M A (setFlight (.ref e) none) Q E (Sh s h t) := by
  obtain ⟨base, a0, Mb, ⟨f1, f2, f3, f4⟩, n⟩ := F
  exact wpAny_setFlight_noneW (s := Sh s h t) f1 f3 f4 fun h' k1 k2 k3 k4 => k h' ⟨base, a0, Mb, ⟨k1, f2, k2, k3⟩, fr_slots n fun b o hb hn => ⟨o.slots, k4 b o hb hn⟩⟩
theorem f_came {E' : Value → Shared → Prop} (hf : env.frame = some L) (F : Hel g mu fr envs e L h) (k : ∀ h', Hel g mu fr envs e L h' → E' (.ref e) (Sh s h' t)) : cameBackBy M A env E' (.ref e) (Sh s h t) := by
  obtain ⟨base, a0, Mb, ⟨f1, f2, f3, oe, vs, T, oT, ts, he, hcls, hd, h1, hnT, hTe, hT, hdT, h3⟩, n⟩ := F
  have hsz3 : 3 < ts.size := (Array.getElem?_eq_some_iff.mp h3).1
  have other : ∀ b, b ≠ T → (h.update T (Obj.mapFields (·.setIfInBounds 3 ((some L : Option Addr).elim Value.none fun f => rawInt f)))).get? b = h.get? b :=
    fun b hb => Heap.get?_update_other _ _ (Ne.symm hb)
  have noRecord : ∀ b o, h.get? b = some o → (∀ vs, o.data ≠ .fields vs) → b ≠ T := fun b o hb hnf q => by
    rw [q, hT] at hb; injection hb with hb; subst hb; exact hnf ts hdT
  unfold cameBackBy
  refine wpAny_bind (wpAny_field (s := Sh s h t) he hd h1 ?_)
  rw [if_neg (show ¬ ((Value.ref T == Value.none) = true) from Bool.false_ne_true)]
  rw [hf]
  unfold setFlight
  refine wpAny_bind (wpAny_field (s := Sh s h t) he hd h1 ?_)
  rw [if_pos (show (Value.ref T != Value.none) = true from by simp)]
  refine wpAny_setField (s := Sh s h t) hT hdT hsz3 (k _ ⟨base, a0, Mb, ⟨fun b o hbo => (other b fun q => by rw [q, hnT] at hbo; cases hbo).trans (f1 b o hbo), f2,
    f3.of_keeps fun b o hb hnf => ⟨o, (other b (noRecord b o hb hnf)).trans hb, rfl⟩, ?_⟩, fr_slots n fun b o hb hn => ⟨o.slots, (other b (noRecord b o hb hn)).trans hb⟩⟩)
  exact ⟨oe, vs, T, _, _, (other e (Ne.symm hTe)).trans he, hcls, hd, h1, hnT, hTe, Heap.get?_update_self _ hT (Obj.isFreed_of_fields (Obj.data_mapFields hdT _)), Obj.data_mapFields hdT _, by simp [hsz3]⟩
theorem Fly.back2 {L₁ L₀ : Addr} {m₁ m₀ : Loc} (F : Fly g mu [(L₁, m₁), (L₀, m₀)] envs e h) (g1 : g.get? L₁ = none) (g0 : g.get? L₀ = none) (ne : L₁ ≠ L₀) : ∃ o₀, LCg.NsObj o₀ m₀ ∧ At g L₁ m₁ ((L₀, o₀) :: mu) h := by
  obtain ⟨base, a0, Mb, ⟨st, _⟩, n⟩ := F
  obtain ⟨b1, n1⟩ := n _ (.head _)
  obtain ⟨b0, n0⟩ := n _ (.tail _ (.head _))
  obtain ⟨o1, e1, q1⟩ := LCg.ns_obj n1
  obtain ⟨o0, e0, q0⟩ := LCg.ns_obj n0
  refine ⟨o0, q0, o1, q1, fun b o q => st b o (Mb.keep b o q), fun p hp => ?_, ?_⟩
  · rcases List.mem_cons.mp hp with rfl | hp
    · exact ⟨e1, g1⟩
    · rcases List.mem_cons.mp hp with rfl | hp
      · exact ⟨e0, g0⟩
      · exact ⟨st _ _ (Mb.at_ p hp).1, (Mb.at_ p hp).2⟩
  · rw [List.map_cons, List.map_cons]
    have no : ∀ a, base.get? a = none → a ∉ mu.map (·.1) := fun a ha hm => by
      obtain ⟨p, hp, q⟩ := List.mem_map.mp hm
      have := (Mb.at_ p hp).1
      rw [q, ha] at this; cases this
    refine List.nodup_cons.mpr ⟨fun hm => ?_, List.nodup_cons.mpr ⟨no _ b0, Mb.nd⟩⟩
    rcases List.mem_cons.mp hm with q | hm
    · exact ne q
    · exact no _ b1 hm
end
section
variable {prog : Program} {w : World} {A : Around} {E : Value → Shared → Prop} {s : Shared} {g h : Heap} {t : Nat} {mu : Led} {m : Loc} {env : Env}
noncomputable def WEnd (I : Nat → Shared → Prop) (n : Nat) (s : Shared) : Prop := ∃ m, m < n ∧ I m s
theorem s_While {test : Expr} {body orelse : List Stmt} {pos : Pos} {Q : Flow → Shared → Prop} {E : Value → Shared → Prop} {s₀ : Shared} (I : Nat → Shared → Prop)
    (turn : ∀ n s, I n s → wpAny (model prog w) A (isTrue test env (eval test env)) (fun b s₂ =>
        if b then wpAny (model prog w) A (execs body env) (fun f s₃ => match f with
            | .next => WEnd I n s₃
            | .cont => WEnd I n s₃
            | .brk => Q .next s₃
            | .ret v => Q (.ret v) s₃) (notedBy (model prog w) A env fun e s' => cameBackBy (model prog w) A env E e s') s₂
        else wpAny (model prog w) A (execs orelse env) (fun f s₃ => Q f s₃) (notedBy (model prog w) A env fun e s' => cameBackBy (model prog w) A env E e s') s₂)
        (notedBy (model prog w) A env fun e s' => cameBackBy (model prog w) A env E e s') s)
    (n : Nat) (h : I n s₀) : wpAny (model prog w) A (exec (.While test body orelse pos) env) Q E s₀ :=
  wpAny_While (codeAny_whileLoop I (fun n s hI => wpAny_mono (turn n s hI) (fun b s₂ q => by
    cases b with
    | true => exact wpAny_mono q (fun f s₃ q => by cases f <;> exact q) fun _ _ x => x
    | false => exact q) fun _ _ x => x) n h)
theorem r_enterF {R : Result → Shared → Prop} {name qual : Str} {params : Arguments} {body : List Stmt} {scope : Scope} {dV kV doc pm cdv ct oc : Value} {an od : Option Addr} {osl : Array (Option Value)} {f : Addr} {args : Args} {binds : List (Str × Value)} {rn ru : Nat}
    (r : Room A (rn + 1) (ru + 3)) (G : Gl w g) (M : Mem g mu h) (ho : (hd.heap_39 w.params).lookup f = some ⟨oc, od, .func (fnOf name qual params body scope dV kV doc pm an cdv ct), osl⟩) (hcd : codeIn (hd.heap_39 w.params) cdv qual = true)
    (hbind : BindsTo (Sh s h t) (fnOf name qual params body scope dV kV doc pm an cdv ct) args binds) (hloc : ∀ y ∈ binds, scope.names.lookup y.1 = some .local)
    (k : ∀ L h' t', Room (A.deeper (envOf qual scope L f cdv)) rn ru → At g L (fun y => binds.reverse.lookup y) mu h' → wpAny (model prog w) (A.deeper (envOf qual scope L f cdv)) (execs body (envOf qual scope L f cdv))
        (fun fl s' => R (.ok (.ret (match fl with | .ret v => v | _ => .none))) s')
        (fun e s' => wpAny (model prog w) (A.deeper (envOf qual scope L f cdv)) (leaving (envOf qual scope L f cdv) e) (fun _ s'' => R (.error e) s'') (fun e' s'' => R (.error e') s'') s') (Sh s h' t'))
    (hcell : ∀ x ∈ scope.names, x.2 ≠ .cell) (hco : scope.isCoroutine = false) (hgen : scope.isGenerator = false) (hk : scope.kind = .function) :
    codeAny (model prog w) A (.call (.ref f) args) R (Sh s h t) := by
  have hroom : A.depth < recursionLimit := by have := r.hd; omega
  refine codeAny_call_def (fd := fnOf name qual params body scope dV kV doc pm an cdv ct) (body := body) (binds := binds) hroom ((G.X.keeps M.keep) _ _ ho) rfl (G.lim.keeps M.keep) (codeRec_of (G.X.keeps M.keep) hcd) rfl hbind hcell hloc (fun h₁ hns hk₁ => ?_) hco hgen hk
  obtain ⟨o, e, n⟩ := LCg.ns_obj hns
  refine k h.objs.size h₁ _ (r.deeper _) ⟨o, n, ⟨M.keep.tr hk₁, fun p hp => ?_, ?_⟩⟩
  · rcases List.mem_cons.mp hp with rfl | hp
    · exact ⟨e, M.fresh⟩
    · exact ⟨hk₁ _ _ (M.at_ p hp).1, (M.at_ p hp).2⟩
  · rw [List.map_cons]
    refine List.nodup_cons.mpr ⟨fun hm => ?_, M.nd⟩
    obtain ⟨p, hp, e⟩ := List.mem_map.mp hm
    exact absurd (M.lt hp) (e ▸ Nat.lt_irrefl _)
end
local macro_rules | `(tactic| walk_at "loadName") => `(tactic| (with_unfolding_all refine r_localN (by assumption) (by assumption) ?_))
noncomputable abbrev rng (lo hi st : Int) (t1 t2 t3 : Tok) : Obj := { cls := .type "range", data := .fields #[.int lo t1, .int hi t2, .int st t3] }
section
variable {prog : Program} {w : World} {A : Around} {E : Value → Shared → Prop} {s : Shared} {g h : Heap} {t : Nat} {mu tl : Led} {m : Loc} {env : Env} {L : Addr} {Q : Value → Shared → Prop}
theorem s_range {n : Int} {tn : Tok} (T : At g L m mu h) (k : ∀ r h' t' t1 t2 t3, At g L m ((r, rng 0 n 1 t1 t2 t3) :: mu) h' → Q (.ref r) (Sh s h' t')) :
    wpAny (model prog w) A (call (.type "range") [.int n tn]) Q E (Sh s h t) := call_range_1 (s := Sh s h t) (k _ _ _ _ _ _ (T.push _ rfl))
theorem mu_rng {r : Addr} {lo hi : Int} {t1 t2 t3 : Tok} (T : At g L m mu h) (hm : (r, rng lo hi 1 t1 t2 t3) ∈ mu) : IsRange h r lo hi 1 t1 t2 t3 := T.get hm
theorem s_unpack {a : Addr} {items : Array Value} {n : Nat} {Q : List Value → Shared → Prop} (hh : A.handled = none) (T : At g L m mu h) (ht : h.IsTuple a items) (hn : n = items.size) (k : ∀ h', At g L m mu h' → Q items.toList (Sh s h' t)) :
    wpAny (model prog w) A (unpackItems (.ref a) n none) Q E (Sh s h t) :=
  unpackItemsN_ (s := Sh s h t) T.fr T.news ht hh hn fun h' F N => k h' (T.back F N)
end
local macro_rules | `(tactic| walk_at "unpackItems ref") => `(tactic| (refine s_unpack (Room.hh (by assumption)) (by assumption) (by walk_at "isT") rfl ?_; intro hU TU))
local macro_rules | `(tactic| walk_at "call type:range") => `(tactic| (refine s_range (by assumption) ?_; intro rN hN tN t1N t2N t3N TN))
local macro_rules | `(tactic| walk_at "call builtin:iter") => `(tactic| (refine s_iterB (by assumption) ?_; intro iN oN hN bN TN))
local macro_rules | `(tactic| walk_at "call builtin:len") => `(tactic| ((with_reducible show wpAny _ _ (call (Value.builtin _) [Value.ref _]) _ _ _); (refine s_lenL (by walk_at "isL") (by first | omega | assumption) ?_); intro tN))
theorem Mem.pick {g h : Heap} {mu mu' : Led} (M : Mem g mu h) (hs : ∀ p ∈ mu', p ∈ mu) (nd : (mu'.map (·.1)).Nodup) : Mem g mu' h := ⟨M.keep, fun p hp => M.at_ p (hs p hp), nd⟩
theorem perm_of_mem {mu : Led} {p : Addr × Obj} (hp : p ∈ mu) : ∃ rest, mu.Perm (p :: rest) := by
  obtain ⟨a, b, e⟩ := List.append_of_mem hp
  exact ⟨a ++ b, by rw [e]; exact List.perm_middle⟩
section
variable {prog : Program} {w : World} {A : Around} {s : Shared} {g h : Heap} {t : Nat} {m : Loc} {env : Env} {own its tl : Led} {target : Expr} {I : Addr} {n : Nat} {P : Nat → Value → Heap → Prop} {body orelse : List Stmt}
inductive ForAtEX (prog : Program) (w : World) (A : Around) (env : Env) (target : Expr) (body orelse : List Stmt) (s : Shared) (Q : Flow → Shared → Prop) (E : Value → Shared → Prop) (it : Value) (s₂ : Shared) : Prop
  | mk (I : Addr) (own its tl : Led) (g h : Heap) (t : Nat) (m : Loc) (n : Nat) (P : Nat → Value → Heap → Prop) (J : Nat → Heap → Loc → Led → Prop) (brk : Heap → Loc → Led → Prop) (ret : Value → Heap → Loc → Led → Prop) (EE : Value → Shared → Prop) :
    it = .ref I →
    s₂ = Sh s h t →
    Src prog w A target I its tl g h n P →
    At g env.locals m (own ++ (its ++ tl)) h →
    J 0 g m own →
    (∀ i v g₁ m₁ own₁ tl₁ h₁ t₁, i < n → (∀ p ∈ tl, p ∈ tl₁) → Ext g g₁ → P i v h₁ → J i g₁ m₁ own₁ → At g₁ env.locals m₁ (own₁ ++ tl₁) h₁ →
      wpAny (model prog w) A (assign target env v) (fun _ s₂ => wpAny (model prog w) A (execs body env) (LP s g₁ env.locals tl₁ (J (i + 1)) brk ret) EE s₂) (fun _ _ => False) (Sh s h₁ t₁)) →
    (∀ e s', EE e s' → notedBy (model prog w) A env (fun e s' => cameBackBy (model prog w) A env E e s') e s') →
    (∀ g₁ m₁ own₁ h₁ t₁, Ext g g₁ → J n g₁ m₁ own₁ → At g₁ env.locals m₁ (own₁ ++ tl) h₁ → wpAny (model prog w) A (execs orelse env) Q (fun _ _ => False) (Sh s h₁ t₁)) →
    (∀ g₁ m₁ own₁ h₁ t₁, Ext g g₁ → brk g₁ m₁ own₁ → At g₁ env.locals m₁ (own₁ ++ tl) h₁ → Q .next (Sh s h₁ t₁)) →
    (∀ v g₁ m₁ own₁ h₁ t₁, Ext g g₁ → ret v g₁ m₁ own₁ → At g₁ env.locals m₁ (own₁ ++ tl) h₁ → Q (.ret v) (Sh s h₁ t₁)) →
    ForAtEX prog w A env target body orelse s Q E it s₂
structure ForAtE (prog : Program) (w : World) (A : Around) (env : Env) (target : Expr) (body orelse : List Stmt) (s : Shared) (Q : Flow → Shared → Prop) (E : Value → Shared → Prop) (it : Value) (s₂ : Shared) : Prop where
  ex : ForAtEX prog w A env target body orelse s Q E it s₂
theorem s_ForE {iter : Expr} {pos : Pos} {E : Value → Shared → Prop} {Q : Flow → Shared → Prop} {s₀ : Shared}
    (k : wpAny (model prog w) A (eval iter env) (fun xv s₁ => wpAny (model prog w) A (pyIter xv) (fun it s₂ => ForAtE prog w A env target body orelse s Q E it s₂) E s₁) E s₀)
    (hs : ∀ x, foldedSetIterable iter env x = pure x := by intro _; rfl) :
    wpAny (model prog w) A (exec (.For target iter body orelse pos) env) Q E s₀ := by
  refine wpAny_For (wpAny_mono k (fun xv s₁ h₁ => wpAny_mono h₁ (fun it s₂ h₂ => ?_) fun _ _ e => e) fun _ _ e => e) hs
  obtain ⟨I, own, its, tl, g, h, t, m, n, P, J, brk, ret, EE, rfl, rfl, S, T, h0, turn, no, done, hb, hr⟩ := h₂.ex
  exact loop_ruleE S T J h0 turn no done hb hr
theorem for_rangeE {x : Str} {px : Pos} {lo hi : Int} {t1 t2 t3 : Tok} {a : Addr} {mu : Led} {E E' : Value → Shared → Prop} {Q : Flow → Shared → Prop} (own tl : Led) (n : Nat) (J : Nat → Heap → Loc → Led → Prop) (brk : Heap → Loc → Led → Prop) (ret : Value → Heap → Loc → Led → Prop) (EE : Value → Shared → Prop) (hh : A.handled = none) (T : At g env.locals m mu h) (hp : (own ++ tl).Perm mu) (hr : IsRange h a lo hi 1 t1 t2 t3)
    (h1 : -(2 ^ 62) ≤ lo) (h2 : hi < 2 ^ 62) (h3 : hi = lo + n) (h0 : J 0 g m own)
    (turn : ∀ i v g₁ m₁ own₁ tl₁ h₁ t₁, i < n → (∀ p ∈ tl, p ∈ tl₁) → Ext g g₁ → (∃ t, v = .int (lo + (i : Int)) t) → J i g₁ m₁ own₁ → At g₁ env.locals m₁ (own₁ ++ tl₁) h₁ →
      wpAny (model prog w) A (assign (.Name x px) env v) (fun _ s₂ => wpAny (model prog w) A (execs body env) (LP s g₁ env.locals tl₁ (J (i + 1)) brk ret) EE s₂) (fun _ _ => False) (Sh s h₁ t₁))
    (no : ∀ e s', EE e s' → notedBy (model prog w) A env (fun e s' => cameBackBy (model prog w) A env E e s') e s')
    (done : ∀ g₁ m₁ own₁ h₁ t₁, Ext g g₁ → J n g₁ m₁ own₁ → At g₁ env.locals m₁ (own₁ ++ tl) h₁ → wpAny (model prog w) A (execs orelse env) Q (fun _ _ => False) (Sh s h₁ t₁))
    (hb : ∀ g₁ m₁ own₁ h₁ t₁, Ext g g₁ → brk g₁ m₁ own₁ → At g₁ env.locals m₁ (own₁ ++ tl) h₁ → Q .next (Sh s h₁ t₁))
    (hr' : ∀ v g₁ m₁ own₁ h₁ t₁, Ext g g₁ → ret v g₁ m₁ own₁ → At g₁ env.locals m₁ (own₁ ++ tl) h₁ → Q (.ret v) (Sh s h₁ t₁)) :
    wpAny (model prog w) A (pyIter (.ref a)) (fun it s₂ => ForAtE prog w A env (.Name x px) body orelse s Q E it s₂) E' (Sh s h t) :=
  src_range own tl hh T hp hr n h1 h2 h3 fun I its h' t' S T' => ⟨I, own, its, tl, g, h', t', m, n, _, J, brk, ret, EE, rfl, rfl, S, T', h0, turn, no, done, hb, hr'⟩
end
local macro_rules | `(tactic| walk_at "enteredC") => `(tactic| ((case ho => k_is); (case hcd => k_is); (case hbind => first | exact BindsTo.of_eq rfl | exact binds_K (Frag.In.keeps (Gl.X (by assumption)) (Mem.keep (by assumption))) rfl (by k_is) rfl rfl rfl); (case hkind => exact rfl); (case hnd => decide); (case hco => exact rfl); (case hgen => exact rfl); (case hk => exact rfl)))
local macro_rules | `(tactic| walk_at "subscriptTail") => `(tactic| ((with_reducible show wpAny _ _ (subscriptTail _ (Expr.Slice _ _ (some _) _) (Value.ref _) (Value.ref _)) _ _ _); (refine' s_slice3 ?T ?hl ?pl ?pu ?pk ?h0 ?z ?_; (case T => assumption); (case hl => walk_at "isL"); (case pl => walk_at "part"); (case pu => walk_at "part"); (case pk => walk_at "part"); (case h0 => decide); (case z => walk_at "size"); intro aN hN TN)))
section
variable {g h : Heap} {L : Addr} {m : Loc} {mu : Led} {p q r u : Addr × Obj}
theorem At.swap (T : At g L m (p :: q :: mu) h) : At g L m (q :: p :: mu) h := T.perm (.swap ..)
theorem At.drop1 (T : At g L m (p :: q :: mu) h) : At g L m (p :: mu) h := T.swap.drop
theorem At.rot (T : At g L m (p :: q :: r :: mu) h) : At g L m (r :: p :: q :: mu) h := T.perm ((List.Perm.swap p r (q :: mu)).trans ((List.Perm.swap q r mu).cons p))
theorem At.rot3 (T : At g L m (p :: q :: r :: u :: mu) h) : At g L m (u :: p :: q :: r :: mu) h := T.perm ((List.Perm.swap p u (q :: r :: mu)).trans (((List.Perm.swap q u (r :: mu)).trans ((List.Perm.swap r u mu).cons q)).cons p))
end
section
variable {prog : Program} {w : World} {A : Around} {E : Value → Shared → Prop} {s : Shared} {h : Heap} {t : Nat}
theorem s_item {value slice : Expr} {a : Addr} {l : List Value} {k : Int} {u : Tok} {x : Value} {Q : Value → Shared → Prop} (hl : h.IsList a l.toArray)
    (h0 : 0 ≤ k) (hfit : k < 2 ^ 63) (hx : l[k.toNat]? = some x) (q : Q x (Sh s h t))
    (hs : subscripted slice false (.ref a) (.int k u) = operate [.ref a, .int k u] (getItem (.ref a) (.int k u)) := by with_unfolding_all rfl) (hg : ∀ r, letTemporaryGo value (.ref a) r = pure () := by intro _; with_unfolding_all rfl) :
    wpAny (model prog w) A (subscriptTail value slice (.ref a) (.int k u)) Q E (Sh s h t) := item_listL (s := Sh s h t) hl h0 hfit hx q hs hg
theorem s_itemT {value slice : Expr} {a : Addr} {l : List Value} {k : Int} {u : Tok} {x : Value} {Q : Value → Shared → Prop} (hl : h.IsTuple a l.toArray)
    (h0 : 0 ≤ k) (hfit : k < 2 ^ 63) (hx : l[k.toNat]? = some x) (q : Q x (Sh s h t))
    (hs : subscripted slice false (.ref a) (.int k u) = operate [.ref a, .int k u] (getItem (.ref a) (.int k u)) := by with_unfolding_all rfl) (hg : ∀ r, letTemporaryGo value (.ref a) r = pure () := by intro _; with_unfolding_all rfl) :
    wpAny (model prog w) A (subscriptTail value slice (.ref a) (.int k u)) Q E (Sh s h t) := by
  have hlt : k.toNat < l.length := (List.getElem?_eq_some_iff.mp hx).1
  refine item_tupleL (s := Sh s h t) (j := k.toNat) hl (by omega) hfit ?_ hx q hs hg
  have e1 : ((k.toNat : Nat) : Int) = k := by omega
  unfold seqIndex?
  simp only [show ¬ k < 0 by omega, if_false]
  rw [if_pos (by simp only [Bool.and_eq_true, decide_eq_true_eq]; omega)]
end
local macro_rules | `(tactic| walk_at "nonneg") => `(tactic| first | decide | omega | assumption)
local macro_rules | `(tactic| walk_at "subscriptTail") => `(tactic| ((with_reducible show wpAny _ _ (subscriptTail _ _ (Value.ref _) (Value.int _ _)) _ _ _); (refine' s_itemT ?hl ?h0 ?hfit ?hx ?_; (case hl => walk_at "isT"); (case h0 => walk_at "nonneg"); (case hfit => walk_at "nonneg"); (case hx => first | assumption | exact rfl | with_unfolding_all exact rfl))))
local macro_rules | `(tactic| walk_at "subscriptTail") => `(tactic| ((with_reducible show wpAny _ _ (subscriptTail _ _ (Value.ref _) (Value.int _ _)) _ _ _); (refine' s_item ?hl ?h0 ?hfit ?hx ?_; (case hl => walk_at "isL"); (case h0 => walk_at "nonneg"); (case hfit => walk_at "nonneg"); (case hx => first | assumption | exact rfl | with_unfolding_all exact rfl))))
theorem At.back2 {g h h' : Heap} {L D : Addr} {m : Loc} {mu : Led} {o : Obj} (T : At g L m mu h) (F : Fr noHeap L h' m) (N : News noHeap L h' ((D, o) :: allBut h L)) (hD : ∀ p ∈ allBut h L, p.1 < D) : At g L m ((D, o) :: mu) h' := by
  obtain ⟨oL, nL, M⟩ := T.back F fun p hp => N p (.tail _ hp)
  obtain ⟨oL₀, nL₀, M₀⟩ := T
  have hn := N _ (.head _)
  have old : ∀ b x, h.get? b = some x → b ≠ L → D ≠ b := fun b x e ne q => absurd (hD (b, x) (mem_allBut.mpr ⟨e, ne⟩)) (q ▸ Nat.lt_irrefl _)
  have gL := (M₀.at_ _ (.head _)).2
  refine ⟨oL, nL, M.keep, fun p hp => ?_, ?_⟩
  · rcases List.mem_cons.mp hp with rfl | hp
    · exact M.at_ _ (.head _)
    · rcases List.mem_cons.mp hp with rfl | hp
      · refine ⟨hn.1, ?_⟩
        cases e : g.get? D with
        | none => rfl
        | some x => exact absurd rfl (old D x (M₀.keep _ _ e) hn.2.1)
      · exact M.at_ p (.tail _ hp)
  · rw [List.map_cons, List.map_cons]
    have nd := M.nd
    rw [List.map_cons] at nd
    refine List.nodup_cons.mpr ⟨fun hm => ?_, List.nodup_cons.mpr ⟨fun hm => ?_, (List.nodup_cons.mp nd).2⟩⟩
    · rcases List.mem_cons.mp hm with e | hm
      · exact hn.2.1 e.symm
      · exact (List.nodup_cons.mp nd).1 hm
    · obtain ⟨p, hp, e⟩ := List.mem_map.mp hm
      exact old p.1 p.2 (M₀.at_ p (.tail _ hp)).1 (M₀.ne hp) e.symm
section
variable {prog : Program} {w : World} {A : Around} {E : Value → Shared → Prop} {s : Shared} {g h : Heap} {t : Nat} {mu : Led} {m : Loc} {L l : Addr} {vs : List Value} {ns : List Int} {Q : Value → Shared → Prop}
theorem s_mulL {x : Int} {u : Tok} (T : At g L m mu h) (hl : h.IsList l vs.toArray) (hlo : -(2 ^ 63 : Int) ≤ x) (hhi : x < 2 ^ 63) (hsz : vs.length * x.toNat ≤ 256)
    (k : ∀ D h', At g L m ((D, lst (List.replicate x.toNat vs).flatten 0) :: mu) h' → Q (.ref D) (Sh s h' t)) : wpAny (model prog w) A (binaryOp .Mult (.ref l) (.int x u)) Q E (Sh s h t) :=
  KMa.mul (s := Sh s h t) T.fr T.news hl hlo hhi hsz rfl fun D h' F N hD => k D h' (T.back2 (o := lst _ 0) F N hD)
theorem s_bytes (hh : A.handled = none) (T : At g L m mu h) (hl : h.IsList l vs.toArray) (hi : IntsAre vs ns) (hr : KBa.In ns) (hn : ns.length ≤ 1000000) (k : ∀ h' t' tk, At g L m mu h' → Q (.bytes (byteArr ns) t') (Sh s h' tk)) :
    wpAny (model prog w) A (call (.type "bytes") [.ref l]) Q E (Sh s h t) :=
  KBa.make_K (s := Sh s h t) T.fr T.news hh hl hi hr (by omega) fun h' t' tk F N _ => k h' t' tk (T.back F N)
theorem s_mulIB {a : Int} {ta : Tok} {b : Bool} (k : Q (.int (a * if b = true then (1 : Int) else 0) t) (Sh s h (t + 1))) : wpAny (model prog w) A (binaryOp .Mult (.int a ta) (.bool b)) Q E (Sh s h t) := IntBool.mul_int_bool k
end
local macro_rules | `(tactic| walk_at "binaryOp Mult int bool") => `(tactic| (refine s_mulIB ?_))
section
variable {prog : Program} {w : World} {A : Around} {s : Shared} {g h : Heap} {t : Nat} {m : Loc} {env cenv : Env} {mu : Led} {t1 t2 i1 i2 elt : Expr} {f1 f2 ifs : List Expr} {D a b : Addr} {scope : Scope} {pos : Pos} {cl : List (Str × Addr)} {E : Value → Shared → Prop}
  {Fin : Heap → Addr → Loc → Led → List Value → Nat → Heap → Nat → Prop}
structure Comp2Obl (prog : Program) (w : World) (A : Around) (env : Env) (t1 t2 i1 i2 elt : Expr) (f1 f2 : List Expr) (scope : Scope) (pos : Pos) (cl : List (Str × Addr)) (s : Shared) (Fin : Heap → Addr → Loc → Led → List Value → Nat → Heap → Nat → Prop) (own tl : Led) (g : Heap) (m : Loc) (n : Nat) (P : Nat → Value → Heap → Prop)
    (J : Nat → Heap → Led → List Value → Prop) : Prop where
  h0 : J 0 g own []
  turn : ∀ I C D i v g₁ m₁ own₁ tl₁ h₁ t₀ ys e, i < n → (∀ p ∈ tl, p ∈ tl₁) → Ext g g₁ → P i v h₁ → J i g₁ own₁ ys → At g₁ C m₁ (own₁ ++ ((D, lst ys e) :: tl₁)) h₁ →
      wpAny (model prog w) A (assign t1 (compEnvC scope cl C env) v) (fun _ s₂ => Tests prog w A f1 (compEnvC scope cl C env) (fun ok s₃ => if ok = true then
          wpAny (model prog w) A (emitN (.ListComp elt [⟨t1, i1, f1, 0⟩, ⟨t2, i2, f2, 0⟩] scope pos) 0 i2 I (.ref D) (compEnvC scope cl C env)) (fun fin s₄ => fin = .again (.compLoop (.ListComp elt [⟨t1, i1, f1, 0⟩, ⟨t2, i2, f2, 0⟩] scope pos) 0 (.ref I) (.ref D) (compEnvC scope cl C env)) ∧ CPD s g₁ C D tl₁ (J (i + 1)) s₄) (fun _ _ => False) s₃
        else CPD s g₁ C D tl₁ (J (i + 1)) s₃) s₂) (fun _ _ => False) (Sh s h₁ t₀)
  done : ∀ g₁ own₁ h₁ t₀ D ys e, Ext g g₁ → J n g₁ own₁ ys → At g₁ env.locals m ((D, lst ys e) :: (own₁ ++ tl)) h₁ → Fin g₁ D m (own₁ ++ tl) ys e h₁ t₀
theorem comp2_list {x : Str} {px : Pos} {vs : List Value} (own tl : Led) (J : Nat → Heap → Led → List Value → Prop) (hh : A.handled = none) (T : At g env.locals m mu h) (hp : (own ++ tl).Perm mu) (hl : h.IsList a vs.toArray)
    (ha : (∃ o, g.get? a = some o) ∨ a ∈ tl.map (·.1)) (ob : Comp2Obl prog w A env (.Name x px) t2 i1 i2 elt f1 f2 scope pos cl s Fin own tl g m vs.length (fun i v _ => vs[i]? = some v) J) :
    wpAny (model prog w) A (pyIter (.ref a)) (fun it s₂ => CompAt2 prog w A env (.Name x px) t2 i1 i2 elt f1 f2 scope pos cl s Fin it s₂) E (Sh s h t) :=
  src_list (target := .Name x px) own tl hh T hp hl ha (fun _ _ _ _ _ _ _ q => go_name _ _ _ _ _ q) fun I its h' t' S T' => ⟨I, own, its, tl, g, h', t', m, _, _, J, rfl, rfl, S, T', ob.h0, ob.turn I, ob.done⟩
structure InnerObl (prog : Program) (w : World) (A : Around) (cenv : Env) (target elt : Expr) (ifs : List Expr) (D : Addr) (s : Shared) (Q : Shared → Prop) (own tl : Led) (g : Heap) (n : Nat) (P : Nat → Value → Heap → Prop) (J : Nat → Heap → Led → List Value → Prop) (ys₀ : List Value) : Prop where
  h0 : J 0 g own ys₀
  turn : ∀ i v g₁ m₁ own₁ tl₁ h₁ t₁ ys e, i < n → (∀ p ∈ tl, p ∈ tl₁) → Ext g g₁ → P i v h₁ → J i g₁ own₁ ys → At g₁ cenv.locals m₁ (own₁ ++ ((D, lst ys e) :: tl₁)) h₁ →
      wpAny (model prog w) A (assign target cenv v) (fun _ s₂ => Tests prog w A ifs cenv (fun ok s₃ => if ok = true then wpAny (model prog w) A (emitA elt (.ref D) cenv) (fun _ s₄ => CPD s g₁ cenv.locals D tl₁ (J (i + 1)) s₄) (fun _ _ => False) s₃
        else CPD s g₁ cenv.locals D tl₁ (J (i + 1)) s₃) s₂) (fun _ _ => False) (Sh s h₁ t₁)
  done : ∀ g₁ m₁ own₁ h₁ t₁ ys e, Ext g g₁ → J n g₁ own₁ ys → At g₁ cenv.locals m₁ (own₁ ++ ((D, lst ys e) :: tl)) h₁ → Q (Sh s h₁ t₁)
theorem inner_list {x : Str} {px : Pos} {vs ys₀ : List Value} {e₀ : Nat} {Q : Shared → Prop} (own tl : Led) (J : Nat → Heap → Led → List Value → Prop) (hh : A.handled = none) (T : At g cenv.locals m mu h) (hp : (own ++ ((D, lst ys₀ e₀) :: tl)).Perm mu) (hl : h.IsList a vs.toArray)
    (ha : (∃ o, g.get? a = some o) ∨ a ∈ tl.map (·.1)) (ob : InnerObl prog w A cenv (.Name x px) elt ifs D s Q own tl g vs.length (fun i v _ => vs[i]? = some v) J ys₀) :
    wpAny (model prog w) A (pyIter (.ref a)) (fun it s₂ => InnerAt prog w A cenv (.Name x px) elt ifs D s Q it s₂) E (Sh s h t) := by
  have hp' : ((own ++ [(D, lst ys₀ e₀)]) ++ tl).Perm mu := by rw [List.append_assoc]; exact hp
  refine src_list (target := .Name x px) (own ++ [(D, lst ys₀ e₀)]) tl hh T hp' hl ha (fun _ _ _ _ _ _ _ q => go_name _ _ _ _ _ q) fun I its h' t' S T' => ?_
  refine ⟨I, own, its, tl, g, h', t', m, _, _, J, ys₀, e₀, rfl, rfl, S, T'.perm ?_, ob.h0, ob.turn, ob.done⟩
  rw [List.append_assoc]
  exact (List.perm_middle (l₁ := its) (l₂ := tl) (a := (D, lst ys₀ e₀))).append_left own
end
theorem rep_ints (a : Int) (t : Tok) : ∀ k : Nat, IntsAre (List.replicate k [Value.int a t]).flatten (List.replicate k a)
  | 0 => .nil
  | k + 1 => by rw [List.replicate_succ, List.replicate_succ, List.flatten_cons]; exact .cons a t (rep_ints a t k)
theorem len_rep (v : Value) (k : Nat) : (List.replicate k [v]).flatten.length = k := by induction k with | zero => rfl | succ k ih => rw [List.replicate_succ, List.flatten_cons, List.length_append, ih]; simp; omega
local macro_rules | `(tactic| walk_at "binaryOp Add ref ref") => `(tactic| (refine' s_addL ?T ?hl ?hb ?z ?_; (case T => assumption); (case hl => walk_at "isL"); (case hb => walk_at "isL"); (case z => walk_at "size2"); intro aN hN TN))
local macro_rules | `(tactic| walk_at "size2") => `(tactic| (refine Nat.le_trans ?_ (show 1000 ≤ sizeLine by decide); first | omega | (simp only [List.length_append, List.length_cons, List.length_nil, len_rep]; omega)))
noncomputable def EA (s : Shared) (g₁ : Heap) (C D : Addr) (tl₁ : Led) (J : Heap → Led → List Value → Prop) (y : Value) (s₄ : Shared) : Prop :=
  ∃ g₂ m₂ own₂ h₂ t₂ ys e, s₄ = Sh s h₂ t₂ ∧ Ext g₁ g₂ ∧ At g₂ C m₂ (own₂ ++ ((D, lst ys e) :: tl₁)) h₂ ∧ ys.length ≤ sizeLine ∧ J g₂ own₂ (ys ++ [y])
theorem s_emitB {prog : Program} {w : World} {A : Around} {s : Shared} {cenv : Env} {elt : Expr} {g₁ : Heap} {C D : Addr} {tl₁ : Led} {J : Heap → Led → List Value → Prop} {s₀ : Shared}
    (k : wpAny (model prog w) A (eval elt cenv) (EA s g₁ C D tl₁ J) (fun _ _ => False) s₀) :
    wpAny (model prog w) A (emitA elt (.ref D) cenv) (fun _ s₄ => CPD s g₁ C D tl₁ J s₄) (fun _ _ => False) s₀ := s_emitA k
local macro_rules | `(tactic| walk_at "sublist") => `(tactic| first | exact List.Sublist.refl _ | (refine List.Sublist.cons_cons _ ?_; walk_at "sublist") | (refine List.Sublist.cons _ ?_; walk_at "sublist"))
theorem isStr_at (k : Str) : ∀ {vs : List Value} {ns : List Str}, StrsAre vs ns → ∀ (j : Nat) (h1 : j < vs.length) (h2 : j < ns.length), isStrOf k vs[j] = (ns[j] == k)
  | _, _, .cons n t _, 0, _, _ => rfl
  | _, _, .cons n t r, j + 1, h1, h2 => isStr_at k r j (Nat.lt_of_succ_lt_succ h1) (Nat.lt_of_succ_lt_succ h2)
theorem ne_of_lt_idxOfS {k : Str} : ∀ {ns : List Str} {j : Nat}, j < ns.idxOf k → ∀ (h2 : j < ns.length), (ns[j] == k) = false
  | n :: r, 0, h, _ => by
    by_cases e : n = k
    · subst e; simp at h
    · simpa using e
  | n :: r, j + 1, h, h2 => by
    by_cases e : n = k
    · subst e; simp at h
    · have hb : (n == k) = false := by simpa using e
      rw [List.idxOf_cons, hb] at h
      exact ne_of_lt_idxOfS (ns := r) (by simpa using h) (by simpa using h2)
theorem strs_len {vs : List Value} {ns : List Str} (h : StrsAre vs ns) : vs.length = ns.length := by induction h with | nil => rfl | cons _ _ _ ih => simp [ih]
theorem strs_getV {vs : List Value} {ns : List Str} (h : StrsAre vs ns) {j : Nat} {v : Value} (hv : vs[j]? = some v) : ∃ n t, v = .str n t ∧ ns[j]? = some n := by
  induction h generalizing j with
  | nil => simp at hv
  | cons n t _ ih =>
    cases j with
    | zero => exact ⟨n, t, by simpa using hv.symm, rfl⟩
    | succ j => simpa using ih (by simpa using hv)
theorem strs_get {vs : List Value} {ns : List Str} (h : StrsAre vs ns) {j : Nat} {n : Str} (hn : ns[j]? = some n) : ∃ t, vs[j]? = some (.str n t) := by
  induction h generalizing j with
  | nil => simp at hn
  | cons n t _ ih =>
    cases j with
    | zero => exact ⟨t, by simp at hn ⊢; exact hn⟩
    | succ j => simpa using ih (by simpa using hn)
section
variable {prog : Program} {w : World} {A : Around} {E : Value → Shared → Prop} {s : Shared} {g h : Heap} {t : Nat} {mu : Led} {m : Loc} {L l : Addr} {vs : List Value} {ns : List Int} {ys : List Str} {Q : Value → Shared → Prop}
theorem s_indexS {k : Str} {tk : Tok} (hl : h.IsList l vs.toArray) (hi : StrsAre vs ys) (hn : ys.length ≤ 1000000) (hk : k ∈ ys) (q : Q (.int (ys.idxOf k : Nat) t) (Sh s h (t + 1))) :
    wpAny (model prog w) A (call (.builtin "list.index") [.ref l, .str k tk]) Q E (Sh s h t) := by
  obtain ⟨⟨cls, dd, data, sl⟩, ho, hc, n, hd⟩ := id hl
  simp only at hc hd
  subst hc hd
  have hlen := strs_len hi
  have hj : ys.idxOf k < ys.length := List.idxOf_lt_length_iff.mpr hk
  refine call_meets (s := Sh s h t) PySem.F.slot_list_index ⟨_, ho, rfl⟩ PySem.F.entry_list_index (PySem.F.args_list_index_2 _ _)
    (SeqAt.list_indexAt l vs.toArray n dd sl (.str k tk) (isStrOf k) (ys.idxOf k) (by simpa [hlen] using hj) (by omega) ?_ ?_) ⟨ho, fun y hy => (eq_isStrOf k tk hi y (by simpa using hy)).at _ _, q⟩
  · show isStrOf k vs[ys.idxOf k] = true
    rw [isStr_at k hi _ (by omega) hj]
    simpa using List.getElem_idxOf hj
  · intro j hjs hlt
    show isStrOf k vs[j] = false
    rw [isStr_at k hi j (by simpa using hjs) (by omega)]
    exact ne_of_lt_idxOfS hlt _
theorem s_indexI {k : Int} {tk : Tok} (hl : h.IsList l vs.toArray) (hi : IntsAre vs ns) (hn : ns.length ≤ 1000000) (hk : k ∈ ns) (q : Q (.int (ns.idxOf k : Nat) t) (Sh s h (t + 1))) :
    wpAny (model prog w) A (call (.builtin "list.index") [.ref l, .int k tk]) Q E (Sh s h t) := by
  obtain ⟨⟨cls, dd, data, sl⟩, ho, hc, n, hd⟩ := id hl
  simp only at hc hd
  subst hc hd
  have hlen := hi.length
  have hj : ns.idxOf k < ns.length := List.idxOf_lt_length_iff.mpr hk
  refine call_meets (s := Sh s h t) PySem.F.slot_list_index ⟨_, ho, rfl⟩ PySem.F.entry_list_index (PySem.F.args_list_index_2 _ _)
    (SeqAt.list_indexAt l vs.toArray n dd sl (.int k tk) (isInt k) (ns.idxOf k) (by simpa [hlen] using hj) (by omega) ?_ ?_) ⟨ho, fun y hy => (eq_isInt k tk hi y (by simpa using hy)).at _ _, q⟩
  · show isInt k vs[ns.idxOf k] = true
    rw [isInt_at k hi _ (by omega) hj]
    simpa using List.getElem_idxOf hj
  · intro j hjs hlt
    show isInt k vs[j] = false
    rw [isInt_at k hi j (by simpa using hjs) (by omega)]
    exact ne_of_lt_idxOf hlt _
theorem s_inS {k : Str} {tk : Tok} (hl : h.IsList l vs.toArray) (hi : StrsAre vs ys) (q : Q (.bool (ys.any (· == k))) (Sh s h t)) : wpAny (model prog w) A (compareOp .In (.str k tk) (.ref l)) Q E (Sh s h t) := in_list_strs hl hi q
theorem s_inI {k : Int} {tk : Tok} (hl : h.IsList l vs.toArray) (hi : IntsAre vs ns) (q : Q (.bool (ns.any (· == k))) (Sh s h t)) : wpAny (model prog w) A (compareOp .In (.int k tk) (.ref l)) Q E (Sh s h t) := in_list_ints hl hi q
theorem s_notInI {k : Int} {tk : Tok} (hl : h.IsList l vs.toArray) (hi : IntsAre vs ns) (q : Q (.bool (!(ns.any (· == k)))) (Sh s h t)) : wpAny (model prog w) A (compareOp .NotIn (.int k tk) (.ref l)) Q E (Sh s h t) := notin_list_ints hl hi q
theorem s_mIndex {pl : Sem Bool} {e : Nat} {Q : Value × List Value → Shared → Prop} (ho : h.get? l = some (lst vs e)) (q : Q (.builtin "list.index", [.ref l]) (Sh s h t)) : wpAny (model prog w) A (getMethod (.ref l) "index" pl) Q E (Sh s h t) :=
  getMethod_builtin (s := Sh s h t) ⟨_, ho, rfl⟩ PySem.F.plainAttrs_list PySem.F.slot_list_index PySem.F.type_list_index (fun a x => by cases x; exact ⟨_, ho, rfl⟩) q
theorem lst_isL {e : Nat} (ho : h.get? l = some (lst vs e)) : h.IsList l vs.toArray := ⟨_, ho, rfl, _, rfl⟩
end
local macro_rules | `(tactic| walk_at "isL") => `(tactic| first | assumption | exact mu_isL (by assumption) (by walk_at "mem") | exact isList_up (At.keep (by assumption)) (by assumption) | exact lst_isL (At.keep (by assumption) _ _ (by assumption)))
local macro_rules | `(tactic| walk_at "getMethod ref") => `(tactic| ((with_reducible show wpAny _ _ (getMethod (Value.ref _) (PySem.Str.ofString "index") _) _ _ _); (first | refine s_mIndex (At.keep (by assumption) _ _ (by assumption)) ?_ | refine s_mIndex (At.get (by assumption) (by walk_at "mem")) ?_)))
section
variable {prog : Program} {w : World} {A : Around} {s : Shared} {g h : Heap} {t : Nat} {mu : Led} {m : Loc} {L : Addr}
theorem r_enterKw {R : Result → Shared → Prop} {name qual : Str} {params : Arguments} {body : List Stmt} {scope : Scope} {dV kV doc pm cdv ct oc : Value} {an od : Option Addr} {osl : Array (Option Value)} {f : Addr} {args : Args} {nm : Str} {ex front : List (Str × Value)} {g₁ : Addr → Sem (List (Str × Value))} {rn ru : Nat}
    (r : Room A (rn + 1) (ru + 3)) (G : Gl w g) (T : At g L m mu h) (ho : (hd.heap_39 w.params).lookup f = some ⟨oc, od, .func (fnOf name qual params body scope dV kV doc pm an cdv ct), osl⟩) (hcd : codeIn (hd.heap_39 w.params) cdv qual = true)
    (hn : (ex.map (·.1)).Nodup)
    (hp : peekA (hd.heap_39 w.params) ⟨prog, w.params⟩ (bindArgs (fnOf name qual params body scope dV kV doc pm an cdv ct) args) = some (dictOf [] 0, g₁))
    (hk₁ : ∀ D, g₁ D = (forIn ex PUnit.unit (fun x _ => (nsSet D x.1 x.2 >>= fun _ => pure (ForInStep.yield PUnit.unit))) >>= fun _ => pure (front ++ [(nm, Value.ref D)])))
    (hloc : ∀ D, ∀ y ∈ front ++ [(nm, Value.ref D)], scope.names.lookup y.1 = some .local)
    (k : ∀ A' L' D oL tk n h' t', (D == sysModules) = false → Room A' rn ru → LCg.NsObj oL m → At g L' (fun y => (front ++ [(nm, Value.ref D)]).reverse.lookup y) ((D, dictOf (kwEs w.params tk ex) n) :: (L, oL) :: mu) h' → wpAny (model prog w) A' (execs body (envOf qual scope L' f cdv))
        (fun fl s' => R (.ok (.ret (match fl with | .ret v => v | _ => .none))) s') (fun _ _ => False) (Sh s h' t'))
    (hcell : ∀ x ∈ scope.names, x.2 ≠ .cell) (hco : scope.isCoroutine = false) (hgen : scope.isGenerator = false) (hk : scope.kind = .function) :
    codeAny (model prog w) A (.call (.ref f) args) R (Sh s h t) := by
  have hroom : A.depth < recursionLimit := by have := r.hd; omega
  have X := G.X.keeps T.keep
  refine codeAny_call_function (s := Sh s h t) (fd := fnOf name qual params body scope dV kV doc pm an cdv ct) (body := body) hroom (X _ _ ho) rfl hco hgen rfl (codeRec_of X hcd) ?_
  refine wp_of_peekA (o := dictOf [] 0) T.fr T.news X rfl _ g₁ hp fun h₁ F₁ N₁ l => ?_
  rw [hk₁]
  refine wpAny_bind (kp_fill ex { (Sh s h t) with heap := h₁ } [] 0 F₁ N₁ (fun p hp => Nat.ne_of_lt (l p hp)) (fun _ he => nomatch he) (fun _ he => nomatch he) hn fun h₂ F₂ N₂ => wpAny_pure ?_)
  have T₂ := T.back2 F₂ N₂ l
  have lim := G.lim.keeps T₂.keep
  refine wpAny_newFunctionEnv (s := Sh s h₂ _) hcell (hloc _) (fun h₃ hns hsb => ⟨lim.fresh _ hsb, codeAny_func ?_⟩) hk
  have hk₃ : ∀ b o, h₂.get? b = some o → h₃.get? b = some o := fun b o e => hsb.extBut b o (Nat.ne_of_lt (Heap.lt_size e)) (Heap.get?_push_of_some _ e)
  obtain ⟨oL, nL, M₂⟩ := T₂
  obtain ⟨oN, eN, nN⟩ := LCg.ns_obj hns
  refine wpAny_mono (k _ h₂.objs.size h.objs.size oL t (0 + ex.length) h₃ _ (beq_eq_false_iff_ne.mpr (Nat.ne_of_gt (modules_low (G.lim.keeps T.keep)))) (r.deeper _) nL ⟨oN, nN, ((M₂.ext hk₃).perm (.swap ..)).keep, fun p hp => ?_, ?_⟩) (fun _ _ x => x) fun _ _ x => x.elim
  · rcases List.mem_cons.mp hp with rfl | hp
    · exact ⟨eN, M₂.fresh⟩
    · exact ((M₂.ext hk₃).perm (.swap ..)).at_ p hp
  · rw [List.map_cons]
    refine List.nodup_cons.mpr ⟨fun hm => ?_, ((M₂.perm (.swap ..)).nd)⟩
    obtain ⟨p, hp, e⟩ := List.mem_map.mp hm
    exact absurd ((M₂.perm (.swap ..)).lt hp) (e ▸ Nat.lt_irrefl _)
theorem At.butOne {it : Addr} {o : Obj} {h' : Heap} (T : At g L m ((it, o) :: mu) h) (hx : Heap.ExtBut it h h') : At g L m mu h' := by
  obtain ⟨oL, nL, M⟩ := T
  have gi := (M.at_ _ (.tail _ (.head _))).2
  have nd := M.nd
  rw [List.map_cons, List.map_cons] at nd
  refine ⟨oL, nL, fun b x e => hx b x (fun q => ?_) (M.keep b x e), fun p hp => ?_, (M.sub ((List.sublist_cons_self _ _).cons_cons _)).nd⟩
  · rw [q, show g.get? it = none from gi] at e; cases e
  · rcases List.mem_cons.mp hp with rfl | hp
    · exact ⟨hx _ _ (fun q => (List.nodup_cons.mp nd).1 (q ▸ .head _)) (M.at_ _ (.head _)).1, (M.at_ _ (.head _)).2⟩
    · exact ⟨hx _ _ (fun q => (List.nodup_cons.mp (List.nodup_cons.mp nd).2).1 (List.mem_map.mpr ⟨p, hp, q⟩)) (M.at_ p (.tail _ (.tail _ hp))).1, (M.at_ p (.tail _ (.tail _ hp))).2⟩
theorem nilDict {D : Addr} {n : Nat} (T : At g L m mu h) (hm : (D, dictOf [] n) ∈ mu) : h.DictAt (PySem.strKind prog w) D [] n :=
  ⟨_, _, T.get hm, ⟨rfl, rfl, rfl⟩, rfl, fun e he => by simp at he, .nil, List.nodup_nil⟩
theorem s_mItems {D : Addr} {n : Nat} {pl : Sem Bool} {E : Value → Shared → Prop} {Q : Value × List Value → Shared → Prop} (T : At g L m mu h) (hm : (D, dictOf [] n) ∈ mu) (k : Q (.builtin "dict.items", [.ref D]) (Sh s h t)) :
    wpAny (model prog w) A (getMethod (.ref D) "items" pl) Q E (Sh s h t) :=
  have hD : h.DictOf (PySem.strKind prog w) D [] := let ⟨o, es, r⟩ := nilDict (prog := prog) (w := w) T hm; ⟨o, es, n, r⟩
  getMethod_builtin (s := Sh s h t) hD.typeIs PySem.F.plainAttrs_dict PySem.F.slot_dict_items PySem.F.type_dict_items hD.mapOf.noDict k
theorem for_nil {D : Addr} {n : Nat} {E : Value → Shared → Prop} {R : Value → Result → Shared → Prop} {target : Expr} {body : List Stmt} {env : Env} (hh : A.handled = none) (hD : (D == sysModules) = false) (T : At g L m mu h) (hm : (D, dictOf [] n) ∈ mu)
    (k : ∀ it h' t', At g L m mu h' → R it (.ok .next) (Sh s h' t')) :
    wpAny (model prog w) A (call (.builtin "dict.items") [.ref D]) (fun xv s₁ => wpAny (model prog w) A (pyIter xv) (fun it s₂ => codeAny (model prog w) A (.forLoop target it body [] env) (R it) s₂) E s₁) E (Sh s h t) := by
  have hd := nilDict (prog := prog) (w := w) T hm
  have hD2 : h.DictOf (PySem.strKind prog w) D [] := let ⟨o, es, r⟩ := hd; ⟨o, es, n, r⟩
  refine call_meetsIn (s := Sh s h t) PySem.F.slot_dict_items hD2.typeIs PySem.F.entry_dict_items (PySem.F.args_dict_items_1 _) (meets_dict_items (PySem.strKind prog w) D hD) ⟨⟨[], hD2⟩, ?_⟩
  have T1 := T.push { cls := .type "dict_items", data := .fields #[.ref D] } rfl
  refine wpAny_pyIter_items (s := Sh s _ t) ⟨_, T1.get (.head _), rfl, rfl⟩ (nilDict T1 (.tail _ hm)) ?_
  have T2 := T1.push { cls := .type "dict_itemiterator", data := .fields #[.none, .bool false, .ref D, .int 0 0, .int ([] : List (Str × Value)).length 0, .int n 0, .none, .none] } rfl
  refine codeAny_forLoop_any (fun _ s' => s' = Sh s _ t) ?_ 0 rfl
  rintro _ s' rfl
  refine wpAny_pyNext_items_end (s := Sh s _ t) (knd := PySem.strKind prog w) (kvs := []) (i := 0) (ep := n) hh (T2.get (.head _)) (nilDict T2 (.tail _ (.tail _ hm))) rfl fun h3 hx => ?_
  refine wpAny_pure ?_
  exact k _ h3 t (T2.butOne hx).drop
end
theorem bitNot_bitNot (x : Int) : Builtin.bitNot (Builtin.bitNot x) = x := by unfold Builtin.bitNot; omega
theorem bitAnd_nat (a b : Nat) : Builtin.bitAnd (a : Int) b = ((a &&& b : Nat) : Int) := by
  unfold Builtin.bitAnd
  rw [decide_eq_true (Int.natCast_nonneg a), decide_eq_true (Int.natCast_nonneg b)]
  simp
theorem bitOr_nat (a b : Nat) : Builtin.bitOr (a : Int) b = ((a ||| b : Nat) : Int) := by
  unfold Builtin.bitOr Builtin.bitAnd
  have h : ∀ n : Nat, decide (0 ≤ Builtin.bitNot (n : Int)) = false := fun n => decide_eq_false (by unfold Builtin.bitNot; omega)
  rw [h a, h b]
  simp only [bitNot_bitNot, Int.toNat_natCast]
theorem and63 (c : Nat) : Builtin.bitAnd (c : Int) 63 = ((c % 64 : Nat) : Int) := by
  rw [show (63 : Int) = ((63 : Nat) : Int) from rfl, bitAnd_nat, Nat.and_two_pow_sub_one_eq_mod c 6]
theorem and64 : ∀ c : Nat, c < 256 → Builtin.bitAnd (c : Int) 64 = ((64 * (c / 64 % 2) : Nat) : Int) := by decide +kernel
theorem or64 (v d : Nat) : Builtin.bitOr ((v * 64 : Nat) : Int) ((d % 64 : Nat) : Int) = ((v * 64 + d % 64 : Nat) : Int) := by
  rw [bitOr_nat]
  congr 1
  have := Nat.shiftLeft_add_eq_or_of_lt (b := d % 64) (i := 6) (Nat.mod_lt _ (by decide)) v
  rw [Nat.shiftLeft_eq] at this
  exact this.symm
noncomputable def pvGo (v c : Nat) : List Nat → Option (Nat × List Nat)
  | [] => if c / 64 % 2 = 1 then none else some (v, [])
  | d :: ds => if c / 64 % 2 = 1 then pvGo (v * 64 + d % 64) d ds else some (v, d :: ds)
noncomputable def pv : List Nat → Option (Nat × List Nat)
  | [] => none
  | c :: cs => pvGo (c % 64) c cs
theorem pvGo_stop {v c : Nat} (l : List Nat) (h : ¬ c / 64 % 2 = 1) : pvGo v c l = some (v, l) := by
  cases l <;> (unfold pvGo; rw [if_neg h])
theorem pvGo_nil {v c : Nat} (h : c / 64 % 2 = 1) : pvGo v c [] = none := by unfold pvGo; rw [if_pos h]
theorem pvGo_cons {v c d : Nat} {l : List Nat} (h : c / 64 % 2 = 1) : pvGo v c (d :: l) = pvGo (v * 64 + d % 64) d l := by rw [pvGo, if_pos h]
noncomputable def tokL : List (Str × Tok × Int × Tok) := [(Str.ofString "!", 747, 54, 743), (Str.ofString "!=", 749, 28, 691), (Str.ofString "%", 751, 24, 683), (Str.ofString "%=", 753, 40, 715), (Str.ofString "&", 755, 19, 673), (Str.ofString "&=", 757, 41, 717), (Str.ofString "(", 759, 7, 649), (Str.ofString ")", 761, 8, 651), (Str.ofString "*", 763, 16, 667), (Str.ofString "**", 765, 35, 705), (Str.ofString "**=", 767, 46, 727), (Str.ofString "*=", 769, 38, 711), (Str.ofString "+", 771, 14, 663), (Str.ofString "+=", 773, 36, 707), (Str.ofString ",", 775, 12, 659), (Str.ofString "-", 777, 15, 665), (Str.ofString "-=", 779, 37, 709), (Str.ofString "->", 781, 51, 737), (Str.ofString ".", 783, 23, 681), (Str.ofString "...", 785, 52, 739), (Str.ofString "/", 787, 17, 669), (Str.ofString "//", 789, 47, 729), (Str.ofString "//=", 791, 48, 731), (Str.ofString "/=", 793, 39, 713), (Str.ofString ":", 795, 11, 657), (Str.ofString ":=", 797, 53, 741), (Str.ofString ";", 799, 13, 661), (Str.ofString "<", 801, 20, 675), (Str.ofString "<<", 803, 33, 701), (Str.ofString "<<=", 805, 44, 723), (Str.ofString "<=", 807, 29, 693), (Str.ofString "=", 809, 22, 679), (Str.ofString "==", 811, 27, 689), (Str.ofString ">", 813, 21, 677), (Str.ofString ">=", 815, 30, 695), (Str.ofString ">>", 816, 34, 703), (Str.ofString ">>=", 817, 45, 725), (Str.ofString "@", 818, 49, 733), (Str.ofString "@=", 819, 50, 735), (Str.ofString "[", 820, 9, 653), (Str.ofString "]", 821, 10, 655), (Str.ofString "^", 822, 32, 699), (Str.ofString "^=", 823, 43, 721), (Str.ofString "{", 824, 25, 685), (Str.ofString "|", 825, 18, 671), (Str.ofString "|=", 826, 42, 719), (Str.ofString "}", 827, 26, 687), (Str.ofString "~", 828, 31, 697)]
noncomputable def flagL : List (Int × Tok × Str × Tok) := [(1, 557, Str.ofString "OPTIMIZED", 558), (2, 559, Str.ofString "NEWLOCALS", 560), (4, 561, Str.ofString "VARARGS", 562), (8, 563, Str.ofString "VARKEYWORDS", 564), (16, 565, Str.ofString "NESTED", 566), (32, 567, Str.ofString "GENERATOR", 568), (64, 569, Str.ofString "NOFREE", 570), (128, 571, Str.ofString "COROUTINE", 572), (256, 573, Str.ofString "ITERABLE_COROUTINE", 574), (512, 575, Str.ofString "ASYNC_GENERATOR", 576)]
noncomputable def tokV : List (Str × Value) := tokL.map fun x => (x.1, .int x.2.2.1 x.2.2.2)
noncomputable def flagV : List (Int × Value) := flagL.map fun x => (x.1, .str x.2.2.1 x.2.2.2)
noncomputable def tokE (w : World) : List DictEntry := tokL.map fun x => ⟨hashStr w x.1, .str x.1 x.2.1, .int x.2.2.1 x.2.2.2⟩
noncomputable def flagE : List DictEntry := flagL.map fun x => ⟨x.1, .int x.1 x.2.1, .str x.2.2.1 x.2.2.2⟩
theorem tok_dict (prog : Program) {w : World} {g : Heap} (G : Gl w g) : g.DictOf (PySem.strKind prog w) 234 tokV := by
  refine ⟨_, (tokE w).toArray, 48, G.X 234 _ (by k_is), ⟨rfl, rfl, rfl⟩, rfl, fun e he => ?_, ?_, by decide +kernel⟩
  · obtain ⟨x, hx, rfl⟩ := List.mem_map.mp (List.mem_toArray.mp he)
    exact ⟨x.1, strKind_is prog w _ _, rfl⟩
  · unfold tokE tokV
    generalize tokL = l
    induction l with
    | nil => exact .nil
    | cons x l ih => exact .cons (strKind_is prog w _ _) rfl ih
theorem flag_dict (prog : Program) {w : World} {g : Heap} (G : Gl w g) : g.DictOf (PySem.intKind prog w) 189 flagV := by
  refine ⟨_, flagE.toArray, 10, G.X 189 _ (by k_is), ⟨rfl, rfl, rfl⟩, rfl, fun e he => ?_, ?_, by decide +kernel⟩
  · obtain ⟨x, hx, rfl⟩ := List.mem_map.mp (List.mem_toArray.mp he)
    exact ⟨x.1, intKind_is prog w _ _, (show ∀ x ∈ flagL, x.1 = hashInt x.1 by decide +kernel) x hx⟩
  · unfold flagE flagV
    generalize flagL = l
    induction l with
    | nil => exact .nil
    | cons x l ih => exact .cons (intKind_is prog w _ _) rfl ih
section
variable {prog : Program} {w : World} {A : Around} {E : Value → Shared → Prop} {s : Shared} {g h : Heap} {t : Nat} {mu : Led} {m : Loc} {L : Addr}
theorem s_flagMethod {pl : Sem Bool} {Q : Value × List Value → Shared → Prop} (G : Gl w g) (T : At g L m mu h) (k : Q (.builtin "dict.get", [.ref 189]) (Sh s h t)) : wpAny (model prog w) A (getMethod (.ref 189) "get" pl) Q E (Sh s h t) :=
  have hD := flag_dict prog (G.up T.keep)
  getMethod_builtin (s := Sh s h t) hD.typeIs PySem.F.plainAttrs_dict PySem.F.slot_dict_get PySem.F.type_dict_get hD.mapOf.noDict k
theorem s_flagGet {i : Int} {ti : Tok} {dv : Value} {Q : Value → Shared → Prop} (G : Gl w g) (T : At g L m mu h) (k : Q ((PySem.valueAt flagV i).getD dv) (Sh s h (t + 1))) :
    wpAny (model prog w) A (call (.builtin "dict.get") [.ref 189, .int i ti, dv]) Q E (Sh s h t) :=
  have hD := flag_dict prog (G.up T.keep)
  call_meetsIn (s := Sh s h t) PySem.F.slot_dict_get hD.typeIs PySem.F.entry_dict_get (PySem.F.args_dict_get_3 _ _ _) (meets_dict_get_default (PySem.intKind prog w) 189 (intKind_is prog w i ti) (by decide) dv) ⟨_, hD.mapOf, k⟩
theorem s_tokIn {x : Str} {tx : Tok} {Q : Value → Shared → Prop} (G : Gl w g) (T : At g L m mu h) (k : Q (.bool (PySem.valueAt tokV x).isSome) (Sh s h (t + 1))) :
    wpAny (model prog w) A (compareOp .In (.str x tx) (.ref 234)) Q E (Sh s h t) :=
  have hD := tok_dict prog (G.up T.keep)
  wpAny_in_of (s := Sh s h t) (strKind_is prog w x tx) (by decide) hD.mapOf k
theorem s_tokItem {value slice : Expr} {x : Str} {tx : Tok} {v : Value} {Q : Value → Shared → Prop} (G : Gl w g) (T : At g L m mu h) (hl : PySem.valueAt tokV x = some v) (k : Q v (Sh s h (t + 1)))
    (hs : subscripted slice false (.ref 234) (.str x tx) = operate [.ref 234, .str x tx] (getItem (.ref 234) (.str x tx)) := by with_unfolding_all rfl) (hg : ∀ r, letTemporaryGo value (.ref 234) r = pure () := by intro _; with_unfolding_all rfl) :
    wpAny (model prog w) A (subscriptTail value slice (.ref 234) (.str x tx)) Q E (Sh s h t) :=
  have hD := tok_dict prog (G.up T.keep)
  subscriptTail_builtin (s := Sh s h t) hD.typeIs slot_dict_getitem.lookup (wpAny_getItem_of (strKind_is prog w x tx) hD.mapOf hl k) hs hg
end
local macro_rules | `(tactic| walk_at "getMethod ref") => `(tactic| (refine s_flagMethod (by assumption) (by assumption) ?_))
local macro_rules | `(tactic| walk_at "call builtin:dict.get") => `(tactic| (refine s_flagGet (by assumption) (by assumption) ?_))
local macro_rules | `(tactic| walk_at "compareOp In str ref") => `(tactic| (refine s_tokIn (by assumption) (by assumption) ?_))
section
variable {prog : Program} {w : World} {A : Around} {s : Shared} {g h : Heap} {t : Nat} {mu : Led} {R : Result → Shared → Prop} {L : Addr} {m : Loc} {E : Value → Shared → Prop}
set_option maxHeartbeats 0 in
theorem conv_spec {self : Value} {x : Str} {tx : Tok} (nm : Bool) (r : Room A 1 60) (G : Gl w g) (M : Mem g mu h)
   (hx : okx x = true) (hl : x.cps.size < 2 ^ 63)
   (k : ∀ h' tk, Mem g mu h' → R (.ok (.ret (.str x tx))) (Sh s h' tk)) :
   codeAny (model prog w) A (.call (.ref 83) ⟨[self, .str x tx], [("name", .bool nm)]⟩) R (Sh s h t) := by
  refine' r_enter (binds := [("self", self), ("value", .str x tx), ("name", .bool nm)]) r G M ?ho ?hcd ?hbind ?hloc ?k ?hcell ?hco ?hgen ?hk
  walk_at "entered"
  intro A' L h1 tk1 rA T
  cases nm
  all_goals (repeat walk1)
  all_goals exact k _ _ (At.mem (by assumption))
theorem c_conv {self : Value} {x : Str} {tx : Tok} {nm : Bool} {Q : Value → Shared → Prop} (r : Room A 1 60) (G : Gl w g) (T : At g L m mu h) (hx : okx x = true) (hl : x.length ≤ 1000)
   (k : ∀ h' tk, At g L m mu h' → Q (.str x tx) (Sh s h' tk)) : wpAny (model prog w) A (call (.ref 83) [self, .str x tx] [("name", .bool nm)]) Q E (Sh s h t) :=
  let ⟨oL, n, M⟩ := T
  wpAny_call (conv_spec nm r G M hx (by have : x.cps.size = x.length := rfl; omega) fun h' tk M' => k h' tk ⟨oL, n, M'⟩)
end
local macro_rules | `(tactic| walk_at "call ref") => `(tactic| (refine' c_conv ?r ?G ?T ?hx ?hl ?_; (case r => exact Room.le (by assumption) (by decide) (by decide)); (case G => assumption); (case T => assumption); (case hx => assumption); (case hl => assumption); intro hC tC TC))
section
variable {prog : Program} {w : World} {A : Around} {s : Shared} {g h : Heap} {t : Nat} {mu : Led} {R : Result → Shared → Prop} {L : Addr} {m : Loc} {E : Value → Shared → Prop}

noncomputable def getRows (rows : List (Str × Str)) (x : Str) : Option Str := (rows.find? fun p => Txt.lower p.1 == Txt.lower x).map (·.2)
noncomputable def GetRes (rows : List (Str × Str)) (x : Str) (dv : Value) (v : Value) : Prop := match getRows rows x with
  | some y => ∃ ty, v = .str y ty
  | none => v = dv

set_option maxHeartbeats 0 in
theorem get_spec {tb hl : Addr} {vs : List Value} {e : Nat} {rows : List (Str × Str)} {x : Str} {tx : Tok} {dv : Value} {args : Args} (hargs : args = ⟨[.ref tb, .str x tx, dv], []⟩ ∨ (args = ⟨[.ref tb, .str x tx], []⟩ ∧ dv = .none) ∨ args = ⟨[.ref tb, .str x tx], [("default", dv)]⟩)
   (r : Room A 3 100) (G : Gl w g) (M : Mem g mu h)
   (hT : Tbl g tb hl) (hm : (hl, lst vs e) ∈ mu) (hr : RdA g vs (rows.map rowD)) (hrs : ∀ p ∈ rows, p.1.length ≤ 1000)
   (hx : okx (Txt.lower x) = true) (hx1 : x.length ≤ 1000) (hx2 : (Txt.lower x).length ≤ 1000)
   (k : ∀ v h' t', Mem g mu h' → GetRes rows x dv v → R (.ok (.ret v)) (Sh s h' t')) :
   codeAny (model prog w) A (.call (.ref 131) args) R (Sh s h t) := by
  refine' r_enter (binds := [("self", .ref tb), ("name", .str x tx), ("default", dv)]) r G M ?ho ?hcd ?hbind ?hloc ?k ?hcell ?hco ?hgen ?hk
  case ho => k_is
  case hcd => k_is
  case hbind =>
    rcases hargs with rfl | ⟨rfl, rfl⟩ | rfl
    · exact binds_K (G.X.keeps M.keep) rfl (by k_is) rfl rfl rfl
    · exact binds_K (G.X.keeps M.keep) rfl (by k_is) rfl rfl rfl
    · exact binds_K (G.X.keeps M.keep) rfl (by k_is) rfl rfl rfl
  case hloc => exact locs rfl
  case hcell => decide
  case hco => exact rfl
  case hgen => exact rfl
  case hk => exact rfl
  intro A' L h1 tk1 rA T
  repeat walk1
  refine s_For (s := s) ?_
  walk1
  walk1
  walk1
  rename_i hS tS T1
  refine for_listT [] mu (fun i _ m₁ own₁ => own₁ = [] ∧ (∃ tn, m₁ "name" = some (.str (Txt.lower x) tn)) ∧ m₁ "default" = some dv ∧ ∀ j < i, ∀ p, rows[j]? = some p → (Txt.lower p.1 == Txt.lower x) = false) (fun _ _ _ => False)
    (fun v _ _ own₁ => own₁ = [] ∧ GetRes rows x dv v) rA.hh T1 (List.Perm.refl _) (vs := vs) ⟨_, T1.get hm, rfl, _, rfl⟩ (.inr (List.mem_map.mpr ⟨_, hm, rfl⟩))
    ⟨⟨rfl, ⟨_, rfl⟩, rfl, fun j hj => absurd hj (Nat.not_lt_zero _)⟩, ?_, ?_, fun _ _ _ _ _ _ x => x.elim, ?_⟩
  · rintro i v g₁ m₁ own₁ tl₁ h₃ t₃ hi hsub x₁ hv ⟨rfl, ⟨tn, hn⟩, hd, hno⟩ T3 Post hPost
    obtain ⟨d, hd1, rd⟩ := hr.get hv
    obtain ⟨p, hp, rfl⟩ : ∃ p, rows[i]? = some p ∧ rowD p = d := by
      rw [List.getElem?_map] at hd1
      cases e : rows[i]? with
      | none => rw [e] at hd1; cases hd1
      | some p => rw [e] at hd1; cases hd1; exact ⟨p, rfl, rfl⟩
    obtain ⟨T, ta, tb', rfl, hTT⟩ := rd.row
    have hTT' := isTuple_up T3.keep (isTuple_up x₁ hTT)
    have hl1 : p.1.length ≤ 1000 := hrs p (List.mem_of_getElem? hp)
    repeat' walk1
    · refine hPost _ _ (lp_ret (own₂ := []) (by assumption) Ext.rfl' ⟨rfl, ?_⟩)
      rename_i hq
      unfold GetRes getRows
      have : rows.find? (fun p => Txt.lower p.1 == Txt.lower x) = some p := by
        rw [List.find?_eq_some_iff_getElem]
        obtain ⟨hi', e⟩ := List.getElem?_eq_some_iff.mp hp
        refine ⟨hq, i, hi', e, fun j hj => ?_⟩
        have := hno j hj (rows[j]'(by omega)) (List.getElem?_eq_getElem (by omega))
        simpa using this
      rw [this]
      exact ⟨tb', rfl⟩
    · rename_i hS tS TS hf
      refine hPost _ _ (lp_next (own₂ := []) TS Ext.rfl' ⟨rfl, ⟨tn, by with_unfolding_all exact hn⟩, by with_unfolding_all exact hd, fun j hj q hq => ?_⟩)
      rcases Nat.lt_succ_iff_lt_or_eq.mp hj with hj | rfl
      · exact hno j hj q hq
      · rw [hp] at hq; cases hq
        simpa using hf
  · rintro g₁ m₁ own₁ h₃ t₃ x₁ ⟨rfl, ⟨tn, hn⟩, hd, hno⟩ T3
    repeat' walk1
    refine k _ _ _ (T3.mem.weak x₁) ?_
    unfold GetRes getRows
    have : rows.find? (fun p => Txt.lower p.1 == Txt.lower x) = none := by
      rw [List.find?_eq_none]
      intro p hp
      obtain ⟨j, hj, e⟩ := List.mem_iff_getElem.mp hp
      have hl := hr.length
      rw [List.length_map] at hl
      have := hno j (by omega) p (by rw [← e]; exact List.getElem?_eq_getElem hj)
      simpa using this
    rw [this]
    rfl
  · rintro v g₁ m₁ own₁ h₃ t₃ x₁ ⟨rfl, hv⟩ T3
    exact k v h₃ t₃ (T3.mem.weak x₁) hv
end
section
variable {prog : Program} {w : World} {A : Around} {s : Shared} {g h : Heap} {t : Nat} {mu : Led} {R : Result → Shared → Prop} {L : Addr} {m : Loc} {E : Value → Shared → Prop}
theorem c_get {tb hl : Addr} {vs : List Value} {e : Nat} {rows : List (Str × Str)} {x : Str} {tx : Tok} {Q : Value → Shared → Prop} (r : Room A 3 100) (G : Gl w g) (T : At g L m mu h)
   (hT : Tbl g tb hl) (hm : (hl, lst vs e) ∈ mu) (hr : RdA g vs (rows.map rowD)) (hrs : ∀ p ∈ rows, p.1.length ≤ 1000)
   (hx : okx (Txt.lower x) = true) (hx1 : x.length ≤ 1000) (hx2 : (Txt.lower x).length ≤ 1000)
   (k : ∀ v h' t', At g L m mu h' → GetRes rows x .none v → Q v (Sh s h' t')) : wpAny (model prog w) A (call (.ref 131) [.ref tb, .str x tx]) Q E (Sh s h t) :=
  let ⟨oL, n, M⟩ := T
  wpAny_call (get_spec (.inr (.inl ⟨rfl, rfl⟩)) r G M hT (.tail _ hm) hr hrs hx hx1 hx2 fun v h' t' M' q => k v h' t' ⟨oL, n, M'⟩ q)

set_option maxHeartbeats 0 in
theorem setdefault_spec {tb hl : Addr} {vs : List Value} {e : Nat} {rows : List (Str × Str)} {x y : Str} {tx ty : Tok}
   (r : Room A 5 200) (G : Gl w g) (M : Mem g ((hl, lst vs e) :: mu) h)
   (hT : Tbl g tb hl) (hr : RdA g vs (rows.map rowD)) (hrs : ∀ p ∈ rows, p.1.length ≤ 1000) (hn : vs.length ≤ 900)
   (hx : okx (Txt.lower x) = true) (hx0 : okx x = true) (hx1 : x.length ≤ 1000) (hx2 : (Txt.lower x).length ≤ 1000) (hy0 : okx y = true) (hy1 : y.length ≤ 1000)
   (k1 : ∀ z tz h' t', getRows rows x = some z → Mem g ((hl, lst vs e) :: mu) h' → R (.ok (.ret (.str z tz))) (Sh s h' t'))
   (k2 : ∀ T g' e' h' t', getRows rows x = none → Ext g g' → Mem g' ((hl, lst (vs ++ [.ref T]) e') :: mu) h' → RdA g' (vs ++ [.ref T]) ((rows ++ [(x, y)]).map rowD) → R (.ok (.ret (.str y ty))) (Sh s h' t')) :
   codeAny (model prog w) A (.call (.ref 174) ⟨[.ref tb, .str x tx, .str y ty], []⟩) R (Sh s h t) := by
  refine' r_enter (binds := [("self", .ref tb), ("name", .str x tx), ("value", .str y ty)]) r G M ?ho ?hcd ?hbind ?hloc ?k ?hcell ?hco ?hgen ?hk
  walk_at "entered"
  intro A' L h1 tk1 rA T
  repeat' walk1
  refine c_get (rA.le (by decide) (by decide)) G T hT (List.Mem.head _) hr hrs hx hx1 hx2 fun v h2 t2 T2 hres => ?_
  cases hq : getRows rows x with
  | some z =>
    simp only [GetRes, hq] at hres
    obtain ⟨tz, rfl⟩ := hres
    repeat' walk1
    exact k1 z tz _ _ hq (At.mem (by assumption))
  | none =>
    simp only [GetRes, hq] at hres
    subst hres
    repeat' walk1
    rename_i TF
    obtain ⟨g', x', T', e'⟩ := TF.freeze
    refine k2 _ g' _ _ _ hq x' T'.mem ?_
    rw [List.map_append]
    exact (hr.up x').snoc (Rd.tup e' rfl rfl (RdA.cons' (Rd.str _ _) (RdA.cons' (Rd.str _ _) RdA.nil)))
theorem c_setdefault {tb hl : Addr} {vs : List Value} {e : Nat} {rows : List (Str × Str)} {x y : Str} {tx ty : Tok} {Q : Value → Shared → Prop}
   (r : Room A 5 200) (G : Gl w g) (T : At g L m ((hl, lst vs e) :: mu) h)
   (hT : Tbl g tb hl) (hr : RdA g vs (rows.map rowD)) (hrs : ∀ p ∈ rows, p.1.length ≤ 1000) (hn : vs.length ≤ 900)
   (hx : okx (Txt.lower x) = true) (hx0 : okx x = true) (hx1 : x.length ≤ 1000) (hx2 : (Txt.lower x).length ≤ 1000) (hy0 : okx y = true) (hy1 : y.length ≤ 1000)
   (k1 : ∀ z tz h' t', getRows rows x = some z → At g L m ((hl, lst vs e) :: mu) h' → Q (.str z tz) (Sh s h' t'))
   (k2 : ∀ T g' e' h' t', getRows rows x = none → Ext g g' → At g' L m ((hl, lst (vs ++ [.ref T]) e') :: mu) h' → RdA g' (vs ++ [.ref T]) ((rows ++ [(x, y)]).map rowD) → Q (.str y ty) (Sh s h' t')) :
   wpAny (model prog w) A (call (.ref 174) [.ref tb, .str x tx, .str y ty]) Q E (Sh s h t) :=
  let ⟨oL, n, M⟩ := T
  wpAny_call (setdefault_spec (mu := (L, oL) :: mu) r G (M.perm (.swap ..)) hT hr hrs hn hx hx0 hx1 hx2 hy0 hy1 (fun z tz h' t' q M' => k1 z tz h' t' q ⟨oL, n, M'.perm (.swap ..)⟩)
    fun T g' e' h' t' q x' M' rr => k2 T g' e' h' t' q x' ⟨oL, n, M'.perm (.swap ..)⟩ rr)
end
section
variable {prog : Program} {w : World} {A : Around} {s : Shared} {g h : Heap} {t : Nat} {mu : Led} {R : Result → Shared → Prop} {L : Addr} {m : Loc} {E : Value → Shared → Prop}
theorem take_snoc {α : Type} {l : List α} {i : Nat} {x : α} (h : l[i]? = some x) : l.take (i + 1) = l.take i ++ [x] := by
  rw [List.take_succ, h]; rfl
theorem RdA.rowAt {vs : List Value} {rows : List (Str × Str)} {i : Nat} {v : Value} (hr : RdA g vs (rows.map rowD)) (hv : vs[i]? = some v) : ∃ p T ta tb, rows[i]? = some p ∧ v = .ref T ∧ g.IsTuple T #[.str p.1 ta, .str p.2 tb] := by
  obtain ⟨d, hd1, rd⟩ := hr.get hv
  obtain ⟨p, hp, rfl⟩ : ∃ p, rows[i]? = some p ∧ rowD p = d := by
    rw [List.getElem?_map] at hd1
    cases e : rows[i]? with
    | none => rw [e] at hd1; cases hd1
    | some p => rw [e] at hd1; cases hd1; exact ⟨p, rfl, rfl⟩
  obtain ⟨T', ta, tb', rfl, hTT⟩ := rd.row
  exact ⟨p, T', ta, tb', hp, rfl, hTT⟩
set_option maxHeartbeats 0 in
theorem keys_spec {tb hl : Addr} {vs : List Value} {e : Nat} {rows : List (Str × Str)}
   (r : Room A 2 100) (G : Gl w g) (M : Mem g mu h) (hT : Tbl g tb hl) (hm : (hl, lst vs e) ∈ mu) (hr : RdA g vs (rows.map rowD)) (hn : vs.length ≤ 900)
   (k : ∀ D ks e' h' t', Mem g ((D, lst ks e') :: mu) h' → RdA g ks (rows.map fun p => .str p.1) → R (.ok (.ret (.ref D))) (Sh s h' t')) :
   codeAny (model prog w) A (.call (.ref 136) ⟨[.ref tb], []⟩) R (Sh s h t) := by
  refine' r_enter (binds := [("self", .ref tb)]) r G M ?ho ?hcd ?hbind ?hloc ?k ?hcell ?hco ?hgen ?hk
  walk_at "entered"
  intro A' L h1 tk1 rA T
  repeat' walk1
  refine' s_ListComp (s := s) ?_ ?hclos ?hcell ?hkind ?hnames
  walk_at "comp sides"
  walk1
  walk1
  walk1
  refine comp_listT [] mu (fun i _ own₁ ys => own₁ = [] ∧ RdA g ys ((rows.map fun p => PyData.str p.1).take i)) rA.hh T (List.Perm.refl _) (vs := vs) ⟨_, T.get hm, rfl, _, rfl⟩ (.inr (List.mem_map.mpr ⟨_, hm, rfl⟩))
    ⟨⟨rfl, RdA.nil⟩, ?_, ?_, ?_⟩
  · exact szL hn (by decide)
  · rintro C i v g₁ m₁ own₁ tl₁ h₃ t₃ ys hi hsub x₁ hv ⟨rfl, hys⟩ T3 Post hPost
    obtain ⟨p, T', ta, tb', hp, rfl, hTT⟩ := hr.rowAt hv
    have hTT' := isTuple_up T3.keep (isTuple_up x₁ hTT)
    repeat' walk1
    refine hPost _ _ (cp_end (own₂ := []) (by assumption) Ext.rfl' ⟨rfl, ?_⟩)
    rw [take_snoc (x := .str p.1) (by rw [List.getElem?_map, hp]; rfl)]
    exact hys.snoc (Rd.str _ _)
  · rintro g₁ own₁ h₃ t₃ D ys e' x₁ ⟨rfl, hys⟩ T3 T4
    refine k D ys e' h₃ t₃ (T3.mem.weak x₁) ?_
    rwa [List.take_of_length_le (by rw [hr.length]; simp)] at hys
theorem c_keys {tb hl : Addr} {vs : List Value} {e : Nat} {rows : List (Str × Str)} {Q : Value → Shared → Prop}
   (r : Room A 2 100) (G : Gl w g) (T : At g L m mu h) (hT : Tbl g tb hl) (hm : (hl, lst vs e) ∈ mu) (hr : RdA g vs (rows.map rowD)) (hn : vs.length ≤ 900)
   (k : ∀ D ks e' h' t', At g L m ((D, lst ks e') :: mu) h' → RdA g ks (rows.map fun p => .str p.1) → Q (.ref D) (Sh s h' t')) :
   wpAny (model prog w) A (call (.ref 136) [.ref tb]) Q E (Sh s h t) :=
  let ⟨oL, n, M⟩ := T
  wpAny_call (keys_spec r G M hT (.tail _ hm) hr hn fun D ks e' h' t' M' q => k D ks e' h' t' ⟨oL, n, M'.perm (.swap ..)⟩ q)

set_option maxHeartbeats 0 in
theorem items_spec {tb hl : Addr} {vs : List Value} {e : Nat}
   (r : Room A 2 100) (G : Gl w g) (M : Mem g mu h) (hT : Tbl g tb hl) (hm : (hl, lst vs e) ∈ mu) (hn : vs.length ≤ 900)
   (k : ∀ D e' h' t', Mem g ((D, lst vs e') :: mu) h' → R (.ok (.ret (.ref D))) (Sh s h' t')) :
   codeAny (model prog w) A (.call (.ref 148) ⟨[.ref tb], []⟩) R (Sh s h t) := by
  refine' r_enter (binds := [("self", .ref tb)]) r G M ?ho ?hcd ?hbind ?hloc ?k ?hcell ?hco ?hgen ?hk
  walk_at "entered"
  intro A' L h1 tk1 rA T
  repeat' walk1
  rename_i TN
  rw [slicePick_all] at TN
  exact k _ _ _ _ TN.mem
theorem c_items {tb hl : Addr} {vs : List Value} {e : Nat} {Q : Value → Shared → Prop}
   (r : Room A 2 100) (G : Gl w g) (T : At g L m mu h) (hT : Tbl g tb hl) (hm : (hl, lst vs e) ∈ mu) (hn : vs.length ≤ 900)
   (k : ∀ D e' h' t', At g L m ((D, lst vs e') :: mu) h' → Q (.ref D) (Sh s h' t')) :
   wpAny (model prog w) A (call (.ref 148) [.ref tb]) Q E (Sh s h t) :=
  let ⟨oL, n, M⟩ := T
  wpAny_call (items_spec r G M hT (.tail _ hm) hn fun D e' h' t' M' => k D e' h' t' ⟨oL, n, M'.perm (.swap ..)⟩)
end
section
variable {prog : Program} {w : World} {A : Around} {s : Shared} {g h : Heap} {t : Nat} {mu : Led} {R : Result → Shared → Prop} {L : Addr} {m : Loc} {E : Value → Shared → Prop}
set_option maxHeartbeats 0 in
theorem term_spec {i : Int} {ti : Tok} (r : Room A 1 40) (G : Gl w g) (M : Mem g mu h) (k : ∀ h' t', Mem g mu h' → R (.ok (.ret (.bool (decide (i < 256))))) (Sh s h' t')) :
   codeAny (model prog w) A (.call (.ref 243) ⟨[.int i ti], []⟩) R (Sh s h t) := by
  refine' r_enter (binds := [("x", .int i ti)]) r G M ?ho ?hcd ?hbind ?hloc ?k ?hcell ?hco ?hgen ?hk
  walk_at "entered"
  intro A' L h1 tk1 rA T
  repeat' walk1
  exact k _ _ T.mem
set_option maxHeartbeats 0 in
theorem nonterm_spec {i : Int} {ti : Tok} (r : Room A 1 40) (G : Gl w g) (M : Mem g mu h) (k : ∀ h' t', Mem g mu h' → R (.ok (.ret (.bool (decide (i ≥ 256))))) (Sh s h' t')) :
   codeAny (model prog w) A (.call (.ref 250) ⟨[.int i ti], []⟩) R (Sh s h t) := by
  refine' r_enter (binds := [("x", .int i ti)]) r G M ?ho ?hcd ?hbind ?hloc ?k ?hcell ?hco ?hgen ?hk
  walk_at "entered"
  intro A' L h1 tk1 rA T
  repeat' walk1
  exact k _ _ T.mem
set_option maxHeartbeats 0 in
theorem eof_spec {i : Int} {ti : Tok} (r : Room A 1 40) (G : Gl w g) (M : Mem g mu h) (k : ∀ h' t', Mem g mu h' → R (.ok (.ret (.bool (i == 0)))) (Sh s h' t')) :
   codeAny (model prog w) A (.call (.ref 257) ⟨[.int i ti], []⟩) R (Sh s h t) := by
  refine' r_enter (binds := [("x", .int i ti)]) r G M ?ho ?hcd ?hbind ?hloc ?k ?hcell ?hco ?hgen ?hk
  walk_at "entered"
  intro A' L h1 tk1 rA T
  repeat' walk1
  exact k _ _ T.mem
theorem c_term {i : Int} {ti : Tok} {Q : Value → Shared → Prop} (r : Room A 1 40) (G : Gl w g) (T : At g L m mu h) (k : ∀ h' t', At g L m mu h' → Q (.bool (decide (i < 256))) (Sh s h' t')) : wpAny (model prog w) A (call (.ref 243) [.int i ti]) Q E (Sh s h t) :=
  let ⟨oL, n, M⟩ := T
  wpAny_call (term_spec r G M fun h' t' M' => k h' t' ⟨oL, n, M'⟩)
theorem c_nonterm {i : Int} {ti : Tok} {Q : Value → Shared → Prop} (r : Room A 1 40) (G : Gl w g) (T : At g L m mu h) (k : ∀ h' t', At g L m mu h' → Q (.bool (decide (i ≥ 256))) (Sh s h' t')) : wpAny (model prog w) A (call (.ref 250) [.int i ti]) Q E (Sh s h t) :=
  let ⟨oL, n, M⟩ := T
  wpAny_call (nonterm_spec r G M fun h' t' M' => k h' t' ⟨oL, n, M'⟩)
theorem c_eof {i : Int} {ti : Tok} {Q : Value → Shared → Prop} (r : Room A 1 40) (G : Gl w g) (T : At g L m mu h) (k : ∀ h' t', At g L m mu h' → Q (.bool (i == 0)) (Sh s h' t')) : wpAny (model prog w) A (call (.ref 257) [.int i ti]) Q E (Sh s h t) :=
  let ⟨oL, n, M⟩ := T
  wpAny_call (eof_spec r G M fun h' t' M' => k h' t' ⟨oL, n, M'⟩)
end
local macro_rules | `(tactic| walk_at "call ref") => `(tactic| ((first | refine' c_term ?r ?G ?T ?_ | refine' c_nonterm ?r ?G ?T ?_ | refine' c_eof ?r ?G ?T ?_); (case r => exact Room.le (by assumption) (by decide) (by decide)); (case G => assumption); (case T => assumption); intro hC tC TC))
noncomputable def restB (b : Array UInt8) (i : Nat) : List Nat := (b.toList.map (·.toNat)).drop i
theorem restB_none {b : Array UInt8} {i : Nat} (h : b[i]? = none) : restB b i = [] := by
  unfold restB
  rw [List.drop_eq_nil_iff]
  have := Array.getElem?_eq_none_iff.mp h
  simpa using this
theorem restB_some {b : Array UInt8} {i : Nat} {c : UInt8} (h : b[i]? = some c) : restB b i = c.toNat :: restB b (i + 1) := by
  unfold restB
  obtain ⟨hi, e⟩ := Array.getElem?_eq_some_iff.mp h
  rw [List.drop_eq_getElem_cons (by simpa using hi)]
  simp [e]
inductive JP (s : Shared) (g : Heap) (tl : Led) (L L1 L0 it : Addr) (o1 o0 : Obj) (b : Array UInt8) (tb : Tok) (i : Nat) (n : Nat) (s' : Shared) : Prop
  | mk (v c j : Nat) (o' : Obj) (h' : Heap) (t' : Nat) (tb' tv : Tok) (m' : Loc) : s' = Sh s h' t' → At g L m' ([(L1, o1), (L0, o0)] ++ (it, o') :: tl) h' → m' "b" = some (.int (c : Nat) tb') → m' "val" = some (.int (v : Nat) tv) → m' "iterator" = some (.ref it) →
      BI o' b tb j → pv (restB b i) = pvGo v c (restB b j) → c < 256 → v < 2 ^ (6 * j) → j ≤ b.size → n = b.size - j → JP s g tl L L1 L0 it o1 o0 b tb i n s'
section
variable {prog : Program} {w : World} {A : Around} {s : Shared} {g h : Heap} {t : Nat} {mu tl : Led} {R : Result → Shared → Prop} {L : Addr} {m : Loc} {E : Value → Shared → Prop}
set_option maxHeartbeats 0 in
theorem pv_spec {it L1 L0 : Addr} {o o1 o0 : Obj} {m1 m0 : Loc} {env1 env0 : Env} {b : Array UInt8} {tb : Tok} {i : Nat} (r : Room A 1 100) (G : Gl w g)
   (hfr : A.frames = some [env1, env0]) (hf1 : env1.frame = some L1) (hf0 : env0.frame = some L0) (hk1 : env1.scope.kind ≠ .module) (hk0 : env0.scope.kind ≠ .module) (n1 : LCg.NsObj o1 m1) (n0 : LCg.NsObj o0 m0)
   (M : Mem g ((L1, o1) :: (L0, o0) :: (it, o) :: tl) h) (hb : BI o b tb i) (hsz : b.size ≤ 1000)
   (k1 : ∀ v j o' h' t' tv, pv (restB b i) = some (v, restB b j) → BI o' b tb j → Mem g ((L1, o1) :: (L0, o0) :: (it, o') :: tl) h' → R (.ok (.ret (.int (v : Nat) tv))) (Sh s h' t'))
   (k2 : ∀ e o' h' t', pv (restB b i) = none → Fly g ((it, o') :: tl) [(L1, m1), (L0, m0)] [env1, env0] e h' → R (.error (.ref e)) (Sh s h' t')) :
   codeAny (model prog w) A (.call (.ref 233) ⟨[.ref it], []⟩) R (Sh s h t) := by
  refine' r_enterF (binds := [("iterator", .ref it)]) r G M ?ho ?hcd ?hbind ?hloc ?k ?hcell ?hco ?hgen ?hk
  walk_at "entered"
  intro L h1 tk1 rA T
  -- a state with the three frames, before StopIteration
  have frs : ∀ {m' : Loc} {o' : Obj} {h' : Heap}, At g L m' ([(L1, o1), (L0, o0)] ++ (it, o') :: tl) h' → (∀ p ∈ [(L, m'), (L1, m1), (L0, m0)], h'.Ns p.1 p.2 ∧ g.get? p.1 = none ∧ ∀ q ∈ ((it, o') :: tl : Led), q.1 ≠ p.1) ∧ Mem g ((it, o') :: tl) h' := by
    rintro m' o' h' ⟨oL, nL, MM⟩
    have M2 : Mem g ((it, o') :: tl) h' := MM.sub ((List.sublist_append_right [(L, oL), (L1, o1), (L0, o0)] _))
    refine ⟨?_, M2⟩
    have hne := MM.nd
    simp only [List.cons_append, List.nil_append, List.map_cons, List.nodup_cons, List.mem_cons, List.mem_map, not_or, not_exists, not_and] at hne
    obtain ⟨⟨a1, a2, a3, a4⟩, ⟨b2, b3, b4⟩, ⟨c3, c4⟩, _⟩ := hne
    intro p hp
    simp only [List.mem_cons, List.not_mem_nil, or_false] at hp
    rcases hp with rfl | rfl | rfl
    · refine ⟨nL.ns (MM.get (.head _)), (MM.at_ _ (.head _)).2, fun q hq => ?_⟩
      rcases List.mem_cons.mp hq with rfl | hq
      · exact fun z => a3 z.symm
      · exact a4 q hq
    · refine ⟨n1.ns (MM.get (.tail _ (.head _))), (MM.at_ _ (.tail _ (.head _))).2, fun q hq => ?_⟩
      rcases List.mem_cons.mp hq with rfl | hq
      · exact fun z => b3 z.symm
      · exact b4 q hq
    · refine ⟨n0.ns (MM.get (.tail _ (.tail _ (.head _)))), (MM.at_ _ (.tail _ (.tail _ (.head _)))).2, fun q hq => ?_⟩
      rcases List.mem_cons.mp hq with rfl | hq
      · exact fun z => c3 z.symm
      · exact c4 q hq
  have fo : ∀ {m' : Loc} {env2 : Env}, env2.frame = some L → env2.scope.kind ≠ .module → FrOf [env2, env1, env0] [(L, m'), (L1, m1), (L0, m0)] := fun h2 h3 => by
    refine ⟨by simp [hf1, hf0, h2], fun env he => ?_⟩
    simp only [List.mem_cons, List.not_mem_nil, or_false] at he
    rcases he with rfl | rfl | rfl
    · exact h3
    · exact hk1
    · exact hk0
  repeat' walk1
  cases hx : b[i]? with
  | none =>
    refine s_nextEnd (pre := [(L1, o1), (L0, o0)]) rA.hh T hb hx fun o' h₀ h' e T' hx' => ?_
    obtain ⟨f1, f2⟩ := frs T'
    exact wpAny_bind (f_note_new (Around.frames_deeper hfr) rfl (fo rfl (show ScopeKind.function ≠ ScopeKind.module by decide)) f1 f2 hx' fun h'' H => f_land H fun h3 F =>
      k2 e o' h3 _ (by rw [restB_none hx]; rfl) ((Fly.tail F).sub fun p hp => .tail _ hp))
  | some c =>
    refine s_nextItem (pre := [(L1, o1), (L0, o0)]) T hb hx fun o' h' hb' T' => ?_
    repeat' walk1
    rename_i T2
    refine s_While (JP s g tl L L1 L0 it o1 o0 b tb i) ?_ (b.size - (i + 1)) ?_
    · rintro n s' ⟨v, c, j, o', h', t', tb', tv, m', rfl, T3, eb, ev, ei, hb3, hpv, hc, hv, hj, rfl⟩
      have hand := and64 c hc
      repeat' walk1
      · rename_i htr
        have hc1 : c / 64 % 2 = 1 := by
          rw [hand] at htr
          rcases Nat.mod_two_eq_zero_or_one (c / 64) with q | q
          · rw [q] at htr; simp at htr
          · exact q
        have hbits : (Builtin.Int.intBits (v : Int) : Int) + 6 ≤ 2 ^ 27 := by
          have : Builtin.Int.intBits (v : Int) ≤ 6 * j := intBits_le_iff.mpr (by simpa using hv)
          have h1 : 6 * j ≤ 6000 := by omega
          have h2 : (2 : Int) ^ 27 = 134217728 := by decide
          omega
        refine s_ilsh (by decide) hbits ?_
        repeat' walk1
        rename_i T4
        cases hy : b[j]? with
        | none =>
          refine s_nextEnd (pre := [(L1, o1), (L0, o0)]) rA.hh T4 hb3 hy fun o' h₀ h' e T' hx' => ?_
          obtain ⟨f1, f2⟩ := frs T'
          refine f_note_new (Around.frames_deeper hfr) rfl (fo rfl (show ScopeKind.function ≠ ScopeKind.module by decide)) f1 f2 hx' fun h'' H => ?_
          refine f_came rfl H fun h3 H3 => wpAny_bind (f_note_again rfl H3 (f_land H3 fun h4 F => ?_))
          exact k2 e o' h4 _ (by rw [hpv, restB_none hy, pvGo_nil hc1]) ((Fly.tail F).sub fun p hp => .tail _ hp)
        | some d =>
          refine s_nextItem (pre := [(L1, o1), (L0, o0)]) T4 hb3 hy fun o' h' hb' T' => ?_
          repeat' walk1
          rename_i T5
          have hj' : j < b.size := (Array.getElem?_eq_some_iff.mp hy).1
          refine ⟨b.size - (j + 1), by omega, v * 64 + d.toNat % 64, d.toNat, j + 1, o', _, _, ?tb1, ?tv1, _, rfl, T5, ?_, ?_, ?_, hb', ?_, d.toNat_lt, ?_, hj', rfl⟩
          rotate_left 2
          · with_unfolding_all rfl
          · rw [← or64, ← and63]
            with_unfolding_all rfl
          · with_unfolding_all exact ei
          · rw [hpv, restB_some hy, pvGo_cons hc1]
          · have h6 : 2 ^ (6 * (j + 1)) = 2 ^ (6 * j) * 64 := by rw [Nat.mul_add, Nat.pow_add]
            have : d.toNat % 64 < 64 := Nat.mod_lt _ (by decide)
            omega
      · rename_i htr
        have hc0 : ¬ c / 64 % 2 = 1 := fun q => by rw [hand, q] at htr; simp at htr
        refine k1 v j o' _ _ tv ?_ hb3 (At.mem (by assumption))
        rw [hpv, pvGo_stop _ hc0]
    · have hc : c.toNat < 256 := c.toNat_lt
      refine ⟨c.toNat % 64, c.toNat, i + 1, o', _, _, ?tb2, ?tv2, _, rfl, T2, ?_, ?_, ?_, hb', ?_, hc, ?_, ?_, rfl⟩
      rotate_left 2
      · with_unfolding_all rfl
      · rw [← and63]; with_unfolding_all rfl
      · with_unfolding_all rfl
      · rw [restB_some hx]; rfl
      · have : c.toNat % 64 < 64 := Nat.mod_lt _ (by decide)
        have h2 : 2 ^ 6 ≤ 2 ^ (6 * (i + 1)) := Nat.pow_le_pow_right (by decide) (by omega)
        omega
      · have := (Array.getElem?_eq_some_iff.mp hx).1; omega
end
section
variable {prog : Program} {w : World} {A : Around} {s : Shared} {g h : Heap} {t : Nat} {mu tl : Led} {R : Result → Shared → Prop} {L : Addr} {m : Loc} {E : Value → Shared → Prop}
noncomputable def pvAll : Nat → List Nat → Option (List Nat)
  | 0, _ => none
  | n + 1, l => match pv l with
    | none => some []
    | some (v, l') => (pvAll n l').map (v :: ·)
noncomputable abbrev numEnv (L : Addr) : Env := envOf "_law_numbers"
  { kind := ScopeKind.function,
    names := [(Str.ofString "octets", NameKind.local), (Str.ofString "row", NameKind.local), (Str.ofString "told", NameKind.local), (Str.ofString "place", NameKind.local),
      (Str.ofString "iter", NameKind.globalImplicit), (Str.ofString "range", NameKind.globalImplicit), (Str.ofString "len", NameKind.globalImplicit), (Str.ofString "_parse_varint", NameKind.globalImplicit),
      (Str.ofString "StopIteration", NameKind.globalImplicit)], isGenerator := false, isCoroutine := false } L 269 (.ref 268)
inductive JN (it D : Addr) (b : Array UInt8) (tb : Tok) (told : List Nat) (i : Nat) (m₁ : Loc) (own₁ : Led) : Prop
  | mk (o' : Obj) (vs : List Value) (e j : Nat) : own₁ = [(D, lst vs e), (it, o')] → m₁ "row" = some (.ref it) → m₁ "told" = some (.ref D) → BI o' b tb j → IntsAre vs ((told.take i).map (fun (n : Nat) => (n : Int))) → pvAll (b.size - i) (restB b j) = some (told.drop i) → JN it D b tb told i m₁ own₁
inductive JF (s : Shared) (g : Heap) (mu : Led) (L L0 D : Addr) (m0 : Loc) (env0 : Env) (told : List Nat) (x : Value) (s' : Shared) : Prop
  | mk (e : Addr) (h' : Heap) (t' : Nat) (g' : Heap) (mu' : Led) (vs : List Value) (e2 : Nat) (m' : Loc) : x = .ref e → s' = Sh s h' t' → Ext g g' → Fly g' mu' [(L, m'), (L0, m0)] [numEnv L, env0] e h' → m' "told" = some (.ref D) → (D, lst vs e2) ∈ mu' → (∀ p ∈ mu, p ∈ mu') → IntsAre vs (told.map (fun (n : Nat) => (n : Int))) → g'.get? L = none → g'.get? L0 = none → L ≠ L0 → JF s g mu L L0 D m0 env0 told x s'
set_option maxHeartbeats 0 in
theorem numbers_spec {L0 : Addr} {o0 : Obj} {m0 : Loc} {env0 : Env} {b : Array UInt8} {tb : Tok} {told : List Nat} (r : Room A 3 200) (G : Gl w g)
   (hfr : A.frames = some [env0]) (hf0 : env0.frame = some L0) (hk0 : env0.scope.kind ≠ .module) (n0 : LCg.NsObj o0 m0)
   (M : Mem g ((L0, o0) :: mu) h) (hsz : b.size ≤ 1000) (hp : pvAll b.size (restB b 0) = some told)
   (k : ∀ D vs e o0' h' t', LCg.NsObj o0' m0 → Mem g ((D, lst vs e) :: (L0, o0') :: mu) h' → IntsAre vs (told.map (fun (n : Nat) => (n : Int))) → R (.ok (.ret (.ref D))) (Sh s h' t')) :
   codeAny (model prog w) A (.call (.ref 269) ⟨[.bytes b tb], []⟩) R (Sh s h t) := by
  refine' r_enterF (binds := [("octets", .bytes b tb)]) r G M ?ho ?hcd ?hbind ?hloc ?k ?hcell ?hco ?hgen ?hk
  walk_at "entered"
  intro L h1 tk1 rA T
  repeat' walk1
  rename_i it o _ hbi _ D _ _ _ _ _ _ _ _ _ _ _ _ T1
  refine s_ForE (s := s) ?_
  repeat' walk1
  rename_i rR hR tR t1 t2 t3 T2
  have T3 := T2.drop.drop
  have ndD : ∀ {o1 o2 : Obj}, (((D, o1) :: (L0, o2) :: mu : Led).map (·.1)).Nodup := fun {o1 o2} => by
    have := T3.mem.nd
    simp only [List.map_cons, List.nodup_cons, List.mem_cons, not_or] at this ⊢
    exact ⟨⟨this.1.2.1, this.1.2.2⟩, this.2.2⟩
  refine for_rangeE [(D, lst [] 0), (it, o)] ((L0, o0) :: mu) b.size (fun i _ m₁ own₁ => JN it D b tb told i m₁ own₁)
    (fun _ _ _ => False) (fun _ _ _ _ => False)
    (fun x s' => JF s g mu L L0 D m0 env0 told x s')
    rA.hh T3 (List.Perm.refl _) (mu_rng T2 (.head _)) (by decide) (by omega) (by omega) ?_ ?_ ?_ ?_ (fun _ _ _ _ _ _ x => x.elim) (fun _ _ _ _ _ _ _ x => x.elim)
  · refine ⟨o, [], 0, 0, rfl, ?_, ?_, hbi, .nil, ?_⟩
    · with_unfolding_all rfl
    · with_unfolding_all rfl
    · simpa using hp
  · rintro i v g₁ m₁ own₁ tl₁ h₃ t₃ hi hsub x₁ ⟨tv, rfl⟩ ⟨o', vs, e, j, rfl, er, et, hb, hI, hpv⟩ T4
    have G1 := G.up x₁
    repeat' walk1
    rename_i hS tS TS
    obtain ⟨rest, hperm⟩ := perm_of_mem (hsub (L0, o0) (.head _))
    have TS' : At g₁ L _ ((L0, o0) :: (it, o') :: ((D, lst vs e) :: rest)) hS := TS.perm (by
      show ((L0, o0) :: (it, o') :: (D, lst vs e) :: rest).Perm ((D, lst vs e) :: (it, o') :: tl₁)
      have p1 : ((D, lst vs e) :: (it, o') :: tl₁).Perm ((D, lst vs e) :: (it, o') :: (L0, o0) :: rest) := (hperm.cons _).cons _
      refine List.Perm.trans ?_ p1.symm
      exact ((List.Perm.swap (D, lst vs e) (it, o') rest).cons _).trans ((List.Perm.swap _ _ _).trans (((List.Perm.swap _ _ _).cons _))))
    have hrest : ∀ p ∈ mu, p ∈ rest := fun p hp => by
      have : p ∈ (L0, o0) :: rest := hperm.subset (hsub p (.tail _ hp))
      rcases List.mem_cons.mp this with rfl | h
      · exact absurd hp fun hq => (List.nodup_cons.mp M.nd).1 (List.mem_map.mpr ⟨_, hq, rfl⟩)
      · exact h
    obtain ⟨oL, nL, MS⟩ := TS'
    have gL := (MS.at_ _ (.head _)).2
    have gL0 := (MS.at_ _ (.tail _ (.head _))).2
    have neL : L ≠ L0 := fun q => MS.ne (q := (L0, o0)) (.head _) q.symm
    refine wpAny_call (pv_spec (rA.le (by decide) (by decide)) G1 (by exact Around.frames_deeper hfr) (env1 := numEnv L) rfl hf0 (show ScopeKind.function ≠ ScopeKind.module by decide) hk0 nL n0 MS hb hsz (fun v j' o2 h4 t4 tv' hv hb2 M4 => ?_) fun e' o2 h4 t4 hv F => ?_)
    · have T5 : At g₁ L _ ((D, lst vs e) :: (it, o2) :: tl₁) h4 := At.perm (mu := (L0, o0) :: (it, o2) :: (D, lst vs e) :: rest) ⟨oL, nL, M4⟩ (by
        have p1 : ((D, lst vs e) :: (it, o2) :: tl₁).Perm ((D, lst vs e) :: (it, o2) :: (L0, o0) :: rest) := (hperm.cons _).cons _
        refine List.Perm.trans p1 ?_
        exact List.Perm.symm (((List.Perm.swap (D, lst vs e) (it, o2) rest).cons _).trans ((List.Perm.swap _ _ _).trans (((List.Perm.swap _ _ _).cons _)))))
      obtain ⟨n', hn'⟩ : ∃ n', b.size - i = n' + 1 := ⟨b.size - i - 1, by omega⟩
      rw [hn'] at hpv
      unfold pvAll at hpv
      rw [hv] at hpv
      obtain ⟨tl2, ht2, e2⟩ := Option.map_eq_some_iff.mp hpv
      have e3 : told[i]? = some v := by
        have : (told.drop i)[0]? = some v := by rw [← e2]; rfl
        simpa using this
      have e4 : told.drop (i + 1) = tl2 := by
        have : (told.drop i).drop 1 = tl2 := by rw [← e2]; rfl
        rw [← this, List.drop_drop]
      have hlen : vs.length ≤ 1000 := by
        have := hI.length
        rw [List.length_map, List.length_take] at this
        omega
      repeat' walk1
      rename_i eN hN tN TN
      refine lp_next (own₂ := [(D, lst (vs ++ [.int (v : Nat) tv']) eN), (it, o2)]) TN Ext.rfl' ⟨o2, _, eN, j', rfl, ?_, ?_, hb2, ?_, ?_⟩
      · with_unfolding_all exact er
      · with_unfolding_all exact et
      · rw [take_snoc e3, List.map_append]
        exact hI.append (.cons _ _ .nil)
      · rw [e4, show b.size - (i + 1) = n' by omega]; exact ht2
    · obtain ⟨n', hn'⟩ : ∃ n', b.size - i = n' + 1 := ⟨b.size - i - 1, by omega⟩
      rw [hn'] at hpv
      unfold pvAll at hpv
      rw [hv] at hpv
      have e3 : told.drop i = [] := (Option.some.inj hpv).symm
      have e4 : told.take i = told := List.take_of_length_le (List.drop_eq_nil_iff.mp e3)
      rw [e4] at hI
      refine ⟨e', h4, t4, g₁, _, vs, e, _, rfl, rfl, x₁, F, ?_, .tail _ (.head _), fun p hp => .tail _ (.tail _ (hrest p hp)), hI, gL, gL0, neL⟩
      with_unfolding_all exact et
  · rintro e s' ⟨e, h', t', g', mu', vs, e2, m', rfl, rfl, x', F, et, hD, hmu, hI, gl, gl0, hne⟩
    refine f_note_on (Around.frames_deeper hfr) rfl F fun h4 H => f_came rfl H fun h5 H5 => f_note_again rfl H5 (f_land H5 fun h6 F6 => ?_)
    refine wpAny_handleBy_builtin (T := "StopIteration") (X := "StopIteration") (b := true) ?_ ?_ ?_ ?_
    · rw [isSubtype_type]; kernel_rfl
    · rw [show (Manifest.find? "StopIteration").elim "type" (fun x => x.metatype) = "type" from by kernel_rfl, isSubtype_type]; kernel_rfl
    · rw [isSubtype_type]; kernel_rfl
    · obtain ⟨o0', n0', T6⟩ := F6.back2 gl gl0 hne
      have G6 := G.up x'
      refine r_builtin (v := .type "StopIteration") G6 T6 (by k_is) (by kernel_rfl) (by decide) ?_
      refine ⟨rfl, F6.type, ?_⟩
      simp only [if_true]
      refine f_land2 F6 fun h7 F7 => ?_
      obtain ⟨o0'', n0'', T7⟩ := F7.back2 gl gl0 hne
      repeat' walk1
      refine k D vs e2 o0'' h7 t' n0'' ((T7.mem.weak x').pick (fun p hp => ?_) ?_) hI
      · rcases List.mem_cons.mp hp with rfl | hp
        · exact .tail _ hD
        · rcases List.mem_cons.mp hp with rfl | hp
          · exact .head _
          · exact .tail _ (hmu p hp)
      · exact ndD
  · rintro g₁ m₁ own₁ h₃ t₃ x₁ ⟨o', vs, e, j, rfl, er, et, hb, hI, hpv⟩ T4
    rw [Nat.sub_self] at hpv
    cases hpv
theorem c_numbers {env0 : Env} {m0 : Loc} {b : Array UInt8} {tb : Tok} {told : List Nat} {Q : Value → Shared → Prop} (r : Room A 3 200) (G : Gl w g)
   (hfr : A.frames = some [env0]) (hf0 : env0.frame = some L) (hk0 : env0.scope.kind ≠ .module) (T : At g L m mu h) (hsz : b.size ≤ 1000) (hp : pvAll b.size (restB b 0) = some told)
   (k : ∀ D vs e h' t', At g L m ((D, lst vs e) :: mu) h' → IntsAre vs (told.map (fun (n : Nat) => (n : Int))) → Q (.ref D) (Sh s h' t')) :
   wpAny (model prog w) A (call (.ref 269) [.bytes b tb]) Q E (Sh s h t) :=
  let ⟨oL, n, M⟩ := T
  wpAny_call (numbers_spec r G hfr hf0 hk0 n M hsz hp fun D vs e o0' h' t' n' M' hI => k D vs e h' t' ⟨o0', n', M'.perm (.swap ..)⟩ hI)
end
noncomputable def hexS (i : Int) : Str := baseText "0x" 16 i
noncomputable def flagName (i : Int) : Str := match PySem.valueAt flagV i with
  | some (.str x _) => x
  | _ => hexS i
noncomputable def pfGo : Nat → Nat → Int → List Str → List Str
  | 0, _, fl, ns => ns ++ [hexS fl]
  | k + 1, i, fl, ns => if Builtin.bitAnd fl (2 ^ i) = 0 then pfGo k (i + 1) fl ns else
    if Builtin.bitXor fl (2 ^ i) = 0 then ns ++ [flagName (2 ^ i)] else pfGo k (i + 1) (Builtin.bitXor fl (2 ^ i)) (ns ++ [flagName (2 ^ i)])
theorem hex_pow : ∀ i : Nat, i < 32 → (hexS (2 ^ i)).length ≤ 1000 := by decide +kernel
theorem one_pow (i : Nat) : (1 : Int) * 2 ^ (0 + (i : Int)).toNat = 2 ^ i := by
  rw [Int.one_mul, show (0 + (i : Int)).toNat = i by omega]
theorem strs_app {vs ws : List Value} {xs ys : List Str} (h : StrsAre vs xs) (k : StrsAre ws ys) : StrsAre (vs ++ ws) (xs ++ ys) := by
  induction h with
  | nil => exact k
  | cons x t _ ih => exact .cons x t ih
theorem flag_get (i : Int) (t : Tok) : ∃ ty, (PySem.valueAt flagV i).getD (.str (hexS i) t) = .str (flagName i) ty := by
  unfold flagName
  cases e : PySem.valueAt flagV i with
  | none => exact ⟨t, rfl⟩
  | some v =>
    have : ∃ x tx, v = .str x tx := by
      unfold PySem.valueAt at e
      obtain ⟨p, hp, rfl⟩ := Option.map_eq_some_iff.mp e
      obtain ⟨x, hx, rfl⟩ := List.mem_map.mp (List.mem_of_find?_eq_some hp)
      exact ⟨_, _, rfl⟩
    obtain ⟨x, tx, rfl⟩ := this
    exact ⟨tx, rfl⟩
theorem flag_get' (i : Int) (t : Tok) : (PySem.valueAt flagV i).getD (.str (hexS i) t) = .str (flagName i) (flag_get i t).choose := (flag_get i t).choose_spec
section
variable {prog : Program} {w : World} {A : Around} {s : Shared} {g h : Heap} {t : Nat} {mu tl : Led} {R : Result → Shared → Prop} {L : Addr} {m : Loc} {E : Value → Shared → Prop}
theorem s_hex {i : Int} {ti : Tok} {Q : Value → Shared → Prop} (hsz : (hexS i).length ≤ sizeLine) (k : Q (.str (hexS i) t) (Sh s h (t + 1))) : wpAny (model prog w) A (call (.builtin "hex") [.int i ti]) Q E (Sh s h t) :=
  P.hex_of_int (s := Sh s h t) (hsz := hsz) k
set_option maxHeartbeats 0 in
theorem flags_spec {f : Int} {tf : Tok} {total : List Str} (r : Room A 3 200) (G : Gl w g) (M : Mem g mu h) (ht : pfGo 32 0 f [] = total) (hs : (total.map (·.length)).sum + total.length * 2 ≤ 16777216)
   (k : ∀ h' t' ty, Mem g mu h' → R (.ok (.ret (.str (Txt.join ", " total) ty))) (Sh s h' t')) :
   codeAny (model prog w) A (.call (.ref 196) ⟨[.int f tf], []⟩) R (Sh s h t) := by
  refine' r_enter (binds := [("flags", .int f tf)]) r G M ?ho ?hcd ?hbind ?hloc ?k ?hcell ?hco ?hgen ?hk
  walk_at "entered"
  intro A' L h1 tk1 rA T
  repeat' walk1
  rename_i D _ _ _ _ T1
  refine s_For (s := s) ?_
  repeat' walk1
  rename_i rR hR tR t1 t2 t3 T2
  have T3 := T2.drop
  refine for_range (s := s) [(D, lst [] 0)] mu 32 (fun i g₁ m₁ own₁ => ∃ vs e fl tf names, own₁ = [(D, lst vs e)] ∧ m₁ "names" = some (.ref D) ∧ m₁ "flags" = some (.int fl tf) ∧ StrsAre vs names ∧ vs.length ≤ i ∧ pfGo (32 - i) i fl names = total)
    (fun g₁ m₁ own₁ => ∃ vs e, own₁ = [(D, lst vs e)] ∧ m₁ "names" = some (.ref D) ∧ StrsAre vs total) (fun _ _ _ _ => False) rA.hh T3 (List.Perm.refl _) (mu_rng T2 (.head _)) (by decide) (by decide) (by decide) ⟨?_, ?_, ?_, ?_, fun _ _ _ _ _ _ _ x => x.elim⟩
  · refine ⟨[], 0, f, tf, [], rfl, ?_, ?_, .nil, Nat.le_refl _, ht⟩
    · with_unfolding_all rfl
    · with_unfolding_all rfl
  · rintro i v g₁ m₁ own₁ tl₁ h₃ t₃ hi hsub x₁ ⟨tv, rfl⟩ ⟨vs, e, fl, tf', names, rfl, en, ef, hS, hlen, hpf⟩ T4 Post hPost
    have G1 := G.up x₁
    obtain ⟨n', hn'⟩ : ∃ n', 32 - i = n' + 1 := ⟨32 - i - 1, by omega⟩
    rw [hn'] at hpf
    unfold pfGo at hpf
    repeat' walk1
    · rename_i hc
      rw [one_pow] at hc
      refine s_hex (by rw [one_pow]; exact Nat.le_trans (hex_pow i hi) (by decide)) ?_
      rw [one_pow]
      walk1
      walk1
      rw [flag_get']
      have hz : vs.length ≤ 1000 := by omega
      repeat' walk1
      · rename_i eN hN tN TN hS' tS TS hc2
        rw [one_pow] at hc2
        refine hPost _ _ (lp_next (own₂ := [(D, lst (vs ++ [_]) eN)]) TS Ext.rfl' ⟨_, eN, ?fl1, ?tf1, names ++ [flagName (2 ^ i)], rfl, ?_, ?_, strs_app hS (.cons _ _ .nil), ?_, ?_⟩)
        rotate_left 2
        · with_unfolding_all exact en
        · with_unfolding_all rfl
        · rw [List.length_append]; simp; omega
        · rw [one_pow, show 32 - (i + 1) = n' by omega]
          rwa [if_neg (by simpa using hc), if_neg (by simpa using hc2)] at hpf
      · rename_i eN hN tN TN hS' tS TS hc2
        rw [one_pow] at hc2
        refine hPost _ _ (lp_brk (own₂ := [(D, lst (vs ++ [_]) eN)]) TS Ext.rfl' ⟨_, eN, rfl, ?_, ?_⟩)
        · with_unfolding_all exact en
        · rw [if_neg (by simpa using hc), if_pos (by simpa using hc2)] at hpf
          rw [← hpf]
          exact strs_app hS (.cons _ _ .nil)
    · rename_i hS' tS TS hc
      rw [one_pow] at hc
      refine hPost _ _ (lp_next (own₂ := [(D, lst vs e)]) TS Ext.rfl' ⟨vs, e, fl, tf', names, rfl, ?_, ?_, hS, by omega, ?_⟩)
      · with_unfolding_all exact en
      · with_unfolding_all exact ef
      · rw [show 32 - (i + 1) = n' by omega]
        rwa [if_pos (by simpa using hc)] at hpf
  · rintro g₁ m₁ own₁ h₃ t₃ x₁ ⟨vs, e, fl, tf', names, rfl, en, ef, hS, hlen, hpf⟩ T4
    have G1 := G.up x₁
    rw [show 32 - 32 = 0 from rfl] at hpf
    have hpf : names ++ [hexS fl] = total := hpf
    repeat' walk1
    refine s_hex ?_ ?_
    · have : (hexS fl).length ≤ (total.map (·.length)).sum := by rw [← hpf]; simp
      exact Nat.le_trans this (by rw [sizeLine_eq]; omega)
    have hz : vs.length ≤ 1000 := by omega
    repeat' walk1
    rename_i eN hN tN TN
    have hS2 : StrsAre (vs ++ [.str (hexS fl) t₃]) total := hpf ▸ strs_app hS (.cons _ _ .nil)
    refine s_join TN (mu_isL TN (.head _)) hS2 hs fun t' t'' => ?_
    repeat' walk1
    exact k _ _ _ ((TN.mem.drop).weak x₁)
  · rintro g₁ m₁ own₁ h₃ t₃ x₁ ⟨vs, e, rfl, en, hS⟩ T4
    repeat' walk1
    refine s_join T4 (mu_isL T4 (.head _)) hS hs fun t' t'' => ?_
    repeat' walk1
    exact k _ _ _ ((T4.mem.drop).weak x₁)
theorem c_flags {f : Int} {tf : Tok} {total : List Str} {Q : Value → Shared → Prop} (r : Room A 3 200) (G : Gl w g) (T : At g L m mu h) (ht : pfGo 32 0 f [] = total) (hs : (total.map (·.length)).sum + total.length * 2 ≤ 16777216)
   (k : ∀ h' t' ty, At g L m mu h' → Q (.str (Txt.join ", " total) ty) (Sh s h' t')) : wpAny (model prog w) A (call (.ref 196) [.int f tf]) Q E (Sh s h t) :=
  let ⟨oL, n, M⟩ := T
  wpAny_call (flags_spec r G M ht hs fun h' t' ty M' => k h' t' ty ⟨oL, n, M'⟩)
end
noncomputable def doneI (a b c : Int) : Int := Builtin.bitAnd a 1 * (15 - Builtin.bitOr b c) + Builtin.bitAnd (a.fdiv (2 ^ (1:Int).toNat)) 1 * Builtin.bitAnd c (15 - b) + Builtin.bitAnd (a.fdiv (2 ^ (2:Int).toNat)) 1 * Builtin.bitAnd b (15 - c) + a.fdiv (2 ^ (3:Int).toNat) * Builtin.bitAnd b c
theorem done_facts : ∀ a, a < 16 → small (Builtin.bitAnd (a:Nat) 1) = true ∧ small (Builtin.bitAnd ((a:Int).fdiv (2 ^ (1:Int).toNat)) 1) = true ∧ small (Builtin.bitAnd ((a:Int).fdiv (2 ^ (2:Int).toNat)) 1) = true ∧ small ((a:Int).fdiv (2 ^ (3:Int).toNat)) = true := by
  decide +kernel
set_option maxHeartbeats 0 in
theorem done_spec {prog : Program} {w : World} {A : Around} {s : Shared} {g h : Heap} {t : Nat} {mu : Led} {R : Result → Shared → Prop} {a b c : Nat} {t1 t2 t3 : Tok} (r : Room A 1 40) (G : Gl w g) (M : Mem g mu h)
   (ha : a < 16)
   (k : ∀ h' t' tk, Mem g mu h' → R (.ok (.ret (.int (doneI a b c) t'))) (Sh s h' tk)) :
   codeAny (model prog w) A (.call (.ref 276) ⟨[.int a t1, .int b t2, .int c t3], []⟩) R (Sh s h t) := by
  refine' r_enter (binds := [("means", .int a t1), ("left", .int b t2), ("right", .int c t3)]) r G M ?ho ?hcd ?hbind ?hloc ?k ?hcell ?hco ?hgen ?hk
  walk_at "entered"
  intro A' L h1 tk1 rA T
  obtain ⟨f1, f2, f3, f4⟩ := done_facts a ha
  repeat walk1
  exact k _ _ _ T.mem
theorem c_done {prog : Program} {w : World} {A : Around} {s : Shared} {g h : Heap} {t : Nat} {mu : Led} {L : Addr} {m : Loc} {E : Value → Shared → Prop} {Q : Value → Shared → Prop} {a b c : Nat} {t1 t2 t3 : Tok} (r : Room A 1 40) (G : Gl w g) (T : At g L m mu h)
   (ha : a < 16) (k : ∀ h' t' tk, At g L m mu h' → Q (.int (doneI a b c) t') (Sh s h' tk)) : wpAny (model prog w) A (call (.ref 276) [.int a t1, .int b t2, .int c t3]) Q E (Sh s h t) :=
  let ⟨oL, n, M⟩ := T
  wpAny_call (done_spec r G M ha fun h' t' tk M' => k h' t' tk ⟨oL, n, M'⟩)
section
variable {prog : Program} {w : World} {A : Around} {s : Shared} {g h : Heap} {t : Nat} {mu tl : Led} {R : Result → Shared → Prop} {L : Addr} {m : Loc} {E : Value → Shared → Prop}
noncomputable def sumAt (ns : List Int) (base : Int) (i : Int) : Int := (base + (pickNums ns (some i) (some 60) (some 3)).sum).fmod (10 ^ 6)
noncomputable def sumsOf (ns : List Int) : List Int := [sumAt ns 170 0, sumAt ns 265 1, sumAt ns 118 2]
noncomputable def num0 (x0 : Nat) : Nat := 16 * (13 + x0 % 42) + x0 / 42 % 16
noncomputable def num1 (x0 x1 : Nat) : Nat := 16 * (13 + (x0 % 42 + 1 + x1 % 41) % 42) + x1 / 41 % 16
theorem num0_eq (x0 : Nat) : (16 * (13 + (x0 : Int).fmod 42) + ((x0 : Int).fdiv 42).fmod 16 : Int) = (num0 x0 : Nat) := by
  unfold num0
  rw [Int.fmod_eq_emod_of_nonneg _ (by decide), Int.fdiv_eq_ediv_of_nonneg _ (by decide), Int.fmod_eq_emod_of_nonneg _ (by decide)]
  omega
theorem num1_eq (x0 x1 : Nat) : (16 * (13 + ((x0 : Int).fmod 42 + 1 + (x1 : Int).fmod 41).fmod 42) + ((x1 : Int).fdiv 41).fmod 16 : Int) = (num1 x0 x1 : Nat) := by
  unfold num1
  rw [Int.fmod_eq_emod_of_nonneg _ (by decide), Int.fmod_eq_emod_of_nonneg _ (by decide), Int.fmod_eq_emod_of_nonneg _ (by decide), Int.fdiv_eq_ediv_of_nonneg _ (by decide), Int.fmod_eq_emod_of_nonneg _ (by decide)]
  omega
noncomputable def octs (x2 n : Nat) : List Int := List.replicate (x2 / 5 % 4) 64 ++ [((64 + n / 64 : Nat) : Int), ((n % 64 : Nat) : Int)]
theorem oct_len (x2 n0 n1 n i j : Nat) (hi : i < 2) : (([n0, n1].take i).flatMap (octs x2) ++ (octs x2 n).take j).length ≤ 15 := by
  have hk : x2 / 5 % 4 < 4 := Nat.mod_lt _ (by decide)
  have ho : ∀ m, (octs x2 m).length ≤ 5 := fun m => by unfold octs; simp; omega
  have h2 : ((octs x2 n).take j).length ≤ 5 := by have := ho n; rw [List.length_take]; omega
  rw [List.length_append]
  match i, hi with
  | 0, _ => simp at h2 ⊢; omega
  | 1, _ =>
    have := ho n0
    simp only [List.take_succ_cons, List.take_zero, List.flatMap_singleton]
    omega
theorem oct_ints (x2 n : Nat) (t1 t2 t3 : Tok) : IntsAre ((List.replicate (x2 / 5 % 4) [Value.int 64 t1]).flatten ++ [Value.int (64 + (n : Int).fdiv 64) t2, Value.int ((n : Int).fmod 64) t3]) (octs x2 n) := by
  refine (rep_ints 64 _ _).append ?_
  rw [Int.fdiv_eq_ediv_of_nonneg _ (by decide), Int.fmod_eq_emod_of_nonneg _ (by decide)]
  exact .cons _ _ (.cons _ _ .nil)
noncomputable def tailOf (x2 : Nat) : List Int := if x2 / 20 % 3 = 0 then [] else if x2 / 20 % 3 = 1 then [64] else [65, 66]
theorem tail_pick (x2 : Nat) {a0 a1 a2 : Addr} {t0 t1 t2 : Tok} {l : Led} : ∃ tA tvs, [Value.ref a0, Value.ref a1, Value.ref a2][x2 / 20 % 3]? = some (.ref tA) ∧ (tA, lst tvs 0) ∈ ((a2, lst [Value.int 65 t0, Value.int 66 t1] 0) :: (a1, lst [Value.int 64 t2] 0) :: (a0, lst [] 0) :: l : Led) ∧ IntsAre tvs (tailOf x2) := by
  have h3 : x2 / 20 % 3 < 3 := Nat.mod_lt _ (by decide)
  unfold tailOf
  match x2 / 20 % 3, h3 with
  | 0, _ => exact ⟨a0, [], rfl, .tail _ (.tail _ (.head _)), .nil⟩
  | 1, _ => exact ⟨a1, _, rfl, .tail _ (.head _), .cons _ _ .nil⟩
  | 2, _ => exact ⟨a2, _, rfl, .head _, .cons _ _ (.cons _ _ .nil)⟩
theorem tail_of (x2 : Nat) {a0 a1 a2 aT L : Addr} {t0 t1 t2 : Tok} {l : Led} {g h : Heap} {m : Loc} (_T : At g L m ((aT, tup [Value.ref a0, Value.ref a1, Value.ref a2]) :: (a2, lst [Value.int 65 t0, Value.int 66 t1] 0) :: (a1, lst [Value.int 64 t2] 0) :: (a0, lst [] 0) :: l) h) :
    ∃ tA tvs, [Value.ref a0, Value.ref a1, Value.ref a2][x2 / 20 % 3]? = some (.ref tA) ∧ (tA, lst tvs 0) ∈ ((a2, lst [Value.int 65 t0, Value.int 66 t1] 0) :: (a1, lst [Value.int 64 t2] 0) :: (a0, lst [] 0) :: l : Led) ∧ IntsAre tvs (tailOf x2) := tail_pick x2
theorem tail_len (x2 : Nat) : (tailOf x2).length ≤ 2 := by
  unfold tailOf
  split
  · simp
  · split <;> simp
noncomputable def allOf (x2 n0 n1 : Nat) : List Int := [n0, n1].flatMap (octs x2) ++ tailOf x2
noncomputable def bytesOf (x2 n0 n1 : Nat) : List Int := (allOf x2 n0 n1).mapIdx fun i o => o + 128 * (if i % 4 = x2 / 60 % 4 then 1 else 0)
theorem octs_len (x2 n0 n1 : Nat) : ([n0, n1].flatMap (octs x2)).length ≤ 10 := by
  have hk : x2 / 5 % 4 < 4 := Nat.mod_lt _ (by decide)
  have ho : ∀ m, (octs x2 m).length ≤ 5 := fun m => by unfold octs; simp; omega
  have h0 := ho n0
  have h1 := ho n1
  simp only [List.flatMap_cons, List.flatMap_nil, List.append_nil, List.length_append]
  omega
theorem num0_lt (x0 : Nat) : num0 x0 < 1024 := by
  have h1 := Nat.mod_lt x0 (show 0 < 42 by decide)
  have h2 := Nat.mod_lt (x0 / 42) (show 0 < 16 by decide)
  unfold num0; omega
theorem num1_lt (x0 x1 : Nat) : num1 x0 x1 < 1024 := by
  have h1 := Nat.mod_lt (x0 % 42 + 1 + x1 % 41) (show 0 < 42 by decide)
  have h2 := Nat.mod_lt (x1 / 41) (show 0 < 16 by decide)
  unfold num1; omega
theorem octs_in (x2 n : Nat) (hn : n < 1024) : ∀ o ∈ octs x2 n, 0 ≤ o ∧ o < 128 := by
  intro o ho
  rcases List.mem_append.mp ho with h | h
  · rw [List.eq_of_mem_replicate h]; decide
  · simp only [List.mem_cons, List.not_mem_nil, or_false] at h
    rcases h with rfl | rfl <;> omega
theorem all_in (x2 n0 n1 : Nat) (h0 : n0 < 1024) (h1 : n1 < 1024) : ∀ o ∈ allOf x2 n0 n1, 0 ≤ o ∧ o < 128 := by
  intro o ho
  rcases List.mem_append.mp ho with h | h
  · rw [List.flatMap_cons, List.flatMap_cons, List.flatMap_nil, List.append_nil] at h
    rcases List.mem_append.mp h with h | h
    · exact octs_in x2 n0 h0 o h
    · exact octs_in x2 n1 h1 o h
  · unfold tailOf at h
    split at h
    · cases h
    · split at h
      · simp only [List.mem_cons, List.not_mem_nil, or_false] at h; subst h; decide
      · simp only [List.mem_cons, List.not_mem_nil, or_false] at h; rcases h with rfl | rfl <;> decide
theorem bytes_in (x2 n0 n1 : Nat) (h0 : n0 < 1024) (h1 : n1 < 1024) : KBa.In (bytesOf x2 n0 n1) := by
  intro o ho
  obtain ⟨i, hi, e⟩ := List.mem_mapIdx.mp ho
  have := all_in x2 n0 n1 h0 h1 _ (List.getElem_mem hi)
  subst e
  split <;> omega
theorem bytes_at (x2 n0 n1 i : Nat) {o : Int} (ho : (allOf x2 n0 n1)[i]? = some o) : (bytesOf x2 n0 n1)[i]? = some (o + 128 * if ((i : Int).fmod 4 == ((x2 : Int).fdiv 60).fmod 4) = true then 1 else 0) := by
  unfold bytesOf
  rw [List.getElem?_mapIdx, ho]
  have : (((i : Int).fmod 4 == ((x2 : Int).fdiv 60).fmod 4) = true) ↔ i % 4 = x2 / 60 % 4 := by
    rw [Int.fmod_eq_emod_of_nonneg _ (by decide), Int.fdiv_eq_ediv_of_nonneg _ (by decide), Int.fmod_eq_emod_of_nonneg _ (by decide), beq_iff_eq]
    omega
  simp only [Option.map_some, this]
theorem IntsAre.getV {vs : List Value} {ns : List Int} (h : IntsAre vs ns) {j : Nat} {v : Value} (hv : vs[j]? = some v) : ∃ n t, v = .int n t ∧ ns[j]? = some n := by
  have hj : j < ns.length := by rw [← h.length]; exact (List.getElem?_eq_some_iff.mp hv).1
  obtain ⟨t, e⟩ := h.get j _ (List.getElem?_eq_getElem hj)
  rw [hv] at e; cases e
  exact ⟨_, t, rfl, List.getElem?_eq_getElem hj⟩
theorem sumAt_nat (ns : List Int) (b i : Int) : ∃ x : Nat, sumAt ns b i = (x : Int) ∧ x < 1000000 := by
  refine ⟨(sumAt ns b i).toNat, ?_, ?_⟩
  · have : 0 ≤ sumAt ns b i := Int.fmod_nonneg_of_pos _ (by decide)
    omega
  · have : sumAt ns b i < 10 ^ 6 := Int.fmod_lt_of_pos _ (by decide)
    have h6 : (10 : Int) ^ 6 = 1000000 := by decide
    omega
theorem sums_nat (ns : List Int) : ∃ x0 x1 x2 : Nat, sumsOf ns = [(x0 : Int), (x1 : Int), (x2 : Int)] ∧ x0 < 1000000 ∧ x1 < 1000000 ∧ x2 < 1000000 := by
  obtain ⟨x0, e0, b0⟩ := sumAt_nat ns 170 0
  obtain ⟨x1, e1, b1⟩ := sumAt_nat ns 265 1
  obtain ⟨x2, e2, b2⟩ := sumAt_nat ns 118 2
  exact ⟨x0, x1, x2, by unfold sumsOf; rw [e0, e1, e2], b0, b1, b2⟩
theorem ints3 {ys : List Value} {a b c : Int} (h : IntsAre ys [a, b, c]) : ∃ t0 t1 t2, ys = [.int a t0, .int b t1, .int c t2] := by
  cases h with | cons _ t0 h => cases h with | cons _ t1 h => cases h with | cons _ t2 h => cases h with | nil => exact ⟨t0, t1, t2, rfl⟩
theorem At.hide {g h : Heap} {L : Addr} {m : Loc} {mu : Led} (T : At g L m mu h) : ∃ m', m' = m ∧ At g L m' mu h := ⟨m, rfl, T⟩
set_option maxHeartbeats 0 in
theorem drawn_spec {a : Addr} {vs : List Value} {ns : List Int} (r : Room A 6 300) (G : Gl w g) (M : Mem g mu h) (hl : g.IsList a vs.toArray) (hi0 : IntsAre vs ns) (hn : ns.length ≤ 63)
   (k : ∀ (x0 x1 x2 : Nat) T D t0 t1 tb tk e h' t', sumsOf ns = [(x0 : Int), (x1 : Int), (x2 : Int)] → x0 < 1000000 → x1 < 1000000 → x2 < 1000000 →
     Mem g ((T, tup [.ref D, .bytes (byteArr (bytesOf x2 (num0 x0) (num1 x0 x1))) tb, .int (x2 % 4 : Nat) tk]) :: (D, lst [.int (num0 x0 : Nat) t0, .int (num1 x0 x1 : Nat) t1] e) :: mu) h' → R (.ok (.ret (.ref T))) (Sh s h' t')) :
   codeAny (model prog w) A (.call (.ref 262) ⟨[.ref a], []⟩) R (Sh s h t) := by
  refine' r_enterC (binds := [("script", .ref a)]) r G M ?ho ?hcd ?hbind ?hkind ?hnd ?k ?hco ?hgen ?hk
  walk_at "enteredC"
  intro A' L h1 tk1 cells rA hc T
  have hc : CellsAre _ [(Str.ofString "sums", L + 2), (Str.ofString "script", L + 1)] cells := hc
  obtain ⟨o1, _, rfl, d1, hc⟩ := cells_cons hc
  obtain ⟨o2, _, rfl, d2, hc⟩ := cells_cons hc
  obtain rfl := cells_nil hc
  have T : At g L (fun _ => none) ((L + 2, o1) :: (L + 1, o2) :: mu) h1 := T
  obtain ⟨g1, xe1, T, e1⟩ := (T.perm (.swap ..)).freeze
  have c1 : g1.IsCell (L + 1) (some (.ref a)) := ⟨o2, e1, d2⟩
  have G1 := G.up xe1
  have hl1 := isList_up xe1 hl
  repeat' walk1
  refine' s_ListComp (s := s) (E := fun _ _ => False) ?_ ?hclos ?hcell ?hkind ?hnames
  walk_at "comp sides"
  repeat' walk1
  rename_i aN hN TN
  refine comp_enum (s := s) [] _ (fun i g₁ own₁ ys => own₁ = [] ∧ IntsAre ys ((sumsOf ns).take i)) rA.hh TN (List.Perm.refl _) (mu_isL TN (.head _)) (.inr (.head _)) ⟨⟨rfl, .nil⟩, (show 3 ≤ sizeLine by decide), ?_, ?_⟩
  · rintro C i v g₁ m₁ own₁ tl₁ h₃ t₃ ys hi hsub x₁ ⟨T0, ti, x, rfl, hx, hT⟩ ⟨rfl, hys⟩ T4 Post hPost
    have G2 := G1.up x₁
    have c2 := cell_up x₁ c1
    have hl2 := isList_up x₁ hl1
    obtain ⟨bi, tb, rfl, hb⟩ : ∃ bi tb, x = .int bi tb ∧ ([170, 265, 118] : List Int)[i]? = some bi := by
      match i, hi with
      | 0, _ => exact ⟨_, _, (Option.some.inj hx).symm, rfl⟩
      | 1, _ => exact ⟨_, _, (Option.some.inj hx).symm, rfl⟩
      | 2, _ => exact ⟨_, _, (Option.some.inj hx).symm, rfl⟩
    have hnz : vs.length ≤ 1000 := by have := hi0.length; omega
    repeat' walk1
    rename_i aS hS TS
    refine s_sum rA.hh TS (mu_isL TS (.head _)) (hi0.pick _ _ _) fun h' tk t' T' => ?_
    repeat' walk1
    refine hPost _ _ (cp_end (own₂ := []) T'.drop Ext.rfl' ⟨rfl, ?_⟩)
    have : sumAt ns bi i = (bi + (pickNums ns (some i) (some 60) (some 3)).sum).fmod (10 ^ Int.toNat 6) := rfl
    rw [take_snoc (x := sumAt ns bi i) (by
      match i, hi with
      | 0, _ => cases hb; rfl
      | 1, _ => cases hb; rfl
      | 2, _ => cases hb; rfl)]
    exact hys.append (.cons _ _ .nil)
  · rintro g₁ own₁ h₃ t₃ D ys e xs1 ⟨rfl, hys⟩ T4 T5
    obtain ⟨x0, x1, x2, hxs, b0, b1, b2⟩ := sums_nat ns
    rw [show List.take [Value.int 170 tk1, Value.int 265 (tk1 + 1), Value.int 118 (tk1 + 1 + 1)].length (sumsOf ns) = sumsOf ns from rfl, hxs] at hys
    obtain ⟨t0, t1, t2, rfl⟩ := ints3 hys
    repeat' walk1
    refine r_storeF (At.drop1 T5).swap (List.Perm.refl _) rfl d1 (fun g2 h4 xg2 c2 T7 => ?_)
    have G2 := (G1.up xs1).up xg2
    repeat' walk1
    rename_i aN hN TN hS tS TS
    rw [num0_eq, num1_eq] at TS
    generalize hn0 : num0 x0 = n0 at TS
    generalize hn1 : num1 x0 x1 = n1 at TS
    obtain ⟨m8, hm8, TS⟩ := At.hide TS
    have en8 : m8 "numbers" = some (.ref aN) := by rw [hm8]; with_unfolding_all rfl
    clear hm8 TN
    refine' s_AssignComp2 (s := s) (E := fun _ _ => False) ?_ ?hsw ?hclos ?hcell ?hkind ?hnames ?hy ?hke
    walk_at "compA sides"
    repeat' walk1
    refine comp2_list (s := s) [] _ (fun i g own ys => own = [] ∧ IntsAre ys (([n0, n1].take i).flatMap (octs x2))) rA.hh TS (List.Perm.refl _) (mu_isL TS (.head _)) (.inr (.head _)) ⟨⟨rfl, .nil⟩, ?_, ?_⟩
    · rintro I C D2 i v g₁ m₁ own₁ tl₁ h₁ t₀ ys e2 hi hsub x₁ hv ⟨rfl, hys⟩ T4
      obtain ⟨n, tn, rfl, hn⟩ : ∃ (n : Nat) (tn : Tok), v = .int n tn ∧ [n0, n1][i]? = some n := by
        match i, hi with
        | 0, _ => exact ⟨_, _, (Option.some.inj hv).symm, rfl⟩
        | 1, _ => exact ⟨_, _, (Option.some.inj hv).symm, rfl⟩
      have c3 := cell_up x₁ c2
      walk1
      walk1
      walk1
      refine s_emitN (s := s) ?_
      have hD := hsub _ (.tail _ (.head _))
      repeat' walk1
      rename_i aM hM TM
      have ek : ((x2 : Int).fdiv 5).fmod 4 = ((x2 / 5 % 4 : Nat) : Int) := by
        rw [Int.fdiv_eq_ediv_of_nonneg _ (by decide), Int.fmod_eq_emod_of_nonneg _ (by decide)]; omega
      have hk4 : x2 / 5 % 4 < 4 := Nat.mod_lt _ (by decide)
      rw [ek]
      refine s_mulL TM (mu_isL TM (.head _)) (by omega) (by omega) (by show 1 * _ ≤ 256; omega) fun aR hR TR => ?_
      rw [Int.toNat_natCast] at TR
      repeat' walk1
      rename_i aA hA TA
      have TB := (((At.drop1 TA).drop1).drop1).swap
      refine inner_list (s := s) [] ((aA, lst _ 0) :: tl₁) (fun j g own ys' => own = [] ∧ IntsAre ys' (([n0, n1].take i).flatMap (octs x2) ++ (octs x2 n).take j)) rA.hh TB (List.Perm.refl _) (mu_isL TB (.tail _ (.head _))) (.inr (.head _)) ⟨⟨rfl, by simpa using hys⟩, ?_, ?_⟩
      · rintro j v' g₂ m₂ own₂ tl₂ h₂ t₂ ys2 e3 hj hsub2 x₂ hv2 ⟨rfl, hys2⟩ T8
        obtain ⟨nj, tj, rfl, hnj⟩ := IntsAre.getV (oct_ints x2 n _ _ _) hv2
        repeat' walk1
        refine s_emitB (s := s) ?_
        repeat' walk1
        rename_i TZ
        refine ⟨g₂, _, [], _, _, ys2, e3, rfl, Ext.rfl', TZ, ?_, rfl, ?_⟩
        · rw [hys2.length]
          refine Nat.le_trans (oct_len x2 n0 n1 n i j (by omega)) (by decide)
        · rw [take_snoc hnj, ← List.append_assoc]
          exact hys2.append (.cons _ _ .nil)
      · rintro g₂ m₂ own₂ h₂ t₂ ys2 e3 x₂ ⟨rfl, hys2⟩ T8
        refine ⟨g₂, m₂, [], h₂, t₂, ys2, e3, rfl, x₂, T8.drop1, rfl, ?_⟩
        rw [List.take_of_length_le (l := octs x2 n) (by rw [(oct_ints x2 n _ _ _).length]; exact Nat.le_refl _)] at hys2
        rw [take_snoc hn, List.flatMap_append, List.flatMap_singleton]
        exact hys2
    · rintro g₁ own₁ h₁ t₀ D2 ys e2 x₁ ⟨rfl, hys⟩ T4 T5 h₂ t₂ T6
      have c4 := cell_up x₁ c2
      have G3 := G2.up x₁
      rw [show List.take _ [n0, n1] = [n0, n1] from rfl] at hys
      repeat' walk1
      rename_i a0 _ _ a1 _ _ a2 _ _ aT hT TT
      have et : ((x2 : Int).fdiv 20).fmod 3 = ((x2 / 20 % 3 : Nat) : Int) := by
        rw [Int.fdiv_eq_ediv_of_nonneg _ (by decide), Int.fmod_eq_emod_of_nonneg _ (by decide)]; omega
      rw [et]
      obtain ⟨tA, tvs, htA, hmem, htI⟩ := tail_of x2 TT
      refine s_itemT (mu_isT TT (.head _)) (by omega) (by omega) (by rw [Int.toNat_natCast]; exact htA) ?_
      have hm2 := List.Mem.tail (aT, tup [Value.ref a0, Value.ref a1, Value.ref a2]) hmem
      repeat' walk1
      have hl1' : ys.length ≤ 10 := by rw [hys.length]; exact octs_len x2 n0 n1
      have hl2' : tvs.length ≤ 2 := by rw [htI.length]; exact tail_len x2
      refine' s_ListComp (s := s) (E := fun _ _ => False) ?_ ?hclos ?hcell ?hkind ?hnames
      walk_at "comp sides"
      repeat' walk1
      rename_i aA hA TA
      have hall : IntsAre (ys ++ tvs) (allOf x2 n0 n1) := hys.append htI
      refine comp_enum (s := s) [] _ (fun i g₁ own₁ zs => own₁ = [] ∧ IntsAre zs ((bytesOf x2 n0 n1).take i)) rA.hh TA (List.Perm.refl _) (mu_isL TA (.head _)) (.inr (.head _)) ⟨⟨rfl, .nil⟩, (by refine Nat.le_trans ?_ (show 1000 ≤ sizeLine by decide); rw [List.length_append]; omega), ?_, ?_⟩
      · rintro C i v g₃ m₃ own₃ tl₃ h₃ t₃ zs hi hsub x₃ ⟨T0, ti, x, rfl, hx, hT⟩ ⟨rfl, hzs⟩ T8 Post hPost
        have c5 := cell_up x₃ c4
        have hD := hsub (D, lst [Value.int (x0 : Int) t0, Value.int (x1 : Int) t1, Value.int (x2 : Int) t2] e) (by walk_at "mem")
        obtain ⟨oi, to, rfl, ho⟩ := IntsAre.getV hall hx
        repeat' walk1
        rename_i hS' tS TS'
        refine hPost _ _ (cp_end (own₂ := []) TS' Ext.rfl' ⟨rfl, ?_⟩)
        rw [take_snoc (bytes_at x2 n0 n1 i ho)]
        exact hzs.append (.cons _ _ .nil)
      · rintro g₃ own₃ h₃ t₃ D3 zs e3 x₃ ⟨rfl, hzs⟩ T8 T9
        have G5 := G3.up x₃
        have c5 := cell_up x₃ c4
        rw [List.take_of_length_le (by rw [hall.length]; unfold bytesOf; rw [List.length_mapIdx]; exact Nat.le_refl _)] at hzs
        repeat' walk1
        refine s_bytes rA.hh T9 (mu_isL T9 (.head _)) hzs (bytes_in x2 n0 n1 (hn0 ▸ num0_lt x0) (hn1 ▸ num1_lt x0 x1)) ?_ fun h4 t4 tk4 TB => ?_
        · unfold bytesOf; rw [List.length_mapIdx, ← hall.length, List.length_append]; omega
        repeat' walk1
        rename_i aZ hZ TZ
        have MZ := ((((TZ.mem.weak x₃).weak x₁).weak xg2).weak xs1).weak xe1
        rw [show ((x2 : Int).fmod 4) = ((x2 % 4 : Nat) : Int) by rw [Int.fmod_eq_emod_of_nonneg _ (by decide)]; omega] at MZ
        subst hn0 hn1
        exact k x0 x1 x2 aZ aN _ _ _ _ _ _ _ hxs b0 b1 b2 (MZ.sub (by walk_at "sublist"))
theorem c_drawn {a : Addr} {vs : List Value} {ns : List Int} {Q : Value → Shared → Prop} (r : Room A 6 300) (G : Gl w g) (T : At g L m mu h) (hl : g.IsList a vs.toArray) (hi0 : IntsAre vs ns) (hn : ns.length ≤ 63)
   (k : ∀ (x0 x1 x2 : Nat) T D t0 t1 tb tk e h' t', sumsOf ns = [(x0 : Int), (x1 : Int), (x2 : Int)] → x0 < 1000000 → x1 < 1000000 → x2 < 1000000 →
     At g L m ((T, tup [.ref D, .bytes (byteArr (bytesOf x2 (num0 x0) (num1 x0 x1))) tb, .int (x2 % 4 : Nat) tk]) :: (D, lst [.int (num0 x0 : Nat) t0, .int (num1 x0 x1 : Nat) t1] e) :: mu) h' → Q (.ref T) (Sh s h' t')) :
   wpAny (model prog w) A (call (.ref 262) [.ref a]) Q E (Sh s h t) :=
  let ⟨oL, n, M⟩ := T
  wpAny_call (drawn_spec r G M hl hi0 hn fun x0 x1 x2 T D t0 t1 tb tk e h' t' hs b0 b1 b2 M' => k x0 x1 x2 T D t0 t1 tb tk e h' t' hs b0 b1 b2 ⟨oL, n, M'.perm (((List.Perm.swap _ _ _).trans ((List.Perm.swap _ _ _).cons _)))⟩)
end
section
variable {prog : Program} {w : World} {A : Around} {s : Shared} {g h : Heap} {t : Nat} {mu tl : Led} {R : Result → Shared → Prop} {L : Addr} {m : Loc} {E : Value → Shared → Prop}
set_option maxHeartbeats 0 in
theorem tables_spec {tb hl wa : Addr} {vs wvs : List Value} {ws : List Str} {e : Nat} {rows : List (Str × Str)}
   (r : Room A 4 300) (G : Gl w g) (M : Mem g mu h) (hT : Tbl g tb hl) (hm : (hl, lst vs e) ∈ mu) (hr : RdA g vs (rows.map rowD)) (hn : vs.length ≤ 900)
   {we : Nat} (hw : g.get? wa = some (lst wvs we)) (hwn : ws.length ≤ 1000) (hws : StrsAre wvs ws) (hall : ∀ p ∈ rows, p.1 ∈ ws)
   (k : ∀ D ks e' h' t', Mem g ((D, lst ks e') :: mu) h' → IntsAre ks (rows.map fun p => (ws.idxOf p.1 : Int)) → R (.ok (.ret (.ref D))) (Sh s h' t')) :
   codeAny (model prog w) A (.call (.ref 281) ⟨[.ref tb, .ref wa], []⟩) R (Sh s h t) := by
  refine' r_enterC (binds := [("table", .ref tb), ("words", .ref wa)]) r G M ?ho ?hcd ?hbind ?hkind ?hnd ?k ?hco ?hgen ?hk
  walk_at "enteredC"
  intro A' L h1 tk1 cells rA hc T
  have hc : CellsAre _ [(Str.ofString "words", L + 1)] cells := hc
  obtain ⟨o1, _, rfl, d1, hc⟩ := cells_cons hc
  obtain rfl := cells_nil hc
  have T : At g L (fun y => if y = "table" then some (.ref tb) else none) ((L + 1, o1) :: mu) h1 := T
  obtain ⟨g1, x1, T, e1⟩ := T.freeze
  have c1 : g1.IsCell (L + 1) (some (.ref wa)) := ⟨o1, e1, d1⟩
  have G1 := G.up x1
  have hT1 := hT.up x1
  have hw1 := x1 _ _ hw
  have hr1 := hr.up x1
  repeat' walk1
  refine' s_ListComp (s := s) (E := fun _ _ => False) ?_ ?hclos ?hcell ?hkind ?hnames
  walk_at "comp sides"
  repeat' walk1
  refine c_keys (rA.le (by decide) (by decide)) G1 T hT1 hm hr1 hn fun D ks e' h2 t2 T2 hks => ?_
  repeat' walk1
  refine comp_list (s := s) [] _ (fun i g₁ own₁ ys => own₁ = [] ∧ IntsAre ys ((rows.take i).map fun p => (ws.idxOf p.1 : Int))) rA.hh T2 (List.Perm.refl _) (mu_isL T2 (.head _)) (.inr (.head _)) ⟨⟨rfl, .nil⟩, ?_, ?_, ?_⟩
  · have := hks.length; have := hr.length; simp only [List.length_map] at *; exact szL (n := 1000) (by omega) (by decide)
  · rintro C i v g₁ m₁ own₁ tl₁ h₃ t₃ ys hi hsub x₁ hv ⟨rfl, hys⟩ T4 Post hPost
    have c2 := cell_up x₁ c1
    have hw2 := x₁ _ _ hw1
    obtain ⟨d, hd, rd⟩ := hks.get hv
    rw [List.getElem?_map] at hd
    obtain ⟨p, hp, rfl⟩ := Option.map_eq_some_iff.mp hd
    obtain ⟨tp, rfl⟩ := rd.strE
    have hin := hall p (List.mem_of_getElem? hp)
    repeat' walk1
    refine s_inS (by walk_at "isL") hws ?_
    rw [show (ws.any (· == p.1)) = true from List.any_eq_true.mpr ⟨p.1, hin, by simp⟩]
    repeat' walk1
    refine s_indexS (by walk_at "isL") hws (by omega) hin ?_
    repeat' walk1
    rename_i TS
    refine hPost _ _ (cp_end (own₂ := []) TS Ext.rfl' ⟨rfl, ?_⟩)
    rw [take_snoc hp, List.map_append]
    exact hys.append (.cons _ _ .nil)
  · rintro g₁ own₁ h₃ t₃ D3 ys e3 x₁ ⟨rfl, hys⟩ T4 T5
    repeat' walk1
    rw [List.take_of_length_le (by have := hks.length; simp only [List.length_map] at this; omega)] at hys
    exact k D3 ys e3 h₃ t₃ (((T5.mem.weak x₁).weak x1).sub (by walk_at "sublist")) hys
theorem c_tables {tb hl wa : Addr} {vs wvs : List Value} {ws : List Str} {e : Nat} {rows : List (Str × Str)} {Q : Value → Shared → Prop}
   (r : Room A 4 300) (G : Gl w g) (T : At g L m mu h) (hT : Tbl g tb hl) (hm : (hl, lst vs e) ∈ mu) (hr : RdA g vs (rows.map rowD)) (hn : vs.length ≤ 900)
   {we : Nat} (hw : g.get? wa = some (lst wvs we)) (hwn : ws.length ≤ 1000) (hws : StrsAre wvs ws) (hall : ∀ p ∈ rows, p.1 ∈ ws)
   (k : ∀ D ks e' h' t', At g L m ((D, lst ks e') :: mu) h' → IntsAre ks (rows.map fun p => (ws.idxOf p.1 : Int)) → Q (.ref D) (Sh s h' t')) :
   wpAny (model prog w) A (call (.ref 281) [.ref tb, .ref wa]) Q E (Sh s h t) :=
  let ⟨oL, n, M⟩ := T
  wpAny_call (tables_spec r G M hT (.tail _ hm) hr hn hw hwn hws hall fun D ks e' h' t' M' q => k D ks e' h' t' ⟨oL, n, M'.perm (.swap ..)⟩ q)
end
theorem At.add {g h : Heap} {L x : Addr} {m : Loc} {mu : Led} {o : Obj} (T : At g L m mu h) (hx : h.get? x = some o) (hL : x ≠ L) (hn : ∀ p ∈ mu, p.1 ≠ x) (hg : g.get? x = none) : At g L m ((x, o) :: mu) h := by
  obtain ⟨oL, nL, M⟩ := T
  refine ⟨oL, nL, M.keep, fun p hp => ?_, ?_⟩
  · rcases List.mem_cons.mp hp with rfl | hp
    · exact M.at_ _ (.head _)
    · rcases List.mem_cons.mp hp with rfl | hp
      · exact ⟨hx, hg⟩
      · exact M.at_ p (.tail _ hp)
  · have nd := M.nd
    rw [List.map_cons] at nd ⊢
    rw [List.map_cons]
    refine List.nodup_cons.mpr ⟨fun hm => ?_, List.nodup_cons.mpr ⟨fun hm => ?_, (List.nodup_cons.mp nd).2⟩⟩
    · rcases List.mem_cons.mp hm with e | hm
      · exact hL e.symm
      · exact (List.nodup_cons.mp nd).1 hm
    · obtain ⟨p, hp, e⟩ := List.mem_map.mp hm
      exact hn p hp e
theorem At.newsBut {g h : Heap} {L dx : Addr} {m : Loc} {mu : Led} {od : Obj} (T : At g L m ((dx, od) :: mu) h) : News noHeap L h ([] ++ (dx, od) :: (allBut h L).filter fun p => p.1 != dx) := by
  obtain ⟨oL, nL, M⟩ := T
  intro p hp
  rcases List.mem_cons.mp hp with rfl | hp
  · exact ⟨(M.at_ _ (.tail _ (.head _))).1, M.ne (q := (dx, od)) (.head _), noHeap_get _⟩
  · have := mem_allBut.mp (List.mem_filter.mp hp).1
    exact ⟨this.1, this.2, noHeap_get _⟩
theorem At.backSet {g h h' : Heap} {L dx : Addr} {m : Loc} {mu : Led} {od od' : Obj} (T : At g L m ((dx, od) :: mu) h) (F : Fr noHeap L h' m) (N : News noHeap L h' ([] ++ (dx, od') :: (allBut h L).filter fun p => p.1 != dx)) : At g L m ((dx, od') :: mu) h' := by
  obtain ⟨oL, nL, M⟩ := T
  obtain ⟨oL', eL, nL'⟩ := LCg.ns_obj F.ns
  have gL := (M.at_ _ (.head _)).2
  have gd := (M.at_ _ (.tail _ (.head _))).2
  have keep : ∀ b o, h.get? b = some o → b ≠ L → b ≠ dx → h'.get? b = some o := fun b o e n1 n2 =>
    (N (b, o) (.tail _ (List.mem_filter.mpr ⟨mem_allBut.mpr ⟨e, n1⟩, by simpa using n2⟩))).1
  refine ⟨oL', nL', fun b o e => keep b o (M.keep b o e) (fun q => ?_) (fun q => ?_), fun p hp => ?_, M.nd⟩
  · rw [q, show g.get? L = none from gL] at e; cases e
  · rw [q, show g.get? dx = none from gd] at e; cases e
  · rcases List.mem_cons.mp hp with rfl | hp
    · exact ⟨eL, gL⟩
    · rcases List.mem_cons.mp hp with rfl | hp
      · exact ⟨(N _ (.head _)).1, gd⟩
      · have nd := M.nd
        rw [List.map_cons, List.map_cons] at nd
        refine ⟨keep _ _ (M.at_ p (.tail _ (.tail _ hp))).1 (M.ne (.tail _ hp)) (fun q => ?_), (M.at_ p (.tail _ (.tail _ hp))).2⟩
        exact (List.nodup_cons.mp (List.nodup_cons.mp nd).2).1 (List.mem_map.mpr ⟨p, hp, q⟩)
section
variable {prog : Program} {w : World} {A : Around} {s : Shared} {g h : Heap} {t : Nat} {mu tl : Led} {R : Result → Shared → Prop} {L : Addr} {m : Loc} {E : Value → Shared → Prop}
set_option maxHeartbeats 0 in
theorem init_spec {x dx hl : Addr} {e : Nat}
   (r : Room A 3 300) (G : Gl w g) (M : Mem g ((x, instObj 184 dx) :: (dx, emptyDict) :: (hl, lst [] e) :: mu) h)
   (k : ∀ tk h' t', Mem g ((x, instObj 184 dx) :: (dx, dictOf [⟨PyData.keyHash w.params "_headers", .str "_headers" tk, .ref hl⟩] 1) :: (hl, lst [] e) :: mu) h' → R (.ok (.ret .none)) (Sh s h' t')) :
   codeAny (model prog w) A (.call (.ref 76) ⟨[.ref x, .ref hl], []⟩) R (Sh s h t) := by
  refine' r_enter (binds := [("self", .ref x), ("headers", .ref hl)]) r G M ?ho ?hcd ?hbind ?hloc ?k ?hcell ?hco ?hgen ?hk
  walk_at "entered"
  intro A' L h1 tk1 rA T
  repeat' walk1
  rename_i TS
  have hhl := TS.get (p := (hl, lst [] e)) (.tail _ (.tail _ (.head _)))
  refine kto_cont (T := "list") (s := Sh s _ _) ⟨_, hhl, rfl⟩ (by decide +kernel) ?_
  repeat' walk1
  refine plainObj_wpAny_Assign_Attribute ?_ ?_
  rotate_left
  · with_unfolding_all rfl
  repeat' walk1
  have TD := TS.swap
  have I : InstAt _ x (instObj 184 dx) 184 (some emptyDict) := ⟨TS.get (p := (x, instObj 184 dx)) (.head _), rfl, rfl, TS.get (p := (dx, emptyDict)) (.tail _ (.head _))⟩
  have X := G.X.keeps TS.keep
  refine set_plain (s := Sh s _ _) X I (by k_is) ?_
  refine osa_dict (s := Sh s _ _) (pre := []) TD.fr TD.newsBut X I rfl (by k_is) (by k_is) (show hasDictIn (hd.heap_39 w.params) 184 = true by k_is) rfl (fun _ hp => nomatch hp) (fun p hp => by simpa using (List.mem_filter.mp hp).2)
    (od' := dictOf [⟨PyData.keyHash w.params "_headers", .str "_headers" _, .ref hl⟩] 1) (n := 1) (by with_unfolding_all rfl) rfl (Nat.le_of_ble_eq_true rfl) fun h' F N => ?_
  have TE := TD.backSet F N
  repeat' walk1
  refine s_For (s := s) ?_
  repeat' walk1
  refine for_listT (s := s) [] _ (fun i _ _ own₁ => own₁ = []) (fun _ _ _ => False) (fun _ _ _ _ => False) rA.hh TE (List.Perm.refl _) (vs := []) (mu_isL TE (.tail _ (.tail _ (.head _)))) (.inr (.tail _ (.tail _ (.head _)))) ⟨rfl, fun i _ _ _ _ _ _ _ hi => absurd hi (Nat.not_lt_zero _), ?_, fun _ _ _ _ _ _ x => x.elim, fun _ _ _ _ _ _ _ x => x.elim⟩
  rintro g₁ m₁ own₁ h₃ t₃ x₁ rfl T4
  repeat' walk1
  exact k _ _ _ ((T4.mem.weak x₁).perm (.swap ..))
theorem tc_weight (a : Addr) (r : List Value) : (Code.builtin "type.__call__" ⟨.ref a :: r, []⟩).weight = 1 := by first | rfl | kernel_rfl
theorem tc_units (a : Addr) (r : List Value) : (Code.builtin "type.__call__" ⟨.ref a :: r, []⟩).cUnits = 1 := by first | rfl | kernel_rfl
theorem Room.ofCall {n u : Nat} {a : Addr} {l : List Value} (r : Room A (n + 1) (u + 1)) : Room (A.under (.builtin "type.__call__" ⟨.ref a :: l, []⟩)) n u :=
  ⟨r.hh, by show A.depth + (Code.builtin "type.__call__" ⟨.ref a :: l, []⟩).weight + n < _; rw [tc_weight]; have := r.hd; omega, by show A.units + (Code.builtin "type.__call__" ⟨.ref a :: l, []⟩).cUnits + u < cLine; rw [tc_units]; have := r.hu; omega⟩
theorem Room.in1 {n u : Nat} (r : Room A n (u + 1)) : Room A.in1 n u := ⟨r.hh, r.hd, by have h1 := r.hu; show A.units + 1 + u < cLine; omega⟩
set_option maxHeartbeats 0 in
theorem c_Headers {hl : Addr} {e : Nat} {Q : Value → Shared → Prop} (r : Room A 4 310) (G : Gl w g) (T : At g L m ((hl, lst [] e) :: mu) h)
   (k : ∀ tb g' h' t', Ext g g' → Tbl g' tb hl → At g' L m ((hl, lst [] e) :: mu) h' → Q (.ref tb) (Sh s h' t')) :
   wpAny (model prog w) A (call (.ref 184) [.ref hl]) Q E (Sh s h t) := by
  refine wpAny_call (make_K (s := Sh s h t) T.fr T.news (G.X.keeps T.keep) (by k_is) (by k_is) (by k_is) fun x dx h' F N l1 l2 => ?_)
  have T1 : At g L m ((dx, emptyDict) :: (hl, lst [] e) :: mu) h' := T.back2 F (fun p hp => N p (.tail _ hp)) l1
  have hx := N _ (.head _)
  have ngt : ∀ b o, h.get? b = some o → b ≠ L → b < x := fun b o e ne => Nat.lt_trans (l1 (b, o) (mem_allBut.mpr ⟨e, ne⟩)) l2
  have T2 : At g L m ((x, instObj 184 dx) :: (dx, emptyDict) :: (hl, lst [] e) :: mu) h' := by
    refine At.add T1 hx.1 hx.2.1 (fun p hp q => ?_) ?_
    · rcases List.mem_cons.mp hp with rfl | hp
      · exact absurd l2 (q ▸ Nat.lt_irrefl _)
      · obtain ⟨oL, nL, M⟩ := T
        exact absurd (ngt p.1 p.2 (M.at_ p (.tail _ hp)).1 (M.ne hp)) (q ▸ Nat.lt_irrefl _)
    · cases eg : g.get? x with
      | none => rfl
      | some o => exact absurd (ngt x o (T.keep _ _ eg) hx.2.1) (Nat.lt_irrefl _)
  obtain ⟨oL, nL, M2⟩ := T2
  refine init_spec (mu := (L, oL) :: mu) (dx := dx) (e := e) (Room.ofCall (r.le (Nat.le_refl 4) (by decide))) G (M2.perm ?_) fun tk h3 t3 M3 => ⟨rfl, ?_⟩
  · exact ((List.Perm.swap _ _ _).trans ((List.Perm.swap _ _ _).cons _)).trans (((List.Perm.swap _ _ _).cons _).cons _) |>.symm
  · have T3 : At g L m ((x, instObj 184 dx) :: (dx, dictOf [⟨PyData.keyHash w.params "_headers", .str "_headers" tk, .ref hl⟩] 1) :: (hl, lst [] e) :: mu) h3 :=
      ⟨oL, nL, M3.perm (((List.Perm.swap _ _ _).trans ((List.Perm.swap _ _ _).cons _)).trans (((List.Perm.swap _ _ _).cons _).cons _))⟩
    obtain ⟨g1, x1, T4, e1⟩ := T3.freeze
    obtain ⟨g2, x2, T5, e2⟩ := T4.freeze
    exact k x g2 h3 t3 (x1.tr x2) ⟨dx, _, _, _, x2 _ _ e1, e2⟩ T5
end
section
variable {prog : Program} {w : World} {A : Around} {s : Shared} {g h : Heap} {t : Nat} {mu tl : Led} {R : Result → Shared → Prop} {L : Addr} {m : Loc} {E : Value → Shared → Prop}
theorem join_ok {y : Str} (hy1 : y.length ≤ 1000) : (([y] : List Str).map (·.length)).sum + ([y] : List Str).length * (Str.ofString "; ").length ≤ 16777216 := by
  have h2 : (Str.ofString "; ").length = 2 := by decide +kernel
  simp [h2]
  omega
set_option maxHeartbeats 0 in
theorem addh_spec {tb hl : Addr} {vs : List Value} {e : Nat} {rows : List (Str × Str)} {x y : Str} {tx ty : Tok}
   (r : Room A 5 300) (G : Gl w g) (T : At g L m ((hl, lst vs e) :: mu) h) (hT : Tbl g tb hl) (hn : vs.length ≤ 900)
   (hx0 : okx x = true) (hx1 : x.length ≤ 1000) (hy0 : okx y = true) (hy1 : y.length ≤ 1000) (hr : RdA g vs (rows.map rowD))
   (k : ∀ TT g' e' h' t', Ext g g' → At g' L m ((hl, lst (vs ++ [.ref TT]) e') :: mu) h' → RdA g' (vs ++ [.ref TT]) ((rows ++ [(x, Txt.join "; " [y])]).map rowD) → R (.ok (.ret .none)) (Sh s h' t')) :
   codeAny (model prog w) A (.call (.ref 181) ⟨[.ref tb, .str x tx, .str y ty], []⟩) R (Sh s h t) := by
  refine' r_enterKw (front := [("self", .ref tb), ("_name", .str x tx), ("_value", .str y ty)]) (nm := "_params") (ex := []) r G T ?ho ?hcd ?hn ?hp ?hk1 ?hloc ?k ?hcell ?hco ?hgen ?hk
  case ho => k_is
  case hcd => k_is
  case hn => exact List.nodup_nil
  case hp => exact rfl
  case hk1 => exact fun _ => rfl
  case hloc => exact fun _ => locs rfl
  case hcell => decide
  case hco => exact rfl
  case hgen => exact rfl
  case hk => exact rfl
  intro A' L' D oL tk n h1 t1 hDm rA nL T1
  repeat' walk1
  rename_i TF
  refine wpAny_For ?_
  repeat' walk1
  refine s_mItems TF (.tail _ (.head _)) ?_
  repeat' walk1
  refine for_nil rA.hh hDm TF (.tail _ (.head _)) fun it h2 t2 T2 => ?_
  repeat' walk1
  rename_i TC
  refine s_join (ys := [y]) TC (mu_isL TC (.head _)) (.cons _ _ .nil) (join_ok hy1) fun t' t'' => ?_
  repeat' walk1
  rename_i TZ
  refine s_appendD (pre := [_, _, _, (L, oL)]) TZ (by walk_at "size") fun e' h3 t3 T3 => ?_
  repeat' walk1
  obtain ⟨g', x', T4, e4⟩ := At.freeze T3
  refine k _ g' e' h3 t3 x' ⟨oL, nL, T4.mem.sub (by walk_at "sublist")⟩ ?_
  rw [List.map_append]
  exact (hr.up x').snoc (Rd.tup e4 rfl rfl (RdA.cons' (Rd.str _ _) (RdA.cons' (Rd.str _ _) RdA.nil)))
end
section
variable {prog : Program} {w : World} {A : Around} {s : Shared} {g h : Heap} {t : Nat} {m : Loc} {env : Env} {own its tl mu : Led} {target : Expr} {I D a : Addr} {n : Nat} {P : Nat → Value → Heap → Prop} {elt iter : Expr} {ifs : List Expr} {scope : Scope} {pos : Pos}
theorem src_tupleT {vs : List Value} {Q : Value → Shared → Prop} {E : Value → Shared → Prop} {elts : List Expr} {x1 : Nat} {px : Pos} (own tl : Led) (hh : A.handled = none) (T : At g env.locals m mu h) (hp : (own ++ tl).Perm mu) (hl : h.IsTuple a vs.toArray)
    (ha : (∃ o, g.get? a = some o) ∨ a ∈ tl.map (·.1))
    (k : ∀ I its h' t', Src prog w A (.Tuple elts x1 px) I its tl g h' vs.length (fun i v _ => vs[i]? = some v) → At g env.locals m (own ++ (its ++ tl)) h' → Q (.ref I) (Sh s h' t')) :
    wpAny (model prog w) A (pyIter (.ref a)) Q E (Sh s h t) := by
  have hlt : a < h.objs.size := by obtain ⟨o, e, _⟩ := hl; exact Heap.lt_size e
  refine wpAny_pyIter_tuple hl ?_
  have T' : At g env.locals m (own ++ ([(h.objs.size, { cls := .type "tuple_iterator", data := .fields #[.ref a, .int 0 0] })] ++ tl)) (h.push { cls := .type "tuple_iterator", data := .fields #[.ref a, .int 0 0] }) :=
    (T.push _ rfl).perm ((List.perm_middle).trans (hp.cons _))
  have W : Walks prog w A h.objs.size [h.objs.size, a] [h.objs.size] vs.length (fun i v => vs[i]? = some v) (fun i h' => h'.IsTupleIter h.objs.size a i ∧ h'.IsTuple a vs.toArray) := by
    simpa using Walks.tuple (prog := prog) (w := w) hh h.objs.size a (Nat.ne_of_lt hlt) vs.toArray
  refine k _ _ _ _ ⟨[h.objs.size, a], [h.objs.size], _, _, KTurns.ofWalks W (fun i v s Q E st q => letGo_tupleiter st.1 q), ?_, ?_, ?_, ?_, ?_⟩ T'
  · simp
  · intro b hb
    have hb' : b = h.objs.size ∨ b = a := by simpa using hb
    rcases hb' with rfl | rfl
    · exact .inl (by simp)
    · exact .inr ha
  · rintro i h' ⟨⟨o, e, _⟩, _⟩ b hb
    have : b = h.objs.size := by simpa using hb
    subst this
    exact ⟨o, e⟩
  · rintro i s' Q' E' ⟨e, _⟩ q
    exact wpAny_pyIter_tupleiter e q
  · exact ⟨⟨_, Heap.get?_push_size _ rfl, rfl, rfl⟩, hl.at fun o e => Heap.get?_push_of_some _ e⟩
theorem for_tupleT {body orelse : List Stmt} {E : Value → Shared → Prop} {Q : Flow → Shared → Prop} {elts : List Expr} {x1 : Nat} {px : Pos} {vs : List Value} (own tl : Led) (J : Nat → Heap → Loc → Led → Prop) (brk : Heap → Loc → Led → Prop) (ret : Value → Heap → Loc → Led → Prop) (hh : A.handled = none) (T : At g env.locals m mu h) (hp : (own ++ tl).Perm mu) (hl : h.IsTuple a vs.toArray)
    (ha : (∃ o, g.get? a = some o) ∨ a ∈ tl.map (·.1)) (ob : ForObl prog w A env (.Tuple elts x1 px) body orelse s Q own tl g m vs.length (fun i v _ => vs[i]? = some v) J brk ret) :
    wpAny (model prog w) A (pyIter (.ref a)) (fun it s₂ => ForAt prog w A env (.Tuple elts x1 px) body orelse s Q it s₂) E (Sh s h t) :=
  src_tupleT own tl hh T hp hl ha fun I its h' t' S T' => ⟨I, own, its, tl, g, h', t', m, vs.length, _, J, brk, ret, rfl, rfl, S, T', ob.h0, ob.turn', ob.done, ob.brk, ob.ret⟩
end
section
variable {prog : Program} {w : World} {A : Around} {E : Value → Shared → Prop} {s : Shared} {g h : Heap} {t : Nat} {mu : Led} {m : Loc} {L l : Addr} {Q : Value → Shared → Prop}
noncomputable def IfQ (s : Shared) (g : Heap) (L : Addr) (m : Loc) (mu : Led) (n : Int) (v : Value) (s' : Shared) : Prop := ∃ t h' t', v = .int n t ∧ s' = Sh s h' t' ∧ At g L m mu h'
noncomputable def IfB (s : Shared) (g : Heap) (L : Addr) (m : Loc) (mu : Led) (b : Bool) (v : Value) (s' : Shared) : Prop := ∃ h' t', v = .bool b ∧ s' = Sh s h' t' ∧ At g L m mu h'
noncomputable def IfT (s : Shared) (g : Heap) (L : Addr) (m : Loc) (mu : Led) (b : Bool) (v : Bool) (s' : Shared) : Prop := ∃ h' t', v = b ∧ s' = Sh s h' t' ∧ At g L m mu h'
theorem s_cutI {x : Sem Value} (n : Int) (T : At g L m mu h) (k1 : wpAny (model prog w) A x (IfQ s g L m mu n) E (Sh s h t)) (k2 : ∀ t h' t', At g L m mu h' → Q (.int n t) (Sh s h' t')) : wpAny (model prog w) A x Q E (Sh s h t) :=
  wpAny_mono k1 (fun _ _ ⟨t, h', t', e, e', T'⟩ => by subst e e'; exact k2 t h' t' T') fun _ _ x => x
end
noncomputable def doneN (a b c : Nat) : Nat := (a % 2) * (15 - Nat.lor b c) + (a / 2 % 2) * Nat.land c (15 - b) + (a / 4 % 2) * Nat.land b (15 - c) + (a / 8) * Nat.land b c
theorem done_eqs : ∀ a < 16, ∀ b < 16, ∀ c < 16, (decide (doneI (a : Nat) (b : Nat) (c : Nat) = ((doneN a b c : Nat) : Int)) && decide (doneN a b c < 16)) = true := by decide +kernel
theorem done_eq {a b c : Nat} (ha : a < 16) (hb : b < 16) (hc : c < 16) : doneI a b c = ((doneN a b c : Nat) : Int) ∧ doneN a b c < 16 := by
  have := done_eqs a ha b hb c hc
  simpa only [Bool.and_eq_true, decide_eq_true_eq] using this
section
variable {K V W : Type}
noncomputable def stepK (mean : K → Nat) (val : K → Nat → Nat → V) (n : K) (l r : Nat) (st : List (Nat × V)) : List (Nat × V) :=
  let new := doneN (mean n) ((st.map (·.1)).getD l 0) ((st.map (·.1)).getD r 0)
  if (st.map (·.1)).any (· == new) then st else st ++ [(new, val n l r)]
noncomputable def bothK (mean : K → Nat) (val : K → Nat → Nat → V) (n : K) (one other : Nat) (st : List (Nat × V)) : List (Nat × V) := stepK mean val n other one (stepK mean val n one other st)
noncomputable def otherK (mean : K → Nat) (val : K → Nat → Nat → V) (told : List K) (one other : Nat) (st : List (Nat × V)) : List (Nat × V) := told.foldl (fun st n => bothK mean val n one other st) st
noncomputable def turnsK (one len : Nat) : Nat := if one < len ∧ len < 16 then one + 1 else 0
noncomputable def oneK (mean : K → Nat) (val : K → Nat → Nat → V) (told : List K) (one : Nat) (st : List (Nat × V)) : List (Nat × V) :=
  (List.range (turnsK one st.length)).foldl (fun st o => otherK mean val told one o st) st
noncomputable def saidK (mean : K → Nat) (val : K → Nat → Nat → V) (told : List K) (st : List (Nat × V)) (n : Nat) : List (Nat × V) := (List.range n).foldl (fun st one => oneK mean val told one st) st
end
noncomputable def opsS : List Str := Txt.split (Str.ofString "( ) [ ] : , ; + - * / | & < > = . % { } == != <= >= ~ ^ << >> ** += -= *= /= %= &= |= ^= <<= >>= **= // //= @ @= -> ... := !") (Str.ofString " ")
noncomputable def opAt (n : Nat) : Str := opsS.getD (n / 16 - 7) (Str.ofString "")
noncomputable def chS (l : Nat) : Str := ⟨#[97 + l]⟩
noncomputable def valOf (n l r : Nat) : Str := chS l ++ opAt n ++ chS r
noncomputable def st0 : List (Nat × Str) := [(12, Str.ofString ""), (10, Str.ofString "b")]
noncomputable def saidN (told : List Nat) (n : Nat) : List (Nat × Str) := saidK (· % 16) valOf told st0 n
theorem ops_len : opsS.length = 48 := by decide +kernel
theorem ops_ok : (opsS.all fun x => okx x && decide (x.length ≤ 3)) = true := by decide +kernel
structure WordsOk (ws : List Str) : Prop where
  len : ws.length = 16
  ok : ∀ x ∈ ws, okx x = true ∧ okx (Txt.lower x) = true ∧ x.length ≤ 1000 ∧ (Txt.lower x).length ≤ 1000
  nd : (ws.map Txt.lower).Nodup
theorem strs_app' {vs ws : List Value} {xs ys : List Str} (h : StrsAre vs xs) (k : StrsAre ws ys) : StrsAre (vs ++ ws) (xs ++ ys) := by
  induction h with
  | nil => exact k
  | cons x t _ ih => exact .cons x t ih
noncomputable def wd (ws : List Str) (i : Nat) : Str := ws.getD i (Str.ofString "")
noncomputable def rowsOf (ws : List Str) (st : List (Nat × Str)) : List (Str × Str) := st.map fun p => (wd ws p.1, p.2)
theorem wd_get {ws : List Str} (W : WordsOk ws) {i : Nat} (hi : i < 16) : ws[i]? = some (wd ws i) := by
  have : i < ws.length := by rw [W.len]; exact hi
  unfold wd
  rw [List.getD_eq_getElem?_getD, List.getElem?_eq_getElem this]; rfl
theorem wd_mem {ws : List Str} (W : WordsOk ws) {i : Nat} (hi : i < 16) : wd ws i ∈ ws := List.mem_of_getElem? (wd_get W hi)
theorem wd_low {ws : List Str} (W : WordsOk ws) {i j : Nat} (hi : i < 16) (hj : j < 16) (h : Txt.lower (wd ws i) = Txt.lower (wd ws j)) : i = j := by
  have hi' : i < (ws.map Txt.lower).length := by rw [List.length_map, W.len]; exact hi
  have hj' : j < (ws.map Txt.lower).length := by rw [List.length_map, W.len]; exact hj
  have a : (ws.map Txt.lower)[i]? = some (Txt.lower (wd ws i)) := by rw [List.getElem?_map, wd_get W hi]; rfl
  have b : (ws.map Txt.lower)[j]? = some (Txt.lower (wd ws j)) := by rw [List.getElem?_map, wd_get W hj]; rfl
  exact (List.getElem?_inj hi' W.nd (i := i) (j := j)).mp (by rw [a, b, h])
theorem wd_idx {ws : List Str} (W : WordsOk ws) {i : Nat} (hi : i < 16) : ws.idxOf (wd ws i) = i := by
  have hl : ws.idxOf (wd ws i) < ws.length := List.idxOf_lt_length_iff.mpr (wd_mem W hi)
  have h16 : ws.idxOf (wd ws i) < 16 := by rw [W.len] at hl; exact hl
  have e : ws[ws.idxOf (wd ws i)]? = some (wd ws i) := by rw [List.getElem?_eq_getElem hl, List.getElem_idxOf hl]
  have e2 := wd_get W h16
  rw [e] at e2
  exact wd_low W h16 hi (by rw [← Option.some.inj e2])
structure SInv (g : Heap) (ws : List Str) (vs avs : List Value) (st : List (Nat × Str)) : Prop where
  rd : RdA g vs ((rowsOf ws st).map rowD)
  an : StrsAre avs (st.map (·.2))
  lt : ∀ p ∈ st, p.1 < 16
  nd : (st.map (·.1)).Nodup
theorem lenLe : ∀ (n : Nat) (l : List Nat), l.Nodup → (∀ x ∈ l, x < n) → l.length ≤ n
  | 0, [], _, _ => Nat.le_refl _
  | 0, a :: l, _, h => absurd (h a (.head _)) (Nat.not_lt_zero _)
  | n + 1, l, hn, h => by
    have h1 := lenLe n (l.erase n) (hn.erase n) fun x hx => by
      have a := h x (List.mem_of_mem_erase hx)
      have b : x ≠ n := (hn.mem_erase_iff.mp hx).1
      omega
    rw [List.length_erase] at h1
    split at h1 <;> omega
theorem len16 {l : List Nat} (hn : l.Nodup) (hl : ∀ x ∈ l, x < 16) : l.length ≤ 16 := lenLe 16 l hn hl
section
variable {g g' : Heap} {ws : List Str} {vs avs : List Value} {st : List (Nat × Str)}
theorem SInv.up (I : SInv g ws vs avs st) (x : Ext g g') : SInv g' ws vs avs st := ⟨I.rd.up x, I.an, I.lt, I.nd⟩
theorem SInv.len (I : SInv g ws vs avs st) : st.length ≤ 16 := by
  have := len16 I.nd (fun x hx => by obtain ⟨p, hp, rfl⟩ := List.mem_map.mp hx; exact I.lt p hp)
  simpa using this
theorem SInv.vlen (I : SInv g ws vs avs st) : vs.length = st.length := by have := I.rd.length; simpa [rowsOf] using this
theorem SInv.alen (I : SInv g ws vs avs st) : avs.length = st.length := by have := strs_len I.an; simpa using this
theorem rows_le (W : WordsOk ws) (hl : ∀ p ∈ st, p.1 < 16) : ∀ p ∈ rowsOf ws st, p.1.length ≤ 1000 := by
  intro p hp
  obtain ⟨q, hq, rfl⟩ := List.mem_map.mp hp
  exact (W.ok _ (wd_mem W (hl q hq))).2.2.1
theorem rows_in (W : WordsOk ws) (hl : ∀ p ∈ st, p.1 < 16) : ∀ p ∈ rowsOf ws st, p.1 ∈ ws := by
  intro p hp
  obtain ⟨q, hq, rfl⟩ := List.mem_map.mp hp
  exact wd_mem W (hl q hq)
theorem rows_idx (W : WordsOk ws) (hl : ∀ p ∈ st, p.1 < 16) : ((rowsOf ws st).map fun p => (ws.idxOf p.1 : Int)) = (st.map (·.1)).map (fun (n : Nat) => (n : Int)) := by
  unfold rowsOf
  rw [List.map_map, List.map_map]
  exact List.map_congr_left fun p hp => by simp only [Function.comp]; rw [wd_idx W (hl p hp)]
theorem get_none (W : WordsOk ws) (hl : ∀ p ∈ st, p.1 < 16) {i : Nat} (hi : i < 16) (hn : i ∉ st.map (·.1)) : getRows (rowsOf ws st) (wd ws i) = none := by
  unfold getRows
  rw [List.find?_eq_none.mpr, Option.map_none]
  intro p hp
  obtain ⟨q, hq, rfl⟩ := List.mem_map.mp hp
  intro h
  have e : q.1 = i := wd_low W (hl q hq) hi (by simpa using h)
  exact hn (List.mem_map.mpr ⟨q, hq, e⟩)
theorem rows_snoc (i : Nat) (v : Str) : rowsOf ws st ++ [(wd ws i, v)] = rowsOf ws (st ++ [(i, v)]) := by unfold rowsOf; rw [List.map_append]; rfl
theorem SInv.add (I : SInv g ws vs avs st) {i : Nat} {v : Str} {T : Value} {tv : Tok} {g' : Heap} (hi : i < 16) (hn : i ∉ st.map (·.1)) (rr : RdA g' (vs ++ [T]) ((rowsOf ws st ++ [(wd ws i, v)]).map rowD)) : SInv g' ws (vs ++ [T]) (avs ++ [.str v tv]) (st ++ [(i, v)]) := by
  refine ⟨by rwa [rows_snoc] at rr, ?_, fun p hp => ?_, ?_⟩
  · rw [List.map_append]
    exact strs_app' I.an (.cons _ _ .nil)
  · rcases List.mem_append.mp hp with hp | hp
    · exact I.lt p hp
    · simp only [List.mem_cons, List.not_mem_nil, or_false] at hp; subst hp; exact hi
  · rw [List.map_append, List.nodup_append]
    refine ⟨I.nd, by simp, fun a ha b hb => ?_⟩
    simp only [List.map_cons, List.map_nil, List.mem_cons, List.not_mem_nil, or_false] at hb
    subst hb
    exact fun q => hn (q ▸ ha)
end
section
variable {K V : Type} {mean : K → Nat} {val : K → Nat → Nat → V}
theorem range_fold {α : Type} (f : α → Nat → α) (a : α) (i : Nat) : (List.range (i + 1)).foldl f a = f ((List.range i).foldl f a) i := by
  rw [List.range_succ, List.foldl_append]; rfl
theorem take_fold {α β : Type} (f : α → β → α) (a : α) {l : List β} {i : Nat} {x : β} (h : l[i]? = some x) : (l.take (i + 1)).foldl f a = f ((l.take i).foldl f a) x := by
  rw [take_snoc h, List.foldl_append]; rfl
end
theorem filt_pos {α : Type} {l : List α} {i : Nat} {k : α} (p : α → Bool) (hk : l[i]? = some k) (hp : p k = true) : (l.take (i + 1)).filter p = (l.take i).filter p ++ [k] := by
  rw [take_snoc hk, List.filter_append, List.filter_cons_of_pos hp]; rfl
theorem filt_neg {α : Type} {l : List α} {i : Nat} {k : α} (p : α → Bool) (hk : l[i]? = some k) (hp : p k = false) : (l.take (i + 1)).filter p = (l.take i).filter p := by
  rw [take_snoc hk, List.filter_append, List.filter_cons_of_neg (by rw [hp]; exact Bool.false_ne_true), List.filter_nil, List.append_nil]
section
variable {prog : Program} {w : World} {A : Around} {s : Shared} {g h : Heap} {t : Nat} {m : Loc} {env cenv : Env} {mu : Led} {elt : Expr} {ifs : List Expr} {D a b : Addr} {E : Value → Shared → Prop}
end
section
variable {prog : Program} {w : World} {A : Around} {E : Value → Shared → Prop} {s : Shared} {g h : Heap} {t : Nat} {mu mu' tl pre : Led} {m : Loc} {env : Env} {c : Addr} {o : Obj} {L : Addr}
theorem r_storeP {x : Str} {v : Value} {v₀ : Option Value} {Q : Unit → Shared → Prop} (T : At g L m (pre ++ (c, o) :: tl) h) (hc : env.cells.lookup x = some c) (hv : o.data = .cell v₀)
    (k : ∀ o' h', o'.data = .cell (some v) → At g L m (pre ++ (c, o') :: tl) h' → Q () (Sh s h' t))
    (hk : env.scope.kind = .function := by rfl) (hl : env.kindOf x = some .cell := by rfl) : wpAny (model prog w) A (storeName env x v) Q E (Sh s h t) := by
  refine wpAny_storeName_cell hk hl hc ⟨o, T.get (List.mem_append_right _ (List.Mem.head _)), hv⟩ fun h' hc' hs => ?_
  obtain ⟨o', e', d'⟩ := hc'
  exact k o' h' d' (T.setAt hs e')
theorem At.sub (T : At g L m mu h) (hs : mu'.Sublist mu) : At g L m mu' h := let ⟨oL, n, M⟩ := T; ⟨oL, n, M.sub (hs.cons_cons _)⟩
end
local macro_rules | `(tactic| walk_at "eval Name") => `(tactic| (with_unfolding_all refine' r_cellM ?T ?hc ?hm ?hv ?_; (case T => assumption); (case hc => exact rfl); (case hm => walk_at "mem"); (case hv => assumption)))
local macro_rules | `(tactic| walk_at "subscriptTail") => `(tactic| ((with_reducible show wpAny _ _ (subscriptTail _ (Expr.Slice _ _ _ _) (Value.str _ _) (Value.ref _)) _ _ _); (refine' s_strSlice ?T ?z ?_; (case T => assumption); (case z => first | assumption | (refine Nat.le_trans ?_ (show 1000 ≤ sizeLine by decide); assumption)); intro hX tX tkX TX)))
local macro_rules | `(tactic| walk_at "call builtin:max") => `(tactic| (refine s_max2 (Room.hh (by assumption)) (by assumption) ?_; intro hX tkX tX TX))
noncomputable def tokHas (x : Str) : Bool := (PySem.valueAt tokV x).isSome
noncomputable def tokAt (x : Str) : Int := match PySem.valueAt tokV x with
  | some (.int i _) => i
  | _ => 0
theorem tok_val {x : Str} (h : tokHas x = true) : ∃ t, PySem.valueAt tokV x = some (.int (tokAt x) t) := by
  unfold tokHas at h
  unfold tokAt
  cases e : PySem.valueAt tokV x with
  | none => rw [e] at h; cases h
  | some v =>
    have : ∃ i t, v = .int i t := by
      unfold PySem.valueAt at e
      obtain ⟨p, hp, rfl⟩ := Option.map_eq_some_iff.mp e
      obtain ⟨y, _, rfl⟩ := List.mem_map.mp (List.mem_of_find?_eq_some hp)
      exact ⟨_, _, rfl⟩
    obtain ⟨i, t, rfl⟩ := this
    exact ⟨t, rfl⟩
noncomputable def cutOf (x : Str) (p : Nat) (k : Int) : Str := Txt.slice x (some (p : Int)) (some ((p : Int) + k))
noncomputable def sizesOf (x : Str) (p : Nat) : List Int := ([3, 2, 1] : List Int).filter fun k => tokHas (cutOf x p k)
noncomputable def sizeAt (x : Str) (p : Nat) : Int := (sizesOf x p ++ [0]).headD 0
noncomputable def symOf (x : Str) (p : Nat) : Int := if sizeAt x p = 0 then 256 + ((Txt.item x (p : Int)).cps.getD 0 0 : Nat) else tokAt (cutOf x p (sizeAt x p))
noncomputable def symGo (x : Str) : Nat → List Int × Int
  | 0 => ([], 0)
  | n + 1 => if (symGo x n).2 ≤ (n : Int) then ((symGo x n).1 ++ [symOf x n], (n : Int) + max 1 (sizeAt x n)) else symGo x n
noncomputable def symsOf (x : Str) : List Int := (symGo x x.length).1
theorem size_tok {x : Str} {p : Nat} (h : sizeAt x p ≠ 0) : tokHas (cutOf x p (sizeAt x p)) = true := by
  unfold sizeAt at *
  cases e : sizesOf x p with
  | nil => rw [e] at h; exact absurd rfl h
  | cons a l =>
    have : a ∈ sizesOf x p := by rw [e]; exact .head _
    exact (List.mem_filter.mp this).2
noncomputable def judgedOf (S : List Int) : List (Bool × Bool × Bool) := (S ++ [0]).map fun s => (decide (s ≥ 256), decide (s < 256), s == 0)
noncomputable def partsOf (S : List Int) : List Int := (S.filter fun s => decide (s ≥ 256)).map (· - 353)
noncomputable def meansOf (told : List Nat) (S : List Int) : List Int := told.flatMap fun n => (S.filter fun s => decide (s < 256) && s == ((n / 16 : Nat) : Int)).map fun _ => ((n % 16 : Nat) : Int)
noncomputable def StepOk (told : List Nat) (fs : List Nat) (i : Nat) (x : Str) : Prop :=
  x.length ≤ 500 ∧ (partsOf (symsOf x)).length + (meansOf told (symsOf x)).length = (symsOf x).length ∧
  ((partsOf (symsOf x) = [] ∧ meansOf told (symsOf x) = [] ∧ fs[i]? = some 12) ∨ (∃ a b, partsOf (symsOf x) = a :: b ∧ meansOf told (symsOf x) = [] ∧ fs[i]? = some 10) ∨
    (∃ (m l r : Nat) (b c : List Int) (fl fr : Nat), meansOf told (symsOf x) = (m : Int) :: b ∧ partsOf (symsOf x) = (l : Int) :: (r : Int) :: c ∧ l < i ∧ r < i ∧ m < 16 ∧ fs[l]? = some fl ∧ fs[r]? = some fr ∧ fl < 16 ∧ fr < 16 ∧ fs[i]? = some (doneN m fl fr)))
theorem symGo_len (x : Str) : ∀ n, (symGo x n).1.length ≤ n
  | 0 => Nat.le_refl _
  | n + 1 => by
    have := symGo_len x n
    unfold symGo
    split
    · rw [List.length_append]; simp; omega
    · omega
section
variable {prog : Program} {w : World} {A : Around} {s : Shared} {g h : Heap} {t : Nat} {mu tl : Led} {R : Result → Shared → Prop} {L : Addr} {m : Loc} {E : Value → Shared → Prop}
theorem c_addh {tb hl : Addr} {vs : List Value} {e : Nat} {rows : List (Str × Str)} {x y : Str} {tx ty : Tok} {Q : Value → Shared → Prop}
   (r : Room A 5 300) (G : Gl w g) (T : At g L m ((hl, lst vs e) :: mu) h) (hT : Tbl g tb hl) (hn : vs.length ≤ 900)
   (hx0 : okx x = true) (hx1 : x.length ≤ 1000) (hy0 : okx y = true) (hy1 : y.length ≤ 1000) (hr : RdA g vs (rows.map rowD))
   (k : ∀ TT g' e' h' t', Ext g g' → At g' L m ((hl, lst (vs ++ [.ref TT]) e') :: mu) h' → RdA g' (vs ++ [.ref TT]) ((rows ++ [(x, Txt.join "; " [y])]).map rowD) → Q .none (Sh s h' t')) :
   wpAny (model prog w) A (call (.ref 181) [.ref tb, .str x tx, .str y ty]) Q E (Sh s h t) :=
  wpAny_call (addh_spec r G T hT hn hx0 hx1 hy0 hy1 hr fun TT g' e' h' t' x' T' rr => k TT g' e' h' t' x' T' rr)
end
section
variable {prog : Program} {w : World} {A : Around} {s : Shared} {g h : Heap} {t : Nat} {mu tl : Led} {R : Result → Shared → Prop} {L : Addr} {m : Loc} {E : Value → Shared → Prop}
noncomputable def st4 (n one other : Nat) (st : List (Nat × Str)) : Nat → List (Nat × Str)
  | 0 => st
  | 1 => stepK (· % 16) valOf n one other st
  | _ => bothK (· % 16) valOf n one other st
theorem any_cast (l : List Nat) (x : Nat) : ((l.map fun (n : Nat) => (n : Int)).any (· == (x : Int))) = l.any (· == x) := by
  rw [List.any_map]
  congr 1
  funext y
  rw [Bool.eq_iff_iff]
  simp only [Function.comp, beq_iff_eq]
  omega
theorem op_get {n : Nat} (h1 : 13 ≤ n / 16) (h2 : n / 16 ≤ 54) : opsS[n / 16 - 7]? = some (opAt n) ∧ okx (opAt n) = true ∧ (opAt n).length ≤ 3 := by
  have hi : n / 16 - 7 < opsS.length := by rw [ops_len]; omega
  have e : opsS[n / 16 - 7]? = some (opAt n) := by
    unfold opAt
    rw [List.getD_eq_getElem?_getD, List.getElem?_eq_getElem hi]; rfl
  have := List.all_eq_true.mp ops_ok _ (List.mem_of_getElem? e)
  simp only [Bool.and_eq_true, decide_eq_true_eq] at this
  exact ⟨e, this.1, this.2⟩
theorem val_eq (n l r : Nat) : Str.mk #[(97 + (l : Int)).toNat] ++ opAt n ++ Str.mk #[(97 + (r : Int)).toNat] = valOf n l r := by
  unfold valOf chS
  rw [show (97 + (l : Int)).toNat = 97 + l by omega, show (97 + (r : Int)).toNat = 97 + r by omega]
theorem okx_app {x y : Str} (hx : okx x = true) (hy : okx y = true) : okx (x ++ y) = true := by
  unfold okx at *
  show (x.cps ++ y.cps).all okc = true
  rw [Array.all_append, hx, hy]; rfl
theorem ch_ok {l : Nat} (hl : l < 16) : okx (chS l) = true := (show ∀ l < 16, okx (chS l) = true by decide +kernel) l hl
theorem val_ok {n l r : Nat} (ho : okx (opAt n) = true) (h3 : (opAt n).length ≤ 3) (hl : l < 16) (hr : r < 16) : okx (valOf n l r) = true ∧ (valOf n l r).length ≤ 1000 := by
  refine ⟨okx_app (okx_app (ch_ok hl) ho) (ch_ok hr), ?_⟩
  unfold valOf
  rw [Str.length_append, Str.length_append]
  have h1 : (chS l).length = 1 := rfl
  have h2 : (chS r).length = 1 := rfl
  omega
theorem ints_at {ks : List Value} {l : List Nat} (h : IntsAre ks (l.map fun (n : Nat) => (n : Int))) {i : Nat} (hi : i < l.length) : ∃ t, ks[((i : Nat) : Int).toNat]? = some (.int ((l.getD i 0 : Nat) : Int) t) := by
  obtain ⟨t, e⟩ := h.get i ((l.getD i 0 : Nat) : Int) (by rw [List.getElem?_map, List.getD_eq_getElem?_getD, List.getElem?_eq_getElem hi]; rfl)
  exact ⟨t, by rw [Int.toNat_natCast]; exact e⟩
structure SLoc (m : Loc) (tb an od wa ta : Addr) : Prop where
  a : m "table" = some (.ref tb)
  b : m "answers" = some (.ref an)
  c : m "operators" = some (.ref od)
  d : m "words" = some (.ref wa)
  e : m "told" = some (.ref ta)
inductive JS1 (tb an od wa ta hl : Addr) (ws : List Str) (S : List (Nat × Str)) (g₁ : Heap) (m₁ : Loc) (own₁ : Led) : Prop
  | mk (vs : List Value) (e : Nat) (avs : List Value) (e2 : Nat) : own₁ = [(an, lst avs e2), (hl, lst vs e)] → SLoc m₁ tb an od wa ta → SInv g₁ ws vs avs S → JS1 tb an od wa ta hl ws S g₁ m₁ own₁
inductive JS2 (tb an od wa ta hl D : Addr) (ws : List Str) (S : List (Nat × Str)) (k one : Nat) (g₁ : Heap) (m₁ : Loc) (own₁ : Led) : Prop
  | mk (ks : List Value) (e3 : Nat) (vs : List Value) (e : Nat) (avs : List Value) (e2 : Nat) : own₁ = [(D, lst ks e3), (an, lst avs e2), (hl, lst vs e)] → SLoc m₁ tb an od wa ta → m₁ "found" = some (.ref D) → (∃ to, m₁ "one" = some (.int one to)) →
      SInv g₁ ws vs avs S → IntsAre ks ((S.map (·.1)).map fun (n : Nat) => (n : Int)) → k ≤ S.length → JS2 tb an od wa ta hl D ws S k one g₁ m₁ own₁
inductive JS3 (tb an od wa ta hl D : Addr) (ws : List Str) (S : List (Nat × Str)) (k one other : Nat) (to tv2 : Tok) (g₁ : Heap) (m₁ : Loc) (own₁ : Led) : Prop
  | mk (ks : List Value) (e3 : Nat) (vs : List Value) (e : Nat) (avs : List Value) (e2 : Nat) : own₁ = [(D, lst ks e3), (an, lst avs e2), (hl, lst vs e)] → SLoc m₁ tb an od wa ta → m₁ "found" = some (.ref D) → m₁ "one" = some (.int one to) → m₁ "other" = some (.int other tv2) →
      SInv g₁ ws vs avs S → IntsAre ks ((S.map (·.1)).map fun (n : Nat) => (n : Int)) → k ≤ S.length → JS3 tb an od wa ta hl D ws S k one other to tv2 g₁ m₁ own₁
inductive JS4 (tb an od wa ta hl D : Addr) (ws : List Str) (S : List (Nat × Str)) (k one other n : Nat) (to tv2 tn : Tok) (g₁ : Heap) (m₁ : Loc) (own₁ : Led) : Prop
  | mk (ks : List Value) (e3 : Nat) (vs : List Value) (e : Nat) (avs : List Value) (e2 : Nat) : own₁ = [(D, lst ks e3), (an, lst avs e2), (hl, lst vs e)] → SLoc m₁ tb an od wa ta → m₁ "found" = some (.ref D) → m₁ "one" = some (.int one to) → m₁ "other" = some (.int other tv2) → m₁ "number" = some (.int n tn) →
      SInv g₁ ws vs avs S → IntsAre ks ((S.map (·.1)).map fun (n : Nat) => (n : Int)) → k ≤ S.length → JS4 tb an od wa ta hl D ws S k one other n to tv2 tn g₁ m₁ own₁
set_option maxHeartbeats 0 in
theorem said_spec {ta wa : Addr} {tvs wvs : List Value} {told : List Nat} {ws : List Str} {we : Nat}
   (r : Room A 8 600) (G : Gl w g) (M : Mem g mu h) (ht : g.IsList ta tvs.toArray) (hti : IntsAre tvs (told.map (fun (n : Nat) => (n : Int))))
   (hw : g.get? wa = some (lst wvs we)) (hws : StrsAre wvs ws) (W : WordsOk ws) (hnum : ∀ n ∈ told, 13 ≤ n / 16 ∧ n / 16 ≤ 54)
   (k : ∀ T tb hl an vs e avs e2 g' h' t', Ext g g' → Tbl g' tb hl → SInv g' ws vs avs (saidN told 16) → Mem g' ((T, tup [.ref tb, .ref an]) :: (an, lst avs e2) :: (hl, lst vs e) :: mu) h' → R (.ok (.ret (.ref T))) (Sh s h' t')) :
   codeAny (model prog w) A (.call (.ref 288) ⟨[.ref ta, .ref wa], []⟩) R (Sh s h t) := by
  refine' r_enter (binds := [("told", .ref ta), ("words", .ref wa)]) r G M ?ho ?hcd ?hbind ?hloc ?k ?hcell ?hco ?hgen ?hk
  walk_at "entered"
  intro A' L h1 tk1 rA T
  repeat' walk1
  refine s_split T (by decide +kernel) (by decide +kernel) fun od ls h2 t2 hls T2 => ?_
  obtain ⟨g2, x2, T2, eod⟩ := T2.freeze
  have hod : StrsAre (strValues ls) opsS := by unfold opsS; rw [← hls]; exact strsAre_of_values ls
  have G2 := G.up x2
  have ht2 := isList_up x2 ht
  have hw2 := x2 _ _ hw
  obtain ⟨t12, e12⟩ := strs_get hws (wd_get W (i := 12) (by decide))
  obtain ⟨t10, e10⟩ := strs_get hws (wd_get W (i := 10) (by decide))
  obtain ⟨p1, p2, p3, p4⟩ := W.ok _ (wd_mem W (i := 12) (by decide))
  obtain ⟨q1, q2, q3, q4⟩ := W.ok _ (wd_mem W (i := 10) (by decide))
  clear hls
  repeat' walk1
  refine c_Headers (rA.le (by decide) (by decide)) G2 (by assumption) fun tb g3 h3 t3 x3 hTb T3 => ?_
  have G3 := G2.up x3
  have ht3 := isList_up x3 ht2
  have hw3 := x3 _ _ hw2
  have eod3 := x3 _ _ eod
  repeat' walk1
  have I3 : SInv g3 ws [] [] [] := ⟨RdA.nil, .nil, (fun _ h => nomatch h), List.nodup_nil⟩
  refine c_setdefault (rA.le (by decide) (by decide)) G3 (by assumption) hTb I3.rd (rows_le W I3.lt) (by decide) p2 p1 p3 p4 (by decide +kernel) (by decide +kernel) (fun z tz h' t' q _ => ?_) fun TT g4 e4 h4 t4 _ x4 T4 rr4 => ?_
  · rw [get_none W I3.lt (by decide) (by simp)] at q; cases q
  have I4 := I3.add (tv := 0) (by decide) (by simp) rr4
  have G4 := G3.up x4
  have ht4 := isList_up x4 ht3
  have hw4 := x4 _ _ hw3
  have eod4 := x4 _ _ eod3
  have hTb4 := hTb.up x4
  repeat' walk1
  refine c_setdefault (rA.le (by decide) (by decide)) G4 T4 hTb4 I4.rd (rows_le W I4.lt) (by simp) q2 q1 q3 q4 (by decide +kernel) (by decide +kernel) (fun z tz h' t' q _ => ?_) fun TT5 g5 e5 h5 t5 _ x5 T5 rr5 => ?_
  · rw [get_none W I4.lt (by decide) (by simp)] at q; cases q
  have I5 := I4.add (tv := t4 + 1) (by decide) (by simp) rr5
  have G5 := G4.up x5
  have ht5 := isList_up x5 ht4
  have hw5 := x5 _ _ hw4
  have eod5 := x5 _ _ eod4
  have hTb5 := hTb4.up x5
  repeat' walk1
  rename_i hl hN1 TN1 hS1 tS1 TS1 _ _ an hN2 TN2 hS2 tS2 TS2
  have I6 : SInv g5 ws ([] ++ [Value.ref TT] ++ [Value.ref TT5]) [Value.str (Str.ofString "") (tS1 + 1), Value.str (Str.ofString "b") (t4 + 1)] (saidN told 0) := ⟨I5.rd, .cons _ _ (.cons _ _ .nil), I5.lt, I5.nd⟩
  clear I5 I4 I3 T3 T4 T5 TN1 TS1
  generalize ([] ++ [Value.ref TT] ++ [Value.ref TT5]) = vs0 at I6 TS2 TN2 rr5
  generalize [Value.str (Str.ofString "") (tS1 + 1), Value.str (Str.ofString "b") (t4 + 1)] = avs0 at I6 TS2 TN2
  refine s_For (s := s) ?_
  repeat' walk1
  rename_i rR hR tR t1 t2' t3' TR
  have TR2 := TR.drop
  refine for_range (s := s) [(an, lst avs0 0), (hl, lst vs0 e5)] mu 16 (fun i g₁ m₁ own₁ => JS1 tb an od wa ta hl ws (saidN told i) g₁ m₁ own₁)
    (fun _ _ _ => False) (fun _ _ _ _ => False) rA.hh TR2 (List.Perm.refl _) (mu_rng TR (.head _)) (by decide) (by decide) (by decide) ⟨?_, ?_, ?_, fun _ _ _ _ _ _ x => x.elim, fun _ _ _ _ _ _ _ x => x.elim⟩
  · refine ⟨vs0, e5, avs0, 0, rfl, ⟨?_, ?_, ?_, ?_, ?_⟩, I6⟩ <;> with_unfolding_all rfl
  · rintro one v g₆ m₆ own₆ tl₆ h₆ t₆ hi hsub x₆ ⟨tv, hv⟩ ⟨vs, e, avs, e2, rfl, ⟨lt, la, lo, lw, ld⟩, I⟩ T6 Post hPost
    obtain rfl : v = .int (one : Int) tv := by rw [hv, Int.zero_add]
    have G6 := G5.up x₆
    have ht6 := isList_up x₆ ht5
    have hw6 := x₆ _ _ hw5
    have eod6 := x₆ _ _ eod5
    have hTb6 := hTb5.up x₆
    repeat' walk1
    refine c_tables (rA.le (by decide) (by decide)) G6 (by assumption) hTb6 (.tail _ (.head _)) I.rd (by rw [I.vlen]; have := I.len; omega) hw6 (by rw [W.len]; decide) hws (rows_in W I.lt) fun D ks e3 h7 t7 T7 hks => ?_
    rw [rows_idx W I.lt] at hks
    walk1
    walk1
    rename_i hS tS TS
    refine s_For (s := s) ?_
    walk1
    walk1
    walk1
    walk1
    have hkl : ks.length = (saidN told one).length := by have := hks.length; simpa using this
    have hl16 := I.len
    have hkl2 : ks.length ≤ 1000000 := by omega
    refine s_cutI (turnsK one (saidN told one).length : Nat) TS ?_ fun ti h8 t8 T8 => ?_
    · repeat' walk1
      · exact ⟨_, _, _, by rw [show ((turnsK one (saidN told one).length : Nat) : Int) = one + 1 by unfold turnsK; split <;> omega], rfl, by assumption⟩
      · exact ⟨_, _, _, by rw [show ((turnsK one (saidN told one).length : Nat) : Int) = 0 by unfold turnsK; split <;> omega], rfl, by assumption⟩
      · exact ⟨_, _, _, by rw [show ((turnsK one (saidN told one).length : Nat) : Int) = 0 by unfold turnsK; split <;> omega], rfl, by assumption⟩
    · repeat' walk1
      rename_i rR2 hR2 tR2 u1 u2 u3 TR3
      have TR4 := TR3.drop
      refine for_range (s := s) [(D, lst ks e3), (an, lst avs e2), (hl, lst vs e)] tl₆ (turnsK one (saidN told one).length)
        (fun i g₁ m₁ own₁ => JS2 tb an od wa ta hl D ws ((List.range i).foldl (fun st o => otherK (· % 16) valOf told one o st) (saidN told one)) (saidN told one).length one g₁ m₁ own₁)
        (fun _ _ _ => False) (fun _ _ _ _ => False) rA.hh TR4 (List.Perm.refl _) (mu_rng TR3 (.head _)) (by decide) (by unfold turnsK; split <;> omega) (by omega) ⟨?_, ?_, ?_, fun _ _ _ _ _ _ x => x.elim, fun _ _ _ _ _ _ _ x => x.elim⟩
      · refine ⟨ks, e3, vs, e, avs, e2, rfl, ⟨?_, ?_, ?_, ?_, ?_⟩, ?_, ⟨?to, ?_⟩, I, hks, Nat.le_refl _⟩
        · with_unfolding_all exact lt
        · with_unfolding_all exact la
        · with_unfolding_all exact lo
        · with_unfolding_all exact lw
        · with_unfolding_all exact ld
        · with_unfolding_all rfl
        rotate_left
        · with_unfolding_all rfl
      · rintro other v g₈ m₈ own₈ tl₈ h₈ t₈ hoi hsub₈ x₈ ⟨tv2, hv⟩ ⟨ks, e3, vs, e, avs, e2, rfl, ⟨lt, la, lo, lw, ld⟩, hf, ⟨to, h1o⟩, I, hks, hlen⟩ T8 Post hPost
        obtain rfl : v = .int (other : Int) tv2 := by rw [hv, Int.zero_add]
        have h1len : one < (saidN told one).length ∧ other ≤ one := by
          unfold turnsK at hoi
          split at hoi <;> omega
        generalize hst : (List.range other).foldl (fun st o => otherK (· % 16) valOf told one o st) (saidN told one) = st at I hks hlen
        have G8 := G6.up x₈
        have ht8 := isList_up x₈ ht6
        have hw8 := x₈ _ _ hw6
        have eod8 := x₈ _ _ eod6
        have hTb8 := hTb6.up x₈
        have htl8 := isList_up T8.keep ht8
        repeat' walk1
        rename_i hS9 tS9 TS9
        refine s_For (s := s) ?_
        repeat' walk1
        refine for_list (s := s) [(D, lst ks e3), (an, lst avs e2), (hl, lst vs e)] tl₈
          (fun i g₁ m₁ own₁ => JS3 tb an od wa ta hl D ws ((told.take i).foldl (fun st n => bothK (· % 16) valOf n one other st) st) (saidN told one).length one other to tv2 g₁ m₁ own₁)
          (fun _ _ _ => False) (fun _ _ _ _ => False) rA.hh TS9 (List.Perm.refl _) (isList_up TS9.keep ht8) (.inl (let ⟨o, eo, _⟩ := ht8; ⟨o, eo⟩)) ⟨?_, ?_, ?_, fun _ _ _ _ _ _ x => x.elim, fun _ _ _ _ _ _ _ x => x.elim⟩
        · refine ⟨ks, e3, vs, e, avs, e2, rfl, ⟨?_, ?_, ?_, ?_, ?_⟩, ?_, ?_, ?_, I, hks, hlen⟩
          · with_unfolding_all exact lt
          · with_unfolding_all exact la
          · with_unfolding_all exact lo
          · with_unfolding_all exact lw
          · with_unfolding_all exact ld
          · with_unfolding_all exact hf
          · with_unfolding_all exact h1o
          · with_unfolding_all rfl
        · rintro ni v g₉ m₉ own₉ tl₉ h₉ t₉ hni hsub₉ x₉ hv ⟨ks, e3, vs, e, avs, e2, rfl, ⟨lt, la, lo, lw, ld⟩, hf, h1, h2, I, hks, hlen⟩ T9 Post hPost
          obtain ⟨n, tn, rfl, hn⟩ : ∃ (n : Nat) (tn : Tok), v = .int n tn ∧ told[ni]? = some n := by
            obtain ⟨n, tn, rfl, hn⟩ := IntsAre.getV hti hv
            rw [List.getElem?_map] at hn
            obtain ⟨n', hn', rfl⟩ := Option.map_eq_some_iff.mp hn
            exact ⟨n', tn, rfl, hn'⟩
          obtain ⟨hn13, hn54⟩ := hnum n (List.mem_of_getElem? hn)
          generalize hst3 : (told.take ni).foldl (fun st n => bothK (· % 16) valOf n one other st) st = st3 at I hks hlen
          repeat' walk1
          refine s_For (s := s) ?_
          repeat' walk1
          rename_i aT1 hT1 TT1 aT2 hT2 TT2 aT hTT TT
          obtain ⟨g10, x10, T10, eT⟩ := TT.freeze
          obtain ⟨g11, x11, T11, eT2⟩ := T10.freeze
          obtain ⟨g12, x12, T12, eT1⟩ := T11.freeze
          have x912 := (x10.tr x11).tr x12
          have G12 := (G8.up x₉).up x912
          have hw12 := x912 _ _ (x₉ _ _ hw8)
          have eod12 := x912 _ _ (x₉ _ _ eod8)
          have hTb12 := (hTb8.up x₉).up x912
          have I12 := I.up x912
          have htup1 : g12.IsTuple aT1 #[.int one to, .int other tv2] := ⟨_, eT1, rfl, _, rfl⟩
          have htup2 : g12.IsTuple aT2 #[.int other tv2, .int one to] := ⟨_, x12 _ _ eT2, rfl, _, rfl⟩
          have htup : g12.IsTuple aT [Value.ref aT1, Value.ref aT2].toArray := ⟨_, x12 _ _ (x11 _ _ eT), rfl, _, rfl⟩
          refine for_tupleT (s := s) [(D, lst ks e3), (an, lst avs e2), (hl, lst vs e)] tl₉
            (fun i g₁ m₁ own₁ => JS4 tb an od wa ta hl D ws (st4 n one other st3 i) (saidN told one).length one other n to tv2 tn g₁ m₁ own₁)
            (fun _ _ _ => False) (fun _ _ _ _ => False) rA.hh T12 (List.Perm.refl _) (isTuple_up T12.keep htup) (.inl (let ⟨o, eo, _⟩ := htup; ⟨o, eo⟩)) ⟨?_, ?_, ?_, fun _ _ _ _ _ _ x => x.elim, fun _ _ _ _ _ _ _ x => x.elim⟩
          · refine ⟨ks, e3, vs, e, avs, e2, rfl, ⟨?_, ?_, ?_, ?_, ?_⟩, ?_, ?_, ?_, ?_, I12, hks, hlen⟩
            · with_unfolding_all exact lt
            · with_unfolding_all exact la
            · with_unfolding_all exact lo
            · with_unfolding_all exact lw
            · with_unfolding_all exact ld
            · with_unfolding_all exact hf
            · with_unfolding_all exact h1
            · with_unfolding_all exact h2
            · with_unfolding_all rfl
          · rintro i v g₁₃ m₁₃ own₁₃ tl₁₃ h₁₃ t₁₃ hi2 hsub₁₃ x₁₃ hv ⟨ks, e3, vs, e, avs, e2, rfl, ⟨lt, la, lo, lw, ld⟩, hf, h1, h2, h3, I, hks, hlen⟩ T13 Post hPost
            have G13 := G12.up x₁₃
            have hw13 := x₁₃ _ _ hw12
            have eod13 := x₁₃ _ _ eod12
            have hTb13 := hTb12.up x₁₃
            obtain ⟨aP, l, r, tlf, trt, rfl, hP, hl1, hr1, hst4⟩ : ∃ aP l r tlf trt, v = .ref aP ∧ g12.IsTuple aP #[.int (l : Nat) tlf, .int (r : Nat) trt] ∧ l ≤ one ∧ r ≤ one ∧ st4 n one other st3 (i + 1) = stepK (· % 16) valOf n l r (st4 n one other st3 i) := by
              match i, hi2 with
              | 0, _ => exact ⟨aT1, one, other, to, tv2, (Option.some.inj hv).symm, htup1, Nat.le_refl _, h1len.2, rfl⟩
              | 1, _ => exact ⟨aT2, other, one, tv2, to, (Option.some.inj hv).symm, htup2, h1len.2, Nat.le_refl _, rfl⟩
            generalize hcur : st4 n one other st3 i = cur at I hks hlen hst4
            have hP13 := isTuple_up T13.keep (isTuple_up x₁₃ hP)
            have hlL : l < (cur.map (·.1)).length := by rw [List.length_map]; omega
            have hrL : r < (cur.map (·.1)).length := by rw [List.length_map]; omega
            obtain ⟨tcl, ekl⟩ := ints_at hks hlL
            obtain ⟨tcr, ekr⟩ := ints_at hks hrL
            repeat' walk1
            have hmem : ∀ {i : Nat}, i < (cur.map (·.1)).length → (cur.map (·.1)).getD i 0 < 16 := fun {i} hi => by
              rw [List.getD_eq_getElem?_getD, List.getElem?_eq_getElem hi]
              obtain ⟨p, hp, e⟩ := List.mem_map.mp (List.getElem_mem hi)
              show (cur.map (·.1))[i] < 16
              rw [← e]; exact I.lt p hp
            have hmod : (n : Int).fmod 16 = ((n % 16 : Nat) : Int) := by rw [Int.fmod_eq_emod_of_nonneg _ (by decide)]; omega
            rw [hmod]
            obtain ⟨ed, hd16⟩ := done_eq (Nat.mod_lt n (show 0 < 16 by decide)) (hmem hlL) (hmem hrL)
            refine c_done (rA.le (by decide) (by decide)) G13 (by assumption) (Nat.mod_lt _ (by decide)) fun h14 t14 tk14 T14 => ?_
            rw [ed]
            generalize hnew : doneN (n % 16) ((cur.map (·.1)).getD l 0) ((cur.map (·.1)).getD r 0) = new at hd16
            have hany := any_cast (cur.map (·.1)) new
            repeat' walk1
            rename_i hS15 tS15 TS15
            refine s_notInI (mu_isL TS15 (.head _)) hks ?_
            rw [hany]
            have hst5 : st4 n one other st3 (i + 1) = if ((cur.map (·.1)).any (· == new)) = true then cur else cur ++ [(new, valOf n l r)] := by
              rw [hst4, ← hnew]; rfl
            cases hb : (cur.map (·.1)).any (· == new) with
            | true =>
              rw [hb, if_pos rfl] at hst5
              repeat' walk1
              refine hPost _ _ (lp_next (own₂ := [(D, lst ks e3), (an, lst avs e2), (hl, lst vs e)]) TS15 Ext.rfl' ⟨ks, e3, vs, e, avs, e2, rfl, ⟨?_, ?_, ?_, ?_, ?_⟩, ?_, ?_, ?_, ?_, by rw [hst5]; exact I, by rw [hst5]; exact hks, by rw [hst5]; exact hlen⟩)
              · with_unfolding_all exact lt
              · with_unfolding_all exact la
              · with_unfolding_all exact lo
              · with_unfolding_all exact lw
              · with_unfolding_all exact ld
              · with_unfolding_all exact hf
              · with_unfolding_all exact h1
              · with_unfolding_all exact h2
              · with_unfolding_all exact h3
            | false =>
              rw [hb, if_neg Bool.false_ne_true] at hst5
              have hlk : ks.length ≤ 1000 := by have := I.len; have := hks.length; simp only [List.length_map] at this; omega
              have hla : avs.length ≤ 1000 := by have := I.len; have := I.alen; omega
              obtain ⟨twn, ewn⟩ := strs_get hws (wd_get W hd16)
              rw [← Int.toNat_natCast new] at ewn
              have hni : new ∉ cur.map (·.1) := fun hm => by
                have : (cur.map (·.1)).any (· == new) = true := List.any_eq_true.mpr ⟨new, hm, by simp⟩
                rw [hb] at this; cases this
              obtain ⟨p1, p2, p3, p4⟩ := W.ok _ (wd_mem W hd16)
              obtain ⟨hop, hopo, hopl⟩ := op_get hn13 hn54
              obtain ⟨tpo, epo⟩ := strs_get hod hop
              have hdiv : (n : Int).fdiv 16 - 7 = ((n / 16 - 7 : Nat) : Int) := by rw [Int.fdiv_eq_ediv_of_nonneg _ (by decide)]; omega
              rw [← Int.toNat_natCast (n / 16 - 7)] at epo
              repeat' walk1
              rw [hdiv]
              refine s_item (s := s) (lst_isL (At.keep (by assumption) _ _ eod13)) (by omega) (by omega) epo ?_
              repeat' walk1
              rw [val_eq, Int.toNat_natCast]
              rename At g₁₃ _ _ ((D, lst (ks ++ _) _) :: _) _ => TQ
              have hvo := val_ok hopo hopl (l := l) (r := r) (by omega) (by omega)
              refine c_setdefault (s := s) (rA.le (by decide) (by decide)) G13 (At.rot TQ) hTb13 I.rd (rows_le W I.lt) (by have := I.vlen; have := I.len; omega) p2 p1 p3 p4 hvo.1 hvo.2 (fun z tz h' t' q _ => ?_) fun TT g16 e16 h16 t16 _ x16 T16 rr16 => ?_
              · rw [get_none W I.lt hd16 hni] at q; cases q
              repeat' walk1
              rename_i eN hN tN TN
              refine hPost _ _ (lp_next (own₂ := [(D, lst _ _), (an, lst _ _), (hl, lst _ _)]) (At.rot (At.rot TN)) x16 ⟨_, _, _, _, _, _, rfl, ⟨?_, ?_, ?_, ?_, ?_⟩, ?_, ?_, ?_, ?_, by rw [hst5]; exact I.add hd16 hni rr16, ?_, ?_⟩)
              · with_unfolding_all exact lt
              · with_unfolding_all exact la
              · with_unfolding_all exact lo
              · with_unfolding_all exact lw
              · with_unfolding_all exact ld
              · with_unfolding_all exact hf
              · with_unfolding_all exact h1
              · with_unfolding_all exact h2
              · with_unfolding_all exact h3
              · rw [hst5, List.map_append, List.map_append]
                exact hks.append (.cons _ _ .nil)
              · rw [hst5, List.length_append]; omega
          · rintro g₇ m₇ own₇ h₉ t₉ x₇ ⟨ks', e3', vs', e', avs', e2', rfl, hL, hf, ho, hoo, hnn, I', hks', hlen⟩ T9
            repeat' walk1
            refine hPost _ _ (lp_next (own₂ := [(D, lst ks' e3'), (an, lst avs' e2'), (hl, lst vs' e')]) T9 (x912.tr x₇) ⟨ks', e3', vs', e', avs', e2', rfl, hL, hf, ho, hoo, by rw [take_fold _ _ hn, hst3]; exact I', by rw [take_fold _ _ hn, hst3]; exact hks', by rw [take_fold _ _ hn, hst3]; exact hlen⟩)
        · rintro g₇ m₇ own₇ h₉ t₉ x₇ ⟨ks', e3', vs', e', avs', e2', rfl, hL, hf, ho, hoo, I', hks', hlen⟩ T9
          repeat' walk1
          rw [List.take_of_length_le (by have := hti.length; rw [List.length_map] at this; omega)] at I' hks' hlen
          refine hPost _ _ (lp_next (own₂ := [(D, lst ks' e3'), (an, lst avs' e2'), (hl, lst vs' e')]) T9 x₇ ⟨ks', e3', vs', e', avs', e2', rfl, hL, hf, ⟨to, ho⟩, by rw [range_fold, hst]; exact I', by rw [range_fold, hst]; exact hks', by rw [range_fold, hst]; exact hlen⟩)
      · rintro g₇ m₇ own₇ h₉ t₉ x₇ ⟨ks', e3', vs', e', avs', e2', rfl, hL, hf, ho, I', hks', hlen⟩ T9
        repeat' walk1
        refine hPost _ _ (lp_next (own₂ := [(an, lst avs' e2'), (hl, lst vs' e')]) (At.drop T9) x₇ ⟨vs', e', avs', e2', rfl, hL, ?_⟩)
        unfold saidN saidK
        rw [range_fold]
        exact I'
  · rintro g₆ m₆ own₆ h₆ t₆ x₆ ⟨vs, e, avs, e2, rfl, ⟨lt, la, lo, lw, ld⟩, I⟩ T6
    repeat' walk1
    rename_i aN hN TN
    exact k aN tb hl an vs e avs e2 g₆ _ _ ((((x2.tr x3).tr x4).tr x5).tr x₆) (hTb5.up x₆) I TN.mem
end
theorem At.rotB {g h : Heap} {L : Addr} {m : Loc} {mu : Led} {p q r : Addr × Obj} (x : ∃ oL, LCg.NsObj oL m ∧ Mem g (p :: q :: r :: (L, oL) :: mu) h) : At g L m (p :: q :: r :: mu) h :=
  let ⟨oL, n, M⟩ := x
  ⟨oL, n, M.perm ((((List.Perm.swap (L, oL) r mu).cons q).cons p).trans ((((List.Perm.swap (L, oL) q (r :: mu)).cons p)).trans (List.Perm.swap (L, oL) p (q :: r :: mu)))).symm⟩
section
variable {prog : Program} {w : World} {A : Around} {s : Shared} {g h : Heap} {t : Nat} {mu tl : Led} {R : Result → Shared → Prop} {L : Addr} {m : Loc} {E : Value → Shared → Prop}
theorem c_said {ta wa : Addr} {tvs wvs : List Value} {told : List Nat} {ws : List Str} {we : Nat} {Q : Value → Shared → Prop}
   (r : Room A 8 600) (G : Gl w g) (T : At g L m mu h) (ht : g.IsList ta tvs.toArray) (hti : IntsAre tvs (told.map (fun (n : Nat) => (n : Int))))
   (hw : g.get? wa = some (lst wvs we)) (hws : StrsAre wvs ws) (W : WordsOk ws) (hnum : ∀ n ∈ told, 13 ≤ n / 16 ∧ n / 16 ≤ 54)
   (k : ∀ T tb hl an vs e avs e2 g' h' t', Ext g g' → Tbl g' tb hl → SInv g' ws vs avs (saidN told 16) → At g' L m ((T, tup [.ref tb, .ref an]) :: (an, lst avs e2) :: (hl, lst vs e) :: mu) h' → Q (.ref T) (Sh s h' t')) :
   wpAny (model prog w) A (call (.ref 288) [.ref ta, .ref wa]) Q E (Sh s h t) :=
  let ⟨oL, n, M⟩ := T
  wpAny_call (said_spec r G M ht hti hw hws W hnum fun T tb hl an vs e avs e2 g' h' t' x hT I M' => k T tb hl an vs e avs e2 g' h' t' x hT I
    (At.rotB ⟨oL, n, M'⟩))
end
section
variable {prog : Program} {w : World} {A : Around} {s : Shared} {g h : Heap} {t : Nat} {m : Loc} {env cenv : Env} {own its tl mu : Led} {target : Expr} {I D a b : Addr} {n : Nat} {P : Nat → Value → Heap → Prop} {elt iter : Expr} {ifs : List Expr} {scope : Scope} {pos : Pos}
structure InnerOblM (prog : Program) (w : World) (A : Around) (cenv : Env) (target elt : Expr) (ifs : List Expr) (D : Addr) (s : Shared) (Q : Shared → Prop) (own tl : Led) (g : Heap) (m : Loc) (n : Nat) (P : Nat → Value → Heap → Prop) (J : Nat → Heap → Loc → Led → List Value → Prop) (ys₀ : List Value) : Prop where
  h0 : J 0 g m own ys₀
  turn : ∀ i v g₁ m₁ own₁ tl₁ h₁ t₁ ys e, i < n → (∀ p ∈ tl, p ∈ tl₁) → Ext g g₁ → P i v h₁ → J i g₁ m₁ own₁ ys → At g₁ cenv.locals m₁ (own₁ ++ ((D, lst ys e) :: tl₁)) h₁ →
      wpAny (model prog w) A (assign target cenv v) (fun _ s₂ => Tests prog w A ifs cenv (fun ok s₃ => if ok = true then wpAny (model prog w) A (emitA elt (.ref D) cenv) (fun _ s₄ => CPDM s g₁ cenv.locals D tl₁ (J (i + 1)) s₄) (fun _ _ => False) s₃
        else CPDM s g₁ cenv.locals D tl₁ (J (i + 1)) s₃) s₂) (fun _ _ => False) (Sh s h₁ t₁)
  done : ∀ g₁ m₁ own₁ h₁ t₁ ys e, Ext g g₁ → J n g₁ m₁ own₁ ys → At g₁ cenv.locals m₁ (own₁ ++ ((D, lst ys e) :: tl)) h₁ → Q (Sh s h₁ t₁)
theorem inner_tupleM {x : Str} {px : Pos} {vs ys₀ : List Value} {e₀ : Nat} {Q : Shared → Prop} (own tl : Led) (J : Nat → Heap → Loc → Led → List Value → Prop) (hh : A.handled = none) (T : At g cenv.locals m mu h) (hp : (own ++ ((D, lst ys₀ e₀) :: tl)).Perm mu) (hl : h.IsTuple a vs.toArray)
    (ha : (∃ o, g.get? a = some o) ∨ a ∈ tl.map (·.1)) (ob : InnerOblM prog w A cenv (.Name x px) elt ifs D s Q own tl g m vs.length (fun i v _ => vs[i]? = some v) J ys₀) :
    wpAny (model prog w) A (pyIter (.ref a)) (fun it s₂ => InnerAtM prog w A cenv (.Name x px) elt ifs D s Q it s₂) E (Sh s h t) := by
  have hp' : ((own ++ [(D, lst ys₀ e₀)]) ++ tl).Perm mu := by rw [List.append_assoc]; exact hp
  refine src_tuple (x := x) (px := px) (own ++ [(D, lst ys₀ e₀)]) tl hh T hp' hl ha fun I its h' t' S T' => ?_
  refine ⟨I, own, its, tl, g, h', t', m, _, _, J, ys₀, e₀, rfl, rfl, S, T'.perm ?_, ob.h0, ob.turn, ob.done⟩
  rw [List.append_assoc]
  exact (List.perm_middle (l₁ := its) (l₂ := tl) (a := (D, lst ys₀ e₀))).append_left own
theorem inner_zipM {elts : List Expr} {x1 : Nat} {px : Pos} {vs ws ys₀ : List Value} {e₀ : Nat} {Q : Shared → Prop} (own tl : Led) (J : Nat → Heap → Loc → Led → List Value → Prop) (hh : A.handled = none) (T : At g cenv.locals m mu h) (hp : (own ++ ((D, lst ys₀ e₀) :: tl)).Perm mu) (hl : h.IsList a vs.toArray)
    (ha : (∃ o, g.get? a = some o) ∨ a ∈ tl.map (·.1)) (hl2 : h.IsList b ws.toArray) (hb : (∃ o, g.get? b = some o) ∨ b ∈ tl.map (·.1))
    (ob : InnerOblM prog w A cenv (.Tuple elts x1 px) elt ifs D s Q own tl g m (min vs.length ws.length) (fun i v hh => ∃ T x y, v = .ref T ∧ vs[i]? = some x ∧ ws[i]? = some y ∧ hh.IsTuple T #[x, y]) J ys₀) :
    wpAny (model prog w) A (call (.type "zip") [.ref a, .ref b]) (fun xv s₁ => wpAny (model prog w) A (pyIter xv) (fun it s₂ => InnerAtM prog w A cenv (.Tuple elts x1 px) elt ifs D s Q it s₂) E s₁) E (Sh s h t) := by
  have hp' : ((own ++ [(D, lst ys₀ e₀)]) ++ tl).Perm mu := by rw [List.append_assoc]; exact hp
  refine src_zip (elts := elts) (x1 := x1) (px := px) (own ++ [(D, lst ys₀ e₀)]) tl hh T hp' hl ha hl2 hb fun I its h' t' S T' => ?_
  refine ⟨I, own, its, tl, g, h', t', m, _, _, J, ys₀, e₀, rfl, rfl, S, T'.perm ?_, ob.h0, ob.turn, ob.done⟩
  rw [List.append_assoc]
  exact (List.perm_middle (l₁ := its) (l₂ := tl) (a := (D, lst ys₀ e₀))).append_left own
end
noncomputable def EAM (s : Shared) (g₁ : Heap) (C D : Addr) (tl₁ : Led) (J : Heap → Loc → Led → List Value → Prop) (y : Value) (s₄ : Shared) : Prop :=
  ∃ g₂ m₂ own₂ h₂ t₂ ys e, s₄ = Sh s h₂ t₂ ∧ Ext g₁ g₂ ∧ At g₂ C m₂ (own₂ ++ ((D, lst ys e) :: tl₁)) h₂ ∧ ys.length ≤ sizeLine ∧ J g₂ m₂ own₂ (ys ++ [y])
theorem s_emitBM {prog : Program} {w : World} {A : Around} {s : Shared} {cenv : Env} {elt : Expr} {g₁ : Heap} {C D : Addr} {tl₁ : Led} {J : Heap → Loc → Led → List Value → Prop} {s₀ : Shared}
    (k : wpAny (model prog w) A (eval elt cenv) (EAM s g₁ C D tl₁ J) (fun _ _ => False) s₀) :
    wpAny (model prog w) A (emitA elt (.ref D) cenv) (fun _ s₄ => CPDM s g₁ C D tl₁ J s₄) (fun _ _ => False) s₀ := s_emitAM k
section
variable {prog : Program} {w : World} {A : Around} {E : Value → Shared → Prop} {s : Shared} {h : Heap} {t : Nat}
theorem s_itemLast {value slice : Expr} {a : Addr} {l : List Value} {u : Tok} {x : Value} {Q : Value → Shared → Prop} (hl : h.IsList a l.toArray) (hx : l[l.length - 1]? = some x) (q : Q x (Sh s h t))
    (hs : subscripted slice false (.ref a) (.int (-1) u) = operate [.ref a, .int (-1) u] (getItem (.ref a) (.int (-1) u)) := by with_unfolding_all rfl) (hg : ∀ r, letTemporaryGo value (.ref a) r = pure () := by intro _; with_unfolding_all rfl) :
    wpAny (model prog w) A (subscriptTail value slice (.ref a) (.int (-1) u)) Q E (Sh s h t) := by
  have hlt : l.length - 1 < l.length := (List.getElem?_eq_some_iff.mp hx).1
  refine subscriptTail_builtin (s := Sh s h t) hl.typeIs slot_list_getitem.lookup (wpAny_getItem_list_neg hl (by decide) (by rw [List.size_toArray]; omega) (by decide) ?_ q) hs hg
  rw [List.size_toArray, show ((-1 : Int) + l.length).toNat = l.length - 1 by omega]
  simpa using hx
theorem s_truthyL {l : Addr} {vs : List Value} {Q : Bool → Shared → Prop} (hl : h.IsList l vs.toArray) (hfit : vs.length ≤ 1000000) (q : Q (decide (0 < vs.length)) (Sh s h (t + 1 + 1))) : wpAny (model prog w) A (truthy (.ref l)) Q E (Sh s h t) :=
  wpAny_truthy_list (s := Sh s h t) hl (by rw [List.size_toArray]; omega) (by
    have e : (!vs.toArray.isEmpty) = decide (0 < vs.length) := by cases vs <;> simp
    rw [e]; exact q)
end
local macro_rules | `(tactic| walk_at "truthy ref") => `(tactic| ((with_reducible show wpAny _ _ (truthy (Value.ref _)) _ _ _); (refine' s_truthyL ?hl ?z ?_; (case hl => walk_at "isL"); (case z => first | assumption | (simp only [List.length_cons, List.length_nil]; omega) | omega))))
section
variable {prog : Program} {w : World} {A : Around} {s : Shared} {g h : Heap} {t : Nat} {mu tl : Led} {R : Result → Shared → Prop} {L : Addr} {m : Loc} {E : Value → Shared → Prop}
noncomputable def jD (p : Bool × Bool × Bool) : PyData := .tuple [.bool p.1, .bool p.2.1, .bool p.2.2]
theorem Rd.trip {h : Heap} {v : Value} {p : Bool × Bool × Bool} (r : Rd h v (jD p)) : ∃ T, v = .ref T ∧ h.IsTuple T #[.bool p.1, .bool p.2.1, .bool p.2.2] := by
  obtain ⟨T, us, rfl, hT, q⟩ := r.tupE
  obtain ⟨a, us, rfl, ra, q⟩ := q.consE
  obtain ⟨b, us, rfl, rb, q⟩ := q.consE
  obtain ⟨c, us, rfl, rc, q⟩ := q.consE
  obtain rfl := q.nilE
  obtain rfl := ra.boolE
  obtain rfl := rb.boolE
  obtain rfl := rc.boolE
  exact ⟨T, rfl, hT⟩
theorem judge_at {g : Heap} {ys : List Value} {S : List Int} {j : Nat} {z : Int} {y : Value} (h : RdA g ys ((judgedOf S).map jD)) (hz : S[j]? = some z) (hy : ys[j]? = some y) :
    (z ≥ 256 ∧ ∃ T, y = .ref T ∧ g.IsTuple T #[.bool true, .bool false, .bool false]) ∨ (z < 256 ∧ ∃ T, y = .ref T ∧ g.IsTuple T #[.bool false, .bool true, .bool (z == 0)]) := by
  obtain ⟨d, hd, rd⟩ := h.get hy
  rw [List.getElem?_map] at hd
  obtain ⟨p, hp, rfl⟩ := Option.map_eq_some_iff.mp hd
  have hjs : j < S.length := (List.getElem?_eq_some_iff.mp hz).1
  have e : p = (decide (z ≥ 256), decide (z < 256), z == 0) := by
    unfold judgedOf at hp
    rw [List.getElem?_map, List.getElem?_append_left hjs, hz] at hp
    exact (Option.some.inj hp).symm
  subst e
  obtain ⟨T, rfl, hT⟩ := rd.trip
  by_cases h256 : z ≥ 256
  · refine .inl ⟨h256, T, rfl, ?_⟩
    simp only [decide_eq_true h256, decide_eq_false (show ¬ z < 256 by omega), show (z == 0) = false from beq_eq_false_iff_ne.mpr (by omega)] at hT
    exact hT
  · refine .inr ⟨by omega, T, rfl, ?_⟩
    simp only [decide_eq_false h256, decide_eq_true (show z < 256 by omega)] at hT
    exact hT
theorem means_nil (told : List Nat) : meansOf told [] = [] := by
  unfold meansOf; induction told with
  | nil => rfl
  | cons n l ih => rw [List.flatMap_cons, ih]; rfl
theorem means_snoc {told : List Nat} {i n : Nat} {S : List Int} (h : told[i]? = some n) : meansOf (told.take (i + 1)) S = meansOf (told.take i) S ++ meansOf [n] S := by
  unfold meansOf
  rw [take_snoc h, List.flatMap_append]
theorem means_one (n : Nat) (S : List Int) : meansOf [n] S = (S.filter fun s => decide (s < 256) && s == ((n / 16 : Nat) : Int)).map fun _ => ((n % 16 : Nat) : Int) := by
  unfold meansOf; rw [List.flatMap_cons, List.flatMap_nil, List.append_nil]
theorem means_len : ∀ (told : List Nat) (S : List Int), (meansOf told S).length ≤ told.length * S.length
  | [], S => Nat.zero_le _
  | n :: l, S => by
    have := means_len l S
    have h1 : ((S.filter fun s => decide (s < 256) && s == ((n / 16 : Nat) : Int)).map fun _ => ((n % 16 : Nat) : Int)).length ≤ S.length := by rw [List.length_map]; exact List.length_filter_le _ _
    unfold meansOf at *
    rw [List.flatMap_cons, List.length_append, List.length_cons, Nat.succ_mul]
    omega
theorem judge_last {g : Heap} {ys : List Value} {S : List Int} (h : RdA g ys ((judgedOf S).map jD)) : ∃ T, ys[S.length]? = some (.ref T) ∧ g.IsTuple T #[.bool false, .bool true, .bool true] := by
  obtain ⟨v, hv, rd⟩ := h.getD (i := S.length) (d := jD (false, true, true)) (by unfold judgedOf; rw [List.getElem?_map, List.getElem?_map, List.getElem?_append_right (Nat.le_refl _)]; simp)
  obtain ⟨T, rfl, hT⟩ := rd.trip
  exact ⟨T, hv, hT⟩
theorem head_int {ys : List Value} {l : List Int} (h : IntsAre ys l) (t : Tok) : ∃ tz, (ys ++ [.int 0 t])[(0 : Int).toNat]? = some (.int ((l ++ [0]).headD 0) tz) := by
  cases h with
  | nil => exact ⟨t, rfl⟩
  | cons n t _ => exact ⟨t, rfl⟩
inductive JA (ag L ta : Addr) (fs : List Nat) (i : Nat) (m₁ : Loc) (own₁ : Led) : Prop
  | mk (as1 : List Value) (e : Nat) (o1 o2 o3 o4 : Obj) (v1 v2 v3 v4 : Option Value) : own₁ = [(ag, lst as1 e), (L + 4, o1), (L + 3, o2), (L + 2, o3), (L + 1, o4)] → o1.data = .cell v1 → o2.data = .cell v2 → o3.data = .cell v3 → o4.data = .cell v4 →
      m₁ "again" = some (.ref ag) → m₁ "told" = some (.ref ta) → IntsAre as1 ((fs.take i).map fun (n : Nat) => (n : Int)) → JA ag L ta fs i m₁ own₁
inductive JB (ag L ta sy : Addr) (x : Str) (as1 : List Value) (ae : Nat) (o1 o3 o4 : Obj) (n : Nat) (m₂ : Loc) (own₂ : Led) : Prop
  | mk (sv : List Value) (se : Nat) (o2 : Obj) (v2 : Option Value) (tb : Tok) : own₂ = [(sy, lst sv se), (ag, lst as1 ae), (L + 4, o1), (L + 3, o2), (L + 2, o3), (L + 1, o4)] → o2.data = .cell v2 → m₂ "again" = some (.ref ag) → m₂ "told" = some (.ref ta) →
        m₂ "behind" = some (.int (symGo x n).2 tb) → IntsAre sv (symGo x n).1 → JB ag L ta sy x as1 ae o1 o3 o4 n m₂ own₂
set_option maxHeartbeats 0 in
theorem again_spec {ta va : Addr} {tvs yvs : List Value} {told fs : List Nat} {ys : List Str}
   (r : Room A 8 600) (G : Gl w g) (M : Mem g mu h) (ht : g.IsList ta tvs.toArray) (hti : IntsAre tvs (told.map (fun (n : Nat) => (n : Int)))) (ht4 : told.length ≤ 4)
   (hv : g.IsList va yvs.toArray) (hyv : StrsAre yvs ys) (hok : ∀ i x, ys[i]? = some x → StepOk told fs i x) (hlen : ys.length = fs.length) (h16 : ys.length ≤ 16)
   (k : ∀ D vs e h' t', IntsAre vs (fs.map (fun (n : Nat) => (n : Int))) → Mem g ((D, lst vs e) :: mu) h' → R (.ok (.ret (.ref D))) (Sh s h' t')) :
   codeAny (model prog w) A (.call (.ref 293) ⟨[.ref ta, .ref va], []⟩) R (Sh s h t) := by
  refine' r_enterC (binds := [("told", .ref ta), ("values", .ref va)]) r G M ?ho ?hcd ?hbind ?hkind ?hnd ?k ?hco ?hgen ?hk
  walk_at "enteredC"
  intro A' L h1 tk1 cells rA hc T
  have hc : CellsAre _ [(Str.ofString "judged", L + 4), (Str.ofString "place", L + 3), (Str.ofString "symbols", L + 2), (Str.ofString "value", L + 1)] cells := hc
  obtain ⟨o1, _, rfl, d1, hc⟩ := cells_cons hc
  obtain ⟨o2, _, rfl, d2, hc⟩ := cells_cons hc
  obtain ⟨o3, _, rfl, d3, hc⟩ := cells_cons hc
  obtain ⟨o4, _, rfl, d4, hc⟩ := cells_cons hc
  obtain rfl := cells_nil hc
  have T : At g L (fun y => if y = "values" then some (.ref va) else if y = "told" then some (.ref ta) else none) ((L + 4, o1) :: (L + 3, o2) :: (L + 2, o3) :: (L + 1, o4) :: mu) h1 := T
  repeat' walk1
  rename_i ag hN TN hS tS TS
  clear TN T
  refine s_For (s := s) ?_
  repeat' walk1
  refine for_list (s := s) [(ag, lst [] 0), (L + 4, o1), (L + 3, o2), (L + 2, o3), (L + 1, o4)] mu
    (fun i _ m₁ own₁ => JA ag L ta fs i m₁ own₁)
    (fun _ _ _ => False) (fun _ _ _ _ => False) rA.hh TS (List.Perm.refl _) (isList_up TS.keep hv) (.inl (let ⟨o, eo, _⟩ := hv; ⟨o, eo⟩)) ⟨?_, ?_, ?_, fun _ _ _ _ _ _ x => x.elim, fun _ _ _ _ _ _ _ x => x.elim⟩
  · refine ⟨[], 0, o1, o2, o3, o4, _, _, _, _, rfl, d1, d2, d3, d4, ?_, ?_, .nil⟩ <;> with_unfolding_all rfl
  · rintro i v g₁ m₁ own₁ tl₁ h₁ t₁ hi hsub x₁ hvi ⟨as, ae, o1, o2, o3, o4, v1, v2, v3, v4, rfl, d1, d2, d3, d4, ea, et, hI⟩ T1 Post hPost
    obtain ⟨x, tx, rfl, hx⟩ := strs_getV hyv hvi
    obtain ⟨hx5, hcount, hcase⟩ := hok i x hx
    have hxl : x.length ≤ 1000 := by omega
    have G1 := G.up x₁
    have ht1 := isList_up x₁ ht
    have hx6 : x.length ≤ 1000000 := by omega
    walk1
    refine r_storeP (pre := [_, _, _, _]) T1 rfl d4 (fun o4 h2 d4 T2 => ?_)
    repeat' walk1
    rename_i sy hN TN tp hN2 TN2 hA TA
    refine r_storeP (pre := [_, _, _, _, _]) TA rfl d3 (fun o3 h3 d3 T3 => ?_)
    repeat' walk1
    rename_i hS tS TS
    have T4 : At g₁ L _ ((sy, lst [] 0) :: (ag, lst as ae) :: (L + 4, o1) :: (L + 3, o2) :: (L + 2, o3) :: (L + 1, o4) :: tl₁) hS := TS.drop
    clear TS T3 TA TN2 TN T2 T1
    refine s_For (s := s) ?_
    repeat' walk1
    rename_i rR hR tR u1 u2 u3 TR
    have TR2 := TR.drop
    refine for_range (s := s) [(sy, lst [] 0), (ag, lst as ae), (L + 4, o1), (L + 3, o2), (L + 2, o3), (L + 1, o4)] tl₁ x.length
      (fun n _ m₂ own₂ => JB ag L ta sy x as ae o1 o3 o4 n m₂ own₂)
      (fun _ _ _ => False) (fun _ _ _ _ => False) rA.hh TR2 (List.Perm.refl _) (mu_rng TR (.head _)) (by decide) (by omega) (by omega) ⟨?_, ?_, ?_, fun _ _ _ _ _ _ x => x.elim, fun _ _ _ _ _ _ _ x => x.elim⟩
    · refine ⟨[], 0, o2, v2, t₁, rfl, d2, ?_, ?_, ?_, .nil⟩
      · with_unfolding_all exact ea
      · with_unfolding_all exact et
      · with_unfolding_all rfl
    · rintro p v g₂ m₂ own₂ tl₂ h₂ t₂ hp hsub₂ x₂ ⟨tv, hv⟩ ⟨sv, se, o2, v2, tb, rfl, d2, ea, et, eb, hS⟩ T5 Post hPost
      obtain rfl : v = .int (p : Int) tv := by rw [hv, Int.zero_add]
      have G2 := G1.up x₂
      walk1
      refine r_storeP (pre := [_, _, _]) T5 rfl d2 (fun o2 h6 d2 T6 => ?_)
      clear T5
      have T6 : At g₂ L m₂ ((sy, lst sv se) :: (ag, lst as ae) :: (L + 4, o1) :: (L + 3, o2) :: (L + 2, o3) :: (L + 1, o4) :: tl₂) h6 := T6
      repeat' walk1
      · rename_i hpb
        refine' s_ListComp (s := s) (E := fun _ _ => False) ?_ ?hclos ?hcell ?hkind ?hnames
        walk_at "comp sides"
        repeat' walk1
        rename_i aN hN TN
        refine comp_tuple (s := s) [] _ (fun i g own ys => own = [] ∧ IntsAre ys ((([3, 2, 1] : List Int).take i).filter fun k => tokHas (cutOf x p k))) rA.hh TN (List.Perm.refl _) (mu_isT TN (.head _)) (.inr (.head _)) ⟨⟨rfl, .nil⟩, (show 3 ≤ sizeLine by decide), ?_, ?_⟩
        · rintro C j v g₃ m₃ own₃ tl₃ h₃ t₃ ys hj hsub₃ x₃ hvj ⟨rfl, hys⟩ T7 Post hPost
          obtain ⟨kk, tkk, rfl, hkk⟩ : ∃ kk tkk, v = .int kk tkk ∧ ([3, 2, 1] : List Int)[j]? = some kk := by
            match j, hj with
            | 0, _ => exact ⟨_, _, (Option.some.inj hvj).symm, rfl⟩
            | 1, _ => exact ⟨_, _, (Option.some.inj hvj).symm, rfl⟩
            | 2, _ => exact ⟨_, _, (Option.some.inj hvj).symm, rfl⟩
          have hmv := hsub₃ (L + 1, o4) (by walk_at "mem")
          have hmp := hsub₃ (L + 3, o2) (by walk_at "mem")
          have G3 := G2.up x₃
          repeat' walk1
          · rename_i htk
            refine hPost _ _ (cp_end (s := s) (own₂ := []) (by assumption) Ext.rfl' ⟨rfl, ?_⟩)
            rw [filt_pos (fun k => tokHas (cutOf x p k)) hkk htk]
            exact hys.append (.cons _ _ .nil)
          · rename_i htk
            refine hPost _ _ (cp_end (s := s) (own₂ := []) (by assumption) Ext.rfl' ⟨rfl, ?_⟩)
            rw [filt_neg (fun k => tokHas (cutOf x p k)) hkk htk]
            exact hys
        · rintro g₃ own₃ h₃ t₃ D ys e x₃ ⟨rfl, hys⟩ T7 T8
          have G3 := G2.up x₃
          have hy3 : ys.length ≤ 3 := by rw [hys.length]; exact Nat.le_trans (List.length_filter_le _ _) (Nat.le_refl 3)
          have hys : IntsAre ys (sizesOf x p) := hys
          repeat' walk1
          rename_i a0 h0N T0N aS hSN TSN
          obtain ⟨tz, ez⟩ := head_int hys t₃
          refine s_item (s := s) (mu_isL TSN (.head _)) (by decide) (by decide) ez ?_
          have TU : At g₃ L m₂ ((sy, lst sv se) :: (ag, lst as ae) :: (L + 4, o1) :: (L + 3, o2) :: (L + 2, o3) :: (L + 1, o4) :: tl₂) hSN := TSN.sub (by walk_at "sublist")
          clear TSN T0N T8 T7 TN
          have ez : (sizesOf x p ++ [0]).headD 0 = sizeAt x p := rfl
          rw [ez]
          have hsv : sv.length ≤ 1000 := by have := symGo_len x p; rw [hS.length]; omega
          have hgo : symGo x (p + 1) = ((symGo x p).1 ++ [symOf x p], (p : Int) + max 1 (sizeAt x p)) := by
            show (if (symGo x p).2 ≤ (p : Int) then _ else _) = _
            rw [if_pos hpb]
          walk1
          walk1
          rename_i hS9 tS9 TS9
          walk1
          walk1
          walk1
          walk1
          walk1
          walk1
          refine s_cutI (symOf x p) (by assumption) ?_ fun tsy h11 t11 T11 => ?_
          · repeat' walk1
            · rename_i hne hX tX tkX TX
              obtain ⟨tk9, e9⟩ := tok_val (size_tok hne)
              refine s_tokItem G3 (by assumption) e9 ?_
              exact ⟨_, _, _, by unfold symOf; rw [if_neg hne], rfl, by assumption⟩
            · exact ⟨_, _, _, by unfold symOf; rw [if_pos (by assumption)], rfl, by assumption⟩
          · repeat' walk1
            rename_i hS11 tS11 TS11
            refine hPost _ _ (lp_next (own₂ := [(sy, lst _ _), (ag, lst as ae), (L + 4, o1), (L + 3, o2), (L + 2, o3), (L + 1, o4)]) TS11 x₃ ⟨_, _, o2, _, ?tb, rfl, d2, ?ea, ?et, ?eb, ?hs⟩)
            case ea => with_unfolding_all exact ea
            case et => with_unfolding_all exact et
            case eb => rw [hgo]; with_unfolding_all rfl
            case hs =>
              rw [hgo]
              exact hS.append (.cons _ _ .nil)
      · rename_i hpb
        have hgo : symGo x (p + 1) = symGo x p := by
          show (if (symGo x p).2 ≤ (p : Int) then _ else _) = _
          rw [if_neg hpb]
        refine hPost _ _ (lp_next (own₂ := [(sy, lst sv se), (ag, lst as ae), (L + 4, o1), (L + 3, o2), (L + 2, o3), (L + 1, o4)]) T6 Ext.rfl' ⟨sv, se, o2, _, tb, rfl, d2, ea, et, ?_, ?_⟩)
        · rw [hgo]; exact eb
        · rw [hgo]; exact hS
    · rintro g₂ m₂ own₂ h₂ t₂ x₂ ⟨sv, se, o2, v2, tb, rfl, d2, ea, et, eb, hS⟩ T5
      have G2 := G1.up x₂
      have hsv : sv.length ≤ 500 := by have := symGo_len x x.length; rw [hS.length]; omega
      have hS : IntsAre sv (symsOf x) := hS
      have hSl : sv.length = (symsOf x).length := hS.length
      generalize symsOf x = S at hS hSl hcount hcase
      walk1
      walk1
      walk1
      refine' s_ListComp (s := s) (E := fun _ _ => False) ?_ ?hclos ?hcell ?hkind ?hnames
      walk_at "comp sides"
      repeat' walk1
      rename_i a0 h0N T0N aS hSN TSN
      have hS0 : IntsAre (sv ++ [Value.int 0 t₂]) (S ++ [0]) := hS.append (.cons _ _ .nil)
      refine comp_list (s := s) [] _ (fun i g own ys => own = [] ∧ RdA g ys (((judgedOf S).take i).map jD)) rA.hh TSN (List.Perm.refl _) (mu_isL TSN (.head _)) (.inr (.head _)) ⟨⟨rfl, RdA.nil⟩, ?_, ?_, ?_⟩
      · exact szL (n := 2000) (by rw [List.length_append]; simp; omega) (by decide)
      · rintro C j v g₃ m₃ own₃ tl₃ h₃ t₃ ys hj hsub₃ x₃ hvj ⟨rfl, hys⟩ T7 Post hPost
        obtain ⟨z, tz, rfl, hz⟩ := IntsAre.getV hS0 hvj
        have G3 := G2.up x₃
        repeat' walk1
        rename_i aT hT TT
        obtain ⟨g₄, x₄, T8, e8⟩ := TT.freeze
        refine hPost _ _ (cp_end (s := s) (own₂ := []) T8 x₄ ⟨rfl, ?_⟩)
        rw [take_snoc (show (judgedOf S)[j]? = some (decide (z ≥ 256), decide (z < 256), z == 0) by unfold judgedOf; rw [List.getElem?_map, hz]; rfl), List.map_append]
        exact (hys.up x₄).snoc (Rd.tup e8 rfl rfl (RdA.cons' (Rd.bool _) (RdA.cons' (Rd.bool _) (RdA.cons' (Rd.bool _) RdA.nil))))
      · rintro g₃ own₃ h₃ t₃ D ys e x₃ ⟨rfl, hys⟩ T7 T8
        have G3 := G2.up x₃
        rw [List.take_of_length_le (by unfold judgedOf; rw [List.length_map, ← hS0.length]; exact Nat.le_refl _)] at hys
        have TU : At g₃ L m₂ ((D, lst ys e) :: (sy, lst sv se) :: (ag, lst as ae) :: (L + 4, o1) :: (L + 3, o2) :: (L + 2, o3) :: (L + 1, o4) :: tl₁) h₃ := T8.sub (by walk_at "sublist")
        clear T8 T7 TSN T0N T5
        repeat' walk1
        refine r_storeP (pre := [_, _, _]) TU rfl d1 (fun o1 h6 d1 T6 => ?_)
        have T6 : At g₃ L m₂ ((D, lst ys e) :: (sy, lst sv se) :: (ag, lst as ae) :: (L + 4, o1) :: (L + 3, o2) :: (L + 2, o3) :: (L + 1, o4) :: tl₁) h6 := T6
        clear TU
        have hysl : ys.length = S.length + 1 := by have := hys.length; unfold judgedOf at this; simpa using this
        have hmin : min sv.length ys.length = S.length := by rw [hSl, hysl]; omega
        walk1
        refine' s_AssignComp (s := s) (E := fun _ _ => False) ?_ ?hsw ?hclos ?hcell ?hkind ?hnames ?hy ?hke
        walk_at "compA sides"
        repeat' walk1
        refine comp_zip (s := s) [] _ (fun i g own zs => own = [] ∧ IntsAre zs (partsOf (S.take i))) rA.hh T6 (List.Perm.refl _) (mu_isL T6 (.tail _ (.head _))) (.inr (.tail _ (.head _))) (mu_isL T6 (.head _)) (.inr (.head _)) ⟨⟨rfl, .nil⟩, ?_, ?_, ?_⟩
        · rw [hmin]; exact Nat.le_trans (Nat.le_of_eq hSl.symm) (szL (n := 1000) (by omega) (by decide))
        · rintro C j v g₄ m₄ own₄ tl₄ h₄ t₄ zs hj hsub₄ x₄ ⟨aZ, xz, yz, rfl, hxz, hyz, hTZ⟩ ⟨rfl, hzs⟩ T7 Post hPost
          have G4 := G3.up x₄
          obtain ⟨z, tz, rfl, hz⟩ := IntsAre.getV hS hxz
          rcases judge_at hys hz hyz with ⟨h256, T9, rfl, h9⟩ | ⟨h256, T9, rfl, h9⟩
          · have h9' := isTuple_up x₄ h9
            repeat' walk1
            rename_i hS6 tS6 TS6
            refine hPost _ _ (cp_end (s := s) (own₂ := []) TS6 Ext.rfl' ⟨rfl, ?_⟩)
            unfold partsOf
            rw [filt_pos (fun s => decide (s ≥ 256)) hz (decide_eq_true h256), List.map_append]
            exact hzs.append (.cons _ _ .nil)
          · have h9' := isTuple_up x₄ h9
            repeat' walk1
            rename_i hS6 tS6 TS6
            refine hPost _ _ (cp_end (s := s) (own₂ := []) TS6 Ext.rfl' ⟨rfl, ?_⟩)
            unfold partsOf
            rw [filt_neg (fun s => decide (s ≥ 256)) hz (decide_eq_false (by omega))]
            exact hzs
        · rintro g₄ own₄ h₄ t₄ D2 zs e2 x₄ ⟨rfl, hzs⟩ T7 T8 h₅ t₅ T9
          rw [hmin, List.take_length] at hzs
          have T9 : At g₄ L _ ((D2, lst zs e2) :: (D, lst ys e) :: (sy, lst sv se) :: (ag, lst as ae) :: (L + 4, o1) :: (L + 3, o2) :: (L + 2, o3) :: (L + 1, o4) :: tl₁) h₅ := T9
          clear T7 T8 T6
          have ht4' := isList_up x₄ (isList_up x₃ (isList_up x₂ ht1))
          have G4 := G3.up x₄
          walk1
          refine' s_AssignComp2 (s := s) (E := fun _ _ => False) ?_ ?hsw ?hclos ?hcell ?hkind ?hnames ?hy ?hke
          walk_at "compA sides"
          repeat' walk1
          refine comp2_list (s := s) [] _ (fun i g own ms => own = [] ∧ IntsAre ms (meansOf (told.take i) S)) rA.hh T9 (List.Perm.refl _) (isList_up T9.keep ht4') (.inl (let ⟨o, eo, _⟩ := ht4'; ⟨o, eo⟩)) ⟨⟨rfl, .nil⟩, ?_, ?_⟩
          · rintro I C D3 ni v g₅ m₅ own₅ tl₅ h₆ t₆ ms e3 hni hsub₅ x₅ hvn ⟨rfl, hms⟩ T10
            obtain ⟨n, tn, rfl, hn⟩ : ∃ (n : Nat) (tn : Tok), v = .int n tn ∧ told[ni]? = some n := by
              obtain ⟨n, tn, rfl, hn⟩ := IntsAre.getV hti hvn
              rw [List.getElem?_map] at hn
              obtain ⟨n', hn', rfl⟩ := Option.map_eq_some_iff.mp hn
              exact ⟨n', tn, rfl, hn'⟩
            have G5 := G4.up x₅
            have hcj := hsub₅ (L + 4, o1) (by walk_at "mem")
            have hcs := hsub₅ (L + 2, o3) (by walk_at "mem")
            have hlj := hsub₅ (D, lst ys e) (by walk_at "mem")
            have hls := hsub₅ (sy, lst sv se) (by walk_at "mem")
            walk1
            walk1
            walk1
            refine s_emitNM (s := s) ?_
            repeat' walk1
            rename_i hS6 tS6 TS6
            refine inner_zipM (s := s) [] tl₅ (fun j g m own ms' => own = [] ∧ m "number" = some (.int n tn) ∧ IntsAre ms' (meansOf (told.take ni) S ++ meansOf [n] (S.take j))) rA.hh TS6 (List.Perm.refl _) (mu_isL TS6 (.tail _ hls)) (.inr (List.mem_map_of_mem hls)) (mu_isL TS6 (.tail _ hlj)) (.inr (List.mem_map_of_mem hlj)) ⟨⟨rfl, by with_unfolding_all rfl, ?_⟩, ?_, ?_⟩
            · rw [List.take_zero, means_nil, List.append_nil]; exact hms
            · rintro j v' g₆ m₆ own₆ tl₆ h₇ t₇ ms2 e4 hj hsub₆ x₆ ⟨aZ, xz, yz, rfl, hxz, hyz, hTZ⟩ ⟨rfl, en, hms2⟩ T11
              obtain ⟨z, tz, rfl, hz⟩ := IntsAre.getV hS hxz
              have hm2 : ms2.length ≤ 4000 := by
                rw [hms2.length, List.length_append]
                have a1 := means_len (told.take ni) S
                have a2 := means_len [n] (S.take j)
                have a3 : (told.take ni).length ≤ 4 := by rw [List.length_take]; omega
                have a4 : (S.take j).length ≤ S.length := by rw [List.length_take]; omega
                have a5 : S.length ≤ 500 := by omega
                have a6 : (told.take ni).length * S.length ≤ 4 * 500 := Nat.mul_le_mul a3 a5
                simp only [List.length_cons, List.length_nil] at a2
                omega
              rcases judge_at hys hz hyz with ⟨h256, T12, rfl, h9⟩ | ⟨h256, T12, rfl, h9⟩
              · have h9' := isTuple_up x₆ (isTuple_up x₅ (isTuple_up x₄ h9))
                repeat' walk1
                rename_i hS7 tS7 TS7
                refine ⟨g₆, _, [], _, _, ms2, e4, rfl, Ext.rfl', TS7, rfl, ?_, ?_⟩
                · with_unfolding_all exact en
                · rw [means_one, filt_neg (fun s => decide (s < 256) && s == ((n / 16 : Nat) : Int)) hz (by rw [decide_eq_false (by omega)]; rfl), ← means_one]
                  exact hms2
              · have h9' := isTuple_up x₆ (isTuple_up x₅ (isTuple_up x₄ h9))
                have hfd : (n : Int).fdiv 16 = ((n / 16 : Nat) : Int) := by rw [Int.fdiv_eq_ediv_of_nonneg _ (by decide)]; omega
                have hfm : (n : Int).fmod 16 = ((n % 16 : Nat) : Int) := by rw [Int.fmod_eq_emod_of_nonneg _ (by decide)]; omega
                repeat' walk1
                · rename_i hS7 tS7 TS7 hzn
                  rw [hfd] at hzn
                  refine s_emitBM (s := s) ?_
                  repeat' walk1
                  rw [hfm]
                  refine ⟨g₆, _, [], _, _, ms2, e4, rfl, Ext.rfl', TS7, Nat.le_trans hm2 (by decide), rfl, ?_, ?_⟩
                  · with_unfolding_all exact en
                  · rw [means_one, filt_pos (fun s => decide (s < 256) && s == ((n / 16 : Nat) : Int)) hz (by rw [decide_eq_true h256, hzn]; simp), List.map_append, ← means_one, ← List.append_assoc]
                    exact hms2.append (.cons _ _ .nil)
                · rename_i hS7 tS7 TS7 hzn
                  rw [hfd] at hzn
                  refine ⟨g₆, _, [], _, _, ms2, e4, rfl, Ext.rfl', TS7, rfl, ?_, ?_⟩
                  · with_unfolding_all exact en
                  · rw [means_one, filt_neg (fun s => decide (s < 256) && s == ((n / 16 : Nat) : Int)) hz (by rw [show (z == ((n / 16 : Nat) : Int)) = false from beq_eq_false_iff_ne.mpr hzn, Bool.and_false]), ← means_one]
                    exact hms2
            · rintro g₆ m₆ own₆ h₇ t₇ ms2 e4 x₆ ⟨rfl, en, hms2⟩ T11
              rw [hmin, List.take_length] at hms2
              refine ⟨g₆, m₆, [], h₇, t₇, ms2, e4, rfl, x₆, T11, rfl, ?_⟩
              rw [means_snoc hn]
              exact hms2
          · rintro g₅ own₅ h₆ t₆ D3 ms e3 x₅ ⟨rfl, hms⟩ T10 T11 h₇ t₇ T12
            rw [List.take_of_length_le (by have := hti.length; rw [List.length_map] at this; omega)] at hms
            have T12 : At g₅ L _ ((D3, lst ms e3) :: (D2, lst zs e2) :: (D, lst ys e) :: (sy, lst sv se) :: (ag, lst as ae) :: (L + 4, o1) :: (L + 3, o2) :: (L + 2, o3) :: (L + 1, o4) :: tl₁) h₇ := T12
            clear T10 T11 T9
            have hzl : zs.length = (partsOf S).length := hzs.length
            have hml : ms.length = (meansOf told S).length := hms.length
            have hps : (partsOf S).length ≤ S.length := by unfold partsOf; rw [List.length_map]; exact List.length_filter_le _ _
            have hz6 : zs.length ≤ 1000000 := by omega
            have hm6 : ms.length ≤ 1000000 := by omega
            have hs6 : sv.length ≤ 1000000 := by omega
            obtain ⟨TJ, ejl, hTJ⟩ := judge_last hys
            rw [← show ys.length - 1 = S.length by omega] at ejl
            have hal : as.length ≤ 1000 := by have a1 := hI.length; have a2 := strs_len hyv; rw [List.length_map, List.length_take] at a1; omega
            repeat' walk1
            refine s_itemLast (mu_isL T12 (by walk_at "mem")) ejl ?_
            have hTJ5 := isTuple_up x₅ (isTuple_up x₄ hTJ)
            have G5 := G4.up x₅
            rcases hcase with ⟨hp0, hm0, hf⟩ | ⟨pa, pb, hp0, hm0, hf⟩ | ⟨cm, cl, cr, mb, pc, fl, fr, hm0, hp0, hli, hri, hm16, hfl, hfr, hfl16, hfr16, hf⟩
            · rw [hp0] at hzs
              rw [hm0] at hms
              obtain rfl : zs = [] := by cases hzs; rfl
              obtain rfl : ms = [] := by cases hms; rfl
              repeat' walk1
              · exfalso
                rename_i hne _ _ _
                apply hne
                simp only [List.length_nil]
                rw [hp0, hm0] at hcount
                simp only [List.length_nil] at hcount
                omega
              · refine s_appendD (pre := [_, _, _, _]) (show At g₅ L _ ([_, _, _, _] ++ (ag, lst as ae) :: _) _ by assumption) (szL hal (by decide)) fun eN hN tN TN => ?_
                repeat' walk1
                refine hPost _ _ (lp_next (own₂ := [(ag, lst _ _), (L + 4, o1), (L + 3, o2), (L + 2, o3), (L + 1, o4)]) (TN.sub (by walk_at "sublist")) (((x₂.tr x₃).tr x₄).tr x₅) ⟨_, _, o1, o2, o3, o4, _, _, _, _, rfl, d1, d2, d3, d4, ?_, ?_, ?_⟩)
                · with_unfolding_all exact ea
                · with_unfolding_all exact et
                · rw [take_snoc hf, List.map_append]
                  exact hI.append (.cons _ _ .nil)
            · rw [hp0] at hzs
              rw [hm0] at hms
              obtain ⟨t0, zs', rfl⟩ : ∃ t0 zs', zs = .int pa t0 :: zs' := by cases hzs with | cons _ t0 h => exact ⟨t0, _, rfl⟩
              obtain rfl : ms = [] := by cases hms; rfl
              repeat' walk1
              · exfalso
                rename_i hne _ _ _
                apply hne
                omega
              · refine s_appendD (pre := [_, _, _, _]) (show At g₅ L _ ([_, _, _, _] ++ (ag, lst as ae) :: _) _ by assumption) (szL hal (by decide)) fun eN hN tN TN => ?_
                repeat' walk1
                refine hPost _ _ (lp_next (own₂ := [(ag, lst _ _), (L + 4, o1), (L + 3, o2), (L + 2, o3), (L + 1, o4)]) (TN.sub (by walk_at "sublist")) (((x₂.tr x₃).tr x₄).tr x₅) ⟨_, _, o1, o2, o3, o4, _, _, _, _, rfl, d1, d2, d3, d4, ?_, ?_, ?_⟩)
                · with_unfolding_all exact ea
                · with_unfolding_all exact et
                · rw [take_snoc hf, List.map_append]
                  exact hI.append (.cons _ _ .nil)
              · exfalso
                rename_i hn
                exact hn (Nat.succ_pos _)
            · rw [hp0] at hzs
              rw [hm0] at hms
              obtain ⟨t0, t1, zs', rfl⟩ : ∃ t0 t1 zs', zs = .int cl t0 :: .int cr t1 :: zs' := by cases hzs with | cons _ t0 h => cases h with | cons _ t1 h => exact ⟨t0, t1, _, rfl⟩
              obtain ⟨t2, ms', rfl⟩ : ∃ t2 ms', ms = .int cm t2 :: ms' := by cases hms with | cons _ t2 h => exact ⟨t2, _, rfl⟩
              have hyl := strs_len hyv
              have hcl16 : cl < 16 := by omega
              have hcr16 : cr < 16 := by omega
              obtain ⟨tfl, efl⟩ := hI.get cl ((fl : Nat) : Int) (by rw [List.getElem?_map, List.getElem?_take_of_lt hli, hfl]; rfl)
              obtain ⟨tfr, efr⟩ := hI.get cr ((fr : Nat) : Int) (by rw [List.getElem?_map, List.getElem?_take_of_lt hri, hfr]; rfl)
              rw [← Int.toNat_natCast cl] at efl
              rw [← Int.toNat_natCast cr] at efr
              repeat' walk1
              · exfalso
                rename_i hne _ _ _
                apply hne
                omega
              · obtain ⟨ed, hd16⟩ := done_eq hm16 hfl16 hfr16
                refine c_done (rA.le (by decide) (by decide)) G5 (by assumption) hm16 fun h14 t14 tk14 T14 => ?_
                rw [ed]
                repeat' walk1
                refine s_appendD (pre := [_, _, _, _]) (show At g₅ L _ ([_, _, _, _] ++ (ag, lst as ae) :: _) _ by assumption) (szL hal (by decide)) fun eN hN tN TN => ?_
                repeat' walk1
                refine hPost _ _ (lp_next (own₂ := [(ag, lst _ _), (L + 4, o1), (L + 3, o2), (L + 2, o3), (L + 1, o4)]) (TN.sub (by walk_at "sublist")) (((x₂.tr x₃).tr x₄).tr x₅) ⟨_, _, o1, o2, o3, o4, _, _, _, _, rfl, d1, d2, d3, d4, ?_, ?_, ?_⟩)
                · with_unfolding_all exact ea
                · with_unfolding_all exact et
                · rw [take_snoc hf, List.map_append]
                  exact hI.append (.cons _ _ .nil)
              · exfalso
                rename_i hn _
                exact hn (Nat.succ_pos _)
              · exfalso
                rename_i hn _
                exact hn (Nat.succ_pos _)
  · rintro g₁ m₁ own₁ h₁ t₁ x₁ ⟨as, ae, o1, o2, o3, o4, v1, v2, v3, v4, rfl, d1, d2, d3, d4, ea, et, hI⟩ T1
    rw [List.take_of_length_le (by have := strs_len hyv; omega)] at hI
    repeat' walk1
    exact k ag as ae _ _ hI ((T1.sub (by walk_at "sublist")).mem.weak x₁)
end
section
variable {prog : Program} {w : World} {A : Around} {E : Value → Shared → Prop} {s : Shared} {g h : Heap} {t : Nat} {mu : Led} {m : Loc} {L l : Addr} {vs : List Value} {ns : List Int} {Q : Value → Shared → Prop} {a b : Value} {da db : PyData}
theorem s_eqD (ra : Rd h a da) (rb : Rd h b db) (ha : da.canLay0 = true) (hb : db.canLay0 = true) (hd : da.depth ≤ 50) (hu : A.units + 64 < cLine) (q : Q (.bool (PyData.eqv da db)) (Sh s h t)) : wpAny (model prog w) A (compareOp .Eq a b) Q E (Sh s h t) :=
  let ⟨_, ra⟩ := ra; let ⟨_, rb⟩ := rb
  PySem.SeqAt.compareEq_reads (s := Sh s h t) ra rb ha hb (by omega) q
theorem s_neD (ra : Rd h a da) (rb : Rd h b db) (ha : da.canLay0 = true) (hb : db.canLay0 = true) (hd : da.depth ≤ 50) (hu : A.units + 64 < cLine) (q : Q (.bool (!PyData.eqv da db)) (Sh s h t)) : wpAny (model prog w) A (compareOp .NotEq a b) Q E (Sh s h t) :=
  let ⟨_, ra⟩ := ra; let ⟨_, rb⟩ := rb
  PySem.SeqAt.compareNe_reads (s := Sh s h t) ra rb ha hb (by omega) q
theorem s_minL (hh : A.handled = none) (T : At g L m mu h) (hl : h.IsList l vs.toArray) (hi : IntsAre vs ns) (hne : 0 < ns.length)
    (k : ∀ h' M (t : Tok) tk, At g L m mu h' → M ∈ ns → (∀ a, a ∈ ns → M ≤ a) → Q (.int M t) (Sh s h' tk)) : wpAny (model prog w) A (call (.builtin "min") [.ref l]) Q E (Sh s h t) :=
  min_list_N (s := Sh s h t) hh T.fr T.news hl hi hne fun h' M t' tk F N h1 h2 => k h' M t' tk (T.back F N) h1 h2
theorem s_maxL (hh : A.handled = none) (T : At g L m mu h) (hl : h.IsList l vs.toArray) (hi : IntsAre vs ns) (hne : 0 < ns.length)
    (k : ∀ h' M (t : Tok) tk, At g L m mu h' → M ∈ ns → (∀ a, a ∈ ns → a ≤ M) → Q (.int M t) (Sh s h' tk)) : wpAny (model prog w) A (call (.builtin "max") [.ref l]) Q E (Sh s h t) :=
  max_list_N (s := Sh s h t) hh T.fr T.news hl hi hne fun h' M t' tk F N h1 h2 => k h' M t' tk (T.back F N) h1 h2
end
theorem eqvAll_map {α : Type} [DecidableEq α] (f : α → PyData) (hf : ∀ x y, PyData.eqv (f x) (f y) = decide (x = y)) : ∀ l1 l2 : List α, PyData.eqvAll (l1.map f) (l2.map f) = decide (l1 = l2)
  | [], [] => by simp [PyData.eqvAll]
  | [], _ :: _ => by simp [PyData.eqvAll]
  | _ :: _, [] => by simp [PyData.eqvAll]
  | x :: l1, y :: l2 => by
    simp only [List.map_cons, PyData.eqvAll, hf, eqvAll_map f hf l1 l2, List.cons.injEq, Bool.decide_and]
theorem eqv_ints (l1 l2 : List Int) : PyData.eqv (.list (l1.map .int)) (.list (l2.map .int)) = decide (l1 = l2) := by
  rw [PyData.eqv]; exact eqvAll_map _ (fun x y => by rw [PyData.eqv]; rfl) _ _
theorem eqv_strs (l1 l2 : List Str) : PyData.eqv (.list (l1.map .str)) (.list (l2.map .str)) = decide (l1 = l2) := by
  rw [PyData.eqv]; exact eqvAll_map _ (fun x y => by rw [PyData.eqv]; exact Bool.eq_iff_iff.mpr (by simp)) _ _
theorem lay_map {α : Type} (f : α → PyData) : ∀ l : List α, (∀ x ∈ l, (f x).canLay0 = true) → PyData.canLayAll0 (l.map f) = true
  | [], _ => by simp [PyData.canLayAll0]
  | x :: l, h => by
    rw [List.map_cons, PyData.canLayAll0, h x (.head _), lay_map f l fun y hy => h y (.tail _ hy)]; rfl
theorem lay_list {α : Type} (f : α → PyData) (l : List α) (h : ∀ x ∈ l, (f x).canLay0 = true) : (PyData.list (l.map f)).canLay0 = true := by
  rw [PyData.canLay0]; exact lay_map f l h
theorem lay_ints (l : List Int) : (PyData.list (l.map .int)).canLay0 = true := lay_list _ l fun _ _ => by rw [PyData.canLay0]
theorem lay_strs {l : List Str} (h : l.all PyData.strOk = true) : (PyData.list (l.map .str)).canLay0 = true := lay_list _ l fun x hx => by rw [PyData.canLay0]; exact List.all_eq_true.mp h x hx
theorem RdA.ints {h : Heap} {vs : List Value} {ns : List Int} (hi : IntsAre vs ns) : RdA h vs (ns.map .int) := by
  induction hi with
  | nil => exact RdA.nil
  | cons n t _ ih => exact RdA.cons' (Rd.int _ _) ih
theorem RdA.strs {h : Heap} {vs : List Value} {ns : List Str} (hi : StrsAre vs ns) : RdA h vs (ns.map .str) := by
  induction hi with
  | nil => exact RdA.nil
  | cons n t _ ih => exact RdA.cons' (Rd.str _ _) ih
theorem depthAll_map {α : Type} (f : α → PyData) (k : Nat) : ∀ l : List α, (∀ x ∈ l, (f x).depth ≤ k) → PyData.depthAll (l.map f) ≤ k
  | [], _ => by simp [PyData.depthAll]
  | x :: l, h => by
    rw [List.map_cons, PyData.depthAll]
    exact Nat.max_le.mpr ⟨h x (.head _), depthAll_map f k l fun y hy => h y (.tail _ hy)⟩
theorem depth_list {α : Type} (f : α → PyData) (k : Nat) (l : List α) (h : ∀ x ∈ l, (f x).depth ≤ k) : (PyData.list (l.map f)).depth ≤ k + 1 := by
  rw [PyData.depth]; exact Nat.succ_le_succ (depthAll_map f k l h)
theorem depth_ints (l : List Int) : (PyData.list (l.map .int)).depth ≤ 50 := Nat.le_trans (depth_list _ 0 l fun _ _ => by rw [PyData.depth]; exact Nat.le_refl _) (by decide)
theorem depth_strs (l : List Str) : (PyData.list (l.map .str)).depth ≤ 50 := Nat.le_trans (depth_list _ 0 l fun _ _ => by rw [PyData.depth]; exact Nat.le_refl _) (by decide)
theorem Rd.isL {h : Heap} {a : Addr} {vs : List Value} {ds : List PyData} (hl : h.IsList a vs.toArray) (q : RdA h vs ds) : Rd h (.ref a) (.list ds) :=
  let ⟨_, ho, hc, _, hd⟩ := hl; Rd.list ho hc hd (by simpa using q)
section
variable {prog : Program} {w : World} {A : Around} {s : Shared} {g h : Heap} {t : Nat} {m : Loc} {env : Env} {mu : Led} {elt : Expr} {a : Addr} {ifs : List Expr} {scope : Scope} {cl : List (Str × Addr)} {E : Value → Shared → Prop} {Fin : Heap → Addr → Loc → Led → List Value → Nat → Heap → Nat → Prop}
structure CompOblK (prog : Program) (w : World) (A : Around) (env : Env) (target elt : Expr) (ifs : List Expr) (scope : Scope) (cl : List (Str × Addr)) (s : Shared) (Fin : Heap → Addr → Loc → Led → List Value → Nat → Heap → Nat → Prop) (own tl : Led) (g : Heap) (m : Loc) (n : Nat) (P : Nat → Value → Heap → Prop) (J : Nat → Heap → Led → List Value → Prop) : Prop where
  h0 : J 0 g own []
  sz : n ≤ sizeLine
  turn : ∀ C o v₀ i v g₁ m₁ own₁ tl₁ h₁ t₁ ys, i < n → (∀ p ∈ tl, p ∈ tl₁) → Ext g g₁ → P i v h₁ → o.data = .cell v₀ → J i g₁ own₁ ys → At g₁ C m₁ ((C + 1, o) :: (own₁ ++ tl₁)) h₁ → ∀ Post : List Value → Shared → Prop, (∀ ys s', CP s g₁ C tl₁ (fun g own ys => ∃ o v₀ own', own = (C + 1, o) :: own' ∧ o.data = .cell v₀ ∧ J (i + 1) g own' ys) ys s' → Post ys s') →
      wpAny (model prog w) A (assign target (compEnvK scope cl C env) v) (fun _ s₂ => Tests prog w A ifs (compEnvK scope cl C env) (fun ok s₃ => if ok = true then wpAny (model prog w) A (eval elt (compEnvK scope cl C env)) (fun y s₄ => Post (ys ++ [y]) s₄) (fun _ _ => False) s₃
        else Post ys s₃) s₂) (fun _ _ => False) (Sh s h₁ t₁)
  done : ∀ g₁ own₁ h₁ t₁ D ys e, Ext g g₁ → J n g₁ own₁ ys → At g₁ env.locals m ((D, lst ys e) :: (own₁ ++ tl)) h₁ → Fin g₁ D m (own₁ ++ tl) ys e h₁ t₁
theorem CompOblK.turn' {prog : Program} {w : World} {A : Around} {env : Env} {target elt : Expr} {ifs : List Expr} {scope : Scope} {cl : List (Str × Addr)} {s : Shared} {Fin : Heap → Addr → Loc → Led → List Value → Nat → Heap → Nat → Prop} {own tl : Led} {g : Heap} {m : Loc} {n : Nat} {P : Nat → Value → Heap → Prop} {J : Nat → Heap → Led → List Value → Prop} (ob : CompOblK prog w A env target elt ifs scope cl s Fin own tl g m n P J) : ∀ C o v₀ i v g₁ m₁ own₁ tl₁ h₁ t₁ ys, i < n → (∀ p ∈ tl, p ∈ tl₁) → Ext g g₁ → P i v h₁ → o.data = .cell v₀ → J i g₁ own₁ ys → At g₁ C m₁ ((C + 1, o) :: (own₁ ++ tl₁)) h₁ →
      wpAny (model prog w) A (assign target (compEnvK scope cl C env) v) (fun _ s₂ => Tests prog w A ifs (compEnvK scope cl C env) (fun ok s₃ => if ok = true then wpAny (model prog w) A (eval elt (compEnvK scope cl C env)) (fun y s₄ => CP s g₁ C tl₁ (fun g own ys => ∃ o v₀ own', own = (C + 1, o) :: own' ∧ o.data = .cell v₀ ∧ J (i + 1) g own' ys) (ys ++ [y]) s₄) (fun _ _ => False) s₃
        else CP s g₁ C tl₁ (fun g own ys => ∃ o v₀ own', own = (C + 1, o) :: own' ∧ o.data = .cell v₀ ∧ J (i + 1) g own' ys) ys s₃) s₂) (fun _ _ => False) (Sh s h₁ t₁) :=
  fun C o v₀ i v g₁ m₁ own₁ tl₁ h₁ t₁ ys hi hs x hP ho hJ T => ob.turn C o v₀ i v g₁ m₁ own₁ tl₁ h₁ t₁ ys hi hs x hP ho hJ T _ fun _ _ q => q
theorem comp_rangeK {x : Str} {px : Pos} {lo hi : Int} {t1 t2 t3 : Tok} (own tl : Led) (n : Nat) (J : Nat → Heap → Led → List Value → Prop) (hh : A.handled = none) (T : At g env.locals m mu h) (hp : (own ++ tl).Perm mu) (hr : IsRange h a lo hi 1 t1 t2 t3)
    (h1 : -(2 ^ 62) ≤ lo) (h2 : hi < 2 ^ 62) (h3 : hi = lo + n) (ob : CompOblK prog w A env (.Name x px) elt ifs scope cl s Fin own tl g m n (fun i v _ => ∃ t, v = .int (lo + (i : Int)) t) J) :
    wpAny (model prog w) A (pyIter (.ref a)) (fun it s₂ => CompAtK prog w A env (.Name x px) elt ifs scope cl s Fin it s₂) E (Sh s h t) :=
  src_range own tl hh T hp hr n h1 h2 h3 fun I its h' t' S T' => ⟨I, own, its, tl, g, h', t', m, n, _, J, rfl, rfl, S, T', ob.h0, ob.sz, ob.turn', ob.done⟩
end
section
variable {prog : Program} {w : World} {A : Around} {s : Shared} {g h : Heap} {t : Nat} {mu tl : Led} {R : Result → Shared → Prop} {L : Addr} {m : Loc} {E : Value → Shared → Prop}
noncomputable def bitI (i r : Nat) : Int := ((i / 2 ^ r % 2 : Nat) : Int)
noncomputable def rowBits (i : Nat) : PyData := .list (((List.range 4).map (bitI i)).map .int)
theorem bit_eq (i r : Nat) : Builtin.bitAnd ((i : Int).fdiv (2 ^ ((r : Nat) : Int).toNat)) 1 = bitI i r := by
  rw [Int.toNat_natCast, show ((2 : Int) ^ r) = ((2 ^ r : Nat) : Int) by rw [Int.natCast_pow]; rfl, Int.fdiv_eq_ediv_of_nonneg _ (Int.natCast_nonneg _), ← Int.natCast_ediv, show (1 : Int) = ((1 : Nat) : Int) from rfl, bitAnd_nat, Nat.and_one_is_mod]
  rfl
noncomputable abbrev famScope (ex : List (Str × NameKind)) : Scope := { kind := ScopeKind.function, names := (Str.ofString ".0", NameKind.local) :: (Str.ofString "means", NameKind.local) :: (Str.ofString "row", NameKind.local) :: ex, isGenerator := false, isCoroutine := false }
noncomputable abbrev famEnv (L : Addr) : Env := envOf "_law_families" { kind := ScopeKind.function, names := [(Str.ofString "every", NameKind.local), (Str.ofString "kept", NameKind.local), (Str.ofString "range", NameKind.globalImplicit), (Str.ofString "enumerate", NameKind.globalImplicit)], isGenerator := false, isCoroutine := false, more := [(Str.ofString "fast", Const.str (Str.ofString "means")), (Str.ofString "fast", Const.str (Str.ofString "row")), (Str.ofString "fast", Const.str (Str.ofString "every")), (Str.ofString "fast", Const.str (Str.ofString "kept"))] } L 298 (.ref 297)
theorem row_at {g : Heap} {ys : List Value} (hys : RdA g ys ((List.range 16).map rowBits)) {i : Nat} {x : Value} (hi : i < 16) (hx : ys[i]? = some x) :
    ∃ a t0 t1 t2 t3, x = .ref a ∧ g.IsList a [Value.int (bitI i 0) t0, .int (bitI i 1) t1, .int (bitI i 2) t2, .int (bitI i 3) t3].toArray := by
  obtain ⟨d, hd, rd⟩ := hys.get hx
  rw [List.getElem?_map, List.getElem?_range hi] at hd
  cases hd
  obtain ⟨a, vs, rfl, hl, q⟩ := rd.listE
  obtain ⟨v0, us, rfl, r0, q⟩ := q.consE
  obtain ⟨v1, us, rfl, r1, q⟩ := q.consE
  obtain ⟨v2, us, rfl, r2, q⟩ := q.consE
  obtain ⟨v3, us, rfl, r3, q⟩ := q.consE
  obtain rfl := q.nilE
  obtain ⟨t0, rfl⟩ := r0.intE
  obtain ⟨t1, rfl⟩ := r1.intE
  obtain ⟨t2, rfl⟩ := r2.intE
  obtain ⟨t3, rfl⟩ := r3.intE
  exact ⟨a, t0, t1, t2, t3, rfl, hl⟩
noncomputable def TQ (s : Shared) (g₁ : Heap) (C : Addr) (m₁ : Loc) (tl₁ : Led) (b ok : Bool) (s₃ : Shared) : Prop := ok = b ∧ ∃ h' t', s₃ = Sh s h' t' ∧ At g₁ C m₁ tl₁ h'
set_option maxHeartbeats 0 in
theorem fam_comp {exs : List (Str × NameKind)} {ifs : List Expr} {Fin : Heap → Addr → Loc → Led → List Value → Nat → Heap → Nat → Prop} {ev : Addr} {ys : List Value} {px p1 p2 p3 : Pos} {kx : Nat} {rn ru : Nat} (F : Nat → Bool) (rA : Room A rn ru) (T : At g (famEnv L).locals m mu h) (hev : g.IsList ev ys.toArray) (hys : RdA g ys ((List.range 16).map rowBits))
    (tests : ∀ C i a t0 t1 t2 t3 g₁ m₁ tl₁ h₁ t₁, i < 16 → Ext g g₁ → m₁ "row" = some (.ref a) → g₁.IsList a [Value.int (bitI i 0) t0, .int (bitI i 1) t1, .int (bitI i 2) t2, .int (bitI i 3) t3].toArray → At g₁ C m₁ tl₁ h₁ →
      Tests prog w A ifs (compEnvC (famScope exs) [] C (famEnv L)) (TQ s g₁ C m₁ tl₁ (F i)) (Sh s h₁ t₁))
    (done : ∀ g₁ h₁ t₁ D vs e, Ext g g₁ → IntsAre vs (((List.range 16).filter F).map fun (n : Nat) => (n : Int)) → At g₁ (famEnv L).locals m ((D, lst vs e) :: mu) h₁ → Fin g₁ D m mu vs e h₁ t₁) :
    wpAny (model prog w) A (call (.type "enumerate") [.ref ev]) (fun xv s₁ => wpAny (model prog w) A (pyIter xv) (fun it s₂ => CompAt prog w A (famEnv L) (.Tuple [.Name "means" p1, .Name "row" p2] kx px) (.Name "means" p3) ifs (famScope exs) [] s Fin it s₂) E s₁) E (Sh s h t) := by
  have hl16 : ys.length = 16 := by have := hys.length; simpa using this
  refine comp_enum (s := s) [] mu (fun i g own zs => own = [] ∧ IntsAre zs (((List.range i).filter F).map fun (n : Nat) => (n : Int))) rA.hh T (List.Perm.refl _) (isList_up T.keep hev) (.inl (let ⟨o, eo, _⟩ := hev; ⟨o, eo⟩)) ⟨⟨rfl, .nil⟩, by rw [hl16]; decide, ?_, ?_⟩
  · rintro C i v g₁ m₁ own₁ tl₁ h₁ t₁ zs hi hsub x₁ ⟨aT, ti, x, rfl, hx, hT⟩ ⟨rfl, hzs⟩ T4 Post hPost
    have hi16 : i < 16 := by omega
    obtain ⟨a, t0, t1, t2, t3, rfl, hrow⟩ := row_at hys hi16 hx
    have hrow := isList_up x₁ hrow
    have hf1 : ∀ b, F i = b → (List.range (i + 1)).filter F = (List.range i).filter F ++ if b = true then [i] else [] := by
      intro b hb
      rw [List.range_succ, List.filter_append]
      cases b with
      | true => rw [List.filter_cons_of_pos hb]; rfl
      | false => rw [List.filter_cons_of_neg (by rw [hb]; exact Bool.false_ne_true)]; rfl
    repeat' walk1
    rename_i hS tS TS
    refine tests_mono (tests C i a t0 t1 t2 t3 g₁ _ _ hS tS hi16 x₁ (by with_unfolding_all rfl) hrow TS) ?_
    rintro ok s₃ ⟨rfl, h3, t3', rfl, T5⟩
    cases hF : F i with
    | true =>
      rw [if_pos rfl]
      repeat' walk1
      refine hPost _ _ (cp_end (s := s) (own₂ := []) T5 Ext.rfl' ⟨rfl, ?_⟩)
      rw [hf1 true hF, List.map_append]
      exact hzs.append (.cons _ _ .nil)
    | false =>
      rw [if_neg Bool.false_ne_true]
      refine hPost _ _ (cp_end (s := s) (own₂ := []) T5 Ext.rfl' ⟨rfl, ?_⟩)
      rw [hf1 false hF, if_neg Bool.false_ne_true, List.append_nil]
      exact hzs
  · rintro g₁ own₁ h₁ t₁ D vs e x₁ ⟨rfl, hvs⟩ T4
    rw [hl16] at hvs
    exact done g₁ h₁ t₁ D vs e x₁ hvs T4
noncomputable def famF1 (i : Nat) : Bool := bitI i 0 == 0
noncomputable def famF2 (i : Nat) : Bool := bitI i 3 == 1
noncomputable def famF3 (i : Nat) : Bool := [bitI i 0, bitI i 1, bitI i 2, bitI i 3].sum.fmod 2 == 0
noncomputable def famF4 (i : Nat) : Bool := (bitI i 0 != bitI i 3) && (bitI i 1 != bitI i 2)
noncomputable def famF5 (i : Nat) : Bool := decide (bitI i 0 ≤ min (bitI i 1) (bitI i 2)) && decide (max (bitI i 1) (bitI i 2) ≤ bitI i 3)
noncomputable def famF6 (i : Nat) : Bool := (bitI i 0 == 0) && !decide ([bitI i 1, bitI i 2] = [1, 1])
noncomputable def famF7 (i : Nat) : Bool := (bitI i 3 == 1) && !decide ([bitI i 1, bitI i 2] = [0, 0])
noncomputable def FamAt (g : Heap) (v : Value) (ns : List Nat) : Prop := ∃ a vs, v = .ref a ∧ (g.IsTuple a vs.toArray ∨ g.IsList a vs.toArray) ∧ IntsAre vs (ns.map fun (n : Nat) => (n : Int))
theorem FamAt.up {g h : Heap} {v : Value} {ns : List Nat} (f : FamAt g v ns) (x : Ext g h) : FamAt h v ns :=
  let ⟨a, vs, e, q, i⟩ := f; ⟨a, vs, e, q.imp (isTuple_up x) (isList_up x), i⟩
theorem famAt_list {g : Heap} {a : Addr} {vs : List Value} {e : Nat} {ns : List Nat} (i : IntsAre vs (ns.map fun (n : Nat) => (n : Int))) (h : g.get? a = some (lst vs e)) : FamAt g (.ref a) ns := ⟨a, vs, rfl, .inr ⟨_, h, rfl, _, rfl⟩, i⟩
inductive FamsAre (g : Heap) : List Value → List (List Nat) → Prop
  | nil : FamsAre g [] []
  | cons {v : Value} {ns : List Nat} {vs : List Value} {nss : List (List Nat)} : FamAt g v ns → FamsAre g vs nss → FamsAre g (v :: vs) (ns :: nss)
theorem FamsAre.up {g h : Heap} {vs : List Value} {nss : List (List Nat)} (f : FamsAre g vs nss) (x : Ext g h) : FamsAre h vs nss := by
  induction f with
  | nil => exact .nil
  | cons a _ ih => exact .cons (a.up x) ih
theorem FamsAre.snoc {g : Heap} {vs : List Value} {nss : List (List Nat)} {v : Value} {ns : List Nat} (f : FamsAre g vs nss) (a : FamAt g v ns) : FamsAre g (vs ++ [v]) (nss ++ [ns]) := by
  induction f with
  | nil => exact .cons a .nil
  | cons b _ ih => exact .cons b ih
theorem FamsAre.get {g : Heap} {vs : List Value} {nss : List (List Nat)} (f : FamsAre g vs nss) {i : Nat} {v : Value} (h : vs[i]? = some v) : ∃ ns, nss[i]? = some ns ∧ FamAt g v ns := by
  induction f generalizing i with
  | nil => simp at h
  | cons a _ ih =>
    cases i with
    | zero => simp at h; subst h; exact ⟨_, rfl, a⟩
    | succ i => simpa using ih (by simpa using h)
theorem FamsAre.length {g : Heap} {vs : List Value} {nss : List (List Nat)} (f : FamsAre g vs nss) : vs.length = nss.length := by
  induction f with
  | nil => rfl
  | cons _ _ ih => simp [ih]
noncomputable def famsN : List (List Nat) := [[0, 15, 12, 10, 3, 5], [0, 15, 12, 10, 8], [0, 15, 12, 10, 14], (List.range 16).filter famF1, (List.range 16).filter famF2, (List.range 16).filter famF3, (List.range 16).filter famF4, (List.range 16).filter famF5, (List.range 16).filter famF6, (List.range 16).filter famF7]
theorem slice_mid (a b c d : Value) : (slicePick [a, b, c, d].toArray (some 1) (some 3) none).toList = [b, c] := by rfl
theorem min_pair {x y M : Int} (h : M ∈ [x, y]) (h2 : ∀ a, a ∈ [x, y] → M ≤ a) : M = min x y := by
  have a := h2 x (.head _)
  have b := h2 y (.tail _ (.head _))
  simp only [List.mem_cons, List.not_mem_nil, or_false] at h
  omega
theorem max_pair {x y M : Int} (h : M ∈ [x, y]) (h2 : ∀ a, a ∈ [x, y] → a ≤ M) : M = max x y := by
  have a := h2 x (.head _)
  have b := h2 y (.tail _ (.head _))
  simp only [List.mem_cons, List.not_mem_nil, or_false] at h
  omega
set_option maxHeartbeats 0 in
theorem fam_spec 
   (r : Room A 8 600) (G : Gl w g) (M : Mem g mu h) 
   (k : ∀ D vs e g' h' t', Ext g g' → FamsAre g' vs famsN → Mem g' ((D, lst vs e) :: mu) h' → R (.ok (.ret (.ref D))) (Sh s h' t')) :
   codeAny (model prog w) A (.call (.ref 298) ⟨[], []⟩) R (Sh s h t) := by
  refine' r_enter (binds := []) r G M ?ho ?hcd ?hbind ?hloc ?k ?hcell ?hco ?hgen ?hk
  walk_at "entered"
  intro A' L h1 tk1 rA T
  walk1
  refine' s_AssignCompK (s := s) (E := fun _ _ => False) ?_ ?hsw ?hclos ?hpush ?hkind ?hnames ?hy ?hke
  walk_at "compAK sides"
  repeat' walk1
  rename_i rR hR tR u1 u2 u3 TR
  refine comp_rangeK (s := s) [] _ 16 (fun i g own ys => own = [] ∧ RdA g ys ((List.range i).map rowBits)) rA.hh TR (List.Perm.refl _) (mu_rng TR (.head _)) (by decide) (by decide) (by decide) ⟨⟨rfl, RdA.nil⟩, by decide, ?_, ?_⟩
  · rintro C o v₀ i v g₁ m₁ own₁ tl₁ h₁ t₁ ys hi hsub x₁ ⟨tv, hv⟩ ho ⟨rfl, hys⟩ T4 Post hPost
    obtain rfl : v = .int (i : Int) tv := by rw [hv, Int.zero_add]
    have G1 := G.up x₁
    walk1
    refine r_storeP (pre := []) T4 rfl ho (fun o h2 ho T5 => ?_)
    have T5 : At g₁ C m₁ ((C + 1, o) :: tl₁) h2 := T5
    repeat' walk1
    refine' s_ListComp (s := s) (E := fun _ _ => False) ?_ ?hclos ?hcell ?hkind ?hnames
    walk_at "comp sides"
    repeat' walk1
    rename_i rR2 hR2 tR2 w1 w2 w3 TR2
    refine comp_range (s := s) [] _ 4 (fun r g own zs => own = [] ∧ IntsAre zs ((List.range r).map (bitI i))) rA.hh TR2 (List.Perm.refl _) (mu_rng TR2 (.head _)) (by decide) (by decide) (by decide) ⟨⟨rfl, .nil⟩, by decide, ?_, ?_⟩
    · rintro C2 r v g₂ m₂ own₂ tl₂ h₂ t₂ zs hr hsub₂ x₂ ⟨tv2, hv⟩ ⟨rfl, hzs⟩ T6 Post hPost
      obtain rfl : v = .int (r : Int) tv2 := by rw [hv, Int.zero_add]
      have hcm := hsub₂ (C + 1, o) (by walk_at "mem")
      repeat' walk1
      rename_i hS tS TS
      refine hPost _ _ (cp_end (s := s) (own₂ := []) TS Ext.rfl' ⟨rfl, ?_⟩)
      rw [List.range_succ, List.map_append]
      rw [bit_eq]
      exact hzs.append (.cons _ _ .nil)
    · rintro g₂ own₂ h₂ t₂ D2 zs e2 x₂ ⟨rfl, hzs⟩ T6 T7
      obtain ⟨g₃, x₃, T8, e8⟩ := T7.freeze
      refine hPost _ _ (cp_end (s := s) (own₂ := [(C + 1, o)]) (T8.sub (by walk_at "sublist")) (x₂.tr x₃) ⟨o, _, [], rfl, ho, rfl, ?_⟩)
      rw [List.range_succ, List.map_append]
      exact (hys.up (x₂.tr x₃)).snoc (Rd.isL ⟨_, e8, rfl, _, rfl⟩ (RdA.ints hzs))
  · rintro g₁ own₁ h₁ t₁ D ys e x₁ ⟨rfl, hys⟩ T4 T5 h₂ t₂ T6
    obtain ⟨g2, x2, T7, eD⟩ := (show At g₁ L _ ((D, lst ys e) :: ((rR, rng 0 16 1 u1 u2 u3) :: mu)) h₂ from T6).freeze
    have T7 := T7.drop
    have hys := hys.up x2
    have hev : g2.IsList D ys.toArray := ⟨_, eD, rfl, _, rfl⟩
    have G2 := (G.up x₁).up x2
    clear T6 T5 T4
    repeat' walk1
    rename_i ta1 _ _ ta2 _ _ ta3 _ _ kl _ TK hS tS TS
    obtain ⟨g3, y3, T3, e3⟩ := (At.swap TS).freeze
    obtain ⟨g4, y4, T4, e4⟩ := (At.swap T3).freeze
    obtain ⟨g5, y5, T5, e5⟩ := (At.swap T4).freeze
    clear TS T3 T4 TK
    have y25 := (y3.tr y4).tr y5
    have hev5 := isList_up y25 hev
    have hys5 := hys.up y25
    have G5 := G2.up y25
    have hK : FamsAre g5 [.ref ta1, .ref ta2, .ref ta3] [[0, 15, 12, 10, 3, 5], [0, 15, 12, 10, 8], [0, 15, 12, 10, 14]] := by
      refine .cons ⟨ta1, _, rfl, .inl ⟨_, e5, rfl, _, rfl⟩, ?_⟩ (.cons ⟨ta2, _, rfl, .inl ⟨_, y5 _ _ e4, rfl, _, rfl⟩, ?_⟩ (.cons ⟨ta3, _, rfl, .inl ⟨_, y5 _ _ (y4 _ _ e3), rfl, _, rfl⟩, ?_⟩ .nil))
      · exact .cons _ _ (.cons _ _ (.cons _ _ (.cons _ _ (.cons _ _ (.cons _ _ .nil)))))
      · exact .cons _ _ (.cons _ _ (.cons _ _ (.cons _ _ (.cons _ _ .nil))))
      · exact .cons _ _ (.cons _ _ (.cons _ _ (.cons _ _ (.cons _ _ .nil))))
    generalize hkv : [Value.ref ta1, Value.ref ta2, Value.ref ta3] = kv at T5 hK
    have hkl : kv.length ≤ 20 := by rw [← hkv]; simp
    refine' s_ListComp (s := s) (E := fun _ _ => False) ?_ ?hclos ?hcell ?hkind ?hnames
    walk_at "comp sides"
    repeat' walk1
    refine fam_comp (s := s) (L := L) famF1 rA (by assumption) hev5 hys5 ?_ ?_
    · intro C i a t0 t1 t2 t3 g₃ m₃ tl₃ h₃ t₃ hi x₃ hrow hl T8
      have G3 := G5.up x₃
      repeat' walk1
      exact ⟨rfl, _, _, rfl, T8⟩
    intro g6 h6 t6 D6 vs6 d6 x6 hvs6 T6 _
    clear T5
    have G6 := G5.up x6
    repeat' walk1
    rename At g6 _ _ ((D6, _) :: _) _ => TN
    obtain ⟨g6', z6, TN, fD6⟩ := TN.freeze
    have hK := (hK.up (x6.tr z6)).snoc (famAt_list hvs6 fD6)
    have hev6 := isList_up (x6.tr z6) hev5
    have hys6 := hys5.up (x6.tr z6)
    have G6 := G6.up z6
    refine' s_ListComp (s := s) (E := fun _ _ => False) ?_ ?hclos ?hcell ?hkind ?hnames
    walk_at "comp sides"
    repeat' walk1
    refine fam_comp (s := s) (L := L) famF2 rA (by assumption) hev6 hys6 ?_ ?_
    · intro C i a t0 t1 t2 t3 g₃ m₃ tl₃ h₃ t₃ hi x₃ hrow hl T8
      have G3 := G6.up x₃
      repeat' walk1
      exact ⟨rfl, _, _, rfl, T8⟩
    intro g7 h7 t7 D7 vs7 d7 x7 hvs7 T7 _
    clear T6
    have G7 := G6.up x7
    repeat' walk1
    rename At g7 _ _ ((D7, _) :: _) _ => TN
    obtain ⟨g7', z7, TN, fD7⟩ := TN.freeze
    have hK := (hK.up (x7.tr z7)).snoc (famAt_list hvs7 fD7)
    have hev7 := isList_up (x7.tr z7) hev6
    have hys7 := hys6.up (x7.tr z7)
    have G7 := G7.up z7
    refine' s_ListComp (s := s) (E := fun _ _ => False) ?_ ?hclos ?hcell ?hkind ?hnames
    walk_at "comp sides"
    repeat' walk1
    refine fam_comp (s := s) (L := L) famF3 rA (by assumption) hev7 hys7 ?_ ?_
    · intro C i a t0 t1 t2 t3 g₃ m₃ tl₃ h₃ t₃ hi x₃ hrow hl T8
      have G3 := G7.up x₃
      repeat' walk1
      refine s_sum (ns := [bitI i 0, bitI i 1, bitI i 2, bitI i 3]) rA.hh T8 (isList_up T8.keep hl) (.cons _ _ (.cons _ _ (.cons _ _ (.cons _ _ .nil)))) fun h4 tk4 t4 T9 => ?_
      repeat' walk1
      exact ⟨rfl, _, _, rfl, T9⟩
    intro g8 h8 t8 D8 vs8 d8 x8 hvs8 T8 _
    clear T7
    have G8 := G7.up x8
    repeat' walk1
    rename At g8 _ _ ((D8, _) :: _) _ => TN
    obtain ⟨g8', z8, TN, fD8⟩ := TN.freeze
    have hK := (hK.up (x8.tr z8)).snoc (famAt_list hvs8 fD8)
    have hev8 := isList_up (x8.tr z8) hev7
    have hys8 := hys7.up (x8.tr z8)
    have G8 := G8.up z8
    refine' s_ListComp (s := s) (E := fun _ _ => False) ?_ ?hclos ?hcell ?hkind ?hnames
    walk_at "comp sides"
    repeat' walk1
    refine fam_comp (s := s) (L := L) famF4 rA (by assumption) hev8 hys8 ?_ ?_
    · intro C i a t0 t1 t2 t3 g₃ m₃ tl₃ h₃ t₃ hi x₃ hrow hl T8
      have G3 := G8.up x₃
      repeat' walk1
      · rename_i c1 c2
        exact ⟨by simp [famF4, c1, c2], _, _, rfl, T8⟩
      · rename_i c1 c2
        exact ⟨by simp [famF4, c2], _, _, rfl, T8⟩
      · rename_i c1
        exact ⟨by simp [famF4, c1], _, _, rfl, T8⟩
    intro g9 h9 t9 D9 vs9 d9 x9 hvs9 T9 _
    clear T8
    have G9 := G8.up x9
    repeat' walk1
    rename At g9 _ _ ((D9, _) :: _) _ => TN
    obtain ⟨g9', z9, TN, fD9⟩ := TN.freeze
    have hK := (hK.up (x9.tr z9)).snoc (famAt_list hvs9 fD9)
    have hev9 := isList_up (x9.tr z9) hev8
    have hys9 := hys8.up (x9.tr z9)
    have G9 := G9.up z9
    refine' s_ListComp (s := s) (E := fun _ _ => False) ?_ ?hclos ?hcell ?hkind ?hnames
    walk_at "comp sides"
    repeat' walk1
    refine fam_comp (s := s) (L := L) famF5 rA (by assumption) hev9 hys9 ?_ ?_
    · intro C i a t0 t1 t2 t3 g₃ m₃ tl₃ h₃ t₃ hi x₃ hrow hl T8
      have G3 := G9.up x₃
      repeat' walk1
      rename At g₃ _ _ _ _ => TS1
      rw [slice_mid] at TS1
      refine s_minL (s := s) (ns := [bitI i 1, bitI i 2]) rA.hh TS1 (mu_isL TS1 (.head _)) (.cons _ _ (.cons _ _ .nil)) (by simp) fun h4 M4 t4 tk4 T9 hM1 hM2 => ?_
      have eM4 := min_pair hM1 hM2
      subst eM4
      repeat' walk1
      · rename_i c1 _ _ _
        rename At g₃ _ _ _ _ => TS2
        rw [slice_mid] at TS2
        refine s_maxL (s := s) (ns := [bitI i 1, bitI i 2]) rA.hh TS2 (mu_isL TS2 (.head _)) (.cons _ _ (.cons _ _ .nil)) (by simp) fun h5 M5 t5 tk5 T10 hM1 hM2 => ?_
        have eM5 := max_pair hM1 hM2
        subst eM5
        repeat' walk1
        · rename_i c2
          exact ⟨by simp only [famF5, decide_eq_true c1, decide_eq_true c2, Bool.and_self], _, _, rfl, T10.sub (by walk_at "sublist")⟩
        · rename_i c2
          exact ⟨by simp only [famF5, decide_eq_false c2, Bool.and_false], _, _, rfl, T10.sub (by walk_at "sublist")⟩
      · rename_i c1
        exact ⟨by simp only [famF5, decide_eq_false c1, Bool.false_and], _, _, rfl, T9.sub (by walk_at "sublist")⟩
    intro g10 h10 t10 D10 vs10 d10 x10 hvs10 T10 _
    clear T9
    have G10 := G9.up x10
    repeat' walk1
    rename At g10 _ _ ((D10, _) :: _) _ => TN
    obtain ⟨g10', z10, TN, fD10⟩ := TN.freeze
    have hK := (hK.up (x10.tr z10)).snoc (famAt_list hvs10 fD10)
    have hev10 := isList_up (x10.tr z10) hev9
    have hys10 := hys9.up (x10.tr z10)
    have G10 := G10.up z10
    refine' s_ListComp (s := s) (E := fun _ _ => False) ?_ ?hclos ?hcell ?hkind ?hnames
    walk_at "comp sides"
    repeat' walk1
    refine fam_comp (s := s) (L := L) famF6 rA (by assumption) hev10 hys10 ?_ ?_
    · intro C i a t0 t1 t2 t3 g₃ m₃ tl₃ h₃ t₃ hi x₃ hrow hl T8
      have G3 := G10.up x₃
      repeat' walk1
      · rename_i c1 _ _ _ _ _ _
        rename At g₃ _ _ _ _ => TS1
        rw [slice_mid] at TS1
        refine s_neD (s := s) (da := .list ([bitI i 1, bitI i 2].map .int)) (db := .list (([1, 1] : List Int).map .int)) (Rd.isL (mu_isL TS1 (.tail _ (.head _))) (RdA.ints (.cons _ _ (.cons _ _ .nil)))) (Rd.isL (mu_isL TS1 (.head _)) (RdA.ints (.cons _ _ (.cons _ _ .nil)))) (lay_ints _) (lay_ints _) (depth_ints _) (by have := rA.hu; omega) ?_
        rw [eqv_ints]
        repeat' walk1
        · rename_i c2
          exact ⟨by simp only [famF6, decide_eq_true c2, Bool.not_true, Bool.and_false], _, _, rfl, TS1.sub (by walk_at "sublist")⟩
        · rename_i c2
          exact ⟨by simp only [famF6, decide_eq_false c2, Bool.not_false, Bool.and_true, c1]; rfl, _, _, rfl, TS1.sub (by walk_at "sublist")⟩
      · rename_i c1
        exact ⟨by simp [famF6, c1], _, _, rfl, T8⟩
    intro g11 h11 t11 D11 vs11 d11 x11 hvs11 T11 _
    clear T10
    have G11 := G10.up x11
    repeat' walk1
    rename At g11 _ _ ((D11, _) :: _) _ => TN
    obtain ⟨g11', z11, TN, fD11⟩ := TN.freeze
    have hK := (hK.up (x11.tr z11)).snoc (famAt_list hvs11 fD11)
    have hev11 := isList_up (x11.tr z11) hev10
    have hys11 := hys10.up (x11.tr z11)
    have G11 := G11.up z11
    refine' s_ListComp (s := s) (E := fun _ _ => False) ?_ ?hclos ?hcell ?hkind ?hnames
    walk_at "comp sides"
    repeat' walk1
    refine fam_comp (s := s) (L := L) famF7 rA (by assumption) hev11 hys11 ?_ ?_
    · intro C i a t0 t1 t2 t3 g₃ m₃ tl₃ h₃ t₃ hi x₃ hrow hl T8
      have G3 := G11.up x₃
      repeat' walk1
      · rename_i c1 _ _ _ _ _ _
        rename At g₃ _ _ _ _ => TS1
        rw [slice_mid] at TS1
        refine s_neD (s := s) (da := .list ([bitI i 1, bitI i 2].map .int)) (db := .list (([0, 0] : List Int).map .int)) (Rd.isL (mu_isL TS1 (.tail _ (.head _))) (RdA.ints (.cons _ _ (.cons _ _ .nil)))) (Rd.isL (mu_isL TS1 (.head _)) (RdA.ints (.cons _ _ (.cons _ _ .nil)))) (lay_ints _) (lay_ints _) (depth_ints _) (by have := rA.hu; omega) ?_
        rw [eqv_ints]
        repeat' walk1
        · rename_i c2
          exact ⟨by simp only [famF7, decide_eq_true c2, Bool.not_true, Bool.and_false], _, _, rfl, TS1.sub (by walk_at "sublist")⟩
        · rename_i c2
          exact ⟨by simp only [famF7, decide_eq_false c2, Bool.not_false, Bool.and_true, c1]; rfl, _, _, rfl, TS1.sub (by walk_at "sublist")⟩
      · rename_i c1
        exact ⟨by simp [famF7, c1], _, _, rfl, T8⟩
    intro g12 h12 t12 D12 vs12 d12 x12 hvs12 T12 _
    clear T11
    have G12 := G11.up x12
    repeat' walk1
    rename At g12 _ _ ((D12, _) :: _) _ => TN
    obtain ⟨g12', z12, TN, fD12⟩ := TN.freeze
    have hK := (hK.up (x12.tr z12)).snoc (famAt_list hvs12 fD12)
    have hev12 := isList_up (x12.tr z12) hev11
    have hys12 := hys11.up (x12.tr z12)
    have G12 := G12.up z12
    exact k kl _ _ _ _ _ (((((((((x₁.tr x2).tr y25).tr (x6.tr z6)).tr (x7.tr z7)).tr (x8.tr z8)).tr (x9.tr z9)).tr (x10.tr z10)).tr (x11.tr z11)).tr (x12.tr z12)) hK TN.mem
theorem c_fam {Q : Value → Shared → Prop} (r : Room A 8 600) (G : Gl w g) (T : At g L m mu h)
   (k : ∀ D vs e g' h' t', Ext g g' → FamsAre g' vs famsN → At g' L m ((D, lst vs e) :: mu) h' → Q (.ref D) (Sh s h' t')) :
   wpAny (model prog w) A (call (.ref 298) []) Q E (Sh s h t) :=
  let ⟨oL, n, M⟩ := T
  wpAny_call (fam_spec r G M fun D vs e g' h' t' x f M' => k D vs e g' h' t' x f ⟨oL, n, M'.perm (.swap ..)⟩)
end
section
variable {prog : Program} {w : World} {A : Around} {s : Shared} {g h : Heap} {t : Nat} {mu tl : Led} {R : Result → Shared → Prop} {L : Addr} {m : Loc} {E : Value → Shared → Prop}
theorem dict_isd : isSubtype (.type "dict") (.type "dict") = pure true := by rw [isSubtype_type]; kernel_rfl
theorem dict_iter : typeLookup (.type "dict") "__iter__" = pure (some (.builtin "dict.__iter__")) := by rw [typeLookup_type, builtinLookup_eq_fast]; kernel_rfl
theorem wp_merge {d D : Addr} {nm : Str} {tk : Tok} {v : Value} {n : Nat} {Q : Unit → Shared → Prop} (hd : h.get? d = some (dictOf [] 0)) (hD : h.get? D = some (dictOf [⟨PyData.keyHash w.params nm, .str nm tk, v⟩] n)) (hne : D ≠ d) (hsys : (D == sysModules) = false)
    (k : ∀ h', Heap.SameBut d h h' → h'.get? d = some (dictOf [⟨PyData.keyHash w.params nm, .str nm tk, v⟩] 1) → Q () (Sh s h' t)) : wpAny (model prog w) A (mergeMapping d (.ref D) true) Q E (Sh s h t) := by
  have hT : (Sh s h t).TypeIs (.ref D) "dict" := ⟨_, hD, rfl⟩
  unfold mergeMapping
  refine wpAny_bind (wpAny_isInstance hT dict_isd ?_)
  rw [if_pos rfl]
  refine wpAny_bind (wpAny_specialOf hT dict_iter ?_)
  show wpAny _ _ (if (D == sysModules) = true then _ else _) _ _ _
  rw [hsys, if_neg Bool.false_ne_true]
  refine wpAny_bind (wpAny_dictEntries hd rfl ?_)
  show wpAny _ _ (dictEntries D >>= _) _ _ _
  refine wpAny_bind (wpAny_dictEntries hD rfl ?_)
  refine wpAny_bind (wpAny_of_eq (a := PUnit.unit) rfl ?_)
  refine wpAny_bind (wpAny_dictEntries hD rfl ?_)
  refine wpAny_bind (wpAny_dictEpoch hD rfl ?_)
  refine wpAny_bind ?_
  show wpAny _ _ (forIn [0] _ _) _ _ _
  rw [List.forIn_cons]
  refine wpAny_bind (wpAny_bind (wpAny_dictEntries hD rfl ?_))
  dsimp only
  show wpAny _ _ (holding _ (dictFind d _ _ >>= _) >>= _) _ _ _
  have fnd : ∀ {Q : Option Nat → Shared → Prop}, Q none (Sh s h t) → wpAny (model prog w) A (dictFind d (.str nm tk) (PyData.keyHash w.params nm)) Q E (Sh s h t) := fun q =>
    wpAny_dictFind_of (knd := PySem.strKind prog w) (k := nm) (strKind_is prog w nm tk) hd rfl (fun e he => by simp at he) (by simpa using q)
  refine wpAny_bind (wpAny_holding (wpAny_bind (fnd ?_)))
  show wpAny _ _ (dictPut d (PyData.keyHash w.params nm) (.str nm tk) v) _ _ _
  unfold dictPut
  refine wpAny_bind (fnd ?_)
  refine wpAny_updateDictKeys (s := Sh s h t) hd rfl ?_
  have hsb : Heap.SameBut d h (h.update d (Obj.mapDictKeys fun x => x.push ⟨PyData.keyHash w.params nm, .str nm tk, v⟩)) := Heap.SameBut.update ..
  refine wpAny_bind (wpAny_dictEpoch (o := dictOf [⟨PyData.keyHash w.params nm, .str nm tk, v⟩] n) ((hsb.2 D hne).trans hD) rfl ?_)
  have enn : (n != n) = false := by simp
  rw [enn]
  refine wpAny_pure ?_
  dsimp only
  rw [List.forIn_nil]
  refine wpAny_pure (wpAny_pure (k _ hsb ?_))
  exact Heap.get?_update_self _ hd rfl
theorem s_callStar {q f D : Addr} {self v0 : Value} {nm : Str} {tk : Tok} {v : Value} {n : Nat} {pos : Pos} {ax ad : Sem Value} {Q : Value → Shared → Prop} (G : Gl w g) (T : At g L m mu h) (hq : h.get? q = some (methodObj (.ref f) self)) (hf : fnIn (hd.heap_39 w.params) f = true)
    (hD : h.get? D = some (dictOf [⟨PyData.keyHash w.params nm, .str nm tk, v⟩] n)) (hsys : (D == sysModules) = false)
    (kx : ∀ {Q : Value → Shared → Prop}, Q v0 (Sh s h t) → wpAny (model prog w) A ax Q E (Sh s h t))
    (kd : ∀ {Q : Value → Shared → Prop} {h' : Heap}, (∀ b o, h.get? b = some o → h'.get? b = some o) → At g L m mu h' → Q (.ref D) (Sh s h' t) → wpAny (model prog w) A ad Q E (Sh s h' t))
    (k : ∀ h', (∀ b o, h.get? b = some o → h'.get? b = some o) → At g L m mu h' → wpAny (model prog w) A (call (.ref q) [v0] [(nm, v)]) Q E (Sh s h' t)) :
    wpAny (model prog w) A (callWith pos (.ref q) [] [(false, ax)] [(none, ad)]) Q E (Sh s h t) := by
  unfold callWith
  refine wpAny_bind (wpAny_holding ?_)
  unfold evalArgs
  show wpAny _ _ (spliced [(false, ax)] >>= _) _ _ _
  refine wpAny_bind (Calls.spliced_cons (kx (Calls.spliced_nil ?_)))
  refine wpAny_bind (wpAny_pure ?_)
  refine wpAny_holding ?_
  show wpAny _ _ (mergedKeywords (Value.ref q) [(none, ad)] >>= _) _ _ _
  refine wpAny_bind ?_
  unfold mergedKeywords
  refine wpAny_bind (wpAny_alloc ?_)
  generalize hd' : (Sh s h t).heap.objs.size = d
  have hdv : h.objs.size = d := hd'
  have x1 : ∀ b o, h.get? b = some o → (h.push (dictOf [] 0)).get? b = some o := fun b o e => Heap.get?_push_of_some _ e
  have hdn : ∀ b o, h.get? b = some o → b ≠ d := fun b o e q => absurd (Heap.lt_size e) (by rw [q, ← hdv]; exact Nat.lt_irrefl _)
  have hdd : (h.push (dictOf [] 0)).get? d = some (dictOf [] 0) := by rw [← hdv]; exact Heap.get?_push_size _ rfl
  have T1 : At g L m mu (h.push (dictOf [] 0)) := T.ext x1
  refine wpAny_bind (wpAny_holding ?_)
  show wpAny _ _ (forIn [(none, ad)] ([] : List (Str × Sem Value)) _ >>= _) _ _ _
  rw [List.forIn_cons]
  refine wpAny_bind (wpAny_bind ?_)
  show wpAny _ _ (pure PUnit.unit >>= _) _ _ _
  refine wpAny_bind (wpAny_pure (wpAny_bind (kd x1 T1 ?_)))
  refine wpAny_bind (wpAny_onRaise (wpAny_holding (wpAny_tryCatch (wpAny_onRaise (wp_merge hdd (x1 _ _ hD) (hdn _ _ hD) hsys fun h2 hsb e2 => ?_)))))
  have x2 : ∀ b o, h.get? b = some o → h2.get? b = some o := fun b o e => (hsb.2 b (hdn b o e)).trans (x1 b o e)
  have T2 : At g L m mu h2 := T.ext x2
  refine wpAny_pure ?_
  dsimp only
  rw [List.forIn_nil]
  refine wpAny_pure ?_
  show wpAny _ _ (pure PUnit.unit) _ _ _
  refine wpAny_pure (wpAny_pure ?_)
  show wpAny _ _ (pure [v0] >>= _) _ _ _
  refine wpAny_bind (wpAny_pure (wpAny_bind (wpAny_holding ?_)))
  unfold keywordsIn
  refine wpAny_bind (wpAny_dictEntries e2 rfl ?_)
  refine wpAny_bind (wpAny_of_eq (a := [(nm, v)]) rfl ?_)
  refine wpAny_pure (wpAny_pure ?_)
  refine wpAny_bind (wpAny_standAt ?_)
  obtain ⟨k', hk', Lk⟩ := keeps_M (M := model prog w) hf h2 ⟨x2 _ _ hq, G.X.keeps T2.keep⟩
  refine wpAny_bind (Lk.here ?_)
  have fin : wpAny (model prog w) A (call (.ref q) [v0] [(nm, v)]) (fun r s' => wpAny (model prog w) A (holding [r] point >>= fun _ => pure r) Q E s') E (Sh s h2 t) :=
    wpAny_mono (k h2 x2 T2) (fun r s' q => wpAny_bind (wpAny_holding (wpAny_point (wpAny_pure q)))) fun _ _ x => x
  rcases hk' with rfl | rfl | rfl
  · refine wpAny_bind ?_
    unfold callMarked
    exact Calls.wpAny_keep fin
  · exact wpAny_bind (wpAny_operating fin)
  · exact wpAny_bind (wpAny_operating fin)
set_option maxHeartbeats 0 in
theorem gni_spec {q tb hl : Addr} {vs : List Value} {e : Nat} {rows : List (Str × Str)} {x : Str} {tx : Tok} {dv : Value}
   (r : Room A 6 400) (G : Gl w g) (T : At g L m mu h) (hq : (q, methodObj (.ref 131) (.ref tb)) ∈ mu) (hT : Tbl g tb hl) (hm : (hl, lst vs e) ∈ mu) (hr : RdA g vs (rows.map rowD)) (hrs : ∀ p ∈ rows, p.1.length ≤ 1000)
   (hx : okx (Txt.lower x) = true) (hx1 : x.length ≤ 1000) (hx2 : (Txt.lower x).length ≤ 1000)
   (k : ∀ v TT h' t', GetRes rows x dv v → At g L m ((TT, tup [v, v]) :: mu) h' → R (.ok (.ret (.ref TT))) (Sh s h' t')) :
   codeAny (model prog w) A (.call (.ref 226) ⟨[.str x tx, .ref q], [("default", dv)]⟩) R (Sh s h t) := by
  refine' r_enterKw (front := [("name_index", .str x tx), ("get_name", .ref q)]) (nm := "extrainfo") (ex := [("default", dv)]) r G T ?ho ?hcd ?hn ?hp ?hk1 ?hloc ?k ?hcell ?hco ?hgen ?hk
  case ho => k_is
  case hcd => k_is
  case hn => simp
  case hp => exact rfl
  case hk1 => exact fun _ => rfl
  case hloc => exact fun _ => locs rfl
  case hcell => decide
  case hco => exact rfl
  case hgen => exact rfl
  case hk => exact rfl
  intro A' L' D oL tk n h1 t1 hDm rA nL T1
  have T1 : At g L' _ ((D, dictOf [⟨PyData.keyHash w.params "default", .str "default" tk, dv⟩] n) :: (L, oL) :: mu) h1 := T1
  repeat' walk1
  have hq1 := T1.get (p := (q, methodObj (.ref 131) (.ref tb))) (.tail _ (.tail _ hq))
  have hD1 := T1.get (p := (D, dictOf [⟨PyData.keyHash w.params "default", .str "default" tk, dv⟩] n)) (.head _)
  refine s_callStar (s := s) (v0 := .str x tx) (nm := "default") (v := dv) G T1 hq1 ?hf hD1 hDm ?kx ?kd fun h2 x2 T2 => ?_
  case hf => k_is
  case kx =>
    intro Q' q'
    show wpAny _ _ (eval _ _) _ _ _
    repeat' walk1
    exact q'
  case kd =>
    intro Q' h' x' T' q'
    refine wpAny_bind ?_
    repeat' walk1
    exact wpAny_bind (wpAny_standAt (wpAny_pure q'))
  obtain ⟨oL', nL', M2⟩ := T2
  refine wpAny_call (method_call (s := Sh s h2 t1) (x2 _ _ hq1) (get_spec (args := ⟨[.ref tb, .str x tx], [("default", dv)]⟩) (.inr (.inr rfl)) (rA.le (by decide) (by decide)) G M2 hT (.tail _ (.tail _ (.tail _ hm))) hr hrs hx hx1 hx2 fun v h3 t3 M3 hv => ?_))
  have T3 : At g L' _ ((D, dictOf [⟨PyData.keyHash w.params "default", .str "default" tk, dv⟩] n) :: (L, oL) :: mu) h3 := ⟨oL', nL', M3⟩
  repeat' walk1
  rename_i TT hN TN
  refine k v TT _ _ hv ⟨oL, nL, ?_⟩
  exact (TN.mem.sub (by walk_at "sublist")).perm (.swap ..)
theorem c_gni {q tb hl : Addr} {vs : List Value} {e : Nat} {rows : List (Str × Str)} {x : Str} {tx : Tok} {dv : Value} {Q : Value → Shared → Prop}
   (r : Room A 6 400) (G : Gl w g) (T : At g L m mu h) (hq : (q, methodObj (.ref 131) (.ref tb)) ∈ mu) (hT : Tbl g tb hl) (hm : (hl, lst vs e) ∈ mu) (hr : RdA g vs (rows.map rowD)) (hrs : ∀ p ∈ rows, p.1.length ≤ 1000)
   (hx : okx (Txt.lower x) = true) (hx1 : x.length ≤ 1000) (hx2 : (Txt.lower x).length ≤ 1000)
   (k : ∀ v TT h' t', GetRes rows x dv v → At g L m ((TT, tup [v, v]) :: mu) h' → Q (.ref TT) (Sh s h' t')) :
   wpAny (model prog w) A (call (.ref 226) [.str x tx, .ref q] [("default", dv)]) Q E (Sh s h t) :=
  wpAny_call (gni_spec r G T hq hT hm hr hrs hx hx1 hx2 fun v TT h' t' hv T' => k v TT h' t' hv T')
theorem s_tblGet {tb hl : Addr} {ex : Bool} {Q : Value → Shared → Prop} (G : Gl w g) (T : At g L m mu h) (hT : Tbl g tb hl)
   (k : ∀ q h' t', At g L m ((q, methodObj (.ref 131) (.ref tb)) :: mu) h' → Q (.ref q) (Sh s h' t')) : wpAny (model prog w) A (getAttr (.ref tb) "get" ex) Q E (Sh s h t) := by
  obtain ⟨dx, hsh, tk, n, I⟩ := hT.inst T.keep
  have X := G.X.keeps T.keep
  have hg : plainGet (hd.heap_39 w.params) 184 "get" = true := by k_is
  have hh : hasDictIn (hd.heap_39 w.params) 184 = true := by k_is
  have ha : findIn (hd.heap_39 w.params) (.ref 184) "get" = some (some (.ref 131)) := by k_is
  have hf : isFn (hd.heap_39 w.params) (.ref 131) = true := by k_is
  have hgf : specialIn (hd.heap_39 w.params) (.ref 131) "__get__" = some (some (.builtin "function.__get__")) := by k_is
  have ht : takesIn (hd.heap_39 w.params) (.ref 131) = some false := by k_is
  have hne : Str.ofString "_headers" ≠ Str.ofString "get" := by decide +kernel
  have hl' : lookIn "get" (dictOf [⟨hsh, .str "_headers" tk, .ref hl⟩] n) = some none := by
    rw [lookIn_dict]
    simp [getL, Value.isStr, DictEntry.refKey, hne]
  exact get_bind X I (plainGet_of hg).1 (findObj_fn hh ha hgf ht (by decide +kernel) hl') (plainGet_of hg).2 (wpAny_call (fn_get (s := { (Sh s h t) with toks := t + 1 }) X (beq_iff_eq.mp hf) (handed_on rfl (k h.objs.size _ _ (T.push (methodObj (.ref 131) (.ref tb)) rfl)))))
end
section
variable {prog : Program} {w : World} {A : Around} {s : Shared} {g h : Heap} {t : Nat} {mu tl pre : Led} {R : Result → Shared → Prop} {L : Addr} {m : Loc} {E : Value → Shared → Prop} {env : Env} {c : Addr} {o : Obj}
theorem c_again {ta va : Addr} {tvs yvs : List Value} {told fs : List Nat} {ys : List Str} {Q : Value → Shared → Prop}
   (r : Room A 8 600) (G : Gl w g) (T : At g L m mu h) (ht : g.IsList ta tvs.toArray) (hti : IntsAre tvs (told.map (fun (n : Nat) => (n : Int)))) (ht4 : told.length ≤ 4)
   (hv : g.IsList va yvs.toArray) (hys : StrsAre yvs ys) (hok : ∀ i x, ys[i]? = some x → StepOk told fs i x) (hlen : ys.length = fs.length) (h16 : ys.length ≤ 16)
   (k : ∀ D vs e h' t', IntsAre vs (fs.map (fun (n : Nat) => (n : Int))) → At g L m ((D, lst vs e) :: mu) h' → Q (.ref D) (Sh s h' t')) :
   wpAny (model prog w) A (call (.ref 293) [.ref ta, .ref va]) Q E (Sh s h t) :=
  let ⟨oL, n, M⟩ := T
  wpAny_call (again_spec r G M ht hti ht4 hv hys hok hlen h16 fun D vs e h' t' hI M' => k D vs e h' t' hI ⟨oL, n, M'.perm (.swap ..)⟩)
theorem r_enterCF {R : Result → Shared → Prop} {name qual : Str} {params : Arguments} {body : List Stmt} {scope : Scope} {dV kV doc pm cdv ct oc : Value} {an od : Option Addr} {osl : Array (Option Value)} {f : Addr} {args : Args} {binds : List (Str × Value)} {rn ru : Nat}
    (r : Room A (rn + 1) (ru + 3)) (G : Gl w g) (M : Mem g mu h) (ho : (hd.heap_39 w.params).lookup f = some ⟨oc, od, .func (fnOf name qual params body scope dV kV doc pm an cdv ct), osl⟩) (hcd : codeIn (hd.heap_39 w.params) cdv qual = true)
    (hbind : BindsTo (Sh s h t) (fnOf name qual params body scope dV kV doc pm an cdv ct) args binds)
    (hkind : (binds.all fun y => scope.names.lookup y.1 == some .local || scope.names.lookup y.1 == some .cell) = true) (hnd : ((cellsFrom 0 scope.names []).map (·.1)).Nodup)
    (k : ∀ L h' t' cells, Room (A.deeper (envOfC qual scope L f cdv)) rn ru → CellsAre (bindC (envOfC qual scope L f cdv).kindOf binds fun _ => none) (cellsFrom (L + 1) scope.names []) cells →
        At g L (bindL (envOfC qual scope L f cdv).kindOf binds fun _ => none) (cells ++ mu) h' → wpAny (model prog w) (A.deeper (envOfC qual scope L f cdv)) (execs body (envOfC qual scope L f cdv))
        (fun fl s' => R (.ok (.ret (match fl with | .ret v => v | _ => .none))) s') (fun _ _ => False) (Sh s h' t'))
    (hco : scope.isCoroutine = false) (hgen : scope.isGenerator = false) (hk : scope.kind = .function) :
    codeAny (model prog w) A (.call (.ref f) args) R (Sh s h t) := by
  have hroom : A.depth < recursionLimit := by have := r.hd; omega
  refine codeAny_call_function hroom ((G.X.keeps M.keep) _ _ ho) rfl hco hgen rfl (codeRec_of (G.X.keeps M.keep) hcd) (hbind _ _ _ _ ?_)
  refine wpAny_newFunctionEnv_cells hk (kindsX hkind _) fun env' he s' x => ?_
  subst he
  refine ⟨(G.lim.keeps M.keep).keeps x.toInCall.keep, codeAny_func ?_⟩
  obtain ⟨h₁, tk, rfl, _⟩ := x.done
  have hk₁ := x.toInCall.keep
  obtain ⟨cells, Y, N⟩ := cells_mk (h := h₁) fun n c hm => x.cell n c (lookup_of_mem_nodup (cellsFrom_names scope.names 0 (h.objs.size + 1) [] [] rfl ▸ hnd) hm)
  have ab : ∀ p ∈ cells, h.objs.size < p.1 := fun p hp => by
    have : p.1 ∈ (cellsFrom (h.objs.size + 1) scope.names []).map (·.2) := (cells_addrs Y) ▸ List.mem_map_of_mem hp
    obtain ⟨⟨n, c⟩, hm, e⟩ := List.mem_map.mp this
    have := x.above n c hm
    exact e ▸ this
  obtain ⟨o, e, n⟩ := LCg.ns_obj x.toInCall.ns
  have T : At g h.objs.size (bindL (envOfC qual scope h.objs.size f cdv).kindOf binds fun _ => none) (cells ++ mu) h₁ := ⟨o, n, ⟨M.keep.tr hk₁, fun p hp => ?_, ?_⟩⟩
  · exact wpAny_mono (k _ h₁ _ cells (r.deeper _) Y T) (fun _ _ x => x) fun _ _ x => x.elim
  · rcases List.mem_cons.mp hp with rfl | hp
    · exact ⟨e, M.fresh⟩
    · rcases List.mem_append.mp hp with hp | hp
      · refine ⟨N p hp, ?_⟩
        cases q : g.get? p.1 with
        | none => rfl
        | some o => exact absurd (Heap.lt_size (M.keep _ _ q)) (Nat.not_lt.mpr (Nat.le_of_lt (ab p hp)))
      · exact ⟨hk₁ _ _ (M.at_ p hp).1, (M.at_ p hp).2⟩
  · rw [List.map_cons, List.map_append]
    refine List.nodup_cons.mpr ⟨fun hm => ?_, List.nodup_append.mpr ⟨?_, M.nd, ?_⟩⟩
    · rcases List.mem_append.mp hm with hm | hm
      · obtain ⟨p, hp, e⟩ := List.mem_map.mp hm
        exact absurd (ab p hp) (e ▸ Nat.lt_irrefl _)
      · obtain ⟨p, hp, e⟩ := List.mem_map.mp hm
        exact absurd (M.lt hp) (e ▸ Nat.lt_irrefl _)
    · rw [(cells_addrs Y)]
      exact List.pairwise_map.mpr (x.apart.imp fun h => h)
    · rintro a ha b hb rfl
      obtain ⟨p, hp, rfl⟩ := List.mem_map.mp ha
      obtain ⟨q, hq, e⟩ := List.mem_map.mp hb
      have := M.lt hq
      rw [e] at this
      exact absurd this (Nat.not_lt.mpr (Nat.le_of_lt (ab p hp)))

theorem r_storePF {x : Str} {v : Value} {v₀ : Option Value} {Q : Unit → Shared → Prop} (T : At g L m (pre ++ (c, o) :: tl) h) (hc : env.cells.lookup x = some c) (hv : o.data = .cell v₀)
    (k : ∀ g' h', Ext g g' → g'.IsCell c (some v) → At g' L m (pre ++ tl) h' → Q () (Sh s h' t))
    (hk : env.scope.kind = .function := by rfl) (hl : env.kindOf x = some .cell := by rfl) : wpAny (model prog w) A (storeName env x v) Q E (Sh s h t) := by
  refine r_storeP T hc hv (fun o' h' d' T' => ?_) hk hl
  obtain ⟨g', x', T'', e'⟩ := (T'.perm (show ((c, o') :: (pre ++ tl)).Perm (pre ++ (c, o') :: tl) from List.perm_middle.symm)).freeze
  exact k g' h' x' ⟨o', e', d'⟩ T''
end
noncomputable def shiftOf (kind : Nat) : Nat := [0, 6, 8, 29].getD kind 0
noncomputable def fourOf (kind : Nat) : Str := [Str.ofString "OPTIMIZED NEWLOCALS VARARGS VARKEYWORDS", Str.ofString "NOFREE COROUTINE ITERABLE_COROUTINE ASYNC_GENERATOR", Str.ofString "ITERABLE_COROUTINE ASYNC_GENERATOR 0x400 0x800", Str.ofString "0x20000000 0x40000000 0x80000000 0x100000000"].getD kind (Str.ofString "")
noncomputable def flagsOf (kind m : Nat) : List Str := pfGo 32 0 ((m : Int) * 2 ^ shiftOf kind) []
noncomputable def wordK (kind m : Nat) : Str := Txt.join (Str.ofString ", ") (flagsOf kind m)
noncomputable def wordsK (kind : Nat) : List Str := (List.range 16).map (wordK kind)
noncomputable def bitsOf (kind m : Nat) : List Str := ((List.range 4).filter fun b => m / 2 ^ b % 2 == 1).filterMap fun b => (Txt.split (fourOf kind) (Str.ofString " "))[b]?
noncomputable def saidOf (kind m : Nat) : Str := Txt.join (Str.ofString ", ") (if bitsOf kind m = [] then [Str.ofString "0x0"] else bitsOf kind m)
theorem four_len : ∀ kind < 4, (Txt.split (fourOf kind) (Str.ofString " ")).length = 4 ∧ ((Txt.split (fourOf kind) (Str.ofString " ")).all fun x => decide (x.length ≤ 100)) = true := by decide +kernel
theorem flags_fit : ∀ kind < 4, ∀ m < 16, ((flagsOf kind m).map (·.length)).sum + (flagsOf kind m).length * 2 ≤ 16777216 := by decide +kernel
theorem bits_fit : ∀ kind < 4, ∀ m < 16, ((bitsOf kind m).map (·.length)).sum + (bitsOf kind m).length * (Str.ofString ", ").length ≤ 16777216 := by decide +kernel
theorem words_strok : ∀ kind < 4, ((wordsK kind).all PyData.strOk) = true := by decide +kernel
theorem said_eq : ∀ kind < 4, ∀ m < 16, saidOf kind m = wordK kind m := by decide +kernel
theorem words_oks : ∀ kind < 4, ((wordsK kind).all fun x => okx x && okx (Txt.lower x) && decide (x.length ≤ 1000) && decide ((Txt.lower x).length ≤ 1000)) = true := by decide +kernel
theorem words_nd : ∀ kind < 4, ((wordsK kind).map Txt.lower).Nodup := by decide +kernel
theorem words_ok {kind : Nat} (hk : kind < 4) : WordsOk (wordsK kind) where
  len := by unfold wordsK; simp
  ok := fun x hx => by
    have := List.all_eq_true.mp (words_oks kind hk) x hx
    simp only [Bool.and_eq_true, decide_eq_true_eq] at this
    exact ⟨this.1.1.1, this.1.1.2, this.1.2, this.2⟩
  nd := words_nd kind hk
noncomputable def like (c d : Nat) : Prop := c % 64 = d % 64 ∧ c / 64 % 2 = d / 64 % 2
noncomputable def LikeL : List Nat → List Nat → Prop
  | [], [] => True
  | c :: cs, d :: ds => like c d ∧ LikeL cs ds
  | _, _ => False
noncomputable def pvR : Option (Nat × List Nat) → Option (Nat × List Nat) → Prop
  | none, none => True
  | some (v, l), some (v', l') => v = v' ∧ LikeL l l'
  | _, _ => False
theorem pvGo_like : ∀ (v c d : Nat) (cs ds : List Nat), like c d → LikeL cs ds → pvR (pvGo v c cs) (pvGo v d ds)
  | v, c, d, [], [], h, _ => by
    unfold pvGo
    rw [h.2]
    split <;> simp [pvR, LikeL]
  | v, c, d, x :: cs, y :: ds, h, hl => by
    unfold pvGo
    rw [h.2]
    split
    · rw [hl.1.1]; exact pvGo_like _ x y cs ds hl.1 hl.2
    · exact ⟨rfl, hl⟩
theorem pv_like : ∀ (cs ds : List Nat), LikeL cs ds → pvR (pv cs) (pv ds)
  | [], [], _ => trivial
  | c :: cs, d :: ds, h => by
    show pvR (pvGo (c % 64) c cs) (pvGo (d % 64) d ds)
    rw [h.1.1]
    exact pvGo_like _ c d cs ds h.1 h.2
theorem pvAll_like : ∀ (n : Nat) (cs ds : List Nat), LikeL cs ds → pvAll n cs = pvAll n ds
  | 0, _, _, _ => rfl
  | n + 1, cs, ds, h => by
    have := pv_like cs ds h
    unfold pvAll
    revert this
    cases pv cs with
    | none => cases pv ds with
      | none => exact fun _ => rfl
      | some _ => exact fun q => q.elim
    | some a => cases pv ds with
      | none => exact fun q => q.elim
      | some b =>
        rintro ⟨e, q⟩
        obtain ⟨v, l⟩ := a
        obtain ⟨v', l'⟩ := b
        subst e
        dsimp only
        rw [pvAll_like n l l' q]
noncomputable def famP (n0 n1 : Nat) (fam : List Nat) : Bool := fam.any (· == n0 % 16) && fam.any (· == n1 % 16)
noncomputable def famsK (n0 n1 : Nat) : List (List Nat) := famsN.filter (famP n0 n1)
noncomputable def outOf (n0 n1 m : Nat) : List (List Nat) := (famsK n0 n1).filter fun fam => !fam.any (· == m)
noncomputable def dueP (n0 n1 m : Nat) : Bool := decide (outOf n0 n1 m = [])
noncomputable def dueN (n0 n1 : Nat) : List Nat := (List.range 16).filter (dueP n0 n1)
theorem any_castN (l : List Nat) (x : Nat) : ((l.map fun (n : Nat) => (n : Int)).any (· == (x : Int))) = l.any (· == x) := any_cast l x
section
variable {prog : Program} {w : World} {A : Around} {E : Value → Shared → Prop} {s : Shared} {g h : Heap} {t : Nat} {a : Addr} {ns : List Nat} {x : Nat} {u : Tok} {Q : Value → Shared → Prop}
theorem s_inFam (f : FamAt h (.ref a) ns) (q : Q (.bool (ns.any (· == x))) (Sh s h t)) : wpAny (model prog w) A (compareOp .In (.int (x : Nat) u) (.ref a)) Q E (Sh s h t) := by
  obtain ⟨a', vs, e, ht | hl, hi⟩ := f
  · cases e
    exact in_tuple_ints (s := Sh s h t) (by exact ht) (by simpa using hi) (by rw [any_castN]; exact q)
  · cases e
    exact s_inI hl hi (by rw [any_castN]; exact q)
theorem s_notInFam (f : FamAt h (.ref a) ns) (q : Q (.bool (!(ns.any (· == x)))) (Sh s h t)) : wpAny (model prog w) A (compareOp .NotIn (.int (x : Nat) u) (.ref a)) Q E (Sh s h t) := by
  obtain ⟨a', vs, e, ht | hl, hi⟩ := f
  · cases e
    exact notin_tuple_ints (s := Sh s h t) (by exact ht) (by simpa using hi) (by rw [any_castN]; exact q)
  · cases e
    exact s_notInI hl hi (by rw [any_castN]; exact q)
end
theorem FamAt.rd {g : Heap} {v : Value} {ns : List Nat} (f : FamAt g v ns) : ∃ d, Rd g v d ∧ d.canLay0 = true ∧ d.depth ≤ 1 := by
  obtain ⟨a, vs, rfl, ht | hl, hi⟩ := f
  · refine ⟨.tuple ((ns.map fun (n : Nat) => (n : Int)).map .int), ?_, ?_, ?_⟩
    · obtain ⟨o, ho, hc, n, hd⟩ := ht
      exact Rd.tup ho hc hd (by simpa using RdA.ints hi)
    · rw [PyData.canLay0]; exact lay_map _ _ fun _ _ => by rw [PyData.canLay0]
    · rw [PyData.depth]; exact Nat.succ_le_succ (depthAll_map _ 0 _ fun _ _ => by rw [PyData.depth]; exact Nat.le_refl _)
  · exact ⟨_, Rd.isL hl (RdA.ints hi), lay_ints _, depth_list _ 0 _ fun _ _ => by rw [PyData.depth]; exact Nat.le_refl _⟩
theorem FamsAre.rd {g : Heap} {vs : List Value} {nss : List (List Nat)} (f : FamsAre g vs nss) : ∃ ds, RdA g vs ds ∧ PyData.canLayAll0 ds = true ∧ PyData.depthAll ds ≤ 1 ∧ PyData.eqvAll ds [] = decide (nss = []) := by
  induction f with
  | nil => exact ⟨[], RdA.nil, by rw [PyData.canLayAll0], by rw [PyData.depthAll]; decide, by rw [PyData.eqvAll]; rfl⟩
  | cons a _ ih =>
    obtain ⟨d, r, c, e⟩ := a.rd
    obtain ⟨ds, q, c2, e2, _⟩ := ih
    exact ⟨d :: ds, RdA.cons' r q, by rw [PyData.canLayAll0, c, c2]; rfl, by rw [PyData.depthAll]; exact Nat.max_le.mpr ⟨e, e2⟩, by rw [PyData.eqvAll]; rfl⟩
noncomputable def letC (c : Nat) : Bool := Nat.ble 97 c && Nat.ble c 112
theorem toks_plain : (tokV.all fun p => p.1.cps.toList.all fun c => !letC c) = true := by decide +kernel
theorem tok_noLet {y : Str} {c : Nat} (hc : c ∈ y.cps.toList) (hl : letC c = true) : tokHas y = false := by
  unfold tokHas
  cases e : PySem.valueAt tokV y with
  | none => rfl
  | some v =>
    exfalso
    unfold PySem.valueAt at e
    obtain ⟨p, hp, rfl⟩ := Option.map_eq_some_iff.mp e
    have hk : p.1 = y := by simpa using List.find?_some hp
    have h1 := List.all_eq_true.mp toks_plain p (List.mem_of_find?_eq_some hp)
    have h2 := List.all_eq_true.mp h1 c (hk ▸ hc)
    rw [hl] at h2; cases h2
theorem tok0 {a : Nat} {l : List Nat} (h : letC a = true) (hm : a ∈ l) : tokHas ⟨l.toArray⟩ = false := tok_noLet (c := a) (by simpa using hm) h
theorem size_none {x : Str} {p : Nat} (h3 : tokHas (cutOf x p 3) = false) (h2 : tokHas (cutOf x p 2) = false) (h1 : tokHas (cutOf x p 1) = false) : sizeAt x p = 0 := by
  unfold sizeAt sizesOf
  simp [List.filter_cons, h1, h2, h3]
theorem size_1 {x : Str} {p : Nat} (h3 : tokHas (cutOf x p 3) = false) (h2 : tokHas (cutOf x p 2) = false) (h1 : tokHas (cutOf x p 1) = true) : sizeAt x p = 1 := by
  unfold sizeAt sizesOf
  simp [List.filter_cons, h1, h2, h3]
theorem size_2 {x : Str} {p : Nat} (h3 : tokHas (cutOf x p 3) = false) (h2 : tokHas (cutOf x p 2) = true) : sizeAt x p = 2 := by
  unfold sizeAt sizesOf
  simp [List.filter_cons, h2, h3]
theorem size_3 {x : Str} {p : Nat} (h3 : tokHas (cutOf x p 3) = true) : sizeAt x p = 3 := by
  unfold sizeAt sizesOf
  simp [List.filter_cons, h3]
theorem sym0 {x : Str} {p c : Nat} (hs : sizeAt x p = 0) (hc : (Txt.item x (p : Int)).cps.getD 0 0 = c) : symOf x p = ((256 + c : Nat) : Int) := by
  unfold symOf
  rw [if_pos hs, hc]; rfl
theorem symK {x y : Str} {p : Nat} {k : Int} (hk : k ≠ 0) (hs : sizeAt x p = k) (hc : cutOf x p k = y) : symOf x p = tokAt y := by
  unfold symOf
  rw [hs, if_neg hk, hc]
theorem go_step {x : Str} {n : Nat} {S : List Int} {b : Int} (h : symGo x n = (S, b)) (hb : b ≤ n) : symGo x (n + 1) = (S ++ [symOf x n], (n : Int) + max 1 (sizeAt x n)) := by
  show (if (symGo x n).2 ≤ (n : Int) then _ else _) = _
  rw [h, if_pos hb]
theorem go_skip {x : Str} {n : Nat} {S : List Int} {b : Int} (h : symGo x n = (S, b)) (hb : ¬ b ≤ n) : symGo x (n + 1) = (S, b) := by
  show (if (symGo x n).2 ≤ (n : Int) then _ else _) = _
  rw [h, if_neg hb]
theorem cut1_0_3 (a c b : Nat) : cutOf ⟨#[a, c, b]⟩ 0 3 = ⟨#[a, c, b]⟩ := by kernel_rfl
theorem cut1_0_2 (a c b : Nat) : cutOf ⟨#[a, c, b]⟩ 0 2 = ⟨#[a, c]⟩ := by kernel_rfl
theorem cut1_0_1 (a c b : Nat) : cutOf ⟨#[a, c, b]⟩ 0 1 = ⟨#[a]⟩ := by kernel_rfl
theorem cut1_1_3 (a c b : Nat) : cutOf ⟨#[a, c, b]⟩ 1 3 = ⟨#[c, b]⟩ := by kernel_rfl
theorem cut1_1_2 (a c b : Nat) : cutOf ⟨#[a, c, b]⟩ 1 2 = ⟨#[c, b]⟩ := by kernel_rfl
theorem cut1_1_1 (a c b : Nat) : cutOf ⟨#[a, c, b]⟩ 1 1 = ⟨#[c]⟩ := by kernel_rfl
theorem cut1_2_3 (a c b : Nat) : cutOf ⟨#[a, c, b]⟩ 2 3 = ⟨#[b]⟩ := by kernel_rfl
theorem cut1_2_2 (a c b : Nat) : cutOf ⟨#[a, c, b]⟩ 2 2 = ⟨#[b]⟩ := by kernel_rfl
theorem cut1_2_1 (a c b : Nat) : cutOf ⟨#[a, c, b]⟩ 2 1 = ⟨#[b]⟩ := by kernel_rfl
theorem it1_0 (a c b : Nat) : (Txt.item ⟨#[a, c, b]⟩ ((0 : Nat) : Int)).cps.getD 0 0 = a := by kernel_rfl
theorem it1_2 (a c b : Nat) : (Txt.item ⟨#[a, c, b]⟩ ((2 : Nat) : Int)).cps.getD 0 0 = b := by kernel_rfl
theorem syms1 {a c b : Nat} (ha : letC a = true) (hb : letC b = true) (ht : tokHas ⟨#[c]⟩ = true) : symsOf ⟨#[a, c, b]⟩ = [((256 + a : Nat) : Int), tokAt ⟨#[c]⟩, ((256 + b : Nat) : Int)] := by
  have s0 : sizeAt ⟨#[a, c, b]⟩ 0 = 0 := size_none (by rw [cut1_0_3]; exact tok0 (l := [a, c, b]) ha (by simp)) (by rw [cut1_0_2]; exact tok0 (l := [a, c]) ha (by simp)) (by rw [cut1_0_1]; exact tok0 (l := [a]) ha (by simp))
  have s1 : sizeAt ⟨#[a, c, b]⟩ 1 = 1 := size_1 (by rw [cut1_1_3]; exact tok0 (l := [c, b]) hb (by simp)) (by rw [cut1_1_2]; exact tok0 (l := [c, b]) hb (by simp)) (by rw [cut1_1_1]; exact ht)
  have s2 : sizeAt ⟨#[a, c, b]⟩ 2 = 0 := size_none (by rw [cut1_2_3]; exact tok0 (l := [b]) hb (by simp)) (by rw [cut1_2_2]; exact tok0 (l := [b]) hb (by simp)) (by rw [cut1_2_1]; exact tok0 (l := [b]) hb (by simp))
  have g1 := go_step (x := ⟨#[a, c, b]⟩) (n := 0) (S := []) (b := 0) (by unfold symGo; rfl) (by decide)
  rw [s0, sym0 (c := a) s0 (it1_0 a c b)] at g1
  have g2 := go_step (n := 1) (b := 1) g1 (by decide)
  rw [s1, symK (y := ⟨#[c]⟩) (by decide) s1 (cut1_1_1 a c b)] at g2
  have g3 := go_step (n := 2) (b := 2) g2 (by decide)
  rw [s2, sym0 (c := b) s2 (it1_2 a c b)] at g3
  show (symGo ⟨#[a, c, b]⟩ 3).1 = _
  rw [g3]; rfl
theorem cut2_0_3 (a c d b : Nat) : cutOf ⟨#[a, c, d, b]⟩ 0 3 = ⟨#[a, c, d]⟩ := by kernel_rfl
theorem cut2_0_2 (a c d b : Nat) : cutOf ⟨#[a, c, d, b]⟩ 0 2 = ⟨#[a, c]⟩ := by kernel_rfl
theorem cut2_0_1 (a c d b : Nat) : cutOf ⟨#[a, c, d, b]⟩ 0 1 = ⟨#[a]⟩ := by kernel_rfl
theorem cut2_1_3 (a c d b : Nat) : cutOf ⟨#[a, c, d, b]⟩ 1 3 = ⟨#[c, d, b]⟩ := by kernel_rfl
theorem cut2_1_2 (a c d b : Nat) : cutOf ⟨#[a, c, d, b]⟩ 1 2 = ⟨#[c, d]⟩ := by kernel_rfl
theorem cut2_3_3 (a c d b : Nat) : cutOf ⟨#[a, c, d, b]⟩ 3 3 = ⟨#[b]⟩ := by kernel_rfl
theorem cut2_3_2 (a c d b : Nat) : cutOf ⟨#[a, c, d, b]⟩ 3 2 = ⟨#[b]⟩ := by kernel_rfl
theorem cut2_3_1 (a c d b : Nat) : cutOf ⟨#[a, c, d, b]⟩ 3 1 = ⟨#[b]⟩ := by kernel_rfl
theorem it2_0 (a c d b : Nat) : (Txt.item ⟨#[a, c, d, b]⟩ ((0 : Nat) : Int)).cps.getD 0 0 = a := by kernel_rfl
theorem it2_3 (a c d b : Nat) : (Txt.item ⟨#[a, c, d, b]⟩ ((3 : Nat) : Int)).cps.getD 0 0 = b := by kernel_rfl
theorem syms2 {a c d b : Nat} (ha : letC a = true) (hb : letC b = true) (ht : tokHas ⟨#[c, d]⟩ = true) : symsOf ⟨#[a, c, d, b]⟩ = [((256 + a : Nat) : Int), tokAt ⟨#[c, d]⟩, ((256 + b : Nat) : Int)] := by
  have s0 : sizeAt ⟨#[a, c, d, b]⟩ 0 = 0 := size_none (by rw [cut2_0_3]; exact tok0 (l := [a, c, d]) ha (by simp)) (by rw [cut2_0_2]; exact tok0 (l := [a, c]) ha (by simp)) (by rw [cut2_0_1]; exact tok0 (l := [a]) ha (by simp))
  have s1 : sizeAt ⟨#[a, c, d, b]⟩ 1 = 2 := size_2 (by rw [cut2_1_3]; exact tok0 (l := [c, d, b]) hb (by simp)) (by rw [cut2_1_2]; exact ht)
  have s2 : sizeAt ⟨#[a, c, d, b]⟩ 3 = 0 := size_none (by rw [cut2_3_3]; exact tok0 (l := [b]) hb (by simp)) (by rw [cut2_3_2]; exact tok0 (l := [b]) hb (by simp)) (by rw [cut2_3_1]; exact tok0 (l := [b]) hb (by simp))
  have g1 := go_step (x := ⟨#[a, c, d, b]⟩) (n := 0) (S := []) (b := 0) (by unfold symGo; rfl) (by decide)
  rw [s0, sym0 (c := a) s0 (it2_0 a c d b)] at g1
  have g2 := go_step (n := 1) (b := 1) g1 (by decide)
  rw [s1, symK (y := ⟨#[c, d]⟩) (by decide) s1 (cut2_1_2 a c d b)] at g2
  have g2 := go_skip (n := 2) (b := 3) g2 (by decide)
  have g3 := go_step (n := 3) (b := 3) g2 (by decide)
  rw [s2, sym0 (c := b) s2 (it2_3 a c d b)] at g3
  show (symGo ⟨#[a, c, d, b]⟩ 4).1 = _
  rw [g3]; rfl
theorem cut3_0_3 (a c d e b : Nat) : cutOf ⟨#[a, c, d, e, b]⟩ 0 3 = ⟨#[a, c, d]⟩ := by kernel_rfl
theorem cut3_0_2 (a c d e b : Nat) : cutOf ⟨#[a, c, d, e, b]⟩ 0 2 = ⟨#[a, c]⟩ := by kernel_rfl
theorem cut3_0_1 (a c d e b : Nat) : cutOf ⟨#[a, c, d, e, b]⟩ 0 1 = ⟨#[a]⟩ := by kernel_rfl
theorem cut3_1_3 (a c d e b : Nat) : cutOf ⟨#[a, c, d, e, b]⟩ 1 3 = ⟨#[c, d, e]⟩ := by kernel_rfl
theorem cut3_4_3 (a c d e b : Nat) : cutOf ⟨#[a, c, d, e, b]⟩ 4 3 = ⟨#[b]⟩ := by kernel_rfl
theorem cut3_4_2 (a c d e b : Nat) : cutOf ⟨#[a, c, d, e, b]⟩ 4 2 = ⟨#[b]⟩ := by kernel_rfl
theorem cut3_4_1 (a c d e b : Nat) : cutOf ⟨#[a, c, d, e, b]⟩ 4 1 = ⟨#[b]⟩ := by kernel_rfl
theorem it3_0 (a c d e b : Nat) : (Txt.item ⟨#[a, c, d, e, b]⟩ ((0 : Nat) : Int)).cps.getD 0 0 = a := by kernel_rfl
theorem it3_4 (a c d e b : Nat) : (Txt.item ⟨#[a, c, d, e, b]⟩ ((4 : Nat) : Int)).cps.getD 0 0 = b := by kernel_rfl
theorem syms3 {a c d e b : Nat} (ha : letC a = true) (hb : letC b = true) (ht : tokHas ⟨#[c, d, e]⟩ = true) : symsOf ⟨#[a, c, d, e, b]⟩ = [((256 + a : Nat) : Int), tokAt ⟨#[c, d, e]⟩, ((256 + b : Nat) : Int)] := by
  have s0 : sizeAt ⟨#[a, c, d, e, b]⟩ 0 = 0 := size_none (by rw [cut3_0_3]; exact tok0 (l := [a, c, d]) ha (by simp)) (by rw [cut3_0_2]; exact tok0 (l := [a, c]) ha (by simp)) (by rw [cut3_0_1]; exact tok0 (l := [a]) ha (by simp))
  have s1 : sizeAt ⟨#[a, c, d, e, b]⟩ 1 = 3 := size_3  (by rw [cut3_1_3]; exact ht)
  have s2 : sizeAt ⟨#[a, c, d, e, b]⟩ 4 = 0 := size_none (by rw [cut3_4_3]; exact tok0 (l := [b]) hb (by simp)) (by rw [cut3_4_2]; exact tok0 (l := [b]) hb (by simp)) (by rw [cut3_4_1]; exact tok0 (l := [b]) hb (by simp))
  have g1 := go_step (x := ⟨#[a, c, d, e, b]⟩) (n := 0) (S := []) (b := 0) (by unfold symGo; rfl) (by decide)
  rw [s0, sym0 (c := a) s0 (it3_0 a c d e b)] at g1
  have g2 := go_step (n := 1) (b := 1) g1 (by decide)
  rw [s1, symK (y := ⟨#[c, d, e]⟩) (by decide) s1 (cut3_1_3 a c d e b)] at g2
  have g2 := go_skip (n := 2) (b := 4) g2 (by decide)
  have g2 := go_skip (n := 3) (b := 4) g2 (by decide)
  have g3 := go_step (n := 4) (b := 4) g2 (by decide)
  rw [s2, sym0 (c := b) s2 (it3_4 a c d e b)] at g3
  show (symGo ⟨#[a, c, d, e, b]⟩ 5).1 = _
  rw [g3]; rfl
noncomputable def opOk (i : Nat) (x : Str) : Bool := tokHas x && tokAt x == ((i + 7 : Nat) : Int) && decide (1 ≤ x.cps.size) && decide (x.cps.size ≤ 3) && PyData.strOk x
theorem ops_tok : ((List.range 48).all fun i => opOk i (opsS.getD i (Str.ofString ""))) = true := by decide +kernel
theorem let_of {l : Nat} (h : l < 16) : letC (97 + l) = true := by
  unfold letC
  rw [Nat.ble_eq_true_of_le (by omega), Nat.ble_eq_true_of_le (by omega)]; rfl
theorem op_facts {n : Nat} (h1 : 13 ≤ n / 16) (h2 : n / 16 ≤ 54) : opOk (n / 16 - 7) (opAt n) = true := List.all_eq_true.mp ops_tok (n / 16 - 7) (List.mem_range.mpr (by omega))
theorem val_syms {n l r : Nat} (h1 : 13 ≤ n / 16) (h2 : n / 16 ≤ 54) (hl : l < 16) (hr : r < 16) : symsOf (valOf n l r) = [((353 + l : Nat) : Int), ((n / 16 : Nat) : Int), ((353 + r : Nat) : Int)] ∧ (valOf n l r).length ≤ 5 ∧ PyData.strOk (valOf n l r) = true := by
  have f := op_facts h1 h2
  unfold opOk at f
  simp only [Bool.and_eq_true, decide_eq_true_eq, beq_iff_eq] at f
  obtain ⟨⟨⟨⟨f1, f2⟩, f3⟩, f4⟩, f5⟩ := f
  rw [show n / 16 - 7 + 7 = n / 16 by omega] at f2
  have ha := let_of hl
  have hb := let_of hr
  unfold valOf chS
  generalize opAt n = x at *
  obtain ⟨⟨cs⟩⟩ := x
  have hl1 : (97 + l < 0x110000) := by omega
  have hr1 : (97 + r < 0x110000) := by omega
  have e1 : 256 + (97 + l) = 353 + l := by omega
  have e2 : 256 + (97 + r) = 353 + r := by omega
  match cs, f3, f4 with
  | [c], _, _ =>
    refine ⟨?_, show (3 : Nat) ≤ 5 by decide, ?_⟩
    · have := syms1 ha hb f1
      rw [e1, e2, f2] at this
      exact this
    · show (#[97 + l, c, 97 + r] : Array Nat).all _ = true
      have : c < 0x110000 := by simpa [PyData.strOk] using f5
      simp [hl1, hr1, this]
  | [c, d], _, _ =>
    refine ⟨?_, show (4 : Nat) ≤ 5 by decide, ?_⟩
    · have := syms2 ha hb f1
      rw [e1, e2, f2] at this
      exact this
    · show (#[97 + l, c, d, 97 + r] : Array Nat).all _ = true
      have : c < 0x110000 ∧ d < 0x110000 := by simpa [PyData.strOk] using f5
      simp [hl1, hr1, this.1, this.2]
  | [c, d, e], _, _ =>
    refine ⟨?_, show (5 : Nat) ≤ 5 by decide, ?_⟩
    · have := syms3 ha hb f1
      rw [e1, e2, f2] at this
      exact this
    · show (#[97 + l, c, d, e, 97 + r] : Array Nat).all _ = true
      have : c < 0x110000 ∧ d < 0x110000 ∧ e < 0x110000 := by simpa [PyData.strOk] using f5
      simp [hl1, hr1, this.1, this.2.1, this.2.2]
  | [], h, _ => exact absurd h (by decide)
  | _ :: _ :: _ :: _ :: _, _, h => exact absurd h (by simp)
theorem parts_vl (l r o : Nat) (ho : o < 256) : partsOf [((353 + l : Nat) : Int), ((o : Nat) : Int), ((353 + r : Nat) : Int)] = [(l : Int), (r : Int)] := by
  unfold partsOf
  have h1 : decide (((353 + l : Nat) : Int) ≥ 256) = true := decide_eq_true (by omega)
  have h2 : decide (((o : Nat) : Int) ≥ 256) = false := decide_eq_false (by omega)
  have h3 : decide (((353 + r : Nat) : Int) ≥ 256) = true := decide_eq_true (by omega)
  rw [List.filter_cons_of_pos (p := fun s : Int => decide (s ≥ 256)) h1, List.filter_cons_of_neg (by rw [h2]; exact Bool.false_ne_true), List.filter_cons_of_pos (p := fun s : Int => decide (s ≥ 256)) h3, List.filter_nil, List.map_cons, List.map_cons, List.map_nil]
  congr 1
  · omega
  · congr 1; omega
theorem means_two (l r o q : Nat) (ho : o < 256) : ([((353 + l : Nat) : Int), ((o : Nat) : Int), ((353 + r : Nat) : Int)].filter fun s => decide (s < 256) && s == (q : Int)) = if o = q then [((o : Nat) : Int)] else [] := by
  have h1 : decide (((353 + l : Nat) : Int) < 256) = false := decide_eq_false (by omega)
  have h2 : decide (((o : Nat) : Int) < 256) = true := decide_eq_true (by omega)
  have h3 : decide (((353 + r : Nat) : Int) < 256) = false := decide_eq_false (by omega)
  rw [List.filter_cons_of_neg (by rw [h1]; exact Bool.false_ne_true)]
  by_cases h : o = q
  · subst h
    rw [List.filter_cons_of_pos (by rw [h2]; simp), List.filter_cons_of_neg (by rw [h3]; exact Bool.false_ne_true), List.filter_nil, if_pos rfl]
  · rw [List.filter_cons_of_neg (by rw [h2]; simp; omega), List.filter_cons_of_neg (by rw [h3]; exact Bool.false_ne_true), List.filter_nil, if_neg h]
theorem means_val {n0 n1 n l r : Nat} (hd : n0 / 16 ≠ n1 / 16) (hn : n = n0 ∨ n = n1) (ho : n / 16 < 256) : meansOf [n0, n1] [((353 + l : Nat) : Int), ((n / 16 : Nat) : Int), ((353 + r : Nat) : Int)] = [((n % 16 : Nat) : Int)] := by
  unfold meansOf
  simp only [List.flatMap_cons, List.flatMap_nil, List.append_nil, means_two _ _ _ _ ho]
  rcases hn with rfl | rfl
  · rw [if_pos rfl, if_neg hd]; rfl
  · rw [if_pos rfl, if_neg (fun q => hd q.symm)]; rfl
theorem step_val {n0 n1 n l r i fl fr : Nat} {fs : List Nat} (hd : n0 / 16 ≠ n1 / 16) (hn : n = n0 ∨ n = n1) (h1 : 13 ≤ n / 16) (h2 : n / 16 ≤ 54) (hl : l < i) (hr : r < i) (hi : i < 16)
    (e1 : fs[l]? = some fl) (e2 : fs[r]? = some fr) (e3 : fs[i]? = some (doneN (n % 16) fl fr)) (b1 : fl < 16) (b2 : fr < 16) : StepOk [n0, n1] fs i (valOf n l r) := by
  obtain ⟨s1, s2, s3⟩ := val_syms (l := l) (r := r) h1 h2 (by omega) (by omega)
  unfold StepOk
  rw [s1, parts_vl _ _ _ (by omega), means_val hd hn (by omega)]
  exact ⟨by omega, rfl, .inr (.inr ⟨n % 16, l, r, [], [], fl, fr, rfl, rfl, hl, hr, Nat.mod_lt _ (by decide), e1, e2, b1, b2, e3⟩)⟩
theorem step_empty {n0 n1 i : Nat} {fs : List Nat} (h : fs[i]? = some 12) : StepOk [n0, n1] fs i (Str.ofString "") :=
  ⟨by decide +kernel, rfl, .inl ⟨rfl, rfl, h⟩⟩
theorem syms_b : symsOf (Str.ofString "b") = [354] := by decide +kernel
theorem step_b {n0 n1 i : Nat} {fs : List Nat} (h : fs[i]? = some 10) : StepOk [n0, n1] fs i (Str.ofString "b") := by
  unfold StepOk
  rw [syms_b]
  have e : ∀ q : Nat, ([354] : List Int).filter (fun s => decide (s < 256) && s == (q : Int)) = [] := fun q => by
    rw [List.filter_cons_of_neg (by rw [show decide ((354 : Int) < 256) = false from rfl]; exact Bool.false_ne_true), List.filter_nil]
  have m : meansOf [n0, n1] [354] = [] := by
    unfold meansOf
    simp only [List.flatMap_cons, List.flatMap_nil, e, List.map_nil, List.append_nil]
  rw [m]
  exact ⟨by decide +kernel, rfl, .inr (.inl ⟨1, [], rfl, rfl, h⟩)⟩
section
variable {K K' V V' : Type} {f : K' → K} {hv : V' → V} {mean : K → Nat} {mean' : K' → Nat} {val : K → Nat → Nat → V} {val' : K' → Nat → Nat → V'}
theorem fst_map (st : List (Nat × V')) : (st.map fun p => (p.1, hv p.2)).map (·.1) = st.map (·.1) := by rw [List.map_map]; rfl
theorem stepK_map (hm : ∀ k, mean (f k) = mean' k) (hval : ∀ k l r, val (f k) l r = hv (val' k l r)) (k : K') (l r : Nat) (st : List (Nat × V')) :
    stepK mean val (f k) l r (st.map fun p => (p.1, hv p.2)) = (stepK mean' val' k l r st).map fun p => (p.1, hv p.2) := by
  unfold stepK
  simp only [fst_map, hm]
  split
  · rfl
  · rw [List.map_append, hval]; rfl
theorem fold_map {α β σ τ : Type} (M : τ → σ) (F : β → α) (G : σ → α → σ) (G' : τ → β → τ) (hc : ∀ st x, G (M st) (F x) = M (G' st x)) : ∀ (l : List β) (st : τ), (l.map F).foldl G (M st) = M (l.foldl G' st)
  | [], _ => rfl
  | x :: l, st => by
    rw [List.map_cons, List.foldl_cons, List.foldl_cons, hc]
    exact fold_map M F G G' hc l _
theorem otherK_map (hm : ∀ k, mean (f k) = mean' k) (hval : ∀ k l r, val (f k) l r = hv (val' k l r)) (told : List K') (one other : Nat) (st : List (Nat × V')) :
    otherK mean val (told.map f) one other (st.map fun p => (p.1, hv p.2)) = (otherK mean' val' told one other st).map fun p => (p.1, hv p.2) := by
  unfold otherK
  refine fold_map (fun st : List (Nat × V') => st.map fun p => (p.1, hv p.2)) f _ _ (fun st x => ?_) told st
  unfold bothK
  rw [stepK_map hm hval, stepK_map hm hval]
theorem oneK_map (hm : ∀ k, mean (f k) = mean' k) (hval : ∀ k l r, val (f k) l r = hv (val' k l r)) (told : List K') (one : Nat) (st : List (Nat × V')) :
    oneK mean val (told.map f) one (st.map fun p => (p.1, hv p.2)) = (oneK mean' val' told one st).map fun p => (p.1, hv p.2) := by
  unfold oneK
  rw [List.length_map]
  have := fold_map (fun st : List (Nat × V') => st.map fun p : Nat × V' => ((p.1, hv p.2) : Nat × V)) (id : Nat → Nat) (fun (st : List (Nat × V)) o => otherK mean val (told.map f) one o st) (fun (st : List (Nat × V')) o => otherK mean' val' told one o st) (fun st x => otherK_map hm hval told one x st) (List.range (turnsK one st.length)) st
  rwa [List.map_id] at this
theorem saidK_map (hm : ∀ k, mean (f k) = mean' k) (hval : ∀ k l r, val (f k) l r = hv (val' k l r)) (told : List K') (n : Nat) (st : List (Nat × V')) :
    saidK mean val (told.map f) (st.map fun p => (p.1, hv p.2)) n = (saidK mean' val' told st n).map fun p => (p.1, hv p.2) := by
  unfold saidK
  have := fold_map (fun st : List (Nat × V') => st.map fun p : Nat × V' => ((p.1, hv p.2) : Nat × V)) (id : Nat → Nat) (fun (st : List (Nat × V)) o => oneK mean val (told.map f) o st) (fun (st : List (Nat × V')) o => oneK mean' val' told o st) (fun st x => oneK_map hm hval told x st) (List.range n) st
  rwa [List.map_id] at this
end
noncomputable def meanA (m0 m1 : Nat) (k : Bool) : Nat := cond k m1 m0
noncomputable def valA (k : Bool) (l r : Nat) : Nat × Nat × Nat := (cond k 1 0, l, r)
noncomputable def stA : List (Nat × (Nat × Nat × Nat)) := [(12, 2, 0, 0), (10, 3, 0, 0)]
noncomputable def SA (m0 m1 : Nat) : List (Nat × (Nat × Nat × Nat)) := saidK (meanA m0 m1) valA [false, true] stA 16
noncomputable def famsL : List (List Nat) := [[0, 15, 12, 10, 3, 5], [0, 15, 12, 10, 8], [0, 15, 12, 10, 14], [0, 2, 4, 6, 8, 10, 12, 14], [8, 9, 10, 11, 12, 13, 14, 15], [0, 3, 5, 6, 9, 10, 12, 15], [3, 5, 10, 12], [0, 8, 10, 12, 14, 15], [0, 2, 4, 8, 10, 12], [10, 11, 12, 13, 14, 15]]
theorem famsL_eq : famsN = famsL := by decide +kernel
noncomputable def dueL (m0 m1 : Nat) : List Nat := (List.range 16).filter fun m => famsL.all fun f => !(f.any (· == m0) && f.any (· == m1)) || f.any (· == m)
noncomputable def okA (m0 m1 : Nat) (S : List (Nat × (Nat × Nat × Nat))) (fs : List Nat) : Bool :=
  (List.range S.length).all fun i => match S[i]? with
  | none => false
  | some (m, k, l, r) => if k == 2 then m == 12 else if k == 3 then m == 10 else Nat.blt l i && Nat.blt r i && m == doneN (cond (k == 1) m1 m0) (fs.getD l 0) (fs.getD r 0)
noncomputable def checkA (m0 m1 : Nat) : Bool := let S := SA m0 m1; let fs := S.map (·.1); fs.isPerm (dueL m0 m1) && okA m0 m1 S fs && (fs.take 2 == [12, 10])
theorem chk0 : ((List.range 16).all fun b => checkA 0 b) = true := by decide +kernel
theorem chk1 : ((List.range 16).all fun b => checkA 1 b) = true := by decide +kernel
theorem chk2 : ((List.range 16).all fun b => checkA 2 b) = true := by decide +kernel
theorem chk3 : ((List.range 16).all fun b => checkA 3 b) = true := by decide +kernel
theorem chk4 : ((List.range 16).all fun b => checkA 4 b) = true := by decide +kernel
theorem chk5 : ((List.range 16).all fun b => checkA 5 b) = true := by decide +kernel
theorem chk6 : ((List.range 16).all fun b => checkA 6 b) = true := by decide +kernel
theorem chk7 : ((List.range 16).all fun b => checkA 7 b) = true := by decide +kernel
theorem chk8 : ((List.range 16).all fun b => checkA 8 b) = true := by decide +kernel
theorem chk9 : ((List.range 16).all fun b => checkA 9 b) = true := by decide +kernel
theorem chk10 : ((List.range 16).all fun b => checkA 10 b) = true := by decide +kernel
theorem chk11 : ((List.range 16).all fun b => checkA 11 b) = true := by decide +kernel
theorem chk12 : ((List.range 16).all fun b => checkA 12 b) = true := by decide +kernel
theorem chk13 : ((List.range 16).all fun b => checkA 13 b) = true := by decide +kernel
theorem chk14 : ((List.range 16).all fun b => checkA 14 b) = true := by decide +kernel
theorem chk15 : ((List.range 16).all fun b => checkA 15 b) = true := by decide +kernel
theorem check_row : ∀ a, a < 16 → ((List.range 16).all fun b => checkA a b) = true
  | 0, _ => chk0
  | 1, _ => chk1
  | 2, _ => chk2
  | 3, _ => chk3
  | 4, _ => chk4
  | 5, _ => chk5
  | 6, _ => chk6
  | 7, _ => chk7
  | 8, _ => chk8
  | 9, _ => chk9
  | 10, _ => chk10
  | 11, _ => chk11
  | 12, _ => chk12
  | 13, _ => chk13
  | 14, _ => chk14
  | 15, _ => chk15
  | n + 16, h => absurd h (by omega)
noncomputable def decV (n0 n1 : Nat) (v : Nat × Nat × Nat) : Str := if v.1 = 2 then Str.ofString "" else if v.1 = 3 then Str.ofString "b" else valOf (if v.1 = 1 then n1 else n0) v.2.1 v.2.2
theorem said_code (n0 n1 : Nat) : saidN [n0, n1] 16 = (SA (n0 % 16) (n1 % 16)).map fun p => (p.1, decV n0 n1 p.2) :=
  saidK_map (f := fun k : Bool => cond k n1 n0) (hv := decV n0 n1) (mean := (· % 16)) (val := valOf) (mean' := meanA (n0 % 16) (n1 % 16)) (val' := valA) (fun k => by cases k <;> rfl) (fun k l r => by cases k <;> rfl) [false, true] 16 stA
theorem due_code (n0 n1 : Nat) : dueN n0 n1 = dueL (n0 % 16) (n1 % 16) := by
  unfold dueN dueL
  refine List.filter_congr fun m _ => ?_
  unfold dueP outOf famsK
  rw [famsL_eq]
  rw [Bool.eq_iff_iff, decide_eq_true_eq, List.filter_eq_nil_iff, List.all_eq_true]
  constructor
  · intro h x hx
    cases hp : famP n0 n1 x with
    | false => unfold famP at hp; rw [hp]; rfl
    | true =>
      have := h x (List.mem_filter.mpr ⟨hx, hp⟩)
      rw [Bool.not_eq_true, Bool.not_eq_false'] at this
      rw [this, Bool.or_true]
  · intro h x hx
    obtain ⟨hx, hp⟩ := List.mem_filter.mp hx
    have := h x hx
    unfold famP at hp
    rw [hp] at this
    rw [Bool.not_eq_true, Bool.not_eq_false']
    exact this
theorem check_at (n0 n1 : Nat) : checkA (n0 % 16) (n1 % 16) = true :=
  List.all_eq_true.mp (check_row _ (Nat.mod_lt _ (by decide))) _ (List.mem_range.mpr (Nat.mod_lt _ (by decide)))
noncomputable def fsOf (n0 n1 : Nat) : List Nat := (saidN [n0, n1] 16).map (·.1)
theorem fs_code (n0 n1 : Nat) : fsOf n0 n1 = (SA (n0 % 16) (n1 % 16)).map (·.1) := by unfold fsOf; rw [said_code, List.map_map]; rfl
theorem fs_perm (n0 n1 : Nat) : (fsOf n0 n1).Perm (dueN n0 n1) := by
  have := check_at n0 n1
  unfold checkA at this
  simp only [Bool.and_eq_true] at this
  rw [fs_code, due_code]
  exact List.isPerm_iff.mp this.1.1
theorem due_sorted (n0 n1 : Nat) : (dueN n0 n1).Pairwise (· < ·) := List.Pairwise.filter _ List.pairwise_lt_range
theorem due_lt {n0 n1 m : Nat} (h : m ∈ dueN n0 n1) : m < 16 := List.mem_range.mp (List.mem_filter.mp h).1
theorem fs_lt {n0 n1 m : Nat} (h : m ∈ fsOf n0 n1) : m < 16 := due_lt ((fs_perm n0 n1).mem_iff.mp h)
theorem fs_nd (n0 n1 : Nat) : (fsOf n0 n1).Nodup := (fs_perm n0 n1).nodup_iff.mpr ((due_sorted n0 n1).imp fun h => Nat.ne_of_lt h)
theorem fs_len (n0 n1 : Nat) : (fsOf n0 n1).length ≤ 16 := len16 (fs_nd n0 n1) fun _ h => fs_lt h
theorem sorted_due {n0 n1 : Nat} {ns : List Int} (hp : ns.Perm ((fsOf n0 n1).map fun (n : Nat) => (n : Int))) (hs : ns.Pairwise (· ≤ ·)) : ns = (dueN n0 n1).map fun (n : Nat) => (n : Int) := by
  have h1 : ns.Perm ((dueN n0 n1).map fun (n : Nat) => (n : Int)) := hp.trans ((fs_perm n0 n1).map _)
  have h2 : ((dueN n0 n1).map fun (n : Nat) => (n : Int)).Pairwise (· ≤ ·) := List.pairwise_map.mpr ((due_sorted n0 n1).imp fun h => by omega)
  exact h1.eq_of_pairwise (fun a b _ _ h1 h2 => Int.le_antisymm h1 h2) hs h2
theorem vals_ok {n0 n1 : Nat} (hd : n0 / 16 ≠ n1 / 16) (a1 : 13 ≤ n0 / 16) (a2 : n0 / 16 ≤ 54) (b1 : 13 ≤ n1 / 16) (b2 : n1 / 16 ≤ 54) {i : Nat} {x : Str} (hx : ((saidN [n0, n1] 16).map (·.2))[i]? = some x) :
    StepOk [n0, n1] (fsOf n0 n1) i x ∧ PyData.strOk x = true := by
  have hc := check_at n0 n1
  unfold checkA at hc
  simp only [Bool.and_eq_true] at hc
  have hok := hc.1.2
  unfold okA at hok
  rw [List.getElem?_map] at hx
  obtain ⟨p, hp, rfl⟩ := Option.map_eq_some_iff.mp hx
  have hfi : (fsOf n0 n1)[i]? = some p.1 := by unfold fsOf; rw [List.getElem?_map, hp]; rfl
  rw [said_code, List.getElem?_map] at hp
  obtain ⟨q, hq, rfl⟩ := Option.map_eq_some_iff.mp hp
  have hi := (List.getElem?_eq_some_iff.mp hq).1
  have hi16 : i < 16 := by
    have := fs_len n0 n1
    rw [fs_code, List.length_map] at this
    omega
  have h := List.all_eq_true.mp hok i (List.mem_range.mpr hi)
  rw [hq] at h
  obtain ⟨m, k, l, r⟩ := q
  dsimp only at h hfi ⊢
  unfold decV
  dsimp only
  by_cases k2 : k = 2
  · subst k2
    rw [if_pos rfl]
    have : m = 12 := by simpa using h
    subst this
    exact ⟨step_empty hfi, by decide +kernel⟩
  · by_cases k3 : k = 3
    · subst k3
      have : m = 10 := by simpa using h
      subst this
      rw [if_neg (by decide), if_pos rfl]
      exact ⟨step_b hfi, by decide +kernel⟩
    · rw [if_neg k2, if_neg k3]
      rw [if_neg (by simpa using k2), if_neg (by simpa using k3)] at h
      simp only [Bool.and_eq_true, beq_iff_eq] at h
      obtain ⟨⟨h1, h2⟩, h3⟩ := h
      have h1 : l < i := by simpa [Nat.blt_eq] using h1
      have h2 : r < i := by simpa [Nat.blt_eq] using h2
      rw [← fs_code] at h3
      have hfl : i < (fsOf n0 n1).length := (List.getElem?_eq_some_iff.mp hfi).1
      have el : (fsOf n0 n1)[l]? = some ((fsOf n0 n1).getD l 0) := by rw [List.getD_eq_getElem?_getD, List.getElem?_eq_getElem (by omega)]; rfl
      have er : (fsOf n0 n1)[r]? = some ((fsOf n0 n1).getD r 0) := by rw [List.getD_eq_getElem?_getD, List.getElem?_eq_getElem (by omega)]; rfl
      have ll := fs_lt (List.mem_of_getElem? el)
      have lr := fs_lt (List.mem_of_getElem? er)
      by_cases k1 : k = 1
      · subst k1
        rw [if_pos rfl]
        have h3 : m = doneN (n1 % 16) ((fsOf n0 n1).getD l 0) ((fsOf n0 n1).getD r 0) := h3
        rw [h3] at hfi
        exact ⟨step_val hd (.inr rfl) b1 b2 h1 h2 hi16 el er hfi ll lr, (val_syms b1 b2 (by omega) (by omega)).2.2⟩
      · rw [if_neg k1]
        have h3 : m = doneN (n0 % 16) ((fsOf n0 n1).getD l 0) ((fsOf n0 n1).getD r 0) := by
          rw [show (k == 1) = false from by simpa using k1] at h3
          exact h3
        rw [h3] at hfi
        exact ⟨step_val hd (.inl rfl) a1 a2 h1 h2 hi16 el er hfi ll lr, (val_syms a1 a2 (by omega) (by omega)).2.2⟩
noncomputable def wishOf (st : List (Nat × Str)) (m : Nat) : Str := ((st.find? fun p => p.1 == m).map (·.2)).getD (Str.ofString "none")
section
variable {ws : List Str} {st : List (Nat × Str)} {i : Nat} {x : Str}
theorem find_rows (W : WordsOk ws) (hl : ∀ p ∈ st, p.1 < 16) (hi : i < 16) (hx : Txt.lower x = Txt.lower (wd ws i)) :
    (rowsOf ws st).find? (fun p => Txt.lower p.1 == Txt.lower x) = (st.find? fun p => p.1 == i).map fun p => (wd ws p.1, p.2) := by
  unfold rowsOf
  induction st with
  | nil => rfl
  | cons p st ih =>
    rw [List.map_cons, List.find?_cons, List.find?_cons]
    have e : (Txt.lower (wd ws p.1, p.2).1 == Txt.lower x) = (p.1 == i) := by
      rw [hx, Bool.eq_iff_iff, beq_iff_eq, beq_iff_eq]
      exact ⟨fun q => wd_low W (hl p (.head _)) hi q, fun q => by rw [← q]⟩
    rw [e]
    cases p.1 == i with
    | true => rfl
    | false => exact ih fun q hq => hl q (.tail _ hq)
theorem find_mem (h : i ∈ st.map (·.1)) : ∃ p, (st.find? fun p => p.1 == i) = some p := by
  cases e : st.find? fun p => p.1 == i with
  | some p => exact ⟨p, rfl⟩
  | none =>
    obtain ⟨p, hp, he⟩ := List.mem_map.mp h
    have := List.find?_eq_none.mp e p hp
    rw [he] at this
    simp at this
theorem get_kept {extra : List (Str × Str)} (W : WordsOk ws) (hl : ∀ p ∈ st, p.1 < 16) (hi : i < 16) (hx : Txt.lower x = Txt.lower (wd ws i)) (hm : i ∈ st.map (·.1)) :
    getRows (rowsOf ws st ++ extra) x = some (wishOf st i) := by
  unfold getRows wishOf
  rw [List.find?_append, find_rows W hl hi hx]
  obtain ⟨p, e⟩ := find_mem hm
  rw [e]; rfl
theorem look_word {y : Str} {v : Value} {tn : Tok} (W : WordsOk ws) (hl : ∀ p ∈ st, p.1 < 16) (hi : i < 16) (hx : Txt.lower x = Txt.lower (wd ws i))
    (h : GetRes (rowsOf ws st ++ [(y, Str.ofString "none")]) x (.str (Str.ofString "none") tn) v) : ∃ t, v = .str (wishOf st i) t := by
  unfold GetRes getRows at h
  unfold wishOf
  rw [List.find?_append, find_rows W hl hi hx] at h
  cases e : st.find? fun p => p.1 == i with
  | some p => rw [e] at h; exact h
  | none =>
    rw [e] at h
    rw [Option.map_none, Option.none_or, List.find?_cons, List.find?_nil] at h
    cases e2 : Txt.lower (y, Str.ofString "none").1 == Txt.lower x with
    | true => rw [e2] at h; exact h
    | false => rw [e2] at h; exact ⟨tn, h⟩
theorem look_none {y : Str} {v : Value} {tn : Tok} (hno : ∀ p ∈ rowsOf ws st, Txt.lower p.1 ≠ Txt.lower x)
    (h : GetRes (rowsOf ws st ++ [(y, Str.ofString "none")]) x (.str (Str.ofString "none") tn) v) : ∃ t, v = .str (Str.ofString "none") t := by
  unfold GetRes getRows at h
  rw [List.find?_append, List.find?_eq_none.mpr (fun p hp => by simpa using hno p hp), Option.none_or, List.find?_cons, List.find?_nil] at h
  cases e2 : Txt.lower (y, Str.ofString "none").1 == Txt.lower x with
  | true => rw [e2] at h; exact h
  | false => rw [e2] at h; exact ⟨tn, h⟩
theorem wish_mem (h : i ∈ st.map (·.1)) : (st.map (·.2))[(st.map (·.1)).idxOf i]? = some (wishOf st i) := by
  induction st with
  | nil => cases h
  | cons p st ih =>
    unfold wishOf
    rw [List.map_cons, List.map_cons, List.find?_cons]
    by_cases e : p.1 = i
    · rw [List.idxOf_cons, show (p.1 == i) = true by simpa using e]; rfl
    · have e' : (p.1 == i) = false := by simpa using e
      rw [List.idxOf_cons, e']
      show (p.2 :: st.map (·.2))[(st.map (·.1)).idxOf i + 1]? = _
      rw [List.getElem?_cons_succ]
      refine ih ?_
      rcases List.mem_cons.mp h with q | q
      · exact absurd q.symm e
      · exact q
theorem wish_not (h : i ∉ st.map (·.1)) : wishOf st i = Str.ofString "none" := by
  unfold wishOf
  rw [List.find?_eq_none.mpr (fun p hp q => h (List.mem_map.mpr ⟨p, hp, by simpa using q⟩))]; rfl
end
noncomputable def lowC (c : Nat) : Nat := if 65 ≤ c ∧ c ≤ 90 then c + 32 else c
noncomputable def upC (c : Nat) : Nat := if 97 ≤ c ∧ c ≤ 122 then c - 32 else c
theorem low_chars : ∀ c < 128, Unicode.lowerOf c = [lowC c] ∧ lowC c < 128 ∧ lowC (lowC c) = lowC c ∧ lowC (upC c) = lowC c ∧ Unicode.upperOf c = [upC c] ∧ upC c < 128 ∧ (okc c = true → okc (lowC c) = true ∧ okc (upC c) = true) := by decide +kernel
theorem flat_one (l : List Nat) (g : Nat → Nat) : (l.map fun c => [g c]).flatten = l.map g := by
  induction l with
  | nil => rfl
  | cons a l ih => rw [List.map_cons, List.map_cons, List.flatten_cons, ih]; rfl
theorem placed_map (x : Str) (f : Nat → Nat → List Nat) (g : Nat → Nat) (h : ∀ (i c : Nat), x.cps[i]? = some c → f i c = [g c]) : placed x f = x.cps.map g := by
  have e : (x.cps.mapIdx fun i c => (f i c).toArray) = x.cps.map fun c => #[g c] := by
    apply Array.ext
    · simp
    · intro i h1 h2
      have hi : i < x.cps.size := by simpa using h1
      rw [Array.getElem_mapIdx, Array.getElem_map, h i _ (Array.getElem?_eq_getElem hi)]
  unfold placed
  rw [e]
  apply Array.toList_inj.mp
  rw [Array.toList_flatten, Array.toList_map, Array.toList_map, List.map_map]
  exact flat_one _ g
noncomputable def asc (x : Str) : Prop := ∀ (i c : Nat), x.cps[i]? = some c → c < 128
theorem lower_asc {x : Str} (h : asc x) : Txt.lower x = ⟨x.cps.map lowC⟩ := by
  unfold Txt.lower
  rw [placed_map x _ lowC fun i c hc => ?_]
  have hlt := h i c hc
  unfold Unicode.lowerAt
  rw [hc]
  dsimp only
  rw [show (c == 0x3A3) = false by simp; omega, Bool.false_and, if_neg Bool.false_ne_true]
  exact (low_chars c hlt).1
theorem upper_asc {x : Str} (h : asc x) : Txt.upper x = ⟨x.cps.map upC⟩ := by
  unfold Txt.upper
  rw [placed_map x _ upC fun i c hc => (low_chars c (h i c hc)).2.2.2.2.1]
theorem asc_map {x : Str} (h : asc x) (f : Nat → Nat) (hf : ∀ c < 128, f c < 128) : asc ⟨x.cps.map f⟩ := by
  intro i c hc
  rw [Array.getElem?_map] at hc
  obtain ⟨d, hd, rfl⟩ := Option.map_eq_some_iff.mp hc
  exact hf d (h i d hd)
theorem map_asc {x : Str} (h : asc x) (f g k : Nat → Nat) (hf : ∀ c < 128, g (f c) = k c) : (x.cps.map f).map g = x.cps.map k := by
  apply Array.ext
  · simp
  · intro i h1 h2
    have hi : i < x.cps.size := by simpa using h2
    rw [Array.getElem_map, Array.getElem_map, Array.getElem_map]
    exact hf _ (h i _ (Array.getElem?_eq_getElem hi))
theorem okx_map {x : Str} (h : asc x) (ho : okx x = true) (f : Nat → Nat) (hf : ∀ c < 128, okc c = true → okc (f c) = true) : okx ⟨x.cps.map f⟩ = true := by
  unfold okx
  rw [Array.all_eq_true]
  intro i hi
  have hi' : i < x.cps.size := by simpa using hi
  rw [Array.getElem_map]
  refine hf _ (h i _ (Array.getElem?_eq_getElem hi')) ?_
  exact Array.all_eq_true.mp ho i hi'
theorem words_asc : ∀ kind < 4, ((wordsK kind).all fun x => x.cps.all (fun c => Nat.blt c 128) && Nat.blt 1 x.cps.size) = true := by decide +kernel
structure WordGood (x : Str) : Prop where
  up : okx (Txt.upper x) = true
  lu : Txt.lower (Txt.upper x) = Txt.lower x
  ll : Txt.lower (Txt.lower x) = Txt.lower x
  ul : (Txt.upper x).length = x.length
  st : PyData.strOk (Txt.lower x) = true
  ne : Txt.lower x ≠ Str.ofString "c"
theorem words_good {kind : Nat} (hk : kind < 4) {x : Str} (hx : x ∈ wordsK kind) : WordGood x := by
  have h := List.all_eq_true.mp (words_asc kind hk) x hx
  rw [Bool.and_eq_true] at h
  have ha : asc x := fun i c hc => by
    obtain ⟨hi, e⟩ := Array.getElem?_eq_some_iff.mp hc
    have := Array.all_eq_true.mp h.1 i hi
    rw [e] at this
    simpa [Nat.blt_eq] using this
  have hsz : 1 < x.cps.size := by simpa [Nat.blt_eq] using h.2
  have hok := ((words_ok hk).ok x hx).1
  refine ⟨?_, ?_, ?_, ?_, ?_, ?_⟩
  · rw [upper_asc ha]; exact okx_map ha hok _ fun c hc ho => ((low_chars c hc).2.2.2.2.2.2 ho).2
  · rw [upper_asc ha, lower_asc (asc_map ha _ fun c hc => (low_chars c hc).2.2.2.2.2.1), lower_asc ha]
    exact congrArg Str.mk (map_asc ha _ _ _ fun c hc => (low_chars c hc).2.2.2.1)
  · rw [lower_asc ha, lower_asc (asc_map ha _ fun c hc => (low_chars c hc).2.1)]
    exact congrArg Str.mk (map_asc ha _ _ _ fun c hc => (low_chars c hc).2.2.1)
  · rw [upper_asc ha]; exact Array.size_map
  · rw [lower_asc ha]
    show (x.cps.map lowC).all _ = true
    rw [Array.all_eq_true]
    intro i hi
    have hi' : i < x.cps.size := by simpa using hi
    rw [Array.getElem_map, decide_eq_true_eq]
    have := (low_chars _ (ha i _ (Array.getElem?_eq_getElem hi'))).2.1
    omega
  · rw [lower_asc ha]
    intro e
    have : (x.cps.map lowC).size = 1 := by rw [show x.cps.map lowC = (Str.ofString "c").cps from congrArg Str.cps e]; decide +kernel
    rw [Array.size_map] at this
    omega
theorem low_c : Txt.lower (Str.ofString "c") = Str.ofString "c" := by decide +kernel
theorem eqv_rows (l1 l2 : List (Str × Str)) : PyData.eqv (.list (l1.map rowD)) (.list (l2.map rowD)) = decide (l1 = l2) := by
  rw [PyData.eqv]
  refine eqvAll_map _ (fun x y => ?_) _ _
  obtain ⟨a, b⟩ := x
  obtain ⟨c, d⟩ := y
  unfold rowD
  rw [PyData.eqv, PyData.eqvAll, PyData.eqvAll, PyData.eqvAll, PyData.eqv, PyData.eqv]
  exact Bool.eq_iff_iff.mpr (by simp)
theorem lay_rows {l : List (Str × Str)} (h1 : (l.map (·.1)).all PyData.strOk = true) (h2 : (l.map (·.2)).all PyData.strOk = true) : (PyData.list (l.map rowD)).canLay0 = true :=
  lay_list _ l fun x hx => by
    unfold rowD
    rw [PyData.canLay0, PyData.canLayAll0, PyData.canLayAll0, PyData.canLayAll0, PyData.canLay0, PyData.canLay0, List.all_eq_true.mp h1 _ (List.mem_map.mpr ⟨x, hx, rfl⟩), List.all_eq_true.mp h2 _ (List.mem_map.mpr ⟨x, hx, rfl⟩)]; rfl
theorem depth_rows (l : List (Str × Str)) : (PyData.list (l.map rowD)).depth ≤ 50 :=
  Nat.le_trans (depth_list _ 1 l fun x _ => by unfold rowD; simp [PyData.depth, PyData.depthAll]) (by decide)
theorem likeL_idx (g : Int → Nat) : ∀ (l : List Int) (f : Nat → Int → Nat), (∀ i, ∀ o ∈ l, like (f i o) (g o)) → LikeL (l.mapIdx f) (l.map g)
  | [], _, _ => by simp [LikeL]
  | a :: l, f, h => by
    rw [List.mapIdx_cons, List.map_cons]
    exact ⟨h 0 a (.head _), likeL_idx g l (fun i => f (i + 1)) fun i o ho => h (i + 1) o (.tail _ ho)⟩
theorem map_idx {α β γ : Type} (g : β → γ) : ∀ (l : List α) (f : Nat → α → β), (l.mapIdx f).map g = l.mapIdx fun i a => g (f i a)
  | [], _ => by simp
  | a :: l, f => by rw [List.mapIdx_cons, List.mapIdx_cons, List.map_cons, map_idx g l]
theorem rest_bytes (x2 n0 n1 : Nat) : restB (byteArr (bytesOf x2 n0 n1)) 0 = (allOf x2 n0 n1).mapIdx fun i o => (o + 128 * (if i % 4 = x2 / 60 % 4 then 1 else 0)).toNat.toUInt8.toNat := by
  unfold restB byteArr bytesOf
  rw [List.map_map, map_idx, List.drop_zero]; rfl
theorem like_bytes : ∀ n < 128, ∀ b : Bool, ((((n : Nat) : Int) + 128 * (if b = true then 1 else 0)).toNat.toUInt8.toNat % 64 = n % 64 ∧ (((n : Nat) : Int) + 128 * (if b = true then 1 else 0)).toNat.toUInt8.toNat / 64 % 2 = n / 64 % 2) := by decide +kernel
theorem like_byte {o : Int} (h0 : 0 ≤ o) (h1 : o < 128) (b : Bool) : like ((o + 128 * (if b = true then 1 else 0)).toNat.toUInt8.toNat) o.toNat := by
  obtain ⟨n, rfl⟩ := Int.eq_ofNat_of_zero_le h0
  rw [Int.toNat_natCast]
  exact like_bytes n (by omega) b
theorem pv_lead (d : Nat) (ds : List Nat) : pv (64 :: d :: ds) = pv (d :: ds) := by
  show pvGo (64 % 64) 64 (d :: ds) = pvGo (d % 64) d ds
  rw [pvGo_cons (by decide), show 64 % 64 * 64 + d % 64 = d % 64 by omega]
theorem pv_two {n : Nat} (hn : n < 1024) (rest : List Nat) : pv ((64 + n / 64) :: (n % 64) :: rest) = some (n, rest) := by
  show pvGo ((64 + n / 64) % 64) (64 + n / 64) ((n % 64) :: rest) = _
  rw [pvGo_cons (by omega), pvGo_stop _ (by omega), show (64 + n / 64) % 64 * 64 + n % 64 % 64 = n by omega]
theorem pv_num {n : Nat} (hn : n < 1024) (rest : List Nat) : ∀ k, pv (List.replicate k 64 ++ ((64 + n / 64) :: (n % 64) :: rest)) = some (n, rest)
  | 0 => pv_two hn rest
  | k + 1 => by
    rw [List.replicate_succ, List.cons_append]
    have ih := pv_num hn rest k
    cases e : List.replicate k 64 ++ ((64 + n / 64) :: (n % 64) :: rest) with
    | nil => simp at e
    | cons d ds =>
      rw [pv_lead, ← e]
      exact ih
noncomputable def tailN (x2 : Nat) : List Nat := if x2 / 20 % 3 = 0 then [] else if x2 / 20 % 3 = 1 then [64] else [65, 66]
theorem pv_tail (x2 : Nat) : pv (tailN x2) = none := by
  unfold tailN
  split
  · rfl
  · split <;> rfl
theorem all_nats (x2 n0 n1 : Nat) : (allOf x2 n0 n1).map Int.toNat = List.replicate (x2 / 5 % 4) 64 ++ ((64 + n0 / 64) :: (n0 % 64) :: (List.replicate (x2 / 5 % 4) 64 ++ ((64 + n1 / 64) :: (n1 % 64) :: tailN x2))) := by
  have ho : ∀ n : Nat, (octs x2 n).map Int.toNat = List.replicate (x2 / 5 % 4) 64 ++ [64 + n / 64, n % 64] := fun n => by
    unfold octs
    rw [List.map_append, List.map_replicate, List.map_cons, List.map_cons, List.map_nil, Int.toNat_natCast, Int.toNat_natCast]; rfl
  have ht : (tailOf x2).map Int.toNat = tailN x2 := by
    unfold tailOf tailN
    split
    · rfl
    · split <;> rfl
  unfold allOf
  rw [List.map_append, List.flatMap_cons, List.flatMap_cons, List.flatMap_nil, List.append_nil, List.map_append, ho, ho, ht]
  simp
theorem bytes_size (x2 n0 n1 : Nat) : (byteArr (bytesOf x2 n0 n1)).size = (allOf x2 n0 n1).length := by
  rw [byteArr_size]; unfold bytesOf; rw [List.length_mapIdx]
theorem pv_told (x2 n0 n1 : Nat) (h0 : n0 < 1024) (h1 : n1 < 1024) : pvAll (byteArr (bytesOf x2 n0 n1)).size (restB (byteArr (bytesOf x2 n0 n1)) 0) = some [n0, n1] := by
  rw [rest_bytes]
  rw [pvAll_like _ _ _ (likeL_idx Int.toNat (allOf x2 n0 n1) _ fun i o ho => ?_)]
  · have hl : (allOf x2 n0 n1).length = ((allOf x2 n0 n1).map Int.toNat).length := by rw [List.length_map]
    rw [bytes_size, hl, all_nats]
    have h3 : ∃ q, (List.replicate (x2 / 5 % 4) 64 ++ ((64 + n0 / 64) :: (n0 % 64) :: (List.replicate (x2 / 5 % 4) 64 ++ ((64 + n1 / 64) :: (n1 % 64) :: tailN x2)))).length = q + 3 := by
      refine ⟨x2 / 5 % 4 + (x2 / 5 % 4 + (tailN x2).length) + 1, ?_⟩
      simp only [List.length_append, List.length_replicate, List.length_cons]
      omega
    obtain ⟨q, hq⟩ := h3
    rw [hq]
    unfold pvAll
    rw [pv_num h0]
    dsimp only
    unfold pvAll
    rw [pv_num h1]
    dsimp only
    unfold pvAll
    rw [pv_tail]
    rfl
  · obtain ⟨a, b⟩ := all_in x2 n0 n1 h0 h1 o ho
    have := like_byte a b (decide (i % 4 = x2 / 60 % 4))
    simpa using this
theorem bytes_len (x2 n0 n1 : Nat) : (byteArr (bytesOf x2 n0 n1)).size ≤ 1000 := by
  rw [bytes_size]
  unfold allOf
  rw [List.length_append]
  have a := octs_len x2 n0 n1
  have b := tail_len x2
  omega
section
variable {prog : Program} {w : World} {A : Around} {s : Shared} {g h : Heap} {t : Nat} {mu tl : Led} {R : Result → Shared → Prop} {L : Addr} {m : Loc} {E : Value → Shared → Prop}
theorem pick4 {kind : Nat} (hk : kind < 4) {a0 a1 a2 a3 aT L : Addr} {s0 s1 s2 s3 f0 f1 f2 f3 : Tok} {l : Led} {g h : Heap} {m : Loc}
    (_T : At g L m ((aT, tup [.ref a0, .ref a1, .ref a2, .ref a3]) :: (a3, tup [.int 29 s3, .str "0x20000000 0x40000000 0x80000000 0x100000000" f3]) :: (a2, tup [.int 8 s2, .str "ITERABLE_COROUTINE ASYNC_GENERATOR 0x400 0x800" f2]) :: (a1, tup [.int 6 s1, .str "NOFREE COROUTINE ITERABLE_COROUTINE ASYNC_GENERATOR" f1]) :: (a0, tup [.int 0 s0, .str "OPTIMIZED NEWLOCALS VARARGS VARKEYWORDS" f0]) :: l) h) :
    ∃ tA ts tf, [Value.ref a0, .ref a1, .ref a2, .ref a3][((kind : Nat) : Int).toNat]? = some (.ref tA) ∧ (tA, tup [.int ((shiftOf kind : Nat) : Int) ts, .str (fourOf kind) tf]) ∈ ((aT, tup [.ref a0, .ref a1, .ref a2, .ref a3]) :: (a3, tup [.int 29 s3, .str "0x20000000 0x40000000 0x80000000 0x100000000" f3]) :: (a2, tup [.int 8 s2, .str "ITERABLE_COROUTINE ASYNC_GENERATOR 0x400 0x800" f2]) :: (a1, tup [.int 6 s1, .str "NOFREE COROUTINE ITERABLE_COROUTINE ASYNC_GENERATOR" f1]) :: (a0, tup [.int 0 s0, .str "OPTIMIZED NEWLOCALS VARARGS VARKEYWORDS" f0]) :: l : Led) := by
  match kind, hk with
  | 0, _ => exact ⟨a0, s0, f0, rfl, .tail _ (.tail _ (.tail _ (.tail _ (.head _))))⟩
  | 1, _ => exact ⟨a1, s1, f1, rfl, .tail _ (.tail _ (.tail _ (.head _)))⟩
  | 2, _ => exact ⟨a2, s2, f2, rfl, .tail _ (.tail _ (.head _))⟩
  | 3, _ => exact ⟨a3, s3, f3, rfl, .tail _ (.head _)⟩
theorem four_size : ∀ kind < 4, (fourOf kind).length ≤ 500 := by decide +kernel
theorem bits_step {sp : List Str} {j : Nat} {x : Str} (p : Nat → Bool) (h : sp[j]? = some x) : (((List.range (j + 1)).filter p).filterMap fun b => sp[b]?) = (((List.range j).filter p).filterMap fun b => sp[b]?) ++ (if p j = true then [x] else []) := by
  rw [List.range_succ, List.filter_append, List.filterMap_append]
  by_cases hp : p j = true
  · rw [List.filter_cons_of_pos hp, List.filter_nil, List.filterMap_cons_some h, if_pos hp]; rfl
  · rw [List.filter_cons_of_neg hp, List.filter_nil, if_neg hp]; rfl
theorem bits_len (p : Nat → Bool) (f : Nat → Option Str) (j : Nat) : (((List.range j).filter p).filterMap f).length ≤ j :=
  Nat.le_trans (List.length_filterMap_le _ _) (Nat.le_trans (List.length_filter_le _ _) (Nat.le_of_eq List.length_range))
theorem bit_one {i j : Nat} (h : bitI i j ≠ 0) : (i / 2 ^ j % 2 == 1) = true := by
  unfold bitI at h
  rw [beq_iff_eq]; omega
theorem bit_zero {i j : Nat} (h : bitI i j = 0) : ¬ ((i / 2 ^ j % 2 == 1) = true) := by
  unfold bitI at h
  rw [beq_iff_eq]; omega
theorem num0_op (x0 : Nat) : 13 ≤ num0 x0 / 16 ∧ num0 x0 / 16 ≤ 54 := by
  have h1 := Nat.mod_lt x0 (show 0 < 42 by decide)
  have h2 := Nat.mod_lt (x0 / 42) (show 0 < 16 by decide)
  unfold num0; omega
theorem num1_op (x0 x1 : Nat) : 13 ≤ num1 x0 x1 / 16 ∧ num1 x0 x1 / 16 ≤ 54 := by
  have h1 := Nat.mod_lt (x0 % 42 + 1 + x1 % 41) (show 0 < 42 by decide)
  have h2 := Nat.mod_lt (x1 / 41) (show 0 < 16 by decide)
  unfold num1; omega
theorem shift_le : ∀ kind < 4, shiftOf kind ≤ 29 := by decide
end
theorem fams_sz (n0 n1 : Nat) : (famsK n0 n1).length ≤ sizeLine :=
  Nat.le_trans (List.length_filter_le _ _) (show famsN.length ≤ sizeLine by decide)


theorem nats_getV {vs : List Value} {ns : List Nat} (h : IntsAre vs (ns.map fun (n : Nat) => (n : Int))) {j : Nat} {v : Value} (hv : vs[j]? = some v) : ∃ n t, v = .int ((n : Nat) : Int) t ∧ ns[j]? = some n := by
  obtain ⟨z, t, rfl, hz⟩ := IntsAre.getV h hv
  rw [List.getElem?_map] at hz
  obtain ⟨n, hn, rfl⟩ := Option.map_eq_some_iff.mp hz
  exact ⟨n, t, rfl, hn⟩
theorem weight16 : ∀ n < 16, PyData.weight (.int ((n : Nat) : Int)) ≤ 4 := by decide +kernel
theorem lay0_small {l : List Nat} (h : ∀ x ∈ l, x < 16) (hn : l.length ≤ 1000) : PyData.layable0 (.list ((l.map fun (n : Nat) => (n : Int)).map .int)) = true := by
  have hw : ∀ l : List Nat, (∀ x ∈ l, x < 16) → PyData.weightAll ((l.map fun (n : Nat) => (n : Int)).map .int) ≤ 5 * l.length := by
    intro l
    induction l with
    | nil => intro _; simp [PyData.weightAll]
    | cons a l ih =>
      intro h
      have h1 := weight16 a (h a (.head _))
      have h2 := ih fun x hx => h x (.tail _ hx)
      simp only [List.map_cons, PyData.weightAll, List.length_cons] at h2 ⊢
      omega
  unfold PyData.layable0
  rw [lay_ints, Bool.true_and, Bool.and_eq_true, decide_eq_true_eq, decide_eq_true_eq]
  refine ⟨Nat.le_trans (depth_ints _) (by decide), ?_⟩
  rw [PyData.weight]
  have := hw l h
  exact Nat.le_trans this (Nat.le_trans (Nat.mul_le_mul_left 5 hn) (by decide))
theorem names_eq {ws : List Str} {st : List (Nat × Str)} : (rowsOf ws st).map (·.1) = (st.map (·.1)).map (wd ws) := by unfold rowsOf; rw [List.map_map, List.map_map]; rfl
theorem values_eq {ws : List Str} {st : List (Nat × Str)} : (rowsOf ws st).map (·.2) = st.map (·.2) := by unfold rowsOf; rw [List.map_map]; rfl
structure Kept (n0 n1 : Nat) (st : List (Nat × Str)) (fs : List Nat) : Prop where
  a : saidN [n0, n1] 16 = st
  b : fsOf n0 n1 = fs
  c : fs = st.map (·.1)
theorem kf_ex (n0 n1 : Nat) : ∃ st fs, Kept n0 n1 st fs := ⟨_, _, rfl, rfl, rfl⟩

theorem Kept.lt {n0 n1 : Nat} {st : List (Nat × Str)} {fs : List Nat} (K : Kept n0 n1 st fs) {x : Nat} (h : x ∈ fs) : x < 16 := fs_lt (n0 := n0) (n1 := n1) (by rw [K.b]; exact h)
theorem Kept.len {n0 n1 : Nat} {st : List (Nat × Str)} {fs : List Nat} (K : Kept n0 n1 st fs) : fs.length ≤ 16 := by have := fs_len n0 n1; rwa [K.b] at this
theorem Kept.words {n0 n1 kind : Nat} {st : List (Nat × Str)} {fs : List Nat} (K : Kept n0 n1 st fs) (hk : kind < 4) : ((fs.map (wd (wordsK kind))).all PyData.strOk) = true :=
  List.all_eq_true.mpr fun x hx => by
    obtain ⟨n, hn, rfl⟩ := List.mem_map.mp hx
    exact List.all_eq_true.mp (words_strok kind hk) _ (wd_mem (words_ok hk) (K.lt hn))
theorem rows_len (ws : List Str) (st : List (Nat × Str)) : (rowsOf ws st).length = st.length := by unfold rowsOf; rw [List.length_map]

theorem num_ne (x0 x1 : Nat) : num0 x0 / 16 ≠ num1 x0 x1 / 16 := by
  have h1 := Nat.mod_lt x0 (show 0 < 42 by decide)
  have h2 := Nat.mod_lt x1 (show 0 < 41 by decide)
  have h3 := Nat.mod_lt (x0 / 42) (show 0 < 16 by decide)
  have h4 := Nat.mod_lt (x1 / 41) (show 0 < 16 by decide)
  unfold num0 num1
  omega
theorem Kept.step {n0 n1 : Nat} {st : List (Nat × Str)} {fs : List Nat} (K : Kept n0 n1 st fs) {x0 x1 : Nat} (e0 : num0 x0 = n0) (e1 : num1 x0 x1 = n1) {i : Nat} {x : Str} (h : (st.map (·.2))[i]? = some x) : StepOk [n0, n1] fs i x ∧ PyData.strOk x = true := by
  subst e0 e1
  rw [← K.a] at h
  have := vals_ok (num_ne x0 x1) (num0_op x0).1 (num0_op x0).2 (num1_op x0 x1).1 (num1_op x0 x1).2 h
  rwa [K.b] at this
theorem Kept.vals {n0 n1 : Nat} {st : List (Nat × Str)} {fs : List Nat} (K : Kept n0 n1 st fs) {x0 x1 : Nat} (e0 : num0 x0 = n0) (e1 : num1 x0 x1 = n1) : ((st.map (·.2)).all PyData.strOk) = true :=
  List.all_eq_true.mpr fun x hx => by
    obtain ⟨i, hi⟩ := List.mem_iff_getElem?.mp hx
    exact (K.step e0 e1 hi).2

theorem join_none : Txt.join (Str.ofString "; ") [Str.ofString "none"] = Str.ofString "none" := by decide +kernel

noncomputable def pairD (x : Str) : PyData := .tuple [.str x, .str x]
noncomputable def wishL (st : List (Nat × Str)) : List Str := (List.range 16).map (wishOf st) ++ [Str.ofString "none"]
theorem wishL_at (st : List (Nat × Str)) {i : Nat} (hi : i < 16) : (wishL st)[i]? = some (wishOf st i) := by
  unfold wishL
  rw [List.getElem?_append_left (by simpa using hi), List.getElem?_map, List.getElem?_range hi]; rfl
theorem wishL_16 (st : List (Nat × Str)) : (wishL st)[16]? = some (Str.ofString "none") := by
  unfold wishL
  rw [List.getElem?_append_right (by simp)]
  simp
theorem wishL_len (st : List (Nat × Str)) : (wishL st).length = 17 := by unfold wishL; simp
theorem looked_at {kind : Nat} (hk : kind < 4) {i : Nat} {x : Str} (hx : (wordsK kind ++ [Str.ofString "c"])[i]? = some x) : (i < 16 ∧ x = wd (wordsK kind) i) ∨ (i = 16 ∧ x = Str.ofString "c") := by
  have W := words_ok hk
  by_cases hi : i < 16
  · left
    rw [List.getElem?_append_left (by rw [W.len]; exact hi), wd_get W hi] at hx
    exact ⟨hi, (Option.some.inj hx).symm⟩
  · right
    rw [List.getElem?_append_right (by rw [W.len]; omega), W.len] at hx
    have : i - 16 = 0 := by
      have := (List.getElem?_eq_some_iff.mp hx).1
      simp at this; omega
    rw [this] at hx
    exact ⟨by omega, (Option.some.inj hx).symm⟩
theorem looked_ok {kind : Nat} (hk : kind < 4) {i : Nat} {x : Str} (hx : (wordsK kind ++ [Str.ofString "c"])[i]? = some x) : x.length ≤ 1000 ∧ okx (Txt.lower (Txt.lower x)) = true ∧ (Txt.lower x).length ≤ 1000 ∧ (Txt.lower (Txt.lower x)).length ≤ 1000 := by
  rcases looked_at hk hx with ⟨hi, rfl⟩ | ⟨_, rfl⟩
  · have W := words_ok hk
    obtain ⟨a, b, c, d⟩ := W.ok _ (wd_mem W hi)
    have e := (words_good hk (wd_mem W hi)).ll
    rw [e]
    exact ⟨c, b, d, d⟩
  · have e := low_c
    rw [e, e]
    decide +kernel
theorem look_all {kind : Nat} (hk : kind < 4) {st : List (Nat × Str)} (hl : ∀ p ∈ st, p.1 < 16) {i : Nat} {x y : Str} {tn : Tok} {v : Value} (hx : (wordsK kind ++ [Str.ofString "c"])[i]? = some x)
    (h : GetRes (rowsOf (wordsK kind) st ++ [(y, Str.ofString "none")]) (Txt.lower x) (.str (Str.ofString "none") tn) v) : ∃ z t, (wishL st)[i]? = some z ∧ v = .str z t := by
  have W := words_ok hk
  rcases looked_at hk hx with ⟨hi, rfl⟩ | ⟨rfl, rfl⟩
  · obtain ⟨t, e⟩ := look_word W hl hi (words_good hk (wd_mem W hi)).ll h
    exact ⟨_, t, wishL_at st hi, e⟩
  · obtain ⟨t, e⟩ := look_none (fun p hp => by
      obtain ⟨q, hq, rfl⟩ := List.mem_map.mp hp
      have e := low_c
      rw [e, e]
      exact (words_good hk (wd_mem W (hl q hq))).ne) h
    exact ⟨_, t, wishL_16 st, e⟩
theorem rows2_le {kind : Nat} (hk : kind < 4) {st : List (Nat × Str)} (hl : ∀ p ∈ st, p.1 < 16) : ∀ p ∈ rowsOf (wordsK kind) st ++ [(Txt.lower (wd (wordsK kind) 12), Str.ofString "none")], p.1.length ≤ 1000 := by
  have W := words_ok hk
  intro p hp
  rcases List.mem_append.mp hp with hp | hp
  · exact rows_le W hl p hp
  · simp only [List.mem_cons, List.not_mem_nil, or_false] at hp
    subst hp
    exact (W.ok _ (wd_mem W (show 12 < 16 by decide))).2.2.2
structure IsLooked (kind i : Nat) (x : Str) : Prop where
  a : (wordsK kind ++ [Str.ofString "c"])[i]? = some x
structure LookOk (x : Str) : Prop where
  a : okx (Txt.lower (Txt.lower x)) = true
  b : (Txt.lower x).length ≤ 1000
  c : (Txt.lower (Txt.lower x)).length ≤ 1000
theorem looked_get {kind : Nat} (hk : kind < 4) {wvs : List Value} {t : Tok} (hW : StrsAre wvs (wordsK kind)) {i : Nat} {v : Value} (hv : (wvs ++ [.str (Str.ofString "c") t])[i]? = some v) : ∃ x tx, v = .str x tx ∧ IsLooked kind i x ∧ x.length ≤ 1000 ∧ LookOk x := by
  obtain ⟨x, tx, e, hx⟩ := strs_getV (strs_app hW (.cons (Str.ofString "c") t .nil)) hv
  obtain ⟨k1, k2, k3, k4⟩ := looked_ok hk hx
  exact ⟨x, tx, e, ⟨hx⟩, k1, k2, k3, k4⟩

theorem idx_cast (x : Nat) : ∀ l : List Nat, (l.map fun (n : Nat) => (n : Int)).idxOf (x : Int) = l.idxOf x
  | [] => rfl
  | a :: l => by
    rw [List.map_cons, List.idxOf_cons, List.idxOf_cons, idx_cast x l]
    have : ((a : Int) == (x : Int)) = (a == x) := by rw [Bool.eq_iff_iff, beq_iff_eq, beq_iff_eq]; exact Int.ofNat_inj
    rw [this]
theorem Kept.mem {n0 n1 : Nat} {st : List (Nat × Str)} {fs : List Nat} (K : Kept n0 n1 st fs) (i : Nat) : i ∈ dueN n0 n1 ↔ i ∈ fs := by
  rw [← K.b]; exact (fs_perm n0 n1).mem_iff.symm
theorem Kept.wish {n0 n1 : Nat} {st : List (Nat × Str)} {fs : List Nat} (K : Kept n0 n1 st fs) {i : Nat} {avs : List Value} (ha : StrsAre avs (st.map (·.2))) (h : i ∈ fs) : ∃ t, avs[((fs.idxOf i : Nat) : Int).toNat]? = some (.str (wishOf st i) t) := by
  rw [Int.toNat_natCast]
  have := wish_mem (st := st) (i := i) (by rw [← K.c]; exact h)
  rw [← K.c] at this
  exact strs_get ha this

theorem slice_mem {l : List Value} {lo hi st : Option Int} {v : Value} (h : v ∈ (slicePick l.toArray lo hi st).toList) : v ∈ l := by
  unfold slicePick at h
  obtain ⟨i, _, e⟩ := List.mem_filterMap.mp (by simpa using h)
  have := List.mem_of_getElem? (l := l) (i := i) (by simpa using e)
  exact this
theorem slice_len {l : List Value} {lo hi st : Option Int} : (slicePick l.toArray lo hi st).toList.length ≤ l.length := by
  rw [Array.length_toList]
  exact Nat.le_trans (slicePick_size_le _ _ _ _) (by simp)
structure Drawn (ys : List Value) (fs : List Nat) (k : Nat) : Prop where
  a : ∃ ns : List Nat, IntsAre ys (ns.map fun (n : Nat) => (n : Int)) ∧ (∀ n ∈ ns, n ∈ fs) ∧ ns.length = k
theorem Drawn.len {ys : List Value} {fs : List Nat} {k : Nat} (d : Drawn ys fs k) : ys.length = k := by
  obtain ⟨ns, hi, _, hl⟩ := d.a
  have := hi.length
  rw [List.length_map, hl] at this
  exact this
theorem Drawn.nil (fs : List Nat) : Drawn [] fs 0 := ⟨[], .nil, (fun _ h => nomatch h), rfl⟩
theorem Drawn.snoc {ys : List Value} {fs : List Nat} {k n : Nat} {t : Tok} (d : Drawn ys fs k) (h : n ∈ fs) : Drawn (ys ++ [.int (n : Int) t]) fs (k + 1) := by
  obtain ⟨ns, hi, hm, hl⟩ := d.a
  refine ⟨ns ++ [n], ?_, ?_, by rw [List.length_append, hl]; rfl⟩
  · rw [List.map_append]; exact hi.append (.cons _ _ .nil)
  · intro m hm'
    rcases List.mem_append.mp hm' with q | q
    · exact hm m q
    · simp only [List.mem_cons, List.not_mem_nil, or_false] at q; exact q ▸ h

structure SetOk (kind n : Nat) (x : Str) : Prop where
  a : okx (Txt.lower x) = true
  b : okx x = true
  c : x.length ≤ 1000
  d : (Txt.lower x).length ≤ 1000
  e : Txt.lower x = Txt.lower (wd (wordsK kind) n)
theorem set_low {kind n : Nat} (hk : kind < 4) (hn : n < 16) : SetOk kind n (Txt.lower (wd (wordsK kind) n)) := by
  have W := words_ok hk
  obtain ⟨a, b, c, d⟩ := W.ok _ (wd_mem W hn)
  have g := words_good hk (wd_mem W hn)
  exact ⟨by rw [g.ll]; exact b, b, d, by rw [g.ll]; exact d, g.ll⟩
theorem set_up {kind n : Nat} (hk : kind < 4) (hn : n < 16) : SetOk kind n (Txt.upper (wd (wordsK kind) n)) := by
  have W := words_ok hk
  obtain ⟨a, b, c, d⟩ := W.ok _ (wd_mem W hn)
  have g := words_good hk (wd_mem W hn)
  exact ⟨by rw [g.lu]; exact b, g.up, by rw [g.ul]; exact c, by rw [g.lu]; exact d, g.lu⟩
theorem Kept.got {n0 n1 kind n : Nat} {st : List (Nat × Str)} {fs : List Nat} {extra : List (Str × Str)} (K : Kept n0 n1 st fs) (hk : kind < 4) (hl : ∀ p ∈ st, p.1 < 16) (hn : n ∈ fs) {x : Str} (hx : SetOk kind n x) : getRows (rowsOf (wordsK kind) st ++ extra) x = some (wishOf st n) :=
  get_kept (words_ok hk) hl (K.lt hn) hx.e (by rw [← K.c]; exact hn)

structure AtS (l : List Str) (i : Nat) (x : Str) : Prop where
  a : l[i]? = some x
theorem eqv_pairs (l1 l2 : List Str) : PyData.eqv (.list (l1.map pairD)) (.list (l2.map pairD)) = decide (l1 = l2) := by
  rw [PyData.eqv]
  refine eqvAll_map _ (fun x y => ?_) _ _
  unfold pairD
  rw [PyData.eqv, PyData.eqvAll, PyData.eqvAll, PyData.eqvAll, PyData.eqv]
  exact Bool.eq_iff_iff.mpr (by simp)
theorem lay_pairs {l : List Str} (h : l.all PyData.strOk = true) : (PyData.list (l.map pairD)).canLay0 = true :=
  lay_list _ l fun x hx => by
    unfold pairD
    rw [PyData.canLay0, PyData.canLayAll0, PyData.canLayAll0, PyData.canLayAll0, PyData.canLay0, List.all_eq_true.mp h _ hx]; rfl
theorem depth_pairs (l : List Str) : (PyData.list (l.map pairD)).depth ≤ 50 :=
  Nat.le_trans (depth_list _ 1 l fun x _ => by unfold pairD; simp [PyData.depth, PyData.depthAll]) (by decide)
theorem wish_ok {st : List (Nat × Str)} (h : ((st.map (·.2)).all PyData.strOk) = true) (m : Nat) : PyData.strOk (wishOf st m) = true := by
  by_cases hm : m ∈ st.map (·.1)
  · exact List.all_eq_true.mp h _ (List.mem_of_getElem? (wish_mem hm))
  · rw [wish_not hm]; decide +kernel
theorem wishL_ok {st : List (Nat × Str)} (h : ((st.map (·.2)).all PyData.strOk) = true) : ((wishL st).all PyData.strOk) = true :=
  List.all_eq_true.mpr fun x hx => by
    unfold wishL at hx
    rcases List.mem_append.mp hx with q | q
    · obtain ⟨m, _, rfl⟩ := List.mem_map.mp q
      exact wish_ok h m
    · simp only [List.mem_cons, List.not_mem_nil, or_false] at q
      subst q; decide +kernel
theorem wishM_ok {st : List (Nat × Str)} (h : ((st.map (·.2)).all PyData.strOk) = true) (l : List Nat) : ((l.map (wishOf st)).all PyData.strOk) = true :=
  List.all_eq_true.mpr fun x hx => by
    obtain ⟨m, _, rfl⟩ := List.mem_map.mp hx
    exact wish_ok h m

theorem none_strok : PyData.strOk (Str.ofString "none") = true := by decide +kernel
theorem rows2_ok {n0 n1 kind : Nat} {st : List (Nat × Str)} {fs : List Nat} (K : Kept n0 n1 st fs) (hk : kind < 4) (hv : ((st.map (·.2)).all PyData.strOk) = true) :
    (((rowsOf (wordsK kind) st ++ [(Txt.lower (wd (wordsK kind) 12), Str.ofString "none")]).map (·.1)).all PyData.strOk) = true ∧ (((rowsOf (wordsK kind) st ++ [(Txt.lower (wd (wordsK kind) 12), Str.ofString "none")]).map (·.2)).all PyData.strOk) = true := by
  have W := words_ok hk
  have g := words_good hk (wd_mem W (show 12 < 16 by decide))
  constructor
  · rw [List.map_append, List.all_append, names_eq, ← K.c, K.words hk, List.map_cons, List.map_nil, List.all_cons, g.st]; rfl
  · rw [List.map_append, List.all_append, values_eq, hv, List.map_cons, List.map_nil, List.all_cons, List.all_nil, show PyData.strOk (Txt.lower (wd (wordsK kind) 12), Str.ofString "none").2 = true from none_strok]; rfl
section
variable {prog : Program} {w : World} {A : Around} {s : Shared} {g h : Heap} {t : Nat} {mu tl : Led} {R : Result → Shared → Prop} {L : Addr} {m : Loc} {E : Value → Shared → Prop}
theorem r_enterCA {R : Result → Shared → Prop} {name qual : Str} {params : Arguments} {body : List Stmt} {scope : Scope} {dV kV doc pm cdv ct oc : Value} {an od : Option Addr} {osl : Array (Option Value)} {f : Addr} {args : Args} {binds : List (Str × Value)} {rn ru : Nat}
    (r : Room A (rn + 1) (ru + 3)) (G : Gl w g) (M : Mem g mu h) (hfr : A.frames = some []) (ho : (hd.heap_39 w.params).lookup f = some ⟨oc, od, .func (fnOf name qual params body scope dV kV doc pm an cdv ct), osl⟩) (hcd : codeIn (hd.heap_39 w.params) cdv qual = true)
    (hbind : BindsTo (Sh s h t) (fnOf name qual params body scope dV kV doc pm an cdv ct) args binds)
    (hkind : (binds.all fun y => scope.names.lookup y.1 == some .local || scope.names.lookup y.1 == some .cell) = true) (hnd : ((cellsFrom 0 scope.names []).map (·.1)).Nodup)
    (k : ∀ A' L h' t' cells, A'.frames = some [envOfC qual scope L f cdv] → Room A' rn ru → CellsAre (bindC (envOfC qual scope L f cdv).kindOf binds fun _ => none) (cellsFrom (L + 1) scope.names []) cells →
        At g L (bindL (envOfC qual scope L f cdv).kindOf binds fun _ => none) (cells ++ mu) h' → wpAny (model prog w) A' (execs body (envOfC qual scope L f cdv))
        (fun fl s' => R (.ok (.ret (match fl with | .ret v => v | _ => .none))) s') (fun _ _ => False) (Sh s h' t'))
    (hco : scope.isCoroutine = false) (hgen : scope.isGenerator = false) (hk : scope.kind = .function) :
    codeAny (model prog w) A (.call (.ref f) args) R (Sh s h t) :=
  r_enterCF r G M ho hcd hbind hkind hnd (fun L h' t' cells rA hc T => k _ L h' t' cells (Around.frames_deeper hfr) rA hc T) hco hgen hk
set_option maxHeartbeats 0 in
theorem law_spec {a : Addr} {vs : List Value} {ns : List Int}
   (r : Room A 20 2000) (hfr : A.frames = some []) (G : Gl w g) (M : Mem g mu h) (hl : g.IsList a vs.toArray) (hi0 : IntsAre vs ns) (hn : ns.length ≤ 63)
   (k : ∀ h' t', Mem g mu h' → R (.ok (.ret (.bool true))) (Sh s h' t')) :
   codeAny (model prog w) A (.call (.ref 303) ⟨[.ref a], []⟩) R (Sh s h t) := by
  refine' r_enterCA (binds := [("script", .ref a)]) r G M hfr ?ho ?hcd ?hbind ?hkind ?hnd ?k ?hco ?hgen ?hk
  walk_at "enteredC"
  intro A1 L h1 tk1 cells hfr1 rA hc T
  have hc : CellsAre _ [(Str.ofString "wished", L + 10), (Str.ofString "found", L + 9), (Str.ofString "due", L + 8), (Str.ofString "families", L + 7), (Str.ofString "answers", L + 6), (Str.ofString "table", L + 5), (Str.ofString "words", L + 4), (Str.ofString "four", L + 3), (Str.ofString "shift", L + 2), (Str.ofString "numbers", L + 1)] cells := hc
  obtain ⟨o10, _, rfl, d10, hc⟩ := cells_cons hc
  obtain ⟨o9, _, rfl, d9, hc⟩ := cells_cons hc
  obtain ⟨o8, _, rfl, d8, hc⟩ := cells_cons hc
  obtain ⟨o7, _, rfl, d7, hc⟩ := cells_cons hc
  obtain ⟨o6, _, rfl, d6, hc⟩ := cells_cons hc
  obtain ⟨o5, _, rfl, d5, hc⟩ := cells_cons hc
  obtain ⟨o4, _, rfl, d4, hc⟩ := cells_cons hc
  obtain ⟨o3, _, rfl, d3, hc⟩ := cells_cons hc
  obtain ⟨o2, _, rfl, d2, hc⟩ := cells_cons hc
  obtain ⟨o1, _, rfl, d1, hc⟩ := cells_cons hc
  obtain rfl := cells_nil hc
  have T : At g L (fun y => if y = "script" then some (.ref a) else none) ((L + 10, o10) :: (L + 9, o9) :: (L + 8, o8) :: (L + 7, o7) :: (L + 6, o6) :: (L + 5, o5) :: (L + 4, o4) :: (L + 3, o3) :: (L + 2, o2) :: (L + 1, o1) :: mu) h1 := T
  generalize hml : ((L + 10, o10) :: (L + 9, o9) :: (L + 8, o8) :: (L + 7, o7) :: (L + 6, o6) :: (L + 5, o5) :: (L + 4, o4) :: (L + 3, o3) :: (L + 2, o2) :: (L + 1, o1) :: mu : Led) = ml at T
  repeat' walk1
  refine c_drawn (s := s) (rA.le (by decide) (by decide)) G T hl hi0 hn fun x0 x1 x2 aT aN t0 t1 tb tk eN h2 t2 _ _ _ _ T2 => ?_
  generalize hn0 : num0 x0 = n0 at T2
  generalize hn1 : num1 x0 x1 = n1 at T2
  obtain ⟨g1, y1, T3, e1⟩ := T2.freeze
  obtain ⟨g2, y2, T4, e2⟩ := T3.freeze
  have hTup : g2.IsTuple aT #[.ref aN, .bytes (byteArr (bytesOf x2 n0 n1)) tb, .int ((x2 % 4 : Nat) : Int) tk] := ⟨_, y2 _ _ e1, rfl, _, rfl⟩
  have hNum : g2.IsList aN [Value.int (n0 : Int) t0, .int (n1 : Int) t1].toArray := ⟨_, e2, rfl, _, rfl⟩
  have G2 := (G.up y1).up y2
  have hkind : x2 % 4 < 4 := Nat.mod_lt _ (by decide)
  generalize hkd : x2 % 4 = kind at hkind hTup
  clear T2 T3 T
  repeat' walk1
  subst hml
  refine r_storePF (pre := [_, _, _, _, _, _, _, _, _]) (by assumption) rfl d1 (fun g3 h3 y3 c1 T5 => ?_)
  have T5 : At g3 L _ ((L + 10, o10) :: (L + 9, o9) :: (L + 8, o8) :: (L + 7, o7) :: (L + 6, o6) :: (L + 5, o5) :: (L + 4, o4) :: (L + 3, o3) :: (L + 2, o2) :: mu) h3 := T5
  generalize hml : ((L + 10, o10) :: (L + 9, o9) :: (L + 8, o8) :: (L + 7, o7) :: (L + 6, o6) :: (L + 5, o5) :: (L + 4, o4) :: (L + 3, o3) :: (L + 2, o2) :: mu : Led) = ml at T5
  have G3 := G2.up y3
  have hNum3 := isList_up y3 hNum
  repeat' walk1
  have h0 : n0 < 1024 := hn0 ▸ num0_lt x0
  have h1' : n1 < 1024 := hn1 ▸ num1_lt x0 x1
  refine c_numbers (s := s) (m0 := fun _ => none) (rA.le (by decide) (by decide)) G3 hfr1 rfl (show ScopeKind.function ≠ ScopeKind.module by decide) (by assumption) (bytes_len x2 n0 n1) (pv_told x2 n0 n1 h0 h1') fun aD dvs eD h4 t4 T6 hTold => ?_
  obtain ⟨g4, y4, T7, e4⟩ := T6.freeze
  have hToldL : g4.IsList aD dvs.toArray := ⟨_, e4, rfl, _, rfl⟩
  have G4 := G3.up y4
  have hNum4 := isList_up y4 hNum3
  have c1 := cell_up y4 c1
  clear T6 T5
  repeat' walk1
  rename At g4 _ _ ((_, tup [Value.ref _, _, _, _]) :: _) _ => TT
  obtain ⟨tA, ts, tf, htA, hmem⟩ := pick4 hkind TT
  refine s_itemT (mu_isT TT (.head _)) (by omega) (by omega) htA ?_
  repeat' walk1
  subst hml
  refine r_storePF (pre := [_, _, _, _, _, _, _, _, _, _, _, _, _]) (by assumption) rfl d2 (fun g5 h5 y5 c2 T5 => ?_)
  repeat' walk1
  refine r_storePF (pre := [_, _, _, _, _, _, _, _, _, _, _, _]) T5 rfl d3 (fun g6 h6 y6 c3 T6 => ?_)
  have T6 : At g6 L _ ((L + 10, o10) :: (L + 9, o9) :: (L + 8, o8) :: (L + 7, o7) :: (L + 6, o6) :: (L + 5, o5) :: (L + 4, o4) :: mu) h6 := T6.sub (by walk_at "sublist")
  generalize hml : ((L + 10, o10) :: (L + 9, o9) :: (L + 8, o8) :: (L + 7, o7) :: (L + 6, o6) :: (L + 5, o5) :: (L + 4, o4) :: mu : Led) = ml at T6
  have y46 := y5.tr y6
  have G6 := G4.up y46
  have hNum6 := isList_up y46 hNum4
  have hToldL6 := isList_up y46 hToldL
  have c1 := cell_up y46 c1
  have c2 := cell_up y6 c2
  clear T5 TT hmem
  repeat' walk1
  refine' s_ListComp (s := s) (E := fun _ _ => False) ?_ ?hclos ?hcell ?hkind ?hnames
  walk_at "comp sides"
  repeat' walk1
  rename_i rR hR tR u1 u2 u3 TR
  refine comp_range (s := s) [] _ 16 (fun i g own ys => own = [] ∧ StrsAre ys ((List.range i).map (wordK kind))) rA.hh TR (List.Perm.refl _) (mu_rng TR (.head _)) (by decide) (by decide) (by decide) ⟨⟨rfl, .nil⟩, by decide, ?_, ?_⟩
  · rintro C i v g₁ m₁ own₁ tl₁ h₁ t₁ ys hi hsub x₁ ⟨tv, hv⟩ ⟨rfl, hys⟩ T7 Post hPost
    obtain rfl : v = .int (i : Int) tv := by rw [hv, Int.zero_add]
    have G7 := G6.up x₁
    have c2 := cell_up x₁ c2
    repeat' walk1
    have hsh := shift_le kind hkind
    refine s_lsh (by omega) (by omega) (by omega) ?_
    rw [Int.toNat_natCast]
    repeat' walk1
    refine c_flags (rA.le (by decide) (by decide)) G7 (by assumption) rfl (flags_fit kind hkind i hi) fun h' t' ty T' => ?_
    refine hPost _ _ (cp_end (s := s) (own₂ := []) T' Ext.rfl' ⟨rfl, ?_⟩)
    rw [List.range_succ, List.map_append]
    exact strs_app hys (.cons _ _ .nil)
  · rintro g7 own₁ h7 t7 aW wvs eW y7 ⟨rfl, hW⟩ T7 T8
    obtain ⟨g8, y8, T9, eW'⟩ := T8.freeze
    subst hml
    have T9 : At g8 L _ ((L + 10, o10) :: (L + 9, o9) :: (L + 8, o8) :: (L + 7, o7) :: (L + 6, o6) :: (L + 5, o5) :: (L + 4, o4) :: mu) h7 := T9.sub (by walk_at "sublist")
    refine r_storePF (pre := [_, _, _, _, _, _]) T9 rfl d4 (fun g9 h9 y9 c4 T10 => ?_)
    have T10 : At g9 L _ ((L + 10, o10) :: (L + 9, o9) :: (L + 8, o8) :: (L + 7, o7) :: (L + 6, o6) :: (L + 5, o5) :: mu) h9 := T10
    obtain ⟨m10, hm10, T10⟩ := At.hide T10
    have et10 : m10 "told" = some (.ref aD) := by rw [hm10]; with_unfolding_all rfl
    clear hm10
    generalize hml : ((L + 10, o10) :: (L + 9, o9) :: (L + 8, o8) :: (L + 7, o7) :: (L + 6, o6) :: (L + 5, o5) :: mu : Led) = ml at T10
    have y79 := (y7.tr y8).tr y9
    have G9 := G6.up y79
    have hNum9 := isList_up y79 hNum6
    have hToldL9 := isList_up y79 hToldL6
    have c1 := cell_up y79 c1
    have c2 := cell_up y79 c2
    have c3 := cell_up y79 c3
    have eW9 := y9 _ _ eW'
    have hW : StrsAre wvs (wordsK kind) := hW
    clear T7 T8 T9 T6
    repeat' walk1
    refine' s_AssignCompK (s := s) (E := fun _ _ => False) ?_ ?hsw ?hclos ?hpush ?hkind ?hnames ?hy ?hke
    walk_at "compAK sides"
    repeat' walk1
    rename_i rR hR tR u1 u2 u3 TR
    refine comp_rangeK (s := s) [] _ 16 (fun i g own ys => own = [] ∧ StrsAre ys ((List.range i).map (saidOf kind))) rA.hh TR (List.Perm.refl _) (mu_rng TR (.head _)) (by decide) (by decide) (by decide) ⟨⟨rfl, .nil⟩, by decide, ?_, ?_⟩
    · rintro C o v₀ i v g₁ m₁ own₁ tl₁ h₁ t₁ ys hi hsub x₁ ⟨tv, hv⟩ ho ⟨rfl, hys⟩ T4 Post hPost
      obtain rfl : v = .int (i : Int) tv := by rw [hv, Int.zero_add]
      have G1 := G9.up x₁
      have c3 := cell_up x₁ c3
      walk1
      refine r_storeP (pre := []) T4 rfl ho (fun o h2 ho T5 => ?_)
      have T5 : At g₁ C m₁ ((C + 1, o) :: tl₁) h2 := T5
      repeat' walk1
      refine' s_ListComp (s := s) (E := fun _ _ => False) ?_ ?hclos ?hcell ?hkind ?hnames
      walk_at "comp sides"
      repeat' walk1
      obtain ⟨hsp4, hspl⟩ := four_len kind hkind
      refine s_split T5 (by decide +kernel) (Nat.le_trans (Nat.add_le_add_right (four_size kind hkind) 2) (by decide)) fun aP ls hP tP hls TP => ?_
      have hspS : StrsAre (strValues ls) (Txt.split (fourOf kind) (Str.ofString " ")) := hls ▸ strsAre_of_values ls
      generalize strValues ls = svs at hspS TP
      have hsl : svs.length = 4 := by rw [strs_len hspS, hsp4]
      repeat' walk1
      refine comp_enum (s := s) [] _ (fun j g own zs => own = [] ∧ StrsAre zs (((List.range j).filter fun b => i / 2 ^ b % 2 == 1).filterMap fun b => (Txt.split (fourOf kind) (Str.ofString " "))[b]?)) rA.hh TP (List.Perm.refl _) (mu_isL TP (.head _)) (.inr (.head _)) ⟨⟨rfl, .nil⟩, by rw [hsl]; decide, ?_, ?_⟩
      · rintro C2 j v g₂ m₂ own₂ tl₂ h₂ t₂ zs hj hsub₂ x₂ ⟨aT, tj, x, rfl, hx, hT⟩ ⟨rfl, hzs⟩ T6 Post hPost
        obtain ⟨sx, tx, rfl, hsx⟩ := strs_getV hspS hx
        have hcm := hsub₂ (C + 1, o) (by walk_at "mem")
        have hfs := bits_step (fun b => i / 2 ^ b % 2 == 1) hsx
        repeat' walk1
        · rename_i hS5 tS5 TS5 hb
          rw [bit_eq] at hb
          refine hPost _ _ (cp_end (s := s) (own₂ := []) TS5 Ext.rfl' ⟨rfl, ?_⟩)
          rw [hfs, if_pos (bit_one hb)]
          exact strs_app hzs (.cons _ _ .nil)
        · rename_i hS5 tS5 TS5 hb
          rw [bit_eq] at hb
          refine hPost _ _ (cp_end (s := s) (own₂ := []) TS5 Ext.rfl' ⟨rfl, ?_⟩)
          rw [hfs, if_neg (bit_zero hb), List.append_nil]
          exact hzs
      · rintro g₂ own₂ h₂ t₂ D2 zs e2 x₂ ⟨rfl, hzs⟩ T6 T7
        have hzl : zs.length ≤ 4 := by rw [strs_len hzs, hsl]; exact bits_len _ _ 4
        have hzs : StrsAre zs (bitsOf kind i) := by rw [hsl] at hzs; exact hzs
        repeat' walk1
        · rename_i hpos
          have hb0 : bitsOf kind i ≠ [] := fun q => by rw [q] at hzs; cases hzs; exact absurd hpos (Nat.lt_irrefl _)
          refine s_join T7 (mu_isL T7 (.head _)) hzs (bits_fit kind hkind i hi) fun t' t'' => ?_
          refine hPost _ _ (cp_end (s := s) (own₂ := [(C + 1, o)]) (T7.sub (by walk_at "sublist")) x₂ ⟨o, _, [], rfl, ho, rfl, ?_⟩)
          rw [List.range_succ, List.map_append]
          refine strs_app hys ?_
          show StrsAre _ [saidOf kind i]
          unfold saidOf
          rw [if_neg hb0]
          exact .cons _ _ .nil
        · rename_i hpos aN hN TN
          have hb0 : bitsOf kind i = [] := by
            have : zs.length = 0 := by omega
            rw [strs_len hzs] at this
            exact List.length_eq_zero_iff.mp this
          refine s_join (ys := [Str.ofString "0x0"]) TN (mu_isL TN (.head _)) (.cons _ _ .nil) (by decide +kernel) fun t' t'' => ?_
          refine hPost _ _ (cp_end (s := s) (own₂ := [(C + 1, o)]) (TN.sub (by walk_at "sublist")) x₂ ⟨o, _, [], rfl, ho, rfl, ?_⟩)
          rw [List.range_succ, List.map_append]
          refine strs_app hys ?_
          show StrsAre _ [saidOf kind i]
          unfold saidOf
          rw [if_pos hb0]
          exact .cons _ _ .nil
    · rintro g10 own₁ h10 t10 aS svs eS y10 ⟨rfl, hS⟩ T7 T8 h11 t11 T11
      have hS : StrsAre svs (wordsK kind) := by
        have e : (List.range 16).map (saidOf kind) = wordsK kind := List.map_congr_left fun m hm => said_eq kind hkind m (List.mem_range.mp hm)
        rwa [e] at hS
      obtain ⟨g11, y11, T12, eS'⟩ := T11.freeze
      have T12 : At g11 L _ (ml) h11 := T12.sub (by walk_at "sublist")
      have y9_11 := y10.tr y11
      have G11 := G9.up y9_11
      have hNum11 := isList_up y9_11 hNum9
      have hToldL11 := isList_up y9_11 hToldL9
      have c1 := cell_up y9_11 c1
      have c4 := cell_up y9_11 c4
      have eW11 := y9_11 _ _ eW9
      clear T7 T8 T11 T10
      walk1
      refine' s_AssignComp (s := s) (E := fun _ _ => False) ?_ ?hsw ?hclos ?hcell ?hkind ?hnames ?hy ?hke
      walk_at "compA sides"
      repeat' walk1
      rename_i aO hO TO
      refine comp_tuple (s := s) [] _ (fun i g own ys => own = [] ∧ ys = []) rA.hh TO (List.Perm.refl _) (mu_isT TO (.head _)) (.inr (.head _)) ⟨⟨rfl, rfl⟩, (show 4 ≤ sizeLine by decide), ?_, ?_⟩
      · rintro C i v g₁ m₁ own₁ tl₁ h₁ t₁ ys hi hsub x₁ hvi ⟨rfl, rfl⟩ T4 Post hPost
        have G1 := G11.up x₁
        obtain ⟨z, tz, rfl, hz⟩ : ∃ z tz, v = .int z tz ∧ ([-1, 0, 255, 256] : List Int)[i]? = some z := by
          match i, hi with
          | 0, _ => exact ⟨_, _, (Option.some.inj hvi).symm, rfl⟩
          | 1, _ => exact ⟨_, _, (Option.some.inj hvi).symm, rfl⟩
          | 2, _ => exact ⟨_, _, (Option.some.inj hvi).symm, rfl⟩
          | 3, _ => exact ⟨_, _, (Option.some.inj hvi).symm, rfl⟩
        repeat' walk1
        · exfalso
          rename_i hq
          rw [show decide (z ≥ 256) = decide (255 < z) from decide_eq_decide.mpr (by omega)] at hq
          simp at hq
        · exfalso
          rename_i hq
          simp at hq
        · exfalso
          rename_i hq
          simp at hq
        · exact hPost _ _ (cp_end (s := s) (own₂ := []) (by assumption) Ext.rfl' ⟨rfl, rfl⟩)
      · rintro g13 own₁ h12 t12 aO2 ovs eO y13 ⟨rfl, rfl⟩ T7 T8 h13 t13 T13
        have T13 : At g13 L _ ((aO2, lst [] eO) :: (aO, _) :: ml) h13 := T13
        obtain ⟨m13, hm13, T13⟩ := At.hide T13
        have et13 : m13 "told" = some (.ref aD) := by rw [hm13]; with_unfolding_all exact et10
        have es13 : m13 "said" = some (.ref aS) := by rw [hm13]; with_unfolding_all rfl
        have eo13 : m13 "odd" = some (.ref aO2) := by rw [hm13]; with_unfolding_all rfl
        clear hm13
        have G13 := G11.up y13
        have hNum13 := isList_up y13 hNum11
        have hToldL13 := isList_up y13 hToldL11
        have c1 := cell_up y13 c1
        have c4 := cell_up y13 c4
        have eW13 := y13 _ _ eW11
        clear T7 T8
        have hu64 := (Nat.lt_of_le_of_lt (Nat.add_le_add_left (show 64 ≤ 1997 by decide) _) rA.hu)
        repeat' ((fail_if_success (with_reducible show wpAny _ _ (compareOp CmpOp.NotEq (Value.ref _) (Value.ref _)) _ _ _)); (fail_if_success (with_reducible show wpAny _ _ (compareOp CmpOp.Eq (Value.ref _) (Value.ref _)) _ _ _)); walk1)
        refine s_neD (s := s) (da := .list ([(n0 : Int), (n1 : Int)].map .int)) (db := .list ([(n0 : Int), (n1 : Int)].map .int)) (Rd.isL (isList_up T13.keep hToldL13) (RdA.ints hTold)) (Rd.isL (isList_up T13.keep hNum13) (RdA.ints (.cons _ _ (.cons _ _ .nil)))) (lay_ints _) (lay_ints _) (depth_ints _) hu64 ?_
        rw [eqv_ints, decide_eq_true rfl]
        repeat' ((fail_if_success (with_reducible show wpAny _ _ (compareOp CmpOp.NotEq (Value.ref _) (Value.ref _)) _ _ _)); (fail_if_success (with_reducible show wpAny _ _ (compareOp CmpOp.Eq (Value.ref _) (Value.ref _)) _ _ _)); walk1)
        have eS13 := y13 _ _ (Ext.rfl' _ _ eS')
        refine s_neD (s := s) (da := .list ((wordsK kind).map .str)) (db := .list ((wordsK kind).map .str)) (Rd.isL (lst_isL (T13.keep _ _ eW13)) (RdA.strs hW)) (Rd.isL (lst_isL (T13.keep _ _ eS13)) (RdA.strs hS)) (lay_strs (words_strok kind hkind)) (lay_strs (words_strok kind hkind)) (depth_strs _) hu64 ?_
        rw [eqv_strs, decide_eq_true rfl]
        repeat' ((fail_if_success (with_reducible show wpAny _ _ (compareOp CmpOp.NotEq (Value.ref _) (Value.ref _)) _ _ _)); (fail_if_success (with_reducible show wpAny _ _ (compareOp CmpOp.Eq (Value.ref _) (Value.ref _)) _ _ _)); walk1)
        rename_i aX hX TX
        refine s_neD (s := s) (da := .list (([] : List Int).map .int)) (db := .list (([] : List Int).map .int)) (Rd.isL (mu_isL TX (.tail _ (.head _))) RdA.nil) (Rd.isL (mu_isL TX (.head _)) RdA.nil) (lay_ints _) (lay_ints _) (depth_ints _) hu64 ?_
        rw [eqv_ints, decide_eq_true rfl]
        have T14 : At g13 L _ (ml) hX := TX.sub (by walk_at "sublist")
        clear TX T13
        repeat' ((fail_if_success (with_reducible show wpAny _ _ (compareOp CmpOp.NotEq (Value.ref _) (Value.ref _)) _ _ _)); (fail_if_success (with_reducible show wpAny _ _ (compareOp CmpOp.Eq (Value.ref _) (Value.ref _)) _ _ _)); walk1)
        refine c_said (s := s) (rA.le (by decide) (by decide)) G13 T14 hToldL13 hTold eW13 hW (words_ok hkind) (by
          intro n hn
          rcases List.mem_cons.mp hn with rfl | hn
          · exact hn0 ▸ num0_op x0
          · rcases List.mem_cons.mp hn with rfl | hn
            · exact hn1 ▸ num1_op x0 x1
            · cases hn) fun aT2 tb hlA an rvs er avs ea g15 h15 t15 y15 hTb I T15 => ?_
        obtain ⟨g16, y16, T16, eT2⟩ := T15.freeze
        obtain ⟨g17, y17, T17, eAn⟩ := T16.freeze
        have T17 : At g17 L _ ((hlA, lst rvs er) :: ml) h15 := T17
        have y1317 := (y15.tr y16).tr y17
        have y1517 := y16.tr y17
        have G17 := G13.up y1317
        have hTb17 := hTb.up y1517
        have I17 := I.up y1517
        have hTup2 : g17.IsTuple aT2 #[.ref tb, .ref an] := ⟨_, y17 _ _ eT2, rfl, _, rfl⟩
        have hNum17 := isList_up y1317 hNum13
        have hToldL17 := isList_up y1317 hToldL13
        have c1 := cell_up y1317 c1
        have c4 := cell_up y1317 c4
        have eW17 := y1317 _ _ eW13
        clear T14 T15 T16
        repeat' ((fail_if_success (with_reducible show wpAny _ _ (compareOp CmpOp.NotEq (Value.ref _) (Value.ref _)) _ _ _)); (fail_if_success (with_reducible show wpAny _ _ (compareOp CmpOp.Eq (Value.ref _) (Value.ref _)) _ _ _)); walk1)
        subst hml
        refine r_storePF (pre := [_, _, _, _, _, _]) (by assumption) rfl d5 (fun g18 h18 y18 c5 T18 => ?_)
        repeat' ((fail_if_success (with_reducible show wpAny _ _ (compareOp CmpOp.NotEq (Value.ref _) (Value.ref _)) _ _ _)); (fail_if_success (with_reducible show wpAny _ _ (compareOp CmpOp.Eq (Value.ref _) (Value.ref _)) _ _ _)); walk1)
        refine r_storePF (pre := [_, _, _, _, _]) T18 rfl d6 (fun g19 h19 y19 c6 T19 => ?_)
        have T19 : At g19 L _ ((hlA, lst rvs er) :: (L + 10, o10) :: (L + 9, o9) :: (L + 8, o8) :: (L + 7, o7) :: mu) h19 := T19
        generalize hml : ((L + 10, o10) :: (L + 9, o9) :: (L + 8, o8) :: (L + 7, o7) :: mu : Led) = ml at T19
        have y1719 := y18.tr y19
        have G19 := G17.up y1719
        have hTb19 := hTb17.up y1719
        have I19 := I17.up y1719
        have hNum19 := isList_up y1719 hNum17
        have hToldL19 := isList_up y1719 hToldL17
        have c1 := cell_up y1719 c1
        have c4 := cell_up y1719 c4
        have c5 := cell_up y19 c5
        have eW19 := y1719 _ _ eW17
        have eAn19 := y1719 _ _ eAn
        clear T17 T18
        have hf0 : (n0 : Int).fmod 16 = ((n0 % 16 : Nat) : Int) := by rw [Int.fmod_eq_emod_of_nonneg _ (by decide)]; omega
        have hf1 : (n1 : Int).fmod 16 = ((n1 % 16 : Nat) : Int) := by rw [Int.fmod_eq_emod_of_nonneg _ (by decide)]; omega
        repeat' ((fail_if_success (with_reducible show wpAny _ _ (compareOp CmpOp.NotEq (Value.ref _) (Value.ref _)) _ _ _)); (fail_if_success (with_reducible show wpAny _ _ (compareOp CmpOp.Eq (Value.ref _) (Value.ref _)) _ _ _)); walk1)
        refine' s_ListComp (s := s) (E := fun _ _ => False) ?_ ?hclos ?hcell ?hkind ?hnames
        walk_at "comp sides"
        repeat' ((fail_if_success (with_reducible show wpAny _ _ (compareOp CmpOp.NotEq (Value.ref _) (Value.ref _)) _ _ _)); (fail_if_success (with_reducible show wpAny _ _ (compareOp CmpOp.Eq (Value.ref _) (Value.ref _)) _ _ _)); walk1)
        refine c_fam (s := s) (rA.le (by decide) (by decide)) G19 T19 fun aF fvs eF g20 h20 t20 y20 hF T20 => ?_
        repeat' ((fail_if_success (with_reducible show wpAny _ _ (compareOp CmpOp.NotEq (Value.ref _) (Value.ref _)) _ _ _)); (fail_if_success (with_reducible show wpAny _ _ (compareOp CmpOp.Eq (Value.ref _) (Value.ref _)) _ _ _)); walk1)
        have G20 := G19.up y20
        have hNum20 := isList_up y20 hNum19
        have c1_20 := cell_up y20 c1
        refine comp_list (s := s) [] _ (fun i g own ys => own = [] ∧ FamsAre g ys ((famsN.take i).filter (famP n0 n1))) rA.hh T20 (List.Perm.refl _) (mu_isL T20 (.head _)) (.inr (.head _)) ⟨⟨rfl, .nil⟩, ?_, ?_, ?_⟩
        · rw [hF.length]; exact (show famsN.length ≤ sizeLine by decide)
        · rintro C i v g₁ m₁ own₁ tl₁ h₁ t₁ ys hi hsub x₁ hv ⟨rfl, hys⟩ T4 Post hPost
          obtain ⟨fam, hfam, hfA⟩ := hF.get hv
          have hfA := hfA.up x₁
          obtain ⟨aX, xvs, rfl, hq, hxi⟩ := id hfA
          have G1 := G20.up x₁
          have c1 := cell_up x₁ c1_20
          have hNum1 := isList_up x₁ hNum20
          repeat' ((fail_if_success (with_reducible show wpAny _ _ (compareOp CmpOp.NotEq (Value.ref _) (Value.ref _)) _ _ _)); (fail_if_success (with_reducible show wpAny _ _ (compareOp CmpOp.Eq (Value.ref _) (Value.ref _)) _ _ _)); (fail_if_success (with_reducible show wpAny _ _ (compareOp CmpOp.In (Value.int _ _) (Value.ref _)) _ _ _)); (fail_if_success (with_reducible show wpAny _ _ (compareOp CmpOp.NotIn (Value.int _ _) (Value.ref _)) _ _ _)); walk1)
          rw [hf0]
          rename At g₁ _ _ _ _ => TS
          refine s_inFam (hfA.up TS.keep) ?_
          cases hA : fam.any (· == n0 % 16) with
          | false =>
            repeat' ((fail_if_success (with_reducible show wpAny _ _ (compareOp CmpOp.NotEq (Value.ref _) (Value.ref _)) _ _ _)); (fail_if_success (with_reducible show wpAny _ _ (compareOp CmpOp.Eq (Value.ref _) (Value.ref _)) _ _ _)); (fail_if_success (with_reducible show wpAny _ _ (compareOp CmpOp.In (Value.int _ _) (Value.ref _)) _ _ _)); (fail_if_success (with_reducible show wpAny _ _ (compareOp CmpOp.NotIn (Value.int _ _) (Value.ref _)) _ _ _)); walk1)
            refine hPost _ _ (cp_end (s := s) (own₂ := []) (by assumption) Ext.rfl' ⟨rfl, ?_⟩)
            rw [filt_neg _ hfam (by unfold famP; rw [hA]; rfl)]
            exact hys
          | true =>
            repeat' ((fail_if_success (with_reducible show wpAny _ _ (compareOp CmpOp.NotEq (Value.ref _) (Value.ref _)) _ _ _)); (fail_if_success (with_reducible show wpAny _ _ (compareOp CmpOp.Eq (Value.ref _) (Value.ref _)) _ _ _)); (fail_if_success (with_reducible show wpAny _ _ (compareOp CmpOp.In (Value.int _ _) (Value.ref _)) _ _ _)); (fail_if_success (with_reducible show wpAny _ _ (compareOp CmpOp.NotIn (Value.int _ _) (Value.ref _)) _ _ _)); walk1)
            rw [hf1]
            refine s_inFam (hfA.up TS.keep) ?_
            cases hB : fam.any (· == n1 % 16) with
            | false =>
              repeat' ((fail_if_success (with_reducible show wpAny _ _ (compareOp CmpOp.NotEq (Value.ref _) (Value.ref _)) _ _ _)); (fail_if_success (with_reducible show wpAny _ _ (compareOp CmpOp.Eq (Value.ref _) (Value.ref _)) _ _ _)); (fail_if_success (with_reducible show wpAny _ _ (compareOp CmpOp.In (Value.int _ _) (Value.ref _)) _ _ _)); (fail_if_success (with_reducible show wpAny _ _ (compareOp CmpOp.NotIn (Value.int _ _) (Value.ref _)) _ _ _)); walk1)
              refine hPost _ _ (cp_end (s := s) (own₂ := []) (by assumption) Ext.rfl' ⟨rfl, ?_⟩)
              rw [filt_neg _ hfam (by unfold famP; rw [hA, hB]; rfl)]
              exact hys
            | true =>
              repeat' ((fail_if_success (with_reducible show wpAny _ _ (compareOp CmpOp.NotEq (Value.ref _) (Value.ref _)) _ _ _)); (fail_if_success (with_reducible show wpAny _ _ (compareOp CmpOp.Eq (Value.ref _) (Value.ref _)) _ _ _)); (fail_if_success (with_reducible show wpAny _ _ (compareOp CmpOp.In (Value.int _ _) (Value.ref _)) _ _ _)); (fail_if_success (with_reducible show wpAny _ _ (compareOp CmpOp.NotIn (Value.int _ _) (Value.ref _)) _ _ _)); walk1)
              refine hPost _ _ (cp_end (s := s) (own₂ := []) (by assumption) Ext.rfl' ⟨rfl, ?_⟩)
              rw [filt_pos _ hfam (by unfold famP; rw [hA, hB]; rfl)]
              exact hys.snoc hfA
        · rintro g21 own₁ h21 t21 aK kvs eK y21 ⟨rfl, hK⟩ T7 T8
          have hK : FamsAre g21 kvs (famsK n0 n1) := by
            rw [hF.length, List.take_length] at hK
            exact hK
          obtain ⟨g22, y22, T9, eK'⟩ := T8.freeze
          subst hml
          have T9 : At g22 L _ ((hlA, lst rvs er) :: (L + 10, o10) :: (L + 9, o9) :: (L + 8, o8) :: (L + 7, o7) :: mu) h21 := T9.sub (by walk_at "sublist")
          repeat' ((fail_if_success (with_reducible show wpAny _ _ (compareOp CmpOp.NotEq (Value.ref _) (Value.ref _)) _ _ _)); (fail_if_success (with_reducible show wpAny _ _ (compareOp CmpOp.Eq (Value.ref _) (Value.ref _)) _ _ _)); walk1)
          refine r_storePF (pre := [_, _, _, _]) T9 rfl d7 (fun g23 h23 y23 c7 T10 => ?_)
          have T10 : At g23 L _ ((hlA, lst rvs er) :: (L + 10, o10) :: (L + 9, o9) :: (L + 8, o8) :: mu) h23 := T10
          generalize hml : ((L + 10, o10) :: (L + 9, o9) :: (L + 8, o8) :: mu : Led) = ml at T10
          have y1923 := ((y20.tr y21).tr y22).tr y23
          have G23 := G19.up y1923
          have hK23 := hK.up (y22.tr y23)
          have eK23 := y23 _ _ eK'
          have hTb23 := hTb19.up y1923
          have I23 := I19.up y1923
          have hNum23 := isList_up y1923 hNum19
          have hToldL23 := isList_up y1923 hToldL19
          have c1 := cell_up y1923 c1
          have c4 := cell_up y1923 c4
          have c5 := cell_up y1923 c5
          have c6 := cell_up y1923 c6
          have eW23 := y1923 _ _ eW19
          have eAn23 := y1923 _ _ eAn19
          clear T7 T8 T9 T20 T19
          repeat' ((fail_if_success (with_reducible show wpAny _ _ (compareOp CmpOp.NotEq (Value.ref _) (Value.ref _)) _ _ _)); (fail_if_success (with_reducible show wpAny _ _ (compareOp CmpOp.Eq (Value.ref _) (Value.ref _)) _ _ _)); walk1)
          refine' s_ListCompK (s := s) (E := fun _ _ => False) ?_ ?hclos ?hpush ?hkind ?hnames
          walk_at "compK sides"
          repeat' ((fail_if_success (with_reducible show wpAny _ _ (compareOp CmpOp.NotEq (Value.ref _) (Value.ref _)) _ _ _)); (fail_if_success (with_reducible show wpAny _ _ (compareOp CmpOp.Eq (Value.ref _) (Value.ref _)) _ _ _)); walk1)
          rename_i rR hR tR u1 u2 u3 TR
          refine comp_rangeK (s := s) [] _ 16 (fun i g own ys => own = [] ∧ IntsAre ys (((List.range i).filter (dueP n0 n1)).map fun (n : Nat) => (n : Int))) rA.hh TR (List.Perm.refl _) (mu_rng TR (.head _)) (by decide) (by decide) (by decide) ⟨⟨rfl, .nil⟩, by decide, ?_, ?_⟩
          · rintro C o v₀ i v g₁ m₁ own₁ tl₁ h₁ t₁ ys hi hsub x₁ ⟨tv, hv⟩ ho ⟨rfl, hys⟩ T4 Post hPost
            obtain rfl : v = .int (i : Int) tv := by rw [hv, Int.zero_add]
            have G1 := G23.up x₁
            have c7 := cell_up x₁ c7
            have eK1 := x₁ _ _ eK23
            have hK1 := hK23.up x₁
            walk1
            refine r_storeP (pre := []) T4 rfl ho (fun o h2 ho T5 => ?_)
            have T5 : At g₁ C m₁ ((C + 1, o) :: tl₁) h2 := T5
            repeat' ((fail_if_success (with_reducible show wpAny _ _ (compareOp CmpOp.NotEq (Value.ref _) (Value.ref _)) _ _ _)); (fail_if_success (with_reducible show wpAny _ _ (compareOp CmpOp.Eq (Value.ref _) (Value.ref _)) _ _ _)); walk1)
            refine' s_ListComp (s := s) (E := fun _ _ => False) ?_ ?hclos ?hcell ?hkind ?hnames
            walk_at "comp sides"
            repeat' ((fail_if_success (with_reducible show wpAny _ _ (compareOp CmpOp.NotEq (Value.ref _) (Value.ref _)) _ _ _)); (fail_if_success (with_reducible show wpAny _ _ (compareOp CmpOp.Eq (Value.ref _) (Value.ref _)) _ _ _)); walk1)
            refine comp_list (s := s) [] _ (fun j g own zs => own = [] ∧ FamsAre g zs (((famsK n0 n1).take j).filter fun fam => !fam.any (· == i))) rA.hh T5 (List.Perm.refl _) (lst_isL (T5.keep _ _ eK1)) (.inl ⟨_, eK1⟩) ⟨⟨rfl, .nil⟩, by rw [hK1.length]; exact fams_sz n0 n1, ?_, ?_⟩
            · rintro C2 j v g₂ m₂ own₂ tl₂ h₂ t₂ zs hj hsub₂ x₂ hv ⟨rfl, hzs⟩ T6 Post hPost
              have hcm := hsub₂ (C + 1, o) (by walk_at "mem")
              obtain ⟨fam, hfam, hfA⟩ := hK1.get hv
              have hfA := hfA.up x₂
              obtain ⟨aX, xvs, rfl, hq, hxi⟩ := id hfA
              repeat' ((fail_if_success (with_reducible show wpAny _ _ (compareOp CmpOp.NotEq (Value.ref _) (Value.ref _)) _ _ _)); (fail_if_success (with_reducible show wpAny _ _ (compareOp CmpOp.Eq (Value.ref _) (Value.ref _)) _ _ _)); (fail_if_success (with_reducible show wpAny _ _ (compareOp CmpOp.In (Value.int _ _) (Value.ref _)) _ _ _)); (fail_if_success (with_reducible show wpAny _ _ (compareOp CmpOp.NotIn (Value.int _ _) (Value.ref _)) _ _ _)); walk1)
              rename At g₂ _ _ _ _ => TS
              refine s_notInFam (hfA.up TS.keep) ?_
              cases hA : fam.any (· == i) with
              | true =>
                repeat' ((fail_if_success (with_reducible show wpAny _ _ (compareOp CmpOp.NotEq (Value.ref _) (Value.ref _)) _ _ _)); (fail_if_success (with_reducible show wpAny _ _ (compareOp CmpOp.Eq (Value.ref _) (Value.ref _)) _ _ _)); (fail_if_success (with_reducible show wpAny _ _ (compareOp CmpOp.In (Value.int _ _) (Value.ref _)) _ _ _)); (fail_if_success (with_reducible show wpAny _ _ (compareOp CmpOp.NotIn (Value.int _ _) (Value.ref _)) _ _ _)); walk1)
                refine hPost _ _ (cp_end (s := s) (own₂ := []) (by assumption) Ext.rfl' ⟨rfl, ?_⟩)
                rw [filt_neg _ hfam (by rw [hA]; rfl)]
                exact hzs
              | false =>
                repeat' ((fail_if_success (with_reducible show wpAny _ _ (compareOp CmpOp.NotEq (Value.ref _) (Value.ref _)) _ _ _)); (fail_if_success (with_reducible show wpAny _ _ (compareOp CmpOp.Eq (Value.ref _) (Value.ref _)) _ _ _)); (fail_if_success (with_reducible show wpAny _ _ (compareOp CmpOp.In (Value.int _ _) (Value.ref _)) _ _ _)); (fail_if_success (with_reducible show wpAny _ _ (compareOp CmpOp.NotIn (Value.int _ _) (Value.ref _)) _ _ _)); walk1)
                refine hPost _ _ (cp_end (s := s) (own₂ := []) (by assumption) Ext.rfl' ⟨rfl, ?_⟩)
                rw [filt_pos _ hfam (by rw [hA]; rfl)]
                exact hzs.snoc hfA
            · rintro g₂ own₂ h₂ t₂ D2 zs e2 x₂ ⟨rfl, hzs⟩ T6 T7
              have hzs : FamsAre g₂ zs (outOf n0 n1 i) := by rw [hK1.length, List.take_length] at hzs; exact hzs
              repeat' ((fail_if_success (with_reducible show wpAny _ _ (compareOp CmpOp.NotEq (Value.ref _) (Value.ref _)) _ _ _)); (fail_if_success (with_reducible show wpAny _ _ (compareOp CmpOp.Eq (Value.ref _) (Value.ref _)) _ _ _)); walk1)
              rename_i aX hX TX
              obtain ⟨ds, q1, q2, q3, q4⟩ := hzs.rd
              refine s_eqD (s := s) (da := .list ds) (db := .list (([] : List Int).map .int)) (Rd.isL (mu_isL TX (.tail _ (.head _))) (q1.up TX.keep)) (Rd.isL (mu_isL TX (.head _)) RdA.nil) (by rw [PyData.canLay0]; exact q2) (lay_ints _) (by rw [PyData.depth]; omega) hu64 ?_
              rw [show PyData.eqv (.list ds) (.list (([] : List Int).map .int)) = dueP n0 n1 i from by rw [PyData.eqv]; exact q4]
              cases hd : dueP n0 n1 i with
              | true =>
                repeat' ((fail_if_success (with_reducible show wpAny _ _ (compareOp CmpOp.NotEq (Value.ref _) (Value.ref _)) _ _ _)); (fail_if_success (with_reducible show wpAny _ _ (compareOp CmpOp.Eq (Value.ref _) (Value.ref _)) _ _ _)); walk1)
                refine hPost _ _ (cp_end (s := s) (own₂ := [(C + 1, o)]) (TX.sub (by walk_at "sublist")) x₂ ⟨o, _, [], rfl, ho, rfl, ?_⟩)
                rw [List.range_succ, List.filter_append, List.filter_cons_of_pos hd, List.filter_nil, List.map_append]
                exact hys.append (.cons _ _ .nil)
              | false =>
                repeat' ((fail_if_success (with_reducible show wpAny _ _ (compareOp CmpOp.NotEq (Value.ref _) (Value.ref _)) _ _ _)); (fail_if_success (with_reducible show wpAny _ _ (compareOp CmpOp.Eq (Value.ref _) (Value.ref _)) _ _ _)); walk1)
                refine hPost _ _ (cp_end (s := s) (own₂ := [(C + 1, o)]) (TX.sub (by walk_at "sublist")) x₂ ⟨o, _, [], rfl, ho, rfl, ?_⟩)
                rw [List.range_succ, List.filter_append, List.filter_cons_of_neg (by rw [hd]; exact Bool.false_ne_true), List.filter_nil, List.append_nil]
                exact hys
          · rintro g24 own₁ h24 t24 aU uvs eU y24 ⟨rfl, hU⟩ T7 T25
            have hU : IntsAre uvs ((dueN n0 n1).map fun (n : Nat) => (n : Int)) := hU
            obtain ⟨g26, y26, T9, eU'⟩ := T25.freeze
            subst hml
            have T9 : At g26 L _ ((hlA, lst rvs er) :: (L + 10, o10) :: (L + 9, o9) :: (L + 8, o8) :: mu) h24 := T9.sub (by walk_at "sublist")
            repeat' ((fail_if_success (with_reducible show wpAny _ _ (compareOp CmpOp.NotEq (Value.ref _) (Value.ref _)) _ _ _)); (fail_if_success (with_reducible show wpAny _ _ (compareOp CmpOp.Eq (Value.ref _) (Value.ref _)) _ _ _)); walk1)
            refine r_storePF (pre := [_, _, _]) T9 rfl d8 (fun g27 h27 y27 c8 T10 => ?_)
            have T10 : At g27 L _ ((hlA, lst rvs er) :: (L + 10, o10) :: (L + 9, o9) :: mu) h27 := T10
            have y2327 := (y24.tr y26).tr y27
            have G27 := G23.up y2327
            have eU27 := y27 _ _ eU'
            have hTb27 := hTb23.up y2327
            have I27 := I23.up y2327
            have hNum27 := isList_up y2327 hNum23
            have hToldL27 := isList_up y2327 hToldL23
            have c1 := cell_up y2327 c1
            have c4 := cell_up y2327 c4
            have c5 := cell_up y2327 c5
            have c6 := cell_up y2327 c6
            have eW27 := y2327 _ _ eW23
            have eAn27 := y2327 _ _ eAn23
            repeat' ((fail_if_success (with_reducible show wpAny _ _ (compareOp CmpOp.NotEq (Value.ref _) (Value.ref _)) _ _ _)); (fail_if_success (with_reducible show wpAny _ _ (compareOp CmpOp.Eq (Value.ref _) (Value.ref _)) _ _ _)); walk1)
            have W := words_ok hkind
            obtain ⟨st, fs, KF⟩ := kf_ex n0 n1
            rw [KF.a] at I27
            have hrl : rvs.length ≤ 16 := by rw [I27.vlen]; exact I27.len
            refine c_tables (s := s) (rA.le (by decide) (by decide)) G27 T10 hTb27 (.head _) I27.rd (by omega) eW27 (by rw [W.len]; decide) hW (rows_in W I27.lt) fun aFd fvs eFd h28 t28 T28 hFd => ?_
            rw [rows_idx W I27.lt, ← KF.c] at hFd
            repeat' ((fail_if_success (with_reducible show wpAny _ _ (compareOp CmpOp.NotEq (Value.ref _) (Value.ref _)) _ _ _)); (fail_if_success (with_reducible show wpAny _ _ (compareOp CmpOp.Eq (Value.ref _) (Value.ref _)) _ _ _)); walk1)
            refine c_items (s := s) (rA.le (by decide) (by decide)) G27 T28 hTb27 (.tail _ (.head _)) (by omega) fun aR eR h29 t29 T29 => ?_
            obtain ⟨g30, y30, T30, eR'⟩ := T29.freeze
            obtain ⟨g31, y31, T31, eF'⟩ := T30.freeze
            have y2731 := y30.tr y31
            have eR31 := y31 _ _ eR'
            clear T28 T29 T30
            repeat' ((fail_if_success (with_reducible show wpAny _ _ (compareOp CmpOp.NotEq (Value.ref _) (Value.ref _)) _ _ _)); (fail_if_success (with_reducible show wpAny _ _ (compareOp CmpOp.Eq (Value.ref _) (Value.ref _)) _ _ _)); walk1)
            rename At g31 _ _ ((_, tup _) :: _) _ => TT
            refine r_storePF (pre := [_, _, _]) TT rfl d9 (fun g32 h32 y32 c9 T32 => ?_)
            walk1
            walk1
            walk1
            rename At g32 _ _ _ _ => TT2
            have T33 := TT2.sub (mu' := (hlA, lst rvs er) :: (L + 10, o10) :: mu) (by walk_at "sublist")
            have y2732 := y2731.tr y32
            have G32 := G27.up y2732
            have eU32 := y2732 _ _ eU27
            have hTb32 := hTb27.up y2732
            have I32 := I27.up y2732
            have hNum32 := isList_up y2732 hNum27
            have hToldL32 := isList_up y2732 hToldL27
            have c1 := cell_up y2732 c1
            have c4 := cell_up y2732 c4
            have c5 := cell_up y2732 c5
            have c6 := cell_up y2732 c6
            have c8 := cell_up y2732 c8
            have eW32 := y2732 _ _ eW27
            have eAn32 := y2732 _ _ eAn27
            have eR32 := y32 _ _ eR31
            have eF32 := y32 _ _ eF'
            clear TT T32 T31 T10
            have hfl := KF.len
            have hfv : fvs.length = fs.length := by have := hFd.length; simpa using this
            repeat' ((fail_if_success (with_reducible show wpAny _ _ (compareOp CmpOp.NotEq (Value.ref _) (Value.ref _)) _ _ _)); (fail_if_success (with_reducible show wpAny _ _ (compareOp CmpOp.Eq (Value.ref _) (Value.ref _)) _ _ _)); walk1)
            refine s_sorted (s := s) T33 (lst_isL (T33.keep _ _ eF32)) hFd (lay0_small (fun x hx => KF.lt hx) (by omega)) (by omega) fun aS h34 svs sns eS T34 hS hp hq => ?_
            have hs : sns = (dueN n0 n1).map fun (n : Nat) => (n : Int) := sorted_due (by rw [KF.b]; exact hp) hq
            subst hs
            clear T33 hp hq
            repeat' ((fail_if_success (with_reducible show wpAny _ _ (compareOp CmpOp.NotEq (Value.ref _) (Value.ref _)) _ _ _)); (fail_if_success (with_reducible show wpAny _ _ (compareOp CmpOp.Eq (Value.ref _) (Value.ref _)) _ _ _)); walk1)
            refine s_neD (s := s) (da := .list (((dueN n0 n1).map fun (n : Nat) => (n : Int)).map .int)) (db := .list (((dueN n0 n1).map fun (n : Nat) => (n : Int)).map .int)) (Rd.isL (mu_isL T34 (.head _)) (RdA.ints hS)) (Rd.isL (lst_isL (T34.keep _ _ eU32)) (RdA.ints hU)) (lay_ints _) (lay_ints _) (depth_ints _) hu64 ?_
            rw [eqv_ints, decide_eq_true rfl]
            repeat' ((fail_if_success (with_reducible show wpAny _ _ (compareOp CmpOp.NotEq (Value.ref _) (Value.ref _)) _ _ _)); (fail_if_success (with_reducible show wpAny _ _ (compareOp CmpOp.Eq (Value.ref _) (Value.ref _)) _ _ _)); walk1)
            refine' s_ListComp (s := s) (E := fun _ _ => False) ?_ ?hclos ?hcell ?hkind ?hnames
            walk_at "comp sides"
            repeat' ((fail_if_success (with_reducible show wpAny _ _ (compareOp CmpOp.NotEq (Value.ref _) (Value.ref _)) _ _ _)); (fail_if_success (with_reducible show wpAny _ _ (compareOp CmpOp.Eq (Value.ref _) (Value.ref _)) _ _ _)); walk1)
            refine comp_listT (s := s) [] _ (fun i _ own ys => own = [] ∧ StrsAre ys (((rowsOf (wordsK kind) st).take i).map (·.1))) rA.hh T34 (List.Perm.refl _) (lst_isL (T34.keep _ _ eR32)) (.inl ⟨_, eR32⟩) ⟨⟨rfl, .nil⟩, szL (n := 900) (by omega) (by decide), ?_, ?_⟩
            · rintro C i v g₁ m₁ own₁ tl₁ h₁ t₁ ys hi hsub x₁ hv ⟨rfl, hys⟩ T4 Post hPost
              obtain ⟨p, T', ta, tb', hp, rfl, hTT⟩ := I32.rd.rowAt hv
              have hTT' := isTuple_up T4.keep (isTuple_up x₁ hTT)
              repeat' ((fail_if_success (with_reducible show wpAny _ _ (compareOp CmpOp.NotEq (Value.ref _) (Value.ref _)) _ _ _)); (fail_if_success (with_reducible show wpAny _ _ (compareOp CmpOp.Eq (Value.ref _) (Value.ref _)) _ _ _)); walk1)
              refine hPost _ _ (cp_end (own₂ := []) (by assumption) Ext.rfl' ⟨rfl, ?_⟩)
              rw [take_snoc hp, List.map_append]
              exact strs_app hys (.cons _ _ .nil)
            · rintro g35 own₁ h35 t35 aN1 nvs eN1 y35 ⟨rfl, hN1⟩ T7 T8
              have hN1 : StrsAre nvs (fs.map (wd (wordsK kind))) := by
                rw [List.take_of_length_le (by rw [rows_len, I32.vlen]; exact Nat.le_refl _), names_eq, ← KF.c] at hN1
                exact hN1
              have c4_35 := cell_up y35 c4
              have c9_35 := cell_up y35 c9
              have eF35 := y35 _ _ eF32
              have eW35 := y35 _ _ eW32
              clear T7 T34
              repeat' ((fail_if_success (with_reducible show wpAny _ _ (compareOp CmpOp.NotEq (Value.ref _) (Value.ref _)) _ _ _)); (fail_if_success (with_reducible show wpAny _ _ (compareOp CmpOp.Eq (Value.ref _) (Value.ref _)) _ _ _)); walk1)
              refine' s_ListComp (s := s) (E := fun _ _ => False) ?_ ?hclos ?hcell ?hkind ?hnames
              walk_at "comp sides"
              repeat' ((fail_if_success (with_reducible show wpAny _ _ (compareOp CmpOp.NotEq (Value.ref _) (Value.ref _)) _ _ _)); (fail_if_success (with_reducible show wpAny _ _ (compareOp CmpOp.Eq (Value.ref _) (Value.ref _)) _ _ _)); walk1)
              refine comp_list (s := s) [] _ (fun i _ own ys => own = [] ∧ StrsAre ys ((fs.take i).map (wd (wordsK kind)))) rA.hh T8 (List.Perm.refl _) (lst_isL (T8.keep _ _ eF35)) (.inl ⟨_, eF35⟩) ⟨⟨rfl, .nil⟩, szL (n := 900) (by omega) (by decide), ?_, ?_⟩
              · rintro C i v g₁ m₁ own₁ tl₁ h₁ t₁ ys hi hsub x₁ hv ⟨rfl, hys⟩ T4 Post hPost
                obtain ⟨n, tn, rfl, hn'⟩ := nats_getV hFd hv
                have hn16 := KF.lt (List.mem_of_getElem? hn')
                obtain ⟨tx, hx⟩ := strs_get hW (wd_get W hn16)
                have c4 := cell_up x₁ c4_35
                have eW1 := x₁ _ _ eW35
                repeat' ((fail_if_success (with_reducible show wpAny _ _ (compareOp CmpOp.NotEq (Value.ref _) (Value.ref _)) _ _ _)); (fail_if_success (with_reducible show wpAny _ _ (compareOp CmpOp.Eq (Value.ref _) (Value.ref _)) _ _ _)); walk1)
                refine hPost _ _ (cp_end (own₂ := []) (by assumption) Ext.rfl' ⟨rfl, ?_⟩)
                rw [take_snoc hn', List.map_append]
                exact strs_app hys (.cons _ _ .nil)
              · rintro g36 own₁ h36 t36 aN2 nvs2 eN2 y36 ⟨rfl, hN2⟩ T7 T9
                have hN2 : StrsAre nvs2 (fs.map (wd (wordsK kind))) := by
                  rwa [List.take_of_length_le (Nat.le_of_eq hfv.symm)] at hN2
                repeat' ((fail_if_success (with_reducible show wpAny _ _ (compareOp CmpOp.NotEq (Value.ref _) (Value.ref _)) _ _ _)); (fail_if_success (with_reducible show wpAny _ _ (compareOp CmpOp.Eq (Value.ref _) (Value.ref _)) _ _ _)); walk1)
                refine s_neD (s := s) (da := .list ((fs.map (wd (wordsK kind))).map .str)) (db := .list ((fs.map (wd (wordsK kind))).map .str)) (Rd.isL (mu_isL T9 (.tail _ (.head _))) (RdA.strs hN1)) (Rd.isL (mu_isL T9 (.head _)) (RdA.strs hN2)) (lay_strs (KF.words hkind)) (lay_strs (KF.words hkind)) (depth_strs _) hu64 ?_
                rw [eqv_strs, decide_eq_true rfl]
                have T40 : At g36 L _ ((hlA, lst rvs er) :: (L + 10, o10) :: mu) h36 := T9.sub (by walk_at "sublist")
                have y3236 := y35.tr y36
                have G36 := G32.up y3236
                have eU36 := y3236 _ _ eU32
                have hTb36 := hTb32.up y3236
                have I36 := I32.up y3236
                have hNum36 := isList_up y3236 hNum32
                have hToldL36 := isList_up y3236 hToldL32
                have c1 := cell_up y3236 c1
                have c4 := cell_up y3236 c4
                have c5 := cell_up y3236 c5
                have c6 := cell_up y3236 c6
                have c8 := cell_up y3236 c8
                have c9 := cell_up y3236 c9
                have eW36 := y3236 _ _ eW32
                have eAn36 := y3236 _ _ eAn32
                have eR36 := y3236 _ _ eR32
                have eF36 := y3236 _ _ eF32
                clear T7 T9 T8
                have hfs : fs.length = st.length := by rw [KF.c, List.length_map]
                repeat' ((fail_if_success (with_reducible show wpAny _ _ (compareOp CmpOp.NotEq (Value.ref _) (Value.ref _)) _ _ _)); (fail_if_success (with_reducible show wpAny _ _ (compareOp CmpOp.Eq (Value.ref _) (Value.ref _)) _ _ _)); walk1)
                refine' s_ListComp (s := s) (E := fun _ _ => False) ?_ ?hclos ?hcell ?hkind ?hnames
                walk_at "comp sides"
                repeat' ((fail_if_success (with_reducible show wpAny _ _ (compareOp CmpOp.NotEq (Value.ref _) (Value.ref _)) _ _ _)); (fail_if_success (with_reducible show wpAny _ _ (compareOp CmpOp.Eq (Value.ref _) (Value.ref _)) _ _ _)); walk1)
                refine comp_listT (s := s) [] _ (fun i _ own ys => own = [] ∧ StrsAre ys (((rowsOf (wordsK kind) st).take i).map (·.2))) rA.hh T40 (List.Perm.refl _) (lst_isL (T40.keep _ _ eR36)) (.inl ⟨_, eR36⟩) ⟨⟨rfl, .nil⟩, szL (n := 900) (by omega) (by decide), ?_, ?_⟩
                · rintro C i v g₁ m₁ own₁ tl₁ h₁ t₁ ys hi hsub x₁ hv ⟨rfl, hys⟩ T4 Post hPost
                  obtain ⟨p, T', ta, tb', hp, rfl, hTT⟩ := I36.rd.rowAt hv
                  have hTT' := isTuple_up T4.keep (isTuple_up x₁ hTT)
                  repeat' ((fail_if_success (with_reducible show wpAny _ _ (compareOp CmpOp.NotEq (Value.ref _) (Value.ref _)) _ _ _)); (fail_if_success (with_reducible show wpAny _ _ (compareOp CmpOp.Eq (Value.ref _) (Value.ref _)) _ _ _)); walk1)
                  refine hPost _ _ (cp_end (own₂ := []) (by assumption) Ext.rfl' ⟨rfl, ?_⟩)
                  rw [take_snoc hp, List.map_append]
                  exact strs_app hys (.cons _ _ .nil)
                · rintro g37 own₁ h37 t37 aV vvs eV y37 ⟨rfl, hV⟩ T7 T8
                  have hV : StrsAre vvs (st.map (·.2)) := by
                    rw [List.take_of_length_le (by rw [rows_len, I36.vlen]; exact Nat.le_refl _), values_eq] at hV
                    exact hV
                  have G37 := G36.up y37
                  have c6_37 := cell_up y37 c6
                  have c9_37 := cell_up y37 c9
                  have eAn37 := y37 _ _ eAn36
                  have eF37 := y37 _ _ eF36
                  have hToldL37 := isList_up y37 hToldL36
                  clear T7
                  repeat' ((fail_if_success (with_reducible show wpAny _ _ (compareOp CmpOp.NotEq (Value.ref _) (Value.ref _)) _ _ _)); (fail_if_success (with_reducible show wpAny _ _ (compareOp CmpOp.Eq (Value.ref _) (Value.ref _)) _ _ _)); walk1)
                  refine s_neD (s := s) (da := .list ((st.map (·.2)).map .str)) (db := .list ((st.map (·.2)).map .str)) (Rd.isL (mu_isL T8 (.head _)) (RdA.strs hV)) (Rd.isL (lst_isL (T8.keep _ _ eAn37)) (RdA.strs I36.an)) (lay_strs (KF.vals hn0 hn1)) (lay_strs (KF.vals hn0 hn1)) (depth_strs _) hu64 ?_
                  rw [eqv_strs, decide_eq_true rfl]
                  repeat' ((fail_if_success (with_reducible show wpAny _ _ (compareOp CmpOp.NotEq (Value.ref _) (Value.ref _)) _ _ _)); (fail_if_success (with_reducible show wpAny _ _ (compareOp CmpOp.Eq (Value.ref _) (Value.ref _)) _ _ _)); walk1)
                  refine c_again (s := s) (rA.le (by decide) (by decide)) G37 T8 hToldL37 hTold (by simp) (lst_isL eAn37) I36.an (fun i x hx => (KF.step hn0 hn1 hx).1) (by rw [List.length_map, hfs]) (by rw [List.length_map]; omega) fun aG gvs eG h38 t38 hG T38 => ?_
                  repeat' ((fail_if_success (with_reducible show wpAny _ _ (compareOp CmpOp.NotEq (Value.ref _) (Value.ref _)) _ _ _)); (fail_if_success (with_reducible show wpAny _ _ (compareOp CmpOp.Eq (Value.ref _) (Value.ref _)) _ _ _)); walk1)
                  refine s_neD (s := s) (da := .list ((fs.map fun (n : Nat) => (n : Int)).map .int)) (db := .list ((fs.map fun (n : Nat) => (n : Int)).map .int)) (Rd.isL (mu_isL T38 (.head _)) (RdA.ints hG)) (Rd.isL (lst_isL (T38.keep _ _ eF37)) (RdA.ints hFd)) (lay_ints _) (lay_ints _) (depth_ints _) hu64 ?_
                  rw [eqv_ints, decide_eq_true rfl]
                  have T41 : At g37 L _ ((hlA, lst rvs er) :: (L + 10, o10) :: mu) h38 := T38.sub (by walk_at "sublist")
                  have eU37 := y37 _ _ eU36
                  have hTb37 := hTb36.up y37
                  have I37 := I36.up y37
                  have c4_37 := cell_up y37 c4
                  have c5_37 := cell_up y37 c5
                  have c8_37 := cell_up y37 c8
                  have eW37 := y37 _ _ eW36
                  have eR37 := y37 _ _ eR36
                  clear T8 T38 T40
                  repeat' ((fail_if_success (with_reducible show wpAny _ _ (compareOp CmpOp.NotEq (Value.ref _) (Value.ref _)) _ _ _)); (fail_if_success (with_reducible show wpAny _ _ (compareOp CmpOp.Eq (Value.ref _) (Value.ref _)) _ _ _)); walk1)
                  obtain ⟨tx12, hx12⟩ := strs_get hW (wd_get W (show 12 < 16 by decide))
                  obtain ⟨ok1, ok2, ok3, ok4⟩ := W.ok _ (wd_mem W (show 12 < 16 by decide))
                  refine s_item (s := s) (lst_isL (T41.keep _ _ eW37)) (by decide) (by decide) hx12 ?_
                  repeat' ((fail_if_success (with_reducible show wpAny _ _ (compareOp CmpOp.NotEq (Value.ref _) (Value.ref _)) _ _ _)); (fail_if_success (with_reducible show wpAny _ _ (compareOp CmpOp.Eq (Value.ref _) (Value.ref _)) _ _ _)); walk1)
                  refine c_addh (s := s) (rA.le (by decide) (by decide)) G37 T41 hTb37 (by omega) ok2 ok4 (by decide +kernel) (by decide +kernel) I37.rd fun TT g39 er2 h39 t39 y39 T39 rr => ?_
                  have rr : RdA g39 (rvs ++ [.ref TT]) ((rowsOf (wordsK kind) st ++ [(Txt.lower (wd (wordsK kind) 12), Str.ofString "none")]).map rowD) := by
                    have e := join_none
                    rw [← e]
                    exact rr
                  have G39 := G37.up y39
                  have eU39 := y39 _ _ eU37
                  have hTb39 := hTb37.up y39
                  have I39 := I37.up y39
                  have c4_39 := cell_up y39 c4_37
                  have c5_39 := cell_up y39 c5_37
                  have c6_39 := cell_up y39 c6_37
                  have c8_39 := cell_up y39 c8_37
                  have c9_39 := cell_up y39 c9_37
                  have eW39 := y39 _ _ eW37
                  have eR39 := y39 _ _ eR37
                  have eF39 := y39 _ _ eF37
                  have eAn39 := y39 _ _ eAn37
                  clear T41
                  walk1
                  clear hx12 ok1 ok2 ok3 ok4
                  refine' s_AssignComp (s := s) (E := fun _ _ => False) ?_ ?hsw ?hclos ?hcell ?hkind ?hnames ?hy ?hke
                  walk_at "compA sides"
                  have hwl : wvs.length = 16 := by rw [strs_len hW, W.len]
                  repeat' ((fail_if_success (with_reducible show wpAny _ _ (compareOp CmpOp.NotEq (Value.ref _) (Value.ref _)) _ _ _)); (fail_if_success (with_reducible show wpAny _ _ (compareOp CmpOp.Eq (Value.ref _) (Value.ref _)) _ _ _)); walk1)
                  rename At g39 _ _ ((_, lst (wvs ++ _) _) :: _) _ => TW
                  refine comp_list (s := s) [] _ (fun i g own ys => own = [] ∧ RdA g ys (((wishL st).take i).map pairD)) rA.hh TW (List.Perm.refl _) (mu_isL TW (.head _)) (.inr (.head _)) ⟨⟨rfl, RdA.nil⟩, by rw [List.length_append, hwl]; exact (show 17 ≤ sizeLine by decide), ?_, ?_⟩
                  · rintro C i v g₁ m₁ own₁ tl₁ h₁ t₁ ys hi hsub x₁ hv ⟨rfl, hys⟩ T4 Post hPost
                    obtain ⟨x, tx, rfl, hx, k1, k2⟩ := looked_get hkind hW hv
                    clear hv
                    have hm1 := hsub (hlA, lst (rvs ++ [.ref TT]) er2) (by walk_at "mem")
                    have G1 := G39.up x₁
                    have hTb1 := hTb39.up x₁
                    have c5 := cell_up x₁ c5_39
                    iterate 15 walk1
                    rename At g₁ _ _ _ _ => TS
                    refine s_tblGet (s := s) G1 TS hTb1 fun q h2 t2 T5 => ?_
                    clear TS T4
                    repeat' ((fail_if_success (with_reducible show wpAny _ _ (compareOp CmpOp.NotEq (Value.ref _) (Value.ref _)) _ _ _)); (fail_if_success (with_reducible show wpAny _ _ (compareOp CmpOp.Eq (Value.ref _) (Value.ref _)) _ _ _)); walk1)
                    refine c_gni (s := s) (rA.le (by decide) (by decide)) G1 T5 (.head _) hTb1 (.tail _ hm1) (rr.up x₁) (rows2_le hkind I39.lt) k2.a k2.b k2.c fun v TG h3 t3 hv T7 => ?_
                    obtain ⟨y, ty, hy, rfl⟩ := look_all hkind I39.lt hx.a hv
                    obtain ⟨g4, x4, T8, e8⟩ := T7.freeze
                    refine hPost _ _ (cp_end (s := s) (own₂ := []) T8.drop x4 ⟨rfl, ?_⟩)
                    rw [take_snoc hy, List.map_append]
                    exact (hys.up x4).snoc (Rd.tup e8 rfl rfl (RdA.cons' (Rd.str _ _) (RdA.cons' (Rd.str _ _) RdA.nil)))
                  · rintro g40 own₁ h40 t40 aLk lvs eLk y40 ⟨rfl, hLk⟩ T7 T8 h41 t41 T41
                    have hLk : RdA g40 lvs ((wishL st).map pairD) := by
                      rw [List.take_of_length_le (by rw [wishL_len, List.length_append, hwl]; exact Nat.le_refl _)] at hLk
                      exact hLk
                    obtain ⟨g42, y42, T42, eLk'⟩ := T41.freeze
                    have T42 : At g42 L _ ((hlA, lst (rvs ++ [.ref TT]) er2) :: (L + 10, o10) :: mu) h41 := T42.sub (by walk_at "sublist")
                    have y3942 := y40.tr y42
                    have G42 := G39.up y3942
                    have hLk42 := hLk.up y42
                    have eU42 := y3942 _ _ eU39
                    have hTb42 := hTb39.up y3942
                    have I42 := I39.up y3942
                    have rr42 := rr.up y3942
                    have c4_42 := cell_up y3942 c4_39
                    have c5_42 := cell_up y3942 c5_39
                    have c6_42 := cell_up y3942 c6_39
                    have c8_42 := cell_up y3942 c8_39
                    have c9_42 := cell_up y3942 c9_39
                    have eW42 := y3942 _ _ eW39
                    have eR42 := y3942 _ _ eR39
                    have eF42 := y3942 _ _ eF39
                    have eAn42 := y3942 _ _ eAn39
                    clear T7 T8 T41 TW
                    repeat' ((fail_if_success (with_reducible show wpAny _ _ (compareOp CmpOp.NotEq (Value.ref _) (Value.ref _)) _ _ _)); (fail_if_success (with_reducible show wpAny _ _ (compareOp CmpOp.Eq (Value.ref _) (Value.ref _)) _ _ _)); walk1)
                    refine' s_ListComp (s := s) (E := fun _ _ => False) ?_ ?hclos ?hcell ?hkind ?hnames
                    walk_at "comp sides"
                    repeat' ((fail_if_success (with_reducible show wpAny _ _ (compareOp CmpOp.NotEq (Value.ref _) (Value.ref _)) _ _ _)); (fail_if_success (with_reducible show wpAny _ _ (compareOp CmpOp.Eq (Value.ref _) (Value.ref _)) _ _ _)); walk1)
                    rename_i rR hR tR u1 u2 u3 TR
                    refine comp_range (s := s) [] _ 16 (fun i g own ys => own = [] ∧ StrsAre ys ((List.range i).map (wishOf st))) rA.hh TR (List.Perm.refl _) (mu_rng TR (.head _)) (by decide) (by decide) (by decide) ⟨⟨rfl, .nil⟩, by decide, ?_, ?_⟩
                    · rintro C i v g₁ m₁ own₁ tl₁ h₁ t₁ ys hi hsub x₁ ⟨tv, hv⟩ ⟨rfl, hys⟩ T4 Post hPost
                      obtain rfl : v = .int (i : Int) tv := by rw [hv, Int.zero_add]
                      clear hv
                      have G1 := G42.up x₁
                      have c6 := cell_up x₁ c6_42
                      have c8 := cell_up x₁ c8_42
                      have c9 := cell_up x₁ c9_42
                      have eU1 := x₁ _ _ eU42
                      have eF1 := x₁ _ _ eF42
                      have eAn1 := x₁ _ _ eAn42
                      repeat' ((fail_if_success (with_reducible show wpAny _ _ (compareOp CmpOp.NotEq (Value.ref _) (Value.ref _)) _ _ _)); (fail_if_success (with_reducible show wpAny _ _ (compareOp CmpOp.Eq (Value.ref _) (Value.ref _)) _ _ _)); (fail_if_success (with_reducible show wpAny _ _ (compareOp CmpOp.In (Value.int _ _) (Value.ref _)) _ _ _)); (fail_if_success (with_reducible show wpAny _ _ (compareOp CmpOp.NotIn (Value.int _ _) (Value.ref _)) _ _ _)); walk1)
                      rename At g₁ _ _ _ _ => TS
                      refine s_inI (s := s) (lst_isL (TS.keep _ _ eU1)) hU ?_
                      rw [any_castN]
                      cases hd : (dueN n0 n1).any (· == i) with
                      | true =>
                        have hm : i ∈ fs := (KF.mem i).mp (by obtain ⟨z, hz, e⟩ := List.any_eq_true.mp hd; rw [beq_iff_eq] at e; exact e ▸ hz)
                        clear hd
                        repeat' ((fail_if_success (with_reducible show wpAny _ _ (compareOp CmpOp.NotEq (Value.ref _) (Value.ref _)) _ _ _)); (fail_if_success (with_reducible show wpAny _ _ (compareOp CmpOp.Eq (Value.ref _) (Value.ref _)) _ _ _)); (fail_if_success (with_reducible show wpAny _ _ (compareOp CmpOp.In (Value.int _ _) (Value.ref _)) _ _ _)); (fail_if_success (with_reducible show wpAny _ _ (compareOp CmpOp.NotIn (Value.int _ _) (Value.ref _)) _ _ _)); walk1)
                        refine s_indexI (s := s) (k := (i : Int)) (lst_isL (TS.keep _ _ eF1)) hFd (by rw [List.length_map]; omega) (List.mem_map.mpr ⟨i, hm, rfl⟩) ?_
                        rw [idx_cast]
                        obtain ⟨tq, hq⟩ := KF.wish I42.an hm
                        have hib : fs.idxOf i < fs.length := List.idxOf_lt_length_iff.mpr hm
                        refine s_item (s := s) (lst_isL (TS.keep _ _ eAn1)) (by omega) (by omega) hq ?_
                        refine hPost _ _ (cp_end (s := s) (own₂ := []) TS Ext.rfl' ⟨rfl, ?_⟩)
                        rw [List.range_succ, List.map_append]
                        exact strs_app hys (.cons _ _ .nil)
                      | false =>
                        have hm : i ∉ fs := fun q => by
                          have : ((dueN n0 n1).any (· == i)) = true := List.any_eq_true.mpr ⟨i, (KF.mem i).mpr q, beq_self_eq_true i⟩
                          rw [hd] at this
                          cases this
                        clear hd
                        repeat' ((fail_if_success (with_reducible show wpAny _ _ (compareOp CmpOp.NotEq (Value.ref _) (Value.ref _)) _ _ _)); (fail_if_success (with_reducible show wpAny _ _ (compareOp CmpOp.Eq (Value.ref _) (Value.ref _)) _ _ _)); (fail_if_success (with_reducible show wpAny _ _ (compareOp CmpOp.In (Value.int _ _) (Value.ref _)) _ _ _)); (fail_if_success (with_reducible show wpAny _ _ (compareOp CmpOp.NotIn (Value.int _ _) (Value.ref _)) _ _ _)); walk1)
                        refine hPost _ _ (cp_end (s := s) (own₂ := []) TS Ext.rfl' ⟨rfl, ?_⟩)
                        rw [List.range_succ, List.map_append]
                        refine strs_app hys ?_
                        rw [List.map_cons, wish_not (by rw [← KF.c]; exact hm)]
                        exact .cons _ _ .nil
                    · rintro g43 own₁ h43 t43 aX1 xvs eX1 y43 ⟨rfl, hX⟩ T7 T8
                      have hxl : xvs.length = 16 := by rw [strs_len hX, List.length_map, List.length_range]
                      clear T7
                      repeat' ((fail_if_success (with_reducible show wpAny _ _ (compareOp CmpOp.NotEq (Value.ref _) (Value.ref _)) _ _ _)); (fail_if_success (with_reducible show wpAny _ _ (compareOp CmpOp.Eq (Value.ref _) (Value.ref _)) _ _ _)); walk1)
                      rename At g43 _ _ ((_, lst (xvs ++ _) _) :: _) _ => TX
                      obtain ⟨g44, y44, T44, eWi'⟩ := TX.freeze
                      have T44 := T44.sub (mu' := (hlA, lst (rvs ++ [.ref TT]) er2) :: (L + 10, o10) :: mu) (by walk_at "sublist")
                      refine r_storePF (pre := [_]) T44 rfl d10 (fun g45 h45 y45 c10 T45 => ?_)
                      have T45 : At g45 L _ ((hlA, lst (rvs ++ [.ref TT]) er2) :: mu) h45 := T45
                      have hWi := strs_app hX (.cons (Str.ofString "none") t43 .nil)
                      have hWi : StrsAre _ (wishL st) := hWi
                      have y4245 := (y43.tr y44).tr y45
                      have G45 := G42.up y4245
                      have eWi45 := y45 _ _ eWi'
                      have hLk45 := hLk42.up y4245
                      have eLk45 := y4245 _ _ eLk'
                      have hTb45 := hTb42.up y4245
                      have I45 := I42.up y4245
                      have rr45 := rr42.up y4245
                      have c4_45 := cell_up y4245 c4_42
                      have c5_45 := cell_up y4245 c5_42
                      have c9_45 := cell_up y4245 c9_42
                      have eW45 := y4245 _ _ eW42
                      have eR45 := y4245 _ _ eR42
                      have eF45 := y4245 _ _ eF42
                      clear T8 TX T44 T42
                      walk1
                      refine' s_AssignComp2 (s := s) (E := fun _ _ => False) ?_ ?hsw ?hclos ?hcell ?hkind ?hnames ?hy ?hke
                      walk_at "compA sides"
                      repeat' ((fail_if_success (with_reducible show wpAny _ _ (compareOp CmpOp.NotEq (Value.ref _) (Value.ref _)) _ _ _)); (fail_if_success (with_reducible show wpAny _ _ (compareOp CmpOp.Eq (Value.ref _) (Value.ref _)) _ _ _)); walk1)
                      rename At g45 _ _ ((_, lst (slicePick _ _ none none).toList 0) :: _) _ => TL
                      refine s_addL (s := s) TL (mu_isL TL (.tail _ (.head _))) (mu_isL TL (.head _)) (Nat.le_trans (Nat.add_le_add slice_len slice_len) (Nat.le_trans (show fvs.length + fvs.length ≤ 900 by omega) (by decide))) fun aY h46 TY => ?_
                      generalize hps : (slicePick fvs.toArray none (some 2) none).toList ++ (slicePick fvs.toArray (some (-2)) none none).toList = ps at TY
                      have hpm : ∀ v ∈ ps, v ∈ fvs := fun v hv => by
                        rw [← hps] at hv
                        rcases List.mem_append.mp hv with q | q <;> exact slice_mem q
                      have hpl : ps.length ≤ 32 := by
                        rw [← hps, List.length_append]
                        exact Nat.le_trans (Nat.add_le_add slice_len slice_len) (by omega)
                      clear hps TL
                      repeat' ((fail_if_success (with_reducible show wpAny _ _ (compareOp CmpOp.NotEq (Value.ref _) (Value.ref _)) _ _ _)); (fail_if_success (with_reducible show wpAny _ _ (compareOp CmpOp.Eq (Value.ref _) (Value.ref _)) _ _ _)); walk1)
                      refine comp2_list (s := s) [] _ (fun i g own ys => own = [] ∧ Drawn ys fs (2 * i)) rA.hh TY (List.Perm.refl _) (mu_isL TY (.head _)) (.inr (.head _)) ⟨⟨rfl, Drawn.nil _⟩, ?_, ?_⟩
                      · rintro I C D3 ni v g₅ m₅ own₅ tl₅ h₆ t₆ ms e3 hni hsub₅ x₅ hvn ⟨rfl, hms⟩ T10
                        obtain ⟨n, tn, rfl, hn'⟩ : ∃ n tn, v = .int ((n : Nat) : Int) tn ∧ n ∈ fs := by
                          obtain ⟨j, hj⟩ := List.mem_iff_getElem?.mp (hpm v (List.mem_of_getElem? hvn))
                          obtain ⟨n, tn, e, q⟩ := nats_getV hFd hj
                          exact ⟨n, tn, e, List.mem_of_getElem? q⟩
                        clear hvn
                        have G5 := G45.up x₅
                        walk1
                        walk1
                        walk1
                        refine s_emitNM (s := s) ?_
                        repeat' ((fail_if_success (with_reducible show wpAny _ _ (compareOp CmpOp.NotEq (Value.ref _) (Value.ref _)) _ _ _)); (fail_if_success (with_reducible show wpAny _ _ (compareOp CmpOp.Eq (Value.ref _) (Value.ref _)) _ _ _)); walk1)
                        rename At g₅ _ _ ((_, tup _) :: _) _ => TS6
                        refine inner_tupleM (s := s) [] _ (fun j g m own ms' => own = [] ∧ m "means" = some (.int (n : Int) tn) ∧ Drawn ms' fs (2 * ni + j)) rA.hh TS6 (List.Perm.swap ..) (mu_isT TS6 (.head _)) (.inr (.head _)) ⟨⟨rfl, by with_unfolding_all rfl, hms⟩, ?_, ?_⟩
                        · rintro j v' g₆ m₆ own₆ tl₆ h₇ t₇ ms2 e4 hj hsub₆ x₆ hvj ⟨rfl, en, hms2⟩ T11
                          clear hvj
                          have G6 := G5.up x₆
                          repeat' ((fail_if_success (with_reducible show wpAny _ _ (compareOp CmpOp.NotEq (Value.ref _) (Value.ref _)) _ _ _)); (fail_if_success (with_reducible show wpAny _ _ (compareOp CmpOp.Eq (Value.ref _) (Value.ref _)) _ _ _)); walk1)
                          rename At g₆ _ _ _ _ => TS7
                          refine s_emitBM (s := s) ?_
                          repeat' ((fail_if_success (with_reducible show wpAny _ _ (compareOp CmpOp.NotEq (Value.ref _) (Value.ref _)) _ _ _)); (fail_if_success (with_reducible show wpAny _ _ (compareOp CmpOp.Eq (Value.ref _) (Value.ref _)) _ _ _)); walk1)
                          have hj2 : j < 2 := hj
                          refine ⟨g₆, _, [], _, _, ms2, e4, rfl, Ext.rfl', TS7, Nat.le_trans (show ms2.length ≤ 900 by rw [hms2.len]; omega) (by decide), rfl, ?_, ?_⟩
                          · with_unfolding_all exact en
                          · exact hms2.snoc hn'
                        · rintro g₆ m₆ own₆ h₇ t₇ ms2 e4 x₆ ⟨rfl, en, hms2⟩ T11
                          exact ⟨g₆, m₆, [], h₇, t₇, ms2, e4, rfl, x₆, T11.sub (by walk_at "sublist"), rfl, hms2⟩
                      · rintro g46 own₅ h₆ t₆ aFi fis eFi yF46 ⟨rfl, hFi⟩ T10 T11 h₇ t₇ T12
                        obtain ⟨g47, y47, T47, eFi'⟩ := T12.freeze
                        have T47 : At g47 L _ ((hlA, lst (rvs ++ [.ref TT]) er2) :: mu) h₇ := T47.sub (by walk_at "sublist")
                        have hfi := hFi.len
                        have y4547 := yF46.tr y47
                        have G47 := G45.up y4547
                        have eWi47 := y4547 _ _ eWi45
                        have hLk47 := hLk45.up y4547
                        have eLk47 := y4547 _ _ eLk45
                        have hTb47 := hTb45.up y4547
                        have I47 := I45.up y4547
                        have rr47 := rr45.up y4547
                        have c4_47 := cell_up y4547 c4_45
                        have c5_47 := cell_up y4547 c5_45
                        have c10_47 := cell_up y4547 c10
                        have eW47 := y4547 _ _ eW45
                        have eR47 := y4547 _ _ eR45
                        clear T10 T11 T12 TY
                        walk1
                        obtain ⟨fns, hfi1, hfi2, hfi3⟩ := hFi.a
                        refine' s_AssignComp (s := s) (E := fun _ _ => False) ?_ ?hsw ?hclos ?hcell ?hkind ?hnames ?hy ?hke
                        walk_at "compA sides"
                        repeat' ((fail_if_success (with_reducible show wpAny _ _ (compareOp CmpOp.NotEq (Value.ref _) (Value.ref _)) _ _ _)); (fail_if_success (with_reducible show wpAny _ _ (compareOp CmpOp.Eq (Value.ref _) (Value.ref _)) _ _ _)); walk1)
                        refine comp_enum (s := s) [(hlA, lst (rvs ++ [.ref TT]) er2)] mu (fun i g own ys => own = [(hlA, lst (rvs ++ [.ref TT]) er2)] ∧ StrsAre ys ((fns.take i).map (wishOf st))) rA.hh T47 (List.Perm.refl _) (lst_isL (T47.keep _ _ eFi')) (.inl ⟨_, eFi'⟩) ⟨⟨rfl, .nil⟩, Nat.le_trans (show fis.length ≤ 900 by rw [hfi]; omega) (by decide), ?_, ?_⟩
                        · rintro C i v g₁ m₁ own₁ tl₁ h₁ t₁ ys hi hsub x₁ ⟨aT3, ti, xv, rfl, hxv, hT3⟩ ⟨rfl, hys⟩ T4 Post hPost
                          have T4 : At g₁ C m₁ ((hlA, lst (rvs ++ [.ref TT]) er2) :: tl₁) h₁ := T4
                          obtain ⟨n, tn, rfl, hn'⟩ := nats_getV hfi1 hxv
                          clear hxv
                          have hnf := hfi2 n (List.mem_of_getElem? hn')
                          have hn16 := KF.lt hnf
                          obtain ⟨tx, hx⟩ := strs_get hW (wd_get W hn16)
                          have hw1 := (W.ok _ (wd_mem W hn16)).2.2.1
                          have G1 := G47.up x₁
                          have hTb1 := hTb47.up x₁
                          have c4 := cell_up x₁ c4_47
                          have c5 := cell_up x₁ c5_47
                          have eW1 := x₁ _ _ eW47
                          repeat' ((fail_if_success (with_reducible show wpAny _ _ (compareOp CmpOp.NotEq (Value.ref _) (Value.ref _)) _ _ _)); (fail_if_success (with_reducible show wpAny _ _ (compareOp CmpOp.Eq (Value.ref _) (Value.ref _)) _ _ _)); walk1)
                          · rename At g₁ _ _ _ _ => TS
                            have ok := set_low hkind hn16
                            refine c_setdefault (s := s) (rA.le (by decide) (by decide)) G1 TS hTb1 (rr47.up x₁) (rows2_le hkind I47.lt) (by rw [List.length_append]; simp; omega) ok.a ok.b ok.c ok.d (by decide +kernel) (by decide +kernel) (fun z tz h3 t3 hz T5 => ?_) (fun T' g' e' h' t' hz => ?_)
                            · rw [KF.got hkind I47.lt hnf ok] at hz
                              cases hz
                              refine hPost _ _ (cp_end (s := s) (own₂ := [(hlA, lst (rvs ++ [.ref TT]) er2)]) T5 Ext.rfl' ⟨rfl, ?_⟩)
                              rw [take_snoc hn', List.map_append]
                              exact strs_app hys (.cons _ _ .nil)
                            · rw [KF.got hkind I47.lt hnf ok] at hz
                              cases hz
                          · rename At g₁ _ _ _ _ => TS
                            have ok := set_up hkind hn16
                            refine c_setdefault (s := s) (rA.le (by decide) (by decide)) G1 TS hTb1 (rr47.up x₁) (rows2_le hkind I47.lt) (by rw [List.length_append]; simp; omega) ok.a ok.b ok.c ok.d (by decide +kernel) (by decide +kernel) (fun z tz h3 t3 hz T5 => ?_) (fun T' g' e' h' t' hz => ?_)
                            · rw [KF.got hkind I47.lt hnf ok] at hz
                              cases hz
                              refine hPost _ _ (cp_end (s := s) (own₂ := [(hlA, lst (rvs ++ [.ref TT]) er2)]) T5 Ext.rfl' ⟨rfl, ?_⟩)
                              rw [take_snoc hn', List.map_append]
                              exact strs_app hys (.cons _ _ .nil)
                            · rw [KF.got hkind I47.lt hnf ok] at hz
                              cases hz
                        · rintro g48 own₁ h₆ t₆ aKp kvs2 eKp y48 ⟨rfl, hKp⟩ T10 T11 h₇ t₇ T12
                          have hKp : StrsAre kvs2 (fns.map (wishOf st)) := by
                            rw [List.take_of_length_le (by rw [hfi3, hfi]; exact Nat.le_refl _)] at hKp
                            exact hKp
                          obtain ⟨g49, y49, T49, eKp'⟩ := T12.freeze
                          have T49 : At g49 L _ ((hlA, lst (rvs ++ [.ref TT]) er2) :: mu) h₇ := T49
                          have y4749 := y48.tr y49
                          have G49 := G47.up y4749
                          have eWi49 := y4749 _ _ eWi47
                          have eFi49 := y4749 _ _ eFi'
                          have hLk49 := hLk47.up y4749
                          have eLk49 := y4749 _ _ eLk47
                          have hTb49 := hTb47.up y4749
                          have I49 := I47.up y4749
                          have rr49 := rr47.up y4749
                          have c4_49 := cell_up y4749 c4_47
                          have c5_49 := cell_up y4749 c5_47
                          have c10_49 := cell_up y4749 c10_47
                          have eW49 := y4749 _ _ eW47
                          have eR49 := y4749 _ _ eR47
                          clear T10 T11 T12 T47
                          repeat' ((fail_if_success (with_reducible show wpAny _ _ (compareOp CmpOp.NotEq (Value.ref _) (Value.ref _)) _ _ _)); (fail_if_success (with_reducible show wpAny _ _ (compareOp CmpOp.Eq (Value.ref _) (Value.ref _)) _ _ _)); (fail_if_success (with_reducible show wpAny _ _ (eval (Expr.ListComp _ _ _ _) _) _ _ _)); walk1)
                          refine' s_ListComp (s := s) (E := fun _ _ => False) ?_ ?hclos ?hcell ?hkind ?hnames
                          walk_at "comp sides"
                          repeat' ((fail_if_success (with_reducible show wpAny _ _ (compareOp CmpOp.NotEq (Value.ref _) (Value.ref _)) _ _ _)); (fail_if_success (with_reducible show wpAny _ _ (compareOp CmpOp.Eq (Value.ref _) (Value.ref _)) _ _ _)); walk1)
                          refine comp_list (s := s) [] _ (fun i g own ys => own = [] ∧ RdA g ys (((wishL st).take i).map pairD)) rA.hh T49 (List.Perm.refl _) (lst_isL (T49.keep _ _ eWi49)) (.inl ⟨_, eWi49⟩) ⟨⟨rfl, RdA.nil⟩, Nat.le_trans (show _ ≤ 900 by rw [strs_len hWi, wishL_len]; decide) (by decide), ?_, ?_⟩
                          · rintro C i v g₁ m₁ own₁ tl₁ h₁ t₁ ys hi hsub x₁ hv ⟨rfl, hys⟩ T4 Post hPost
                            obtain ⟨x, tx, rfl, hx⟩ := strs_getV hWi hv
                            have hx := AtS.mk hx
                            clear hv
                            repeat' ((fail_if_success (with_reducible show wpAny _ _ (compareOp CmpOp.NotEq (Value.ref _) (Value.ref _)) _ _ _)); (fail_if_success (with_reducible show wpAny _ _ (compareOp CmpOp.Eq (Value.ref _) (Value.ref _)) _ _ _)); walk1)
                            rename At g₁ _ _ ((_, tup _) :: _) _ => TN
                            obtain ⟨g4, x4, T8, e8⟩ := TN.freeze
                            refine hPost _ _ (cp_end (s := s) (own₂ := []) T8 x4 ⟨rfl, ?_⟩)
                            rw [take_snoc hx.a, List.map_append]
                            exact (hys.up x4).snoc (Rd.tup e8 rfl rfl (RdA.cons' (Rd.str _ _) (RdA.cons' (Rd.str _ _) RdA.nil)))
                          · rintro g50 own₁ h50 t50 aPr pvs ePr y50 ⟨rfl, hPr⟩ T7 T8
                            have hPr : RdA g50 pvs ((wishL st).map pairD) := by
                              rw [List.take_of_length_le (by rw [strs_len hWi]; exact Nat.le_refl _)] at hPr
                              exact hPr
                            have c10_50 := cell_up y50 c10_49
                            have eWi50 := y50 _ _ eWi49
                            have eFi50 := y50 _ _ eFi49
                            have eKp50 := y50 _ _ eKp'
                            have hFi3 : fis.length = fns.length := by rw [hfi, hfi3]
                            repeat' ((fail_if_success (with_reducible show wpAny _ _ (compareOp CmpOp.NotEq (Value.ref _) (Value.ref _)) _ _ _)); (fail_if_success (with_reducible show wpAny _ _ (compareOp CmpOp.Eq (Value.ref _) (Value.ref _)) _ _ _)); (fail_if_success (with_reducible show wpAny _ _ (eval (Expr.ListComp _ _ _ _) _) _ _ _)); walk1)
                            refine s_neD (s := s) (da := .list ((wishL st).map pairD)) (db := .list ((wishL st).map pairD)) (Rd.isL (lst_isL (T8.keep _ _ (y50 _ _ eLk49))) ((hLk49.up y50).up T8.keep)) (Rd.isL (mu_isL T8 (.head _)) (hPr.up T8.keep)) (lay_pairs (wishL_ok (KF.vals hn0 hn1))) (lay_pairs (wishL_ok (KF.vals hn0 hn1))) (depth_pairs _) hu64 ?_
                            rw [eqv_pairs, decide_eq_true rfl]
                            repeat' ((fail_if_success (with_reducible show wpAny _ _ (compareOp CmpOp.NotEq (Value.ref _) (Value.ref _)) _ _ _)); (fail_if_success (with_reducible show wpAny _ _ (compareOp CmpOp.Eq (Value.ref _) (Value.ref _)) _ _ _)); (fail_if_success (with_reducible show wpAny _ _ (eval (Expr.ListComp _ _ _ _) _) _ _ _)); walk1)
                            refine' s_ListComp (s := s) (E := fun _ _ => False) ?_ ?hclos ?hcell ?hkind ?hnames
                            walk_at "comp sides"
                            repeat' ((fail_if_success (with_reducible show wpAny _ _ (compareOp CmpOp.NotEq (Value.ref _) (Value.ref _)) _ _ _)); (fail_if_success (with_reducible show wpAny _ _ (compareOp CmpOp.Eq (Value.ref _) (Value.ref _)) _ _ _)); walk1)
                            refine comp_list (s := s) [] _ (fun i g own ys => own = [] ∧ StrsAre ys ((fns.take i).map (wishOf st))) rA.hh T8 (List.Perm.refl _) (lst_isL (T8.keep _ _ eFi50)) (.inl ⟨_, eFi50⟩) ⟨⟨rfl, .nil⟩, Nat.le_trans (show _ ≤ 900 by rw [hfi]; omega) (by decide), ?_, ?_⟩
                            · rintro C i v g₁ m₁ own₁ tl₁ h₁ t₁ ys hi hsub x₁ hv ⟨rfl, hys⟩ T4 Post hPost
                              obtain ⟨n, tn, rfl, hn'⟩ := nats_getV hfi1 hv
                              clear hv
                              have hn16 := KF.lt (hfi2 n (List.mem_of_getElem? hn'))
                              obtain ⟨tx, hx⟩ := strs_get hWi (wishL_at st hn16)
                              have c10 := cell_up x₁ c10_50
                              have eWi1 := x₁ _ _ eWi50
                              repeat' ((fail_if_success (with_reducible show wpAny _ _ (compareOp CmpOp.NotEq (Value.ref _) (Value.ref _)) _ _ _)); (fail_if_success (with_reducible show wpAny _ _ (compareOp CmpOp.Eq (Value.ref _) (Value.ref _)) _ _ _)); walk1)
                              refine hPost _ _ (cp_end (own₂ := []) (by assumption) Ext.rfl' ⟨rfl, ?_⟩)
                              rw [take_snoc hn', List.map_append]
                              exact strs_app hys (.cons _ _ .nil)
                            · rintro g51 own₁ h51 t51 aKw kwv eKw y51 ⟨rfl, hKw⟩ T7b T9
                              have hKw : StrsAre kwv (fns.map (wishOf st)) := by
                                rw [hFi3, List.take_length] at hKw
                                exact hKw
                              repeat' ((fail_if_success (with_reducible show wpAny _ _ (compareOp CmpOp.NotEq (Value.ref _) (Value.ref _)) _ _ _)); (fail_if_success (with_reducible show wpAny _ _ (compareOp CmpOp.Eq (Value.ref _) (Value.ref _)) _ _ _)); (fail_if_success (with_reducible show wpAny _ _ (eval (Expr.ListComp _ _ _ _) _) _ _ _)); walk1)
                              refine s_neD (s := s) (da := .list ((fns.map (wishOf st)).map .str)) (db := .list ((fns.map (wishOf st)).map .str)) (Rd.isL (lst_isL (T9.keep _ _ (y51 _ _ eKp50))) (RdA.strs hKp)) (Rd.isL (mu_isL T9 (.head _)) (RdA.strs hKw)) (lay_strs (wishM_ok (KF.vals hn0 hn1) _)) (lay_strs (wishM_ok (KF.vals hn0 hn1) _)) (depth_strs _) hu64 ?_
                              rw [eqv_strs, decide_eq_true rfl]
                              have T51 : At g51 L _ ((hlA, lst (rvs ++ [.ref TT]) er2) :: mu) h51 := T9.sub (by walk_at "sublist")
                              have y4951 := y50.tr y51
                              have G51 := G49.up y4951
                              have hTb51 := hTb49.up y4951
                              have I51 := I49.up y4951
                              have rr51 := rr49.up y4951
                              have c4_51 := cell_up y4951 c4_49
                              have c5_51 := cell_up y4951 c5_49
                              have eW51 := y4951 _ _ eW49
                              have eR51 := y4951 _ _ eR49
                              clear T7 T8 T7b T9 T49
                              repeat' ((fail_if_success (with_reducible show wpAny _ _ (compareOp CmpOp.NotEq (Value.ref _) (Value.ref _)) _ _ _)); (fail_if_success (with_reducible show wpAny _ _ (compareOp CmpOp.Eq (Value.ref _) (Value.ref _)) _ _ _)); (fail_if_success (with_reducible show wpAny _ _ (eval (Expr.ListComp _ _ _ _) _) _ _ _)); walk1)
                              refine c_items (s := s) (rA.le (by decide) (by decide)) G51 T51 hTb51 (.head _) (by rw [List.length_append]; simp; omega) fun aIt eIt h52 t52 T52 => ?_
                              repeat' ((fail_if_success (with_reducible show wpAny _ _ (compareOp CmpOp.NotEq (Value.ref _) (Value.ref _)) _ _ _)); (fail_if_success (with_reducible show wpAny _ _ (compareOp CmpOp.Eq (Value.ref _) (Value.ref _)) _ _ _)); (fail_if_success (with_reducible show wpAny _ _ (eval (Expr.ListComp _ _ _ _) _) _ _ _)); walk1)
                              obtain ⟨tx12, hx12⟩ := strs_get hW (wd_get W (show 12 < 16 by decide))
                              obtain ⟨ok1, ok2, ok3, ok4⟩ := W.ok _ (wd_mem W (show 12 < 16 by decide))
                              refine s_item (s := s) (lst_isL (T52.keep _ _ eW51)) (by decide) (by decide) hx12 ?_
                              clear hx12 ok1 ok2 ok4
                              repeat' ((fail_if_success (with_reducible show wpAny _ _ (compareOp CmpOp.NotEq (Value.ref _) (Value.ref _)) _ _ _)); (fail_if_success (with_reducible show wpAny _ _ (compareOp CmpOp.Eq (Value.ref _) (Value.ref _)) _ _ _)); (fail_if_success (with_reducible show wpAny _ _ (eval (Expr.ListComp _ _ _ _) _) _ _ _)); walk1)
                              rename At g51 _ _ ((_, lst (rvs ++ _) 0) :: _) _ => TE
                              have r1 := Rd.isL (mu_isL TE (.tail _ (.tail _ (.tail _ (.head _))))) (rr51.up TE.keep)
                              have eT := TE.get (p := (_, tup _)) (.tail _ (.tail _ (.head _)))
                              have r2 := Rd.isL (mu_isL TE (.head _)) ((I51.rd.up TE.keep).snoc (Rd.tup eT rfl rfl (RdA.cons' (Rd.str _ _) (RdA.cons' (Rd.str _ _) RdA.nil))))
                              obtain ⟨z1, z2⟩ := rows2_ok KF hkind (KF.vals hn0 hn1)
                              refine s_eqD (s := s) (da := .list ((rowsOf (wordsK kind) st ++ [(Txt.lower (wd (wordsK kind) 12), Str.ofString "none")]).map rowD)) (db := .list ((rowsOf (wordsK kind) st ++ [(Txt.lower (wd (wordsK kind) 12), Str.ofString "none")]).map rowD)) r1 (by rw [List.map_append]; exact r2) (lay_rows z1 z2) (lay_rows z1 z2) (depth_rows _) hu64 ?_
                              clear z1 z2 r1 r2 eT
                              rw [eqv_rows, decide_eq_true rfl]
                              repeat' ((fail_if_success (with_reducible show wpAny _ _ (compareOp CmpOp.NotEq (Value.ref _) (Value.ref _)) _ _ _)); (fail_if_success (with_reducible show wpAny _ _ (compareOp CmpOp.Eq (Value.ref _) (Value.ref _)) _ _ _)); (fail_if_success (with_reducible show wpAny _ _ (eval (Expr.ListComp _ _ _ _) _) _ _ _)); walk1)
                              have yAll : Ext g g51 := ((((((((((((((((((((y1).tr y2).tr y3).tr y4).tr y46).tr y79).tr y9_11).tr y13).tr y1317).tr y1719).tr y1923).tr y2327).tr y2732).tr y3236).tr y37).tr y39).tr y3942).tr y4245).tr y4547).tr y4749).tr y4951
                              exact k _ _ ((TE.mem.weak yAll).sub (by walk_at "sublist"))
end
theorem good_end {c : ClaimW} {cl : Str → Option Addr} {mean : ExcName → Option Value} {args : List WData} {s₁ : Shared} {h' : Heap} {t' : Nat} (M : Mem s₁.heap [] h') (hg : s₁.gens = #[]) (hn : ∀ cls, c.raises args cls = false) (hp : c.post args (.bool true) args = true) :
    GoodWG c cl mean args s₁ (.ok (.ret (.bool true))) (Sh s₁ h' t') :=
  GoodW.toG ⟨.inl ⟨.bool true, .bool true, [], rfl, hn, .bool true, hp, unshared_nil⟩, M.keep, rfl, hg⟩
set_option maxHeartbeats 8000000 in
theorem fin : PySem.Challenge.rw_kl0255_01.Holds := by
  refine hd ?_
  intro w s₀ s₁ mg mb G Y fa o pm cd doc dV kV ho hd' hcd hD hmg hg args vals as hpre hlay hrd hwl hlo
  have KX := kIn_of Y
  refine Ground.open G ?_
  intro T B D TE TW
  have hfa := hmg.symm.trans (mg_of KX T.g (n := "law") (v := .ref 303) (by k_is))
  cases hfa
  wrow_args hpre hlay hrd hwl hlo
  rename IntsAre _ _ => hI
  rename Heap.IsList _ _ _ => hL
  refine enter_call ?_
  refine law_spec (s := s₁) (g := s₁.heap) (h := s₁.heap) (t := s₁.toks) (mu := []) ⟨rfl, ?_, ?_⟩ rfl ⟨KX, ⟨mg, T.g⟩, ⟨mb, T.b, T.builtins⟩, T.nolimit⟩ ⟨fun _ _ e => e, (fun _ h => nomatch h), List.nodup_nil⟩ hL hI (by omega) fun h' t' M' => good_end M' hg (fun _ => rfl) ?_
  · decide +kernel
  · decide +kernel
  · kernel_rfl
end Mine
theorem PySem.Challenge.cw_kl0255_01_holds : PySem.Challenge.rw_kl0255_01.Holds := by
  exact Mine.fin
