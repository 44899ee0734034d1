import PyProof.Rows.All
import Wide.All
import OpenK.AllK
import Wide.FinOn
import PySem.Challenge.RW_bd6020_01
set_option Elab.async false
set_option maxRecDepth 100000

/- the head -/
section
open PySem PySem.W PyProof.Rows
set_option Elab.async false
set_option maxRecDepth 100000
set_option maxHeartbeats 8000000
/- no quick twin is wanted for the objects that are no dict, nor for the written heap: their equations alone would fill the compiled file -/
def PySem.W.Fast.tw14190725551584542720 : Nat := 0
def PySem.W.Fast.tw4624116571850345472 : Nat := 0
def PySem.W.Fast.tw11985079436841221120 : Nat := 0
def PySem.W.Fast.tw16670515038526607392 : Nat := 0
def PySem.W.Fast.tw4768464013462379552 : Nat := 0
def PySem.W.Fast.tw14536682826661684288 : Nat := 0
def PySem.W.Fast.tw9673203406766833760 : Nat := 0
def PySem.W.Fast.tw8768021101942190240 : Nat := 0
def PySem.W.Fast.tw9537544019596298400 : Nat := 0
def PySem.W.Fast.tw1663553941826196640 : Nat := 0
def PySem.W.Fast.tw16413963553889246368 : Nat := 0
def PySem.W.Fast.tw15598799602833418400 : Nat := 0
def PySem.W.Fast.tw2504501939568898240 : Nat := 0
def PySem.W.Fast.tw10273473676514133216 : Nat := 0
def PySem.W.Fast.tw12268644228514654432 : Nat := 0
def PySem.W.Fast.tw14224011070414065920 : Nat := 0
def PySem.W.Fast.tw10015664371746657536 : Nat := 0
def PySem.W.Fast.tw5807050765050996992 : Nat := 0
def PySem.W.Fast.tw14893704317605483808 : Nat := 0
def PySem.W.Fast.tw12336705321023063328 : Nat := 0
def PySem.W.Fast.tw9979284746773624096 : Nat := 0
def PySem.W.Fast.tw9159206984497107264 : Nat := 0
def PySem.W.Fast.tw2193789692954389824 : Nat := 0
def PySem.W.Fast.tw6705050063642840384 : Nat := 0
def PySem.W.Fast.tw16940874185165317472 : Nat := 0
def PySem.W.Fast.tw5280161529603008896 : Nat := 0
def PySem.W.Fast.tw2651664433501786496 : Nat := 0
def PySem.W.Fast.tw17325535178939296128 : Nat := 0
def PySem.W.Fast.tw8465688482733722016 : Nat := 0
def PySem.W.Fast.tw13251161224904053152 : Nat := 0
def PySem.W.Fast.tw17069979004554194336 : Nat := 0
def PySem.W.Fast.tw5832503352825792928 : Nat := 0
def PySem.W.Fast.tw4817316660788777376 : Nat := 0
def PySem.W.Fast.tw3783086151370532256 : Nat := 0
def PySem.W.Fast.tw6891000109920058784 : Nat := 0
def PySem.W.Fast.tw2533055036996125152 : Nat := 0
def PySem.W.Fast.tw2400734622870430176 : Nat := 0
def PySem.W.Fast.tw17876345068550391296 : Nat := 0
def PySem.W.Fast.tw5881240552750758400 : Nat := 0
def PySem.W.Fast.tw16919559372560491008 : Nat := 0
def PySem.W.Fast.tw5976474108018559520 : Nat := 0
def PySem.W.Fast.tw6283397933585017376 : Nat := 0
def PySem.W.Fast.tw15376083050721069600 : Nat := 0
def PySem.W.Fast.tw8944806292087596576 : Nat := 0
def PySem.W.Fast.tw2034512082675613248 : Nat := 0
def PySem.W.Fast.tw12994954067883948608 : Nat := 0
def PySem.W.Fast.tw12825359941727978080 : Nat := 0
def PySem.W.Fast.tw5666736829366345312 : Nat := 0
def PySem.W.Fast.tw3369510546276340320 : Nat := 0
def PySem.W.Fast.tw16909563705526742624 : Nat := 0
def PySem.W.Fast.tw4110589180456253056 : Nat := 0
def PySem.W.Fast.tw4246681178549925504 : Nat := 0
def PySem.W.Fast.tw18366058095514959488 : Nat := 0
def PySem.W.Fast.tw11240371444547759776 : Nat := 0
def PySem.W.Fast.tw3824706130105246400 : Nat := 0
def PySem.W.Fast.tw13824066866405244608 : Nat := 0
def PySem.W.Fast.tw16328912562034613984 : Nat := 0
def PySem.W.Fast.tw11848682895554211552 : Nat := 0
def PySem.W.Fast.tw4255143041693154016 : Nat := 0
def PySem.W.Fast.tw16770459766345991936 : Nat := 0
def PySem.W.Fast.tw329819065673440000 : Nat := 0
def PySem.W.Fast.tw13826722311791395616 : Nat := 0
def PySem.W.Fast.tw16817318245366136608 : Nat := 0
def PySem.W.Fast.tw7623123461514372928 : Nat := 0
def PySem.W.Fast.tw4960450037844553568 : Nat := 0
def PySem.W.Fast.tw15751575947042975584 : Nat := 0
def PySem.W.Fast.tw12177649209318274912 : Nat := 0
def PySem.W.Fast.tw1099165256960081760 : Nat := 0
def PySem.W.Fast.tw7245579811408650112 : Nat := 0
def PySem.W.Fast.tw9107384451281764224 : Nat := 0
def PySem.W.Fast.tw7483462131439158144 : Nat := 0
def PySem.W.Fast.tw14995886507359704992 : Nat := 0
def PySem.W.Fast.tw17077106916691092384 : Nat := 0
def PySem.W.Fast.tw2425493716360132512 : Nat := 0
def PySem.W.Fast.tw12177639751122801600 : Nat := 0
def PySem.W.Fast.tw9950995098322795456 : Nat := 0
def PySem.W.Fast.tw4146065242381107168 : Nat := 0
def PySem.W.Fast.tw12046425863553024001 : Nat := 0
def PySem.W.Fast.tw3118938333895590913 : Nat := 0
def PySem.W.Fast.tw3066170563753478177 : Nat := 0
def PySem.W.Fast.tw8459811325457737761 : Nat := 0
def PySem.W.Fast.tw10194048661948967969 : Nat := 0
def PySem.W.Fast.tw7393211689510517793 : Nat := 0
def PySem.W.Fast.tw2110851967338885185 : Nat := 0
def PySem.W.Fast.tw6182678533730793537 : Nat := 0
def PySem.W.Fast.tw11684216636992616513 : Nat := 0
def PySem.W.Fast.tw12828332729040242785 : Nat := 0
def PySem.W.Fast.tw14297202654074030177 : Nat := 0
def PySem.W.Fast.tw12643655118340456577 : Nat := 0
def PySem.W.Fast.tw5386766301290243201 : Nat := 0
def PySem.W.Fast.tw2469737583125734529 : Nat := 0
def PySem.W.Fast.tw2943762135390696609 : Nat := 0
def PySem.W.Fast.tw8632911225851357377 : Nat := 0
def PySem.W.Fast.tw4987535061151134913 : Nat := 0
def PySem.W.Fast.tw18287117734903463105 : Nat := 0
def PySem.W.Fast.tw903996246626394305 : Nat := 0
def PySem.W.Fast.tw8680498863553802433 : Nat := 0
def PySem.W.Fast.tw5721027456603625697 : Nat := 0
def PySem.W.Fast.tw9250789337458713825 : Nat := 0
def PySem.W.Fast.tw8473563963867554017 : Nat := 0
def PySem.W.Fast.tw16741492637210864865 : Nat := 0
def PySem.W.Fast.tw2596490424804607233 : Nat := 0
def PySem.W.Fast.tw7670514497116975361 : Nat := 0
def PySem.W.Fast.tw16258813485015810305 : Nat := 0
def PySem.W.Fast.tw8815187840785991937 : Nat := 0
def PySem.W.Fast.tw16115655273825399041 : Nat := 0
def PySem.W.Fast.tw12997817830866191649 : Nat := 0
def PySem.W.Fast.tw14821650378409806113 : Nat := 0
def PySem.W.Fast.tw3799745718044007745 : Nat := 0
def PySem.W.Fast.tw16180582048198870337 : Nat := 0
def PySem.W.Fast.tw2315820567201803617 : Nat := 0
def PySem.W.Fast.tw11606258390524543361 : Nat := 0
def PySem.W.Fast.tw11343058236127195553 : Nat := 0
def PySem.W.Fast.tw14929766942355016097 : Nat := 0
def PySem.W.Fast.tw7405434945208526273 : Nat := 0
def PySem.W.Fast.tw1748919575590542817 : Nat := 0
def PySem.W.Fast.tw6841013123486265825 : Nat := 0
def PySem.W.Fast.tw8326641464388170241 : Nat := 0
def PySem.W.Fast.tw8910770733864447489 : Nat := 0
def PySem.W.Fast.tw2334299552400917057 : Nat := 0
def PySem.W.Fast.tw8340332204847972929 : Nat := 0
def PySem.W.Fast.tw1212649520826345025 : Nat := 0
def PySem.W.Fast.tw8603108125212654177 : Nat := 0
def PySem.W.Fast.tw17071476683966804577 : Nat := 0
def PySem.W.Fast.tw13342524657329470049 : Nat := 0
def PySem.W.Fast.tw16916688483869632129 : Nat := 0
def PySem.W.Fast.tw15079194523842364033 : Nat := 0
def PySem.W.Fast.tw17913803186225011329 : Nat := 0
def PySem.W.Fast.tw10114606294343739009 : Nat := 0
def PySem.W.Fast.tw15195428891847259777 : Nat := 0
def PySem.W.Fast.tw7976981314885711489 : Nat := 0
def PySem.W.Fast.tw1196737314382418593 : Nat := 0
def PySem.W.Fast.tw5347634374261320353 : Nat := 0
def PySem.W.Fast.tw8017433439463793313 : Nat := 0
def PySem.W.Fast.tw8868882367808763553 : Nat := 0
def PySem.W.Fast.tw1359296270195636929 : Nat := 0
def PySem.W.Fast.tw16333768749181603553 : Nat := 0
def PySem.W.Fast.tw11317593695737139937 : Nat := 0
def PySem.W.Fast.tw15781324953245214433 : Nat := 0
def PySem.W.Fast.tw13236226663087606529 : Nat := 0
def PySem.W.Fast.tw7449101846280096545 : Nat := 0
def PySem.W.Fast.tw10477944011785391905 : Nat := 0
def PySem.W.Fast.tw8474383852179026721 : Nat := 0
def PySem.W.Fast.tw17943406268862710625 : Nat := 0
def PySem.W.Fast.tw5143173463989204865 : Nat := 0
def PySem.W.Fast.tw6792406925840432001 : Nat := 0
def PySem.W.Fast.tw6132934438814934913 : Nat := 0
def PySem.W.Fast.tw11825729669827539873 : Nat := 0
def PySem.W.Fast.tw1414301608579184545 : Nat := 0
def PySem.W.Fast.tw12726346659333912481 : Nat := 0
def PySem.W.Fast.tw4979593730266199969 : Nat := 0
def PySem.W.Fast.tw12660628722211587041 : Nat := 0
def PySem.W.Fast.tw7581816359482902497 : Nat := 0
def PySem.W.Fast.tw930746551332336609 : Nat := 0
def PySem.W.Fast.tw4769018279307018242 : Nat := 0
def PySem.W.Fast.tw10257574182948591618 : Nat := 0
def PySem.W.Fast.tw13905827436408914978 : Nat := 0
def PySem.W.Fast.tw4613930686462287906 : Nat := 0
def PySem.W.Fast.tw10111798822148845634 : Nat := 0
def PySem.W.Fast.tw3856783459128436802 : Nat := 0
def PySem.W.Fast.tw17017531747926684770 : Nat := 0
def PySem.W.Fast.tw16484835684257263714 : Nat := 0
def PySem.W.Fast.tw9529234661008812162 : Nat := 0
def PySem.W.Fast.tw704327219915372674 : Nat := 0
def PySem.W.Fast.tw17358864845605828738 : Nat := 0
def PySem.W.Fast.tw4738199947203261602 : Nat := 0
def PySem.W.Fast.tw9594665118957945026 : Nat := 0
def PySem.W.Fast.tw9238281662671382722 : Nat := 0
def PySem.W.Fast.tw13559156169165276386 : Nat := 0
def PySem.W.Fast.tw17344680358763864322 : Nat := 0
def PySem.W.Fast.tw6344021378708583682 : Nat := 0
def PySem.W.Fast.tw9948023125614773506 : Nat := 0
def PySem.W.Fast.tw14209830616999942402 : Nat := 0
def PySem.W.Fast.tw16736774653958514946 : Nat := 0
def PySem.W.Fast.tw6030811271870936322 : Nat := 0
def PySem.W.Fast.tw16172117957621229858 : Nat := 0
def PySem.W.Fast.tw9520516817443398978 : Nat := 0
def PySem.W.Fast.tw11510725203611331906 : Nat := 0
def PySem.W.Fast.tw12835720964997663042 : Nat := 0
def PySem.W.Fast.tw16709561168930353506 : Nat := 0
def PySem.W.Fast.tw17037535293027105122 : Nat := 0
def PySem.W.Fast.tw4797165386629745026 : Nat := 0
def PySem.W.Fast.tw13824067155742962050 : Nat := 0
def PySem.W.Fast.tw6839517194416273794 : Nat := 0
def PySem.W.Fast.tw11528149927915158914 : Nat := 0
def PySem.W.Fast.tw4760504986200036770 : Nat := 0
def PySem.W.Fast.tw3522269568834765250 : Nat := 0
def PySem.W.Fast.tw16460519517873343938 : Nat := 0
def PySem.W.Fast.tw14588557730865908194 : Nat := 0
def PySem.W.Fast.tw14923181358283625954 : Nat := 0
def PySem.W.Fast.tw5947542904872608226 : Nat := 0
def PySem.W.Fast.tw1100353791813204450 : Nat := 0
def PySem.W.Fast.tw8057672235088904706 : Nat := 0
def PySem.W.Fast.tw6057444674265745922 : Nat := 0
def PySem.W.Fast.tw10925030820237515266 : Nat := 0
def PySem.W.Fast.tw2343365939176002050 : Nat := 0
def PySem.W.Fast.tw13640514254501968386 : Nat := 0
def PySem.W.Fast.tw12477758415327278626 : Nat := 0
def PySem.W.Fast.tw2201415121421737538 : Nat := 0
def PySem.W.Fast.tw3797612339304411714 : Nat := 0
def PySem.W.Fast.tw14174611291570781762 : Nat := 0
def PySem.W.Fast.tw387338674003428930 : Nat := 0
def PySem.W.Fast.tw4507309187265873474 : Nat := 0
def PySem.W.Fast.tw4558998842232669794 : Nat := 0
def PySem.W.Fast.tw10215308249365652066 : Nat := 0
def PySem.W.Fast.tw8795123598061512290 : Nat := 0
def PySem.W.Fast.tw15215539614974913122 : Nat := 0
def PySem.W.Fast.tw14714103240675001986 : Nat := 0
def PySem.W.Fast.tw12635132692972215938 : Nat := 0
def PySem.W.Fast.tw18371169792594650754 : Nat := 0
def PySem.W.Fast.tw6268275061998504578 : Nat := 0
def PySem.W.Fast.tw1735007293439650466 : Nat := 0
def PySem.W.Fast.tw16434552024888161954 : Nat := 0
def PySem.W.Fast.tw1173586836224595618 : Nat := 0
def PySem.W.Fast.tw14800973145886759618 : Nat := 0
def PySem.W.Fast.tw15555810224723813058 : Nat := 0
def PySem.W.Fast.tw8631047629427187426 : Nat := 0
def PySem.W.Fast.tw8860024209350480642 : Nat := 0
def PySem.W.Fast.tw5425108064043664162 : Nat := 0
def PySem.W.Fast.tw2569364866550412066 : Nat := 0
def PySem.W.Fast.tw13016448019033864994 : Nat := 0
def PySem.W.Fast.tw13374694542785003330 : Nat := 0
def PySem.W.Fast.tw1410557169959031618 : Nat := 0
def PySem.W.Fast.tw11892598404827812706 : Nat := 0
def PySem.W.Fast.tw4237745693706327906 : Nat := 0
def PySem.W.Fast.tw9799165677255305058 : Nat := 0
def PySem.W.Fast.tw7158887573649699682 : Nat := 0
def PySem.W.Fast.tw8595292554425487202 : Nat := 0
def PySem.W.Fast.tw17175353018792136546 : Nat := 0
def PySem.W.Fast.tw127153431552428930 : Nat := 0
def PySem.W.Fast.tw4302124980754421698 : Nat := 0
def PySem.W.Fast.tw14909702598903578594 : Nat := 0
def PySem.W.Fast.tw2571919107429820419 : Nat := 0
def PySem.W.Fast.tw4091194055036891139 : Nat := 0
def PySem.W.Fast.tw11137651959834898467 : Nat := 0
def PySem.W.Fast.tw7416154022763261987 : Nat := 0
def PySem.W.Fast.tw1879099571634808899 : Nat := 0
def PySem.W.Fast.tw16151796335569352771 : Nat := 0
def PySem.W.Fast.tw15475462885187679331 : Nat := 0
def PySem.W.Fast.tw27745211739167843 : Nat := 0
def PySem.W.Fast.tw17632164250616873091 : Nat := 0
def PySem.W.Fast.tw6636956529411117187 : Nat := 0
def PySem.W.Fast.tw11788150170368784547 : Nat := 0
def PySem.W.Fast.tw2922074901204462755 : Nat := 0
def PySem.W.Fast.tw13853819408611901635 : Nat := 0
def PySem.W.Fast.tw11817470609975844035 : Nat := 0
def PySem.W.Fast.tw8973403929928476867 : Nat := 0
def PySem.W.Fast.tw17001327861769816259 : Nat := 0
def PySem.W.Fast.tw13725850141900786883 : Nat := 0
def PySem.W.Fast.tw14661621958652980419 : Nat := 0
def PySem.W.Fast.tw13789449189825218787 : Nat := 0
def PySem.W.Fast.tw6993175162768986339 : Nat := 0
def PySem.W.Fast.tw7286323032743288035 : Nat := 0
def PySem.W.Fast.tw14431796287168888035 : Nat := 0
def PySem.W.Fast.tw14777166689311650019 : Nat := 0
def PySem.W.Fast.tw15247426752500302083 : Nat := 0
def PySem.W.Fast.tw11166942722945506595 : Nat := 0
def PySem.W.Fast.tw7445423748878020931 : Nat := 0
def PySem.W.Fast.tw12767683915131110723 : Nat := 0
def PySem.W.Fast.tw16280195873916505411 : Nat := 0
def PySem.W.Fast.tw479728050534704451 : Nat := 0
def PySem.W.Fast.tw8392068372701790595 : Nat := 0
def PySem.W.Fast.tw3509675673165883779 : Nat := 0
def PySem.W.Fast.tw14219993548097058179 : Nat := 0
def PySem.W.Fast.tw10401175645053273507 : Nat := 0
def PySem.W.Fast.tw4733837786962973091 : Nat := 0
def PySem.W.Fast.tw15542691292777871779 : Nat := 0
def PySem.W.Fast.tw1335500062770791875 : Nat := 0
def PySem.W.Fast.tw10207065066715296195 : Nat := 0
def PySem.W.Fast.tw5275874004167967235 : Nat := 0
def PySem.W.Fast.tw3365093317950918147 : Nat := 0
def PySem.W.Fast.tw2793262465148346883 : Nat := 0
def PySem.W.Fast.tw8477275174327901731 : Nat := 0
def PySem.W.Fast.tw13997997042234454563 : Nat := 0
def PySem.W.Fast.tw15305786345645738563 : Nat := 0
def PySem.W.Fast.tw12373942023272657475 : Nat := 0
def PySem.W.Fast.tw11310463157757771331 : Nat := 0
def PySem.W.Fast.tw1682554055883434595 : Nat := 0
def PySem.W.Fast.tw8100131811155266147 : Nat := 0
def PySem.W.Fast.tw5845699644295177827 : Nat := 0
def PySem.W.Fast.tw195516440579289731 : Nat := 0
def PySem.W.Fast.tw6813294653679155843 : Nat := 0
def PySem.W.Fast.tw11123871897654870659 : Nat := 0
def PySem.W.Fast.tw17335170898614401699 : Nat := 0
def PySem.W.Fast.tw2519074165529889443 : Nat := 0
def PySem.W.Fast.tw4978915544186085027 : Nat := 0
def PySem.W.Fast.tw8834475871350630083 : Nat := 0
def PySem.W.Fast.tw1739468189879259843 : Nat := 0
def PySem.W.Fast.tw15354916663399470787 : Nat := 0
def PySem.W.Fast.tw16366562015402752707 : Nat := 0
def PySem.W.Fast.tw12143486254990352099 : Nat := 0
def PySem.W.Fast.tw3471738111460601571 : Nat := 0
def PySem.W.Fast.tw151948405760981731 : Nat := 0
def PySem.W.Fast.tw16684415304761926403 : Nat := 0
def PySem.W.Fast.tw6772460702363751203 : Nat := 0
def PySem.W.Fast.tw10190238754879171395 : Nat := 0
def PySem.W.Fast.tw732312027145506691 : Nat := 0
def PySem.W.Fast.tw14981143343336467331 : Nat := 0
def PySem.W.Fast.tw14000310847551689603 : Nat := 0
def PySem.W.Fast.tw16201877513803601827 : Nat := 0
def PySem.W.Fast.tw16927011704807531427 : Nat := 0
def PySem.W.Fast.tw18360803836614840259 : Nat := 0
def PySem.W.Fast.tw8069352445864447939 : Nat := 0
def PySem.W.Fast.tw505943868828395459 : Nat := 0
def PySem.W.Fast.tw12807690338718825411 : Nat := 0
def PySem.W.Fast.tw1638017585896720355 : Nat := 0
def PySem.W.Fast.tw7232422423428716515 : Nat := 0
def PySem.W.Fast.tw2968979199505139716 : Nat := 0
def PySem.W.Fast.tw7499937903120025604 : Nat := 0
def PySem.W.Fast.tw17905763081168820228 : Nat := 0
def PySem.W.Fast.tw6150575102571096068 : Nat := 0
def PySem.W.Fast.tw5454020852787923972 : Nat := 0
def PySem.W.Fast.tw2618831524449085476 : Nat := 0
def PySem.W.Fast.tw6423631873372265540 : Nat := 0
def PySem.W.Fast.tw2456703854903040100 : Nat := 0
def PySem.W.Fast.tw12674565591061545060 : Nat := 0
def PySem.W.Fast.tw5891314628709854340 : Nat := 0
def PySem.W.Fast.tw2669256670177364132 : Nat := 0
def PySem.W.Fast.tw4677260337660170404 : Nat := 0
def PySem.W.Fast.tw11641389924110848164 : Nat := 0
def PySem.W.Fast.tw6320383766622673092 : Nat := 0
def PySem.W.Fast.tw1258299570235058372 : Nat := 0
def PySem.W.Fast.tw2391315663947385028 : Nat := 0
def PySem.W.Fast.tw7299951869573292228 : Nat := 0
def PySem.W.Fast.tw16921136031002660068 : Nat := 0
def PySem.W.Fast.tw7782445914667556100 : Nat := 0
def PySem.W.Fast.tw4861079780053040388 : Nat := 0
def PySem.W.Fast.tw12050135789630954788 : Nat := 0
def PySem.W.Fast.tw17532718790514356516 : Nat := 0
def PySem.W.Fast.tw15406605638129987876 : Nat := 0
def PySem.W.Fast.tw1570708179523753252 : Nat := 0
def PySem.W.Fast.tw4296976790284602692 : Nat := 0
def PySem.W.Fast.tw4525517667737911620 : Nat := 0
def PySem.W.Fast.tw16180483070735683940 : Nat := 0
def PySem.W.Fast.tw10007627690174824804 : Nat := 0
def PySem.W.Fast.tw3256587380925597060 : Nat := 0
def PySem.W.Fast.tw3758943162464283044 : Nat := 0
def PySem.W.Fast.tw11740888236361828772 : Nat := 0
def PySem.W.Fast.tw10042830170769951172 : Nat := 0
def PySem.W.Fast.tw12734952128020822468 : Nat := 0
def PySem.W.Fast.tw3828164331056265668 : Nat := 0
def PySem.W.Fast.tw12700120825181797860 : Nat := 0
def PySem.W.Fast.tw17092346156524964356 : Nat := 0
def PySem.W.Fast.tw1353698434609952260 : Nat := 0
def PySem.W.Fast.tw10006666124156027396 : Nat := 0
def PySem.W.Fast.tw3072194660365789700 : Nat := 0
def PySem.W.Fast.tw468927808445617700 : Nat := 0
def PySem.W.Fast.tw2714569429427943972 : Nat := 0
def PySem.W.Fast.tw12392613427281201732 : Nat := 0
def PySem.W.Fast.tw11886712299990487620 : Nat := 0
def PySem.W.Fast.tw1759038480177400420 : Nat := 0
def PySem.W.Fast.tw12748167586530861668 : Nat := 0
def PySem.W.Fast.tw950385793416642148 : Nat := 0
def PySem.W.Fast.tw6698160770425034372 : Nat := 0
def PySem.W.Fast.tw470237098889260676 : Nat := 0
def PySem.W.Fast.tw12233582284571471492 : Nat := 0
def PySem.W.Fast.tw17704479140561515140 : Nat := 0
def PySem.W.Fast.tw9736788993784561348 : Nat := 0
def PySem.W.Fast.tw15725423432337238724 : Nat := 0
def PySem.W.Fast.tw6097195111790248676 : Nat := 0
def PySem.W.Fast.tw15168306246750427876 : Nat := 0
def PySem.W.Fast.tw3386650904741475044 : Nat := 0
def PySem.W.Fast.tw13262538273218963204 : Nat := 0
def PySem.W.Fast.tw10216623734285543172 : Nat := 0
def PySem.W.Fast.tw7269565832213808900 : Nat := 0
def PySem.W.Fast.tw15239161573987606276 : Nat := 0
def PySem.W.Fast.tw3182081251705218820 : Nat := 0
def PySem.W.Fast.tw10317580896714288900 : Nat := 0
def PySem.W.Fast.tw9508165731687985924 : Nat := 0
def PySem.W.Fast.tw16752143609539240740 : Nat := 0
def PySem.W.Fast.tw9236379625843700516 : Nat := 0
def PySem.W.Fast.tw12771828405273104196 : Nat := 0
def PySem.W.Fast.tw6587116730350146372 : Nat := 0
def PySem.W.Fast.tw7387991725200618308 : Nat := 0
def PySem.W.Fast.tw1763209079605825380 : Nat := 0
def PySem.W.Fast.tw9777803161965367172 : Nat := 0
def PySem.W.Fast.tw3259055174309029764 : Nat := 0
def PySem.W.Fast.tw11013103269348329348 : Nat := 0
def PySem.W.Fast.tw12773889961810623364 : Nat := 0
def PySem.W.Fast.tw1785178604824868772 : Nat := 0
def PySem.W.Fast.tw7303222143285647268 : Nat := 0
def PySem.W.Fast.tw18310272354389090212 : Nat := 0
def PySem.W.Fast.tw3195343069725486020 : Nat := 0
def PySem.W.Fast.tw12214085216866374628 : Nat := 0
def PySem.W.Fast.tw16728318958200371172 : Nat := 0
def PySem.W.Fast.tw1481926694345511941 : Nat := 0
def PySem.W.Fast.tw8929697863785913349 : Nat := 0
def PySem.W.Fast.tw14580368152464143365 : Nat := 0
def PySem.W.Fast.tw5333242206704384005 : Nat := 0
def PySem.W.Fast.tw4224760802259116069 : Nat := 0
def PySem.W.Fast.tw6606113021469975653 : Nat := 0
def PySem.W.Fast.tw4397759569029295205 : Nat := 0
def PySem.W.Fast.tw13751152980409824389 : Nat := 0
def PySem.W.Fast.tw3281343057008669861 : Nat := 0
def PySem.W.Fast.tw12343562247146936517 : Nat := 0
def PySem.W.Fast.tw9136488742655976645 : Nat := 0
def PySem.W.Fast.tw3797486145374086341 : Nat := 0
def PySem.W.Fast.tw15258242076286678213 : Nat := 0
def PySem.W.Fast.tw8703263022893421829 : Nat := 0
def PySem.W.Fast.tw12532441903309183237 : Nat := 0
def PySem.W.Fast.tw14849249054092950789 : Nat := 0
def PySem.W.Fast.tw9737231877053215013 : Nat := 0
def PySem.W.Fast.tw6703176211017235749 : Nat := 0
def PySem.W.Fast.tw15278061642289888581 : Nat := 0
def PySem.W.Fast.tw17672482021469178181 : Nat := 0
def PySem.W.Fast.tw2735471455948067141 : Nat := 0
def PySem.W.Fast.tw15845326173505261925 : Nat := 0
def PySem.W.Fast.tw5469158832915758437 : Nat := 0
def PySem.W.Fast.tw4275521005467322725 : Nat := 0
def PySem.W.Fast.tw196644378293983589 : Nat := 0
def PySem.W.Fast.tw1711657323119017317 : Nat := 0
def PySem.W.Fast.tw3308210559937237381 : Nat := 0
def PySem.W.Fast.tw2354519551546300837 : Nat := 0
def PySem.W.Fast.tw16468264762482351525 : Nat := 0
def PySem.W.Fast.tw3810070526758330821 : Nat := 0
def PySem.W.Fast.tw8621552478659558853 : Nat := 0
def PySem.W.Fast.tw1402947280878808549 : Nat := 0
def PySem.W.Fast.tw14365451769430127077 : Nat := 0
def PySem.W.Fast.tw4920522620467365349 : Nat := 0
def PySem.W.Fast.tw2039238271031011813 : Nat := 0
def PySem.W.Fast.tw4466658021391931909 : Nat := 0
def PySem.W.Fast.tw13709451868584030725 : Nat := 0
def PySem.W.Fast.tw8777329075199875621 : Nat := 0
def PySem.W.Fast.tw662154358797115941 : Nat := 0
def PySem.W.Fast.tw525262950074076709 : Nat := 0
def PySem.W.Fast.tw8725920742307292709 : Nat := 0
def PySem.W.Fast.tw5659638178942095941 : Nat := 0
def PySem.W.Fast.tw12129565242265441893 : Nat := 0
def PySem.W.Fast.tw4319011637217762917 : Nat := 0
def PySem.W.Fast.tw7853307162098706021 : Nat := 0
def PySem.W.Fast.tw11882390891050353253 : Nat := 0
def PySem.W.Fast.tw18350330562280901221 : Nat := 0
def PySem.W.Fast.tw13925586954763233925 : Nat := 0
def PySem.W.Fast.tw3459253270745049733 : Nat := 0
def PySem.W.Fast.tw5819216282375811717 : Nat := 0
def PySem.W.Fast.tw15323854079317868165 : Nat := 0
def PySem.W.Fast.tw5289962621202845349 : Nat := 0
def PySem.W.Fast.tw4002091012841952933 : Nat := 0
def PySem.W.Fast.tw6267220430429643429 : Nat := 0
def PySem.W.Fast.tw14858287094103624389 : Nat := 0
def PySem.W.Fast.tw13121200027793486533 : Nat := 0
def PySem.W.Fast.tw17689815210351038181 : Nat := 0
def PySem.W.Fast.tw13141144453892091621 : Nat := 0
def PySem.W.Fast.tw1882018320374287077 : Nat := 0
def PySem.W.Fast.tw4706425542698204933 : Nat := 0
def PySem.W.Fast.tw16254444398798285605 : Nat := 0
def PySem.W.Fast.tw18416463498863911781 : Nat := 0
def PySem.W.Fast.tw3158176265179556709 : Nat := 0
def PySem.W.Fast.tw1968426257486771045 : Nat := 0
def PySem.W.Fast.tw15271515629493726085 : Nat := 0
def PySem.W.Fast.tw6519424955469430661 : Nat := 0
def PySem.W.Fast.tw1873725402556564389 : Nat := 0
def PySem.W.Fast.tw5149714755402479525 : Nat := 0
def PySem.W.Fast.tw6523840898158721989 : Nat := 0
def PySem.W.Fast.tw2660918139993853925 : Nat := 0
def PySem.W.Fast.tw16049961110935095269 : Nat := 0
def PySem.W.Fast.tw6142071019320080357 : Nat := 0
def PySem.W.Fast.tw507417119214848006 : Nat := 0
def PySem.W.Fast.tw2895304030280410150 : Nat := 0
def PySem.W.Fast.tw7561037823649445926 : Nat := 0
def PySem.W.Fast.tw1807485309951909958 : Nat := 0
def PySem.W.Fast.tw8872933493177230406 : Nat := 0
def PySem.W.Fast.tw16904869804480856166 : Nat := 0
def PySem.W.Fast.tw2566387808223343718 : Nat := 0
def PySem.W.Fast.tw17528258088376854630 : Nat := 0
def PySem.W.Fast.tw5569493918454718598 : Nat := 0
def PySem.W.Fast.tw17975571064706056326 : Nat := 0
def PySem.W.Fast.tw14778209649434054790 : Nat := 0
def PySem.W.Fast.tw2378363196638174374 : Nat := 0
def PySem.W.Fast.tw17128263207587392678 : Nat := 0
def PySem.W.Fast.tw2034414283418290342 : Nat := 0
def PySem.W.Fast.tw14310257600020115622 : Nat := 0
def PySem.W.Fast.tw4996604874534695110 : Nat := 0
def PySem.W.Fast.tw12450158673883907302 : Nat := 0
def PySem.W.Fast.tw18214687386019753190 : Nat := 0
def PySem.W.Fast.tw7146146830050965766 : Nat := 0
def PySem.W.Fast.tw15078596067121957158 : Nat := 0
def PySem.W.Fast.tw12307491664495459622 : Nat := 0
def PySem.W.Fast.tw16369446117885005094 : Nat := 0
def PySem.W.Fast.tw12174118361991368998 : Nat := 0
def PySem.W.Fast.tw8253183596043897158 : Nat := 0
def PySem.W.Fast.tw17993156020533580102 : Nat := 0
def PySem.W.Fast.tw10426661372231813478 : Nat := 0
def PySem.W.Fast.tw3478483592211231078 : Nat := 0
def PySem.W.Fast.tw3865406201487662470 : Nat := 0
def PySem.W.Fast.tw7154438950734165382 : Nat := 0
def PySem.W.Fast.tw14973007898608030118 : Nat := 0
def PySem.W.Fast.tw17024950926791866790 : Nat := 0
def PySem.W.Fast.tw2709412095297331686 : Nat := 0
def PySem.W.Fast.tw9575887512020416998 : Nat := 0
def PySem.W.Fast.tw9441929855208494598 : Nat := 0
def PySem.W.Fast.tw13507890150276375046 : Nat := 0
def PySem.W.Fast.tw14952990662201256454 : Nat := 0
def PySem.W.Fast.tw3353693220867276294 : Nat := 0
def PySem.W.Fast.tw7543618554067911206 : Nat := 0
def PySem.W.Fast.tw7581352650102555174 : Nat := 0
def PySem.W.Fast.tw13007369227552613926 : Nat := 0
def PySem.W.Fast.tw447715330943862342 : Nat := 0
def PySem.W.Fast.tw4933834842325187142 : Nat := 0
def PySem.W.Fast.tw9281714027785469542 : Nat := 0
def PySem.W.Fast.tw8385612375773290118 : Nat := 0
def PySem.W.Fast.tw14598328453382286982 : Nat := 0
def PySem.W.Fast.tw3191799552066343558 : Nat := 0
def PySem.W.Fast.tw17127983024024359590 : Nat := 0
def PySem.W.Fast.tw679225373181323942 : Nat := 0
def PySem.W.Fast.tw12329190917376912038 : Nat := 0
def PySem.W.Fast.tw13642448670920884902 : Nat := 0
def PySem.W.Fast.tw931183843429516998 : Nat := 0
def PySem.W.Fast.tw4858009861420398278 : Nat := 0
def PySem.W.Fast.tw16145008321745377990 : Nat := 0
def PySem.W.Fast.tw5809640215330497254 : Nat := 0
def PySem.W.Fast.tw383016078743330534 : Nat := 0
def PySem.W.Fast.tw17417157451446480614 : Nat := 0
def PySem.W.Fast.tw13841302366752048902 : Nat := 0
def PySem.W.Fast.tw17300597898927385350 : Nat := 0
def PySem.W.Fast.tw10432204191843298054 : Nat := 0
def PySem.W.Fast.tw8324364563912585990 : Nat := 0
def PySem.W.Fast.tw884248653220910886 : Nat := 0
def PySem.W.Fast.tw7530038393340303142 : Nat := 0
def PySem.W.Fast.tw3695515675974049574 : Nat := 0
def PySem.W.Fast.tw5248340912204065574 : Nat := 0
def PySem.W.Fast.tw764782834095389478 : Nat := 0
def PySem.W.Fast.tw3494728130433680198 : Nat := 0
def PySem.W.Fast.tw5365462083380679494 : Nat := 0
def PySem.W.Fast.tw17842620306162639686 : Nat := 0
def PySem.W.Fast.tw578555737997480806 : Nat := 0
def PySem.W.Fast.tw6944952908185719654 : Nat := 0
def PySem.W.Fast.tw5197668827303891814 : Nat := 0
def PySem.W.Fast.tw6289780139416320870 : Nat := 0
def PySem.W.Fast.tw13169248704851481478 : Nat := 0
def PySem.W.Fast.tw7412306733117577094 : Nat := 0
def PySem.W.Fast.tw183835017167291270 : Nat := 0
def PySem.W.Fast.tw7987952416473584550 : Nat := 0
def PySem.W.Fast.tw12393509165935024070 : Nat := 0
def PySem.W.Fast.tw12114495157272644582 : Nat := 0
def PySem.W.Fast.tw13512673800721320934 : Nat := 0
def PySem.W.Fast.tw10231630639636862950 : Nat := 0
def PySem.W.Fast.tw1499420768645567495 : Nat := 0
def PySem.W.Fast.tw11765014963103734823 : Nat := 0
def PySem.W.Fast.tw1944293319124727847 : Nat := 0
def PySem.W.Fast.tw7620305192509194279 : Nat := 0
def PySem.W.Fast.tw18220123701641295943 : Nat := 0
def PySem.W.Fast.tw13759475226829672519 : Nat := 0
def PySem.W.Fast.tw9221807500220729447 : Nat := 0
def PySem.W.Fast.tw15988324343199901799 : Nat := 0
def PySem.W.Fast.tw9684726000583044199 : Nat := 0
def PySem.W.Fast.tw14619708709945020551 : Nat := 0
def PySem.W.Fast.tw1410096668721982599 : Nat := 0
def PySem.W.Fast.tw10713728321251048583 : Nat := 0
def PySem.W.Fast.tw16979880578912567463 : Nat := 0
def PySem.W.Fast.tw4853761087172403367 : Nat := 0
def PySem.W.Fast.tw16643706677886111943 : Nat := 0
def PySem.W.Fast.tw4306451927003165895 : Nat := 0
def PySem.W.Fast.tw12383734066324535495 : Nat := 0
def PySem.W.Fast.tw15020028541594565831 : Nat := 0
def PySem.W.Fast.tw4264315005692455143 : Nat := 0
def PySem.W.Fast.tw16444073730201381095 : Nat := 0
def PySem.W.Fast.tw3181758740681733383 : Nat := 0
def PySem.W.Fast.tw15300170045991075079 : Nat := 0
def PySem.W.Fast.tw1943406537926139143 : Nat := 0
def PySem.W.Fast.tw11588390666370768167 : Nat := 0
def PySem.W.Fast.tw7472853196370598247 : Nat := 0
def PySem.W.Fast.tw13315570867740865927 : Nat := 0
def PySem.W.Fast.tw11682084944484805031 : Nat := 0
def PySem.W.Fast.tw11108263761283441063 : Nat := 0
def PySem.W.Fast.tw1355338860687761863 : Nat := 0
def PySem.W.Fast.tw7455259533337715143 : Nat := 0
def PySem.W.Fast.tw218081771193933319 : Nat := 0
def PySem.W.Fast.tw4319705520415482375 : Nat := 0
def PySem.W.Fast.tw9862997608875712007 : Nat := 0
def PySem.W.Fast.tw11684731748552043015 : Nat := 0
def PySem.W.Fast.tw8469214016357465607 : Nat := 0
def PySem.W.Fast.tw9626119563057501735 : Nat := 0
def PySem.W.Fast.tw16162648775293126183 : Nat := 0
def PySem.W.Fast.tw14305139224198610471 : Nat := 0
def PySem.W.Fast.tw17405570623674095175 : Nat := 0
def PySem.W.Fast.tw15490439104401381959 : Nat := 0
def PySem.W.Fast.tw7578513545901984327 : Nat := 0
def PySem.W.Fast.tw1537898542681612871 : Nat := 0
def PySem.W.Fast.tw4090926877573551719 : Nat := 0
def PySem.W.Fast.tw18354884341226238599 : Nat := 0
def PySem.W.Fast.tw15980859228951719591 : Nat := 0
def PySem.W.Fast.tw216667952605250215 : Nat := 0
def PySem.W.Fast.tw4312528247862356647 : Nat := 0
def PySem.W.Fast.tw13252181687094117063 : Nat := 0
def PySem.W.Fast.tw8111973492025904839 : Nat := 0
def PySem.W.Fast.tw12878780666220222183 : Nat := 0
def PySem.W.Fast.tw14171960442954899207 : Nat := 0
def PySem.W.Fast.tw17141962001662187303 : Nat := 0
def PySem.W.Fast.tw7155543432591195943 : Nat := 0
def PySem.W.Fast.tw335888139076814631 : Nat := 0
def PySem.W.Fast.tw14326252917377295143 : Nat := 0
def PySem.W.Fast.tw17468774583507908391 : Nat := 0
def PySem.W.Fast.tw1461247383320421191 : Nat := 0
def PySem.W.Fast.tw15894407043143930727 : Nat := 0
def PySem.W.Fast.tw3469477755608306535 : Nat := 0
def PySem.W.Fast.tw13710398669453090663 : Nat := 0
def PySem.W.Fast.tw14934708107589980039 : Nat := 0
def PySem.W.Fast.tw3108807778310660999 : Nat := 0
def PySem.W.Fast.tw4594841794817819559 : Nat := 0
def PySem.W.Fast.tw7973765612921428903 : Nat := 0
def PySem.W.Fast.tw4874349655188971431 : Nat := 0
def PySem.W.Fast.tw7253818544800221095 : Nat := 0
def PySem.W.Fast.tw17230556039016184743 : Nat := 0
def PySem.W.Fast.tw3633577522364906407 : Nat := 0
def PySem.W.Fast.tw9745130059564384199 : Nat := 0
def PySem.W.Fast.tw10073347824450446311 : Nat := 0
def PySem.W.Fast.tw9275793141605677031 : Nat := 0
def PySem.W.Fast.tw15706547332285032456 : Nat := 0
def PySem.W.Fast.tw9794667896261083176 : Nat := 0
def PySem.W.Fast.tw14401720017095790664 : Nat := 0
def PySem.W.Fast.tw5770868932273138760 : Nat := 0
def PySem.W.Fast.tw10515194960718852168 : Nat := 0
def PySem.W.Fast.tw10071868454641916008 : Nat := 0
def PySem.W.Fast.tw17848772402925894760 : Nat := 0
def PySem.W.Fast.tw5555313912996828296 : Nat := 0
def PySem.W.Fast.tw10299114407867686024 : Nat := 0
def PySem.W.Fast.tw2611137233208623240 : Nat := 0
def PySem.W.Fast.tw10314498396905981064 : Nat := 0
def PySem.W.Fast.tw8884829309344957576 : Nat := 0
def PySem.W.Fast.tw14073706353221006472 : Nat := 0
def PySem.W.Fast.tw15586084020490888360 : Nat := 0
def PySem.W.Fast.tw4470478605240853672 : Nat := 0
def PySem.W.Fast.tw18084233668224152744 : Nat := 0
def PySem.W.Fast.tw3772091506058418376 : Nat := 0
def PySem.W.Fast.tw15423634916342008072 : Nat := 0
def PySem.W.Fast.tw8374521631193769224 : Nat := 0
def PySem.W.Fast.tw5755181134962350344 : Nat := 0
def PySem.W.Fast.tw2422670821966735624 : Nat := 0
def PySem.W.Fast.tw1421803817401987368 : Nat := 0
def PySem.W.Fast.tw18074617873719313704 : Nat := 0
def PySem.W.Fast.tw5268983451555188008 : Nat := 0
def PySem.W.Fast.tw476078659185462568 : Nat := 0
def PySem.W.Fast.tw10766448739855431976 : Nat := 0
def PySem.W.Fast.tw1531800813942188360 : Nat := 0
def PySem.W.Fast.tw9823516495349866824 : Nat := 0
def PySem.W.Fast.tw1779338056641511784 : Nat := 0
def PySem.W.Fast.tw4504083675297759592 : Nat := 0
def PySem.W.Fast.tw1370275717833778536 : Nat := 0
def PySem.W.Fast.tw11786184479649081736 : Nat := 0
def PySem.W.Fast.tw11495947367809530248 : Nat := 0
def PySem.W.Fast.tw8804489104061782408 : Nat := 0
def PySem.W.Fast.tw16585274827718619528 : Nat := 0
def PySem.W.Fast.tw7295312623806419368 : Nat := 0
def PySem.W.Fast.tw15456819651614358952 : Nat := 0
def PySem.W.Fast.tw7602462309436814760 : Nat := 0
def PySem.W.Fast.tw13232304625505799624 : Nat := 0
def PySem.W.Fast.tw7313295853046975944 : Nat := 0
def PySem.W.Fast.tw13393694030451004872 : Nat := 0
def PySem.W.Fast.tw12033410132040179144 : Nat := 0
def PySem.W.Fast.tw4665826682727579112 : Nat := 0
def PySem.W.Fast.tw12064662690394058248 : Nat := 0
def PySem.W.Fast.tw5998781340512891400 : Nat := 0
def PySem.W.Fast.tw9285146279643344392 : Nat := 0
def PySem.W.Fast.tw18350638575300117064 : Nat := 0
def PySem.W.Fast.tw14265314264860633672 : Nat := 0
def PySem.W.Fast.tw11334522289143818824 : Nat := 0
def PySem.W.Fast.tw16437185098154296904 : Nat := 0
def PySem.W.Fast.tw11767421526060770920 : Nat := 0
def PySem.W.Fast.tw17431367730909923944 : Nat := 0
def PySem.W.Fast.tw9756700068968419944 : Nat := 0
def PySem.W.Fast.tw16247896175521002088 : Nat := 0
def PySem.W.Fast.tw10297629067254267496 : Nat := 0
def PySem.W.Fast.tw9893030918988833448 : Nat := 0
def PySem.W.Fast.tw15068464494326400680 : Nat := 0
def PySem.W.Fast.tw6832808476680081064 : Nat := 0
def PySem.W.Fast.tw14125003541627392680 : Nat := 0
def PySem.W.Fast.tw3470799630455053000 : Nat := 0
def PySem.W.Fast.tw10752953262129268424 : Nat := 0
def PySem.W.Fast.tw9002539241642427112 : Nat := 0
def PySem.W.Fast.tw10942245745930645224 : Nat := 0
def PySem.W.Fast.tw5862681734662768360 : Nat := 0
def PySem.W.Fast.tw9706378190282675944 : Nat := 0
def PySem.W.Fast.tw7386287351920941800 : Nat := 0
def PySem.W.Fast.tw16223305294053301992 : Nat := 0
def PySem.W.Fast.tw4658958612460137192 : Nat := 0
def PySem.W.Fast.tw6291368078380397288 : Nat := 0
def PySem.W.Fast.tw13427988762788590312 : Nat := 0
def PySem.W.Fast.tw6434138532213402376 : Nat := 0
def PySem.W.Fast.tw15737173131095716616 : Nat := 0
def PySem.W.Fast.tw9626942728845285128 : Nat := 0
def PySem.W.Fast.tw12286716685032941320 : Nat := 0
def PySem.W.Fast.tw17815586953681464072 : Nat := 0
def PySem.W.Fast.tw5882768191206486792 : Nat := 0
def PySem.W.Fast.tw201336528355725096 : Nat := 0
def PySem.W.Fast.tw6719230078834137896 : Nat := 0
def PySem.W.Fast.tw10647819351689358120 : Nat := 0
def PySem.W.Fast.tw2277929547826300744 : Nat := 0
def PySem.W.Fast.tw5372470121069088584 : Nat := 0
def PySem.W.Fast.tw10782641618400255816 : Nat := 0
def PySem.W.Fast.tw3459824189758198600 : Nat := 0
def PySem.W.Fast.tw1436094646731138888 : Nat := 0
def PySem.W.Fast.tw9967523689320858472 : Nat := 0
def PySem.W.Fast.tw3880421473898291048 : Nat := 0
def PySem.W.Fast.tw3826639566459466600 : Nat := 0
def PySem.W.Fast.tw18036702205230433160 : Nat := 0
def PySem.W.Fast.tw10261256637340181384 : Nat := 0
def PySem.W.Fast.tw18101931140130867144 : Nat := 0
def PySem.W.Fast.tw15620390229504444360 : Nat := 0
def PySem.W.Fast.tw2156700661684262856 : Nat := 0
def PySem.W.Fast.tw14386061602966655976 : Nat := 0
def PySem.W.Fast.tw13804622635509601256 : Nat := 0
def PySem.W.Fast.tw2381946191666922505 : Nat := 0
def PySem.W.Fast.tw10221327414111165481 : Nat := 0
def PySem.W.Fast.tw3345107109950449737 : Nat := 0
def PySem.W.Fast.tw14920864480051887209 : Nat := 0
def PySem.W.Fast.tw14735856577487844489 : Nat := 0
def PySem.W.Fast.tw9047900276149940361 : Nat := 0
def PySem.W.Fast.tw15094867622456047785 : Nat := 0
def PySem.W.Fast.tw16959959163037707433 : Nat := 0
def PySem.W.Fast.tw9087420756778563785 : Nat := 0
def PySem.W.Fast.tw14837249469386935497 : Nat := 0
def PySem.W.Fast.tw7788680626742099145 : Nat := 0
def PySem.W.Fast.tw2498517477161343209 : Nat := 0
def PySem.W.Fast.tw10938465397075749097 : Nat := 0
def PySem.W.Fast.tw1333364371103165705 : Nat := 0
def PySem.W.Fast.tw1410732064455300393 : Nat := 0
def PySem.W.Fast.tw1971209045111089449 : Nat := 0
def PySem.W.Fast.tw6549454946013327689 : Nat := 0
def PySem.W.Fast.tw16053990785670430025 : Nat := 0
def PySem.W.Fast.tw4909298074010830153 : Nat := 0
def PySem.W.Fast.tw8598412787138384201 : Nat := 0
def PySem.W.Fast.tw13783910572493038921 : Nat := 0
def PySem.W.Fast.tw1954329431781641577 : Nat := 0
def PySem.W.Fast.tw17000155066101142889 : Nat := 0
def PySem.W.Fast.tw12981051755390344553 : Nat := 0
def PySem.W.Fast.tw16861218917600885097 : Nat := 0
def PySem.W.Fast.tw12377561305857167785 : Nat := 0
def PySem.W.Fast.tw757081541053455785 : Nat := 0
def PySem.W.Fast.tw15746797476787084713 : Nat := 0
def PySem.W.Fast.tw17346692010864304553 : Nat := 0
def PySem.W.Fast.tw575838229349594537 : Nat := 0
def PySem.W.Fast.tw8424611434330503625 : Nat := 0
def PySem.W.Fast.tw5204538514238360009 : Nat := 0
def PySem.W.Fast.tw2001226814458364393 : Nat := 0
def PySem.W.Fast.tw7638125539909276137 : Nat := 0
def PySem.W.Fast.tw16432479971616331241 : Nat := 0
def PySem.W.Fast.tw6541165427328886249 : Nat := 0
def PySem.W.Fast.tw6124676592190939625 : Nat := 0
def PySem.W.Fast.tw3559924785247412713 : Nat := 0
def PySem.W.Fast.tw14907048974825807369 : Nat := 0
def PySem.W.Fast.tw529084074605422153 : Nat := 0
def PySem.W.Fast.tw14834023430324568649 : Nat := 0
def PySem.W.Fast.tw6979984963947709033 : Nat := 0
def PySem.W.Fast.tw5068434257544371817 : Nat := 0
def PySem.W.Fast.tw11036193050239951465 : Nat := 0
def PySem.W.Fast.tw8028062061481619049 : Nat := 0
def PySem.W.Fast.tw1210750091971509897 : Nat := 0
def PySem.W.Fast.tw9799099752272642697 : Nat := 0
def PySem.W.Fast.tw15670916694352334505 : Nat := 0
def PySem.W.Fast.tw7464108891457934025 : Nat := 0
def PySem.W.Fast.tw6270750267266631401 : Nat := 0
def PySem.W.Fast.tw2902314222560053993 : Nat := 0
def PySem.W.Fast.tw9062771732600952553 : Nat := 0
def PySem.W.Fast.tw968533553529790185 : Nat := 0
def PySem.W.Fast.tw2637321087531721449 : Nat := 0
def PySem.W.Fast.tw12235971113959763689 : Nat := 0
def PySem.W.Fast.tw15106249588918857481 : Nat := 0
def PySem.W.Fast.tw12172078356533094185 : Nat := 0
def PySem.W.Fast.tw14102650769012015913 : Nat := 0
def PySem.W.Fast.tw1651774542914899753 : Nat := 0
def PySem.W.Fast.tw1550385523622850377 : Nat := 0
def PySem.W.Fast.tw3667056613667625801 : Nat := 0
def PySem.W.Fast.tw16477656136860462921 : Nat := 0
def PySem.W.Fast.tw10246207378447237993 : Nat := 0
def PySem.W.Fast.tw12866136484021002089 : Nat := 0
def PySem.W.Fast.tw43969757491396457 : Nat := 0
def PySem.W.Fast.tw11024967779162205097 : Nat := 0
def PySem.W.Fast.tw6839638574063836073 : Nat := 0
def PySem.W.Fast.tw3976722010076183465 : Nat := 0
def PySem.W.Fast.tw8216598491898157001 : Nat := 0
def PySem.W.Fast.tw7574553109774388169 : Nat := 0
def PySem.W.Fast.tw8999186272805695465 : Nat := 0
def PySem.W.Fast.tw8796240567053077481 : Nat := 0
def PySem.W.Fast.tw18324210609097206761 : Nat := 0
def PySem.W.Fast.tw18247196683334857738 : Nat := 0
def PySem.W.Fast.tw17405574147353361418 : Nat := 0
def PySem.W.Fast.tw442341339445175338 : Nat := 0
def PySem.W.Fast.tw8172093975534723114 : Nat := 0
def PySem.W.Fast.tw18413788216877109322 : Nat := 0
def PySem.W.Fast.tw6957892444533423178 : Nat := 0
def PySem.W.Fast.tw10797649063328284778 : Nat := 0
def PySem.W.Fast.tw7082770336023389322 : Nat := 0
def PySem.W.Fast.tw7729641633298002090 : Nat := 0
def PySem.W.Fast.tw6053570598397407402 : Nat := 0
def PySem.W.Fast.tw16179060978729743530 : Nat := 0
def PySem.W.Fast.tw1320183511955256522 : Nat := 0
def PySem.W.Fast.tw3094477031063562474 : Nat := 0
def PySem.W.Fast.tw7103839169616969994 : Nat := 0
def PySem.W.Fast.tw10679802619454419210 : Nat := 0
def PySem.W.Fast.tw11612774425778712842 : Nat := 0
def PySem.W.Fast.tw12419380585730182442 : Nat := 0
def PySem.W.Fast.tw9494522922242909482 : Nat := 0
def PySem.W.Fast.tw997918110808614186 : Nat := 0
def PySem.W.Fast.tw17235190915264762154 : Nat := 0
def PySem.W.Fast.tw1102190903223815498 : Nat := 0
def PySem.W.Fast.tw13690843758732723530 : Nat := 0
def PySem.W.Fast.tw13981391230805400906 : Nat := 0
def PySem.W.Fast.tw4921902886906138986 : Nat := 0
def PySem.W.Fast.tw2077871619930789226 : Nat := 0
def PySem.W.Fast.tw1615719349143574890 : Nat := 0
def PySem.W.Fast.tw8347337918758438250 : Nat := 0
def PySem.W.Fast.tw1961608511988823402 : Nat := 0
def PySem.W.Fast.tw10970087489707964778 : Nat := 0
def PySem.W.Fast.tw5349121933718820234 : Nat := 0
def PySem.W.Fast.tw10508964354415003018 : Nat := 0
def PySem.W.Fast.tw14690919954387637674 : Nat := 0
def PySem.W.Fast.tw13174220634654979498 : Nat := 0
def PySem.W.Fast.tw15021262042026927530 : Nat := 0
def PySem.W.Fast.tw10320149354908582346 : Nat := 0
def PySem.W.Fast.tw11285170567287374314 : Nat := 0
def PySem.W.Fast.tw18388932541065336298 : Nat := 0
def PySem.W.Fast.tw9015594517142313482 : Nat := 0
def PySem.W.Fast.tw17774800907425398282 : Nat := 0
def PySem.W.Fast.tw13680218239495229994 : Nat := 0
def PySem.W.Fast.tw17069207992594492970 : Nat := 0
def PySem.W.Fast.tw17020626225693228618 : Nat := 0
def PySem.W.Fast.tw8229689697521897066 : Nat := 0
def PySem.W.Fast.tw15034313371233782410 : Nat := 0
def PySem.W.Fast.tw1377046205977697930 : Nat := 0
def PySem.W.Fast.tw14529259203199301258 : Nat := 0
def PySem.W.Fast.tw6638320615218548394 : Nat := 0
def PySem.W.Fast.tw12541614564890900138 : Nat := 0
def PySem.W.Fast.tw5899259220897602250 : Nat := 0
def PySem.W.Fast.tw3768068617246420682 : Nat := 0
def PySem.W.Fast.tw882838713213173450 : Nat := 0
def PySem.W.Fast.tw7074795694173733578 : Nat := 0
def PySem.W.Fast.tw5210751748928081642 : Nat := 0
def PySem.W.Fast.tw3069475018656635626 : Nat := 0
def PySem.W.Fast.tw7671780447133294314 : Nat := 0
def PySem.W.Fast.tw5354570310207565546 : Nat := 0
def PySem.W.Fast.tw9843832111252671242 : Nat := 0
def PySem.W.Fast.tw14333388528381170442 : Nat := 0
def PySem.W.Fast.tw12679591844961189642 : Nat := 0
def PySem.W.Fast.tw9800571698397750058 : Nat := 0
def PySem.W.Fast.tw790365300219607850 : Nat := 0
def PySem.W.Fast.tw13314330512976039754 : Nat := 0
def PySem.W.Fast.tw8488268690174267210 : Nat := 0
def PySem.W.Fast.tw5228443966233409354 : Nat := 0
def PySem.W.Fast.tw16737559591592110954 : Nat := 0
def PySem.W.Fast.tw1204117194425446250 : Nat := 0
def PySem.W.Fast.tw10833601265076812682 : Nat := 0
def PySem.W.Fast.tw4558453808215336874 : Nat := 0
def PySem.W.Fast.tw13816233472422033322 : Nat := 0
def PySem.W.Fast.tw4001535694792856522 : Nat := 0
def PySem.W.Fast.tw853275572366827466 : Nat := 0
def PySem.W.Fast.tw7550549133083043786 : Nat := 0
def PySem.W.Fast.tw10650498128544666635 : Nat := 0
def PySem.W.Fast.tw5170095854777173035 : Nat := 0
def PySem.W.Fast.tw4987873779178513451 : Nat := 0
def PySem.W.Fast.tw16759623664941909067 : Nat := 0
def PySem.W.Fast.tw9501820088010722379 : Nat := 0
def PySem.W.Fast.tw2779652925693483083 : Nat := 0
def PySem.W.Fast.tw15482699702152771691 : Nat := 0
def PySem.W.Fast.tw10500077913531017323 : Nat := 0
def PySem.W.Fast.tw13549102714576105579 : Nat := 0
def PySem.W.Fast.tw12671394736458548363 : Nat := 0
def PySem.W.Fast.tw14185684948912167051 : Nat := 0
def PySem.W.Fast.tw6354897768037277835 : Nat := 0
def PySem.W.Fast.tw7000180514931452075 : Nat := 0
def PySem.W.Fast.tw8727135674562949291 : Nat := 0
def PySem.W.Fast.tw6135381517318000843 : Nat := 0
def PySem.W.Fast.tw7538125934224741611 : Nat := 0
def PySem.W.Fast.tw15224661121926592747 : Nat := 0
def PySem.W.Fast.tw16966814322356759819 : Nat := 0
def PySem.W.Fast.tw17532440430192770315 : Nat := 0
def PySem.W.Fast.tw4109823476700235019 : Nat := 0
def PySem.W.Fast.tw383695940523520267 : Nat := 0
def PySem.W.Fast.tw3188474169857998091 : Nat := 0
def PySem.W.Fast.tw5450187663091677483 : Nat := 0
def PySem.W.Fast.tw12813236842856870187 : Nat := 0
def PySem.W.Fast.tw932993149863042379 : Nat := 0
def PySem.W.Fast.tw11013792430000457035 : Nat := 0
def PySem.W.Fast.tw16255908242479334731 : Nat := 0
def PySem.W.Fast.tw5961129727799662987 : Nat := 0
def PySem.W.Fast.tw12757674840517287307 : Nat := 0
def PySem.W.Fast.tw3113624010894518667 : Nat := 0
def PySem.W.Fast.tw15911615166098693515 : Nat := 0
def PySem.W.Fast.tw17318589155259679147 : Nat := 0
def PySem.W.Fast.tw16449046346598489515 : Nat := 0
def PySem.W.Fast.tw8032284361305108907 : Nat := 0
def PySem.W.Fast.tw5565278806992967083 : Nat := 0
def PySem.W.Fast.tw6166948941111750059 : Nat := 0
def PySem.W.Fast.tw4936483359421988267 : Nat := 0
def PySem.W.Fast.tw8654737378357257675 : Nat := 0
def PySem.W.Fast.tw3720072278350909899 : Nat := 0
def PySem.W.Fast.tw16712280214892120555 : Nat := 0
def PySem.W.Fast.tw4580172410479025643 : Nat := 0
def PySem.W.Fast.tw5902227825499142635 : Nat := 0
def PySem.W.Fast.tw12095823642532355627 : Nat := 0
def PySem.W.Fast.tw8704201022948527659 : Nat := 0
def PySem.W.Fast.tw13969986814359525931 : Nat := 0
def PySem.W.Fast.tw1378346296635387435 : Nat := 0
def PySem.W.Fast.tw2985693935969413707 : Nat := 0
def PySem.W.Fast.tw15615277237666571851 : Nat := 0
def PySem.W.Fast.tw15333200992452180555 : Nat := 0
def PySem.W.Fast.tw6279431530996465227 : Nat := 0
def PySem.W.Fast.tw2987359440910979723 : Nat := 0
def PySem.W.Fast.tw2963976745620960907 : Nat := 0
def PySem.W.Fast.tw3542212042245280427 : Nat := 0
def PySem.W.Fast.tw1173082978983158443 : Nat := 0
def PySem.W.Fast.tw14746774941630613163 : Nat := 0
def PySem.W.Fast.tw3751148417076030155 : Nat := 0
def PySem.W.Fast.tw5493894500399905515 : Nat := 0
def PySem.W.Fast.tw17958718033775295211 : Nat := 0
def PySem.W.Fast.tw17005942007514936075 : Nat := 0
def PySem.W.Fast.tw11929166002236143371 : Nat := 0
def PySem.W.Fast.tw4580202747914273547 : Nat := 0
def PySem.W.Fast.tw3327986453032591115 : Nat := 0
def PySem.W.Fast.tw18269753185460074283 : Nat := 0
def PySem.W.Fast.tw3362959441861295915 : Nat := 0
def PySem.W.Fast.tw5823794197072137003 : Nat := 0
def PySem.W.Fast.tw13160144027095335755 : Nat := 0
def PySem.W.Fast.tw11797746479535961931 : Nat := 0
def PySem.W.Fast.tw18163462532019968843 : Nat := 0
def PySem.W.Fast.tw15516137875711613771 : Nat := 0
def PySem.W.Fast.tw2159791567688598379 : Nat := 0
def PySem.W.Fast.tw9396933662098498411 : Nat := 0
def PySem.W.Fast.tw5820445615435017067 : Nat := 0
def PySem.W.Fast.tw4895499092282765163 : Nat := 0
def PySem.W.Fast.tw12359285113459375979 : Nat := 0
def PySem.W.Fast.tw9076128300344869771 : Nat := 0
def PySem.W.Fast.tw7733015712792483723 : Nat := 0
def PySem.W.Fast.tw8352438668091366283 : Nat := 0
def PySem.W.Fast.tw2793018792637620107 : Nat := 0
def PySem.W.Fast.tw14489655085307688843 : Nat := 0
def PySem.W.Fast.tw16467547270196610987 : Nat := 0
def PySem.W.Fast.tw998094396168785835 : Nat := 0
def PySem.W.Fast.tw7371317365661224875 : Nat := 0
def PySem.W.Fast.tw5237683014460396459 : Nat := 0
def PySem.W.Fast.tw5308766122227430315 : Nat := 0
def PySem.W.Fast.tw15490463899884418987 : Nat := 0
def PySem.W.Fast.tw4600395469775339435 : Nat := 0
def PySem.W.Fast.tw13195905796856590283 : Nat := 0
def PySem.W.Fast.tw11636719661820132299 : Nat := 0
def PySem.W.Fast.tw16495097172686442475 : Nat := 0
def PySem.W.Fast.tw10636239893846962188 : Nat := 0
def PySem.W.Fast.tw4450432466259859468 : Nat := 0
def PySem.W.Fast.tw4183517677704540172 : Nat := 0
def PySem.W.Fast.tw13580328829973926956 : Nat := 0
def PySem.W.Fast.tw1184552218554016812 : Nat := 0
def PySem.W.Fast.tw1460277438893781036 : Nat := 0
def PySem.W.Fast.tw14743920089463984204 : Nat := 0
def PySem.W.Fast.tw1567306401904104524 : Nat := 0
def PySem.W.Fast.tw16189536214700107852 : Nat := 0
def PySem.W.Fast.tw1267870562809915468 : Nat := 0
def PySem.W.Fast.tw13092833931168985164 : Nat := 0
def PySem.W.Fast.tw15468230090516036684 : Nat := 0
def PySem.W.Fast.tw4980102563643897964 : Nat := 0
def PySem.W.Fast.tw4278798014809849964 : Nat := 0
def PySem.W.Fast.tw302611839492116588 : Nat := 0
def PySem.W.Fast.tw4071324889030633612 : Nat := 0
def PySem.W.Fast.tw17082801352038058188 : Nat := 0
def PySem.W.Fast.tw9951705424602377420 : Nat := 0
def PySem.W.Fast.tw2736434102193899724 : Nat := 0
def PySem.W.Fast.tw6431602227632030956 : Nat := 0
def PySem.W.Fast.tw13597199163194897644 : Nat := 0
def PySem.W.Fast.tw12494133203773749484 : Nat := 0
def PySem.W.Fast.tw8502012647770044684 : Nat := 0
def PySem.W.Fast.tw16899832264805207308 : Nat := 0
def PySem.W.Fast.tw9771274337394942220 : Nat := 0
def PySem.W.Fast.tw17955133630450735404 : Nat := 0
def PySem.W.Fast.tw3213069190630382892 : Nat := 0
def PySem.W.Fast.tw11161088081135249708 : Nat := 0
def PySem.W.Fast.tw11298729390765005132 : Nat := 0
def PySem.W.Fast.tw667198328695590252 : Nat := 0
def PySem.W.Fast.tw2333847235374763372 : Nat := 0
def PySem.W.Fast.tw16987768009889223052 : Nat := 0
def PySem.W.Fast.tw12109162141623100812 : Nat := 0
def PySem.W.Fast.tw7193132216969221516 : Nat := 0
def PySem.W.Fast.tw4636218855388986860 : Nat := 0
def PySem.W.Fast.tw16807526939755075052 : Nat := 0
def PySem.W.Fast.tw17045043414572947948 : Nat := 0
def PySem.W.Fast.tw18052830216330045932 : Nat := 0
def PySem.W.Fast.tw7808205228206232076 : Nat := 0
def PySem.W.Fast.tw6021495147891759628 : Nat := 0
def PySem.W.Fast.tw1735497430108182060 : Nat := 0
def PySem.W.Fast.tw14898530676361337388 : Nat := 0
def PySem.W.Fast.tw1318548188745422380 : Nat := 0
def PySem.W.Fast.tw16047330094243780172 : Nat := 0
def PySem.W.Fast.tw12525743811098217068 : Nat := 0
def PySem.W.Fast.tw18123110421147349612 : Nat := 0
def PySem.W.Fast.tw12147853050474103436 : Nat := 0
def PySem.W.Fast.tw4197099436756022924 : Nat := 0
def PySem.W.Fast.tw13993242133007562380 : Nat := 0
def PySem.W.Fast.tw5925582254088234700 : Nat := 0
def PySem.W.Fast.tw8589330548900098764 : Nat := 0
def PySem.W.Fast.tw13322792460473642732 : Nat := 0
def PySem.W.Fast.tw12980721394472540940 : Nat := 0
def PySem.W.Fast.tw12364296000511930124 : Nat := 0
def PySem.W.Fast.tw2134368852220247820 : Nat := 0
def PySem.W.Fast.tw1156252341971683116 : Nat := 0
def PySem.W.Fast.tw6434265647005701932 : Nat := 0
def PySem.W.Fast.tw9721856733848853292 : Nat := 0
def PySem.W.Fast.tw14416505989198278444 : Nat := 0
def PySem.W.Fast.tw11525573260007124812 : Nat := 0
def PySem.W.Fast.tw3950031919427123020 : Nat := 0
def PySem.W.Fast.tw16834004800529318764 : Nat := 0
def PySem.W.Fast.tw2610862549734025068 : Nat := 0
def PySem.W.Fast.tw5315457868209417068 : Nat := 0
def PySem.W.Fast.tw2110668173088178060 : Nat := 0
def PySem.W.Fast.tw5175868404383891340 : Nat := 0
def PySem.W.Fast.tw8695623383162241932 : Nat := 0
def PySem.W.Fast.tw4775785305629353868 : Nat := 0
def PySem.W.Fast.tw4879560196417449868 : Nat := 0
def PySem.W.Fast.tw13749758060653150092 : Nat := 0
def PySem.W.Fast.tw9515652053505349548 : Nat := 0
def PySem.W.Fast.tw17018449646109014956 : Nat := 0
def PySem.W.Fast.tw6127375697748050860 : Nat := 0
def PySem.W.Fast.tw6224646082405213132 : Nat := 0
def PySem.W.Fast.tw8642067239939848140 : Nat := 0
def PySem.W.Fast.tw6678865951600701388 : Nat := 0
def PySem.W.Fast.tw7785048605280242668 : Nat := 0
def PySem.W.Fast.tw4837761894135309292 : Nat := 0
def PySem.W.Fast.tw7229665172594901996 : Nat := 0
def PySem.W.Fast.tw809958914520693773 : Nat := 0
def PySem.W.Fast.tw4665496328224945229 : Nat := 0
def PySem.W.Fast.tw17008675154150965325 : Nat := 0
def PySem.W.Fast.tw494703546511474797 : Nat := 0
def PySem.W.Fast.tw11861152243698038893 : Nat := 0
def PySem.W.Fast.tw13696586060570562701 : Nat := 0
def PySem.W.Fast.tw14746131886017879181 : Nat := 0
def PySem.W.Fast.tw141024602819223693 : Nat := 0
def PySem.W.Fast.tw6614585292965373069 : Nat := 0
def PySem.W.Fast.tw3057346358380338349 : Nat := 0
def PySem.W.Fast.tw1617757218408452269 : Nat := 0
def PySem.W.Fast.tw5674036545160802477 : Nat := 0
def PySem.W.Fast.tw17768419659990539469 : Nat := 0
def PySem.W.Fast.tw6476083875601997005 : Nat := 0
def PySem.W.Fast.tw39160002569200845 : Nat := 0
def PySem.W.Fast.tw5857867401354281197 : Nat := 0
def PySem.W.Fast.tw3778983248477954285 : Nat := 0
def PySem.W.Fast.tw5076957145309523181 : Nat := 0
def PySem.W.Fast.tw562987609596287213 : Nat := 0
def PySem.W.Fast.tw937105155873367277 : Nat := 0
def PySem.W.Fast.tw10113919665641620749 : Nat := 0
def PySem.W.Fast.tw4601692692911543565 : Nat := 0
def PySem.W.Fast.tw9494566927984327949 : Nat := 0
def PySem.W.Fast.tw10719484529398299949 : Nat := 0
def PySem.W.Fast.tw6215197445023879501 : Nat := 0
def PySem.W.Fast.tw5792233857972229453 : Nat := 0
def PySem.W.Fast.tw10352707172743216461 : Nat := 0
def PySem.W.Fast.tw2194152231770291533 : Nat := 0
def PySem.W.Fast.tw13404028037160507757 : Nat := 0
def PySem.W.Fast.tw13581749221687468397 : Nat := 0
def PySem.W.Fast.tw482417222145425773 : Nat := 0
def PySem.W.Fast.tw17027947056734134637 : Nat := 0
def PySem.W.Fast.tw9174083975840366989 : Nat := 0
def PySem.W.Fast.tw3519799139656663437 : Nat := 0
def PySem.W.Fast.tw1228064911786449325 : Nat := 0
def PySem.W.Fast.tw18386054884457128365 : Nat := 0
def PySem.W.Fast.tw1772237422875290029 : Nat := 0
def PySem.W.Fast.tw17101871299007795629 : Nat := 0
def PySem.W.Fast.tw16374537267813192141 : Nat := 0
def PySem.W.Fast.tw2929835306723942861 : Nat := 0
def PySem.W.Fast.tw14081608139266630093 : Nat := 0
def PySem.W.Fast.tw18161577527937198541 : Nat := 0
def PySem.W.Fast.tw7719759833273492973 : Nat := 0
def PySem.W.Fast.tw4679858250743294509 : Nat := 0
def PySem.W.Fast.tw5660631888274992685 : Nat := 0
def PySem.W.Fast.tw1849437791330021933 : Nat := 0
def PySem.W.Fast.tw12350635879374013997 : Nat := 0
def PySem.W.Fast.tw3804314154330152493 : Nat := 0
def PySem.W.Fast.tw3932193239157236269 : Nat := 0
def PySem.W.Fast.tw16277729818996739661 : Nat := 0
def PySem.W.Fast.tw11292233540396651085 : Nat := 0
def PySem.W.Fast.tw4037629707625997901 : Nat := 0
def PySem.W.Fast.tw11838138170533393997 : Nat := 0
def PySem.W.Fast.tw139246203269642829 : Nat := 0
def PySem.W.Fast.tw17846936440860909165 : Nat := 0
def PySem.W.Fast.tw9541367365361098349 : Nat := 0
def PySem.W.Fast.tw608726401823008365 : Nat := 0
def PySem.W.Fast.tw17962735131893694061 : Nat := 0
def PySem.W.Fast.tw15062378111984178829 : Nat := 0
def PySem.W.Fast.tw13036272033356848781 : Nat := 0
def PySem.W.Fast.tw14942985259670156941 : Nat := 0
def PySem.W.Fast.tw266887056113827469 : Nat := 0
def PySem.W.Fast.tw2013313402274715309 : Nat := 0
def PySem.W.Fast.tw15809175171143324333 : Nat := 0
def PySem.W.Fast.tw6501052554957909677 : Nat := 0
def PySem.W.Fast.tw13386633828543106797 : Nat := 0
def PySem.W.Fast.tw3463934183500067565 : Nat := 0
def PySem.W.Fast.tw9673458745742295821 : Nat := 0
def PySem.W.Fast.tw871022187996926733 : Nat := 0
def PySem.W.Fast.tw3282434896037501709 : Nat := 0
def PySem.W.Fast.tw117213463901210413 : Nat := 0
def PySem.W.Fast.tw5434217581134513965 : Nat := 0
def PySem.W.Fast.tw15766043655864335149 : Nat := 0
def PySem.W.Fast.tw5792415823431121709 : Nat := 0
def PySem.W.Fast.tw15816325485067133741 : Nat := 0
def PySem.W.Fast.tw7477620616785359661 : Nat := 0
def PySem.W.Fast.tw17730353683404231501 : Nat := 0
def PySem.W.Fast.tw16439824349840649037 : Nat := 0
def PySem.W.Fast.tw18344399583354655597 : Nat := 0
def PySem.W.Fast.tw2037417660504910701 : Nat := 0
def PySem.W.Fast.tw9265879793445154701 : Nat := 0
def PySem.W.Fast.tw8432684481940611981 : Nat := 0
def PySem.W.Fast.tw9649478854247754669 : Nat := 0
def PySem.W.Fast.tw11177552052486685613 : Nat := 0
def PySem.W.Fast.tw8202182477751992269 : Nat := 0
def PySem.W.Fast.tw9305782018832362445 : Nat := 0
def PySem.W.Fast.tw14544052848187043789 : Nat := 0
def PySem.W.Fast.tw17828083071136270317 : Nat := 0
def PySem.W.Fast.tw14243945788950719469 : Nat := 0
def PySem.W.Fast.tw9272441601492275181 : Nat := 0
def PySem.W.Fast.tw9917628215930124269 : Nat := 0
def PySem.W.Fast.tw11182478938907725838 : Nat := 0
def PySem.W.Fast.tw8374516225308417038 : Nat := 0
def PySem.W.Fast.tw14043711374191979534 : Nat := 0
def PySem.W.Fast.tw18340240734955500558 : Nat := 0
def PySem.W.Fast.tw11890223511925034030 : Nat := 0
def PySem.W.Fast.tw12025208970609079342 : Nat := 0
def PySem.W.Fast.tw1420302572263167022 : Nat := 0
def PySem.W.Fast.tw8710645281305832526 : Nat := 0
def PySem.W.Fast.tw8708707556590381134 : Nat := 0
def PySem.W.Fast.tw148260917463534702 : Nat := 0
def PySem.W.Fast.tw7231885741795680398 : Nat := 0
def PySem.W.Fast.tw6348685521300091022 : Nat := 0
def PySem.W.Fast.tw16292439048969090190 : Nat := 0
def PySem.W.Fast.tw1468114885665857710 : Nat := 0
def PySem.W.Fast.tw2483659495956989102 : Nat := 0
def PySem.W.Fast.tw16274959115069172942 : Nat := 0
def PySem.W.Fast.tw11345719326444978414 : Nat := 0
def PySem.W.Fast.tw2195850606477349134 : Nat := 0
def PySem.W.Fast.tw2322887356643228942 : Nat := 0
def PySem.W.Fast.tw2691727451322075406 : Nat := 0
def PySem.W.Fast.tw39304363184273710 : Nat := 0
def PySem.W.Fast.tw12224272158712414510 : Nat := 0
def PySem.W.Fast.tw2416432120604469582 : Nat := 0
def PySem.W.Fast.tw2918703728375313742 : Nat := 0
def PySem.W.Fast.tw14380340866092297550 : Nat := 0
def PySem.W.Fast.tw724751600484774222 : Nat := 0
def PySem.W.Fast.tw16587393258872893774 : Nat := 0
def PySem.W.Fast.tw12170303376835216750 : Nat := 0
def PySem.W.Fast.tw17411083894581605742 : Nat := 0
def PySem.W.Fast.tw1189734492583310 : Nat := 0
def PySem.W.Fast.tw13180171748994924942 : Nat := 0
def PySem.W.Fast.tw17240087923520299406 : Nat := 0
def PySem.W.Fast.tw12900316506124902798 : Nat := 0
def PySem.W.Fast.tw11566699232636054958 : Nat := 0
def PySem.W.Fast.tw17679261114430710190 : Nat := 0
def PySem.W.Fast.tw8579058602437062094 : Nat := 0
def PySem.W.Fast.tw1857294707202544078 : Nat := 0
def PySem.W.Fast.tw4318056027017086478 : Nat := 0
def PySem.W.Fast.tw7650934615059315214 : Nat := 0
def PySem.W.Fast.tw15919542637913265678 : Nat := 0
def PySem.W.Fast.tw16451151925259046446 : Nat := 0
def PySem.W.Fast.tw5923252988546675246 : Nat := 0
def PySem.W.Fast.tw8500036141402158638 : Nat := 0
def PySem.W.Fast.tw6521757526224697902 : Nat := 0
def PySem.W.Fast.tw389472881494512206 : Nat := 0
def PySem.W.Fast.tw3539689615750047342 : Nat := 0
def PySem.W.Fast.tw8693227569615203950 : Nat := 0
def PySem.W.Fast.tw13322460287171867278 : Nat := 0
def PySem.W.Fast.tw1305609685974793870 : Nat := 0
def PySem.W.Fast.tw6379339435974518414 : Nat := 0
def PySem.W.Fast.tw17616949624276018830 : Nat := 0
def PySem.W.Fast.tw5651309151131665070 : Nat := 0
def PySem.W.Fast.tw900395245841561262 : Nat := 0
def PySem.W.Fast.tw3306904295867340462 : Nat := 0
def PySem.W.Fast.tw7003692393551451822 : Nat := 0
def PySem.W.Fast.tw10997239445034495662 : Nat := 0
def PySem.W.Fast.tw756547877866176174 : Nat := 0
def PySem.W.Fast.tw3758773823038459598 : Nat := 0
def PySem.W.Fast.tw420812918241475278 : Nat := 0
def PySem.W.Fast.tw10112562596278718158 : Nat := 0
def PySem.W.Fast.tw16874561944515371726 : Nat := 0
def PySem.W.Fast.tw984089675067855598 : Nat := 0
def PySem.W.Fast.tw2401699919119007470 : Nat := 0
def PySem.W.Fast.tw211612581532988142 : Nat := 0
def PySem.W.Fast.tw16644606511662114574 : Nat := 0
def PySem.W.Fast.tw14159497744377131790 : Nat := 0
def PySem.W.Fast.tw5946486811044033294 : Nat := 0
def PySem.W.Fast.tw5706481520468235054 : Nat := 0
def PySem.W.Fast.tw17730448691065144110 : Nat := 0
def PySem.W.Fast.tw17305684595852957486 : Nat := 0
def PySem.W.Fast.tw12343356718016321358 : Nat := 0
def PySem.W.Fast.tw3417826981245426542 : Nat := 0
def PySem.W.Fast.tw3930272875291797358 : Nat := 0
def PySem.W.Fast.tw14351352079221083022 : Nat := 0
def PySem.W.Fast.tw14816952368964660110 : Nat := 0
def PySem.W.Fast.tw6213697211615256494 : Nat := 0
def PySem.W.Fast.tw3089645740814760878 : Nat := 0
def PySem.W.Fast.tw16751196440357475278 : Nat := 0
def PySem.W.Fast.tw13679058307450213326 : Nat := 0
def PySem.W.Fast.tw17712678154181859278 : Nat := 0
def PySem.W.Fast.tw13092830637620070382 : Nat := 0
def PySem.W.Fast.tw11985326045990495214 : Nat := 0
def PySem.W.Fast.tw13952683649628321774 : Nat := 0
def PySem.W.Fast.tw14766643958189025262 : Nat := 0
def PySem.W.Fast.tw10678922878324996078 : Nat := 0
def PySem.W.Fast.tw15823609455315575823 : Nat := 0
def PySem.W.Fast.tw5255839555830183951 : Nat := 0
def PySem.W.Fast.tw14429761541681541167 : Nat := 0
def PySem.W.Fast.tw2711585505577850959 : Nat := 0
def PySem.W.Fast.tw2847640091391047791 : Nat := 0
def PySem.W.Fast.tw912392155897948271 : Nat := 0
def PySem.W.Fast.tw12965431805936823407 : Nat := 0
def PySem.W.Fast.tw995937716060619919 : Nat := 0
def PySem.W.Fast.tw8650262162203648143 : Nat := 0
def PySem.W.Fast.tw11242719595229979791 : Nat := 0
def PySem.W.Fast.tw12649020673818016911 : Nat := 0
def PySem.W.Fast.tw17429684086410527887 : Nat := 0
def PySem.W.Fast.tw17596809139577655471 : Nat := 0
def PySem.W.Fast.tw2958496551925291183 : Nat := 0
def PySem.W.Fast.tw2447921434856996015 : Nat := 0
def PySem.W.Fast.tw11015268738531770543 : Nat := 0
def PySem.W.Fast.tw2948108419219029167 : Nat := 0
def PySem.W.Fast.tw6952355047532471503 : Nat := 0
def PySem.W.Fast.tw9206804518496725263 : Nat := 0
def PySem.W.Fast.tw8500807674174148911 : Nat := 0
def PySem.W.Fast.tw9575731206691268911 : Nat := 0
def PySem.W.Fast.tw13721567128424951087 : Nat := 0
def PySem.W.Fast.tw13471316229770301743 : Nat := 0
def PySem.W.Fast.tw2266659279656486223 : Nat := 0
def PySem.W.Fast.tw8283515000281207119 : Nat := 0
def PySem.W.Fast.tw14186486079044719983 : Nat := 0
def PySem.W.Fast.tw2993591762102245743 : Nat := 0
def PySem.W.Fast.tw558745408833754511 : Nat := 0
def PySem.W.Fast.tw4434333111790514575 : Nat := 0
def PySem.W.Fast.tw5758256569797452207 : Nat := 0
def PySem.W.Fast.tw10040787053062605231 : Nat := 0
def PySem.W.Fast.tw14066949294787988943 : Nat := 0
def PySem.W.Fast.tw3736136724727406031 : Nat := 0
def PySem.W.Fast.tw5474903341430974927 : Nat := 0
def PySem.W.Fast.tw1620339239838986703 : Nat := 0
def PySem.W.Fast.tw16758808235637498351 : Nat := 0
def PySem.W.Fast.tw13433981181835286031 : Nat := 0
def PySem.W.Fast.tw8897438545928877583 : Nat := 0
def PySem.W.Fast.tw15774046276295490063 : Nat := 0
def PySem.W.Fast.tw11957962974430299695 : Nat := 0
def PySem.W.Fast.tw11853533878840232495 : Nat := 0
def PySem.W.Fast.tw7950560144509940271 : Nat := 0
def PySem.W.Fast.tw11891824955294080559 : Nat := 0
def PySem.W.Fast.tw14648978540282383951 : Nat := 0
def PySem.W.Fast.tw816149086519693903 : Nat := 0
def PySem.W.Fast.tw1916944219915559503 : Nat := 0
def PySem.W.Fast.tw6487992825079129679 : Nat := 0
def PySem.W.Fast.tw6589095468515690095 : Nat := 0
def PySem.W.Fast.tw17848953441511769711 : Nat := 0
def PySem.W.Fast.tw6722154040420286063 : Nat := 0
def PySem.W.Fast.tw17752751222293545583 : Nat := 0
def PySem.W.Fast.tw3049794533805585007 : Nat := 0
def PySem.W.Fast.tw5247225353297040015 : Nat := 0
def PySem.W.Fast.tw1651323002777062031 : Nat := 0
def PySem.W.Fast.tw15560500314895047343 : Nat := 0
def PySem.W.Fast.tw13709468806231354031 : Nat := 0
def PySem.W.Fast.tw10646025642058488527 : Nat := 0
def PySem.W.Fast.tw2861795833454409423 : Nat := 0
def PySem.W.Fast.tw14424030437218788079 : Nat := 0
def PySem.W.Fast.tw5112288848164825839 : Nat := 0
def PySem.W.Fast.tw7556441486295839471 : Nat := 0
def PySem.W.Fast.tw12488000419048109807 : Nat := 0
def PySem.W.Fast.tw10914896485718949615 : Nat := 0
def PySem.W.Fast.tw15314304893827057423 : Nat := 0
def PySem.W.Fast.tw11935356649212052271 : Nat := 0
def PySem.W.Fast.tw1995926237046646575 : Nat := 0
def PySem.W.Fast.tw9165568632223901487 : Nat := 0
def PySem.W.Fast.tw3359356273172961071 : Nat := 0
def PySem.W.Fast.tw17067955082135675727 : Nat := 0
def PySem.W.Fast.tw11462045893675790159 : Nat := 0
def PySem.W.Fast.tw18411236485957070671 : Nat := 0
def PySem.W.Fast.tw14214133299417103183 : Nat := 0
def PySem.W.Fast.tw14870196432650325839 : Nat := 0
def PySem.W.Fast.tw5556110093522782063 : Nat := 0
def PySem.W.Fast.tw9416170592642261871 : Nat := 0
def PySem.W.Fast.tw8432637148305886095 : Nat := 0
def PySem.W.Fast.tw13871001218405608335 : Nat := 0
def PySem.W.Fast.tw7824674403005707151 : Nat := 0
def PySem.W.Fast.tw532166780429963183 : Nat := 0
def PySem.W.Fast.tw4729031400352572335 : Nat := 0
def PySem.W.Fast.tw15647124559174603727 : Nat := 0
def PySem.W.Fast.tw12276580409606207439 : Nat := 0
def PySem.W.Fast.tw6967401301877209104 : Nat := 0
def PySem.W.Fast.tw6929271841933376528 : Nat := 0
def PySem.W.Fast.tw2463722267348650000 : Nat := 0
def PySem.W.Fast.tw17019428146730326032 : Nat := 0
def PySem.W.Fast.tw9759809726879904816 : Nat := 0
def PySem.W.Fast.tw15018112161394706480 : Nat := 0
def PySem.W.Fast.tw10010936943081839664 : Nat := 0
def PySem.W.Fast.tw2078703811421203504 : Nat := 0
def PySem.W.Fast.tw8946543629884556368 : Nat := 0
def PySem.W.Fast.tw6268969693082757200 : Nat := 0
def PySem.W.Fast.tw14273802060069496912 : Nat := 0
def PySem.W.Fast.tw16931023410199005296 : Nat := 0
def PySem.W.Fast.tw1869930749605803152 : Nat := 0
def PySem.W.Fast.tw6834602518627153040 : Nat := 0
def PySem.W.Fast.tw12513138341781932208 : Nat := 0
def PySem.W.Fast.tw15024400658511699120 : Nat := 0
def PySem.W.Fast.tw16148938690769344688 : Nat := 0
def PySem.W.Fast.tw10185303285121734832 : Nat := 0
def PySem.W.Fast.tw11707371222683016368 : Nat := 0
def PySem.W.Fast.tw2222916491136824496 : Nat := 0
def PySem.W.Fast.tw2067100250497672400 : Nat := 0
def PySem.W.Fast.tw14084867619439834320 : Nat := 0
def PySem.W.Fast.tw2165606593764840688 : Nat := 0
def PySem.W.Fast.tw9041768174481992944 : Nat := 0
def PySem.W.Fast.tw1699649707990740208 : Nat := 0
def PySem.W.Fast.tw11387321280439035152 : Nat := 0
def PySem.W.Fast.tw17000756265888016 : Nat := 0
def PySem.W.Fast.tw16417370028952169744 : Nat := 0
def PySem.W.Fast.tw3632303762019758384 : Nat := 0
def PySem.W.Fast.tw14762597572694306096 : Nat := 0
def PySem.W.Fast.tw2752641784207747408 : Nat := 0
def PySem.W.Fast.tw7640025773117715792 : Nat := 0
def PySem.W.Fast.tw17351624128586235216 : Nat := 0
def PySem.W.Fast.tw1574873078441994576 : Nat := 0
def PySem.W.Fast.tw14188108525224849744 : Nat := 0
def PySem.W.Fast.tw3698559305507148144 : Nat := 0
def PySem.W.Fast.tw17158550017616493936 : Nat := 0
def PySem.W.Fast.tw3777755567575978352 : Nat := 0
def PySem.W.Fast.tw2478078296215019888 : Nat := 0
def PySem.W.Fast.tw8210439275843359120 : Nat := 0
def PySem.W.Fast.tw2081053591005667728 : Nat := 0
def PySem.W.Fast.tw18187389545664133520 : Nat := 0
def PySem.W.Fast.tw9620821133714224528 : Nat := 0
def PySem.W.Fast.tw10656205553985301936 : Nat := 0
def PySem.W.Fast.tw8376210621651630512 : Nat := 0
def PySem.W.Fast.tw17803129079492736432 : Nat := 0
def PySem.W.Fast.tw3460871413274159568 : Nat := 0
def PySem.W.Fast.tw347637069881736656 : Nat := 0
def PySem.W.Fast.tw9673242601479874032 : Nat := 0
def PySem.W.Fast.tw4942517447679036912 : Nat := 0
def PySem.W.Fast.tw6179359751918216688 : Nat := 0
def PySem.W.Fast.tw16190019576296547856 : Nat := 0
def PySem.W.Fast.tw2151371158514056720 : Nat := 0
def PySem.W.Fast.tw13599339833300997648 : Nat := 0
def PySem.W.Fast.tw13663767717371191856 : Nat := 0
def PySem.W.Fast.tw4575980220486274672 : Nat := 0
def PySem.W.Fast.tw17933558565167265392 : Nat := 0
def PySem.W.Fast.tw2575885365511412368 : Nat := 0
def PySem.W.Fast.tw12095886509690646160 : Nat := 0
def PySem.W.Fast.tw11629953924900746896 : Nat := 0
def PySem.W.Fast.tw7715274427708543696 : Nat := 0
def PySem.W.Fast.tw4393257850636414672 : Nat := 0
def PySem.W.Fast.tw6076076219008924368 : Nat := 0
def PySem.W.Fast.tw4716499452693333712 : Nat := 0
def PySem.W.Fast.tw535072334866317008 : Nat := 0
def PySem.W.Fast.tw18428756778242999024 : Nat := 0
def PySem.W.Fast.tw13987355940573415152 : Nat := 0
def PySem.W.Fast.tw2719445374943340272 : Nat := 0
def PySem.W.Fast.tw1690735587144091376 : Nat := 0
def PySem.W.Fast.tw5032672714987261680 : Nat := 0
def PySem.W.Fast.tw17634684564519421712 : Nat := 0
def PySem.W.Fast.tw8944552219296108336 : Nat := 0
def PySem.W.Fast.tw11363912090873407280 : Nat := 0
def PySem.W.Fast.tw5135500740108067664 : Nat := 0
def PySem.W.Fast.tw15207642765257501584 : Nat := 0
def PySem.W.Fast.tw7081425507203772304 : Nat := 0
def PySem.W.Fast.tw7725732167140030384 : Nat := 0
def PySem.W.Fast.tw15460216838877239216 : Nat := 0
def PySem.W.Fast.tw10948738476641704880 : Nat := 0
def PySem.W.Fast.tw18419261529948251056 : Nat := 0
def PySem.W.Fast.tw4798580448925718480 : Nat := 0
def PySem.W.Fast.tw5423003317807263696 : Nat := 0
def PySem.W.Fast.tw15808557625122938864 : Nat := 0
def PySem.W.Fast.tw1136578752053086225 : Nat := 0
def PySem.W.Fast.tw17827458813498177553 : Nat := 0
def PySem.W.Fast.tw9120564183446206481 : Nat := 0
def PySem.W.Fast.tw1601324251397642257 : Nat := 0
def PySem.W.Fast.tw7009043117176579089 : Nat := 0
def PySem.W.Fast.tw18066322932722644017 : Nat := 0
def PySem.W.Fast.tw3784766288315163729 : Nat := 0
def PySem.W.Fast.tw17958781421961600081 : Nat := 0
def PySem.W.Fast.tw9331446305651722353 : Nat := 0
def PySem.W.Fast.tw8743639143010975857 : Nat := 0
def PySem.W.Fast.tw10670733350059645105 : Nat := 0
def PySem.W.Fast.tw12467908281193277617 : Nat := 0
def PySem.W.Fast.tw15295866982023656625 : Nat := 0
def PySem.W.Fast.tw3712705742360598737 : Nat := 0
def PySem.W.Fast.tw6494209642225098961 : Nat := 0
def PySem.W.Fast.tw7323676302269181137 : Nat := 0
def PySem.W.Fast.tw7837281068119228657 : Nat := 0
def PySem.W.Fast.tw15500058420704019697 : Nat := 0
def PySem.W.Fast.tw10165074583629733105 : Nat := 0
def PySem.W.Fast.tw13011350918254341361 : Nat := 0
def PySem.W.Fast.tw16474492168511960337 : Nat := 0
def PySem.W.Fast.tw14389334442490810641 : Nat := 0
def PySem.W.Fast.tw7586110667864466705 : Nat := 0
def PySem.W.Fast.tw7275051467321613617 : Nat := 0
def PySem.W.Fast.tw11790162104776037713 : Nat := 0
def PySem.W.Fast.tw13081698224972964177 : Nat := 0
def PySem.W.Fast.tw3653574156908149073 : Nat := 0
def PySem.W.Fast.tw5697894365363955025 : Nat := 0
def PySem.W.Fast.tw16289391198768371057 : Nat := 0
def PySem.W.Fast.tw2305325121136568689 : Nat := 0
def PySem.W.Fast.tw17172517015917474193 : Nat := 0
def PySem.W.Fast.tw16869795893548358065 : Nat := 0
def PySem.W.Fast.tw18085928063996046769 : Nat := 0
def PySem.W.Fast.tw17434858337260393937 : Nat := 0
def PySem.W.Fast.tw6709650380176219601 : Nat := 0
def PySem.W.Fast.tw3282145724736335313 : Nat := 0
def PySem.W.Fast.tw15603415135236887025 : Nat := 0
def PySem.W.Fast.tw894076849921957361 : Nat := 0
def PySem.W.Fast.tw15832196343713669649 : Nat := 0
def PySem.W.Fast.tw2392560884831400465 : Nat := 0
def PySem.W.Fast.tw15702219745657467409 : Nat := 0
def PySem.W.Fast.tw13254397897704925713 : Nat := 0
def PySem.W.Fast.tw11625766737575182897 : Nat := 0
def PySem.W.Fast.tw9821368406582625841 : Nat := 0
def PySem.W.Fast.tw18304396597998594609 : Nat := 0
def PySem.W.Fast.tw11053044652586781233 : Nat := 0
def PySem.W.Fast.tw14285029430470858289 : Nat := 0
def PySem.W.Fast.tw11796506867022685745 : Nat := 0
def PySem.W.Fast.tw7057405563618977329 : Nat := 0
def PySem.W.Fast.tw2842348686587445841 : Nat := 0
def PySem.W.Fast.tw1423138165483278961 : Nat := 0
def PySem.W.Fast.tw6380047634161181297 : Nat := 0
def PySem.W.Fast.tw1269743608478119537 : Nat := 0
def PySem.W.Fast.tw860633742784649841 : Nat := 0
def PySem.W.Fast.tw17293025244588862065 : Nat := 0
def PySem.W.Fast.tw367588803521393297 : Nat := 0
def PySem.W.Fast.tw11532335895291130513 : Nat := 0
def PySem.W.Fast.tw251162882758327985 : Nat := 0
def PySem.W.Fast.tw8047484207015712433 : Nat := 0
def PySem.W.Fast.tw17018628822417861297 : Nat := 0
def PySem.W.Fast.tw7618406622816332465 : Nat := 0
def PySem.W.Fast.tw6900197635876881105 : Nat := 0
def PySem.W.Fast.tw2641965403942558417 : Nat := 0
def PySem.W.Fast.tw10033396928017900241 : Nat := 0
def PySem.W.Fast.tw12456492676567594705 : Nat := 0
def PySem.W.Fast.tw7496433998918960881 : Nat := 0
def PySem.W.Fast.tw799472198861031185 : Nat := 0
def PySem.W.Fast.tw2883484788219351825 : Nat := 0
def PySem.W.Fast.tw11494072545376814865 : Nat := 0
def PySem.W.Fast.tw8552093678088426289 : Nat := 0
def PySem.W.Fast.tw17207840028585114417 : Nat := 0
def PySem.W.Fast.tw11863081143760314161 : Nat := 0
def PySem.W.Fast.tw9248541637817142097 : Nat := 0
def PySem.W.Fast.tw4949472239710415697 : Nat := 0
def PySem.W.Fast.tw8017206721242287953 : Nat := 0
def PySem.W.Fast.tw14567578511070691153 : Nat := 0
def PySem.W.Fast.tw2118141222776746865 : Nat := 0
def PySem.W.Fast.tw17057272898397164401 : Nat := 0
def PySem.W.Fast.tw12756110868346105713 : Nat := 0
def PySem.W.Fast.tw1747998465416006545 : Nat := 0
def PySem.W.Fast.tw15902184279288820625 : Nat := 0
def PySem.W.Fast.tw7344376507651311505 : Nat := 0
def PySem.W.Fast.tw10939839348159177617 : Nat := 0
def PySem.W.Fast.tw9523854035256167345 : Nat := 0
def PySem.W.Fast.tw7626545593315575761 : Nat := 0
def PySem.W.Fast.tw8435429760289985489 : Nat := 0
def PySem.W.Fast.tw10487160056961263569 : Nat := 0
def PySem.W.Fast.tw12898947447245864913 : Nat := 0
def PySem.W.Fast.tw14582856210765095921 : Nat := 0
def PySem.W.Fast.tw9651036079312612337 : Nat := 0
def PySem.W.Fast.tw2011108890870493169 : Nat := 0
def PySem.W.Fast.tw17517737089405305841 : Nat := 0
def PySem.W.Fast.tw7287254914957564913 : Nat := 0
def PySem.W.Fast.tw13132035660282663954 : Nat := 0
def PySem.W.Fast.tw12393455550290869266 : Nat := 0
def PySem.W.Fast.tw15560294316089916434 : Nat := 0
def PySem.W.Fast.tw17511267555981980690 : Nat := 0
def PySem.W.Fast.tw18410474027866654770 : Nat := 0
def PySem.W.Fast.tw9151444980202551346 : Nat := 0
def PySem.W.Fast.tw17719373434677690450 : Nat := 0
def PySem.W.Fast.tw7902497345359465554 : Nat := 0
def PySem.W.Fast.tw2823538514989777010 : Nat := 0
def PySem.W.Fast.tw7140130562030077042 : Nat := 0
def PySem.W.Fast.tw15905418285117262962 : Nat := 0
def PySem.W.Fast.tw10138199336372458610 : Nat := 0
def PySem.W.Fast.tw10819683100428557426 : Nat := 0
def PySem.W.Fast.tw6517296806544964722 : Nat := 0
def PySem.W.Fast.tw15607027003203980434 : Nat := 0
def PySem.W.Fast.tw6929956602132211858 : Nat := 0
def PySem.W.Fast.tw2122215241930960018 : Nat := 0
def PySem.W.Fast.tw18175619300446568626 : Nat := 0
def PySem.W.Fast.tw16339471991904476338 : Nat := 0
def PySem.W.Fast.tw487364732245791922 : Nat := 0
def PySem.W.Fast.tw16349216596472256690 : Nat := 0
def PySem.W.Fast.tw5952267759425050802 : Nat := 0
def PySem.W.Fast.tw15875134178287826130 : Nat := 0
def PySem.W.Fast.tw4989861115921178866 : Nat := 0
def PySem.W.Fast.tw3898955781451842834 : Nat := 0
def PySem.W.Fast.tw5553283244982373650 : Nat := 0
def PySem.W.Fast.tw901485485814813970 : Nat := 0
def PySem.W.Fast.tw12531990621933522194 : Nat := 0
def PySem.W.Fast.tw2784737618629438770 : Nat := 0
def PySem.W.Fast.tw10129842294516826418 : Nat := 0
def PySem.W.Fast.tw17138261911001417010 : Nat := 0
def PySem.W.Fast.tw5144633987255907666 : Nat := 0
def PySem.W.Fast.tw12801935338216382802 : Nat := 0
def PySem.W.Fast.tw10029231156530900338 : Nat := 0
def PySem.W.Fast.tw2951486255847992690 : Nat := 0
def PySem.W.Fast.tw2654063002063994258 : Nat := 0
def PySem.W.Fast.tw2614552105083212210 : Nat := 0
def PySem.W.Fast.tw1442761868387242418 : Nat := 0
def PySem.W.Fast.tw16942194440817826258 : Nat := 0
def PySem.W.Fast.tw11171608375663816178 : Nat := 0
def PySem.W.Fast.tw820226145141424658 : Nat := 0
def PySem.W.Fast.tw3473676481025478162 : Nat := 0
def PySem.W.Fast.tw12472836147817038354 : Nat := 0
def PySem.W.Fast.tw6714822604882049554 : Nat := 0
def PySem.W.Fast.tw13830114634639276562 : Nat := 0
def PySem.W.Fast.tw12908614556098745906 : Nat := 0
def PySem.W.Fast.tw9564595351457756722 : Nat := 0
def PySem.W.Fast.tw16414604833108395602 : Nat := 0
def PySem.W.Fast.tw12540877339514443346 : Nat := 0
def PySem.W.Fast.tw6937325167468391026 : Nat := 0
def PySem.W.Fast.tw9059601668185437810 : Nat := 0
def PySem.W.Fast.tw14884601019740666482 : Nat := 0
def PySem.W.Fast.tw18328561965235511954 : Nat := 0
def PySem.W.Fast.tw18126140380344562322 : Nat := 0
def PySem.W.Fast.tw15103234261437856402 : Nat := 0
def PySem.W.Fast.tw5583097509054499474 : Nat := 0
def PySem.W.Fast.tw12050852935592152754 : Nat := 0
def PySem.W.Fast.tw1964067637008963282 : Nat := 0
def PySem.W.Fast.tw13621830161993155282 : Nat := 0
def PySem.W.Fast.tw16593013826814733010 : Nat := 0
def PySem.W.Fast.tw1242667000658884306 : Nat := 0
def PySem.W.Fast.tw15965015591981942514 : Nat := 0
def PySem.W.Fast.tw12816070492384433906 : Nat := 0
def PySem.W.Fast.tw5410153933605578482 : Nat := 0
def PySem.W.Fast.tw9455686188066324210 : Nat := 0
def PySem.W.Fast.tw503676674663206642 : Nat := 0
def PySem.W.Fast.tw9931943479562821362 : Nat := 0
def PySem.W.Fast.tw10220936982206179058 : Nat := 0
def PySem.W.Fast.tw4002787178362924786 : Nat := 0
def PySem.W.Fast.tw7857311750642036466 : Nat := 0
def PySem.W.Fast.tw8959964123841196786 : Nat := 0
def PySem.W.Fast.tw4552823106982906706 : Nat := 0
def PySem.W.Fast.tw13156168479132978002 : Nat := 0
def PySem.W.Fast.tw11092970199166127954 : Nat := 0
def PySem.W.Fast.tw15315713394281565010 : Nat := 0
def PySem.W.Fast.tw3710963133593081682 : Nat := 0
def PySem.W.Fast.tw2387720566874501970 : Nat := 0
def PySem.W.Fast.tw3617062018128860018 : Nat := 0
def PySem.W.Fast.tw16873187988247708562 : Nat := 0
def PySem.W.Fast.tw7120898165467022226 : Nat := 0
def PySem.W.Fast.tw6875426887613551506 : Nat := 0
def PySem.W.Fast.tw16645262185327669138 : Nat := 0
def PySem.W.Fast.tw4011157648589011858 : Nat := 0
def PySem.W.Fast.tw5093978072118978450 : Nat := 0
def PySem.W.Fast.tw11433066937589102482 : Nat := 0
def PySem.W.Fast.tw5008718477461358514 : Nat := 0
def PySem.W.Fast.tw1711367819467211730 : Nat := 0
def PySem.W.Fast.tw3149940706203789266 : Nat := 0
def PySem.W.Fast.tw4407734736301137906 : Nat := 0
def PySem.W.Fast.tw6662432510661729299 : Nat := 0
def PySem.W.Fast.tw11885390098437584915 : Nat := 0
def PySem.W.Fast.tw24343102334510163 : Nat := 0
def PySem.W.Fast.tw5518745428033880147 : Nat := 0
def PySem.W.Fast.tw1708024556718086227 : Nat := 0
def PySem.W.Fast.tw616065193209898099 : Nat := 0
def PySem.W.Fast.tw6551367506479906963 : Nat := 0
def PySem.W.Fast.tw260747665356735667 : Nat := 0
def PySem.W.Fast.tw10919533547850550483 : Nat := 0
def PySem.W.Fast.tw3152983702415266003 : Nat := 0
def PySem.W.Fast.tw5299483063635442899 : Nat := 0
def PySem.W.Fast.tw10758392820592806131 : Nat := 0
def PySem.W.Fast.tw6090905460779295987 : Nat := 0
def PySem.W.Fast.tw14763704009068828915 : Nat := 0
def PySem.W.Fast.tw7326686309342640371 : Nat := 0
def PySem.W.Fast.tw3922443574478780691 : Nat := 0
def PySem.W.Fast.tw4299136966843209011 : Nat := 0
def PySem.W.Fast.tw7981363867086199091 : Nat := 0
def PySem.W.Fast.tw15039117976438264115 : Nat := 0
def PySem.W.Fast.tw2784715233800423763 : Nat := 0
def PySem.W.Fast.tw10352308551163946355 : Nat := 0
def PySem.W.Fast.tw15066959818950650227 : Nat := 0
def PySem.W.Fast.tw4065450807325207923 : Nat := 0
def PySem.W.Fast.tw3309201869190286707 : Nat := 0
def PySem.W.Fast.tw13249717894814248339 : Nat := 0
def PySem.W.Fast.tw16406328271908756883 : Nat := 0
def PySem.W.Fast.tw11855487677703710099 : Nat := 0
def PySem.W.Fast.tw8524552446144447923 : Nat := 0
def PySem.W.Fast.tw9092590503495048627 : Nat := 0
def PySem.W.Fast.tw14357357538673253811 : Nat := 0
def PySem.W.Fast.tw13578758902629278163 : Nat := 0
def PySem.W.Fast.tw14112274594779413971 : Nat := 0
def PySem.W.Fast.tw10227693086864044499 : Nat := 0
def PySem.W.Fast.tw4888971946704870899 : Nat := 0
def PySem.W.Fast.tw9203354889408330259 : Nat := 0
def PySem.W.Fast.tw15028816761298942483 : Nat := 0
def PySem.W.Fast.tw16191564642481045011 : Nat := 0
def PySem.W.Fast.tw4111355340424721971 : Nat := 0
def PySem.W.Fast.tw8512808166605502003 : Nat := 0
def PySem.W.Fast.tw3766158894648301139 : Nat := 0
def PySem.W.Fast.tw9787396351842916947 : Nat := 0
def PySem.W.Fast.tw8123005709971320403 : Nat := 0
def PySem.W.Fast.tw13650077344797733491 : Nat := 0
def PySem.W.Fast.tw9376109419431680627 : Nat := 0
def PySem.W.Fast.tw365843728312224403 : Nat := 0
def PySem.W.Fast.tw9073267055202954931 : Nat := 0
def PySem.W.Fast.tw12301736329548577491 : Nat := 0
def PySem.W.Fast.tw5044207962735655635 : Nat := 0
def PySem.W.Fast.tw13089195740965208819 : Nat := 0
def PySem.W.Fast.tw10464145250481579763 : Nat := 0
def PySem.W.Fast.tw6898383803452737267 : Nat := 0
def PySem.W.Fast.tw561705348807414515 : Nat := 0
def PySem.W.Fast.tw4966893808263662355 : Nat := 0
def PySem.W.Fast.tw9409922587235954451 : Nat := 0
def PySem.W.Fast.tw18055523925428093715 : Nat := 0
def PySem.W.Fast.tw15562837088269578035 : Nat := 0
def PySem.W.Fast.tw15202239659555905331 : Nat := 0
def PySem.W.Fast.tw2718901123391026995 : Nat := 0
def PySem.W.Fast.tw13251646731365433171 : Nat := 0
def PySem.W.Fast.tw5595237922932051795 : Nat := 0
def PySem.W.Fast.tw8588708647495961459 : Nat := 0
def PySem.W.Fast.tw4681523508651956083 : Nat := 0
def PySem.W.Fast.tw7036859171617294195 : Nat := 0
def PySem.W.Fast.tw15108808085035052915 : Nat := 0
def PySem.W.Fast.tw1749818173716722547 : Nat := 0
def PySem.W.Fast.tw9378515921465572211 : Nat := 0
def PySem.W.Fast.tw9092458845897301907 : Nat := 0
def PySem.W.Fast.tw8455964986048042899 : Nat := 0
def PySem.W.Fast.tw13850226638386661299 : Nat := 0
def PySem.W.Fast.tw5737013355797718963 : Nat := 0
def PySem.W.Fast.tw12642483015767837619 : Nat := 0
def PySem.W.Fast.tw5455464265671048115 : Nat := 0
def PySem.W.Fast.tw313226197891681235 : Nat := 0
def PySem.W.Fast.tw2669866073068281811 : Nat := 0
def PySem.W.Fast.tw7165179329215463379 : Nat := 0
def PySem.W.Fast.tw2754827275739841523 : Nat := 0
def PySem.W.Fast.tw9083911685778654195 : Nat := 0
def PySem.W.Fast.tw4845941141622222835 : Nat := 0
def PySem.W.Fast.tw10915560734872205299 : Nat := 0
def PySem.W.Fast.tw11679747514851818483 : Nat := 0
def PySem.W.Fast.tw15450981722951097364 : Nat := 0
def PySem.W.Fast.tw607167704815816724 : Nat := 0
def PySem.W.Fast.tw6001953498640385076 : Nat := 0
def PySem.W.Fast.tw2086742330180473908 : Nat := 0
def PySem.W.Fast.tw15806122291839087668 : Nat := 0
def PySem.W.Fast.tw12936123109605684276 : Nat := 0
def PySem.W.Fast.tw15647334249350517812 : Nat := 0
def PySem.W.Fast.tw12578852208084159572 : Nat := 0
def PySem.W.Fast.tw17244072584429378644 : Nat := 0
def PySem.W.Fast.tw5525523538675860596 : Nat := 0
def PySem.W.Fast.tw5263723751902037108 : Nat := 0
def PySem.W.Fast.tw17139902805948778612 : Nat := 0
def PySem.W.Fast.tw6357409834272390260 : Nat := 0
def PySem.W.Fast.tw15512902513506814100 : Nat := 0
def PySem.W.Fast.tw13002641969634839700 : Nat := 0
def PySem.W.Fast.tw10078919187461690516 : Nat := 0
def PySem.W.Fast.tw2862820112641550484 : Nat := 0
def PySem.W.Fast.tw4075660801711882420 : Nat := 0
def PySem.W.Fast.tw2081907255765424308 : Nat := 0
def PySem.W.Fast.tw17340441108620059860 : Nat := 0
def PySem.W.Fast.tw12953266319925360852 : Nat := 0
def PySem.W.Fast.tw5946566240119215348 : Nat := 0
def PySem.W.Fast.tw13333823602183635220 : Nat := 0
def PySem.W.Fast.tw18211773271919218964 : Nat := 0
def PySem.W.Fast.tw2177526886768309524 : Nat := 0
def PySem.W.Fast.tw6637717983684376884 : Nat := 0
def PySem.W.Fast.tw5239514047221421364 : Nat := 0
def PySem.W.Fast.tw16942504070071679284 : Nat := 0
def PySem.W.Fast.tw375207604851636564 : Nat := 0
def PySem.W.Fast.tw8156519192574163316 : Nat := 0
def PySem.W.Fast.tw6909570525239066004 : Nat := 0
def PySem.W.Fast.tw2614582859706387860 : Nat := 0
def PySem.W.Fast.tw4990765083511767476 : Nat := 0
def PySem.W.Fast.tw7074542288925894100 : Nat := 0
def PySem.W.Fast.tw5815302876190815700 : Nat := 0
def PySem.W.Fast.tw14082533068604317172 : Nat := 0
def PySem.W.Fast.tw675520490359758324 : Nat := 0
def PySem.W.Fast.tw3536357697601684980 : Nat := 0
def PySem.W.Fast.tw7853834085085047284 : Nat := 0
def PySem.W.Fast.tw5512085447785999860 : Nat := 0
def PySem.W.Fast.tw7503421922109321716 : Nat := 0
def PySem.W.Fast.tw9300948228871686676 : Nat := 0
def PySem.W.Fast.tw8642033496104279604 : Nat := 0
def PySem.W.Fast.tw15480198773659482676 : Nat := 0
def PySem.W.Fast.tw2862557012521444916 : Nat := 0
def PySem.W.Fast.tw8537084889766193716 : Nat := 0
def PySem.W.Fast.tw13951202360752479828 : Nat := 0
def PySem.W.Fast.tw8624847543227720276 : Nat := 0
def PySem.W.Fast.tw7094674258960923220 : Nat := 0
def PySem.W.Fast.tw14465661670640606804 : Nat := 0
def PySem.W.Fast.tw4865606195271416436 : Nat := 0
def PySem.W.Fast.tw15600815083114789492 : Nat := 0
def PySem.W.Fast.tw13902060940116135572 : Nat := 0
def PySem.W.Fast.tw5845353815197725332 : Nat := 0
def PySem.W.Fast.tw1041845030581493396 : Nat := 0
def PySem.W.Fast.tw2674190319118857908 : Nat := 0
def PySem.W.Fast.tw5181381795351689908 : Nat := 0
def PySem.W.Fast.tw2283851925072248500 : Nat := 0
def PySem.W.Fast.tw11420187438672877268 : Nat := 0
def PySem.W.Fast.tw12606261883493885652 : Nat := 0
def PySem.W.Fast.tw5698774287046732500 : Nat := 0
def PySem.W.Fast.tw9315938663221665524 : Nat := 0
def PySem.W.Fast.tw17730428716208468724 : Nat := 0
def PySem.W.Fast.tw8579177336641801972 : Nat := 0
def PySem.W.Fast.tw7722786208247554836 : Nat := 0
def PySem.W.Fast.tw7106382970893412116 : Nat := 0
def PySem.W.Fast.tw7941000968515961620 : Nat := 0
def PySem.W.Fast.tw4189082422114576148 : Nat := 0
def PySem.W.Fast.tw8430678208038309684 : Nat := 0
def PySem.W.Fast.tw14147070716488854324 : Nat := 0
def PySem.W.Fast.tw14874097414618272596 : Nat := 0
def PySem.W.Fast.tw7543195961347049332 : Nat := 0
def PySem.W.Fast.tw10900795605955842932 : Nat := 0
def PySem.W.Fast.tw16395444815261844340 : Nat := 0
def PySem.W.Fast.tw7652866986338317172 : Nat := 0
def PySem.W.Fast.tw921073385446354868 : Nat := 0
def PySem.W.Fast.tw2607196883725663156 : Nat := 0
def PySem.W.Fast.tw4800411905006600116 : Nat := 0
def PySem.W.Fast.tw6363645014702824404 : Nat := 0
def PySem.W.Fast.tw2963332944945593300 : Nat := 0
def PySem.W.Fast.tw7619357645376055252 : Nat := 0
def PySem.W.Fast.tw13102660428377437172 : Nat := 0
def PySem.W.Fast.tw16413264400604254196 : Nat := 0
def PySem.W.Fast.tw8458455541841241109 : Nat := 0
def PySem.W.Fast.tw13642483538084851733 : Nat := 0
def PySem.W.Fast.tw14530364306720264245 : Nat := 0
def PySem.W.Fast.tw12740500676325059637 : Nat := 0
def PySem.W.Fast.tw7337773226636096565 : Nat := 0
def PySem.W.Fast.tw11452967560401446965 : Nat := 0
def PySem.W.Fast.tw178441218286455893 : Nat := 0
def PySem.W.Fast.tw11055029398406535253 : Nat := 0
def PySem.W.Fast.tw5950129339639070837 : Nat := 0
def PySem.W.Fast.tw8206430501311747189 : Nat := 0
def PySem.W.Fast.tw11374540355606638709 : Nat := 0
def PySem.W.Fast.tw282004115355043989 : Nat := 0
def PySem.W.Fast.tw5612387226054363285 : Nat := 0
def PySem.W.Fast.tw12138097337314919573 : Nat := 0
def PySem.W.Fast.tw18163708392712065173 : Nat := 0
def PySem.W.Fast.tw16648231224745350325 : Nat := 0
def PySem.W.Fast.tw14273165517489437877 : Nat := 0
def PySem.W.Fast.tw17627405920182182101 : Nat := 0
def PySem.W.Fast.tw1040504927068999893 : Nat := 0
def PySem.W.Fast.tw12290603225136948437 : Nat := 0
def PySem.W.Fast.tw14572176433077040373 : Nat := 0
def PySem.W.Fast.tw10755730847627044085 : Nat := 0
def PySem.W.Fast.tw4527066259768149269 : Nat := 0
def PySem.W.Fast.tw2170110391006044469 : Nat := 0
def PySem.W.Fast.tw12809422525583811893 : Nat := 0
def PySem.W.Fast.tw3229698128091672885 : Nat := 0
def PySem.W.Fast.tw5591533841620858165 : Nat := 0
def PySem.W.Fast.tw9150646380881148245 : Nat := 0
def PySem.W.Fast.tw16783401641447488853 : Nat := 0
def PySem.W.Fast.tw7547728244443360629 : Nat := 0
def PySem.W.Fast.tw4352594626159697269 : Nat := 0
def PySem.W.Fast.tw10528696920762540405 : Nat := 0
def PySem.W.Fast.tw2351620601788327285 : Nat := 0
def PySem.W.Fast.tw10470071008263537045 : Nat := 0
def PySem.W.Fast.tw13195344857872499093 : Nat := 0
def PySem.W.Fast.tw2239591755241691573 : Nat := 0
def PySem.W.Fast.tw2210772332053445045 : Nat := 0
def PySem.W.Fast.tw14553827428707814869 : Nat := 0
def PySem.W.Fast.tw13451486832001684981 : Nat := 0
def PySem.W.Fast.tw2651341727400141301 : Nat := 0
def PySem.W.Fast.tw599553706053317109 : Nat := 0
def PySem.W.Fast.tw12237943961548833269 : Nat := 0
def PySem.W.Fast.tw9898599404936914421 : Nat := 0
def PySem.W.Fast.tw12757502493452859893 : Nat := 0
def PySem.W.Fast.tw6825761594301582869 : Nat := 0
def PySem.W.Fast.tw5994831818944304661 : Nat := 0
def PySem.W.Fast.tw16397845976163868181 : Nat := 0
def PySem.W.Fast.tw16046864734333400597 : Nat := 0
def PySem.W.Fast.tw4187477659947935285 : Nat := 0
def PySem.W.Fast.tw10949549008867353141 : Nat := 0
def PySem.W.Fast.tw5477057003754678837 : Nat := 0
def PySem.W.Fast.tw3793695936567050837 : Nat := 0
def PySem.W.Fast.tw17558800385122173557 : Nat := 0
def PySem.W.Fast.tw392140993173905013 : Nat := 0
def PySem.W.Fast.tw17626262904599113365 : Nat := 0
def PySem.W.Fast.tw1150064132008473237 : Nat := 0
def PySem.W.Fast.tw11964429278604863157 : Nat := 0
def PySem.W.Fast.tw12599741558188205749 : Nat := 0
def PySem.W.Fast.tw3345280271644107477 : Nat := 0
def PySem.W.Fast.tw13949143374315933397 : Nat := 0
def PySem.W.Fast.tw15576483152104568565 : Nat := 0
def PySem.W.Fast.tw17537794083376710389 : Nat := 0
def PySem.W.Fast.tw14514642997084573429 : Nat := 0
def PySem.W.Fast.tw3558216917135427349 : Nat := 0
def PySem.W.Fast.tw13505292571300825877 : Nat := 0
def PySem.W.Fast.tw7701598361987366677 : Nat := 0
def PySem.W.Fast.tw17899373020297197333 : Nat := 0
def PySem.W.Fast.tw7470666673118744373 : Nat := 0
def PySem.W.Fast.tw725871291056497461 : Nat := 0
def PySem.W.Fast.tw16138931208732196661 : Nat := 0
def PySem.W.Fast.tw10443627911838485301 : Nat := 0
def PySem.W.Fast.tw15773981995205291829 : Nat := 0
def PySem.W.Fast.tw14032810665073119061 : Nat := 0
def PySem.W.Fast.tw13832561777376501589 : Nat := 0
def PySem.W.Fast.tw12436211924289087317 : Nat := 0
def PySem.W.Fast.tw12026859081324368757 : Nat := 0
def PySem.W.Fast.tw17169101284591775605 : Nat := 0
def PySem.W.Fast.tw7259658040881405813 : Nat := 0
def PySem.W.Fast.tw1218959903707654005 : Nat := 0
def PySem.W.Fast.tw7299303143086499733 : Nat := 0
def PySem.W.Fast.tw15067931366933112725 : Nat := 0
def PySem.W.Fast.tw252367510798351285 : Nat := 0
def PySem.W.Fast.tw3303175781861183413 : Nat := 0
def PySem.W.Fast.tw12635297910168745909 : Nat := 0
def PySem.W.Fast.tw225680177000487893 : Nat := 0
def PySem.W.Fast.tw7988184116967156693 : Nat := 0
def PySem.W.Fast.tw2796948926145259477 : Nat := 0
def PySem.W.Fast.tw14844032806303022069 : Nat := 0
def PySem.W.Fast.tw5480160972425856022 : Nat := 0
def PySem.W.Fast.tw949034079010065430 : Nat := 0
def PySem.W.Fast.tw12286723448191839254 : Nat := 0
def PySem.W.Fast.tw1993567047419047990 : Nat := 0
def PySem.W.Fast.tw14083182534126731350 : Nat := 0
def PySem.W.Fast.tw14659068678313129046 : Nat := 0
def PySem.W.Fast.tw8660564949798631510 : Nat := 0
def PySem.W.Fast.tw7428789517986216022 : Nat := 0
def PySem.W.Fast.tw70005302621510774 : Nat := 0
def PySem.W.Fast.tw3825061337978711158 : Nat := 0
def PySem.W.Fast.tw5906723110844686454 : Nat := 0
def PySem.W.Fast.tw949917172137769110 : Nat := 0
def PySem.W.Fast.tw14126943448341045398 : Nat := 0
def PySem.W.Fast.tw5375599384465405078 : Nat := 0
def PySem.W.Fast.tw17954471519018878134 : Nat := 0
def PySem.W.Fast.tw10752058414077291702 : Nat := 0
def PySem.W.Fast.tw14290952905122821334 : Nat := 0
def PySem.W.Fast.tw1000527399772085462 : Nat := 0
def PySem.W.Fast.tw2958062672499776758 : Nat := 0
def PySem.W.Fast.tw112966237040002294 : Nat := 0
def PySem.W.Fast.tw15140620813667089686 : Nat := 0
def PySem.W.Fast.tw5133674685546097942 : Nat := 0
def PySem.W.Fast.tw387899727985431862 : Nat := 0
def PySem.W.Fast.tw12231938473387714870 : Nat := 0
def PySem.W.Fast.tw14165629240900414774 : Nat := 0
def PySem.W.Fast.tw18258632178989628726 : Nat := 0
def PySem.W.Fast.tw3619232141914619222 : Nat := 0
def PySem.W.Fast.tw10996506086634736982 : Nat := 0
def PySem.W.Fast.tw2008734233844534614 : Nat := 0
def PySem.W.Fast.tw2627984346626558326 : Nat := 0
def PySem.W.Fast.tw3809664673920390518 : Nat := 0
def PySem.W.Fast.tw10030586065758793078 : Nat := 0
def PySem.W.Fast.tw4576907919519384982 : Nat := 0
def PySem.W.Fast.tw16604991288596738454 : Nat := 0
def PySem.W.Fast.tw4183877074749451670 : Nat := 0
def PySem.W.Fast.tw10276908904998144438 : Nat := 0
def PySem.W.Fast.tw3142773779024712118 : Nat := 0
def PySem.W.Fast.tw7573151900890175926 : Nat := 0
def PySem.W.Fast.tw9910355351051955638 : Nat := 0
def PySem.W.Fast.tw115970754098851254 : Nat := 0
def PySem.W.Fast.tw9465252893111587286 : Nat := 0
def PySem.W.Fast.tw14023627001141898710 : Nat := 0
def PySem.W.Fast.tw12973230583154519510 : Nat := 0
def PySem.W.Fast.tw7201066573456331222 : Nat := 0
def PySem.W.Fast.tw17939666314213560822 : Nat := 0
def PySem.W.Fast.tw14961128103160096246 : Nat := 0
def PySem.W.Fast.tw18061084759594087926 : Nat := 0
def PySem.W.Fast.tw261046328449917430 : Nat := 0
def PySem.W.Fast.tw12071057409057901078 : Nat := 0
def PySem.W.Fast.tw1401972060568974870 : Nat := 0
def PySem.W.Fast.tw11939915149646268982 : Nat := 0
def PySem.W.Fast.tw7665334170297950774 : Nat := 0
def PySem.W.Fast.tw12635813782599140982 : Nat := 0
def PySem.W.Fast.tw17015423121036801654 : Nat := 0
def PySem.W.Fast.tw14420389602138693270 : Nat := 0
def PySem.W.Fast.tw11218505658201481878 : Nat := 0
def PySem.W.Fast.tw14753416281750460054 : Nat := 0
def PySem.W.Fast.tw4080200695039959734 : Nat := 0
def PySem.W.Fast.tw272414042388314806 : Nat := 0
def PySem.W.Fast.tw4079309366810268342 : Nat := 0
def PySem.W.Fast.tw1756033472411754166 : Nat := 0
def PySem.W.Fast.tw6761742441262009046 : Nat := 0
def PySem.W.Fast.tw555366601491874550 : Nat := 0
def PySem.W.Fast.tw3264259588550801142 : Nat := 0
def PySem.W.Fast.tw11601559597720709910 : Nat := 0
def PySem.W.Fast.tw13875796166266366742 : Nat := 0
def PySem.W.Fast.tw10576610938325666646 : Nat := 0
def PySem.W.Fast.tw10172513219967782742 : Nat := 0
def PySem.W.Fast.tw2408619945344806742 : Nat := 0
def PySem.W.Fast.tw8514386831353589590 : Nat := 0
def PySem.W.Fast.tw13453990235181961046 : Nat := 0
def PySem.W.Fast.tw18366305853092434806 : Nat := 0
def PySem.W.Fast.tw14912022275954711414 : Nat := 0
def PySem.W.Fast.tw14426700295256972150 : Nat := 0
def PySem.W.Fast.tw13553549065513843606 : Nat := 0
def PySem.W.Fast.tw10566222408779648918 : Nat := 0
def PySem.W.Fast.tw9082586571710850966 : Nat := 0
def PySem.W.Fast.tw1430627723565665206 : Nat := 0
def PySem.W.Fast.tw9467589175468403638 : Nat := 0
def PySem.W.Fast.tw2881660806890600374 : Nat := 0
def PySem.W.Fast.tw4083911703497132982 : Nat := 0
def PySem.W.Fast.tw3475517906441135030 : Nat := 0
def PySem.W.Fast.tw5082074563857973206 : Nat := 0
def PySem.W.Fast.tw16315715762721049590 : Nat := 0
def PySem.W.Fast.tw10508251915553800215 : Nat := 0
def PySem.W.Fast.tw17341736924252097559 : Nat := 0
def PySem.W.Fast.tw709596357894409271 : Nat := 0
def PySem.W.Fast.tw1382663363400611927 : Nat := 0
def PySem.W.Fast.tw12576468367926623319 : Nat := 0
def PySem.W.Fast.tw4207838491230801015 : Nat := 0
def PySem.W.Fast.tw3433653886696886423 : Nat := 0
def PySem.W.Fast.tw14207638033561623703 : Nat := 0
def PySem.W.Fast.tw17409093378943564951 : Nat := 0
def PySem.W.Fast.tw13241461904039861399 : Nat := 0
def PySem.W.Fast.tw2670528217467546775 : Nat := 0
def PySem.W.Fast.tw8989982439271903415 : Nat := 0
def PySem.W.Fast.tw1829445100760108279 : Nat := 0
def PySem.W.Fast.tw13294325848734340343 : Nat := 0
def PySem.W.Fast.tw15194748194917737719 : Nat := 0
def PySem.W.Fast.tw6504275150365058295 : Nat := 0
def PySem.W.Fast.tw8125055898148337911 : Nat := 0
def PySem.W.Fast.tw1343220272319300887 : Nat := 0
def PySem.W.Fast.tw15663404670287596823 : Nat := 0
def PySem.W.Fast.tw6303218202015943959 : Nat := 0
def PySem.W.Fast.tw8902219603052485911 : Nat := 0
def PySem.W.Fast.tw13903129631018457399 : Nat := 0
def PySem.W.Fast.tw7324002894307099991 : Nat := 0
def PySem.W.Fast.tw1189118826323900759 : Nat := 0
def PySem.W.Fast.tw10308316962582663543 : Nat := 0
def PySem.W.Fast.tw10767066097796618615 : Nat := 0
def PySem.W.Fast.tw951933382510419319 : Nat := 0
def PySem.W.Fast.tw6855568673935808887 : Nat := 0
def PySem.W.Fast.tw7635745913717525911 : Nat := 0
def PySem.W.Fast.tw14101429122649573783 : Nat := 0
def PySem.W.Fast.tw15062644927099730327 : Nat := 0
def PySem.W.Fast.tw13114107359811516855 : Nat := 0
def PySem.W.Fast.tw13316322371389871543 : Nat := 0
def PySem.W.Fast.tw916206307549369783 : Nat := 0
def PySem.W.Fast.tw9219426015542480343 : Nat := 0
def PySem.W.Fast.tw7585139358526817783 : Nat := 0
def PySem.W.Fast.tw5854881644878751223 : Nat := 0
def PySem.W.Fast.tw9676229304581654039 : Nat := 0
def PySem.W.Fast.tw8800560270773162519 : Nat := 0
def PySem.W.Fast.tw17058985229449424407 : Nat := 0
def PySem.W.Fast.tw3324361733244956215 : Nat := 0
def PySem.W.Fast.tw9016555157345775159 : Nat := 0
def PySem.W.Fast.tw15880737140895825463 : Nat := 0
def PySem.W.Fast.tw11953125525370720823 : Nat := 0
def PySem.W.Fast.tw7678610539276040759 : Nat := 0
def PySem.W.Fast.tw9998821471459413591 : Nat := 0
def PySem.W.Fast.tw9999058972086379095 : Nat := 0
def PySem.W.Fast.tw7802139600951554647 : Nat := 0
def PySem.W.Fast.tw11426822366687539799 : Nat := 0
def PySem.W.Fast.tw7723143458278167127 : Nat := 0
def PySem.W.Fast.tw14030570560098588247 : Nat := 0
def PySem.W.Fast.tw18177442746745622135 : Nat := 0
def PySem.W.Fast.tw1146027147519957623 : Nat := 0
def PySem.W.Fast.tw4712520676068399735 : Nat := 0
def PySem.W.Fast.tw6838246268322495095 : Nat := 0
def PySem.W.Fast.tw12945451867199242903 : Nat := 0
def PySem.W.Fast.tw10460836829193491095 : Nat := 0
def PySem.W.Fast.tw4081448555075689111 : Nat := 0
def PySem.W.Fast.tw12765412574913496759 : Nat := 0
def PySem.W.Fast.tw7191607858210974391 : Nat := 0
def PySem.W.Fast.tw14433975572909055671 : Nat := 0
def PySem.W.Fast.tw1419416864934026935 : Nat := 0
def PySem.W.Fast.tw16590598819490931415 : Nat := 0
def PySem.W.Fast.tw164508923546473207 : Nat := 0
def PySem.W.Fast.tw3325841961599345399 : Nat := 0
def PySem.W.Fast.tw11168657370625526519 : Nat := 0
def PySem.W.Fast.tw12885971956603332375 : Nat := 0
def PySem.W.Fast.tw1109182236158506775 : Nat := 0
def PySem.W.Fast.tw7098571738820278039 : Nat := 0
def PySem.W.Fast.tw17520869792638436183 : Nat := 0
def PySem.W.Fast.tw11288964222232778615 : Nat := 0
def PySem.W.Fast.tw13145125596335152023 : Nat := 0
def PySem.W.Fast.tw18011898689540126615 : Nat := 0
def PySem.W.Fast.tw7692015426583400375 : Nat := 0
def PySem.W.Fast.tw14097648870716263351 : Nat := 0
def PySem.W.Fast.tw6101354891775567799 : Nat := 0
def PySem.W.Fast.tw4921732521243175863 : Nat := 0
def PySem.W.Fast.tw878741703135273975 : Nat := 0
def PySem.W.Fast.tw1702518465993881591 : Nat := 0
def PySem.W.Fast.tw14971970265804392439 : Nat := 0
def PySem.W.Fast.tw7088478399393688567 : Nat := 0
def PySem.W.Fast.tw749979173486425079 : Nat := 0
def PySem.W.Fast.tw3735880847841164279 : Nat := 0
def PySem.W.Fast.tw6004533443673955352 : Nat := 0
def PySem.W.Fast.tw662354867322794072 : Nat := 0
def PySem.W.Fast.tw13449234085162377304 : Nat := 0
def PySem.W.Fast.tw12555014266174378104 : Nat := 0
def PySem.W.Fast.tw3373567504368509048 : Nat := 0
def PySem.W.Fast.tw9411460985935078520 : Nat := 0
def PySem.W.Fast.tw5653986282849419384 : Nat := 0
def PySem.W.Fast.tw5127043949985792152 : Nat := 0
def PySem.W.Fast.tw8720904808783336632 : Nat := 0
def PySem.W.Fast.tw17352973434858128600 : Nat := 0
def PySem.W.Fast.tw2506853364499732696 : Nat := 0
def PySem.W.Fast.tw6697550738653902072 : Nat := 0
def PySem.W.Fast.tw9200313036938344696 : Nat := 0
def PySem.W.Fast.tw13833530074450851096 : Nat := 0
def PySem.W.Fast.tw430911303588936984 : Nat := 0
def PySem.W.Fast.tw5409626021718379832 : Nat := 0
def PySem.W.Fast.tw15984955718585016632 : Nat := 0
def PySem.W.Fast.tw5931184882179713368 : Nat := 0
def PySem.W.Fast.tw13541529254258495832 : Nat := 0
def PySem.W.Fast.tw7748819472804050264 : Nat := 0
def PySem.W.Fast.tw14168537005229113720 : Nat := 0
def PySem.W.Fast.tw7386744729831018872 : Nat := 0
def PySem.W.Fast.tw5736407798762289528 : Nat := 0
def PySem.W.Fast.tw13827670908862324088 : Nat := 0
def PySem.W.Fast.tw10045867985992453528 : Nat := 0
def PySem.W.Fast.tw12748752510896542104 : Nat := 0
def PySem.W.Fast.tw14523161338968148440 : Nat := 0
def PySem.W.Fast.tw16998109343291152856 : Nat := 0
def PySem.W.Fast.tw17765544955259793912 : Nat := 0
def PySem.W.Fast.tw604125905580780024 : Nat := 0
def PySem.W.Fast.tw3395616883899927064 : Nat := 0
def PySem.W.Fast.tw6059929106960060952 : Nat := 0
def PySem.W.Fast.tw12832791649633735192 : Nat := 0
def PySem.W.Fast.tw8620020772036689432 : Nat := 0
def PySem.W.Fast.tw7198390536060210744 : Nat := 0
def PySem.W.Fast.tw5547107955753201208 : Nat := 0
def PySem.W.Fast.tw13987496753052565048 : Nat := 0
def PySem.W.Fast.tw10982693926494337592 : Nat := 0
def PySem.W.Fast.tw4722891187327308376 : Nat := 0
def PySem.W.Fast.tw9236875199018929784 : Nat := 0
def PySem.W.Fast.tw18188234029961486008 : Nat := 0
def PySem.W.Fast.tw10598567329377039032 : Nat := 0
def PySem.W.Fast.tw15719678427024659160 : Nat := 0
def PySem.W.Fast.tw13016732220969518872 : Nat := 0
def PySem.W.Fast.tw13329422691839906584 : Nat := 0
def PySem.W.Fast.tw15626381744989094680 : Nat := 0
def PySem.W.Fast.tw17114224403328094040 : Nat := 0
def PySem.W.Fast.tw12247866147432933240 : Nat := 0
def PySem.W.Fast.tw16693541655264020344 : Nat := 0
def PySem.W.Fast.tw2441854329092568952 : Nat := 0
def PySem.W.Fast.tw3366619434145395608 : Nat := 0
def PySem.W.Fast.tw8400853705098224536 : Nat := 0
def PySem.W.Fast.tw16443721446463479736 : Nat := 0
def PySem.W.Fast.tw6283373635380495288 : Nat := 0
def PySem.W.Fast.tw14153184510062250936 : Nat := 0
def PySem.W.Fast.tw15953636156762407896 : Nat := 0
def PySem.W.Fast.tw1393629259489396696 : Nat := 0
def PySem.W.Fast.tw7152963490469929944 : Nat := 0
def PySem.W.Fast.tw18273839248471157720 : Nat := 0
def PySem.W.Fast.tw510872926430196728 : Nat := 0
def PySem.W.Fast.tw16947794391021106201 : Nat := 0
def PySem.W.Fast.tw10312869249632748569 : Nat := 0
def PySem.W.Fast.tw7246612003979723865 : Nat := 0
def PySem.W.Fast.tw15891952060043632761 : Nat := 0
def PySem.W.Fast.tw2798337566908330105 : Nat := 0
def PySem.W.Fast.tw16364008625417870457 : Nat := 0
def PySem.W.Fast.tw253915443176516761 : Nat := 0
def PySem.W.Fast.tw6651940822986834073 : Nat := 0
def PySem.W.Fast.tw14155220248573765785 : Nat := 0
def PySem.W.Fast.tw40891983451422905 : Nat := 0
def PySem.W.Fast.tw565348091536362681 : Nat := 0
def PySem.W.Fast.tw8214093542191488185 : Nat := 0
def PySem.W.Fast.tw13776390136698705113 : Nat := 0
def PySem.W.Fast.tw16039550372008468697 : Nat := 0
def PySem.W.Fast.tw7957090006295546105 : Nat := 0
def PySem.W.Fast.tw9797888262501079289 : Nat := 0
def PySem.W.Fast.tw260763303141827865 : Nat := 0
def PySem.W.Fast.tw6683783046931543321 : Nat := 0
def PySem.W.Fast.tw17785278606075331897 : Nat := 0
def PySem.W.Fast.tw9685873806987642169 : Nat := 0
def PySem.W.Fast.tw15917351668096164153 : Nat := 0
def PySem.W.Fast.tw521241757355012473 : Nat := 0
def PySem.W.Fast.tw14460367522058181017 : Nat := 0
def PySem.W.Fast.tw10469586435744501177 : Nat := 0
def PySem.W.Fast.tw13809362725867891129 : Nat := 0
def PySem.W.Fast.tw10650810973499830745 : Nat := 0
def PySem.W.Fast.tw16940982790409303513 : Nat := 0
def PySem.W.Fast.tw9407582987413476825 : Nat := 0
def PySem.W.Fast.tw15025364365136419289 : Nat := 0
def PySem.W.Fast.tw17280976486791472633 : Nat := 0
def PySem.W.Fast.tw2783177156126141945 : Nat := 0
def PySem.W.Fast.tw2759451637364818457 : Nat := 0
def PySem.W.Fast.tw3427515755752030745 : Nat := 0
def PySem.W.Fast.tw15542503528162795033 : Nat := 0
def PySem.W.Fast.tw8859138097986971161 : Nat := 0
def PySem.W.Fast.tw6230122020268376633 : Nat := 0
def PySem.W.Fast.tw6580340599500149305 : Nat := 0
def PySem.W.Fast.tw5998130964252463673 : Nat := 0
def PySem.W.Fast.tw15007238320947547705 : Nat := 0
def PySem.W.Fast.tw17727738676932873817 : Nat := 0
def PySem.W.Fast.tw14144994986443445849 : Nat := 0
def PySem.W.Fast.tw1355749187267101305 : Nat := 0
def PySem.W.Fast.tw11793402487394874009 : Nat := 0
def PySem.W.Fast.tw15324989126499422873 : Nat := 0
def PySem.W.Fast.tw15403262215152972473 : Nat := 0
def PySem.W.Fast.tw1374548495586556601 : Nat := 0
def PySem.W.Fast.tw13352543942272432857 : Nat := 0
def PySem.W.Fast.tw7537904919231613657 : Nat := 0
def PySem.W.Fast.tw8349621136948200185 : Nat := 0
def PySem.W.Fast.tw5997617188996155129 : Nat := 0
def PySem.W.Fast.tw12022618010286034681 : Nat := 0
def PySem.W.Fast.tw4268132118273501945 : Nat := 0
def PySem.W.Fast.tw13984884944970658553 : Nat := 0
def PySem.W.Fast.tw1975494482968647449 : Nat := 0
def PySem.W.Fast.tw6245536207120538393 : Nat := 0
def PySem.W.Fast.tw5550314157272711993 : Nat := 0
def PySem.W.Fast.tw13142473509193869113 : Nat := 0
def PySem.W.Fast.tw16531745337717519161 : Nat := 0
def PySem.W.Fast.tw3424931102881643321 : Nat := 0
def PySem.W.Fast.tw12937205745778874201 : Nat := 0
def PySem.W.Fast.tw1278341880987251545 : Nat := 0
def PySem.W.Fast.tw17156503811531519865 : Nat := 0
def PySem.W.Fast.tw13281891768564507513 : Nat := 0
def PySem.W.Fast.tw3889259530307233657 : Nat := 0
def PySem.W.Fast.tw9403893547819035513 : Nat := 0
def PySem.W.Fast.tw12296728618847696761 : Nat := 0
def PySem.W.Fast.tw9910505472587338681 : Nat := 0
def PySem.W.Fast.tw11807190409705965497 : Nat := 0
def PySem.W.Fast.tw481669996167257017 : Nat := 0
def PySem.W.Fast.tw6252116929870702553 : Nat := 0
def PySem.W.Fast.tw139799656371268569 : Nat := 0
def PySem.W.Fast.tw721709456127091705 : Nat := 0
def PySem.W.Fast.tw6789855027759293466 : Nat := 0
def PySem.W.Fast.tw13069297267179440154 : Nat := 0
def PySem.W.Fast.tw2942186188335042618 : Nat := 0
def PySem.W.Fast.tw13551572312386263098 : Nat := 0
def PySem.W.Fast.tw7783732958741208154 : Nat := 0
def PySem.W.Fast.tw12213683077233525850 : Nat := 0
def PySem.W.Fast.tw11518781747449614426 : Nat := 0
def PySem.W.Fast.tw6123655918767846522 : Nat := 0
def PySem.W.Fast.tw17621219473267064986 : Nat := 0
def PySem.W.Fast.tw1043590444767056026 : Nat := 0
def PySem.W.Fast.tw9781956842638644378 : Nat := 0
def PySem.W.Fast.tw2823558010093249690 : Nat := 0
def PySem.W.Fast.tw470574548607681690 : Nat := 0
def PySem.W.Fast.tw682011567655089306 : Nat := 0
def PySem.W.Fast.tw18099695126128789690 : Nat := 0
def PySem.W.Fast.tw1375587502874563802 : Nat := 0
def PySem.W.Fast.tw8588189695111238906 : Nat := 0
def PySem.W.Fast.tw531065373210556666 : Nat := 0
def PySem.W.Fast.tw8310444823933213946 : Nat := 0
def PySem.W.Fast.tw18131936236247874842 : Nat := 0
def PySem.W.Fast.tw12832477231654346042 : Nat := 0
def PySem.W.Fast.tw8686407601681055034 : Nat := 0
def PySem.W.Fast.tw15222303581789461850 : Nat := 0
def PySem.W.Fast.tw10643817943985632602 : Nat := 0
def PySem.W.Fast.tw6012508502120743258 : Nat := 0
def PySem.W.Fast.tw4824431525194463578 : Nat := 0
def PySem.W.Fast.tw10589684114461592954 : Nat := 0
def PySem.W.Fast.tw5978237884098788730 : Nat := 0
def PySem.W.Fast.tw6648157844845288826 : Nat := 0
def PySem.W.Fast.tw10730351240561388922 : Nat := 0
def PySem.W.Fast.tw5880228985030669690 : Nat := 0
def PySem.W.Fast.tw8756996075860741530 : Nat := 0
def PySem.W.Fast.tw4579277035188001210 : Nat := 0
def PySem.W.Fast.tw7461879971939330490 : Nat := 0
def PySem.W.Fast.tw13825118182715472314 : Nat := 0
def PySem.W.Fast.tw5889167727604068794 : Nat := 0
def PySem.W.Fast.tw3820604794100220378 : Nat := 0
def PySem.W.Fast.tw8745448765403140570 : Nat := 0
def PySem.W.Fast.tw10202811912714152410 : Nat := 0
def PySem.W.Fast.tw6578519382088009210 : Nat := 0
def PySem.W.Fast.tw4067352731025960442 : Nat := 0
def PySem.W.Fast.tw13658505271682890234 : Nat := 0
def PySem.W.Fast.tw3355348695024010778 : Nat := 0
def PySem.W.Fast.tw6642176037981698586 : Nat := 0
def PySem.W.Fast.tw3267979357774110234 : Nat := 0
def PySem.W.Fast.tw17999518795865979418 : Nat := 0
def PySem.W.Fast.tw13847470327216474714 : Nat := 0
def PySem.W.Fast.tw5273506371861067354 : Nat := 0
def PySem.W.Fast.tw15059462757989803610 : Nat := 0
def PySem.W.Fast.tw8119918657739134586 : Nat := 0
def PySem.W.Fast.tw9144899285990512250 : Nat := 0
def PySem.W.Fast.tw13631089650617023098 : Nat := 0
def PySem.W.Fast.tw15157221202141545114 : Nat := 0
def PySem.W.Fast.tw3105397867545767578 : Nat := 0
def PySem.W.Fast.tw12371710504914307738 : Nat := 0
def PySem.W.Fast.tw5969198303776893594 : Nat := 0
def PySem.W.Fast.tw7258234576362860186 : Nat := 0
def PySem.W.Fast.tw11519604305632133818 : Nat := 0
def PySem.W.Fast.tw4966674849315620570 : Nat := 0
def PySem.W.Fast.tw16591047836421527290 : Nat := 0
def PySem.W.Fast.tw2151911530957591322 : Nat := 0
def PySem.W.Fast.tw3936911997976010522 : Nat := 0
def PySem.W.Fast.tw13471461260053382970 : Nat := 0
def PySem.W.Fast.tw4931477591896312634 : Nat := 0
def PySem.W.Fast.tw13752472714228578138 : Nat := 0
def PySem.W.Fast.tw10709196673778178906 : Nat := 0
def PySem.W.Fast.tw9910405952602600282 : Nat := 0
def PySem.W.Fast.tw16176826569987852154 : Nat := 0
def PySem.W.Fast.tw17382798495522986874 : Nat := 0
def PySem.W.Fast.tw14896874001708588922 : Nat := 0
def PySem.W.Fast.tw9492235034089005946 : Nat := 0
def PySem.W.Fast.tw13159241964716117882 : Nat := 0
def PySem.W.Fast.tw2055094119982034810 : Nat := 0
def PySem.W.Fast.tw14483798560305912730 : Nat := 0
def PySem.W.Fast.tw1576197236505454522 : Nat := 0
def PySem.W.Fast.tw16655684431181187034 : Nat := 0
def PySem.W.Fast.tw17954736447514056666 : Nat := 0
def PySem.W.Fast.tw10846213317406478298 : Nat := 0
def PySem.W.Fast.tw219737044198020058 : Nat := 0
def PySem.W.Fast.tw17856267990722298874 : Nat := 0
def PySem.W.Fast.tw13329733208086693882 : Nat := 0
def PySem.W.Fast.tw3612229072647707642 : Nat := 0
def PySem.W.Fast.tw7392212959928792091 : Nat := 0
def PySem.W.Fast.tw6888100737891179579 : Nat := 0
def PySem.W.Fast.tw4449912447949289531 : Nat := 0
def PySem.W.Fast.tw7231524377534056507 : Nat := 0
def PySem.W.Fast.tw16723424844129597499 : Nat := 0
def PySem.W.Fast.tw5904507078002834491 : Nat := 0
def PySem.W.Fast.tw9333441113104219195 : Nat := 0
def PySem.W.Fast.tw15782223532592086107 : Nat := 0
def PySem.W.Fast.tw5145244510246830235 : Nat := 0
def PySem.W.Fast.tw3577408171920636059 : Nat := 0
def PySem.W.Fast.tw4904739604578439355 : Nat := 0
def PySem.W.Fast.tw5646442142991981755 : Nat := 0
def PySem.W.Fast.tw3436264866546951355 : Nat := 0
def PySem.W.Fast.tw1709990360310786235 : Nat := 0
def PySem.W.Fast.tw7477345018447151355 : Nat := 0
def PySem.W.Fast.tw10278509408252930331 : Nat := 0
def PySem.W.Fast.tw293829605474521371 : Nat := 0
def PySem.W.Fast.tw11915393356280518939 : Nat := 0
def PySem.W.Fast.tw11254254501726123291 : Nat := 0
def PySem.W.Fast.tw249565385947467067 : Nat := 0
def PySem.W.Fast.tw13829025922625236315 : Nat := 0
def PySem.W.Fast.tw15525092139617116539 : Nat := 0
def PySem.W.Fast.tw14489627518425955707 : Nat := 0
def PySem.W.Fast.tw11543483234476862875 : Nat := 0
def PySem.W.Fast.tw10924284687522940315 : Nat := 0
def PySem.W.Fast.tw13708526812355648923 : Nat := 0
def PySem.W.Fast.tw11211347477262721435 : Nat := 0
def PySem.W.Fast.tw16458521907211103643 : Nat := 0
def PySem.W.Fast.tw17497748084772794779 : Nat := 0
def PySem.W.Fast.tw16548257151911338427 : Nat := 0
def PySem.W.Fast.tw10482030976504775099 : Nat := 0
def PySem.W.Fast.tw4578526897855010267 : Nat := 0
def PySem.W.Fast.tw15268651515984465371 : Nat := 0
def PySem.W.Fast.tw6842289509024785883 : Nat := 0
def PySem.W.Fast.tw17851368140080128507 : Nat := 0
def PySem.W.Fast.tw9030930427016622587 : Nat := 0
def PySem.W.Fast.tw396607853666888187 : Nat := 0
def PySem.W.Fast.tw1753423655468489275 : Nat := 0
def PySem.W.Fast.tw3933914065177566779 : Nat := 0
def PySem.W.Fast.tw2998948104849025595 : Nat := 0
def PySem.W.Fast.tw1853511820484065915 : Nat := 0
def PySem.W.Fast.tw1397459794857175707 : Nat := 0
def PySem.W.Fast.tw10727534119236929211 : Nat := 0
def PySem.W.Fast.tw9763268239775435451 : Nat := 0
def PySem.W.Fast.tw17394056326795013819 : Nat := 0
def PySem.W.Fast.tw8246875598203858619 : Nat := 0
def PySem.W.Fast.tw10885399304501877467 : Nat := 0
def PySem.W.Fast.tw18283703058932287227 : Nat := 0
def PySem.W.Fast.tw11468482274089855739 : Nat := 0
def PySem.W.Fast.tw7041893808693704443 : Nat := 0
def PySem.W.Fast.tw2302674139485633275 : Nat := 0
def PySem.W.Fast.tw2664551874359636763 : Nat := 0
def PySem.W.Fast.tw16865151637890581275 : Nat := 0
def PySem.W.Fast.tw7824524286630937403 : Nat := 0
def PySem.W.Fast.tw8865056988118945627 : Nat := 0
def PySem.W.Fast.tw15395765874924336987 : Nat := 0
def PySem.W.Fast.tw15572185329723496315 : Nat := 0
def PySem.W.Fast.tw3953757239420563355 : Nat := 0
def PySem.W.Fast.tw12440642390943611835 : Nat := 0
def PySem.W.Fast.tw12053810478589131707 : Nat := 0
def PySem.W.Fast.tw9249553802937061307 : Nat := 0
def PySem.W.Fast.tw931480700962045883 : Nat := 0
def PySem.W.Fast.tw6213141578215901147 : Nat := 0
def PySem.W.Fast.tw13833065179229638619 : Nat := 0
def PySem.W.Fast.tw1746709291711236091 : Nat := 0
def PySem.W.Fast.tw10379131730601215995 : Nat := 0
def PySem.W.Fast.tw17545488357065515003 : Nat := 0
def PySem.W.Fast.tw5720267713326709755 : Nat := 0
def PySem.W.Fast.tw5357591511691535388 : Nat := 0
def PySem.W.Fast.tw10181792811725400092 : Nat := 0
def PySem.W.Fast.tw14427280190107063356 : Nat := 0
def PySem.W.Fast.tw3504847659760329788 : Nat := 0
def PySem.W.Fast.tw16443613744216263740 : Nat := 0
def PySem.W.Fast.tw5409283761738284092 : Nat := 0
def PySem.W.Fast.tw3602305061869613148 : Nat := 0
def PySem.W.Fast.tw9259835922360137852 : Nat := 0
def PySem.W.Fast.tw16846860572762119324 : Nat := 0
def PySem.W.Fast.tw2649316624779127964 : Nat := 0
def PySem.W.Fast.tw6654550962395885724 : Nat := 0
def PySem.W.Fast.tw17263276799224249500 : Nat := 0
def PySem.W.Fast.tw14323765505736481980 : Nat := 0
def PySem.W.Fast.tw9388148535421869244 : Nat := 0
def PySem.W.Fast.tw9296718237895610556 : Nat := 0
def PySem.W.Fast.tw5851959475827408060 : Nat := 0
def PySem.W.Fast.tw5701610774189311196 : Nat := 0
def PySem.W.Fast.tw5345256250457102556 : Nat := 0
def PySem.W.Fast.tw1706496860858754268 : Nat := 0
def PySem.W.Fast.tw14928710991547807964 : Nat := 0
def PySem.W.Fast.tw15429546615042754780 : Nat := 0
def PySem.W.Fast.tw6214688769961185500 : Nat := 0
def PySem.W.Fast.tw16658944759067139292 : Nat := 0
def PySem.W.Fast.tw1837873897431532796 : Nat := 0
def PySem.W.Fast.tw12250486417006432508 : Nat := 0
def PySem.W.Fast.tw6817277305950994716 : Nat := 0
def PySem.W.Fast.tw3560238982266916124 : Nat := 0
def PySem.W.Fast.tw2447775223705975068 : Nat := 0
def PySem.W.Fast.tw17853915177807527196 : Nat := 0
def PySem.W.Fast.tw6439353827949583676 : Nat := 0
def PySem.W.Fast.tw8389248881573145916 : Nat := 0
def PySem.W.Fast.tw1385373752043811132 : Nat := 0
def PySem.W.Fast.tw5635829544842349884 : Nat := 0
def PySem.W.Fast.tw15686607326892023100 : Nat := 0
def PySem.W.Fast.tw16157552476241854812 : Nat := 0
def PySem.W.Fast.tw15736379376083960156 : Nat := 0
def PySem.W.Fast.tw17489297760438914396 : Nat := 0
def PySem.W.Fast.tw12659028871203227004 : Nat := 0
def PySem.W.Fast.tw17295947923314359676 : Nat := 0
def PySem.W.Fast.tw6426273055680023932 : Nat := 0
def PySem.W.Fast.tw2088498060469179804 : Nat := 0
def PySem.W.Fast.tw14210447440969649564 : Nat := 0
def PySem.W.Fast.tw8328094057196393916 : Nat := 0
def PySem.W.Fast.tw10205541121877940668 : Nat := 0
def PySem.W.Fast.tw9746960011698973116 : Nat := 0
def PySem.W.Fast.tw6588598905958411708 : Nat := 0
def PySem.W.Fast.tw5607064600570693084 : Nat := 0
def PySem.W.Fast.tw17238727255148662236 : Nat := 0
def PySem.W.Fast.tw17344496456200356348 : Nat := 0
def PySem.W.Fast.tw5396446701170858492 : Nat := 0
def PySem.W.Fast.tw6047281937039104508 : Nat := 0
def PySem.W.Fast.tw4978021878618929660 : Nat := 0
def PySem.W.Fast.tw15199281503961881116 : Nat := 0
def PySem.W.Fast.tw7415527329543665180 : Nat := 0
def PySem.W.Fast.tw18345786424863182364 : Nat := 0
def PySem.W.Fast.tw11333186260410459676 : Nat := 0
def PySem.W.Fast.tw5994239182223829532 : Nat := 0
def PySem.W.Fast.tw8261291777035547196 : Nat := 0
def PySem.W.Fast.tw3165079357343686204 : Nat := 0
def PySem.W.Fast.tw9720828393056574044 : Nat := 0
def PySem.W.Fast.tw12756171468093112924 : Nat := 0
def PySem.W.Fast.tw7745614565497352828 : Nat := 0
def PySem.W.Fast.tw5111356299099525756 : Nat := 0
def PySem.W.Fast.tw11355973944613990012 : Nat := 0
def PySem.W.Fast.tw17919728810627054236 : Nat := 0
def PySem.W.Fast.tw12680008329806859932 : Nat := 0
def PySem.W.Fast.tw7397068168572129948 : Nat := 0
def PySem.W.Fast.tw3680507859886855836 : Nat := 0
def PySem.W.Fast.tw4287028408620065468 : Nat := 0
def PySem.W.Fast.tw13317431791736044220 : Nat := 0
def PySem.W.Fast.tw17095193983963658940 : Nat := 0
def PySem.W.Fast.tw12089310034660295388 : Nat := 0
def PySem.W.Fast.tw4841608483596896988 : Nat := 0
def PySem.W.Fast.tw10366619173989554908 : Nat := 0
def PySem.W.Fast.tw5667287542165820124 : Nat := 0
def PySem.W.Fast.tw12847821214584303324 : Nat := 0
def PySem.W.Fast.tw2792603143680265980 : Nat := 0
def PySem.W.Fast.tw13951257522405164796 : Nat := 0
def PySem.W.Fast.tw8058433561772132124 : Nat := 0
def PySem.W.Fast.tw8180830640274347804 : Nat := 0
def PySem.W.Fast.tw1809450688779833116 : Nat := 0
def PySem.W.Fast.tw15512652808077004572 : Nat := 0
def PySem.W.Fast.tw3398876845080916796 : Nat := 0
def PySem.W.Fast.tw12273457730212084572 : Nat := 0
def PySem.W.Fast.tw17831143206145232764 : Nat := 0
def PySem.W.Fast.tw8802822988693486460 : Nat := 0
def PySem.W.Fast.tw4337586460112869244 : Nat := 0
def PySem.W.Fast.tw11277413387252134812 : Nat := 0
def PySem.W.Fast.tw16643379632663270332 : Nat := 0
def PySem.W.Fast.tw16241802466949684156 : Nat := 0
def PySem.W.Fast.tw716658179208862652 : Nat := 0
def PySem.W.Fast.tw2905824091091238844 : Nat := 0
def PySem.W.Fast.tw11796596560499834812 : Nat := 0
def PySem.W.Fast.tw6624491594363574236 : Nat := 0
def PySem.W.Fast.tw18165320371462960092 : Nat := 0
def PySem.W.Fast.tw15169466047673725916 : Nat := 0
def PySem.W.Fast.tw8672586035246399452 : Nat := 0
def PySem.W.Fast.tw6542652360782415868 : Nat := 0
def PySem.W.Fast.tw11751220284621034492 : Nat := 0
def PySem.W.Fast.tw10809436270750901244 : Nat := 0
def PySem.W.Fast.tw13912434898499826684 : Nat := 0
def PySem.W.Fast.tw18286265847491885052 : Nat := 0
def PySem.W.Fast.tw12911961121967719453 : Nat := 0
def PySem.W.Fast.tw9504726810853072989 : Nat := 0
def PySem.W.Fast.tw17476080006546285661 : Nat := 0
def PySem.W.Fast.tw5032809538720368765 : Nat := 0
def PySem.W.Fast.tw18263319221461684349 : Nat := 0
def PySem.W.Fast.tw4172830789200971933 : Nat := 0
def PySem.W.Fast.tw14079958499647549597 : Nat := 0
def PySem.W.Fast.tw14983900326255920317 : Nat := 0
def PySem.W.Fast.tw15880553002074869949 : Nat := 0
def PySem.W.Fast.tw15505671068439660733 : Nat := 0
def PySem.W.Fast.tw2954850331595611357 : Nat := 0
def PySem.W.Fast.tw7118621879819988189 : Nat := 0
def PySem.W.Fast.tw14906574935559960797 : Nat := 0
def PySem.W.Fast.tw18412152862957032701 : Nat := 0
def PySem.W.Fast.tw12528549376374506781 : Nat := 0
def PySem.W.Fast.tw10057510723706494237 : Nat := 0
def PySem.W.Fast.tw11851898105970541853 : Nat := 0
def PySem.W.Fast.tw16326889199254633757 : Nat := 0
def PySem.W.Fast.tw5529568453561195837 : Nat := 0
def PySem.W.Fast.tw4932155360829873469 : Nat := 0
def PySem.W.Fast.tw13591756694887643453 : Nat := 0
def PySem.W.Fast.tw16835247145936305501 : Nat := 0
def PySem.W.Fast.tw9130231340562597213 : Nat := 0
def PySem.W.Fast.tw13780066281205204349 : Nat := 0
def PySem.W.Fast.tw6002357217433828733 : Nat := 0
def PySem.W.Fast.tw546446905821614461 : Nat := 0
def PySem.W.Fast.tw12329403913580668285 : Nat := 0
def PySem.W.Fast.tw12034632706147234205 : Nat := 0
def PySem.W.Fast.tw16333089545024387485 : Nat := 0
def PySem.W.Fast.tw7023512033895763357 : Nat := 0
def PySem.W.Fast.tw15983881195869794717 : Nat := 0
def PySem.W.Fast.tw8881496252177385917 : Nat := 0
def PySem.W.Fast.tw11262161600032610781 : Nat := 0
def PySem.W.Fast.tw1667231139898017245 : Nat := 0
def PySem.W.Fast.tw12128325577817847261 : Nat := 0
def PySem.W.Fast.tw4173924237407464957 : Nat := 0
def PySem.W.Fast.tw12985358249318526461 : Nat := 0
def PySem.W.Fast.tw16147099016619308541 : Nat := 0
def PySem.W.Fast.tw2666112165703630333 : Nat := 0
def PySem.W.Fast.tw18056578402003937789 : Nat := 0
def PySem.W.Fast.tw10093032338203421213 : Nat := 0
def PySem.W.Fast.tw9292931687148149277 : Nat := 0
def PySem.W.Fast.tw992259974381445725 : Nat := 0
def PySem.W.Fast.tw11186114360453789277 : Nat := 0
def PySem.W.Fast.tw6612449351406616157 : Nat := 0
def PySem.W.Fast.tw4224991398303006301 : Nat := 0
def PySem.W.Fast.tw7968026551367868029 : Nat := 0
def PySem.W.Fast.tw1544652992362985085 : Nat := 0
def PySem.W.Fast.tw17804436615005485693 : Nat := 0
def PySem.W.Fast.tw18034167525097398909 : Nat := 0
def PySem.W.Fast.tw13902233598862641821 : Nat := 0
def PySem.W.Fast.tw16528356733873518237 : Nat := 0
def PySem.W.Fast.tw17695988578738506429 : Nat := 0
def PySem.W.Fast.tw12049575158971614909 : Nat := 0
def PySem.W.Fast.tw8164371507598914237 : Nat := 0
def PySem.W.Fast.tw1055568401681811165 : Nat := 0
def PySem.W.Fast.tw2435787050299721437 : Nat := 0
def PySem.W.Fast.tw17814930658547583709 : Nat := 0
def PySem.W.Fast.tw4888342469653423869 : Nat := 0
def PySem.W.Fast.tw14717076375853996829 : Nat := 0
def PySem.W.Fast.tw18397802009451279165 : Nat := 0
def PySem.W.Fast.tw13759679279233594173 : Nat := 0
def PySem.W.Fast.tw16048576614497160029 : Nat := 0
def PySem.W.Fast.tw16296994325663420285 : Nat := 0
def PySem.W.Fast.tw16605923680643682173 : Nat := 0
def PySem.W.Fast.tw6019396324639902685 : Nat := 0
def PySem.W.Fast.tw17552769576498331613 : Nat := 0
def PySem.W.Fast.tw9267298106668617725 : Nat := 0
def PySem.W.Fast.tw7582166717755450365 : Nat := 0
def PySem.W.Fast.tw6071354207583734814 : Nat := 0
def PySem.W.Fast.tw7474744139170675742 : Nat := 0
def PySem.W.Fast.tw12475847535787081790 : Nat := 0
def PySem.W.Fast.tw9716379530615831614 : Nat := 0
def PySem.W.Fast.tw1771862750571323454 : Nat := 0
def PySem.W.Fast.tw9235277983596991582 : Nat := 0
def PySem.W.Fast.tw18466492976756830 : Nat := 0
def PySem.W.Fast.tw10010511219673018494 : Nat := 0
def PySem.W.Fast.tw17744161884188899454 : Nat := 0
def PySem.W.Fast.tw4748654258956052638 : Nat := 0
def PySem.W.Fast.tw10092856319447448734 : Nat := 0
def PySem.W.Fast.tw6711915476519705758 : Nat := 0
def PySem.W.Fast.tw17194872079407538334 : Nat := 0
def PySem.W.Fast.tw11277716924127702174 : Nat := 0
def PySem.W.Fast.tw6917869754434977982 : Nat := 0
def PySem.W.Fast.tw2370425770031549630 : Nat := 0
def PySem.W.Fast.tw10422997342228622526 : Nat := 0
def PySem.W.Fast.tw1618016077560798398 : Nat := 0
def PySem.W.Fast.tw7035115661146626270 : Nat := 0
def PySem.W.Fast.tw16697705042078049502 : Nat := 0
def PySem.W.Fast.tw3471434340857760990 : Nat := 0
def PySem.W.Fast.tw2425732281115038942 : Nat := 0
def PySem.W.Fast.tw973662469405803806 : Nat := 0
def PySem.W.Fast.tw16243683426749602078 : Nat := 0
def PySem.W.Fast.tw18342000824774725950 : Nat := 0
def PySem.W.Fast.tw3636048126100218174 : Nat := 0
def PySem.W.Fast.tw8162909057868654942 : Nat := 0
def PySem.W.Fast.tw1517728797646847326 : Nat := 0
def PySem.W.Fast.tw7762471708279104926 : Nat := 0
def PySem.W.Fast.tw17964007177503468958 : Nat := 0
def PySem.W.Fast.tw15736541856241217950 : Nat := 0
def PySem.W.Fast.tw8540232549379673566 : Nat := 0
def PySem.W.Fast.tw11162206803900282334 : Nat := 0
def PySem.W.Fast.tw5920574252796146142 : Nat := 0
def PySem.W.Fast.tw6380782515089751550 : Nat := 0
def PySem.W.Fast.tw5733432706681996830 : Nat := 0
def PySem.W.Fast.tw5994839739612272190 : Nat := 0
def PySem.W.Fast.tw8277113072694344254 : Nat := 0
def PySem.W.Fast.tw8980889968409110078 : Nat := 0
def PySem.W.Fast.tw6306848275597927006 : Nat := 0
def PySem.W.Fast.tw3365010085382643294 : Nat := 0
def PySem.W.Fast.tw13508927094545243742 : Nat := 0
def PySem.W.Fast.tw10475303700862453374 : Nat := 0
def PySem.W.Fast.tw10353204498128435838 : Nat := 0
def PySem.W.Fast.tw5885672587940724382 : Nat := 0
def PySem.W.Fast.tw4730331114728640190 : Nat := 0
def PySem.W.Fast.tw16554981416250968798 : Nat := 0
def PySem.W.Fast.tw13358918113657365246 : Nat := 0
def PySem.W.Fast.tw4001722611766732542 : Nat := 0
def PySem.W.Fast.tw4455271633411000094 : Nat := 0
def PySem.W.Fast.tw16869277618539721502 : Nat := 0
def PySem.W.Fast.tw9696557204077412126 : Nat := 0
def PySem.W.Fast.tw11130039905162102590 : Nat := 0
def PySem.W.Fast.tw7641510929779896126 : Nat := 0
def PySem.W.Fast.tw8732485361984058174 : Nat := 0
def PySem.W.Fast.tw4627395047686653758 : Nat := 0
def PySem.W.Fast.tw12251886556690698046 : Nat := 0
def PySem.W.Fast.tw17728961539438068574 : Nat := 0
def PySem.W.Fast.tw1775931318481535838 : Nat := 0
def PySem.W.Fast.tw1068659041996821342 : Nat := 0
def PySem.W.Fast.tw17116219225323267934 : Nat := 0
def PySem.W.Fast.tw17993466163889502046 : Nat := 0
def PySem.W.Fast.tw1121456853746333566 : Nat := 0
def PySem.W.Fast.tw8349078601474549662 : Nat := 0
def PySem.W.Fast.tw1107438419126420414 : Nat := 0
def PySem.W.Fast.tw9787463984185863102 : Nat := 0
def PySem.W.Fast.tw11328821685186248670 : Nat := 0
def PySem.W.Fast.tw10964334890339321822 : Nat := 0
def PySem.W.Fast.tw5074151504298137566 : Nat := 0
def PySem.W.Fast.tw1473606383895896030 : Nat := 0
def PySem.W.Fast.tw16484321417738562558 : Nat := 0
def PySem.W.Fast.tw4292500188555128830 : Nat := 0
def PySem.W.Fast.tw9408305817736575998 : Nat := 0
def PySem.W.Fast.tw7818373180160638974 : Nat := 0
def PySem.W.Fast.tw18076396596764296223 : Nat := 0
def PySem.W.Fast.tw2623328362237052959 : Nat := 0
def PySem.W.Fast.tw13124461726301313055 : Nat := 0
def PySem.W.Fast.tw11073214813410254879 : Nat := 0
def PySem.W.Fast.tw17279654841073493023 : Nat := 0
def PySem.W.Fast.tw17345337150121798687 : Nat := 0
def PySem.W.Fast.tw14440330203729951807 : Nat := 0
def PySem.W.Fast.tw11658499210001584223 : Nat := 0
def PySem.W.Fast.tw11206750467444936799 : Nat := 0
def PySem.W.Fast.tw13156946784968193119 : Nat := 0
def PySem.W.Fast.tw486160843437622367 : Nat := 0
def PySem.W.Fast.tw18200712748503757919 : Nat := 0
def PySem.W.Fast.tw10664143095526531199 : Nat := 0
def PySem.W.Fast.tw14340907737946174591 : Nat := 0
def PySem.W.Fast.tw6122645084068987007 : Nat := 0
def PySem.W.Fast.tw5352783478705604735 : Nat := 0
def PySem.W.Fast.tw10947085389571246207 : Nat := 0
def PySem.W.Fast.tw12107923835058252927 : Nat := 0
def PySem.W.Fast.tw4549333791460862111 : Nat := 0
def PySem.W.Fast.tw13706068629976492191 : Nat := 0
def PySem.W.Fast.tw2652909682322686111 : Nat := 0
def PySem.W.Fast.tw13746126617404028095 : Nat := 0
def PySem.W.Fast.tw9501289110860158143 : Nat := 0
def PySem.W.Fast.tw4405960384096086239 : Nat := 0
def PySem.W.Fast.tw12224578244612797663 : Nat := 0
def PySem.W.Fast.tw181589983693299935 : Nat := 0
def PySem.W.Fast.tw5189142188285759775 : Nat := 0
def PySem.W.Fast.tw1188131947540300063 : Nat := 0
def PySem.W.Fast.tw16349804527192203551 : Nat := 0
def PySem.W.Fast.tw12559082134256533823 : Nat := 0
def PySem.W.Fast.tw9384770032219855199 : Nat := 0
def PySem.W.Fast.tw6388448979379663231 : Nat := 0
def PySem.W.Fast.tw17371605927285002655 : Nat := 0
def PySem.W.Fast.tw10323968676351773119 : Nat := 0
def PySem.W.Fast.tw14843722373977536959 : Nat := 0
def PySem.W.Fast.tw3579160375056663007 : Nat := 0
def PySem.W.Fast.tw12973657651903071711 : Nat := 0
def PySem.W.Fast.tw16950312913027304927 : Nat := 0
def PySem.W.Fast.tw11882691865914478047 : Nat := 0
def PySem.W.Fast.tw9011979029575296479 : Nat := 0
def PySem.W.Fast.tw9606731646108302815 : Nat := 0
def PySem.W.Fast.tw16495559152270511615 : Nat := 0
def PySem.W.Fast.tw5437680584485252607 : Nat := 0
def PySem.W.Fast.tw12225727855978595839 : Nat := 0
def PySem.W.Fast.tw1099650374770401823 : Nat := 0
def PySem.W.Fast.tw8451552260295177759 : Nat := 0
def PySem.W.Fast.tw8031397206135004703 : Nat := 0
def PySem.W.Fast.tw11729385059970357855 : Nat := 0
def PySem.W.Fast.tw14214458738360403551 : Nat := 0
def PySem.W.Fast.tw11421684153948342911 : Nat := 0
def PySem.W.Fast.tw11040356994730471039 : Nat := 0
def PySem.W.Fast.tw6465842086209470079 : Nat := 0
def PySem.W.Fast.tw15971926135640513151 : Nat := 0
def PySem.W.Fast.tw17318918447537204895 : Nat := 0
def PySem.W.Fast.tw11280230395552571071 : Nat := 0
def PySem.W.Fast.tw1139862187096482527 : Nat := 0
def PySem.W.Fast.tw1257650718994608863 : Nat := 0
def PySem.W.Fast.tw12546735706822756063 : Nat := 0
def PySem.W.Fast.tw3392908335365919487 : Nat := 0
def PySem.W.Fast.tw9502854395695255327 : Nat := 0
def PySem.W.Fast.tw17640260642408067871 : Nat := 0
def PySem.W.Fast.tw6705856038287805247 : Nat := 0
def PySem.W.Fast.tw3795296827828348735 : Nat := 0
def PySem.W.Fast.tw8224813933742928703 : Nat := 0
def PySem.W.Fast.tw14991950579192688447 : Nat := 0
def PySem.W.Fast.tw6845722864549821247 : Nat := 0
def PySem.W.Fast.tw8987815912523675519 : Nat := 0
def PySem.W.Fast.tw9151569724866414463 : Nat := 0
def PySem.W.Fast.tw10429209394154948479 : Nat := 0
def PySem.W.Fast.tw11716702613169553311 : Nat := 0
def PySem.W.Fast.tw3054071069301022655 : Nat := 0
def PySem.W.Fast.tw11452132507678324671 : Nat := 0
def PySem.W.Fast.tw17175739148845497279 : Nat := 0
def PySem.W.Fast.tw489728401276846015 : Nat := 0
def PySem.W.Fast.tw11994158751524154303 : Nat := 0
def PySem.W.Fast.tw3207579146278992831 : Nat := 0
def PySem.W.Fast.tw11041761556299145183 : Nat := 0
def PySem.W.Fast.tw11591258478954866655 : Nat := 0
def PySem.W.Fast.tw17370054149142409183 : Nat := 0
def PySem.W.Fast.tw9868982950595657695 : Nat := 0
def PySem.W.Fast.tw15250204685079549951 : Nat := 0
def PySem.W.Fast.tw636862007251547135 : Nat := 0
def PySem.W.Fast.tw15173150769739975679 : Nat := 0
def PySem.W.Fast.tw13335737130258781183 : Nat := 0
def PySem.W.Fast.tw14305481044778800127 : Nat := 0
def PySem.W.Fast.tw5112092159240331263 : Nat := 0
def PySem.W.Fast.tw10936154890238557183 : Nat := 0
def PySem.W.Fast.tw8075568018651887793 : Nat := 0
namespace Mine
/-- the view without its classes: what a class is, is read from the written heap alone -/
def keptIn : Stmt → Bool
  | .ClassDef .. => false
  | _ => true
def className? : Stmt → Option Str
  | .ClassDef n .. => some n
  | _ => none
def thin (q : Program) : Program := { q with main := { q.main with body := q.main.body.filter keptIn } }
def wide (q : Program) (loose : List Str) : List Str := q.main.body.filterMap className? ++ loose

/-- the written heap is looked at in parts -/
def cF (as : List Addr) (i : Nat) (s : Shared) : List (Option Obj) := ((as.drop (34 * i)).take 34).map s.heap.get?
def cK (K : Params → Frag) (i : Nat) (w : World) : List (Option Obj) := (((K w.params).drop (34 * i)).take 34).map fun p => some p.2

theorem parts_eq {α β : Type} {f : α → β} : ∀ (n : Nat) (l : List α) (r : List β), l.length ≤ 34 * n → r.length ≤ 34 * n → (∀ i, i < n → ((l.drop (34 * i)).take 34).map f = (r.drop (34 * i)).take 34) → l.map f = r
  | 0, l, r, hl, hr, _ => by
    have a : l = [] := List.length_eq_zero_iff.mp (by omega)
    have b : r = [] := List.length_eq_zero_iff.mp (by omega)
    rw [a, b]; rfl
  | n + 1, l, r, hl, hr, h => by
    have h0 := h 0 (by omega)
    rw [Nat.mul_zero, List.drop_zero, List.drop_zero] at h0
    have ih := parts_eq (f := f) n (l.drop 34) (r.drop 34) (by rw [List.length_drop]; omega) (by rw [List.length_drop]; omega) fun i hi => by
      have := h (i + 1) (by omega)
      rw [List.drop_drop, List.drop_drop]
      rw [show 34 + 34 * i = 34 * (i + 1) by omega]
      exact this
    rw [← List.take_append_drop 34 l, ← List.take_append_drop 34 r, List.map_append, h0, ih]


theorem of_parts {K : Params → Frag} {as : List Addr} {e : ∀ P, as = (K P).map (·.1)} {ts : List Addr} (hz : as.length ≤ 34 * 32) {w : World} {s : Shared}
    (h : ((((((cF as 0 s, cF as 1 s), (cF as 2 s, cF as 3 s)), ((cF as 4 s, cF as 5 s), (cF as 6 s, cF as 7 s))), (((cF as 8 s, cF as 9 s), (cF as 10 s, cF as 11 s)), ((cF as 12 s, cF as 13 s), (cF as 14 s, cF as 15 s)))), ((((cF as 16 s, cF as 17 s), (cF as 18 s, cF as 19 s)), ((cF as 20 s, cF as 21 s), (cF as 22 s, cF as 23 s))), (((cF as 24 s, cF as 25 s), (cF as 26 s, cF as 27 s)), ((cF as 28 s, cF as 29 s), (cF as 30 s, cF as 31 s))))), ts.map s.heap.get?) = ((((((cK K 0 w, cK K 1 w), (cK K 2 w, cK K 3 w)), ((cK K 4 w, cK K 5 w), (cK K 6 w, cK K 7 w))), (((cK K 8 w, cK K 9 w), (cK K 10 w, cK K 11 w)), ((cK K 12 w, cK K 13 w), (cK K 14 w, cK K 15 w)))), ((((cK K 16 w, cK K 17 w), (cK K 18 w, cK K 19 w)), ((cK K 20 w, cK K 21 w), (cK K 22 w, cK K 23 w))), (((cK K 24 w, cK K 25 w), (cK K 26 w, cK K 27 w)), ((cK K 28 w, cK K 29 w), (cK K 30 w, cK K 31 w))))), ts.map fun _ => some (tabObj #[]))) : (kmHook K as e ts).obs s = (kmHook K as e ts).val w := by
  have hz' : (K w.params).length ≤ 34 * 32 := by rw [e w.params, List.length_map] at hz; exact hz
  have h1 : as.map s.heap.get? = (K w.params).map fun p => some p.2 := by
    refine parts_eq 32 as _ hz (by rw [List.length_map]; exact hz') fun i hi => ?_
    rw [← List.map_drop, ← List.map_take]
    have h0 := (Prod.mk.inj h).1
    show cF as i s = cK K i w
    match i, hi with
    | 0, _ => exact (Prod.mk.inj (Prod.mk.inj (Prod.mk.inj (Prod.mk.inj (Prod.mk.inj h0).1).1).1).1).1
    | 1, _ => exact (Prod.mk.inj (Prod.mk.inj (Prod.mk.inj (Prod.mk.inj (Prod.mk.inj h0).1).1).1).1).2
    | 2, _ => exact (Prod.mk.inj (Prod.mk.inj (Prod.mk.inj (Prod.mk.inj (Prod.mk.inj h0).1).1).1).2).1
    | 3, _ => exact (Prod.mk.inj (Prod.mk.inj (Prod.mk.inj (Prod.mk.inj (Prod.mk.inj h0).1).1).1).2).2
    | 4, _ => exact (Prod.mk.inj (Prod.mk.inj (Prod.mk.inj (Prod.mk.inj (Prod.mk.inj h0).1).1).2).1).1
    | 5, _ => exact (Prod.mk.inj (Prod.mk.inj (Prod.mk.inj (Prod.mk.inj (Prod.mk.inj h0).1).1).2).1).2
    | 6, _ => exact (Prod.mk.inj (Prod.mk.inj (Prod.mk.inj (Prod.mk.inj (Prod.mk.inj h0).1).1).2).2).1
    | 7, _ => exact (Prod.mk.inj (Prod.mk.inj (Prod.mk.inj (Prod.mk.inj (Prod.mk.inj h0).1).1).2).2).2
    | 8, _ => exact (Prod.mk.inj (Prod.mk.inj (Prod.mk.inj (Prod.mk.inj (Prod.mk.inj h0).1).2).1).1).1
    | 9, _ => exact (Prod.mk.inj (Prod.mk.inj (Prod.mk.inj (Prod.mk.inj (Prod.mk.inj h0).1).2).1).1).2
    | 10, _ => exact (Prod.mk.inj (Prod.mk.inj (Prod.mk.inj (Prod.mk.inj (Prod.mk.inj h0).1).2).1).2).1
    | 11, _ => exact (Prod.mk.inj (Prod.mk.inj (Prod.mk.inj (Prod.mk.inj (Prod.mk.inj h0).1).2).1).2).2
    | 12, _ => exact (Prod.mk.inj (Prod.mk.inj (Prod.mk.inj (Prod.mk.inj (Prod.mk.inj h0).1).2).2).1).1
    | 13, _ => exact (Prod.mk.inj (Prod.mk.inj (Prod.mk.inj (Prod.mk.inj (Prod.mk.inj h0).1).2).2).1).2
    | 14, _ => exact (Prod.mk.inj (Prod.mk.inj (Prod.mk.inj (Prod.mk.inj (Prod.mk.inj h0).1).2).2).2).1
    | 15, _ => exact (Prod.mk.inj (Prod.mk.inj (Prod.mk.inj (Prod.mk.inj (Prod.mk.inj h0).1).2).2).2).2
    | 16, _ => exact (Prod.mk.inj (Prod.mk.inj (Prod.mk.inj (Prod.mk.inj (Prod.mk.inj h0).2).1).1).1).1
    | 17, _ => exact (Prod.mk.inj (Prod.mk.inj (Prod.mk.inj (Prod.mk.inj (Prod.mk.inj h0).2).1).1).1).2
    | 18, _ => exact (Prod.mk.inj (Prod.mk.inj (Prod.mk.inj (Prod.mk.inj (Prod.mk.inj h0).2).1).1).2).1
    | 19, _ => exact (Prod.mk.inj (Prod.mk.inj (Prod.mk.inj (Prod.mk.inj (Prod.mk.inj h0).2).1).1).2).2
    | 20, _ => exact (Prod.mk.inj (Prod.mk.inj (Prod.mk.inj (Prod.mk.inj (Prod.mk.inj h0).2).1).2).1).1
    | 21, _ => exact (Prod.mk.inj (Prod.mk.inj (Prod.mk.inj (Prod.mk.inj (Prod.mk.inj h0).2).1).2).1).2
    | 22, _ => exact (Prod.mk.inj (Prod.mk.inj (Prod.mk.inj (Prod.mk.inj (Prod.mk.inj h0).2).1).2).2).1
    | 23, _ => exact (Prod.mk.inj (Prod.mk.inj (Prod.mk.inj (Prod.mk.inj (Prod.mk.inj h0).2).1).2).2).2
    | 24, _ => exact (Prod.mk.inj (Prod.mk.inj (Prod.mk.inj (Prod.mk.inj (Prod.mk.inj h0).2).2).1).1).1
    | 25, _ => exact (Prod.mk.inj (Prod.mk.inj (Prod.mk.inj (Prod.mk.inj (Prod.mk.inj h0).2).2).1).1).2
    | 26, _ => exact (Prod.mk.inj (Prod.mk.inj (Prod.mk.inj (Prod.mk.inj (Prod.mk.inj h0).2).2).1).2).1
    | 27, _ => exact (Prod.mk.inj (Prod.mk.inj (Prod.mk.inj (Prod.mk.inj (Prod.mk.inj h0).2).2).1).2).2
    | 28, _ => exact (Prod.mk.inj (Prod.mk.inj (Prod.mk.inj (Prod.mk.inj (Prod.mk.inj h0).2).2).2).1).1
    | 29, _ => exact (Prod.mk.inj (Prod.mk.inj (Prod.mk.inj (Prod.mk.inj (Prod.mk.inj h0).2).2).2).1).2
    | 30, _ => exact (Prod.mk.inj (Prod.mk.inj (Prod.mk.inj (Prod.mk.inj (Prod.mk.inj h0).2).2).2).2).1
    | 31, _ => exact (Prod.mk.inj (Prod.mk.inj (Prod.mk.inj (Prod.mk.inj (Prod.mk.inj h0).2).2).2).2).2
    | k + 32, hk => exact absurd hk (by omega)
  show (as.map s.heap.get?, ts.map s.heap.get?) = _
  rw [h1, (Prod.mk.inj h).2]
  rfl

theorem PySem.W.holds_open {r : OpenRow} {q : Program} {loose : List Str} {Xt : Shared → Bool} {XP : (Str → Option Value) → Heap → Prop} {α : Type} {Yf : Shared → α} {Ya : World → α} {YP : World → Heap → Prop} {d : DefRec} {kwd : List (Str × Expr)} {N : Nat}
    {K : Params → Frag} {as : List Addr} {e : ∀ P, as = (K P).map (·.1)} {ts : List Addr}
    (left : LeftO r.prog (thin q) (wide q loose) Xt (fun s => ((((((cF as 0 s, cF as 1 s), (cF as 2 s, cF as 3 s)), ((cF as 4 s, cF as 5 s), (cF as 6 s, cF as 7 s))), (((cF as 8 s, cF as 9 s), (cF as 10 s, cF as 11 s)), ((cF as 12 s, cF as 13 s), (cF as 14 s, cF as 15 s)))), ((((cF as 16 s, cF as 17 s), (cF as 18 s, cF as 19 s)), ((cF as 20 s, cF as 21 s), (cF as 22 s, cF as 23 s))), (((cF as 24 s, cF as 25 s), (cF as 26 s, cF as 27 s)), ((cF as 28 s, cF as 29 s), (cF as 30 s, cF as 31 s))))), ts.map s.heap.get?)) (fun w => ((((((cK K 0 w, cK K 1 w), (cK K 2 w, cK K 3 w)), ((cK K 4 w, cK K 5 w), (cK K 6 w, cK K 7 w))), (((cK K 8 w, cK K 9 w), (cK K 10 w, cK K 11 w)), ((cK K 12 w, cK K 13 w), (cK K 14 w, cK K 15 w)))), ((((cK K 16 w, cK K 17 w), (cK K 18 w, cK K 19 w)), ((cK K 20 w, cK K 21 w), (cK K 22 w, cK K 23 w))), (((cK K 24 w, cK K 25 w), (cK K 26 w, cK K 27 w)), ((cK K 28 w, cK K 29 w), (cK K 30 w, cK K 31 w))))), ts.map fun _ => some (tabObj #[]))) N)
    (hY : ∀ w s, (kmHook K as e ts).obs s = (kmHook K as e ts).val w → YP w s.heap) (hYk : ∀ w h h', YP w h → (∀ b o, h.get? b = some o → h'.get? b = some o) → YP w h')
    (hX : ∀ s, Xt s = true → XP (s.heap.nsMap mainGlobals) s.heap) (hXk : ∀ mg h h', XP mg h → (∀ b o, h.get? b = some o → h'.get? b = some o) → XP mg h')
    (hdef : defOf (thin q) r.name = some (d, kwd)) (hp : r.prog.theDef r.name = some (d.params, d.body, d.scope)) (hk : kwWritten? d.params.kwonlyargs d.params.kw_defaults = some kwd) (hRf : ∀ s, Xt s = true → RecFacts r.records s.heap) (hwr : (!r.writes || r.records.isEmpty) = true)
    (k1 : r.wellSaid = true) (ok : (chainsOk (thin q) && opensWell r.prog && (frees r.toRowW && r.within.isEmpty)) = true) (hb : r.prog.bare) (hw : r.toRowW.promised)
    (call : WalkO (thin q) (wide q loose) XP YP r.toRowW d kwd fun f vs => PySem.call f vs) (hz : Nat.ble as.length (34 * 32) = true := by kernel_rfl) : r.Holds :=
  _root_.PySem.W.holds_open left (fun w s h => hY w s (of_parts (e := e) (Nat.le_of_ble_eq_true hz) h)) hYk hX hXk hdef hp hk hRf hwr k1 ok hb hw call

open_top hd for PySem.Challenge.rw_bd6020_01
end Mine

end

/- PB1 -/
section
open PySem PySem.W PyProof.Rows PySem.Calls
set_option Elab.async false
set_option maxRecDepth 100000
namespace Mine

/-! the pure reading of the parser's state -/
inductive PV where
  | none | str (x : Str) | any
def PV.is : PV → Value → Prop
  | .none, v => v = .none
  | .str x, v => ∃ t, v = .str x t
  | .any, v => handedIn v = true

structure Sc where
  name : Str
  xv : Option Str

structure PS where
  val : PV
  pos : Nat
  failed : Bool
  err : Nat
  sc : List Sc

/-- the constants of one parse -/
structure Cx where
  x : Addr
  dx : Addr
  l : Addr
  T : Str
  tm : Tok
  te : Tok
  fn : Value
  ca : Value
  gl : Value
  k0 : Tok
  k1 : Tok
  k2 : Tok
  k3 : Tok
  k4 : Tok
  k5 : Tok
  k6 : Tok
  k7 : Tok
  k8 : Tok
  k9 : Tok

abbrev ent (P : Params) (name : Str) (tk : Tok) (v : Value) : DictEntry := ⟨PyData.keyHash P name, .str name tk, v⟩

abbrev pdict (P : Params) (c : Cx) (v p f e : Value) : List DictEntry :=
  [ent P "msg" c.k0 (.str c.T c.tm), ent P "end" c.k1 (.int c.T.length c.te), ent P "fname" c.k2 c.fn, ent P "val" c.k3 v, ent P "pos" c.k4 p,
   ent P "failed" c.k5 f, ent P "errpos" c.k6 e, ent P "_scopes" c.k7 (.ref c.l), ent P "_cache" c.k8 c.ca, ent P "_global_vars" c.k9 c.gl]

structure Wit where
  ts : List Addr
  ds : List Addr
  cs : List Addr

/-- one scope's tuple and dict -/
inductive ScsAt (prog : Program) (w : World) (h : Heap) : List Addr → List Addr → List Sc → Prop
  | nil : ScsAt prog w h [] [] []
  | cons {t d : Addr} {sc : Sc} {ts ds : List Addr} {r : List Sc} {tn tk : Tok} {o : Obj} :
      h.get? t = some { cls := .type "tuple", data := .seq #[.str sc.name tn, .ref d] } →
      h.get? d = some o → o.IsDictOf (strKind prog w) (match sc.xv with | none => [] | some x => [(("x" : Str), .str x tk)]) →
      ScsAt prog w h ts ds r → ScsAt prog w h (t :: ts) (d :: ds) (sc :: r)

/-- a code table of a lambda-making def -/
def TabOk (h : Heap) (cs : List Addr) (P : Addr) (q : Str) : Prop :=
  ∃ ps, h.get? P = some (tabObj ps) ∧ TriplesOk ps.toList ∧ ∀ pos cv, codeAmong pos ps.toList = some cv → ∃ c, c ∈ cs ∧ cv = .ref c ∧ h.CodeRec cv q

/-- the tables: code, table, the lambdas' qualified name -/
abbrev Tabs := List (Addr × Addr × Str)

def foot (c : Cx) (tabs : Tabs) (W : Wit) : List Addr := c.x :: c.dx :: c.l :: (W.ts ++ (W.ds ++ tabs.map (·.2.1)))

structure Own (prog : Program) (w : World) (C : Addr) (c : Cx) (tabs : Tabs) (h : Heap) (σ : PS) (W : Wit) : Prop where
  inst : h.get? c.x = some (instObj C c.dx)
  dict : ∃ v tp tq, σ.val.is v ∧ h.get? c.dx = some (dictOf (pdict w.params c v (.int σ.pos tp) (.bool σ.failed) (.int σ.err tq)) 10)
  scs : ∃ n, h.get? c.l = some (PySem.W.listOf (W.ts.reverse.map Value.ref).toArray n)
  sc : ScsAt prog w h W.ts W.ds σ.sc
  tab : ∀ q ∈ tabs, TabOk h W.cs q.2.1 q.2.2
  dxd : c.dx ∉ W.ds
  nd : W.ds.Nodup
  hi : ∀ d ∈ W.ds, sysModules < d
  apart : ∀ a ∈ W.cs, a ∉ foot c tabs W
end Mine

end

/- PB2 -/
section
open PySem PySem.W PyProof.Rows PySem.Calls
set_option Elab.async false
set_option maxRecDepth 100000
namespace Mine

section
variable {prog : Program} {w : World} {C : Addr} {c : Cx} {tabs : Tabs} {h h' : Heap} {σ σ' : PS} {W : Wit}

theorem ScsAt.keep {ts ds : List Addr} {r : List Sc} (x : ScsAt prog w h ts ds r) (k : ∀ a, a ∈ ts ∨ a ∈ ds → ∀ o, h.get? a = some o → h'.get? a = some o) : ScsAt prog w h' ts ds r := by
  induction x with
  | nil => exact .nil
  | cons h1 h2 h3 _ ih => exact .cons (k _ (.inl (.head _)) _ h1) (k _ (.inr (.head _)) _ h2) h3 (ih fun a ha => k a (ha.imp (.tail _) (.tail _)))

theorem ScsAt.alive {ts ds : List Addr} {r : List Sc} (x : ScsAt prog w h ts ds r) : ∀ a, a ∈ ts ∨ a ∈ ds → ∃ o, h.get? a = some o := by
  induction x with
  | nil => intro a ha; rcases ha with ha | ha <;> cases ha
  | cons h1 h2 _ _ ih =>
    intro a ha
    rcases ha with ha | ha
    · rcases List.mem_cons.mp ha with rfl | ha
      · exact ⟨_, h1⟩
      · exact ih a (.inl ha)
    · rcases List.mem_cons.mp ha with rfl | ha
      · exact ⟨_, h2⟩
      · exact ih a (.inr ha)

theorem codeRec_keep {cd : Value} {q : Str} {a : Addr} (x : h.CodeRec cd q) (e : cd = .ref a) (k : ∀ o, h.get? a = some o → h'.get? a = some o) : h'.CodeRec cd q := by
  obtain ⟨c', o, vs, t, h1, h2, h3, h4⟩ := x
  subst e; cases h1
  exact ⟨_, o, vs, t, rfl, k _ h2, h3, h4⟩

theorem TabOk.keep {cs : List Addr} {P : Addr} {q : Str} (x : TabOk h cs P q) (k : ∀ a, a = P ∨ a ∈ cs → ∀ o, h.get? a = some o → h'.get? a = some o) : TabOk h' cs P q := by
  obtain ⟨ps, h1, h2, h3⟩ := x
  refine ⟨ps, k _ (.inl rfl) _ h1, h2, fun pos cv e => ?_⟩
  obtain ⟨a, m, e1, e2⟩ := h3 pos cv e
  exact ⟨a, m, e1, codeRec_keep e2 e1 (k a (.inr m))⟩

theorem mem_foot {a : Addr} : a ∈ foot c tabs W ↔ a = c.x ∨ a = c.dx ∨ a = c.l ∨ a ∈ W.ts ∨ a ∈ W.ds ∨ a ∈ tabs.map (·.2.1) := by
  simp only [foot, List.mem_cons, List.mem_append]

theorem tab_in {q : Addr × Addr × Str} (hq : q ∈ tabs) : q.2.1 ∈ foot c tabs W := mem_foot.mpr (.inr (.inr (.inr (.inr (.inr (List.mem_map_of_mem hq))))))

theorem Own.keep (O : Own prog w C c tabs h σ W) (k : ∀ a, a ∈ foot c tabs W ∨ a ∈ W.cs → ∀ o, h.get? a = some o → h'.get? a = some o) : Own prog w C c tabs h' σ W where
  inst := k _ (.inl (mem_foot.mpr (.inl rfl))) _ O.inst
  dict := let ⟨v, tp, tq, h1, h2⟩ := O.dict; ⟨v, tp, tq, h1, k _ (.inl (mem_foot.mpr (.inr (.inl rfl)))) _ h2⟩
  scs := let ⟨n, h1⟩ := O.scs; ⟨n, k _ (.inl (mem_foot.mpr (.inr (.inr (.inl rfl))))) _ h1⟩
  sc := O.sc.keep fun a ha => k a (.inl (mem_foot.mpr (ha.elim (fun m => .inr (.inr (.inr (.inl m)))) fun m => .inr (.inr (.inr (.inr (.inl m)))))))
  tab := fun q hq => (O.tab q hq).keep fun a ha => k a (ha.imp (fun (e : a = q.2.1) => by rw [e]; exact tab_in hq) id)
  dxd := O.dxd
  nd := O.nd
  hi := O.hi
  apart := O.apart

theorem Own.alive (O : Own prog w C c tabs h σ W) : ∀ a ∈ foot c tabs W, ∃ o, h.get? a = some o := by
  intro a ha
  rcases mem_foot.mp ha with rfl | rfl | rfl | m | m | m
  · exact ⟨_, O.inst⟩
  · obtain ⟨v, tp, tq, _, e⟩ := O.dict; exact ⟨_, e⟩
  · obtain ⟨n, e⟩ := O.scs; exact ⟨_, e⟩
  · exact O.sc.alive a (.inl m)
  · exact O.sc.alive a (.inr m)
  · obtain ⟨q, hq, rfl⟩ := List.mem_map.mp m
    obtain ⟨ps, e, _⟩ := O.tab q hq
    exact ⟨_, e⟩

theorem ScsAt.tup_ne {ts ds : List Addr} {r : List Sc} (x : ScsAt prog w h ts ds r) {a : Addr} {o : Obj} (e : h.get? a = some o) (hn : o.cls ≠ .type "tuple") : a ∉ ts := by
  induction x with
  | nil => intro m; cases m
  | cons h1 _ _ _ ih =>
    intro m
    rcases List.mem_cons.mp m with rfl | m
    · rw [e] at h1; cases h1; exact hn rfl
    · exact ih m

/-- a store into the parser's own dict -/
theorem Own.setDict (O : Own prog w C c tabs h σ W) (k : ∀ a, a ≠ c.dx → ∀ o, h.get? a = some o → h'.get? a = some o) (hs : σ'.sc = σ.sc)
    (hd : ∃ v tp tq, σ'.val.is v ∧ h'.get? c.dx = some (dictOf (pdict w.params c v (.int σ'.pos tp) (.bool σ'.failed) (.int σ'.err tq)) 10)) : Own prog w C c tabs h' σ' W := by
  obtain ⟨v0, tp0, tq0, _, e0⟩ := O.dict
  have hT : c.dx ∉ W.ts := O.sc.tup_ne e0 (by intro q; injection q with q; exact absurd q (by decide))
  have hx : c.x ≠ c.dx := fun q => by
    have := O.inst; rw [q, e0] at this; injection this with this; injection this with t1 _ _ _; cases t1
  have hl : c.l ≠ c.dx := fun q => by
    obtain ⟨n, e⟩ := O.scs; rw [q, e0] at e; injection e with e; injection e with t1; injection t1 with t1; exact absurd t1 (by decide)
  refine ⟨k _ hx _ O.inst, hd, ?_, ?_, ?_, O.dxd, O.nd, O.hi, O.apart⟩
  · obtain ⟨n, e⟩ := O.scs; exact ⟨n, k _ hl _ e⟩
  · rw [hs]
    exact O.sc.keep fun a ha => k a (ha.elim (fun m q => hT (q ▸ m)) fun m q => O.dxd (q ▸ m))
  · intro q hq
    refine (O.tab q hq).keep fun a ha => k a ?_
    rcases ha with rfl | m
    · intro q2
      obtain ⟨ps, e, _⟩ := O.tab q hq
      rw [q2, e0] at e; injection e with e; injection e with t1; cases t1
    · intro q2
      exact O.apart a m (q2 ▸ mem_foot.mpr (.inr (.inl rfl)))
end

/-- what does not change during one parse -/
structure U where
  prog : Program
  w : World
  K : Frag
  p : Program
  loose : List Str
  mean : ExcName → Option Value
  mg : Str → Option Value
  mb : Str → Option Value
  C : Addr
  c : Cx
  tabs : Tabs

structure Bs (u : U) (g : Heap) : Prop where
  k : u.K.In g
  t : Top u.p u.loose u.mean u.mg u.mb g
  cd : ∀ q ∈ u.tabs, CodeHd g q.1 q.2.1
theorem Bs.keeps {u : U} {g g' : Heap} (B : Bs u g) (k : g.StaysIn g') : Bs u g' := ⟨B.k.keeps k, B.t.keeps k, fun q hq => (B.cd q hq).keeps k⟩

structure PInv (u : U) (g : Heap) (N : List Addr) (h : Heap) (σ : PS) : Prop where
  b : Bs u g
  st : g.StaysIn h
  sz : g.objs.size ≤ h.objs.size
  al : ∀ a ∈ N, ∃ o, h.get? a = some o
  fr : ∀ a ∈ N, g.get? a = none
  own : ∃ W, Own u.prog u.w u.C u.c u.tabs h σ W ∧ ∀ a ∈ foot u.c u.tabs W, g.get? a = none ∧ a ∉ N

section
variable {u : U} {g g' h h' : Heap} {N : List Addr} {σ σ' : PS}

theorem PInv.K (I : PInv u g N h σ) : u.K.In h := I.b.k.keeps I.st
theorem PInv.T (I : PInv u g N h σ) : Top u.p u.loose u.mean u.mg u.mb h := I.b.t.keeps I.st
theorem PInv.ext (I : PInv u g N h σ) (k : ∀ b o, h.get? b = some o → h'.get? b = some o) (z : h.objs.size ≤ h'.objs.size) : PInv u g N h' σ :=
  let ⟨W, O, f⟩ := I.own
  ⟨I.b, fun b o e => k b o (I.st b o e), Nat.le_trans I.sz z, fun a ha => let ⟨o, e⟩ := I.al a ha; ⟨o, k a o e⟩, I.fr, W, O.keep (fun a _ o => k a o), f⟩

theorem PInv.push (I : PInv u g N h σ) (o : Obj) : PInv u g N (h.push o) σ := I.ext (fun b o' e => Heap.get?_push_of_some _ e) (by rw [Heap.size_push]; omega)

theorem PInv.priv (I : PInv u g N h σ) {a : Addr} (hz : g.objs.size ≤ a) (hf : h.get? a = none) {h' : Heap} (k : ∀ b o, h.get? b = some o → h'.get? b = some o) (z : h.objs.size ≤ h'.objs.size) (ha : ∃ o, h'.get? a = some o) : PInv u g (a :: N) h' σ := by
  have I' := I.ext k z
  obtain ⟨W, O, f⟩ := I.own
  refine ⟨I'.b, I'.st, I'.sz, fun b hb => ?_, fun b hb => ?_, W, O.keep (fun a _ o => k a o), fun b hb => ⟨(f b hb).1, fun m => ?_⟩⟩
  · rcases List.mem_cons.mp hb with rfl | hb
    · exact ha
    · exact I'.al b hb
  · rcases List.mem_cons.mp hb with rfl | hb
    · exact Heap.get?_none_of_le hz
    · exact I'.fr b hb
  · rcases List.mem_cons.mp m with rfl | m
    · obtain ⟨o, e⟩ := O.alive _ hb; rw [hf] at e; cases e
    · exact (f b hb).2 m

def NotCode (o : Obj) : Prop := ∀ vs q t, o.data = .fields vs → vs[1]? ≠ some (Value.str q t)

theorem PInv.store (I : PInv u g N h σ) {a : Addr} (ha : a ∈ N) {o : Obj} (e : h.get? a = some o) (hn : NotCode o) (k : ∀ b, b ≠ a → ∀ o, h.get? b = some o → h'.get? b = some o) (z : g.objs.size ≤ h'.objs.size) (al : ∃ o, h'.get? a = some o) : PInv u g N h' σ := by
  obtain ⟨W, O, f⟩ := I.own
  refine ⟨I.b, fun b o' e' => k b (fun q => ?_) o' (I.st b o' e'), z, fun b hb => ?_, I.fr, W, ⟨?_, ?_, ?_, ?_, ?_, O.dxd, O.nd, O.hi, O.apart⟩, f⟩
  · rw [q, I.fr a ha] at e'; cases e'
  · by_cases q : b = a
    · rw [q]; exact al
    · obtain ⟨o', e'⟩ := I.al b hb; exact ⟨o', k b q o' e'⟩
  all_goals have kf : ∀ b, b ∈ foot u.c u.tabs W → ∀ o, h.get? b = some o → h'.get? b = some o := fun b hb => k b fun q => (f b hb).2 (q ▸ ha)
  · exact kf _ (mem_foot.mpr (.inl rfl)) _ O.inst
  · obtain ⟨v, tp, tq, h1, h2⟩ := O.dict; exact ⟨v, tp, tq, h1, kf _ (mem_foot.mpr (.inr (.inl rfl))) _ h2⟩
  · obtain ⟨n, h1⟩ := O.scs; exact ⟨n, kf _ (mem_foot.mpr (.inr (.inr (.inl rfl)))) _ h1⟩
  · exact O.sc.keep fun b hb => kf b (mem_foot.mpr (hb.elim (fun m => .inr (.inr (.inr (.inl m)))) fun m => .inr (.inr (.inr (.inr (.inl m))))))
  · intro q hq
    obtain ⟨ps, h1, h2, h3⟩ := O.tab q hq
    refine ⟨ps, kf _ (tab_in hq) _ h1, h2, fun pos cv e4 => ?_⟩
    obtain ⟨b, m, e1, e2⟩ := h3 pos cv e4
    refine ⟨b, m, e1, codeRec_keep e2 e1 (k b fun q2 => ?_)⟩
    obtain ⟨c', o', vs, t, r1, r2, r3, r4⟩ := e2
    subst e1; cases r1
    rw [q2, e] at r2; cases r2
    exact hn vs _ t r3 r4

/-- a private object goes its way -/
theorem PInv.lose (I : PInv u g N h σ) {a : Addr} (ha : a ∈ N) {o : Obj} (e : h.get? a = some o) (hn : NotCode o) (k : ∀ b, b ≠ a → ∀ o, h.get? b = some o → h'.get? b = some o) (z : g.objs.size ≤ h'.objs.size) {N' : List Addr} (hN : ∀ b ∈ N', b ∈ N ∧ b ≠ a) : PInv u g N' h' σ := by
  obtain ⟨W, O, f⟩ := I.own
  refine ⟨I.b, fun b o' e' => k b (fun q => ?_) o' (I.st b o' e'), z, fun b hb => ?_, fun b hb => I.fr b (hN b hb).1, W, ⟨?_, ?_, ?_, ?_, ?_, O.dxd, O.nd, O.hi, O.apart⟩, fun b hb => ⟨(f b hb).1, fun m => (f b hb).2 (hN b m).1⟩⟩
  · rw [q, I.fr a ha] at e'; cases e'
  · obtain ⟨o', e'⟩ := I.al b (hN b hb).1; exact ⟨o', k b (hN b hb).2 o' e'⟩
  all_goals have kf : ∀ b, b ∈ foot u.c u.tabs W → ∀ o, h.get? b = some o → h'.get? b = some o := fun b hb => k b fun q => (f b hb).2 (q ▸ ha)
  · exact kf _ (mem_foot.mpr (.inl rfl)) _ O.inst
  · obtain ⟨v, tp, tq, h1, h2⟩ := O.dict; exact ⟨v, tp, tq, h1, kf _ (mem_foot.mpr (.inr (.inl rfl))) _ h2⟩
  · obtain ⟨n, h1⟩ := O.scs; exact ⟨n, kf _ (mem_foot.mpr (.inr (.inr (.inl rfl)))) _ h1⟩
  · exact O.sc.keep fun b hb => kf b (mem_foot.mpr (hb.elim (fun m => .inr (.inr (.inr (.inl m)))) fun m => .inr (.inr (.inr (.inr (.inl m))))))
  · intro q hq
    obtain ⟨ps, h1, h2, h3⟩ := O.tab q hq
    refine ⟨ps, kf _ (tab_in hq) _ h1, h2, fun pos cv e4 => ?_⟩
    obtain ⟨b, m, e1, e2⟩ := h3 pos cv e4
    refine ⟨b, m, e1, codeRec_keep e2 e1 (k b fun q2 => ?_)⟩
    obtain ⟨c', o', vs, t, r1, r2, r3, r4⟩ := e2
    subst e1; cases r1
    rw [q2, e] at r2; cases r2
    exact hn vs _ t r3 r4

theorem PInv.freeze (I : PInv u g N h σ) : ∃ g', PInv u g' [] h σ ∧ g.StaysIn g' ∧ g'.objs.size = h.objs.size ∧ (∀ a ∈ N, ∀ o, h.get? a = some o → g'.get? a = some o) ∧
    (∀ h' σ', PInv u g' [] h' σ' → PInv u g N h' σ') ∧ (∀ b o, g'.get? b = some o → h.get? b = some o) := by
  obtain ⟨W, O, f⟩ := I.own
  have st : g.StaysIn (hideAll h (foot u.c u.tabs W)) := fun b o e => hideAll_get _ (I.st b o e) fun m => by rw [(f b m).1] at e; cases e
  have hN : ∀ a ∈ N, ∀ o, h.get? a = some o → (hideAll h (foot u.c u.tabs W)).get? a = some o := fun a ha o e => hideAll_get _ e fun m => (f a m).2 ha
  refine ⟨hideAll h (foot u.c u.tabs W), ⟨I.b.keeps st, fun b o e => of_hideAll _ e, Nat.le_of_eq (hideAll_size _ _), (fun a ha => nomatch ha), (fun a ha => nomatch ha), W, O, fun a ha => ⟨hideAll_none _ ha, fun m => nomatch m⟩⟩, st, hideAll_size _ _, hN, fun h' σ' J => ?_, fun b o e => of_hideAll _ e⟩
  obtain ⟨W', O', f'⟩ := J.own
  refine ⟨I.b, fun b o e => J.st b o (st b o e), Nat.le_trans I.sz (Nat.le_trans (Nat.le_of_eq (hideAll_size _ _).symm) J.sz), fun a ha => ?_, I.fr, W', O', fun a ha => ⟨?_, fun m => ?_⟩⟩
  · obtain ⟨o, e⟩ := I.al a ha; exact ⟨o, J.st _ _ (hN a ha o e)⟩
  · cases q : g.get? a with
    | none => rfl
    | some o => have := st _ _ q; rw [(f' a ha).1] at this; cases this
  · obtain ⟨o, e⟩ := I.al a m
    have := hN a m o e
    rw [(f' a ha).1] at this; cases this
end
end Mine

end

/- PB3 -/
section
open PySem PySem.W PyProof.Rows PySem.Calls
set_option Elab.async false
set_option maxRecDepth 100000
namespace Mine

section
variable {u : U} {g g' h h' : Heap} {N : List Addr} {σ σ' : PS}

theorem PInv.mono (J : PInv u g' [] h σ) (st : g.StaysIn g') (z : g.objs.size ≤ g'.objs.size) (B : Bs u g) : PInv u g [] h σ := by
  obtain ⟨W, O, f⟩ := J.own
  refine ⟨B, fun b o e => J.st b o (st b o e), Nat.le_trans z J.sz, (fun a ha => nomatch ha), (fun a ha => nomatch ha), W, O, fun a ha => ⟨?_, fun m => nomatch m⟩⟩
  cases q : g.get? a with
  | none => rfl
  | some o => have := st _ _ q; rw [(f a ha).1] at this; cases this

theorem Own.notCode {W : Wit} (O : Own u.prog u.w u.C u.c u.tabs h σ W) : ∀ a ∈ foot u.c u.tabs W, ∀ o, h.get? a = some o → NotCode o := by
  have sc : ∀ {ts ds r}, ScsAt u.prog u.w h ts ds r → ∀ a, a ∈ ts ∨ a ∈ ds → ∀ o, h.get? a = some o → NotCode o := by
    intro ts ds r x
    induction x with
    | nil => intro a ha; rcases ha with ha | ha <;> cases ha
    | cons h1 h2 h3 _ ih =>
      intro a ha o e
      rcases ha with ha | ha
      · rcases List.mem_cons.mp ha with rfl | ha
        · rw [h1] at e; cases e; intro vs q t d; cases d
        · exact ih a (.inl ha) o e
      · rcases List.mem_cons.mp ha with rfl | ha
        · rw [h2] at e; cases e
          intro vs q t d
          have h4 := h3
          unfold Obj.IsDictOf at h4
          obtain ⟨es, ep, _, hd, _⟩ := h4
          rw [hd] at d; cases d
        · exact ih a (.inr ha) o e
  intro a ha o e
  rcases mem_foot.mp ha with rfl | rfl | rfl | m | m | m
  · rw [O.inst] at e; cases e; intro vs q t d; cases d
  · obtain ⟨v, tp, tq, _, e'⟩ := O.dict; rw [e'] at e; cases e; intro vs q t d; cases d
  · obtain ⟨n, e'⟩ := O.scs; rw [e'] at e; cases e; intro vs q t d; cases d
  · exact sc O.sc a (.inl m) o e
  · exact sc O.sc a (.inr m) o e
  · obtain ⟨q, hq, rfl⟩ := List.mem_map.mp m
    obtain ⟨ps, e', ht, _⟩ := O.tab q hq
    rw [e'] at e; cases e
    intro vs qn t d; cases d
    have := triples_no_str ht qn t
    rwa [Array.getElem?_toList] at this

theorem PInv.freeze' (I : PInv u g N h σ) : ∃ g', PInv u g' [] h σ ∧ g.StaysIn g' ∧ g'.objs.size = h.objs.size ∧ (∀ a ∈ N, ∀ o, h.get? a = some o → g'.get? a = some o) ∧
    (∀ h' σ', PInv u g' [] h' σ' → PInv u g N h' σ') ∧ (∀ b o, g'.get? b = some o → h.get? b = some o) ∧ (∀ cd q, h.CodeRec cd q → g'.CodeRec cd q) := by
  obtain ⟨W, O, f⟩ := I.own
  have st : g.StaysIn (hideAll h (foot u.c u.tabs W)) := fun b o e => hideAll_get _ (I.st b o e) fun m => by rw [(f b m).1] at e; cases e
  have hN : ∀ a ∈ N, ∀ o, h.get? a = some o → (hideAll h (foot u.c u.tabs W)).get? a = some o := fun a ha o e => hideAll_get _ e fun m => (f a m).2 ha
  refine ⟨hideAll h (foot u.c u.tabs W), ⟨I.b.keeps st, fun b o e => of_hideAll _ e, Nat.le_of_eq (hideAll_size _ _), (fun a ha => nomatch ha), (fun a ha => nomatch ha), W, O, fun a ha => ⟨hideAll_none _ ha, fun m => nomatch m⟩⟩, st, hideAll_size _ _, hN, fun h' σ' J => ?_, fun b o e => of_hideAll _ e, fun cd q x => ?_⟩
  · obtain ⟨W', O', f'⟩ := J.own
    refine ⟨I.b, fun b o e => J.st b o (st b o e), Nat.le_trans I.sz (Nat.le_trans (Nat.le_of_eq (hideAll_size _ _).symm) J.sz), fun a ha => ?_, I.fr, W', O', fun a ha => ⟨?_, fun m => ?_⟩⟩
    · obtain ⟨o, e⟩ := I.al a ha; exact ⟨o, J.st _ _ (hN a ha o e)⟩
    · cases q : g.get? a with
      | none => rfl
      | some o => have := st _ _ q; rw [(f' a ha).1] at this; cases this
    · obtain ⟨o, e⟩ := I.al a m
      have := hN a m o e
      rw [(f' a ha).1] at this; cases this
  · obtain ⟨c, o, vs, t, e1, e2, e3, e4⟩ := x
    exact ⟨c, o, vs, t, e1, hideAll_get _ e2 fun m => O.notCode c m o e2 vs q t e3 e4, e3, e4⟩
end

/-- room for d more frames -/
structure Room (A : Around) (d : Nat) : Prop where
  hd : A.handled = none
  dp : A.depth + d < recursionLimit
  un : A.units + 8 * d < cLine
theorem Room.deeper {A : Around} {d : Nat} {env : Env} (R : Room A (d + 1)) : Room (A.deeper env) d :=
  ⟨R.hd, by have := R.dp; show A.depth + 1 + d < _; omega, by have := R.un; show A.units + 3 + 8 * d < _; omega⟩
theorem Room.less {A : Around} {d e : Nat} (R : Room A d) (l : e ≤ d) : Room A e := ⟨R.hd, by have := R.dp; omega, by have := R.un; omega⟩
theorem Room.dlt {A : Around} {d : Nat} (R : Room A d) : A.depth < recursionLimit := by have := R.dp; omega

def Done (u : U) (g : Heap) (s : Shared) (σ' : PS) (r : Result) (s' : Shared) : Prop :=
  r = .ok (.ret .none) ∧ ∃ h' tk', s' = { s with heap := h', toks := tk' } ∧ PInv u g [] h' σ'

def Runs (u : U) (g : Heap) (cd : Code) (F : PS → Option PS) (d : Nat) : Prop :=
  ∀ (g' : Heap) (A : Around) (s : Shared) (σ σ' : PS), g.StaysIn g' → Room A d → PInv u g' [] s.heap σ → F σ = some σ' → codeAny (model u.prog u.w) A cd (Done u g' s σ') s
theorem Runs.keeps {u : U} {g g₁ : Heap} {cd : Code} {F : PS → Option PS} {d : Nat} (x : Runs u g cd F d) (k : g.StaysIn g₁) : Runs u g₁ cd F d :=
  fun g' A s σ σ' k' => x g' A s σ σ' fun b o e => k' b o (k b o e)
theorem Runs.less {u : U} {g : Heap} {cd : Code} {F : PS → Option PS} {d e : Nat} (x : Runs u g cd F d) (l : d ≤ e) : Runs u g cd F e :=
  fun g' A s σ σ' k R => x g' A s σ σ' k (R.less l)

def KeepOk (u : U) (g : Heap) (v : Value) : Prop := ∃ k, (k = Keeper.frame ∨ k = Keeper.machine ∨ k = Keeper.boundFrame) ∧ Looks (model u.prog u.w) g (keeperOf v) k
theorem KeepOk.keeps {u : U} {g g' : Heap} {v : Value} (x : KeepOk u g v) (k : g.StaysIn g') : KeepOk u g' v := let ⟨a, b, c⟩ := x; ⟨a, b, c.keeps k⟩

structure CallsTo (u : U) (g : Heap) (v : Value) (F : PS → Option PS) (d : Nat) : Prop where
  keep : KeepOk u g v
  runs : Runs u g (.call v ⟨[], []⟩) F d
theorem CallsTo.keeps {u : U} {g g' : Heap} {v : Value} {F : PS → Option PS} {d : Nat} (x : CallsTo u g v F d) (k : g.StaysIn g') : CallsTo u g' v F d := ⟨x.keep.keeps k, x.runs.keeps k⟩

inductive AllCalls (u : U) (g : Heap) (d : Nat) : List Value → List (PS → Option PS) → Prop
  | nil : AllCalls u g d [] []
  | cons {v F vs Fs} : CallsTo u g v F d → AllCalls u g d vs Fs → AllCalls u g d (v :: vs) (F :: Fs)
theorem AllCalls.keeps {u : U} {g g' : Heap} {d : Nat} {vs : List Value} {Fs : List (PS → Option PS)} (x : AllCalls u g d vs Fs) (k : g.StaysIn g') : AllCalls u g' d vs Fs := by
  induction x with
  | nil => exact .nil
  | cons h _ ih => exact .cons (h.keeps k) ih
theorem AllCalls.len {u : U} {g : Heap} {d : Nat} {vs : List Value} {Fs : List (PS → Option PS)} (x : AllCalls u g d vs Fs) : vs.length = Fs.length := by
  induction x with
  | nil => rfl
  | cons _ _ ih => simp [ih]

def Meth (u : U) (f : Addr) (F : PS → Option PS) (d : Nat) : Prop := ∀ g, Runs u g (.call (.ref f) ⟨[.ref u.c.x], []⟩) F d

/-- «self» in a frame -/
def SelfAt (u : U) (env : Env) (g : Heap) : Prop :=
  ∀ (A : Around) (Q : Value → Shared → Prop) (E : Value → Shared → Prop) (s : Shared) (pos : Pos), g.StaysIn s.heap → Q (.ref u.c.x) s → wpAny (model u.prog u.w) A (eval (.Name "self" pos) env) Q E s
theorem SelfAt.keeps {u : U} {env : Env} {g g' : Heap} (x : SelfAt u env g) (k : g.StaysIn g') : SelfAt u env g' := fun A Q E s pos k' => x A Q E s pos fun b o e => k' b o (k b o e)

/-- the class, as far as every attribute asks it -/
structure Kn (u : U) : Prop where
  ga : findIn u.K (.ref u.C) "__getattribute__" = some (some (.builtin "object.__getattribute__"))
  gA : findIn u.K (.ref u.C) "__getattr__" = some none
  hd : hasDictIn u.K u.C = true
  sa : findIn u.K (.ref u.C) "__setattr__" = some (some (.builtin "object.__setattr__"))
  po : plainOver u.K u.C = true
  tl : u.c.T.length ≤ 100000

structure MethAt (u : U) (name : Str) (f : Addr) : Prop where
  find : findIn u.K (.ref u.C) name = some (some (.ref f))
  fn : ∃ fd od sl, u.K.lookup f = some ⟨.type "function", od, .func fd, sl⟩
  cp : copiedNames.contains name = false

theorem fnGet : fastLookup "function" "__get__" = some (some (.builtin "function.__get__")) := by kernel_rfl
theorem fnSet : fastLookup "function" "__set__" = some none := by kernel_rfl
theorem fnDel : fastLookup "function" "__delete__" = some none := by kernel_rfl

section
variable {u : U} {name : Str} {f : Addr} {fd : FuncData}
theorem MethAt.ty (M : MethAt u name f) : typeIn u.K (.ref f) = some (.type "function") := by
  obtain ⟨fd, od, sl, e⟩ := M.fn
  show (u.K.lookup f).map (·.cls) = _
  rw [e]; rfl
theorem MethAt.get (M : MethAt u name f) : specialIn u.K (.ref f) "__get__" = some (some (.builtin "function.__get__")) := by
  unfold specialIn; rw [M.ty]; exact fnGet
theorem MethAt.takes (M : MethAt u name f) : takesIn u.K (.ref f) = some false := by
  have a : specialIn u.K (.ref f) "__set__" = some none := by unfold specialIn; rw [M.ty]; exact fnSet
  have b : specialIn u.K (.ref f) "__delete__" = some none := by unfold specialIn; rw [M.ty]; exact fnDel
  unfold takesIn
  rw [a]
  show (specialIn u.K (.ref f) "__delete__").map _ = _
  rw [b]; rfl
theorem MethAt.keepIn (M : MethAt u name f) : keepIn u.K (.ref f) = true := by
  obtain ⟨fd, od, sl, e⟩ := M.fn
  show (match u.K.lookup f with | some ⟨_, _, .func _, _⟩ => true | some ⟨_, _, .cls _, _⟩ => _ | _ => false) = true
  rw [e]
theorem MethAt.fnIn (M : MethAt u name f) : fnIn u.K f = true := by
  obtain ⟨fd, od, sl, e⟩ := M.fn
  unfold PySem.W.fnIn; rw [e]
end

section
variable {u : U} {A : Around} {E : Value → Shared → Prop} {s : Shared} {g : Heap} {N : List Addr} {σ : PS} {env : Env} {name : Str} {f : Addr} {fd : FuncData} {p1 p2 p3 p4 : Pos} {Q : Value → Shared → Prop}

theorem inst_of (I : PInv u g N s.heap σ) : ∃ v tp tq, σ.val.is v ∧ PySem.W.InstAt s.heap u.c.x (instObj u.C u.c.dx) u.C (some (dictOf (pdict u.w.params u.c v (.int σ.pos tp) (.bool σ.failed) (.int σ.err tq)) 10)) := by
  obtain ⟨W, O, _⟩ := I.own
  obtain ⟨v, tp, tq, hv, hd⟩ := O.dict
  exact ⟨v, tp, tq, hv, ⟨O.inst, rfl, rfl, hd⟩⟩

theorem fld {expr : Bool} (kn : Kn u) (I : PInv u g N s.heap σ) (hn : findIn u.K (.ref u.C) name = some none)
    (h : ∀ v tp tq, σ.val.is v → ∃ r, getL name (pdict u.w.params u.c v (.int σ.pos tp) (.bool σ.failed) (.int σ.err tq)) = some (some r) ∧ handedIn r = true ∧ Q r { s with toks := s.toks + 1 }) :
    wpAny (model u.prog u.w) A (getAttr (.ref u.c.x) name expr) Q E s := by
  obtain ⟨v, tp, tq, hv, J⟩ := inst_of I
  obtain ⟨r, h1, h2, h3⟩ := h v tp tq hv
  exact get_value I.K J kn.ga (findObj_own kn.hd hn rfl (by rw [lookIn_dict]; exact h1)) h2 h3

theorem bound {expr : Bool} (kn : Kn u) (M : MethAt u name f) (I : PInv u g N s.heap σ)
    (hl : ∀ v tp tq, getL name (pdict u.w.params u.c v (.int σ.pos tp) (.bool σ.failed) (.int σ.err tq)) = some none)
    (h : Q (.ref s.heap.objs.size) { s with heap := s.heap.push (methodObj (.ref f) (.ref u.c.x)), toks := s.toks + 1 }) :
    wpAny (model u.prog u.w) A (getAttr (.ref u.c.x) name expr) Q E s := by
  obtain ⟨v, tp, tq, hv, J⟩ := inst_of I
  exact get_bind I.K J kn.ga (findObj_fn kn.hd M.find M.get M.takes M.cp (by rw [lookIn_dict]; exact hl v tp tq)) kn.gA
    (wpAny_call (fn_get (s := { s with toks := s.toks + 1 }) I.K M.ty (handed_on rfl h)))

theorem meth_of {pl : Sem Bool} {Q : Value × List Value → Shared → Prop} (kn : Kn u) (M : MethAt u name f) (I : PInv u g N s.heap σ)
    (hl : ∀ v tp tq, getL name (pdict u.w.params u.c v (.int σ.pos tp) (.bool σ.failed) (.int σ.err tq)) = some none)
    (h : Q (.ref f, [.ref u.c.x]) s) : wpAny (model u.prog u.w) A (getMethod (.ref u.c.x) name pl) Q E s := by
  obtain ⟨v, tp, tq, hv, J⟩ := inst_of I
  refine method_fn I.K J kn.ga kn.gA M.find M.ty ?_ h
  show (lookIn name _).map _ = _
  rw [lookIn_dict, hl v tp tq]; rfl
end
end Mine

end

/- PB4 -/
section
open PySem PySem.W PyProof.Rows PySem.Calls
set_option Elab.async false
set_option maxRecDepth 100000
namespace Mine

theorem NotCode.ns {h : Heap} {a : Addr} {m : Str → Option Value} (x : h.Ns a m) : ∃ o, h.get? a = some o ∧ NotCode o := by
  obtain ⟨o, es, ep, e, hd, _⟩ := x
  exact ⟨o, e, fun vs q t d => by rw [hd] at d; cases d⟩

section
variable {u : U} {A : Around} {s : Shared} {g : Heap} {σ : PS} {R : Result → Shared → Prop} {f : Addr} {fd : FuncData} {args : Args} {body : List Stmt} {binds : List (Str × Value)} {d : Nat}

theorem enter_local (hf : ∃ od sl, u.K.lookup f = some ⟨.type "function", od, .func fd, sl⟩) (hb : fd.body = .stmts body) (hcd : codeIn u.K fd.code fd.qualname = true)
    (hbind : BindsTo s fd args binds) (hcell : ∀ x ∈ fd.scope.names, x.2 ≠ .cell) (hloc : ∀ x ∈ binds, fd.scope.names.lookup x.1 = some .local)
    (hco : fd.scope.isCoroutine = false) (hgen : fd.scope.isGenerator = false) (hk : fd.scope.kind = .function)
    (hR : Room A (d + 1)) (I : PInv u g [] s.heap σ)
    (h : ∀ L h₁, PInv u g [L] h₁ σ → Fr g L h₁ (fun y => binds.reverse.lookup y) →
      wpAny (model u.prog u.w) (A.deeper (callEnv fd L f)) (execs body (callEnv fd L f)) (fun fl s' => R (.ok (.ret (match fl with | .ret v => v | _ => .none))) s') (fun _ _ => False) { s with heap := h₁, toks := s.toks + binds.length }) :
    codeAny (model u.prog u.w) A (.call (.ref f) args) R s := by
  obtain ⟨od, sl, e⟩ := hf
  refine codeAny_call_def hR.dlt (I.K _ _ e) rfl I.T.nolimit (codeRec_of I.K hcd) hb hbind hcell hloc (fun h₁ hns hk₁ => ?_) hco hgen hk
  have hlt := hns.lt
  refine wpAny_mono (h s.heap.objs.size h₁ (I.priv I.sz (Heap.get?_none_of_le (Nat.le_refl _)) hk₁ (Nat.le_of_lt hlt) (let ⟨o, e, _⟩ := NotCode.ns hns; ⟨o, e⟩)) ⟨hns, fun b o e => hk₁ b o (I.st b o e), I.sz⟩) (fun _ _ x => x) fun _ _ x => x.elim

/-- a def of one parameter «self» that its lambdas close over -/
theorem enter_cell (hf : ∃ od sl, u.K.lookup f = some ⟨.type "function", od, .func fd, sl⟩) (hb : fd.body = .stmts body) (hcd : codeIn u.K fd.code fd.qualname = true)
    (hbind : BindsTo s fd args [(("self" : Str), .ref u.c.x)]) (hs : fd.scope.names.lookup ("self" : Str) = some .cell) (hcl : fd.closure = [])
    (hc : ∀ n, (cellsFrom n fd.scope.names []).lookup ("self" : Str) = some n)
    (hco : fd.scope.isCoroutine = false) (hgen : fd.scope.isGenerator = false) (hk : fd.scope.kind = .function)
    (hR : Room A (d + 1)) (I : PInv u g [] s.heap σ)
    (h : ∀ L g₁ h₁ tk, g.StaysIn g₁ → g.objs.size ≤ g₁.objs.size → PInv u g₁ [] h₁ σ → g₁.IsCell (L + 1) (some (.ref u.c.x)) →
      wpAny (model u.prog u.w) (A.deeper (callEnvC fd L f)) (execs body (callEnvC fd L f)) (fun fl s' => R (.ok (.ret (match fl with | .ret v => v | _ => .none))) s') (fun _ _ => False) { s with heap := h₁, toks := tk }) :
    codeAny (model u.prog u.w) A (.call (.ref f) args) R s := by
  obtain ⟨od, sl, e⟩ := hf
  refine codeAny_call_function hR.dlt (I.K _ _ e) rfl hco hgen hb (codeRec_of I.K hcd) (hbind _ _ _ _ ?_)
  rw [hcl]
  refine wpAny_newFunctionEnv_cells hk (fun x hx => ?_) fun env he s' x => ?_
  · rcases List.mem_singleton.mp hx with rfl
    exact .inr ⟨hs, by rw [hc]; rfl⟩
  · subst he
    obtain ⟨h₁, tk, rfl, hkeep⟩ := x.done
    have hkind : (newEnv fd.scope s.heap.objs.size fd.globals (cellsFrom (s.heap.objs.size + 1) fd.scope.names []) (fd.qualname ++ Str.ofString ".<locals>.") (some f) fd.code none fd.builtins).kindOf ("self" : Str) ≠ some .local := by
      show fd.scope.names.lookup ("self" : Str) ≠ _
      rw [hs]; intro q; cases q
    have hcv := x.cell ("self" : Str) (s.heap.objs.size + 1) (hc _)
    have hcv' : h₁.IsCell (s.heap.objs.size + 1) (some (.ref u.c.x)) := by
      simp only [bindC, if_neg hkind] at hcv
      simpa using hcv
    have hlt : s.heap.objs.size < h₁.objs.size := x.toInCall.ns.lt
    refine ⟨I.T.nolimit.keeps hkeep, codeAny_func ?_⟩
    obtain ⟨oc, eoc, doc⟩ := hcv'
    have I1 := I.priv (a := s.heap.objs.size + 1) (Nat.le_succ_of_le I.sz) (Heap.get?_none_of_le (Nat.le_succ _)) hkeep (Nat.le_of_lt hlt) ⟨oc, eoc⟩
    obtain ⟨g₁, J, st, zz, al, _, back, _⟩ := I1.freeze'
    exact wpAny_mono (h s.heap.objs.size g₁ h₁ tk st (by rw [zz]; exact Nat.le_trans I.sz (Nat.le_of_lt hlt)) J ⟨oc, al _ (List.mem_singleton.mpr rfl) _ eoc, doc⟩) (fun _ _ x => x) fun _ _ x => x.elim
end

/-! the evaluations -/
def EvalC (u : U) (e : Expr) (env : Env) (g₀ : Heap) (F : PS → Option PS) (d : Nat) : Prop :=
  ∀ (A : Around) (s : Shared) (σ σ' : PS) (Q : Value → Shared → Prop) (E : Value → Shared → Prop) (g : Heap), g₀.StaysIn g → Room A d → PInv u g [] s.heap σ → F σ = some σ' →
    (∀ h' tk', PInv u g [] h' σ' → Q .none { s with heap := h', toks := tk' }) → wpAny (model u.prog u.w) A (eval e env) Q E s

/-- an argument: P is what is known of its value, at every later base -/
structure EvalA (u : U) (e : Expr) (env : Env) (g₀ : Heap) (P : Heap → Value → Prop) : Prop where
  plain : ∀ rest, starEach (e :: rest) env = (false, eval e env) :: starEach rest env
  mono : ∀ g g' v, g.StaysIn g' → P g v → P g' v
  ev : ∀ (A : Around) (s : Shared) (σ : PS) (Q : Value → Shared → Prop) (E : Value → Shared → Prop) (g : Heap), g₀.StaysIn g → A.handled = none → PInv u g [] s.heap σ →
    (∀ v g' h' tk', g.StaysIn g' → g.objs.size ≤ g'.objs.size → PInv u g' [] h' σ → P g' v → Q v { s with heap := h', toks := tk' }) → wpAny (model u.prog u.w) A (eval e env) Q E s

inductive AllP (g : Heap) : List (Heap → Value → Prop) → List Value → Prop
  | nil : AllP g [] []
  | cons {P Ps v vs} : P g v → AllP g Ps vs → AllP g (P :: Ps) (v :: vs)

inductive EvalAs (u : U) (env : Env) (g₀ : Heap) : List Expr → List (Heap → Value → Prop) → Prop
  | nil : EvalAs u env g₀ [] []
  | cons {e es P Ps} : EvalA u e env g₀ P → EvalAs u env g₀ es Ps → EvalAs u env g₀ (e :: es) (P :: Ps)

section
variable {u : U} {env : Env} {g₀ : Heap}

theorem EvalAs.run {es : List Expr} {Ps : List (Heap → Value → Prop)} (x : EvalAs u env g₀ es Ps) :
    ∀ {A : Around} {s : Shared} {σ : PS} {Q : List Value → Shared → Prop} {E : Value → Shared → Prop} {g : Heap} {pos : Pos}, g₀.StaysIn g → A.handled = none → PInv u g [] s.heap σ →
      (∀ vs g' h' tk', g.StaysIn g' → g.objs.size ≤ g'.objs.size → PInv u g' [] h' σ → AllP g' Ps vs → Q vs { s with heap := h', toks := tk' }) →
      wpAny (model u.prog u.w) A (spliced (backTo pos (starEach es env))) Q E s := by
  induction x with
  | nil => intro A s σ Q E g pos st hh I h; exact spliced_none (h [] g s.heap s.toks (fun _ _ e => e) (Nat.le_refl _) I .nil)
  | cons X _ ih =>
    intro A s σ Q E g pos st hh I h
    refine spliced_more (X.ev A s σ _ E g st hh I fun v g' h' tk' st' z' I' hP => ?_) (X.plain _)
    refine ih (fun b o e => st' b o (st b o e)) hh I' fun vs g'' h'' tk'' st'' z'' I'' hPs => ?_
    exact h (v :: vs) g'' h'' tk'' (fun b o e => st'' b o (st' b o e)) (Nat.le_trans z' z'') I'' (.cons (X.mono _ _ _ st'' hP) hPs)

theorem spliced_any (pos : Pos) : ∀ {es : List Expr} {Ps : List (Heap → Value → Prop)}, EvalAs u env g₀ es Ps → (backTo pos (starEach es env)).any (·.1) = false
  | _, _, .nil => rfl
  | _, _, .cons X r => by
    rw [X.plain]
    show (false || (backTo pos (starEach _ env)).any (·.1)) = false
    rw [spliced_any pos r]; rfl

/-- a call on self -/
theorem ec_self {name : Str} {f : Addr} {e : Expr} {es : List Expr} {Ps : List (Heap → Value → Prop)} {F : PS → Option PS} {d : Nat} {p1 p2 p3 : Pos} (kn : Kn u) (M : MethAt u name f)
    (hl : ∀ v p f' e', getL name (pdict u.w.params u.c v p f' e') = some none) (S : SelfAt u env g₀) (X : EvalAs u env g₀ (e :: es) Ps)
    (hr : ∀ g vs, g₀.StaysIn g → AllP g Ps vs → Runs u g (.call (.ref f) ⟨.ref u.c.x :: vs, []⟩) F d) {pl : Sem Bool}
    (he : eval (.Call (.Attribute (.Name "self" p1) name p2) (e :: es) [] p3) env = (do
      let ov ← eval (.Name "self" p1) env
      standAt p2.atName
      let (f, first) ← holding [ov] (getMethod ov name pl)
      callWith p3 f first (backTo p3 (starEach (e :: es) env)) []) := by rfl) :
    EvalC u (.Call (.Attribute (.Name "self" p1) name p2) (e :: es) [] p3) env g₀ F d := by
  intro A s σ σ' Q E g st hR I hF hQ
  refine MethodCall_ (pl := pl) (S A _ E s p1 (fun b o e => I.st b o (st b o e)) ?_) he
  refine meth_of kn M I (fun v tp tq => hl _ _ _ _) ?_
  have X' := X
  cases X' with | cons X1 _ =>
  refine callWith_K (h₀ := s.heap) I.K M.keepIn ?_ (X1.plain _) ?_
  · refine X.run st hR.hd I fun vs g' h' tk' st' z' I' hP => ⟨I'.K, wpAny_call ?_⟩
    refine codeAny_mono (hr g' vs (fun b o e => st' b o (st b o e)) hP g' A { s with heap := h', toks := tk' } σ σ' (fun _ _ e => e) hR I' hF) fun r s' hd => ?_
    obtain ⟨rfl, h'', tk'', rfl, J⟩ := hd
    exact hQ h'' tk'' (J.mono st' z' I.b)
  · have := spliced_any p3 X
    rw [X1.plain] at this
    simpa [backTo] using this
end

section
variable {u : U} {env : Env} {g₀ : Heap}
/-- a written str -/
theorem ea_str {x : Str} {k : Nat} {p : Pos} : EvalA u (.Constant (.str x) k p) env g₀ (fun _ v => ∃ t, v = .str x t) where
  plain := fun _ => rfl
  mono := fun _ _ _ _ h => h
  ev := fun A s σ Q E g _ _ I h => Constant_str (h _ g s.heap _ (fun _ _ e => e) (Nat.le_refl _) I ⟨_, rfl⟩)

/-- a rule as an argument -/
def IsRule (u : U) (F : PS → Option PS) (d : Nat) (g : Heap) (v : Value) : Prop := CallsTo u g v F d

theorem ea_attr {name : Str} {f : Addr} {F : PS → Option PS} {d : Nat} {p1 p2 : Pos} (kn : Kn u) (M : MethAt u name f)
    (hl : ∀ v p f' e', getL name (pdict u.w.params u.c v p f' e') = some none) (S : SelfAt u env g₀) (hm : Meth u f F d) :
    EvalA u (.Attribute (.Name "self" p1) name p2) env g₀ (IsRule u F d) where
  plain := fun _ => rfl
  mono := fun _ _ _ k h => h.keeps k
  ev := fun A s σ Q E g st hh I h => by
    refine Attribute_any_ (S A _ E s p1 (fun b o e => I.st b o (st b o e)) ?_)
    refine bound kn M I (fun v tp tq => hl _ _ _ _) ?_
    have I1 := I.priv (a := s.heap.objs.size) I.sz (Heap.get?_none_of_le (Nat.le_refl _)) (fun b o e => Heap.get?_push_of_some (methodObj (.ref f) (.ref u.c.x)) e) (by rw [Heap.size_push]; omega) ⟨_, Heap.get?_push_size _ rfl⟩
    obtain ⟨g₁, J, st₁, zz, al, _, _, _⟩ := I1.freeze'
    have hq : g₁.get? s.heap.objs.size = some (methodObj (.ref f) (.ref u.c.x)) := al _ (List.mem_singleton.mpr rfl) _ (Heap.get?_push_size _ rfl)
    refine h _ g₁ _ _ st₁ (by rw [zz, Heap.size_push]; exact Nat.le_succ_of_le I.sz) J ⟨keeps_M M.fnIn _ ⟨hq, J.b.k⟩, ?_⟩
    intro g' A' s' σ₁ σ₂ k R' I' hF
    exact method_call (I'.st _ _ (k _ _ hq)) (hm g' g' A' s' σ₁ σ₂ (fun _ _ e => e) R' I' hF)

/-- a list of rules -/
def IsRules (u : U) (Fs : List (PS → Option PS)) (d : Nat) (g : Heap) (v : Value) : Prop := ∃ l vs, v = .ref l ∧ g.IsList l (List.toArray vs) ∧ AllCalls u g d vs Fs

theorem allRules {d : Nat} {g : Heap} : ∀ {Fs : List (PS → Option PS)} {vs : List Value}, AllP g (Fs.map fun F => IsRule u F d) vs → AllCalls u g d vs Fs
  | [], _, x => by cases x; exact .nil
  | _ :: _, _, x => by cases x with | cons h r => exact .cons h (allRules r)
theorem ea_list {elts : List Expr} {Fs : List (PS → Option PS)} {d : Nat} {p : Pos} (X : EvalAs u env g₀ elts (Fs.map fun F => IsRule u F d)) (hz : Fs.length ≤ 1000) :
    EvalA u (.List elts p) env g₀ (IsRules u Fs d) where
  plain := fun _ => rfl
  mono := fun _ _ _ k h => let ⟨l, vs, e, ⟨o, ho, r⟩, hc⟩ := h; ⟨l, vs, e, ⟨o, k _ _ ho, r⟩, hc.keeps k⟩
  ev := fun A s σ Q E g st hh I h => by
    refine List_ (X.run st hh I fun vs g' h' tk' st' z' I' hP => ?_)
    have hc := allRules hP
    refine wpAny_newList ?_ (by rw [hc.len, sizeLine_eq]; omega)
    have I1 := I'.priv (a := h'.objs.size) I'.sz (Heap.get?_none_of_le (Nat.le_refl _)) (fun b o e => Heap.get?_push_of_some { cls := .type "list", data := .seq vs.toArray } e) (by rw [Heap.size_push]; omega) ⟨_, Heap.get?_push_size _ rfl⟩
    obtain ⟨g₁, J, st₁, zz, al, _, _, _⟩ := I1.freeze'
    refine h _ g₁ _ _ (fun b o e => st₁ b o (st' b o e)) (by rw [zz, Heap.size_push]; exact Nat.le_succ_of_le (Nat.le_trans z' I'.sz)) J ⟨_, vs, rfl, ⟨_, al _ (List.mem_singleton.mpr rfl) _ (Heap.get?_push_size _ rfl), rfl, _, rfl⟩, hc.keeps st₁⟩
end
end Mine

end

/- PB5 -/
section
open PySem PySem.W PyProof.Rows PySem.Calls
set_option Elab.async false
set_option maxRecDepth 100000
namespace Mine

theorem among_app {pos : Pos} {c : Value} (a b : Int) : ∀ l : List Value, TriplesOk l →
    codeAmong pos (l ++ [rawInt a, rawInt b, c]) = (codeAmong pos l).or (if a == pos.line && b == pos.col then some c else none) := by
  intro l h
  fun_induction TriplesOk l with
  | case1 => simp [codeAmong, rawInt]
  | case2 a' t b' u' x rest ih =>
    simp only [List.cons_append, codeAmong]
    split
    · rfl
    · exact ih h
  | case3 l h1 h2 => exact h.elim

section
variable {u : U} {h : Heap} {σ : PS} {W : Wit}
theorem scs_cls {prog : Program} {w : World} {ts ds : List Addr} {r : List Sc} (x : ScsAt prog w h ts ds r) : ∀ a, a ∈ ts ∨ a ∈ ds → ∃ o, h.get? a = some o ∧ o.cls ≠ .none := by
  induction x with
  | nil => intro a ha; rcases ha with ha | ha <;> cases ha
  | cons h1 h2 h3 _ ih =>
    intro a ha
    rcases ha with ha | ha
    · rcases List.mem_cons.mp ha with rfl | ha
      · exact ⟨_, h1, fun q => by cases q⟩
      · exact ih a (.inl ha)
    · rcases List.mem_cons.mp ha with rfl | ha
      · refine ⟨_, h2, fun q => ?_⟩
        have h4 := h3
        unfold Obj.IsDictOf at h4
        obtain ⟨es, ep, e, _⟩ := h4
        rw [e.1] at q; cases q
      · exact ih a (.inr ha)

theorem Own.other (O : Own u.prog u.w u.C u.c u.tabs h σ W) : ∀ a, a = u.c.x ∨ a = u.c.dx ∨ a = u.c.l ∨ a ∈ W.ts ∨ a ∈ W.ds → ∃ o, h.get? a = some o ∧ o.cls ≠ .none := by
  intro a ha
  rcases ha with rfl | rfl | rfl | m | m
  · exact ⟨_, O.inst, fun q => by cases q⟩
  · obtain ⟨v, tp, tq, _, e⟩ := O.dict; exact ⟨_, e, fun q => by cases q⟩
  · obtain ⟨n, e⟩ := O.scs; exact ⟨_, e, fun q => by cases q⟩
  · exact scs_cls O.sc a (.inl m)
  · exact scs_cls O.sc a (.inr m)

/-- a code table grown by one code -/
theorem Own.grown (O : Own u.prog u.w u.C u.c u.tabs h σ W) (tf : ∀ q ∈ u.tabs, ∀ r ∈ u.tabs, q.2.1 = r.2.1 → q.2.2 = r.2.2) {t : Addr × Addr × Str} (ht : t ∈ u.tabs) {h' : Heap} {ps : Array Value} {c' : Addr} {a b : Nat}
    (hP : h.get? t.2.1 = some (tabObj ps)) (hx : Heap.ExtBut t.2.1 h h') (hge : h.objs.size ≤ c') (hrec : h'.CodeRec (.ref c') t.2.2)
    (htb : h'.get? t.2.1 = some (tabObj (ps ++ #[rawInt a, rawInt b, .ref c']))) : Own u.prog u.w u.C u.c u.tabs h' σ { W with cs := c' :: W.cs } := by
  have kf : ∀ x, x = u.c.x ∨ x = u.c.dx ∨ x = u.c.l ∨ x ∈ W.ts ∨ x ∈ W.ds → ∀ o, h.get? x = some o → h'.get? x = some o := fun x m o e => hx x o (fun q => by
    obtain ⟨o', e', hn⟩ := O.other x m
    rw [q, hP] at e'; cases e'; exact hn rfl) e
  refine ⟨kf _ (.inl rfl) _ O.inst, ?_, ?_, ?_, ?_, O.dxd, O.nd, O.hi, ?_⟩
  · obtain ⟨v, tp, tq, h1, h2⟩ := O.dict; exact ⟨v, tp, tq, h1, kf _ (.inr (.inl rfl)) _ h2⟩
  · obtain ⟨n, h1⟩ := O.scs; exact ⟨n, kf _ (.inr (.inr (.inl rfl))) _ h1⟩
  · exact O.sc.keep fun x m => kf x (m.elim (fun m => .inr (.inr (.inr (.inl m)))) fun m => .inr (.inr (.inr (.inr m))))
  · intro q hq
    have old : ∀ x ∈ W.cs, ∀ o, h.get? x = some o → h'.get? x = some o := fun x m o e => hx x o (fun q2 => O.apart x m (q2 ▸ tab_in ht)) e
    by_cases e : q.2.1 = t.2.1
    · obtain ⟨ps', e1, e2, e3⟩ := O.tab q hq
      rw [e, hP] at e1
      have e4 : ps = ps' := by injection e1 with e1; injection e1 with _ _ e1 _; injection e1
      subst e4
      refine ⟨_, by rw [e]; exact htb, ?_, fun pos cv e5 => ?_⟩
      · rw [Array.toList_append]; exact TriplesOk_snoc _ _ _ _ e2
      · rw [Array.toList_append] at e5
        have e6 := among_app (pos := pos) (c := Value.ref c') (a : Int) (b : Int) ps.toList e2
        rw [show codeAmong pos (ps.toList ++ (#[rawInt (a : Int), rawInt (b : Int), Value.ref c'] : Array Value).toList) = _ from e6] at e5
        cases hq2 : codeAmong pos ps.toList with
        | some v =>
          rw [hq2] at e5
          have e7 : v = cv := by simpa using e5
          subst e7
          obtain ⟨x, m, r1, r2⟩ := e3 pos v hq2
          exact ⟨x, .tail _ m, r1, codeRec_keep r2 r1 (old x m)⟩
        | none =>
          rw [hq2] at e5
          have e7 : cv = .ref c' := by
            simp only [Option.none_or] at e5
            split at e5
            · cases e5; rfl
            · cases e5
          exact ⟨c', .head _, e7, by rw [e7, tf q hq t ht e]; exact hrec⟩
    · obtain ⟨ps', e1, e2, e3⟩ := O.tab q hq
      refine ⟨ps', hx _ _ e e1, e2, fun pos cv e5 => ?_⟩
      obtain ⟨x, m, r1, r2⟩ := e3 pos cv e5
      exact ⟨x, .tail _ m, r1, codeRec_keep r2 r1 (old x m)⟩
  · intro x m
    have hfoot : foot u.c u.tabs { W with cs := c' :: W.cs } = foot u.c u.tabs W := rfl
    rw [hfoot]
    rcases List.mem_cons.mp m with rfl | m
    · intro m2
      obtain ⟨o, e⟩ := O.alive _ m2
      exact absurd (Heap.lt_size e) (Nat.not_lt.mpr hge)
    · exact O.apart x m
end
end Mine

end

/- PB6 -/
section
open PySem PySem.W PyProof.Rows PySem.Calls
set_option Elab.async false
set_option maxRecDepth 100000
namespace Mine

abbrev noParams : Arguments := ⟨[], [], none, [], [], none, []⟩

theorem closure_self {scope : Scope} {env : Env} {c : Addr} (hn : scope.names = [(("self" : Str), .free)]) (hc : env.cells.lookup ("self" : Str) = some c) : closureFor scope env = pure [(("self" : Str), c)] := by
  unfold closureFor cellOf
  rw [hn]
  dsimp only
  rw [List.forIn_cons]
  dsimp only
  rw [hc]
  rfl

section
variable {u : U} {env : Env} {g₀ : Heap}

theorem selfFree {fd : FuncData} {L q c : Addr} {g : Heap} (hk : fd.scope.kind = .function) (hn : fd.scope.names.lookup ("self" : Str) = some .free) (hc : fd.closure.lookup ("self" : Str) = some c) (hv : g.IsCell c (some (.ref u.c.x))) : SelfAt u (callEnv fd L q) g :=
  fun A Q E s pos k h => wpAny_Name (wpAny_loadName_free (env := callEnv fd L q) hk hn hc (hv.keeps k) h) (by decide)
theorem selfCell {fd : FuncData} {L q : Addr} {c : Addr} {g : Heap} (hk : fd.scope.kind = .function) (hn : fd.scope.names.lookup ("self" : Str) = some .cell) (hc : (cellsFrom (L + 1) fd.scope.names []).lookup ("self" : Str) = some c) (hv : g.IsCell c (some (.ref u.c.x))) : SelfAt u (callEnvC fd L q) g :=
  fun A Q E s pos k h => wpAny_Name (wpAny_loadName_cell (env := callEnvC fd L q) hk hn hc (hv.keeps k) h) (by decide)
theorem selfLocal {fd : FuncData} {L q : Addr} {g : Heap} {m : Str → Option Value} (hk : fd.scope.kind = .function) (hn : fd.scope.names.lookup ("self" : Str) = some .local) (hv : g.Ns L m) (hm : m "self" = some (.ref u.c.x)) : SelfAt u (callEnv fd L q) g :=
  fun A Q E s pos k h => wpAny_Name (wpAny_loadName_local (env := callEnv fd L q) hk hn (hv.keeps k) hm h) (by decide)

theorem ea_lam {body : Expr} {scope : Scope} {pos : Pos} {c0 P : Addr} {qn : Str} {F : PS → Option PS} {d : Nat} {c : Addr}
    (tf : ∀ q ∈ u.tabs, ∀ r ∈ u.tabs, q.2.1 = r.2.1 → q.2.2 = r.2.2)
    (hcode : env.code = .ref c0) (ht : (c0, P, qn) ∈ u.tabs) (hq : env.qual ++ ("<lambda>" : Str) = qn) (hglob : env.globals = mainGlobals)
    (hn : scope.names = [(("self" : Str), .free)]) (hk : scope.kind = .function) (hco : scope.isCoroutine = false) (hgen : scope.isGenerator = false)
    (hc : env.cells.lookup ("self" : Str) = some c) (hcell : g₀.IsCell c (some (.ref u.c.x)))
    (hb : ∀ pm cdv ct L q g, g.IsCell c (some (.ref u.c.x)) → SelfAt u (callEnv (kla_fn "<lambda>" qn noParams body scope [(("self" : Str), c)] pm cdv ct) L q) g →
      EvalC u body (callEnv (kla_fn "<lambda>" qn noParams body scope [(("self" : Str), c)] pm cdv ct) L q) g F d) :
    EvalA u (.Lambda noParams body scope pos) env g₀ (IsRule u F (d + 1)) where
  plain := fun _ => rfl
  mono := fun _ _ _ k h => h.keeps k
  ev := fun A s σ Q E g st hh I h => by
    refine kla_eval (env := env) (by rfl) ?_
    rw [hq]
    obtain ⟨W, O, f⟩ := I.own
    obtain ⟨ps, hP, htr, hcs⟩ := O.tab _ ht
    have hcl := closure_self hn hc
    have T := I.T
    obtain ⟨bm, ob, b1, b2, b3, b4, b5, b6⟩ := T.bmain
    have hgP : mainGlobals ≠ P := fun q => by
      obtain ⟨o, es, ep, e, hd, _⟩ := T.g
      rw [q, show s.heap.get? P = _ from hP] at e; cases e; cases hd
    have hbP : bm ≠ P := fun q => by
      rw [q, show s.heap.get? P = _ from hP] at b3; cases b3; cases b4
    have hbG : bm ≠ mainGlobals := fun q => by
      obtain ⟨o, es, ep, e, hd, _⟩ := T.g
      rw [q, e] at b3; cases b3; rw [hd] at b6; cases b6
    have hB : s.heap.BuiltinsAt u.mg P := ⟨bm, ob, b1, b2, hbG, hbP, b3, b4, b5, b6⟩
    have C : CodeHd s.heap c0 P := (I.b.cd _ ht).keeps I.st
    have hcellS : s.heap.IsCell c (some (.ref u.c.x)) := hcell.keeps fun b o e => I.st b o (st b o e)
    -- a made function object, frozen
    have fin : ∀ (h₁ : Heap) (tk : Tok) (cdv ctv : Value), PInv u g [] h₁ σ → s.heap.objs.size ≤ h₁.objs.size → h₁.CodeRec cdv qn →
        Q (.ref h₁.objs.size) { s with heap := h₁.push { cls := .type "function", data := .func (kla_fn "<lambda>" qn noParams body scope [(("self" : Str), c)] ((u.mg "__name__").getD .none) cdv ctv) }, toks := tk } := by
      intro h₁ tk cdv ctv I₁ z hrec
      have I2 := I₁.priv (a := h₁.objs.size) I₁.sz (Heap.get?_none_of_le (Nat.le_refl _)) (fun b o e => Heap.get?_push_of_some { cls := .type "function", data := .func (kla_fn "<lambda>" qn noParams body scope [(("self" : Str), c)] ((u.mg "__name__").getD .none) cdv ctv) } e) (by rw [Heap.size_push]; omega) ⟨_, Heap.get?_push_size _ rfl⟩
      obtain ⟨g₁, J, st₁, zz, al, _, _, cr⟩ := I2.freeze'
      have hf : g₁.get? h₁.objs.size = _ := al _ (List.mem_singleton.mpr rfl) _ (Heap.get?_push_size _ rfl)
      have hrec₁ : g₁.CodeRec cdv qn := cr _ _ (by
        obtain ⟨x, o, vs, t, e1, e2, e3, e4⟩ := hrec
        exact ⟨x, o, vs, t, e1, Heap.get?_push_of_some _ e2, e3, e4⟩)
      have hcell₁ : g₁.IsCell c (some (.ref u.c.x)) := hcell.keeps fun b o e => st₁ b o (st b o e)
      refine h _ g₁ _ _ st₁ (by rw [zz, Heap.size_push]; have := I.sz; omega) J ⟨⟨.frame, .inl rfl, (Looks.ld (part := none) hf).andThen .now⟩, ?_⟩
      intro g' A' s' σ₁ σ₂ k R' I' hF
      have up : g₁.StaysIn s'.heap := fun b o e => I'.st b o (k b o e)
      refine kla_callFunE (fd := kla_fn "<lambda>" qn noParams body scope [(("self" : Str), c)] ((u.mg "__name__").getD .none) cdv ctv) R'.dlt (up _ _ hf) rfl hco hgen rfl (by
        obtain ⟨x, o, vs, t, e1, e2, e3, e4⟩ := hrec₁
        exact ⟨x, o, vs, t, e1, up _ _ e2, e3, e4⟩) ?_
      rw [show bindArgs (kla_fn "<lambda>" qn noParams body scope [(("self" : Str), c)] ((u.mg "__name__").getD .none) cdv ctv) ⟨[], []⟩ = pure [] from rfl]
      refine wpAny_pure (wpAny_newFunctionEnv (by show ∀ x ∈ scope.names, _; rw [hn]; intro x hx; rcases List.mem_singleton.mp hx with rfl; intro q; cases q) (fun x hx => nomatch hx) (fun h₂ hns hsb => ⟨I'.T.nolimit.fresh _ hsb, ?_⟩) hk)
      have hk₂ : ∀ b o, s'.heap.get? b = some o → h₂.get? b = some o := fun b o e => hsb.extBut b o (Nat.ne_of_lt (Heap.lt_size e)) (Heap.get?_push_of_some _ e)
      refine kla_codeExpr ?_
      refine hb _ _ _ _ _ g' (hcell₁.keeps k) (selfFree hk (by show scope.names.lookup _ = _; rw [hn]; rfl) rfl (hcell₁.keeps k)) (A'.deeper _) _ σ₁ σ₂ _ _ g' (fun _ _ e => e) R'.deeper (I'.ext hk₂ (Nat.le_of_lt hns.lt)) hF fun h' tk' J' => ?_
      exact ⟨rfl, h', tk', rfl, J'⟩
    cases hca : codeAmong pos ps.toList with
    | some cv =>
      obtain ⟨x, m, rfl, hrec⟩ := hcs pos cv hca
      refine kla_makeFunctionHit (mg := u.mg) hcl hglob T.g hcode C hP htr hca hB fun ctv h' tk hk' z => ?_
      exact fin h' tk _ ctv (I.ext hk' z) z (by
        obtain ⟨x, o, vs, t, e1, e2, e3, e4⟩ := hrec
        exact ⟨x, o, vs, t, e1, hk' _ _ e2, e3, e4⟩)
    | none =>
      refine kla_makeFunction (mg := u.mg) hcl hglob T.g hcode C hP htr hca hgP hB fun c' ctv h' tk hx hge hlt hrec htb => ?_
      refine fin h' tk _ ctv ?_ (Nat.le_trans hge (Nat.le_of_lt hlt)) hrec
      refine ⟨I.b, fun b o e => hx b o (fun q => ?_) (I.st b o e), Nat.le_trans I.sz (Nat.le_trans hge (Nat.le_of_lt hlt)), (fun a ha => nomatch ha), (fun a ha => nomatch ha), _, O.grown tf ht hP hx hge hrec htb, fun a ha => f a ha⟩
      rw [q, (f P (tab_in ht)).1] at e; cases e
end
end Mine

end

/- PB7 -/
section
open PySem PySem.W PyProof.Rows PySem.Calls
set_option Elab.async false
set_option maxRecDepth 100000
namespace Mine

/-! the pure parser -/
def charAt (T : Str) (i : Nat) : Option Str := T.cps[i]?.map fun c => ⟨#[c]⟩
def PS.succ (σ : PS) (v : PV) (np : Option Nat) : PS := { σ with val := v, failed := false, pos := np.getD σ.pos }
def PS.fail (σ : PS) : PS := { σ with val := .none, failed := true, err := max σ.err σ.pos }
def PS.rewind (σ : PS) (p : Nat) : PS := σ.succ .none (some p)

def chP (T : Str) (x : Str) (σ : PS) : PS := if charAt T σ.pos = some x then σ.succ (.str x) (some (σ.pos + 1)) else σ.fail
def chF (T : Str) (x : Str) : PS → Option PS := fun σ => some (chP T x σ)
def strGo (T x : Str) : List Nat → PS → PS
  | [], σ => { σ with val := .str x }
  | c :: r, σ => let σ' := chP T ⟨#[c]⟩ σ; if σ'.failed then σ' else strGo T x r σ'
def strF (T x : Str) : PS → Option PS := fun σ => some (strGo T x x.cps.toList σ)
def seqF : List (PS → Option PS) → PS → Option PS
  | [], σ => some σ
  | F :: r, σ => (F σ).bind fun σ' => if σ'.failed then some σ' else seqF r σ'
def chooseGo (p : Nat) : List (PS → Option PS) → PS → Option PS
  | [], _ => none
  | [F], σ => F σ
  | F :: G :: r, σ => (F σ).bind fun σ' => if σ'.failed then chooseGo p (G :: r) (σ'.rewind p) else some σ'
def chooseF (Fs : List (PS → Option PS)) : PS → Option PS := fun σ => chooseGo σ.pos Fs σ
def notF (F : PS → Option PS) : PS → Option PS := fun σ => (F σ).bind fun σ' =>
  if σ'.failed then some (σ'.succ .none (some σ.pos)) else some ({ σ'.rewind σ.pos with err := σ.err }).fail
def starGo (F : PS → Option PS) : Nat → PS → Option PS
  | 0, _ => none
  | n + 1, σ => (F σ).bind fun σ' => if σ'.failed then some ((σ'.rewind σ.pos).succ .any none) else starGo F n σ'
def starF (F : PS → Option PS) : PS → Option PS := starGo F 400
def anyP (T : Str) (σ : PS) : PS := match charAt T σ.pos with
  | some x => σ.succ (.str x) (some (σ.pos + 1))
  | none => σ.fail
def anyF (T : Str) : PS → Option PS := fun σ => some (anyP T σ)
def rangeF (T : Str) (i j : Nat) : PS → Option PS := fun σ => if T.length < σ.pos then none else match T.cps[σ.pos]? with
  | some c => if i ≤ c ∧ c ≤ j then some (σ.succ (.str ⟨#[c]⟩) (some (σ.pos + 1))) else some σ.fail
  | none => some σ.fail
/-- a binding that succeeds: only a str under «x», once, in the scope on top -/
def bindF (F : PS → Option PS) (var : Str) : PS → Option PS := fun σ => (F σ).bind fun σ' =>
  if σ'.failed then some σ' else match σ'.val, σ'.sc with
    | .str x, sc :: r => if var = "x" ∧ sc.xv = none then some { σ' with sc := { sc with xv := some x } :: r } else none
    | _, _ => none
def scopedF (name : Str) (F : PS → Option PS) : PS → Option PS := fun σ => (F { σ with sc := ⟨name, none⟩ :: σ.sc }).bind fun σ' => match σ'.sc with
  | sc :: r => if sc.name = name then some { σ' with sc := r } else none
  | [] => none
def noF : PS → Option PS := fun _ => none
end Mine

end

/- PB8 -/
section
open PySem PySem.W PyProof.Rows PySem.Calls
set_option Elab.async false
set_option maxRecDepth 100000
namespace Mine

/-- everything that stands, but the base, one frame and one object -/
noncomputable def restOf (g h : Heap) (L d : Addr) : List (Addr × Obj) :=
  (List.range h.objs.size).filterMap fun a => if a = d ∨ a = L ∨ (g.get? a).isSome = true then none else (h.get? a).map fun o => (a, o)
theorem mem_restOf {g h : Heap} {L d : Addr} {p : Addr × Obj} : p ∈ restOf g h L d ↔ h.get? p.1 = some p.2 ∧ p.1 ≠ d ∧ p.1 ≠ L ∧ g.get? p.1 = none := by
  obtain ⟨a, o⟩ := p
  simp only [restOf, List.mem_filterMap, List.mem_range]
  constructor
  · rintro ⟨b, hb, e⟩
    split at e
    · cases e
    · rename_i hn
      obtain ⟨o', e1, e2⟩ := Option.map_eq_some_iff.mp e
      cases e2
      refine ⟨e1, fun q => hn (.inl q), fun q => hn (.inr (.inl q)), ?_⟩
      cases q : g.get? a with
      | none => rfl
      | some _ => exact absurd (.inr (.inr (by rw [q]; rfl))) hn
  · rintro ⟨e, h1, h2, h3⟩
    refine ⟨a, Heap.lt_size e, ?_⟩
    rw [if_neg (by rintro (q | q | q); exact h1 q; exact h2 q; rw [h3] at q; cases q), e]; rfl

theorem all_news {g h : Heap} {L d : Addr} {o : Obj} {m : Str → Option Value} (F : Fr g L h m) (e : h.get? d = some o) (hd : g.get? d = none) (hL : d ≠ L) : News g L h ((d, o) :: restOf g h L d) := by
  intro p hp
  rcases List.mem_cons.mp hp with rfl | hp
  · exact ⟨e, hL, hd⟩
  · obtain ⟨h1, h2, h3, h4⟩ := mem_restOf.mp hp
    exact ⟨h1, h3, h4⟩
theorem of_news {g h h' : Heap} {L d : Addr} {o : Obj} {m : Str → Option Value} (F' : Fr g L h' m) (N' : News g L h' ((d, o) :: restOf g h L d)) (st : g.StaysIn h) :
    h'.get? d = some o ∧ ∀ b, b ≠ d → b ≠ L → ∀ o', h.get? b = some o' → h'.get? b = some o' := by
  refine ⟨(N' _ (.head _)).1, fun b h1 h2 o' e => ?_⟩
  cases q : g.get? b with
  | some o2 => have := st _ _ q; rw [e] at this; cases this; exact F'.keep _ _ q
  | none => exact (N' (b, o') (.tail _ (mem_restOf.mpr ⟨e, h1, h2, q⟩))).1

section
variable {prog : Program} {w : World} {C : Addr} {c : Cx} {tabs : Tabs} {h h' : Heap} {σ σ' : PS} {W : Wit}
theorem Own.setDict2 (O : Own prog w C c tabs h σ W) {L : Addr} {oL : Obj} (eL : h.get? L = some oL) (nL : NotCode oL) (hL : L ∉ foot c tabs W) (k : ∀ a, a ≠ c.dx → a ≠ L → ∀ o, h.get? a = some o → h'.get? a = some o) (hs : σ'.sc = σ.sc)
    (hd : ∃ v tp tq, σ'.val.is v ∧ h'.get? c.dx = some (dictOf (pdict w.params c v (.int σ'.pos tp) (.bool σ'.failed) (.int σ'.err tq)) 10)) : Own prog w C c tabs h' σ' W := by
  obtain ⟨v0, tp0, tq0, _, e0⟩ := O.dict
  have hT : c.dx ∉ W.ts := O.sc.tup_ne e0 (by intro q; injection q with q; exact absurd q (by decide))
  have hx : c.x ≠ c.dx := fun q => by
    have := O.inst; rw [q, e0] at this; injection this with this; injection this with t1 _ _ _; cases t1
  have hl : c.l ≠ c.dx := fun q => by
    obtain ⟨n, e⟩ := O.scs; rw [q, e0] at e; injection e with e; injection e with t1; injection t1 with t1; exact absurd t1 (by decide)
  have kf : ∀ a, a ≠ c.dx → a ∈ foot c tabs W → ∀ o, h.get? a = some o → h'.get? a = some o := fun a h1 h2 => k a h1 fun q => hL (q ▸ h2)
  refine ⟨kf _ hx (mem_foot.mpr (.inl rfl)) _ O.inst, hd, ?_, ?_, ?_, O.dxd, O.nd, O.hi, O.apart⟩
  · obtain ⟨n, e⟩ := O.scs; exact ⟨n, kf _ hl (mem_foot.mpr (.inr (.inr (.inl rfl)))) _ e⟩
  · rw [hs]
    exact O.sc.keep fun a ha => kf a (ha.elim (fun m q => hT (q ▸ m)) fun m q => O.dxd (q ▸ m)) (mem_foot.mpr (ha.elim (fun m => .inr (.inr (.inr (.inl m)))) fun m => .inr (.inr (.inr (.inr (.inl m))))))
  · intro q hq
    obtain ⟨ps, e1, e2, e3⟩ := O.tab q hq
    refine ⟨ps, kf _ (fun q2 => ?_) (tab_in hq) _ e1, e2, fun pos cv e5 => ?_⟩
    · rw [q2, e0] at e1; injection e1 with e1; injection e1 with t1; cases t1
    · obtain ⟨a, m, r1, r2⟩ := e3 pos cv e5
      refine ⟨a, m, r1, codeRec_keep r2 r1 (k a (fun q2 => O.apart a m (q2 ▸ mem_foot.mpr (.inr (.inl rfl)))) fun q2 => ?_)⟩
      obtain ⟨c', o', vs, t, z1, z2, z3, z4⟩ := r2
      subst r1; cases z1
      rw [q2, eL] at z2; cases z2
      exact nL vs _ t z3 z4
end

section
variable {u : U} {A : Around} {E : Value → Shared → Prop} {s : Shared} {g : Heap} {N : List Addr} {σ σ' : PS} {L : Addr} {m : Str → Option Value} {name : Str} {f : Addr} {fd : FuncData} {x : Str} {v : Value}

theorem frame_notCode {h : Heap} (F : Fr g L h m) : ∃ o, h.get? L = some o ∧ NotCode o := NotCode.ns F.ns

/-- a local name is stored -/
theorem stL {Q : Unit → Shared → Prop} (F : Fr g L s.heap m) (I : PInv u g (L :: N) s.heap σ) (hk : fd.scope.kind = .function) (hx : fd.scope.names.lookup x = some .local)
    (h : ∀ h', PInv u g (L :: N) h' σ → Fr g L h' (fun y => if y = x then some v else m y) → (∀ b, b ≠ L → ∀ o, s.heap.get? b = some o → h'.get? b = some o) → Q () { s with heap := h', toks := s.toks + 1 }) :
    wpAny (model u.prog u.w) A (storeName (callEnv fd L f) x v) Q E s := by
  refine wpAny_storeName_local (env := callEnv fd L f) hx F.ns (fun h' hn hs => ?_) (by show (fd.scope.kind == .class || (fd.scope.kind == .module && _)) = false; rw [hk]; rfl)
  obtain ⟨o, e, nc⟩ := frame_notCode F
  obtain ⟨o', e', _⟩ := NotCode.ns hn
  have k : ∀ b, b ≠ L → ∀ o, s.heap.get? b = some o → h'.get? b = some o := fun b hb o e => (hs.2 b hb).trans e
  refine h h' (I.store (.head _) e nc k (Nat.le_trans I.sz (Nat.le_of_eq hs.1.symm)) ⟨o', e'⟩) (F.set hn hs) k

theorem nameL {Q : Value → Shared → Prop} {pos : Pos} (F : Fr g L s.heap m) (hk : fd.scope.kind = .function) (hx : fd.scope.names.lookup x = some .local) (hv : m x = some v) (h : Q v s)
    (hd : (x == ("__debug__" : Str)) = false := by decide) : wpAny (model u.prog u.w) A (eval (.Name x pos) (callEnv fd L f)) Q E s :=
  wpAny_Name (wpAny_loadName_local (env := callEnv fd L f) hk hx F.ns hv h) hd

theorem Fr.lift {g' h h' : Heap} (F : Fr g L h m) (st : g.StaysIn g') (hL : ∀ o, h.get? L = some o → g'.get? L = some o) (k : g'.StaysIn h') : Fr g L h' m := by
  obtain ⟨o, es, ep, e, r⟩ := F.ns
  exact ⟨⟨o, es, ep, k _ _ (hL _ e), r⟩, fun b o e => k _ _ (st b o e), F.above⟩

/-- what runs on the parser is called from a frame -/
theorem callRun {cd : Code} {G : PS → Option PS} {d : Nat} {gr : Heap} {R : Result → Shared → Prop} (hr : Runs u gr cd G d) (hg : gr.StaysIn s.heap) (hN : ∀ b o, gr.get? b = some o → g.get? b = some o ∨ b ∈ L :: N) (F : Fr g L s.heap m) (I : PInv u g (L :: N) s.heap σ) (hR : Room A d) (hG : G σ = some σ')
    (h : ∀ h' tk', PInv u g (L :: N) h' σ' → Fr g L h' m → (∀ a ∈ N, ∀ o, s.heap.get? a = some o → h'.get? a = some o) → R (.ok (.ret .none)) { s with heap := h', toks := tk' }) :
    codeAny (model u.prog u.w) A cd R s := by
  obtain ⟨g', J, st, zz, al, back, _, _⟩ := I.freeze'
  have k : gr.StaysIn g' := fun b o e => by
    rcases hN b o e with q | q
    · exact st _ _ (by
        obtain ⟨o', e'⟩ : ∃ o', g.get? b = some o' := ⟨_, q⟩
        exact q)
    · exact al b q o (hg _ _ e)
  refine codeAny_mono (hr g' A s σ σ' k hR J hG) fun r s' hd => ?_
  obtain ⟨rfl, h', tk', rfl, J'⟩ := hd
  exact h h' tk' (back h' σ' J') (Fr.lift F st (al L (.head _)) J'.st) fun a ha o e => J'.st _ _ (al a (.tail _ ha) o e)

/-- the parser's own dict is stored into -/
theorem setFld {Q : Unit → Shared → Prop} {pv' : Value → Value → Value → Value → Value} {p' : Value → Value → Value → Value → Value} {f' : Value → Value → Value → Value → Value} {e' : Value → Value → Value → Value → Value}
    (kn : Kn u) (F : Fr g L s.heap m) (I : PInv u g (L :: N) s.heap σ) (ht : takerIn u.K u.C name = some none)
    (hl : ∀ v p f e, (getL name (pdict u.w.params u.c v p f e)).isSome = true)
    (hput : ∀ t v0 p f e, (putL name (PyData.keyHash u.w.params name) (.str name t) v (pdict u.w.params u.c v0 p f e), putN name (pdict u.w.params u.c v0 p f e) 10) = (pdict u.w.params u.c (pv' v0 p f e) (p' v0 p f e) (f' v0 p f e) (e' v0 p f e), 10))
    (hs : σ'.sc = σ.sc)
    (hv : ∀ v0 tp tq, σ.val.is v0 → ∃ v1 t1 t2, σ'.val.is v1 ∧ pv' v0 (.int σ.pos tp) (.bool σ.failed) (.int σ.err tq) = v1 ∧ p' v0 (.int σ.pos tp) (.bool σ.failed) (.int σ.err tq) = .int σ'.pos t1 ∧
      f' v0 (.int σ.pos tp) (.bool σ.failed) (.int σ.err tq) = .bool σ'.failed ∧ e' v0 (.int σ.pos tp) (.bool σ.failed) (.int σ.err tq) = .int σ'.err t2)
    (h : ∀ h', PInv u g (L :: N) h' σ' → Fr g L h' m → (∀ a ∈ N, a ≠ L → ∀ o, s.heap.get? a = some o → h'.get? a = some o) → Q () { s with heap := h', toks := s.toks + 2 }) :
    wpAny (model u.prog u.w) A (setAttr (.ref u.c.x) name v) Q E s := by
  obtain ⟨W, O, fr⟩ := I.own
  obtain ⟨v0, tp, tq, hv0, hd⟩ := O.dict
  have hdx := fr u.c.dx (mem_foot.mpr (.inr (.inl rfl)))
  have hdL : u.c.dx ≠ L := fun q => hdx.2 (q ▸ .head _)
  have J : PySem.W.InstAt s.heap u.c.x (instObj u.C u.c.dx) u.C (some (dictOf (pdict u.w.params u.c v0 (.int σ.pos tp) (.bool σ.failed) (.int σ.err tq)) 10)) := ⟨O.inst, rfl, rfl, hd⟩
  refine set_dict F I.b.k (all_news F hd hdx.1 hdL) J rfl kn.sa kn.po ht kn.hd (hl _ _ _ _) (hput _ _ _ _ _) (.head fun p hp => (mem_restOf.mp hp).2.1) (by simp [pdict]) fun h' F' N' => ?_
  obtain ⟨e1, k⟩ := of_news F' N' I.st
  obtain ⟨v1, t1, t2, w1, w2, w3, w4, w5⟩ := hv v0 tp tq hv0
  rw [w2, w3, w4, w5] at e1
  obtain ⟨oL, eL, nL⟩ := frame_notCode F
  obtain ⟨oL', eL', _⟩ := frame_notCode F'
  refine h h' ⟨I.b, F'.keep, Nat.le_trans F'.above (Nat.le_of_lt F'.ns.lt), fun a ha => ?_, I.fr, W, O.setDict2 eL nL (fun q => (fr L q).2 (.head _)) k hs ⟨v1, t1, t2, w1, e1⟩, fr⟩ F' fun a ha hne o e => ?_
  · by_cases q : a = L
    · rw [q]; exact ⟨_, eL'⟩
    · obtain ⟨o, e⟩ := I.al a ha
      by_cases q2 : a = u.c.dx
      · rw [q2]; exact ⟨_, e1⟩
      · exact ⟨o, k a q2 q o e⟩
  · exact k a (fun q2 => (fr a (q2 ▸ mem_foot.mpr (.inr (.inl rfl)))).2 (.tail _ ha)) hne o e
end
end Mine

end

/- PB9 -/
section
open PySem PySem.W PyProof.Rows PySem.Calls
set_option Elab.async false
set_option maxRecDepth 100000
namespace Mine

theorem PInv.drop {u : U} {g h : Heap} {a : Addr} {N : List Addr} {σ : PS} (I : PInv u g (a :: N) h σ) : PInv u g N h σ :=
  let ⟨W, O, f⟩ := I.own
  ⟨I.b, I.st, I.sz, fun b hb => I.al b (.tail _ hb), fun b hb => I.fr b (.tail _ hb), W, O, fun b hb => ⟨(f b hb).1, fun m => (f b hb).2 (.tail _ m)⟩⟩

theorem PInv.reN {u : U} {g h : Heap} {N N' : List Addr} {σ : PS} (I : PInv u g N h σ) (e : ∀ a, a ∈ N' ↔ a ∈ N) : PInv u g N' h σ :=
  let ⟨W, O, f⟩ := I.own
  ⟨I.b, I.st, I.sz, fun b hb => I.al b ((e b).mp hb), fun b hb => I.fr b ((e b).mp hb), W, O, fun b hb => ⟨(f b hb).1, fun m => (f b hb).2 ((e b).mp m)⟩⟩

section
variable {u : U} {A : Around} {E : Value → Shared → Prop} {s : Shared} {g : Heap} {N : List Addr} {σ σ' : PS} {L : Addr} {m : Str → Option Value} {name : Str} {f : Addr} {fd : FuncData} {x : Str} {v : Value} {p1 p2 p3 pos : Pos}

theorem evFld {Q : Value → Shared → Prop} (kn : Kn u) (F : Fr g L s.heap m) (I : PInv u g N s.heap σ) (hk : fd.scope.kind = .function) (hs : fd.scope.names.lookup ("self" : Str) = some .local) (hm : m "self" = some (.ref u.c.x)) (hn : findIn u.K (.ref u.C) name = some none)
    (h : ∀ v tp tq, σ.val.is v → ∃ r, getL name (pdict u.w.params u.c v (.int σ.pos tp) (.bool σ.failed) (.int σ.err tq)) = some (some r) ∧ handedIn r = true ∧ Q r { s with toks := s.toks + 1 }) :
    wpAny (model u.prog u.w) A (eval (.Attribute (.Name "self" p1) name p2) (callEnv fd L f)) Q E s :=
  Attribute_any_ (nameL F hk hs hm (fld kn I hn h))

theorem nameB {Q : Value → Shared → Prop} (I : PInv u g N s.heap σ) (hk : fd.scope.kind = .function) (hx : fd.scope.names.lookup x = some .globalImplicit) (hg : fd.globals = mainGlobals) (hb : fd.builtins = builtinsNs)
    (e : nsIn u.K mainGlobals x = some none) (hv : bootBuiltins x = some v) (hn : x ≠ "__name__") (h : Q v s) (hd : (x == ("__debug__" : Str)) = false := by decide) :
    wpAny (model u.prog u.w) A (eval (.Name x pos) (callEnv fd L f)) Q E s :=
  have T := I.T
  Name_function_global hk hx (loadGlobal_builtin (env := callEnv fd L f) (show s.heap.Ns fd.globals u.mg from hg ▸ T.g) (mg_none_of I.K T.g e) (show s.heap.Ns fd.builtins u.mb from hb ▸ T.b) ((T.builtins x hn).trans hv) h) hd

/-- what a step of the library leaves as it was -/
theorem same_news (F : Fr g L s.heap m) (I : PInv u g (L :: N) s.heap σ) : ∃ o, News g L s.heap ((u.c.dx, o) :: restOf g s.heap L u.c.dx) ∧
    ∀ h' m', Fr g L h' m' → News g L h' ((u.c.dx, o) :: restOf g s.heap L u.c.dx) → PInv u g (L :: N) h' σ ∧ ∀ b, b ≠ L → ∀ o, s.heap.get? b = some o → h'.get? b = some o := by
  obtain ⟨W, O, fr⟩ := I.own
  obtain ⟨v0, tp, tq, hv0, hd⟩ := O.dict
  have hdx := fr u.c.dx (mem_foot.mpr (.inr (.inl rfl)))
  have hdL : u.c.dx ≠ L := fun q => hdx.2 (q ▸ .head _)
  refine ⟨_, all_news F hd hdx.1 hdL, fun h' m' F' N' => ?_⟩
  obtain ⟨e1, k⟩ := of_news F' N' I.st
  have k' : ∀ b, b ≠ L → ∀ o, s.heap.get? b = some o → h'.get? b = some o := fun b hb o e => by
    by_cases q : b = u.c.dx
    · rw [q, hd] at e; cases e; rw [q]; exact e1
    · exact k b q hb o e
  obtain ⟨oL, eL, nL⟩ := frame_notCode F
  obtain ⟨oL', eL', _⟩ := frame_notCode F'
  have z : g.objs.size ≤ h'.objs.size := Nat.le_trans F'.above (Nat.le_of_lt F'.ns.lt)
  refine ⟨⟨I.b, F'.keep, z, fun a ha => ?_, I.fr, W, ?_, fr⟩, k'⟩
  · by_cases q : a = L
    · rw [q]; exact ⟨_, eL'⟩
    · obtain ⟨o, e⟩ := I.al a ha; exact ⟨o, k' a q o e⟩
  · exact O.setDict2 eL nL (fun q => (fr L q).2 (.head _)) (fun a _ h2 o e => k' a h2 o e) rfl ⟨_, tp, tq, hv0, k' _ hdL _ hd⟩

theorem max2 {a b : Int} {t t' : Tok} {Q : Value → Shared → Prop} (hh : A.handled = none) (F : Fr g L s.heap m) (I : PInv u g (L :: N) s.heap σ)
    (h : ∀ h' tk t'', PInv u g (L :: N) h' σ → Fr g L h' m → (∀ b, b ≠ L → ∀ o, s.heap.get? b = some o → h'.get? b = some o) → Q (.int (max a b) t'') { s with heap := h', toks := tk }) :
    wpAny (model u.prog u.w) A (call (.builtin "max") [.int a t, .int b t']) Q E s := by
  obtain ⟨o, Nw, k⟩ := same_news F I
  refine max_two_N hh F Nw fun h' tk F' N' => ?_
  obtain ⟨I', k'⟩ := k h' m F' N'
  have := h h' tk (if b > a then t' else t) I' F' k'
  have e : (if b > a then b else a) = max a b := by omega
  rw [e]; exact this

theorem callF {nm : Str} {fm : Addr} {e : Expr} {es : List Expr} {pl : Sem Bool} {Q : Value → Shared → Prop} (kn : Kn u) (M : MethAt u nm fm) (hl : ∀ v p f' e', getL nm (pdict u.w.params u.c v p f' e') = some none)
    (F : Fr g L s.heap m) (I : PInv u g N s.heap σ) (hk : fd.scope.kind = .function) (hs : fd.scope.names.lookup ("self" : Str) = some .local) (hm : m "self" = some (.ref u.c.x))
    (h : wpAny (model u.prog u.w) A (spliced (backTo p3 (starEach (e :: es) (callEnv fd L f)))) (fun vs s₁ => u.K.In s₁.heap ∧ wpAny (model u.prog u.w) A (call (.ref fm) (.ref u.c.x :: vs)) Q E s₁) E s)
    (he : eval (.Call (.Attribute (.Name "self" p1) nm p2) (e :: es) [] p3) (callEnv fd L f) = (do
      let ov ← eval (.Name "self" p1) (callEnv fd L f)
      standAt p2.atName
      let (f', first) ← holding [ov] (getMethod ov nm pl)
      callWith p3 f' first (backTo p3 (starEach (e :: es) (callEnv fd L f))) []) := by rfl)
    (h1 : starEach (e :: es) (callEnv fd L f) = (false, eval e (callEnv fd L f)) :: starEach es (callEnv fd L f) := by rfl) (h2 : (backTo p3 (starEach es (callEnv fd L f))).any (·.1) = false := by rfl) :
    wpAny (model u.prog u.w) A (eval (.Call (.Attribute (.Name "self" p1) nm p2) (e :: es) [] p3) (callEnv fd L f)) Q E s :=
  MethodCall_ (pl := pl) (nameL F hk hs hm (meth_of kn M I (fun v tp tq => hl _ _ _ _) (callWith_K (h₀ := s.heap) I.K M.keepIn h h1 h2))) he

theorem callF0 {nm : Str} {fm : Addr} {pl : Sem Bool} {Q : Value → Shared → Prop} (kn : Kn u) (M : MethAt u nm fm) (hl : ∀ v p f' e', getL nm (pdict u.w.params u.c v p f' e') = some none)
    (F : Fr g L s.heap m) (I : PInv u g N s.heap σ) (hk : fd.scope.kind = .function) (hs : fd.scope.names.lookup ("self" : Str) = some .local) (hm : m "self" = some (.ref u.c.x))
    (h : wpAny (model u.prog u.w) A (call (.ref fm) [.ref u.c.x]) Q E s)
    (he : eval (.Call (.Attribute (.Name "self" p1) nm p2) [] [] p3) (callEnv fd L f) = (do
      let ov ← eval (.Name "self" p1) (callEnv fd L f)
      standAt p2.atName
      let (f', first) ← holding [ov] (getMethod ov nm pl)
      callWith p3 f' first (backTo p3 (starEach [] (callEnv fd L f))) []) := by rfl) :
    wpAny (model u.prog u.w) A (eval (.Call (.Attribute (.Name "self" p1) nm p2) [] [] p3) (callEnv fd L f)) Q E s :=
  MethodCall_ (pl := pl) (nameL F hk hs hm (meth_of kn M I (fun v tp tq => hl _ _ _ _) (callWith_K0 I.K M.keepIn h))) he

/-- an own def is run from a frame: its base is the frame's own -/
theorem runF {cd : Code} {G : PS → Option PS} {d : Nat} {R : Result → Shared → Prop} (hr : Runs u g cd G d) (F : Fr g L s.heap m) (I : PInv u g (L :: N) s.heap σ) (hR : Room A d) (hG : G σ = some σ')
    (h : ∀ h' tk', PInv u g (L :: N) h' σ' → Fr g L h' m → (∀ a ∈ N, ∀ o, s.heap.get? a = some o → h'.get? a = some o) → R (.ok (.ret .none)) { s with heap := h', toks := tk' }) :
    codeAny (model u.prog u.w) A cd R s :=
  callRun hr I.st (fun _ _ e => .inl e) F I hR hG h

theorem itemT {value slice : Expr} {T : Str} {t w' : Tok} {i c : Nat} {Q : Value → Shared → Prop} (hl : T.length ≤ 100000) (hc : T.cps[i]? = some c) (h : Q (.str ⟨#[c]⟩ s.toks) { s with toks := s.toks + 1 })
    (hs : subscripted slice false (.str T t) (.int i w') = operate [.str T t, .int i w'] (getItem (.str T t) (.int i w')) := by with_unfolding_all rfl)
    (ht : ∀ r, letTemporaryGo value (.str T t) r = pure () := by intro _; with_unfolding_all rfl) :
    wpAny (model u.prog u.w) A (subscriptTail value slice (.str T t) (.int i w')) Q E s := by
  have hi : i < T.length := by
    rcases Nat.lt_or_ge i T.cps.size with q | q
    · exact q
    · rw [Array.getElem?_eq_none q] at hc; cases hc
  refine item_str (by unfold fitsSsize; simp only [Bool.not_eq_true', Bool.or_eq_false_iff, decide_eq_false_iff_not]; omega) (by omega) (by omega) (fun _ => ?_) hs ht
  have e : Txt.item T (i : Int) = ⟨#[c]⟩ := by
    unfold Txt.item Txt.charAt
    have : seqIndex? (i : Int) T.length = some i := by
      unfold seqIndex?
      simp only []
      first | (split <;> simp_all <;> omega) | simp_all
    rw [this]; simp [hc]
  rw [e]; exact h
end
end Mine

end

/- PB10 -/
section
open PySem PySem.W PyProof.Rows PySem.Calls
set_option Elab.async false
set_option maxRecDepth 100000
namespace Mine

open Classical in
noncomputable def aliveIn (h : Heap) (cs : List Addr) : List Addr := cs.filter fun a => decide (∃ q, h.CodeRec (.ref a) q)
theorem mem_aliveIn {h : Heap} {cs : List Addr} {a : Addr} : a ∈ aliveIn h cs ↔ a ∈ cs ∧ ∃ q, h.CodeRec (.ref a) q := by
  unfold aliveIn; rw [List.mem_filter]; simp
theorem code_alive {h : Heap} {a : Addr} {q : Str} (x : h.CodeRec (.ref a) q) : a < h.objs.size := by
  obtain ⟨c', o, vs, t, z1, z2, _⟩ := x
  cases z1; exact Heap.lt_size z2
theorem code_ne {h : Heap} {a L : Addr} {q : Str} {oL : Obj} (x : h.CodeRec (.ref a) q) (eL : h.get? L = some oL) (nL : NotCode oL) : a ≠ L := fun e => by
  obtain ⟨c', o, vs, t, z1, z2, z3, z4⟩ := x
  cases z1
  rw [e, eL] at z2; cases z2
  exact nL vs _ t z3 z4
theorem TabOk.alive {h : Heap} {cs : List Addr} {P : Addr} {q : Str} (x : TabOk h cs P q) : TabOk h (aliveIn h cs) P q := by
  obtain ⟨ps, h1, h2, h3⟩ := x
  refine ⟨ps, h1, h2, fun pos cv e => ?_⟩
  obtain ⟨a, m, e1, e2⟩ := h3 pos cv e
  subst e1
  exact ⟨a, mem_aliveIn.mpr ⟨m, q, e2⟩, rfl, e2⟩

section
variable {prog : Program} {w : World} {C : Addr} {c : Cx} {tabs : Tabs} {h h' : Heap} {σ : PS} {W : Wit}

theorem Own.lcls (O : Own prog w C c tabs h σ W) : ∀ a, a = c.x ∨ a = c.dx ∨ a ∈ W.ts ∨ a ∈ W.ds ∨ a ∈ tabs.map (·.2.1) → a ≠ c.l := by
  obtain ⟨n, el⟩ := O.scs
  intro a ha q
  subst q
  rcases ha with q | q | q | q | q
  · rw [q, O.inst] at el; injection el with el; injection el with t1; cases t1
  · obtain ⟨v, tp, tq, _, e⟩ := O.dict; rw [q, e] at el; injection el with el; injection el with t1; injection t1 with t1; exact absurd t1 (by decide)
  · exact O.sc.tup_ne el (by intro z; injection z with z; exact absurd z (by decide)) q
  · have dn : ∀ {ts ds r}, ScsAt prog w h ts ds r → c.l ∉ ds := by
      intro ts ds r x
      induction x with
      | nil => intro m; cases m
      | cons _ h2 h3 _ ih =>
        intro m
        rcases List.mem_cons.mp m with rfl | m
        · rw [el] at h2; cases h2
          unfold Obj.IsDictOf at h3
          obtain ⟨es, ep, _, hd, _⟩ := h3
          cases hd
        · exact ih m
    exact dn O.sc q
  · obtain ⟨t, ht, e⟩ := List.mem_map.mp q
    obtain ⟨ps, e', _⟩ := O.tab t ht
    rw [e, el] at e'; injection e' with e'; injection e' with t1; cases t1

/-- a scope is laid on top -/
theorem Own.pushed (O : Own prog w C c tabs h σ W) {L : Addr} {oL : Obj} (eL : h.get? L = some oL) (nL : NotCode oL) (hL : L ∉ foot c tabs W) {name : Str} {tn : Tok} {t d : Addr}
    (hbig : sysModules < h.objs.size) (hd : h.objs.size ≤ d) (ht : h.objs.size ≤ t) (k : ∀ a, a ≠ c.l → a ≠ L → ∀ o, h.get? a = some o → h'.get? a = some o)
    (ed : h'.get? d = some { cls := .type "dict", data := .dict #[] }) (et : h'.get? t = some { cls := .type "tuple", data := .seq #[.str name tn, .ref d] })
    (el : ∃ n, h'.get? c.l = some (PySem.W.listOf (((W.ts.reverse.map Value.ref).toArray).push (.ref t)) n)) :
    Own prog w C c tabs h' { σ with sc := ⟨name, none⟩ :: σ.sc } { ts := t :: W.ts, ds := d :: W.ds, cs := aliveIn h W.cs } := by
  have ne := O.lcls
  have kf : ∀ a, a ≠ c.l → a ∈ foot c tabs W → ∀ o, h.get? a = some o → h'.get? a = some o := fun a h1 h2 => k a h1 fun q => hL (q ▸ h2)
  have old : ∀ a ∈ foot c tabs W, a < h.objs.size := fun a m => let ⟨o, e⟩ := O.alive a m; Heap.lt_size e
  refine ⟨kf _ (ne _ (.inl rfl)) (mem_foot.mpr (.inl rfl)) _ O.inst, ?_, ?_, ?_, ?_, ?_, ?_, ?_, ?_⟩
  · obtain ⟨v, tp, tq, e1, e2⟩ := O.dict; exact ⟨v, tp, tq, e1, kf _ (ne _ (.inr (.inl rfl))) (mem_foot.mpr (.inr (.inl rfl))) _ e2⟩
  · obtain ⟨n, e⟩ := el
    refine ⟨n, ?_⟩
    rw [e]; congr 2
    simp
  · refine .cons (tn := tn) (tk := 0) et ed ?_ (O.sc.keep fun a ha => kf a (ne _ (ha.elim (fun m => .inr (.inr (.inl m))) fun m => .inr (.inr (.inr (.inl m))))) (mem_foot.mpr (ha.elim (fun m => .inr (.inr (.inr (.inl m)))) fun m => .inr (.inr (.inr (.inr (.inl m)))))))
    obtain ⟨o, ho, hd'⟩ := Heap.dictOf_iff.mp (Heap.DictOf.new (knd := PySem.strKind prog w) h)
    rw [Heap.get?_push_size _ rfl] at ho
    exact (Option.some.inj ho) ▸ hd'
  · intro q hq
    refine (O.tab q hq).alive.keep fun a ha => ?_
    rcases ha with rfl | m
    · exact kf _ (ne _ (.inr (.inr (.inr (.inr (List.mem_map_of_mem hq)))))) (tab_in hq)
    · obtain ⟨m1, q', cr⟩ := mem_aliveIn.mp m
      exact k a (fun q2 => O.apart a m1 (q2 ▸ mem_foot.mpr (.inr (.inr (.inl rfl))))) (code_ne cr eL nL)
  · intro m
    rcases List.mem_cons.mp m with q | m
    · exact absurd (q ▸ old c.dx (mem_foot.mpr (.inr (.inl rfl)))) (Nat.not_lt.mpr hd)
    · exact O.dxd m
  · refine List.nodup_cons.mpr ⟨fun m => ?_, O.nd⟩
    exact absurd (old d (mem_foot.mpr (.inr (.inr (.inr (.inr (.inl m))))))) (Nat.not_lt.mpr hd)
  · intro a m
    rcases List.mem_cons.mp m with q | q
    · rw [q]; exact Nat.lt_of_lt_of_le hbig hd
    · exact O.hi a q
  · intro a m m2
    obtain ⟨m1, q', cr⟩ := mem_aliveIn.mp m
    have lt := code_alive cr
    rcases mem_foot.mp m2 with q | q | q | q | q | q
    · exact O.apart a m1 (mem_foot.mpr (.inl q))
    · exact O.apart a m1 (mem_foot.mpr (.inr (.inl q)))
    · exact O.apart a m1 (mem_foot.mpr (.inr (.inr (.inl q))))
    · rcases List.mem_cons.mp q with q | q
      · exact absurd (q ▸ lt) (Nat.not_lt.mpr ht)
      · exact O.apart a m1 (mem_foot.mpr (.inr (.inr (.inr (.inl q)))))
    · rcases List.mem_cons.mp q with q | q
      · exact absurd (q ▸ lt) (Nat.not_lt.mpr hd)
      · exact O.apart a m1 (mem_foot.mpr (.inr (.inr (.inr (.inr (.inl q))))))
    · exact O.apart a m1 (mem_foot.mpr (.inr (.inr (.inr (.inr (.inr q))))))

/-- the scope on top is taken off -/
theorem Own.popped {sc : Sc} {r : List Sc} {t d : Addr} {ts ds : List Addr} {cs : List Addr} (O : Own prog w C c tabs h { σ with sc := sc :: r } ⟨t :: ts, d :: ds, cs⟩) {L : Addr} {oL : Obj} (eL : h.get? L = some oL) (nL : NotCode oL) (hL : L ∉ foot c tabs ⟨t :: ts, d :: ds, cs⟩)
    (k : ∀ a, a ≠ c.l → a ≠ L → ∀ o, h.get? a = some o → h'.get? a = some o) (el : ∃ n, h'.get? c.l = some (PySem.W.listOf ((ts.reverse.map Value.ref).toArray) n)) :
    Own prog w C c tabs h' { σ with sc := r } ⟨ts, ds, aliveIn h cs⟩ := by
  have ne := O.lcls
  have kf : ∀ a, a ≠ c.l → a ∈ foot c tabs ⟨t :: ts, d :: ds, cs⟩ → ∀ o, h.get? a = some o → h'.get? a = some o := fun a h1 h2 => k a h1 fun q => hL (q ▸ h2)
  have sub : ∀ a, a ∈ foot c tabs ⟨ts, ds, aliveIn h cs⟩ → a ∈ foot c tabs ⟨t :: ts, d :: ds, cs⟩ := fun a m => by
    rcases mem_foot.mp m with q | q | q | q | q | q
    · exact mem_foot.mpr (.inl q)
    · exact mem_foot.mpr (.inr (.inl q))
    · exact mem_foot.mpr (.inr (.inr (.inl q)))
    · exact mem_foot.mpr (.inr (.inr (.inr (.inl (.tail _ q)))))
    · exact mem_foot.mpr (.inr (.inr (.inr (.inr (.inl (.tail _ q))))))
    · exact mem_foot.mpr (.inr (.inr (.inr (.inr (.inr q)))))
  have sc' : ScsAt prog w h ts ds r := by
    have := O.sc
    cases this with | cons _ _ _ z => exact z
  refine ⟨kf _ (ne _ (.inl rfl)) (mem_foot.mpr (.inl rfl)) _ O.inst, ?_, el, ?_, ?_, fun m => O.dxd (.tail _ m), (List.nodup_cons.mp O.nd).2, fun a m => O.hi a (.tail _ m), fun a m m2 => O.apart a (mem_aliveIn.mp m).1 (sub a m2)⟩
  · obtain ⟨v, tp, tq, e1, e2⟩ := O.dict; exact ⟨v, tp, tq, e1, kf _ (ne _ (.inr (.inl rfl))) (mem_foot.mpr (.inr (.inl rfl))) _ e2⟩
  · exact sc'.keep fun a ha => kf a (ne _ (ha.elim (fun m => .inr (.inr (.inl (.tail _ m)))) fun m => .inr (.inr (.inr (.inl (.tail _ m)))))) (mem_foot.mpr (ha.elim (fun m => .inr (.inr (.inr (.inl (.tail _ m))))) fun m => .inr (.inr (.inr (.inr (.inl (.tail _ m)))))))
  · intro q hq
    refine (O.tab q hq).alive.keep fun a ha => ?_
    rcases ha with rfl | m
    · exact kf _ (ne _ (.inr (.inr (.inr (.inr (List.mem_map_of_mem hq)))))) (tab_in hq)
    · obtain ⟨m1, q', cr⟩ := mem_aliveIn.mp m
      exact k a (fun q2 => O.apart a m1 (q2 ▸ mem_foot.mpr (.inr (.inr (.inl rfl))))) (code_ne cr eL nL)

/-- «x» is laid into the scope on top -/
theorem Own.laid {nm : Str} {r : List Sc} {t d : Addr} {ts ds : List Addr} {cs : List Addr} (O : Own prog w C c tabs h { σ with sc := ⟨nm, none⟩ :: r } ⟨t :: ts, d :: ds, cs⟩) {L : Addr} {oL : Obj} (eL : h.get? L = some oL) (nL : NotCode oL) (hL : L ∉ foot c tabs ⟨t :: ts, d :: ds, cs⟩)
    {x : Str} {tk : Tok} {od : Obj} (k : ∀ a, a ≠ d → a ≠ L → ∀ o, h.get? a = some o → h'.get? a = some o) (ed : h'.get? d = some od) (hd : od.IsDictOf (PySem.strKind prog w) [(("x" : Str), .str x tk)]) :
    Own prog w C c tabs h' { σ with sc := ⟨nm, some x⟩ :: r } ⟨t :: ts, d :: ds, aliveIn h cs⟩ := by
  have kf : ∀ a, a ≠ d → a ∈ foot c tabs ⟨t :: ts, d :: ds, cs⟩ → ∀ o, h.get? a = some o → h'.get? a = some o := fun a h1 h2 => k a h1 fun q => hL (q ▸ h2)
  have O' := O.sc
  cases O' with
  | @cons _ _ _ _ _ _ tn tk' o0 h1 h2 h3 h4 =>
  have dict_d : ∃ es ep, o0.data = .dict es ep ∧ o0.cls = .type "dict" := by
    unfold Obj.IsDictOf at h3
    obtain ⟨es, ep, ex, hd, _⟩ := h3
    exact ⟨es, ep, hd, ex.1⟩
  obtain ⟨es0, ep0, dd, dc⟩ := dict_d
  have nx : c.x ≠ d := fun q => by have := O.inst; rw [q, h2] at this; injection this with this; rw [this] at dc; cases dc
  have nl : c.l ≠ d := fun q => by obtain ⟨n, e⟩ := O.scs; rw [q, h2] at e; injection e with e; rw [e] at dd; cases dd
  have nt : ∀ a ∈ t :: ts, a ≠ d := fun a m q => by
    have := O.sc.tup_ne (a := d) h2 (by rw [dc]; intro z; injection z with z; exact absurd z (by decide))
    exact this (q ▸ m)
  have hfoot : foot c tabs ⟨t :: ts, d :: ds, aliveIn h cs⟩ = foot c tabs ⟨t :: ts, d :: ds, cs⟩ := rfl
  refine ⟨kf _ nx (mem_foot.mpr (.inl rfl)) _ O.inst, ?_, ?_, ?_, ?_, O.dxd, O.nd, O.hi, fun a m m2 => O.apart a (mem_aliveIn.mp m).1 (hfoot ▸ m2)⟩
  · obtain ⟨v, tp, tq, e1, e2⟩ := O.dict; exact ⟨v, tp, tq, e1, kf _ (fun q => O.dxd (q ▸ .head _)) (mem_foot.mpr (.inr (.inl rfl))) _ e2⟩
  · obtain ⟨n, e⟩ := O.scs; exact ⟨n, kf _ nl (mem_foot.mpr (.inr (.inr (.inl rfl)))) _ e⟩
  · refine .cons (tn := tn) (tk := tk) (kf _ (nt t (.head _)) (mem_foot.mpr (.inr (.inr (.inr (.inl (.head _)))))) _ h1) ed hd (h4.keep fun a ha => ?_)
    rcases ha with m | m
    · exact kf a (nt a (.tail _ m)) (mem_foot.mpr (.inr (.inr (.inr (.inl (.tail _ m))))))
    · exact kf a (fun q => (List.nodup_cons.mp O.nd).1 (q ▸ m)) (mem_foot.mpr (.inr (.inr (.inr (.inr (.inl (.tail _ m)))))))
  · intro q hq
    refine (O.tab q hq).alive.keep fun a ha => ?_
    rcases ha with rfl | m
    · refine kf _ (fun q2 => ?_) (tab_in hq)
      obtain ⟨ps, e', _⟩ := O.tab q hq
      rw [q2, h2] at e'; injection e' with e'; rw [e'] at dc; cases dc
    · obtain ⟨m1, q', cr⟩ := mem_aliveIn.mp m
      exact k a (fun q2 => O.apart a m1 (q2 ▸ mem_foot.mpr (.inr (.inr (.inr (.inr (.inl (.head _)))))))) (code_ne cr eL nL)
end
end Mine

end

/- PL1 -/
section
open PySem PySem.W PyProof.Rows PySem.Calls
set_option Elab.async false
set_option maxRecDepth 100000
namespace Mine

theorem fill_ (_ : PySem.Challenge.rw_bd6020_01 = PySem.Challenge.rw_bd6020_01) (_ : Mine.hd.heap_39 = Mine.hd.heap_39) : True := by
  have h : PySem.Challenge.rw_bd6020_01 = PySem.Challenge.rw_bd6020_01 ∧ Mine.hd.heap_39 = Mine.hd.heap_39 := by
    k_fill
    exact ⟨rfl, rfl⟩
  trivial

structure Is (u : U) : Prop where
  K : u.K = Mine.hd.heap_39 u.w.params
  C : u.C = 1478

set_option maxHeartbeats 4000000 in
theorem leaf_fail {u : U} (hu : Is u) (kn : Kn u) {g : Heap} : Runs u g (.call (.ref 95) ⟨[.ref u.c.x], []⟩) (fun σ => some σ.fail) 1 := by
  intro g' A s σ σ' k hR I hF
  cases hF
  refine' enter_local (d := 0) (binds := [(("self" : Str), .ref u.c.x)]) ⟨none, #[], ?hf⟩ ?hb ?hcd ?hbind ?hcell ?hloc ?hco ?hgen ?hk hR I ?_
  case hf => rw [hu.K]; k_is
  case hb => rfl
  case hcd => rw [hu.K]; k_is
  case hbind => exact BindsTo.of_eq rfl
  case hcell => decide
  case hloc => exact locs rfl
  case hco => rfl
  case hgen => rfl
  case hk => rfl
  intro L h₁ I₁ F₁
  (try dsimp only)
  refine wpAny_execs_cons ?_
  refine plainObj_wpAny_Assign_Attribute ?_ (by rfl)
  refine Constant_none ?_
  refine nameL F₁ rfl rfl rfl ?_
  refine setFld (σ' := { σ with val := .none }) (pv' := fun _ _ _ _ => .none) (p' := fun _ p _ _ => p) (f' := fun _ _ f _ => f) (e' := fun _ _ _ e => e) kn F₁ I₁ ?_ ?_ ?_ rfl ?_ ?_
  · rw [hu.K, hu.C]; k_is
  · intros; rfl
  · intros; rfl
  · intro v0 tp tq hv; exact ⟨_, tp, tq, rfl, rfl, rfl, rfl, rfl⟩
  intro h₂ I₂ F₂ _
  (try dsimp only)
  refine wpAny_execs_cons ?_
  refine plainObj_wpAny_Assign_Attribute ?_ (by rfl)
  refine Constant_bool ?_
  refine nameL F₂ rfl rfl rfl ?_
  refine setFld (σ' := { σ with val := .none, failed := true }) (pv' := fun v _ _ _ => v) (p' := fun _ p _ _ => p) (f' := fun _ _ f _ => .bool true) (e' := fun _ _ _ e => e) kn F₂ I₂ ?_ ?_ ?_ rfl ?_ ?_
  · rw [hu.K, hu.C]; k_is
  · intros; rfl
  · intros; rfl
  · intro v0 tp tq hv; exact ⟨_, tp, tq, hv, rfl, rfl, rfl, rfl⟩
  intro h₃ I₃ F₃ _
  (try dsimp only)
  refine wpAny_execs_cons ?_
  refine plainObj_wpAny_Assign_Attribute ?_ (by rfl)
  refine Call_ ?_
  refine nameB I₃ rfl rfl rfl rfl ?_ (by boot_by_name) (by decide) ?_
  · rw [hu.K]; k_is
  refine callWith_method1 (spliced_more (evFld kn F₃ I₃ rfl rfl rfl ?_ ?_))
  · rw [hu.K, hu.C]; k_is
  intro v tp tq hv
  refine ⟨_, rfl, rfl, spliced_more (evFld kn F₃ I₃ rfl rfl rfl ?_ ?_)⟩
  · rw [hu.K, hu.C]; k_is
  intro v' tp' tq' hv'
  refine ⟨_, rfl, rfl, spliced_none ?_⟩
  refine max2 hR.hd F₃ I₃ fun h₄ tk t I₄ F₄ k₄ => ?_
  refine nameL F₄ rfl rfl rfl ?_
  refine setFld (σ' := σ.fail) (pv' := fun v _ _ _ => v) (p' := fun _ p _ _ => p) (f' := fun _ _ f _ => f) (e' := fun _ _ _ _ => .int (max (σ.err : Int) (σ.pos : Int)) t) kn F₄ I₄ ?_ ?_ ?_ rfl ?_ ?_
  · rw [hu.K, hu.C]; k_is
  · intros; rfl
  · intros; rfl
  · intro v0 tp tq hv; exact ⟨_, tp, t, hv, rfl, rfl, rfl, by show Value.int _ _ = Value.int _ _; congr 1; simp only [PS.fail]; omega⟩
  intro h₅ I₅ F₅ _
  (try dsimp only)
  refine wpAny_execs_nil ?_
  exact ⟨rfl, h₅, _, rfl, I₅.drop⟩

set_option maxHeartbeats 4000000 in
theorem leaf_succ {u : U} (hu : Is u) (kn : Kn u) {g : Heap} {v : Value} {pv : PV} (hpv : pv.is v) : Runs u g (.call (.ref 88) ⟨[.ref u.c.x, v], []⟩) (fun σ => some (σ.succ pv none)) 1 := by
  intro g' A s σ σ' k hR I hF
  cases hF
  refine' enter_local (d := 0) (binds := [(("self" : Str), .ref u.c.x), (("v" : Str), v), (("newpos" : Str), .none)]) ⟨none, #[], ?hf⟩ ?hb ?hcd ?hbind ?hcell ?hloc ?hco ?hgen ?hk hR I ?_
  case hf => rw [hu.K]; k_is
  case hb => rfl
  case hcd => rw [hu.K]; k_is
  case hbind => exact binds_K I.K rfl (by rw [hu.K]; k_is) rfl rfl rfl
  case hcell => decide
  case hloc => exact locs rfl
  case hco => rfl
  case hgen => rfl
  case hk => rfl
  intro L h₁ I₁ F₁
  (try dsimp only)
  refine wpAny_execs_cons ?_
  refine plainObj_wpAny_Assign_Attribute ?_ (by rfl)
  refine nameL F₁ rfl rfl rfl ?_
  refine nameL F₁ rfl rfl rfl ?_
  refine setFld (σ' := { σ with val := pv }) (pv' := fun _ _ _ _ => v) (p' := fun _ p _ _ => p) (f' := fun _ _ f _ => f) (e' := fun _ _ _ e => e) kn F₁ I₁ ?_ ?_ ?_ rfl ?_ ?_
  · rw [hu.K, hu.C]; k_is
  · intros; rfl
  · intros; rfl
  · intro v0 tp tq hv; exact ⟨_, tp, tq, hpv, rfl, rfl, rfl, rfl⟩
  intro h₂ I₂ F₂ _
  (try dsimp only)
  refine wpAny_execs_cons ?_
  refine plainObj_wpAny_Assign_Attribute ?_ (by rfl)
  refine Constant_bool ?_
  refine nameL F₂ rfl rfl rfl ?_
  refine setFld (σ' := σ.succ pv none) (pv' := fun v _ _ _ => v) (p' := fun _ p _ _ => p) (f' := fun _ _ f _ => .bool false) (e' := fun _ _ _ e => e) kn F₂ I₂ ?_ ?_ ?_ rfl ?_ ?_
  · rw [hu.K, hu.C]; k_is
  · intros; rfl
  · intros; rfl
  · intro v0 tp tq hv; exact ⟨_, tp, tq, hv, rfl, rfl, rfl, rfl⟩
  intro h₃ I₃ F₃ _
  (try dsimp only)
  refine wpAny_execs_cons (wpAny_If (wpAny_isTrue_Compare1 ?_))
  refine nameL F₃ rfl rfl rfl (Constant_none (wpAny_isNot_plain rfl (wpAny_truthy_bool ?_)))
  exact wpAny_execs_nil (wpAny_execs_nil ⟨rfl, h₃, _, rfl, I₃.drop⟩)

set_option maxHeartbeats 4000000 in
theorem leaf_succ2 {u : U} (hu : Is u) (kn : Kn u) {g : Heap} {v : Value} {pv : PV} {n : Nat} {t : Tok} (hpv : pv.is v) : Runs u g (.call (.ref 88) ⟨[.ref u.c.x, v, .int n t], []⟩) (fun σ => some (σ.succ pv (some n))) 1 := by
  intro g' A s σ σ' k hR I hF
  cases hF
  refine' enter_local (d := 0) (binds := [(("self" : Str), .ref u.c.x), (("v" : Str), v), (("newpos" : Str), .int n t)]) ⟨none, #[], ?hf⟩ ?hb ?hcd ?hbind ?hcell ?hloc ?hco ?hgen ?hk hR I ?_
  case hf => rw [hu.K]; k_is
  case hb => rfl
  case hcd => rw [hu.K]; k_is
  case hbind => exact binds_K I.K rfl (by rw [hu.K]; k_is) rfl rfl rfl
  case hcell => decide
  case hloc => exact locs rfl
  case hco => rfl
  case hgen => rfl
  case hk => rfl
  intro L h₁ I₁ F₁
  (try dsimp only)
  refine wpAny_execs_cons ?_
  refine plainObj_wpAny_Assign_Attribute ?_ (by rfl)
  refine nameL F₁ rfl rfl rfl ?_
  refine nameL F₁ rfl rfl rfl ?_
  refine setFld (σ' := { σ with val := pv }) (pv' := fun _ _ _ _ => v) (p' := fun _ p _ _ => p) (f' := fun _ _ f _ => f) (e' := fun _ _ _ e => e) kn F₁ I₁ ?_ ?_ ?_ rfl ?_ ?_
  · rw [hu.K, hu.C]; k_is
  · intros; rfl
  · intros; rfl
  · intro v0 tp tq hv; exact ⟨_, tp, tq, hpv, rfl, rfl, rfl, rfl⟩
  intro h₂ I₂ F₂ _
  (try dsimp only)
  refine wpAny_execs_cons ?_
  refine plainObj_wpAny_Assign_Attribute ?_ (by rfl)
  refine Constant_bool ?_
  refine nameL F₂ rfl rfl rfl ?_
  refine setFld (σ' := σ.succ pv none) (pv' := fun v _ _ _ => v) (p' := fun _ p _ _ => p) (f' := fun _ _ f _ => .bool false) (e' := fun _ _ _ e => e) kn F₂ I₂ ?_ ?_ ?_ rfl ?_ ?_
  · rw [hu.K, hu.C]; k_is
  · intros; rfl
  · intros; rfl
  · intro v0 tp tq hv; exact ⟨_, tp, tq, hv, rfl, rfl, rfl, rfl⟩
  intro h₃ I₃ F₃ _
  (try dsimp only)
  refine wpAny_execs_cons (wpAny_If (wpAny_isTrue_Compare1 ?_))
  refine nameL F₃ rfl rfl rfl (Constant_none (wpAny_isNot_plain rfl (wpAny_truthy_bool ?_)))
  refine wpAny_execs_cons ?_
  refine plainObj_wpAny_Assign_Attribute ?_ (by rfl)
  refine nameL F₃ rfl rfl rfl ?_
  refine nameL F₃ rfl rfl rfl ?_
  refine setFld (σ' := σ.succ pv (some n)) (pv' := fun v _ _ _ => v) (p' := fun _ p _ _ => .int n t) (f' := fun _ _ f _ => f) (e' := fun _ _ _ e => e) kn F₃ I₃ ?_ ?_ ?_ rfl ?_ ?_
  · rw [hu.K, hu.C]; k_is
  · intros; rfl
  · intros; rfl
  · intro v0 tp tq hv; exact ⟨_, t, tq, hv, rfl, rfl, rfl, rfl⟩
  intro h₄ I₄ F₄ _
  (try dsimp only)
  exact wpAny_execs_nil (wpAny_execs_nil ⟨rfl, h₄, _, rfl, I₄.drop⟩)
end Mine

end

/- PL2 -/
section
open PySem PySem.W PyProof.Rows PySem.Calls
set_option Elab.async false
set_option maxRecDepth 100000
namespace Mine

theorem fill2_ (_ : PySem.Challenge.rw_bd6020_01 = PySem.Challenge.rw_bd6020_01) (_ : Mine.hd.heap_39 = Mine.hd.heap_39) : True := by
  have h : PySem.Challenge.rw_bd6020_01 = PySem.Challenge.rw_bd6020_01 ∧ Mine.hd.heap_39 = Mine.hd.heap_39 := by
    k_fill
    exact ⟨rfl, rfl⟩
  trivial
local macro_rules | `(tactic| walk_at "m.at") => `(tactic| exact ⟨by rw [Is.K (by assumption), Is.C (by assumption)]; k_is, ⟨_, none, #[], by rw [Is.K (by assumption)]; k_is⟩, by decide +kernel⟩)
local macro_rules | `(tactic| walk_at "m.is") => `(tactic| first | (rw [Is.K (by assumption), Is.C (by assumption)]; k_is) | (rw [Is.K (by assumption)]; k_is))

theorem at_succeed {u : U} (hu : Is u) : MethAt u "_succeed" 88 := by walk_at "m.at"
theorem at_fail {u : U} (hu : Is u) : MethAt u "_fail" 95 := by walk_at "m.at"
theorem at_rewind {u : U} (hu : Is u) : MethAt u "_rewind" 102 := by walk_at "m.at"

set_option maxHeartbeats 4000000 in
theorem leaf_rewind {u : U} (hu : Is u) (kn : Kn u) {g : Heap} {n : Nat} {t : Tok} : Runs u g (.call (.ref 102) ⟨[.ref u.c.x, .int n t], []⟩) (fun σ => some (σ.rewind n)) 2 := by
  intro g' A s σ σ' k hR I hF
  cases hF
  refine' enter_local (d := 1) (binds := [(("self" : Str), .ref u.c.x), (("newpos" : Str), .int n t)]) ⟨none, #[], ?hf⟩ ?hb ?hcd ?hbind ?hcell ?hloc ?hco ?hgen ?hk hR I ?_
  case hf => rw [hu.K]; k_is
  case hb => rfl
  case hcd => rw [hu.K]; k_is
  case hbind => exact BindsTo.of_eq rfl
  case hcell => decide
  case hloc => exact locs rfl
  case hco => rfl
  case hgen => rfl
  case hk => rfl
  intro L h₁ I₁ F₁
  (try dsimp only)
  refine wpAny_execs_cons (wpAny_Expr (callF (pl := _) kn (at_succeed hu) (by intros; rfl) F₁ I₁ rfl rfl rfl ?_))
  refine spliced_more (Constant_none (spliced_more (nameL F₁ rfl rfl rfl (spliced_none ⟨I₁.K, wpAny_call ?_⟩))))
  refine runF (leaf_succ2 hu kn (pv := .none) rfl) F₁ I₁ hR.deeper rfl fun h₂ tk₂ I₂ F₂ _ => ?_
  exact wpAny_execs_nil ⟨rfl, h₂, _, rfl, I₂.drop⟩

set_option maxHeartbeats 4000000 in
theorem leaf_ch {u : U} (hu : Is u) (kn : Kn u) {g : Heap} {x : Str} {t : Tok} : Runs u g (.call (.ref 159) ⟨[.ref u.c.x, .str x t], []⟩) (chF u.c.T x) 2 := by
  intro g' A s σ σ' k hR I hF
  cases hF
  refine' enter_local (d := 1) (binds := [(("self" : Str), .ref u.c.x), (("ch" : Str), .str x t)]) ⟨none, #[], ?hf⟩ ?hb ?hcd ?hbind ?hcell ?hloc ?hco ?hgen ?hk hR I ?_
  case hf => rw [hu.K]; k_is
  case hb => rfl
  case hcd => rw [hu.K]; k_is
  case hbind => exact BindsTo.of_eq rfl
  case hcell => decide
  case hloc => exact locs rfl
  case hco => rfl
  case hgen => rfl
  case hk => rfl
  intro L h₁ I₁ F₁
  (try dsimp only)
  refine wpAny_execs_cons (wpAny_Assign_Name (evFld kn F₁ I₁ rfl rfl rfl ?_ ?_) (by rfl))
  · walk_at "m.is"
  intro v tp tq hv
  refine ⟨_, rfl, rfl, stL F₁ I₁ rfl rfl fun h₂ I₂ F₂ _ => ?_⟩
  (try dsimp only)
  refine wpAny_execs_cons (wpAny_If (wpAny_mono (Q := fun b s' => b = decide (charAt u.c.T σ.pos = some x) ∧ ∃ tk, s' = ⟨h₂, s.gens, s.drawn, tk, s.os⟩) (isTrue_and (wpAny_isTrue_Compare1 (nameL F₂ rfl rfl rfl (evFld kn F₂ I₂ rfl rfl rfl ?_ ?_)))) (fun b s' hb => ?_) (fun _ _ h => h)))
  · walk_at "m.is"
  · intro v' tp' tq' hv'
    refine ⟨_, rfl, rfl, lt_int (wpAny_truthy_bool ?_)⟩
    by_cases hlt : ((σ.pos : Int) < (u.c.T.length : Int))
    · rw [if_pos (decide_eq_true hlt)]
      have hlt' : σ.pos < u.c.T.cps.size := by have : u.c.T.length = u.c.T.cps.size := rfl; omega
      refine isTrue_and (wpAny_isTrue_Compare1 (Subscript_ (evFld kn F₂ I₂ rfl rfl rfl ?_ ?_)))
      · walk_at "m.is"
      intro v'' tp'' tq'' hv''
      refine ⟨_, rfl, rfl, nameL F₂ rfl rfl rfl (itemT (c := u.c.T.cps[σ.pos]) kn.tl (Array.getElem?_eq_getElem hlt') (nameL F₂ rfl rfl rfl (eq_str (wpAny_truthy_bool ?_))))⟩
      have e : charAt u.c.T σ.pos = some ⟨#[u.c.T.cps[σ.pos]]⟩ := by simp [charAt, hlt']
      rw [e]
      by_cases hx : (⟨#[u.c.T.cps[σ.pos]]⟩ : Str) = x
      · rw [if_pos (by simp [hx])]
        exact isTrue_and_nil ⟨by simp [hx], _, rfl⟩
      · rw [if_neg (by simp [hx])]
        exact ⟨by simp [hx], _, rfl⟩
    · rw [if_neg (by simp [hlt])]
      have e : charAt u.c.T σ.pos = none := by
        have : u.c.T.length = u.c.T.cps.size := rfl
        simp only [charAt, Option.map_eq_none_iff]; exact Array.getElem?_eq_none (by omega)
      exact ⟨by simp [e], _, rfl⟩
  obtain ⟨rfl, tk, rfl⟩ := hb
  by_cases hc : charAt u.c.T σ.pos = some x
  · rw [if_pos (decide_eq_true hc)]
    refine wpAny_execs_cons (wpAny_Expr (callF (pl := _) kn (at_succeed hu) (by intros; rfl) F₂ I₂ rfl rfl rfl ?_))
    refine spliced_more (nameL F₂ rfl rfl rfl (spliced_more (wpAny_BinOp (evFld kn F₂ I₂ rfl rfl rfl ?_ ?_))))
    · walk_at "m.is"
    intro v' tp' tq' hv'
    refine ⟨_, rfl, rfl, wpAny_Constant_int (add_int (spliced_none ⟨I₂.K, wpAny_call ?_⟩))⟩
    refine runF (leaf_succ2 hu kn (pv := .str x) (n := σ.pos + 1) ⟨t, rfl⟩) F₂ I₂ hR.deeper rfl fun h₃ tk₃ I₃ F₃ _ => ?_
    refine wpAny_execs_nil (wpAny_execs_nil ⟨rfl, h₃, _, rfl, ?_⟩)
    unfold chP; rw [if_pos hc]; exact I₃.drop
  · rw [if_neg (by simp [hc])]
    refine wpAny_execs_cons (wpAny_Expr (callF0 (pl := _) kn (at_fail hu) (by intros; rfl) F₂ I₂ rfl rfl rfl (wpAny_call ?_)))
    refine runF (leaf_fail hu kn) F₂ I₂ hR.deeper rfl fun h₃ tk₃ I₃ F₃ _ => ?_
    refine wpAny_execs_nil (wpAny_execs_nil ⟨rfl, h₃, _, rfl, ?_⟩)
    unfold chP; rw [if_neg hc]; exact I₃.drop
end Mine

end

/- PL3 -/
section
open PySem PySem.W PyProof.Rows PySem.Calls
set_option Elab.async false
set_option maxRecDepth 100000
namespace Mine

theorem fill3_ (_ : PySem.Challenge.rw_bd6020_01 = PySem.Challenge.rw_bd6020_01) (_ : Mine.hd.heap_39 = Mine.hd.heap_39) : True := by
  have h : PySem.Challenge.rw_bd6020_01 = PySem.Challenge.rw_bd6020_01 ∧ Mine.hd.heap_39 = Mine.hd.heap_39 := by
    k_fill
    exact ⟨rfl, rfl⟩
  trivial
local macro_rules | `(tactic| walk_at "m.at") => `(tactic| exact ⟨by rw [Is.K (by assumption), Is.C (by assumption)]; k_is, ⟨_, none, #[], by rw [Is.K (by assumption)]; k_is⟩, by decide +kernel⟩)
local macro_rules | `(tactic| walk_at "m.is") => `(tactic| first | (rw [Is.K (by assumption), Is.C (by assumption)]; k_is) | (rw [Is.K (by assumption)]; k_is))

theorem scs_len {prog : Program} {w : World} {h : Heap} {ts ds : List Addr} {r : List Sc} (x : ScsAt prog w h ts ds r) : ts.length = r.length := by
  induction x with
  | nil => rfl
  | cons _ _ _ _ ih => simp [ih]

def pushF (name : Str) : PS → Option PS := fun σ => if σ.sc.length ≤ 1000 then some { σ with sc := ⟨name, none⟩ :: σ.sc } else none

theorem get_push {h : Heap} {o o' : Obj} {a : Addr} (e : h.get? a = some o) : (h.push o').get? a = some o := Heap.get?_push_of_some _ e

set_option maxHeartbeats 4000000 in
theorem leaf_push {u : U} (hu : Is u) (kn : Kn u) {g : Heap} {name : Str} {t : Tok} : Runs u g (.call (.ref 180) ⟨[.ref u.c.x, .str name t], []⟩) (pushF name) 1 := by
  intro g' A s σ σ' k hR I hF
  unfold pushF at hF
  split at hF
  · rename_i hlen
    cases hF
    refine' enter_local (d := 0) (binds := [(("self" : Str), .ref u.c.x), (("name" : Str), .str name t)]) ⟨none, #[], ?hf⟩ ?hb ?hcd ?hbind ?hcell ?hloc ?hco ?hgen ?hk hR I ?_
    case hf => rw [hu.K]; k_is
    case hb => rfl
    case hcd => rw [hu.K]; k_is
    case hbind => exact BindsTo.of_eq rfl
    case hcell => decide
    case hloc => exact locs rfl
    case hco => rfl
    case hgen => rfl
    case hk => rfl
    intro L h₁ I₁ F₁
    (try dsimp only)
    refine wpAny_execs_cons (wpAny_Expr (MethodCall_ (pl := _) (evFld kn F₁ I₁ rfl rfl rfl ?_ ?_)))
    · walk_at "m.is"
    intro v tp tq hv
    obtain ⟨W, O, fr⟩ := I₁.own
    obtain ⟨n, el⟩ := O.scs
    refine ⟨_, rfl, rfl, Calls.getMethod_list_append el rfl rfl ?_⟩
    refine callWith_method1 (spliced_more (Tuple_ (spliced_more (nameL F₁ rfl rfl rfl (spliced_more (wpAny_Dict_empty (spliced_none (wpAny_newTuple (spliced_none ?_)))))))))
    (try dsimp only)
    refine append_at (its := (W.ts.reverse.map Value.ref).toArray) (n := n) (get_push (get_push el)) (fun h₂ hs el' => ?_) (by
      have := scs_len O.sc
      rw [sizeLine_eq]; simp; omega)
    (try dsimp only)
    refine wpAny_execs_nil ⟨rfl, h₂, _, rfl, ?_⟩
    obtain ⟨oL, eL, nL⟩ := frame_notCode F₁
    have ll : u.c.l < h₁.objs.size := Heap.lt_size el
    have k2 : ∀ a, a ≠ u.c.l → ∀ o, h₁.get? a = some o → h₂.get? a = some o := fun a h1 o e => (hs.2 a h1).trans (get_push (get_push e))
    have ed : h₂.get? h₁.objs.size = some { cls := .type "dict", data := .dict #[] } := (hs.2 _ (Nat.ne_of_gt ll)).trans (get_push (Heap.get?_push_size _ rfl))
    have sz1 : (h₁.push { cls := .type "dict", data := .dict #[] }).objs.size = h₁.objs.size + 1 := Heap.size_push ..
    have et : h₂.get? (h₁.objs.size + 1) = some { cls := .type "tuple", data := .seq #[.str name t, .ref h₁.objs.size] } := by
      refine (hs.2 _ (Nat.ne_of_gt (Nat.lt_succ_of_lt ll))).trans ?_
      show ((h₁.push _).push _).get? (h₁.objs.size + 1) = _
      rw [← sz1]; exact Heap.get?_push_size _ rfl
    have zz : h₂.objs.size = h₁.objs.size + 2 := by
      have := hs.1
      rw [Heap.size_push, sz1] at this; omega
    rw [sz1] at el'
    have O₂ := O.pushed eL nL (fun m => (fr L m).2 (.head _)) (modules_low I₁.T.nolimit) (Nat.le_refl _) (Nat.le_succ _) (fun a h1 _ o e => k2 a h1 o e) ed et ⟨_, el'⟩
    refine ⟨I₁.b, fun b o e => k2 b (fun q => ?_) o (I₁.st b o e), by have := I₁.sz; omega, (fun a ha => nomatch ha), (fun a ha => nomatch ha), _, O₂, fun a m => ⟨?_, fun m => nomatch m⟩⟩
    · rw [q, (fr u.c.l (mem_foot.mpr (.inr (.inr (.inl rfl))))).1] at e; cases e
    · rcases mem_foot.mp m with q | q | q | q | q | q
      · exact (fr a (mem_foot.mpr (.inl q))).1
      · exact (fr a (mem_foot.mpr (.inr (.inl q)))).1
      · exact (fr a (mem_foot.mpr (.inr (.inr (.inl q))))).1
      · rcases List.mem_cons.mp q with q | q
        · rw [q]; exact Heap.get?_none_of_le (Nat.le_succ_of_le I₁.sz)
        · exact (fr a (mem_foot.mpr (.inr (.inr (.inr (.inl q)))))).1
      · rcases List.mem_cons.mp q with q | q
        · rw [q]; exact Heap.get?_none_of_le I₁.sz
        · exact (fr a (mem_foot.mpr (.inr (.inr (.inr (.inr (.inl q))))))).1
      · exact (fr a (mem_foot.mpr (.inr (.inr (.inr (.inr (.inr q))))))).1
  · cases hF

theorem last_app : ∀ (p : List Value) (y : Value), kl_last (p ++ [y]) = some (p, y)
  | [], y => rfl
  | x :: p, y => by
    show (match kl_last (p ++ [y]) with | some (p, y) => some (x :: p, y) | none => some ([], x)) = _
    rw [last_app p y]

def popF (name : Str) : PS → Option PS := fun σ => match σ.sc with
  | sc :: r => if sc.name = name ∧ r.length ≤ 1000 then some { σ with sc := r } else none
  | [] => none

set_option maxHeartbeats 4000000 in
theorem leaf_pop {u : U} (hu : Is u) (kn : Kn u) {g : Heap} {name : Str} {t : Tok} : Runs u g (.call (.ref 187) ⟨[.ref u.c.x, .str name t], []⟩) (popF name) 1 := by
  intro g' A s σ σ' k hR I hF
  unfold popF at hF
  obtain ⟨val, pos, failed, err, scl⟩ := σ
  cases scl with
  | nil => cases hF
  | cons sc r =>
  dsimp only at hF
  split at hF
  · rename_i hc
    obtain ⟨hnm, hlen⟩ := hc
    cases hF
    refine' enter_local (d := 0) (binds := [(("self" : Str), .ref u.c.x), (("name" : Str), .str name t)]) ⟨none, #[], ?hf⟩ ?hb ?hcd ?hbind ?hcell ?hloc ?hco ?hgen ?hk hR I ?_
    case hf => rw [hu.K]; k_is
    case hb => rfl
    case hcd => rw [hu.K]; k_is
    case hbind => exact BindsTo.of_eq rfl
    case hcell => decide
    case hloc => exact locs rfl
    case hco => rfl
    case hgen => rfl
    case hk => rfl
    intro L h₁ I₁ F₁
    (try dsimp only)
    refine wpAny_execs_cons (Assign_Tuple (MethodCall_ (pl := _) (evFld kn F₁ I₁ rfl rfl rfl ?_ ?_)))
    · walk_at "m.is"
    intro v tp tq hv
    obtain ⟨⟨ts, ds, cs⟩, O, fr⟩ := I₁.own
    have O' := O.sc
    cases O' with
    | @cons t0 d0 _ ts ds _ tn tk o0 z1 z2 z3 z4 =>
    obtain ⟨n, el⟩ := O.scs
    dsimp only at el
    refine ⟨_, rfl, rfl, getMethod_list_of PySem.F.slot_list_pop PySem.F.type_list_pop ⟨_, el, rfl, _, rfl⟩ ⟨_, el, rfl⟩ ?_⟩
    refine callWith_method0 ?_
    obtain ⟨oL, eL, nL⟩ := frame_notCode F₁
    have lf := fr u.c.l (mem_foot.mpr (.inr (.inr (.inl rfl))))
    have Nw := all_news F₁ el lf.1 (fun q => lf.2 (q ▸ .head _))
    have e1 : ((t0 :: ts).reverse.map Value.ref) = ts.reverse.map Value.ref ++ [.ref t0] := by simp
    refine kl_pop (its := ((t0 :: ts).reverse.map Value.ref).toArray) (n := n) (p := ts.reverse.map Value.ref) (y := .ref t0) F₁ Nw (by rw [e1]; exact last_app _ _) (.head fun p hp => (mem_restOf.mp hp).2.1) (by
      have := scs_len O.sc
      simp only [List.length_cons] at this
      rw [sizeLine_eq]; simp; omega) fun h₂ F₂ N₂ => ?_
    (try dsimp only)
    obtain ⟨el', k2⟩ := of_news F₂ N₂ I₁.st
    have O₂ := Own.popped (σ := ⟨val, pos, failed, err, r⟩) (r := r) O eL nL (fun m => (fr L m).2 (.head _)) k2 ⟨_, el'⟩
    obtain ⟨oL', eL', _⟩ := frame_notCode F₂
    have I₂ : PInv u g' [L] h₂ ⟨val, pos, failed, err, r⟩ := by
      refine ⟨I₁.b, F₂.keep, Nat.le_trans F₂.above (Nat.le_of_lt F₂.ns.lt), fun a m => ?_, I₁.fr, _, O₂, fun a m => fr a ?_⟩
      · rcases List.mem_singleton.mp m with rfl; exact ⟨_, eL'⟩
      · rcases mem_foot.mp m with q | q | q | q | q | q
        · exact mem_foot.mpr (.inl q)
        · exact mem_foot.mpr (.inr (.inl q))
        · exact mem_foot.mpr (.inr (.inr (.inl q)))
        · exact mem_foot.mpr (.inr (.inr (.inr (.inl (.tail _ q)))))
        · exact mem_foot.mpr (.inr (.inr (.inr (.inr (.inl (.tail _ q))))))
        · exact mem_foot.mpr (.inr (.inr (.inr (.inr (.inr q)))))
    have nt : t0 ≠ u.c.l := O.lcls t0 (.inr (.inr (.inl (.head _))))
    have ntL : t0 ≠ L := fun q => (fr t0 (mem_foot.mpr (.inr (.inr (.inr (.inl (.head _))))))).2 (q ▸ .head _)
    have ht : IsTup h₂ t0 #[.str sc.name tn, .ref d0] := ⟨_, k2 _ nt ntL _ z1, rfl, _, rfl⟩
    obtain ⟨o3, N3, k3⟩ := same_news (s := ⟨h₂, s.gens, s.drawn, s.toks, s.os⟩) (N := []) F₂ I₂
    refine unpackN_ (items := #[.str sc.name tn, .ref d0]) F₂ N3 ht hR.hd rfl rfl fun h₃ F₃ N₃ => ?_
    obtain ⟨I₃, _⟩ := k3 _ _ F₃ N₃
    refine assignInOrder_cons (wpAny_assign_Name (stL F₃ I₃ rfl rfl fun h₄ I₄ F₄ _ => ?_))
    refine assignInOrder_cons (wpAny_assign_Name (stL F₄ I₄ rfl rfl fun h₅ I₅ F₅ _ => ?_))
    refine assignInOrder_nil ?_
    (try dsimp only)
    refine wpAny_execs_cons (wpAny_Assert_holds (wpAny_isTrue_Compare1 (nameL F₅ rfl rfl rfl (nameL F₅ rfl rfl rfl (eq_str (wpAny_truthy_bool ⟨?_, ?_⟩))))))
    · rw [hnm]; simp
    · exact wpAny_execs_nil ⟨rfl, h₅, _, rfl, I₅.drop⟩
  · cases hF
end Mine

end

/- PL4 -/
section
open PySem PySem.W PyProof.Rows PySem.Calls
set_option Elab.async false
set_option maxRecDepth 100000
namespace Mine

theorem fill4_ (_ : PySem.Challenge.rw_bd6020_01 = PySem.Challenge.rw_bd6020_01) (_ : Mine.hd.heap_39 = Mine.hd.heap_39) : True := by
  have h : PySem.Challenge.rw_bd6020_01 = PySem.Challenge.rw_bd6020_01 ∧ Mine.hd.heap_39 = Mine.hd.heap_39 := by
    k_fill
    exact ⟨rfl, rfl⟩
  trivial
local macro_rules | `(tactic| walk_at "m.at") => `(tactic| exact ⟨by rw [Is.K (by assumption), Is.C (by assumption)]; k_is, ⟨_, none, #[], by rw [Is.K (by assumption)]; k_is⟩, by decide +kernel⟩)
local macro_rules | `(tactic| walk_at "m.is") => `(tactic| first | (rw [Is.K (by assumption), Is.C (by assumption)]; k_is) | (rw [Is.K (by assumption)]; k_is))

section
variable {u : U} {A : Around} {E : Value → Shared → Prop} {s : Shared} {g : Heap} {N : List Addr} {σ : PS} {L : Addr} {m : Str → Option Value} {f : Addr} {fd : FuncData} {p1 p2 p3 p4 p5 p6 p7 : Pos} {k1 k2 : Nat}
/-- self._scopes[-1][1] -/
theorem evTop {Q : Value → Shared → Prop} {t d : Addr} {ts ds : List Addr} {cs : List Addr} {sc : Sc} {tn : Tok} (kn : Kn u) (hn : findIn u.K (.ref u.C) "_scopes" = some none) (F : Fr g L s.heap m) (I : PInv u g N s.heap σ) (hk : fd.scope.kind = .function) (hs : fd.scope.names.lookup ("self" : Str) = some .local) (hm : m "self" = some (.ref u.c.x))
    (O : Own u.prog u.w u.C u.c u.tabs s.heap σ ⟨t :: ts, d :: ds, cs⟩) (hlen : σ.sc.length ≤ 1001) (ht : s.heap.get? t = some { cls := .type "tuple", data := .seq #[.str sc.name tn, .ref d] })
    (h : ∀ tk, Q (.ref d) { s with toks := tk }) :
    wpAny (model u.prog u.w) A (eval (.Subscript (.Subscript (.Attribute (.Name "self" p1) "_scopes" p2) (.UnaryOp .USub (.Constant (.int 1) k1 p3) p4) p5) (.Constant (.int 1) k2 p6) p7) (callEnv fd L f)) Q E s := by
  refine Subscript_ (Subscript_ (evFld kn F I hk hs hm hn ?_))
  intro v tp tq hv
  refine ⟨_, rfl, rfl, UnaryOp_ (wpAny_Constant_int (PyProof.Rows.neg_int ?_))⟩
  obtain ⟨n, el⟩ := O.scs
  dsimp only at el
  have hl : s.heap.IsList u.c.l ((t :: ts).reverse.map Value.ref).toArray := ⟨_, el, rfl, _, rfl⟩
  have hz : ((t :: ts).reverse.map Value.ref).toArray.size = ts.length + 1 := by simp
  have hlen' := scs_len O.sc
  simp only [List.length_cons] at hlen'
  refine tail_any hl.typeIs slot_list_getitem.lookup (wpAny_getItem_list_neg hl (by omega) (by omega) (by omega) (x := .ref t) ?_ ?_) (by with_unfolding_all rfl)
  · rw [hz]
    have : ((-1 : Int) + ((ts.length + 1 : Nat) : Int)).toNat = ts.length := by omega
    rw [this]; simp
  refine wpAny_Constant_int ?_
  have htup : IsTup s.heap t ([.str sc.name tn, .ref d] : List Value).toArray := ⟨_, ht, rfl, _, rfl⟩
  exact item_tupleT (l := [.str sc.name tn, .ref d]) (j := 1) htup (by decide) (by decide) rfl rfl (h _)
end

def setxF (x : Str) : PS → Option PS := fun σ => match σ.sc with
  | sc :: r => if sc.xv = none ∧ r.length ≤ 1000 then some { σ with sc := ⟨sc.name, some x⟩ :: r } else none
  | [] => none

set_option maxHeartbeats 4000000 in
theorem leaf_set {u : U} (hu : Is u) (kn : Kn u) {g : Heap} {x : Str} {t t' : Tok} : Runs u g (.call (.ref 201) ⟨[.ref u.c.x, .str "x" t, .str x t'], []⟩) (setxF x) 1 := by
  intro g' A s σ σ' k hR I hF
  unfold setxF at hF
  obtain ⟨val, pos, failed, err, scl⟩ := σ
  cases scl with
  | nil => cases hF
  | cons sc r =>
  obtain ⟨nm, xv⟩ := sc
  dsimp only at hF
  split at hF
  · rename_i hc
    obtain ⟨rfl, hlen0⟩ := hc
    have hlen : (⟨val, pos, failed, err, ⟨nm, none⟩ :: r⟩ : PS).sc.length ≤ 1001 := by simp; omega
    cases hF
    refine' enter_local (d := 0) (binds := [(("self" : Str), .ref u.c.x), (("var" : Str), .str "x" t), (("val" : Str), .str x t')]) ⟨none, #[], ?hf⟩ ?hb ?hcd ?hbind ?hcell ?hloc ?hco ?hgen ?hk hR I ?_
    case hf => rw [hu.K]; k_is
    case hb => rfl
    case hcd => rw [hu.K]; k_is
    case hbind => exact BindsTo.of_eq rfl
    case hcell => decide
    case hloc => exact locs rfl
    case hco => rfl
    case hgen => rfl
    case hk => rfl
    intro L h₁ I₁ F₁
    (try dsimp only)
    obtain ⟨⟨ts, ds, cs⟩, O, fr⟩ := I₁.own
    have O' := O.sc
    cases O' with
    | @cons t0 d0 _ ts ds _ tn tk o0 z1 z2 z3 z4 =>
    refine wpAny_execs_cons (wpAny_Assign_Subscript (nameL F₁ rfl rfl rfl ?_))
    refine evTop (sc := ⟨nm, none⟩) (tn := tn) kn ?_ F₁ I₁ rfl rfl rfl O hlen z1 fun tk1 => ?_
    · walk_at "m.is"
    refine nameL (s := ⟨h₁, s.gens, s.drawn, tk1, s.os⟩) F₁ rfl rfl rfl ?_
    have hD : h₁.DictOf (PySem.strKind u.prog u.w) d0 [] := Heap.dictOf_iff.mpr ⟨o0, z2, z3⟩
    obtain ⟨oL, eL, nL⟩ := frame_notCode F₁
    have fd0 := fr d0 (mem_foot.mpr (.inr (.inr (.inr (.inr (.inl (.head _)))))))
    have ndL : d0 ≠ L := fun q => fd0.2 (q ▸ .head _)
    refine setItem_K (knd := PySem.strKind u.prog u.w) (enc := PyData.str) (k := ("x" : Str)) (kvs := []) (D := []) (g := fun o' => (d0, o') :: restOf g' h₁ L d0) PyProof.V.same_str (PySem.strKind_is _ _ _ _) (PyProof.V.Flat.str _ _) F₁ (all_news F₁ z2 fd0.1 ndL) (.head fun p hp => (mem_restOf.mp hp).2.1) z3 .nil (fun h₂ o' F₂ N₂ hd' _ => ?_) (by simp)
    obtain ⟨e1, k2⟩ := of_news F₂ N₂ I₁.st
    have O₂ := Own.laid (σ := ⟨val, pos, failed, err, r⟩) O eL nL (fun m => (fr L m).2 (.head _)) (x := x) (tk := t') k2 e1 hd'
    refine wpAny_execs_nil ⟨rfl, h₂, _, rfl, ?_⟩
    exact ⟨I₁.b, F₂.keep, Nat.le_trans F₂.above (Nat.le_of_lt F₂.ns.lt), (fun a m => nomatch m), (fun a m => nomatch m), _, O₂, fun a m => ⟨(fr a m).1, fun m => nomatch m⟩⟩
  · cases hF

set_option maxHeartbeats 4000000 in
theorem leaf_get {u : U} (hu : Is u) (kn : Kn u) {g : Heap} {A : Around} {s : Shared} {σ : PS} {x : Str} {t : Tok} {nm : Str} {r : List Sc} (hR : Room A 1) (I : PInv u g [] s.heap σ) (hsc : σ.sc = ⟨nm, some x⟩ :: r) (hlen : σ.sc.length ≤ 1001) :
    codeAny (model u.prog u.w) A (.call (.ref 194) ⟨[.ref u.c.x, .str "x" t], []⟩) (fun rr s' => ∃ tk, rr = .ok (.ret (.str x tk)) ∧ ∃ h' tk', s' = { s with heap := h', toks := tk' } ∧ PInv u g [] h' σ) s := by
  refine' enter_local (d := 0) (binds := [(("self" : Str), .ref u.c.x), (("var" : Str), .str "x" t)]) ⟨none, #[], ?hf⟩ ?hb ?hcd ?hbind ?hcell ?hloc ?hco ?hgen ?hk hR I ?_
  case hf => rw [hu.K]; k_is
  case hb => rfl
  case hcd => rw [hu.K]; k_is
  case hbind => exact BindsTo.of_eq rfl
  case hcell => decide
  case hloc => exact locs rfl
  case hco => rfl
  case hgen => rfl
  case hk => rfl
  intro L h₁ I₁ F₁
  (try dsimp only)
  obtain ⟨⟨ts, ds, cs⟩, O, fr⟩ := I₁.own
  have O' := O.sc
  rw [hsc] at O'
  cases O' with
  | @cons t0 d0 _ ts ds _ tn tk o0 z1 z2 z3 z4 =>
  have hD : h₁.DictOf (PySem.strKind u.prog u.w) d0 [(("x" : Str), .str x tk)] := Heap.dictOf_iff.mpr ⟨o0, z2, z3⟩
  have nscs : findIn u.K (.ref u.C) "_scopes" = some none := by walk_at "m.is"
  have hlen' := scs_len O.sc
  simp only [List.length_cons] at hlen'
  have lo : (d0 == sysModules) = false := beq_eq_false_iff_ne.mpr (Nat.ne_of_gt (O.hi d0 (.head _)))
  refine wpAny_execs_cons (wpAny_If (isTrue_and (isTrue_plain (evFld kn F₁ I₁ rfl rfl rfl nscs ?_))))
  intro v tp tq hv
  obtain ⟨n, el⟩ := O.scs
  refine ⟨_, rfl, rfl, wpAny_truthy_list (items := ((t0 :: ts).reverse.map Value.ref).toArray) ⟨_, el, rfl, _, rfl⟩ (by simp; omega) ?_⟩
  rw [if_pos (by simp [Array.isEmpty])]
  (try dsimp only)
  refine isTrue_and (wpAny_isTrue_Compare1 (nameL (s := ⟨h₁, s.gens, s.drawn, _, s.os⟩) F₁ rfl rfl rfl ?_))
  refine evTop (s := ⟨h₁, s.gens, s.drawn, _, s.os⟩) (sc := ⟨nm, some x⟩) (tn := tn) kn nscs F₁ I₁ rfl rfl rfl O hlen z1 fun tk1 => ?_
  refine wpAny_in_of (knd := PySem.strKind u.prog u.w) (k := ("x" : Str)) (PySem.strKind_is _ _ _ _) lo hD.mapOf (wpAny_truthy_bool ?_)
  rw [show valueAt [(("x" : Str), Value.str x tk)] ("x" : Str) = some (.str x tk) from rfl]
  rw [if_pos (by rfl)]
  refine isTrue_and_nil ?_
  rw [if_pos rfl]
  (try dsimp only)
  refine wpAny_execs_cons (wpAny_Return_some (Subscript_ ?_))
  refine evTop (s := ⟨h₁, s.gens, s.drawn, _, s.os⟩) (sc := ⟨nm, some x⟩) (tn := tn) kn nscs F₁ I₁ rfl rfl rfl O hlen z1 fun tk2 => ?_
  refine nameL (s := ⟨h₁, s.gens, s.drawn, _, s.os⟩) F₁ rfl rfl rfl ?_
  refine tail_any hD.typeIs slot_dict_getitem.lookup (wpAny_getItem_of (knd := PySem.strKind u.prog u.w) (k := ("x" : Str)) (PySem.strKind_is _ _ _ _) hD.mapOf (v := .str x tk) rfl ?_) (by with_unfolding_all rfl)
  exact ⟨tk, rfl, h₁, _, rfl, I₁.drop⟩
end Mine

end

/- PL5 -/
section
open PySem PySem.W PyProof.Rows PySem.Calls
set_option Elab.async false
set_option maxRecDepth 100000
namespace Mine

theorem fill5_ (_ : PySem.Challenge.rw_bd6020_01 = PySem.Challenge.rw_bd6020_01) (_ : Mine.hd.heap_39 = Mine.hd.heap_39) : True := by
  have h : PySem.Challenge.rw_bd6020_01 = PySem.Challenge.rw_bd6020_01 ∧ Mine.hd.heap_39 = Mine.hd.heap_39 := by
    k_fill
    exact ⟨rfl, rfl⟩
  trivial
local macro_rules | `(tactic| walk_at "m.at") => `(tactic| exact ⟨by rw [Is.K (by assumption), Is.C (by assumption)]; k_is, ⟨_, none, #[], by rw [Is.K (by assumption)]; k_is⟩, by decide +kernel⟩)
local macro_rules | `(tactic| walk_at "m.is") => `(tactic| first | (rw [Is.K (by assumption), Is.C (by assumption)]; k_is) | (rw [Is.K (by assumption)]; k_is))

theorem AllCalls.at {u : U} {g : Heap} {d : Nat} : ∀ {vs : List Value} {Fs : List (PS → Option PS)}, AllCalls u g d vs Fs → ∀ {i : Nat} {v : Value}, vs[i]? = some v → ∃ F, Fs[i]? = some F ∧ CallsTo u g v F d
  | _, _, .nil, _, _, e => by cases e
  | _, _, .cons h r, 0, _, e => by cases e; exact ⟨_, rfl, h⟩
  | _, _, .cons h r, i + 1, _, e => by
    obtain ⟨F, a, b⟩ := AllCalls.at r (i := i) (by simpa using e)
    exact ⟨F, by simpa using a, b⟩

theorem iter_notCode {l : Addr} {i : Nat} : NotCode { cls := .type "list_iterator", data := .fields #[.ref l, .int i 0] } := by
  intro vs q t d e
  cases d
  simp at e

section
variable {u : U} {A : Around} {E : Value → Shared → Prop} {s : Shared} {g gr : Heap} {N : List Addr} {σ σ' : PS} {L : Addr} {m : Str → Option Value} {f : Addr} {fd : FuncData} {p1 p2 : Pos} {x : Str}
/-- rule() -/
theorem callName {v : Value} {G : PS → Option PS} {d : Nat} {Q : Value → Shared → Prop} (hk : fd.scope.kind = .function) (hx : fd.scope.names.lookup x = some .local) (hv : m x = some v) (hc : CallsTo u gr v G d) (hg : gr.StaysIn g)
    (F : Fr g L s.heap m) (I : PInv u g (L :: N) s.heap σ) (hR : Room A d) (hG : G σ = some σ')
    (h : ∀ h' tk', PInv u g (L :: N) h' σ' → Fr g L h' m → (∀ a ∈ N, ∀ o, s.heap.get? a = some o → h'.get? a = some o) → Q .none { s with heap := h', toks := tk' })
    (hd : (x == ("__debug__" : Str)) = false := by decide)
    (he : eval (.Call (.Name x p1) [] [] p2) (callEnv fd L f) = (do callWith p2 (← eval (.Name x p1) (callEnv fd L f)) [] (backTo p2 (starEach [] (callEnv fd L f))) (backToKw p2 (keywordEach [] (callEnv fd L f)))) := by rfl) :
    wpAny (model u.prog u.w) A (eval (.Call (.Name x p1) [] [] p2) (callEnv fd L f)) Q E s := by
  have up : gr.StaysIn s.heap := fun b o e => I.st b o (hg b o e)
  refine Call_ (nameL F hk hx hv (callWith_of (P := fun h => gr.StaysIn h) rfl (fun h k => ?_) (evalArgs_nil3 ⟨up, wpAny_call ?_⟩)) hd) he
  · exact hc.keep.keeps k
  · exact callRun hc.runs up (fun b o e => .inl (hg b o e)) F I hR hG h
end

set_option maxHeartbeats 4000000 in
theorem leaf_seq {u : U} (hu : Is u) (kn : Kn u) {g : Heap} {l : Addr} {vs : List Value} {Fs : List (PS → Option PS)} {d : Nat} (hl : g.IsList l vs.toArray) (hc : AllCalls u g d vs Fs) :
    Runs u g (.call (.ref 145) ⟨[.ref u.c.x, .ref l], []⟩) (seqF Fs) (d + 1) := by
  intro g' A s σ σ' k hR I hF
  refine' enter_local (d := d) (binds := [(("self" : Str), .ref u.c.x), (("rules" : Str), .ref l)]) ⟨none, #[], ?hf⟩ ?hb ?hcd ?hbind ?hcell ?hloc ?hco ?hgen ?hk hR I ?_
  case hf => rw [hu.K]; k_is
  case hb => rfl
  case hcd => rw [hu.K]; k_is
  case hbind => exact BindsTo.of_eq rfl
  case hcell => decide
  case hloc => exact locs rfl
  case hco => rfl
  case hgen => rfl
  case hk => rfl
  intro L h₁ I₁ F₁
  (try dsimp only)
  obtain ⟨ol, hol, hlc, nl, hld⟩ := hl
  have hl' : g'.IsList l vs.toArray := ⟨ol, k _ _ hol, hlc, nl, hld⟩
  have hls : h₁.IsList l vs.toArray := ⟨ol, I₁.st _ _ (k _ _ hol), hlc, nl, hld⟩
  have nf : findIn u.K (.ref u.C) "failed" = some none := by walk_at "m.is"
  refine wpAny_execs_cons (wpAny_For (nameL F₁ rfl rfl rfl (wpAny_pyIter_list hls ?_)))
  (try dsimp only)
  have hneI : l ≠ h₁.objs.size := Nat.ne_of_lt (Heap.lt_size (I₁.st _ _ (k _ _ hol)))
  have I₂ : PInv u g' [L, h₁.objs.size] (h₁.push { cls := .type "list_iterator", data := .fields #[.ref l, .int 0 0] }) σ :=
    (I₁.priv (a := h₁.objs.size) (Nat.le_trans F₁.above (Nat.le_of_lt F₁.ns.lt)) (Heap.get?_none_of_le (Nat.le_refl _)) (fun b o e => Heap.get?_push_of_some _ e) (by rw [Heap.size_push]; omega) ⟨_, Heap.get?_push_size _ rfl⟩).reN (fun a => by simp [or_comm])
  have F₂ := F₁.push { cls := .type "list_iterator", data := .fields #[.ref l, .int 0 0] }
  refine codeAny_forLoop (fun n s' => ∃ i σi h tk m, s' = ⟨h, s.gens, s.drawn, tk, s.os⟩ ∧ PInv u g' [L, h₁.objs.size] h σi ∧ Fr g' L h m ∧ m "self" = some (.ref u.c.x) ∧ m "rules" = some (.ref l) ∧
      h.IsListIter h₁.objs.size l i ∧ i ≤ vs.length ∧ seqF (Fs.drop i) σi = some σ' ∧ n = vs.length + 1 - i) ?_ (vs.length + 1) ⟨0, σ, _, _, _, rfl, I₂, F₂, rfl, rfl, ⟨_, Heap.get?_push_size _ rfl, rfl, rfl⟩, Nat.zero_le _, hF, rfl⟩
  rintro n s' ⟨i, σi, h, tk, m, rfl, Ii, Fi, m1, m2, hit, hi, hs, rfl⟩
  have lst : ∀ {h : Heap}, g'.StaysIn h → h.IsList l vs.toArray := fun kk => ⟨ol, kk _ _ (k _ _ hol), hlc, nl, hld⟩
  by_cases hlt : i < vs.length
  · refine (Walks.list (prog := u.prog) (w := u.w) (A := A.deeper _) hR.hd h₁.objs.size l hneI vs.toArray).item i _ _ _ (by simpa using hlt) ⟨hit, lst Ii.st⟩ fun v h' tk' hP hst' keep => ?_
    have hv : vs[i]? = some v := by simpa using hP
    obtain ⟨G, hG1, hG2⟩ := hc.at hv
    obtain ⟨oi, ei, ci, di⟩ := hit
    obtain ⟨⟨oi', ei', ci', di'⟩, _⟩ := hst'
    have nL : L ≠ h₁.objs.size := Nat.ne_of_lt F₁.ns.lt
    have keep' : ∀ b, b ≠ h₁.objs.size → ∀ o, h.get? b = some o → h'.get? b = some o := fun b hb o e => keep b o (by simpa using hb) e
    have F₃ : Fr g' L h' m := by
      obtain ⟨o, es, ep, e, rr⟩ := Fi.ns
      exact ⟨⟨o, es, ep, keep' L nL _ e, rr⟩, fun b o e => keep' b (fun q => by have := Ii.fr _ (.tail _ (.head _)); rw [← q, e] at this; cases this) o (Fi.keep b o e), Fi.above⟩
    have I₃ : PInv u g' [L, h₁.objs.size] h' σi := Ii.store (.tail _ (.head _)) ei (by obtain ⟨_, _, _, _⟩ := oi; cases di; exact iter_notCode) keep' (Nat.le_trans F₃.above (Nat.le_of_lt F₃.ns.lt)) ⟨_, ei'⟩
    obtain ⟨σj, hG3, hs'⟩ : ∃ σj, G σi = some σj ∧ (if σj.failed = true then some σj else seqF (Fs.drop (i + 1)) σj) = some σ' := by
      have hd : Fs.drop i = G :: Fs.drop (i + 1) := by
        have hi' : i < Fs.length := by rw [← hc.len]; exact hlt
        rw [List.drop_eq_getElem_cons hi']
        congr 1
        rw [List.getElem?_eq_getElem hi'] at hG1
        exact Option.some.inj hG1
      rw [hd] at hs
      exact Option.bind_eq_some_iff.mp hs
    refine wpAny_assign_Name (stL F₃ I₃ rfl rfl fun h₄ I₄ F₄ k₄ => ?_)
    (try dsimp only)
    refine wpAny_execs_cons (wpAny_Expr (callName rfl rfl rfl hG2 k F₄ I₄ hR.deeper hG3 fun h₅ tk₅ I₅ F₅ k₅ => ?_))
    (try dsimp only)
    refine wpAny_execs_cons (wpAny_If (isTrue_plain (evFld kn F₅ I₅ rfl rfl ((if_neg (by decide)).trans m1) nf ?_)))
    intro v' tp tq hv'
    refine ⟨_, rfl, rfl, wpAny_truthy_bool ?_⟩
    by_cases hfl : σj.failed = true
    · rw [if_pos hfl]
      rw [if_pos hfl] at hs'
      cases hs'
      refine wpAny_execs_cons (wpAny_Return_none ?_)
      exact ⟨rfl, h₅, _, rfl, I₅.drop.drop⟩
    · rw [if_neg hfl]
      rw [if_neg hfl] at hs'
      refine wpAny_execs_nil (wpAny_execs_nil ?_)
      refine ⟨vs.length + 1 - (i + 1), by omega, i + 1, σj, h₅, _, _, rfl, I₅, F₅, ?_, ?_, ?_, hlt, hs', rfl⟩
      · exact (if_neg (by decide)).trans m1
      · exact (if_neg (by decide)).trans m2
      · exact ⟨oi', k₅ _ (.head _) _ (k₄ _ nL.symm _ ei'), ci', di'⟩
  · have hin : i = vs.length := by omega
    subst hin
    refine (Walks.list (prog := u.prog) (w := u.w) (A := A.deeper _) hR.hd h₁.objs.size l hneI vs.toArray).done _ _ _ (by simpa using ⟨hit, lst Ii.st⟩) fun h' tk' keep => ?_
    obtain ⟨oi, ei, ci, di⟩ := hit
    have nL : L ≠ h₁.objs.size := Nat.ne_of_lt F₁.ns.lt
    have keep' : ∀ b, b ≠ h₁.objs.size → ∀ o, h.get? b = some o → h'.get? b = some o := fun b hb o e => keep b o (by simpa using hb) e
    have F₃ : Fr g' L h' m := by
      obtain ⟨o, es, ep, e, rr⟩ := Fi.ns
      exact ⟨⟨o, es, ep, keep' L nL _ e, rr⟩, fun b o e => keep' b (fun q => by have := Ii.fr _ (.tail _ (.head _)); rw [← q, e] at this; cases this) o (Fi.keep b o e), Fi.above⟩
    rw [List.drop_of_length_le (by rw [← hc.len]; exact Nat.le_refl _)] at hs
    cases hs
    refine wpAny_execs_nil (wpAny_execs_nil ⟨rfl, h', _, rfl, ?_⟩)
    exact Ii.lose (.tail _ (.head _)) ei (by obtain ⟨_, _, _, _⟩ := oi; cases di; exact iter_notCode) keep' (Nat.le_trans F₃.above (Nat.le_of_lt F₃.ns.lt)) (fun b m => nomatch m)
end Mine

end

/- PL6 -/
section
open PySem PySem.W PyProof.Rows PySem.Calls
set_option Elab.async false
set_option maxRecDepth 100000
namespace Mine

theorem fill6_ (_ : PySem.Challenge.rw_bd6020_01 = PySem.Challenge.rw_bd6020_01) (_ : Mine.hd.heap_39 = Mine.hd.heap_39) : True := by
  have h : PySem.Challenge.rw_bd6020_01 = PySem.Challenge.rw_bd6020_01 ∧ Mine.hd.heap_39 = Mine.hd.heap_39 := by
    k_fill
    exact ⟨rfl, rfl⟩
  trivial
local macro_rules | `(tactic| walk_at "m.at") => `(tactic| exact ⟨by rw [Is.K (by assumption), Is.C (by assumption)]; k_is, ⟨_, none, #[], by rw [Is.K (by assumption)]; k_is⟩, by decide +kernel⟩)
local macro_rules | `(tactic| walk_at "m.is") => `(tactic| first | (rw [Is.K (by assumption), Is.C (by assumption)]; k_is) | (rw [Is.K (by assumption)]; k_is))

section
variable {u : U} {A : Around} {E : Value → Shared → Prop} {s : Shared} {g : Heap} {N : List Addr} {σ : PS} {L : Addr} {m : Str → Option Value}
/-- a step of the library that makes one object -/
theorem new_news (F : Fr g L s.heap m) (I : PInv u g (L :: N) s.heap σ) : ∃ o, News g L s.heap ((u.c.dx, o) :: restOf g s.heap L u.c.dx) ∧
    ∀ h' m' D oD, Fr g L h' m' → News g L h' ((D, oD) :: (u.c.dx, o) :: restOf g s.heap L u.c.dx) → (∀ p ∈ ((u.c.dx, o) :: restOf g s.heap L u.c.dx), p.1 < D) →
      PInv u g (L :: D :: N) h' σ ∧ h'.get? D = some oD ∧ L ≠ D ∧ ∀ b, b ≠ L → ∀ o, s.heap.get? b = some o → h'.get? b = some o := by
  obtain ⟨W, O, fr⟩ := I.own
  obtain ⟨v0, tp, tq, hv0, hd⟩ := O.dict
  have hdx := fr u.c.dx (mem_foot.mpr (.inr (.inl rfl)))
  have hdL : u.c.dx ≠ L := fun q => hdx.2 (q ▸ .head _)
  refine ⟨_, all_news F hd hdx.1 hdL, fun h' m' D oD F' N' lt => ?_⟩
  have N2 : News g L h' ((u.c.dx, _) :: restOf g s.heap L u.c.dx) := fun p hp => N' p (.tail _ hp)
  obtain ⟨e1, k⟩ := of_news F' N2 I.st
  have k' : ∀ b, b ≠ L → ∀ o, s.heap.get? b = some o → h'.get? b = some o := fun b hb o e => by
    by_cases q : b = u.c.dx
    · rw [q, hd] at e; cases e; rw [q]; exact e1
    · exact k b q hb o e
  obtain ⟨oL, eL, nL⟩ := frame_notCode F
  obtain ⟨oL', eL', _⟩ := frame_notCode F'
  obtain ⟨eD, hDL, hDg⟩ := N' _ (.head _)
  have z : g.objs.size ≤ h'.objs.size := Nat.le_trans F'.above (Nat.le_of_lt F'.ns.lt)
  have O' : Own u.prog u.w u.C u.c u.tabs h' σ W := O.setDict2 eL nL (fun q => (fr L q).2 (.head _)) (fun a _ h2 o e => k' a h2 o e) rfl ⟨_, tp, tq, hv0, k' _ hdL _ hd⟩
  have hf : ∀ a ∈ foot u.c u.tabs W, a ≠ D := fun a ha q => by
    obtain ⟨o, e⟩ := O.alive a ha
    by_cases q2 : a = u.c.dx
    · exact Nat.ne_of_lt (lt _ (.head _)) (q2.symm.trans q)
    · exact Nat.ne_of_lt (lt (a, o) (.tail _ (mem_restOf.mpr ⟨e, q2, fun q3 => (fr a ha).2 (q3 ▸ .head _), (fr a ha).1⟩))) q
  refine ⟨⟨I.b, F'.keep, z, fun a ha => ?_, fun a ha => ?_, W, O', fun a ha => ⟨(fr a ha).1, fun m => ?_⟩⟩, eD, hDL.symm, k'⟩
  · rcases List.mem_cons.mp ha with rfl | ha
    · exact ⟨_, eL'⟩
    · rcases List.mem_cons.mp ha with rfl | ha
      · exact ⟨_, eD⟩
      · by_cases q : a = L
        · rw [q]; exact ⟨_, eL'⟩
        · obtain ⟨o, e⟩ := I.al a (.tail _ ha); exact ⟨o, k' a q o e⟩
  · rcases List.mem_cons.mp ha with rfl | ha
    · exact I.fr _ (.head _)
    · rcases List.mem_cons.mp ha with rfl | ha
      · exact hDg
      · exact I.fr _ (.tail _ ha)
  · rcases List.mem_cons.mp m with rfl | m
    · exact (fr _ ha).2 (.head _)
    · rcases List.mem_cons.mp m with q | m
      · exact hf a ha q
      · exact (fr a ha).2 (.tail _ m)

theorem pick_init {vs : List Value} (h : vs ≠ []) : slicePick vs.toArray none (some (-1)) none = (vs.take (vs.length - 1)).toArray := by
  have e : sliceBounds none (some (-1)) none vs.toArray.size = (((0 : Nat) : Int), ((vs.toArray.size - 1 : Nat) : Int), 1) := by
    have : vs.length ≠ 0 := fun q => h (List.length_eq_zero_iff.mp q)
    simp only [sliceBounds, Option.getD_none, show (1 : Int) > 0 by decide, if_true, if_pos (show (-1 : Int) < 0 by decide), List.size_toArray]
    congr 1
    congr 1
    omega
  rw [kmk_pick_nat _ e]
  simp

end

set_option maxHeartbeats 8000000 in
theorem leaf_choose {u : U} (hu : Is u) (kn : Kn u) {g : Heap} {l : Addr} {vs : List Value} {Fs : List (PS → Option PS)} {d : Nat} (hl : g.IsList l vs.toArray) (hc : AllCalls u g (d + 2) vs Fs) (hz : vs.length ≤ 1000) :
    Runs u g (.call (.ref 152) ⟨[.ref u.c.x, .ref l], []⟩) (chooseF Fs) (d + 3) := by
  intro g' A s σ σ' k hR I hF
  refine' enter_local (d := d + 2) (binds := [(("self" : Str), .ref u.c.x), (("rules" : Str), .ref l)]) ⟨none, #[], ?hf⟩ ?hb ?hcd ?hbind ?hcell ?hloc ?hco ?hgen ?hk hR I ?_
  case hf => rw [hu.K]; k_is
  case hb => rfl
  case hcd => rw [hu.K]; k_is
  case hbind => exact BindsTo.of_eq rfl
  case hcell => decide
  case hloc => exact locs rfl
  case hco => rfl
  case hgen => rfl
  case hk => rfl
  intro L h₁ I₁ F₁
  (try dsimp only)
  obtain ⟨ol, hol, hlc, nl, hld⟩ := hl
  have hne : vs ≠ [] := by
    rintro rfl
    cases hc
    unfold chooseF chooseGo at hF
    cases hF
  have hFl : Fs.length = vs.length := hc.len.symm
  have lst : ∀ {h : Heap}, g'.StaysIn h → h.IsList l vs.toArray := fun kk => ⟨ol, kk _ _ (k _ _ hol), hlc, nl, hld⟩
  have nf : findIn u.K (.ref u.C) "failed" = some none := by walk_at "m.is"
  have np : findIn u.K (.ref u.C) "pos" = some none := by walk_at "m.is"
  refine wpAny_execs_cons (wpAny_Assign_Name (evFld kn F₁ I₁ rfl rfl rfl np ?_) (by rfl))
  intro v tp tq hv
  refine ⟨_, rfl, rfl, stL F₁ I₁ rfl rfl fun h₂ I₂ F₂ _ => ?_⟩
  (try dsimp only)
  refine wpAny_execs_cons (wpAny_For (Subscript_ (nameL F₂ rfl rfl rfl (wpAny_Slice ?_))))
  refine wpAny_pure (UnaryOp_ (wpAny_Constant_int (PyProof.Rows.neg_int (wpAny_pure ?_))))
  (try dsimp only)
  obtain ⟨oN, hN, hnew⟩ := new_news (s := ⟨h₂, s.gens, s.drawn, s.toks, s.os⟩) F₂ I₂
  have hvl : vs.toArray.size = vs.length := rfl
  refine kmk_slice (s := ⟨h₂, s.gens, s.drawn, _, s.os⟩) F₂ hN (lst I₂.st) .none (.int _ _) (fun D h₃ F₃ N₃ lt₃ => ?_) (by with_unfolding_all rfl) (by intro _; with_unfolding_all rfl) (by rw [hvl, sizeLine_eq]; omega)
  obtain ⟨I₃, eD, hLD, k₃⟩ := hnew h₃ _ D _ F₃ N₃ lt₃
  rw [pick_init hne] at eD
  (try dsimp only at eD)
  have isD : ∀ {h : Heap}, h.get? D = some (listOf (vs.take (vs.length - 1)).toArray 0) → h.IsList D (vs.take (vs.length - 1)).toArray := fun e => ⟨_, e, rfl, _, rfl⟩
  refine wpAny_pyIter_list (isD eD) ?_
  (try dsimp only)
  have hDit : D ≠ h₃.objs.size := Nat.ne_of_lt (Heap.lt_size eD)
  have I₄ : PInv u g' [L, D, h₃.objs.size] (h₃.push { cls := .type "list_iterator", data := .fields #[.ref D, .int 0 0] }) σ :=
    (I₃.priv (a := h₃.objs.size) (Nat.le_trans F₃.above (Nat.le_of_lt F₃.ns.lt)) (Heap.get?_none_of_le (Nat.le_refl _)) (fun b o e => Heap.get?_push_of_some _ e) (by rw [Heap.size_push]; omega) ⟨_, Heap.get?_push_size _ rfl⟩).reN (fun a => by simp only [List.mem_cons, List.not_mem_nil, or_false]; constructor <;> (rintro (q | q | q) <;> simp [q]))
  have F₄ := F₃.push { cls := .type "list_iterator", data := .fields #[.ref D, .int 0 0] }
  have nL : L ≠ h₃.objs.size := Nat.ne_of_lt F₃.ns.lt
  have hpos : 0 < vs.length := List.length_pos_iff.mpr hne
  refine codeAny_forLoop (fun n s' => ∃ i σi h tk m, s' = ⟨h, s.gens, s.drawn, tk, s.os⟩ ∧ PInv u g' [L, D, h₃.objs.size] h σi ∧ Fr g' L h m ∧ m "self" = some (.ref u.c.x) ∧ m "rules" = some (.ref l) ∧ m "p" = some (.int σ.pos tp) ∧
      h.get? D = some (listOf (vs.take (vs.length - 1)).toArray 0) ∧ h.IsListIter h₃.objs.size D i ∧ i ≤ vs.length - 1 ∧ chooseGo σ.pos (Fs.drop i) σi = some σ' ∧ n = vs.length + 1 - i) ?_ (vs.length + 1)
      ⟨0, σ, _, _, _, rfl, I₄, F₄, rfl, rfl, rfl, Heap.get?_push_of_some _ eD, ⟨_, Heap.get?_push_size _ rfl, rfl, rfl⟩, Nat.zero_le _, hF, rfl⟩
  rintro n s' ⟨i, σi, h, tk, m, rfl, Ii, Fi, m1, m2, m3, eDi, hit, hi, hs, rfl⟩
  have tsz : (vs.take (vs.length - 1)).toArray.size = vs.length - 1 := by simp
  by_cases hlt : i < vs.length - 1
  · refine (Walks.list (prog := u.prog) (w := u.w) (A := A.deeper _) hR.hd h₃.objs.size D hDit (vs.take (vs.length - 1)).toArray).item i _ _ _ (by rw [tsz]; exact hlt) ⟨hit, isD eDi⟩ fun v h' tk' hP hst' keep => ?_
    have hv : vs[i]? = some v := by
      have := hP
      simp only [List.getElem?_toArray, List.getElem?_take, hlt, if_true] at this
      exact this
    obtain ⟨G, hG1, hG2⟩ := hc.at hv
    obtain ⟨oi, ei, ci, di⟩ := hit
    obtain ⟨⟨oi', ei', ci', di'⟩, _⟩ := hst'
    have keep' : ∀ b, b ≠ h₃.objs.size → ∀ o, h.get? b = some o → h'.get? b = some o := fun b hb o e => keep b o (by simpa using hb) e
    have F₅ : Fr g' L h' m := by
      obtain ⟨o, es, ep, e, rr⟩ := Fi.ns
      exact ⟨⟨o, es, ep, keep' L nL _ e, rr⟩, fun b o e => keep' b (fun q => by have := Ii.fr _ (.tail _ (.tail _ (.head _))); rw [← q, e] at this; cases this) o (Fi.keep b o e), Fi.above⟩
    have I₅ : PInv u g' [L, D, h₃.objs.size] h' σi := Ii.store (.tail _ (.tail _ (.head _))) ei (by obtain ⟨_, _, _, _⟩ := oi; cases di; exact iter_notCode) keep' (Nat.le_trans F₅.above (Nat.le_of_lt F₅.ns.lt)) ⟨_, ei'⟩
    obtain ⟨H, r, hd2, hd1⟩ : ∃ H r, Fs.drop (i + 1) = H :: r ∧ Fs.drop i = G :: H :: r := by
      have hi1 : i + 1 < Fs.length := by omega
      have hi' : i < Fs.length := by omega
      refine ⟨Fs[i + 1], Fs.drop (i + 2), List.drop_eq_getElem_cons hi1, ?_⟩
      rw [List.drop_eq_getElem_cons hi', List.drop_eq_getElem_cons hi1]
      congr 1
      rw [List.getElem?_eq_getElem hi'] at hG1
      exact Option.some.inj hG1
    obtain ⟨σj, hG3, hs'⟩ : ∃ σj, G σi = some σj ∧ (if σj.failed = true then chooseGo σ.pos (H :: r) (σj.rewind σ.pos) else some σj) = some σ' := by
      rw [hd1] at hs
      exact Option.bind_eq_some_iff.mp hs
    refine wpAny_assign_Name (stL F₅ I₅ rfl rfl fun h₆ I₆ F₆ k₆ => ?_)
    (try dsimp only)
    refine wpAny_execs_cons (wpAny_Expr (callName rfl rfl rfl hG2 k F₆ I₆ hR.deeper hG3 fun h₇ tk₇ I₇ F₇ k₇ => ?_))
    (try dsimp only)
    refine wpAny_execs_cons (wpAny_If (isTrue_not (isTrue_plain (evFld kn F₇ I₇ rfl rfl ((if_neg (by decide)).trans m1) nf ?_))))
    intro v' tp' tq' hv'
    refine ⟨_, rfl, rfl, wpAny_truthy_bool ?_⟩
    by_cases hfl : σj.failed = true
    · rw [if_neg (by simp [hfl])]
      rw [if_pos hfl] at hs'
      refine wpAny_execs_nil ?_
      refine wpAny_execs_cons (wpAny_Expr (callF (pl := _) kn (at_rewind hu) (by intros; rfl) F₇ I₇ rfl rfl ((if_neg (by decide)).trans m1) ?_))
      refine spliced_more (nameL F₇ rfl rfl ((if_neg (by decide)).trans m3) (spliced_none ⟨I₇.K, wpAny_call ?_⟩))
      refine runF (leaf_rewind hu kn) F₇ I₇ (hR.deeper.less (by omega)) rfl fun h₈ tk₈ I₈ F₈ k₈ => ?_
      refine wpAny_execs_nil ?_
      refine ⟨vs.length + 1 - (i + 1), by omega, i + 1, σj.rewind σ.pos, h₈, _, _, rfl, I₈, F₈, ?_, ?_, ?_, ?_, ?_, hlt, ?_, rfl⟩
      · exact (if_neg (by decide)).trans m1
      · exact (if_neg (by decide)).trans m2
      · exact (if_neg (by decide)).trans m3
      · exact k₈ _ (.head _) _ (k₇ _ (.head _) _ (k₆ _ hLD.symm _ (keep' _ hDit _ eDi)))
      · exact ⟨oi', k₈ _ (.tail _ (.head _)) _ (k₇ _ (.tail _ (.head _)) _ (k₆ _ nL.symm _ ei')), ci', di'⟩
      · rw [hd2]; exact hs'
    · rw [if_pos (by simp [hfl])]
      rw [if_neg hfl] at hs'
      cases hs'
      refine wpAny_execs_cons (wpAny_Return_none ?_)
      exact ⟨rfl, h₇, _, rfl, I₇.drop.drop.drop⟩
  · have hin : i = vs.length - 1 := by omega
    subst hin
    refine (Walks.list (prog := u.prog) (w := u.w) (A := A.deeper _) hR.hd h₃.objs.size D hDit (vs.take (vs.length - 1)).toArray).done _ _ _ (by rw [tsz]; exact ⟨hit, isD eDi⟩) fun h' tk' keep => ?_
    obtain ⟨oi, ei, ci, di⟩ := hit
    have keep' : ∀ b, b ≠ h₃.objs.size → ∀ o, h.get? b = some o → h'.get? b = some o := fun b hb o e => keep b o (by simpa using hb) e
    have F₅ : Fr g' L h' m := by
      obtain ⟨o, es, ep, e, rr⟩ := Fi.ns
      exact ⟨⟨o, es, ep, keep' L nL _ e, rr⟩, fun b o e => keep' b (fun q => by have := Ii.fr _ (.tail _ (.tail _ (.head _))); rw [← q, e] at this; cases this) o (Fi.keep b o e), Fi.above⟩
    have I₅ : PInv u g' [L] h' σi := Ii.lose (.tail _ (.tail _ (.head _))) ei (by obtain ⟨_, _, _, _⟩ := oi; cases di; exact iter_notCode) keep' (Nat.le_trans F₅.above (Nat.le_of_lt F₅.ns.lt)) (fun b mb => by rcases List.mem_singleton.mp mb with rfl; exact ⟨.head _, nL⟩)
    obtain ⟨y, hy⟩ : ∃ y, vs[vs.length - 1]? = some y := ⟨vs[vs.length - 1], List.getElem?_eq_getElem (by omega)⟩
    obtain ⟨G, hG1, hG2⟩ := hc.at hy
    have hd1 : Fs.drop (vs.length - 1) = [G] := by
      have hi' : vs.length - 1 < Fs.length := by omega
      rw [List.drop_eq_getElem_cons hi', List.drop_of_length_le (by omega)]
      rw [List.getElem?_eq_getElem hi'] at hG1
      rw [Option.some.inj hG1]
    rw [hd1] at hs
    have hs' : G σi = some σ' := hs
    refine wpAny_execs_nil ?_
    have up : g.StaysIn h' := fun b o e => I₅.st b o (k b o e)
    refine wpAny_execs_cons (wpAny_Expr (Call_ (Subscript_ (nameL F₅ rfl rfl m2 (UnaryOp_ (wpAny_Constant_int (PyProof.Rows.neg_int ?_)))))))
    refine tail_any (lst I₅.st).typeIs slot_list_getitem.lookup (wpAny_getItem_list_neg (lst I₅.st) (by omega) (by omega) (by omega) (x := y) ?_ ?_) (by with_unfolding_all rfl)
    · have : ((-1 : Int) + ((vs.toArray.size : Nat) : Int)).toNat = vs.length - 1 := by rw [List.size_toArray]; omega
      rw [this]; simpa using hy
    refine callWith_of (P := fun h => g.StaysIn h) rfl (fun h kk => ?_) (evalArgs_nil3 ⟨up, wpAny_call ?_⟩)
    · exact hG2.keep.keeps kk
    refine callRun hG2.runs up (fun b o e => .inl (k b o e)) F₅ I₅ hR.deeper hs' fun h₆ tk₆ I₆ F₆ _ => ?_
    exact wpAny_execs_nil ⟨rfl, h₆, _, rfl, I₆.drop⟩
end Mine

end

/- PL7 -/
section
open PySem PySem.W PyProof.Rows PySem.Calls
set_option Elab.async false
set_option maxRecDepth 100000
namespace Mine

theorem fill7_ (_ : PySem.Challenge.rw_bd6020_01 = PySem.Challenge.rw_bd6020_01) (_ : Mine.hd.heap_39 = Mine.hd.heap_39) : True := by
  have h : PySem.Challenge.rw_bd6020_01 = PySem.Challenge.rw_bd6020_01 ∧ Mine.hd.heap_39 = Mine.hd.heap_39 := by
    k_fill
    exact ⟨rfl, rfl⟩
  trivial
local macro_rules | `(tactic| walk_at "m.at") => `(tactic| exact ⟨by rw [Is.K (by assumption), Is.C (by assumption)]; k_is, ⟨_, none, #[], by rw [Is.K (by assumption)]; k_is⟩, by decide +kernel⟩)
local macro_rules | `(tactic| walk_at "m.is") => `(tactic| first | (rw [Is.K (by assumption), Is.C (by assumption)]; k_is) | (rw [Is.K (by assumption)]; k_is))

theorem PV.handed {pv : PV} {v : Value} (h : pv.is v) : handedIn v = true := by
  cases pv with
  | none => cases h; rfl
  | str x => obtain ⟨t, rfl⟩ := h; rfl
  | any => exact h

set_option maxHeartbeats 8000000 in
theorem leaf_star {u : U} (hu : Is u) (kn : Kn u) {g : Heap} {v : Value} {G : PS → Option PS} {d : Nat} (hc : CallsTo u g v G (d + 2)) :
    Runs u g (.call (.ref 138) ⟨[.ref u.c.x, v], []⟩) (starF G) (d + 3) := by
  intro g' A s σ σ' k hR I hF
  refine' enter_local (d := d + 2) (binds := [(("self" : Str), .ref u.c.x), (("rule" : Str), v), (("vs" : Str), .none)]) ⟨none, #[], ?hf⟩ ?hb ?hcd ?hbind ?hcell ?hloc ?hco ?hgen ?hk hR I ?_
  case hf => rw [hu.K]; k_is
  case hb => rfl
  case hcd => rw [hu.K]; k_is
  case hbind => exact binds_K I.K rfl (by rw [hu.K]; k_is) rfl rfl rfl
  case hcell => decide
  case hloc => exact locs rfl
  case hco => rfl
  case hgen => rfl
  case hk => rfl
  intro L h₁ I₁ F₁
  (try dsimp only)
  have nf : findIn u.K (.ref u.C) "failed" = some none := by walk_at "m.is"
  have np : findIn u.K (.ref u.C) "pos" = some none := by walk_at "m.is"
  have nv : findIn u.K (.ref u.C) "val" = some none := by walk_at "m.is"
  refine wpAny_execs_cons (wpAny_Assign_Name (BoolOp_or (nameL F₁ rfl rfl rfl (truthy_none ?_))) (by rfl))
  rw [if_neg (by decide)]
  refine BoolOp_one (List_ (spliced_none (wpAny_newList ?_ (by simp))))
  (try dsimp only)
  have hfr : h₁.get? h₁.objs.size = none := Heap.get?_none_of_le (Nat.le_refl _)
  have LL : L ≠ h₁.objs.size := Nat.ne_of_lt F₁.ns.lt
  have I₂ : PInv u g' [L, h₁.objs.size] (h₁.push { cls := .type "list", data := .seq #[] }) σ :=
    (I₁.priv (a := h₁.objs.size) (Nat.le_trans F₁.above (Nat.le_of_lt F₁.ns.lt)) hfr (fun b o e => Heap.get?_push_of_some _ e) (by rw [Heap.size_push]; omega) ⟨_, Heap.get?_push_size _ rfl⟩).reN (fun a => by simp [or_comm])
  have F₂ := F₁.push { cls := .type "list", data := .seq #[] }
  refine stL F₂ I₂ rfl rfl fun h₃ I₃ F₃ k₃ => ?_
  (try dsimp only)
  have e₃ : h₃.get? h₁.objs.size = some { cls := .type "list", data := .seq #[] 0 } := k₃ _ LL.symm _ (Heap.get?_push_size _ rfl)
  refine wpAny_execs_cons (wpAny_While ?_)
  refine codeAny_whileLoop (fun n s' => ∃ σi h tk m its, s' = ⟨h, s.gens, s.drawn, tk, s.os⟩ ∧ PInv u g' [L, h₁.objs.size] h σi ∧ Fr g' L h m ∧ m "self" = some (.ref u.c.x) ∧ m "rule" = some v ∧ m "vs" = some (.ref h₁.objs.size) ∧
      (∃ c, h.get? h₁.objs.size = some { cls := .type "list", data := .seq its c }) ∧ its.size + n = 400 ∧ starGo G n σi = some σ') ?_ 400 ⟨σ, h₃, _, _, #[], rfl, I₃, F₃, rfl, rfl, rfl, ⟨0, e₃⟩, rfl, hF⟩
  rintro n s' ⟨σi, h, tk, m, its, rfl, Ii, Fi, m1, m2, m3, ⟨c, ei⟩, hn, hs⟩
  refine isTrue_plain (Constant_bool (wpAny_truthy_bool ?_))
  rw [if_pos rfl]
  cases n with
  | zero => cases hs
  | succ n =>
  obtain ⟨σj, hG, hs'⟩ : ∃ σj, G σi = some σj ∧ (if σj.failed = true then some ((σj.rewind σi.pos).succ .any none) else starGo G n σj) = some σ' := Option.bind_eq_some_iff.mp hs
  refine wpAny_execs_cons (wpAny_Assign_Name (evFld kn Fi Ii rfl rfl m1 np ?_) (by rfl))
  intro v1 tp tq hv1
  refine ⟨_, rfl, rfl, stL Fi Ii rfl rfl fun h₄ I₄ F₄ k₄ => ?_⟩
  (try dsimp only)
  refine wpAny_execs_cons (wpAny_Expr (callName rfl rfl ((if_neg (by decide)).trans m2) hc k F₄ I₄ hR.deeper hG fun h₅ tk₅ I₅ F₅ k₅ => ?_))
  (try dsimp only)
  have m1' := (if_neg (by decide) : (if ("self" : Str) = "p" then some (Value.int σi.pos tp) else m "self") = m "self").trans m1
  have m3' := (if_neg (by decide) : (if ("vs" : Str) = "p" then some (Value.int σi.pos tp) else m "vs") = m "vs").trans m3
  have e₅ := k₅ _ (.head _) _ (k₄ _ LL.symm _ ei)
  refine wpAny_execs_cons (wpAny_If (isTrue_plain (evFld kn F₅ I₅ rfl rfl m1' nf ?_)))
  intro v2 tp2 tq2 hv2
  refine ⟨_, rfl, rfl, wpAny_truthy_bool ?_⟩
  by_cases hfl : σj.failed = true
  · rw [if_pos hfl]
    rw [if_pos hfl] at hs'
    cases hs'
    refine wpAny_execs_cons (wpAny_Expr (callF (pl := _) kn (at_rewind hu) (by intros; rfl) F₅ I₅ rfl rfl m1' ?_))
    refine spliced_more (nameL F₅ rfl rfl (if_pos rfl) (spliced_none ⟨I₅.K, wpAny_call ?_⟩))
    refine runF (leaf_rewind hu kn) F₅ I₅ (hR.deeper.less (by omega)) rfl fun h₆ tk₆ I₆ F₆ k₆ => ?_
    refine wpAny_execs_cons (wpAny_Break ?_)
    (try dsimp only)
    refine wpAny_execs_cons (wpAny_Expr (callF (pl := _) kn (at_succeed hu) (by intros; rfl) F₆ I₆ rfl rfl m1' ?_))
    refine spliced_more (nameL F₆ rfl rfl m3' (spliced_none ⟨I₆.K, wpAny_call ?_⟩))
    refine runF (leaf_succ hu kn (pv := .any) rfl) F₆ I₆ (hR.deeper.less (by omega)) rfl fun h₇ tk₇ I₇ F₇ k₇ => ?_
    exact wpAny_execs_nil ⟨rfl, h₇, _, rfl, I₇.drop.drop⟩
  · rw [if_neg hfl]
    rw [if_neg hfl] at hs'
    refine wpAny_execs_nil ?_
    refine wpAny_execs_cons (wpAny_Expr (MethodCall_ (pl := _) (nameL F₅ rfl rfl m3' (Calls.getMethod_list_append e₅ rfl rfl ?_))))
    refine callWith_method1 (spliced_more (evFld kn F₅ I₅ rfl rfl m1' nv ?_))
    intro v3 tp3 tq3 hv3
    refine ⟨_, rfl, PV.handed hv3, spliced_none ?_⟩
    refine append_at e₅ (fun h₆ hb e₆ => ?_) (by rw [sizeLine_eq]; omega)
    (try dsimp only)
    have keep : ∀ b, b ≠ h₁.objs.size → ∀ o, h₅.get? b = some o → h₆.get? b = some o := fun b hne o e => (hb.2 b hne).trans e
    have F₆ : Fr g' L h₆ (fun y => if y = ("p" : Str) then some (Value.int σi.pos tp) else m y) := by
      obtain ⟨o, es, ep, e, rr⟩ := F₅.ns
      exact ⟨⟨o, es, ep, keep L LL _ e, rr⟩, fun b o e => keep b (fun q => by have := I₅.fr _ (.tail _ (.head _)); rw [← q, e] at this; cases this) o (F₅.keep b o e), F₅.above⟩
    have I₆ : PInv u g' [L, h₁.objs.size] h₆ σj := I₅.store (.tail _ (.head _)) e₅ (by intro vs q t d; cases d) keep (Nat.le_trans F₆.above (Nat.le_of_lt F₆.ns.lt)) ⟨_, e₆⟩
    refine wpAny_execs_nil ?_
    refine ⟨n, by omega, σj, h₆, _, _, its.push v3, rfl, I₆, F₆, m1', ?_, m3', ⟨_, e₆⟩, by rw [Array.size_push]; omega, hs'⟩
    exact (if_neg (by decide)).trans m2
end Mine

end

/- PL8 -/
section
open PySem PySem.W PyProof.Rows PySem.Calls
set_option Elab.async false
set_option maxRecDepth 100000
namespace Mine

theorem fill8_ (_ : PySem.Challenge.rw_bd6020_01 = PySem.Challenge.rw_bd6020_01) (_ : Mine.hd.heap_39 = Mine.hd.heap_39) : True := by
  have h : PySem.Challenge.rw_bd6020_01 = PySem.Challenge.rw_bd6020_01 ∧ Mine.hd.heap_39 = Mine.hd.heap_39 := by
    k_fill
    exact ⟨rfl, rfl⟩
  trivial
local macro_rules | `(tactic| walk_at "m.at") => `(tactic| exact ⟨by rw [Is.K (by assumption), Is.C (by assumption)]; k_is, ⟨_, none, #[], by rw [Is.K (by assumption)]; k_is⟩, by decide +kernel⟩)
local macro_rules | `(tactic| walk_at "m.is") => `(tactic| first | (rw [Is.K (by assumption), Is.C (by assumption)]; k_is) | (rw [Is.K (by assumption)]; k_is))

theorem at_set {u : U} (hu : Is u) : MethAt u "_set" 201 := by walk_at "m.at"
theorem at_ch {u : U} (hu : Is u) : MethAt u "_ch" 159 := by walk_at "m.at"

set_option maxHeartbeats 8000000 in
theorem leaf_not {u : U} (hu : Is u) (kn : Kn u) {g : Heap} {v : Value} {G : PS → Option PS} {d : Nat} (hc : CallsTo u g v G (d + 2)) :
    Runs u g (.call (.ref 116) ⟨[.ref u.c.x, v], []⟩) (notF G) (d + 3) := by
  intro g' A s σ σ' k hR I hF
  refine' enter_local (d := d + 2) (binds := [(("self" : Str), .ref u.c.x), (("rule" : Str), v)]) ⟨none, #[], ?hf⟩ ?hb ?hcd ?hbind ?hcell ?hloc ?hco ?hgen ?hk hR I ?_
  case hf => rw [hu.K]; k_is
  case hb => rfl
  case hcd => rw [hu.K]; k_is
  case hbind => exact BindsTo.of_eq rfl
  case hcell => decide
  case hloc => exact locs rfl
  case hco => rfl
  case hgen => rfl
  case hk => rfl
  intro L h₁ I₁ F₁
  (try dsimp only)
  have nf : findIn u.K (.ref u.C) "failed" = some none := by walk_at "m.is"
  have np : findIn u.K (.ref u.C) "pos" = some none := by walk_at "m.is"
  have ne : findIn u.K (.ref u.C) "errpos" = some none := by walk_at "m.is"
  obtain ⟨σj, hG, hs'⟩ := Option.bind_eq_some_iff.mp hF
  refine wpAny_execs_cons (wpAny_Assign_Name (evFld kn F₁ I₁ rfl rfl rfl np ?_) (by rfl))
  intro v1 tp tq hv1
  refine ⟨_, rfl, rfl, stL F₁ I₁ rfl rfl fun h₂ I₂ F₂ _ => ?_⟩
  (try dsimp only)
  refine wpAny_execs_cons (wpAny_Assign_Name (evFld kn F₂ I₂ rfl rfl rfl ne ?_) (by rfl))
  intro v2 tp2 tq2 hv2
  refine ⟨_, rfl, rfl, stL F₂ I₂ rfl rfl fun h₃ I₃ F₃ _ => ?_⟩
  (try dsimp only)
  refine wpAny_execs_cons (wpAny_Expr (callName rfl rfl rfl hc k F₃ I₃ hR.deeper hG fun h₄ tk₄ I₄ F₄ k₄ => ?_))
  (try dsimp only)
  refine wpAny_execs_cons (wpAny_If (isTrue_plain (evFld kn F₄ I₄ rfl rfl rfl nf ?_)))
  intro v3 tp3 tq3 hv3
  refine ⟨_, rfl, rfl, wpAny_truthy_bool ?_⟩
  by_cases hfl : σj.failed = true
  · rw [if_pos hfl]
    rw [if_pos hfl] at hs'
    cases hs'
    refine wpAny_execs_cons (wpAny_Expr (callF (pl := _) kn (at_succeed hu) (by intros; rfl) F₄ I₄ rfl rfl rfl ?_))
    refine spliced_more (Constant_none (spliced_more (nameL F₄ rfl rfl rfl (spliced_none ⟨I₄.K, wpAny_call ?_⟩))))
    refine runF (leaf_succ2 hu kn (pv := .none) rfl) F₄ I₄ (hR.deeper.less (by omega)) rfl fun h₅ tk₅ I₅ F₅ _ => ?_
    exact wpAny_execs_nil (wpAny_execs_nil ⟨rfl, h₅, _, rfl, I₅.drop⟩)
  · rw [if_neg hfl]
    rw [if_neg hfl] at hs'
    cases hs'
    refine wpAny_execs_cons (wpAny_Expr (callF (pl := _) kn (at_rewind hu) (by intros; rfl) F₄ I₄ rfl rfl rfl ?_))
    refine spliced_more (nameL F₄ rfl rfl rfl (spliced_none ⟨I₄.K, wpAny_call ?_⟩))
    refine runF (leaf_rewind hu kn) F₄ I₄ (hR.deeper.less (by omega)) rfl fun h₅ tk₅ I₅ F₅ _ => ?_
    (try dsimp only)
    refine wpAny_execs_cons ?_
    refine plainObj_wpAny_Assign_Attribute ?_ (by rfl)
    refine nameL F₅ rfl rfl rfl ?_
    refine nameL F₅ rfl rfl rfl ?_
    refine setFld (σ' := { σj.rewind σ.pos with err := σ.err }) (pv' := fun v _ _ _ => v) (p' := fun _ p _ _ => p) (f' := fun _ _ f _ => f) (e' := fun _ _ _ _ => .int σ.err tq2) kn F₅ I₅ ?_ ?_ ?_ rfl ?_ ?_
    · walk_at "m.is"
    · intros; rfl
    · intros; rfl
    · intro v0 tp tq hv; exact ⟨_, tp, tq2, hv, rfl, rfl, rfl, rfl⟩
    intro h₆ I₆ F₆ _
    (try dsimp only)
    refine wpAny_execs_cons (wpAny_Expr (callF0 (pl := _) kn (at_fail hu) (by intros; rfl) F₆ I₆ rfl rfl rfl (wpAny_call ?_)))
    refine runF (leaf_fail hu kn) F₆ I₆ (hR.deeper.less (by omega)) rfl fun h₇ tk₇ I₇ F₇ _ => ?_
    exact wpAny_execs_nil (wpAny_execs_nil ⟨rfl, h₇, _, rfl, I₇.drop⟩)

/-- a binding of a str to «x» -/
def bindS (var : Str) (F : PS → Option PS) : PS → Option PS := fun σ => (F σ).bind fun σ' =>
  if σ'.failed then some σ' else match σ'.val with
    | .str x => if var = "x" then setxF x σ' else none
    | _ => none

set_option maxHeartbeats 8000000 in
theorem leaf_bind {u : U} (hu : Is u) (kn : Kn u) {g : Heap} {v : Value} {var : Str} {t : Tok} {G : PS → Option PS} {d : Nat} (hc : CallsTo u g v G (d + 1)) :
    Runs u g (.call (.ref 109) ⟨[.ref u.c.x, v, .str var t], []⟩) (bindS var G) (d + 2) := by
  intro g' A s σ σ' k hR I hF
  refine' enter_local (d := d + 1) (binds := [(("self" : Str), .ref u.c.x), (("rule" : Str), v), (("var" : Str), .str var t)]) ⟨none, #[], ?hf⟩ ?hb ?hcd ?hbind ?hcell ?hloc ?hco ?hgen ?hk hR I ?_
  case hf => rw [hu.K]; k_is
  case hb => rfl
  case hcd => rw [hu.K]; k_is
  case hbind => exact BindsTo.of_eq rfl
  case hcell => decide
  case hloc => exact locs rfl
  case hco => rfl
  case hgen => rfl
  case hk => rfl
  intro L h₁ I₁ F₁
  (try dsimp only)
  have nf : findIn u.K (.ref u.C) "failed" = some none := by walk_at "m.is"
  have nv : findIn u.K (.ref u.C) "val" = some none := by walk_at "m.is"
  obtain ⟨σj, hG, hs'⟩ := Option.bind_eq_some_iff.mp hF
  refine wpAny_execs_cons (wpAny_Expr (callName rfl rfl rfl hc k F₁ I₁ hR.deeper hG fun h₄ tk₄ I₄ F₄ k₄ => ?_))
  (try dsimp only)
  refine wpAny_execs_cons (wpAny_If (isTrue_not (isTrue_plain (evFld kn F₄ I₄ rfl rfl rfl nf ?_))))
  intro v3 tp3 tq3 hv3
  refine ⟨_, rfl, rfl, wpAny_truthy_bool ?_⟩
  by_cases hfl : σj.failed = true
  · rw [if_pos hfl] at hs'
    cases hs'
    rw [if_neg (by simp [hfl])]
    exact wpAny_execs_nil (wpAny_execs_nil ⟨rfl, h₄, _, rfl, I₄.drop⟩)
  · rw [if_neg hfl] at hs'
    rw [if_pos (by simp [hfl])]
    split at hs'
    · rename_i x hx
      split at hs'
      · rename_i hvar
        subst hvar
        refine wpAny_execs_cons (wpAny_Expr (callF (pl := _) kn (at_set hu) (by intros; rfl) F₄ I₄ rfl rfl rfl ?_))
        refine spliced_more (nameL F₄ rfl rfl rfl (spliced_more (evFld kn F₄ I₄ rfl rfl rfl nv ?_)))
        intro v4 tp4 tq4 hv4
        rw [hx] at hv4
        obtain ⟨t4, rfl⟩ := hv4
        refine ⟨_, rfl, rfl, spliced_none ⟨I₄.K, wpAny_call ?_⟩⟩
        refine runF (leaf_set hu kn) F₄ I₄ (hR.deeper.less (by omega)) hs' fun h₅ tk₅ I₅ F₅ _ => ?_
        exact wpAny_execs_nil (wpAny_execs_nil ⟨rfl, h₅, _, rfl, I₅.drop⟩)
      · cases hs'
    · cases hs'

set_option maxHeartbeats 8000000 in
theorem leaf_any {u : U} (hu : Is u) (kn : Kn u) : Meth u 1468 (anyF u.c.T) 2 := by
  intro g g' A s σ σ' k hR I hF
  cases hF
  refine' enter_local (d := 1) (binds := [(("self" : Str), .ref u.c.x)]) ⟨none, #[], ?hf⟩ ?hb ?hcd ?hbind ?hcell ?hloc ?hco ?hgen ?hk hR I ?_
  case hf => rw [hu.K]; k_is
  case hb => rfl
  case hcd => rw [hu.K]; k_is
  case hbind => exact BindsTo.of_eq rfl
  case hcell => decide
  case hloc => exact locs rfl
  case hco => rfl
  case hgen => rfl
  case hk => rfl
  intro L h₁ I₁ F₁
  (try dsimp only)
  have np : findIn u.K (.ref u.C) "pos" = some none := by walk_at "m.is"
  have nn : findIn u.K (.ref u.C) "end" = some none := by walk_at "m.is"
  have nm : findIn u.K (.ref u.C) "msg" = some none := by walk_at "m.is"
  refine wpAny_execs_cons (wpAny_If (wpAny_isTrue_Compare1 (evFld kn F₁ I₁ rfl rfl rfl np ?_)))
  intro v1 tp1 tq1 hv1
  refine ⟨_, rfl, rfl, evFld kn F₁ I₁ rfl rfl rfl nn ?_⟩
  intro v2 tp2 tq2 hv2
  refine ⟨_, rfl, rfl, lt_int (wpAny_truthy_bool ?_)⟩
  by_cases hlt : ((σ.pos : Int) < (u.c.T.length : Int))
  · rw [if_pos (decide_eq_true hlt)]
    have hlt' : σ.pos < u.c.T.cps.size := by have : u.c.T.length = u.c.T.cps.size := rfl; omega
    refine wpAny_execs_cons (wpAny_Expr (callF (pl := _) kn (at_succeed hu) (by intros; rfl) F₁ I₁ rfl rfl rfl ?_))
    refine spliced_more (Subscript_ (evFld kn F₁ I₁ rfl rfl rfl nm ?_))
    intro v3 tp3 tq3 hv3
    refine ⟨_, rfl, rfl, evFld kn F₁ I₁ rfl rfl rfl np ?_⟩
    intro v4 tp4 tq4 hv4
    refine ⟨_, rfl, rfl, itemT (c := u.c.T.cps[σ.pos]) kn.tl (Array.getElem?_eq_getElem hlt') ?_⟩
    refine spliced_more (wpAny_BinOp (evFld kn F₁ I₁ rfl rfl rfl np ?_))
    intro v5 tp5 tq5 hv5
    refine ⟨_, rfl, rfl, wpAny_Constant_int (add_int (spliced_none ⟨I₁.K, wpAny_call ?_⟩))⟩
    have e : charAt u.c.T σ.pos = some ⟨#[u.c.T.cps[σ.pos]]⟩ := by simp [charAt, hlt']
    refine runF (leaf_succ2 hu kn (pv := .str ⟨#[u.c.T.cps[σ.pos]]⟩) (n := σ.pos + 1) ⟨_, rfl⟩) F₁ I₁ (hR.deeper.less (by omega)) rfl fun h₅ tk₅ I₅ F₅ _ => ?_
    refine wpAny_execs_nil (wpAny_execs_nil ⟨rfl, h₅, _, rfl, ?_⟩)
    have e2 : anyP u.c.T σ = σ.succ (.str ⟨#[u.c.T.cps[σ.pos]]⟩) (some (σ.pos + 1)) := by unfold anyP; rw [e]
    rw [e2]; exact I₅.drop
  · rw [if_neg (by simp [hlt])]
    have e : charAt u.c.T σ.pos = none := by
      have : u.c.T.length = u.c.T.cps.size := rfl
      simp only [charAt, Option.map_eq_none_iff]; exact Array.getElem?_eq_none (by omega)
    refine wpAny_execs_cons (wpAny_Expr (callF0 (pl := _) kn (at_fail hu) (by intros; rfl) F₁ I₁ rfl rfl rfl (wpAny_call ?_)))
    refine runF (leaf_fail hu kn) F₁ I₁ (hR.deeper.less (by omega)) rfl fun h₇ tk₇ I₇ F₇ _ => ?_
    refine wpAny_execs_nil (wpAny_execs_nil ⟨rfl, h₇, _, rfl, ?_⟩)
    have e2 : anyP u.c.T σ = σ.fail := by unfold anyP; rw [e]
    rw [e2]; exact I₇.drop
end Mine

end

/- PL9 -/
section
open PySem PySem.W PyProof.Rows PySem.Calls
set_option Elab.async false
set_option maxRecDepth 100000
namespace Mine

theorem fill9_ (_ : PySem.Challenge.rw_bd6020_01 = PySem.Challenge.rw_bd6020_01) (_ : Mine.hd.heap_39 = Mine.hd.heap_39) : True := by
  have h : PySem.Challenge.rw_bd6020_01 = PySem.Challenge.rw_bd6020_01 ∧ Mine.hd.heap_39 = Mine.hd.heap_39 := by
    k_fill
    exact ⟨rfl, rfl⟩
  trivial
local macro_rules | `(tactic| walk_at "m.at") => `(tactic| exact ⟨by rw [Is.K (by assumption), Is.C (by assumption)]; k_is, ⟨_, none, #[], by rw [Is.K (by assumption)]; k_is⟩, by decide +kernel⟩)
local macro_rules | `(tactic| walk_at "m.is") => `(tactic| first | (rw [Is.K (by assumption), Is.C (by assumption)]; k_is) | (rw [Is.K (by assumption)]; k_is))

set_option maxHeartbeats 8000000 in
theorem leaf_str {u : U} (hu : Is u) (kn : Kn u) {g : Heap} {x : Str} {t : Tok} (ha : x.cps.all (· < 128) = true) : Runs u g (.call (.ref 166) ⟨[.ref u.c.x, .str x t], []⟩) (strF u.c.T x) 3 := by
  intro g' A s σ σ' k hR I hF
  refine' enter_local (d := 2) (binds := [(("self" : Str), .ref u.c.x), (("s" : Str), .str x t)]) ⟨none, #[], ?hf⟩ ?hb ?hcd ?hbind ?hcell ?hloc ?hco ?hgen ?hk hR I ?_
  case hf => rw [hu.K]; k_is
  case hb => rfl
  case hcd => rw [hu.K]; k_is
  case hbind => exact BindsTo.of_eq rfl
  case hcell => decide
  case hloc => exact locs rfl
  case hco => rfl
  case hgen => rfl
  case hk => rfl
  intro L h₁ I₁ F₁
  (try dsimp only)
  have nf : findIn u.K (.ref u.C) "failed" = some none := by walk_at "m.is"
  have hF' : strGo u.c.T x x.cps.toList σ = σ' := Option.some.inj hF
  refine wpAny_execs_cons (wpAny_For (nameL F₁ rfl rfl rfl (wpAny_pyIter_ascii ha ?_)))
  (try dsimp only)
  have nL : L ≠ h₁.objs.size := Nat.ne_of_lt F₁.ns.lt
  have I₂ : PInv u g' [L, h₁.objs.size] (h₁.push { cls := .type "str_ascii_iterator", data := .fields #[.str x t, .int 0 0] }) σ :=
    (I₁.priv (a := h₁.objs.size) (Nat.le_trans F₁.above (Nat.le_of_lt F₁.ns.lt)) (Heap.get?_none_of_le (Nat.le_refl _)) (fun b o e => Heap.get?_push_of_some _ e) (by rw [Heap.size_push]; omega) ⟨_, Heap.get?_push_size _ rfl⟩).reN (fun a => by simp [or_comm])
  have F₂ := F₁.push { cls := .type "str_ascii_iterator", data := .fields #[.str x t, .int 0 0] }
  refine codeAny_forLoop (fun n s' => ∃ i σi h tk m, s' = ⟨h, s.gens, s.drawn, tk, s.os⟩ ∧ PInv u g' [L, h₁.objs.size] h σi ∧ Fr g' L h m ∧ m "self" = some (.ref u.c.x) ∧ m "s" = some (.str x t) ∧
      h.IsStrIter h₁.objs.size "str_ascii_iterator" x t i ∧ i ≤ x.cps.size ∧ strGo u.c.T x (x.cps.toList.drop i) σi = σ' ∧ n = x.cps.size + 1 - i) ?_ (x.cps.size + 1) ⟨0, σ, _, _, _, rfl, I₂, F₂, rfl, rfl, ⟨_, Heap.get?_push_size _ rfl, rfl, rfl⟩, Nat.zero_le _, hF', rfl⟩
  rintro n s' ⟨i, σi, h, tk, m, rfl, Ii, Fi, m1, m2, hit, hi, hs, rfl⟩
  by_cases hlt : i < x.cps.size
  · refine wpAny_pyNext_ascii_item hit (c := x.cps[i]) (Array.getElem?_eq_getElem hlt) fun h' hit' hsb => ?_
    obtain ⟨oi, ei, ci, di⟩ := hit
    obtain ⟨oi', ei', ci', di'⟩ := hit'
    have keep' : ∀ b, b ≠ h₁.objs.size → ∀ o, h.get? b = some o → h'.get? b = some o := fun b hb o e => (hsb.2 b hb).trans e
    have F₃ : Fr g' L h' m := by
      obtain ⟨o, es, ep, e, rr⟩ := Fi.ns
      exact ⟨⟨o, es, ep, keep' L nL _ e, rr⟩, fun b o e => keep' b (fun q => by have := Ii.fr _ (.tail _ (.head _)); rw [← q, e] at this; cases this) o (Fi.keep b o e), Fi.above⟩
    have I₃ : PInv u g' [L, h₁.objs.size] h' σi := Ii.store (.tail _ (.head _)) ei (by intro vs q t' d e; rw [di] at d; cases d; simp at e) keep' (Nat.le_trans F₃.above (Nat.le_of_lt F₃.ns.lt)) ⟨_, ei'⟩
    have hd : x.cps.toList.drop i = x.cps[i] :: x.cps.toList.drop (i + 1) := by
      have hi' : i < x.cps.toList.length := by simpa using hlt
      rw [List.drop_eq_getElem_cons hi']
      simp
    rw [hd] at hs
    have hs' : (if (chP u.c.T ⟨#[x.cps[i]]⟩ σi).failed = true then chP u.c.T ⟨#[x.cps[i]]⟩ σi else strGo u.c.T x (x.cps.toList.drop (i + 1)) (chP u.c.T ⟨#[x.cps[i]]⟩ σi)) = σ' := hs
    refine wpAny_assign_Name (stL F₃ I₃ rfl rfl fun h₄ I₄ F₄ k₄ => ?_)
    (try dsimp only)
    have m1' := (if_neg (by decide) : (if ("self" : Str) = "ch" then some (Value.str ⟨#[x.cps[i]]⟩ tk) else m "self") = m "self").trans m1
    refine wpAny_execs_cons (wpAny_Expr (callF (pl := _) kn (at_ch hu) (by intros; rfl) F₄ I₄ rfl rfl m1' ?_))
    refine spliced_more (nameL F₄ rfl rfl (if_pos rfl) (spliced_none ⟨I₄.K, wpAny_call ?_⟩))
    refine runF (leaf_ch hu kn) F₄ I₄ (hR.deeper.less (by omega)) rfl fun h₅ tk₅ I₅ F₅ k₅ => ?_
    (try dsimp only)
    refine wpAny_execs_cons (wpAny_If (isTrue_plain (evFld kn F₅ I₅ rfl rfl m1' nf ?_)))
    intro v' tp tq hv'
    refine ⟨_, rfl, rfl, wpAny_truthy_bool ?_⟩
    by_cases hfl : (chP u.c.T ⟨#[x.cps[i]]⟩ σi).failed = true
    · rw [if_pos hfl]
      rw [if_pos hfl] at hs'
      subst hs'
      refine wpAny_execs_cons (wpAny_Return_none ?_)
      exact ⟨rfl, h₅, _, rfl, I₅.drop.drop⟩
    · rw [if_neg hfl]
      rw [if_neg hfl] at hs'
      refine wpAny_execs_nil (wpAny_execs_nil ?_)
      refine ⟨x.cps.size + 1 - (i + 1), by omega, i + 1, _, h₅, _, _, rfl, I₅, F₅, m1', ?_, ?_, hlt, hs', rfl⟩
      · exact (if_neg (by decide)).trans m2
      · exact ⟨oi', k₅ _ (.head _) _ (k₄ _ nL.symm _ ei'), ci', di'⟩
  · have hin : i = x.cps.size := by omega
    subst hin
    refine wpAny_pyNext_ascii_end hR.hd hit (Array.getElem?_eq_none (Nat.le_refl _)) fun h' hsb => ?_
    obtain ⟨oi, ei, ci, di⟩ := hit
    have keep' : ∀ b, b ≠ h₁.objs.size → ∀ o, h.get? b = some o → h'.get? b = some o := fun b hb o e => hsb b o hb e
    have F₃ : Fr g' L h' m := by
      obtain ⟨o, es, ep, e, rr⟩ := Fi.ns
      exact ⟨⟨o, es, ep, keep' L nL _ e, rr⟩, fun b o e => keep' b (fun q => by have := Ii.fr _ (.tail _ (.head _)); rw [← q, e] at this; cases this) o (Fi.keep b o e), Fi.above⟩
    rw [List.drop_of_length_le (by simp)] at hs
    have hs' : { σi with val := .str x } = σ' := hs
    subst hs'
    have I₃ : PInv u g' [L] h' σi := Ii.lose (.tail _ (.head _)) ei (by intro vs q t' d e; rw [di] at d; cases d; simp at e) keep' (Nat.le_trans F₃.above (Nat.le_of_lt F₃.ns.lt)) (fun b mb => by rcases List.mem_singleton.mp mb with rfl; exact ⟨.head _, nL⟩)
    refine wpAny_execs_nil ?_
    refine wpAny_execs_cons ?_
    refine plainObj_wpAny_Assign_Attribute ?_ (by rfl)
    refine nameL F₃ rfl rfl m2 ?_
    refine nameL F₃ rfl rfl m1 ?_
    refine setFld (σ' := { σi with val := .str x }) (pv' := fun _ _ _ _ => .str x t) (p' := fun _ p _ _ => p) (f' := fun _ _ f _ => f) (e' := fun _ _ _ e => e) kn F₃ I₃ ?_ ?_ ?_ rfl ?_ ?_
    · walk_at "m.is"
    · intros; rfl
    · intros; rfl
    · intro v0 tp tq hv; exact ⟨_, tp, tq, ⟨t, rfl⟩, rfl, rfl, rfl, rfl⟩
    intro h₆ I₆ F₆ _
    exact wpAny_execs_nil ⟨rfl, h₆, _, rfl, I₆.drop⟩
end Mine

end

/- PG1 -/
section
open PySem PySem.W PyProof.Rows PySem.Calls
set_option Elab.async false
set_option maxRecDepth 100000
namespace Mine

theorem fillG1_ (_ : PySem.Challenge.rw_bd6020_01 = PySem.Challenge.rw_bd6020_01) (_ : Mine.hd.heap_39 = Mine.hd.heap_39) : True := by
  have h : PySem.Challenge.rw_bd6020_01 = PySem.Challenge.rw_bd6020_01 ∧ Mine.hd.heap_39 = Mine.hd.heap_39 := by
    k_fill
    exact ⟨rfl, rfl⟩
  trivial
local macro_rules | `(tactic| walk_at "m.at") => `(tactic| exact ⟨by rw [Is.K (by assumption), Is.C (by assumption)]; k_is, ⟨_, none, #[], by rw [Is.K (by assumption)]; k_is⟩, by decide +kernel⟩)
local macro_rules | `(tactic| walk_at "m.is") => `(tactic| first | (rw [Is.K (by assumption), Is.C (by assumption)]; k_is) | (rw [Is.K (by assumption)]; k_is))

def thenF : List (PS → Option PS) → PS → Option PS
  | [], σ => some σ
  | F :: r, σ => (F σ).bind (thenF r)

inductive AllE (u : U) (env : Env) (g₀ : Heap) (d : Nat) : List Stmt → List (PS → Option PS) → Prop
  | nil : AllE u env g₀ d [] []
  | cons {e F ss Fs p} : interactive env = false → swapsWith e none p.line env = pure false → EvalC u e env g₀ F d → AllE u env g₀ d ss Fs → AllE u env g₀ d (.Expr e p :: ss) (F :: Fs)

section
variable {u : U} {env : Env} {g₀ : Heap} {d : Nat}
theorem AllE.run {ss : List Stmt} {Fs : List (PS → Option PS)} (x : AllE u env g₀ d ss Fs) : ∀ {A : Around} {s : Shared} {σ σ' : PS} {Q : Flow → Shared → Prop} {E : Value → Shared → Prop} {g : Heap}, g₀.StaysIn g → Room A d → PInv u g [] s.heap σ → thenF Fs σ = some σ' →
    (∀ h' tk', PInv u g [] h' σ' → Q .next { s with heap := h', toks := tk' }) → wpAny (model u.prog u.w) A (execs ss env) Q E s := by
  induction x with
  | nil =>
    intro A s σ σ' Q E g st hR I hF h
    cases hF
    exact wpAny_execs_nil (h s.heap s.toks I)
  | cons hi hs X _ ih =>
    intro A s σ σ' Q E g st hR I hF h
    obtain ⟨σ₁, h1, h2⟩ := Option.bind_eq_some_iff.mp hF
    refine wpAny_execs_cons (wpAny_Expr (hi := hi) (hs := hs) (X A s σ σ₁ _ _ g st hR I h1 fun h' tk' I' => ?_))
    exact ih st hR I' h2 h

theorem EvalC.less {e : Expr} {F : PS → Option PS} {d e' : Nat} (x : EvalC u e env g₀ F d) (l : d ≤ e') : EvalC u e env g₀ F e' :=
  fun A s σ σ' Q E g st R => x A s σ σ' Q E g st (R.less l)
theorem Meth.less {f : Addr} {F : PS → Option PS} {d e : Nat} (x : Meth u f F d) (l : d ≤ e) : Meth u f F e := fun g => (x g).less l
theorem meth_no {f : Addr} {d : Nat} : Meth u f noF d := fun g g' A s σ σ' k R I hF => nomatch hF
theorem ec_no {e : Expr} : EvalC u e env g₀ noF d := fun A s σ σ' Q E g st R I hF => nomatch hF

variable {f : Addr} {fd : FuncData} {ss : List Stmt} {Fs : List (PS → Option PS)}
theorem meth_loc (hf : ∃ od sl, u.K.lookup f = some ⟨.type "function", od, .func fd, sl⟩) (hb : fd.body = .stmts ss) (hcd : codeIn u.K fd.code fd.qualname = true)
    (hbind : ∀ s, BindsTo s fd ⟨[.ref u.c.x], []⟩ [(("self" : Str), .ref u.c.x)]) (hcell : ∀ x ∈ fd.scope.names, x.2 ≠ .cell) (hloc : fd.scope.names.lookup ("self" : Str) = some .local)
    (hco : fd.scope.isCoroutine = false) (hgen : fd.scope.isGenerator = false) (hk : fd.scope.kind = .function)
    (hE : ∀ L g₁, SelfAt u (callEnv fd L f) g₁ → AllE u (callEnv fd L f) g₁ d ss Fs) : Meth u f (thenF Fs) (d + 1) := by
  intro g g' A s σ σ' k hR I hF
  refine enter_local hf hb hcd (hbind s) hcell (fun x hx => by rcases List.mem_singleton.mp hx with rfl; exact hloc) hco hgen hk hR I fun L h₁ I₁ F₁ => ?_
  obtain ⟨g₁, J, st, zz, al, back, _, _⟩ := I₁.freeze'
  have hns : g₁.Ns L (fun y => [(("self" : Str), Value.ref u.c.x)].reverse.lookup y) := by
    obtain ⟨o, es, ep, e, r⟩ := F₁.ns
    exact ⟨o, es, ep, al L (.head _) _ e, r⟩
  exact (hE L g₁ (selfLocal hk hloc hns rfl)).run (fun _ _ e => e) hR.deeper J hF fun h' tk' J' => ⟨rfl, h', tk', rfl, (back h' σ' J').drop⟩

theorem meth_cell (hf : ∃ od sl, u.K.lookup f = some ⟨.type "function", od, .func fd, sl⟩) (hb : fd.body = .stmts ss) (hcd : codeIn u.K fd.code fd.qualname = true)
    (hbind : ∀ s, BindsTo s fd ⟨[.ref u.c.x], []⟩ [(("self" : Str), .ref u.c.x)]) (hs : fd.scope.names.lookup ("self" : Str) = some .cell) (hcl : fd.closure = [])
    (hc : ∀ n, (cellsFrom n fd.scope.names []).lookup ("self" : Str) = some n)
    (hco : fd.scope.isCoroutine = false) (hgen : fd.scope.isGenerator = false) (hk : fd.scope.kind = .function)
    (hE : ∀ L g₁, g₁.IsCell (L + 1) (some (.ref u.c.x)) → SelfAt u (callEnvC fd L f) g₁ → AllE u (callEnvC fd L f) g₁ d ss Fs) : Meth u f (thenF Fs) (d + 1) := by
  intro g g' A s σ σ' k hR I hF
  refine enter_cell hf hb hcd (hbind s) hs hcl hc hco hgen hk hR I fun L g₁ h₁ tk st zz J hcl' => ?_
  exact (hE L g₁ hcl' (selfCell hk hs (hc _) hcl')).run (fun _ _ e => e) hR.deeper J hF fun h' tk' J' => ⟨rfl, h', tk', rfl, J'.mono st zz I.b⟩

/-- (lambda: ...)() -/
theorem ec_call {e : Expr} {F : PS → Option PS} {p : Pos} (X : EvalA u e env g₀ (IsRule u F d))
    (he : eval (.Call e [] [] p) env = (do callWith p (← eval e env) [] (backTo p (starEach [] env)) (backToKw p (keywordEach [] env))) := by rfl) :
    EvalC u (.Call e [] [] p) env g₀ F d := by
  intro A s σ σ' Q E g st hR I hF hQ
  refine Call_ (X.ev A s σ _ E g st hR.hd I fun v g' h' tk' st' z' I' hc => ?_) he
  refine callWith_of (P := fun h => g'.StaysIn h) rfl (fun h k => ?_) (evalArgs_nil3 ⟨I'.st, wpAny_call ?_⟩)
  · exact hc.keep.keeps k
  · refine codeAny_mono (hc.runs g' A { s with heap := h', toks := tk' } σ σ' (fun _ _ e => e) hR I' hF) fun r s' hd => ?_
    obtain ⟨rfl, h'', tk'', rfl, J⟩ := hd
    exact hQ h'' tk'' (J.mono st' z' I.b)
end

theorem at_choose {u : U} (hu : Is u) : MethAt u "_choose" 152 := by walk_at "m.at"
theorem at_seq {u : U} (hu : Is u) : MethAt u "_seq" 145 := by walk_at "m.at"
theorem at_star {u : U} (hu : Is u) : MethAt u "_star" 138 := by walk_at "m.at"
theorem at_not {u : U} (hu : Is u) : MethAt u "_not" 116 := by walk_at "m.at"
theorem at_bind {u : U} (hu : Is u) : MethAt u "_bind" 109 := by walk_at "m.at"
theorem at_str {u : U} (hu : Is u) : MethAt u "_str" 166 := by walk_at "m.at"
theorem at_push {u : U} (hu : Is u) : MethAt u "_push" 180 := by walk_at "m.at"
theorem at_pop {u : U} (hu : Is u) : MethAt u "_pop" 187 := by walk_at "m.at"

section
variable {u : U} {env : Env} {g₀ : Heap} {d k : Nat} {p1 p2 p3 p4 p5 : Pos} {F : PS → Option PS} {Fs : List (PS → Option PS)} {e : Expr}
theorem ec_seq {pl : Sem Bool} (hu : Is u) (kn : Kn u) (S : SelfAt u env g₀) (X : EvalA u e env g₀ (IsRules u Fs d))
    (he : eval (.Call (.Attribute (.Name "self" p1) "_seq" p2) [e] [] p3) env = (do
      let ov ← eval (.Name "self" p1) env
      standAt p2.atName
      let (f, first) ← holding [ov] (getMethod ov "_seq" pl)
      callWith p3 f first (backTo p3 (starEach [e] env)) []) := by rfl) : EvalC u (.Call (.Attribute (.Name "self" p1) "_seq" p2) [e] [] p3) env g₀ (seqF Fs) (d + 1) :=
  ec_self kn (at_seq hu) (fun _ _ _ _ => rfl) S (.cons X .nil) (fun g vs st h => by
    cases h with | cons h r =>
    cases r
    obtain ⟨l, vs', rfl, hl, hc⟩ := h
    exact leaf_seq hu kn hl hc) he
theorem ec_choose {pl : Sem Bool} (hu : Is u) (kn : Kn u) (S : SelfAt u env g₀) (X : EvalA u e env g₀ (IsRules u Fs (d + 2))) (hz : Fs.length ≤ 1000)
    (he : eval (.Call (.Attribute (.Name "self" p1) "_choose" p2) [e] [] p3) env = (do
      let ov ← eval (.Name "self" p1) env
      standAt p2.atName
      let (f, first) ← holding [ov] (getMethod ov "_choose" pl)
      callWith p3 f first (backTo p3 (starEach [e] env)) []) := by rfl) : EvalC u (.Call (.Attribute (.Name "self" p1) "_choose" p2) [e] [] p3) env g₀ (chooseF Fs) (d + 3) :=
  ec_self kn (at_choose hu) (fun _ _ _ _ => rfl) S (.cons X .nil) (fun g vs st h => by
    cases h with | cons h r =>
    cases r
    obtain ⟨l, vs', rfl, hl, hc⟩ := h
    exact leaf_choose hu kn hl hc (by rw [hc.len]; exact hz)) he
theorem ec_star {pl : Sem Bool} (hu : Is u) (kn : Kn u) (S : SelfAt u env g₀) (X : EvalA u e env g₀ (IsRule u F (d + 2)))
    (he : eval (.Call (.Attribute (.Name "self" p1) "_star" p2) [e] [] p3) env = (do
      let ov ← eval (.Name "self" p1) env
      standAt p2.atName
      let (f, first) ← holding [ov] (getMethod ov "_star" pl)
      callWith p3 f first (backTo p3 (starEach [e] env)) []) := by rfl) : EvalC u (.Call (.Attribute (.Name "self" p1) "_star" p2) [e] [] p3) env g₀ (starF F) (d + 3) :=
  ec_self kn (at_star hu) (fun _ _ _ _ => rfl) S (.cons X .nil) (fun g vs st h => by
    cases h with | cons h r =>
    cases r
    exact leaf_star hu kn h) he
theorem ec_not {pl : Sem Bool} (hu : Is u) (kn : Kn u) (S : SelfAt u env g₀) (X : EvalA u e env g₀ (IsRule u F (d + 2)))
    (he : eval (.Call (.Attribute (.Name "self" p1) "_not" p2) [e] [] p3) env = (do
      let ov ← eval (.Name "self" p1) env
      standAt p2.atName
      let (f, first) ← holding [ov] (getMethod ov "_not" pl)
      callWith p3 f first (backTo p3 (starEach [e] env)) []) := by rfl) : EvalC u (.Call (.Attribute (.Name "self" p1) "_not" p2) [e] [] p3) env g₀ (notF F) (d + 3) :=
  ec_self kn (at_not hu) (fun _ _ _ _ => rfl) S (.cons X .nil) (fun g vs st h => by
    cases h with | cons h r =>
    cases r
    exact leaf_not hu kn h) he
theorem ec_bind {pl : Sem Bool} {var : Str} (hu : Is u) (kn : Kn u) (S : SelfAt u env g₀) (X : EvalA u e env g₀ (IsRule u F (d + 1)))
    (he : eval (.Call (.Attribute (.Name "self" p1) "_bind" p2) [e, .Constant (.str var) k p4] [] p3) env = (do
      let ov ← eval (.Name "self" p1) env
      standAt p2.atName
      let (f, first) ← holding [ov] (getMethod ov "_bind" pl)
      callWith p3 f first (backTo p3 (starEach [e, .Constant (.str var) k p4] env)) []) := by rfl) : EvalC u (.Call (.Attribute (.Name "self" p1) "_bind" p2) [e, .Constant (.str var) k p4] [] p3) env g₀ (bindS var F) (d + 2) :=
  ec_self kn (at_bind hu) (fun _ _ _ _ => rfl) S (.cons X (.cons ea_str .nil)) (fun g vs st h => by
    cases h with | cons h r =>
    cases r with | cons h2 r =>
    cases r
    obtain ⟨t, rfl⟩ := h2
    exact leaf_bind hu kn h) he
theorem ec_ch {pl : Sem Bool} {x : Str} (hu : Is u) (kn : Kn u) (S : SelfAt u env g₀)
    (he : eval (.Call (.Attribute (.Name "self" p1) "_ch" p2) [.Constant (.str x) k p4] [] p3) env = (do
      let ov ← eval (.Name "self" p1) env
      standAt p2.atName
      let (f, first) ← holding [ov] (getMethod ov "_ch" pl)
      callWith p3 f first (backTo p3 (starEach [.Constant (.str x) k p4] env)) []) := by rfl) : EvalC u (.Call (.Attribute (.Name "self" p1) "_ch" p2) [.Constant (.str x) k p4] [] p3) env g₀ (chF u.c.T x) 2 :=
  ec_self kn (at_ch hu) (fun _ _ _ _ => rfl) S (.cons ea_str .nil) (fun g vs st h => by
    cases h with | cons h r =>
    cases r
    obtain ⟨t, rfl⟩ := h
    exact leaf_ch hu kn) he
theorem ec_str {pl : Sem Bool} {x : Str} (hu : Is u) (kn : Kn u) (S : SelfAt u env g₀) (ha : x.cps.all (· < 128) = true)
    (he : eval (.Call (.Attribute (.Name "self" p1) "_str" p2) [.Constant (.str x) k p4] [] p3) env = (do
      let ov ← eval (.Name "self" p1) env
      standAt p2.atName
      let (f, first) ← holding [ov] (getMethod ov "_str" pl)
      callWith p3 f first (backTo p3 (starEach [.Constant (.str x) k p4] env)) []) := by rfl) : EvalC u (.Call (.Attribute (.Name "self" p1) "_str" p2) [.Constant (.str x) k p4] [] p3) env g₀ (strF u.c.T x) 3 :=
  ec_self kn (at_str hu) (fun _ _ _ _ => rfl) S (.cons ea_str .nil) (fun g vs st h => by
    cases h with | cons h r =>
    cases r
    obtain ⟨t, rfl⟩ := h
    exact leaf_str hu kn ha) he
theorem ec_push {pl : Sem Bool} {x : Str} (hu : Is u) (kn : Kn u) (S : SelfAt u env g₀)
    (he : eval (.Call (.Attribute (.Name "self" p1) "_push" p2) [.Constant (.str x) k p4] [] p3) env = (do
      let ov ← eval (.Name "self" p1) env
      standAt p2.atName
      let (f, first) ← holding [ov] (getMethod ov "_push" pl)
      callWith p3 f first (backTo p3 (starEach [.Constant (.str x) k p4] env)) []) := by rfl) : EvalC u (.Call (.Attribute (.Name "self" p1) "_push" p2) [.Constant (.str x) k p4] [] p3) env g₀ (pushF x) 1 :=
  ec_self kn (at_push hu) (fun _ _ _ _ => rfl) S (.cons ea_str .nil) (fun g vs st h => by
    cases h with | cons h r =>
    cases r
    obtain ⟨t, rfl⟩ := h
    exact leaf_push hu kn) he
theorem ec_pop {pl : Sem Bool} {x : Str} (hu : Is u) (kn : Kn u) (S : SelfAt u env g₀)
    (he : eval (.Call (.Attribute (.Name "self" p1) "_pop" p2) [.Constant (.str x) k p4] [] p3) env = (do
      let ov ← eval (.Name "self" p1) env
      standAt p2.atName
      let (f, first) ← holding [ov] (getMethod ov "_pop" pl)
      callWith p3 f first (backTo p3 (starEach [.Constant (.str x) k p4] env)) []) := by rfl) : EvalC u (.Call (.Attribute (.Name "self" p1) "_pop" p2) [.Constant (.str x) k p4] [] p3) env g₀ (popF x) 1 :=
  ec_self kn (at_pop hu) (fun _ _ _ _ => rfl) S (.cons ea_str .nil) (fun g vs st h => by
    cases h with | cons h r =>
    cases r
    obtain ⟨t, rfl⟩ := h
    exact leaf_pop hu kn) he
end
end Mine

end

/- PG2 -/
section
open PySem PySem.W PyProof.Rows PySem.Calls
set_option Elab.async false
set_option maxRecDepth 100000
namespace Mine

theorem fillG2_ (_ : PySem.Challenge.rw_bd6020_01 = PySem.Challenge.rw_bd6020_01) (_ : Mine.hd.heap_39 = Mine.hd.heap_39) : True := by
  have h : PySem.Challenge.rw_bd6020_01 = PySem.Challenge.rw_bd6020_01 ∧ Mine.hd.heap_39 = Mine.hd.heap_39 := by
    k_fill
    exact ⟨rfl, rfl⟩
  trivial
local macro_rules | `(tactic| walk_at "m.at") => `(tactic| exact ⟨by rw [Is.K (by assumption), Is.C (by assumption)]; k_is, ⟨_, none, #[], by rw [Is.K (by assumption)]; k_is⟩, by decide +kernel⟩)
local macro_rules | `(tactic| walk_at "m.is") => `(tactic| first | (rw [Is.K (by assumption), Is.C (by assumption)]; k_is) | (rw [Is.K (by assumption)]; k_is))

theorem EvalA.lessR {u : U} {e : Expr} {env : Env} {g : Heap} {F : PS → Option PS} {d d' : Nat} (X : EvalA u e env g (IsRule u F d)) (l : d ≤ d') : EvalA u e env g (IsRule u F d') where
  plain := X.plain
  mono := fun _ _ _ k h => h.keeps k
  ev := fun A s σ Q E g st hh I h => X.ev A s σ Q E g st hh I fun v g' h' tk' k z J hc => h v g' h' tk' k z J ⟨hc.keep, hc.runs.less l⟩

theorem at_range {u : U} (hu : Is u) : MethAt u "_range" 173 := by walk_at "m.at"

set_option maxHeartbeats 8000000 in
theorem leaf_range {u : U} (hu : Is u) (kn : Kn u) {g : Heap} {i j : Nat} {t t' : Tok} : Runs u g (.call (.ref 173) ⟨[.ref u.c.x, .str ⟨#[i]⟩ t, .str ⟨#[j]⟩ t'], []⟩) (rangeF u.c.T i j) 2 := by
  intro g' A s σ σ' k hR I hF
  refine' enter_local (d := 1) (binds := [(("self" : Str), .ref u.c.x), (("i" : Str), .str ⟨#[i]⟩ t), (("j" : Str), .str ⟨#[j]⟩ t')]) ⟨none, #[], ?hf⟩ ?hb ?hcd ?hbind ?hcell ?hloc ?hco ?hgen ?hk hR I ?_
  case hf => rw [hu.K]; k_is
  case hb => rfl
  case hcd => rw [hu.K]; k_is
  case hbind => exact BindsTo.of_eq rfl
  case hcell => decide
  case hloc => exact locs rfl
  case hco => rfl
  case hgen => rfl
  case hk => rfl
  intro L h₁ I₁ F₁
  (try dsimp only)
  have np : findIn u.K (.ref u.C) "pos" = some none := by walk_at "m.is"
  have nn : findIn u.K (.ref u.C) "end" = some none := by walk_at "m.is"
  have nm : findIn u.K (.ref u.C) "msg" = some none := by walk_at "m.is"
  have no : nsIn u.K mainGlobals "ord" = some none := by walk_at "m.is"
  have hlen : u.c.T.length = u.c.T.cps.size := rfl
  unfold rangeF at hF
  split at hF
  · cases hF
  rename_i hle
  refine wpAny_execs_cons (wpAny_Assign_Name (evFld kn F₁ I₁ rfl rfl rfl np ?_) (by rfl))
  intro v1 tp tq hv1
  refine ⟨_, rfl, rfl, stL F₁ I₁ rfl rfl fun h₂ I₂ F₂ _ => ?_⟩
  (try dsimp only)
  refine wpAny_execs_cons (wpAny_If (wpAny_mono (Q := fun b s' => b = decide (∃ c, u.c.T.cps[σ.pos]? = some c ∧ i ≤ c ∧ c ≤ j) ∧ ∃ tk, s' = ⟨h₂, s.gens, s.drawn, tk, s.os⟩) (isTrue_and (wpAny_isTrue_Compare1 (nameL F₂ rfl rfl rfl (evFld kn F₂ I₂ rfl rfl rfl nn ?_)))) (fun b s' hb => ?_) (fun _ _ h => h)))
  · intro v2 tp2 tq2 hv2
    refine ⟨_, rfl, rfl, ne_int (wpAny_truthy_bool ?_)⟩
    by_cases hend : σ.pos = u.c.T.length
    · rw [if_neg (by simp [hend])]
      have e : u.c.T.cps[σ.pos]? = none := Array.getElem?_eq_none (by omega)
      exact ⟨by simp [e], _, rfl⟩
    · rw [if_pos (by simp; omega)]
      have hlt : σ.pos < u.c.T.cps.size := by omega
      refine isTrue_and (isTrue_chain ?_)
      refine Call_ (nameB I₂ rfl rfl rfl rfl no (by boot_by_name) (by decide) ?_)
      refine callWith_method1 (spliced_more (nameL F₂ rfl rfl rfl (spliced_none (PySem.P.ord_of_char ?_))))
      refine test_link (Call_ (nameB (s := ⟨h₂, s.gens, s.drawn, _, s.os⟩) I₂ rfl rfl rfl rfl no (by boot_by_name) (by decide) ?_))
      refine callWith_method1 (spliced_more (Subscript_ (evFld kn F₂ I₂ rfl rfl rfl nm ?_)))
      intro v3 tp3 tq3 hv3
      refine ⟨_, rfl, rfl, nameL F₂ rfl rfl rfl (itemT (c := u.c.T.cps[σ.pos]) kn.tl (Array.getElem?_eq_getElem hlt) (spliced_none (PySem.P.ord_of_char ?_)))⟩
      refine le_int (wpAny_truthy_bool ?_)
      have e : u.c.T.cps[σ.pos]? = some u.c.T.cps[σ.pos] := Array.getElem?_eq_getElem hlt
      by_cases h1 : i ≤ u.c.T.cps[σ.pos]
      · rw [if_pos (by simp [h1])]
        refine test_last (Call_ (nameB (s := ⟨h₂, s.gens, s.drawn, _, s.os⟩) I₂ rfl rfl rfl rfl no (by boot_by_name) (by decide) ?_))
        refine callWith_method1 (spliced_more (nameL F₂ rfl rfl rfl (spliced_none (PySem.P.ord_of_char ?_))))
        refine le_int (wpAny_truthy_bool ?_)
        by_cases h2 : u.c.T.cps[σ.pos] ≤ j
        · rw [if_pos (by simp [h2])]
          exact isTrue_and_nil ⟨(decide_eq_true ⟨_, e, h1, h2⟩).symm, _, rfl⟩
        · rw [if_neg (by simp; omega)]
          exact ⟨by rw [eq_comm, decide_eq_false_iff_not]; rintro ⟨c', e', q⟩; rw [e] at e'; cases e'; exact h2 q.2, _, rfl⟩
      · rw [if_neg (by simp; omega)]
        rw [if_neg (by decide)]
        exact ⟨by rw [eq_comm, decide_eq_false_iff_not]; rintro ⟨c', e', q⟩; rw [e] at e'; cases e'; exact h1 q.1, _, rfl⟩
  obtain ⟨rfl, tk, rfl⟩ := hb
  split at hF
  · rename_i c hc
    have hlt : σ.pos < u.c.T.cps.size := by
      rcases Nat.lt_or_ge σ.pos u.c.T.cps.size with q | q
      · exact q
      · rw [Array.getElem?_eq_none q] at hc; cases hc
    split at hF
    · rename_i hcc
      cases hF
      rw [if_pos (decide_eq_true ⟨c, hc, hcc⟩)]
      refine wpAny_execs_cons (wpAny_Expr (callF (pl := _) kn (at_succeed hu) (by intros; rfl) F₂ I₂ rfl rfl rfl ?_))
      refine spliced_more (Subscript_ (evFld kn F₂ I₂ rfl rfl rfl nm ?_))
      intro v3 tp3 tq3 hv3
      refine ⟨_, rfl, rfl, nameL F₂ rfl rfl rfl (itemT (c := c) kn.tl hc ?_)⟩
      refine spliced_more (wpAny_BinOp (evFld kn F₂ I₂ rfl rfl rfl np ?_))
      intro v5 tp5 tq5 hv5
      refine ⟨_, rfl, rfl, wpAny_Constant_int (add_int (spliced_none ⟨I₂.K, wpAny_call ?_⟩))⟩
      refine runF (leaf_succ2 hu kn (pv := .str ⟨#[c]⟩) (n := σ.pos + 1) ⟨_, rfl⟩) F₂ I₂ (hR.deeper.less (by omega)) rfl fun h₅ tk₅ I₅ F₅ _ => ?_
      exact wpAny_execs_nil (wpAny_execs_nil ⟨rfl, h₅, _, rfl, I₅.drop⟩)
    · rename_i hcc
      cases hF
      rw [if_neg (by simp only [decide_eq_true_eq]; rintro ⟨c', e, q⟩; rw [hc] at e; cases e; exact hcc q)]
      refine wpAny_execs_cons (wpAny_Expr (callF0 (pl := _) kn (at_fail hu) (by intros; rfl) F₂ I₂ rfl rfl rfl (wpAny_call ?_)))
      refine runF (leaf_fail hu kn) F₂ I₂ (hR.deeper.less (by omega)) rfl fun h₇ tk₇ I₇ F₇ _ => ?_
      exact wpAny_execs_nil (wpAny_execs_nil ⟨rfl, h₇, _, rfl, I₇.drop⟩)
  · rename_i hc
    cases hF
    rw [if_neg (by simp only [decide_eq_true_eq]; rintro ⟨c', e, q⟩; rw [hc] at e; cases e)]
    refine wpAny_execs_cons (wpAny_Expr (callF0 (pl := _) kn (at_fail hu) (by intros; rfl) F₂ I₂ rfl rfl rfl (wpAny_call ?_)))
    refine runF (leaf_fail hu kn) F₂ I₂ (hR.deeper.less (by omega)) rfl fun h₇ tk₇ I₇ F₇ _ => ?_
    exact wpAny_execs_nil (wpAny_execs_nil ⟨rfl, h₇, _, rfl, I₇.drop⟩)

section
variable {u : U} {env : Env} {g₀ : Heap} {k k' : Nat} {p1 p2 p3 p4 p5 : Pos}
theorem ec_range {pl : Sem Bool} {i j : Nat} (hu : Is u) (kn : Kn u) (S : SelfAt u env g₀)
    (he : eval (.Call (.Attribute (.Name "self" p1) "_range" p2) [.Constant (.str ⟨#[i]⟩) k p4, .Constant (.str ⟨#[j]⟩) k' p5] [] p3) env = (do
      let ov ← eval (.Name "self" p1) env
      standAt p2.atName
      let (f, first) ← holding [ov] (getMethod ov "_range" pl)
      callWith p3 f first (backTo p3 (starEach [.Constant (.str ⟨#[i]⟩) k p4, .Constant (.str ⟨#[j]⟩) k' p5] env)) []) := by rfl) : EvalC u (.Call (.Attribute (.Name "self" p1) "_range" p2) [.Constant (.str ⟨#[i]⟩) k p4, .Constant (.str ⟨#[j]⟩) k' p5] [] p3) env g₀ (rangeF u.c.T i j) 2 :=
  ec_self kn (at_range hu) (fun _ _ _ _ => rfl) S (.cons ea_str (.cons ea_str .nil)) (fun g vs st h => by
    cases h with | cons h r =>
    cases r with | cons h2 r =>
    cases r
    obtain ⟨t, rfl⟩ := h
    obtain ⟨t2, rfl⟩ := h2
    exact leaf_range hu kn) he
end
end Mine

end

/- PT2 -/
section
open PySem PySem.W PyProof.Rows PySem.Calls
set_option Elab.async false
set_option maxRecDepth 100000
namespace Mine

/-- the state between two parses: the base, what is private, and the code tables -/
structure TInv (u : U) (g : Heap) (N : List Addr) (h : Heap) : Prop where
  b : Bs u g
  st : g.StaysIn h
  sz : g.objs.size ≤ h.objs.size
  al : ∀ a ∈ N, ∃ o, h.get? a = some o
  fr : ∀ a ∈ N, g.get? a = none
  tab : ∃ cs, (∀ q ∈ u.tabs, TabOk h cs q.2.1 q.2.2) ∧ ∀ q ∈ u.tabs, g.get? q.2.1 = none ∧ q.2.1 ∉ N

theorem PInv.forget {u : U} {g h : Heap} {N : List Addr} {σ : PS} (I : PInv u g N h σ) : TInv u g N h := by
  obtain ⟨W, O, f⟩ := I.own
  exact ⟨I.b, I.st, I.sz, I.al, I.fr, W.cs, O.tab, fun q hq => f _ (tab_in hq)⟩
theorem TInv.K {u : U} {g h : Heap} {N : List Addr} (I : TInv u g N h) : u.K.In h := I.b.k.keeps I.st
theorem TInv.T {u : U} {g h : Heap} {N : List Addr} (I : TInv u g N h) : Top u.p u.loose u.mean u.mg u.mb h := I.b.t.keeps I.st
theorem TInv.ext {u : U} {g h h' : Heap} {N : List Addr} (I : TInv u g N h) (k : ∀ b o, h.get? b = some o → h'.get? b = some o) (z : h.objs.size ≤ h'.objs.size) : TInv u g N h' := by
  obtain ⟨cs, t, f⟩ := I.tab
  exact ⟨I.b, fun b o e => k b o (I.st b o e), Nat.le_trans I.sz z, fun a ha => let ⟨o, e⟩ := I.al a ha; ⟨o, k a o e⟩, I.fr, cs, fun q hq => (t q hq).keep fun a _ o e => k a o e, f⟩
end Mine

end

/- PA -/
section
open PySem PySem.W PyProof.Rows PySem.Calls
set_option Elab.async false
set_option maxRecDepth 100000
namespace Mine

theorem fillPA_ (_ : PySem.Challenge.rw_bd6020_01 = PySem.Challenge.rw_bd6020_01) (_ : Mine.hd.heap_39 = Mine.hd.heap_39) : True := by
  have h : PySem.Challenge.rw_bd6020_01 = PySem.Challenge.rw_bd6020_01 ∧ Mine.hd.heap_39 = Mine.hd.heap_39 := by
    k_fill
    exact ⟨rfl, rfl⟩
  trivial
local macro_rules | `(tactic| walk_at "m.at") => `(tactic| exact ⟨by rw [Is.K (by assumption), Is.C (by assumption)]; k_is, ⟨_, none, #[], by rw [Is.K (by assumption)]; k_is⟩, by decide +kernel⟩)
local macro_rules | `(tactic| walk_at "m.is") => `(tactic| first | (rw [Is.K (by assumption), Is.C (by assumption)]; k_is) | (rw [Is.K (by assumption)]; k_is))

theorem nd_inj {α β : Type} (f : α → β) : ∀ {l : List α}, (l.map f).Nodup → ∀ q ∈ l, ∀ r ∈ l, f q = f r → q = r
  | [], _, _, hq, _, _, _ => nomatch hq
  | x :: l, h, q, hq, r, hr, e => by
    rw [List.map_cons, List.nodup_cons] at h
    rcases List.mem_cons.mp hq with q1 | q1 <;> rcases List.mem_cons.mp hr with r1 | r1
    · rw [q1, r1]
    · exact absurd (List.mem_map.mpr ⟨r, r1, by rw [← e, q1]⟩) h.1
    · exact absurd (List.mem_map.mpr ⟨q, q1, by rw [e, r1]⟩) h.1
    · exact nd_inj f h.2 q q1 r r1 e
def tq (s : Str) : Str := (s ++ (".<locals>." : Str)) ++ ("<lambda>" : Str)
def theTabs : Tabs := [(228, 224, tq ("Parser._grammar_" : Str)),
  (326, 322, tq ("Parser._ws__c8_" : Str)),
  (333, 329, tq ("Parser._ws__c8__s0_" : Str)),
  (340, 336, tq ("Parser._ws__c8__s0_n_n_" : Str)),
  (347, 343, tq ("Parser._ws__c8__s0_n_n_g__c0_" : Str)),
  (368, 364, tq ("Parser._eol__c0_" : Str)),
  (410, 406, tq ("Parser._comment__c0_" : Str)),
  (417, 413, tq ("Parser._comment__c0__s1_p_" : Str)),
  (424, 420, tq ("Parser._comment__c1_" : Str)),
  (431, 427, tq ("Parser._comment__c1__s1_" : Str)),
  (438, 434, tq ("Parser._comment__c1__s1_p__s0_" : Str)),
  (452, 448, tq ("Parser._value__c0_" : Str)),
  (459, 455, tq ("Parser._value__c1_" : Str)),
  (466, 462, tq ("Parser._value__c2_" : Str)),
  (473, 469, tq ("Parser._value__c3_" : Str)),
  (480, 476, tq ("Parser._value__c4_" : Str)),
  (487, 483, tq ("Parser._value__c5_" : Str)),
  (494, 490, tq ("Parser._value__c6_" : Str)),
  (508, 504, tq ("Parser._object__c0_" : Str)),
  (515, 511, tq ("Parser._object__c1_" : Str)),
  (529, 525, tq ("Parser._array__c0_" : Str)),
  (536, 532, tq ("Parser._array__c1_" : Str)),
  (550, 546, tq ("Parser._string__c0_" : Str)),
  (564, 560, tq ("Parser._string__c1_" : Str)),
  (1215, 1211, tq ("Parser._num_literal__c0_" : Str)),
  (1222, 1218, tq ("Parser._num_literal__c1_" : Str)),
  (1229, 1225, tq ("Parser._num_literal__c2_" : Str)),
  (1243, 1239, tq ("Parser._unsigned_lit__c0_" : Str)),
  (1271, 1267, tq ("Parser._dec_literal__c0_" : Str)),
  (1278, 1274, tq ("Parser._dec_literal__c1_" : Str)),
  (1285, 1281, tq ("Parser._dec_literal__c2_" : Str)),
  (1292, 1288, tq ("Parser._dec_literal__c3_" : Str)),
  (1299, 1295, tq ("Parser._dec_literal__c4_" : Str)),
  (1306, 1302, tq ("Parser._dec_literal__c5_" : Str)),
  (1320, 1316, tq ("Parser._dec_int_lit__c0_" : Str)),
  (1327, 1323, tq ("Parser._dec_int_lit__c1_" : Str)),
  (1355, 1351, tq ("Parser._hex_literal_" : Str)),
  (1362, 1358, tq ("Parser._hex_literal__s0_" : Str)),
  (1397, 1393, tq ("Parser._frac_" : Str))]
structure Is2 (u : U) : Prop extends Is u where
  tabs : u.tabs = theTabs
theorem tf {u : U} (hu : Is2 u) : ∀ q ∈ u.tabs, ∀ r ∈ u.tabs, q.2.1 = r.2.1 → q.2.2 = r.2.2 := by
  rw [hu.tabs]
  have nd : (theTabs.map (·.2.1)).Nodup := by decide
  intro q hq r hr e
  rw [nd_inj (fun q : Addr × Addr × Str => q.2.1) nd q hq r hr e]
theorem mem_ix {u : U} (hu : Is2 u) (i : Nat) {q : Addr × Addr × Str} (e : theTabs[i]? = some q) : q ∈ u.tabs := by
  rw [hu.tabs]; exact List.mem_of_getElem? e
theorem at_anything_ {u : U} (hu : Is u) : MethAt u "_anything_" 1468 := by walk_at "m.at"
theorem at_array_ {u : U} (hu : Is u) : MethAt u "_array_" 523 := by walk_at "m.at"
theorem at_array__c0_ {u : U} (hu : Is u) : MethAt u "_array__c0_" 530 := by walk_at "m.at"
theorem at_array__c1_ {u : U} (hu : Is u) : MethAt u "_array__c1_" 537 := by walk_at "m.at"
theorem at_comment_ {u : U} (hu : Is u) : MethAt u "_comment_" 404 := by walk_at "m.at"
theorem at_comment__c0_ {u : U} (hu : Is u) : MethAt u "_comment__c0_" 411 := by walk_at "m.at"
theorem at_comment__c0__s1_p_ {u : U} (hu : Is u) : MethAt u "_comment__c0__s1_p_" 418 := by walk_at "m.at"
theorem at_comment__c1_ {u : U} (hu : Is u) : MethAt u "_comment__c1_" 425 := by walk_at "m.at"
theorem at_comment__c1__s1_ {u : U} (hu : Is u) : MethAt u "_comment__c1__s1_" 432 := by walk_at "m.at"
theorem at_comment__c1__s1_p__s0_ {u : U} (hu : Is u) : MethAt u "_comment__c1__s1_p__s0_" 439 := by walk_at "m.at"
theorem at_dec_int_lit_ {u : U} (hu : Is u) : MethAt u "_dec_int_lit_" 1314 := by walk_at "m.at"
theorem at_dec_int_lit__c0_ {u : U} (hu : Is u) : MethAt u "_dec_int_lit__c0_" 1321 := by walk_at "m.at"
theorem at_dec_int_lit__c1_ {u : U} (hu : Is u) : MethAt u "_dec_int_lit__c1_" 1328 := by walk_at "m.at"
theorem at_dec_int_lit__c1__s1_ {u : U} (hu : Is u) : MethAt u "_dec_int_lit__c1__s1_" 1335 := by walk_at "m.at"
theorem at_dec_literal_ {u : U} (hu : Is u) : MethAt u "_dec_literal_" 1265 := by walk_at "m.at"
theorem at_dec_literal__c0_ {u : U} (hu : Is u) : MethAt u "_dec_literal__c0_" 1272 := by walk_at "m.at"
theorem at_dec_literal__c1_ {u : U} (hu : Is u) : MethAt u "_dec_literal__c1_" 1279 := by walk_at "m.at"
theorem at_dec_literal__c2_ {u : U} (hu : Is u) : MethAt u "_dec_literal__c2_" 1286 := by walk_at "m.at"
theorem at_dec_literal__c3_ {u : U} (hu : Is u) : MethAt u "_dec_literal__c3_" 1293 := by walk_at "m.at"
theorem at_dec_literal__c4_ {u : U} (hu : Is u) : MethAt u "_dec_literal__c4_" 1300 := by walk_at "m.at"
theorem at_dec_literal__c5_ {u : U} (hu : Is u) : MethAt u "_dec_literal__c5_" 1307 := by walk_at "m.at"
theorem at_dquote_ {u : U} (hu : Is u) : MethAt u "_dquote_" 747 := by walk_at "m.at"
theorem at_eol_ {u : U} (hu : Is u) : MethAt u "_eol_" 362 := by walk_at "m.at"
theorem at_eol__c0_ {u : U} (hu : Is u) : MethAt u "_eol__c0_" 369 := by walk_at "m.at"
theorem at_eol__c1_ {u : U} (hu : Is u) : MethAt u "_eol__c1_" 376 := by walk_at "m.at"
theorem at_eol__c2_ {u : U} (hu : Is u) : MethAt u "_eol__c2_" 383 := by walk_at "m.at"
theorem at_eol__c3_ {u : U} (hu : Is u) : MethAt u "_eol__c3_" 390 := by walk_at "m.at"
theorem at_eol__c4_ {u : U} (hu : Is u) : MethAt u "_eol__c4_" 397 := by walk_at "m.at"
theorem at_frac_ {u : U} (hu : Is u) : MethAt u "_frac_" 1398 := by walk_at "m.at"
theorem at_frac__s1_ {u : U} (hu : Is u) : MethAt u "_frac__s1_" 1405 := by walk_at "m.at"
theorem at_hex_literal_ {u : U} (hu : Is u) : MethAt u "_hex_literal_" 1356 := by walk_at "m.at"
theorem at_hex_literal__s0_ {u : U} (hu : Is u) : MethAt u "_hex_literal__s0_" 1363 := by walk_at "m.at"
theorem at_hex_literal__s1_ {u : U} (hu : Is u) : MethAt u "_hex_literal__s1_" 1370 := by walk_at "m.at"
theorem at_nonzerodigit_ {u : U} (hu : Is u) : MethAt u "_nonzerodigit_" 1349 := by walk_at "m.at"
theorem at_num_literal_ {u : U} (hu : Is u) : MethAt u "_num_literal_" 1209 := by walk_at "m.at"
theorem at_num_literal__c0_ {u : U} (hu : Is u) : MethAt u "_num_literal__c0_" 1216 := by walk_at "m.at"
theorem at_num_literal__c1_ {u : U} (hu : Is u) : MethAt u "_num_literal__c1_" 1223 := by walk_at "m.at"
theorem at_num_literal__c2_ {u : U} (hu : Is u) : MethAt u "_num_literal__c2_" 1230 := by walk_at "m.at"
theorem at_object_ {u : U} (hu : Is u) : MethAt u "_object_" 502 := by walk_at "m.at"
theorem at_object__c0_ {u : U} (hu : Is u) : MethAt u "_object__c0_" 509 := by walk_at "m.at"
theorem at_object__c1_ {u : U} (hu : Is u) : MethAt u "_object__c1_" 516 := by walk_at "m.at"
theorem at_sp_ {u : U} (hu : Is u) : MethAt u "_sp_" 271 := by walk_at "m.at"
theorem at_squote_ {u : U} (hu : Is u) : MethAt u "_squote_" 740 := by walk_at "m.at"
theorem at_string_ {u : U} (hu : Is u) : MethAt u "_string_" 544 := by walk_at "m.at"
theorem at_string__c0_ {u : U} (hu : Is u) : MethAt u "_string__c0_" 551 := by walk_at "m.at"
theorem at_string__c0__s1_ {u : U} (hu : Is u) : MethAt u "_string__c0__s1_" 558 := by walk_at "m.at"
theorem at_string__c1_ {u : U} (hu : Is u) : MethAt u "_string__c1_" 565 := by walk_at "m.at"
theorem at_string__c1__s1_ {u : U} (hu : Is u) : MethAt u "_string__c1__s1_" 572 := by walk_at "m.at"
theorem at_trailing_ {u : U} (hu : Is u) : MethAt u "_trailing_" 236 := by walk_at "m.at"
theorem at_unsigned_lit_ {u : U} (hu : Is u) : MethAt u "_unsigned_lit_" 1237 := by walk_at "m.at"
theorem at_unsigned_lit__c0_ {u : U} (hu : Is u) : MethAt u "_unsigned_lit__c0_" 1244 := by walk_at "m.at"
theorem at_unsigned_lit__c2_ {u : U} (hu : Is u) : MethAt u "_unsigned_lit__c2_" 1251 := by walk_at "m.at"
theorem at_unsigned_lit__c3_ {u : U} (hu : Is u) : MethAt u "_unsigned_lit__c3_" 1258 := by walk_at "m.at"
theorem at_value_ {u : U} (hu : Is u) : MethAt u "_value_" 446 := by walk_at "m.at"
theorem at_value__c0_ {u : U} (hu : Is u) : MethAt u "_value__c0_" 453 := by walk_at "m.at"
theorem at_value__c1_ {u : U} (hu : Is u) : MethAt u "_value__c1_" 460 := by walk_at "m.at"
theorem at_value__c2_ {u : U} (hu : Is u) : MethAt u "_value__c2_" 467 := by walk_at "m.at"
theorem at_value__c3_ {u : U} (hu : Is u) : MethAt u "_value__c3_" 474 := by walk_at "m.at"
theorem at_value__c4_ {u : U} (hu : Is u) : MethAt u "_value__c4_" 481 := by walk_at "m.at"
theorem at_value__c5_ {u : U} (hu : Is u) : MethAt u "_value__c5_" 488 := by walk_at "m.at"
theorem at_value__c6_ {u : U} (hu : Is u) : MethAt u "_value__c6_" 495 := by walk_at "m.at"
theorem at_ws_ {u : U} (hu : Is u) : MethAt u "_ws_" 278 := by walk_at "m.at"
theorem at_ws__c0_ {u : U} (hu : Is u) : MethAt u "_ws__c0_" 285 := by walk_at "m.at"
theorem at_ws__c3_ {u : U} (hu : Is u) : MethAt u "_ws__c3_" 292 := by walk_at "m.at"
theorem at_ws__c4_ {u : U} (hu : Is u) : MethAt u "_ws__c4_" 299 := by walk_at "m.at"
theorem at_ws__c5_ {u : U} (hu : Is u) : MethAt u "_ws__c5_" 306 := by walk_at "m.at"
theorem at_ws__c6_ {u : U} (hu : Is u) : MethAt u "_ws__c6_" 313 := by walk_at "m.at"
theorem at_ws__c7_ {u : U} (hu : Is u) : MethAt u "_ws__c7_" 320 := by walk_at "m.at"
theorem at_ws__c8_ {u : U} (hu : Is u) : MethAt u "_ws__c8_" 327 := by walk_at "m.at"
theorem at_ws__c8__s0_ {u : U} (hu : Is u) : MethAt u "_ws__c8__s0_" 334 := by walk_at "m.at"
theorem at_ws__c8__s0_n_n_ {u : U} (hu : Is u) : MethAt u "_ws__c8__s0_n_n_" 341 := by walk_at "m.at"
theorem at_ws__c8__s0_n_n_g__c0_ {u : U} (hu : Is u) : MethAt u "_ws__c8__s0_n_n_g__c0_" 348 := by walk_at "m.at"
theorem at_ws__c8__s0_n_n_g__c0__s1_ {u : U} (hu : Is u) : MethAt u "_ws__c8__s0_n_n_g__c0__s1_" 355 := by walk_at "m.at"
end Mine

end

/- PA2 -/
section
open PySem PySem.W PyProof.Rows PySem.Calls
set_option Elab.async false
set_option maxRecDepth 100000
namespace Mine

theorem fillA2_ (_ : PySem.Challenge.rw_bd6020_01 = PySem.Challenge.rw_bd6020_01) (_ : Mine.hd.heap_39 = Mine.hd.heap_39) : True := by
  have h : PySem.Challenge.rw_bd6020_01 = PySem.Challenge.rw_bd6020_01 ∧ Mine.hd.heap_39 = Mine.hd.heap_39 := by
    k_fill
    exact ⟨rfl, rfl⟩
  trivial
local macro_rules | `(tactic| walk_at "m.at") => `(tactic| exact ⟨by rw [Is.K (by assumption), Is.C (by assumption)]; k_is, ⟨_, none, #[], by rw [Is.K (by assumption)]; k_is⟩, by decide +kernel⟩)
local macro_rules | `(tactic| walk_at "m.is") => `(tactic| first | (rw [Is.K (by assumption), Is.C (by assumption)]; k_is) | (rw [Is.K (by assumption)]; k_is))

theorem entry_cat : entryFor table "unicodedata.category" = some Builtin.«unicodedata.category» := entryFor_of_tree (by kernel_rfl)
theorem kind_cat : builtinKind "unicodedata.category" = none := by decide +kernel
theorem plain_cat : plainId "unicodedata.category" = true := by decide +kernel
theorem args_cat (a : Value) : argsOk "unicodedata.category" ⟨[a], []⟩ := by unfold argsOk; kernel_rfl
theorem cat_slash : Builtin.Unicodedata.categoryOf 47 = "Po" := by decide +kernel
theorem gives_cat (t : Tok) : PySem.Gives (Builtin.«unicodedata.category» ⟨[.str ⟨#[47]⟩ t], []⟩) (.str "Po") := by
  refine PySem.Gives.of_eq ?_
  show _ = _
  rw [← cat_slash]
  rfl

section
variable {u : U} {A : Around} {E : Value → Shared → Prop} {s : Shared} {g : Heap} {N : List Addr} {σ σ' : PS} {L : Addr} {m : Str → Option Value} {f : Addr} {fd : FuncData} {x : Str} {v : Value} {pos : Pos}
theorem nameG {Q : Value → Shared → Prop} (I : PInv u g N s.heap σ) (hk : fd.scope.kind = .function) (hx : fd.scope.names.lookup x = some .globalImplicit) (hg : fd.globals = mainGlobals)
    (e : nsIn u.K mainGlobals x = some (some v)) (h : Q v s) (hd : (x == ("__debug__" : Str)) = false := by decide) :
    wpAny (model u.prog u.w) A (eval (.Name x pos) (callEnv fd L f)) Q E s :=
  have T := I.T
  Name_function_global hk hx (loadGlobal_global (env := callEnv fd L f) (show s.heap.Ns fd.globals u.mg from hg ▸ T.g) (mg_of I.K T.g e) h) hd
end

set_option maxHeartbeats 8000000 in
theorem leaf_unicat {u : U} (hu : Is u) {g : Heap} {A : Around} {s : Shared} {σ : PS} {t t' : Tok} (hR : Room A 1) (I : PInv u g [] s.heap σ) :
    codeAny (model u.prog u.w) A (.call (.ref 208) ⟨[.ref u.c.x, .str ⟨#[47]⟩ t, .str "Zs" t'], []⟩) (fun rr s' => rr = .ok (.ret (.bool false)) ∧ ∃ h' tk', s' = { s with heap := h', toks := tk' } ∧ PInv u g [] h' σ) s := by
  refine' enter_local (d := 0) (binds := [(("self" : Str), .ref u.c.x), (("var" : Str), .str ⟨#[47]⟩ t), (("cat" : Str), .str "Zs" t')]) ⟨none, #[], ?hf⟩ ?hb ?hcd ?hbind ?hcell ?hloc ?hco ?hgen ?hk hR I ?_
  case hf => rw [hu.K]; k_is
  case hb => rfl
  case hcd => rw [hu.K]; k_is
  case hbind => exact BindsTo.of_eq rfl
  case hcell => decide
  case hloc => exact locs rfl
  case hco => rfl
  case hgen => rfl
  case hk => rfl
  intro L h₁ I₁ F₁
  (try dsimp only)
  have nc : nsIn u.K mainGlobals "category" = some (some (.builtin "unicodedata.category")) := by walk_at "m.is"
  refine wpAny_execs_cons (wpAny_Return_some (wpAny_Compare1 (Call_ (nameG I₁ rfl rfl rfl nc ?_))))
  refine callWith_method1 (spliced_more (nameL F₁ rfl rfl rfl (spliced_none ?_)))
  refine call_function_meets kind_cat plain_cat entry_cat (args_cat _) (gives_cat t).meets ⟨?_, ?_⟩
  · show (2 : Nat) ≤ sizeLine; decide
  refine nameL (s := ⟨h₁, s.gens, s.drawn, _, s.os⟩) F₁ rfl rfl rfl (eq_str ?_)
  exact ⟨rfl, h₁, _, rfl, I₁.drop⟩

/-- the category of the one sign that ever comes here -/
def zsF : PS → Option PS := fun σ => match σ.sc with
  | sc :: _ => if sc.xv = some ⟨#[47]⟩ ∧ σ.sc.length ≤ 1001 then some σ.fail else none
  | [] => none
theorem at_get {u : U} (hu : Is u) : MethAt u "_get" 194 := by walk_at "m.at"
theorem at_is_unicat {u : U} (hu : Is u) : MethAt u "_is_unicat" 208 := by walk_at "m.at"

section
variable {u : U} {A : Around} {s : Shared} {g : Heap} {N : List Addr} {σ : PS} {L : Addr} {m : Str → Option Value} {cd : Code} {V : Value → Prop} {R : Result → Shared → Prop}
/-- what gives a value and leaves the parser as it was, from a frame -/
theorem runV (hr : ∀ g', g.StaysIn g' → PInv u g' [] s.heap σ → codeAny (model u.prog u.w) A cd (fun rr s' => (∃ v, rr = .ok (.ret v) ∧ V v) ∧ ∃ h' tk', s' = { s with heap := h', toks := tk' } ∧ PInv u g' [] h' σ) s)
    (F : Fr g L s.heap m) (I : PInv u g (L :: N) s.heap σ)
    (h : ∀ v h' tk', V v → PInv u g (L :: N) h' σ → Fr g L h' m → (∀ a ∈ N, ∀ o, s.heap.get? a = some o → h'.get? a = some o) → R (.ok (.ret v)) { s with heap := h', toks := tk' }) :
    codeAny (model u.prog u.w) A cd R s := by
  obtain ⟨g', J, st, zz, al, back, _, _⟩ := I.freeze'
  refine codeAny_mono (hr g' st J) fun r s' hd => ?_
  obtain ⟨⟨v, rfl, hv⟩, h', tk', rfl, J'⟩ := hd
  exact h v h' tk' hv (back h' σ J') (Fr.lift F st (al L (.head _)) J'.st) fun a ha o e => J'.st _ _ (al a (.tail _ ha) o e)
end

set_option maxHeartbeats 8000000 in
theorem leaf_zs {u : U} (hu : Is u) (kn : Kn u) : Meth u 355 zsF 2 := by
  intro g g' A s σ σ' k hR I hF
  unfold zsF at hF
  split at hF
  · rename_i sc r hsc
    split at hF
    · rename_i hc
      cases hF
      obtain ⟨hx, hlen⟩ := hc
      obtain ⟨nm, xv⟩ := sc
      dsimp only at hx
      subst hx
      refine' enter_local (d := 1) (binds := [(("self" : Str), .ref u.c.x)]) ⟨none, #[], ?hf⟩ ?hb ?hcd ?hbind ?hcell ?hloc ?hco ?hgen ?hk hR I ?_
      case hf => rw [hu.K]; k_is
      case hb => rfl
      case hcd => rw [hu.K]; k_is
      case hbind => exact BindsTo.of_eq rfl
      case hcell => decide
      case hloc => exact locs rfl
      case hco => rfl
      case hgen => rfl
      case hk => rfl
      intro L h₁ I₁ F₁
      (try dsimp only)
      refine wpAny_execs_cons (wpAny_Assign_Name (callF (pl := _) kn (at_is_unicat hu) (by intros; rfl) F₁ I₁ rfl rfl rfl ?_) (by rfl))
      refine spliced_more (callF (pl := _) kn (at_get hu) (by intros; rfl) F₁ I₁ rfl rfl rfl ?_)
      refine spliced_more (Constant_str (spliced_none ⟨I₁.K, wpAny_call ?_⟩))
      refine runV (V := fun v => ∃ tk, v = .str ⟨#[47]⟩ tk) (s := ⟨h₁, s.gens, s.drawn, _, s.os⟩) (fun g₂ st J => ?_) F₁ I₁ fun v h₂ tk₂ hv I₂ F₂ _ => ?_
      · refine codeAny_mono (leaf_get hu kn (s := ⟨h₁, s.gens, s.drawn, _, s.os⟩) hR.deeper J hsc hlen) fun rr s' hd => ?_
        obtain ⟨tk, rfl, hh⟩ := hd
        exact ⟨⟨_, rfl, tk, rfl⟩, hh⟩
      obtain ⟨tk, rfl⟩ := hv
      (try dsimp only)
      refine spliced_more (Constant_str (spliced_none ⟨I₂.K, wpAny_call ?_⟩))
      refine runV (V := fun v => v = .bool false) (s := ⟨h₂, s.gens, s.drawn, _, s.os⟩) (fun g₂ st J => ?_) F₂ I₂ fun v h₃ tk₃ hv I₃ F₃ _ => ?_
      · refine codeAny_mono (leaf_unicat hu (s := ⟨h₂, s.gens, s.drawn, _, s.os⟩) hR.deeper J) fun rr s' hd => ?_
        obtain ⟨rfl, hh⟩ := hd
        exact ⟨⟨_, rfl, rfl⟩, hh⟩
      subst hv
      (try dsimp only)
      refine stL F₃ I₃ rfl rfl fun h₄ I₄ F₄ _ => ?_
      (try dsimp only)
      refine wpAny_execs_cons (wpAny_If (isTrue_plain (nameL F₄ rfl rfl rfl (wpAny_truthy_bool ?_))))
      rw [if_neg (by decide)]
      refine wpAny_execs_cons (wpAny_Expr (callF0 (pl := _) kn (at_fail hu) (by intros; rfl) F₄ I₄ rfl rfl rfl (wpAny_call ?_)))
      refine runF (leaf_fail hu kn) F₄ I₄ (hR.deeper.less (by omega)) rfl fun h₇ tk₇ I₇ F₇ _ => ?_
      exact wpAny_execs_nil (wpAny_execs_nil ⟨rfl, h₇, _, rfl, I₇.drop⟩)
    · cases hF
  · cases hF
end Mine

end

/- PM1 -/
section
open PySem PySem.W PyProof.Rows PySem.Calls
set_option Elab.async false
set_option maxRecDepth 100000
namespace Mine

theorem fillPM1_ (_ : PySem.Challenge.rw_bd6020_01 = PySem.Challenge.rw_bd6020_01) (_ : Mine.hd.heap_39 = Mine.hd.heap_39) : True := by
  have h : PySem.Challenge.rw_bd6020_01 = PySem.Challenge.rw_bd6020_01 ∧ Mine.hd.heap_39 = Mine.hd.heap_39 := by
    k_fill
    exact ⟨rfl, rfl⟩
  trivial
local macro_rules | `(tactic| walk_at "m.at") => `(tactic| exact ⟨by rw [Is.K (by assumption), Is.C (by assumption)]; k_is, ⟨_, none, #[], by rw [Is.K (by assumption)]; k_is⟩, by decide +kernel⟩)
local macro_rules | `(tactic| walk_at "m.is") => `(tactic| first | (rw [Is.K (by assumption), Is.C (by assumption)]; k_is) | (rw [Is.K (by assumption)]; k_is))

def f_ws__c0_ (T : Str) : PS → Option PS := thenF [chF T (" " : Str)]
set_option maxHeartbeats 8000000 in
theorem m_ws__c0_ {u : U} (hu : Is2 u) (kn : Kn u) : Meth u 285 (f_ws__c0_ u.c.T) 3 := by
  have hu1 := hu.toIs
  refine' meth_loc (d := 2) ⟨none, #[], ?hf⟩ ?hb ?hcd ?hbind ?hcell ?hloc ?hco ?hgen ?hk ?hE
  case hf => rw [hu1.K]; k_is
  case hb => rfl
  case hcd => rw [hu1.K]; k_is
  case hbind => exact fun s => BindsTo.of_eq rfl
  case hcell => decide
  case hloc => rfl
  case hco => rfl
  case hgen => rfl
  case hk => rfl
  case hE =>
    intro L g₁ S
    have tf_ := tf hu
    exact (.cons rfl rfl (EvalC.less (ec_ch hu1 kn S) (by decide : 2 ≤ 2)) .nil)
def f_eol__c0_ (T : Str) : PS → Option PS := thenF [seqF [chF T ("\r" : Str), chF T ("\n" : Str)]]
set_option maxHeartbeats 8000000 in
theorem m_eol__c0_ {u : U} (hu : Is2 u) (kn : Kn u) : Meth u 369 (f_eol__c0_ u.c.T) 5 := by
  have hu1 := hu.toIs
  refine' meth_cell (d := 4) ⟨none, #[], ?hf⟩ ?hb ?hcd ?hbind ?hs ?hcl ?hc ?hco ?hgen ?hk ?hE
  case hf => rw [hu1.K]; k_is
  case hb => rfl
  case hcd => rw [hu1.K]; k_is
  case hbind => exact fun s => BindsTo.of_eq rfl
  case hs => rfl
  case hcl => rfl
  case hc => exact fun n => rfl
  case hco => rfl
  case hgen => rfl
  case hk => rfl
  case hE =>
    intro L g₁ hcell S
    have tf_ := tf hu
    exact (.cons rfl rfl (EvalC.less (ec_seq (d := 3) hu1 kn S (ea_list (.cons (EvalA.lessR (ea_lam (d := 2) tf_ rfl (mem_ix hu 5 rfl) rfl rfl rfl rfl rfl rfl rfl hcell (fun _ _ _ _ _ _ _ S => (ec_ch hu1 kn S))) (by decide : 3 ≤ 3)) (.cons (EvalA.lessR (ea_lam (d := 2) tf_ rfl (mem_ix hu 5 rfl) rfl rfl rfl rfl rfl rfl rfl hcell (fun _ _ _ _ _ _ _ S => (ec_ch hu1 kn S))) (by decide : 3 ≤ 3)) .nil)) (Nat.le_of_ble_eq_true rfl))) (by decide : 4 ≤ 4)) .nil)
def f_eol__c1_ (T : Str) : PS → Option PS := thenF [chF T ("\r" : Str)]
set_option maxHeartbeats 8000000 in
theorem m_eol__c1_ {u : U} (hu : Is2 u) (kn : Kn u) : Meth u 376 (f_eol__c1_ u.c.T) 3 := by
  have hu1 := hu.toIs
  refine' meth_loc (d := 2) ⟨none, #[], ?hf⟩ ?hb ?hcd ?hbind ?hcell ?hloc ?hco ?hgen ?hk ?hE
  case hf => rw [hu1.K]; k_is
  case hb => rfl
  case hcd => rw [hu1.K]; k_is
  case hbind => exact fun s => BindsTo.of_eq rfl
  case hcell => decide
  case hloc => rfl
  case hco => rfl
  case hgen => rfl
  case hk => rfl
  case hE =>
    intro L g₁ S
    have tf_ := tf hu
    exact (.cons rfl rfl (EvalC.less (ec_ch hu1 kn S) (by decide : 2 ≤ 2)) .nil)
def f_eol__c2_ (T : Str) : PS → Option PS := thenF [chF T ("\n" : Str)]
set_option maxHeartbeats 8000000 in
theorem m_eol__c2_ {u : U} (hu : Is2 u) (kn : Kn u) : Meth u 383 (f_eol__c2_ u.c.T) 3 := by
  have hu1 := hu.toIs
  refine' meth_loc (d := 2) ⟨none, #[], ?hf⟩ ?hb ?hcd ?hbind ?hcell ?hloc ?hco ?hgen ?hk ?hE
  case hf => rw [hu1.K]; k_is
  case hb => rfl
  case hcd => rw [hu1.K]; k_is
  case hbind => exact fun s => BindsTo.of_eq rfl
  case hcell => decide
  case hloc => rfl
  case hco => rfl
  case hgen => rfl
  case hk => rfl
  case hE =>
    intro L g₁ S
    have tf_ := tf hu
    exact (.cons rfl rfl (EvalC.less (ec_ch hu1 kn S) (by decide : 2 ≤ 2)) .nil)
def f_eol__c3_ (T : Str) : PS → Option PS := thenF [chF T ("\u2028" : Str)]
set_option maxHeartbeats 8000000 in
theorem m_eol__c3_ {u : U} (hu : Is2 u) (kn : Kn u) : Meth u 390 (f_eol__c3_ u.c.T) 3 := by
  have hu1 := hu.toIs
  refine' meth_loc (d := 2) ⟨none, #[], ?hf⟩ ?hb ?hcd ?hbind ?hcell ?hloc ?hco ?hgen ?hk ?hE
  case hf => rw [hu1.K]; k_is
  case hb => rfl
  case hcd => rw [hu1.K]; k_is
  case hbind => exact fun s => BindsTo.of_eq rfl
  case hcell => decide
  case hloc => rfl
  case hco => rfl
  case hgen => rfl
  case hk => rfl
  case hE =>
    intro L g₁ S
    have tf_ := tf hu
    exact (.cons rfl rfl (EvalC.less (ec_ch hu1 kn S) (by decide : 2 ≤ 2)) .nil)
def f_eol__c4_ (T : Str) : PS → Option PS := thenF [chF T ("\u2029" : Str)]
set_option maxHeartbeats 8000000 in
theorem m_eol__c4_ {u : U} (hu : Is2 u) (kn : Kn u) : Meth u 397 (f_eol__c4_ u.c.T) 3 := by
  have hu1 := hu.toIs
  refine' meth_loc (d := 2) ⟨none, #[], ?hf⟩ ?hb ?hcd ?hbind ?hcell ?hloc ?hco ?hgen ?hk ?hE
  case hf => rw [hu1.K]; k_is
  case hb => rfl
  case hcd => rw [hu1.K]; k_is
  case hbind => exact fun s => BindsTo.of_eq rfl
  case hcell => decide
  case hloc => rfl
  case hco => rfl
  case hgen => rfl
  case hk => rfl
  case hE =>
    intro L g₁ S
    have tf_ := tf hu
    exact (.cons rfl rfl (EvalC.less (ec_ch hu1 kn S) (by decide : 2 ≤ 2)) .nil)
def f_eol_ (T : Str) : PS → Option PS := thenF [chooseF [f_eol__c0_ T, f_eol__c1_ T, f_eol__c2_ T, f_eol__c3_ T, f_eol__c4_ T]]
set_option maxHeartbeats 8000000 in
theorem m_eol_ {u : U} (hu : Is2 u) (kn : Kn u) : Meth u 362 (f_eol_ u.c.T) 7 := by
  have hu1 := hu.toIs
  refine' meth_loc (d := 6) ⟨none, #[], ?hf⟩ ?hb ?hcd ?hbind ?hcell ?hloc ?hco ?hgen ?hk ?hE
  case hf => rw [hu1.K]; k_is
  case hb => rfl
  case hcd => rw [hu1.K]; k_is
  case hbind => exact fun s => BindsTo.of_eq rfl
  case hcell => decide
  case hloc => rfl
  case hco => rfl
  case hgen => rfl
  case hk => rfl
  case hE =>
    intro L g₁ S
    have tf_ := tf hu
    exact (.cons rfl rfl (EvalC.less (ec_choose (d := 3) hu1 kn S (ea_list (.cons (ea_attr kn (at_eol__c0_ hu1) (fun _ _ _ _ => rfl) S ((m_eol__c0_ hu kn).less (by decide : 5 ≤ 5))) (.cons (ea_attr kn (at_eol__c1_ hu1) (fun _ _ _ _ => rfl) S ((m_eol__c1_ hu kn).less (by decide : 3 ≤ 5))) (.cons (ea_attr kn (at_eol__c2_ hu1) (fun _ _ _ _ => rfl) S ((m_eol__c2_ hu kn).less (by decide : 3 ≤ 5))) (.cons (ea_attr kn (at_eol__c3_ hu1) (fun _ _ _ _ => rfl) S ((m_eol__c3_ hu kn).less (by decide : 3 ≤ 5))) (.cons (ea_attr kn (at_eol__c4_ hu1) (fun _ _ _ _ => rfl) S ((m_eol__c4_ hu kn).less (by decide : 3 ≤ 5))) .nil))))) (Nat.le_of_ble_eq_true rfl)) (Nat.le_of_ble_eq_true rfl)) (by decide : 6 ≤ 6)) .nil)
def f_comment__c0__s1_p_ (T : Str) : PS → Option PS := thenF [seqF [notF (f_eol_ T), anyF T]]
set_option maxHeartbeats 8000000 in
theorem m_comment__c0__s1_p_ {u : U} (hu : Is2 u) (kn : Kn u) : Meth u 418 (f_comment__c0__s1_p_ u.c.T) 11 := by
  have hu1 := hu.toIs
  refine' meth_cell (d := 10) ⟨none, #[], ?hf⟩ ?hb ?hcd ?hbind ?hs ?hcl ?hc ?hco ?hgen ?hk ?hE
  case hf => rw [hu1.K]; k_is
  case hb => rfl
  case hcd => rw [hu1.K]; k_is
  case hbind => exact fun s => BindsTo.of_eq rfl
  case hs => rfl
  case hcl => rfl
  case hc => exact fun n => rfl
  case hco => rfl
  case hgen => rfl
  case hk => rfl
  case hE =>
    intro L g₁ hcell S
    have tf_ := tf hu
    exact (.cons rfl rfl (EvalC.less (ec_seq (d := 9) hu1 kn S (ea_list (.cons (EvalA.lessR (ea_lam (d := 8) tf_ rfl (mem_ix hu 7 rfl) rfl rfl rfl rfl rfl rfl rfl hcell (fun _ _ _ _ _ _ _ S => (ec_not (d := 5) hu1 kn S (ea_attr kn (at_eol_ hu1) (fun _ _ _ _ => rfl) S ((m_eol_ hu kn).less (by decide : 7 ≤ 7)))))) (by decide : 9 ≤ 9)) (.cons (ea_attr kn (at_anything_ hu1) (fun _ _ _ _ => rfl) S ((leaf_any hu1 kn).less (by decide : 2 ≤ 9))) .nil)) (Nat.le_of_ble_eq_true rfl))) (by decide : 10 ≤ 10)) .nil)
def f_comment__c0_ (T : Str) : PS → Option PS := thenF [seqF [strF T ("//" : Str), starF (f_comment__c0__s1_p_ T)]]
set_option maxHeartbeats 8000000 in
theorem m_comment__c0_ {u : U} (hu : Is2 u) (kn : Kn u) : Meth u 411 (f_comment__c0_ u.c.T) 15 := by
  have hu1 := hu.toIs
  refine' meth_cell (d := 14) ⟨none, #[], ?hf⟩ ?hb ?hcd ?hbind ?hs ?hcl ?hc ?hco ?hgen ?hk ?hE
  case hf => rw [hu1.K]; k_is
  case hb => rfl
  case hcd => rw [hu1.K]; k_is
  case hbind => exact fun s => BindsTo.of_eq rfl
  case hs => rfl
  case hcl => rfl
  case hc => exact fun n => rfl
  case hco => rfl
  case hgen => rfl
  case hk => rfl
  case hE =>
    intro L g₁ hcell S
    have tf_ := tf hu
    exact (.cons rfl rfl (EvalC.less (ec_seq (d := 13) hu1 kn S (ea_list (.cons (EvalA.lessR (ea_lam (d := 3) tf_ rfl (mem_ix hu 6 rfl) rfl rfl rfl rfl rfl rfl rfl hcell (fun _ _ _ _ _ _ _ S => (ec_str hu1 kn S (by decide +kernel)))) (by decide : 4 ≤ 13)) (.cons (EvalA.lessR (ea_lam (d := 12) tf_ rfl (mem_ix hu 6 rfl) rfl rfl rfl rfl rfl rfl rfl hcell (fun _ _ _ _ _ _ _ S => (ec_star (d := 9) hu1 kn S (ea_attr kn (at_comment__c0__s1_p_ hu1) (fun _ _ _ _ => rfl) S ((m_comment__c0__s1_p_ hu kn).less (by decide : 11 ≤ 11)))))) (by decide : 13 ≤ 13)) .nil)) (Nat.le_of_ble_eq_true rfl))) (by decide : 14 ≤ 14)) .nil)
def f_comment__c1__s1_p__s0_ (T : Str) : PS → Option PS := thenF [notF (strF T ("*/" : Str))]
set_option maxHeartbeats 8000000 in
theorem m_comment__c1__s1_p__s0_ {u : U} (hu : Is2 u) (kn : Kn u) : Meth u 439 (f_comment__c1__s1_p__s0_ u.c.T) 6 := by
  have hu1 := hu.toIs
  refine' meth_cell (d := 5) ⟨none, #[], ?hf⟩ ?hb ?hcd ?hbind ?hs ?hcl ?hc ?hco ?hgen ?hk ?hE
  case hf => rw [hu1.K]; k_is
  case hb => rfl
  case hcd => rw [hu1.K]; k_is
  case hbind => exact fun s => BindsTo.of_eq rfl
  case hs => rfl
  case hcl => rfl
  case hc => exact fun n => rfl
  case hco => rfl
  case hgen => rfl
  case hk => rfl
  case hE =>
    intro L g₁ hcell S
    have tf_ := tf hu
    exact (.cons rfl rfl (EvalC.less (ec_not (d := 2) hu1 kn S (EvalA.lessR (ea_lam (d := 3) tf_ rfl (mem_ix hu 10 rfl) rfl rfl rfl rfl rfl rfl rfl hcell (fun _ _ _ _ _ _ _ S => (ec_str hu1 kn S (by decide +kernel)))) (by decide : 4 ≤ 4))) (by decide : 5 ≤ 5)) .nil)
def f_comment__c1__s1_ (T : Str) : PS → Option PS := thenF [starF (seqF [f_comment__c1__s1_p__s0_ T, anyF T])]
set_option maxHeartbeats 8000000 in
theorem m_comment__c1__s1_ {u : U} (hu : Is2 u) (kn : Kn u) : Meth u 432 (f_comment__c1__s1_ u.c.T) 10 := by
  have hu1 := hu.toIs
  refine' meth_cell (d := 9) ⟨none, #[], ?hf⟩ ?hb ?hcd ?hbind ?hs ?hcl ?hc ?hco ?hgen ?hk ?hE
  case hf => rw [hu1.K]; k_is
  case hb => rfl
  case hcd => rw [hu1.K]; k_is
  case hbind => exact fun s => BindsTo.of_eq rfl
  case hs => rfl
  case hcl => rfl
  case hc => exact fun n => rfl
  case hco => rfl
  case hgen => rfl
  case hk => rfl
  case hE =>
    intro L g₁ hcell S
    have tf_ := tf hu
    exact (.cons rfl rfl (EvalC.less (ec_star (d := 6) hu1 kn S (EvalA.lessR (ea_lam (d := 7) tf_ rfl (mem_ix hu 9 rfl) rfl rfl rfl rfl rfl rfl rfl hcell (fun _ _ _ _ _ _ _ S => (ec_seq (d := 6) hu1 kn S (ea_list (.cons (ea_attr kn (at_comment__c1__s1_p__s0_ hu1) (fun _ _ _ _ => rfl) S ((m_comment__c1__s1_p__s0_ hu kn).less (by decide : 6 ≤ 6))) (.cons (ea_attr kn (at_anything_ hu1) (fun _ _ _ _ => rfl) S ((leaf_any hu1 kn).less (by decide : 2 ≤ 6))) .nil)) (Nat.le_of_ble_eq_true rfl))))) (by decide : 8 ≤ 8))) (by decide : 9 ≤ 9)) .nil)
def f_comment__c1_ (T : Str) : PS → Option PS := thenF [seqF [strF T ("/*" : Str), f_comment__c1__s1_ T, strF T ("*/" : Str)]]
set_option maxHeartbeats 8000000 in
theorem m_comment__c1_ {u : U} (hu : Is2 u) (kn : Kn u) : Meth u 425 (f_comment__c1_ u.c.T) 12 := by
  have hu1 := hu.toIs
  refine' meth_cell (d := 11) ⟨none, #[], ?hf⟩ ?hb ?hcd ?hbind ?hs ?hcl ?hc ?hco ?hgen ?hk ?hE
  case hf => rw [hu1.K]; k_is
  case hb => rfl
  case hcd => rw [hu1.K]; k_is
  case hbind => exact fun s => BindsTo.of_eq rfl
  case hs => rfl
  case hcl => rfl
  case hc => exact fun n => rfl
  case hco => rfl
  case hgen => rfl
  case hk => rfl
  case hE =>
    intro L g₁ hcell S
    have tf_ := tf hu
    exact (.cons rfl rfl (EvalC.less (ec_seq (d := 10) hu1 kn S (ea_list (.cons (EvalA.lessR (ea_lam (d := 3) tf_ rfl (mem_ix hu 8 rfl) rfl rfl rfl rfl rfl rfl rfl hcell (fun _ _ _ _ _ _ _ S => (ec_str hu1 kn S (by decide +kernel)))) (by decide : 4 ≤ 10)) (.cons (ea_attr kn (at_comment__c1__s1_ hu1) (fun _ _ _ _ => rfl) S ((m_comment__c1__s1_ hu kn).less (by decide : 10 ≤ 10))) (.cons (EvalA.lessR (ea_lam (d := 3) tf_ rfl (mem_ix hu 8 rfl) rfl rfl rfl rfl rfl rfl rfl hcell (fun _ _ _ _ _ _ _ S => (ec_str hu1 kn S (by decide +kernel)))) (by decide : 4 ≤ 10)) .nil))) (Nat.le_of_ble_eq_true rfl))) (by decide : 11 ≤ 11)) .nil)
def f_comment_ (T : Str) : PS → Option PS := thenF [chooseF [f_comment__c0_ T, f_comment__c1_ T]]
set_option maxHeartbeats 8000000 in
theorem m_comment_ {u : U} (hu : Is2 u) (kn : Kn u) : Meth u 404 (f_comment_ u.c.T) 17 := by
  have hu1 := hu.toIs
  refine' meth_loc (d := 16) ⟨none, #[], ?hf⟩ ?hb ?hcd ?hbind ?hcell ?hloc ?hco ?hgen ?hk ?hE
  case hf => rw [hu1.K]; k_is
  case hb => rfl
  case hcd => rw [hu1.K]; k_is
  case hbind => exact fun s => BindsTo.of_eq rfl
  case hcell => decide
  case hloc => rfl
  case hco => rfl
  case hgen => rfl
  case hk => rfl
  case hE =>
    intro L g₁ S
    have tf_ := tf hu
    exact (.cons rfl rfl (EvalC.less (ec_choose (d := 13) hu1 kn S (ea_list (.cons (ea_attr kn (at_comment__c0_ hu1) (fun _ _ _ _ => rfl) S ((m_comment__c0_ hu kn).less (by decide : 15 ≤ 15))) (.cons (ea_attr kn (at_comment__c1_ hu1) (fun _ _ _ _ => rfl) S ((m_comment__c1_ hu kn).less (by decide : 12 ≤ 15))) .nil)) (Nat.le_of_ble_eq_true rfl)) (Nat.le_of_ble_eq_true rfl)) (by decide : 16 ≤ 16)) .nil)
def f_ws__c3_ (T : Str) : PS → Option PS := thenF [chF T ("\t" : Str)]
set_option maxHeartbeats 8000000 in
theorem m_ws__c3_ {u : U} (hu : Is2 u) (kn : Kn u) : Meth u 292 (f_ws__c3_ u.c.T) 3 := by
  have hu1 := hu.toIs
  refine' meth_loc (d := 2) ⟨none, #[], ?hf⟩ ?hb ?hcd ?hbind ?hcell ?hloc ?hco ?hgen ?hk ?hE
  case hf => rw [hu1.K]; k_is
  case hb => rfl
  case hcd => rw [hu1.K]; k_is
  case hbind => exact fun s => BindsTo.of_eq rfl
  case hcell => decide
  case hloc => rfl
  case hco => rfl
  case hgen => rfl
  case hk => rfl
  case hE =>
    intro L g₁ S
    have tf_ := tf hu
    exact (.cons rfl rfl (EvalC.less (ec_ch hu1 kn S) (by decide : 2 ≤ 2)) .nil)
def f_ws__c4_ (T : Str) : PS → Option PS := thenF [chF T ("\x0b" : Str)]
set_option maxHeartbeats 8000000 in
theorem m_ws__c4_ {u : U} (hu : Is2 u) (kn : Kn u) : Meth u 299 (f_ws__c4_ u.c.T) 3 := by
  have hu1 := hu.toIs
  refine' meth_loc (d := 2) ⟨none, #[], ?hf⟩ ?hb ?hcd ?hbind ?hcell ?hloc ?hco ?hgen ?hk ?hE
  case hf => rw [hu1.K]; k_is
  case hb => rfl
  case hcd => rw [hu1.K]; k_is
  case hbind => exact fun s => BindsTo.of_eq rfl
  case hcell => decide
  case hloc => rfl
  case hco => rfl
  case hgen => rfl
  case hk => rfl
  case hE =>
    intro L g₁ S
    have tf_ := tf hu
    exact (.cons rfl rfl (EvalC.less (ec_ch hu1 kn S) (by decide : 2 ≤ 2)) .nil)
def f_ws__c5_ (T : Str) : PS → Option PS := thenF [chF T ("\x0c" : Str)]
set_option maxHeartbeats 8000000 in
theorem m_ws__c5_ {u : U} (hu : Is2 u) (kn : Kn u) : Meth u 306 (f_ws__c5_ u.c.T) 3 := by
  have hu1 := hu.toIs
  refine' meth_loc (d := 2) ⟨none, #[], ?hf⟩ ?hb ?hcd ?hbind ?hcell ?hloc ?hco ?hgen ?hk ?hE
  case hf => rw [hu1.K]; k_is
  case hb => rfl
  case hcd => rw [hu1.K]; k_is
  case hbind => exact fun s => BindsTo.of_eq rfl
  case hcell => decide
  case hloc => rfl
  case hco => rfl
  case hgen => rfl
  case hk => rfl
  case hE =>
    intro L g₁ S
    have tf_ := tf hu
    exact (.cons rfl rfl (EvalC.less (ec_ch hu1 kn S) (by decide : 2 ≤ 2)) .nil)
def f_ws__c6_ (T : Str) : PS → Option PS := thenF [chF T ("\xa0" : Str)]
set_option maxHeartbeats 8000000 in
theorem m_ws__c6_ {u : U} (hu : Is2 u) (kn : Kn u) : Meth u 313 (f_ws__c6_ u.c.T) 3 := by
  have hu1 := hu.toIs
  refine' meth_loc (d := 2) ⟨none, #[], ?hf⟩ ?hb ?hcd ?hbind ?hcell ?hloc ?hco ?hgen ?hk ?hE
  case hf => rw [hu1.K]; k_is
  case hb => rfl
  case hcd => rw [hu1.K]; k_is
  case hbind => exact fun s => BindsTo.of_eq rfl
  case hcell => decide
  case hloc => rfl
  case hco => rfl
  case hgen => rfl
  case hk => rfl
  case hE =>
    intro L g₁ S
    have tf_ := tf hu
    exact (.cons rfl rfl (EvalC.less (ec_ch hu1 kn S) (by decide : 2 ≤ 2)) .nil)
end Mine

end

/- PM2 -/
section
open PySem PySem.W PyProof.Rows PySem.Calls
set_option Elab.async false
set_option maxRecDepth 100000
namespace Mine

theorem fillPM2_ (_ : PySem.Challenge.rw_bd6020_01 = PySem.Challenge.rw_bd6020_01) (_ : Mine.hd.heap_39 = Mine.hd.heap_39) : True := by
  have h : PySem.Challenge.rw_bd6020_01 = PySem.Challenge.rw_bd6020_01 ∧ Mine.hd.heap_39 = Mine.hd.heap_39 := by
    k_fill
    exact ⟨rfl, rfl⟩
  trivial
local macro_rules | `(tactic| walk_at "m.at") => `(tactic| exact ⟨by rw [Is.K (by assumption), Is.C (by assumption)]; k_is, ⟨_, none, #[], by rw [Is.K (by assumption)]; k_is⟩, by decide +kernel⟩)
local macro_rules | `(tactic| walk_at "m.is") => `(tactic| first | (rw [Is.K (by assumption), Is.C (by assumption)]; k_is) | (rw [Is.K (by assumption)]; k_is))

def f_ws__c7_ (T : Str) : PS → Option PS := thenF [chF T ("\ufeff" : Str)]
set_option maxHeartbeats 8000000 in
theorem m_ws__c7_ {u : U} (hu : Is2 u) (kn : Kn u) : Meth u 320 (f_ws__c7_ u.c.T) 3 := by
  have hu1 := hu.toIs
  refine' meth_loc (d := 2) ⟨none, #[], ?hf⟩ ?hb ?hcd ?hbind ?hcell ?hloc ?hco ?hgen ?hk ?hE
  case hf => rw [hu1.K]; k_is
  case hb => rfl
  case hcd => rw [hu1.K]; k_is
  case hbind => exact fun s => BindsTo.of_eq rfl
  case hcell => decide
  case hloc => rfl
  case hco => rfl
  case hgen => rfl
  case hk => rfl
  case hE =>
    intro L g₁ S
    have tf_ := tf hu
    exact (.cons rfl rfl (EvalC.less (ec_ch hu1 kn S) (by decide : 2 ≤ 2)) .nil)
def f_ws__c8__s0_n_n_g__c0_ (T : Str) : PS → Option PS := thenF [seqF [bindS ("x" : Str) (anyF T), zsF]]
set_option maxHeartbeats 8000000 in
theorem m_ws__c8__s0_n_n_g__c0_ {u : U} (hu : Is2 u) (kn : Kn u) : Meth u 348 (f_ws__c8__s0_n_n_g__c0_ u.c.T) 6 := by
  have hu1 := hu.toIs
  refine' meth_cell (d := 5) ⟨none, #[], ?hf⟩ ?hb ?hcd ?hbind ?hs ?hcl ?hc ?hco ?hgen ?hk ?hE
  case hf => rw [hu1.K]; k_is
  case hb => rfl
  case hcd => rw [hu1.K]; k_is
  case hbind => exact fun s => BindsTo.of_eq rfl
  case hs => rfl
  case hcl => rfl
  case hc => exact fun n => rfl
  case hco => rfl
  case hgen => rfl
  case hk => rfl
  case hE =>
    intro L g₁ hcell S
    have tf_ := tf hu
    exact (.cons rfl rfl (EvalC.less (ec_seq (d := 4) hu1 kn S (ea_list (.cons (EvalA.lessR (ea_lam (d := 3) tf_ rfl (mem_ix hu 4 rfl) rfl rfl rfl rfl rfl rfl rfl hcell (fun _ _ _ _ _ _ _ S => (ec_bind (d := 1) hu1 kn S (ea_attr kn (at_anything_ hu1) (fun _ _ _ _ => rfl) S ((leaf_any hu1 kn).less (by decide : 2 ≤ 2)))))) (by decide : 4 ≤ 4)) (.cons (ea_attr kn (at_ws__c8__s0_n_n_g__c0__s1_ hu1) (fun _ _ _ _ => rfl) S ((leaf_zs hu1 kn).less (by decide : 2 ≤ 4))) .nil)) (Nat.le_of_ble_eq_true rfl))) (by decide : 5 ≤ 5)) .nil)
def f_ws__c8__s0_n_n_ (T : Str) : PS → Option PS := thenF [chooseF [f_ws__c8__s0_n_n_g__c0_ T]]
set_option maxHeartbeats 8000000 in
theorem m_ws__c8__s0_n_n_ {u : U} (hu : Is2 u) (kn : Kn u) : Meth u 341 (f_ws__c8__s0_n_n_ u.c.T) 9 := by
  have hu1 := hu.toIs
  refine' meth_cell (d := 8) ⟨none, #[], ?hf⟩ ?hb ?hcd ?hbind ?hs ?hcl ?hc ?hco ?hgen ?hk ?hE
  case hf => rw [hu1.K]; k_is
  case hb => rfl
  case hcd => rw [hu1.K]; k_is
  case hbind => exact fun s => BindsTo.of_eq rfl
  case hs => rfl
  case hcl => rfl
  case hc => exact fun n => rfl
  case hco => rfl
  case hgen => rfl
  case hk => rfl
  case hE =>
    intro L g₁ hcell S
    have tf_ := tf hu
    exact (.cons rfl rfl (EvalC.less (ec_call (EvalA.lessR (ea_lam (d := 7) tf_ rfl (mem_ix hu 3 rfl) rfl rfl rfl rfl rfl rfl rfl hcell (fun _ _ _ _ _ _ _ S => (ec_choose (d := 4) hu1 kn S (ea_list (.cons (ea_attr kn (at_ws__c8__s0_n_n_g__c0_ hu1) (fun _ _ _ _ => rfl) S ((m_ws__c8__s0_n_n_g__c0_ hu kn).less (by decide : 6 ≤ 6))) .nil) (Nat.le_of_ble_eq_true rfl)) (Nat.le_of_ble_eq_true rfl)))) (by decide : 8 ≤ 8))) (by decide : 8 ≤ 8)) .nil)
def f_ws__c8__s0_ (T : Str) : PS → Option PS := thenF [notF (notF (f_ws__c8__s0_n_n_ T))]
set_option maxHeartbeats 8000000 in
theorem m_ws__c8__s0_ {u : U} (hu : Is2 u) (kn : Kn u) : Meth u 334 (f_ws__c8__s0_ u.c.T) 13 := by
  have hu1 := hu.toIs
  refine' meth_cell (d := 12) ⟨none, #[], ?hf⟩ ?hb ?hcd ?hbind ?hs ?hcl ?hc ?hco ?hgen ?hk ?hE
  case hf => rw [hu1.K]; k_is
  case hb => rfl
  case hcd => rw [hu1.K]; k_is
  case hbind => exact fun s => BindsTo.of_eq rfl
  case hs => rfl
  case hcl => rfl
  case hc => exact fun n => rfl
  case hco => rfl
  case hgen => rfl
  case hk => rfl
  case hE =>
    intro L g₁ hcell S
    have tf_ := tf hu
    exact (.cons rfl rfl (EvalC.less (ec_not (d := 9) hu1 kn S (EvalA.lessR (ea_lam (d := 10) tf_ rfl (mem_ix hu 2 rfl) rfl rfl rfl rfl rfl rfl rfl hcell (fun _ _ _ _ _ _ _ S => (ec_not (d := 7) hu1 kn S (ea_attr kn (at_ws__c8__s0_n_n_ hu1) (fun _ _ _ _ => rfl) S ((m_ws__c8__s0_n_n_ hu kn).less (by decide : 9 ≤ 9)))))) (by decide : 11 ≤ 11))) (by decide : 12 ≤ 12)) .nil)
def f_ws__c8_ (T : Str) : PS → Option PS := thenF [pushF ("ws__c8" : Str), seqF [f_ws__c8__s0_ T, noF, noF], popF ("ws__c8" : Str)]
set_option maxHeartbeats 8000000 in
theorem m_ws__c8_ {u : U} (hu : Is2 u) (kn : Kn u) : Meth u 327 (f_ws__c8_ u.c.T) 15 := by
  have hu1 := hu.toIs
  refine' meth_cell (d := 14) ⟨none, #[], ?hf⟩ ?hb ?hcd ?hbind ?hs ?hcl ?hc ?hco ?hgen ?hk ?hE
  case hf => rw [hu1.K]; k_is
  case hb => rfl
  case hcd => rw [hu1.K]; k_is
  case hbind => exact fun s => BindsTo.of_eq rfl
  case hs => rfl
  case hcl => rfl
  case hc => exact fun n => rfl
  case hco => rfl
  case hgen => rfl
  case hk => rfl
  case hE =>
    intro L g₁ hcell S
    have tf_ := tf hu
    exact (.cons rfl rfl (EvalC.less (ec_push hu1 kn S) (by decide : 1 ≤ 14)) (.cons rfl rfl (EvalC.less (ec_seq (d := 13) hu1 kn S (ea_list (.cons (ea_attr kn (at_ws__c8__s0_ hu1) (fun _ _ _ _ => rfl) S ((m_ws__c8__s0_ hu kn).less (by decide : 13 ≤ 13))) (.cons (ea_lam (d := 12) tf_ rfl (mem_ix hu 1 rfl) rfl rfl rfl rfl rfl rfl rfl hcell (fun _ _ _ _ _ _ _ _ => ec_no)) (.cons (ea_lam (d := 12) tf_ rfl (mem_ix hu 1 rfl) rfl rfl rfl rfl rfl rfl rfl hcell (fun _ _ _ _ _ _ _ _ => ec_no)) .nil))) (Nat.le_of_ble_eq_true rfl))) (by decide : 14 ≤ 14)) (.cons rfl rfl (EvalC.less (ec_pop hu1 kn S) (by decide : 1 ≤ 14)) .nil)))
def f_ws_ (T : Str) : PS → Option PS := thenF [chooseF [f_ws__c0_ T, f_eol_ T, f_comment_ T, f_ws__c3_ T, f_ws__c4_ T, f_ws__c5_ T, f_ws__c6_ T, f_ws__c7_ T, f_ws__c8_ T]]
set_option maxHeartbeats 8000000 in
theorem m_ws_ {u : U} (hu : Is2 u) (kn : Kn u) : Meth u 278 (f_ws_ u.c.T) 19 := by
  have hu1 := hu.toIs
  refine' meth_loc (d := 18) ⟨none, #[], ?hf⟩ ?hb ?hcd ?hbind ?hcell ?hloc ?hco ?hgen ?hk ?hE
  case hf => rw [hu1.K]; k_is
  case hb => rfl
  case hcd => rw [hu1.K]; k_is
  case hbind => exact fun s => BindsTo.of_eq rfl
  case hcell => decide
  case hloc => rfl
  case hco => rfl
  case hgen => rfl
  case hk => rfl
  case hE =>
    intro L g₁ S
    have tf_ := tf hu
    exact (.cons rfl rfl (EvalC.less (ec_choose (d := 15) hu1 kn S (ea_list (.cons (ea_attr kn (at_ws__c0_ hu1) (fun _ _ _ _ => rfl) S ((m_ws__c0_ hu kn).less (by decide : 3 ≤ 17))) (.cons (ea_attr kn (at_eol_ hu1) (fun _ _ _ _ => rfl) S ((m_eol_ hu kn).less (by decide : 7 ≤ 17))) (.cons (ea_attr kn (at_comment_ hu1) (fun _ _ _ _ => rfl) S ((m_comment_ hu kn).less (by decide : 17 ≤ 17))) (.cons (ea_attr kn (at_ws__c3_ hu1) (fun _ _ _ _ => rfl) S ((m_ws__c3_ hu kn).less (by decide : 3 ≤ 17))) (.cons (ea_attr kn (at_ws__c4_ hu1) (fun _ _ _ _ => rfl) S ((m_ws__c4_ hu kn).less (by decide : 3 ≤ 17))) (.cons (ea_attr kn (at_ws__c5_ hu1) (fun _ _ _ _ => rfl) S ((m_ws__c5_ hu kn).less (by decide : 3 ≤ 17))) (.cons (ea_attr kn (at_ws__c6_ hu1) (fun _ _ _ _ => rfl) S ((m_ws__c6_ hu kn).less (by decide : 3 ≤ 17))) (.cons (ea_attr kn (at_ws__c7_ hu1) (fun _ _ _ _ => rfl) S ((m_ws__c7_ hu kn).less (by decide : 3 ≤ 17))) (.cons (ea_attr kn (at_ws__c8_ hu1) (fun _ _ _ _ => rfl) S ((m_ws__c8_ hu kn).less (by decide : 15 ≤ 17))) .nil))))))))) (Nat.le_of_ble_eq_true rfl)) (Nat.le_of_ble_eq_true rfl)) (by decide : 18 ≤ 18)) .nil)
def f_sp_ (T : Str) : PS → Option PS := thenF [starF (f_ws_ T)]
set_option maxHeartbeats 8000000 in
theorem m_sp_ {u : U} (hu : Is2 u) (kn : Kn u) : Meth u 271 (f_sp_ u.c.T) 21 := by
  have hu1 := hu.toIs
  refine' meth_loc (d := 20) ⟨none, #[], ?hf⟩ ?hb ?hcd ?hbind ?hcell ?hloc ?hco ?hgen ?hk ?hE
  case hf => rw [hu1.K]; k_is
  case hb => rfl
  case hcd => rw [hu1.K]; k_is
  case hbind => exact fun s => BindsTo.of_eq rfl
  case hcell => decide
  case hloc => rfl
  case hco => rfl
  case hgen => rfl
  case hk => rfl
  case hE =>
    intro L g₁ S
    have tf_ := tf hu
    exact (.cons rfl rfl (EvalC.less (ec_star (d := 17) hu1 kn S (ea_attr kn (at_ws_ hu1) (fun _ _ _ _ => rfl) S ((m_ws_ hu kn).less (by decide : 19 ≤ 19)))) (by decide : 20 ≤ 20)) .nil)
def f_value__c0_ (T : Str) : PS → Option PS := thenF [seqF [strF T ("null" : Str), noF]]
set_option maxHeartbeats 8000000 in
theorem m_value__c0_ {u : U} (hu : Is2 u) (kn : Kn u) : Meth u 453 (f_value__c0_ u.c.T) 6 := by
  have hu1 := hu.toIs
  refine' meth_cell (d := 5) ⟨none, #[], ?hf⟩ ?hb ?hcd ?hbind ?hs ?hcl ?hc ?hco ?hgen ?hk ?hE
  case hf => rw [hu1.K]; k_is
  case hb => rfl
  case hcd => rw [hu1.K]; k_is
  case hbind => exact fun s => BindsTo.of_eq rfl
  case hs => rfl
  case hcl => rfl
  case hc => exact fun n => rfl
  case hco => rfl
  case hgen => rfl
  case hk => rfl
  case hE =>
    intro L g₁ hcell S
    have tf_ := tf hu
    exact (.cons rfl rfl (EvalC.less (ec_seq (d := 4) hu1 kn S (ea_list (.cons (EvalA.lessR (ea_lam (d := 3) tf_ rfl (mem_ix hu 11 rfl) rfl rfl rfl rfl rfl rfl rfl hcell (fun _ _ _ _ _ _ _ S => (ec_str hu1 kn S (by decide +kernel)))) (by decide : 4 ≤ 4)) (.cons (ea_lam (d := 3) tf_ rfl (mem_ix hu 11 rfl) rfl rfl rfl rfl rfl rfl rfl hcell (fun _ _ _ _ _ _ _ _ => ec_no)) .nil)) (Nat.le_of_ble_eq_true rfl))) (by decide : 5 ≤ 5)) .nil)
def f_value__c1_ (T : Str) : PS → Option PS := thenF [seqF [strF T ("true" : Str), noF]]
set_option maxHeartbeats 8000000 in
theorem m_value__c1_ {u : U} (hu : Is2 u) (kn : Kn u) : Meth u 460 (f_value__c1_ u.c.T) 6 := by
  have hu1 := hu.toIs
  refine' meth_cell (d := 5) ⟨none, #[], ?hf⟩ ?hb ?hcd ?hbind ?hs ?hcl ?hc ?hco ?hgen ?hk ?hE
  case hf => rw [hu1.K]; k_is
  case hb => rfl
  case hcd => rw [hu1.K]; k_is
  case hbind => exact fun s => BindsTo.of_eq rfl
  case hs => rfl
  case hcl => rfl
  case hc => exact fun n => rfl
  case hco => rfl
  case hgen => rfl
  case hk => rfl
  case hE =>
    intro L g₁ hcell S
    have tf_ := tf hu
    exact (.cons rfl rfl (EvalC.less (ec_seq (d := 4) hu1 kn S (ea_list (.cons (EvalA.lessR (ea_lam (d := 3) tf_ rfl (mem_ix hu 12 rfl) rfl rfl rfl rfl rfl rfl rfl hcell (fun _ _ _ _ _ _ _ S => (ec_str hu1 kn S (by decide +kernel)))) (by decide : 4 ≤ 4)) (.cons (ea_lam (d := 3) tf_ rfl (mem_ix hu 12 rfl) rfl rfl rfl rfl rfl rfl rfl hcell (fun _ _ _ _ _ _ _ _ => ec_no)) .nil)) (Nat.le_of_ble_eq_true rfl))) (by decide : 5 ≤ 5)) .nil)
def f_value__c2_ (T : Str) : PS → Option PS := thenF [seqF [strF T ("false" : Str), noF]]
set_option maxHeartbeats 8000000 in
theorem m_value__c2_ {u : U} (hu : Is2 u) (kn : Kn u) : Meth u 467 (f_value__c2_ u.c.T) 6 := by
  have hu1 := hu.toIs
  refine' meth_cell (d := 5) ⟨none, #[], ?hf⟩ ?hb ?hcd ?hbind ?hs ?hcl ?hc ?hco ?hgen ?hk ?hE
  case hf => rw [hu1.K]; k_is
  case hb => rfl
  case hcd => rw [hu1.K]; k_is
  case hbind => exact fun s => BindsTo.of_eq rfl
  case hs => rfl
  case hcl => rfl
  case hc => exact fun n => rfl
  case hco => rfl
  case hgen => rfl
  case hk => rfl
  case hE =>
    intro L g₁ hcell S
    have tf_ := tf hu
    exact (.cons rfl rfl (EvalC.less (ec_seq (d := 4) hu1 kn S (ea_list (.cons (EvalA.lessR (ea_lam (d := 3) tf_ rfl (mem_ix hu 13 rfl) rfl rfl rfl rfl rfl rfl rfl hcell (fun _ _ _ _ _ _ _ S => (ec_str hu1 kn S (by decide +kernel)))) (by decide : 4 ≤ 4)) (.cons (ea_lam (d := 3) tf_ rfl (mem_ix hu 13 rfl) rfl rfl rfl rfl rfl rfl rfl hcell (fun _ _ _ _ _ _ _ _ => ec_no)) .nil)) (Nat.le_of_ble_eq_true rfl))) (by decide : 5 ≤ 5)) .nil)
def f_object__c0_ (T : Str) : PS → Option PS := thenF [pushF ("object__c0" : Str), seqF [chF T ("{" : Str), f_sp_ T, noF, f_sp_ T, noF, noF], popF ("object__c0" : Str)]
set_option maxHeartbeats 8000000 in
theorem m_object__c0_ {u : U} (hu : Is2 u) (kn : Kn u) : Meth u 509 (f_object__c0_ u.c.T) 23 := by
  have hu1 := hu.toIs
  refine' meth_cell (d := 22) ⟨none, #[], ?hf⟩ ?hb ?hcd ?hbind ?hs ?hcl ?hc ?hco ?hgen ?hk ?hE
  case hf => rw [hu1.K]; k_is
  case hb => rfl
  case hcd => rw [hu1.K]; k_is
  case hbind => exact fun s => BindsTo.of_eq rfl
  case hs => rfl
  case hcl => rfl
  case hc => exact fun n => rfl
  case hco => rfl
  case hgen => rfl
  case hk => rfl
  case hE =>
    intro L g₁ hcell S
    have tf_ := tf hu
    exact (.cons rfl rfl (EvalC.less (ec_push hu1 kn S) (by decide : 1 ≤ 22)) (.cons rfl rfl (EvalC.less (ec_seq (d := 21) hu1 kn S (ea_list (.cons (EvalA.lessR (ea_lam (d := 2) tf_ rfl (mem_ix hu 18 rfl) rfl rfl rfl rfl rfl rfl rfl hcell (fun _ _ _ _ _ _ _ S => (ec_ch hu1 kn S))) (by decide : 3 ≤ 21)) (.cons (ea_attr kn (at_sp_ hu1) (fun _ _ _ _ => rfl) S ((m_sp_ hu kn).less (by decide : 21 ≤ 21))) (.cons (ea_lam (d := 20) tf_ rfl (mem_ix hu 18 rfl) rfl rfl rfl rfl rfl rfl rfl hcell (fun _ _ _ _ _ _ _ _ => ec_no)) (.cons (ea_attr kn (at_sp_ hu1) (fun _ _ _ _ => rfl) S ((m_sp_ hu kn).less (by decide : 21 ≤ 21))) (.cons (ea_lam (d := 20) tf_ rfl (mem_ix hu 18 rfl) rfl rfl rfl rfl rfl rfl rfl hcell (fun _ _ _ _ _ _ _ _ => ec_no)) (.cons (ea_lam (d := 20) tf_ rfl (mem_ix hu 18 rfl) rfl rfl rfl rfl rfl rfl rfl hcell (fun _ _ _ _ _ _ _ _ => ec_no)) .nil)))))) (Nat.le_of_ble_eq_true rfl))) (by decide : 22 ≤ 22)) (.cons rfl rfl (EvalC.less (ec_pop hu1 kn S) (by decide : 1 ≤ 22)) .nil)))
def f_object__c1_ (T : Str) : PS → Option PS := thenF [seqF [chF T ("{" : Str), f_sp_ T, noF, noF]]
set_option maxHeartbeats 8000000 in
theorem m_object__c1_ {u : U} (hu : Is2 u) (kn : Kn u) : Meth u 516 (f_object__c1_ u.c.T) 23 := by
  have hu1 := hu.toIs
  refine' meth_cell (d := 22) ⟨none, #[], ?hf⟩ ?hb ?hcd ?hbind ?hs ?hcl ?hc ?hco ?hgen ?hk ?hE
  case hf => rw [hu1.K]; k_is
  case hb => rfl
  case hcd => rw [hu1.K]; k_is
  case hbind => exact fun s => BindsTo.of_eq rfl
  case hs => rfl
  case hcl => rfl
  case hc => exact fun n => rfl
  case hco => rfl
  case hgen => rfl
  case hk => rfl
  case hE =>
    intro L g₁ hcell S
    have tf_ := tf hu
    exact (.cons rfl rfl (EvalC.less (ec_seq (d := 21) hu1 kn S (ea_list (.cons (EvalA.lessR (ea_lam (d := 2) tf_ rfl (mem_ix hu 19 rfl) rfl rfl rfl rfl rfl rfl rfl hcell (fun _ _ _ _ _ _ _ S => (ec_ch hu1 kn S))) (by decide : 3 ≤ 21)) (.cons (ea_attr kn (at_sp_ hu1) (fun _ _ _ _ => rfl) S ((m_sp_ hu kn).less (by decide : 21 ≤ 21))) (.cons (ea_lam (d := 20) tf_ rfl (mem_ix hu 19 rfl) rfl rfl rfl rfl rfl rfl rfl hcell (fun _ _ _ _ _ _ _ _ => ec_no)) (.cons (ea_lam (d := 20) tf_ rfl (mem_ix hu 19 rfl) rfl rfl rfl rfl rfl rfl rfl hcell (fun _ _ _ _ _ _ _ _ => ec_no)) .nil)))) (Nat.le_of_ble_eq_true rfl))) (by decide : 22 ≤ 22)) .nil)
def f_object_ (T : Str) : PS → Option PS := thenF [chooseF [f_object__c0_ T, f_object__c1_ T]]
set_option maxHeartbeats 8000000 in
theorem m_object_ {u : U} (hu : Is2 u) (kn : Kn u) : Meth u 502 (f_object_ u.c.T) 25 := by
  have hu1 := hu.toIs
  refine' meth_loc (d := 24) ⟨none, #[], ?hf⟩ ?hb ?hcd ?hbind ?hcell ?hloc ?hco ?hgen ?hk ?hE
  case hf => rw [hu1.K]; k_is
  case hb => rfl
  case hcd => rw [hu1.K]; k_is
  case hbind => exact fun s => BindsTo.of_eq rfl
  case hcell => decide
  case hloc => rfl
  case hco => rfl
  case hgen => rfl
  case hk => rfl
  case hE =>
    intro L g₁ S
    have tf_ := tf hu
    exact (.cons rfl rfl (EvalC.less (ec_choose (d := 21) hu1 kn S (ea_list (.cons (ea_attr kn (at_object__c0_ hu1) (fun _ _ _ _ => rfl) S ((m_object__c0_ hu kn).less (by decide : 23 ≤ 23))) (.cons (ea_attr kn (at_object__c1_ hu1) (fun _ _ _ _ => rfl) S ((m_object__c1_ hu kn).less (by decide : 23 ≤ 23))) .nil)) (Nat.le_of_ble_eq_true rfl)) (Nat.le_of_ble_eq_true rfl)) (by decide : 24 ≤ 24)) .nil)
def f_value__c3_ (T : Str) : PS → Option PS := thenF [pushF ("value__c3" : Str), seqF [bindS ("v" : Str) (f_object_ T), noF], popF ("value__c3" : Str)]
set_option maxHeartbeats 8000000 in
theorem m_value__c3_ {u : U} (hu : Is2 u) (kn : Kn u) : Meth u 474 (f_value__c3_ u.c.T) 29 := by
  have hu1 := hu.toIs
  refine' meth_cell (d := 28) ⟨none, #[], ?hf⟩ ?hb ?hcd ?hbind ?hs ?hcl ?hc ?hco ?hgen ?hk ?hE
  case hf => rw [hu1.K]; k_is
  case hb => rfl
  case hcd => rw [hu1.K]; k_is
  case hbind => exact fun s => BindsTo.of_eq rfl
  case hs => rfl
  case hcl => rfl
  case hc => exact fun n => rfl
  case hco => rfl
  case hgen => rfl
  case hk => rfl
  case hE =>
    intro L g₁ hcell S
    have tf_ := tf hu
    exact (.cons rfl rfl (EvalC.less (ec_push hu1 kn S) (by decide : 1 ≤ 28)) (.cons rfl rfl (EvalC.less (ec_seq (d := 27) hu1 kn S (ea_list (.cons (EvalA.lessR (ea_lam (d := 26) tf_ rfl (mem_ix hu 14 rfl) rfl rfl rfl rfl rfl rfl rfl hcell (fun _ _ _ _ _ _ _ S => (ec_bind (d := 24) hu1 kn S (ea_attr kn (at_object_ hu1) (fun _ _ _ _ => rfl) S ((m_object_ hu kn).less (by decide : 25 ≤ 25)))))) (by decide : 27 ≤ 27)) (.cons (ea_lam (d := 26) tf_ rfl (mem_ix hu 14 rfl) rfl rfl rfl rfl rfl rfl rfl hcell (fun _ _ _ _ _ _ _ _ => ec_no)) .nil)) (Nat.le_of_ble_eq_true rfl))) (by decide : 28 ≤ 28)) (.cons rfl rfl (EvalC.less (ec_pop hu1 kn S) (by decide : 1 ≤ 28)) .nil)))
def f_array__c0_ (T : Str) : PS → Option PS := thenF [pushF ("array__c0" : Str), seqF [chF T ("[" : Str), f_sp_ T, noF, f_sp_ T, noF, noF], popF ("array__c0" : Str)]
set_option maxHeartbeats 8000000 in
theorem m_array__c0_ {u : U} (hu : Is2 u) (kn : Kn u) : Meth u 530 (f_array__c0_ u.c.T) 23 := by
  have hu1 := hu.toIs
  refine' meth_cell (d := 22) ⟨none, #[], ?hf⟩ ?hb ?hcd ?hbind ?hs ?hcl ?hc ?hco ?hgen ?hk ?hE
  case hf => rw [hu1.K]; k_is
  case hb => rfl
  case hcd => rw [hu1.K]; k_is
  case hbind => exact fun s => BindsTo.of_eq rfl
  case hs => rfl
  case hcl => rfl
  case hc => exact fun n => rfl
  case hco => rfl
  case hgen => rfl
  case hk => rfl
  case hE =>
    intro L g₁ hcell S
    have tf_ := tf hu
    exact (.cons rfl rfl (EvalC.less (ec_push hu1 kn S) (by decide : 1 ≤ 22)) (.cons rfl rfl (EvalC.less (ec_seq (d := 21) hu1 kn S (ea_list (.cons (EvalA.lessR (ea_lam (d := 2) tf_ rfl (mem_ix hu 20 rfl) rfl rfl rfl rfl rfl rfl rfl hcell (fun _ _ _ _ _ _ _ S => (ec_ch hu1 kn S))) (by decide : 3 ≤ 21)) (.cons (ea_attr kn (at_sp_ hu1) (fun _ _ _ _ => rfl) S ((m_sp_ hu kn).less (by decide : 21 ≤ 21))) (.cons (ea_lam (d := 20) tf_ rfl (mem_ix hu 20 rfl) rfl rfl rfl rfl rfl rfl rfl hcell (fun _ _ _ _ _ _ _ _ => ec_no)) (.cons (ea_attr kn (at_sp_ hu1) (fun _ _ _ _ => rfl) S ((m_sp_ hu kn).less (by decide : 21 ≤ 21))) (.cons (ea_lam (d := 20) tf_ rfl (mem_ix hu 20 rfl) rfl rfl rfl rfl rfl rfl rfl hcell (fun _ _ _ _ _ _ _ _ => ec_no)) (.cons (ea_lam (d := 20) tf_ rfl (mem_ix hu 20 rfl) rfl rfl rfl rfl rfl rfl rfl hcell (fun _ _ _ _ _ _ _ _ => ec_no)) .nil)))))) (Nat.le_of_ble_eq_true rfl))) (by decide : 22 ≤ 22)) (.cons rfl rfl (EvalC.less (ec_pop hu1 kn S) (by decide : 1 ≤ 22)) .nil)))
def f_array__c1_ (T : Str) : PS → Option PS := thenF [seqF [chF T ("[" : Str), f_sp_ T, noF, noF]]
set_option maxHeartbeats 8000000 in
theorem m_array__c1_ {u : U} (hu : Is2 u) (kn : Kn u) : Meth u 537 (f_array__c1_ u.c.T) 23 := by
  have hu1 := hu.toIs
  refine' meth_cell (d := 22) ⟨none, #[], ?hf⟩ ?hb ?hcd ?hbind ?hs ?hcl ?hc ?hco ?hgen ?hk ?hE
  case hf => rw [hu1.K]; k_is
  case hb => rfl
  case hcd => rw [hu1.K]; k_is
  case hbind => exact fun s => BindsTo.of_eq rfl
  case hs => rfl
  case hcl => rfl
  case hc => exact fun n => rfl
  case hco => rfl
  case hgen => rfl
  case hk => rfl
  case hE =>
    intro L g₁ hcell S
    have tf_ := tf hu
    exact (.cons rfl rfl (EvalC.less (ec_seq (d := 21) hu1 kn S (ea_list (.cons (EvalA.lessR (ea_lam (d := 2) tf_ rfl (mem_ix hu 21 rfl) rfl rfl rfl rfl rfl rfl rfl hcell (fun _ _ _ _ _ _ _ S => (ec_ch hu1 kn S))) (by decide : 3 ≤ 21)) (.cons (ea_attr kn (at_sp_ hu1) (fun _ _ _ _ => rfl) S ((m_sp_ hu kn).less (by decide : 21 ≤ 21))) (.cons (ea_lam (d := 20) tf_ rfl (mem_ix hu 21 rfl) rfl rfl rfl rfl rfl rfl rfl hcell (fun _ _ _ _ _ _ _ _ => ec_no)) (.cons (ea_lam (d := 20) tf_ rfl (mem_ix hu 21 rfl) rfl rfl rfl rfl rfl rfl rfl hcell (fun _ _ _ _ _ _ _ _ => ec_no)) .nil)))) (Nat.le_of_ble_eq_true rfl))) (by decide : 22 ≤ 22)) .nil)
def f_array_ (T : Str) : PS → Option PS := thenF [chooseF [f_array__c0_ T, f_array__c1_ T]]
set_option maxHeartbeats 8000000 in
theorem m_array_ {u : U} (hu : Is2 u) (kn : Kn u) : Meth u 523 (f_array_ u.c.T) 25 := by
  have hu1 := hu.toIs
  refine' meth_loc (d := 24) ⟨none, #[], ?hf⟩ ?hb ?hcd ?hbind ?hcell ?hloc ?hco ?hgen ?hk ?hE
  case hf => rw [hu1.K]; k_is
  case hb => rfl
  case hcd => rw [hu1.K]; k_is
  case hbind => exact fun s => BindsTo.of_eq rfl
  case hcell => decide
  case hloc => rfl
  case hco => rfl
  case hgen => rfl
  case hk => rfl
  case hE =>
    intro L g₁ S
    have tf_ := tf hu
    exact (.cons rfl rfl (EvalC.less (ec_choose (d := 21) hu1 kn S (ea_list (.cons (ea_attr kn (at_array__c0_ hu1) (fun _ _ _ _ => rfl) S ((m_array__c0_ hu kn).less (by decide : 23 ≤ 23))) (.cons (ea_attr kn (at_array__c1_ hu1) (fun _ _ _ _ => rfl) S ((m_array__c1_ hu kn).less (by decide : 23 ≤ 23))) .nil)) (Nat.le_of_ble_eq_true rfl)) (Nat.le_of_ble_eq_true rfl)) (by decide : 24 ≤ 24)) .nil)
end Mine

end

/- PM3 -/
section
open PySem PySem.W PyProof.Rows PySem.Calls
set_option Elab.async false
set_option maxRecDepth 100000
namespace Mine

theorem fillPM3_ (_ : PySem.Challenge.rw_bd6020_01 = PySem.Challenge.rw_bd6020_01) (_ : Mine.hd.heap_39 = Mine.hd.heap_39) : True := by
  have h : PySem.Challenge.rw_bd6020_01 = PySem.Challenge.rw_bd6020_01 ∧ Mine.hd.heap_39 = Mine.hd.heap_39 := by
    k_fill
    exact ⟨rfl, rfl⟩
  trivial
local macro_rules | `(tactic| walk_at "m.at") => `(tactic| exact ⟨by rw [Is.K (by assumption), Is.C (by assumption)]; k_is, ⟨_, none, #[], by rw [Is.K (by assumption)]; k_is⟩, by decide +kernel⟩)
local macro_rules | `(tactic| walk_at "m.is") => `(tactic| first | (rw [Is.K (by assumption), Is.C (by assumption)]; k_is) | (rw [Is.K (by assumption)]; k_is))

def f_value__c4_ (T : Str) : PS → Option PS := thenF [pushF ("value__c4" : Str), seqF [bindS ("v" : Str) (f_array_ T), noF], popF ("value__c4" : Str)]
set_option maxHeartbeats 8000000 in
theorem m_value__c4_ {u : U} (hu : Is2 u) (kn : Kn u) : Meth u 481 (f_value__c4_ u.c.T) 29 := by
  have hu1 := hu.toIs
  refine' meth_cell (d := 28) ⟨none, #[], ?hf⟩ ?hb ?hcd ?hbind ?hs ?hcl ?hc ?hco ?hgen ?hk ?hE
  case hf => rw [hu1.K]; k_is
  case hb => rfl
  case hcd => rw [hu1.K]; k_is
  case hbind => exact fun s => BindsTo.of_eq rfl
  case hs => rfl
  case hcl => rfl
  case hc => exact fun n => rfl
  case hco => rfl
  case hgen => rfl
  case hk => rfl
  case hE =>
    intro L g₁ hcell S
    have tf_ := tf hu
    exact (.cons rfl rfl (EvalC.less (ec_push hu1 kn S) (by decide : 1 ≤ 28)) (.cons rfl rfl (EvalC.less (ec_seq (d := 27) hu1 kn S (ea_list (.cons (EvalA.lessR (ea_lam (d := 26) tf_ rfl (mem_ix hu 15 rfl) rfl rfl rfl rfl rfl rfl rfl hcell (fun _ _ _ _ _ _ _ S => (ec_bind (d := 24) hu1 kn S (ea_attr kn (at_array_ hu1) (fun _ _ _ _ => rfl) S ((m_array_ hu kn).less (by decide : 25 ≤ 25)))))) (by decide : 27 ≤ 27)) (.cons (ea_lam (d := 26) tf_ rfl (mem_ix hu 15 rfl) rfl rfl rfl rfl rfl rfl rfl hcell (fun _ _ _ _ _ _ _ _ => ec_no)) .nil)) (Nat.le_of_ble_eq_true rfl))) (by decide : 28 ≤ 28)) (.cons rfl rfl (EvalC.less (ec_pop hu1 kn S) (by decide : 1 ≤ 28)) .nil)))
def f_squote_ (T : Str) : PS → Option PS := thenF [chF T ("'" : Str)]
set_option maxHeartbeats 8000000 in
theorem m_squote_ {u : U} (hu : Is2 u) (kn : Kn u) : Meth u 740 (f_squote_ u.c.T) 3 := by
  have hu1 := hu.toIs
  refine' meth_loc (d := 2) ⟨none, #[], ?hf⟩ ?hb ?hcd ?hbind ?hcell ?hloc ?hco ?hgen ?hk ?hE
  case hf => rw [hu1.K]; k_is
  case hb => rfl
  case hcd => rw [hu1.K]; k_is
  case hbind => exact fun s => BindsTo.of_eq rfl
  case hcell => decide
  case hloc => rfl
  case hco => rfl
  case hgen => rfl
  case hk => rfl
  case hE =>
    intro L g₁ S
    have tf_ := tf hu
    exact (.cons rfl rfl (EvalC.less (ec_ch hu1 kn S) (by decide : 2 ≤ 2)) .nil)
def f_string__c0_ (T : Str) : PS → Option PS := thenF [pushF ("string__c0" : Str), seqF [f_squote_ T, noF, f_squote_ T, noF], popF ("string__c0" : Str)]
set_option maxHeartbeats 8000000 in
theorem m_string__c0_ {u : U} (hu : Is2 u) (kn : Kn u) : Meth u 551 (f_string__c0_ u.c.T) 5 := by
  have hu1 := hu.toIs
  refine' meth_cell (d := 4) ⟨none, #[], ?hf⟩ ?hb ?hcd ?hbind ?hs ?hcl ?hc ?hco ?hgen ?hk ?hE
  case hf => rw [hu1.K]; k_is
  case hb => rfl
  case hcd => rw [hu1.K]; k_is
  case hbind => exact fun s => BindsTo.of_eq rfl
  case hs => rfl
  case hcl => rfl
  case hc => exact fun n => rfl
  case hco => rfl
  case hgen => rfl
  case hk => rfl
  case hE =>
    intro L g₁ hcell S
    have tf_ := tf hu
    exact (.cons rfl rfl (EvalC.less (ec_push hu1 kn S) (by decide : 1 ≤ 4)) (.cons rfl rfl (EvalC.less (ec_seq (d := 3) hu1 kn S (ea_list (.cons (ea_attr kn (at_squote_ hu1) (fun _ _ _ _ => rfl) S ((m_squote_ hu kn).less (by decide : 3 ≤ 3))) (.cons (ea_attr kn (at_string__c0__s1_ hu1) (fun _ _ _ _ => rfl) S meth_no) (.cons (ea_attr kn (at_squote_ hu1) (fun _ _ _ _ => rfl) S ((m_squote_ hu kn).less (by decide : 3 ≤ 3))) (.cons (ea_lam (d := 2) tf_ rfl (mem_ix hu 22 rfl) rfl rfl rfl rfl rfl rfl rfl hcell (fun _ _ _ _ _ _ _ _ => ec_no)) .nil)))) (Nat.le_of_ble_eq_true rfl))) (by decide : 4 ≤ 4)) (.cons rfl rfl (EvalC.less (ec_pop hu1 kn S) (by decide : 1 ≤ 4)) .nil)))
def f_dquote_ (T : Str) : PS → Option PS := thenF [chF T ("\"" : Str)]
set_option maxHeartbeats 8000000 in
theorem m_dquote_ {u : U} (hu : Is2 u) (kn : Kn u) : Meth u 747 (f_dquote_ u.c.T) 3 := by
  have hu1 := hu.toIs
  refine' meth_loc (d := 2) ⟨none, #[], ?hf⟩ ?hb ?hcd ?hbind ?hcell ?hloc ?hco ?hgen ?hk ?hE
  case hf => rw [hu1.K]; k_is
  case hb => rfl
  case hcd => rw [hu1.K]; k_is
  case hbind => exact fun s => BindsTo.of_eq rfl
  case hcell => decide
  case hloc => rfl
  case hco => rfl
  case hgen => rfl
  case hk => rfl
  case hE =>
    intro L g₁ S
    have tf_ := tf hu
    exact (.cons rfl rfl (EvalC.less (ec_ch hu1 kn S) (by decide : 2 ≤ 2)) .nil)
def f_string__c1_ (T : Str) : PS → Option PS := thenF [pushF ("string__c1" : Str), seqF [f_dquote_ T, noF, f_dquote_ T, noF], popF ("string__c1" : Str)]
set_option maxHeartbeats 8000000 in
theorem m_string__c1_ {u : U} (hu : Is2 u) (kn : Kn u) : Meth u 565 (f_string__c1_ u.c.T) 5 := by
  have hu1 := hu.toIs
  refine' meth_cell (d := 4) ⟨none, #[], ?hf⟩ ?hb ?hcd ?hbind ?hs ?hcl ?hc ?hco ?hgen ?hk ?hE
  case hf => rw [hu1.K]; k_is
  case hb => rfl
  case hcd => rw [hu1.K]; k_is
  case hbind => exact fun s => BindsTo.of_eq rfl
  case hs => rfl
  case hcl => rfl
  case hc => exact fun n => rfl
  case hco => rfl
  case hgen => rfl
  case hk => rfl
  case hE =>
    intro L g₁ hcell S
    have tf_ := tf hu
    exact (.cons rfl rfl (EvalC.less (ec_push hu1 kn S) (by decide : 1 ≤ 4)) (.cons rfl rfl (EvalC.less (ec_seq (d := 3) hu1 kn S (ea_list (.cons (ea_attr kn (at_dquote_ hu1) (fun _ _ _ _ => rfl) S ((m_dquote_ hu kn).less (by decide : 3 ≤ 3))) (.cons (ea_attr kn (at_string__c1__s1_ hu1) (fun _ _ _ _ => rfl) S meth_no) (.cons (ea_attr kn (at_dquote_ hu1) (fun _ _ _ _ => rfl) S ((m_dquote_ hu kn).less (by decide : 3 ≤ 3))) (.cons (ea_lam (d := 2) tf_ rfl (mem_ix hu 23 rfl) rfl rfl rfl rfl rfl rfl rfl hcell (fun _ _ _ _ _ _ _ _ => ec_no)) .nil)))) (Nat.le_of_ble_eq_true rfl))) (by decide : 4 ≤ 4)) (.cons rfl rfl (EvalC.less (ec_pop hu1 kn S) (by decide : 1 ≤ 4)) .nil)))
def f_string_ (T : Str) : PS → Option PS := thenF [chooseF [f_string__c0_ T, f_string__c1_ T]]
set_option maxHeartbeats 8000000 in
theorem m_string_ {u : U} (hu : Is2 u) (kn : Kn u) : Meth u 544 (f_string_ u.c.T) 7 := by
  have hu1 := hu.toIs
  refine' meth_loc (d := 6) ⟨none, #[], ?hf⟩ ?hb ?hcd ?hbind ?hcell ?hloc ?hco ?hgen ?hk ?hE
  case hf => rw [hu1.K]; k_is
  case hb => rfl
  case hcd => rw [hu1.K]; k_is
  case hbind => exact fun s => BindsTo.of_eq rfl
  case hcell => decide
  case hloc => rfl
  case hco => rfl
  case hgen => rfl
  case hk => rfl
  case hE =>
    intro L g₁ S
    have tf_ := tf hu
    exact (.cons rfl rfl (EvalC.less (ec_choose (d := 3) hu1 kn S (ea_list (.cons (ea_attr kn (at_string__c0_ hu1) (fun _ _ _ _ => rfl) S ((m_string__c0_ hu kn).less (by decide : 5 ≤ 5))) (.cons (ea_attr kn (at_string__c1_ hu1) (fun _ _ _ _ => rfl) S ((m_string__c1_ hu kn).less (by decide : 5 ≤ 5))) .nil)) (Nat.le_of_ble_eq_true rfl)) (Nat.le_of_ble_eq_true rfl)) (by decide : 6 ≤ 6)) .nil)
def f_value__c5_ (T : Str) : PS → Option PS := thenF [pushF ("value__c5" : Str), seqF [bindS ("v" : Str) (f_string_ T), noF], popF ("value__c5" : Str)]
set_option maxHeartbeats 8000000 in
theorem m_value__c5_ {u : U} (hu : Is2 u) (kn : Kn u) : Meth u 488 (f_value__c5_ u.c.T) 11 := by
  have hu1 := hu.toIs
  refine' meth_cell (d := 10) ⟨none, #[], ?hf⟩ ?hb ?hcd ?hbind ?hs ?hcl ?hc ?hco ?hgen ?hk ?hE
  case hf => rw [hu1.K]; k_is
  case hb => rfl
  case hcd => rw [hu1.K]; k_is
  case hbind => exact fun s => BindsTo.of_eq rfl
  case hs => rfl
  case hcl => rfl
  case hc => exact fun n => rfl
  case hco => rfl
  case hgen => rfl
  case hk => rfl
  case hE =>
    intro L g₁ hcell S
    have tf_ := tf hu
    exact (.cons rfl rfl (EvalC.less (ec_push hu1 kn S) (by decide : 1 ≤ 10)) (.cons rfl rfl (EvalC.less (ec_seq (d := 9) hu1 kn S (ea_list (.cons (EvalA.lessR (ea_lam (d := 8) tf_ rfl (mem_ix hu 16 rfl) rfl rfl rfl rfl rfl rfl rfl hcell (fun _ _ _ _ _ _ _ S => (ec_bind (d := 6) hu1 kn S (ea_attr kn (at_string_ hu1) (fun _ _ _ _ => rfl) S ((m_string_ hu kn).less (by decide : 7 ≤ 7)))))) (by decide : 9 ≤ 9)) (.cons (ea_lam (d := 8) tf_ rfl (mem_ix hu 16 rfl) rfl rfl rfl rfl rfl rfl rfl hcell (fun _ _ _ _ _ _ _ _ => ec_no)) .nil)) (Nat.le_of_ble_eq_true rfl))) (by decide : 10 ≤ 10)) (.cons rfl rfl (EvalC.less (ec_pop hu1 kn S) (by decide : 1 ≤ 10)) .nil)))
def f_num_literal__c0_ (T : Str) : PS → Option PS := thenF [pushF ("num_literal__c0" : Str), seqF [chF T ("-" : Str), noF, noF], popF ("num_literal__c0" : Str)]
set_option maxHeartbeats 8000000 in
theorem m_num_literal__c0_ {u : U} (hu : Is2 u) (kn : Kn u) : Meth u 1216 (f_num_literal__c0_ u.c.T) 5 := by
  have hu1 := hu.toIs
  refine' meth_cell (d := 4) ⟨none, #[], ?hf⟩ ?hb ?hcd ?hbind ?hs ?hcl ?hc ?hco ?hgen ?hk ?hE
  case hf => rw [hu1.K]; k_is
  case hb => rfl
  case hcd => rw [hu1.K]; k_is
  case hbind => exact fun s => BindsTo.of_eq rfl
  case hs => rfl
  case hcl => rfl
  case hc => exact fun n => rfl
  case hco => rfl
  case hgen => rfl
  case hk => rfl
  case hE =>
    intro L g₁ hcell S
    have tf_ := tf hu
    exact (.cons rfl rfl (EvalC.less (ec_push hu1 kn S) (by decide : 1 ≤ 4)) (.cons rfl rfl (EvalC.less (ec_seq (d := 3) hu1 kn S (ea_list (.cons (EvalA.lessR (ea_lam (d := 2) tf_ rfl (mem_ix hu 24 rfl) rfl rfl rfl rfl rfl rfl rfl hcell (fun _ _ _ _ _ _ _ S => (ec_ch hu1 kn S))) (by decide : 3 ≤ 3)) (.cons (ea_lam (d := 2) tf_ rfl (mem_ix hu 24 rfl) rfl rfl rfl rfl rfl rfl rfl hcell (fun _ _ _ _ _ _ _ _ => ec_no)) (.cons (ea_lam (d := 2) tf_ rfl (mem_ix hu 24 rfl) rfl rfl rfl rfl rfl rfl rfl hcell (fun _ _ _ _ _ _ _ _ => ec_no)) .nil))) (Nat.le_of_ble_eq_true rfl))) (by decide : 4 ≤ 4)) (.cons rfl rfl (EvalC.less (ec_pop hu1 kn S) (by decide : 1 ≤ 4)) .nil)))
def f_num_literal__c1_ (T : Str) : PS → Option PS := thenF [pushF ("num_literal__c1" : Str), seqF [chF T ("+" : Str), noF, noF], popF ("num_literal__c1" : Str)]
set_option maxHeartbeats 8000000 in
theorem m_num_literal__c1_ {u : U} (hu : Is2 u) (kn : Kn u) : Meth u 1223 (f_num_literal__c1_ u.c.T) 5 := by
  have hu1 := hu.toIs
  refine' meth_cell (d := 4) ⟨none, #[], ?hf⟩ ?hb ?hcd ?hbind ?hs ?hcl ?hc ?hco ?hgen ?hk ?hE
  case hf => rw [hu1.K]; k_is
  case hb => rfl
  case hcd => rw [hu1.K]; k_is
  case hbind => exact fun s => BindsTo.of_eq rfl
  case hs => rfl
  case hcl => rfl
  case hc => exact fun n => rfl
  case hco => rfl
  case hgen => rfl
  case hk => rfl
  case hE =>
    intro L g₁ hcell S
    have tf_ := tf hu
    exact (.cons rfl rfl (EvalC.less (ec_push hu1 kn S) (by decide : 1 ≤ 4)) (.cons rfl rfl (EvalC.less (ec_seq (d := 3) hu1 kn S (ea_list (.cons (EvalA.lessR (ea_lam (d := 2) tf_ rfl (mem_ix hu 25 rfl) rfl rfl rfl rfl rfl rfl rfl hcell (fun _ _ _ _ _ _ _ S => (ec_ch hu1 kn S))) (by decide : 3 ≤ 3)) (.cons (ea_lam (d := 2) tf_ rfl (mem_ix hu 25 rfl) rfl rfl rfl rfl rfl rfl rfl hcell (fun _ _ _ _ _ _ _ _ => ec_no)) (.cons (ea_lam (d := 2) tf_ rfl (mem_ix hu 25 rfl) rfl rfl rfl rfl rfl rfl rfl hcell (fun _ _ _ _ _ _ _ _ => ec_no)) .nil))) (Nat.le_of_ble_eq_true rfl))) (by decide : 4 ≤ 4)) (.cons rfl rfl (EvalC.less (ec_pop hu1 kn S) (by decide : 1 ≤ 4)) .nil)))
def f_dec_int_lit__c0_ (T : Str) : PS → Option PS := thenF [seqF [chF T ("0" : Str), noF, noF]]
set_option maxHeartbeats 8000000 in
theorem m_dec_int_lit__c0_ {u : U} (hu : Is2 u) (kn : Kn u) : Meth u 1321 (f_dec_int_lit__c0_ u.c.T) 5 := by
  have hu1 := hu.toIs
  refine' meth_cell (d := 4) ⟨none, #[], ?hf⟩ ?hb ?hcd ?hbind ?hs ?hcl ?hc ?hco ?hgen ?hk ?hE
  case hf => rw [hu1.K]; k_is
  case hb => rfl
  case hcd => rw [hu1.K]; k_is
  case hbind => exact fun s => BindsTo.of_eq rfl
  case hs => rfl
  case hcl => rfl
  case hc => exact fun n => rfl
  case hco => rfl
  case hgen => rfl
  case hk => rfl
  case hE =>
    intro L g₁ hcell S
    have tf_ := tf hu
    exact (.cons rfl rfl (EvalC.less (ec_seq (d := 3) hu1 kn S (ea_list (.cons (EvalA.lessR (ea_lam (d := 2) tf_ rfl (mem_ix hu 34 rfl) rfl rfl rfl rfl rfl rfl rfl hcell (fun _ _ _ _ _ _ _ S => (ec_ch hu1 kn S))) (by decide : 3 ≤ 3)) (.cons (ea_lam (d := 2) tf_ rfl (mem_ix hu 34 rfl) rfl rfl rfl rfl rfl rfl rfl hcell (fun _ _ _ _ _ _ _ _ => ec_no)) (.cons (ea_lam (d := 2) tf_ rfl (mem_ix hu 34 rfl) rfl rfl rfl rfl rfl rfl rfl hcell (fun _ _ _ _ _ _ _ _ => ec_no)) .nil))) (Nat.le_of_ble_eq_true rfl))) (by decide : 4 ≤ 4)) .nil)
def f_nonzerodigit_ (T : Str) : PS → Option PS := thenF [rangeF T 49 57]
set_option maxHeartbeats 8000000 in
theorem m_nonzerodigit_ {u : U} (hu : Is2 u) (kn : Kn u) : Meth u 1349 (f_nonzerodigit_ u.c.T) 3 := by
  have hu1 := hu.toIs
  refine' meth_loc (d := 2) ⟨none, #[], ?hf⟩ ?hb ?hcd ?hbind ?hcell ?hloc ?hco ?hgen ?hk ?hE
  case hf => rw [hu1.K]; k_is
  case hb => rfl
  case hcd => rw [hu1.K]; k_is
  case hbind => exact fun s => BindsTo.of_eq rfl
  case hcell => decide
  case hloc => rfl
  case hco => rfl
  case hgen => rfl
  case hk => rfl
  case hE =>
    intro L g₁ S
    have tf_ := tf hu
    exact (.cons rfl rfl (EvalC.less (ec_range hu1 kn S) (by decide : 2 ≤ 2)) .nil)
def f_dec_int_lit__c1_ (T : Str) : PS → Option PS := thenF [pushF ("dec_int_lit__c1" : Str), seqF [bindS ("d" : Str) (f_nonzerodigit_ T), noF, noF], popF ("dec_int_lit__c1" : Str)]
set_option maxHeartbeats 8000000 in
theorem m_dec_int_lit__c1_ {u : U} (hu : Is2 u) (kn : Kn u) : Meth u 1328 (f_dec_int_lit__c1_ u.c.T) 7 := by
  have hu1 := hu.toIs
  refine' meth_cell (d := 6) ⟨none, #[], ?hf⟩ ?hb ?hcd ?hbind ?hs ?hcl ?hc ?hco ?hgen ?hk ?hE
  case hf => rw [hu1.K]; k_is
  case hb => rfl
  case hcd => rw [hu1.K]; k_is
  case hbind => exact fun s => BindsTo.of_eq rfl
  case hs => rfl
  case hcl => rfl
  case hc => exact fun n => rfl
  case hco => rfl
  case hgen => rfl
  case hk => rfl
  case hE =>
    intro L g₁ hcell S
    have tf_ := tf hu
    exact (.cons rfl rfl (EvalC.less (ec_push hu1 kn S) (by decide : 1 ≤ 6)) (.cons rfl rfl (EvalC.less (ec_seq (d := 5) hu1 kn S (ea_list (.cons (EvalA.lessR (ea_lam (d := 4) tf_ rfl (mem_ix hu 35 rfl) rfl rfl rfl rfl rfl rfl rfl hcell (fun _ _ _ _ _ _ _ S => (ec_bind (d := 2) hu1 kn S (ea_attr kn (at_nonzerodigit_ hu1) (fun _ _ _ _ => rfl) S ((m_nonzerodigit_ hu kn).less (by decide : 3 ≤ 3)))))) (by decide : 5 ≤ 5)) (.cons (ea_attr kn (at_dec_int_lit__c1__s1_ hu1) (fun _ _ _ _ => rfl) S meth_no) (.cons (ea_lam (d := 4) tf_ rfl (mem_ix hu 35 rfl) rfl rfl rfl rfl rfl rfl rfl hcell (fun _ _ _ _ _ _ _ _ => ec_no)) .nil))) (Nat.le_of_ble_eq_true rfl))) (by decide : 6 ≤ 6)) (.cons rfl rfl (EvalC.less (ec_pop hu1 kn S) (by decide : 1 ≤ 6)) .nil)))
def f_dec_int_lit_ (T : Str) : PS → Option PS := thenF [chooseF [f_dec_int_lit__c0_ T, f_dec_int_lit__c1_ T]]
set_option maxHeartbeats 8000000 in
theorem m_dec_int_lit_ {u : U} (hu : Is2 u) (kn : Kn u) : Meth u 1314 (f_dec_int_lit_ u.c.T) 9 := by
  have hu1 := hu.toIs
  refine' meth_loc (d := 8) ⟨none, #[], ?hf⟩ ?hb ?hcd ?hbind ?hcell ?hloc ?hco ?hgen ?hk ?hE
  case hf => rw [hu1.K]; k_is
  case hb => rfl
  case hcd => rw [hu1.K]; k_is
  case hbind => exact fun s => BindsTo.of_eq rfl
  case hcell => decide
  case hloc => rfl
  case hco => rfl
  case hgen => rfl
  case hk => rfl
  case hE =>
    intro L g₁ S
    have tf_ := tf hu
    exact (.cons rfl rfl (EvalC.less (ec_choose (d := 5) hu1 kn S (ea_list (.cons (ea_attr kn (at_dec_int_lit__c0_ hu1) (fun _ _ _ _ => rfl) S ((m_dec_int_lit__c0_ hu kn).less (by decide : 5 ≤ 7))) (.cons (ea_attr kn (at_dec_int_lit__c1_ hu1) (fun _ _ _ _ => rfl) S ((m_dec_int_lit__c1_ hu kn).less (by decide : 7 ≤ 7))) .nil)) (Nat.le_of_ble_eq_true rfl)) (Nat.le_of_ble_eq_true rfl)) (by decide : 8 ≤ 8)) .nil)
def f_dec_literal__c0_ (T : Str) : PS → Option PS := thenF [pushF ("dec_literal__c0" : Str), seqF [bindS ("d" : Str) (f_dec_int_lit_ T), noF, noF, noF], popF ("dec_literal__c0" : Str)]
set_option maxHeartbeats 8000000 in
theorem m_dec_literal__c0_ {u : U} (hu : Is2 u) (kn : Kn u) : Meth u 1272 (f_dec_literal__c0_ u.c.T) 13 := by
  have hu1 := hu.toIs
  refine' meth_cell (d := 12) ⟨none, #[], ?hf⟩ ?hb ?hcd ?hbind ?hs ?hcl ?hc ?hco ?hgen ?hk ?hE
  case hf => rw [hu1.K]; k_is
  case hb => rfl
  case hcd => rw [hu1.K]; k_is
  case hbind => exact fun s => BindsTo.of_eq rfl
  case hs => rfl
  case hcl => rfl
  case hc => exact fun n => rfl
  case hco => rfl
  case hgen => rfl
  case hk => rfl
  case hE =>
    intro L g₁ hcell S
    have tf_ := tf hu
    exact (.cons rfl rfl (EvalC.less (ec_push hu1 kn S) (by decide : 1 ≤ 12)) (.cons rfl rfl (EvalC.less (ec_seq (d := 11) hu1 kn S (ea_list (.cons (EvalA.lessR (ea_lam (d := 10) tf_ rfl (mem_ix hu 28 rfl) rfl rfl rfl rfl rfl rfl rfl hcell (fun _ _ _ _ _ _ _ S => (ec_bind (d := 8) hu1 kn S (ea_attr kn (at_dec_int_lit_ hu1) (fun _ _ _ _ => rfl) S ((m_dec_int_lit_ hu kn).less (by decide : 9 ≤ 9)))))) (by decide : 11 ≤ 11)) (.cons (ea_lam (d := 10) tf_ rfl (mem_ix hu 28 rfl) rfl rfl rfl rfl rfl rfl rfl hcell (fun _ _ _ _ _ _ _ _ => ec_no)) (.cons (ea_lam (d := 10) tf_ rfl (mem_ix hu 28 rfl) rfl rfl rfl rfl rfl rfl rfl hcell (fun _ _ _ _ _ _ _ _ => ec_no)) (.cons (ea_lam (d := 10) tf_ rfl (mem_ix hu 28 rfl) rfl rfl rfl rfl rfl rfl rfl hcell (fun _ _ _ _ _ _ _ _ => ec_no)) .nil)))) (Nat.le_of_ble_eq_true rfl))) (by decide : 12 ≤ 12)) (.cons rfl rfl (EvalC.less (ec_pop hu1 kn S) (by decide : 1 ≤ 12)) .nil)))
def f_dec_literal__c1_ (T : Str) : PS → Option PS := thenF [pushF ("dec_literal__c1" : Str), seqF [bindS ("d" : Str) (f_dec_int_lit_ T), noF, noF], popF ("dec_literal__c1" : Str)]
set_option maxHeartbeats 8000000 in
theorem m_dec_literal__c1_ {u : U} (hu : Is2 u) (kn : Kn u) : Meth u 1279 (f_dec_literal__c1_ u.c.T) 13 := by
  have hu1 := hu.toIs
  refine' meth_cell (d := 12) ⟨none, #[], ?hf⟩ ?hb ?hcd ?hbind ?hs ?hcl ?hc ?hco ?hgen ?hk ?hE
  case hf => rw [hu1.K]; k_is
  case hb => rfl
  case hcd => rw [hu1.K]; k_is
  case hbind => exact fun s => BindsTo.of_eq rfl
  case hs => rfl
  case hcl => rfl
  case hc => exact fun n => rfl
  case hco => rfl
  case hgen => rfl
  case hk => rfl
  case hE =>
    intro L g₁ hcell S
    have tf_ := tf hu
    exact (.cons rfl rfl (EvalC.less (ec_push hu1 kn S) (by decide : 1 ≤ 12)) (.cons rfl rfl (EvalC.less (ec_seq (d := 11) hu1 kn S (ea_list (.cons (EvalA.lessR (ea_lam (d := 10) tf_ rfl (mem_ix hu 29 rfl) rfl rfl rfl rfl rfl rfl rfl hcell (fun _ _ _ _ _ _ _ S => (ec_bind (d := 8) hu1 kn S (ea_attr kn (at_dec_int_lit_ hu1) (fun _ _ _ _ => rfl) S ((m_dec_int_lit_ hu kn).less (by decide : 9 ≤ 9)))))) (by decide : 11 ≤ 11)) (.cons (ea_lam (d := 10) tf_ rfl (mem_ix hu 29 rfl) rfl rfl rfl rfl rfl rfl rfl hcell (fun _ _ _ _ _ _ _ _ => ec_no)) (.cons (ea_lam (d := 10) tf_ rfl (mem_ix hu 29 rfl) rfl rfl rfl rfl rfl rfl rfl hcell (fun _ _ _ _ _ _ _ _ => ec_no)) .nil))) (Nat.le_of_ble_eq_true rfl))) (by decide : 12 ≤ 12)) (.cons rfl rfl (EvalC.less (ec_pop hu1 kn S) (by decide : 1 ≤ 12)) .nil)))
def f_dec_literal__c2_ (T : Str) : PS → Option PS := thenF [pushF ("dec_literal__c2" : Str), seqF [bindS ("d" : Str) (f_dec_int_lit_ T), noF, noF], popF ("dec_literal__c2" : Str)]
set_option maxHeartbeats 8000000 in
theorem m_dec_literal__c2_ {u : U} (hu : Is2 u) (kn : Kn u) : Meth u 1286 (f_dec_literal__c2_ u.c.T) 13 := by
  have hu1 := hu.toIs
  refine' meth_cell (d := 12) ⟨none, #[], ?hf⟩ ?hb ?hcd ?hbind ?hs ?hcl ?hc ?hco ?hgen ?hk ?hE
  case hf => rw [hu1.K]; k_is
  case hb => rfl
  case hcd => rw [hu1.K]; k_is
  case hbind => exact fun s => BindsTo.of_eq rfl
  case hs => rfl
  case hcl => rfl
  case hc => exact fun n => rfl
  case hco => rfl
  case hgen => rfl
  case hk => rfl
  case hE =>
    intro L g₁ hcell S
    have tf_ := tf hu
    exact (.cons rfl rfl (EvalC.less (ec_push hu1 kn S) (by decide : 1 ≤ 12)) (.cons rfl rfl (EvalC.less (ec_seq (d := 11) hu1 kn S (ea_list (.cons (EvalA.lessR (ea_lam (d := 10) tf_ rfl (mem_ix hu 30 rfl) rfl rfl rfl rfl rfl rfl rfl hcell (fun _ _ _ _ _ _ _ S => (ec_bind (d := 8) hu1 kn S (ea_attr kn (at_dec_int_lit_ hu1) (fun _ _ _ _ => rfl) S ((m_dec_int_lit_ hu kn).less (by decide : 9 ≤ 9)))))) (by decide : 11 ≤ 11)) (.cons (ea_lam (d := 10) tf_ rfl (mem_ix hu 30 rfl) rfl rfl rfl rfl rfl rfl rfl hcell (fun _ _ _ _ _ _ _ _ => ec_no)) (.cons (ea_lam (d := 10) tf_ rfl (mem_ix hu 30 rfl) rfl rfl rfl rfl rfl rfl rfl hcell (fun _ _ _ _ _ _ _ _ => ec_no)) .nil))) (Nat.le_of_ble_eq_true rfl))) (by decide : 12 ≤ 12)) (.cons rfl rfl (EvalC.less (ec_pop hu1 kn S) (by decide : 1 ≤ 12)) .nil)))
def f_dec_literal__c3_ (T : Str) : PS → Option PS := thenF [pushF ("dec_literal__c3" : Str), seqF [bindS ("d" : Str) (f_dec_int_lit_ T), noF], popF ("dec_literal__c3" : Str)]
set_option maxHeartbeats 8000000 in
theorem m_dec_literal__c3_ {u : U} (hu : Is2 u) (kn : Kn u) : Meth u 1293 (f_dec_literal__c3_ u.c.T) 13 := by
  have hu1 := hu.toIs
  refine' meth_cell (d := 12) ⟨none, #[], ?hf⟩ ?hb ?hcd ?hbind ?hs ?hcl ?hc ?hco ?hgen ?hk ?hE
  case hf => rw [hu1.K]; k_is
  case hb => rfl
  case hcd => rw [hu1.K]; k_is
  case hbind => exact fun s => BindsTo.of_eq rfl
  case hs => rfl
  case hcl => rfl
  case hc => exact fun n => rfl
  case hco => rfl
  case hgen => rfl
  case hk => rfl
  case hE =>
    intro L g₁ hcell S
    have tf_ := tf hu
    exact (.cons rfl rfl (EvalC.less (ec_push hu1 kn S) (by decide : 1 ≤ 12)) (.cons rfl rfl (EvalC.less (ec_seq (d := 11) hu1 kn S (ea_list (.cons (EvalA.lessR (ea_lam (d := 10) tf_ rfl (mem_ix hu 31 rfl) rfl rfl rfl rfl rfl rfl rfl hcell (fun _ _ _ _ _ _ _ S => (ec_bind (d := 8) hu1 kn S (ea_attr kn (at_dec_int_lit_ hu1) (fun _ _ _ _ => rfl) S ((m_dec_int_lit_ hu kn).less (by decide : 9 ≤ 9)))))) (by decide : 11 ≤ 11)) (.cons (ea_lam (d := 10) tf_ rfl (mem_ix hu 31 rfl) rfl rfl rfl rfl rfl rfl rfl hcell (fun _ _ _ _ _ _ _ _ => ec_no)) .nil)) (Nat.le_of_ble_eq_true rfl))) (by decide : 12 ≤ 12)) (.cons rfl rfl (EvalC.less (ec_pop hu1 kn S) (by decide : 1 ≤ 12)) .nil)))
end Mine

end

/- PM4 -/
section
open PySem PySem.W PyProof.Rows PySem.Calls
set_option Elab.async false
set_option maxRecDepth 100000
namespace Mine

theorem fillPM4_ (_ : PySem.Challenge.rw_bd6020_01 = PySem.Challenge.rw_bd6020_01) (_ : Mine.hd.heap_39 = Mine.hd.heap_39) : True := by
  have h : PySem.Challenge.rw_bd6020_01 = PySem.Challenge.rw_bd6020_01 ∧ Mine.hd.heap_39 = Mine.hd.heap_39 := by
    k_fill
    exact ⟨rfl, rfl⟩
  trivial
local macro_rules | `(tactic| walk_at "m.at") => `(tactic| exact ⟨by rw [Is.K (by assumption), Is.C (by assumption)]; k_is, ⟨_, none, #[], by rw [Is.K (by assumption)]; k_is⟩, by decide +kernel⟩)
local macro_rules | `(tactic| walk_at "m.is") => `(tactic| first | (rw [Is.K (by assumption), Is.C (by assumption)]; k_is) | (rw [Is.K (by assumption)]; k_is))

def f_frac_ (T : Str) : PS → Option PS := thenF [pushF ("frac" : Str), seqF [chF T ("." : Str), noF, noF], popF ("frac" : Str)]
set_option maxHeartbeats 8000000 in
theorem m_frac_ {u : U} (hu : Is2 u) (kn : Kn u) : Meth u 1398 (f_frac_ u.c.T) 5 := by
  have hu1 := hu.toIs
  refine' meth_cell (d := 4) ⟨none, #[], ?hf⟩ ?hb ?hcd ?hbind ?hs ?hcl ?hc ?hco ?hgen ?hk ?hE
  case hf => rw [hu1.K]; k_is
  case hb => rfl
  case hcd => rw [hu1.K]; k_is
  case hbind => exact fun s => BindsTo.of_eq rfl
  case hs => rfl
  case hcl => rfl
  case hc => exact fun n => rfl
  case hco => rfl
  case hgen => rfl
  case hk => rfl
  case hE =>
    intro L g₁ hcell S
    have tf_ := tf hu
    exact (.cons rfl rfl (EvalC.less (ec_push hu1 kn S) (by decide : 1 ≤ 4)) (.cons rfl rfl (EvalC.less (ec_seq (d := 3) hu1 kn S (ea_list (.cons (EvalA.lessR (ea_lam (d := 2) tf_ rfl (mem_ix hu 38 rfl) rfl rfl rfl rfl rfl rfl rfl hcell (fun _ _ _ _ _ _ _ S => (ec_ch hu1 kn S))) (by decide : 3 ≤ 3)) (.cons (ea_attr kn (at_frac__s1_ hu1) (fun _ _ _ _ => rfl) S meth_no) (.cons (ea_lam (d := 2) tf_ rfl (mem_ix hu 38 rfl) rfl rfl rfl rfl rfl rfl rfl hcell (fun _ _ _ _ _ _ _ _ => ec_no)) .nil))) (Nat.le_of_ble_eq_true rfl))) (by decide : 4 ≤ 4)) (.cons rfl rfl (EvalC.less (ec_pop hu1 kn S) (by decide : 1 ≤ 4)) .nil)))
def f_dec_literal__c4_ (T : Str) : PS → Option PS := thenF [pushF ("dec_literal__c4" : Str), seqF [bindS ("f" : Str) (f_frac_ T), noF, noF], popF ("dec_literal__c4" : Str)]
set_option maxHeartbeats 8000000 in
theorem m_dec_literal__c4_ {u : U} (hu : Is2 u) (kn : Kn u) : Meth u 1300 (f_dec_literal__c4_ u.c.T) 9 := by
  have hu1 := hu.toIs
  refine' meth_cell (d := 8) ⟨none, #[], ?hf⟩ ?hb ?hcd ?hbind ?hs ?hcl ?hc ?hco ?hgen ?hk ?hE
  case hf => rw [hu1.K]; k_is
  case hb => rfl
  case hcd => rw [hu1.K]; k_is
  case hbind => exact fun s => BindsTo.of_eq rfl
  case hs => rfl
  case hcl => rfl
  case hc => exact fun n => rfl
  case hco => rfl
  case hgen => rfl
  case hk => rfl
  case hE =>
    intro L g₁ hcell S
    have tf_ := tf hu
    exact (.cons rfl rfl (EvalC.less (ec_push hu1 kn S) (by decide : 1 ≤ 8)) (.cons rfl rfl (EvalC.less (ec_seq (d := 7) hu1 kn S (ea_list (.cons (EvalA.lessR (ea_lam (d := 6) tf_ rfl (mem_ix hu 32 rfl) rfl rfl rfl rfl rfl rfl rfl hcell (fun _ _ _ _ _ _ _ S => (ec_bind (d := 4) hu1 kn S (ea_attr kn (at_frac_ hu1) (fun _ _ _ _ => rfl) S ((m_frac_ hu kn).less (by decide : 5 ≤ 5)))))) (by decide : 7 ≤ 7)) (.cons (ea_lam (d := 6) tf_ rfl (mem_ix hu 32 rfl) rfl rfl rfl rfl rfl rfl rfl hcell (fun _ _ _ _ _ _ _ _ => ec_no)) (.cons (ea_lam (d := 6) tf_ rfl (mem_ix hu 32 rfl) rfl rfl rfl rfl rfl rfl rfl hcell (fun _ _ _ _ _ _ _ _ => ec_no)) .nil))) (Nat.le_of_ble_eq_true rfl))) (by decide : 8 ≤ 8)) (.cons rfl rfl (EvalC.less (ec_pop hu1 kn S) (by decide : 1 ≤ 8)) .nil)))
def f_dec_literal__c5_ (T : Str) : PS → Option PS := thenF [pushF ("dec_literal__c5" : Str), seqF [bindS ("f" : Str) (f_frac_ T), noF], popF ("dec_literal__c5" : Str)]
set_option maxHeartbeats 8000000 in
theorem m_dec_literal__c5_ {u : U} (hu : Is2 u) (kn : Kn u) : Meth u 1307 (f_dec_literal__c5_ u.c.T) 9 := by
  have hu1 := hu.toIs
  refine' meth_cell (d := 8) ⟨none, #[], ?hf⟩ ?hb ?hcd ?hbind ?hs ?hcl ?hc ?hco ?hgen ?hk ?hE
  case hf => rw [hu1.K]; k_is
  case hb => rfl
  case hcd => rw [hu1.K]; k_is
  case hbind => exact fun s => BindsTo.of_eq rfl
  case hs => rfl
  case hcl => rfl
  case hc => exact fun n => rfl
  case hco => rfl
  case hgen => rfl
  case hk => rfl
  case hE =>
    intro L g₁ hcell S
    have tf_ := tf hu
    exact (.cons rfl rfl (EvalC.less (ec_push hu1 kn S) (by decide : 1 ≤ 8)) (.cons rfl rfl (EvalC.less (ec_seq (d := 7) hu1 kn S (ea_list (.cons (EvalA.lessR (ea_lam (d := 6) tf_ rfl (mem_ix hu 33 rfl) rfl rfl rfl rfl rfl rfl rfl hcell (fun _ _ _ _ _ _ _ S => (ec_bind (d := 4) hu1 kn S (ea_attr kn (at_frac_ hu1) (fun _ _ _ _ => rfl) S ((m_frac_ hu kn).less (by decide : 5 ≤ 5)))))) (by decide : 7 ≤ 7)) (.cons (ea_lam (d := 6) tf_ rfl (mem_ix hu 33 rfl) rfl rfl rfl rfl rfl rfl rfl hcell (fun _ _ _ _ _ _ _ _ => ec_no)) .nil)) (Nat.le_of_ble_eq_true rfl))) (by decide : 8 ≤ 8)) (.cons rfl rfl (EvalC.less (ec_pop hu1 kn S) (by decide : 1 ≤ 8)) .nil)))
def f_dec_literal_ (T : Str) : PS → Option PS := thenF [chooseF [f_dec_literal__c0_ T, f_dec_literal__c1_ T, f_dec_literal__c2_ T, f_dec_literal__c3_ T, f_dec_literal__c4_ T, f_dec_literal__c5_ T]]
set_option maxHeartbeats 8000000 in
theorem m_dec_literal_ {u : U} (hu : Is2 u) (kn : Kn u) : Meth u 1265 (f_dec_literal_ u.c.T) 15 := by
  have hu1 := hu.toIs
  refine' meth_loc (d := 14) ⟨none, #[], ?hf⟩ ?hb ?hcd ?hbind ?hcell ?hloc ?hco ?hgen ?hk ?hE
  case hf => rw [hu1.K]; k_is
  case hb => rfl
  case hcd => rw [hu1.K]; k_is
  case hbind => exact fun s => BindsTo.of_eq rfl
  case hcell => decide
  case hloc => rfl
  case hco => rfl
  case hgen => rfl
  case hk => rfl
  case hE =>
    intro L g₁ S
    have tf_ := tf hu
    exact (.cons rfl rfl (EvalC.less (ec_choose (d := 11) hu1 kn S (ea_list (.cons (ea_attr kn (at_dec_literal__c0_ hu1) (fun _ _ _ _ => rfl) S ((m_dec_literal__c0_ hu kn).less (by decide : 13 ≤ 13))) (.cons (ea_attr kn (at_dec_literal__c1_ hu1) (fun _ _ _ _ => rfl) S ((m_dec_literal__c1_ hu kn).less (by decide : 13 ≤ 13))) (.cons (ea_attr kn (at_dec_literal__c2_ hu1) (fun _ _ _ _ => rfl) S ((m_dec_literal__c2_ hu kn).less (by decide : 13 ≤ 13))) (.cons (ea_attr kn (at_dec_literal__c3_ hu1) (fun _ _ _ _ => rfl) S ((m_dec_literal__c3_ hu kn).less (by decide : 13 ≤ 13))) (.cons (ea_attr kn (at_dec_literal__c4_ hu1) (fun _ _ _ _ => rfl) S ((m_dec_literal__c4_ hu kn).less (by decide : 9 ≤ 13))) (.cons (ea_attr kn (at_dec_literal__c5_ hu1) (fun _ _ _ _ => rfl) S ((m_dec_literal__c5_ hu kn).less (by decide : 9 ≤ 13))) .nil)))))) (Nat.le_of_ble_eq_true rfl)) (Nat.le_of_ble_eq_true rfl)) (by decide : 14 ≤ 14)) .nil)
def f_unsigned_lit__c0_ (T : Str) : PS → Option PS := thenF [pushF ("unsigned_lit__c0" : Str), seqF [bindS ("d" : Str) (f_dec_literal_ T), noF, noF], popF ("unsigned_lit__c0" : Str)]
set_option maxHeartbeats 8000000 in
theorem m_unsigned_lit__c0_ {u : U} (hu : Is2 u) (kn : Kn u) : Meth u 1244 (f_unsigned_lit__c0_ u.c.T) 19 := by
  have hu1 := hu.toIs
  refine' meth_cell (d := 18) ⟨none, #[], ?hf⟩ ?hb ?hcd ?hbind ?hs ?hcl ?hc ?hco ?hgen ?hk ?hE
  case hf => rw [hu1.K]; k_is
  case hb => rfl
  case hcd => rw [hu1.K]; k_is
  case hbind => exact fun s => BindsTo.of_eq rfl
  case hs => rfl
  case hcl => rfl
  case hc => exact fun n => rfl
  case hco => rfl
  case hgen => rfl
  case hk => rfl
  case hE =>
    intro L g₁ hcell S
    have tf_ := tf hu
    exact (.cons rfl rfl (EvalC.less (ec_push hu1 kn S) (by decide : 1 ≤ 18)) (.cons rfl rfl (EvalC.less (ec_seq (d := 17) hu1 kn S (ea_list (.cons (EvalA.lessR (ea_lam (d := 16) tf_ rfl (mem_ix hu 27 rfl) rfl rfl rfl rfl rfl rfl rfl hcell (fun _ _ _ _ _ _ _ S => (ec_bind (d := 14) hu1 kn S (ea_attr kn (at_dec_literal_ hu1) (fun _ _ _ _ => rfl) S ((m_dec_literal_ hu kn).less (by decide : 15 ≤ 15)))))) (by decide : 17 ≤ 17)) (.cons (ea_lam (d := 16) tf_ rfl (mem_ix hu 27 rfl) rfl rfl rfl rfl rfl rfl rfl hcell (fun _ _ _ _ _ _ _ _ => ec_no)) (.cons (ea_lam (d := 16) tf_ rfl (mem_ix hu 27 rfl) rfl rfl rfl rfl rfl rfl rfl hcell (fun _ _ _ _ _ _ _ _ => ec_no)) .nil))) (Nat.le_of_ble_eq_true rfl))) (by decide : 18 ≤ 18)) (.cons rfl rfl (EvalC.less (ec_pop hu1 kn S) (by decide : 1 ≤ 18)) .nil)))
def f_hex_literal__s0_ (T : Str) : PS → Option PS := thenF [chooseF [strF T ("0x" : Str), strF T ("0X" : Str)]]
set_option maxHeartbeats 8000000 in
theorem m_hex_literal__s0_ {u : U} (hu : Is2 u) (kn : Kn u) : Meth u 1363 (f_hex_literal__s0_ u.c.T) 6 := by
  have hu1 := hu.toIs
  refine' meth_cell (d := 5) ⟨none, #[], ?hf⟩ ?hb ?hcd ?hbind ?hs ?hcl ?hc ?hco ?hgen ?hk ?hE
  case hf => rw [hu1.K]; k_is
  case hb => rfl
  case hcd => rw [hu1.K]; k_is
  case hbind => exact fun s => BindsTo.of_eq rfl
  case hs => rfl
  case hcl => rfl
  case hc => exact fun n => rfl
  case hco => rfl
  case hgen => rfl
  case hk => rfl
  case hE =>
    intro L g₁ hcell S
    have tf_ := tf hu
    exact (.cons rfl rfl (EvalC.less (ec_choose (d := 2) hu1 kn S (ea_list (.cons (EvalA.lessR (ea_lam (d := 3) tf_ rfl (mem_ix hu 37 rfl) rfl rfl rfl rfl rfl rfl rfl hcell (fun _ _ _ _ _ _ _ S => (ec_str hu1 kn S (by decide +kernel)))) (by decide : 4 ≤ 4)) (.cons (EvalA.lessR (ea_lam (d := 3) tf_ rfl (mem_ix hu 37 rfl) rfl rfl rfl rfl rfl rfl rfl hcell (fun _ _ _ _ _ _ _ S => (ec_str hu1 kn S (by decide +kernel)))) (by decide : 4 ≤ 4)) .nil)) (Nat.le_of_ble_eq_true rfl)) (Nat.le_of_ble_eq_true rfl)) (by decide : 5 ≤ 5)) .nil)
def f_hex_literal_ (T : Str) : PS → Option PS := thenF [pushF ("hex_literal" : Str), seqF [f_hex_literal__s0_ T, noF, noF], popF ("hex_literal" : Str)]
set_option maxHeartbeats 8000000 in
theorem m_hex_literal_ {u : U} (hu : Is2 u) (kn : Kn u) : Meth u 1356 (f_hex_literal_ u.c.T) 8 := by
  have hu1 := hu.toIs
  refine' meth_cell (d := 7) ⟨none, #[], ?hf⟩ ?hb ?hcd ?hbind ?hs ?hcl ?hc ?hco ?hgen ?hk ?hE
  case hf => rw [hu1.K]; k_is
  case hb => rfl
  case hcd => rw [hu1.K]; k_is
  case hbind => exact fun s => BindsTo.of_eq rfl
  case hs => rfl
  case hcl => rfl
  case hc => exact fun n => rfl
  case hco => rfl
  case hgen => rfl
  case hk => rfl
  case hE =>
    intro L g₁ hcell S
    have tf_ := tf hu
    exact (.cons rfl rfl (EvalC.less (ec_push hu1 kn S) (by decide : 1 ≤ 7)) (.cons rfl rfl (EvalC.less (ec_seq (d := 6) hu1 kn S (ea_list (.cons (ea_attr kn (at_hex_literal__s0_ hu1) (fun _ _ _ _ => rfl) S ((m_hex_literal__s0_ hu kn).less (by decide : 6 ≤ 6))) (.cons (ea_attr kn (at_hex_literal__s1_ hu1) (fun _ _ _ _ => rfl) S meth_no) (.cons (ea_lam (d := 5) tf_ rfl (mem_ix hu 36 rfl) rfl rfl rfl rfl rfl rfl rfl hcell (fun _ _ _ _ _ _ _ _ => ec_no)) .nil))) (Nat.le_of_ble_eq_true rfl))) (by decide : 7 ≤ 7)) (.cons rfl rfl (EvalC.less (ec_pop hu1 kn S) (by decide : 1 ≤ 7)) .nil)))
def f_unsigned_lit__c2_ (T : Str) : PS → Option PS := thenF [strF T ("Infinity" : Str)]
set_option maxHeartbeats 8000000 in
theorem m_unsigned_lit__c2_ {u : U} (hu : Is2 u) (kn : Kn u) : Meth u 1251 (f_unsigned_lit__c2_ u.c.T) 4 := by
  have hu1 := hu.toIs
  refine' meth_loc (d := 3) ⟨none, #[], ?hf⟩ ?hb ?hcd ?hbind ?hcell ?hloc ?hco ?hgen ?hk ?hE
  case hf => rw [hu1.K]; k_is
  case hb => rfl
  case hcd => rw [hu1.K]; k_is
  case hbind => exact fun s => BindsTo.of_eq rfl
  case hcell => decide
  case hloc => rfl
  case hco => rfl
  case hgen => rfl
  case hk => rfl
  case hE =>
    intro L g₁ S
    have tf_ := tf hu
    exact (.cons rfl rfl (EvalC.less (ec_str hu1 kn S (by decide +kernel)) (by decide : 3 ≤ 3)) .nil)
def f_unsigned_lit__c3_ (T : Str) : PS → Option PS := thenF [strF T ("NaN" : Str)]
set_option maxHeartbeats 8000000 in
theorem m_unsigned_lit__c3_ {u : U} (hu : Is2 u) (kn : Kn u) : Meth u 1258 (f_unsigned_lit__c3_ u.c.T) 4 := by
  have hu1 := hu.toIs
  refine' meth_loc (d := 3) ⟨none, #[], ?hf⟩ ?hb ?hcd ?hbind ?hcell ?hloc ?hco ?hgen ?hk ?hE
  case hf => rw [hu1.K]; k_is
  case hb => rfl
  case hcd => rw [hu1.K]; k_is
  case hbind => exact fun s => BindsTo.of_eq rfl
  case hcell => decide
  case hloc => rfl
  case hco => rfl
  case hgen => rfl
  case hk => rfl
  case hE =>
    intro L g₁ S
    have tf_ := tf hu
    exact (.cons rfl rfl (EvalC.less (ec_str hu1 kn S (by decide +kernel)) (by decide : 3 ≤ 3)) .nil)
def f_unsigned_lit_ (T : Str) : PS → Option PS := thenF [chooseF [f_unsigned_lit__c0_ T, f_hex_literal_ T, f_unsigned_lit__c2_ T, f_unsigned_lit__c3_ T]]
set_option maxHeartbeats 8000000 in
theorem m_unsigned_lit_ {u : U} (hu : Is2 u) (kn : Kn u) : Meth u 1237 (f_unsigned_lit_ u.c.T) 21 := by
  have hu1 := hu.toIs
  refine' meth_loc (d := 20) ⟨none, #[], ?hf⟩ ?hb ?hcd ?hbind ?hcell ?hloc ?hco ?hgen ?hk ?hE
  case hf => rw [hu1.K]; k_is
  case hb => rfl
  case hcd => rw [hu1.K]; k_is
  case hbind => exact fun s => BindsTo.of_eq rfl
  case hcell => decide
  case hloc => rfl
  case hco => rfl
  case hgen => rfl
  case hk => rfl
  case hE =>
    intro L g₁ S
    have tf_ := tf hu
    exact (.cons rfl rfl (EvalC.less (ec_choose (d := 17) hu1 kn S (ea_list (.cons (ea_attr kn (at_unsigned_lit__c0_ hu1) (fun _ _ _ _ => rfl) S ((m_unsigned_lit__c0_ hu kn).less (by decide : 19 ≤ 19))) (.cons (ea_attr kn (at_hex_literal_ hu1) (fun _ _ _ _ => rfl) S ((m_hex_literal_ hu kn).less (by decide : 8 ≤ 19))) (.cons (ea_attr kn (at_unsigned_lit__c2_ hu1) (fun _ _ _ _ => rfl) S ((m_unsigned_lit__c2_ hu kn).less (by decide : 4 ≤ 19))) (.cons (ea_attr kn (at_unsigned_lit__c3_ hu1) (fun _ _ _ _ => rfl) S ((m_unsigned_lit__c3_ hu kn).less (by decide : 4 ≤ 19))) .nil)))) (Nat.le_of_ble_eq_true rfl)) (Nat.le_of_ble_eq_true rfl)) (by decide : 20 ≤ 20)) .nil)
def f_num_literal__c2_ (T : Str) : PS → Option PS := thenF [pushF ("num_literal__c2" : Str), seqF [bindS ("n" : Str) (f_unsigned_lit_ T), noF], popF ("num_literal__c2" : Str)]
set_option maxHeartbeats 8000000 in
theorem m_num_literal__c2_ {u : U} (hu : Is2 u) (kn : Kn u) : Meth u 1230 (f_num_literal__c2_ u.c.T) 25 := by
  have hu1 := hu.toIs
  refine' meth_cell (d := 24) ⟨none, #[], ?hf⟩ ?hb ?hcd ?hbind ?hs ?hcl ?hc ?hco ?hgen ?hk ?hE
  case hf => rw [hu1.K]; k_is
  case hb => rfl
  case hcd => rw [hu1.K]; k_is
  case hbind => exact fun s => BindsTo.of_eq rfl
  case hs => rfl
  case hcl => rfl
  case hc => exact fun n => rfl
  case hco => rfl
  case hgen => rfl
  case hk => rfl
  case hE =>
    intro L g₁ hcell S
    have tf_ := tf hu
    exact (.cons rfl rfl (EvalC.less (ec_push hu1 kn S) (by decide : 1 ≤ 24)) (.cons rfl rfl (EvalC.less (ec_seq (d := 23) hu1 kn S (ea_list (.cons (EvalA.lessR (ea_lam (d := 22) tf_ rfl (mem_ix hu 26 rfl) rfl rfl rfl rfl rfl rfl rfl hcell (fun _ _ _ _ _ _ _ S => (ec_bind (d := 20) hu1 kn S (ea_attr kn (at_unsigned_lit_ hu1) (fun _ _ _ _ => rfl) S ((m_unsigned_lit_ hu kn).less (by decide : 21 ≤ 21)))))) (by decide : 23 ≤ 23)) (.cons (ea_lam (d := 22) tf_ rfl (mem_ix hu 26 rfl) rfl rfl rfl rfl rfl rfl rfl hcell (fun _ _ _ _ _ _ _ _ => ec_no)) .nil)) (Nat.le_of_ble_eq_true rfl))) (by decide : 24 ≤ 24)) (.cons rfl rfl (EvalC.less (ec_pop hu1 kn S) (by decide : 1 ≤ 24)) .nil)))
def f_num_literal_ (T : Str) : PS → Option PS := thenF [chooseF [f_num_literal__c0_ T, f_num_literal__c1_ T, f_num_literal__c2_ T]]
set_option maxHeartbeats 8000000 in
theorem m_num_literal_ {u : U} (hu : Is2 u) (kn : Kn u) : Meth u 1209 (f_num_literal_ u.c.T) 27 := by
  have hu1 := hu.toIs
  refine' meth_loc (d := 26) ⟨none, #[], ?hf⟩ ?hb ?hcd ?hbind ?hcell ?hloc ?hco ?hgen ?hk ?hE
  case hf => rw [hu1.K]; k_is
  case hb => rfl
  case hcd => rw [hu1.K]; k_is
  case hbind => exact fun s => BindsTo.of_eq rfl
  case hcell => decide
  case hloc => rfl
  case hco => rfl
  case hgen => rfl
  case hk => rfl
  case hE =>
    intro L g₁ S
    have tf_ := tf hu
    exact (.cons rfl rfl (EvalC.less (ec_choose (d := 23) hu1 kn S (ea_list (.cons (ea_attr kn (at_num_literal__c0_ hu1) (fun _ _ _ _ => rfl) S ((m_num_literal__c0_ hu kn).less (by decide : 5 ≤ 25))) (.cons (ea_attr kn (at_num_literal__c1_ hu1) (fun _ _ _ _ => rfl) S ((m_num_literal__c1_ hu kn).less (by decide : 5 ≤ 25))) (.cons (ea_attr kn (at_num_literal__c2_ hu1) (fun _ _ _ _ => rfl) S ((m_num_literal__c2_ hu kn).less (by decide : 25 ≤ 25))) .nil))) (Nat.le_of_ble_eq_true rfl)) (Nat.le_of_ble_eq_true rfl)) (by decide : 26 ≤ 26)) .nil)
def f_value__c6_ (T : Str) : PS → Option PS := thenF [pushF ("value__c6" : Str), seqF [bindS ("v" : Str) (f_num_literal_ T), noF], popF ("value__c6" : Str)]
set_option maxHeartbeats 8000000 in
theorem m_value__c6_ {u : U} (hu : Is2 u) (kn : Kn u) : Meth u 495 (f_value__c6_ u.c.T) 31 := by
  have hu1 := hu.toIs
  refine' meth_cell (d := 30) ⟨none, #[], ?hf⟩ ?hb ?hcd ?hbind ?hs ?hcl ?hc ?hco ?hgen ?hk ?hE
  case hf => rw [hu1.K]; k_is
  case hb => rfl
  case hcd => rw [hu1.K]; k_is
  case hbind => exact fun s => BindsTo.of_eq rfl
  case hs => rfl
  case hcl => rfl
  case hc => exact fun n => rfl
  case hco => rfl
  case hgen => rfl
  case hk => rfl
  case hE =>
    intro L g₁ hcell S
    have tf_ := tf hu
    exact (.cons rfl rfl (EvalC.less (ec_push hu1 kn S) (by decide : 1 ≤ 30)) (.cons rfl rfl (EvalC.less (ec_seq (d := 29) hu1 kn S (ea_list (.cons (EvalA.lessR (ea_lam (d := 28) tf_ rfl (mem_ix hu 17 rfl) rfl rfl rfl rfl rfl rfl rfl hcell (fun _ _ _ _ _ _ _ S => (ec_bind (d := 26) hu1 kn S (ea_attr kn (at_num_literal_ hu1) (fun _ _ _ _ => rfl) S ((m_num_literal_ hu kn).less (by decide : 27 ≤ 27)))))) (by decide : 29 ≤ 29)) (.cons (ea_lam (d := 28) tf_ rfl (mem_ix hu 17 rfl) rfl rfl rfl rfl rfl rfl rfl hcell (fun _ _ _ _ _ _ _ _ => ec_no)) .nil)) (Nat.le_of_ble_eq_true rfl))) (by decide : 30 ≤ 30)) (.cons rfl rfl (EvalC.less (ec_pop hu1 kn S) (by decide : 1 ≤ 30)) .nil)))
def f_value_ (T : Str) : PS → Option PS := thenF [chooseF [f_value__c0_ T, f_value__c1_ T, f_value__c2_ T, f_value__c3_ T, f_value__c4_ T, f_value__c5_ T, f_value__c6_ T]]
set_option maxHeartbeats 8000000 in
theorem m_value_ {u : U} (hu : Is2 u) (kn : Kn u) : Meth u 446 (f_value_ u.c.T) 33 := by
  have hu1 := hu.toIs
  refine' meth_loc (d := 32) ⟨none, #[], ?hf⟩ ?hb ?hcd ?hbind ?hcell ?hloc ?hco ?hgen ?hk ?hE
  case hf => rw [hu1.K]; k_is
  case hb => rfl
  case hcd => rw [hu1.K]; k_is
  case hbind => exact fun s => BindsTo.of_eq rfl
  case hcell => decide
  case hloc => rfl
  case hco => rfl
  case hgen => rfl
  case hk => rfl
  case hE =>
    intro L g₁ S
    have tf_ := tf hu
    exact (.cons rfl rfl (EvalC.less (ec_choose (d := 29) hu1 kn S (ea_list (.cons (ea_attr kn (at_value__c0_ hu1) (fun _ _ _ _ => rfl) S ((m_value__c0_ hu kn).less (by decide : 6 ≤ 31))) (.cons (ea_attr kn (at_value__c1_ hu1) (fun _ _ _ _ => rfl) S ((m_value__c1_ hu kn).less (by decide : 6 ≤ 31))) (.cons (ea_attr kn (at_value__c2_ hu1) (fun _ _ _ _ => rfl) S ((m_value__c2_ hu kn).less (by decide : 6 ≤ 31))) (.cons (ea_attr kn (at_value__c3_ hu1) (fun _ _ _ _ => rfl) S ((m_value__c3_ hu kn).less (by decide : 29 ≤ 31))) (.cons (ea_attr kn (at_value__c4_ hu1) (fun _ _ _ _ => rfl) S ((m_value__c4_ hu kn).less (by decide : 29 ≤ 31))) (.cons (ea_attr kn (at_value__c5_ hu1) (fun _ _ _ _ => rfl) S ((m_value__c5_ hu kn).less (by decide : 11 ≤ 31))) (.cons (ea_attr kn (at_value__c6_ hu1) (fun _ _ _ _ => rfl) S ((m_value__c6_ hu kn).less (by decide : 31 ≤ 31))) .nil))))))) (Nat.le_of_ble_eq_true rfl)) (Nat.le_of_ble_eq_true rfl)) (by decide : 32 ≤ 32)) .nil)
def f_grammar_ (T : Str) : PS → Option PS := thenF [pushF ("grammar" : Str), seqF [f_sp_ T, bindS ("v" : Str) (f_value_ T), noF, noF], popF ("grammar" : Str)]
set_option maxHeartbeats 8000000 in
theorem m_grammar_ {u : U} (hu : Is2 u) (kn : Kn u) : Meth u 229 (f_grammar_ u.c.T) 37 := by
  have hu1 := hu.toIs
  refine' meth_cell (d := 36) ⟨none, #[], ?hf⟩ ?hb ?hcd ?hbind ?hs ?hcl ?hc ?hco ?hgen ?hk ?hE
  case hf => rw [hu1.K]; k_is
  case hb => rfl
  case hcd => rw [hu1.K]; k_is
  case hbind => exact fun s => BindsTo.of_eq rfl
  case hs => rfl
  case hcl => rfl
  case hc => exact fun n => rfl
  case hco => rfl
  case hgen => rfl
  case hk => rfl
  case hE =>
    intro L g₁ hcell S
    have tf_ := tf hu
    exact (.cons rfl rfl (EvalC.less (ec_push hu1 kn S) (by decide : 1 ≤ 36)) (.cons rfl rfl (EvalC.less (ec_seq (d := 35) hu1 kn S (ea_list (.cons (ea_attr kn (at_sp_ hu1) (fun _ _ _ _ => rfl) S ((m_sp_ hu kn).less (by decide : 21 ≤ 35))) (.cons (EvalA.lessR (ea_lam (d := 34) tf_ rfl (mem_ix hu 0 rfl) rfl rfl rfl rfl rfl rfl rfl hcell (fun _ _ _ _ _ _ _ S => (ec_bind (d := 32) hu1 kn S (ea_attr kn (at_value_ hu1) (fun _ _ _ _ => rfl) S ((m_value_ hu kn).less (by decide : 33 ≤ 33)))))) (by decide : 35 ≤ 35)) (.cons (ea_attr kn (at_trailing_ hu1) (fun _ _ _ _ => rfl) S meth_no) (.cons (ea_lam (d := 34) tf_ rfl (mem_ix hu 0 rfl) rfl rfl rfl rfl rfl rfl rfl hcell (fun _ _ _ _ _ _ _ _ => ec_no)) .nil)))) (Nat.le_of_ble_eq_true rfl))) (by decide : 36 ≤ 36)) (.cons rfl rfl (EvalC.less (ec_pop hu1 kn S) (by decide : 1 ≤ 36)) .nil)))
end Mine

end

/- PF1 -/
section
open PySem PySem.W PyProof.Rows PySem.Calls
set_option Elab.async false
set_option maxRecDepth 100000
namespace Mine

/-! what fails outright at a sign -/
def FailsAt (T : Str) (o : Option Str) (k : Nat) (F : PS → Option PS) : Prop := ∀ σ : PS, charAt T σ.pos = o → σ.pos ≤ T.length → σ.sc.length + k ≤ 1000 → F σ = some σ.fail

theorem fail_fail (σ : PS) : (σ.fail.rewind σ.pos).fail = σ.fail := by
  cases σ; simp [PS.fail, PS.rewind, PS.succ]

section
variable {T : Str} {o : Option Str} {k : Nat} {F : PS → Option PS} {Fs : List (PS → Option PS)}
theorem FailsAt.ch {x : Str} (h : o ≠ some x) : FailsAt T o k (chF T x) := fun σ e _ _ => by
  unfold chF chP; rw [if_neg (by rw [e]; exact h)]
theorem FailsAt.str {x : Str} {c : Nat} {r : List Nat} (hx : x.cps.toList = c :: r) (h : o ≠ some ⟨#[c]⟩) : FailsAt T o k (strF T x) := fun σ e _ _ => by
  have : chP T ⟨#[c]⟩ σ = σ.fail := by unfold chP; rw [if_neg (by rw [e]; exact h)]
  unfold strF; rw [hx]
  show some (if (chP T ⟨#[c]⟩ σ).failed = true then chP T ⟨#[c]⟩ σ else _) = _
  rw [this]; rfl
theorem FailsAt.seq (h : FailsAt T o k F) : FailsAt T o k (seqF (F :: Fs)) := fun σ e z l => by
  unfold seqF; rw [h σ e z l]; simp [PS.fail]
theorem FailsAt.bind {v : Str} (h : FailsAt T o k F) : FailsAt T o k (bindS v F) := fun σ e z l => by
  unfold bindS; rw [h σ e z l]; simp [PS.fail]
theorem FailsAt.one (h : FailsAt T o k F) : FailsAt T o k (thenF [F]) := fun σ e z l => by
  unfold thenF; rw [h σ e z l]; rfl
theorem FailsAt.scope {n : Str} (h : FailsAt T o k F) : FailsAt T o (k + 1) (thenF [pushF n, F, popF n]) := fun σ e z l => by
  have h1 : pushF n σ = some { σ with sc := ⟨n, none⟩ :: σ.sc } := by unfold pushF; rw [if_pos (by omega)]
  have h2 := h { σ with sc := ⟨n, none⟩ :: σ.sc } e z (by simp; omega)
  have h3 : popF n ({ σ with sc := ⟨n, none⟩ :: σ.sc } : PS).fail = some σ.fail := by
    show (if n = n ∧ σ.sc.length ≤ 1000 then _ else none) = _
    rw [if_pos ⟨rfl, by omega⟩]; rfl
  show (pushF n σ).bind _ = _
  rw [h1]
  show (F _).bind _ = _
  rw [h2]
  show (popF n _).bind _ = _
  rw [h3]; rfl
theorem FailsAt.range {i j : Nat} (h : ∀ c, o = some ⟨#[c]⟩ → ¬ (i ≤ c ∧ c ≤ j)) : FailsAt T o k (rangeF T i j) := fun σ e z _ => by
  unfold rangeF
  rw [if_neg (by omega)]
  cases q : T.cps[σ.pos]? with
  | none => rfl
  | some c =>
    have : o = some ⟨#[c]⟩ := by rw [← e]; unfold charAt; rw [q]; rfl
    dsimp only
    rw [if_neg (h c this)]
end
inductive AllFails (T : Str) (o : Option Str) (k : Nat) : List (PS → Option PS) → Prop
  | one {F} : FailsAt T o k F → AllFails T o k [F]
  | cons {F Fs} : FailsAt T o k F → AllFails T o k Fs → AllFails T o k (F :: Fs)
section
variable {T : Str} {o : Option Str} {k : Nat} {F : PS → Option PS} {Fs : List (PS → Option PS)}
theorem FailsAt.choose (h : AllFails T o k Fs) : FailsAt T o k (chooseF Fs) := by
  have go : ∀ σ : PS, charAt T σ.pos = o → σ.pos ≤ T.length → σ.sc.length + k ≤ 1000 → chooseGo σ.pos Fs σ = some σ.fail := by
    induction h with
    | one h => intro σ e z l; exact h σ e z l
    | @cons F Fs h r ih =>
      intro σ e z l
      cases Fs with
      | nil => exact h σ e z l
      | cons G r' =>
        show (F σ).bind _ = _
        rw [h σ e z l]
        show (if (σ.fail).failed = true then chooseGo σ.pos (G :: r') (σ.fail.rewind σ.pos) else some σ.fail) = _
        rw [if_pos (show σ.fail.failed = true from rfl)]
        have := ih (σ.fail.rewind σ.pos) e z l
        rw [fail_fail] at this
        exact this
  exact fun σ e z l => go σ e z l
end

theorem fails_value {T : Str} {o : Option Str} (ho : o = none ∨ o = some ⟨#[47]⟩) : FailsAt T o 20 (f_value_ T) := by
  have ne : ∀ c, c ≠ 47 → o ≠ some ⟨#[c]⟩ := by
    intro c hc e
    rcases ho with rfl | rfl
    · cases e
    · injection e with e; injection e with e; simp at e; exact hc e.symm
  have rg : ∀ c, o = some ⟨#[c]⟩ → ¬ (49 ≤ c ∧ c ≤ 57) := by
    intro c e h
    exact ne c (by omega) e
  unfold f_value_ f_value__c0_ f_value__c1_ f_value__c2_ f_value__c3_ f_value__c4_ f_value__c5_ f_value__c6_ f_object_ f_object__c0_ f_object__c1_ f_array_ f_array__c0_ f_array__c1_ f_string_ f_string__c0_ f_string__c1_ f_squote_ f_dquote_ f_num_literal_ f_num_literal__c0_ f_num_literal__c1_ f_num_literal__c2_ f_unsigned_lit_ f_unsigned_lit__c0_ f_unsigned_lit__c2_ f_unsigned_lit__c3_ f_dec_literal_ f_dec_literal__c0_ f_dec_literal__c1_ f_dec_literal__c2_ f_dec_literal__c3_ f_dec_literal__c4_ f_dec_literal__c5_ f_dec_int_lit_ f_dec_int_lit__c0_ f_dec_int_lit__c1_ f_nonzerodigit_ f_hex_literal_ f_hex_literal__s0_ f_frac_
  repeat' first
    | exact FailsAt.ch (ne _ (by decide))
    | exact FailsAt.str rfl (ne _ (by decide))
    | exact FailsAt.range rg
    | refine FailsAt.one ?_
    | refine FailsAt.scope ?_
    | refine FailsAt.choose ?_
    | refine FailsAt.seq ?_
    | refine FailsAt.bind ?_
    | refine AllFails.one ?_
    | refine AllFails.cons ?_ ?_
end Mine

end

/- PF2 -/
section
open PySem PySem.W PyProof.Rows PySem.Calls
set_option Elab.async false
set_option maxRecDepth 100000
namespace Mine

/-! what a rule does at a place: it passes from p to q, or it fails -/
def Does (E E' : Nat → Prop) (p q : Nat) (F : PS → Option PS) : Prop := ∀ σ : PS, σ.pos = p → E σ.err → σ.sc.length ≤ 900 → ∃ σ', F σ = some σ' ∧ σ'.pos = q ∧ σ'.failed = false ∧ σ'.sc = σ.sc ∧ E' σ'.err
def Nots (E E' : Nat → Prop) (p : Nat) (F : PS → Option PS) : Prop := ∀ σ : PS, σ.pos = p → E σ.err → σ.sc.length ≤ 900 → ∃ σ', F σ = some σ' ∧ σ'.failed = true ∧ σ'.sc = σ.sc ∧ E' σ'.err

theorem chP_pos {T x : Str} {σ : PS} (h : charAt T σ.pos = some x) : chP T x σ = σ.succ (.str x) (some (σ.pos + 1)) := by unfold chP; rw [if_pos h]
theorem chP_neg {T x : Str} {σ : PS} (h : charAt T σ.pos ≠ some x) : chP T x σ = σ.fail := by unfold chP; rw [if_neg h]
section
variable {T : Str} {E E₁ E₂ E' : Nat → Prop} {p q r : Nat} {F G : PS → Option PS} {Fs : List (PS → Option PS)} {x : Str}
theorem Does.ch (h : charAt T p = some x) : Does E E p (p + 1) (chF T x) := fun σ e he _ => by
  refine ⟨_, rfl, ?_⟩
  unfold chP; rw [e, if_pos h]
  exact ⟨rfl, rfl, rfl, he⟩
theorem Nots.ch (hE : ∀ n, E n → E' (max n p)) (h : charAt T p ≠ some x) : Nots E E' p (chF T x) := fun σ e he _ => by
  refine ⟨_, rfl, ?_⟩
  unfold chP; rw [e, if_neg h]
  refine ⟨rfl, rfl, ?_⟩
  show E' (max σ.err σ.pos)
  rw [e]; exact hE _ he
theorem Does.one (h : Does E E' p q F) : Does E E' p q (thenF [F]) := fun σ e he l => by
  obtain ⟨σ', a, b⟩ := h σ e he l
  exact ⟨σ', by show (F σ).bind _ = _; rw [a]; rfl, b⟩
theorem Nots.one (h : Nots E E' p F) : Nots E E' p (thenF [F]) := fun σ e he l => by
  obtain ⟨σ', a, b⟩ := h σ e he l
  exact ⟨σ', by show (F σ).bind _ = _; rw [a]; rfl, b⟩
theorem Does.seq1 (h : Does E E' p q F) : Does E E' p q (seqF [F]) := fun σ e he l => by
  obtain ⟨σ', a, b, c, d⟩ := h σ e he l
  exact ⟨σ', by show (F σ).bind _ = _; rw [a]; show (if σ'.failed = true then _ else _) = _; rw [c]; rfl, b, c, d⟩
theorem Does.seq (h : Does E E₁ p q F) (t : Does E₁ E' q r (seqF Fs)) : Does E E' p r (seqF (F :: Fs)) := fun σ e he l => by
  obtain ⟨σ', a, b, c, d, f⟩ := h σ e he l
  obtain ⟨σ₂, a2, b2, c2, d2, f2⟩ := t σ' b f (by rw [d]; exact l)
  exact ⟨σ₂, by show (F σ).bind _ = _; rw [a]; show (if σ'.failed = true then _ else _) = _; rw [c]; exact a2, b2, c2, d2.trans d, f2⟩
theorem Nots.seq0 (h : Nots E E' p F) : Nots E E' p (seqF (F :: Fs)) := fun σ e he l => by
  obtain ⟨σ', a, c, d⟩ := h σ e he l
  exact ⟨σ', by show (F σ).bind _ = _; rw [a]; show (if σ'.failed = true then _ else _) = _; rw [c]; rfl, c, d⟩
theorem Nots.seq (h : Does E E₁ p q F) (t : Nots E₁ E' q (seqF Fs)) : Nots E E' p (seqF (F :: Fs)) := fun σ e he l => by
  obtain ⟨σ', a, b, c, d, f⟩ := h σ e he l
  obtain ⟨σ₂, a2, c2, d2, f2⟩ := t σ' b f (by rw [d]; exact l)
  exact ⟨σ₂, by show (F σ).bind _ = _; rw [a]; show (if σ'.failed = true then _ else _) = _; rw [c]; exact a2, c2, d2.trans d, f2⟩
/-- a choice at p -/
def DoesC (E E' : Nat → Prop) (p q : Nat) (Fs : List (PS → Option PS)) : Prop := Does E E' p q (chooseGo p Fs)
def NotsC (E E' : Nat → Prop) (p : Nat) (Fs : List (PS → Option PS)) : Prop := Nots E E' p (chooseGo p Fs)
theorem Does.choose (h : DoesC E E' p q Fs) : Does E E' p q (chooseF Fs) := fun σ e he l => by
  obtain ⟨σ', a, b⟩ := h σ e he l
  exact ⟨σ', by unfold chooseF; rw [e]; exact a, b⟩
theorem Nots.choose (h : NotsC E E' p Fs) : Nots E E' p (chooseF Fs) := fun σ e he l => by
  obtain ⟨σ', a, b⟩ := h σ e he l
  exact ⟨σ', by unfold chooseF; rw [e]; exact a, b⟩
theorem DoesC.here (h : Does E E' p q F) : DoesC E E' p q (F :: Fs) := fun σ e he l => by
  obtain ⟨σ', a, b, c, d⟩ := h σ e he l
  cases Fs with
  | nil => exact ⟨σ', a, b, c, d⟩
  | cons G r => exact ⟨σ', by show (F σ).bind _ = _; rw [a]; show (if σ'.failed = true then _ else _) = _; rw [c]; rfl, b, c, d⟩
theorem DoesC.later (h : Nots E E₁ p F) (t : DoesC E₁ E' p q (G :: Fs)) : DoesC E E' p q (F :: G :: Fs) := fun σ e he l => by
  obtain ⟨σ', a, c, d, f⟩ := h σ e he l
  obtain ⟨σ₂, a2, b2, c2, d2, f2⟩ := t (σ'.rewind p) rfl f (by show σ'.sc.length ≤ 900; rw [d]; exact l)
  exact ⟨σ₂, by show (F σ).bind _ = _; rw [a]; show (if σ'.failed = true then _ else _) = _; rw [if_pos c]; exact a2, b2, c2, d2.trans d, f2⟩
theorem NotsC.one (h : Nots E E' p F) : NotsC E E' p [F] := h
theorem NotsC.cons (h : Nots E E₁ p F) (t : NotsC E₁ E' p (G :: Fs)) : NotsC E E' p (F :: G :: Fs) := fun σ e he l => by
  obtain ⟨σ', a, c, d, f⟩ := h σ e he l
  obtain ⟨σ₂, a2, c2, d2, f2⟩ := t (σ'.rewind p) rfl f (by show σ'.sc.length ≤ 900; rw [d]; exact l)
  exact ⟨σ₂, by show (F σ).bind _ = _; rw [a]; show (if σ'.failed = true then _ else _) = _; rw [if_pos c]; exact a2, c2, d2.trans d, f2⟩
theorem Does.star0 {n : Nat} (h : Nots E E' p F) : Does E E' p p (starGo F (n + 1)) := fun σ e he l => by
  obtain ⟨σ', a, c, d, f⟩ := h σ e he l
  exact ⟨(σ'.rewind σ.pos).succ .any none, by show (F σ).bind _ = _; rw [a]; show (if σ'.failed = true then _ else _) = _; rw [if_pos c], e, rfl, d, f⟩
theorem Does.star {n : Nat} (h : Does E E₁ p q F) (t : Does E₁ E' q r (starGo F n)) : Does E E' p r (starGo F (n + 1)) := fun σ e he l => by
  obtain ⟨σ', a, b, c, d, f⟩ := h σ e he l
  obtain ⟨σ₂, a2, b2, c2, d2, f2⟩ := t σ' b f (by rw [d]; exact l)
  exact ⟨σ₂, by show (F σ).bind _ = _; rw [a]; show (if σ'.failed = true then _ else _) = _; rw [if_neg (by rw [c]; decide)]; exact a2, b2, c2, d2.trans d, f2⟩
theorem Does.not (h : Nots E E' p F) : Does E E' p p (notF F) := fun σ e he l => by
  obtain ⟨σ', a, c, d, f⟩ := h σ e he l
  exact ⟨σ'.succ .none (some σ.pos), by show (F σ).bind _ = _; rw [a]; show (if σ'.failed = true then _ else _) = _; rw [if_pos c], e, rfl, d, f⟩
theorem Nots.not (hE : ∀ n, E n → E' (max n p)) (h : Does E E₁ p q F) : Nots E E' p (notF F) := fun σ e he l => by
  obtain ⟨σ', a, b, c, d, f⟩ := h σ e he l
  refine ⟨({ σ'.rewind σ.pos with err := σ.err } : PS).fail, by show (F σ).bind _ = _; rw [a]; show (if σ'.failed = true then _ else _) = _; rw [if_neg (by rw [c]; decide)], rfl, d, ?_⟩
  show E' (max σ.err σ.pos)
  rw [e]; exact hE _ he
theorem Does.any {c : Str} (h : charAt T p = some c) : Does E E p (p + 1) (anyF T) := fun σ e he _ => by
  refine ⟨_, rfl, ?_⟩
  unfold anyP; rw [e, h]
  exact ⟨rfl, rfl, rfl, he⟩
theorem Nots.any (hE : ∀ n, E n → E' (max n p)) (h : charAt T p = none) : Nots E E' p (anyF T) := fun σ e he _ => by
  refine ⟨_, rfl, ?_⟩
  unfold anyP; rw [e, h]
  refine ⟨rfl, rfl, ?_⟩
  show E' (max σ.err σ.pos)
  rw [e]; exact hE _ he
theorem Nots.at {o : Option Str} {k : Nat} (hE : ∀ n, E n → E' (max n p)) (ho : charAt T p = o) (hz : p ≤ T.length) (h : FailsAt T o k F) (hk : k ≤ 100) : Nots E E' p F := fun σ e he l => by
  refine ⟨_, h σ (by rw [e]; exact ho) (by omega) (by omega), rfl, rfl, ?_⟩
  show E' (max σ.err σ.pos)
  rw [e]; exact hE _ he
/-- two written signs -/
theorem Does.str2 {a b : Nat} (hx : x.cps.toList = [a, b]) (h1 : charAt T p = some ⟨#[a]⟩) (h2 : charAt T (p + 1) = some ⟨#[b]⟩) : Does E E p (p + 2) (strF T x) := fun σ e he _ => by
  have e1 : chP T ⟨#[a]⟩ σ = σ.succ (.str ⟨#[a]⟩) (some (σ.pos + 1)) := by unfold chP; rw [e, if_pos h1]
  have e2 : chP T ⟨#[b]⟩ (σ.succ (.str ⟨#[a]⟩) (some (σ.pos + 1))) = (σ.succ (.str ⟨#[a]⟩) (some (σ.pos + 1))).succ (.str ⟨#[b]⟩) (some (σ.pos + 1 + 1)) :=
    chP_pos (σ := σ.succ (.str ⟨#[a]⟩) (some (σ.pos + 1))) (by show charAt T (σ.pos + 1) = _; rw [e]; exact h2)
  refine ⟨_, rfl, ?_⟩
  rw [hx]
  show (strGo T x [a, b] σ).pos = _ ∧ _
  have : strGo T x [a, b] σ = { (σ.succ (.str ⟨#[a]⟩) (some (σ.pos + 1))).succ (.str ⟨#[b]⟩) (some (σ.pos + 1 + 1)) with val := .str x } := by
    show (if (chP T ⟨#[a]⟩ σ).failed = true then _ else strGo T x [b] (chP T ⟨#[a]⟩ σ)) = _
    rw [e1]
    show (if (chP T ⟨#[b]⟩ (σ.succ (.str ⟨#[a]⟩) (some (σ.pos + 1)))).failed = true then _ else strGo T x [] (chP T ⟨#[b]⟩ (σ.succ (.str ⟨#[a]⟩) (some (σ.pos + 1))))) = _
    rw [e2]; rfl
  rw [this]
  exact ⟨by show σ.pos + 1 + 1 = _; omega, rfl, rfl, he⟩
theorem Nots.str0 {a : Nat} {t : List Nat} (hE : ∀ n, E n → E' (max n p)) (hx : x.cps.toList = a :: t) (h1 : charAt T p ≠ some ⟨#[a]⟩) : Nots E E' p (strF T x) := fun σ e he _ => by
  have e1 : chP T ⟨#[a]⟩ σ = σ.fail := chP_neg (by rw [e]; exact h1)
  refine ⟨σ.fail, ?_, rfl, rfl, ?_⟩
  · unfold strF; rw [hx]
    show some (if (chP T ⟨#[a]⟩ σ).failed = true then chP T ⟨#[a]⟩ σ else _) = _
    rw [e1]; rfl
  · show E' (max σ.err σ.pos)
    rw [e]; exact hE _ he
theorem Nots.str1 {a b : Nat} (hE : ∀ n, E n → E' (max n (p + 1))) (hx : x.cps.toList = [a, b]) (h1 : charAt T p = some ⟨#[a]⟩) (h2 : charAt T (p + 1) ≠ some ⟨#[b]⟩) : Nots E E' p (strF T x) := fun σ e he _ => by
  have e1 : chP T ⟨#[a]⟩ σ = σ.succ (.str ⟨#[a]⟩) (some (σ.pos + 1)) := by unfold chP; rw [e, if_pos h1]
  have e2 : chP T ⟨#[b]⟩ (σ.succ (.str ⟨#[a]⟩) (some (σ.pos + 1))) = (σ.succ (.str ⟨#[a]⟩) (some (σ.pos + 1))).fail :=
    chP_neg (σ := σ.succ (.str ⟨#[a]⟩) (some (σ.pos + 1))) (by show charAt T (σ.pos + 1) ≠ _; rw [e]; exact h2)
  refine ⟨_, rfl, ?_⟩
  rw [hx]
  show (strGo T x [a, b] σ).failed = _ ∧ _
  have : strGo T x [a, b] σ = (σ.succ (.str ⟨#[a]⟩) (some (σ.pos + 1))).fail := by
    show (if (chP T ⟨#[a]⟩ σ).failed = true then _ else strGo T x [b] (chP T ⟨#[a]⟩ σ)) = _
    rw [e1]
    show (if (chP T ⟨#[b]⟩ (σ.succ (.str ⟨#[a]⟩) (some (σ.pos + 1)))).failed = true then chP T ⟨#[b]⟩ (σ.succ (.str ⟨#[a]⟩) (some (σ.pos + 1))) else _) = _
    rw [e2]; rfl
  rw [this]
  refine ⟨rfl, rfl, ?_⟩
  show E' (max σ.err (σ.pos + 1))
  rw [e]; exact hE _ he
end
end Mine

end

/- PF3 -/
section
open PySem PySem.W PyProof.Rows PySem.Calls
set_option Elab.async false
set_option maxRecDepth 100000
namespace Mine

/-- what stands in T from p on -/
def At (T : Str) (p : Nat) (l : List Nat) : Prop := T.cps.toList.drop p = l ∧ p + l.length = T.length
theorem At.len {T : Str} : T.length = T.cps.toList.length := by show T.cps.size = _; simp
theorem At.tail {T : Str} {p c : Nat} {l : List Nat} (h : At T p (c :: l)) : At T (p + 1) l := by
  refine ⟨?_, by have := h.2; simp only [List.length_cons] at this; omega⟩
  have := congrArg List.tail h.1
  rw [List.tail_drop] at this
  exact this
theorem At.head {T : Str} {p c : Nat} {l : List Nat} (h : At T p (c :: l)) : charAt T p = some ⟨#[c]⟩ := by
  have : T.cps.toList[p]? = some c := by
    have := congrArg (fun x => x[0]?) h.1
    simpa using this
  unfold charAt
  rw [← Array.getElem?_toList, this]; rfl
theorem At.none {T : Str} {p : Nat} (h : At T p []) : charAt T p = none := by
  unfold charAt
  rw [Array.getElem?_eq_none (by have := h.2; have e : T.length = T.cps.size := rfl; simp at this; omega)]; rfl
theorem At.le {T : Str} {p : Nat} {l : List Nat} (h : At T p l) : p ≤ T.length := by have := h.2; omega
theorem At.app {T : Str} {p : Nat} {a b : List Nat} (h : At T p (a ++ b)) : At T (p + a.length) b := by
  induction a generalizing p with
  | nil => exact h
  | cons c a ih =>
    have := ih (At.tail h)
    rw [show p + 1 + a.length = p + (c :: a).length by simp; omega] at this
    exact this

def Le (T : Str) : Nat → Prop := fun n => n ≤ T.length
def Eq' (T : Str) : Nat → Prop := fun n => n = T.length
section
variable {T : Str} {p : Nat}
theorem le_le (h : p ≤ T.length) : ∀ n, Le T n → Le T (max n p) := fun n hn => by unfold Le at *; omega
theorem eq_eq (h : p ≤ T.length) : ∀ n, Eq' T n → Eq' T (max n p) := fun n hn => by unfold Eq' at *; omega
theorem le_eq (h : p = T.length) : ∀ n, Le T n → Eq' T (max n p) := fun n hn => by unfold Le Eq' at *; omega
end

theorem ne_sign {c d : Nat} (h : d ≠ c) : some (⟨#[c]⟩ : Str) ≠ some ⟨#[d]⟩ := by
  intro e; injection e with e; injection e with e; simp at e; exact h e.symm
theorem ne_none {d : Nat} : (none : Option Str) ≠ some ⟨#[d]⟩ := by intro e; cases e

section
variable {T : Str} {o : Option Str} {k : Nat}
theorem seq_fail {F : PS → Option PS} {Fs : List (PS → Option PS)} {σ σ' : PS} (h : F σ = some σ') (hf : σ'.failed = true) : seqF (F :: Fs) σ = some σ' := by
  show (F σ).bind _ = _
  rw [h]; exact if_pos hf
theorem seq_next {F : PS → Option PS} {Fs : List (PS → Option PS)} {σ σ' : PS} (h : F σ = some σ') (hf : σ'.failed = false) : seqF (F :: Fs) σ = seqF Fs σ' := by
  show (F σ).bind _ = _
  rw [h]; exact if_neg (by rw [hf]; decide)
theorem then_one {F : PS → Option PS} {σ σ' : PS} (h : F σ = some σ') : thenF [F] σ = some σ' := by
  show (F σ).bind _ = _
  rw [h]; rfl
theorem then_cons {F : PS → Option PS} {Fs : List (PS → Option PS)} {σ σ' : PS} (h : F σ = some σ') : thenF (F :: Fs) σ = thenF Fs σ' := by
  show (F σ).bind _ = _
  rw [h]; rfl
theorem not_fail {F : PS → Option PS} {σ σ' : PS} (h : F σ = some σ') (hf : σ'.failed = true) : notF F σ = some (σ'.succ .none (some σ.pos)) := by
  show (F σ).bind _ = _
  rw [h]; exact if_pos hf
theorem not_ok {F : PS → Option PS} {σ σ' : PS} (h : F σ = some σ') (hf : σ'.failed = false) : notF F σ = some ({ σ'.rewind σ.pos with err := σ.err } : PS).fail := by
  show (F σ).bind _ = _
  rw [h]; exact if_neg (by rw [hf]; decide)

theorem bind_ok {F : PS → Option PS} {σ σ' σ₂ : PS} {x : Str} (h : F σ = some σ') (hf : σ'.failed = false) (hv : σ'.val = .str x) (hs : setxF x σ' = some σ₂) : bindS "x" F σ = some σ₂ := by
  unfold bindS
  rw [h]
  obtain ⟨v, p, f, e, sc⟩ := σ'
  dsimp only at hf hv
  subst hf hv
  exact hs
theorem setx_ok {σ : PS} {nm : Str} {r : List Sc} {x : Str} (hsc : σ.sc = ⟨nm, none⟩ :: r) (hl : r.length ≤ 1000) : setxF x σ = some { σ with sc := ⟨nm, some x⟩ :: r } := by
  unfold setxF; rw [hsc]; exact if_pos ⟨rfl, hl⟩
theorem zs_ok {σ : PS} {nm : Str} {r : List Sc} (hsc : σ.sc = ⟨nm, some ⟨#[47]⟩⟩ :: r) (hl : r.length ≤ 1000) : zsF σ = some σ.fail := by
  unfold zsF; rw [hsc]; exact if_pos ⟨rfl, by simp; omega⟩
theorem any_ok {σ : PS} {c : Str} (h : charAt T σ.pos = some c) : anyF T σ = some (σ.succ (.str c) (some (σ.pos + 1))) := by
  unfold anyF anyP; rw [h]
theorem push_ok {σ : PS} {n : Str} (h : σ.sc.length ≤ 1000) : pushF n σ = some { σ with sc := ⟨n, none⟩ :: σ.sc } := by unfold pushF; rw [if_pos h]
theorem pop_ok {σ : PS} {sc : Sc} {r : List Sc} (h : σ.sc = sc :: r) (hl : r.length ≤ 1000) : popF sc.name σ = some { σ with sc := r } := by
  unfold popF; rw [h]; exact if_pos ⟨rfl, hl⟩

theorem fails_notnot {F : PS → Option PS} (h : FailsAt T o k F) : FailsAt T o k (notF (notF F)) := fun σ e z l =>
  (not_ok (not_fail (h σ e z l) rfl) rfl).trans rfl

theorem fails_c8_none : FailsAt T none 20 (f_ws__c8_ T) := by
  unfold f_ws__c8_ f_ws__c8__s0_ f_ws__c8__s0_n_n_ f_ws__c8__s0_n_n_g__c0_
  refine FailsAt.scope (FailsAt.seq (FailsAt.one (fails_notnot (FailsAt.one (FailsAt.choose (.one (FailsAt.one (FailsAt.seq (FailsAt.bind ?_)))))))))
  intro σ e _ _
  unfold anyF anyP
  rw [e]

theorem fails_c8_slash : FailsAt T (some ⟨#[47]⟩) 20 (f_ws__c8_ T) := fun σ e z l => by
  have hany := any_ok (T := T) (σ := { σ with sc := ⟨"ws__c8", none⟩ :: σ.sc }) (c := ⟨#[47]⟩) e
  have hset := setx_ok (σ := ({ σ with sc := ⟨"ws__c8", none⟩ :: σ.sc } : PS).succ (.str ⟨#[47]⟩) (some (σ.pos + 1))) (nm := "ws__c8") (r := σ.sc) (x := ⟨#[47]⟩) rfl (by omega)
  have hbind := bind_ok hany rfl rfl hset
  have hnn : thenF [chooseF [thenF [seqF [bindS "x" (anyF T), zsF]]]] { σ with sc := ⟨"ws__c8", none⟩ :: σ.sc } = _ := then_one (then_one ((seq_next hbind rfl).trans (seq_fail (zs_ok rfl (by omega)) rfl)))
  have hs0 := then_one (not_ok (not_fail hnn rfl) rfl)
  unfold f_ws__c8_ f_ws__c8__s0_ f_ws__c8__s0_n_n_ f_ws__c8__s0_n_n_g__c0_
  refine (then_cons (push_ok (by omega))).trans ?_
  refine (then_cons (seq_fail hs0 rfl)).trans ?_
  exact (then_one (pop_ok (sc := ⟨"ws__c8", some ⟨#[47]⟩⟩) rfl (by show σ.sc.length ≤ 1000; omega))).trans rfl
end
end Mine

end

/- PF4 -/
section
open PySem PySem.W PyProof.Rows PySem.Calls
set_option Elab.async false
set_option maxRecDepth 100000
namespace Mine

section
variable {T : Str} {o : Option Str}
theorem fails_eol (h1 : o ≠ some ⟨#[13]⟩) (h2 : o ≠ some ⟨#[10]⟩) (h3 : o ≠ some ⟨#[8232]⟩) (h4 : o ≠ some ⟨#[8233]⟩) : FailsAt T o 20 (f_eol_ T) := by
  unfold f_eol_ f_eol__c0_ f_eol__c1_ f_eol__c2_ f_eol__c3_ f_eol__c4_
  exact .one (.choose (.cons (.one (.seq (.ch h1))) (.cons (.one (.ch h1)) (.cons (.one (.ch h2)) (.cons (.one (.ch h3)) (.one (.one (.ch h4))))))))
theorem fails_comment (h : o ≠ some ⟨#[47]⟩) : FailsAt T o 20 (f_comment_ T) := by
  unfold f_comment_ f_comment__c0_ f_comment__c1_
  exact .one (.choose (.cons (.one (.seq (.str rfl h))) (.one (.one (.seq (.str rfl h))))))

theorem fails_ws_end : FailsAt T none 20 (f_ws_ T) := by
  unfold f_ws_ f_ws__c0_ f_ws__c3_ f_ws__c4_ f_ws__c5_ f_ws__c6_ f_ws__c7_
  exact .one (.choose (.cons (.one (.ch ne_none)) (.cons (fails_eol ne_none ne_none ne_none ne_none) (.cons (fails_comment ne_none) (.cons (.one (.ch ne_none)) (.cons (.one (.ch ne_none)) (.cons (.one (.ch ne_none)) (.cons (.one (.ch ne_none)) (.cons (.one (.ch ne_none)) (.one fails_c8_none))))))))))

variable {p : Nat} {r : List Nat}
/-- the choices of _ws_, those that come to be tried -/
theorem ws_of (h : DoesC (Le T) (Le T) p q [f_ws__c0_ T, f_eol_ T, f_comment_ T, f_ws__c3_ T, f_ws__c4_ T, f_ws__c5_ T, f_ws__c6_ T, f_ws__c7_ T, f_ws__c8_ T]) : Does (Le T) (Le T) p q (f_ws_ T) := Does.one (Does.choose h)

theorem nots_eol {c : Nat} (a : At T p (c :: r)) (h1 : 13 ≠ c) (h2 : 10 ≠ c) (h3 : 8232 ≠ c) (h4 : 8233 ≠ c) : Nots (Le T) (Le T) p (f_eol_ T) :=
  Nots.at (le_le a.le) a.head a.le (fails_eol (ne_sign h1) (ne_sign h2) (ne_sign h3) (ne_sign h4)) (by omega)
theorem nots_comment {c : Nat} (a : At T p (c :: r)) (h : 47 ≠ c) : Nots (Le T) (Le T) p (f_comment_ T) := Nots.at (le_le a.le) a.head a.le (fails_comment (ne_sign h)) (by omega)
theorem nots_ch {x c : Nat} (a : At T p (c :: r)) (h : x ≠ c) : Nots (Le T) (Le T) p (thenF [chF T ⟨#[x]⟩]) := Nots.one (Nots.ch (le_le a.le) (by rw [a.head]; exact ne_sign h))
theorem does_ch {c : Nat} (a : At T p (c :: r)) : Does (Le T) (Le T) p (p + 1) (thenF [chF T ⟨#[c]⟩]) := Does.one (Does.ch a.head)

theorem ws_space (a : At T p (32 :: r)) : Does (Le T) (Le T) p (p + 1) (f_ws_ T) := ws_of (.here (does_ch a))
theorem ws_tab (a : At T p (9 :: r)) : Does (Le T) (Le T) p (p + 1) (f_ws_ T) :=
  ws_of (.later (nots_ch a (by decide)) (.later (nots_eol a (by decide) (by decide) (by decide) (by decide)) (.later (nots_comment a (by decide)) (.here (does_ch a)))))
theorem ws_nbsp (a : At T p (160 :: r)) : Does (Le T) (Le T) p (p + 1) (f_ws_ T) :=
  ws_of (.later (nots_ch a (by decide)) (.later (nots_eol a (by decide) (by decide) (by decide) (by decide)) (.later (nots_comment a (by decide)) (.later (nots_ch a (by decide)) (.later (nots_ch a (by decide)) (.later (nots_ch a (by decide)) (.here (does_ch a))))))))
theorem nots_seqch {x y c : Nat} (a : At T p (c :: r)) (h : x ≠ c) : Nots (Le T) (Le T) p (thenF [seqF [chF T ⟨#[x]⟩, chF T ⟨#[y]⟩]]) := Nots.one (Nots.seq0 (Nots.ch (le_le a.le) (by rw [a.head]; exact ne_sign h)))
theorem eol_lf (a : At T p (10 :: r)) : Does (Le T) (Le T) p (p + 1) (f_eol_ T) :=
  Does.one (Does.choose (.later (nots_seqch a (by decide)) (.later (nots_ch a (by decide)) (.here (does_ch a)))))
theorem ws_lf (a : At T p (10 :: r)) : Does (Le T) (Le T) p (p + 1) (f_ws_ T) := ws_of (.later (nots_ch a (by decide)) (.here (eol_lf a)))
theorem ws_crlf (a : At T p (13 :: 10 :: r)) : Does (Le T) (Le T) p (p + 2) (f_ws_ T) :=
  ws_of (.later (nots_ch a (by decide)) (.here (Does.one (Does.choose (.here (Does.one (Does.seq (Does.ch a.head) (Does.seq1 (Does.ch a.tail.head)))))))))
theorem ws_ls (a : At T p (8232 :: r)) : Does (Le T) (Le T) p (p + 1) (f_ws_ T) :=
  ws_of (.later (nots_ch a (by decide)) (.here (Does.one (Does.choose (.later (nots_seqch a (by decide)) (.later (nots_ch a (by decide)) (.later (nots_ch a (by decide)) (.here (does_ch a)))))))))

/-- a comment comes third -/
theorem ws_comment {q : Nat} (a : At T p (47 :: r)) (h : Does (Le T) (Le T) p q (f_comment_ T)) : Does (Le T) (Le T) p q (f_ws_ T) :=
  ws_of (.later (nots_ch a (by decide)) (.later (nots_eol a (by decide) (by decide) (by decide) (by decide)) (.here h)))

theorem line_stops (a : At T p []) : Nots (Le T) (Le T) p (f_comment__c0__s1_p_ T) :=
  Nots.one (Nots.seq (Does.not (Nots.at (le_le a.le) a.none a.le (fails_eol ne_none ne_none ne_none ne_none) (by omega))) (Nots.seq0 (Nots.any (le_le a.le) a.none)))
theorem line_lf (a : At T p (10 :: r)) : Nots (Le T) (Le T) p (f_comment__c0__s1_p_ T) := Nots.one (Nots.seq0 (Nots.not (le_le a.le) (eol_lf a)))
theorem line_x (a : At T p (120 :: r)) : Does (Le T) (Le T) p (p + 1) (f_comment__c0__s1_p_ T) :=
  Does.one (Does.seq (Does.not (nots_eol a (by decide) (by decide) (by decide) (by decide))) (Does.seq1 (Does.any a.head)))
theorem ws_line (a : At T p [47, 47, 120]) : Does (Le T) (Le T) p (p + 3) (f_ws_ T) :=
  ws_comment a (Does.one (Does.choose (.here (Does.one (Does.seq (Does.str2 rfl a.head a.tail.head) (Does.seq1 (Does.star (n := 399) (line_x a.tail.tail) (Does.star0 (n := 398) (line_stops a.tail.tail.tail)))))))))
theorem ws_line0 (a : At T p (47 :: 47 :: 10 :: r)) : Does (Le T) (Le T) p (p + 2) (f_ws_ T) :=
  ws_comment a (Does.one (Does.choose (.here (Does.one (Does.seq (Does.str2 rfl a.head a.tail.head) (Does.seq1 (Does.star0 (n := 399) (line_lf a.tail.tail))))))))

theorem not_line (a : At T p (47 :: 42 :: r)) : Nots (Le T) (Le T) p (f_comment__c0_ T) := Nots.one (Nots.seq0 (Nots.str1 (le_le a.tail.le) rfl a.head (by rw [a.tail.head]; exact ne_sign (by decide))))
/-- one sign within a comment -/
theorem in_comment {c : Nat} (a : At T p (c :: r)) (h : 42 ≠ c) : Does (Le T) (Le T) p (p + 1) (seqF [f_comment__c1__s1_p__s0_ T, anyF T]) :=
  Does.seq (Does.one (Does.not (Nots.str0 (le_le a.le) rfl (by rw [a.head]; exact ne_sign h)))) (Does.seq1 (Does.any a.head))
theorem in_star (a : At T p [42]) : Does (Le T) (Le T) p (p + 1) (seqF [f_comment__c1__s1_p__s0_ T, anyF T]) :=
  Does.seq (Does.one (Does.not (Nots.str1 (le_le a.tail.le) rfl a.head (by rw [a.tail.none]; exact ne_none)))) (Does.seq1 (Does.any a.head))
theorem stop_comment (a : At T p (42 :: 47 :: r)) : Nots (Le T) (Le T) p (seqF [f_comment__c1__s1_p__s0_ T, anyF T]) := Nots.seq0 (Nots.one (Nots.not (le_le a.le) (Does.str2 (E := Le T) rfl a.head a.tail.head)))
theorem end_comment (a : At T p []) : Nots (Le T) (Eq' T) p (seqF [f_comment__c1__s1_p__s0_ T, anyF T]) :=
  Nots.seq (E₁ := Le T) (Does.one (Does.not (Nots.str0 (le_le a.le) rfl (by rw [a.none]; exact ne_none)))) (Nots.seq0 (Nots.any (le_eq (by have := a.2; simpa using this)) a.none))
theorem ws_block0 (a : At T p (47 :: 42 :: 42 :: 47 :: r)) : Does (Le T) (Le T) p (p + 4) (f_ws_ T) :=
  ws_comment a (Does.one (Does.choose (.later (not_line a) (.here (Does.one (Does.seq (Does.str2 rfl a.head a.tail.head) (Does.seq (Does.one (Does.star0 (n := 399) (stop_comment a.tail.tail))) (Does.seq1 (Does.str2 rfl a.tail.tail.head a.tail.tail.tail.head)))))))))
theorem ws_block3 (a : At T p (47 :: 42 :: 32 :: 120 :: 10 :: 42 :: 47 :: r)) : Does (Le T) (Le T) p (p + 7) (f_ws_ T) :=
  have b := a.tail.tail
  ws_comment a (Does.one (Does.choose (.later (not_line a) (.here (Does.one (Does.seq (Does.str2 rfl a.head a.tail.head) (Does.seq (Does.one (Does.star (n := 399) (in_comment b (by decide)) (Does.star (n := 398) (in_comment b.tail (by decide)) (Does.star (n := 397) (in_comment b.tail.tail (by decide)) (Does.star0 (n := 396) (stop_comment b.tail.tail.tail)))))) (Does.seq1 (Does.str2 rfl b.tail.tail.tail.head b.tail.tail.tail.tail.head)))))))))

/-- the comment that does not end -/
theorem comment_open {q : Nat} (a : At T p (47 :: 42 :: r)) (h : Does (Le T) (Eq' T) (p + 2) q (starF (seqF [f_comment__c1__s1_p__s0_ T, anyF T]))) (e : At T q []) : Nots (Le T) (Eq' T) p (f_comment_ T) :=
  Nots.one (Nots.choose (.cons (not_line a) (.one (Nots.one (Nots.seq (E₁ := Le T) (Does.str2 rfl a.head a.tail.head) (Nots.seq (E₁ := Eq' T) (Does.one h) (Nots.seq0 (Nots.str0 (eq_eq e.le) rfl (by rw [e.none]; exact ne_none)))))))))
theorem nots_ch' {x c : Nat} (a : At T p (c :: r)) (h : x ≠ c) : Nots (Eq' T) (Eq' T) p (thenF [chF T ⟨#[x]⟩]) := Nots.one (Nots.ch (eq_eq a.le) (by rw [a.head]; exact ne_sign h))
theorem ws_open (a : At T p (47 :: r)) (h : Nots (Le T) (Eq' T) p (f_comment_ T)) : Nots (Le T) (Eq' T) p (f_ws_ T) :=
  Nots.one (Nots.choose (.cons (nots_ch a (by decide)) (.cons (nots_eol a (by decide) (by decide) (by decide) (by decide)) (.cons h (.cons (nots_ch' a (by decide)) (.cons (nots_ch' a (by decide)) (.cons (nots_ch' a (by decide)) (.cons (nots_ch' a (by decide)) (.cons (nots_ch' a (by decide)) (.one (Nots.at (eq_eq a.le) a.head a.le fails_c8_slash (by omega))))))))))))
theorem ws_open1 (a : At T p [47, 42]) : Nots (Le T) (Eq' T) p (f_ws_ T) := ws_open a (comment_open a (Does.star0 (n := 399) (end_comment a.tail.tail)) a.tail.tail)
theorem ws_open2 (a : At T p [47, 42, 32, 42]) : Nots (Le T) (Eq' T) p (f_ws_ T) :=
  have b := a.tail.tail
  ws_open a (comment_open a (Does.star (n := 399) (in_comment b (by decide)) (Does.star (n := 398) (in_star b.tail) (Does.star0 (n := 397) (end_comment b.tail.tail)))) b.tail.tail)
end

/-- the gaps -/
inductive Gap : Nat → List Nat → Prop
  | done : Gap 0 []
  | line : Gap 1 [47, 47, 120]
  | open1 : Gap 0 [47, 42]
  | open2 : Gap 0 [47, 42, 32, 42]
  | space {n l} : Gap n l → Gap (n + 1) (32 :: l)
  | tab {n l} : Gap n l → Gap (n + 1) (9 :: l)
  | lf {n l} : Gap n l → Gap (n + 1) (10 :: l)
  | crlf {n l} : Gap n l → Gap (n + 1) (13 :: 10 :: l)
  | ls {n l} : Gap n l → Gap (n + 1) (8232 :: l)
  | nbsp {n l} : Gap n l → Gap (n + 1) (160 :: l)
  | block0 {n l} : Gap n l → Gap (n + 1) (47 :: 42 :: 42 :: 47 :: l)
  | block3 {n l} : Gap n l → Gap (n + 1) (47 :: 42 :: 32 :: 120 :: 10 :: 42 :: 47 :: l)
  | line0 {n l} : Gap n l → Gap (n + 2) (47 :: 47 :: 10 :: l)

/-- what stands behind the gaps: nothing, or a comment that does not end -/
def Stop (T : Str) (q : Nat) : Prop := (charAt T q = none ∨ charAt T q = some ⟨#[47]⟩) ∧ q ≤ T.length

theorem sp_gap {T : Str} {n : Nat} {l : List Nat} (g : Gap n l) : ∀ {p m : Nat}, At T p l → ∃ q, Does (Le T) (Eq' T) p q (starGo (f_ws_ T) (n + 1 + m)) ∧ Stop T q := by
  have nn : ∀ n m : Nat, n + 1 + 1 + m = n + 1 + m + 1 := by omega
  have n2 : ∀ n m : Nat, n + 2 + 1 + m = n + 1 + m + 1 + 1 := by omega
  have fin : ∀ {p m : Nat}, At T p [] → Does (Le T) (Eq' T) p p (starGo (f_ws_ T) (m + 1)) := fun {p m} a =>
    Does.star0 (Nots.at (le_eq (by have := a.2; simpa using this)) a.none a.le fails_ws_end (by omega))
  induction g with
  | done => intro p m a; exact ⟨p, by rw [show 0 + 1 + m = m + 1 by omega]; exact fin a, .inl a.none, a.le⟩
  | line => intro p m a; exact ⟨p + 3, by rw [nn 0 m, show 0 + 1 + m = m + 1 by omega]; exact Does.star (ws_line a) (fin a.tail.tail.tail), .inl a.tail.tail.tail.none, a.tail.tail.tail.le⟩
  | open1 => intro p m a; exact ⟨p, by rw [show 0 + 1 + m = m + 1 by omega]; exact Does.star0 (ws_open1 a), .inr a.head, a.le⟩
  | open2 => intro p m a; exact ⟨p, by rw [show 0 + 1 + m = m + 1 by omega]; exact Does.star0 (ws_open2 a), .inr a.head, a.le⟩
  | space _ ih => intro p m a; obtain ⟨q, d, s⟩ := ih (m := m) a.tail; exact ⟨q, by rw [nn]; exact Does.star (ws_space a) d, s⟩
  | tab _ ih => intro p m a; obtain ⟨q, d, s⟩ := ih (m := m) a.tail; exact ⟨q, by rw [nn]; exact Does.star (ws_tab a) d, s⟩
  | lf _ ih => intro p m a; obtain ⟨q, d, s⟩ := ih (m := m) a.tail; exact ⟨q, by rw [nn]; exact Does.star (ws_lf a) d, s⟩
  | crlf _ ih => intro p m a; obtain ⟨q, d, s⟩ := ih (m := m) a.tail.tail; exact ⟨q, by rw [nn]; exact Does.star (ws_crlf a) d, s⟩
  | ls _ ih => intro p m a; obtain ⟨q, d, s⟩ := ih (m := m) a.tail; exact ⟨q, by rw [nn]; exact Does.star (ws_ls a) d, s⟩
  | nbsp _ ih => intro p m a; obtain ⟨q, d, s⟩ := ih (m := m) a.tail; exact ⟨q, by rw [nn]; exact Does.star (ws_nbsp a) d, s⟩
  | block0 _ ih => intro p m a; obtain ⟨q, d, s⟩ := ih (m := m) a.tail.tail.tail.tail; exact ⟨q, by rw [nn]; exact Does.star (ws_block0 a) d, s⟩
  | block3 _ ih => intro p m a; obtain ⟨q, d, s⟩ := ih (m := m) a.tail.tail.tail.tail.tail.tail.tail; exact ⟨q, by rw [nn]; exact Does.star (ws_block3 a) d, s⟩
  | line0 _ ih => intro p m a; obtain ⟨q, d, s⟩ := ih (m := m) a.tail.tail.tail; exact ⟨q, by rw [n2]; exact Does.star (ws_line0 a) (Does.star (ws_lf a.tail.tail) d), s⟩

/-- the whole grammar, at the gaps -/
theorem grammar_gap {T : Str} {n : Nat} {l : List Nat} (g : Gap n l) {p : Nat} (a : At T p l) (hn : n ≤ 399) : ∃ σ', f_grammar_ T ⟨.none, p, false, p, []⟩ = some σ' ∧ σ'.failed = true ∧ σ'.err = T.length := by
  obtain ⟨q, d, s⟩ := sp_gap g (m := 399 - n) a
  rw [show n + 1 + (399 - n) = 400 by omega] at d
  have d' : Does (Le T) (Eq' T) p q (f_sp_ T) := Does.one d
  have hv : FailsAt T (charAt T q) 20 (bindS "v" (f_value_ T)) := (fails_value s.1).bind
  obtain ⟨σ₂, h1, h2, h3, h4, h5⟩ := d' { (⟨.none, p, false, p, []⟩ : PS) with sc := [⟨"grammar", none⟩] } rfl a.le (by simp)
  have h6 := hv σ₂ (by rw [h2]) (by rw [h2]; exact s.2) (by rw [h4]; simp)
  refine ⟨{ σ₂.fail with sc := [] }, ?_, rfl, ?_⟩
  · refine (then_cons (push_ok (by simp))).trans ?_
    refine (then_cons ((seq_next h1 h3).trans (seq_fail h6 rfl))).trans ?_
    exact then_one (pop_ok (sc := ⟨"grammar", none⟩) (r := []) h4 (by simp))
  · show max σ₂.err σ₂.pos = T.length
    have h5' : σ₂.err = T.length := h5
    rw [h5', h2]
    have := s.2
    omega
end Mine

end

/- PD1 -/
section
open PySem PySem.W PyProof.Rows PySem.Calls
set_option Elab.async false
set_option maxRecDepth 100000
namespace Mine

theorem fillD1_ (_ : PySem.Challenge.rw_bd6020_01 = PySem.Challenge.rw_bd6020_01) (_ : Mine.hd.heap_39 = Mine.hd.heap_39) : True := by
  have h : PySem.Challenge.rw_bd6020_01 = PySem.Challenge.rw_bd6020_01 ∧ Mine.hd.heap_39 = Mine.hd.heap_39 := by
    k_fill
    exact ⟨rfl, rfl⟩
  trivial
local macro_rules | `(tactic| walk_at "m.at") => `(tactic| exact ⟨by rw [Is.K (by assumption), Is.C (by assumption)]; k_is, ⟨_, none, #[], by rw [Is.K (by assumption)]; k_is⟩, by decide +kernel⟩)
local macro_rules | `(tactic| walk_at "m.is") => `(tactic| first | (rw [Is.K (by assumption), Is.C (by assumption)]; k_is) | (rw [Is.K (by assumption)]; k_is))

/-- line and column behind the signs of l -/
def offs : List Nat → Nat × Nat → Nat × Nat
  | [], a => a
  | c :: l, a => offs l (if c = 10 then (a.1 + 1, 1) else (a.1, a.2 + 1))

theorem rangeiter_notCode {x l st : Int} : NotCode { cls := .type "range_iterator", data := .fields #[rawInt x, rawInt l, rawInt st] } := by
  intro vs q t d e
  cases d
  simp [rawInt] at e

section
variable {u : U} {A : Around} {E : Value → Shared → Prop} {s : Shared} {g : Heap} {N : List Addr} {σ : PS} {L : Addr} {m : Str → Option Value}
theorem evRange {n : Nat} {t : Tok} {Q : Value → Shared → Prop} (F : Fr g L s.heap m) (I : PInv u g (L :: N) s.heap σ) (hn : n ≤ 100000)
    (h : ∀ It h' tk, PInv u g (L :: It :: N) h' σ → Fr g L h' m → L ≠ It → (∀ b o, s.heap.get? b = some o → h'.get? b = some o) → IsRangeIter h' It ((0 : Int) + ((0 : Nat) : Int) * 1) ((n : Int) - ((0 : Nat) : Int)) 1 → Q (.ref It) { s with heap := h', toks := tk }) :
    wpAny (model u.prog u.w) A (call (.type "range") [.int n t]) (fun v s₁ => wpAny (model u.prog u.w) A (pyIter v) Q E s₁) E s := by
  refine call_range_1 ?_
  refine wpAny_pyIter_range (a := 0) (b := n) (c := 1) (Heap.get?_push_size _ rfl) (small_one (by omega) (by omega) (by omega) (by omega)) ?_
  (try dsimp only)
  have I₄ := I.push { cls := .type "range", data := .fields #[.int 0 s.toks, .int n t, .int 1 (s.toks + 1)] }
  have F₄ := F.push { cls := .type "range", data := .fields #[.int 0 s.toks, .int n t, .int 1 (s.toks + 1)] }
  generalize hH : s.heap.push { cls := .type "range", data := .fields #[.int 0 s.toks, .int n t, .int 1 (s.toks + 1)] } = H at I₄ F₄ ⊢
  have k1 : ∀ b o, s.heap.get? b = some o → H.get? b = some o := fun b o e => by rw [← hH]; exact Heap.get?_push_of_some _ e
  refine h H.objs.size _ _ ((I₄.priv (a := H.objs.size) I₄.sz (Heap.get?_none_of_le (Nat.le_refl _)) (fun b o e => Heap.get?_push_of_some { cls := .type "range_iterator", data := .fields #[rawInt 0, rawInt (Builtin.Range.rangeSize 0 n 1), rawInt 1] } e) (by rw [Heap.size_push]; omega) ⟨_, Heap.get?_push_size _ rfl⟩).reN (fun a => by simp only [List.mem_cons]; constructor <;> (rintro (q | q | q) <;> simp [q]))) (F₄.push _) (Nat.ne_of_lt F₄.ns.lt) (fun b o e => Heap.get?_push_of_some _ (k1 b o e)) ?_
  rw [rangeSize_one]
  have e1 : (if (0 : Int) < (n : Int) then (n : Int) - 0 else 0) = (n : Int) - ((0 : Nat) : Int) := by split <;> omega
  rw [e1]
  exact Heap.get?_push_size _ rfl
end

set_option maxHeartbeats 8000000 in
theorem leaf_offs {u : U} (hu : Is u) (kn : Kn u) {g : Heap} {A : Around} {s : Shared} {σ : PS} (hR : Room A 1) (I : PInv u g [] s.heap σ) (he : σ.err ≤ u.c.T.length) :
    codeAny (model u.prog u.w) A (.call (.ref 80) ⟨[.ref u.c.x], []⟩) (fun rr s' => ∃ a t1 t2, rr = .ok (.ret (.ref a)) ∧ ∃ h' tk', s' = { s with heap := h', toks := tk' } ∧ PInv u g [a] h' σ ∧
      h'.get? a = some { cls := .type "tuple", data := .seq #[.int (offs (u.c.T.cps.toList.take σ.err) (1, 1)).1 t1, .int (offs (u.c.T.cps.toList.take σ.err) (1, 1)).2 t2] }) s := by
  refine' enter_local (d := 0) (binds := [(("self" : Str), .ref u.c.x)]) ⟨none, #[], ?hf⟩ ?hb ?hcd ?hbind ?hcell ?hloc ?hco ?hgen ?hk hR I ?_
  case hf => rw [hu.K]; k_is
  case hb => rfl
  case hcd => rw [hu.K]; k_is
  case hbind => exact BindsTo.of_eq rfl
  case hcell => decide
  case hloc => exact locs rfl
  case hco => rfl
  case hgen => rfl
  case hk => rfl
  intro L h₁ I₁ F₁
  (try dsimp only)
  have nn : findIn u.K (.ref u.C) "errpos" = some none := by walk_at "m.is"
  have nm : findIn u.K (.ref u.C) "msg" = some none := by walk_at "m.is"
  have nr : nsIn u.K mainGlobals "range" = some none := by walk_at "m.is"
  refine wpAny_execs_cons (wpAny_Assign_Name (wpAny_Constant_int ?_) (by rfl))
  refine stL (s := ⟨h₁, s.gens, s.drawn, _, s.os⟩) F₁ I₁ rfl rfl fun h₂ I₂ F₂ _ => ?_
  (try dsimp only)
  refine wpAny_execs_cons (wpAny_Assign_Name (wpAny_Constant_int ?_) (by rfl))
  refine stL (s := ⟨h₂, s.gens, s.drawn, _, s.os⟩) F₂ I₂ rfl rfl fun h₃ I₃ F₃ _ => ?_
  (try dsimp only)
  refine wpAny_execs_cons (wpAny_For (Call_ (nameB I₃ rfl rfl rfl rfl nr (by boot_by_name) (by decide) ?_)))
  refine PyProof.Rows.callWith_type1 (spliced_more (evFld kn F₃ I₃ rfl rfl rfl nn ?_))
  intro v1 tp1 tq1 hv1
  have he5 : σ.err ≤ 100000 := Nat.le_trans he kn.tl
  refine ⟨_, rfl, rfl, spliced_none (evRange F₃ I₃ he5 fun It h₄ tk₄ I₄ F₄ nL k₄ hit => ?_)⟩
  (try dsimp only)
  have hlen : (u.c.T.cps.toList.take σ.err).length = σ.err := by
    rw [List.length_take, Array.length_toList]
    exact Nat.min_eq_left he
  generalize hl : u.c.T.cps.toList.take σ.err = l at hlen ⊢
  refine codeAny_forLoop (fun n s' => ∃ i h tk m a ta tb, s' = ⟨h, s.gens, s.drawn, tk, s.os⟩ ∧ PInv u g [L, It] h σ ∧ Fr g L h m ∧ m "self" = some (.ref u.c.x) ∧ m "lineno" = some (.int ((a : Nat × Nat).1 : Int) ta) ∧ m "colno" = some (.int (a.2 : Int) tb) ∧
      IsRangeIter h It ((0 : Int) + (i : Nat) * 1) ((σ.err : Int) - (i : Nat)) 1 ∧ i ≤ σ.err ∧ offs (l.drop i) a = offs l (1, 1) ∧ n = σ.err + 1 - i) ?_ (σ.err + 1) ⟨0, h₄, _, _, (1, 1), _, _, rfl, I₄, F₄, rfl, rfl, rfl, hit, Nat.zero_le _, rfl, rfl⟩
  rintro n s' ⟨i, h, tk, m, ⟨ln, cn⟩, ta, tb, rfl, Ii, Fi, m1, m2, m3, hit, hi, ho, rfl⟩
  have kf : ∀ {h' : Heap}, (∀ b o, b ∉ [It] → h.get? b = some o → h'.get? b = some o) → (∀ b, b ≠ It → ∀ o, h.get? b = some o → h'.get? b = some o) := fun k b hb o e => k b o (by simpa using hb) e
  have Ff : ∀ {h' : Heap}, (∀ b, b ≠ It → ∀ o, h.get? b = some o → h'.get? b = some o) → Fr g L h' m := fun {h'} keep' => by
    obtain ⟨o, es, ep, e, rr⟩ := Fi.ns
    exact ⟨⟨o, es, ep, keep' L nL _ e, rr⟩, fun b o e => keep' b (fun q => by have := Ii.fr _ (.tail _ (.head _)); rw [← q, e] at this; cases this) o (Fi.keep b o e), Fi.above⟩
  by_cases hlt : i < σ.err
  · refine (Walks.range (prog := u.prog) (w := u.w) (A := A.deeper _) hR.hd It 0 1 σ.err).item i _ _ _ hlt hit fun v h' tk' hP hst' keep => ?_
    obtain ⟨tv, rfl⟩ := hP
    have keep' := kf keep
    have F₅ := Ff keep'
    have I₅ : PInv u g [L, It] h' σ := Ii.store (.tail _ (.head _)) hit rangeiter_notCode keep' (Nat.le_trans F₅.above (Nat.le_of_lt F₅.ns.lt)) ⟨_, hst'⟩
    rw [show (0 : Int) + (i : Int) * 1 = (i : Int) by omega]
    refine wpAny_assign_Name (stL F₅ I₅ rfl rfl fun h₆ I₆ F₆ k₆ => ?_)
    (try dsimp only)
    have hc : ∃ c, u.c.T.cps[i]? = some c ∧ l.drop i = c :: l.drop (i + 1) := by
      have hi' : i < l.length := by omega
      refine ⟨l[i], ?_, List.drop_eq_getElem_cons hi'⟩
      have h1 : l[i]? = some l[i] := List.getElem?_eq_getElem hi'
      have h2 : (u.c.T.cps.toList.take σ.err)[i]? = some l[i] := by rw [hl]; exact h1
      rw [List.getElem?_take, if_pos hlt, Array.getElem?_toList] at h2
      exact h2
    obtain ⟨c, hc1, hc2⟩ := hc
    rw [hc2] at ho
    have m1' := (if_neg (by decide) : (if ("self" : Str) = "i" then some (Value.int (i : Int) tv) else m "self") = m "self").trans m1
    have m2' := (if_neg (by decide) : (if ("lineno" : Str) = "i" then some (Value.int (i : Int) tv) else m "lineno") = m "lineno").trans m2
    have m3' := (if_neg (by decide) : (if ("colno" : Str) = "i" then some (Value.int (i : Int) tv) else m "colno") = m "colno").trans m3
    refine wpAny_execs_cons (wpAny_If (wpAny_isTrue_Compare1 (Subscript_ (evFld kn F₆ I₆ rfl rfl m1' nm ?_))))
    intro v2 tp2 tq2 hv2
    refine ⟨_, rfl, rfl, nameL F₆ rfl rfl (if_pos rfl) (itemT (c := c) kn.tl hc1 (Constant_str (PyProof.Rows.eq_str (wpAny_truthy_bool ?_))))⟩
    have it₆ : ∀ {h₇ : Heap}, (∀ b, b ≠ L → ∀ o, h₆.get? b = some o → h₇.get? b = some o) → IsRangeIter h₇ It ((0 : Int) + ((i + 1 : Nat) : Int) * 1) ((σ.err : Int) - ((i + 1 : Nat) : Int)) 1 := fun k => k _ nL.symm _ (k₆ _ nL.symm _ hst')
    by_cases hn : c = 10
    · rw [if_pos (by rw [hn]; rfl)]
      refine wpAny_execs_cons (wpAny_AugAssign_Name (wpAny_loadName_local (env := callEnv _ L 80) rfl rfl F₆.ns m2' (wpAny_Constant_int (PyProof.Rows.iadd_int ?_))))
      refine stL (s := ⟨h₆, s.gens, s.drawn, _, s.os⟩) F₆ I₆ rfl rfl fun h₇ I₇ F₇ k₇ => ?_
      (try dsimp only)
      refine wpAny_execs_cons (wpAny_Assign_Name (wpAny_Constant_int ?_) (by rfl))
      refine stL (s := ⟨h₇, s.gens, s.drawn, _, s.os⟩) F₇ I₇ rfl rfl fun h₈ I₈ F₈ k₈ => ?_
      refine wpAny_execs_nil (wpAny_execs_nil ?_)
      refine ⟨σ.err + 1 - (i + 1), by omega, i + 1, h₈, _, _, (ln + 1, 1), ?ta, ?tb, rfl, I₈, F₈, ?a, ?b, ?c, it₆ (fun b hb o e => k₈ b hb o (k₇ b hb o e)), hlt, ?d, rfl⟩
      case a => exact (if_neg (by decide)).trans ((if_neg (by decide)).trans m1')
      case b => exact ((if_neg (by decide)).trans (if_pos rfl)).trans (by rfl)
      case c => exact if_pos rfl
      case d =>
        rw [← ho]
        show _ = offs (l.drop (i + 1)) (if c = 10 then (ln + 1, 1) else (ln, cn + 1))
        rw [if_pos hn]
    · rw [if_neg (by
        intro q
        have := show (⟨#[c]⟩ : Str) = ⟨#[10]⟩ from beq_iff_eq.mp q
        exact hn (by injection this with this; exact Option.some.inj (congrArg (fun a : Array Nat => a.toList.head?) this)))]
      refine wpAny_execs_cons (wpAny_AugAssign_Name (wpAny_loadName_local (env := callEnv _ L 80) rfl rfl F₆.ns m3' (wpAny_Constant_int (PyProof.Rows.iadd_int ?_))))
      refine stL (s := ⟨h₆, s.gens, s.drawn, _, s.os⟩) F₆ I₆ rfl rfl fun h₇ I₇ F₇ k₇ => ?_
      refine wpAny_execs_nil (wpAny_execs_nil ?_)
      refine ⟨σ.err + 1 - (i + 1), by omega, i + 1, h₇, _, _, (ln, cn + 1), ta, ?tb2, rfl, I₇, F₇, ?a2, ?b2, ?c2, it₆ k₇, hlt, ?d2, rfl⟩
      case a2 => exact (if_neg (by decide)).trans m1'
      case b2 => exact (if_neg (by decide)).trans m2'
      case c2 => exact (if_pos rfl).trans (by rfl)
      case d2 =>
        rw [← ho]
        show _ = offs (l.drop (i + 1)) (if c = 10 then (ln + 1, 1) else (ln, cn + 1))
        rw [if_neg hn]
  · have hin : i = σ.err := by omega
    subst hin
    refine (Walks.range (prog := u.prog) (w := u.w) (A := A.deeper _) hR.hd It 0 1 σ.err).done _ _ _ hit fun h' tk' keep => ?_
    have keep' := kf keep
    have F₅ := Ff keep'
    have I₅ : PInv u g [L] h' σ := Ii.lose (.tail _ (.head _)) hit rangeiter_notCode keep' (Nat.le_trans F₅.above (Nat.le_of_lt F₅.ns.lt)) (fun b mb => by rcases List.mem_singleton.mp mb with rfl; exact ⟨.head _, nL⟩)
    rw [List.drop_of_length_le (by omega)] at ho
    have ho' : (ln, cn) = offs l (1, 1) := ho
    refine wpAny_execs_nil (wpAny_execs_cons (wpAny_Return_some (Tuple_ (spliced_more (nameL F₅ rfl rfl m2 (spliced_more (nameL F₅ rfl rfl m3 (spliced_none (wpAny_newTuple ?_ (by rw [sizeLine_eq]; simp))))))))))
    (try dsimp only)
    rw [← ho']
    exact ⟨h'.objs.size, ta, tb, rfl, _, _, rfl, ((I₅.drop).priv (a := h'.objs.size) I₅.sz (Heap.get?_none_of_le (Nat.le_refl _)) (fun b o e => Heap.get?_push_of_some _ e) (by rw [Heap.size_push]; omega) ⟨_, Heap.get?_push_size _ rfl⟩), Heap.get?_push_size _ rfl⟩
end Mine

end

/- PD2 -/
section
open PySem PySem.W PyProof.Rows PySem.Calls
set_option Elab.async false
set_option maxRecDepth 100000
namespace Mine

theorem fillD2_ (_ : PySem.Challenge.rw_bd6020_01 = PySem.Challenge.rw_bd6020_01) (_ : Mine.hd.heap_39 = Mine.hd.heap_39) : True := by
  have h : PySem.Challenge.rw_bd6020_01 = PySem.Challenge.rw_bd6020_01 ∧ Mine.hd.heap_39 = Mine.hd.heap_39 := by
    k_fill
    exact ⟨rfl, rfl⟩
  trivial
local macro_rules | `(tactic| walk_at "m.at") => `(tactic| exact ⟨by rw [Is.K (by assumption), Is.C (by assumption)]; k_is, ⟨_, none, #[], by rw [Is.K (by assumption)]; k_is⟩, by decide +kernel⟩)
local macro_rules | `(tactic| walk_at "m.is") => `(tactic| first | (rw [Is.K (by assumption), Is.C (by assumption)]; k_is) | (rw [Is.K (by assumption)]; k_is))

/-- the words of the complaint -/
def words (T : Str) : Str := ("<string>" : Str) ++ (":" : Str) ++ ((toString ((offs T.cps.toList (1, 1)).1 : Int) : String) : Str) ++ (" Unexpected " : Str) ++ ("end of input" : Str) ++ (" at column " : Str) ++ ((toString ((offs T.cps.toList (1, 1)).2 : Int) : String) : Str)

theorem offs_le : ∀ (l : List Nat) (a : Nat × Nat) (n : Nat), a.1 ≤ n → a.2 ≤ n → 1 ≤ n → (offs l a).1 ≤ n + l.length ∧ (offs l a).2 ≤ n + l.length
  | [], a, n, h1, h2, _ => ⟨h1, h2⟩
  | c :: l, a, n, h1, h2, h3 => by
    have ih := offs_le l (if c = 10 then (a.1 + 1, 1) else (a.1, a.2 + 1)) (n + 1) (by split <;> simp <;> omega) (by split <;> simp <;> omega) (by omega)
    simp only [List.length_cons]
    have e : offs (c :: l) a = offs l (if c = 10 then (a.1 + 1, 1) else (a.1, a.2 + 1)) := rfl
    rw [e]
    omega

theorem len_app {x y : Str} {a b : Nat} (hx : x.length ≤ a) (hy : y.length ≤ b) : (x ++ y).length ≤ a + b := by rw [strLen_append]; omega
theorem le_line {a b : Nat} (h : a ≤ b) (hb : Nat.ble b 16777216 = true) : a ≤ sizeLine := by rw [sizeLine_eq]; exact Nat.le_trans h (Nat.le_of_ble_eq_true hb)

theorem ee_cons (e : Expr) (es : List Expr) (env : Env) : evalEach (e :: es) env = eval e env :: evalEach es env := rfl
theorem ee_nil (env : Env) : evalEach [] env = [] := rfl

theorem at_err_offsets {u : U} (hu : Is u) : MethAt u "_err_offsets" 80 := by walk_at "m.at"

set_option maxHeartbeats 1000000 in
theorem leaf_errstr {u : U} (hu : Is u) (kn : Kn u) {g : Heap} {A : Around} {s : Shared} {σ : PS} (hR : Room A 2) (I : PInv u g [] s.heap σ) (he : σ.err = u.c.T.length) (hfn : ∃ tf, u.c.fn = .str "<string>" tf) :
    codeAny (model u.prog u.w) A (.call (.ref 73) ⟨[.ref u.c.x], []⟩) (fun rr s' => ∃ t, rr = .ok (.ret (.str (words u.c.T) t)) ∧ ∃ h' tk', s' = { s with heap := h', toks := tk' } ∧ PInv u g [] h' σ) s := by
  refine' enter_local (d := 1) (binds := [(("self" : Str), .ref u.c.x)]) ⟨none, #[], ?hf⟩ ?hb ?hcd ?hbind ?hcell ?hloc ?hco ?hgen ?hk hR I ?_
  case hf => rw [hu.K]; k_is
  case hb => rfl
  case hcd => rw [hu.K]; k_is
  case hbind => exact BindsTo.of_eq rfl
  case hcell => decide
  case hloc => exact locs rfl
  case hco => rfl
  case hgen => rfl
  case hk => rfl
  intro L h₁ I₁ F₁
  (try dsimp only)
  have nn : findIn u.K (.ref u.C) "errpos" = some none := by walk_at "m.is"
  have nm : findIn u.K (.ref u.C) "msg" = some none := by walk_at "m.is"
  have nfn : findIn u.K (.ref u.C) "fname" = some none := by walk_at "m.is"
  have nl : nsIn u.K mainGlobals "len" = some none := by walk_at "m.is"
  refine wpAny_execs_cons (Assign_Tuple (callF0 (pl := _) kn (at_err_offsets hu) (by intros; rfl) F₁ I₁ rfl rfl rfl (wpAny_call ?_)))
  obtain ⟨g₂, J, st, zz, al, back, _, _⟩ := I₁.freeze'
  refine codeAny_mono (leaf_offs hu kn (s := ⟨h₁, s.gens, s.drawn, _, s.os⟩) hR.deeper J (by rw [he]; exact Nat.le_refl _)) fun rr s' hd => ?_
  obtain ⟨a, t1, t2, rfl, h₂, tk₂, rfl, J₂, et⟩ := hd
  have hall : u.c.T.cps.toList.take σ.err = u.c.T.cps.toList := by rw [he]; exact List.take_of_length_le (by rw [Array.length_toList]; exact Nat.le_refl _)
  rw [hall] at et
  have I₂ := back h₂ σ J₂.drop
  have F₂ : Fr g L h₂ _ := Fr.lift F₁ st (al L (.head _)) J₂.st
  (try dsimp only)
  have ht : IsTup h₂ a #[.int (offs u.c.T.cps.toList (1, 1)).1 t1, .int (offs u.c.T.cps.toList (1, 1)).2 t2] := ⟨_, et, rfl, _, rfl⟩
  obtain ⟨o3, N3, k3⟩ := same_news (s := ⟨h₂, s.gens, s.drawn, tk₂, s.os⟩) (N := []) F₂ I₂
  refine unpackN_ F₂ N3 ht hR.hd rfl rfl fun h₃ F₃ N₃ => ?_
  obtain ⟨I₃, _⟩ := k3 _ _ F₃ N₃
  refine assignInOrder_cons (wpAny_assign_Name (stL F₃ I₃ rfl rfl fun h₄ I₄ F₄ _ => ?_))
  refine assignInOrder_cons (wpAny_assign_Name (stL F₄ I₄ rfl rfl fun h₅ I₅ F₅ _ => ?_))
  refine assignInOrder_nil ?_
  (try dsimp only)
  refine wpAny_execs_cons (wpAny_If (wpAny_isTrue_Compare1 (evFld kn F₅ I₅ rfl rfl rfl nn ?_)))
  intro v1 tp1 tq1 hv1
  refine ⟨_, rfl, rfl, Call_ (nameB (s := ⟨h₅, s.gens, s.drawn, _, s.os⟩) I₅ rfl rfl rfl rfl nl (by boot_by_name) (by decide) ?_)⟩
  refine callWith_method1 (spliced_more (evFld kn F₅ I₅ rfl rfl rfl nm ?_))
  intro v2 tp2 tq2 hv2
  have tl := kn.tl
  refine ⟨_, rfl, rfl, spliced_none (PyProof.Rows.len_str (by omega) ?_)⟩
  refine eq_int (wpAny_truthy_bool ?_)
  rw [if_pos (by rw [he]; simp)]
  refine wpAny_execs_cons (wpAny_Assign_Name (Constant_str ?_) (by rfl))
  refine stL (s := ⟨h₅, s.gens, s.drawn, _, s.os⟩) F₅ I₅ rfl rfl fun h₆ I₆ F₆ _ => ?_
  refine wpAny_execs_nil ?_
  (try dsimp only)
  refine wpAny_execs_cons (wpAny_Return_some (JoinedStr_many ?_))
  rw [ee_cons, ee_cons, ee_cons, ee_cons, ee_cons, ee_nil]
  obtain ⟨tf, hfn⟩ := hfn
  have hT : u.c.T.cps.toList.length = u.c.T.length := by rw [Array.length_toList]; rfl
  obtain ⟨b1, b2⟩ := offs_le u.c.T.cps.toList (1, 1) 1 (by simp) (by simp) (by omega)
  rw [hT] at b1 b2
  unfold words
  generalize (offs u.c.T.cps.toList (1, 1)).1 = ln at b1 F₆ ⊢
  generalize (offs u.c.T.cps.toList (1, 1)).2 = cn at b2 F₆ ⊢
  have l1 : (Str.ofString (toString (ln : Int))).length ≤ 6 := toString_length_le (by omega) (by decide) (by omega)
  have l2 : (Str.ofString (toString (cn : Int))).length ≤ 6 := toString_length_le (by omega) (by decide) (by omega)
  have g1 : ((ln : Int)).natAbs.log2 < 1920 := by
    rw [Int.natAbs_natCast]
    by_cases z : ln = 0
    · subst z; decide
    · exact (Nat.log2_lt z).mpr (Nat.lt_of_lt_of_le (show ln < 2 ^ 20 by omega) (Nat.pow_le_pow_right (by decide) (by decide)))
  have g2 : ((cn : Int)).natAbs.log2 < 1920 := by
    rw [Int.natAbs_natCast]
    by_cases z : cn = 0
    · subst z; decide
    · exact (Nat.log2_lt z).mpr (Nat.lt_of_lt_of_le (show cn < 2 ^ 20 by omega) (Nat.pow_le_pow_right (by decide) (by decide)))
  have c0 : (Str.empty ++ ("<string>" : Str)).length = 8 := by decide +kernel
  have sz : sizeLine = 16777216 := sizeLine_eq
  have k1 : (":" : Str).length = 1 := by decide +kernel
  have k2 : (" Unexpected " : Str).length = 12 := by decide +kernel
  have k3 : ("end of input" : Str).length = 12 := by decide +kernel
  have k4 : (" at column " : Str).length = 11 := by decide +kernel
  have e0 : Str.empty ++ ("<string>" : Str) = ("<string>" : Str) := by decide +kernel
  refine joinParts_cons (FormattedValue_plain (evFld kn F₆ I₆ rfl rfl rfl nfn ?_))
  intro v3 tp3 tq3 hv3
  refine ⟨_, rfl, by rw [hfn]; rfl, ?_⟩
  rw [hfn]
  have c1 : ("<string>" : Str).length = 8 := by decide +kernel
  refine formatField_str (fun t' tk => ⟨by omega, ?_⟩) (by omega)
  rw [e0]
  have s1 := len_app (Nat.le_of_eq c1) (Nat.le_of_eq k1)
  have s2 := len_app s1 l1
  have s3 := len_app s2 (Nat.le_of_eq k2)
  have s4 := len_app s3 (Nat.le_of_eq k3)
  have s5 := len_app s4 (Nat.le_of_eq k4)
  have s6 := len_app s5 l2
  refine joinParts_cons (Constant_str ⟨le_line s1 rfl, ?_⟩)
  refine joinParts_cons (FormattedValue_plain (nameL (s := ⟨h₆, s.gens, s.drawn, _, s.os⟩) F₆ rfl rfl rfl (wpAny_formatField_int g1 ⟨le_line s2 rfl, ?_⟩)))
  refine joinParts_cons (Constant_str ⟨le_line s3 rfl, ?_⟩)
  refine joinParts_cons (FormattedValue_plain (nameL (s := ⟨h₆, s.gens, s.drawn, _, s.os⟩) F₆ rfl rfl rfl (formatField_str (fun t' tk => ⟨le_line s4 rfl, ?_⟩) (le_line (Nat.le_of_eq k3) rfl))))
  refine joinParts_cons ?_
  refine Constant_str ⟨le_line s5 rfl, ?_⟩
  refine joinParts_cons ?_
  refine FormattedValue_plain ?_
  refine nameL (s := ⟨h₆, s.gens, s.drawn, _, s.os⟩) F₆ rfl rfl rfl ?_
  refine wpAny_formatField_int g2 ⟨le_line s6 rfl, ?_⟩
  refine joinParts_nil ?_ (le_line s6 rfl)
  exact ⟨_, rfl, h₆, _, rfl, I₆.drop⟩
end Mine

end

/- PD3 -/
section
open PySem PySem.W PyProof.Rows PySem.Calls
set_option Elab.async false
set_option maxRecDepth 100000
namespace Mine

/-- the same parse with other global variables -/
def Cx.gv (c : Cx) (v : Value) : Cx := { c with gl := v }
def U.gv (u : U) (v : Value) : U := { u with c := u.c.gv v }

section
variable {prog : Program} {w : World} {C : Addr} {c : Cx} {tabs : Tabs} {h h' : Heap} {σ : PS} {W : Wit}
theorem Own.setGl (O : Own prog w C c tabs h σ W) {v : Value} {L : Addr} {oL : Obj} (eL : h.get? L = some oL) (nL : NotCode oL) (hL : L ∉ foot c tabs W) (k : ∀ a, a ≠ c.dx → a ≠ L → ∀ o, h.get? a = some o → h'.get? a = some o)
    (hd : ∃ v0 tp tq, σ.val.is v0 ∧ h'.get? c.dx = some (dictOf (pdict w.params (c.gv v) v0 (.int σ.pos tp) (.bool σ.failed) (.int σ.err tq)) 10)) : Own prog w C (c.gv v) tabs h' σ W := by
  obtain ⟨v0, tp0, tq0, _, e0⟩ := O.dict
  have hT : c.dx ∉ W.ts := O.sc.tup_ne e0 (by intro q; injection q with q; exact absurd q (by decide))
  have hx : c.x ≠ c.dx := fun q => by
    have := O.inst; rw [q, e0] at this; injection this with this; injection this with t1 _ _ _; cases t1
  have hl : c.l ≠ c.dx := fun q => by
    obtain ⟨n, e⟩ := O.scs; rw [q, e0] at e; injection e with e; injection e with t1; injection t1 with t1; exact absurd t1 (by decide)
  have kf : ∀ a, a ≠ c.dx → a ∈ foot c tabs W → ∀ o, h.get? a = some o → h'.get? a = some o := fun a h1 h2 => k a h1 fun q => hL (q ▸ h2)
  refine ⟨kf _ hx (mem_foot.mpr (.inl rfl)) _ O.inst, hd, ?_, ?_, ?_, O.dxd, O.nd, O.hi, O.apart⟩
  · obtain ⟨n, e⟩ := O.scs; exact ⟨n, kf _ hl (mem_foot.mpr (.inr (.inr (.inl rfl)))) _ e⟩
  · exact O.sc.keep fun a ha => kf a (ha.elim (fun m q => hT (q ▸ m)) fun m q => O.dxd (q ▸ m)) (mem_foot.mpr (ha.elim (fun m => .inr (.inr (.inr (.inl m)))) fun m => .inr (.inr (.inr (.inr (.inl m))))))
  · intro q hq
    obtain ⟨ps, e1, e2, e3⟩ := O.tab q hq
    refine ⟨ps, kf _ (fun q2 => ?_) (tab_in hq) _ e1, e2, fun pos cv e5 => ?_⟩
    · rw [q2, e0] at e1; injection e1 with e1; injection e1 with t1; cases t1
    · obtain ⟨a, m, r1, r2⟩ := e3 pos cv e5
      refine ⟨a, m, r1, codeRec_keep r2 r1 (k a (fun q2 => O.apart a m (q2 ▸ mem_foot.mpr (.inr (.inl rfl)))) fun q2 => ?_)⟩
      obtain ⟨c', o', vs, t, z1, z2, z3, z4⟩ := r2
      subst r1; cases z1
      rw [q2, eL] at z2; cases z2
      exact nL vs _ t z3 z4
end

section
variable {u : U} {A : Around} {E : Value → Shared → Prop} {s : Shared} {g : Heap} {N : List Addr} {σ : PS} {L : Addr} {m : Str → Option Value} {v : Value}
theorem setGl {Q : Unit → Shared → Prop} (kn : Kn u) (F : Fr g L s.heap m) (I : PInv u g (L :: N) s.heap σ) (ht : takerIn u.K u.C "_global_vars" = some none)
    (h : ∀ h', PInv (u.gv v) g (L :: N) h' σ → Fr g L h' m → Q () { s with heap := h', toks := s.toks + 2 }) :
    wpAny (model u.prog u.w) A (setAttr (.ref u.c.x) "_global_vars" v) Q E s := by
  obtain ⟨W, O, fr⟩ := I.own
  obtain ⟨v0, tp, tq, hv0, hd⟩ := O.dict
  have hdx := fr u.c.dx (mem_foot.mpr (.inr (.inl rfl)))
  have hdL : u.c.dx ≠ L := fun q => hdx.2 (q ▸ .head _)
  have J : PySem.W.InstAt s.heap u.c.x (instObj u.C u.c.dx) u.C (some (dictOf (pdict u.w.params u.c v0 (.int σ.pos tp) (.bool σ.failed) (.int σ.err tq)) 10)) := ⟨O.inst, rfl, rfl, hd⟩
  refine set_dict F I.b.k (all_news F hd hdx.1 hdL) J rfl kn.sa kn.po ht kn.hd rfl (es' := pdict u.w.params (u.c.gv v) v0 (.int σ.pos tp) (.bool σ.failed) (.int σ.err tq)) (n' := 10) rfl (.head fun p hp => (mem_restOf.mp hp).2.1) (by simp [pdict]) fun h' F' N' => ?_
  obtain ⟨e1, k⟩ := of_news F' N' I.st
  obtain ⟨oL, eL, nL⟩ := frame_notCode F
  obtain ⟨oL', eL', _⟩ := frame_notCode F'
  refine h h' ⟨⟨I.b.k, I.b.t, I.b.cd⟩, F'.keep, Nat.le_trans F'.above (Nat.le_of_lt F'.ns.lt), fun a ha => ?_, I.fr, W, O.setGl eL nL (fun q => (fr L q).2 (.head _)) k ⟨v0, tp, tq, hv0, e1⟩, fr⟩ F'
  by_cases q : a = L
  · rw [q]; exact ⟨_, eL'⟩
  · obtain ⟨o, e⟩ := I.al a ha
    by_cases q2 : a = u.c.dx
    · rw [q2]; exact ⟨_, e1⟩
    · exact ⟨o, k a q2 q o e⟩
end
end Mine

end

/- PD4 -/
section
open PySem PySem.W PyProof.Rows PySem.Calls
set_option Elab.async false
set_option maxRecDepth 100000
namespace Mine

theorem fillD4_ (_ : PySem.Challenge.rw_bd6020_01 = PySem.Challenge.rw_bd6020_01) (_ : Mine.hd.heap_39 = Mine.hd.heap_39) : True := by
  have h : PySem.Challenge.rw_bd6020_01 = PySem.Challenge.rw_bd6020_01 ∧ Mine.hd.heap_39 = Mine.hd.heap_39 := by
    k_fill
    exact ⟨rfl, rfl⟩
  trivial
local macro_rules | `(tactic| walk_at "m.at") => `(tactic| exact ⟨by rw [Is.K (by assumption), Is.C (by assumption)]; k_is, ⟨_, none, #[], by rw [Is.K (by assumption)]; k_is⟩, by decide +kernel⟩)
local macro_rules | `(tactic| walk_at "m.is") => `(tactic| first | (rw [Is.K (by assumption), Is.C (by assumption)]; k_is) | (rw [Is.K (by assumption)]; k_is))

theorem at_grammar {u : U} (hu : Is u) : MethAt u "_grammar_" 229 := by walk_at "m.at"
theorem at_err_str {u : U} (hu : Is u) : MethAt u "_err_str" 73 := by walk_at "m.at"

theorem Is2.gv {u : U} (h : Is2 u) (v : Value) : Is2 (u.gv v) := ⟨⟨h.K, h.C⟩, h.tabs⟩
theorem Kn.gv {u : U} (h : Kn u) (v : Value) : Kn (u.gv v) := ⟨h.ga, h.gA, h.hd, h.sa, h.po, h.tl⟩

set_option maxHeartbeats 1000000 in
/-- the parse of a text that fails at its end -/
theorem leaf_parse {u : U} (hu : Is2 u) (kn : Kn u) {g : Heap} {A : Around} {s : Shared} {σ σ' : PS} {d : Addr} {kw : Str × Value} {binds : List (Str × Value)} (hR : Room A 40) (I : PInv u g [] s.heap σ)
    (hG : f_grammar_ u.c.T σ = some σ') (hf : σ'.failed = true) (he : σ'.err = u.c.T.length) (hfn : ∃ tf, u.c.fn = .str "<string>" tf)
    (htr : ∀ (A : Around) (Q : Bool → Shared → Prop) (E : Value → Shared → Prop) (s' : Shared), g.StaysIn s'.heap → (∀ tk, Q true { s' with toks := tk }) → wpAny (model u.prog u.w) A (truthy (.ref d)) Q E s') :
    codeAny (model u.prog u.w) A (.call (.ref 66) ⟨[.ref u.c.x], [("global_vars", .ref d)]⟩) (fun rr s' => ∃ a t1 t2, rr = .ok (.ret (.ref a)) ∧ ∃ h' tk', s' = { s with heap := h', toks := tk' } ∧ PInv (u.gv (.ref d)) g [a] h' σ' ∧
      h'.get? a = some { cls := .type "tuple", data := .seq #[.none, .str (words u.c.T) t1, .int u.c.T.length t2] }) s := by
  have hu1 := hu.toIs
  refine' enter_local (d := 39) (binds := [(("self" : Str), .ref u.c.x), (("global_vars" : Str), .ref d)]) ⟨none, #[], ?hf⟩ ?hb ?hcd ?hbind ?hcell ?hloc ?hco ?hgen ?hk hR I ?_
  case hf => rw [hu1.K]; k_is
  case hb => rfl
  case hcd => rw [hu1.K]; k_is
  case hbind => exact binds_K I.K rfl (by rw [hu1.K]; k_is) rfl rfl rfl
  case hcell => decide
  case hloc => exact locs rfl
  case hco => rfl
  case hgen => rfl
  case hk => rfl
  intro L h₁ I₁ F₁
  (try dsimp only)
  have nf : findIn u.K (.ref u.C) "failed" = some none := by walk_at "m.is"
  have ne : findIn u.K (.ref u.C) "errpos" = some none := by walk_at "m.is"
  refine wpAny_execs_cons ?_
  refine plainObj_wpAny_Assign_Attribute ?_ (by rfl)
  refine BoolOp_or (nameL F₁ rfl rfl rfl (htr _ _ _ _ I₁.st fun tk => ?_))
  rw [if_pos rfl]
  refine nameL (s := ⟨h₁, s.gens, s.drawn, tk, s.os⟩) F₁ rfl rfl rfl ?_
  refine setGl kn F₁ I₁ ?_ fun h₂ I₂ F₂ => ?_
  · walk_at "m.is"
  (try dsimp only)
  have hu' := hu.gv (.ref d)
  have hu1' := hu'.toIs
  have kn' := kn.gv (.ref d)
  refine wpAny_execs_cons (wpAny_Expr (callF0 (u := u.gv (.ref d)) (pl := _) kn' (at_grammar hu1') (by intros; rfl) F₂ I₂ rfl rfl rfl (wpAny_call ?_)))
  refine runF (u := u.gv (.ref d)) ((m_grammar_ hu' kn').less (by decide) g) F₂ I₂ hR.deeper hG fun h₃ tk₃ I₃ F₃ _ => ?_
  (try dsimp only)
  refine wpAny_execs_cons (wpAny_If (isTrue_plain (evFld (u := u.gv (.ref d)) kn' F₃ I₃ rfl rfl rfl nf ?_)))
  intro v1 tp1 tq1 hv1
  refine ⟨_, rfl, rfl, wpAny_truthy_bool ?_⟩
  rw [if_pos hf]
  refine wpAny_execs_cons (wpAny_Return_some (Tuple_ (spliced_more (Constant_none (spliced_more ?_)))))
  refine callF0 (u := u.gv (.ref d)) (pl := _) kn' (at_err_str hu1') (by intros; rfl) F₃ I₃ rfl rfl rfl (wpAny_call ?_)
  refine runV (u := u.gv (.ref d)) (V := fun v => ∃ t, v = .str (words u.c.T) t) (s := ⟨h₃, s.gens, s.drawn, _, s.os⟩) (fun g₂ st J => ?_) F₃ I₃ fun v h₄ tk₄ hv I₄ F₄ _ => ?_
  · refine codeAny_mono (leaf_errstr (u := u.gv (.ref d)) hu1' kn' (s := ⟨h₃, s.gens, s.drawn, _, s.os⟩) (hR.deeper.less (by omega)) J he hfn) fun rr s' hd => ?_
    obtain ⟨t, rfl, hh⟩ := hd
    exact ⟨⟨_, rfl, t, rfl⟩, hh⟩
  obtain ⟨t1, rfl⟩ := hv
  (try dsimp only)
  refine spliced_more (evFld (u := u.gv (.ref d)) kn' F₄ I₄ rfl rfl rfl ne ?_)
  intro v2 tp2 tq2 hv2
  refine ⟨_, rfl, rfl, spliced_none (wpAny_newTuple ?_ (by rw [sizeLine_eq]; simp))⟩
  (try dsimp only)
  refine ⟨h₄.objs.size, t1, tq2, rfl, _, _, rfl, (I₄.drop).priv (a := h₄.objs.size) I₄.sz (Heap.get?_none_of_le (Nat.le_refl _)) (fun b o e => Heap.get?_push_of_some _ e) (by rw [Heap.size_push]; omega) ⟨_, Heap.get?_push_size _ rfl⟩, ?_⟩
  rw [he]
  exact Heap.get?_push_size _ rfl
end Mine

end

/- PF5 -/
section
open PySem PySem.W PyProof.Rows PySem.Calls
set_option Elab.async false
set_option maxRecDepth 100000
namespace Mine

/-- the rows of a text -/
def cut : List Nat → List (List Nat)
  | [] => [[]]
  | c :: l => if c = 10 then [] :: cut l else match cut l with | r :: rs => (c :: r) :: rs | [] => [[c]]

theorem offs_cut : ∀ (l : List Nat) (a b : Nat), 1 ≤ a → ∃ r rs, cut l = r :: rs ∧ offs l (a, b) = (a + rs.length, (if rs = [] then b else 1) + (((r :: rs).getLast?).getD []).length)
  | [], a, b, _ => ⟨[], [], rfl, rfl⟩
  | c :: l, a, b, ha => by
    have e : offs (c :: l) (a, b) = offs l (if c = 10 then (a + 1, 1) else (a, b + 1)) := rfl
    by_cases hc : c = 10
    · obtain ⟨r, rs, h1, h2⟩ := offs_cut l (a + 1) 1 (by omega)
      refine ⟨[], r :: rs, by unfold cut; rw [if_pos hc, h1], ?_⟩
      rw [e, if_pos hc, h2, List.getLast?_cons_cons]
      rw [if_neg (by simp : ¬ (r :: rs = []))]
      have : (if rs = [] then (1 : Nat) else 1) = 1 := by split <;> rfl
      rw [this]
      congr 1
      simp; omega
    · obtain ⟨r, rs, h1, h2⟩ := offs_cut l a (b + 1) ha
      refine ⟨c :: r, rs, by unfold cut; rw [if_neg hc, h1], ?_⟩
      rw [e, if_neg hc, h2]
      cases rs with
      | nil => simp; omega
      | cons x xs => simp [List.getLast?_cons_cons]
end Mine

end

/- PF6 -/
section
open PySem PySem.W PyProof.Rows PySem.Calls
set_option Elab.async false
set_option maxRecDepth 100000
namespace Mine

/-- the pieces, by their number -/
def piece : Nat → List Nat
  | 0 => [32] | 1 => [9] | 2 => [10] | 3 => [13, 10] | 4 => [8232] | 5 => [160] | 6 => [47, 47, 120] | 7 => [47, 42, 42, 47]
  | 8 => [47, 42, 32, 120, 10, 42, 47] | 9 => [47, 42] | 10 => [47, 42, 32, 42] | _ => [47, 47, 10]
def open? : Nat → Bool
  | 6 => true | 9 => true | 10 => true | _ => false
/-- what the law's loop makes of the drawn numbers -/
def gapsOf : List Nat → List Nat
  | [] => []
  | i :: r => if open? i then piece i else piece i ++ gapsOf r

theorem gap_of : ∀ (l : List Nat), (∀ i ∈ l, i < 12) → ∃ n, n ≤ 2 * l.length ∧ Gap n (gapsOf l)
  | [], _ => ⟨0, by simp, .done⟩
  | i :: r, h => by
    obtain ⟨n, hn, g⟩ := gap_of r fun j hj => h j (.tail _ hj)
    have hi := h i (.head _)
    simp only [List.length_cons]
    match i, hi with
    | 0, _ => exact ⟨n + 1, by omega, .space g⟩
    | 1, _ => exact ⟨n + 1, by omega, .tab g⟩
    | 2, _ => exact ⟨n + 1, by omega, .lf g⟩
    | 3, _ => exact ⟨n + 1, by omega, .crlf g⟩
    | 4, _ => exact ⟨n + 1, by omega, .ls g⟩
    | 5, _ => exact ⟨n + 1, by omega, .nbsp g⟩
    | 6, _ => exact ⟨1, by omega, .line⟩
    | 7, _ => exact ⟨n + 1, by omega, .block0 g⟩
    | 8, _ => exact ⟨n + 1, by omega, .block3 g⟩
    | 9, _ => exact ⟨0, by omega, .open1⟩
    | 10, _ => exact ⟨0, by omega, .open2⟩
    | 11, _ => exact ⟨n + 2, by omega, .line0 g⟩
    | k + 12, hk => exact absurd hk (by omega)
end Mine

end

/- PT3 -/
section
open PySem PySem.W PyProof.Rows PySem.Calls
set_option Elab.async false
set_option maxRecDepth 100000
namespace Mine

def U.wc (u : U) (c : Cx) : U := { u with c := c }

section
variable {u : U} {g g' h h' : Heap} {N : List Addr}

theorem TInv.wc (I : TInv u g N h) (c : Cx) : TInv (u.wc c) g N h := ⟨⟨I.b.k, I.b.t, I.b.cd⟩, I.st, I.sz, I.al, I.fr, I.tab⟩
theorem TInv.unwc {c : Cx} (I : TInv (u.wc c) g N h) : TInv u g N h := ⟨⟨I.b.k, I.b.t, I.b.cd⟩, I.st, I.sz, I.al, I.fr, I.tab⟩

theorem TabOk.notCode {cs : List Addr} {P : Addr} {q : Str} (x : TabOk h cs P q) : ∃ o, h.get? P = some o ∧ NotCode o := by
  obtain ⟨ps, e', ht, _⟩ := x
  refine ⟨_, e', fun vs qn t d => ?_⟩
  cases d
  have := triples_no_str ht qn t
  rwa [Array.getElem?_toList] at this

theorem TInv.push (I : TInv u g N h) (o : Obj) : TInv u g N (h.push o) := I.ext (fun b o' e => Heap.get?_push_of_some _ e) (by rw [Heap.size_push]; omega)

theorem TInv.priv (I : TInv u g N h) {a : Addr} (hz : g.objs.size ≤ a) (hf : h.get? a = none) (k : ∀ b o, h.get? b = some o → h'.get? b = some o) (z : h.objs.size ≤ h'.objs.size) (ha : ∃ o, h'.get? a = some o) : TInv u g (a :: N) h' := by
  have I' := I.ext k z
  obtain ⟨cs, t, f⟩ := I.tab
  refine ⟨I'.b, I'.st, I'.sz, fun b hb => ?_, fun b hb => ?_, cs, fun q hq => (t q hq).keep fun a _ o e => k a o e, fun q hq => ⟨(f q hq).1, fun m => ?_⟩⟩
  · rcases List.mem_cons.mp hb with rfl | hb
    · exact ha
    · exact I'.al b hb
  · rcases List.mem_cons.mp hb with rfl | hb
    · exact Heap.get?_none_of_le hz
    · exact I'.fr b hb
  · rcases List.mem_cons.mp m with e | m
    · obtain ⟨ps, e2, _⟩ := t q hq; rw [e, hf] at e2; cases e2
    · exact (f q hq).2 m

theorem TInv.store (I : TInv u g N h) {a : Addr} (ha : a ∈ N) {o : Obj} (e : h.get? a = some o) (hn : NotCode o) (k : ∀ b, b ≠ a → ∀ o, h.get? b = some o → h'.get? b = some o) (z : g.objs.size ≤ h'.objs.size) (al : ∃ o, h'.get? a = some o) : TInv u g N h' := by
  obtain ⟨cs, t, f⟩ := I.tab
  refine ⟨I.b, fun b o' e' => k b (fun q => ?_) o' (I.st b o' e'), z, fun b hb => ?_, I.fr, cs, fun q hq => ?_, f⟩
  · rw [q, I.fr a ha] at e'; cases e'
  · by_cases q : b = a
    · rw [q]; exact al
    · obtain ⟨o', e'⟩ := I.al b hb; exact ⟨o', k b q o' e'⟩
  · obtain ⟨ps, h1, h2, h3⟩ := t q hq
    refine ⟨ps, k _ (show q.2.1 ≠ a from fun q2 => (f q hq).2 (by rw [q2]; exact ha)) _ h1, h2, fun pos cv e4 => ?_⟩
    obtain ⟨b, m, e1, e2⟩ := h3 pos cv e4
    refine ⟨b, m, e1, codeRec_keep e2 e1 (k b fun q2 => ?_)⟩
    obtain ⟨c', o', vs, t, r1, r2, r3, r4⟩ := e2
    subst e1; cases r1
    rw [q2, e] at r2; cases r2
    exact hn vs _ t r3 r4

theorem TInv.sub (I : TInv u g N h) {N' : List Addr} (e : ∀ a ∈ N', a ∈ N) : TInv u g N' h :=
  let ⟨cs, t, f⟩ := I.tab
  ⟨I.b, I.st, I.sz, fun b hb => I.al b (e b hb), fun b hb => I.fr b (e b hb), cs, t, fun q hq => ⟨(f q hq).1, fun m => (f q hq).2 (e _ m)⟩⟩
theorem TInv.drop {a : Addr} (I : TInv u g (a :: N) h) : TInv u g N h := I.sub fun b hb => .tail _ hb

theorem TInv.freeze' (I : TInv u g N h) : ∃ g', TInv u g' [] h ∧ g.StaysIn g' ∧ g'.objs.size = h.objs.size ∧ (∀ a ∈ N, ∀ o, h.get? a = some o → g'.get? a = some o) ∧
    (∀ h', TInv u g' [] h' → TInv u g N h') ∧ (∀ b o, g'.get? b = some o → h.get? b = some o) ∧ (∀ a o, h.get? a = some o → a ∉ u.tabs.map (·.2.1) → g'.get? a = some o) := by
  obtain ⟨cs, t, f⟩ := I.tab
  have hm : ∀ {a}, a ∈ u.tabs.map (·.2.1) → g.get? a = none ∧ a ∉ N := fun m => by
    obtain ⟨q, hq, rfl⟩ := List.mem_map.mp m; exact f q hq
  have st : g.StaysIn (hideAll h (u.tabs.map (·.2.1))) := fun b o e => hideAll_get _ (I.st b o e) fun m => by rw [(hm m).1] at e; cases e
  have hN : ∀ a ∈ N, ∀ o, h.get? a = some o → (hideAll h (u.tabs.map (·.2.1))).get? a = some o := fun a ha o e => hideAll_get _ e fun m => (hm m).2 ha
  refine ⟨hideAll h (u.tabs.map (·.2.1)), ⟨I.b.keeps st, fun b o e => of_hideAll _ e, Nat.le_of_eq (hideAll_size _ _), (fun a ha => nomatch ha), (fun a ha => nomatch ha), cs, t, fun q hq => ⟨hideAll_none _ (List.mem_map_of_mem hq), fun m => nomatch m⟩⟩, st, hideAll_size _ _, hN, fun h' J => ?_, fun b o e => of_hideAll _ e, fun a o e hn => hideAll_get _ e hn⟩
  obtain ⟨cs', t', f'⟩ := J.tab
  refine ⟨I.b, fun b o e => J.st b o (st b o e), Nat.le_trans I.sz (Nat.le_trans (Nat.le_of_eq (hideAll_size _ _).symm) J.sz), fun a ha => ?_, I.fr, cs', t', fun q hq => ⟨?_, fun m => ?_⟩⟩
  · obtain ⟨o, e⟩ := I.al a ha; exact ⟨o, J.st _ _ (hN a ha o e)⟩
  · exact (f q hq).1
  · exact (f q hq).2 m

theorem TInv.mono (J : TInv u g' [] h) (st : g.StaysIn g') (z : g.objs.size ≤ g'.objs.size) (B : Bs u g) : TInv u g [] h := by
  obtain ⟨cs, t, f⟩ := J.tab
  refine ⟨B, fun b o e => J.st b o (st b o e), Nat.le_trans z J.sz, (fun a ha => nomatch ha), (fun a ha => nomatch ha), cs, t, fun q hq => ⟨?_, fun m => nomatch m⟩⟩
  cases e : g.get? q.2.1 with
  | none => rfl
  | some o => have := st _ _ e; rw [(f q hq).1] at this; cases this
end

section
variable {u : U} {A : Around} {s : Shared} {g : Heap} {R : Result → Shared → Prop} {f : Addr} {fd : FuncData} {args : Args} {body : List Stmt} {binds : List (Str × Value)} {d : Nat} {N : List Addr}

theorem enterE (hf : ∃ od sl, u.K.lookup f = some ⟨.type "function", od, .func fd, sl⟩) (hb : fd.body = .stmts body) (hcd : codeIn u.K fd.code fd.qualname = true)
    (hbind : BindsTo s fd args binds) (hcell : ∀ x ∈ fd.scope.names, x.2 ≠ .cell) (hloc : ∀ x ∈ binds, fd.scope.names.lookup x.1 = some .local)
    (hco : fd.scope.isCoroutine = false) (hgen : fd.scope.isGenerator = false) (hk : fd.scope.kind = .function)
    (hR : Room A (d + 1)) (I : TInv u g N s.heap)
    (h : ∀ L h₁, TInv u g (L :: N) h₁ → Fr g L h₁ (fun y => binds.reverse.lookup y) → Fr s.heap L h₁ (fun y => binds.reverse.lookup y) →
      wpAny (model u.prog u.w) (A.deeper (callEnv fd L f)) (execs body (callEnv fd L f)) (fun fl s' => R (.ok (.ret (match fl with | .ret v => v | _ => .none))) s')
        (fun e s' => wpAny (model u.prog u.w) (A.deeper (callEnv fd L f)) (leaving (callEnv fd L f) e) (fun _ s'' => R (.error e) s'') (fun e' s'' => R (.error e') s'') s') { s with heap := h₁, toks := s.toks + binds.length }) :
    codeAny (model u.prog u.w) A (.call (.ref f) args) R s := by
  obtain ⟨od, sl, e⟩ := hf
  refine codeAny_call_def hR.dlt (I.K _ _ e) rfl I.T.nolimit (codeRec_of I.K hcd) hb hbind hcell hloc (fun h₁ hns hk₁ => ?_) hco hgen hk
  have hlt := hns.lt
  exact h s.heap.objs.size h₁ (I.priv I.sz (Heap.get?_none_of_le (Nat.le_refl _)) hk₁ (Nat.le_of_lt hlt) (let ⟨o, e, _⟩ := NotCode.ns hns; ⟨o, e⟩)) ⟨hns, fun b o e => hk₁ b o (I.st b o e), I.sz⟩ ⟨hns, fun b o e => hk₁ b o e, Nat.le_refl _⟩

theorem enterT (hf : ∃ od sl, u.K.lookup f = some ⟨.type "function", od, .func fd, sl⟩) (hb : fd.body = .stmts body) (hcd : codeIn u.K fd.code fd.qualname = true)
    (hbind : BindsTo s fd args binds) (hcell : ∀ x ∈ fd.scope.names, x.2 ≠ .cell) (hloc : ∀ x ∈ binds, fd.scope.names.lookup x.1 = some .local)
    (hco : fd.scope.isCoroutine = false) (hgen : fd.scope.isGenerator = false) (hk : fd.scope.kind = .function)
    (hR : Room A (d + 1)) (I : TInv u g N s.heap)
    (h : ∀ L h₁, TInv u g (L :: N) h₁ → Fr g L h₁ (fun y => binds.reverse.lookup y) → Fr s.heap L h₁ (fun y => binds.reverse.lookup y) →
      wpAny (model u.prog u.w) (A.deeper (callEnv fd L f)) (execs body (callEnv fd L f)) (fun fl s' => R (.ok (.ret (match fl with | .ret v => v | _ => .none))) s') (fun _ _ => False) { s with heap := h₁, toks := s.toks + binds.length }) :
    codeAny (model u.prog u.w) A (.call (.ref f) args) R s :=
  enterE hf hb hcd hbind hcell hloc hco hgen hk hR I fun L h₁ I₁ F₁ F₁' => wpAny_mono (h L h₁ I₁ F₁ F₁') (fun _ _ x => x) fun _ _ x => x.elim
end

section
variable {u : U} {A : Around} {E : Value → Shared → Prop} {s : Shared} {g : Heap} {N : List Addr} {L : Addr} {m : Str → Option Value} {name : Str} {f : Addr} {fd : FuncData} {x : Str} {v : Value} {pos : Pos}

theorem stT {Q : Unit → Shared → Prop} (F : Fr g L s.heap m) (I : TInv u g (L :: N) s.heap) (hk : fd.scope.kind = .function) (hx : fd.scope.names.lookup x = some .local)
    (h : ∀ h', TInv u g (L :: N) h' → Fr g L h' (fun y => if y = x then some v else m y) → (∀ b, b ≠ L → ∀ o, s.heap.get? b = some o → h'.get? b = some o) → Q () { s with heap := h', toks := s.toks + 1 }) :
    wpAny (model u.prog u.w) A (storeName (callEnv fd L f) x v) Q E s := by
  refine wpAny_storeName_local (env := callEnv fd L f) hx F.ns (fun h' hn hs => ?_) (by show (fd.scope.kind == .class || (fd.scope.kind == .module && _)) = false; rw [hk]; rfl)
  obtain ⟨o, e, nc⟩ := frame_notCode F
  obtain ⟨o', e', _⟩ := NotCode.ns hn
  have k : ∀ b, b ≠ L → ∀ o, s.heap.get? b = some o → h'.get? b = some o := fun b hb o e => (hs.2 b hb).trans e
  refine h h' (I.store (.head _) e nc k (Nat.le_trans I.sz (Nat.le_of_eq hs.1.symm)) ⟨o', e'⟩) (F.set hn hs) k

theorem nameBT {Q : Value → Shared → Prop} (I : TInv u g N s.heap) (hk : fd.scope.kind = .function) (hx : fd.scope.names.lookup x = some .globalImplicit) (hg : fd.globals = mainGlobals) (hb : fd.builtins = builtinsNs)
    (e : nsIn u.K mainGlobals x = some none) (hv : bootBuiltins x = some v) (hn : x ≠ "__name__") (h : Q v s) (hd : (x == ("__debug__" : Str)) = false := by decide) :
    wpAny (model u.prog u.w) A (eval (.Name x pos) (callEnv fd L f)) Q E s :=
  have T := I.T
  Name_function_global hk hx (loadGlobal_builtin (env := callEnv fd L f) (show s.heap.Ns fd.globals u.mg from hg ▸ T.g) (mg_none_of I.K T.g e) (show s.heap.Ns fd.builtins u.mb from hb ▸ T.b) ((T.builtins x hn).trans hv) h) hd

theorem all_newsT {g h : Heap} {L : Addr} {m : Str → Option Value} (F : Fr g L h m) : News g L h (restOf g h L L) := by
  intro p hp
  obtain ⟨h1, h2, h3, h4⟩ := mem_restOf.mp hp
  exact ⟨h1, h3, h4⟩

theorem same_newsT (F : Fr g L s.heap m) (I : TInv u g (L :: N) s.heap) : News g L s.heap (restOf g s.heap L L) ∧
    ∀ h' m', Fr g L h' m' → News g L h' (restOf g s.heap L L) → TInv u g (L :: N) h' ∧ ∀ b, b ≠ L → ∀ o, s.heap.get? b = some o → h'.get? b = some o := by
  refine ⟨all_newsT F, fun h' m' F' N' => ?_⟩
  have k : ∀ b, b ≠ L → ∀ o, s.heap.get? b = some o → h'.get? b = some o := fun b h2 o' e => by
    cases q : g.get? b with
    | some o2 => have := I.st _ _ q; rw [e] at this; cases this; exact F'.keep _ _ q
    | none => exact (N' (b, o') (mem_restOf.mpr ⟨e, h2, h2, q⟩)).1
  obtain ⟨oL, eL, nL⟩ := frame_notCode F
  obtain ⟨oL', eL', _⟩ := frame_notCode F'
  exact ⟨I.store (.head _) eL nL k (Nat.le_trans F'.above (Nat.le_of_lt F'.ns.lt)) ⟨_, eL'⟩, k⟩

/-- what gives a value, from a frame -/
theorem runT {V : Heap → Value → Prop} {R : Result → Shared → Prop} {cd : Code} (hr : ∀ g', g.StaysIn g' → g'.StaysIn s.heap → (∀ a o, s.heap.get? a = some o → a ∉ u.tabs.map (·.2.1) → g'.get? a = some o) → TInv u g' [] s.heap → codeAny (model u.prog u.w) A cd (fun rr s' => ∃ v, rr = .ok (.ret v) ∧ V s'.heap v ∧ ∃ h' tk', s' = { s with heap := h', toks := tk' } ∧ TInv u g' [] h') s)
    (F : Fr g L s.heap m) (I : TInv u g (L :: N) s.heap)
    (h : ∀ v h' tk', V h' v → TInv u g (L :: N) h' → Fr g L h' m → (∀ a ∈ N, ∀ o, s.heap.get? a = some o → h'.get? a = some o) → (∀ a o, s.heap.get? a = some o → a ∉ u.tabs.map (·.2.1) → h'.get? a = some o) → R (.ok (.ret v)) { s with heap := h', toks := tk' }) :
    codeAny (model u.prog u.w) A cd R s := by
  obtain ⟨g', J, st, zz, al, back, up, rest⟩ := I.freeze'
  refine codeAny_mono (hr g' st up rest J) fun r s' hd => ?_
  obtain ⟨v, rfl, hv, h', tk', rfl, J'⟩ := hd
  exact h v h' tk' hv (back h' J') (Fr.lift F st (al L (.head _)) J'.st) (fun a ha o e => J'.st _ _ (al a (.tail _ ha) o e)) fun a o e hn => J'.st _ _ (rest a o e hn)
end
end Mine

end

/- PT4 -/
section
open PySem PySem.W PyProof.Rows PySem.Calls
set_option Elab.async false
set_option maxRecDepth 100000
namespace Mine

theorem fillT4_ (_ : PySem.Challenge.rw_bd6020_01 = PySem.Challenge.rw_bd6020_01) (_ : Mine.hd.heap_39 = Mine.hd.heap_39) : True := by
  have h : PySem.Challenge.rw_bd6020_01 = PySem.Challenge.rw_bd6020_01 ∧ Mine.hd.heap_39 = Mine.hd.heap_39 := by
    k_fill
    exact ⟨rfl, rfl⟩
  trivial
local macro_rules | `(tactic| walk_at "m.is") => `(tactic| first | (rw [Is.K (by assumption), Is.C (by assumption)]; k_is) | (rw [Is.K (by assumption)]; k_is))

theorem dictOf_notCode {es : List DictEntry} {n : Nat} : NotCode (dictOf es n) := by intro vs q t d; cases d

section
variable {u : U} {A : Around} {E : Value → Shared → Prop} {s : Shared} {g : Heap} {N : List Addr} {L : Addr} {m : Str → Option Value} {name : Str} {v : Value} {x dx : Addr} {es : List DictEntry} {es' : Tok → List DictEntry} {n n' : Nat}

/-- an attribute of an object in the making is stored -/
theorem setT {Q : Unit → Shared → Prop} (kn : Kn u) (F : Fr g L s.heap m) (I : TInv u g (L :: N) s.heap) (hx : s.heap.get? x = some (instObj u.C dx)) (hdN : dx ∈ N) (hd : s.heap.get? dx = some (dictOf es n)) (hdL : dx ≠ L)
    (ht : takerIn u.K u.C name = some none) (hl : (getL name es).isSome = true) (e : ∀ tk, (putL name (PyData.keyHash u.w.params name) (.str name tk) v es, putN name es n) = (es' tk, n')) (hz : ∀ tk, (es' tk).length ≤ 1000)
    (h : ∀ h' tk, TInv u g (L :: N) h' → Fr g L h' m → h'.get? dx = some (dictOf (es' tk) n') → (∀ b, b ≠ dx → b ≠ L → ∀ o, s.heap.get? b = some o → h'.get? b = some o) → Q () { s with heap := h', toks := s.toks + 2 }) :
    wpAny (model u.prog u.w) A (setAttr (.ref x) name v) Q E s := by
  have J : PySem.W.InstAt s.heap x (instObj u.C dx) u.C (some (dictOf es n)) := ⟨hx, rfl, rfl, hd⟩
  have gd : g.get? dx = none := I.fr dx (.tail _ hdN)
  refine set_dict F I.b.k (all_news F hd gd hdL) J rfl kn.sa kn.po ht kn.hd hl (e _) (.head fun p hp => (mem_restOf.mp hp).2.1) (hz _) fun h' F' N' => ?_
  obtain ⟨e1, k⟩ := of_news F' N' I.st
  obtain ⟨oL, eL, nL⟩ := frame_notCode F
  obtain ⟨oL', eL', _⟩ := frame_notCode F'
  obtain ⟨cs, t, f⟩ := I.tab
  refine h h' _ ⟨I.b, F'.keep, Nat.le_trans F'.above (Nat.le_of_lt F'.ns.lt), fun a ha => ?_, I.fr, cs, fun q hq => ?_, f⟩ F' e1 k
  · by_cases q : a = L
    · rw [q]; exact ⟨_, eL'⟩
    · by_cases q2 : a = dx
      · rw [q2]; exact ⟨_, e1⟩
      · obtain ⟨o, e⟩ := I.al a ha; exact ⟨o, k a q2 q o e⟩
  · have hP := (f q hq).2
    obtain ⟨ps, h1, h2, h3⟩ := t q hq
    refine ⟨ps, k _ (show q.2.1 ≠ dx from fun q2 => hP (by rw [q2]; exact .tail _ hdN)) (show q.2.1 ≠ L from fun q2 => hP (by rw [q2]; exact .head _)) _ h1, h2, fun pos cv e4 => ?_⟩
    obtain ⟨b, mb, e5, e6⟩ := h3 pos cv e4
    subst e5
    exact ⟨b, mb, rfl, codeRec_keep e6 rfl (k b (code_ne e6 hd dictOf_notCode) (code_ne e6 eL nL))⟩

theorem getT {Q : Value → Shared → Prop} {expr : Bool} {r : Value} (kn : Kn u) (I : TInv u g N s.heap) (hx : s.heap.get? x = some (instObj u.C dx)) (hd : s.heap.get? dx = some (dictOf es n)) (hn : findIn u.K (.ref u.C) name = some none)
    (hg : getL name es = some (some r)) (hr : handedIn r = true) (h : Q r { s with toks := s.toks + 1 }) : wpAny (model u.prog u.w) A (getAttr (.ref x) name expr) Q E s :=
  get_value I.K ⟨hx, rfl, rfl, hd⟩ kn.ga (findObj_own kn.hd hn rfl (by rw [lookIn_dict]; exact hg)) hr h
end

theorem TInv.toP {u : U} {g h : Heap} {N : List Addr} {c : Cx} {C : Addr} (I : TInv u g (c.x :: c.dx :: c.l :: N) h) (hC : u.C = C) (hx : h.get? c.x = some (instObj C c.dx)) {σ : PS}
    (hd : ∃ v tp tq, σ.val.is v ∧ h.get? c.dx = some (dictOf (pdict u.w.params c v (.int σ.pos tp) (.bool σ.failed) (.int σ.err tq)) 10)) (hl : ∃ n, h.get? c.l = some (PySem.W.listOf #[] n)) (hs : σ.sc = []) (hN : c.x ∉ N ∧ c.dx ∉ N ∧ c.l ∉ N) :
    PInv (u.wc c) g N h σ := by
  obtain ⟨cs, t, f⟩ := I.tab
  refine ⟨⟨I.b.k, I.b.t, I.b.cd⟩, I.st, I.sz, fun a ha => I.al a (.tail _ (.tail _ (.tail _ ha))), fun a ha => I.fr a (.tail _ (.tail _ (.tail _ ha))), ⟨[], [], aliveIn h cs⟩, ⟨?_, hd, hl, ?_, fun q hq => (t q hq).alive, (fun m => nomatch m), List.nodup_nil, (fun a m => nomatch m), fun a m m2 => ?_⟩, fun a m => ?_⟩
  · show h.get? c.x = some (instObj u.C c.dx); rw [hC]; exact hx
  · rw [hs]; exact .nil
  · obtain ⟨_, q', cr⟩ := mem_aliveIn.mp m
    rcases mem_foot.mp m2 with q | q | q | q | q | q
    · exact code_ne cr hx (by intro vs q t d; cases d) q
    · obtain ⟨v, tp, tq, _, e⟩ := hd; exact code_ne cr e dictOf_notCode q
    · obtain ⟨n, e⟩ := hl; exact code_ne cr e (by intro vs q t d; cases d) q
    · cases q
    · cases q
    · obtain ⟨r, hr, e⟩ := List.mem_map.mp q
      obtain ⟨o, e2, nc⟩ := (t r hr).notCode
      exact code_ne cr e2 nc e.symm
  · rcases mem_foot.mp m with q | q | q | q | q | q
    · exact ⟨I.fr _ (q ▸ .head _), q ▸ hN.1⟩
    · exact ⟨I.fr _ (q ▸ .tail _ (.head _)), q ▸ hN.2.1⟩
    · exact ⟨I.fr _ (q ▸ .tail _ (.tail _ (.head _))), q ▸ hN.2.2⟩
    · cases q
    · cases q
    · obtain ⟨r, hr, rfl⟩ := List.mem_map.mp q
      exact ⟨(f r hr).1, fun z => (f r hr).2 (.tail _ (.tail _ (.tail _ z)))⟩
end Mine

end

/- PT5 -/
section
open PySem PySem.W PyProof.Rows PySem.Calls
set_option Elab.async false
set_option maxRecDepth 100000
namespace Mine

theorem fillT5_ (_ : PySem.Challenge.rw_bd6020_01 = PySem.Challenge.rw_bd6020_01) (_ : Mine.hd.heap_39 = Mine.hd.heap_39) : True := by
  have h : PySem.Challenge.rw_bd6020_01 = PySem.Challenge.rw_bd6020_01 ∧ Mine.hd.heap_39 = Mine.hd.heap_39 := by
    k_fill
    exact ⟨rfl, rfl⟩
  trivial
local macro_rules | `(tactic| walk_at "m.is") => `(tactic| first | (rw [Is.K (by assumption), Is.C (by assumption)]; k_is) | (rw [Is.K (by assumption)]; k_is))

/-- an object that is made and never touched again -/
theorem TInv.newObj {u : U} {g h : Heap} {N : List Addr} {L x dx : Addr} {es : List DictEntry} {n : Nat} {m : Str → Option Value} (I : TInv u g (L :: N) h) (F : Fr g L h m) (o : Obj) (hf : o.isFreed = false) (hx : h.get? x = some (instObj u.C dx)) (hd : h.get? dx = some (dictOf es n)) :
    TInv u g (L :: N) (h.push o) ∧ Fr g L (h.push o) m ∧ (h.push o).get? x = some (instObj u.C dx) ∧ (h.push o).get? dx = some (dictOf es n) ∧ (h.push o).get? h.objs.size = some o ∧ ∀ b o', h.get? b = some o' → (h.push o).get? b = some o' :=
  ⟨I.push o, F.push o, Heap.get?_push_of_some _ hx, Heap.get?_push_of_some _ hd, Heap.get?_push_size _ hf, fun _ _ e => Heap.get?_push_of_some _ e⟩

abbrev listNil : Obj := { cls := .type "list", data := .seq #[] }
theorem list_ne {h : Heap} {a b : Addr} {es : List DictEntry} {n : Nat} (e : h.get? a = some listNil) (e' : h.get? b = some (dictOf es n)) : a ≠ b := fun q => by
  rw [q, e'] at e; injection e with e; injection e with _ _ e _; cases e
theorem list_ne_frame {g h : Heap} {a L : Addr} {m : Str → Option Value} (e : h.get? a = some listNil) (F : Fr g L h m) : a ≠ L := fun q => by
  obtain ⟨o, es, ep, e2, hd, _⟩ := F.ns
  rw [q, e2] at e; injection e with e; rw [e] at hd; cases hd
theorem TInv.add {u : U} {g h : Heap} {N : List Addr} {a : Addr} (I : TInv u g N h) (hg : g.get? a = none) (ha : h.get? a = some listNil) : TInv u g (a :: N) h := by
  obtain ⟨cs, t, f⟩ := I.tab
  refine ⟨I.b, I.st, I.sz, fun b hb => ?_, fun b hb => ?_, cs, t, fun q hq => ⟨(f q hq).1, fun m => ?_⟩⟩
  · rcases List.mem_cons.mp hb with rfl | hb
    · exact ⟨_, ha⟩
    · exact I.al b hb
  · rcases List.mem_cons.mp hb with rfl | hb
    · exact hg
    · exact I.fr b hb
  · rcases List.mem_cons.mp m with e | m
    · obtain ⟨ps, e2, _⟩ := t q hq; rw [e, ha] at e2; injection e2 with e2; injection e2 with t1; cases t1
    · exact (f q hq).2 m

theorem lenT {u : U} {A : Around} {E : Value → Shared → Prop} {s : Shared} {T : Str} {tm : Tok} {Q : Value → Shared → Prop} (hT : T.length ≤ 100000) (h : ∀ te tk, Q (.int (T.length : Int) te) { s with toks := tk }) :
    wpAny (model u.prog u.w) A (call (.builtin "len") [.str T tm]) Q E s := PyProof.Rows.len_str (by omega) (h _ _)

set_option maxHeartbeats 4000000 in
theorem leaf_init {u : U} (hu : Is2 u) (kn : Kn u) {g : Heap} {A : Around} {s : Shared} {x dx : Addr} {T : Str} {tm tf tp : Tok} {p : Nat} (hR : Room A 1) (I : TInv u g [x, dx] s.heap) (hx : s.heap.get? x = some (instObj u.C dx)) (hd : s.heap.get? dx = some (dictOf [] 0)) (hT : T.length ≤ 100000) :
    codeAny (model u.prog u.w) A (.call (.ref 58) ⟨[.ref x, .str T tm, .str "<string>" tf], [("pos", .int p tp)]⟩) (fun rr s' => rr = .ok (.ret .none) ∧ ∃ c h' tk', s' = { s with heap := h', toks := tk' } ∧ c.x = x ∧ c.T = T ∧ (∃ tf, c.fn = .str "<string>" tf) ∧ PInv (u.wc c) g [] h' ⟨.none, p, false, p, []⟩) s := by
  have hu1 := hu.toIs
  have hxd : x ≠ dx := fun q => by rw [q, hd] at hx; injection hx with hx; injection hx with t1 _ _ _; cases t1
  have hxN := I.al
  refine' enterT (d := 0) (binds := [(("self" : Str), .ref x), (("msg" : Str), .str T tm), (("fname" : Str), .str "<string>" tf), (("pos" : Str), .int p tp)]) ⟨none, #[], ?hf⟩ ?hb ?hcd ?hbind ?hcell ?hloc ?hco ?hgen ?hk hR I ?_
  case hf => rw [hu1.K]; k_is
  case hb => rfl
  case hcd => rw [hu1.K]; k_is
  case hbind => exact binds_K I.K rfl (by rw [hu1.K]; k_is) rfl rfl rfl
  case hcell => decide
  case hloc => exact locs rfl
  case hco => rfl
  case hgen => rfl
  case hk => rfl
  intro L h₀ I₀ F₀ F₀'
  (try dsimp only)
  have xL : x ≠ L := fun q => Nat.lt_irrefl L (Nat.lt_of_lt_of_le (by rw [← q]; exact Heap.lt_size hx) F₀'.above)
  have dL : dx ≠ L := fun q => Nat.lt_irrefl L (Nat.lt_of_lt_of_le (by rw [← q]; exact Heap.lt_size hd) F₀'.above)
  have dN : dx ∈ [x, dx] := .tail _ (.head _)
  have x₀ := F₀'.keep _ _ hx
  have d₀ := F₀'.keep _ _ hd
  have n0 : takerIn u.K u.C "msg" = some none := by walk_at "m.is"
  have n1 : takerIn u.K u.C "end" = some none := by walk_at "m.is"
  have n2 : takerIn u.K u.C "fname" = some none := by walk_at "m.is"
  have n3 : takerIn u.K u.C "val" = some none := by walk_at "m.is"
  have n4 : takerIn u.K u.C "pos" = some none := by walk_at "m.is"
  have n5 : takerIn u.K u.C "failed" = some none := by walk_at "m.is"
  have n6 : takerIn u.K u.C "errpos" = some none := by walk_at "m.is"
  have n7 : takerIn u.K u.C "_scopes" = some none := by walk_at "m.is"
  have n8 : takerIn u.K u.C "_cache" = some none := by walk_at "m.is"
  have n9 : takerIn u.K u.C "_global_vars" = some none := by walk_at "m.is"
  have nm : findIn u.K (.ref u.C) "msg" = some none := by walk_at "m.is"
  have nl : nsIn u.K mainGlobals "len" = some none := by walk_at "m.is"
  (try dsimp only)
  refine wpAny_execs_cons ?_
  refine plainObj_wpAny_Assign_Attribute ?_ (by rfl)
  refine nameL (s := ⟨h₀, s.gens, s.drawn, _, s.os⟩) F₀ rfl rfl rfl ?_
  refine nameL (s := ⟨h₀, s.gens, s.drawn, _, s.os⟩) F₀ rfl rfl rfl ?_
  refine setT (s := ⟨h₀, s.gens, s.drawn, _, s.os⟩) (es' := fun tk => [ent u.w.params "msg" tk (.str T tm)]) (n' := 1) kn F₀ I₀ x₀ dN d₀ dL n0 rfl (fun tk => rfl) (fun tk => by simp) fun h₁ t0 I₁ F₁ d₁ k₁ => ?_
  have x₁ := k₁ x hxd xL _ x₀
  (try dsimp only)
  refine wpAny_execs_cons ?_
  refine plainObj_wpAny_Assign_Attribute ?_ (by rfl)
  refine Call_ (nameBT (s := ⟨h₁, s.gens, s.drawn, _, s.os⟩) I₁ rfl rfl rfl rfl nl (by boot_by_name) (by decide) ?_)
  refine callWith_method1 (spliced_more (Attribute_any_ (nameL (s := ⟨h₁, s.gens, s.drawn, _, s.os⟩) F₁ rfl rfl rfl (getT (s := ⟨h₁, s.gens, s.drawn, _, s.os⟩) kn I₁ x₁ d₁ nm rfl rfl ?_))))
  refine spliced_none (lenT hT fun te tke => ?_)
  (try dsimp only)
  refine nameL (s := ⟨h₁, s.gens, s.drawn, _, s.os⟩) F₁ rfl rfl rfl ?_
  refine setT (s := ⟨h₁, s.gens, s.drawn, _, s.os⟩) (es' := fun tk => [ent u.w.params "msg" t0 (.str T tm), ent u.w.params "end" tk (.int (T.length : Int) te)]) (n' := 2) kn F₁ I₁ x₁ dN d₁ dL n1 rfl (fun tk => rfl) (fun tk => by simp) fun h₂ t1 I₂ F₂ d₂ k₂ => ?_
  have x₂ := k₂ x hxd xL _ x₁
  (try dsimp only)
  refine wpAny_execs_cons ?_
  refine plainObj_wpAny_Assign_Attribute ?_ (by rfl)
  refine nameL (s := ⟨h₂, s.gens, s.drawn, _, s.os⟩) F₂ rfl rfl rfl ?_
  refine nameL (s := ⟨h₂, s.gens, s.drawn, _, s.os⟩) F₂ rfl rfl rfl ?_
  refine setT (s := ⟨h₂, s.gens, s.drawn, _, s.os⟩) (es' := fun tk => [ent u.w.params "msg" t0 (.str T tm), ent u.w.params "end" t1 (.int (T.length : Int) te), ent u.w.params "fname" tk (.str "<string>" tf)]) (n' := 3) kn F₂ I₂ x₂ dN d₂ dL n2 rfl (fun tk => rfl) (fun tk => by simp) fun h₃ t2 I₃ F₃ d₃ k₃ => ?_
  have x₃ := k₃ x hxd xL _ x₂
  (try dsimp only)
  refine wpAny_execs_cons ?_
  refine plainObj_wpAny_Assign_Attribute ?_ (by rfl)
  refine Constant_none ?_
  refine nameL (s := ⟨h₃, s.gens, s.drawn, _, s.os⟩) F₃ rfl rfl rfl ?_
  refine setT (s := ⟨h₃, s.gens, s.drawn, _, s.os⟩) (es' := fun tk => [ent u.w.params "msg" t0 (.str T tm), ent u.w.params "end" t1 (.int (T.length : Int) te), ent u.w.params "fname" t2 (.str "<string>" tf), ent u.w.params "val" tk .none]) (n' := 4) kn F₃ I₃ x₃ dN d₃ dL n3 rfl (fun tk => rfl) (fun tk => by simp) fun h₄ t3 I₄ F₄ d₄ k₄ => ?_
  have x₄ := k₄ x hxd xL _ x₃
  (try dsimp only)
  refine wpAny_execs_cons ?_
  refine plainObj_wpAny_Assign_Attribute ?_ (by rfl)
  refine nameL (s := ⟨h₄, s.gens, s.drawn, _, s.os⟩) F₄ rfl rfl rfl ?_
  refine nameL (s := ⟨h₄, s.gens, s.drawn, _, s.os⟩) F₄ rfl rfl rfl ?_
  refine setT (s := ⟨h₄, s.gens, s.drawn, _, s.os⟩) (es' := fun tk => [ent u.w.params "msg" t0 (.str T tm), ent u.w.params "end" t1 (.int (T.length : Int) te), ent u.w.params "fname" t2 (.str "<string>" tf), ent u.w.params "val" t3 .none, ent u.w.params "pos" tk (.int p tp)]) (n' := 5) kn F₄ I₄ x₄ dN d₄ dL n4 rfl (fun tk => rfl) (fun tk => by simp) fun h₅ t4 I₅ F₅ d₅ k₅ => ?_
  have x₅ := k₅ x hxd xL _ x₄
  (try dsimp only)
  refine wpAny_execs_cons ?_
  refine plainObj_wpAny_Assign_Attribute ?_ (by rfl)
  refine Constant_bool ?_
  refine nameL (s := ⟨h₅, s.gens, s.drawn, _, s.os⟩) F₅ rfl rfl rfl ?_
  refine setT (s := ⟨h₅, s.gens, s.drawn, _, s.os⟩) (es' := fun tk => [ent u.w.params "msg" t0 (.str T tm), ent u.w.params "end" t1 (.int (T.length : Int) te), ent u.w.params "fname" t2 (.str "<string>" tf), ent u.w.params "val" t3 .none, ent u.w.params "pos" t4 (.int p tp), ent u.w.params "failed" tk (.bool false)]) (n' := 6) kn F₅ I₅ x₅ dN d₅ dL n5 rfl (fun tk => rfl) (fun tk => by simp) fun h₆ t5 I₆ F₆ d₆ k₆ => ?_
  have x₆ := k₆ x hxd xL _ x₅
  (try dsimp only)
  refine wpAny_execs_cons ?_
  refine plainObj_wpAny_Assign_Attribute ?_ (by rfl)
  refine nameL (s := ⟨h₆, s.gens, s.drawn, _, s.os⟩) F₆ rfl rfl rfl ?_
  refine nameL (s := ⟨h₆, s.gens, s.drawn, _, s.os⟩) F₆ rfl rfl rfl ?_
  refine setT (s := ⟨h₆, s.gens, s.drawn, _, s.os⟩) (es' := fun tk => [ent u.w.params "msg" t0 (.str T tm), ent u.w.params "end" t1 (.int (T.length : Int) te), ent u.w.params "fname" t2 (.str "<string>" tf), ent u.w.params "val" t3 .none, ent u.w.params "pos" t4 (.int p tp), ent u.w.params "failed" t5 (.bool false), ent u.w.params "errpos" tk (.int p tp)]) (n' := 7) kn F₆ I₆ x₆ dN d₆ dL n6 rfl (fun tk => rfl) (fun tk => by simp) fun h₇ t6 I₇ F₇ d₇ k₇ => ?_
  have x₇ := k₇ x hxd xL _ x₆
  (try dsimp only)
  refine wpAny_execs_cons ?_
  refine plainObj_wpAny_Assign_Attribute ?_ (by rfl)
  refine List_ (spliced_none (wpAny_newList ?_ (by rw [sizeLine_eq]; simp)))
  have gl : g.get? h₇.objs.size = none := Heap.get?_none_of_le I₇.sz
  obtain ⟨I₈, F₈, x₈, d₈, o7, q₈⟩ := I₇.newObj F₇ { cls := .type "list", data := .seq #[] } rfl x₇ d₇
  (try dsimp only)
  generalize hH7 : h₇.push { cls := .type "list", data := .seq #[] } = h₈ at I₈ F₈ x₈ d₈ o7 q₈ ⊢
  refine nameL (s := ⟨h₈, s.gens, s.drawn, _, s.os⟩) F₈ rfl rfl rfl ?_
  refine setT (s := ⟨h₈, s.gens, s.drawn, _, s.os⟩) (es' := fun tk => [ent u.w.params "msg" t0 (.str T tm), ent u.w.params "end" t1 (.int (T.length : Int) te), ent u.w.params "fname" t2 (.str "<string>" tf), ent u.w.params "val" t3 .none, ent u.w.params "pos" t4 (.int p tp), ent u.w.params "failed" t5 (.bool false), ent u.w.params "errpos" t6 (.int p tp), ent u.w.params "_scopes" tk (.ref h₇.objs.size)]) (n' := 8) kn F₈ I₈ x₈ dN d₈ dL n7 rfl (fun tk => rfl) (fun tk => by simp) fun h₉ t7 I₉ F₉ d₉ k₉ => ?_
  have x₉ := k₉ x hxd xL _ x₈
  have o7 := k₉ _ (list_ne o7 d₈) (list_ne_frame o7 F₈) _ o7
  (try dsimp only)
  refine wpAny_execs_cons ?_
  refine plainObj_wpAny_Assign_Attribute ?_ (by rfl)
  refine wpAny_Dict_empty ?_
  obtain ⟨I₁₀, F₁₀, x₁₀, d₁₀, o8, q₁₀⟩ := I₉.newObj F₉ { cls := .type "dict", data := .dict #[] } rfl x₉ d₉
  (try dsimp only)
  generalize hH8 : h₉.push { cls := .type "dict", data := .dict #[] } = h₁₀ at I₁₀ F₁₀ x₁₀ d₁₀ o8 q₁₀ ⊢
  have o7 := q₁₀ _ _ o7
  refine nameL (s := ⟨h₁₀, s.gens, s.drawn, _, s.os⟩) F₁₀ rfl rfl rfl ?_
  refine setT (s := ⟨h₁₀, s.gens, s.drawn, _, s.os⟩) (es' := fun tk => [ent u.w.params "msg" t0 (.str T tm), ent u.w.params "end" t1 (.int (T.length : Int) te), ent u.w.params "fname" t2 (.str "<string>" tf), ent u.w.params "val" t3 .none, ent u.w.params "pos" t4 (.int p tp), ent u.w.params "failed" t5 (.bool false), ent u.w.params "errpos" t6 (.int p tp), ent u.w.params "_scopes" t7 (.ref h₇.objs.size), ent u.w.params "_cache" tk (.ref h₉.objs.size)]) (n' := 9) kn F₁₀ I₁₀ x₁₀ dN d₁₀ dL n8 rfl (fun tk => rfl) (fun tk => by simp) fun h₁₁ t8 I₁₁ F₁₁ d₁₁ k₁₁ => ?_
  have x₁₁ := k₁₁ x hxd xL _ x₁₀
  have o7 := k₁₁ _ (list_ne o7 d₁₀) (list_ne_frame o7 F₁₀) _ o7
  (try dsimp only)
  refine wpAny_execs_cons ?_
  refine plainObj_wpAny_Assign_Attribute ?_ (by rfl)
  refine wpAny_Dict_empty ?_
  obtain ⟨I₁₂, F₁₂, x₁₂, d₁₂, o9, q₁₂⟩ := I₁₁.newObj F₁₁ { cls := .type "dict", data := .dict #[] } rfl x₁₁ d₁₁
  (try dsimp only)
  generalize hH9 : h₁₁.push { cls := .type "dict", data := .dict #[] } = h₁₂ at I₁₂ F₁₂ x₁₂ d₁₂ o9 q₁₂ ⊢
  have o7 := q₁₂ _ _ o7
  refine nameL (s := ⟨h₁₂, s.gens, s.drawn, _, s.os⟩) F₁₂ rfl rfl rfl ?_
  refine setT (s := ⟨h₁₂, s.gens, s.drawn, _, s.os⟩) (es' := fun tk => [ent u.w.params "msg" t0 (.str T tm), ent u.w.params "end" t1 (.int (T.length : Int) te), ent u.w.params "fname" t2 (.str "<string>" tf), ent u.w.params "val" t3 .none, ent u.w.params "pos" t4 (.int p tp), ent u.w.params "failed" t5 (.bool false), ent u.w.params "errpos" t6 (.int p tp), ent u.w.params "_scopes" t7 (.ref h₇.objs.size), ent u.w.params "_cache" t8 (.ref h₉.objs.size), ent u.w.params "_global_vars" tk (.ref h₁₁.objs.size)]) (n' := 10) kn F₁₂ I₁₂ x₁₂ dN d₁₂ dL n9 rfl (fun tk => rfl) (fun tk => by simp) fun h₁₃ t9 I₁₃ F₁₃ d₁₃ k₁₃ => ?_
  have x₁₃ := k₁₃ x hxd xL _ x₁₂
  have o7 := k₁₃ _ (list_ne o7 d₁₂) (list_ne_frame o7 F₁₂) _ o7
  (try dsimp only)
  refine wpAny_execs_nil ⟨rfl, ⟨x, dx, h₇.objs.size, T, tm, te, .str "<string>" tf, .ref h₉.objs.size, .ref h₁₁.objs.size, t0, t1, t2, t3, t4, t5, t6, t7, t8, t9⟩, h₁₃, _, rfl, rfl, rfl, ⟨_, rfl⟩, ?_⟩
  have I14 : TInv u g (x :: dx :: h₇.objs.size :: []) h₁₃ := (I₁₃.add gl o7).sub fun a ha => by
    rcases List.mem_cons.mp ha with rfl | ha
    · exact .tail _ (.tail _ (.head _))
    · rcases List.mem_cons.mp ha with rfl | ha
      · exact .tail _ (.tail _ (.tail _ (.head _)))
      · rcases List.mem_singleton.mp ha with rfl
        exact .head _
  exact I14.toP (c := ⟨x, dx, h₇.objs.size, T, tm, te, .str "<string>" tf, .ref h₉.objs.size, .ref h₁₁.objs.size, t0, t1, t2, t3, t4, t5, t6, t7, t8, t9⟩) rfl x₁₃ ⟨.none, tp, tp, rfl, d₁₃⟩ ⟨_, o7⟩ rfl ⟨(fun m => nomatch m), (fun m => nomatch m), (fun m => nomatch m)⟩
end Mine

end

/- PT6 -/
section
open PySem PySem.W PyProof.Rows PySem.Calls
set_option Elab.async false
set_option maxRecDepth 100000
namespace Mine

section
variable {u : U} {g g' h h' : Heap} {N M : List Addr} {σ : PS}
theorem TInv.addO (I : TInv u g N h) {a : Addr} {o : Obj} (hg : g.get? a = none) (ha : h.get? a = some o) (ho : o.cls ≠ .none) : TInv u g (a :: N) h := by
  obtain ⟨cs, t, f⟩ := I.tab
  refine ⟨I.b, I.st, I.sz, fun b hb => ?_, fun b hb => ?_, cs, t, fun q hq => ⟨(f q hq).1, fun m => ?_⟩⟩
  · rcases List.mem_cons.mp hb with rfl | hb
    · exact ⟨_, ha⟩
    · exact I.al b hb
  · rcases List.mem_cons.mp hb with rfl | hb
    · exact hg
    · exact I.fr b hb
  · rcases List.mem_cons.mp m with e | m
    · obtain ⟨ps, e2, _⟩ := t q hq; rw [e, ha] at e2; injection e2 with e2; rw [e2] at ho; exact ho rfl
    · exact (f q hq).2 m

theorem TInv.thaw (J : TInv u g' M h) (st : g.StaysIn g') (z : g.objs.size ≤ g'.objs.size) (B : Bs u g) (al : ∀ a ∈ N, ∃ o, g'.get? a = some o) (fr : ∀ a ∈ N, g.get? a = none) : TInv u g (M ++ N) h := by
  obtain ⟨cs, t, f⟩ := J.tab
  refine ⟨B, fun b o e => J.st b o (st b o e), Nat.le_trans z J.sz, fun a ha => ?_, fun a ha => ?_, cs, t, fun q hq => ⟨?_, fun m => ?_⟩⟩
  · rcases List.mem_append.mp ha with m | m
    · exact J.al a m
    · obtain ⟨o, e⟩ := al a m; exact ⟨o, J.st _ _ e⟩
  · rcases List.mem_append.mp ha with m | m
    · cases q : g.get? a with
      | none => rfl
      | some o => have := st _ _ q; rw [J.fr a m] at this; cases this
    · exact fr a m
  · cases e : g.get? q.2.1 with
    | none => rfl
    | some o => have := st _ _ e; rw [(f q hq).1] at this; cases this
  · rcases List.mem_append.mp m with m | m
    · exact (f q hq).2 m
    · obtain ⟨o, e⟩ := al _ m; rw [(f q hq).1] at e; cases e

theorem PInv.thaw (J : PInv u g' [] h σ) (st : g.StaysIn g') (z : g.objs.size ≤ g'.objs.size) (B : Bs u g) (al : ∀ a ∈ N, ∃ o, g'.get? a = some o) (fr : ∀ a ∈ N, g.get? a = none) : PInv u g N h σ := by
  obtain ⟨W, O, f⟩ := J.own
  refine ⟨B, fun b o e => J.st b o (st b o e), Nat.le_trans z J.sz, fun a m => let ⟨o, e⟩ := al a m; ⟨o, J.st _ _ e⟩, fr, W, O, fun a ha => ⟨?_, fun m => ?_⟩⟩
  · cases q : g.get? a with
    | none => rfl
    | some o => have := st _ _ q; rw [(f a ha).1] at this; cases this
  · obtain ⟨o, e⟩ := al a m; rw [(f a ha).1] at e; cases e

/-- all but the tables and what is named is laid into the base -/
theorem TInv.freezeBut (I : TInv u g (M ++ N) h) (hMN : ∀ a ∈ N, a ∉ M) : ∃ g', TInv u g' M h ∧ g.StaysIn g' ∧ g'.objs.size = h.objs.size ∧ (∀ a ∈ N, ∀ o, h.get? a = some o → g'.get? a = some o) ∧ (∀ b o, g'.get? b = some o → h.get? b = some o) ∧
    (∀ a o, h.get? a = some o → a ∉ u.tabs.map (·.2.1) → a ∉ M → g'.get? a = some o) := by
  obtain ⟨cs, t, f⟩ := I.tab
  have hm : ∀ {a}, a ∈ M ++ u.tabs.map (·.2.1) → g.get? a = none ∧ a ∉ N := fun m => by
    rcases List.mem_append.mp m with m | m
    · exact ⟨I.fr _ (List.mem_append_left _ m), fun z => hMN _ z m⟩
    · obtain ⟨q, hq, rfl⟩ := List.mem_map.mp m; exact ⟨(f q hq).1, fun z => (f q hq).2 (List.mem_append_right _ z)⟩
  have st : g.StaysIn (hideAll h (M ++ u.tabs.map (·.2.1))) := fun b o e => hideAll_get _ (I.st b o e) fun m => by rw [(hm m).1] at e; cases e
  refine ⟨hideAll h (M ++ u.tabs.map (·.2.1)), ⟨I.b.keeps st, fun b o e => of_hideAll _ e, Nat.le_of_eq (hideAll_size _ _), fun a ha => I.al a (List.mem_append_left _ ha), fun a ha => hideAll_none _ (List.mem_append_left _ ha), cs, t, fun q hq => ⟨hideAll_none _ (List.mem_append_right _ (List.mem_map_of_mem hq)), fun m => (f q hq).2 (List.mem_append_left _ m)⟩⟩, st, hideAll_size _ _, fun a ha o e => hideAll_get _ e fun m => (hm m).2 ha, fun b o e => of_hideAll _ e, fun a o e h1 h2 => hideAll_get _ e fun m => ?_⟩
  rcases List.mem_append.mp m with m | m
  · exact h2 m
  · exact h1 m

theorem PInv.toT {c : Cx} {v : Value} (I : PInv ((u.wc c).gv v) g N h σ) : TInv u g N h := by
  have J := I.forget
  exact ⟨⟨J.b.k, J.b.t, J.b.cd⟩, J.st, J.sz, J.al, J.fr, J.tab⟩
theorem Is2.wc (hu : Is2 u) (c : Cx) : Is2 (u.wc c) := ⟨⟨hu.K, hu.C⟩, hu.tabs⟩
theorem Kn.wc (kn : Kn u) {c : Cx} (hT : c.T.length ≤ 100000) : Kn (u.wc c) := ⟨kn.ga, kn.gA, kn.hd, kn.sa, kn.po, hT⟩
end

theorem Room.make {A : Around} {d : Nat} {C : Addr} {vs : List Value} {kw : List (Str × Value)} (R : Room A (d + 1)) : Room (A.under (.builtin "type.__call__" ⟨.ref C :: vs, kw⟩)) d := by
  have e1 : (A.under (.builtin "type.__call__" ⟨.ref C :: vs, kw⟩)).depth = A.depth + 1 := rfl
  have e2 : (A.under (.builtin "type.__call__" ⟨.ref C :: vs, kw⟩)).units = A.units + 1 := rfl
  refine ⟨R.hd, ?_, ?_⟩
  · rw [e1]; have := R.dp; omega
  · rw [e2]; have := R.un; omega

section
variable {u : U} {A : Around} {E : Value → Shared → Prop} {s : Shared} {g : Heap} {N : List Addr} {L : Addr} {m : Str → Option Value} {f : Addr} {fd : FuncData} {x : Str} {v : Value} {pos : Pos}
theorem nameGT {Q : Value → Shared → Prop} (I : TInv u g N s.heap) (hk : fd.scope.kind = .function) (hx : fd.scope.names.lookup x = some .globalImplicit) (hg : fd.globals = mainGlobals)
    (e : nsIn u.K mainGlobals x = some (some v)) (h : Q v s) (hd : (x == ("__debug__" : Str)) = false := by decide) :
    wpAny (model u.prog u.w) A (eval (.Name x pos) (callEnv fd L f)) Q E s :=
  have T := I.T
  Name_function_global hk hx (loadGlobal_global (env := callEnv fd L f) (show s.heap.Ns fd.globals u.mg from hg ▸ T.g) (mg_of I.K T.g e) h) hd

/-- the parser's object is made -/
theorem makeT {C : Addr} (hC : u.C = C) {Q : Value → Shared → Prop} {T : Str} {tm tf tp : Tok} {p : Nat} (hu : Is2 u) (kn : Kn u) (hm : makesIn u.K u.C = true) (hi : findIn u.K (.ref u.C) "__init__" = some (some (.ref 58))) (hf : isFn u.K (.ref 58) = true) (F : Fr g L s.heap m) (I : TInv u g (L :: N) s.heap) (hR : Room A 2) (hT : T.length ≤ 100000)
    (h : ∀ c h' tk, c.T = T → (∃ tf, c.fn = .str "<string>" tf) → PInv (u.wc c) g (L :: N) h' ⟨.none, p, false, p, []⟩ → Fr g L h' m → (∀ b o, s.heap.get? b = some o → b ≠ L → b ∉ u.tabs.map (·.2.1) → h'.get? b = some o) → Q (.ref c.x) { s with heap := h', toks := tk }) :
    wpAny (model u.prog u.w) A (call (.ref C) [.str T tm, .str "<string>" tf] [("pos", .int p tp)]) Q E s := by
  subst hC
  refine call_cls F I.b.k (all_newsT F) hm hi hf fun x dx h₁ F₁ N₁ hlt hxd => ?_
  have hx := N₁ _ (.head _)
  have hd := N₁ _ (.tail _ (.head _))
  obtain ⟨I₁, k₁⟩ := (same_newsT F I).2 h₁ m F₁ fun p hp => N₁ p (.tail _ (.tail _ hp))
  have I₂ : TInv u g ([x, dx] ++ (L :: N)) h₁ := (I₁.addO hd.2.2 hd.1 (by intro q; cases q)).addO hx.2.2 hx.1 (by intro q; cases q)
  -- what was made is new
  have nold : ∀ a, (∃ o, s.heap.get? a = some o) → a ∈ [x, dx] → False := by
    intro a ⟨o, e⟩ ha
    have hL : a ≠ L := by
      rcases List.mem_cons.mp ha with rfl | ha
      · exact hx.2.1
      · rcases List.mem_singleton.mp ha with rfl; exact hd.2.1
    have hg : g.get? a = none := by
      rcases List.mem_cons.mp ha with rfl | ha
      · exact hx.2.2
      · rcases List.mem_singleton.mp ha with rfl; exact hd.2.2
    have lt := hlt (a, o) (mem_restOf.mpr ⟨e, hL, hL, hg⟩)
    rcases List.mem_cons.mp ha with rfl | ha
    · exact absurd (Nat.lt_trans lt hxd) (Nat.lt_irrefl _)
    · rcases List.mem_singleton.mp ha with rfl; exact absurd lt (Nat.lt_irrefl _)
  obtain ⟨g', J, st, zz, al, up, rest⟩ := I₂.freezeBut fun a ha hm => nold a (I.al a ha) hm
  refine codeAny_mono (leaf_init hu kn (s := { s with heap := h₁ }) hR.make J hx.1 hd.1 hT) fun rr s' hd => ?_
  obtain ⟨rfl, c, h', tk', rfl, ex, eT, efn, P⟩ := hd
  have P' : PInv (u.wc c) g (L :: N) h' ⟨.none, p, false, p, []⟩ := P.thaw st (by rw [zz]; exact I₁.sz) ⟨I.b.k, I.b.t, I.b.cd⟩ (fun a ha => let ⟨o, e⟩ := I₁.al a ha; ⟨o, al a ha o e⟩) I.fr
  refine ⟨rfl, ?_⟩
  have := h c h' tk' eT efn P' (Fr.lift F₁ st (al L (.head _)) P.st) fun b o e hbL hb => ?_
  · rw [ex] at this; exact this
  · exact P.st _ _ (rest b o (k₁ b hbL o e) hb fun m => nold b ⟨o, e⟩ m)
end
end Mine

end

/- PT7a -/
section
open PySem PySem.W PyProof.Rows PySem.Calls
set_option Elab.async false
set_option maxRecDepth 100000
namespace Mine

theorem fillT7a_ (_ : PySem.Challenge.rw_bd6020_01 = PySem.Challenge.rw_bd6020_01) (_ : Mine.hd.heap_39 = Mine.hd.heap_39) : True := by
  have h : PySem.Challenge.rw_bd6020_01 = PySem.Challenge.rw_bd6020_01 ∧ Mine.hd.heap_39 = Mine.hd.heap_39 := by
    k_fill
    exact ⟨rfl, rfl⟩
  trivial
local macro_rules | `(tactic| walk_at "m.at") => `(tactic| exact ⟨by rw [Is.K (by assumption), Is.C (by assumption)]; k_is, ⟨_, none, #[], by rw [Is.K (by assumption)]; k_is⟩, by decide +kernel⟩)
local macro_rules | `(tactic| walk_at "m.is") => `(tactic| first | (rw [Is.K (by assumption), Is.C (by assumption)]; k_is) | (rw [Is.K (by assumption)]; k_is))

/-- the two shapes of call that reach parse -/
def ParseArgs (T : Str) (tm : Tok) (p : Nat) (tp : Tok) (vs vc : Value) (args : Args) : Prop :=
  args = ⟨[.str T tm], [("start", .int p tp), ("strict", vs), ("consume_trailing", vc)]⟩ ∨
  args = ⟨[], [("s", .str T tm), ("object_hook", .none), ("parse_float", .none), ("parse_int", .none), ("parse_constant", .none), ("strict", vs), ("object_pairs_hook", .none), ("allow_duplicate_keys", .bool true), ("consume_trailing", vc), ("start", .int p tp)]⟩

theorem fd_swap {K : Frag} {a : Addr} {t t' : Value} {od od' : Option Addr} {fd fd' : FuncData} {sl sl' : Array (Option Value)} (e : K.lookup a = some ⟨t', od', .func fd', sl'⟩) (h : K.lookup a = some ⟨t, od, .func fd, sl⟩) (P : FuncData → Prop) (hp : P fd') : P fd := by
  rw [h] at e; injection e with e; injection e with _ _ e _; injection e with e; exact e ▸ hp

set_option maxHeartbeats 4000000 in
theorem parse_binds {u : U} (hu : Is u) {s : Shared} (hK : u.K.In s.heap) {args : Args} {T : Str} {tm tp : Tok} {p : Nat} {vs vc : Value} (hargs : ParseArgs T tm p tp vs vc args) {fd : FuncData} {od : Option Addr} {sl : Array (Option Value)} (h : u.K.lookup 1498 = some ⟨.type "function", od, .func fd, sl⟩) :
    BindsTo s fd args [(("s" : Str), .str T tm), (("object_hook" : Str), .none), (("parse_float" : Str), .none), (("parse_int" : Str), .none), (("parse_constant" : Str), .none), (("strict" : Str), vs), (("object_pairs_hook" : Str), .none), (("allow_duplicate_keys" : Str), .bool true), (("consume_trailing" : Str), vc), (("start" : Str), .int p tp)] := by
  refine' fd_swap ?e h (fun fd => BindsTo s fd args _) ?_
  case e => rw [hu.K]; k_is
  have hK' : (Mine.hd.heap_39 u.w.params).In s.heap := by rw [← hu.K]; exact hK
  rcases hargs with rfl | rfl
  · exact kp_binds (K := Mine.hd.heap_39 u.w.params) hK' (by intro S; kernel_rfl)
  · exact kp_binds (K := Mine.hd.heap_39 u.w.params) hK' (by intro S; kernel_rfl)
end Mine

end

/- PT7 -/
section
open PySem PySem.W PyProof.Rows PySem.Calls
set_option Elab.async false
set_option maxRecDepth 100000
namespace Mine

theorem fillT7_ (_ : PySem.Challenge.rw_bd6020_01 = PySem.Challenge.rw_bd6020_01) (_ : Mine.hd.heap_39 = Mine.hd.heap_39) : True := by
  have h : PySem.Challenge.rw_bd6020_01 = PySem.Challenge.rw_bd6020_01 ∧ Mine.hd.heap_39 = Mine.hd.heap_39 := by
    k_fill
    exact ⟨rfl, rfl⟩
  trivial
local macro_rules | `(tactic| walk_at "m.at") => `(tactic| exact ⟨by rw [Is.K (by assumption), Is.C (by assumption)]; k_is, ⟨_, none, #[], by rw [Is.K (by assumption)]; k_is⟩, by decide +kernel⟩)
local macro_rules | `(tactic| walk_at "m.is") => `(tactic| first | (rw [Is.K (by assumption), Is.C (by assumption)]; k_is) | (rw [Is.K (by assumption)]; k_is))

theorem at_parse {u : U} (hu : Is u) : MethAt u "parse" 66 := by walk_at "m.at"

section
variable {M : Model} {A : Around} {E : Value → Shared → Prop} {s : Shared} {env : Env}
theorem CallKW_ {func : Expr} {args : List Expr} {kws : List Keyword} {pos : Pos} {Q : Value → Shared → Prop}
    (h : wpAny M A (eval func env) (fun f s₁ => wpAny M A (callWith pos f [] (backTo pos (starEach args env)) (backToKw pos (keywordEach kws env))) Q E s₁) E s)
    (he : eval (.Call func args kws pos) env = (do callWith pos (← eval func env) [] (backTo pos (starEach args env)) (backToKw pos (keywordEach kws env))) := by rfl) :
    wpAny M A (eval (.Call func args kws pos) env) Q E s := by
  rw [he]; exact wpAny_bind h
end

section
variable {u : U} {A : Around} {E : Value → Shared → Prop} {s : Shared} {g : Heap} {N : List Addr} {L : Addr} {m : Str → Option Value} {f : Addr} {fd : FuncData} {x : Str} {v : Value} {pos p1 p2 p3 : Pos}
theorem orZ {Q : Value → Shared → Prop} {p k : Nat} {tp : Tok} (F : Fr g L s.heap m) (hk : fd.scope.kind = .function) (hx : fd.scope.names.lookup x = some .local) (hv : m x = some (.int (p : Int) tp)) (h : ∀ tk toks, Q (.int (p : Int) tk) { s with toks := toks })
    (hd : (x == ("__debug__" : Str)) = false := by decide) : wpAny (model u.prog u.w) A (eval (.BoolOp .Or [.Name x p1, .Constant (.int 0) k p2] p3) (callEnv fd L f)) Q E s := by
  refine BoolOp_or (nameL F hk hx hv (PyProof.Rows.truthy_int ?_) hd)
  by_cases hp : p = 0
  · subst hp
    rw [if_neg (by decide)]
    show wpAny _ _ (eval (.Constant (.int 0) k p2) (callEnv fd L f)) _ _ _
    exact wpAny_Constant_int (h _ _)
  · rw [if_pos (by simp [hp])]
    exact h _ _
end

theorem Fr.but {g h h' : Heap} {L d : Addr} {m : Str → Option Value} (F : Fr g L h m) (hd : d ≠ L) (k : ∀ b, b ≠ d → ∀ o, h.get? b = some o → h'.get? b = some o) (st : g.StaysIn h') : Fr g L h' m := by
  obtain ⟨o, es, ep, e, rr⟩ := F.ns
  exact ⟨⟨o, es, ep, k L (Ne.symm hd) _ e, rr⟩, st, F.above⟩

theorem dict_true {prog : Program} {w : World} {g : Heap} {d : Addr} {kvs : List (Str × Value)} (hb : sysModules < d) (hd : g.DictOf (PySem.strKind prog w) d kvs) (he : kvs.length = 2) :
    ∀ (A : Around) (Q : Bool → Shared → Prop) (E : Value → Shared → Prop) (s' : Shared), g.StaysIn s'.heap → (∀ tk, Q true { s' with toks := tk }) → wpAny (model prog w) A (truthy (.ref d)) Q E s' := by
  intro A Q E s' ks hq
  obtain ⟨o, e, hh⟩ := Heap.dictOf_iff.mp hd
  refine wpAny_truthy_dict (knd := PySem.strKind prog w) (kvs := kvs) (beq_eq_false_iff_ne.mpr (Nat.ne_of_gt hb)) (Heap.dictOf_iff.mpr ⟨o, ks _ _ e, hh⟩) (by rw [he]; decide) ?_
  have : kvs.isEmpty = false := by cases kvs with | nil => cases he | cons _ _ => rfl
  rw [this]
  exact hq _

theorem words_len {T : Str} (hT : T.length ≤ 100000) : 0 < (words T).length ∧ (words T).length ≤ 100 := by
  have hT' : T.cps.toList.length = T.length := by rw [Array.length_toList]; rfl
  obtain ⟨b1, b2⟩ := offs_le T.cps.toList (1, 1) 1 (by simp) (by simp) (by omega)
  rw [hT'] at b1 b2
  unfold words
  generalize (offs T.cps.toList (1, 1)).1 = ln at b1 ⊢
  generalize (offs T.cps.toList (1, 1)).2 = cn at b2 ⊢
  have l1 : (Str.ofString (toString (ln : Int))).length ≤ 6 := toString_length_le (by omega) (by decide) (by omega)
  have l2 : (Str.ofString (toString (cn : Int))).length ≤ 6 := toString_length_le (by omega) (by decide) (by omega)
  have k0 : ("<string>" : Str).length = 8 := by decide +kernel
  have k1 : (":" : Str).length = 1 := by decide +kernel
  have k2 : (" Unexpected " : Str).length = 12 := by decide +kernel
  have k3 : ("end of input" : Str).length = 12 := by decide +kernel
  have k4 : (" at column " : Str).length = 11 := by decide +kernel
  simp only [strLen_append]
  omega

set_option maxHeartbeats 4000000 in
theorem leaf_mparse {u : U} (hu : Is2 u) (kn : Kn u) {g : Heap} {A : Around} {s : Shared} {args : Args} {T : Str} {tm tp : Tok} {p n : Nat} {l : List Nat} {vs vc : Value} (hR : Room A 45) (I : TInv u g [] s.heap) (hT : T.length ≤ 100000) (hne : 0 < T.length)
    (hgap : Gap n l) (hat : At T p l) (hn : n ≤ 399) (hargs : ParseArgs T tm p tp vs vc args) :
    codeAny (model u.prog u.w) A (.call (.ref 1498) args) (fun rr s' => ∃ a t1 t2, rr = .ok (.ret (.ref a)) ∧ ∃ h' tk', s' = { s with heap := h', toks := tk' } ∧ TInv u g [a] h' ∧
      h'.get? a = some { cls := .type "tuple", data := .seq #[.none, .str (words T) t1, .int T.length t2] }) s := by
  have hu1 := hu.toIs
  refine' enterT (d := 44) (binds := [(("s" : Str), .str T tm), (("object_hook" : Str), .none), (("parse_float" : Str), .none), (("parse_int" : Str), .none), (("parse_constant" : Str), .none), (("strict" : Str), vs), (("object_pairs_hook" : Str), .none), (("allow_duplicate_keys" : Str), .bool true), (("consume_trailing" : Str), vc), (("start" : Str), .int p tp)]) ⟨none, #[], ?hf⟩ ?hb ?hcd ?hbind ?hcell ?hloc ?hco ?hgen ?hk hR I ?_
  case hf => rw [hu1.K]; k_is
  case hb => rfl
  case hcd => rw [hu1.K]; k_is
  case hbind => exact parse_binds hu1 I.K hargs (by rw [hu1.K]; k_is)
  case hcell => decide
  case hloc => exact locs rfl
  case hco => rfl
  case hgen => rfl
  case hk => rfl
  intro L h₁ I₁ F₁ _
  (try dsimp only)
  have nP : nsIn u.K mainGlobals "Parser" = some (some (.ref 1478)) := by walk_at "m.is"
  have kC : keepIn u.K (.ref 1478) = true := by walk_at "m.is"
  have mC : makesIn u.K u.C = true := by walk_at "m.is"
  have iC : findIn u.K (.ref u.C) "__init__" = some (some (.ref 58)) := by walk_at "m.is"
  have fC : isFn u.K (.ref 58) = true := by walk_at "m.is"
  refine wpAny_execs_cons (wpAny_If (isTrue_not (isTrue_plain (nameL (s := ⟨h₁, s.gens, s.drawn, _, s.os⟩) F₁ rfl rfl rfl (PySem.P.truthy_str (by omega) ?_)))))
  rw [if_neg (by simp; omega)]
  refine wpAny_execs_nil ?_
  (try dsimp only)
  refine wpAny_execs_cons (wpAny_Assign_Name (orZ (s := ⟨h₁, s.gens, s.drawn, _, s.os⟩) F₁ rfl rfl rfl fun tz toks => ?_) (by rfl))
  refine stT (s := ⟨h₁, s.gens, s.drawn, _, s.os⟩) F₁ I₁ rfl rfl fun h₂ I₂ F₂ _ => ?_
  (try dsimp only)
  refine wpAny_execs_cons (wpAny_Assign_Name (CallKW_ (nameGT (s := ⟨h₂, s.gens, s.drawn, _, s.os⟩) I₂ rfl rfl rfl nP ?_)) (by rfl))
  refine callWith_KW I₂.b.k kC (by rfl) ?_
  refine spliced_more (nameL (s := ⟨h₂, s.gens, s.drawn, _, s.os⟩) F₂ rfl rfl rfl (spliced_more (Constant_str (spliced_none ?_))))
  refine kws_cons (nameL (s := ⟨h₂, s.gens, s.drawn, _, s.os⟩) F₂ rfl rfl (if_pos rfl) (kws_nil ⟨I₂.K, ?_⟩))
  refine makeT (C := 1478) (s := ⟨h₂, s.gens, s.drawn, _, s.os⟩) hu1.C hu kn mC iC fC F₂ I₂ (hR.deeper.less (by omega)) hT fun c h₃ tk₃ eT efn P₃ F₃ k₃ => ?_
  have hu' := hu.wc c
  have hu1' := hu'.toIs
  have kn' : Kn (u.wc c) := kn.wc (by rw [eT]; exact hT)
  refine stL (u := u.wc c) (s := ⟨h₃, s.gens, s.drawn, _, s.os⟩) F₃ P₃ rfl rfl fun h₄ P₄ F₄ _ => ?_
  (try dsimp only)
  have hbig : sysModules < h₄.objs.size := Nat.lt_trans (show sysModules < 1478 by decide) (Heap.lt_size (P₄.K 1478 _ (show (u.wc c).K.lookup 1478 = some _ by rw [hu1'.K]; k_is)))
  refine wpAny_execs_cons (Assign_Tuple (methodCall_KW (pl := _) (nameL (s := ⟨h₄, s.gens, s.drawn, _, s.os⟩) F₄ rfl rfl (if_pos rfl) ?_)))
  refine meth_of (u := u.wc c) (s := ⟨h₄, s.gens, s.drawn, _, s.os⟩) kn' (at_parse hu1') P₄ (fun v tp tq => rfl) ?_
  refine callWith_KW0 (K := (u.wc c).K) (h₀ := h₄) P₄.K (at_parse hu1').keepIn (by rfl) ?_
  refine kws_cons (Dict_made_str (s := ⟨h₄, s.gens, s.drawn, _, s.os⟩) rfl F₄ rfl rfl (by simp) (by decide) fun F₅ => ?_)
  refine pairTrees_cons_walk (Constant_str (nameL (s := ⟨h₄.push { cls := .type "dict", data := .dict #[] }, s.gens, s.drawn, _, s.os⟩) F₅ rfl rfl rfl ?_))
  refine pairTrees_cons_walk (Constant_str (nameL (s := ⟨h₄.push { cls := .type "dict", data := .dict #[] }, s.gens, s.drawn, _, s.os⟩) F₅ rfl rfl rfl ?_))
  refine pairTrees_nil_walk ⟨_, carries_strPairs _ _ _ rfl, Heap.DictOf.new h₄, fun h₆ hd₆ hs₆ => ?_⟩
  (try dsimp only)
  have dnew : h₄.get? h₄.objs.size = none := Heap.get?_none_of_le (Nat.le_refl _)
  have dL : h₄.objs.size ≠ L := fun q => by obtain ⟨o, e⟩ := P₄.al L (.head _); rw [← q, dnew] at e; cases e
  have kd : ∀ b, b ≠ h₄.objs.size → ∀ o, (h₄.push { cls := .type "dict", data := .dict #[] }).get? b = some o → h₆.get? b = some o := fun b hb o e => (hs₆.2 b hb).trans e
  obtain ⟨od, eod, dod⟩ := Heap.dictOf_iff.mp hd₆
  have P₅ := P₄.priv (a := h₄.objs.size) P₄.sz dnew (fun b o e => Heap.get?_push_of_some { cls := .type "dict", data := .dict #[] } e) (by rw [Heap.size_push]; omega) ⟨_, Heap.get?_push_size _ rfl⟩
  have P₆ := P₅.store (.head _) (Heap.get?_push_size _ rfl) (by intro vs q t d; cases d) kd (by rw [hs₆.1]; exact P₅.sz) ⟨_, eod⟩
  have F₆ := Fr.but F₅ dL kd P₆.st
  refine kws_nil ⟨P₆.K, wpAny_call ?_⟩
  obtain ⟨g', J, st, zz, al, back, _, _⟩ := P₆.freeze'
  obtain ⟨σ', hG, hf, he⟩ := grammar_gap (T := T) hgap hat hn
  have hd' : g'.DictOf (PySem.strKind u.prog u.w) h₄.objs.size _ := Heap.dictOf_iff.mpr ⟨od, al _ (.head _) _ eod, dod⟩
  refine codeAny_mono (leaf_parse (kw := ("", .none)) (binds := []) (u := u.wc c) (σ' := σ') hu' kn' (s := ⟨h₆, s.gens, s.drawn, _, s.os⟩) (hR.deeper.less (by omega)) J (by show f_grammar_ c.T _ = _; rw [eT]; exact hG) hf (by show _ = c.T.length; rw [eT]; exact he) efn (dict_true hbig hd' (by kernel_rfl))) fun rr s' hd => ?_
  obtain ⟨a, t1, t2, rfl, h₇, tk₇, rfl, P₇, e₇⟩ := hd
  have e₇' : h₇.get? a = some { cls := .type "tuple", data := .seq #[.none, .str (words T) t1, .int T.length t2] } := by
    have := e₇; rw [show (u.wc c).c.T = T from eT] at this; exact this
  have J₇ : TInv u g' [a] h₇ := P₇.toT
  have I₇ : TInv u g [L, a] h₇ := (J₇.thaw (N := [L]) st (by rw [zz]; exact P₆.sz) I₂.b (fun b hb => by
    rcases List.mem_singleton.mp hb with rfl
    obtain ⟨o, e⟩ := P₆.al b (.tail _ (.head _)); exact ⟨o, al b (.tail _ (.head _)) o e⟩) (fun b hb => P₄.fr b hb)).sub fun b hb => by
      rcases List.mem_cons.mp hb with rfl | hb
      · exact .tail _ (.head _)
      · rcases List.mem_singleton.mp hb with rfl; exact .head _
  have F₇ := Fr.lift F₆ st (al L (.tail _ (.head _))) P₇.st
  have ht : IsTup h₇ a #[.none, .str (words T) t1, .int T.length t2] := ⟨_, e₇', rfl, _, rfl⟩
  (try dsimp only)
  obtain ⟨N₇, k₇⟩ := same_newsT (s := ⟨h₇, s.gens, s.drawn, tk₇, s.os⟩) F₇ I₇
  refine unpackN_ (s := ⟨h₇, s.gens, s.drawn, _, s.os⟩) F₇ N₇ ht hR.hd rfl rfl fun h₈ F₈ N₈ => ?_
  obtain ⟨I₈, _⟩ := k₇ _ _ F₈ N₈
  refine assignInOrder_cons (wpAny_assign_Name (stT (s := ⟨h₈, s.gens, s.drawn, _, s.os⟩) F₈ I₈ rfl rfl fun h₉ I₉ F₉ _ => ?_))
  refine assignInOrder_cons (wpAny_assign_Name (stT (s := ⟨h₉, s.gens, s.drawn, _, s.os⟩) F₉ I₉ rfl rfl fun h₁₀ I₁₀ F₁₀ _ => ?_))
  refine assignInOrder_cons (wpAny_assign_Name (stT (s := ⟨h₁₀, s.gens, s.drawn, _, s.os⟩) F₁₀ I₁₀ rfl rfl fun h₁₁ I₁₁ F₁₁ _ => ?_))
  refine assignInOrder_nil ?_
  (try dsimp only)
  obtain ⟨w1, w2⟩ := words_len hT
  refine wpAny_execs_cons (wpAny_If (isTrue_plain (nameL (s := ⟨h₁₁, s.gens, s.drawn, _, s.os⟩) F₁₁ rfl rfl rfl (PySem.P.truthy_str (by omega) ?_))))
  rw [if_pos (by simp; omega)]
  (try dsimp only)
  refine wpAny_execs_cons (wpAny_Return_some (Tuple_ (spliced_more (Constant_none (spliced_more ?_)))))
  refine nameL (s := ⟨h₁₁, s.gens, s.drawn, _, s.os⟩) F₁₁ rfl rfl rfl (spliced_more ?_)
  refine nameL (s := ⟨h₁₁, s.gens, s.drawn, _, s.os⟩) F₁₁ rfl rfl rfl (spliced_none (wpAny_newTuple ?_ (by rw [sizeLine_eq]; simp)))
  (try dsimp only)
  exact ⟨h₁₁.objs.size, t1, t2, rfl, _, _, rfl, (I₁₁.priv (a := h₁₁.objs.size) I₁₁.sz (Heap.get?_none_of_le (Nat.le_refl _)) (fun b o e => Heap.get?_push_of_some _ e) (by rw [Heap.size_push]; omega) ⟨_, Heap.get?_push_size _ rfl⟩).sub (fun b hb => by rcases List.mem_singleton.mp hb with rfl; exact .head _), Heap.get?_push_size _ rfl⟩
end Mine

end

/- PT8 -/
section
open PySem PySem.W PyProof.Rows PySem.Calls PyProof.V PySem.Spec
set_option Elab.async false
set_option maxRecDepth 100000
namespace Mine

abbrev fs (l : List Env) : List Addr := l.filterMap (·.frame)
def TabsIn (u : U) (B : Heap) : Prop := ∃ cs, ∀ q ∈ u.tabs, TabOk B cs q.2.1 q.2.2

/-- a ValueError of the words x is on its way out of the frames l -/
structure Thrown (u : U) (g : Heap) (l : List Env) (e t : Addr) (x : Str) (h h' : Heap) : Prop where
  ex : ∃ B tk, g.StaysIn B ∧ TabsIn u B ∧ Heap.FlyingW B l e (.type "ValueError") (.ref t) h' ∧ B.get? t = none ∧ h'.TupAt t [.str x tk]
  up : h.UpToSlots h'

section
variable {u : U} {g h h' h'' : Heap} {N : List Addr} {l : List Env} {e t : Addr} {x : Str} {L : Addr} {m : Str → Option Value} {env : Env} {outer : List Env}

theorem Thrown.stays (X : Thrown u g l e t x h h') : g.StaysIn h' := by
  obtain ⟨B, tk, st, _, f, _⟩ := X.ex
  exact fun b o q => f.1 b o (st b o q)

theorem Thrown.tinv (X : Thrown u g l e t x h h') (I : TInv u g N h) (z : g.objs.size ≤ h'.objs.size) (hN : ∀ a ∈ N, ∃ o, h.get? a = some o ∧ ∀ vs, o.data ≠ .fields vs) : TInv u g N h' := by
  obtain ⟨B, tk, st, ⟨cs, ts⟩, f, _⟩ := X.ex
  obtain ⟨_, _, fr⟩ := I.tab
  refine ⟨I.b, X.stays, z, fun a ha => ?_, I.fr, cs, fun q hq => (ts q hq).keep fun b _ o k => f.1 b o k, fr⟩
  obtain ⟨o, eo, hd⟩ := hN a ha
  obtain ⟨sl, es⟩ := X.up a o eo hd
  exact ⟨_, es⟩

theorem fs_frames (hl : h.FunFrames g l) : ∀ a ∈ fs l, ∃ o, h.get? a = some o ∧ ∀ vs, o.data ≠ .fields vs := fun _ ha => (hl.mem ha).2

theorem ffPush (F : Fr g L h m) (hk : env.scope.kind ≠ .module) (hf : env.frame = some L) (hr : h.FunFrames g outer) : h.FunFrames g (env :: outer) :=
  .cons hk hf F.ns (by
    cases q : g.get? L with
    | none => rfl
    | some o => exact absurd (Nat.lt_of_lt_of_le (Heap.lt_size q) F.above) (Nat.lt_irrefl _)) hr

theorem ffKeep (hl : h.FunFrames g l) (k : ∀ a ∈ fs l, ∀ o, h.get? a = some o → h'.get? a = some o) : h'.FunFrames g l := by
  induction l with
  | nil => trivial
  | cons env r ih =>
    obtain ⟨hk, ⟨L, o, hf, hn, ho, hd⟩, hr⟩ := hl
    exact ⟨hk, ⟨L, o, hf, hn, k L (List.mem_filterMap.mpr ⟨env, .head _, hf⟩) o ho, hd⟩, ih hr fun a ha => k a (by
      obtain ⟨e1, m1, f1⟩ := List.mem_filterMap.mp ha
      exact List.mem_filterMap.mpr ⟨e1, .tail _ m1, f1⟩)⟩

theorem hide_base (hl : h.FunFrames g l) (st : g.StaysIn h) : g.StaysIn (hideAll h (fs l)) := fun b o q => hideAll_get _ (st b o q) fun hm => by rw [(hl.mem hm).1] at q; cases q
theorem hide_frames (hl : h.FunFrames g l) : h.FunFrames (hideAll h (fs l)) l := funFrames_hide hl fun env he a hf => List.mem_filterMap.mpr ⟨env, he, hf⟩
theorem hide_tabs (I : TInv u g N h) (hl : h.FunFrames g l) : TabsIn u (hideAll h (fs l)) := by
  obtain ⟨cs, ts, fr⟩ := I.tab
  have nf : ∀ {b : Addr} {o : Obj} {vs : Array Value}, h.get? b = some o → o.data = .fields vs → (hideAll h (fs l)).get? b = some o := fun e hd => hideAll_get _ e fun hm => by
    obtain ⟨o', e', hn⟩ := (hl.mem hm).2
    rw [e] at e'; cases e'; exact hn _ hd
  refine ⟨aliveIn h cs, fun q hq => (ts q hq).alive.keep fun a ha o eo => ?_⟩
  rcases ha with rfl | ha
  · obtain ⟨ps, e1, _⟩ := ts q hq
    rw [eo] at e1; cases e1; exact nf eo rfl
  · obtain ⟨_, q', c', o', vs, t, z1, z2, z3, _⟩ := mem_aliveIn.mp ha
    cases z1
    rw [eo] at z2; cases z2
    exact nf eo z3

section
variable {M : Model} {A : Around} {E : Value → Shared → Prop} {s' : Shared} {Q : Unit → Shared → Prop} {tk : Tok}
theorem leave_raise (hfr : A.frames = some (env :: outer)) (hf : env.frame = some L) (hl : h.FunFrames g (env :: outer)) (I : TInv u g N h) (hx : Heap.MadeExc h s'.heap e "ValueError" [.str x tk])
    (hQ : ∀ h' t, Thrown u g outer e t x h h' → Q () { s' with heap := h' }) : wpAny M A (leaving env (.ref e)) Q E s' := by
  refine wpAny_leaves_madeW (base := hideAll h (fs (env :: outer))) hfr hf (fun b o q => of_hideAll _ q) (hide_frames hl) hx.of fun h' t x1 x2 x3 x4 => ?_
  exact hQ h' t ⟨⟨_, tk, hide_base hl I.st, hide_tabs I hl, x1, x3, x2⟩, (Heap.UpToSlots.of_keeps hx.keeps).trans x4⟩

theorem leave_on (hfr : A.frames = some (env :: outer)) (hf : env.frame = some L) (X : Thrown u g (env :: outer) e t x h s'.heap)
    (hQ : ∀ h', Thrown u g outer e t x h h' → Q () { s' with heap := h' }) : wpAny M A (leaving env (.ref e)) Q E s' := by
  obtain ⟨B, tk, st, ts, f, nt, tp⟩ := X.ex
  exact wpAny_leaves_onW hfr hf f fun h' x1 x2 => hQ h' ⟨⟨B, tk, st, ts, x1, nt, tp.of_slots x2⟩, X.up.trans x2⟩
end

section
variable {A : Around} {E : Value → Shared → Prop} {s' : Shared} {fd : FuncData} {f : Addr} {n : Str} {b₀ : Stmt} {suite : List Stmt} {pos np : Pos} {rest : List ExceptHandler} {Q : Flow → Shared → Prop}

theorem nameBB {A : Around} {E : Value → Shared → Prop} {s : Shared} {x : Str} {v : Value} {Q : Value → Shared → Prop} (B : Bs u g) (st : g.StaysIn s.heap) (hk : fd.scope.kind = .function) (hx : fd.scope.names.lookup x = some .globalImplicit) (hg : fd.globals = mainGlobals) (hb : fd.builtins = builtinsNs)
    (e : nsIn u.K mainGlobals x = some none) (hv : bootBuiltins x = some v) (hn : x ≠ "__name__") (h : Q v s) (hd : (x == ("__debug__" : Str)) = false := by decide) :
    wpAny (model u.prog u.w) A (eval (.Name x pos) (callEnv fd L f)) Q E s :=
  have T := B.t.keeps st
  Name_function_global hk hx (loadGlobal_builtin (env := callEnv fd L f) (show s.heap.Ns fd.globals u.mg from hg ▸ T.g) (mg_none_of (B.k.keeps st) T.g e) (show s.heap.Ns fd.builtins u.mb from hb ▸ T.b) ((T.builtins x hn).trans hv) h) hd

/-- «except ValueError as n» -/
theorem caught (hfr : A.frames = some (callEnv fd L f :: outer)) (X : Thrown u g (callEnv fd L f :: outer) e t x h s'.heap) (B : Bs u g)
    (hk : fd.scope.kind = .function) (hx : fd.scope.names.lookup ("ValueError" : Str) = some .globalImplicit) (hg : fd.globals = mainGlobals) (hb : fd.builtins = builtinsNs) (ne : nsIn u.K mainGlobals "ValueError" = some none)
    (k : ∀ h' tk, Thrown u g (callEnv fd L f :: outer) e t x h h' → h'.ExcAt e "ValueError" (.ref t) → h'.TupAt t [.str x tk] →
      wpAny (model u.prog u.w) (A.mark (some (.ref e))) (storeName (callEnv fd L f) n (.ref e)) (fun _ s₃ => wpAny (model u.prog u.w) (A.mark (some (.ref e))) (execs (b₀ :: suite) (callEnv fd L f))
        (fun fl s₄ => wpAny (model u.prog u.w) A (do bindName (callEnv fd L f) n .none; unbindBehindTheSuite (callEnv fd L f) n pos) (fun _ s₅ => Q fl s₅) E s₄) (fun _ _ => False) s₃) (fun _ _ => False) { s' with heap := h' }) :
    wpAny (model u.prog u.w) A (noteFrame (.ref e) (callEnv fd L f)) (fun _ s₂ => wpAny (model u.prog u.w) A (setFlight (.ref e) none) (fun _ s₃ =>
      wpAny (model u.prog u.w) A (handleBy (.ref e) (callEnv fd L f) (.ExceptHandler (some (.Name "ValueError" np)) (some n) (b₀ :: suite) pos :: rest)) Q E s₃) E s₂) E s' := by
  obtain ⟨B0, tk, st, ts, fl, nt, tp⟩ := X.ex
  refine wpAny_looks_onW hfr rfl fl fun h₄ hheld₄ hsm₄ => ?_
  refine wpAny_landsW hheld₄ fun h₅ hheld hsm₅' => ?_
  have hsm₅ := hsm₄.trans hsm₅'
  obtain ⟨ob, hob, hobc⟩ := hheld.there
  refine wpAny_handleBy_builtin_as (X := "ValueError") (T := "ValueError") (b := true) PySem.F.isExc_ValueError PySem.F.notTuple_ValueError (by rw [isSubtype_type]; kernel_rfl)
    (nameBB (s := { s' with heap := h₅ }) B (fun b o q => hheld.1 b o (st b o q)) hk hx hg hb ne PyProof.Rows.Boot.«ValueError» (by decide) ⟨rfl, ⟨ob, hob, hobc⟩, ?_⟩)
  refine lands_againW hheld fun h₆ hfl₆ hsm₆ => ?_
  have hsm := (hsm₅.trans hsm₆)
  have tp₆ := tp.of_slots hsm
  obtain ⟨oe, ws, hoe, hoec, hoed, hoe0⟩ := hfl₆.first
  refine wpAny_mono (k h₆ tk ⟨⟨B0, tk, st, ts, hfl₆, nt, tp₆⟩, X.up.trans hsm⟩ ⟨oe, ws, hoe, hoec, hoed, hoe0⟩ tp₆) (fun _ s₃ z => wpAny_mono z (fun _ _ y => y) fun _ _ y => y.elim) fun _ _ y => y.elim
end
end
end Mine

end

/- PT9 -/
section
open PySem PySem.W PyProof.Rows PySem.Calls PyProof.V PySem.Spec
set_option Elab.async false
set_option maxRecDepth 100000
namespace Mine

theorem fillT9_ (_ : PySem.Challenge.rw_bd6020_01 = PySem.Challenge.rw_bd6020_01) (_ : Mine.hd.heap_39 = Mine.hd.heap_39) : True := by
  have h : PySem.Challenge.rw_bd6020_01 = PySem.Challenge.rw_bd6020_01 ∧ Mine.hd.heap_39 = Mine.hd.heap_39 := by
    k_fill
    exact ⟨rfl, rfl⟩
  trivial
local macro_rules | `(tactic| walk_at "m.is") => `(tactic| first | (rw [Is.K (by assumption), Is.C (by assumption)]; k_is) | (rw [Is.K (by assumption)]; k_is))

/-- the words for the empty text -/
def emptyW : Str := "Empty strings are not legal JSON5"

section
variable {u : U} {g h h' : Heap} {N : List Addr}
theorem upOf (I : TInv u g N h) (k : ∀ b o, h.get? b = some o → b ∉ u.tabs.map (·.2.1) → h'.get? b = some o) : h.UpToSlots h' := fun b o e hn => ⟨o.slots, k b o e fun m => by
  obtain ⟨cs, ts, _⟩ := I.tab
  obtain ⟨q, hq, rfl⟩ := List.mem_map.mp m
  obtain ⟨ps, e1, _⟩ := ts q hq
  rw [e] at e1; cases e1; exact hn _ rfl⟩
theorem Thrown.before {l : List Env} {e t : Addr} {x : Str} {h₀ : Heap} (X : Thrown u g l e t x h h') (k : h₀.UpToSlots h) : Thrown u g l e t x h₀ h' := ⟨X.ex, k.trans X.up⟩
end

set_option maxHeartbeats 4000000 in
theorem leaf_mparse0 {u : U} (hu : Is2 u) {g : Heap} {N : List Addr} {A : Around} {s : Shared} {args : Args} {tm tp : Tok} {p : Nat} {vs vc : Value} {outer : List Env} (hfr : A.frames = some outer) (hff : s.heap.FunFrames g outer) (hR : Room A 1) (I : TInv u g N s.heap)
    (hargs : ParseArgs Str.empty tm p tp vs vc args) :
    codeAny (model u.prog u.w) A (.call (.ref 1498) args) (fun rr s' => ∃ e t, rr = .error (.ref e) ∧ ∃ h' tk', s' = { s with heap := h', toks := tk' } ∧ Thrown u g outer e t emptyW s.heap h') s := by
  have hu1 := hu.toIs
  refine' enterE (d := 0) (binds := [(("s" : Str), .str Str.empty tm), (("object_hook" : Str), .none), (("parse_float" : Str), .none), (("parse_int" : Str), .none), (("parse_constant" : Str), .none), (("strict" : Str), vs), (("object_pairs_hook" : Str), .none), (("allow_duplicate_keys" : Str), .bool true), (("consume_trailing" : Str), vc), (("start" : Str), .int p tp)]) ⟨none, #[], ?hf⟩ ?hb ?hcd ?hbind ?hcell ?hloc ?hco ?hgen ?hk hR I ?_
  case hf => rw [hu1.K]; k_is
  case hb => rfl
  case hcd => rw [hu1.K]; k_is
  case hbind => exact parse_binds hu1 I.K hargs (by rw [hu1.K]; k_is)
  case hcell => decide
  case hloc => exact locs rfl
  case hco => rfl
  case hgen => rfl
  case hk => rfl
  intro L h₁ I₁ F₁ F₁'
  (try dsimp only)
  have nV : nsIn u.K mainGlobals "ValueError" = some none := by walk_at "m.is"
  refine wpAny_execs_cons (wpAny_If (isTrue_not (isTrue_plain (nameL (s := ⟨h₁, s.gens, s.drawn, _, s.os⟩) F₁ rfl rfl rfl (PySem.P.truthy_str (by decide) ?_)))))
  rw [if_pos (by decide)]
  refine wpAny_execs_cons (Raise_madeB PySem.F.excCall_ValueError PySem.F.excRaise_ValueError hR.hd ?_)
  refine nameBT (s := ⟨h₁, s.gens, s.drawn, _, s.os⟩) I₁ rfl rfl rfl rfl nV (by boot_by_name) (by decide) ⟨rfl, ?_⟩
  refine spliced_more (Constant_str (spliced_none ⟨by rw [sizeLine_eq]; simp, fun h' e hx => ?_⟩))
  refine leave_raise (h := h₁) (Around.frames_deeper hfr) rfl (ffPush F₁ (by intro q; cases q) rfl (ffKeep hff fun a ha o eo => F₁'.keep _ _ eo)) I₁ hx fun h' t X => ?_
  exact ⟨e, t, rfl, h', _, rfl, X.before (Heap.UpToSlots.of_keeps F₁'.keep)⟩
end Mine

end

/- PT10 -/
section
open PySem PySem.W PyProof.Rows PySem.Calls PyProof.V PySem.Spec
set_option Elab.async false
set_option maxRecDepth 100000
namespace Mine

theorem fillT10_ (_ : PySem.Challenge.rw_bd6020_01 = PySem.Challenge.rw_bd6020_01) (_ : Mine.hd.heap_39 = Mine.hd.heap_39) : True := by
  have h : PySem.Challenge.rw_bd6020_01 = PySem.Challenge.rw_bd6020_01 ∧ Mine.hd.heap_39 = Mine.hd.heap_39 := by
    k_fill
    exact ⟨rfl, rfl⟩
  trivial
local macro_rules | `(tactic| walk_at "m.is") => `(tactic| first | (rw [Is.K (by assumption), Is.C (by assumption)]; k_is) | (rw [Is.K (by assumption)]; k_is))

theorem loads_binds {u : U} (hu : Is u) {s : Shared} (hK : u.K.In s.heap) {T : Str} {tm tp : Tok} {p : Nat} {vs vc : Value} {fd : FuncData} {od : Option Addr} {sl : Array (Option Value)} (h : u.K.lookup 1490 = some ⟨.type "function", od, .func fd, sl⟩) :
    BindsTo s fd ⟨[.str T tm], [("start", .int p tp), ("strict", vs), ("consume_trailing", vc)]⟩ [(("s" : Str), .str T tm), (("object_hook" : Str), .none), (("parse_float" : Str), .none), (("parse_int" : Str), .none), (("parse_constant" : Str), .none), (("strict" : Str), vs), (("object_pairs_hook" : Str), .none), (("allow_duplicate_keys" : Str), .bool true), (("consume_trailing" : Str), vc), (("start" : Str), .int p tp)] := by
  refine' fd_swap ?e h (fun fd => BindsTo s fd _ _) ?_
  case e => rw [hu.K]; k_is
  have hK' : (Mine.hd.heap_39 u.w.params).In s.heap := by rw [← hu.K]; exact hK
  exact kp_binds (K := Mine.hd.heap_39 u.w.params) hK' (by intro S; kernel_rfl)

set_option maxHeartbeats 4000000 in
theorem leaf_loads0 {u : U} (hu : Is2 u) {g : Heap} {A : Around} {s : Shared} {tm tp : Tok} {p : Nat} {vs vc : Value} {outer : List Env} (hfr : A.frames = some outer) (hff : s.heap.FunFrames g outer) (hR : Room A 2) (I : TInv u g (fs outer) s.heap) :
    codeAny (model u.prog u.w) A (.call (.ref 1490) ⟨[.str Str.empty tm], [("start", .int p tp), ("strict", vs), ("consume_trailing", vc)]⟩) (fun rr s' => ∃ e t, rr = .error (.ref e) ∧ ∃ h' tk', s' = { s with heap := h', toks := tk' } ∧ Thrown u g outer e t emptyW s.heap h') s := by
  have hu1 := hu.toIs
  refine' enterE (d := 1) (binds := [(("s" : Str), .str Str.empty tm), (("object_hook" : Str), .none), (("parse_float" : Str), .none), (("parse_int" : Str), .none), (("parse_constant" : Str), .none), (("strict" : Str), vs), (("object_pairs_hook" : Str), .none), (("allow_duplicate_keys" : Str), .bool true), (("consume_trailing" : Str), vc), (("start" : Str), .int p tp)]) ⟨none, #[], ?hf⟩ ?hb ?hcd ?hbind ?hcell ?hloc ?hco ?hgen ?hk hR I ?_
  case hf => rw [hu1.K]; k_is
  case hb => rfl
  case hcd => rw [hu1.K]; k_is
  case hbind => exact loads_binds hu1 I.K (by rw [hu1.K]; k_is)
  case hcell => decide
  case hloc => exact locs rfl
  case hco => rfl
  case hgen => rfl
  case hk => rfl
  intro L h₁ I₁ F₁ F₁'
  (try dsimp only)
  have nP : nsIn u.K mainGlobals "parse" = some (some (.ref 1498)) := by walk_at "m.is"
  have kP : keepIn u.K (.ref 1498) = true := by walk_at "m.is"
  have nV : nsIn u.K mainGlobals "ValueError" = some none := by walk_at "m.is"
  have outL : ∀ a ∈ fs outer, a ≠ L := fun a ha q => by
    obtain ⟨_, o, e, _⟩ := hff.mem ha
    exact Nat.lt_irrefl L (Nat.lt_of_lt_of_le (by rw [← q]; exact Heap.lt_size e) F₁'.above)
  refine wpAny_execs_cons (Assign_Tuple (CallKW_ (nameGT (s := ⟨h₁, s.gens, s.drawn, _, s.os⟩) I₁ rfl rfl rfl nP ?_)))
  refine callWith_KW0 (K := u.K) (h₀ := h₁) I₁.K kP (by rfl) ?_
  refine kws_cons (nameL (s := ⟨h₁, s.gens, s.drawn, _, s.os⟩) F₁ rfl rfl rfl ?_)
  refine kws_cons (nameL (s := ⟨h₁, s.gens, s.drawn, _, s.os⟩) F₁ rfl rfl rfl ?_)
  refine kws_cons (nameL (s := ⟨h₁, s.gens, s.drawn, _, s.os⟩) F₁ rfl rfl rfl ?_)
  refine kws_cons (nameL (s := ⟨h₁, s.gens, s.drawn, _, s.os⟩) F₁ rfl rfl rfl ?_)
  refine kws_cons (nameL (s := ⟨h₁, s.gens, s.drawn, _, s.os⟩) F₁ rfl rfl rfl ?_)
  refine kws_cons (nameL (s := ⟨h₁, s.gens, s.drawn, _, s.os⟩) F₁ rfl rfl rfl ?_)
  refine kws_cons (nameL (s := ⟨h₁, s.gens, s.drawn, _, s.os⟩) F₁ rfl rfl rfl ?_)
  refine kws_cons (nameL (s := ⟨h₁, s.gens, s.drawn, _, s.os⟩) F₁ rfl rfl rfl ?_)
  refine kws_cons (nameL (s := ⟨h₁, s.gens, s.drawn, _, s.os⟩) F₁ rfl rfl rfl ?_)
  refine kws_cons (nameL (s := ⟨h₁, s.gens, s.drawn, _, s.os⟩) F₁ rfl rfl rfl ?_)
  refine kws_nil ⟨I₁.K, wpAny_call ?_⟩
  refine codeAny_mono (leaf_mparse0 hu (s := ⟨h₁, s.gens, s.drawn, _, s.os⟩) (Around.frames_deeper hfr) (ffPush F₁ (by intro q; cases q) rfl (ffKeep hff fun a ha o eo => F₁'.keep _ _ eo)) (hR.deeper.less (by omega)) I₁ (.inr rfl)) fun rr s' hd => ?_
  obtain ⟨e, t, rfl, h', tk', rfl, X⟩ := hd
  refine leave_on (h := h₁) (Around.frames_deeper hfr) rfl X fun h'' X' => ?_
  exact ⟨e, t, rfl, h'', _, rfl, X'.before (Heap.UpToSlots.of_keeps F₁'.keep)⟩

set_option maxHeartbeats 4000000 in
theorem leaf_loads {u : U} (hu : Is2 u) (kn : Kn u) {g : Heap} {A : Around} {s : Shared} {T : Str} {tm tp : Tok} {p n : Nat} {l : List Nat} {vs vc : Value} {outer : List Env} (hfr : A.frames = some outer) (hff : s.heap.FunFrames g outer) (hR : Room A 46) (I : TInv u g (fs outer) s.heap)
    (hT : T.length ≤ 100000) (hne : 0 < T.length) (hgap : Gap n l) (hat : At T p l) (hn : n ≤ 399) :
    codeAny (model u.prog u.w) A (.call (.ref 1490) ⟨[.str T tm], [("start", .int p tp), ("strict", vs), ("consume_trailing", vc)]⟩) (fun rr s' => ∃ e t, rr = .error (.ref e) ∧ ∃ h' tk', s' = { s with heap := h', toks := tk' } ∧ Thrown u g outer e t (words T) s.heap h') s := by
  have hu1 := hu.toIs
  refine' enterE (d := 45) (binds := [(("s" : Str), .str T tm), (("object_hook" : Str), .none), (("parse_float" : Str), .none), (("parse_int" : Str), .none), (("parse_constant" : Str), .none), (("strict" : Str), vs), (("object_pairs_hook" : Str), .none), (("allow_duplicate_keys" : Str), .bool true), (("consume_trailing" : Str), vc), (("start" : Str), .int p tp)]) ⟨none, #[], ?hf⟩ ?hb ?hcd ?hbind ?hcell ?hloc ?hco ?hgen ?hk hR I ?_
  case hf => rw [hu1.K]; k_is
  case hb => rfl
  case hcd => rw [hu1.K]; k_is
  case hbind => exact loads_binds hu1 I.K (by rw [hu1.K]; k_is)
  case hcell => decide
  case hloc => exact locs rfl
  case hco => rfl
  case hgen => rfl
  case hk => rfl
  intro L h₁ I₁ F₁ F₁'
  (try dsimp only)
  have nP : nsIn u.K mainGlobals "parse" = some (some (.ref 1498)) := by walk_at "m.is"
  have kP : keepIn u.K (.ref 1498) = true := by walk_at "m.is"
  have nV : nsIn u.K mainGlobals "ValueError" = some none := by walk_at "m.is"
  have outL : ∀ a ∈ fs outer, a ≠ L := fun a ha q => by
    obtain ⟨_, o, e, _⟩ := hff.mem ha
    exact Nat.lt_irrefl L (Nat.lt_of_lt_of_le (by rw [← q]; exact Heap.lt_size e) F₁'.above)
  refine wpAny_execs_cons (Assign_Tuple (CallKW_ (nameGT (s := ⟨h₁, s.gens, s.drawn, _, s.os⟩) I₁ rfl rfl rfl nP ?_)))
  refine callWith_KW0 (K := u.K) (h₀ := h₁) I₁.K kP (by rfl) ?_
  refine kws_cons (nameL (s := ⟨h₁, s.gens, s.drawn, _, s.os⟩) F₁ rfl rfl rfl ?_)
  refine kws_cons (nameL (s := ⟨h₁, s.gens, s.drawn, _, s.os⟩) F₁ rfl rfl rfl ?_)
  refine kws_cons (nameL (s := ⟨h₁, s.gens, s.drawn, _, s.os⟩) F₁ rfl rfl rfl ?_)
  refine kws_cons (nameL (s := ⟨h₁, s.gens, s.drawn, _, s.os⟩) F₁ rfl rfl rfl ?_)
  refine kws_cons (nameL (s := ⟨h₁, s.gens, s.drawn, _, s.os⟩) F₁ rfl rfl rfl ?_)
  refine kws_cons (nameL (s := ⟨h₁, s.gens, s.drawn, _, s.os⟩) F₁ rfl rfl rfl ?_)
  refine kws_cons (nameL (s := ⟨h₁, s.gens, s.drawn, _, s.os⟩) F₁ rfl rfl rfl ?_)
  refine kws_cons (nameL (s := ⟨h₁, s.gens, s.drawn, _, s.os⟩) F₁ rfl rfl rfl ?_)
  refine kws_cons (nameL (s := ⟨h₁, s.gens, s.drawn, _, s.os⟩) F₁ rfl rfl rfl ?_)
  refine kws_cons (nameL (s := ⟨h₁, s.gens, s.drawn, _, s.os⟩) F₁ rfl rfl rfl ?_)
  refine kws_nil ⟨I₁.K, wpAny_call ?_⟩
  refine runT (N := fs outer) (L := L) (s := ⟨h₁, s.gens, s.drawn, _, s.os⟩) (V := fun h v => ∃ a t1 t2, v = .ref a ∧ h.get? a = some { cls := .type "tuple", data := .seq #[.none, .str (words T) t1, .int T.length t2] }) (fun g' st up rest J => ?_) F₁ I₁ fun v h₂ tk₂ hv I₂ F₂ kN k₂ => ?_
  · refine codeAny_mono (leaf_mparse hu kn (s := ⟨h₁, s.gens, s.drawn, _, s.os⟩) hR.deeper J hT hne hgap hat hn (.inr rfl)) fun rr s' hd => ?_
    obtain ⟨a, t1, t2, rfl, h', tk', rfl, J', ea⟩ := hd
    exact ⟨.ref a, rfl, ⟨a, t1, t2, rfl, ea⟩, h', tk', rfl, J'.drop⟩
  obtain ⟨a, t1, t2, rfl, ea⟩ := hv
  have ht : IsTup h₂ a #[.none, .str (words T) t1, .int T.length t2] := ⟨_, ea, rfl, _, rfl⟩
  (try dsimp only)
  obtain ⟨N₂, k₂'⟩ := same_newsT (s := ⟨h₂, s.gens, s.drawn, tk₂, s.os⟩) F₂ I₂
  refine unpackN_ (s := ⟨h₂, s.gens, s.drawn, _, s.os⟩) F₂ N₂ ht hR.hd rfl rfl fun h₃ F₃ N₃ => ?_
  obtain ⟨I₃, k₃⟩ := k₂' _ _ F₃ N₃
  refine assignInOrder_cons (wpAny_assign_Name (stT (s := ⟨h₃, s.gens, s.drawn, _, s.os⟩) F₃ I₃ rfl rfl fun h₄ I₄ F₄ k₄ => ?_))
  refine assignInOrder_cons (wpAny_assign_Name (stT (s := ⟨h₄, s.gens, s.drawn, _, s.os⟩) F₄ I₄ rfl rfl fun h₅ I₅ F₅ k₅ => ?_))
  refine assignInOrder_cons (wpAny_assign_Name (stT (s := ⟨h₅, s.gens, s.drawn, _, s.os⟩) F₅ I₅ rfl rfl fun h₆ I₆ F₆ k₆ => ?_))
  refine assignInOrder_nil ?_
  (try dsimp only)
  have kall : ∀ b, b ≠ L → ∀ o, h₂.get? b = some o → h₆.get? b = some o := fun b hb o e => k₆ b hb o (k₅ b hb o (k₄ b hb o (k₃ b hb o e)))
  obtain ⟨w1, w2⟩ := words_len hT
  refine wpAny_execs_cons (wpAny_If (isTrue_plain (nameL (s := ⟨h₆, s.gens, s.drawn, _, s.os⟩) F₆ rfl rfl rfl (PySem.P.truthy_str (by omega) ?_))))
  rw [if_pos (by simp; omega)]
  (try dsimp only)
  refine wpAny_execs_cons (Raise_madeB PySem.F.excCall_ValueError PySem.F.excRaise_ValueError hR.hd ?_)
  refine nameBT (s := ⟨h₆, s.gens, s.drawn, _, s.os⟩) I₆ rfl rfl rfl rfl nV (by boot_by_name) (by decide) ⟨rfl, ?_⟩
  refine spliced_more (nameL (s := ⟨h₆, s.gens, s.drawn, _, s.os⟩) F₆ rfl rfl rfl (spliced_none ⟨by rw [sizeLine_eq]; simp, fun h' e hx => ?_⟩))
  refine leave_raise (h := h₆) (Around.frames_deeper hfr) rfl (ffPush F₆ (by intro q; cases q) rfl (ffKeep hff fun a ha o eo => kall a (outL a ha) o (kN a ha o (F₁'.keep _ _ eo)))) I₆ hx fun h' t X => ?_
  refine ⟨e, t, rfl, h', _, rfl, X.before (upOf I fun b o eb hb => kall b (fun q => ?_) o (k₂ b o (F₁'.keep _ _ eb) hb))⟩
  exact Nat.lt_irrefl L (Nat.lt_of_lt_of_le (by rw [← q]; exact Heap.lt_size eb) F₁'.above)
end Mine

end

/- PT11 -/
section
open PySem PySem.W PyProof.Rows PySem.Calls PyProof.V PySem.Spec
set_option Elab.async false
set_option maxRecDepth 100000
namespace Mine

theorem fillT11_ (_ : PySem.Challenge.rw_bd6020_01 = PySem.Challenge.rw_bd6020_01) (_ : Mine.hd.heap_39 = Mine.hd.heap_39) : True := by
  have h : PySem.Challenge.rw_bd6020_01 = PySem.Challenge.rw_bd6020_01 ∧ Mine.hd.heap_39 = Mine.hd.heap_39 := by
    k_fill
    exact ⟨rfl, rfl⟩
  trivial
local macro_rules | `(tactic| walk_at "m.is") => `(tactic| first | (rw [Is.K (by assumption), Is.C (by assumption)]; k_is) | (rw [Is.K (by assumption)]; k_is))

section
variable {u : U} {g h₁ : Heap} {A : Around} {E : Value → Shared → Prop} {s' : Shared} {fd : FuncData} {f : Addr} {L e t : Addr} {x : Str} {m : Str → Option Value} {outer : List Env} {p1 p2 p3 p4 pos np : Pos} {Q : Flow → Shared → Prop}

theorem catch_str (hfr : A.frames = some (callEnv fd L f :: outer)) (hu : A.units + 2 < cLine) (I : TInv u g (L :: fs outer) h₁) (F : Fr g L h₁ m) (hff : h₁.FunFrames g outer) (X : Thrown u g (callEnv fd L f :: outer) e t x h₁ s'.heap)
    (hk : fd.scope.kind = .function) (hx : fd.scope.names.lookup ("ValueError" : Str) = some .globalImplicit) (hx2 : fd.scope.names.lookup ("str" : Str) = some .globalImplicit) (hx3 : fd.scope.names.lookup ("fault" : Str) = some .local) (hg : fd.globals = mainGlobals) (hb : fd.builtins = builtinsNs)
    (ne : nsIn u.K mainGlobals "ValueError" = some none) (ns : nsIn u.K mainGlobals "str" = some none)
    (h : ∀ h' tk tk2, TInv u g (fs outer) h' → (∀ b o, b ≠ L → h₁.get? b = some o → (∀ vs, o.data ≠ .fields vs) → ∃ sl, h'.get? b = some { o with slots := sl }) → Q (.ret (.str x tk2)) { s' with heap := h', toks := tk }) :
    wpAny (model u.prog u.w) A (noteFrame (.ref e) (callEnv fd L f)) (fun _ s₂ => wpAny (model u.prog u.w) A (setFlight (.ref e) none) (fun _ s₃ =>
      wpAny (model u.prog u.w) A (handleBy (.ref e) (callEnv fd L f) [.ExceptHandler (some (.Name "ValueError" np)) (some "fault") [.Return (some (.Call (.Name "str" p1) [.Name "fault" p2] [] p3)) p4] pos]) Q E s₃) E s₂) E s' := by
  refine caught hfr X I.b hk hx hg hb ne fun h₅ tk₅ X₅ ex₅ tp₅ => ?_
  have F₅ : Fr g L h₅ m := Fr.of_stays F X₅.stays X₅.up
  have I₅ : TInv u g (L :: fs outer) h₅ := X₅.tinv I (Nat.le_trans F₅.above (Nat.le_of_lt F₅.ns.lt)) fun a ha => by
    rcases List.mem_cons.mp ha with rfl | ha
    · obtain ⟨o, es, ep, eo, hd, _⟩ := F.ns
      exact ⟨o, eo, fun vs q => by rw [hd] at q; cases q⟩
    · exact fs_frames hff a ha
  refine stT (s := { s' with heap := h₅ }) F₅ I₅ hk hx3 fun h₆ I₆ F₆ k₆ => ?_
  have nL : ∀ {a : Addr} {o : Obj}, h₅.get? a = some o → (∀ es n, o.data ≠ .dict es n) → a ≠ L := fun {a o} ea hd q => by
    obtain ⟨oL, es, ep, eL, dL, _⟩ := F₅.ns
    rw [q, eL] at ea; cases ea; exact hd _ _ dL
  have ex₆ : h₆.ExcAt e "ValueError" (.ref t) := by
    obtain ⟨o, vs, e1, e2, e3, e4⟩ := ex₅
    exact ⟨o, vs, k₆ e (nL e1 fun es n q => by rw [e3] at q; cases q) _ e1, e2, e3, e4⟩
  have tp₆ : h₆.TupAt t [.str x tk₅] := by
    obtain ⟨o, n, e1, e2, e3⟩ := tp₅
    exact ⟨o, n, k₆ t (nL e1 fun es n q => by rw [e3] at q; cases q) _ e1, e2, e3⟩
  refine wpAny_execs_cons (wpAny_Return_some (Call_ (nameBT (s := ⟨h₆, s'.gens, s'.drawn, _, s'.os⟩) I₆ hk hx2 hg hb ns (by boot_by_name) (by decide) ?_)))
  refine PyProof.Rows.callWith_type1 (spliced_more (nameL (s := ⟨h₆, s'.gens, s'.drawn, _, s'.os⟩) F₆ hk hx3 (if_pos rfl) (spliced_none ?_)))
  refine PySem.P.str_of_exc_one (A := A.mark (some (.ref e))) PySem.F.excStr_ValueError (s := ⟨h₆, s'.gens, s'.drawn, _, s'.os⟩) hu ex₆ tp₆ ?_
  refine wpAny_nameGoes (env := callEnv fd L f) hx3 F₆.ns (by show (fd.scope.kind == .class || (fd.scope.kind == .module && _)) = false; rw [hk]; rfl) fun h₇ m₇ n₇ hs₇ => ?_
  obtain ⟨o, eo, nc⟩ := frame_notCode F₆
  obtain ⟨o', eo', _⟩ := NotCode.ns n₇
  have k₇ : ∀ b, b ≠ L → ∀ o, h₆.get? b = some o → h₇.get? b = some o := fun b hb o e => (hs₇.2 b hb).trans e
  refine h h₇ _ _ (I₆.store (.head _) eo nc k₇ (Nat.le_trans I₆.sz (Nat.le_of_eq hs₇.1.symm)) ⟨o', eo'⟩).drop fun b o hb e1 hn => ?_
  obtain ⟨sl, e2⟩ := X₅.up b o e1 hn
  exact ⟨sl, k₇ b hb _ (k₆ b hb _ e2)⟩
end

set_option maxHeartbeats 4000000 in
theorem leaf_thrown {u : U} (hu : Is2 u) {g : Heap} {A : Around} {s : Shared} {T x : Str} {tm tp : Tok} {p : Nat} {vs vc : Value} {outer : List Env} (hfr : A.frames = some outer) (hff : s.heap.FunFrames g outer) (hR : Room A 47) (I : TInv u g (fs outer) s.heap)
    (hl : ∀ (A : Around) (s : Shared) (outer : List Env), A.frames = some outer → s.heap.FunFrames g outer → Room A 46 → TInv u g (fs outer) s.heap →
      codeAny (model u.prog u.w) A (.call (.ref 1490) ⟨[.str T tm], [("start", .int p tp), ("strict", vs), ("consume_trailing", vc)]⟩) (fun rr s' => ∃ e t, rr = .error (.ref e) ∧ ∃ h' tk', s' = { s with heap := h', toks := tk' } ∧ Thrown u g outer e t x s.heap h') s) :
    codeAny (model u.prog u.w) A (.call (.ref 1526) ⟨[.str T tm, .int p tp, vs, vc], []⟩) (fun rr s' => ∃ tk2, rr = .ok (.ret (.str x tk2)) ∧ ∃ h' tk', s' = { s with heap := h', toks := tk' } ∧ TInv u g (fs outer) h' ∧ s.heap.UpToSlots h') s := by
  have hu1 := hu.toIs
  refine' enterE (d := 46) (binds := [(("text" : Str), .str T tm), (("start" : Str), .int p tp), (("strict" : Str), vs), (("rest" : Str), vc)]) ⟨none, #[], ?hf⟩ ?hb ?hcd ?hbind ?hcell ?hloc ?hco ?hgen ?hk hR I ?_
  case hf => rw [hu1.K]; k_is
  case hb => rfl
  case hcd => rw [hu1.K]; k_is
  case hbind => exact BindsTo.of_eq rfl
  case hcell => decide
  case hloc => exact locs rfl
  case hco => rfl
  case hgen => rfl
  case hk => rfl
  intro L h₁ I₁ F₁ F₁'
  (try dsimp only)
  have nP : nsIn u.K mainGlobals "loads" = some (some (.ref 1490)) := by walk_at "m.is"
  have kP : keepIn u.K (.ref 1490) = true := by walk_at "m.is"
  have nV : nsIn u.K mainGlobals "ValueError" = some none := by walk_at "m.is"
  have nS : nsIn u.K mainGlobals "str" = some none := by walk_at "m.is"
  have hff₁ := ffKeep hff fun a ha o eo => F₁'.keep _ _ eo
  refine wpAny_execs_cons (wpAny_Try_except (wpAny_execs_cons (wpAny_Expr (CallKW_ (nameGT (s := ⟨h₁, s.gens, s.drawn, _, s.os⟩) I₁ rfl rfl rfl nP ?_)))))
  refine callWith_KW (K := u.K) (h₀ := h₁) I₁.K kP (by rfl) ?_
  refine spliced_more (nameL (s := ⟨h₁, s.gens, s.drawn, _, s.os⟩) F₁ rfl rfl rfl (spliced_none ?_))
  refine kws_cons (nameL (s := ⟨h₁, s.gens, s.drawn, _, s.os⟩) F₁ rfl rfl rfl ?_)
  refine kws_cons (nameL (s := ⟨h₁, s.gens, s.drawn, _, s.os⟩) F₁ rfl rfl rfl ?_)
  refine kws_cons (nameL (s := ⟨h₁, s.gens, s.drawn, _, s.os⟩) F₁ rfl rfl rfl ?_)
  refine kws_nil ⟨I₁.K, wpAny_call ?_⟩
  refine codeAny_mono (hl _ ⟨h₁, s.gens, s.drawn, _, s.os⟩ _ (Around.frames_deeper hfr) (ffPush F₁ (by intro q; cases q) rfl hff₁) (hR.deeper.less (by omega)) I₁) fun rr s' hd => ?_
  obtain ⟨e, t, rfl, h', tk', rfl, X⟩ := hd
  refine catch_str (h₁ := h₁) (Around.frames_deeper hfr) (show A.units + 3 + 2 < cLine by have := hR.un; omega) I₁ F₁ hff₁ X rfl rfl rfl rfl rfl rfl nV nS fun h₇ tk tk2 I₇ k₇ => ?_
  exact ⟨tk2, rfl, h₇, tk, rfl, I₇, fun b o e1 hn => k₇ b o (fun q => Nat.lt_irrefl L (Nat.lt_of_lt_of_le (by rw [← q]; exact Heap.lt_size e1) F₁'.above)) (F₁'.keep _ _ e1) hn⟩

set_option maxHeartbeats 4000000 in
theorem leaf_empty {u : U} (hu : Is2 u) {g : Heap} {A : Around} {s : Shared} {tp : Tok} {p : Nat} {vs vc : Value} {outer : List Env} (hfr : A.frames = some outer) (hff : s.heap.FunFrames g outer) (hR : Room A 3) (I : TInv u g (fs outer) s.heap) :
    codeAny (model u.prog u.w) A (.call (.ref 1533) ⟨[.int p tp, vs, vc], []⟩) (fun rr s' => ∃ tk2, rr = .ok (.ret (.str emptyW tk2)) ∧ ∃ h' tk', s' = { s with heap := h', toks := tk' } ∧ TInv u g (fs outer) h' ∧ s.heap.UpToSlots h') s := by
  have hu1 := hu.toIs
  refine' enterE (d := 2) (binds := [(("start" : Str), .int p tp), (("strict" : Str), vs), (("rest" : Str), vc)]) ⟨none, #[], ?hf⟩ ?hb ?hcd ?hbind ?hcell ?hloc ?hco ?hgen ?hk hR I ?_
  case hf => rw [hu1.K]; k_is
  case hb => rfl
  case hcd => rw [hu1.K]; k_is
  case hbind => exact BindsTo.of_eq rfl
  case hcell => decide
  case hloc => exact locs rfl
  case hco => rfl
  case hgen => rfl
  case hk => rfl
  intro L h₁ I₁ F₁ F₁'
  (try dsimp only)
  have nP : nsIn u.K mainGlobals "parse" = some (some (.ref 1498)) := by walk_at "m.is"
  have kP : keepIn u.K (.ref 1498) = true := by walk_at "m.is"
  have nV : nsIn u.K mainGlobals "ValueError" = some none := by walk_at "m.is"
  have nS : nsIn u.K mainGlobals "str" = some none := by walk_at "m.is"
  have hff₁ := ffKeep hff fun a ha o eo => F₁'.keep _ _ eo
  refine wpAny_execs_cons (wpAny_Try_except (wpAny_execs_cons (wpAny_Expr (CallKW_ (nameGT (s := ⟨h₁, s.gens, s.drawn, _, s.os⟩) I₁ rfl rfl rfl nP ?_)))))
  refine callWith_KW (K := u.K) (h₀ := h₁) I₁.K kP (by rfl) ?_
  refine spliced_more (Constant_str (spliced_none ?_))
  refine kws_cons (nameL (s := ⟨h₁, s.gens, s.drawn, _, s.os⟩) F₁ rfl rfl rfl ?_)
  refine kws_cons (nameL (s := ⟨h₁, s.gens, s.drawn, _, s.os⟩) F₁ rfl rfl rfl ?_)
  refine kws_cons (nameL (s := ⟨h₁, s.gens, s.drawn, _, s.os⟩) F₁ rfl rfl rfl ?_)
  refine kws_nil ⟨I₁.K, wpAny_call ?_⟩
  refine codeAny_mono (leaf_mparse0 hu (s := ⟨h₁, s.gens, s.drawn, _, s.os⟩) (Around.frames_deeper hfr) (ffPush F₁ (by intro q; cases q) rfl hff₁) (hR.deeper.less (by omega)) I₁ (.inl rfl)) fun rr s' hd => ?_
  obtain ⟨e, t, rfl, h', tk', rfl, X⟩ := hd
  refine catch_str (h₁ := h₁) (Around.frames_deeper hfr) (show A.units + 3 + 2 < cLine by have := hR.un; omega) I₁ F₁ hff₁ X rfl rfl rfl rfl rfl rfl nV nS fun h₇ tk tk2 I₇ k₇ => ?_
  exact ⟨tk2, rfl, h₇, tk, rfl, I₇, fun b o e1 hn => k₇ b o (fun q => Nat.lt_irrefl L (Nat.lt_of_lt_of_le (by rw [← q]; exact Heap.lt_size e1) F₁'.above)) (F₁'.keep _ _ e1) hn⟩
end Mine

end

/- PT12 -/
section
open PySem PySem.W PyProof.Rows PySem.Calls PyProof.V PySem.Spec
set_option Elab.async false
set_option maxRecDepth 100000
namespace Mine

theorem fillT12_ (_ : PySem.Challenge.rw_bd6020_01 = PySem.Challenge.rw_bd6020_01) (_ : Mine.hd.heap_39 = Mine.hd.heap_39) : True := by
  have h : PySem.Challenge.rw_bd6020_01 = PySem.Challenge.rw_bd6020_01 ∧ Mine.hd.heap_39 = Mine.hd.heap_39 := by
    k_fill
    exact ⟨rfl, rfl⟩
  trivial
local macro_rules | `(tactic| walk_at "m.is") => `(tactic| first | (rw [Is.K (by assumption), Is.C (by assumption)]; k_is) | (rw [Is.K (by assumption)]; k_is))

theorem ints_get : ∀ {vs : List Value} {ns : List Int}, IntsAre vs ns → ∀ i, i < ns.length → ∃ t, vs[i]? = some (.int (ns.getD i 0) t)
  | _, _, .nil, i, h => absurd h (Nat.not_lt_zero _)
  | _, _, .cons n t r, 0, _ => ⟨t, rfl⟩
  | _, _, .cons n t r, i + 1, h => by
    obtain ⟨t', e⟩ := ints_get r i (Nat.lt_of_succ_lt_succ h)
    exact ⟨t', by simpa using e⟩

/-- what the law draws at a place -/
def numOf (ns : List Int) (k : Nat) : Int := (if ns.length = 0 then 0 else ns.getD (k % ns.length) 0) + 11 * k

set_option maxHeartbeats 4000000 in
theorem leaf_number {u : U} (hu : Is u) {g : Heap} {A : Around} {s : Shared} {a : Addr} {k : Nat} {tk : Tok} {ns : List Int} {vs : List Value} (hR : Room A 1) (I : TInv u g [] s.heap) (hl : g.IsList a vs.toArray) (hv : IntsAre vs ns) (hlen : ns.length ≤ 63) (hk : k ≤ 100) :
    codeAny (model u.prog u.w) A (.call (.ref 1519) ⟨[.ref a, .int (k : Int) tk], []⟩) (fun rr s' => ∃ v, rr = .ok (.ret v) ∧ (∃ t, v = .int (numOf ns k) t) ∧ ∃ h' tk', s' = { s with heap := h', toks := tk' } ∧ TInv u g [] h') s := by
  refine' enterT (d := 0) (binds := [(("script" : Str), .ref a), (("place" : Str), .int (k : Int) tk)]) ⟨none, #[], ?hf⟩ ?hb ?hcd ?hbind ?hcell ?hloc ?hco ?hgen ?hk hR I ?_
  case hf => rw [hu.K]; k_is
  case hb => rfl
  case hcd => rw [hu.K]; k_is
  case hbind => exact BindsTo.of_eq rfl
  case hcell => decide
  case hloc => exact locs rfl
  case hco => rfl
  case hgen => rfl
  case hk => rfl
  intro L h₁ I₁ F₁ _
  (try dsimp only)
  have nl : nsIn u.K mainGlobals "len" = some none := by walk_at "m.is"
  have hl₁ : h₁.IsList a vs.toArray := let ⟨o, ho, r⟩ := hl; ⟨o, I₁.st _ _ ho, r⟩
  have hvl : vs.length = ns.length := hv.length
  have hsz : (vs.toArray.size : Int) < 2 ^ 63 := by simp only [List.size_toArray]; omega
  refine wpAny_execs_cons (wpAny_Return_some (wpAny_BinOp (IfExp_ (isTrue_plain (nameL (s := ⟨h₁, s.gens, s.drawn, _, s.os⟩) F₁ rfl rfl rfl (wpAny_truthy_list hl₁ hsz ?_))))))
  by_cases h0 : ns.length = 0
  · have hv0 : vs = [] := List.eq_nil_of_length_eq_zero (by omega)
    subst hv0
    rw [if_neg (by decide)]
    refine wpAny_Constant_int (wpAny_BinOp (wpAny_Constant_int (nameL (s := ⟨h₁, s.gens, s.drawn, _, s.os⟩) F₁ rfl rfl rfl (PyProof.Rows.mul_int (add_int ?_) ?_))))
    · have en : (0 : Int) + 11 * (k : Int) = numOf ns k := by unfold numOf; rw [if_pos h0]
      rw [en]
      exact ⟨_, rfl, ⟨_, rfl⟩, h₁, _, rfl, I₁.drop⟩
    · exact IntMulOk.of_left (by decide)
  · rw [if_pos (by simp [Array.isEmpty]; intro q; rw [q] at hvl; simp at hvl; omega)]
    refine Subscript_ (nameL (s := ⟨h₁, s.gens, s.drawn, _, s.os⟩) F₁ rfl rfl rfl (wpAny_BinOp (nameL (s := ⟨h₁, s.gens, s.drawn, _, s.os⟩) F₁ rfl rfl rfl ?_)))
    refine Call_ (nameBT (s := ⟨h₁, s.gens, s.drawn, _, s.os⟩) I₁ rfl rfl rfl rfl nl (by boot_by_name) (by decide) ?_)
    refine callWith_method1 (spliced_more (nameL (s := ⟨h₁, s.gens, s.drawn, _, s.os⟩) F₁ rfl rfl rfl (spliced_none (PyProof.Rows.len_list hl₁ hsz ?_))))
    have hn0 : ((vs.toArray.size : Nat) : Int) ≠ 0 := by simp only [List.size_toArray]; omega
    refine PyProof.Rows.mod_int hn0 ?_
    have hi : k % ns.length < ns.length := Nat.mod_lt _ (by omega)
    obtain ⟨t, et⟩ := ints_get hv _ hi
    have em : ((k : Int).fmod ((vs.toArray.size : Nat) : Int)) = ((k % ns.length : Nat) : Int) := by
      simp only [List.size_toArray]
      rw [hvl, Int.fmod_eq_emod_of_nonneg _ (by omega)]; omega
    rw [em]
    refine PyProof.Rows.item_list (x := .int (ns.getD (k % ns.length) 0) t) hl₁ (by omega) (by omega) (by rw [Int.toNat_natCast]; simpa using et) ?_
    refine wpAny_BinOp (wpAny_Constant_int (nameL (s := ⟨h₁, s.gens, s.drawn, _, s.os⟩) F₁ rfl rfl rfl (PyProof.Rows.mul_int (add_int ?_) ?_)))
    · have en : ns.getD (k % ns.length) 0 + 11 * (k : Int) = numOf ns k := by unfold numOf; rw [if_neg h0]
      rw [en]
      exact ⟨_, rfl, ⟨_, rfl⟩, h₁, _, rfl, I₁.drop⟩
    · exact IntMulOk.of_left (by decide)
end Mine

end

/- PX1 -/
section
open PySem PySem.W PyProof.Rows PySem.Calls
set_option Elab.async false
set_option maxRecDepth 100000
namespace Mine

/-- where the ends of lines stand -/
def lf : Nat → List Nat → List Nat
  | _, [] => []
  | o, c :: l => if c = 10 then o :: lf (o + 1) l else lf (o + 1) l
def lastStart (o : Nat) (cuts : List Nat) : Nat := match cuts.getLast? with | none => o | some j => j + 1

theorem lastStart_cons (o j : Nat) (r : List Nat) : lastStart o (j :: r) = lastStart (j + 1) r := by
  unfold lastStart
  cases r with
  | nil => rfl
  | cons a r => rw [List.getLast?_cons_cons]; cases h : (a :: r).getLast? with
    | none => simp at h
    | some k => rfl

theorem offs_lf : ∀ (l : List Nat) (a b o q : Nat), q ≤ o → b = o - q + 1 → offs l (a, b) = (a + (lf o l).length, o + l.length - lastStart q (lf o l) + 1) ∧ lastStart q (lf o l) ≤ o + l.length
  | [], a, b, o, q, h, hb => by simp [offs, lf, lastStart]; omega
  | c :: l, a, b, o, q, h, hb => by
    have e : offs (c :: l) (a, b) = offs l (if c = 10 then (a + 1, 1) else (a, b + 1)) := rfl
    by_cases hc : c = 10
    · have ih := offs_lf l (a + 1) 1 (o + 1) (o + 1) (Nat.le_refl _) (by omega)
      have e2 : lf o (c :: l) = o :: lf (o + 1) l := by show (if c = 10 then _ else _) = _; rw [if_pos hc]
      rw [e, if_pos hc, e2, lastStart_cons, ih.1]
      simp only [List.length_cons]
      refine ⟨?_, by omega⟩
      congr 1 <;> omega
    · have ih := offs_lf l a (b + 1) (o + 1) q (by omega) (by omega)
      have e2 : lf o (c :: l) = lf (o + 1) l := by show (if c = 10 then _ else _) = _; rw [if_neg hc]
      rw [e, if_neg hc, e2, ih.1]
      simp only [List.length_cons]
      refine ⟨?_, by omega⟩
      congr 1; omega

abbrev nlS : Str := ⟨#[10]⟩
theorem subAt_lf {T : Str} {i c : Nat} (h : T.cps[i]? = some c) : Builtin.Str.subAt T nlS i = decide (c = 10) := by
  have hi : i < T.cps.size := by
    rcases Nat.lt_or_ge i T.cps.size with q | q
    · exact q
    · rw [Array.getElem?_eq_none q] at h; cases h
  have e : T.cps.extract i (i + 1) = #[c] := by
    apply Array.ext
    · simp; omega
    · intro j h1 h2
      have h2' : j < 1 := by simpa using h2
      have : j = 0 := by omega
      subst this
      rw [Array.getElem_extract]
      rw [Array.getElem?_eq_getElem hi] at h
      simpa using h
  show (T.cps.extract i (i + 1) == #[10]) = _
  rw [e]
  by_cases hc : c = 10
  · subst hc; decide
  · rw [decide_eq_false hc]
    exact beq_eq_false_iff_ne.mpr fun q => hc (by injection q with q; injection q)

theorem occ_go {T : Str} : ∀ (l : List Nat) (i : Nat) (found : Array Nat) (free : Nat), T.cps.toList.drop i = l → i + l.length = T.length → free ≤ i → found.size ≤ i →
    (forIn (List.range' i (T.length + 1 - i)) (found, free) (StrLaws.occBody T nlS T.length (T.length + 1))).run.fst.toList = found.toList ++ lf i l
  | [], i, found, free, hd, hi, hf, hs => by
    have e : T.length + 1 - i = 1 := by simp at hi; omega
    rw [e, List.range'_succ, List.forIn_cons]
    have nb : ¬ (((found.size < T.length + 1 ∧ free ≤ i) ∧ i + nlS.length ≤ T.length) ∧ Builtin.Str.subAt T nlS i = true) := fun q => by
      have := q.1.2
      have e1 : nlS.length = 1 := rfl
      simp at hi; omega
    have eb : StrLaws.occBody T nlS T.length (T.length + 1) i (found, free) = pure (ForInStep.yield (found, free)) := by
      unfold StrLaws.occBody; rw [if_neg nb]
    rw [eb]
    simp [lf]
  | c :: l, i, found, free, hd, hi, hf, hs => by
    simp only [List.length_cons] at hi
    have hc : T.cps[i]? = some c := by
      rw [← Array.getElem?_toList]
      have := congrArg List.head? hd
      rwa [List.head?_drop] at this
    have hd' : T.cps.toList.drop (i + 1) = l := by
      have := congrArg List.tail hd
      rwa [List.tail_drop] at this
    rw [show T.length + 1 - i = (T.length + 1 - (i + 1)) + 1 by omega, List.range'_succ, List.forIn_cons]
    have e1 : nlS.length = 1 := rfl
    by_cases h10 : c = 10
    · have eb : StrLaws.occBody T nlS T.length (T.length + 1) i (found, free) = pure (ForInStep.yield (found.push i, i + 1)) := by
        unfold StrLaws.occBody
        have hs10 : Builtin.Str.subAt T nlS i = true := by rw [subAt_lf hc]; exact decide_eq_true h10
        rw [if_pos ⟨⟨⟨by show found.size < _; omega, hf⟩, by rw [e1]; omega⟩, hs10⟩]
        rfl
      rw [eb]
      refine Eq.trans (occ_go l (i + 1) (found.push i) (i + 1) hd' (by omega) (Nat.le_refl _) (by simp; omega)) ?_
      show _ = found.toList ++ (if c = 10 then _ else _)
      rw [if_pos h10]; simp
    · have eb : StrLaws.occBody T nlS T.length (T.length + 1) i (found, free) = pure (ForInStep.yield (found, free)) := by
        unfold StrLaws.occBody
        rw [if_neg fun q => by have := q.2; rw [subAt_lf hc, decide_eq_false h10] at this; cases this]
      rw [eb]
      refine Eq.trans (occ_go l (i + 1) found free hd' (by omega) (by omega) (by omega)) ?_
      show _ = found.toList ++ (if c = 10 then _ else _)
      rw [if_neg h10]

theorem occ_lf (T : Str) : Builtin.Str.occurrences T nlS 0 T.length (T.length + 1) = lf 0 T.cps.toList := by
  rw [StrLaws.occ_eq]
  have := occ_go (T := T) T.cps.toList 0 #[] 0 rfl (by show 0 + T.cps.toList.length = T.cps.size; simp) (Nat.le_refl _) (Nat.le_refl _)
  simpa using this

theorem strSub_len (T : Str) (i : Nat) (h : i ≤ T.length) : (Builtin.Str.strSub T i T.length).length = T.length - i := by
  show (T.cps.extract i T.cps.size).size = T.cps.size - i
  simp

theorem parts_last (T : Str) (cuts : List Nat) : (Builtin.Str.partsBetween T cuts 1)[cuts.length]? = some (Builtin.Str.strSub T (lastStart 0 cuts) T.length) := by
  unfold Builtin.Str.partsBetween
  dsimp only
  have hz : ((0 :: cuts.map (· + 1)).zip (cuts ++ [T.length]))[cuts.length]? = some (lastStart 0 cuts, T.length) := by
    refine List.getElem?_zip_eq_some.mpr ⟨?_, by simp⟩
    cases cuts with
    | nil => rfl
    | cons a r =>
      simp only [List.length_cons, List.getElem?_cons_succ, List.getElem?_map]
      unfold lastStart
      rw [List.getLast?_eq_getElem?]
      simp only [List.length_cons, Nat.add_sub_cancel]
      have : ((a :: r)[r.length]?) = some ((a :: r)[r.length]) := List.getElem?_eq_getElem (by simp)
      rw [this]; rfl
  rw [List.getElem?_map, hz]; rfl

theorem split_spec {T : Str} (hT : 0 < T.length) : ∃ x, (Txt.split T nlS).length = (offs T.cps.toList (1, 1)).1 ∧ (Txt.split T nlS)[(Txt.split T nlS).length - 1]? = some x ∧ x.length + 1 = (offs T.cps.toList (1, 1)).2 := by
  have h := offs_lf T.cps.toList 1 1 0 0 (Nat.le_refl _) rfl
  have hl : T.cps.toList.length = T.length := by rw [Array.length_toList]; rfl
  rw [hl] at h
  have e : Txt.split T nlS = Builtin.Str.partsBetween T (lf 0 T.cps.toList) 1 := by
    have k1 : (decide (T.length < nlS.length) || decide (Builtin.Str.strKind T < Builtin.Str.strKind nlS)) = false := by
      have a1 : nlS.length = 1 := rfl
      have a2 : Builtin.Str.strKind nlS = 1 := by decide +kernel
      have a3 : 1 ≤ Builtin.Str.strKind T := by
        unfold Builtin.Str.strKind
        split
        · exact Nat.le_refl _
        · split <;> omega
      rw [a1, a2, decide_eq_false (by omega), decide_eq_false (by omega)]; rfl
    unfold Txt.split
    rw [if_neg (by rw [k1]; decide), occ_lf]
    split
    · rename_i q
      have q' : lf 0 T.cps.toList = [] := List.isEmpty_iff.mp q
      rw [q']
      show _ = [Builtin.Str.strSub T 0 T.length]
      have : Builtin.Str.strSub T 0 T.length = T := by
        unfold Builtin.Str.strSub
        show (⟨T.cps.extract 0 T.cps.size⟩ : Str) = T
        rw [Array.extract_size]
      rw [this]
    · rfl
  rw [e]
  have len : (Builtin.Str.partsBetween T (lf 0 T.cps.toList) 1).length = (lf 0 T.cps.toList).length + 1 := length_partsBetween _ _ _
  refine ⟨Builtin.Str.strSub T (lastStart 0 (lf 0 T.cps.toList)) T.length, ?_, ?_, ?_⟩
  · rw [len, h.1]; omega
  · rw [len, Nat.add_sub_cancel]; exact parts_last T _
  · rw [strSub_len _ _ (by omega), h.1]
    simp only [Nat.zero_add]

theorem strAppAssoc (a b c : Str) : a ++ b ++ c = a ++ (b ++ c) := by
  show (⟨(a.cps ++ b.cps) ++ c.cps⟩ : Str) = ⟨a.cps ++ (b.cps ++ c.cps)⟩
  rw [Array.append_assoc]

theorem words_law {T : Str} {a b : Int} (ha : a = ((offs T.cps.toList (1, 1)).1 : Int)) (hb : b = ((offs T.cps.toList (1, 1)).2 : Int)) :
    ("<string>:" : Str) ++ ((toString a : String) : Str) ++ (" Unexpected end of input at column " : Str) ++ ((toString b : String) : Str) = words T := by
  subst ha hb
  unfold words
  generalize ((toString ((offs T.cps.toList (1, 1)).1 : Int) : String) : Str) = x
  generalize ((toString ((offs T.cps.toList (1, 1)).2 : Int) : String) : Str) = y
  have e1 : ("<string>" : Str) ++ (":" : Str) = ("<string>:" : Str) := by decide +kernel
  have e2 : (" Unexpected " : Str) ++ (("end of input" : Str) ++ (" at column " : Str)) = (" Unexpected end of input at column " : Str) := by decide +kernel
  rw [e1, ← e2]
  simp only [strAppAssoc]
end Mine

end

/- PT13 -/
section
open PySem PySem.W PyProof.Rows PySem.Calls PyProof.V PySem.Spec
set_option Elab.async false
set_option maxRecDepth 100000
namespace Mine

theorem fillT13_ (_ : PySem.Challenge.rw_bd6020_01 = PySem.Challenge.rw_bd6020_01) (_ : Mine.hd.heap_39 = Mine.hd.heap_39) : True := by
  have h : PySem.Challenge.rw_bd6020_01 = PySem.Challenge.rw_bd6020_01 ∧ Mine.hd.heap_39 = Mine.hd.heap_39 := by
    k_fill
    exact ⟨rfl, rfl⟩
  trivial
local macro_rules | `(tactic| walk_at "m.is") => `(tactic| first | (rw [Is.K (by assumption), Is.C (by assumption)]; k_is) | (rw [Is.K (by assumption)]; k_is))

def mkS (l : List Nat) : Str := ⟨l.toArray⟩
theorem mkS_app (a b : List Nat) : mkS a ++ mkS b = mkS (a ++ b) := by
  show (⟨a.toArray ++ b.toArray⟩ : Str) = ⟨(a ++ b).toArray⟩
  simp
theorem mkS_len (a : List Nat) : (mkS a).length = a.length := by show a.toArray.size = _; simp
theorem mkS_list (a : List Nat) : (mkS a).cps.toList = a := rfl

def aheadL : Nat → List Nat
  | 2 => [49] | 3 => [91] | 4 => [97, 10] | 5 => [10, 10] | 6 => [47] | _ => []

/-- one turn of the law's loop -/
def turn (s : List Nat × Bool) (d : Nat) : List Nat × Bool := if s.2 then (s.1 ++ piece d, !open? d) else s
theorem turns_shut : ∀ (l : List Nat) (G : List Nat), l.foldl turn (G, false) = (G, false)
  | [], _ => rfl
  | _ :: r, G => turns_shut r G
theorem turns_open : ∀ (l : List Nat) (G : List Nat), (l.foldl turn (G, true)).1 = G ++ gapsOf l
  | [], G => by simp [gapsOf]
  | d :: r, G => by
    show (r.foldl turn (G ++ piece d, !open? d)).1 = G ++ gapsOf (d :: r)
    unfold gapsOf
    cases h : open? d with
    | true =>
      rw [if_pos rfl]
      show (r.foldl turn (_, false)).1 = _
      rw [turns_shut]
    | false =>
      rw [if_neg (by decide)]
      show (r.foldl turn (_, true)).1 = _
      rw [turns_open]
      simp [List.append_assoc]
theorem piece_len (d : Nat) : (piece d).length ≤ 7 := by unfold piece; split <;> simp
theorem gaps_len : ∀ l : List Nat, (gapsOf l).length ≤ 7 * l.length
  | [] => by simp [gapsOf]
  | d :: r => by
    have := gaps_len r
    have := piece_len d
    unfold gapsOf
    split <;> simp <;> omega
theorem turn_len (s : List Nat × Bool) (d : Nat) : (turn s d).1.length ≤ s.1.length + 7 := by
  have := piece_len d
  unfold turn
  split <;> simp <;> omega

theorem shut_eq : ∀ d, d < 12 → (((mkS (piece d)) != ("/*" : Str)) && (((mkS (piece d)) != ("/* *" : Str)) && ((mkS (piece d)) != ("//x" : Str)))) = !open? d := by
  intro d hd
  match d, hd with
  | 0, _ | 1, _ | 2, _ | 3, _ | 4, _ | 5, _ | 6, _ | 7, _ | 8, _ | 9, _ | 10, _ | 11, _ => decide +kernel
  | k + 12, h => exact absurd h (by omega)

section
variable {u : U} {A : Around} {E : Value → Shared → Prop} {s : Shared} {g : Heap} {N : List Addr} {L : Addr} {m : Str → Option Value}
theorem evRangeT {n : Nat} {t : Tok} {Q : Value → Shared → Prop} (F : Fr g L s.heap m) (I : TInv u g [L] s.heap) (hn : n ≤ 100000)
    (h : ∀ It h' tk, TInv u g [L, It] h' → Fr g L h' m → L ≠ It → IsRangeIter h' It ((0 : Int) + ((0 : Nat) : Int) * 1) ((n : Int) - ((0 : Nat) : Int)) 1 → Q (.ref It) { s with heap := h', toks := tk }) :
    wpAny (model u.prog u.w) A (call (.type "range") [.int n t]) (fun v s₁ => wpAny (model u.prog u.w) A (pyIter v) Q E s₁) E s := by
  refine call_range_1 ?_
  refine wpAny_pyIter_range (a := 0) (b := n) (c := 1) (Heap.get?_push_size _ rfl) (small_one (by omega) (by omega) (by omega) (by omega)) ?_
  (try dsimp only)
  have I₄ := I.push { cls := .type "range", data := .fields #[.int 0 s.toks, .int n t, .int 1 (s.toks + 1)] }
  have F₄ := F.push { cls := .type "range", data := .fields #[.int 0 s.toks, .int n t, .int 1 (s.toks + 1)] }
  generalize hH : s.heap.push { cls := .type "range", data := .fields #[.int 0 s.toks, .int n t, .int 1 (s.toks + 1)] } = H at I₄ F₄ ⊢
  refine h H.objs.size _ _ ((I₄.priv (a := H.objs.size) I₄.sz (Heap.get?_none_of_le (Nat.le_refl _)) (fun b o e => Heap.get?_push_of_some { cls := .type "range_iterator", data := .fields #[rawInt 0, rawInt (Builtin.Range.rangeSize 0 n 1), rawInt 1] } e) (by rw [Heap.size_push]; omega) ⟨_, Heap.get?_push_size _ rfl⟩).sub fun a ha => ?_) (F₄.push _) (Nat.ne_of_lt F₄.ns.lt) ?_
  · rcases List.mem_cons.mp ha with rfl | ha
    · exact .tail _ (.head _)
    · rcases List.mem_singleton.mp ha with rfl; exact .head _
  · rw [rangeSize_one]
    have e1 : (if (0 : Int) < (n : Int) then (n : Int) - 0 else 0) = (n : Int) - ((0 : Nat) : Int) := by split <;> omega
    rw [e1]
    exact Heap.get?_push_size _ rfl

/-- a number is drawn from the script -/
theorem drawT {a : Addr} {k : Nat} {tk : Tok} {ns : List Int} {vs : List Value} {Q : Value → Shared → Prop} (hu : Is u) (F : Fr g L s.heap m) (I : TInv u g (L :: N) s.heap) (hR : Room A 1) (hl : g.IsList a vs.toArray) (hv : IntsAre vs ns) (hlen : ns.length ≤ 63) (hk : k ≤ 100)
    (h : ∀ t h' tk, TInv u g (L :: N) h' → Fr g L h' m → (∀ a ∈ N, ∀ o, s.heap.get? a = some o → h'.get? a = some o) → Q (.int (numOf ns k) t) { s with heap := h', toks := tk }) :
    wpAny (model u.prog u.w) A (call (.ref 1519) [.ref a, .int (k : Int) tk]) Q E s := by
  refine wpAny_call (runT (V := fun _ v => ∃ t, v = .int (numOf ns k) t) (fun g' st up rest J => ?_) F I fun v h' tk' hv I' F' kN _ => ?_)
  · refine codeAny_mono (leaf_number hu hR J (let ⟨o, ho, r⟩ := hl; ⟨o, st _ _ ho, r⟩) hv hlen hk) fun rr s' hd => ?_
    obtain ⟨v, rfl, hv, hh⟩ := hd
    exact ⟨v, rfl, hv, hh⟩
  · obtain ⟨t, rfl⟩ := hv
    exact h t h' tk' I' F' kN
end

theorem ahead_at {u : U} (hu : Is u) {h : Heap} (X : u.K.In h) : ∃ items : List Value, IsTup h 1511 items.toArray ∧ items.length = 7 ∧ ∀ i, i < 7 → ∃ t, items[i]? = some (.str (mkS (aheadL i)) t) := by
  refine' ⟨_, tupK (K := u.K) X ?e, ?_, ?_⟩
  case e => rw [hu.K]; k_is
  · rfl
  · intro i hi
    match i, hi with
    | 0, _ | 1, _ | 2, _ | 3, _ | 4, _ | 5, _ | 6, _ => exact ⟨_, rfl⟩
    | k + 7, h => exact absurd h (by omega)
theorem gaps_at {u : U} (hu : Is u) {h : Heap} (X : u.K.In h) : ∃ items : List Value, IsTup h 1512 items.toArray ∧ items.length = 12 ∧ ∀ i, i < 12 → ∃ t, items[i]? = some (.str (mkS (piece i)) t) := by
  refine' ⟨_, tupK (K := u.K) X ?e, ?_, ?_⟩
  case e => rw [hu.K]; k_is
  · rfl
  · intro i hi
    match i, hi with
    | 0, _ | 1, _ | 2, _ | 3, _ | 4, _ | 5, _ | 6, _ | 7, _ | 8, _ | 9, _ | 10, _ | 11, _ => exact ⟨_, rfl⟩
    | k + 12, h => exact absurd h (by omega)

/-- a place of the list «script», by a remainder -/
theorem fmodN {a : Int} {n : Nat} (hn : 0 < n) : a.fmod (n : Int) = ((a.fmod (n : Int)).toNat : Int) ∧ (a.fmod (n : Int)).toNat < n := by
  have h0 : 0 ≤ a.fmod (n : Int) := Int.fmod_nonneg_of_pos _ (by omega)
  have h1 : a.fmod (n : Int) < (n : Int) := Int.fmod_lt_of_pos _ (by omega)
  omega

section
variable {prog : Program} {w : World} {A : Around} {E : Value → Shared → Prop} {s : Shared}
/-- an item of a tuple at a remainder -/
theorem itemR {value slice : Expr} {t : Addr} {items : List Value} {k : Int} {j : Nat} {u : Tok} {x : Value} {Q : Value → Shared → Prop} (ht : IsTup s.heap t items.toArray) (hk : k = (j : Int)) (hj : j < items.length) (hb : items.length ≤ 1000) (hx : items[j]? = some x) (h : Q x s)
    (hs : subscripted slice false (.ref t) (.int k u) = operate [.ref t, .int k u] (getItem (.ref t) (.int k u)) := by with_unfolding_all rfl) (hg : ∀ r, letTemporaryGo value (.ref t) r = pure () := by intro _; with_unfolding_all rfl) :
    wpAny (model prog w) A (subscriptTail value slice (.ref t) (.int k u)) Q E s := by
  refine item_tuple (j := j) ht (by omega) (by omega) ?_ (by simpa using hx) h hs hg
  unfold seqIndex?
  rw [hk]
  simp only []
  first | (split <;> simp_all <;> omega) | simp_all
end
end Mine

end

/- PT14 -/
section
open PySem PySem.W PyProof.Rows PySem.Calls PyProof.V PySem.Spec
set_option Elab.async false
set_option maxRecDepth 100000
namespace Mine

theorem fillT14_ (_ : PySem.Challenge.rw_bd6020_01 = PySem.Challenge.rw_bd6020_01) (_ : Mine.hd.heap_39 = Mine.hd.heap_39) : True := by
  have h : PySem.Challenge.rw_bd6020_01 = PySem.Challenge.rw_bd6020_01 ∧ Mine.hd.heap_39 = Mine.hd.heap_39 := by
    k_fill
    exact ⟨rfl, rfl⟩
  trivial
local macro_rules | `(tactic| walk_at "m.is") => `(tactic| first | (rw [Is.K (by assumption), Is.C (by assumption)]; k_is) | (rw [Is.K (by assumption)]; k_is))

/-- the numbers that the law's loop draws -/
def draws (ns : List Int) (n : Nat) : List Nat := (List.range n).map fun j => ((numOf ns (2 + j)).fmod ((12 : Nat) : Int)).toNat
theorem draws_succ (ns : List Int) (i : Nat) : draws ns (i + 1) = draws ns i ++ [((numOf ns (2 + i)).fmod ((12 : Nat) : Int)).toNat] := by
  unfold draws; rw [List.range_succ, List.map_append]; rfl
theorem draws_lt (ns : List Int) (n : Nat) : ∀ i ∈ draws ns n, i < 12 := by
  intro i hi
  obtain ⟨j, _, rfl⟩ := List.mem_map.mp hi
  exact (fmodN (by decide)).2
theorem draws_len (ns : List Int) (n : Nat) : (draws ns n).length = n := by simp [draws]
abbrev stOf (ns : List Int) (i : Nat) : List Nat × Bool := (draws ns i).foldl turn ([], true)
theorem stOf_succ (ns : List Int) (i : Nat) : stOf ns (i + 1) = turn (stOf ns i) ((numOf ns (2 + i)).fmod ((12 : Nat) : Int)).toNat := by
  unfold stOf; rw [draws_succ, List.foldl_append]; rfl
theorem stOf_len (ns : List Int) : ∀ i, (stOf ns i).1.length ≤ 7 * i
  | 0 => by simp [stOf, draws]
  | i + 1 => by
    rw [stOf_succ]
    have := turn_len (stOf ns i) ((numOf ns (2 + i)).fmod ((12 : Nat) : Int)).toNat
    have := stOf_len ns i
    omega

structure LawMap (m : Str → Option Value) (a : Addr) (fst : Int) (t₁ : Tok) (b1 b2 : Bool) (ai : Nat) (ta : Tok) : Prop where
  script : m "script" = some (.ref a)
  first : m "first" = some (.int fst t₁)
  strict : m "strict" = some (.bool b1)
  rest : m "rest" = some (.bool b2)
  ahead : m "ahead" = some (.str (mkS (aheadL ai)) ta)
theorem LawMap.set {m : Str → Option Value} {a : Addr} {fst : Int} {t₁ : Tok} {b1 b2 : Bool} {ai : Nat} {ta : Tok} (x : LawMap m a fst t₁ b1 b2 ai ta) {n : Str} {v : Value} (hn : n ∉ [("script" : Str), "first", "strict", "rest", "ahead"]) :
    LawMap (fun y => if y = n then some v else m y) a fst t₁ b1 b2 ai ta :=
  ⟨(if_neg (show ¬ (("script" : Str) = n) from fun q => hn (by rw [← q]; simp))).trans x.script, (if_neg (show ¬ (("first" : Str) = n) from fun q => hn (by rw [← q]; simp))).trans x.first,
    (if_neg (show ¬ (("strict" : Str) = n) from fun q => hn (by rw [← q]; simp))).trans x.strict, (if_neg (show ¬ (("rest" : Str) = n) from fun q => hn (by rw [← q]; simp))).trans x.rest,
    (if_neg (show ¬ (("ahead" : Str) = n) from fun q => hn (by rw [← q]; simp))).trans x.ahead⟩
theorem LawMap.setF {g h : Heap} {L : Addr} {m : Str → Option Value} {a : Addr} {fst : Int} {t₁ : Tok} {b1 b2 : Bool} {ai : Nat} {ta : Tok} (x : LawMap m a fst t₁ b1 b2 ai ta) {n : Str} {v : Value} (_ : Fr g L h (fun y => if y = n then some v else m y)) (hn : n ∉ [("script" : Str), "first", "strict", "rest", "ahead"]) :
    LawMap (fun y => if y = n then some v else m y) a fst t₁ b1 b2 ai ta := x.set hn
theorem lawMapOf {g h : Heap} {L : Addr} {m : Str → Option Value} {a : Addr} {fst : Int} {t₁ : Tok} {b1 b2 : Bool} {ai : Nat} {ta : Tok} (_ : Fr g L h m) (h1 : m "script" = some (.ref a)) (h2 : m "first" = some (.int fst t₁)) (h3 : m "strict" = some (.bool b1)) (h4 : m "rest" = some (.bool b2))
    (h5 : m "ahead" = some (.str (mkS (aheadL ai)) ta)) : LawMap m a fst t₁ b1 b2 ai ta := ⟨h1, h2, h3, h4, h5⟩

theorem TInv.lose {u : U} {g h h' : Heap} {N N' : List Addr} (I : TInv u g N h) {a : Addr} (ha : a ∈ N) {o : Obj} (e : h.get? a = some o) (hn : NotCode o) (k : ∀ b, b ≠ a → ∀ o, h.get? b = some o → h'.get? b = some o) (z : g.objs.size ≤ h'.objs.size) (hN : ∀ b ∈ N', b ∈ N ∧ b ≠ a) : TInv u g N' h' := by
  obtain ⟨cs, t, f⟩ := I.tab
  refine ⟨I.b, fun b o' e' => k b (fun q => ?_) o' (I.st b o' e'), z, fun b hb => ?_, fun b hb => I.fr b (hN b hb).1, cs, fun q hq => ?_, fun q hq => ⟨(f q hq).1, fun m => (f q hq).2 (hN _ m).1⟩⟩
  · rw [q, I.fr a ha] at e'; cases e'
  · obtain ⟨o', e'⟩ := I.al b (hN b hb).1; exact ⟨o', k b (hN b hb).2 o' e'⟩
  · obtain ⟨ps, h1, h2, h3⟩ := t q hq
    refine ⟨ps, k _ (show q.2.1 ≠ a from fun q2 => (f q hq).2 (by rw [q2]; exact ha)) _ h1, h2, fun pos cv e4 => ?_⟩
    obtain ⟨b, m, e1, e2⟩ := h3 pos cv e4
    subst e1
    exact ⟨b, m, rfl, codeRec_keep e2 rfl (k b (code_ne e2 e hn))⟩

section
variable {u : U} {A : Around} {E : Value → Shared → Prop} {s : Shared} {g : Heap} {L : Addr} {m : Str → Option Value} {f : Addr} {fd : FuncData} {x : Str}
theorem and3 {X w1 w2 w3 : Str} {t : Tok} {k1 k2 k3 : Nat} {p1 p2 p3 p4 p5 p6 p7 p8 p9 p : Pos} {Q : Value → Shared → Prop} (F : Fr g L s.heap m) (hk : fd.scope.kind = .function) (hx : fd.scope.names.lookup x = some .local) (hv : m x = some (.str X t))
    (h : ∀ toks, Q (.bool ((X != w1) && ((X != w2) && (X != w3)))) { s with toks := toks }) (hd : (x == ("__debug__" : Str)) = false := by decide) :
    wpAny (model u.prog u.w) A (eval (.BoolOp .And [.Compare (.Name x p1) [.NotEq] [.Constant (.str w1) k1 p2] p3, .Compare (.Name x p4) [.NotEq] [.Constant (.str w2) k2 p5] p6, .Compare (.Name x p7) [.NotEq] [.Constant (.str w3) k3 p8] p9] p) (callEnv fd L f)) Q E s := by
  refine BoolOp_and (wpAny_Compare1 (nameL F hk hx hv (Constant_str (PyProof.Rows.ne_str (wpAny_truthy_bool ?_))) hd))
  cases h1 : (X != w1) with
  | false => rw [if_neg (by decide)]; rw [h1] at h; exact h _
  | true =>
    rw [if_pos rfl]
    rw [h1] at h
    refine BoolOp_and (wpAny_Compare1 (nameL (s := { s with toks := _ }) F hk hx hv (Constant_str (PyProof.Rows.ne_str (wpAny_truthy_bool ?_))) hd))
    cases h2 : (X != w2) with
    | false => rw [if_neg (by decide)]; rw [h2] at h; exact h _
    | true =>
      rw [if_pos rfl]
      rw [h2] at h
      refine BoolOp_one (wpAny_Compare1 (nameL (s := { s with toks := _ }) F hk hx hv (Constant_str (PyProof.Rows.ne_str ?_)) hd))
      exact h _
end

theorem eqs {A : Around} {s : Shared} {x : Str} {t t' : Tok} : PySem.SeqAt.EqAt A s (.str x t) (.str x t') true := by
  have := PySem.SeqAt.EqAt.str_str (A := A) (s := s) x t x t'
  rwa [beq_self_eq_true] at this
theorem eqi {A : Around} {s : Shared} {x : Int} {t t' : Tok} : PySem.SeqAt.EqAt A s (.int x t) (.int x t') true := by
  have := PySem.SeqAt.EqAt.int_int (A := A) (s := s) x t x t'
  rwa [beq_self_eq_true] at this

set_option maxHeartbeats 4000000 in
theorem leaf_law {u : U} (hu : Is2 u) (kn : Kn u) {g : Heap} {A : Around} {s : Shared} {a : Addr} {ns : List Int} {vs : List Value} (hfr : A.frames = some []) (hR : Room A 50) (I : TInv u g [] s.heap) (hl : g.IsList a vs.toArray) (hv : IntsAre vs ns) (hlen : ns.length ≤ 63) :
    codeAny (model u.prog u.w) A (.call (.ref 1540) ⟨[.ref a], []⟩) (fun rr s' => rr = .ok (.ret (.bool true)) ∧ ∃ h' tk', s' = { s with heap := h', toks := tk' } ∧ TInv u g [] h') s := by
  have hu1 := hu.toIs
  refine' enterT (d := 49) (binds := [(("script" : Str), .ref a)]) ⟨none, #[], ?hf⟩ ?hb ?hcd ?hbind ?hcell ?hloc ?hco ?hgen ?hk hR I ?_
  case hf => rw [hu1.K]; k_is
  case hb => rfl
  case hcd => rw [hu1.K]; k_is
  case hbind => exact BindsTo.of_eq rfl
  case hcell => decide
  case hloc => exact locs rfl
  case hco => rfl
  case hgen => rfl
  case hk => rfl
  intro L h₁ I₁ F₁ _
  (try dsimp only)
  have nN : nsIn u.K mainGlobals "_law_number" = some (some (.ref 1519)) := by walk_at "m.is"
  have kN : keepIn u.K (.ref 1519) = true := by walk_at "m.is"
  have nA : nsIn u.K mainGlobals "_LAW_AHEAD" = some (some (.ref 1511)) := by walk_at "m.is"
  have nG : nsIn u.K mainGlobals "_LAW_GAPS" = some (some (.ref 1512)) := by walk_at "m.is"
  have nr : nsIn u.K mainGlobals "range" = some none := by walk_at "m.is"
  refine wpAny_execs_cons (wpAny_Assign_Name (Call_ (nameGT (s := ⟨h₁, s.gens, s.drawn, _, s.os⟩) I₁ rfl rfl rfl nN ?_)) (by rfl))
  refine callWith_K (h₀ := g) I₁.b.k kN (spliced_more (nameL (s := ⟨h₁, s.gens, s.drawn, _, s.os⟩) F₁ rfl rfl rfl (spliced_more (wpAny_Constant_int (spliced_none ⟨I₁.K, ?_⟩)))))
  refine drawT (k := 0) (s := ⟨h₁, s.gens, s.drawn, _, s.os⟩) hu1 F₁ I₁ (hR.deeper.less (by omega)) hl hv hlen (by decide) fun t₁ h₂ tk₂ I₂ F₂ _ => ?_
  generalize hfst : numOf ns 0 = fst
  refine stT (s := ⟨h₂, s.gens, s.drawn, _, s.os⟩) F₂ I₂ rfl rfl fun h₃ I₃ F₃ _ => ?_
  (try dsimp only)
  refine wpAny_execs_cons (wpAny_Assign_Name (wpAny_Compare1 (wpAny_BinOp (nameL (s := ⟨h₃, s.gens, s.drawn, _, s.os⟩) F₃ rfl rfl rfl (wpAny_Constant_int (PyProof.Rows.mod_int (by decide) ?_))))) (by rfl))
  refine wpAny_Constant_int (eq_int ?_)
  generalize hb1 : (fst.fmod 2 == 0) = b1
  refine stT (s := ⟨h₃, s.gens, s.drawn, _, s.os⟩) F₃ I₃ rfl rfl fun h₄ I₄ F₄ _ => ?_
  (try dsimp only)
  refine wpAny_execs_cons (wpAny_Assign_Name (wpAny_Compare1 (wpAny_BinOp (wpAny_BinOp (nameL (s := ⟨h₄, s.gens, s.drawn, _, s.os⟩) F₄ rfl rfl rfl (wpAny_Constant_int (PyProof.Rows.floordiv_int (by decide) ?_ (.inl (PyProof.noPylong_small (by decide))))))))) (by rfl))
  refine wpAny_Constant_int (PyProof.Rows.mod_int (by decide) (wpAny_Constant_int (eq_int ?_)))
  generalize hb2 : ((fst.fdiv 2).fmod 2 == 0) = b2
  refine stT (s := ⟨h₄, s.gens, s.drawn, _, s.os⟩) F₄ I₄ rfl rfl fun h₅ I₅ F₅ _ => ?_
  (try dsimp only)
  obtain ⟨items, ht, hil, hit⟩ := ahead_at hu1 I₅.K
  obtain ⟨ia, ib⟩ := fmodN (a := fst.fdiv 4) (n := 7) (by decide)
  generalize ((fst.fdiv 4).fmod ((7 : Nat) : Int)).toNat = ai at ia ib
  obtain ⟨ta, eta⟩ := hit ai ib
  refine wpAny_execs_cons (wpAny_Assign_Name (Subscript_ (nameGT (s := ⟨h₅, s.gens, s.drawn, _, s.os⟩) I₅ rfl rfl rfl nA ?_)) (by rfl))
  refine wpAny_BinOp (wpAny_BinOp (nameL (s := ⟨h₅, s.gens, s.drawn, _, s.os⟩) F₅ rfl rfl rfl (wpAny_Constant_int (PyProof.Rows.floordiv_int (by decide) ?_ (.inl (PyProof.noPylong_small (by decide)))))))
  refine wpAny_Constant_int (PyProof.Rows.mod_int (by decide) ?_)
  refine itemR (j := ai) ht ia (by omega) (by omega) eta ?_
  refine stT (s := ⟨h₅, s.gens, s.drawn, _, s.os⟩) F₅ I₅ rfl rfl fun h₆ I₆ F₆ _ => ?_
  (try dsimp only)
  refine wpAny_execs_cons (wpAny_Assign_Name (Constant_str ?_) (by rfl))
  refine stT (s := ⟨h₆, s.gens, s.drawn, _, s.os⟩) F₆ I₆ rfl rfl fun h₇ I₇ F₇ _ => ?_
  (try dsimp only)
  refine wpAny_execs_cons (wpAny_Assign_Name (Constant_bool ?_) (by rfl))
  refine stT (s := ⟨h₇, s.gens, s.drawn, _, s.os⟩) F₇ I₇ rfl rfl fun h₈ I₈ F₈ _ => ?_
  (try dsimp only)
  refine wpAny_execs_cons (wpAny_For (Call_ (nameBT (s := ⟨h₈, s.gens, s.drawn, _, s.os⟩) I₈ rfl rfl rfl rfl nr (by boot_by_name) (by decide) ?_)))
  refine PyProof.Rows.callWith_type1 (spliced_more (wpAny_BinOp (Call_ (nameGT (s := ⟨h₈, s.gens, s.drawn, _, s.os⟩) I₈ rfl rfl rfl nN ?_))))
  refine callWith_K (h₀ := g) I₈.b.k kN (spliced_more (nameL (s := ⟨h₈, s.gens, s.drawn, _, s.os⟩) F₈ rfl rfl rfl (spliced_more (wpAny_Constant_int (spliced_none ⟨I₈.K, ?_⟩)))))
  refine drawT (k := 1) (s := ⟨h₈, s.gens, s.drawn, _, s.os⟩) hu1 F₈ I₈ (hR.deeper.less (by omega)) hl hv hlen (by decide) fun t₈ h₉ tk₉ I₉ F₉ _ => ?_
  refine wpAny_Constant_int (PyProof.Rows.mod_int (by decide) (spliced_none ?_))
  obtain ⟨ja, jb⟩ := fmodN (a := numOf ns 1) (n := 5) (by decide)
  generalize ((numOf ns 1).fmod ((5 : Nat) : Int)).toNat = cnt at ja jb
  rw [show (numOf ns 1).fmod 5 = (cnt : Int) from ja]
  refine evRangeT (s := ⟨h₉, s.gens, s.drawn, _, s.os⟩) F₉ I₉ (by omega) fun It h₁₀ tk₁₀ I₁₀ F₁₀ nL hit => ?_
  (try dsimp only)
  have LM₁₀ : LawMap _ a fst t₁ b1 b2 ai ta := lawMapOf F₁₀ rfl rfl rfl rfl rfl
  refine codeAny_forLoop (fun n s' => ∃ i h tk m tg, s' = ⟨h, s.gens, s.drawn, tk, s.os⟩ ∧ TInv u g [L, It] h ∧ Fr g L h m ∧ LawMap m a fst t₁ b1 b2 ai ta ∧ m "gaps" = some (.str (mkS (stOf ns i).1) tg) ∧ m "closed" = some (.bool (stOf ns i).2) ∧
      IsRangeIter h It ((0 : Int) + (i : Nat) * 1) ((cnt : Int) - (i : Nat)) 1 ∧ i ≤ cnt ∧ n = cnt + 1 - i) ?_ (cnt + 1) ⟨0, h₁₀, _, _, _, rfl, I₁₀, F₁₀, LM₁₀, rfl, rfl, hit, Nat.zero_le _, rfl⟩
  rintro n s' ⟨i, h, tk, m, tg, rfl, Ii, Fi, LM, mg, mc, hit, hi, rfl⟩
  have kf : ∀ {h' : Heap}, (∀ b o, b ∉ [It] → h.get? b = some o → h'.get? b = some o) → (∀ b, b ≠ It → ∀ o, h.get? b = some o → h'.get? b = some o) := fun k b hb o e => k b o (by simpa using hb) e
  have stH : ∀ {h' : Heap}, (∀ b, b ≠ It → ∀ o, h.get? b = some o → h'.get? b = some o) → g.StaysIn h' := fun keep' b o e => keep' b (fun q => by have := Ii.fr _ (.tail _ (.head _)); rw [← q, e] at this; cases this) o (Fi.keep b o e)
  by_cases hlt : i < cnt
  · refine (Walks.range (prog := u.prog) (w := u.w) (A := A.deeper _) hR.hd It 0 1 cnt).item i _ _ _ hlt hit fun v h' tk' hP hst' keep => ?_
    obtain ⟨tv, rfl⟩ := hP
    have keep' := kf keep
    have F₅' : Fr g L h' m := Fr.but Fi nL.symm keep' (stH keep')
    have I₅' : TInv u g [L, It] h' := Ii.store (.tail _ (.head _)) hit rangeiter_notCode keep' (Nat.le_trans F₅'.above (Nat.le_of_lt F₅'.ns.lt)) ⟨_, hst'⟩
    rw [show (0 : Int) + (i : Int) * 1 = (i : Int) by omega]
    refine wpAny_assign_Name (stT F₅' I₅' rfl rfl fun h₆' I₆' F₆' k₆' => ?_)
    (try dsimp only)
    have it₆ := k₆' _ nL.symm _ hst'
    have LM₆ := LM.set (n := "k") (v := .int (i : Int) tv) (by decide)
    have mg₆ : (if ("gaps" : Str) = "k" then some (Value.int (i : Int) tv) else m "gaps") = _ := (if_neg (by decide)).trans mg
    have mc₆ : (if ("closed" : Str) = "k" then some (Value.int (i : Int) tv) else m "closed") = _ := (if_neg (by decide)).trans mc
    refine wpAny_execs_cons (wpAny_Assign_Name (Subscript_ (nameGT (s := ⟨h₆', s.gens, s.drawn, _, s.os⟩) I₆' rfl rfl rfl nG ?_)) (by rfl))
    refine wpAny_BinOp (Call_ (nameGT (s := ⟨h₆', s.gens, s.drawn, _, s.os⟩) I₆' rfl rfl rfl nN ?_))
    refine callWith_K (h₀ := g) I₆'.b.k kN (spliced_more (nameL (s := ⟨h₆', s.gens, s.drawn, _, s.os⟩) F₆' rfl rfl LM₆.script (spliced_more (wpAny_BinOp (wpAny_Constant_int (nameL (s := ⟨h₆', s.gens, s.drawn, _, s.os⟩) F₆' rfl rfl (if_pos rfl) (add_int (spliced_none ⟨I₆'.K, ?_⟩))))))))
    rw [show (2 : Int) + (i : Int) = ((2 + i : Nat) : Int) by omega]
    refine drawT (k := 2 + i) (s := ⟨h₆', s.gens, s.drawn, _, s.os⟩) hu1 F₆' I₆' (hR.deeper.less (by omega)) hl hv hlen (by omega) fun t₇' h₇' tk₇' I₇' F₇' k₇' => ?_
    have it₇ := k₇' _ (.head _) _ it₆
    obtain ⟨gitems, hgt, hgl, hgi⟩ := gaps_at hu1 I₇'.K
    refine wpAny_Constant_int (PyProof.Rows.mod_int (by decide) ?_)
    obtain ⟨da, db⟩ := fmodN (a := numOf ns (2 + i)) (n := 12) (by decide)
    have hst1 := stOf_succ ns i
    generalize ((numOf ns (2 + i)).fmod ((12 : Nat) : Int)).toNat = d at da db hst1
    obtain ⟨td, etd⟩ := hgi d db
    refine itemR (j := d) (s := ⟨h₇', s.gens, s.drawn, _, s.os⟩) hgt da (by omega) (by omega) etd ?_
    refine stT (s := ⟨h₇', s.gens, s.drawn, _, s.os⟩) F₇' I₇' rfl rfl fun h₈' I₈' F₈' k₈' => ?_
    have it₈ := k₈' _ nL.symm _ it₇
    (try dsimp only)
    have LM₈ := LM₆.set (n := "piece") (v := .str (mkS (piece d)) td) (by decide)
    have mg₈ := (if_neg (by decide) : (if ("gaps" : Str) = "piece" then some (Value.str (mkS (piece d)) td) else (if ("gaps" : Str) = "k" then some (Value.int (i : Int) tv) else m "gaps")) = _).trans mg₆
    have mc₈ := (if_neg (by decide) : (if ("closed" : Str) = "piece" then some (Value.str (mkS (piece d)) td) else (if ("closed" : Str) = "k" then some (Value.int (i : Int) tv) else m "closed")) = _).trans mc₆
    refine wpAny_execs_cons (wpAny_If (isTrue_plain (nameL (s := ⟨h₈', s.gens, s.drawn, _, s.os⟩) F₈' rfl rfl mc₈ (wpAny_truthy_bool ?_))))
    have szs := stOf_len ns i
    cases hop : (stOf ns i).2 with
    | false =>
      rw [if_neg (by decide)]
      refine wpAny_execs_nil (wpAny_execs_nil ?_)
      have e1 : stOf ns (i + 1) = stOf ns i := by rw [hst1]; unfold turn; rw [if_neg (by rw [hop]; decide)]
      refine ⟨cnt + 1 - (i + 1), by omega, i + 1, h₈', _, _, ?tg2, rfl, I₈', F₈', LM₈, ?a2, ?b2, it₈, hlt, rfl⟩
      case a2 => rw [e1]; exact mg₈
      case b2 => rw [e1]; exact mc₈
    | true =>
      rw [if_pos rfl]
      have hd7 := piece_len d
      refine wpAny_execs_cons (wpAny_Assign_Name (wpAny_BinOp (nameL (s := ⟨h₈', s.gens, s.drawn, _, s.os⟩) F₈' rfl rfl mg₈ (nameL (s := ⟨h₈', s.gens, s.drawn, _, s.os⟩) F₈' rfl rfl (if_pos rfl) (PyProof.Rows.add_str (fun tg' tkg => ?_) (by rw [mkS_len, mkS_len, sizeLine_eq]; omega))))) (by rfl))
      rw [mkS_app]
      refine stT (s := ⟨h₈', s.gens, s.drawn, _, s.os⟩) F₈' I₈' rfl rfl fun h₉' I₉' F₉' k₉' => ?_
      have it₉ := k₉' _ nL.symm _ it₈
      (try dsimp only)
      have LM₉ := LM₈.set (n := "gaps") (v := .str (mkS ((stOf ns i).1 ++ piece d)) tg') (by decide)
      have hop' := shut_eq d db
      have e1 : stOf ns (i + 1) = ((stOf ns i).1 ++ piece d, !open? d) := by rw [hst1]; unfold turn; rw [if_pos hop]
      refine wpAny_execs_cons (wpAny_Assign_Name (and3 (s := ⟨h₉', s.gens, s.drawn, _, s.os⟩) F₉' rfl rfl rfl fun tks => ?_) (by rfl))
      rw [hop']
      refine stT (s := ⟨h₉', s.gens, s.drawn, _, s.os⟩) F₉' I₉' rfl rfl fun h₁₀' I₁₀' F₁₀' k₁₀' => ?_
      have it₁₀ := k₁₀' _ nL.symm _ it₉
      have LM₁₀' := LM₉.set (n := "closed") (v := .bool (!open? d)) (by decide)
      refine wpAny_execs_nil (wpAny_execs_nil ?_)
      refine ⟨cnt + 1 - (i + 1), by omega, i + 1, h₁₀', _, _, tg', rfl, I₁₀', F₁₀', LM₁₀', ?a3, ?b3, it₁₀, hlt, rfl⟩
      case a3 =>
        rw [e1]
        show _ = some (Value.str (mkS ((stOf ns i).1 ++ piece d)) tg')
        exact (if_neg (by decide)).trans (if_pos rfl)
      case b3 => rw [e1]; exact if_pos rfl
  · have hin : i = cnt := by omega
    subst hin
    refine (Walks.range (prog := u.prog) (w := u.w) (A := A.deeper _) hR.hd It 0 1 i).done _ _ _ hit fun h' tk' keep => ?_
    have keep' := kf keep
    have Fe : Fr g L h' m := Fr.but Fi nL.symm keep' (stH keep')
    have Ie : TInv u g [L] h' := Ii.lose (.tail _ (.head _)) hit rangeiter_notCode keep' (Nat.le_trans Fe.above (Nat.le_of_lt Fe.ns.lt)) (fun b mb => by rcases List.mem_singleton.mp mb with rfl; exact ⟨.head _, nL⟩)
    have hG : (stOf ns i).1 = gapsOf (draws ns i) := by show ((draws ns i).foldl turn ([], true)).1 = _; rw [turns_open]; rfl
    rw [hG] at mg
    have hGl := gaps_len (draws ns i)
    rw [draws_len] at hGl
    obtain ⟨gn, hgn, hgap⟩ := gap_of (draws ns i) (draws_lt ns i)
    rw [draws_len] at hgn
    generalize gapsOf (draws ns i) = G at mg hGl hgap
    have nE : nsIn u.K mainGlobals "_law_empty" = some (some (.ref 1533)) := by walk_at "m.is"
    have kE : keepIn u.K (.ref 1533) = true := by walk_at "m.is"
    have nTh : nsIn u.K mainGlobals "_law_thrown" = some (some (.ref 1526)) := by walk_at "m.is"
    have kTh : keepIn u.K (.ref 1526) = true := by walk_at "m.is"
    have nPa : nsIn u.K mainGlobals "parse" = some (some (.ref 1498)) := by walk_at "m.is"
    have kPa : keepIn u.K (.ref 1498) = true := by walk_at "m.is"
    have nSt : nsIn u.K mainGlobals "str" = some none := by walk_at "m.is"
    have nLe : nsIn u.K mainGlobals "len" = some none := by walk_at "m.is"
    have hal : (aheadL ai).length ≤ 2 := by unfold aheadL; split <;> simp
    refine wpAny_execs_nil ?_
    refine wpAny_execs_cons (wpAny_Assign_Name (wpAny_BinOp (nameL (s := ⟨h', s.gens, s.drawn, _, s.os⟩) Fe rfl rfl LM.ahead (nameL (s := ⟨h', s.gens, s.drawn, _, s.os⟩) Fe rfl rfl mg (PyProof.Rows.add_str (fun tt tkt => ?_) (by rw [mkS_len, mkS_len, sizeLine_eq]; omega))))) (by rfl))
    rw [mkS_app]
    refine stT (s := ⟨h', s.gens, s.drawn, _, s.os⟩) Fe Ie rfl rfl fun h₂₁ I₂₁ F₂₁ _ => ?_
    (try dsimp only)
    have LM₂₁ := LM.set (n := "text") (v := .str (mkS (aheadL ai ++ G)) tt) (by decide)
    have fs1 : ∀ {fd : FuncData}, fs [callEnv fd L 1540] = [L] := rfl
    refine wpAny_execs_cons (wpAny_If (wpAny_isTrue_Compare1 (nameL (s := ⟨h₂₁, s.gens, s.drawn, _, s.os⟩) F₂₁ rfl rfl (if_pos rfl) (Constant_str (eq_str (wpAny_truthy_bool ?_))))))
    by_cases hemp : aheadL ai ++ G = []
    · rw [if_pos (by rw [hemp]; decide)]
      rw [hemp] at F₂₁ LM₂₁
      obtain ⟨pa, pb⟩ := fmodN (a := fst) (n := 3) (by decide)
      generalize (fst.fmod ((3 : Nat) : Int)).toNat = p3 at pa pb
      refine wpAny_execs_cons (wpAny_Assign_Name (Constant_str ?_) (by rfl))
      refine stT (s := ⟨h₂₁, s.gens, s.drawn, _, s.os⟩) F₂₁ I₂₁ rfl rfl fun h₂₂ I₂₂ F₂₂ _ => ?_
      (try dsimp only)
      have LM₂₂ := LM₂₁.setF F₂₂ (by decide)
      refine wpAny_execs_cons (wpAny_Return_some (BoolOp_and (wpAny_Compare1 (Call_ (nameGT (s := ⟨h₂₂, s.gens, s.drawn, _, s.os⟩) I₂₂ rfl rfl rfl nE ?_)))))
      refine callWith_K (h₀ := g) I₂₂.b.k kE (spliced_more (wpAny_BinOp (nameL (s := ⟨h₂₂, s.gens, s.drawn, _, s.os⟩) F₂₂ rfl rfl LM₂₂.first (wpAny_Constant_int (PyProof.Rows.mod_int (by decide) ?_)))))
      rw [show fst.fmod 3 = (p3 : Int) from pa]
      refine spliced_more (nameL (s := ⟨h₂₂, s.gens, s.drawn, _, s.os⟩) F₂₂ rfl rfl LM₂₂.strict (spliced_more (nameL (s := ⟨h₂₂, s.gens, s.drawn, _, s.os⟩) F₂₂ rfl rfl LM₂₂.rest (spliced_none ⟨I₂₂.K, wpAny_call ?_⟩))))
      refine codeAny_mono (leaf_empty hu (s := ⟨h₂₂, s.gens, s.drawn, _, s.os⟩) (Around.frames_deeper hfr) (ffPush F₂₂ (by intro q; cases q) rfl trivial) (hR.deeper.less (by omega)) I₂₂) fun rr s' hd => ?_
      obtain ⟨tk2, rfl, h₂₃, tk₂₃, rfl, I₂₃, up₂₃⟩ := hd
      have F₂₃ := Fr.of_stays F₂₂ I₂₃.st up₂₃
      have I₂₃' : TInv u g [L] h₂₃ := I₂₃
      (try dsimp only)
      refine nameL (s := ⟨h₂₃, s.gens, s.drawn, _, s.os⟩) F₂₃ rfl rfl (if_pos rfl) (eq_str (wpAny_truthy_bool ?_))
      rw [if_pos (by decide)]
      refine BoolOp_one (wpAny_Compare1 (Call_ (nameGT (s := ⟨h₂₃, s.gens, s.drawn, _, s.os⟩) I₂₃' rfl rfl rfl nTh ?_)))
      refine callWith_K (h₀ := g) I₂₃'.b.k kTh (spliced_more (nameL (s := ⟨h₂₃, s.gens, s.drawn, _, s.os⟩) F₂₃ rfl rfl ((if_neg (by decide)).trans (if_pos rfl)) (spliced_more (wpAny_BinOp (nameL (s := ⟨h₂₃, s.gens, s.drawn, _, s.os⟩) F₂₃ rfl rfl LM₂₂.first (wpAny_Constant_int (PyProof.Rows.mod_int (by decide) ?_)))))))
      rw [show fst.fmod 3 = (p3 : Int) from pa]
      refine spliced_more (nameL (s := ⟨h₂₃, s.gens, s.drawn, _, s.os⟩) F₂₃ rfl rfl LM₂₂.strict (spliced_more (nameL (s := ⟨h₂₃, s.gens, s.drawn, _, s.os⟩) F₂₃ rfl rfl LM₂₂.rest (spliced_none ⟨I₂₃'.K, wpAny_call ?_⟩))))
      refine codeAny_mono (leaf_thrown hu (T := Str.empty) (x := emptyW) (s := ⟨h₂₃, s.gens, s.drawn, _, s.os⟩) (Around.frames_deeper hfr) (ffPush F₂₃ (by intro q; cases q) rfl trivial) (hR.deeper.less (by omega)) I₂₃'
        fun A' s' outer' q1 q2 q3 q4 => leaf_loads0 hu q1 q2 (q3.less (by omega)) q4) fun rr s' hd => ?_
      obtain ⟨tk3, rfl, h₂₄, tk₂₄, rfl, I₂₄, up₂₄⟩ := hd
      have F₂₄ := Fr.of_stays F₂₃ I₂₄.st up₂₄
      have I₂₄' : TInv u g [L] h₂₄ := I₂₄
      (try dsimp only)
      refine nameL (s := ⟨h₂₄, s.gens, s.drawn, _, s.os⟩) F₂₄ rfl rfl (if_pos rfl) (eq_str ?_)
      exact ⟨congrArg (fun b => Except.ok (Flow.ret (Value.bool b))) (beq_self_eq_true emptyW), h₂₄, _, rfl, I₂₄'.drop⟩
    · have hT0 : 0 < (aheadL ai ++ G).length := by
        rcases Nat.eq_zero_or_pos (aheadL ai ++ G).length with q | q
        · exact absurd (List.eq_nil_of_length_eq_zero q) hemp
        · exact q
      have hTl : (mkS (aheadL ai ++ G)).length ≤ 100 := by rw [mkS_len, List.length_append]; omega
      have hT0' : 0 < (mkS (aheadL ai ++ G)).length := by rw [mkS_len]; exact hT0
      rw [if_neg (by
        intro q
        have q2 := eq_of_beq q
        have : (mkS (aheadL ai ++ G)).length = 0 := by rw [q2]; decide
        omega)]
      refine wpAny_execs_nil ?_
      (try dsimp only)
      have hAt : At (mkS (aheadL ai ++ G)) (aheadL ai).length G := ⟨by rw [mkS_list]; simp, by rw [mkS_len, List.length_append]⟩
      obtain ⟨lastS, sp1, sp2, sp3⟩ := split_spec hT0'
      have hTl' : (mkS (aheadL ai ++ G)).cps.toList.length = (mkS (aheadL ai ++ G)).length := by rw [Array.length_toList]; rfl
      obtain ⟨ob1, ob2⟩ := offs_le (mkS (aheadL ai ++ G)).cps.toList (1, 1) 1 (by simp) (by simp) (by omega)
      rw [hTl'] at ob1 ob2
      have hge1 : 1 ≤ (offs (mkS (aheadL ai ++ G)).cps.toList (1, 1)).1 := by rw [(offs_lf (mkS (aheadL ai ++ G)).cps.toList 1 1 0 0 (Nat.le_refl _) rfl).1]; exact Nat.le_add_right _ _
      have hW := @words_law (mkS (aheadL ai ++ G))
      have hWl := words_len (T := mkS (aheadL ai ++ G)) (by omega)
      have hth := fun (A' : Around) (s' : Shared) (outer' : List Env) (q1 : A'.frames = some outer') (q2 : s'.heap.FunFrames g outer') (q3 : Room A' 46) (q4 : TInv u g (fs outer') s'.heap) (tm tp : Tok) => leaf_loads (tm := tm) (tp := tp) (vs := .bool b1) (vc := .bool b2) hu kn q1 q2 q3 q4 (by omega) hT0' hgap hAt (by omega)
      have hmp := fun (g' : Heap) (A' : Around) (s' : Shared) (args : Args) (tm tp : Tok) (q1 : Room A' 45) (q2 : TInv u g' [] s'.heap) (q3 : ParseArgs (mkS (aheadL ai ++ G)) tm (aheadL ai).length tp (.bool b1) (.bool b2) args) => leaf_mparse hu kn q1 q2 (by omega) hT0' hgap hAt (by omega) q3
      have hocc : (Builtin.Str.partsBetween (mkS (aheadL ai ++ G)) (Builtin.Str.occurrences (mkS (aheadL ai ++ G)) ("\n" : Str) 0 (mkS (aheadL ai ++ G)).length ((mkS (aheadL ai ++ G)).length + 1)) ("\n" : Str).length).length ≤ sizeLine := by
        rw [length_partsBetween, sizeLine_eq]
        have := StrLaws.occ_length_le (mkS (aheadL ai ++ G)) ("\n" : Str) 0 (mkS (aheadL ai ++ G)).length ((mkS (aheadL ai ++ G)).length + 1)
        omega
      have hnl : ("\n" : Str) = nlS := by decide +kernel
      have lenA : (mkS (aheadL ai)).length = (aheadL ai).length := mkS_len _
      generalize mkS (aheadL ai ++ G) = T at *
      refine wpAny_execs_cons (wpAny_Assign_Name (MethodCall_ (pl := _) (nameL (s := ⟨h₂₁, s.gens, s.drawn, _, s.os⟩) F₂₁ rfl rfl (if_pos rfl) (PySem.GM.split (PyProof.Rows.callWith_method1 (spliced_more (Constant_str (spliced_none ?_))))))) (by rfl))
      refine SCH.split1 (P := fun h => TInv u g [L] h ∧ Fr g L h _) (s := ⟨h₂₁, s.gens, s.drawn, _, s.os⟩) (fun h ob p => ⟨p.1.push ob, p.2.push ob⟩) ⟨I₂₁, F₂₁⟩ (by decide +kernel) (fun D l h₂₂ tk₂₂ el hp hD => ?_) (by rw [sizeLine_eq]; omega) hocc
      obtain ⟨I₂₂, F₂₂⟩ := hp
      (try dsimp only)
      rw [hnl] at el
      have ell : l.length = (offs T.cps.toList (1, 1)).1 := by rw [← sp1, ← el, List.length_map]
      have hls : (strValues l).length = l.length := by unfold strValues; rw [List.length_map]
      have hsz : (((strValues l).toArray.size : Nat) : Int) < 2 ^ 63 := by rw [List.size_toArray, hls]; omega
      have hsz1 : (strValues l).toArray.size = (offs T.cps.toList (1, 1)).1 := by rw [List.size_toArray, hls, ell]
      have DL : D ≠ L := fun q => by
        obtain ⟨o, e1, _, n, e2⟩ := hD
        obtain ⟨oL, es, ep, eL, dL, _⟩ := F₂₂.ns
        rw [q, eL] at e1; cases e1; rw [dL] at e2; cases e2
      refine stT (s := ⟨h₂₂, s.gens, s.drawn, _, s.os⟩) F₂₂ I₂₂ rfl rfl fun h₂₃ I₂₃ F₂₃ k₂₃ => ?_
      (try dsimp only)
      have LM₂₃ := LM₂₁.setF F₂₃ (by decide)
      have hD₂₃ : h₂₃.IsList D (strValues l).toArray := let ⟨o, e1, r⟩ := hD; ⟨o, k₂₃ D DL _ e1, r⟩
      have g1 : ((((strValues l).toArray.size : Nat) : Int)).natAbs.log2 < 1920 := by
        rw [Int.natAbs_natCast, List.size_toArray, hls, ell]
        by_cases z : (offs T.cps.toList (1, 1)).1 = 0
        · rw [z]; decide
        · exact (Nat.log2_lt z).mpr (Nat.lt_of_lt_of_le (show (offs T.cps.toList (1, 1)).1 < 2 ^ 20 by omega) (Nat.pow_le_pow_right (by decide) (by decide)))
      have g2 : (((lastS.length : Nat) : Int) + 1).natAbs.log2 < 1920 := by
        rw [show ((lastS.length : Nat) : Int) + 1 = ((offs T.cps.toList (1, 1)).2 : Int) by omega, Int.natAbs_natCast]
        by_cases z : (offs T.cps.toList (1, 1)).2 = 0
        · rw [z]; decide
        · exact (Nat.log2_lt z).mpr (Nat.lt_of_lt_of_le (show (offs T.cps.toList (1, 1)).2 < 2 ^ 20 by omega) (Nat.pow_le_pow_right (by decide) (by decide)))
      have l1 : (Str.ofString (toString (((strValues l).toArray.size : Nat) : Int))).length ≤ 6 := toString_length_le (by omega) (by decide) (by omega)
      have l2 : (Str.ofString (toString (((lastS.length : Nat) : Int) + 1))).length ≤ 6 := toString_length_le (by omega) (by decide) (by omega)
      have c1 : ("<string>:" : Str).length = 9 := by decide +kernel
      have c2 : (" Unexpected end of input at column " : Str).length = 35 := by decide +kernel
      have sz : sizeLine = 16777216 := sizeLine_eq
      have hlast : ∃ tl, (strValues l)[(strValues l).length - 1]? = some (.str lastS tl) := by
        rw [← el, List.length_map] at sp2
        rw [hls]
        unfold strValues
        rw [List.getElem?_map] at sp2 ⊢
        obtain ⟨p, e1, e2⟩ := Option.map_eq_some_iff.mp sp2
        rw [e1]
        exact ⟨p.2, by simp [← e2]⟩
      obtain ⟨tl, hlast⟩ := hlast
      refine wpAny_execs_cons (wpAny_Assign_Name (wpAny_BinOp (wpAny_BinOp (wpAny_BinOp (Constant_str (Call_ (nameBT (s := ⟨h₂₃, s.gens, s.drawn, _, s.os⟩) I₂₃ rfl rfl rfl rfl nSt (by boot_by_name) (by decide) ?_)))))) (by rfl))
      refine PyProof.Rows.callWith_type1 (spliced_more (Call_ (nameBT (s := ⟨h₂₃, s.gens, s.drawn, _, s.os⟩) I₂₃ rfl rfl rfl rfl nLe (by boot_by_name) (by decide) ?_)))
      refine PyProof.Rows.callWith_method1 (spliced_more (nameL (s := ⟨h₂₃, s.gens, s.drawn, _, s.os⟩) F₂₃ rfl rfl (if_pos rfl) (spliced_none (PyProof.Rows.len_list hD₂₃ hsz ?_))))
      refine spliced_none (PySem.P.str_of_int g1 ?_)
      refine PyProof.Rows.add_str (fun tw1 tkw1 => ?_) (by omega)
      refine Constant_str (PyProof.Rows.add_str (fun tw2 tkw2 => ?_) (by rw [strLen_append]; omega))
      refine Call_ (nameBT (s := ⟨h₂₃, s.gens, s.drawn, _, s.os⟩) I₂₃ rfl rfl rfl rfl nSt (by boot_by_name) (by decide) ?_)
      refine PyProof.Rows.callWith_type1 (spliced_more (wpAny_BinOp (Call_ (nameBT (s := ⟨h₂₃, s.gens, s.drawn, _, s.os⟩) I₂₃ rfl rfl rfl rfl nLe (by boot_by_name) (by decide) ?_))))
      refine PyProof.Rows.callWith_method1 (spliced_more (Subscript_ (nameL (s := ⟨h₂₃, s.gens, s.drawn, _, s.os⟩) F₂₃ rfl rfl (if_pos rfl) ?_)))
      refine UnaryOp_ (wpAny_Constant_int (PyProof.Rows.neg_int ?_))
      refine subscriptTail_builtin hD₂₃.typeIs slot_list_getitem.lookup (wpAny_getItem_list_neg (x := .str lastS tl) hD₂₃ (by decide) (by rw [List.size_toArray, hls, ell]; omega) (by decide) (by
        rw [List.getElem?_toArray, List.size_toArray]
        rw [show ((-1 : Int) + (((strValues l).length : Nat) : Int)).toNat = (strValues l).length - 1 by omega]
        exact hlast) ?_) (by with_unfolding_all rfl) (by intro _; with_unfolding_all rfl)
      refine spliced_none (lenT (u := u) (by omega) fun te tke => ?_)
      refine wpAny_Constant_int (add_int (spliced_none (PySem.P.str_of_int g2 ?_)))
      refine PyProof.Rows.add_str (fun tw3 tkw3 => ?_) (le_line (Nat.add_le_add (len_app (len_app (Nat.le_of_eq c1) l1) (Nat.le_of_eq c2)) l2) rfl)
      rw [hW (by rw [List.size_toArray, hls, ell]) (by omega)]
      refine stT (s := ⟨h₂₃, s.gens, s.drawn, _, s.os⟩) F₂₃ I₂₃ rfl rfl fun h₂₄ I₂₄ F₂₄ _ => ?_
      (try dsimp only)
      have LM₂₄ := LM₂₃.setF F₂₄ (by decide)
      -- told = parse(..)
      refine wpAny_execs_cons (wpAny_Assign_Name (CallKW_ (nameGT (s := ⟨h₂₄, s.gens, s.drawn, _, s.os⟩) I₂₄ rfl rfl rfl nPa ?_)) (by rfl))
      refine callWith_KW (K := u.K) (h₀ := g) I₂₄.b.k kPa (by rfl) ?_
      refine spliced_more (nameL (s := ⟨h₂₄, s.gens, s.drawn, _, s.os⟩) F₂₄ rfl rfl ((if_neg (by decide)).trans ((if_neg (by decide)).trans (if_pos rfl))) (spliced_none ?_))
      refine kws_cons (Call_ (nameBT (s := ⟨h₂₄, s.gens, s.drawn, _, s.os⟩) I₂₄ rfl rfl rfl rfl nLe (by boot_by_name) (by decide) ?_))
      refine PyProof.Rows.callWith_method1 (spliced_more (nameL (s := ⟨h₂₄, s.gens, s.drawn, _, s.os⟩) F₂₄ rfl rfl LM₂₄.ahead (spliced_none (lenT (u := u) (by omega) fun tl1 tkl1 => ?_))))
      rw [lenA]
      refine kws_cons (nameL (s := ⟨h₂₄, s.gens, s.drawn, _, s.os⟩) F₂₄ rfl rfl LM₂₄.strict ?_)
      refine kws_cons (nameL (s := ⟨h₂₄, s.gens, s.drawn, _, s.os⟩) F₂₄ rfl rfl LM₂₄.rest (kws_nil ⟨I₂₄.K, wpAny_call ?_⟩))
      refine runT (N := []) (L := L) (s := ⟨h₂₄, s.gens, s.drawn, _, s.os⟩) (V := fun h v => ∃ a t1 t2, v = .ref a ∧ h.get? a = some { cls := .type "tuple", data := .seq #[.none, .str (words T) t1, .int T.length t2] }) (fun g' st up rest J => ?_) F₂₄ I₂₄ fun v h₂₅ tk₂₅ hv' I₂₅ F₂₅ _ _ => ?_
      · refine codeAny_mono (hmp g' _ ⟨h₂₄, s.gens, s.drawn, _, s.os⟩ _ _ _ (hR.deeper.less (by omega)) J (.inl rfl)) fun rr s' hd => ?_
        obtain ⟨a', t1, t2, rfl, h', tk', rfl, J', ea⟩ := hd
        exact ⟨.ref a', rfl, ⟨a', t1, t2, rfl, ea⟩, h', tk', rfl, J'.drop⟩
      obtain ⟨at', t1', t2', rfl, ea⟩ := hv'
      (try dsimp only)
      have aL : at' ≠ L := fun q => by
        obtain ⟨oL, es, ep, eL, dL, _⟩ := F₂₅.ns
        rw [q, eL] at ea; cases ea; cases dL
      refine stT (s := ⟨h₂₅, s.gens, s.drawn, _, s.os⟩) F₂₅ I₂₅ rfl rfl fun h₂₆ I₂₆ F₂₆ k₂₆ => ?_
      (try dsimp only)
      have LM₂₆ := LM₂₄.setF F₂₆ (by decide)
      have ea₂₆ := k₂₆ at' aL _ ea
      refine wpAny_execs_cons (wpAny_Return_some (BoolOp_and (wpAny_Compare1 (nameL (s := ⟨h₂₆, s.gens, s.drawn, _, s.os⟩) F₂₆ rfl rfl (if_pos rfl) (Tuple_ (spliced_more (Constant_none (spliced_more ?_))))))))
      refine nameL (s := ⟨h₂₆, s.gens, s.drawn, _, s.os⟩) F₂₆ rfl rfl ((if_neg (by decide)).trans (if_pos rfl)) (spliced_more (Call_ (nameBT (s := ⟨h₂₆, s.gens, s.drawn, _, s.os⟩) I₂₆ rfl rfl rfl rfl nLe (by boot_by_name) (by decide) ?_)))
      refine PyProof.Rows.callWith_method1 (spliced_more (nameL (s := ⟨h₂₆, s.gens, s.drawn, _, s.os⟩) F₂₆ rfl rfl ((if_neg (by decide)).trans ((if_neg (by decide)).trans ((if_neg (by decide)).trans (if_pos rfl)))) (spliced_none (lenT (u := u) (by omega) fun tl2 tkl2 => ?_))))
      refine spliced_none (wpAny_newTuple ?_ (by rw [sizeLine_eq]; simp))
      (try dsimp only)
      generalize hTup : ({ cls := .type "tuple", data := .seq [Value.none, .str (words T) _, .int T.length tl2].toArray } : Obj) = oT
      have I₂₇ := I₂₆.push oT
      have F₂₇ := F₂₆.push oT
      have e₂₇ : (h₂₆.push oT).get? at' = _ := Heap.get?_push_of_some oT ea₂₆
      have eN : (h₂₆.push oT).get? h₂₆.objs.size = some oT := Heap.get?_push_size _ (by rw [← hTup]; rfl)
      subst hTup
      generalize h₂₆.push _ = h₂₇ at I₂₇ F₂₇ e₂₇ eN ⊢
      refine PySem.SeqAt.eq_tupleAt (s := ⟨h₂₇, s.gens, s.drawn, _, s.os⟩) (e := fun _ => true) ⟨_, e₂₇, rfl, _, rfl⟩ ⟨_, eN, rfl, _, rfl⟩ (show A.units + 3 < cLine by have := hR.un; omega) (fun j h1 h2 => ?_) ?_
      · match j, h1 with
        | 0, _ => exact PySem.SeqAt.EqAt.same _
        | 1, _ => exact eqs
        | 2, _ => exact eqi
        | k + 3, h => exact absurd h (by simp)
      refine wpAny_truthy_bool ?_
      rw [if_pos (by rfl)]
      refine BoolOp_one (wpAny_Compare1 (Call_ (nameGT (s := ⟨h₂₇, s.gens, s.drawn, _, s.os⟩) I₂₇ rfl rfl rfl nTh ?_)))
      refine callWith_K (h₀ := g) I₂₇.b.k kTh (spliced_more (nameL (s := ⟨h₂₇, s.gens, s.drawn, _, s.os⟩) F₂₇ rfl rfl ((if_neg (by decide)).trans ((if_neg (by decide)).trans ((if_neg (by decide)).trans (if_pos rfl)))) (spliced_more (Call_ (nameBT (s := ⟨h₂₇, s.gens, s.drawn, _, s.os⟩) I₂₇ rfl rfl rfl rfl nLe (by boot_by_name) (by decide) ?_)))))
      refine PyProof.Rows.callWith_method1 (spliced_more (nameL (s := ⟨h₂₇, s.gens, s.drawn, _, s.os⟩) F₂₇ rfl rfl LM₂₆.ahead (spliced_none (lenT (u := u) (by omega) fun tl3 tkl3 => ?_))))
      rw [lenA]
      refine spliced_more (nameL (s := ⟨h₂₇, s.gens, s.drawn, _, s.os⟩) F₂₇ rfl rfl LM₂₆.strict (spliced_more (nameL (s := ⟨h₂₇, s.gens, s.drawn, _, s.os⟩) F₂₇ rfl rfl LM₂₆.rest (spliced_none ⟨I₂₇.K, wpAny_call ?_⟩))))
      refine codeAny_mono (leaf_thrown hu (T := T) (x := words T) (s := ⟨h₂₇, s.gens, s.drawn, _, s.os⟩) (Around.frames_deeper hfr) (ffPush F₂₇ (by intro q; cases q) rfl trivial) (hR.deeper.less (by omega)) I₂₇
        fun A' s' outer' q1 q2 q3 q4 => hth A' s' outer' q1 q2 q3 q4 _ _) fun rr s' hd => ?_
      obtain ⟨tk3, rfl, h₂₈, tk₂₈, rfl, I₂₈, up₂₈⟩ := hd
      have F₂₈ := Fr.of_stays F₂₇ I₂₈.st up₂₈
      have I₂₈' : TInv u g [L] h₂₈ := I₂₈
      (try dsimp only)
      refine nameL (s := ⟨h₂₈, s.gens, s.drawn, _, s.os⟩) F₂₈ rfl rfl ((if_neg (by decide)).trans (if_pos rfl)) (eq_str ?_)
      exact ⟨congrArg (fun b => Except.ok (Flow.ret (Value.bool b))) (beq_self_eq_true (words T)), h₂₈, _, rfl, I₂₈'.drop⟩
end Mine

end

/- PJ -/
section
open PySem PySem.W PyProof.Rows PySem.Calls PyProof.V PySem.Spec
set_option Elab.async false
set_option maxRecDepth 100000
namespace Mine

theorem fillJ_ (_ : PySem.Challenge.rw_bd6020_01 = PySem.Challenge.rw_bd6020_01) (_ : Mine.hd.heap_39 = Mine.hd.heap_39) : True := by
  have h : PySem.Challenge.rw_bd6020_01 = PySem.Challenge.rw_bd6020_01 ∧ Mine.hd.heap_39 = Mine.hd.heap_39 := by
    k_fill
    exact ⟨rfl, rfl⟩
  trivial
local macro_rules | `(tactic| walk_at "m.is") => `(tactic| first | (rw [Is.K (by assumption), Is.C (by assumption)]; k_is) | (rw [Is.K (by assumption)]; k_is))

def cx0 : Cx := ⟨0, 0, 0, Str.empty, 0, 0, .none, .none, .none, 0, 0, 0, 0, 0, 0, 0, 0, 0, 0⟩
abbrev tabs2 : List (Addr × Addr) := theTabs.map fun q => (q.1, q.2.1)

theorem kn_of {u : U} (hu : Is u) (hT : u.c.T.length ≤ 100000) : Kn u := by
  refine ⟨?_, ?_, ?_, ?_, ?_, hT⟩ <;> walk_at "m.is"

theorem tabs_K (P : Params) : theTabs.all (fun q => codeHdIn (Mine.hd.heap_39 P) q.1 q.2.1) = true := by kernel_rfl
theorem noTabs_K (P : Params) : noTabs (Mine.hd.heap_39 P) = true := by kernel_rfl

theorem codeAll_get {h : Heap} : ∀ {tabs : List (Addr × Addr)}, CodeAll tabs h → ∀ q ∈ tabs, CodeHd h q.1 q.2
  | _ :: _, k, _, .head _ => k.1
  | _ :: _, k, q, .tail _ hq => codeAll_get k.2 q hq
theorem grownAll_of {h : Heap} : ∀ {tabs : List (Addr × Addr)}, (∀ q ∈ tabs, GrownAt q.2 h) → GrownAll tabs h
  | [], _ => trivial
  | _ :: _, k => ⟨k _ (.head _), grownAll_of fun q hq => k q (.tail _ hq)⟩

set_option maxHeartbeats 4000000 in
theorem walk {q : Program} {lo : List Str} {XP : (Str → Option Value) → Heap → Prop} {YP : World → Heap → Prop} {d : DefRec} {kwd : List (Str × Expr)} (hdn : d.name = "law")
    (hY : ∀ w h, YP w h → (Mine.hd.heap_39 w.params).In h ∧ ∀ q ∈ theTabs, h.get? q.2.1 = some (tabObj #[])) : WalkO q lo XP YP PySem.Challenge.rw_bd6020_01.row.toRowW d kwd (fun f vs => PySem.call f vs) := by
  intro w s₀ s₁ mg mb G Y fa o pm cd doc dV kV ho hd' hcd hD hmg hg args vals as hpre hlay hrd hwl hlo
  obtain ⟨X, hT8⟩ := hY w _ Y
  have T := G.T
  have hT : TabsAt tabs2 s₁.heap := fun q hq => by
    obtain ⟨r, hr, rfl⟩ := List.mem_map.mp hq
    exact ⟨codeHd_of_K X (List.all_eq_true.mp (tabs_K w.params) r hr), hT8 r hr⟩
  obtain ⟨loo, mean, T9⟩ : ∃ loo mean, Top topProg loo mean mg mb (ghostOf s₁.heap tabs2) := ⟨_, _, ghost_top hT T⟩
  have X9 := ghost_K hT X (noTabs_K _)
  wrow_args hpre hlay hrd hwl hlo
  rename_i ns hs1 hl01 hLL hr1 hl21 w4 w3 a vs1 w0 hL ra w1 r0 hI hr2 hc1 hc2
  have hlen : ns.length ≤ 63 := by omega
  let u : U := ⟨PySem.Challenge.rw_bd6020_01.row.prog, w, Mine.hd.heap_39 w.params, topProg, loo, mean, mg, mb, 1478, cx0, theTabs⟩
  have hu : Is2 u := ⟨⟨rfl, rfl⟩, rfl⟩
  have hu1 := hu.toIs
  have kn : Kn u := kn_of hu1 (by show Str.empty.length ≤ _; decide)
  have hm : ∀ {b : Addr}, b ∈ tabs2.map (·.2) ↔ b ∈ theTabs.map (·.2.1) := by intro b; rw [List.map_map]; exact Iff.rfl
  have C9 : ∀ q ∈ theTabs, CodeHd (ghostOf s₁.heap tabs2) q.1 q.2.1 := fun q hq => codeAll_get (ghost_code hT) (q.1, q.2.1) (List.mem_map_of_mem hq)
  have B : Bs u (ghostOf s₁.heap tabs2) := ⟨X9, T9, C9⟩
  have I : TInv u (ghostOf s₁.heap tabs2) [] s₁.heap := by
    refine ⟨B, fun b o e => of_hideAll _ e, Nat.le_of_eq (hideAll_size _ _), (fun a ha => nomatch ha), (fun a ha => nomatch ha), [], fun q hq => ⟨#[], hT8 q hq, trivial, fun pos cv e => by cases e⟩, fun q hq => ⟨hideAll_none _ (hm.mpr (List.mem_map_of_mem hq)), fun m => nomatch m⟩⟩
  have nLaw : nsIn u.K mainGlobals "law" = some (some (.ref 1540)) := by walk_at "m.is"
  have e1 : mg "law" = some (.ref 1540) := mg_of X T.g nLaw
  rw [hdn, e1] at hmg
  have efa : 1540 = fa := by injection hmg with hmg; injection hmg
  subst efa
  have hL9 := ghost_list hT hL
  show wpAny _ _ (PySem.call (.ref 1540) [.ref a]) _ _ _
  refine enter_call ?_
  refine kn_post hT (fun _ _ => rfl) ?_
  refine codeAny_mono (leaf_law (u := u) hu kn (A := callerA) rfl ⟨rfl, by decide, by decide⟩ I hL9 hI hlen) fun rr s' hd => ?_
  obtain ⟨rfl, h', tk', rfl, I'⟩ := hd
  refine ⟨⟨.inl ⟨.bool true, .bool true, [], rfl, fun _ => rfl, .bool _, by first | kernel_rfl | w_fin, fun _ => ⟨List.nodup_nil, fun _ h => nomatch h⟩⟩, I'.st, rfl, hg⟩, grownAll_of fun q hq => ?_⟩
  obtain ⟨cs, ts, _⟩ := I'.tab
  obtain ⟨r, hr, rfl⟩ := List.mem_map.mp hq
  obtain ⟨ps, e, _⟩ := ts r hr
  exact ⟨ps, e⟩
end Mine

end

theorem Mine.tabs_in {ts : List PySem.Addr} (e : Mine.theTabs.all (fun q => ts.contains q.2.1) = true) : ∀ q ∈ Mine.theTabs, q.2.1 ∈ ts := fun q hq => by
  have := List.all_eq_true.mp e q hq
  simpa using this

theorem PySem.Challenge.cw_bd6020_01_holds : PySem.Challenge.rw_bd6020_01.Holds :=
  Mine.hd (Mine.walk rfl fun _ _ Y => ⟨PySem.W.km_in_of Y, fun q hq => PySem.W.km_tabs_of Y q.2.1 (Mine.tabs_in (by kernel_rfl) q hq)⟩)
