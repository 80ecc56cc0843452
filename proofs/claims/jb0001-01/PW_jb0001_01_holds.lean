import PyProof.Rows.All
import Wide.All
import OpenK.AllK
import Wide.FinOn
import Lean
import PySem.Challenge.RW_jb0001_01
open PySem PySem.W PyProof.Rows PySem.Calls PySem.Spec PySem.Builtin PySem.Builtin.ObjectAttr
set_option Elab.async true
set_option maxRecDepth 100000
set_option compiler.extract_closed false
set_option linter.all false
namespace Mine
theorem hx.tw2593134747044449593 : True := trivial
theorem hx.tw6893509615905794137 : True := trivial
theorem hx.tw16313176943581223955 : True := trivial
theorem hx.tw15273810182369437791 : True := trivial
theorem hx.tw17039554997033918745 : True := trivial
theorem hx.tw3572369601583643926 : True := trivial
theorem hx.tw688426785669630529 : True := trivial
theorem hx.tw8365944800133083572 : True := trivial
theorem hx.tw16054784902197028022 : True := trivial
theorem hx.tw7412023604980331399 : True := trivial
theorem hx.tw8593650303535124343 : True := trivial
theorem hx.tw15800518594495053792 : True := trivial
theorem hx.tw9518395320098363422 : True := trivial
theorem hx.tw3199088489289782700 : True := trivial
theorem hx.tw15678912764582642806 : True := trivial
theorem hx.tw4638471485532713653 : True := trivial
theorem hx.tw8911875568552013458 : True := trivial
theorem hx.tw16487803799660546312 : True := trivial
theorem hx.tw16392459512278988274 : True := trivial
theorem hx.tw2107995004203794347 : True := trivial
theorem hx.tw4497578255917416393 : True := trivial
theorem hx.tw14623867283565902758 : True := trivial
theorem hx.tw7098844607837210040 : True := trivial
theorem hx.tw12331924844380296647 : True := trivial
theorem hx.tw4743368475946334711 : True := trivial
theorem hx.tw13588689596132362657 : True := trivial
theorem hx.tw3313697819449281215 : True := trivial
theorem hx.tw1628044414854275119 : True := trivial
theorem hx.tw45817232647829279 : True := trivial
theorem hx.tw1100523350065315309 : True := trivial
theorem hx.tw558561146864003076 : True := trivial
theorem hx.tw14344502140286423506 : True := trivial
theorem hx.tw6776692331446987615 : True := trivial
theorem hx.tw9776661771263451771 : True := trivial
theorem hx.tw4709067958626073384 : True := trivial
theorem hx.tw5546299256372968745 : True := trivial
theorem hx.tw13970432741380693950 : True := trivial
theorem hx.tw12938584960106786947 : True := trivial
theorem hx.tw11868710178002341650 : True := trivial
theorem hx.tw9733707994341241046 : True := trivial
theorem hx.tw579933421156941401 : True := trivial
theorem hx.tw13458227961471406816 : True := trivial
theorem hx.tw12392353606877693820 : True := trivial
theorem hx.tw10110043849684766642 : True := trivial
theorem hx.tw1011593914326734453 : True := trivial
theorem hx.tw10143001506211119355 : True := trivial
theorem hx.tw10147221347258369205 : True := trivial
theorem hx.tw10259550172225532679 : True := trivial
theorem hx.tw10295753902157049106 : True := trivial
theorem hx.tw10307356883056191786 : True := trivial
theorem hx.tw10413734220558041264 : True := trivial
theorem hx.tw10471693372546886218 : True := trivial
theorem hx.tw10501279942588096481 : True := trivial
theorem hx.tw10596243801935397713 : True := trivial
theorem hx.tw10610913765530660747 : True := trivial
theorem hx.tw10704556739469484813 : True := trivial
theorem hx.tw10783175264176337430 : True := trivial
theorem hx.tw10792542408131684335 : True := trivial
theorem hx.tw10864032600957282309 : True := trivial
theorem hx.tw10880121769531294198 : True := trivial
theorem hx.tw10918413460159112602 : True := trivial
theorem hx.tw10973832126581270915 : True := trivial
theorem hx.tw10994771534591457954 : True := trivial
theorem hx.tw11068126759796092325 : True := trivial
theorem hx.tw11133863230559657982 : True := trivial
theorem hx.tw11153277219916700167 : True := trivial
theorem hx.tw11153406825157011147 : True := trivial
theorem hx.tw11180674998892410296 : True := trivial
theorem hx.tw11442105100669052236 : True := trivial
theorem hx.tw11501113234145657499 : True := trivial
theorem hx.tw11511833604947660874 : True := trivial
theorem hx.tw11516083673652718094 : True := trivial
theorem hx.tw11576060578404032109 : True := trivial
theorem hx.tw11578488819760341122 : True := trivial
theorem hx.tw11605663943579434254 : True := trivial
theorem hx.tw11652467807154655573 : True := trivial
theorem hx.tw11698064438423848299 : True := trivial
theorem hx.tw11788848310118352699 : True := trivial
theorem hx.tw11876859455004161157 : True := trivial
theorem hx.tw11892475500146522536 : True := trivial
theorem hx.tw12087079219971932454 : True := trivial
theorem hx.tw12122080299700438669 : True := trivial
theorem hx.tw12377959399836290067 : True := trivial
theorem hx.tw12389214559413477026 : True := trivial
theorem hx.tw12476055800596261357 : True := trivial
theorem hx.tw12531592957024129060 : True := trivial
theorem hx.tw12545834286116690562 : True := trivial
theorem hx.tw12749700546528644094 : True := trivial
theorem hx.tw12764173250460046966 : True := trivial
theorem hx.tw12770057050171300576 : True := trivial
theorem hx.tw12821517133369311258 : True := trivial
theorem hx.tw12840931332580689146 : True := trivial
theorem hx.tw12862048085361865435 : True := trivial
theorem hx.tw12867322890000570906 : True := trivial
theorem hx.tw12876500496384970917 : True := trivial
theorem hx.tw12879404354523853263 : True := trivial
theorem hx.tw12886684066980348408 : True := trivial
theorem hx.tw13028522948772262508 : True := trivial
theorem hx.tw13047111702688295373 : True := trivial
theorem hx.tw13051606616835114215 : True := trivial
theorem hx.tw13100434611214814302 : True := trivial
theorem hx.tw13173629366862862663 : True := trivial
theorem hx.tw13273623471580055978 : True := trivial
theorem hx.tw13343964577679436407 : True := trivial
theorem hx.tw13348707166376220045 : True := trivial
theorem hx.tw13360980773314081272 : True := trivial
theorem hx.tw13418063953174990607 : True := trivial
theorem hx.tw1352479365382649514 : True := trivial
theorem hx.tw13574767429253134702 : True := trivial
theorem hx.tw1358250369764232750 : True := trivial
theorem hx.tw13582783067957832011 : True := trivial
theorem hx.tw1359767371040273477 : True := trivial
theorem hx.tw1362163949497883158 : True := trivial
theorem hx.tw13664370479719496447 : True := trivial
theorem hx.tw13733715944362664559 : True := trivial
theorem hx.tw1375955018112806077 : True := trivial
theorem hx.tw13887421244684101553 : True := trivial
theorem hx.tw13923397955430767758 : True := trivial
theorem hx.tw13994185481600150508 : True := trivial
theorem hx.tw14082659384304107361 : True := trivial
theorem hx.tw14150925457611720700 : True := trivial
theorem hx.tw1415654423932628287 : True := trivial
theorem hx.tw14304415443402900283 : True := trivial
theorem hx.tw14311561367197305191 : True := trivial
theorem hx.tw14364079368883715770 : True := trivial
theorem hx.tw14364110991727458282 : True := trivial
theorem hx.tw14364793385576792824 : True := trivial
theorem hx.tw14374325043358763698 : True := trivial
theorem hx.tw14412699480532031325 : True := trivial
theorem hx.tw14547076071350101635 : True := trivial
theorem hx.tw145932963246128051 : True := trivial
theorem hx.tw14626987222883238387 : True := trivial
theorem hx.tw14629616601678125156 : True := trivial
theorem hx.tw1463196147053303394 : True := trivial
theorem hx.tw14648767878841662682 : True := trivial
theorem hx.tw14722251495701143533 : True := trivial
theorem hx.tw14728151803300476778 : True := trivial
theorem hx.tw14829580396654412330 : True := trivial
theorem hx.tw14919038862432082165 : True := trivial
theorem hx.tw14938798612039523107 : True := trivial
theorem hx.tw14987879335969295103 : True := trivial
theorem hx.tw14992983214800064602 : True := trivial
theorem hx.tw15003182733627720372 : True := trivial
theorem hx.tw15020162214462287587 : True := trivial
theorem hx.tw15031465929163138751 : True := trivial
theorem hx.tw1510941156237703019 : True := trivial
theorem hx.tw15192764956840726322 : True := trivial
theorem hx.tw15215796203213042296 : True := trivial
theorem hx.tw15222671194020912597 : True := trivial
theorem hx.tw15396066670179936615 : True := trivial
theorem hx.tw15462683395770930534 : True := trivial
theorem hx.tw15571626766152387222 : True := trivial
theorem hx.tw15656486127985483219 : True := trivial
theorem hx.tw15667345088766844465 : True := trivial
theorem hx.tw15687806069674188760 : True := trivial
theorem hx.tw15695149568941424871 : True := trivial
theorem hx.tw15719070241404046249 : True := trivial
theorem hx.tw15784146693891255721 : True := trivial
theorem hx.tw15847444086296491327 : True := trivial
theorem hx.tw15871474243252748558 : True := trivial
theorem hx.tw15880504448479711350 : True := trivial
theorem hx.tw15882349035831147880 : True := trivial
theorem hx.tw15890461587552314789 : True := trivial
theorem hx.tw15902653346226055279 : True := trivial
theorem hx.tw15964317271155168136 : True := trivial
theorem hx.tw16038111126348386163 : True := trivial
theorem hx.tw16044307587897543647 : True := trivial
theorem hx.tw16051292036045715728 : True := trivial
theorem hx.tw16053221933270867258 : True := trivial
theorem hx.tw16058991070295768540 : True := trivial
theorem hx.tw16090120013241838585 : True := trivial
theorem hx.tw16131195338128503568 : True := trivial
theorem hx.tw16174250225865239651 : True := trivial
theorem hx.tw16179723595558240676 : True := trivial
theorem hx.tw16220354117797179089 : True := trivial
theorem hx.tw1623351667710231897 : True := trivial
theorem hx.tw16286561074155671207 : True := trivial
theorem hx.tw16328980522917596230 : True := trivial
theorem hx.tw16403607636861804150 : True := trivial
theorem hx.tw16447564128994577934 : True := trivial
theorem hx.tw16503685224865804450 : True := trivial
theorem hx.tw16503919762052067167 : True := trivial
theorem hx.tw16509932877354490577 : True := trivial
theorem hx.tw16514233136784977297 : True := trivial
theorem hx.tw16562810249119712046 : True := trivial
theorem hx.tw1658197193684275316 : True := trivial
theorem hx.tw16600827452279821873 : True := trivial
theorem hx.tw16617463825281310940 : True := trivial
theorem hx.tw16619632684288853345 : True := trivial
theorem hx.tw16625174259953595169 : True := trivial
theorem hx.tw16653890388018469145 : True := trivial
theorem hx.tw16670953707802882552 : True := trivial
theorem hx.tw16751661018229691023 : True := trivial
theorem hx.tw16810214309375985759 : True := trivial
theorem hx.tw16831101020866358490 : True := trivial
theorem hx.tw16929762562273154506 : True := trivial
theorem hx.tw17001873279354605088 : True := trivial
theorem hx.tw17016924944305248243 : True := trivial
theorem hx.tw17095254045102204799 : True := trivial
theorem hx.tw1709533345360563255 : True := trivial
theorem hx.tw17119622794617984870 : True := trivial
theorem hx.tw17158850808337323685 : True := trivial
theorem hx.tw17393156024033759196 : True := trivial
theorem hx.tw1742656451142089649 : True := trivial
theorem hx.tw17453721029707611201 : True := trivial
theorem hx.tw17493533222571850228 : True := trivial
theorem hx.tw1749809594243765621 : True := trivial
theorem hx.tw17601551063327761115 : True := trivial
theorem hx.tw1765193833724418456 : True := trivial
theorem hx.tw17691160309236699985 : True := trivial
theorem hx.tw17809212181156274236 : True := trivial
theorem hx.tw17812654206654028429 : True := trivial
theorem hx.tw17832744011254776289 : True := trivial
theorem hx.tw17868728402115742887 : True := trivial
theorem hx.tw17967490135107311282 : True := trivial
theorem hx.tw18021650032858729757 : True := trivial
theorem hx.tw18025658111944671314 : True := trivial
theorem hx.tw18112682675998309622 : True := trivial
theorem hx.tw18119002219515010161 : True := trivial
theorem hx.tw18141915107381044649 : True := trivial
theorem hx.tw18163383231904437410 : True := trivial
theorem hx.tw18215676871104998399 : True := trivial
theorem hx.tw18286160104727862462 : True := trivial
theorem hx.tw18288557733248936724 : True := trivial
theorem hx.tw18344453789297297638 : True := trivial
theorem hx.tw1837536587343590555 : True := trivial
theorem hx.tw1881273628141950129 : True := trivial
theorem hx.tw1972047601138287618 : True := trivial
theorem hx.tw2087738239193673434 : True := trivial
theorem hx.tw2146883442004570292 : True := trivial
theorem hx.tw2313343453469587 : True := trivial
theorem hx.tw2357444279172408678 : True := trivial
theorem hx.tw2358503780328766540 : True := trivial
theorem hx.tw2368527892694137696 : True := trivial
theorem hx.tw2386780881361962483 : True := trivial
theorem hx.tw2404633205489611897 : True := trivial
theorem hx.tw2444860833786462875 : True := trivial
theorem hx.tw2492048929613541025 : True := trivial
theorem hx.tw2504348554245470067 : True := trivial
theorem hx.tw2530950033039335674 : True := trivial
theorem hx.tw2580623763806008135 : True := trivial
theorem hx.tw2598453218603719200 : True := trivial
theorem hx.tw2618490190428073017 : True := trivial
theorem hx.tw2745991006798580251 : True := trivial
theorem hx.tw2786521351924353169 : True := trivial
theorem hx.tw2822385975729611342 : True := trivial
theorem hx.tw2822907071458423533 : True := trivial
theorem hx.tw2848357750357388338 : True := trivial
theorem hx.tw288411641489606368 : True := trivial
theorem hx.tw2899951234114317963 : True := trivial
theorem hx.tw2911593502983421243 : True := trivial
theorem hx.tw292709383975957704 : True := trivial
theorem hx.tw2927320300579833983 : True := trivial
theorem hx.tw2933574226750363228 : True := trivial
theorem hx.tw2951018021206863066 : True := trivial
theorem hx.tw30516888858077971 : True := trivial
theorem hx.tw3064612590093021604 : True := trivial
theorem hx.tw3089318795281737075 : True := trivial
theorem hx.tw3105936464211144054 : True := trivial
theorem hx.tw3126803895974666599 : True := trivial
theorem hx.tw313783033510757027 : True := trivial
theorem hx.tw3151352308241419672 : True := trivial
theorem hx.tw3169779510389522523 : True := trivial
theorem hx.tw3228090532262280768 : True := trivial
theorem hx.tw3247288618530077131 : True := trivial
theorem hx.tw3247834149452360602 : True := trivial
theorem hx.tw3264777137382535416 : True := trivial
theorem hx.tw3275178236903027326 : True := trivial
theorem hx.tw3399658132070893891 : True := trivial
theorem hx.tw3423346011291521542 : True := trivial
theorem hx.tw3457709029089074591 : True := trivial
theorem hx.tw3461369719786860586 : True := trivial
theorem hx.tw3471404346716756564 : True := trivial
theorem hx.tw3502533989761060701 : True := trivial
theorem hx.tw3548908381971391680 : True := trivial
theorem hx.tw358558379371031262 : True := trivial
theorem hx.tw3597224387928761530 : True := trivial
theorem hx.tw3643914471317708621 : True := trivial
theorem hx.tw3722370046394560457 : True := trivial
theorem hx.tw3750262793593453663 : True := trivial
theorem hx.tw3772895889506965678 : True := trivial
theorem hx.tw3840107357115572158 : True := trivial
theorem hx.tw3864814513713628098 : True := trivial
theorem hx.tw3897231576808763883 : True := trivial
theorem hx.tw3952756967378608505 : True := trivial
theorem hx.tw4003515419551643288 : True := trivial
theorem hx.tw4035567117447141005 : True := trivial
theorem hx.tw4039083011212233968 : True := trivial
theorem hx.tw4081245987573513101 : True := trivial
theorem hx.tw4232555702244796835 : True := trivial
theorem hx.tw4274047373036748609 : True := trivial
theorem hx.tw4311935586957980807 : True := trivial
theorem hx.tw432897219053493142 : True := trivial
theorem hx.tw440200682837978379 : True := trivial
theorem hx.tw4443683451718327492 : True := trivial
theorem hx.tw4518221268279412019 : True := trivial
theorem hx.tw4567310155831165015 : True := trivial
theorem hx.tw4579403493507170074 : True := trivial
theorem hx.tw4778239293986166988 : True := trivial
theorem hx.tw4790614838382506437 : True := trivial
theorem hx.tw479339242167458305 : True := trivial
theorem hx.tw4820356001183778062 : True := trivial
theorem hx.tw482687673346738481 : True := trivial
theorem hx.tw4835485041952420608 : True := trivial
theorem hx.tw4857012375875476094 : True := trivial
theorem hx.tw4957977497641929111 : True := trivial
theorem hx.tw5003379905787062580 : True := trivial
theorem hx.tw5012581791309765258 : True := trivial
theorem hx.tw5044532516427930034 : True := trivial
theorem hx.tw5060404574720663952 : True := trivial
theorem hx.tw5074251886428752240 : True := trivial
theorem hx.tw5151445886737355997 : True := trivial
theorem hx.tw5160383126252970620 : True := trivial
theorem hx.tw5229663503899665235 : True := trivial
theorem hx.tw5286479519828484009 : True := trivial
theorem hx.tw5318747976498570220 : True := trivial
theorem hx.tw540753489051694059 : True := trivial
theorem hx.tw5492716820719653743 : True := trivial
theorem hx.tw551878033868750631 : True := trivial
theorem hx.tw5644764048023550207 : True := trivial
theorem hx.tw568883250039891352 : True := trivial
theorem hx.tw576899675763343441 : True := trivial
theorem hx.tw5859954059831970930 : True := trivial
theorem hx.tw5923862056798008813 : True := trivial
theorem hx.tw5987738072841988675 : True := trivial
theorem hx.tw5991557255702980513 : True := trivial
theorem hx.tw6094537120995972945 : True := trivial
theorem hx.tw616740878971486716 : True := trivial
theorem hx.tw6225824510542169761 : True := trivial
theorem hx.tw6234722803267601620 : True := trivial
theorem hx.tw6382291294955211999 : True := trivial
theorem hx.tw64630411898889128 : True := trivial
theorem hx.tw6661460279421622568 : True := trivial
theorem hx.tw6700631356736508036 : True := trivial
theorem hx.tw6810229405824084477 : True := trivial
theorem hx.tw6810358813687007468 : True := trivial
theorem hx.tw6836243782229160083 : True := trivial
theorem hx.tw6905475023927656221 : True := trivial
theorem hx.tw6912957689366828898 : True := trivial
theorem hx.tw6938760501003799309 : True := trivial
theorem hx.tw6951225809539125009 : True := trivial
theorem hx.tw6984425678791042302 : True := trivial
theorem hx.tw7010757331310601657 : True := trivial
theorem hx.tw7105652820812284432 : True := trivial
theorem hx.tw7117039502732272165 : True := trivial
theorem hx.tw7118774718363930462 : True := trivial
theorem hx.tw7135545248255827829 : True := trivial
theorem hx.tw7160642757287845954 : True := trivial
theorem hx.tw7168309623211571701 : True := trivial
theorem hx.tw7196959931366684185 : True := trivial
theorem hx.tw7271874215164270623 : True := trivial
theorem hx.tw7291546937901893924 : True := trivial
theorem hx.tw7317090234206586261 : True := trivial
theorem hx.tw7369524293546568484 : True := trivial
theorem hx.tw7409074990110511671 : True := trivial
theorem hx.tw7411675879612560423 : True := trivial
theorem hx.tw7445733027249461639 : True := trivial
theorem hx.tw7462397087798485187 : True := trivial
theorem hx.tw7492030116529166354 : True := trivial
theorem hx.tw7494296812056875437 : True := trivial
theorem hx.tw7585126839785639578 : True := trivial
theorem hx.tw764732042479237497 : True := trivial
theorem hx.tw767136082746918875 : True := trivial
theorem hx.tw7723801398212525404 : True := trivial
theorem hx.tw7789537453598603269 : True := trivial
theorem hx.tw7822962280082496512 : True := trivial
theorem hx.tw7864485984771250624 : True := trivial
theorem hx.tw7876969669924440321 : True := trivial
theorem hx.tw7891766511613034010 : True := trivial
theorem hx.tw7924969997821631868 : True := trivial
theorem hx.tw797321630700447069 : True := trivial
theorem hx.tw7992169660659198757 : True := trivial
theorem hx.tw8013753438709209555 : True := trivial
theorem hx.tw8072070048918887560 : True := trivial
theorem hx.tw8078265402885471976 : True := trivial
theorem hx.tw8089808293607095345 : True := trivial
theorem hx.tw811370354263480444 : True := trivial
theorem hx.tw8153351105357841641 : True := trivial
theorem hx.tw8179353310426384613 : True := trivial
theorem hx.tw8210334511716523686 : True := trivial
theorem hx.tw821141287760084731 : True := trivial
theorem hx.tw8280520150143245440 : True := trivial
theorem hx.tw8294567603793468075 : True := trivial
theorem hx.tw829882407734958542 : True := trivial
theorem hx.tw8326940854005059898 : True := trivial
theorem hx.tw8339939058450410749 : True := trivial
theorem hx.tw8374021121780711109 : True := trivial
theorem hx.tw8377067652309620493 : True := trivial
theorem hx.tw8383832312975943185 : True := trivial
theorem hx.tw8462949007004437653 : True := trivial
theorem hx.tw8629640164197408899 : True := trivial
theorem hx.tw8683918616840425538 : True := trivial
theorem hx.tw8719310546069769394 : True := trivial
theorem hx.tw8791178820788453978 : True := trivial
theorem hx.tw8800404311707590821 : True := trivial
theorem hx.tw8866640492970853812 : True := trivial
theorem hx.tw8916866690797206258 : True := trivial
theorem hx.tw8920871248978507458 : True := trivial
theorem hx.tw899982699746041680 : True := trivial
theorem hx.tw9071423850677124175 : True := trivial
theorem hx.tw9115037031211061566 : True := trivial
theorem hx.tw9160301636639237467 : True := trivial
theorem hx.tw919350103801827390 : True := trivial
theorem hx.tw9229111910879503682 : True := trivial
theorem hx.tw9300793153402489460 : True := trivial
theorem hx.tw9425653185733914764 : True := trivial
theorem hx.tw9440667166201527827 : True := trivial
theorem hx.tw9463795675075205437 : True := trivial
theorem hx.tw9504622745713830366 : True := trivial
theorem hx.tw9558739934217749035 : True := trivial
theorem hx.tw9572597257264208301 : True := trivial
theorem hx.tw9580440979016352591 : True := trivial
theorem hx.tw9592554324860578136 : True := trivial
theorem hx.tw9706382859710513879 : True := trivial
theorem hx.tw9728156084186220081 : True := trivial
theorem hx.tw9728688711462037987 : True := trivial
theorem hx.tw9807087744658564304 : True := trivial
theorem hx.tw9838419238923530799 : True := trivial
theorem hx.tw990764820897086996 : True := trivial
theorem hx.tw9926087939513100535 : True := trivial
theorem hx.tw9960968122618143832 : True := trivial
theorem hx.tw9975269523818592724 : True := trivial
theorem get_bind_tuple {prog : Program} {w : World} {A : Around} {E : Value → Shared → Prop} {s : Shared} {K : Frag} {x C : Addr} {ox : Obj} {od : Option Obj} {name : Str} {expr : Bool} {Q : Value → Shared → Prop} {g a : Value}
   (X : K.In s.heap) (I : InstAt s.heap x ox C od) (hga : findIn K (.ref C) "__getattribute__" = some (some (.builtin "tuple.__getattribute__")))
   (hk : findIn K (.ref C) "__getattr__" = some none) (hsub : mroIn K C (.type "tuple") = some true) (hf : findObj K C od name = some (.bind g a))
   (h : wpAny (model prog w) A.in1 (call g [a, .ref x, .ref C]) (fun v s' => wpAny (model prog w) A (handedOut v) Q E s') (fun _ _ => False) { s with toks := s.toks + 1 }) :
   wpAny (model prog w) A (getAttr (.ref x) name expr) Q E s := by
  obtain ⟨hh, gg, d, t, os⟩ := s
  have L0 := I.type (M := model prog w)
  have L1 := looks_findIn (M := model prog w) X hga
  have L2 := looks_findIn (M := model prog w) X hk
  have L3 := looks_find (M := model prog w) X I hf
  have L4 : Looks (model prog w) hh (isInstance (.ref x) (.type "tuple")) true := L0.andThen (looks_mroIn X hsub)
  refine wpAny_bind (wpAny_mkText (wpAny_holding (wpAny_bind (L0.at (wpAny_bind (L1.at ?_))))))
  dsimp only
  rw [show (onTheHeap (Value.ref C) && Value.builtin "tuple.__getattribute__" == Value.builtin "object.__getattribute__") = false from by rw [show (Value.builtin "tuple.__getattribute__" == Value.builtin "object.__getattribute__") = false from by decide +kernel, Bool.and_false], if_neg (by decide)]
  refine wpAny_bind (?_)
  unfold hookBefore
  rw [if_pos (by rfl)]
  refine L2.at (wpAny_bind (wpAny_attempt (wpAny_holding ?_)))
  unfold callGetattribute
  rw [show (expr && onTheHeap (Value.builtin "tuple.__getattribute__")) = false from Bool.and_false _, if_neg (by decide)]
  unfold boundAndCalled
  rw [F.slot_tuple_getattribute.bind]
  refine wpAny_bind (wpAny_pure ?_)
  show wpAny _ _ (call (.builtin "tuple.__getattribute__") [.ref x, .str name t]) _ _ _
  refine wpAny_call ?_
  refine codeAny_call_builtin F.slot_tuple_getattribute.plain F.entry_tuple_ga ?_
  refine @check_slot (model prog w) _ _ ⟨hh, gg, d, t + 1, os⟩ "tuple.__getattribute__" "tuple" "__getattribute__" (.ref x) [.str name t] [] _ (by decide +kernel) (by decide +kernel) L4 (F.args_tuple_getattribute_2 _ _) ?_
  unfold Builtin.«object.__getattribute__»
  refine wpAny_bind (wpAny_pure (wpAny_bind (wpAny_pure (wpAny_bind (L0.at (wpAny_bind (L3.at ?_)))))))
  show wpAny _ _ (holding [a] (call g [a, .ref x, .ref C]) >>= ret) _ _ _
  refine wpAny_bind (wpAny_holding (wpAny_mono h (fun v s' z => wpAny_pure ?_) fun _ _ z => z.elim))
  exact z

theorem issub_nested {prog : Program} {w : World} {A : Around} {E : Value → Shared → Prop} {s : Shared} {K : Frag} {C : Addr} {T : String} {k : Value} {dep : Int} {tk : Tok} {Q : Fin → Shared → Prop} (hk : k = .int dep tk)
   (X : K.In s.heap) (hm : typeOf (.type T) = pure (.type "type")) (hi : isClsIn K C = true) (e : mroIn K C (.type T) = some true)
   (h : Q (.done (.ret (.bool true))) s) : wpAny (model prog w) A (Builtin.«issubclass.nested» ⟨[.ref C, .type T, k], []⟩) Q E s := by
  subst hk
  obtain ⟨cd, hc⟩ := Option.isSome_iff_exists.mp hi
  have L2 := looks_mroIn (M := model prog w) X e
  unfold clsIn at hc
  split at hc
  · rename_i oc od cd' sl ho
    have ho := X _ _ ho
    obtain ⟨hh, gg, d, t, os⟩ := s
    unfold Builtin.«issubclass.nested»
    refine wpAny_bind ?_
    rw [hm]
    refine wpAny_pure ?_
    rw [if_pos (by decide)]
    k_delta "plainIsSubclass"
    unfold isType
    refine wpAny_bind (wpAny_bind (wpAny_bind (wpAny_loadPart ho (wpAny_pure (wpAny_bind (wpAny_pure ?_))))))
    refine (show wpAny _ _ (isSubtype (Value.ref C) (Value.type T)) _ _ _ from ?_)
    exact L2.at (wpAny_pure h)
  · cases hc
theorem issub_call {prog : Program} {w : World} {A : Around} {E : Value → Shared → Prop} {s : Shared} {K : Frag} {C : Addr} {T : String} {Q : Value → Shared → Prop}
   (X : K.In s.heap) (hm : typeOf (.type T) = pure (.type "type")) (hi : isClsIn K C = true) (e : mroIn K C (.type T) = some true) (h : Q (.bool true) s) :
   wpAny (model prog w) A (call (.builtin "issubclass") [.ref C, .type T]) Q E s :=
  call_issubclass (S := fun _ R s => K.In s.heap ∧ R (.ok (.ret (.bool true))) s) (fun _ _ _ _ _ hs => issubclass_outer (issub_nested rfl hs.1 hm hi e hs.2)) ⟨X, h⟩
theorem seqItems_at {M : Model} {A : Around} {E : Value → Shared → Prop} {s : Shared} {t : Addr} {o : Obj} {items : Array Value} {n : Nat} {Q : Array Value → Shared → Prop} (ho : s.heap.get? t = some o) (hd : o.data = .seq items n) (h : Q items s) :
    wpAny M A (Builtin.Tuple.tupleItemsOf (.ref t)) Q E s := by
  unfold Builtin.Tuple.tupleItemsOf
  exact wpAny_bind (wpAny_seqItems ho hd (wpAny_pure h))
/-- tuple.__getitem__ on an object whose class lies below tuple -/
theorem sub_item {prog : Program} {w : World} {A : Around} {E : Value → Shared → Prop} {s : Shared} {K : Frag} {C t : Addr} {o : Obj} {od : Option Obj} {items : Array Value} {n : Nat} {k : Int} {u : Tok} {j : Nat} {x : Value} {Q : Value → Shared → Prop}
   (X : K.In s.heap) (I : InstAt s.heap t o C od) (hd : o.data = .seq items n) (e : mroIn K C (.type "tuple") = some true)
   (hlo : -(2 ^ 63) ≤ k) (hhi : k < 2 ^ 63) (hj : seqIndex? k items.size = some j) (hx : items[j]? = some x) (h : Q x s) : wpAny (model prog w) A (call (.builtin "tuple.__getitem__") [.ref t, .int k u]) Q E s := by
  have L4 : Looks (model prog w) s.heap (isInstance (.ref t) (.type "tuple")) true := I.type.andThen (looks_mroIn X e)
  refine wpAny_call ?_
  refine codeAny_call_builtin slot_tuple_getitem.plain entry_tuple_getitem ?_
  refine @check_slot (model prog w) _ _ s "tuple.__getitem__" "tuple" "__getitem__" (.ref t) [.int k u] [] _ (by decide +kernel) (by decide +kernel) L4 (args_tuple_getitem _ _) ?_
  show wpAny _ _ (Builtin.Tuple.tupleItemsOf (.ref t) >>= _) _ _ s
  refine wpAny_bind (seqItems_at I.at_ hd ?_)
  refine wpAny_bind (wpAny_typeOf (typeIs_int s k u) ?_)
  rw [if_neg (by decide)]
  refine wpAny_bind (wpAny_specialOf (T := "int") (typeIs_int s k u) int_index ?_)
  rw [if_neg (by simp)]
  refine wpAny_bind (wpAny_of_eq (a := k) rfl ?_)
  rw [if_neg (by simp only [Bool.or_eq_true, decide_eq_true_eq]; omega)]
  simp only [hj, Option.bind_some, hx]
  exact wpAny_pure h
theorem type_tuple_meta : typeOf (.type "tuple") = pure (.type "type") := by kernel_rfl
theorem sub_type_type : isSubtype (.type "type") (.type "type") = pure true := by rw [isSubtype_type]; kernel_rfl

section
variable {prog : Program} {w : World} {A : Around} {E : Value → Shared → Prop} {s : Shared}
/-- what a tuple's < asks, pair by pair -/
def LtLex (prog : Program) (w : World) (A : Around) (Q : Value → Shared → Prop) (E : Value → Shared → Prop) (m n : Nat) : List (Value × Value) → Shared → Prop
  | [], s => Q (.bool (decide (m < n))) s
  | (p, q) :: r, s => wpAny (model prog w) A (eqBool p q) (fun e s' => if e = true then LtLex prog w A Q E m n r s' else wpAny (model prog w) A (richCompare .Lt p q) Q E s') E s
theorem tup_lt_tree {a b : Addr} {oa ob : Obj} {xs ys : Array Value} {na nb : Nat} {P : Fin → Shared → Prop} (ha : s.heap.get? a = some oa) (da : oa.data = .seq xs na) (hb : s.heap.get? b = some ob) (db : ob.data = .seq ys nb)
    (hI : Looks (model prog w) s.heap (isInstance (.ref b) (.type "tuple")) true)
    (h : LtLex prog w A (fun v s' => P (.done (.ret v)) s') E xs.size ys.size (xs.toList.zip ys.toList) s) :
    wpAny (model prog w) A (Builtin.«tuple.__lt__» ⟨[.ref a, .ref b], []⟩) P E s := by
  show wpAny _ _ (isInstance (.ref b) (.type "tuple") >>= _) _ _ s
  refine wpAny_bind (hI.here ?_)
  simp only [Bool.not_true, Bool.false_eq_true, if_false]
  refine wpAny_bind (wpAny_tupleItemsOf ha da ?_)
  refine wpAny_bind (wpAny_tupleItemsOf hb db ?_)
  refine wpAny_bind ?_
  refine wpAny_forIn_list _ (fun rest r s' => r.1 = none ∧ LtLex prog w A (fun v s' => P (.done (.ret v)) s') E xs.size ys.size rest s') _ ?_ ?_ _ _ ⟨rfl, h⟩
  · rintro ⟨p, q⟩ rest r s' ⟨hr, hl⟩
    have hl : wpAny (model prog w) A (eqBool p q) (fun e s' => if e = true then LtLex prog w A (fun v s' => P (.done (.ret v)) s') E xs.size ys.size rest s' else wpAny (model prog w) A (richCompare .Lt p q) (fun v s' => P (.done (.ret v)) s') E s') E s' := hl
    refine wpAny_bind (wpAny_mono hl (fun e s'' he => ?_) fun _ _ z => z)
    cases e with
    | true =>
      simp only [if_true] at he
      simp only [Bool.not_true, Bool.false_eq_true, if_false]
      exact wpAny_pure ⟨rfl, he⟩
    | false =>
      simp only [Bool.false_eq_true, if_false] at he
      simp only [Bool.not_false, if_true]
      refine wpAny_bind (wpAny_rule (wpAny_bind (wpAny_mono he (fun v s3 hv => ?_) fun _ _ z => z)))
      exact wpAny_bind (wpAny_pure (wpAny_pure (wpAny_pure hv)))
  · rintro ⟨r1, r2⟩ s' ⟨hr, hl⟩
    simp only at hr
    subst hr
    exact wpAny_pure hl

def lexB (x1 y1 x2 y2 : Int) : Bool := decide (x1 < x2) || (decide (x1 = x2) && decide (y1 < y2))
theorem lt_ints2 {Q : Value → Shared → Prop} {x1 y1 x2 y2 : Int} {t1 u1 t2 u2 : Tok} (h : Q (.bool (lexB x1 y1 x2 y2)) s) :
    LtLex prog w A Q E 2 2 [(.int x1 t1, .int x2 t2), (.int y1 u1, .int y2 u2)] s := by
  refine wpAny_eqBool_int (w := w) ?_
  by_cases hx : x1 = x2
  · rw [if_pos (by simp [hx])]
    refine wpAny_eqBool_int (w := w) ?_
    by_cases hy : y1 = y2
    · rw [if_pos (by simp [hy])]
      have e : lexB x1 y1 x2 y2 = decide (2 < 2) := by simp [lexB, hx, hy]
      rw [e] at h; exact h
    · rw [if_neg (by simp [hy])]
      have e : lexB x1 y1 x2 y2 = decide (y1 < y2) := by simp [lexB, hx]
      rw [e] at h; exact wpAny_lt_int h
  · rw [if_neg (by simp [hx])]
    have e : lexB x1 y1 x2 y2 = decide (x1 < x2) := by simp [lexB, hx]
    rw [e] at h; exact wpAny_lt_int h
theorem LtLex.mono {Q Q' : Value → Shared → Prop} {m n : Nat} (hQ : ∀ b s, Q (.bool b) s → Q' (.bool b) s) (hQ2 : ∀ v s, Q v s → Q' v s) : ∀ {l : List (Value × Value)} {s : Shared}, LtLex prog w A Q E m n l s → LtLex prog w A Q' E m n l s
  | [], _, h => hQ _ _ h
  | (p, q) :: r, s, h => wpAny_mono (show wpAny (model prog w) A (eqBool p q) (fun e s' => if e = true then LtLex prog w A Q E m n r s' else wpAny (model prog w) A (richCompare .Lt p q) Q E s') E s from h) (fun e s' he => by
      cases e with
      | true => simp only [if_true] at he ⊢; exact LtLex.mono hQ hQ2 he
      | false => simp only [Bool.false_eq_true, if_false] at he ⊢; exact wpAny_mono he hQ2 fun _ _ z => z) fun _ _ z => z
theorem rich_lt_tup {a b : Addr} {oa ob : Obj} {xs ys : Array Value} {na nb : Nat} {Q : Value → Shared → Prop} (hu : A.units < cLine)
    (ha : s.heap.get? a = some oa) (ca : oa.cls = .type "tuple") (da : oa.data = .seq xs na) (hb : s.heap.get? b = some ob) (cb : ob.cls = .type "tuple") (db : ob.data = .seq ys nb)
    (h : LtLex prog w A.in1 (fun v s' => v ≠ .notImplemented ∧ Q v s') E xs.size ys.size (xs.toList.zip ys.toList) s) :
    wpAny (model prog w) A (richCompare .Lt (.ref a) (.ref b)) Q E s := by
  have hTa : s.TypeIs (.ref a) "tuple" := ⟨oa, ha, ca⟩
  have hTb : s.TypeIs (.ref b) "tuple" := ⟨ob, hb, cb⟩
  have hL : Looks (model prog w) s.heap (typeOf (.ref b)) (.type "tuple") := cb ▸ (Looks.ld hb).andThen .now
  refine wpAny_richCompare_same_room (op := .Lt) hTa hTb F.slot_tuple_lt (wpAny_call_entry F.slot_tuple_lt hTa F.entry_tuple_lt (tup_lt_tree ha da hb db ?_ ?_) (F.args_tuple_lt_2 _ _)) hu
  · exact hL.andThen (Looks.of_pure isSubtype_tuple_tuple)
  · exact LtLex.mono (fun b s z => ⟨_, rfl, z⟩) (fun v s z => ⟨_, rfl, z⟩) h
theorem nimpl (b : Bool) : (Value.bool b) ≠ .notImplemented := fun e => nomatch e
/-- (x, y) < (x, y), two exact tuples of ints -/
theorem tp_lt {a b : Addr} {oa ob : Obj} {na nb : Nat} {x1 y1 x2 y2 : Int} {t1 u1 t2 u2 : Tok} {Q : Value → Shared → Prop} (hu : A.units < cLine)
    (ha : s.heap.get? a = some oa) (ca : oa.cls = .type "tuple") (da : oa.data = .seq #[.int x1 t1, .int y1 u1] na) (hb : s.heap.get? b = some ob) (cb : ob.cls = .type "tuple") (db : ob.data = .seq #[.int x2 t2, .int y2 u2] nb)
    (h : Q (.bool (lexB x1 y1 x2 y2)) s) : wpAny (model prog w) A (richCompare .Lt (.ref a) (.ref b)) Q E s :=
  rich_lt_tup hu ha ca da hb cb db (lt_ints2 ⟨nimpl _, h⟩)
theorem key2 {h : Heap} {a : Addr} {o : Obj} {n : Nat} {x y : Int} {t u : Tok} (ha : h.get? a = some o) (ca : o.cls = .type "tuple") (da : o.data = .seq #[.int x t, .int y u] n) : IsTupleKey (intKind prog w) h [x, y] a :=
  ⟨o, _, n, ha, ca, da, .cons (intKind_is prog w _ _) (.cons (intKind_is prog w _ _) .nil)⟩
theorem tp_eqB {a b : Addr} {oa ob : Obj} {na nb : Nat} {x1 y1 x2 y2 : Int} {t1 u1 t2 u2 : Tok} {Q : Bool → Shared → Prop} (hu : A.units < cLine)
    (ha : s.heap.get? a = some oa) (ca : oa.cls = .type "tuple") (da : oa.data = .seq #[.int x1 t1, .int y1 u1] na) (hb : s.heap.get? b = some ob) (cb : ob.cls = .type "tuple") (db : ob.data = .seq #[.int x2 t2, .int y2 u2] nb)
    (h : Q (decide (x1 = x2) && decide (y1 = y2)) s) : wpAny (model prog w) A (eqBool (.ref a) (.ref b)) Q E s := by
  refine wpAny_eqBool_tuple (knd := intKind prog w) hu (key2 ha ca da) (key2 hb cb db) ?_
  have e : decide ([x1, y1] = [x2, y2]) = (decide (x1 = x2) && decide (y1 = y2)) := by simp [Bool.decide_and]
  rw [e]; exact h
def plB (x1 y1 b1 u1 v1 x2 y2 b2 u2 v2 : Int) : Bool :=
  if (decide (x1 = x2) && decide (y1 = y2)) = true then (if b1 = b2 then lexB u1 v1 u2 v2 else decide (b1 < b2)) else lexB x1 y1 x2 y2
structure IsPl (h : Heap) (a : Addr) (x y b u v : Int) : Prop where
  ex : ∃ oa na lo hi tb, h.get? a = some oa ∧ oa.cls = .type "tuple" ∧ oa.data = .seq #[.ref lo, .int b tb, .ref hi] na ∧
    (∃ ol nl tx ty, h.get? lo = some ol ∧ ol.cls = .type "tuple" ∧ ol.data = .seq #[.int x tx, .int y ty] nl) ∧
    (∃ oh nh tu tv, h.get? hi = some oh ∧ oh.cls = .type "tuple" ∧ oh.data = .seq #[.int u tu, .int v tv] nh)
theorem pl_lt {a b : Addr} {x1 y1 b1 u1 v1 x2 y2 b2 u2 v2 : Int} {Q : Value → Shared → Prop} (hu : A.units + 1 < cLine) (h1 : IsPl s.heap a x1 y1 b1 u1 v1) (h2 : IsPl s.heap b x2 y2 b2 u2 v2)
    (h : Q (.bool (plB x1 y1 b1 u1 v1 x2 y2 b2 u2 v2)) s) : wpAny (model prog w) A (richCompare .Lt (.ref a) (.ref b)) Q E s := by
  obtain ⟨oa, na, lo1, hi1, tb1, ga, ca, da, ⟨ol1, nl1, tx1, ty1, gl1, cl1, dl1⟩, ⟨oh1, nh1, tu1, tv1, gh1, ch1, dh1⟩⟩ := h1.ex
  obtain ⟨ob, nb, lo2, hi2, tb2, gb, cb, db, ⟨ol2, nl2, tx2, ty2, gl2, cl2, dl2⟩, ⟨oh2, nh2, tu2, tv2, gh2, ch2, dh2⟩⟩ := h2.ex
  refine rich_lt_tup (Nat.lt_of_succ_lt hu) ga ca da gb cb db ?_
  show wpAny _ _ (eqBool (.ref lo1) (.ref lo2)) _ _ _
  refine tp_eqB hu gl1 cl1 dl1 gl2 cl2 dl2 ?_
  unfold plB at h
  by_cases e1 : (decide (x1 = x2) && decide (y1 = y2)) = true
  · rw [if_pos e1] at h ⊢
    refine wpAny_eqBool_int (w := w) ?_
    by_cases e2 : b1 = b2
    · rw [if_pos e2] at h
      rw [if_pos (by simp [e2])]
      refine tp_eqB hu gh1 ch1 dh1 gh2 ch2 dh2 ?_
      by_cases e3 : (decide (u1 = u2) && decide (v1 = v2)) = true
      · rw [if_pos e3]
        have q : lexB u1 v1 u2 v2 = decide (3 < 3) := by
          simp only [Bool.and_eq_true, decide_eq_true_eq] at e3
          simp [lexB, e3.1, e3.2]
        rw [q] at h
        exact ⟨nimpl _, h⟩
      · rw [if_neg e3]
        exact tp_lt hu gh1 ch1 dh1 gh2 ch2 dh2 ⟨nimpl _, h⟩
    · rw [if_neg e2] at h
      rw [if_neg (by simp [e2])]
      exact wpAny_lt_int ⟨nimpl _, h⟩
  · rw [if_neg e1] at h ⊢
    exact tp_lt hu gl1 cl1 dl1 gl2 cl2 dl2 ⟨nimpl _, h⟩
/-- < of two instances of one subclass of tuple that has no < of its own -/
theorem rich_lt_sub {K : Frag} {C a b : Addr} {oa ob : Obj} {da' db' : Option Obj} {xs ys : Array Value} {na nb : Nat} {Q : Value → Shared → Prop} (hu : A.units < cLine)
    (X : K.In s.heap) (Ia : InstAt s.heap a oa C da') (Ib : InstAt s.heap b ob C db') (e : mroIn K C (.type "tuple") = some true) (hs : findIn K (.ref C) "__lt__" = some (some (.builtin "tuple.__lt__")))
    (da : oa.data = .seq xs na) (db : ob.data = .seq ys nb)
    (h : LtLex prog w A.in1 (fun v s' => v ≠ .notImplemented ∧ Q v s') E xs.size ys.size (xs.toList.zip ys.toList) s) :
    wpAny (model prog w) A (richCompare .Lt (.ref a) (.ref b)) Q E s := by
  have L1 : Looks (model prog w) s.heap (isInstance (.ref a) (.type "tuple")) true := Ia.type.andThen (looks_mroIn X e)
  have L2 : Looks (model prog w) s.heap (isInstance (.ref b) (.type "tuple")) true := Ib.type.andThen (looks_mroIn X e)
  have one : wpAny (model prog w) A (tryCompare (.ref a) (cmpInfo .Lt).2.1 (.ref b)) (fun r s' => ∃ v, r = some v ∧ Q v s') E s := by
    unfold tryCompare
    simp only [callSpecialIfBound?, bindSpecialIfBound?]
    have fin : wpAny (model prog w) A (call (.builtin "tuple.__lt__") ([.ref a] ++ [.ref b]) >>= fun v => pure (some v)) (fun r s' => wpAny (model prog w) A (match r with | some .notImplemented | none => pure none | some v => pure (some v)) (fun r s' => ∃ v, r = some v ∧ Q v s') E s') E s := by
      refine wpAny_bind (wpAny_call ?_)
      refine codeAny_call_builtin F.slot_tuple_lt.plain F.entry_tuple_lt ?_
      refine @check_slot (model prog w) _ _ s "tuple.__lt__" "tuple" "__lt__" (.ref a) [.ref b] [] _ (by decide +kernel) (by decide +kernel) L1 (F.args_tuple_lt_2 _ _) ?_
      refine wpAny_mono (tup_lt_tree (P := fun fin s' => ∃ v, fin = .done (.ret v) ∧ v ≠ .notImplemented ∧ Q v s') Ia.at_ da Ib.at_ db L2 (LtLex.mono (fun b s z => ⟨_, rfl, z⟩) (fun v s z => ⟨_, rfl, z⟩) h)) (fun fin s' z => ?_) fun _ _ z => z
      obtain ⟨v, rfl, hv, hq⟩ := z
      refine wpAny_pure ?_
      cases v <;> first | exact absurd rfl hv | exact wpAny_pure ⟨_, rfl, hq⟩
    refine wpAny_bind (wpAny_holding (wpAny_bind (wpAny_bind (wpAny_bind (Ia.type.here ((looks_findIn X hs).here ?_))))))
    refine wpAny_bind (wpAny_askSetting (wpAny_ite ?_))
    split
    · refine wpAny_bind ?_
      rw [F.slot_tuple_lt.bind]
      exact wpAny_pure (wpAny_pure fin)
    · refine wpAny_tryCatch (wpAny_bind ?_)
      rw [F.slot_tuple_lt.bind]
      exact wpAny_pure (wpAny_pure fin)
  unfold richCompare
  simp only [oneThing_ref]
  refine wpAny_holding (wpAny_bind (wpAny_cRoomFor hu ?_))
  refine wpAny_bind (Ia.type.here (wpAny_bind (Ib.type.here ?_)))
  rw [if_neg (by simp)]
  refine wpAny_bind (wpAny_pure ?_)
  simp only [Bool.false_eq_true, if_false]
  refine wpAny_bind (wpAny_mono one (fun r s' z => ?_) fun _ _ e => e)
  obtain ⟨v, rfl, hq⟩ := z
  exact wpAny_pure hq
end

abbrev ptObj (d : Addr) (x y : Int) (tx ty : Tok) : Obj := { cls := .ref 174, dict := some d, data := .seq #[.int x tx, .int y ty] }
abbrev edict : Obj := { cls := .type "dict", data := .dict #[] }
theorem pt_inst {h₀ h : Heap} {L pa d : Addr} {news : List (Addr × Obj)} {x y : Int} {tx ty : Tok} (N : News h₀ L h news) (h1 : (pa, ptObj d x y tx ty) ∈ news) (h2 : (d, edict) ∈ news) : InstAt h pa (ptObj d x y tx ty) 174 (some edict) :=
  ⟨(N _ h1).1, rfl, rfl, (N _ h2).1⟩
structure IsPt (news : List (Addr × Obj)) (pa : Addr) (x y : Int) : Prop where
  ex : ∃ d tx ty, (pa, ptObj d x y tx ty) ∈ news ∧ (d, edict) ∈ news
theorem IsPt.cons {news : List (Addr × Obj)} {q : Addr × Obj} {pa : Addr} {x y : Int} (h : IsPt news pa x y) : IsPt (q :: news) pa x y := let ⟨d, tx, ty, a, b⟩ := h.ex; ⟨d, tx, ty, .tail _ a, .tail _ b⟩
theorem item_news {prog : Program} {w : World} {A : Around} {E : Value → Shared → Prop} {s : Shared} {h₀ : Heap} {L l : Addr} {news : List (Addr × Obj)} {value slice : Expr} {vs : Array Value} {n : Nat} {k : Int} {u : Tok} {v : Value} {Q : Value → Shared → Prop}
    (N : News h₀ L s.heap news) (hm : (l, listOf vs n) ∈ news) (h0 : 0 ≤ k) (hhi : k < 2 ^ 63) (hx : vs[k.toNat]? = some v) (h : Q v s)
    (hs : subscripted slice false (.ref l) (.int k u) = operate [.ref l, .int k u] (getItem (.ref l) (.int k u)) := by with_unfolding_all rfl) :
    wpAny (model prog w) A (subscriptTail value slice (.ref l) (.int k u)) Q E s :=
  have hl : s.heap.IsList l vs := ⟨_, (N _ hm).1, rfl, n, rfl⟩
  tail_any hl.typeIs slot_list_getitem.lookup (wpAny_getItem_list hl h0 hhi hx h) hs
theorem item_newsL {prog : Program} {w : World} {A : Around} {E : Value → Shared → Prop} {s : Shared} {h₀ : Heap} {L l : Addr} {news : List (Addr × Obj)} {value slice : Expr} {vs : List Value} {n : Nat} {k : Int} {u : Tok} {v : Value} {Q : Value → Shared → Prop}
    (N : News h₀ L s.heap news) (hm : (l, listOf vs.toArray n) ∈ news) (h0 : 0 ≤ k) (hhi : k < 2 ^ 63) (hx : vs[k.toNat]? = some v) (h : Q v s)
    (hs : subscripted slice false (.ref l) (.int k u) = operate [.ref l, .int k u] (getItem (.ref l) (.int k u)) := by with_unfolding_all rfl) :
    wpAny (model prog w) A (subscriptTail value slice (.ref l) (.int k u)) Q E s := item_news N hm h0 hhi (by simpa using hx) h hs
theorem retB {h₀ h' : Heap} {L : Addr} {m : Str → Option Value} {news : List (Addr × Obj)} {s : Shared} {Q : Value → Shared → Prop} {tk' : Nat} {x y : Bool} (hret : ∀ (h' : Heap) (tk' : Nat), Fr h₀ L h' m → News h₀ L h' news → Q (.bool x) { s with heap := h', toks := tk' }) (e : y = x) (F : Fr h₀ L h' m) (N : News h₀ L h' news) : Q (.bool y) { s with heap := h', toks := tk' } := by
  subst e
  exact hret h' tk' F N
theorem nd {h₀ h : Heap} {L : Addr} {q : Addr × Obj} {news : List (Addr × Obj)} (N : News h₀ L h (q :: news)) : News h₀ L h news := fun p hp => N p (.tail _ hp)
theorem retV {h₀ h' : Heap} {L : Addr} {m : Str → Option Value} {news : List (Addr × Obj)} {s : Shared} {Q : Value → Shared → Prop} {tk' : Nat} {x y : Value} (hret : ∀ (h' : Heap) (tk' : Nat), Fr h₀ L h' m → News h₀ L h' news → Q x { s with heap := h', toks := tk' }) (e : y = x) (F : Fr h₀ L h' m) (N : News h₀ L h' news) : Q y { s with heap := h', toks := tk' } := by
  subst e
  exact hret h' tk' F N
def Hold (P : Prop) : Prop := P
theorem Hold.of {P : Prop} (h : Hold P) : P := h
theorem fit0 {a c L : Nat} (h : a + c < L) : a < L := Nat.lt_of_le_of_lt (Nat.le_add_right a c) h
theorem fit1 {a b c L : Nat} (h : a + c < L) (e : b ≤ c) : a + b < L := Nat.lt_of_le_of_lt (Nat.add_le_add_left e a) h
theorem fit2 {a b b' c L : Nat} (h : a + c < L) (e : b + b' ≤ c) : a + b + b' < L := Nat.add_assoc a b b' ▸ fit1 h e
theorem fit3 {a b b' b'' c L : Nat} (h : a + c < L) (e : b + b' + b'' ≤ c) : a + b + b' + b'' < L := Nat.add_assoc a b b' ▸ fit2 h e
theorem cutI {P G : Prop} (h : P) (k : P → G) : G := k h
theorem z63 {e : Int} (h : e < 1000) : e < 2 ^ 63 := by omega

section
variable {w : World} {p : Program} {loose : List Str} {mean : ExcName → Option Value} {mg mb : Str → Option Value} {news : List (Addr × Obj)} {dp un : Nat} {gd : Option (List Code)} {cn : Str} {cs : Scope} {a : Addr} {ccd : Value} {cl : List (Str × Addr)} {outer : List Env} {A₀ : Around} {base h₀ : Heap} {L : Addr} {m : Str → Option Value} {s : Shared} {Q E : Value → Shared → Prop}

end

inductive IsQK (news : List (Addr × Obj)) (x ea oa : Addr) (ev : Int) : Prop
  | mk (dx : Addr) (t1 t2 t3 te : Tok) (h1 h2 h3 : Int) (z0 : (x, instObj 59 dx) ∈ news) (z1 : (dx, dictOf [⟨h1, .str "endpoints" t1, .ref ea⟩, ⟨h2, .str "event" t2, .int ev te⟩, ⟨h3, .str "opposites" t3, .ref oa⟩] 3) ∈ news) : IsQK news x ea oa ev
def qB (e1 x1 y1 u1 v1 e2 x2 y2 u2 v2 : Int) : Bool :=
  if x1 ≠ x2 then decide (x1 < x2) else if y1 ≠ y2 then decide (y1 < y2) else if decide (e1 % 2 = 0) ≠ decide (e2 % 2 = 0) then !decide (e1 % 2 = 0) else lexB u1 v1 u2 v2
theorem qB_x {e1 x1 y1 u1 v1 e2 x2 y2 u2 v2 : Int} (h : x1 ≠ x2) : decide (x1 < x2) = qB e1 x1 y1 u1 v1 e2 x2 y2 u2 v2 := by
  simp [qB, h]
theorem qB_y {e1 x1 y1 u1 v1 e2 x2 y2 u2 v2 : Int} (h : x1 = x2) (h2 : y1 ≠ y2) : decide (y1 < y2) = qB e1 x1 y1 u1 v1 e2 x2 y2 u2 v2 := by
  simp [qB, h, h2]
theorem even_b (e : Int) : (!(Builtin.bitAnd e 1 != 0)) = decide (e % 2 = 0) := by rw [bitAnd_m1, bne]; cases q : (e % 2 == 0) <;> simp_all
theorem qB_e {e1 x1 y1 u1 v1 e2 x2 y2 u2 v2 : Int} (h : x1 = x2) (h2 : y1 = y2) (h3 : ((!(Builtin.bitAnd e1 1 != 0)) != (!(Builtin.bitAnd e2 1 != 0))) = true) :
    (!(!(Builtin.bitAnd e1 1 != 0))) = qB e1 x1 y1 u1 v1 e2 x2 y2 u2 v2 := by
  rw [even_b, even_b] at h3
  rw [even_b]
  unfold qB
  rw [if_neg (by simp [h]), if_neg (by simp [h2]), if_pos (by simpa using h3)]
theorem qB_o {e1 x1 y1 u1 v1 e2 x2 y2 u2 v2 : Int} (h : x1 = x2) (h2 : y1 = y2) (h3 : ((!(Builtin.bitAnd e1 1 != 0)) != (!(Builtin.bitAnd e2 1 != 0))) = false) :
    lexB u1 v1 u2 v2 = qB e1 x1 y1 u1 v1 e2 x2 y2 u2 v2 := by
  rw [even_b, even_b] at h3
  unfold qB
  rw [if_neg (by simp [h]), if_neg (by simp [h2]), if_neg (by simpa using h3)]
section
variable {w : World} {p : Program} {loose : List Str} {mean : ExcName → Option Value} {mg mb : Str → Option Value} {news : List (Addr × Obj)} {dp un : Nat} {gd : Option (List Code)} {cn : Str} {cs : Scope} {a : Addr} {ccd : Value} {cl : List (Str × Addr)} {outer : List Env} {A₀ : Around} {base h₀ : Heap} {L : Addr} {m : Str → Option Value} {s : Shared} {Q E : Value → Shared → Prop}
end

def oriA (v : Int) : Addr := if v > 0 then 213 else if v < 0 then 207 else 210
abbrev crossI (ax ay bx by' cx cy : Int) : Int := (bx - ax) * (cy - ay) - (by' - ay) * (cx - ax)
theorem oriA_p {v : Int} (h : 0 < v) : Value.ref 213 = .ref (oriA v) := by rw [oriA, if_pos h]
theorem oriA_n {v : Int} (h0 : ¬ 0 < v) (h : v < 0) : Value.ref 207 = .ref (oriA v) := by rw [oriA, if_neg h0, if_pos h]
theorem oriA_z {v : Int} (h0 : ¬ 0 < v) (h : ¬ v < 0) : Value.ref 210 = .ref (oriA v) := by rw [oriA, if_neg h0, if_neg h]
section
variable {w : World} {p : Program} {loose : List Str} {mean : ExcName → Option Value} {mg mb : Str → Option Value} {news : List (Addr × Obj)} {dp un : Nat} {gd : Option (List Code)} {cn : Str} {cs : Scope} {a : Addr} {ccd : Value} {cl : List (Str × Addr)} {outer : List Env} {A₀ : Around} {base h₀ : Heap} {L : Addr} {m : Str → Option Value} {s : Shared} {Q E : Value → Shared → Prop}
theorem oriA_one : oriA 1 = 213 := rfl
theorem oriA_m1 : oriA (-1) = 207 := rfl
theorem oriA_zero : oriA 0 = 210 := rfl
end

inductive IsSK (news : List (Addr × Obj)) (x ea oa : Addr) (ev : Int) : Prop
  | mk (dx : Addr) (t1 t2 t3 t4 te : Tok) (h1 h2 h3 h4 : Int) (q c : Addr) (z0 : (x, instObj 287 dx) ∈ news) (z1 : (dx, dictOf [⟨h1, .str "endpoints" t1, .ref ea⟩, ⟨h2, .str "event" t2, .int ev te⟩, ⟨h3, .str "opposites" t3, .ref oa⟩, ⟨h4, .str "_orienteer" t4, .ref q⟩] 4) ∈ news) (z2 : (q, methodObj (.ref 249) (.ref c)) ∈ news) : IsSK news x ea oa ev
def sC (o1 o2 o3 o4 : Addr) (ax ay bx by' cx cy dx dy : Int) : Bool :=
  if o1 = o2 then (if o1 = 210 then (if ay = cy then (if ax = cx then (if by' = dy then decide (bx < dx) else decide (by' < dy)) else decide (ax < cx)) else decide (ay < cy)) else decide (o1 = 213))
  else if o3 = o4 then decide (o3 = 207) else if o1 = 210 then decide (o2 = 213) else if o3 = 210 then decide (o4 = 207) else if o4 = 210 then decide (o3 = 207) else decide (o1 = 213)
theorem tl3 {x : Int} (h : -100 ≤ x) : -1000 ≤ x := by omega
theorem tr3 {x : Int} (h : x ≤ 100) : x ≤ 1000 := by omega
theorem sl3 {a b c : Int} (h1 : -100 ≤ b - a) (h2 : c - a ≤ 100) : -1000 ≤ b - c := by omega
theorem sr3 {a b c : Int} (h1 : b - a ≤ 100) (h2 : -100 ≤ c - a) : b - c ≤ 1000 := by omega
theorem nl3 {a c : Int} (h : c - a ≤ 100) : -1000 ≤ a - c := by omega
theorem nr3 {a c : Int} (h : -100 ≤ c - a) : a - c ≤ 1000 := by omega
section
variable {o1 o2 o3 o4 : Addr} {ax ay bx by' cx cy dx dy : Int}
theorem sC_1 (h1 : o1 = o2) (h2 : o1 = 210) (h3 : ay = cy) (h4 : ax ≠ cx) : decide (ax < cx) = sC o1 o2 o3 o4 ax ay bx by' cx cy dx dy := by rw [sC, if_pos h1, if_pos h2, if_pos h3, if_neg h4]
theorem sC_2 (h1 : o1 = o2) (h2 : o1 = 210) (h3 : ay = cy) (h4 : ax = cx) (h5 : by' ≠ dy) : decide (by' < dy) = sC o1 o2 o3 o4 ax ay bx by' cx cy dx dy := by rw [sC, if_pos h1, if_pos h2, if_pos h3, if_pos h4, if_neg h5]
theorem sC_3 (h1 : o1 = o2) (h2 : o1 = 210) (h3 : ay = cy) (h4 : ax = cx) (h5 : by' = dy) : decide (bx < dx) = sC o1 o2 o3 o4 ax ay bx by' cx cy dx dy := by rw [sC, if_pos h1, if_pos h2, if_pos h3, if_pos h4, if_pos h5]
theorem sC_4 (h1 : o1 = o2) (h2 : o1 = 210) (h3 : ay ≠ cy) : decide (ay < cy) = sC o1 o2 o3 o4 ax ay bx by' cx cy dx dy := by rw [sC, if_pos h1, if_pos h2, if_neg h3]
theorem sC_5 (h1 : o1 = o2) (h2 : ¬ o1 = 210) : decide (o1 = 213) = sC o1 o2 o3 o4 ax ay bx by' cx cy dx dy := by rw [sC, if_pos h1, if_neg h2]
theorem sC_6 (h1 : ¬ o1 = o2) (h2 : o3 = o4) : decide (o3 = 207) = sC o1 o2 o3 o4 ax ay bx by' cx cy dx dy := by rw [sC, if_neg h1, if_pos h2]
theorem sC_7 (h1 : ¬ o1 = o2) (h2 : ¬ o3 = o4) (h3 : o1 = 210) : decide (o2 = 213) = sC o1 o2 o3 o4 ax ay bx by' cx cy dx dy := by rw [sC, if_neg h1, if_neg h2, if_pos h3]
theorem sC_8 (h1 : ¬ o1 = o2) (h2 : ¬ o3 = o4) (h3 : ¬ o1 = 210) (h4 : o3 = 210) : decide (o4 = 207) = sC o1 o2 o3 o4 ax ay bx by' cx cy dx dy := by rw [sC, if_neg h1, if_neg h2, if_neg h3, if_pos h4]
theorem sC_9 (h1 : ¬ o1 = o2) (h2 : ¬ o3 = o4) (h3 : ¬ o1 = 210) (h4 : ¬ o3 = 210) (h5 : o4 = 210) : decide (o3 = 207) = sC o1 o2 o3 o4 ax ay bx by' cx cy dx dy := by rw [sC, if_neg h1, if_neg h2, if_neg h3, if_neg h4, if_pos h5]
theorem sC_10 (h1 : ¬ o1 = o2) (h2 : ¬ o3 = o4) (h3 : ¬ o1 = 210) (h4 : ¬ o3 = 210) (h5 : ¬ o4 = 210) : decide (o1 = 213) = sC o1 o2 o3 o4 ax ay bx by' cx cy dx dy := by rw [sC, if_neg h1, if_neg h2, if_neg h3, if_neg h4, if_neg h5]
end
abbrev sB (ax ay bx by' cx cy dx dy : Int) : Bool := sC (oriA (crossI ax ay bx by' cx cy)) (oriA (crossI ax ay bx by' dx dy)) (oriA (crossI cx cy dx dy ax ay)) (oriA (crossI cx cy dx dy bx by')) ax ay bx by' cx cy dx dy
section
variable {w : World} {p : Program} {loose : List Str} {mean : ExcName → Option Value} {mg mb : Str → Option Value} {news : List (Addr × Obj)} {dp un : Nat} {gd : Option (List Code)} {cn : Str} {cs : Scope} {a : Addr} {ccd : Value} {cl : List (Str × Addr)} {outer : List Env} {A₀ : Around} {base h₀ : Heap} {L : Addr} {m : Str → Option Value} {s : Shared} {Q E : Value → Shared → Prop}
end

abbrev tpObj (x y : Int) (tx ty : Tok) : Obj := { cls := .type "tuple", data := .seq #[.int x tx, .int y ty] }
structure IsTp (news : List (Addr × Obj)) (a : Addr) (x y : Int) : Prop where
  ex : ∃ tx ty, (a, tpObj x y tx ty) ∈ news
  bx : -100 ≤ x ∧ x ≤ 100
  by_ : -100 ≤ y ∧ y ≤ 100
structure IsSeg (news : List (Addr × Obj)) (l lo hi : Addr) : Prop where
  ex : ∃ n, (l, listOf #[.ref lo, .ref hi] n) ∈ news
theorem IsTp.cons {news : List (Addr × Obj)} {q : Addr × Obj} {a : Addr} {x y : Int} (h : IsTp news a x y) : IsTp (q :: news) a x y := let ⟨tx, ty, m⟩ := h.ex; ⟨⟨tx, ty, .tail _ m⟩, h.bx, h.by_⟩
theorem IsSeg.cons {news : List (Addr × Obj)} {q : Addr × Obj} {l lo hi : Addr} (h : IsSeg news l lo hi) : IsSeg (q :: news) l lo hi := let ⟨n, m⟩ := h.ex; ⟨⟨n, .tail _ m⟩⟩
def sgI (v : Int) : Int := if v > 0 then 1 else if v < 0 then -1 else 0
theorem sgI_p {v : Int} (h : 0 < v) : (1 : Int) = sgI v := by rw [sgI, if_pos h]
theorem sgI_n {v : Int} (h0 : ¬ 0 < v) (h : v < 0) : (-1 : Int) = sgI v := by rw [sgI, if_neg h0, if_pos h]
theorem sgI_z {v : Int} (h0 : ¬ 0 < v) (h : ¬ v < 0) : (0 : Int) = sgI v := by rw [sgI, if_neg h0, if_neg h]
theorem retI {h₀ h' : Heap} {L : Addr} {m : Str → Option Value} {news : List (Addr × Obj)} {s : Shared} {Q : Value → Shared → Prop} {tk' : Nat} {t : Tok} {x y : Int} (hret : ∀ (t : Tok) (h' : Heap) (tk' : Nat), Fr h₀ L h' m → News h₀ L h' news → Q (.int x t) { s with heap := h', toks := tk' }) (e : y = x) (F : Fr h₀ L h' m) (N : News h₀ L h' news) : Q (.int y t) { s with heap := h', toks := tk' } := by
  subst e
  exact hret t h' tk' F N
section
variable {w : World} {p : Program} {loose : List Str} {mean : ExcName → Option Value} {mg mb : Str → Option Value} {news : List (Addr × Obj)} {dp un : Nat} {gd : Option (List Code)} {cn : Str} {cs : Scope} {a : Addr} {ccd : Value} {cl : List (Str × Addr)} {outer : List Env} {A₀ : Around} {base h₀ : Heap} {L : Addr} {m : Str → Option Value} {s : Shared} {Q E : Value → Shared → Prop}
end

section
variable {prog : Program} {w : World} {A : Around} {E : Value → Shared → Prop} {s : Shared}
/-- one more turn of max over a tuple of two: the second item against the first -/
theorem max2_rest {R : Result → Shared → Prop} {I S T : Addr} {a b : Value} {bt : Bool} {c : Nat} {K0 : Heap} (hh : A.handled = none) (hTI : T ≠ I) (hSI : S ≠ I) (hST : S ≠ T)
    (hKI : ∀ o, K0.get? I ≠ some o) (hKS : ∀ o, K0.get? S ≠ some o)
    (hst : s.heap.IsTupleIter I T 1 ∧ s.heap.IsTuple T #[a, b]) (hS : s.heap.get? S = some { cls := .type "list", dict := none, data := .seq #[a, a] c, slots := #[] }) (hk : K0.StaysIn s.heap)
    (hC : ∀ (h' : Heap) (tk : Nat) (Q' E' : Value → Shared → Prop), K0.StaysIn h' → Q' (.bool bt) { s with heap := h', toks := tk } → wpAny (model prog w) A.in1 (richCompare .Gt b a) Q' E' { s with heap := h', toks := tk })
    (hR : ∀ h' tk, K0.StaysIn h' → R (.ok (.ret (if bt = true then b else a))) { s with heap := h', toks := tk }) :
    codeAny (model prog w) A (.builtin "max.loop" ⟨[.ref I, .none, .ref S], []⟩) R s := by
  have hname : (toString "max" ++ toString ".loop" : String) = "max.loop" := by decide
  have W := Walks.tuple (prog := prog) (w := w) (A := A.in1) hh I T hTI #[a, b]
  have last : ∀ (s' : Shared) (x y : Value) (c' : Nat), (s'.heap.IsTupleIter I T 2 ∧ s'.heap.IsTuple T #[a, b]) → s'.heap.get? S = some { cls := .type "list", dict := none, data := .seq #[x, y] c', slots := #[] } → K0.StaysIn s'.heap →
      (∀ h' tk, K0.StaysIn h' → R (.ok (.ret x)) { s' with heap := h', toks := tk }) → codeAny (model prog w) A (.builtin "max.loop" ⟨[.ref I, .none, .ref S], []⟩) R s' := by
    intro s' x y c' st hS' k' hR'
    refine codeAny_builtin F.entry_max_loop ?_
    rw [Around.under_plainId F.plain_max_loop _]
    show wpAny _ A.in1 (seqItems? (.ref S) >>= _) _ _ s'
    refine wpAny_bind (wpAny_seqItems hS' rfl ?_)
    show wpAny _ A.in1 (tryCatch (pyNext (.ref I)) _ >>= _) _ _ s'
    refine wpAny_bind (wpAny_tryCatch (W.done s' _ _ st fun h' tk hk' => ?_))
    have hS2 := hk' S _ (by simp [hSI]) hS'
    show wpAny _ A.in1 (updateSeq S (fun _ => #[]) >>= _) _ _ _
    refine wpAny_bind (wpAny_updateSeq hS2 rfl (wpAny_bind (wpAny_letGo (wpAny_pure ?_))))
    refine hR' _ tk fun d o e => ?_
    have n1 : d ≠ S := fun z => hKS o (z ▸ e)
    have n2 : d ≠ I := fun z => hKI o (z ▸ e)
    exact (Heap.get?_update_other _ _ (Ne.symm n1)).trans (hk' d o (by simp [n2]) (k' d o e))
  refine codeAny_builtin F.entry_max_loop ?_
  rw [Around.under_plainId F.plain_max_loop _]
  show wpAny _ A.in1 (seqItems? (.ref S) >>= _) _ _ s
  refine wpAny_bind (wpAny_seqItems hS rfl ?_)
  show wpAny _ A.in1 (tryCatch (pyNext (.ref I)) _ >>= _) _ _ s
  refine wpAny_bind (wpAny_tryCatch (W.item 1 s _ _ (by simp) hst fun v h' tk hP hst' hk' => ?_))
  obtain rfl : b = v := by simpa using hP
  have hS' := hk' S _ (by simp [hSI]) hS
  have k1 : K0.StaysIn h' := fun d o e => hk' d o (by simp [show d ≠ I from fun z => hKI o (z ▸ e)]) (hk d o e)
  show wpAny _ A.in1 (tryCatch (holding [b, b] (richCompare .Gt b a >>= _)) _ >>= _) _ _ _
  refine wpAny_bind (wpAny_tryCatch (wpAny_holding (wpAny_bind (hC _ _ _ _ k1 ?_))))
  refine wpAny_bind (wpAny_holding (wpAny_truthy_bool ?_))
  refine wpAny_bind (wpAny_letGo (wpAny_pure ?_))
  cases bt with
  | true =>
    simp only [if_true]
    refine wpAny_bind (wpAny_updateSeq hS' rfl (wpAny_bind (wpAny_letGo ?_)))
    rw [hname]
    refine wpAny_pure ⟨plainId_quiet F.plain_max_loop _, last _ b b _ (W.frame _ _ _ hst' fun d hd o e => ?_) (Heap.get?_update_self _ hS' rfl) (fun d o e => ?_) (fun h2 tk2 k2 => by simpa using hR h2 tk2 k2)⟩
    · refine (Heap.get?_update_other _ _ ?_).trans e
      rcases List.mem_cons.mp hd with rfl | hd
      · exact hSI
      · rcases List.mem_cons.mp hd with rfl | hd
        · exact hST
        · cases hd
    · exact (Heap.get?_update_other _ _ (Ne.symm (fun z : d = S => hKS o (z ▸ e)))).trans (k1 d o e)
  | false =>
    simp only [Bool.false_eq_true, if_false]
    refine wpAny_bind (wpAny_letGo ?_)
    rw [hname]
    refine wpAny_pure ⟨plainId_quiet F.plain_max_loop _, last _ a a _ hst' hS' k1 (fun h2 tk2 k2 => by simpa using hR h2 tk2 k2)⟩
theorem max2_first {R : Result → Shared → Prop} {I S T : Addr} {a b : Value} {bt : Bool} {c : Nat} {K0 : Heap} (hh : A.handled = none) (hTI : T ≠ I) (hSI : S ≠ I) (hST : S ≠ T)
    (hKI : ∀ o, K0.get? I ≠ some o) (hKS : ∀ o, K0.get? S ≠ some o)
    (hst : s.heap.IsTupleIter I T 0 ∧ s.heap.IsTuple T #[a, b]) (hS : s.heap.get? S = some { cls := .type "list", dict := none, data := .seq #[] c, slots := #[] }) (hk : K0.StaysIn s.heap)
    (hC : ∀ (h' : Heap) (tk : Nat) (Q' E' : Value → Shared → Prop), K0.StaysIn h' → Q' (.bool bt) { s with heap := h', toks := tk } → wpAny (model prog w) A.in1 (richCompare .Gt b a) Q' E' { s with heap := h', toks := tk })
    (hR : ∀ h' tk, K0.StaysIn h' → R (.ok (.ret (if bt = true then b else a))) { s with heap := h', toks := tk }) :
    codeAny (model prog w) A (.builtin "max.loop" ⟨[.ref I, .none, .ref S], []⟩) R s := by
  have hname : (toString "max" ++ toString ".loop" : String) = "max.loop" := by decide
  have W := Walks.tuple (prog := prog) (w := w) (A := A.in1) hh I T hTI #[a, b]
  refine codeAny_builtin F.entry_max_loop ?_
  rw [Around.under_plainId F.plain_max_loop _]
  show wpAny _ A.in1 (seqItems? (.ref S) >>= _) _ _ s
  refine wpAny_bind (wpAny_seqItems hS rfl ?_)
  show wpAny _ A.in1 (tryCatch (pyNext (.ref I)) _ >>= _) _ _ s
  refine wpAny_bind (wpAny_tryCatch (W.item 0 s _ _ (by simp) hst fun v h' tk hP hst' hk' => ?_))
  obtain rfl : a = v := by simpa using hP
  have hS' := hk' S _ (by simp [hSI]) hS
  have k1 : K0.StaysIn h' := fun d o e => hk' d o (by simp [show d ≠ I from fun z => hKI o (z ▸ e)]) (hk d o e)
  show wpAny _ A.in1 (updateSeq S (fun _ => #[a, a]) >>= _) _ _ _
  refine wpAny_bind (wpAny_updateSeq hS' rfl ?_)
  rw [hname]
  refine wpAny_pure ⟨plainId_quiet F.plain_max_loop _, max2_rest hh hTI hSI hST hKI hKS (W.frame _ _ _ hst' fun d hd o e => ?_) (Heap.get?_update_self _ hS' rfl) (fun d o e => ?_) hC hR⟩
  · refine (Heap.get?_update_other _ _ ?_).trans e
    rcases List.mem_cons.mp hd with rfl | hd
    · exact hSI
    · rcases List.mem_cons.mp hd with rfl | hd
      · exact hST
      · cases hd
  · exact (Heap.get?_update_other _ _ (Ne.symm (fun z : d = S => hKS o (z ▸ e)))).trans (k1 d o e)
theorem max2 {a b : Value} {bt : Bool} {Q : Value → Shared → Prop} (hh : A.handled = none)
    (hC : ∀ (h' : Heap) (tk : Nat) (Q' E' : Value → Shared → Prop), s.heap.StaysIn h' → Q' (.bool bt) { s with heap := h', toks := tk } → wpAny (model prog w) A.in1 (richCompare .Gt b a) Q' E' { s with heap := h', toks := tk })
    (h : ∀ h' tk, s.heap.StaysIn h' → Q (if bt = true then b else a) { s with heap := h', toks := tk }) :
    wpAny (model prog w) A (call (.builtin "max") [a, b]) Q E s := by
  have hname : (toString "max" ++ toString ".loop" : String) = "max.loop" := by decide
  refine call_function_tree F.kind_max F.plain_max F.entry_max (F.args_max2 _ _) ?_
  show wpAny _ A.in1 (Builtin.Builtins.bindParams "max" ["key", "default"] 0 ⟨[], []⟩ >>= _) _ _ s
  refine wpAny_bind (wpAny_of_eq (show Builtin.Builtins.bindParams "max" ["key", "default"] 0 ⟨[], []⟩ = pure [none, none] from rfl) ?_)
  show wpAny _ A.in1 (newTuple [a, b] >>= _) _ _ s
  refine wpAny_bind (wpAny_newObj_type ?_)
  have hT : (s.heap.push { cls := .type "tuple", data := .seq #[a, b] }).IsTuple s.heap.objs.size #[a, b] := ⟨_, Heap.get?_push_size _ rfl, rfl, 0, rfl⟩
  have hsz : (s.heap.push { cls := .type "tuple", data := .seq #[a, b] }).objs.size = s.heap.objs.size + 1 := Heap.size_push ..
  refine wpAny_bind (wpAny_pyIter_tuple hT ?_)
  refine wpAny_bind (wpAny_newObj_type ?_)
  rw [hname]
  dsimp only
  have hsz2 : ((s.heap.push { cls := .type "tuple", data := .seq #[a, b] }).push { cls := .type "tuple_iterator", data := .fields #[.ref s.heap.objs.size, .int 0 0] }).objs.size = s.heap.objs.size + 1 + 1 := by rw [Heap.size_push, hsz]
  refine wpAny_pure ⟨plainId_quiet F.plain_max_loop _, ?_⟩
  refine max2_first (K0 := s.heap) (T := s.heap.objs.size) hh ?_ ?_ ?_ (fun o e => ?_) (fun o e => ?_) ⟨⟨_, Heap.get?_push_of_some _ (Heap.get?_push_size _ rfl), rfl, rfl⟩, (hT.push _).push _⟩ (Heap.get?_push_size _ rfl) (fun d o e => Heap.get?_push_of_some _ (Heap.get?_push_of_some _ (Heap.get?_push_of_some _ e))) hC h
  · rw [hsz]; exact Nat.ne_of_lt (Nat.lt_succ_self _)
  · rw [hsz2, hsz]; exact Nat.ne_of_gt (Nat.lt_succ_self _)
  · rw [hsz2]; exact Nat.ne_of_gt (Nat.lt_succ_of_lt (Nat.lt_succ_self _))
  · have := Heap.lt_size e; rw [hsz] at this; exact Nat.lt_irrefl _ (Nat.lt_of_succ_lt this)
  · have := Heap.lt_size e; rw [hsz2] at this; exact Nat.lt_irrefl _ (Nat.lt_of_succ_lt (Nat.lt_of_succ_lt this))
/-- one more turn of min over a tuple of two: the second item against the first -/
theorem min2_rest {R : Result → Shared → Prop} {I S T : Addr} {a b : Value} {bt : Bool} {c : Nat} {K0 : Heap} (hh : A.handled = none) (hTI : T ≠ I) (hSI : S ≠ I) (hST : S ≠ T)
    (hKI : ∀ o, K0.get? I ≠ some o) (hKS : ∀ o, K0.get? S ≠ some o)
    (hst : s.heap.IsTupleIter I T 1 ∧ s.heap.IsTuple T #[a, b]) (hS : s.heap.get? S = some { cls := .type "list", dict := none, data := .seq #[a, a] c, slots := #[] }) (hk : K0.StaysIn s.heap)
    (hC : ∀ (h' : Heap) (tk : Nat) (Q' E' : Value → Shared → Prop), K0.StaysIn h' → Q' (.bool bt) { s with heap := h', toks := tk } → wpAny (model prog w) A.in1 (richCompare .Lt b a) Q' E' { s with heap := h', toks := tk })
    (hR : ∀ h' tk, K0.StaysIn h' → R (.ok (.ret (if bt = true then b else a))) { s with heap := h', toks := tk }) :
    codeAny (model prog w) A (.builtin "min.loop" ⟨[.ref I, .none, .ref S], []⟩) R s := by
  have hname : (toString "min" ++ toString ".loop" : String) = "min.loop" := by decide
  have W := Walks.tuple (prog := prog) (w := w) (A := A.in1) hh I T hTI #[a, b]
  have last : ∀ (s' : Shared) (x y : Value) (c' : Nat), (s'.heap.IsTupleIter I T 2 ∧ s'.heap.IsTuple T #[a, b]) → s'.heap.get? S = some { cls := .type "list", dict := none, data := .seq #[x, y] c', slots := #[] } → K0.StaysIn s'.heap →
      (∀ h' tk, K0.StaysIn h' → R (.ok (.ret x)) { s' with heap := h', toks := tk }) → codeAny (model prog w) A (.builtin "min.loop" ⟨[.ref I, .none, .ref S], []⟩) R s' := by
    intro s' x y c' st hS' k' hR'
    refine codeAny_builtin F.entry_min_loop ?_
    rw [Around.under_plainId F.plain_min_loop _]
    show wpAny _ A.in1 (seqItems? (.ref S) >>= _) _ _ s'
    refine wpAny_bind (wpAny_seqItems hS' rfl ?_)
    show wpAny _ A.in1 (tryCatch (pyNext (.ref I)) _ >>= _) _ _ s'
    refine wpAny_bind (wpAny_tryCatch (W.done s' _ _ st fun h' tk hk' => ?_))
    have hS2 := hk' S _ (by simp [hSI]) hS'
    show wpAny _ A.in1 (updateSeq S (fun _ => #[]) >>= _) _ _ _
    refine wpAny_bind (wpAny_updateSeq hS2 rfl (wpAny_bind (wpAny_letGo (wpAny_pure ?_))))
    refine hR' _ tk fun d o e => ?_
    have n1 : d ≠ S := fun z => hKS o (z ▸ e)
    have n2 : d ≠ I := fun z => hKI o (z ▸ e)
    exact (Heap.get?_update_other _ _ (Ne.symm n1)).trans (hk' d o (by simp [n2]) (k' d o e))
  refine codeAny_builtin F.entry_min_loop ?_
  rw [Around.under_plainId F.plain_min_loop _]
  show wpAny _ A.in1 (seqItems? (.ref S) >>= _) _ _ s
  refine wpAny_bind (wpAny_seqItems hS rfl ?_)
  show wpAny _ A.in1 (tryCatch (pyNext (.ref I)) _ >>= _) _ _ s
  refine wpAny_bind (wpAny_tryCatch (W.item 1 s _ _ (by simp) hst fun v h' tk hP hst' hk' => ?_))
  obtain rfl : b = v := by simpa using hP
  have hS' := hk' S _ (by simp [hSI]) hS
  have k1 : K0.StaysIn h' := fun d o e => hk' d o (by simp [show d ≠ I from fun z => hKI o (z ▸ e)]) (hk d o e)
  show wpAny _ A.in1 (tryCatch (holding [b, b] (richCompare .Lt b a >>= _)) _ >>= _) _ _ _
  refine wpAny_bind (wpAny_tryCatch (wpAny_holding (wpAny_bind (hC _ _ _ _ k1 ?_))))
  refine wpAny_bind (wpAny_holding (wpAny_truthy_bool ?_))
  refine wpAny_bind (wpAny_letGo (wpAny_pure ?_))
  cases bt with
  | true =>
    simp only [if_true]
    refine wpAny_bind (wpAny_updateSeq hS' rfl (wpAny_bind (wpAny_letGo ?_)))
    rw [hname]
    refine wpAny_pure ⟨plainId_quiet F.plain_min_loop _, last _ b b _ (W.frame _ _ _ hst' fun d hd o e => ?_) (Heap.get?_update_self _ hS' rfl) (fun d o e => ?_) (fun h2 tk2 k2 => by simpa using hR h2 tk2 k2)⟩
    · refine (Heap.get?_update_other _ _ ?_).trans e
      rcases List.mem_cons.mp hd with rfl | hd
      · exact hSI
      · rcases List.mem_cons.mp hd with rfl | hd
        · exact hST
        · cases hd
    · exact (Heap.get?_update_other _ _ (Ne.symm (fun z : d = S => hKS o (z ▸ e)))).trans (k1 d o e)
  | false =>
    simp only [Bool.false_eq_true, if_false]
    refine wpAny_bind (wpAny_letGo ?_)
    rw [hname]
    refine wpAny_pure ⟨plainId_quiet F.plain_min_loop _, last _ a a _ hst' hS' k1 (fun h2 tk2 k2 => by simpa using hR h2 tk2 k2)⟩
theorem min2_first {R : Result → Shared → Prop} {I S T : Addr} {a b : Value} {bt : Bool} {c : Nat} {K0 : Heap} (hh : A.handled = none) (hTI : T ≠ I) (hSI : S ≠ I) (hST : S ≠ T)
    (hKI : ∀ o, K0.get? I ≠ some o) (hKS : ∀ o, K0.get? S ≠ some o)
    (hst : s.heap.IsTupleIter I T 0 ∧ s.heap.IsTuple T #[a, b]) (hS : s.heap.get? S = some { cls := .type "list", dict := none, data := .seq #[] c, slots := #[] }) (hk : K0.StaysIn s.heap)
    (hC : ∀ (h' : Heap) (tk : Nat) (Q' E' : Value → Shared → Prop), K0.StaysIn h' → Q' (.bool bt) { s with heap := h', toks := tk } → wpAny (model prog w) A.in1 (richCompare .Lt b a) Q' E' { s with heap := h', toks := tk })
    (hR : ∀ h' tk, K0.StaysIn h' → R (.ok (.ret (if bt = true then b else a))) { s with heap := h', toks := tk }) :
    codeAny (model prog w) A (.builtin "min.loop" ⟨[.ref I, .none, .ref S], []⟩) R s := by
  have hname : (toString "min" ++ toString ".loop" : String) = "min.loop" := by decide
  have W := Walks.tuple (prog := prog) (w := w) (A := A.in1) hh I T hTI #[a, b]
  refine codeAny_builtin F.entry_min_loop ?_
  rw [Around.under_plainId F.plain_min_loop _]
  show wpAny _ A.in1 (seqItems? (.ref S) >>= _) _ _ s
  refine wpAny_bind (wpAny_seqItems hS rfl ?_)
  show wpAny _ A.in1 (tryCatch (pyNext (.ref I)) _ >>= _) _ _ s
  refine wpAny_bind (wpAny_tryCatch (W.item 0 s _ _ (by simp) hst fun v h' tk hP hst' hk' => ?_))
  obtain rfl : a = v := by simpa using hP
  have hS' := hk' S _ (by simp [hSI]) hS
  have k1 : K0.StaysIn h' := fun d o e => hk' d o (by simp [show d ≠ I from fun z => hKI o (z ▸ e)]) (hk d o e)
  show wpAny _ A.in1 (updateSeq S (fun _ => #[a, a]) >>= _) _ _ _
  refine wpAny_bind (wpAny_updateSeq hS' rfl ?_)
  rw [hname]
  refine wpAny_pure ⟨plainId_quiet F.plain_min_loop _, min2_rest hh hTI hSI hST hKI hKS (W.frame _ _ _ hst' fun d hd o e => ?_) (Heap.get?_update_self _ hS' rfl) (fun d o e => ?_) hC hR⟩
  · refine (Heap.get?_update_other _ _ ?_).trans e
    rcases List.mem_cons.mp hd with rfl | hd
    · exact hSI
    · rcases List.mem_cons.mp hd with rfl | hd
      · exact hST
      · cases hd
  · exact (Heap.get?_update_other _ _ (Ne.symm (fun z : d = S => hKS o (z ▸ e)))).trans (k1 d o e)
theorem min2 {a b : Value} {bt : Bool} {Q : Value → Shared → Prop} (hh : A.handled = none)
    (hC : ∀ (h' : Heap) (tk : Nat) (Q' E' : Value → Shared → Prop), s.heap.StaysIn h' → Q' (.bool bt) { s with heap := h', toks := tk } → wpAny (model prog w) A.in1 (richCompare .Lt b a) Q' E' { s with heap := h', toks := tk })
    (h : ∀ h' tk, s.heap.StaysIn h' → Q (if bt = true then b else a) { s with heap := h', toks := tk }) :
    wpAny (model prog w) A (call (.builtin "min") [a, b]) Q E s := by
  have hname : (toString "min" ++ toString ".loop" : String) = "min.loop" := by decide
  refine call_function_tree F.kind_min F.plain_min F.entry_min (F.args_min2 _ _) ?_
  show wpAny _ A.in1 (Builtin.Builtins.bindParams "min" ["key", "default"] 0 ⟨[], []⟩ >>= _) _ _ s
  refine wpAny_bind (wpAny_of_eq (show Builtin.Builtins.bindParams "min" ["key", "default"] 0 ⟨[], []⟩ = pure [none, none] from rfl) ?_)
  show wpAny _ A.in1 (newTuple [a, b] >>= _) _ _ s
  refine wpAny_bind (wpAny_newObj_type ?_)
  have hT : (s.heap.push { cls := .type "tuple", data := .seq #[a, b] }).IsTuple s.heap.objs.size #[a, b] := ⟨_, Heap.get?_push_size _ rfl, rfl, 0, rfl⟩
  have hsz : (s.heap.push { cls := .type "tuple", data := .seq #[a, b] }).objs.size = s.heap.objs.size + 1 := Heap.size_push ..
  refine wpAny_bind (wpAny_pyIter_tuple hT ?_)
  refine wpAny_bind (wpAny_newObj_type ?_)
  rw [hname]
  dsimp only
  have hsz2 : ((s.heap.push { cls := .type "tuple", data := .seq #[a, b] }).push { cls := .type "tuple_iterator", data := .fields #[.ref s.heap.objs.size, .int 0 0] }).objs.size = s.heap.objs.size + 1 + 1 := by rw [Heap.size_push, hsz]
  refine wpAny_pure ⟨plainId_quiet F.plain_min_loop _, ?_⟩
  refine min2_first (K0 := s.heap) (T := s.heap.objs.size) hh ?_ ?_ ?_ (fun o e => ?_) (fun o e => ?_) ⟨⟨_, Heap.get?_push_of_some _ (Heap.get?_push_size _ rfl), rfl, rfl⟩, (hT.push _).push _⟩ (Heap.get?_push_size _ rfl) (fun d o e => Heap.get?_push_of_some _ (Heap.get?_push_of_some _ (Heap.get?_push_of_some _ e))) hC h
  · rw [hsz]; exact Nat.ne_of_lt (Nat.lt_succ_self _)
  · rw [hsz2, hsz]; exact Nat.ne_of_gt (Nat.lt_succ_self _)
  · rw [hsz2]; exact Nat.ne_of_gt (Nat.lt_succ_of_lt (Nat.lt_succ_self _))
  · have := Heap.lt_size e; rw [hsz] at this; exact Nat.lt_irrefl _ (Nat.lt_of_succ_lt this)
  · have := Heap.lt_size e; rw [hsz2] at this; exact Nat.lt_irrefl _ (Nat.lt_of_succ_lt (Nat.lt_of_succ_lt this))
/-- what a tuple's > asks, pair by pair -/
def GtLex (prog : Program) (w : World) (A : Around) (Q : Value → Shared → Prop) (E : Value → Shared → Prop) (m n : Nat) : List (Value × Value) → Shared → Prop
  | [], s => Q (.bool (decide (m > n))) s
  | (p, q) :: r, s => wpAny (model prog w) A (eqBool p q) (fun e s' => if e = true then GtLex prog w A Q E m n r s' else wpAny (model prog w) A (richCompare .Gt p q) Q E s') E s
theorem tup_gt_tree {a b : Addr} {oa ob : Obj} {xs ys : Array Value} {na nb : Nat} {P : Fin → Shared → Prop} (ha : s.heap.get? a = some oa) (da : oa.data = .seq xs na) (hb : s.heap.get? b = some ob) (db : ob.data = .seq ys nb)
    (hI : Looks (model prog w) s.heap (isInstance (.ref b) (.type "tuple")) true)
    (h : GtLex prog w A (fun v s' => P (.done (.ret v)) s') E xs.size ys.size (xs.toList.zip ys.toList) s) :
    wpAny (model prog w) A (Builtin.«tuple.__gt__» ⟨[.ref a, .ref b], []⟩) P E s := by
  show wpAny _ _ (isInstance (.ref b) (.type "tuple") >>= _) _ _ s
  refine wpAny_bind (hI.here ?_)
  simp only [Bool.not_true, Bool.false_eq_true, if_false]
  refine wpAny_bind (wpAny_tupleItemsOf ha da ?_)
  refine wpAny_bind (wpAny_tupleItemsOf hb db ?_)
  refine wpAny_bind ?_
  refine wpAny_forIn_list _ (fun rest r s' => r.1 = none ∧ GtLex prog w A (fun v s' => P (.done (.ret v)) s') E xs.size ys.size rest s') _ ?_ ?_ _ _ ⟨rfl, h⟩
  · rintro ⟨p, q⟩ rest r s' ⟨hr, hl⟩
    have hl : wpAny (model prog w) A (eqBool p q) (fun e s' => if e = true then GtLex prog w A (fun v s' => P (.done (.ret v)) s') E xs.size ys.size rest s' else wpAny (model prog w) A (richCompare .Gt p q) (fun v s' => P (.done (.ret v)) s') E s') E s' := hl
    refine wpAny_bind (wpAny_mono hl (fun e s'' he => ?_) fun _ _ z => z)
    cases e with
    | true =>
      simp only [if_true] at he
      simp only [Bool.not_true, Bool.false_eq_true, if_false]
      exact wpAny_pure ⟨rfl, he⟩
    | false =>
      simp only [Bool.false_eq_true, if_false] at he
      simp only [Bool.not_false, if_true]
      refine wpAny_bind (wpAny_rule (wpAny_bind (wpAny_mono he (fun v s3 hv => ?_) fun _ _ z => z)))
      exact wpAny_bind (wpAny_pure (wpAny_pure (wpAny_pure hv)))
  · rintro ⟨r1, r2⟩ s' ⟨hr, hl⟩
    simp only at hr
    subst hr
    exact wpAny_pure hl

theorem gt_ints2 {Q : Value → Shared → Prop} {x1 y1 x2 y2 : Int} {t1 u1 t2 u2 : Tok} (h : Q (.bool (lexB x2 y2 x1 y1)) s) :
    GtLex prog w A Q E 2 2 [(.int x1 t1, .int x2 t2), (.int y1 u1, .int y2 u2)] s := by
  refine wpAny_eqBool_int (w := w) ?_
  by_cases hx : x1 = x2
  · rw [if_pos (by simp [hx])]
    refine wpAny_eqBool_int (w := w) ?_
    by_cases hy : y1 = y2
    · rw [if_pos (by simp [hy])]
      have e : lexB x2 y2 x1 y1 = decide (2 > 2) := by simp [lexB, hx, hy]
      rw [e] at h; exact h
    · rw [if_neg (by simp [hy])]
      have e : lexB x2 y2 x1 y1 = decide (y1 > y2) := by simp [lexB, hx]
      rw [e] at h; exact gt_int h
  · rw [if_neg (by simp [hx])]
    have e : lexB x2 y2 x1 y1 = decide (x1 > x2) := by simp [lexB, Ne.symm hx]
    rw [e] at h; exact gt_int h
theorem GtLex.mono {Q Q' : Value → Shared → Prop} {m n : Nat} (hQ : ∀ b s, Q (.bool b) s → Q' (.bool b) s) (hQ2 : ∀ v s, Q v s → Q' v s) : ∀ {l : List (Value × Value)} {s : Shared}, GtLex prog w A Q E m n l s → GtLex prog w A Q' E m n l s
  | [], _, h => hQ _ _ h
  | (p, q) :: r, s, h => wpAny_mono (show wpAny (model prog w) A (eqBool p q) (fun e s' => if e = true then GtLex prog w A Q E m n r s' else wpAny (model prog w) A (richCompare .Gt p q) Q E s') E s from h) (fun e s' he => by
      cases e with
      | true => simp only [if_true] at he ⊢; exact GtLex.mono hQ hQ2 he
      | false => simp only [Bool.false_eq_true, if_false] at he ⊢; exact wpAny_mono he hQ2 fun _ _ z => z) fun _ _ z => z
theorem rich_gt_tup {a b : Addr} {oa ob : Obj} {xs ys : Array Value} {na nb : Nat} {Q : Value → Shared → Prop} (hu : A.units < cLine)
    (ha : s.heap.get? a = some oa) (ca : oa.cls = .type "tuple") (da : oa.data = .seq xs na) (hb : s.heap.get? b = some ob) (cb : ob.cls = .type "tuple") (db : ob.data = .seq ys nb)
    (h : GtLex prog w A.in1 (fun v s' => v ≠ .notImplemented ∧ Q v s') E xs.size ys.size (xs.toList.zip ys.toList) s) :
    wpAny (model prog w) A (richCompare .Gt (.ref a) (.ref b)) Q E s := by
  have hTa : s.TypeIs (.ref a) "tuple" := ⟨oa, ha, ca⟩
  have hTb : s.TypeIs (.ref b) "tuple" := ⟨ob, hb, cb⟩
  have hL : Looks (model prog w) s.heap (typeOf (.ref b)) (.type "tuple") := cb ▸ (Looks.ld hb).andThen .now
  refine wpAny_richCompare_same_room (op := .Gt) hTa hTb F.slot_tuple_gt (wpAny_call_entry F.slot_tuple_gt hTa F.entry_tuple_gt (tup_gt_tree ha da hb db ?_ ?_) (F.args_tuple_gt_2 _ _)) hu
  · exact hL.andThen (Looks.of_pure isSubtype_tuple_tuple)
  · exact GtLex.mono (fun b s z => ⟨_, rfl, z⟩) (fun v s z => ⟨_, rfl, z⟩) h
theorem tp_gt {a b : Addr} {oa ob : Obj} {na nb : Nat} {x1 y1 x2 y2 : Int} {t1 u1 t2 u2 : Tok} {Q : Value → Shared → Prop} (hu : A.units < cLine)
    (ha : s.heap.get? a = some oa) (ca : oa.cls = .type "tuple") (da : oa.data = .seq #[.int x1 t1, .int y1 u1] na) (hb : s.heap.get? b = some ob) (cb : ob.cls = .type "tuple") (db : ob.data = .seq #[.int x2 t2, .int y2 u2] nb)
    (h : Q (.bool (lexB x2 y2 x1 y1)) s) : wpAny (model prog w) A (richCompare .Gt (.ref a) (.ref b)) Q E s :=
  rich_gt_tup hu ha ca da hb cb db (gt_ints2 ⟨nimpl _, h⟩)
theorem max_tp {a b : Addr} {x1 y1 x2 y2 : Int} {t1 u1 t2 u2 : Tok} {h₀ : Heap} {L : Addr} {m : Str → Option Value} {news : List (Addr × Obj)} {Q : Value → Shared → Prop} (hh : A.handled = none) (hu : A.units + 1 < cLine) (F : Fr h₀ L s.heap m) (N : News h₀ L s.heap news)
    (ha : (a, ({ cls := .type "tuple", data := .seq #[.int x1 t1, .int y1 u1] } : Obj)) ∈ news) (hb : (b, ({ cls := .type "tuple", data := .seq #[.int x2 t2, .int y2 u2] } : Obj)) ∈ news)
    (h : ∀ h' tk, Fr h₀ L h' m → News h₀ L h' news → Q (.ref (if lexB x1 y1 x2 y2 = true then b else a)) { s with heap := h', toks := tk }) : wpAny (model prog w) A (call (.builtin "max") [.ref a, .ref b]) Q E s := by
  refine max2 (bt := lexB x1 y1 x2 y2) hh (fun h' tk Q' E' k q => tp_gt hu (k _ _ (N _ hb).1) rfl rfl (k _ _ (N _ ha).1) rfl rfl q) fun h' tk k => ?_
  have := h h' tk (F.grownK k) (N.grown k)
  cases e : lexB x1 y1 x2 y2 <;> (rw [e] at this; exact this)
theorem min_tp {a b : Addr} {x1 y1 x2 y2 : Int} {t1 u1 t2 u2 : Tok} {h₀ : Heap} {L : Addr} {m : Str → Option Value} {news : List (Addr × Obj)} {Q : Value → Shared → Prop} (hh : A.handled = none) (hu : A.units + 1 < cLine) (F : Fr h₀ L s.heap m) (N : News h₀ L s.heap news)
    (ha : (a, ({ cls := .type "tuple", data := .seq #[.int x1 t1, .int y1 u1] } : Obj)) ∈ news) (hb : (b, ({ cls := .type "tuple", data := .seq #[.int x2 t2, .int y2 u2] } : Obj)) ∈ news)
    (h : ∀ h' tk, Fr h₀ L h' m → News h₀ L h' news → Q (.ref (if lexB x2 y2 x1 y1 = true then b else a)) { s with heap := h', toks := tk }) : wpAny (model prog w) A (call (.builtin "min") [.ref a, .ref b]) Q E s := by
  refine min2 (bt := lexB x2 y2 x1 y1) hh (fun h' tk Q' E' k q => tp_lt hu (k _ _ (N _ hb).1) rfl rfl (k _ _ (N _ ha).1) rfl rfl q) fun h' tk k => ?_
  have := h h' tk (F.grownK k) (N.grown k)
  cases e : lexB x2 y2 x1 y1 <;> (rw [e] at this; exact this)
theorem max_tpC {a b : Addr} {x1 y1 x2 y2 : Int} {h₀ : Heap} {L : Addr} {m : Str → Option Value} {news : List (Addr × Obj)} {Q : Value → Shared → Prop} (hh : A.handled = none) (hu : A.units + 1 < cLine) (F : Fr h₀ L s.heap m) (N : News h₀ L s.heap news)
    (ha : IsTp news a x1 y1) (hb : IsTp news b x2 y2)
    (h : ∀ h' tk p, IsTp news p (if lexB x1 y1 x2 y2 = true then x2 else x1) (if lexB x1 y1 x2 y2 = true then y2 else y1) → Fr h₀ L h' m → News h₀ L h' news → Q (.ref p) { s with heap := h', toks := tk }) : wpAny (model prog w) A (call (.builtin "max") [.ref a, .ref b]) Q E s := by
  obtain ⟨t1, u1, m1⟩ := ha.ex
  obtain ⟨t2, u2, m2⟩ := hb.ex
  refine max_tp hh hu F N m1 m2 fun h' tk F' N' => h h' tk _ ?_ F' N'
  cases lexB x1 y1 x2 y2
  · simpa using ha
  · simpa using hb
theorem min_tpC {a b : Addr} {x1 y1 x2 y2 : Int} {h₀ : Heap} {L : Addr} {m : Str → Option Value} {news : List (Addr × Obj)} {Q : Value → Shared → Prop} (hh : A.handled = none) (hu : A.units + 1 < cLine) (F : Fr h₀ L s.heap m) (N : News h₀ L s.heap news)
    (ha : IsTp news a x1 y1) (hb : IsTp news b x2 y2)
    (h : ∀ h' tk p, IsTp news p (if lexB x2 y2 x1 y1 = true then x2 else x1) (if lexB x2 y2 x1 y1 = true then y2 else y1) → Fr h₀ L h' m → News h₀ L h' news → Q (.ref p) { s with heap := h', toks := tk }) : wpAny (model prog w) A (call (.builtin "min") [.ref a, .ref b]) Q E s := by
  obtain ⟨t1, u1, m1⟩ := ha.ex
  obtain ⟨t2, u2, m2⟩ := hb.ex
  refine min_tp hh hu F N m1 m2 fun h' tk F' N' => h h' tk _ ?_ F' N'
  cases lexB x2 y2 x1 y1
  · simpa using ha
  · simpa using hb
end
theorem unr_end1 {h₀ : Heap} {L I : Addr} {oI : Obj} {news keep : List (Addr × Obj)} {rest : (Str → Option Value) → List (Addr × Obj) → Prop} {s₁ : Shared} {h' : Heap} {tk : Nat} {m' : Str → Option Value} (F : Fr h₀ L h' m') (l1 : ∀ p ∈ news, p.1 < I) (N : News h₀ L h' ((I, oI) :: news)) (hk : SubL keep news)
    (r : rest m' news) : UnrEndW h₀ L s₁ [(I, oI)] (fun m' n' => SubL keep n' ∧ rest m' n') { s₁ with heap := h', toks := tk } :=
  ⟨h', tk, m', news, rfl, F, N, fun p hp q hq e => by
    obtain rfl : q = (I, oI) := by simpa using hq
    exact absurd (l1 p hp) (by rw [e]; exact Nat.lt_irrefl _), hk, r⟩

def lowC (s1 s2 s3 s4 : Int) : Int := if s1 = 0 then (if s2 = 0 then (if s3 = 0 then (if s4 = 0 then 0 else s4) else -s3) else s2) else -s1
theorem lowC_1 {s1 s2 s3 s4 : Int} (h1 : s1 ≠ 0) : -s1 = lowC s1 s2 s3 s4 := by rw [lowC, if_neg h1]
theorem lowC_2 {s1 s2 s3 s4 : Int} (h1 : s1 = 0) (h2 : s2 ≠ 0) : s2 = lowC s1 s2 s3 s4 := by rw [lowC, if_pos h1, if_neg h2]
theorem lowC_3 {s1 s2 s3 s4 : Int} (h1 : s1 = 0) (h2 : s2 = 0) (h3 : s3 ≠ 0) : -s3 = lowC s1 s2 s3 s4 := by rw [lowC, if_pos h1, if_pos h2, if_neg h3]
theorem lowC_4 {s1 s2 s3 s4 : Int} (h1 : s1 = 0) (h2 : s2 = 0) (h3 : s3 = 0) (h4 : s4 ≠ 0) : s4 = lowC s1 s2 s3 s4 := by rw [lowC, if_pos h1, if_pos h2, if_pos h3, if_neg h4]
theorem lowC_5 {s1 s2 s3 s4 : Int} (h1 : s1 = 0) (h2 : s2 = 0) (h3 : s3 = 0) (h4 : s4 = 0) : 0 = lowC s1 s2 s3 s4 := by rw [lowC, if_pos h1, if_pos h2, if_pos h3, if_pos h4]
abbrev mxX (ax ay cx cy : Int) : Int := if lexB ax ay cx cy = true then cx else ax
abbrev mxY (ax ay cx cy : Int) : Int := if lexB ax ay cx cy = true then cy else ay
abbrev mnX (bx by' dx dy : Int) : Int := if lexB dx dy bx by' = true then dx else bx
abbrev mnY (bx by' dx dy : Int) : Int := if lexB dx dy bx by' = true then dy else by'
abbrev lowI (ax ay bx by' cx cy dx dy : Int) : Int :=
  lowC (sgI (crossI cx cy dx dy (mxX ax ay cx cy) (mxY ax ay cx cy))) (sgI (crossI ax ay bx by' (mxX ax ay cx cy) (mxY ax ay cx cy))) (sgI (crossI cx cy dx dy (mnX bx by' dx dy) (mnY bx by' dx dy))) (sgI (crossI ax ay bx by' (mnX bx by' dx dy) (mnY bx by' dx dy)))
section
variable {w : World} {p : Program} {loose : List Str} {mean : ExcName → Option Value} {mg mb : Str → Option Value} {news : List (Addr × Obj)} {dp un : Nat} {gd : Option (List Code)} {cn : Str} {cs : Scope} {a : Addr} {ccd : Value} {cl : List (Str × Addr)} {outer : List Env} {A₀ : Around} {base h₀ : Heap} {L : Addr} {m : Str → Option Value} {s : Shared} {Q E : Value → Shared → Prop}
end

theorem bit_eq (e : Nat) : (if e % 2 = 0 then (1 : Int) else 0) = if decide ((e : Int) % 2 = 0) = true then 1 else 0 := by
  by_cases h : e % 2 = 0
  · rw [if_pos h, if_pos (by rw [decide_eq_true_eq]; omega)]
  · rw [if_neg h, if_neg (by rw [decide_eq_true_eq]; omega)]
theorem lexB_shift (aw u1 v1 u2 v2 : Int) : lexB (u1 + aw) (v1 - aw) (u2 + aw) (v2 - aw) = lexB u1 v1 u2 v2 := by
  unfold lexB
  rw [show decide (u1 + aw < u2 + aw) = decide (u1 < u2) from decide_eq_decide.mpr (by omega), show decide (u1 + aw = u2 + aw) = decide (u1 = u2) from decide_eq_decide.mpr (by omega), show decide (v1 - aw < v2 - aw) = decide (v1 < v2) from decide_eq_decide.mpr (by omega)]
theorem q_pl (e1 e2 : Nat) (aw x1 y1 u1 v1 x2 y2 u2 v2 : Int) :
    qB e1 (x1 + aw) (y1 - aw) (u1 + aw) (v1 - aw) e2 (x2 + aw) (y2 - aw) (u2 + aw) (v2 - aw) = plB x1 y1 (if e1 % 2 = 0 then 1 else 0) u1 v1 x2 y2 (if e2 % 2 = 0 then 1 else 0) u2 v2 := by
  rw [bit_eq, bit_eq]
  unfold qB plB
  rw [lexB_shift]
  by_cases hx : x1 = x2
  · rw [if_neg (show ¬ (x1 + aw ≠ x2 + aw) by omega)]
    by_cases hy : y1 = y2
    · rw [if_neg (show ¬ (y1 - aw ≠ y2 - aw) by omega), if_pos (show (decide (x1 = x2) && decide (y1 = y2)) = true by simp [hx, hy])]
      generalize decide ((e1 : Int) % 2 = 0) = d1
      generalize decide ((e2 : Int) % 2 = 0) = d2
      cases d1 <;> cases d2 <;> simp
    · rw [if_pos (show (y1 - aw ≠ y2 - aw) by omega), if_neg (show ¬ (decide (x1 = x2) && decide (y1 = y2)) = true by simp [hy])]
      unfold lexB
      rw [show decide (x1 < x2) = false from decide_eq_false (by omega), show decide (x1 = x2) = true from decide_eq_true hx, Bool.false_or, Bool.true_and]
      exact decide_eq_decide.mpr (by omega)
  · rw [if_pos (show (x1 + aw ≠ x2 + aw) by omega), if_neg (show ¬ (decide (x1 = x2) && decide (y1 = y2)) = true by simp [hx])]
    unfold lexB
    rw [show decide (x1 = x2) = false from decide_eq_false hx, Bool.false_and, Bool.or_false]
    exact decide_eq_decide.mpr (by omega)

inductive IsPlN (news : List (Addr × Obj)) (a : Addr) (x y b u v : Int) : Prop
  | mk (lo hi : Addr) (tb : Tok) (z0 : (a, ({ cls := .type "tuple", data := .seq #[.ref lo, .int b tb, .ref hi] } : Obj)) ∈ news) (z1 : IsTp news lo x y) (z2 : IsTp news hi u v) : IsPlN news a x y b u v
theorem IsPlN.at {h₀ h : Heap} {L a : Addr} {news : List (Addr × Obj)} {x y b u v : Int} (N : News h₀ L h news) (P : IsPlN news a x y b u v) : IsPl h a x y b u v := by
  obtain ⟨lo, hi, tb, m, l, r⟩ := P
  obtain ⟨t1, u1, m1⟩ := l.ex
  obtain ⟨t2, u2, m2⟩ := r.ex
  exact ⟨_, _, lo, hi, tb, (N _ m).1, rfl, rfl, ⟨_, _, t1, u1, (N _ m1).1, rfl, rfl⟩, ⟨_, _, t2, u2, (N _ m2).1, rfl, rfl⟩⟩
theorem IsPlN.cons {news : List (Addr × Obj)} {q : Addr × Obj} {a : Addr} {x y b u v : Int} (P : IsPlN news a x y b u v) : IsPlN (q :: news) a x y b u v := by
  obtain ⟨lo, hi, tb, m, l, r⟩ := P
  exact ⟨lo, hi, tb, .tail _ m, l.cons, r.cons⟩
theorem IsQK.cons {news : List (Addr × Obj)} {q : Addr × Obj} {x ea oa : Addr} {ev : Int} (P : IsQK news x ea oa ev) : IsQK (q :: news) x ea oa ev := by
  obtain ⟨dx, t1, t2, t3, te, h1, h2, h3, m, n⟩ := P
  exact ⟨dx, t1, t2, t3, te, h1, h2, h3, .tail _ m, .tail _ n⟩
/-- one event: its key, its point, its other end's, its place -/
inductive QEv (news : List (Addr × Obj)) (kvs evs ovs pvs : Array Value) (ea oa : Addr) (aw : Int) (i : Nat) (x y u v : Int) : Prop
  | mk (k p r pl : Addr) (o : Int) (to : Tok) (z0 : kvs[i]? = some (.ref k)) (z1 : IsQK news k ea oa i) (z2 : evs[i]? = some (.ref p)) (z3 : IsPt news p (x + aw) (y - aw)) (z4 : ovs[i]? = some (.int o to)) (z5 : 0 ≤ o) (z6 : o < 1000) (z7 : evs[o.toNat]? = some (.ref r)) (z8 : IsPt news r (u + aw) (v - aw)) (z9 : pvs[i]? = some (.ref pl)) (z10 : IsPlN news pl x y (if i % 2 = 0 then 1 else 0) u v) : QEv news kvs evs ovs pvs ea oa aw i x y u v
inductive QRel (news : List (Addr × Obj)) (ka pa : Addr) (n : Nat) : Prop
  | mk (ea oa : Addr) (evs ovs kvs pvs : Array Value) (ne no nk np : Nat) (aw : Int) (z0 : (ea, listOf evs ne) ∈ news) (z1 : (oa, listOf ovs no) ∈ news) (z2 : (ka, listOf kvs nk) ∈ news) (z3 : (pa, listOf pvs np) ∈ news) (z4 : kvs.size = n) (z5 : n < 1000) (z6 : ∀ i, i < n → ∃ x y u v, QEv news kvs evs ovs pvs ea oa aw i x y u v) : QRel news ka pa n
theorem pl_ltC {prog : Program} {w : World} {A : Around} {E : Value → Shared → Prop} {s : Shared} {h₀ : Heap} {L pa pb : Addr} {news : List (Addr × Obj)} {x1 y1 b1 u1 v1 x2 y2 b2 u2 v2 : Int} {Q : Value → Shared → Prop} (N : News h₀ L s.heap news) (hu : A.units + 1 < cLine)
    (h1 : IsPlN news pa x1 y1 b1 u1 v1) (h2 : IsPlN news pb x2 y2 b2 u2 v2) (h : Q (.bool (plB x1 y1 b1 u1 v1 x2 y2 b2 u2 v2)) s) : wpAny (model prog w) A (compareOp .Lt (.ref pa) (.ref pb)) Q E s :=
  pl_lt hu (h1.at N) (h2.at N) h
section
variable {w : World} {p : Program} {loose : List Str} {mean : ExcName → Option Value} {mg mb : Str → Option Value} {news : List (Addr × Obj)} {dp un : Nat} {gd : Option (List Code)} {cn : Str} {cs : Scope} {a : Addr} {ccd : Value} {cl : List (Str × Addr)} {outer : List Env} {A₀ : Around} {base h₀ : Heap} {L : Addr} {m : Str → Option Value} {s : Shared} {Q E : Value → Shared → Prop}
end

def TurnJ (h₀ : Heap) (L : Addr) (x : Str) (stored : List Str) (m₀ : Str → Option Value) (I : Addr) (oI : Obj) (J : (Str → Option Value) → List (Addr × Obj) → Prop) (s₁ : Shared) (Q : Flow → Shared → Prop) (f : Flow) (s₂ : Shared) : Prop :=
  match f with
  | .ret v => Q (.ret v) s₂
  | .brk => Q .next s₂
  | _ => ∃ h' tk m' news', s₂ = { s₁ with heap := h', toks := tk } ∧ Fr h₀ L h' m' ∧ News h₀ L h' ((I, oI) :: news') ∧ (∀ p ∈ news', p.1 ≠ I) ∧ J m' news' ∧ ∀ y, y ≠ x → stored.contains y = false → m' y = m₀ y
theorem turnJ_next {h₀ : Heap} {L : Addr} {x : Str} {stored : List Str} {m₀ : Str → Option Value} {I : Addr} {oI : Obj} {J : (Str → Option Value) → List (Addr × Obj) → Prop} {s₁ : Shared} {Q : Flow → Shared → Prop} {h' : Heap} {tk : Nat} {m' : Str → Option Value} {news' : List (Addr × Obj)}
    (F : Fr h₀ L h' m') (N : News h₀ L h' ((I, oI) :: news')) (off : ∀ p ∈ news', p.1 ≠ I) (hJ : J m' news') (hm : ∀ y, y ≠ x → stored.contains y = false → m' y = m₀ y) : TurnJ h₀ L x stored m₀ I oI J s₁ Q .next { s₁ with heap := h', toks := tk } :=
  ⟨h', tk, m', news', rfl, F, N, off, hJ, hm⟩
theorem own_is {h : Heap} {I : Addr} {own : List (Addr × Obj)} {o : Obj} (hown : ∀ p ∈ own, p.1 ∈ [I]) (hall : ∀ p ∈ own, h.get? p.1 = some p.2) (ho : h.get? I = some o) : ∀ p ∈ own, p = (I, o) := by
  intro p hp
  have e := List.mem_singleton.mp (hown p hp)
  have g := hall p hp
  rw [e, ho] at g
  exact Prod.ext e (Option.some.inj g).symm
section
variable {prog : Program} {w : World} {A : Around} {E : Value → Shared → Prop} {s : Shared} {env : Env} {h₀ : Heap} {body : List Stmt} {Q : Flow → Shared → Prop} {x : Str}
theorem iter_rangeJ {r : Addr} {a₀ b₀ : Int} {t₀ u₀ v₀ : Tok} {n : Nat} {m₀ : Str → Option Value} {news : List (Addr × Obj)} (stored : List Str) (J : Nat → (Str → Option Value) → List (Addr × Obj) → Prop)
    (hh : A.handled = none) (hr : IsRange s.heap r a₀ b₀ 1 t₀ u₀ v₀) (hsmall : Builtin.Range.small a₀ b₀ 1 = true) (hn : Builtin.Range.rangeSize a₀ b₀ 1 = (n : Int)) (F : Fr h₀ env.locals s.heap m₀) (N : News h₀ env.locals s.heap news)
    (hJ : J 0 m₀ news)
    (turn : ∀ (i : Nat) t (u : Str → Option Value) h tk I oI news₁, (∀ p ∈ news, p.1 < I) → i < n → J i u news₁ → (∀ p ∈ news₁, p.1 ≠ I) → oI.cls = .type "range_iterator" → Fr h₀ env.locals h (fun y => if y = x then some (.int (a₀ + (i : Int)) t) else if stored.contains y then u y else m₀ y) → News h₀ env.locals h ((I, oI) :: news₁) →
      wpAny (model prog w) A (execs body env) (TurnJ h₀ env.locals x stored m₀ I oI (J (i + 1)) { s with heap := h, toks := tk } Q) E { s with heap := h, toks := tk })
    (done : ∀ (u : Str → Option Value) h tk news', J n u news' → Fr h₀ env.locals h (fun y => if y = x then u y else if stored.contains y then u y else m₀ y) → News h₀ env.locals h news' → Q .next { s with heap := h, toks := tk }) :
    wpAny (model prog w) A (pyIter (.ref r)) (fun it s₂ => LoopAtV prog w A h₀ env x body Q E it s₂) E s := by
  refine wpAny_pyIter_range hr hsmall ?_
  have W := Walks.range (prog := prog) (w := w) hh s.heap.objs.size a₀ 1 n
  have hL : env.locals ∉ [s.heap.objs.size] := fun hm => absurd F.ns.lt ((List.mem_singleton.mp hm) ▸ Nat.lt_irrefl _)
  have hI0 : h₀.get? s.heap.objs.size = none := F.fresh
  refine ⟨s.heap.objs.size, [s.heap.objs.size], [s.heap.objs.size], n, _, _, m₀, news, fun i m' news' => J i m' news' ∧ ∀ y, y ≠ x → stored.contains y = false → m' y = m₀ y, rfl, W, hL, ?_, ?_, by show IsRangeIter _ _ _ _ _; rw [hn]; simpa using Heap.get?_push_size _ rfl, F.push _, fun p hp => ⟨Heap.get?_push_of_some _ (N p hp).1, (N p hp).2⟩, ⟨hJ, fun _ _ _ => rfl⟩, ?_, ?_⟩
  · intro b hb
    rw [List.mem_singleton.mp hb]; exact hI0
  · intro p hp hI
    exact absurd (Heap.lt_size (N p hp).1) ((List.mem_singleton.mp hI) ▸ Nat.lt_irrefl _)
  · rintro i v m₁ news₁ s₁ own ⟨hh', tk', rfl⟩ hin ⟨t, rfl⟩ ⟨hJ₁, hm₁⟩ hoff hown hget hall hst' F₁ N₁
    have e : (fun y => if y = x then some (Value.int (a₀ + (i : Int) * 1) t) else m₁ y) = fun y => if y = x then some (Value.int (a₀ + (i : Int)) t) else if stored.contains y then m₁ y else m₀ y := by
      funext y
      by_cases h1 : y = x
      · simp [h1]
      · simp only [if_neg h1]
        cases h2 : stored.contains y with
        | true => simp
        | false => simp only [Bool.false_eq_true, if_false]; exact hm₁ y h1 h2
    rw [e] at F₁
    obtain ⟨oI, ho, hoc⟩ : ∃ oI, hh'.get? s.heap.objs.size = some oI ∧ oI.cls = .type "range_iterator" := ⟨_, hst', rfl⟩
    have hio : (s.heap.objs.size, oI) ∈ own := hall _ (List.mem_singleton.mpr rfl) hI0 _ ho
    have hone := own_is hown hget ho
    have offI : ∀ p ∈ news₁, p.1 ≠ s.heap.objs.size := fun p hp e => hoff p hp (List.mem_singleton.mpr e)
    refine wpAny_mono (turn i t m₁ hh' tk' s.heap.objs.size oI news₁ (fun p hp => Heap.lt_size (N p hp).1) hin hJ₁ offI hoc F₁ (fun p hp => ?_)) (fun f s₂ q => ?_) fun _ _ e => e
    · rcases List.mem_cons.mp hp with rfl | hp
      · exact N₁ _ (List.mem_append_left _ hio)
      · exact N₁ _ (List.mem_append_right _ hp)
    · have fin : (∃ h' tk m' news', s₂ = { ({ s with heap := hh', toks := tk' } : Shared) with heap := h', toks := tk } ∧ Fr h₀ env.locals h' m' ∧ News h₀ env.locals h' ((s.heap.objs.size, oI) :: news') ∧ (∀ p ∈ news', p.1 ≠ s.heap.objs.size) ∧ J (i + 1) m' news' ∧ ∀ y, y ≠ x → stored.contains y = false → m' y = m₀ y) →
          LoopStepU h₀ env.locals [s.heap.objs.size] own (fun m' news' => J (i + 1) m' news' ∧ ∀ y, y ≠ x → stored.contains y = false → m' y = m₀ y) { s with heap := hh', toks := tk' } .next s₂ := by
        rintro ⟨h', tk, m', news', e, F', N', off', hJ', hm'⟩
        refine ⟨rfl, h', tk, m', news', e, F', fun p hp => ?_, fun p hp hI => off' p hp (List.mem_singleton.mp hI), hJ', hm'⟩
        rcases List.mem_append.mp hp with hp | hp
        · rw [hone p hp]; exact N' _ (List.mem_cons.mpr (.inl rfl))
        · exact N' _ (List.mem_cons.mpr (.inr hp))
      cases f with
      | ret v => exact .ret q
      | brk => exact .brk q
      | next => exact .next (fin q)
      | cont => exact .cont (fin q)
  · rintro h' tk m' news' F' N' _ ⟨hJ', hm'⟩
    refine done m' h' tk news' hJ' ?_ N'
    have e : (fun y => if y = x then m' y else if stored.contains y then m' y else m₀ y) = m' := by
      funext y
      by_cases h1 : y = x
      · simp [h1]
      · simp only [if_neg h1]
        cases h2 : stored.contains y with
        | true => simp
        | false => simp only [Bool.false_eq_true, if_false]; exact (hm' y h1 h2).symm
    rw [e]; exact F'
end
theorem fr_know2 {h₀ h : Heap} {L : Addr} {m : Str → Option Value} {x y : Str} {v u : Value} (F : Fr h₀ L h m) (e1 : m x = some v) (e2 : m y = some u) : ∃ m' : Str → Option Value, Fr h₀ L h (fun z => if z = x then some v else if z = y then some u else m' z) := by
  refine ⟨m, ?_⟩
  have e : (fun z => if z = x then some v else if z = y then some u else m z) = m := by
    funext z
    by_cases h1 : z = x
    · rw [if_pos h1, h1, e1]
    · rw [if_neg h1]
      by_cases h2 : z = y
      · rw [if_pos h2, h2, e2]
      · rw [if_neg h2]
  rw [e]; exact F

section
variable {prog : Program} {w : World} {A : Around} {E : Value → Shared → Prop} {s : Shared} {h₀ : Heap} {L : Addr} {m : Str → Option Value} {env : Env}
/-- a written tuple is the source of a filtered list comprehension -/
structure TupSrc (prog : Program) (w : World) (A : Around) (h₀ : Heap) (L : Addr) (m : Str → Option Value) (env : Env) (ct elt : Expr) (x : Str) (scope : Scope) (cl : List (Str × Addr)) (Q : Value → Shared → Prop) (xv : Value) (s₁ : Shared) : Prop where
  ex : ∃ ax its k news, xv = .ref ax ∧ A.handled = none ∧ Fr h₀ L s₁.heap m ∧ News h₀ L s₁.heap news ∧ (ax, ({ cls := .type "tuple", data := .seq its k } : Obj)) ∈ news ∧ its.size ≤ sizeLine ∧
    ∀ g, LCt.CompRestT prog w A h₀ L m env ct elt x scope cl { s₁ with heap := g } (fun nw => (ax, ({ cls := .type "tuple", data := .seq its k } : Obj)) ∈ nw) (fun i v => its[i]? = some v) (LCg.FinE h₀ L m { s₁ with heap := g } Q) its.size 0 [] news
theorem TupSrc.mk' {ct elt : Expr} {x : Str} {scope : Scope} {cl : List (Str × Addr)} {Q : Value → Shared → Prop} {ax : Addr} {its : Array Value} {k : Nat} {news : List (Addr × Obj)} {s₁ : Shared}
    (hh : A.handled = none) (F : Fr h₀ L s₁.heap m) (N : News h₀ L s₁.heap news) (hm : (ax, ({ cls := .type "tuple", data := .seq its k } : Obj)) ∈ news) (hsz : its.size ≤ sizeLine)
    (h : ∀ g, LCt.CompRestT prog w A h₀ L m env ct elt x scope cl { s₁ with heap := g } (fun nw => (ax, ({ cls := .type "tuple", data := .seq its k } : Obj)) ∈ nw) (fun i v => its[i]? = some v) (LCg.FinE h₀ L m { s₁ with heap := g } Q) its.size 0 [] news) :
    TupSrc prog w A h₀ L m env ct elt x scope cl Q (.ref ax) s₁ := ⟨ax, its, k, news, rfl, hh, F, N, hm, hsz, h⟩
theorem comp_tup {ct elt iter : Expr} {x : Str} {px : Pos} {scope : Scope} {cl : List (Str × Addr)} {pos : Pos} {Q : Value → Shared → Prop} (F₀ : Fr h₀ L s.heap m)
    (hclos : closureFor scope env = pure cl) (hcell : ∀ y ∈ scope.names, y.2 ≠ .cell) (hkind : scope.kind = .function)
    (hnames : ∀ y ∈ scope.names, y.2 = .local → scope.names.lookup y.1 = some .local) (hx : scope.names.lookup x = some .local)
    (h : wpAny (model prog w) A (eval iter env) (TupSrc prog w A h₀ L m env ct elt x scope cl Q) E s)
    (hs : ∀ x, foldedSetIterable iter env x = pure x := by intro _; rfl) :
    wpAny (model prog w) A (eval (.ListComp elt [⟨.Name x px, iter, [ct], 0⟩] scope pos) env) Q E s := by
  rw [eval_ListComp]
  refine wpAny_comprehension_free (use := none) rfl hs hclos hkind hnames (wpAny_mono h (fun xv s₁ h₁ => ?_) fun _ _ e => e)
  obtain ⟨ax, its, k, news, rfl, hh, F, N, hm, hsz, R⟩ := h₁.ex
  have hl : s₁.heap.IsTuple ax its := ⟨_, (N _ hm).1, rfl, k, rfl⟩
  have hlt : ax < s₁.heap.objs.size := Heap.lt_size (N _ hm).1
  refine wpAny_pyIter_tuple hl ?_
  have up : ∀ b o, s₁.heap.get? b = some o → (s₁.heap.push { cls := .type "tuple_iterator", data := .fields #[.ref ax, .int 0 0] }).get? b = some o := fun b o e => Heap.get?_push_of_some _ e
  refine LCt.block_T (Walks.tuple hh s₁.heap.objs.size ax (Nat.ne_of_lt hlt) its) hsz (fun i h st => by obtain ⟨o, e, _⟩ := st.1; exact ⟨o, e⟩) (fun i h h' o nw st e e' k' N' S' => ⟨by obtain ⟨o', q, r⟩ := st.1; rw [e] at q; cases q; exact ⟨o, e', r⟩, ⟨_, (N' _ S').1, rfl, k, rfl⟩⟩) hcell hkind hx ⟨⟨_, Heap.get?_push_size _ rfl, rfl, rfl⟩, hl.at (up _)⟩ (fun b hb => ?_)
    (F.keeps up) (N.grown up) (Nat.ne_of_lt F.ns.lt) (next_is_new F) (fun p hp => Nat.ne_of_lt (Heap.lt_size (N p hp).1)) hm (R _) ?_
  · show b < (s₁.heap.push _).objs.size
    rw [Heap.size_push]
    rcases List.mem_cons.mp hb with rfl | hb
    · exact Nat.lt_succ_self _
    · rw [List.mem_singleton.mp hb]; exact Nat.lt_succ_of_lt hlt
  · intro D C h tk m' ys news' F' N' o1 hn hC₀ hD₀ hCL hDL hCD offC fin
    refine ⟨m', hn, fun h'' hs'' => fin D h'' tk (F'.change hs'' hCL hC₀) (fun p hp => ?_) o1⟩
    refine ⟨hs''.extBut _ _ ?_ (N' p hp).1, (N' p hp).2⟩
    rcases List.mem_cons.mp hp with rfl | hp
    · exact Ne.symm hCD
    · exact offC p hp
end
theorem comp_end {h₀ : Heap} {L I C D : Addr} {m : Str → Option Value} {s₁ : Shared} {oI oC oD : Obj} {S : List (Addr × Obj) → Prop} {rest : Value → List (Addr × Obj) → Prop} {y : Value} {h' : Heap} {tk : Nat} {news' : List (Addr × Obj)}
    (F : Fr h₀ L h' m) (N : News h₀ L h' ((I, oI) :: (C, oC) :: (D, oD) :: news')) (off : LCg.Off3 I C D news') (hS : S news') (r : rest y news') :
    LCg.CompEnd h₀ L m s₁ I oI C oC D oD S rest y { s₁ with heap := h', toks := tk } := ⟨h', tk, news', rfl, F, N, off, hS, r⟩
abbrev bbObj (b c : Bool) : Obj := { cls := .type "tuple", data := .seq #[.bool b, .bool c] }
section
variable {prog : Program} {w : World} {A : Around} {E : Value → Shared → Prop} {s : Shared} {h₀ : Heap} {L : Addr} {m : Str → Option Value} {news : List (Addr × Obj)}
theorem isTup {a : Addr} {its : Array Value} {k : Nat} (N : News h₀ L s.heap news) (h : (a, ({ cls := .type "tuple", data := .seq its k } : Obj)) ∈ news) : s.heap.IsTuple a its := ⟨_, (N _ h).1, rfl, k, rfl⟩
theorem isLst {a : Addr} {its : Array Value} {k : Nat} (N : News h₀ L s.heap news) (h : (a, ({ cls := .type "list", data := .seq its k } : Obj)) ∈ news) : s.heap.IsList a its := ⟨_, (N _ h).1, rfl, k, rfl⟩
theorem rc_bb {l r : Addr} {b1 b2 c1 c2 : Bool} (N : News h₀ L s.heap news) (h1 : (l, bbObj b1 b2) ∈ news) (h2 : (r, bbObj c1 c2) ∈ news) (hu : A.units < cLine) : SeqAt.RcAt A s (.ref l) (.ref r) ((b1 == c1) && (b2 == c2)) := by
  have h := SeqAt.RcAt.tuples (A := A) (e := fun j => if j = 0 then b1 == c1 else b2 == c2) (isTup N h1) (isTup N h2) hu fun j g1 g2 => by
    match j, g1, g2 with
    | 0, _, _ => exact SeqAt.EqAt.bool_bool b1 c1
    | 1, _, _ => exact SeqAt.EqAt.bool_bool b2 c2
  have e : ((List.range (min #[Value.bool b1, Value.bool b2].size #[Value.bool c1, Value.bool c2].size)).all (fun j => if j = 0 then b1 == c1 else b2 == c2) && #[Value.bool b1, Value.bool b2].size == #[Value.bool c1, Value.bool c2].size) = ((b1 == c1) && (b2 == c2)) := by
    cases b1 <;> cases b2 <;> cases c1 <;> cases c2 <;> rfl
  rw [e] at h; exact h
theorem eqAt_bb {l r : Addr} {b1 b2 c1 c2 : Bool} (N : News h₀ L s.heap news) (h1 : (l, bbObj b1 b2) ∈ news) (h2 : (r, bbObj c1 c2) ∈ news) (hu : A.units < cLine) : SeqAt.EqAt A s (.ref l) (.ref r) ((b1 == c1) && (b2 == c2)) := by
  by_cases e : l = r
  · subst e
    have q := (N _ h1).1.symm.trans (N _ h2).1
    simp only [Option.some.injEq, Obj.mk.injEq, Data.seq.injEq, Array.mk.injEq, List.cons.injEq, Value.bool.injEq] at q
    have e : ((b1 == c1) && (b2 == c2)) = true := by simp [q]
    rw [e]; exact SeqAt.EqAt.same _
  · exact SeqAt.EqAt.of_refs e (rc_bb N h1 h2 hu)
theorem ne_bb {l r : Addr} {b1 b2 c1 c2 : Bool} {Q : Value → Shared → Prop} (N : News h₀ L s.heap news) (h1 : (l, bbObj b1 b2) ∈ news) (h2 : (r, bbObj c1 c2) ∈ news) (hu : A.units < cLine)
    (h : Q (.bool (!((b1 == c1) && (b2 == c2)))) s) : wpAny (model prog w) A (compareOp .NotEq (.ref l) (.ref r)) Q E s := by
  have e : ((List.range (min #[Value.bool b1, Value.bool b2].size #[Value.bool c1, Value.bool c2].size)).all (fun j => if j = 0 then b1 == c1 else b2 == c2) && #[Value.bool b1, Value.bool b2].size == #[Value.bool c1, Value.bool c2].size) = ((b1 == c1) && (b2 == c2)) := by
    cases b1 <;> cases b2 <;> cases c1 <;> cases c2 <;> rfl
  refine SeqAt.RcNeAt.tuples (A := A) (e := fun j => if j = 0 then b1 == c1 else b2 == c2) (isTup N h1) (isTup N h2) hu (fun j g1 g2 => by
    match j, g1, g2 with
    | 0, _, _ => exact SeqAt.EqAt.bool_bool b1 c1
    | 1, _, _ => exact SeqAt.EqAt.bool_bool b2 c2) prog w E Q ?_
  rw [e]; exact h
theorem eqAt_tp {l r : Addr} {ax ay cx cy : Int} (N : News h₀ L s.heap news) (h1 : IsTp news l ax ay) (h2 : IsTp news r cx cy) (hu : A.units < cLine) : SeqAt.EqAt A s (.ref l) (.ref r) (decide (ax = cx) && decide (ay = cy)) := by
  obtain ⟨t1, u1, m1⟩ := h1.ex
  obtain ⟨t2, u2, m2⟩ := h2.ex
  exact fun prog w E Q q => tp_eqB hu (N _ m1).1 rfl rfl (N _ m2).1 rfl rfl q
theorem eq_seg {l r la ra lb rb : Addr} {ax ay bx by' cx cy dx dy : Int} {Q : Value → Shared → Prop} (hu : A.units + 1 < cLine) (N : News h₀ L s.heap news) (hl : IsSeg news l la lb) (hr : IsSeg news r ra rb) (h1 : IsTp news la ax ay) (h2 : IsTp news lb bx by') (h3 : IsTp news ra cx cy) (h4 : IsTp news rb dx dy)
    (h : Q (.bool (decide (ax = cx ∧ ay = cy ∧ bx = dx ∧ by' = dy))) s) : wpAny (model prog w) A (compareOp .Eq (.ref l) (.ref r)) Q E s := by
  obtain ⟨n1, m1⟩ := hl.ex
  obtain ⟨n2, m2⟩ := hr.ex
  refine SeqAt.eq_listAt (e := fun j => if j = 0 then (decide (ax = cx) && decide (ay = cy)) else (decide (bx = dx) && decide (by' = dy))) (isLst N m1) (isLst N m2) rfl (by omega) (fun j g1 g2 => by
    match j, g1, g2 with
    | 0, _, _ => exact eqAt_tp N h1 h3 hu
    | 1, _, _ => exact eqAt_tp N h2 h4 hu) ?_
  have e : ((List.range #[Value.ref la, Value.ref lb].size).all (fun j => if j = 0 then (decide (ax = cx) && decide (ay = cy)) else (decide (bx = dx) && decide (by' = dy)))) = decide (ax = cx ∧ ay = cy ∧ bx = dx ∧ by' = dy) := by
    show ((decide (ax = cx) && decide (ay = cy)) && ((decide (bx = dx) && decide (by' = dy)) && true)) = _
    simp only [Bool.and_true, Bool.decide_and, Bool.and_assoc]
  rw [e]; exact h
theorem notin1 {t l r1 : Addr} {b1 b2 c1 c2 : Bool} {n : Nat} {Q : Value → Shared → Prop} (hu : A.units + 1 < cLine) (N : News h₀ L s.heap news) (hl : (l, listOf #[.ref r1] n) ∈ news) (h1 : (t, bbObj b1 b2) ∈ news) (h2 : (r1, bbObj c1 c2) ∈ news)
    (h : Q (.bool (!((c1 == b1) && (c2 == b2)))) s) : wpAny (model prog w) A (compareOp .NotIn (.ref t) (.ref l)) Q E s := by
  refine SeqAt.notIn_listAt (fun _ => ((c1 == b1) && (c2 == b2))) (isLst N hl) (fun y hy => ?_) ?_
  · obtain rfl : y = .ref r1 := by simpa using hy
    exact eqAt_bb N h2 h1 hu
  · simpa using h
theorem notin2 {t l r1 r2 : Addr} {b1 b2 c1 c2 d1 d2 : Bool} {n : Nat} {Q : Value → Shared → Prop} (hu : A.units + 1 < cLine) (N : News h₀ L s.heap news) (hl : (l, listOf #[.ref r1, .ref r2] n) ∈ news) (ne : @Ne Nat r1 r2) (h1 : (t, bbObj b1 b2) ∈ news) (h2 : (r1, bbObj c1 c2) ∈ news) (h3 : (r2, bbObj d1 d2) ∈ news)
    (h : Q (.bool (!(((c1 == b1) && (c2 == b2)) || ((d1 == b1) && (d2 == b2))))) s) : wpAny (model prog w) A (compareOp .NotIn (.ref t) (.ref l)) Q E s := by
  refine SeqAt.notIn_listAt (fun y => if y == .ref r1 then ((c1 == b1) && (c2 == b2)) else ((d1 == b1) && (d2 == b2))) (isLst N hl) (fun y hy => ?_) ?_
  · have hy' : y = .ref r1 ∨ y = .ref r2 := by simpa using hy
    rcases hy' with rfl | rfl
    · rw [if_pos (by simp)]; exact eqAt_bb N h2 h1 hu
    · rw [if_neg (by simpa using Ne.symm ne)]; exact eqAt_bb N h3 h1 hu
  · have q : ¬ (r2 = r1) := Ne.symm ne
    simpa [if_neg q] using h
theorem eq_len {l r : Addr} {xs ys : Array Value} {n k : Nat} {Q : Value → Shared → Prop} (hu : A.units < cLine) (N : News h₀ L s.heap news) (h1 : (l, listOf xs n) ∈ news) (h2 : (r, listOf ys k) ∈ news) (hsz : (xs.size != ys.size) = true)
    (h : Q (.bool false) s) : wpAny (model prog w) A (compareOp .Eq (.ref l) (.ref r)) Q E s := SeqAt.eq_list_lengthsAt (isLst N h1) (isLst N h2) hsz hu h
theorem eq_nil {l r : Addr} {xs ys : Array Value} {n k : Nat} {Q : Value → Shared → Prop} (hu : A.units < cLine) (N : News h₀ L s.heap news) (h1 : (l, listOf xs n) ∈ news) (h2 : (r, listOf ys k) ∈ news) (hx : xs.size = 0) (hy : ys.size = 0)
    (h : Q (.bool true) s) : wpAny (model prog w) A (compareOp .Eq (.ref l) (.ref r)) Q E s :=
  SeqAt.eq_listAt (e := fun _ => true) (isLst N h1) (isLst N h2) (hx.trans hy.symm) hu (fun j g1 _ => absurd (hx ▸ g1) (Nat.not_lt_zero _)) (by rw [hx]; exact h)
theorem tp_ltC {l r : Addr} {ax ay cx cy : Int} {Q : Value → Shared → Prop} (hu : A.units < cLine) (N : News h₀ L s.heap news) (h1 : IsTp news l ax ay) (h2 : IsTp news r cx cy)
    (h : Q (.bool (lexB ax ay cx cy)) s) : wpAny (model prog w) A (compareOp .Lt (.ref l) (.ref r)) Q E s := by
  obtain ⟨t1, u1, m1⟩ := h1.ex
  obtain ⟨t2, u2, m2⟩ := h2.ex
  exact tp_lt hu (N _ m1).1 rfl rfl (N _ m2).1 rfl rfl h
end

theorem cross_shift (aw ax ay bx by' cx cy : Int) : crossI (ax + aw) (ay - aw) (bx + aw) (by' - aw) (cx + aw) (cy - aw) = crossI ax ay bx by' cx cy := by grind
theorem sB_shift (aw ax ay bx by' cx cy dx dy : Int) : sB (ax + aw) (ay - aw) (bx + aw) (by' - aw) (cx + aw) (cy - aw) (dx + aw) (dy - aw) = sB ax ay bx by' cx cy dx dy := by
  show sC _ _ _ _ _ _ _ _ _ _ _ _ = sC _ _ _ _ _ _ _ _ _ _ _ _
  simp only [cross_shift]
  generalize oriA _ = o1
  generalize oriA (crossI ax ay bx by' dx dy) = o2
  generalize oriA (crossI cx cy dx dy ax ay) = o3
  generalize oriA (crossI cx cy dx dy bx by') = o4
  unfold sC
  simp only [show (ay - aw = cy - aw) ↔ (ay = cy) by omega, show (ax + aw = cx + aw) ↔ (ax = cx) by omega, show (by' - aw = dy - aw) ↔ (by' = dy) by omega, show (bx + aw < dx + aw) ↔ (bx < dx) by omega, show (by' - aw < dy - aw) ↔ (by' < dy) by omega,
    show (ax + aw < cx + aw) ↔ (ax < cx) by omega, show (ay - aw < cy - aw) ↔ (ay < cy) by omega]
/-- one number for a point: the order of pairs in a small box -/
abbrev tI (x y : Int) : Int := 1000 * x + y
theorem lexB_t {x1 y1 x2 y2 : Int} (h1 : -100 ≤ y1) (h2 : y1 ≤ 100) (h3 : -100 ≤ y2) (h4 : y2 ≤ 100) : lexB x1 y1 x2 y2 = decide (tI x1 y1 < tI x2 y2) := by
  unfold lexB tI
  rw [Bool.eq_iff_iff]
  simp only [Bool.or_eq_true, Bool.and_eq_true, decide_eq_true_eq]
  omega
theorem id0 (ax ay bx by' cx cy dx dy : Int) : crossI ax ay bx by' cx cy - crossI ax ay bx by' dx dy + crossI cx cy dx dy ax ay - crossI cx cy dx dy bx by' = 0 := by grind
theorem idA (ax ay bx by' cx cy dx dy : Int) : crossI cx cy dx dy ax ay * (tI bx by' - tI ax ay) + crossI ax ay bx by' dx dy * (tI ax ay - tI cx cy) + crossI ax ay bx by' cx cy * (tI dx dy - tI ax ay) = 0 := by grind
theorem idC (ax ay bx by' cx cy dx dy : Int) : crossI ax ay bx by' cx cy * (tI dx dy - tI cx cy) + crossI cx cy dx dy bx by' * (tI cx cy - tI ax ay) + crossI cx cy dx dy ax ay * (tI bx by' - tI cx cy) = 0 := by grind
/-- three products that sum to nothing -/
theorem three {o p q x y z : Int} (h : o * x + p * y + q * z = 0) (hx : 0 < x) (hy : 0 ≤ y) (hz : 0 < z) : (0 ≤ o → 0 ≤ p → 0 ≤ q → o = 0 ∧ q = 0) ∧ (o ≤ 0 → p ≤ 0 → q ≤ 0 → o = 0 ∧ q = 0) := by
  constructor
  · intro ho hp hq
    have h1 := Int.mul_nonneg ho (Int.le_of_lt hx)
    have h2 := Int.mul_nonneg hp hy
    have h3 := Int.mul_nonneg hq (Int.le_of_lt hz)
    have e1 : o * x = 0 := by omega
    have e3 : q * z = 0 := by omega
    exact ⟨(Int.mul_eq_zero.mp e1).resolve_right (by omega), (Int.mul_eq_zero.mp e3).resolve_right (by omega)⟩
  · intro ho hp hq
    have h1 := Int.mul_nonneg (show 0 ≤ -o by omega) (Int.le_of_lt hx)
    have h2 := Int.mul_nonneg (show 0 ≤ -p by omega) hy
    have h3 := Int.mul_nonneg (show 0 ≤ -q by omega) (Int.le_of_lt hz)
    rw [Int.neg_mul] at h1 h2 h3
    have e1 : o * x = 0 := by omega
    have e3 : q * z = 0 := by omega
    exact ⟨(Int.mul_eq_zero.mp e1).resolve_right (by omega), (Int.mul_eq_zero.mp e3).resolve_right (by omega)⟩
/-- both ends on the line of the other: all four on one line -/
theorem flat {ax ay bx by' cx cy dx dy : Int} (ne : tI ax ay < tI bx by') (h1 : crossI ax ay bx by' cx cy = 0) (h2 : crossI ax ay bx by' dx dy = 0) : crossI cx cy dx dy ax ay = 0 ∧ crossI cx cy dx dy bx by' = 0 := by
  have e := idA ax ay bx by' cx cy dx dy
  rw [h1, h2, Int.zero_mul, Int.zero_mul, Int.add_zero, Int.add_zero] at e
  have e3 := (Int.mul_eq_zero.mp e).resolve_right (by omega)
  have e0 := id0 ax ay bx by' cx cy dx dy
  exact ⟨e3, by omega⟩
theorem oriA_cases (v : Int) : (0 < v ∧ oriA v = 213 ∧ sgI v = 1) ∨ (v < 0 ∧ oriA v = 207 ∧ sgI v = -1) ∨ (v = 0 ∧ oriA v = 210 ∧ sgI v = 0) := by
  rcases Int.lt_trichotomy v 0 with h | h | h
  · exact .inr (.inl ⟨h, by rw [oriA, if_neg (by omega), if_pos h], by rw [sgI, if_neg (by omega), if_pos h]⟩)
  · exact .inr (.inr ⟨h, by rw [oriA, if_neg (by omega), if_neg (by omega)], by rw [sgI, if_neg (by omega), if_neg (by omega)]⟩)
  · exact .inl ⟨h, by rw [oriA, if_pos h], by rw [sgI, if_pos h]⟩
theorem sgI_0 {v : Int} (h : sgI v = 0) : v = 0 := by
  rcases oriA_cases v with ⟨a, b, c⟩ | ⟨a, b, c⟩ | ⟨a, b, c⟩ <;> omega
/-- the two answers when all four ends lie on one line -/
theorem line_flat {ax ay bx by' cx cy dx dy : Int} (ab : tI ax ay < tI bx by') (cd : tI cx cy < tI dx dy) (h1 : crossI ax ay bx by' cx cy = 0) (h2 : crossI ax ay bx by' dx dy = 0) :
    (decide (ax = cx ∧ ay = cy ∧ bx = dx ∧ by' = dy) = true → sB ax ay bx by' cx cy dx dy = false ∧ sB cx cy dx dy ax ay bx by' = false) ∧
    (decide (ax = cx ∧ ay = cy ∧ bx = dx ∧ by' = dy) = false → sB ax ay bx by' cx cy dx dy = !sB cx cy dx dy ax ay bx by') := by
  obtain ⟨h3, h4⟩ := flat ab h1 h2
  have e1 : oriA 0 = 210 := rfl
  have k : ∀ x y : Int, decide (x < y) = true ∨ decide (x < y) = false := fun x y => by cases decide (x < y) <;> simp
  show (_ → sC _ _ _ _ _ _ _ _ _ _ _ _ = _ ∧ sC _ _ _ _ _ _ _ _ _ _ _ _ = _) ∧ (_ → sC _ _ _ _ _ _ _ _ _ _ _ _ = !sC _ _ _ _ _ _ _ _ _ _ _ _)
  rw [h1, h2, h3, h4, e1]
  unfold sC
  simp only [if_true]
  constructor
  · intro q
    have q := of_decide_eq_true q
    obtain ⟨rfl, rfl, rfl, rfl⟩ := q
    simp
  · intro q
    have q := of_decide_eq_false q
    by_cases g1 : ay = cy
    · rw [if_pos g1, if_pos g1.symm]
      by_cases g2 : ax = cx
      · rw [if_pos g2, if_pos g2.symm]
        by_cases g3 : by' = dy
        · rw [if_pos g3, if_pos g3.symm, ← decide_not]
          exact decide_eq_decide.mpr (by omega)
        · rw [if_neg g3, if_neg (Ne.symm g3), ← decide_not]
          exact decide_eq_decide.mpr (by omega)
      · rw [if_neg g2, if_neg (Ne.symm g2), ← decide_not]
        exact decide_eq_decide.mpr (by omega)
    · rw [if_neg g1, if_neg (Ne.symm g1), ← decide_not]
      exact decide_eq_decide.mpr (by omega)
theorem cross_a (ax ay bx by' : Int) : crossI ax ay bx by' ax ay = 0 := by grind
theorem cross_b (ax ay bx by' : Int) : crossI ax ay bx by' bx by' = 0 := by grind
def bO (p n : Bool) : Addr := if n then (if p then 210 else 207) else 213
def bS (p n : Bool) : Int := if n then (if p then 0 else -1) else 1
theorem oriA_b (v : Int) : oriA v = bO (decide (0 ≤ v)) (decide (v ≤ 0)) := by
  rcases oriA_cases v with ⟨a, b, -⟩ | ⟨a, b, -⟩ | ⟨a, b, -⟩
  · rw [b, decide_eq_false (show ¬ v ≤ 0 by omega)]; rfl
  · rw [b, decide_eq_true (show v ≤ 0 by omega), decide_eq_false (show ¬ 0 ≤ v by omega)]; rfl
  · rw [b, decide_eq_true (show v ≤ 0 by omega), decide_eq_true (show 0 ≤ v by omega)]; rfl
theorem sgI_b (v : Int) : sgI v = bS (decide (0 ≤ v)) (decide (v ≤ 0)) := by
  rcases oriA_cases v with ⟨a, -, b⟩ | ⟨a, -, b⟩ | ⟨a, -, b⟩
  · rw [b, decide_eq_false (show ¬ v ≤ 0 by omega)]; rfl
  · rw [b, decide_eq_true (show v ≤ 0 by omega), decide_eq_false (show ¬ 0 ≤ v by omega)]; rfl
  · rw [b, decide_eq_true (show v ≤ 0 by omega), decide_eq_true (show 0 ≤ v by omega)]; rfl
def bC (o1 o2 o3 o4 : Addr) : Bool := if o1 = o2 then decide (o1 = 213) else if o3 = o4 then decide (o3 = 207) else if o1 = 210 then decide (o2 = 213) else if o3 = 210 then decide (o4 = 207) else if o4 = 210 then decide (o3 = 207) else decide (o1 = 213)
theorem bC_sC {o1 o2 o3 o4 : Addr} {ax ay bx by' cx cy dx dy : Int} (h : ¬ (o1 = 210 ∧ o2 = 210)) : sC o1 o2 o3 o4 ax ay bx by' cx cy dx dy = bC o1 o2 o3 o4 := by
  unfold sC bC
  by_cases e : o1 = o2
  · rw [if_pos e, if_pos e, if_neg (fun z => h ⟨z, e ▸ z⟩)]
  · rw [if_neg e, if_neg e]
def tabH (p1 n1 p2 n2 p3 n3 p4 n4 mc : Bool) : Bool := (p1 || n1) && (p2 || n2) && (p3 || n3) && (p4 || n4) && !(p1 && n1 && p2 && n2) && (!(p3 && n3 && p4 && n4) || (p1 && n1 && p2 && n2)) && (!(p1 && n2 && p3 && n4) || (n1 && p2 && n3 && p4)) && (!(n1 && p2 && n3 && p4) || (p1 && n2 && p3 && n4)) &&
  (mc || ((!(p3 && p2 && p1) || (n3 && n1)) && (!(n3 && n2 && n1) || (p3 && p1)))) && (!mc || ((!(p1 && p4 && p3) || (n1 && n3)) && (!(n1 && n4 && n3) || (p1 && p3))))
def tabC (p1 n1 p2 n2 p3 n3 p4 n4 mc nd : Bool) : Bool :=
  let lo := lowC (bif mc then 0 else bS p3 n3) (bif mc then bS p1 n1 else 0) (bif nd then 0 else bS p4 n4) (bif nd then bS p2 n2 else 0)
  (bC (bO p1 n1) (bO p2 n2) (bO p3 n3) (bO p4 n4) == decide (lo > 0)) && (bC (bO p3 n3) (bO p4 n4) (bO p1 n1) (bO p2 n2) == decide (lo < 0))
theorem tab : ∀ p1 n1 p2 n2 p3 n3 p4 n4 mc nd : Bool, tabH p1 n1 p2 n2 p3 n3 p4 n4 mc = true → tabC p1 n1 p2 n2 p3 n3 p4 n4 mc nd = true := by decide +kernel
theorem sg_if (b : Bool) (v : Int) : sgI (if b = true then 0 else v) = bif b then 0 else sgI v := by cases b <;> rfl
theorem sg_if' (b : Bool) (v : Int) : sgI (if b = true then v else 0) = bif b then sgI v else 0 := by cases b <;> rfl
/-- the case table: signs of the four turns -/
theorem table {v1 v2 v3 v4 : Int} {ax ay bx by' cx cy dx dy : Int} (mc nd : Bool) (i0 : v1 - v2 + v3 - v4 = 0) (N : ¬ (v1 = 0 ∧ v2 = 0)) (Z : v3 = 0 → v4 = 0 → v1 = 0 ∧ v2 = 0)
    (hA : mc = false → (0 ≤ v3 → 0 ≤ v2 → 0 ≤ v1 → v3 = 0 ∧ v1 = 0) ∧ (v3 ≤ 0 → v2 ≤ 0 → v1 ≤ 0 → v3 = 0 ∧ v1 = 0))
    (hC : mc = true → (0 ≤ v1 → 0 ≤ v4 → 0 ≤ v3 → v1 = 0 ∧ v3 = 0) ∧ (v1 ≤ 0 → v4 ≤ 0 → v3 ≤ 0 → v1 = 0 ∧ v3 = 0)) :
    let lo := lowC (sgI (if mc = true then 0 else v3)) (sgI (if mc = true then v1 else 0)) (sgI (if nd = true then 0 else v4)) (sgI (if nd = true then v2 else 0))
    sC (oriA v1) (oriA v2) (oriA v3) (oriA v4) ax ay bx by' cx cy dx dy = decide (lo > 0) ∧ sC (oriA v3) (oriA v4) (oriA v1) (oriA v2) cx cy dx dy ax ay bx by' = decide (lo < 0) := by
  have z : ∀ v : Int, oriA v = 210 → v = 0 := fun v h => by
    rcases oriA_cases v with ⟨_, b, _⟩ | ⟨_, b, _⟩ | ⟨a, _, _⟩
    · rw [b] at h; cases h
    · rw [b] at h; cases h
    · exact a
  have H : tabH (decide (0 ≤ v1)) (decide (v1 ≤ 0)) (decide (0 ≤ v2)) (decide (v2 ≤ 0)) (decide (0 ≤ v3)) (decide (v3 ≤ 0)) (decide (0 ≤ v4)) (decide (v4 ≤ 0)) mc = true := by
    unfold tabH
    cases mc with
    | false =>
      obtain ⟨h1, h2⟩ := hA rfl
      simp only [Bool.and_eq_true, Bool.or_eq_true, Bool.not_eq_true', Bool.and_eq_false_iff, decide_eq_true_eq, decide_eq_false_iff_not, Bool.not_false, Bool.true_or, Bool.false_or, and_true]
      refine ⟨⟨⟨⟨⟨⟨⟨⟨?_, ?_⟩, ?_⟩, ?_⟩, ?_⟩, ?_⟩, ?_⟩, ?_⟩, ?_, ?_⟩ <;> omega
    | true =>
      obtain ⟨h1, h2⟩ := hC rfl
      simp only [Bool.and_eq_true, Bool.or_eq_true, Bool.not_eq_true', Bool.and_eq_false_iff, decide_eq_true_eq, decide_eq_false_iff_not, Bool.not_true, Bool.true_or, Bool.false_or, and_true]
      refine ⟨⟨⟨⟨⟨⟨⟨⟨?_, ?_⟩, ?_⟩, ?_⟩, ?_⟩, ?_⟩, ?_⟩, ?_⟩, ?_, ?_⟩ <;> omega
  have C := tab _ _ _ _ _ _ _ _ mc nd H
  unfold tabC at C
  simp only [Bool.and_eq_true, beq_iff_eq] at C
  rw [bC_sC (fun q => N ⟨z _ q.1, z _ q.2⟩), bC_sC (fun q => N (Z (z _ q.1) (z _ q.2))), sg_if, sg_if', sg_if, sg_if', oriA_b v1, oriA_b v2, oriA_b v3, oriA_b v4, sgI_b v1, sgI_b v2, sgI_b v3, sgI_b v4]
  exact C
/-- the answers of the sweep line's keys where both pieces stand over the same stretch -/
theorem line_lower {ax ay bx by' cx cy dx dy : Int} (b1 : -100 ≤ ay ∧ ay ≤ 100) (b2 : -100 ≤ by' ∧ by' ≤ 100) (b3 : -100 ≤ cy ∧ cy ≤ 100) (b4 : -100 ≤ dy ∧ dy ≤ 100) (ab : lexB ax ay bx by' = true) (cd : lexB cx cy dx dy = true)
    (N : ¬ (crossI ax ay bx by' cx cy = 0 ∧ crossI ax ay bx by' dx dy = 0)) (ov : lexB (mxX ax ay cx cy) (mxY ax ay cx cy) (mnX bx by' dx dy) (mnY bx by' dx dy) = true) :
    sB ax ay bx by' cx cy dx dy = decide (lowI ax ay bx by' cx cy dx dy > 0) ∧ sB cx cy dx dy ax ay bx by' = decide (lowI ax ay bx by' cx cy dx dy < 0) := by
  have q1 := lexB_t (x1 := ax) (x2 := cx) b1.1 b1.2 b3.1 b3.2
  have q2 := lexB_t (x1 := dx) (x2 := bx) b4.1 b4.2 b2.1 b2.2
  rw [lexB_t b1.1 b1.2 b2.1 b2.2, decide_eq_true_eq] at ab
  rw [lexB_t b3.1 b3.2 b4.1 b4.2, decide_eq_true_eq] at cd
  have i0 := id0 ax ay bx by' cx cy dx dy
  have iA := idA ax ay bx by' cx cy dx dy
  have iC := idC ax ay bx by' cx cy dx dy
  have Z : crossI cx cy dx dy ax ay = 0 → crossI cx cy dx dy bx by' = 0 → crossI ax ay bx by' cx cy = 0 ∧ crossI ax ay bx by' dx dy = 0 := fun h1 h2 => flat cd h1 h2
  have ov' : (if lexB ax ay cx cy = true then tI cx cy else tI ax ay) < (if lexB dx dy bx by' = true then tI dx dy else tI bx by') := by
    revert ov
    simp only [mxX, mxY, mnX, mnY]
    cases lexB ax ay cx cy <;> cases lexB dx dy bx by' <;> (simp only [if_true, Bool.false_eq_true, if_false]; intro ov; rw [lexB_t (by omega) (by omega) (by omega) (by omega), decide_eq_true_eq] at ov; exact ov)
  have T := table (v1 := crossI ax ay bx by' cx cy) (v2 := crossI ax ay bx by' dx dy) (v3 := crossI cx cy dx dy ax ay) (v4 := crossI cx cy dx dy bx by') (ax := ax) (ay := ay) (bx := bx) (by' := by') (cx := cx) (cy := cy) (dx := dx) (dy := dy)
    (lexB ax ay cx cy) (lexB dx dy bx by') i0 N Z (fun e => ?_) (fun e => ?_)
  · have e : lowI ax ay bx by' cx cy dx dy = lowC (sgI (if lexB ax ay cx cy = true then 0 else crossI cx cy dx dy ax ay)) (sgI (if lexB ax ay cx cy = true then crossI ax ay bx by' cx cy else 0)) (sgI (if lexB dx dy bx by' = true then 0 else crossI cx cy dx dy bx by')) (sgI (if lexB dx dy bx by' = true then crossI ax ay bx by' dx dy else 0)) := by
      cases e1 : lexB ax ay cx cy <;> cases e2 : lexB dx dy bx by' <;> simp only [lowI, mxX, mxY, mnX, mnY, e1, e2, if_true, Bool.false_eq_true, if_false, cross_a, cross_b]
    rw [e]; exact T
  · rw [e] at ov' q1
    have q1 := of_decide_eq_false q1.symm
    refine three iA (by omega) (by omega) ?_
    revert ov' q2
    cases lexB dx dy bx by' <;> simp <;> omega
  · rw [e] at ov' q1
    have q1 := of_decide_eq_true q1.symm
    refine three iC (by omega) (by omega) ?_
    revert ov' q2
    cases lexB dx dy bx by' <;> simp <;> omega
theorem lines_no {aw ax ay bx by' cx cy dx dy : Int} (b1 : -10 ≤ ay ∧ ay ≤ 10) (b2 : -10 ≤ by' ∧ by' ≤ 10) (b3 : -10 ≤ cy ∧ cy ≤ 10) (b4 : -10 ≤ dy ∧ dy ≤ 10) (ab : lexB ax ay bx by' = true) (cd : lexB cx cy dx dy = true) :
    (sgI (crossI ax ay bx by' cx cy) ≠ 0 → lexB (mxX ax ay cx cy) (mxY ax ay cx cy) (mnX bx by' dx dy) (mnY bx by' dx dy) = true →
      (sB (ax + aw) (ay - aw) (bx + aw) (by' - aw) (cx + aw) (cy - aw) (dx + aw) (dy - aw) == decide (0 < lowI ax ay bx by' cx cy dx dy) && sB (cx + aw) (cy - aw) (dx + aw) (dy - aw) (ax + aw) (ay - aw) (bx + aw) (by' - aw) == decide (lowI ax ay bx by' cx cy dx dy < 0)) = false → False) ∧
    (sgI (crossI ax ay bx by' dx dy) ≠ 0 → lexB (mxX ax ay cx cy) (mxY ax ay cx cy) (mnX bx by' dx dy) (mnY bx by' dx dy) = true →
      (sB (ax + aw) (ay - aw) (bx + aw) (by' - aw) (cx + aw) (cy - aw) (dx + aw) (dy - aw) == decide (0 < lowI ax ay bx by' cx cy dx dy) && sB (cx + aw) (cy - aw) (dx + aw) (dy - aw) (ax + aw) (ay - aw) (bx + aw) (by' - aw) == decide (lowI ax ay bx by' cx cy dx dy < 0)) = false → False) := by
  have k : ¬ (crossI ax ay bx by' cx cy = 0 ∧ crossI ax ay bx by' dx dy = 0) → lexB (mxX ax ay cx cy) (mxY ax ay cx cy) (mnX bx by' dx dy) (mnY bx by' dx dy) = true →
      (sB (ax + aw) (ay - aw) (bx + aw) (by' - aw) (cx + aw) (cy - aw) (dx + aw) (dy - aw) == decide (0 < lowI ax ay bx by' cx cy dx dy) && sB (cx + aw) (cy - aw) (dx + aw) (dy - aw) (ax + aw) (ay - aw) (bx + aw) (by' - aw) == decide (lowI ax ay bx by' cx cy dx dy < 0)) = false → False := by
    intro N ov e
    rw [sB_shift, sB_shift] at e
    have h := line_lower (by omega) (by omega) (by omega) (by omega) ab cd N ov
    rw [h.1, h.2] at e
    simp at e
  exact ⟨fun h => k fun z => h (by rw [z.1]; rfl), fun h => k fun z => h (by rw [z.2]; rfl)⟩
theorem lines_flat {aw ax ay bx by' cx cy dx dy : Int} (b1 : -10 ≤ ay ∧ ay ≤ 10) (b2 : -10 ≤ by' ∧ by' ≤ 10) (b3 : -10 ≤ cy ∧ cy ≤ 10) (b4 : -10 ≤ dy ∧ dy ≤ 10) (ab : lexB ax ay bx by' = true) (cd : lexB cx cy dx dy = true)
    (h1 : sgI (crossI ax ay bx by' cx cy) = 0) (h2 : sgI (crossI ax ay bx by' dx dy) = 0) :
    (decide (ax = cx ∧ ay = cy ∧ bx = dx ∧ by' = dy) = true → sB (ax + aw) (ay - aw) (bx + aw) (by' - aw) (cx + aw) (cy - aw) (dx + aw) (dy - aw) = false ∧ sB (cx + aw) (cy - aw) (dx + aw) (dy - aw) (ax + aw) (ay - aw) (bx + aw) (by' - aw) = false) ∧
    (decide (ax = cx ∧ ay = cy ∧ bx = dx ∧ by' = dy) = false → sB (ax + aw) (ay - aw) (bx + aw) (by' - aw) (cx + aw) (cy - aw) (dx + aw) (dy - aw) = !sB (cx + aw) (cy - aw) (dx + aw) (dy - aw) (ax + aw) (ay - aw) (bx + aw) (by' - aw)) := by
  rw [sB_shift, sB_shift]
  rw [lexB_t (by omega) (by omega) (by omega) (by omega), decide_eq_true_eq] at ab cd
  exact line_flat ab cd (sgI_0 h1) (sgI_0 h2)
theorem lines_eq {aw ax ay bx by' cx cy dx dy : Int} (b1 : -10 ≤ ay ∧ ay ≤ 10) (b2 : -10 ≤ by' ∧ by' ≤ 10) (b3 : -10 ≤ cy ∧ cy ≤ 10) (b4 : -10 ≤ dy ∧ dy ≤ 10) (ab : lexB ax ay bx by' = true) (cd : lexB cx cy dx dy = true) :
    (sgI (crossI ax ay bx by' cx cy) = 0 → sgI (crossI ax ay bx by' dx dy) = 0 → (ax = cx ∧ ay = cy ∧ bx = dx ∧ by' = dy) →
      (false == sB (ax + aw) (ay - aw) (bx + aw) (by' - aw) (cx + aw) (cy - aw) (dx + aw) (dy - aw) && false == sB (cx + aw) (cy - aw) (dx + aw) (dy - aw) (ax + aw) (ay - aw) (bx + aw) (by' - aw)) = false → False) ∧
    (sgI (crossI ax ay bx by' cx cy) = 0 → sgI (crossI ax ay bx by' dx dy) = 0 → ¬ (ax = cx ∧ ay = cy ∧ bx = dx ∧ by' = dy) →
      (true == sB (ax + aw) (ay - aw) (bx + aw) (by' - aw) (cx + aw) (cy - aw) (dx + aw) (dy - aw) && false == sB (cx + aw) (cy - aw) (dx + aw) (dy - aw) (ax + aw) (ay - aw) (bx + aw) (by' - aw) ||
        false == sB (ax + aw) (ay - aw) (bx + aw) (by' - aw) (cx + aw) (cy - aw) (dx + aw) (dy - aw) && true == sB (cx + aw) (cy - aw) (dx + aw) (dy - aw) (ax + aw) (ay - aw) (bx + aw) (by' - aw)) = false → False) := by
  constructor
  · intro h1 h2 q e
    have h := (lines_flat (aw := aw) b1 b2 b3 b4 ab cd h1 h2).1 (decide_eq_true q)
    rw [h.1, h.2] at e
    simp at e
  · intro h1 h2 q e
    have h := (lines_flat (aw := aw) b1 b2 b3 b4 ab cd h1 h2).2 (decide_eq_false q)
    rw [h] at e
    revert e
    cases sB (cx + aw) (cy - aw) (dx + aw) (dy - aw) (ax + aw) (ay - aw) (bx + aw) (by' - aw) <;> simp

theorem IsSK.cons {news : List (Addr × Obj)} {q : Addr × Obj} {x ea oa : Addr} {ev : Int} (P : IsSK news x ea oa ev) : IsSK (q :: news) x ea oa ev := by
  obtain ⟨dx, t1, t2, t3, t4, te, h1, h2, h3, h4, q', c, m, n, r⟩ := P
  exact ⟨dx, t1, t2, t3, t4, te, h1, h2, h3, h4, q', c, .tail _ m, .tail _ n, .tail _ r⟩
/-- one piece: its key, its ends' points, the list of its ends -/
inductive LPc (news : List (Addr × Obj)) (kvs evs ovs pvs : Array Value) (ea oa : Addr) (aw : Int) (i : Nat) (ax ay bx by' : Int) : Prop
  | mk (k : Addr) (e : Int) (p r : Addr) (o : Int) (to : Tok) (l lo hi : Addr) (z0 : kvs[i]? = some (.ref k)) (z1 : IsSK news k ea oa e) (z2 : 0 ≤ e) (z3 : e < 1000) (z4 : evs[e.toNat]? = some (.ref p)) (z5 : IsPt news p (ax + aw) (ay - aw)) (z6 : ovs[e.toNat]? = some (.int o to)) (z7 : 0 ≤ o) (z8 : o < 1000) (z9 : evs[o.toNat]? = some (.ref r)) (z10 : IsPt news r (bx + aw) (by' - aw)) (z11 : pvs[i]? = some (.ref l)) (z12 : IsSeg news l lo hi) (z13 : IsTp news lo ax ay) (z14 : IsTp news hi bx by') (z15 : -10 ≤ ax ∧ ax ≤ 10 ∧ -10 ≤ ay ∧ ay ≤ 10 ∧ -10 ≤ bx ∧ bx ≤ 10 ∧ -10 ≤ by' ∧ by' ≤ 10 ∧ lexB ax ay bx by' = true) : LPc news kvs evs ovs pvs ea oa aw i ax ay bx by'
inductive LRel (news : List (Addr × Obj)) (ka pa : Addr) (n : Nat) : Prop
  | mk (ea oa : Addr) (evs ovs kvs pvs : Array Value) (ne no nk np : Nat) (aw : Int) (z0 : (ea, listOf evs ne) ∈ news) (z1 : (oa, listOf ovs no) ∈ news) (z2 : (ka, listOf kvs nk) ∈ news) (z3 : (pa, listOf pvs np) ∈ news) (z4 : pvs.size = n) (z5 : n < 1000) (z6 : ∀ i, i < n → ∃ ax ay bx by', LPc news kvs evs ovs pvs ea oa aw i ax ay bx by') : LRel news ka pa n
theorem dAl {a b : Int} (w : Int) (h2 : a ≤ 10) (h3 : -10 ≤ b) : -100 ≤ b + w - (a + w) := by omega
theorem dAr {a b : Int} (w : Int) (h1 : -10 ≤ a) (h4 : b ≤ 10) : b + w - (a + w) ≤ 100 := by omega
theorem dBl {a b : Int} (w : Int) (h2 : a ≤ 10) (h3 : -10 ≤ b) : -100 ≤ b - w - (a - w) := by omega
theorem dBr {a b : Int} (w : Int) (h1 : -10 ≤ a) (h4 : b ≤ 10) : b - w - (a - w) ≤ 100 := by omega
section
variable {w : World} {p : Program} {loose : List Str} {mean : ExcName → Option Value} {mg mb : Str → Option Value} {news : List (Addr × Obj)} {dp un : Nat} {gd : Option (List Code)} {cn : Str} {cs : Scope} {a : Addr} {ccd : Value} {cl : List (Str × Addr)} {outer : List Env} {A₀ : Around} {base h₀ : Heap} {L : Addr} {m : Str → Option Value} {s : Shared} {Q E : Value → Shared → Prop}
end

theorem IsTp.mk' {news : List (Addr × Obj)} {a : Addr} {x y : Int} {tx ty : Tok} (h : (a, tpObj x y tx ty) ∈ news) (b1 : -100 ≤ x ∧ x ≤ 100) (b2 : -100 ≤ y ∧ y ≤ 100) : IsTp news a x y := ⟨⟨tx, ty, h⟩, b1, b2⟩
theorem News.pick {h₀ h : Heap} {L : Addr} {q : Addr × Obj} {A B : List (Addr × Obj)} (N : News h₀ L h B) (hm : q ∈ B) (r : News h₀ L h A) : News h₀ L h (q :: A) := fun p hp => by
  rcases List.mem_cons.mp hp with rfl | hp
  · exact N _ hm
  · exact r _ hp
theorem cell25 (k : Int) : 0 ≤ k.fmod 25 ∧ k.fmod 25 < 25 := by
  rw [Int.fmod_eq_emod_of_nonneg k (by decide)]; omega
theorem cell5 {P : Int} (h : 0 ≤ P ∧ P < 25) : 0 ≤ P.fmod 5 ∧ P.fmod 5 ≤ 4 ∧ 0 ≤ P.fdiv 5 ∧ P.fdiv 5 ≤ 4 ∧ P = 5 * P.fdiv 5 + P.fmod 5 := by
  rw [Int.fmod_eq_emod_of_nonneg P (by decide), Int.fdiv_eq_ediv_of_nonneg P (by decide)]; omega
theorem cell_next {P : Int} (h : 0 ≤ P ∧ P < 25) : (P + 1).fmod 25 ≠ P := by
  rw [Int.fmod_eq_emod_of_nonneg _ (by decide)]; omega
theorem lexB_of {x y u v : Int} (h : x < u ∨ x = u ∧ y < v) : lexB x y u v = true := by
  simpa [lexB] using h
theorem lo10 {x : Int} (a : -8 ≤ x) : -10 ≤ x := Int.le_trans (by decide) a
theorem hi10 {x : Int} (a : x ≤ 8) : x ≤ 10 := Int.le_trans a (by decide)
structure Grid4 (x y u w : Int) : Prop where
  b : -8 ≤ x ∧ x ≤ 8 ∧ -8 ≤ y ∧ y ≤ 8 ∧ -8 ≤ u ∧ u ≤ 8 ∧ -8 ≤ w ∧ w ≤ 8
  m : x % 4 = 0 ∧ y % 4 = 0 ∧ u % 4 = 0 ∧ w % 4 = 0
  lt : lexB x y u w = true
theorem cellv {P : Int} (h : 0 ≤ P ∧ P < 25) : (-8 ≤ 4 * P.fmod 5 - 8 ∧ 4 * P.fmod 5 - 8 ≤ 8 ∧ -8 ≤ 4 * P.fdiv 5 - 8 ∧ 4 * P.fdiv 5 - 8 ≤ 8) ∧ (4 * P.fmod 5 - 8) % 4 = 0 ∧ (4 * P.fdiv 5 - 8) % 4 = 0 := by
  have c := cell5 h
  omega
theorem grid_of {P R : Int} (hp : 0 ≤ P ∧ P < 25) (hq : 0 ≤ R ∧ R < 25) (h : 4 * P.fmod 5 - 8 < 4 * R.fmod 5 - 8 ∨ 4 * P.fmod 5 - 8 = 4 * R.fmod 5 - 8 ∧ 4 * P.fdiv 5 - 8 < 4 * R.fdiv 5 - 8) : Grid4 (4 * P.fmod 5 - 8) (4 * P.fdiv 5 - 8) (4 * R.fmod 5 - 8) (4 * R.fdiv 5 - 8) :=
  let p := cellv hp
  let q := cellv hq
  ⟨⟨p.1.1, p.1.2.1, p.1.2.2.1, p.1.2.2.2, q.1.1, q.1.2.1, q.1.2.2.1, q.1.2.2.2⟩, ⟨p.2.1, p.2.2, q.2.1, q.2.2⟩, lexB_of h⟩
theorem grid2 {P R : Int} (hp : 0 ≤ P ∧ P < 25) (hq : 0 ≤ R ∧ R < 25) (e : 4 * R.fmod 5 - 8 = 4 * P.fmod 5 - 8) (l : 4 * R.fdiv 5 - 8 < 4 * P.fdiv 5 - 8) : Grid4 (4 * R.fmod 5 - 8) (4 * R.fdiv 5 - 8) (4 * P.fmod 5 - 8) (4 * P.fdiv 5 - 8) := grid_of hq hp (.inr ⟨e, l⟩)
theorem grid3 {P R : Int} (hp : 0 ≤ P ∧ P < 25) (hq : 0 ≤ R ∧ R < 25) (e : 4 * R.fmod 5 - 8 = 4 * P.fmod 5 - 8) (n : ¬ 4 * R.fdiv 5 - 8 = 4 * P.fdiv 5 - 8) (l : 4 * P.fdiv 5 - 8 ≤ 4 * R.fdiv 5 - 8) : Grid4 (4 * P.fmod 5 - 8) (4 * P.fdiv 5 - 8) (4 * R.fmod 5 - 8) (4 * R.fdiv 5 - 8) := grid_of hp hq (.inr ⟨e.symm, by omega⟩)
theorem grid4 {P R : Int} (hp : 0 ≤ P ∧ P < 25) (hq : 0 ≤ R ∧ R < 25) (l : 4 * R.fmod 5 - 8 < 4 * P.fmod 5 - 8) : Grid4 (4 * R.fmod 5 - 8) (4 * R.fdiv 5 - 8) (4 * P.fmod 5 - 8) (4 * P.fdiv 5 - 8) := grid_of hq hp (.inl l)
theorem grid5 {P R : Int} (hp : 0 ≤ P ∧ P < 25) (hq : 0 ≤ R ∧ R < 25) (n : ¬ 4 * R.fmod 5 - 8 = 4 * P.fmod 5 - 8) (l : 4 * P.fmod 5 - 8 ≤ 4 * R.fmod 5 - 8) : Grid4 (4 * P.fmod 5 - 8) (4 * P.fdiv 5 - 8) (4 * R.fmod 5 - 8) (4 * R.fdiv 5 - 8) := grid_of hp hq (.inl (by omega))
theorem cell_abs {P R : Int} (hp : 0 ≤ P ∧ P < 25) (hq : 0 ≤ R ∧ R < 25) (n : ¬ P = R) (e : 4 * R.fmod 5 - 8 = 4 * P.fmod 5 - 8) (f : 4 * R.fdiv 5 - 8 = 4 * P.fdiv 5 - 8) : False := by
  have c1 := (cell5 hp).2.2.2.2
  have c2 := (cell5 hq).2.2.2.2
  omega
theorem cell_abs1 {P R : Int} (hp : 0 ≤ P ∧ P < 25) (hq : 0 ≤ R ∧ R < 25) (n : P = R) (e : 4 * ((R + 1).fmod 25).fmod 5 - 8 = 4 * P.fmod 5 - 8) (f : 4 * ((R + 1).fmod 25).fdiv 5 - 8 = 4 * P.fdiv 5 - 8) : False :=
  cell_abs hp (cell25 (R + 1)) (fun q => cell_next hq (q.symm.trans n)) e f
section
variable {w : World} {p : Program} {loose : List Str} {mean : ExcName → Option Value} {mg mb : Str → Option Value} {news : List (Addr × Obj)} {dp un : Nat} {gd : Option (List Code)} {cn : Str} {cs : Scope} {a : Addr} {ccd : Value} {cl : List (Str × Addr)} {outer : List Env} {A₀ : Around} {base h₀ : Heap} {L : Addr} {m : Str → Option Value} {s : Shared} {Q E : Value → Shared → Prop}
end

def newIn (K : Frag) (C : Addr) : Bool := match K.lookup C with
  | some ⟨_, _, .cls cd, sl⟩ => cd.mro == [.ref C, .type "tuple", .type "object"] && cd.bases == [.type "tuple"] && !cd.hasDel && !cd.abstract && (sl.toList[4]?).join == some .none
  | _ => false
structure NewIn (M : Model) (h : Heap) (C : Addr) : Prop where
  obj : ∃ oc od cd sl, h.get? C = some ⟨oc, od, .cls cd, sl⟩ ∧ cd.hasDel = false ∧ cd.abstract = false ∧ cd.mro = [.ref C, .type "tuple", .type "object"]
  mro : Looks M h (mroOf (.ref C)) [.ref C, .type "tuple", .type "object"]
  made : Looks M h (Bind.madeBy (.ref C)) none
  base : Looks M h (Bind.staticBase (.ref C)) (.type "tuple")
  here : Looks M h (Bind.madeHere "tuple.__new__" (.ref C)) ()
  self : Looks M h (isSubtype (.ref C) (.ref C)) true
  sub : Looks M h (isSubtype (.ref C) (.type "tuple")) true
  top : Looks M h (isSubtype (.ref C) (.type "object")) true
theorem best_tuple : Builtin.Slots.bestBase [.type "tuple"] = pure (.type "tuple") := by
  unfold Builtin.Slots.bestBase Builtin.Slots.solid
  simp only [F.mro_tuple]
  first | rfl | kernel_rfl
theorem newIn_of {K : Frag} {M : Model} {h : Heap} (X : K.In h) {C : Addr} (e : newIn K C = true) : NewIn M h C := by
  unfold newIn at e
  split at e
  · rename_i oc od cd sl ho
    simp only [Bool.and_eq_true, Bool.not_eq_true', beq_iff_eq] at e
    obtain ⟨⟨⟨⟨e1, e2⟩, e3⟩, e5⟩, e4⟩ := e
    have hc : clsIn K C = some cd := by unfold clsIn; rw [ho]
    have hm : Looks M h (mroOf (.ref C)) [.ref C, .type "tuple", .type "object"] := e1 ▸ (looks_clsIn X hc).andThen .now
    have made : Looks M h (Bind.madeBy (.ref C)) none := by
      intro A Q E s k q
      unfold Bind.madeBy
      refine wpAny_bind (hm A _ E s k ?_)
      rw [List.forIn_cons]
      refine wpAny_bind (wpAny_bind (wpAny_bind (wpAny_bind (wpAny_loadPart (k _ _ (X _ _ ho)) (wpAny_pure ?_)))))
      dsimp only
      rw [← Array.getElem?_toList, e4]
      exact wpAny_pure (wpAny_pure (wpAny_pure q))
    have base : Looks M h (Bind.staticBase (.ref C)) (.type "tuple") := by
      intro A Q E s k q
      unfold Bind.staticBase
      refine wpAny_bind (hm A _ E s k ?_)
      rw [List.forIn_cons]
      refine wpAny_bind (wpAny_bind (wpAny_bind (made A _ E s k ?_)))
      simp only [Option.isSome_none, Bool.false_eq_true, if_false]
      refine wpAny_bind ((looks_clsIn X hc) A _ E s k ?_)
      rw [e2, best_tuple]
      simp only [pure_bind]
      refine wpAny_pure ?_
      dsimp only
      rw [List.forIn_cons]
      simp only [PySem.F.called_tuple.made, pure_bind, Option.isSome_some, if_true]
      exact wpAny_pure (wpAny_pure q)
    have sub : Looks M h (isSubtype (.ref C) (.type "tuple")) true := looks_mroIn X (by unfold mroIn; rw [hc, Option.bind_some, if_neg (by rw [e1]; simp), e1]; simp)
    have top : Looks M h (isSubtype (.ref C) (.type "object")) true := looks_mroIn X (by unfold mroIn; rw [hc, Option.bind_some, if_neg (by rw [e1]; simp), e1]; simp)
    have self : Looks M h (isSubtype (.ref C) (.ref C)) true := looks_mroIn X (by unfold mroIn; rw [hc, Option.bind_some, if_neg (by rw [e1]; simp), e1]; simp)
    have here : Looks M h (Bind.madeHere "tuple.__new__" (.ref C)) () := by
      intro A Q E s k q
      unfold Bind.madeHere
      refine wpAny_bind (base A _ E s k ?_)
      rw [PySem.F.called_tuple.made]
      simp only [pure_bind, Option.map_some, bne_self_eq_false, Bool.false_eq_true, if_false]
      exact wpAny_pure q
    exact ⟨⟨oc, od, cd, sl, X _ _ ho, e3, e5, e1⟩, hm, made, base, here, self, sub, top⟩
  · cases e
def InstBack (h₀ : Heap) (C : Addr) (Q : Value → Shared → Prop) (v : Value) (s' : Shared) : Prop := ∃ x o, v = .ref x ∧ s'.heap.get? x = some o ∧ o.cls = .ref C ∧ (∀ b o, h₀.get? b = some o → s'.heap.get? b = some o) ∧ Q v s'
section
variable {prog : Program} {w : World} {A : Around} {s : Shared} {K : Frag} {C : Addr} {h₀ : Heap} {L : Addr} {m : Str → Option Value} {news : List (Addr × Obj)} {E : Value → Shared → Prop}
theorem tup_new_sub {t : Addr} {items : Array Value} {Q : Value → Shared → Prop} (X : K.In h₀) (hn : newIn K C = true) (hi : findIn K (.ref C) "__init__" = some (some (.builtin "object.__init__"))) (F : Fr h₀ L s.heap m) (N : News h₀ L s.heap news)
    (ht : s.heap.IsTuple t items) (hsz : items.size ≤ 1000)
    (h : ∀ x dx h', Fr h₀ L h' m → News h₀ L h' ((x, ({ cls := .ref C, dict := some dx, data := .seq items } : Obj)) :: (dx, emptyDict) :: news) → (∀ p ∈ news, p.1 < dx) → dx < x → Q (.ref x) { s with heap := h' }) :
    wpAny (model prog w) A (call (.builtin "tuple.__new__") [.ref C, .ref t]) Q E s := by
  obtain ⟨hh, g, d, tk, os⟩ := s
  have X' := X.keeps F.keep
  have Y := newIn_of (M := model prog w) X' hn
  obtain ⟨⟨oc, od, cd, sl, hC, e1, e2, e4⟩, mro, made, base, here, self, sub, top⟩ := Y
  have hi' := looks_findIn (M := model prog w) X' hi
  refine wpAny_call ?_
  refine codeAny_call_builtin_code (Code.quiet_builtin _ (by decide +kernel)) ?_
  simp only [checkBuiltinCall, show builtinKind "tuple.__new__" = some .builtinFn by decide +kernel, show splitId "tuple.__new__" = some ("tuple", "__new__") by decide +kernel]
  have mt : Bind.madeBy (.type "tuple") = pure (some "tuple.__new__") := PySem.F.called_tuple.made
  have ity : Looks (model prog w) hh (isType (.ref C)) true := by
    intro A' Q' E' s' k q
    unfold isType
    exact wpAny_bind (wpAny_loadPart (k _ _ hC) (wpAny_pure q))
  simp only [beq_self_eq_true, if_true]
  refine wpAny_bind (ity.here ?_)
  simp only [Bool.not_true, Bool.false_eq_true, if_false]
  refine wpAny_bind (sub.here ?_)
  simp only [Bool.not_true, Bool.false_eq_true, if_false]
  refine wpAny_bind (base.here ?_)
  rw [mt]
  simp only [pure_bind, bne_self_eq_false, Bool.false_eq_true, if_false]
  refine wpAny_of_eq (a := ()) (by kernel_rfl) (codeAny_builtin PySem.F.entry_tuple_new ?_)
  have hl := ht
  obtain ⟨ot, hot, hoc, nt, hod⟩ := ht
  unfold Builtin.«tuple.__new__»
  simp only []
  refine wpAny_bind (ity.here ?_)
  simp only [Bool.not_true, Bool.false_eq_true, if_false]
  refine wpAny_bind (sub.here ?_)
  simp only [Bool.not_true, Bool.false_eq_true, if_false]
  refine wpAny_bind (here.here ?_)
  refine wpAny_bind (hi'.here ?_)
  have ne : (Value.ref C == Value.type "tuple") = false := by simp
  simp only [beq_self_eq_true, if_true, ne, Bool.false_eq_true, if_false]
  refine wpAny_bind (wpAny_of_eq (a := ()) (by kernel_rfl) ?_)
  refine wpAny_bind (wpAny_of_eq (a := ()) (by kernel_rfl) ?_)
  refine wpAny_bind (wpAny_collect_seq t (.inr rfl) hot hoc hod (fun h1 k1 => ?_) (by rw [sizeLine_eq]; omega))
  have hC1 := k1 _ _ hC
  have F1 := F.keeps k1
  have N1 : News h₀ L h1 news := fun p hp => ⟨k1 _ _ (N p hp).1, (N p hp).2⟩
  simp only [pure_bind]
  refine wpAny_bind (wpAny_alloc ?_)
  unfold newObj
  simp only [Array.toArray_toList]
  rw [if_neg (by rw [sizeLine_eq]; omega)]
  refine wpAny_bind ?_
  unfold newObjAsIs classHasDel
  refine wpAny_bind (wpAny_alloc (wpAny_bind (wpAny_bind (wpAny_load (Heap.get?_push_of_some _ (Heap.get?_push_of_some _ hC1)) (wpAny_pure ?_)))))
  rw [e1]
  refine wpAny_pure (wpAny_pure ?_)
  have N2 := (N1.push F1 emptyDict).push (F1.push _) ({ cls := .ref C, dict := some h1.objs.size, data := .seq items } : Obj)
  rw [Heap.size_push] at N2
  have z := h (h1.objs.size + 1) h1.objs.size _ ((F1.push _).push _) N2 (fun p hp => Heap.lt_size (N1 p hp).1) (Nat.lt_succ_self _)
  show Q (.ref (h1.push emptyDict).objs.size) _
  rw [Heap.size_push]; exact z
theorem make_new {v1 v2 : Value} {fN : Addr} {q : Addr} {Q : Value → Shared → Prop} {nrest : List Value} (X : K.In h₀) (hn : newIn K C = true) (hi : findIn K (.ref C) "__init__" = some (some (.builtin "object.__init__"))) (hcl : specialIn K (.ref C) "__call__" = some (some (.builtin "type.__call__")))
    (hty : instIn K (.ref C) (.type "type") = some true) (hm : typeIn K (.ref C) = some (.type "type")) (hr : readsIn K C (.type "type") = true) (hg : findCls K (.ref C) (.type "type") "__new__" = some (.get (.builtin "staticmethod.__get__") (.ref q) .none (.ref C)))
    (hq : recIn K q "staticmethod" = some (.ref fN :: nrest)) (F : Fr h₀ L s.heap m) (N : News h₀ L s.heap news)
    (h : wpAny (model prog w) (A.under (.builtin "type.__call__" ⟨[.ref C, v1, v2], []⟩)) (call (.ref fN) [.ref C, v1, v2])
      (InstBack h₀ C Q) E { s with toks := s.toks + 1 }) :
    wpAny (model prog w) A (call (.ref C) [v1, v2]) Q E s := by
  obtain ⟨hh, g, d, tk, os⟩ := s
  have X' := X.keeps F.keep
  have Y := newIn_of (M := model prog w) X' hn
  obtain ⟨⟨oc, od, cd, sl, hC, e1, e2, e4⟩, mro, made, base, here, self, sub, top⟩ := Y
  have call := looks_specialIn (M := model prog w) X' hcl
  have typ := looks_instIn (M := model prog w) X' hty
  refine wpAny_call (codeAny_of_tree ?_)
  show wpAny _ _ (callAny (.ref C) _) _ _ _
  refine nd_load hC ?_
  show wpAny _ _ (callAny.viaDunder (.ref C) _) _ _ _
  unfold callAny.viaDunder
  refine wpAny_bind (call.at ?_)
  dsimp only
  rw [tc_bind]
  refine wpAny_bind (wpAny_pure (wpAny_bind (wpAny_pure ?_)))
  refine wpAny_pure (a := Fin.again (.call (.builtin "type.__call__") ⟨[.ref C, v1, v2], []⟩)) (And.intro rfl ?_)
  refine codeAny_call_builtin_at (Code.quiet_builtin _ (by decide +kernel)) entry_typeCall (check_slot tc_kind tc_split typ (tc_args _ _ _) ?_)
  unfold Builtin.«type.__call__»
  have tyb : (Value.ref C == Value.type "type") = false := by simp
  simp only [tyb, Bool.false_eq_true, if_false]
  refine wpAny_bind (mro.here ?_)
  simp only [List.isEmpty_cons, Bool.false_eq_true, if_false]
  refine wpAny_bind (made.here ?_)
  simp only []
  refine wpAny_bind (cls_sm (K := K) F X hm hr hg hq rfl ?_)
  refine wpAny_bind (wpAny_holding ?_)
  refine wpAny_mono h (fun v s' z => ?_) fun _ _ z => z
  obtain ⟨x, o, rfl, hx, hxc, keep, z⟩ := z
  have t1 : Looks (model prog w) s'.heap (typeOf (.ref x)) (.ref C) := hxc ▸ (Looks.ld hx).andThen .now
  have X2 := X.keeps keep
  obtain ⟨-, mro2, made2, base2, here2, self2, sub2, top2⟩ := newIn_of (M := model prog w) X2 hn
  have hi2 := looks_findIn (M := model prog w) X2 hi
  obtain ⟨hh', g', d', tk', os'⟩ := s'
  unfold isInstance callSpecial? specialOf
  refine wpAny_bind (wpAny_bind (t1.here (self2.here ?_)))
  simp only [Bool.not_true, Bool.false_eq_true, if_false]
  refine wpAny_bind (wpAny_holding (wpAny_bind (wpAny_bind (t1.here (hi2.here ?_)))))
  simp only []
  refine wpAny_holding ?_
  rw [oi_bind]
  simp only [pure_bind]
  refine wpAny_bind (wpAny_call ?_)
  have t2 : Looks (model prog w) hh' (isInstance (.ref x) (.type "object")) true := t1.andThen top2
  refine codeAny_call_builtin oi_plain entry_oi (@check_slot (model prog w) _ _ _ "object.__init__" "object" "__init__" (.ref x) [v1, v2] [] _ oi_kind oi_split t2 (by unfold argsOk; kernel_rfl) ?_)
  unfold Builtin.«object.__init__»
  simp only [List.isEmpty_cons, Bool.not_false, Bool.true_or, if_true]
  refine wpAny_bind (t1.here (wpAny_bind (hi2.here ?_)))
  simp only []
  refine wpAny_bind (made2.here ?_)
  simp only [bne_self_eq_false, Bool.false_eq_true, if_false]
  rw [if_neg (by simp)]
  exact wpAny_pure (wpAny_pure (wpAny_pure z))
end

theorem lt2M {news : List (Addr × Obj)} {X : Prop} {d q : Addr} (h1 : X ∧ ∀ p ∈ news, p.1 < d) (h2 : d < q) : d < q ∧ ∀ p ∈ (d, edict) :: news, p.1 < q := ⟨h2, List.forall_mem_cons.mpr ⟨h2, fun p hp => Nat.lt_trans (h1.2 p hp) h2⟩⟩
theorem lt2of {news : List (Addr × Obj)} {d q : Addr} (h1 : ∀ p ∈ news, p.1 < d) (h2 : d < q) : ∀ p ∈ (d, edict) :: news, p.1 < q := List.forall_mem_cons.mpr ⟨h2, fun p hp => Nat.lt_trans (h1 p hp) h2⟩
section
variable {w : World} {p : Program} {loose : List Str} {mean : ExcName → Option Value} {mg mb : Str → Option Value} {news : List (Addr × Obj)} {dp un : Nat} {gd : Option (List Code)} {cn : Str} {cs : Scope} {a : Addr} {ccd : Value} {cl : List (Str × Addr)} {outer : List Env} {A₀ : Around} {base h₀ : Heap} {L : Addr} {m : Str → Option Value} {s : Shared} {Q E : Value → Shared → Prop}
end

section
variable {M : Model} {A : Around} {E : Value → Shared → Prop} {env : Env} {Q : Flow → Shared → Prop}
theorem execs_app (l2 : List Stmt) : ∀ l1 : List Stmt, execs (l1 ++ l2) env = (execs l1 env >>= fun f => match f with | .next => execs l2 env | f => pure f)
  | [] => by rw [List.nil_append, execs_nil, pure_bind]
  | st :: l1 => by
    rw [List.cons_append, execs_cons, execs_cons, LawfulMonad.bind_assoc]
    refine bind_congr fun f => ?_
    cases f with
    | next => exact execs_app l2 l1
    | brk => rw [pure_bind]
    | cont => rw [pure_bind]
    | ret v => rw [pure_bind]
def NextInv (Inv : Shared → Prop) (f : Flow) (s : Shared) : Prop := f = .next ∧ Inv s
theorem NextInv.mk' {Inv : Shared → Prop} {s : Shared} (h : Inv s) : NextInv Inv .next s := ⟨rfl, h⟩
theorem cutN {l : List Stmt} {s : Shared} (k : Nat) (Inv : Shared → Prop) (h1 : wpAny M A (execs (l.take k) env) (NextInv Inv) E s) (h2 : ∀ s', Inv s' → wpAny M A (execs (l.drop k) env) Q E s') : wpAny M A (execs l env) Q E s := by
  rw [← List.take_append_drop k l, execs_app]
  refine wpAny_bind (wpAny_mono h1 (fun f s' h => ?_) fun _ _ h => h)
  obtain ⟨rfl, h⟩ := h
  exact h2 s' h
theorem store_any {x : Str} {v : Int} {t : Tok} {s : Shared} {Q : Unit → Shared → Prop} (h : ∀ v : Int, wpAny M A (storeName env x (.int v t)) Q E s) : wpAny M A (storeName env x (.int v t)) Q E s := h v
end

theorem fr_know1 {h₀ h : Heap} {L : Addr} {m : Str → Option Value} {x : Str} {v : Value} (F : Fr h₀ L h m) (e1 : m x = some v) : Fr h₀ L h (fun z => if z = x then some v else m z) := by
  have e : (fun z => if z = x then some v else m z) = m := by
    funext z
    by_cases h1 : z = x
    · rw [if_pos h1, h1, e1]
    · rw [if_neg h1]
  rw [e]; exact F
theorem ints_take2 {ws : List Value} {ns : List Int} (h : IntsAre ws (ns.take 2)) (h0 : 0 < ns.length) : (∃ a t, ws = [.int a t]) ∨ (∃ a t b u, ws = [.int a t, .int b u]) := by
  match ns, h0 with
  | [a], _ =>
    cases h with
    | cons n t r => cases r; exact .inl ⟨_, _, rfl⟩
  | a :: b :: r, _ =>
    cases h with
    | cons n t r =>
      cases r with
      | cons n' t' r' => 
        have : r' = r' := rfl
        simp only [List.take] at r'
        cases r'; exact .inr ⟨_, _, _, _, rfl⟩
/-- a piece as drawn or cut: an ordered pair of points of the grid -/
inductive SegOk (nw : List (Addr × Obj)) (v : Value) (x y u w : Int) : Prop
  | mk (l lo hi : Addr) (z0 : v = .ref l) (z1 : IsSeg nw l lo hi) (z2 : IsTp nw lo x y) (z3 : IsTp nw hi u w) : SegOk nw v x y u w
inductive S1 (h₀ : Heap) (L : Addr) (s₀ s : Shared) : Prop
  | mk (h : Heap) (tk : Nat) (m : Str → Option Value) (nw : List (Addr × Obj)) (c1 c2 c3 c4 : Obj) (fi : Int) (tf : Tok) (aw : Int) (ta : Tok) (v2 v3 v4 : Option Value) (pl : Addr) (pvs : Array Value) (np n : Nat) (z0 : s = { s₀ with heap := h, toks := tk }) (z1 : Fr h₀ L h m) (z2 : News h₀ L h ((pl, listOf pvs np) :: (L+1+1+1+1, c4) :: (L+1+1+1, c3) :: (L+1+1, c2) :: (L+1, c1) :: nw)) (z3 : c1.data = .cell (some (.int aw ta))) (z4 : c2.data = .cell v2) (z5 : c3.data = .cell v3) (z6 : c4.data = .cell v4) (z7 : m "first" = some (.int fi tf)) (z8 : m "pieces" = some (.ref pl)) (z9 : (∀ p ∈ nw, L+1+1+1+1 < p.1 ∧ p.1 < pl)) (z10 : L+1+1+1+1 < pl) (z11 : pvs.size = n) (z12 : (n = 2 ∨ n = 4)) (z13 : ∀ i, i < n → ∃ v x y u w, pvs[i]? = some v ∧ SegOk nw v x y u w ∧ Grid4 x y u w) : S1 h₀ L s₀ s
structure PcsIn (L pl : Addr) (all nw : List (Addr × Obj)) (vs : List Value) : Prop where
  sub : ∀ p ∈ nw, p ∈ all
  lt : ∀ p ∈ nw, L+1+1+1+1 < p.1 ∧ p.1 < pl
  seg : ∀ (i : Nat) v, vs[i]? = some v → ∃ x y u w, SegOk nw v x y u w ∧ Grid4 x y u w
theorem pcs_nil {L pl : Addr} {all : List (Addr × Obj)} : PcsIn L pl all [] [] := ⟨fun p hp => (nomatch hp), fun p hp => (nomatch hp), fun _ _ h => by cases h⟩
theorem SegOk.tail {nw : List (Addr × Obj)} {q : Addr × Obj} {v : Value} {x y u w : Int} (h : SegOk nw v x y u w) : SegOk (q :: nw) v x y u w := by
  obtain ⟨l, lo, hi, e, a, b, c⟩ := h
  exact ⟨l, lo, hi, e, a.cons, b.cons, c.cons⟩
theorem b100 {x : Int} (h : -8 ≤ x) (h' : x ≤ 8) : -100 ≤ x ∧ x ≤ 100 := ⟨Int.le_trans (by decide) h, Int.le_trans h' (by decide)⟩
theorem pcs_cons {L pl l a b n : Nat} {all nw : List (Addr × Obj)} {vs : List Value} {x y u w : Int} {p q r s : Tok} (ml : (l, listOf #[.ref a, .ref b] n) ∈ all) (ma : (a, tpObj x y p q) ∈ all) (mb : (b, tpObj u w r s) ∈ all) (g : Grid4 x y u w) (tl : L+1+1+1+1 < l ∧ l < pl) (ta : L+1+1+1+1 < a ∧ a < pl) (tb : L+1+1+1+1 < b ∧ b < pl) (R : PcsIn L pl all nw vs) :
    PcsIn L pl all ((l, listOf #[.ref a, .ref b] n) :: (a, tpObj x y p q) :: (b, tpObj u w r s) :: nw) (.ref l :: vs) := by
  refine ⟨List.forall_mem_cons.mpr ⟨ml, List.forall_mem_cons.mpr ⟨ma, List.forall_mem_cons.mpr ⟨mb, R.sub⟩⟩⟩, List.forall_mem_cons.mpr ⟨tl, List.forall_mem_cons.mpr ⟨ta, List.forall_mem_cons.mpr ⟨tb, R.lt⟩⟩⟩, fun i v h => ?_⟩
  match i, h with
  | 0, h =>
    cases h
    obtain ⟨⟨c1, c2, c3, c4, c5, c6, c7, c8⟩, -, -⟩ := id g
    exact ⟨x, y, u, w, ⟨l, a, b, rfl, ⟨n, .head _⟩, IsTp.mk' (tx := p) (ty := q) (.tail _ (.head _)) (b100 c1 c2) (b100 c3 c4), IsTp.mk' (tx := r) (ty := s) (.tail _ (.tail _ (.head _))) (b100 c5 c6) (b100 c7 c8)⟩, g⟩
  | i + 1, h =>
    obtain ⟨x', y', u', w', z, g'⟩ := R.seg i v h
    exact ⟨x', y', u', w', z.tail.tail.tail, g'⟩
theorem s1_gen {h₀ h : Heap} {L : Addr} {s₀ : Shared} {tk : Nat} {m : Str → Option Value} {all nw : List (Addr × Obj)} {c1 c2 c3 c4 : Obj} {fi aw : Int} {tf ta : Tok} {v2 v3 v4 : Option Value} {pl : Addr} {np n : Nat} {vs : List Value}
    (F : Fr h₀ L h m) (N : News h₀ L h all) (mp : (pl, listOf vs.toArray np) ∈ all) (k4 : (L+1+1+1+1, c4) ∈ all) (k3 : (L+1+1+1, c3) ∈ all) (k2 : (L+1+1, c2) ∈ all) (k1 : (L+1, c1) ∈ all) (d1 : c1.data = .cell (some (.int aw ta))) (d2 : c2.data = .cell v2) (d3 : c3.data = .cell v3) (d4 : c4.data = .cell v4) (e1 : m "first" = some (.int fi tf)) (e2 : m "pieces" = some (.ref pl)) (lt : L+1+1+1+1 < pl) (P : PcsIn L pl all nw vs) (z : vs.length = n) (hn : n = 2 ∨ n = 4) :
    S1 h₀ L s₀ { s₀ with heap := h, toks := tk } :=
  ⟨h, tk, m, nw, c1, c2, c3, c4, fi, tf, aw, ta, v2, v3, v4, pl, vs.toArray, np, n, rfl, F, News.pick N mp (News.pick N k4 (News.pick N k3 (News.pick N k2 (News.pick N k1 fun p hp => N p (P.sub p hp))))), d1, d2, d3, d4, e1, e2, P.lt, lt, by simpa using z, hn, fun i hi => by
    obtain ⟨x, y, u, w, a, b⟩ := P.seg i (vs[i]'(z.symm ▸ hi)) (List.getElem?_eq_getElem _)
    exact ⟨_, x, y, u, w, by simp, a, b⟩⟩

theorem setL_of : ∀ {l : List Value} {k : Nat} {v : Value}, k < l.length → ki_setL l k v = some (l.set k v)
  | [], _, _, h => absurd h (Nat.not_lt_zero _)
  | _ :: _, 0, _, _ => rfl
  | x :: r, k + 1, v, h => by
    unfold ki_setL
    rw [setL_of (l := r) (k := k) (v := v) (by simpa using h)]; rfl
section
variable {prog : Program} {w : World} {A : Around} {E : Value → Shared → Prop} {s : Shared} {h₀ : Heap} {L : Addr} {m : Str → Option Value} {news news' : List (Addr × Obj)}
theorem set_news {D : Addr} {its : Array Value} {n : Nat} {k : Int} {t : Tok} {v : Value} {Q : Unit → Shared → Prop} (F : Fr h₀ L s.heap m) (N : News h₀ L s.heap news) (h0 : 0 ≤ k) (hfit : k < 2 ^ 63) (U : Upd D (listOf its n) (listOf (its.setIfInBounds k.toNat v) n) news news') (hk : k.toNat < its.size)
    (h : ∀ h', Fr h₀ L h' m → News h₀ L h' news' → Q () { s with heap := h' }) : wpAny (model prog w) A (setItem (.ref D) (.int k t) v) Q E s := by
  have e : (its.toList.set k.toNat v).toArray = its.setIfInBounds k.toNat v := by apply Array.toList_inj.mp; simp
  exact ki_set F N h0 hfit (setL_of (by simpa using hk)) (e ▸ U) h
end
def know : List (Str × Value) → (Str → Option Value) → Str → Option Value
  | [], m => m
  | (x, v) :: r, m => fun z => if z = x then some v else know r m z
theorem know_eq {m : Str → Option Value} : ∀ {l : List (Str × Value)}, (∀ p ∈ l, m p.1 = some p.2) → know l m = m
  | [], _ => rfl
  | (x, v) :: r, h => by
    funext z
    unfold know
    by_cases e : z = x
    · rw [if_pos e, e]; exact (h (x, v) (.head _)).symm
    · rw [if_neg e, know_eq fun p hp => h p (.tail _ hp)]
theorem fr_know {h₀ h : Heap} {L : Addr} {m : Str → Option Value} (l : List (Str × Value)) (F : Fr h₀ L h m) (e : ∀ p ∈ l, m p.1 = some p.2) : Fr h₀ L h (know l m) := by rw [know_eq e]; exact F
theorem arr2 {α : Type} {a : Array α} (h : a.size = 2) : ∃ x y, a = #[x, y] := by
  obtain ⟨l⟩ := a
  match l, h with
  | [x, y], _ => exact ⟨x, y, rfl⟩
theorem arr4 {α : Type} {a : Array α} (h : a.size = 4) : ∃ x y z w, a = #[x, y, z, w] := by
  obtain ⟨l⟩ := a
  match l, h with
  | [x, y, z, w], _ => exact ⟨x, y, z, w, rfl⟩
inductive S2 (h₀ : Heap) (L : Addr) (s₀ s : Shared) : Prop
  | mk (h : Heap) (tk : Nat) (m : Str → Option Value) (nw : List (Addr × Obj)) (c1 c2 c3 c4 : Obj) (fi : Int) (tf : Tok) (aw : Int) (ta : Tok) (v3 v4 : Option Value) (pl : Addr) (pvs : Array Value) (np n : Nat) (oa : Addr) (ovs : Array Value) (no : Nat) (pa : Addr) (plv : Array Value) (npl : Nat) (la : Addr) (lvs : Array Value) (nl : Nat) (tm : Tok) (z0 : s = { s₀ with heap := h, toks := tk }) (z1 : Fr h₀ L h m) (z2 : News h₀ L h ((pl, listOf pvs np) :: (oa, listOf ovs no) :: (pa, listOf plv npl) :: (L+1+1+1+1, c4) :: (L+1+1+1, c3) :: (L+1+1, c2) :: (L+1, c1) :: nw)) (z3 : c1.data = .cell (some (.int aw ta))) (z4 : c2.data = .cell (some (.ref oa))) (z5 : c3.data = .cell v3) (z6 : c4.data = .cell v4) (z7 : m "first" = some (.int fi tf)) (z8 : m "pieces" = some (.ref pl)) (z9 : m "many" = some (.int (2 * (n : Int)) tm)) (z10 : m "places" = some (.ref pa)) (z11 : m "lefts" = some (.ref la)) (z12 : (la, listOf lvs nl) ∈ nw) (z13 : lvs.size = n) (z14 : (∀ i : Nat, i < n → ∃ t, lvs[i]? = some (.int (2 * (i : Int)) t))) (z15 : ovs.size = 2 * n) (z16 : plv.size = 2 * n) (z17 : (∀ p ∈ nw, p.1 ≠ pl)) (z18 : (∀ p ∈ nw, p.1 ≠ oa)) (z19 : (∀ p ∈ nw, p.1 ≠ pa)) (z20 : (∀ p ∈ nw, p.1 ≠ L+1+1+1+1)) (z21 : (∀ p ∈ nw, p.1 ≠ L+1+1+1)) (z22 : (∀ p ∈ nw, p.1 ≠ L+1+1)) (z23 : (∀ p ∈ nw, p.1 ≠ L+1)) (z24 : @LT.lt Nat _ (L+1+1+1+1) pl) (z25 : @LT.lt Nat _ pl pa) (z26 : @LT.lt Nat _ pa oa) (z27 : pvs.size = n) (z28 : (n = 2 ∨ n = 4)) (z29 : ∀ i, i < n → ∃ v x y u w, pvs[i]? = some v ∧ SegOk nw v x y u w ∧ Grid4 x y u w) : S2 h₀ L s₀ s
theorem s2_leaf {h₀ h : Heap} {L : Addr} {s₀ : Shared} {tk : Nat} {m : Str → Option Value} {all nw : List (Addr × Obj)} {c1 c2 c3 c4 : Obj} {fi aw : Int} {tf ta tm : Tok} {v3 v4 : Option Value} {pl oa pa la : Addr} {pvs ovs plv lvs : Array Value} {np no npl nl n : Nat}
    (F : Fr h₀ L h m) (N : News h₀ L h all) (m1 : (pl, listOf pvs np) ∈ all) (m2 : (oa, listOf ovs no) ∈ all) (m3 : (pa, listOf plv npl) ∈ all) (k4 : (L+1+1+1+1, c4) ∈ all) (k3 : (L+1+1+1, c3) ∈ all) (k2 : (L+1+1, c2) ∈ all) (k1 : (L+1, c1) ∈ all) (m5 : (la, listOf lvs nl) ∈ all) (mnw : News h₀ L h nw)
    (d1 : c1.data = .cell (some (.int aw ta))) (d2 : c2.data = .cell (some (.ref oa))) (d3 : c3.data = .cell v3) (d4 : c4.data = .cell v4)
    (e1 : m "first" = some (.int fi tf)) (e2 : m "pieces" = some (.ref pl)) (e3 : m "many" = some (.int (2 * (n : Int)) tm)) (e4 : m "places" = some (.ref pa)) (e5 : m "lefts" = some (.ref la))
    (z1 : lvs.size = n) (hl : ∀ i : Nat, i < n → ∃ t, lvs[i]? = some (.int (2 * (i : Int)) t)) (z2 : ovs.size = 2 * n) (z3 : plv.size = 2 * n) (nlt : ∀ p ∈ nw, L+1+1+1+1 < p.1 ∧ p.1 < pl)
    (l1 : @LT.lt Nat _ (L+1+1+1+1) pl) (l2 : @LT.lt Nat _ pl pa) (l3 : @LT.lt Nat _ pa oa) (l4 : @Ne Nat la pl ∧ @Ne Nat la oa ∧ @Ne Nat la pa ∧ @Ne Nat la (L+1+1+1+1) ∧ @Ne Nat la (L+1+1+1) ∧ @Ne Nat la (L+1+1) ∧ @Ne Nat la (L+1))
    (z4 : pvs.size = n) (hn : n = 2 ∨ n = 4) (hs : ∀ i, i < n → ∃ v x y u w, pvs[i]? = some v ∧ SegOk nw v x y u w ∧ Grid4 x y u w) : S2 h₀ L s₀ { s₀ with heap := h, toks := tk } := by
  refine ⟨h, tk, m, (la, listOf lvs nl) :: nw, c1, c2, c3, c4, fi, tf, aw, ta, v3, v4, pl, pvs, np, n, oa, ovs, no, pa, plv, npl, la, lvs, nl, tm, rfl, F, ?_, d1, d2, d3, d4, e1, e2, e3, e4, e5, .head _, z1, hl, z2, z3, ?_, ?_, ?_, ?_, ?_, ?_, ?_, l1, l2, l3, z4, hn, ?_⟩
  · exact News.pick N m1 (News.pick N m2 (News.pick N m3 (News.pick N k4 (News.pick N k3 (News.pick N k2 (News.pick N k1 (News.pick N m5 mnw)))))))
  · exact List.forall_mem_cons.mpr ⟨l4.1, fun p hp => Nat.ne_of_lt (nlt p hp).2⟩
  · exact List.forall_mem_cons.mpr ⟨l4.2.1, fun p hp => Nat.ne_of_lt (Nat.lt_trans (nlt p hp).2 (Nat.lt_trans l2 l3))⟩
  · exact List.forall_mem_cons.mpr ⟨l4.2.2.1, fun p hp => Nat.ne_of_lt (Nat.lt_trans (nlt p hp).2 l2)⟩
  · exact List.forall_mem_cons.mpr ⟨l4.2.2.2.1, fun p hp => Ne.symm (Nat.ne_of_lt (nlt p hp).1)⟩
  · exact List.forall_mem_cons.mpr ⟨l4.2.2.2.2.1, fun p hp => Ne.symm (Nat.ne_of_lt (Nat.lt_trans (Nat.lt_succ_self _) (nlt p hp).1))⟩
  · exact List.forall_mem_cons.mpr ⟨l4.2.2.2.2.2.1, fun p hp => Ne.symm (Nat.ne_of_lt (Nat.lt_trans (Nat.lt_trans (Nat.lt_succ_self _) (Nat.lt_succ_self _)) (nlt p hp).1))⟩
  · exact List.forall_mem_cons.mpr ⟨l4.2.2.2.2.2.2, fun p hp => Ne.symm (Nat.ne_of_lt (Nat.lt_trans (Nat.lt_trans (Nat.lt_trans (Nat.lt_succ_self _) (Nat.lt_succ_self _)) (Nat.lt_succ_self _)) (nlt p hp).1))⟩
  · intro i hi
    obtain ⟨v, x, y, u, w, a, ⟨l, lo, hi', e, b, c, d⟩, g⟩ := hs i hi
    exact ⟨v, x, y, u, w, a, ⟨l, lo, hi', e, b.cons, c.cons, d.cons⟩, g⟩

def rt (n k : Nat) : Nat := (2 * k + 2) % (2 * n) + 1
theorem rt_int (n k : Nat) : (2 * (k : Int) + 2).fmod (2 * (n : Int)) + 1 = ((rt n k : Nat) : Int) := by
  rw [Int.fmod_eq_emod_of_nonneg _ (by omega)]; unfold rt; push_cast; rfl
theorem rt_lt {n k : Nat} (h : 0 < n) : rt n k < 2 * n := by
  have h1 : (2 * k + 2) % (2 * n) < 2 * n := Nat.mod_lt _ (by omega)
  have h2 : ((2 * k + 2) % (2 * n)) % 2 = 0 := by rw [Nat.mod_mul_right_mod]; omega
  unfold rt; omega
theorem rt_odd (n k : Nat) : rt n k % 2 = 1 := by
  have h2 : ((2 * k + 2) % (2 * n)) % 2 = 0 := by rw [Nat.mod_mul_right_mod]; omega
  unfold rt; omega
theorem rt_eq {n k : Nat} (h : k < n) : rt n k = if k + 1 = n then 1 else 2 * k + 3 := by
  unfold rt
  by_cases e : k + 1 = n
  · rw [if_pos e, ← e, show 2 * k + 2 = 2 * (k + 1) by omega, Nat.mod_self]
  · rw [if_neg e, Nat.mod_eq_of_lt (by omega)]
theorem rt_inj {n i k : Nat} (hi : i < n) (hk : k < n) (h : rt n i = rt n k) : i = k := by
  rw [rt_eq hi, rt_eq hk] at h
  split at h <;> split at h <;> omega
theorem rt_onto {n e : Nat} (he : e < 2 * n) (ho : e % 2 = 1) : ∃ k, k < n ∧ rt n k = e := by
  by_cases h : e = 1
  · refine ⟨n - 1, by omega, ?_⟩
    rw [rt_eq (by omega), if_pos (by omega), h]
  · refine ⟨(e - 3) / 2, by omega, ?_⟩
    rw [rt_eq (by omega), if_neg (by omega)]; omega
structure Dis (nw : List (Addr × Obj)) (pl oa pa L : Addr) : Prop where
  a1 : ∀ p ∈ nw, p.1 ≠ pl
  a2 : ∀ p ∈ nw, p.1 ≠ oa
  a3 : ∀ p ∈ nw, p.1 ≠ pa
  a4 : ∀ p ∈ nw, p.1 ≠ L+1+1+1+1
  a5 : ∀ p ∈ nw, p.1 ≠ L+1+1+1
  a6 : ∀ p ∈ nw, p.1 ≠ L+1+1
  a7 : ∀ p ∈ nw, p.1 ≠ L+1
theorem Dis.cons {nw : List (Addr × Obj)} {pl oa pa L : Addr} {q : Addr × Obj} (D : Dis nw pl oa pa L) (h : @Ne Nat q.1 pl ∧ @Ne Nat q.1 oa ∧ @Ne Nat q.1 pa ∧ @Ne Nat q.1 (L+1+1+1+1) ∧ @Ne Nat q.1 (L+1+1+1) ∧ @Ne Nat q.1 (L+1+1) ∧ @Ne Nat q.1 (L+1)) : Dis (q :: nw) pl oa pa L :=
  ⟨List.forall_mem_cons.mpr ⟨h.1, D.a1⟩, List.forall_mem_cons.mpr ⟨h.2.1, D.a2⟩, List.forall_mem_cons.mpr ⟨h.2.2.1, D.a3⟩, List.forall_mem_cons.mpr ⟨h.2.2.2.1, D.a4⟩, List.forall_mem_cons.mpr ⟨h.2.2.2.2.1, D.a5⟩, List.forall_mem_cons.mpr ⟨h.2.2.2.2.2.1, D.a6⟩, List.forall_mem_cons.mpr ⟨h.2.2.2.2.2.2, D.a7⟩⟩
theorem SegOk.cons {nw : List (Addr × Obj)} {q : Addr × Obj} {v : Value} {x y u w : Int} (h : SegOk nw v x y u w) : SegOk (q :: nw) v x y u w := by
  obtain ⟨l, lo, hi', e, b, c, d⟩ := h
  exact ⟨l, lo, hi', e, b.cons, c.cons, d.cons⟩
inductive RowOk (nw : List (Addr × Obj)) (pvs plv ovs : Array Value) (n k : Nat) : Prop
  | mk (v : Value) (x y u w : Int) (t1 t2 : Addr) (ta tb : Tok) (z0 : pvs[k]? = some v) (z1 : SegOk nw v x y u w) (z2 : Grid4 x y u w) (z3 : plv[2 * k]? = some (.ref t1)) (z4 : IsPlN nw t1 x y 1 u w) (z5 : plv[rt n k]? = some (.ref t2)) (z6 : IsPlN nw t2 u w 0 x y) (z7 : ovs[2 * k]? = some (.int (rt n k : Nat) ta)) (z8 : ovs[rt n k]? = some (.int (2 * (k : Int)) tb)) : RowOk nw pvs plv ovs n k
theorem RowOk.cons {nw : List (Addr × Obj)} {q : Addr × Obj} {pvs plv ovs : Array Value} {n k : Nat} (h : RowOk nw pvs plv ovs n k) : RowOk (q :: nw) pvs plv ovs n k := by
  obtain ⟨v, x, y, u, w, t1, t2, ta, tb, a, b, c, d, e, f, g, i, j⟩ := h
  exact ⟨v, x, y, u, w, t1, t2, ta, tb, a, b.cons, c, d, e.cons, f, g.cons, i, j⟩
theorem row_turn {nw : List (Addr × Obj)} {pvs plv ovs : Array Value} {n k : Nat} {t1 t2 : Addr} {ta tb : Tok} {v : Value} {x y u w : Int} {a b a' b' : Nat} {io ie : Int} (hk : k < n) (z1 : plv.size = 2 * n) (z2 : ovs.size = 2 * n) (old : ∀ i, i < k → RowOk nw pvs plv ovs n i)
    (hv : pvs[k]? = some v) (hs : SegOk nw v x y u w) (hg : Grid4 x y u w) (p1 : IsPlN nw t1 x y 1 u w) (p2 : IsPlN nw t2 u w 0 x y) (ea : a = 2 * k) (eb : b = rt n k) (ea' : a' = 2 * k) (eb' : b' = rt n k) (eo : io = ((rt n k : Nat) : Int)) (ee : ie = 2 * (k : Int)) :
    ∀ i, i < k + 1 → RowOk nw pvs ((plv.setIfInBounds a (.ref t1)).setIfInBounds b (.ref t2)) ((ovs.setIfInBounds a' (.int io ta)).setIfInBounds b' (.int ie tb)) n i := by
  subst ea eb ea' eb' eo ee
  intro i hi
  have r1 := rt_lt (n := n) (k := k) (by omega)
  have r2 := rt_odd n k
  by_cases e : i = k
  · subst e
    refine ⟨v, x, y, u, w, t1, t2, ta, tb, hv, hs, hg, ?_, p1, ?_, p2, ?_, ?_⟩
    · rw [Array.getElem?_setIfInBounds, if_neg (by omega), Array.getElem?_setIfInBounds, if_pos rfl, if_pos (by omega)]
    · rw [Array.getElem?_setIfInBounds, if_pos rfl, Array.size_setIfInBounds, if_pos (by omega)]
    · rw [Array.getElem?_setIfInBounds, if_neg (by omega), Array.getElem?_setIfInBounds, if_pos rfl, if_pos (by omega)]
    · rw [Array.getElem?_setIfInBounds, if_pos rfl, Array.size_setIfInBounds, if_pos (by omega)]
  · have hi' : i < k := by omega
    obtain ⟨v', x', y', u', w', t1', t2', ta', tb', a, b, c, d, e', f, g, i', j⟩ := (old i hi')
    have r3 := rt_odd n i
    have r4 : rt n i ≠ rt n k := fun q => e (rt_inj (by omega) hk q)
    refine ⟨v', x', y', u', w', t1', t2', ta', tb', a, b, c, ?_, e', ?_, g, ?_, ?_⟩
    · rw [Array.getElem?_setIfInBounds, if_neg (by omega), Array.getElem?_setIfInBounds, if_neg (by omega)]; exact d
    · rw [Array.getElem?_setIfInBounds, if_neg (by omega), Array.getElem?_setIfInBounds, if_neg (by omega)]; exact f
    · rw [Array.getElem?_setIfInBounds, if_neg (by omega), Array.getElem?_setIfInBounds, if_neg (by omega)]; exact i'
    · rw [Array.getElem?_setIfInBounds, if_neg (by omega), Array.getElem?_setIfInBounds, if_neg (by omega)]; exact j
inductive J3 (nw : List (Addr × Obj)) (pl oa pa L : Addr) (pvs : Array Value) (np no npl n : Nat) (c1 c2 c3 c4 : Obj) (k : Nat) (news : List (Addr × Obj)) : Prop
  | mk (ovs plv : Array Value) (nw' : List (Addr × Obj)) (z0 : news = (pl, listOf pvs np) :: (oa, listOf ovs no) :: (pa, listOf plv npl) :: (L+1+1+1+1, c4) :: (L+1+1+1, c3) :: (L+1+1, c2) :: (L+1, c1) :: nw') (z1 : ovs.size = 2 * n) (z2 : plv.size = 2 * n) (z3 : (∀ p ∈ nw, p ∈ nw')) (z4 : Dis nw' pl oa pa L) (z5 : ∀ i, i < k → RowOk nw' pvs plv ovs n i) : J3 nw pl oa pa L pvs np no npl n c1 c2 c3 c4 k news
inductive S3 (h₀ : Heap) (L : Addr) (s₀ s : Shared) : Prop
  | mk (h : Heap) (tk : Nat) (m : Str → Option Value) (nw : List (Addr × Obj)) (c1 c2 c3 c4 : Obj) (fi : Int) (tf : Tok) (aw : Int) (ta : Tok) (v3 v4 : Option Value) (pl : Addr) (pvs : Array Value) (np n : Nat) (oa : Addr) (ovs : Array Value) (no : Nat) (pa : Addr) (plv : Array Value) (npl : Nat) (la : Addr) (lvs : Array Value) (nl : Nat) (tm : Tok) (z0 : s = { s₀ with heap := h, toks := tk }) (z1 : Fr h₀ L h m) (z2 : News h₀ L h ((pl, listOf pvs np) :: (oa, listOf ovs no) :: (pa, listOf plv npl) :: (L+1+1+1+1, c4) :: (L+1+1+1, c3) :: (L+1+1, c2) :: (L+1, c1) :: nw)) (z3 : c1.data = .cell (some (.int aw ta))) (z4 : c2.data = .cell (some (.ref oa))) (z5 : c3.data = .cell v3) (z6 : c4.data = .cell v4) (z7 : m "first" = some (.int fi tf)) (z8 : m "pieces" = some (.ref pl)) (z9 : m "many" = some (.int (2 * (n : Int)) tm)) (z10 : m "places" = some (.ref pa)) (z11 : m "lefts" = some (.ref la)) (z12 : (la, listOf lvs nl) ∈ nw) (z13 : lvs.size = n) (z14 : (∀ i : Nat, i < n → ∃ t, lvs[i]? = some (.int (2 * (i : Int)) t))) (z15 : ovs.size = 2 * n) (z16 : plv.size = 2 * n) (z17 : Dis nw pl oa pa L) (z18 : @LT.lt Nat _ (L+1+1+1+1) pl) (z19 : @LT.lt Nat _ pl pa) (z20 : @LT.lt Nat _ pa oa) (z21 : pvs.size = n) (z22 : (n = 2 ∨ n = 4)) (z23 : ∀ i, i < n → RowOk nw pvs plv ovs n i) : S3 h₀ L s₀ s
theorem IsSeg.sub {nw nw' : List (Addr × Obj)} {l lo hi : Addr} (s : ∀ p ∈ nw, p ∈ nw') (h : IsSeg nw l lo hi) : IsSeg nw' l lo hi := let ⟨n, m⟩ := h.ex; ⟨n, s _ m⟩
theorem IsTp.sub {nw nw' : List (Addr × Obj)} {a : Addr} {x y : Int} (s : ∀ p ∈ nw, p ∈ nw') (h : IsTp nw a x y) : IsTp nw' a x y := let ⟨tx, ty, m⟩ := h.ex; ⟨⟨tx, ty, s _ m⟩, h.bx, h.by_⟩
theorem SegOk.sub {nw nw' : List (Addr × Obj)} {v : Value} {x y u w : Int} (s : ∀ p ∈ nw, p ∈ nw') (h : SegOk nw v x y u w) : SegOk nw' v x y u w := by
  obtain ⟨l, lo, hi', e, b, c, d⟩ := h
  exact ⟨l, lo, hi', e, b.sub s, c.sub s, d.sub s⟩
theorem IsPlN.sub {nw nw' : List (Addr × Obj)} {a : Addr} {x y b u v : Int} (s : ∀ p ∈ nw, p ∈ nw') (P : IsPlN nw a x y b u v) : IsPlN nw' a x y b u v := by
  obtain ⟨lo, hi, tb, m, l, r⟩ := P
  exact ⟨lo, hi, tb, s _ m, l.sub s, r.sub s⟩
theorem RowOk.sub {nw nw' : List (Addr × Obj)} {pvs plv ovs : Array Value} {n k : Nat} (s : ∀ p ∈ nw, p ∈ nw') (h : RowOk nw pvs plv ovs n k) : RowOk nw' pvs plv ovs n k := by
  obtain ⟨v, x, y, u, w, t1, t2, ta, tb, a, b, c, d, e, f, g, i, j⟩ := h
  exact ⟨v, x, y, u, w, t1, t2, ta, tb, a, b.sub s, c, d, e.sub s, f, g.sub s, i, j⟩

section
variable {prog : Program} {w : World} {A : Around} {E : Value → Shared → Prop} {s : Shared} {h₀ : Heap} {L : Addr} {m : Str → Option Value} {env : Env}
theorem compRest_inv {elt : Expr} {x : Str} {scope : Scope} {cl : List (Str × Addr)} {S : List (Addr × Obj) → Prop} {P : Nat → Value → Prop} {Fin : List Value → List (Addr × Obj) → Prop} {n : Nat} {news : List (Addr × Obj)} (J : Nat → List Value → List (Addr × Obj) → Prop)
    (j0 : J 0 [] news)
    (step : ∀ i ys nw, i < n → ys.length = i → J i ys nw → ∀ v I oI C oC D m₂ h tk (E' : Value → Shared → Prop), P i v → LCg.NsObj oC m₂ → m₂ x = some v → Fr h₀ L h m → News h₀ L h ((I, oI) :: (C, oC) :: (D, LCg.lst ys) :: nw) → LCg.Off3 I C D nw → ((@Ne Nat I C) ∧ (@Ne Nat I D) ∧ (@Ne Nat C D)) →
      wpAny (model prog w) A (eval elt (compEnvC scope cl C env)) (LCg.CompEnd h₀ L m { s with heap := h, toks := tk } I oI C oC D (LCg.lst ys) S (fun y nw' => J (i + 1) (ys ++ [y]) nw')) E' { s with heap := h, toks := tk })
    (fin : ∀ ys nw, ys.length = n → J n ys nw → Fin ys nw) : LCg.CompRest prog w A h₀ L m env elt x scope cl s S P Fin n 0 [] news := by
  have go : ∀ k i ys nw, i + k = n → ys.length = i → J i ys nw → LCg.CompRest prog w A h₀ L m env elt x scope cl s S P Fin k i ys nw := by
    intro k
    induction k with
    | zero =>
      intro i ys nw e l j
      have e' : i = n := by omega
      exact LCg.CompRest.zero (fin ys nw (by omega) (e' ▸ j))
    | succ k ih =>
      intro i ys nw e l j
      refine LCg.CompRest.succ fun v I oI C oC D m₂ h tk E' a b c d e' f g => wpAny_mono (step i ys nw (by omega) l j v I oI C oC D m₂ h tk E' a b c d e' f g) (fun y s₂ q => ?_) fun _ _ q => q
      obtain ⟨h', tk', nw', e1, F', N', o', S', r⟩ := q
      exact ⟨h', tk', nw', e1, F', N', o', S', ih _ _ _ (by omega) (by simp [l]) r⟩
  exact go n 0 [] news (by omega) rfl j0
end
/-- the data of one event but for its key -/
inductive EvOk (nw : List (Addr × Obj)) (evs ovs pvs : Array Value) (aw : Int) (i : Nat) (x y u v : Int) : Prop
  | mk (p r pl : Addr) (o : Int) (to : Tok) (z0 : evs[i]? = some (.ref p)) (z1 : IsPt nw p (x + aw) (y - aw)) (z2 : ovs[i]? = some (.int o to)) (z3 : 0 ≤ o) (z4 : o < 1000) (z5 : evs[o.toNat]? = some (.ref r)) (z6 : IsPt nw r (u + aw) (v - aw)) (z7 : pvs[i]? = some (.ref pl)) (z8 : IsPlN nw pl x y (if i % 2 = 0 then 1 else 0) u v) : EvOk nw evs ovs pvs aw i x y u v
inductive UnOk (nw : List (Addr × Obj)) (evs ovs lvs qvs : Array Value) (ea oa : Addr) (aw : Int) (n j : Nat) : Prop
  | mk (lo hi l : Addr) (x y u w : Int) (p q key : Addr) (ta tb : Tok) (z0 : qvs[j]? = some (.ref l)) (z1 : IsSeg nw l lo hi) (z2 : IsTp nw lo x y) (z3 : IsTp nw hi u w) (z4 : Grid4 x y u w) (z5 : evs[2 * j]? = some (.ref p)) (z6 : IsPt nw p (x + aw) (y - aw)) (z7 : evs[rt n j]? = some (.ref q)) (z8 : IsPt nw q (u + aw) (w - aw)) (z9 : ovs[2 * j]? = some (.int (rt n j : Nat) ta)) (z10 : ovs[rt n j]? = some (.int (2 * (j : Int)) tb)) (z11 : lvs[j]? = some (.ref key)) (z12 : IsSK nw key ea oa (2 * (j : Int))) : UnOk nw evs ovs lvs qvs ea oa aw n j
/-- one piece: its key's event is twice its place -/
inductive LnOk (nw : List (Addr × Obj)) (kvs evs ovs pvs : Array Value) (ea oa : Addr) (aw : Int) (i : Nat) (ax ay bx by' : Int) : Prop
  | mk (k p r : Addr) (o : Nat) (to : Tok) (l lo hi : Addr) (z0 : kvs[i]? = some (.ref k)) (z1 : IsSK nw k ea oa (2 * (i : Int))) (z2 : evs[2 * i]? = some (.ref p)) (z3 : IsPt nw p (ax + aw) (ay - aw)) (z4 : ovs[2 * i]? = some (.int (o : Int) to)) (z5 : o < 1000) (z6 : evs[o]? = some (.ref r)) (z7 : IsPt nw r (bx + aw) (by' - aw)) (z8 : pvs[i]? = some (.ref l)) (z9 : IsSeg nw l lo hi) (z10 : IsTp nw lo ax ay) (z11 : IsTp nw hi bx by') (z12 : -10 ≤ ax ∧ ax ≤ 10 ∧ -10 ≤ ay ∧ ay ≤ 10 ∧ -10 ≤ bx ∧ bx ≤ 10 ∧ -10 ≤ by' ∧ by' ≤ 10 ∧ lexB ax ay bx by' = true) : LnOk nw kvs evs ovs pvs ea oa aw i ax ay bx by'
structure Core (nw : List (Addr × Obj)) (evs ovs plv lvs qvs : Array Value) (ea oa : Addr) (aw : Int) (n c k : Nat) : Prop where
  ze : evs.size = 2 * n + 2 * c
  zo : ovs.size = 2 * n + 2 * c
  zp : plv.size = 2 * n + 2 * c
  zl : lvs.size = n + c
  zq : qvs.size = n + c
  ev : ∀ i, i < 2 * n + 2 * c → ∃ x y u v, EvOk nw evs ovs plv aw i x y u v
  ln : ∀ i, i < n + c → ∃ ax ay bx by', LnOk nw lvs evs ovs qvs ea oa aw i ax ay bx by'
  un : ∀ j, k ≤ j → j < n → UnOk nw evs ovs lvs qvs ea oa aw n j
theorem IsPt.sub {nw nw' : List (Addr × Obj)} {a : Addr} {x y : Int} (s : ∀ p ∈ nw, p ∈ nw') (h : IsPt nw a x y) : IsPt nw' a x y := let ⟨d, tx, ty, m1, m2⟩ := h.ex; ⟨d, tx, ty, s _ m1, s _ m2⟩
theorem IsSK.sub {nw nw' : List (Addr × Obj)} {x ea oa : Addr} {ev : Int} (s : ∀ p ∈ nw, p ∈ nw') (P : IsSK nw x ea oa ev) : IsSK nw' x ea oa ev := by
  obtain ⟨dx, t1, t2, t3, t4, te, h1, h2, h3, h4, q', c, m, n, r⟩ := P
  exact ⟨dx, t1, t2, t3, t4, te, h1, h2, h3, h4, q', c, s _ m, s _ n, s _ r⟩
theorem IsQK.sub {nw nw' : List (Addr × Obj)} {x ea oa : Addr} {ev : Int} (s : ∀ p ∈ nw, p ∈ nw') (P : IsQK nw x ea oa ev) : IsQK nw' x ea oa ev := by
  obtain ⟨dx, t1, t2, t3, te, h1, h2, h3, m, n⟩ := P
  exact ⟨dx, t1, t2, t3, te, h1, h2, h3, s _ m, s _ n⟩
theorem Core.qrel {nw news : List (Addr × Obj)} {evs ovs plv lvs qvs kvs : Array Value} {ea oa ka pa : Addr} {aw : Int} {n c k ne no np nk : Nat} (K : Core nw evs ovs plv lvs qvs ea oa aw n c k) (s : ∀ p ∈ nw, p ∈ news) (mE : (ea, listOf evs ne) ∈ news) (mO : (oa, listOf ovs no) ∈ news) (mK : (ka, listOf kvs nk) ∈ news) (mP : (pa, listOf plv np) ∈ news)
    (zk : kvs.size = 2 * n + 2 * c) (hn : n < 100) (hc : c < 100) (hk : ∀ i : Nat, i < 2 * n + 2 * c → ∃ key, kvs[i]? = some (.ref key) ∧ IsQK nw key ea oa i) : QRel news ka pa (2 * n + 2 * c) := by
  refine ⟨ea, oa, evs, ovs, kvs, plv, ne, no, nk, np, aw, mE, mO, mK, mP, zk, by omega, fun i hi => ?_⟩
  obtain ⟨x, y, u, v, ⟨p, r, pl, o, to, a1, a2, a3, a4, a5, a6, a7, a8, a9⟩⟩ := K.ev i hi
  obtain ⟨key, b1, b2⟩ := hk i hi
  exact ⟨x, y, u, v, ⟨key, p, r, pl, o, to, b1, b2.sub s, a1, a2.sub s, a3, a4, a5, a6, a7.sub s, a8, a9.sub s⟩⟩
theorem Core.lrel {nw news : List (Addr × Obj)} {evs ovs plv lvs qvs : Array Value} {ea oa la qa : Addr} {aw : Int} {n c k ne no nl nq : Nat} (K : Core nw evs ovs plv lvs qvs ea oa aw n c k) (s : ∀ p ∈ nw, p ∈ news) (mE : (ea, listOf evs ne) ∈ news) (mO : (oa, listOf ovs no) ∈ news) (mL : (la, listOf lvs nl) ∈ news) (mQ : (qa, listOf qvs nq) ∈ news)
    (hn : n < 100) (hc : c < 100) : LRel news la qa (n + c) := by
  refine ⟨ea, oa, evs, ovs, lvs, qvs, ne, no, nl, nq, aw, mE, mO, mL, mQ, K.zq, by omega, fun i hi => ?_⟩
  obtain ⟨ax, ay, bx, by', ⟨k, p, r, o, to, l, lo, hi', a1, a2, a5, a6, a7, a9, a10, a11, a12, a13, a14, a15, a16⟩⟩ := K.ln i hi
  exact ⟨ax, ay, bx, by', ⟨k, 2 * (i : Int), p, r, (o : Int), to, l, lo, hi', a1, a2.sub s, by omega, by omega, by rw [show (2 * (i : Int)).toNat = 2 * i by omega]; exact a5, a6.sub s, by rw [show (2 * (i : Int)).toNat = 2 * i by omega]; exact a7, by omega, by omega, by rw [Int.toNat_natCast]; exact a10, a11.sub s, a12, a13.sub s, a14.sub s, a15.sub s, a16⟩⟩

abbrev Crd := Int × Int × Int × Int
inductive RowAt (nw : List (Addr × Obj)) (pvs plv ovs : Array Value) (n k : Nat) (q : Crd) : Prop
  | mk (l lo hi t1 t2 : Addr) (ta tb : Tok) (z0 : pvs[k]? = some (.ref l)) (z1 : IsSeg nw l lo hi) (z2 : IsTp nw lo q.1 q.2.1) (z3 : IsTp nw hi q.2.2.1 q.2.2.2) (z4 : Grid4 q.1 q.2.1 q.2.2.1 q.2.2.2) (z5 : plv[2 * k]? = some (.ref t1)) (z6 : IsPlN nw t1 q.1 q.2.1 1 q.2.2.1 q.2.2.2) (z7 : plv[rt n k]? = some (.ref t2)) (z8 : IsPlN nw t2 q.2.2.1 q.2.2.2 0 q.1 q.2.1) (z9 : ovs[2 * k]? = some (.int (rt n k : Nat) ta)) (z10 : ovs[rt n k]? = some (.int (2 * (k : Int)) tb)) : RowAt nw pvs plv ovs n k q
theorem RowOk.at {nw : List (Addr × Obj)} {pvs plv ovs : Array Value} {n k : Nat} (h : RowOk nw pvs plv ovs n k) : ∃ q : Crd, RowAt nw pvs plv ovs n k q := by
  obtain ⟨v, x, y, u, w, t1, t2, ta, tb, a, b, c, d, e, f, g, i, j⟩ := h
  obtain ⟨l, lo, hi, rfl, b1, b2, b3⟩ := b
  exact ⟨(x, y, u, w), ⟨l, lo, hi, t1, t2, ta, tb, a, b1, b2, b3, c, d, e, f, g, i, j⟩⟩
theorem norm3 {nw : List (Addr × Obj)} {pvs plv ovs : Array Value} {n : Nat} (h : ∀ k, k < n → RowOk nw pvs plv ovs n k) : ∃ f : Nat → Crd, ∀ k, k < n → RowAt nw pvs plv ovs n k (f k) := by
  have h' : ∀ k, ∃ q : Crd, k < n → RowAt nw pvs plv ovs n k q := fun k => by
    by_cases e : k < n
    · obtain ⟨q, hq⟩ := (h k e).at
      exact ⟨q, fun _ => hq⟩
    · exact ⟨(0, 0, 0, 0), fun q => absurd q e⟩
  obtain ⟨f, hf⟩ := Classical.skolem.mp h'
  exact ⟨f, hf⟩
def ri (n e : Nat) : Nat := if e = 1 then n - 1 else (e - 3) / 2
theorem ri_ok {n e : Nat} (he : e < 2 * n) (ho : e % 2 = 1) : ri n e < n ∧ rt n (ri n e) = e := by
  unfold ri
  by_cases h : e = 1
  · rw [if_pos h]
    refine ⟨by omega, ?_⟩
    rw [rt_eq (by omega), if_pos (by omega), h]
  · rw [if_neg h]
    refine ⟨by omega, ?_⟩
    rw [rt_eq (by omega), if_neg (by omega)]; omega
theorem ri_rt {n k : Nat} (h : k < n) : ri n (rt n k) = k := rt_inj (ri_ok (rt_lt (by omega)) (rt_odd n k)).1 h (ri_ok (rt_lt (by omega)) (rt_odd n k)).2
def evc (f : Nat → Crd) (n e : Nat) : Crd := if e % 2 = 0 then f (e / 2) else ((f (ri n e)).2.2.1, (f (ri n e)).2.2.2, (f (ri n e)).1, (f (ri n e)).2.1)
def opp (n e : Nat) : Nat := if e % 2 = 0 then rt n (e / 2) else 2 * ri n e
theorem evc_even (f : Nat → Crd) (n k : Nat) : evc f n (2 * k) = f k := by
  unfold evc; rw [if_pos (by omega), show 2 * k / 2 = k by omega]
theorem evc_odd (f : Nat → Crd) {n k : Nat} (h : k < n) : evc f n (rt n k) = ((f k).2.2.1, (f k).2.2.2, (f k).1, (f k).2.1) := by
  unfold evc; rw [if_neg (by have := rt_odd n k; omega), ri_rt h]
theorem ev_rows {nw : List (Addr × Obj)} {pvs plv ovs : Array Value} {n : Nat} {f : Nat → Crd} (h : ∀ k, k < n → RowAt nw pvs plv ovs n k (f k)) {e : Nat} (he : e < 2 * n) :
    (∃ t to, plv[e]? = some (.ref t) ∧ IsPlN nw t (evc f n e).1 (evc f n e).2.1 (if e % 2 = 0 then 1 else 0) (evc f n e).2.2.1 (evc f n e).2.2.2 ∧ ovs[e]? = some (.int (opp n e : Nat) to)) ∧ opp n e < 2 * n ∧ (evc f n (opp n e)).1 = (evc f n e).2.2.1 ∧ (evc f n (opp n e)).2.1 = (evc f n e).2.2.2 := by
  by_cases p : e % 2 = 0
  · obtain ⟨k, rfl⟩ : ∃ k, e = 2 * k := ⟨e / 2, by omega⟩
    have hk : k < n := by omega
    obtain ⟨l, lo, hi, t1, t2, ta, tb, a1, a2, a3, a4, a5, a6, a7, a8, a9, a10, a11⟩ := (h k hk)
    have o : opp n (2 * k) = rt n k := by unfold opp; rw [if_pos p, show 2 * k / 2 = k by omega]
    rw [o, evc_even, evc_odd f hk, if_pos p]
    exact ⟨⟨t1, ta, a6, a7, a10⟩, rt_lt (by omega), rfl, rfl⟩
  · have ho : e % 2 = 1 := by omega
    obtain ⟨hk, hr⟩ := ri_ok he ho
    obtain ⟨l, lo, hi, t1, t2, ta, tb, a1, a2, a3, a4, a5, a6, a7, a8, a9, a10, a11⟩ := (h _ hk)
    have o : opp n e = 2 * ri n e := by unfold opp; rw [if_neg p]
    have ev : evc f n e = ((f (ri n e)).2.2.1, (f (ri n e)).2.2.2, (f (ri n e)).1, (f (ri n e)).2.1) := by unfold evc; rw [if_neg p]
    rw [o, evc_even, ev, if_neg p]
    rw [hr] at a8 a11
    exact ⟨⟨t2, tb, a8, a9, by rw [a11]; simp⟩, by omega, rfl, rfl⟩
theorem RowAt.sub {nw nw' : List (Addr × Obj)} {pvs plv ovs : Array Value} {n k : Nat} {q : Crd} (s : ∀ p ∈ nw, p ∈ nw') (h : RowAt nw pvs plv ovs n k q) : RowAt nw' pvs plv ovs n k q := by
  obtain ⟨l, lo, hi, t1, t2, ta, tb, a1, a2, a3, a4, a5, a6, a7, a8, a9, a10, a11⟩ := h
  exact ⟨l, lo, hi, t1, t2, ta, tb, a1, a2.sub s, a3.sub s, a4.sub s, a5, a6, a7.sub s, a8, a9.sub s, a10, a11⟩
theorem core0 {nw : List (Addr × Obj)} {evs pvs plv ovs lvs : Array Value} {ea oa : Addr} {aw : Int} {n : Nat} {f : Nat → Crd} (hn : n = 2 ∨ n = 4) (h : ∀ k, k < n → RowAt nw pvs plv ovs n k (f k)) (ze : evs.size = 2 * n) (zo : ovs.size = 2 * n) (zp : plv.size = 2 * n) (zl : lvs.size = n) (zq : pvs.size = n)
    (he : ∀ e, e < 2 * n → ∃ p, evs[e]? = some (.ref p) ∧ IsPt nw p ((evc f n e).1 + aw) ((evc f n e).2.1 - aw)) (hl : ∀ k : Nat, k < n → ∃ key, lvs[k]? = some (.ref key) ∧ IsSK nw key ea oa (2 * (k : Int))) : Core nw evs ovs plv lvs pvs ea oa aw n 0 0 := by
  have hn9 : n < 100 := by omega
  clear hn
  refine ⟨by omega, by omega, by omega, by omega, by omega, fun i hi => ?_, fun i hi => ?_, fun j _ hj => ?_⟩
  · obtain ⟨⟨t, to, a1, a2, a3⟩, a4, a5, a6⟩ := ev_rows h (e := i) (by omega)
    obtain ⟨p, b1, b2⟩ := he i (by omega)
    obtain ⟨r, c1, c2⟩ := he _ a4
    rw [a5, a6] at c2
    exact ⟨_, _, _, _, ⟨p, r, t, _, to, b1, b2, a3, by omega, by omega, by rw [Int.toNat_natCast]; exact c1, c2, a1, a2⟩⟩
  · obtain ⟨l, lo, hi', t1, t2, ta, tb, a1, a2, a3, a4, a5, a6, a7, a8, a9, a10, a11⟩ := (h i (by omega))
    obtain ⟨key, k1, k2⟩ := hl i (by omega)
    obtain ⟨p, b1, b2⟩ := he (2 * i) (by omega)
    obtain ⟨q, c1, c2⟩ := he (rt n i) (rt_lt (by omega))
    rw [evc_even] at b2
    rw [evc_odd f (by omega)] at c2
    dsimp only at c2
    have g := a5.b
    have r := rt_lt (n := n) (k := i) (by omega)
    exact ⟨_, _, _, _, ⟨key, p, q, rt n i, ta, l, lo, hi', k1, k2, b1, b2, a10, by omega, c1, c2, a1, a2, a3, a4, lo10 g.1, hi10 g.2.1, lo10 g.2.2.1, hi10 g.2.2.2.1, lo10 g.2.2.2.2.1, hi10 g.2.2.2.2.2.1, lo10 g.2.2.2.2.2.2.1, hi10 g.2.2.2.2.2.2.2, a5.lt⟩⟩
  · obtain ⟨l, lo, hi', t1, t2, ta, tb, a1, a2, a3, a4, a5, a6, a7, a8, a9, a10, a11⟩ := (h j hj)
    obtain ⟨key, k1, k2⟩ := hl j hj
    obtain ⟨p, b1, b2⟩ := he (2 * j) (by omega)
    obtain ⟨q, c1, c2⟩ := he (rt n j) (rt_lt (by omega))
    rw [evc_even] at b2
    rw [evc_odd f hj] at c2
    dsimp only at c2
    exact ⟨lo, hi', l, _, _, _, _, p, q, key, ta, tb, a1, a2, a3, a4, a5, b1, b2, c1, c2, a10, a11, k1, k2⟩
theorem snoc_ref {P : Nat → Addr → Prop} {ys : List Value} {q : Addr} {i : Nat} (l : ys.length = i) (old : ∀ e, e < i → ∃ p, ys[e]? = some (.ref p) ∧ P e p) (new : P i q) : ∀ e, e < i + 1 → ∃ p, (ys ++ [.ref q])[e]? = some (.ref p) ∧ P e p := by
  intro e he
  by_cases h : e < i
  · obtain ⟨p, a, b⟩ := old e h
    exact ⟨p, by rw [List.getElem?_append_left (by omega)]; exact a, b⟩
  · obtain rfl : e = i := by omega
    exact ⟨q, by rw [List.getElem?_append_right (by omega), l]; simp, new⟩

structure NeE (ea pl oa pa L : Addr) : Prop where
  b1 : @Ne Nat ea pl
  b2 : @Ne Nat ea oa
  b3 : @Ne Nat ea pa
  b4 : @Ne Nat ea (L+1+1+1+1)
  b5 : @Ne Nat ea (L+1+1+1)
  b6 : @Ne Nat ea (L+1+1)
  b7 : @Ne Nat ea (L+1)
inductive S4 (h₀ : Heap) (L : Addr) (s₀ s : Shared) : Prop
  | mk (h : Heap) (tk : Nat) (m : Str → Option Value) (nw : List (Addr × Obj)) (c1 c2 c3 c4 : Obj) (fi : Int) (tf : Tok) (aw : Int) (ta : Tok) (pl : Addr) (pvs : Array Value) (np n : Nat) (oa : Addr) (ovs : Array Value) (no : Nat) (pa : Addr) (plv : Array Value) (npl : Nat) (la : Addr) (lvs : Array Value) (nl : Nat) (tm : Tok) (ea : Addr) (evs : Array Value) (ne : Nat) (mo cx : Addr) (f : Nat → Crd) (z0 : s = { s₀ with heap := h, toks := tk }) (z1 : Fr h₀ L h m) (z2 : News h₀ L h ((ea, listOf evs ne) :: (pl, listOf pvs np) :: (oa, listOf ovs no) :: (pa, listOf plv npl) :: (L+1+1+1+1, c4) :: (L+1+1+1, c3) :: (L+1+1, c2) :: (L+1, c1) :: nw)) (z3 : c1.data = .cell (some (.int aw ta))) (z4 : c2.data = .cell (some (.ref oa))) (z5 : c3.data = .cell (some (.ref ea))) (z6 : c4.data = .cell (some (.ref mo))) (z7 : m "first" = some (.int fi tf)) (z8 : m "pieces" = some (.ref pl)) (z9 : m "many" = some (.int (2 * (n : Int)) tm)) (z10 : m "places" = some (.ref pa)) (z11 : m "lefts" = some (.ref la)) (z12 : (la, listOf lvs nl) ∈ nw) (z13 : lvs.size = n) (z14 : (∀ i : Nat, i < n → ∃ t, lvs[i]? = some (.int (2 * (i : Int)) t))) (z15 : ovs.size = 2 * n) (z16 : plv.size = 2 * n) (z17 : evs.size = 2 * n) (z18 : Dis nw pl oa pa L) (z19 : (∀ p ∈ nw, p.1 ≠ ea)) (z20 : NeE ea pl oa pa L) (z21 : @LT.lt Nat _ (L+1+1+1+1) pl) (z22 : @LT.lt Nat _ pl pa) (z23 : @LT.lt Nat _ pa oa) (z24 : pvs.size = n) (z25 : (n = 2 ∨ n = 4)) (z26 : (mo, methodObj (.ref 249) (.ref cx)) ∈ nw) (z27 : (∀ k, k < n → RowAt nw pvs plv ovs n k (f k))) (z28 : ∀ e, e < 2 * n → ∃ p, evs[e]? = some (.ref p) ∧ IsPt nw p ((evc f n e).1 + aw) ((evc f n e).2.1 - aw)) : S4 h₀ L s₀ s
theorem neq7 {d pl oa pa L : Nat} (h1 : pl < d) (h2 : oa < d) (h3 : pa < d) (h4 : L+1+1+1+1 < d) : @Ne Nat d pl ∧ @Ne Nat d oa ∧ @Ne Nat d pa ∧ @Ne Nat d (L+1+1+1+1) ∧ @Ne Nat d (L+1+1+1) ∧ @Ne Nat d (L+1+1) ∧ @Ne Nat d (L+1) :=
  have h5 := Nat.lt_trans (Nat.lt_succ_self _) h4
  have h6 := Nat.lt_trans (Nat.lt_succ_self _) h5
  ⟨Nat.ne_of_gt h1, Nat.ne_of_gt h2, Nat.ne_of_gt h3, Nat.ne_of_gt h4, Nat.ne_of_gt h5, Nat.ne_of_gt h6, Nat.ne_of_gt (Nat.lt_trans (Nat.lt_succ_self _) h6)⟩
theorem s4_leaf {h₀ h : Heap} {L : Addr} {s₀ : Shared} {tk : Nat} {m : Str → Option Value} {nw nw1 : List (Addr × Obj)} {c1 c2 c3 c4 ox od : Obj} {fi aw : Int} {tf ta tm : Tok} {pl oa pa la ea q x d : Addr} {pvs ovs plv lvs : Array Value} {ys : List Value} {np no npl nl n : Nat} {f : Nat → Crd}
    (N : News h₀ L h ((q, methodObj (.ref 249) (.ref x)) :: (x, ox) :: (d, od) :: (ea, LCg.lst ys) :: (pl, listOf pvs np) :: (oa, listOf ovs no) :: (pa, listOf plv npl) :: (L+1+1+1+1, c4) :: (L+1+1+1, c3) :: (L+1+1, c2) :: (L+1, c1) :: nw1)) (F : Fr h₀ L h m)
    (d1 : c1.data = .cell (some (.int aw ta))) (d2 : c2.data = .cell (some (.ref oa))) (d3 : c3.data = .cell (some (.ref ea))) (d4 : c4.data = .cell (some (.ref q)))
    (e1 : m "first" = some (.int fi tf)) (e2 : m "pieces" = some (.ref pl)) (e3 : m "many" = some (.int (2 * (n : Int)) tm)) (e4 : m "places" = some (.ref pa)) (e5 : m "lefts" = some (.ref la))
    (mla : (la, listOf lvs nl) ∈ nw) (zl : lvs.size = n) (hl : ∀ i : Nat, i < n → ∃ t, lvs[i]? = some (.int (2 * (i : Int)) t)) (zo : ovs.size = 2 * n) (zp : plv.size = 2 * n) (ze : ys.length = 2 * n) (D : Dis nw1 pl oa pa L) (De : ∀ p ∈ nw1, p.1 ≠ ea) (NE : NeE ea pl oa pa L)
    (l1 : @LT.lt Nat _ (L+1+1+1+1) pl) (l2 : @LT.lt Nat _ pl pa) (l3 : @LT.lt Nat _ pa oa) (zq : pvs.size = n) (hn : n = 2 ∨ n = 4) (sub : ∀ p ∈ nw, p ∈ nw1) (rows : ∀ k, k < n → RowAt nw pvs plv ovs n k (f k))
    (pts : ∀ e, e < 2 * n → ∃ p, ys[e]? = some (.ref p) ∧ IsPt nw1 p ((evc f n e).1 + aw) ((evc f n e).2.1 - aw))
    (lt : (@LT.lt Nat _ ea d ∧ @LT.lt Nat _ pl d ∧ @LT.lt Nat _ oa d ∧ @LT.lt Nat _ pa d ∧ @LT.lt Nat _ (L+1+1+1+1) d)) (lx : @LT.lt Nat _ d x) (lq : @LT.lt Nat _ x q) : S4 h₀ L s₀ { s₀ with heap := h, toks := tk } := by
  refine ⟨h, tk, m, (q, methodObj (.ref 249) (.ref x)) :: (x, ox) :: (d, od) :: nw1, c1, c2, c3, c4, fi, tf, aw, ta, pl, pvs, np, n, oa, ovs, no, pa, plv, npl, la, lvs, nl, tm, ea, ys.toArray, ys.length, q, x, f, rfl, F, ?_, d1, d2, d3, d4, e1, e2, e3, e4, e5, .tail _ (.tail _ (.tail _ (sub _ mla))), zl, hl, zo, zp, by simpa using ze, ?_, ?_, NE, l1, l2, l3, zq, hn, .head _, fun k hk => (rows k hk).sub fun p hp => .tail _ (.tail _ (.tail _ (sub p hp))), fun e he => ?_⟩
  · exact News.pick N (.tail _ (.tail _ (.tail _ (.head _)))) (News.pick N (.tail _ (.tail _ (.tail _ (.tail _ (.head _))))) (News.pick N (.tail _ (.tail _ (.tail _ (.tail _ (.tail _ (.head _)))))) (News.pick N (.tail _ (.tail _ (.tail _ (.tail _ (.tail _ (.tail _ (.head _))))))) (News.pick N (.tail _ (.tail _ (.tail _ (.tail _ (.tail _ (.tail _ (.tail _ (.head _)))))))) (News.pick N (.tail _ (.tail _ (.tail _ (.tail _ (.tail _ (.tail _ (.tail _ (.tail _ (.head _))))))))) (News.pick N (.tail _ (.tail _ (.tail _ (.tail _ (.tail _ (.tail _ (.tail _ (.tail _ (.tail _ (.head _)))))))))) (News.pick N (.tail _ (.tail _ (.tail _ (.tail _ (.tail _ (.tail _ (.tail _ (.tail _ (.tail _ (.tail _ (.head _))))))))))) (News.pick N (.head _) (News.pick N (.tail _ (.head _)) (News.pick N (.tail _ (.tail _ (.head _))) (fun p hp => N p (.tail _ (.tail _ (.tail _ (.tail _ (.tail _ (.tail _ (.tail _ (.tail _ (.tail _ (.tail _ (.tail _ (hp)))))))))))))))))))))))
  · exact Dis.cons (Dis.cons (Dis.cons D (neq7 lt.2.1 lt.2.2.1 lt.2.2.2.1 lt.2.2.2.2)) (neq7 (Nat.lt_trans lt.2.1 lx) (Nat.lt_trans lt.2.2.1 lx) (Nat.lt_trans lt.2.2.2.1 lx) (Nat.lt_trans lt.2.2.2.2 lx))) (neq7 (Nat.lt_trans (Nat.lt_trans lt.2.1 lx) lq) (Nat.lt_trans (Nat.lt_trans lt.2.2.1 lx) lq) (Nat.lt_trans (Nat.lt_trans lt.2.2.2.1 lx) lq) (Nat.lt_trans (Nat.lt_trans lt.2.2.2.2 lx) lq))
  · exact List.forall_mem_cons.mpr ⟨Nat.ne_of_gt (Nat.lt_trans (Nat.lt_trans lt.1 lx) lq), List.forall_mem_cons.mpr ⟨Nat.ne_of_gt (Nat.lt_trans lt.1 lx), List.forall_mem_cons.mpr ⟨Nat.ne_of_gt lt.1, De⟩⟩⟩
  · obtain ⟨p, a, b⟩ := pts e he
    exact ⟨p, by simpa using a, b.cons.cons.cons⟩
theorem off1_ne {D : Addr} : ∀ {l : List (Addr × Obj)}, LCg.Off1 D l → ∀ p ∈ l, p.1 ≠ D
  | [], _, _, h => nomatch h
  | _ :: _, x, p, h => by
    rcases List.mem_cons.mp h with rfl | h
    · exact x.1
    · exact off1_ne x.2 p h

abbrev pre7 (pl oa pa L : Addr) (o1 o2 o3 c4 c3 c2 c1 : Obj) (nw : List (Addr × Obj)) : List (Addr × Obj) := (pl, o1) :: (oa, o2) :: (pa, o3) :: (L+1+1+1+1, c4) :: (L+1+1+1, c3) :: (L+1+1, c2) :: (L+1, c1) :: nw
abbrev JPts (pl oa pa L : Addr) (o1 o2 o3 c4 c3 c2 c1 : Obj) (nw : List (Addr × Obj)) (f : Nat → Crd) (n : Nat) (aw : Int) (i : Nat) (ys : List Value) (nws : List (Addr × Obj)) : Prop :=
  ∃ nw', nws = pre7 pl oa pa L o1 o2 o3 c4 c3 c2 c1 nw' ∧ (∀ p ∈ nw, p ∈ nw') ∧ Dis nw' pl oa pa L ∧ ∀ e, e < i → ∃ p, ys[e]? = some (.ref p) ∧ IsPt nw' p ((evc f n e).1 + aw) ((evc f n e).2.1 - aw)
theorem pt_close {h₀ h : Heap} {L : Addr} {m : Str → Option Value} {s₁ : Shared} {tk : Nat} {pl oa pa q d I C D : Addr} {oI oC oD o1 o2 o3 c4 c3 c2 c1 : Obj} {nw nw1 : List (Addr × Obj)} {f : Nat → Crd} {n i np : Nat} {aw x y : Int} {tx ty : Tok} {ys : List Value} {plv : Array Value}
    (N : News h₀ L h ((q, ptObj d x y tx ty) :: (d, edict) :: (I, oI) :: (C, oC) :: (D, oD) :: pre7 pl oa pa L o1 o2 (listOf plv np) c4 c3 c2 c1 nw1)) (F : Fr h₀ L h m) (off : LCg.Off3 I C D (pre7 pl oa pa L o1 o2 (listOf plv np) c4 c3 c2 c1 nw1)) (hys : ys.length = i) (sub : ∀ p ∈ nw, p ∈ nw1) (Di : Dis nw1 pl oa pa L)
    (old : ∀ e, e < i → ∃ p, ys[e]? = some (.ref p) ∧ IsPt nw1 p ((evc f n e).1 + aw) ((evc f n e).2.1 - aw)) (ex : x = (evc f n i).1 + aw) (ey : y = (evc f n i).2.1 - aw)
    (lt : @LT.lt Nat _ I d ∧ @LT.lt Nat _ C d ∧ @LT.lt Nat _ D d ∧ @LT.lt Nat _ pl d ∧ @LT.lt Nat _ oa d ∧ @LT.lt Nat _ pa d ∧ @LT.lt Nat _ (L+1+1+1+1) d) (lq : @LT.lt Nat _ d q) :
    LCg.CompEnd h₀ L m s₁ I oI C oC D oD (LCg.SrcAt h₀ pa plv) (fun y nw' => JPts pl oa pa L o1 o2 (listOf plv np) c4 c3 c2 c1 nw f n aw (i + 1) (ys ++ [y]) nw') (.ref q) { s₁ with heap := h, toks := tk } := by
  subst ex ey
  refine ⟨h, tk, pre7 pl oa pa L o1 o2 (listOf plv np) c4 c3 c2 c1 ((q, ptObj d _ _ tx ty) :: (d, edict) :: nw1), rfl, F, ?_, ?_, Or.inr ⟨_, .tail _ (.tail _ (.head _)), rfl, _, rfl⟩, (q, ptObj d _ _ tx ty) :: (d, edict) :: nw1, rfl, fun p hp => .tail _ (.tail _ (sub p hp)), Dis.cons (Dis.cons Di ?_) ?_, snoc_ref hys (fun e he => let ⟨p, a, b⟩ := old e he; ⟨p, a, b.cons.cons⟩) ⟨d, tx, ty, .head _, .tail _ (.head _)⟩⟩
  · exact News.pick N (.tail _ (.tail _ (.head _))) (News.pick N (.tail _ (.tail _ (.tail _ (.head _)))) (News.pick N (.tail _ (.tail _ (.tail _ (.tail _ (.head _))))) (News.pick N (.tail _ (.tail _ (.tail _ (.tail _ (.tail _ (.head _)))))) (News.pick N (.tail _ (.tail _ (.tail _ (.tail _ (.tail _ (.tail _ (.head _))))))) (News.pick N (.tail _ (.tail _ (.tail _ (.tail _ (.tail _ (.tail _ (.tail _ (.head _)))))))) (News.pick N (.tail _ (.tail _ (.tail _ (.tail _ (.tail _ (.tail _ (.tail _ (.tail _ (.head _))))))))) (News.pick N (.tail _ (.tail _ (.tail _ (.tail _ (.tail _ (.tail _ (.tail _ (.tail _ (.tail _ (.head _)))))))))) (News.pick N (.tail _ (.tail _ (.tail _ (.tail _ (.tail _ (.tail _ (.tail _ (.tail _ (.tail _ (.tail _ (.head _))))))))))) (News.pick N (.tail _ (.tail _ (.tail _ (.tail _ (.tail _ (.tail _ (.tail _ (.tail _ (.tail _ (.tail _ (.tail _ (.head _)))))))))))) (News.pick N (.head _) (News.pick N (.tail _ (.head _)) (fun p hp => N p (.tail _ (.tail _ (.tail _ (.tail _ (.tail _ (.tail _ (.tail _ (.tail _ (.tail _ (.tail _ (.tail _ (.tail _ (hp)))))))))))))))))))))))))
  · simp only [LCg.Off3] at off ⊢
    obtain ⟨z1, z2, z3, z4, z5, z6, z7, z8⟩ := off
    exact ⟨z1, z2, z3, z4, z5, z6, z7, ⟨Nat.ne_of_gt (Nat.lt_trans lt.1 lq), Nat.ne_of_gt (Nat.lt_trans lt.2.1 lq), Nat.ne_of_gt (Nat.lt_trans lt.2.2.1 lq)⟩, ⟨Nat.ne_of_gt lt.1, Nat.ne_of_gt lt.2.1, Nat.ne_of_gt lt.2.2.1⟩, z8⟩
  · exact neq7 lt.2.2.2.1 lt.2.2.2.2.1 lt.2.2.2.2.2.1 lt.2.2.2.2.2.2
  · exact neq7 (Nat.lt_trans lt.2.2.2.1 lq) (Nat.lt_trans lt.2.2.2.2.1 lq) (Nat.lt_trans lt.2.2.2.2.2.1 lq) (Nat.lt_trans lt.2.2.2.2.2.2 lq)

abbrev pre8 (ea pl oa pa L : Addr) (o0 o1 o2 o3 c4 c3 c2 c1 : Obj) (nw : List (Addr × Obj)) : List (Addr × Obj) := (ea, o0) :: pre7 pl oa pa L o1 o2 o3 c4 c3 c2 c1 nw
def JObj (ea pl oa pa L : Addr) (o0 o1 o2 o3 c4 c3 c2 c1 : Obj) (nw : List (Addr × Obj)) (P : List (Addr × Obj) → Nat → Addr → Prop) (i : Nat) (ys : List Value) (nws : List (Addr × Obj)) : Prop :=
  ∃ nw', nws = pre8 ea pl oa pa L o0 o1 o2 o3 c4 c3 c2 c1 nw' ∧ (∀ p ∈ nw, p ∈ nw') ∧ Dis nw' pl oa pa L ∧ (∀ p ∈ nw', p.1 ≠ ea) ∧ ∀ e, e < i → ∃ p, ys[e]? = some (.ref p) ∧ P nw' e p
theorem obj_close {h₀ h : Heap} {L : Addr} {m : Str → Option Value} {s₁ : Shared} {tk : Nat} {ea pl oa pa x dx I C D : Addr} {oI oC oD o0 o1 o2 o3 c4 c3 c2 c1 ox od : Obj} {nw nw1 : List (Addr × Obj)} {i : Nat} {ys : List Value} {P : List (Addr × Obj) → Nat → Addr → Prop} {S : List (Addr × Obj) → Prop}
    (N : News h₀ L h ((x, ox) :: (dx, od) :: (I, oI) :: (C, oC) :: (D, oD) :: pre8 ea pl oa pa L o0 o1 o2 o3 c4 c3 c2 c1 nw1)) (F : Fr h₀ L h m) (off : LCg.Off3 I C D (pre8 ea pl oa pa L o0 o1 o2 o3 c4 c3 c2 c1 nw1)) (hys : ys.length = i) (sub : ∀ p ∈ nw, p ∈ nw1) (Di : Dis nw1 pl oa pa L) (De : ∀ p ∈ nw1, p.1 ≠ ea)
    (old : ∀ e, e < i → ∃ p, ys[e]? = some (.ref p) ∧ P nw1 e p) (mono : ∀ (l : List (Addr × Obj)) (q : Addr × Obj) e p, P l e p → P (q :: l) e p) (new : P ((x, ox) :: (dx, od) :: nw1) i x) (hS : S (pre8 ea pl oa pa L o0 o1 o2 o3 c4 c3 c2 c1 ((x, ox) :: (dx, od) :: nw1)))
    (lt : @LT.lt Nat _ I dx ∧ @LT.lt Nat _ C dx ∧ @LT.lt Nat _ D dx ∧ @LT.lt Nat _ ea dx ∧ @LT.lt Nat _ pl dx ∧ @LT.lt Nat _ oa dx ∧ @LT.lt Nat _ pa dx ∧ @LT.lt Nat _ (L+1+1+1+1) dx) (lq : @LT.lt Nat _ dx x) :
    LCg.CompEnd h₀ L m s₁ I oI C oC D oD S (fun y nw' => JObj ea pl oa pa L o0 o1 o2 o3 c4 c3 c2 c1 nw P (i + 1) (ys ++ [y]) nw') (.ref x) { s₁ with heap := h, toks := tk } := by
  refine ⟨h, tk, pre8 ea pl oa pa L o0 o1 o2 o3 c4 c3 c2 c1 ((x, ox) :: (dx, od) :: nw1), rfl, F, ?_, ?_, hS, (x, ox) :: (dx, od) :: nw1, rfl, fun p hp => .tail _ (.tail _ (sub p hp)), Dis.cons (Dis.cons Di ?_) ?_, ?_, snoc_ref hys (fun e he => let ⟨p, a, b⟩ := old e he; ⟨p, a, mono _ _ _ _ (mono _ _ _ _ b)⟩) new⟩
  · exact News.pick N (.tail _ (.tail _ (.head _))) (News.pick N (.tail _ (.tail _ (.tail _ (.head _)))) (News.pick N (.tail _ (.tail _ (.tail _ (.tail _ (.head _))))) (News.pick N (.tail _ (.tail _ (.tail _ (.tail _ (.tail _ (.head _)))))) (News.pick N (.tail _ (.tail _ (.tail _ (.tail _ (.tail _ (.tail _ (.head _))))))) (News.pick N (.tail _ (.tail _ (.tail _ (.tail _ (.tail _ (.tail _ (.tail _ (.head _)))))))) (News.pick N (.tail _ (.tail _ (.tail _ (.tail _ (.tail _ (.tail _ (.tail _ (.tail _ (.head _))))))))) (News.pick N (.tail _ (.tail _ (.tail _ (.tail _ (.tail _ (.tail _ (.tail _ (.tail _ (.tail _ (.head _)))))))))) (News.pick N (.tail _ (.tail _ (.tail _ (.tail _ (.tail _ (.tail _ (.tail _ (.tail _ (.tail _ (.tail _ (.head _))))))))))) (News.pick N (.tail _ (.tail _ (.tail _ (.tail _ (.tail _ (.tail _ (.tail _ (.tail _ (.tail _ (.tail _ (.tail _ (.head _)))))))))))) (News.pick N (.tail _ (.tail _ (.tail _ (.tail _ (.tail _ (.tail _ (.tail _ (.tail _ (.tail _ (.tail _ (.tail _ (.tail _ (.head _))))))))))))) (News.pick N (.head _) (News.pick N (.tail _ (.head _)) (fun p hp => N p (.tail _ (.tail _ (.tail _ (.tail _ (.tail _ (.tail _ (.tail _ (.tail _ (.tail _ (.tail _ (.tail _ (.tail _ (.tail _ (hp)))))))))))))))))))))))))))
  · simp only [LCg.Off3] at off ⊢
    obtain ⟨z0, z1, z2, z3, z4, z5, z6, z7, z8⟩ := off
    exact ⟨z0, z1, z2, z3, z4, z5, z6, z7, ⟨Nat.ne_of_gt (Nat.lt_trans lt.1 lq), Nat.ne_of_gt (Nat.lt_trans lt.2.1 lq), Nat.ne_of_gt (Nat.lt_trans lt.2.2.1 lq)⟩, ⟨Nat.ne_of_gt lt.1, Nat.ne_of_gt lt.2.1, Nat.ne_of_gt lt.2.2.1⟩, z8⟩
  · exact neq7 lt.2.2.2.2.1 lt.2.2.2.2.2.1 lt.2.2.2.2.2.2.1 lt.2.2.2.2.2.2.2
  · exact neq7 (Nat.lt_trans lt.2.2.2.2.1 lq) (Nat.lt_trans lt.2.2.2.2.2.1 lq) (Nat.lt_trans lt.2.2.2.2.2.2.1 lq) (Nat.lt_trans lt.2.2.2.2.2.2.2 lq)
  · exact List.forall_mem_cons.mpr ⟨Nat.ne_of_gt (Nat.lt_trans lt.2.2.2.1 lq), List.forall_mem_cons.mpr ⟨Nat.ne_of_gt lt.2.2.2.1, De⟩⟩
structure NeL (la ea pl oa pa L : Addr) : Prop where
  b0 : @Ne Nat la ea
  b1 : @Ne Nat la pl
  b2 : @Ne Nat la oa
  b3 : @Ne Nat la pa
  b4 : @Ne Nat la (L+1+1+1+1)
  b5 : @Ne Nat la (L+1+1+1)
  b6 : @Ne Nat la (L+1+1)
  b7 : @Ne Nat la (L+1)
inductive S5 (h₀ : Heap) (L : Addr) (s₀ s : Shared) : Prop
  | mk (h : Heap) (tk : Nat) (m : Str → Option Value) (nw : List (Addr × Obj)) (c1 c2 c3 c4 : Obj) (fi : Int) (tf : Tok) (aw : Int) (ta : Tok) (pl : Addr) (pvs : Array Value) (np n : Nat) (oa : Addr) (ovs : Array Value) (no : Nat) (pa : Addr) (plv : Array Value) (npl : Nat) (tm : Tok) (ea : Addr) (evs : Array Value) (ne : Nat) (mo cx : Addr) (la : Addr) (lks : Array Value) (nl : Nat) (ka : Addr) (kvs : Array Value) (nk : Nat) (z0 : s = { s₀ with heap := h, toks := tk }) (z1 : Fr h₀ L h m) (z2 : News h₀ L h ((la, listOf lks nl) :: (ea, listOf evs ne) :: (pl, listOf pvs np) :: (oa, listOf ovs no) :: (pa, listOf plv npl) :: (L+1+1+1+1, c4) :: (L+1+1+1, c3) :: (L+1+1, c2) :: (L+1, c1) :: nw)) (z3 : c1.data = .cell (some (.int aw ta))) (z4 : c2.data = .cell (some (.ref oa))) (z5 : c3.data = .cell (some (.ref ea))) (z6 : c4.data = .cell (some (.ref mo))) (z7 : m "first" = some (.int fi tf)) (z8 : m "pieces" = some (.ref pl)) (z9 : m "many" = some (.int (2 * (n : Int)) tm)) (z10 : m "places" = some (.ref pa)) (z11 : m "keys" = some (.ref ka)) (z12 : m "lines" = some (.ref la)) (z13 : Core nw evs ovs plv lks pvs ea oa aw n 0 0) (z14 : (ka, listOf kvs nk) ∈ nw) (z15 : kvs.size = 2 * n) (z16 : (∀ i : Nat, i < 2 * n → ∃ key, kvs[i]? = some (.ref key) ∧ IsQK nw key ea oa i)) (z17 : Dis nw pl oa pa L) (z18 : (∀ p ∈ nw, p.1 ≠ ea)) (z19 : (∀ p ∈ nw, p.1 ≠ la)) (z20 : NeE ea pl oa pa L) (z21 : NeL la ea pl oa pa L) (z22 : @LT.lt Nat _ (L+1+1+1+1) pl) (z23 : @LT.lt Nat _ pl pa) (z24 : @LT.lt Nat _ pa oa) (z25 : (n = 2 ∨ n = 4)) (z26 : (mo, methodObj (.ref 249) (.ref cx)) ∈ nw) : S5 h₀ L s₀ s
theorem rot8 {h₀ h : Heap} {L ka ea pl oa pa : Addr} {ok o0 o1 o2 o3 c4 c3 c2 c1 : Obj} {nw : List (Addr × Obj)} (N : News h₀ L h ((ka, ok) :: pre8 ea pl oa pa L o0 o1 o2 o3 c4 c3 c2 c1 nw)) : News h₀ L h (pre8 ea pl oa pa L o0 o1 o2 o3 c4 c3 c2 c1 ((ka, ok) :: nw)) := by
  exact News.pick N (.tail _ (.head _)) (News.pick N (.tail _ (.tail _ (.head _))) (News.pick N (.tail _ (.tail _ (.tail _ (.head _)))) (News.pick N (.tail _ (.tail _ (.tail _ (.tail _ (.head _))))) (News.pick N (.tail _ (.tail _ (.tail _ (.tail _ (.tail _ (.head _)))))) (News.pick N (.tail _ (.tail _ (.tail _ (.tail _ (.tail _ (.tail _ (.head _))))))) (News.pick N (.tail _ (.tail _ (.tail _ (.tail _ (.tail _ (.tail _ (.tail _ (.head _)))))))) (News.pick N (.tail _ (.tail _ (.tail _ (.tail _ (.tail _ (.tail _ (.tail _ (.tail _ (.head _))))))))) (News.pick N (.head _) (fun p hp => N p (.tail _ (.tail _ (.tail _ (.tail _ (.tail _ (.tail _ (.tail _ (.tail _ (.tail _ (hp)))))))))))))))))))

theorem SegOk.mk2 {nw : List (Addr × Obj)} {l lo hi : Addr} : True := trivial
theorem mid_ok {x y u w : Int} (g : Grid4 x y u w) : lexB x y ((x + u) / 2) ((y + w) / 2) = true ∧ lexB ((x + u) / 2) ((y + w) / 2) u w = true := by
  obtain ⟨b, ⟨m1, m2, m3, m4⟩, l⟩ := g
  have l' : x < u ∨ x = u ∧ y < w := by simpa [lexB] using l
  clear b l
  exact ⟨lexB_of (by omega), lexB_of (by omega)⟩
theorem mid1 {x u : Int} (a : -8 ≤ x) (b : x ≤ 8) (c : -8 ≤ u) (d : u ≤ 8) : -10 ≤ (x + u) / 2 ∧ (x + u) / 2 ≤ 10 := by omega
theorem mid_b {x y u w : Int} (g : Grid4 x y u w) : (-10 ≤ x ∧ x ≤ 10 ∧ -10 ≤ y ∧ y ≤ 10 ∧ -10 ≤ (x + u) / 2 ∧ (x + u) / 2 ≤ 10 ∧ -10 ≤ (y + w) / 2 ∧ (y + w) / 2 ≤ 10 ∧ lexB x y ((x + u) / 2) ((y + w) / 2) = true) ∧ (-10 ≤ (x + u) / 2 ∧ (x + u) / 2 ≤ 10 ∧ -10 ≤ (y + w) / 2 ∧ (y + w) / 2 ≤ 10 ∧ -10 ≤ u ∧ u ≤ 10 ∧ -10 ≤ w ∧ w ≤ 10 ∧ lexB ((x + u) / 2) ((y + w) / 2) u w = true) := by
  have m := mid_ok g
  obtain ⟨⟨b1, b2, b3, b4, b5, b6, b7, b8⟩, -, -⟩ := g
  have p := mid1 b1 b2 b5 b6
  have q := mid1 b3 b4 b7 b8
  exact ⟨⟨lo10 b1, hi10 b2, lo10 b3, hi10 b4, p.1, p.2, q.1, q.2, m.1⟩, ⟨p.1, p.2, q.1, q.2, lo10 b5, hi10 b6, lo10 b7, hi10 b8, m.2⟩⟩
theorem lk_push {a v : Value} {xs : Array Value} {i : Nat} (h : xs[i]? = some v) : (xs.push a)[i]? = some v := by
  have q : i < xs.size := by
    by_cases q : i < xs.size
    · exact q
    · rw [Array.getElem?_eq_none (Nat.le_of_not_lt q)] at h; cases h
  rw [Array.getElem?_push, if_neg (Nat.ne_of_lt q)]; exact h
theorem lk_set {a v : Value} {xs : Array Value} {i j : Nat} (n : i ≠ j) (h : xs[i]? = some v) : (xs.setIfInBounds j a)[i]? = some v := by
  rw [Array.getElem?_setIfInBounds, if_neg (Ne.symm n)]; exact h
theorem lk_at {a : Value} {xs : Array Value} {j : Nat} (n : j < xs.size) : (xs.setIfInBounds j a)[j]? = some a := by
  rw [Array.getElem?_setIfInBounds, if_pos rfl, if_pos n]
theorem lk_end {a : Value} {xs : Array Value} : (xs.push a)[xs.size]? = some a := by
  rw [Array.getElem?_push, if_pos rfl]
theorem lk_end' {a : Value} {xs : Array Value} {k : Nat} (e : xs.size = k) : (xs.push a)[k]? = some a := e ▸ lk_end
structure ArrO (xs ys : Array Value) (A B : Nat) (a b x y : Value) : Prop where
  l : ∀ i v, i ≠ A → i ≠ B → xs[i]? = some v → ys[i]? = some v
  h1 : ys[A]? = some y
  h2 : ys[B]? = some x
  h3 : ys[xs.size]? = some a
  h4 : ys[xs.size + 1]? = some b
theorem arrO {xs : Array Value} {A B : Nat} {a b x y : Value} (hA : A < xs.size) (hB : B < xs.size) (n : A ≠ B) : ArrO xs ((((xs.push a).push b).setIfInBounds B x).setIfInBounds A y) A B a b x y :=
  have z : ((xs.push a).push b).size = xs.size + 1 + 1 := by rw [Array.size_push, Array.size_push]
  have lt : ∀ {i}, i < xs.size → i < xs.size + 1 + 1 := fun h => Nat.lt_succ_of_lt (Nat.lt_succ_of_lt h)
  ⟨fun _ _ p q h => lk_set p (lk_set q (lk_push (lk_push h))), lk_at (by rw [Array.size_setIfInBounds, z]; exact lt hA), lk_set (Ne.symm n) (lk_at (by rw [z]; exact lt hB)),
   lk_set (Ne.symm (Nat.ne_of_lt hA)) (lk_set (Ne.symm (Nat.ne_of_lt hB)) (lk_push lk_end)), lk_set (Ne.symm (Nat.ne_of_lt (Nat.lt_succ_of_lt hA))) (lk_set (Ne.symm (Nat.ne_of_lt (Nat.lt_succ_of_lt hB))) (lk_end' (Array.size_push ..)))⟩
theorem arrP {xs : Array Value} {A B : Nat} {a b x y : Value} (hA : A < xs.size) (hB : B < xs.size) (n : A ≠ B) : ArrO xs ((((xs.setIfInBounds A y).setIfInBounds B x).push a).push b) A B a b x y :=
  have z : ((xs.setIfInBounds A y).setIfInBounds B x).size = xs.size := by rw [Array.size_setIfInBounds, Array.size_setIfInBounds]
  ⟨fun _ _ p q h => lk_push (lk_push (lk_set q (lk_set p h))), lk_push (lk_push (lk_set n (lk_at hA))), lk_push (lk_push (lk_at (by rw [Array.size_setIfInBounds]; exact hB))),
   lk_push (lk_end' z), lk_end' (by rw [Array.size_push, z])⟩
theorem lt_2 {i s : Nat} (h : i < s + 2) (a : i ≠ s) (b : i ≠ s + 1) : i < s := by omega
theorem lt_1 {i s : Nat} (h : i < s + 1) (a : i ≠ s) : i < s := by omega
theorem two_ne {i k : Nat} (h : i ≠ k) : 2 * i ≠ 2 * k := by omega
theorem lt_2k {k n c s : Nat} (h : k < n) (z : s = 2 * n + 2 * c) : 2 * k < s := by omega
theorem lt_rt {r n c s : Nat} (h : r < 2 * n) (z : s = 2 * n + 2 * c) : r < s := by omega
theorem ev_2 {n c s : Nat} (z : s = 2 * n + 2 * c) : s % 2 = 0 := by omega
theorem od_2 {s : Nat} (z : s % 2 = 0) : (s + 1) % 2 ≠ 0 := by omega
theorem od_ne {a r : Nat} (z : r % 2 = 1) : 2 * a ≠ r := by omega
theorem sz_9 {n c s : Nat} (hn : n < 100) (hc : c < 100) (z : s = 2 * n + 2 * c) : s + 1 < 1000 := by omega
theorem tn_2 (k : Nat) : (2 * (k : Int)).toNat = 2 * k := by omega
theorem i1000 {x : Nat} (h : x < 1000) : (x : Int) < 1000 := by omega
theorem lk_push2 {a b : Value} {xs : Array Value} {i : Nat} : ((xs.push a).push b)[i]? = if i = xs.size + 1 then some b else if i = xs.size then some a else xs[i]? := by
  rw [Array.getElem?_push, Array.getElem?_push, Array.size_push]
theorem lk_lt {xs : Array Value} {i : Nat} {v : Value} (h : xs[i]? = some v) : i < xs.size := by
  by_cases q : i < xs.size
  · exact q
  · rw [Array.getElem?_eq_none (by omega)] at h; cases h
theorem EvOk.sub {nw nw' : List (Addr × Obj)} {evs ovs pvs : Array Value} {aw x y u v : Int} {i : Nat} (s : ∀ p ∈ nw, p ∈ nw') (h : EvOk nw evs ovs pvs aw i x y u v) : EvOk nw' evs ovs pvs aw i x y u v := by
  obtain ⟨p, r, pl, o, to, a1, a2, a3, a4, a5, a6, a7, a8, a9⟩ := h
  exact ⟨p, r, pl, o, to, a1, a2.sub s, a3, a4, a5, a6, a7.sub s, a8, a9.sub s⟩
theorem UnOk.sub {nw nw' : List (Addr × Obj)} {evs ovs lvs qvs : Array Value} {ea oa : Addr} {aw : Int} {n j : Nat} (s : ∀ p ∈ nw, p ∈ nw') (h : UnOk nw evs ovs lvs qvs ea oa aw n j) : UnOk nw' evs ovs lvs qvs ea oa aw n j := by
  obtain ⟨lo, hi, l, x, y, u, w, p, q, key, ta, tb, a1, a2, a3, a4, a5, a6, a7, a8, a9, a10, a11, a12, a13⟩ := h
  exact ⟨lo, hi, l, x, y, u, w, p, q, key, ta, tb, a1, a2.sub s, a3.sub s, a4.sub s, a5, a6, a7.sub s, a8, a9.sub s, a10, a11, a12, a13.sub s⟩
theorem LnOk.sub {nw nw' : List (Addr × Obj)} {kvs evs ovs pvs : Array Value} {ea oa : Addr} {aw : Int} {i : Nat} {ax ay bx by' : Int} (s : ∀ p ∈ nw, p ∈ nw') (h : LnOk nw kvs evs ovs pvs ea oa aw i ax ay bx by') : LnOk nw' kvs evs ovs pvs ea oa aw i ax ay bx by' := by
  obtain ⟨k, p, r, o, to, l, lo, hi', a1, a2, a5, a6, a7, a9, a10, a11, a12, a13, a14, a15, a16⟩ := h
  exact ⟨k, p, r, o, to, l, lo, hi', a1, a2.sub s, a5, a6.sub s, a7, a9, a10, a11.sub s, a12, a13.sub s, a14.sub s, a15.sub s, a16⟩
theorem Core.next {nw : List (Addr × Obj)} {evs ovs plv lvs qvs : Array Value} {ea oa : Addr} {aw : Int} {n c k : Nat} (K : Core nw evs ovs plv lvs qvs ea oa aw n c k) : Core nw evs ovs plv lvs qvs ea oa aw n c (k + 1) :=
  ⟨K.ze, K.zo, K.zp, K.zl, K.zq, K.ev, K.ln, fun j hj hn => K.un j (by omega) hn⟩
theorem cut_core {nw nw' : List (Addr × Obj)} {evs ovs plv lvs qvs : Array Value} {ea oa : Addr} {aw : Int} {n c k : Nat} (K : Core nw evs ovs plv lvs qvs ea oa aw n c k) (hk : k < n) (hn : n < 100) (hc : c < 100) (s : ∀ p ∈ nw, p ∈ nw')
    {lo hi l p q key : Addr} {x y u w : Int} {ta tb : Tok} (h1 : qvs[k]? = some (.ref l)) (h3 : IsTp nw lo x y) (h4 : IsTp nw hi u w) (h5 : Grid4 x y u w) (h6 : evs[2 * k]? = some (.ref p)) (h7 : IsPt nw p (x + aw) (y - aw)) (h8 : evs[rt n k]? = some (.ref q)) (h9 : IsPt nw q (u + aw) (w - aw))
    (h12 : lvs[k]? = some (.ref key)) (h13 : IsSK nw key ea oa (2 * (k : Int)))
    {mi t1 t2 t3 t4 p1 p2 q1 q2 key' : Addr} {tk1 tk2 tk3 tk4 : Tok} {mx my i1 i2 i3 i4 : Int} {a b : Nat} (ea' : a = 2 * k) (eb' : b = rt n k) (e1 : i1 = ((rt n k : Nat) : Int)) (e2 : i2 = 2 * (k : Int)) (e3 : i3 = ((evs.size : Nat) : Int)) (e4 : i4 = ((evs.size : Nat) : Int) + 1) (emx : mx = (x + u) / 2) (emy : my = (y + w) / 2)
    (m0 : IsTp nw' mi mx my) (m1 : IsPlN nw' t1 x y 1 mx my) (m2 : IsPlN nw' t2 u w 0 mx my) (m3 : IsPlN nw' t3 mx my 1 u w) (m4 : IsPlN nw' t4 mx my 0 x y) (m5 : IsPt nw' p1 (mx + aw) (my - aw)) (m6 : IsPt nw' p2 (mx + aw) (my - aw)) (m7 : IsSeg nw' q1 lo mi) (m8 : IsSeg nw' q2 mi hi) (m9 : IsSK nw' key' ea oa ((evs.size : Nat) : Int)) :
    Core nw' ((evs.push (.ref p1)).push (.ref p2)) ((((ovs.push (.int i1 tk1)).push (.int i2 tk2)).setIfInBounds b (.int i3 tk3)).setIfInBounds a (.int i4 tk4)) (((plv.setIfInBounds a (.ref t1)).setIfInBounds b (.ref t2)).push (.ref t3) |>.push (.ref t4)) (lvs.push (.ref key')) ((qvs.setIfInBounds k (.ref q1)).push (.ref q2)) ea oa aw n (c + 1) (k + 1) := by
  subst ea' eb' e1 e2 e3 e4 emx emy
  have r1 := rt_lt (n := n) (k := k) (Nat.lt_of_le_of_lt (Nat.zero_le k) hk)
  have r2 := rt_odd n k
  obtain ⟨ze, zo, zp, zl, zq, Kev, Kln, Kun⟩ := K
  obtain ⟨G1, G2⟩ := mid_b h5
  clear h5
  have so : ovs.size = evs.size := zo.trans ze.symm
  have sp : plv.size = evs.size := zp.trans ze.symm
  have lA : 2 * k < evs.size := lt_2k hk ze
  have lB : rt n k < evs.size := lt_rt r1 ze
  have nAB : 2 * k ≠ rt n k := od_ne r2
  have hE : evs.size + 1 < 1000 := sz_9 hn hc ze
  have EL : ∀ i v, evs[i]? = some v → ((evs.push (.ref p1)).push (.ref p2))[i]? = some v := fun i v h => lk_push (lk_push h)
  have EN : ((evs.push (.ref p1)).push (.ref p2))[evs.size]? = some (.ref p1) := lk_push lk_end
  have EN1 : ((evs.push (.ref p1)).push (.ref p2))[evs.size + 1]? = some (.ref p2) := lk_end' (Array.size_push ..)
  obtain ⟨OL, O1, O2, O3, O4⟩ := arrO (a := .int ((rt n k : Nat) : Int) tk1) (b := .int (2 * (k : Int)) tk2) (x := .int ((evs.size : Nat) : Int) tk3) (y := .int (((evs.size : Nat) : Int) + 1) tk4) (so.symm ▸ lA) (so.symm ▸ lB) nAB
  obtain ⟨PL, P1, P2, P3, P4⟩ := arrP (a := .ref t3) (b := .ref t4) (x := .ref t2) (y := .ref t1) (sp.symm ▸ lA) (sp.symm ▸ lB) nAB
  rw [so] at O3 O4
  rw [sp] at P3 P4
  have Q1 : ((qvs.setIfInBounds k (.ref q1)).push (.ref q2))[k]? = some (.ref q1) := lk_push (lk_at (zq.symm ▸ Nat.lt_of_lt_of_le hk (Nat.le_add_right n c)))
  have Q2 : ((qvs.setIfInBounds k (.ref q1)).push (.ref q2))[n + c]? = some (.ref q2) := lk_end' (by rw [Array.size_setIfInBounds, zq])
  have t2 := tn_2 k
  have m1' : (2 * k) % 2 = 0 := Nat.mul_mod_right 2 k
  have m3' : evs.size % 2 = 0 := ev_2 ze
  have m4' : (evs.size + 1) % 2 ≠ 0 := od_2 m3'
  refine ⟨?_, ?_, ?_, ?_, ?_, fun i hii => ?_, fun i hii => ?_, fun j hj hjn => ?_⟩
  · rw [Array.size_push, Array.size_push, ze]; omega
  · rw [Array.size_setIfInBounds, Array.size_setIfInBounds, Array.size_push, Array.size_push, zo]; omega
  · rw [Array.size_push, Array.size_push, Array.size_setIfInBounds, Array.size_setIfInBounds, zp]; omega
  · rw [Array.size_push, zl]; omega
  · rw [Array.size_push, Array.size_setIfInBounds, zq]; omega
  · by_cases c1 : i = 2 * k
    · subst c1
      exact ⟨x, y, _, _, ⟨p, p2, t1, _, tk4, EL _ _ h6, h7.sub s, O1, Int.natCast_nonneg (evs.size + 1), i1000 hE, EN1, m6, P1, by rw [if_pos m1']; exact m1⟩⟩
    · by_cases c2 : i = rt n k
      · subst c2
        exact ⟨u, w, _, _, ⟨q, p1, _, _, tk3, EL _ _ h8, h9.sub s, O2, Int.natCast_nonneg _, i1000 (Nat.lt_of_succ_lt hE), EN, m5, P2, by rw [if_neg (by rw [r2]; decide)]; exact m2⟩⟩
      · by_cases c3 : i = evs.size
        · subst c3
          exact ⟨_, _, u, w, ⟨p1, q, t3, _, tk1, EN, m5, O3, Int.natCast_nonneg _, i1000 (Nat.lt_trans lB (Nat.lt_of_succ_lt hE)), EL _ _ h8, h9.sub s, P3, by rw [if_pos m3']; exact m3⟩⟩
        · by_cases c4 : i = evs.size + 1
          · subst c4
            exact ⟨_, _, x, y, ⟨p2, p, t4, _, tk2, EN1, m6, O4, Int.natCast_nonneg (2 * k), i1000 (x := 2 * k) (Nat.lt_trans lA (Nat.lt_of_succ_lt hE)), by rw [t2]; exact EL _ _ h6, h7.sub s, P4, by rw [if_neg m4']; exact m4⟩⟩
          · obtain ⟨x', y', u', v', ⟨p', r', pl', o', to', b1, b2, b3, b4, b5, b6, b7, b8, b9⟩⟩ := Kev i (lt_2 hii (ze ▸ c3) (ze ▸ c4))
            exact ⟨x', y', u', v', ⟨p', r', pl', o', to', EL _ _ b1, b2.sub s, OL _ _ c1 c2 b3, b4, b5, EL _ _ b6, b7.sub s, PL _ _ c1 c2 b8, b9.sub s⟩⟩
  · by_cases c1 : i = k
    · subst c1
      exact ⟨x, y, _, _, ⟨key, p, p2, evs.size + 1, tk4, q1, lo, mi, lk_push h12, h13.sub s, EL _ _ h6, h7.sub s, O1, hE, EN1, m6, Q1, m7, h3.sub s, m0, G1⟩⟩
    · by_cases c2 : i = n + c
      · have e2 : 2 * i = evs.size := by rw [c2, ze]; omega
        refine ⟨_, _, u, w, ⟨key', p1, q, rt n k, tk1, q2, mi, hi, c2 ▸ lk_end' zl, ?_, ?_, m5, ?_, Nat.lt_trans lB (Nat.lt_of_succ_lt hE), EL _ _ h8, h9.sub s, c2 ▸ Q2, m8, m0, h4.sub s, G2⟩⟩
        · rw [show (2 * (i : Int)) = ((evs.size : Nat) : Int) by rw [← e2]; rfl]; exact m9
        · rw [e2]; exact EN
        · rw [e2]; exact O3
      · obtain ⟨ax, ay, bx, by', ⟨k', p', r', o', to', l', lo', hi', a1, a2, a5, a6, a7, a9, a10, a11, a12, a13, a14, a15, a16⟩⟩ := Kln i (lt_1 hii c2)
        exact ⟨ax, ay, bx, by', ⟨k', p', r', o', to', l', lo', hi', lk_push a1, a2.sub s, EL _ _ a5, a6.sub s, OL _ _ (two_ne c1) (od_ne r2) a7, a9, EL _ _ a10, a11.sub s, lk_push (lk_set c1 a12), a13.sub s, a14.sub s, a15.sub s, a16⟩⟩
  · obtain ⟨lo', hi', l', x', y', u', w', p', q', key2, ta', tb', a1, a2, a3, a4, a5, a6, a7, a8, a9, a10, a11, a12, a13⟩ := (Kun j (Nat.le_of_succ_le hj) hjn)
    have r4 := rt_odd n j
    have r5 : rt n j ≠ rt n k := fun e => absurd (rt_inj hjn hk e) (Ne.symm (Nat.ne_of_lt hj))
    exact ⟨lo', hi', l', x', y', u', w', p', q', key2, ta', tb', lk_push (lk_set (Ne.symm (Nat.ne_of_lt hj)) a1), a2.sub s, a3.sub s, a4.sub s, a5, EL _ _ a6, a7.sub s, EL _ _ a8, a9.sub s, OL _ _ (two_ne (Ne.symm (Nat.ne_of_lt hj))) (od_ne r2) a10, OL _ _ (Ne.symm (od_ne r4)) r5 a11, lk_push a12, a13.sub s⟩

structure NeP (pa la ea pl oa L : Addr) : Prop where
  b0 : @Ne Nat pa la
  b1 : @Ne Nat pa ea
  b2 : @Ne Nat pa pl
  b3 : @Ne Nat pa oa
  b4 : @Ne Nat pa (L+1+1+1+1)
  b5 : @Ne Nat pa (L+1+1+1)
  b6 : @Ne Nat pa (L+1+1)
  b7 : @Ne Nat pa (L+1)
structure NeS (la ea pl oa L : Addr) : Prop where
  b0 : @Ne Nat la ea
  b1 : @Ne Nat la pl
  b2 : @Ne Nat la oa
  b3 : @Ne Nat la (L+1+1+1+1)
  b4 : @Ne Nat la (L+1+1+1)
  b5 : @Ne Nat la (L+1+1)
  b6 : @Ne Nat la (L+1)
  d1 : @Ne Nat ea pl
  d2 : @Ne Nat ea oa
  d3 : @Ne Nat ea (L+1+1+1+1)
  d4 : @Ne Nat ea (L+1+1+1)
  d5 : @Ne Nat ea (L+1+1)
  d6 : @Ne Nat ea (L+1)
abbrev pre9 (la ea pl oa pa L : Addr) (l0 o0 o1 o2 o3 c4 c3 c2 c1 : Obj) (nw : List (Addr × Obj)) : List (Addr × Obj) := (la, l0) :: (ea, o0) :: (pl, o1) :: (oa, o2) :: (pa, o3) :: (L+1+1+1+1, c4) :: (L+1+1+1, c3) :: (L+1+1, c2) :: (L+1, c1) :: nw
inductive JCut (la ea pl oa L : Addr) (c4 c3 c2 c1 : Obj) (nw : List (Addr × Obj)) (aw : Int) (n : Nat) (k : Nat) (u : Str → Option Value) (news : List (Addr × Obj)) : Prop
  | mk (c : Nat) (pa : Addr) (plv : Array Value) (npl : Nat) (evs : Array Value) (ne : Nat) (ovs : Array Value) (no : Nat) (lks : Array Value) (nl : Nat) (pvs : Array Value) (np : Nat) (nw' : List (Addr × Obj)) (z0 : news = pre9 la ea pl oa pa L (listOf lks nl) (listOf evs ne) (listOf pvs np) (listOf ovs no) (listOf plv npl) c4 c3 c2 c1 nw') (z1 : u "places" = some (.ref pa)) (z2 : Core nw' evs ovs plv lks pvs ea oa aw n c k) (z3 : c ≤ k) (z4 : (∀ p ∈ nw, p ∈ nw')) (z5 : Dis nw' pl oa pa L) (z6 : (∀ p ∈ nw', p.1 ≠ ea)) (z7 : (∀ p ∈ nw', p.1 ≠ la)) (z8 : NeP pa la ea pl oa L) : JCut la ea pl oa L c4 c3 c2 c1 nw aw n k u news
inductive S7 (h₀ : Heap) (L : Addr) (s₀ s : Shared) : Prop
  | mk (h : Heap) (tk : Nat) (m : Str → Option Value) (nw : List (Addr × Obj)) (c1 c2 c3 c4 : Obj) (aw : Int) (pl : Addr) (pvs : Array Value) (np n : Nat) (oa : Addr) (ovs : Array Value) (no : Nat) (pa : Addr) (plv : Array Value) (npl : Nat) (tm : Tok) (ea : Addr) (evs : Array Value) (ne : Nat) (la : Addr) (lks : Array Value) (nl : Nat) (ka : Addr) (kvs : Array Value) (nk : Nat) (c : Nat) (z0 : s = { s₀ with heap := h, toks := tk }) (z1 : Fr h₀ L h m) (z2 : News h₀ L h (pre9 la ea pl oa pa L (listOf lks nl) (listOf evs ne) (listOf pvs np) (listOf ovs no) (listOf plv npl) c4 c3 c2 c1 nw)) (z3 : c2.data = .cell (some (.ref oa))) (z4 : c3.data = .cell (some (.ref ea))) (z5 : m "pieces" = some (.ref pl)) (z6 : m "many" = some (.int (2 * (n : Int)) tm)) (z7 : m "places" = some (.ref pa)) (z8 : m "keys" = some (.ref ka)) (z9 : m "lines" = some (.ref la)) (z10 : Core nw evs ovs plv lks pvs ea oa aw n c n) (z11 : c ≤ n) (z12 : (ka, listOf kvs nk) ∈ nw) (z13 : kvs.size = 2 * n) (z14 : (∀ i : Nat, i < 2 * n → ∃ key, kvs[i]? = some (.ref key) ∧ IsQK nw key ea oa i)) (z15 : Dis nw pl oa pa L) (z16 : (∀ p ∈ nw, p.1 ≠ ea)) (z17 : (∀ p ∈ nw, p.1 ≠ la)) (z18 : NeS la ea pl oa L) (z19 : NeP pa la ea pl oa L) (z20 : @LT.lt Nat _ (L+1+1+1+1) pl) (z21 : @LT.lt Nat _ pl oa) (z22 : (n = 2 ∨ n = 4)) : S7 h₀ L s₀ s

section
variable {prog : Program} {w : World} {A : Around} {E : Value → Shared → Prop} {s : Shared} {h₀ : Heap} {L a b : Addr} {m : Str → Option Value} {news : List (Addr × Obj)} {its its2 : Array Value} {Q : Value → Shared → Prop} {n k : Nat} {x y : Value}
theorem add_any (F : Fr h₀ L s.heap m) (N : News h₀ L s.heap news) (ha : (a, listOf its n) ∈ news) (hb : (b, listOf its2 k) ∈ news) (hz : its.size + its2.size ≤ 1000)
    (h : ∀ D h', Fr h₀ L h' m → News h₀ L h' ((D, listOf (its ++ its2) 0) :: news) → (∀ p ∈ news, p.1 < D) → Q (.ref D) { s with heap := h' }) : wpAny (model prog w) A (binaryOp .Add (.ref a) (.ref b)) Q E s := by
  have e : (its.toList ++ its2.toList).toArray = its ++ its2 := by apply Array.toList_inj.mp; simp
  exact kmk_add_lit F N (isLst N ha) (isLst N hb) rfl (fun D h' F' N' l => h D h' F' (e ▸ N') l) (by rw [sizeLine_eq, Array.length_toList, Array.length_toList]; omega)
theorem add_two (F : Fr h₀ L s.heap m) (N : News h₀ L s.heap news) (ha : (a, listOf its n) ∈ news) (hb : (b, listOf #[x, y] k) ∈ news) (hz : its.size + 2 ≤ 1000)
    (h : ∀ D h', Fr h₀ L h' m → News h₀ L h' ((D, listOf ((its.push x).push y) 0) :: news) → (∀ p ∈ news, p.1 < D) → Q (.ref D) { s with heap := h' }) : wpAny (model prog w) A (binaryOp .Add (.ref a) (.ref b)) Q E s := by
  have e : its ++ #[x, y] = (its.push x).push y := by apply Array.toList_inj.mp; simp
  exact add_any F N ha hb (by simpa using hz) (fun D h' F' N' l => h D h' F' (e ▸ N') l)
end
def FrNews (h₀ : Heap) (L : Addr) (m : Str → Option Value) (led : List (Addr × Obj)) (s s' : Shared) : Prop := ∃ h tk, s' = { s with heap := h, toks := tk } ∧ Fr h₀ L h m ∧ News h₀ L h led
theorem if_fr {M : Model} {A : Around} {E : Value → Shared → Prop} {env : Env} {s : Shared} {h₀ : Heap} {L : Addr} {m : Str → Option Value} {led : List (Addr × Obj)} {test : Expr} {body orelse : List Stmt} {pos : Pos} {Q : Flow → Shared → Prop} (F : Fr h₀ L s.heap m) (N : News h₀ L s.heap led)
    (h1 : wpAny M A (isTrue test env (eval test env)) (fun _ s' => FrNews h₀ L m led s s') E s)
    (hT : ∀ h tk, Fr h₀ L h m → News h₀ L h led → wpAny M A (execs body env) Q E { s with heap := h, toks := tk })
    (hF : ∀ h tk, Fr h₀ L h m → News h₀ L h led → wpAny M A (execs orelse env) Q E { s with heap := h, toks := tk }) : wpAny M A (exec (.If test body orelse pos) env) Q E s := by
  have _ := F
  have _ := N
  refine wpAny_If (wpAny_mono h1 (fun b s' q => ?_) fun _ _ q => q)
  obtain ⟨h, tk, rfl, F', N'⟩ := q
  cases b
  · exact hF h tk F' N'
  · exact hT h tk F' N'

theorem newN {t mi x : Nat} (h : t < mi) (l : mi ≤ x) : @Ne Nat x t := Nat.ne_of_gt (Nat.lt_of_lt_of_le h l)
theorem cut_close {h₀ h : Heap} {L : Addr} {x₀ : Str} {stored : List Str} {m₀ m' : Str → Option Value} {I : Addr} {oI : Obj} {Q : Flow → Shared → Prop} {s₁ : Shared} {tk : Nat} {la ea pl oa pa : Addr} {c4 c3 c2 c1 : Obj} {nw nw1 : List (Addr × Obj)} {aw : Int} {n i c : Nat}
    {evs ovs plv lks pvs : Array Value} {ne no npl nl np nA nB nP nl' no' ne' np' : Nat} {lo hh l p q key : Addr} {x y u w mx my : Int} {ta tb : Tok}
    {dS xS B A P lT t4 t3 dP t2 t1 dN q2 e2 q1 e1 dT mi mo cx : Nat} {olT odP odN odT : Obj} {z1 z2 z3 z4 z5 z6 z7 z8 z9 z10 z11 z12 z13 z14 : Tok} {g1 g2 g3 g4 g5 : Tok} {k1 k2 k3 k4 : Nat} {h1 hE hO hR : Int} {i1 i2 i3 i4 i5 : Int} {a b ii : Nat}
    (F : Fr h₀ L h m')
    (N : News h₀ L h ((xS, instObj 287 dS) :: (dS, dictOf [⟨h1, .str "endpoints" g1, .ref ea⟩, ⟨hE, .str "event" g2, .int i5 g5⟩, ⟨hO, .str "opposites" g3, .ref oa⟩, ⟨hR, .str "_orienteer" g4, .ref mo⟩] 4) :: (B, listOf #[.ref mi, .ref hh] nB) :: (A, listOf #[.ref lo, .ref mi] nA) ::
      (P, listOf ((((plv.setIfInBounds a (.ref t1)).setIfInBounds b (.ref t2)).push (.ref t3)).push (.ref t4)) nP) :: (lT, olT) :: (t4, ({ cls := .type "tuple", data := .seq #[.ref mi, .int 0 z1, .ref lo] } : Obj)) :: (t3, ({ cls := .type "tuple", data := .seq #[.ref mi, .int 1 z2, .ref hh] } : Obj)) :: (dP, odP) ::
      (t2, ({ cls := .type "tuple", data := .seq #[.ref hh, .int 0 z3, .ref mi] } : Obj)) :: (t1, ({ cls := .type "tuple", data := .seq #[.ref lo, .int 1 z4, .ref mi] } : Obj)) :: (dN, odN) :: (q2, ptObj e2 (mx + aw) (my - aw) z5 z6) :: (e2, edict) :: (q1, ptObj e1 (mx + aw) (my - aw) z7 z8) :: (e1, edict) :: (dT, odT) :: (mi, tpObj mx my z9 z10) :: (I, oI) ::
      (la, listOf (lks.push (.ref xS)) nl') :: (ea, listOf ((evs.push (.ref q1)).push (.ref q2)) ne') :: (pl, listOf ((pvs.setIfInBounds ii (.ref A)).push (.ref B)) np') :: (oa, listOf ((((ovs.push (.int i1 z11)).push (.int i2 z12)).setIfInBounds b (.int i3 z13)).setIfInBounds a (.int i4 z14)) no') :: (pa, listOf ((plv.setIfInBounds a (.ref t1)).setIfInBounds b (.ref t2)) npl) ::
      (L+1+1+1+1, c4) :: (L+1+1+1, c3) :: (L+1+1, c2) :: (L+1, c1) :: nw1))
    (hu : m' "places" = some (.ref P)) (hm : ∀ y, y ≠ x₀ → stored.contains y = false → m' y = m₀ y) (K : Core nw1 evs ovs plv lks pvs ea oa aw n c i) (hi : i < n) (hn : n < 100) (hc : c ≤ i) (sub : ∀ p ∈ nw, p ∈ nw1) (Di : Dis nw1 pl oa pa L) (De : ∀ p ∈ nw1, p.1 ≠ ea) (Dl : ∀ p ∈ nw1, p.1 ≠ la) (DI : ∀ p ∈ nw1, p.1 ≠ I) (DP : AllLt P nw1)
    (hmo : (mo, methodObj (.ref 249) (.ref cx)) ∈ nw1) (f1 : pvs[i]? = some (.ref l)) (f3 : IsTp nw1 lo x y) (f4 : IsTp nw1 hh u w) (f5 : Grid4 x y u w) (f6 : evs[2 * i]? = some (.ref p)) (f7 : IsPt nw1 p (x + aw) (y - aw)) (f8 : evs[rt n i]? = some (.ref q)) (f9 : IsPt nw1 q (u + aw) (w - aw)) (f12 : lks[i]? = some (.ref key)) (f13 : IsSK nw1 key ea oa (2 * (i : Int)))
    (eii : ii = i) (ea' : a = 2 * i) (eb' : b = rt n i) (v1 : i1 = ((rt n i : Nat) : Int)) (v2 : i2 = 2 * (i : Int)) (v3 : i3 = ((evs.size : Nat) : Int)) (v4 : i4 = ((evs.size : Nat) : Int) + 1) (v5 : i5 = ((evs.size : Nat) : Int)) (emx : mx = (x + u) / 2) (emy : my = (y + w) / 2)
    (nI : @Ne Nat la I ∧ @Ne Nat ea I ∧ @Ne Nat pl I ∧ @Ne Nat oa I ∧ @Ne Nat (L+1+1+1+1) I ∧ @Ne Nat (L+1+1+1) I ∧ @Ne Nat (L+1+1) I ∧ @Ne Nat (L+1) I)
    (old : @LT.lt Nat _ I mi ∧ @LT.lt Nat _ la mi ∧ @LT.lt Nat _ ea mi ∧ @LT.lt Nat _ pl mi ∧ @LT.lt Nat _ oa mi ∧ @LT.lt Nat _ (L+1+1+1+1) mi)
    (ch : mi < e1 ∧ e1 < q1 ∧ q1 < e2 ∧ e2 < q2 ∧ q2 < t1 ∧ t1 < t2 ∧ t2 < t3 ∧ t3 < t4 ∧ t4 < P ∧ P < A ∧ A < B ∧ B < dS ∧ dS < xS) :
    TurnJ h₀ L x₀ stored m₀ I oI (JCut la ea pl oa L c4 c3 c2 c1 nw aw n (i + 1)) s₁ Q .next { s₁ with heap := h, toks := tk } := by
  subst eii
  let nw' : List (Addr × Obj) := (xS, instObj 287 dS) :: (dS, dictOf [⟨h1, .str "endpoints" g1, .ref ea⟩, ⟨hE, .str "event" g2, .int i5 g5⟩, ⟨hO, .str "opposites" g3, .ref oa⟩, ⟨hR, .str "_orienteer" g4, .ref mo⟩] 4) :: (B, listOf #[.ref mi, .ref hh] nB) :: (A, listOf #[.ref lo, .ref mi] nA) :: (t4, ({ cls := .type "tuple", data := .seq #[.ref mi, .int 0 z1, .ref lo] } : Obj)) :: (t3, ({ cls := .type "tuple", data := .seq #[.ref mi, .int 1 z2, .ref hh] } : Obj)) :: (t2, ({ cls := .type "tuple", data := .seq #[.ref hh, .int 0 z3, .ref mi] } : Obj)) :: (t1, ({ cls := .type "tuple", data := .seq #[.ref lo, .int 1 z4, .ref mi] } : Obj)) :: (q2, ptObj e2 (mx + aw) (my - aw) z5 z6) :: (e2, edict) :: (q1, ptObj e1 (mx + aw) (my - aw) z7 z8) :: (e1, edict) :: (mi, tpObj mx my z9 z10) :: nw1
  have s1 : ∀ p ∈ nw1, p ∈ nw' := fun p hp => .tail _ (.tail _ (.tail _ (.tail _ (.tail _ (.tail _ (.tail _ (.tail _ (.tail _ (.tail _ (.tail _ (.tail _ (.tail _ hp))))))))))))
  have gb := f5.b
  have m0 : IsTp nw' mi mx my := IsTp.mk' (tx := z9) (ty := z10) (.tail _ (.tail _ (.tail _ (.tail _ (.tail _ (.tail _ (.tail _ (.tail _ (.tail _ (.tail _ (.tail _ (.tail _ (.head _))))))))))))) (by omega) (by omega)
  have KC := cut_core (ta := ta) (tb := tb) (a := a) (b := b) (nw' := nw') (t1 := t1) (t2 := t2) (t3 := t3) (t4 := t4) (p1 := q1) (p2 := q2) (q1 := A) (q2 := B) (key' := xS) (mi := mi) (tk1 := z11) (tk2 := z12) (tk3 := z13) (tk4 := z14) K hi hn (by omega) s1 f1 f3 f4 f5 f6 f7 f8 f9 f12 f13 ea' eb' v1 v2 v3 v4 emx emy m0
    ⟨lo, mi, z4, .tail _ (.tail _ (.tail _ (.tail _ (.tail _ (.tail _ (.tail _ (.head _))))))), f3.sub s1, m0⟩ ⟨hh, mi, z3, .tail _ (.tail _ (.tail _ (.tail _ (.tail _ (.tail _ (.head _)))))), f4.sub s1, m0⟩ ⟨mi, hh, z2, .tail _ (.tail _ (.tail _ (.tail _ (.tail _ (.head _))))), m0, f4.sub s1⟩ ⟨mi, lo, z1, .tail _ (.tail _ (.tail _ (.tail _ (.head _)))), m0, f3.sub s1⟩
    ⟨e1, z7, z8, .tail _ (.tail _ (.tail _ (.tail _ (.tail _ (.tail _ (.tail _ (.tail _ (.tail _ (.tail _ (.head _)))))))))), .tail _ (.tail _ (.tail _ (.tail _ (.tail _ (.tail _ (.tail _ (.tail _ (.tail _ (.tail _ (.tail _ (.head _)))))))))))⟩ ⟨e2, z5, z6, .tail _ (.tail _ (.tail _ (.tail _ (.tail _ (.tail _ (.tail _ (.tail _ (.head _)))))))), .tail _ (.tail _ (.tail _ (.tail _ (.tail _ (.tail _ (.tail _ (.tail _ (.tail _ (.head _)))))))))⟩
    ⟨nA, .tail _ (.tail _ (.tail _ (.head _)))⟩ ⟨nB, .tail _ (.tail _ (.head _))⟩ ⟨dS, g1, g2, g3, g4, g5, h1, hE, hO, hR, mo, cx, .head _, v5 ▸ .tail _ (.head _), s1 _ hmo⟩
  obtain ⟨w1', w2', w3', w4', w5', w6', w7', w8', w9', w10', w11', w12', w13'⟩ := ch
  obtain ⟨v1', v2', v3', v4', v5', v6'⟩ := old
  have a1 := Nat.le_of_lt w1'
  have a2 := Nat.le_trans a1 (Nat.le_of_lt w2')
  have a3 := Nat.le_trans a2 (Nat.le_of_lt w3')
  have a4 := Nat.le_trans a3 (Nat.le_of_lt w4')
  have a5 := Nat.le_trans a4 (Nat.le_of_lt w5')
  have a6 := Nat.le_trans a5 (Nat.le_of_lt w6')
  have a7 := Nat.le_trans a6 (Nat.le_of_lt w7')
  have a8 := Nat.le_trans a7 (Nat.le_of_lt w8')
  have a9 := Nat.le_trans a8 (Nat.le_of_lt w9')
  have a10 := Nat.le_trans a9 (Nat.le_of_lt w10')
  have a11 := Nat.le_trans a10 (Nat.le_of_lt w11')
  have a12 := Nat.le_trans a11 (Nat.le_of_lt w12')
  have a13 := Nat.le_trans a12 (Nat.le_of_lt w13')
  have AN : ∀ t : Nat, t < mi → (∀ p ∈ nw1, @Ne Nat p.1 t) → ∀ p ∈ nw', @Ne Nat p.1 t := fun t ht h1 => by
    simp only [nw', List.forall_mem_cons]
    exact ⟨newN ht a13, newN ht a12, newN ht a11, newN ht a10, newN ht a8, newN ht a7, newN ht a6, newN ht a5, newN ht a4, newN ht a3, newN ht a2, newN ht a1, newN ht (Nat.le_refl _), h1⟩
  have b1 := w10'
  have b2 := Nat.lt_trans b1 w11'
  have b3 := Nat.lt_trans b2 w12'
  have b4 := Nat.lt_trans b3 w13'
  have f8' := w9'
  have f7' := Nat.lt_trans w8' f8'
  have f6' := Nat.lt_trans w7' f7'
  have f5' := Nat.lt_trans w6' f6'
  have f4' := Nat.lt_trans w5' f5'
  have f3' := Nat.lt_trans w4' f4'
  have f2' := Nat.lt_trans w3' f3'
  have f1' := Nat.lt_trans w2' f2'
  have f0' := Nat.lt_trans w1' f1'
  have l3' : @LT.lt Nat _ (L+1+1+1) mi := Nat.lt_trans (Nat.lt_succ_self _) v6'
  have l2' : @LT.lt Nat _ (L+1+1) mi := Nat.lt_trans (Nat.lt_succ_self _) l3'
  have l1' : @LT.lt Nat _ (L+1) mi := Nat.lt_trans (Nat.lt_succ_self _) l2'
  refine turnJ_next (news' := pre9 la ea pl oa P L _ _ _ _ _ c4 c3 c2 c1 nw') F ?_ ?_ ⟨c + 1, P, _, nP, _, ne', _, no', _, nl', _, np', nw', rfl, hu, KC, Nat.succ_le_succ hc, fun p hp => s1 _ (sub p hp), ?_, AN ea v3' De, AN la v2' Dl, ?_⟩ hm
  · exact News.pick N (.tail _ (.tail _ (.tail _ (.tail _ (.tail _ (.tail _ (.tail _ (.tail _ (.tail _ (.tail _ (.tail _ (.tail _ (.tail _ (.tail _ (.tail _ (.tail _ (.tail _ (.tail _ (.head _))))))))))))))))))) (News.pick N (.tail _ (.tail _ (.tail _ (.tail _ (.tail _ (.tail _ (.tail _ (.tail _ (.tail _ (.tail _ (.tail _ (.tail _ (.tail _ (.tail _ (.tail _ (.tail _ (.tail _ (.tail _ (.tail _ (.head _)))))))))))))))))))) (News.pick N (.tail _ (.tail _ (.tail _ (.tail _ (.tail _ (.tail _ (.tail _ (.tail _ (.tail _ (.tail _ (.tail _ (.tail _ (.tail _ (.tail _ (.tail _ (.tail _ (.tail _ (.tail _ (.tail _ (.tail _ (.head _))))))))))))))))))))) (News.pick N (.tail _ (.tail _ (.tail _ (.tail _ (.tail _ (.tail _ (.tail _ (.tail _ (.tail _ (.tail _ (.tail _ (.tail _ (.tail _ (.tail _ (.tail _ (.tail _ (.tail _ (.tail _ (.tail _ (.tail _ (.tail _ (.head _)))))))))))))))))))))) (News.pick N (.tail _ (.tail _ (.tail _ (.tail _ (.tail _ (.tail _ (.tail _ (.tail _ (.tail _ (.tail _ (.tail _ (.tail _ (.tail _ (.tail _ (.tail _ (.tail _ (.tail _ (.tail _ (.tail _ (.tail _ (.tail _ (.tail _ (.head _))))))))))))))))))))))) (News.pick N (.tail _ (.tail _ (.tail _ (.tail _ (.head _))))) (News.pick N (.tail _ (.tail _ (.tail _ (.tail _ (.tail _ (.tail _ (.tail _ (.tail _ (.tail _ (.tail _ (.tail _ (.tail _ (.tail _ (.tail _ (.tail _ (.tail _ (.tail _ (.tail _ (.tail _ (.tail _ (.tail _ (.tail _ (.tail _ (.tail _ (.head _))))))))))))))))))))))))) (News.pick N (.tail _ (.tail _ (.tail _ (.tail _ (.tail _ (.tail _ (.tail _ (.tail _ (.tail _ (.tail _ (.tail _ (.tail _ (.tail _ (.tail _ (.tail _ (.tail _ (.tail _ (.tail _ (.tail _ (.tail _ (.tail _ (.tail _ (.tail _ (.tail _ (.tail _ (.head _)))))))))))))))))))))))))) (News.pick N (.tail _ (.tail _ (.tail _ (.tail _ (.tail _ (.tail _ (.tail _ (.tail _ (.tail _ (.tail _ (.tail _ (.tail _ (.tail _ (.tail _ (.tail _ (.tail _ (.tail _ (.tail _ (.tail _ (.tail _ (.tail _ (.tail _ (.tail _ (.tail _ (.tail _ (.tail _ (.head _))))))))))))))))))))))))))) (News.pick N (.tail _ (.tail _ (.tail _ (.tail _ (.tail _ (.tail _ (.tail _ (.tail _ (.tail _ (.tail _ (.tail _ (.tail _ (.tail _ (.tail _ (.tail _ (.tail _ (.tail _ (.tail _ (.tail _ (.tail _ (.tail _ (.tail _ (.tail _ (.tail _ (.tail _ (.tail _ (.tail _ (.head _)))))))))))))))))))))))))))) (News.pick N (.head _) (News.pick N (.tail _ (.head _)) (News.pick N (.tail _ (.tail _ (.head _))) (News.pick N (.tail _ (.tail _ (.tail _ (.head _)))) (News.pick N (.tail _ (.tail _ (.tail _ (.tail _ (.tail _ (.tail _ (.head _))))))) (News.pick N (.tail _ (.tail _ (.tail _ (.tail _ (.tail _ (.tail _ (.tail _ (.head _)))))))) (News.pick N (.tail _ (.tail _ (.tail _ (.tail _ (.tail _ (.tail _ (.tail _ (.tail _ (.tail _ (.head _)))))))))) (News.pick N (.tail _ (.tail _ (.tail _ (.tail _ (.tail _ (.tail _ (.tail _ (.tail _ (.tail _ (.tail _ (.head _))))))))))) (News.pick N (.tail _ (.tail _ (.tail _ (.tail _ (.tail _ (.tail _ (.tail _ (.tail _ (.tail _ (.tail _ (.tail _ (.tail _ (.head _))))))))))))) (News.pick N (.tail _ (.tail _ (.tail _ (.tail _ (.tail _ (.tail _ (.tail _ (.tail _ (.tail _ (.tail _ (.tail _ (.tail _ (.tail _ (.head _)))))))))))))) (News.pick N (.tail _ (.tail _ (.tail _ (.tail _ (.tail _ (.tail _ (.tail _ (.tail _ (.tail _ (.tail _ (.tail _ (.tail _ (.tail _ (.tail _ (.head _))))))))))))))) (News.pick N (.tail _ (.tail _ (.tail _ (.tail _ (.tail _ (.tail _ (.tail _ (.tail _ (.tail _ (.tail _ (.tail _ (.tail _ (.tail _ (.tail _ (.tail _ (.head _)))))))))))))))) (News.pick N (.tail _ (.tail _ (.tail _ (.tail _ (.tail _ (.tail _ (.tail _ (.tail _ (.tail _ (.tail _ (.tail _ (.tail _ (.tail _ (.tail _ (.tail _ (.tail _ (.tail _ (.head _)))))))))))))))))) (fun p hp => N p (.tail _ (.tail _ (.tail _ (.tail _ (.tail _ (.tail _ (.tail _ (.tail _ (.tail _ (.tail _ (.tail _ (.tail _ (.tail _ (.tail _ (.tail _ (.tail _ (.tail _ (.tail _ (.tail _ (.tail _ (.tail _ (.tail _ (.tail _ (.tail _ (.tail _ (.tail _ (.tail _ (.tail _ (hp))))))))))))))))))))))))))))))))))))))))))))))))))))
  · obtain ⟨w0, w1, w2, w3, w4, w5, w6, w7⟩ := nI
    exact List.forall_mem_cons.mpr ⟨w0, List.forall_mem_cons.mpr ⟨w1, List.forall_mem_cons.mpr ⟨w2, List.forall_mem_cons.mpr ⟨w3, List.forall_mem_cons.mpr ⟨newN v1' a9, List.forall_mem_cons.mpr ⟨w4, List.forall_mem_cons.mpr ⟨w5, List.forall_mem_cons.mpr ⟨w6, List.forall_mem_cons.mpr ⟨w7, AN I v1' DI⟩⟩⟩⟩⟩⟩⟩⟩⟩
  · refine ⟨AN pl v4' Di.a1, AN oa v5' Di.a2, ?_, AN _ v6' Di.a4, AN _ l3' Di.a5, AN _ l2' Di.a6, AN _ l1' Di.a7⟩
    simp only [nw', List.forall_mem_cons]
    exact ⟨Nat.ne_of_gt b4, Nat.ne_of_gt b3, Nat.ne_of_gt b2, Nat.ne_of_gt b1, Nat.ne_of_lt f8', Nat.ne_of_lt f7', Nat.ne_of_lt f6', Nat.ne_of_lt f5', Nat.ne_of_lt f4', Nat.ne_of_lt f3', Nat.ne_of_lt f2', Nat.ne_of_lt f1', Nat.ne_of_lt f0', fun p hp => Nat.ne_of_lt (ktn_ltOf DP p hp)⟩
  · exact ⟨newN v2' a9, newN v3' a9, newN v4' a9, newN v5' a9, newN v6' a9, newN l3' a9, newN l2' a9, newN l1' a9⟩

def JObj9 (la ea pl oa pa L : Addr) (l0 o0 o1 o2 o3 c4 c3 c2 c1 : Obj) (nw : List (Addr × Obj)) (P : List (Addr × Obj) → Nat → Addr → Prop) (i : Nat) (ys : List Value) (nws : List (Addr × Obj)) : Prop :=
  ∃ nw', nws = pre9 la ea pl oa pa L l0 o0 o1 o2 o3 c4 c3 c2 c1 nw' ∧ (∀ p ∈ nw, p ∈ nw') ∧ Dis nw' pl oa pa L ∧ (∀ p ∈ nw', p.1 ≠ ea) ∧ (∀ p ∈ nw', p.1 ≠ la) ∧ ∀ e, e < i → ∃ p, ys[e]? = some (.ref p) ∧ P nw' e p
theorem obj_close9 {h₀ h : Heap} {L : Addr} {m : Str → Option Value} {s₁ : Shared} {tk : Nat} {la ea pl oa pa x dx I C D : Addr} {oI oC oD l0 o0 o1 o2 o3 c4 c3 c2 c1 ox od : Obj} {nw nw1 : List (Addr × Obj)} {i : Nat} {ys : List Value} {P : List (Addr × Obj) → Nat → Addr → Prop} {S : List (Addr × Obj) → Prop}
    (N : News h₀ L h ((x, ox) :: (dx, od) :: (I, oI) :: (C, oC) :: (D, oD) :: pre9 la ea pl oa pa L l0 o0 o1 o2 o3 c4 c3 c2 c1 nw1)) (F : Fr h₀ L h m) (off : LCg.Off3 I C D (pre9 la ea pl oa pa L l0 o0 o1 o2 o3 c4 c3 c2 c1 nw1)) (hys : ys.length = i) (sub : ∀ p ∈ nw, p ∈ nw1) (Di : Dis nw1 pl oa pa L) (De : ∀ p ∈ nw1, p.1 ≠ ea) (Dl : ∀ p ∈ nw1, p.1 ≠ la)
    (old : ∀ e, e < i → ∃ p, ys[e]? = some (.ref p) ∧ P nw1 e p) (mono : ∀ (l : List (Addr × Obj)) (q : Addr × Obj) e p, P l e p → P (q :: l) e p) (new : P ((x, ox) :: (dx, od) :: nw1) i x) (hS : S (pre9 la ea pl oa pa L l0 o0 o1 o2 o3 c4 c3 c2 c1 ((x, ox) :: (dx, od) :: nw1)))
    (lt : @LT.lt Nat _ I dx ∧ @LT.lt Nat _ C dx ∧ @LT.lt Nat _ D dx ∧ @LT.lt Nat _ la dx ∧ @LT.lt Nat _ ea dx ∧ @LT.lt Nat _ pl dx ∧ @LT.lt Nat _ oa dx ∧ @LT.lt Nat _ pa dx ∧ @LT.lt Nat _ (L+1+1+1+1) dx) (lq : @LT.lt Nat _ dx x) :
    LCg.CompEnd h₀ L m s₁ I oI C oC D oD S (fun y nw' => JObj9 la ea pl oa pa L l0 o0 o1 o2 o3 c4 c3 c2 c1 nw P (i + 1) (ys ++ [y]) nw') (.ref x) { s₁ with heap := h, toks := tk } := by
  refine ⟨h, tk, pre9 la ea pl oa pa L l0 o0 o1 o2 o3 c4 c3 c2 c1 ((x, ox) :: (dx, od) :: nw1), rfl, F, ?_, ?_, hS, (x, ox) :: (dx, od) :: nw1, rfl, fun p hp => .tail _ (.tail _ (sub p hp)), Dis.cons (Dis.cons Di ?_) ?_, ?_, ?_, snoc_ref hys (fun e he => let ⟨p, a, b⟩ := old e he; ⟨p, a, mono _ _ _ _ (mono _ _ _ _ b)⟩) new⟩
  · exact News.pick N (.tail _ (.tail _ (.head _))) (News.pick N (.tail _ (.tail _ (.tail _ (.head _)))) (News.pick N (.tail _ (.tail _ (.tail _ (.tail _ (.head _))))) (News.pick N (.tail _ (.tail _ (.tail _ (.tail _ (.tail _ (.head _)))))) (News.pick N (.tail _ (.tail _ (.tail _ (.tail _ (.tail _ (.tail _ (.head _))))))) (News.pick N (.tail _ (.tail _ (.tail _ (.tail _ (.tail _ (.tail _ (.tail _ (.head _)))))))) (News.pick N (.tail _ (.tail _ (.tail _ (.tail _ (.tail _ (.tail _ (.tail _ (.tail _ (.head _))))))))) (News.pick N (.tail _ (.tail _ (.tail _ (.tail _ (.tail _ (.tail _ (.tail _ (.tail _ (.tail _ (.head _)))))))))) (News.pick N (.tail _ (.tail _ (.tail _ (.tail _ (.tail _ (.tail _ (.tail _ (.tail _ (.tail _ (.tail _ (.head _))))))))))) (News.pick N (.tail _ (.tail _ (.tail _ (.tail _ (.tail _ (.tail _ (.tail _ (.tail _ (.tail _ (.tail _ (.tail _ (.head _)))))))))))) (News.pick N (.tail _ (.tail _ (.tail _ (.tail _ (.tail _ (.tail _ (.tail _ (.tail _ (.tail _ (.tail _ (.tail _ (.tail _ (.head _))))))))))))) (News.pick N (.tail _ (.tail _ (.tail _ (.tail _ (.tail _ (.tail _ (.tail _ (.tail _ (.tail _ (.tail _ (.tail _ (.tail _ (.tail _ (.head _)))))))))))))) (News.pick N (.head _) (News.pick N (.tail _ (.head _)) (fun p hp => N p (.tail _ (.tail _ (.tail _ (.tail _ (.tail _ (.tail _ (.tail _ (.tail _ (.tail _ (.tail _ (.tail _ (.tail _ (.tail _ (.tail _ (hp)))))))))))))))))))))))))))))
  · simp only [LCg.Off3] at off ⊢
    obtain ⟨z00, z0, z1, z2, z3, z4, z5, z6, z7, z8⟩ := off
    exact ⟨z00, z0, z1, z2, z3, z4, z5, z6, z7, ⟨Nat.ne_of_gt (Nat.lt_trans lt.1 lq), Nat.ne_of_gt (Nat.lt_trans lt.2.1 lq), Nat.ne_of_gt (Nat.lt_trans lt.2.2.1 lq)⟩, ⟨Nat.ne_of_gt lt.1, Nat.ne_of_gt lt.2.1, Nat.ne_of_gt lt.2.2.1⟩, z8⟩
  · exact neq7 lt.2.2.2.2.2.1 lt.2.2.2.2.2.2.1 lt.2.2.2.2.2.2.2.1 lt.2.2.2.2.2.2.2.2
  · exact neq7 (Nat.lt_trans lt.2.2.2.2.2.1 lq) (Nat.lt_trans lt.2.2.2.2.2.2.1 lq) (Nat.lt_trans lt.2.2.2.2.2.2.2.1 lq) (Nat.lt_trans lt.2.2.2.2.2.2.2.2 lq)
  · exact List.forall_mem_cons.mpr ⟨Nat.ne_of_gt (Nat.lt_trans lt.2.2.2.2.1 lq), List.forall_mem_cons.mpr ⟨Nat.ne_of_gt lt.2.2.2.2.1, De⟩⟩
  · exact List.forall_mem_cons.mpr ⟨Nat.ne_of_gt (Nat.lt_trans lt.2.2.2.1 lq), List.forall_mem_cons.mpr ⟨Nat.ne_of_gt lt.2.2.2.1, Dl⟩⟩

structure GSz (i c R e o p l q : Nat) : Prop where
  i9 : i < 100
  R9 : R < 200
  c9 : c < 100
  e9 : e < 400
  o9 : o < 400
  p9 : p < 400
  l9 : l < 200
  q9 : q < 200
  Ro : R < o
  io : 2 * i < o
  Rp : R < p
  ip : 2 * i < p
  iq : i < q
theorem gsz {i n c R e o p l q : Nat} (hi : i < n) (hn : n < 100) (hc : c ≤ i) (r : R < 2 * n) (ze : e = 2 * n + 2 * c) (zo : o = 2 * n + 2 * c) (zp : p = 2 * n + 2 * c) (zl : l = n + c) (zq : q = n + c) : GSz i c R e o p l q := by
  have i9 := Nat.lt_trans hi hn
  have c9 := Nat.lt_of_le_of_lt hc i9
  have e9 : 2 * n + 2 * c < 400 := by clear r ze zo zp zl zq hi hc i9; omega
  have R9 : R < 200 := by clear ze zo zp zl zq hi hc i9 c9 e9; omega
  have Re : R < 2 * n + 2 * c := Nat.lt_of_lt_of_le r (Nat.le_add_right _ _)
  have ie : 2 * i < 2 * n + 2 * c := Nat.lt_of_lt_of_le ((Nat.mul_lt_mul_left (by decide)).mpr hi) (Nat.le_add_right _ _)
  have nc : n + c < 200 := Nat.add_lt_add hn c9
  have iq : i < n + c := Nat.lt_of_lt_of_le hi (Nat.le_add_right _ _)
  subst ze zo zp zl zq
  exact ⟨i9, R9, c9, e9, e9, e9, nc, nc, Re, ie, Re, ie, iq⟩
structure Ne2 (L pl oa : Addr) : Prop where
  a : @Ne Nat pl oa
  b4 : @Ne Nat (L+1+1+1+1) pl
  b3 : @Ne Nat (L+1+1+1) pl
  b2 : @Ne Nat (L+1+1) pl
  b1 : @Ne Nat (L+1) pl
  c4 : @Ne Nat (L+1+1+1+1) oa
  c3 : @Ne Nat (L+1+1+1) oa
  c2 : @Ne Nat (L+1+1) oa
  c1 : @Ne Nat (L+1) oa
theorem Ne2.mk' {L pl oa : Addr} (h1 : @LT.lt Nat _ (L+1+1+1+1) pl) (h2 : @LT.lt Nat _ pl oa) : Ne2 L pl oa := by
  refine ⟨?_, ?_, ?_, ?_, ?_, ?_, ?_, ?_, ?_⟩ <;> omega
structure Ne1 (L : Addr) : Prop where
  a : @Ne Nat (L+1+1+1+1) (L+1+1+1)
  b : @Ne Nat (L+1+1+1+1) (L+1+1)
  c : @Ne Nat (L+1+1+1+1) (L+1)
  d : @Ne Nat (L+1+1+1) (L+1+1)
  e : @Ne Nat (L+1+1+1) (L+1)
  f : @Ne Nat (L+1+1) (L+1)
theorem Ne1.mk' (L : Addr) : Ne1 L := by
  refine ⟨?_, ?_, ?_, ?_, ?_, ?_⟩ <;> omega
theorem Core.sub {nw nw' : List (Addr × Obj)} {evs ovs plv lvs qvs : Array Value} {ea oa : Addr} {aw : Int} {n c k : Nat} (s : ∀ p ∈ nw, p ∈ nw') (K : Core nw evs ovs plv lvs qvs ea oa aw n c k) : Core nw' evs ovs plv lvs qvs ea oa aw n c k :=
  ⟨K.ze, K.zo, K.zp, K.zl, K.zq, fun i hi => let ⟨x, y, u, v, h⟩ := K.ev i hi; ⟨x, y, u, v, h.sub s⟩, fun i hi => let ⟨ax, ay, bx, by', h⟩ := K.ln i hi; ⟨ax, ay, bx, by', h.sub s⟩, fun j a b => (K.un j a b).sub s⟩
theorem keys_app {nw nw' : List (Addr × Obj)} {kvs : Array Value} {ys : List Value} {ea oa : Addr} {n c : Nat} (s : ∀ p ∈ nw, p ∈ nw') (zk : kvs.size = 2 * n) (hks : ∀ i : Nat, i < 2 * n → ∃ key, kvs[i]? = some (.ref key) ∧ IsQK nw key ea oa i)
    (kys : ∀ e : Nat, e < 2 * c → ∃ p, ys[e]? = some (.ref p) ∧ IsQK nw' p ea oa (2 * (n : Int) + (e : Int))) : ∀ i : Nat, i < 2 * n + 2 * c → ∃ key, (kvs ++ ys.toArray)[i]? = some (.ref key) ∧ IsQK nw' key ea oa i := by
  intro i hi
  by_cases h : i < 2 * n
  · obtain ⟨key, a, b⟩ := hks i h
    exact ⟨key, by rw [Array.getElem?_append_left (by omega)]; exact a, b.sub s⟩
  · obtain ⟨key, a, b⟩ := kys (i - 2 * n) (by omega)
    refine ⟨key, ?_, ?_⟩
    · rw [Array.getElem?_append_right (by omega), zk]; simpa using a
    · rw [show 2 * (n : Int) + ((i - 2 * n : Nat) : Int) = (i : Int) by omega] at b; exact b
theorem ltQ {a D : Addr} {o : Obj} {news : List (Addr × Obj)} {X : Prop} (h : X ∧ ∀ p ∈ news, p.1 < D) (m : (a, o) ∈ news) : @LT.lt Nat _ a D := h.2 _ m
theorem neQ {a D : Addr} {o : Obj} {news : List (Addr × Obj)} {X : Prop} (h : X ∧ ∀ p ∈ news, p.1 < D) (m : (a, o) ∈ news) : @Ne Nat a D := Nat.ne_of_lt (h.2 _ m)
theorem neQ' {a D : Addr} {o : Obj} {news : List (Addr × Obj)} {X : Prop} (h : X ∧ ∀ p ∈ news, p.1 < D) (m : (a, o) ∈ news) : @Ne Nat D a := Ne.symm (Nat.ne_of_lt (h.2 _ m))
theorem item_tupQ {prog : Program} {w : World} {A : Around} {E : Value → Shared → Prop} {s : Shared} {h₀ : Heap} {L l : Addr} {news : List (Addr × Obj)} {value slice : Expr} {vs : List Value} {n : Nat} {k : Int} {u : Tok} {v : Value} {Q : Value → Shared → Prop}
    (N : News h₀ L s.heap news) (hm : (l, ({ cls := .type "tuple", data := .seq vs.toArray n } : Obj)) ∈ news) (h0 : 0 ≤ k) (hhi : k < 2 ^ 63) (hx : vs[k.toNat]? = some v) (h : Q v s)
    (hs : subscripted slice false (.ref l) (.int k u) = operate [.ref l, .int k u] (getItem (.ref l) (.int k u)) := by with_unfolding_all rfl) :
    wpAny (model prog w) A (subscriptTail value slice (.ref l) (.int k u)) Q E s := by
  have hl : k.toNat < vs.length := by
    by_cases q : k.toNat < vs.length
    · exact q
    · rw [List.getElem?_eq_none (by omega)] at hx; cases hx
  exact item_tupleT (News.isTup N hm) (by omega) hhi (seqIndex_of h0 (by omega)) hx h hs
theorem lrel_at {h₀ h : Heap} {L la qa : Addr} {news : List (Addr × Obj)} {k : Nat} (_ : News h₀ L h news) (r : LRel news la qa k) : LRel news la qa k := r
theorem qrel_at {h₀ h : Heap} {L ka pa : Addr} {news : List (Addr × Obj)} {k : Nat} (_ : News h₀ L h news) (r : QRel news ka pa k) : QRel news ka pa k := r

section
variable {w : World} {p : Program} {loose : List Str} {mean : ExcName → Option Value} {mg mb : Str → Option Value} {news : List (Addr × Obj)} {dp un : Nat} {gd : Option (List Code)} {cn : Str} {cs : Scope} {a : Addr} {ccd : Value} {cl : List (Str × Addr)} {outer : List Env} {A₀ : Around} {base h₀ : Heap} {L : Addr} {m : Str → Option Value} {s : Shared} {Q E : Value → Shared → Prop}
end

def C_pt_x (K : PySem.Params → PySem.W.Frag) : Prop :=
  ∀ {w : World} {p : Program} {loose : List Str} {mean : ExcName → Option Value} {mg mb : Str → Option Value} {news : List (Addr × Obj)} {dp un : Nat} {gd : Option (List Code)} {cn : Str} {cs : Scope} {a : Addr} {ccd : Value} {cl : List (Str × Addr)} {outer : List Env} {A₀ : Around} {base h₀ : Heap} {L : Addr} {m : Str → Option Value} {s : Shared} {Q E : Value → Shared → Prop} {expr : Bool} {pa : Addr} {x y : Int} (B : Below A₀ base outer h₀) (F : Fr h₀ L s.heap m) (X : (K w.params).In h₀) (N : News h₀ L s.heap news) (T : Top p loose mean mg mb h₀) (hk : cs.kind = .function) (hdp : dp + 1 < recursionLimit) (hun : un + 8 < cLine)
    (hp : IsPt news pa x y) (ret : ∀ t h' tk', Fr h₀ L h' m → News h₀ L h' news → Q (.int x t) { s with heap := h', toks := tk' }), wpAny (model PySem.Challenge.rw_jb0001_01.row.prog w) (ktrTop dp un gd cn cs L a ccd cl outer) (getAttr (.ref pa) "x" expr) Q E s
def C_pt_y (K : PySem.Params → PySem.W.Frag) : Prop :=
  ∀ {w : World} {p : Program} {loose : List Str} {mean : ExcName → Option Value} {mg mb : Str → Option Value} {news : List (Addr × Obj)} {dp un : Nat} {gd : Option (List Code)} {cn : Str} {cs : Scope} {a : Addr} {ccd : Value} {cl : List (Str × Addr)} {outer : List Env} {A₀ : Around} {base h₀ : Heap} {L : Addr} {m : Str → Option Value} {s : Shared} {Q E : Value → Shared → Prop} {expr : Bool} {pa : Addr} {x y : Int} (B : Below A₀ base outer h₀) (F : Fr h₀ L s.heap m) (X : (K w.params).In h₀) (N : News h₀ L s.heap news) (T : Top p loose mean mg mb h₀) (hk : cs.kind = .function) (hdp : dp + 1 < recursionLimit) (hun : un + 8 < cLine)
    (hp : IsPt news pa x y) (ret : ∀ t h' tk', Fr h₀ L h' m → News h₀ L h' news → Q (.int y t) { s with heap := h', toks := tk' }), wpAny (model PySem.Challenge.rw_jb0001_01.row.prog w) (ktrTop dp un gd cn cs L a ccd cl outer) (getAttr (.ref pa) "y" expr) Q E s
def C_pt_ltC (K : PySem.Params → PySem.W.Frag) : Prop :=
  ∀ {w : World} {news : List (Addr × Obj)} {h₀ : Heap} {L : Addr} {m : Str → Option Value} {s : Shared} {Q E : Value → Shared → Prop} {pa pb : Addr} {x1 y1 x2 y2 : Int} {A : Around} (F : Fr h₀ L s.heap m) (X : (K w.params).In h₀) (N : News h₀ L s.heap news) (hu : A.units < cLine)
    (h1 : IsPt news pa x1 y1) (h2 : IsPt news pb x2 y2) (h : Q (.bool (lexB x1 y1 x2 y2)) s), wpAny (model PySem.Challenge.rw_jb0001_01.row.prog w) A (compareOp .Lt (.ref pa) (.ref pb)) Q E s
def C_q_lt (K : PySem.Params → PySem.W.Frag) : Prop :=
  ∀ {w : World} {p : Program} {loose : List Str} {mean : ExcName → Option Value} {mg mb : Str → Option Value} {news : List (Addr × Obj)} {dp un : Nat} {gd : Option (List Code)} {cn : Str} {cs : Scope} {a : Addr} {ccd : Value} {cl : List (Str × Addr)} {outer : List Env} {A₀ : Around} {base h₀ : Heap} {L : Addr} {m : Str → Option Value} {s : Shared} {Q E : Value → Shared → Prop} {k1 k2 ea oa p1 p2 r1 r2 : Addr} {ne no : Nat} {evs ovs : Array Value} {e1 e2 o1 o2 x1 y1 x2 y2 u1 v1 u2 v2 : Int} {to1 to2 : Tok} (B : Below A₀ base outer h₀) (F : Fr h₀ L s.heap m) (X : (K w.params).In h₀) (N : News h₀ L s.heap news) (T : Top p loose mean mg mb h₀) (hk : cs.kind = .function) (hdp : dp + 4 < recursionLimit) (hun : un + 40 < cLine)
    (hk1 : IsQK news k1 ea oa e1) (hk2 : IsQK news k2 ea oa e2) (hE : (ea, listOf evs ne) ∈ news) (hO : (oa, listOf ovs no) ∈ news)
    (b1 : 0 ≤ e1) (b2 : 0 ≤ e2) (c1 : e1 < 1000) (c2 : e2 < 1000) (b3 : 0 ≤ o1) (b4 : 0 ≤ o2) (c3 : o1 < 1000) (c4 : o2 < 1000)
    (i1 : evs[e1.toNat]? = some (.ref p1)) (i2 : evs[e2.toNat]? = some (.ref p2)) (j1 : ovs[e1.toNat]? = some (.int o1 to1)) (j2 : ovs[e2.toNat]? = some (.int o2 to2))
    (l1 : evs[o1.toNat]? = some (.ref r1)) (l2 : evs[o2.toNat]? = some (.ref r2))
    (hp1 : IsPt news p1 x1 y1) (hp2 : IsPt news p2 x2 y2) (hr1 : IsPt news r1 u1 v1) (hr2 : IsPt news r2 u2 v2)
    (ret : ∀ h' tk', Fr h₀ L h' m → News h₀ L h' news → Q (.bool (qB e1 x1 y1 u1 v1 e2 x2 y2 u2 v2)) { s with heap := h', toks := tk' }), wpAny (model PySem.Challenge.rw_jb0001_01.row.prog w) (ktrTop dp un gd cn cs L a ccd cl outer) (compareOp .Lt (.ref k1) (.ref k2)) Q E s
def C_orientC (K : PySem.Params → PySem.W.Frag) : Prop :=
  ∀ {w : World} {p : Program} {loose : List Str} {mean : ExcName → Option Value} {mg mb : Str → Option Value} {news : List (Addr × Obj)} {dp un : Nat} {gd : Option (List Code)} {cn : Str} {cs : Scope} {a : Addr} {ccd : Value} {cl : List (Str × Addr)} {outer : List Env} {A₀ : Around} {base h₀ : Heap} {L : Addr} {m : Str → Option Value} {s : Shared} {Q E : Value → Shared → Prop} {c pa pb pc : Addr} {ax ay bx by' cx cy : Int} (B : Below A₀ base outer h₀) (F : Fr h₀ L s.heap m) (X : (K w.params).In h₀) (N : News h₀ L s.heap news) (T : Top p loose mean mg mb h₀) (hk : cs.kind = .function) (hdp : dp + 3 < recursionLimit) (hun : un + 30 < cLine)
    (ha : IsPt news pa ax ay) (hb : IsPt news pb bx by') (hc : IsPt news pc cx cy)
    (b1 : -1000 ≤ bx - ax) (b2 : bx - ax ≤ 1000) (b3 : -1000 ≤ by' - ay) (b4 : by' - ay ≤ 1000) (b5 : -1000 ≤ cx - ax) (b6 : cx - ax ≤ 1000) (b7 : -1000 ≤ cy - ay) (b8 : cy - ay ≤ 1000)
    (ret : ∀ h' tk', Fr h₀ L h' m → News h₀ L h' news → Q (.ref (oriA (crossI ax ay bx by' cx cy))) { s with heap := h', toks := tk' }), codeAny (model PySem.Challenge.rw_jb0001_01.row.prog w) (ktrTop dp un gd cn cs L a ccd cl outer) (.call (.ref 249) ⟨[.ref c, .ref pa, .ref pb, .ref pc], []⟩) (fun r s' => match r with | .ok (.ret v) => Q v s' | .ok _ => False | .error e => E e s') s
def C_orient_m (K : PySem.Params → PySem.W.Frag) : Prop :=
  ∀ {w : World} {p : Program} {loose : List Str} {mean : ExcName → Option Value} {mg mb : Str → Option Value} {news : List (Addr × Obj)} {dp un : Nat} {gd : Option (List Code)} {cn : Str} {cs : Scope} {a : Addr} {ccd : Value} {cl : List (Str × Addr)} {outer : List Env} {A₀ : Around} {base h₀ : Heap} {L : Addr} {m : Str → Option Value} {s : Shared} {Q E : Value → Shared → Prop} {q c pa pb pc : Addr} {ax ay bx by' cx cy : Int} (B : Below A₀ base outer h₀) (F : Fr h₀ L s.heap m) (X : (K w.params).In h₀) (N : News h₀ L s.heap news) (T : Top p loose mean mg mb h₀) (hk : cs.kind = .function) (hdp : dp + 3 < recursionLimit) (hun : un + 30 < cLine)
    (hq : (q, methodObj (.ref 249) (.ref c)) ∈ news) (ha : IsPt news pa ax ay) (hb : IsPt news pb bx by') (hc : IsPt news pc cx cy)
    (b1 : -1000 ≤ bx - ax) (b2 : bx - ax ≤ 1000) (b3 : -1000 ≤ by' - ay) (b4 : by' - ay ≤ 1000) (b5 : -1000 ≤ cx - ax) (b6 : cx - ax ≤ 1000) (b7 : -1000 ≤ cy - ay) (b8 : cy - ay ≤ 1000)
    (ret : ∀ h' tk', Fr h₀ L h' m → News h₀ L h' news → Q (.ref (oriA (crossI ax ay bx by' cx cy))) { s with heap := h', toks := tk' }), wpAny (model PySem.Challenge.rw_jb0001_01.row.prog w) (ktrTop dp un gd cn cs L a ccd cl outer) (call (.ref q) [.ref pa, .ref pb, .ref pc]) Q E s
def C_kind_at (K : PySem.Params → PySem.W.Frag) : Prop :=
  ∀ {w : World} {h : Heap} (X : (K w.params).In h) (v : Int), ∃ o, h.get? (oriA v) = some o ∧ o.cls = .ref 194
def C_is_kind (K : PySem.Params → PySem.W.Frag) : Prop :=
  ∀ {w : World} {s : Shared} {Q E : Value → Shared → Prop} {x y : Addr} {M : Model} {A : Around} (X : (K w.params).In s.heap) (hx : ∃ v, x = oriA v) (hy : ∃ v, y = oriA v) (h : Q (.bool (decide (x = y))) s), wpAny M A (compareOp .Is (.ref x) (.ref y)) Q E s
def C_isnot_kind (K : PySem.Params → PySem.W.Frag) : Prop :=
  ∀ {w : World} {s : Shared} {Q E : Value → Shared → Prop} {x y : Addr} {M : Model} {A : Around} (X : (K w.params).In s.heap) (hx : ∃ v, x = oriA v) (hy : ∃ v, y = oriA v) (h : Q (.bool (!decide (x = y))) s), wpAny M A (compareOp .IsNot (.ref x) (.ref y)) Q E s
def C_s_lt (K : PySem.Params → PySem.W.Frag) : Prop :=
  ∀ {w : World} {p : Program} {loose : List Str} {mean : ExcName → Option Value} {mg mb : Str → Option Value} {news : List (Addr × Obj)} {dp un : Nat} {gd : Option (List Code)} {cn : Str} {cs : Scope} {a : Addr} {ccd : Value} {cl : List (Str × Addr)} {outer : List Env} {A₀ : Around} {base h₀ : Heap} {L : Addr} {m : Str → Option Value} {s : Shared} {Q E : Value → Shared → Prop} {k1 k2 ea oa p1 p2 r1 r2 : Addr} {ne no : Nat} {evs ovs : Array Value} {e1 e2 o1 o2 ax ay bx by' cx cy dx dy : Int} {to1 to2 : Tok} (B : Below A₀ base outer h₀) (F : Fr h₀ L s.heap m) (X : (K w.params).In h₀) (N : News h₀ L s.heap news) (T : Top p loose mean mg mb h₀) (hk : cs.kind = .function) (hdp : dp + 6 < recursionLimit) (hun : un + 60 < cLine)
    (hk1 : IsSK news k1 ea oa e1) (hk2 : IsSK news k2 ea oa e2) (hE : (ea, listOf evs ne) ∈ news) (hO : (oa, listOf ovs no) ∈ news)
    (b1 : 0 ≤ e1) (b2 : 0 ≤ e2) (c1 : e1 < 1000) (c2 : e2 < 1000) (b3 : 0 ≤ o1) (b4 : 0 ≤ o2) (c3 : o1 < 1000) (c4 : o2 < 1000)
    (i1 : evs[e1.toNat]? = some (.ref p1)) (i2 : evs[e2.toNat]? = some (.ref p2)) (j1 : ovs[e1.toNat]? = some (.int o1 to1)) (j2 : ovs[e2.toNat]? = some (.int o2 to2))
    (l1 : evs[o1.toNat]? = some (.ref r1)) (l2 : evs[o2.toNat]? = some (.ref r2))
    (hp1 : IsPt news p1 ax ay) (hr1 : IsPt news r1 bx by') (hp2 : IsPt news p2 cx cy) (hr2 : IsPt news r2 dx dy)
    (g1 : -100 ≤ bx - ax) (g2 : bx - ax ≤ 100) (g3 : -100 ≤ by' - ay) (g4 : by' - ay ≤ 100) (g5 : -100 ≤ cx - ax) (g6 : cx - ax ≤ 100) (g7 : -100 ≤ cy - ay) (g8 : cy - ay ≤ 100)
    (g9 : -100 ≤ dx - ax) (g10 : dx - ax ≤ 100) (g11 : -100 ≤ dy - ay) (g12 : dy - ay ≤ 100)
    (ret : ∀ h' tk', Fr h₀ L h' m → News h₀ L h' news → Q (.bool (sB ax ay bx by' cx cy dx dy)) { s with heap := h', toks := tk' }), wpAny (model PySem.Challenge.rw_jb0001_01.row.prog w) (ktrTop dp un gd cn cs L a ccd cl outer) (compareOp .Lt (.ref k1) (.ref k2)) Q E s
def C_side (K : PySem.Params → PySem.W.Frag) : Prop :=
  ∀ {w : World} {p : Program} {loose : List Str} {mean : ExcName → Option Value} {mg mb : Str → Option Value} {news : List (Addr × Obj)} {dp un : Nat} {gd : Option (List Code)} {cn : Str} {cs : Scope} {a : Addr} {ccd : Value} {cl : List (Str × Addr)} {outer : List Env} {A₀ : Around} {base h₀ : Heap} {L : Addr} {m : Str → Option Value} {s : Shared} {Q E : Value → Shared → Prop} {l lo hi pc : Addr} {ax ay bx by' cx cy : Int} (B : Below A₀ base outer h₀) (F : Fr h₀ L s.heap m) (X : (K w.params).In h₀) (N : News h₀ L s.heap news) (T : Top p loose mean mg mb h₀) (hk : cs.kind = .function) (hdp : dp + 3 < recursionLimit) (hun : un + 30 < cLine)
    (hl : IsSeg news l lo hi) (ha : IsTp news lo ax ay) (hb : IsTp news hi bx by') (hc : IsTp news pc cx cy)
    (ret : ∀ t h' tk', Fr h₀ L h' m → News h₀ L h' news → Q (.int (sgI (crossI ax ay bx by' cx cy)) t) { s with heap := h', toks := tk' }), wpAny (model PySem.Challenge.rw_jb0001_01.row.prog w) (ktrTop dp un gd cn cs L a ccd cl outer) (call (.ref 305) [.ref l, .ref pc]) Q E s
def C_lower (K : PySem.Params → PySem.W.Frag) : Prop :=
  ∀ {w : World} {p : Program} {loose : List Str} {mean : ExcName → Option Value} {mg mb : Str → Option Value} {news : List (Addr × Obj)} {dp un : Nat} {gd : Option (List Code)} {cn : Str} {cs : Scope} {a : Addr} {ccd : Value} {cl : List (Str × Addr)} {outer : List Env} {A₀ : Around} {base h₀ : Heap} {L : Addr} {m : Str → Option Value} {s : Shared} {Q E : Value → Shared → Prop} {l1 l2 lo1 hi1 lo2 hi2 : Addr} {ax ay bx by' cx cy dx dy : Int} (B : Below A₀ base outer h₀) (F : Fr h₀ L s.heap m) (X : (K w.params).In h₀) (N : News h₀ L s.heap news) (T : Top p loose mean mg mb h₀) (hk : cs.kind = .function) (hdp : dp + 5 < recursionLimit) (hun : un + 50 < cLine)
    (hl1 : IsSeg news l1 lo1 hi1) (hl2 : IsSeg news l2 lo2 hi2) (ha : IsTp news lo1 ax ay) (hb : IsTp news hi1 bx by') (hc : IsTp news lo2 cx cy) (hd' : IsTp news hi2 dx dy)
    (ret : ∀ t h' tk', Fr h₀ L h' m → News h₀ L h' news → Q (.int (lowI ax ay bx by' cx cy dx dy) t) { s with heap := h', toks := tk' }), wpAny (model PySem.Challenge.rw_jb0001_01.row.prog w) (ktrTop dp un gd cn cs L a ccd cl outer) (call (.ref 312) [.ref l1, .ref l2]) Q E s
def C_lawq (K : PySem.Params → PySem.W.Frag) : Prop :=
  ∀ {w : World} {p : Program} {loose : List Str} {mean : ExcName → Option Value} {mg mb : Str → Option Value} {news : List (Addr × Obj)} {dp un : Nat} {gd : Option (List Code)} {cn : Str} {cs : Scope} {a : Addr} {ccd : Value} {cl : List (Str × Addr)} {outer : List Env} {A₀ : Around} {base h₀ : Heap} {L : Addr} {m : Str → Option Value} {s : Shared} {Q E : Value → Shared → Prop} {ka pa : Addr} {n : Nat} (B : Below A₀ base outer h₀) (F : Fr h₀ L s.heap m) (X : (K w.params).In h₀) (N : News h₀ L s.heap news) (T : Top p loose mean mg mb h₀) (hk : cs.kind = .function) (hdp : dp + 7 < recursionLimit) (hun : un + 70 < cLine)
    (hq : QRel news ka pa n) (ret : ∀ h' tk', Fr h₀ L h' m → News h₀ L h' news → Q (.bool true) { s with heap := h', toks := tk' }), wpAny (model PySem.Challenge.rw_jb0001_01.row.prog w) (ktrTop dp un gd cn cs L a ccd cl outer) (call (.ref 319) [.ref ka, .ref pa]) Q E s
def C_lawl (K : PySem.Params → PySem.W.Frag) : Prop :=
  ∀ {w : World} {p : Program} {loose : List Str} {mean : ExcName → Option Value} {mg mb : Str → Option Value} {news : List (Addr × Obj)} {dp un : Nat} {gd : Option (List Code)} {cn : Str} {cs : Scope} {a : Addr} {ccd : Value} {cl : List (Str × Addr)} {outer : List Env} {A₀ : Around} {base h₀ : Heap} {L : Addr} {m : Str → Option Value} {s : Shared} {Q E : Value → Shared → Prop} {ka pa : Addr} {n : Nat} (B : Below A₀ base outer h₀) (F : Fr h₀ L s.heap m) (X : (K w.params).In h₀) (N : News h₀ L s.heap news) (T : Top p loose mean mg mb h₀) (hk : cs.kind = .function) (hdp : dp + 8 < recursionLimit) (hun : un + 80 < cLine)
    (hq : LRel news ka pa n) (ret : ∀ h' tk', Fr h₀ L h' m → News h₀ L h' news → Q (.bool true) { s with heap := h', toks := tk' }), wpAny (model PySem.Challenge.rw_jb0001_01.row.prog w) (ktrTop dp un gd cn cs L a ccd cl outer) (call (.ref 324) [.ref ka, .ref pa]) Q E s
def C_drawn (K : PySem.Params → PySem.W.Frag) : Prop :=
  ∀ {w : World} {p : Program} {loose : List Str} {mean : ExcName → Option Value} {mg mb : Str → Option Value} {news : List (Addr × Obj)} {dp un : Nat} {gd : Option (List Code)} {cn : Str} {cs : Scope} {a : Addr} {ccd : Value} {cl : List (Str × Addr)} {outer : List Env} {A₀ : Around} {base h₀ : Heap} {L : Addr} {m : Str → Option Value} {s : Shared} {Q E : Value → Shared → Prop} {k : Int} {t : Tok} (B : Below A₀ base outer h₀) (F : Fr h₀ L s.heap m) (X : (K w.params).In h₀) (N : News h₀ L s.heap news) (T : Top p loose mean mg mb h₀) (hk : cs.kind = .function) (hdp : dp + 7 < recursionLimit) (hun : un + 70 < cLine)
    (ret : ∀ h' tk' l lo hi n x y u v tx ty tu tv, Grid4 x y u v → (∀ p ∈ news, p.1 < lo) → (∀ p ∈ news, p.1 < hi) → (∀ p ∈ news, p.1 < l) →
      Fr h₀ L h' m → News h₀ L h' ((l, listOf #[.ref lo, .ref hi] n) :: (lo, tpObj x y tx ty) :: (hi, tpObj u v tu tv) :: news) → Q (.ref l) { s with heap := h', toks := tk' }), wpAny (model PySem.Challenge.rw_jb0001_01.row.prog w) (ktrTop dp un gd cn cs L a ccd cl outer) (call (.ref 298) [.int k t]) Q E s
def C_mkpt (K : PySem.Params → PySem.W.Frag) : Prop :=
  ∀ {w : World} {p : Program} {loose : List Str} {mean : ExcName → Option Value} {mg mb : Str → Option Value} {news : List (Addr × Obj)} {dp un : Nat} {gd : Option (List Code)} {cn : Str} {cs : Scope} {a : Addr} {ccd : Value} {cl : List (Str × Addr)} {outer : List Env} {A₀ : Around} {base h₀ : Heap} {L : Addr} {m : Str → Option Value} {s : Shared} {Q E : Value → Shared → Prop} {x y : Int} {tx ty : Tok} (B : Below A₀ base outer h₀) (F : Fr h₀ L s.heap m) (X : (K w.params).In h₀) (N : News h₀ L s.heap news) (T : Top p loose mean mg mb h₀) (hk : cs.kind = .function) (hdp : dp + 3 < recursionLimit) (hun : un + 30 < cLine)
    (ret : ∀ h' tk' q d, (∀ p ∈ news, p.1 < d) → d < q → Fr h₀ L h' m → News h₀ L h' ((q, ptObj d x y tx ty) :: (d, edict) :: news) → Q (.ref q) { s with heap := h', toks := tk' }), wpAny (model PySem.Challenge.rw_jb0001_01.row.prog w) (ktrTop dp un gd cn cs L a ccd cl outer) (call (.ref 174) [.int x tx, .int y ty]) Q E s
def C_mksk (K : PySem.Params → PySem.W.Frag) : Prop :=
  ∀ {w : World} {p : Program} {loose : List Str} {mean : ExcName → Option Value} {mg mb : Str → Option Value} {news : List (Addr × Obj)} {dp un : Nat} {gd : Option (List Code)} {cn : Str} {cs : Scope} {a : Addr} {ccd : Value} {cl : List (Str × Addr)} {outer : List Env} {A₀ : Around} {base h₀ : Heap} {L : Addr} {m : Str → Option Value} {s : Shared} {Q E : Value → Shared → Prop} {ea oa mo : Addr} {ev : Int} {te : Tok} (B : Below A₀ base outer h₀) (F : Fr h₀ L s.heap m) (X : (K w.params).In h₀) (N : News h₀ L s.heap news) (T : Top p loose mean mg mb h₀) (hk : cs.kind = .function) (hdp : dp + 3 < recursionLimit) (hun : un + 30 < cLine)
    (ret : ∀ h' tk' x d h1 h2 h3 h4 t1 t2 t3 t4, (∀ p ∈ news, p.1 < d) → d < x → Fr h₀ L h' m → News h₀ L h' ((x, instObj 287 d) :: (d, dictOf [⟨h1, .str "endpoints" t1, .ref ea⟩, ⟨h2, .str "event" t2, .int ev te⟩, ⟨h3, .str "opposites" t3, .ref oa⟩, ⟨h4, .str "_orienteer" t4, .ref mo⟩] 4) :: news) → Q (.ref x) { s with heap := h', toks := tk' }), wpAny (model PySem.Challenge.rw_jb0001_01.row.prog w) (ktrTop dp un gd cn cs L a ccd cl outer) (call (.ref 287) [.ref ea, .ref oa, .int ev te, .ref mo]) Q E s
def C_mkqk (K : PySem.Params → PySem.W.Frag) : Prop :=
  ∀ {w : World} {p : Program} {loose : List Str} {mean : ExcName → Option Value} {mg mb : Str → Option Value} {news : List (Addr × Obj)} {dp un : Nat} {gd : Option (List Code)} {cn : Str} {cs : Scope} {a : Addr} {ccd : Value} {cl : List (Str × Addr)} {outer : List Env} {A₀ : Around} {base h₀ : Heap} {L : Addr} {m : Str → Option Value} {s : Shared} {Q E : Value → Shared → Prop} {ea oa : Addr} {ev : Int} {te : Tok} (B : Below A₀ base outer h₀) (F : Fr h₀ L s.heap m) (X : (K w.params).In h₀) (N : News h₀ L s.heap news) (T : Top p loose mean mg mb h₀) (hk : cs.kind = .function) (hdp : dp + 3 < recursionLimit) (hun : un + 30 < cLine)
    (ret : ∀ h' tk' x d h1 h2 h3 t1 t2 t3, (∀ p ∈ news, p.1 < d) → d < x → Fr h₀ L h' m → News h₀ L h' ((x, instObj 59 d) :: (d, dictOf [⟨h1, .str "endpoints" t1, .ref ea⟩, ⟨h2, .str "event" t2, .int ev te⟩, ⟨h3, .str "opposites" t3, .ref oa⟩] 3) :: news) → Q (.ref x) { s with heap := h', toks := tk' }), wpAny (model PySem.Challenge.rw_jb0001_01.row.prog w) (ktrTop dp un gd cn cs L a ccd cl outer) (call (.ref 59) [.ref ea, .ref oa, .int ev te]) Q E s
local macro_rules | `(tactic| walk_at $s:str) => `(tactic| k_extra $s)
local macro_rules | `(tactic| k_mem) => `(tactic| k_extra "mem")
local macro_rules | `(tactic| k_all) => `(tactic| k_extra "all")
local macro_rules | `(tactic| k_upd) => `(tactic| k_extra "upd")
local macro_rules | `(tactic| k_ne) => `(tactic| k_extra "ne")
local macro_rules | `(tactic| kbo_bools) => `(tactic| k_extra "ne2")
local macro_rules | `(tactic| kct_strs) => `(tactic| k_extra "strs")
local macro_rules | `(tactic| kd_adr) => `(tactic| k_extra "adr")
local macro_rules | `(tactic| cell_enter) => `(tactic| k_extra "enter")
local macro_rules | `(tactic| k_inst) => `(tactic| k_extra "inst")
local macro_rules | `(tactic| ktr_rel) => `(tactic| k_extra "rel")
local macro_rules | `(tactic| k_sweep) => `(tactic| k_extra "sweep")
local macro_rules | `(tactic| ktr_units) => `(tactic| k_extra "units")
local macro_rules | `(tactic| ktr_room) => `(tactic| k_extra "room")
local macro_rules | `(tactic| k_room) => `(tactic| ktr_room)
local macro_rules | `(tactic| k_units) => `(tactic| ktr_units)
local macro_rules | `(tactic| k_lt $h:ident) => `(tactic| ((have hX : Hold True := by with_reducible assumption); clear hX; with_reducible have hX : ∀ p ∈ (_ :: _ :: _ :: _ : List (Addr × Obj)), p.1 < _ := $h; clear hX; replace $h := And.intro (ltN ($h _ List.mem_cons_self)) $h; (try dsimp only at $h:ident)))
local macro_rules | `(tactic| k_lt2 $h:ident) => `(tactic| ((have hX : Hold True := by with_reducible assumption); clear hX; replace $h := lt2M (by with_reducible assumption) $h))
set_option maxHeartbeats 0 in
theorem hx : PySem.Challenge.rw_jb0001_01.Holds := by
  w_on; o_law; k_head
  case hw => w_witness2
  k_with_none
  (k_with "sweep" => (dsimp only; k_sweep))
  (k_with "execs cons" => k_fold)
  (k_with "getMethod ref" => (k_here; k_dflt (refine' kmu_own ?g1 ?g2 ?g3 ?g4 ?g5 ?_; (case g1 => k_asm); (case g2 => k_asm); (case g3 => k_inst); (case g4 => k_is); (case g5 => k_is); k_whole)))
  (k_with "enter" => (refine' code_def ?k1_1 ?k2_1 ?k3_1 ?k4_1 ?k5_1 ?kA_1 ?kF_1 ?kK_1 ?k6_1 ?k7_1 ?k8_1 ?k9_1 ?kB_1 ?_ ?c2_1 ?c3_1 ?c4_1 ?c5_1; (case kA_1 => exact rfl); (case kF_1 => exact rfl); (case kK_1 => assumption); (case k1_1 => k_asm); (case k2_1 => k_asm); (case k3_1 => k_asm); (case k4_1 => k_asm); (case k5_1 => k_asm); (case k6_1 => k_is); (case k7_1 => k_is); (case k8_1 => ktr_room); (case k9_1 => first | exact BindsTo.of_eq rfl | exact binds_K (by k_in) rfl (by k_is) rfl rfl rfl); (case c5_1 => decide); (case kB_1 => exact locs rfl); (case c2_1 => exact rfl); (case c3_1 => exact rfl); (case c4_1 => exact rfl); k_whole; intro _ _ _ _ _ _ zB _ _; (try dsimp only); (try k_lift zB); (try k_fold); (try (revert zB; intro _))))
  (k_with "inst" => (refine' pt_inst ?N_2 ?h1_2 ?h2_2; (case N_2 => k_asm); (case h1_2 => k_mem); (case h2_2 => k_mem)))
  (k_with "getMethod type:tuple" => (k_here; refine' method_type ?F_3 ?X_3 ?m_3 (by decide +kernel) ?e_3 ?h_3 ?_; (case F_3 => k_asm); (case X_3 => k_asm); (case m_3 => exact type_tuple_meta); (case e_3 => k_dflt k_is); (case h_3 => k_handed)))
  (k_with "call builtin:tuple.__getitem__" => (k_here; k_dflt (refine' sub_item ?k1_4 ?k2_4 ?k3_4 ?k4_4 ?k5_4 ?k6_4 ?k7_4 ?k8_4 ?_; (case k1_4 => k_in); (case k2_4 => k_inst); (case k3_4 => exact rfl); (case k4_4 => k_is); (case k5_4 => decide); (case k6_4 => decide); (case k7_4 => exact rfl); (case k8_4 => exact rfl); k_whole)))
  (k_with "call builtin:issubclass" => (k_here; k_dflt (refine' issub_call ?k1_5 ?k2_5 ?k3_5 ?k4_5 ?_; (case k1_5 => k_in); (case k2_5 => exact type_tuple_meta); (case k3_5 => k_is); (case k4_5 => k_is); k_whole)))
  (k_with "subscriptTail" => (k_here; (with_reducible show wpAny _ _ (subscriptTail _ _ (Value.ref _) (Value.int _ _)) _ _ _); k_dflt (refine' item_news ?N_6 ?m_6 ?a_6 ?b_6 ?c_6 ?_; (case N_6 => k_asm); (case m_6 => k_mem); (case a_6 => first | with_reducible assumption | omega); (case b_6 => first | with_reducible assumption | omega); (case c_6 => assumption); k_whole)))
  (k_with "subscriptTail Name" => (k_here; (with_reducible show wpAny _ _ (subscriptTail _ _ (Value.ref _) (Value.int _ _)) _ _ _); k_dflt (refine' item_news ?N_6 ?m_6 ?a_6 ?b_6 ?c_6 ?_; (case N_6 => k_asm); (case m_6 => k_mem); (case a_6 => first | with_reducible assumption | omega); (case b_6 => first | with_reducible assumption | omega); (case c_6 => assumption); k_whole)))
  (k_with "mem" => (first | with_reducible assumption | with_reducible exact List.mem_cons_self | (with_reducible refine' List.mem_cons_of_mem _ ?zm8; (case zm8 => k_mem)) | (with_reducible refine' IsPt.cons ?zm9; (case zm9 => k_mem)) | (with_reducible refine' IsTp.cons ?zm9; (case zm9 => k_mem)) | (with_reducible refine' IsSeg.cons ?zm9; (case zm9 => k_mem)) | (with_reducible refine' IsSK.cons ?zm9; (case zm9 => k_mem)) | (with_reducible refine' IsQK.cons ?zm9; (case zm9 => k_mem)) | (with_reducible refine' IsPlN.cons ?zm9; (case zm9 => k_mem))))
  (k_with "rel" => (first | with_reducible assumption | exact nd (by with_reducible assumption) | exact nd (nd (by with_reducible assumption)) | exact nd (nd (nd (by with_reducible assumption))) | exact nd (nd (nd (nd (by with_reducible assumption)))) | exact nd (nd (nd (nd (nd (by with_reducible assumption))))) | exact nd (nd (nd (nd (nd (nd (by with_reducible assumption)))))) | exact nd (nd (nd (nd (nd (nd (nd (by with_reducible assumption))))))) | exact nd (nd (nd (nd (nd (nd (nd (nd (by with_reducible assumption)))))))) | exact nd (nd (nd (nd (nd (nd (nd (nd (nd (by with_reducible assumption))))))))) | exact nd (nd (nd (nd (nd (nd (nd (nd (nd (nd (by with_reducible assumption)))))))))) | exact nd (nd (nd (nd (nd (nd (nd (nd (nd (nd (nd (by with_reducible assumption))))))))))) | exact nd (nd (nd (nd (nd (nd (nd (nd (nd (nd (nd (nd (by with_reducible assumption)))))))))))) | exact nd (nd (nd (nd (nd (nd (nd (nd (nd (nd (nd (nd (nd (by with_reducible assumption))))))))))))) | exact nd (nd (nd (nd (nd (nd (nd (nd (nd (nd (nd (nd (nd (nd (by with_reducible assumption))))))))))))))))
  (k_with "subscriptTail" => (k_here; (with_reducible show wpAny _ _ (subscriptTail _ (Expr.Constant _ _ _) (Value.ref _) (Value.int _ _)) _ _ _); k_dflt (refine' item_newsL ?N_8 ?m_8 ?a_8 ?b_8 ?c_8 ?_; (case N_8 => k_asm); (case m_8 => k_mem); (case a_8 => decide); (case b_8 => decide); (case c_8 => rfl); k_whole)))
  (k_with "subscriptTail Name" => (k_here; (with_reducible show wpAny _ _ (subscriptTail _ (Expr.Constant _ _ _) (Value.ref _) (Value.int _ _)) _ _ _); k_dflt (refine' item_newsL ?N_8 ?m_8 ?a_8 ?b_8 ?c_8 ?_; (case N_8 => k_asm); (case m_8 => k_mem); (case a_8 => decide); (case b_8 => decide); (case c_8 => rfl); k_whole)))
  (k_with "ne" => (first | with_reducible assumption | (with_reducible refine Ne.symm ?_; with_reducible assumption)))
  (k_with "units" => (first | exact fit2 (by assumption) (by decide) | exact fit1 (by assumption) (by decide) | exact fit3 (by assumption) (by decide) | exact fit0 (by assumption)))
  (k_with "room" => (first | exact fit2 (by assumption) (by decide) | exact fit1 (by assumption) (by decide) | exact fit3 (by assumption) (by decide) | exact fit0 (by assumption)))
  refine cutI (P := C_pt_x hx.heap_1_39) ?_ (fun c_pt_x => ?_)
  · as_aux_lemma =>
      unfold C_pt_x
      intro w p loose mean mg mb news dp un gd cn cs a ccd cl outer A₀ base h₀ L m s Q E expr pa x y B F X N T hk hdp hun hp ret
      obtain ⟨d, tx, ty, hp, hd'⟩ := hp.ex
      have X' := X.keeps F.keep
      refine get_bind_tuple (K := hx.heap_1_39 w.params) (x := pa) (C := 174) (ox := ptObj d x y tx ty) (od := some edict) (g := .ref 85) (a := .ref 166) X' ⟨(N _ hp).1, rfl, rfl, (N _ hd').1⟩ ?a1_pt_x ?a2_pt_x ?a3_pt_x ?a4_pt_x ?_
      case a1_pt_x => k_is
      case a2_pt_x => k_is
      case a3_pt_x => k_is
      case a4_pt_x => exact findObj_data (by exact (show isClsIn (hx.heap_1_39 w.params) 174 = true by k_is)) (by k_is) (by k_is) (by k_is)
      refine wpAny_call ?_
      k_dflt cell_enter
      k_steps
      all_goals exact ret tx _ _ (by k_asm) (by k_asm)
  refine cutI (P := C_pt_y hx.heap_1_39) ?_ (fun c_pt_y => ?_)
  · as_aux_lemma =>
      unfold C_pt_y
      intro w p loose mean mg mb news dp un gd cn cs a ccd cl outer A₀ base h₀ L m s Q E expr pa x y B F X N T hk hdp hun hp ret
      obtain ⟨d, tx, ty, hp, hd'⟩ := hp.ex
      have X' := X.keeps F.keep
      refine get_bind_tuple (K := hx.heap_1_39 w.params) (x := pa) (C := 174) (ox := ptObj d x y tx ty) (od := some edict) (g := .ref 85) (a := .ref 169) X' ⟨(N _ hp).1, rfl, rfl, (N _ hd').1⟩ ?a1_pt_y ?a2_pt_y ?a3_pt_y ?a4_pt_y ?_
      case a1_pt_y => k_is
      case a2_pt_y => k_is
      case a3_pt_y => k_is
      case a4_pt_y => exact findObj_data (by exact (show isClsIn (hx.heap_1_39 w.params) 174 = true by k_is)) (by k_is) (by k_is) (by k_is)
      refine wpAny_call ?_
      k_dflt cell_enter
      k_steps
      all_goals exact ret ty _ _ (by k_asm) (by k_asm)
  refine cutI (P := C_pt_ltC hx.heap_1_39) ?_ (fun c_pt_ltC => ?_)
  · as_aux_lemma =>
      unfold C_pt_ltC
      intro w news h₀ L m s Q E pa pb x1 y1 x2 y2 A F X N hu h1 h2 h
      obtain ⟨d1, tx1, ty1, m1, n1⟩ := h1.ex
      obtain ⟨d2, tx2, ty2, m2, n2⟩ := h2.ex
      exact rich_lt_sub (K := hx.heap_1_39 w.params) (C := 174) hu (X.keeps F.keep) (pt_inst N m1 n1) (pt_inst N m2 n2) (by k_is) (by k_is) rfl rfl (lt_ints2 ⟨nimpl _, h⟩)
  (k_with "getAttr ref" => (k_here; (with_reducible show wpAny _ _ (getAttr (Value.ref _) (PySem.Str.ofString "x") _) _ _ _); k_dflt (refine' c_pt_x ?k1_12 ?k2_12 ?k3_12 ?k4_12 ?k5_12 ?k6_12 ?k7_12 ?k8_12 ?k9_12 ?_; (case k1_12 => k_asm); (case k2_12 => k_asm); (case k3_12 => k_asm); (case k4_12 => k_asm); (case k5_12 => k_asm); (case k6_12 => first | exact rfl | assumption); (case k9_12 => k_mem); (case k7_12 => ktr_room); (case k8_12 => ktr_units); k_whole; intro _ _ _ _ _; (try k_sweep))))
  (k_with "getAttr ref" => (k_here; (with_reducible show wpAny _ _ (getAttr (Value.ref _) (PySem.Str.ofString "y") _) _ _ _); k_dflt (refine' c_pt_y ?k1_13 ?k2_13 ?k3_13 ?k4_13 ?k5_13 ?k6_13 ?k7_13 ?k8_13 ?k9_13 ?_; (case k1_13 => k_asm); (case k2_13 => k_asm); (case k3_13 => k_asm); (case k4_13 => k_asm); (case k5_13 => k_asm); (case k6_13 => first | exact rfl | assumption); (case k9_13 => k_mem); (case k7_13 => ktr_room); (case k8_13 => ktr_units); k_whole; intro _ _ _ _ _; (try k_sweep))))
  (k_with "compareOp Lt ref" => (k_here; k_dflt (refine' c_pt_ltC ?k1_14 ?k2_14 ?k3_14 ?k4_14 ?k5_14 ?k6_14 ?_; (case k1_14 => k_asm); (case k2_14 => k_asm); (case k3_14 => k_asm); (case k5_14 => k_mem); (case k6_14 => k_mem); (case k4_14 => ktr_units); k_whole)))
  refine cutI (P := C_q_lt hx.heap_1_39) ?_ (fun c_q_lt => ?_)
  · as_aux_lemma =>
      unfold C_q_lt
      intro w p loose mean mg mb news dp un gd cn cs a ccd cl outer A₀ base h₀ L m s Q E k1 k2 ea oa p1 p2 r1 r2 ne no evs ovs e1 e2 o1 o2 x1 y1 x2 y2 u1 v1 u2 v2 to1 to2 B F X N T hk hdp hun hk1 hk2 hE hO b1 b2 c1 c2 b3 b4 c3 c4 i1 i2 j1 j2 l1 l2 hp1 hp2 hr1 hr2 ret
      have w1 := z63 c1
      have w2 := z63 c2
      have w3 := z63 c3
      have w4 := z63 c4
      obtain ⟨dx1, ta1, ta2, ta3, ta4, ha1, ha2, ha3, m1, n1⟩ := hk1
      obtain ⟨dx2, tb1, tb2, tb3, tb4, hb1, hb2, hb3, m2, n2⟩ := hk2
      refine cmp_ofLt ?_
      refine cmp_K (K := hx.heap_1_39 w.params) (C := 59) (f := 56) (tb := .ref 59) (by k_units) F X (InstAt.of_news N m1 n1) (InstAt.type (InstAt.of_news N m2 n2)) (by k_is) (by k_is) (by k_is) ?_
      refine wpAny_call ?_
      k_dflt cell_enter
      k_steps
      · exact retB ret (qB_x (by assumption)) (by k_asm) (by ktr_rel)
      · exact retB ret (qB_y (by assumption) (by assumption)) (by k_asm) (by ktr_rel)
      · exact retB ret (qB_e (by assumption) (by assumption) (by assumption)) (by k_asm) (by ktr_rel)
      · exact retB ret (qB_o (by assumption) (by assumption) (by assumption)) (by k_asm) (by ktr_rel)
  (k_with "compareOp Lt ref" => (k_here; k_dflt (refine' c_q_lt ?k1_15 ?k2_15 ?k3_15 ?k4_15 ?k5_15 ?k6_15 ?k7_15 ?k8_15 ?p1_15 ?p2_15 ?p3_15 ?p4_15 ?b1_15 ?b2_15 ?b3_15 ?b4_15 ?b5_15 ?b6_15 ?b7_15 ?b8_15 ?i1_15 ?i2_15 ?i3_15 ?i4_15 ?i5_15 ?i6_15 ?q1_15 ?q2_15 ?q3_15 ?q4_15 ?_; (case k1_15 => k_asm); (case k2_15 => k_asm); (case k3_15 => k_asm); (case k4_15 => k_asm); (case k5_15 => k_asm); (case k6_15 => first | exact rfl | assumption); (case p1_15 => k_mem); (case p2_15 => k_mem); (case p3_15 => k_mem); (case p4_15 => k_mem); (case i1_15 => assumption); (case i2_15 => assumption); (case i3_15 => assumption); (case i4_15 => assumption); (case i5_15 => assumption); (case i6_15 => assumption); (case q1_15 => k_mem); (case q2_15 => k_mem); (case q3_15 => k_mem); (case q4_15 => k_mem); (case k7_15 => ktr_room); (case k8_15 => ktr_units); (case b1_15 => first | with_reducible assumption | omega); (case b2_15 => first | with_reducible assumption | omega); (case b3_15 => first | with_reducible assumption | omega); (case b4_15 => first | with_reducible assumption | omega); (case b5_15 => first | with_reducible assumption | omega); (case b6_15 => first | with_reducible assumption | omega); (case b7_15 => first | with_reducible assumption | omega); (case b8_15 => first | with_reducible assumption | omega); k_whole; intro _ _ _ _; (try k_sweep))))
  refine cutI (P := C_orientC hx.heap_1_39) ?_ (fun c_orientC => ?_)
  · as_aux_lemma =>
      unfold C_orientC
      intro w p loose mean mg mb news dp un gd cn cs a ccd cl outer A₀ base h₀ L m s Q E c pa pb pc ax ay bx by' cx cy B F X N T hk hdp hun ha hb hc b1 b2 b3 b4 b5 b6 b7 b8 ret
      k_dflt cell_enter
      k_steps
      · exact retV ret (oriA_p (by assumption)) (by k_asm) (by ktr_rel)
      · exact retV ret (oriA_n (by assumption) (by assumption)) (by k_asm) (by ktr_rel)
      · exact retV ret (oriA_z (by assumption) (by assumption)) (by k_asm) (by ktr_rel)
  refine cutI (P := C_orient_m hx.heap_1_39) ?_ (fun c_orient_m => ?_)
  · as_aux_lemma =>
      unfold C_orient_m
      intro w p loose mean mg mb news dp un gd cn cs a ccd cl outer A₀ base h₀ L m s Q E q c pa pb pc ax ay bx by' cx cy B F X N T hk hdp hun hq ha hb hc b1 b2 b3 b4 b5 b6 b7 b8 ret
      exact call_meth N hq (c_orientC B F X N T hk hdp hun ha hb hc b1 b2 b3 b4 b5 b6 b7 b8 ret)
  refine cutI (P := C_kind_at hx.heap_1_39) ?_ (fun c_kind_at => ?_)
  · as_aux_lemma =>
      unfold C_kind_at
      intro w h X v
      unfold oriA
      split
      · exact ⟨_, X 213 _ (by k_is), rfl⟩
      · split
        · exact ⟨_, X 207 _ (by k_is), rfl⟩
        · exact ⟨_, X 210 _ (by k_is), rfl⟩
  refine cutI (P := C_is_kind hx.heap_1_39) ?_ (fun c_is_kind => ?_)
  · as_aux_lemma =>
      unfold C_is_kind
      intro w s Q E x y M A X hx hy h
      obtain ⟨v, rfl⟩ := hx
      obtain ⟨u, rfl⟩ := hy
      obtain ⟨ox, gx, cx⟩ := c_kind_at X v
      obtain ⟨oy, gy, cy⟩ := c_kind_at X u
      by_cases e : oriA v = oriA u
      · rw [decide_eq_true e] at h
        rw [e]
        exact wpAny_is_ref_self h
      · rw [decide_eq_false e] at h
        exact wpAny_is_ref_other e gx gy (by rw [cx]; exact fun z => nomatch z) h
  refine cutI (P := C_isnot_kind hx.heap_1_39) ?_ (fun c_isnot_kind => ?_)
  · as_aux_lemma =>
      unfold C_isnot_kind
      intro w s Q E x y M A X hx hy h
      obtain ⟨v, rfl⟩ := hx
      obtain ⟨u, rfl⟩ := hy
      obtain ⟨ox, gx, cx⟩ := c_kind_at X v
      obtain ⟨oy, gy, cy⟩ := c_kind_at X u
      by_cases e : oriA v = oriA u
      · rw [decide_eq_true e] at h
        rw [e]
        exact wpAny_isNot_ref_self h
      · rw [decide_eq_false e] at h
        exact wpAny_isNot_ref_other e gx gy (by rw [cx]; exact fun z => nomatch z) h
  (k_with "call ref" => (k_here; (with_reducible show wpAny _ _ (call (Value.ref _) [Value.ref _, Value.ref _, Value.ref _]) _ _ _); k_dflt (refine' c_orient_m ?k1_16 ?k2_16 ?k3_16 ?k4_16 ?k5_16 ?k6_16 ?k7_16 ?k8_16 ?k9_16 ?p1_16 ?p2_16 ?p3_16 ?b1_16 ?b2_16 ?b3_16 ?b4_16 ?b5_16 ?b6_16 ?b7_16 ?b8_16 ?_; (case k1_16 => k_asm); (case k2_16 => k_asm); (case k3_16 => k_asm); (case k4_16 => k_asm); (case k5_16 => k_asm); (case k6_16 => first | exact rfl | assumption); (case k9_16 => k_mem); (case p1_16 => k_mem); (case p2_16 => k_mem); (case p3_16 => k_mem); (case k7_16 => ktr_room); (case k8_16 => ktr_units); (case b1_16 => first | with_reducible assumption | omega); (case b2_16 => first | with_reducible assumption | omega); (case b3_16 => first | with_reducible assumption | omega); (case b4_16 => first | with_reducible assumption | omega); (case b5_16 => first | with_reducible assumption | omega); (case b6_16 => first | with_reducible assumption | omega); (case b7_16 => first | with_reducible assumption | omega); (case b8_16 => first | with_reducible assumption | omega); k_whole; intro _ _ _ _; (try k_sweep))))
  (k_with "compareOp Is ref ref" => (k_here; k_dflt (refine' c_is_kind ?k1_17 ?k2_17 ?k3_17 ?_; (case k1_17 => k_in); (case k2_17 => first | exact ⟨_, rfl⟩ | exact ⟨0, rfl⟩ | exact ⟨1, rfl⟩ | exact ⟨-1, rfl⟩); (case k3_17 => first | exact ⟨_, rfl⟩ | exact ⟨0, rfl⟩ | exact ⟨1, rfl⟩ | exact ⟨-1, rfl⟩); k_whole)))
  (k_with "compareOp IsNot ref ref" => (k_here; k_dflt (refine' c_isnot_kind ?k1_18 ?k2_18 ?k3_18 ?_; (case k1_18 => k_in); (case k2_18 => first | exact ⟨_, rfl⟩ | exact ⟨0, rfl⟩ | exact ⟨1, rfl⟩ | exact ⟨-1, rfl⟩); (case k3_18 => first | exact ⟨_, rfl⟩ | exact ⟨0, rfl⟩ | exact ⟨1, rfl⟩ | exact ⟨-1, rfl⟩); k_whole)))
  refine cutI (P := C_s_lt hx.heap_1_39) ?_ (fun c_s_lt => ?_)
  · as_aux_lemma =>
      unfold C_s_lt
      intro w p loose mean mg mb news dp un gd cn cs a ccd cl outer A₀ base h₀ L m s Q E k1 k2 ea oa p1 p2 r1 r2 ne no evs ovs e1 e2 o1 o2 ax ay bx by' cx cy dx dy to1 to2 B F X N T hk hdp hun hk1 hk2 hE hO b1 b2 c1 c2 b3 b4 c3 c4 i1 i2 j1 j2 l1 l2 hp1 hr1 hp2 hr2 g1 g2 g3 g4 g5 g6 g7 g8 g9 g10 g11 g12 ret
      have w0 := z63 c1
      have w1 := z63 c2
      have w2 := z63 c3
      have w3 := z63 c4
      have w4 := tl3 g1
      have w5 := tl3 g3
      have w6 := tl3 g5
      have w7 := tl3 g7
      have w8 := tl3 g9
      have w9 := tl3 g11
      have w10 := tr3 g2
      have w11 := tr3 g4
      have w12 := tr3 g6
      have w13 := tr3 g8
      have w14 := tr3 g10
      have w15 := tr3 g12
      have w16 := sl3 g9 g6
      have w17 := sr3 g10 g5
      have w18 := sl3 g11 g8
      have w19 := sr3 g12 g7
      have w20 := sl3 g1 g6
      have w21 := sr3 g2 g5
      have w22 := sl3 g3 g8
      have w23 := sr3 g4 g7
      have w24 := nl3 g6
      have w25 := nr3 g5
      have w26 := nl3 g8
      have w27 := nr3 g7
      obtain ⟨dx1, ta1, ta2, ta3, ta4, ta5, ha1, ha2, ha3, ha4, q1, c1', m1, n1, q1m⟩ := hk1
      obtain ⟨dx2, tb1, tb2, tb3, tb4, tb5, hb1, hb2, hb3, hb4, q2, c2', m2, n2, q2m⟩ := hk2
      refine cmp_ofLt ?_
      refine cmp_K (K := hx.heap_1_39 w.params) (C := 287) (f := 284) (tb := .ref 287) (by k_units) F X (InstAt.of_news N m1 n1) (InstAt.type (InstAt.of_news N m2 n2)) (by k_is) (by k_is) (by k_is) ?_
      refine wpAny_call ?_
      k_dflt cell_enter
      k_steps
      · exact retB ret (sC_1 (by assumption) (by assumption) (by assumption) (by assumption)) (by k_asm) (by ktr_rel)
      · exact retB ret (sC_2 (by assumption) (by assumption) (by assumption) (by assumption) (by assumption)) (by k_asm) (by ktr_rel)
      · exact retB ret (sC_3 (by assumption) (by assumption) (by assumption) (by assumption) (by assumption)) (by k_asm) (by ktr_rel)
      · exact retB ret (sC_4 (by assumption) (by assumption) (by assumption)) (by k_asm) (by ktr_rel)
      · exact retB ret (sC_5 (by assumption) (by assumption)) (by k_asm) (by ktr_rel)
      · exact retB ret (sC_6 (by assumption) (by assumption)) (by k_asm) (by ktr_rel)
      · exact retB ret (sC_7 (by assumption) (by assumption) (by assumption)) (by k_asm) (by ktr_rel)
      · exact retB ret (sC_8 (by assumption) (by assumption) (by assumption) (by assumption)) (by k_asm) (by ktr_rel)
      · exact retB ret (sC_9 (by assumption) (by assumption) (by assumption) (by assumption) (by assumption)) (by k_asm) (by ktr_rel)
      · exact retB ret (sC_10 (by assumption) (by assumption) (by assumption) (by assumption) (by assumption)) (by k_asm) (by ktr_rel)
  (k_with "compareOp Lt ref" => (k_here; k_dflt (refine' c_s_lt ?k1_19 ?k2_19 ?k3_19 ?k4_19 ?k5_19 ?k6_19 ?k7_19 ?k8_19 ?p1_19 ?p2_19 ?p3_19 ?p4_19 ?b1_19 ?b2_19 ?b3_19 ?b4_19 ?b5_19 ?b6_19 ?b7_19 ?b8_19 ?i1_19 ?i2_19 ?i3_19 ?i4_19 ?i5_19 ?i6_19 ?q1_19 ?q2_19 ?q3_19 ?q4_19 ?g1_19 ?g2_19 ?g3_19 ?g4_19 ?g5_19 ?g6_19 ?g7_19 ?g8_19 ?g9_19 ?g10_19 ?g11_19 ?g12_19 ?_; (case k1_19 => k_asm); (case k2_19 => k_asm); (case k3_19 => k_asm); (case k4_19 => k_asm); (case k5_19 => k_asm); (case k6_19 => first | exact rfl | assumption); (case p1_19 => k_mem); (case p2_19 => k_mem); (case p3_19 => k_mem); (case p4_19 => k_mem); (case i1_19 => assumption); (case i2_19 => assumption); (case i3_19 => assumption); (case i4_19 => assumption); (case i5_19 => assumption); (case i6_19 => assumption); (case q1_19 => k_mem); (case q2_19 => k_mem); (case q3_19 => k_mem); (case q4_19 => k_mem); (case k7_19 => ktr_room); (case k8_19 => ktr_units); (case b1_19 => first | with_reducible assumption | omega); (case b2_19 => first | with_reducible assumption | omega); (case b3_19 => first | with_reducible assumption | omega); (case b4_19 => first | with_reducible assumption | omega); (case b5_19 => first | with_reducible assumption | omega); (case b6_19 => first | with_reducible assumption | omega); (case b7_19 => first | with_reducible assumption | omega); (case b8_19 => first | with_reducible assumption | omega); (case g1_19 => first | with_reducible assumption | omega); (case g2_19 => first | with_reducible assumption | omega); (case g3_19 => first | with_reducible assumption | omega); (case g4_19 => first | with_reducible assumption | omega); (case g5_19 => first | with_reducible assumption | omega); (case g6_19 => first | with_reducible assumption | omega); (case g7_19 => first | with_reducible assumption | omega); (case g8_19 => first | with_reducible assumption | omega); (case g9_19 => first | with_reducible assumption | omega); (case g10_19 => first | with_reducible assumption | omega); (case g11_19 => first | with_reducible assumption | omega); (case g12_19 => first | with_reducible assumption | omega); k_whole; intro _ _ _ _; (try k_sweep))))
  refine cutI (P := C_side hx.heap_1_39) ?_ (fun c_side => ?_)
  · as_aux_lemma =>
      unfold C_side
      intro w p loose mean mg mb news dp un gd cn cs a ccd cl outer A₀ base h₀ L m s Q E l lo hi pc ax ay bx by' cx cy B F X N T hk hdp hun hl ha hb hc ret
      obtain ⟨n, ml⟩ := hl.ex
      obtain ⟨⟨ta, ua, ma⟩, ⟨a1, a2⟩, ⟨a3, a4⟩⟩ := ha
      obtain ⟨⟨tb, ub, mb'⟩, ⟨b1, b2⟩, ⟨b3, b4⟩⟩ := hb
      obtain ⟨⟨tc, uc, mc⟩, ⟨c1, c2⟩, ⟨c3, c4⟩⟩ := hc
      refine wpAny_call ?_
      k_dflt cell_enter
      k_steps
      · exact retI ret (sgI_p (by assumption)) (by k_asm) (by ktr_rel)
      · exact retI ret (sgI_n (by assumption) (by assumption)) (by k_asm) (by ktr_rel)
      · exact retI ret (sgI_z (by assumption) (by assumption)) (by k_asm) (by ktr_rel)
  (k_with "call ref" => (k_here; (with_reducible show wpAny _ _ (call (Value.ref 305) [Value.ref _, Value.ref _]) _ _ _); k_dflt (refine' c_side ?k1_20 ?k2_20 ?k3_20 ?k4_20 ?k5_20 ?k6_20 ?k7_20 ?k8_20 ?p1_20 ?p2_20 ?p3_20 ?p4_20 ?_; (case k1_20 => k_asm); (case k2_20 => k_asm); (case k3_20 => k_asm); (case k4_20 => k_asm); (case k5_20 => k_asm); (case k6_20 => first | exact rfl | assumption); (case p1_20 => k_mem); (case p2_20 => k_mem); (case p3_20 => k_mem); (case p4_20 => k_mem); (case k7_20 => ktr_room); (case k8_20 => ktr_units); k_whole; intro _ _ _ _ _; (try k_sweep))))
  (k_with "call builtin:max" => (k_here; (with_reducible show wpAny _ _ (call (Value.builtin _) [Value.ref _, Value.ref _]) _ _ _); k_dflt (refine' max_tpC ?k0_21 ?k1_21 ?k2_21 ?k3_21 ?p1_21 ?p2_21 ?_; (case k0_21 => exact rfl); (case k1_21 => ktr_units); (case k2_21 => k_asm); (case k3_21 => k_asm); (case p1_21 => k_mem); (case p2_21 => k_mem); k_whole; intro _ _ _ _ _ _; (try k_sweep))))
  (k_with "call builtin:min" => (k_here; (with_reducible show wpAny _ _ (call (Value.builtin _) [Value.ref _, Value.ref _]) _ _ _); k_dflt (refine' min_tpC ?k0_22 ?k1_22 ?k2_22 ?k3_22 ?p1_22 ?p2_22 ?_; (case k0_22 => exact rfl); (case k1_22 => ktr_units); (case k2_22 => k_asm); (case k3_22 => k_asm); (case p1_22 => k_mem); (case p2_22 => k_mem); k_whole; intro _ _ _ _ _ _; (try k_sweep))))
  (k_with "pyIter ref" => (k_here; (with_reducible show wpAny _ _ (pyIter (Value.ref _)) (fun it s₂ => TurnsAt _ _ _ _ _ _ _ _ _ it s₂) _ _); (with_unfolding_all refine' iter_tupTurns ?k0_23 ?k1_23 ?k2_23 ?k3_23 ?k4_23 ?k5_23 ?_; (case k0_23 => rfl); (case k1_23 => k_asm); (case k2_23 => k_asm); (case k3_23 => k_mem); (case k4_23 => rfl); (case k5_23 => rfl); k_whole); intro _ _))
  (k_with "UnrEndW" => (refine' unr_end1 ?F_24 ?l_24 ?N_24 ?k_24 ?_; (case F_24 => k_asm); (case l_24 => assumption); (case N_24 => ktr_rel); (case k_24 => exact ⟨by k_mem, trivial⟩)))
  refine cutI (P := C_lower hx.heap_1_39) ?_ (fun c_lower => ?_)
  · as_aux_lemma =>
      unfold C_lower
      intro w p loose mean mg mb news dp un gd cn cs a ccd cl outer A₀ base h₀ L m s Q E l1 l2 lo1 hi1 lo2 hi2 ax ay bx by' cx cy dx dy B F X N T hk hdp hun hl1 hl2 ha hb hc hd' ret
      obtain ⟨n1, ml1⟩ := hl1.ex
      obtain ⟨n2, ml2⟩ := hl2.ex
      refine wpAny_call ?_
      k_dflt cell_enter
      k_steps
      · exact retI ret (lowC_1 (by assumption)) (by k_asm) (by ktr_rel)
      · exact retI ret (lowC_2 (by assumption) (by assumption)) (by k_asm) (by ktr_rel)
      · exact retI ret (lowC_3 (by assumption) (by assumption) (by assumption)) (by k_asm) (by ktr_rel)
      · exact retI ret (lowC_4 (by assumption) (by assumption) (by assumption) (by assumption)) (by k_asm) (by ktr_rel)
      · exact retI ret (lowC_5 (by assumption) (by assumption) (by assumption) (by assumption)) (by k_asm) (by ktr_rel)
  (k_with "call ref" => (k_here; (with_reducible show wpAny _ _ (call (Value.ref 312) [Value.ref _, Value.ref _]) _ _ _); k_dflt (refine' c_lower ?k1_25 ?k2_25 ?k3_25 ?k4_25 ?k5_25 ?k6_25 ?k7_25 ?k8_25 ?p1_25 ?p2_25 ?p3_25 ?p4_25 ?p5_25 ?p6_25 ?_; (case k1_25 => k_asm); (case k2_25 => k_asm); (case k3_25 => k_asm); (case k4_25 => k_asm); (case k5_25 => k_asm); (case k6_25 => first | exact rfl | assumption); (case p1_25 => k_mem); (case p2_25 => k_mem); (case p3_25 => k_mem); (case p4_25 => k_mem); (case p5_25 => k_mem); (case p6_25 => k_mem); (case k7_25 => ktr_room); (case k8_25 => ktr_units); k_whole; intro _ _ _ _ _; (try k_sweep))))
  (k_with "compareOp Lt ref" => (k_here; k_dflt (refine' pl_ltC ?k4_26 ?k8_26 ?p1_26 ?p2_26 ?_; (case k4_26 => k_asm); (case p1_26 => k_mem); (case p2_26 => k_mem); (case k8_26 => ktr_units); k_whole)))
  (k_with "pyIter ref" => ((with_reducible show wpAny _ _ (pyIter (Value.ref _)) (fun it s₂ => LoopAtV _ _ _ _ _ _ _ _ _ it s₂) _ _); refine Hold.of ?_))
  refine cutI (P := C_lawq hx.heap_1_39) ?_ (fun c_lawq => ?_)
  · as_aux_lemma =>
      unfold C_lawq
      intro w p loose mean mg mb news dp un gd cn cs a ccd cl outer A₀ base h₀ L m s Q E ka pa n B F X N T hk hdp hun hq ret
      obtain ⟨ea, oa, evs, ovs, kvs, pvs, ne, no, nk, np, aw, hE, hO, hK, hP, hn, hn9, hev⟩ := hq
      refine wpAny_call ?_
      k_dflt cell_enter
      k_steps
      unfold Hold
      rename Fr _ _ _ _ => F1
      rename News _ _ _ _ => N1
      rename IsRange _ _ _ _ _ _ _ _ => R1
      refine iter_rangeLawO (n := n) ["j", "told"] rfl R1 (small_one (by decide) (by decide) (by omega) (by omega)) (by rw [rangeSize_nat]; omega) F1 N1 (fun k1 t1 u1 h1 tk1 I1 lt1 lo1 hi1 F2 N2 => ?_) (fun u1 h1 tk1 F2 N2 => ?_)
      · (try k_fold)
        obtain ⟨X1, Y1, U1, V1, ⟨ky1, p1, r1, pl1, o1, to1, a1, a2, a3, a4, a5, a6, a7, a8, a9, a10, a11⟩⟩ := hev k1.toNat (by omega)
        rw [show ((k1.toNat : Nat) : Int) = k1 by omega] at a2
        clear F1 N1
        k_steps
        unfold Hold
        rename Fr _ _ _ _ => F3
        rename News _ _ _ _ => N3
        rename IsRange _ _ _ _ _ _ _ _ => R2
        refine iter_rangeLawO (n := n) ["told"] rfl R2 (small_one (by decide) (by decide) (by omega) (by omega)) (by rw [rangeSize_nat]; omega) F3 N3 (fun k2 t2 u2 h2 tk2 I2 lt2 lo2 hi2 F4 N4 => ?_) (fun u2 h2 tk2 F4 N4 => ?_)
        · (try k_fold)
          obtain ⟨X2, Y2, U2, V2, ⟨ky2, p2, r2, pl2, o2, to2, c1, c2, c3, c4, c5, c6, c7, c8, c9, c10, c11⟩⟩ := hev k2.toNat (by omega)
          rw [show ((k2.toNat : Nat) : Int) = k2 by omega] at c2
          clear F3 N3 hev
          k_steps
          exfalso
          have z := q_pl k1.toNat k2.toNat aw X1 Y1 U1 V1 X2 Y2 U2 V2
          rw [show ((k1.toNat : Nat) : Int) = k1 by omega, show ((k2.toNat : Nat) : Int) = k2 by omega] at z
          rename (_ != _) = true => zz
          rw [z] at zz
          simp at zz
        · k_steps
      · k_steps
        exact retB ret rfl (by k_asm) (by ktr_rel)
  k_with_none
  (k_with "sweep" => (dsimp only; k_sweep))
  (k_with "execs cons" => k_fold)
  (k_with "getMethod ref" => (k_here; k_dflt (refine' kmu_own ?g1 ?g2 ?g3 ?g4 ?g5 ?_; (case g1 => k_asm); (case g2 => k_asm); (case g3 => k_inst); (case g4 => k_is); (case g5 => k_is); k_whole)))
  (k_with "enter" => (refine' code_def ?k1_1 ?k2_1 ?k3_1 ?k4_1 ?k5_1 ?kA_1 ?kF_1 ?kK_1 ?k6_1 ?k7_1 ?k8_1 ?k9_1 ?kB_1 ?_ ?c2_1 ?c3_1 ?c4_1 ?c5_1; (case kA_1 => exact rfl); (case kF_1 => exact rfl); (case kK_1 => assumption); (case k1_1 => k_asm); (case k2_1 => k_asm); (case k3_1 => k_asm); (case k4_1 => k_asm); (case k5_1 => k_asm); (case k6_1 => k_is); (case k7_1 => k_is); (case k8_1 => ktr_room); (case k9_1 => first | exact BindsTo.of_eq rfl | exact binds_K (by k_in) rfl (by k_is) rfl rfl rfl); (case c5_1 => decide); (case kB_1 => exact locs rfl); (case c2_1 => exact rfl); (case c3_1 => exact rfl); (case c4_1 => exact rfl); k_whole; intro _ _ _ _ _ _ zB _ _; (try dsimp only); (try k_lift zB); (try k_fold); (try (revert zB; intro _))))
  (k_with "inst" => (refine' pt_inst ?N_2 ?h1_2 ?h2_2; (case N_2 => k_asm); (case h1_2 => k_mem); (case h2_2 => k_mem)))
  (k_with "getMethod type:tuple" => (k_here; refine' method_type ?F_3 ?X_3 ?m_3 (by decide +kernel) ?e_3 ?h_3 ?_; (case F_3 => k_asm); (case X_3 => k_asm); (case m_3 => exact type_tuple_meta); (case e_3 => k_dflt k_is); (case h_3 => k_handed)))
  (k_with "call builtin:tuple.__getitem__" => (k_here; k_dflt (refine' sub_item ?k1_4 ?k2_4 ?k3_4 ?k4_4 ?k5_4 ?k6_4 ?k7_4 ?k8_4 ?_; (case k1_4 => k_in); (case k2_4 => k_inst); (case k3_4 => exact rfl); (case k4_4 => k_is); (case k5_4 => decide); (case k6_4 => decide); (case k7_4 => exact rfl); (case k8_4 => exact rfl); k_whole)))
  (k_with "call builtin:issubclass" => (k_here; k_dflt (refine' issub_call ?k1_5 ?k2_5 ?k3_5 ?k4_5 ?_; (case k1_5 => k_in); (case k2_5 => exact type_tuple_meta); (case k3_5 => k_is); (case k4_5 => k_is); k_whole)))
  (k_with "subscriptTail" => (k_here; (with_reducible show wpAny _ _ (subscriptTail _ _ (Value.ref _) (Value.int _ _)) _ _ _); k_dflt (refine' item_news ?N_6 ?m_6 ?a_6 ?b_6 ?c_6 ?_; (case N_6 => k_asm); (case m_6 => k_mem); (case a_6 => first | with_reducible assumption | omega); (case b_6 => first | with_reducible assumption | omega); (case c_6 => assumption); k_whole)))
  (k_with "subscriptTail Name" => (k_here; (with_reducible show wpAny _ _ (subscriptTail _ _ (Value.ref _) (Value.int _ _)) _ _ _); k_dflt (refine' item_news ?N_6 ?m_6 ?a_6 ?b_6 ?c_6 ?_; (case N_6 => k_asm); (case m_6 => k_mem); (case a_6 => first | with_reducible assumption | omega); (case b_6 => first | with_reducible assumption | omega); (case c_6 => assumption); k_whole)))
  (k_with "mem" => (first | with_reducible assumption | with_reducible exact List.mem_cons_self | (with_reducible refine' List.mem_cons_of_mem _ ?zm8; (case zm8 => k_mem)) | (with_reducible refine' IsPt.cons ?zm9; (case zm9 => k_mem)) | (with_reducible refine' IsTp.cons ?zm9; (case zm9 => k_mem)) | (with_reducible refine' IsSeg.cons ?zm9; (case zm9 => k_mem)) | (with_reducible refine' IsSK.cons ?zm9; (case zm9 => k_mem)) | (with_reducible refine' IsQK.cons ?zm9; (case zm9 => k_mem)) | (with_reducible refine' IsPlN.cons ?zm9; (case zm9 => k_mem))))
  (k_with "rel" => (first | with_reducible assumption | exact nd (by with_reducible assumption) | exact nd (nd (by with_reducible assumption)) | exact nd (nd (nd (by with_reducible assumption))) | exact nd (nd (nd (nd (by with_reducible assumption)))) | exact nd (nd (nd (nd (nd (by with_reducible assumption))))) | exact nd (nd (nd (nd (nd (nd (by with_reducible assumption)))))) | exact nd (nd (nd (nd (nd (nd (nd (by with_reducible assumption))))))) | exact nd (nd (nd (nd (nd (nd (nd (nd (by with_reducible assumption)))))))) | exact nd (nd (nd (nd (nd (nd (nd (nd (nd (by with_reducible assumption))))))))) | exact nd (nd (nd (nd (nd (nd (nd (nd (nd (nd (by with_reducible assumption)))))))))) | exact nd (nd (nd (nd (nd (nd (nd (nd (nd (nd (nd (by with_reducible assumption))))))))))) | exact nd (nd (nd (nd (nd (nd (nd (nd (nd (nd (nd (nd (by with_reducible assumption)))))))))))) | exact nd (nd (nd (nd (nd (nd (nd (nd (nd (nd (nd (nd (nd (by with_reducible assumption))))))))))))) | exact nd (nd (nd (nd (nd (nd (nd (nd (nd (nd (nd (nd (nd (nd (by with_reducible assumption))))))))))))))))
  (k_with "subscriptTail" => (k_here; (with_reducible show wpAny _ _ (subscriptTail _ (Expr.Constant _ _ _) (Value.ref _) (Value.int _ _)) _ _ _); k_dflt (refine' item_newsL ?N_8 ?m_8 ?a_8 ?b_8 ?c_8 ?_; (case N_8 => k_asm); (case m_8 => k_mem); (case a_8 => decide); (case b_8 => decide); (case c_8 => rfl); k_whole)))
  (k_with "subscriptTail Name" => (k_here; (with_reducible show wpAny _ _ (subscriptTail _ (Expr.Constant _ _ _) (Value.ref _) (Value.int _ _)) _ _ _); k_dflt (refine' item_newsL ?N_8 ?m_8 ?a_8 ?b_8 ?c_8 ?_; (case N_8 => k_asm); (case m_8 => k_mem); (case a_8 => decide); (case b_8 => decide); (case c_8 => rfl); k_whole)))
  (k_with "ne" => (first | with_reducible assumption | (with_reducible refine Ne.symm ?_; with_reducible assumption)))
  (k_with "units" => (first | exact fit2 (by assumption) (by decide) | exact fit1 (by assumption) (by decide) | exact fit3 (by assumption) (by decide) | exact fit0 (by assumption)))
  (k_with "room" => (first | exact fit2 (by assumption) (by decide) | exact fit1 (by assumption) (by decide) | exact fit3 (by assumption) (by decide) | exact fit0 (by assumption)))
  (k_with "getAttr ref" => (k_here; (with_reducible show wpAny _ _ (getAttr (Value.ref _) (PySem.Str.ofString "x") _) _ _ _); k_dflt (refine' c_pt_x ?k1_12 ?k2_12 ?k3_12 ?k4_12 ?k5_12 ?k6_12 ?k7_12 ?k8_12 ?k9_12 ?_; (case k1_12 => k_asm); (case k2_12 => k_asm); (case k3_12 => k_asm); (case k4_12 => k_asm); (case k5_12 => k_asm); (case k6_12 => first | exact rfl | assumption); (case k9_12 => k_mem); (case k7_12 => ktr_room); (case k8_12 => ktr_units); k_whole; intro _ _ _ _ _; (try k_sweep))))
  (k_with "getAttr ref" => (k_here; (with_reducible show wpAny _ _ (getAttr (Value.ref _) (PySem.Str.ofString "y") _) _ _ _); k_dflt (refine' c_pt_y ?k1_13 ?k2_13 ?k3_13 ?k4_13 ?k5_13 ?k6_13 ?k7_13 ?k8_13 ?k9_13 ?_; (case k1_13 => k_asm); (case k2_13 => k_asm); (case k3_13 => k_asm); (case k4_13 => k_asm); (case k5_13 => k_asm); (case k6_13 => first | exact rfl | assumption); (case k9_13 => k_mem); (case k7_13 => ktr_room); (case k8_13 => ktr_units); k_whole; intro _ _ _ _ _; (try k_sweep))))
  (k_with "compareOp Lt ref" => (k_here; k_dflt (refine' c_pt_ltC ?k1_14 ?k2_14 ?k3_14 ?k4_14 ?k5_14 ?k6_14 ?_; (case k1_14 => k_asm); (case k2_14 => k_asm); (case k3_14 => k_asm); (case k5_14 => k_mem); (case k6_14 => k_mem); (case k4_14 => ktr_units); k_whole)))
  (k_with "compareOp Lt ref" => (k_here; k_dflt (refine' c_q_lt ?k1_15 ?k2_15 ?k3_15 ?k4_15 ?k5_15 ?k6_15 ?k7_15 ?k8_15 ?p1_15 ?p2_15 ?p3_15 ?p4_15 ?b1_15 ?b2_15 ?b3_15 ?b4_15 ?b5_15 ?b6_15 ?b7_15 ?b8_15 ?i1_15 ?i2_15 ?i3_15 ?i4_15 ?i5_15 ?i6_15 ?q1_15 ?q2_15 ?q3_15 ?q4_15 ?_; (case k1_15 => k_asm); (case k2_15 => k_asm); (case k3_15 => k_asm); (case k4_15 => k_asm); (case k5_15 => k_asm); (case k6_15 => first | exact rfl | assumption); (case p1_15 => k_mem); (case p2_15 => k_mem); (case p3_15 => k_mem); (case p4_15 => k_mem); (case i1_15 => assumption); (case i2_15 => assumption); (case i3_15 => assumption); (case i4_15 => assumption); (case i5_15 => assumption); (case i6_15 => assumption); (case q1_15 => k_mem); (case q2_15 => k_mem); (case q3_15 => k_mem); (case q4_15 => k_mem); (case k7_15 => ktr_room); (case k8_15 => ktr_units); (case b1_15 => first | with_reducible assumption | omega); (case b2_15 => first | with_reducible assumption | omega); (case b3_15 => first | with_reducible assumption | omega); (case b4_15 => first | with_reducible assumption | omega); (case b5_15 => first | with_reducible assumption | omega); (case b6_15 => first | with_reducible assumption | omega); (case b7_15 => first | with_reducible assumption | omega); (case b8_15 => first | with_reducible assumption | omega); k_whole; intro _ _ _ _; (try k_sweep))))
  (k_with "call ref" => (k_here; (with_reducible show wpAny _ _ (call (Value.ref _) [Value.ref _, Value.ref _, Value.ref _]) _ _ _); k_dflt (refine' c_orient_m ?k1_16 ?k2_16 ?k3_16 ?k4_16 ?k5_16 ?k6_16 ?k7_16 ?k8_16 ?k9_16 ?p1_16 ?p2_16 ?p3_16 ?b1_16 ?b2_16 ?b3_16 ?b4_16 ?b5_16 ?b6_16 ?b7_16 ?b8_16 ?_; (case k1_16 => k_asm); (case k2_16 => k_asm); (case k3_16 => k_asm); (case k4_16 => k_asm); (case k5_16 => k_asm); (case k6_16 => first | exact rfl | assumption); (case k9_16 => k_mem); (case p1_16 => k_mem); (case p2_16 => k_mem); (case p3_16 => k_mem); (case k7_16 => ktr_room); (case k8_16 => ktr_units); (case b1_16 => first | with_reducible assumption | omega); (case b2_16 => first | with_reducible assumption | omega); (case b3_16 => first | with_reducible assumption | omega); (case b4_16 => first | with_reducible assumption | omega); (case b5_16 => first | with_reducible assumption | omega); (case b6_16 => first | with_reducible assumption | omega); (case b7_16 => first | with_reducible assumption | omega); (case b8_16 => first | with_reducible assumption | omega); k_whole; intro _ _ _ _; (try k_sweep))))
  (k_with "compareOp Is ref ref" => (k_here; k_dflt (refine' c_is_kind ?k1_17 ?k2_17 ?k3_17 ?_; (case k1_17 => k_in); (case k2_17 => first | exact ⟨_, rfl⟩ | exact ⟨0, rfl⟩ | exact ⟨1, rfl⟩ | exact ⟨-1, rfl⟩); (case k3_17 => first | exact ⟨_, rfl⟩ | exact ⟨0, rfl⟩ | exact ⟨1, rfl⟩ | exact ⟨-1, rfl⟩); k_whole)))
  (k_with "compareOp IsNot ref ref" => (k_here; k_dflt (refine' c_isnot_kind ?k1_18 ?k2_18 ?k3_18 ?_; (case k1_18 => k_in); (case k2_18 => first | exact ⟨_, rfl⟩ | exact ⟨0, rfl⟩ | exact ⟨1, rfl⟩ | exact ⟨-1, rfl⟩); (case k3_18 => first | exact ⟨_, rfl⟩ | exact ⟨0, rfl⟩ | exact ⟨1, rfl⟩ | exact ⟨-1, rfl⟩); k_whole)))
  (k_with "compareOp Lt ref" => (k_here; k_dflt (refine' c_s_lt ?k1_19 ?k2_19 ?k3_19 ?k4_19 ?k5_19 ?k6_19 ?k7_19 ?k8_19 ?p1_19 ?p2_19 ?p3_19 ?p4_19 ?b1_19 ?b2_19 ?b3_19 ?b4_19 ?b5_19 ?b6_19 ?b7_19 ?b8_19 ?i1_19 ?i2_19 ?i3_19 ?i4_19 ?i5_19 ?i6_19 ?q1_19 ?q2_19 ?q3_19 ?q4_19 ?g1_19 ?g2_19 ?g3_19 ?g4_19 ?g5_19 ?g6_19 ?g7_19 ?g8_19 ?g9_19 ?g10_19 ?g11_19 ?g12_19 ?_; (case k1_19 => k_asm); (case k2_19 => k_asm); (case k3_19 => k_asm); (case k4_19 => k_asm); (case k5_19 => k_asm); (case k6_19 => first | exact rfl | assumption); (case p1_19 => k_mem); (case p2_19 => k_mem); (case p3_19 => k_mem); (case p4_19 => k_mem); (case i1_19 => assumption); (case i2_19 => assumption); (case i3_19 => assumption); (case i4_19 => assumption); (case i5_19 => assumption); (case i6_19 => assumption); (case q1_19 => k_mem); (case q2_19 => k_mem); (case q3_19 => k_mem); (case q4_19 => k_mem); (case k7_19 => ktr_room); (case k8_19 => ktr_units); (case b1_19 => first | with_reducible assumption | omega); (case b2_19 => first | with_reducible assumption | omega); (case b3_19 => first | with_reducible assumption | omega); (case b4_19 => first | with_reducible assumption | omega); (case b5_19 => first | with_reducible assumption | omega); (case b6_19 => first | with_reducible assumption | omega); (case b7_19 => first | with_reducible assumption | omega); (case b8_19 => first | with_reducible assumption | omega); (case g1_19 => first | with_reducible assumption | omega); (case g2_19 => first | with_reducible assumption | omega); (case g3_19 => first | with_reducible assumption | omega); (case g4_19 => first | with_reducible assumption | omega); (case g5_19 => first | with_reducible assumption | omega); (case g6_19 => first | with_reducible assumption | omega); (case g7_19 => first | with_reducible assumption | omega); (case g8_19 => first | with_reducible assumption | omega); (case g9_19 => first | with_reducible assumption | omega); (case g10_19 => first | with_reducible assumption | omega); (case g11_19 => first | with_reducible assumption | omega); (case g12_19 => first | with_reducible assumption | omega); k_whole; intro _ _ _ _; (try k_sweep))))
  (k_with "call ref" => (k_here; (with_reducible show wpAny _ _ (call (Value.ref 305) [Value.ref _, Value.ref _]) _ _ _); k_dflt (refine' c_side ?k1_20 ?k2_20 ?k3_20 ?k4_20 ?k5_20 ?k6_20 ?k7_20 ?k8_20 ?p1_20 ?p2_20 ?p3_20 ?p4_20 ?_; (case k1_20 => k_asm); (case k2_20 => k_asm); (case k3_20 => k_asm); (case k4_20 => k_asm); (case k5_20 => k_asm); (case k6_20 => first | exact rfl | assumption); (case p1_20 => k_mem); (case p2_20 => k_mem); (case p3_20 => k_mem); (case p4_20 => k_mem); (case k7_20 => ktr_room); (case k8_20 => ktr_units); k_whole; intro _ _ _ _ _; (try k_sweep))))
  (k_with "call builtin:max" => (k_here; (with_reducible show wpAny _ _ (call (Value.builtin _) [Value.ref _, Value.ref _]) _ _ _); k_dflt (refine' max_tpC ?k0_21 ?k1_21 ?k2_21 ?k3_21 ?p1_21 ?p2_21 ?_; (case k0_21 => exact rfl); (case k1_21 => ktr_units); (case k2_21 => k_asm); (case k3_21 => k_asm); (case p1_21 => k_mem); (case p2_21 => k_mem); k_whole; intro _ _ _ _ _ _; (try k_sweep))))
  (k_with "call builtin:min" => (k_here; (with_reducible show wpAny _ _ (call (Value.builtin _) [Value.ref _, Value.ref _]) _ _ _); k_dflt (refine' min_tpC ?k0_22 ?k1_22 ?k2_22 ?k3_22 ?p1_22 ?p2_22 ?_; (case k0_22 => exact rfl); (case k1_22 => ktr_units); (case k2_22 => k_asm); (case k3_22 => k_asm); (case p1_22 => k_mem); (case p2_22 => k_mem); k_whole; intro _ _ _ _ _ _; (try k_sweep))))
  (k_with "pyIter ref" => (k_here; (with_reducible show wpAny _ _ (pyIter (Value.ref _)) (fun it s₂ => TurnsAt _ _ _ _ _ _ _ _ _ it s₂) _ _); (with_unfolding_all refine' iter_tupTurns ?k0_23 ?k1_23 ?k2_23 ?k3_23 ?k4_23 ?k5_23 ?_; (case k0_23 => rfl); (case k1_23 => k_asm); (case k2_23 => k_asm); (case k3_23 => k_mem); (case k4_23 => rfl); (case k5_23 => rfl); k_whole); intro _ _))
  (k_with "UnrEndW" => (refine' unr_end1 ?F_24 ?l_24 ?N_24 ?k_24 ?_; (case F_24 => k_asm); (case l_24 => assumption); (case N_24 => ktr_rel); (case k_24 => exact ⟨by k_mem, trivial⟩)))
  (k_with "call ref" => (k_here; (with_reducible show wpAny _ _ (call (Value.ref 312) [Value.ref _, Value.ref _]) _ _ _); k_dflt (refine' c_lower ?k1_25 ?k2_25 ?k3_25 ?k4_25 ?k5_25 ?k6_25 ?k7_25 ?k8_25 ?p1_25 ?p2_25 ?p3_25 ?p4_25 ?p5_25 ?p6_25 ?_; (case k1_25 => k_asm); (case k2_25 => k_asm); (case k3_25 => k_asm); (case k4_25 => k_asm); (case k5_25 => k_asm); (case k6_25 => first | exact rfl | assumption); (case p1_25 => k_mem); (case p2_25 => k_mem); (case p3_25 => k_mem); (case p4_25 => k_mem); (case p5_25 => k_mem); (case p6_25 => k_mem); (case k7_25 => ktr_room); (case k8_25 => ktr_units); k_whole; intro _ _ _ _ _; (try k_sweep))))
  (k_with "TupSrc" => (k_here; k_dflt (refine TupSrc.mk' (by rfl) (by k_asm) (by k_asm) (by k_mem) (Nat.le_of_ble_eq_true rfl) ?_; intro _; lct_lit)))
  (k_with "CompEnd" => (refine' comp_end ?F_29 ?N_29 ?off_29 ?hS_29 ?_; (case F_29 => k_asm); (case N_29 => ktr_rel); (case off_29 => first | assumption | (simp only [LCg.Off3, and_true]; assumption)); (case hS_29 => first | ((try dsimp only); k_mem) | exact Or.inr ⟨_, by k_mem, rfl, _, rfl⟩)))
  (k_with "compareOp Eq ref ref" => (k_here; (with_reducible show wpAny _ _ (compareOp CmpOp.Eq (Value.ref _) (Value.ref _)) _ _ _); k_dflt (refine' eq_seg ?k1_30 ?k2_30 ?p1_30 ?p2_30 ?p3_30 ?p4_30 ?p5_30 ?p6_30 ?_; (case k2_30 => k_asm); (case p1_30 => k_mem); (case p2_30 => k_mem); (case p3_30 => k_mem); (case p4_30 => k_mem); (case p5_30 => k_mem); (case p6_30 => k_mem); (case k1_30 => ktr_units); k_whole)))
  (k_with "compareOp Eq ref ref" => (k_here; (with_reducible show wpAny _ _ (compareOp CmpOp.Eq (Value.ref _) (Value.ref _)) _ _ _); k_dflt (refine' eq_len ?k1_31 ?k2_31 ?p1_31 ?p2_31 ?p3_31 ?_; (case k2_31 => k_asm); (case p1_31 => k_mem); (case p2_31 => k_mem); (case p3_31 => exact rfl); (case k1_31 => ktr_units); k_whole)))
  (k_with "compareOp NotEq ref ref" => (k_here; (with_reducible show wpAny _ _ (compareOp CmpOp.NotEq (Value.ref _) (Value.ref _)) _ _ _); k_dflt (refine' ne_bb ?k2_32 ?p1_32 ?p2_32 ?k1_32 ?_; (case k2_32 => k_asm); (case p1_32 => k_mem); (case p2_32 => k_mem); (case k1_32 => ktr_units); k_whole)))
  (k_with "compareOp NotIn ref ref" => (k_here; (with_reducible show wpAny _ _ (compareOp CmpOp.NotIn (Value.ref _) (Value.ref _)) _ _ _); k_dflt (refine' notin1 ?k1_33 ?k2_33 ?p1_33 ?p2_33 ?p3_33 ?_; (case k2_33 => k_asm); (case p1_33 => k_mem); (case p2_33 => k_mem); (case p3_33 => k_mem); (case k1_33 => ktr_units); k_whole)))
  (k_with "compareOp NotIn ref ref" => (k_here; (with_reducible show wpAny _ _ (compareOp CmpOp.NotIn (Value.ref _) (Value.ref _)) _ _ _); k_dflt (refine' notin2 ?k1_34 ?k2_34 ?p1_34 ?ne_34 ?p2_34 ?p3_34 ?p4_34 ?_; (case k2_34 => k_asm); (case p1_34 => k_mem); (case ne_34 => first | assumption | (refine Ne.symm ?_; assumption) | omega); (case p2_34 => k_mem); (case p3_34 => k_mem); (case p4_34 => k_mem); (case k1_34 => ktr_units); k_whole)))
  (k_with "compareOp Lt ref" => (k_here; (with_reducible show wpAny _ _ (compareOp CmpOp.Lt (Value.ref _) (Value.ref _)) _ _ _); k_dflt (refine' tp_ltC ?k1_35 ?k2_35 ?p1_35 ?p2_35 ?_; (case k2_35 => k_asm); (case p1_35 => k_mem); (case p2_35 => k_mem); (case k1_35 => ktr_units); k_whole)))
  (k_with "compareOp Eq ref ref" => (k_here; (with_reducible show wpAny _ _ (compareOp CmpOp.Eq (Value.ref _) (Value.ref _)) _ _ _); k_dflt (refine' eq_nil ?k1_36 ?k2_36 ?p1_36 ?p2_36 ?p3_36 ?p4_36 ?_; (case k2_36 => k_asm); (case p1_36 => k_mem); (case p2_36 => k_mem); (case p3_36 => exact rfl); (case p4_36 => exact rfl); (case k1_36 => ktr_units); k_whole)))
  (k_with "pyIter ref" => ((with_reducible show wpAny _ _ (pyIter (Value.ref _)) (fun it s₂ => LoopAtV _ _ _ _ _ _ _ _ _ it s₂) _ _); refine Hold.of ?_))
  (k_with "enter" => (refine' code_defC ?k1_38 ?k2_38 ?k3_38 ?k4_38 ?k5_38 ?kA_38 ?kF_38 ?kK_38 ?k6_38 ?k7_38 ?k8_38 ?k9_38 ?kB_38 ?kD_38 ?_ ?c2_38 ?c3_38 ?c4_38; (case kA_38 => exact rfl); (case kF_38 => exact rfl); (case kK_38 => assumption); (case k1_38 => k_asm); (case k2_38 => k_asm); (case k3_38 => k_asm); (case k4_38 => k_asm); (case k5_38 => k_asm); (case k6_38 => k_is); (case k7_38 => k_is); (case k8_38 => ktr_room); (case k9_38 => exact BindsTo.of_eq rfl); (case kB_38 => exact rfl); (case kD_38 => decide +kernel); (case c2_38 => exact rfl); (case c3_38 => exact rfl); (case c4_38 => exact rfl); k_whole; intro _ _ _ _ _ _ _ zN zY zB _ _ _; k_cells zY; (try simp only [List.cons_append, List.nil_append] at zN); (try dsimp only); (try k_lift zB); (try k_fold); (try (revert zN; intro _)); (try (revert zY; intro _)); (try (revert zB; intro _))))
  (k_with "all" => (assumption))
  (k_with "eval ListComp" => (k_here; (with_reducible show wpAny _ _ (eval (Expr.ListComp _ [⟨_, Expr.Name "told" _, _, _⟩] _ _) _) _ _ _); k_dflt (refine comp_tup (F₀ := by k_asm) (by with_unfolding_all rfl) (by decide) (by rfl) (by decide) (by rfl) ?_)))
  (k_with "eval ListComp" => (k_here; (with_reducible show wpAny _ _ (eval (Expr.ListComp _ [⟨_, Expr.Name "other" _, _, _⟩] _ _) _) _ _ _); k_dflt (refine LCt.ListComp_T (F₀ := by k_asm) (by with_unfolding_all rfl) (by decide) (by rfl) (by decide) (by rfl) ?_); k_dflt lct_toSrc))
  refine cutI (P := C_lawl hx.heap_1_39) ?_ (fun c_lawl => ?_)
  · as_aux_lemma =>
      unfold C_lawl
      intro w p loose mean mg mb news dp un gd cn cs a ccd cl outer A₀ base h₀ L m s Q E ka pa n B F X N T hk hdp hun hq ret
      obtain ⟨ea, oa, evs, ovs, kvs, pvs, ne, no, nk, np, aw, hE, hO, hK, hP, hn, hn9, hev⟩ := hq
      refine wpAny_call ?_
      k_dflt cell_enter
      rename_i g9 L9 h9 tk9 FG9 F9 X9 T9 l9 oc9 d9 N9 B9
      obtain ⟨v9, d9⟩ : ∃ v, oc9.data = .cell v := ⟨_, d9⟩
      obtain ⟨m9, F9⟩ := fr_know2 (x := "keys") (y := "pieces") F9 rfl rfl
      have nc9 : ∀ q ∈ news, q.1 ≠ L9 + 1 := fun q hq => Nat.ne_of_lt (Nat.lt_succ_of_lt (l9 q hq))
      clear l9
      k_steps
      unfold Hold
      rename Fr _ _ _ _ => F1
      rename News _ _ _ _ => N1
      rename IsRange _ _ _ _ _ _ _ _ => R1
      refine iter_rangeJ (n := n) ["i", "one", "other", "told", "lower"] (fun _ _ news' => ∃ oc v, news' = (L9 + 1, oc) :: news ∧ oc.data = .cell v) rfl R1 (small_one (by decide) (by decide) (by omega) (by omega)) (by rw [rangeSize_nat]; omega) F1 N1 ⟨_, _, rfl, d9⟩ (fun j t2 u1 h1 tk1 I1 oI1 news1 lt1 hj J1 off1 cI1 F2 N2 => ?_) (fun u1 h1 tk1 news1 J1 F2 N2 => ?_)
      · (try k_fold)
        obtain ⟨oc1, v1, rfl, d1⟩ := J1
        have nI1 : @Ne Nat (L9 + 1) I1 := off1 _ (List.mem_cons.mpr (.inl rfl))
        have nN1 : ∀ q ∈ news, q.1 ≠ I1 := fun q hq => off1 q (List.mem_cons.mpr (.inr hq))
        obtain ⟨cx, cy, dx, dy, ⟨ky2, e2, p2, r2, o2, to2, l2, sl2, sh2, c1, c2, c3, c4, c5, c6, c7, c8, c9, c10, c11, c12, c13, c14, c15, cb1, cb2, cb3, cb4, cb5, cb6, cb7, cb8, clex⟩⟩ := hev j hj
        simp only [Int.zero_add] at F2
        rw [← Int.toNat_natCast j] at c1 c12
        have offM : ∀ oc', ∀ p ∈ (L9 + 1, oc') :: news, p.1 ≠ I1 := fun oc' p hp => by
          rcases List.mem_cons.mp hp with rfl | hp
          · exact nI1
          · exact nN1 p hp
        clear F1 N1 R1 off1 lt1
        k_steps
        unfold Hold
        rename Fr _ _ _ _ => F3
        rename News _ _ _ _ => N3
        rename IsRange _ _ _ _ _ _ _ _ => R2
        refine iter_rangeJ (n := j) ["one", "other", "told", "lower"] (fun _ _ news' => ∃ oc v, news' = (I1, oI1) :: (L9 + 1, oc) :: news ∧ oc.data = .cell v) rfl R2 (small_one (by decide) (by decide) (by omega) (by omega)) (by rw [rangeSize_nat]; omega) F3 N3 ⟨_, _, rfl, d1⟩ (fun i t1 u2 h2 tk2 I2 oI2 news2 lt2 hi J2 off2 cI2 F4 N4 => ?_) (fun u2 h2 tk2 news2 J2 F4 N4 => ?_)
        · (try k_fold)
          obtain ⟨oc2, v2, rfl, d2⟩ := J2
          have nI2 : @Ne Nat (L9 + 1) I2 := off2 _ (List.mem_cons.mpr (.inr (List.mem_cons.mpr (.inl rfl))))
          have nI12 : @Ne Nat I1 I2 := off2 _ (List.mem_cons.mpr (.inl rfl))
          obtain ⟨ax, ay, bx, by', ⟨ky1, e1, p1, r1, o1, to1, l1, sl1, sh1, a1, a2, a3, a4, a5, a6, a7, a8, a9, a10, a11, a12, a13, a14, a15, ab1, ab2, ab3, ab4, ab5, ab6, ab7, ab8, alex⟩⟩ := hev i (by omega)
          simp only [Int.zero_add] at F4
          rw [← Int.toNat_natCast i] at a1 a12
          obtain ⟨n13, q13⟩ := c13.ex
          obtain ⟨m13, r13⟩ := a13.ex
          have offN : ∀ oc', ∀ p ∈ (I1, oI1) :: (L9 + 1, oc') :: news, p.1 ≠ I2 := fun oc' p hp => by
            rcases List.mem_cons.mp hp with rfl | hp
            · exact nI12
            · rcases List.mem_cons.mp hp with rfl | hp
              · exact nI2
              · exact off2 _ (.tail _ (.tail _ hp))
          obtain ⟨HG1, HG2⟩ := lines_eq (aw := aw) ⟨ab3, ab4⟩ ⟨ab7, ab8⟩ ⟨cb3, cb4⟩ ⟨cb7, cb8⟩ alex clex
          obtain ⟨HF1, HF2⟩ := lines_no (aw := aw) ⟨ab3, ab4⟩ ⟨ab7, ab8⟩ ⟨cb3, cb4⟩ ⟨cb7, cb8⟩ alex clex
          have w0 := dAl aw ab2 ab5
          have w1 := dAr aw ab1 ab6
          have w2 := dBl aw ab4 ab7
          have w3 := dBr aw ab3 ab8
          have w4 := dAl aw ab2 cb1
          have w5 := dAr aw ab1 cb2
          have w6 := dBl aw ab4 cb3
          have w7 := dBr aw ab3 cb4
          have w8 := dAl aw ab2 cb5
          have w9 := dAr aw ab1 cb6
          have w10 := dBl aw ab4 cb7
          have w11 := dBr aw ab3 cb8
          have w12 := dAl aw cb2 cb5
          have w13 := dAr aw cb1 cb6
          have w14 := dBl aw cb4 cb7
          have w15 := dBr aw cb3 cb8
          have w16 := dAl aw cb2 ab1
          have w17 := dAr aw cb1 ab2
          have w18 := dBl aw cb4 ab3
          have w19 := dBr aw cb3 ab4
          have w20 := dAl aw cb2 ab5
          have w21 := dAr aw cb1 ab6
          have w22 := dBl aw cb4 ab7
          have w23 := dBr aw cb3 ab8
          clear F3 N3 R2 hev lt2 off2
          k_steps
          all_goals first | exact turnJ_next (L := L9) (news' := (I1, oI1) :: (L9 + 1, _) :: news) (by k_asm) (by ktr_rel) (offN _) ⟨_, _, rfl, by assumption⟩ (by ktm_same) | exact (HF1 (by assumption) (by assumption) (by assumption)).elim | exact (HF2 (by assumption) (by assumption) (by assumption)).elim | exact (HG1 (by assumption) (by assumption) (by assumption) (by assumption)).elim | exact (HG2 (by assumption) (by assumption) (by assumption) (by assumption)).elim
        · (try k_fold)
          obtain ⟨oc2, v2, rfl, d2⟩ := J2
          clear F3 N3 R2 hev
          k_steps
          all_goals first | exact turnJ_next (L := L9) (news' := (L9 + 1, _) :: news) (by k_asm) (by ktr_rel) (offM _) ⟨_, _, rfl, by assumption⟩ (by ktm_same)
      · (try k_fold)
        obtain ⟨oc1, v1, rfl, d1⟩ := J1
        clear F1 N1 R1 hev
        k_steps
        all_goals first | exact retB ret rfl (by k_asm) (by ktr_rel)
  k_with_none
  (k_with "sweep" => (dsimp only; k_sweep))
  (k_with "execs cons" => k_fold)
  (k_with "getMethod ref" => (k_here; k_dflt (refine' kmu_own ?g1 ?g2 ?g3 ?g4 ?g5 ?_; (case g1 => k_asm); (case g2 => k_asm); (case g3 => k_inst); (case g4 => k_is); (case g5 => k_is); k_whole)))
  (k_with "enter" => (refine' code_def ?k1_1 ?k2_1 ?k3_1 ?k4_1 ?k5_1 ?kA_1 ?kF_1 ?kK_1 ?k6_1 ?k7_1 ?k8_1 ?k9_1 ?kB_1 ?_ ?c2_1 ?c3_1 ?c4_1 ?c5_1; (case kA_1 => exact rfl); (case kF_1 => exact rfl); (case kK_1 => assumption); (case k1_1 => k_asm); (case k2_1 => k_asm); (case k3_1 => k_asm); (case k4_1 => k_asm); (case k5_1 => k_asm); (case k6_1 => k_is); (case k7_1 => k_is); (case k8_1 => ktr_room); (case k9_1 => first | exact BindsTo.of_eq rfl | exact binds_K (by k_in) rfl (by k_is) rfl rfl rfl); (case c5_1 => decide); (case kB_1 => exact locs rfl); (case c2_1 => exact rfl); (case c3_1 => exact rfl); (case c4_1 => exact rfl); k_whole; intro _ _ _ _ _ _ zB _ _; (try dsimp only); (try k_lift zB); (try k_fold); (try (revert zB; intro _))))
  (k_with "inst" => (refine' pt_inst ?N_2 ?h1_2 ?h2_2; (case N_2 => k_asm); (case h1_2 => k_mem); (case h2_2 => k_mem)))
  (k_with "getMethod type:tuple" => (k_here; refine' method_type ?F_3 ?X_3 ?m_3 (by decide +kernel) ?e_3 ?h_3 ?_; (case F_3 => k_asm); (case X_3 => k_asm); (case m_3 => exact type_tuple_meta); (case e_3 => k_dflt k_is); (case h_3 => k_handed)))
  (k_with "call builtin:tuple.__getitem__" => (k_here; k_dflt (refine' sub_item ?k1_4 ?k2_4 ?k3_4 ?k4_4 ?k5_4 ?k6_4 ?k7_4 ?k8_4 ?_; (case k1_4 => k_in); (case k2_4 => k_inst); (case k3_4 => exact rfl); (case k4_4 => k_is); (case k5_4 => decide); (case k6_4 => decide); (case k7_4 => exact rfl); (case k8_4 => exact rfl); k_whole)))
  (k_with "call builtin:issubclass" => (k_here; k_dflt (refine' issub_call ?k1_5 ?k2_5 ?k3_5 ?k4_5 ?_; (case k1_5 => k_in); (case k2_5 => exact type_tuple_meta); (case k3_5 => k_is); (case k4_5 => k_is); k_whole)))
  (k_with "subscriptTail" => (k_here; (with_reducible show wpAny _ _ (subscriptTail _ _ (Value.ref _) (Value.int _ _)) _ _ _); k_dflt (refine' item_news ?N_6 ?m_6 ?a_6 ?b_6 ?c_6 ?_; (case N_6 => k_asm); (case m_6 => k_mem); (case a_6 => first | with_reducible assumption | omega); (case b_6 => first | with_reducible assumption | omega); (case c_6 => assumption); k_whole)))
  (k_with "subscriptTail Name" => (k_here; (with_reducible show wpAny _ _ (subscriptTail _ _ (Value.ref _) (Value.int _ _)) _ _ _); k_dflt (refine' item_news ?N_6 ?m_6 ?a_6 ?b_6 ?c_6 ?_; (case N_6 => k_asm); (case m_6 => k_mem); (case a_6 => first | with_reducible assumption | omega); (case b_6 => first | with_reducible assumption | omega); (case c_6 => assumption); k_whole)))
  (k_with "mem" => (first | with_reducible assumption | with_reducible exact List.mem_cons_self | (with_reducible refine' List.mem_cons_of_mem _ ?zm8; (case zm8 => k_mem)) | (with_reducible refine' IsPt.cons ?zm9; (case zm9 => k_mem)) | (with_reducible refine' IsTp.cons ?zm9; (case zm9 => k_mem)) | (with_reducible refine' IsSeg.cons ?zm9; (case zm9 => k_mem)) | (with_reducible refine' IsSK.cons ?zm9; (case zm9 => k_mem)) | (with_reducible refine' IsQK.cons ?zm9; (case zm9 => k_mem)) | (with_reducible refine' IsPlN.cons ?zm9; (case zm9 => k_mem))))
  (k_with "rel" => (first | with_reducible assumption | exact nd (by with_reducible assumption) | exact nd (nd (by with_reducible assumption)) | exact nd (nd (nd (by with_reducible assumption))) | exact nd (nd (nd (nd (by with_reducible assumption)))) | exact nd (nd (nd (nd (nd (by with_reducible assumption))))) | exact nd (nd (nd (nd (nd (nd (by with_reducible assumption)))))) | exact nd (nd (nd (nd (nd (nd (nd (by with_reducible assumption))))))) | exact nd (nd (nd (nd (nd (nd (nd (nd (by with_reducible assumption)))))))) | exact nd (nd (nd (nd (nd (nd (nd (nd (nd (by with_reducible assumption))))))))) | exact nd (nd (nd (nd (nd (nd (nd (nd (nd (nd (by with_reducible assumption)))))))))) | exact nd (nd (nd (nd (nd (nd (nd (nd (nd (nd (nd (by with_reducible assumption))))))))))) | exact nd (nd (nd (nd (nd (nd (nd (nd (nd (nd (nd (nd (by with_reducible assumption)))))))))))) | exact nd (nd (nd (nd (nd (nd (nd (nd (nd (nd (nd (nd (nd (by with_reducible assumption))))))))))))) | exact nd (nd (nd (nd (nd (nd (nd (nd (nd (nd (nd (nd (nd (nd (by with_reducible assumption))))))))))))))))
  (k_with "subscriptTail" => (k_here; (with_reducible show wpAny _ _ (subscriptTail _ (Expr.Constant _ _ _) (Value.ref _) (Value.int _ _)) _ _ _); k_dflt (refine' item_newsL ?N_8 ?m_8 ?a_8 ?b_8 ?c_8 ?_; (case N_8 => k_asm); (case m_8 => k_mem); (case a_8 => decide); (case b_8 => decide); (case c_8 => rfl); k_whole)))
  (k_with "subscriptTail Name" => (k_here; (with_reducible show wpAny _ _ (subscriptTail _ (Expr.Constant _ _ _) (Value.ref _) (Value.int _ _)) _ _ _); k_dflt (refine' item_newsL ?N_8 ?m_8 ?a_8 ?b_8 ?c_8 ?_; (case N_8 => k_asm); (case m_8 => k_mem); (case a_8 => decide); (case b_8 => decide); (case c_8 => rfl); k_whole)))
  (k_with "ne" => (first | with_reducible assumption | (with_reducible refine Ne.symm ?_; with_reducible assumption)))
  (k_with "units" => (first | exact fit2 (by assumption) (by decide) | exact fit1 (by assumption) (by decide) | exact fit3 (by assumption) (by decide) | exact fit0 (by assumption)))
  (k_with "room" => (first | exact fit2 (by assumption) (by decide) | exact fit1 (by assumption) (by decide) | exact fit3 (by assumption) (by decide) | exact fit0 (by assumption)))
  (k_with "getAttr ref" => (k_here; (with_reducible show wpAny _ _ (getAttr (Value.ref _) (PySem.Str.ofString "x") _) _ _ _); k_dflt (refine' c_pt_x ?k1_12 ?k2_12 ?k3_12 ?k4_12 ?k5_12 ?k6_12 ?k7_12 ?k8_12 ?k9_12 ?_; (case k1_12 => k_asm); (case k2_12 => k_asm); (case k3_12 => k_asm); (case k4_12 => k_asm); (case k5_12 => k_asm); (case k6_12 => first | exact rfl | assumption); (case k9_12 => k_mem); (case k7_12 => ktr_room); (case k8_12 => ktr_units); k_whole; intro _ _ _ _ _; (try k_sweep))))
  (k_with "getAttr ref" => (k_here; (with_reducible show wpAny _ _ (getAttr (Value.ref _) (PySem.Str.ofString "y") _) _ _ _); k_dflt (refine' c_pt_y ?k1_13 ?k2_13 ?k3_13 ?k4_13 ?k5_13 ?k6_13 ?k7_13 ?k8_13 ?k9_13 ?_; (case k1_13 => k_asm); (case k2_13 => k_asm); (case k3_13 => k_asm); (case k4_13 => k_asm); (case k5_13 => k_asm); (case k6_13 => first | exact rfl | assumption); (case k9_13 => k_mem); (case k7_13 => ktr_room); (case k8_13 => ktr_units); k_whole; intro _ _ _ _ _; (try k_sweep))))
  (k_with "compareOp Lt ref" => (k_here; k_dflt (refine' c_pt_ltC ?k1_14 ?k2_14 ?k3_14 ?k4_14 ?k5_14 ?k6_14 ?_; (case k1_14 => k_asm); (case k2_14 => k_asm); (case k3_14 => k_asm); (case k5_14 => k_mem); (case k6_14 => k_mem); (case k4_14 => ktr_units); k_whole)))
  (k_with "compareOp Lt ref" => (k_here; k_dflt (refine' c_q_lt ?k1_15 ?k2_15 ?k3_15 ?k4_15 ?k5_15 ?k6_15 ?k7_15 ?k8_15 ?p1_15 ?p2_15 ?p3_15 ?p4_15 ?b1_15 ?b2_15 ?b3_15 ?b4_15 ?b5_15 ?b6_15 ?b7_15 ?b8_15 ?i1_15 ?i2_15 ?i3_15 ?i4_15 ?i5_15 ?i6_15 ?q1_15 ?q2_15 ?q3_15 ?q4_15 ?_; (case k1_15 => k_asm); (case k2_15 => k_asm); (case k3_15 => k_asm); (case k4_15 => k_asm); (case k5_15 => k_asm); (case k6_15 => first | exact rfl | assumption); (case p1_15 => k_mem); (case p2_15 => k_mem); (case p3_15 => k_mem); (case p4_15 => k_mem); (case i1_15 => assumption); (case i2_15 => assumption); (case i3_15 => assumption); (case i4_15 => assumption); (case i5_15 => assumption); (case i6_15 => assumption); (case q1_15 => k_mem); (case q2_15 => k_mem); (case q3_15 => k_mem); (case q4_15 => k_mem); (case k7_15 => ktr_room); (case k8_15 => ktr_units); (case b1_15 => first | with_reducible assumption | omega); (case b2_15 => first | with_reducible assumption | omega); (case b3_15 => first | with_reducible assumption | omega); (case b4_15 => first | with_reducible assumption | omega); (case b5_15 => first | with_reducible assumption | omega); (case b6_15 => first | with_reducible assumption | omega); (case b7_15 => first | with_reducible assumption | omega); (case b8_15 => first | with_reducible assumption | omega); k_whole; intro _ _ _ _; (try k_sweep))))
  (k_with "call ref" => (k_here; (with_reducible show wpAny _ _ (call (Value.ref _) [Value.ref _, Value.ref _, Value.ref _]) _ _ _); k_dflt (refine' c_orient_m ?k1_16 ?k2_16 ?k3_16 ?k4_16 ?k5_16 ?k6_16 ?k7_16 ?k8_16 ?k9_16 ?p1_16 ?p2_16 ?p3_16 ?b1_16 ?b2_16 ?b3_16 ?b4_16 ?b5_16 ?b6_16 ?b7_16 ?b8_16 ?_; (case k1_16 => k_asm); (case k2_16 => k_asm); (case k3_16 => k_asm); (case k4_16 => k_asm); (case k5_16 => k_asm); (case k6_16 => first | exact rfl | assumption); (case k9_16 => k_mem); (case p1_16 => k_mem); (case p2_16 => k_mem); (case p3_16 => k_mem); (case k7_16 => ktr_room); (case k8_16 => ktr_units); (case b1_16 => first | with_reducible assumption | omega); (case b2_16 => first | with_reducible assumption | omega); (case b3_16 => first | with_reducible assumption | omega); (case b4_16 => first | with_reducible assumption | omega); (case b5_16 => first | with_reducible assumption | omega); (case b6_16 => first | with_reducible assumption | omega); (case b7_16 => first | with_reducible assumption | omega); (case b8_16 => first | with_reducible assumption | omega); k_whole; intro _ _ _ _; (try k_sweep))))
  (k_with "compareOp Is ref ref" => (k_here; k_dflt (refine' c_is_kind ?k1_17 ?k2_17 ?k3_17 ?_; (case k1_17 => k_in); (case k2_17 => first | exact ⟨_, rfl⟩ | exact ⟨0, rfl⟩ | exact ⟨1, rfl⟩ | exact ⟨-1, rfl⟩); (case k3_17 => first | exact ⟨_, rfl⟩ | exact ⟨0, rfl⟩ | exact ⟨1, rfl⟩ | exact ⟨-1, rfl⟩); k_whole)))
  (k_with "compareOp IsNot ref ref" => (k_here; k_dflt (refine' c_isnot_kind ?k1_18 ?k2_18 ?k3_18 ?_; (case k1_18 => k_in); (case k2_18 => first | exact ⟨_, rfl⟩ | exact ⟨0, rfl⟩ | exact ⟨1, rfl⟩ | exact ⟨-1, rfl⟩); (case k3_18 => first | exact ⟨_, rfl⟩ | exact ⟨0, rfl⟩ | exact ⟨1, rfl⟩ | exact ⟨-1, rfl⟩); k_whole)))
  (k_with "compareOp Lt ref" => (k_here; k_dflt (refine' c_s_lt ?k1_19 ?k2_19 ?k3_19 ?k4_19 ?k5_19 ?k6_19 ?k7_19 ?k8_19 ?p1_19 ?p2_19 ?p3_19 ?p4_19 ?b1_19 ?b2_19 ?b3_19 ?b4_19 ?b5_19 ?b6_19 ?b7_19 ?b8_19 ?i1_19 ?i2_19 ?i3_19 ?i4_19 ?i5_19 ?i6_19 ?q1_19 ?q2_19 ?q3_19 ?q4_19 ?g1_19 ?g2_19 ?g3_19 ?g4_19 ?g5_19 ?g6_19 ?g7_19 ?g8_19 ?g9_19 ?g10_19 ?g11_19 ?g12_19 ?_; (case k1_19 => k_asm); (case k2_19 => k_asm); (case k3_19 => k_asm); (case k4_19 => k_asm); (case k5_19 => k_asm); (case k6_19 => first | exact rfl | assumption); (case p1_19 => k_mem); (case p2_19 => k_mem); (case p3_19 => k_mem); (case p4_19 => k_mem); (case i1_19 => assumption); (case i2_19 => assumption); (case i3_19 => assumption); (case i4_19 => assumption); (case i5_19 => assumption); (case i6_19 => assumption); (case q1_19 => k_mem); (case q2_19 => k_mem); (case q3_19 => k_mem); (case q4_19 => k_mem); (case k7_19 => ktr_room); (case k8_19 => ktr_units); (case b1_19 => first | with_reducible assumption | omega); (case b2_19 => first | with_reducible assumption | omega); (case b3_19 => first | with_reducible assumption | omega); (case b4_19 => first | with_reducible assumption | omega); (case b5_19 => first | with_reducible assumption | omega); (case b6_19 => first | with_reducible assumption | omega); (case b7_19 => first | with_reducible assumption | omega); (case b8_19 => first | with_reducible assumption | omega); (case g1_19 => first | with_reducible assumption | omega); (case g2_19 => first | with_reducible assumption | omega); (case g3_19 => first | with_reducible assumption | omega); (case g4_19 => first | with_reducible assumption | omega); (case g5_19 => first | with_reducible assumption | omega); (case g6_19 => first | with_reducible assumption | omega); (case g7_19 => first | with_reducible assumption | omega); (case g8_19 => first | with_reducible assumption | omega); (case g9_19 => first | with_reducible assumption | omega); (case g10_19 => first | with_reducible assumption | omega); (case g11_19 => first | with_reducible assumption | omega); (case g12_19 => first | with_reducible assumption | omega); k_whole; intro _ _ _ _; (try k_sweep))))
  (k_with "call ref" => (k_here; (with_reducible show wpAny _ _ (call (Value.ref 305) [Value.ref _, Value.ref _]) _ _ _); k_dflt (refine' c_side ?k1_20 ?k2_20 ?k3_20 ?k4_20 ?k5_20 ?k6_20 ?k7_20 ?k8_20 ?p1_20 ?p2_20 ?p3_20 ?p4_20 ?_; (case k1_20 => k_asm); (case k2_20 => k_asm); (case k3_20 => k_asm); (case k4_20 => k_asm); (case k5_20 => k_asm); (case k6_20 => first | exact rfl | assumption); (case p1_20 => k_mem); (case p2_20 => k_mem); (case p3_20 => k_mem); (case p4_20 => k_mem); (case k7_20 => ktr_room); (case k8_20 => ktr_units); k_whole; intro _ _ _ _ _; (try k_sweep))))
  (k_with "call builtin:max" => (k_here; (with_reducible show wpAny _ _ (call (Value.builtin _) [Value.ref _, Value.ref _]) _ _ _); k_dflt (refine' max_tpC ?k0_21 ?k1_21 ?k2_21 ?k3_21 ?p1_21 ?p2_21 ?_; (case k0_21 => exact rfl); (case k1_21 => ktr_units); (case k2_21 => k_asm); (case k3_21 => k_asm); (case p1_21 => k_mem); (case p2_21 => k_mem); k_whole; intro _ _ _ _ _ _; (try k_sweep))))
  (k_with "call builtin:min" => (k_here; (with_reducible show wpAny _ _ (call (Value.builtin _) [Value.ref _, Value.ref _]) _ _ _); k_dflt (refine' min_tpC ?k0_22 ?k1_22 ?k2_22 ?k3_22 ?p1_22 ?p2_22 ?_; (case k0_22 => exact rfl); (case k1_22 => ktr_units); (case k2_22 => k_asm); (case k3_22 => k_asm); (case p1_22 => k_mem); (case p2_22 => k_mem); k_whole; intro _ _ _ _ _ _; (try k_sweep))))
  (k_with "pyIter ref" => (k_here; (with_reducible show wpAny _ _ (pyIter (Value.ref _)) (fun it s₂ => TurnsAt _ _ _ _ _ _ _ _ _ it s₂) _ _); (with_unfolding_all refine' iter_tupTurns ?k0_23 ?k1_23 ?k2_23 ?k3_23 ?k4_23 ?k5_23 ?_; (case k0_23 => rfl); (case k1_23 => k_asm); (case k2_23 => k_asm); (case k3_23 => k_mem); (case k4_23 => rfl); (case k5_23 => rfl); k_whole); intro _ _))
  (k_with "UnrEndW" => (refine' unr_end1 ?F_24 ?l_24 ?N_24 ?k_24 ?_; (case F_24 => k_asm); (case l_24 => assumption); (case N_24 => ktr_rel); (case k_24 => exact ⟨by k_mem, trivial⟩)))
  (k_with "call ref" => (k_here; (with_reducible show wpAny _ _ (call (Value.ref 312) [Value.ref _, Value.ref _]) _ _ _); k_dflt (refine' c_lower ?k1_25 ?k2_25 ?k3_25 ?k4_25 ?k5_25 ?k6_25 ?k7_25 ?k8_25 ?p1_25 ?p2_25 ?p3_25 ?p4_25 ?p5_25 ?p6_25 ?_; (case k1_25 => k_asm); (case k2_25 => k_asm); (case k3_25 => k_asm); (case k4_25 => k_asm); (case k5_25 => k_asm); (case k6_25 => first | exact rfl | assumption); (case p1_25 => k_mem); (case p2_25 => k_mem); (case p3_25 => k_mem); (case p4_25 => k_mem); (case p5_25 => k_mem); (case p6_25 => k_mem); (case k7_25 => ktr_room); (case k8_25 => ktr_units); k_whole; intro _ _ _ _ _; (try k_sweep))))
  (k_with "TupSrc" => (k_here; k_dflt (refine TupSrc.mk' (by rfl) (by k_asm) (by k_asm) (by k_mem) (Nat.le_of_ble_eq_true rfl) ?_; intro _; lct_lit)))
  (k_with "CompEnd" => (refine' comp_end ?F_29 ?N_29 ?off_29 ?hS_29 ?_; (case F_29 => k_asm); (case N_29 => ktr_rel); (case off_29 => first | assumption | (simp only [LCg.Off3, and_true]; assumption)); (case hS_29 => first | ((try dsimp only); k_mem) | exact Or.inr ⟨_, by k_mem, rfl, _, rfl⟩)))
  (k_with "compareOp Eq ref ref" => (k_here; (with_reducible show wpAny _ _ (compareOp CmpOp.Eq (Value.ref _) (Value.ref _)) _ _ _); k_dflt (refine' eq_seg ?k1_30 ?k2_30 ?p1_30 ?p2_30 ?p3_30 ?p4_30 ?p5_30 ?p6_30 ?_; (case k2_30 => k_asm); (case p1_30 => k_mem); (case p2_30 => k_mem); (case p3_30 => k_mem); (case p4_30 => k_mem); (case p5_30 => k_mem); (case p6_30 => k_mem); (case k1_30 => ktr_units); k_whole)))
  (k_with "compareOp Eq ref ref" => (k_here; (with_reducible show wpAny _ _ (compareOp CmpOp.Eq (Value.ref _) (Value.ref _)) _ _ _); k_dflt (refine' eq_len ?k1_31 ?k2_31 ?p1_31 ?p2_31 ?p3_31 ?_; (case k2_31 => k_asm); (case p1_31 => k_mem); (case p2_31 => k_mem); (case p3_31 => exact rfl); (case k1_31 => ktr_units); k_whole)))
  (k_with "compareOp NotEq ref ref" => (k_here; (with_reducible show wpAny _ _ (compareOp CmpOp.NotEq (Value.ref _) (Value.ref _)) _ _ _); k_dflt (refine' ne_bb ?k2_32 ?p1_32 ?p2_32 ?k1_32 ?_; (case k2_32 => k_asm); (case p1_32 => k_mem); (case p2_32 => k_mem); (case k1_32 => ktr_units); k_whole)))
  (k_with "compareOp NotIn ref ref" => (k_here; (with_reducible show wpAny _ _ (compareOp CmpOp.NotIn (Value.ref _) (Value.ref _)) _ _ _); k_dflt (refine' notin1 ?k1_33 ?k2_33 ?p1_33 ?p2_33 ?p3_33 ?_; (case k2_33 => k_asm); (case p1_33 => k_mem); (case p2_33 => k_mem); (case p3_33 => k_mem); (case k1_33 => ktr_units); k_whole)))
  (k_with "compareOp NotIn ref ref" => (k_here; (with_reducible show wpAny _ _ (compareOp CmpOp.NotIn (Value.ref _) (Value.ref _)) _ _ _); k_dflt (refine' notin2 ?k1_34 ?k2_34 ?p1_34 ?ne_34 ?p2_34 ?p3_34 ?p4_34 ?_; (case k2_34 => k_asm); (case p1_34 => k_mem); (case ne_34 => first | assumption | (refine Ne.symm ?_; assumption) | omega); (case p2_34 => k_mem); (case p3_34 => k_mem); (case p4_34 => k_mem); (case k1_34 => ktr_units); k_whole)))
  (k_with "compareOp Lt ref" => (k_here; (with_reducible show wpAny _ _ (compareOp CmpOp.Lt (Value.ref _) (Value.ref _)) _ _ _); k_dflt (refine' tp_ltC ?k1_35 ?k2_35 ?p1_35 ?p2_35 ?_; (case k2_35 => k_asm); (case p1_35 => k_mem); (case p2_35 => k_mem); (case k1_35 => ktr_units); k_whole)))
  (k_with "compareOp Eq ref ref" => (k_here; (with_reducible show wpAny _ _ (compareOp CmpOp.Eq (Value.ref _) (Value.ref _)) _ _ _); k_dflt (refine' eq_nil ?k1_36 ?k2_36 ?p1_36 ?p2_36 ?p3_36 ?p4_36 ?_; (case k2_36 => k_asm); (case p1_36 => k_mem); (case p2_36 => k_mem); (case p3_36 => exact rfl); (case p4_36 => exact rfl); (case k1_36 => ktr_units); k_whole)))
  (k_with "adr" => (first | with_reducible assumption | exact allLt_of (by with_reducible assumption) | exact (by with_reducible assumption : _ ∧ AllLt _ _).2 | exact (by with_reducible assumption : _ ∧ (_ ∧ AllLt _ _)).2.2 | exact (by with_reducible assumption : _ ∧ (_ ∧ (_ ∧ AllLt _ _))).2.2.2 | exact (by with_reducible assumption : _ ∧ (_ ∧ (_ ∧ (_ ∧ AllLt _ _)))).2.2.2.2 | exact (by with_reducible assumption : _ ∧ (_ ∧ (_ ∧ (_ ∧ (_ ∧ AllLt _ _))))).2.2.2.2.2 | exact (by with_reducible assumption : _ ∧ (_ ∧ (_ ∧ (_ ∧ (_ ∧ (_ ∧ AllLt _ _)))))).2.2.2.2.2.2 | exact (by with_reducible assumption : _ ∧ (_ ∧ (_ ∧ (_ ∧ (_ ∧ (_ ∧ (_ ∧ AllLt _ _))))))).2.2.2.2.2.2.2 | exact (by with_reducible assumption : _ ∧ (_ ∧ (_ ∧ (_ ∧ (_ ∧ (_ ∧ (_ ∧ (_ ∧ AllLt _ _)))))))).2.2.2.2.2.2.2.2 | exact (by with_reducible assumption : _ ∧ (_ ∧ (_ ∧ (_ ∧ (_ ∧ (_ ∧ (_ ∧ (_ ∧ (_ ∧ AllLt _ _))))))))).2.2.2.2.2.2.2.2.2 | exact (by with_reducible assumption : _ ∧ (_ ∧ (_ ∧ (_ ∧ (_ ∧ (_ ∧ (_ ∧ (_ ∧ (_ ∧ (_ ∧ AllLt _ _)))))))))).2.2.2.2.2.2.2.2.2.2 | exact (by with_reducible assumption : _ ∧ (_ ∧ (_ ∧ (_ ∧ (_ ∧ (_ ∧ (_ ∧ (_ ∧ (_ ∧ (_ ∧ (_ ∧ AllLt _ _))))))))))).2.2.2.2.2.2.2.2.2.2.2 | exact (by with_reducible assumption : _ ∧ (_ ∧ (_ ∧ (_ ∧ (_ ∧ (_ ∧ (_ ∧ (_ ∧ (_ ∧ (_ ∧ (_ ∧ (_ ∧ AllLt _ _)))))))))))).2.2.2.2.2.2.2.2.2.2.2.2 | exact (by with_reducible assumption : _ ∧ (_ ∧ (_ ∧ (_ ∧ (_ ∧ (_ ∧ (_ ∧ (_ ∧ (_ ∧ (_ ∧ (_ ∧ (_ ∧ (_ ∧ AllLt _ _))))))))))))).2.2.2.2.2.2.2.2.2.2.2.2.2 | exact (by with_reducible assumption : _ ∧ (_ ∧ (_ ∧ (_ ∧ (_ ∧ (_ ∧ (_ ∧ (_ ∧ (_ ∧ (_ ∧ (_ ∧ (_ ∧ (_ ∧ (_ ∧ AllLt _ _)))))))))))))).2.2.2.2.2.2.2.2.2.2.2.2.2.2 | exact (by with_reducible assumption : _ ∧ (_ ∧ (_ ∧ (_ ∧ (_ ∧ (_ ∧ (_ ∧ (_ ∧ (_ ∧ (_ ∧ (_ ∧ (_ ∧ (_ ∧ (_ ∧ (_ ∧ AllLt _ _))))))))))))))).2.2.2.2.2.2.2.2.2.2.2.2.2.2.2 | exact (by with_reducible assumption : _ ∧ (_ ∧ (_ ∧ (_ ∧ (_ ∧ (_ ∧ (_ ∧ (_ ∧ (_ ∧ (_ ∧ (_ ∧ (_ ∧ (_ ∧ (_ ∧ (_ ∧ (_ ∧ AllLt _ _)))))))))))))))).2.2.2.2.2.2.2.2.2.2.2.2.2.2.2.2 | exact (by with_reducible assumption : _ ∧ (_ ∧ (_ ∧ (_ ∧ (_ ∧ (_ ∧ (_ ∧ (_ ∧ (_ ∧ (_ ∧ (_ ∧ (_ ∧ (_ ∧ (_ ∧ (_ ∧ (_ ∧ (_ ∧ AllLt _ _))))))))))))))))).2.2.2.2.2.2.2.2.2.2.2.2.2.2.2.2.2 | exact (by with_reducible assumption : _ ∧ (_ ∧ (_ ∧ (_ ∧ (_ ∧ (_ ∧ (_ ∧ (_ ∧ (_ ∧ (_ ∧ (_ ∧ (_ ∧ (_ ∧ (_ ∧ (_ ∧ (_ ∧ (_ ∧ AllLt _ _))))))))))))))))).2.2.2.2.2.2.2.2.2.2.2.2.2.2.2.2.2 | exact (by with_reducible assumption : _ ∧ (_ ∧ (_ ∧ (_ ∧ (_ ∧ (_ ∧ (_ ∧ (_ ∧ (_ ∧ (_ ∧ (_ ∧ (_ ∧ (_ ∧ (_ ∧ (_ ∧ (_ ∧ (_ ∧ (_ ∧ AllLt _ _)))))))))))))))))).2.2.2.2.2.2.2.2.2.2.2.2.2.2.2.2.2.2 | exact (by with_reducible assumption : _ ∧ (_ ∧ (_ ∧ (_ ∧ (_ ∧ (_ ∧ (_ ∧ (_ ∧ (_ ∧ (_ ∧ (_ ∧ (_ ∧ (_ ∧ (_ ∧ (_ ∧ (_ ∧ (_ ∧ (_ ∧ (_ ∧ AllLt _ _))))))))))))))))))).2.2.2.2.2.2.2.2.2.2.2.2.2.2.2.2.2.2.2 | exact (by with_reducible assumption : _ ∧ (_ ∧ (_ ∧ (_ ∧ (_ ∧ (_ ∧ (_ ∧ (_ ∧ (_ ∧ (_ ∧ (_ ∧ (_ ∧ (_ ∧ (_ ∧ (_ ∧ (_ ∧ (_ ∧ (_ ∧ (_ ∧ (_ ∧ AllLt _ _)))))))))))))))))))).2.2.2.2.2.2.2.2.2.2.2.2.2.2.2.2.2.2.2.2 | exact (by with_reducible assumption : _ ∧ (_ ∧ (_ ∧ (_ ∧ (_ ∧ (_ ∧ (_ ∧ (_ ∧ (_ ∧ (_ ∧ (_ ∧ (_ ∧ (_ ∧ (_ ∧ (_ ∧ (_ ∧ (_ ∧ (_ ∧ (_ ∧ (_ ∧ (_ ∧ AllLt _ _))))))))))))))))))))).2.2.2.2.2.2.2.2.2.2.2.2.2.2.2.2.2.2.2.2.2 | exact (by with_reducible assumption : _ ∧ (_ ∧ (_ ∧ (_ ∧ (_ ∧ (_ ∧ (_ ∧ (_ ∧ (_ ∧ (_ ∧ (_ ∧ (_ ∧ (_ ∧ (_ ∧ (_ ∧ (_ ∧ (_ ∧ (_ ∧ (_ ∧ (_ ∧ (_ ∧ (_ ∧ AllLt _ _)))))))))))))))))))))).2.2.2.2.2.2.2.2.2.2.2.2.2.2.2.2.2.2.2.2.2.2 | exact (by with_reducible assumption : _ ∧ (_ ∧ (_ ∧ (_ ∧ (_ ∧ (_ ∧ (_ ∧ (_ ∧ (_ ∧ (_ ∧ (_ ∧ (_ ∧ (_ ∧ (_ ∧ (_ ∧ (_ ∧ (_ ∧ (_ ∧ (_ ∧ (_ ∧ (_ ∧ (_ ∧ (_ ∧ AllLt _ _))))))))))))))))))))))).2.2.2.2.2.2.2.2.2.2.2.2.2.2.2.2.2.2.2.2.2.2.2 | exact (by with_reducible assumption : _ ∧ (_ ∧ (_ ∧ (_ ∧ (_ ∧ (_ ∧ (_ ∧ (_ ∧ (_ ∧ (_ ∧ (_ ∧ (_ ∧ (_ ∧ (_ ∧ (_ ∧ (_ ∧ (_ ∧ (_ ∧ (_ ∧ (_ ∧ (_ ∧ (_ ∧ (_ ∧ (_ ∧ AllLt _ _)))))))))))))))))))))))).2.2.2.2.2.2.2.2.2.2.2.2.2.2.2.2.2.2.2.2.2.2.2.2 | exact (by with_reducible assumption : _ ∧ (_ ∧ (_ ∧ (_ ∧ (_ ∧ (_ ∧ (_ ∧ (_ ∧ (_ ∧ (_ ∧ (_ ∧ (_ ∧ (_ ∧ (_ ∧ (_ ∧ (_ ∧ (_ ∧ (_ ∧ (_ ∧ (_ ∧ (_ ∧ (_ ∧ (_ ∧ (_ ∧ (_ ∧ AllLt _ _))))))))))))))))))))))))).2.2.2.2.2.2.2.2.2.2.2.2.2.2.2.2.2.2.2.2.2.2.2.2.2 | exact (by with_reducible assumption : _ ∧ (_ ∧ (_ ∧ (_ ∧ (_ ∧ (_ ∧ (_ ∧ (_ ∧ (_ ∧ (_ ∧ (_ ∧ (_ ∧ (_ ∧ (_ ∧ (_ ∧ (_ ∧ (_ ∧ (_ ∧ (_ ∧ (_ ∧ (_ ∧ (_ ∧ (_ ∧ (_ ∧ (_ ∧ (_ ∧ AllLt _ _)))))))))))))))))))))))))).2.2.2.2.2.2.2.2.2.2.2.2.2.2.2.2.2.2.2.2.2.2.2.2.2.2 | exact (by with_reducible assumption : _ ∧ (_ ∧ (_ ∧ (_ ∧ (_ ∧ (_ ∧ (_ ∧ (_ ∧ (_ ∧ (_ ∧ (_ ∧ (_ ∧ (_ ∧ (_ ∧ (_ ∧ (_ ∧ (_ ∧ (_ ∧ (_ ∧ (_ ∧ (_ ∧ (_ ∧ (_ ∧ (_ ∧ (_ ∧ (_ ∧ (_ ∧ AllLt _ _))))))))))))))))))))))))))).2.2.2.2.2.2.2.2.2.2.2.2.2.2.2.2.2.2.2.2.2.2.2.2.2.2.2 | exact (by with_reducible assumption : _ ∧ (_ ∧ (_ ∧ (_ ∧ (_ ∧ (_ ∧ (_ ∧ (_ ∧ (_ ∧ (_ ∧ (_ ∧ (_ ∧ (_ ∧ (_ ∧ (_ ∧ (_ ∧ (_ ∧ (_ ∧ (_ ∧ (_ ∧ (_ ∧ (_ ∧ (_ ∧ (_ ∧ (_ ∧ (_ ∧ (_ ∧ (_ ∧ AllLt _ _)))))))))))))))))))))))))))).2.2.2.2.2.2.2.2.2.2.2.2.2.2.2.2.2.2.2.2.2.2.2.2.2.2.2.2 | exact (by with_reducible assumption : _ ∧ (_ ∧ (_ ∧ (_ ∧ (_ ∧ (_ ∧ (_ ∧ (_ ∧ (_ ∧ (_ ∧ (_ ∧ (_ ∧ (_ ∧ (_ ∧ (_ ∧ (_ ∧ (_ ∧ (_ ∧ (_ ∧ (_ ∧ (_ ∧ (_ ∧ (_ ∧ (_ ∧ (_ ∧ (_ ∧ (_ ∧ (_ ∧ (_ ∧ AllLt _ _))))))))))))))))))))))))))))).2.2.2.2.2.2.2.2.2.2.2.2.2.2.2.2.2.2.2.2.2.2.2.2.2.2.2.2.2 | exact (by with_reducible assumption : _ ∧ (_ ∧ (_ ∧ (_ ∧ (_ ∧ (_ ∧ (_ ∧ (_ ∧ (_ ∧ (_ ∧ (_ ∧ (_ ∧ (_ ∧ (_ ∧ (_ ∧ (_ ∧ (_ ∧ (_ ∧ (_ ∧ (_ ∧ (_ ∧ (_ ∧ (_ ∧ (_ ∧ (_ ∧ (_ ∧ (_ ∧ (_ ∧ (_ ∧ (_ ∧ AllLt _ _)))))))))))))))))))))))))))))).2.2.2.2.2.2.2.2.2.2.2.2.2.2.2.2.2.2.2.2.2.2.2.2.2.2.2.2.2.2 | exact (by with_reducible assumption : _ ∧ (_ ∧ (_ ∧ (_ ∧ (_ ∧ (_ ∧ (_ ∧ (_ ∧ (_ ∧ (_ ∧ (_ ∧ (_ ∧ (_ ∧ (_ ∧ (_ ∧ (_ ∧ (_ ∧ (_ ∧ (_ ∧ (_ ∧ (_ ∧ (_ ∧ (_ ∧ (_ ∧ (_ ∧ (_ ∧ (_ ∧ (_ ∧ (_ ∧ (_ ∧ (_ ∧ AllLt _ _))))))))))))))))))))))))))))))).2.2.2.2.2.2.2.2.2.2.2.2.2.2.2.2.2.2.2.2.2.2.2.2.2.2.2.2.2.2.2 | exact (by with_reducible assumption : _ ∧ (_ ∧ (_ ∧ (_ ∧ (_ ∧ (_ ∧ (_ ∧ (_ ∧ (_ ∧ (_ ∧ (_ ∧ (_ ∧ (_ ∧ (_ ∧ (_ ∧ (_ ∧ (_ ∧ (_ ∧ (_ ∧ (_ ∧ (_ ∧ (_ ∧ (_ ∧ (_ ∧ (_ ∧ (_ ∧ (_ ∧ (_ ∧ (_ ∧ (_ ∧ (_ ∧ (_ ∧ AllLt _ _)))))))))))))))))))))))))))))))).2.2.2.2.2.2.2.2.2.2.2.2.2.2.2.2.2.2.2.2.2.2.2.2.2.2.2.2.2.2.2.2))
  (k_with "all" => (first | with_reducible assumption | with_reducible exact fun p hp => Nat.ne_of_lt (ktn_ltOf (by kd_adr) p hp) | with_reducible exact fun p hp => Ne.symm (Nat.ne_of_lt (ktn_ltOf (by kd_adr) p hp))))
  (k_with "call builtin:sorted" => (k_here; (with_reducible show wpAny _ _ (call (Value.builtin _) [Value.ref _]) _ _ _); (with_unfolding_all refine' kat_sorted ?k1_44 ?k2_44 ?k3_44 ?k4_44 ?k5_44 ?_; (case k1_44 => k_asm); (case k2_44 => k_asm); (case k3_44 => kso_list); (case k4_44 => exact Nat.le_of_ble_eq_true rfl); (case k5_44 => exact Nat.le_of_ble_eq_true rfl); k_whole); intro _ _ _ _ _ zl1; (try k_lt zl1); (try k_sweep); kat_kinds; (try (revert zl1; intro _))))
  refine cutI (P := C_drawn hx.heap_1_39) ?_ (fun c_drawn => ?_)
  · skip
    unfold C_drawn
    intro w p loose mean mg mb news dp un gd cn cs a ccd cl outer A₀ base h₀ L m s Q E k t B F X N T hk hdp hun ret
    refine wpAny_call ?_
    k_dflt cell_enter
    k_steps
    all_goals first
      | exact (cell_abs1 (cell25 _) (cell25 _) (by assumption) (by assumption) (by assumption)).elim
      | exact (cell_abs (cell25 _) (cell25 _) (by assumption) (by assumption) (by assumption)).elim
      | (refine' ret _ _ _ _ _ _ _ _ _ _ _ _ _ _ ?g_drawn ?l1_drawn ?l2_drawn ?l3_drawn ?F_drawn ?N_drawn
         (case N_drawn => exact News.pick (by assumption) (by k_mem) (News.pick (by assumption) (by k_mem) (News.pick (by assumption) (by k_mem) (by ktr_rel))))
         (case F_drawn => k_asm)
         (case g_drawn => first | exact grid2 (cell25 _) (cell25 _) (by assumption) (by assumption) | exact grid3 (cell25 _) (cell25 _) (by assumption) (by assumption) (by assumption) | exact grid4 (cell25 _) (cell25 _) (by assumption) | exact grid5 (cell25 _) (cell25 _) (by assumption) (by assumption))
         (case l1_drawn => exact ktn_ltOf (by kd_adr))
         (case l2_drawn => exact ktn_ltOf (by kd_adr))
         (case l3_drawn => exact ktn_ltOf (by kd_adr)))
  k_with_none
  (k_with "sweep" => (dsimp only; k_sweep))
  (k_with "execs cons" => k_fold)
  (k_with "getMethod ref" => (k_here; k_dflt (refine' kmu_own ?g1 ?g2 ?g3 ?g4 ?g5 ?_; (case g1 => k_asm); (case g2 => k_asm); (case g3 => k_inst); (case g4 => k_is); (case g5 => k_is); k_whole)))
  (k_with "enter" => (refine' code_def ?k1_1 ?k2_1 ?k3_1 ?k4_1 ?k5_1 ?kA_1 ?kF_1 ?kK_1 ?k6_1 ?k7_1 ?k8_1 ?k9_1 ?kB_1 ?_ ?c2_1 ?c3_1 ?c4_1 ?c5_1; (case kA_1 => exact rfl); (case kF_1 => exact rfl); (case kK_1 => assumption); (case k1_1 => k_asm); (case k2_1 => k_asm); (case k3_1 => k_asm); (case k4_1 => k_asm); (case k5_1 => k_asm); (case k6_1 => k_is); (case k7_1 => k_is); (case k8_1 => ktr_room); (case k9_1 => first | exact BindsTo.of_eq rfl | exact binds_K (by k_in) rfl (by k_is) rfl rfl rfl); (case c5_1 => decide); (case kB_1 => exact locs rfl); (case c2_1 => exact rfl); (case c3_1 => exact rfl); (case c4_1 => exact rfl); k_whole; intro _ _ _ _ _ _ zB _ _; (try dsimp only); (try k_lift zB); (try k_fold); (try (revert zB; intro _))))
  (k_with "inst" => (refine' pt_inst ?N_2 ?h1_2 ?h2_2; (case N_2 => k_asm); (case h1_2 => k_mem); (case h2_2 => k_mem)))
  (k_with "getMethod type:tuple" => (k_here; refine' method_type ?F_3 ?X_3 ?m_3 (by decide +kernel) ?e_3 ?h_3 ?_; (case F_3 => k_asm); (case X_3 => k_asm); (case m_3 => exact type_tuple_meta); (case e_3 => k_dflt k_is); (case h_3 => k_handed)))
  (k_with "call builtin:tuple.__getitem__" => (k_here; k_dflt (refine' sub_item ?k1_4 ?k2_4 ?k3_4 ?k4_4 ?k5_4 ?k6_4 ?k7_4 ?k8_4 ?_; (case k1_4 => k_in); (case k2_4 => k_inst); (case k3_4 => exact rfl); (case k4_4 => k_is); (case k5_4 => decide); (case k6_4 => decide); (case k7_4 => exact rfl); (case k8_4 => exact rfl); k_whole)))
  (k_with "call builtin:issubclass" => (k_here; k_dflt (refine' issub_call ?k1_5 ?k2_5 ?k3_5 ?k4_5 ?_; (case k1_5 => k_in); (case k2_5 => exact type_tuple_meta); (case k3_5 => k_is); (case k4_5 => k_is); k_whole)))
  (k_with "subscriptTail" => (k_here; (with_reducible show wpAny _ _ (subscriptTail _ _ (Value.ref _) (Value.int _ _)) _ _ _); k_dflt (refine' item_news ?N_6 ?m_6 ?a_6 ?b_6 ?c_6 ?_; (case N_6 => k_asm); (case m_6 => k_mem); (case a_6 => first | with_reducible assumption | omega); (case b_6 => first | with_reducible assumption | omega); (case c_6 => assumption); k_whole)))
  (k_with "subscriptTail Name" => (k_here; (with_reducible show wpAny _ _ (subscriptTail _ _ (Value.ref _) (Value.int _ _)) _ _ _); k_dflt (refine' item_news ?N_6 ?m_6 ?a_6 ?b_6 ?c_6 ?_; (case N_6 => k_asm); (case m_6 => k_mem); (case a_6 => first | with_reducible assumption | omega); (case b_6 => first | with_reducible assumption | omega); (case c_6 => assumption); k_whole)))
  (k_with "mem" => (first | with_reducible assumption | with_reducible exact List.mem_cons_self | (with_reducible refine' List.mem_cons_of_mem _ ?zm8; (case zm8 => k_mem)) | (with_reducible refine' IsPt.cons ?zm9; (case zm9 => k_mem)) | (with_reducible refine' IsTp.cons ?zm9; (case zm9 => k_mem)) | (with_reducible refine' IsSeg.cons ?zm9; (case zm9 => k_mem)) | (with_reducible refine' IsSK.cons ?zm9; (case zm9 => k_mem)) | (with_reducible refine' IsQK.cons ?zm9; (case zm9 => k_mem)) | (with_reducible refine' IsPlN.cons ?zm9; (case zm9 => k_mem))))
  (k_with "rel" => (first | with_reducible assumption | exact nd (by with_reducible assumption) | exact nd (nd (by with_reducible assumption)) | exact nd (nd (nd (by with_reducible assumption))) | exact nd (nd (nd (nd (by with_reducible assumption)))) | exact nd (nd (nd (nd (nd (by with_reducible assumption))))) | exact nd (nd (nd (nd (nd (nd (by with_reducible assumption)))))) | exact nd (nd (nd (nd (nd (nd (nd (by with_reducible assumption))))))) | exact nd (nd (nd (nd (nd (nd (nd (nd (by with_reducible assumption)))))))) | exact nd (nd (nd (nd (nd (nd (nd (nd (nd (by with_reducible assumption))))))))) | exact nd (nd (nd (nd (nd (nd (nd (nd (nd (nd (by with_reducible assumption)))))))))) | exact nd (nd (nd (nd (nd (nd (nd (nd (nd (nd (nd (by with_reducible assumption))))))))))) | exact nd (nd (nd (nd (nd (nd (nd (nd (nd (nd (nd (nd (by with_reducible assumption)))))))))))) | exact nd (nd (nd (nd (nd (nd (nd (nd (nd (nd (nd (nd (nd (by with_reducible assumption))))))))))))) | exact nd (nd (nd (nd (nd (nd (nd (nd (nd (nd (nd (nd (nd (nd (by with_reducible assumption))))))))))))))))
  (k_with "subscriptTail" => (k_here; (with_reducible show wpAny _ _ (subscriptTail _ (Expr.Constant _ _ _) (Value.ref _) (Value.int _ _)) _ _ _); k_dflt (refine' item_newsL ?N_8 ?m_8 ?a_8 ?b_8 ?c_8 ?_; (case N_8 => k_asm); (case m_8 => k_mem); (case a_8 => decide); (case b_8 => decide); (case c_8 => rfl); k_whole)))
  (k_with "subscriptTail Name" => (k_here; (with_reducible show wpAny _ _ (subscriptTail _ (Expr.Constant _ _ _) (Value.ref _) (Value.int _ _)) _ _ _); k_dflt (refine' item_newsL ?N_8 ?m_8 ?a_8 ?b_8 ?c_8 ?_; (case N_8 => k_asm); (case m_8 => k_mem); (case a_8 => decide); (case b_8 => decide); (case c_8 => rfl); k_whole)))
  (k_with "ne" => (first | with_reducible assumption | (with_reducible refine Ne.symm ?_; with_reducible assumption)))
  (k_with "units" => (first | exact fit2 (by assumption) (by decide) | exact fit1 (by assumption) (by decide) | exact fit3 (by assumption) (by decide) | exact fit0 (by assumption)))
  (k_with "room" => (first | exact fit2 (by assumption) (by decide) | exact fit1 (by assumption) (by decide) | exact fit3 (by assumption) (by decide) | exact fit0 (by assumption)))
  (k_with "getAttr ref" => (k_here; (with_reducible show wpAny _ _ (getAttr (Value.ref _) (PySem.Str.ofString "x") _) _ _ _); k_dflt (refine' c_pt_x ?k1_12 ?k2_12 ?k3_12 ?k4_12 ?k5_12 ?k6_12 ?k7_12 ?k8_12 ?k9_12 ?_; (case k1_12 => k_asm); (case k2_12 => k_asm); (case k3_12 => k_asm); (case k4_12 => k_asm); (case k5_12 => k_asm); (case k6_12 => first | exact rfl | assumption); (case k9_12 => k_mem); (case k7_12 => ktr_room); (case k8_12 => ktr_units); k_whole; intro _ _ _ _ _; (try k_sweep))))
  (k_with "getAttr ref" => (k_here; (with_reducible show wpAny _ _ (getAttr (Value.ref _) (PySem.Str.ofString "y") _) _ _ _); k_dflt (refine' c_pt_y ?k1_13 ?k2_13 ?k3_13 ?k4_13 ?k5_13 ?k6_13 ?k7_13 ?k8_13 ?k9_13 ?_; (case k1_13 => k_asm); (case k2_13 => k_asm); (case k3_13 => k_asm); (case k4_13 => k_asm); (case k5_13 => k_asm); (case k6_13 => first | exact rfl | assumption); (case k9_13 => k_mem); (case k7_13 => ktr_room); (case k8_13 => ktr_units); k_whole; intro _ _ _ _ _; (try k_sweep))))
  (k_with "compareOp Lt ref" => (k_here; k_dflt (refine' c_pt_ltC ?k1_14 ?k2_14 ?k3_14 ?k4_14 ?k5_14 ?k6_14 ?_; (case k1_14 => k_asm); (case k2_14 => k_asm); (case k3_14 => k_asm); (case k5_14 => k_mem); (case k6_14 => k_mem); (case k4_14 => ktr_units); k_whole)))
  (k_with "compareOp Lt ref" => (k_here; k_dflt (refine' c_q_lt ?k1_15 ?k2_15 ?k3_15 ?k4_15 ?k5_15 ?k6_15 ?k7_15 ?k8_15 ?p1_15 ?p2_15 ?p3_15 ?p4_15 ?b1_15 ?b2_15 ?b3_15 ?b4_15 ?b5_15 ?b6_15 ?b7_15 ?b8_15 ?i1_15 ?i2_15 ?i3_15 ?i4_15 ?i5_15 ?i6_15 ?q1_15 ?q2_15 ?q3_15 ?q4_15 ?_; (case k1_15 => k_asm); (case k2_15 => k_asm); (case k3_15 => k_asm); (case k4_15 => k_asm); (case k5_15 => k_asm); (case k6_15 => first | exact rfl | assumption); (case p1_15 => k_mem); (case p2_15 => k_mem); (case p3_15 => k_mem); (case p4_15 => k_mem); (case i1_15 => assumption); (case i2_15 => assumption); (case i3_15 => assumption); (case i4_15 => assumption); (case i5_15 => assumption); (case i6_15 => assumption); (case q1_15 => k_mem); (case q2_15 => k_mem); (case q3_15 => k_mem); (case q4_15 => k_mem); (case k7_15 => ktr_room); (case k8_15 => ktr_units); (case b1_15 => first | with_reducible assumption | omega); (case b2_15 => first | with_reducible assumption | omega); (case b3_15 => first | with_reducible assumption | omega); (case b4_15 => first | with_reducible assumption | omega); (case b5_15 => first | with_reducible assumption | omega); (case b6_15 => first | with_reducible assumption | omega); (case b7_15 => first | with_reducible assumption | omega); (case b8_15 => first | with_reducible assumption | omega); k_whole; intro _ _ _ _; (try k_sweep))))
  (k_with "call ref" => (k_here; (with_reducible show wpAny _ _ (call (Value.ref _) [Value.ref _, Value.ref _, Value.ref _]) _ _ _); k_dflt (refine' c_orient_m ?k1_16 ?k2_16 ?k3_16 ?k4_16 ?k5_16 ?k6_16 ?k7_16 ?k8_16 ?k9_16 ?p1_16 ?p2_16 ?p3_16 ?b1_16 ?b2_16 ?b3_16 ?b4_16 ?b5_16 ?b6_16 ?b7_16 ?b8_16 ?_; (case k1_16 => k_asm); (case k2_16 => k_asm); (case k3_16 => k_asm); (case k4_16 => k_asm); (case k5_16 => k_asm); (case k6_16 => first | exact rfl | assumption); (case k9_16 => k_mem); (case p1_16 => k_mem); (case p2_16 => k_mem); (case p3_16 => k_mem); (case k7_16 => ktr_room); (case k8_16 => ktr_units); (case b1_16 => first | with_reducible assumption | omega); (case b2_16 => first | with_reducible assumption | omega); (case b3_16 => first | with_reducible assumption | omega); (case b4_16 => first | with_reducible assumption | omega); (case b5_16 => first | with_reducible assumption | omega); (case b6_16 => first | with_reducible assumption | omega); (case b7_16 => first | with_reducible assumption | omega); (case b8_16 => first | with_reducible assumption | omega); k_whole; intro _ _ _ _; (try k_sweep))))
  (k_with "compareOp Is ref ref" => (k_here; k_dflt (refine' c_is_kind ?k1_17 ?k2_17 ?k3_17 ?_; (case k1_17 => k_in); (case k2_17 => first | exact ⟨_, rfl⟩ | exact ⟨0, rfl⟩ | exact ⟨1, rfl⟩ | exact ⟨-1, rfl⟩); (case k3_17 => first | exact ⟨_, rfl⟩ | exact ⟨0, rfl⟩ | exact ⟨1, rfl⟩ | exact ⟨-1, rfl⟩); k_whole)))
  (k_with "compareOp IsNot ref ref" => (k_here; k_dflt (refine' c_isnot_kind ?k1_18 ?k2_18 ?k3_18 ?_; (case k1_18 => k_in); (case k2_18 => first | exact ⟨_, rfl⟩ | exact ⟨0, rfl⟩ | exact ⟨1, rfl⟩ | exact ⟨-1, rfl⟩); (case k3_18 => first | exact ⟨_, rfl⟩ | exact ⟨0, rfl⟩ | exact ⟨1, rfl⟩ | exact ⟨-1, rfl⟩); k_whole)))
  (k_with "compareOp Lt ref" => (k_here; k_dflt (refine' c_s_lt ?k1_19 ?k2_19 ?k3_19 ?k4_19 ?k5_19 ?k6_19 ?k7_19 ?k8_19 ?p1_19 ?p2_19 ?p3_19 ?p4_19 ?b1_19 ?b2_19 ?b3_19 ?b4_19 ?b5_19 ?b6_19 ?b7_19 ?b8_19 ?i1_19 ?i2_19 ?i3_19 ?i4_19 ?i5_19 ?i6_19 ?q1_19 ?q2_19 ?q3_19 ?q4_19 ?g1_19 ?g2_19 ?g3_19 ?g4_19 ?g5_19 ?g6_19 ?g7_19 ?g8_19 ?g9_19 ?g10_19 ?g11_19 ?g12_19 ?_; (case k1_19 => k_asm); (case k2_19 => k_asm); (case k3_19 => k_asm); (case k4_19 => k_asm); (case k5_19 => k_asm); (case k6_19 => first | exact rfl | assumption); (case p1_19 => k_mem); (case p2_19 => k_mem); (case p3_19 => k_mem); (case p4_19 => k_mem); (case i1_19 => assumption); (case i2_19 => assumption); (case i3_19 => assumption); (case i4_19 => assumption); (case i5_19 => assumption); (case i6_19 => assumption); (case q1_19 => k_mem); (case q2_19 => k_mem); (case q3_19 => k_mem); (case q4_19 => k_mem); (case k7_19 => ktr_room); (case k8_19 => ktr_units); (case b1_19 => first | with_reducible assumption | omega); (case b2_19 => first | with_reducible assumption | omega); (case b3_19 => first | with_reducible assumption | omega); (case b4_19 => first | with_reducible assumption | omega); (case b5_19 => first | with_reducible assumption | omega); (case b6_19 => first | with_reducible assumption | omega); (case b7_19 => first | with_reducible assumption | omega); (case b8_19 => first | with_reducible assumption | omega); (case g1_19 => first | with_reducible assumption | omega); (case g2_19 => first | with_reducible assumption | omega); (case g3_19 => first | with_reducible assumption | omega); (case g4_19 => first | with_reducible assumption | omega); (case g5_19 => first | with_reducible assumption | omega); (case g6_19 => first | with_reducible assumption | omega); (case g7_19 => first | with_reducible assumption | omega); (case g8_19 => first | with_reducible assumption | omega); (case g9_19 => first | with_reducible assumption | omega); (case g10_19 => first | with_reducible assumption | omega); (case g11_19 => first | with_reducible assumption | omega); (case g12_19 => first | with_reducible assumption | omega); k_whole; intro _ _ _ _; (try k_sweep))))
  (k_with "call ref" => (k_here; (with_reducible show wpAny _ _ (call (Value.ref 305) [Value.ref _, Value.ref _]) _ _ _); k_dflt (refine' c_side ?k1_20 ?k2_20 ?k3_20 ?k4_20 ?k5_20 ?k6_20 ?k7_20 ?k8_20 ?p1_20 ?p2_20 ?p3_20 ?p4_20 ?_; (case k1_20 => k_asm); (case k2_20 => k_asm); (case k3_20 => k_asm); (case k4_20 => k_asm); (case k5_20 => k_asm); (case k6_20 => first | exact rfl | assumption); (case p1_20 => k_mem); (case p2_20 => k_mem); (case p3_20 => k_mem); (case p4_20 => k_mem); (case k7_20 => ktr_room); (case k8_20 => ktr_units); k_whole; intro _ _ _ _ _; (try k_sweep))))
  (k_with "call builtin:max" => (k_here; (with_reducible show wpAny _ _ (call (Value.builtin _) [Value.ref _, Value.ref _]) _ _ _); k_dflt (refine' max_tpC ?k0_21 ?k1_21 ?k2_21 ?k3_21 ?p1_21 ?p2_21 ?_; (case k0_21 => exact rfl); (case k1_21 => ktr_units); (case k2_21 => k_asm); (case k3_21 => k_asm); (case p1_21 => k_mem); (case p2_21 => k_mem); k_whole; intro _ _ _ _ _ _; (try k_sweep))))
  (k_with "call builtin:min" => (k_here; (with_reducible show wpAny _ _ (call (Value.builtin _) [Value.ref _, Value.ref _]) _ _ _); k_dflt (refine' min_tpC ?k0_22 ?k1_22 ?k2_22 ?k3_22 ?p1_22 ?p2_22 ?_; (case k0_22 => exact rfl); (case k1_22 => ktr_units); (case k2_22 => k_asm); (case k3_22 => k_asm); (case p1_22 => k_mem); (case p2_22 => k_mem); k_whole; intro _ _ _ _ _ _; (try k_sweep))))
  (k_with "pyIter ref" => (k_here; (with_reducible show wpAny _ _ (pyIter (Value.ref _)) (fun it s₂ => TurnsAt _ _ _ _ _ _ _ _ _ it s₂) _ _); (with_unfolding_all refine' iter_tupTurns ?k0_23 ?k1_23 ?k2_23 ?k3_23 ?k4_23 ?k5_23 ?_; (case k0_23 => rfl); (case k1_23 => k_asm); (case k2_23 => k_asm); (case k3_23 => k_mem); (case k4_23 => rfl); (case k5_23 => rfl); k_whole); intro _ _))
  (k_with "UnrEndW" => (refine' unr_end1 ?F_24 ?l_24 ?N_24 ?k_24 ?_; (case F_24 => k_asm); (case l_24 => assumption); (case N_24 => ktr_rel); (case k_24 => exact ⟨by k_mem, trivial⟩)))
  (k_with "call ref" => (k_here; (with_reducible show wpAny _ _ (call (Value.ref 312) [Value.ref _, Value.ref _]) _ _ _); k_dflt (refine' c_lower ?k1_25 ?k2_25 ?k3_25 ?k4_25 ?k5_25 ?k6_25 ?k7_25 ?k8_25 ?p1_25 ?p2_25 ?p3_25 ?p4_25 ?p5_25 ?p6_25 ?_; (case k1_25 => k_asm); (case k2_25 => k_asm); (case k3_25 => k_asm); (case k4_25 => k_asm); (case k5_25 => k_asm); (case k6_25 => first | exact rfl | assumption); (case p1_25 => k_mem); (case p2_25 => k_mem); (case p3_25 => k_mem); (case p4_25 => k_mem); (case p5_25 => k_mem); (case p6_25 => k_mem); (case k7_25 => ktr_room); (case k8_25 => ktr_units); k_whole; intro _ _ _ _ _; (try k_sweep))))
  (k_with "TupSrc" => (k_here; k_dflt (refine TupSrc.mk' (by rfl) (by k_asm) (by k_asm) (by k_mem) (Nat.le_of_ble_eq_true rfl) ?_; intro _; lct_lit)))
  (k_with "CompEnd" => (refine' comp_end ?F_29 ?N_29 ?off_29 ?hS_29 ?_; (case F_29 => k_asm); (case N_29 => ktr_rel); (case off_29 => first | assumption | (simp only [LCg.Off3, and_true]; assumption)); (case hS_29 => first | ((try dsimp only); k_mem) | exact Or.inr ⟨_, by k_mem, rfl, _, rfl⟩)))
  (k_with "compareOp Eq ref ref" => (k_here; (with_reducible show wpAny _ _ (compareOp CmpOp.Eq (Value.ref _) (Value.ref _)) _ _ _); k_dflt (refine' eq_seg ?k1_30 ?k2_30 ?p1_30 ?p2_30 ?p3_30 ?p4_30 ?p5_30 ?p6_30 ?_; (case k2_30 => k_asm); (case p1_30 => k_mem); (case p2_30 => k_mem); (case p3_30 => k_mem); (case p4_30 => k_mem); (case p5_30 => k_mem); (case p6_30 => k_mem); (case k1_30 => ktr_units); k_whole)))
  (k_with "compareOp Eq ref ref" => (k_here; (with_reducible show wpAny _ _ (compareOp CmpOp.Eq (Value.ref _) (Value.ref _)) _ _ _); k_dflt (refine' eq_len ?k1_31 ?k2_31 ?p1_31 ?p2_31 ?p3_31 ?_; (case k2_31 => k_asm); (case p1_31 => k_mem); (case p2_31 => k_mem); (case p3_31 => exact rfl); (case k1_31 => ktr_units); k_whole)))
  (k_with "compareOp NotEq ref ref" => (k_here; (with_reducible show wpAny _ _ (compareOp CmpOp.NotEq (Value.ref _) (Value.ref _)) _ _ _); k_dflt (refine' ne_bb ?k2_32 ?p1_32 ?p2_32 ?k1_32 ?_; (case k2_32 => k_asm); (case p1_32 => k_mem); (case p2_32 => k_mem); (case k1_32 => ktr_units); k_whole)))
  (k_with "compareOp NotIn ref ref" => (k_here; (with_reducible show wpAny _ _ (compareOp CmpOp.NotIn (Value.ref _) (Value.ref _)) _ _ _); k_dflt (refine' notin1 ?k1_33 ?k2_33 ?p1_33 ?p2_33 ?p3_33 ?_; (case k2_33 => k_asm); (case p1_33 => k_mem); (case p2_33 => k_mem); (case p3_33 => k_mem); (case k1_33 => ktr_units); k_whole)))
  (k_with "compareOp NotIn ref ref" => (k_here; (with_reducible show wpAny _ _ (compareOp CmpOp.NotIn (Value.ref _) (Value.ref _)) _ _ _); k_dflt (refine' notin2 ?k1_34 ?k2_34 ?p1_34 ?ne_34 ?p2_34 ?p3_34 ?p4_34 ?_; (case k2_34 => k_asm); (case p1_34 => k_mem); (case ne_34 => first | assumption | (refine Ne.symm ?_; assumption) | omega); (case p2_34 => k_mem); (case p3_34 => k_mem); (case p4_34 => k_mem); (case k1_34 => ktr_units); k_whole)))
  (k_with "compareOp Lt ref" => (k_here; (with_reducible show wpAny _ _ (compareOp CmpOp.Lt (Value.ref _) (Value.ref _)) _ _ _); k_dflt (refine' tp_ltC ?k1_35 ?k2_35 ?p1_35 ?p2_35 ?_; (case k2_35 => k_asm); (case p1_35 => k_mem); (case p2_35 => k_mem); (case k1_35 => ktr_units); k_whole)))
  (k_with "compareOp Eq ref ref" => (k_here; (with_reducible show wpAny _ _ (compareOp CmpOp.Eq (Value.ref _) (Value.ref _)) _ _ _); k_dflt (refine' eq_nil ?k1_36 ?k2_36 ?p1_36 ?p2_36 ?p3_36 ?p4_36 ?_; (case k2_36 => k_asm); (case p1_36 => k_mem); (case p2_36 => k_mem); (case p3_36 => exact rfl); (case p4_36 => exact rfl); (case k1_36 => ktr_units); k_whole)))
  (k_with "adr" => (first | with_reducible assumption | exact allLt_of (by with_reducible assumption) | exact (by with_reducible assumption : _ ∧ AllLt _ _).2 | exact (by with_reducible assumption : _ ∧ (_ ∧ AllLt _ _)).2.2 | exact (by with_reducible assumption : _ ∧ (_ ∧ (_ ∧ AllLt _ _))).2.2.2 | exact (by with_reducible assumption : _ ∧ (_ ∧ (_ ∧ (_ ∧ AllLt _ _)))).2.2.2.2 | exact (by with_reducible assumption : _ ∧ (_ ∧ (_ ∧ (_ ∧ (_ ∧ AllLt _ _))))).2.2.2.2.2 | exact (by with_reducible assumption : _ ∧ (_ ∧ (_ ∧ (_ ∧ (_ ∧ (_ ∧ AllLt _ _)))))).2.2.2.2.2.2 | exact (by with_reducible assumption : _ ∧ (_ ∧ (_ ∧ (_ ∧ (_ ∧ (_ ∧ (_ ∧ AllLt _ _))))))).2.2.2.2.2.2.2 | exact (by with_reducible assumption : _ ∧ (_ ∧ (_ ∧ (_ ∧ (_ ∧ (_ ∧ (_ ∧ (_ ∧ AllLt _ _)))))))).2.2.2.2.2.2.2.2 | exact (by with_reducible assumption : _ ∧ (_ ∧ (_ ∧ (_ ∧ (_ ∧ (_ ∧ (_ ∧ (_ ∧ (_ ∧ AllLt _ _))))))))).2.2.2.2.2.2.2.2.2 | exact (by with_reducible assumption : _ ∧ (_ ∧ (_ ∧ (_ ∧ (_ ∧ (_ ∧ (_ ∧ (_ ∧ (_ ∧ (_ ∧ AllLt _ _)))))))))).2.2.2.2.2.2.2.2.2.2 | exact (by with_reducible assumption : _ ∧ (_ ∧ (_ ∧ (_ ∧ (_ ∧ (_ ∧ (_ ∧ (_ ∧ (_ ∧ (_ ∧ (_ ∧ AllLt _ _))))))))))).2.2.2.2.2.2.2.2.2.2.2 | exact (by with_reducible assumption : _ ∧ (_ ∧ (_ ∧ (_ ∧ (_ ∧ (_ ∧ (_ ∧ (_ ∧ (_ ∧ (_ ∧ (_ ∧ (_ ∧ AllLt _ _)))))))))))).2.2.2.2.2.2.2.2.2.2.2.2 | exact (by with_reducible assumption : _ ∧ (_ ∧ (_ ∧ (_ ∧ (_ ∧ (_ ∧ (_ ∧ (_ ∧ (_ ∧ (_ ∧ (_ ∧ (_ ∧ (_ ∧ AllLt _ _))))))))))))).2.2.2.2.2.2.2.2.2.2.2.2.2 | exact (by with_reducible assumption : _ ∧ (_ ∧ (_ ∧ (_ ∧ (_ ∧ (_ ∧ (_ ∧ (_ ∧ (_ ∧ (_ ∧ (_ ∧ (_ ∧ (_ ∧ (_ ∧ AllLt _ _)))))))))))))).2.2.2.2.2.2.2.2.2.2.2.2.2.2 | exact (by with_reducible assumption : _ ∧ (_ ∧ (_ ∧ (_ ∧ (_ ∧ (_ ∧ (_ ∧ (_ ∧ (_ ∧ (_ ∧ (_ ∧ (_ ∧ (_ ∧ (_ ∧ (_ ∧ AllLt _ _))))))))))))))).2.2.2.2.2.2.2.2.2.2.2.2.2.2.2 | exact (by with_reducible assumption : _ ∧ (_ ∧ (_ ∧ (_ ∧ (_ ∧ (_ ∧ (_ ∧ (_ ∧ (_ ∧ (_ ∧ (_ ∧ (_ ∧ (_ ∧ (_ ∧ (_ ∧ (_ ∧ AllLt _ _)))))))))))))))).2.2.2.2.2.2.2.2.2.2.2.2.2.2.2.2 | exact (by with_reducible assumption : _ ∧ (_ ∧ (_ ∧ (_ ∧ (_ ∧ (_ ∧ (_ ∧ (_ ∧ (_ ∧ (_ ∧ (_ ∧ (_ ∧ (_ ∧ (_ ∧ (_ ∧ (_ ∧ (_ ∧ AllLt _ _))))))))))))))))).2.2.2.2.2.2.2.2.2.2.2.2.2.2.2.2.2 | exact (by with_reducible assumption : _ ∧ (_ ∧ (_ ∧ (_ ∧ (_ ∧ (_ ∧ (_ ∧ (_ ∧ (_ ∧ (_ ∧ (_ ∧ (_ ∧ (_ ∧ (_ ∧ (_ ∧ (_ ∧ (_ ∧ AllLt _ _))))))))))))))))).2.2.2.2.2.2.2.2.2.2.2.2.2.2.2.2.2 | exact (by with_reducible assumption : _ ∧ (_ ∧ (_ ∧ (_ ∧ (_ ∧ (_ ∧ (_ ∧ (_ ∧ (_ ∧ (_ ∧ (_ ∧ (_ ∧ (_ ∧ (_ ∧ (_ ∧ (_ ∧ (_ ∧ (_ ∧ AllLt _ _)))))))))))))))))).2.2.2.2.2.2.2.2.2.2.2.2.2.2.2.2.2.2 | exact (by with_reducible assumption : _ ∧ (_ ∧ (_ ∧ (_ ∧ (_ ∧ (_ ∧ (_ ∧ (_ ∧ (_ ∧ (_ ∧ (_ ∧ (_ ∧ (_ ∧ (_ ∧ (_ ∧ (_ ∧ (_ ∧ (_ ∧ (_ ∧ AllLt _ _))))))))))))))))))).2.2.2.2.2.2.2.2.2.2.2.2.2.2.2.2.2.2.2 | exact (by with_reducible assumption : _ ∧ (_ ∧ (_ ∧ (_ ∧ (_ ∧ (_ ∧ (_ ∧ (_ ∧ (_ ∧ (_ ∧ (_ ∧ (_ ∧ (_ ∧ (_ ∧ (_ ∧ (_ ∧ (_ ∧ (_ ∧ (_ ∧ (_ ∧ AllLt _ _)))))))))))))))))))).2.2.2.2.2.2.2.2.2.2.2.2.2.2.2.2.2.2.2.2 | exact (by with_reducible assumption : _ ∧ (_ ∧ (_ ∧ (_ ∧ (_ ∧ (_ ∧ (_ ∧ (_ ∧ (_ ∧ (_ ∧ (_ ∧ (_ ∧ (_ ∧ (_ ∧ (_ ∧ (_ ∧ (_ ∧ (_ ∧ (_ ∧ (_ ∧ (_ ∧ AllLt _ _))))))))))))))))))))).2.2.2.2.2.2.2.2.2.2.2.2.2.2.2.2.2.2.2.2.2 | exact (by with_reducible assumption : _ ∧ (_ ∧ (_ ∧ (_ ∧ (_ ∧ (_ ∧ (_ ∧ (_ ∧ (_ ∧ (_ ∧ (_ ∧ (_ ∧ (_ ∧ (_ ∧ (_ ∧ (_ ∧ (_ ∧ (_ ∧ (_ ∧ (_ ∧ (_ ∧ (_ ∧ AllLt _ _)))))))))))))))))))))).2.2.2.2.2.2.2.2.2.2.2.2.2.2.2.2.2.2.2.2.2.2 | exact (by with_reducible assumption : _ ∧ (_ ∧ (_ ∧ (_ ∧ (_ ∧ (_ ∧ (_ ∧ (_ ∧ (_ ∧ (_ ∧ (_ ∧ (_ ∧ (_ ∧ (_ ∧ (_ ∧ (_ ∧ (_ ∧ (_ ∧ (_ ∧ (_ ∧ (_ ∧ (_ ∧ (_ ∧ AllLt _ _))))))))))))))))))))))).2.2.2.2.2.2.2.2.2.2.2.2.2.2.2.2.2.2.2.2.2.2.2 | exact (by with_reducible assumption : _ ∧ (_ ∧ (_ ∧ (_ ∧ (_ ∧ (_ ∧ (_ ∧ (_ ∧ (_ ∧ (_ ∧ (_ ∧ (_ ∧ (_ ∧ (_ ∧ (_ ∧ (_ ∧ (_ ∧ (_ ∧ (_ ∧ (_ ∧ (_ ∧ (_ ∧ (_ ∧ (_ ∧ AllLt _ _)))))))))))))))))))))))).2.2.2.2.2.2.2.2.2.2.2.2.2.2.2.2.2.2.2.2.2.2.2.2 | exact (by with_reducible assumption : _ ∧ (_ ∧ (_ ∧ (_ ∧ (_ ∧ (_ ∧ (_ ∧ (_ ∧ (_ ∧ (_ ∧ (_ ∧ (_ ∧ (_ ∧ (_ ∧ (_ ∧ (_ ∧ (_ ∧ (_ ∧ (_ ∧ (_ ∧ (_ ∧ (_ ∧ (_ ∧ (_ ∧ (_ ∧ AllLt _ _))))))))))))))))))))))))).2.2.2.2.2.2.2.2.2.2.2.2.2.2.2.2.2.2.2.2.2.2.2.2.2 | exact (by with_reducible assumption : _ ∧ (_ ∧ (_ ∧ (_ ∧ (_ ∧ (_ ∧ (_ ∧ (_ ∧ (_ ∧ (_ ∧ (_ ∧ (_ ∧ (_ ∧ (_ ∧ (_ ∧ (_ ∧ (_ ∧ (_ ∧ (_ ∧ (_ ∧ (_ ∧ (_ ∧ (_ ∧ (_ ∧ (_ ∧ (_ ∧ AllLt _ _)))))))))))))))))))))))))).2.2.2.2.2.2.2.2.2.2.2.2.2.2.2.2.2.2.2.2.2.2.2.2.2.2 | exact (by with_reducible assumption : _ ∧ (_ ∧ (_ ∧ (_ ∧ (_ ∧ (_ ∧ (_ ∧ (_ ∧ (_ ∧ (_ ∧ (_ ∧ (_ ∧ (_ ∧ (_ ∧ (_ ∧ (_ ∧ (_ ∧ (_ ∧ (_ ∧ (_ ∧ (_ ∧ (_ ∧ (_ ∧ (_ ∧ (_ ∧ (_ ∧ (_ ∧ AllLt _ _))))))))))))))))))))))))))).2.2.2.2.2.2.2.2.2.2.2.2.2.2.2.2.2.2.2.2.2.2.2.2.2.2.2 | exact (by with_reducible assumption : _ ∧ (_ ∧ (_ ∧ (_ ∧ (_ ∧ (_ ∧ (_ ∧ (_ ∧ (_ ∧ (_ ∧ (_ ∧ (_ ∧ (_ ∧ (_ ∧ (_ ∧ (_ ∧ (_ ∧ (_ ∧ (_ ∧ (_ ∧ (_ ∧ (_ ∧ (_ ∧ (_ ∧ (_ ∧ (_ ∧ (_ ∧ (_ ∧ AllLt _ _)))))))))))))))))))))))))))).2.2.2.2.2.2.2.2.2.2.2.2.2.2.2.2.2.2.2.2.2.2.2.2.2.2.2.2 | exact (by with_reducible assumption : _ ∧ (_ ∧ (_ ∧ (_ ∧ (_ ∧ (_ ∧ (_ ∧ (_ ∧ (_ ∧ (_ ∧ (_ ∧ (_ ∧ (_ ∧ (_ ∧ (_ ∧ (_ ∧ (_ ∧ (_ ∧ (_ ∧ (_ ∧ (_ ∧ (_ ∧ (_ ∧ (_ ∧ (_ ∧ (_ ∧ (_ ∧ (_ ∧ (_ ∧ AllLt _ _))))))))))))))))))))))))))))).2.2.2.2.2.2.2.2.2.2.2.2.2.2.2.2.2.2.2.2.2.2.2.2.2.2.2.2.2 | exact (by with_reducible assumption : _ ∧ (_ ∧ (_ ∧ (_ ∧ (_ ∧ (_ ∧ (_ ∧ (_ ∧ (_ ∧ (_ ∧ (_ ∧ (_ ∧ (_ ∧ (_ ∧ (_ ∧ (_ ∧ (_ ∧ (_ ∧ (_ ∧ (_ ∧ (_ ∧ (_ ∧ (_ ∧ (_ ∧ (_ ∧ (_ ∧ (_ ∧ (_ ∧ (_ ∧ (_ ∧ AllLt _ _)))))))))))))))))))))))))))))).2.2.2.2.2.2.2.2.2.2.2.2.2.2.2.2.2.2.2.2.2.2.2.2.2.2.2.2.2.2 | exact (by with_reducible assumption : _ ∧ (_ ∧ (_ ∧ (_ ∧ (_ ∧ (_ ∧ (_ ∧ (_ ∧ (_ ∧ (_ ∧ (_ ∧ (_ ∧ (_ ∧ (_ ∧ (_ ∧ (_ ∧ (_ ∧ (_ ∧ (_ ∧ (_ ∧ (_ ∧ (_ ∧ (_ ∧ (_ ∧ (_ ∧ (_ ∧ (_ ∧ (_ ∧ (_ ∧ (_ ∧ (_ ∧ AllLt _ _))))))))))))))))))))))))))))))).2.2.2.2.2.2.2.2.2.2.2.2.2.2.2.2.2.2.2.2.2.2.2.2.2.2.2.2.2.2.2 | exact (by with_reducible assumption : _ ∧ (_ ∧ (_ ∧ (_ ∧ (_ ∧ (_ ∧ (_ ∧ (_ ∧ (_ ∧ (_ ∧ (_ ∧ (_ ∧ (_ ∧ (_ ∧ (_ ∧ (_ ∧ (_ ∧ (_ ∧ (_ ∧ (_ ∧ (_ ∧ (_ ∧ (_ ∧ (_ ∧ (_ ∧ (_ ∧ (_ ∧ (_ ∧ (_ ∧ (_ ∧ (_ ∧ (_ ∧ AllLt _ _)))))))))))))))))))))))))))))))).2.2.2.2.2.2.2.2.2.2.2.2.2.2.2.2.2.2.2.2.2.2.2.2.2.2.2.2.2.2.2.2))
  (k_with "all" => (first | with_reducible assumption | with_reducible exact fun p hp => Nat.ne_of_lt (ktn_ltOf (by kd_adr) p hp) | with_reducible exact fun p hp => Ne.symm (Nat.ne_of_lt (ktn_ltOf (by kd_adr) p hp))))
  (k_with "call ref" => (k_here; (with_reducible show wpAny _ _ (call (Value.ref 298) [Value.int _ _]) _ _ _); k_dflt (refine' c_drawn ?k1_45 ?k2_45 ?k3_45 ?k4_45 ?k5_45 ?k6_45 ?k7_45 ?k8_45 ?_; (case k1_45 => k_asm); (case k2_45 => k_asm); (case k3_45 => k_asm); (case k4_45 => k_asm); (case k5_45 => k_asm); (case k6_45 => first | exact rfl | assumption); (case k7_45 => ktr_room); (case k8_45 => ktr_units); k_whole; intro _ _ _ _ _ _ _ _ _ _ _ _ _ _ _ zl1 zl2 zl3 _ _; (try k_lt zl1); (try k_lt zl2); (try k_lt zl3); (try k_sweep)); (try (revert zl1; intro _)); (try (revert zl2; intro _)); (try (revert zl3; intro _))))
  (k_with "call builtin:tuple.__new__" => (k_here; k_dflt (refine' tup_new_sub ?k1_46 ?k2_46 ?k3_46 ?k4_46 ?k5_46 ?k6_46 ?k7_46 ?_; (case k1_46 => k_asm); (case k2_46 => exact (by rfl)); (case k3_46 => k_is); (case k4_46 => k_asm); (case k5_46 => k_asm); (case k6_46 => exact isTup (by k_asm) (by k_mem)); (case k7_46 => exact Nat.le_of_ble_eq_true rfl); k_whole; intro _ _ _ _ _ zl1 _; (try k_lt zl1); (try k_sweep)); (try (revert zl1; intro _))))
  refine cutI (P := C_mkpt hx.heap_1_39) ?_ (fun c_mkpt => ?_)
  · as_aux_lemma =>
      unfold C_mkpt
      intro w p loose mean mg mb news dp un gd cn cs a ccd cl outer A₀ base h₀ L m s Q E x y tx ty B F X N T hk hdp hun ret
      refine make_new (K := hx.heap_1_39 w.params) (q := 175) (fN := 124) (nrest := []) X ?a1_mkpt ?a2_mkpt ?a3_mkpt ?a4_mkpt ?a5_mkpt ?a6_mkpt ?a7_mkpt ?a8_mkpt F N ?_
      case a1_mkpt => rfl
      case a2_mkpt => k_is
      case a3_mkpt => k_is
      case a4_mkpt => k_is
      case a5_mkpt => k_is
      case a6_mkpt => k_is
      case a7_mkpt => k_is
      case a8_mkpt => k_is
      refine wpAny_call ?_
      k_dflt cell_enter
      k_steps
      all_goals refine ⟨_, _, rfl, ((by assumption : News h₀ L _ _) _ List.mem_cons_self).1, rfl, (by assumption : Fr h₀ L _ m).keep, ret _ _ _ _ ?lt_mkpt ?l2_mkpt (by assumption) (News.pick (by assumption) (by k_mem) (News.pick (by assumption) (by k_mem) (by ktr_rel)))⟩
      case lt_mkpt => exact ktn_ltOf (by kd_adr)
      case l2_mkpt => assumption
  k_with_none
  (k_with "sweep" => (dsimp only; k_sweep))
  (k_with "execs cons" => k_fold)
  (k_with "getMethod ref" => (k_here; k_dflt (refine' kmu_own ?g1 ?g2 ?g3 ?g4 ?g5 ?_; (case g1 => k_asm); (case g2 => k_asm); (case g3 => k_inst); (case g4 => k_is); (case g5 => k_is); k_whole)))
  (k_with "enter" => (refine' code_def ?k1_1 ?k2_1 ?k3_1 ?k4_1 ?k5_1 ?kA_1 ?kF_1 ?kK_1 ?k6_1 ?k7_1 ?k8_1 ?k9_1 ?kB_1 ?_ ?c2_1 ?c3_1 ?c4_1 ?c5_1; (case kA_1 => exact rfl); (case kF_1 => exact rfl); (case kK_1 => assumption); (case k1_1 => k_asm); (case k2_1 => k_asm); (case k3_1 => k_asm); (case k4_1 => k_asm); (case k5_1 => k_asm); (case k6_1 => k_is); (case k7_1 => k_is); (case k8_1 => ktr_room); (case k9_1 => first | exact BindsTo.of_eq rfl | exact binds_K (by k_in) rfl (by k_is) rfl rfl rfl); (case c5_1 => decide); (case kB_1 => exact locs rfl); (case c2_1 => exact rfl); (case c3_1 => exact rfl); (case c4_1 => exact rfl); k_whole; intro _ _ _ _ _ _ zB _ _; (try dsimp only); (try k_lift zB); (try k_fold); (try (revert zB; intro _))))
  (k_with "inst" => (refine' pt_inst ?N_2 ?h1_2 ?h2_2; (case N_2 => k_asm); (case h1_2 => k_mem); (case h2_2 => k_mem)))
  (k_with "getMethod type:tuple" => (k_here; refine' method_type ?F_3 ?X_3 ?m_3 (by decide +kernel) ?e_3 ?h_3 ?_; (case F_3 => k_asm); (case X_3 => k_asm); (case m_3 => exact type_tuple_meta); (case e_3 => k_dflt k_is); (case h_3 => k_handed)))
  (k_with "call builtin:tuple.__getitem__" => (k_here; k_dflt (refine' sub_item ?k1_4 ?k2_4 ?k3_4 ?k4_4 ?k5_4 ?k6_4 ?k7_4 ?k8_4 ?_; (case k1_4 => k_in); (case k2_4 => k_inst); (case k3_4 => exact rfl); (case k4_4 => k_is); (case k5_4 => decide); (case k6_4 => decide); (case k7_4 => exact rfl); (case k8_4 => exact rfl); k_whole)))
  (k_with "call builtin:issubclass" => (k_here; k_dflt (refine' issub_call ?k1_5 ?k2_5 ?k3_5 ?k4_5 ?_; (case k1_5 => k_in); (case k2_5 => exact type_tuple_meta); (case k3_5 => k_is); (case k4_5 => k_is); k_whole)))
  (k_with "subscriptTail" => (k_here; (with_reducible show wpAny _ _ (subscriptTail _ _ (Value.ref _) (Value.int _ _)) _ _ _); k_dflt (refine' item_news ?N_6 ?m_6 ?a_6 ?b_6 ?c_6 ?_; (case N_6 => k_asm); (case m_6 => k_mem); (case a_6 => first | with_reducible assumption | omega); (case b_6 => first | with_reducible assumption | omega); (case c_6 => assumption); k_whole)))
  (k_with "subscriptTail Name" => (k_here; (with_reducible show wpAny _ _ (subscriptTail _ _ (Value.ref _) (Value.int _ _)) _ _ _); k_dflt (refine' item_news ?N_6 ?m_6 ?a_6 ?b_6 ?c_6 ?_; (case N_6 => k_asm); (case m_6 => k_mem); (case a_6 => first | with_reducible assumption | omega); (case b_6 => first | with_reducible assumption | omega); (case c_6 => assumption); k_whole)))
  (k_with "mem" => (first | with_reducible assumption | with_reducible exact List.mem_cons_self | (with_reducible refine' List.mem_cons_of_mem _ ?zm8; (case zm8 => k_mem)) | (with_reducible refine' IsPt.cons ?zm9; (case zm9 => k_mem)) | (with_reducible refine' IsTp.cons ?zm9; (case zm9 => k_mem)) | (with_reducible refine' IsSeg.cons ?zm9; (case zm9 => k_mem)) | (with_reducible refine' IsSK.cons ?zm9; (case zm9 => k_mem)) | (with_reducible refine' IsQK.cons ?zm9; (case zm9 => k_mem)) | (with_reducible refine' IsPlN.cons ?zm9; (case zm9 => k_mem))))
  (k_with "rel" => (first | with_reducible assumption | exact nd (by with_reducible assumption) | exact nd (nd (by with_reducible assumption)) | exact nd (nd (nd (by with_reducible assumption))) | exact nd (nd (nd (nd (by with_reducible assumption)))) | exact nd (nd (nd (nd (nd (by with_reducible assumption))))) | exact nd (nd (nd (nd (nd (nd (by with_reducible assumption)))))) | exact nd (nd (nd (nd (nd (nd (nd (by with_reducible assumption))))))) | exact nd (nd (nd (nd (nd (nd (nd (nd (by with_reducible assumption)))))))) | exact nd (nd (nd (nd (nd (nd (nd (nd (nd (by with_reducible assumption))))))))) | exact nd (nd (nd (nd (nd (nd (nd (nd (nd (nd (by with_reducible assumption)))))))))) | exact nd (nd (nd (nd (nd (nd (nd (nd (nd (nd (nd (by with_reducible assumption))))))))))) | exact nd (nd (nd (nd (nd (nd (nd (nd (nd (nd (nd (nd (by with_reducible assumption)))))))))))) | exact nd (nd (nd (nd (nd (nd (nd (nd (nd (nd (nd (nd (nd (by with_reducible assumption))))))))))))) | exact nd (nd (nd (nd (nd (nd (nd (nd (nd (nd (nd (nd (nd (nd (by with_reducible assumption))))))))))))))))
  (k_with "subscriptTail" => (k_here; (with_reducible show wpAny _ _ (subscriptTail _ (Expr.Constant _ _ _) (Value.ref _) (Value.int _ _)) _ _ _); k_dflt (refine' item_newsL ?N_8 ?m_8 ?a_8 ?b_8 ?c_8 ?_; (case N_8 => k_asm); (case m_8 => k_mem); (case a_8 => decide); (case b_8 => decide); (case c_8 => rfl); k_whole)))
  (k_with "subscriptTail Name" => (k_here; (with_reducible show wpAny _ _ (subscriptTail _ (Expr.Constant _ _ _) (Value.ref _) (Value.int _ _)) _ _ _); k_dflt (refine' item_newsL ?N_8 ?m_8 ?a_8 ?b_8 ?c_8 ?_; (case N_8 => k_asm); (case m_8 => k_mem); (case a_8 => decide); (case b_8 => decide); (case c_8 => rfl); k_whole)))
  (k_with "ne" => (first | with_reducible assumption | (with_reducible refine Ne.symm ?_; with_reducible assumption)))
  (k_with "units" => (first | exact fit2 (by assumption) (by decide) | exact fit1 (by assumption) (by decide) | exact fit3 (by assumption) (by decide) | exact fit0 (by assumption)))
  (k_with "room" => (first | exact fit2 (by assumption) (by decide) | exact fit1 (by assumption) (by decide) | exact fit3 (by assumption) (by decide) | exact fit0 (by assumption)))
  (k_with "getAttr ref" => (k_here; (with_reducible show wpAny _ _ (getAttr (Value.ref _) (PySem.Str.ofString "x") _) _ _ _); k_dflt (refine' c_pt_x ?k1_12 ?k2_12 ?k3_12 ?k4_12 ?k5_12 ?k6_12 ?k7_12 ?k8_12 ?k9_12 ?_; (case k1_12 => k_asm); (case k2_12 => k_asm); (case k3_12 => k_asm); (case k4_12 => k_asm); (case k5_12 => k_asm); (case k6_12 => first | exact rfl | assumption); (case k9_12 => k_mem); (case k7_12 => ktr_room); (case k8_12 => ktr_units); k_whole; intro _ _ _ _ _; (try k_sweep))))
  (k_with "getAttr ref" => (k_here; (with_reducible show wpAny _ _ (getAttr (Value.ref _) (PySem.Str.ofString "y") _) _ _ _); k_dflt (refine' c_pt_y ?k1_13 ?k2_13 ?k3_13 ?k4_13 ?k5_13 ?k6_13 ?k7_13 ?k8_13 ?k9_13 ?_; (case k1_13 => k_asm); (case k2_13 => k_asm); (case k3_13 => k_asm); (case k4_13 => k_asm); (case k5_13 => k_asm); (case k6_13 => first | exact rfl | assumption); (case k9_13 => k_mem); (case k7_13 => ktr_room); (case k8_13 => ktr_units); k_whole; intro _ _ _ _ _; (try k_sweep))))
  (k_with "compareOp Lt ref" => (k_here; k_dflt (refine' c_pt_ltC ?k1_14 ?k2_14 ?k3_14 ?k4_14 ?k5_14 ?k6_14 ?_; (case k1_14 => k_asm); (case k2_14 => k_asm); (case k3_14 => k_asm); (case k5_14 => k_mem); (case k6_14 => k_mem); (case k4_14 => ktr_units); k_whole)))
  (k_with "compareOp Lt ref" => (k_here; k_dflt (refine' c_q_lt ?k1_15 ?k2_15 ?k3_15 ?k4_15 ?k5_15 ?k6_15 ?k7_15 ?k8_15 ?p1_15 ?p2_15 ?p3_15 ?p4_15 ?b1_15 ?b2_15 ?b3_15 ?b4_15 ?b5_15 ?b6_15 ?b7_15 ?b8_15 ?i1_15 ?i2_15 ?i3_15 ?i4_15 ?i5_15 ?i6_15 ?q1_15 ?q2_15 ?q3_15 ?q4_15 ?_; (case k1_15 => k_asm); (case k2_15 => k_asm); (case k3_15 => k_asm); (case k4_15 => k_asm); (case k5_15 => k_asm); (case k6_15 => first | exact rfl | assumption); (case p1_15 => k_mem); (case p2_15 => k_mem); (case p3_15 => k_mem); (case p4_15 => k_mem); (case i1_15 => assumption); (case i2_15 => assumption); (case i3_15 => assumption); (case i4_15 => assumption); (case i5_15 => assumption); (case i6_15 => assumption); (case q1_15 => k_mem); (case q2_15 => k_mem); (case q3_15 => k_mem); (case q4_15 => k_mem); (case k7_15 => ktr_room); (case k8_15 => ktr_units); (case b1_15 => first | with_reducible assumption | omega); (case b2_15 => first | with_reducible assumption | omega); (case b3_15 => first | with_reducible assumption | omega); (case b4_15 => first | with_reducible assumption | omega); (case b5_15 => first | with_reducible assumption | omega); (case b6_15 => first | with_reducible assumption | omega); (case b7_15 => first | with_reducible assumption | omega); (case b8_15 => first | with_reducible assumption | omega); k_whole; intro _ _ _ _; (try k_sweep))))
  (k_with "call ref" => (k_here; (with_reducible show wpAny _ _ (call (Value.ref _) [Value.ref _, Value.ref _, Value.ref _]) _ _ _); k_dflt (refine' c_orient_m ?k1_16 ?k2_16 ?k3_16 ?k4_16 ?k5_16 ?k6_16 ?k7_16 ?k8_16 ?k9_16 ?p1_16 ?p2_16 ?p3_16 ?b1_16 ?b2_16 ?b3_16 ?b4_16 ?b5_16 ?b6_16 ?b7_16 ?b8_16 ?_; (case k1_16 => k_asm); (case k2_16 => k_asm); (case k3_16 => k_asm); (case k4_16 => k_asm); (case k5_16 => k_asm); (case k6_16 => first | exact rfl | assumption); (case k9_16 => k_mem); (case p1_16 => k_mem); (case p2_16 => k_mem); (case p3_16 => k_mem); (case k7_16 => ktr_room); (case k8_16 => ktr_units); (case b1_16 => first | with_reducible assumption | omega); (case b2_16 => first | with_reducible assumption | omega); (case b3_16 => first | with_reducible assumption | omega); (case b4_16 => first | with_reducible assumption | omega); (case b5_16 => first | with_reducible assumption | omega); (case b6_16 => first | with_reducible assumption | omega); (case b7_16 => first | with_reducible assumption | omega); (case b8_16 => first | with_reducible assumption | omega); k_whole; intro _ _ _ _; (try k_sweep))))
  (k_with "compareOp Is ref ref" => (k_here; k_dflt (refine' c_is_kind ?k1_17 ?k2_17 ?k3_17 ?_; (case k1_17 => k_in); (case k2_17 => first | exact ⟨_, rfl⟩ | exact ⟨0, rfl⟩ | exact ⟨1, rfl⟩ | exact ⟨-1, rfl⟩); (case k3_17 => first | exact ⟨_, rfl⟩ | exact ⟨0, rfl⟩ | exact ⟨1, rfl⟩ | exact ⟨-1, rfl⟩); k_whole)))
  (k_with "compareOp IsNot ref ref" => (k_here; k_dflt (refine' c_isnot_kind ?k1_18 ?k2_18 ?k3_18 ?_; (case k1_18 => k_in); (case k2_18 => first | exact ⟨_, rfl⟩ | exact ⟨0, rfl⟩ | exact ⟨1, rfl⟩ | exact ⟨-1, rfl⟩); (case k3_18 => first | exact ⟨_, rfl⟩ | exact ⟨0, rfl⟩ | exact ⟨1, rfl⟩ | exact ⟨-1, rfl⟩); k_whole)))
  (k_with "compareOp Lt ref" => (k_here; k_dflt (refine' c_s_lt ?k1_19 ?k2_19 ?k3_19 ?k4_19 ?k5_19 ?k6_19 ?k7_19 ?k8_19 ?p1_19 ?p2_19 ?p3_19 ?p4_19 ?b1_19 ?b2_19 ?b3_19 ?b4_19 ?b5_19 ?b6_19 ?b7_19 ?b8_19 ?i1_19 ?i2_19 ?i3_19 ?i4_19 ?i5_19 ?i6_19 ?q1_19 ?q2_19 ?q3_19 ?q4_19 ?g1_19 ?g2_19 ?g3_19 ?g4_19 ?g5_19 ?g6_19 ?g7_19 ?g8_19 ?g9_19 ?g10_19 ?g11_19 ?g12_19 ?_; (case k1_19 => k_asm); (case k2_19 => k_asm); (case k3_19 => k_asm); (case k4_19 => k_asm); (case k5_19 => k_asm); (case k6_19 => first | exact rfl | assumption); (case p1_19 => k_mem); (case p2_19 => k_mem); (case p3_19 => k_mem); (case p4_19 => k_mem); (case i1_19 => assumption); (case i2_19 => assumption); (case i3_19 => assumption); (case i4_19 => assumption); (case i5_19 => assumption); (case i6_19 => assumption); (case q1_19 => k_mem); (case q2_19 => k_mem); (case q3_19 => k_mem); (case q4_19 => k_mem); (case k7_19 => ktr_room); (case k8_19 => ktr_units); (case b1_19 => first | with_reducible assumption | omega); (case b2_19 => first | with_reducible assumption | omega); (case b3_19 => first | with_reducible assumption | omega); (case b4_19 => first | with_reducible assumption | omega); (case b5_19 => first | with_reducible assumption | omega); (case b6_19 => first | with_reducible assumption | omega); (case b7_19 => first | with_reducible assumption | omega); (case b8_19 => first | with_reducible assumption | omega); (case g1_19 => first | with_reducible assumption | omega); (case g2_19 => first | with_reducible assumption | omega); (case g3_19 => first | with_reducible assumption | omega); (case g4_19 => first | with_reducible assumption | omega); (case g5_19 => first | with_reducible assumption | omega); (case g6_19 => first | with_reducible assumption | omega); (case g7_19 => first | with_reducible assumption | omega); (case g8_19 => first | with_reducible assumption | omega); (case g9_19 => first | with_reducible assumption | omega); (case g10_19 => first | with_reducible assumption | omega); (case g11_19 => first | with_reducible assumption | omega); (case g12_19 => first | with_reducible assumption | omega); k_whole; intro _ _ _ _; (try k_sweep))))
  (k_with "call ref" => (k_here; (with_reducible show wpAny _ _ (call (Value.ref 305) [Value.ref _, Value.ref _]) _ _ _); k_dflt (refine' c_side ?k1_20 ?k2_20 ?k3_20 ?k4_20 ?k5_20 ?k6_20 ?k7_20 ?k8_20 ?p1_20 ?p2_20 ?p3_20 ?p4_20 ?_; (case k1_20 => k_asm); (case k2_20 => k_asm); (case k3_20 => k_asm); (case k4_20 => k_asm); (case k5_20 => k_asm); (case k6_20 => first | exact rfl | assumption); (case p1_20 => k_mem); (case p2_20 => k_mem); (case p3_20 => k_mem); (case p4_20 => k_mem); (case k7_20 => ktr_room); (case k8_20 => ktr_units); k_whole; intro _ _ _ _ _; (try k_sweep))))
  (k_with "call builtin:max" => (k_here; (with_reducible show wpAny _ _ (call (Value.builtin _) [Value.ref _, Value.ref _]) _ _ _); k_dflt (refine' max_tpC ?k0_21 ?k1_21 ?k2_21 ?k3_21 ?p1_21 ?p2_21 ?_; (case k0_21 => exact rfl); (case k1_21 => ktr_units); (case k2_21 => k_asm); (case k3_21 => k_asm); (case p1_21 => k_mem); (case p2_21 => k_mem); k_whole; intro _ _ _ _ _ _; (try k_sweep))))
  (k_with "call builtin:min" => (k_here; (with_reducible show wpAny _ _ (call (Value.builtin _) [Value.ref _, Value.ref _]) _ _ _); k_dflt (refine' min_tpC ?k0_22 ?k1_22 ?k2_22 ?k3_22 ?p1_22 ?p2_22 ?_; (case k0_22 => exact rfl); (case k1_22 => ktr_units); (case k2_22 => k_asm); (case k3_22 => k_asm); (case p1_22 => k_mem); (case p2_22 => k_mem); k_whole; intro _ _ _ _ _ _; (try k_sweep))))
  (k_with "pyIter ref" => (k_here; (with_reducible show wpAny _ _ (pyIter (Value.ref _)) (fun it s₂ => TurnsAt _ _ _ _ _ _ _ _ _ it s₂) _ _); (with_unfolding_all refine' iter_tupTurns ?k0_23 ?k1_23 ?k2_23 ?k3_23 ?k4_23 ?k5_23 ?_; (case k0_23 => rfl); (case k1_23 => k_asm); (case k2_23 => k_asm); (case k3_23 => k_mem); (case k4_23 => rfl); (case k5_23 => rfl); k_whole); intro _ _))
  (k_with "UnrEndW" => (refine' unr_end1 ?F_24 ?l_24 ?N_24 ?k_24 ?_; (case F_24 => k_asm); (case l_24 => assumption); (case N_24 => ktr_rel); (case k_24 => exact ⟨by k_mem, trivial⟩)))
  (k_with "call ref" => (k_here; (with_reducible show wpAny _ _ (call (Value.ref 312) [Value.ref _, Value.ref _]) _ _ _); k_dflt (refine' c_lower ?k1_25 ?k2_25 ?k3_25 ?k4_25 ?k5_25 ?k6_25 ?k7_25 ?k8_25 ?p1_25 ?p2_25 ?p3_25 ?p4_25 ?p5_25 ?p6_25 ?_; (case k1_25 => k_asm); (case k2_25 => k_asm); (case k3_25 => k_asm); (case k4_25 => k_asm); (case k5_25 => k_asm); (case k6_25 => first | exact rfl | assumption); (case p1_25 => k_mem); (case p2_25 => k_mem); (case p3_25 => k_mem); (case p4_25 => k_mem); (case p5_25 => k_mem); (case p6_25 => k_mem); (case k7_25 => ktr_room); (case k8_25 => ktr_units); k_whole; intro _ _ _ _ _; (try k_sweep))))
  (k_with "TupSrc" => (k_here; k_dflt (refine TupSrc.mk' (by rfl) (by k_asm) (by k_asm) (by k_mem) (Nat.le_of_ble_eq_true rfl) ?_; intro _; lct_lit)))
  (k_with "CompEnd" => (refine' comp_end ?F_29 ?N_29 ?off_29 ?hS_29 ?_; (case F_29 => k_asm); (case N_29 => ktr_rel); (case off_29 => first | assumption | (simp only [LCg.Off3, and_true]; assumption)); (case hS_29 => first | ((try dsimp only); k_mem) | exact Or.inr ⟨_, by k_mem, rfl, _, rfl⟩)))
  (k_with "compareOp Eq ref ref" => (k_here; (with_reducible show wpAny _ _ (compareOp CmpOp.Eq (Value.ref _) (Value.ref _)) _ _ _); k_dflt (refine' eq_seg ?k1_30 ?k2_30 ?p1_30 ?p2_30 ?p3_30 ?p4_30 ?p5_30 ?p6_30 ?_; (case k2_30 => k_asm); (case p1_30 => k_mem); (case p2_30 => k_mem); (case p3_30 => k_mem); (case p4_30 => k_mem); (case p5_30 => k_mem); (case p6_30 => k_mem); (case k1_30 => ktr_units); k_whole)))
  (k_with "compareOp Eq ref ref" => (k_here; (with_reducible show wpAny _ _ (compareOp CmpOp.Eq (Value.ref _) (Value.ref _)) _ _ _); k_dflt (refine' eq_len ?k1_31 ?k2_31 ?p1_31 ?p2_31 ?p3_31 ?_; (case k2_31 => k_asm); (case p1_31 => k_mem); (case p2_31 => k_mem); (case p3_31 => exact rfl); (case k1_31 => ktr_units); k_whole)))
  (k_with "compareOp NotEq ref ref" => (k_here; (with_reducible show wpAny _ _ (compareOp CmpOp.NotEq (Value.ref _) (Value.ref _)) _ _ _); k_dflt (refine' ne_bb ?k2_32 ?p1_32 ?p2_32 ?k1_32 ?_; (case k2_32 => k_asm); (case p1_32 => k_mem); (case p2_32 => k_mem); (case k1_32 => ktr_units); k_whole)))
  (k_with "compareOp NotIn ref ref" => (k_here; (with_reducible show wpAny _ _ (compareOp CmpOp.NotIn (Value.ref _) (Value.ref _)) _ _ _); k_dflt (refine' notin1 ?k1_33 ?k2_33 ?p1_33 ?p2_33 ?p3_33 ?_; (case k2_33 => k_asm); (case p1_33 => k_mem); (case p2_33 => k_mem); (case p3_33 => k_mem); (case k1_33 => ktr_units); k_whole)))
  (k_with "compareOp NotIn ref ref" => (k_here; (with_reducible show wpAny _ _ (compareOp CmpOp.NotIn (Value.ref _) (Value.ref _)) _ _ _); k_dflt (refine' notin2 ?k1_34 ?k2_34 ?p1_34 ?ne_34 ?p2_34 ?p3_34 ?p4_34 ?_; (case k2_34 => k_asm); (case p1_34 => k_mem); (case ne_34 => first | assumption | (refine Ne.symm ?_; assumption) | omega); (case p2_34 => k_mem); (case p3_34 => k_mem); (case p4_34 => k_mem); (case k1_34 => ktr_units); k_whole)))
  (k_with "compareOp Lt ref" => (k_here; (with_reducible show wpAny _ _ (compareOp CmpOp.Lt (Value.ref _) (Value.ref _)) _ _ _); k_dflt (refine' tp_ltC ?k1_35 ?k2_35 ?p1_35 ?p2_35 ?_; (case k2_35 => k_asm); (case p1_35 => k_mem); (case p2_35 => k_mem); (case k1_35 => ktr_units); k_whole)))
  (k_with "compareOp Eq ref ref" => (k_here; (with_reducible show wpAny _ _ (compareOp CmpOp.Eq (Value.ref _) (Value.ref _)) _ _ _); k_dflt (refine' eq_nil ?k1_36 ?k2_36 ?p1_36 ?p2_36 ?p3_36 ?p4_36 ?_; (case k2_36 => k_asm); (case p1_36 => k_mem); (case p2_36 => k_mem); (case p3_36 => exact rfl); (case p4_36 => exact rfl); (case k1_36 => ktr_units); k_whole)))
  (k_with "adr" => (first | with_reducible assumption | exact allLt_of (by with_reducible assumption) | exact (by with_reducible assumption : _ ∧ AllLt _ _).2 | exact (by with_reducible assumption : _ ∧ (_ ∧ AllLt _ _)).2.2 | exact (by with_reducible assumption : _ ∧ (_ ∧ (_ ∧ AllLt _ _))).2.2.2 | exact (by with_reducible assumption : _ ∧ (_ ∧ (_ ∧ (_ ∧ AllLt _ _)))).2.2.2.2 | exact (by with_reducible assumption : _ ∧ (_ ∧ (_ ∧ (_ ∧ (_ ∧ AllLt _ _))))).2.2.2.2.2 | exact (by with_reducible assumption : _ ∧ (_ ∧ (_ ∧ (_ ∧ (_ ∧ (_ ∧ AllLt _ _)))))).2.2.2.2.2.2 | exact (by with_reducible assumption : _ ∧ (_ ∧ (_ ∧ (_ ∧ (_ ∧ (_ ∧ (_ ∧ AllLt _ _))))))).2.2.2.2.2.2.2 | exact (by with_reducible assumption : _ ∧ (_ ∧ (_ ∧ (_ ∧ (_ ∧ (_ ∧ (_ ∧ (_ ∧ AllLt _ _)))))))).2.2.2.2.2.2.2.2 | exact (by with_reducible assumption : _ ∧ (_ ∧ (_ ∧ (_ ∧ (_ ∧ (_ ∧ (_ ∧ (_ ∧ (_ ∧ AllLt _ _))))))))).2.2.2.2.2.2.2.2.2 | exact (by with_reducible assumption : _ ∧ (_ ∧ (_ ∧ (_ ∧ (_ ∧ (_ ∧ (_ ∧ (_ ∧ (_ ∧ (_ ∧ AllLt _ _)))))))))).2.2.2.2.2.2.2.2.2.2 | exact (by with_reducible assumption : _ ∧ (_ ∧ (_ ∧ (_ ∧ (_ ∧ (_ ∧ (_ ∧ (_ ∧ (_ ∧ (_ ∧ (_ ∧ AllLt _ _))))))))))).2.2.2.2.2.2.2.2.2.2.2 | exact (by with_reducible assumption : _ ∧ (_ ∧ (_ ∧ (_ ∧ (_ ∧ (_ ∧ (_ ∧ (_ ∧ (_ ∧ (_ ∧ (_ ∧ (_ ∧ AllLt _ _)))))))))))).2.2.2.2.2.2.2.2.2.2.2.2 | exact (by with_reducible assumption : _ ∧ (_ ∧ (_ ∧ (_ ∧ (_ ∧ (_ ∧ (_ ∧ (_ ∧ (_ ∧ (_ ∧ (_ ∧ (_ ∧ (_ ∧ AllLt _ _))))))))))))).2.2.2.2.2.2.2.2.2.2.2.2.2 | exact (by with_reducible assumption : _ ∧ (_ ∧ (_ ∧ (_ ∧ (_ ∧ (_ ∧ (_ ∧ (_ ∧ (_ ∧ (_ ∧ (_ ∧ (_ ∧ (_ ∧ (_ ∧ AllLt _ _)))))))))))))).2.2.2.2.2.2.2.2.2.2.2.2.2.2 | exact (by with_reducible assumption : _ ∧ (_ ∧ (_ ∧ (_ ∧ (_ ∧ (_ ∧ (_ ∧ (_ ∧ (_ ∧ (_ ∧ (_ ∧ (_ ∧ (_ ∧ (_ ∧ (_ ∧ AllLt _ _))))))))))))))).2.2.2.2.2.2.2.2.2.2.2.2.2.2.2 | exact (by with_reducible assumption : _ ∧ (_ ∧ (_ ∧ (_ ∧ (_ ∧ (_ ∧ (_ ∧ (_ ∧ (_ ∧ (_ ∧ (_ ∧ (_ ∧ (_ ∧ (_ ∧ (_ ∧ (_ ∧ AllLt _ _)))))))))))))))).2.2.2.2.2.2.2.2.2.2.2.2.2.2.2.2 | exact (by with_reducible assumption : _ ∧ (_ ∧ (_ ∧ (_ ∧ (_ ∧ (_ ∧ (_ ∧ (_ ∧ (_ ∧ (_ ∧ (_ ∧ (_ ∧ (_ ∧ (_ ∧ (_ ∧ (_ ∧ (_ ∧ AllLt _ _))))))))))))))))).2.2.2.2.2.2.2.2.2.2.2.2.2.2.2.2.2 | exact (by with_reducible assumption : _ ∧ (_ ∧ (_ ∧ (_ ∧ (_ ∧ (_ ∧ (_ ∧ (_ ∧ (_ ∧ (_ ∧ (_ ∧ (_ ∧ (_ ∧ (_ ∧ (_ ∧ (_ ∧ (_ ∧ AllLt _ _))))))))))))))))).2.2.2.2.2.2.2.2.2.2.2.2.2.2.2.2.2 | exact (by with_reducible assumption : _ ∧ (_ ∧ (_ ∧ (_ ∧ (_ ∧ (_ ∧ (_ ∧ (_ ∧ (_ ∧ (_ ∧ (_ ∧ (_ ∧ (_ ∧ (_ ∧ (_ ∧ (_ ∧ (_ ∧ (_ ∧ AllLt _ _)))))))))))))))))).2.2.2.2.2.2.2.2.2.2.2.2.2.2.2.2.2.2 | exact (by with_reducible assumption : _ ∧ (_ ∧ (_ ∧ (_ ∧ (_ ∧ (_ ∧ (_ ∧ (_ ∧ (_ ∧ (_ ∧ (_ ∧ (_ ∧ (_ ∧ (_ ∧ (_ ∧ (_ ∧ (_ ∧ (_ ∧ (_ ∧ AllLt _ _))))))))))))))))))).2.2.2.2.2.2.2.2.2.2.2.2.2.2.2.2.2.2.2 | exact (by with_reducible assumption : _ ∧ (_ ∧ (_ ∧ (_ ∧ (_ ∧ (_ ∧ (_ ∧ (_ ∧ (_ ∧ (_ ∧ (_ ∧ (_ ∧ (_ ∧ (_ ∧ (_ ∧ (_ ∧ (_ ∧ (_ ∧ (_ ∧ (_ ∧ AllLt _ _)))))))))))))))))))).2.2.2.2.2.2.2.2.2.2.2.2.2.2.2.2.2.2.2.2 | exact (by with_reducible assumption : _ ∧ (_ ∧ (_ ∧ (_ ∧ (_ ∧ (_ ∧ (_ ∧ (_ ∧ (_ ∧ (_ ∧ (_ ∧ (_ ∧ (_ ∧ (_ ∧ (_ ∧ (_ ∧ (_ ∧ (_ ∧ (_ ∧ (_ ∧ (_ ∧ AllLt _ _))))))))))))))))))))).2.2.2.2.2.2.2.2.2.2.2.2.2.2.2.2.2.2.2.2.2 | exact (by with_reducible assumption : _ ∧ (_ ∧ (_ ∧ (_ ∧ (_ ∧ (_ ∧ (_ ∧ (_ ∧ (_ ∧ (_ ∧ (_ ∧ (_ ∧ (_ ∧ (_ ∧ (_ ∧ (_ ∧ (_ ∧ (_ ∧ (_ ∧ (_ ∧ (_ ∧ (_ ∧ AllLt _ _)))))))))))))))))))))).2.2.2.2.2.2.2.2.2.2.2.2.2.2.2.2.2.2.2.2.2.2 | exact (by with_reducible assumption : _ ∧ (_ ∧ (_ ∧ (_ ∧ (_ ∧ (_ ∧ (_ ∧ (_ ∧ (_ ∧ (_ ∧ (_ ∧ (_ ∧ (_ ∧ (_ ∧ (_ ∧ (_ ∧ (_ ∧ (_ ∧ (_ ∧ (_ ∧ (_ ∧ (_ ∧ (_ ∧ AllLt _ _))))))))))))))))))))))).2.2.2.2.2.2.2.2.2.2.2.2.2.2.2.2.2.2.2.2.2.2.2 | exact (by with_reducible assumption : _ ∧ (_ ∧ (_ ∧ (_ ∧ (_ ∧ (_ ∧ (_ ∧ (_ ∧ (_ ∧ (_ ∧ (_ ∧ (_ ∧ (_ ∧ (_ ∧ (_ ∧ (_ ∧ (_ ∧ (_ ∧ (_ ∧ (_ ∧ (_ ∧ (_ ∧ (_ ∧ (_ ∧ AllLt _ _)))))))))))))))))))))))).2.2.2.2.2.2.2.2.2.2.2.2.2.2.2.2.2.2.2.2.2.2.2.2 | exact (by with_reducible assumption : _ ∧ (_ ∧ (_ ∧ (_ ∧ (_ ∧ (_ ∧ (_ ∧ (_ ∧ (_ ∧ (_ ∧ (_ ∧ (_ ∧ (_ ∧ (_ ∧ (_ ∧ (_ ∧ (_ ∧ (_ ∧ (_ ∧ (_ ∧ (_ ∧ (_ ∧ (_ ∧ (_ ∧ (_ ∧ AllLt _ _))))))))))))))))))))))))).2.2.2.2.2.2.2.2.2.2.2.2.2.2.2.2.2.2.2.2.2.2.2.2.2 | exact (by with_reducible assumption : _ ∧ (_ ∧ (_ ∧ (_ ∧ (_ ∧ (_ ∧ (_ ∧ (_ ∧ (_ ∧ (_ ∧ (_ ∧ (_ ∧ (_ ∧ (_ ∧ (_ ∧ (_ ∧ (_ ∧ (_ ∧ (_ ∧ (_ ∧ (_ ∧ (_ ∧ (_ ∧ (_ ∧ (_ ∧ (_ ∧ AllLt _ _)))))))))))))))))))))))))).2.2.2.2.2.2.2.2.2.2.2.2.2.2.2.2.2.2.2.2.2.2.2.2.2.2 | exact (by with_reducible assumption : _ ∧ (_ ∧ (_ ∧ (_ ∧ (_ ∧ (_ ∧ (_ ∧ (_ ∧ (_ ∧ (_ ∧ (_ ∧ (_ ∧ (_ ∧ (_ ∧ (_ ∧ (_ ∧ (_ ∧ (_ ∧ (_ ∧ (_ ∧ (_ ∧ (_ ∧ (_ ∧ (_ ∧ (_ ∧ (_ ∧ (_ ∧ AllLt _ _))))))))))))))))))))))))))).2.2.2.2.2.2.2.2.2.2.2.2.2.2.2.2.2.2.2.2.2.2.2.2.2.2.2 | exact (by with_reducible assumption : _ ∧ (_ ∧ (_ ∧ (_ ∧ (_ ∧ (_ ∧ (_ ∧ (_ ∧ (_ ∧ (_ ∧ (_ ∧ (_ ∧ (_ ∧ (_ ∧ (_ ∧ (_ ∧ (_ ∧ (_ ∧ (_ ∧ (_ ∧ (_ ∧ (_ ∧ (_ ∧ (_ ∧ (_ ∧ (_ ∧ (_ ∧ (_ ∧ AllLt _ _)))))))))))))))))))))))))))).2.2.2.2.2.2.2.2.2.2.2.2.2.2.2.2.2.2.2.2.2.2.2.2.2.2.2.2 | exact (by with_reducible assumption : _ ∧ (_ ∧ (_ ∧ (_ ∧ (_ ∧ (_ ∧ (_ ∧ (_ ∧ (_ ∧ (_ ∧ (_ ∧ (_ ∧ (_ ∧ (_ ∧ (_ ∧ (_ ∧ (_ ∧ (_ ∧ (_ ∧ (_ ∧ (_ ∧ (_ ∧ (_ ∧ (_ ∧ (_ ∧ (_ ∧ (_ ∧ (_ ∧ (_ ∧ AllLt _ _))))))))))))))))))))))))))))).2.2.2.2.2.2.2.2.2.2.2.2.2.2.2.2.2.2.2.2.2.2.2.2.2.2.2.2.2 | exact (by with_reducible assumption : _ ∧ (_ ∧ (_ ∧ (_ ∧ (_ ∧ (_ ∧ (_ ∧ (_ ∧ (_ ∧ (_ ∧ (_ ∧ (_ ∧ (_ ∧ (_ ∧ (_ ∧ (_ ∧ (_ ∧ (_ ∧ (_ ∧ (_ ∧ (_ ∧ (_ ∧ (_ ∧ (_ ∧ (_ ∧ (_ ∧ (_ ∧ (_ ∧ (_ ∧ (_ ∧ AllLt _ _)))))))))))))))))))))))))))))).2.2.2.2.2.2.2.2.2.2.2.2.2.2.2.2.2.2.2.2.2.2.2.2.2.2.2.2.2.2 | exact (by with_reducible assumption : _ ∧ (_ ∧ (_ ∧ (_ ∧ (_ ∧ (_ ∧ (_ ∧ (_ ∧ (_ ∧ (_ ∧ (_ ∧ (_ ∧ (_ ∧ (_ ∧ (_ ∧ (_ ∧ (_ ∧ (_ ∧ (_ ∧ (_ ∧ (_ ∧ (_ ∧ (_ ∧ (_ ∧ (_ ∧ (_ ∧ (_ ∧ (_ ∧ (_ ∧ (_ ∧ (_ ∧ AllLt _ _))))))))))))))))))))))))))))))).2.2.2.2.2.2.2.2.2.2.2.2.2.2.2.2.2.2.2.2.2.2.2.2.2.2.2.2.2.2.2 | exact (by with_reducible assumption : _ ∧ (_ ∧ (_ ∧ (_ ∧ (_ ∧ (_ ∧ (_ ∧ (_ ∧ (_ ∧ (_ ∧ (_ ∧ (_ ∧ (_ ∧ (_ ∧ (_ ∧ (_ ∧ (_ ∧ (_ ∧ (_ ∧ (_ ∧ (_ ∧ (_ ∧ (_ ∧ (_ ∧ (_ ∧ (_ ∧ (_ ∧ (_ ∧ (_ ∧ (_ ∧ (_ ∧ (_ ∧ AllLt _ _)))))))))))))))))))))))))))))))).2.2.2.2.2.2.2.2.2.2.2.2.2.2.2.2.2.2.2.2.2.2.2.2.2.2.2.2.2.2.2.2))
  (k_with "all" => (first | with_reducible assumption | with_reducible exact fun p hp => Nat.ne_of_lt (ktn_ltOf (by kd_adr) p hp) | with_reducible exact fun p hp => Ne.symm (Nat.ne_of_lt (ktn_ltOf (by kd_adr) p hp))))
  (k_with "call ref" => (k_here; (with_reducible show wpAny _ _ (call (Value.ref 298) [Value.int _ _]) _ _ _); k_dflt (refine' c_drawn ?k1_45 ?k2_45 ?k3_45 ?k4_45 ?k5_45 ?k6_45 ?k7_45 ?k8_45 ?_; (case k1_45 => k_asm); (case k2_45 => k_asm); (case k3_45 => k_asm); (case k4_45 => k_asm); (case k5_45 => k_asm); (case k6_45 => first | exact rfl | assumption); (case k7_45 => ktr_room); (case k8_45 => ktr_units); k_whole; intro _ _ _ _ _ _ _ _ _ _ _ _ _ _ _ zl1 zl2 zl3 _ _; (try k_lt zl1); (try k_lt zl2); (try k_lt zl3); (try k_sweep)); (try (revert zl1; intro _)); (try (revert zl2; intro _)); (try (revert zl3; intro _))))
  (k_with "call ref" => (k_here; (with_reducible show wpAny _ _ (call (Value.ref 174) [Value.int _ _, Value.int _ _]) _ _ _); k_dflt (refine' c_mkpt ?k1_47 ?k2_47 ?k3_47 ?k4_47 ?k5_47 ?k6_47 ?k7_47 ?k8_47 ?_; (case k1_47 => k_asm); (case k2_47 => k_asm); (case k3_47 => k_asm); (case k4_47 => k_asm); (case k5_47 => k_asm); (case k6_47 => first | exact rfl | assumption); (case k7_47 => ktr_room); (case k8_47 => ktr_units); k_whole; intro _ _ _ _ zl1 zl2 _ _; (replace zl2 := lt2of zl1 zl2); (try k_lt zl1); (try k_lt zl2); (try k_sweep)); (try (revert zl1; intro _)); (try (revert zl2; intro _))))
  (k_with "setItem ref int" => (k_here; (with_reducible show wpAny _ _ (setItem (Value.ref _) (Value.int _ _) _) _ _ _); k_dflt (refine' set_news ?F_48 ?N_48 ?a_48 ?b_48 ?U_48 ?c_48 ?_; (case F_48 => k_asm); (case N_48 => k_asm); (case U_48 => k_upd); (case a_48 => first | with_reducible assumption | omega); (case b_48 => first | with_reducible assumption | omega); (case c_48 => ((try simp only [Array.size_setIfInBounds, Array.size_push]); omega)); k_whole; intro _ _ zN; (try dsimp only at zN); (try dsimp only); (try k_sweep)); (try (revert zN; intro _))))
  (k_with "binaryOp Add ref ref" => (k_here; (with_reducible show wpAny _ _ (binaryOp Operator.Add (Value.ref _) (Value.ref _)) _ _ _); k_dflt (refine' add_any ?F_49 ?N_49 ?a_49 ?b_49 ?z_49 ?_; (case F_49 => k_asm); (case N_49 => k_asm); (case a_49 => k_mem); (case b_49 => k_mem); (case z_49 => ((try simp only [Array.size_push, Array.size_setIfInBounds, List.size_toArray]); omega)); k_whole); intro _ _ _ _ zl1; (try k_lt zl1); (try k_sweep); (try (revert zl1; intro _))))
  (k_with "binaryOp Add ref ref" => (k_here; (with_reducible show wpAny _ _ (binaryOp Operator.Add (Value.ref _) (Value.ref _)) _ _ _); k_dflt (refine' add_two ?F_50 ?N_50 ?a_50 ?b_50 ?z_50 ?_; (case F_50 => k_asm); (case N_50 => k_asm); (case b_50 => k_mem); (case a_50 => k_mem); (case z_50 => ((try simp only [Array.size_push, Array.size_setIfInBounds]); omega)); k_whole); intro _ _ _ _ zl1; (try k_lt zl1); (try k_sweep); (try (revert zl1; intro _))))
  refine cutI (P := C_mksk hx.heap_1_39) ?_ (fun c_mksk => ?_)
  · as_aux_lemma =>
      unfold C_mksk
      intro w p loose mean mg mb news dp un gd cn cs a ccd cl outer A₀ base h₀ L m s Q E ea oa mo ev te B F X N T hk hdp hun ret
      k_dflt (refine' call_cls ?k1_mksk ?k2_mksk ?k3_mksk ?k4_mksk ?k5_mksk ?k6_mksk ?_; (case k1_mksk => k_asm); (case k2_mksk => k_asm); (case k3_mksk => k_asm); (case k4_mksk => k_is); (case k5_mksk => k_is); (case k6_mksk => k_is); k_whole; intro x' d' h' F' N' l1 l2; (try k_lt l1); (try k_lt2 l2); (try k_sweep))
      k_dflt cell_enter
      k_steps
      all_goals refine ret _ _ _ _ _ _ _ _ _ _ _ _ ?lt_mksk ?l2_mksk (by k_asm) (News.pick (by assumption) (by k_mem) (News.pick (by assumption) (by k_mem) (by ktr_rel)))
      case lt_mksk => exact ktn_ltOf (by kd_adr)
      case l2_mksk => assumption
  refine cutI (P := C_mkqk hx.heap_1_39) ?_ (fun c_mkqk => ?_)
  · as_aux_lemma =>
      unfold C_mkqk
      intro w p loose mean mg mb news dp un gd cn cs a ccd cl outer A₀ base h₀ L m s Q E ea oa ev te B F X N T hk hdp hun ret
      k_dflt (refine' call_cls ?k1_mkqk ?k2_mkqk ?k3_mkqk ?k4_mkqk ?k5_mkqk ?k6_mkqk ?_; (case k1_mkqk => k_asm); (case k2_mkqk => k_asm); (case k3_mkqk => k_asm); (case k4_mkqk => k_is); (case k5_mkqk => k_is); (case k6_mkqk => k_is); k_whole; intro x' d' h' F' N' l1 l2; (try k_lt l1); (try k_lt2 l2); (try k_sweep))
      k_dflt cell_enter
      k_steps
      all_goals refine ret _ _ _ _ _ _ _ _ _ _ ?lt_mkqk ?l2_mkqk (by k_asm) (News.pick (by assumption) (by k_mem) (News.pick (by assumption) (by k_mem) (by ktr_rel)))
      case lt_mkqk => exact ktn_ltOf (by kd_adr)
      case l2_mkqk => assumption
  (k_with "call ref" => (k_here; (with_reducible show wpAny _ _ (call (Value.ref 287) [Value.ref _, Value.ref _, Value.int _ _, Value.ref _]) _ _ _); k_dflt (refine' c_mksk ?k1_51 ?k2_51 ?k3_51 ?k4_51 ?k5_51 ?k6_51 ?k7_51 ?k8_51 ?_; (case k1_51 => k_asm); (case k2_51 => k_asm); (case k3_51 => k_asm); (case k4_51 => k_asm); (case k5_51 => k_asm); (case k6_51 => first | exact rfl | assumption); (case k7_51 => ktr_room); (case k8_51 => ktr_units); k_whole; intro _ _ _ _ _ _ _ _ _ _ _ _ zl1 zl2 _ _; (replace zl2 := lt2of zl1 zl2); (try k_lt zl1); (try k_lt zl2); (try k_sweep)); (try (revert zl1; intro _)); (try (revert zl2; intro _))))
  (k_with "call ref" => (k_here; (with_reducible show wpAny _ _ (call (Value.ref 59) [Value.ref _, Value.ref _, Value.int _ _]) _ _ _); k_dflt (refine' c_mkqk ?k1_52 ?k2_52 ?k3_52 ?k4_52 ?k5_52 ?k6_52 ?k7_52 ?k8_52 ?_; (case k1_52 => k_asm); (case k2_52 => k_asm); (case k3_52 => k_asm); (case k4_52 => k_asm); (case k5_52 => k_asm); (case k6_52 => first | exact rfl | assumption); (case k7_52 => ktr_room); (case k8_52 => ktr_units); k_whole; intro _ _ _ _ _ _ _ _ _ _ zl1 zl2 _ _; (replace zl2 := lt2of zl1 zl2); (try k_lt zl1); (try k_lt zl2); (try k_sweep)); (try (revert zl1; intro _)); (try (revert zl2; intro _))))
  (k_with "lts" => (first | with_reducible assumption | exact ltQ (by with_reducible assumption) (by kct_strs) | (refine ltN ?_; omega)))
  (k_with "nes" => (first | with_reducible assumption | (with_reducible refine Ne.symm ?_; with_reducible assumption) | ((try dsimp only); first | exact neQ (by with_reducible assumption) (by kct_strs) | exact neQ' (by with_reducible assumption) (by kct_strs) | (refine neN ?_; omega))))
  (k_with "storeName" => (k_here; (with_reducible show wpAny _ _ (storeName _ (PySem.Str.ofString "away") _) _ _ _); k_dflt (refine' storeX_C (by k_asm) (by k_asm) ?c_53 ?U_53 ?d_53 ?_; (case c_53 => exact rfl); (case U_53 => k_updF); (case d_53 => k_asm); intro _ _ _ zN _; (try dsimp only at zN); (try dsimp only); (try k_sweep)); (try (revert zN; intro _))))
  (k_with "storeName" => (k_here; (with_reducible show wpAny _ _ (storeName _ (PySem.Str.ofString "opposites") _) _ _ _); k_dflt (refine' storeX_C (by k_asm) (by k_asm) ?c_54 ?U_54 ?d_54 ?_; (case c_54 => exact rfl); (case U_54 => k_updF); (case d_54 => k_asm); intro _ _ _ zN _; (try dsimp only at zN); (try dsimp only); (try k_sweep)); (try (revert zN; intro _))))
  (k_with "storeName" => (k_here; (with_reducible show wpAny _ _ (storeName _ (PySem.Str.ofString "ends") _) _ _ _); k_dflt (refine' storeX_C (by k_asm) (by k_asm) ?c_55 ?U_55 ?d_55 ?_; (case c_55 => exact rfl); (case U_55 => k_updF); (case d_55 => k_asm); intro _ _ _ zN _; (try dsimp only at zN); (try dsimp only); (try k_sweep)); (try (revert zN; intro _))))
  (k_with "storeName" => (k_here; (with_reducible show wpAny _ _ (storeName _ (PySem.Str.ofString "orienteer") _) _ _ _); k_dflt (refine' storeX_C (by k_asm) (by k_asm) ?c_56 ?U_56 ?d_56 ?_; (case c_56 => exact rfl); (case U_56 => k_updF); (case d_56 => k_asm); intro _ _ _ zN _; (try dsimp only at zN); (try dsimp only); (try k_sweep)); (try (revert zN; intro _))))
  (k_with "storeName" => (k_here; (with_reducible show wpAny _ _ (storeName _ (PySem.Str.ofString "away") (Value.int (HMul.hMul _ _) _)) _ _ _); refine store_any ?_; intro _))
  (k_with "binaryOp Mult ref int" => (k_here; (with_reducible show wpAny _ _ (binaryOp Operator.Mult (Value.ref _) (Value.int _ _)) _ _ _); k_dflt (refine' KMa.mul ?F_58 ?N_58 ?l_58 ?lo_58 ?hi_58 ?z_58 ?e_58 ?_; (case F_58 => k_asm); (case N_58 => k_asm); (case l_58 => exact isLst (by k_asm) (by k_mem)); (case lo_58 => decide); (case hi_58 => decide); (case z_58 => exact Nat.le_of_ble_eq_true rfl); (case e_58 => (simp only [Int.reduceMul, Int.cast_ofNat_Int, Int.reduceToNat, List.replicate_succ, List.replicate_zero, List.flatten_cons, List.flatten_nil, List.cons_append, List.nil_append, List.append_nil]; exact rfl)); k_whole); intro _ _ _ _ zl1; (try k_lt zl1); (try k_sweep); (try (revert zl1; intro _))))
  (k_with "CompEnd" => (refine' comp_end ?F_59 ?N_59 ?off_59 ?hS_59 ?_; (case F_59 => k_asm); (case N_59 => ktr_rel); (case off_59 => first | assumption | (simp only [LCg.Off3, and_true]; assumption)); (case hS_59 => exact trivial)))
  (k_with "pyIter ref" => ((with_reducible show wpAny _ _ (pyIter (Value.ref _)) (fun it s₂ => LoopAtV _ _ _ _ _ (PySem.Str.ofString "k") _ _ _ it s₂) _ _); refine Hold.of ?_))
  (k_with "eval ListComp" => (k_here; (with_reducible show wpAny _ _ (eval (Expr.ListComp (Expr.Call _ _ _ _) _ _ _) _) _ _ _); k_dflt (refine LCg.ListComp_U (F₀ := by k_asm) (by with_unfolding_all rfl) (by decide) (by rfl) (by decide) (by rfl) ?_)))
  (k_with "exec Assign cons ListComp" => (k_here; (with_reducible show wpAny _ _ (exec (Stmt.Assign [Expr.Name (PySem.Str.ofString "keys") _] _ _) _) _ _ _); k_dflt (refine LCg.Assign_ListComp_U (F₀ := by k_asm) (by rfl) (by with_unfolding_all rfl) (by with_unfolding_all rfl) (by decide) (by rfl) (by decide) (by rfl) (by rfl) (by rfl) ?_)))
  (k_with "exec Assign cons ListComp" => (k_here; (with_reducible show wpAny _ _ (exec (Stmt.Assign [Expr.Name (PySem.Str.ofString "lines") _] _ _) _) _ _ _); k_dflt (refine LCg.Assign_ListComp_U (F₀ := by k_asm) (by rfl) (by with_unfolding_all rfl) (by with_unfolding_all rfl) (by decide) (by rfl) (by decide) (by rfl) (by rfl) (by rfl) ?_)))
  (k_with "CompSrc" => ((with_reducible show LCg.CompSrc _ _ _ _ _ _ _ (Expr.Call _ _ _ _) _ _ _ _ _ _); refine Hold.of ?_))
  (k_with "CompEnd" => ((with_reducible show LCg.CompEnd _ _ _ _ _ _ _ _ _ _ _ _ (Value.ref _) _); refine Hold.of ?_))
  (k_with "call ref" => ((with_reducible show wpAny _ _ (call (Value.ref 319) [Value.ref _, Value.ref _]) _ _ _); refine Hold.of ?_))
  (k_with "call ref" => (k_here; (with_reducible show wpAny _ _ (call (Value.ref 319) [Value.ref _, Value.ref _]) _ _ _); k_dflt (refine' c_lawq ?k1_67 ?k2_67 ?k3_67 ?k4_67 ?k5_67 ?k6_67 ?k7_67 ?k8_67 ?k9_67 ?_; (case k1_67 => k_asm); (case k2_67 => k_asm); (case k3_67 => k_asm); (case k4_67 => k_asm); (case k5_67 => k_asm); (case k6_67 => first | exact rfl | assumption); (case k9_67 => assumption); (case k7_67 => ktr_room); (case k8_67 => ktr_units); k_whole; intro _ _ _ _; (try k_sweep))))
  (k_with "call ref" => (k_here; (with_reducible show wpAny _ _ (call (Value.ref 324) [Value.ref _, Value.ref _]) _ _ _); k_dflt (refine' c_lawl ?k1_68 ?k2_68 ?k3_68 ?k4_68 ?k5_68 ?k6_68 ?k7_68 ?k8_68 ?k9_68 ?_; (case k1_68 => k_asm); (case k2_68 => k_asm); (case k3_68 => k_asm); (case k4_68 => k_asm); (case k5_68 => k_asm); (case k6_68 => first | exact rfl | assumption); (case k9_68 => assumption); (case k7_68 => ktr_room); (case k8_68 => ktr_units); k_whole; intro _ _ _ _; (try k_sweep))))
  (k_with "call builtin:list.append" => (k_here; (with_reducible show wpAny _ _ (call (Value.builtin "list.append") [Value.ref _, _]) _ _ _); k_dflt (refine' append_K ?k1_69 ?k2_69 ?k3_69 ?_ ?z_69; (case k1_69 => k_asm); (case k2_69 => k_asm); (case k3_69 => k_upd); (case z_69 => ((try simp only [Array.size_push, Array.size_setIfInBounds]); rw [sizeLine_eq]; omega)); k_whole); intro _ _ _; (try dsimp only); (try k_sweep)))
  (k_with "all" => (first | with_reducible exact fun p hp => Nat.ne_of_lt ((by with_reducible assumption : _ ∧ (∀ p ∈ _, p.1 < _)).2 p (by k_mem)) | with_reducible exact fun p hp => Ne.symm (Nat.ne_of_lt ((by with_reducible assumption : _ ∧ (∀ p ∈ _, p.1 < _)).2 p (by k_mem)))))
  (k_with "adr" => (first | exact allLt_of (fun p hp => (by with_reducible assumption : _ ∧ (∀ p ∈ _, p.1 < _)).2 p (by k_mem)) | exact fun p hp => (by with_reducible assumption : _ ∧ (∀ p ∈ _, p.1 < _)).2 p (by k_mem)))
  (k_with "strs" => (first | with_reducible exact List.mem_cons_self | (with_reducible refine' List.mem_cons_of_mem _ ?h8_72; (case h8_72 => kct_strs))))
  (k_with "subscriptTail Name Constant ref int" => (k_here; (with_reducible show wpAny _ _ (subscriptTail _ (Expr.Constant _ _ _) (Value.ref _) (Value.int _ _)) _ _ _); k_dflt (refine' item_tupQ ?N_73 ?m_73 ?a_73 ?b_73 ?c_73 ?_; (case N_73 => k_asm); (case m_73 => k_mem); (case a_73 => decide); (case b_73 => decide); (case c_73 => rfl); k_whole)))
  (k_with "subscriptTail Name BinOp ref int" => (k_here; (with_reducible show wpAny _ _ (subscriptTail _ _ (Value.ref _) (Value.int _ _)) _ _ _); k_dflt (refine' item_news ?N_74 ?m_74 ?a_74 ?b_74 ?c_74 ?_; (case N_74 => k_asm); (case m_74 => k_mem); (case a_74 => first | with_reducible assumption | omega); (case b_74 => first | with_reducible assumption | omega); (case c_74 => assumption); k_whole)))
  (k_with "subscriptTail Name Name ref int" => (k_here; (with_reducible show wpAny _ _ (subscriptTail _ _ (Value.ref _) (Value.int _ _)) _ _ _); k_dflt (refine' item_news ?N_75 ?m_75 ?a_75 ?b_75 ?c_75 ?_; (case N_75 => k_asm); (case m_75 => k_mem); (case a_75 => first | with_reducible assumption | omega); (case b_75 => first | with_reducible assumption | omega); (case c_75 => assumption); k_whole)))
  (k_with "ne" => (first | with_reducible assumption | (with_reducible refine Ne.symm ?_; with_reducible assumption) | ((try dsimp only); with_reducible refine' neQ ?h8_76 ?h9_76; (case h8_76 => with_reducible assumption); (case h9_76 => kct_strs)) | ((try dsimp only); with_reducible refine' neQ' ?h8_76 ?h9_76; (case h8_76 => with_reducible assumption); (case h9_76 => kct_strs))))
  (k_with "ne2" => (first | with_reducible assumption | (with_reducible refine Ne.symm ?_; with_reducible assumption) | (with_reducible refine' neQ ?h8_77 ?h9_77; (case h8_77 => with_reducible assumption); (case h9_77 => kct_strs)) | (with_reducible refine' neQ' ?h8_77 ?h9_77; (case h8_77 => with_reducible assumption); (case h9_77 => kct_strs)) | (refine neN ?_; (try dsimp only); omega)))
  (k_with "all" => ((have hX : Hold True := by with_reducible assumption); clear hX; first | with_reducible assumption | (with_reducible refine' List.forall_mem_cons.mpr ⟨?h8_78, ?h9_78⟩; (case h8_78 => ((try dsimp only); kbo_bools)); (case h9_78 => k_all))))
  (k_with "upd" => ((have hX : Hold True := by with_reducible assumption); clear hX; first | (refine' Upd.head ?a_79; (case a_79 => k_all)) | (refine' Upd.tail ?a_79 ?b_79; (case a_79 => kbo_bools); (case b_79 => k_upd))))
  k_go0
  all_goals (try k_fold)
  dsimp only
  rename_i h1 tk1 F0 o4 o3 o2 o1 d4 d3 d2 d1 N0 X0
  rename Shared => s1
  rename World => w
  obtain ⟨v1, d1⟩ : ∃ v, o1.data = .cell v := ⟨_, d1⟩
  obtain ⟨v2, d2⟩ : ∃ v, o2.data = .cell v := ⟨_, d2⟩
  obtain ⟨v3, d3⟩ : ∃ v, o3.data = .cell v := ⟨_, d3⟩
  obtain ⟨v4, d4⟩ : ∃ v, o4.data = .cell v := ⟨_, d4⟩
  clear X0
  have F1 := fr_know1 (x := "script") F0 rfl
  clear F0
  revert F1
  generalize bindL _ _ _ = m0
  intro F1
  refine cutN 4 (S1 s1.heap s1.heap.objs.size s1) ?_ ?_
  · as_aux_lemma =>
      dsimp only [List.take]
      have hMk : Hold True := trivial
      k_steps
      · rename IntsAre _ (List.take 2 _) => hI
        rcases ints_take2 hI (by assumption) with ⟨a1, t1, rfl⟩ | ⟨a1, t1, a2, t2, rfl⟩
        · k_steps
          refine' NextInv.mk' (s1_gen (n := 2) (by k_asm) (by assumption) ?mpA ?k4A ?k3A ?k2A ?k1A ?d1A ?d2A ?d3A ?d4A rfl rfl ?ltA (pcs_cons ?l0A ?a0A ?b0A ?g0A ⟨?t0A, ?u0A⟩ ⟨?v0A, ?w0A⟩ ⟨?x0A, ?y0A⟩ (pcs_cons ?l1A ?a1A ?b1A ?g1A ⟨?t1A, ?u1A⟩ ⟨?v1A, ?w1A⟩ ⟨?x1A, ?y1A⟩ pcs_nil)) rfl (Or.inl rfl))
          case mpA => k_mem
          case k4A => k_mem
          case k3A => k_mem
          case k2A => k_mem
          case k1A => k_mem
          case d1A => assumption
          case d2A => assumption
          case d3A => assumption
          case d4A => assumption
          case ltA => k_extra "lts"
          case l0A => k_mem
          case a0A => k_mem
          case b0A => k_mem
          case g0A => assumption
          case t0A => k_extra "lts"
          case u0A => k_extra "lts"
          case v0A => k_extra "lts"
          case w0A => k_extra "lts"
          case x0A => k_extra "lts"
          case y0A => k_extra "lts"
          case l1A => k_mem
          case a1A => k_mem
          case b1A => k_mem
          case g1A => assumption
          case t1A => k_extra "lts"
          case u1A => k_extra "lts"
          case v1A => k_extra "lts"
          case w1A => k_extra "lts"
          case x1A => k_extra "lts"
          case y1A => k_extra "lts"
        · k_steps
          refine' NextInv.mk' (s1_gen (n := 4) (by k_asm) (by assumption) ?mpB ?k4B ?k3B ?k2B ?k1B ?d1B ?d2B ?d3B ?d4B rfl rfl ?ltB (pcs_cons ?l0B ?a0B ?b0B ?g0B ⟨?t0B, ?u0B⟩ ⟨?v0B, ?w0B⟩ ⟨?x0B, ?y0B⟩ (pcs_cons ?l1B ?a1B ?b1B ?g1B ⟨?t1B, ?u1B⟩ ⟨?v1B, ?w1B⟩ ⟨?x1B, ?y1B⟩ (pcs_cons ?l2B ?a2B ?b2B ?g2B ⟨?t2B, ?u2B⟩ ⟨?v2B, ?w2B⟩ ⟨?x2B, ?y2B⟩ (pcs_cons ?l3B ?a3B ?b3B ?g3B ⟨?t3B, ?u3B⟩ ⟨?v3B, ?w3B⟩ ⟨?x3B, ?y3B⟩ pcs_nil)))) rfl (Or.inr rfl))
          case mpB => k_mem
          case k4B => k_mem
          case k3B => k_mem
          case k2B => k_mem
          case k1B => k_mem
          case d1B => assumption
          case d2B => assumption
          case d3B => assumption
          case d4B => assumption
          case ltB => k_extra "lts"
          case l0B => k_mem
          case a0B => k_mem
          case b0B => k_mem
          case g0B => assumption
          case t0B => k_extra "lts"
          case u0B => k_extra "lts"
          case v0B => k_extra "lts"
          case w0B => k_extra "lts"
          case x0B => k_extra "lts"
          case y0B => k_extra "lts"
          case l1B => k_mem
          case a1B => k_mem
          case b1B => k_mem
          case g1B => assumption
          case t1B => k_extra "lts"
          case u1B => k_extra "lts"
          case v1B => k_extra "lts"
          case w1B => k_extra "lts"
          case x1B => k_extra "lts"
          case y1B => k_extra "lts"
          case l2B => k_mem
          case a2B => k_mem
          case b2B => k_mem
          case g2B => assumption
          case t2B => k_extra "lts"
          case u2B => k_extra "lts"
          case v2B => k_extra "lts"
          case w2B => k_extra "lts"
          case x2B => k_extra "lts"
          case y2B => k_extra "lts"
          case l3B => k_mem
          case a3B => k_mem
          case b3B => k_mem
          case g3B => assumption
          case t3B => k_extra "lts"
          case u3B => k_extra "lts"
          case v3B => k_extra "lts"
          case w3B => k_extra "lts"
          case x3B => k_extra "lts"
          case y3B => k_extra "lts"
      · skip
        refine' NextInv.mk' (s1_gen (n := 2) (by k_asm) (by assumption) ?mpC ?k4C ?k3C ?k2C ?k1C ?d1C ?d2C ?d3C ?d4C rfl rfl ?ltC (pcs_cons ?l0C ?a0C ?b0C ?g0C ⟨?t0C, ?u0C⟩ ⟨?v0C, ?w0C⟩ ⟨?x0C, ?y0C⟩ (pcs_cons ?l1C ?a1C ?b1C ?g1C ⟨?t1C, ?u1C⟩ ⟨?v1C, ?w1C⟩ ⟨?x1C, ?y1C⟩ pcs_nil)) rfl (Or.inl rfl))
        case mpC => k_mem
        case k4C => k_mem
        case k3C => k_mem
        case k2C => k_mem
        case k1C => k_mem
        case d1C => assumption
        case d2C => assumption
        case d3C => assumption
        case d4C => assumption
        case ltC => k_extra "lts"
        case l0C => k_mem
        case a0C => k_mem
        case b0C => k_mem
        case g0C => assumption
        case t0C => k_extra "lts"
        case u0C => k_extra "lts"
        case v0C => k_extra "lts"
        case w0C => k_extra "lts"
        case x0C => k_extra "lts"
        case y0C => k_extra "lts"
        case l1C => k_mem
        case a1C => k_mem
        case b1C => k_mem
        case g1C => assumption
        case t1C => k_extra "lts"
        case u1C => k_extra "lts"
        case v1C => k_extra "lts"
        case w1C => k_extra "lts"
        case x1C => k_extra "lts"
        case y1C => k_extra "lts"
  clear F1 N0 d1 d2 d3 d4
  intro s' hs
  obtain ⟨h, tk, m, nw, c1, c2, c3, c4, fi, tf, aw, ta, v2, v3, v4, pl, pvs, np, n, rfl, F, N, d1, d2, d3, d4, e1, e2, nlt, plt, hsz, hn, hsg⟩ := hs
  replace F := fr_know [("first", .int fi tf), ("pieces", .ref pl)] F (by simp only [List.forall_mem_cons]; exact ⟨e1, e2, fun p hp => nomatch hp⟩)
  dsimp only [know] at F
  refine cutN 4 (S2 s1.heap s1.heap.objs.size s1) ?_ ?_
  · as_aux_lemma =>
      dsimp only [List.take, List.drop]
      have hMk : Hold True := trivial
      have nn1 : ∀ p ∈ nw, p.1 ≠ pl := fun p hp => Nat.ne_of_lt (nlt p hp).2
      have nn4 : ∀ p ∈ nw, p.1 ≠ s1.heap.objs.size+1+1+1+1 := fun p hp => Ne.symm (Nat.ne_of_lt (nlt p hp).1)
      have nn5 : ∀ p ∈ nw, p.1 ≠ s1.heap.objs.size+1+1+1 := fun p hp => Ne.symm (Nat.ne_of_lt (Nat.lt_trans (Nat.lt_succ_self _) (nlt p hp).1))
      have nn6 : ∀ p ∈ nw, p.1 ≠ s1.heap.objs.size+1+1 := fun p hp => Ne.symm (Nat.ne_of_lt (Nat.lt_trans (Nat.lt_trans (Nat.lt_succ_self _) (Nat.lt_succ_self _)) (nlt p hp).1))
      have nn7 : ∀ p ∈ nw, p.1 ≠ s1.heap.objs.size+1 := fun p hp => Ne.symm (Nat.ne_of_lt (Nat.lt_trans (Nat.lt_trans (Nat.lt_trans (Nat.lt_succ_self _) (Nat.lt_succ_self _)) (Nat.lt_succ_self _)) (nlt p hp).1))
      replace plt : @LT.lt Nat _ (s1.heap.objs.size+1+1+1+1) pl := plt
      rcases hn with rfl | rfl
      · obtain ⟨w0, w1, rfl⟩ := arr2 hsz
        k_steps
        refine' NextInv.mk' (s2_leaf (n := 2) (by k_asm) (by assumption) ?m1D ?m2D ?m3D ?k4D ?k3D ?k2D ?k1D ?m5D ?nwD ?d1D ?d2D ?d3D ?d4D rfl rfl rfl rfl rfl ?z1D ?hlD ?z2D ?z3D nlt plt ?l2D ?l3D ?l4D hsz (by decide) hsg)
        case m1D => k_mem
        case m3D => k_mem
        case m5D => k_mem
        case k4D => k_mem
        case k3D => k_mem
        case k2D => k_mem
        case k1D => k_mem
        case d1D => assumption
        case d2D => assumption
        case d3D => assumption
        case d4D => assumption
        case m2D => k_mem
        case nwD => ktr_rel
        case z1D => exact rfl
        case z2D => exact rfl
        case z3D => exact rfl
        case hlD =>
          intro i hi
          match i, hi with
          | 0, _ => exact ⟨_, rfl⟩
          | 1, _ => exact ⟨_, rfl⟩
        case l2D => k_extra "lts"
        case l3D => k_extra "lts"
        case l4D =>
          rename _ ∧ _ ∧ _ ∧ _ ∧ _ ∧ _ ∧ _ ∧ _ ∧ _ ∧ _ => o9
          exact ⟨Ne.symm o9.2.2.2.2.2.2.2.1, Ne.symm o9.1, Ne.symm o9.2.2.1, Ne.symm o9.2.2.2.2.2.2.2.2.1, Ne.symm o9.2.2.2.2.2.2.2.2.2.1, Ne.symm o9.2.2.2.2.2.2.2.2.2.2.1, Ne.symm o9.2.2.2.2.2.2.2.2.2.2.2.1⟩
      · obtain ⟨w0, w1, w2, w3, rfl⟩ := arr4 hsz
        k_steps
        refine' NextInv.mk' (s2_leaf (n := 4) (by k_asm) (by assumption) ?m1E ?m2E ?m3E ?k4E ?k3E ?k2E ?k1E ?m5E ?nwE ?d1E ?d2E ?d3E ?d4E rfl rfl rfl rfl rfl ?z1E ?hlE ?z2E ?z3E nlt plt ?l2E ?l3E ?l4E hsz (by decide) hsg)
        case m1E => k_mem
        case m3E => k_mem
        case m5E => k_mem
        case k4E => k_mem
        case k3E => k_mem
        case k2E => k_mem
        case k1E => k_mem
        case d1E => assumption
        case d2E => assumption
        case d3E => assumption
        case d4E => assumption
        case m2E => k_mem
        case nwE => ktr_rel
        case z1E => exact rfl
        case z2E => exact rfl
        case z3E => exact rfl
        case hlE =>
          intro i hi
          match i, hi with
          | 0, _ => exact ⟨_, rfl⟩
          | 1, _ => exact ⟨_, rfl⟩
          | 2, _ => exact ⟨_, rfl⟩
          | 3, _ => exact ⟨_, rfl⟩
        case l2E => k_extra "lts"
        case l3E => k_extra "lts"
        case l4E =>
          rename _ ∧ _ ∧ _ ∧ _ ∧ _ ∧ _ ∧ _ ∧ _ ∧ _ ∧ _ => o9
          exact ⟨Ne.symm o9.2.2.2.2.2.2.2.1, Ne.symm o9.1, Ne.symm o9.2.2.1, Ne.symm o9.2.2.2.2.2.2.2.2.1, Ne.symm o9.2.2.2.2.2.2.2.2.2.1, Ne.symm o9.2.2.2.2.2.2.2.2.2.2.1, Ne.symm o9.2.2.2.2.2.2.2.2.2.2.2.1⟩
  clear F N d1 d2 d3 d4 e1 e2 nlt plt hsz hn hsg
  intro s' hs
  obtain ⟨h, tk, m, nw, c1, c2, c3, c4, fi, tf, aw, ta, v3, v4, pl, pvs, np, n, oa, ovs, no, pa, plv, npl, la, lvs, nl, tm, rfl, F, N, d1, d2, d3, d4, e1, e2, e3, e4, e5, mla, zla, hla, zo, zp, g1, g2, g3, g4, g5, g6, g7, l1, l2, l3, hsz, hn, hsg⟩ := hs
  replace F := fr_know [("first", .int fi tf), ("pieces", .ref pl), ("many", .int (2 * (n : Int)) tm), ("places", .ref pa), ("lefts", .ref la)] F (by simp only [List.forall_mem_cons]; exact ⟨e1, e2, e3, e4, e5, fun p hp => nomatch hp⟩)
  dsimp only [know] at F
  refine cutN 1 (S3 s1.heap s1.heap.objs.size s1) ?_ ?_
  · as_aux_lemma =>
      dsimp only [List.take, List.drop]
      have hMk : Hold True := trivial
      have hn9 : n < 100 := by omega
      have hn' : Hold (n = 2 ∨ n = 4) := hn
      clear hn
      k_steps
      unfold Hold
      rename Fr _ _ _ _ => F1
      rename News _ _ _ _ => N1
      rename IsRange _ _ _ _ _ _ _ _ => R1
      refine iter_rangeJ (n := n) ["low", "high", "right"] (fun k _ nws => J3 nw pl oa pa s1.heap.objs.size pvs np no npl n c1 c2 c3 c4 k nws) rfl R1 (small_one (by decide) (by decide) (by omega) (by omega)) (by rw [rangeSize_nat]; omega) F1 N1 ⟨ovs, plv, nw, rfl, zo, zp, fun p hp => hp, ⟨g1, g2, g3, g4, g5, g6, g7⟩, fun i hi => absurd hi (Nat.not_lt_zero _)⟩ (fun i t u1 h1 tk1 I1 oI1 news1 lt1 hi J1 off1 cI1 F2 N2 => ?_) (fun u1 h1 tk1 news1 J1 F2 N2 => ?_)
      · (try k_fold)
        obtain ⟨ovs1, plv1, nw1, rfl, z1, z2, sub1, ⟨f1, f2, f3, f4, f5, f6, f7⟩, old1⟩ := J1
        obtain ⟨v, x, y, u, w1, hv, hsk, hg⟩ := hsg i hi
        have hsk1 := hsk.sub sub1
        have hsk2 := hsk1
        obtain ⟨ls, lo, hh, rfl, sg, tlo, thi⟩ := hsk2
        obtain ⟨nsg, msg⟩ := sg.ex
        have b1 : @Ne Nat pl I1 := off1 _ (.head _)
        have b2 : @Ne Nat oa I1 := off1 _ (.tail _ (.head _))
        have b3 : @Ne Nat pa I1 := off1 _ (.tail _ (.tail _ (.head _)))
        have b4 : @Ne Nat (s1.heap.objs.size+1+1+1+1) I1 := off1 _ (.tail _ (.tail _ (.tail _ (.head _))))
        have b5 : @Ne Nat (s1.heap.objs.size+1+1+1) I1 := off1 _ (.tail _ (.tail _ (.tail _ (.tail _ (.head _)))))
        have b6 : @Ne Nat (s1.heap.objs.size+1+1) I1 := off1 _ (.tail _ (.tail _ (.tail _ (.tail _ (.tail _ (.head _))))))
        have b7 : @Ne Nat (s1.heap.objs.size+1) I1 := off1 _ (.tail _ (.tail _ (.tail _ (.tail _ (.tail _ (.tail _ (.head _)))))))
        have b8 : ∀ p ∈ nw1, p.1 ≠ I1 := fun p hp => off1 _ (.tail _ (.tail _ (.tail _ (.tail _ (.tail _ (.tail _ (.tail _ hp)))))))
        simp only [Int.zero_add] at F2
        have hv0 := hv
        rw [← Int.toNat_natCast i] at hv
        have r1 := rt_int n i
        have r2 := rt_lt (n := n) (k := i) (by omega)
        clear F1 N1 R1 lt1 off1 hla hsg
        obtain ⟨xa, xb, xc, xd, xe, xf, xg, xh, xi⟩ := Ne2.mk' l1 (Nat.lt_trans l2 l3)
        obtain ⟨za, zb, zc, zd, ze, zf, zg, zh, zi⟩ := Ne2.mk' l1 l2
        have zj := Nat.ne_of_lt l3
        k_steps
        rename_i D3 hA lt3 D2 hB lt2 D1 hC lt1' hD hE hF tkk D0 hG lt0 hH hI hJ FF NN
        refine' turnJ_next (L := s1.heap.objs.size) (news' := (pl, _) :: (oa, _) :: (pa, _) :: (s1.heap.objs.size+1+1+1+1, c4) :: (s1.heap.objs.size+1+1+1, c3) :: (s1.heap.objs.size+1+1, c2) :: (s1.heap.objs.size+1, c1) :: (D2, _) :: (D3, _) :: nw1) FF ?NF ?offF ?jF ?sameF
        case NF => exact News.pick NN (by k_mem) (News.pick NN (by k_mem) (News.pick NN (by k_mem) (News.pick NN (by k_mem) (News.pick NN (by k_mem) (News.pick NN (by k_mem) (News.pick NN (by k_mem) (News.pick NN (by k_mem) (News.pick NN (by k_mem) (News.pick NN (by k_mem) (by ktr_rel))))))))))
        case offF => exact List.forall_mem_cons.mpr ⟨b1, List.forall_mem_cons.mpr ⟨b2, List.forall_mem_cons.mpr ⟨b3, List.forall_mem_cons.mpr ⟨b4, List.forall_mem_cons.mpr ⟨b5, List.forall_mem_cons.mpr ⟨b6, List.forall_mem_cons.mpr ⟨b7, List.forall_mem_cons.mpr ⟨(by k_extra "nes"), List.forall_mem_cons.mpr ⟨(by k_extra "nes"), b8⟩⟩⟩⟩⟩⟩⟩⟩⟩
        case sameF => ktm_same
        case jF =>
          refine ⟨_, _, (D2, _) :: (D3, _) :: nw1, rfl, ?_, ?_, fun p hp => .tail _ (.tail _ (sub1 p hp)), Dis.cons (Dis.cons ⟨f1, f2, f3, f4, f5, f6, f7⟩ ?_) ?_, row_turn hi z2 z1 (fun i' hi' => ((old1 i' hi').cons).cons) hv0 hsk1.cons.cons hg ⟨lo, hh, _, .tail _ (.head _), tlo.cons.cons, thi.cons.cons⟩ ⟨hh, lo, _, .head _, thi.cons.cons, tlo.cons.cons⟩ ?_ ?_ ?_ ?_ r1 rfl⟩
          · simp only [Array.size_setIfInBounds]; exact z1
          · simp only [Array.size_setIfInBounds]; exact z2
          · refine ⟨?_, ?_, ?_, ?_, ?_, ?_, ?_⟩ <;> k_extra "nes"
          · refine ⟨?_, ?_, ?_, ?_, ?_, ?_, ?_⟩ <;> k_extra "nes"
          · omega
          · rw [r1, Int.toNat_natCast]
          · omega
          · rw [r1, Int.toNat_natCast]
      · (try k_fold)
        obtain ⟨ovs1, plv1, nw1, rfl, z1, z2, sub1, dis1, rows⟩ := J1
        k_steps
        exact NextInv.mk' ⟨_, _, _, nw1, c1, c2, c3, c4, fi, tf, aw, ta, v3, v4, pl, pvs, np, n, oa, ovs1, no, pa, plv1, npl, la, lvs, nl, tm, rfl, by k_asm, by k_asm, d1, d2, d3, d4, rfl, rfl, rfl, rfl, rfl, sub1 _ mla, zla, hla, z1, z2, dis1, l1, l2, l3, hsz, hn', rows⟩
  clear F N d1 d2 d3 d4 e1 e2 e3 e4 e5 mla zla hla zo zp g1 g2 g3 g4 g5 g6 g7 l1 l2 l3 hsz hn hsg
  intro s' hs
  obtain ⟨h, tk, m, nw, c1, c2, c3, c4, fi, tf, aw, ta, v3, v4, pl, pvs, np, n, oa, ovs, no, pa, plv, npl, la, lvs, nl, tm, rfl, F, N, d1, d2, d3, d4, e1, e2, e3, e4, e5, mla, zla, hla, zo, zp, dis0, l1, l2, l3, hsz, hn, rows⟩ := hs
  replace F := fr_know [("first", .int fi tf), ("pieces", .ref pl), ("many", .int (2 * (n : Int)) tm), ("places", .ref pa), ("lefts", .ref la)] F (by simp only [List.forall_mem_cons]; exact ⟨e1, e2, e3, e4, e5, fun p hp => nomatch hp⟩)
  dsimp only [know] at F
  obtain ⟨f, hf⟩ := norm3 rows
  clear rows
  refine cutN 2 (S4 s1.heap s1.heap.objs.size s1) ?_ ?_
  · as_aux_lemma =>
      dsimp only [List.take, List.drop]
      have hMk : Hold True := trivial
      obtain ⟨g1, g2, g3, g4, g5, g6, g7⟩ := dis0
      k_steps
      unfold Hold
      rename Fr _ _ _ _ => F1
      rename News _ _ _ _ => N1
      refine LCg.CompSrc.ledger (ax := pa) (its := plv) (k := npl) (by rfl) F1 N1 (by k_mem) (by rw [sizeLine_eq]; omega) ?_
      intro g9
      refine compRest_inv (JPts pl oa pa s1.heap.objs.size (listOf pvs np) (listOf ovs no) (listOf plv npl) c4 c3 c2 c1 nw f n aw) ⟨nw, rfl, fun p hp => hp, ⟨g1, g2, g3, g4, g5, g6, g7⟩, fun e he => absurd he (Nat.not_lt_zero _)⟩ ?_ ?_
      · intro i ys nws hi hys Z0 v I1 oI1 C1 oC1 D1 m2 h2 tk2 E2 hv hC2 hx2 F2 N2 off2 ne2
        (try k_fold)
        obtain ⟨nw1, rfl, sub1, ⟨f1, f2, f3, f4, f5, f6, f7⟩, old1⟩ := Z0
        obtain ⟨⟨t, to, r1, r2, r3⟩, r4, r5, r6⟩ := ev_rows hf (e := i) (by omega)
        obtain rfl : v = .ref t := by have := hv.symm.trans r1; simpa using this
        obtain ⟨lo, hh, tb, r7, r8, r9⟩ := (r2.sub sub1)
        obtain ⟨q1, q2, q3⟩ := r8.ex
        have off3 := off2
        simp only [LCg.Off3] at off2
        have o1 := off2.1; have o2 := off2.2.1; have o3 := off2.2.2.1; have o4 := off2.2.2.2.1; have o5 := off2.2.2.2.2.1; have o6 := off2.2.2.2.2.2.1; have o7 := off2.2.2.2.2.2.2.1; have o8 := off2.2.2.2.2.2.2.2
        clear F1 N1
        k_steps
        unfold Hold
        rename Fr _ _ _ _ => FF
        rename News _ _ _ _ => NN
        refine' pt_close NN FF off3 hys sub1 ⟨f1, f2, f3, f4, f5, f6, f7⟩ old1 rfl rfl ?ltP ?lqP
        case ltP => refine ⟨?_, ?_, ?_, ?_, ?_, ?_, ?_⟩ <;> k_extra "lts"
        case lqP => k_extra "lts"
        all_goals exact c1
      · intro ys nws hys Z0 ea h9 tk9 F9 N9 o9
        (try k_fold)
        obtain ⟨nw1, rfl, sub1, ⟨f1, f2, f3, f4, f5, f6, f7⟩, pts⟩ := Z0
        simp only [LCg.Off1] at o9
        have o1 := o9.1; have o2 := o9.2.1; have o3 := o9.2.2.1; have o4 := o9.2.2.2.1; have o5 := o9.2.2.2.2.1; have o6 := o9.2.2.2.2.2.1; have o7 := o9.2.2.2.2.2.2.1; have o8 := o9.2.2.2.2.2.2.2
        clear F1 N1
        k_steps
        refine' NextInv.mk' (s4_leaf (by assumption) (by k_asm) d1 d2 (by assumption) (by assumption) rfl rfl rfl rfl rfl mla zla hla zo zp (hys.trans zp) ⟨f1, f2, f3, f4, f5, f6, f7⟩ (off1_ne o8) ⟨(by k_extra "nes"), (by k_extra "nes"), (by k_extra "nes"), (by k_extra "nes"), (by k_extra "nes"), (by k_extra "nes"), (by k_extra "nes")⟩ l1 l2 l3 hsz hn sub1 hf (fun e he => pts e (by omega)) ?lt4 ?lx4 ?lq4)
        case lt4 => refine ⟨?_, ?_, ?_, ?_, ?_⟩ <;> k_extra "lts"
        case lx4 => k_extra "lts"
        case lq4 => k_extra "lts"
  clear F N d1 d2 d3 d4 e1 e2 e3 e4 e5 mla zla hla zo zp dis0 l1 l2 l3 hsz hn hf
  intro s' hs
  obtain ⟨h, tk, m, nw, c1, c2, c3, c4, fi, tf, aw, ta, pl, pvs, np, n, oa, ovs, no, pa, plv, npl, la, lvs, nl, tm, ea, evs, ne, mo, cx, f, rfl, F, N, d1, d2, d3, d4, e1, e2, e3, e4, e5, mla, zla, hla, zo, zp, ze, dis0, dise, ⟨b1, b2, b3, b4, b5, b6, b7⟩, l1, l2, l3, hsz, hn, mmo, hf, pts⟩ := hs
  replace F := fr_know [("first", .int fi tf), ("pieces", .ref pl), ("many", .int (2 * (n : Int)) tm), ("places", .ref pa), ("lefts", .ref la)] F (by simp only [List.forall_mem_cons]; exact ⟨e1, e2, e3, e4, e5, fun p hp => nomatch hp⟩)
  dsimp only [know] at F
  refine cutN 2 (S5 s1.heap s1.heap.objs.size s1) ?_ ?_
  · as_aux_lemma =>
      dsimp only [List.take, List.drop]
      have hMk : Hold True := trivial
      have hn9 : n < 100 := by omega
      have hn' : Hold (n = 2 ∨ n = 4) := hn
      clear hn
      obtain ⟨g1, g2, g3, g4, g5, g6, g7⟩ := dis0
      k_steps
      unfold Hold
      rename Fr _ _ _ _ => F1
      rename News _ _ _ _ => N1
      rename IsRange _ _ _ _ _ _ _ _ => R1
      refine LCg.CompSrc.range (n := 2 * n) (by rfl) F1 N1 R1 (small_one (by decide) (by decide) (by omega) (by omega)) (by rw [rangeSize_nat]; omega) (by rw [sizeLine_eq]; omega) ?_
      intro g9
      refine compRest_inv (JObj ea pl oa pa s1.heap.objs.size (listOf evs ne) (listOf pvs np) (listOf ovs no) (listOf plv npl) c4 c3 c2 c1 nw (fun l e p => IsQK l p ea oa (0 + (e : Int)))) ⟨nw, rfl, fun p hp => hp, ⟨g1, g2, g3, g4, g5, g6, g7⟩, dise, fun e he => absurd he (Nat.not_lt_zero _)⟩ ?_ ?_
      · intro i ys nws hi hys Z0 v I1 oI1 C1 oC1 D1 m2 h2 tk2 E2 Z1 hC2 hx2 F2 N2 off2 ne2
        (try k_fold)
        obtain ⟨nw1, rfl, sub1, ⟨f1, f2, f3, f4, f5, f6, f7⟩, f8, old1⟩ := Z0
        obtain ⟨t, rfl⟩ := Z1
        have off3 := off2
        simp only [LCg.Off3] at off2
        have o0 := off2.1; have o1 := off2.2.1; have o2 := off2.2.2.1; have o3 := off2.2.2.2.1; have o4 := off2.2.2.2.2.1; have o5 := off2.2.2.2.2.2.1; have o6 := off2.2.2.2.2.2.2.1; have o7 := off2.2.2.2.2.2.2.2.1; have o8 := off2.2.2.2.2.2.2.2.2
        clear F1 N1
        k_steps
        unfold Hold
        rename News _ _ _ _ => NN
        clear o0 o1 o2 o3 o4 o5 o6 o7 o8 ne2
        refine' obj_close NN (by k_asm) off3 hys sub1 ⟨f1, f2, f3, f4, f5, f6, f7⟩ f8 old1 (fun l q e p h => h.cons) ⟨_, _, _, _, _, _, _, _, .head _, .tail _ (.head _)⟩ trivial ?ltK ?lqK
        case ltK => refine ⟨?_, ?_, ?_, ?_, ?_, ?_, ?_, ?_⟩ <;> k_extra "lts"
        case lqK => k_extra "lts"
        all_goals exact c1
      · intro ys nws hys Z0 ka h9 tk9 F9 N9 o9
        (try k_fold)
        obtain ⟨nw1, rfl, sub1, ⟨f1, f2, f3, f4, f5, f6, f7⟩, f8, kys⟩ := Z0
        simp only [LCg.Off1] at o9
        have o0 := o9.1; have o1 := o9.2.1; have o2 := o9.2.2.1; have o3 := o9.2.2.2.1; have o4 := o9.2.2.2.2.1; have o5 := o9.2.2.2.2.2.1; have o6 := o9.2.2.2.2.2.2.1; have o7 := o9.2.2.2.2.2.2.2.1; have o8 := o9.2.2.2.2.2.2.2.2
        clear F1 N1 R1
        k_steps
        unfold Hold
        rename Fr _ _ _ _ => F1
        rename News _ _ _ _ => N1
        have dk : Dis ((ka, LCg.lst ys) :: nw1) pl oa pa s1.heap.objs.size := Dis.cons ⟨f1, f2, f3, f4, f5, f6, f7⟩ ⟨Ne.symm o1, Ne.symm o2, Ne.symm o3, Ne.symm o4, Ne.symm o5, Ne.symm o6, Ne.symm o7⟩
        have ek : ∀ p ∈ (ka, LCg.lst ys) :: nw1, p.1 ≠ ea := List.forall_mem_cons.mpr ⟨Ne.symm o0, f8⟩
        have mla1 : (la, listOf lvs nl) ∈ (ka, LCg.lst ys) :: nw1 := .tail _ (sub1 _ mla)
        have mmo1 : (mo, methodObj (.ref 249) (.ref cx)) ∈ (ka, LCg.lst ys) :: nw1 := .tail _ (sub1 _ mmo)
        clear o0 o1 o2 o3 o4 o5 o6 o7 o8
        obtain ⟨g1, g2, g3, g4, g5, g6, g7⟩ := dk
        refine LCg.CompSrc.ledger (ax := la) (its := lvs) (k := nl) (by rfl) F1 (rot8 N1) (.tail _ (.tail _ (.tail _ (.tail _ (.tail _ (.tail _ (.tail _ (.tail _ mla1)))))))) (by rw [sizeLine_eq]; omega) ?_
        intro g9
        refine compRest_inv (JObj ea pl oa pa s1.heap.objs.size (listOf evs ne) (listOf pvs np) (listOf ovs no) (listOf plv npl) c4 c3 c2 c1 ((ka, LCg.lst ys) :: nw1) (fun l e p => IsSK l p ea oa (2 * (e : Int)))) ⟨_, rfl, fun p hp => hp, ⟨g1, g2, g3, g4, g5, g6, g7⟩, ek, fun e he => absurd he (Nat.not_lt_zero _)⟩ ?_ ?_
        · intro i ys2 nws hi hys2 Z0 v I1 oI1 C1 oC1 D1 m2 h2 tk2 E2 hv hC2 hx2 F2 N2 off2 ne2
          (try k_fold)
          obtain ⟨nw2, rfl, sub2, ⟨f1, f2, f3, f4, f5, f6, f7⟩, f8, old1⟩ := Z0
          obtain ⟨t, ht⟩ := hla i (by omega)
          obtain rfl : v = .int (2 * (i : Int)) t := by have := hv.symm.trans ht; simpa using this
          have off3 := off2
          have mmo2 := sub2 _ mmo1
          simp only [LCg.Off3] at off2
          have o0 := off2.1; have o1 := off2.2.1; have o2 := off2.2.2.1; have o3 := off2.2.2.2.1; have o4 := off2.2.2.2.2.1; have o5 := off2.2.2.2.2.2.1; have o6 := off2.2.2.2.2.2.2.1; have o7 := off2.2.2.2.2.2.2.2.1; have o8 := off2.2.2.2.2.2.2.2.2
          clear F1 N1
          k_steps
          unfold Hold
          rename News _ _ _ _ => NN
          clear o0 o1 o2 o3 o4 o5 o6 o7 o8 ne2
          refine' obj_close NN (by k_asm) off3 hys2 sub2 ⟨f1, f2, f3, f4, f5, f6, f7⟩ f8 old1 (fun l q e p h => h.cons) ⟨_, _, _, _, _, _, _, _, _, _, _, _, .head _, .tail _ (.head _), .tail _ (.tail _ mmo2)⟩ (Or.inr ⟨_, .tail _ (.tail _ (.tail _ (.tail _ (.tail _ (.tail _ (.tail _ (.tail _ (.tail _ (.tail _ (sub2 _ mla1)))))))))), rfl, _, rfl⟩) ?ltS ?lqS
          case ltS => refine ⟨?_, ?_, ?_, ?_, ?_, ?_, ?_, ?_⟩ <;> k_extra "lts"
          case lqS => k_extra "lts"
          all_goals exact c1
        · intro ys2 nws hys2 Z0 la2 h9 tk9 F9 N9 o9
          (try k_fold)
          obtain ⟨nw2, rfl, sub2, dis2, f8, lys⟩ := Z0
          simp only [LCg.Off1] at o9
          have o0 := o9.1; have o1 := o9.2.1; have o2 := o9.2.2.1; have o3 := o9.2.2.2.1; have o4 := o9.2.2.2.2.1; have o5 := o9.2.2.2.2.2.1; have o6 := o9.2.2.2.2.2.2.1; have o7 := o9.2.2.2.2.2.2.2.1; have o8 := o9.2.2.2.2.2.2.2.2
          clear F1 N1
          k_steps
          have sub3 : ∀ p ∈ nw, p ∈ nw2 := fun p hp => sub2 _ (.tail _ (sub1 p hp))
          have K0 : Core nw2 evs ovs plv ys2.toArray pvs ea oa aw n 0 0 := core0 hn' (fun k hk => (hf k hk).sub sub3) ze zo zp (by simpa using hys2.trans zla) hsz (fun e he => by obtain ⟨p, a, b⟩ := pts e he; exact ⟨p, a, b.sub sub3⟩) (fun k hk => by obtain ⟨p, a, b⟩ := lys k (by omega); exact ⟨p, by simpa using a, b⟩)
          exact NextInv.mk' ⟨_, _, _, nw2, c1, c2, c3, c4, fi, tf, aw, ta, pl, pvs, np, n, oa, ovs, no, pa, plv, npl, tm, ea, evs, ne, mo, cx, la2, ys2.toArray, ys2.length, ka, ys.toArray, ys.length, rfl, by k_asm, by assumption, d1, d2, d3, d4, rfl, rfl, rfl, rfl, rfl, rfl, K0, sub2 _ (.head _), by simpa using hys, fun i hi => by obtain ⟨p, a, b⟩ := kys i hi; rw [Int.zero_add] at b; exact ⟨p, by simpa using a, b.sub (fun p hp => sub2 _ (.tail _ hp))⟩, dis2, f8, off1_ne o8, ⟨b1, b2, b3, b4, b5, b6, b7⟩, ⟨Ne.symm o0, Ne.symm o1, Ne.symm o2, Ne.symm o3, Ne.symm o4, Ne.symm o5, Ne.symm o6, Ne.symm o7⟩, l1, l2, l3, hn', sub2 _ mmo1⟩
  clear F N d1 d2 d3 d4 e1 e2 e3 e4 e5 mla zla hla zo zp ze dis0 dise b1 b2 b3 b4 b5 b6 b7 l1 l2 l3 hsz hn mmo hf pts
  intro s' hs
  obtain ⟨h, tk, m, nw, c1, c2, c3, c4, fi, tf, aw, ta, pl, pvs, np, n, oa, ovs, no, pa, plv, npl, tm, ea, evs, ne, mo, cx, la, lks, nl, ka, kvs, nk, rfl, F, N, d1, d2, d3, d4, e1, e2, e3, e4, e5, e6, K0, mka, zk, hks, dis0, dise, disl, nee, nel, l1, l2, l3, hn, mmo⟩ := hs
  replace F := fr_know [("first", .int fi tf), ("pieces", .ref pl), ("many", .int (2 * (n : Int)) tm), ("places", .ref pa), ("keys", .ref ka), ("lines", .ref la)] F (by simp only [List.forall_mem_cons]; exact ⟨e1, e2, e3, e4, e5, e6, fun p hp => nomatch hp⟩)
  dsimp only [know] at F
  refine cutN 1 (S5 s1.heap s1.heap.objs.size s1) ?_ ?_
  · as_aux_lemma =>
      dsimp only [List.take, List.drop]
      have sub0 : ∀ p ∈ nw, p ∈ (la, listOf lks nl) :: (ea, listOf evs ne) :: (pl, listOf pvs np) :: (oa, listOf ovs no) :: (pa, listOf plv npl) :: (s1.heap.objs.size+1+1+1+1, c4) :: (s1.heap.objs.size+1+1+1, c3) :: (s1.heap.objs.size+1+1, c2) :: (s1.heap.objs.size+1, c1) :: nw := fun p hp => .tail _ (.tail _ (.tail _ (.tail _ (.tail _ (.tail _ (.tail _ (.tail _ (.tail _ hp))))))))
      have hQ := K0.qrel sub0 (.tail _ (.head _)) (.tail _ (.tail _ (.tail _ (.head _)))) (sub0 _ mka) (.tail _ (.tail _ (.tail _ (.tail _ (.head _))))) (by omega) (by omega) (by omega) (fun i hi => hks i (by omega))
      have hL := K0.lrel sub0 (.tail _ (.head _)) (.tail _ (.tail _ (.tail _ (.head _)))) (.head _) (.tail _ (.tail _ (.head _))) (by omega) (by omega)
      k_steps
      exact NextInv.mk' ⟨_, _, _, nw, c1, c2, c3, c4, fi, tf, aw, ta, pl, pvs, np, n, oa, ovs, no, pa, plv, npl, tm, ea, evs, ne, mo, cx, la, lks, nl, ka, kvs, nk, rfl, by k_asm, by assumption, d1, d2, d3, d4, rfl, rfl, rfl, rfl, rfl, rfl, K0, mka, zk, hks, dis0, dise, disl, nee, nel, l1, l2, l3, hn, mmo⟩
  clear F N d1 d2 d3 d4 e1 e2 e3 e4 e5 e6 K0 mka zk hks dis0 dise disl nee nel l1 l2 l3 hn mmo
  intro s' hs
  obtain ⟨h, tk, m, nw, c1, c2, c3, c4, fi, tf, aw, ta, pl, pvs, np, n, oa, ovs, no, pa, plv, npl, tm, ea, evs, ne, mo, cx, la, lks, nl, ka, kvs, nk, rfl, F, N, d1, d2, d3, d4, e1, e2, e3, e4, e5, e6, K0, mka, zk, hks, dis0, dise, disl, nee, nel, l1, l2, l3, hn, mmo⟩ := hs
  replace F := fr_know [("first", .int fi tf), ("pieces", .ref pl), ("many", .int (2 * (n : Int)) tm), ("places", .ref pa), ("keys", .ref ka), ("lines", .ref la)] F (by simp only [List.forall_mem_cons]; exact ⟨e1, e2, e3, e4, e5, e6, fun p hp => nomatch hp⟩)
  dsimp only [know] at F
  refine cutN 1 (S7 s1.heap s1.heap.objs.size s1) ?_ ?_
  · as_aux_lemma =>
      dsimp only [List.take, List.drop]
      have nes : NeS la ea pl oa s1.heap.objs.size := ⟨nel.b0, nel.b1, nel.b2, nel.b4, nel.b5, nel.b6, nel.b7, nee.b1, nee.b2, nee.b4, nee.b5, nee.b6, nee.b7⟩
      have nep : NeP pa la ea pl oa s1.heap.objs.size := ⟨Ne.symm nel.b3, Ne.symm nee.b3, (by k_extra "nes"), (by k_extra "nes"), (by k_extra "nes"), (by k_extra "nes"), (by k_extra "nes"), (by k_extra "nes")⟩
      have zq0 : pvs.size = n := K0.zq
      have hn9 : n < 100 := by omega
      have hn' : Hold (n = 2 ∨ n = 4) := hn
      clear hn
      k_steps
      unfold Hold
      rename Fr _ _ _ _ => F1
      rename News _ _ _ _ => N1
      rename IsRange _ _ _ _ _ _ _ _ => R1
      refine iter_rangeJ (n := n) ["low", "high", "middle", "left", "right", "new", "places"] (JCut la ea pl oa s1.heap.objs.size c4 c3 c2 c1 nw aw n) rfl R1 (small_one (by decide) (by decide) (by omega) (by omega)) (by rw [rangeSize_nat]; omega) F1 N1 ⟨0, pa, plv, npl, evs, ne, ovs, no, lks, nl, pvs, np, nw, rfl, rfl, K0, Nat.le_refl _, fun p hp => hp, dis0, dise, disl, nep⟩ (fun i t u1 h1 tk1 I1 oI1 news1 lt1 hi J1 off1 cI1 F2 N2 => ?_) (fun u1 h1 tk1 news1 J1 F2 N2 => ?_)
      · (try k_fold)
        obtain ⟨c, pa1, plv1, npl1, evs1, ne1, ovs1, no1, lks1, nl1, pvs1, np1, nw1, rfl, hpl, K1, hc, sub1, ⟨f1, f2, f3, f4, f5, f6, f7⟩, f8, f9, nep1⟩ := J1
        obtain ⟨lo, hh, l, x, y, uu, ww, p, q, key, ta1, tb1, a1, a2, a3, a4, a5, a6, a7, a8, a9, a10, a11, a12, a13⟩ := (K1.un i (Nat.le_refl _) hi)
        obtain ⟨nsg, msg⟩ := a2.ex
        obtain ⟨tx1, ty1, q1⟩ := a3.ex
        obtain ⟨tx2, ty2, q2⟩ := a4.ex
        have b0 : @Ne Nat la I1 := off1 _ (.head _)
        have b1 : @Ne Nat ea I1 := off1 _ (.tail _ (.head _))
        have b2 : @Ne Nat pl I1 := off1 _ (.tail _ (.tail _ (.head _)))
        have b3 : @Ne Nat oa I1 := off1 _ (.tail _ (.tail _ (.tail _ (.head _))))
        have b4 : @Ne Nat pa1 I1 := off1 _ (.tail _ (.tail _ (.tail _ (.tail _ (.head _)))))
        have b5 : @Ne Nat (s1.heap.objs.size+1+1+1+1) I1 := off1 _ (.tail _ (.tail _ (.tail _ (.tail _ (.tail _ (.head _))))))
        have b6 : @Ne Nat (s1.heap.objs.size+1+1+1) I1 := off1 _ (.tail _ (.tail _ (.tail _ (.tail _ (.tail _ (.tail _ (.head _)))))))
        have b7 : @Ne Nat (s1.heap.objs.size+1+1) I1 := off1 _ (.tail _ (.tail _ (.tail _ (.tail _ (.tail _ (.tail _ (.tail _ (.head _))))))))
        have b8 : @Ne Nat (s1.heap.objs.size+1) I1 := off1 _ (.tail _ (.tail _ (.tail _ (.tail _ (.tail _ (.tail _ (.tail _ (.tail _ (.head _)))))))))
        have b9 : ∀ p ∈ nw1, p.1 ≠ I1 := fun p hp => off1 _ (.tail _ (.tail _ (.tail _ (.tail _ (.tail _ (.tail _ (.tail _ (.tail _ (.tail _ hp)))))))))
        obtain ⟨y0, y1, y2, y3, y4, y5, y6, y7⟩ := nep1
        obtain ⟨v0, v1', v2', v3', v4', v5', v6', w1, w2, w3, w4, w5, w6⟩ := nes
        simp only [Int.zero_add] at F2
        dsimp only [pre9] at N2
        replace F2 := fr_know1 (x := "places") F2 hpl
        have a1' := a1
        rw [← Int.toNat_natCast i] at a1
        have a10' : ovs1[(2 * (i : Int)).toNat]? = some (.int (rt n i : Nat) ta1) := by rw [show (2 * (i : Int)).toNat = 2 * i by omega]; exact a10
        have mmo1 := sub1 _ mmo
        have r2 := rt_lt (n := n) (k := i) (by omega)
        have ze := K1.ze
        have zo := K1.zo
        have zp := K1.zp
        have zl := K1.zl
        have zq := K1.zq
        have gb := a5.b
        obtain ⟨ia, ib, ic, id, ie, if', ig, ih, ii, ij, ik, il, im⟩ := gsz hi hn9 hc r2 ze zo zp zl zq
        have off2 := off1
        clear F1 N1 R1 lt1 off1 dis0 dise disl nee nel nep
        obtain ⟨xa, xb, xc, xd, xe, xf, xg, xh, xi⟩ := Ne2.mk' l1 (Nat.lt_trans l2 l3)
        refine wpAny_execs_cons (if_fr F2 N2 ?_ (fun h3 tk3 F3 N3 => ?_) (fun h3 tk3 F3 N3 => ?_))
        · clear a1 a10' a1' b0 b1 b2 b3 b4 b5 b6 b7 b8 y0 y1 y2 y3 y4 y5 y6 y7 v0 v1' v2' v3' v4' v5' v6' w1 w2 w3 w4 w5 w6 gb
          k_steps
          all_goals exact ⟨_, _, rfl, by k_asm, by k_asm⟩
        · clear F2 N2
          have hMk : Hold True := trivial
          k_steps
          · rename News _ _ _ _ => NN
            refine' cut_close (L := s1.heap.objs.size) (by k_asm) NN ?huG ?hmG K1 hi (by omega) hc sub1 ⟨f1, f2, f3, f4, f5, f6, f7⟩ f8 f9 b9 ?DPG mmo1 a1' a3 a4 a5 a6 a7 a8 a9 a12 a13 ?iiG ?eaG ?ebG ?w1G ?w2G ?w3G ?w4G ?w5G ?mxG ?myG ⟨b0, b1, b2, b3, b5, b6, b7, b8⟩ ?oldG ?chG
            case huG => rfl
            case hmG => ktm_same
            case DPG => kd_adr
            case iiG => omega
            case eaG => omega
            case ebG => omega
            case w1G => rfl
            case w2G => rfl
            case w3G => omega
            case w4G => omega
            case w5G => omega
            case mxG => exact Int.fdiv_eq_ediv_of_nonneg _ (by decide)
            case myG => exact Int.fdiv_eq_ediv_of_nonneg _ (by decide)
            case oldG =>
              clear b0 b1 b2 b3 b4 b5 b6 b7 b8 y0 y1 y2 y3 y4 y5 y6 y7 v0 v1' v2' v3' v4' v5' v6' w1 w2 w3 w4 w5 w6 gb
              refine ⟨?_, ?_, ?_, ?_, ?_, ?_⟩ <;> k_extra "lts"
            case chG =>
              clear b0 b1 b2 b3 b4 b5 b6 b7 b8 y0 y1 y2 y3 y4 y5 y6 y7 v0 v1' v2' v3' v4' v5' v6' w1 w2 w3 w4 w5 w6 gb
              refine ⟨?_, ?_, ?_, ?_, ?_, ?_, ?_, ?_, ?_, ?_, ?_, ?_, ?_⟩ <;> k_extra "lts"
            all_goals first | exact (0 : Nat) | exact tf
          all_goals exact c1
        · k_steps
          exact turnJ_next (L := s1.heap.objs.size) (news' := pre9 la ea pl oa pa1 s1.heap.objs.size _ _ _ _ _ c4 c3 c2 c1 nw1) (by k_asm) (by assumption) (fun p hp => off2 p hp) ⟨c, pa1, plv1, npl1, evs1, ne1, ovs1, no1, lks1, nl1, pvs1, np1, nw1, rfl, rfl, K1.next, by omega, sub1, ⟨f1, f2, f3, f4, f5, f6, f7⟩, f8, f9, ⟨y0, y1, y2, y3, y4, y5, y6, y7⟩⟩ (by ktm_same)
      · (try k_fold)
        obtain ⟨c, pa1, plv1, npl1, evs1, ne1, ovs1, no1, lks1, nl1, pvs1, np1, nw1, rfl, hpl, K1, hc, sub1, dis1, f8, f9, nep1⟩ := J1
        k_steps
        exact NextInv.mk' ⟨_, _, _, nw1, c1, c2, c3, c4, aw, pl, pvs1, np1, n, oa, ovs1, no1, pa1, plv1, npl1, tm, ea, evs1, ne1, la, lks1, nl1, ka, kvs, nk, c, rfl, F2, N2, d2, d3, rfl, rfl, hpl, rfl, rfl, K1, hc, sub1 _ mka, zk, fun i hi => by obtain ⟨key, a, b⟩ := hks i hi; exact ⟨key, a, b.sub sub1⟩, dis1, f8, f9, nes, nep1, l1, Nat.lt_trans l2 l3, hn'⟩
  clear F N d1 d2 d3 d4 e1 e2 e3 e4 e5 e6 K0 mka zk hks dis0 dise disl nee nel l1 l2 l3 hn mmo
  intro s' hs
  obtain ⟨h, tk, m, nw, c1, c2, c3, c4, aw, pl, pvs, np, n, oa, ovs, no, pa, plv, npl, tm, ea, evs, ne, la, lks, nl, ka, kvs, nk, c, rfl, F, N, d2, d3, e2, e3, e4, e5, e6, K0, hc, mka, zk, hks, ⟨g1, g2, g3, g4, g5, g6, g7⟩, dise, disl, nes, nep, l1, l2, hn⟩ := hs
  replace F := fr_know [("pieces", .ref pl), ("many", .int (2 * (n : Int)) tm), ("places", .ref pa), ("keys", .ref ka), ("lines", .ref la)] F (by simp only [List.forall_mem_cons]; exact ⟨e2, e3, e4, e5, e6, fun p hp => nomatch hp⟩)
  dsimp only [know] at F
  dsimp only [pre9] at N
  dsimp only [List.drop]
  · as_aux_lemma =>
      have ze := K0.ze
      have hMk : Hold True := trivial
      have hn9 : n < 100 := by omega
      have hn' : Hold (n = 2 ∨ n = 4) := hn
      clear hn
      k_steps
      unfold Hold
      rename Fr _ _ _ _ => F1
      rename News _ _ _ _ => N1
      rename IsRange _ _ _ _ _ _ _ _ => R1
      refine LCg.CompSrc.range (n := 2 * c) (by rfl) F1 N1 R1 (small_one (by omega) (by omega) (by omega) (by omega)) (by unfold Builtin.Range.rangeSize; omega) (by rw [sizeLine_eq]; omega) ?_
      intro g9
      refine compRest_inv (JObj9 la ea pl oa pa s1.heap.objs.size (listOf lks nl) (listOf evs ne) (listOf pvs np) (listOf ovs no) (listOf plv npl) c4 c3 c2 c1 nw (fun l e p => IsQK l p ea oa (2 * (n : Int) + (e : Int)))) ⟨nw, rfl, fun p hp => hp, ⟨g1, g2, g3, g4, g5, g6, g7⟩, dise, disl, fun e he => absurd he (Nat.not_lt_zero _)⟩ ?_ ?_
      · intro i ys nws hi hys Z0 v I1 oI1 C1 oC1 D1 m2 h2 tk2 E2 Z1 hC2 hx2 F2 N2 off2 ne2
        (try k_fold)
        obtain ⟨nw1, rfl, sub1, ⟨f1, f2, f3, f4, f5, f6, f7⟩, f8, f9, old1⟩ := Z0
        obtain ⟨t, rfl⟩ := Z1
        have off3 := off2
        simp only [LCg.Off3] at off2
        have o00 := off2.1; have o0 := off2.2.1; have o1 := off2.2.2.1; have o2 := off2.2.2.2.1; have o3 := off2.2.2.2.2.1; have o4 := off2.2.2.2.2.2.1; have o5 := off2.2.2.2.2.2.2.1; have o6 := off2.2.2.2.2.2.2.2.1; have o7 := off2.2.2.2.2.2.2.2.2.1; have o8 := off2.2.2.2.2.2.2.2.2.2
        clear F1 N1
        k_steps
        unfold Hold
        rename News _ _ _ _ => NN
        clear o00 o0 o1 o2 o3 o4 o5 o6 o7 o8 ne2
        refine' obj_close9 NN (by k_asm) off3 hys sub1 ⟨f1, f2, f3, f4, f5, f6, f7⟩ f8 f9 old1 (fun l q e p h => h.cons) ⟨_, _, _, _, _, _, _, _, .head _, .tail _ (.head _)⟩ trivial ?ltH ?lqH
        case ltH => refine ⟨?_, ?_, ?_, ?_, ?_, ?_, ?_, ?_, ?_⟩ <;> k_extra "lts"
        case lqH => k_extra "lts"
        all_goals exact c1
      · intro ys nws hys Z0 kb h9 tk9 F9 N9 o9
        (try k_fold)
        obtain ⟨nw1, rfl, sub1, dis1, f8, f9, kys⟩ := Z0
        simp only [LCg.Off1] at o9
        have o00 := o9.1; have o0 := o9.2.1; have o1 := o9.2.2.1; have o2 := o9.2.2.2.1; have o3 := o9.2.2.2.2.1; have o4 := o9.2.2.2.2.2.1; have o5 := o9.2.2.2.2.2.2.1; have o6 := o9.2.2.2.2.2.2.2.1; have o7 := o9.2.2.2.2.2.2.2.2.1; have o8 := o9.2.2.2.2.2.2.2.2.2
        clear F1 N1 R1
        have mka1 := sub1 _ mka
        have zys : ys.toArray.size = 2 * c := by simpa using hys
        k_steps
        unfold Hold
        rename Fr _ _ _ _ => F1
        rename News _ _ _ _ => N1
        dsimp only [pre9] at N1
        have K1 := K0.sub sub1
        have hQ := qrel_at N1 (K1.qrel (kvs := kvs ++ ys.toArray) (fun p hp => .tail _ (.tail _ (.tail _ (.tail _ (.tail _ (.tail _ (.tail _ (.tail _ (.tail _ (.tail _ (.tail _ hp))))))))))) (by k_mem) (by k_mem) (.head _) (by k_mem) (by rw [Array.size_append, zk, zys]) (by omega) (by omega) (keys_app sub1 zk hks kys))
        have hL := lrel_at N1 (K1.lrel (fun p hp => .tail _ (.tail _ (.tail _ (.tail _ (.tail _ (.tail _ (.tail _ (.tail _ (.tail _ (.tail _ (.tail _ hp))))))))))) (by k_mem) (by k_mem) (by k_mem) (by k_mem) (by omega) (by omega))
        k_steps
end Mine
theorem PySem.Challenge.cw_jb0001_01_holds : PySem.Challenge.rw_jb0001_01.Holds := by
  exact Mine.hx
