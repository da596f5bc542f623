import PyProof.Rows.All
import Wide.All
import OpenK.AllK
import Wide.FinOn
import KE.KSortTup
import KE.KSuper
import KE.KFromBytes
import PyProof.WalksPairs
import PyProof.GenCompD
import PyProof.SumAny
import PyProof.IsiH_list
import PyProof.Rows.Catch
import PyProof.Rows.StrFin3
import PyProof.CallStr
import PyProof.ListNew
import PyProof.InstSpecial
import KE.KSlice
import PyProof.Rows.StrLast
import PyProof.Rows.StrPins
import PyProof.Rows.StrStrike
import PyProof.Rows.RuleB_mul
import KE.KRevSl
import PyProof.Rows.BitMore
import Lean
import PySem.Challenge.RW_il0075_01
set_option Elab.async false
set_option maxRecDepth 100000
set_option maxHeartbeats 0
set_option linter.all false
set_option genSizeOf false
set_option genSizeOfSpec false
set_option genInjectivity false
open List (range length_map mem_cons mem_singleton map_cons getElem?_eq_getElem length_append mem_range mem_map map_append map_map length_cons getD_eq_getElem?_getD getElem?_map lookup_cons length_range not_mem_nil all_cons mem_cons_of_mem cons_append mem_append sum_cons range_succ length_nil nil_append length_singleton singleton_append forIn_cons nodup_range nodup_append foldl_cons)
open Option (bind_some bind_eq_some_iff map_eq_some_iff isSome_iff_exists map_some)
open PySem.Heap (lt_size get?_push_of_some get?_push_size SameBut get?_update_self get?_update_other size_push ExtBut)
open Nat (ne_of_lt le_refl le_trans zero_le eq_zero_or_pos le_succ lt_succ_of_lt)
open Array (length_toList getElem?_toList)
open Bool (false_eq_true and_eq_true or_eq_true)
namespace Mine
open PySem.Str (ofString)
open PySem PySem.W PyProof.Rows
theorem e0:Manifest.find? = Manifest.find?:=rfl
name_quick tw13016732220969518872 for Manifest.find? by e0
name_quick tw15263041282635125899 for Manifest.find? by e0
name_quick tw17069979004554194336 for Manifest.find? by e0
name_quick tw2719445374943340272 for Manifest.find? by e0
name_quick tw12866136484021002089 for Manifest.find? by e0
name_quick tw9285146279643344392 for Manifest.find? by e0
name_quick tw662354867322794072 for Manifest.find? by e0
name_quick tw7276740287692124622 for Manifest.find? by e0
name_quick tw9948023125614773506 for Manifest.find? by e0
name_quick tw6434138532213402376 for Manifest.find? by e0
name_quick tw17532440430192770315 for Manifest.find? by e0
name_quick tw5349121933718820234 for Manifest.find? by e0
name_quick tw11939915149646268982 for Manifest.find? by e0
name_quick tw6448080314894763839 for Manifest.find? by e0
name_quick tw6004533443673955352 for Manifest.find? by e0
name_quick tw14126943448341045398 for Manifest.find? by e0
name_quick tw3577408171920636059 for Manifest.find? by e0
name_quick tw2039238271031011813 for Manifest.find? by e0
name_quick tw15766043655864335149 for Manifest.find? by e0
name_quick tw4775785305629353868 for Manifest.find? by e0
name_quick tw17476080006546285661 for Manifest.find? by e0
name_quick tw4011157648589011858 for Manifest.find? by e0
name_quick tw14537914154153760125 for Manifest.find? by e0
name_quick tw3766158894648301139 for Manifest.find? by e0
name_quick tw3976722010076183465 for Manifest.find? by e0
name_quick tw17828083071136270317 for Manifest.find? by e0
name_quick tw10205541121877940668 for Manifest.find? by e0
name_quick tw7275051467321613617 for Manifest.find? by e0
name_quick tw12635297910168745909 for Manifest.find? by e0
name_quick tw9458956999447867950 for Manifest.find? by e0
name_quick tw2664551874359636763 for Manifest.find? by e0
name_quick tw470574548607681690 for Manifest.find? by e0
name_quick tw392140993173905013 for Manifest.find? by e0
name_quick tw4658958612460137192 for Manifest.find? by e0
name_quick tw282004115355043989 for Manifest.find? by e0
name_quick tw9136488742655976645 for Manifest.find? by e0
name_quick tw13057501360547312074 for Manifest.find? by e0
name_quick tw3094477031063562474 for Manifest.find? by e0
name_quick tw12329403913580668285 for Manifest.find? by e0
name_quick tw9594665118957945026 for Manifest.find? by e0
name_quick tw14553827428707814869 for Manifest.find? by e0
name_quick tw16979880578912567463 for Manifest.find? by e0
name_quick tw14168537005229113720 for Manifest.find? by e0
name_quick tw15066959818950650227 for Manifest.find? by e0
name_quick tw18211773271919218964 for Manifest.find? by e0
name_quick tw4090926877573551719 for Manifest.find? by e0
name_quick tw6679490504615227074 for Manifest.find? by e0
name_quick tw12233582284571471492 for Manifest.find? by e0
name_quick tw18340240734955500558 for Manifest.find? by e0
name_quick tw387338674003428930 for Manifest.find? by e0
name_quick tw13036272033356848781 for Manifest.find? by e0
name_quick tw7323676302269181137 for Manifest.find? by e0
name_quick tw11566699232636054958 for Manifest.find? by e0
name_quick tw6245536207120538393 for Manifest.find? by e0
name_quick tw4558998842232669794 for Manifest.find? by e0
name_quick tw5721027456603625697 for Manifest.find? by e0
name_quick tw15168306246750427876 for Manifest.find? by e0
name_quick tw5111356299099525756 for Manifest.find? by e0
name_quick tw17057272898397164401 for Manifest.find? by e0
name_quick tw8595292554425487202 for Manifest.find? by e0
name_quick tw14433975572909055671 for Manifest.find? by e0
name_quick tw16752143609539240740 for Manifest.find? by e0
name_quick tw10706342367453228570 for Manifest.find? by e0
name_quick tw17888162413812561239 for Manifest.find? by e0
name_quick tw2408619945344806742 for Manifest.find? by e0
name_quick tw16145008321745377990 for Manifest.find? by e0
name_quick tw16817318245366136608 for Manifest.find? by e0
name_quick tw14974156573754707785 for Manifest.find? by e0
name_quick tw10948738476641704880 for Manifest.find? by e0
name_quick tw13789449189825218787 for Manifest.find? by e0
name_quick tw13335737130258781183 for Manifest.find? by e0
name_quick tw8424611434330503625 for Manifest.find? by e0
name_quick tw3856783459128436802 for Manifest.find? by e0
name_quick tw13317431791736044220 for Manifest.find? by e0
name_quick tw6122645084068987007 for Manifest.find? by e0
name_quick tw17100903815162463580 for Manifest.find? by e0
name_quick tw4071324889030633612 for Manifest.find? by e0
name_quick tw1962928258387122110 for Manifest.find? by e0
name_quick tw3619232141914619222 for Manifest.find? by e0
name_quick tw8376441433122354887 for Manifest.find? by e0
name_quick tw3105397867545767578 for Manifest.find? by e0
name_quick tw18101931140130867144 for Manifest.find? by e0
name_quick tw11420187438672877268 for Manifest.find? by e0
name_quick tw1414301608579184545 for Manifest.find? by e0
name_quick tw16643379632663270332 for Manifest.find? by e0
name_quick tw9529234661008812162 for Manifest.find? by e0
name_quick tw5529568453561195837 for Manifest.find? by e0
name_quick tw43969757491396457 for Manifest.find? by e0
name_quick tw10323183001455561277 for Manifest.find? by e0
name_quick tw5902227825499142635 for Manifest.find? by e0
name_quick tw16643706677886111943 for Manifest.find? by e0
name_quick tw16241802466949684156 for Manifest.find? by e0
name_quick tw12635813782599140982 for Manifest.find? by e0
name_quick tw11588390666370768167 for Manifest.find? by e0
name_quick tw11625766737575182897 for Manifest.find? by e0
name_quick tw9862997608875712007 for Manifest.find? by e0
name_quick tw682011567655089306 for Manifest.find? by e0
name_quick tw15490439104401381959 for Manifest.find? by e0
name_quick tw9763268239775435451 for Manifest.find? by e0
name_quick tw4679858250743294509 for Manifest.find? by e0
name_quick tw6683783046931543321 for Manifest.find? by e0
name_quick tw8075568018651887793 for Manifest.find? by e0
name_quick tw6380047634161181297 for Manifest.find? by e0
name_quick tw15663404670287596823 for Manifest.find? by e0
name_quick tw12945451867199242903 for Manifest.find? by e0
name_quick tw9787463984185863102 for Manifest.find? by e0
name_quick tw4527066259768149269 for Manifest.find? by e0
name_quick tw900395245841561262 for Manifest.find? by e0
name_quick tw6792406925840432001 for Manifest.find? by e0
name_quick tw7250012664060256230 for Manifest.find? by e0
name_quick tw1218959903707654005 for Manifest.find? by e0
name_quick tw11985326045990495214 for Manifest.find? by e0
name_quick tw11378322030455005005 for Manifest.find? by e0
name_quick tw3636048126100218174 for Manifest.find? by e0
name_quick tw9011979029575296479 for Manifest.find? by e0
name_quick tw932993149863042379 for Manifest.find? by e0
name_quick tw6575432550422911311 for Manifest.find? by e0
name_quick tw136631920214876835 for Manifest.find? by e0
name_quick tw18056578402003937789 for Manifest.find? by e0
name_quick tw5396446701170858492 for Manifest.find? by e0
name_quick tw10029231156530900338 for Manifest.find? by e0
name_quick tw9880502203812102094 for Manifest.find? by e0
name_quick tw704327219915372674 for Manifest.find? by e0
name_quick tw16439824349840649037 for Manifest.find? by e0
name_quick tw17000458434675057986 for Manifest.find? by e0
name_quick tw11452132507678324671 for Manifest.find? by e0
name_quick tw15007238320947547705 for Manifest.find? by e0
name_quick tw4292500188555128830 for Manifest.find? by e0
name_quick tw1617757218408452269 for Manifest.find? by e0
name_quick tw1829445100760108279 for Manifest.find? by e0
name_quick tw5706481520468235054 for Manifest.find? by e0
name_quick tw10227693086864044499 for Manifest.find? by e0
name_quick tw3891137856419664920 for Manifest.find? by e0
name_quick tw13215998728584607739 for Manifest.find? by e0
name_quick tw7496433998918960881 for Manifest.find? by e0
name_quick tw1333364371103165705 for Manifest.find? by e0
name_quick tw8727135674562949291 for Manifest.find? by e0
name_quick tw2611137233208623240 for Manifest.find? by e0
name_quick tw8098380416015320538 for Manifest.find? by e0
name_quick tw6929956602132211858 for Manifest.find? by e0
name_quick tw17279654841073493023 for Manifest.find? by e0
name_quick tw2478078296215019888 for Manifest.find? by e0
name_quick tw5268983451555188008 for Manifest.find? by e0
name_quick tw7392212959928792091 for Manifest.find? by e0
name_quick tw18416463498863911781 for Manifest.find? by e0
name_quick tw219737044198020058 for Manifest.find? by e0
name_quick tw13559156169165276386 for Manifest.find? by e0
name_quick tw14896874001708588922 for Manifest.find? by e0
name_quick tw11543547407058413889 for Manifest.find? by e0
name_quick tw10996506086634736982 for Manifest.find? by e0
name_quick tw7299303143086499733 for Manifest.find? by e0
name_quick tw12290603225136948437 for Manifest.find? by e0
name_quick tw8860024209350480642 for Manifest.find? by e0
name_quick tw18220123701641295943 for Manifest.find? by e0
name_quick tw11277716924127702174 for Manifest.find? by e0
name_quick tw7650934615059315214 for Manifest.find? by e0
name_quick tw17730428716208468724 for Manifest.find? by e0
name_quick tw15323854079317868165 for Manifest.find? by e0
name_quick tw9564595351457756722 for Manifest.find? by e0
name_quick tw2660918139993853925 for Manifest.find? by e0
name_quick tw10528696920762540405 for Manifest.find? by e0
name_quick tw17954471519018878134 for Manifest.find? by e0
name_quick tw1355338860687761863 for Manifest.find? by e0
name_quick tw183835017167291270 for Manifest.find? by e0
name_quick tw6019396324639902685 for Manifest.find? by e0
name_quick tw1702518465993881591 for Manifest.find? by e0
name_quick tw7232422423428716515 for Manifest.find? by e0
name_quick tw13678640442995254988 for Manifest.find? by e0
name_quick tw6550987210724342151 for Manifest.find? by e0
name_quick tw9908251947323293946 for Manifest.find? by e0
name_quick tw8206430501311747189 for Manifest.find? by e0
name_quick tw14073706353221006472 for Manifest.find? by e0
name_quick tw2670528217467546775 for Manifest.find? by e0
name_quick tw1402947280878808549 for Manifest.find? by e0
name_quick tw14955999705561699407 for Manifest.find? by e0
name_quick tw14714103240675001986 for Manifest.find? by e0
name_quick tw16350708796919097252 for Manifest.find? by e0
name_quick tw11161088081135249708 for Manifest.find? by e0
name_quick tw8753696776887207221 for Manifest.find? by e0
name_quick tw15980859228951719591 for Manifest.find? by e0
name_quick tw16531745337717519161 for Manifest.find? by e0
name_quick tw9315938663221665524 for Manifest.find? by e0
name_quick tw17999629351026575895 for Manifest.find? by e0
name_quick tw14386061602966655976 for Manifest.find? by e0
name_quick tw17696380409005109617 for Manifest.find? by e0
name_quick tw14821650378409806113 for Manifest.find? by e0
name_quick tw4039474712603431140 for Manifest.find? by e0
name_quick tw5596329374482053843 for Manifest.find? by e0
name_quick tw4933834842325187142 for Manifest.find? by e0
name_quick tw13890744642731562755 for Manifest.find? by e0
name_quick tw16349804527192203551 for Manifest.find? by e0
name_quick tw11317593695737139937 for Manifest.find? by e0
name_quick tw6589095468515690095 for Manifest.find? by e0
name_quick tw347637069881736656 for Manifest.find? by e0
name_quick tw11636919720809706868 for Manifest.find? by e0
name_quick tw11462045893675790159 for Manifest.find? by e0
name_quick tw4549333791460862111 for Manifest.find? by e0
name_quick tw17730448691065144110 for Manifest.find? by e0
name_quick tw13180171748994924942 for Manifest.find? by e0
name_quick tw17164873540382356111 for Manifest.find? by e0
name_quick tw16548257151911338427 for Manifest.find? by e0
name_quick tw912392155897948271 for Manifest.find? by e0
name_quick tw1258717718454355964 for Manifest.find? by e0
name_quick tw14884601019740666482 for Manifest.find? by e0
name_quick tw4294528693025177343 for Manifest.find? by e0
name_quick tw13374210024742059513 for Manifest.find? by e0
name_quick tw8537084889766193716 for Manifest.find? by e0
name_quick tw17964007177503468958 for Manifest.find? by e0
name_quick tw951843321253372498 for Manifest.find? by e0
name_quick tw16966814322356759819 for Manifest.find? by e0
name_quick tw12172078356533094185 for Manifest.find? by e0
name_quick tw9467589175468403638 for Manifest.find? by e0
name_quick tw12813236842856870187 for Manifest.find? by e0
name_quick tw2905824091091238844 for Manifest.find? by e0
name_quick tw13759679279233594173 for Manifest.find? by e0
name_quick tw13607416678640721797 for Manifest.find? by e0
name_quick tw4797165386629745026 for Manifest.find? by e0
name_quick tw5882768191206486792 for Manifest.find? by e0
name_quick tw5770868932273138760 for Manifest.find? by e0
name_quick tw1620339239838986703 for Manifest.find? by e0
name_quick tw16741492637210864865 for Manifest.find? by e0
name_quick tw13981391230805400906 for Manifest.find? by e0
name_quick tw12659028871203227004 for Manifest.find? by e0
name_quick tw7745614565497352828 for Manifest.find? by e0
name_quick tw117213463901210413 for Manifest.find? by e0
name_quick tw3778451253796500701 for Manifest.find? by e0
name_quick tw4978915544186085027 for Manifest.find? by e0
name_quick tw16846860572762119324 for Manifest.find? by e0
name_quick tw17018628822417861297 for Manifest.find? by e0
name_quick tw4075660801711882420 for Manifest.find? by e0
name_quick tw9759809726879904816 for Manifest.find? by e0
name_quick tw16414604833108395602 for Manifest.find? by e0
name_quick tw7269565832213808900 for Manifest.find? by e0
name_quick tw1092655722715705105 for Manifest.find? by e0
name_quick tw15127236385964016447 for Manifest.find? by e0
name_quick tw8603108125212654177 for Manifest.find? by e0
name_quick tw14834023430324568649 for Manifest.find? by e0
name_quick tw17988542015724977305 for Manifest.find? by e0
name_quick tw12237943961548833269 for Manifest.find? by e0
name_quick tw18350330562280901221 for Manifest.find? by e0
name_quick tw12268644228514654432 for Manifest.find? by e0
name_quick tw8119918657739134586 for Manifest.find? by e0
name_quick tw14979626087600564940 for Manifest.find? by e0
name_quick tw17672482021469178181 for Manifest.find? by e0
name_quick tw1258299570235058372 for Manifest.find? by e0
name_quick tw4748654258956052638 for Manifest.find? by e0
name_quick tw13254397897704925713 for Manifest.find? by e0
name_quick tw7401281599722004195 for Manifest.find? by e0
name_quick tw6817277305950994716 for Manifest.find? by e0
name_quick tw13141144453892091621 for Manifest.find? by e0
name_quick tw5357591511691535388 for Manifest.find? by e0
name_quick tw4302124980754421698 for Manifest.find? by e0
name_quick tw2661695276494613449 for Manifest.find? by e0
name_quick tw2627984346626558326 for Manifest.find? by e0
name_quick tw14108194823987119177 for Manifest.find? by e0
name_quick tw1537898542681612871 for Manifest.find? by e0
name_quick tw3131671291697673992 for Manifest.find? by e0
name_quick tw17552769576498331613 for Manifest.find? by e0
name_quick tw9501820088010722379 for Manifest.find? by e0
name_quick tw13912434898499826684 for Manifest.find? by e0
name_quick tw13512673800721320934 for Manifest.find? by e0
name_quick tw3362959441861295915 for Manifest.find? by e0
name_quick tw14530364306720264245 for Manifest.find? by e0
name_quick tw16296994325663420285 for Manifest.find? by e0
name_quick tw151948405760981731 for Manifest.find? by e0
name_quick tw10424941004445345732 for Manifest.find? by e0
name_quick tw3282434896037501709 for Manifest.find? by e0
name_quick tw15919542637913265678 for Manifest.find? by e0
name_quick tw17846936440860909165 for Manifest.find? by e0
name_quick tw14333388528381170442 for Manifest.find? by e0
name_quick tw1503297043503765363 for Manifest.find? by e0
name_quick tw9951705424602377420 for Manifest.find? by e0
name_quick tw2862820112641550484 for Manifest.find? by e0
name_quick tw14023627001141898710 for Manifest.find? by e0
name_quick tw11729385059970357855 for Manifest.find? by e0
name_quick tw3442601649717412197 for Manifest.find? by e0
name_quick tw1377046205977697930 for Manifest.find? by e0
name_quick tw5076957145309523181 for Manifest.find? by e0
name_quick tw15189097556100943862 for Manifest.find? by e0
name_quick tw10833955939284561965 for Manifest.find? by e0
name_quick tw11333186260410459676 for Manifest.find? by e0
name_quick tw13640514254501968386 for Manifest.find? by e0
name_quick tw15894407043143930727 for Manifest.find? by e0
name_quick tw3560238982266916124 for Manifest.find? by e0
name_quick tw11130039905162102590 for Manifest.find? by e0
name_quick tw11306939235166856333 for Manifest.find? by e0
name_quick tw8703263022893421829 for Manifest.find? by e0
name_quick tw3152983702415266003 for Manifest.find? by e0
name_quick tw11270796479367742343 for Manifest.find? by e0
name_quick tw8579058602437062094 for Manifest.find? by e0
name_quick tw15475462885187679331 for Manifest.find? by e0
name_quick tw8693227569615203950 for Manifest.find? by e0
name_quick tw10942035263794033107 for Manifest.find? by e0
name_quick tw13236226663087606529 for Manifest.find? by e0
name_quick tw11186114360453789277 for Manifest.find? by e0
name_quick tw460243522976405022 for Manifest.find? by e0
name_quick tw17497748084772794779 for Manifest.find? by e0
name_quick tw15560500314895047343 for Manifest.find? by e0
name_quick tw2283851925072248500 for Manifest.find? by e0
name_quick tw11788150170368784547 for Manifest.find? by e0
name_quick tw3093977132361051618 for Manifest.find? by e0
name_quick tw5189142188285759775 for Manifest.find? by e0
name_quick tw10007627690174824804 for Manifest.find? by e0
name_quick tw16590896929057906003 for Manifest.find? by e0
name_quick tw5135500740108067664 for Manifest.find? by e0
name_quick tw4980102563643897964 for Manifest.find? by e0
name_quick tw16916688483869632129 for Manifest.find? by e0
name_quick tw3698559305507148144 for Manifest.find? by e0
name_quick tw17111948838632640456 for Manifest.find? by e0
name_quick tw9407582987413476825 for Manifest.find? by e0
name_quick tw15450981722951097364 for Manifest.find? by e0
local macro_rules | `(tactic| k_head)=>`(tactic| x_head)
open_top hd for PySem.Challenge.rw_il0075_01
end Mine
namespace Mine
open PySem.Str (ofString)
open PySem PySem.Calls PySem.Spec PyProof.Rows PySem.W PySem.W.X
abbrev PG:Program:=PySem.Challenge.pw_il0075_01
abbrev PStr:=PySem.Str
noncomputable def isTab (b:Addr):Bool:=b == 62 || b == 69
noncomputable def KT (P:Params):Frag:=(hd.heap_39 P).filter fun p=>!isTab p.1
theorem lv {α:Type} {x:Option α} {o:α} (h:x=some o):x.isSome=true:=by rw [h]; rfl
theorem nos {α:Type} {x:Option α} {o:α} {P:Prop} (h:x=Option.none) (e:x=some o):P:=by rw [h] at e; cases e
theorem nol {α:Type} {x:Option α} {P:Prop} (h:x=Option.none) (e:x.isSome=true):P:=by rw [h] at e; cases e
theorem ton {α:Type} {x:Option α} (h:∀ o,x=some o→False):x=Option.none:=by
 cases e:x with
 | none=>rfl
 | some o=>exact (h o e).elim
theorem unlv {α:Type} {x:Option α} (h:¬ x.isSome=true):x=Option.none:=ton fun _ e=>h (lv e)
theorem uniq {α:Type} {x:Option α} {a b:α} (h:x=some a) (e:x=some b):a=b:=Option.some.inj (h.symm.trans e)
theorem no {α:Type} {o:α} {P:Prop} (h:Option.none=some o):P:=nos rfl h
theorem bno {b:Bool} {P:Prop} (h:b=false) (e:b=true):P:=by rw [h] at e; cases e
theorem tof {b:Bool} (h:b=true→False):b=false:=by
 cases e:b with
 | false=>rfl
 | true=>exact (h e).elim
theorem iteS {α:Type} {c:Prop} [Decidable c] {x:Option α} {b:α} (h:(if c then x else Option.none)=some b):c∧x=some b:=by
 by_cases e:c
 ·rw [if_pos e] at h; exact ⟨e,h⟩
 ·rw [if_neg e] at h; exact no h
theorem zG0 {α:Type} {c:Prop} [Decidable c] {a b:α} (h:(if c then some a else Option.none)=some b):c∧a=b:=⟨(iteS h).1,Option.some.inj (iteS h).2⟩
theorem refI {a b:Addr} (e:Value.ref a = .ref b):a=b:=Value.ref.inj e
theorem zB1 {α β:Type} {x:Option α} {f:α→Option β} {b:β} {P:Prop} (h:x.bind f=some b) (k:∀ a,x=some a→f a=some b→P):P:=by
 obtain ⟨a,e,h⟩:=bind_eq_some_iff.mp h; exact k a e h
theorem mapE {α β:Type} {x:Option α} {f:α→β} {b:β} {P:Prop} (h:x.map f=some b) (k:∀ a,x=some a→f a=b→P):P:=by
 obtain ⟨a,e,h⟩:=map_eq_some_iff.mp h; exact k a e h
inductive PV where
 | none
 | bool (b:Bool)
 | int (i:Int)
 | str (x:PStr)
 | tup (xs:List PV)
 | list (xs:List PV)
 | dict (ks:List PStr) (vs:List PV)
 | rng (lo hi st:Int)
 | bset (b:Bool)
 | dlist (ks:List PStr)
 | dref (ks:List PStr) (bs:List Nat)
noncomputable def PV.sel {β:Type} (p:PV) (i:Int→Option β) (s:PStr→Option β) (t l:List PV→Option β):Option β :=
 PV.casesOn p Option.none (fun _=>Option.none) i s t l (fun _ _=>Option.none) (fun _ _ _=>Option.none) (fun _=>Option.none) (fun _=>Option.none) (fun _ _=>Option.none)
theorem PV.sel_inv {β:Type} {p:PV} {i:Int→Option β} {s:PStr→Option β} {t l:List PV→Option β} {q:β} {P:Prop} (h:p.sel i s t l=some q) (k1:∀ x,p = .int x→i x=some q→P) (k2:∀ x,p = .str x→s x=some q→P) (k3:∀ xs,p = .tup xs→t xs=some q→P) (k4:∀ xs,p = .list xs→l xs=some q→P):P:=by
 cases p with
 | int x=>exact k1 x rfl h
 | str x=>exact k2 x rfl h
 | tup xs=>exact k3 xs rfl h
 | list xs=>exact k4 xs rfl h
 | _=>exact no h
noncomputable def PV.sel2 {β:Type} (p:PV) (d:List PStr→List PV→Option β) (b:Bool→Option β) (dl:List PStr→Option β) (dr:List PStr→List Nat→Option β):Option β :=
 PV.casesOn p Option.none (fun _=>Option.none) (fun _=>Option.none) (fun _=>Option.none) (fun _=>Option.none) (fun _=>Option.none) d (fun _ _ _=>Option.none) b dl dr
theorem PV.sel2_inv {β:Type} {p:PV} {d:List PStr→List PV→Option β} {b:Bool→Option β} {dl:List PStr→Option β} {dr:List PStr→List Nat→Option β} {q:β} {P:Prop} (h:p.sel2 d b dl dr=some q) (k1:∀ ks xs,p = .dict ks xs→d ks xs=some q→P) (k2:∀ x,p = .bset x→b x=some q→P) (k3:∀ ks,p = .dlist ks→dl ks=some q→P) (k4:∀ ks bs,p = .dref ks bs→dr ks bs=some q→P):P:=by
 cases p with
 | dict ks xs=>exact k1 ks xs rfl h
 | bset x=>exact k2 x rfl h
 | dlist ks=>exact k3 ks rfl h
 | dref ks bs=>exact k4 ks bs rfl h
 | _=>exact no h
noncomputable def PV.toInt (p:PV):Option Int:=p.sel some (fun _=>Option.none) (fun _=>Option.none) (fun _=>Option.none)
noncomputable def PV.toStr (p:PV):Option PStr:=p.sel (fun _=>Option.none) some (fun _=>Option.none) (fun _=>Option.none)
noncomputable def PV.toLst (p:PV):Option (List PV):=p.sel (fun _=>Option.none) (fun _=>Option.none) (fun _=>Option.none) some
theorem PV.toInt_inv {p:PV} {i:Int} (h:p.toInt=some i):p = .int i:=PV.sel_inv h (fun x e h=>e.trans (congrArg _ (Option.some.inj h))) (fun _ _ h=>no h) (fun _ _ h=>no h) (fun _ _ h=>no h)
theorem PV.toStr_inv {p:PV} {i:PStr} (h:p.toStr=some i):p = .str i:=PV.sel_inv h (fun _ _ h=>no h) (fun x e h=>e.trans (congrArg _ (Option.some.inj h))) (fun _ _ h=>no h) (fun _ _ h=>no h)
theorem PV.toLst_inv {p:PV} {i:List PV} (h:p.toLst=some i):p = .list i:=PV.sel_inv h (fun _ _ h=>no h) (fun _ _ h=>no h) (fun _ _ h=>no h) (fun x e h=>e.trans (congrArg _ (Option.some.inj h)))
noncomputable def ii2 {β:Type} (f:Int→Int→Option β) (a b:PV):Option β:=a.toInt.bind fun x=>b.toInt.bind fun y=>f x y
theorem ii2_inv {β:Type} {f:Int→Int→Option β} {a b:PV} {q:β} {P:Prop} (h:ii2 f a b=some q) (k:∀ x y,a = .int x→b = .int y→f x y=some q→P):P :=
 zB1 h fun x e h=>zB1 h fun y e' h=>k x y (PV.toInt_inv e) (PV.toInt_inv e') h
noncomputable def ss2 {β:Type} (f:PStr→PStr→Option β) (a b:PV):Option β:=a.toStr.bind fun x=>b.toStr.bind fun y=>f x y
theorem ss2_inv {β:Type} {f:PStr→PStr→Option β} {a b:PV} {q:β} {P:Prop} (h:ss2 f a b=some q) (k:∀ x y,a = .str x→b = .str y→f x y=some q→P):P :=
 zB1 h fun x e h=>zB1 h fun y e' h=>k x y (PV.toStr_inv e) (PV.toStr_inv e') h
noncomputable def args {β:Type} (f1:PV→Option β) (f2:PV→PV→Option β) (f3:PV→PV→PV→Option β) (ps:List PV):Option β :=
 List.casesOn ps Option.none fun a r=>List.casesOn r (f1 a) fun b r=>List.casesOn r (f2 a b) fun c r=>List.casesOn r (f3 a b c) fun _ _=>Option.none
theorem args_inv {β:Type} {f1:PV→Option β} {f2:PV→PV→Option β} {f3:PV→PV→PV→Option β} {ps:List PV} {q:β} {P:Prop} (h:args f1 f2 f3 ps=some q) (k1:∀ a,ps=[a]→f1 a=some q→P) (k2:∀ a b,ps=[a,b]→f2 a b=some q→P) (k3:∀ a b c,ps=[a,b,c]→f3 a b c=some q→P):P:=by
 cases ps with
 | nil=>exact no h
 | cons a r=>cases r with
  | nil=>exact k1 a rfl h
  | cons b r=>cases r with
   | nil=>exact k2 a b rfl h
   | cons c r=>cases r with
    | nil=>exact k3 a b c rfl h
    | cons d r=>exact no h
noncomputable def args1 {β:Type} (f:PV→Option β):List PV→Option β:=args f (fun _ _=>Option.none) (fun _ _ _=>Option.none)
noncomputable def args2 {β:Type} (f:PV→PV→Option β):List PV→Option β:=args (fun _=>Option.none) f (fun _ _ _=>Option.none)
theorem zD6 {β:Type} {f:PV→Option β} {ps:List PV} {q:β} {P:Prop} (h:args1 f ps=some q) (k:∀ a,ps=[a]→f a=some q→P):P:=args_inv h k (fun _ _ _ h=>no h) fun _ _ _ _ h=>no h
theorem zO2 {β:Type} {f:PV→PV→Option β} {ps:List PV} {q:β} {P:Prop} (h:args2 f ps=some q) (k:∀ a b,ps=[a,b]→f a b=some q→P):P:=args_inv h (fun _ _ h=>no h) k fun _ _ _ _ h=>no h
structure Cx where
 w:World
 h₁:Heap
 d:Drawn
 os:OsState
 mg:PStr→Option Value
 mb:PStr→Option Value
 bt:∀ x:PStr,x≠ofString "__name__"→mb x=bootBuiltins x
 tab62:∃ ps,h₁.TableAt 66 62 ps
 tab69:∃ ps,h₁.TableAt 73 69 ps
abbrev WP (C:Cx) (A:Around) {α:Type} (t:Sem α) (Q:α→Shared→Prop) (s:Shared):Prop:=wpAny (model PG C.w) A t Q (fun _ _=>False) s
abbrev Fz:=Addr→Option Obj
noncomputable def Fz.le (F G:Fz):Prop:=∀ b o,F b=some o→G b=some o
noncomputable def Fz.sub (F:Fz) (h:Heap):Prop:=∀ b o,F b=some o→h.get? b=some o
noncomputable def Fz.ext (F:Fz) (s s':Shared):Fz:=fun b=>if (s.heap.get? b).isSome then F b else s'.heap.get? b
theorem Fz.le.refl (F:Fz):F.le F:=fun _ _ e=>e
theorem Fz.le.trans {F G H:Fz} (a:F.le G) (b:G.le H):F.le H:=fun x o e=>b x o (a x o e)
noncomputable def setTab (led b:Bool):SetTable:={ mask:=7,place:=if b then #[1] else #[],dummies:=#[],finger:=0,led:=led,moves:=0,plain:=true }
noncomputable def setObj (led b:Bool):Obj:={ cls:=.type "set",dict:=Option.none,data:=.set (if b then #[(1,.bool true)] else #[]) (if b then 1 else 0) (setTab led b) }
noncomputable def ledOf (w:World):Bool:=!w.params.followText "set-order"
noncomputable def KeyAre (w:World):List PStr→List DictEntry→Prop
 | [],[]=>True
 | k :: ks,e :: es=>(e.hash=hashStr w k∧∃ t,e.key = .str k t)∧KeyAre w ks es
 | _,_=>False
inductive SqAt (F:Fz) (T:String) (R:List Value→Prop) (v:Value):Prop
 | mk (a:Addr) (vs:Array Value) (n:Nat):v = .ref a→F a=some { cls:=.type T,data:=.seq vs n }→R vs.toList→SqAt F T R v
inductive DcAt (w:World) (F:Fz) (ks:List PStr) (R:List Value→Prop) (v:Value):Prop
 | mk (a:Addr) (es:Array DictEntry) (n:Nat):v = .ref a→F a=some { cls:=.type "dict",data:=.dict es n }→KeyAre w ks es.toList→R (es.toList.map (·.val))→DcAt w F ks R v
inductive DsAt (w:World) (F:Fz) (ks:List PStr) (v:Value):Prop
 | mk (a:Addr) (es:Array DictEntry) (n:Nat) (bs:List Addr):v = .ref a→F a=some { cls:=.type "dict",data:=.dict es n }→KeyAre w ks es.toList→es.toList.map (·.val)=bs.map Value.ref→bs.Nodup→(∀ b∈bs,∃ m,F b=some { cls:=.type "list",data:=.seq #[] m })→DsAt w F ks v
inductive RgAt (F:Fz) (lo hi st:Int) (v:Value):Prop
 | mk (a:Addr) (t u z:Tok):v = .ref a→F a=some { cls:=.type "range",dict:=Option.none,data:=.fields #[.int lo t,.int hi u,.int st z],slots:=#[] }→RgAt F lo hi st v
inductive CnsAt (R:Value→Prop) (S:List Value→Prop) (vs:List Value):Prop
 | mk (v:Value) (r:List Value):vs=v :: r→R v→S r→CnsAt R S vs
mutual
noncomputable def Rep (w:World) (F:Fz):PV→Value→Prop
 | .none,v=>v = .none
 | .bool b,v=>v = .bool b
 | .int i,v=>∃ t,v = .int i t
 | .str x,v=>∃ t,v = .str x t
 | .tup xs,v=>SqAt F "tuple" (RepL w F xs) v
 | .list xs,v=>SqAt F "list" (RepL w F xs) v
 | .dict ks xs,v=>DcAt w F ks (RepL w F xs) v
 | .rng lo hi st,v=>RgAt F lo hi st v
 | .bset b,v=>∃ a,v = .ref a∧F a=some (setObj (ledOf w) b)
 | .dlist ks,v=>DsAt w F ks v
 | .dref ks bs,v=>DcAt w F ks (· = bs.map Value.ref) v
noncomputable def RepL (w:World) (F:Fz):List PV→List Value→Prop
 | [],vs=>vs=[]
 | x :: xs,vs=>CnsAt (Rep w F x) (RepL w F xs) vs
end
mutual
theorem Rep.mono {w:World} {F G:Fz} (h:F.le G):∀ {p:PV} {v:Value},Rep w F p v→Rep w G p v
 | .none,_,r=>r
 | .bool _,_,r=>r
 | .int _,_,r=>r
 | .str _,_,r=>r
 | .tup _,_,r=>by
  unfold Rep at r ⊢
  obtain ⟨a,vs,n,e,f,l⟩:=r
  exact ⟨a,vs,n,e,h _ _ f,RepL.mono h l⟩
 | .list _,_,r=>by
  unfold Rep at r ⊢
  obtain ⟨a,vs,n,e,f,l⟩:=r
  exact ⟨a,vs,n,e,h _ _ f,RepL.mono h l⟩
 | .dict _ _,_,r=>by
  unfold Rep at r ⊢
  obtain ⟨a,es,n,e,f,k,l⟩:=r
  exact ⟨a,es,n,e,h _ _ f,k,RepL.mono h l⟩
 | .rng _ _ _,_,r=>by
  unfold Rep at r ⊢
  obtain ⟨a,t,u,z,e,f⟩:=r
  exact ⟨a,t,u,z,e,h _ _ f⟩
 | .bset _,_,r=>by
  unfold Rep at r ⊢
  obtain ⟨a,e,f⟩:=r
  exact ⟨a,e,h _ _ f⟩
 | .dlist _,_,r=>by
  unfold Rep at r ⊢
  obtain ⟨a,es,n,bs,e,f,k,g,nd,hb⟩:=r
  exact ⟨a,es,n,bs,e,h _ _ f,k,g,nd,fun b hm=>let ⟨m,x⟩:=hb b hm; ⟨m,h _ _ x⟩⟩
 | .dref _ _,_,r=>by
  unfold Rep at r ⊢
  obtain ⟨a,es,n,e,f,k,g⟩:=r
  exact ⟨a,es,n,e,h _ _ f,k,g⟩
theorem RepL.mono {w:World} {F G:Fz} (h:F.le G):∀ {xs:List PV} {vs:List Value},RepL w F xs vs→RepL w G xs vs
 | [],_,r=>by unfold RepL at r ⊢; exact r
 | x :: xs,_,r=>by
  unfold RepL at r ⊢
  obtain ⟨v,t,e,a,b⟩:=r
  exact ⟨v,t,e,Rep.mono h a,RepL.mono h b⟩
end
noncomputable def TabSt (b:Addr) (line col:Nat) (s:Shared):Prop :=
 ∃ ps,s.heap.get? b=some (tableObj ps)∧(ps = #[] ∨ ∃ c,ps = #[rawInt line,rawInt col,.ref c])
structure Inv (C:Cx) (s:Shared):Prop where
 old:OldK C.h₁ s.heap
 K:(KT C.w.params).In s.heap
 t62:TabSt 62 24 19 s
 t69:TabSt 69 27 32 s
 g:s.heap.Ns mainGlobals C.mg
 b:s.heap.Ns builtinsNs C.mb
 lim:s.heap.NoLimit
 gens:AllBare s.gens
 drawn:s.drawn=C.d
 os:s.os=C.os
structure Ext (s s':Shared):Prop where
 keep:∀ b o,s.heap.get? b=some o→isTab b=false→s'.heap.get? b=some o
 live:∀ b,(s.heap.get? b).isSome=true→(s'.heap.get? b).isSome=true
theorem Ext.refl (s:Shared):Ext s s:=⟨fun _ _ e _=>e,fun _ e=>e⟩
theorem Ext.trans {s s' s'':Shared} (a:Ext s s') (b:Ext s' s''):Ext s s'' :=
 ⟨fun x o e t=>b.keep x o (a.keep x o e t) t,fun x e=>b.live x (a.live x e)⟩
theorem Ext.of_keep {s s':Shared} (h:∀ b o,s.heap.get? b=some o→s'.heap.get? b=some o):Ext s s' :=
 ⟨fun b o e _=>h b o e,fun b e=>by obtain ⟨o,e⟩:=isSome_iff_exists.mp e; exact lv (h b o e)⟩
theorem Inv.of_keep {C:Cx} {s s':Shared} (I:Inv C s) (h:∀ b o,s.heap.get? b=some o→s'.heap.get? b=some o) (hg:AllBare s'.gens) (hd:s'.drawn=s.drawn) (ho:s'.os=s.os):Inv C s' where
 old:=I.old.step_keeps h
 K:=fun a o e=>h a o (I.K a o e)
 t62:=let ⟨ps,e,r⟩:=I.t62; ⟨ps,h _ _ e,r⟩
 t69:=let ⟨ps,e,r⟩:=I.t69; ⟨ps,h _ _ e,r⟩
 g:=I.g.keeps h
 b:=I.b.keeps h
 lim:=I.lim.keeps h
 gens:=hg
 drawn:=hd.trans I.drawn
 os:=ho.trans I.os
theorem Inv.tabLive {C:Cx} {s:Shared} (I:Inv C s) {b:Addr} (h:isTab b=true):(s.heap.get? b).isSome=true:=by
 unfold isTab at h
 rcases Bool.or_eq_true_iff.mp h with e | e <;> have e:=beq_iff_eq.mp e <;> subst e
 ·obtain ⟨ps,e,_⟩:=I.t62; exact lv e
 ·obtain ⟨ps,e,_⟩:=I.t69; exact lv e
theorem Inv.toks {C:Cx} {s:Shared} (I:Inv C s) (n:Nat):Inv C { s with toks:=n }:=I.of_keep (fun _ _ e=>e) I.gens rfl rfl
theorem Inv.noTab {C:Cx} {s:Shared} (I:Inv C s) {b:Addr} (h:s.heap.get? b=Option.none):isTab b=false:=tof fun e=>nol h (I.tabLive e)
theorem Fz.ext_old {F:Fz} {s s':Shared} {b:Addr} (h:(s.heap.get? b).isSome=true):F.ext s s' b=F b:=if_pos h
theorem Fz.ext_out {F:Fz} {s s':Shared} {b:Addr} (h:¬ (s.heap.get? b).isSome=true):F.ext s s' b=s'.heap.get? b:=if_neg h
theorem Fz.le_ext {F:Fz} {s s':Shared} (hs:F.sub s.heap):F.le (F.ext s s'):=fun b o e=>(Fz.ext_old (lv (hs b o e))).trans e
theorem Fz.ext_sub {F:Fz} {s s':Shared} (hs:F.sub s'.heap):(F.ext s s').sub s'.heap:=fun b o e=>by
 by_cases h:(s.heap.get? b).isSome=true
 ·exact hs b o ((Fz.ext_old h).symm.trans e)
 ·exact (Fz.ext_out h).symm.trans e
noncomputable def Fz.offTab (F:Fz):Prop:=∀ b,isTab b=true→F b=Option.none
theorem Fz.sub_step {F:Fz} {s s':Shared} (hs:F.sub s.heap) (hT:F.offTab) (X:Ext s s'):F.sub s'.heap:=fun b o e =>
 X.keep b o (hs b o e) (tof fun q=>nos (hT b q) e)
theorem Fz.offTab_ext {C:Cx} {F:Fz} {s s':Shared} (hT:F.offTab) (I:Inv C s):(F.ext s s').offTab:=fun b h=>(Fz.ext_old (I.tabLive h)).trans (hT b h)
theorem Fz.ext_ext {C:Cx} {F:Fz} {s s' s'':Shared} (I:Inv C s) (X:Ext s s') (Y:Ext s' s''):((F.ext s s').ext s' s'').le (F.ext s s''):=fun b o e=>by
 by_cases h:(s.heap.get? b).isSome=true
 ·exact (Fz.ext_old h).trans ((Fz.ext_old h).symm.trans ((Fz.ext_old (X.live b h)).symm.trans e))
 ·refine (Fz.ext_out h).trans ?_
  by_cases h':(s'.heap.get? b).isSome=true
  ·exact Y.keep b o ((Fz.ext_out h).symm.trans ((Fz.ext_old h').symm.trans e)) (I.noTab (unlv h))
  ·exact (Fz.ext_out h').symm.trans e
structure EnvOK (sc:Scope) (env:Env):Prop where
 scope:env.scope=sc
 kind:sc.kind = .function
 glob:env.globals=mainGlobals
 bt:env.builtins=builtinsNs
 chas:∀ x,env.kindOf x=some .cell→∃ c,env.cells.lookup x=some c
noncomputable def gname (b:Addr):PStr:=⟨#[0,b]⟩
inductive Bd (env:Env) (h:Heap) (x:PStr) (v:Value):Prop
 | loc (m:PStr→Option Value):env.kindOf x=some .local→h.Ns env.locals m→m x=some v→Bd env h x v
 | cell (c:Addr) (o:Obj):env.kindOf x=some .cell→env.cells.lookup x=some c→h.get? c=some o→o.data = .cell (some v)→Bd env h x v
 | ghost (b:Addr):x=gname b→env.kindOf x=Option.none→v = .ref b→Bd env h x v
inductive Loc where
 | fz (p:PV)
 | ow (p:PV)
 | acc (start:Int) (items:List (PStr × PStr))
abbrev Lc:=List (PStr × Loc)
inductive ListO (w:World) (F:Fz) (xs:List PV) (o:Obj):Prop
 | mk (vs:Array Value) (n:Nat):o={ cls:=.type "list",data:=.seq vs n }→RepL w F xs vs.toList→ListO w F xs o
inductive DictO (w:World) (F:Fz) (ks:List PStr) (xs:List PV) (o:Obj):Prop
 | mk (es:Array DictEntry) (n:Nat):o={ cls:=.type "dict",data:=.dict es n }→KeyAre w ks es.toList→RepL w F xs (es.toList.map (·.val))→DictO w F ks xs o
inductive DlsO (w:World) (F:Fz) (ks:List PStr) (o:Obj):Prop
 | mk (es:Array DictEntry) (n:Nat):o={ cls:=.type "dict",data:=.dict es n }→KeyAre w ks es.toList→(bs:List Addr)→es.toList.map (·.val)=bs.map Value.ref→bs.Nodup→(∀ b∈bs,∃ m,F b=some { cls:=.type "list",data:=.seq #[] m })→DlsO w F ks o
noncomputable def ObjRep (w:World) (F:Fz) (o:Obj):PV→Prop
 | .list xs=>ListO w F xs o
 | .dict ks xs=>DictO w F ks xs o
 | .bset b=>o=setObj (ledOf w) b
 | .dlist ks=>DlsO w F ks o
 | _=>False
noncomputable def Loc.own:Loc→Bool
 | .fz _=>false
 | .ow _=>true
 | .acc _ _=>true
inductive AccRep (w:World) (F:Fz) (h:Heap) (a:Addr) (start:Int) (items:List (PStr × PStr)):Prop
 | mk (dx:Addr) (vs:Array Value) (n:Nat) (t k:Tok):h.get? a=some { cls:=.ref 100,dict:=some dx,data:=.seq vs n } →
  F dx=some { cls:=.type "dict",data:=.dict #[⟨PyData.keyHash w.params (ofString "_initial_size"),.str (ofString "_initial_size") k,.int start t⟩] 1 } →
  F a=Option.none→RepL w F (items.map fun p=>PV.tup [.str p.1,.str p.2]) vs.toList→AccRep w F h a start items
inductive OwAt (w:World) (F:Fz) (h:Heap) (v:Value) (p:PV):Prop
 | mk (a:Addr) (o:Obj):v = .ref a→F a=Option.none→h.get? a=some o→ObjRep w F o p→OwAt w F h v p
inductive AccOf (w:World) (F:Fz) (h:Heap) (v:Value) (st:Int) (its:List (PStr × PStr)):Prop
 | mk (a:Addr):v = .ref a→AccRep w F h a st its→AccOf w F h v st its
noncomputable def LocRep (w:World) (F:Fz) (h:Heap) (v:Value):Loc→Prop
 | .fz p=>Rep w F p v
 | .ow p=>OwAt w F h v p
 | .acc st its=>AccOf w F h v st its
noncomputable def look (l:Lc) (x:PStr):Option Loc:=l.lookup x
structure Room (k:Nat) (A:Around):Prop where
 handled:A.handled=Option.none
 depth:A.depth + 10 * k≤900
 units:A.units + 100 * k≤9000
structure XS (C:Cx) (sc:Scope) (env:Env) (F:Fz) (l:Lc) (s:Shared):Prop where
 ok:EnvOK sc env
 inv:Inv C s
 sub:F.sub s.heap
 off:F.offTab
 loc:∀ x q,look l x=some q→(env.kindOf x=some .local ∨ env.kindOf x=some .cell)→∃ v,Bd env s.heap x v∧LocRep C.w F s.heap v q
structure Post (C:Cx) (F:Fz) (s:Shared) (p:PV) (v:Value) (s':Shared):Prop where
 ext:Ext s s'
 inv:Inv C s'
 rep:Rep C.w (F.ext s s') p v
noncomputable def SoundE (k:Nat) (sc:Scope) (e:Expr) (f:Lc→Option PV):Prop :=
 ∀ (C:Cx) (A:Around) (env:Env) (F:Fz) (l:Lc) (s:Shared) (p:PV),Room k A→XS C sc env F l s→f l=some p→WP C A (eval e env) (Post C F s p) s
theorem Inv.tabObj {C:Cx} {s:Shared} (I:Inv C s) {b:Addr} {o:Obj} (e:s.heap.get? b=some o) (h:isTab b=true):∃ ps,o=tableObj ps:=by
 unfold isTab at h
 rcases Bool.or_eq_true_iff.mp h with q | q <;> have q:=beq_iff_eq.mp q <;> subst q
 ·obtain ⟨ps,e',_⟩:=I.t62; exact ⟨ps,Option.some.inj (e.symm.trans e')⟩
 ·obtain ⟨ps,e',_⟩:=I.t69; exact ⟨ps,Option.some.inj (e.symm.trans e')⟩
theorem Inv.offTab {C:Cx} {s:Shared} (I:Inv C s) {b:Addr} {o:Obj} (e:s.heap.get? b=some o) (h:∀ ps,o≠tableObj ps):isTab b=false :=
 tof fun q=>(I.tabObj e q).elim h
theorem Ext.kept {C:Cx} {s s':Shared} (X:Ext s s') (I:Inv C s) {b:Addr} {o:Obj} (e:s.heap.get? b=some o) (h:∀ ps,o≠tableObj ps):s'.heap.get? b=some o :=
 X.keep b o e (I.offTab e h)
theorem zI5 {o:Obj} {es:Array DictEntry} {n:Nat} (h:o.data = .dict es n) (ps:Array Value):o≠tableObj ps:=fun q=>by subst q; cases h
theorem cell_tab {o:Obj} {v:Option Value} (h:o.data = .cell v) (ps:Array Value):o≠tableObj ps:=fun q=>by subst q; cases h
theorem zJ2 {o:Obj} {vs:Array Value} {n:Nat} (h:o.data = .seq vs n) (ps:Array Value):o≠tableObj ps:=fun q=>by subst q; cases h
theorem ns_kept {C:Cx} {s s':Shared} (X:Ext s s') (I:Inv C s) {a:Addr} {m:PStr→Option Value} (n:s.heap.Ns a m):s'.heap.Ns a m :=
 by obtain ⟨o,es,ep,ho,hd,r⟩:=n; exact ⟨o,es,ep,X.kept I ho (zI5 hd),hd,r⟩
theorem cell_kept {C:Cx} {s s':Shared} (X:Ext s s') (I:Inv C s) {a:Addr} {v:Option Value} (n:s.heap.IsCell a v):s'.heap.IsCell a v :=
 by obtain ⟨o,ho,hd⟩:=n; exact ⟨o,X.kept I ho (cell_tab hd),hd⟩
theorem ns_lv {h:Heap} {a:Addr} {m:PStr→Option Value} (n:h.Ns a m):(h.get? a).isSome=true:=by obtain ⟨o,es,ep,ho,_⟩:=n; exact lv ho
theorem cell_lv {h:Heap} {a:Addr} {v:Option Value} (n:h.IsCell a v):(h.get? a).isSome=true:=by obtain ⟨o,ho,_⟩:=n; exact lv ho
theorem Bd.mv {env:Env} {h h':Heap} {x:PStr} {v:Value} (b:Bd env h x v) (hl:∀ o,h.get? env.locals=some o→h'.get? env.locals=some o) (hc:∀ c o,env.cells.lookup x=some c→h.get? c=some o→h'.get? c=some o):Bd env h' x v:=by
 cases b with
 | loc m k n e=>exact .loc m k (n.at hl) e
 | cell c o k l g d=>exact .cell c o k l (hc c o l g) d
 | ghost b e k g=>exact .ghost b e k g
theorem Bd.step {C:Cx} {env:Env} {s s':Shared} {x:PStr} {v:Value} (I:Inv C s) (X:Ext s s') (h:Bd env s.heap x v):Bd env s'.heap x v:=by
 cases h with
 | loc m k n e=>exact .loc m k (ns_kept X I n) e
 | cell c o k l g d=>exact .cell c o k l (X.kept I g (cell_tab d)) d
 | ghost b e k g=>exact .ghost b e k g
theorem ObjRep.tab {w:World} {F:Fz} {o:Obj} {p:PV} (r:ObjRep w F o p):∀ ps,o≠tableObj ps:=by
 cases p with
 | list xs=>obtain ⟨vs,n,e,_⟩:=r; rw [e]; exact zJ2 rfl
 | dict ks xs=>obtain ⟨es,n,e,_⟩:=r; rw [e]; exact zI5 rfl
 | bset b=>intro ps q; have q:=(show o=_ from r).symm.trans q; cases q
 | dlist ks=>obtain ⟨es,n,e,_⟩:=r; rw [e]; exact zI5 rfl
 | _=>exact r.elim
theorem ObjRep.mono {w:World} {F G:Fz} {o:Obj} {p:PV} (h:F.le G) (r:ObjRep w F o p):ObjRep w G o p:=by
 cases p with
 | list xs=>obtain ⟨vs,n,e,l⟩:=r; exact ⟨vs,n,e,RepL.mono h l⟩
 | dict ks xs=>obtain ⟨es,n,e,k,l⟩:=r; exact ⟨es,n,e,k,RepL.mono h l⟩
 | bset b=>exact r
 | dlist ks=>obtain ⟨es,n,e,k,bs,g,nd,hb⟩:=r; exact ⟨es,n,e,k,bs,g,nd,fun b hm=>let ⟨m,x⟩:=hb b hm; ⟨m,h _ _ x⟩⟩
 | _=>exact r.elim
theorem ObjRep.rep {w:World} {F:Fz} {a:Addr} {o:Obj} {p:PV} (r:ObjRep w F o p) (h:F a=some o):Rep w F p (.ref a):=by
 cases p with
 | list xs=>obtain ⟨vs,n,rfl,l⟩:=r; unfold Rep; exact ⟨a,vs,n,rfl,h,l⟩
 | dict ks xs=>obtain ⟨es,n,rfl,k,l⟩:=r; unfold Rep; exact ⟨a,es,n,rfl,h,k,l⟩
 | bset b=>have r:o=_:=r; subst r; unfold Rep; exact ⟨a,rfl,h⟩
 | dlist ks=>obtain ⟨es,n,rfl,k,bs,g,nd,hb⟩:=r; unfold Rep; exact ⟨a,es,n,bs,rfl,h,k,g,nd,hb⟩
 | _=>exact r.elim
theorem LocRep.mv {w:World} {F F':Fz} {h h':Heap} {v:Value} {q:Loc} (r:LocRep w F h v q) (hle:F.le F') (hk:q.own=true→∀ a o,v = .ref a→h.get? a=some o→(∀ ps,o≠tableObj ps)→h'.get? a=some o)
  (hf:q.own=true→∀ a,v = .ref a→F a=Option.none→(h.get? a).isSome=true→F' a=Option.none):LocRep w F' h' v q:=by
 cases q with
 | fz p=>exact Rep.mono hle r
 | ow p=>obtain ⟨a,o,e,fa,ho,r⟩:=r; exact ⟨a,o,e,hf rfl a e fa (lv ho),hk rfl a o e ho r.tab,r.mono hle⟩
 | acc st its=>obtain ⟨a,e,dx,vs,n,t,k,ha,hd,fa,r⟩:=r; exact ⟨a,e,dx,vs,n,t,k,hk rfl a _ e ha (zJ2 rfl),hle _ _ hd,hf rfl a e fa (lv ha),RepL.mono hle r⟩
theorem LocRep.step {C:Cx} {w:World} {F:Fz} {s s':Shared} {v:Value} {q:Loc} (I:Inv C s) (X:Ext s s') (hs:F.sub s.heap) (h:LocRep w F s.heap v q):LocRep w (F.ext s s') s'.heap v q :=
 h.mv (Fz.le_ext hs) (fun _ _ _ _ e n=>X.kept I e n) fun _ _ _ f l=>(Fz.ext_old l).trans f
theorem XS.step {C:Cx} {sc:Scope} {env:Env} {F:Fz} {l:Lc} {s s':Shared} (S:XS C sc env F l s) (X:Ext s s') (I:Inv C s'):XS C sc env (F.ext s s') l s' where
 ok:=S.ok
 inv:=I
 sub:=Fz.ext_sub (Fz.sub_step S.sub S.off X)
 off:=Fz.offTab_ext S.off S.inv
 loc:=fun x q h k=>let ⟨v,b,r⟩:=S.loc x q h k; ⟨v,b.step S.inv X,r.step S.inv X S.sub⟩
theorem Post.lift {C:Cx} {F:Fz} {s s₁ s₂:Shared} {p:PV} {v:Value} (I:Inv C s) (X:Ext s s₁) (h:Post C (F.ext s s₁) s₁ p v s₂):Post C F s p v s₂ :=
 ⟨X.trans h.1,h.2,Rep.mono (Fz.ext_ext I X h.1) h.3⟩
theorem Post.here {C:Cx} {F:Fz} {s:Shared} {p:PV} {v:Value} (I:Inv C s) (hs:F.sub s.heap) (h:Rep C.w F p v):Post C F s p v s:=⟨.refl s,I,Rep.mono (Fz.le_ext hs) h⟩
theorem zB9 {w:World} {F:Fz} {i:Int} {v:Value} (h:Rep w F (.int i) v):∃ t,v = .int i t:=by unfold Rep at h; exact h
theorem zB6 {w:World} {F:Fz} {x:PStr} {v:Value} (h:Rep w F (.str x) v):∃ t,v = .str x t:=by unfold Rep at h; exact h
theorem rep_bool {w:World} {F:Fz} {b:Bool} {v:Value} (h:Rep w F (.bool b) v):v = .bool b:=by unfold Rep at h; exact h
theorem rep_none {w:World} {F:Fz} {v:Value} (h:Rep w F .none v):v = .none:=by unfold Rep at h; exact h
theorem mk_int {w:World} {F:Fz} {i:Int} {t:Tok}:Rep w F (.int i) (.int i t):=by unfold Rep; exact ⟨t,rfl⟩
theorem zJ6 {w:World} {F:Fz} {x:PStr} {t:Tok}:Rep w F (.str x) (.str x t):=by unfold Rep; exact ⟨t,rfl⟩
theorem zF9 {w:World} {F:Fz} {b:Bool}:Rep w F (.bool b) (.bool b):=by unfold Rep; rfl
theorem mk_none {w:World} {F:Fz}:Rep w F .none .none:=by unfold Rep; rfl
theorem Ext.toks (s:Shared) (n:Nat):Ext s { s with toks:=n }:=.of_keep fun _ _ e=>e
theorem Post.int {C:Cx} {F:Fz} {s:Shared} (I:Inv C s) {i:Int} {t:Tok} (n:Nat):Post C F s (.int i) (.int i t) { s with toks:=n }:=⟨.toks s n,I.toks n,mk_int⟩
theorem Post.str {C:Cx} {F:Fz} {s:Shared} (I:Inv C s) {x:PStr} {t:Tok} (n:Nat):Post C F s (.str x) (.str x t) { s with toks:=n }:=⟨.toks s n,I.toks n,zJ6⟩
theorem Post.bool {C:Cx} {F:Fz} {s:Shared} (I:Inv C s) {b:Bool} (n:Nat):Post C F s (.bool b) (.bool b) { s with toks:=n }:=⟨.toks s n,I.toks n,zF9⟩
theorem WP.mono {C:Cx} {A:Around} {α:Type} {t:Sem α} {Q R:α→Shared→Prop} {s:Shared} (h:WP C A t Q s) (hQ:∀ a s',Q a s'→R a s'):WP C A t R s :=
 wpAny_mono h hQ fun _ _ e=>e
theorem Room.le {j k:Nat} {A:Around} (R:Room k A) (h:j≤k):Room j A:=⟨R.handled,by have:=R.depth; lia,by have:=R.units; lia⟩
theorem Room.unit1 {k:Nat} {A:Around} (R:Room k A):A.in1.units < cLine:=by have:=R.units; rw [cLine_is,Around.in1_units]; lia
theorem Room.dep {k:Nat} {A:Around} (R:Room k A):A.depth < recursionLimit:=by have:=R.depth; show A.depth < 1000; lia
theorem SoundE.use {k:Nat} {sc:Scope} {e:Expr} {f:Lc→Option PV} (H:SoundE k sc e f) {C:Cx} {A:Around} {env:Env} {F:Fz} {l:Lc} {s:Shared} {p:PV} {Q:Value→Shared→Prop}
  (R:Room k A) (S:XS C sc env F l s) (h:f l=some p) (next:∀ v s₁,Ext s s₁→XS C sc env (F.ext s s₁) l s₁→Rep C.w (F.ext s s₁) p v→Q v s₁):WP C A (eval e env) Q s :=
 (H C A env F l s p R S h).mono fun v s₁ P=>next v s₁ P.1 (S.step P.1 P.2) P.3
noncomputable def cK (p:PV):Lc→Option PV:=fun _=>some p
theorem s_int {k:Nat} {sc:Scope} {i:Int} {n:Nat} {pos:Pos}:SoundE k sc (.Constant (.int i) n pos) (cK (.int i)):=by
 intro C A env F l s p R S h
 cases h
 exact wpAny_Constant_int (Post.int S.inv _)
theorem s_str {k:Nat} {sc:Scope} {x:PStr} {n:Nat} {pos:Pos}:SoundE k sc (.Constant (.str x) n pos) (cK (.str x)):=by
 intro C A env F l s p R S h
 cases h
 exact wpAny_Constant_str (Post.str S.inv _)
theorem zG1 {C:Cx} {A:Around} {sc:Scope} {env:Env} {s:Shared} {x:PStr} {v:Value} {Q:Value→Shared→Prop} (O:EnvOK sc env) (hx:sc.names.lookup x=some .local ∨ sc.names.lookup x=some .cell) (b:Bd env s.heap x v) (h:Q v s):WP C A (loadName env x) Q s:=by
 have hk:env.scope.kind = .function:=by rw [O.scope]; exact O.kind
 cases b with
 | loc m k n e=>exact wpAny_loadName_local hk k n e h
 | cell c o k l g d=>exact wpAny_loadName_cell hk k l ⟨o,g,d⟩ h
 | ghost a e k g =>
  have:env.kindOf x=sc.names.lookup x:=by unfold Env.kindOf; rw [O.scope]
  rw [← this,k] at hx
  rcases hx with q | q <;> exact no q
noncomputable def Loc.fzP (q:Loc):Option PV:=Loc.casesOn q some (fun _=>none) (fun _ _=>none)
noncomputable def Loc.val (q:Loc):Option PV:=Loc.casesOn q some some (fun _ _=>none)
noncomputable def Loc.owP (q:Loc):Option PV:=Loc.casesOn q (fun _=>none) some (fun _ _=>none)
theorem Loc.owP_inv {q:Loc} {p:PV} (h:q.owP=some p):q = .ow p:=by
 cases q with
 | ow q=>exact congrArg _ (Option.some.inj h)
 | _=>exact no h
noncomputable def cV (x:PStr):Lc→Option PV:=fun l=>(look l x).bind Loc.fzP
theorem cV_some {x:PStr} {l:Lc} {p:PV} (h:cV x l=some p):look l x=some (.fz p):=zB1 h fun q e h=>by
 cases q with
 | fz q=>exact e.trans (congrArg (fun q=>some (Loc.fz q)) (Option.some.inj h))
 | _=>exact no h
theorem zA3 {x:PStr} {l:Lc} {p:PV} (h:look l x=some (.fz p)):cV x l=some p:=by unfold cV; rw [h]; rfl
theorem EnvOK.kindOf {sc:Scope} {env:Env} (O:EnvOK sc env) (x:PStr):env.kindOf x=sc.names.lookup x:=by unfold Env.kindOf; rw [O.scope]
theorem s_var {k:Nat} {sc:Scope} {x:PStr} {pos:Pos} (hk:sc.names.lookup x=some .local ∨ sc.names.lookup x=some .cell) (hd:(x == ("__debug__":PySem.Str))=false):SoundE k sc (.Name x pos) (cV x):=by
 intro C A env F l s p R S h
 obtain ⟨v,b,r⟩:=S.loc x _ (cV_some h) (by rw [S.ok.kindOf]; exact hk)
 exact wpAny_Name (zG1 S.ok hk b (Post.here S.inv S.sub r)) hd
noncomputable def c2 (o:PV→PV→Option PV) (f g:Lc→Option PV):Lc→Option PV:=fun l=>(f l).bind fun a=>(g l).bind fun b=>o a b
theorem c2_some {o:PV→PV→Option PV} {f g:Lc→Option PV} {l:Lc} {p:PV} (h:c2 o f g l=some p):∃ a b,f l=some a∧g l=some b∧o a b=some p:=by
 unfold c2 at h
 obtain ⟨a,ha,h⟩:=bind_eq_some_iff.mp h
 obtain ⟨b,hb,h⟩:=bind_eq_some_iff.mp h
 exact ⟨a,b,ha,hb,h⟩
noncomputable def OpOK (k:Nat) (t:Value→Value→Sem Value) (o:PV→PV→Option PV):Prop :=
 ∀ (C:Cx) (A:Around) (F:Fz) (s:Shared) (a b p:PV) (va vb:Value),Room k A→Inv C s→F.sub s.heap→Rep C.w F a va→Rep C.w F b vb→o a b=some p→WP C A (t va vb) (Post C F s p) s
theorem s_bin {k:Nat} {sc:Scope} {el er:Expr} {op:Operator} {pos:Pos} {f g:Lc→Option PV} {o:PV→PV→Option PV} (H:OpOK k (binaryOp op) o) (hl:SoundE k sc el f) (hr:SoundE k sc er g) :
  SoundE k sc (.BinOp el op er pos) (c2 o f g):=by
 intro C A env F l s p R S h
 obtain ⟨a,b,ha,hb,ho⟩:=c2_some h
 refine wpAny_BinOp (hl.use R S ha fun va s₁ X₁ S₁ r₁=>hr.use R S₁ hb fun vb s₂ X₂ S₂ r₂=>?_)
 refine (H C A _ s₂ a b p va vb R S₂.inv S₂.sub (Rep.mono (Fz.le_ext S₁.sub) r₁) r₂ ho).mono fun v s₃ P=>?_
 exact Post.lift S.inv X₁ (Post.lift S₁.inv X₂ P)
theorem op_ii {k:Nat} {t:Value→Value→Sem Value} {f:Int→Int→Option PV} (H:∀ (C:Cx) (A:Around) (F:Fz) (s:Shared) (x y:Int) (p:PV) (u v:Tok),Room k A→Inv C s→F.sub s.heap→f x y=some p→WP C A (t (.int x u) (.int y v)) (Post C F s p) s):OpOK k t (ii2 f):=by
 intro C A F s a b p va vb R I hs ra rb h
 refine ii2_inv h fun x y e1 e2 h=>?_
 subst e1 e2
 obtain ⟨u,rfl⟩:=zB9 ra
 obtain ⟨v,rfl⟩:=zB9 rb
 exact H C A F s x y p u v R I hs h
noncomputable def addPV (a b:PV):Option PV:=a.sel (fun x=>b.toInt.bind fun y=>some (.int (x + y))) (fun x=>b.toStr.bind fun y=>if x.length + y.length≤sizeLine then some (.str (x ++ y)) else none) (fun _=>none)
 (fun xs=>b.toLst.bind fun ys=>if xs.length + ys.length≤sizeLine then some (.list (xs ++ ys)) else none)
theorem RepL.length {w:World} {F:Fz}:∀ {xs:List PV} {vs:List Value},RepL w F xs vs→vs.length=xs.length
 | [],_,h=>by unfold RepL at h; subst h; rfl
 | x :: xs,_,h=>by unfold RepL at h; obtain ⟨v,r,rfl,_,h⟩:=h; simp [RepL.length h]
theorem RepL.append {w:World} {F:Fz}:∀ {xs ys:List PV} {vs us:List Value},RepL w F xs vs→RepL w F ys us→RepL w F (xs ++ ys) (vs ++ us)
 | [],_,_,_,h,g=>by unfold RepL at h; subst h; exact g
 | x :: xs,_,_,_,h,g=>by
  unfold RepL at h; obtain ⟨v,r,rfl,a,h⟩:=h
  show RepL w F (x :: (xs ++ _)) (v :: (r ++ _))
  unfold RepL; exact ⟨v,_,rfl,a,RepL.append h g⟩
theorem RepL.nil {w:World} {F:Fz}:RepL w F [] []:=by unfold RepL; rfl
theorem RepL.cons {w:World} {F:Fz} {x:PV} {xs:List PV} {v:Value} {vs:List Value} (a:Rep w F x v) (h:RepL w F xs vs):RepL w F (x :: xs) (v :: vs):=by unfold RepL; exact ⟨v,vs,rfl,a,h⟩
theorem RepL.get {w:World} {F:Fz}:∀ {xs:List PV} {vs:List Value} {i:Nat} {x:PV},RepL w F xs vs→xs[i]? = some x→∃ v,vs[i]? = some v∧Rep w F x v
 | [],_,_,_,_,e=>by simp at e
 | y :: xs,_,0,_,h,e=>by unfold RepL at h; obtain ⟨v,r,rfl,a,h⟩:=h; obtain rfl:=Option.some.inj e; exact ⟨v,rfl,a⟩
 | y :: xs,_,i + 1,_,h,e=>by unfold RepL at h; obtain ⟨v,r,rfl,a,h⟩:=h; exact (RepL.get h (i:=i) (by simpa using e):_)
theorem zK7 (s:Shared) (o:Obj):Ext s { s with heap:=s.heap.push o }:=.of_keep fun _ _ e=>get?_push_of_some _ e
theorem zK6 {C:Cx} {s:Shared} (I:Inv C s) (o:Obj):Inv C { s with heap:=s.heap.push o }:=I.of_keep (fun _ _ e=>get?_push_of_some _ e) I.gens rfl rfl
theorem zB5 (h:Heap):h.get? h.objs.size=Option.none:=by
 cases e:h.get? h.objs.size with
 | none=>rfl
 | some o=>exact absurd (lt_size e) (Nat.lt_irrefl _)
theorem zE7 {F:Fz} {s s':Shared} {a:Addr} {o:Obj} (h:s.heap.get? a=Option.none) (h':s'.heap.get? a=some o):F.ext s s' a=some o:=by
 unfold Fz.ext; rw [h]; exact h'
theorem push_new {F:Fz} (s:Shared) (o:Obj) (hf:o.isFreed=false:=by rfl):F.ext s { s with heap:=s.heap.push o } s.heap.objs.size=some o :=
 zE7 (zB5 _) (get?_push_size _ hf)
theorem zJ4 {C:Cx} {F:Fz} {s:Shared} (I:Inv C s) (hs:F.sub s.heap) {xs:List PV} {vs:Array Value} {n:Nat} (h:RepL C.w F xs vs.toList) :
  Post C F s (.list xs) (.ref s.heap.objs.size) { s with heap:=s.heap.push { cls:=.type "list",data:=.seq vs n } }:=by
 refine ⟨zK7 s _,zK6 I _,?_⟩
 unfold Rep
 exact ⟨_,vs,n,rfl,push_new s _,RepL.mono (Fz.le_ext hs) h⟩
theorem post_tup {C:Cx} {F:Fz} {s:Shared} (I:Inv C s) (hs:F.sub s.heap) {xs:List PV} {vs:Array Value} {n:Nat} (h:RepL C.w F xs vs.toList) :
  Post C F s (.tup xs) (.ref s.heap.objs.size) { s with heap:=s.heap.push { cls:=.type "tuple",data:=.seq vs n } }:=by
 refine ⟨zK7 s _,zK6 I _,?_⟩
 unfold Rep
 exact ⟨_,vs,n,rfl,push_new s _,RepL.mono (Fz.le_ext hs) h⟩
theorem o_add {k:Nat}:OpOK k (binaryOp .Add) addPV:=by
 intro C A F s a b p va vb R I hs ra rb h
 refine PV.sel_inv h (fun x e h=>zB1 h fun y e' h=>?_) (fun x e h=>zB1 h fun y e' h=>?_) (fun _ _ h=>no h) fun xs e h=>zB1 h fun ys e' h=>?_
 ·obtain rfl:=e
  obtain rfl:=PV.toInt_inv e'
  obtain rfl:=Option.some.inj h
  obtain ⟨t,rfl⟩:=zB9 ra
  obtain ⟨u,rfl⟩:=zB9 rb
  exact wpAny_add_int (Post.int I _)
 ·obtain rfl:=e
  obtain rfl:=PV.toStr_inv e'
  obtain ⟨hz,rfl⟩:=zG0 h
  obtain ⟨t,rfl⟩:=zB6 ra
  obtain ⟨u,rfl⟩:=zB6 rb
  exact SB.add (fun t' k=>Post.str I _) hz
 ·obtain rfl:=e
  obtain rfl:=PV.toLst_inv e'
  obtain ⟨hz,rfl⟩:=zG0 h
  unfold Rep at ra rb
  obtain ⟨a,vs,n,rfl,fa,la⟩:=ra
  obtain ⟨b,us,m,rfl,fb,lb⟩:=rb
  refine P.add_list (hs _ _ fa) (hs _ _ fb) ?_ (by rw [← length_toList,← length_toList,la.length,lb.length]; exact hz)
  exact zJ4 I hs (by rw [Array.toList_append]; exact la.append lb)
noncomputable def subPV:PV→PV→Option PV:=ii2 fun a b=>some (.int (a - b))
theorem o_sub {k:Nat}:OpOK k (binaryOp .Sub) subPV:=op_ii fun C A F s x y p u v R I hs h=>by
 obtain rfl:=Option.some.inj h
 exact sub_int (Post.int I _)
noncomputable def divPV:PV→PV→Option PV:=ii2 fun a b=>if 0 < b∧b < 1000000 then some (.int (a / b)) else none
theorem o_div {k:Nat}:OpOK k (binaryOp .FloorDiv) divPV:=op_ii fun C A F s a b p u v R I hs h=>by
 obtain ⟨hz,rfl⟩:=zG0 h
 refine PyProof.Rows.floordiv_int (Int.ne_of_gt hz.1) ?_ (.inl (PyProof.noPylong_small (by lia)))
 rw [Int.fdiv_eq_ediv_of_nonneg _ (Int.le_of_lt hz.1)]
 exact Post.int I _
noncomputable def modPV:PV→PV→Option PV:=ii2 fun a b=>if 0 < b then some (.int (a % b)) else none
theorem o_mod {k:Nat}:OpOK k (binaryOp .Mod) modPV:=op_ii fun C A F s a b p u v R I hs h=>by
 obtain ⟨hz,rfl⟩:=zG0 h
 refine PyProof.Rows.mod_int' (Int.ne_of_gt hz) ?_
 rw [Int.fmod_eq_emod_of_nonneg _ (Int.le_of_lt hz)]
 exact Post.int I _
noncomputable def powPV:PV→PV→Option PV:=ii2 fun a b=>if 0≤b∧b≤64∧a.natAbs≤8 then some (.int (a ^ b.toNat)) else none
theorem o_pow {k:Nat}:OpOK k (binaryOp .Pow) powPV:=op_ii fun C A F s a b p u v R I hs h=>by
 obtain ⟨hz,rfl⟩:=zG0 h
 exact PyProof.Rows.pow_int_small hz.1 (by lia) (by lia) (Post.int I _)
noncomputable def andPV:PV→PV→Option PV:=ii2 fun a b=>some (.int (Builtin.bitAnd a b))
theorem o_and {k:Nat}:OpOK k (binaryOp .BitAnd) andPV:=op_ii fun C A F s a b p u v R I hs h=>by
 obtain rfl:=Option.some.inj h
 exact PyProof.Rows.and_int (Post.int I _)
noncomputable def orPV:PV→PV→Option PV:=ii2 fun a b=>some (.int (Builtin.bitOr a b))
theorem o_or {k:Nat}:OpOK k (binaryOp .BitOr) orPV:=op_ii fun C A F s a b p u v R I hs h=>by
 obtain rfl:=Option.some.inj h
 exact PyProof.Rows.or_int (Post.int I _)
noncomputable def mulPV (a b:PV):Option PV:=a.toStr.bind fun x=>b.toInt.bind fun n=>if x.length≤1000∧0≤n∧n≤1000 then some (.str (Txt.mul x n)) else none
theorem o_mul {k:Nat}:OpOK k (binaryOp .Mult) mulPV:=by
 intro C A F s a b p va vb R I hs ra rb h
 refine zB1 h fun x e h=>zB1 h fun n e' h=>?_
 obtain rfl:=PV.toStr_inv e
 obtain rfl:=PV.toInt_inv e'
 obtain ⟨hz,rfl⟩:=zG0 h
 obtain ⟨t,rfl⟩:=zB6 ra
 obtain ⟨u,rfl⟩:=zB9 rb
 refine SB.mul ⟨?_,?_,?_⟩ (fun t' k=>Post.str I _)
 ·simp; lia
 ·intro h0 _ hgt
  have h1:(1000:Int)≤(2 ^ 63 - 1) / n:=Int.le_ediv_of_mul_le (by lia) (by lia)
  lia
 ·intro _ _
  have:x.length * n.toNat≤1000 * 1000:=Nat.mul_le_mul hz.1 (by lia)
  show decide (x.length * n.toNat > sizeLine)=false
  exact decide_eq_false (by unfold sizeLine; lia)
mutual
noncomputable def toPy:PV→Option PyData
 | .none=>some .none
 | .bool b=>some (.bool b)
 | .int i=>some (.int i)
 | .str x=>some (.str x)
 | .tup xs=>(toPyL xs).map .tuple
 | .list xs=>(toPyL xs).map .list
 | .dict _ _=>Option.none
 | .rng _ _ _=>Option.none
 | .bset _=>Option.none
 | .dlist _=>Option.none
 | .dref _ _=>Option.none
noncomputable def toPyL:List PV→Option (List PyData)
 | []=>some []
 | x :: xs=>(toPy x).bind fun d=>(toPyL xs).map (d :: ·)
end
mutual
theorem reads_of {w:World} {F:Fz} {h:Heap} (hs:F.sub h):∀ {p:PV} {v:Value} {d:PyData},Rep w F p v→toPy p=some d→∃ as,Reads h v d as
 | .none,_,_,r,e=>by unfold Rep at r; unfold toPy at e; subst r; obtain rfl:=Option.some.inj e; exact ⟨_,.none⟩
 | .bool b,_,_,r,e=>by unfold Rep at r; unfold toPy at e; subst r; obtain rfl:=Option.some.inj e; exact ⟨_,.bool b⟩
 | .int i,_,_,r,e=>by unfold Rep at r; unfold toPy at e; obtain ⟨t,rfl⟩:=r; obtain rfl:=Option.some.inj e; exact ⟨_,.int i t⟩
 | .str x,_,_,r,e=>by unfold Rep at r; unfold toPy at e; obtain ⟨t,rfl⟩:=r; obtain rfl:=Option.some.inj e; exact ⟨_,.str x t⟩
 | .tup xs,_,_,r,e=>by
  unfold Rep at r; unfold toPy at e
  obtain ⟨a,vs,n,rfl,f,l⟩:=r
  obtain ⟨ds,e1,rfl⟩:=map_eq_some_iff.mp e
  obtain ⟨as,q⟩:=readsL_of hs l e1
  exact ⟨_,.tuple (hs _ _ f) rfl rfl q⟩
 | .list xs,_,_,r,e=>by
  unfold Rep at r; unfold toPy at e
  obtain ⟨a,vs,n,rfl,f,l⟩:=r
  obtain ⟨ds,e1,rfl⟩:=map_eq_some_iff.mp e
  obtain ⟨as,q⟩:=readsL_of hs l e1
  exact ⟨_,.list (hs _ _ f) rfl rfl q⟩
 | .dict _ _,_,_,_,e=>by unfold toPy at e; exact no e
 | .rng _ _ _,_,_,_,e=>by unfold toPy at e; exact no e
 | .bset _,_,_,_,e=>by unfold toPy at e; exact no e
 | .dlist _,_,_,_,e=>by unfold toPy at e; exact no e
 | .dref _ _,_,_,_,e=>by unfold toPy at e; cases e
theorem readsL_of {w:World} {F:Fz} {h:Heap} (hs:F.sub h):∀ {xs:List PV} {vs:List Value} {ds:List PyData},RepL w F xs vs→toPyL xs=some ds→∃ as,ReadsAll h vs ds as
 | [],_,_,r,e=>by unfold RepL at r; unfold toPyL at e; subst r; obtain rfl:=Option.some.inj e; exact ⟨_,.nil⟩
 | x :: xs,_,_,r,e=>by
  unfold RepL at r; unfold toPyL at e
  obtain ⟨v,t,rfl,a,b⟩:=r
  obtain ⟨d,e1,e⟩:=bind_eq_some_iff.mp e
  obtain ⟨ds,e2,rfl⟩:=map_eq_some_iff.mp e
  obtain ⟨as,q1⟩:=reads_of hs a e1
  obtain ⟨bs,q2⟩:=readsL_of hs b e2
  exact ⟨_,.cons q1 q2⟩
end
noncomputable def eqvPV (a b:PV):Option Bool:=(toPy a).bind fun x=>(toPy b).bind fun y =>
 if x.canLay0=true∧y.canLay0=true∧x.depth≤64 then some (PyData.eqv x y) else Option.none
noncomputable def eqPV (a b:PV):Option PV:=a.sel (fun x=>b.toInt.bind fun y=>some (.bool (x == y))) (fun x=>b.toStr.bind fun y=>some (.bool (decide (x=y)))) (fun _=>Option.none) (fun xs=>b.toLst.bind fun ys=>(eqvPV (.list xs) (.list ys)).map .bool)
noncomputable def nePV (a b:PV):Option PV:=a.sel (fun x=>b.toInt.bind fun y=>some (.bool (x != y))) (fun x=>b.toStr.bind fun y=>some (.bool (!decide (x=y)))) (fun _=>Option.none) (fun xs=>b.toLst.bind fun ys=>(eqvPV (.list xs) (.list ys)).map fun b=>.bool !b)
theorem str_beq (x y:PStr):(x.cps.toList == y.cps.toList)=decide (x=y):=by
 by_cases h:x=y
 ·subst h; simp
 ·rw [decide_eq_false h]
  refine beq_eq_false_iff_ne.mpr fun hl=>h ?_
  cases x; cases y
  simp only [Str.mk.injEq]
  exact Array.toList_inj.mp hl
theorem eqv_case {k:Nat} {C:Cx} {A:Around} {F:Fz} {s:Shared} {a b:PV} {va vb:Value} {r:Bool} {P:Prop} (R:Room k A) (hs:F.sub s.heap) (ra:Rep C.w F a va) (rb:Rep C.w F b vb) (e:eqvPV a b=some r)
  (K:∀ x y as bs,Reads s.heap va x as→Reads s.heap vb y bs→x.canLay0=true→y.canLay0=true→A.units + min x.depth y.depth < cLine→PyData.eqv x y=r→P):P :=
 zB1 e fun x ex e=>zB1 e fun y ey e=>by
  obtain ⟨hz,e⟩:=zG0 e
  obtain ⟨as,qa⟩:=reads_of hs ra ex
  obtain ⟨bs,qb⟩:=reads_of hs rb ey
  refine K x y as bs qa qb hz.1 hz.2.1 ?_ e
  have h1:=R.units
  rw [cLine_is]
  exact Nat.lt_of_le_of_lt (Nat.add_le_add (le_trans (Nat.le_add_right _ _) h1) (le_trans (Nat.min_le_left _ _) hz.2.2)) (by decide)
theorem o_eq {k:Nat}:OpOK k (compareOp .Eq) eqPV:=by
 intro C A F s a b p va vb R I hs ra rb h
 refine PV.sel_inv h (fun x e h=>zB1 h fun y e' h=>?_) (fun x e h=>zB1 h fun y e' h=>?_) (fun _ _ h=>no h) fun xs e h=>zB1 h fun ys e' h=>mapE h fun b eb h4=>?_ <;> obtain rfl:=e
 ·obtain rfl:=PV.toInt_inv e'
  obtain rfl:=Option.some.inj h
  obtain ⟨t,rfl⟩:=zB9 ra
  obtain ⟨u,rfl⟩:=zB9 rb
  exact PyProof.Rows.eq_int (Post.here I hs zF9)
 ·obtain rfl:=PV.toStr_inv e'
  obtain rfl:=Option.some.inj h
  obtain ⟨t,rfl⟩:=zB6 ra
  obtain ⟨u,rfl⟩:=zB6 rb
  refine P.eq_str ?_
  rw [str_beq]
  exact Post.here I hs zF9
 ·obtain rfl:=PV.toLst_inv e'
  obtain rfl:=h4
  exact eqv_case R hs ra rb eb fun x y as bs qa qb h1 h2 h3 e=>SeqAt.compareEq_reads qa qb h1 h2 h3 (e ▸ Post.here I hs zF9)
theorem o_ne {k:Nat}:OpOK k (compareOp .NotEq) nePV:=by
 intro C A F s a b p va vb R I hs ra rb h
 refine PV.sel_inv h (fun x e h=>zB1 h fun y e' h=>?_) (fun x e h=>zB1 h fun y e' h=>?_) (fun _ _ h=>no h) fun xs e h=>zB1 h fun ys e' h=>mapE h fun b eb h4=>?_ <;> obtain rfl:=e
 ·obtain rfl:=PV.toInt_inv e'
  obtain rfl:=Option.some.inj h
  obtain ⟨t,rfl⟩:=zB9 ra
  obtain ⟨u,rfl⟩:=zB9 rb
  exact PyProof.Rows.ne_int (Post.here I hs zF9)
 ·obtain rfl:=PV.toStr_inv e'
  obtain rfl:=Option.some.inj h
  obtain ⟨t,rfl⟩:=zB6 ra
  obtain ⟨u,rfl⟩:=zB6 rb
  refine P.ne_str ?_
  show Post C F s _ (.bool (!(_ == _))) s
  rw [str_beq]
  exact Post.here I hs zF9
 ·obtain rfl:=PV.toLst_inv e'
  obtain rfl:=h4
  exact eqv_case R hs ra rb eb fun x y as bs qa qb h1 h2 h3 e=>SeqAt.compareNe_reads qa qb h1 h2 h3 (e ▸ Post.here I hs zF9)
noncomputable def gtPV:PV→PV→Option PV:=ii2 fun a b=>some (.bool (decide (b < a)))
theorem o_gt {k:Nat}:OpOK k (compareOp .Gt) gtPV:=op_ii fun C A F s x y p u v R I hs h=>by
 obtain rfl:=Option.some.inj h
 exact PyProof.Rows.gt_int (Post.here I hs zF9)
theorem s_cmp {k:Nat} {sc:Scope} {el er:Expr} {op:CmpOp} {pos:Pos} {f g:Lc→Option PV} {o:PV→PV→Option PV} (H:OpOK k (compareOp op) o) (hl:SoundE k sc el f) (hr:SoundE k sc er g)
  (hm:behindInMarks op er=false):SoundE k sc (.Compare el [op] [er] pos) (c2 o f g):=by
 intro C A env F l s p R S h
 obtain ⟨a,b,ha,hb,ho⟩:=c2_some h
 refine wpAny_Compare1 (hl.use R S ha fun va s₁ X₁ S₁ r₁=>hr.use R S₁ hb fun vb s₂ X₂ S₂ r₂=>?_) hm
 refine (H C A _ s₂ a b p va vb R S₂.inv S₂.sub (Rep.mono (Fz.le_ext S₁.sub) r₁) r₂ ho).mono fun v s₃ P=>?_
 exact Post.lift S.inv X₁ (Post.lift S₁.inv X₂ P)
structure PostT (C:Cx) (s:Shared) (b b':Bool) (s':Shared):Prop where
 e:b'=b
 ext:Ext s s'
 inv:Inv C s'
noncomputable def SoundT (k:Nat) (sc:Scope) (e:Expr) (f:Lc→Option Bool):Prop :=
 ∀ (C:Cx) (A:Around) (env:Env) (F:Fz) (l:Lc) (s:Shared) (b:Bool),Room k A→XS C sc env F l s→f l=some b →
  WP C A (isTrue e env (eval e env)) (PostT C s b) s
theorem SoundT.use {k:Nat} {sc:Scope} {e:Expr} {f:Lc→Option Bool} (H:SoundT k sc e f) {C:Cx} {A:Around} {env:Env} {F:Fz} {l:Lc} {s:Shared} {b:Bool} {Q:Bool→Shared→Prop}
  (R:Room k A) (S:XS C sc env F l s) (h:f l=some b) (next:∀ s₁,Ext s s₁→XS C sc env (F.ext s s₁) l s₁→Q b s₁):WP C A (isTrue e env (eval e env)) Q s :=
 (H C A env F l s b R S h).mono fun b' s₁ P=>by obtain ⟨rfl,X,I⟩:=P; exact next s₁ X (S.step X I)
noncomputable def asB (p:PV):Option Bool:=PV.casesOn p Option.none some (fun _=>Option.none) (fun _=>Option.none) (fun _=>Option.none) (fun _=>Option.none) (fun _ _=>Option.none) (fun _ _ _=>Option.none) (fun _=>Option.none) (fun _=>Option.none) (fun _ _=>Option.none)
theorem asB_inv {p:PV} {b:Bool} (h:asB p=some b):p = .bool b:=by
 cases p with
 | bool c=>exact congrArg _ (Option.some.inj h)
 | _=>exact no h
theorem t_cmp {k:Nat} {sc:Scope} {el er:Expr} {op:CmpOp} {pos:Pos} {f g:Lc→Option PV} {o:PV→PV→Option PV} (H:OpOK k (compareOp op) o) (hl:SoundE k sc el f) (hr:SoundE k sc er g)
  (hm:behindInMarks op er=false):SoundT k sc (.Compare el [op] [er] pos) (fun l=>(c2 o f g l).bind asB):=by
 intro C A env F l s b R S h
 obtain ⟨p,hp,hb⟩:=bind_eq_some_iff.mp h
 obtain ⟨a,b,ha,hb',ho⟩:=c2_some hp
 obtain rfl:=asB_inv hb
 refine wpAny_isTrue_Compare1 (hl.use R S ha fun va s₁ X₁ S₁ r₁=>hr.use R S₁ hb' fun vb s₂ X₂ S₂ r₂=>?_) hm
 refine (H C A _ s₂ _ _ _ va vb R S₂.inv S₂.sub (Rep.mono (Fz.le_ext S₁.sub) r₁) r₂ ho).mono fun v s₃ P=>?_
 have:=rep_bool P.3
 subst this
 exact wpAny_truthy_bool ⟨rfl,X₁.trans (X₂.trans P.1),P.2⟩
noncomputable def truthPV (p:PV):Option Bool:=(asB p).or (p.sel (fun _=>Option.none) (fun x=>if x.length≤sizeLine then some (decide (0 < x.length)) else Option.none) (fun _=>Option.none) (fun xs=>if xs.length≤sizeLine then some (!xs.isEmpty) else Option.none))
theorem fit63 {n:Nat} (h:n≤sizeLine):(n:Int) < 2 ^ 63:=by unfold sizeLine at h; lia
theorem orE {α:Type} {x y:Option α} {b:α} {P:Prop} (h:x.or y=some b) (k1:x=some b→P) (k2:y=some b→P):P:=(Option.or_eq_some_iff.mp h).elim k1 fun q=>k2 q.2
theorem truth_ok {C:Cx} {A:Around} {F:Fz} {s:Shared} {p:PV} {v:Value} {b:Bool} (I:Inv C s) (hs:F.sub s.heap) (r:Rep C.w F p v) (h:truthPV p=some b) :
  WP C A (truthy v) (PostT C s b) s:=by
 refine orE h (fun h=>?_) fun h=>PV.sel_inv h (fun _ _ h=>no h) (fun x e h=>?_) (fun _ _ h=>no h) fun xs e h=>?_
 ·obtain rfl:=asB_inv h
  obtain rfl:=rep_bool r
  exact wpAny_truthy_bool ⟨rfl,.refl s,I⟩
 ·obtain rfl:=e
  obtain ⟨hz,rfl⟩:=zG0 h
  obtain ⟨t,rfl⟩:=zB6 r
  refine P.truthy_str (Int.not_le.mpr (fit63 hz)) ⟨?_,.toks s _,I.toks _⟩
  by_cases h0:x.length=0
  ·rw [h0]; rfl
  ·rw [decide_eq_true (Nat.pos_of_ne_zero h0)]; simpa using h0
 ·obtain rfl:=e
  obtain ⟨hz,rfl⟩:=zG0 h
  unfold Rep at r
  obtain ⟨a,vs,n,rfl,f,l⟩:=r
  have hl:vs.size=xs.length:=length_toList.symm.trans l.length
  refine wpAny_truthy_list (items:=vs) ⟨_,hs _ _ f,rfl,n,rfl⟩ (fit63 (hl ▸ hz)) ⟨?_,.toks s _,I.toks _⟩
  cases xs with
  | nil=>obtain rfl:vs = #[]:=Array.eq_empty_of_size_eq_zero hl; rfl
  | cons x xs=>rw [show vs.isEmpty=false from Array.isEmpty_eq_false_iff.mpr fun e=>by subst e; cases hl]; rfl
theorem t_val {k:Nat} {sc:Scope} {e:Expr} {f:Lc→Option PV} (H:SoundE k sc e f) (he:∀ env whole,isTrue e env whole=(do let v ← whole; standAt e.pos; holding [v] (truthy v))) :
  SoundT k sc e (fun l=>(f l).bind truthPV):=by
 intro C A env F l s b R S h
 obtain ⟨p,hp,hb⟩:=bind_eq_some_iff.mp h
 refine wpAny_isTrue_value (H.use R S hp fun v s₁ X₁ S₁ r₁=>?_) (he _ _)
 exact (truth_ok S₁.inv S₁.sub r₁ hb).mono fun b' s₂ P=>⟨P.1,X₁.trans P.2,P.3⟩
theorem t_not {k:Nat} {sc:Scope} {e:Expr} {pos:Pos} {f:Lc→Option Bool} (H:SoundT k sc e f):SoundT k sc (.UnaryOp .Not e pos) (fun l=>(f l).map (!·)):=by
 intro C A env F l s b R S h
 obtain ⟨c,hc,rfl⟩:=map_eq_some_iff.mp h
 exact wpAny_isTrue_Not (H.use R S hc fun s₁ X₁ S₁=>⟨rfl,X₁,S₁.inv⟩)
theorem t_and {k:Nat} {sc:Scope} {a b:Expr} {pos:Pos} {f g:Lc→Option Bool} (H:SoundT k sc a f) (G:SoundT k sc b g) :
  SoundT k sc (.BoolOp .And [a,b] pos) (fun l=>(f l).bind fun c=>if c then g l else some false):=by
 intro C A env F l s r R S h
 obtain ⟨c,hc,h⟩:=bind_eq_some_iff.mp h
 refine wpAny_isTrue_BoolOp (wpAny_allTrue_And_cons (H.use R S hc fun s₁ X₁ S₁=>?_))
 cases c with
 | false=>obtain rfl:=Option.some.inj h; exact ⟨rfl,X₁,S₁.inv⟩
 | true =>
  simp only [if_true] at h ⊢
  refine wpAny_allTrue_And_cons (G.use R S₁ h fun s₂ X₂ S₂=>?_)
  cases r with
  | false=>exact ⟨rfl,X₁.trans X₂,S₂.inv⟩
  | true=>exact wpAny_allTrue_And_nil ⟨rfl,X₁.trans X₂,S₂.inv⟩
theorem t_or {k:Nat} {sc:Scope} {a b:Expr} {pos:Pos} {f g:Lc→Option Bool} (H:SoundT k sc a f) (G:SoundT k sc b g) :
  SoundT k sc (.BoolOp .Or [a,b] pos) (fun l=>(f l).bind fun c=>if c then some true else g l):=by
 intro C A env F l s r R S h
 obtain ⟨c,hc,h⟩:=bind_eq_some_iff.mp h
 refine wpAny_isTrue_BoolOp (wpAny_allTrue_Or_cons (H.use R S hc fun s₁ X₁ S₁=>?_))
 cases c with
 | true=>obtain rfl:=Option.some.inj h; exact ⟨rfl,X₁,S₁.inv⟩
 | false =>
  simp only [false_eq_true,if_false] at h ⊢
  refine wpAny_allTrue_Or_cons (G.use R S₁ h fun s₂ X₂ S₂=>?_)
  cases r with
  | true=>exact ⟨rfl,X₁.trans X₂,S₂.inv⟩
  | false=>exact wpAny_allTrue_Or_nil ⟨rfl,X₁.trans X₂,S₂.inv⟩
theorem s_ife {k:Nat} {sc:Scope} {t a b:Expr} {pos:Pos} {f:Lc→Option Bool} {g h:Lc→Option PV} (T:SoundT k sc t f) (G:SoundE k sc a g) (H:SoundE k sc b h) :
  SoundE k sc (.IfExp t a b pos) (fun l=>(f l).bind fun c=>if c then g l else h l):=by
 intro C A env F l s p R S hp
 obtain ⟨c,hc,hp⟩:=bind_eq_some_iff.mp hp
 refine wpAny_IfExp (T.use R S hc fun s₁ X₁ S₁=>?_)
 cases c with
 | true=>exact G.use R S₁ hp fun v s₂ X₂ S₂ r₂=>Post.lift S.inv X₁ ⟨X₂,S₂.inv,r₂⟩
 | false=>exact H.use R S₁ hp fun v s₂ X₂ S₂ r₂=>Post.lift S.inv X₁ ⟨X₂,S₂.inv,r₂⟩
structure PostL (C:Cx) (F:Fz) (s:Shared) (ps:List PV) (vs:List Value) (s':Shared):Prop where
 ext:Ext s s'
 inv:Inv C s'
 rep:RepL C.w (F.ext s s') ps vs
noncomputable def SoundEs (k:Nat) (sc:Scope) (es:List Expr) (fs:Lc→Option (List PV)):Prop :=
 ∀ (C:Cx) (A:Around) (env:Env) (F:Fz) (l:Lc) (s:Shared) (ps:List PV) (pos:Pos),Room k A→XS C sc env F l s→fs l=some ps →
  WP C A (spliced (backTo pos (starEach es env))) (PostL C F s ps) s
noncomputable def cNil:Lc→Option (List PV):=fun _=>some []
noncomputable def cCons (f:Lc→Option PV) (fs:Lc→Option (List PV)):Lc→Option (List PV):=fun l=>(f l).bind fun p=>(fs l).map (p :: ·)
theorem es_nil {k:Nat} {sc:Scope}:SoundEs k sc [] cNil:=by
 intro C A env F l s ps pos R S h
 cases h
 exact wpAny_items_nil ⟨.refl s,S.inv,RepL.nil⟩
theorem es_cons {k:Nat} {sc:Scope} {e:Expr} {es:List Expr} {f:Lc→Option PV} {fs:Lc→Option (List PV)} (H:SoundE k sc e f) (G:SoundEs k sc es fs)
  (hs:∀ env,starEach (e :: es) env=(false,eval e env) :: starEach es env):SoundEs k sc (e :: es) (cCons f fs):=by
 intro C A env F l s ps pos R S h
 obtain ⟨p,hp,h⟩:=bind_eq_some_iff.mp h
 obtain ⟨ps,hps,rfl⟩:=map_eq_some_iff.mp h
 rw [hs]
 show WP C A (spliced ((false,eval e env) :: backTo pos (starEach es env))) _ s
 refine spliced_cons (H.use R S hp fun v s₁ X₁ S₁ r₁=>?_)
 refine (G C A env _ l s₁ ps pos R S₁ hps).mono fun vs s₂ P=>⟨X₁.trans P.1,P.2,?_⟩
 exact RepL.mono (Fz.ext_ext S.inv X₁ P.1) (RepL.cons (Rep.mono (Fz.le_ext S₁.sub) r₁) P.3)
theorem SoundEs.use {k:Nat} {sc:Scope} {es:List Expr} {fs:Lc→Option (List PV)} (H:SoundEs k sc es fs) {C:Cx} {A:Around} {env:Env} {F:Fz} {l:Lc} {s:Shared} {ps:List PV} {pos:Pos} {Q:List Value→Shared→Prop}
  (R:Room k A) (S:XS C sc env F l s) (h:fs l=some ps) (next:∀ vs s₁,Ext s s₁→XS C sc env (F.ext s s₁) l s₁→RepL C.w (F.ext s s₁) ps vs→Q vs s₁):WP C A (spliced (backTo pos (starEach es env))) Q s :=
 (H C A env F l s ps pos R S h).mono fun vs s₁ P=>next vs s₁ P.1 (S.step P.1 P.2) P.3
theorem small_fits {xs:List PV} {vs:List Value} {w:World} {F:Fz} (h:RepL w F xs vs) (hz:xs.length≤sizeLine):vs.length≤sizeLine:=by rw [h.length]; exact hz
noncomputable def cList (fs:Lc→Option (List PV)):Lc→Option PV:=fun l=>(fs l).bind fun ps=>if ps.length≤sizeLine then some (.list ps) else Option.none
noncomputable def cTup (fs:Lc→Option (List PV)):Lc→Option PV:=fun l=>(fs l).bind fun ps=>if ps.length≤sizeLine then some (.tup ps) else Option.none
theorem s_list {k:Nat} {sc:Scope} {es:List Expr} {pos:Pos} {fs:Lc→Option (List PV)} (H:SoundEs k sc es fs):SoundE k sc (.List es pos) (cList fs):=by
 intro C A env F l s p R S h
 obtain ⟨ps,hps,h⟩:=bind_eq_some_iff.mp h
 obtain ⟨hz,rfl⟩:=zG0 h
 refine PyProof.Rows.List_ (H.use R S hps fun vs s₁ X₁ S₁ r₁=>?_)
 refine wpAny_newObj_type (Post.lift S.inv X₁ (zJ4 S₁.inv S₁.sub (by simpa using r₁))) (by show vs.toArray.size≤sizeLine; rw [List.size_toArray]; exact small_fits r₁ hz)
theorem s_tup {k:Nat} {sc:Scope} {es:List Expr} {n:Nat} {pos:Pos} {fs:Lc→Option (List PV)} (H:SoundEs k sc es fs):SoundE k sc (.Tuple es n pos) (cTup fs):=by
 intro C A env F l s p R S h
 obtain ⟨ps,hps,h⟩:=bind_eq_some_iff.mp h
 obtain ⟨hz,rfl⟩:=zG0 h
 refine PyProof.Rows.Tuple_ (H.use R S hps fun vs s₁ X₁ S₁ r₁=>?_)
 refine wpAny_newObj_type (Post.lift S.inv X₁ (post_tup S₁.inv S₁.sub (by simpa using r₁))) (by show vs.toArray.size≤sizeLine; rw [List.size_toArray]; exact small_fits r₁ hz)
noncomputable def dget {α:Type}:List PStr→List α→PStr→Option α
 | k :: ks,v :: vs,x=>if x=k then some v else dget ks vs x
 | _,_,_=>Option.none
noncomputable def View (w:World) (F:Fz) (h:Heap):PV→Value→Prop
 | .list xs,v=>SqAt h.get? "list" (RepL w F xs) v
 | .tup xs,v=>SqAt h.get? "tuple" (RepL w F xs) v
 | .dict ks xs,v=>DcAt w h.get? ks (RepL w F xs) v
 | .bset _,_=>True
 | .dlist _,_=>True
 | p,v=>Rep w F p v
theorem View.of_rep {w:World} {F:Fz} {h:Heap} (hs:F.sub h) {p:PV} {v:Value} (r:Rep w F p v):View w F h p v:=by
 cases p <;> first | exact trivial | skip
 all_goals try exact r
 case tup xs=>unfold Rep at r; obtain ⟨a,vs,n,e,f,l⟩:=r; exact ⟨a,vs,n,e,hs _ _ f,l⟩
 case list xs=>unfold Rep at r; obtain ⟨a,vs,n,e,f,l⟩:=r; exact ⟨a,vs,n,e,hs _ _ f,l⟩
 case dict ks xs=>unfold Rep at r; obtain ⟨a,es,n,e,f,k,l⟩:=r; exact ⟨a,es,n,e,hs _ _ f,k,l⟩
theorem View.of_ow {w:World} {F:Fz} {h:Heap} {p:PV} {v:Value} (r:LocRep w F h v (.ow p)):View w F h p v:=by
 obtain ⟨a,o,e,fa,ho,r⟩:=r
 cases p <;> first | exact trivial | exact r.elim | skip
 case list xs=>obtain ⟨vs,n,rfl,l⟩:=r; exact ⟨a,vs,n,e,ho,l⟩
 case dict ks xs=>obtain ⟨es,n,rfl,k,l⟩:=r; exact ⟨a,es,n,e,ho,k,l⟩
theorem View.step {C:Cx} {w:World} {F:Fz} {s s':Shared} {p:PV} {v:Value} (I:Inv C s) (X:Ext s s') (hs:F.sub s.heap) (r:View w F s.heap p v):View w (F.ext s s') s'.heap p v:=by
 cases p <;> first | exact trivial | exact Rep.mono (Fz.le_ext hs) r | skip
 case tup xs=>obtain ⟨a,vs,n,e,f,l⟩:=r; exact ⟨a,vs,n,e,X.kept I f (fun ps q=>by cases q),RepL.mono (Fz.le_ext hs) l⟩
 case list xs=>obtain ⟨a,vs,n,e,f,l⟩:=r; exact ⟨a,vs,n,e,X.kept I f (fun ps q=>by cases q),RepL.mono (Fz.le_ext hs) l⟩
 case dict ks xs=>obtain ⟨a,es,n,e,f,k,l⟩:=r; exact ⟨a,es,n,e,X.kept I f (fun ps q=>by cases q),k,RepL.mono (Fz.le_ext hs) l⟩
structure PostV (C:Cx) (F:Fz) (s:Shared) (p:PV) (v:Value) (s':Shared):Prop where
 ext:Ext s s'
 inv:Inv C s'
 view:View C.w (F.ext s s') s'.heap p v
noncomputable def SoundV (k:Nat) (sc:Scope) (e:Expr) (f:Lc→Option PV):Prop :=
 ∀ (C:Cx) (A:Around) (env:Env) (F:Fz) (l:Lc) (s:Shared) (p:PV),Room k A→XS C sc env F l s→f l=some p →
  WP C A (eval e env) (PostV C F s p) s
theorem SoundV.use {k:Nat} {sc:Scope} {e:Expr} {f:Lc→Option PV} (H:SoundV k sc e f) {C:Cx} {A:Around} {env:Env} {F:Fz} {l:Lc} {s:Shared} {p:PV} {Q:Value→Shared→Prop}
  (R:Room k A) (S:XS C sc env F l s) (h:f l=some p) (next:∀ v s₁,Ext s s₁→XS C sc env (F.ext s s₁) l s₁→View C.w (F.ext s s₁) s₁.heap p v→Q v s₁):WP C A (eval e env) Q s :=
 (H C A env F l s p R S h).mono fun v s₁ P=>next v s₁ P.1 (S.step P.1 P.2) P.3
theorem v_of {k:Nat} {sc:Scope} {e:Expr} {f:Lc→Option PV} (H:SoundE k sc e f):SoundV k sc e f:=by
 intro C A env F l s p R S h
 exact H.use R S h fun v s₁ X₁ S₁ r₁=>⟨X₁,S₁.inv,.of_rep S₁.sub r₁⟩
noncomputable def cW (x:PStr):Lc→Option PV:=fun l=>(look l x).bind Loc.val
theorem zC2 {x:PStr} {l:Lc} {p:PV} (h:look l x=some (.fz p)):cW x l=some p:=by unfold cW; rw [h]; rfl
theorem zK0 {x:PStr} {l:Lc} {p:PV} (h:look l x=some (.ow p)):cW x l=some p:=by unfold cW; rw [h]; rfl
theorem View.of_loc {w:World} {F:Fz} {h:Heap} (hs:F.sub h) {q:Loc} {p:PV} {v:Value} (e:q.val=some p) (r:LocRep w F h v q):View w F h p v:=by
 cases q with
 | fz q=>obtain rfl:q=p:=Option.some.inj e; exact .of_rep hs r
 | ow q=>obtain rfl:q=p:=Option.some.inj e; exact .of_ow r
 | _=>exact no e
theorem v_var {k:Nat} {sc:Scope} {x:PStr} {pos:Pos} (hk:sc.names.lookup x=some .local ∨ sc.names.lookup x=some .cell) (hd:(x == ("__debug__":PySem.Str))=false):SoundV k sc (.Name x pos) (cW x):=by
 intro C A env F l s p R S h
 refine zB1 h fun q e h=>?_
 obtain ⟨v,b,r⟩:=S.loc x _ e ((S.ok.kindOf x).symm ▸ hk)
 exact wpAny_Name (zG1 S.ok hk b ⟨.refl s,S.inv,(View.of_loc S.sub h r).step S.inv (.refl s) S.sub⟩) hd
theorem zL7 {C:Cx} {A:Around} {s:Shared} {value slice:Expr} {o i:Value} {ops:List Value} {T id:String} {Q:Value→Shared→Prop} (hT:s.TypeIs o T) (hl:typeLookup (.type T) "__getitem__" = pure (some (.builtin id)))
  (hs:subscripted slice false o i=operate ops (getItem o i)) (hne:o≠.builtin "sys.modules#opaque") (h:WP C A (getItem o i) Q s):WP C A (subscriptTail value slice o i) Q s:=by
 unfold subscriptTail
 rw [getitemInPython_of_ne hne]
 refine wpAny_bind (wpAny_bind (wpAny_specialOf hT hl (wpAny_pure ?_)))
 rw [hs]
 refine wpAny_bind ?_
 have:WP C A (operate ops (getItem o i)) Q s:=fun Γ p hΓ=>by rw [Sem.wp_operate]; exact h Γ p hΓ
 exact this.mono fun v s' q=>wpAny_bind (wpAny_letTemporaryGo (wpAny_pure q))
noncomputable def nth {α:Type} (xs:List α) (i:Int):Option α :=
 if xs.length≤sizeLine then (if 0≤i then (if i < xs.length then xs[i.toNat]? else Option.none) else if -(xs.length:Int)≤i then xs[(i + xs.length).toNat]? else Option.none) else Option.none
theorem seqIdx_pos {i:Int} {n:Nat} (h0:0≤i) (h1:i < n):seqIndex? i n=some i.toNat:=by
 have:¬ i < 0:=by lia
 simp [seqIndex?,this,h0,h1]
theorem seqIdx_neg {i:Int} {n:Nat} (h0:i < 0) (h1:-(n:Int)≤i):seqIndex? i n=some (i + n).toNat:=by
 have h2:0≤i + n:=by lia
 have h3:i + n < n:=by lia
 simp [seqIndex?,h0,h2]; lia
noncomputable def idxPV (a b:PV):Option PV:=PV.casesOn a Option.none (fun _=>Option.none) (fun _=>Option.none) (fun x=>b.toInt.bind fun i=>(nth x.cps.toList i).map fun c=>.str ⟨#[c]⟩) (fun xs=>b.toInt.bind (nth xs)) (fun xs=>b.toInt.bind (nth xs)) (fun ks vs=>b.toStr.bind (dget ks vs))
 (fun _ _ _=>Option.none) (fun _=>Option.none) (fun _=>Option.none) (fun _ _=>Option.none)
theorem idx_inv {a b q:PV} {P:Prop} (h:idxPV a b=some q) (k1:∀ x i c,a = .str x→b = .int i→nth x.cps.toList i=some c→.str ⟨#[c]⟩=q→P) (k2:∀ xs i,a = .tup xs→b = .int i→nth xs i=some q→P) (k3:∀ xs i,a = .list xs→b = .int i→nth xs i=some q→P)
  (k4:∀ ks vs k,a = .dict ks vs→b = .str k→dget ks vs k=some q→P):P:=by
 cases a with
 | str x=>exact zB1 h fun i e h=>mapE h fun c e' h=>k1 x i c rfl (PV.toInt_inv e) e' h
 | tup xs=>exact zB1 h fun i e h=>k2 xs i rfl (PV.toInt_inv e) h
 | list xs=>exact zB1 h fun i e h=>k3 xs i rfl (PV.toInt_inv e) h
 | dict ks vs=>exact zB1 h fun k e h=>k4 ks vs k rfl (PV.toStr_inv e) h
 | _=>exact no h
theorem nth_inv {α:Type} {xs:List α} {i:Int} {p:α} {P:Prop} (e:nth xs i=some p) (k1:xs.length≤sizeLine→0≤i→i < xs.length→xs[i.toNat]? = some p→P) (k2:xs.length≤sizeLine→i < 0→-(xs.length:Int)≤i→xs[(i + xs.length).toNat]? = some p→P):P:=by
 obtain ⟨hz,e⟩:=iteS e
 by_cases h:0≤i
 ·obtain ⟨hi,e⟩:=iteS ((if_pos h).symm.trans e)
  exact k1 hz h hi e
 ·obtain ⟨hi,e⟩:=iteS ((if_neg h).symm.trans e)
  exact k2 hz (Int.not_le.mp h) hi e
theorem nth_at {α:Type} {xs:List α} {i:Int} {p:α} {P:Prop} (e:nth xs i=some p) (k:-(2 ^ 63)≤i→i < 2 ^ 63→-(2 ^ 62)≤i→i < 2 ^ 62→∀ j,seqIndex? i xs.length=some j→xs[j]? = some p→P):P :=
 nth_inv e (fun hz h0 hi e=>by unfold sizeLine at hz; exact k (by lia) (by lia) (by lia) (by lia) _ (seqIdx_pos h0 hi) e) fun hz h0 hi e=>by unfold sizeLine at hz; exact k (by lia) (by lia) (by lia) (by lia) _ (seqIdx_neg h0 hi) e
theorem dget_rep {w:World} {F:Fz}:∀ {ks:List PStr} {xs:List PV} {vs:List Value} {k:PStr} {p:PV},RepL w F xs vs→dget ks xs k=some p→∃ v,dget ks vs k=some v∧Rep w F p v
 | [],_,_,_,_,_,e=>by exact no e
 | k' :: ks,[],_,_,_,_,e=>by exact no e
 | k' :: ks,x :: xs,_,k,p,h,e=>by
  unfold RepL at h
  obtain ⟨v,r,rfl,a,h⟩:=h
  unfold dget at e ⊢
  split
  ·rename_i hk; obtain rfl:=uniq (if_pos hk) e; exact ⟨v,rfl,a⟩
  ·rename_i hk; rw [if_neg hk] at e; exact dget_rep h e
theorem keys_find {w:World}:∀ {ks:List PStr} {es:List DictEntry},KeyAre w ks es→∀ k,(es.find? fun e=>Value.isStrOf k e.key).map (·.val)=dget ks (es.map (·.val)) k
 | [],[],_,_=>rfl
 | [],_ :: _,h,_=>h.elim
 | _ :: _,[],h,_=>h.elim
 | k' :: ks,e :: es,h,k=>by
  obtain ⟨⟨_,t,ek⟩,h⟩:=h
  unfold dget
  rw [List.find?_cons,ek]
  show (match (k' == k) with | true=>some e | false=>_).map _=_
  by_cases q:k=k'
  ·subst q; simp
  ·have:(k' == k)=false:=beq_eq_false_iff_ne.mpr fun z=>q z.symm
   rw [this,map_cons]
   simp only [if_neg q]
   exact keys_find h k
theorem keys_of {w:World}:∀ {ks:List PStr} {es:List DictEntry},KeyAre w ks es→∀ e∈es,∃ k,Value.isStrOf k e.key=true∧e.hash=hashStr w k
 | [],[],_,_,he=>nomatch he
 | [],_ :: _,h,_,_=>h.elim
 | _ :: _,[],h,_,_=>h.elim
 | k' :: ks,e :: es,h,e',he=>by
  obtain ⟨⟨hh,t,ek⟩,h⟩:=h
  rcases mem_cons.mp he with rfl | he
  ·exact ⟨k',by rw [ek]; simp [Value.isStrOf],hh⟩
  ·exact keys_of h e' he
theorem map_of {w:World} {h:Heap} {a:Addr} {es:Array DictEntry} {n:Nat} {ks:List PStr} (ho:h.get? a=some { cls:=.type "dict",data:=.dict es n }) (hk:KeyAre w ks es.toList) :
  h.MapOf (PySem.strKind PG w) a (fun k=>dget ks (es.toList.map (·.val)) k):=by
 refine ⟨_,es,n,ho,⟨rfl,rfl,rfl⟩,rfl,fun e he=>?_,fun k=>?_⟩
 ·exact keys_of hk e (by simpa using he)
 ·unfold findBy
  show _=dget ks (es.toList.map (·.val)) k
  rw [← keys_find hk k,← Array.find?_toList]
  rfl
theorem idx_ok {C:Cx} {A:Around} {F:Fz} {s:Shared} {a b p:PV} {va vb:Value} {value slice:Expr} (I:Inv C s) (hs:F.sub s.heap) (ra:View C.w F s.heap a va) (rb:Rep C.w F b vb) (h:idxPV a b=some p)
  (hsl:subscripted slice false va vb=operate [va,vb] (getItem va vb)):WP C A (subscriptTail value slice va vb) (Post C F s p) s:=by
 refine idx_inv h (fun x i c e e' hn h5=>?_) (fun xs i e e' hn=>?_) (fun xs i e e' hn=>?_) fun ks xs k e e' hn=>?_
 ·subst e e' h5
  obtain ⟨t,rfl⟩:=zB6 (show Rep C.w F (.str x) va from ra)
  obtain ⟨u,rfl⟩:=zB9 rb
  refine zL7 rfl PySem.F.slot_str_getitem.lookup hsl (by simp) ?_
  exact nth_at hn fun _ _ b1 b2 j hj hc=>P.getItem_str (c:=c) (by simp; lia) (by rw [show x.length=x.cps.toList.length from length_toList.symm,hj]; exact getElem?_toList.symm.trans hc) (Post.str I _)
 ·subst e e'
  obtain ⟨a,vs,n,rfl,f,l⟩:=ra
  obtain ⟨u,rfl⟩:=zB9 rb
  refine zL7 ⟨_,f,rfl⟩ PySem.F.slot_tuple_getitem.lookup hsl (by simp) ?_
  refine nth_at hn fun b1 b2 _ _ j hj hc=>?_
  obtain ⟨v,e1,r⟩:=l.get hc
  exact P.getItem_tuple (n:=n) f b1 b2 (by rw [← length_toList,l.length]; exact hj) (getElem?_toList.symm.trans e1) (Post.here I hs r)
 ·subst e e'
  obtain ⟨a,vs,n,rfl,f,l⟩:=ra
  obtain ⟨u,rfl⟩:=zB9 rb
  have hl:vs.size=xs.length:=length_toList.symm.trans l.length
  refine zL7 ⟨_,f,rfl⟩ slot_list_getitem.lookup hsl (by simp) (nth_inv hn (fun hz h0 hi hc=>?_) fun hz h0 hi hc=>?_)
  ·obtain ⟨v,e1,r⟩:=l.get hc
   exact wpAny_getItem_list ⟨_,f,rfl,n,rfl⟩ h0 (Int.lt_trans hi (fit63 hz)) (getElem?_toList.symm.trans e1) (Post.here I hs r)
  ·obtain ⟨v,e1,r⟩:=l.get hc
   exact wpAny_getItem_list_neg ⟨_,f,rfl,n,rfl⟩ h0 (hl.symm ▸ hi) (by unfold sizeLine at hz; lia) (hl.symm ▸ getElem?_toList.symm.trans e1) (Post.here I hs r)
 ·subst e e'
  obtain ⟨a,es,n,rfl,f,hk,l⟩:=ra
  obtain ⟨u,rfl⟩:=zB6 rb
  obtain ⟨v,e1,r⟩:=dget_rep l hn
  refine zL7 ⟨_,f,rfl⟩ slot_dict_getitem.lookup hsl (by simp) ?_
  exact wpAny_getItem_of (knd:=PySem.strKind PG C.w) (k:=k) (by simp [PySem.strKind,Value.isStrOf]) (map_of f hk) e1 ⟨.toks s _,I.toks _,Rep.mono (Fz.le_ext hs) r⟩
theorem s_idx {k:Nat} {sc:Scope} {ev ei:Expr} {pos:Pos} {f g:Lc→Option PV} (H:SoundV k sc ev f) (G:SoundE k sc ei g)
  (hsl:∀ o i,subscripted ei false o i=operate [o,i] (getItem o i)):SoundE k sc (.Subscript ev ei pos) (c2 idxPV f g):=by
 intro C A env F l s p R S h
 obtain ⟨a,b,ha,hb,ho⟩:=c2_some h
 refine PyProof.Rows.Subscript_ (H.use R S ha fun va s₁ X₁ S₁ r₁=>G.use R S₁ hb fun vb s₂ X₂ S₂ r₂=>?_)
 exact (idx_ok S₂.inv S₂.sub (r₁.step S₁.inv X₂ S₁.sub) r₂ ho (hsl _ _)).mono fun v s₃ P=>Post.lift S.inv X₁ (Post.lift S₁.inv X₂ P)
structure Glo (x:PStr) (v:Value):Prop where
 here:∀ P,nsIn (KT P) mainGlobals x=some (some v)
 nd:(x == ("__debug__":PySem.Str))=false
structure Bui (x:PStr) (v:Value):Prop where
 off:∀ P,nsIn (KT P) mainGlobals x=some Option.none
 boot:bootBuiltins x=some v
 nn:x≠ofString "__name__"
 nd:(x == ("__debug__":PySem.Str))=false
inductive GV (x:PStr) (v:Value):Prop
 | g:Glo x v→GV x v
 | b:Bui x v→GV x v
theorem zC6 {C:Cx} {A:Around} {sc:Scope} {env:Env} {s:Shared} {x:PStr} {v:Value} {pos:Pos} {Q:Value→Shared→Prop} (O:EnvOK sc env) (I:Inv C s) (G:GV x v)
  (hx:sc.names.lookup x=some .globalImplicit) (h:Q v s):WP C A (eval (.Name x pos) env) Q s:=by
 have hk:env.scope.kind = .function:=by rw [O.scope]; exact O.kind
 cases G with
 | g G=>exact Name_function_global hk (by rw [O.kindOf]; exact hx) (loadGlobal_global (by rw [O.glob]; exact I.g) (mg_of I.K I.g (G.here _)) h) G.nd
 | b G=>exact Name_function_global hk (by rw [O.kindOf]; exact hx) (loadGlobal_builtin (by rw [O.glob]; exact I.g) (mg_none_of I.K I.g (G.off _)) (by rw [O.bt]; exact I.b) ((C.bt x G.nn).trans G.boot) h) G.nd
noncomputable def Stars (es:List Expr):Prop:=∀ env,starEach es env=es.map fun e=>(false,eval e env)
theorem zI6 {k:Nat} {sc:Scope} {e:Expr} {es:List Expr} {fs:Lc→Option (List PV)} (hst:Stars (e :: es)) (H:SoundEs k sc (e :: es) fs) {C:Cx} {A:Around} {env:Env} {F:Fz} {l:Lc} {s:Shared} {ps:List PV} {pos:Pos} {fv:Value}
  {Q:Args→Shared→Prop} (R:Room k A) (S:XS C sc env F l s) (h:fs l=some ps) (next:∀ vs s₁,Ext s s₁→XS C sc env (F.ext s s₁) l s₁→RepL C.w (F.ext s s₁) ps vs→Q ⟨vs,[]⟩ s₁) :
  WP C A (evalArgs fv true (backTo pos (starEach (e :: es) env)) []) Q s:=by
 have z:=H.use (pos:=pos) (Q:=fun vs s'=>Q ⟨vs,[]⟩ s') R S h next
 rw [hst env] at z ⊢
 exact evalArgs_plain z
theorem zC1 {es:List Expr} (hst:Stars es) {env:Env} {pos:Pos}:(backTo pos (starEach es env)).any (·.1)=false:=by
 rw [hst env]; unfold backTo
 clear hst
 induction es with
 | nil=>rfl
 | cons e es ih=>exact ih
noncomputable def FnSound (k:Nat) (a:Addr) (φ:List PV→Option PV):Prop :=
 ∀ (C:Cx) (A:Around) (F:Fz) (s:Shared) (ps:List PV) (p:PV) (vs:List Value),Room (k + 1) A→Inv C s→F.sub s.heap→F.offTab→RepL C.w F ps vs→φ ps=some p→WP C A (call (.ref a) vs) (Post C F s p) s
noncomputable def IsFn (a:Addr):Prop:=∀ P,∃ o fd,(KT P).lookup a=some o∧o.data = .func fd
theorem s_call {k:Nat} {sc:Scope} {x:PStr} {np pos:Pos} {a:Addr} {e:Expr} {es:List Expr} {fs:Lc→Option (List PV)} {φ:List PV→Option PV} (H:FnSound k a φ) (G:GV x (.ref a)) (hf:IsFn a)
  (hx:sc.names.lookup x=some .globalImplicit) (hst:Stars (e :: es)) (Hs:SoundEs (k + 1) sc (e :: es) fs):SoundE (k + 1) sc (.Call (.Name x np) (e :: es) [] pos) (fun l=>(fs l).bind φ):=by
 intro C A env F l s p R S h
 obtain ⟨ps,hps,h⟩:=bind_eq_some_iff.mp h
 show WP C A (do callWith pos (← eval (.Name x np) env) [] (backTo pos (starEach (e :: es) env)) (backToKw pos (keywordEach [] env))) _ s
 refine wpAny_bind (zC6 S.ok S.inv G hx ?_)
 obtain ⟨o,fd,hl,hd⟩:=hf C.w.params
 refine callWith_function (o:=o) (fd:=fd) (zI6 hst Hs R S hps fun vs s₁ X₁ S₁ r₁=>⟨⟨S₁.inv.K _ _ hl,hd⟩,?_⟩)
 exact (H C A _ s₁ ps p vs R S₁.inv S₁.sub S₁.off r₁ h).mono fun v s₂ P=>Post.lift S.inv X₁ P
noncomputable def BSound (k:Nat) (fv:Value) (φ:List PV→Option PV):Prop :=
 ∀ (C:Cx) (A:Around) (F:Fz) (s:Shared) (ps:List PV) (p:PV) (vs:List Value),Room k A→Inv C s→F.sub s.heap→F.offTab→RepL C.w F ps vs→φ ps=some p→WP C A (call fv vs) (Post C F s p) s
theorem zH5 {k:Nat} {sc:Scope} {x:PStr} {np pos:Pos} {id:String} {e:Expr} {es:List Expr} {fs:Lc→Option (List PV)} {φ:List PV→Option PV} (H:BSound k (.builtin id) φ) (G:GV x (.builtin id))
  (hx:sc.names.lookup x=some .globalImplicit) (hst:Stars (e :: es)) (Hs:SoundEs k sc (e :: es) fs):SoundE k sc (.Call (.Name x np) (e :: es) [] pos) (fun l=>(fs l).bind φ):=by
 intro C A env F l s p R S h
 obtain ⟨ps,hps,h⟩:=bind_eq_some_iff.mp h
 show WP C A (do callWith pos (← eval (.Name x np) env) [] (backTo pos (starEach (e :: es) env)) (backToKw pos (keywordEach [] env))) _ s
 refine wpAny_bind (zC6 S.ok S.inv G hx ?_)
 refine callWith_builtin (zC1 hst) (zI6 hst Hs R S hps fun vs s₁ X₁ S₁ r₁=>?_)
 exact (H C A _ s₁ ps p vs R S₁.inv S₁.sub S₁.off r₁ h).mono fun v s₂ P=>Post.lift S.inv X₁ P
theorem s_type {k:Nat} {sc:Scope} {x:PStr} {np pos:Pos} {T:String} {e:Expr} {es:List Expr} {fs:Lc→Option (List PV)} {φ:List PV→Option PV} (H:BSound k (.type T) φ) (G:GV x (.type T))
  (hx:sc.names.lookup x=some .globalImplicit) (hst:Stars (e :: es)) (Hs:SoundEs k sc (e :: es) fs):SoundE k sc (.Call (.Name x np) (e :: es) [] pos) (fun l=>(fs l).bind φ):=by
 intro C A env F l s p R S h
 obtain ⟨ps,hps,h⟩:=bind_eq_some_iff.mp h
 show WP C A (do callWith pos (← eval (.Name x np) env) [] (backTo pos (starEach (e :: es) env)) (backToKw pos (keywordEach [] env))) _ s
 refine wpAny_bind (zC6 S.ok S.inv G hx ?_)
 refine PySem.callWith_type (zC1 hst) (zI6 hst Hs R S hps fun vs s₁ X₁ S₁ r₁=>?_)
 exact (H C A _ s₁ ps p vs R S₁.inv S₁.sub S₁.off r₁ h).mono fun v s₂ P=>Post.lift S.inv X₁ P
noncomputable def VSound (k:Nat) (fv:Value) (φ:PV→Option PV):Prop :=
 ∀ (C:Cx) (A:Around) (F:Fz) (s:Shared) (q p:PV) (v:Value),Room k A→Inv C s→F.sub s.heap→F.offTab→View C.w F s.heap q v→φ q=some p→WP C A (call fv [v]) (Post C F s p) s
theorem s_view1 {k:Nat} {sc:Scope} {x:PStr} {np pos:Pos} {id:String} {e:Expr} {f:Lc→Option PV} {φ:PV→Option PV} (H:VSound k (.builtin id) φ) (G:GV x (.builtin id))
  (hx:sc.names.lookup x=some .globalImplicit) (hst:Stars [e]) (He:SoundV k sc e f):SoundE k sc (.Call (.Name x np) [e] [] pos) (fun l=>(f l).bind φ):=by
 intro C A env F l s p R S h
 obtain ⟨q,hq,h⟩:=bind_eq_some_iff.mp h
 show WP C A (do callWith pos (← eval (.Name x np) env) [] (backTo pos (starEach [e] env)) (backToKw pos (keywordEach [] env))) _ s
 refine wpAny_bind (zC6 S.ok S.inv G hx ?_)
 rw [hst env]
 exact callWith_builtin1 (He.use R S hq fun v s₁ X₁ S₁ r₁=>(H C A _ s₁ q p v R S₁.inv S₁.sub S₁.off r₁ h).mono fun v s₂ P=>Post.lift S.inv X₁ P)
noncomputable def lenPV (p:PV):Option PV:=p.sel (fun _=>Option.none) (fun x=>if x.length≤sizeLine then some (.int x.length) else Option.none) (fun xs=>if xs.length≤sizeLine then some (.int xs.length) else Option.none) (fun xs=>if xs.length≤sizeLine then some (.int xs.length) else Option.none)
theorem b_len {k:Nat}:VSound k (.builtin "len") lenPV:=by
 intro C A F s q p v R I hs hT r h
 refine PV.sel_inv h (fun _ _ h=>no h) (fun x e h=>?_) (fun xs e h=>?_) fun xs e h=>?_ <;> obtain rfl:=e <;> obtain ⟨hz,rfl⟩:=zG0 h
 ·obtain ⟨t,rfl⟩:=zB6 (show Rep C.w F (.str x) v from r)
  exact P.len_str (by unfold sizeLine at hz; lia) (Post.int I _)
 ·obtain ⟨a,vs,n,rfl,f,l⟩:=r
  obtain hl:vs.size=xs.length:=length_toList.symm.trans l.length
  exact P.len_tuple (n:=n) f (by rw [hl]; unfold sizeLine at hz; lia) (hl ▸ Post.int I _)
 ·obtain ⟨a,vs,n,rfl,f,l⟩:=r
  obtain hl:vs.size=xs.length:=length_toList.symm.trans l.length
  exact call_len_list ⟨_,f,rfl,n,rfl⟩ (by rw [hl]; unfold sizeLine at hz; lia) (hl ▸ Post.int I _)
structure Vars (C:Cx) (env:Env) (F K:Fz) (l:Lc) (s:Shared) (ad:PStr→Addr):Prop where
 var:∀ x q,look l x=some q→∃ v,Bd env s.heap x v∧LocRep C.w F s.heap v q∧(q.own=true→v = .ref (ad x))
 priv:∀ x q,look l x=some q→q.own=true→K (ad x)=Option.none∧ad x≠env.locals∧∀ y c,env.cells.lookup y=some c→ad x≠c
 sep:∀ x y p q,look l x=some p→look l y=some q→p.own=true→q.own=true→ad x=ad y→x=y
structure FS (C:Cx) (sc:Scope) (env:Env) (s₀:Shared) (F₀ F K:Fz) (l:Lc) (s:Shared):Prop where
 ok:EnvOK sc env
 inv₀:Inv C s₀
 inv:Inv C s
 ext:Ext s₀ s
 k0:∀ b o,s₀.heap.get? b=some o→isTab b=false→K b=some o
 fk:F.le K
 sub:K.sub s.heap
 off:K.offTab
 f0:F₀.le F
 agree:∀ b o,F b=some o→(s₀.heap.get? b).isSome=true→F₀ b=some o
 loc:(∃ m,s.heap.Ns env.locals m)∧K env.locals=Option.none
 cells:∀ x c,env.cells.lookup x=some c→(∃ v,s.heap.IsCell c v)∧K c=Option.none
 cinj:∀ x y c,env.cells.lookup x=some c→env.cells.lookup y=some c→x=y
 vars:∃ ad,Vars C env F K l s ad
theorem OldK.step_off {h₀ h h':Heap} (K:OldK h₀ h) (hk:∀ b o,(h₀.get? b).isSome=true→h.get? b=some o→h'.get? b=some o):OldK h₀ h':=by
 refine ⟨fun b o e=>?_,fun b o e=>by obtain ⟨o',ho'⟩:=K.there b o e; exact ⟨o',hk _ _ (lv e) ho'⟩⟩
 have hk:=hk b
 rcases K.old b o e with x | ⟨t,hc,vs,more,hv,x⟩ | ⟨rfl,hc,⟨o',es,n,ho',r⟩,z⟩
 ·exact .inl (hk _ (lv e) x)
 ·exact .inr (.inl ⟨t,hc,vs,more,hv,hk _ (lv e) x⟩)
 ·exact .inr (.inr ⟨rfl,hc,⟨o',es,n,hk _ (lv e) ho',r⟩,fun key=>by rw [OldK.staticOf_congr ((hk _ (lv e) ho').trans ho'.symm) key]; exact z key⟩)
theorem lim_lv {h:Heap} (n:h.NoLimit) {P:Prop} {a:Addr} (k:(h.get? a).isSome=true→P) (e:a=cStatics):P:=by subst e; obtain ⟨mc,n,_⟩:=n; exact k (ns_lv n)
theorem Inv.off {C:Cx} {s s₀:Shared} (I:Inv C s) (I₀:Inv C s₀) {h':Heap} (tk:Nat) (hk:∀ b o,(s₀.heap.get? b).isSome=true→s.heap.get? b=some o→h'.get? b=some o):Inv C { s with heap:=h',toks:=tk } where
 old:=OldK.step_off I.old fun b o l=>hk b o (by obtain ⟨o,l⟩:=isSome_iff_exists.mp l; obtain ⟨o'',e'⟩:=I₀.old.there b o l; exact lv e')
 K:=fun b o e=>hk b o (lv (I₀.K b o e)) (I.K b o e)
 t62:=by obtain ⟨ps,e,r⟩:=I.t62; exact ⟨ps,hk _ _ (I₀.tabLive rfl) e,r⟩
 t69:=by obtain ⟨ps,e,r⟩:=I.t69; exact ⟨ps,hk _ _ (I₀.tabLive rfl) e,r⟩
 g:=I.g.at fun o=>hk _ o (ns_lv I₀.g)
 b:=I.b.at fun o=>hk _ o (ns_lv I₀.b)
 lim:=I.lim.at fun o=>lim_lv I₀.lim (fun l=>hk _ o l) rfl
 gens:=I.gens
 drawn:=I.drawn
 os:=I.os
theorem FS.chas {C:Cx} {sc:Scope} {env:Env} {s₀ s:Shared} {F₀ F K:Fz} {l:Lc} (S:FS C sc env s₀ F₀ F K l s):∀ x,env.kindOf x=some .cell→∃ c,env.cells.lookup x=some c:=S.ok.chas
theorem FS.fsub {C:Cx} {sc:Scope} {env:Env} {s₀ s:Shared} {F₀ F K:Fz} {l:Lc} (S:FS C sc env s₀ F₀ F K l s):F.sub s.heap:=fun b o e=>S.sub b o (S.fk b o e)
theorem FS.foff {C:Cx} {sc:Scope} {env:Env} {s₀ s:Shared} {F₀ F K:Fz} {l:Lc} (S:FS C sc env s₀ F₀ F K l s):F.offTab:=fun b e=>ton fun o h=>nos (S.off b e) (S.fk b o h)
theorem FS.xs {C:Cx} {sc:Scope} {env:Env} {s₀ s:Shared} {F₀ F K:Fz} {l:Lc} (S:FS C sc env s₀ F₀ F K l s):XS C sc env F l s where
 ok:=S.ok
 inv:=S.inv
 sub:=S.fsub
 off:=S.foff
 loc:=fun x q h _=>by obtain ⟨ad,V⟩:=S.vars; obtain ⟨v,b,r,_⟩:=V.var x q h; exact ⟨v,b,r⟩
noncomputable def Fz.or (K F:Fz):Fz:=fun b=>match K b with | some o=>some o | Option.none=>F b
theorem Fz.or_some {K F:Fz} {b:Addr} {o:Obj} (e:K b=some o):K.or F b=some o:=by unfold Fz.or; rw [e]
theorem Fz.or_none {K F:Fz} {b:Addr} (e:K b=Option.none):K.or F b=F b:=by unfold Fz.or; rw [e]
theorem Fz.le_or {K F:Fz}:K.le (K.or F):=fun b o e=>Fz.or_some e
structure Grew (F K:Fz) (s:Shared) (F' K':Fz) (s':Shared):Prop where
 k:K.le K'
 f:∀ b,(s.heap.get? b).isSome=true→F' b=F b
 live:∀ b,(s.heap.get? b).isSome=true→(s'.heap.get? b).isSome=true
theorem Grew.refl (F K:Fz) (s:Shared):Grew F K s F K s:=⟨.refl K,fun _ _=>rfl,fun _ e=>e⟩
theorem Grew.trans {F K F' K' F'' K'':Fz} {s s' s'':Shared} (a:Grew F K s F' K' s') (b:Grew F' K' s' F'' K'' s''):Grew F K s F'' K'' s'' :=
 ⟨a.k.trans b.k,fun x e=>(b.f x (a.live x e)).trans (a.f x e),fun x e=>b.live x (a.live x e)⟩
theorem Grew.fle {F K F' K':Fz} {s s':Shared} (a:Grew F K s F' K' s') (hs:F.sub s.heap):F.le F':=fun b o e=>(a.f b (lv (hs b o e))).trans e
theorem LocRep.step' {C:Cx} {w:World} {F F':Fz} {s s':Shared} {v:Value} {q:Loc} (I:Inv C s) (X:Ext s s') (hle:F.le F') (hf:∀ b,(s.heap.get? b).isSome=true→F' b=F b) (h:LocRep w F s.heap v q):LocRep w F' s'.heap v q :=
 h.mv hle (fun _ _ _ _ e n=>X.kept I e n) fun _ a _ f l=>(hf a l).trans f
theorem LocRep.obj {w:World} {F:Fz} {h:Heap} {a:Addr} {q:Loc} (r:LocRep w F h (.ref a) q) (o:q.own=true):∃ o,h.get? a=some o∧F a=Option.none∧∀ ps,o≠tableObj ps:=by
 cases q with
 | fz p=>exact bno rfl o
 | ow p=>obtain ⟨b,o,e,fa,ho,r⟩:=r; obtain rfl:=refI e; exact ⟨o,ho,fa,r.tab⟩
 | acc st its=>obtain ⟨b,e,dx,vs,n,t,k,ha,_,fa,_⟩:=r; obtain rfl:=refI e; exact ⟨_,ha,fa,zJ2 rfl⟩
theorem Vars.obj {C:Cx} {env:Env} {F K:Fz} {l:Lc} {s:Shared} {ad:PStr→Addr} (V:Vars C env F K l s ad) {x:PStr} {q:Loc} (h:look l x=some q) (o:q.own=true):∃ o,s.heap.get? (ad x)=some o∧F (ad x)=Option.none∧∀ ps,o≠tableObj ps:=by
 obtain ⟨v,b,r,z⟩:=V.var x q h
 exact (show LocRep C.w F s.heap (.ref (ad x)) q from z o ▸ r).obj o
theorem FS.growK {C:Cx} {sc:Scope} {env:Env} {s₀ s s':Shared} {F₀ F K F' K':Fz} {l:Lc} (S:FS C sc env s₀ F₀ F K l s) (X:Ext s s') (I:Inv C s') (hf:∀ b,(s.heap.get? b).isSome=true→F' b=F b)
  (hk:K.le K') (hfk:F'.le K') (hs:K'.sub s'.heap) (hT:K'.offTab) (hp:∀ b,(s.heap.get? b).isSome=true→K b=Option.none→K' b=Option.none) :
  FS C sc env s₀ F₀ F' K' l s'∧Grew F K s F' K' s':=by
 have hle:F.le F':=fun b o e=>(hf b (lv (S.fsub b o e))).trans e
 have hL:=S.loc
 obtain ⟨m,hm⟩:=hL.1
 refine ⟨⟨S.ok,S.inv₀,I,S.ext.trans X,fun b o e t=>hk b o (S.k0 b o e t),hfk,hs,hT,S.f0.trans hle,fun b o e lv=>S.agree b o ((hf b (S.ext.live b lv)).symm.trans e) lv,⟨⟨m,ns_kept X S.inv hm⟩,hp _ (ns_lv hm) hL.2⟩,fun x c hc=>?_,S.cinj,?_⟩,hk,hf,fun b e=>X.live b e⟩
 ·obtain ⟨⟨v,hv⟩,kc⟩:=S.cells x c hc
  exact ⟨⟨v,cell_kept X S.inv hv⟩,hp c (cell_lv hv) kc⟩
 ·obtain ⟨ad,V⟩:=S.vars
  refine ⟨ad,fun x q h=>?_,fun x q h o=>?_,V.sep⟩
  ·obtain ⟨v,b,r,z⟩:=V.var x q h
   exact ⟨v,b.step S.inv X,r.step' S.inv X hle hf,z⟩
  ·obtain ⟨k,n⟩:=V.priv x q h o
   obtain ⟨o',ho,_⟩:=V.obj h o
   exact ⟨hp _ (lv ho) k,n⟩
theorem FS.grow {C:Cx} {sc:Scope} {env:Env} {s₀ s s':Shared} {F₀ F K F':Fz} {l:Lc} (S:FS C sc env s₀ F₀ F K l s) (X:Ext s s') (I:Inv C s') (hs:F'.sub s'.heap) (hT:F'.offTab) (hf:∀ b,(s.heap.get? b).isSome=true→F' b=F b) :
  FS C sc env s₀ F₀ F' (K.or F') l s'∧Grew F K s F' (K.or F') s':=by
 refine S.growK X I hf Fz.le_or (fun b o e=>?_) (fun b o e=>?_) (fun b e=>(Fz.or_none (S.off b e)).trans (hT b e)) (fun a ha hk=>(Fz.or_none hk).trans ((hf a ha).trans (ton fun o h=>nos hk (S.fk a o h))))
 ·cases h:K b with
  | none=>exact (Fz.or_none h).trans e
  | some o'=>exact (Fz.or_some h).trans (h.symm.trans (S.fk b o ((hf b (lv (S.sub b o' h))).symm.trans e)))
 ·cases h:K b with
  | none=>exact hs b o ((Fz.or_none h).symm.trans e)
  | some o'=>exact (Fz.sub_step S.sub S.off X b o' h).trans ((Fz.or_some h).symm.trans e)
theorem FS.step {C:Cx} {sc:Scope} {env:Env} {s₀ s s':Shared} {F₀ F K:Fz} {l:Lc} (S:FS C sc env s₀ F₀ F K l s) (X:Ext s s') (I:Inv C s') :
  FS C sc env s₀ F₀ (F.ext s s') (K.or (F.ext s s')) l s'∧Grew F K s (F.ext s s') (K.or (F.ext s s')) s' :=
 S.grow X I (Fz.ext_sub (Fz.sub_step S.fsub S.foff X)) (Fz.offTab_ext S.foff S.inv) fun b e=>Fz.ext_old e
theorem FS.old0 {C:Cx} {sc:Scope} {env:Env} {s₀ s:Shared} {F₀ F K:Fz} {l:Lc} (S:FS C sc env s₀ F₀ F K l s) {b:Addr} (h:s.heap.get? b=Option.none):s₀.heap.get? b=Option.none:=ton fun _ e=>nol h (S.ext.live b (lv e))
theorem FS.oldK {C:Cx} {sc:Scope} {env:Env} {s₀ s:Shared} {F₀ F K:Fz} {l:Lc} (S:FS C sc env s₀ F₀ F K l s) {b:Addr} (h:s.heap.get? b=Option.none):K b=Option.none:=ton fun o e=>nos h (S.sub b o e)
theorem FS.fresh {C:Cx} {sc:Scope} {env:Env} {s₀ s:Shared} {F₀ F K:Fz} {l:Lc} (S:FS C sc env s₀ F₀ F K l s) {a:Addr} {o:Obj} (ha:s.heap.get? a=some o) (hn:∀ ps,o≠tableObj ps) (hk:K a=Option.none):s₀.heap.get? a=Option.none :=
 ton fun o' h=>nos hk (S.k0 a o' h (S.inv.offTab ha hn))
theorem KT_off {P:Params} {a:Addr} {o:Obj} (h:(KT P).lookup a=some o):isTab a=false:=by
 unfold KT at h
 have:∀ (L:Frag),(L.filter fun p=>!isTab p.1).lookup a=some o→isTab a=false:=by
  intro L
  induction L with
  | nil=>intro h; cases h
  | cons p L ih =>
   intro h
   cases q:isTab p.1 with
   | true =>
    rw [List.filter_cons] at h
    simp only [q,Bool.not_true,false_eq_true,if_false] at h
    exact ih h
   | false =>
    rw [List.filter_cons] at h
    simp only [q,Bool.not_false,if_true] at h
    rw [lookup_cons] at h
    cases e:a == p.1 with
    | true=>rw [beq_iff_eq.mp e]; exact q
    | false=>rw [e] at h; exact ih h
 exact this _ h
theorem Inv.write {C:Cx} {s:Shared} (I:Inv C s) {s₀:Shared} (I₀:Inv C s₀) {a:Addr} {h':Heap} (tk:Nat) (hs:SameBut a s.heap h') (z:s₀.heap.get? a=Option.none):Inv C { s with heap:=h',toks:=tk } :=
 I.off I₀ tk fun b o l e=>(hs.2 b fun q=>nol z (q ▸ l)).trans e
theorem Bd.same {env:Env} {h h':Heap} {x:PStr} {v:Value} {a:Addr} (hs:SameBut a h h') (hL:a≠env.locals) (hc:∀ y c,env.cells.lookup y=some c→a≠c) (b:Bd env h x v):Bd env h' x v :=
 b.mv (fun _=>(hs.2 _ hL.symm).trans) fun c _ l=>(hs.2 c (hc _ _ l).symm).trans
theorem LocRep.same {w:World} {F:Fz} {h h':Heap} {v:Value} {q:Loc} {a:Addr} (hs:SameBut a h h') (hne:q.own=true→v≠.ref a) (r:LocRep w F h v q):LocRep w F h' v q :=
 r.mv (.refl F) (fun o b _ e h _=>(hs.2 b fun q=>hne o (q ▸ e)).trans h) fun _ _ _ f _=>f
theorem look_cons {x y:PStr} {q:Loc} {l:Lc}:look ((x,q) :: l) y=if y=x then some q else look l y:=by
 unfold look
 rw [lookup_cons]
 by_cases h:y=x
 ·rw [if_pos h,beq_iff_eq.mpr h]
 ·rw [if_neg h,beq_eq_false_iff_ne.mpr h]
theorem zD3 {x y:PStr} {q p:Loc} {l:Lc} {P:Prop} (h:look ((x,q) :: l) y=some p) (h1:y=x→p=q→P) (h2:y≠x→look l y=some p→P):P:=by
 have h:=look_cons.symm.trans h
 by_cases e:y=x
 ·exact h1 e (Option.some.inj (h.symm.trans (if_pos e)))
 ·exact h2 e ((if_neg e).symm.trans h)
theorem upd_ad (ad:PStr→Addr) (x:PStr) (b:Addr):∃ ad':PStr→Addr,ad' x=b∧∀ y,y≠x→ad' y=ad y:=⟨fun y=>if y=x then b else ad y,if_pos rfl,fun _ e=>if_neg e⟩
theorem live_but {h h':Heap} {a:Addr} (hs:SameBut a h h') (ha:(h'.get? a).isSome=true) {c:Addr} (hc:(h.get? c).isSome=true):(h'.get? c).isSome=true:=by
 by_cases e:c=a
 ·exact e ▸ ha
 ·rw [hs.2 c e]; exact hc
noncomputable def Fz.del (K:Fz) (a:Addr):Fz:=fun b=>if b=a then Option.none else K b
section
variable {C:Cx} {sc:Scope} {env:Env} {s₀ s:Shared} {F₀ F K:Fz} {l:Lc}
theorem FS.frame (S:FS C sc env s₀ F₀ F K l s) {a:Addr} {o:Obj} {h':Heap} {tk:Nat} {l':Lc} {K':Fz} (ha:s.heap.get? a=some o) (hn:∀ ps,o≠tableObj ps) (hk:K a=Option.none) (hs:SameBut a s.heap h')
  (hK:∀ b,K' b=K b ∨ (K' b=Option.none∧F b=Option.none∧s₀.heap.get? b=Option.none))
  (hL:∃ m,h'.Ns env.locals m) (hc:∀ y c,env.cells.lookup y=some c→∃ v,h'.IsCell c v)
  (hv:∃ ad,Vars C env F K' l' { s with heap:=h',toks:=tk } ad):FS C sc env s₀ F₀ F K' l' { s with heap:=h',toks:=tk }:=by
 have z:=S.fresh ha hn hk
 have zn:∀ {b},(s₀.heap.get? b).isSome=true→b≠a:=fun e q=>nol z (q ▸ e)
 have kn:∀ b,K b=Option.none→K' b=Option.none:=fun b e=>(hK b).elim (fun q=>q.trans e) (fun q=>q.1)
 have kk:∀ b o,K' b=some o→K b=some o:=fun b o e=>(hK b).elim (fun q=>q.symm.trans e) (fun q=>nos q.1 e)
 refine ⟨S.ok,S.inv₀,S.inv.write S.inv₀ tk hs z,⟨fun b o e t=>(hs.2 b (zn (lv e))).trans (S.ext.keep b o e t),fun b e=>?_⟩,fun b o e t=>(hK b).elim (fun q=>q.trans (S.k0 b o e t)) (fun q=>nos q.2.2 e),
  fun b o e=>(hK b).elim (fun q=>q.trans (S.fk b o e)) (fun q=>nos q.2.1 e),fun b o e=>(hs.2 b fun q=>nos hk (q ▸ kk b o e)).trans (S.sub b o (kk b o e)),fun b e=>kn b (S.off b e),S.f0,S.agree,⟨hL,kn _ S.loc.2⟩,fun x c h=>⟨hc x c h,kn _ (S.cells x c h).2⟩,S.cinj,hv⟩
 show (h'.get? b).isSome=true
 rw [hs.2 b (zn e)]; exact S.ext.live b e
theorem ns_not_tab {h:Heap} {a:Addr} {m} (n:h.Ns a m):∃ o,h.get? a=some o∧∀ ps,o≠tableObj ps:=by
 obtain ⟨o,es,ep,ho,hd,r⟩:=n
 exact ⟨o,ho,zI5 hd⟩
theorem cell_not_tab {h:Heap} {a:Addr} {v} (n:h.IsCell a v):∃ o,h.get? a=some o∧∀ ps,o≠tableObj ps:=by
 obtain ⟨o,ho,hd⟩:=n
 exact ⟨o,ho,cell_tab hd⟩
theorem zK9 {h:Heap} {a c:Addr} {m v} (n:h.Ns a m) (k:h.IsCell c v):a≠c:=by
 intro e
 obtain ⟨o,es,ep,ho,hd,r⟩:=n
 obtain ⟨o',ho',hd'⟩:=k
 have e:=uniq ho (e ▸ ho')
 subst e
 cases hd.symm.trans hd'
noncomputable def NewOwn (env:Env) (F K:Fz) (s₀ s:Shared) (v:Value) (b:Addr):Prop :=
 v = .ref b∧(∃ o,K b=some o)∧F b=Option.none∧s₀.heap.get? b=Option.none
theorem Vars.put {env:Env} {ad:PStr→Addr} (V:Vars C env F K l s ad) {s':Shared} {K':Fz} {x:PStr} {v:Value} {q:Loc} {b:Addr} (hb:Bd env s'.heap x v) (r:LocRep C.w F s'.heap v q)
  (hq:q.own=true→v = .ref b∧(K' b=Option.none∧b≠env.locals∧∀ y c,env.cells.lookup y=some c→b≠c)∧∀ y p,y≠x→look l y=some p→p.own=true→ad y≠b)
  (hbd:∀ y u,y≠x→Bd env s.heap y u→Bd env s'.heap y u)
  (hr:∀ y u p,y≠x→look l y=some p→(p.own=true→u = .ref (ad y))→LocRep C.w F s.heap u p→LocRep C.w F s'.heap u p)
  (hK:∀ y p,y≠x→look l y=some p→p.own=true→K (ad y)=Option.none→K' (ad y)=Option.none):∃ ad',Vars C env F K' ((x,q) :: l) s' ad':=by
 obtain ⟨ad',e1,e2⟩:=upd_ad ad x b
 refine ⟨ad',fun y p h=>zD3 h (fun e e'=>?_) (fun e h=>?_),fun y p h o=>zD3 h (fun e e'=>?_) (fun e h=>?_),fun y z p p' h h' o o' ee=>zD3 h (fun e e'=>zD3 h' (fun i _=>e.trans i.symm) (fun i h'=>?_)) (fun e h=>zD3 h' (fun i i'=>?_) (fun i h'=>?_))⟩
 ·rw [e,e',e1]; exact ⟨v,hb,r,fun o=>(hq o).1⟩
 ·obtain ⟨u,bu,ru,zu⟩:=V.var y p h
  rw [e2 y e]
  exact ⟨u,hbd y u e bu,hr y u p e h zu ru,zu⟩
 ·rw [e,e1]; exact (hq (e' ▸ o)).2.1
 ·have k:=V.priv y p h o
  rw [e2 y e]; exact ⟨hK y p e h o k.1,k.2⟩
 ·rw [e,e1,e2 z i] at ee
  exact absurd ee.symm ((hq (e' ▸ o)).2.2 z p' i h' o')
 ·rw [i,e1,e2 y e] at ee
  exact absurd ee ((hq (i' ▸ o')).2.2 y p e h o)
 ·rw [e2 y e,e2 z i] at ee
  exact V.sep y z p p' h h' o o' ee
theorem ref_ne {a b:Addr} {u:Value} (e:u = .ref a) (h:a≠b):u≠.ref b:=fun q=>h (refI (e.symm.trans q))
open Classical in
theorem FS.set (S:FS C sc env s₀ F₀ F K l s) {x:PStr} {v:Value} {q:Loc} {h':Heap} {tk:Nat} {a:Addr} {o:Obj} (ha:s.heap.get? a=some o) (hn:∀ ps,o≠tableObj ps) (hk:K a=Option.none) (hs:SameBut a s.heap h')
  (hpa:a=env.locals ∨ ∃ y,env.cells.lookup y=some a)
  (hL:∃ m,h'.Ns env.locals m) (hc:∀ y c,env.cells.lookup y=some c→∃ v,h'.IsCell c v) (hb:Bd env h' x v) (hbd:∀ y u,y≠x→Bd env s.heap y u→Bd env h' y u)
  (r:LocRep C.w F s.heap v q) (b:Addr) (own:q.own=true→NewOwn env F K s₀ s v b) :
  FS C sc env s₀ F₀ F (if q.own=true then K.del b else K) ((x,q) :: l) { s with heap:=h',toks:=tk }:=by
 obtain ⟨ad,V⟩:=S.vars
 have notown:∀ y p,look l y=some p→p.own=true→ad y≠a:=fun y p h o e=>by
  obtain ⟨k,n,c⟩:=V.priv y p h o
  exact hpa.elim (fun i=>n (e.trans i)) (fun ⟨z,hz⟩=>c z a hz e)
 have hdel:∀ c,(if q.own=true then K.del b else K) c=K c ∨ ((if q.own=true then K.del b else K) c=Option.none∧F c=Option.none∧s₀.heap.get? c=Option.none):=fun c=>by
  by_cases ho:q.own=true
  ·rw [if_pos ho]
   by_cases e:c=b
   ·exact .inr ⟨e ▸ if_pos rfl,e ▸ (own ho).2.2⟩
   ·exact .inl (if_neg e)
  ·rw [if_neg ho]; exact .inl rfl
 refine S.frame ha hn hk hs hdel hL hc (V.put (b:=b) hb (r.same hs fun o i=>?_) (fun ho=>?_) hbd (fun y u p e h z r=>r.same hs fun o=>ref_ne (z o) (notown y p h o)) (fun y p e h o k=>(hdel _).elim (fun i=>i.trans k) (fun i=>i.1)))
 ·obtain ⟨e,⟨ob,hkb⟩,_⟩:=own o
  exact nos hk (refI (e.symm.trans i) ▸ hkb)
 ·obtain ⟨e,⟨ob,hkb⟩,_⟩:=own ho
  refine ⟨e,⟨?_,fun e=>nos S.loc.2 (e ▸ hkb),fun y c h e=>nos (S.cells y c h).2 (e ▸ hkb)⟩,fun y p _ h o e=>nos (V.priv y p h o).1 (e ▸ hkb)⟩
  rw [if_pos ho]; exact if_pos rfl
theorem FS.store {A:Around} (S:FS C sc env s₀ F₀ F K l s) {x:PStr} {v:Value} {q:Loc} (hx:sc.names.lookup x=some .local ∨ sc.names.lookup x=some .cell) (r:LocRep C.w F s.heap v q) (b:Addr) (own:q.own=true→NewOwn env F K s₀ s v b)
  {Q:Unit→Shared→Prop} (hQ:∀ s',(∀ c,(s.heap.get? c).isSome=true→(s'.heap.get? c).isSome=true)→FS C sc env s₀ F₀ F (if q.own=true then K.del b else K) ((x,q) :: l) s'→Q () s'):WP C A (storeName env x v) Q s:=by
 have hk:env.scope.kind = .function:=by rw [S.ok.scope]; exact S.ok.kind
 rw [← S.ok.kindOf] at hx
 obtain ⟨m,hm⟩:=S.loc.1
 rcases hx with hx | hx
 ·refine wpAny_storeName_local hx hm (fun h' hn' hs'=>hQ _ (fun _=>live_but hs' (ns_lv hn')) ?_) (by rw [hk]; rfl)
  ·obtain ⟨o,ho,hn⟩:=ns_not_tab hm
   have hc:∀ y c,env.cells.lookup y=some c→∃ v,h'.IsCell c v:=fun y c h=>by
    obtain ⟨⟨v,hv⟩,_⟩:=S.cells y c h
    exact ⟨v,hv.sameBut hs' (zK9 hm hv).symm⟩
   refine S.set ho hn S.loc.2 hs' (.inl rfl) ⟨_,hn'⟩ hc (.loc _ hx hn' (by rw [if_pos rfl])) (fun y u hy bu=>?_) r b own
   cases bu with
   | loc m' k n e =>
    exact .loc _ k hn' ((if_neg hy).trans ((hm.agree n y).trans e))
   | cell c o k lk g d=>exact .cell c o k lk ((hs'.2 c (zK9 hm ⟨o,g,d⟩).symm).trans g) d
   | ghost b' e k g=>exact .ghost b' e k g
 ·obtain ⟨c,hc⟩:=S.chas x hx
  obtain ⟨⟨v₀,hv⟩,kc⟩:=S.cells x c hc
  refine wpAny_storeName_cell hk hx hc hv (fun h' hc' hs'=>hQ _ (fun _=>live_but hs' (cell_lv hc')) ?_)
  ·obtain ⟨o,ho,hn⟩:=cell_not_tab hv
   have hcs:∀ y c',env.cells.lookup y=some c'→∃ v,h'.IsCell c' v:=fun y c' h=>by
    by_cases e:c'=c
    ·subst e; exact ⟨_,hc'⟩
    ·obtain ⟨⟨v,hv⟩,_⟩:=S.cells y c' h
     exact ⟨v,hv.sameBut hs' e⟩
   obtain ⟨o',ho',hd'⟩:=hc'
   refine S.set (tk:=s.toks) ho hn kc hs' (.inr ⟨x,hc⟩) ⟨m,hm.sameBut hs' (zK9 hm hv)⟩ hcs (.cell c o' hx hc ho' hd') (fun y u hy bu=>?_) r b own
   exact bu.mv (fun _=>(hs'.2 _ (zK9 hm hv)).trans) fun c₂ o₂ lk=>(hs'.2 c₂ (fun e=>hy (S.cinj y x c (e ▸ lk) hc))).trans
theorem FS.owned (S:FS C sc env s₀ F₀ F K l s) {x:PStr} {q:Loc} (hx:look l x=some q) (ho:q.own=true) :
  ∃ a,Bd env s.heap x (.ref a)∧LocRep C.w F s.heap (.ref a) q∧K a=Option.none∧∀ h' tk q',SameBut a s.heap h'→q'.own=true→LocRep C.w F h' (.ref a) q'→FS C sc env s₀ F₀ F K ((x,q') :: l) { s with heap:=h',toks:=tk }:=by
 obtain ⟨ad,V⟩:=S.vars
 obtain ⟨v,b,r,zz⟩:=V.var x q hx
 rw [zz ho] at b r
 obtain ⟨k,n,c⟩:=V.priv x q hx ho
 refine ⟨ad x,b,r,k,fun h' tk q' hs ho' r'=>?_⟩
 obtain ⟨m,hm⟩:=S.loc.1
 obtain ⟨o,hoo,_,hn⟩:=r.obj ho
 refine S.frame hoo hn k hs (fun c=>.inl rfl) ⟨m,hm.sameBut hs n.symm⟩ (fun y c' h=>?_) (V.put (b:=ad x) (b.same hs n c) r' (fun _=>⟨rfl,⟨k,n,c⟩,fun y p i h o e=>i (V.sep y x p q h hx o ho e)⟩) (fun y u _=>Bd.same hs n c) (fun y u p i h z r=>r.same hs fun o=>ref_ne (z o) fun e=>i (V.sep y x p q h hx o ho e)) (fun y p _ _ _ k=>k))
 obtain ⟨⟨v,hv⟩,_⟩:=S.cells y c' h
 exact ⟨v,hv.sameBut hs (c y c' h).symm⟩
end
inductive Out where
 | go (l:Lc)
 | brk (l:Lc)
 | ret (p:PV)
inductive Goes (C:Cx) (sc:Scope) (env:Env) (s₀:Shared) (F₀ F K:Fz) (s:Shared) (l':Lc) (s':Shared):Prop
 | mk (F' K':Fz):FS C sc env s₀ F₀ F' K' l' s'→Grew F K s F' K' s'→Goes C sc env s₀ F₀ F K s l' s'
noncomputable def After (C:Cx) (sc:Scope) (env:Env) (s₀:Shared) (F₀ F K:Fz) (s:Shared):Out→Flow→Shared→Prop
 | .go l',fl,s'=>fl = .next∧Goes C sc env s₀ F₀ F K s l' s'
 | .brk l',fl,s'=>fl = .brk∧Goes C sc env s₀ F₀ F K s l' s'
 | .ret p,fl,s'=>∃ v,fl = .ret v∧Ext s₀ s'∧Inv C s'∧Rep C.w (F₀.ext s₀ s') p v
noncomputable def SoundS (k:Nat) (sc:Scope) (st:Stmt) (f:Lc→Option Out):Prop :=
 ∀ (C:Cx) (A:Around) (env:Env) (s₀:Shared) (F₀ F K:Fz) (l:Lc) (s:Shared) (o:Out),Room k A→FS C sc env s₀ F₀ F K l s→f l=some o→WP C A (exec st env) (After C sc env s₀ F₀ F K s o) s
noncomputable def SoundB (k:Nat) (sc:Scope) (sts:List Stmt) (f:Lc→Option Out):Prop :=
 ∀ (C:Cx) (A:Around) (env:Env) (s₀:Shared) (F₀ F K:Fz) (l:Lc) (s:Shared) (o:Out),Room k A→FS C sc env s₀ F₀ F K l s→f l=some o→WP C A (execs sts env) (After C sc env s₀ F₀ F K s o) s
noncomputable def goO (g:Lc→Option Out):Out→Option Out
 | .go l=>g l
 | o=>some o
noncomputable def seqO (f g:Lc→Option Out):Lc→Option Out:=fun l=>(f l).bind (goO g)
theorem Goes.refl {C:Cx} {sc:Scope} {env:Env} {s₀ s:Shared} {F₀ F K:Fz} {l:Lc} (S:FS C sc env s₀ F₀ F K l s):Goes C sc env s₀ F₀ F K s l s:=⟨F,K,S,.refl F K s⟩
theorem Goes.trans {C:Cx} {sc:Scope} {env:Env} {s₀ s s₁ s₂:Shared} {F₀ F K F₁ K₁:Fz} {l:Lc} (h:Goes C sc env s₀ F₀ F₁ K₁ s₁ l s₂) (g:Grew F K s F₁ K₁ s₁):Goes C sc env s₀ F₀ F K s l s₂:=by
 obtain ⟨F₂,K₂,S,g'⟩:=h; exact ⟨F₂,K₂,S,g.trans g'⟩
theorem After.trans {C:Cx} {sc:Scope} {env:Env} {s₀ s s₁ s₂:Shared} {F₀ F K F₁ K₁:Fz} {o:Out} {fl:Flow} (g:Grew F K s F₁ K₁ s₁) (h:After C sc env s₀ F₀ F₁ K₁ s₁ o fl s₂):After C sc env s₀ F₀ F K s o fl s₂:=by
 cases o with
 | go l=>exact ⟨h.1,h.2.trans g⟩
 | brk l=>exact ⟨h.1,h.2.trans g⟩
 | ret p=>exact h
theorem b_nil {k:Nat} {sc:Scope}:SoundB k sc [] (fun l=>some (.go l)):=by
 intro C A env s₀ F₀ F K l s o R S h
 cases h
 exact wpAny_execs_nil ⟨rfl,.refl S⟩
theorem b_cons {k:Nat} {sc:Scope} {st:Stmt} {sts:List Stmt} {f g:Lc→Option Out} (H:SoundS k sc st f) (G:SoundB k sc sts g):SoundB k sc (st :: sts) (seqO f g):=by
 intro C A env s₀ F₀ F K l s o R S h
 obtain ⟨o₁,h1,h2⟩:=bind_eq_some_iff.mp h
 refine wpAny_execs_cons ((H C A env s₀ F₀ F K l s o₁ R S h1).mono fun fl s₁ P=>?_)
 cases o₁ with
 | go l₁ =>
  obtain ⟨rfl,F₁,K₁,S₁,g₁⟩:=P
  exact (G C A env s₀ F₀ F₁ K₁ l₁ s₁ o R S₁ h2).mono fun fl s₂ P=>P.trans g₁
 | brk l₁=>cases h2; obtain ⟨rfl,P⟩:=P; exact ⟨rfl,P⟩
 | ret p=>cases h2; obtain ⟨v,rfl,P⟩:=P; exact ⟨v,rfl,P⟩
theorem st_if {k:Nat} {sc:Scope} {t:Expr} {b e:List Stmt} {pos:Pos} {c:Lc→Option Bool} {f g:Lc→Option Out} (T:SoundT k sc t c) (Hf:SoundB k sc b f) (Hg:SoundB k sc e g) :
  SoundS k sc (.If t b e pos) (fun l=>(c l).bind fun x=>if x then f l else g l):=by
 intro C A env s₀ F₀ F K l s o R S h
 obtain ⟨x,hx,h⟩:=bind_eq_some_iff.mp h
 refine wpAny_If ((T C A env F l s x R S.xs hx).mono fun x' s₁ P=>?_)
 obtain ⟨rfl,X,I⟩:=P
 obtain ⟨S₁,g₁⟩:=S.step X I
 cases x' with
 | true=>exact (Hf C A env s₀ F₀ _ _ l s₁ o R S₁ h).mono fun fl s₂ P=>P.trans g₁
 | false=>exact (Hg C A env s₀ F₀ _ _ l s₁ o R S₁ h).mono fun fl s₂ P=>P.trans g₁
theorem zI3 {C:Cx} {A:Around} {sc:Scope} {env:Env} {s₀ s:Shared} {F₀ F K:Fz} {l:Lc} (S:FS C sc env s₀ F₀ F K l s) {x:PStr} {v:Value} {p:PV} (hx:sc.names.lookup x=some .local ∨ sc.names.lookup x=some .cell) (r:Rep C.w F p v)
  {Q:Unit→Shared→Prop} (hQ:∀ s',(∀ c,(s.heap.get? c).isSome=true→(s'.heap.get? c).isSome=true)→FS C sc env s₀ F₀ F K ((x,.fz p) :: l) s'→Q () s'):WP C A (storeName env x v) Q s :=
 S.store (q:=.fz p) hx r 0 (fun o=>bno rfl o) hQ
noncomputable def cSet (x:PStr) (f:Lc→Option PV):Lc→Option Out:=fun l=>(f l).map fun p=>.go ((x,.fz p) :: l)
theorem st_assign {k:Nat} {sc:Scope} {x:PStr} {np pos:Pos} {e:Expr} {f:Lc→Option PV} (hx:sc.names.lookup x=some .local ∨ sc.names.lookup x=some .cell) (H:SoundE k sc e f)
  (hsw:∀ env,env.scope=sc→swapsWith e (some (.Name x np)) pos.line env=pure false):SoundS k sc (.Assign [.Name x np] e pos) (cSet x f):=by
 intro C A env s₀ F₀ F K l s o R S h
 obtain ⟨p,hp,rfl⟩:=map_eq_some_iff.mp h
 refine wpAny_Assign_Name ((H C A env F l s p R S.xs hp).mono fun v s₁ P=>?_) (hsw env S.ok.scope)
 obtain ⟨S₁,g₁⟩:=S.step P.1 P.2
 exact zI3 S₁ hx P.3 fun s₂ lv S₂=>⟨rfl,_,_,S₂,g₁.trans ⟨.refl _,fun _ _=>rfl,lv⟩⟩
inductive PostN (C:Cx) (F:Fz) (s:Shared) (p:PV) (v:Value) (s':Shared):Prop
 | mk:Ext s s'→Inv C s'→(a:Addr)→(o:Obj)→(F':Fz)→v = .ref a→s.heap.get? a=Option.none→s'.heap.get? a=some o→F' a=Option.none→F'.sub s'.heap→F'.offTab→(∀ b,(s.heap.get? b).isSome=true→F' b=F b)→ObjRep C.w F' o p→PostN C F s p v s'
noncomputable def SoundN (k:Nat) (sc:Scope) (e:Expr) (f:Lc→Option PV):Prop :=
 ∀ (C:Cx) (A:Around) (env:Env) (F:Fz) (l:Lc) (s:Shared) (p:PV),Room k A→XS C sc env F l s→f l=some p→WP C A (eval e env) (PostN C F s p) s
theorem kno {α:Type} {x:Option α} {a b:α} {P:Prop} (h:x=some a) (e:x=some b) (n:a≠b):P:=(n (uniq h e)).elim
theorem bd_fn {env:Env} {h:Heap} {x:PStr} {u v:Value} (a:Bd env h x u) (b:Bd env h x v):u=v:=by
 cases a with
 | loc m k' n' e' =>
  cases b with
  | loc m₂ k₂ n₂ e₂=>exact uniq ((n'.agree n₂ x).symm.trans e') e₂
  | cell c o' k₂ l₂ g₂ d₂=>exact kno k' k₂ nofun
  | ghost b e k₂ g=>exact nos k₂ k'
 | cell c o' k' l' g' d' =>
  cases b with
  | loc m₂ k₂ n₂ e₂=>exact kno k' k₂ nofun
  | cell c₂ o₂ k₂ l₂ g₂ d₂ =>
   obtain rfl:=uniq l' l₂
   obtain rfl:=uniq g' g₂
   exact Option.some.inj (Data.cell.inj (d'.symm.trans d₂))
  | ghost b e k₂ g=>exact nos k₂ k'
 | ghost b' e' k' g' =>
  cases b with
  | loc m₂ k₂ n₂ e₂=>exact nos k' k₂
  | cell c₂ o₂ k₂ l₂ g₂ d₂=>exact nos k' k₂
  | ghost b e k₂ g =>
   have:b'=b:=congrArg (fun s:PStr=>s.cps[1]!) (e'.symm.trans e)
   rw [g',g,this]
theorem FS.own2 {C:Cx} {sc:Scope} {env:Env} {s₀ s:Shared} {F₀ F K:Fz} {l:Lc} (S:FS C sc env s₀ F₀ F K l s) {x:PStr} {q:Loc} (hx:look l x=some q) (ho:q.own=true):∃ a,Bd env s.heap x (.ref a) ∧
  ∀ {F' K':Fz} {s':Shared},FS C sc env s₀ F₀ F' K' l s'→Ext s s'→LocRep C.w F' s'.heap (.ref a) q∧∀ h' tk q',SameBut a s'.heap h'→q'.own=true→LocRep C.w F' h' (.ref a) q'→FS C sc env s₀ F₀ F' K' ((x,q') :: l) { s' with heap:=h',toks:=tk }:=by
 obtain ⟨a,ba,_⟩:=S.owned hx ho
 refine ⟨a,ba,fun S' X=>?_⟩
 obtain ⟨b,bb,rb,_,upd⟩:=S'.owned hx ho
 obtain rfl:=refI (bd_fn bb (ba.step S.inv X))
 exact ⟨rb,upd⟩
theorem own_list {w:World} {F:Fz} {h:Heap} {a:Addr} {xs:List PV} (r:LocRep w F h (.ref a) (.ow (.list xs))):∃ vs n,h.get? a=some { cls:=.type "list",data:=.seq vs n }∧F a=Option.none∧RepL w F xs vs.toList:=by
 obtain ⟨b,o,e,fa,ho,vs,n,rfl,rl⟩:=r
 obtain rfl:=refI e
 exact ⟨vs,n,ho,fa,rl⟩
theorem own_mk {w:World} {F:Fz} {h:Heap} {a:Addr} {o:Obj} {p:PV} (fa:F a=Option.none) (ho:h.get? a=some o) (r:ObjRep w F o p):LocRep w F h (.ref a) (.ow p):=OwAt.mk a o rfl fa ho r
theorem Grew.wrote {F K:Fz} {s:Shared} {a:Addr} {h':Heap} {tk:Nat} {o:Obj} (hs:SameBut a s.heap h') (e:h'.get? a=some o):Grew F K s F K { s with heap:=h',toks:=tk }:=⟨.refl _,fun _ _=>rfl,fun _=>live_but hs (lv e)⟩
theorem seq_inj {x:Option Obj} {T:String} {vs vs':Array Value} {n n':Nat} (h:x=some { cls:=.type T,data:=.seq vs n }) (e:x=some { cls:=.type T,data:=.seq vs' n' }):vs=vs':=by
 cases h.symm.trans e; rfl
inductive OwnL (C:Cx) (sc:Scope) (env:Env) (s₀:Shared) (F₀:Fz) (l:Lc) (x:PStr) (xs:List PV) (s:Shared):Prop
 | mk (a:Addr) (vs:Array Value) (n:Nat):Bd env s.heap x (.ref a)→s.heap.get? a=some { cls:=.type "list",data:=.seq vs n }→vs.size=xs.length →
  (∀ {F' K':Fz} {s':Shared},FS C sc env s₀ F₀ F' K' l s'→Ext s s'→∀ {v p h' n'} tk,Rep C.w F' p v→h'.get? a=some { cls:=.type "list",data:=.seq (vs.push v) n' }→SameBut a s'.heap h' →
   Goes C sc env s₀ F₀ F' K' s' ((x,.ow (.list (xs ++ [p]))) :: l) { s' with heap:=h',toks:=tk })→OwnL C sc env s₀ F₀ l x xs s
theorem FS.ownApp {C:Cx} {sc:Scope} {env:Env} {s₀ s:Shared} {F₀ F K:Fz} {l:Lc} (S:FS C sc env s₀ F₀ F K l s) {x:PStr} {xs:List PV} (hl:look l x=some (.ow (.list xs))):OwnL C sc env s₀ F₀ l x xs s:=by
 obtain ⟨a,ba,k⟩:=S.own2 hl rfl
 obtain ⟨vs,n,ho,_,rl⟩:=own_list (k S (.refl s)).1
 refine ⟨a,vs,n,ba,ho,(length_toList.symm.trans rl.length),fun {F' K' s'} S' X {v p h' n'} tk r e hs=>?_⟩
 obtain ⟨r',upd⟩:=k S' X
 obtain ⟨vs',n',ho2,fa,rl'⟩:=own_list r'
 obtain rfl:=seq_inj (X.kept S.inv ho (zJ2 rfl)) ho2
 refine ⟨_,_,upd _ tk _ hs rfl (own_mk fa e ⟨_,_,rfl,?_⟩),Grew.wrote hs e⟩
 rw [Array.toList_push]
 exact rl'.append (RepL.cons r RepL.nil)
theorem PostN.post {C:Cx} {F:Fz} {s s':Shared} {p:PV} {v:Value} (h:PostN C F s p v s'):Post C F s p v s':=by
 obtain ⟨X,I,a,o,F',rfl,n,e,fa,hs,hT,hf,r⟩:=h
 refine ⟨X,I,?_⟩
 have le:F'.le (F.ext s s'):=fun b o' h=>by
  by_cases lv:(s.heap.get? b).isSome=true
  ·exact (Fz.ext_old lv).trans ((hf b lv).symm.trans h)
  ·exact (Fz.ext_out lv).trans (hs b o' h)
 exact (r.mono le).rep (zE7 n e)
theorem e_of_n {k:Nat} {sc:Scope} {e:Expr} {f:Lc→Option PV} (H:SoundN k sc e f):SoundE k sc e f:=by
 intro C A env F l s p R S h
 exact (H C A env F l s p R S h).mono fun v s' P=>P.post
noncomputable def cOwn (x:PStr) (f:Lc→Option PV):Lc→Option Out:=fun l=>(f l).map fun p=>.go ((x,.ow p) :: l)
noncomputable def Fz.put (K:Fz) (a:Addr) (o:Obj):Fz:=fun b=>if b=a then some o else K b
theorem Fz.put_self {K:Fz} {a:Addr} {o:Obj}:K.put a o a=some o:=if_pos rfl
theorem Fz.put_ne {K:Fz} {a b:Addr} {o:Obj} (h:b≠a):K.put a o b=K b:=if_neg h
theorem Fz.put_le {K:Fz} {a:Addr} {o:Obj} (h:K a=Option.none):K.le (K.put a o):=fun _ _ e=>(Fz.put_ne fun q=>nos h (q ▸ e)).trans e
theorem own_storeL {C:Cx} {A:Around} {sc:Scope} {env:Env} {s₀ s s₁:Shared} {F₀ F K:Fz} {l:Lc} (S:FS C sc env s₀ F₀ F K l s) {x:PStr} {q:Loc} (hx:sc.names.lookup x=some .local ∨ sc.names.lookup x=some .cell)
  {a:Addr} {o:Obj} {F':Fz} (X:Ext s s₁) (I:Inv C s₁) (n:s.heap.get? a=Option.none) (e:s₁.heap.get? a=some o) (fa:F' a=Option.none) (hs:F'.sub s₁.heap) (hT:F'.offTab) (hf:∀ b,(s.heap.get? b).isSome=true→F' b=F b)
  (hnt:∀ ps,o≠tableObj ps) (hown:q.own=true) (r:LocRep C.w F' s₁.heap (.ref a) q)
  {Q:Unit→Shared→Prop} (hQ:∀ s',Goes C sc env s₀ F₀ F K s ((x,q) :: l) s'→Q () s'):WP C A (storeName env x (.ref a)) Q s₁:=by
 obtain ⟨S₁,g₁⟩:=S.grow X I hs hT hf
 have ka:=S.oldK n
 have ka':(K.or F') a=Option.none:=(Fz.or_none ka).trans fa
 have le₂:=Fz.put_le (o:=o) ka'
 have nl:∀ {b},(s.heap.get? b).isSome=true→b≠a:=fun h q=>nol n (q ▸ h)
 obtain ⟨ad,V⟩:=S₁.vars
 have old:∀ y q,look l y=some q→q.own=true→ad y≠a:=fun y q hy ho=>by
  obtain ⟨ad₀,V₀⟩:=S.vars
  obtain ⟨u,bu,_,zu⟩:=V.var y q hy
  obtain ⟨u₀,bu₀,_,zu₀⟩:=V₀.var y q hy
  obtain ⟨o',h,_⟩:=V₀.obj hy ho
  rw [refI ((zu ho).symm.trans ((bd_fn bu (bu₀.step S.inv X)).trans (zu₀ ho)))]
  exact nl (lv h)
 obtain ⟨m,hm⟩:=S.loc.1
 have S₂:FS C sc env s₀ F₀ F' ((K.or F').put a o) l s₁:=by
  refine ⟨S₁.ok,S₁.inv₀,S₁.inv,S₁.ext,fun b o' h t=>le₂ b o' (S₁.k0 b o' h t),S₁.fk.trans le₂,fun b o' h=>?_,fun b t=>(Fz.put_ne (a:=a) (b:=b) fun q=>bno (I.offTab e hnt) (q ▸ t)).trans (S₁.off b t),S₁.f0,S₁.agree,⟨S₁.loc.1,(Fz.put_ne (nl (ns_lv hm))).trans S₁.loc.2⟩,fun y c h=>⟨(S₁.cells y c h).1,?_⟩,S₁.cinj,ad,V.var,fun y q h ho=>?_,V.sep⟩
  ·by_cases q:b=a
   ·exact q ▸ e.trans (Fz.put_self.symm.trans (q ▸ h))
   ·exact S₁.sub b o' ((Fz.put_ne q).symm.trans h)
  ·obtain ⟨⟨v,hv⟩,_⟩:=S.cells y c h
   exact (Fz.put_ne (nl (cell_lv hv))).trans (S₁.cells y c h).2
  ·have k:=V.priv y q h ho
   exact ⟨(Fz.put_ne (old y q h ho)).trans k.1,k.2⟩
 refine S₂.store (q:=q) hx r a (fun _=>⟨rfl,⟨o,Fz.put_self⟩,fa,S.old0 n⟩) fun s' lv S'=>hQ s' ⟨F',_,S',?_⟩
 rw [if_pos hown]
 exact ⟨fun b o' h=>(if_neg fun q=>nos ka (q ▸ h)).trans (le₂ b o' (g₁.k b o' h)),hf,fun b h=>lv b (X.live b h)⟩
theorem own_store {C:Cx} {A:Around} {sc:Scope} {env:Env} {s₀ s s₁:Shared} {F₀ F K:Fz} {l:Lc} (S:FS C sc env s₀ F₀ F K l s) {x:PStr} {v:Value} {p:PV} (hx:sc.names.lookup x=some .local ∨ sc.names.lookup x=some .cell) (P:PostN C F s p v s₁)
  {Q:Unit→Shared→Prop} (hQ:∀ s',Goes C sc env s₀ F₀ F K s ((x,.ow p) :: l) s'→Q () s'):WP C A (storeName env x v) Q s₁:=by
 obtain ⟨X,I,a,o,F',rfl,n,e,fa,hs,hT,hf,r⟩:=P
 exact own_storeL (q:=.ow p) S hx X I n e fa hs hT hf r.tab rfl (OwAt.mk a o rfl fa e r) hQ
theorem st_own {k:Nat} {sc:Scope} {x:PStr} {np pos:Pos} {e:Expr} {f:Lc→Option PV} (hx:sc.names.lookup x=some .local ∨ sc.names.lookup x=some .cell) (H:SoundN k sc e f)
  (hsw:∀ env,env.scope=sc→swapsWith e (some (.Name x np)) pos.line env=pure false):SoundS k sc (.Assign [.Name x np] e pos) (cOwn x f):=by
 intro C A env s₀ F₀ F K l s o R S h
 obtain ⟨p,hp,rfl⟩:=map_eq_some_iff.mp h
 refine wpAny_Assign_Name ((H C A env F l s p R S.xs hp).mono fun v s₁ P=>?_) (hsw env S.ok.scope)
 exact own_store S hx P fun s₂ G=>⟨rfl,G⟩
theorem n_list {k:Nat} {sc:Scope} {es:List Expr} {pos:Pos} {fs:Lc→Option (List PV)} (H:SoundEs k sc es fs):SoundN k sc (.List es pos) (cList fs):=by
 intro C A env F l s p R S h
 obtain ⟨ps,hps,h⟩:=bind_eq_some_iff.mp h
 obtain ⟨hz,rfl⟩:=zG0 h
 refine PyProof.Rows.List_ (H.use R S hps fun vs s₁ X₁ S₁ r₁=>?_)
 refine wpAny_newObj_type ?_ (by show vs.toArray.size≤sizeLine; rw [List.size_toArray]; exact small_fits r₁ hz)
 exact ⟨X₁.trans (zK7 s₁ _),zK6 S₁.inv _,s₁.heap.objs.size,_,F.ext s s₁,rfl,ton fun o q=>nol (zB5 _) (X₁.live _ (lv q)),get?_push_size _ rfl,ton fun o q=>nos (zB5 _) (S₁.sub _ _ q),fun b o e=>get?_push_of_some _ (S₁.sub b o e),S₁.off,fun b e=>Fz.ext_old e,⟨_,_,rfl,r₁⟩⟩
noncomputable def frz:Loc→Loc
 | .ow p=>.fz p
 | q=>q
noncomputable def freeze (l:Lc):Lc:=l.map fun p=>(p.1,frz p.2)
theorem zB7 (l:Lc) (x:PStr):look (freeze l) x=(look l x).map frz:=by
 unfold look freeze
 induction l with
 | nil=>rfl
 | cons p l ih =>
  rw [map_cons,lookup_cons,lookup_cons]
  cases x == p.1 with
  | true=>rfl
  | false=>exact ih
inductive OwnB (C:Cx) (F K:Fz) (l:Lc) (s:Shared) (ad:PStr→Addr) (b:Addr) (o:Obj):Prop
 | mk (x:PStr) (p:PV):look l x=some (.ow p)→ad x=b→s.heap.get? b=some o→ObjRep C.w F o p→F b=Option.none→K b=Option.none→OwnB C F K l s ad b o
theorem ObjRep.kind {w:World} {F:Fz} {o:Obj} {p:PV} (r:ObjRep w F o p):o.cls = .type "list" ∨ o.cls = .type "dict" ∨ o.cls = .type "set":=by
 cases p with
 | list xs=>obtain ⟨vs,n,e,_⟩:=r; exact .inl (e ▸ rfl)
 | dict ks xs=>obtain ⟨es,n,e,_⟩:=r; exact .inr (.inl (e ▸ rfl))
 | bset b=>exact .inr (.inr ((show o=_ from r) ▸ rfl))
 | dlist ks=>obtain ⟨es,n,e,_⟩:=r; exact .inr (.inl (e ▸ rfl))
 | _=>exact r.elim
theorem FS.frozen {C:Cx} {sc:Scope} {env:Env} {s₀ s:Shared} {F₀ F K:Fz} {l:Lc} (S:FS C sc env s₀ F₀ F K l s) :
  ∃ F',XS C sc env F' (freeze l) s∧F.le F'∧(∀ b o,F' b=some o→F b=some o ∨ (s₀.heap.get? b=Option.none∧(o.cls = .type "list" ∨ o.cls = .type "dict" ∨ o.cls = .type "set"))):=by
 obtain ⟨ad,V⟩:=S.vars
 have hown:∀ x p,look l x=some (.ow p)→∃ o,OwnB C F K l s ad (ad x) o:=fun x p hx=>by
  obtain ⟨v,bv,r,z⟩:=V.var x _ hx
  obtain ⟨a,o,e,fa,ho,r⟩:=r
  obtain rfl:=refI (e.symm.trans (z rfl))
  exact ⟨o,x,p,hx,rfl,ho,r,fa,(V.priv x _ hx rfl).1⟩
 obtain ⟨F',le,loc',own'⟩:∃ F':Fz,F.le F'∧(∀ b o,F' b=some o→F b=some o ∨ OwnB C F K l s ad b o)∧∀ b o,OwnB C F K l s ad b o→F' b=some o:=by
  classical
  refine ⟨fun b=>if ∃ o,OwnB C F K l s ad b o then s.heap.get? b else F b,fun b o e=>?_,fun b o e=>?_,fun b o e=>?_⟩
  ·refine (if_neg fun ⟨_,q⟩=>?_).trans e
   obtain ⟨_,_,_,_,_,_,fb,_⟩:=q
   exact nos fb e
  ·by_cases q:∃ o,OwnB C F K l s ad b o
   ·obtain ⟨o',q⟩:=q
    refine .inr ?_
    obtain ⟨x,p,h1,h2,h3,h4⟩:=id q
    exact uniq h3 ((if_pos ⟨o',q⟩).symm.trans e) ▸ q
   ·exact .inl ((if_neg q).symm.trans e)
  ·refine (if_pos ⟨o,e⟩).trans ?_
   obtain ⟨x,p,_,_,ho,_⟩:=e
   exact ho
 refine ⟨F',⟨S.ok,S.inv,fun b o e=>(loc' b o e).elim (S.fsub b o) fun q=>?_,fun b t=>ton fun o e=>(loc' b o e).elim (nos (S.foff b t)) fun q=>?_,fun x q h _=>?_⟩,le,fun b o e=>(loc' b o e).imp id fun q=>?_⟩
 ·obtain ⟨x,p,_,_,ho,_⟩:=q
  exact ho
 ·obtain ⟨x,p,_,_,ho,r,_⟩:=q
  exact bno (S.inv.offTab ho r.tab) t
 ·rw [zB7] at h
  obtain ⟨q₀,h0,rfl⟩:=map_eq_some_iff.mp h
  obtain ⟨v,bv,r,z⟩:=V.var x q₀ h0
  refine ⟨v,bv,?_⟩
  cases q₀ with
  | fz p=>exact Rep.mono le r
  | ow p =>
   obtain ⟨o,q⟩:=hown x p h0
   obtain ⟨a,o',e,fa,ho,r⟩:=r
   obtain rfl:=refI (e.symm.trans (z rfl))
   subst e
   exact (r.mono le).rep (own' _ _ ⟨x,p,h0,rfl,ho,r,fa,(V.priv x _ h0 rfl).1⟩)
  | acc st its =>
   obtain ⟨a,e,dx,vs,n,t,k,ha,hd,fa,r⟩:=r
   refine ⟨a,e,dx,vs,n,t,k,ha,le _ _ hd,ton fun o i=>(loc' _ o i).elim (nos fa) fun i=>?_,RepL.mono le r⟩
   obtain ⟨x',p,hx',hxx,_⟩:=i
   have:=V.sep x' x _ _ hx' h0 rfl rfl (hxx.trans (refI (e.symm.trans (z rfl))))
   exact kno h0 (this ▸ hx':look l x=some (.ow p)) nofun
 ·obtain ⟨x,p,_,_,ho,r,_,kb⟩:=q
  exact ⟨S.fresh ho r.tab kb,r.kind⟩
theorem st_ret {k:Nat} {sc:Scope} {e:Expr} {pos:Pos} {f:Lc→Option PV} (H:SoundE k sc e f):SoundS k sc (.Return (some e) pos) (fun l=>(f (freeze l)).map .ret):=by
 intro C A env s₀ F₀ F K l s o R S h
 obtain ⟨p,hp,rfl⟩:=map_eq_some_iff.mp h
 obtain ⟨F',X,le,hF⟩:=S.frozen
 refine wpAny_Return_some ((H C A env F' _ s p R X hp).mono fun v s₁ P=>⟨v,rfl,S.ext.trans P.1,P.2,?_⟩)
 refine Rep.mono (fun b o e=>?_) P.3
 by_cases l0:(s₀.heap.get? b).isSome=true
 ·exact (Fz.ext_old l0).trans ((hF b o ((Fz.ext_old (S.ext.live b l0)).symm.trans e)).elim (fun h=>S.agree b o h l0) fun h=>nol h.1 l0)
 ·refine (Fz.ext_out l0).trans ?_
  by_cases l1:(s.heap.get? b).isSome=true
  ·have e:=(Fz.ext_old l1).symm.trans e
   exact P.1.keep b o (X.sub b o e) (tof fun t=>nos (X.off b t) e)
  ·exact (Fz.ext_out l1).symm.trans e
noncomputable def isTupT (e:Expr):Prop:=∃ es n p,e = .Tuple es n p
structure It (tp:Bool) (C:Cx) (A:Around) (F:Fz) (I:Addr) (fp wr:List Addr) (ps:List PV) (St:Nat→Heap→Prop) (Mid:Nat→Value→Heap→Prop):Prop where
 frame:∀ i h h',St i h→(∀ b∈fp,∀ o,h.get? b=some o→h'.get? b=some o)→St i h'
 item:∀ i (s:Shared) (Q:Option Value→Shared→Prop) (G:Fz),i < ps.length→St i s.heap→F.le G→G.sub s.heap →
  (∀ v h' tk p,ps[i]? = some p→Rep C.w (G.ext s { s with heap:=h',toks:=tk }) p v→Mid i v h'→(∀ b o,b ∉ wr→s.heap.get? b=some o→h'.get? b=some o)→Q (some v) { s with heap:=h',toks:=tk })→WP C A (pyNext (.ref I)) Q s
 go:∀ tgt i v (s:Shared) (Q:Unit→Shared→Prop),(tp=true→isTupT tgt)→Mid i v s.heap→(∀ h',St (i + 1) h'→(∀ b o,b ∉ wr→s.heap.get? b=some o→h'.get? b=some o)→Q () { s with heap:=h' })→WP C A (letOwnedTupleGo tgt (.ref I) v) Q s
 done:∀ (s:Shared) (Q:Option Value→Shared→Prop),St ps.length s.heap→(∀ h' tk,(∀ b o,b ∉ wr→s.heap.get? b=some o→h'.get? b=some o)→Q none { s with heap:=h',toks:=tk })→WP C A (pyNext (.ref I)) Q s
 self:∀ i (s:Shared) (Q:Value→Shared→Prop),St i s.heap→Q (.ref I) s→WP C A (pyIter (.ref I)) Q s
 live:∀ i h,St i h→∀ b∈wr,(h.get? b).isSome=true
 liveM:∀ i v h,Mid i v h→∀ b∈wr,(h.get? b).isSome=true
theorem It.ofWalks {C:Cx} {A:Around} {F:Fz} {I:Addr} {fp wr:List Addr} {n:Nat} {P:Nat→Value→Prop} {St:Nat→Heap→Prop} {ps:List PV} (W:Walks PG C.w A I fp wr n P St) (hn:n=ps.length)
  (hP:∀ i v p,P i v→ps[i]? = some p→Rep C.w F p v) (hgo:∀ tgt i v (s:Shared) (Q:Unit→Shared→Prop),St i s.heap→Q () s→WP C A (letOwnedTupleGo tgt (.ref I) v) Q s)
  (hlive:∀ i h,St i h→∀ b∈wr,(h.get? b).isSome=true) :
  It false C A F I fp wr ps St (fun i v h=>St (i + 1) h) where
 frame:=W.frame
 item:=fun i s Q G hi st hle hs hQ=>W.item i s Q _ (by lia) st fun v h' tk hp st' hk=>by
  obtain ⟨p,hpp⟩:∃ p,ps[i]? = some p:=⟨ps[i],getElem?_eq_getElem hi⟩
  exact hQ v h' tk p hpp (Rep.mono (hle.trans (Fz.le_ext hs)) (hP i v p hp hpp)) st' hk
 go:=fun tgt i v s Q _ st hQ=>hgo tgt (i + 1) v s Q st (hQ s.heap st fun _ _ _ e=>e)
 done:=fun s Q st hQ=>W.done s Q _ (by rw [hn]; exact st) hQ
 self:=fun i s Q st hQ=>W.self i s Q _ st hQ
 live:=hlive
 liveM:=fun i _ h st=>hlive (i + 1) h st
inductive ItAt (tp:Bool) (C:Cx) (A:Around) (F:Fz) (s:Shared) (ps:List PV) (it:Value) (s':Shared):Prop
 | mk:Ext s s'→Inv C s'→(I:Addr)→(fp wr:List Addr)→(St:Nat→Heap→Prop)→(Mid:Nat→Value→Heap→Prop)→it = .ref I→It tp C A F I fp wr ps St Mid→St 0 s'.heap→(∀ b∈wr,s.heap.get? b=Option.none∧(s'.heap.get? b).isSome=true)→(∀ b∈fp,b∈wr ∨ ∃ o,F b=some o)→ItAt tp C A F s ps it s'
noncomputable def rngSize (lo hi st:Int):Int:=Builtin.Range.rangeSize lo hi st
noncomputable def rngL (lo hi st:Int):List PV:=(range (rngSize lo hi st).toNat).map fun i:Nat=>PV.int (lo + (i:Int) * st)
noncomputable def iterPV (p:PV):Option (List PV):=PV.casesOn p Option.none (fun _=>Option.none) (fun _=>Option.none) (fun x=>some (x.cps.toList.map fun c=>.str ⟨#[c]⟩)) (fun xs=>if xs.length≤sizeLine then some xs else Option.none) (fun xs=>if xs.length≤sizeLine then some xs else Option.none) (fun _ _=>Option.none)
 (fun lo hi st=>if Builtin.Range.small lo hi st=true∧0≤rngSize lo hi st∧rngSize lo hi st≤1000000 then some (rngL lo hi st) else Option.none) (fun _=>Option.none) (fun _=>Option.none) (fun _ _=>Option.none)
theorem iter_inv {p:PV} {q:List PV} {P:Prop} (h:iterPV p=some q) (k1:∀ x,p = .str x→x.cps.toList.map (fun c=>PV.str ⟨#[c]⟩)=q→P) (k2:p = .tup q→P) (k3:p = .list q→P)
  (k4:∀ lo hi st,p = .rng lo hi st→Builtin.Range.small lo hi st=true∧0≤rngSize lo hi st∧rngSize lo hi st≤1000000→rngL lo hi st=q→P):P:=by
 cases p with
 | str x=>exact k1 x rfl (Option.some.inj h)
 | tup xs=>exact k2 (congrArg _ (zG0 h).2)
 | list xs=>exact k3 (congrArg _ (zG0 h).2)
 | rng lo hi st=>exact k4 lo hi st rfl (zG0 h).1 (zG0 h).2
 | _=>exact no h
theorem go_list {C:Cx} {A:Around} {s:Shared} {I l:Addr} {i:Nat} {T:String} {tgt:Expr} {v:Value} {Q:Unit→Shared→Prop} {o:Obj} (hT:(["enumerate","zip","dict_itemiterator","dict_reverseitemiterator","odict_iterator","itertools.zip_longest","itertools.pairwise"]:List String).contains T=false)
  (ho:s.heap.get? I=some o) (hc:o.cls = .type T) (hQ:Q () s):WP C A (letOwnedTupleGo tgt (.ref I) v) Q s:=by
 have key:∀ (a:Addr),WP C A (do
   let o ← load I
   match o.cls,o.data with
   | .type n,.fields vs =>
    if ["enumerate","zip","dict_itemiterator","dict_reverseitemiterator","odict_iterator","itertools.zip_longest","itertools.pairwise"].contains n && vs[0]? == some (rawInt a) then
     rule "for.unpacks-the-owned-tuple"
     updateField I 0 .none
   | _,_=>pure ()) Q s:=fun a=>by
  refine wpAny_bind (wpAny_load ho ?_)
  rw [hc]
  cases o.data <;> try exact wpAny_pure hQ
  case fields vs =>
   dsimp only
   rw [hT,Bool.false_and]
   exact wpAny_pure hQ
 unfold letOwnedTupleGo
 cases tgt <;> try exact wpAny_pure hQ
 case Tuple es k p=>cases v <;> first | exact wpAny_pure hQ | exact key _
 case List es p=>cases v <;> first | exact wpAny_pure hQ | exact key _
theorem isSome_push (h:Heap) (o:Obj) (hf:o.isFreed=false:=by rfl):((h.push o).get? h.objs.size).isSome=true:=by exact lv (get?_push_size _ hf)
theorem live1 {h:Heap} {b:Addr} {P:Obj→Prop} (e:∃ o,h.get? b=some o∧P o):(h.get? b).isSome=true:=by obtain ⟨o,e,_⟩:=e; rw [e]; rfl
theorem it_of {C:Cx} {A:Around} {F:Fz} {s:Shared} {o:Obj} {fp:List Addr} {n:Nat} {P:Nat→Value→Prop} {St:Nat→Heap→Prop} {ps:List PV} {T:String} (I:Inv C s) (W:Walks PG C.w A s.heap.objs.size fp [s.heap.objs.size] n P St) (hn:n=ps.length)
  (hP:∀ i v p,P i v→ps[i]? = some p→Rep C.w F p v) (hS:∀ i h,St i h→∃ o,h.get? s.heap.objs.size=some o∧o.cls = .type T) (hf:o.isFreed=false)
  (hT:(["enumerate","zip","dict_itemiterator","dict_reverseitemiterator","odict_iterator","itertools.zip_longest","itertools.pairwise"]:List String).contains T=false)
  (st:St 0 (s.heap.push o)) (hfp:∀ b∈fp,b=s.heap.objs.size ∨ ∃ o,F b=some o):ItAt false C A F s ps (.ref s.heap.objs.size) { s with heap:=s.heap.push o } :=
 ⟨zK7 s _,zK6 I _,s.heap.objs.size,_,_,_,_,rfl,It.ofWalks W hn hP (fun tgt i v s' Q st hQ=>by
   obtain ⟨o,ho,hc⟩:=hS i _ st
   exact go_list (l:=0) (i:=0) hT ho hc hQ) (fun i h st b hb=>by
   rw [mem_singleton.mp hb]
   exact live1 (hS i h st)),st,fun b hb=>by
   rw [mem_singleton.mp hb]
   exact ⟨zB5 _,isSome_push _ _ hf⟩,fun b hb=>(hfp b hb).imp (fun e=>mem_singleton.mpr e) id⟩
theorem seq_P {C:Cx} {F:Fz} {ps:List PV} {vs:Array Value} (l:RepL C.w F ps vs.toList) (i:Nat) (v:Value) (p:PV) (hv:vs[i]? = some v) (hp:ps[i]? = some p):Rep C.w F p v:=by
 obtain ⟨u,e,ru⟩:=l.get hp
 exact uniq e (getElem?_toList.trans hv) ▸ ru
theorem chr_P {C:Cx} {F:Fz} {x:PStr} (i:Nat) (v:Value) (p:PV) (hv:∃ c t,x.cps[i]? = some c∧v = .str ⟨#[c]⟩ t) (hp:(x.cps.toList.map fun c=>PV.str ⟨#[c]⟩)[i]? = some p):Rep C.w F p v:=by
 obtain ⟨c,u,hc,rfl⟩:=hv
 rw [getElem?_map] at hp
 refine mapE hp fun j hj e=>?_
 obtain rfl:=uniq hj (getElem?_toList.trans hc)
 exact e ▸ zJ6
theorem pair_fp {F:Fz} {b I a:Addr} {o:Obj} (hb:b∈[I,a]) (f:F a=some o):b=I ∨ ∃ o,F b=some o:=(mem_cons.mp hb).imp id fun hb=>⟨o,(congrArg F (mem_singleton.mp hb)).trans f⟩
theorem iter_ok {C:Cx} {A:Around} {k:Nat} {F:Fz} {s:Shared} {p:PV} {v:Value} {ps:List PV} (R:Room k A) (I:Inv C s) (hs:F.sub s.heap) (r:Rep C.w F p v) (h:iterPV p=some ps):WP C A (pyIter v) (ItAt false C A F s ps) s:=by
 have hh:A.handled=none:=R.handled
 refine iter_inv h (fun x e e'=>?_) (fun e=>?_) (fun e=>?_) fun lo hi st e hz e'=>?_
 ·subst e e'
  obtain ⟨t,rfl⟩:=zB6 r
  refine wpAny_pyIter_strU ?_
  by_cases ha:strIterType x = "str_ascii_iterator"
  ·refine it_of (T:="str_ascii_iterator") I (Walks.strAscii hh s.heap.objs.size x t) (by simp) (fun i v p=>chr_P i v p) (fun i h st=>?_) rfl (by decide) ⟨_,get?_push_size _ rfl,by rw [ha],rfl⟩ (fun b hb=>.inl (mem_singleton.mp hb))
   obtain ⟨o,ho,hc,_⟩:=st
   exact ⟨o,ho,hc⟩
  ·have ha:strIterType x = "str_iterator":=by unfold strIterType at ha ⊢; split at ha <;> simp_all
   refine it_of (T:="str_iterator") I (Walks.strWide hh s.heap.objs.size x t) (by simp) (fun i v p=>chr_P i v p) (fun i h st=>?_) rfl (by decide) ⟨_,get?_push_size _ rfl,by rw [ha],rfl⟩ (fun b hb=>.inl (mem_singleton.mp hb))
   obtain ⟨o,ho,hc,_⟩:=st
   exact ⟨o,ho,hc⟩
 ·subst e
  unfold Rep at r
  obtain ⟨a,vs,n,rfl,f,l⟩:=r
  have hl:s.heap.IsTuple a vs:=⟨_,hs _ _ f,rfl,n,rfl⟩
  refine wpAny_pyIter_tuple hl (it_of (T:="tuple_iterator") I (Walks.tuple hh s.heap.objs.size a (ne_of_lt (lt_size (hs _ _ f))) vs) (length_toList.symm.trans l.length) (seq_P l) (fun i h st=>?_) rfl (by decide) ⟨⟨_,get?_push_size _ rfl,rfl,rfl⟩,hl.push _⟩ fun b hb=>pair_fp hb f)
  obtain ⟨⟨o,ho,hc,_⟩,_⟩:=st
  exact ⟨o,ho,hc⟩
 ·subst e
  unfold Rep at r
  obtain ⟨a,vs,n,rfl,f,l⟩:=r
  have hl:s.heap.IsList a vs:=⟨_,hs _ _ f,rfl,n,rfl⟩
  refine wpAny_pyIter_list hl (it_of (T:="list_iterator") I (Walks.list hh s.heap.objs.size a (ne_of_lt (lt_size (hs _ _ f))) vs) (length_toList.symm.trans l.length) (seq_P l) (fun i h st=>?_) rfl (by decide) ⟨⟨_,get?_push_size _ rfl,rfl,rfl⟩,hl.push _⟩ fun b hb=>pair_fp hb f)
  obtain ⟨⟨o,ho,hc,_⟩,_⟩:=st
  exact ⟨o,ho,hc⟩
 ·subst e e'
  unfold Rep at r
  obtain ⟨a,t,u,z,rfl,f⟩:=r
  have e1:((rngSize lo hi st).toNat:Int)=rngSize lo hi st:=Int.toNat_of_nonneg hz.2.1
  refine wpAny_pyIter_range (hs _ _ f) hz.1 (it_of (T:="range_iterator") I (Walks.range hh s.heap.objs.size lo st (rngSize lo hi st).toNat) (by simp [rngL]) (fun i v p hv hp=>?_) (fun i h st=>⟨_,st,rfl⟩) rfl (by decide) ?_ (fun b hb=>.inl (mem_singleton.mp hb)))
  ·obtain ⟨t,rfl⟩:=hv
   unfold rngL at hp
   rw [getElem?_map] at hp
   refine mapE hp fun j hj e=>?_
   obtain ⟨hlt,e'⟩:=List.getElem?_eq_some_iff.mp hj
   rw [List.getElem_range] at e'
   subst e e'
   exact mk_int
  ·show IsRangeIter _ _ _ _ _
   unfold IsRangeIter
   rw [get?_push_size _ rfl,e1]
   simp [rngSize]
structure Mvd (wr:List Addr) (s s':Shared):Prop where
 keep:∀ b o,b ∉ wr→s.heap.get? b=some o→s'.heap.get? b=some o
 gens:s'.gens=s.gens
 drawn:s'.drawn=s.drawn
 os:s'.os=s.os
theorem Mvd.of {wr:List Addr} {s:Shared} {h':Heap} {tk:Nat} (h:∀ b o,b ∉ wr→s.heap.get? b=some o→h'.get? b=some o):Mvd wr s { s with heap:=h',toks:=tk }:=⟨h,rfl,rfl,rfl⟩
theorem Mvd.lv {wr:List Addr} {s s':Shared} (M:Mvd wr s s') {b:Addr} (m:b ∉ wr) (e:(s.heap.get? b).isSome=true):(s'.heap.get? b).isSome=true:=by
 obtain ⟨o,h⟩:=isSome_iff_exists.mp e
 exact Mine.lv (M.keep b o m h)
theorem Mvd.inv {C:Cx} {wr:List Addr} {s s' s₀:Shared} (M:Mvd wr s s') (I:Inv C s) (I₀:Inv C s₀) (nl:∀ b,(s₀.heap.get? b).isSome=true→b ∉ wr):Inv C s':=by
 obtain ⟨h',g,d,tk,os⟩:=s'
 have e1:g=s.gens:=M.gens
 have e2:d=s.drawn:=M.drawn
 have e3:os=s.os:=M.os
 subst e1 e2 e3
 exact I.off I₀ tk fun b o l e=>M.keep b o (nl b l) e
section
variable {C:Cx} {sc:Scope} {env:Env} {s₀ s:Shared} {F₀ F K:Fz} {l:Lc}
open Classical in
noncomputable def hold (wr:List Addr) (h:Heap) (K:Fz):Fz:=fun b=>if b∈wr then h.get? b else K b
theorem hold_in {wr:List Addr} {h:Heap} {K:Fz} {b:Addr} (m:b∈wr):hold wr h K b=h.get? b:=if_pos m
theorem zE9 {wr:List Addr} {h:Heap} {K:Fz} {b:Addr} (m:b ∉ wr):hold wr h K b=K b:=if_neg m
structure HeldA (s₀:Shared) (F K:Fz) (b:Addr):Prop where
 k:(K b).isSome=true
 f:F b=Option.none
 o:s₀.heap.get? b=Option.none
theorem mt_lv {α:Type} {x:Option α} (h:x=Option.none):¬ x.isSome=true:=fun e=>nol h e
theorem FS.reiter (S:FS C sc env s₀ F₀ F K l s) {wr:List Addr} (hw:∀ b∈wr,HeldA s₀ F K b) {s':Shared} (M:Mvd wr s s') :
  FS C sc env s₀ F₀ (F.ext s s') (hold wr s'.heap (K.or (F.ext s s'))) l s'∧∀ b o,b ∉ wr→K b=some o→hold wr s'.heap (K.or (F.ext s s')) b=some o:=by
 have nl:∀ b,(s₀.heap.get? b).isSome=true→b ∉ wr:=fun b e m=>nol (hw b m).o e
 have Kn:∀ b,K b=Option.none→b ∉ wr:=fun b e m=>nol e (hw b m).k
 have Fw:∀ b o,F b=some o→b ∉ wr:=fun b o e m=>nos (hw b m).f e
 have kk:∀ b o,b ∉ wr→K b=some o→hold wr s'.heap (K.or (F.ext s s')) b=some o:=fun b o m e=>(zE9 m).trans (Fz.le_or b o e)
 have Fe:∀ b o,(F.ext s s') b=some o→F b=some o ∨ ((s.heap.get? b)=Option.none∧s'.heap.get? b=some o):=fun b o e=>by
  by_cases lv:(s.heap.get? b).isSome=true
  ·exact .inl ((Fz.ext_old lv).symm.trans e)
  ·exact .inr ⟨unlv lv,(Fz.ext_out lv).symm.trans e⟩
 have priv:∀ b,(s.heap.get? b).isSome=true→K b=Option.none→hold wr s'.heap (K.or (F.ext s s')) b=Option.none:=fun b lv e =>
  (zE9 (Kn b e)).trans ((Fz.or_none e).trans ((Fz.ext_old lv).trans (ton fun o q=>nos e (S.fk b o q))))
 have Fle:F.le (F.ext s s'):=Fz.le_ext S.fsub
 have hL:=S.loc
 obtain ⟨m,hm⟩:=hL.1
 obtain ⟨ad,V⟩:=S.vars
 refine ⟨⟨S.ok,S.inv₀,M.inv S.inv S.inv₀ nl,⟨fun b o e t=>M.keep b o (nl b (lv e)) (S.ext.keep b o e t),fun b e=>M.lv (nl b e) (S.ext.live b e)⟩,fun b o e t=>kk b o (nl b (lv e)) (S.k0 b o e t),fun b o e=>(Fe b o e).elim (fun e=>kk b o (Fw b o e) (S.fk b o e)) fun q=>?_,fun b o e=>?_,fun b t=>?_,S.f0.trans Fle,fun b o e l0=>(Fe b o e).elim (fun e=>S.agree b o e l0) fun q=>nol q.1 (S.ext.live b l0),⟨⟨m,hm.at fun o=>M.keep _ o (Kn _ hL.2)⟩,priv _ (ns_lv hm) hL.2⟩,fun x c h=>?_,S.cinj,ad,⟨fun x q h=>?_,fun x q h o=>?_,V.sep⟩⟩,kk⟩
 ·by_cases m:b∈wr
  ·exact (hold_in m).trans q.2
  ·exact (zE9 m).trans ((Fz.or_none (S.oldK q.1)).trans ((Fz.ext_out (mt_lv q.1)).trans q.2))
 ·by_cases m:b∈wr
  ·exact (hold_in m).symm.trans e
  ·have e:=(zE9 m).symm.trans e
   cases q:K b with
   | some o'=>exact M.keep b o m ((S.sub b o' q).trans ((Fz.or_some q).symm.trans e))
   | none=>exact (Fe b o ((Fz.or_none q).symm.trans e)).elim (fun e=>nos q (S.fk b o e)) fun q=>q.2
 ·have nt:=Kn b (S.off b t)
  exact (zE9 nt).trans ((Fz.or_none (S.off b t)).trans ((Fz.ext_old (S.inv.tabLive t)).trans (S.foff b t)))
 ·obtain ⟨⟨v,hv⟩,kc⟩:=S.cells x c h
  exact ⟨⟨v,by obtain ⟨o,ho,hd⟩:=hv; exact ⟨o,M.keep _ _ (Kn _ kc) ho,hd⟩⟩,priv c (cell_lv hv) kc⟩
 ·obtain ⟨v,b,r,zz⟩:=V.var x q h
  refine ⟨v,b.mv (fun o=>M.keep _ o (Kn _ hL.2)) (fun c o l=>M.keep c o (Kn c (S.cells x c l).2)),r.mv Fle (fun o a o' e ho _=>M.keep a o' ?_ ho) (fun o a e fa l=>(Fz.ext_old l).trans fa),zz⟩
  exact refI (e.symm.trans (zz o)) ▸ Kn _ (V.priv x q h o).1
 ·obtain ⟨k,n⟩:=V.priv x q h o
  obtain ⟨o',ho,_⟩:=V.obj h o
  exact ⟨priv _ (lv ho) k,n⟩
theorem FS.held (S:FS C sc env s₀ F₀ F K l s) {s':Shared} (X:Ext s s') (I:Inv C s') {wr:List Addr} (hw:∀ b∈wr,s.heap.get? b=Option.none∧(s'.heap.get? b).isSome=true) :
  FS C sc env s₀ F₀ F (hold wr s'.heap K) l s'∧Grew F K s F (hold wr s'.heap K) s'∧(∀ b∈wr,HeldA s₀ F (hold wr s'.heap K) b):=by
 have nk:∀ b o,K b=some o→b ∉ wr:=fun b o e m=>nos (hw b m).1 (S.sub b o e)
 have h:=S.growK (F':=F) (K':=hold wr s'.heap K) X I (fun _ _=>rfl) (fun b o e=>(zE9 (nk b o e)).trans e)
  (fun b o e=>have e:=S.fk b o e; (zE9 (nk b o e)).trans e)
  (fun b o e=>by
   by_cases m:b∈wr
   ·exact (hold_in m).symm.trans e
   ·exact Fz.sub_step S.sub S.off X b o ((zE9 m).symm.trans e))
  (fun b t=>(zE9 fun m=>nol (hw b m).1 (S.inv.tabLive t)).trans (S.off b t))
  (fun b lv e=>(zE9 fun m=>nol (hw b m).1 lv).trans e)
 exact ⟨h.1,h.2,fun b m=>⟨hold_in m ▸ (hw b m).2,ton fun o q=>nos (hw b m).1 (S.fsub b o q),S.old0 (hw b m).1⟩⟩
end
noncomputable def SoundG (k:Nat) (sc:Scope) (tgt:Expr) (g:PV→Option Lc):Prop :=
 ∀ (C:Cx) (A:Around) (env:Env) (s₀:Shared) (F₀ F K:Fz) (l:Lc) (s:Shared) (p:PV) (v:Value) (t:Lc),Room k A→FS C sc env s₀ F₀ F K l s→Rep C.w F p v→g p=some t →
  WP C A (assign tgt env v) (fun _ s'=>Goes C sc env s₀ F₀ F K s (t ++ l) s') s
theorem g_name {k:Nat} {sc:Scope} {x:PStr} {np:Pos} (hx:sc.names.lookup x=some .local ∨ sc.names.lookup x=some .cell):SoundG k sc (.Name x np) (fun p=>some [(x,.fz p)]):=by
 intro C A env s₀ F₀ F K l s p v t R S r h
 cases h
 exact wpAny_assign_Name (zI3 S hx r fun s' lv S'=>⟨F,K,S',.refl _,fun _ _=>rfl,lv⟩)
noncomputable def bindP:List PStr→List PV→Lc→Option Lc
 | [],[],l=>some l
 | [],_ :: _,_=>Option.none
 | _ :: _,[],_=>Option.none
 | x :: xs,p :: ps,l=>bindP xs ps ((x,.fz p) :: l)
noncomputable def tupG (xs:List PStr) (p:PV):Option Lc:=p.sel (fun _=>Option.none) (fun _=>Option.none) (fun ps=>bindP xs ps []) (fun _=>Option.none)
theorem tupG_inv {xs:List PStr} {p:PV} {t:Lc} {P:Prop} (h:tupG xs p=some t) (k:∀ ps,p = .tup ps→bindP xs ps []=some t→P):P:=PV.sel_inv h (fun _ _ h=>no h) (fun _ _ h=>no h) k fun _ _ h=>no h
theorem order_ok {C:Cx} {A:Around} {sc:Scope} {env:Env} {s₀:Shared} {F₀:Fz} {xs:List (PStr × Pos)} (hx:∀ x∈xs,sc.names.lookup x.1=some .local ∨ sc.names.lookup x.1=some .cell) :
  ∀ {ps:List PV} {vs:List Value} {F K:Fz} {l l':Lc} {s:Shared},FS C sc env s₀ F₀ F K l s→RepL C.w F ps vs→bindP (xs.map (·.1)) ps l=some l' →
   WP C A (assignInOrder (xs.map fun x=>assign (.Name x.1 x.2) env) vs) (fun _ s'=>Goes C sc env s₀ F₀ F K s l' s') s:=by
 induction xs with
 | nil =>
  intro ps vs F K l l' s S r h
  cases ps with
  | nil=>cases h; unfold RepL at r; subst r; exact assignInOrder_nil (.refl S)
  | cons p ps=>cases h
 | cons x xs ih =>
  intro ps vs F K l l' s S r h
  cases ps with
  | nil=>cases h
  | cons p ps =>
   unfold RepL at r
   obtain ⟨v,vs,rfl,rv,r⟩:=r
   refine assignInOrder_cons (wpAny_assign_Name (zI3 S (hx x (by simp)) rv fun s₁ lv S₁=>?_))
   refine (ih (fun y hy=>hx y (mem_cons_of_mem _ hy)) S₁ r h).mono fun _ s₂ G=>?_
   obtain ⟨F₂,K₂,S₂,g⟩:=G
   exact ⟨F₂,K₂,S₂,Grew.trans ⟨.refl _,fun _ _=>rfl,lv⟩ g⟩
noncomputable def nameE (x:PStr × Pos):Expr:=.Name x.1 x.2
theorem bindP_length {xs:List PStr} {ps:List PV} {l l':Lc} (h:bindP xs ps l=some l'):xs.length=ps.length:=by
 induction xs generalizing ps l with
 | nil=>cases ps with
  | nil=>rfl
  | cons p ps=>exact no h
 | cons x xs ih=>cases ps with
  | nil=>exact no h
  | cons p ps=>exact congrArg (· + 1) (ih h)
theorem bindP_app {xs:List PStr} {ps:List PV} {l t l₂:Lc} (h:bindP xs ps l=some t):bindP xs ps (l ++ l₂)=some (t ++ l₂):=by
 induction xs generalizing ps l with
 | nil=>cases ps with
  | nil=>exact congrArg (fun t=>some (t ++ l₂)) (Option.some.inj h)
  | cons p ps=>exact no h
 | cons x xs ih=>cases ps with
  | nil=>exact no h
  | cons p ps=>exact ih (l:=(x,.fz p) :: l) h
theorem no_star {xs:List (PStr × Pos)} {env:Env}:(xs.map fun x=>(false,assign (nameE x) env)).findIdx? (·.1)=Option.none:=by
 rw [List.findIdx?_eq_none_iff]
 intro y hy
 obtain ⟨x,_,e⟩:=mem_map.mp hy
 rw [← e]
theorem g_tuple {k:Nat} {sc:Scope} {xs:List (PStr × Pos)} {n:Nat} {tp:Pos} (hx:∀ x∈xs,sc.names.lookup x.1=some .local ∨ sc.names.lookup x.1=some .cell)
  (he:∀ env,assignEach (xs.map nameE) env=xs.map fun x=>(false,assign (nameE x) env)):SoundG k sc (.Tuple (xs.map nameE) n tp) (tupG (xs.map (·.1))):=by
 intro C A env s₀ F₀ F K l s p v t R S r h
 refine tupG_inv h fun ps e h=>?_
 subst e
 unfold Rep at r
 obtain ⟨a,vs,m,rfl,f,rl⟩:=r
 refine wpAny_assign_Tuple R.handled (items:=vs) ⟨_,S.fsub _ _ f,rfl,m,rfl⟩ (by rw [he,length_map,← length_toList,rl.length,← bindP_length h,length_map]) (by rw [he]; exact no_star) fun h' hx'=>?_
 have hk:∀ b o,s.heap.get? b=some o→h'.get? b=some o:=fun b o e=>hx' b o (ne_of_lt (lt_size e)) e
 obtain ⟨S₁,g₁⟩:=S.step (.of_keep (s':={ s with heap:=h' }) hk) (S.inv.of_keep hk S.inv.gens rfl rfl)
 rw [he,map_map]
 exact (order_ok hx S₁ (RepL.mono (Fz.le_ext S.fsub) rl) (bindP_app (l₂:=l) h)).mono fun _ s₂ G=>G.trans g₁
noncomputable def forO (g:PV→Option Lc) (body orelse:Lc→Option Out):List PV→Lc→Option Out
 | [],l=>orelse l
 | p :: ps,l=>(g p).bind fun t=>(body (t ++ l)).bind fun o=>match o with
  | .go l'=>forO g body orelse ps l'
  | .brk l'=>some (.go l')
  | .ret q=>some (.ret q)
theorem for_turns {C:Cx} {A:Around} {R:Result→Shared→Prop} {tgt:Expr} {it:Value} {body orelse:List Stmt} {env:Env} (J:Nat→Shared→Prop)
  (turn:∀ n s,J n s→∀ (Qr:Option Value→Shared→Prop) (Qf:Flow→Shared→Prop),(∀ s,WP C A (execs orelse env) (fun f=>R (.ok f)) s→Qr none s) →
   (∀ v s,WP C A (letOwnedTupleGo tgt it v) (fun _=>WP C A (assign tgt env v) fun _=>WP C A (execs body env) Qf) s→Qr (some v) s) →
   (∀ m s,m < n→J m s→Qf .next s)→(∀ s,R (.ok .next) s→Qf .brk s)→(∀ v s,R (.ok (.ret v)) s→Qf (.ret v) s)→WP C A (pyNext it) Qr s)
  (n:Nat) {s:Shared} (h:J n s):codeAny (model PG C.w) A (.forLoop tgt it body orelse env) R s :=
 codeAny_forLoop_any J (fun n s h=>wpAny_mono (turn n s h _ (fun f s=>match f with
   | .next | .cont=>∃ m,m < n∧J m s
   | .brk=>R (.ok .next) s
   | .ret v=>R (.ok (.ret v)) s) (fun _ h=>wpAny_mono h (fun _ _ h=>h) fun _ _ f=>f.elim)
  (fun _ _ h=>wpAny_mono h (fun _ _ h=>wpAny_mono h (fun _ _ h=>wpAny_mono h (fun _ _ h=>h) fun _ _ f=>f.elim) fun _ _ f=>f.elim) fun _ _ f=>f.elim)
  (fun m _ h1 h2=>⟨m,h1,h2⟩) (fun _ h=>h) (fun _ _ h=>h)) (fun _ _ h=>h) fun _ _ f=>f.elim) n h
inductive LpJ (C:Cx) (sc:Scope) (env:Env) (s₀:Shared) (F₀ F K:Fz) (s:Shared) (F₁:Fz) (wr:List Addr) (St:Nat→Heap→Prop) (P:Nat→Lc→Prop) (N n:Nat) (s':Shared):Prop
 | mk (i:Nat) (l':Lc) (F' K':Fz):FS C sc env s₀ F₀ F' K' l' s'→Grew F K s F' K' s'→F₁.le F'→St i s'.heap→(∀ b∈wr,HeldA s₀ F' K' b)→P i l'→i≤N→n=N + 1 - i→LpJ C sc env s₀ F₀ F K s F₁ wr St P N n s'
theorem turn_lt {N i:Nat} (h:i < N):N + 1 - (i + 1) < N + 1 - i:=Nat.sub_lt_sub_left (lt_succ_of_lt h) (Nat.lt_succ_self i)
theorem for_loop {tp:Bool} {C:Cx} {A:Around} {k:Nat} {sc:Scope} {env:Env} {s₀ s:Shared} {F₀ F K:Fz} {l:Lc} {tgt:Expr} {body orelse:List Stmt} {g:PV→Option Lc} {fb fe:Lc→Option Out} {o:Out} {s₁:Shared} {F₁ K₁:Fz}
  (R:Room k A) (T:SoundG k sc tgt g) (B:SoundB k sc body fb) (E:SoundB k sc orelse fe) (S₁:FS C sc env s₀ F₀ F₁ K₁ l s₁) (g₁:Grew F K s F₁ K₁ s₁) {ps:List PV} {it:Value} {s₂:Shared} (hit:ItAt tp C A F₁ s₁ ps it s₂) (htp:tp=true→isTupT tgt) (h:forO g fb fe ps l=some o) {E':Value→Shared→Prop} :
  codeAny (model PG C.w) A (.forLoop tgt it body orelse env) (fun r s'=>match r with | .ok f=>After C sc env s₀ F₀ F K s o f s' | .error e=>cameBackBy (model PG C.w) A env E' e s') s₂:=by
 obtain ⟨X,I,I₀,fp,wr,St,Mid,rfl,W,st,hwr,hfp⟩:=hit
 obtain ⟨S₂,g₂,hw⟩:=S₁.held X I hwr
 have nS:∀ b∈wr,s.heap.get? b=Option.none:=fun b m=>ton fun _ e=>nol (hwr b m).1 (g₁.live b (lv e))
 have nK:∀ b∈wr,K b=Option.none:=fun b m=>ton fun o e=>nos (hwr b m).1 (S₁.sub b o (g₁.k b o e))
 have move:∀ {F' K' l' s₃ s₄},FS C sc env s₀ F₀ F' K' l' s₃→Grew F K s F' K' s₃→F₁.le F'→(∀ b∈wr,HeldA s₀ F' K' b)→Mvd wr s₃ s₄ →
   ∃ K'',FS C sc env s₀ F₀ (F'.ext s₃ s₄) K'' l' s₄∧Grew F K s (F'.ext s₃ s₄) K'' s₄∧F₁.le (F'.ext s₃ s₄)∧((∀ b∈wr,(s₄.heap.get? b).isSome=true)→∀ b∈wr,HeldA s₀ (F'.ext s₃ s₄) K'' b):=by
  intro F' K' l' s₃ s₄ S₃ g₃ le₃ hw₃ M
  obtain ⟨S₄,k4⟩:=S₃.reiter hw₃ M
  refine ⟨_,S₄,⟨fun b o e=>k4 b o (fun m=>nos (nK b m) e) (g₃.k b o e),fun b lv=>(Fz.ext_old (g₃.live b lv)).trans (g₃.f b lv),fun b lv=>M.lv (fun m=>nol (nS b m) lv) (g₃.live b lv)⟩,le₃.trans (Fz.le_ext S₃.fsub),fun l b m=>⟨hold_in m ▸ l b m,?_,(hw₃ b m).o⟩⟩
  obtain ⟨o,e⟩:=isSome_iff_exists.mp (hw₃ b m).k
  exact (Fz.ext_old (lv (S₃.sub b o e))).trans (hw₃ b m).f
 have keep:∀ {F₅ K₅ l₅ s₅ F₇ K₇ l₇ s₇ j},FS C sc env s₀ F₀ F₅ K₅ l₅ s₅→F₁.le F₅→(∀ b∈wr,HeldA s₀ F₅ K₅ b)→St j s₅.heap→FS C sc env s₀ F₀ F₇ K₇ l₇ s₇→Grew F₅ K₅ s₅ F₇ K₇ s₇→F₁.le F₇∧St j s₇.heap∧(∀ b∈wr,HeldA s₀ F₇ K₇ b):=by
  intro F₅ K₅ l₅ s₅ F₇ K₇ l₇ s₇ j S₅ le₅ hw₅ st S₇ g₇
  refine ⟨le₅.trans (g₇.fle S₅.fsub),W.frame j _ _ st fun b hb o e=>?_,fun b m=>?_⟩
  ·have:∃ o',K₅ b=some o':=(hfp b hb).elim (fun m=>isSome_iff_exists.mp (hw₅ b m).k) fun ⟨o',e'⟩=>⟨o',S₅.fk b o' (le₅ b o' e')⟩
   obtain ⟨o',e'⟩:=this
   exact (S₇.sub b o' (g₇.k b o' e')).trans ((S₅.sub b o' e').symm.trans e)
  ·obtain ⟨o,e⟩:=isSome_iff_exists.mp (hw₅ b m).k
   exact ⟨lv (g₇.k b o e),(g₇.f b (lv (S₅.sub b o e))).trans (hw₅ b m).f,(hw₅ b m).o⟩
 refine for_turns (LpJ C sc env s₀ F₀ F K s F₁ wr St (fun i l'=>forO g fb fe (ps.drop i) l'=some o) ps.length) ?_ (ps.length + 1) ⟨0,l,_,_,S₂,g₁.trans g₂,.refl _,st,hw,h,zero_le _,rfl⟩
 intro n s₃ hJ Qr Qf qn qs q1 qb qr
 obtain ⟨i,l',F',K',S₃,g₃,le₃,st₃,hw₃,hO,hi,rfl⟩:=hJ
 by_cases hlt:i < ps.length
 ·rw [List.drop_eq_getElem_cons hlt] at hO
  obtain ⟨t,ht,hO⟩:=bind_eq_some_iff.mp hO
  obtain ⟨ob,hob,hO⟩:=bind_eq_some_iff.mp hO
  have step:∀ s₄ v,Mvd wr s₃ s₄→Rep C.w (F'.ext s₃ s₄) ps[i] v→Mid i v s₄.heap→Qr (some v) s₄:=by
   intro s₄ v M r m
   obtain ⟨K₄,S₄,g₄,le₄,w₄⟩:=move S₃ g₃ le₃ hw₃ M
   have step:∀ s₅,Mvd wr s₄ s₅→St (i + 1) s₅.heap→WP C A (assign tgt env v) (fun _=>WP C A (execs body env) Qf) s₅:=by
    intro s₅ M st
    obtain ⟨K₅,S₅,g₅,le₅,w₅⟩:=move S₄ g₄ le₄ (w₄ (W.liveM i v _ m)) M
    refine (T C A env s₀ F₀ _ _ l' _ ps[i] v t R S₅ (Rep.mono (Fz.le_ext S₄.fsub) r) ht).mono fun _ s₆ h6=>?_
    obtain ⟨F₆,K₆,S₆,g₆⟩:=h6
    refine (B C A env s₀ F₀ _ _ (t ++ l') _ ob R S₆ hob).mono fun f s₇ h7=>?_
    cases ob with
    | go l₇ =>
     obtain ⟨rfl,F₇,K₇,S₇,g₇⟩:=h7
     obtain ⟨le₇,st₇,hw₇⟩:=keep S₅ le₅ (w₅ (W.live _ _ st)) st S₇ (g₆.trans g₇)
     exact q1 _ _ (turn_lt hlt) ⟨i + 1,l₇,F₇,K₇,S₇,g₅.trans (g₆.trans g₇),le₇,st₇,hw₇,hO,hlt,rfl⟩
    | brk l₇ =>
     obtain rfl:=Option.some.inj hO
     obtain ⟨rfl,h7⟩:=h7
     exact qb _ ⟨rfl,h7.trans (g₅.trans g₆)⟩
    | ret q =>
     obtain rfl:=Option.some.inj hO
     obtain ⟨v,rfl,P⟩:=h7
     exact qr _ _ ⟨v,rfl,P⟩
   exact qs v s₄ (W.go tgt i v s₄ _ htp m fun h'' st'' hk''=>step _ (.of hk'') st'')
  exact W.item i s₃ Qr F' hlt st₃ le₃ S₃.fsub fun v h' tk p hp r m hk=>step _ v (.of hk) (uniq hp (getElem?_eq_getElem hlt) ▸ r) m
 ·obtain rfl:i=ps.length:=Nat.le_antisymm hi (Nat.le_of_not_lt hlt)
  rw [List.drop_length] at hO
  refine W.done s₃ Qr st₃ fun h' tk hk=>qn _ ?_
  obtain ⟨K₄,S₄,g₄,_⟩:=move S₃ g₃ le₃ hw₃ (.of (tk:=tk) hk)
  exact (E C A env s₀ F₀ _ _ l' _ o R S₄ hO).mono fun f s₅ h5=>h5.trans g₄
theorem st_for {k:Nat} {sc:Scope} {tgt iter:Expr} {body orelse:List Stmt} {pos:Pos} {g:PV→Option Lc} {fi:Lc→Option PV} {fb fe:Lc→Option Out} (H:SoundE k sc iter fi) (T:SoundG k sc tgt g) (B:SoundB k sc body fb) (E:SoundB k sc orelse fe)
  (hs:∀ env x,foldedSetIterable iter env x=pure x):SoundS k sc (.For tgt iter body orelse pos) (fun l=>(fi l).bind fun p=>(iterPV p).bind fun ps=>forO g fb fe ps l):=by
 intro C A env s₀ F₀ F K l s o R S h
 obtain ⟨p,hp,h⟩:=bind_eq_some_iff.mp h
 obtain ⟨ps,hps,h⟩:=bind_eq_some_iff.mp h
 refine wpAny_For ((H C A env F l s p R S.xs hp).mono fun v s₁ P=>?_) (hs env)
 obtain ⟨S₁,g₁⟩:=S.step P.1 P.2
 exact (iter_ok R P.2 S₁.fsub P.3 hps).mono fun it s₂ hit=>for_loop R T B E S₁ g₁ hit (fun e=>by exact bno rfl e) h
theorem st_unpack {k:Nat} {sc:Scope} {elts:List Expr} {n:Nat} {tpos pos:Pos} {e:Expr} {g:PV→Option Lc} {f:Lc→Option PV} (H:SoundE k sc e f) (T:SoundG k sc (.Tuple elts n tpos) g)
  (hsw:∀ env,swapsWithSole [.Tuple elts n tpos] e pos.line env=pure false) (hw:∀ env,swappedStores [.Tuple elts n tpos] e env=pure none):SoundS k sc (.Assign [.Tuple elts n tpos] e pos) (fun l=>(f l).bind fun p=>(g p).map fun t=>.go (t ++ l)):=by
 intro C A env s₀ F₀ F K l s o R S h
 obtain ⟨p,hp,h⟩:=bind_eq_some_iff.mp h
 obtain ⟨t,ht,rfl⟩:=map_eq_some_iff.mp h
 refine Assign_Tuple ((H C A env F l s p R S.xs hp).mono fun v s₁ P=>?_) (hsw env) (hw env)
 obtain ⟨S₁,g₁⟩:=S.step P.1 P.2
 exact (T C A env s₀ F₀ _ _ l s₁ p v t R S₁ P.3 ht).mono fun _ s₂ ⟨F₂,K₂,S₂,g₂⟩=>⟨rfl,F₂,K₂,S₂,g₁.trans g₂⟩
theorem sameBut_live {h h':Heap} {a:Addr} (hs:SameBut a h h') (ha:(h'.get? a).isSome=true) {b:Addr} (hb:(h.get? b).isSome=true):(h'.get? b).isSome=true:=by
 by_cases e:b=a
 ·subst e; exact ha
 ·rw [hs.2 b e]; exact hb
theorem stars_one {e:Expr} (hst:Stars [e]) (env:Env) (pos:Pos):backTo pos (starEach [e] env)=[(false,eval e env)]:=by exact congrArg _ (hst env)
noncomputable def cAppend (x:PStr) (f:Lc→Option PV):Lc→Option Out:=fun l=>(look l x).bind fun q=>q.owP.bind fun q=>q.toLst.bind fun xs=>(f l).bind fun p=>if xs.length < sizeLine then some (.go ((x,.ow (.list (xs ++ [p]))) :: l)) else none
theorem cAppend_inv {x:PStr} {f:Lc→Option PV} {l:Lc} {o:Out} {P:Prop} (h:cAppend x f l=some o) (k:∀ xs p,look l x=some (.ow (.list xs))→f l=some p→xs.length < sizeLine→.go ((x,.ow (.list (xs ++ [p]))) :: l)=o→P):P :=
 zB1 h fun q e h=>zB1 h fun q' e' h=>zB1 h fun xs e'' h=>zB1 h fun p hp h=>k xs p (by rw [e,Loc.owP_inv e',PV.toLst_inv e'']) hp (zG0 h).1 (zG0 h).2
theorem st_append {k:Nat} {sc:Scope} {x:PStr} {np ap cp pos:Pos} {e:Expr} {f:Lc→Option PV} (hx:sc.names.lookup x=some .local ∨ sc.names.lookup x=some .cell) (hd:(x == ("__debug__":PySem.Str))=false) (H:SoundE k sc e f) (hst:Stars [e])
  (hbase:∀ env,attributeBase (.Name x np) "append" env (eval (.Name x np) env)=eval (.Name x np) env) (hline:(ap.endLine == cp.line)=true)
  (hi:∀ env,env.scope=sc→interactive env=false) :
  SoundS k sc (.Expr (.Call (.Attribute (.Name x np) "append" ap) [e] [] cp) pos) (cAppend x f):=by
 intro C A env s₀ F₀ F K l s o R S h
 refine cAppend_inv h fun xs p hl hp hz e=>?_
 ·obtain rfl:=e
  obtain ⟨a,vs,n,ba,ho,hsz,k⟩:=S.ownApp hl
  refine wpAny_Expr (wpAny_Call_append (hbase env) (by rw [hst env]; rfl) hline (stars_one hst env cp) ?_) (hi env S.ok.scope) (by rfl)
  refine wpAny_Name (zG1 S.ok hx ba ⟨a,vs,rfl,⟨_,n,ho,rfl,rfl,rfl⟩,?_⟩) hd
  refine (H C A env F l s p R S.xs hp).mono fun v s₁ P=>?_
  obtain ⟨S₁,g₁⟩:=S.step P.1 P.2
  refine wpAny_list_append_plain ⟨n,P.1.kept S.inv ho (zJ2 rfl)⟩ (fun h' hpl hs'=>?_) (hsz ▸ Nat.le_of_lt hz)
  obtain ⟨n₂,hn₂⟩:=hpl
  exact ⟨rfl,(k S₁ P.1 s₁.toks P.3 hn₂ hs').trans g₁⟩
theorem setItem_plain {prog:Program} {w:World} {A:Around} {E:Value→Shared→Prop} {s:Shared} {l:Addr} {items:Array Value} {n:Nat} {k:Int} {t:Tok} {v:Value} {Q:Unit→Shared→Prop} (ho:s.heap.get? l=some { cls:=.type "list",data:=.seq items n })
  (h0:0≤k) (hfit:k < 2 ^ 63) (hn:k < items.size)
  (hQ:∀ h',h'.get? l=some { cls:=.type "list",data:=.seq (items.setIfInBounds k.toNat v) n }→SameBut l s.heap h'→Q () { s with heap:=h' }) :
  wpAny (model prog w) A (setItem (.ref l) (.int k t) v) Q E s:=by
 have hl:s.heap.IsList l items:=⟨_,ho,rfl,n,rfl⟩
 have hd:({ cls:=.type "list",data:=.seq items n }:Obj).data = .seq items n:=rfl
 unfold setItem
 try with_reducible refine wpAny_holding ?_
 first | refine wpAny_bind (wpAny_pure ?_) | skip
 refine wpAny_bind (wpAny_sequenceKey hl.typeIs (by decide) ?_)
 refine wpAny_bind (wpAny_callSpecial?_slot (name:=Str.ofString "__setitem__") hl.typeIs slot_list_setitem
  (wpAny_call_entry slot_list_setitem hl.typeIs entry_list_setitem ?_ (args_list_setitem _ _ _)))
 show wpAny _ _ (Builtin.List.listSubscript? (.int k t) >>= _) _ _ s
 refine wpAny_bind (wpAny_listSubscript_int (fitsIndex_of h0 hfit) ?_)
 clear hfit
 obtain ⟨j,rfl⟩:=Int.eq_ofNat_of_zero_le h0
 have hj:j < items.size:=by lia
 have hx':items[j]? = some items[j]:=Array.getElem?_eq_getElem hj
 show wpAny _ _ ((seqItemAt l j >>= fun r=>pure (r.map (j,·))) >>= _) _ _ s
 refine wpAny_bind (wpAny_bind (wpAny_seqItemAt ho hd (wpAny_pure ?_)))
 rw [hx']
 show wpAny _ _ (setSeqItemAt l j v >>= _) _ _ s
 have hm:Obj.mapSeq (·.setIfInBounds j v) { cls:=.type "list",data:=.seq items n }={ cls:=.type "list",data:=.seq (items.setIfInBounds j v) n }:=by
  simp [Obj.mapSeq]
 have hfin:(s.heap.update l (Obj.mapSeq (·.setIfInBounds j v))).get? l=some { cls:=.type "list",data:=.seq (items.setIfInBounds j v) n }:=by
  rw [get?_update_self _ ho (by exact congrArg _ hm),hm]
 refine wpAny_bind (wpAny_setSeqItemAt ho hd ?_)
 first
  | exact wpAny_bind (wpAny_pure (wpAny_pure ⟨.none,rfl,wpAny_pure (hQ _ hfin (SameBut.update ..))⟩))
  | exact wpAny_pure ⟨.none,rfl,wpAny_pure (hQ _ hfin (SameBut.update ..))⟩
theorem RepL.set {w:World} {F:Fz}:∀ {xs:List PV} {vs:List Value} {i:Nat} {p:PV} {v:Value},RepL w F xs vs→Rep w F p v→RepL w F (xs.set i p) (vs.set i v)
 | [],_,_,_,_,h,_=>by unfold RepL at h; subst h; simp; exact RepL.nil
 | x :: xs,_,0,_,_,h,r=>by unfold RepL at h; obtain ⟨u,t,rfl,a,h⟩:=h; exact RepL.cons r h
 | x :: xs,_,i + 1,_,_,h,r=>by unfold RepL at h; obtain ⟨u,t,rfl,a,h⟩:=h; exact RepL.cons a (RepL.set h r)
noncomputable def dsetK (ks:List PStr) (k:PStr):List PStr:=if k∈ks then ks else ks ++ [k]
noncomputable def dupd {α:Type}:List PStr→List α→PStr→α→List α
 | k' :: ks,x :: xs,k,v=>(if k'=k then v else x) :: dupd ks xs k v
 | _,_,_,_=>[]
noncomputable def dsetV {α:Type} (ks:List PStr) (xs:List α) (k:PStr) (v:α):List α:=if k∈ks then dupd ks xs k v else xs ++ [v]
noncomputable def setPV (c i p:PV):Option PV:=PV.casesOn c none (fun _=>none) (fun _=>none) (fun _=>none) (fun _=>none) (fun xs=>i.toInt.bind fun i=>if 0≤i∧i < xs.length∧xs.length≤sizeLine then some (.list (xs.set i.toNat p)) else none)
 (fun ks xs=>i.toStr.bind fun k=>if ks.Nodup∧ks.length < sizeLine then some (.dict (dsetK ks k) (dsetV ks xs k p)) else none) (fun _ _ _=>none) (fun _=>none) (fun _=>none) (fun _ _=>none)
theorem set_inv {c i p q:PV} {P:Prop} (h:setPV c i p=some q) (k1:∀ xs j,c = .list xs→i = .int j→0≤j∧j < xs.length∧xs.length≤sizeLine→.list (xs.set j.toNat p)=q→P) (k2:∀ ks xs k,c = .dict ks xs→i = .str k→ks.Nodup∧ks.length < sizeLine→.dict (dsetK ks k) (dsetV ks xs k p)=q→P):P:=by
 cases c with
 | list xs=>exact zB1 h fun j e h=>k1 xs j rfl (PV.toInt_inv e) (zG0 h).1 (zG0 h).2
 | dict ks xs=>exact zB1 h fun k e h=>k2 ks xs k rfl (PV.toStr_inv e) (zG0 h).1 (zG0 h).2
 | _=>exact no h
theorem KeyAre.len {w:World}:∀ {ks:List PStr} {es:List DictEntry},KeyAre w ks es→es.length=ks.length
 | [],[],_=>rfl
 | [],_ :: _,h=>h.elim
 | _ :: _,[],h=>h.elim
 | k :: ks,e :: es,h=>by simp [KeyAre.len h.2]
theorem KeyAre.pairs {w:World}:∀ {ks:List PStr} {es:List DictEntry},KeyAre w ks es→Pairs (PySem.strKind PG w) es (ks.zip (es.map (·.val)))
 | [],[],_=>.nil
 | [],_ :: _,h=>h.elim
 | _ :: _,[],h=>h.elim
 | k :: ks,e :: es,h=>by
  refine .cons ?_ rfl (KeyAre.pairs h.2)
  obtain ⟨⟨_,t,ek⟩,_⟩:=h
  show Value.isStrOf k e.key=true
  rw [ek]; simp [Value.isStrOf]
theorem KeyAre.of_pairs {w:World}:∀ {ks:List PStr} {vs:List Value} {es:List DictEntry},ks.length=vs.length→Pairs (PySem.strKind PG w) es (ks.zip vs)→(∀ e∈es,∃ k,Value.isStrOf k e.key=true∧e.hash=hashStr w k)→KeyAre w ks es∧es.map (·.val)=vs
 | [],[],_,_,h,_=>by cases h; exact ⟨trivial,rfl⟩
 | [],_ :: _,_,h,_,_=>by simp at h
 | _ :: _,[],_,h,_,_=>by simp at h
 | k :: ks,v :: vs,es,hl,h,hk=>by
  cases h with
  | cons h1 h2 h3 =>
   rename_i e es
   obtain ⟨a,b⟩:=KeyAre.of_pairs (by simpa using hl) h3 (fun e he=>hk e (mem_cons_of_mem _ he))
   have h1:Value.isStrOf k e.key=true:=h1
   obtain ⟨t,ek⟩:=Value.isStrOf_shape h1
   obtain ⟨k',h4,h5⟩:=hk e (by simp)
   obtain ⟨t',ek'⟩:=Value.isStrOf_shape h4
   rw [ek] at ek'; injection ek' with e1 _; subst e1
   exact ⟨⟨⟨h5,t,ek⟩,a⟩,by rw [map_cons,b]; congr 1⟩
theorem dupd_length {α:Type}:∀ {ks:List PStr} {xs:List α} {k:PStr} {v:α},ks.length=xs.length→(dupd ks xs k v).length=ks.length
 | [],[],_,_,_=>rfl
 | [],_ :: _,_,_,h=>by simp at h
 | _ :: _,[],_,_,h=>by simp at h
 | k' :: ks,x :: xs,k,v,h=>by unfold dupd; simp [dupd_length (by simpa using h)]
theorem dset_length {α:Type} {ks:List PStr} {xs:List α} {k:PStr} {v:α} (h:ks.length=xs.length):(dsetK ks k).length=(dsetV ks xs k v).length:=by
 unfold dsetK dsetV
 split
 ·rw [dupd_length h]
 ·simp [h]
theorem stored_zip:∀ {ks:List PStr} {vs:List Value} {k:PStr} {v:Value},ks.length=vs.length→stored (ks.zip vs) k v=(dsetK ks k).zip (dsetV ks vs k v):=by
 intro ks vs k v h
 have hany:(ks.zip vs).any (fun kv=>decide (kv.1=k))=decide (k∈ks):=by
  induction ks generalizing vs with
  | nil=>simp
  | cons k' ks ih =>
   cases vs with
   | nil=>simp at h
   | cons u vs =>
    rw [List.zip_cons_cons,List.any_cons,ih (by simpa using h)]
    by_cases e:k'=k
    ·subst e; simp
    ·have:¬ k=k':=fun q=>e q.symm
     simp [e,this]
 unfold stored dsetK dsetV
 rw [hany]
 by_cases hk:k∈ks
 ·simp only [hk,decide_true,if_true]
  have:∀ (ks:List PStr) (vs:List Value),ks.length=vs.length→(ks.zip vs).map (fun kv=>if kv.1=k then (kv.1,v) else kv)=ks.zip (dupd ks vs k v):=by
   intro ks
   induction ks with
   | nil=>intro vs _; simp [dupd]
   | cons k' ks ih =>
    intro vs h
    cases vs with
    | nil=>simp at h
    | cons u vs =>
     unfold dupd
     rw [List.zip_cons_cons,map_cons,ih vs (by simpa using h),List.zip_cons_cons]
     congr 1
     dsimp only
     split <;> rfl
  exact this ks vs h
 ·simp only [hk,decide_false,false_eq_true,if_false]
  rw [List.zip_append h]; rfl
theorem RepL.dupd {w:World} {F:Fz}:∀ {ks:List PStr} {xs:List PV} {vs:List Value} {k:PStr} {p:PV} {v:Value},ks.length=xs.length→RepL w F xs vs→Rep w F p v→RepL w F (dupd ks xs k p) (dupd ks vs k v)
 | [],[],_,_,_,_,_,h,_=>by unfold RepL at h; subst h; exact RepL.nil
 | [],_ :: _,_,_,_,_,h,_,_=>by simp at h
 | _ :: _,[],_,_,_,_,h,_,_=>by simp at h
 | k' :: ks,x :: xs,_,k,p,v,hl,h,r=>by
  unfold RepL at h
  obtain ⟨u,t,rfl,a,h⟩:=h
  unfold Mine.dupd
  refine RepL.cons ?_ (RepL.dupd (by simpa using hl) h r)
  by_cases e:k'=k
  ·rw [if_pos e,if_pos e]; exact r
  ·rw [if_neg e,if_neg e]; exact a
theorem dict_in {w:World} {h:Heap} {a:Addr} {es:Array DictEntry} {n:Nat} {ks:List PStr} (ho:h.get? a=some { cls:=.type "dict",data:=.dict es n }) (hk:KeyAre w ks es.toList) (nd:ks.Nodup) :
  h.DictOf (PySem.strKind PG w) a (ks.zip (es.toList.map (·.val)))∧ks.length=(es.toList.map (·.val)).length:=by
 have hl:ks.length=(es.toList.map (·.val)).length:=by rw [length_map]; exact hk.len.symm
 refine ⟨⟨_,es,n,ho,⟨rfl,rfl,rfl⟩,rfl,fun e he=>keys_of hk e (Array.mem_toList_iff.mpr he),hk.pairs,?_⟩,hl⟩
 rw [List.map_fst_zip (Nat.le_of_eq hl)]; exact nd
theorem dict_out {w:World} {h:Heap} {a:Addr} {ks:List PStr} {vs:List Value} {key:PStr} {v:Value} (hl:ks.length=vs.length) (hD:h.DictOf (PySem.strKind PG w) a (stored (ks.zip vs) key v)) :
  ∃ es n,h.get? a=some { cls:=.type "dict",data:=.dict es n }∧KeyAre w (dsetK ks key) es.toList∧es.toList.map (·.val)=dsetV ks vs key v:=by
 obtain ⟨o,es,n,ho,he,hd,hko,hp,_⟩:=hD
 rw [stored_zip hl] at hp
 have k:=KeyAre.of_pairs (dset_length hl) hp (fun e he=>hko e (Array.mem_toList_iff.mp he))
 refine ⟨es,n,?_,k⟩
 obtain ⟨c,d,dt,sl⟩:=o
 obtain ⟨rfl,rfl,rfl⟩:=he
 obtain rfl:dt = .dict es n:=hd
 exact ho
theorem zip_len {α β:Type} {ks:List α} {vs:List β} (hl:ks.length=vs.length) {m:Nat} (h:ks.length < m):(ks.zip vs).length < m:=by rw [List.length_zip,← hl,Nat.min_self]; exact h
theorem RepL.put {w:World} {F:Fz} {ks:List PStr} {xs:List PV} {vs:List Value} {key:PStr} {p:PV} {v:Value} (hl:ks.length=vs.length) (rl:RepL w F xs vs) (rv:Rep w F p v):RepL w F (dsetV ks xs key p) (dsetV ks vs key v):=by
 unfold dsetV
 by_cases m:key∈ks
 ·rw [if_pos m,if_pos m]; exact rl.dupd (hl.trans rl.length) rv
 ·rw [if_neg m,if_neg m]; exact rl.append (RepL.cons rv RepL.nil)
theorem str_key {w:World} {x:PStr} {t:Tok}:(PySem.strKind PG w).is x (.str x t)=true:=by simp [PySem.strKind,Value.isStrOf]
noncomputable def cSetItem (x:PStr) (f g:Lc→Option PV):Lc→Option Out:=fun l=>(look l x).bind fun q=>q.owP.bind fun c=>(f l).bind fun p=>(g l).bind fun i=>(setPV c i p).map fun c'=>.go ((x,.ow c') :: l)
theorem st_setitem {k:Nat} {sc:Scope} {x:PStr} {np ip pos:Pos} {ei e:Expr} {f g:Lc→Option PV} (hx:sc.names.lookup x=some .local ∨ sc.names.lookup x=some .cell) (hd:(x == ("__debug__":PySem.Str))=false) (H:SoundE k sc e f) (G:SoundE k sc ei g)
  (hsw:∀ env,swapsWith e (some (.Subscript (.Name x np) ei ip)) pos.line env=pure false) :
  SoundS k sc (.Assign [.Subscript (.Name x np) ei ip] e pos) (cSetItem x f g):=by
 intro C A env s₀ F₀ F K l s o R S h
 refine zB1 h fun q hl h=>zB1 h fun c hq h=>zB1 h fun p hp h=>zB1 h fun i hi h=>mapE h fun c' hc e=>?_
 ·obtain rfl:=Loc.owP_inv hq
  obtain rfl:=e
  refine wpAny_Assign_Subscript ((H C A env F l s p R S.xs hp).mono fun v s₁ P=>?_) (hsw env)
  obtain ⟨S₁,g₁⟩:=S.step P.1 P.2
  obtain ⟨a,ba,k⟩:=S₁.own2 hl rfl
  refine wpAny_Name (zG1 S₁.ok hx ba ?_) hd
  refine (G C A env _ l s₁ i R S₁.xs hi).mono fun vi s₂ P₂=>?_
  obtain ⟨S₂,g₂⟩:=S₁.step P₂.1 P₂.2
  obtain ⟨rb,upd⟩:=k S₂ P₂.1
  have rv:Rep C.w ((F.ext s s₁).ext s₁ s₂) p v:=Rep.mono (Fz.le_ext S₁.fsub) P.3
  have fin:∀ {h' o} tk,SameBut a s₂.heap h'→h'.get? a=some o→(F.ext s s₁).ext s₁ s₂ a=none→ObjRep C.w ((F.ext s s₁).ext s₁ s₂) o c'→After C sc env s₀ F₀ F K s (.go ((x,.ow c') :: l)) .next { s₂ with heap:=h',toks:=tk } :=
   fun tk hs e fa r=>⟨rfl,_,_,upd _ tk _ hs rfl (own_mk fa e r),g₁.trans (g₂.trans (Grew.wrote hs e))⟩
  refine set_inv hc (fun xs j e1 e2 hz e3=>?_) fun ks xs key e1 e2 hz e3=>?_
  ·subst e1 e2 e3
   obtain ⟨vs,n,ho,fa,rl⟩:=own_list rb
   obtain ⟨t,rfl⟩:=zB9 P₂.3
   have hsz:(xs.length:Int)=vs.size:=congrArg _ (rl.length.symm.trans length_toList)
   refine setItem_plain ho hz.1 (Int.lt_trans hz.2.1 (Int.ofNat_lt.mpr (Nat.lt_of_le_of_lt hz.2.2 (by decide)))) (hsz ▸ hz.2.1) fun h' hn' hs'=>fin s₂.toks hs' hn' fa ⟨_,n,rfl,?_⟩
   rw [Array.toList_setIfInBounds]
   exact rl.set rv
  ·subst e1 e2 e3
   obtain ⟨a',o,e,fa,ho,es,n,rfl,hk,rl⟩:=rb
   obtain rfl:=refI e
   obtain ⟨t,rfl⟩:=zB6 P₂.3
   obtain ⟨hD,hl⟩:=dict_in ho hk hz.1
   refine wpAny_setItem_pairs (knd:=PySem.strKind PG C.w) (k:=key) str_key hD (fun h' hD' hs'=>?_) (Nat.le_of_lt (zip_len hl hz.2))
   obtain ⟨es',n',ho',hk',hv'⟩:=dict_out hl hD'
   exact fin (s₂.toks + 1) hs' ho' fa ⟨es',n',rfl,hk',hv' ▸ rl.put hl rv⟩
noncomputable def iaddPV:PV→PV→Option PV:=ss2 fun x y=>if x.length + y.length≤sizeLine then some (.str (x ++ y)) else none
theorem o_iadd {k:Nat}:OpOK k (inplaceOp .Add) iaddPV:=by
 intro C A F s a b p va vb R I hs ra rb h
 refine ss2_inv h fun x y e1 e2 h=>?_
 subst e1 e2
 obtain ⟨hz,rfl⟩:=zG0 h
 obtain ⟨t,rfl⟩:=zB6 ra
 obtain ⟨u,rfl⟩:=zB6 rb
 exact SB.iadd (fun t' k=>Post.str I _) hz
theorem st_aug {k:Nat} {sc:Scope} {x:PStr} {np pos:Pos} {op:Operator} {e:Expr} {f:Lc→Option PV} {o:PV→PV→Option PV} (hx:sc.names.lookup x=some .local ∨ sc.names.lookup x=some .cell) (O:OpOK k (inplaceOp op) o) (H:SoundE k sc e f) :
  SoundS k sc (.AugAssign (.Name x np) op e pos) (cSet x (c2 o (cV x) f)):=by
 intro C A env s₀ F₀ F K l s out R S h
 obtain ⟨p,hp,rfl⟩:=map_eq_some_iff.mp h
 obtain ⟨a,b,ha,hb,ho⟩:=c2_some hp
 obtain ⟨v,bv,r⟩:=S.xs.loc x _ (cV_some ha) (by rw [S.ok.kindOf]; exact hx)
 refine wpAny_AugAssign_Name (zG1 S.ok hx bv ?_)
 refine (H C A env F l s b R S.xs hb).mono fun vb s₁ P=>?_
 obtain ⟨S₁,g₁⟩:=S.step P.1 P.2
 refine (O C A _ s₁ a b p v vb R P.2 S₁.fsub (Rep.mono (Fz.le_ext S.fsub) r) P.3 ho).mono fun u s₂ P₂=>?_
 obtain ⟨S₂,g₂⟩:=S₁.step P₂.1 P₂.2
 exact zI3 S₂ hx P₂.3 fun s₃ lv S₃=>⟨rfl,_,_,S₃,g₁.trans (g₂.trans ⟨.refl _,fun _ _=>rfl,lv⟩)⟩
theorem st_break {k:Nat} {sc:Scope} {pos:Pos}:SoundS k sc (.Break pos) (fun l=>some (.brk l)):=by
 intro C A env s₀ F₀ F K l s o R S h
 cases h
 exact wpAny_Break ⟨rfl,.refl S⟩
theorem zH7 {x:PStr}:∀ {names:List (PStr × NameKind)} {n:Nat} {acc:List (PStr × Addr)},((x,NameKind.cell)∈names ∨ (acc.lookup x).isSome=true)→((cellsFrom n names acc).lookup x).isSome=true
 | [],n,acc,h=>by
  rcases h with h | h
  ·cases h
  ·exact h
 | (y,kd) :: r,n,acc,h=>by
  unfold cellsFrom
  by_cases hk:(kd == NameKind.cell)=true
  ·rw [if_pos hk]
   refine zH7 ?_
   by_cases e:x=y
   ·subst e; exact .inr (by simp)
   ·rcases h with h | h
    ·rcases mem_cons.mp h with h | h
     ·cases h; exact absurd rfl e
     ·exact .inl h
    ·refine .inr ?_
     rw [lookup_cons]
     have:(x == y)=false:=beq_eq_false_iff_ne.mpr e
     rw [this]; exact h
  ·rw [if_neg hk]
   refine zH7 ?_
   rcases h with h | h
   ·rcases mem_cons.mp h with h | h
    ·cases h; exact absurd rfl hk
    ·exact .inl h
   ·exact .inr h
theorem zD0 {α β:Type} [BEq α] [LawfulBEq α] {x:α} {v:β}:∀ {l:List (α × β)},l.lookup x=some v→(x,v)∈l:=fun h=>mem_of_lookup' h
where
 mem_of_lookup':∀ {l:List (α × β)},l.lookup x=some v→(x,v)∈l
 | [],h=>by cases h
 | (y,u) :: r,h=>by
  rw [lookup_cons] at h
  cases e:x == y with
  | true=>rw [e] at h; cases h; rw [eq_of_beq e]; exact List.mem_cons_self
  | false=>rw [e] at h; exact mem_cons_of_mem _ (mem_of_lookup' h)
theorem binds_ok {w:World} {F:Fz} {kd:PStr→Option NameKind}:∀ {xs:List PStr} {ps:List PV} {vs:List Value} {m cm:PStr→Option Value} {l l':Lc},(∀ x∈xs,kd x=some .local ∨ kd x=some .cell)→RepL w F ps vs→bindP xs ps l=some l' →
  (∀ x q,look l x=some q→∃ v p,(kd x=some .local∧m x=some v ∨ kd x=some .cell∧cm x=some v)∧q = .fz p∧Rep w F p v) →
  (∀ x q,look l' x=some q→∃ v p,(kd x=some .local∧bindL kd (xs.zip vs) m x=some v ∨ kd x=some .cell∧bindC kd (xs.zip vs) cm x=some v)∧q = .fz p∧Rep w F p v)
 | [],[],vs,m,cm,l,l',_,r,h,H=>by
  unfold RepL at r; subst r; cases h; exact H
 | [],_ :: _,_,_,_,_,_,_,_,h,_=>by cases h
 | _ :: _,[],_,_,_,_,_,_,_,h,_=>by cases h
 | x :: xs,p :: ps,_,m,cm,l,l',hk,r,h,H=>by
  unfold RepL at r
  obtain ⟨v,vs,rfl,rv,r⟩:=r
  unfold bindP at h
  rw [List.zip_cons_cons]
  unfold bindL bindC
  have hx:=hk x (by simp)
  refine binds_ok (fun y hy=>hk y (mem_cons_of_mem _ hy)) r h fun y q hq=>?_
  rw [look_cons] at hq
  by_cases e:y=x
  ·subst e
   rw [if_pos rfl] at hq; cases hq
   refine ⟨v,p,?_,rfl,rv⟩
   rcases hx with hx | hx
   ·exact .inl ⟨hx,by rw [if_pos hx]; simp⟩
   ·exact .inr ⟨hx,by rw [if_neg (by rw [hx]; decide)]; simp⟩
  ·rw [if_neg e] at hq
   obtain ⟨u,p',hu,rfl,ru⟩:=H y q hq
   refine ⟨u,p',?_,rfl,ru⟩
   rcases hu with ⟨a,b⟩ | ⟨a,b⟩
   ·refine .inl ⟨a,?_⟩
    split
    ·simp [e,b]
    ·exact b
   ·refine .inr ⟨a,?_⟩
    split
    ·exact b
    ·simp [e,b]
structure FnData (a:Addr) (fd:FuncData) (sc:Scope) (body:List Stmt):Prop where
 at_:∀ P,∃ o,(KT P).lookup a=some o∧o.data = .func fd
 body:fd.body = .stmts body
 scope:fd.scope=sc
 clo:fd.closure=[]
 glob:fd.globals=mainGlobals
 bt:fd.builtins=builtinsNs
 code:∀ P,∃ c o vs t,fd.code = .ref c∧(KT P).lookup c=some o∧o.data = .fields vs∧vs[1]? = some (.str fd.qualname t)
 co:fd.scope.isCoroutine=false
 gen:fd.scope.isGenerator=false
 kind:fd.scope.kind = .function
theorem fs_start {a:Addr} {fd:FuncData} {sc:Scope} {body:List Stmt} (D:FnData a fd sc body) {xs:List PStr} (hx:∀ x∈xs,sc.names.lookup x=some .local ∨ sc.names.lookup x=some .cell)
  {C:Cx} {F:Fz} {s s₁:Shared} {ps:List PV} {vs:List Value} (I:Inv C s) (hs:F.sub s.heap) (hT:F.offTab) (r:RepL C.w F ps vs) {l:Lc} (hl:bindP xs ps []=some l)
  (x:InCallC s (callEnvC fd s.heap.objs.size a).locals (bindL (callEnvC fd s.heap.objs.size a).kindOf (xs.zip vs) fun _=>none) (callEnvC fd s.heap.objs.size a).cells (bindC (callEnvC fd s.heap.objs.size a).kindOf (xs.zip vs) fun _=>none) s₁) :
  ∃ K,FS C sc (callEnvC fd s.heap.objs.size a) s F F K l s₁:=by
 have keep:=x.toInCall.keep
 obtain ⟨h₁,tk,he⟩:=x.toInCall.same
 have X:Ext s s₁:=.of_keep keep
 have I₁:Inv C s₁:=I.of_keep keep (by rw [he]; exact I.gens) (by rw [he]) (by rw [he])
 have hkd:∀ y,(callEnvC fd s.heap.objs.size a).kindOf y=sc.names.lookup y:=fun y=>by show fd.scope.names.lookup y=_; rw [D.scope]
 have hL:s.heap.get? (callEnvC fd s.heap.objs.size a).locals=Option.none:=zB5 _
 have hcs:∀ y c,(callEnvC fd s.heap.objs.size a).cells.lookup y=some c→s.heap.get? c=Option.none:=fun y c h=>by
  cases e:s.heap.get? c with
  | none=>rfl
  | some o =>
   have h1:=x.above y c (zD0 h)
   have h2:=lt_size e
   have h3:(callEnvC fd s.heap.objs.size a).locals=s.heap.objs.size:=rfl
   rw [h3] at h1
   exact absurd h2 (Nat.not_lt.mpr (Nat.le_of_lt h1))
 let K:Fz:=fun b=>if isTab b=true then Option.none else s.heap.get? b
 have hK:∀ b,s.heap.get? b=Option.none→K b=Option.none:=fun b e=>by
  show (if isTab b=true then Option.none else s.heap.get? b)=_
  split
  ·rfl
  ·exact e
 have Kup:∀ b o,K b=some o→s.heap.get? b=some o:=fun b o e=>by
  have e:(if isTab b=true then Option.none else s.heap.get? b)=some o:=e
  split at e
  ·cases e
  ·exact e
 have S:FS C sc (callEnvC fd s.heap.objs.size a) s F F K l s₁:=by
  refine ⟨⟨D.scope,D.scope ▸ D.kind,D.glob,D.bt,fun y h=>?_⟩,I,I₁,X,fun b o e t=>?_,fun b o e=>?_,fun b o e=>keep b o (Kup b o e),fun b t=>?_,.refl F,fun b o e _=>e,⟨⟨_,x.toInCall.ns⟩,hK _ hL⟩,fun y c h=>⟨⟨_,x.cell y c h⟩,hK _ (hcs y c h)⟩,fun y z c hy hz=>?_,fun _=>0,?_⟩
  ·rw [hkd] at h
   have:((cellsFrom (s.heap.objs.size + 1) sc.names []).lookup y).isSome=true:=zH7 (.inl (zD0 h))
   obtain ⟨c,hc⟩:=isSome_iff_exists.mp this
   exact ⟨c,by show (cellsFrom (s.heap.objs.size + 1) fd.scope.names []).lookup y=_; rw [D.scope]; exact hc⟩
  ·show (if isTab b=true then Option.none else s.heap.get? b)=_
   rw [t]; exact e
  ·show (if isTab b=true then Option.none else s.heap.get? b)=_
   cases q:isTab b with
   | true=>rw [hT b q] at e; cases e
   | false=>exact hs b o e
  ·show (if isTab b=true then Option.none else s.heap.get? b)=_
   rw [if_pos t]
  ·exact name_of_addr x.apart (zD0 hy) (zD0 hz)
  ·have hb:=binds_ok (w:=C.w) (F:=F) (kd:=(callEnvC fd s.heap.objs.size a).kindOf) (m:=fun _=>none) (cm:=fun _=>none) (fun y hy=>by rw [hkd]; exact hx y hy) r hl (fun y q h=>by cases h)
   refine ⟨fun y q h=>?_,fun y q h ow=>?_,fun y z p q h h' ow=>?_⟩
   ·obtain ⟨v,p,hv,rfl,rv⟩:=hb y q h
    refine ⟨v,?_,rv,fun o=>by cases o⟩
    rcases hv with ⟨q1,q2⟩ | ⟨q1,q2⟩
    ·exact .loc _ q1 x.toInCall.ns q2
    ·have q1':=q1
     rw [hkd] at q1
     have:((cellsFrom (s.heap.objs.size + 1) sc.names []).lookup y).isSome=true:=zH7 (.inl (zD0 q1))
     obtain ⟨c,hc⟩:=isSome_iff_exists.mp this
     have hc':(callEnvC fd s.heap.objs.size a).cells.lookup y=some c:=by show (cellsFrom (s.heap.objs.size + 1) fd.scope.names []).lookup y=_; rw [D.scope]; exact hc
     obtain ⟨o',ho',hd'⟩:=x.cell y c hc'
     exact .cell c o' q1' hc' ho' (by rw [hd',q2])
   ·obtain ⟨v,p,hv,rfl,rv⟩:=hb y q h
    cases ow
   ·obtain ⟨v,p',hv,rfl,rv⟩:=hb y p h
    cases ow
 exact ⟨K,S⟩
theorem fn_enter {k:Nat} {a:Addr} {fd:FuncData} {sc:Scope} {body:List Stmt} (D:FnData a fd sc body) {xs:List PStr} (hx:∀ x∈xs,sc.names.lookup x=some .local ∨ sc.names.lookup x=some .cell)
  {C:Cx} {A:Around} {F:Fz} {s:Shared} {ps:List PV} {vs us:List Value} (R:Room (k + 1) A) (I:Inv C s) (hs:F.sub s.heap) (hT:F.offTab) (hbind:bindArgs fd ⟨us,[]⟩=pure (xs.zip vs)) (r:RepL C.w F ps vs) {l:Lc} (hl:bindP xs ps []=some l) {Q:Value→Shared→Prop}
  (h:∀ env s₁ K,Room k (A.deeper env)→FS C sc env s F F K l s₁→WP C (A.deeper env) (execs body env) (fun f s'=>Q (match f with | .ret v=>v | _=>.none) s') s₁) :
  WP C A (call (.ref a) us) Q s:=by
 obtain ⟨o,ho,hd⟩:=D.at_ C.w.params
 obtain ⟨c,oc,cvs,t,hc,hoc,hdc,hv⟩:=D.code C.w.params
 refine wpAny_call (codeAny_call_cells R.dep (I.K a o ho) hd I.lim ⟨c,oc,cvs,t,hc,I.K c oc hoc,hdc,hv⟩ D.body hbind D.clo ?_ (fun s₁ x=>?_) D.co D.gen D.kind)
 ·intro y hy
  have hy1:y.1∈xs:=by
   have:=List.of_mem_zip (a:=y.1) (b:=y.2) hy
   exact this.1
  rw [D.scope]
  rcases hx y.1 hy1 with q | q
  ·exact .inl q
  ·exact .inr ⟨q,zH7 (.inl (zD0 q))⟩
 ·have R':Room k (A.deeper (callEnvC fd s.heap.objs.size a)):=⟨R.handled,by have:=R.depth; show A.depth + 1 + _≤_; lia,by have:=R.units; show A.units + 3 + _≤_; lia⟩
  obtain ⟨K,S⟩:=fs_start D hx I hs hT r hl x
  exact wpAny_mono (h _ s₁ K R' S) (fun f s' h'=>h') fun _ _ f=>f.elim
noncomputable def flv:Flow→Value
 | .ret v=>v
 | _=>.none
noncomputable def outV:Out→Option PV
 | .ret p=>some p
 | .go _=>some .none
 | .brk _=>none
theorem After.post {C:Cx} {sc:Scope} {env:Env} {s₀ s s':Shared} {F₀ F K:Fz} {o:Out} {fl:Flow} {p:PV} (h:After C sc env s₀ F₀ F K s o fl s') (e:outV o=some p):Post C F₀ s₀ p (flv fl) s':=by
 cases o with
 | ret q=>cases e; obtain ⟨v,rfl,X,I,r⟩:=h; exact ⟨X,I,r⟩
 | go l=>cases e; obtain ⟨rfl,F',K',S,_⟩:=h; exact ⟨S.ext,S.inv,mk_none⟩
 | brk l=>cases e
theorem fn_of {k:Nat} {a:Addr} {fd:FuncData} {sc:Scope} {body:List Stmt} {xs:List PStr} {fb:Lc→Option Out} (D:FnData a fd sc body) (hx:∀ x∈xs,sc.names.lookup x=some .local ∨ sc.names.lookup x=some .cell)
  (hbind:∀ vs,vs.length=xs.length→bindArgs fd ⟨vs,[]⟩=pure (xs.zip vs)) (B:SoundB k sc body fb):FnSound k a (fun ps=>(bindP xs ps []).bind fun l=>(fb l).bind outV):=by
 intro C A F s ps p vs R I hs hT r h
 obtain ⟨l,hl,h⟩:=bind_eq_some_iff.mp h
 obtain ⟨o,ho,h⟩:=bind_eq_some_iff.mp h
 refine fn_enter D hx R I hs hT (hbind vs ?_) r hl fun env s₁ K R' S=>?_
 ·rw [r.length]; exact (bindP_length hl).symm
 ·exact (B C _ env s F F K l s₁ o R' S ho).mono fun fl s' h'=>by have:=h'.post h; cases fl <;> exact this
noncomputable def relabelS (scope sc:Scope):Scope:={ scope with names:=scope.names.map fun (n,k)=>if (k == .free && sc.kind == .function && sc.names.lookup n == some .cell) then (n,.cell) else (n,k) }
theorem relabel_eq {scope sc:Scope} {env:Env} (h:env.scope=sc):relabel scope env=relabelS scope sc:=by
 subst h; rfl
theorem zJ8 {env:Env} (f:PStr × NameKind→List (PStr × Addr)→Sem (ForInStep (List (PStr × Addr)))) (hf:∀ n k cs,f (n,k) cs=if (k == NameKind.free)=true then (do let c ← cellOf env n; pure (.yield ((n,c) :: cs))) else pure (.yield cs)) :
  ∀ (names:List (PStr × NameKind)) (acc:List (PStr × Addr)),(∀ x,(x,NameKind.free)∈names→∃ c,env.cells.lookup x=some c)→(∀ x c,acc.lookup x=some c→env.cells.lookup x=some c) →
   ∃ cl,forIn names acc f=(pure cl:Sem _)∧(∀ x c,cl.lookup x=some c→env.cells.lookup x=some c)∧(∀ x,((x,NameKind.free)∈names ∨ (acc.lookup x).isSome=true)→(cl.lookup x).isSome=true)
 | [],acc,h,ha=>⟨acc,by rw [List.forIn_nil],ha,fun x hx=>by rcases hx with hx | hx; cases hx; exact hx⟩
 | (n,k) :: r,acc,h,ha=>by
  have hr:∀ x,(x,NameKind.free)∈r→∃ c,env.cells.lookup x=some c:=fun x hx=>h x (mem_cons_of_mem _ hx)
  by_cases hk:(k == NameKind.free)=true
  ·have e:=eq_of_beq hk
   subst e
   obtain ⟨c,hc⟩:=h n (by simp)
   obtain ⟨cl,e1,e2,e3⟩:=zJ8 f hf r ((n,c) :: acc) hr (fun x c' hx=>by
    rw [lookup_cons] at hx
    cases q:x == n with
    | true=>rw [q] at hx; obtain rfl:=Option.some.inj hx; rw [eq_of_beq q]; exact hc
    | false=>rw [q] at hx; exact ha x c' hx)
   refine ⟨cl,?_,e2,fun x hx=>e3 x ?_⟩
   ·rw [forIn_cons,hf,if_pos hk]
    unfold cellOf
    rw [hc]
    exact e1
   ·by_cases q:x=n
    ·subst q; exact .inr (by simp)
    ·rcases hx with hx | hx
     ·rcases mem_cons.mp hx with hx | hx
      ·cases hx; exact absurd rfl q
      ·exact .inl hx
     ·refine .inr ?_
      rw [lookup_cons]
      have:(x == n)=false:=beq_eq_false_iff_ne.mpr q
      rw [this]; exact hx
  ·obtain ⟨cl,e1,e2,e3⟩:=zJ8 f hf r acc hr ha
   refine ⟨cl,?_,e2,fun x hx=>e3 x ?_⟩
   ·rw [forIn_cons,hf,if_neg hk]
    exact e1
   ·rcases hx with hx | hx
    ·rcases mem_cons.mp hx with hx | hx
     ·cases hx; exact absurd rfl hk
     ·exact .inl hx
    ·exact .inr hx
theorem closure_ok {scope:Scope} {env:Env} (h:∀ x,(x,NameKind.free)∈scope.names→∃ c,env.cells.lookup x=some c) :
  ∃ cl,closureFor scope env=pure cl∧(∀ x c,cl.lookup x=some c→env.cells.lookup x=some c)∧(∀ x,(x,NameKind.free)∈scope.names→(cl.lookup x).isSome=true):=by
 obtain ⟨cl,e1,e2,e3⟩:=zJ8 (env:=env) (fun p cs=>if (p.2 == NameKind.free)=true then (do let c ← cellOf env p.1; pure (.yield ((p.1,c) :: cs))) else pure (.yield cs)) (fun _ _ _=>rfl) scope.names [] h (fun _ _ h=>by exact no h)
 refine ⟨cl,?_,e2,fun x hx=>e3 x (.inl hx)⟩
 simp only [closureFor]
 exact (congrArg (fun t:Sem (List (PStr × Addr))=>t >>= fun z=>pure z) e1).trans rfl
noncomputable def Kp (W:List Addr) (s s':Shared):Prop:=∀ b o,b ∉ W→isTab b=false→s.heap.get? b=some o→s'.heap.get? b=some o
theorem Kp.live {C:Cx} {W:List Addr} {s s':Shared} (K:Kp W s s') (I:Inv C s') {b:Addr} (m:b ∉ W) (e:(s.heap.get? b).isSome=true):(s'.heap.get? b).isSome=true:=by
 obtain ⟨o,e⟩:=isSome_iff_exists.mp e
 cases t:isTab b with
 | true=>exact I.tabLive t
 | false=>exact lv (K b o m t e)
theorem Kp.obj {C:Cx} {W:List Addr} {s s':Shared} (K:Kp W s s') (I:Inv C s) {b:Addr} {o:Obj} (m:b ∉ W) (e:s.heap.get? b=some o) (h:∀ ps,o≠tableObj ps):s'.heap.get? b=some o:=K b o m (I.offTab e h) e
theorem Kp.ns {C:Cx} {W:List Addr} {s s':Shared} (K:Kp W s s') (I:Inv C s) {b:Addr} (m:b ∉ W) {f:PStr→Option Value} (n:s.heap.Ns b f):s'.heap.Ns b f:=by
 obtain ⟨o,es,ep,ho,hd,r⟩:=n
 exact ⟨o,es,ep,K.obj I m ho (zI5 hd),hd,r⟩
structure CB (C:Cx) (s₂:Shared) (F₂:Fz) (L:List Addr) (F:Fz) (s:Shared):Prop where
 inv:Inv C s
 ext:Ext s₂ s
 sub:F.sub s.heap
 off:F.offTab
 agree:∀ b,(s₂.heap.get? b).isSome=true→F b=F₂ b
 pv:∀ b∈L,F b=Option.none∧(s.heap.get? b).isSome=true
theorem CB.go {C:Cx} {s₂ s s':Shared} {F₂ F:Fz} {L W:List Addr} (B:CB C s₂ F₂ L F s) (K:Kp W s s') (I:Inv C s') (hW:∀ b∈W,s₂.heap.get? b=Option.none∧F b=Option.none) (hL:∀ b∈L,b∈W→(s'.heap.get? b).isSome=true):CB C s₂ F₂ L (F.ext s s') s':=by
 refine ⟨I,⟨fun b o e t=>K b o (fun m=>nos (hW b m).1 e) t (B.ext.keep b o e t),fun b l=>K.live I (fun m=>nol (hW b m).1 l) (B.ext.live b l)⟩,fun b o e=>?_,fun b t=>(Fz.ext_old (B.inv.tabLive t)).trans (B.off b t),fun b l=>(Fz.ext_old (B.ext.live b l)).trans (B.agree b l),fun b m=>⟨(Fz.ext_old (B.pv b m).2).trans (B.pv b m).1,?_⟩⟩
 ·by_cases l:(s.heap.get? b).isSome=true
  ·have e:=(Fz.ext_old l).symm.trans e
   exact K b o (fun m=>nos (hW b m).2 e) (tof fun t=>nos (B.off b t) e) (B.sub b o e)
  ·exact (Fz.ext_out l).symm.trans e
 ·by_cases w:b∈W
  ·exact hL b m w
  ·exact K.live I w (B.pv b m).2
inductive DAt (C:Cx) (F:Fz) (s:Shared) (D:Addr) (acc:PV):Prop
 | mk (o:Obj):s.heap.get? D=some o→ObjRep C.w F o acc→DAt C F s D acc
theorem DAt.go {C:Cx} {F:Fz} {W:List Addr} {s s':Shared} {D:Addr} {acc:PV} (h:DAt C F s D acc) (K:Kp W s s') (I:Inv C s) (m:D ∉ W) (hs:F.sub s.heap):DAt C (F.ext s s') s' D acc:=by
 obtain ⟨o,e,r⟩:=h
 exact ⟨o,K.obj I m e r.tab,r.mono (Fz.le_ext hs)⟩
theorem ext_live {F:Fz} {s s':Shared} {b:Addr} (lv:(s.heap.get? b).isSome=true):(F.ext s s') b=F b:=Fz.ext_old lv
noncomputable def CompG (k:Nat) (sc':Scope) (tgt:Expr) (g:PV→Option Lc):Prop :=
 (∀ p t x q,g p=some t→look t x=some q→sc'.names.lookup x=some .local∧x≠(".0":PySem.Str)) ∧
 (∀ p t x,g p=some t→sc'.names.lookup x=some .local→x≠(".0":PySem.Str)→∃ q,look t x=some q) ∧
 ∀ (C:Cx) (A:Around) (env:Env) (F:Fz) (s:Shared) (p:PV) (v:Value) (t:Lc) (Q:Unit→Shared→Prop),Room k A→env.scope=sc'→F.sub s.heap→(∃ m,s.heap.Ns env.locals m)→Rep C.w F p v→g p=some t →
  (∀ h' tk m,h'.Ns env.locals m→(∀ b o,b≠env.locals→s.heap.get? b=some o→h'.get? b=some o)→(∀ x q,look t x=some q→∃ u p',m x=some u∧q = .fz p'∧Rep C.w F p' u)→Q () { s with heap:=h',toks:=tk }) →
  WP C A (assign tgt env v) Q s
theorem cg_name {k:Nat} {sc':Scope} {x:PStr} {np:Pos} (hk:sc'.kind = .function) (hx:sc'.names.lookup x=some .local) (hz:x≠(".0":PySem.Str)) (hall:∀ y,sc'.names.lookup y=some .local→y≠(".0":PySem.Str)→y=x):CompG k sc' (.Name x np) (fun p=>some [(x,.fz p)]):=by
 refine ⟨fun p t y q h hq=>?_,fun p t y h hy hyz=>?_,fun C A env F s p v t Q R he hs hn r h hQ=>?_⟩ <;> obtain rfl:=Option.some.inj h
 ·exact zD3 hq (fun e _=>e ▸ ⟨hx,hz⟩) fun _ hq=>no hq
 ·exact ⟨_,by rw [hall y hy hyz,look_cons,if_pos rfl]⟩
 ·obtain ⟨m,hm⟩:=hn
  refine wpAny_assign_Name (wpAny_storeName_local (by show env.scope.names.lookup x=_; rw [he]; exact hx) hm (fun h' hn' hs'=>hQ h' _ _ hn' hs'.extBut fun y q hq=>?_) (by rw [he,hk]; rfl))
  exact zD3 hq (fun e e'=>⟨v,p,if_pos e,e',r⟩) fun _ hq=>no hq
noncomputable def pairG (x y:PStr) (p:PV):Option Lc:=p.sel (fun _=>none) (fun _=>none) (args2 fun a b=>some [(y,.fz b),(x,.fz a)]) (fun _=>none)
theorem pairG_inv {x y:PStr} {p:PV} {t:Lc} {P:Prop} (h:pairG x y p=some t) (k:∀ a b,p = .tup [a,b]→[(y,.fz b),(x,.fz a)]=t→P):P :=
 PV.sel_inv h (fun _ _ h=>no h) (fun _ _ h=>no h) (fun ps e h=>zO2 h fun a b e' h=>k a b (e' ▸ e) (Option.some.inj h)) fun _ _ h=>no h
theorem two_rep {w:World} {F:Fz} {a b:PV} {vs:Array Value} {P:Prop} (rl:RepL w F [a,b] vs.toList) (k:∀ va vb,vs = #[va,vb]→Rep w F a va→Rep w F b vb→P):P:=by
 unfold RepL at rl
 obtain ⟨va,r1,e1,ra,rl⟩:=rl
 unfold RepL at rl
 obtain ⟨vb,r2,e2,rb,rl⟩:=rl
 unfold RepL at rl
 subst rl e2
 exact k va vb (Array.toList_inj.mp e1) ra rb
theorem cg_pair {k:Nat} {sc':Scope} {x y:PStr} {px py tp:Pos} {n:Nat} (hk:sc'.kind = .function) (hx:sc'.names.lookup x=some .local) (hy:sc'.names.lookup y=some .local) (hxz:x≠(".0":PySem.Str)) (hyz:y≠(".0":PySem.Str)) (hall:∀ z,sc'.names.lookup z=some .local→z≠(".0":PySem.Str)→z=x ∨ z=y) :
  CompG k sc' (.Tuple [.Name x px,.Name y py] n tp) (pairG x y):=by
 refine ⟨fun p t z q h hq=>pairG_inv h fun a b _ e=>?_,fun p t z h hz hzz=>pairG_inv h fun a b _ e=>?_,fun C A env F s p v t Q R he hs hn r h hQ=>pairG_inv h fun a b e e'=>?_⟩
 ·subst e
  exact zD3 hq (fun e _=>e ▸ ⟨hy,hyz⟩) fun _ hq=>zD3 hq (fun e _=>e ▸ ⟨hx,hxz⟩) fun _ hq=>no hq
 ·subst e
  rw [look_cons,look_cons]
  by_cases e:z=y
  ·exact ⟨_,if_pos e⟩
  ·rw [if_neg e]
   exact ⟨_,if_pos ((hall z hz hzz).resolve_right e)⟩
 ·subst e e'
  unfold Rep at r
  obtain ⟨T,vs,m',rfl,f,rl⟩:=r
  refine two_rep rl fun va vb e ra rb=>?_
  subst e
  obtain ⟨m,hm⟩:=hn
  refine kcp_assign R.handled ⟨_,hs _ _ f,rfl,m',rfl⟩ (by show env.scope.names.lookup x=_; rw [he]; exact hx) (by show env.scope.names.lookup y=_; rw [he]; exact hy) (by rw [he,hk]; rfl) hm fun h' tk hn' hk'=>hQ h' tk _ hn' hk' fun z q hq=>?_
  exact zD3 hq (fun e e'=>⟨vb,b,if_pos e,e',rb⟩) fun ne hq=>zD3 hq (fun e e'=>⟨va,a,by rw [if_neg ne,if_pos e],e',ra⟩) fun _ hq=>no hq
noncomputable def testsT (ifs:List Expr) (env:Env):Sem Bool:=forIn ifs true fun c r=>if r=true then do let ok ← isTrue c env (eval c env); pure (ForInStep.yield ok) else pure (ForInStep.yield r)
noncomputable def CompT (k:Nat) (sc:Scope) (ifs:List Expr) (f:Lc→Option Bool):Prop :=
 ∀ (C:Cx) (A:Around) (env:Env) (F:Fz) (l:Lc) (s:Shared) (b:Bool),Room k A→XS C sc env F l s→f l=some b→WP C A (testsT ifs env) (PostT C s b) s
theorem ct_nil {k:Nat} {sc:Scope}:CompT k sc [] (fun _=>some true):=by
 intro C A env F l s b R S h
 cases h
 exact wpAny_tests_nil ⟨rfl,.refl s,S.inv⟩
theorem ct_one {k:Nat} {sc:Scope} {c:Expr} {f:Lc→Option Bool} (H:SoundT k sc c f):CompT k sc [c] f:=by
 intro C A env F l s b R S h
 exact wpAny_tests_one (H C A env F l s b R S h)
noncomputable def compT (tgt iter:Expr) (ifs:List Expr) (step:Env→Addr→Sem Unit) (ce:Expr) (it:Value) (D:Addr) (env:Env):Sem Fin:=do
 standAt iter.pos
 match ← pyNext it with
 | none=>pure (.done .next)
 | some v =>
  letOwnedTupleGo tgt it v
  assign tgt env v
  let ok ← testsT ifs env
  if ok then step env D
  again (.compLoop ce 0 it (.ref D) env)
structure CompKind (ce:Expr) (scope:Scope) (newAcc:Sem Value) (tgt iter:Expr) (ifs:List Expr) (step:Env→Addr→Sem Unit) (p0:PV):Prop where
 cl:clausesOf ce=[⟨tgt,iter,ifs,0⟩]
 new:∀ (C:Cx) (A:Around) (s:Shared) (Q:Value→Shared→Prop),(∀ o:Obj,(∀ F,ObjRep C.w F o p0)→o.isFreed=false→Q (.ref s.heap.objs.size) { s with heap:=s.heap.push o })→WP C A newAcc Q s
 start:∀ (C:Cx) (A:Around) (R:Result→Shared→Prop) (s:Shared) (I D:Addr) (env:Env),codeAny (model PG C.w) A (.compLoop ce 0 (.ref I) (.ref D) env) R s →
  WP C A (pyIter (.ref I)) (fun it' s'=>codeAny (model PG C.w) A (.compLoop ce 0 it' (.ref D) env) R s') s→codeAny (model PG C.w) A (.compStart ce 0 (.ref I) (.ref D) env) R s
 turn:∀ (w:World) (A:Around) (it:Value) (D:Addr) (env:Env) (Q:Fin→Shared→Prop) (E:Value→Shared→Prop) (s:Shared),wpAny (model PG w) A ((compT tgt iter ifs step ce it D env).onRaise (fun x=>do noteFrame x env; theTreesLotGoes x)) Q E s →
  wpAny (model PG w) (A.under (.compLoop ce 0 it (.ref D) env)) ((model PG w).den (.compLoop ce 0 it (.ref D) env)) Q E s
theorem comp_turns {ce:Expr} {scope:Scope} {newAcc:Sem Value} {tgt iter:Expr} {ifs:List Expr} {step:Env→Addr→Sem Unit} {p0:PV} (CK:CompKind ce scope newAcc tgt iter ifs step p0) {C:Cx} {A:Around} {R:Result→Shared→Prop} (J:Nat→Shared→Prop) {it:Value} {D:Addr} {env:Env}
  (turn:∀ n s,J n s→∀ (Qr:Option Value→Shared→Prop) (Qk:Shared→Prop),(∀ s,R (.ok .next) s→Qr none s) →
   (∀ v s,WP C A (letOwnedTupleGo tgt it v) (fun _=>WP C A (assign tgt env v) fun _=>WP C A (testsT ifs env) fun ok s=>if ok=true then WP C A (step env D) (fun _=>Qk) s else Qk s) s→Qr (some v) s) →
   (∀ m s,m < n→J m s→Qk s)→WP C A (pyNext it) Qr s) (n:Nat) {s:Shared} (h:J n s):codeAny (model PG C.w) A (.compLoop ce 0 it (.ref D) env) R s:=by
 refine codeAny_loop rfl J (fun n s hI=>?_) n h
 refine CK.turn _ _ _ _ _ _ _ _ (wpAny_noted ?_)
 refine wpAny_bind (wpAny_standAt (wpAny_bind (wpAny_mono (turn n s hI _ (fun s=>∃ m,m < n∧J m s) ?_ ?_ fun m _ a b=>⟨m,a,b⟩) (fun _ _ h=>h) fun _ _ f=>f.elim)))
 ·exact fun _ h=>wpAny_pure h
 intro v s h₁
 refine wpAny_bind (wpAny_mono h₁ (fun _ s₂ h₂=>wpAny_bind (wpAny_mono h₂ (fun _ s₃ h₃=>wpAny_bind (wpAny_mono h₃ (fun ok s₄ h₄=>?_) fun _ _ f=>f.elim)) fun _ _ f=>f.elim)) fun _ _ f=>f.elim)
 cases ok with
 | false=>exact wpAny_pure ⟨rfl,h₄⟩
 | true=>exact wpAny_bind (wpAny_mono h₄ (fun _ s₅ h₅=>wpAny_pure ⟨rfl,h₅⟩) fun _ _ f=>f.elim)
noncomputable def stepL (elt:Expr) (env:Env) (D:Addr):Sem Unit:=do let _ ← call (.builtin "list.append") [.ref D,← eval elt env]
noncomputable def stepD (kx vx:Expr) (env:Env) (D:Addr):Sem Unit:=do
 let kv ← eval kx env
 let vv ← holding [kv] (eval vx env)
 standAt { kx.pos with endLine:=vx.pos.endLine,endCol:=vx.pos.endCol }
 holding [kv,vv] (dictSet D kv vv)
theorem ck_list {elt tgt iter:Expr} {ifs:List Expr} {scope:Scope} {pos:Pos}:CompKind (.ListComp elt [⟨tgt,iter,ifs,0⟩] scope pos) scope (newList []) tgt iter ifs (stepL elt) (.list []) where
 cl:=rfl
 new:=fun C A s Q h=>wpAny_newList (h _ (fun F=>⟨#[],_,rfl,RepL.nil⟩) rfl)
 start:=fun C A R s I D env h0 h=>codeAny_compStart_list h0 (wpAny_mono h (fun _ _ h=>h) fun _ _ f=>f.elim)
 turn:=fun w A it D env Q E s h=>h
theorem ck_dict {kx vx tgt iter:Expr} {ifs:List Expr} {scope:Scope} {pos:Pos}:CompKind (.DictComp kx vx [⟨tgt,iter,ifs,0⟩] scope pos) scope newDict tgt iter ifs (stepD kx vx) (.dict [] []) where
 cl:=rfl
 new:=fun C A s Q h=>by
  unfold newDict
  exact wpAny_newObj_type (h _ (fun F=>⟨#[],_,rfl,trivial,RepL.nil⟩) rfl)
 start:=fun C A R s I D env h0 h=>codeAny_compStart_dict h0 (wpAny_mono h (fun _ _ h=>h) fun _ _ f=>f.elim)
 turn:=fun w A it D env Q E s h=>h
inductive StepPost (C:Cx) (F:Fz) (s:Shared) (D:Addr) (acc':PV) (s':Shared):Prop
 | mk (s₁:Shared) (h':Heap) (tk:Nat) (o':Obj):Ext s s₁→Inv C s₁→s'={ s₁ with heap:=h',toks:=tk }→SameBut D s₁.heap h'→h'.get? D=some o'→ObjRep C.w (F.ext s s₁) o' acc'→StepPost C F s D acc' s'
noncomputable def StepOK (k:Nat) (sc':Scope) (step:Env→Addr→Sem Unit) (fs:Lc→PV→Option PV):Prop :=
 ∀ (C:Cx) (A:Around) (env:Env) (F:Fz) (l:Lc) (s:Shared) (D:Addr) (o:Obj) (acc acc':PV),Room k A→XS C sc' env F l s→s.heap.get? D=some o→ObjRep C.w F o acc→F D=Option.none→fs l acc=some acc' →
  WP C A (step env D) (fun _ s'=>StepPost C F s D acc' s') s
noncomputable def cApp (fe:Lc→Option PV):Lc→PV→Option PV:=fun l acc=>acc.toLst.bind fun xs=>(fe l).bind fun q=>if xs.length < sizeLine then some (.list (xs ++ [q])) else none
theorem so_list {k:Nat} {sc':Scope} {elt:Expr} {fe:Lc→Option PV} (H:SoundE k sc' elt fe):StepOK k sc' (stepL elt) (cApp fe):=by
 intro C A env F l s D o acc acc' R S ho r hD h
 refine zB1 h fun xs e h=>zB1 h fun q hq h2=>?_
 ·obtain rfl:=PV.toLst_inv e
  obtain ⟨hz,rfl⟩:=zG0 h2
  obtain ⟨vs,n,rfl,rl⟩:=r
  unfold stepL
  refine wpAny_bind ((H C A env F l s q R S hq).mono fun v s₁ P=>?_)
  refine wpAny_bind (wpAny_list_append_plain ⟨n,P.1.kept S.inv ho (zJ2 rfl)⟩ (fun h' hpl hs'=>wpAny_pure ?_) ((rl.length.symm.trans length_toList) ▸ Nat.le_of_lt hz))
  obtain ⟨n₂,hn₂⟩:=hpl
  refine ⟨s₁,h',s₁.toks,_,P.1,P.2,rfl,hs',hn₂,_,n₂,rfl,?_⟩
  rw [Array.toList_push]
  exact (RepL.mono (Fz.le_ext S.sub) rl).append (RepL.cons P.3 RepL.nil)
noncomputable def cPut (fk fv:Lc→Option PV):Lc→PV→Option PV:=fun l acc=>(fk l).bind fun i=>(fv l).bind fun q=>acc.sel2 (fun ks xs=>i.toStr.bind fun key=>if ks.Nodup∧ks.length < sizeLine then some (.dict (dsetK ks key) (dsetV ks xs key q)) else none) (fun _=>none) (fun _=>none) (fun _ _=>none)
theorem so_dict {k:Nat} {sc':Scope} {kx vx:Expr} {fk fv:Lc→Option PV} (H:SoundE k sc' kx fk) (G:SoundE k sc' vx fv):StepOK k sc' (stepD kx vx) (cPut fk fv):=by
 intro C A env F l s D o acc acc' R S ho r hD h
 refine zB1 h fun i hi h=>zB1 h fun q hq h=>PV.sel2_inv h (fun ks xs e h=>zB1 h fun key e' h2=>?_) (fun _ _ h=>no h) (fun _ _ h=>no h) fun _ _ _ h=>no h
 ·subst e
  obtain rfl:=PV.toStr_inv e'
  obtain ⟨hz,rfl⟩:=zG0 h2
  obtain ⟨es,n,rfl,hk,rl⟩:=r
  unfold stepD
  refine wpAny_bind ((H C A env F l s _ R S hi).mono fun vk s₁ P=>?_)
  have S₁:=S.step P.1 P.2
  refine wpAny_bind (wpAny_holding ((G C A env _ l s₁ q R S₁ hq).mono fun v s₂ P₂=>wpAny_bind (wpAny_standAt (wpAny_holding ?_))))
  obtain ⟨t,rfl⟩:=zB6 P.3
  have X:=P.1.trans P₂.1
  obtain ⟨hD,hl⟩:=dict_in (X.kept S.inv ho (zI5 rfl)) hk hz.1
  refine wpAny_dictSet_pairs (knd:=PySem.strKind PG C.w) (k:=key) str_key hD (fun h' hD' hs'=>?_) (Nat.le_of_lt (zip_len hl hz.2))
  obtain ⟨es',n',ho',hk',hv'⟩:=dict_out hl hD'
  exact ⟨s₂,h',s₂.toks + 1,_,X,P₂.2,rfl,hs',ho',es',n',rfl,hk',hv' ▸ (RepL.mono (Fz.le_ext (s':=s₂) S.sub) rl).put hl (Rep.mono (Fz.ext_ext S.inv P.1 P₂.1) P₂.3)⟩
noncomputable def noZ (l:Lc):Lc:=l.filter fun p=>!(p.1 == (".0":PySem.Str))
theorem look_noZ (l:Lc) (x:PStr):look (noZ l) x=if x=(".0":PySem.Str) then none else look l x:=by
 unfold look noZ
 induction l with
 | nil=>simp
 | cons p l ih =>
  rw [List.filter_cons]
  cases hp:p.1 == (".0":PySem.Str) with
  | true =>
   simp only [Bool.not_true,false_eq_true,if_false]
   rw [ih,lookup_cons]
   by_cases e:x=(".0":PySem.Str)
   ·rw [if_pos e,if_pos e]
   ·rw [if_neg e,if_neg e]
    have:(x == p.1)=false:=beq_eq_false_iff_ne.mpr fun q=>e (q.trans (eq_of_beq hp))
    rw [this]
  | false =>
   simp only [Bool.not_false,if_true]
   rw [lookup_cons,lookup_cons]
   cases hx:x == p.1 with
   | true =>
    have:x≠(".0":PySem.Str):=fun q=>by rw [← eq_of_beq hx,q] at hp; simp at hp
    rw [if_neg this]
   | false=>exact ih
noncomputable def compO (g:PV→Option Lc) (ft:Lc→Option Bool) (fs:Lc→PV→Option PV) (l:Lc):List PV→PV→Option PV
 | [],acc=>some acc
 | p :: ps,acc=>(g p).bind fun t=>(ft (t ++ noZ l)).bind fun b=>if b=true then (fs (t ++ noZ l) acc).bind fun acc'=>compO g ft fs l ps acc' else compO g ft fs l ps acc
structure CompEnd (C:Cx) (F:Fz) (s:Shared) (acc:PV) (D CA:Addr) (o:Obj) (F':Fz) (s':Shared):Prop where
 ext:Ext s s'
 inv:Inv C s'
 d0:s.heap.get? D=Option.none
 c0:s.heap.get? CA=Option.none
 ne:D≠CA
 d:s'.heap.get? D=some o
 r:ObjRep C.w F' o acc
 fd:F' D=Option.none
 fc:F' CA=Option.none
 sub:F'.sub s'.heap
 off:F'.offTab
 agree:∀ b,(s.heap.get? b).isSome=true→F' b=F b
 ns:∃ m,s'.heap.Ns CA m
theorem look_app {t l:Lc} {x:PStr}:look (t ++ l) x=(look t x).or (look l x):=by
 unfold look
 induction t with
 | nil=>rfl
 | cons p t ih =>
  rw [cons_append,lookup_cons,lookup_cons]
  cases x == p.1 with
  | true=>rfl
  | false=>exact ih
inductive CpJ (C:Cx) (s₁:Shared) (F₂:Fz) (L:List Addr) (CA D:Addr) (St:Nat→Heap→Prop) (P:Nat→PV→Prop) (N n:Nat) (s':Shared):Prop
 | mk (i:Nat) (F':Fz) (acc':PV) (m:PStr→Option Value):CB C s₁ F₂ L F' s'→s'.heap.Ns CA m→DAt C F' s' D acc'→St i s'.heap→P i acc'→i≤N→n=N + 1 - i→CpJ C s₁ F₂ L CA D St P N n s'
theorem body_xs {C:Cx} {k:Nat} {sc scope:Scope} {env cenv:Env} {cl:List (PStr × Addr)} {F₂ F':Fz} {l t:Lc} {s₁ s':Shared} {L:List Addr} {tgt:Expr} {g:PV→Option Lc} {q:PV} {m:PStr→Option Value}
  (hcl1:∀ x c,cl.lookup x=some c→env.cells.lookup x=some c) (hcl2:∀ x,(x,NameKind.free)∈scope.names→(cl.lookup x).isSome=true) (hfree:∀ x,(x,NameKind.free)∈scope.names→sc.names.lookup x=some .cell)
  (hrel:∀ x,(relabelS scope sc).names.lookup x=some .cell→(x,NameKind.free)∈scope.names) (G:CompG k (relabelS scope sc) tgt g) (S₁:XS C sc env F₂ l s₁) (ok:EnvOK (relabelS scope sc) cenv) (hcc:cenv.cells=cl)
  (B:CB C s₁ F₂ L F' s') (hg:g q=some t) (hns:s'.heap.Ns cenv.locals m) (ht:∀ x q,look t x=some q→∃ u p',m x=some u∧q = .fz p'∧Rep C.w F' p' u):XS C (relabelS scope sc) cenv F' (t ++ noZ l) s':=by
 refine ⟨ok,B.inv,B.sub,B.off,fun x qq hl hkx=>?_⟩
 have ck:=ok.kindOf x
 have hl:=look_app.symm.trans hl
 have hkx':(relabelS scope sc).names.lookup x=some .local ∨ (relabelS scope sc).names.lookup x=some .cell:=ck ▸ hkx
 rcases hkx' with hkx | hkx
 ·have hz:x≠(".0":PySem.Str):=fun hz=>by
   have h1:look t x=none:=ton fun q1 e=>(G.1 q t x q1 hg e).2 hz
   rw [h1,look_noZ,if_pos hz] at hl
   exact no hl
  obtain ⟨q1,h1⟩:=G.2.1 q t x hg hkx hz
  rw [h1] at hl
  obtain rfl:q1=qq:=Option.some.inj hl
  obtain ⟨u,p',hm,rfl,ru⟩:=ht x _ h1
  exact ⟨u,.loc m (ck.trans hkx) hns hm,ru⟩
 ·have h1:look t x=none:=ton fun q1 e=>kno hkx (G.1 q t x q1 hg e).1 nofun
  rw [h1,look_noZ] at hl
  have hl:look l x=some qq:=by
   by_cases hz:x=(".0":PySem.Str)
   ·exact no ((if_pos hz).symm.trans hl)
   ·exact (if_neg hz).symm.trans hl
  have hfx:=hrel x hkx
  have hko:env.kindOf x=some .cell:=(S₁.ok.kindOf x).trans (hfree x hfx)
  obtain ⟨v,b,r⟩:=S₁.loc x qq hl (.inr hko)
  refine ⟨v,?_,LocRep.step' S₁.inv B.ext (F':=F') (fun b o e=>(B.agree b (lv (S₁.sub b o e))).trans e) B.agree r⟩
  cases b.step S₁.inv B.ext with
  | loc m k n e=>exact kno hko k nofun
  | ghost b' e k g=>exact nos k hko
  | cell c o k lk g d =>
   obtain ⟨c',hc'⟩:=isSome_iff_exists.mp (hcl2 x hfx)
   exact .cell c o (ck.trans hkx) (by rw [hcc,hc',uniq (hcl1 x c' hc') lk]) g d
theorem comp_run {ce:Expr} {scope sc:Scope} {newAcc:Sem Value} {tgt iter:Expr} {ifs:List Expr} {step:Env→Addr→Sem Unit} {p0:PV} (CK:CompKind ce scope newAcc tgt iter ifs step p0) {k:Nat} {g:PV→Option Lc} {ft:Lc→Option Bool} {fs:Lc→PV→Option PV} {C:Cx} {A:Around} {env cenv:Env} {cl:List (PStr × Addr)} {F₂:Fz} {l:Lc} {s₁ s₃:Shared}
  (hcl1:∀ x c,cl.lookup x=some c→env.cells.lookup x=some c) (hcl2:∀ x,(x,NameKind.free)∈scope.names→(cl.lookup x).isSome=true) (hfree:∀ x,(x,NameKind.free)∈scope.names→sc.names.lookup x=some .cell)
  (hrel:∀ x,(relabelS scope sc).names.lookup x=some .cell→(x,NameKind.free)∈scope.names) (G:CompG k (relabelS scope sc) tgt g) (T:CompT k (relabelS scope sc) ifs ft) (SO:StepOK k (relabelS scope sc) step fs) (R:Room k A)
  (S₁:XS C sc env F₂ l s₁) (X₃:Ext s₁ s₃) (I₃:Inv C s₃) {ps:List PV} {I CA D:Addr} {fp wr:List Addr} {St:Nat→Heap→Prop} {Mid:Nat→Value→Heap→Prop} (W:It false C A F₂ I fp wr ps St Mid) (st:St 0 s₃.heap) (hwr:∀ b∈wr,s₁.heap.get? b=none∧(s₃.heap.get? b).isSome=true) (hfp:∀ b∈fp,b∈wr ∨ ∃ o,F₂ b=some o)
  (ok:EnvOK (relabelS scope sc) cenv) (hcc:cenv.cells=cl) (hL:cenv.locals=CA) (nD:s₁.heap.get? D=none) (nC:s₁.heap.get? CA=none) (ne:D≠CA) (far:∀ b,b∈fp ∨ b∈wr→b≠CA∧b≠D) {m:PStr→Option Value} (ns:s₃.heap.Ns CA m) (dat:DAt C F₂ s₃ D p0) {acc:PV} (hacc:compO g ft fs l ps p0=some acc)
  {Q:Result→Shared→Prop} (hQ:∀ F' s' m,CB C s₁ F₂ [CA,D] F' s'→s'.heap.Ns CA m→DAt C F' s' D acc→Q (.ok .next) s'):codeAny (model PG C.w) A (.compLoop ce 0 (.ref I) (.ref D) cenv) Q s₃:=by
 have both:∀ {P:Addr→Prop},P CA→P D→(∀ b∈wr,P b)→∀ b∈CA :: D :: wr,P b:=fun a b c=>List.forall_mem_cons.mpr ⟨a,List.forall_mem_cons.mpr ⟨b,c⟩⟩
 have mC:CA∈CA :: D :: wr:=.head _
 have mD:D∈CA :: D :: wr:=.tail _ (.head _)
 have mw:∀ b∈wr,b∈CA :: D :: wr:=fun b m=>.tail _ (.tail _ m)
 have nL:=both nC nD fun b m=>(hwr b m).1
 have fpt:∀ b∈fp,isTab b=false:=fun b m=>tof fun q=>(hfp b m).elim (fun m=>nol (hwr b m).1 (S₁.inv.tabLive q)) fun ⟨o,e⟩=>nos (S₁.off b q) e
 have stGo:∀ {j W' s s'},St j s.heap→Kp W' s s'→(∀ b∈fp,b ∉ W')→St j s'.heap:=fun st K h=>W.frame _ _ _ st fun b hb o e=>K b o (h b hb) (fpt b hb) e
 have nW:∀ {F' s'},CB C s₁ F₂ (CA :: D :: wr) F' s'→∀ W':List Addr,(∀ b∈W',b∈CA :: D :: wr)→∀ b∈W',s₁.heap.get? b=none∧F' b=none:=fun B W' h b m=>⟨nL b (h b m),(B.pv b (h b m)).1⟩
 have one:∀ {a:Addr},a∈CA :: D :: wr→∀ b∈[a],b∈CA :: D :: wr:=fun m b e=>mem_singleton.mp e ▸ m
 have kM:∀ {W':List Addr} {s s'},Mvd W' s s'→Kp W' s s':=fun M b o m _ e=>M.keep b o m e
 have iM:∀ {W':List Addr} {s s'},Inv C s→Mvd W' s s'→(∀ b∈W',b∈CA :: D :: wr)→Inv C s':=fun I M h=>M.inv I S₁.inv fun b l m=>nol (nL b (h b m)) l
 have dat_lv:(s₃.heap.get? D).isSome=true:=by obtain ⟨o,e,_⟩:=dat; exact lv e
 refine comp_turns CK (CpJ C s₁ F₂ (CA :: D :: wr) CA D St (fun i acc'=>compO g ft fs l (ps.drop i) acc'=some acc) ps.length) ?_ (ps.length + 1)
  ⟨0,F₂,p0,m,⟨I₃,X₃,Fz.sub_step S₁.sub S₁.off X₃,S₁.off,fun _ _=>rfl,fun b m=>⟨ton fun o e=>nos (nL b m) (S₁.sub b o e),both (P:=fun b=>(s₃.heap.get? b).isSome=true) (ns_lv ns) dat_lv (fun b m=>(hwr b m).2) b m⟩⟩,ns,dat,st,hacc,zero_le _,rfl⟩
 intro n s₄ hJ Qr Qk qn qs qk
 obtain ⟨i,F₄,acc₄,m₄,B₄,n₄,d₄,st₄,hO,hi,rfl⟩:=hJ
 have le₄:F₂.le F₄:=fun b o e=>(B₄.agree b (lv (S₁.sub b o e))).trans e
 have fC:CA ∉ wr:=fun m=>(far CA (.inr m)).1 rfl
 have fD:D ∉ wr:=fun m=>(far D (.inr m)).2 rfl
 by_cases hlt:i < ps.length
 ·rw [List.drop_eq_getElem_cons hlt] at hO
  obtain ⟨t,ht,hO⟩:=bind_eq_some_iff.mp hO
  obtain ⟨bt,hbt,hO⟩:=bind_eq_some_iff.mp hO
  have move:∀ {F s s'},CB C s₁ F₂ (CA :: D :: wr) F s→s.heap.Ns CA m₄→DAt C F s D acc₄→Mvd wr s s'→(∀ b∈wr,(s'.heap.get? b).isSome=true)→CB C s₁ F₂ (CA :: D :: wr) (F.ext s s') s'∧s'.heap.Ns CA m₄∧DAt C (F.ext s s') s' D acc₄:=fun B n d M h =>
   ⟨B.go (kM M) (iM B.inv M mw) (nW B wr mw) (fun b _=>h b),(kM M).ns B.inv fC n,d.go (kM M) B.inv fD B.sub⟩
  have step:∀ s₅ v,Mvd wr s₄ s₅→Rep C.w (F₄.ext s₄ s₅) ps[i] v→Mid i v s₅.heap→Qr (some v) s₅:=by
   intro s₅ v M rv md
   obtain ⟨B₅,n₅,d₅⟩:=move B₄ n₄ d₄ M (W.liveM i v _ md)
   have step:∀ s₆,Mvd wr s₅ s₆→St (i + 1) s₆.heap→WP C A (assign tgt cenv v) (fun _=>WP C A (testsT ifs cenv) fun ok s=>if ok=true then WP C A (step cenv D) (fun _=>Qk) s else Qk s) s₆:=by
    intro s₆ M st₆
    obtain ⟨B₆,n₆,d₆⟩:=move B₅ n₅ d₅ M (W.live _ _ st₆)
    have step:∀ s₇ m7,Mvd [CA] s₆ s₇→s₇.heap.Ns CA m7→(∀ x q,look t x=some q→∃ u p',m7 x=some u∧q = .fz p'∧Rep C.w ((F₄.ext s₄ s₅).ext s₅ s₆) p' u)→WP C A (testsT ifs cenv) (fun ok s=>if ok=true then WP C A (step cenv D) (fun _=>Qk) s else Qk s) s₇:=by
     intro s₇ m7 M n₇ ht7
     have B₇:=B₆.go (kM M) (iM B₆.inv M (one mC)) (nW B₆ _ (one mC)) (fun b _ e=>mem_singleton.mp e ▸ ns_lv n₇)
     have d₇:=d₆.go (kM M) B₆.inv (fun e=>ne (mem_singleton.mp e)) B₆.sub
     have st₇:=stGo st₆ (kM M) fun b hb e=>(far b (.inl hb)).1 (mem_singleton.mp e)
     have XS₇:=body_xs hcl1 hcl2 hfree hrel G S₁ ok hcc B₇ ht (hL ▸ n₇) fun x q hq=>by obtain ⟨u,p',a,b,c⟩:=ht7 x q hq; exact ⟨u,p',a,b,Rep.mono (Fz.le_ext B₆.sub) c⟩
     refine (T C A cenv _ (t ++ noZ l) s₇ bt R XS₇ hbt).mono fun ok s₈ h8=>?_
     obtain ⟨rfl,X₈,I₈⟩:=h8
     have K₈:Kp [] s₇ s₈:=fun b o _ t e=>X₈.keep b o e t
     have B₈:=B₇.go K₈ I₈ nofun nofun
     have d₈:=d₇.go K₈ B₇.inv nofun B₇.sub
     have n₈:=K₈.ns B₇.inv nofun n₇
     have st₈:=stGo st₇ K₈ fun _ _=>nofun
     cases ok with
     | false=>exact qk _ _ (turn_lt hlt) ⟨i + 1,_,acc₄,m7,B₈,n₈,d₈,st₈,hO,hlt,rfl⟩
     | true =>
      obtain ⟨acc₅,hacc₅,hO⟩:=bind_eq_some_iff.mp hO
      obtain ⟨o₄,hoD₈,r₈⟩:=d₈
      refine (SO C A cenv _ (t ++ noZ l) s₈ D o₄ acc₄ acc₅ R (XS₇.step X₈ I₈) hoD₈ r₈ (B₈.pv D mD).1 hacc₅).mono fun _ s₁₀ h10=>?_
      obtain ⟨s₉,h10,tk10,o10,X₉,I₉,rfl,sb,ho10,r10⟩:=h10
      have K₉:Kp [] s₈ s₉:=fun b o _ t e=>X₉.keep b o e t
      have B₉:=B₈.go K₉ I₉ nofun nofun
      have M10:Mvd [D] s₉ { s₉ with heap:=h10,toks:=tk10 }:=.of fun b o m e=>(sb.2 b fun q=>m (mem_singleton.mpr q)).trans e
      exact qk _ _ (turn_lt hlt) ⟨i + 1,_,acc₅,m7,B₉.go (kM M10) (iM I₉ M10 (one mD)) (nW B₉ _ (one mD)) (fun b _ e=>mem_singleton.mp e ▸ lv ho10),(kM M10).ns I₉ (fun e=>ne (mem_singleton.mp e).symm) (K₉.ns I₈ nofun n₈),⟨o10,ho10,r10.mono (Fz.le_ext B₉.sub)⟩,stGo (stGo st₈ K₉ fun _ _=>nofun) (kM M10) fun b hb e=>(far b (.inl hb)).2 (mem_singleton.mp e),hO,hlt,rfl⟩
    exact G.2.2 C A cenv _ s₆ ps[i] v t _ R ok.scope B₆.sub ⟨m₄,hL ▸ n₆⟩ (Rep.mono (Fz.le_ext B₅.sub) rv) ht fun h7 tk7 m7 n7 k7 ht7=>step _ m7 (.of fun b o m e=>k7 b o (fun q=>m (mem_singleton.mpr (q.trans hL))) e) (hL ▸ n7) ht7
   exact qs v s₅ (W.go tgt i v s₅ _ (fun e=>bno rfl e) md fun h'' st'' hk''=>step _ (.of hk'') st'')
  exact W.item i s₄ Qr F₄ hlt st₄ le₄ B₄.sub fun v h' tk p hp r m hk=>step _ v (.of hk) (uniq hp (getElem?_eq_getElem hlt) ▸ r) m
 ·obtain rfl:i=ps.length:=Nat.le_antisymm hi (Nat.le_of_not_lt hlt)
  rw [List.drop_length] at hO
  obtain rfl:=Option.some.inj hO
  have fin:∀ s₅,Mvd wr s₄ s₅→Q (.ok .next) s₅:=fun s₅ M=>by
   have B:CB C s₁ F₂ [CA,D] F₄ s₄:=⟨B₄.inv,B₄.ext,B₄.sub,B₄.off,B₄.agree,fun b m=>B₄.pv b ((List.forall_mem_cons (p:=(·∈CA :: D :: wr))).mpr ⟨mC,List.forall_mem_singleton.mpr mD⟩ b m)⟩
   exact hQ _ _ m₄ (B.go (kM M) (iM B₄.inv M mw) (nW B₄ wr mw) fun b m w=>(mem_cons.mp m).elim (fun e=>absurd e (far b (.inr w)).1) fun m=>absurd (mem_singleton.mp m) (far b (.inr w)).2) ((kM M).ns B₄.inv fC n₄) (d₄.go (kM M) B₄.inv fD B₄.sub)
  exact W.done s₄ Qr st₄ fun h' tk hk=>qn _ (fin _ (.of hk))
theorem comp_core {ce:Expr} {scope sc:Scope} {newAcc:Sem Value} {tgt iter:Expr} {ifs:List Expr} {step:Env→Addr→Sem Unit} {p0:PV} (CK:CompKind ce scope newAcc tgt iter ifs step p0) {k:Nat} {fi:Lc→Option PV} {g:PV→Option Lc} {ft:Lc→Option Bool} {fs:Lc→PV→Option PV}
  (hkind:scope.kind = .function) (hnames:∀ y∈scope.names,y.2 = .local→scope.names.lookup y.1=some .local) (hcell:∀ y∈scope.names,y.2≠.cell) (hfree:∀ x,(x,NameKind.free)∈scope.names→sc.names.lookup x=some .cell)
  (hrel:∀ x,(relabelS scope sc).names.lookup x=some .cell→(x,NameKind.free)∈scope.names)
  (hs:∀ env x,foldedSetIterable iter env x=pure x)
  (H:SoundE k sc iter fi) (G:CompG k (relabelS scope sc) tgt g) (T:CompT k (relabelS scope sc) ifs ft) (SO:StepOK k (relabelS scope sc) step fs)
  {C:Cx} {A:Around} {env:Env} {F:Fz} {l:Lc} {s:Shared} (R:Room k A) (S:XS C sc env F l s) {p:PV} (hp:fi l=some p) {ps:List PV} (hps:iterPV p=some ps) {acc:PV} (hacc:compO g ft fs l ps p0=some acc)
  {pos:Pos} {use:Option (Value→Sem Unit)} {Q:Value→Shared→Prop}
  (hQ:∀ D CA o F' s',CompEnd C F s acc D CA o F' s'→compPost (model PG C.w) A (fun _ _=>False) use Q (.ref D) CA (.ok .next) s') :
  WP C A (comprehension ce scope env pos newAcc false (eval iter env) use) Q s:=by
 have hk:env.scope.kind = .function:=by rw [S.ok.scope]; exact S.ok.kind
 obtain ⟨cl,hclos,hcl1,hcl2⟩:=closure_ok fun x hx=>S.ok.chas x ((S.ok.kindOf x).trans (hfree x hx))
 refine wpAny_comprehension_free (use:=use) CK.cl (hs env) hclos hkind hnames ((H C A env F l s p R S hp).mono fun v s₁ P=>?_)
 have S₁:=S.step P.1 P.2
 refine (iter_ok R P.2 S₁.sub P.3 hps).mono fun it s₂ hit=>?_
 obtain ⟨X₂,I₂,I,fp,wr,St,Mid,rfl,W,st,hwr,hfp⟩:=hit
 refine CK.new C A s₂ _ fun o hor hof=>?_
 refine wpAny_newFunctionEnv hcell (by intro y hy; simp at hy) (fun h₁ hns₁ hsb₁=>?_) hkind
 dsimp only at hns₁ hsb₁ ⊢
 have hsz:s₂.heap.objs.size < (s₂.heap.push o).objs.size:=by rw [size_push]; exact Nat.lt_succ_self _
 have fC:s₂.heap.get? (s₂.heap.push o).objs.size=none:=ton fun _ e=>Nat.lt_asymm hsz (lt_size e)
 have old:∀ b o',s₂.heap.get? b=some o'→h₁.get? b=some o':=fun b o' e=>hsb₁.extBut b o' (fun q=>nos fC (q ▸ e)) (get?_push_of_some _ (get?_push_of_some _ e))
 have n₂:∀ {b},s₂.heap.get? b=none→s₁.heap.get? b=none:=fun h=>ton fun _ e=>nol h (X₂.live _ (lv e))
 have st':=W.frame 0 _ _ st fun b _ o e=>old b o e
 have hDo:=hsb₁.extBut _ _ (ne_of_lt hsz) (get?_push_of_some _ (get?_push_size _ hof))
 have far:∀ b,b∈fp ∨ b∈wr→(s₂.heap.get? b).isSome=true:=fun b m=>m.elim (fun m=>(hfp b m).elim (fun m=>(hwr b m).2) fun ⟨o',e⟩=>X₂.live b (lv (S₁.sub b o' e))) fun m=>(hwr b m).2
 have run:=comp_run (D:=s₂.heap.objs.size) (CA:=(s₂.heap.push o).objs.size) CK hcl1 hcl2 hfree hrel G T SO R (cenv:=compEnvC scope cl (s₂.heap.push o).objs.size env) (s₃:={ s₂ with heap:=h₁,toks:=s₂.toks + ([]:List (PStr × Value)).length }) S₁ (X₂.trans (.of_keep old)) (I₂.of_keep old I₂.gens rfl rfl) W st' (fun b m=>⟨(hwr b m).1,by
   obtain ⟨o',e⟩:=isSome_iff_exists.mp (hwr b m).2
   exact lv (old b o' e)⟩) hfp
  ⟨relabel_eq S.ok.scope,hkind,S.ok.glob,S.ok.bt,fun x hx=>isSome_iff_exists.mp (hcl2 x (hrel x ((congrArg (fun sc:Scope=>sc.names.lookup x) (relabel_eq S.ok.scope)).symm.trans hx)))⟩ rfl rfl (n₂ (zB5 _)) (n₂ fC) (ne_of_lt hsz) (fun b m=>⟨fun e=>nol fC (e ▸ far b m),fun e=>nol (zB5 _) (e ▸ far b m)⟩) hns₁ ⟨o,hDo,hor _⟩ hacc (Q:=compPost (model PG C.w) A (fun _ _=>False) use Q (.ref s₂.heap.objs.size) (s₂.heap.push o).objs.size) fun F' s' m B n d=>by
   obtain ⟨o',e,r⟩:=d
   exact hQ _ _ o' F' _ ⟨P.1.trans B.ext,B.inv,ton fun _ e=>nol (zB5 _) (X₂.live _ (P.1.live _ (lv e))),ton fun _ e=>nol fC (X₂.live _ (P.1.live _ (lv e))),ne_of_lt hsz,e,r,(B.pv _ (.tail _ (.head _))).1,(B.pv _ (.head _)).1,B.sub,B.off,fun b l=>(B.agree b (P.1.live b l)).trans (ext_live l),⟨m,n⟩⟩
 exact CK.start C A _ _ I _ _ run (W.self 0 _ _ st' run)
theorem CompEnd.postN {C:Cx} {F:Fz} {s s':Shared} {acc:PV} {D CA:Addr} {o:Obj} {F':Fz} (I:Inv C s) (E:CompEnd C F s acc D CA o F' s') {h':Heap} (hs:SameBut CA s'.heap h'):PostN C F s acc (.ref D) { s' with heap:=h' }:=by
 have nl:∀ b,(s.heap.get? b).isSome=true→b≠CA:=fun b lv q=>nol E.c0 (q ▸ lv)
 refine ⟨⟨fun b o e t=>(hs.2 b (nl b (lv e))).trans (E.ext.keep b o e t),fun b lv=>?_⟩,E.inv.off I s'.toks fun b o lv e=>(hs.2 b (nl b lv)).trans e,D,o,F',rfl,E.d0,(hs.2 D E.ne).trans E.d,E.fd,fun b o e=>(hs.2 b (fun q=>nos E.fc (q ▸ e))).trans (E.sub b o e),E.off,E.agree,E.r⟩
 show (h'.get? b).isSome=true
 rw [hs.2 b (nl b lv)]; exact E.ext.live b lv
structure ScOK (scope sc:Scope):Prop where
 kind:scope.kind = .function
 names:∀ y∈scope.names,y.2 = .local→scope.names.lookup y.1=some .local
 cell:∀ y∈scope.names,y.2≠.cell
 free:∀ x,(x,NameKind.free)∈scope.names→sc.names.lookup x=some .cell
 rel:∀ x,(relabelS scope sc).names.lookup x=some .cell→(x,NameKind.free)∈scope.names
theorem ScOK.of {scope sc:Scope} (h:(scope.kind == .function && scope.names.all (fun y=>(y.2 != .local || scope.names.lookup y.1 == some .local) && y.2 != .cell && (y.2 != .free || sc.names.lookup y.1 == some .cell)))=true):ScOK scope sc:=by
 rw [and_eq_true,List.all_eq_true] at h
 obtain ⟨hk,h⟩:=h
 have hk:=eq_of_beq hk
 have hh:∀ y∈scope.names,(y.2 = .local→scope.names.lookup y.1=some .local)∧y.2≠.cell∧(y.2 = .free→sc.names.lookup y.1=some .cell):=fun y hy=>by
  have:=h y hy
  simp only [and_eq_true,or_eq_true,bne_iff_ne,beq_iff_eq,ne_eq] at this
  obtain ⟨⟨a,b⟩,c⟩:=this
  exact ⟨fun e=>a.resolve_left (fun n=>n e),b,fun e=>c.resolve_left (fun n=>n e)⟩
 refine ⟨hk,fun y hy=>(hh y hy).1,fun y hy=>(hh y hy).2.1,fun x hx=>(hh _ hx).2.2 rfl,fun x hx=>?_⟩
 have hm:=zD0 hx
 unfold relabelS at hm
 obtain ⟨⟨n,kd⟩,hm1,hm2⟩:=mem_map.mp hm
 dsimp only at hm2
 split at hm2
 ·rename_i hc
  cases hm2
  have:kd = .free:=by
   have:=(Bool.and_eq_true_iff.mp (Bool.and_eq_true_iff.mp hc).1).1
   exact eq_of_beq this
  subst this; exact hm1
 ·cases hm2
  exact absurd rfl (hh _ hm1).2.1
noncomputable def cComp (fi:Lc→Option PV) (g:PV→Option Lc) (ft:Lc→Option Bool) (fs:Lc→PV→Option PV) (p0:PV):Lc→Option PV:=fun l=>(fi l).bind fun p=>(iterPV p).bind fun ps=>compO g ft fs l ps p0
theorem n_comp {ce:Expr} {scope sc:Scope} {newAcc:Sem Value} {tgt iter:Expr} {ifs:List Expr} {step:Env→Addr→Sem Unit} {p0:PV} (CK:CompKind ce scope newAcc tgt iter ifs step p0) {k:Nat} {fi:Lc→Option PV} {g:PV→Option Lc} {ft:Lc→Option Bool} {fs:Lc→PV→Option PV} {pos:Pos}
  (hev:∀ env,eval ce env=comprehension ce scope env pos newAcc false (eval iter env)) (O:ScOK scope sc) (hs:∀ env x,foldedSetIterable iter env x=pure x)
  (H:SoundE k sc iter fi) (G:CompG k (relabelS scope sc) tgt g) (T:CompT k (relabelS scope sc) ifs ft) (SO:StepOK k (relabelS scope sc) step fs):SoundN k sc ce (cComp fi g ft fs p0):=by
 intro C A env F l s p R S h
 obtain ⟨q,hq,h⟩:=bind_eq_some_iff.mp h
 obtain ⟨ps,hps,h⟩:=bind_eq_some_iff.mp h
 rw [hev]
 exact comp_core CK O.kind O.names O.cell O.free O.rel hs H G T SO R S hq hps h (use:=none) fun D CA o F' s' E=>⟨_,E.ns.choose_spec,fun h' hs'=>E.postN S.inv hs'⟩
theorem n_listcomp {elt tgt iter:Expr} {ifs:List Expr} {scope sc:Scope} {pos:Pos} {k:Nat} {fi fe:Lc→Option PV} {g:PV→Option Lc} {ft:Lc→Option Bool} (O:ScOK scope sc) (hs:∀ env x,foldedSetIterable iter env x=pure x)
  (H:SoundE k sc iter fi) (G:CompG k (relabelS scope sc) tgt g) (T:CompT k (relabelS scope sc) ifs ft) (E:SoundE k (relabelS scope sc) elt fe):SoundN k sc (.ListComp elt [⟨tgt,iter,ifs,0⟩] scope pos) (cComp fi g ft (cApp fe) (.list [])) :=
 n_comp ck_list (pos:=firstIterPos [⟨tgt,iter,ifs,0⟩] pos) (fun env=>rfl) O hs H G T (so_list E)
theorem n_dictcomp {kx vx tgt iter:Expr} {ifs:List Expr} {scope sc:Scope} {pos:Pos} {k:Nat} {fi fk fv:Lc→Option PV} {g:PV→Option Lc} {ft:Lc→Option Bool} (O:ScOK scope sc) (hs:∀ env x,foldedSetIterable iter env x=pure x)
  (H:SoundE k sc iter fi) (G:CompG k (relabelS scope sc) tgt g) (T:CompT k (relabelS scope sc) ifs ft) (E:SoundE k (relabelS scope sc) kx fk) (V:SoundE k (relabelS scope sc) vx fv):SoundN k sc (.DictComp kx vx [⟨tgt,iter,ifs,0⟩] scope pos) (cComp fi g ft (cPut fk fv) (.dict [] [])) :=
 n_comp ck_dict (pos:=firstIterPos [⟨tgt,iter,ifs,0⟩] pos) (fun env=>rfl) O hs H G T (so_dict E V)
theorem st_used {ce:Expr} {scope sc:Scope} {newAcc:Sem Value} {tgt iter:Expr} {ifs:List Expr} {step:Env→Addr→Sem Unit} {p0:PV} (CK:CompKind ce scope newAcc tgt iter ifs step p0) {k:Nat} {fi:Lc→Option PV} {g:PV→Option Lc} {ft:Lc→Option Bool} {fs:Lc→PV→Option PV} {pos spos:Pos} {y:PStr} {py:Pos}
  (hev:∀ env use,evalThenUse ce env use=(do let _ ← comprehension ce scope env pos newAcc false (eval iter env) (some use))) (hsw:∀ env,env.scope=sc→swapsWith ce (some (.Name y py)) spos.line env=pure true)
  (hy:sc.names.lookup y=some .local) (O:ScOK scope sc) (hs:∀ env x,foldedSetIterable iter env x=pure x)
  (H:SoundE k sc iter fi) (G:CompG k (relabelS scope sc) tgt g) (T:CompT k (relabelS scope sc) ifs ft) (SO:StepOK k (relabelS scope sc) step fs):SoundS k sc (.Assign [.Name y py] ce spos) (cSet y (cComp fi g ft fs p0)):=by
 intro C A env s₀ F₀ F K l s out R S h
 obtain ⟨acc,ha,rfl⟩:=map_eq_some_iff.mp h
 clear h
 obtain ⟨q,hq,h⟩:=bind_eq_some_iff.mp ha
 obtain ⟨ps,hps,h⟩:=bind_eq_some_iff.mp h
 rw [exec_Assign_Name_used _ _ _ _ (hsw env S.ok.scope)]
 refine wpAny_bind (wpAny_standAt (wpAny_bind ?_))
 rw [hev]
 refine wpAny_bind (wpAny_mono (comp_core CK O.kind O.names O.cell O.free O.rel hs H G T SO R S.xs hq hps h (use:=some (assign (.Name y py) env)) (Q:=fun _ s'=>After C sc env s₀ F₀ F K s (.go ((y,.fz acc) :: l)) .next s') fun D CA o F' s' E=>?_) (fun _ s' hq=>wpAny_pure (wpAny_pure hq)) fun _ _ f=>f.elim)
 obtain ⟨mC,hmC⟩:=E.ns
 obtain ⟨oC,hoC,hnC⟩:=ns_not_tab hmC
 have KD:=S.oldK E.d0
 have KC:=S.oldK E.c0
 have nl:∀ {b c},s.heap.get? c=none→(s.heap.get? b).isSome=true→b≠c:=fun n l q=>nol n (q ▸ l)
 have kF:F'.le (K.or F'):=fun b o' e=>by
  cases q:K b with
  | none=>exact (Fz.or_none q).trans e
  | some o''=>exact (Fz.or_some q).trans (q.symm.trans (S.fk b o' ((E.agree b (lv (S.sub b o'' q))).symm.trans e)))
 have le₁:(K.or F').le ((K.or F').put CA oC):=Fz.put_le ((Fz.or_none KC).trans E.fc)
 have le₂:((K.or F').put CA oC).le (((K.or F').put CA oC).put D o):=Fz.put_le ((Fz.put_ne E.ne).trans ((Fz.or_none KD).trans E.fd))
 have le:K.le (((K.or F').put CA oC).put D o):=Fz.le_or.trans (le₁.trans le₂)
 obtain ⟨S₂,g₂⟩:=S.growK (F':=F'.put D o) (K':=((K.or F').put CA oC).put D o) E.ext E.inv (fun b lv=>(Fz.put_ne (nl E.d0 lv)).trans (E.agree b lv)) le
  (fun b o' e=>by
   by_cases q:b=D
   ·exact q ▸ Fz.put_self.trans (Fz.put_self.symm.trans (q ▸ e))
   ·exact le₂ b o' (le₁ b o' (kF b o' ((Fz.put_ne q).symm.trans e))))
  (fun b o' e=>by
   by_cases q:b=D
   ·exact q ▸ E.d.trans (Fz.put_self.symm.trans (q ▸ e))
   ·have e:=(Fz.put_ne q).symm.trans e
    by_cases q':b=CA
    ·exact q' ▸ hoC.trans (Fz.put_self.symm.trans (q' ▸ e))
    ·have e:=(Fz.put_ne q').symm.trans e
     cases qq:K b with
     | none=>exact E.sub b o' ((Fz.or_none qq).symm.trans e)
     | some o''=>exact (Fz.sub_step S.sub S.off E.ext b _ qq).trans ((Fz.or_some qq).symm.trans e))
  (fun b t=>(Fz.put_ne (a:=D) (b:=b) fun q=>bno (E.inv.offTab E.d E.r.tab) (q ▸ t)).trans ((Fz.put_ne (a:=CA) (b:=b) fun q=>bno (E.inv.offTab hoC hnC) (q ▸ t)).trans ((Fz.or_none (S.off b t)).trans (E.off b t))))
  (fun b l e=>(Fz.put_ne (nl E.d0 l)).trans ((Fz.put_ne (nl E.c0 l)).trans ((Fz.or_none e).trans ((E.agree b l).trans (ton fun o' q=>nos e (S.fk b o' q))))))
 have rD:Rep C.w (F'.put D o) acc (.ref D):=(E.r.mono (Fz.put_le E.fd)).rep Fz.put_self
 have K₂C:=(Fz.put_ne (o:=o) E.ne.symm).trans (Fz.put_self (K:=K.or F') (a:=CA) (o:=oC))
 refine wpAny_assign_Name (zI3 S₂ (.inl hy) rD fun s₃ lv' S₃=>?_)
 have hC₃:=S₃.sub CA oC K₂C
 refine ⟨mC,hmC.at fun o' e=>uniq hoC e ▸ hC₃,fun h' hs'=>?_⟩
 have nC:∀ {b},(s.heap.get? b).isSome=true→b ∉ [CA]:=fun l m=>nl E.c0 l (mem_singleton.mp m)
 obtain ⟨S₄,k4⟩:=S₃.reiter (wr:=[CA]) (fun b m=>by rw [mem_singleton.mp m]; exact ⟨lv K₂C,(Fz.put_ne E.ne.symm).trans E.fc,S.old0 E.c0⟩) (Mvd.of (tk:=s₃.toks) fun b o' m e=>(hs'.2 b fun q=>m (mem_singleton.mpr q)).trans e)
 exact ⟨rfl,_,_,S₄,⟨fun b o' e=>k4 b o' (fun m=>nos KC (mem_singleton.mp m ▸ e)) (le b o' e),fun b l=>(Fz.ext_old (lv' b (g₂.live b l))).trans (g₂.f b l),fun b l=>by
  show (h'.get? b).isSome=true
  rw [hs'.2 b (nl E.c0 l)]; exact lv' b (g₂.live b l)⟩⟩
theorem st_listcomp {elt tgt iter:Expr} {ifs:List Expr} {scope sc:Scope} {pos spos py:Pos} {y:PStr} {k:Nat} {fi fe:Lc→Option PV} {g:PV→Option Lc} {ft:Lc→Option Bool} (hsw:∀ env,env.scope=sc→swapsWith (.ListComp elt [⟨tgt,iter,ifs,0⟩] scope pos) (some (.Name y py)) spos.line env=pure true)
  (hy:sc.names.lookup y=some .local) (O:ScOK scope sc) (hs:∀ env x,foldedSetIterable iter env x=pure x)
  (H:SoundE k sc iter fi) (G:CompG k (relabelS scope sc) tgt g) (T:CompT k (relabelS scope sc) ifs ft) (E:SoundE k (relabelS scope sc) elt fe):SoundS k sc (.Assign [.Name y py] (.ListComp elt [⟨tgt,iter,ifs,0⟩] scope pos) spos) (cSet y (cComp fi g ft (cApp fe) (.list []))) :=
 st_used ck_list (pos:=firstIterPos [⟨tgt,iter,ifs,0⟩] pos) (fun env use=>rfl) hsw hy O hs H G T (so_list E)
theorem st_dictcomp {kx vx tgt iter:Expr} {ifs:List Expr} {scope sc:Scope} {pos spos py:Pos} {y:PStr} {k:Nat} {fi fk fv:Lc→Option PV} {g:PV→Option Lc} {ft:Lc→Option Bool} (hsw:∀ env,env.scope=sc→swapsWith (.DictComp kx vx [⟨tgt,iter,ifs,0⟩] scope pos) (some (.Name y py)) spos.line env=pure true)
  (hy:sc.names.lookup y=some .local) (O:ScOK scope sc) (hs:∀ env x,foldedSetIterable iter env x=pure x)
  (H:SoundE k sc iter fi) (G:CompG k (relabelS scope sc) tgt g) (T:CompT k (relabelS scope sc) ifs ft) (E:SoundE k (relabelS scope sc) kx fk) (V:SoundE k (relabelS scope sc) vx fv):SoundS k sc (.Assign [.Name y py] (.DictComp kx vx [⟨tgt,iter,ifs,0⟩] scope pos) spos) (cSet y (cComp fi g ft (cPut fk fv) (.dict [] []))) :=
 st_used ck_dict (pos:=firstIterPos [⟨tgt,iter,ifs,0⟩] pos) (fun env use=>rfl) hsw hy O hs H G T (so_dict E V)
structure PostO (C:Cx) (s:Shared) (i:Option Int) (v:Value) (s':Shared):Prop where
 ext:Ext s s'
 inv:Inv C s'
 part:IsPart v i
noncomputable def SoundO (k:Nat) (sc:Scope) (e:Option Expr) (f:Lc→Option (Option Int)):Prop :=
 ∀ (C:Cx) (A:Around) (env:Env) (F:Fz) (l:Lc) (s:Shared) (i:Option Int),Room k A→XS C sc env F l s→f l=some i→WP C A (evalPart e env) (PostO C s i) s
theorem so_none {k:Nat} {sc:Scope}:SoundO k sc none (fun _=>some none):=by
 intro C A env F l s i R S h
 cases h
 rw [evalPart_none]
 exact wpAny_pure ⟨.refl s,S.inv,.none⟩
noncomputable def asI (p:PV):Option (Option Int):=PV.casesOn p (some none) (fun _=>none) (fun i=>some (some i)) (fun _=>none) (fun _=>none) (fun _=>none) (fun _ _=>none) (fun _ _ _=>none) (fun _=>none) (fun _=>none) (fun _ _=>none)
theorem asI_inv {p:PV} {i:Option Int} {P:Prop} (h:asI p=some i) (k1:p = .none→none=i→P) (k2:∀ n,p = .int n→some n=i→P):P:=by
 cases p with
 | none=>exact k1 rfl (Option.some.inj h)
 | int n=>exact k2 n rfl (Option.some.inj h)
 | _=>exact no h
theorem so_some {k:Nat} {sc:Scope} {e:Expr} {f:Lc→Option PV} (H:SoundE k sc e f):SoundO k sc (some e) (fun l=>(f l).bind asI):=by
 intro C A env F l s i R S h
 refine zB1 h fun p hp h=>?_
 rw [evalPart_some]
 refine (H C A env F l s p R S hp).mono fun v s' P=>⟨P.1,P.2,asI_inv h (fun e e'=>?_) fun n e e'=>?_⟩ <;> subst e e'
 ·obtain rfl:=rep_none P.3; exact .none
 ·obtain ⟨t,rfl⟩:=zB9 P.3; exact .int _ _
noncomputable def pick {α:Type} (xs:List α) (lo hi st:Option Int):List α:=(sliceRange (sliceBounds lo hi st xs.length).1 (sliceBounds lo hi st xs.length).2.1 (sliceBounds lo hi st xs.length).2.2).filterMap (xs[·]?)
theorem RepL.none {w:World} {F:Fz} {xs:List PV} {vs:List Value} {i:Nat} (h:RepL w F xs vs) (e:xs[i]? = none):vs[i]? = none:=by
 have:=h.length
 rw [List.getElem?_eq_none_iff] at e ⊢
 lia
theorem RepL.picked {w:World} {F:Fz} {xs:List PV} {vs:List Value} (h:RepL w F xs vs):∀ is:List Nat,RepL w F (is.filterMap (xs[·]?)) (is.filterMap (vs[·]?))
 | []=>RepL.nil
 | i :: is=>by
  rw [List.filterMap_cons,List.filterMap_cons]
  cases e:xs[i]? with
  | none=>rw [h.none e]; exact h.picked is
  | some x =>
   obtain ⟨v,e',r⟩:=h.get e
   rw [e']
   exact RepL.cons r (h.picked is)
noncomputable def strPick (x:PStr) (lo hi:Option Int):PStr:=if (Builtin.Str.strSliceIndices lo hi 1 x.length).length=x.length then x else ⟨((Builtin.Str.strSliceIndices lo hi 1 x.length).filterMap (x.cps[·]?)).toArray⟩
noncomputable def slicePV (p:PV) (lo hi st:Option Int):Option PV:=p.sel (fun _=>none) (fun x=>if st=none∧(strPick x lo hi).length≤sizeLine then some (.str (strPick x lo hi)) else none) (fun _=>none) (fun xs=>if xs.length≤sizeLine∧st≠some 0 then some (.list (pick xs lo hi st)) else none)
theorem part_list {v:Value} {i:Option Int} (h:IsPart v i):∃ q:Option (Int × Tok),v=partValue q∧q.map (·.1)=i:=by
 cases h with
 | none=>exact ⟨none,rfl,rfl⟩
 | int i t=>exact ⟨some (i,t),rfl,rfl⟩
noncomputable def cSlice (f:Lc→Option PV) (a b c:Lc→Option (Option Int)):Lc→Option PV:=fun l=>(f l).bind fun p=>(a l).bind fun lo=>(b l).bind fun hi=>(c l).bind fun st=>slicePV p lo hi st
theorem slice_ok {C:Cx} {A:Around} {F:Fz} {s:Shared} {p q:PV} {va vl vh vs:Value} {lo hi st:Option Int} {sl:Addr} {value slice:Expr} {ops:List Value} (I:Inv C s) (hs:F.sub s.heap) (r:View C.w F s.heap p va) (h:slicePV p lo hi st=some q) (hS:s.heap.IsSliceOf sl vl vh vs)
  (p1:IsPart vl lo) (p2:IsPart vh hi) (p3:IsPart vs st) (hsl:subscripted slice false va (.ref sl)=operate ops (getItem va (.ref sl))):WP C A (subscriptTail value slice va (.ref sl)) (Post C F s q) s:=by
 refine PV.sel_inv h (fun _ _ h=>no h) (fun x e h2=>?_) (fun _ _ h=>no h) fun xs e h2=>?_ <;> subst e <;> obtain ⟨hz,rfl⟩:=zG0 h2
 ·obtain ⟨t,rfl⟩:=zB6 (show Rep C.w F (.str x) va from r)
  obtain ⟨ql,rfl,e1⟩:=part_list p1
  obtain ⟨qh,rfl,e2⟩:=part_list p2
  obtain ⟨qs,rfl,e3⟩:=part_list p3
  obtain rfl:qs=none:=Option.map_eq_none_iff.mp (e3.trans hz.1)
  refine zL7 rfl PySem.F.slot_str_getitem.lookup hsl (by simp) ?_
  obtain ⟨os,hos,hcs,hds⟩:=hS
  refine wpAny_getItem_str_slice (l:=ql) (u:=qh) (st:=none) ⟨os,hos,hcs,hds⟩ rfl ?_
  have hz2:=hz.2
  unfold sliceMade slicePicked
  unfold strPick at hz2 ⊢
  rw [e1,e2]
  by_cases hh:(Builtin.Str.strSliceIndices lo hi 1 x.length).length=x.length
  ·rw [if_pos (by simp [hh]),if_pos hh]
   exact Post.here I hs zJ6
  ·rw [if_neg hh] at hz2
   rw [if_neg (by simp [hh]),if_neg hh]
   exact ⟨hz2,Post.str (x:=⟨((Builtin.Str.strSliceIndices lo hi 1 x.length).filterMap (x.cps[·]?)).toArray⟩) I _⟩
 ·obtain ⟨a,vs',n,rfl,f,l⟩:=r
  have hl:vs'.size=xs.length:=length_toList.symm.trans l.length
  refine zL7 ⟨_,f,rfl⟩ slot_list_getitem.lookup hsl (by simp) ?_
  refine wpAny_getItem_list_slice ⟨_,f,rfl,n,rfl⟩ hS p1 p2 p3 hz.2 (zJ4 I hs ?_) (hl ▸ hz.1)
  unfold slicePick pick
  rw [List.toList_toArray,hl]
  have:=l.picked (sliceRange (sliceBounds lo hi st xs.length).1 (sliceBounds lo hi st xs.length).2.1 (sliceBounds lo hi st xs.length).2.2)
  simpa using this
theorem s_slice {k:Nat} {sc:Scope} {ev:Expr} {lo hi st:Option Expr} {pos sp:Pos} {f:Lc→Option PV} {a b c:Lc→Option (Option Int)} (H:SoundV k sc ev f) (Ha:SoundO k sc lo a) (Hb:SoundO k sc hi b) (Hc:SoundO k sc st c)
  (ops:Value→Value→List Value) (hsl:∀ o i,subscripted (.Slice lo hi st sp) false o i=operate (ops o i) (getItem o i)):SoundE k sc (.Subscript ev (.Slice lo hi st sp) pos) (cSlice f a b c):=by
 intro C A env F l s p R S h
 refine zB1 h fun q hq h=>zB1 h fun ilo hlo h=>zB1 h fun ihi hhi h=>zB1 h fun ist hst h=>?_
 refine PyProof.Rows.Subscript_ (H.use R S hq fun v s₁ X₁ S₁ r₁=>wpAny_Slice ((Ha C A env _ l s₁ ilo R S₁ hlo).mono fun vl s₂ P₂=>?_))
 have S₂:=S₁.step P₂.1 P₂.2
 refine (Hb C A env _ l s₂ ihi R S₂ hhi).mono fun vh s₃ P₃=>?_
 have S₃:=S₂.step P₃.1 P₃.2
 refine (Hc C A env _ l s₃ ist R S₃ hst).mono fun vs s₄ P₄=>?_
 have X₄:=P₂.1.trans (P₃.1.trans (P₄.1.trans (zK7 s₄ { cls:=.type "slice",data:=.fields #[vl,vh,vs] })))
 have I₄:=zK6 P₄.2 { cls:=.type "slice",data:=.fields #[vl,vh,vs] }
 exact (slice_ok I₄ (S₁.step X₄ I₄).sub (r₁.step S₁.inv X₄ S₁.sub) h (Heap.IsSliceOf.new s₄.heap vl vh vs) P₂.3 P₃.3 P₄.3 (hsl _ _)).mono fun v s₅ P=>Post.lift S.inv X₁ (Post.lift S₁.inv X₄ P)
theorem rep1 {w:World} {F:Fz} {a:PV} {vs:List Value} {P:Prop} (r:RepL w F [a] vs) (k:∀ v,vs=[v]→Rep w F a v→P):P:=by
 unfold RepL at r
 obtain ⟨v,r1,e,ra,r⟩:=r
 unfold RepL at r
 exact k v (r ▸ e) ra
theorem repS {w:World} {F:Fz} {a:PV} {as:List PV} {vs:List Value} {P:Prop} (r:RepL w F (a :: as) vs) (k:∀ v us,vs=v :: us→Rep w F a v→RepL w F as us→P):P:=by
 unfold RepL at r
 obtain ⟨v,r1,e,ra,r⟩:=r
 exact k v r1 e ra r
theorem int1 {w:World} {F:Fz} {a:Int} {vs:List Value} {P:Prop} (r:RepL w F [.int a] vs) (k:∀ t,vs=[.int a t]→P):P:=rep1 r fun v e ra=>by
 obtain ⟨t,rfl⟩:=zB9 ra; exact k t e
theorem int2 {w:World} {F:Fz} {a b:Int} {vs:List Value} {P:Prop} (r:RepL w F [.int a,.int b] vs) (k:∀ t u,vs=[.int a t,.int b u]→P):P:=repS r fun v us e ra r=>int1 r fun u e'=>by
 obtain ⟨t,rfl⟩:=zB9 ra; exact k t u (e' ▸ e)
theorem int3 {w:World} {F:Fz} {a b c:Int} {vs:List Value} {P:Prop} (r:RepL w F [.int a,.int b,.int c] vs) (k:∀ t u x,vs=[.int a t,.int b u,.int c x]→P):P:=repS r fun v us e ra r=>int2 r fun u x e'=>by
 obtain ⟨t,rfl⟩:=zB9 ra; exact k t u x (e' ▸ e)
noncomputable def ii3 {β:Type} (f:Int→Int→Int→Option β) (a b c:PV):Option β:=a.toInt.bind fun x=>ii2 (f x) b c
theorem ii3_inv {β:Type} {f:Int→Int→Int→Option β} {a b c:PV} {q:β} {P:Prop} (h:ii3 f a b c=some q) (k:∀ x y z,a = .int x→b = .int y→c = .int z→f x y z=some q→P):P :=
 zB1 h fun x e h=>ii2_inv h fun y z e1 e2 h=>k x y z (PV.toInt_inv e) e1 e2 h
noncomputable def maxPV:List PV→Option PV:=args (fun _=>none) (ii2 fun a b=>some (.int (max a b))) (ii3 fun a b c=>some (.int (max (max a b) c)))
theorem max_if {a b:Int}:(if b > a then b else a)=max a b:=by
 by_cases h:b > a
 ·rw [if_pos h]; exact (Int.max_eq_right (Int.le_of_lt h)).symm
 ·rw [if_neg h]; exact (Int.max_eq_left (Int.not_lt.mp h)).symm
theorem max_if3 {a b c:Int}:(if b > a then (if c > b then c else b) else if c > a then c else a)=max (max a b) c:=by
 rw [max_if,max_if]
 by_cases h:b > a
 ·rw [if_pos h,Int.max_eq_right (Int.le_of_lt h)]
 ·rw [if_neg h,Int.max_eq_left (Int.not_lt.mp h)]
theorem b_max {k:Nat}:BSound k (.builtin "max") maxPV:=by
 intro C A F s ps p vs R I hs hT r h
 refine args_inv h (fun _ _ h=>no h) (fun a b e h=>ii2_inv h fun x y e1 e2 h=>?_) fun a b c e h=>ii3_inv h fun x y z e1 e2 e3 h=>?_
 ·subst e e1 e2
  obtain rfl:=Option.some.inj h
  refine int2 r fun t u e=>?_
  subst e
  refine max_two_ints R.handled fun h' tk hk=>⟨.of_keep hk,I.of_keep hk I.gens rfl rfl,?_⟩
  rw [← max_if]
  split <;> exact mk_int
 ·subst e e1 e2 e3
  obtain rfl:=Option.some.inj h
  refine int3 r fun t u w e=>?_
  subst e
  refine max_three_ints R.handled fun h' tk hk=>⟨.of_keep hk,I.of_keep hk I.gens rfl rfl,?_⟩
  rw [← max_if3]
  split <;> split <;> exact mk_int
noncomputable def rangePV:List PV→Option PV:=args (fun a=>a.toInt.bind fun n=>some (.rng 0 n 1)) (ii2 fun a b=>some (.rng a b 1)) (ii3 fun a b c=>if c≠0∧c.natAbs < 1000000 then some (.rng a b c) else none)
theorem post_rng {C:Cx} {F:Fz} {s:Shared} (I:Inv C s) {lo hi st:Int} {t u z:Tok} {tk:Nat} :
  Post C F s (.rng lo hi st) (.ref s.heap.objs.size) { s with heap:=s.heap.push { cls:=.type "range",data:=.fields #[.int lo t,.int hi u,.int st z] },toks:=tk }:=by
 refine ⟨.of_keep fun _ _ e=>get?_push_of_some _ e,I.of_keep (fun _ _ e=>get?_push_of_some _ e) I.gens rfl rfl,?_⟩
 unfold Rep
 exact ⟨_,t,u,z,rfl,zE7 (zB5 _) (get?_push_size _ rfl)⟩
theorem b_range {k:Nat}:BSound k (.type "range") rangePV:=by
 intro C A F s ps p vs R I hs hT r h
 refine args_inv h (fun a e h=>zB1 h fun n e1 h=>?_) (fun a b e h=>ii2_inv h fun x y e1 e2 h=>?_) fun a b c e h=>ii3_inv h fun x y z e1 e2 e3 h=>?_
 ·subst e
  obtain rfl:=PV.toInt_inv e1
  obtain rfl:=Option.some.inj h
  exact int1 r fun t e=>e ▸ call_range_1 (post_rng I)
 ·subst e e1 e2
  obtain rfl:=Option.some.inj h
  exact int2 r fun t u e=>e ▸ call_range_2 (post_rng I)
 ·subst e e1 e2 e3
  obtain ⟨hz,rfl⟩:=zG0 h
  exact int3 r fun t u x e=>e ▸ call_range_3 hz.1 (post_rng I) (.inl (PyProof.noPylong_small (by lia)))
noncomputable def listPV:List PV→Option PV:=args1 fun p=>p.sel (fun _=>none) (fun _=>none) (fun xs=>if xs.length≤sizeLine then some (.list xs) else none) (fun xs=>if xs.length≤sizeLine then some (.list xs) else none)
theorem list_of {C:Cx} {A:Around} {F:Fz} {s:Shared} {T:String} {v:Value} {xs:List PV} (I:Inv C s) (hs:F.sub s.heap) (hT:T = "list" ∨ T = "tuple") (r:SqAt F T (RepL C.w F xs) v) (hz:xs.length≤sizeLine):WP C A (call (.type "list") [v]) (Post C F s (.list xs)) s:=by
 obtain ⟨a,items,n,rfl,f,rl⟩:=r
 refine call_list_seq a (T:=T) hT (hs _ _ f) rfl rfl (fun h' c' hk hn=>⟨.of_keep hk,I.of_keep hk I.gens rfl rfl,?_⟩) (by rw [← length_toList,rl.length]; exact hz)
 unfold Rep
 exact ⟨_,items,c',rfl,zE7 (zB5 _) hn,RepL.mono (Fz.le_ext hs) rl⟩
theorem b_list {k:Nat}:BSound k (.type "list") listPV:=by
 intro C A F s ps p vs R I hs hT r h
 refine zD6 h fun a e h=>PV.sel_inv h (fun _ _ h=>no h) (fun _ _ h=>no h) (fun xs e' h2=>?_) fun xs e' h2=>?_ <;> subst e e' <;> obtain ⟨hz,rfl⟩:=zG0 h2 <;> refine rep1 r fun v e ra=>e ▸ ?_ <;> unfold Rep at ra
 ·exact list_of I hs (.inr rfl) ra hz
 ·exact list_of I hs (.inl rfl) ra hz
structure StrMeth (name:PStr) (id:String):Prop where
 slot:Slot "str" name id
 ty:typeOf (.builtin id)=pure (.type "method_descriptor")
noncomputable def methO (φ:List PV→Option PV) (f:Lc→Option PV) (fs:Lc→Option (List PV)):Lc→Option PV:=fun l=>(f l).bind fun p=>(fs l).bind fun ps=>p.toStr.bind fun x=>φ (.str x :: ps)
theorem s_meth {k:Nat} {sc:Scope} {o:Expr} {name:PStr} {ap pos:Pos} {id:String} {e:Expr} {es:List Expr} {f:Lc→Option PV} {fs:Lc→Option (List PV)} {φ:List PV→Option PV} (M:StrMeth name id) (B:BSound k (.builtin id) φ) (H:SoundE k sc o f) (Hs:SoundEs k sc (e :: es) fs) (hst:Stars (e :: es))
  (hbase:∀ env,attributeBase o name env (eval o env)=eval o env) (hfew:∀ env,((backTo pos (starEach (e :: es) env)).all (fun x=>!x.1) && (backToKw pos (keywordEach [] env)).all (fun x=>x.1.isSome)
   && decide ((e :: es).length + ([]:List Keyword).length + (if ([]:List Keyword).isEmpty then 0 else 1) < 30))=true) (hline:(ap.endLine == pos.line)=true) :
  SoundE k sc (.Call (.Attribute o name ap) (e :: es) [] pos) (methO φ f fs):=by
 intro C A env F l s p R S h
 refine zB1 h fun q hq h=>zB1 h fun ps hps h=>zB1 h fun x e h=>?_
 obtain rfl:=PV.toStr_inv e
 refine wpAny_Call_method_lateS (hbase env) (hfew env) hline (H.use R S hq fun v s₁ X₁ S₁ r₁=>?_)
 obtain ⟨t,rfl⟩:=zB6 r₁
 refine ⟨"str",id,PySem.F.plainAttrs_str,M.slot,M.ty,typeIs_str _ _ _,(fun _ e=>nomatch e),?_⟩
 refine callWith_builtin (zC1 hst) (zI6 hst Hs R S₁ hps fun vs s₂ X₂ S₂ r₂=>?_)
 refine (B C A _ s₂ (.str x :: ps) p (.str x t :: vs) R S₂.inv S₂.sub S₂.off (RepL.cons zJ6 r₂) h).mono fun v s₃ P=>?_
 exact Post.lift S.inv X₁ (Post.lift S₁.inv X₂ P)
theorem two {w:World} {F:Fz} {a b:PV} {vs:List Value} (r:RepL w F [a,b] vs):∃ v u,vs=[v,u]∧Rep w F a v∧Rep w F b u:=by
 unfold RepL at r
 obtain ⟨v1,r1,rfl,ra,r⟩:=r
 unfold RepL at r
 obtain ⟨v2,r2,rfl,rb,r⟩:=r
 unfold RepL at r
 subst r
 exact ⟨v1,v2,rfl,ra,rb⟩
theorem one {w:World} {F:Fz} {a:PV} {vs:List Value} (r:RepL w F [a] vs):∃ v,vs=[v]∧Rep w F a v:=by
 unfold RepL at r
 obtain ⟨v1,r1,rfl,ra,r⟩:=r
 unfold RepL at r
 subst r
 exact ⟨v1,rfl,ra⟩
theorem b_ss {k:Nat} {id:String} {f:PStr→PStr→Option PV} (H:∀ (C:Cx) (A:Around) (F:Fz) (s:Shared) (x y:PStr) (p:PV) (t u:Tok),Inv C s→F.sub s.heap→f x y=some p→WP C A (call (.builtin id) [.str x t,.str y u]) (Post C F s p) s):BSound k (.builtin id) (args2 (ss2 f)):=by
 intro C A F s ps p vs R I hs hT r h
 refine zO2 h fun a b e h=>ss2_inv h fun x y e1 e2 h=>?_
 subst e e1 e2
 refine repS r fun v us e ra r=>rep1 r fun u e' rb=>?_
 subst e e'
 obtain ⟨t,rfl⟩:=zB6 ra
 obtain ⟨t',rfl⟩:=zB6 rb
 exact H C A F s x y p t t' I hs h
noncomputable def swPV:List PV→Option PV:=args2 (ss2 fun x y=>some (.bool (Txt.startswith x y)))
theorem b_startswith {k:Nat}:BSound k (.builtin "str.startswith") swPV:=b_ss fun C A F s x y p t u I hs h=>by
 obtain rfl:=Option.some.inj h
 exact SC.startswith (Post.here I hs zF9)
noncomputable def ewPV:List PV→Option PV:=args2 (ss2 fun x y=>some (.bool (Txt.endswith x y)))
theorem b_endswith {k:Nat}:BSound k (.builtin "str.endswith") ewPV:=b_ss fun C A F s x y p t u I hs h=>by
 obtain rfl:=Option.some.inj h
 exact SC.endswith (Post.here I hs zF9)
noncomputable def rfPV:List PV→Option PV:=args2 (ss2 fun x y=>some (.int (Txt.rfind x y)))
theorem b_rfind {k:Nat}:BSound k (.builtin "str.rfind") rfPV:=b_ss fun C A F s x y p t u I hs h=>by
 obtain rfl:=Option.some.inj h
 exact SC.rfind (Post.int I _)
noncomputable def rsPV:List PV→Option PV:=args2 (ss2 fun x y=>if x.length≤sizeLine then some (.str (Txt.rstripChars x y)) else none)
theorem b_rstrip {k:Nat}:BSound k (.builtin "str.rstrip") rsPV:=b_ss fun C A F s x y p t u I hs h=>by
 obtain ⟨hz,rfl⟩:=zG0 h
 exact SC.rstripChars (fun t' k=>Post.str I _) hz
noncomputable def strsOf:List PV→Option (List PStr)
 | []=>some []
 | p :: r=>p.toStr.bind fun x=>(strsOf r).map (x :: ·)
theorem strs_vals {w:World} {F:Fz} {xs:List PV} {ss:List PStr} {vs:List Value} (h:strsOf xs=some ss) (r:RepL w F xs vs):∃ l:List (PStr × Tok),l.map (·.1)=ss∧vs=strValues l:=by
 induction xs generalizing ss vs with
 | nil=>unfold RepL at r; subst r; exact ⟨[],Option.some.inj h,rfl⟩
 | cons x xs ih =>
  refine repS r fun v us e rx r2=>zB1 h fun y e' h=>mapE h fun ss' hs e2=>?_
  obtain rfl:=PV.toStr_inv e'
  obtain ⟨l,rfl,rfl⟩:=ih hs r2
  obtain ⟨t,rfl⟩:=zB6 rx
  exact ⟨(y,t) :: l,e2,e⟩
theorem strs_are {w:World} {F:Fz} {xs:List PV} {ss:List PStr} {vs:List Value} (h:strsOf xs=some ss) (r:RepL w F xs vs):StrsAre vs ss:=by
 induction xs generalizing ss vs with
 | nil=>unfold RepL at r; subst r; obtain rfl:=Option.some.inj h; exact .nil
 | cons x xs ih =>
  refine repS r fun v us e rx r2=>zB1 h fun y e' h=>mapE h fun ss' hs e2=>?_
  obtain rfl:=PV.toStr_inv e'
  subst e e2
  obtain ⟨t,rfl⟩:=zB6 rx
  exact .cons y t (ih hs r2)
theorem rep_strs {w:World} {F:Fz}:∀ {ss:List PStr} {vs:List Value},StrsAre vs ss→RepL w F (ss.map .str) vs
 | _,_,.nil=>RepL.nil
 | _,_,.cons x t h=>RepL.cons zJ6 (rep_strs h)
theorem rep_vals {w:World} {F:Fz}:∀ (l:List (PStr × Tok)),RepL w F ((l.map (·.1)).map .str) (strValues l)
 | []=>RepL.nil
 | (x,t) :: l=>RepL.cons zJ6 (rep_vals l)
noncomputable def joinPV:List PV→Option PV:=args2 fun a b=>a.toStr.bind fun x=>b.toLst.bind fun xs=>(strsOf xs).bind fun ss=>if JoinOk x ss=true then some (.str (Txt.join x ss)) else none
theorem b_join {k:Nat}:BSound k (.builtin "str.join") joinPV:=by
 intro C A F s ps p vs R I hs hT r h
 refine zO2 h fun a b e h=>zB1 h fun x e1 h=>zB1 h fun xs e2 h=>zB1 h fun ss hss h4=>?_
 obtain rfl:=e
 obtain rfl:=PV.toStr_inv e1
 obtain rfl:=PV.toLst_inv e2
 obtain ⟨hz,rfl⟩:=zG0 h4
 refine repS r fun v us e ra r=>rep1 r fun u e' rb=>?_
 subst e e'
 obtain ⟨t,rfl⟩:=zB6 ra
 unfold Rep at rb
 obtain ⟨a,vs,n,rfl,f,rl⟩:=rb
 obtain ⟨l,rfl,hv⟩:=strs_vals hss rl
 exact SC.join (l:=l) ⟨_,hs _ _ f,rfl,n,by rw [← hv]⟩ rfl hz (fun t' k=>Post.str I _)
noncomputable def splitPV:List PV→Option PV:=args2 (ss2 fun x y=>if x.length≤1000000∧y.length=1 then some (.list ((Txt.split x y).map .str)) else none)
noncomputable def leS (a b:PStr):Bool:=decide (a.cps.toList≤b.cps.toList)
noncomputable def sortS (ss:List PStr):List PStr:=ss.mergeSort leS
theorem zH6 (a b c:PStr) (h:leS a b=true) (g:leS b c=true):leS a c=true:=by
 unfold leS at *
 simp only [decide_eq_true_eq] at *
 exact List.le_trans h g
theorem zJ7 (a b:PStr):(leS a b || leS b a)=true:=by
 unfold leS
 simp only [or_eq_true,decide_eq_true_eq]
 exact List.le_total _ _
theorem zF2 {a b:PStr} (h:leS a b=true) (g:leS b a=true):a=b:=by
 unfold leS at *
 simp only [decide_eq_true_eq] at *
 have:=List.le_antisymm h g
 cases a; cases b
 simp only [Str.mk.injEq]
 exact Array.toList_inj.mp this
theorem risingS_pw:∀ (p:PStr) (l:List PStr),risingS p l=true→(p :: l).Pairwise (fun a b=>leS a b=true)
 | p,[],_=>by simp
 | p,x :: r,h=>by
  have h:(!ltCps x.cps.toList p.cps.toList && risingS x r)=true:=h
  rw [and_eq_true] at h
  have ih:=risingS_pw x r h.2
  have h1:leS p x=true:=by
   have:=h.1
   rw [ltCps_eq] at this
   unfold leS
   simpa using this
  refine List.pairwise_cons.mpr ⟨fun y hy=>?_,ih⟩
  rcases mem_cons.mp hy with rfl | hy
  ·exact h1
  ·exact zH6 _ _ _ h1 ((List.pairwise_cons.mp ih).1 y hy)
theorem sortS_unique {ss ss':List PStr} (hp:ss'.Perm ss) (h:sortedS ss'=true):ss'=sortS ss:=by
 have h1:ss'.Pairwise (fun a b=>leS a b=true):=by
  cases ss' with
  | nil=>exact .nil
  | cons x r=>exact risingS_pw x r h
 have h2:(sortS ss).Pairwise (fun a b=>leS a b=true):=List.pairwise_mergeSort zH6 zJ7 ss
 exact List.Perm.eq_of_pairwise (fun a b _ _=>zF2) h1 h2 (hp.trans (List.mergeSort_perm ss leS).symm)
theorem zE8 {h:Heap} {vs:List Value} {out:Array Value} {b:Addr} {o:Obj} (e:h.get? b=some o):(sortedAll h vs out).get? b=some o:=sortedAll_old e
theorem sorted_strs_ok {C:Cx} {A:Around} {k:Nat} {F:Fz} {s:Shared} {a:Addr} {vs:Array Value} {n:Nat} {xs:List PV} {ss:List PStr} (R:Room k A) (I:Inv C s) (hs:F.sub s.heap) (f:s.heap.get? a=some { cls:=.type "list",data:=.seq vs n }) (rl:RepL C.w F xs vs.toList) (hss:strsOf xs=some ss) (h64:ss.length < 64) :
  WP C A (call (.builtin "sorted") [.ref a]) (Post C F s (.list ((sortS ss).map .str))) s:=by
 have hS:=strs_are hss rl
 have hlen:vs.toList.length=ss.length:=by have:=hS.strs; rw [← this]; simp
 refine sorted_strs (vs:=vs.toList) ⟨_,f,rfl,n,by simp⟩ hS (by lia) fun out ss' h1 h2 h3=>?_
 have:=sortS_unique h2 h3
 subst this
 obtain ⟨e,he⟩:=sortedAll_at s.heap vs.toList out
 refine ⟨.of_keep fun b o e=>zE8 e,I.of_keep (fun b o e=>zE8 e) I.gens rfl rfl,?_⟩
 unfold Rep
 refine ⟨s.heap.objs.size + 1,out,e,rfl,zE7 ?_ he,rep_strs h1⟩
 cases q:s.heap.get? (s.heap.objs.size + 1) with
 | none=>rfl
 | some o=>exact absurd (lt_size q) (Nat.not_lt.mpr (le_succ _))
noncomputable def intsOf:List PV→Option (List Int)
 | []=>some []
 | p :: r=>p.toInt.bind fun i=>(intsOf r).map (i :: ·)
theorem ints_get {w:World} {F:Fz} {xs:List PV} {ns:List Int} {vs:List Value} (h:intsOf xs=some ns) (r:RepL w F xs vs):vs.length=ns.length∧∀ (i:Nat) (v:Value),vs[i]? = some v→∃ t,v=Value.int (ns.getD i 0) t:=by
 induction xs generalizing ns vs with
 | nil=>unfold RepL at r; subst r; obtain rfl:=Option.some.inj h; exact ⟨rfl,fun i v e=>no e⟩
 | cons x xs ih =>
  refine repS r fun v us e rx r2=>zB1 h fun a e' h=>mapE h fun ns' hs e2=>?_
  obtain rfl:=PV.toInt_inv e'
  subst e e2
  obtain ⟨h1,h2⟩:=ih hs r2
  refine ⟨congrArg (· + 1) h1,fun i u e=>?_⟩
  cases i with
  | zero=>obtain rfl:=Option.some.inj e; exact zB9 rx
  | succ i=>exact h2 i u e
theorem zG8 (val:Nat→Int):∀ k,argBest (fun i j=>decide (val i < val j)) k≤k∧∀ j,j≤k→val (argBest (fun i j=>decide (val i < val j)) k)≤val j
 | 0=>⟨le_refl _,fun j hj=>by rw [Nat.le_zero.mp hj]; exact Int.le_refl _⟩
 | k + 1=>by
  obtain ⟨h1,h2⟩:=zG8 val k
  unfold argBest
  by_cases h:val (k + 1) < val (argBest (fun i j=>decide (val i < val j)) k)
  ·rw [if_pos (by simpa using h)]
   refine ⟨le_refl _,fun j hj=>?_⟩
   by_cases e:j=k + 1
   ·subst e; exact Int.le_refl _
   ·have:=h2 j (by lia); lia
  ·rw [if_neg (by simpa using h)]
   refine ⟨by lia,fun j hj=>?_⟩
   by_cases e:j=k + 1
   ·subst e; lia
   ·exact h2 j (by lia)
noncomputable def minPV:List PV→Option PV:=args1 fun p=>p.toLst.bind fun xs=>(intsOf xs).bind fun ns=>ns.min?.map .int
theorem b_min {k:Nat}:BSound k (.builtin "min") minPV:=by
 intro C A F s ps p vs R I hs hT r h
 refine zD6 h fun q e h=>zB1 h fun xs e1 h=>zB1 h fun ns hns h=>mapE h fun m hm e2=>?_
 ·obtain rfl:=PV.toLst_inv e1
  obtain rfl:=e
  obtain rfl:=e2
  refine rep1 r fun v e ra=>?_
  subst e
  unfold Rep at ra
  obtain ⟨a,us,n,rfl,f,rl⟩:=ra
  obtain ⟨h1,h2⟩:=ints_get hns rl
  have hh:A.in1.handled=none:=R.handled
  have hl:s.heap.IsList a us:=⟨_,hs _ _ f,rfl,n,rfl⟩
  have hlt:a < s.heap.objs.size:=lt_size (hs _ _ f)
  have hpos:0 < ns.length:=by
   cases ns with
   | nil=>exact no hm
   | cons x xs=>simp
  simp only [length_toList] at h1
  refine call_min_walk (wpAny_pyIter_list hl ⟨s.heap.objs.size,_,_,us.size,_,_,_,rfl,Walks.list hh s.heap.objs.size a (ne_of_lt hlt) us,⟨⟨_,get?_push_size _ rfl,rfl,rfl⟩,hl.push _⟩,?_,by lia,CmpOf.ints_lt (fun i=>ns.getD i 0) (fun i v hv=>h2 i v (by simpa using hv)),fun v h' tk hv hk=>?_⟩)
  ·intro b hb
   simp only [mem_cons,not_mem_nil,or_false] at hb
   show b < (s.heap.push _).objs.size
   rw [size_push]
   rcases hb with rfl | rfl
   ·exact Nat.lt_succ_self _
   ·exact lt_succ_of_lt hlt
  ·have keep:∀ b o,s.heap.get? b=some o→h'.get? b=some o:=fun b o e=>hk b o (fun m=>by rw [mem_singleton.mp m] at e; exact absurd (lt_size e) (Nat.lt_irrefl _)) (get?_push_of_some _ e)
   obtain ⟨t,rfl⟩:=h2 _ v (by rw [getElem?_toList]; exact hv)
   refine ⟨.of_keep keep,I.of_keep keep I.gens rfl rfl,?_⟩
   obtain ⟨b1,b2⟩:=zG8 (fun i=>ns.getD i 0) (us.size - 1)
   have e:ns.getD (argBest (fun i j=>decide (ns.getD i 0 < ns.getD j 0)) (us.size - 1)) 0=m:=by
    have hmem:m∈ns:=List.min?_mem hm
    obtain ⟨j,hj,rfl⟩:=List.mem_iff_getElem.mp hmem
    have hle:=b2 j (by lia)
    have hlt2:argBest (fun i j=>decide (ns.getD i 0 < ns.getD j 0)) (us.size - 1) < ns.length:=by lia
    have hge:ns[j]≤ns.getD (argBest (fun i j=>decide (ns.getD i 0 < ns.getD j 0)) (us.size - 1)) 0:=by
     have h3:=(List.min?_eq_some_iff.mp hm).2 _ (List.getElem_mem hlt2)
     rw [← List.getElem_eq_getD (h:=hlt2)]
     exact h3
    have:ns.getD j 0=ns[j]:=by simp [hj]
    lia
   rw [e]; exact mk_int
noncomputable def sumPV:List PV→Option PV:=args1 fun p=>p.toLst.bind fun xs=>(intsOf xs).map fun ns=>.int ns.sum
theorem preSum_eq:∀ (ns:List Int) (k:Nat),k≤ns.length→preSum (fun i=>ns.getD i 0) k=(ns.take k).sum
 | ns,0,_=>by simp [preSum]
 | ns,k + 1,h=>by
  unfold preSum
  have hk:k < ns.length:=by lia
  rw [preSum_eq ns k (by lia),List.take_add_one,getElem?_eq_getElem hk,List.sum_append]
  simp [hk]
theorem b_sum {k:Nat}:BSound k (.builtin "sum") sumPV:=by
 intro C A F s ps p vs R I hs hT r h
 refine zD6 h fun q e h=>zB1 h fun xs e1 h=>mapE h fun ns hns e2=>?_
 ·obtain rfl:=PV.toLst_inv e1
  obtain rfl:=e
  obtain rfl:=e2
  refine rep1 r fun v e ra=>?_
  subst e
  unfold Rep at ra
  obtain ⟨a,us,n,rfl,f,rl⟩:=ra
  obtain ⟨h1,h2⟩:=ints_get hns rl
  have hh:A.in1.handled=none:=R.handled
  have hl:s.heap.IsList a us:=⟨_,hs _ _ f,rfl,n,rfl⟩
  have hlt:a < s.heap.objs.size:=lt_size (hs _ _ f)
  simp only [length_toList] at h1
  refine call_sum_walkG (wpAny_pyIter_list hl ⟨s.heap.objs.size,_,_,us.size,_,_,fun i=>ns.getD i 0,rfl,Walks.list hh s.heap.objs.size a (ne_of_lt hlt) us,⟨⟨_,get?_push_size _ rfl,rfl,rfl⟩,hl.push _⟩,?_,fun i v hv=>h2 i v (by simpa using hv),fun h' tk t' hk=>?_⟩)
  ·intro b hb
   simp only [mem_cons,not_mem_nil,or_false] at hb
   show b < (s.heap.push _).objs.size
   rw [size_push]
   rcases hb with rfl | rfl
   ·exact Nat.lt_succ_self _
   ·exact lt_succ_of_lt hlt
  ·have keep:∀ b o,s.heap.get? b=some o→h'.get? b=some o:=fun b o e=>hk b o (fun m=>by rw [mem_singleton.mp m] at e; exact absurd (lt_size e) (Nat.lt_irrefl _)) (get?_push_of_some _ e)
   refine ⟨.of_keep keep,I.of_keep keep I.gens rfl rfl,?_⟩
   rw [preSum_eq ns us.size (by lia),List.take_of_length_le (by lia)]
   exact mk_int
theorem FnSound.weak {k:Nat} {a:Addr} {φ ψ:List PV→Option PV} (H:FnSound k a φ) (h:∀ ps p,ψ ps=some p→φ ps=some p):FnSound k a ψ:=fun C A F s ps p vs R I hs hT r e=>H C A F s ps p vs R I hs hT r (h ps p e)
theorem gv_len:GV (ofString "len") (.builtin "len"):=.b ⟨fun P=>rfl,rfl,by decide,rfl⟩
theorem gv_max:GV (ofString "max") (.builtin "max"):=.b ⟨fun P=>rfl,rfl,by decide,rfl⟩
theorem gv_min:GV (ofString "min") (.builtin "min"):=.b ⟨fun P=>rfl,rfl,by decide,rfl⟩
theorem gv_sum:GV (ofString "sum") (.builtin "sum"):=.b ⟨fun P=>rfl,rfl,by decide,rfl⟩
theorem gv_range:GV (ofString "range") (.type "range"):=.b ⟨fun P=>rfl,rfl,by decide,rfl⟩
theorem gv_list:GV (ofString "list") (.type "list"):=.b ⟨fun P=>rfl,rfl,by decide,rfl⟩
theorem gv_sorted:GV (ofString "sorted") (.builtin "sorted"):=.b ⟨fun P=>rfl,rfl,by decide,rfl⟩
theorem gv_SIMODE:GV (ofString "S_IMODE") (.ref 217):=.g ⟨fun P=>rfl,rfl⟩
theorem gv_SIFMT:GV (ofString "S_IFMT") (.ref 224):=.g ⟨fun P=>rfl,rfl⟩
theorem zN5:GV (ofString "fspath") (.ref 177):=.g ⟨fun P=>rfl,rfl⟩
theorem gv_getsep:GV (ofString "_get_sep") (.ref 191):=.g ⟨fun P=>rfl,rfl⟩
theorem gv_join:GV (ofString "join") (.ref 198):=.g ⟨fun P=>rfl,rfl⟩
theorem gv_dirname:GV (ofString "dirname") (.ref 205):=.g ⟨fun P=>rfl,rfl⟩
theorem gv_commonpath:GV (ofString "commonpath") (.ref 210):=.g ⟨fun P=>rfl,rfl⟩
theorem gv_filemode:GV (ofString "filemode") (.ref 264):=.g ⟨fun P=>rfl,rfl⟩
theorem gv_lawdrawn:GV (ofString "_law_drawn") (.ref 269):=.g ⟨fun P=>rfl,rfl⟩
theorem gv_lawpaths:GV (ofString "_law_paths") (.ref 276):=.g ⟨fun P=>rfl,rfl⟩
theorem gv_lawbelow:GV (ofString "_law_below") (.ref 281):=.g ⟨fun P=>rfl,rfl⟩
theorem gv_lawkept:GV (ofString "_law_kept") (.ref 286):=.g ⟨fun P=>rfl,rfl⟩
theorem gv_lawrun:GV (ofString "_law_run") (.ref 291):=.g ⟨fun P=>rfl,rfl⟩
theorem gv_lawgathered:GV (ofString "_law_gathered") (.ref 296):=.g ⟨fun P=>rfl,rfl⟩
theorem gv_lawrow:GV (ofString "_law_row") (.ref 303):=.g ⟨fun P=>rfl,rfl⟩
theorem gv_lawtexts:GV (ofString "_law_texts") (.ref 310):=.g ⟨fun P=>rfl,rfl⟩
theorem gv_lawleft:GV (ofString "_law_left") (.ref 315):=.g ⟨fun P=>rfl,rfl⟩
theorem gv_lawleast:GV (ofString "_law_least") (.ref 320):=.g ⟨fun P=>rfl,rfl⟩
theorem gv_lawwanted:GV (ofString "_law_wanted") (.ref 325):=.g ⟨fun P=>rfl,rfl⟩
theorem loc_of {names:List (PStr × NameKind)} {y:PStr} (h:names.lookup y=some .local) (P:PStr→Bool) (ha:(names.all fun p=>p.2 != .local || P p.1)=true):P y=true:=by
 have:=List.all_eq_true.mp ha _ (zD0 h)
 simpa using this
theorem cg_name' {k:Nat} {sc':Scope} {x:PStr} {np:Pos} (hk:(sc'.kind == .function)=true) (hx:sc'.names.lookup x=some .local) (hz:(x == (".0":PySem.Str))=false) (hall:(sc'.names.all fun p=>p.2 != .local || (p.1 == (".0":PySem.Str) || p.1 == x))=true):CompG k sc' (.Name x np) (fun p=>some [(x,.fz p)]) :=
 cg_name (eq_of_beq hk) hx (beq_eq_false_iff_ne.mp hz) fun y hy hyz=>by
  have:=loc_of hy (fun p=>p == (".0":PySem.Str) || p == x) hall
  rw [or_eq_true] at this
  exact eq_of_beq (this.resolve_left fun h=>hyz (eq_of_beq h))
theorem cg_pair' {k:Nat} {sc':Scope} {x y:PStr} {px py tp:Pos} {n:Nat} (hk:(sc'.kind == .function)=true) (hx:sc'.names.lookup x=some .local) (hy:sc'.names.lookup y=some .local) (hxz:(x == (".0":PySem.Str))=false) (hyz:(y == (".0":PySem.Str))=false) (hall:(sc'.names.all fun p=>p.2 != .local || (p.1 == (".0":PySem.Str) || (p.1 == x || p.1 == y)))=true) :
  CompG k sc' (.Tuple [.Name x px,.Name y py] n tp) (pairG x y) :=
 cg_pair (eq_of_beq hk) hx hy (beq_eq_false_iff_ne.mp hxz) (beq_eq_false_iff_ne.mp hyz) fun z hz hzz=>by
  have:=loc_of hz (fun p=>p == (".0":PySem.Str) || (p == x || p == y)) hall
  rw [or_eq_true] at this
  have:=this.resolve_left fun h=>hzz (eq_of_beq h)
  rw [or_eq_true] at this
  rcases this with h | h
  ·exact .inl (eq_of_beq h)
  ·exact .inr (eq_of_beq h)
theorem names_ok {sc:Scope} {xs:List (PStr × Pos)} (h:(xs.all fun x=>sc.names.lookup x.1 == some .local || sc.names.lookup x.1 == some .cell)=true):∀ x∈xs,sc.names.lookup x.1=some .local ∨ sc.names.lookup x.1=some .cell:=fun x hx=>by
 have:=List.all_eq_true.mp h x hx
 rw [or_eq_true] at this
 rcases this with h | h
 ·exact .inl (eq_of_beq h)
 ·exact .inr (eq_of_beq h)
theorem fn_mk {a:Addr} {k:Nat} {name q:PStr} {params:Arguments} {body:List Stmt} {sc:Scope} {defaults kwd doc pm:Value} {ann:Option Addr} {cd ctup:Value} {fb:Lc→Option Out} {φ:List PV→Option PV} (xs:List PStr)
  (hat:∀ P,∃ o,(KT P).lookup a=some o∧o.data = .func ⟨name,q,params,.stmts body,sc,mainGlobals,[],defaults,kwd,doc,pm,ann,cd,ctup,builtinsNs⟩)
  (hcode:∀ P,∃ c o vs t,cd = .ref c∧(KT P).lookup c=some o∧o.data = .fields vs∧vs[1]? = some (.str q t))
  (hsc:(!sc.isCoroutine && !sc.isGenerator && sc.kind == .function)=true) (hxs:(xs.all fun x=>sc.names.lookup x == some .local || sc.names.lookup x == some .cell)=true)
  (B:SoundB k sc body fb)
  (hbind:∀ vs,vs.length=xs.length→bindArgs ⟨name,q,params,.stmts body,sc,mainGlobals,[],defaults,kwd,doc,pm,ann,cd,ctup,builtinsNs⟩ ⟨vs,[]⟩=pure (xs.zip vs))
  (hφ:∀ ps p,φ ps=some p→((bindP xs ps []).bind fun l=>(fb l).bind outV)=some p):FnSound k a φ:=by
 rw [and_eq_true,and_eq_true] at hsc
 obtain ⟨⟨h1,h2⟩,h3⟩:=hsc
 refine FnSound.weak (fn_of ⟨hat,rfl,rfl,rfl,rfl,rfl,hcode,by simpa using h1,by simpa using h2,eq_of_beq h3⟩ (fun x hx=>?_) hbind B) hφ
 have:=List.all_eq_true.mp hxs x hx
 rw [or_eq_true] at this
 rcases this with h | h
 ·exact .inl (eq_of_beq h)
 ·exact .inr (eq_of_beq h)
theorem zH2 {α:Type} {n:Nat} {vs:List α} (h:vs.length=n + 1):∃ a r,vs=a :: r∧r.length=n:=by
 cases vs with
 | nil=>cases h
 | cons a r=>exact ⟨a,r,rfl,Nat.succ.inj h⟩
theorem bind1 {α:Type} {f:List Value→α} {g:List Value→α} (h:∀ a,f [a]=g [a]) (vs:List Value) (e:vs.length=1):f vs=g vs:=by
 obtain ⟨a,r,rfl,e'⟩:=zH2 e
 rw [List.length_eq_zero_iff.mp e']; exact h a
theorem bindC {α:Type} {n:Nat} {f:List Value→α} {g:List Value→α} (h:∀ a r,r.length=n→f (a :: r)=g (a :: r)) (vs:List Value) (e:vs.length=n + 1):f vs=g vs:=by
 obtain ⟨a,r,rfl,e'⟩:=zH2 e
 exact h a r e'
theorem bind2 {α:Type} {f:List Value→α} {g:List Value→α} (h:∀ a b,f [a,b]=g [a,b]) (vs:List Value) (e:vs.length=2):f vs=g vs :=
 bindC (fun a=>bind1 (f:=fun r=>f (a :: r)) (g:=fun r=>g (a :: r)) (h a)) vs e
theorem bind3 {α:Type} {f:List Value→α} {g:List Value→α} (h:∀ a b c,f [a,b,c]=g [a,b,c]) (vs:List Value) (e:vs.length=3):f vs=g vs :=
 bindC (fun a=>bind2 (f:=fun r=>f (a :: r)) (g:=fun r=>g (a :: r)) (h a)) vs e
theorem bind4 {α:Type} {f:List Value→α} {g:List Value→α} (h:∀ a b c d,f [a,b,c,d]=g [a,b,c,d]) (vs:List Value) (e:vs.length=4):f vs=g vs :=
 bindC (fun a=>bind3 (f:=fun r=>f (a :: r)) (g:=fun r=>g (a :: r)) (h a)) vs e
theorem bind5 {α:Type} {f:List Value→α} {g:List Value→α} (h:∀ a b c d e,f [a,b,c,d,e]=g [a,b,c,d,e]) (vs:List Value) (e:vs.length=5):f vs=g vs :=
 bindC (fun a=>bind4 (f:=fun r=>f (a :: r)) (g:=fun r=>g (a :: r)) (h a)) vs e
theorem block_kind {env:Env} (h:(env.scope.kind == .function)=true):(env.blockKind == .function)=true:=by
 have h:=eq_of_beq h
 simp [Env.blockKind,h,ScopeKind.isAnnotationScope]
theorem sw_list {elt:Expr} {gens:List Comprehension} {scope sc:Scope} {pos tp:Pos} {t:PStr} {line:Nat} (b:Bool) (hk:(sc.kind == .function)=true) (h:(sc.names.lookup t == some .local && tp.line == pos.line && !(scope.names.any fun (n,k)=>n == t && (k == .local || k == .cell)))=b) :
  ∀ env,env.scope=sc→swapsWith (.ListComp elt gens scope pos) (some (.Name t tp)) line env=pure b:=fun env e=>by
 subst h
 subst e
 show pure (env.blockKind == .function && _ && _ && _)=_
 rw [block_kind hk,Bool.true_and]
 rfl
theorem sw_dict {kx vx:Expr} {gens:List Comprehension} {scope sc:Scope} {pos tp:Pos} {t:PStr} {line:Nat} (b:Bool) (hk:(sc.kind == .function)=true) (h:(sc.names.lookup t == some .local && tp.line == pos.line && !(scope.names.any fun (n,k)=>n == t && (k == .local || k == .cell)))=b) :
  ∀ env,env.scope=sc→swapsWith (.DictComp kx vx gens scope pos) (some (.Name t tp)) line env=pure b:=fun env e=>by
 subst h
 subst e
 show pure (env.blockKind == .function && _ && _ && _)=_
 rw [block_kind hk,Bool.true_and]
 rfl
theorem int_ok {sc:Scope} (h:(sc.kind == .function)=true):∀ env,env.scope=sc→interactive env=false:=fun env e=>by
 subst e
 have h:=eq_of_beq h
 simp [interactive,Env.blockKind,h]
noncomputable def notStar (e:Expr):Bool:=e.ctorIdx != 22
theorem star_ok {e:Expr} {es:List Expr} (h:notStar e=true) (env:Env):starEach (e :: es) env=(false,eval e env) :: starEach es env:=by
 cases e <;> first | rfl | cases h
theorem zD2 {es:List Expr} (h:es.all notStar=true):Stars es:=fun env=>by
 induction es with
 | nil=>rfl
 | cons e es ih =>
  rw [all_cons,and_eq_true] at h
  rw [star_ok h.1,ih h.2]; rfl
theorem ec {k:Nat} {sc:Scope} {e:Expr} {es:List Expr} {f:Lc→Option PV} {fs:Lc→Option (List PV)} (H:SoundE k sc e f) (G:SoundEs k sc es fs) (h:notStar e=true):SoundEs k sc (e :: es) (cCons f fs):=es_cons H G (star_ok h)
theorem s_neg {k:Nat} {sc:Scope} {i:Int} {n:Nat} {p pos:Pos}:SoundE k sc (.UnaryOp .USub (.Constant (.int i) n p) pos) (cK (.int (-i))):=by
 intro C A env F l s p R S h
 cases h
 exact wpAny_UnaryOp (wpAny_Constant_int (PyProof.Rows.neg_int (Post.int S.inv _)))
structure WE (k:Nat) (sc:Scope) (e:Expr) (f:Lc→Option PV):Prop where h:SoundE k sc e f
structure WV (k:Nat) (sc:Scope) (e:Expr) (f:Lc→Option PV):Prop where h:SoundV k sc e f
structure WT (k:Nat) (sc:Scope) (e:Expr) (f:Lc→Option Bool):Prop where h:SoundT k sc e f
structure WEs (k:Nat) (sc:Scope) (e:List Expr) (f:Lc→Option (List PV)):Prop where h:SoundEs k sc e f
structure WO (k:Nat) (sc:Scope) (e:Option Expr) (f:Lc→Option (Option Int)):Prop where h:SoundO k sc e f
structure WN (k:Nat) (sc:Scope) (e:Expr) (f:Lc→Option PV):Prop where h:SoundN k sc e f
structure WS (k:Nat) (sc:Scope) (e:Stmt) (f:Lc→Option Out):Prop where h:SoundS k sc e f
structure WB (k:Nat) (sc:Scope) (e:List Stmt) (f:Lc→Option Out):Prop where h:SoundB k sc e f
structure WG (k:Nat) (sc:Scope) (e:Expr) (g:PV→Option Lc):Prop where h:SoundG k sc e g
structure WC (k:Nat) (sc:Scope) (e:Expr) (g:PV→Option Lc):Prop where h:CompG k sc e g
structure WK (k:Nat) (sc:Scope) (e:List Expr) (f:Lc→Option Bool):Prop where h:CompT k sc e f
section
variable {k:Nat} {sc:Scope} {pos p₁ p₂ p₃:Pos} {n:Nat} {x:PStr} {e e₁ e₂ e₃:Expr} {es:List Expr} {f g h:Lc→Option PV} {fs:Lc→Option (List PV)} {t u:Lc→Option Bool}
theorem zB0 {i:Int}:WE k sc (.Constant (.int i) n pos) (cK (.int i)):=⟨s_int⟩
theorem zE5 {y:PStr}:WE k sc (.Constant (.str y) n pos) (cK (.str y)):=⟨s_str⟩
theorem w_neg {i:Int}:WE k sc (.UnaryOp .USub (.Constant (.int i) n p₁) pos) (cK (.int (-i))):=⟨s_neg⟩
theorem zA2 (hk:sc.names.lookup x=some .local ∨ sc.names.lookup x=some .cell) (hd:(x == ("__debug__":PySem.Str))=false):WE k sc (.Name x pos) (cV x):=⟨s_var hk hd⟩
theorem zA9 (hk:sc.names.lookup x=some .local ∨ sc.names.lookup x=some .cell) (hd:(x == ("__debug__":PySem.Str))=false):WV k sc (.Name x pos) (cW x):=⟨v_var hk hd⟩
theorem zL6 (H:WE k sc e f):WV k sc e f:=⟨v_of H.h⟩
theorem zE0 (H:WE k sc e₁ f) (G:WE k sc e₂ g):WE k sc (.BinOp e₁ .Add e₂ pos) (c2 addPV f g):=⟨s_bin o_add H.h G.h⟩
theorem w_sub (H:WE k sc e₁ f) (G:WE k sc e₂ g):WE k sc (.BinOp e₁ .Sub e₂ pos) (c2 subPV f g):=⟨s_bin o_sub H.h G.h⟩
theorem w_div (H:WE k sc e₁ f) (G:WE k sc e₂ g):WE k sc (.BinOp e₁ .FloorDiv e₂ pos) (c2 divPV f g):=⟨s_bin o_div H.h G.h⟩
theorem zO4 (H:WE k sc e₁ f) (G:WE k sc e₂ g):WE k sc (.BinOp e₁ .Mod e₂ pos) (c2 modPV f g):=⟨s_bin o_mod H.h G.h⟩
theorem w_mul (H:WE k sc e₁ f) (G:WE k sc e₂ g):WE k sc (.BinOp e₁ .Mult e₂ pos) (c2 mulPV f g):=⟨s_bin o_mul H.h G.h⟩
theorem w_pow (H:WE k sc e₁ f) (G:WE k sc e₂ g):WE k sc (.BinOp e₁ .Pow e₂ pos) (c2 powPV f g):=⟨s_bin o_pow H.h G.h⟩
theorem w_and (H:WE k sc e₁ f) (G:WE k sc e₂ g):WE k sc (.BinOp e₁ .BitAnd e₂ pos) (c2 andPV f g):=⟨s_bin o_and H.h G.h⟩
theorem w_or (H:WE k sc e₁ f) (G:WE k sc e₂ g):WE k sc (.BinOp e₁ .BitOr e₂ pos) (c2 orPV f g):=⟨s_bin o_or H.h G.h⟩
theorem w_eq (H:WE k sc e₁ f) (G:WE k sc e₂ g) (hm:behindInMarks .Eq e₂=false):WE k sc (.Compare e₁ [.Eq] [e₂] pos) (c2 eqPV f g):=⟨s_cmp o_eq H.h G.h hm⟩
theorem wt_eq (H:WE k sc e₁ f) (G:WE k sc e₂ g) (hm:behindInMarks .Eq e₂=false):WT k sc (.Compare e₁ [.Eq] [e₂] pos) (fun l=>(c2 eqPV f g l).bind asB):=⟨t_cmp o_eq H.h G.h hm⟩
theorem wt_ne (H:WE k sc e₁ f) (G:WE k sc e₂ g) (hm:behindInMarks .NotEq e₂=false):WT k sc (.Compare e₁ [.NotEq] [e₂] pos) (fun l=>(c2 nePV f g l).bind asB):=⟨t_cmp o_ne H.h G.h hm⟩
theorem wt_gt (H:WE k sc e₁ f) (G:WE k sc e₂ g) (hm:behindInMarks .Gt e₂=false):WT k sc (.Compare e₁ [.Gt] [e₂] pos) (fun l=>(c2 gtPV f g l).bind asB):=⟨t_cmp o_gt H.h G.h hm⟩
theorem zL3 (H:WE k sc e f) (he:∀ env whole,isTrue e env whole=(do let v ← whole; standAt e.pos; holding [v] (truthy v))):WT k sc e (fun l=>(f l).bind truthPV):=⟨t_val H.h he⟩
theorem wt_not (H:WT k sc e t):WT k sc (.UnaryOp .Not e pos) (fun l=>(t l).map (!·)):=⟨t_not H.h⟩
theorem wt_and (H:WT k sc e₁ t) (G:WT k sc e₂ u):WT k sc (.BoolOp .And [e₁,e₂] pos) (fun l=>(t l).bind fun c=>if c then u l else some false):=⟨t_and H.h G.h⟩
theorem wt_or (H:WT k sc e₁ t) (G:WT k sc e₂ u):WT k sc (.BoolOp .Or [e₁,e₂] pos) (fun l=>(t l).bind fun c=>if c then some true else u l):=⟨t_or H.h G.h⟩
theorem w_ife (T:WT k sc e₁ t) (G:WE k sc e₂ g) (H:WE k sc e₃ h):WE k sc (.IfExp e₁ e₂ e₃ pos) (fun l=>(t l).bind fun c=>if c then g l else h l):=⟨s_ife T.h G.h H.h⟩
theorem zB3 (H:WV k sc e₁ f) (G:WE k sc e₂ g) (hsl:∀ o i,subscripted e₂ false o i=operate [o,i] (getItem o i)):WE k sc (.Subscript e₁ e₂ pos) (c2 idxPV f g):=⟨s_idx H.h G.h hsl⟩
theorem zD5:WO k sc none (fun _=>some none):=⟨so_none⟩
theorem zF6 (H:WE k sc e f):WO k sc (some e) (fun l=>(f l).bind asI):=⟨so_some H.h⟩
theorem zH8 {lo hi st:Option Expr} {a b c:Lc→Option (Option Int)} (H:WV k sc e f) (Ha:WO k sc lo a) (Hb:WO k sc hi b) (Hc:WO k sc st c) (ops:Value→Value→List Value) (hsl:∀ o i,subscripted (.Slice lo hi st p₁) false o i=operate (ops o i) (getItem o i)) :
  WE k sc (.Subscript e (.Slice lo hi st p₁) pos) (cSlice f a b c):=⟨s_slice H.h Ha.h Hb.h Hc.h ops hsl⟩
theorem zA4:WEs k sc [] cNil:=⟨es_nil⟩
theorem zA0 (H:WE k sc e f) (G:WEs k sc es fs) (hn:notStar e=true):WEs k sc (e :: es) (cCons f fs):=⟨ec H.h G.h hn⟩
theorem zJ1 (H:WEs k sc es fs):WE k sc (.List es pos) (cList fs):=⟨s_list H.h⟩
theorem w_tup (H:WEs k sc es fs):WE k sc (.Tuple es n pos) (cTup fs):=⟨s_tup H.h⟩
theorem w_len (hx:sc.names.lookup (ofString "len")=some .globalImplicit) (hst:notStar e=true) (H:WV k sc e f):WE k sc (.Call (.Name (ofString "len") p₁) [e] [] pos) (fun l=>(f l).bind lenPV):=⟨s_view1 b_len gv_len hx (zD2 (by rw [all_cons,hst]; rfl)) H.h⟩
theorem w_max (hx:sc.names.lookup (ofString "max")=some .globalImplicit) (hst:(e :: es).all notStar=true) (H:WEs k sc (e :: es) fs):WE k sc (.Call (.Name (ofString "max") p₁) (e :: es) [] pos) (fun l=>(fs l).bind maxPV):=⟨zH5 b_max gv_max hx (zD2 hst) H.h⟩
theorem w_min (hx:sc.names.lookup (ofString "min")=some .globalImplicit) (hst:(e :: es).all notStar=true) (H:WEs k sc (e :: es) fs):WE k sc (.Call (.Name (ofString "min") p₁) (e :: es) [] pos) (fun l=>(fs l).bind minPV):=⟨zH5 b_min gv_min hx (zD2 hst) H.h⟩
theorem w_sum (hx:sc.names.lookup (ofString "sum")=some .globalImplicit) (hst:(e :: es).all notStar=true) (H:WEs k sc (e :: es) fs):WE k sc (.Call (.Name (ofString "sum") p₁) (e :: es) [] pos) (fun l=>(fs l).bind sumPV):=⟨zH5 b_sum gv_sum hx (zD2 hst) H.h⟩
theorem zD1 (hx:sc.names.lookup (ofString "range")=some .globalImplicit) (hst:(e :: es).all notStar=true) (H:WEs k sc (e :: es) fs):WE k sc (.Call (.Name (ofString "range") p₁) (e :: es) [] pos) (fun l=>(fs l).bind rangePV):=⟨s_type b_range gv_range hx (zD2 hst) H.h⟩
theorem w_list_ (hx:sc.names.lookup (ofString "list")=some .globalImplicit) (hst:(e :: es).all notStar=true) (H:WEs k sc (e :: es) fs):WE k sc (.Call (.Name (ofString "list") p₁) (e :: es) [] pos) (fun l=>(fs l).bind listPV):=⟨s_type b_list gv_list hx (zD2 hst) H.h⟩
theorem zC9 {a:Addr} {φ:List PV→Option PV} (H:FnSound k a φ) (G:GV x (.ref a)) (hf:IsFn a) (hx:sc.names.lookup x=some .globalImplicit) (hst:(e :: es).all notStar=true) (Hs:WEs (k + 1) sc (e :: es) fs):WE (k + 1) sc (.Call (.Name x p₁) (e :: es) [] pos) (fun l=>(fs l).bind φ):=⟨s_call H G hf hx (zD2 hst) Hs.h⟩
theorem few_ok (hst:(e :: es).all notStar=true) (hl:(decide ((e :: es).length + 1 < 30))=true):∀ env,((backTo pos (starEach (e :: es) env)).all (fun x=>!x.1) && (backToKw pos (keywordEach [] env)).all (fun x=>x.1.isSome)
   && decide ((e :: es).length + ([]:List Keyword).length + (if ([]:List Keyword).isEmpty then 0 else 1) < 30))=true:=fun env=>by
 have h1:(backTo pos (starEach (e :: es) env)).all (fun x=>!x.1)=true:=by
  have:=zC1 (zD2 hst) (env:=env) (pos:=pos)
  rw [List.any_eq_false] at this
  rw [List.all_eq_true]
  intro y hy
  have:=this y hy
  simpa using this
 have h2:(backToKw pos (keywordEach [] env)).all (fun x=>x.1.isSome)=true:=rfl
 rw [h1,h2,Bool.true_and,Bool.true_and]
 have:=of_decide_eq_true hl
 apply decide_eq_true
 show (e :: es).length + 0 + 0 < 30
 lia
theorem zM7 {name:PStr} {id:String} {φ:List PV→Option PV} (M:StrMeth name id) (B:BSound k (.builtin id) φ) (H:WE k sc e₁ f) (Hs:WEs k sc (e :: es) fs) (hst:(e :: es).all notStar=true) (hl:(decide ((e :: es).length + 1 < 30))=true)
  (hbase:∀ env,attributeBase e₁ name env (eval e₁ env)=eval e₁ env) (hline:(p₁.endLine == pos.line)=true):WE k sc (.Call (.Attribute e₁ name p₁) (e :: es) [] pos) (methO φ f fs) :=
 ⟨s_meth M B H.h Hs.h (zD2 hst) hbase (few_ok hst hl) hline⟩
theorem we_n (H:WN k sc e f):WE k sc e f:=⟨e_of_n H.h⟩
theorem zH0 (H:WEs k sc es fs):WN k sc (.List es pos) (cList fs):=⟨n_list H.h⟩
theorem zC7 (hk:(sc.kind == .function)=true) (hx:sc.names.lookup x=some .local) (hz:(x == (".0":PySem.Str))=false) (hall:(sc.names.all fun p=>p.2 != .local || (p.1 == (".0":PySem.Str) || p.1 == x))=true):WC k sc (.Name x pos) (fun p=>some [(x,.fz p)]):=⟨cg_name' hk hx hz hall⟩
theorem wc_pair {y:PStr} (hk:(sc.kind == .function)=true) (hx:sc.names.lookup x=some .local) (hy:sc.names.lookup y=some .local) (hxz:(x == (".0":PySem.Str))=false) (hyz:(y == (".0":PySem.Str))=false) (hall:(sc.names.all fun p=>p.2 != .local || (p.1 == (".0":PySem.Str) || (p.1 == x || p.1 == y)))=true) :
  WC k sc (.Tuple [.Name x p₁,.Name y p₂] n pos) (pairG x y):=⟨cg_pair' hk hx hy hxz hyz hall⟩
theorem zF5:WK k sc [] (fun _=>some true):=⟨ct_nil⟩
theorem wk_one (H:WT k sc e t):WK k sc [e] t:=⟨ct_one H.h⟩
theorem wn_lc {elt tgt iter:Expr} {ifs:List Expr} {scope:Scope} {fi fe:Lc→Option PV} {q:PV→Option Lc} {ft:Lc→Option Bool} (O:(scope.kind == .function && scope.names.all (fun y=>(y.2 != .local || scope.names.lookup y.1 == some .local) && y.2 != .cell && (y.2 != .free || sc.names.lookup y.1 == some .cell)))=true) (hs:∀ env x,foldedSetIterable iter env x=pure x)
  (H:WE k sc iter fi) (G:WC k (relabelS scope sc) tgt q) (T:WK k (relabelS scope sc) ifs ft) (E:WE k (relabelS scope sc) elt fe):WN k sc (.ListComp elt [⟨tgt,iter,ifs,0⟩] scope pos) (cComp fi q ft (cApp fe) (.list [])):=⟨n_listcomp (ScOK.of O) hs H.h G.h T.h E.h⟩
theorem wn_dc {kx vx tgt iter:Expr} {ifs:List Expr} {scope:Scope} {fi fk fv:Lc→Option PV} {q:PV→Option Lc} {ft:Lc→Option Bool} (O:(scope.kind == .function && scope.names.all (fun y=>(y.2 != .local || scope.names.lookup y.1 == some .local) && y.2 != .cell && (y.2 != .free || sc.names.lookup y.1 == some .cell)))=true) (hs:∀ env x,foldedSetIterable iter env x=pure x)
  (H:WE k sc iter fi) (G:WC k (relabelS scope sc) tgt q) (T:WK k (relabelS scope sc) ifs ft) (E:WE k (relabelS scope sc) kx fk) (V:WE k (relabelS scope sc) vx fv):WN k sc (.DictComp kx vx [⟨tgt,iter,ifs,0⟩] scope pos) (cComp fi q ft (cPut fk fv) (.dict [] [])):=⟨n_dictcomp (ScOK.of O) hs H.h G.h T.h E.h V.h⟩
theorem ws_lc {elt tgt iter:Expr} {ifs:List Expr} {scope:Scope} {fi fe:Lc→Option PV} {q:PV→Option Lc} {ft:Lc→Option Bool} (hk:(sc.kind == .function)=true) (hsw:(sc.names.lookup x == some .local && p₁.line == p₂.line && !(scope.names.any fun (n,k)=>n == x && (k == .local || k == .cell)))=true) (hy:sc.names.lookup x=some .local)
  (O:(scope.kind == .function && scope.names.all (fun y=>(y.2 != .local || scope.names.lookup y.1 == some .local) && y.2 != .cell && (y.2 != .free || sc.names.lookup y.1 == some .cell)))=true) (hs:∀ env x,foldedSetIterable iter env x=pure x)
  (H:WE k sc iter fi) (G:WC k (relabelS scope sc) tgt q) (T:WK k (relabelS scope sc) ifs ft) (E:WE k (relabelS scope sc) elt fe):WS k sc (.Assign [.Name x p₁] (.ListComp elt [⟨tgt,iter,ifs,0⟩] scope p₂) pos) (cSet x (cComp fi q ft (cApp fe) (.list []))):=⟨st_listcomp (sw_list true hk hsw) hy (ScOK.of O) hs H.h G.h T.h E.h⟩
theorem ws_dc {kx vx tgt iter:Expr} {ifs:List Expr} {scope:Scope} {fi fk fv:Lc→Option PV} {q:PV→Option Lc} {ft:Lc→Option Bool} (hk:(sc.kind == .function)=true) (hsw:(sc.names.lookup x == some .local && p₁.line == p₂.line && !(scope.names.any fun (n,k)=>n == x && (k == .local || k == .cell)))=true) (hy:sc.names.lookup x=some .local)
  (O:(scope.kind == .function && scope.names.all (fun y=>(y.2 != .local || scope.names.lookup y.1 == some .local) && y.2 != .cell && (y.2 != .free || sc.names.lookup y.1 == some .cell)))=true) (hs:∀ env x,foldedSetIterable iter env x=pure x)
  (H:WE k sc iter fi) (G:WC k (relabelS scope sc) tgt q) (T:WK k (relabelS scope sc) ifs ft) (E:WE k (relabelS scope sc) kx fk) (V:WE k (relabelS scope sc) vx fv):WS k sc (.Assign [.Name x p₁] (.DictComp kx vx [⟨tgt,iter,ifs,0⟩] scope p₂) pos) (cSet x (cComp fi q ft (cPut fk fv) (.dict [] []))):=⟨st_dictcomp (sw_dict true hk hsw) hy (ScOK.of O) hs H.h G.h T.h E.h V.h⟩
end
section
variable {k:Nat} {sc:Scope} {pos p₁ p₂ p₃:Pos} {n:Nat} {x:PStr} {e e₁ e₂ e₃:Expr} {es:List Expr} {f g:Lc→Option PV} {t:Lc→Option Bool} {st:Stmt} {sts b₁ b₂:List Stmt} {o₁ o₂:Lc→Option Out}
theorem zA8:WB k sc [] (fun l=>some (.go l)):=⟨b_nil⟩
theorem zA1 (H:WS k sc st o₁) (G:WB k sc sts o₂):WB k sc (st :: sts) (seqO o₁ o₂):=⟨b_cons H.h G.h⟩
theorem zB8 (hx:sc.names.lookup x=some .local ∨ sc.names.lookup x=some .cell) (H:WE k sc e f) (hsw:∀ env,swapsWith e (some (.Name x p₁)) pos.line env=pure false):WS k sc (.Assign [.Name x p₁] e pos) (cSet x f):=⟨st_assign hx H.h fun env _=>hsw env⟩
theorem zG3 (hx:sc.names.lookup x=some .local ∨ sc.names.lookup x=some .cell) (H:WN k sc e f) (hsw:∀ env,env.scope=sc→swapsWith e (some (.Name x p₁)) pos.line env=pure false):WS k sc (.Assign [.Name x p₁] e pos) (cOwn x f):=⟨st_own hx H.h hsw⟩
theorem zO3 (T:WT k sc e t) (H:WB k sc b₁ o₁) (G:WB k sc b₂ o₂):WS k sc (.If e b₁ b₂ pos) (fun l=>(t l).bind fun x=>if x then o₁ l else o₂ l):=⟨st_if T.h H.h G.h⟩
theorem zD9 (H:WE k sc e f):WS k sc (.Return (some e) pos) (fun l=>(f (freeze l)).map .ret):=⟨st_ret H.h⟩
theorem ws_break:WS k sc (.Break pos) (fun l=>some (.brk l)):=⟨st_break⟩
theorem zF4 (hx:sc.names.lookup x=some .local ∨ sc.names.lookup x=some .cell):WG k sc (.Name x pos) (fun p=>some [(x,.fz p)]):=⟨g_name hx⟩
theorem wg_pair {y:PStr} (hx:([x,y].all fun z=>sc.names.lookup z == some .local || sc.names.lookup z == some .cell)=true):WG k sc (.Tuple [.Name x p₁,.Name y p₂] n pos) (tupG [x,y]) :=
 ⟨g_tuple (xs:=[(x,p₁),(y,p₂)]) (names_ok (by simpa using hx)) (fun _=>rfl)⟩
theorem wg_four {y z w:PStr} {p₄:Pos} (hx:([x,y,z,w].all fun z=>sc.names.lookup z == some .local || sc.names.lookup z == some .cell)=true):WG k sc (.Tuple [.Name x p₁,.Name y p₂,.Name z p₃,.Name w p₄] n pos) (tupG [x,y,z,w]) :=
 ⟨g_tuple (xs:=[(x,p₁),(y,p₂),(z,p₃),(w,p₄)]) (names_ok (by simpa using hx)) (fun _=>rfl)⟩
theorem zG4 {gg:PV→Option Lc} (H:WE k sc e f) (T:WG k sc e₁ gg) (B:WB k sc b₁ o₁) (E:WB k sc b₂ o₂) (hs:∀ env x,foldedSetIterable e env x=pure x):WS k sc (.For e₁ e b₁ b₂ pos) (fun l=>(f l).bind fun p=>(iterPV p).bind fun ps=>forO gg o₁ o₂ ps l):=⟨st_for H.h T.h B.h E.h hs⟩
theorem ws_unpack {gg:PV→Option Lc} (H:WE k sc e f) (T:WG k sc (.Tuple es n p₁) gg) (hsw:∀ env,swapsWithSole [.Tuple es n p₁] e pos.line env=pure false) (hw:∀ env,swappedStores [.Tuple es n p₁] e env=pure none):WS k sc (.Assign [.Tuple es n p₁] e pos) (fun l=>(f l).bind fun p=>(gg p).map fun t=>.go (t ++ l)):=⟨st_unpack H.h T.h hsw hw⟩
theorem zC8 (hx:sc.names.lookup x=some .local ∨ sc.names.lookup x=some .cell) (hd:(x == ("__debug__":PySem.Str))=false) (H:WE k sc e f) (hst:notStar e=true)
  (hbase:∀ env,attributeBase (.Name x p₁) "append" env (eval (.Name x p₁) env)=eval (.Name x p₁) env) (hline:(p₂.endLine == p₃.line)=true) (hi:(sc.kind == .function)=true):WS k sc (.Expr (.Call (.Attribute (.Name x p₁) "append" p₂) [e] [] p₃) pos) (cAppend x f) :=
 ⟨st_append hx hd H.h (zD2 (by rw [all_cons,hst]; rfl)) hbase hline (int_ok hi)⟩
theorem zH3 (hx:sc.names.lookup x=some .local ∨ sc.names.lookup x=some .cell) (hd:(x == ("__debug__":PySem.Str))=false) (H:WE k sc e f) (G:WE k sc e₁ g) (hsw:∀ env,swapsWith e (some (.Subscript (.Name x p₁) e₁ p₂)) pos.line env=pure false):WS k sc (.Assign [.Subscript (.Name x p₁) e₁ p₂] e pos) (cSetItem x f g) :=
 ⟨st_setitem hx hd H.h G.h hsw⟩
theorem ws_iadd (hx:sc.names.lookup x=some .local ∨ sc.names.lookup x=some .cell) (H:WE k sc e f):WS k sc (.AugAssign (.Name x p₁) .Add e pos) (cSet x (c2 iaddPV (cV x) f)):=⟨st_aug hx o_iadd H.h⟩
end
theorem fn_w {a:Addr} {k:Nat} {name q:PStr} {params:Arguments} {body:List Stmt} {sc:Scope} {defaults kwd doc pm:Value} {ann:Option Addr} {cd ctup:Value} {fb:Lc→Option Out} {φ:List PV→Option PV} (xs:List PStr)
  (hat:∀ P,∃ o,(KT P).lookup a=some o∧o.data = .func ⟨name,q,params,.stmts body,sc,mainGlobals,[],defaults,kwd,doc,pm,ann,cd,ctup,builtinsNs⟩)
  (hcode:∀ P,∃ c o vs t,cd = .ref c∧(KT P).lookup c=some o∧o.data = .fields vs∧vs[1]? = some (.str q t))
  (hsc:(!sc.isCoroutine && !sc.isGenerator && sc.kind == .function)=true) (hxs:(xs.all fun x=>sc.names.lookup x == some .local || sc.names.lookup x == some .cell)=true)
  (B:WB k sc body fb)
  (hbind:∀ vs,vs.length=xs.length→bindArgs ⟨name,q,params,.stmts body,sc,mainGlobals,[],defaults,kwd,doc,pm,ann,cd,ctup,builtinsNs⟩ ⟨vs,[]⟩=pure (xs.zip vs))
  (hφ:∀ ps p,φ ps=some p→((bindP xs ps []).bind fun l=>(fb l).bind outV)=some p):FnSound k a φ:=fn_mk xs hat hcode hsc hxs B.h hbind hφ
noncomputable def okT {α:Type} (n:Nat) (c:Nat→Nat→Bool):KasT α→(α→Prop)→Prop
 | .ret a,Q=>Q a
 | .ask i j k,Q=>i < n∧j < n∧okT n c (k (c i j)) Q
theorem zK8 {α β:Type} {n:Nat} {c:Nat→Nat→Bool} {f:α→KasT β} {Q:β→Prop}:∀ {t:KasT α},okT n c t (fun a=>okT n c (f a) Q)→okT n c (t.bind f) Q
 | .ret a,h=>h
 | .ask i j k,h=>⟨h.1,h.2.1,zK8 h.2.2⟩
theorem okT_mono {α:Type} {n:Nat} {c:Nat→Nat→Bool} {Q R:α→Prop} (hq:∀ a,Q a→R a):∀ {t:KasT α},okT n c t Q→okT n c t R
 | .ret a,h=>hq a h
 | .ask i j k,h=>⟨h.1,h.2.1,okT_mono hq h.2.2⟩
theorem okT_wp {α:Type} {n:Nat} {c:Nat→Nat→Bool} {cmp:Nat→Nat→(Bool→Shared→Prop)→Shared→Prop} {s:Shared} (hc:∀ i j C,i < n→j < n→C (c i j) s→cmp i j C s) {Q:α→Prop} {G:α→Shared→Prop} (hG:∀ a,Q a→G a s):∀ {t:KasT α},okT n c t Q→t.kasWp cmp G s
 | .ret a,h=>hG a h
 | .ask i j k,h=>hc i j _ h.1 h.2.1 (okT_wp hc hG h.2.2)
structure Cmp (c:Nat→Nat→Bool):Prop where
 asymm:∀ i j,c i j=true→c j i=false
 trans:∀ i j k,c j i=false→c k j=false→c k i=false
section
variable {n:Nat} {c:Nat→Nat→Bool}
noncomputable def IsP (n:Nat) (p:Array Nat):Prop:=p.toList.Perm (range n)
theorem IsP.size {p:Array Nat} (h:IsP n p):p.size=n:=by have:=h.length_eq; simpa using this
theorem IsP.lt {p:Array Nat} (h:IsP n p) (hn:0 < n) (k:Nat):p.getD k 0 < n:=by
 by_cases hk:k < p.size
 ·have e:p.getD k 0=p[k]:=by simp [Array.getD,hk]
  rw [e]
  have:p[k]∈range n:=h.mem_iff.mp (by simp)
  exact mem_range.mp this
 ·have e:p.getD k 0=0:=by simp [Array.getD,hk]
  rw [e]; exact hn
theorem getD_of {p q:Array Nat} {i j:Nat} (h:p[i]? = q[j]?):p.getD i 0=q.getD j 0:=by
 rw [Array.getD_eq_getD_getElem?,Array.getD_eq_getD_getElem?,h]
theorem rev_p {p:Array Nat} (h:IsP n p) (i j:Nat):IsP n (kas_rev p i j):=(Array.perm_iff_toList_perm.mp (mirror_perm p i j _)).trans h
theorem bub_p {p:Array Nat} (h:IsP n p) (i j:Nat):IsP n (bubble p i j):=(Array.perm_iff_toList_perm.mp (bubble_perm p i j)).trans h
theorem zL4 {p:Array Nat} (h:IsP n p) {i j:Nat} (hj:j≤n) (k:Nat):(kas_rev p i j).getD k 0=if i≤k∧k < j then p.getD (i + j - 1 - k) 0 else p.getD k 0:=by
 have e:=getElem?_mirror_all (xs:=p) (i:=i) (j:=j) (by rw [h.size]; exact hj) k
 unfold kas_rev
 split
 ·rename_i hc; rw [if_pos hc] at e; exact getD_of e
 ·rename_i hc; rw [if_neg hc] at e; exact getD_of e
theorem bub_at {p:Array Nat} (h:IsP n p) {k l:Nat} (hk:k < n) (hl:l≤k) (i:Nat):(bubble p k (k - l)).getD i 0=if i=l then p.getD k 0 else if l < i∧i≤k then p.getD (i - 1) 0 else p.getD i 0:=by
 have e:=getElem?_bubble (xs:=p) (src:=k) (by rw [h.size]; exact hk) (k - l) (by lia) i
 have e1:k - (k - l)=l:=by lia
 rw [e1] at e
 split
 ·rename_i hc; rw [if_pos hc] at e; exact getD_of e
 ·rename_i hc
  rw [if_neg hc] at e
  split
  ·rename_i hd; rw [if_pos hd] at e; exact getD_of e
  ·rename_i hd; rw [if_neg hd] at e; exact getD_of e
noncomputable def Up (c:Nat→Nat→Bool) (p:Array Nat) (m:Nat):Prop:=∀ i j,i < j→j < m→c (p.getD j 0) (p.getD i 0)=false
noncomputable def Down (c:Nat→Nat→Bool) (p:Array Nat) (m:Nat):Prop:=∀ i j,i < j→j < m→c (p.getD i 0) (p.getD j 0)=false
theorem Up.succ (H:Cmp c) {p:Array Nat} {m:Nat} (h:Up c p m) (hm:0 < m) (hc:c (p.getD m 0) (p.getD (m - 1) 0)=false):Up c p (m + 1):=fun i j hij hj=>by
 by_cases e:j=m
 ·subst e
  by_cases e':i=j - 1
  ·subst e'; exact hc
  ·exact H.trans _ _ _ (h i (j - 1) (by lia) (by lia)) hc
 ·exact h i j hij (by lia)
theorem Down.succ (H:Cmp c) {p:Array Nat} {m:Nat} (h:Down c p m) (hm:0 < m) (hc:c (p.getD (m - 1) 0) (p.getD m 0)=false):Down c p (m + 1):=fun i j hij hj=>by
 by_cases e:j=m
 ·subst e
  by_cases e':i=j - 1
  ·subst e'; exact hc
  ·exact H.trans _ _ _ hc (h i (j - 1) (by lia) (by lia))
 ·exact h i j hij (by lia)
theorem asc_ok (H:Cmp c) {p:Array Nat} (hp:IsP n p) {nrem:Nat} (hr:nrem≤n) (hn:0 < n) {Q:Nat→Prop}:∀ f a,0 < a→a + f=nrem→Up c p a →
  (∀ m,a≤m→m≤nrem→Up c p m→(m < nrem→c (p.getD m 0) (p.getD (m - 1) 0)=true)→Q m)→okT n c (kas_asc p f a) Q
 | 0,a,_,hf,hu,hQ=>by
  unfold kas_asc
  exact hQ a (le_refl _) (by lia) hu (by lia)
 | f + 1,a,ha,hf,hu,hQ=>by
  unfold kas_asc
  refine ⟨hp.lt hn _,hp.lt hn _,?_⟩
  cases hc:c (p.getD a 0) (p.getD (a - 1) 0) with
  | true=>dsimp only; rw [if_pos rfl]; exact hQ a (le_refl _) (by lia) hu (fun _=>hc)
  | false =>
   dsimp only
   rw [if_neg (by decide)]
   exact asc_ok H hp hr hn f (a + 1) (by lia) (by lia) (hu.succ H ha hc) fun m h1 h2 h3 h4=>hQ m (by lia) h2 h3 h4
noncomputable def Eqs (c:Nat→Nat→Bool) (p:Array Nat) (a m:Nat):Prop:=∀ i j,a≤i→i < m→a≤j→j < m→c (p.getD i 0) (p.getD j 0)=false
theorem rev_down (H:Cmp c) {p:Array Nat} (hp:IsP n p) {a m:Nat} (hm:m≤n) (hd:Down c p m) (he:Eqs c p a m):Down c (kas_rev p a m) m:=fun i j hij hj=>by
 rw [zL4 hp hm,zL4 hp hm]
 by_cases h1:a≤i
 ·rw [if_pos ⟨h1,by lia⟩,if_pos ⟨by lia,hj⟩]
  exact he _ _ (by lia) (by lia) (by lia) (by lia)
 ·rw [if_neg (by lia)]
  by_cases h2:a≤j
  ·rw [if_pos ⟨h2,hj⟩]
   exact hd i _ (by lia) (by lia)
  ·rw [if_neg (by lia)]
   exact hd i j hij hj
theorem rev_keep {p:Array Nat} (hp:IsP n p) {a m:Nat} (hm:m≤n) {k:Nat} (hk:m≤k):(kas_rev p a m).getD k 0=p.getD k 0:=by
 rw [zL4 hp hm,if_neg (by lia)]
theorem irr (H:Cmp c) (i:Nat):c i i=false:=by
 cases h:c i i with
 | false=>rfl
 | true=>have:=H.asymm i i h; rw [h] at this; exact this
theorem desc_ok (H:Cmp c) {nrem:Nat} (hr:nrem≤n) (hn:0 < n) {Q:Array Nat × Nat × Nat→Prop}:∀ f (p:Array Nat) a q,IsP n p→q + 1≤a→a + f=nrem→Down c p a→Eqs c p (a - (q + 1)) a →
  (∀ p' m q',IsP n p'→q' + 1≤m→m≤nrem→Down c p' m→Eqs c p' (m - (q' + 1)) m→Q (p',m,q'))→okT n c (kas_desc f p a q) Q
 | 0,p,a,q,hp,hq,hf,hd,he,hQ=>by
  unfold kas_desc
  exact hQ p a q hp hq (by lia) hd he
 | f + 1,p,a,q,hp,hq,hf,hd,he,hQ=>by
  unfold kas_desc
  refine ⟨hp.lt hn _,hp.lt hn _,?_⟩
  cases hc:c (p.getD a 0) (p.getD (a - 1) 0) with
  | true =>
   dsimp only
   rw [if_pos rfl]
   have one:∀ (p':Array Nat),Eqs c p' (a + 1 - (0 + 1)) (a + 1):=fun p' i j h1 h2 h3 h4=>by
    have:i=a:=by lia
    have:j=a:=by lia
    subst_vars; exact irr H _
   by_cases hq0:q > 0
   ·rw [if_pos hq0]
    refine desc_ok H hr hn f _ (a + 1) 0 (rev_p hp _ _) (by lia) (by lia) ?_ (one _) hQ
    refine (rev_down H hp (by lia) hd he).succ H (by lia) ?_
    have ha1:1≤a:=le_trans (Nat.le_add_left 1 q) hq
    have h0:a - (q + 1) < a:=Nat.sub_lt ha1 (Nat.succ_pos q)
    have e0:a - (q + 1) + a - 1 - (a - 1)=a - (q + 1):=by rw [Nat.sub_sub,Nat.add_sub_cancel' ha1,Nat.add_sub_cancel]
    rw [rev_keep hp (by lia) (le_refl a),zL4 hp (by lia),if_pos ⟨Nat.le_sub_one_of_lt h0,Nat.sub_lt ha1 Nat.one_pos⟩,e0]
    have h2:=he (a - (q + 1)) (a - 1) (le_refl _) h0 (Nat.le_sub_one_of_lt h0) (Nat.sub_lt ha1 Nat.one_pos)
    have h3:=H.asymm _ _ hc
    exact H.trans _ _ _ h3 h2
   ·rw [if_neg hq0]
    exact desc_ok H hr hn f p (a + 1) 0 hp (by lia) (by lia) (hd.succ H (by lia) (H.asymm _ _ hc)) (one _) hQ
  | false =>
   dsimp only
   rw [if_neg (by decide)]
   refine ⟨hp.lt hn _,hp.lt hn _,?_⟩
   cases hc2:c (p.getD (a - 1) 0) (p.getD a 0) with
   | true=>dsimp only; rw [if_pos rfl]; exact hQ p a q hp hq (by lia) hd he
   | false =>
    dsimp only
    rw [if_neg (by decide)]
    refine desc_ok H hr hn f p (a + 1) (q + 1) hp (by lia) (by lia) (hd.succ H (by lia) hc2) (fun i j h1 h2 h3 h4=>?_) hQ
    have key:∀ x,a - (q + 1)≤x→x < a→c (p.getD x 0) (p.getD a 0)=false∧c (p.getD a 0) (p.getD x 0)=false:=fun x hx1 hx2 =>
     ⟨H.trans _ _ _ hc2 (he _ _ (by lia) (by lia) (by lia) (by lia)),H.trans _ _ _ (he _ _ (by lia) (by lia) (by lia) (by lia)) hc⟩
    by_cases e1:i=a
    ·by_cases e2:j=a
     ·rw [e1,e2]; exact irr H _
     ·rw [e1]; exact (key j (by lia) (by lia)).2
    ·by_cases e2:j=a
     ·rw [e2]; exact (key i (by lia) (by lia)).1
     ·exact he i j (by lia) (by lia) (by lia) (by lia)
theorem tail_ok (H:Cmp c) {nrem:Nat} (hr:nrem≤n) (hn:0 < n) {m:Nat} {p:Array Nat} (hp:IsP n p) (hm:0 < m) (hmr:m≤nrem) (hd:Down c p m) {Q:Nat × Array Nat→Prop}
  (hQ:∀ m' p',IsP n p'→0 < m'→m'≤nrem→Up c p' m'→Q (m',p')):okT n c (kas_tail3 m nrem p) Q:=by
 unfold kas_tail3
 refine zK8 (asc_ok H (rev_p hp 0 m) hr hn (nrem - m) m hm (by lia) (fun i j hij hj=>?_) fun m' h1 h2 h3 h4=>hQ m' _ (rev_p hp 0 m) (by lia) h2 h3)
 have hmn:=le_trans hmr hr
 have h1:i < m - 1:=Nat.lt_of_lt_of_le hij (Nat.le_sub_one_of_lt hj)
 rw [zL4 hp hmn,zL4 hp hmn,if_pos ⟨zero_le _,hj⟩,if_pos ⟨zero_le _,Nat.lt_trans hij hj⟩,Nat.zero_add]
 exact hd _ _ (Nat.sub_lt_sub_left h1 hij) (Nat.lt_of_le_of_lt (Nat.sub_le _ _) (Nat.sub_lt hm Nat.one_pos))
theorem descPart_ok (H:Cmp c) {nrem:Nat} (hr:nrem≤n) (hn:0 < n) {m:Nat} {p:Array Nat} (hp:IsP n p) (hmr:m < nrem) (hd:Down c p (m + 1)) {Q:Nat × Array Nat→Prop}
  (hQ:∀ m' p',IsP n p'→0 < m'→m'≤nrem→Up c p' m'→Q (m',p')):okT n c (kas_descPart m nrem p) Q:=by
 unfold kas_descPart
 refine zK8 (desc_ok H hr hn (nrem - (m + 1)) p (m + 1) 0 hp (by lia) (by lia) hd (fun i j h1 h2 h3 h4=>?_) fun p' m' q' h1 h2 h3 h4 h5=>?_)
 ·have:i=m:=by lia
  have:j=m:=by lia
  subst_vars; exact irr H _
 ·dsimp only
  split
  ·exact tail_ok H hr hn (rev_p h1 _ _) (by lia) h3 (rev_down H h1 (by lia) h4 h5) hQ
  ·exact tail_ok H hr hn h1 (by lia) h3 h4 hQ
theorem count_ok (H:Cmp c) (hn:0 < n) {p:Array Nat} (hp:IsP n p) {Q:Nat × Array Nat→Prop} (hQ:∀ m' p',IsP n p'→0 < m'→m'≤n→Up c p' m'→Q (m',p')):okT n c (kas_count n p) Q:=by
 unfold kas_count
 refine zK8 (asc_ok H hp (le_refl n) hn (n - 1) 1 (by lia) (by lia) (fun i j h1 h2=>by lia) fun m h1 h2 h3 h4=>?_)
 by_cases e:(m == n)=true
 ·rw [if_pos e]
  exact hQ m p hp (by lia) h2 h3
 ·rw [if_neg e]
  have hlt:m < n:=by
   have:m≠n:=by simpa using e
   lia
  by_cases hm:m > 1
  ·rw [if_pos hm]
   refine ⟨hp.lt hn _,hp.lt hn _,?_⟩
   cases hc:c (p.getD 0 0) (p.getD (m - 1) 0) with
   | true=>dsimp only; rw [if_pos rfl]; exact hQ m p hp (by lia) h2 h3
   | false =>
    dsimp only
    rw [if_neg (by decide)]
    have hup0:∀ x,x < m→c (p.getD x 0) (p.getD 0 0)=false:=fun x hx=>by
     by_cases e:x=0
     ·subst e; exact irr H _
     ·exact h3 0 x (by lia) hx
    have hlast:∀ x,x < m→c (p.getD (m - 1) 0) (p.getD x 0)=false:=fun x hx=>by
     by_cases e:x=m - 1
     ·subst e; exact irr H _
     ·exact h3 x (m - 1) (by lia) (by lia)
    have heq:∀ i j,i < m→j < m→c (p.getD i 0) (p.getD j 0)=false:=fun i j hi hj =>
     H.trans _ _ _ (hlast j hj) (H.trans _ _ _ hc (hup0 i hi))
    refine descPart_ok H (le_refl n) hn (rev_p hp 0 m) hlt (Down.succ H (fun i j hij hj=>?_) (by lia) ?_) hQ
    ·rw [zL4 hp (by lia),zL4 hp (by lia),if_pos ⟨by lia,by lia⟩,if_pos ⟨by lia,by lia⟩]
     exact heq _ _ (by lia) (by lia)
    ·rw [zL4 hp (by lia),zL4 hp (by lia),if_pos ⟨by lia,by lia⟩,if_neg (by lia)]
     have h5:=H.asymm _ _ (h4 hlt)
     exact H.trans _ _ _ h5 (heq _ _ (by lia) (by lia))
  ·rw [if_neg hm]
   have hm1:m=1:=by lia
   subst hm1
   exact descPart_ok H (le_refl n) hn hp hlt (Down.succ H (fun i j h1 h2=>by lia) (by lia) (H.asymm _ _ (h4 hlt))) hQ
theorem place_ok (H:Cmp c) (hn:0 < n) {p:Array Nat} (hp:IsP n p) {k:Nat} (hu:Up c p k) {Q:Nat→Prop}
  (hQ:∀ l,l≤k→(∀ i,i < l→c (p.getD k 0) (p.getD i 0)=false)→(∀ i,l≤i→i < k→c (p.getD i 0) (p.getD k 0)=false)→Q l):∀ f l r,l≤r→r≤k→r - l≤f →
  (∀ i,i < l→c (p.getD k 0) (p.getD i 0)=false)→(∀ i,r≤i→i < k→c (p.getD i 0) (p.getD k 0)=false)→okT n c (kas_place p k f l r) Q
 | 0,l,r,hlr,hrk,hf,hl,hr=>by
  unfold kas_place
  have:l=r:=by lia
  subst this
  exact hQ l hrk hl hr
 | f + 1,l,r,hlr,hrk,hf,hl,hr=>by
  unfold kas_place
  by_cases hge:l ≥ r
  ·rw [if_pos hge]
   have:l=r:=by lia
   subst this
   exact hQ l hrk hl hr
  ·rw [if_neg hge]
   refine ⟨hp.lt hn _,hp.lt hn _,?_⟩
   have hmid:l≤(l + r) / 2∧(l + r) / 2 < r:=by lia
   generalize (l + r) / 2=mid at hmid ⊢
   cases hc:c (p.getD k 0) (p.getD mid 0) with
   | true =>
    dsimp only
    rw [if_pos rfl]
    refine place_ok H hn hp hu hQ f l mid (by lia) (by lia) (by lia) hl fun i h1 h2=>?_
    have h3:=H.asymm _ _ hc
    by_cases e:i=mid
    ·subst e; exact h3
    ·by_cases hi:r≤i
     ·exact hr i hi h2
     ·have h4:=hu mid i (by lia) (by lia)
      cases h5:c (p.getD i 0) (p.getD k 0) with
      | false=>rfl
      | true =>
       have h6:=H.asymm _ _ h5
       have:=H.trans _ _ _ h4 h6
       rw [hc] at this; exact bno this rfl
   | false =>
    dsimp only
    rw [if_neg (by decide)]
    refine place_ok H hn hp hu hQ f (mid + 1) r (by lia) (by lia) (by lia) (fun i hi=>?_) hr
    by_cases e:i=mid
    ·subst e; exact hc
    ·by_cases hi':i < l
     ·exact hl i hi'
     ·exact H.trans _ _ _ (hu i mid (by lia) (by lia)) hc
theorem bin_ok (H:Cmp c) (hn:0 < n) {Q:Array Nat→Prop} (hQ:∀ p,IsP n p→Up c p n→Q p):∀ f (p:Array Nat) k,IsP n p→0 < k→k + f=n→Up c p k→okT n c (kas_bin f p k) Q
 | 0,p,k,hp,hk,hf,hu=>by
  unfold kas_bin
  have:k=n:=by lia
  subst this
  exact hQ p hp hu
 | f + 1,p,k,hp,hk,hf,hu=>by
  unfold kas_bin
  refine zK8 (place_ok H hn hp hu (fun l hl h1 h2=>?_) k 0 k (by lia) (le_refl _) (by lia) (fun i hi=>by lia) (fun i h1 h2=>by lia))
  refine bin_ok H hn hQ f _ (k + 1) (bub_p hp _ _) (by lia) (by lia) fun i j hij hj=>?_
  rw [bub_at hp (by lia) hl,bub_at hp (by lia) hl]
  by_cases ei:i=l
  ·subst ei
   rw [if_pos rfl,if_neg (by lia),if_pos ⟨hij,by lia⟩]
   exact h2 _ (by lia) (by lia)
  ·rw [if_neg ei]
   by_cases hi:l < i∧i≤k
   ·rw [if_pos hi,if_neg (by lia),if_pos ⟨by lia,by lia⟩]
    exact hu _ _ (by lia) (by lia)
   ·rw [if_neg hi]
    by_cases ej:j=l
    ·subst ej
     rw [if_pos rfl]
     exact h1 i hij
    ·rw [if_neg ej]
     by_cases hj':l < j∧j≤k
     ·rw [if_pos hj']
      exact hu i (j - 1) (by lia) (by lia)
     ·rw [if_neg hj']
      exact hu i j hij (by lia)
theorem sort_ok (H:Cmp c) (hn:0 < n) {Q:Array Nat→Prop} (hQ:∀ p,IsP n p→Up c p n→Q p):okT n c (kas_sort n) Q:=by
 unfold kas_sort
 refine zK8 (count_ok H hn (p:=List.toArray (range n)) (by unfold IsP; simp) fun m p hp h0 hm hu=>?_)
 dsimp only
 by_cases hlt:m < n
 ·rw [if_pos hlt]
  have e:max m 1=m:=by lia
  rw [e]
  exact bin_ok H hn hQ (n - m) p m hp h0 (by lia) hu
 ·rw [if_neg hlt]
  have:m=n:=by lia
  subst this
  exact hQ p hp hu
end
theorem map_range_getD (vs:List Value):(range vs.length).map (fun i=>vs.getD i Value.none)=vs:=by
 apply List.ext_getElem (by simp)
 intro i h1 h2
 simp [h2]
theorem list_sort_by {prog:Program} {w:World} {A:Around} {s:Shared} {a:Addr} {vs:List Value} {n:Nat} {P:PySem.Fin→Shared→Prop} {κ:SortKind} {c:Nat→Nat→Bool} (ho:s.heap.get? a=some (seqObj "list" vs.toArray n)) (h64:vs.length < 64) (H:Cmp c)
  (hkk:2≤vs.length→∀ h',(∀ b o,b≠a→s.heap.get? b=some o→h'.get? b=some o)→∀ Q:SortKind→Shared→Prop,Q κ { s with heap:=h' }→wpAny (model prog w) A (keyKind' vs.toArray) Q (fun _ _=>False) { s with heap:=h' })
  (hcmp:2≤vs.length→∀ h',(∀ b o,b≠a→s.heap.get? b=some o→h'.get? b=some o)→∀ i j C,i < vs.length→j < vs.length→C (c i j) { s with heap:=h' }→kas_ask prog w A κ vs i j C { s with heap:=h' })
  (h:∀ p,IsP vs.length p→Up c p vs.length→P (.done (.ret .none)) { s with heap:=sortedHeap s.heap a vs (p.toList.map fun i=>vs.getD i Value.none).toArray }) :
  wpAny (model prog w) A (Builtin.«list.sort» ⟨[.ref a],[]⟩) P (fun _ _=>False) s:=by
 rw [list_sort_plain]
 have ha:a < s.heap.objs.size:=lt_size ho
 refine wpAny_bind (listItems_at ho rfl ?_)
 refine wpAny_bind (listUpdate_at ho rfl ?_)
 obtain ⟨e1,ho1⟩:∃ e1,(s.heap.update a (Obj.mapSeq fun _=>#[])).get? a=some (seqObj "list" #[] e1):=⟨_,get?_update_seq ho (fun _=>#[])⟩
 refine wpAny_bind (seqEpoch_at ho1 rfl ?_)
 refine wpAny_bind (wpAny_newTuple ?_)
 refine wpAny_bind (wpAny_newList ?_)
 refine wpAny_holding ?_
 have ho6:(((s.heap.update a (Obj.mapSeq fun _=>#[])).push (seqObj "tuple" vs.toArray 0)).push (seqObj "list" #[] 0)).get? a=some (seqObj "list" #[] e1):=by
  rw [Heap.get?_push_ne _ _ _ (by rw [size_push',Heap.size_update]; exact ne_of_lt (lt_succ_of_lt ha)),Heap.get?_push_ne _ _ _ (by rw [Heap.size_update]; exact ne_of_lt ha)]
  exact ho1
 have keep:∀ b o,b≠a→s.heap.get? b=some o→(((s.heap.update a (Obj.mapSeq fun _=>#[])).push (seqObj "tuple" vs.toArray 0)).push (seqObj "list" #[] 0)).get? b=some o:=fun b o hb e=>by
  have hlt:=lt_size e
  rw [Heap.get?_push_ne _ _ _ (by rw [size_push',Heap.size_update]; exact ne_of_lt (lt_succ_of_lt hlt)),Heap.get?_push_ne _ _ _ (by rw [Heap.size_update]; exact ne_of_lt hlt),Heap.get?_update_ne _ _ _ _ hb]
  exact e
 show wpAny (model prog w) A _ P _ { s with heap:=((s.heap.update a (Obj.mapSeq fun _=>#[])).push (seqObj "tuple" vs.toArray 0)).push (seqObj "list" #[] 0) }
 dsimp only
 have hsz:vs.toArray.size=vs.length:=by simp
 by_cases h2:vs.toArray.size < 2
 ·rw [if_pos h2,if_pos h2]
  refine wpAny_bind (wpAny_pure ?_)
  rw [StateT.run_pure]
  refine wpAny_bind (wpAny_pure ?_)
  dsimp only
  refine wpAny_bind (seqEpoch_at ho6 rfl ?_)
  have hz:((vs.toArray.zip vs.toArray).map (·.2))=vs.toArray:=by
   apply Array.ext (by simp)
   intro i h1 h2
   simp
  refine wpAny_bind (listUpdate_at ho6 rfl ?_ (hsz2:=by show ((vs.toArray.zip vs.toArray).map (·.2)).size≤_; rw [hz,hsz,sizeLine_eq]; lia))
  simp only [bne_self_eq_false,false_eq_true,if_false]
  have:=h (List.toArray (range vs.length)) (by unfold IsP; simp) (fun i j hij hj=>by lia)
  rw [show (List.toArray (range vs.length)).toList=range vs.length by simp,map_range_getD] at this
  refine wpAny_pure ?_
  show P _ { s with heap:=sortedHeap s.heap a vs ((vs.toArray.zip vs.toArray).map (·.2)) }
  rw [hz]; exact this
 ·rw [if_neg h2,if_neg h2]
  have h2':2≤vs.length:=by lia
  refine wpAny_bind (hkk h2' _ keep _ ?_)
  refine wpAny_bind (wpAny_mono (kat_run (ks:=vs) (vs:=vs) (G:=fun p s'=>IsP vs.length p∧Up c p vs.length∧s'=_) (Q:=fun st' s'=>∃ p,IsP vs.length p∧Up c p vs.length∧s'=_∧failedOf st'=none∧(arrOf st').map (·.2)=List.toArray (p.toList.map fun i=>vs.getD i Value.none)) rfl h2' h64
   (fun p st' s' hp har hf hG=>⟨p,hG.1,hG.2.1,hG.2.2,hf,kat_snds rfl har⟩)
   (okT_wp (n:=vs.length) (c:=c) (Q:=fun p=>IsP vs.length p∧Up c p vs.length) (fun i j C hi hj hC=>hcmp h2' _ keep i j C hi hj hC) (fun p hp=>⟨hp.1,hp.2,rfl⟩) (sort_ok H (by lia) fun p hp hu=>⟨hp,hu⟩))) (fun r s' hr=>?_) fun _ _ f=>f)
  obtain ⟨p,hp,hu,rfl,hf,hout⟩:=hr
  obtain ⟨⟨⟩,st'⟩:=r
  dsimp only at hf hout ⊢
  refine wpAny_bind (seqEpoch_at ho6 rfl ?_)
  refine wpAny_bind (listUpdate_at ho6 rfl ?_ (hsz2:=by rw [hout]; simp only [List.size_toArray,length_map,length_toList]; rw [hp.size,sizeLine_eq]; lia))
  rw [hf]
  simp only [bne_self_eq_false,false_eq_true,if_false]
  have:=h p hp hu
  refine wpAny_pure ?_
  show P _ { s with heap:=sortedHeap s.heap a vs ((arrOf st').map (·.2)) }
  rw [hout]; exact this
theorem sorted_by {prog:Program} {w:World} {A:Around} {s:Shared} {l:Addr} {vs:List Value} {Q:Value→Shared→Prop} {κ:SortKind} {c:Nat→Nat→Bool} (hl:s.heap.IsList l vs.toArray) (h64:vs.length < 64) (H:Cmp c)
  (hkk:2≤vs.length→∀ (A:Around) h',(∀ b o,s.heap.get? b=some o→h'.get? b=some o)→∀ Q:SortKind→Shared→Prop,Q κ { s with heap:=h' }→wpAny (model prog w) A (keyKind' vs.toArray) Q (fun _ _=>False) { s with heap:=h' })
  (hcmp:2≤vs.length→∀ (A:Around) h',(∀ b o,s.heap.get? b=some o→h'.get? b=some o)→∀ i j C,i < vs.length→j < vs.length→C (c i j) { s with heap:=h' }→kas_ask prog w A κ vs i j C { s with heap:=h' })
  (h:∀ p,IsP vs.length p→Up c p vs.length→Q (.ref (s.heap.objs.size + 1)) { s with heap:=sortedAll s.heap vs (p.toList.map fun i=>vs.getD i Value.none).toArray }) :
  wpAny (model prog w) A (call (.builtin "sorted") [.ref l]) Q (fun _ _=>False) s:=by
 refine Calls.call_function_entry kind_sorted plain_sorted entry_sorted (args_sorted1 _) ?_
 unfold Builtin.«sorted»
 refine wpAny_bind (m:=checkCount "sorted" 1 1 _) (wpAny_pure ?_)
 refine wpAny_bind (collect_list hl ?_ (by rw [sizeLine_eq]; lia))
 refine wpAny_bind (wpAny_newList ?_ (by rw [sizeLine_eq]; lia))
 have hsz:((s.heap.push (seqObj "list" #[] 0)).update s.heap.objs.size (Obj.mapSeq (· ++ vs.toArray))).objs.size=s.heap.objs.size + 1:=by
  rw [Heap.size_update,size_push']
 have hoL:(((s.heap.push (seqObj "list" #[] 0)).update s.heap.objs.size (Obj.mapSeq (· ++ vs.toArray))).push (seqObj "list" vs.toArray 0)).get? (s.heap.objs.size + 1)=some (seqObj "list" vs.toArray 0):=by
  rw [← hsz]; exact get?_push_size _ rfl
 have keep:∀ b o,s.heap.get? b=some o→b≠s.heap.objs.size + 1∧(((s.heap.push (seqObj "list" #[] 0)).update s.heap.objs.size (Obj.mapSeq (· ++ vs.toArray))).push (seqObj "list" vs.toArray 0)).get? b=some o:=fun b o q=>by
  have hlt:b < s.heap.objs.size:=lt_size q
  refine ⟨ne_of_lt (lt_succ_of_lt hlt),?_⟩
  rw [Heap.get?_push_ne _ _ _ (by rw [hsz]; exact ne_of_lt (lt_succ_of_lt hlt)),Heap.get?_update_ne _ _ _ _ (ne_of_lt hlt),Heap.get?_push_ne _ _ _ (ne_of_lt hlt)]
  exact q
 show wpAny _ _ _ _ _ { s with heap:=((s.heap.push (seqObj "list" #[] 0)).update s.heap.objs.size (Obj.mapSeq (· ++ vs.toArray))).push (seqObj "list" vs.toArray 0) }
 rw [hsz]
 refine wpAny_bind (wpAny_holding (wpAny_call_entry slot_list_sort ⟨_,hoL,rfl⟩ entry_list_sort (wpAny_mono (list_sort_by (κ:=κ) (c:=c) (P:=fun fin s'=>∃ v,fin = .done (.ret v)∧wpAny (model prog w) A.in1 _ _ _ s') hoL h64 H
   (fun h2 h' k Q hQ=>hkk h2 _ h' (fun b o e=>k b o (keep b o e).1 (keep b o e).2) Q hQ)
   (fun h2 h' k i j C hi hj hC=>hcmp h2 _ h' (fun b o e=>k b o (keep b o e).1 (keep b o e).2) i j C hi hj hC)
   fun p hp hu=>⟨_,rfl,wpAny_pure ⟨_,rfl,h p hp hu⟩⟩) (fun _ _ h=>h) fun _ _ f=>f.elim) (args_list_sort _)))
noncomputable def pairsP:List PV→Option (List (Int × PStr))
 | []=>some []
 | .tup [.int i,.str x] :: r=>(pairsP r).map ((i,x) :: ·)
 | _=>none
noncomputable def ltP (a b:Int × PStr):Bool:=if a.1=b.1 then decide (a.2.cps.toList < b.2.cps.toList) else decide (a.1 < b.1)
noncomputable def leP (a b:Int × PStr):Bool:=!ltP b a
noncomputable def sortP (qs:List (Int × PStr)):List (Int × PStr):=qs.mergeSort leP
noncomputable def tupP (q:Int × PStr):PV:=.tup [.int q.1,.str q.2]
theorem leP_iff (a b:Int × PStr):leP a b=true ↔ a.1 < b.1 ∨ (a.1=b.1∧leS a.2 b.2=true):=by
 unfold leP ltP leS
 by_cases h:b.1=a.1
 ·rw [if_pos h]
  simp only [Bool.not_eq_true',decide_eq_false_iff_not,decide_eq_true_eq,List.not_lt]
  constructor
  ·exact fun e=>.inr ⟨h.symm,e⟩
  ·rintro (e | e)
   ·lia
   ·exact e.2
 ·rw [if_neg h]
  simp only [Bool.not_eq_true',decide_eq_false_iff_not]
  constructor
  ·exact fun e=>.inl (by lia)
  ·rintro (e | e) <;> lia
theorem leP_trans (a b c:Int × PStr) (h:leP a b=true) (g:leP b c=true):leP a c=true:=by
 rw [leP_iff] at *
 rcases h with h | h <;> rcases g with g | g
 ·exact .inl (by lia)
 ·exact .inl (by lia)
 ·exact .inl (by lia)
 ·exact .inr ⟨by lia,zH6 _ _ _ h.2 g.2⟩
theorem leP_total (a b:Int × PStr):(leP a b || leP b a)=true:=by
 rw [or_eq_true,leP_iff,leP_iff]
 have:=zJ7 a.2 b.2
 rw [or_eq_true] at this
 by_cases h:a.1 < b.1
 ·exact .inl (.inl h)
 ·by_cases h':b.1 < a.1
  ·exact .inr (.inl h')
  ·rcases this with t | t
   ·exact .inl (.inr ⟨by lia,t⟩)
   ·exact .inr (.inr ⟨by lia,t⟩)
theorem leP_antisymm {a b:Int × PStr} (h:leP a b=true) (g:leP b a=true):a=b:=by
 rw [leP_iff] at *
 have e1:a.1=b.1:=by lia
 have e2:a.2=b.2:=zF2 (h.resolve_left (by lia)).2 (g.resolve_left (by lia)).2
 exact Prod.ext e1 e2
theorem pairs_get {w:World} {F:Fz}:∀ {xs:List PV} {qs:List (Int × PStr)} {vs:List Value},pairsP xs=some qs→RepL w F xs vs→vs.length=qs.length∧∀ (i:Nat) (q:Int × PStr),qs[i]? = some q→∃ v,vs[i]? = some v∧Rep w F (tupP q) v
 | [],qs,vs,h,r=>by unfold RepL at r; subst r; obtain rfl:=Option.some.inj h; exact ⟨rfl,fun i v e=>by simp at e⟩
 | x :: xs,qs,vs,h,r=>by
  unfold RepL at r
  obtain ⟨v,vs,rfl,rx,r⟩:=r
  unfold pairsP at h
  split at h
  ·rename_i e; cases e
  ·rename_i i y rr e
   cases e
   obtain ⟨qs,hs,rfl⟩:=map_eq_some_iff.mp h
   obtain ⟨h1,h2⟩:=pairs_get hs r
   refine ⟨by simp [h1],fun j q e=>?_⟩
   cases j with
   | zero=>obtain rfl:=Option.some.inj e; exact ⟨v,rfl,rx⟩
   | succ j=>simpa using h2 j q (by simpa using e)
  ·exact no h
theorem tup_obj {w:World} {F:Fz} {q:Int × PStr} {v:Value} (r:Rep w F (tupP q) v):∃ T t u n,v = .ref T∧F T=some { cls:=.type "tuple",data:=.seq #[.int q.1 t,.str q.2 u] n }:=by
 unfold tupP Rep at r
 obtain ⟨a,vs,n,rfl,f,rl⟩:=r
 obtain ⟨x,y,e,rx,ry⟩:=two rl
 obtain ⟨t,rfl⟩:=zB9 rx
 obtain ⟨u,rfl⟩:=zB6 ry
 have:vs = #[.int q.1 t,.str q.2 u]:=Array.toList_inj.mp (by rw [e])
 subst this
 exact ⟨a,t,u,n,rfl,f⟩
theorem cmp_pairs (qs:List (Int × PStr)):Cmp (fun i j=>ltP (qs.getD i (0,ofString "")) (qs.getD j (0,ofString ""))) where
 asymm:=fun i j h=>by
  have:=leP_total (qs.getD i (0,ofString "")) (qs.getD j (0,ofString ""))
  rw [or_eq_true] at this
  unfold leP at this
  rcases this with t | t
  ·simpa using t
  ·rw [h] at t; cases t
 trans:=fun i j k h g=>by
  have h':leP (qs.getD i (0,ofString "")) (qs.getD j (0,ofString ""))=true:=by unfold leP; rw [h]; rfl
  have g':leP (qs.getD j (0,ofString "")) (qs.getD k (0,ofString ""))=true:=by unfold leP; rw [g]; rfl
  have:=leP_trans _ _ _ h' g'
  unfold leP at this
  simpa using this
theorem sorted_pairs_ok {C:Cx} {A:Around} {k:Nat} {F:Fz} {s:Shared} {a:Addr} {vs:Array Value} {n:Nat} {xs:List PV} {qs:List (Int × PStr)} (R:Room k A) (I:Inv C s) (hs:F.sub s.heap) (f:s.heap.get? a=some { cls:=.type "list",data:=.seq vs n }) (rl:RepL C.w F xs vs.toList) (hq:pairsP xs=some qs) (h64:qs.length < 64) :
  WP C A (call (.builtin "sorted") [.ref a]) (Post C F s (.list ((sortP qs).map tupP))) s:=by
 obtain ⟨hlen,hget⟩:=pairs_get hq rl
 let d:Int × PStr:=(0,ofString "")
 have at_:∀ i,i < vs.toList.length→∃ T t u m,vs.toList.getD i Value.none = .ref T∧vs.toList[i]? = some (.ref T)∧F T=some { cls:=.type "tuple",data:=.seq #[.int (qs.getD i d).1 t,.str (qs.getD i d).2 u] m }:=fun i hi=>by
  have hi':i < qs.length:=by lia
  obtain ⟨v,e,r⟩:=hget i qs[i] (getElem?_eq_getElem hi')
  obtain ⟨T,t,u,m,rfl,hf⟩:=tup_obj r
  refine ⟨T,t,u,m,?_,e,?_⟩
  ·rw [getD_eq_getElem?_getD,e]; rfl
  ·rw [show qs.getD i d=qs[i] by simp [hi']]; exact hf
 refine sorted_by (κ:=tuples' (Value.type "int" != Value.type "tuple")) (c:=fun i j=>ltP (qs.getD i d) (qs.getD j d)) (vs:=vs.toList) ⟨_,f,rfl,n,by simp⟩ (by lia) (cmp_pairs qs) (fun h2 A' h' k Q hQ=>?_) (fun h2 A' h' k i j Cc hi hj hC=>?_) fun p hp hu=>?_
 ·-- the kind of the keys
  have key:∀ (l:List Value),(∀ v∈l,∃ T i t x u m,v = .ref T∧F T=some { cls:=.type "tuple",data:=.seq #[.int i t,.str x u] m })→∃ fs,KatTups h' l fs∧fs.length=l.length∧∀ y∈fs,∃ i t,y=Value.int i t:=by
   intro l
   induction l with
   | nil=>intro _; exact ⟨[],trivial,rfl,by simp⟩
   | cons v l ih =>
    intro hl
    obtain ⟨fs,h1,h2,h3⟩:=ih fun u hu=>hl u (mem_cons_of_mem _ hu)
    obtain ⟨T,i,t,x,u,m,rfl,hF⟩:=hl v (by simp)
    refine ⟨.int i t :: fs,KatTups.cons (k _ _ (hs _ _ hF)) rfl rfl rfl h1,by simp [h2],fun y hy=>?_⟩
    rcases mem_cons.mp hy with rfl | hy
    ·exact ⟨i,t,rfl⟩
    ·exact h3 y hy
  obtain ⟨fs,h1,h3,h4⟩:=key vs.toList fun v hv=>by
   obtain ⟨i,hi,e⟩:=List.mem_iff_getElem.mp hv
   obtain ⟨T,t,u,m,_,e1,hF⟩:=at_ i hi
   rw [getElem?_eq_getElem hi] at e1
   have e1:=Option.some.inj e1
   exact ⟨T,_,t,_,u,m,by rw [← e,e1],hF⟩
  have:=kat_kind (M:=model PG C.w) (A:=A') (E:=fun _ _=>False) (s:={ s with heap:=h' }) (T:=.type "int") (Q:=Q) h1 (by lia) (fun v hv=>by obtain ⟨i,t,rfl⟩:=h4 v hv; exact Looks.of_pure rfl) (by simp) hQ
  simpa using this
 ·-- one comparison
  obtain ⟨Ti,ti,ui,mi,ei,_,hFi⟩:=at_ i hi
  obtain ⟨Tj,tj,uj,mj,ej,_,hFj⟩:=at_ j hj
  unfold kas_ask
  rw [ei,ej]
  refine kat_lt (k _ _ (hs _ _ hFi)) rfl (k _ _ (hs _ _ hFj)) rfl ?_
  refine kat_cons (wpAny_eqBool_int ?_)
  by_cases e:(qs.getD i d).1=(qs.getD j d).1
  ·rw [show ((qs.getD i d).1 == (qs.getD j d).1)=true by simpa using e]
   refine kat_yes (kat_cons (wpAny_eqBool_str ?_))
   unfold ltP at hC
   rw [if_pos e] at hC
   by_cases e':(qs.getD i d).2=(qs.getD j d).2
   ·rw [decide_eq_true e']
    refine kat_yes (kat_nil ?_)
    rw [e'] at hC
    rw [decide_eq_false (List.lt_irrefl _)] at hC
    have:(decide ((#[Value.int (qs.getD i d).1 ti,Value.str (qs.getD i d).2 ui]:Array Value).size < (#[Value.int (qs.getD j d).1 tj,Value.str (qs.getD j d).2 uj]:Array Value).size))=false:=by simp
    rw [this]; exact hC
   ·rw [decide_eq_false e']
    refine kat_no ?_
    have:((Value.type "int" != Value.type "tuple") && (0 + 1:Nat) == 0)=false:=by simp
    rw [this]
    exact kat_one _ _ (P.lt_str hC)
  ·rw [show ((qs.getD i d).1 == (qs.getD j d).1)=false by simpa using e]
   refine kat_no ?_
   have:((Value.type "int" != Value.type "tuple") && (0:Nat) == 0)=true:=by decide
   rw [this]
   unfold ltP at hC
   rw [if_neg e] at hC
   exact oneLt_int hC
 ·-- the outcome
  obtain ⟨e,he⟩:=sortedAll_at s.heap vs.toList (p.toList.map fun i=>vs.toList.getD i Value.none).toArray
  refine ⟨.of_keep fun b o e=>zE8 e,I.of_keep (fun b o e=>zE8 e) I.gens rfl rfl,?_⟩
  unfold Rep
  refine ⟨s.heap.objs.size + 1,_,e,rfl,zE7 ?_ he,?_⟩
  ·cases q:s.heap.get? (s.heap.objs.size + 1) with
   | none=>rfl
   | some o=>exact absurd (lt_size q) (Nat.not_lt.mpr (le_succ _))
  ·have hperm:p.toList.Perm (range qs.length):=by have:=hp; unfold IsP at this; rwa [hlen] at this
   have hs1:p.toList.map (fun i=>qs.getD i d)=sortP qs:=by
    refine List.Perm.eq_of_pairwise (le:=fun a b=>leP a b=true) (fun a b _ _=>leP_antisymm) ?_ (List.pairwise_mergeSort leP_trans leP_total qs) ?_
    ·rw [List.pairwise_iff_getElem]
     intro i j hi hj hij
     have hi':i < p.size:=by simpa using hi
     have hj':j < p.size:=by simpa using hj
     have:=hu i j hij (by have:=hp.size; lia)
     simp only [Array.getD,hi',hj',dite_true] at this
     simp only [List.getElem_map,Array.getElem_toList]
     unfold leP
     have e:ltP (qs.getD p[j] d) (qs.getD p[i] d)=false:=by simpa using this
     rw [e]; rfl
    ·have h1:=hperm.map (fun i=>qs.getD i d)
     have h2:(range qs.length).map (fun i=>qs.getD i d)=qs:=by
      apply List.ext_getElem (by simp)
      intro i h1 h2
      simp [h2]
     rw [h2] at h1
     exact h1.trans (List.mergeSort_perm qs leP).symm
   rw [← hs1,map_map]
   have hmem:∀ i∈p.toList,i < qs.length:=fun i hi=>mem_range.mp (hperm.mem_iff.mp hi)
   have gen:∀ l:List Nat,(∀ i∈l,i < qs.length)→RepL C.w (F.ext s { s with heap:=sortedAll s.heap vs.toList (p.toList.map fun i=>vs.toList.getD i Value.none).toArray }) (l.map (tupP ∘ fun i=>qs.getD i d)) (l.map fun i=>vs.toList.getD i Value.none):=by
    intro l
    induction l with
    | nil=>intro _; exact RepL.nil
    | cons i l ih =>
     intro hl
     have hi:=hl i (by simp)
     refine RepL.cons ?_ (ih fun j hj=>hl j (mem_cons_of_mem _ hj))
     obtain ⟨v,e,r⟩:=hget i qs[i] (getElem?_eq_getElem hi)
     have e2:vs.toList.getD i Value.none=v:=by rw [getD_eq_getElem?_getD,e]; rfl
     show Rep C.w _ (tupP (qs.getD i d)) (vs.toList.getD i Value.none)
     rw [e2,show qs.getD i d=qs[i] by simp [hi]]
     exact Rep.mono (Fz.le_ext hs) r
   simpa using gen p.toList hmem
noncomputable def sortedPV:List PV→Option PV
 | [.list xs]=>match strsOf xs with
  | some ss=>if ss.length < 64 then some (.list ((sortS ss).map .str)) else none
  | none=>(pairsP xs).bind fun qs=>if qs.length < 64 then some (.list ((sortP qs).map tupP)) else none
 | _=>none
theorem b_sorted {k:Nat}:BSound k (.builtin "sorted") sortedPV:=by
 intro C A F s ps p vs R I hs hT r h
 unfold sortedPV at h
 split at h
 ·rename_i xs
  obtain ⟨v,rfl,ra⟩:=one r
  unfold Rep at ra
  obtain ⟨a,us,n,rfl,f,rl⟩:=ra
  split at h
  ·rename_i ss hss
   obtain ⟨hz,rfl⟩:=zG0 h
   exact sorted_strs_ok R I hs (hs _ _ f) rl hss hz
  ·obtain ⟨qs,hq,h⟩:=bind_eq_some_iff.mp h
   obtain ⟨hz,rfl⟩:=zG0 h
   exact sorted_pairs_ok R I hs (hs _ _ f) rl hq hz
 ·exact no h
theorem zM6 {k:Nat} {sc:Scope} {p₁ pos:Pos} {e:Expr} {es:List Expr} {fs:Lc→Option (List PV)} (hx:sc.names.lookup (ofString "sorted")=some .globalImplicit) (hst:(e :: es).all notStar=true) (H:WEs k sc (e :: es) fs):WE k sc (.Call (.Name (ofString "sorted") p₁) (e :: es) [] pos) (fun l=>(fs l).bind sortedPV):=⟨zH5 b_sorted gv_sorted hx (zD2 hst) H.h⟩
theorem n_edict {k:Nat} {sc:Scope} {pos:Pos}:SoundN k sc (.Dict [] [] pos) (cK (.dict [] [])):=by
 intro C A env F l s p R S h
 cases h
 refine wpAny_Dict_empty ⟨zK7 s _,zK6 S.inv _,s.heap.objs.size,_,F,rfl,zB5 _,get?_push_size _ rfl,?_,?_,S.off,fun _ _=>rfl,⟨#[],_,rfl,trivial,RepL.nil⟩⟩
 ·cases q:F s.heap.objs.size with
  | none=>rfl
  | some o=>have:=S.sub _ _ q; rw [zB5] at this; exact no this
 ·exact fun b o e=>get?_push_of_some _ (S.sub b o e)
theorem wn_edict {k:Nat} {sc:Scope} {pos:Pos}:WN k sc (.Dict [] [] pos) (cK (.dict [] [])):=⟨n_edict⟩
noncomputable def flatP:PV→Bool
 | .int _=>true
 | .str _=>true
 | .bool _=>true
 | .none=>true
 | _=>false
noncomputable def flatT:PV→Bool
 | .tup xs=>xs.all flatP
 | p=>flatP p
theorem flat_rep {w:World} {F G:Fz} {p:PV} {v:Value} (h:flatP p=true) (r:Rep w F p v):Rep w G p v:=by
 cases p <;> first | (cases h; done) | (unfold Rep at r ⊢; exact r)
theorem zN7 {w:World} {F G:Fz}:∀ {xs:List PV} {vs:List Value},xs.all flatP=true→RepL w F xs vs→RepL w G xs vs
 | [],_,_,r=>by unfold RepL at r ⊢; exact r
 | x :: xs,_,h,r=>by
  unfold RepL at r
  obtain ⟨v,t,rfl,a,b⟩:=r
  rw [all_cons,and_eq_true] at h
  exact RepL.cons (flat_rep h.1 a) (zN7 h.2 b)
theorem st_lend {k:Nat} {sc:Scope} {elts:List Expr} {n:Nat} {tpos pos:Pos} {e:Expr} {g:PV→Option Lc} {f:Lc→Option PV} (H:SoundE k sc e f) (T:SoundG k sc (.Tuple elts n tpos) g)
  (hsw:∀ env,swapsWithSole [.Tuple elts n tpos] e pos.line env=pure false) (hw:∀ env,swappedStores [.Tuple elts n tpos] e env=pure none):SoundS k sc (.Assign [.Tuple elts n tpos] e pos) (fun l=>(f (freeze l)).bind fun p=>if flatT p=true then (g p).map fun t=>.go (t ++ l) else none):=by
 intro C A env s₀ F₀ F K l s o R S h
 obtain ⟨p,hp,h⟩:=bind_eq_some_iff.mp h
 split at h
 ·rename_i hfl
  obtain ⟨t,ht,rfl⟩:=map_eq_some_iff.mp h
  obtain ⟨F',X,le,hF⟩:=S.frozen
  refine Assign_Tuple ((H C A env F' _ s p R X hp).mono fun v s₁ P=>?_) (hsw env) (hw env)
  obtain ⟨S₁,g₁⟩:=S.step P.1 P.2
  have r:Rep C.w (F.ext s s₁) p v:=by
   cases p with
   | tup xs =>
    have r:=P.3
    unfold Rep at r ⊢
    obtain ⟨a,vs,m,e,fa,rl⟩:=r
    refine ⟨a,vs,m,e,?_,zN7 hfl rl⟩
    unfold Fz.ext at fa ⊢
    by_cases lv:(s.heap.get? a).isSome=true
    ·rw [if_pos lv] at fa ⊢
     rcases hF a _ fa with h | ⟨_,h | h | h⟩
     ·exact h
     ·injection h with h; exact absurd h (by decide)
     ·injection h with h; exact absurd h (by decide)
     ·injection h with h; exact absurd h (by decide)
    ·rw [if_neg lv] at fa ⊢; exact fa
   | _=>exact flat_rep hfl P.3
  exact (T C A env s₀ F₀ _ _ l s₁ p v t R S₁ r ht).mono fun _ s₂ ⟨F₂,K₂,S₂,g₂⟩=>⟨rfl,F₂,K₂,S₂,g₁.trans g₂⟩
 ·exact no h
theorem ws_lend {k:Nat} {sc:Scope} {es:List Expr} {n:Nat} {p₁ pos:Pos} {e:Expr} {gg:PV→Option Lc} {f:Lc→Option PV} (H:WE k sc e f) (T:WG k sc (.Tuple es n p₁) gg) (hsw:∀ env,swapsWithSole [.Tuple es n p₁] e pos.line env=pure false) (hw:∀ env,swappedStores [.Tuple es n p₁] e env=pure none) :
  WS k sc (.Assign [.Tuple es n p₁] e pos) (fun l=>(f (freeze l)).bind fun p=>if flatT p=true then (gg p).map fun t=>.go (t ++ l) else none):=⟨st_lend H.h T.h hsw hw⟩
theorem m_startswith:StrMeth (ofString "startswith") "str.startswith":=⟨PySem.F.slot_str_startswith,PySem.F.type_str_startswith⟩
theorem m_endswith:StrMeth (ofString "endswith") "str.endswith":=⟨PySem.F.slot_str_endswith,PySem.F.type_str_endswith⟩
theorem m_rfind:StrMeth (ofString "rfind") "str.rfind":=⟨PySem.F.slot_str_rfind,PySem.F.type_str_rfind⟩
theorem m_rstrip:StrMeth (ofString "rstrip") "str.rstrip":=⟨PySem.F.slot_str_rstrip,PySem.F.type_str_rstrip⟩
theorem m_join:StrMeth (ofString "join") "str.join":=⟨PySem.F.slot_str_join,PySem.F.type_str_join⟩
theorem m_split:StrMeth (ofString "split") "str.split":=⟨PySem.F.slot_str_split,PySem.F.type_str_split⟩
section
variable {prog:Program} {w:World} {A:Around} {E:Value→Shared→Prop} {s:Shared}
theorem nested_str {dep:Int} {tk:Tok} {Q:Fin→Shared→Prop} (hq:Q (.done (.ret (.bool true))) s) :
  wpAny (model prog w) A (Builtin.«issubclass.nested» ⟨[.type "str",.type "str",.int dep tk],[]⟩) Q E s:=by
 have hm:=F.isi_meta_str
 have hs:=F.sub_str_str
 repeat (any_goals (first | assumption | (rw [if_pos hm]) | (rw [hs]) | wp_step))
theorem sub_tuple {T:Addr} {n:Nat} {R:Result→Shared→Prop} (hT:s.heap.get? T=some { cls:=.type "tuple",data:=.seq #[.type "str",.type "bytes"] n }) (hR:R (.ok (.ret (.bool true))) s) :
  wpAny (model prog w) A.in1 (Builtin.«issubclass» ⟨[.type "str",.ref T],[]⟩)
   (fun fin s'=>match fin with | .done f=>R (.ok f) s' | .again c'=>c'.quiet=true∧codeAny (model prog w) A c' R s') (fun e s'=>R (.error e) s') s:=by
 refine issubclass_outer ?_
 have ht:s.TypeIs (.ref T) "tuple":=⟨_,hT,rfl⟩
 have hs:=F.sub_tuple_tuple
 repeat (any_goals (first | assumption | (rw [hs]) | wp_step))
 have hk:builtinKind "issubclass.nested" = none:=by decide +kernel
 have hp:plainId "issubclass.nested" = true:=by decide +kernel
 have hcb:checkBuiltinCall "issubclass.nested" ⟨[.type "str",.type "str",rawInt (0 + 1)],[]⟩=pure ():=by simp only [checkBuiltinCall,hk]; kernel_rfl
 refine codeAny_call_builtin hp F.entry_issubclass_nested ?_
 refine (show wpAny _ _ (checkBuiltinCall "issubclass.nested" ⟨[.type "str",.type "str",rawInt (0 + 1)],[]⟩) _ _ _ from ?_)
 rw [hcb]
 refine wpAny_pure (nested_str ?_)
 repeat (any_goals (first | assumption | wp_step))
end
theorem gv_isinstance:GV (ofString "isinstance") (.builtin "isinstance"):=.b ⟨fun P=>rfl,rfl,by decide,rfl⟩
theorem gv_bytes:GV (ofString "bytes") (.type "bytes"):=.b ⟨fun P=>rfl,rfl,by decide,rfl⟩
noncomputable def noB (p:PV):Option PV:=p.toStr.bind fun _=>some (.bool false)
theorem s_isbytes {k:Nat} {sc:Scope} {np1 np2 cp:Pos} {e:Expr} {f:Lc→Option PV} (H:SoundE k sc e f) (hst:notStar e=true)
  (hx1:sc.names.lookup (ofString "isinstance")=some .globalImplicit) (hx2:sc.names.lookup (ofString "bytes")=some .globalImplicit) :
  SoundE k sc (.Call (.Name (ofString "isinstance") np1) [e,.Name (ofString "bytes") np2] [] cp) (fun l=>(f l).bind noB):=by
 intro C A env F l s p R S h
 refine zB1 h fun q hq h=>zB1 h fun x e' h=>?_
 obtain rfl:=PV.toStr_inv e'
 obtain rfl:=Option.some.inj h
 have St1:Stars [e,.Name (ofString "bytes") np2]:=zD2 (by rw [all_cons,hst]; rfl)
 show WP C A (do callWith cp (← eval (.Name (ofString "isinstance") np1) env) [] (backTo cp (starEach _ env)) (backToKw cp (keywordEach [] env))) _ s
 refine wpAny_bind (zC6 S.ok S.inv gv_isinstance hx1 ?_)
 refine callWith_builtin (zC1 St1) ?_
 rw [St1 env]
 refine evalArgs_plain (spliced_cons (H.use R S hq fun v s₁ X₁ S₁ r₁=>spliced_cons (zC6 S₁.ok S₁.inv gv_bytes hx2 (spliced_nil ?_))))
 obtain ⟨t,rfl⟩:=zB6 r₁
 exact IsiPair.str_bytes (Post.lift S.inv X₁ (Post.bool S₁.inv _))
theorem gv_strT:GV (ofString "str") (.type "str"):=.b ⟨fun P=>rfl,by decide +kernel,by decide +kernel,by decide +kernel⟩
theorem gv_type:GV (ofString "type") (.type "type"):=.b ⟨fun P=>rfl,by decide +kernel,by decide +kernel,by decide +kernel⟩
theorem gv_issubclass:GV (ofString "issubclass") (.builtin "issubclass"):=.b ⟨fun P=>rfl,by decide +kernel,by decide +kernel,by decide +kernel⟩
structure Body (C:Cx) (sc:Scope) (env:Env) (s:Shared) (m:PStr→Option Value) (s₁:Shared):Prop where
 scope:env.scope=sc
 glob:env.globals=mainGlobals
 bt:env.builtins=builtinsNs
 inv:Inv C s₁
 ns:s₁.heap.Ns env.locals m
 keep:∀ b o,s.heap.get? b=some o→s₁.heap.get? b=some o
 new:s.heap.get? env.locals=none
 same:∃ h tk,s₁={ s with heap:=h,toks:=tk }
theorem enter_raw {k:Nat} {a:Addr} {fd:FuncData} {sc:Scope} {body:List Stmt} (D:FnData a fd sc body) {xs:List PStr} (hx:∀ x∈xs,sc.names.lookup x=some .local)
  {C:Cx} {A:Around} {s:Shared} {vals:List Value} (R:Room (k + 1) A) (I:Inv C s) (hbind:Looks (model PG C.w) s.heap (bindArgs fd ⟨vals,[]⟩) (xs.zip vals)) {Q:Value→Shared→Prop}
  (h:∀ env s₁,Room k (A.deeper env)→Body C sc env s (bindL (fun y=>sc.names.lookup y) (xs.zip vals) fun _=>none) s₁→WP C (A.deeper env) (execs body env) (fun f s'=>Q (match f with | .ret v=>v | _=>.none) s') s₁) :
  WP C A (call (.ref a) vals) Q s:=by
 obtain ⟨o,ho,hd⟩:=D.at_ C.w.params
 obtain ⟨c,oc,cvs,t,hc,hoc,hdc,hv⟩:=D.code C.w.params
 refine wpAny_call (codeAny_call_function R.dep (I.K a o ho) hd D.co D.gen D.body ⟨c,oc,cvs,t,hc,I.K c oc hoc,hdc,hv⟩ ?_)
 rw [D.clo]
 refine hbind.here ?_
 refine wpAny_newFunctionEnv_cells D.kind (fun y hy=>?_) fun env he s₁ x=>?_
 ·have hy1:y.1∈xs:=(List.of_mem_zip (a:=y.1) (b:=y.2) hy).1
  rw [D.scope]; exact .inl (hx y.1 hy1)
 ·have he':env=callEnvC fd s.heap.objs.size a:=he
  subst he'
  have R':Room k (A.deeper (callEnvC fd s.heap.objs.size a)):=⟨R.handled,by have:=R.depth; show A.depth + 1 + _≤_; lia,by have:=R.units; show A.units + 3 + _≤_; lia⟩
  obtain ⟨h₁,tk,he⟩:=x.toInCall.same
  have hkd:(callEnvC fd s.heap.objs.size a).kindOf=fun y=>sc.names.lookup y:=funext fun y=>by show fd.scope.names.lookup y=_; rw [D.scope]
  have hns:=x.toInCall.ns
  rw [hkd] at hns
  exact ⟨I.lim.keeps x.toInCall.keep,codeAny_func (wpAny_mono (h _ s₁ R' ⟨D.scope,D.glob,D.bt,I.of_keep x.toInCall.keep (by rw [he]; exact I.gens) (by rw [he]) (by rw [he]),hns,x.toInCall.keep,zB5 _,h₁,tk,he⟩) (fun f s' h'=>h') fun _ _ f=>f.elim)⟩
theorem Body.name {C:Cx} {sc:Scope} {env:Env} {s s₁:Shared} {m:PStr→Option Value} {A:Around} (B:Body C sc env s m s₁) {x:PStr} {pos:Pos} {v:Value} {Q:Value→Shared→Prop} (hk:sc.kind = .function) (hx:sc.names.lookup x=some .local) (hd:(x == ("__debug__":PySem.Str))=false) (hm:m x=some v) (h:Q v s₁) :
  WP C A (eval (.Name x pos) env) Q s₁ :=
 wpAny_Name (wpAny_loadName_local (by rw [B.scope]; exact hk) (show env.scope.names.lookup x=_ by rw [B.scope]; exact hx) B.ns hm h) hd
theorem Body.step {C:Cx} {sc:Scope} {env:Env} {s s₁:Shared} {m:PStr→Option Value} (B:Body C sc env s m s₁) {h':Heap} (tk:Nat) (hk:∀ b o,s₁.heap.get? b=some o→h'.get? b=some o):Body C sc env s m { s₁ with heap:=h',toks:=tk } :=
 ⟨B.scope,B.glob,B.bt,B.inv.of_keep hk B.inv.gens rfl rfl,B.ns.keeps hk,fun b o e=>hk b o (B.keep b o e),B.new,by obtain ⟨h,t,rfl⟩:=B.same; exact ⟨h',tk,rfl⟩⟩
theorem Body.store {C:Cx} {sc:Scope} {env:Env} {s s₁:Shared} {m:PStr→Option Value} {A:Around} (B:Body C sc env s m s₁) (I₀:Inv C s) {x:PStr} {v:Value} {Q:Unit→Shared→Prop} (hk:sc.kind = .function) (hx:sc.names.lookup x=some .local)
  (h:∀ h' tk,SameBut env.locals s₁.heap h'→Body C sc env s (fun y=>if y=x then some v else m y) { s₁ with heap:=h',toks:=tk }→Q () { s₁ with heap:=h',toks:=tk }):WP C A (storeName env x v) Q s₁:=by
 refine wpAny_storeName_local (show env.scope.names.lookup x=_ by rw [B.scope]; exact hx) B.ns (fun h' hn' hs'=>h h' _ hs' ⟨B.scope,B.glob,B.bt,B.inv.off I₀ _ fun b o lv e=>?_,hn',fun b o e=>?_,B.new,?_⟩) (by rw [B.scope,hk]; rfl)
 ·exact (hs'.2 b fun q=>by rw [q,B.new] at lv; exact bno rfl lv).trans e
 ·exact (hs'.2 b fun q=>by rw [q,B.new] at e; exact no e).trans (B.keep b o e)
 ·obtain ⟨h₁,t₁,rfl⟩:=B.same; exact ⟨h',_,rfl⟩
theorem Body.live {C:Cx} {sc:Scope} {env:Env} {s s₁:Shared} {m:PStr→Option Value} (B:Body C sc env s m s₁):∃ o,s₁.heap.get? env.locals=some o:=let ⟨o,_,_,ho,_⟩:=B.ns; ⟨o,ho⟩
theorem typeof_raw {C:Cx} {A:Around} {sc:Scope} {env:Env} {s:Shared} {e:Expr} {np pos:Pos} {Q:Value→Shared→Prop} (O:EnvOK sc env) (I:Inv C s) (hx:sc.names.lookup (ofString "type")=some .globalImplicit) (hst:notStar e=true)
  (h:WP C A (eval e env) (fun v s'=>WP C A (call (.type "type") [v]) Q s') s):WP C A (eval (.Call (.Name (ofString "type") np) [e] [] pos) env) Q s:=by
 have St:Stars [e]:=zD2 (by rw [all_cons,hst]; rfl)
 show WP C A (do callWith pos (← eval (.Name _ np) env) [] (backTo pos (starEach [e] env)) (backToKw pos (keywordEach [] env))) _ s
 refine wpAny_bind (zC6 O I gv_type hx ?_)
 rw [St env]
 exact callWith_type1 h
theorem issub_raw {C:Cx} {A:Around} {sc:Scope} {env:Env} {s:Shared} {e₁ e₂:Expr} {np pos:Pos} {Q:Value→Shared→Prop} (O:EnvOK sc env) (I:Inv C s) (hx:sc.names.lookup (ofString "issubclass")=some .globalImplicit) (hst:[e₁,e₂].all notStar=true)
  (h:WP C A (eval e₁ env) (fun v s'=>WP C A (eval e₂ env) (fun u s''=>WP C A (call (.builtin "issubclass") [v,u]) Q s'') s') s):WP C A (eval (.Call (.Name (ofString "issubclass") np) [e₁,e₂] [] pos) env) Q s:=by
 have St:Stars [e₁,e₂]:=zD2 hst
 show WP C A (do callWith pos (← eval (.Name _ np) env) [] (backTo pos (starEach [e₁,e₂] env)) (backToKw pos (keywordEach [] env))) _ s
 refine wpAny_bind (zC6 O I gv_issubclass hx ?_)
 refine callWith_builtin (zC1 St) ?_
 rw [St env]
 exact evalArgs_plain (spliced_cons (WP.mono h fun v s' q=>spliced_cons (WP.mono q fun u s'' q'=>spliced_nil q')))
theorem fspath_full {C:Cx} {A:Around} {s:Shared} {x:PStr} {t:Tok} {Q:Value→Shared→Prop} (R:Room 1 A) (I:Inv C s) (hQ:∀ h' tk,(∀ b o,s.heap.get? b=some o→h'.get? b=some o)→Q (.str x t) { s with heap:=h',toks:=tk }):WP C A (call (.ref 177) [.str x t]) Q s:=by
 refine enter_raw (k:=0) (xs:=[ofString "path"]) ⟨fun P=>⟨_,rfl,rfl⟩,rfl,rfl,rfl,rfl,rfl,fun P=>⟨_,_,_,_,rfl,rfl,rfl,rfl⟩,rfl,rfl,rfl⟩ ?hx R I ?hb fun env s₁ R' B=>?_
 case hx=>intro y hy; rw [mem_singleton.mp hy]; rfl
 case hb=>exact Looks.of_pure rfl
 have O:EnvOK _ env:=⟨B.scope,rfl,B.glob,B.bt,fun y h=>by
  have h:env.scope.names.lookup y=some .cell:=h
  rw [B.scope] at h
  have:=zD0 h
  simp at this⟩
 refine wpAny_execs_cons (wpAny_Assign_Name ?_ ?hsw)
 case hsw=>rfl
 refine typeof_raw O B.inv rfl rfl (B.name rfl rfl rfl rfl (call_type_of (typeIs_str _ _ _) (by decide +kernel) ?_))
 refine B.store I rfl rfl fun h₂ t₂ hs₂ B₂=>?_
 refine wpAny_execs_cons (wpAny_If (wpAny_isTrue_value ?_ rfl))
 refine issub_raw O B₂.inv rfl rfl (B₂.name rfl rfl rfl rfl (PyProof.Rows.Tuple_ (spliced_cons (zC6 O B₂.inv gv_strT rfl (spliced_cons (zC6 O B₂.inv gv_bytes rfl (spliced_nil ?_)))))))
 refine wpAny_newObj_type ?_
 have B₃:=B₂.step (h':=h₂.push { cls:=.type "tuple",data:=.seq #[.type "str",.type "bytes"] }) t₂ fun b o e=>get?_push_of_some _ e
 refine call_issubclass (S:=fun _ R s=>s.heap.get? h₂.objs.size=some { cls:=.type "tuple",data:=.seq #[.type "str",.type "bytes"] }∧R (.ok (.ret (.bool true))) s) (fun _ _ _ _ _ h=>sub_tuple h.1 h.2) ⟨get?_push_size _ rfl,?_⟩
 refine wpAny_truthy_bool ?_
 refine wpAny_execs_cons (wpAny_Return_some (B₃.name rfl rfl rfl rfl ?_))
 obtain ⟨h₁,t₁,e₁⟩:=id B.same
 subst e₁
 exact hQ _ _ B₃.keep
theorem w_isb {k:Nat} {sc:Scope} {p₁ p₂ pos:Pos} {e:Expr} {f:Lc→Option PV} (H:WE k sc e f) (hst:notStar e=true) (hx1:sc.names.lookup (ofString "isinstance")=some .globalImplicit) (hx2:sc.names.lookup (ofString "bytes")=some .globalImplicit) :
  WE k sc (.Call (.Name (ofString "isinstance") p₁) [e,.Name (ofString "bytes") p₂] [] pos) (fun l=>(f l).bind noB):=⟨s_isbytes H.h hst hx1 hx2⟩
theorem wb_non {k:Nat} {sc:Scope} {s:List Stmt}:WB k sc s (fun _=>none):=⟨fun C A env s₀ F₀ F K l s o R S h=>by exact no h⟩
noncomputable def idPV:List PV→Option PV:=args1 fun p=>p.toStr.bind fun x=>some (.str x)
noncomputable def sepPV:List PV→Option PV:=args1 fun p=>p.toStr.bind fun _=>some (.str (ofString "/"))
theorem f_fspath {k:Nat}:FnSound k 177 idPV:=by
 intro C A F s ps p vs R I hs hT r h
 refine zD6 h fun a e h=>zB1 h fun x e' h2=>?_
 obtain rfl:=e
 obtain rfl:=PV.toStr_inv e'
 obtain rfl:=Option.some.inj h2
 refine rep1 r fun v e ra=>?_
 subst e
 obtain ⟨t,rfl⟩:=zB6 ra
 exact fspath_full (R.le (Nat.succ_le_succ (zero_le _))) I fun h' tk hk=>⟨.of_keep hk,I.of_keep hk I.gens rfl rfl,zJ6⟩
theorem f_getsep {k:Nat}:FnSound k 191 sepPV:=by
 apply fn_w [ofString "path"]
 case hat=>exact fun P=>⟨_,rfl,rfl⟩
 case hcode=>exact fun P=>⟨_,_,_,_,rfl,rfl,rfl,rfl⟩
 case hsc=>rfl
 case hxs=>rfl
 case hbind=>exact bind1 (fun _=>rfl)
 case B=>exact (zA1 (zO3 (zL3 (w_isb (zA2 (.inl rfl) rfl) rfl rfl rfl) fun _ _=>rfl) wb_non (zA1 (zD9 zE5) zA8)) zA8)
 case hφ =>
  intro ps p h
  refine zD6 h fun a e h=>zB1 h fun x e' h2=>?_
  obtain rfl:=e
  obtain rfl:=PV.toStr_inv e'
  obtain rfl:=Option.some.inj h2
  rfl
theorem zA6 {n:Nat} (h:n≤1000000):n≤sizeLine:=by rw [sizeLine_eq]; lia
theorem zL8 (x y:PStr):(x ++ y).length=x.length + y.length:=by
 show (x.cps ++ y.cps).size=_
 simp [PySem.Str.length]
section
variable {prog:Program} {w:World} {A:Around} {E:Value→Shared→Prop} {s:Shared}
theorem nextOf_tuple_item {it t:Addr} {i:Nat} {items} {x:Value} {Q:Value→Shared→Prop} (hit:s.heap.IsTupleIter it t i) (ht:s.heap.IsTuple t items) (hx:items[i]? = some x)
  (hQ:∀ h',h'.IsTupleIter it t (i + 1)→SameBut it s.heap h'→Q x { s with heap:=h' }):wpAny (model prog w) A (Builtin.SmallTypes.nextOf (.ref it)) Q E s:=by
 obtain ⟨o,ho,hc,hd⟩:=id hit
 obtain ⟨ol,hol,_,nl,hdl⟩:=ht
 unfold Builtin.SmallTypes.nextOf
 refine wpAny_bind (wpAny_callSpecial?_slot (name:=Str.ofString "__next__") hit.typeIs PySem.F.slot_tuple_iterator_next
  (wpAny_call_entry PySem.F.slot_tuple_iterator_next hit.typeIs PySem.F.entry_tuple_iterator_next ?_ (PySem.F.args_tuple_iterator_next_1 _)))
 show wpAny _ _ (field (.ref it) 0 >>= _) _ _ s
 refine wpAny_bind (wpAny_field ho hd (x:=.ref t) rfl ?_)
 show wpAny _ _ (if (Value.ref t == Value.none)=true then _ else _) _ _ s
 rw [if_neg (show ¬ ((Value.ref t == Value.none)=true) from Bool.false_ne_true)]
 show wpAny _ _ (field (.ref it) 1 >>= _) _ _ s
 refine wpAny_bind (wpAny_field ho hd (x:=.int i 0) rfl ?_)
 show wpAny _ _ (seqItems? (.ref t) >>= _) _ _ s
 refine wpAny_bind (wpAny_seqItems hol hdl ?_)
 simp only [Int.toNat_natCast,hx]
 refine wpAny_bind (wpAny_setField ho hd (by simp) (wpAny_pure ⟨x,rfl,wpAny_pure (hQ _ ?_ (SameBut.update ..))⟩))
 exact ⟨_,get?_update_self _ ho (Obj.isFreed_of_fields (Obj.data_mapFields hd _)),(Obj.cls_mapFields ..).trans hc,by
  rw [Obj.data_mapFields hd]; simp -iota [rawInt]⟩
theorem nextOf_tuple_end {it t:Addr} {i:Nat} {items} {Q:Value→Shared→Prop} (hh:A.handled=none) (hit:s.heap.IsTupleIter it t i) (ht:s.heap.IsTuple t items) (hx:items[i]? = none)
  (hE:∀ h' e,ExtBut it s.heap h'→(∃ o,h'.get? e=some o∧o.cls = .type "StopIteration")→E (.ref e) { s with heap:=h' }):wpAny (model prog w) A (Builtin.SmallTypes.nextOf (.ref it)) Q E s:=by
 obtain ⟨o,ho,hc,hd⟩:=id hit
 obtain ⟨ol,hol,_,nl,hdl⟩:=ht
 unfold Builtin.SmallTypes.nextOf
 refine wpAny_bind (wpAny_callSpecial?_slot (name:=Str.ofString "__next__") hit.typeIs PySem.F.slot_tuple_iterator_next
  (wpAny_call_entry PySem.F.slot_tuple_iterator_next hit.typeIs PySem.F.entry_tuple_iterator_next ?_ (PySem.F.args_tuple_iterator_next_1 _)))
 show wpAny _ _ (field (.ref it) 0 >>= _) _ _ s
 refine wpAny_bind (wpAny_field ho hd (x:=.ref t) rfl ?_)
 show wpAny _ _ (if (Value.ref t == Value.none)=true then _ else _) _ _ s
 rw [if_neg (show ¬ ((Value.ref t == Value.none)=true) from Bool.false_ne_true)]
 show wpAny _ _ (field (.ref it) 1 >>= _) _ _ s
 refine wpAny_bind (wpAny_field ho hd (x:=.int i 0) rfl ?_)
 show wpAny _ _ (seqItems? (.ref t) >>= _) _ _ s
 refine wpAny_bind (wpAny_seqItems hol hdl ?_)
 simp only [Int.toNat_natCast,hx]
 refine wpAny_bind (wpAny_rule (wpAny_bind (wpAny_setField ho hd (by simp) ?_)))
 show wpAny _ _ (newExc (.type "StopIteration") [] >>= _) _ _ _
 refine wpAny_bind ?_
 simp -iota only [newExc,newTuple]
 refine wpAny_bind (wpAny_newObj_type ?_ (by size_fits))
 refine wpAny_bind (m:=firstArgMember _ _) (wpAny_of_eq (a:=Value.none) (by first | rfl | (simp -iota only [firstArgMember]; rfl)) ?_)
 refine wpAny_newObj_type ?_ (by size_fits)
 simp -iota only [raiseNew]
 refine wpAny_bind (wpAny_handled ?_)
 first | rw [show A.in1.handled=none from hh] | rw [hh]
 refine wpAny_bind (wpAny_pure (wpAny_throw ?_))
 exact hE _ _ (((SameBut.update ..).extBut.push _).push _) ⟨_,get?_push_size _ rfl,rfl⟩
end
theorem draws_tuple {prog:Program} {w:World} {A:Around} (hh:A.handled=none) (it l:Addr) (hne:l≠it) (items:Array Value) :
  Draws prog w A it [it,l] items.size (fun i v=>items[i]? = some v) (fun i h=>h.IsTupleIter it l i∧h.IsTuple l items) where
 live:=fun _ _ st=>let ⟨o,ho,_⟩:=st.1; ⟨o,ho⟩
 frame:=fun _ _ _ st hk=>⟨st.1.at fun o e=>hk it (by simp -iota) o e,st.2.at fun o e=>hk l (by simp -iota) o e⟩
 item:=fun i s Q E hi st hQ=>by
  refine nextOf_tuple_item st.1 st.2 (x:=items[i]) (by simp -iota [hi]) fun h' hit' hs'=>?_
  exact hQ _ h' s.toks (by simp -iota [hi]) ⟨hit',st.2.extBut hs'.extBut hne⟩ hs'
 done:=fun s Q E st hE=>nextOf_tuple_end hh st.1 st.2 (by simp -iota) hE
theorem meets_enum_tuple (l:Addr) (items:Array Value) (n:Nat) :
  Meets (Builtin.«enumerate.__new__» ⟨[.type "enumerate",.ref l],[]⟩) (fun _ R s=>s.heap.get? l=some { cls:=.type "tuple",dict:=none,data:=.seq items n,slots:=#[] } ∧
   R (.ok (.ret (.ref (s.heap.push { cls:=.type "tuple_iterator",data:=.fields #[.ref l,.int 0 0] }).objs.size)))
    { s with heap:=(s.heap.push { cls:=.type "tuple_iterator",data:=.fields #[.ref l,.int 0 0] }).push { cls:=.type "enumerate",data:=.fields #[.none,.bool false,.ref s.heap.objs.size,rawInt 0,.none,.none] } }) :=
 .of_wp fun prog w A R s h=>by
  obtain ⟨hp,g,d,tk,os⟩:=s; obtain ⟨hl,h⟩:=h
  have hsub:=sub_enumerate
  have hL:Heap.IsTuple (Shared.heap ⟨hp,g,d,tk,os⟩) l items:=⟨_,hl,rfl,n,rfl⟩
  wp_walk using AutoSeq1.wpAny_loadPart' hl
  refine wpAny_stack_any fun st=>wpAny_pure ?_
  split
  ·rename_i c _ _ _ _ _
   cases (c == Value.type "enumerate")
   ·wp_walk using AutoSeq1.wpAny_loadPart' hl,wpAny_pyIter_tuple hL
    exact ⟨_,rfl,h⟩
   ·wp_walk using AutoSeq1.wpAny_loadPart' hl,wpAny_pyIter_tuple hL
    exact ⟨_,rfl,h⟩
  ·wp_walk using AutoSeq1.wpAny_loadPart' hl,wpAny_pyIter_tuple hL
   exact ⟨_,rfl,h⟩
theorem call_enum_tuple {prog:Program} {w:World} {A:Around} {E:Value→Shared→Prop} {s:Shared} {l:Addr} {items:Array Value} {n:Nat} {Q:Value→Shared→Prop} (hl:s.heap.get? l=some { cls:=.type "tuple",dict:=none,data:=.seq items n,slots:=#[] })
  (h:∀ h',IsEnum h' (s.heap.objs.size + 1) s.heap.objs.size 0 .none→h'.IsTupleIter s.heap.objs.size l 0→h'.objs.size=s.heap.objs.size + 2 →
   (∀ b o,s.heap.get? b=some o→h'.get? b=some o)→Q (.ref (s.heap.objs.size + 1)) { s with heap:=h' }) :
  wpAny (model prog w) A (call (.type "enumerate") [.ref l]) Q E s:=by
 refine callType_new PySem.F.called_enumerate (by decide) (PySem.F.typeCall_enumerate_1 _) (PySem.F.newCall_enumerate_1 _) (fun obj=>PySem.F.args_object_init_2 obj _) PySem.F.entry_enumerate_new
  (meets_enum_tuple l items n) ⟨hl,?_⟩
 have hz:(s.heap.push { cls:=.type "tuple_iterator",data:=.fields #[.ref l,.int 0 0] }).objs.size=s.heap.objs.size + 1:=size_push ..
 show _∧_
 rw [hz]
 have he:IsEnum ((s.heap.push { cls:=.type "tuple_iterator",data:=.fields #[.ref l,.int 0 0] }).push
   { cls:=.type "enumerate",data:=.fields #[.none,.bool false,.ref s.heap.objs.size,rawInt 0,.none,.none] }) (s.heap.objs.size + 1) s.heap.objs.size 0 .none:=by
  have:=get?_push_size (s.heap.push { cls:=.type "tuple_iterator",data:=.fields #[.ref l,.int 0 0] })
   (o:={ cls:=.type "enumerate",data:=.fields #[.none,.bool false,.ref s.heap.objs.size,rawInt 0,.none,.none] }) rfl
  rw [hz] at this; exact this
 refine ⟨⟨_,he,rfl⟩,h _ he ⟨_,get?_push_of_some _ (get?_push_size _ rfl),rfl,rfl⟩ (by rw [size_push,hz]) fun b o x=>get?_push_of_some _ (get?_push_of_some _ x)⟩
noncomputable def enumPV (xs:List PV):List PV:=xs.zipIdx.map fun p=>.tup [.int p.2,p.1]
theorem enum_at {xs:List PV} {i:Nat}:(enumPV xs)[i]? = (xs[i]?).map fun p=>PV.tup [.int i,p]:=by
 unfold enumPV
 rw [getElem?_map,List.getElem?_zipIdx]
 cases xs[i]? <;> simp
theorem enum_len {xs:List PV}:(enumPV xs).length=xs.length:=by simp [enumPV]
theorem it_enum {C:Cx} {A:Around} {F:Fz} {it e:Addr} {fp:List Addr} {n:Nat} {P:Nat→Value→Prop} {St:Nat→Heap→Prop} (D:Draws PG C.w A.in1 it fp n P St) (hei:e≠it) (hef:e ∉ fp) {xs:List PV} (hn:n=xs.length) (hP:∀ i v p,P i v→xs[i]? = some p→Rep C.w F p v) :
  It true C A F e (e :: fp) [e,it] (enumPV xs) (fun i h=>(∃ old,IsEnum h e it i old)∧St i h) (fun i v h=>∃ T x,v = .ref T∧IsEnumOut h e it ((i:Int) + 1) x T∧St (i + 1) h) where
 frame:=fun i h h' hst hk=>by
  obtain ⟨⟨old,he⟩,hs⟩:=hst
  exact ⟨⟨old,hk e (by simp) _ he⟩,D.frame _ _ _ hs fun b hb o x=>hk b (mem_cons_of_mem _ hb) o x⟩
 item:=fun i s Q G hi hst hle hs hQ=>by
  obtain ⟨⟨old,he⟩,hst⟩:=hst
  have hi':i < xs.length:=by rw [enum_len] at hi; exact hi
  refine wpAny_pyNext_enum_itemD D he hst (by lia) hei hef fun x h' tk hPx ho hst' hT hsz hk=>?_
  have hx:=getElem?_eq_getElem hi'
  refine hQ (.ref s.heap.objs.size) h' (tk + 1) (.tup [.int i,xs[i]]) (by rw [enum_at,hx]; rfl) ?_ ⟨_,x,rfl,ho,hst'⟩ fun b o hb y=>hk b o (fun e'=>hb (by simp [e'])) (fun e'=>hb (by simp [e'])) y
  unfold Rep
  refine ⟨s.heap.objs.size,#[.int i tk,x],0,rfl,zE7 (zB5 _) hT,RepL.cons mk_int (RepL.cons ?_ RepL.nil)⟩
  exact Rep.mono (hle.trans (Fz.le_ext hs)) (hP i x _ hPx hx)
 go:=fun tgt i v s Q ht hm hQ=>by
  obtain ⟨T,x,rfl,ho,hst⟩:=hm
  obtain ⟨es,k,p,rfl⟩:=ht rfl
  refine wpAny_letOwnedTupleGo_enum ho fun h' he' hs'=>hQ h' ⟨⟨x,by simpa using he'⟩,D.frame _ _ _ hst fun b hb o y=>(hs'.2 b fun q=>hef (q ▸ hb)).trans y⟩ fun b o hb y=>?_
  exact (hs'.2 b fun e'=>hb (by simp [e'])).trans y
 done:=fun s Q hst hQ=>by
  obtain ⟨⟨old,he⟩,hst⟩:=hst
  rw [enum_len,← hn] at he hst
  exact wpAny_pyNext_enum_endD D he hst fun h' hx=>hQ h' s.toks fun b o hb y=>hx b o (fun e'=>hb (by simp [e'])) y
 self:=fun i s Q hst hQ=>by
  obtain ⟨⟨old,he⟩,_⟩:=hst
  exact wpAny_pyIter_enum he hQ
 live:=fun i h hst b hb=>by
  obtain ⟨⟨old,he⟩,hst⟩:=hst
  simp only [mem_cons,not_mem_nil,or_false] at hb
  rcases hb with rfl | rfl
  ·rw [he]; rfl
  ·obtain ⟨o,ho⟩:=D.live _ _ hst; rw [ho]; rfl
 liveM:=fun i v h hm b hb=>by
  obtain ⟨T,x,_,ho,hst⟩:=hm
  simp only [mem_cons,not_mem_nil,or_false] at hb
  rcases hb with rfl | rfl
  ·rw [ho]; rfl
  ·obtain ⟨o,ho⟩:=D.live _ _ hst; rw [ho]; rfl
noncomputable def seqOf:PV→Option (List PV)
 | .list xs=>some xs
 | .tup xs=>some xs
 | _=>none
theorem call_enum {C:Cx} {A:Around} {k:Nat} {F:Fz} {s:Shared} {p:PV} {v:Value} {xs:List PV} (R:Room k A) (I:Inv C s) (hs:F.sub s.heap) (r:Rep C.w F p v) (h:seqOf p=some xs) :
  WP C A (call (.type "enumerate") [v]) (fun x s'=>wpAny (model PG C.w) A (pyIter x) (ItAt true C A F s (enumPV xs)) (fun _ _=>False) s') s:=by
 have hh:A.in1.handled=none:=R.handled
 have fin:∀ (l:Addr) (o:Obj) (T:String),F l=some o→∀ h',IsEnum h' (s.heap.objs.size + 1) s.heap.objs.size 0 .none→h'.objs.size=s.heap.objs.size + 2→(∀ b o,s.heap.get? b=some o→h'.get? b=some o) →
   ∀ (n:Nat) (P:Nat→Value→Prop) (St:Nat→Heap→Prop),Draws PG C.w A.in1 s.heap.objs.size [s.heap.objs.size,l] n P St→n=xs.length→(∀ i v p,P i v→xs[i]? = some p→Rep C.w F p v)→St 0 h' →
   wpAny (model PG C.w) A (pyIter (.ref (s.heap.objs.size + 1))) (ItAt true C A F s (enumPV xs)) (fun _ _=>False) { s with heap:=h' }:=by
  intro l o T hl h' he hz hk n P St D hn hP hst
  have hlt:l < s.heap.objs.size:=lt_size (hs _ _ hl)
  have f1:s.heap.get? (s.heap.objs.size + 1)=none:=by
   cases q:s.heap.get? (s.heap.objs.size + 1) with
   | none=>rfl
   | some o=>exact absurd (lt_size q) (Nat.not_lt.mpr (le_succ _))
  refine wpAny_pyIter_enum he ⟨.of_keep hk,I.of_keep hk I.gens rfl rfl,_,_,_,_,_,rfl,it_enum D (Nat.succ_ne_self _) ?_ hn hP,⟨⟨_,he⟩,hst⟩,fun b hb=>?_,fun b hb=>?_⟩
  ·intro m
   simp only [mem_cons,not_mem_nil,or_false] at m
   rcases m with e | e
   ·exact absurd e (Nat.succ_ne_self _)
   ·rw [← e] at hlt; exact absurd hlt (Nat.not_lt.mpr (le_succ _))
  ·simp only [mem_cons,not_mem_nil,or_false] at hb
   rcases hb with rfl | rfl
   ·exact ⟨f1,by show (h'.get? _).isSome=true; rw [he]; rfl⟩
   ·refine ⟨zB5 _,?_⟩
    obtain ⟨o',ho'⟩:=D.live _ _ hst
    show (h'.get? _).isSome=true
    rw [ho']; rfl
  ·simp only [mem_cons,not_mem_nil,or_false] at hb
   rcases hb with rfl | rfl | rfl
   ·exact .inl (by simp)
   ·exact .inl (by simp)
   ·exact .inr ⟨o,hl⟩
 cases p <;> first | (cases h; done) | skip
 ·rename_i ys
  cases h
  unfold Rep at r
  obtain ⟨a,vs,n,rfl,f,rl⟩:=r
  have hlt:a < s.heap.objs.size:=lt_size (hs _ _ f)
  have hl:s.heap.IsTuple a vs:=⟨_,hs _ _ f,rfl,n,rfl⟩
  refine call_enum_tuple (hs _ _ f) fun h' he hit hz hk=>?_
  have hlen:=rl.length
  simp only [length_toList] at hlen
  exact fin a _ "tuple" f h' he hz hk _ _ _ (draws_tuple hh _ a (ne_of_lt hlt) vs) hlen (fun i v p hv hp=>by
   obtain ⟨u,e,ru⟩:=rl.get hp
   have:vs.toList[i]? = some v:=by simpa using hv
   rw [this] at e; obtain rfl:=Option.some.inj e; exact ru) ⟨hit,hl.at fun o e=>hk _ o e⟩
 ·rename_i ys
  cases h
  unfold Rep at r
  obtain ⟨a,vs,n,rfl,f,rl⟩:=r
  have hlt:a < s.heap.objs.size:=lt_size (hs _ _ f)
  have hl:s.heap.IsList a vs:=⟨_,hs _ _ f,rfl,n,rfl⟩
  refine call_enumerate_list hl fun h' he hit hz hk=>?_
  have hlen:=rl.length
  simp only [length_toList] at hlen
  exact fin a _ "list" f h' he hz hk _ _ _ (Draws.list hh _ a (ne_of_lt hlt) vs) hlen (fun i v p hv hp=>by
   obtain ⟨u,e,ru⟩:=rl.get hp
   have:vs.toList[i]? = some v:=by simpa using hv
   rw [this] at e; obtain rfl:=Option.some.inj e; exact ru) ⟨hit,hl.at fun o e=>hk _ o e⟩
theorem gv_enumerate:GV (ofString "enumerate") (.type "enumerate"):=.b ⟨fun P=>rfl,rfl,by decide,rfl⟩
theorem st_for_enum {k:Nat} {sc:Scope} {tgt e:Expr} {body orelse:List Stmt} {np cp pos:Pos} {g:PV→Option Lc} {fi:Lc→Option PV} {fb fe:Lc→Option Out} (H:SoundE k sc e fi) (T:SoundG k sc tgt g) (B:SoundB k sc body fb) (E:SoundB k sc orelse fe)
  (hx:sc.names.lookup (ofString "enumerate")=some .globalImplicit) (hst:notStar e=true) (htp:isTupT tgt)
  (hs:∀ env x,foldedSetIterable (.Call (.Name (ofString "enumerate") np) [e] [] cp) env x=pure x):SoundS k sc (.For tgt (.Call (.Name (ofString "enumerate") np) [e] [] cp) body orelse pos) (fun l=>(fi l).bind fun p=>(seqOf p).bind fun xs=>forO g fb fe (enumPV xs) l):=by
 intro C A env s₀ F₀ F K l s o R S h
 obtain ⟨p,hp,h⟩:=bind_eq_some_iff.mp h
 obtain ⟨xs,hxs,h⟩:=bind_eq_some_iff.mp h
 have Hst:Stars [e]:=zD2 (by rw [all_cons,hst]; rfl)
 refine wpAny_For ?_ (hs env)
 show WP C A (do callWith cp (← eval (.Name (ofString "enumerate") np) env) [] (backTo cp (starEach [e] env)) (backToKw cp (keywordEach [] env))) _ s
 refine wpAny_bind (zC6 S.ok S.inv gv_enumerate hx ?_)
 refine PySem.callWith_type (zC1 Hst) (zI6 Hst (es_cons H es_nil (star_ok hst)) R S.xs (ps:=[p]) (by show cCons fi cNil l=_; unfold cCons cNil; rw [hp]; rfl) fun vs s₁ X₁ S₁ r₁=>?_)
 obtain ⟨v,rfl,rv⟩:=one r₁
 obtain ⟨S₁',g₁⟩:=S.step X₁ S₁.inv
 exact (call_enum R S₁.inv S₁.sub rv hxs).mono fun x s₂ hx=>wpAny_mono hx (fun it s₃ hit=>for_loop R T B E S₁' g₁ hit (fun _=>htp) h) fun _ _ f=>f
theorem ws_for_enum {k:Nat} {sc:Scope} {tgt e:Expr} {b₁ b₂:List Stmt} {np cp pos:Pos} {g:PV→Option Lc} {fi:Lc→Option PV} {o₁ o₂:Lc→Option Out} (H:WE k sc e fi) (T:WG k sc tgt g) (B:WB k sc b₁ o₁) (E:WB k sc b₂ o₂)
  (hx:sc.names.lookup (ofString "enumerate")=some .globalImplicit) (hst:notStar e=true) (htp:isTupT tgt)
  (hs:∀ env x,foldedSetIterable (.Call (.Name (ofString "enumerate") np) [e] [] cp) env x=pure x):WS k sc (.For tgt (.Call (.Name (ofString "enumerate") np) [e] [] cp) b₁ b₂ pos) (fun l=>(fi l).bind fun p=>(seqOf p).bind fun xs=>forO g o₁ o₂ (enumPV xs) l) :=
 ⟨st_for_enum H.h T.h B.h E.h hx hst htp hs⟩
theorem cells_none:∀ (names:List (PStr × NameKind)) (n:Nat) (acc:List (PStr × Addr)),(names.all fun y=>y.2 != .cell)=true→cellsFrom n names acc=acc
 | [],_,_,_=>rfl
 | (x,kd) :: r,n,acc,h=>by
  rw [all_cons,and_eq_true] at h
  unfold cellsFrom
  have:(kd == NameKind.cell)=false:=by simpa using h.1
  rw [this]
  simp only [false_eq_true,if_false]
  exact cells_none r n acc h.2
theorem fn_enterT {k:Nat} {a:Addr} {fd:FuncData} {sc:Scope} {body:List Stmt} (D:FnData a fd sc body) {x:PStr} (hx:sc.names.lookup x=some .local) (hcell:(sc.names.all fun y=>y.2 != .cell)=true)
  {C:Cx} {A:Around} {F:Fz} {s:Shared} {p:PV} {u:Value} (R:Room (k + 1) A) (I:Inv C s) (hs:F.sub s.heap) (hT:F.offTab) (hbind:bindArgs fd ⟨[u],[]⟩=pure [(x,u)]) (r:Rep C.w F p u) {Q:Value→Shared→Prop}
  (h:∀ env s₁ K,Room k (A.deeper env)→0 < s₁.toks→FS C sc env s F F K [(x,.fz p)] s₁→WP C (A.deeper env) (execs body env) (fun f s'=>Q (match f with | .ret v=>v | _=>.none) s') s₁) :
  WP C A (call (.ref a) [u]) Q s:=by
 obtain ⟨o,ho,hd⟩:=D.at_ C.w.params
 obtain ⟨c,oc,cvs,t,hc,hoc,hdc,hv⟩:=D.code C.w.params
 have hc':∀ y∈fd.scope.names,y.2≠.cell:=fun y hy=>by
  rw [D.scope] at hy
  have:=List.all_eq_true.mp hcell y hy
  simpa using this
 have hcs:cellsFrom (s.heap.objs.size + 1) fd.scope.names []=[]:=cells_none _ _ _ (by rw [D.scope]; exact hcell)
 refine wpAny_call (codeAny_call_function R.dep (I.K a o ho) hd D.co D.gen D.body ⟨c,oc,cvs,t,hc,I.K c oc hoc,hdc,hv⟩ ?_)
 rw [hbind,D.clo]
 refine wpAny_pure (wpAny_newFunctionEnv hc' (by intro y hy; simp at hy; subst hy; rw [D.scope]; exact hx) (fun h' hns hsb=>?_) D.kind)
 have keep:∀ b o,s.heap.get? b=some o→h'.get? b=some o:=fun b o e=>hsb.extBut b o (ne_of_lt (lt_size e)) (get?_push_of_some _ e)
 have henv:newEnv fd.scope s.heap.objs.size fd.globals [] (fd.qualname ++ ".<locals>.") (some a) fd.code none fd.builtins=callEnvC fd s.heap.objs.size a:=by
  unfold callEnvC; rw [hcs]
 rw [henv]
 have hkd:(callEnvC fd s.heap.objs.size a).kindOf x=some .local:=by show fd.scope.names.lookup x=_; rw [D.scope]; exact hx
 have hce:(callEnvC fd s.heap.objs.size a).cells=[]:=hcs
 have hN:({ s with heap:=h',toks:=s.toks + [(x,u)].length }:Shared).heap.Ns s.heap.objs.size (bindL (callEnvC fd s.heap.objs.size a).kindOf ([x].zip [u]) fun _=>none):=by
  show h'.Ns s.heap.objs.size _
  have e:(bindL (callEnvC fd s.heap.objs.size a).kindOf ([x].zip [u]) fun _=>none)=fun y=>([(x,u)]:List (PStr × Value)).reverse.lookup y:=by
   funext y
   show bindL _ [(x,u)] _ y=_
   unfold bindL
   rw [if_pos hkd]
   show (if y=x then some u else none)=([(x,u)]:List (PStr × Value)).lookup y
   rw [lookup_cons]
   by_cases q:y=x
   ·subst q; simp
   ·rw [if_neg q]; have:(y == x)=false:=beq_eq_false_iff_ne.mpr q
    rw [this]; rfl
  rw [e]; exact hns
 obtain ⟨K,S⟩:=fs_start (s₁:={ s with heap:=h',toks:=s.toks + [(x,u)].length }) (ps:=[p]) (vs:=[u]) (l:=[(x,.fz p)]) (xs:=[x]) D (fun y hy=>by rw [mem_singleton.mp hy]; exact .inl hx) I hs hT (RepL.cons r RepL.nil) rfl
  ⟨⟨⟨_,_,rfl⟩,hN,keep,le_refl _⟩,fun n c h=>(by rw [hce] at h; exact no h),(by rw [hce]; exact List.Pairwise.nil),fun n c h=>(by rw [hce] at h; cases h)⟩
 have R':Room k (A.deeper (callEnvC fd s.heap.objs.size a)):=⟨R.handled,by have:=R.depth; show A.depth + 1 + _≤_; lia,by have:=R.units; show A.units + 3 + _≤_; lia⟩
 exact ⟨I.lim.keeps keep,codeAny_func (wpAny_mono (h _ _ K R' (Nat.succ_pos _) S) (fun f s' h'=>h') fun _ _ f=>f.elim)⟩
noncomputable def FBase (C:Cx) (F:Fz):Prop:=∀ a o,(KT C.w.params).lookup a=some o→F a=some o
noncomputable def addBase (P:Params) (F:Fz):Fz:=fun b=>match F b with | some o=>some o | none=>(KT P).lookup b
theorem addBase_ok {C:Cx} {F:Fz} {s:Shared} (I:Inv C s) (hs:F.sub s.heap) (hT:F.offTab):F.le (addBase C.w.params F)∧(addBase C.w.params F).sub s.heap∧(addBase C.w.params F).offTab∧FBase C (addBase C.w.params F):=by
 refine ⟨fun b o e=>by unfold addBase; rw [e],fun b o e=>?_,fun b t=>?_,fun a o e=>?_⟩
 ·unfold addBase at e
  split at e
  ·rename_i o' h; obtain rfl:=Option.some.inj e; exact hs b _ h
  ·exact I.K b o e
 ·unfold addBase
  rw [hT b t]
  cases q:(KT C.w.params).lookup b with
  | none=>rfl
  | some o=>have:=KT_off q; rw [t] at this; exact bno this rfl
 ·unfold addBase
  cases q:F a with
  | none=>exact e
  | some o' =>
   have h1:=hs a o' q
   have h2:=I.K a o e
   rw [h1] at h2; exact h2
theorem rep_base {C:Cx} {F:Fz} (hF:FBase C F) {a:Addr} {vs:Array Value} {n:Nat} {xs:List PV} (h:(KT C.w.params).lookup a=some { cls:=.type "tuple",data:=.seq vs n }) (rl:RepL C.w F xs vs.toList):Rep C.w F (.tup xs) (.ref a):=by
 unfold Rep; exact ⟨a,vs,n,rfl,hF _ _ h,rl⟩
noncomputable def bitP (b:Int) (s:String):PV:=.tup [.int b,.str (ofString s)]
noncomputable def modeTab:PV:=.tup [
 .tup [bitP 40960 "l",bitP 49152 "s",bitP 32768 "-",bitP 24576 "b",bitP 16384 "d",bitP 8192 "c",bitP 4096 "p"],
 .tup [bitP 256 "r"],.tup [bitP 128 "w"],.tup [bitP 2112 "s",bitP 2048 "S",bitP 64 "x"],
 .tup [bitP 32 "r"],.tup [bitP 16 "w"],.tup [bitP 1032 "s",bitP 1024 "S",bitP 8 "x"],
 .tup [bitP 4 "r"],.tup [bitP 2 "w"],.tup [bitP 513 "t",bitP 512 "T",bitP 1 "x"]]
theorem modeTab_rep {C:Cx} {F:Fz} (hF:FBase C F):Rep C.w F modeTab (.ref 257):=by
 unfold modeTab bitP
 repeat' first
  | exact mk_int
  | exact zJ6
  | exact RepL.nil
  | (refine rep_base hF rfl ?_)
  | (refine RepL.cons ?_ ?_)
theorem gv_modetab:GV (ofString "_filemode_table") (.ref 257):=.g ⟨fun P=>rfl,rfl⟩
theorem for_tab {k:Nat} {sc:Scope} {tgt:Expr} {body orelse:List Stmt} {np np2 cp pos:Pos} {g:PV→Option Lc} {fb fe:Lc→Option Out} (T:SoundG k sc tgt g) (B:SoundB k sc body fb) (E:SoundB k sc orelse fe)
  (hx:sc.names.lookup (ofString "enumerate")=some .globalImplicit) (hx2:sc.names.lookup (ofString "_filemode_table")=some .globalImplicit) (htp:isTupT tgt)
  {C:Cx} {A:Around} {env:Env} {s₀ s:Shared} {F₀ F K:Fz} {l:Lc} {o:Out} (R:Room k A) (S:FS C sc env s₀ F₀ F K l s) (hF:FBase C F₀) {xs:List PV} (hxs:seqOf modeTab=some xs) (h:forO g fb fe (enumPV xs) l=some o)
  (hs:∀ env x,foldedSetIterable (.Call (.Name (ofString "enumerate") np) [.Name (ofString "_filemode_table") np2] [] cp) env x=pure x) :
  WP C A (exec (.For tgt (.Call (.Name (ofString "enumerate") np) [.Name (ofString "_filemode_table") np2] [] cp) body orelse pos) env) (After C sc env s₀ F₀ F K s o) s:=by
 have Hst:Stars [.Name (ofString "_filemode_table") np2]:=zD2 rfl
 refine wpAny_For ?_ (hs env)
 show WP C A (do callWith cp (← eval (.Name (ofString "enumerate") np) env) [] (backTo cp (starEach [.Name (ofString "_filemode_table") np2] env)) (backToKw cp (keywordEach [] env))) _ s
 refine wpAny_bind (zC6 S.ok S.inv gv_enumerate hx ?_)
 rw [stars_one Hst env cp]
 refine PySem.callWith_type rfl (evalArgs_plain (spliced_cons (zC6 S.ok S.inv gv_modetab hx2 (spliced_nil ?_))))
 have hFb:FBase C F:=fun a o e=>S.f0 a o (hF a o e)
 exact (call_enum R S.inv S.fsub (modeTab_rep hFb) hxs).mono fun x s₂ hx=>wpAny_mono hx (fun it s₃ hit=>for_loop R T B E S (Grew.refl F K s) hit (fun _=>htp) h) fun _ _ f=>f
noncomputable def FnStr (k:Nat) (a:Addr) (ψ:PV→Option PStr):Prop :=
 ∀ (C:Cx) (A:Around) (F:Fz) (s:Shared) (p:PV) (u:Value) (x:PStr),Room (k + 1) A→Inv C s→F.sub s.heap→F.offTab→Rep C.w F p u→ψ p=some x→WP C A (call (.ref a) [u]) (fun v s'=>Post C F s (.str x) v s'∧0 < s'.toks) s
theorem FnStr.sound {k:Nat} {a:Addr} {ψ:PV→Option PStr} (H:FnStr k a ψ):FnSound k a (fun ps=>match ps with | [p]=>(ψ p).map .str | _=>none):=by
 intro C A F s ps p vs R I hs hT r h
 dsimp only at h
 split at h
 ·rename_i q
  obtain ⟨x,hx,rfl⟩:=map_eq_some_iff.mp h
  obtain ⟨v,rfl,rv⟩:=one r
  exact (H C A F s q v x R I hs hT rv hx).mono fun v s' P=>P.1
 ·exact no h
theorem tab_fn {a:Addr} {k:Nat} {name q:PStr} {params:Arguments} {st1 st3:Stmt} {tgt:Expr} {body orelse:List Stmt} {np np2 cp pos:Pos} {sc:Scope} {defaults kwd doc pm:Value} {ann:Option Addr} {cd ctup:Value} {g:PV→Option Lc} {f1 f3 fb fe:Lc→Option Out} (x:PStr)
  (hat:∀ P,∃ o,(KT P).lookup a=some o∧o.data = .func ⟨name,q,params,.stmts [st1,.For tgt (.Call (.Name (ofString "enumerate") np) [.Name (ofString "_filemode_table") np2] [] cp) body orelse pos,st3],sc,mainGlobals,[],defaults,kwd,doc,pm,ann,cd,ctup,builtinsNs⟩)
  (hcode:∀ P,∃ c o vs t,cd = .ref c∧(KT P).lookup c=some o∧o.data = .fields vs∧vs[1]? = some (.str q t))
  (hsc:(!sc.isCoroutine && !sc.isGenerator && sc.kind == .function)=true) (hxs:sc.names.lookup x=some .local) (hcell:(sc.names.all fun y=>y.2 != .cell)=true)
  (H1:WS k sc st1 f1) (T:WG k sc tgt g) (B:WB k sc body fb) (E:WB k sc orelse fe) (H3:WS k sc st3 f3)
  (hx:sc.names.lookup (ofString "enumerate")=some .globalImplicit) (hx2:sc.names.lookup (ofString "_filemode_table")=some .globalImplicit) (htp:isTupT tgt)
  (hs:∀ env x,foldedSetIterable (.Call (.Name (ofString "enumerate") np) [.Name (ofString "_filemode_table") np2] [] cp) env x=pure x)
  (hbind:∀ u,bindArgs ⟨name,q,params,.stmts [st1,.For tgt (.Call (.Name (ofString "enumerate") np) [.Name (ofString "_filemode_table") np2] [] cp) body orelse pos,st3],sc,mainGlobals,[],defaults,kwd,doc,pm,ann,cd,ctup,builtinsNs⟩ ⟨[u],[]⟩=pure [(x,u)])
  {ψ:PV→Option PStr} (hψ:∀ p y,ψ p=some y→∃ l1 l2,f1 [(x,.fz p)]=some (.go l1)∧((seqOf modeTab).bind fun xs=>forO g fb fe (enumPV xs) l1)=some (.go l2)∧f3 l2=some (.ret (.str y))):FnStr k a ψ:=by
 intro C A F s p u y R I hF hT r hy
 rw [and_eq_true,and_eq_true] at hsc
 obtain ⟨⟨s1,s2⟩,s3⟩:=hsc
 obtain ⟨l1,l2,e1,e2,e3⟩:=hψ p y hy
 obtain ⟨xs,hxs',e2⟩:=bind_eq_some_iff.mp e2
 obtain ⟨ble,bsub,boff,bb⟩:=addBase_ok I hF hT
 refine fn_enterT ⟨hat,rfl,rfl,rfl,rfl,rfl,hcode,by simpa using s1,by simpa using s2,eq_of_beq s3⟩ hxs hcell R I bsub boff (hbind u) (Rep.mono ble r) fun env s₁ K R' hpos S=>?_
 refine wpAny_mono (wpAny_toks_of (n:=1) hpos (?_:WP C _ _ (fun f s'=>Post C (addBase C.w.params F) s (.str y) (flv f) s') s₁)) (fun f s' hf=>?_) fun _ _ f=>f.2
 ·refine wpAny_execs_cons ((H1.h C _ env s _ _ K _ s₁ _ R' S e1).mono fun fl s₂ P=>?_)
  obtain ⟨rfl,F₂,K₂,S₂,_⟩:=P
  refine wpAny_execs_cons ((for_tab T.h B.h E.h hx hx2 htp R' S₂ bb hxs' e2 hs).mono fun fl s₃ P=>?_)
  obtain ⟨rfl,F₃,K₃,S₃,_⟩:=P
  refine wpAny_execs_cons ((H3.h C _ env s _ _ K₃ _ s₃ _ R' S₃ e3).mono fun fl s₄ P=>?_)
  obtain ⟨v,rfl,X,I₄,rv⟩:=P
  exact ⟨X,I₄,rv⟩
 ·have h1:Post C F s (.str y) (flv f) s':=⟨hf.2.1,hf.2.2,flat_rep (p:=.str y) rfl hf.2.3⟩
  cases f <;> exact ⟨h1,hf.1⟩
theorem cc1 {f:Lc→Option PV} {l:Lc} {p:PV} (h:f l=some p):cCons f cNil l=some [p]:=by unfold cCons; rw [h]; rfl
theorem cc2 {f g:Lc→Option PV} {l:Lc} {p q:PV} (h:f l=some p) (h':g l=some q):cCons f (cCons g cNil) l=some [p,q]:=by
 show (f l).bind (fun a=>((cCons g cNil l).map (a :: ·)))=_
 rw [h,cc1 h']; rfl
theorem cc3 {f g e:Lc→Option PV} {l:Lc} {p q r:PV} (h:f l=some p) (h':g l=some q) (h'':e l=some r):cCons f (cCons g (cCons e cNil)) l=some [p,q,r]:=by
 show (f l).bind (fun a=>((cCons g (cCons e cNil) l).map (a :: ·)))=_
 rw [h,cc2 h' h'']; rfl
theorem ccS {f:Lc→Option PV} {fs:Lc→Option (List PV)} {l:Lc} {p:PV} {ps:List PV} (h:f l=some p) (h':fs l=some ps):cCons f fs l=some (p :: ps):=by unfold cCons; rw [h,bind_some,h']; rfl
theorem zA5 {f g:Lc→Option Out} {l l':Lc} (h:f l=some (.go l')):seqO f g l=g l':=by unfold seqO; rw [h]; rfl
theorem app_go2 {x:PStr} {F:Lc→Option PV} {l:Lc} {xs:List PV} {p:PV} (h1:look l x=some (.ow (.list xs))) (h2:F l=some p) (hl:xs.length≤1000):cAppend x F l=some (.go ((x,.ow (.list (xs ++ [p]))) :: l)):=by
 unfold cAppend
 rw [h1]
 show (F l).bind _=_
 rw [h2]
 exact if_pos (zA6 (le_trans (Nat.succ_le_succ hl) (by decide)))
theorem app_go {x:PStr} {F:Lc→Option PV} {l:Lc} {xs:List PV} {p:PV} (h1:look l x=some (.ow (.list xs))) (h2:F l=some p) (hl:xs.length < 1000):cAppend x F l=some (.go ((x,.ow (.list (xs ++ [p]))) :: l)):=app_go2 h1 h2 (Nat.le_of_lt hl)
theorem seqO_id {f:Lc→Option Out} {L:Lc}:seqO f (fun l=>some (.go l)) L=f L:=by
 unfold seqO
 cases f L with
 | none=>rfl
 | some o=>cases o <;> rfl
theorem zB4 {x:PStr} {F:Lc→Option PV} {l:Lc} {p:PV} (h:F l=some p):cSet x F l=some (.go ((x,.fz p) :: l)):=by unfold cSet; rw [h]; rfl
theorem zJ5 {x:PStr} {F:Lc→Option PV} {l:Lc} {p:PV} (h:F l=some p):cOwn x F l=some (.go ((x,.ow p) :: l)):=by unfold cOwn; rw [h]; rfl
theorem bd1 {f:Lc→Option (List PV)} {φ:List PV→Option PV} {l:Lc} {ps:List PV} {p:PV} (h:f l=some ps) (h':φ ps=some p):(f l).bind φ=some p:=by rw [h]; exact h'
theorem zA7 {o:PV→PV→Option PV} {f g:Lc→Option PV} {l:Lc} {p q r:PV} (h:f l=some p) (h':g l=some q) (h'':o p q=some r):c2 o f g l=some r:=by unfold c2; rw [h,bind_some,h',bind_some,h'']
theorem item_go {x:PStr} {F G:Lc→Option PV} {l:Lc} {c i p c':PV} (h0:look l x=some (.ow c)) (h1:F l=some p) (h2:G l=some i) (h3:setPV c i p=some c'):cSetItem x F G l=some (.go ((x,.ow c') :: l)):=by
 unfold cSetItem
 rw [h0]
 show (F l).bind _=_
 rw [h1,bind_some,h2,bind_some,h3]
 rfl
theorem zC4 {x y:PStr} {p:PV} {l:Lc} (h:y≠x) {q:Loc} (h2:look l x=some q) (h3:x≠(".0":PySem.Str)):look ([(y,Loc.fz p)] ++ noZ l) x=some q:=by
 rw [singleton_append,look_cons,if_neg h.symm,look_noZ,if_neg h3,h2]
theorem if_no {x:Option Bool} {a b out:Option Out} (h:x=some false) (h2:b=out):(x.bind fun x=>if x=true then a else b)=out:=by rw [h,← h2]; rfl
theorem if_yes {x:Option Bool} {a b out:Option Out} (h:x=some true) (h2:a=out):(x.bind fun x=>if x=true then a else b)=out:=by rw [h,← h2]; rfl
theorem bdT {α β:Type} {x:Option α} {f:α→Option β} {t:α} {r:Option β} (h:x=some t) (h2:f t=r):x.bind f=r:=by rw [h]; exact h2
theorem bdL {x:Option PV} {φ:PV→Option PV} {p q:PV} (h:x=some p) (h':φ p=some q):x.bind φ=some q:=by rw [h]; exact h'
theorem bdLB {β:Type} {x:Option PV} {φ:PV→Option β} {p:PV} {q:β} (h:x=some p) (h':φ p=some q):x.bind φ=some q:=by rw [h]; exact h'
theorem zK4 {f g:Lc→Option Out} {l:Lc} {p:PV} (h:f l=some (.ret p)):seqO f g l=some (.ret p):=by unfold seqO; rw [h]; rfl
theorem seqO_brk {f g:Lc→Option Out} {l l':Lc} (h:f l=some (.brk l')):seqO f g l=some (.brk l'):=by unfold seqO; rw [h]; rfl
theorem zG6 {xs:List PStr} {ps:List PV} {L:Lc} {fb:Lc→Option Out} {p:PV} (hb:bindP xs ps []=some L) (h:fb L=some (.ret p)):((bindP xs ps []).bind fun l=>(fb l).bind outV)=some p:=by
 rw [hb]
 show (fb L).bind outV=some p
 rw [h]
 rfl
theorem zH9 {F:Lc→Option PV} {g:Lc→Option Out} {l:Lc} {p:PV} (h:F (freeze l)=some p):goO (seqO (fun l=>Option.map Out.ret (F (freeze l))) g) (Out.go l)=some (.ret p):=by
 show ((F (freeze l)).map Out.ret).bind (goO g)=_
 rw [h]
 rfl
theorem zF3 {f:Lc→Option PV} {a b c:Lc→Option (Option Int)} {l:Lc} {p r:PV} {lo hi st:Option Int} (hf:f l=some p) (ha:a l=some lo) (hb:b l=some hi) (hc:c l=some st) (h:slicePV p lo hi st=some r):cSlice f a b c l=some r:=by
 unfold cSlice
 rw [hf,bind_some,ha,bind_some,hb,bind_some,hc,bind_some,h]
theorem asI_at {f:Lc→Option PV} {l:Lc} {i:Int} (h:f l=some (.int i)):(f l).bind asI=some (some i):=by rw [h]; rfl
theorem zD7 {fs:Lc→Option (List PV)} {l:Lc} {ps:List PV} (h:fs l=some ps) (hl:ps.length≤1000):cList fs l=some (.list ps):=by unfold cList; rw [h,bind_some,if_pos (zA6 (by lia))]
theorem ctup_at {fs:Lc→Option (List PV)} {l:Lc} {ps:List PV} (h:fs l=some ps) (hl:ps.length≤1000):cTup fs l=some (.tup ps):=by unfold cTup; rw [h,bind_some,if_pos (zA6 (by lia))]
theorem zC3 {xs:List PV} (h:xs.length≤1000):iterPV (.list xs)=some xs:=by
 unfold iterPV
 dsimp only
 rw [if_pos (zA6 (by lia))]
theorem iter_tup {xs:List PV} (h:xs.length≤1000000):iterPV (.tup xs)=some xs:=if_pos (zA6 h)
theorem cl1 (p:PV) (l:Lc):cList (cCons (cK p) cNil) l=some (.list [p]):=by
 have z1:1≤sizeLine:=zA6 (by lia)
 simp [cList,cCons,cNil,cK,z1]
theorem ife_str {x:Option Bool} {P:Prop} [Decidable P] {a b:Nat} {p q:PStr} {l:Lc} (h:x=some (decide P)) (hp:p=⟨#[a]⟩) (hq:q=⟨#[b]⟩):(x.bind fun c=>if c=true then cK (.str p) l else cK (.str q) l)=some (.str ⟨#[if P then a else b]⟩):=by
 subst h; subst hp; subst hq
 by_cases c:P
 ·rw [bind_some,if_pos c,if_pos (decide_eq_true c)]; rfl
 ·rw [bind_some,if_neg c,if_neg (by rw [decide_eq_false c]; exact Bool.false_ne_true)]; rfl
theorem head3 {β:Type} {x:Option (List PV)} {ys items:List PV} {r:PV} {G:List PV→Option β} (h1:x=some ys) (h2:rangePV ys=some r) (h3:iterPV r=some items):(x.bind fun y=>(rangePV y).bind fun y=>(iterPV y).bind G)=G items:=by
 subst h1
 show (rangePV ys).bind (fun y=>(iterPV y).bind G)=G items
 rw [h2]
 show (iterPV r).bind G=G items
 rw [h3]
 rfl
theorem head3' {β:Type} {x:Option (List PV)} {ys items:List PV} {r:PV} {G:List PV→Option β} (h1:x=some ys) (h2:rangePV ys=some r) (h3:iterPV r=some items):((x.bind rangePV).bind fun y=>(iterPV y).bind G)=G items:=by
 subst h1
 show (rangePV ys).bind (fun y=>(iterPV y).bind G)=G items
 rw [h2]
 show (iterPV r).bind G=G items
 rw [h3]
 rfl
theorem seq_for {xs:Lc→Option (List PV)} {g:PV→Option Lc} {fb fe:Lc→Option Out} {R:Lc→Option Out} {L:Lc} {ys items:List PV} {r:PV} {out:Option Out} (h1:xs L=some ys) (h2:rangePV ys=some r) (h3:iterPV r=some items) (h:(forO g fb fe items L).bind (goO R)=out) :
  seqO (fun l=>((xs l).bind rangePV).bind fun p=>(iterPV p).bind fun ps=>forO g fb fe ps l) R L=out:=by
 show (((xs L).bind rangePV).bind fun p=>(iterPV p).bind fun ps=>forO g fb fe ps L).bind (goO R)=out
 rw [head3' h1 h2 h3]
 exact h
theorem zK3 {f:Lc→Option PV} {g:PV→Option Lc} {fb fe:Lc→Option Out} {R:Lc→Option Out} {L:Lc} {items:List PV} {r:PV} {out:Option Out} (h1:f L=some r) (h3:iterPV r=some items) (h:(forO g fb fe items L).bind (goO R)=out) :
  seqO (fun l=>(f l).bind fun p=>(iterPV p).bind fun ps=>forO g fb fe ps l) R L=out:=by
 show ((f L).bind fun p=>(iterPV p).bind fun ps=>forO g fb fe ps L).bind (goO R)=out
 rw [h1,bind_some,h3,bind_some]
 exact h
theorem out_ret {f:Lc→Option Out} {l:Lc} {p:PV} (h:f l=some (.ret p)):(f l).bind outV=some p:=by rw [h]; rfl
theorem forO1 {g:PV→Option Lc} {fb fe:Lc→Option Out} {p:PV} {l t l':Lc} {out:Option Out} (h1:g p=some t) (h2:fb (t ++ l)=some (.go l')) (h3:fe l'=out):forO g fb fe [p] l=out:=by
 unfold forO
 rw [h1,bind_some,h2]
 exact h3
theorem meth1 {f:Lc→Option PV} {fs:Lc→Option (List PV)} {φ:List PV→Option PV} {l:Lc} {x:PStr} {ps:List PV} {q:PV} (h1:f l=some (.str x)) (h2:fs l=some ps) (h3:φ (.str x :: ps)=some q):methO φ f fs l=some q:=by
 unfold methO
 rw [h1,bind_some,h2]; exact h3
theorem tru_str {u:Option PV} {x:PStr} (h:u=some (.str x)) (hz:x.length≤1000000):u.bind truthPV=some (decide (0 < x.length)):=by
 rw [h]; exact if_pos (zA6 hz)
theorem tru_bool {x:Option PV} {b:Bool} (h:x=some (.bool b)):x.bind truthPV=some b:=by rw [h]; rfl
theorem addS_str {a b:PStr} (h:a.length + b.length≤1000000):addPV (.str a) (.str b)=some (.str (a ++ b)):=if_pos (zA6 h)
theorem iadd_str {a b:PStr} (h:a.length + b.length≤1000000):iaddPV (.str a) (.str b)=some (.str (a ++ b)):=if_pos (zA6 h)
theorem and_at {t u:Option Bool} {b c:Bool} (h1:t=some b) (h2:u=some c):(t.bind fun x=>if x=true then u else some false)=some (b && c):=by
 rw [h1,bind_some,h2]; cases b <;> rfl
theorem asB_at {x:Option PV} {b:Bool} (h:x=some (.bool b)):x.bind asB=some b:=by rw [h]; rfl
theorem zI9 (a b:Int):addPV (.int a) (.int b)=some (.int (a + b)):=rfl
theorem zG9 (a b:PStr):addPV (.str a) (.str b)=if a.length + b.length≤sizeLine then some (.str (a ++ b)) else none:=rfl
theorem zI8 (a b:List PV):addPV (.list a) (.list b)=if a.length + b.length≤sizeLine then some (.list (a ++ b)) else none:=rfl
theorem subPV_ii (a b:Int):subPV (.int a) (.int b)=some (.int (a - b)):=rfl
theorem divPV_ii (a b:Int):divPV (.int a) (.int b)=if 0 < b∧b < 1000000 then some (.int (a / b)) else none:=rfl
theorem modPV_ii (a b:Int):modPV (.int a) (.int b)=if 0 < b then some (.int (a % b)) else none:=rfl
theorem powPV_ii (a b:Int):powPV (.int a) (.int b)=if 0≤b∧b≤64∧a.natAbs≤8 then some (.int (a ^ b.toNat)) else none:=rfl
theorem orPV_ii (a b:Int):orPV (.int a) (.int b)=some (.int (Builtin.bitOr a b)):=rfl
theorem mulPV_si (x:PStr) (n:Int):mulPV (.str x) (.int n)=if x.length≤1000∧0≤n∧n≤1000 then some (.str (Txt.mul x n)) else none:=rfl
theorem gtPV_ii (a b:Int):gtPV (.int a) (.int b)=some (.bool (decide (b < a))):=rfl
theorem eqPV_ii (a b:Int):eqPV (.int a) (.int b)=some (.bool (a == b)):=rfl
theorem nePV_ll (a b:List PV):nePV (.list a) (.list b)=(eqvPV (.list a) (.list b)).map fun b=>.bool !b:=rfl
theorem maxPV_2 (a b:Int):maxPV [.int a,.int b]=some (.int (max a b)):=rfl
theorem maxPV_3 (a b c:Int):maxPV [.int a,.int b,.int c]=some (.int (max (max a b) c)):=rfl
theorem minPV_l (xs:List PV):minPV [.list xs]=(intsOf xs).bind fun ns=>ns.min?.map .int:=rfl
theorem lenPV_s (x:PStr):lenPV (.str x)=if x.length≤sizeLine then some (.int x.length) else none:=rfl
theorem lenPV_l (xs:List PV):lenPV (.list xs)=if xs.length≤sizeLine then some (.int xs.length) else none:=rfl
theorem truthPV_s (x:PStr):truthPV (.str x)=if x.length≤sizeLine then some (decide (0 < x.length)) else none:=rfl
theorem truthPV_l (xs:List PV):truthPV (.list xs)=if xs.length≤sizeLine then some (!xs.isEmpty) else none:=rfl
theorem zH4 (xs:List PV) (a b c:Option Int):slicePV (.list xs) a b c=if xs.length≤sizeLine∧c≠some 0 then some (.list (pick xs a b c)) else none:=rfl
theorem setPV_l (xs:List PV) (i:Int) (p:PV):setPV (.list xs) (.int i) p=if 0≤i∧i < xs.length∧xs.length≤sizeLine then some (.list (xs.set i.toNat p)) else none:=rfl
theorem setPV_d (ks:List PStr) (xs:List PV) (k:PStr) (p:PV):setPV (.dict ks xs) (.str k) p=if ks.Nodup∧ks.length < sizeLine then some (.dict (dsetK ks k) (dsetV ks xs k p)) else none:=rfl
theorem splitPV_s (x y:PStr):splitPV [.str x,.str y]=if x.length≤1000000∧y.length=1 then some (.list ((Txt.split x y).map .str)) else none:=rfl
theorem joinPV_s (x:PStr) (xs:List PV):joinPV [.str x,.list xs]=(strsOf xs).bind fun ss=>if JoinOk x ss=true then some (.str (Txt.join x ss)) else none:=rfl
theorem idxPV_l (xs:List PV) (i:Int):idxPV (.list xs) (.int i)=nth xs i:=rfl
theorem idxPV_t (xs:List PV) (i:Int):idxPV (.tup xs) (.int i)=nth xs i:=rfl
theorem cApp_at {fe:Lc→Option PV} {l:Lc} {acc:List PV} {q:PV} (h:fe l=some q) (hz:acc.length < sizeLine):cApp fe l (.list acc)=some (.list (acc ++ [q])):=by
 show (fe l).bind _=_
 rw [h]; exact if_pos hz
theorem iterPV_t (xs:List PV):iterPV (.tup xs)=if xs.length≤sizeLine then some xs else none:=rfl
theorem zE3 {l:Lc} {x:PStr} {q:Loc} (h:look l x=some q):look (freeze l) x=some (frz q):=by rw [zB7,h]; rfl
noncomputable def imodePV:List PV→Option PV:=args1 fun p=>andPV p (.int 4095)
noncomputable def ifmtPV:List PV→Option PV:=args1 fun p=>andPV p (.int 61440)
theorem f_SIMODE {k:Nat}:FnSound k 217 imodePV:=by
 apply fn_w [ofString "mode"]
 case hat=>exact fun P=>⟨_,rfl,rfl⟩
 case hcode=>exact fun P=>⟨_,_,_,_,rfl,rfl,rfl,rfl⟩
 case hsc=>rfl
 case hxs=>rfl
 case hbind=>exact bind1 (fun _=>rfl)
 case B =>
  exact (zA1 (zD9 (w_and (zA2 (.inl rfl) rfl) zB0))
 zA8)
 case hφ =>
  intro ps p h
  refine zD6 h fun q e h2=>?_
  obtain rfl:=e
  exact zG6 (L:=[(ofString "mode",.fz q)]) rfl (zK4 (congrArg (Option.map Out.ret) (zA7 (zA3 rfl) rfl h2)))
theorem f_SIFMT {k:Nat}:FnSound k 224 ifmtPV:=by
 apply fn_w [ofString "mode"]
 case hat=>exact fun P=>⟨_,rfl,rfl⟩
 case hcode=>exact fun P=>⟨_,_,_,_,rfl,rfl,rfl,rfl⟩
 case hsc=>rfl
 case hxs=>rfl
 case hbind=>exact bind1 (fun _=>rfl)
 case B =>
  exact (zA1 (zD9 (w_and (zA2 (.inl rfl) rfl) zB0))
 zA8)
 case hφ =>
  intro ps p h
  refine zD6 h fun q e h2=>?_
  obtain rfl:=e
  exact zG6 (L:=[(ofString "mode",.fz q)]) rfl (zK4 (congrArg (Option.map Out.ret) (zA7 (zA3 rfl) rfl h2)))
noncomputable def MG (l:Lc) (m:Int) (xs:List PV):Prop:=look l (ofString "mode")=some (.fz (.int m))∧look l (ofString "perm")=some (.ow (.list xs))
noncomputable def MI (l:Lc) (m i:Int) (xs:List PV):Prop:=MG l m xs∧look l (ofString "index")=some (.fz (.int i))
noncomputable def rowT (m i b:Int):Bool:=if i=0 then Builtin.bitAnd m 61440 == b else Builtin.bitAnd m b == b
noncomputable def rowC (m i:Int):List (Int × String)→String
 | []=>if i=0 then "?" else "-"
 | (b,s) :: r=>if rowT m i b then s else rowC m i r
noncomputable def rowP (r:List (Int × String)):List PV:=r.map fun p=>bitP p.1 p.2
noncomputable def strP (s:String):PV:=.str (ofString s)
theorem inner_of {g:PV→Option Lc} {fb fe:Lc→Option Out} {m i:Int}
  (hs:∀ l xs b s,MI l m i xs→xs.length≤1000→∃ l',((g (bitP b s)).bind fun t=>fb (t ++ l))=(if rowT m i b then some (.brk l') else some (.go l'))∧(if rowT m i b then MG l' m (xs ++ [strP s]) else MI l' m i xs))
  (he:∀ l xs,MI l m i xs→xs.length≤1000→∃ l',fe l=some (.go l')∧MG l' m (xs ++ [strP (if i=0 then "?" else "-")])) :
  ∀ r l xs,MI l m i xs→xs.length≤1000→∃ l',forO g fb fe (rowP r) l=some (.go l')∧MG l' m (xs ++ [strP (rowC m i r)]):=by
 intro r
 induction r with
 | nil=>intro l xs h1 h2; exact he l xs h1 h2
 | cons p r ih =>
  intro l xs h1 h2
  obtain ⟨b,s⟩:=p
  obtain ⟨l',e,q⟩:=hs l xs b s h1 h2
  show ∃ l',((g (bitP b s)).bind fun t=>(fb (t ++ l)).bind _)=_∧_
  rw [← Option.bind_assoc,e]
  cases hT:rowT m i b with
  | true =>
   rw [hT] at q
   exact ⟨l',rfl,by simpa [rowC,hT] using q⟩
  | false =>
   rw [hT] at q
   obtain ⟨l2,e2,q2⟩:=ih l' xs (by simpa using q) h2
   exact ⟨l2,e2,by simpa [rowC,hT] using q2⟩
theorem outer_of {g:PV→Option Lc} {fb fe:Lc→Option Out} {m:Int}
  (hs:∀ (l:Lc) xs (i:Nat) r,MG l m xs→xs.length≤1000→r.length≤100→∃ l',((g (.tup [.int i,.tup (rowP r)])).bind fun t=>fb (t ++ l))=some (.go l')∧MG l' m (xs ++ [strP (rowC m i r)])) (he:∀ l,fe l=some (.go l)) :
  ∀ (rs:List (List (Int × String))) n l xs,MG l m xs→xs.length + rs.length≤1000→(∀ r∈rs,r.length≤100)→∃ l',forO g fb fe ((rs.zipIdx n).map fun p=>.tup [.int p.2,.tup (rowP p.1)]) l=some (.go l')∧MG l' m (xs ++ (rs.zipIdx n).map fun p=>strP (rowC m p.2 p.1)):=by
 intro rs
 induction rs with
 | nil=>intro n l xs h1 h2 _; exact ⟨l,he l,by simpa using h1⟩
 | cons r rs ih =>
  intro n l xs h1 h2 h3
  have h2':xs.length + rs.length + 1≤1000:=by simpa [Nat.add_assoc] using h2
  obtain ⟨l',e,q⟩:=hs l xs n r h1 (by lia) (h3 r (by simp))
  obtain ⟨l2,e2,q2⟩:=ih (n + 1) l' _ q (by simp; lia) fun r m=>h3 r (by simp [m])
  refine ⟨l2,?_,by simpa [List.zipIdx_cons] using q2⟩
  rw [List.zipIdx_cons,map_cons]
  show ((g (.tup [.int n,.tup (rowP r)])).bind fun t=>(fb (t ++ l)).bind _)=_
  rw [← Option.bind_assoc,e]
  exact e2
noncomputable def tabL:List (List (Int × String)):=[
 [(40960,"l"),(49152,"s"),(32768,"-"),(24576,"b"),(16384,"d"),(8192,"c"),(4096,"p")],
 [(256,"r")],[(128,"w")],[(2112,"s"),(2048,"S"),(64,"x")],
 [(32,"r")],[(16,"w")],[(1032,"s"),(1024,"S"),(8,"x")],
 [(4,"r")],[(2,"w")],[(513,"t"),(512,"T"),(1,"x")]]
noncomputable def modeCs (m:Int):List String:=(tabL.zipIdx 0).map fun p=>rowC m p.2 p.1
noncomputable def modePV (p:PV):Option PStr:=p.toInt.bind fun m=>(joinPV [.str (ofString ""),.list ((modeCs m).map strP)]).bind PV.toStr
theorem mode_inv {p:PV} {y:PStr} {P:Prop} (h:modePV p=some y) (k:∀ m,p = .int m→joinPV [.str (ofString ""),.list ((modeCs m).map strP)]=some (.str y)→P):P :=
 zB1 h fun m e h=>zB1 h fun q e' h=>k m (PV.toInt_inv e) (e'.trans (congrArg some (PV.toStr_inv h)))
theorem loop_goal {f1 fb fe f3:Lc→Option Out} {g:PV→Option Lc} {m:Int} {y:PStr}
  (h1:∃ l1,f1 [(ofString "mode",.fz (.int m))]=some (.go l1)∧MG l1 m [])
  (he:∀ l,fe l=some (.go l))
  (h3:∀ l2,MG l2 m ((modeCs m).map strP)→f3 l2=some (.ret (.str y)))
  (hs:∀ (l:Lc) xs (i:Nat) r,MG l m xs→xs.length≤1000→r.length≤100→∃ l',((g (.tup [.int i,.tup (rowP r)])).bind fun t=>fb (t ++ l))=some (.go l')∧MG l' m (xs ++ [strP (rowC m i r)])) :
  ∃ l1 l2,f1 [(ofString "mode",.fz (.int m))]=some (.go l1)∧((seqOf modeTab).bind fun xs=>forO g fb fe (enumPV xs) l1)=some (.go l2)∧f3 l2=some (.ret (.str y)):=by
 obtain ⟨l1,e1,q1⟩:=h1
 obtain ⟨l2,e2,q2⟩:=outer_of hs he tabL 0 l1 [] q1 (by decide) (by decide)
 refine ⟨l1,l2,e1,e2,h3 l2 ?_⟩
 simpa [modeCs,Function.comp_def] using q2
theorem inner_goal {fb fe:Lc→Option Out} {g:PV→Option Lc} {m i:Int} {xs:List PV} {r:List (Int × String)} {L:Lc}
  (hT:look L (ofString "table")=some (.fz (.tup (rowP r)))) (hL:MI L m i xs) (hx:xs.length≤1000) (hr:r.length≤100)
  (hs:∀ l xs b s,MI l m i xs→xs.length≤1000→∃ l',((g (bitP b s)).bind fun t=>fb (t ++ l))=(if rowT m i b then some (.brk l') else some (.go l'))∧(if rowT m i b then MG l' m (xs ++ [strP s]) else MI l' m i xs))
  (he:∀ l xs,MI l m i xs→xs.length≤1000→∃ l',fe l=some (.go l')∧MG l' m (xs ++ [strP (if i=0 then "?" else "-")])) :
  ∃ l',seqO (fun l=>(cV (ofString "table") l).bind fun p=>(iterPV p).bind fun ps=>forO g fb fe ps l) (fun l=>some (.go l)) L=some (.go l')∧MG l' m (xs ++ [strP (rowC m i r)]):=by
 obtain ⟨l2,e,q⟩:=inner_of hs he r L xs hL hx
 refine ⟨l2,?_,q⟩
 refine seqO_id.trans ?_
 show (cV (ofString "table") L).bind _=_
 rw [zA3 hT,bind_some,iter_tup (show (rowP r).length≤1000000 by unfold rowP; rw [length_map]; exact le_trans hr (by decide)),bind_some,e]
theorem turn_end {X:Option Out} {m i b:Int} {L L':Lc} {P Q:Lc→Prop} (e:X=if rowT m i b=true then some (.brk L') else some (.go L)) (h1:P L') (h2:Q L) :
  ∃ l',X=(if rowT m i b=true then some (.brk l') else some (.go l'))∧(if rowT m i b=true then P l' else Q l'):=by
 cases h:rowT m i b with
 | true=>rw [h] at e; exact ⟨L',e,h1⟩
 | false=>rw [h] at e; exact ⟨L,e,h2⟩
theorem bit_if {u:Lc→Option Bool} {A:Lc→Option Out} {c:Bool} {L L':Lc} (hu:u L=some c) (hA:A L=some (.brk L')):seqO (fun l=>(u l).bind fun x=>if x=true then A l else some (.go l)) (fun l=>some (.go l)) L=if c=true then some (.brk L') else some (.go L):=by
 refine seqO_id.trans ?_
 show (u L).bind _=_
 rw [hu]
 cases c with
 | true=>exact hA
 | false=>rfl
theorem row_turn {i m b:Int} {t:Option Bool} {B1 B2:Option Out} {L L':Lc} (ht:t=some (i == 0)) (h1:B1=if (Builtin.bitAnd m 61440 == b)=true then some (.brk L') else some (.go L)) (h2:B2=if (Builtin.bitAnd m b == b)=true then some (.brk L') else some (.go L)) :
  (t.bind fun x=>if x=true then B1 else B2)=if rowT m i b=true then some (.brk L') else some (.go L):=by
 subst ht h1 h2
 unfold rowT
 by_cases h:i=0
 ·rw [if_pos h,beq_iff_eq.mpr h]; rfl
 ·rw [if_neg h,beq_eq_false_iff_ne.mpr h]; rfl
theorem else_if {i:Int} {t:Option Bool} {B1 B2:Option Out} {L1 L2:Lc} (ht:t=some (i == 0)) (h1:B1=some (.go L1)) (h2:B2=some (.go L2)):(t.bind fun x=>if x=true then B1 else B2)=some (.go (if i=0 then L1 else L2)):=by
 subst ht h1 h2
 by_cases h:i=0
 ·rw [if_pos h,beq_iff_eq.mpr h]; rfl
 ·rw [if_neg h,beq_eq_false_iff_ne.mpr h]; rfl
theorem else_end {X:Option Out} {m i:Int} {xs:List PV} {l:Lc} (e:X=some (.go (if i=0 then (ofString "perm",.ow (.list (xs ++ [strP "?"]))) :: l else (ofString "perm",.ow (.list (xs ++ [strP "-"]))) :: l))) (q1:look l (ofString "mode")=some (.fz (.int m))) :
  ∃ l',X=some (.go l')∧MG l' m (xs ++ [strP (if i=0 then "?" else "-")]):=by
 refine ⟨_,e,?_⟩
 by_cases h:i=0
 ·rw [if_pos h,if_pos h]; exact ⟨q1,rfl⟩
 ·rw [if_neg h,if_neg h]; exact ⟨q1,rfl⟩
theorem f_filemode {k:Nat}:FnStr (k + 1) 264 modePV:=by
 apply tab_fn (x:=ofString "mode")
 case hat=>exact fun P=>⟨_,rfl,rfl⟩
 case hcode=>exact fun P=>⟨_,_,_,_,rfl,rfl,rfl,rfl⟩
 case hsc=>rfl
 case hxs=>rfl
 case hcell=>rfl
 case H1=>exact zG3 (.inl rfl) (zH0 zA4) (fun _ _=>rfl)
 case T=>exact wg_pair rfl
 case B=>exact (zA1 (zG4 (zA2 (.inl rfl) rfl) (wg_pair rfl) (zA1 (zO3 (wt_eq (zA2 (.inl rfl) rfl) zB0 rfl) (zA1 (zO3 (wt_eq (zC9 f_SIFMT gv_SIFMT (fun P=>⟨_,_,rfl,rfl⟩) rfl rfl (zA0 (zA2 (.inl rfl) rfl) zA4 rfl)) (zA2 (.inl rfl) rfl) rfl) (zA1 (zC8 (.inl rfl) rfl (zA2 (.inl rfl) rfl) rfl (fun _=>rfl) rfl rfl)
 (zA1 ws_break
 zA8)) zA8)
 zA8) (zA1 (zO3 (wt_eq (w_and (zA2 (.inl rfl) rfl) (zA2 (.inl rfl) rfl)) (zA2 (.inl rfl) rfl) rfl) (zA1 (zC8 (.inl rfl) rfl (zA2 (.inl rfl) rfl) rfl (fun _=>rfl) rfl rfl)
 (zA1 ws_break
 zA8)) zA8)
 zA8))
 zA8) (zA1 (zO3 (wt_eq (zA2 (.inl rfl) rfl) zB0 rfl) (zA1 (zC8 (.inl rfl) rfl zE5 rfl (fun _=>rfl) rfl rfl)
 zA8) (zA1 (zC8 (.inl rfl) rfl zE5 rfl (fun _=>rfl) rfl rfl)
 zA8))
 zA8) fun _ _=>rfl)
 zA8)
 case E=>exact zA8
 case H3=>exact zD9 (zM7 m_join b_join zE5 (zA0 (zA2 (.inl rfl) rfl) zA4 rfl) rfl rfl (fun _=>rfl) rfl)
 case hx=>rfl
 case hx2=>rfl
 case htp=>exact ⟨_,_,_,rfl⟩
 case hs=>exact fun _ _=>rfl
 case hbind=>exact fun _=>rfl
 case hψ =>
  intro p y h
  refine mode_inv h fun m e1 h'=>?_
  subst e1
  refine loop_goal ⟨_,rfl,⟨rfl,rfl⟩⟩ (fun _=>rfl) ?J ?S
  case J =>
   intro l2 q
   exact (congrArg (Option.map Out.ret) (meth1 (f:=cK (.str (ofString ""))) rfl (cc1 (zA3 (zE3 q.2))) h')).trans rfl
  case S =>
   intro l xs i r q hx hr
   show ∃ l',_=some (Out.go l')∧_
   refine inner_goal (i:=i) rfl ⟨⟨?_,?_⟩,rfl⟩ hx hr ?_ ?_
   ·exact q.1
   ·exact q.2
   ·intro l xs b s q hx
    obtain ⟨⟨q1,q2⟩,q3⟩:=q
    have q1:look ([(ofString "char",.fz (strP s)),(ofString "bit",.fz (.int b))] ++ l) (ofString "mode")=some (.fz (.int m)):=q1
    have q2:look ([(ofString "char",.fz (strP s)),(ofString "bit",.fz (.int b))] ++ l) (ofString "perm")=some (.ow (.list xs)):=q2
    have q3:look ([(ofString "char",.fz (strP s)),(ofString "bit",.fz (.int b))] ++ l) (ofString "index")=some (.fz (.int i)):=q3
    refine turn_end (P:=fun l'=>MG l' m (xs ++ [strP s])) (Q:=fun l'=>MI l' m i xs) (bdT rfl (seqO_id.trans (row_turn (asB_at (zA7 (zA3 q3) rfl rfl)) (bit_if (asB_at (zA7 (bd1 (cc1 (zA3 q1)) rfl) (zA3 rfl) rfl)) ((zA5 (app_go2 q2 (zA3 rfl) hx)).trans (seqO_brk rfl))) (bit_if (asB_at (zA7 (zA7 (zA3 q1) (zA3 rfl) rfl) (zA3 rfl) rfl)) ((zA5 (app_go2 q2 (zA3 rfl) hx)).trans (seqO_brk rfl)))))) ?_ ?_
    ·exact ⟨q1,rfl⟩
    ·exact ⟨⟨q1,q2⟩,q3⟩
   ·intro l xs q hx
    obtain ⟨⟨q1,q2⟩,q3⟩:=q
    exact else_end (seqO_id.trans (else_if (asB_at (zA7 (zA3 q3) rfl rfl)) (seqO_id.trans (app_go2 q2 rfl hx)) (seqO_id.trans (app_go2 q2 rfl hx)))) q1
noncomputable def headS (x:PStr):PStr:=strPick x none (some (Txt.rfind x (ofString "/") + 1))
noncomputable def dirS (x:PStr):PStr :=
 let head:=headS x
 if 0 < head.length∧head≠Txt.mul (ofString "/") head.length then Txt.rstripChars head (ofString "/") else head
noncomputable def dirPV:List PV→Option PV:=args1 fun p=>p.toStr.bind fun x=>if (headS x).length≤1000 then some (.str (dirS x)) else none
theorem dir_inv {ps:List PV} {p:PV} {P:Prop} (h:dirPV ps=some p) (k:∀ x,(headS x).length≤1000→ps=[.str x]→.str (dirS x)=p→P):P :=
 zD6 h fun a e h=>zB1 h fun x e' h=>k x (zG0 h).1 (PV.toStr_inv e' ▸ e) (zG0 h).2
theorem dir_if {x y:PStr} {n:Nat} {t:Option Bool} {a b:Option Out} {l1 l2:Lc} (ht:t=some (decide (0 < n) && !decide (x=y))) (h1:a=some (.go l1)) (h2:b=some (.go l2)) :
  (t.bind fun c=>if c=true then a else b)=some (.go (if 0 < n∧x≠y then l1 else l2)):=by
 subst ht h1 h2
 by_cases a:0 < n
 ·by_cases b:x=y
  ·rw [if_neg fun q=>q.2 b,decide_eq_true a,decide_eq_true b]; rfl
  ·rw [if_pos ⟨a,b⟩,decide_eq_true a,decide_eq_false b]; rfl
 ·rw [if_neg fun q=>a q.1,decide_eq_false a]; rfl
theorem f_dirname {k:Nat}:FnSound (k + 1) 205 dirPV:=by
 skip
 apply fn_w [ofString "p"]
 case hat=>exact fun P=>⟨_,rfl,rfl⟩
 case hcode=>exact fun P=>⟨_,_,_,_,rfl,rfl,rfl,rfl⟩
 case hsc=>rfl
 case hxs=>rfl
 case hbind=>exact bind1 (fun _=>rfl)
 case B =>
  exact (zA1 (zB8 (.inl rfl) (zC9 f_fspath zN5 (fun P=>⟨_,_,rfl,rfl⟩) rfl rfl (zA0 (zA2 (.inl rfl) rfl) zA4 rfl)) fun _=>rfl)
 (zA1 (zB8 (.inl rfl) (zC9 f_getsep gv_getsep (fun P=>⟨_,_,rfl,rfl⟩) rfl rfl (zA0 (zA2 (.inl rfl) rfl) zA4 rfl)) fun _=>rfl)
 (zA1 (zB8 (.inl rfl) (zE0 (zM7 m_rfind b_rfind (zA2 (.inl rfl) rfl) (zA0 (zA2 (.inl rfl) rfl) zA4 rfl) rfl rfl (fun _=>rfl) rfl) zB0) fun _=>rfl)
 (zA1 (zB8 (.inl rfl) (zH8 (zA9 (.inl rfl) rfl) zD5 (zF6 (zA2 (.inl rfl) rfl)) zD5 _ fun _ _=>rfl) fun _=>rfl)
 (zA1 (zO3 (wt_and (zL3 (zA2 (.inl rfl) rfl) fun _ _=>rfl) (wt_ne (zA2 (.inl rfl) rfl) (w_mul (zA2 (.inl rfl) rfl) (w_len rfl rfl (zA9 (.inl rfl) rfl))) rfl)) (zA1 (zB8 (.inl rfl) (zM7 m_rstrip b_rstrip (zA2 (.inl rfl) rfl) (zA0 (zA2 (.inl rfl) rfl) zA4 rfl) rfl rfl (fun _=>rfl) rfl) fun _=>rfl)
 zA8) zA8)
 (zA1 (zD9 (zA2 (.inl rfl) rfl))
 zA8))))))
 case hφ =>
  intro ps p h
  refine dir_inv h fun x hz e1 e2=>?_
  subst e1 e2
  have z:(headS x).length≤1000000:=le_trans hz (by decide)
  refine zG6 (L:=[(ofString "p",.fz (.str x))]) rfl ?_
  rw [zA5 (zB4 (bd1 (cc1 (zA3 rfl)) rfl)),zA5 (zB4 (bd1 (cc1 (zA3 rfl)) rfl)),zA5 (zB4 (zA7 (meth1 (zA3 rfl) (cc1 (zA3 rfl)) rfl) rfl rfl))]
  refine (zA5 (zB4 (zF3 (p:=.str x) (r:=.str (headS x)) (zC2 rfl) rfl (asI_at (zA3 rfl)) rfl (if_pos ⟨rfl,zA6 z⟩)))).trans ?_
  refine (zA5 (dir_if (x:=headS x) (and_at (tru_str (zA3 rfl) z) (asB_at (zA7 (r:=.bool (!decide (headS x=Txt.mul (ofString "/") ((headS x).length:Int)))) (zA3 rfl) (zA7 (zA3 rfl) (bdL (x:=cW (ofString "head") _) (p:=.str (headS x)) (zC2 rfl) (if_pos (zA6 z))) (if_pos ⟨by decide,Int.natCast_nonneg _,Int.ofNat_le.mpr hz⟩)) rfl))) (zA5 (zB4 (meth1 (zA3 rfl) (cc1 (zA3 rfl)) (if_pos (zA6 z))))) rfl)).trans ?_
  unfold dirS
  by_cases c:0 < (headS x).length∧headS x≠Txt.mul (ofString "/") ((headS x).length:Int)
  ·rw [if_pos c,if_pos c]; rfl
  ·rw [if_neg c,if_neg c]; rfl
theorem s_repl {k:Nat} {sc:Scope} {fn y z:PStr} {n1 n2:Nat} {np cp ap p1 p2 pos:Pos} {a:Addr} {e:Expr} {fs:Lc→Option (List PV)} {ψ:PV→Option PStr} (H:FnStr k a ψ) (G:GV fn (.ref a)) (hf:IsFn a)
  (hx:sc.names.lookup fn=some .globalImplicit) (hst:Stars [e]) (Hs:SoundEs (k + 1) sc [e] fs) (hyz:(y == z)=false) (hz:(decide (z.length≤14))=true)
  (hbase:∀ env,attributeBase (.Call (.Name fn np) [e] [] cp) (ofString "replace") env (eval (.Call (.Name fn np) [e] [] cp) env)=eval (.Call (.Name fn np) [e] [] cp) env)
  (hst2:Stars [.Constant (.str y) n1 p1,.Constant (.str z) n2 p2])
  (hfew:∀ env,((backTo pos (starEach [.Constant (.str y) n1 p1,.Constant (.str z) n2 p2] env)).all (fun x=>!x.1) && (backToKw pos (keywordEach [] env)).all (fun x=>x.1.isSome)
   && decide ([Expr.Constant (.str y) n1 p1,.Constant (.str z) n2 p2].length + ([]:List Keyword).length + (if ([]:List Keyword).isEmpty then 0 else 1) < 30))=true) (hline:(ap.endLine == pos.line)=true) :
  SoundE (k + 1) sc (.Call (.Attribute (.Call (.Name fn np) [e] [] cp) (ofString "replace") ap) [.Constant (.str y) n1 p1,.Constant (.str z) n2 p2] [] pos)
   (fun l=>(fs l).bind fun ps=>match ps with | [p]=>(ψ p).bind fun x=>if x.length≤1000 then some (.str (Txt.replace x y z)) else none | _=>none):=by
 intro C A env F l s p R S h
 obtain ⟨ps,hps,h1⟩:=bind_eq_some_iff.mp h
 clear h
 split at h1
 ·rename_i q
  obtain ⟨x,hψ,h2⟩:=bind_eq_some_iff.mp h1
  obtain ⟨hx1,rfl⟩:=zG0 h2
  refine wpAny_Call_method_lateS (hbase env) (hfew env) hline ?_
  show WP C A (do callWith cp (← eval (.Name fn np) env) [] (backTo cp (starEach [e] env)) (backToKw cp (keywordEach [] env))) _ s
  refine wpAny_bind (zC6 S.ok S.inv G hx ?_)
  obtain ⟨o,fd,hl,hd⟩:=hf C.w.params
  refine callWith_function (o:=o) (fd:=fd) (zI6 hst Hs R S hps fun vs s₁ X₁ S₁ r₁=>⟨⟨S₁.inv.K _ _ hl,hd⟩,?_⟩)
  obtain ⟨u,rfl,ru⟩:=one r₁
  refine (H C A _ s₁ q u x R S₁.inv S₁.sub S₁.off ru hψ).mono fun v s₂ P=>?_
  obtain ⟨⟨X₂,I₂,r₂⟩,hpos⟩:=P
  obtain ⟨t,rfl⟩:=zB6 r₂
  refine ⟨"str","str.replace",PySem.F.plainAttrs_str,PySem.F.slot_str_replace,PySem.F.type_str_replace,typeIs_str _ _ _,(fun _ e=>nomatch e),?_⟩
  refine callWith_builtin (zC1 hst2) ?_
  rw [hst2 env]
  refine evalArgs_plain (spliced_cons (wpAny_Constant_str (k:=n1) (pos:=p1) (spliced_cons (wpAny_Constant_str (k:=n2) (pos:=p2) (spliced_nil ?_)))))
  refine SC.replaceW (u:=s₂.toks) (v:=s₂.toks + 1) (Nat.pos_iff_ne_zero.mp hpos) (by show s₂.toks + 1≠0; lia) (by show s₂.toks≠s₂.toks + 1; lia) hyz (by lia) (of_decide_eq_true hz) fun t' k'=>?_
  exact Post.lift S.inv X₁ (Post.lift S₁.inv X₂ (Post.str I₂ k'))
 ·exact no h1
theorem w_repl {k:Nat} {sc:Scope} {fn y z:PStr} {n1 n2:Nat} {np cp ap p1 p2 pos:Pos} {a:Addr} {e:Expr} {fs:Lc→Option (List PV)} {ψ:PV→Option PStr} (H:FnStr k a ψ) (G:GV fn (.ref a)) (hf:IsFn a)
  (hx:sc.names.lookup fn=some .globalImplicit) (hst:notStar e=true) (Hs:WEs (k + 1) sc [e] fs) (hyz:(y == z)=false) (hz:(decide (z.length≤14))=true)
  (hbase:∀ env,attributeBase (.Call (.Name fn np) [e] [] cp) (ofString "replace") env (eval (.Call (.Name fn np) [e] [] cp) env)=eval (.Call (.Name fn np) [e] [] cp) env) (hline:(ap.endLine == pos.line)=true) :
  WE (k + 1) sc (.Call (.Attribute (.Call (.Name fn np) [e] [] cp) (ofString "replace") ap) [.Constant (.str y) n1 p1,.Constant (.str z) n2 p2] [] pos)
   (fun l=>(fs l).bind fun ps=>match ps with | [p]=>(ψ p).bind fun x=>if x.length≤1000 then some (.str (Txt.replace x y z)) else none | _=>none) :=
 ⟨s_repl H G hf hx (zD2 (by rw [all_cons,hst]; rfl)) Hs.h hyz hz hbase (zD2 rfl) (few_ok rfl rfl) hline⟩
theorem ws_try {k:Nat} {sc:Scope} {body:List Stmt} {h₀:ExceptHandler} {hs:List ExceptHandler} {pos:Pos} {fb:Lc→Option Out} (B:WB k sc body fb):WS k sc (.Try body (h₀ :: hs) [] [] pos) fb:=by
 refine ⟨fun C A env s₀ F₀ F K l s o R S h=>?_⟩
 refine wpAny_Try_except (wpAny_mono (B.h C A env s₀ F₀ F K l s o R S h) (fun f s' P=>?_) fun _ _ f=>f.elim)
 cases f with
 | next=>exact wpAny_execs_nil P
 | _=>exact P
theorem fn_enterM {k:Nat} {a:Addr} {fd:FuncData} {sc:Scope} {body:List Stmt} (D:FnData a fd sc body) {xs:List PStr} (hx:∀ x∈xs,sc.names.lookup x=some .local ∨ sc.names.lookup x=some .cell)
  {C:Cx} {A:Around} {s:Shared} {us:List Value} (R:Room (k + 1) A) (I:Inv C s) {Q:Value→Shared→Prop}
  (hb:wpAny (model PG C.w) A.in1 (bindArgs fd ⟨us,[]⟩) (fun bs s'=>∃ vs ps l F,bs=xs.zip vs∧Inv C s'∧F.sub s'.heap∧F.offTab∧RepL C.w F ps vs∧bindP xs ps []=some l ∧
   ∀ env s₁ K,Room k (A.deeper env)→FS C sc env s' F F K l s₁→WP C (A.deeper env) (execs body env) (fun f s'=>Q (match f with | .ret v=>v | _=>.none) s') s₁) (fun _ _=>False) s) :
  WP C A (call (.ref a) us) Q s:=by
 obtain ⟨o,ho,hd⟩:=D.at_ C.w.params
 obtain ⟨c,oc,cvs,t,hc,hoc,hdc,hv⟩:=D.code C.w.params
 refine wpAny_call (codeAny_call_function R.dep (I.K a o ho) hd D.co D.gen D.body ⟨c,oc,cvs,t,hc,I.K c oc hoc,hdc,hv⟩ ?_)
 rw [D.clo]
 refine wpAny_mono hb (fun bs s' hbs=>?_) fun _ _ f=>f.elim
 obtain ⟨vs,ps,l,F,rfl,I',hs,hT,r,hl,h⟩:=hbs
 refine wpAny_newFunctionEnv_cells D.kind (fun y hy=>?_) fun env he s₁ x=>?_
 ·have hy1:y.1∈xs:=(List.of_mem_zip (a:=y.1) (b:=y.2) hy).1
  rw [D.scope]
  rcases hx y.1 hy1 with q | q
  ·exact .inl q
  ·exact .inr ⟨q,zH7 (.inl (zD0 q))⟩
 have he':env=callEnvC fd s'.heap.objs.size a:=he
 subst he'
 have R':Room k (A.deeper (callEnvC fd s'.heap.objs.size a)):=⟨R.handled,by have:=R.depth; show A.depth + 1 + _≤_; lia,by have:=R.units; show A.units + 3 + _≤_; lia⟩
 obtain ⟨K,S⟩:=fs_start D hx I' hs hT r hl x
 exact ⟨I'.lim.keeps x.toInCall.keep,codeAny_func (wpAny_mono (h _ s₁ K R' S) (fun f s' h'=>h') fun _ _ f=>f.elim)⟩
theorem fn_star {a:Addr} {k:Nat} {name q:PStr} {params:Arguments} {body:List Stmt} {sc:Scope} {defaults kwd doc pm:Value} {ann:Option Addr} {cd ctup:Value} {fb:Lc→Option Out} {φ:List PV→Option PV} (x y:PStr)
  (hat:∀ P,∃ o,(KT P).lookup a=some o∧o.data = .func ⟨name,q,params,.stmts body,sc,mainGlobals,[],defaults,kwd,doc,pm,ann,cd,ctup,builtinsNs⟩)
  (hcode:∀ P,∃ c o vs t,cd = .ref c∧(KT P).lookup c=some o∧o.data = .fields vs∧vs[1]? = some (.str q t))
  (hsc:(!sc.isCoroutine && !sc.isGenerator && sc.kind == .function)=true) (hxs:([x,y].all fun x=>sc.names.lookup x == some .local || sc.names.lookup x == some .cell)=true)
  (B:WB k sc body fb)
  (hbind:∀ u v,bindArgs ⟨name,q,params,.stmts body,sc,mainGlobals,[],defaults,kwd,doc,pm,ann,cd,ctup,builtinsNs⟩ ⟨[u,v],[]⟩=(do pure [(x,u),(y,← newTuple [v])]))
  (hφ:∀ ps p,φ ps=some p→∃ p1 p2,ps=[p1,p2]∧(fb [(y,.fz (.tup [p2])),(x,.fz p1)]).bind outV=some p):FnSound k a φ:=by
 intro C A F s ps p vs R I hs hT r h
 obtain ⟨p1,p2,rfl,h1⟩:=hφ ps p h
 clear h
 obtain ⟨u,v,rfl,ru,rv⟩:=two r
 obtain ⟨o,ho,h⟩:=bind_eq_some_iff.mp h1
 rw [and_eq_true,and_eq_true] at hsc
 obtain ⟨⟨s1,s2⟩,s3⟩:=hsc
 have hx:∀ z∈[x,y],sc.names.lookup z=some .local ∨ sc.names.lookup z=some .cell:=fun z hz=>by
  have:=List.all_eq_true.mp hxs z hz
  simpa using this
 refine fn_enterM (xs:=[x,y]) ⟨hat,rfl,rfl,rfl,rfl,rfl,hcode,by simpa using s1,by simpa using s2,eq_of_beq s3⟩ hx R I ?_
 rw [hbind]
 refine wpAny_bind (wpAny_newTuple ?_)
 refine wpAny_pure ?_
 have P:=post_tup (C:=C) (F:=F) (n:=0) (vs:=[v].toArray) I hs (xs:=[p2]) (RepL.cons rv RepL.nil)
 refine ⟨[u,.ref s.heap.objs.size],[p1,.tup [p2]],_,F.ext s _,rfl,P.2,Fz.ext_sub (Fz.sub_step hs hT P.1),Fz.offTab_ext hT I,RepL.cons (Rep.mono (Fz.le_ext hs) ru) (RepL.cons P.3 RepL.nil),rfl,fun env s₁ K R' S=>?_⟩
 refine (B.h C _ env _ _ _ K _ s₁ o R' S ho).mono fun fl s' h'=>?_
 have h2:=h'.post h
 have:Post C F s p (flv fl) s':=Post.lift I P.1 h2
 cases fl <;> exact this
noncomputable def joinS (x y:PStr):PStr:=if Txt.startswith y (ofString "/")=true ∨ x.length=0 then y else if Txt.endswith x (ofString "/")=true then x ++ y else x ++ (ofString "/" ++ y)
noncomputable def join2PV:List PV→Option PV:=args2 (ss2 fun x y=>if x.length + y.length≤1000 then some (.str (joinS x y)) else none)
theorem join2_inv {ps:List PV} {p:PV} {P:Prop} (h:join2PV ps=some p) (k:∀ x y,x.length + y.length≤1000→ps=[.str x,.str y]→.str (joinS x y)=p→P):P :=
 zO2 h fun a b e h=>ss2_inv h fun x y e1 e2 h=>k x y (zG0 h).1 (e1 ▸ e2 ▸ e) (zG0 h).2
theorem join_turn {x y:PStr} {L:Lc} {t u:Option Bool} {f1 f2 f3:Lc→Option Out} (h1:t=some (Txt.startswith y (ofString "/"))) (h2:u=some (decide (0 < x.length))) {e:Lc→Option Bool} (h3:e L=some (Txt.endswith x (ofString "/")))
  (r1:f1 L=some (.go ((ofString "path",.fz (.str y)) :: L))) (r2:f2 L=some (.go ((ofString "path",.fz (.str (x ++ y))) :: L))) (r3:f3 L=some (.go ((ofString "path",.fz (.str (x ++ (ofString "/" ++ y)))) :: L))) :
  ((t.bind fun c=>if c=true then some true else u.map (!·)).bind fun c=>if c=true then f1 L else seqO (fun l=>(e l).bind fun c=>if c=true then f2 l else f3 l) (fun l=>some (.go l)) L)=some (.go ((ofString "path",.fz (.str (joinS x y))) :: L)):=by
 subst h1 h2
 unfold joinS
 cases Txt.startswith y (ofString "/") with
 | true=>exact r1.trans (by rw [if_pos (.inl rfl)])
 | false =>
  by_cases c:x.length=0
  ·rw [if_pos (.inr c),c]; exact r1
  ·rw [if_neg (fun q=>q.elim nofun c),decide_eq_true (Nat.pos_of_ne_zero c)]
   refine if_no rfl ?_
   refine zA5 (g:=fun l=>some (.go l)) ?_
   show ((e L).bind fun c=>if c=true then f2 L else f3 L)=_
   rw [h3]
   cases Txt.endswith x (ofString "/") with
   | true=>exact r2
   | false=>exact r3
theorem f_join {k:Nat}:FnSound (k + 1) 198 join2PV:=by
 skip
 apply fn_star (ofString "a") (ofString "p")
 case hat=>exact fun P=>⟨_,rfl,rfl⟩
 case hcode=>exact fun P=>⟨_,_,_,_,rfl,rfl,rfl,rfl⟩
 case hsc=>rfl
 case hxs=>rfl
 case hbind=>exact fun u v=>rfl
 case B =>
  exact (zA1 (zB8 (.inl rfl) (zC9 f_fspath zN5 (fun P=>⟨_,_,rfl,rfl⟩) rfl rfl (zA0 (zA2 (.inl rfl) rfl) zA4 rfl)) fun _=>rfl)
 (zA1 (zB8 (.inl rfl) (zC9 f_getsep gv_getsep (fun P=>⟨_,_,rfl,rfl⟩) rfl rfl (zA0 (zA2 (.inl rfl) rfl) zA4 rfl)) fun _=>rfl)
 (zA1 (zB8 (.inl rfl) (zA2 (.inl rfl) rfl) fun _=>rfl)
 (zA1 (ws_try (zA1 (zG4 (zA2 (.inl rfl) rfl) (zF4 (.inl rfl)) (zA1 (zB8 (.inl rfl) (zC9 f_fspath zN5 (fun P=>⟨_,_,rfl,rfl⟩) rfl rfl (zA0 (zA2 (.inl rfl) rfl) zA4 rfl)) fun _=>rfl)
  (zA1 (zO3 (wt_or (zL3 (zM7 m_startswith b_startswith (zA2 (.inl rfl) rfl) (zA0 (zA2 (.inl rfl) rfl) zA4 rfl) rfl rfl (fun _=>rfl) rfl) fun _ _=>rfl) (wt_not (zL3 (zA2 (.inl rfl) rfl) fun _ _=>rfl)))
   (zA1 (zB8 (.inl rfl) (zA2 (.inl rfl) rfl) fun _=>rfl) zA8)
   (zA1 (zO3 (zL3 (zM7 m_endswith b_endswith (zA2 (.inl rfl) rfl) (zA0 (zA2 (.inl rfl) rfl) zA4 rfl) rfl rfl (fun _=>rfl) rfl) fun _ _=>rfl)
    (zA1 (ws_iadd (.inl rfl) (zA2 (.inl rfl) rfl)) zA8)
    (zA1 (ws_iadd (.inl rfl) (zE0 (zA2 (.inl rfl) rfl) (zA2 (.inl rfl) rfl))) zA8)) zA8)) zA8)) zA8 fun _ _=>rfl) zA8))
 (zA1 (zD9 (zA2 (.inl rfl) rfl))
 zA8)))))
 case hφ =>
  intro ps p h
  refine join2_inv h fun x y hz e1 e2=>?_
  subst e1 e2
  refine ⟨_,_,rfl,out_ret ?_⟩
  have z1:x.length≤1000000:=le_trans (Nat.le_add_right _ _) (le_trans hz (by decide))
  have z2:x.length + y.length≤1000000:=le_trans hz (by decide)
  have z3:(ofString "/").length + y.length≤1000000:=le_trans (Nat.add_le_add_left (le_trans (Nat.le_add_left _ _) hz) 1) (by decide)
  have z4:x.length + (ofString "/" ++ y).length≤1000000:=by rw [zL8,Nat.add_left_comm]; exact le_trans (Nat.add_le_add_left hz 1) (by decide)
  rw [zA5 (zB4 (bd1 (cc1 (zA3 rfl)) rfl)),zA5 (zB4 (bd1 (cc1 (zA3 rfl)) rfl)),zA5 (zB4 (zA3 rfl))]
  refine (zA5 (l':=(ofString "path",.fz (.str (joinS x y))) :: (ofString "b",.fz (.str y)) :: (ofString "b",.fz (.str y)) :: [(ofString "path",.fz (.str x)),(ofString "sep",.fz (.str (ofString "/"))),(ofString "a",.fz (.str x)),(ofString "p",.fz (.tup [.str y])),(ofString "a",.fz (.str x))]) (zK3 (items:=[.str y]) (zA3 rfl) (iter_tup (xs:=[.str y]) (show 1≤1000000 by decide)) ((congrArg (fun z=>Option.bind z (goO fun l=>some (.go l))) (forO1 rfl ?_ rfl)).trans rfl))).trans rfl
  rw [zA5 (zB4 (bd1 (cc1 (zA3 rfl)) rfl))]
  exact zA5 (join_turn (x:=x) (y:=y) (tru_bool (meth1 (zA3 rfl) (cc1 (zA3 rfl)) rfl)) (tru_str (zA3 rfl) z1) (tru_bool (meth1 (zA3 rfl) (cc1 (zA3 rfl)) rfl)) (zA5 (zB4 (zA3 rfl))) (zA5 (zB4 (zA7 (zA3 rfl) (zA3 rfl) (iadd_str z2)))) (zA5 (zB4 (zA7 (zA3 rfl) (zA7 (zA3 rfl) (zA3 rfl) (addS_str z3)) (iadd_str z4)))))
theorem owner_map:Manifest.owners.lookup (String.ofList ['p','a','m'].reverse)=some Manifest.sig_map:=by kernel_rfl
theorem entry_map_iter:entryFor table "map.__iter__" = some Builtin.«dict_keyiterator.__iter__» :=
 entryFor_alias (id':="dict_keyiterator.__iter__") (by kernel_rfl) (by first | rfl | decide +kernel | (unfold String.splitOn; simp +decide [String.splitOnAux])) (by decide +kernel) (by kernel_rfl)
theorem mro_map:mroOf (.type "map")=pure [.type "map",.type "object"]:=by rw [mroOf_type]; kernel_rfl
theorem lookup_map_new:typeLookup (.type "map") "__new__" = pure (some (.builtin "map.__new__")):=by rw [typeLookup_type,builtinLookup_eq_fast]; kernel_rfl
theorem slot_map_init:Slot "map" "__init__" "object.__init__" :=
 .of (owner:="object") (n:="__init__") (by rw [typeLookup_type,builtinLookup_eq_fast]; kernel_rfl) (by decide +kernel) (by decide +kernel) (by decide +kernel)
  (by first | exact .inl (by decide +kernel) | exact .inr (by decide +kernel)) (by rw [isSubtype_type]; kernel_rfl)
theorem zN0:Slot "map" "__iter__" "map.__iter__" :=
 .of (owner:="map") (n:="__iter__") (by rw [typeLookup_type,builtinLookup_eq_fast]; kernel_rfl) (by decide +kernel) (by decide +kernel) (by decide +kernel)
  (by first | exact .inl (by decide +kernel) | exact .inr (by decide +kernel)) (by rw [isSubtype_type]; kernel_rfl)
theorem args_map_iter_1 (a:Value):argsOk "map.__iter__" ⟨[a],[]⟩:=by
 unfold argsOk; rw [signature?_of (id:="map.__iter__") (n:=['_','_','r','e','t','i','_','_']) (o:=['p','a','m']) (by kernel_rfl) owner_map]; kernel_rfl
theorem slot_map_next:Slot "map" "__next__" "map.__next__" :=
 .of (owner:="map") (n:="__next__") (by rw [typeLookup_type,builtinLookup_eq_fast]; kernel_rfl) (by decide +kernel) (by decide +kernel) (by decide +kernel)
  (by first | exact .inl (by decide +kernel) | exact .inr (by decide +kernel)) (by rw [isSubtype_type]; kernel_rfl)
theorem zL5:entryFor table "map.__next__" = some Builtin.«map.__next__»:=entryFor_of_tree (by kernel_rfl)
theorem zK1 (a:Value):argsOk "map.__next__" ⟨[a],[]⟩:=by
 unfold argsOk; rw [signature?_of (id:="map.__next__") (n:=['_','_','t','x','e','n','_','_']) (o:=['p','a','m']) (by kernel_rfl) owner_map]; kernel_rfl
theorem called_map:TypeCalled "map" "map.__new__" "object.__init__" :=
 ⟨by decide +kernel,by decide +kernel,⟨_,_,mro_map⟩,madeBy_type mro_map lookup_map_new (by decide +kernel),by decide +kernel,by rw [isSubtype_type]; kernel_rfl,slot_map_init⟩
theorem typeCall_map_2 (a b:Value):checkTypeCall "map" ⟨[a,b],[]⟩=pure ():=by kernel_rfl
theorem newCall_map_2 (a b:Value):checkBuiltinCall "map.__new__" ⟨[.type "map",a,b],[]⟩=pure ():=by kernel_rfl
theorem entry_map_new:entryFor table "map.__new__" = some Builtin.«map.__new__»:=entryFor_of_tree (by kernel_rfl)
theorem sub_map:isSubtype (.type "map") (.type "map")=pure true:=by rw [isSubtype_type]; kernel_rfl
theorem map_no_len:typeLookup (.type "map") "__len__" = pure none:=by rw [typeLookup_type,builtinLookup_eq_fast]; kernel_rfl
theorem map_no_hint:typeLookup (.type "map") "__length_hint__" = pure none:=by rw [typeLookup_type,builtinLookup_eq_fast]; kernel_rfl
abbrev IsMap (h:Heap) (z T:Addr) (f:Value):Prop:=h.get? z=some { cls:=.type "map",dict:=none,data:=.fields #[.ref T,f],slots:=#[] }
abbrev IsOne (h:Heap) (T:Addr) (a:Value):Prop:=h.get? T=some { cls:=.type "tuple",data:=.seq #[a] }
abbrev mapH1 (h:Heap) (l:Addr):Heap:=h.push { cls:=.type "list_iterator",data:=.fields #[.ref l,.int 0 0] }
abbrev mapH2 (h:Heap) (l:Addr):Heap:=(mapH1 h l).push { cls:=.type "tuple",data:=.seq #[.ref h.objs.size] }
abbrev mapH3 (h:Heap) (l:Addr) (f:Value):Heap:=(mapH2 h l).push { cls:=.type "map",data:=.fields #[.ref (mapH1 h l).objs.size,f] }
theorem meets_map_new (l:Addr) (f:Value) (xs:Array Value) :
  Meets (Builtin.«map.__new__» ⟨[.type "map",f,.ref l],[]⟩) (fun _ R s=>s.heap.IsList l xs ∧
   R (.ok (.ret (.ref (mapH2 s.heap l).objs.size))) { s with heap:=mapH3 s.heap l f }) :=
 .of_wp fun prog w A R s h=>by
  obtain ⟨hp,g,d,tk,os⟩:=s; obtain ⟨hl1,h⟩:=h
  have hsub:=sub_map
  have hL1:Heap.IsList (Shared.heap ⟨hp,g,d,tk,os⟩) l xs:=hl1
  wp_walk using wpAny_pyIter_list hL1
  exact ⟨_,rfl,h⟩
section
variable {prog:Program} {w:World} {A:Around} {E:Value→Shared→Prop} {s:Shared}
theorem call_map_2 {l:Addr} {f:Value} {xs:Array Value} {Q:Value→Shared→Prop} (hl:s.heap.IsList l xs)
  (h:∀ h',IsMap h' (s.heap.objs.size + 2) (s.heap.objs.size + 1) f→IsOne h' (s.heap.objs.size + 1) (.ref s.heap.objs.size)→h'.IsListIter s.heap.objs.size l 0→h'.objs.size=s.heap.objs.size + 3 →
   (∀ b o,s.heap.get? b=some o→h'.get? b=some o)→Q (.ref (s.heap.objs.size + 2)) { s with heap:=h' }) :
  wpAny (model prog w) A (call (.type "map") [f,.ref l]) Q E s:=by
 refine callType_new called_map (by decide) (typeCall_map_2 _ _) (newCall_map_2 _ _) (fun obj=>PySem.F.args_object_init_3 obj _ _) entry_map_new
  (meets_map_new l f xs) ⟨hl,?_⟩
 have z1:(mapH1 s.heap l).objs.size=s.heap.objs.size + 1:=size_push ..
 have z2:(mapH2 s.heap l).objs.size=s.heap.objs.size + 2:=by rw [mapH2,size_push,z1]
 have hm:IsMap (mapH3 s.heap l f) (s.heap.objs.size + 2) (s.heap.objs.size + 1) f:=by
  have:=get?_push_size (mapH2 s.heap l) (o:={ cls:=.type "map",data:=.fields #[.ref (mapH1 s.heap l).objs.size,f] }) rfl
  rw [z2,z1] at this; unfold IsMap mapH3; rw [z1]; exact this
 show _∧_
 rw [z2]
 refine ⟨⟨_,hm,rfl⟩,h _ hm ?_ ⟨_,get?_push_of_some _ (get?_push_of_some _ (get?_push_size _ rfl)),rfl,rfl⟩ (by rw [mapH3,size_push,z2]) fun b o e=>get?_push_of_some _ (get?_push_of_some _ (get?_push_of_some _ e))⟩
 have:=get?_push_size (mapH1 s.heap l) (o:={ cls:=.type "tuple",data:=.seq #[.ref s.heap.objs.size] }) rfl
 rw [z1] at this
 exact get?_push_of_some _ this
theorem wpAny_pyIter_map {z T:Addr} {f:Value} {Q:Value→Shared→Prop} (hz:IsMap s.heap z T f) (h:Q (.ref z) s):wpAny (model prog w) A (pyIter (.ref z)) Q E s:=by
 have hT:s.TypeIs (.ref z) "map":=⟨_,hz,rfl⟩
 refine wpAny_pyIter_slot hT zN0 (wpAny_call_entry zN0 hT entry_map_iter ?_ (args_map_iter_1 _))
 show wpAny _ _ (ret (.ref z)) _ _ s
 exact wpAny_pure ⟨_,rfl,"map",_,hT,slot_map_next.lookup,h⟩
theorem map_next_item {z T it l:Addr} {i:Nat} {xs:Array Value} {x f:Value} {Q:Value→Shared→Prop} (hz:IsMap s.heap z T f) (hT:IsOne s.heap T (.ref it)) (h1:s.heap.IsListIter it l i) (hl:s.heap.IsList l xs) (hx:xs[i]? = some x) (hzi:z≠it)
  (hf:∀ h',h'.IsListIter it l (i + 1)→SameBut it s.heap h'→wpAny (model prog w) A (call f [x]) Q E { s with heap:=h' }) :
  wpAny (model prog w) A (Builtin.«map.__next__» ⟨[.ref z],[]⟩) (fun fin s'=>∃ v,fin = .done (.ret v)∧Q v s') E s:=by
 show wpAny _ _ (field (.ref z) 0 >>= _) _ _ _
 refine wpAny_bind (wpAny_field hz rfl (x:=.ref T) rfl ?_)
 refine wpAny_bind (wpAny_seqItems hT rfl ?_)
 simp only [forIn_cons,List.forIn_nil,Array.forIn_toList,← Array.forIn_toList]
 refine wpAny_bind (wpAny_bind ?_)
 refine wpAny_bind (wpAny_holding (wpAny_nextOf_list_item h1 hl hx fun h₂ h1₂ hs₂=>wpAny_pure (wpAny_pure ?_)))
 have hz₂:IsMap h₂ z T f:=hs₂.extBut _ _ hzi hz
 refine wpAny_bind (wpAny_field hz₂ rfl (x:=f) rfl ?_)
 refine wpAny_bind (wpAny_holding ?_)
 refine wpAny_mono (hf h₂ h1₂ hs₂) (fun v s' hq=>?_) fun _ _ e=>e
 exact wpAny_bind (wpAny_letGo (wpAny_pure ⟨_,rfl,hq⟩))
end
section
variable {prog:Program} {w:World} {A:Around} {E:Value→Shared→Prop} {s:Shared}
theorem zJ0 {z T it l:Addr} {i:Nat} {xs:Array Value} {x f:Value} {Q:Option Value→Shared→Prop} (hz:IsMap s.heap z T f) (hT:IsOne s.heap T (.ref it)) (h1:s.heap.IsListIter it l i) (hl:s.heap.IsList l xs) (hx:xs[i]? = some x) (hzi:z≠it)
  (hf:∀ h',h'.IsListIter it l (i + 1)→SameBut it s.heap h'→∀ E',wpAny (model prog w) A.in1 (call f [x]) (fun v s'=>Q (some v) s') E' { s with heap:=h' }) :
  wpAny (model prog w) A (pyNext (.ref z)) Q E s:=by
 have hTy:s.TypeIs (.ref z) "map":=⟨_,hz,rfl⟩
 unfold pyNext
 exact wpAny_bind (wpAny_attempt (wpAny_callSpecial?_slot (name:=Str.ofString "__next__") hTy slot_map_next
  (wpAny_call_entry slot_map_next hTy zL5
   (map_next_item hz hT h1 hl hx hzi fun h' a b=>wpAny_mono (hf h' a b _) (fun v s' hq=>wpAny_pure hq) fun _ _ e=>e) (zK1 _))))
theorem zL2 {z T it l:Addr} {i:Nat} {xs:Array Value} {f:Value} {Q:Option Value→Shared→Prop} (hh:A.handled=none) (hz:IsMap s.heap z T f) (hT:IsOne s.heap T (.ref it)) (h1:s.heap.IsListIter it l i) (hl:s.heap.IsList l xs) (hx:xs[i]? = none)
  (hQ:∀ h',ExtBut it s.heap h'→Q none { s with heap:=h' }) :
  wpAny (model prog w) A (pyNext (.ref z)) Q E s:=by
 have hTy:s.TypeIs (.ref z) "map":=⟨_,hz,rfl⟩
 unfold pyNext
 refine wpAny_bind (wpAny_attempt (wpAny_callSpecial?_slot (name:=Str.ofString "__next__") hTy slot_map_next
  (wpAny_call_entry slot_map_next hTy zL5 ?_ (zK1 _))))
 show wpAny _ _ (field (.ref z) 0 >>= _) _ _ _
 refine wpAny_bind (wpAny_field hz rfl (x:=.ref T) rfl ?_)
 refine wpAny_bind (wpAny_seqItems hT rfl ?_)
 simp -iota only [forIn_cons,List.forIn_nil,← Array.forIn_toList]
 refine wpAny_bind (wpAny_bind ?_)
 refine wpAny_bind (wpAny_holding (wpAny_nextOf_list_end hh h1 hl hx fun h' e hs' he=>?_))
 obtain ⟨o,ho,hc⟩:=he
 refine wpAny_bind (wpAny_isInstance (T:="StopIteration") (b:=true) ⟨o,ho,hc⟩ isSubtype_stop ?_)
 exact wpAny_pure (hQ _ hs')
end
theorem walks_map {prog:Program} {w:World} {A:Around} (hh:A.handled=none) {z T it l:Addr} {f:Value} {xs:Array Value} {s₀:Shared} (hzi:z≠it) (hTi:T≠it) (hli:l≠it) (hi0:s₀.heap.objs.size≤it)
  (hf:∀ (s:Shared) (x:Value) (Q:Value→Shared→Prop) (E:Value→Shared→Prop),(∀ b o,s₀.heap.get? b=some o→s.heap.get? b=some o)→s.gens=s₀.gens∧s.drawn=s₀.drawn∧s.os=s₀.os→(∃ i:Nat,xs[i]? = some x)→(∀ h' tk,s.toks≤tk→(∀ b o,s.heap.get? b=some o→h'.get? b=some o)→Q x { s with heap:=h',toks:=tk })→wpAny (model prog w) A.in1 (call f [x]) Q E s) :
  WalksS prog w A z (z :: T :: it :: l :: range s₀.heap.objs.size) [it] (fun a b=>b=a) xs.size (fun i v=>xs[i]? = some v) (fun i s=>IsMap s.heap z T f∧IsOne s.heap T (.ref it)∧s.heap.IsListIter it l i∧s.heap.IsList l xs∧(∀ b o,s₀.heap.get? b=some o→s.heap.get? b=some o)∧s.gens=s₀.gens∧s.drawn=s₀.drawn∧s.os=s₀.os) where
 sub:=fun b hb=>by rw [mem_singleton.mp hb]; simp -iota
 grefl:=fun _=>rfl
 gtrans:=fun _ _ _ h1 h2=>h2.trans h1
 frame:=fun i s h' tk st _ hk=>by
  obtain ⟨a,b,c,d,e,g⟩:=st
  refine ⟨hk z (by simp -iota) _ a,hk T (by simp -iota) _ b,c.at fun o x=>hk it (by simp -iota) o x,d.at fun o x=>hk l (by simp -iota) o x,fun b o x=>hk b ?_ o (e b o x),g⟩
  exact mem_cons_of_mem _ (mem_cons_of_mem _ (mem_cons_of_mem _ (mem_cons_of_mem _ (mem_range.mpr (lt_size x)))))
 item:=fun i s Q E hi st hQ=>by
  obtain ⟨a,b,c,d,e,g⟩:=st
  have hx:xs[i]? = some xs[i]:=by simp -iota [hi]
  refine zJ0 a b c d hx hzi fun h₁ c₁ s₁ E'=>?_
  have e₁:∀ b o,s₀.heap.get? b=some o→h₁.get? b=some o:=fun b o x=>s₁.extBut b o (ne_of_lt (Nat.lt_of_lt_of_le (lt_size x) hi0)) (e b o x)
  refine hf _ _ _ _ e₁ g ⟨i,hx⟩ fun h₂ tk htk hk=>?_
  have up:∀ b o,b≠it→s.heap.get? b=some o→h₂.get? b=some o:=fun b o n x=>hk b o (s₁.extBut b o n x)
  exact hQ _ _ hx ⟨up _ _ hzi a,up _ _ hTi b,c₁.at fun o x=>hk _ o x,d.at fun o x=>up _ o hli x,fun b o x=>hk b o (e₁ b o x),g⟩ ⟨fun b o hb x=>up b o (fun q=>hb (by simp -iota [q])) x,rfl,rfl,rfl,htk⟩
 done:=fun s Q E st hQ=>by
  obtain ⟨a,b,c,d,e⟩:=st
  exact zL2 hh a b c d (by simp -iota) fun h' hs'=>hQ _ ⟨fun b o hb x=>hs' b o (fun q=>hb (by simp -iota [q])) x,rfl,rfl,rfl,le_refl _⟩
 self:=fun i s Q E st hQ=>wpAny_pyIter_map st.1 hQ
section
variable {prog:Program} {w:World} {A:Around} {E:Value→Shared→Prop} {s:Shared} {I:Addr} {fp wr:List Addr} {G:Array GenState→Array GenState→Prop} {n:Nat} {P:Nat→Value→Prop} {St:Nat→Shared→Prop}
theorem collect_map {Q:List Value→Shared→Prop} (W:WalksS prog w A.in1 I fp wr G n P St) (hT:∀ i s,St i s→s.TypeIs (.ref I) "map") (hst:St 0 s) (hfp:∀ b∈fp,b < s.heap.objs.size) (hI:I∈fp)
  (hQ:∀ s' acc,Moved wr G s s'→ItemsOf P acc n→Q acc.toList s') (hn:n≤sizeLine:=by size_fits):wpAny (model prog w) A (collect (.ref I)) Q E s:=by
 have hSf:s.heap.objs.size ∉ fp:=fun hm=>Nat.lt_irrefl _ (hfp _ hm)
 have hSI:s.heap.objs.size≠I:=fun e=>hSf (e ▸ hI)
 unfold collect
 refine wpAny_bind (wpAny_runValue (codeAny_builtin PySem.F.entry_proto_collect ?_))
 rw [Around.under_plainId PySem.F.plain_proto_collect _]
 show wpAny _ A.in1 (newList [] >>= fun l=>again (.builtin "list.__iadd__" ⟨[l,.ref I],[]⟩)) _ _ s
 refine wpAny_bind (wpAny_newObj_type ?_)
 refine wpAny_pure ⟨plainId_quiet PySem.F.plain_list_iadd _,codeAny_builtin PySem.F.entry_list_iadd ?_⟩
 rw [Around.under_plainId PySem.F.plain_list_iadd _]
 have hst₁:=W.frame 0 s (s.heap.push { cls:=.type "list",data:=.seq ([]:List Value).toArray }) s.toks hst (le_refl _) fun b _ o e=>get?_push_of_some _ e
 show wpAny _ A.in1 (Builtin.List.listExtendWith (.ref s.heap.objs.size) (.ref I) (.ref s.heap.objs.size)) _ _ _
 unfold Builtin.List.listExtendWith
 refine wpAny_bind (wpAny_typeOf (hT 0 _ hst₁) ?_)
 have h1:Builtin.List.listSameRef (.ref s.heap.objs.size) (.ref I)=false:=by simp [Builtin.List.listSameRef,hSI]
 have h2:(Value.type "map" == Value.type "list")=false:=by decide
 have h3:(Value.type "map" == Value.type "tuple")=false:=by decide
 simp -iota only [h1,h2,h3,Bool.or_false,false_eq_true,if_false]
 refine wpAny_bind (W.self 0 _ _ _ hst₁ ?_)
 refine wpAny_bind (wpAny_holding ?_)
 unfold Builtin.List.listLengthHint
 refine wpAny_bind (wpAny_specialOf (hT 0 _ hst₁) map_no_len ?_)
 show wpAny _ A.in1 (specialOf (Value.ref I) (Str.ofString "__length_hint__") >>= _) _ _ _
 refine wpAny_bind (wpAny_specialOf (hT 0 _ hst₁) map_no_hint ?_)
 refine wpAny_pure ?_
 show wpAny _ A.in1 (rule "list.extend.makes-room" >>= fun _=>Builtin.List.listTouch (.ref s.heap.objs.size) >>= fun _ =>
  again (.builtin "list.extend.loop" ⟨[.ref s.heap.objs.size,.ref I,.ref s.heap.objs.size],[]⟩)) _ _ _
 refine wpAny_bind (wpAny_rule ?_)
 have hS₁:(s.heap.push { cls:=.type "list",data:=.seq ([]:List Value).toArray }).get? s.heap.objs.size=some { cls:=.type "list",data:=.seq ([]:List Value).toArray }:=get?_push_size _ rfl
 refine wpAny_bind ?_
 show wpAny _ A.in1 (updateSeq s.heap.objs.size (·.push .none) >>= fun _=>updateSeq s.heap.objs.size (·.pop)) _ _ _
 refine wpAny_bind (wpAny_updateSeq hS₁ rfl ?_)
 have hS₂:=get?_update_self (Obj.mapSeq (·.push Value.none)) hS₁ rfl
 refine wpAny_updateSeq hS₂ rfl ?_
 have hS₃:=get?_update_self (Obj.mapSeq (·.pop)) hS₂ rfl
 have oth:∀ b o,b≠s.heap.objs.size→(s.heap.push { cls:=.type "list",data:=.seq ([]:List Value).toArray }).get? b=some o →
   (((s.heap.push { cls:=.type "list",data:=.seq ([]:List Value).toArray }).update s.heap.objs.size (Obj.mapSeq (·.push Value.none))).update s.heap.objs.size (Obj.mapSeq (·.pop))).get? b=some o :=
  fun b o hb e=>(get?_update_other _ _ (Ne.symm hb)).trans ((get?_update_other _ _ (Ne.symm hb)).trans e)
 refine wpAny_pure ⟨plainId_quiet PySem.F.plain_extend_loop _,codeAny_extend_loopS W hn _ hSf _ n 0 _ _ _ rfl (zero_le _)
  (W.frame 0 ({ s with heap:=s.heap.push { cls:=.type "list",data:=.seq ([]:List Value).toArray } }:Shared) _ s.toks hst₁ (le_refl _) fun b hb o e=>oth b o (fun h=>hSf (h ▸ hb)) e) hS₃ (ItemsOf.nil P) fun s' acc' c' hm hS' hacc=>?_⟩
 show wpAny _ A (load s.heap.objs.size >>= _) _ _ s'
 refine wpAny_bind (wpAny_load hS' ?_)
 refine wpAny_pure (hQ s' acc' (Moved.drop_new (o:={ cls:=.type "list",data:=.seq ([]:List Value).toArray }) (tk:=s.toks) (Moved.trans W.gtrans ((Moved.refl W.grefl).then_heap (by first | exact le_refl _ | exact le_succ _ | lia) fun b o hb e=>?_) hm) (le_refl _)) hacc)
 exact oth b o (fun h=>hb (h ▸ List.mem_cons_self)) e
theorem zN9 {Q₁:Value→Shared→Prop} (W:WalksS prog w A.in1.in1 I fp wr G n P St) (hT:∀ i s,St i s→s.TypeIs (.ref I) "map") (hst:St 0 s) (hfp:∀ b∈fp,b < s.heap.objs.size) (hI:I∈fp)
  (h:∀ s' acc,Moved wr G s s'→ItemsOf P acc n→Q₁ (.ref s'.heap.objs.size) { s' with heap:=s'.heap.push { cls:=.type "tuple",data:=.seq acc } }) (hsz:n≤sizeLine:=by size_fits) :
  codeAny (model prog w) A (.call (.builtin "tuple.__new__") ⟨[.type "tuple",.ref I],[]⟩) (wants Q₁ E) s:=by
 refine codeAny_of_tree ?_
 show wpAny _ A.in1 (do checkBuiltinCall "tuple.__new__" ⟨[.type "tuple",.ref I],[]⟩; again (.builtin "tuple.__new__" ⟨[.type "tuple",.ref I],[]⟩)) _ _ s
 refine wpAny_bind (wpAny_of_eq (PySem.F.newCall_tuple_1 _) (wpAny_pure ⟨plainId_quiet PySem.F.plain_tuple_new _,codeAny_builtin PySem.F.entry_tuple_new ?_⟩))
 rw [Around.under_plainId PySem.F.plain_tuple_new _]
 have hsub:=sub_tuple_self
 have hinit:=init_tuple_lookup
 have hmh:=madeHere_tuple
 have hTI:=hT 0 s hst
 wp_walk using wpAny_typeOf hTI,collect_map (hn:=hsz) W hT hst hfp hI
 intro s' acc hm hacc
 show wpAny _ _ (Builtin.Tuple.tupleExact acc.toList.toArray >>= fun v=>ret v) _ _ _
 unfold Builtin.Tuple.tupleExact
 refine wpAny_bind (wpAny_newObj_type ?_ (by show acc.toList.toArray.size≤sizeLine; simp -iota only [Array.toArray_toList]; rw [hacc.1]; exact hsz))
 refine wpAny_pure ?_
 have e:acc.toList.toArray=acc:=by simp -iota
 rw [e]
 exact h s' acc hm hacc
theorem call_tuple_map {Q:Value→Shared→Prop} (W:WalksS prog w A.in1.in1.in1 I fp wr G n P St) (hT:∀ i s,St i s→s.TypeIs (.ref I) "map") (hst:St 0 s) (hfp:∀ b∈fp,b < s.heap.objs.size) (hI:I∈fp)
  (hQ:∀ s' acc,Moved wr G s s'→ItemsOf P acc n→Q (.ref s'.heap.objs.size) { s' with heap:=s'.heap.push { cls:=.type "tuple",data:=.seq acc } }) (hsz:n≤sizeLine:=by size_fits) :
  wpAny (model prog w) A (call (.type "tuple") [.ref I]) Q E s:=by
 refine callType_codes (Q₁:=fun obj s₁=>s₁.TypeIs obj "tuple"∧Q obj s₁) PySem.F.called_tuple (PySem.F.typeCall_tuple_1 _) PySem.F.entry_object_init
  (zN9 (hsz:=hsz) W hT hst hfp hI fun s' acc hm hacc=>⟨⟨_,get?_push_size _ rfl,rfl⟩,hQ s' acc hm hacc⟩) fun obj s₁ h₁=>?_
 exact ⟨h₁.1,PySem.F.args_object_init_2 obj _,object_init_meets PySem.F.called_tuple.init.lookup PySem.F.called_tuple.made (by decide) prog w A.in1 _ s₁ ⟨h₁.1,rfl,h₁.2⟩⟩
end
theorem gv_map:GV (ofString "map") (.type "map"):=.b ⟨fun P=>rfl,rfl,by decide,rfl⟩
theorem gv_tuple:GV (ofString "tuple") (.type "tuple"):=.b ⟨fun P=>rfl,rfl,by decide,rfl⟩
noncomputable def tmapPV:PV→Option PV
 | .list xs=>(strsOf xs).bind fun ss=>if ss.length≤1000 then some (.tup xs) else none
 | _=>none
theorem strs_get {vs:List Value} {ss:List PStr} (h:StrsAre vs ss):∀ (i:Nat) (x:Value),vs[i]? = some x→∃ y t,x=Value.str y t:=by
 induction h with
 | nil=>intro i x e; simp at e
 | cons y t h ih =>
  intro i x e
  cases i with
  | zero=>simp at e; exact ⟨y,t,e.symm⟩
  | succ i=>exact ih i x (by simpa using e)
theorem s_tmap {k:Nat} {sc:Scope} {np1 np2 np3 cp1 cp2:Pos} {e:Expr} {f:Lc→Option PV} (H:SoundE (k + 2) sc e f) (hst:notStar e=true)
  (hx1:sc.names.lookup (ofString "tuple")=some .globalImplicit) (hx2:sc.names.lookup (ofString "map")=some .globalImplicit) (hx3:sc.names.lookup (ofString "fspath")=some .globalImplicit) :
  SoundE (k + 2) sc (.Call (.Name (ofString "tuple") np1) [.Call (.Name (ofString "map") np2) [.Name (ofString "fspath") np3,e] [] cp2] [] cp1) (fun l=>(f l).bind tmapPV):=by
 intro C A env F l s p R S h
 obtain ⟨q,hq,h⟩:=bind_eq_some_iff.mp h
 have St1:Stars [.Call (.Name (ofString "map") np2) [.Name (ofString "fspath") np3,e] [] cp2]:=zD2 rfl
 have St2:Stars [.Name (ofString "fspath") np3,e]:=zD2 (by rw [all_cons,all_cons,hst]; rfl)
 show WP C A (do callWith cp1 (← eval (.Name (ofString "tuple") np1) env) [] (backTo cp1 (starEach _ env)) (backToKw cp1 (keywordEach [] env))) _ s
 refine wpAny_bind (zC6 S.ok S.inv gv_tuple hx1 ?_)
 refine PySem.callWith_type (zC1 St1) ?_
 rw [St1 env]
 refine evalArgs_plain (spliced_cons ?_)
 show WP C A (do callWith cp2 (← eval (.Name (ofString "map") np2) env) [] (backTo cp2 (starEach _ env)) (backToKw cp2 (keywordEach [] env))) _ s
 refine wpAny_bind (zC6 S.ok S.inv gv_map hx2 ?_)
 refine PySem.callWith_type (zC1 St2) ?_
 rw [St2 env]
 refine evalArgs_plain (spliced_cons (zC6 S.ok S.inv zN5 hx3 (spliced_cons (H.use R S hq fun v s₁ X₁ S₁ r₁=>spliced_nil ?_))))
 unfold tmapPV at h
 split at h
 ·rename_i xs
  obtain ⟨ss,hss,h⟩:=bind_eq_some_iff.mp h
  obtain ⟨hlen,rfl⟩:=zG0 h
  unfold Rep at r₁
  obtain ⟨a,vs,n,rfl,fa,rl⟩:=r₁
  have hl:s₁.heap.IsList a vs:=⟨_,S₁.sub _ _ fa,rfl,n,rfl⟩
  refine call_map_2 hl fun h₂ hm hT hit hz hk=>spliced_nil ?_
  have lt_a:a < s₁.heap.objs.size:=lt_size (S₁.sub _ _ fa)
  have live:∀ b o,s₁.heap.get? b=some o→b < s₁.heap.objs.size:=fun b o e=>lt_size e
  have A1:A.in1.in1.in1.handled=none:=R.handled
  have vsz:vs.size≤1000:=by
   have h1:=rl.length
   have h2:=(strs_are hss rl).strs
   have:ss.length=vs.toList.length:=by rw [← h2]; simp
   simp only [length_toList] at this
   lia
  refine call_tuple_map (A:=A) (n:=vs.size) (walks_map (s₀:=s₁) A1 (z:=s₁.heap.objs.size + 2) (T:=s₁.heap.objs.size + 1) (it:=s₁.heap.objs.size) (l:=a) (f:=.ref 177) (xs:=vs) (Nat.ne_of_gt (Nat.lt_add_of_pos_right (by decide))) (Nat.succ_ne_self _) (ne_of_lt lt_a) (le_refl _) ?_) (fun i s st=>⟨_,st.1,rfl⟩)
   ⟨hm,hT,hit,hl.at fun o e=>hk _ o e,hk,rfl,rfl,rfl⟩ (fun b hb=>?_) (by simp) ?_ (zA6 (by lia))
  ·rintro s₃ x Q E hK ⟨g1,g2,g3⟩ ⟨i,hi⟩ hQ
   obtain ⟨y,t,rfl⟩:=strs_get (strs_are hss rl) i x (by simpa using hi)
   refine wpAny_with_toks (le_refl s₃.toks) ?_
   exact wpAny_mono (fspath_full (C:=C) (A:=A.in1.in1.in1.in1) (Q:=fun v s'=>s₃.toks≤s'.toks→Q v s') ⟨R.handled,by have:=R.depth; show A.depth + _≤_; lia,by have:=R.units; show A.units + 1 + 1 + 1 + 1 + _≤_; lia⟩ (S₁.inv.of_keep hK (by rw [g1]; exact S₁.inv.gens) g2 g3) fun h' tk D htk=>hQ _ _ htk D) (fun v s' hq=>hq) fun _ _ ff=>ff.elim
  ·simp only [mem_cons] at hb
   rcases hb with rfl | rfl | rfl | rfl | hb
   ·exact lt_size hm
   ·exact lt_size hT
   ·obtain ⟨o,e,_⟩:=hit; exact lt_size e
   ·exact lt_size (hk _ _ (S₁.sub _ _ fa))
   ·have:=mem_range.mp hb
    show b < h₂.objs.size
    rw [hz]
    exact Nat.lt_add_right _ this
  ·intro s₃ acc hmv hacc
   have e:acc=vs:=by
    refine Array.ext hacc.1 fun i h1 h2=>?_
    have:=hacc.2 i acc[i] (by simp [h1])
    simp only [Array.getElem?_eq_getElem h2,Option.some.injEq] at this
    exact this.symm
   subst e
   have keep₃:∀ b o,s₁.heap.get? b=some o→s₃.heap.get? b=some o:=fun b o e=>hmv.heap b o (fun q=>by rw [mem_singleton.mp q] at e; exact Nat.lt_irrefl _ (live _ _ e)) (hk b o e)
   have keep₄:∀ b o,s₁.heap.get? b=some o→(s₃.heap.push { cls:=.type "tuple",data:=.seq acc }).get? b=some o:=fun b o e=>get?_push_of_some _ (keep₃ b o e)
   refine Post.lift S.inv X₁ ⟨.of_keep keep₄,S₁.inv.of_keep keep₄ (by show AllBare s₃.gens; rw [hmv.gens]; exact S₁.inv.gens) hmv.drawn hmv.os,?_⟩
   unfold Rep
   refine ⟨_,acc,0,rfl,zE7 ?_ (get?_push_size _ rfl),RepL.mono (Fz.le_ext S₁.sub) rl⟩
   cases q:s₁.heap.get? s₃.heap.objs.size with
   | none=>rfl
   | some o=>exact absurd (lt_size (keep₃ _ o q)) (Nat.lt_irrefl _)
 ·exact no h
theorem w_tmap {k:Nat} {sc:Scope} {np1 np2 np3 cp1 cp2:Pos} {e:Expr} {f:Lc→Option PV} (H:WE (k + 2) sc e f) (hst:notStar e=true)
  (hx1:sc.names.lookup (ofString "tuple")=some .globalImplicit) (hx2:sc.names.lookup (ofString "map")=some .globalImplicit) (hx3:sc.names.lookup (ofString "fspath")=some .globalImplicit) :
  WE (k + 2) sc (.Call (.Name (ofString "tuple") np1) [.Call (.Name (ofString "map") np2) [.Name (ofString "fspath") np3,e] [] cp2] [] cp1) (fun l=>(f l).bind tmapPV):=⟨s_tmap H.h hst hx1 hx2 hx3⟩
section
variable {prog:Program} {w:World} {A:Around} {E:Value→Shared→Prop} {s:Shared}
theorem pyHash_true {Q:Int→Shared→Prop} (h:Q 1 { s with toks:=s.toks + 1 }):wpAny (model prog w) A (pyHash (.bool true)) Q E s:=by
 unfold pyHash
 have hT:s.TypeIs (.bool true) "bool":=rfl
 have hv:[Value.bool true].any Value.onHeap=false:=rfl
 refine wpAny_bind ?_
 rw [cRoomFor,if_neg (by rw [hv]; exact Bool.false_ne_true)]; refine wpAny_pure ?_
 refine wpAny_bind (wpAny_specialOf hT PySem.F.slot_bool_hash.lookup ?_)
 show wpAny _ _ (if (some (Value.builtin "int.__hash__") == some Value.none)=true then _ else _) Q E s
 rw [if_neg (by rw [beq_builtin_none]; exact Bool.false_ne_true)]
 refine wpAny_bind (wpAny_specialOf hT PySem.F.slot_bool_hash.lookup ?_)
 show wpAny _ _ (callSpecialIfBoundUnlessNone? (.bool true) "__hash__" _ >>= _) Q E s
 refine wpAny_bind (wpAny_callSpecialIfBoundUnlessNone?_slot hT PySem.F.slot_bool_hash
  (wpAny_call_entry PySem.F.slot_bool_hash hT entry_int_hash
   (show wpAny _ _ (do ret (← mkInt 1)) _ _ s from wpAny_ret_mkInt ?_) (args_int_hash _)))
 exact wpAny_pure h
theorem zD8 (led b:Bool):(setObj led b).data = .set (if b then #[(1,.bool true)] else #[]) (if b then 1 else 0) (setTab led b):=rfl
theorem zF7 (led b:Bool):(setTab led b).fits (if b then #[((1:Int),Value.bool true)] else #[]).size=true:=by cases led <;> cases b <;> rfl
theorem lay_true (led:Bool):layNew (setTab led false) #[] 1 (.bool true)=(#[(1,.bool true)],setTab led true,false,false):=by cases led <;> rfl
theorem set_add_true {a:Addr} {led b:Bool} {Q:Value→Shared→Prop} (ho:s.heap.get? a=some (setObj led b))
  (h:∀ h' tk,SameBut a s.heap h'→h'.get? a=some (setObj led true)→Q .none { s with heap:=h',toks:=tk }) :
  wpAny (model prog w) A (call (.builtin "set.add") [.ref a,.bool true]) Q E s:=by
 refine wpAny_call_entry PySem.F.slot_set_add (⟨_,ho,rfl⟩:s.TypeIs (.ref a) "set") PySem.F.entry_set_add ?_ (PySem.F.args_set_add_2 _ _)
 unfold Builtin.«set.add» Builtin.Frozenset.oneOther
 simp only [List.isEmpty_nil,bind_assoc]
 unfold Builtin.Frozenset.addrOf setAdd
 refine wpAny_bind (wpAny_pure ?_)
 try dsimp only
 refine wpAny_bind (wpAny_pure ?_)
 try dsimp only
 refine wpAny_bind ?_
 refine wpAny_holding ?_
 refine wpAny_bind (pyHash_true ?_)
 unfold setAddHashed setAddHashedIn
 refine wpAny_holding (wpAny_bind (wpAny_setState_of ho (zD8 led b) (zF7 led b) ?_))
 dsimp only
 have hby:byScan (.bool true) (if b then #[((1:Int),Value.bool true)] else #[])=true:=by cases b <;> simp [byScan,Value.scannable,scanBound]
 rw [hby]
 simp only [↓reduceIte]
 unfold setAddByScan
 refine wpAny_bind ?_
 refine wpAny_bind (wpAny_rule ?_)
 cases b with
 | true =>
  show wpAny _ _ (setScanFrom a (.bool true) 1 true [(1,.bool true)] 0 >>= _) _ _ _
  refine wpAny_bind ?_
  unfold setScanFrom
  rw [if_pos rfl]
  refine wpAny_bind (wpAny_setEpoch_of ho (zD8 led true) (zF7 led true) ?_)
  refine wpAny_bind (m:=eqBool (.bool true) (.bool true)) ?_
  unfold eqBool
  refine wpAny_holding ?_
  rw [if_pos rfl]
  refine wpAny_bind (wpAny_rule (wpAny_pure ?_))
  simp only [Bool.and_self,↓reduceIte]
  refine wpAny_pure (wpAny_pure (wpAny_pure ?_))
  exact wpAny_pure ⟨_,rfl,h _ _ (SameBut.refl _ _) ho⟩
 | false =>
  show wpAny _ _ (setScanFrom a (.bool true) 1 true [] 0 >>= _) _ _ _
  refine wpAny_bind ?_
  unfold setScanFrom
  refine wpAny_pure ?_
  dsimp only
  have hl:=lay_true led
  simp only [false_eq_true,if_false]
  rw [hl]
  dsimp only
  refine wpAny_bind (wpAny_pure ?_)
  rw [if_pos (show (setTab led true).plain=true from rfl)]
  refine wpAny_bind (m:=hashByValue 8 (.bool true)) (wpAny_pure ?_)
  rw [if_pos rfl]
  refine wpAny_bind (wpAny_storeSet_of ho (zD8 led false) ?_ (by show 1≤sizeLine; exact zA6 (by lia)))
  rw [if_neg (by cases led <;> decide)]
  refine wpAny_pure (wpAny_pure ?_)
  refine wpAny_pure ⟨_,rfl,h _ _ (SameBut.update ..) ?_⟩
  rw [get?_update_self (Obj.putSet #[(1,.bool true)] (setTab led true)) ho (by exact congrArg _ (putSet_of _ _ (zD8 led false))),putSet_of _ _ (zD8 led false)]
  rfl
end
noncomputable def stepS (elt:Expr) (env:Env) (D:Addr):Sem Unit:=do
 let v ← eval elt env
 standAt elt.pos
 let _ ← call (.builtin "set.add") [.ref D,v]
theorem ck_set {elt tgt iter:Expr} {ifs:List Expr} {scope:Scope} {pos:Pos}:CompKind (.SetComp elt [⟨tgt,iter,ifs,0⟩] scope pos) scope (newSet (.type "set")) tgt iter ifs (stepS elt) (.bset false) where
 cl:=rfl
 new:=fun C A s Q h=>by
  unfold newSet setsByText
  refine wpAny_bind (wpAny_bind (wpAny_askSetting (wpAny_pure ?_)))
  dsimp only
  simp only [newObj]
  exact wpAny_bind (wpAny_alloc (wpAny_pure (h _ (fun F=>rfl) rfl)))
 start:=fun C A R s I D env h0 h=>by
  refine codeAny_of_tree ?_
  show wpAny _ _ ((compStart (.SetComp elt [⟨tgt,iter,ifs,0⟩] scope pos) 0 (.ref I) (.ref D) env).onRaise (fun x=>do noteFrame x env; standAt theWindowsPlace)) _ _ s
  refine wpAny_notedAt ?_
  unfold compStart
  show wpAny _ _ (ask >>= _) _ _ s
  refine wpAny_bind (wpAny_askSetting (wpAny_ite ?_))
  split
  ·first
    | exact wpAny_bind (wpAny_pure (wpAny_pure (And.intro rfl h0)))
    | exact wpAny_pure (And.intro rfl h0)
  ·refine wpAny_bind (wpAny_rule ?_)
   show wpAny _ _ (standAt iter.pos >>= _) _ _ s
   exact wpAny_bind (wpAny_standAt (wpAny_bind (wpAny_mono h (fun it' s' h'=>wpAny_pure (And.intro rfl h')) fun _ _ x=>x.elim)))
 turn:=fun w A it D env Q E s h=>h
noncomputable def cAdd (fe:Lc→Option PV):Lc→PV→Option PV:=fun l acc=>acc.sel2 (fun _ _=>none) (fun _=>(fe l).bind fun q=>(asB q).bind fun b=>if b=true then some (.bset true) else none) (fun _=>none) (fun _ _=>none)
theorem so_set {k:Nat} {sc':Scope} {elt:Expr} {fe:Lc→Option PV} (H:SoundE k sc' elt fe):StepOK k sc' (stepS elt) (cAdd fe):=by
 intro C A env F l s D o acc acc' R S ho r hD h
 refine PV.sel2_inv h (fun _ _ _ h=>no h) (fun b e h=>zB1 h fun q hq h=>zB1 h fun c e1 h2=>?_) (fun _ _ h=>no h) fun _ _ _ h=>no h
 obtain rfl:=e
 obtain rfl:=asB_inv e1
 obtain ⟨rfl,rfl⟩:=zG0 h2
 obtain rfl:o=setObj (ledOf C.w) b:=r
 unfold stepS
 refine wpAny_bind ((H C A env F l s _ R S hq).mono fun v s₁ P=>?_)
 obtain rfl:=rep_bool P.3
 refine wpAny_bind (wpAny_standAt (wpAny_bind (set_add_true (P.1.kept S.inv ho (fun ps q=>by cases q)) fun h' tk hs' hn=>wpAny_pure ?_)))
 exact ⟨s₁,h',tk,_,P.1,P.2,rfl,hs',hn,rfl⟩
theorem n_setcomp {elt tgt iter:Expr} {ifs:List Expr} {scope sc:Scope} {pos:Pos} {k:Nat} {fi fe:Lc→Option PV} {g:PV→Option Lc} {ft:Lc→Option Bool} (O:ScOK scope sc) (hs:∀ env x,foldedSetIterable iter env x=pure x)
  (H:SoundE k sc iter fi) (G:CompG k (relabelS scope sc) tgt g) (T:CompT k (relabelS scope sc) ifs ft) (E:SoundE k (relabelS scope sc) elt fe):SoundN k sc (.SetComp elt [⟨tgt,iter,ifs,0⟩] scope pos) (cComp fi g ft (cAdd fe) (.bset false)) :=
 n_comp ck_set (pos:=firstIterPos [⟨tgt,iter,ifs,0⟩] pos) (fun env=>rfl) O hs H G T (so_set E)
theorem owner_setiter:Manifest.owners.lookup (String.ofList ['r','o','t','a','r','e','t','i','_','t','e','s'].reverse)=some Manifest.sig_set_iterator:=by kernel_rfl
theorem slot_setiter_next:Slot "set_iterator" "__next__" "set_iterator.__next__" :=
 .of (owner:="set_iterator") (n:="__next__") (by rw [typeLookup_type,builtinLookup_eq_fast]; kernel_rfl) (by decide +kernel) (by decide +kernel) (by decide +kernel)
  (by first | exact .inl (by decide +kernel) | exact .inr (by decide +kernel)) (by rw [isSubtype_type]; kernel_rfl)
theorem zG7:entryFor table "set_iterator.__next__" = some Builtin.«set_iterator.__next__»:=entryFor_of_tree (by kernel_rfl)
theorem zG2 (a:Value):argsOk "set_iterator.__next__" ⟨[a],[]⟩:=by
 unfold argsOk; rw [signature?_of (id:="set_iterator.__next__") (n:=['_','_','t','x','e','n','_','_']) (o:=['r','o','t','a','r','e','t','i','_','t','e','s']) (by kernel_rfl) owner_setiter]; kernel_rfl
theorem entry_set_iter:entryFor table "set.__iter__" = some Builtin.«frozenset.__iter__» :=
 entryFor_alias (id':="frozenset.__iter__") (by kernel_rfl) rfl (by decide +kernel) (by kernel_rfl)
abbrev IsSetIter (h:Heap) (it a:Addr) (slot i:Int):Prop:=h.get? it=some { cls:=.type "set_iterator",data:=.fields #[.int slot 0,.int i 0,.ref a,.int 1 0,.int 1 0] }
section
variable {prog:Program} {w:World} {A:Around} {E:Value→Shared→Prop} {s:Shared}
noncomputable def nextSlot (w:World):Nat:=if w.params.followText "set-order" then 0 else 2
theorem zE1 {a:Addr} {Q:(Array (Int × Value) × Nat × SetTable)→Shared→Prop} (ho:s.heap.get? a=some (setObj (ledOf w) true)) (h:Q (#[(1,.bool true)],1,setTab (ledOf w) true) s):wpAny (model prog w) A (setState a) Q E s :=
 wpAny_setState_of ho (zD8 _ true) (zF7 _ true) h
theorem pick_one (f:Nat→Nat) (x:Int × Value):pickOrder f #[x] = #[x]:=by
 unfold pickOrder
 show pickOrder.go f 1 0 [x] #[]=_
 unfold pickOrder.go
 simp [Nat.mod_one,pickOrder.go]
theorem setNext_0 {a:Addr} {Q:Option (Value × Nat)→Shared→Prop} (ho:s.heap.get? a=some (setObj (ledOf w) true)) (h:Q (some (.bool true,nextSlot w)) s):wpAny (model prog w) A (setNext a 0 0 1) Q E s:=by
 unfold setNext
 refine wpAny_bind (zE1 ho ?_)
 dsimp only
 refine wpAny_bind (m:=setsByText) ?_
 unfold setsByText
 refine wpAny_bind (wpAny_askSetting (wpAny_pure ?_))
 show wpAny _ _ (if (w.params.followText "set-order")=true then _ else _) _ _ _
 cases hb:w.params.followText "set-order" with
 | true =>
  rw [if_pos rfl]
  rw [if_neg (by decide)]
  refine wpAny_bind (m:=setWalk a) ?_
  unfold setWalk
  refine wpAny_bind (zE1 ho ?_)
  dsimp only
  refine wpAny_bind (m:=setsByText) ?_
  unfold setsByText
  refine wpAny_bind (wpAny_askSetting (wpAny_pure ?_))
  show wpAny _ _ (if (w.params.followText "set-order")=true then _ else _) _ _ _
  rw [if_pos hb]
  refine wpAny_bind (wpAny_askSetting (wpAny_pure ?_))
  refine wpAny_pure ?_
  rw [pick_one]
  unfold nextSlot at h
  rw [if_pos hb] at h
  exact h
 | false =>
  rw [if_neg (by decide)]
  have hl:ledOf w=true:=by unfold ledOf; rw [hb]; rfl
  rw [hl]
  rw [if_neg (by decide)]
  refine wpAny_bind (wpAny_of_eq (a:=()) rfl ?_)
  refine wpAny_pure ?_
  unfold nextSlot at h
  rw [if_neg (by rw [hb]; decide)] at h
  exact h
theorem setNext_1 {a:Addr} {Q:Option (Value × Nat)→Shared→Prop} (ho:s.heap.get? a=some (setObj (ledOf w) true)) (h:Q none s):wpAny (model prog w) A (setNext a (nextSlot w) 1 1) Q E s:=by
 unfold setNext
 refine wpAny_bind (zE1 ho ?_)
 dsimp only
 refine wpAny_bind (m:=setsByText) ?_
 unfold setsByText
 refine wpAny_bind (wpAny_askSetting (wpAny_pure ?_))
 show wpAny _ _ (if (w.params.followText "set-order")=true then _ else _) _ _ _
 cases hb:w.params.followText "set-order" with
 | true =>
  rw [if_pos rfl]
  rw [if_neg (by decide)]
  refine wpAny_bind (m:=setWalk a) ?_
  unfold setWalk
  refine wpAny_bind (zE1 ho ?_)
  dsimp only
  refine wpAny_bind (m:=setsByText) ?_
  unfold setsByText
  refine wpAny_bind (wpAny_askSetting (wpAny_pure ?_))
  show wpAny _ _ (if (w.params.followText "set-order")=true then _ else _) _ _ _
  rw [if_pos hb]
  refine wpAny_bind (wpAny_askSetting (wpAny_pure ?_))
  refine wpAny_pure ?_
  rw [pick_one]
  exact h
 | false =>
  rw [if_neg (by decide)]
  have hl:ledOf w=true:=by unfold ledOf; rw [hb]; rfl
  rw [hl]
  rw [if_neg (by decide)]
  refine wpAny_bind (wpAny_of_eq (a:=()) rfl ?_)
  refine wpAny_pure ?_
  unfold nextSlot
  rw [if_neg (by rw [hb]; decide)]
  exact h
theorem zF8 {a:Addr} {Q:Array (Int × Value)→Shared→Prop} (ho:s.heap.get? a=some (setObj (ledOf w) true)) (h:Q #[(1,.bool true)] s):wpAny (model prog w) A (setEntries a) Q E s :=
 wpAny_setEntries_of ho (zD8 _ true) (zF7 _ true) h
theorem pyIter_set {a:Addr} {Q:Value→Shared→Prop} (ho:s.heap.get? a=some (setObj (ledOf w) true))
  (h:Q (.ref s.heap.objs.size) { s with heap:=s.heap.push { cls:=.type "set_iterator",data:=.fields #[.int 0 0,.int 0 0,.ref a,.int 1 0,.int 1 0] } }):wpAny (model prog w) A (pyIter (.ref a)) Q E s:=by
 have hT:s.TypeIs (.ref a) "set":=⟨_,ho,rfl⟩
 refine wpAny_pyIter_slot hT PySem.F.slot_set_iter (wpAny_call_entry PySem.F.slot_set_iter hT entry_set_iter ?_ (PySem.F.args_set_iter_1 _))
 unfold Builtin.«frozenset.__iter__» Builtin.Frozenset.slot0 slotArgs
 simp -iota only [List.isEmpty_nil,Bool.not_true,false_eq_true,↓reduceIte,bind_assoc,length_nil,bne_self_eq_false]
 unfold Builtin.Frozenset.addrOf Builtin.Frozenset.sizeOf
 refine wpAny_bind (wpAny_pure ?_)
 try dsimp only
 refine wpAny_bind (wpAny_pure ?_)
 refine wpAny_bind (wpAny_bind (zF8 ho (wpAny_pure ?_)))
 refine wpAny_bind (m:=setDrawn a) ?_
 unfold setDrawn
 refine wpAny_bind (zE1 ho ?_)
 dsimp only
 refine wpAny_bind (m:=setsByText) ?_
 unfold setsByText
 refine wpAny_bind (wpAny_askSetting (wpAny_pure (wpAny_pure ?_)))
 rw [if_neg (by simp; intro _; rfl)]
 refine wpAny_bind (wpAny_pure ?_)
 refine wpAny_bind (m:=setEpoch a) (wpAny_setEpoch_of ho (zD8 _ true) (zF7 _ true) ?_)
 unfold newFields
 refine wpAny_bind (wpAny_newObj_type ?_)
 exact wpAny_pure ⟨_,rfl,"set_iterator",_,⟨_,get?_push_size _ rfl,rfl⟩,slot_setiter_next.lookup,h⟩
theorem set_next_item {it a:Addr} {Q:Value→Shared→Prop} (hi:IsSetIter s.heap it a 0 0) (ho:s.heap.get? a=some (setObj (ledOf w) true)) (hne:a≠it)
  (hQ:∀ h',IsSetIter h' it a (nextSlot w) 1→SameBut it s.heap h'→Q (.bool true) { s with heap:=h' }) :
  wpAny (model prog w) A (Builtin.«set_iterator.__next__» ⟨[.ref it],[]⟩) (fun fin s'=>∃ v,fin = .done (.ret v)∧Q v s') E s:=by
 unfold Builtin.«set_iterator.__next__» slotArgs
 simp -iota only [List.isEmpty_nil,Bool.not_true,false_eq_true,↓reduceIte,bind_assoc,length_nil,bne_self_eq_false]
 refine wpAny_bind (wpAny_pure ?_)
 refine wpAny_bind (wpAny_fieldsOf hi rfl ?_)
 dsimp only
 refine wpAny_bind (zF8 ho ?_)
 rw [if_neg (by decide)]
 refine wpAny_bind (setNext_0 ho ?_)
 dsimp only
 refine wpAny_bind (wpAny_setField_rec hi (by simp) fun h₁ hi₁ hs₁=>?_)
 refine wpAny_bind (wpAny_setField_rec hi₁ (by simp) fun h₂ hi₂ hs₂=>?_)
 refine wpAny_pure ⟨_,rfl,hQ h₂ ?_ (hs₁.trans hs₂)⟩
 exact hi₂
theorem set_next_end {it a:Addr} {Q:Fin→Shared→Prop} (hh:A.handled=none) (hi:IsSetIter s.heap it a (nextSlot w) 1) (ho:s.heap.get? a=some (setObj (ledOf w) true)) (hne:a≠it)
  (hE:∀ h' e,ExtBut it s.heap h'→(∃ o,h'.get? e=some o∧o.cls = .type "StopIteration")→E (.ref e) { s with heap:=h' }) :
  wpAny (model prog w) A (Builtin.«set_iterator.__next__» ⟨[.ref it],[]⟩) Q E s:=by
 unfold Builtin.«set_iterator.__next__» slotArgs
 simp -iota only [List.isEmpty_nil,Bool.not_true,false_eq_true,↓reduceIte,bind_assoc,length_nil,bne_self_eq_false]
 refine wpAny_bind (wpAny_pure ?_)
 refine wpAny_bind (wpAny_fieldsOf hi rfl ?_)
 dsimp only
 refine wpAny_bind (zF8 ho ?_)
 rw [if_neg (by decide)]
 refine wpAny_bind (setNext_1 ho ?_)
 dsimp only
 refine wpAny_bind (wpAny_setField_rec hi (by simp) fun h₁ hi₁ hs₁=>?_)
 refine wpAny_bind ?_
 simp -iota only [newExc,newTuple]
 refine wpAny_bind (wpAny_newObj_type ?_ (by size_fits))
 refine wpAny_bind (m:=firstArgMember _ _) (wpAny_of_eq (a:=Value.none) (by first | rfl | (simp -iota only [firstArgMember]; rfl)) ?_)
 refine wpAny_newObj_type ?_ (by size_fits)
 simp -iota only [raiseNew]
 refine wpAny_bind (wpAny_handled ?_)
 first | rw [show A.in1.handled=none from hh] | rw [hh]
 refine wpAny_bind (wpAny_pure (wpAny_throw ?_))
 exact hE _ _ ((hs₁.extBut.push _).push _) ⟨_,get?_push_size _ rfl,rfl⟩
theorem pyNext_set_item {it a:Addr} {Q:Option Value→Shared→Prop} (hi:IsSetIter s.heap it a 0 0) (ho:s.heap.get? a=some (setObj (ledOf w) true)) (hne:a≠it)
  (hQ:∀ h',IsSetIter h' it a (nextSlot w) 1→SameBut it s.heap h'→Q (some (.bool true)) { s with heap:=h' }):wpAny (model prog w) A (pyNext (.ref it)) Q E s:=by
 have hT:s.TypeIs (.ref it) "set_iterator":=⟨_,hi,rfl⟩
 unfold pyNext
 exact wpAny_bind (wpAny_attempt (wpAny_callSpecial?_slot (name:=Str.ofString "__next__") hT slot_setiter_next
  (wpAny_call_entry slot_setiter_next hT zG7 (set_next_item hi ho hne fun h' a1 a2=>wpAny_pure (hQ h' a1 a2)) (zG2 _))))
theorem pyNext_set_end {it a:Addr} {Q:Option Value→Shared→Prop} (hh:A.handled=none) (hi:IsSetIter s.heap it a (nextSlot w) 1) (ho:s.heap.get? a=some (setObj (ledOf w) true)) (hne:a≠it)
  (hQ:∀ h',ExtBut it s.heap h'→Q none { s with heap:=h' }):wpAny (model prog w) A (pyNext (.ref it)) Q E s:=by
 have hT:s.TypeIs (.ref it) "set_iterator":=⟨_,hi,rfl⟩
 unfold pyNext
 refine wpAny_bind (wpAny_attempt (wpAny_callSpecial?_slot (name:=Str.ofString "__next__") hT slot_setiter_next
  (wpAny_call_entry slot_setiter_next hT zG7 (set_next_end hh hi ho hne fun h' e hk he=>?_) (zG2 _))))
 obtain ⟨o,ho,hc⟩:=he
 refine wpAny_bind (wpAny_isInstance (T:="StopIteration") (b:=true) ⟨o,ho,hc⟩ isSubtype_stop ?_)
 exact wpAny_pure (hQ _ hk)
theorem unpack_set {a:Addr} {Q:List Value→Shared→Prop} (hh:A.handled=none) (ho:s.heap.get? a=some (setObj (ledOf w) true))
  (hQ:∀ h',ExtBut s.heap.objs.size s.heap h'→Q [.bool true] { s with heap:=h' }):wpAny (model prog w) A (unpackItems (.ref a) 1 none) Q E s:=by
 have hne:a≠s.heap.objs.size:=ne_of_lt (lt_size ho)
 have hT:s.TypeIs (.ref a) "set":=⟨_,ho,rfl⟩
 unfold unpackItems
 refine wpAny_bind ?_
 unfold notIterableAtAll
 refine wpAny_bind (wpAny_specialOf hT PySem.F.slot_set_iter.lookup ?_)
 refine wpAny_pure ?_
 simp -iota only [false_eq_true,if_false]
 refine wpAny_bind (wpAny_holding (pyIter_set ho ?_))
 refine wpAny_bind (wpAny_holding ?_)
 show wpAny _ _ (pyNext (.ref s.heap.objs.size) >>= _) _ _ _
 refine wpAny_bind (pyNext_set_item (get?_push_size _ rfl) (get?_push_of_some _ ho) hne fun h₁ hi₁ hs₁=>?_)
 have ho₁:h₁.get? a=some (setObj (ledOf w) true):=hs₁.extBut _ _ hne (get?_push_of_some _ ho)
 refine wpAny_bind (wpAny_holding ?_)
 refine wpAny_pure (wpAny_pure ?_)
 rw [if_neg (by decide)]
 refine wpAny_bind (wpAny_holding (pyNext_set_end hh hi₁ ho₁ hne fun h₂ he₂=>?_))
 simp -iota only [Option.isSome_none,false_eq_true,if_false]
 exact wpAny_pure (hQ h₂ fun b o hb e=>he₂ b o hb (hs₁.extBut b o hb (get?_push_of_some _ e)))
end
theorem st_unset {k:Nat} {sc:Scope} {x:PStr} {np:Pos} {n:Nat} {tpos pos:Pos} {e:Expr} {f:Lc→Option PV} (hx:sc.names.lookup x=some .local ∨ sc.names.lookup x=some .cell) (H:SoundE k sc e f)
  (hsw:∀ env,swapsWithSole [.Tuple [.Name x np] n tpos] e pos.line env=pure false) (hw:∀ env,swappedStores [.Tuple [.Name x np] n tpos] e env=pure none) :
  SoundS k sc (.Assign [.Tuple [.Name x np] n tpos] e pos) (cSet x fun l=>(f l).bind fun p=>match p with | .bset true=>some (.bool true) | _=>none):=by
 intro C A env s₀ F₀ F K l s o R S h
 obtain ⟨q,hq,rfl⟩:=map_eq_some_iff.mp h
 obtain ⟨p,hp,hq⟩:=bind_eq_some_iff.mp hq
 split at hq
 ·cases hq
  refine Assign_Tuple ((H C A env F l s _ R S.xs hp).mono fun v s₁ P=>?_) (hsw env) (hw env)
  obtain ⟨S₁,g₁⟩:=S.step P.1 P.2
  have r:=P.3
  unfold Rep at r
  obtain ⟨a,rfl,fa⟩:=r
  rw [arm_assign_Tuple]
  refine wpAny_bind (wpAny_standAt ?_)
  unfold unpack
  show WP C A (holding [Value.ref a] (unpackItems (.ref a) 1 none) >>= _) _ s₁
  refine wpAny_bind (wpAny_holding (unpack_set R.handled (S₁.fsub _ _ fa) fun h' hx'=>?_))
  have X:Ext s₁ { s₁ with heap:=h' }:=.of_keep fun b o e=>hx' b o (ne_of_lt (lt_size e)) e
  have I:Inv C { s₁ with heap:=h' }:=S₁.inv.of_keep (fun b o e=>hx' b o (ne_of_lt (lt_size e)) e) S₁.inv.gens rfl rfl
  obtain ⟨S₂,g₂⟩:=S₁.step X I
  refine assignInOrder_cons (wpAny_assign_Name (zI3 S₂ hx (p:=.bool true) zF9 fun s₃ lv S₃=>assignInOrder_nil ?_))
  exact ⟨rfl,_,_,S₃,g₁.trans (g₂.trans ⟨.refl _,fun _ _=>rfl,lv⟩)⟩
 ·exact no hq
theorem ws_unset {k:Nat} {sc:Scope} {x:PStr} {np p2:Pos} {n:Nat} {tpos pos:Pos} {elt tgt iter:Expr} {ifs:List Expr} {scope:Scope} {fi fe:Lc→Option PV} {q:PV→Option Lc} {ft:Lc→Option Bool} (hx:sc.names.lookup x=some .local ∨ sc.names.lookup x=some .cell)
  (O:(scope.kind == .function && scope.names.all (fun y=>(y.2 != .local || scope.names.lookup y.1 == some .local) && y.2 != .cell && (y.2 != .free || sc.names.lookup y.1 == some .cell)))=true) (hs:∀ env x,foldedSetIterable iter env x=pure x)
  (H:WE k sc iter fi) (G:WC k (relabelS scope sc) tgt q) (T:WK k (relabelS scope sc) ifs ft) (E:WE k (relabelS scope sc) elt fe)
  (hsw:∀ env,swapsWithSole [.Tuple [.Name x np] n tpos] (.SetComp elt [⟨tgt,iter,ifs,0⟩] scope p2) pos.line env=pure false) (hw:∀ env,swappedStores [.Tuple [.Name x np] n tpos] (.SetComp elt [⟨tgt,iter,ifs,0⟩] scope p2) env=pure none) :
  WS k sc (.Assign [.Tuple [.Name x np] n tpos] (.SetComp elt [⟨tgt,iter,ifs,0⟩] scope p2) pos) (cSet x fun l=>(cComp fi q ft (cAdd fe) (.bset false) l).bind fun p=>match p with | .bset true=>some (.bool true) | _=>none) :=
 ⟨st_unset hx (e_of_n (n_setcomp (ScOK.of O) hs H.h G.h T.h E.h)) hsw hw⟩
noncomputable def ltL:List PStr→List PStr→Bool
 | [],[]=>false
 | [],_ :: _=>true
 | _ :: _,[]=>false
 | x :: xs,y :: ys=>if x=y then ltL xs ys else decide (x.cps.toList < y.cps.toList)
theorem zH1 {vs:List Value} {ss:List PStr} (h:StrsAre vs ss):∀ (i:Nat),(vs[i]? = none∧ss.drop i=[]) ∨ ∃ x t,vs[i]? = some (.str x t)∧ss.drop i=x :: ss.drop (i + 1):=by
 induction h with
 | nil=>intro i; exact .inl (by simp)
 | cons y t h ih =>
  intro i
  cases i with
  | zero=>exact .inr ⟨y,t,rfl,rfl⟩
  | succ i=>simpa using ih i
open AutoSeq1 (wpAny_loadPart')
theorem plain_eq_loop':plainId "list.__eq__.loop" = true:=by decide +kernel
theorem entry_eq_loop':entryFor table "list.__eq__.loop" = some Builtin.«list.__eq__.loop»:=entryFor_of_fast (by kernel_rfl)
theorem lt_loop (l b:Addr) (vs us:Array Value) (n n2:Nat) (xs ys:List PStr) (hx:StrsAre vs.toList xs) (hy:StrsAre us.toList ys) (k:Nat) :
  ∀ i:Nat,vs.size - i=k→i≤vs.size→i≤us.size→Meets (Builtin.«list.__eq__.loop» ⟨[.ref l,.ref b,rawInt i,rawInt 0],[]⟩)
   (fun A R s=>s.heap.get? l=some { cls:=.type "list",data:=.seq vs n }∧s.heap.get? b=some { cls:=.type "list",data:=.seq us n2 } ∧
    R (.ok (.ret (.bool (ltL (xs.drop i) (ys.drop i))))) s):=by
 induction k with
 | zero =>
  intro i hk h1 h2 prog w A R s h
  obtain ⟨hp,g,d,tk,os⟩:=s; obtain ⟨hl,hb,h⟩:=h
  have e0:((i:Nat):Int).toNat=i:=by simp
  wp_walk using wpAny_loadPart' hl,wpAny_loadPart' hb
  rw [e0]
  have hi1:vs[i]? = none:=Array.getElem?_eq_none (Nat.le_of_sub_eq_zero hk)
  have hd:xs.drop i=[]:=by
   rcases zH1 hx i with q | ⟨x,t,q,_⟩
   ·exact q.2
   ·rw [getElem?_toList] at q; exact nos hi1 q
  rw [hi1]
  cases hi2:us[i]? with
  | none =>
   have hd2:ys.drop i=[]:=by
    rcases zH1 hy i with q | ⟨x,t,q,_⟩
    ·exact q.2
    ·rw [getElem?_toList] at q; exact nos hi2 q
   rw [hd,hd2] at h
   wp_walk using wpAny_loadPart' hl,wpAny_loadPart' hb
   show R (.ok (.ret (.bool (decide (vs.size < us.size))))) _
   have:us.size≤i:=Array.getElem?_eq_none_iff.mp hi2
   rw [decide_eq_false (Nat.not_lt.mpr (le_trans this h1))]; exact h
  | some v =>
   have hlt:i < us.size:=by
    rcases Nat.lt_or_ge i us.size with q | q
    ·exact q
    ·exact nos (Array.getElem?_eq_none q) hi2
   obtain ⟨y,hd2⟩:∃ y,ys.drop i=y :: ys.drop (i + 1):=by
    rcases zH1 hy i with q | ⟨x,t,q,e⟩
    ·have:=q.1; rw [getElem?_toList,hi2] at this; cases this
    ·exact ⟨x,e⟩
   rw [hd,hd2] at h
   wp_walk using wpAny_loadPart' hl,wpAny_loadPart' hb
   show R (.ok (.ret (.bool (decide (vs.size < us.size))))) _
   rw [decide_eq_true (Nat.lt_of_le_of_lt (Nat.le_of_sub_eq_zero hk) hlt)]; unfold ltL at h; exact h
 | succ k ih =>
  intro i hk h1 h2 prog w A R s h
  obtain ⟨hp,g,d,tk,os⟩:=s; obtain ⟨hl,hb,h⟩:=h
  have e0:((i:Nat):Int).toNat=i:=by simp
  wp_walk using wpAny_loadPart' hl,wpAny_loadPart' hb
  rw [e0]
  have hc:((i:Int) + 1)=((i + 1:Nat):Int):=by push_cast; rfl
  obtain ⟨x,t,hi1,hd⟩:∃ x t,vs[i]? = some (.str x t)∧xs.drop i=x :: xs.drop (i + 1):=by
   rcases zH1 hx i with q | ⟨x,t,q,e⟩
   ·have:=q.1; rw [getElem?_toList] at this; exact absurd (Array.getElem?_eq_none_iff.mp this) (Nat.not_le.mpr (Nat.lt_of_sub_eq_succ hk))
   ·exact ⟨x,t,by rw [← getElem?_toList]; exact q,e⟩
  rw [hi1]
  rcases zH1 hy i with q | ⟨y,u,q,hd2⟩
  ·have hi2:us[i]? = none:=by rw [← getElem?_toList]; exact q.1
   rw [hd,q.2] at h
   rw [hi2]
   wp_walk using wpAny_loadPart' hl,wpAny_loadPart' hb
   show R (.ok (.ret (.bool (decide (vs.size < us.size))))) _
   have:us.size≤i:=Array.getElem?_eq_none_iff.mp hi2
   rw [decide_eq_false (Nat.not_lt.mpr (le_trans this h1))]; unfold ltL at h; exact h
  ·have hi2:us[i]? = some (.str y u):=by rw [← getElem?_toList]; exact q
   have hlt:i < us.size:=by
    rcases Nat.lt_or_ge i us.size with q | q
    ·exact q
    ·exact nos (Array.getElem?_eq_none q) hi2
   rw [hd,hd2] at h
   rw [hi2]
   refine wpAny_bind (eqBool_str ?_)
   by_cases e:x=y
   ·subst e
    have:(x == x)=true:=beq_self_eq_true x
    rw [this]
    wp_walk
    rw [hc]
    exact ⟨plainId_quiet plain_eq_loop' _,codeAny_builtin entry_eq_loop' (by
     rw [Around.under_plainId plain_eq_loop' _]
     exact ih (i + 1) (by rw [← Nat.sub_sub,hk]; rfl) (Nat.lt_of_sub_eq_succ hk) hlt prog w A R _ ⟨hl,hb,by unfold ltL at h; rw [if_pos rfl] at h; exact h⟩)⟩
   ·have:(x == y)=false:=beq_eq_false_iff_ne.mpr e
    rw [this]
    wp_walk using wpAny_loadPart' hl,wpAny_loadPart' hb
    rw [hi1,hi2]
    dsimp only
    refine wpAny_bind (m:=richCompare .Lt (.str x t) (.str y u)) (PySem.P.lt_str (Q:=fun v s'=>_) ?_)
    wp_walk
    unfold ltL at h
    rw [if_neg e] at h
    exact h
theorem lt_lists {prog:Program} {w:World} {A:Around} {E:Value→Shared→Prop} {s:Shared} {l b:Addr} {vs us:Array Value} {n n2:Nat} {xs ys:List PStr} {Q:Value→Shared→Prop} (hx:StrsAre vs.toList xs) (hy:StrsAre us.toList ys)
  (hl:s.heap.get? l=some { cls:=.type "list",data:=.seq vs n }) (hb:s.heap.get? b=some { cls:=.type "list",data:=.seq us n2 }) (hu:A.units < cLine) (h:Q (.bool (ltL xs ys)) s) :
  wpAny (model prog w) A (richCompare .Lt (.ref l) (.ref b)) Q E s:=by
 refine richCompare_meets_room (op:=.Lt) (S:=fun A R s=>s.heap.get? l=some { cls:=.type "list",data:=.seq vs n }∧s.heap.get? b=some { cls:=.type "list",data:=.seq us n2 }∧R (.ok (.ret (.bool (ltL xs ys)))) s) ⟨_,hl,rfl⟩ ⟨_,hb,rfl⟩ PySem.F.slot_list_lt PySem.F.entry_list_lt (PySem.F.args_list_lt_2 _ _) ?_ ⟨hl,hb,(fun e=>nomatch e),h⟩ hu
 intro prog w A R s h
 obtain ⟨hp,g,d,tk,os⟩:=s; obtain ⟨hl,hb,h⟩:=h
 have f3:=AutoSeq1.sub_list_list
 wp_walk using wpAny_loadPart' hl,wpAny_loadPart' hb
 exact ⟨plainId_quiet plain_eq_loop' _,codeAny_builtin entry_eq_loop' (by
  rw [Around.under_plainId plain_eq_loop' _]
  exact lt_loop l b vs us n n2 xs ys hx hy _ 0 rfl (zero_le _) (zero_le _) prog w A R _ ⟨hl,hb,by simpa using h⟩)⟩
theorem gt_loop (l b:Addr) (vs us:Array Value) (n n2:Nat) (xs ys:List PStr) (hx:StrsAre vs.toList xs) (hy:StrsAre us.toList ys) (k:Nat) :
  ∀ i:Nat,vs.size - i=k→i≤vs.size→i≤us.size→Meets (Builtin.«list.__eq__.loop» ⟨[.ref l,.ref b,rawInt i,rawInt 4],[]⟩)
   (fun A R s=>s.heap.get? l=some { cls:=.type "list",data:=.seq vs n }∧s.heap.get? b=some { cls:=.type "list",data:=.seq us n2 } ∧
    R (.ok (.ret (.bool (ltL (ys.drop i) (xs.drop i))))) s):=by
 induction k with
 | zero =>
  intro i hk h1 h2 prog w A R s h
  obtain ⟨hp,g,d,tk,os⟩:=s; obtain ⟨hl,hb,h⟩:=h
  have e0:((i:Nat):Int).toNat=i:=by simp
  wp_walk using wpAny_loadPart' hl,wpAny_loadPart' hb
  rw [e0]
  have hi1:vs[i]? = none:=Array.getElem?_eq_none (Nat.le_of_sub_eq_zero hk)
  have hd:xs.drop i=[]:=by
   rcases zH1 hx i with q | ⟨x,t,q,_⟩
   ·exact q.2
   ·rw [getElem?_toList] at q; exact nos hi1 q
  rw [hi1]
  cases hi2:us[i]? with
  | none =>
   have hd2:ys.drop i=[]:=by
    rcases zH1 hy i with q | ⟨x,t,q,_⟩
    ·exact q.2
    ·rw [getElem?_toList] at q; exact nos hi2 q
   rw [hd,hd2] at h
   wp_walk using wpAny_loadPart' hl,wpAny_loadPart' hb
   show R (.ok (.ret (.bool (decide (us.size < vs.size))))) _
   have:us.size≤i:=Array.getElem?_eq_none_iff.mp hi2
   rw [decide_eq_false (Nat.not_lt.mpr (le_trans (Nat.le_of_sub_eq_zero hk) h2))]; exact h
  | some v =>
   have hlt:i < us.size:=by
    rcases Nat.lt_or_ge i us.size with q | q
    ·exact q
    ·exact nos (Array.getElem?_eq_none q) hi2
   obtain ⟨y,hd2⟩:∃ y,ys.drop i=y :: ys.drop (i + 1):=by
    rcases zH1 hy i with q | ⟨x,t,q,e⟩
    ·have:=q.1; rw [getElem?_toList,hi2] at this; cases this
    ·exact ⟨x,e⟩
   rw [hd,hd2] at h
   wp_walk using wpAny_loadPart' hl,wpAny_loadPart' hb
   show R (.ok (.ret (.bool (decide (us.size < vs.size))))) _
   rw [decide_eq_false (Nat.not_lt.mpr (le_trans (Nat.le_of_sub_eq_zero hk) h2))]; unfold ltL at h; exact h
 | succ k ih =>
  intro i hk h1 h2 prog w A R s h
  obtain ⟨hp,g,d,tk,os⟩:=s; obtain ⟨hl,hb,h⟩:=h
  have e0:((i:Nat):Int).toNat=i:=by simp
  wp_walk using wpAny_loadPart' hl,wpAny_loadPart' hb
  rw [e0]
  have hc:((i:Int) + 1)=((i + 1:Nat):Int):=by push_cast; rfl
  obtain ⟨x,t,hi1,hd⟩:∃ x t,vs[i]? = some (.str x t)∧xs.drop i=x :: xs.drop (i + 1):=by
   rcases zH1 hx i with q | ⟨x,t,q,e⟩
   ·have:=q.1; rw [getElem?_toList] at this; exact absurd (Array.getElem?_eq_none_iff.mp this) (Nat.not_le.mpr (Nat.lt_of_sub_eq_succ hk))
   ·exact ⟨x,t,by rw [← getElem?_toList]; exact q,e⟩
  rw [hi1]
  rcases zH1 hy i with q | ⟨y,u,q,hd2⟩
  ·have hi2:us[i]? = none:=by rw [← getElem?_toList]; exact q.1
   rw [hd,q.2] at h
   rw [hi2]
   wp_walk using wpAny_loadPart' hl,wpAny_loadPart' hb
   show R (.ok (.ret (.bool (decide (us.size < vs.size))))) _
   have:us.size≤i:=Array.getElem?_eq_none_iff.mp hi2
   rw [decide_eq_true (Nat.lt_of_le_of_lt this (Nat.lt_of_sub_eq_succ hk))]; unfold ltL at h; exact h
  ·have hi2:us[i]? = some (.str y u):=by rw [← getElem?_toList]; exact q
   have hlt:i < us.size:=by
    rcases Nat.lt_or_ge i us.size with q | q
    ·exact q
    ·exact nos (Array.getElem?_eq_none q) hi2
   rw [hd,hd2] at h
   rw [hi2]
   refine wpAny_bind (eqBool_str ?_)
   by_cases e:x=y
   ·subst e
    have:(x == x)=true:=beq_self_eq_true x
    rw [this]
    wp_walk
    rw [hc]
    exact ⟨plainId_quiet plain_eq_loop' _,codeAny_builtin entry_eq_loop' (by
     rw [Around.under_plainId plain_eq_loop' _]
     exact ih (i + 1) (by rw [← Nat.sub_sub,hk]; rfl) (Nat.lt_of_sub_eq_succ hk) hlt prog w A R _ ⟨hl,hb,by unfold ltL at h; rw [if_pos rfl] at h; exact h⟩)⟩
   ·have:(x == y)=false:=beq_eq_false_iff_ne.mpr e
    rw [this]
    wp_walk using wpAny_loadPart' hl,wpAny_loadPart' hb
    rw [hi1,hi2]
    dsimp only
    refine wpAny_bind (m:=richCompare .Gt (.str x t) (.str y u)) (PySem.P.gt_str (Q:=fun v s'=>_) ?_)
    wp_walk
    unfold ltL at h
    rw [if_neg (fun q=>e q.symm)] at h
    exact h
theorem gt_lists {prog:Program} {w:World} {A:Around} {E:Value→Shared→Prop} {s:Shared} {l b:Addr} {vs us:Array Value} {n n2:Nat} {xs ys:List PStr} {Q:Value→Shared→Prop} (hx:StrsAre vs.toList xs) (hy:StrsAre us.toList ys)
  (hl:s.heap.get? l=some { cls:=.type "list",data:=.seq vs n }) (hb:s.heap.get? b=some { cls:=.type "list",data:=.seq us n2 }) (hu:A.units < cLine) (h:Q (.bool (ltL ys xs)) s) :
  wpAny (model prog w) A (richCompare .Gt (.ref l) (.ref b)) Q E s:=by
 refine richCompare_meets_room (op:=.Gt) (S:=fun A R s=>s.heap.get? l=some { cls:=.type "list",data:=.seq vs n }∧s.heap.get? b=some { cls:=.type "list",data:=.seq us n2 }∧R (.ok (.ret (.bool (ltL ys xs)))) s) ⟨_,hl,rfl⟩ ⟨_,hb,rfl⟩ PySem.F.slot_list_gt PySem.F.entry_list_gt (PySem.F.args_list_gt_2 _ _) ?_ ⟨hl,hb,(fun e=>nomatch e),h⟩ hu
 intro prog w A R s h
 obtain ⟨hp,g,d,tk,os⟩:=s; obtain ⟨hl,hb,h⟩:=h
 have f3:=AutoSeq1.sub_list_list
 wp_walk using wpAny_loadPart' hl,wpAny_loadPart' hb
 exact ⟨plainId_quiet plain_eq_loop' _,codeAny_builtin entry_eq_loop' (by
  rw [Around.under_plainId plain_eq_loop' _]
  exact gt_loop l b vs us n n2 xs ys hx hy _ 0 rfl (zero_le _) (zero_le _) prog w A R _ ⟨hl,hb,by simpa using h⟩)⟩
end Mine
namespace Mine
open PySem.Str (ofString)
open PySem PySem.Calls PySem.Spec PyProof.Rows PySem.W PySem.W.X
section
variable {prog:Program} {w:World} {A:Around} {R:Result→Shared→Prop} {it L S:Addr} {vs:Array Value} {J:Heap→Prop} {bt:Nat→Nat→Bool}
theorem min_turns (hh:A.in1.handled=none) (hli:L≠it) (hSi:S≠it) (hSL:S≠L) (hJ:∀ h h',J h→(∀ b o,b≠it→b≠S→h.get? b=some o→h'.get? b=some o)→J h')
  (hcmp:∀ (s:Shared) (i j:Nat) (u v:Value) (Q:Value→Shared→Prop) (E:Value→Shared→Prop),J s.heap→vs[i]? = some u→vs[j]? = some v→Q (.bool (bt i j)) s→wpAny (model prog w) A.in1 (richCompare .Lt u v) Q E s) :
  ∀ (k j:Nat) (s:Shared) (best:Value) (c:Nat),vs.size=j + 1 + k→s.heap.IsListIter it L (j + 1)→s.heap.IsList L vs→J s.heap→vs[argBest bt j]? = some best →
   s.heap.get? S=some { cls:=.type "list",dict:=none,data:=.seq #[best,best] c,slots:=#[] } →
   (∀ v h' tk,vs[argBest bt (vs.size - 1)]? = some v→(∀ b o,b≠it→b≠S→s.heap.get? b=some o→h'.get? b=some o)→R (.ok (.ret v)) { s with heap:=h',toks:=tk }) →
   codeAny (model prog w) A (.builtin "min.loop" ⟨[.ref it,.none,.ref S],[]⟩) R s
 | 0,j,s,best,c,hk,hit,hl,jj,hb,hS,hR=>by
  have W:=Walks.list hh (prog:=prog) (w:=w) it L hli vs
  refine codeAny_builtin PySem.F.entry_min_loop ?_
  rw [Around.under_plainId PySem.F.plain_min_loop _]
  show wpAny _ A.in1 (seqItems? (.ref S) >>= _) _ _ s
  refine wpAny_bind (wpAny_seqItems hS rfl ?_)
  show wpAny _ A.in1 (tryCatch (pyNext (.ref it)) _ >>= _) _ _ s
  refine wpAny_bind (wpAny_tryCatch (W.done s _ _ (by rw [hk]; exact ⟨hit,hl⟩) fun h' tk hk'=>?_))
  have hk2:∀ b o,b≠it→s.heap.get? b=some o→h'.get? b=some o:=fun b o n e=>hk' b o (fun m=>n (mem_singleton.mp m)) e
  have hS':=hk2 S _ hSi hS
  show wpAny _ A.in1 (updateSeq S (fun _=>#[]) >>= _) _ _ _
  refine wpAny_bind (wpAny_updateSeq hS' rfl (wpAny_bind (wpAny_letGo (wpAny_pure ?_))))
  have e:vs.size - 1=j:=by lia
  exact hR best _ tk (by rw [e]; exact hb) fun b o n1 n2 e=>(get?_update_other _ _ (Ne.symm n2)).trans (hk2 b o n1 e)
 | k + 1,j,s,best,c,hk,hit,hl,jj,hb,hS,hR=>by
  have W:=Walks.list hh (prog:=prog) (w:=w) it L hli vs
  have hname:(toString "min" ++ toString ".loop":String) = "min.loop":=by decide
  refine codeAny_builtin PySem.F.entry_min_loop ?_
  rw [Around.under_plainId PySem.F.plain_min_loop _]
  show wpAny _ A.in1 (seqItems? (.ref S) >>= _) _ _ s
  refine wpAny_bind (wpAny_seqItems hS rfl ?_)
  show wpAny _ A.in1 (tryCatch (pyNext (.ref it)) _ >>= _) _ _ s
  refine wpAny_bind (wpAny_tryCatch (W.item (j + 1) s _ _ (by lia) ⟨hit,hl⟩ fun v h' tk hP hst' hk'=>?_))
  have hk2:∀ b o,b≠it→s.heap.get? b=some o→h'.get? b=some o:=fun b o n e=>hk' b o (fun m=>n (mem_singleton.mp m)) e
  have hS':=hk2 S _ hSi hS
  have jj':J h':=hJ _ _ jj fun b o n1 _ e=>hk2 b o n1 e
  have hP:vs[j + 1]? = some v:=hP
  show wpAny _ A.in1 (tryCatch (holding [v,v] (richCompare .Lt v best >>= _)) _ >>= _) _ _ _
  refine wpAny_bind (wpAny_tryCatch (wpAny_holding (wpAny_bind (hcmp _ (j + 1) (argBest bt j) v best _ _ jj' hP hb ?_))))
  refine wpAny_bind (wpAny_holding (wpAny_truthy_bool ?_))
  refine wpAny_bind (wpAny_letGo (wpAny_pure ?_))
  cases q:bt (j + 1) (argBest bt j) with
  | true =>
   simp only [if_true]
   refine wpAny_bind (wpAny_updateSeq hS' rfl (wpAny_bind (wpAny_letGo ?_)))
   rw [hname]
   have oth:∀ b o,b≠S→h'.get? b=some o→(h'.update S (Obj.mapSeq fun _=>#[v,v])).get? b=some o:=fun b o n e=>(get?_update_other _ _ (Ne.symm n)).trans e
   refine wpAny_pure ⟨plainId_quiet PySem.F.plain_min_loop _,min_turns hh hli hSi hSL hJ hcmp k (j + 1) _ v _ (by lia) (hst'.1.at fun o e=>oth _ o hSi.symm e) (hst'.2.at fun o e=>oth _ o hSL.symm e) (hJ _ _ jj' fun b o _ n e=>oth b o n e)
    (by unfold argBest; rw [q,if_pos rfl]; exact hP) (get?_update_self _ hS' rfl) fun u h'' tk'' hu hk''=>hR u h'' tk'' hu fun b o n1 n2 e=>hk'' b o n1 n2 (oth b o n2 (hk2 b o n1 e))⟩
  | false =>
   simp only [false_eq_true,if_false]
   refine wpAny_bind (wpAny_letGo ?_)
   rw [hname]
   exact wpAny_pure ⟨plainId_quiet PySem.F.plain_min_loop _,min_turns hh hli hSi hSL hJ hcmp k (j + 1) _ best c (by lia) hst'.1 hst'.2 jj'
    (by unfold argBest; rw [q,if_neg (by decide)]; exact hb) hS' fun u h'' tk'' hu hk''=>hR u h'' tk'' hu fun b o n1 n2 e=>hk'' b o n1 n2 (hk2 b o n1 e)⟩
end
theorem call_min_lists {prog:Program} {w:World} {A:Around} {E:Value→Shared→Prop} {s:Shared} {L:Addr} {vs:Array Value} {J:Heap→Prop} {bt:Nat→Nat→Bool} {Q:Value→Shared→Prop} (hh:A.handled=none) (hl:s.heap.IsList L vs) (hpos:0 < vs.size)
  (j0:J s.heap) (hJ:∀ h h',J h→(∀ b o,b < s.heap.objs.size→h.get? b=some o→h'.get? b=some o)→J h')
  (hcmp:∀ (s:Shared) (i j:Nat) (u v:Value) (Q:Value→Shared→Prop) (E:Value→Shared→Prop),J s.heap→vs[i]? = some u→vs[j]? = some v→Q (.bool (bt i j)) s→wpAny (model prog w) A.in1 (richCompare .Lt u v) Q E s)
  (hQ:∀ v h' tk,vs[argBest bt (vs.size - 1)]? = some v→(∀ b o,s.heap.get? b=some o→h'.get? b=some o)→Q v { s with heap:=h',toks:=tk }) :
  wpAny (model prog w) A (call (.builtin "min") [.ref L]) Q E s:=by
 have hname:(toString "min" ++ toString ".loop":String) = "min.loop":=by decide
 have ltL:L < s.heap.objs.size:=by obtain ⟨o,ho,_⟩:=hl; exact lt_size ho
 refine call_function_tree PySem.F.kind_min PySem.F.plain_min PySem.F.entry_min (PySem.F.args_min1 _) ?_
 show wpAny _ A.in1 (Builtin.Builtins.bindParams "min" ["key","default"] 0 ⟨[],[]⟩ >>= _) _ _ s
 refine wpAny_bind (wpAny_of_eq (show Builtin.Builtins.bindParams "min" ["key","default"] 0 ⟨[],[]⟩=pure [none,none] from rfl) ?_)
 refine wpAny_bind (wpAny_pure ?_)
 refine wpAny_bind (wpAny_pyIter_list hl ?_)
 refine wpAny_bind (wpAny_newObj_type ?_)
 rw [hname]
 have z1:(s.heap.push { cls:=.type "list_iterator",data:=.fields #[.ref L,.int 0 0] }).objs.size=s.heap.objs.size + 1:=size_push ..
 refine wpAny_pure ⟨plainId_quiet PySem.F.plain_min_loop _,?_⟩
 show codeAny _ _ (.builtin "min.loop" ⟨[.ref s.heap.objs.size,.none,.ref (s.heap.push _).objs.size],[]⟩) _ _
 rw [z1]
 have hne:s.heap.objs.size + 1≠s.heap.objs.size:=Nat.succ_ne_self _
 have W:=Walks.list (prog:=prog) (w:=w) (A:=A.in1) hh s.heap.objs.size L (ne_of_lt ltL) vs
 refine codeAny_builtin PySem.F.entry_min_loop ?_
 rw [Around.under_plainId PySem.F.plain_min_loop _]
 have hS:((s.heap.push { cls:=.type "list_iterator",data:=.fields #[.ref L,.int 0 0] }).push { cls:=.type "list",data:=.seq ([]:List Value).toArray }).get? (s.heap.objs.size + 1)=some { cls:=.type "list",dict:=none,data:=.seq #[] 0,slots:=#[] }:=by
  have:=get?_push_size (s.heap.push { cls:=.type "list_iterator",data:=.fields #[.ref L,.int 0 0] }) (o:={ cls:=.type "list",data:=.seq ([]:List Value).toArray }) rfl
  rw [z1] at this; exact this
 have hI:Heap.IsListIter ((s.heap.push { cls:=.type "list_iterator",data:=.fields #[.ref L,.int 0 0] }).push { cls:=.type "list",data:=.seq ([]:List Value).toArray }) s.heap.objs.size L 0 :=
  ⟨_,get?_push_of_some _ (get?_push_size _ rfl),rfl,rfl⟩
 have keep2:∀ b o,s.heap.get? b=some o→((s.heap.push { cls:=.type "list_iterator",data:=.fields #[.ref L,.int 0 0] }).push { cls:=.type "list",data:=.seq ([]:List Value).toArray }).get? b=some o :=
  fun b o e=>get?_push_of_some _ (get?_push_of_some _ e)
 show wpAny _ A.in1 (seqItems? (.ref (s.heap.objs.size + 1)) >>= _) _ _ _
 refine wpAny_bind (wpAny_seqItems hS rfl ?_)
 show wpAny _ A.in1 (tryCatch (pyNext (.ref s.heap.objs.size)) _ >>= _) _ _ _
 refine wpAny_bind (wpAny_tryCatch (W.item 0 _ _ _ hpos ⟨hI,hl.at fun o e=>keep2 _ o e⟩ fun v h' tk hP hst' hk'=>?_))
 have hk2:∀ b o,b≠s.heap.objs.size→_:=fun b o n e=>hk' b o (fun m=>n (mem_singleton.mp m)) e
 have hS':=hk2 _ _ hne hS
 show wpAny _ A.in1 (updateSeq (s.heap.objs.size + 1) (fun _=>#[v,v]) >>= _) _ _ _
 refine wpAny_bind (wpAny_updateSeq hS' rfl ?_)
 rw [hname]
 have oth:∀ b o,b≠s.heap.objs.size + 1→h'.get? b=some o→(h'.update (s.heap.objs.size + 1) (Obj.mapSeq fun _=>#[v,v])).get? b=some o:=fun b o n e=>(get?_update_other _ _ (Ne.symm n)).trans e
 have old:∀ b,b < s.heap.objs.size→b≠s.heap.objs.size∧b≠s.heap.objs.size + 1:=fun b lt=>⟨ne_of_lt lt,ne_of_lt (lt_succ_of_lt lt)⟩
 have keep:∀ b o,s.heap.get? b=some o→(h'.update (s.heap.objs.size + 1) (Obj.mapSeq fun _=>#[v,v])).get? b=some o:=fun b o e =>
  oth b o (old b (lt_size e)).2 (hk2 b o (old b (lt_size e)).1 (keep2 b o e))
 refine wpAny_pure ⟨plainId_quiet PySem.F.plain_min_loop _,min_turns (A:=A) (it:=s.heap.objs.size) (L:=L) (S:=s.heap.objs.size + 1) (J:=J) hh (ne_of_lt ltL) hne (old L ltL).2.symm (fun h h' j k=>hJ h h' j fun b o lt e=>k b o (old b lt).1 (old b lt).2 e) hcmp (vs.size - 1) 0 _ v _ (by lia)
  (hst'.1.at fun o e=>oth _ o hne.symm e) (hst'.2.at fun o e=>oth _ o (old L ltL).2 e) (hJ _ _ j0 fun b o lt e=>keep b o e) hP (get?_update_self _ hS' rfl) fun u h'' tk'' hu hk''=>hQ u h'' tk'' hu fun b o e=>hk'' b o (old b (lt_size e)).1 (old b (lt_size e)).2 (keep b o e)⟩
section
variable {prog:Program} {w:World} {A:Around} {R:Result→Shared→Prop} {it L S:Addr} {vs:Array Value} {J:Heap→Prop} {bt:Nat→Nat→Bool}
theorem max_turns (hh:A.in1.handled=none) (hli:L≠it) (hSi:S≠it) (hSL:S≠L) (hJ:∀ h h',J h→(∀ b o,b≠it→b≠S→h.get? b=some o→h'.get? b=some o)→J h')
  (hcmp:∀ (s:Shared) (i j:Nat) (u v:Value) (Q:Value→Shared→Prop) (E:Value→Shared→Prop),J s.heap→vs[i]? = some u→vs[j]? = some v→Q (.bool (bt i j)) s→wpAny (model prog w) A.in1 (richCompare .Gt u v) Q E s) :
  ∀ (k j:Nat) (s:Shared) (best:Value) (c:Nat),vs.size=j + 1 + k→s.heap.IsListIter it L (j + 1)→s.heap.IsList L vs→J s.heap→vs[argBest bt j]? = some best →
   s.heap.get? S=some { cls:=.type "list",dict:=none,data:=.seq #[best,best] c,slots:=#[] } →
   (∀ v h' tk,vs[argBest bt (vs.size - 1)]? = some v→(∀ b o,b≠it→b≠S→s.heap.get? b=some o→h'.get? b=some o)→R (.ok (.ret v)) { s with heap:=h',toks:=tk }) →
   codeAny (model prog w) A (.builtin "max.loop" ⟨[.ref it,.none,.ref S],[]⟩) R s
 | 0,j,s,best,c,hk,hit,hl,jj,hb,hS,hR=>by
  have W:=Walks.list hh (prog:=prog) (w:=w) it L hli vs
  refine codeAny_builtin PySem.F.entry_max_loop ?_
  rw [Around.under_plainId PySem.F.plain_max_loop _]
  show wpAny _ A.in1 (seqItems? (.ref S) >>= _) _ _ s
  refine wpAny_bind (wpAny_seqItems hS rfl ?_)
  show wpAny _ A.in1 (tryCatch (pyNext (.ref it)) _ >>= _) _ _ s
  refine wpAny_bind (wpAny_tryCatch (W.done s _ _ (by rw [hk]; exact ⟨hit,hl⟩) fun h' tk hk'=>?_))
  have hk2:∀ b o,b≠it→s.heap.get? b=some o→h'.get? b=some o:=fun b o n e=>hk' b o (fun m=>n (mem_singleton.mp m)) e
  have hS':=hk2 S _ hSi hS
  show wpAny _ A.in1 (updateSeq S (fun _=>#[]) >>= _) _ _ _
  refine wpAny_bind (wpAny_updateSeq hS' rfl (wpAny_bind (wpAny_letGo (wpAny_pure ?_))))
  have e:vs.size - 1=j:=by lia
  exact hR best _ tk (by rw [e]; exact hb) fun b o n1 n2 e=>(get?_update_other _ _ (Ne.symm n2)).trans (hk2 b o n1 e)
 | k + 1,j,s,best,c,hk,hit,hl,jj,hb,hS,hR=>by
  have W:=Walks.list hh (prog:=prog) (w:=w) it L hli vs
  have hname:(toString "max" ++ toString ".loop":String) = "max.loop":=by decide
  refine codeAny_builtin PySem.F.entry_max_loop ?_
  rw [Around.under_plainId PySem.F.plain_max_loop _]
  show wpAny _ A.in1 (seqItems? (.ref S) >>= _) _ _ s
  refine wpAny_bind (wpAny_seqItems hS rfl ?_)
  show wpAny _ A.in1 (tryCatch (pyNext (.ref it)) _ >>= _) _ _ s
  refine wpAny_bind (wpAny_tryCatch (W.item (j + 1) s _ _ (by lia) ⟨hit,hl⟩ fun v h' tk hP hst' hk'=>?_))
  have hk2:∀ b o,b≠it→s.heap.get? b=some o→h'.get? b=some o:=fun b o n e=>hk' b o (fun m=>n (mem_singleton.mp m)) e
  have hS':=hk2 S _ hSi hS
  have jj':J h':=hJ _ _ jj fun b o n1 _ e=>hk2 b o n1 e
  have hP:vs[j + 1]? = some v:=hP
  show wpAny _ A.in1 (tryCatch (holding [v,v] (richCompare .Gt v best >>= _)) _ >>= _) _ _ _
  refine wpAny_bind (wpAny_tryCatch (wpAny_holding (wpAny_bind (hcmp _ (j + 1) (argBest bt j) v best _ _ jj' hP hb ?_))))
  refine wpAny_bind (wpAny_holding (wpAny_truthy_bool ?_))
  refine wpAny_bind (wpAny_letGo (wpAny_pure ?_))
  cases q:bt (j + 1) (argBest bt j) with
  | true =>
   simp only [if_true]
   refine wpAny_bind (wpAny_updateSeq hS' rfl (wpAny_bind (wpAny_letGo ?_)))
   rw [hname]
   have oth:∀ b o,b≠S→h'.get? b=some o→(h'.update S (Obj.mapSeq fun _=>#[v,v])).get? b=some o:=fun b o n e=>(get?_update_other _ _ (Ne.symm n)).trans e
   refine wpAny_pure ⟨plainId_quiet PySem.F.plain_max_loop _,max_turns hh hli hSi hSL hJ hcmp k (j + 1) _ v _ (by lia) (hst'.1.at fun o e=>oth _ o hSi.symm e) (hst'.2.at fun o e=>oth _ o hSL.symm e) (hJ _ _ jj' fun b o _ n e=>oth b o n e)
    (by unfold argBest; rw [q,if_pos rfl]; exact hP) (get?_update_self _ hS' rfl) fun u h'' tk'' hu hk''=>hR u h'' tk'' hu fun b o n1 n2 e=>hk'' b o n1 n2 (oth b o n2 (hk2 b o n1 e))⟩
  | false =>
   simp only [false_eq_true,if_false]
   refine wpAny_bind (wpAny_letGo ?_)
   rw [hname]
   exact wpAny_pure ⟨plainId_quiet PySem.F.plain_max_loop _,max_turns hh hli hSi hSL hJ hcmp k (j + 1) _ best c (by lia) hst'.1 hst'.2 jj'
    (by unfold argBest; rw [q,if_neg (by decide)]; exact hb) hS' fun u h'' tk'' hu hk''=>hR u h'' tk'' hu fun b o n1 n2 e=>hk'' b o n1 n2 (hk2 b o n1 e)⟩
end
theorem call_max_lists {prog:Program} {w:World} {A:Around} {E:Value→Shared→Prop} {s:Shared} {L:Addr} {vs:Array Value} {J:Heap→Prop} {bt:Nat→Nat→Bool} {Q:Value→Shared→Prop} (hh:A.handled=none) (hl:s.heap.IsList L vs) (hpos:0 < vs.size)
  (j0:J s.heap) (hJ:∀ h h',J h→(∀ b o,b < s.heap.objs.size→h.get? b=some o→h'.get? b=some o)→J h')
  (hcmp:∀ (s:Shared) (i j:Nat) (u v:Value) (Q:Value→Shared→Prop) (E:Value→Shared→Prop),J s.heap→vs[i]? = some u→vs[j]? = some v→Q (.bool (bt i j)) s→wpAny (model prog w) A.in1 (richCompare .Gt u v) Q E s)
  (hQ:∀ v h' tk,vs[argBest bt (vs.size - 1)]? = some v→(∀ b o,s.heap.get? b=some o→h'.get? b=some o)→Q v { s with heap:=h',toks:=tk }) :
  wpAny (model prog w) A (call (.builtin "max") [.ref L]) Q E s:=by
 have hname:(toString "max" ++ toString ".loop":String) = "max.loop":=by decide
 have ltL:L < s.heap.objs.size:=by obtain ⟨o,ho,_⟩:=hl; exact lt_size ho
 refine call_function_tree PySem.F.kind_max PySem.F.plain_max PySem.F.entry_max (PySem.F.args_max1 _) ?_
 show wpAny _ A.in1 (Builtin.Builtins.bindParams "max" ["key","default"] 0 ⟨[],[]⟩ >>= _) _ _ s
 refine wpAny_bind (wpAny_of_eq (show Builtin.Builtins.bindParams "max" ["key","default"] 0 ⟨[],[]⟩=pure [none,none] from rfl) ?_)
 refine wpAny_bind (wpAny_pure ?_)
 refine wpAny_bind (wpAny_pyIter_list hl ?_)
 refine wpAny_bind (wpAny_newObj_type ?_)
 rw [hname]
 have z1:(s.heap.push { cls:=.type "list_iterator",data:=.fields #[.ref L,.int 0 0] }).objs.size=s.heap.objs.size + 1:=size_push ..
 refine wpAny_pure ⟨plainId_quiet PySem.F.plain_max_loop _,?_⟩
 show codeAny _ _ (.builtin "max.loop" ⟨[.ref s.heap.objs.size,.none,.ref (s.heap.push _).objs.size],[]⟩) _ _
 rw [z1]
 have hne:s.heap.objs.size + 1≠s.heap.objs.size:=Nat.succ_ne_self _
 have W:=Walks.list (prog:=prog) (w:=w) (A:=A.in1) hh s.heap.objs.size L (ne_of_lt ltL) vs
 refine codeAny_builtin PySem.F.entry_max_loop ?_
 rw [Around.under_plainId PySem.F.plain_max_loop _]
 have hS:((s.heap.push { cls:=.type "list_iterator",data:=.fields #[.ref L,.int 0 0] }).push { cls:=.type "list",data:=.seq ([]:List Value).toArray }).get? (s.heap.objs.size + 1)=some { cls:=.type "list",dict:=none,data:=.seq #[] 0,slots:=#[] }:=by
  have:=get?_push_size (s.heap.push { cls:=.type "list_iterator",data:=.fields #[.ref L,.int 0 0] }) (o:={ cls:=.type "list",data:=.seq ([]:List Value).toArray }) rfl
  rw [z1] at this; exact this
 have hI:Heap.IsListIter ((s.heap.push { cls:=.type "list_iterator",data:=.fields #[.ref L,.int 0 0] }).push { cls:=.type "list",data:=.seq ([]:List Value).toArray }) s.heap.objs.size L 0 :=
  ⟨_,get?_push_of_some _ (get?_push_size _ rfl),rfl,rfl⟩
 have keep2:∀ b o,s.heap.get? b=some o→((s.heap.push { cls:=.type "list_iterator",data:=.fields #[.ref L,.int 0 0] }).push { cls:=.type "list",data:=.seq ([]:List Value).toArray }).get? b=some o :=
  fun b o e=>get?_push_of_some _ (get?_push_of_some _ e)
 show wpAny _ A.in1 (seqItems? (.ref (s.heap.objs.size + 1)) >>= _) _ _ _
 refine wpAny_bind (wpAny_seqItems hS rfl ?_)
 show wpAny _ A.in1 (tryCatch (pyNext (.ref s.heap.objs.size)) _ >>= _) _ _ _
 refine wpAny_bind (wpAny_tryCatch (W.item 0 _ _ _ hpos ⟨hI,hl.at fun o e=>keep2 _ o e⟩ fun v h' tk hP hst' hk'=>?_))
 have hk2:∀ b o,b≠s.heap.objs.size→_:=fun b o n e=>hk' b o (fun m=>n (mem_singleton.mp m)) e
 have hS':=hk2 _ _ hne hS
 show wpAny _ A.in1 (updateSeq (s.heap.objs.size + 1) (fun _=>#[v,v]) >>= _) _ _ _
 refine wpAny_bind (wpAny_updateSeq hS' rfl ?_)
 rw [hname]
 have oth:∀ b o,b≠s.heap.objs.size + 1→h'.get? b=some o→(h'.update (s.heap.objs.size + 1) (Obj.mapSeq fun _=>#[v,v])).get? b=some o:=fun b o n e=>(get?_update_other _ _ (Ne.symm n)).trans e
 have old:∀ b,b < s.heap.objs.size→b≠s.heap.objs.size∧b≠s.heap.objs.size + 1:=fun b lt=>⟨ne_of_lt lt,ne_of_lt (lt_succ_of_lt lt)⟩
 have keep:∀ b o,s.heap.get? b=some o→(h'.update (s.heap.objs.size + 1) (Obj.mapSeq fun _=>#[v,v])).get? b=some o:=fun b o e =>
  oth b o (old b (lt_size e)).2 (hk2 b o (old b (lt_size e)).1 (keep2 b o e))
 refine wpAny_pure ⟨plainId_quiet PySem.F.plain_max_loop _,max_turns (A:=A) (it:=s.heap.objs.size) (L:=L) (S:=s.heap.objs.size + 1) (J:=J) hh (ne_of_lt ltL) hne (old L ltL).2.symm (fun h h' j k=>hJ h h' j fun b o lt e=>k b o (old b lt).1 (old b lt).2 e) hcmp (vs.size - 1) 0 _ v _ (by lia)
  (hst'.1.at fun o e=>oth _ o hne.symm e) (hst'.2.at fun o e=>oth _ o (old L ltL).2 e) (hJ _ _ j0 fun b o lt e=>keep b o e) hP (get?_update_self _ hS' rfl) fun u h'' tk'' hu hk''=>hQ u h'' tk'' hu fun b o e=>hk'' b o (old b (lt_size e)).1 (old b (lt_size e)).2 (keep b o e)⟩
open PySem.Builtin PySem.Builtin.Str
theorem size_big2 {n:Nat} (h:n≤1000000):n + 2≤sizeLine:=by rw [sizeLine_eq]; lia
theorem call_split {prog:Program} {w:World} {A:Around} {E:Value→Shared→Prop} {s:Shared} {x y:PStr} {t u:Tok} {Q:Value→Shared→Prop} (hy:(y.length == 0)=false) (hsz:x.length + 2≤sizeLine)
  (h:∀ (l:List (PStr × Tok)) k,l.map (·.1)=Txt.split x y→Q (.ref s.heap.objs.size) { s with heap:=s.heap.push { cls:=.type "list",data:=.seq (strValues l).toArray },toks:=k }) :
  wpAny (model prog w) A (call (.builtin "str.split") [.str x t,.str y u]) Q E s:=by
 have hn:(partsBetween x (occurrences x y 0 x.length (x.length + 1)) y.length).length≤sizeLine:=by
  have e1:=StrLaws.occ_length_le x y 0 x.length (x.length + 1)
  rw [length_partsBetween]; lia
 have hT:=typeIs_str s x t
 cases h1:(decide (x.length < y.length) || decide (strKind x < strKind y)) with
 | true=>exact call_meets PySem.F.slot_str_split hT PySem.F.entry_str_split (PySem.F.args_str_split_2 _ _) (meets_str_split_cannot_occur x y t u h1) (h [(x,t)] s.toks (if_pos h1).symm)
 | false =>
  cases hf:(occurrences x y 0 x.length (x.length + 1)).isEmpty with
  | true=>exact call_meets PySem.F.slot_str_split hT PySem.F.entry_str_split (PySem.F.args_str_split_2 _ _) (meets_str_split_not_found x y t u h1 hy hf) (h [(x,t)] s.toks ((if_neg (ne_true_of_eq_false h1)).trans (if_pos hf)).symm)
  | false =>
   refine call_meets PySem.F.slot_str_split hT PySem.F.entry_str_split (PySem.F.args_str_split_2 _ _) (meets_str_split_sep x y t u h1 hy hf (by lia) hn) ?_
   show wants Q E _ { s with toks:=_,heap:=s.heap.push { cls:=.type "list",data:=.seq (strsFrom s.toks (partsBetween x (occurrences x y 0 x.length (x.length + 1)) y.length)).toArray } }
   rw [strsFrom_eq]
   exact h (numbered s.toks _) _ ((numbered_texts _ _).trans ((if_neg (ne_true_of_eq_false h1)).trans (if_neg (ne_true_of_eq_false hf))).symm)
theorem b_split {k:Nat}:BSound k (.builtin "str.split") splitPV:=b_ss fun C A F s x y p t u I hs h=>by
 obtain ⟨hz,rfl⟩:=zG0 h
 refine call_split (by rw [hz.2]; rfl) (size_big2 hz.1) fun l k e=>?_
 have P:=zJ4 (C:=C) (F:=F) (n:=0) (vs:=(strValues l).toArray) I hs (xs:=(Txt.split x y).map .str) (e ▸ rep_vals l)
 exact ⟨P.1.trans (.toks _ k),P.2.toks k,P.3⟩
end Mine
namespace Mine
open PySem.Str (ofString)
open PySem PySem.Calls PySem.Spec PyProof.Rows PySem.W PySem.W.X
noncomputable def lssOf:List PV→Option (List (List PStr))
 | []=>some []
 | p :: r=>p.toLst.bind fun ys=>(strsOf ys).bind fun ss=>(lssOf r).map (ss :: ·)
theorem lss_at {w:World} {F:Fz} {xs:List PV} {xss:List (List PStr)} {vs:List Value} (h:lssOf xs=some xss) (r:RepL w F xs vs):xs.length=xss.length∧vs.length=xss.length∧∀ (i:Nat) (v:Value),vs[i]? = some v→∃ b us n,v=Value.ref b∧F b=some { cls:=.type "list",data:=.seq us n }∧StrsAre us.toList (xss.getD i []):=by
 induction xs generalizing xss vs with
 | nil=>unfold RepL at r; subst r; obtain rfl:=Option.some.inj h; exact ⟨rfl,rfl,fun i v e=>no e⟩
 | cons x xs ih =>
  refine repS r fun v us e rx r2=>zB1 h fun ys e' h=>zB1 h fun ss hs h=>mapE h fun yss hy e2=>?_
  obtain rfl:=PV.toLst_inv e'
  subst e e2
  obtain ⟨h1,h2,h3⟩:=ih hy r2
  refine ⟨congrArg (· + 1) h1,congrArg (· + 1) h2,fun i u e=>?_⟩
  cases i with
  | zero =>
   obtain rfl:=Option.some.inj e
   unfold Rep at rx
   obtain ⟨b,us,n,rfl,f,rl⟩:=rx
   exact ⟨b,us,n,rfl,f,strs_are hs rl⟩
  | succ i=>exact h3 i u e
theorem argBest_le (bt:Nat→Nat→Bool):∀ k,argBest bt k≤k
 | 0=>le_refl _
 | k + 1=>by
  unfold argBest
  split
  ·exact le_refl _
  ·exact Nat.le_succ_of_le (argBest_le bt k)
noncomputable def btMin (xss:List (List PStr)) (i j:Nat):Bool:=ltL (xss.getD i []) (xss.getD j [])
noncomputable def btMax (xss:List (List PStr)) (i j:Nat):Bool:=ltL (xss.getD j []) (xss.getD i [])
noncomputable def bestPV (bt:List (List PStr)→Nat→Nat→Bool):List PV→Option PV:=args1 fun p=>p.toLst.bind fun xs=>(lssOf xs).bind fun xss=>xs[argBest (bt xss) (xss.length - 1)]?
noncomputable def minLPV:List PV→Option PV:=bestPV btMin
noncomputable def maxLPV:List PV→Option PV:=bestPV btMax
theorem b_best {k:Nat} {id:String} {bt:List (List PStr)→Nat→Nat→Bool} (H:∀ (C:Cx) (A:Around) (F:Fz) (s:Shared) (a:Addr) (us:Array Value) (n:Nat) (xss:List (List PStr)) (Q:Value→Shared→Prop),Room k A→F.sub s.heap→F a=some { cls:=.type "list",data:=.seq us n }→0 < us.size →
   (∀ (i:Nat) (v:Value),us[i]? = some v→∃ b ws n,v=Value.ref b∧F b=some { cls:=.type "list",data:=.seq ws n }∧StrsAre ws.toList (xss.getD i [])) →
   (∀ v h' tk,us[argBest (bt xss) (us.size - 1)]? = some v→(∀ b o,s.heap.get? b=some o→h'.get? b=some o)→Q v { s with heap:=h',toks:=tk })→WP C A (call (.builtin id) [.ref a]) Q s):BSound k (.builtin id) (bestPV bt):=by
 intro C A F s ps p vs R I hs hT r h
 refine zD6 h fun q e h=>zB1 h fun xs e1 h=>zB1 h fun xss hxs h2=>?_
 obtain rfl:=PV.toLst_inv e1
 obtain rfl:=e
 refine rep1 r fun v e ra=>?_
 subst e
 unfold Rep at ra
 obtain ⟨a,us,n,rfl,f,rl⟩:=ra
 obtain ⟨h1,l2,h3⟩:=lss_at hxs rl
 have l2:us.size=xss.length:=length_toList.symm.trans l2
 refine H C A F s a us n xss _ R hs f (by rw [l2,← h1]; exact Nat.pos_of_ne_zero fun e=>by rw [List.getElem?_eq_none (by rw [e]; exact zero_le _)] at h2; exact no h2) (fun i v e=>h3 i v (getElem?_toList.trans e)) fun v h' tk hv hk=>⟨.of_keep hk,I.of_keep hk I.gens rfl rfl,?_⟩
 obtain ⟨u,e,ru⟩:=rl.get h2
 rw [getElem?_toList,← l2] at e
 obtain rfl:=uniq hv e
 exact Rep.mono (Fz.le_ext hs) ru
theorem b_minL {k:Nat}:BSound k (.builtin "min") minLPV:=b_best fun C A F s a us n xss Q R hs f hpos h3 hQ=>by
 refine call_min_lists (J:=fun h=>F.sub h) (bt:=btMin xss) R.handled ⟨_,hs _ _ f,rfl,n,rfl⟩ hpos hs (fun h h' j k b o e=>k b o (lt_size (hs b o e)) (j b o e)) ?_ hQ
 intro s' i j u v Q E j' hu hv hQ
 obtain ⟨b,ws,m,rfl,fb,sb⟩:=h3 i u hu
 obtain ⟨c,zs,m',rfl,fc,sc⟩:=h3 j v hv
 exact lt_lists sb sc (j' _ _ fb) (j' _ _ fc) R.unit1 hQ
theorem b_maxL {k:Nat}:BSound k (.builtin "max") maxLPV:=b_best fun C A F s a us n xss Q R hs f hpos h3 hQ=>by
 refine call_max_lists (J:=fun h=>F.sub h) (bt:=btMax xss) R.handled ⟨_,hs _ _ f,rfl,n,rfl⟩ hpos hs (fun h h' j k b o e=>k b o (lt_size (hs b o e)) (j b o e)) ?_ hQ
 intro s' i j u v Q E j' hu hv hQ
 obtain ⟨b,ws,m,rfl,fb,sb⟩:=h3 i u hu
 obtain ⟨c,zs,m',rfl,fc,sc⟩:=h3 j v hv
 exact gt_lists sb sc (j' _ _ fb) (j' _ _ fc) R.unit1 hQ
theorem minLPV_l (xs:List PV):minLPV [.list xs]=(lssOf xs).bind fun xss=>xs[argBest (btMin xss) (xss.length - 1)]?:=rfl
theorem maxLPV_l (xs:List PV):maxLPV [.list xs]=(lssOf xs).bind fun xss=>xs[argBest (btMax xss) (xss.length - 1)]?:=rfl
noncomputable def truthT (p:PV):Option Bool:=p.sel (fun _=>none) (fun _=>none) (fun xs=>if xs.length≤1000 then some (!xs.isEmpty) else none) (fun _=>none)
theorem t_tup {k:Nat} {sc:Scope} {e:Expr} {f:Lc→Option PV} (H:SoundE k sc e f) (he:∀ env whole,isTrue e env whole=(do let v ← whole; standAt e.pos; holding [v] (truthy v))) :
  SoundT k sc e (fun l=>(f l).bind truthT):=by
 intro C A env F l s b R S h
 refine zB1 h fun p hp h=>PV.sel_inv h (fun _ _ h=>no h) (fun _ _ h=>no h) (fun xs e1 h=>?_) fun _ _ h=>no h
 subst e1
 obtain ⟨hz,rfl⟩:=zG0 h
 refine wpAny_isTrue_value (H.use R S hp fun v s₁ X₁ S₁ r₁=>?_) (he _ _)
 unfold Rep at r₁
 obtain ⟨a,vs,n,rfl,f,rl⟩:=r₁
 have hl:vs.size=xs.length:=length_toList.symm.trans rl.length
 refine truthy_tuple (items:=vs) ⟨_,S₁.sub _ _ f,rfl,n,rfl⟩ (by lia) ⟨?_,X₁.trans (.toks _ _),S₁.inv.toks _⟩
 cases xs with
 | nil=>obtain rfl:vs = #[]:=Array.eq_empty_of_size_eq_zero hl; rfl
 | cons x xs=>rw [show vs.isEmpty=false from Array.isEmpty_eq_false_iff.mpr fun e=>by subst e; cases hl]; rfl
theorem wb_dead {k:Nat} {sc:Scope} {s:List Stmt}:WB k sc s (fun _=>none):=⟨fun C A env s₀ F₀ F K l s o R S h=>by exact no h⟩
section
variable {k:Nat} {sc:Scope} {pos p₁ p₂ p₃:Pos} {n:Nat} {x:PStr} {e e₁ e₂ e₃:Expr} {es:List Expr} {f g h:Lc→Option PV} {fs:Lc→Option (List PV)} {t u:Lc→Option Bool}
theorem wt_tup (H:WE k sc e f) (he:∀ env whole,isTrue e env whole=(do let v ← whole; standAt e.pos; holding [v] (truthy v))):WT k sc e (fun l=>(f l).bind truthT):=⟨t_tup H.h he⟩
theorem w_isbytes (H:WE k sc e f) (hst:notStar e=true) (hx1:sc.names.lookup (ofString "isinstance")=some .globalImplicit) (hx2:sc.names.lookup (ofString "bytes")=some .globalImplicit) :
  WE k sc (.Call (.Name (ofString "isinstance") p₁) [e,.Name (ofString "bytes") p₂] [] pos) (fun l=>(f l).bind noB):=⟨s_isbytes H.h hst hx1 hx2⟩
theorem w_minL (hx:sc.names.lookup (ofString "min")=some .globalImplicit) (hst:(e :: es).all notStar=true) (H:WEs k sc (e :: es) fs):WE k sc (.Call (.Name (ofString "min") p₁) (e :: es) [] pos) (fun l=>(fs l).bind minLPV):=⟨zH5 b_minL gv_min hx (zD2 hst) H.h⟩
theorem w_maxL (hx:sc.names.lookup (ofString "max")=some .globalImplicit) (hst:(e :: es).all notStar=true) (H:WEs k sc (e :: es) fs):WE k sc (.Call (.Name (ofString "max") p₁) (e :: es) [] pos) (fun l=>(fs l).bind maxLPV):=⟨zH5 b_maxL gv_max hx (zD2 hst) H.h⟩
end
theorem gname_inj {a b:Addr} (h:gname a=gname b):a=b:=by
 injection h with h
 have:=congrArg (fun x=>x[1]!) h
 exact this
noncomputable def NoG (sc:Scope):Prop:=∀ b,sc.names.lookup (gname b)=none
theorem ghost_addr {sc:Scope} {env:Env} (O:EnvOK sc env) (hg:NoG sc) {h:Heap} {b:Addr} {v:Value} (x:Bd env h (gname b) v):v = .ref b:=by
 have hk:env.kindOf (gname b)=none:=by rw [O.kindOf]; exact hg b
 cases x with
 | loc m k n e=>exact nos hk k
 | cell c o k l g d=>exact nos hk k
 | ghost c e k g=>rw [g,gname_inj e]
theorem dget_map {α β:Type} (f:α→β):∀ (ks:List PStr) (xs:List α) (k:PStr),dget ks (xs.map f) k=(dget ks xs k).map f
 | [],_,_=>rfl
 | _ :: _,[],_=>rfl
 | k' :: ks,x :: xs,k=>by
  rw [map_cons]
  unfold dget
  by_cases e:k=k'
  ·rw [if_pos e,if_pos e]; rfl
  ·rw [if_neg e,if_neg e]; exact dget_map f ks xs k
noncomputable def lstAt (l:Lc) (x:PStr):Option (List PV):=(look l x).bind fun q=>q.owP.bind PV.toLst
theorem lstAt_inv {l:Lc} {x:PStr} {xs:List PV} (h:lstAt l x=some xs):look l x=some (.ow (.list xs)):=zB1 h fun q e h=>zB1 h fun p e' h=>by rw [e,Loc.owP_inv e',PV.toLst_inv h]
theorem lstAt_at {l:Lc} {x:PStr} {xs:List PV} (h:look l x=some (.ow (.list xs))):lstAt l x=some xs:=by unfold lstAt; rw [h]; rfl
noncomputable def drefAt {β:Type} (l:Lc) (x:PStr) (f:List PStr→List Nat→Option β):Option β:=(cV x l).bind fun q=>q.sel2 (fun _ _=>none) (fun _=>none) (fun _=>none) f
theorem drefAt_inv {β:Type} {l:Lc} {x:PStr} {f:List PStr→List Nat→Option β} {r:β} {P:Prop} (h:drefAt l x f=some r) (k:∀ ks bs,look l x=some (.fz (.dref ks bs))→f ks bs=some r→P):P :=
 zB1 h fun q e h=>PV.sel2_inv h (fun _ _ _ h=>no h) (fun _ _ h=>no h) (fun _ _ h=>no h) fun ks bs e' h=>k ks bs (cV_some (e' ▸ e)) h
theorem drefAt_at {β:Type} {l:Lc} {x:PStr} {f:List PStr→List Nat→Option β} {ks:List PStr} {bs:List Nat} (h:look l x=some (.fz (.dref ks bs))):drefAt l x f=f ks bs:=by unfold drefAt; rw [zA3 h]; rfl
noncomputable def cBApp (x:PStr) (g f:Lc→Option PV):Lc→Option Out:=fun l=>drefAt l x fun ks bs=>(g l).bind fun i=>i.toStr.bind fun key=>(dget ks bs key).bind fun b=>(lstAt l (gname b)).bind fun xs=>(f l).bind fun p=>if xs.length < sizeLine then some (.go ((gname b,.ow (.list (xs ++ [p]))) :: l)) else none
theorem cBApp_inv {x:PStr} {g f:Lc→Option PV} {l:Lc} {o:Out} {P:Prop} (h:cBApp x g f l=some o) (k:∀ ks bs key b xs p,look l x=some (.fz (.dref ks bs))→g l=some (.str key)→dget ks bs key=some b→look l (gname b)=some (.ow (.list xs))→f l=some p→xs.length < sizeLine→.go ((gname b,.ow (.list (xs ++ [p]))) :: l)=o→P):P :=
 drefAt_inv h fun ks bs e h=>zB1 h fun i e1 h=>zB1 h fun key e2 h=>zB1 h fun b e3 h=>zB1 h fun xs e4 h=>zB1 h fun p e5 h=>k ks bs key b xs p e (PV.toStr_inv e2 ▸ e1) e3 (lstAt_inv e4) e5 (zG0 h).1 (zG0 h).2
theorem st_bapp {k:Nat} {sc:Scope} {x:PStr} {np ip ap cp pos:Pos} {ei e:Expr} {g f:Lc→Option PV} (hx:sc.names.lookup x=some .local ∨ sc.names.lookup x=some .cell) (hd:(x == ("__debug__":PySem.Str))=false) (hg:NoG sc) (G:SoundE k sc ei g) (H:SoundE k sc e f) (hst:Stars [e])
  (hsl:∀ o i,subscripted ei false o i=operate [o,i] (getItem o i))
  (hbase:∀ env,attributeBase (.Subscript (.Name x np) ei ip) "append" env (eval (.Subscript (.Name x np) ei ip) env)=eval (.Subscript (.Name x np) ei ip) env) (hline:(ap.endLine == cp.line)=true)
  (hi:∀ env,env.scope=sc→interactive env=false) :
  SoundS k sc (.Expr (.Call (.Attribute (.Subscript (.Name x np) ei ip) "append" ap) [e] [] cp) pos) (cBApp x g f):=by
 intro C A env s₀ F₀ F K l s o R S h
 refine cBApp_inv h fun ks bs key b xs p hl hi' hb hlb hp hz e=>?_
 ·clear h
  subst e
  refine wpAny_Expr (wpAny_Call_append (hbase env) (by rw [hst env]; rfl) hline (stars_one hst env cp) ?_) (hi env S.ok.scope) (by rfl)
  refine PyProof.Rows.Subscript_ ((s_var hx hd C A env F l s (.dref ks bs) R S.xs (zA3 hl)).mono fun va s₁ P₁=>?_)
  obtain ⟨S₁,g₁⟩:=S.step P₁.1 P₁.2
  refine (G C A env _ l s₁ _ R S₁.xs hi').mono fun vb s₂ P₂=>?_
  obtain ⟨S₂,g₂⟩:=S₁.step P₂.1 P₂.2
  have ra:=Rep.mono (Fz.le_ext (s':=s₂) S₁.fsub) P₁.3
  unfold Rep at ra
  obtain ⟨a,es,n,rfl,fa,hk,hv⟩:=ra
  obtain ⟨u,rfl⟩:=zB6 P₂.3
  have e1:dget ks (es.toList.map (·.val)) key=some (.ref b):=by rw [hv,dget_map,hb]; rfl
  have hfa:=S₂.fsub _ _ fa
  refine zL7 ⟨_,hfa,rfl⟩ slot_dict_getitem.lookup (hsl _ _) (by simp) ?_
  refine wpAny_getItem_of (knd:=PySem.strKind PG C.w) (k:=key) (by simp [PySem.strKind,Value.isStrOf]) (map_of hfa hk) e1 ?_
  obtain ⟨S₃,g₃⟩:=S₂.step (Ext.toks s₂ (s₂.toks + 1)) (S₂.inv.toks _)
  obtain ⟨b',vs,n',b₃,ho,hsz,kk⟩:=S₃.ownApp hlb
  obtain rfl:=refI (ghost_addr S₃.ok hg b₃)
  refine ⟨b',vs,rfl,⟨_,n',ho,rfl,rfl,rfl⟩,?_⟩
  refine (H C A env _ l _ p R S₃.xs hp).mono fun v s₄ P₄=>?_
  obtain ⟨S₄,g₄⟩:=S₃.step P₄.1 P₄.2
  refine wpAny_list_append_plain ⟨n',P₄.1.kept S₃.inv ho (zJ2 rfl)⟩ (fun h' hpl hs'=>?_) (hsz ▸ Nat.le_of_lt hz)
  obtain ⟨n₃,hn₃⟩:=hpl
  exact ⟨rfl,(kk S₄ P₄.1 s₄.toks P₄.3 hn₃ hs').trans (g₁.trans (g₂.trans (g₃.trans g₄)))⟩
noncomputable def gLists (l:Lc):List Nat→Option (List PV)
 | []=>some []
 | b :: bs=>(lstAt l (gname b)).bind fun xs=>(gLists l bs).map (.list xs :: ·)
noncomputable def cRetD (x:PStr):Lc→Option Out:=fun l=>drefAt l x fun ks bs=>(gLists l bs).map fun ps=>.ret (.dict ks ps)
theorem gLists_rep {C:Cx} {sc:Scope} {env:Env} {s₀ s:Shared} {F₀ F K:Fz} {l:Lc} (S:FS C sc env s₀ F₀ F K l s) (hg:NoG sc) {G:Fz} (le:F.le G) (hG:∀ b o,s₀.heap.get? b=none→s.heap.get? b=some o→G b=some o)
  {bs:List Nat} {ps:List PV} (h:gLists l bs=some ps):RepL C.w G ps (bs.map Value.ref):=by
 induction bs generalizing ps with
 | nil=>obtain rfl:=Option.some.inj h; exact RepL.nil
 | cons b bs ih =>
  refine zB1 h fun xs hl h=>mapE h fun qs hq e=>?_
  subst e
  obtain ⟨a,ba,ra,ka,_⟩:=S.owned (lstAt_inv hl) rfl
  obtain rfl:=refI (ghost_addr S.ok hg ba)
  obtain ⟨vs,n,ho,fa,rl⟩:=own_list ra
  refine RepL.cons ?_ (ih hq)
  unfold Rep
  exact ⟨a,vs,n,rfl,hG a _ (S.fresh ho (zJ2 rfl) ka) ho,RepL.mono le rl⟩
theorem st_retd {k:Nat} {sc:Scope} {x:PStr} {np pos:Pos} (hx:sc.names.lookup x=some .local ∨ sc.names.lookup x=some .cell) (hd:(x == ("__debug__":PySem.Str))=false) (hg:NoG sc):SoundS k sc (.Return (some (.Name x np)) pos) (cRetD x):=by
 intro C A env s₀ F₀ F K l s o R S h
 refine drefAt_inv h fun ks bs hl h=>mapE h fun ps hps e=>?_
 ·subst e
  refine wpAny_Return_some ((s_var hx hd C A env F l s (.dref ks bs) R S.xs (zA3 hl)).mono fun v s₁ P=>⟨v,rfl,S.ext.trans P.1,P.2,?_⟩)
  obtain ⟨S₁,g₁⟩:=S.step P.1 P.2
  have r:=P.3
  have le:(F.ext s s₁).le (F₀.ext s₀ s₁):=fun b o e=>by
   by_cases l0:(s₀.heap.get? b).isSome=true
   ·exact (Fz.ext_old l0).trans (S₁.agree b o e l0)
   ·exact (Fz.ext_out l0).trans (S₁.fsub b o e)
  unfold Rep at r ⊢
  obtain ⟨a,es,n,rfl,fa,hk,hv⟩:=r
  refine ⟨a,es,n,rfl,le _ _ fa,hk,?_⟩
  rw [hv]
  exact gLists_rep S₁ hg le (fun b o e0 e=>zE7 e0 e) hps
theorem ck_dictL {kx vx tgt iter:Expr} {ifs:List Expr} {scope:Scope} {pos:Pos}:CompKind (.DictComp kx vx [⟨tgt,iter,ifs,0⟩] scope pos) scope newDict tgt iter ifs (stepD kx vx) (.dlist []) where
 cl:=rfl
 new:=fun C A s Q h=>by
  unfold newDict
  exact wpAny_newObj_type (h _ (fun F=>⟨#[],_,rfl,trivial,[],rfl,List.nodup_nil,fun b hb=>nomatch hb⟩) rfl)
 start:=ck_dict.start
 turn:=ck_dict.turn
noncomputable def cPutL (fk:Lc→Option PV):Lc→PV→Option PV:=fun l acc=>acc.sel2 (fun _ _=>none) (fun _=>none) (fun ks=>(fk l).bind fun i=>i.toStr.bind fun key=>if key ∉ ks∧ks.Nodup∧ks.length < 1000 then some (.dlist (ks ++ [key])) else none) (fun _ _=>none)
theorem so_dictL {k:Nat} {sc':Scope} {kx:Expr} {lp:Pos} {fk:Lc→Option PV} (H:SoundE k sc' kx fk):StepOK k sc' (stepD kx (.List [] lp)) (cPutL fk):=by
 intro C A env F l s D o acc acc' R S ho r hD h
 refine PV.sel2_inv h (fun _ _ _ h=>no h) (fun _ _ h=>no h) (fun ks e h=>zB1 h fun i hi h=>zB1 h fun key e1 h2=>?_) fun _ _ _ h=>no h
 ·obtain rfl:=e
  obtain rfl:=PV.toStr_inv e1
  obtain ⟨hz,rfl⟩:=zG0 h2
  obtain ⟨es,n,rfl,hk,bs,hv,nd,hb⟩:=r
  unfold stepD
  refine wpAny_bind ((H C A env F l s _ R S hi).mono fun vk s₁ P=>?_)
  have S₁:=S.step P.1 P.2
  refine wpAny_bind (wpAny_holding ((n_list (es_nil (k:=k) (sc:=sc')) C A env _ l s₁ (.list []) R S₁ (by unfold cList cNil; rfl)).mono fun v s₂ P₂=>wpAny_bind (wpAny_standAt (wpAny_holding ?_))))
  obtain ⟨t,rfl⟩:=zB6 P.3
  obtain ⟨X₂,I₂,b,ob,F',rfl,fb,eb,_,_,_,_,vs,m,rfl,rl⟩:=P₂
  have X:=P.1.trans X₂
  have ho₂:=X.kept S.inv ho (zI5 rfl)
  have hvs:vs = #[]:=by
   have:=rl.length
   simp only [length_toList,length_nil] at this
   exact Array.eq_empty_of_size_eq_zero this
  subst hvs
  have b0:s.heap.get? b=none:=ton fun o q=>nol fb (P.1.live b (lv q))
  obtain ⟨hD,hl⟩:=dict_in ho₂ hk hz.2.1
  refine wpAny_dictSet_pairs (knd:=PySem.strKind PG C.w) (k:=key) str_key hD (fun h' hD' hs'=>?_) (Nat.le_of_lt (zip_len hl (Nat.lt_trans hz.2.2 (by decide))))
  obtain ⟨es',n',ho',hk',hv'⟩:=dict_out hl hD'
  have eK:dsetK ks key=ks ++ [key]:=if_neg hz.1
  have eV:dsetV ks (es.toList.map (·.val)) key (.ref b)=es.toList.map (·.val) ++ [.ref b]:=if_neg hz.1
  rw [eK] at hk'
  rw [eV,hv] at hv'
  refine ⟨s₂,h',s₂.toks + 1,_,X,I₂,rfl,hs',ho',es',n',rfl,hk',bs ++ [b],by rw [hv',map_append]; rfl,?_,fun c hc=>?_⟩
  ·rw [nodup_append]
   refine ⟨nd,by simp,fun c hc d hd e=>?_⟩
   obtain ⟨m',hm⟩:=hb c hc
   exact nos b0 (e.trans (mem_singleton.mp hd) ▸ S.sub c _ hm)
  ·rcases mem_append.mp hc with hc | hc
   ·obtain ⟨m',hm⟩:=hb c hc
    exact ⟨m',Fz.le_ext S.sub _ _ hm⟩
   ·rw [mem_singleton.mp hc]
    exact ⟨m,zE7 b0 eb⟩
theorem ws_dcl {k:Nat} {sc:Scope} {x:PStr} {p₁ p₂ pos lp:Pos} {kx tgt iter:Expr} {ifs:List Expr} {scope:Scope} {fi fk:Lc→Option PV} {q:PV→Option Lc} {ft:Lc→Option Bool} (hk:(sc.kind == .function)=true) (hsw:(sc.names.lookup x == some .local && p₁.line == p₂.line && !(scope.names.any fun (n,k)=>n == x && (k == .local || k == .cell)))=true) (hy:sc.names.lookup x=some .local)
  (O:(scope.kind == .function && scope.names.all (fun y=>(y.2 != .local || scope.names.lookup y.1 == some .local) && y.2 != .cell && (y.2 != .free || sc.names.lookup y.1 == some .cell)))=true) (hs:∀ env x,foldedSetIterable iter env x=pure x)
  (H:WE k sc iter fi) (G:WC k (relabelS scope sc) tgt q) (T:WK k (relabelS scope sc) ifs ft) (E:WE k (relabelS scope sc) kx fk):WS k sc (.Assign [.Name x p₁] (.DictComp kx (.List [] lp) [⟨tgt,iter,ifs,0⟩] scope p₂) pos) (cSet x (cComp fi q ft (cPutL fk) (.dlist []))) :=
 ⟨st_used ck_dictL (pos:=firstIterPos [⟨tgt,iter,ifs,0⟩] p₂) (fun env use=>rfl) (sw_dict true hk hsw) hy (ScOK.of O) hs H.h G.h T.h (so_dictL E.h)⟩
theorem ws_bapp {k:Nat} {sc:Scope} {x:PStr} {np ip ap cp pos:Pos} {ei e:Expr} {g f:Lc→Option PV} (hx:sc.names.lookup x=some .local ∨ sc.names.lookup x=some .cell) (hd:(x == ("__debug__":PySem.Str))=false) (hg:NoG sc) (G:WE k sc ei g) (H:WE k sc e f) (hst:notStar e=true)
  (hsl:∀ o i,subscripted ei false o i=operate [o,i] (getItem o i))
  (hbase:∀ env,attributeBase (.Subscript (.Name x np) ei ip) "append" env (eval (.Subscript (.Name x np) ei ip) env)=eval (.Subscript (.Name x np) ei ip) env) (hline:(ap.endLine == cp.line)=true) (hi:(sc.kind == .function)=true) :
  WS k sc (.Expr (.Call (.Attribute (.Subscript (.Name x np) ei ip) "append" ap) [e] [] cp) pos) (cBApp x g f) :=
 ⟨st_bapp hx hd hg G.h H.h (zD2 (by rw [all_cons,hst]; rfl)) hsl hbase hline (fun env e=>by subst e; unfold interactive; simp only [eq_of_beq hi]; rfl)⟩
theorem ws_retd {k:Nat} {sc:Scope} {x:PStr} {np pos:Pos} (hx:sc.names.lookup x=some .local ∨ sc.names.lookup x=some .cell) (hd:(x == ("__debug__":PySem.Str))=false) (hg:NoG sc):WS k sc (.Return (some (.Name x np)) pos) (cRetD x):=⟨st_retd hx hd hg⟩
noncomputable def ghosts (bs:List Nat):Lc:=bs.map fun b=>(gname b,.ow (.list []))
noncomputable def adG (x:PStr):Addr:=x.cps.toList.getD 1 0
theorem adG_g (b:Addr):adG (gname b)=b:=rfl
theorem zM0:∀ (bs:List Nat) (r:Lc) (z:PStr) (q:Loc),look (ghosts bs ++ r) z=some q→(∃ b∈bs,z=gname b∧q = .ow (.list [])) ∨ look r z=some q
 | [],r,z,q,h=>.inr h
 | b :: bs,r,z,q,h=>by
  have h:look ((gname b,.ow (.list [])) :: (ghosts bs ++ r)) z=some q:=h
  rw [look_cons] at h
  by_cases e:z=gname b
  ·rw [if_pos e] at h; obtain rfl:=Option.some.inj h; exact .inl ⟨b,by simp,e,rfl⟩
  ·rw [if_neg e] at h
   rcases zM0 bs r z q h with ⟨c,hc,e1,e2⟩ | h
   ·exact .inl ⟨c,mem_cons_of_mem _ hc,e1,e2⟩
   ·exact .inr h
theorem FS.thaw {C:Cx} {sc:Scope} {env:Env} {s₀ s:Shared} {F₀ F K:Fz} {x y:PStr} {ks:List PStr} {xs:List PV} (S:FS C sc env s₀ F₀ F K [(x,.fz (.dlist ks)),(y,.fz (.list xs))] s) (hg:NoG sc) (hxy:y≠x) (hx:sc.names.lookup x≠none) (hne:xs≠[]) (hfl:xs.all flatP=true) (hF0:F₀.sub s₀.heap)
  (hfr:∀ b m,F b=some { cls:=.type "list",data:=.seq #[] m }→s₀.heap.get? b=none) :
  ∃ bs:List Nat,bs.Nodup∧bs.length=ks.length∧∃ F' K',FS C sc env s₀ F₀ F' K' (ghosts bs ++ [(x,.fz (.dref ks bs)),(y,.fz (.list xs))]) s:=by
 obtain ⟨ad,V⟩:=S.vars
 obtain ⟨v,bv,r,_⟩:=V.var x _ (by rw [look_cons,if_pos rfl])
 obtain ⟨u,bu,ru,_⟩:=V.var y (.fz (.list xs)) (by rw [look_cons,if_neg hxy,look_cons,if_pos rfl])
 have r:Rep C.w F (.dlist ks) v:=r
 unfold Rep at r
 obtain ⟨a,es,n,bs,rfl,fa,hk,hv,nd,hb⟩:=r
 have ru:Rep C.w F (.list xs) u:=ru
 have hlen:bs.length=ks.length:=by
  have h1:=hk.len
  have h2:=congrArg List.length hv
  simp at h1 h2; lia
 refine ⟨bs,nd,hlen,?_⟩
 classical
 let F':Fz:=fun b=>if b∈bs then none else F b
 let K':Fz:=fun b=>if b∈bs then none else K b
 have F'i:∀ b o,F' b=some o→b ∉ bs∧F b=some o:=fun b o e=>by
  have e:(if b∈bs then none else F b)=some o:=e
  split at e
  ·exact no e
  ·rename_i q; exact ⟨q,e⟩
 have K'i:∀ b o,K' b=some o→b ∉ bs∧K b=some o:=fun b o e=>by
  have e:(if b∈bs then none else K b)=some o:=e
  split at e
  ·exact no e
  ·rename_i q; exact ⟨q,e⟩
 have F'o:∀ b o,b ∉ bs→F b=some o→F' b=some o:=fun b o q e=>by show (if b∈bs then none else F b)=_; rw [if_neg q]; exact e
 have K'o:∀ b o,b ∉ bs→K b=some o→K' b=some o:=fun b o q e=>by show (if b∈bs then none else K b)=_; rw [if_neg q]; exact e
 have K'n:∀ b,K b=none→K' b=none:=fun b e=>by show (if b∈bs then none else K b)=_; split; rfl; exact e
 have F'n:∀ b,b∈bs→F' b=none:=fun b m=>by show (if b∈bs then none else F b)=_; rw [if_pos m]
 have K'm:∀ b,b∈bs→K' b=none:=fun b m=>by show (if b∈bs then none else K b)=_; rw [if_pos m]
 have fresh:∀ b∈bs,s₀.heap.get? b=none:=fun b m=>by obtain ⟨m',e⟩:=hb b m; exact hfr b m' e
 have Kb:∀ b∈bs,∃ o,K b=some o:=fun b m=>by obtain ⟨m',e⟩:=hb b m; exact ⟨_,S.fk b _ e⟩
 have off:∀ {P:List PStr→Prop} {b o},F b=some o→(∀ m,o≠{ cls:=.type "list",data:=.seq #[] m })→b ∉ bs:=fun {P b o} e hne m=>by
  obtain ⟨m',e'⟩:=hb b m
  rw [e] at e'; obtain rfl:=Option.some.inj e'; exact hne m' rfl
 refine ⟨F',K',⟨S.ok,S.inv₀,S.inv,S.ext,fun b o e t=>K'o b o (fun m=>by rw [fresh b m] at e; exact no e) (S.k0 b o e t),fun b o e=>K'o b o (F'i b o e).1 (S.fk b o (F'i b o e).2),fun b o e=>S.sub b o (K'i b o e).2,fun b t=>K'n b (S.off b t),
  fun b o e=>F'o b o (fun m=>?_) (S.f0 b o e),fun b o e lv=>S.agree b o (F'i b o e).2 lv,⟨S.loc.1,K'n _ S.loc.2⟩,fun z c h=>⟨(S.cells z c h).1,K'n _ (S.cells z c h).2⟩,S.cinj,adG,?_⟩⟩
 ·have e2:=hF0 b o e
  rw [fresh b m] at e2; exact no e2
 ·have ghostq:∀ z q,look (ghosts bs ++ [(x,.fz (.dref ks bs)),(y,.fz (.list xs))]) z=some q→q.own=true→∃ b∈bs,z=gname b:=fun z q h o=>by
   rcases zM0 bs _ z q h with ⟨b,m,e,_⟩ | h
   ·exact ⟨b,m,e⟩
   ·rw [look_cons] at h
    split at h
    ·obtain rfl:=Option.some.inj h; exact bno rfl o
    ·rw [look_cons] at h
     split at h
     ·obtain rfl:=Option.some.inj h; exact bno rfl o
     ·cases h
  refine ⟨fun z q h=>?_,fun z q h o=>?_,fun z z' q q' h h' o o' e=>?_⟩
  ·rcases zM0 bs _ z q h with ⟨b,m,rfl,rfl⟩ | h2
   ·obtain ⟨m',e⟩:=hb b m
    refine ⟨.ref b,.ghost b rfl ?_ rfl,⟨b,_,rfl,F'n b m,S.fsub b _ e,#[],m',rfl,RepL.nil⟩,fun _=>rfl⟩
    rw [S.ok.kindOf]; exact hg b
   ·rw [look_cons] at h2
    split at h2
    ·rename_i e
     subst e
     cases h2
     refine ⟨_,bv,?_,fun o=>by exact bno rfl o⟩
     show Rep C.w F' (.dref ks bs) _
     unfold Rep
     exact ⟨a,es,n,rfl,F'o a _ (off (P:=fun _=>True) fa fun m e=>by injection e with e; injection e with e; exact absurd e (by decide)) fa,hk,hv⟩
    ·rw [look_cons] at h2
     split at h2
     ·rename_i e
      subst e
      cases h2
      refine ⟨_,bu,?_,fun o=>by exact bno rfl o⟩
      show Rep C.w F' (.list xs) u
      unfold Rep at ru ⊢
      obtain ⟨p,vs,m,rfl,fp,rl⟩:=ru
      refine ⟨p,vs,m,rfl,F'o p _ (off (P:=fun _=>True) fp fun m e=>?_) fp,zN7 hfl rl⟩
      injection e with _ _ e
      injection e with e
      subst e
      have:=rl.length
      cases xs with
      | nil=>exact hne rfl
      | cons x xs=>simp at this
     ·exact no h2
  ·obtain ⟨b,m,rfl⟩:=ghostq z q h o
   rw [adG_g]
   obtain ⟨ob,kb⟩:=Kb b m
   exact ⟨K'm b m,(show b≠env.locals from fun e=>by rw [e,S.loc.2] at kb; exact nomatch kb),fun w c hc e=>by rw [e,(S.cells w _ hc).2] at kb; exact no kb⟩
  ·obtain ⟨b,m,rfl⟩:=ghostq z q h o
   obtain ⟨b',m',rfl⟩:=ghostq z' q' h' o'
   rw [adG_g,adG_g] at e
   rw [e]
theorem for_inv {g:PV→Option Lc} {fb fe:Lc→Option Out} {J:List PV→Lc→Prop} {ps:List PV}:∀ (pre post:List PV) (l:Lc),ps=pre ++ post →
  (∀ pre p post l,ps=pre ++ p :: post→J pre l→∃ l',((g p).bind fun t=>fb (t ++ l))=some (.go l')∧J (pre ++ [p]) l')→J pre l→∃ l',forO g fb fe post l=fe l'∧J ps l'
 | pre,[],l,e,hs,h=>⟨l,rfl,by rw [e,List.append_nil]; exact h⟩
 | pre,p :: post,l,e,hs,h=>by
  obtain ⟨l',e',h'⟩:=hs pre p post l e h
  obtain ⟨l2,e2,h2⟩:=for_inv (ps:=ps) (pre ++ [p]) post l' (by rw [e]; simp) hs h'
  refine ⟨l2,?_,h2⟩
  show ((g p).bind fun t=>(fb (t ++ l)).bind _)=_
  rw [← Option.bind_assoc,e']
  exact e2
theorem app_cons {α:Type} {acc ps:List α} {x:α}:(acc ++ [x]) ++ ps=acc ++ x :: ps:=by rw [List.append_assoc]; rfl
theorem room_step {a b:Nat} (h:a + (b + 1)≤1000):a < sizeLine:=Nat.lt_of_lt_of_le (Nat.lt_of_lt_of_le (Nat.lt_add_of_pos_right (Nat.succ_pos b)) h) (zA6 (by decide))
theorem compO_cons {g:PV→Option Lc} {ft:Lc→Option Bool} {fs:Lc→PV→Option PV} {l t:Lc} {p acc acc':PV} {ps:List PV} {r:Option PV} (e1:g p=some t) (e2:ft (t ++ noZ l)=some true) (e3:fs (t ++ noZ l) acc=some acc') (h:compO g ft fs l ps acc'=r):compO g ft fs l (p :: ps) acc=r:=by
 unfold compO; rw [e1,bind_some,e2,bind_some,if_pos rfl,e3]; exact h
theorem compO_skip {g:PV→Option Lc} {ft:Lc→Option Bool} {fs:Lc→PV→Option PV} {l t:Lc} {p acc:PV} {ps:List PV} {r:Option PV} (e1:g p=some t) (e2:ft (t ++ noZ l)=some false) (h:compO g ft fs l ps acc=r):compO g ft fs l (p :: ps) acc=r:=by
 unfold compO; rw [e1,bind_some,e2]; exact h
theorem zN8 {g:PV→Option Lc} {ft:Lc→Option Bool} {fe:Lc→Option PV} {l:Lc} {h:PV→PV} {b:PV→Bool} (ps acc:List PV) (hl:acc.length + ps.length≤1000)
  (hs:∀ p∈ps,∃ t,g p=some t∧ft (t ++ noZ l)=some (b p)∧(b p=true→fe (t ++ noZ l)=some (h p))):compO g ft (cApp fe) l ps (.list acc)=some (.list (acc ++ (ps.filter b).map h)):=by
 induction ps generalizing acc with
 | nil=>rw [List.filter_nil,List.map_nil,List.append_nil]; rfl
 | cons p ps ih =>
  obtain ⟨t,e1,e2,e3⟩:=hs p (.head _)
  have hs':=fun q hq=>hs q (.tail _ hq)
  cases hb:b p with
  | true =>
   have e4:cApp fe (t ++ noZ l) (.list acc)=some (.list (acc ++ [h p])):=bdT rfl (bdT (e3 hb) (if_pos (room_step hl)))
   refine compO_cons e1 (hb ▸ e2) e4 ((ih _ (by rw [length_append,Nat.add_assoc,Nat.add_comm [h p].length]; exact hl) hs').trans ?_)
   rw [app_cons,List.filter_cons_of_pos hb]; rfl
  | false =>
   refine compO_skip e1 (hb ▸ e2) ((ih acc (le_trans (le_succ _) hl) hs').trans ?_)
   rw [List.filter_cons_of_neg (by rw [hb]; exact Bool.false_ne_true)]
theorem pick_from1 {α:Type} (xs:List α) (h:xs.length≤1000):pick xs (some 1) none none=xs.drop 1:=by
 unfold pick sliceBounds sliceRange
 simp only [Option.getD_none,Int.reduceLT,if_true]
 have h1:¬ ((1:Int) < 0):=by decide
 have h2:((1:Int) > 0)=True:=by simp
 simp only [h1,h2,if_false,if_true]
 cases xs with
 | nil=>rfl
 | cons x xs =>
  have e:max (0:Int) (min 1 ((x :: xs).length:Int))=1:=by simp; lia
  rw [e]
  have e2:((if (1:Int) < ((x :: xs).length:Int) then ((((x :: xs).length:Int) - 1 + 1 - 1) / 1) else 0)).toNat=xs.length:=by
   simp only [length_cons,Int.natCast_add,Int.cast_ofNat_Int]
   split <;> simp <;> lia
  rw [e2]
  rw [List.filterMap_map,List.drop_one,List.tail_cons]
  have:((fun i=>(x :: xs)[i]?) ∘ fun (k:Nat)=>((1:Int) + 1 * (k:Int)).toNat)=fun k=>xs[k]?:=by
   funext k
   have:((1:Int) + 1 * (k:Int)).toNat=k + 1:=by lia
   simp only [Function.comp,this,List.getElem?_cons_succ]
  rw [this]
  exact List.filterMap_getElem?_range_length xs
theorem below_fn {a:Addr} {k:Nat} {name q:PStr} {params:Arguments} {st1:Stmt} {rest:List Stmt} {sc:Scope} {defaults kwd doc pm:Value} {ann:Option Addr} {cd ctup:Value} {f1 fb:Lc→Option Out} (x y:PStr)
  (hat:∀ P,∃ o,(KT P).lookup a=some o∧o.data = .func ⟨name,q,params,.stmts (st1 :: rest),sc,mainGlobals,[],defaults,kwd,doc,pm,ann,cd,ctup,builtinsNs⟩)
  (hcode:∀ P,∃ c o vs t,cd = .ref c∧(KT P).lookup c=some o∧o.data = .fields vs∧vs[1]? = some (.str q t))
  (hsc:(!sc.isCoroutine && !sc.isGenerator && sc.kind == .function)=true) (hys:sc.names.lookup y=some .local ∨ sc.names.lookup y=some .cell)
  (H1:WS k sc st1 f1) (B:WB k sc rest fb) (hg:NoG sc) (hxy:y≠x) (hx:sc.names.lookup x≠none)
  (hbind:∀ u,bindArgs ⟨name,q,params,.stmts (st1 :: rest),sc,mainGlobals,[],defaults,kwd,doc,pm,ann,cd,ctup,builtinsNs⟩ ⟨[u],[]⟩=pure [(y,u)])
  {ψ:List PV→Option PV} (hψ:∀ xs p,ψ xs=some p→xs≠[]∧xs.all flatP=true∧∃ ks,f1 [(y,.fz (.list xs))]=some (.go [(x,.fz (.dlist ks)),(y,.fz (.list xs))]) ∧
   ∀ bs:List Nat,bs.Nodup→bs.length=ks.length→∃ o,fb (ghosts bs ++ [(x,.fz (.dref ks bs)),(y,.fz (.list xs))])=some o∧outV o=some p) :
  FnSound k a (args1 fun p=>p.toLst.bind ψ):=by
 intro C A F s ps p vs R I hs hT r h
 refine zD6 h fun q0 e h=>zB1 h fun xs e1 h2=>?_
 obtain rfl:=e
 obtain rfl:=PV.toLst_inv e1
 rw [and_eq_true,and_eq_true] at hsc
 obtain ⟨⟨s1,s2⟩,s3⟩:=hsc
 obtain ⟨hne,hfl,ks,h1,h2⟩:=hψ xs p h2
 refine rep1 r fun v e rv=>?_
 subst e
 unfold Rep at rv
 obtain ⟨pa,us,n,rfl,fp,rl⟩:=rv
 obtain ⟨Fp,Fpa,Fi⟩:∃ Fp:Fz,Fp pa=F pa∧∀ b o,Fp b=some o→b=pa∧F pa=some o:=by
  refine ⟨fun b=>if b=pa then F pa else none,if_pos rfl,fun b o e=>?_⟩
  by_cases q:b=pa
  ·exact ⟨q,(if_pos q).symm.trans e⟩
  ·exact no ((if_neg q).symm.trans e)
 have le:Fp.le F:=fun b o e=>(congrArg F (Fi b o e).1).trans (Fi b o e).2
 have hs':Fp.sub s.heap:=fun b o e=>hs b o (le b o e)
 have hT':Fp.offTab:=fun b t=>ton fun o e=>nos (hT b t) (le b o e)
 have rp:Rep C.w Fp (.list xs) (.ref pa):=by
  unfold Rep
  exact ⟨pa,us,n,rfl,Fpa.trans fp,zN7 hfl rl⟩
 have run:WP C A (call (.ref a) [.ref pa]) (Post C Fp s p) s:=by
  refine fn_enter (xs:=[y]) ⟨hat,rfl,rfl,rfl,rfl,rfl,hcode,by simpa using s1,by simpa using s2,eq_of_beq s3⟩ (fun z hz=>by rw [mem_singleton.mp hz]; exact hys) R I hs' hT' (hbind _) (RepL.cons rp RepL.nil) rfl fun env s₁ K R' S=>?_
  refine wpAny_execs_cons ((H1.h C _ env s _ _ K _ s₁ _ R' S h1).mono fun fl s₂ P=>?_)
  obtain ⟨rfl,F₂,K₂,S₂,_⟩:=P
  obtain ⟨bs,nd,hl,F₃,K₃,S₃⟩:=S₂.thaw hg hxy hx hne hfl hs' fun b m e=>ton fun o q=>by
   have e3:=(Fi b _ (S₂.agree b _ e (lv q))).2
   obtain rfl:=seq_inj fp e3
   exact hne (List.length_eq_zero_iff.mp rl.length.symm)
  obtain ⟨o,ho,hp⟩:=h2 bs nd hl
  refine (B.h C _ env s _ _ K₃ _ s₂ o R' S₃ ho).mono fun fl s₄ h'=>?_
  have:=h'.post hp
  cases fl <;> exact this
 refine run.mono fun v s' P=>⟨P.1,P.2,Rep.mono (fun b o e=>?_) P.3⟩
 by_cases l:(s.heap.get? b).isSome=true
 ·exact (Fz.ext_old l).trans (le b o ((Fz.ext_old l).symm.trans e))
 ·exact (Fz.ext_out l).trans ((Fz.ext_out l).symm.trans e)
theorem strsOf_eq:∀ {xs:List PV} {ss:List PStr},strsOf xs=some ss→xs=ss.map .str
 | [],ss,h=>by obtain rfl:=Option.some.inj h; rfl
 | x :: xs,ss,h=>by
  cases x <;> try (exact no h; done)
  rename_i y
  obtain ⟨r,hr,rfl⟩:=map_eq_some_iff.mp (show (strsOf xs).map (y :: ·)=some ss from h)
  rw [strsOf_eq hr]; rfl
theorem zD4:∀ ss:List PStr,strsOf (ss.map .str)=some ss
 | []=>rfl
 | s :: ss=>by show (strsOf (ss.map .str)).map (s :: ·)=_; rw [zD4 ss]; rfl
theorem dget_at {α:Type}:∀ {ks:List PStr} {bs:List α} {i:Nat} {k:PStr} {b:α},ks.Nodup→ks[i]? = some k→bs[i]? = some b→dget ks bs k=some b
 | [],_,_,_,_,_,h,_=>by simp at h
 | _ :: _,[],_,_,_,_,_,h=>by simp at h
 | k' :: ks,c :: bs,i,k,b,nd,h1,h2=>by
  unfold dget
  cases i with
  | zero=>simp at h1 h2; rw [if_pos h1.symm,h2]
  | succ i =>
   have h1:ks[i]? = some k:=by simpa using h1
   have:k≠k':=fun e=>by subst e; exact (List.nodup_cons.mp nd).1 (List.mem_of_getElem? h1)
   rw [if_neg this]
   exact dget_at (List.nodup_cons.mp nd).2 h1 (by simpa using h2)
noncomputable def belowOf (ss:List PStr) (k:PStr):List PStr:=(ss.drop 1).filter fun x=>decide (dirS x=k)
noncomputable def belowPV (xs:List PV):Option PV:=(strsOf xs).bind fun ss =>
 if ss≠[]∧ss.Nodup∧ss.length≤100∧(∀ x∈ss.drop 1,(headS x).length≤1000∧dirS x∈ss) then some (.dict ss (ss.map fun k=>.list ((belowOf ss k).map .str))) else none
theorem comp_dlist {g:PV→Option Lc} {ft:Lc→Option Bool} {fk:Lc→Option PV} {l:Lc}:∀ (ss done:List PStr),(done ++ ss).Nodup→done.length + ss.length≤1000 →
  (∀ s∈ss,∃ t,g (.str s)=some t∧ft (t ++ noZ l)=some true∧fk (t ++ noZ l)=some (.str s))→compO g ft (cPutL fk) l (ss.map .str) (.dlist done)=some (.dlist (done ++ ss))
 | [],done,_,_,_=>by simp [compO]
 | s :: ss,done,nd,hl,hs=>by
  obtain ⟨t,e1,e2,e3⟩:=hs s (by simp)
  simp only [length_cons] at hl
  have hn:s ∉ done:=fun m=>by
   rw [nodup_append] at nd
   exact nd.2.2 s m s (by simp) rfl
  have nd1:done.Nodup:=(nodup_append.mp nd).1
  rw [map_cons]
  unfold compO
  rw [e1]
  simp only [bind_some,e2,if_true]
  have:cPutL fk (t ++ noZ l) (.dlist done)=some (.dlist (done ++ [s])):=by
   show ((fk (t ++ noZ l)).bind _)=_
   rw [e3]; exact if_pos ⟨hn,nd1,by lia⟩
  rw [this]
  simp only [bind_some]
  rw [comp_dlist ss (done ++ [s]) (by simpa using nd) (by simp; lia) fun q hq=>hs q (by simp [hq])]
  simp
noncomputable def JB (ss:List PStr) (bs:List Nat) (pre:List PV) (l:Lc):Prop :=
 look l (ofString "below")=some (.fz (.dref ss bs))∧∃ pr:List PStr,pre=pr.map .str∧∀ (i:Nat) b k,bs[i]? = some b→ss[i]? = some k→look l (gname b)=some (.ow (.list ((pr.filter fun x=>decide (dirS x=k)).map .str)))
theorem zN6 (b:Nat):gname b≠ofString "below"∧gname b≠ofString "path"∧gname b≠ofString "paths":=by
 refine ⟨fun e=>?_,fun e=>?_,fun e=>?_⟩ <;>
 ·have:=congrArg (fun x=>x.cps.size) e
  exact absurd (show (2:Nat)=_ from this) (by decide)
theorem look_ghost:∀ {bs:List Nat} {r:Lc} {b:Nat},b∈bs→look (ghosts bs ++ r) (gname b)=some (.ow (.list []))
 | c :: bs,r,b,h=>by
  show look ((gname c,.ow (.list [])) :: (ghosts bs ++ r)) (gname b)=_
  rw [look_cons]
  by_cases e:gname b=gname c
  ·rw [if_pos e]
  ·rw [if_neg e]
   refine look_ghost ?_
   rcases mem_cons.mp h with q | q
   ·exact absurd (by rw [q]) e
   ·exact q
theorem look_past:∀ {bs:List Nat} {r:Lc} {z:PStr},(∀ b,gname b≠z)→look (ghosts bs ++ r) z=look r z
 | [],_,_,_=>rfl
 | c :: bs,r,z,h=>by
  show look ((gname c,.ow (.list [])) :: (ghosts bs ++ r)) z=_
  rw [look_cons,if_neg (fun e=>h c e.symm)]
  exact look_past h
theorem gLists_of {l:Lc} {f:PStr→List PV}:∀ {ks:List PStr} {bs:List Nat},ks.length=bs.length→(∀ (i:Nat) b k,bs[i]? = some b→ks[i]? = some k→look l (gname b)=some (.ow (.list (f k))))→gLists l bs=some (ks.map fun k=>.list (f k))
 | [],[],_,_=>rfl
 | [],_ :: _,h,_=>by simp at h
 | _ :: _,[],h,_=>by simp at h
 | k :: ks,b :: bs,h,hl=>by
  unfold gLists
  rw [lstAt_at (hl 0 b k rfl rfl),bind_some,gLists_of (f:=f) (by simpa using h) fun i c k' h1 h2=>hl (i + 1) c k' (by simpa using h1) (by simpa using h2)]
  rfl
theorem below_step {ss:List PStr} {bs:List Nat} {pre:List PV} {x:PStr} {l:Lc} (nd:ss.Nodup) (nb:bs.Nodup) (hl:bs.length=ss.length) (hpl:pre.length≤1000) (h:JB ss bs pre l) (hx:(headS x).length≤1000∧dirS x∈ss) :
  ∃ l',cBApp (ofString "below") (fun l=>(cCons (cV (ofString "path")) cNil l).bind dirPV) (cV (ofString "path")) ((ofString "path",.fz (.str x)) :: l)=some (.go l')∧JB ss bs (pre ++ [.str x]) l':=by
 obtain ⟨h1,pr,rfl,h2⟩:=h
 obtain ⟨i,hi,ei⟩:=List.mem_iff_getElem.mp hx.2
 have hib:i < bs.length:=by lia
 have e1:ss[i]? = some (dirS x):=by rw [getElem?_eq_getElem hi,ei]
 have e2:bs[i]? = some bs[i]:=getElem?_eq_getElem hib
 have e3:=h2 i _ _ e2 e1
 have ed:dget ss bs (dirS x)=some bs[i]:=dget_at nd e1 e2
 have gs:=zN6 bs[i]
 have hsz:((pr.filter fun y=>decide (dirS y=dirS x)).map PV.str).length < sizeLine:=by
  have h1:((pr.filter fun y=>decide (dirS y=dirS x)).map PV.str).length≤pr.length:=by rw [length_map]; exact List.length_filter_le _ _
  have h2:pr.length≤1000:=by simpa using hpl
  have:=zA6 (show pr.length + 1≤1000000 by lia)
  lia
 refine ⟨(gname bs[i],.ow (.list ((pr.filter fun y=>decide (dirS y=dirS x)).map PV.str ++ [.str x]))) :: (ofString "path",.fz (.str x)) :: l,?_,?_,pr ++ [x],by simp,fun j b k hj hk=>?_⟩
 ·refine (drefAt_at (look_cons.trans ((if_neg (by decide)).trans h1))).trans ?_
  exact bdT (bd1 (ps:=[.str x]) (p:=.str (dirS x)) (cc1 (zA3 rfl)) (if_pos hx.1)) (bdT rfl (bdT ed (bdT (lstAt_at (look_cons.trans ((if_neg gs.2.1).trans e3))) (bdT (zA3 (p:=.str x) rfl) (if_pos hsz)))))
 ·rw [look_cons,if_neg (fun e=>gs.1 e.symm),look_cons,if_neg (by decide)]; exact h1
 ·rw [look_cons]
  by_cases e:b=bs[i]
  ·subst e
   rw [if_pos rfl]
   have hjl:j < bs.length:=by
    rcases Nat.lt_or_ge j bs.length with q | q
    ·exact q
    ·rw [List.getElem?_eq_none q] at hj; cases hj
   have hj2:bs[j]=bs[i]:=by rw [getElem?_eq_getElem hjl] at hj; exact Option.some.inj hj
   have hji:j=i:=(List.getElem_inj nb).mp hj2
   subst hji
   rw [e1] at hk; cases hk
   rw [List.filter_append]
   simp
  ·rw [if_neg (fun q=>e (gname_inj q)),look_cons,if_neg (zN6 b).2.1,h2 j b k hj hk,List.filter_append]
   have:¬ dirS x=k:=fun q=>by
    subst q
    have hjl:j < ss.length:=by
     rcases Nat.lt_or_ge j ss.length with q | q
     ·exact q
     ·rw [List.getElem?_eq_none q] at hk; cases hk
    have hj2:ss[j]=ss[i]:=by rw [getElem?_eq_getElem hjl] at hk; rw [ei]; exact Option.some.inj hk
    have hji:j=i:=(List.getElem_inj nd).mp hj2
    subst hji
    rw [e2] at hj; exact e (Option.some.inj hj).symm
   simp [this]
theorem f_lawbelow {k:Nat}:FnSound (k + 2) 281 (args1 fun p=>p.toLst.bind belowPV):=by
 apply below_fn (ofString "below") (ofString "paths")
 case hat=>exact fun P=>⟨_,rfl,rfl⟩
 case hcode=>exact fun P=>⟨_,_,_,_,rfl,rfl,rfl,rfl⟩
 case hsc=>rfl
 case hys=>exact .inl rfl
 case H1=>exact ws_dcl rfl rfl rfl rfl (fun _ _=>rfl) (zA2 (.inl rfl) rfl) (zC7 rfl rfl rfl rfl) zF5 (zA2 (.inl rfl) rfl)
 case hg=>exact fun b=>rfl
 case hxy=>decide
 case hx=>decide
 case hbind=>exact fun u=>rfl
 case B =>
  refine zA1 (zG4 (zH8 (zA9 (.inl rfl) rfl) (zF6 zB0) zD5 zD5 _ fun _ _=>rfl) (zF4 (.inl rfl)) (zA1 (o₁:=cBApp (ofString "below") (fun l=>(cCons (cV (ofString "path")) cNil l).bind dirPV) (cV (ofString "path"))) ?_ zA8) zA8 fun _ _=>rfl) (zA1 (o₁:=cRetD (ofString "below")) ?_ zA8)
  case refine_1 =>
   refine ws_bapp (.inl rfl) rfl (fun _=>rfl) (zC9 f_dirname gv_dirname (fun P=>⟨_,_,rfl,rfl⟩) rfl rfl (zA0 (zA2 (.inl rfl) rfl) zA4 rfl)) (zA2 (.inl rfl) rfl) rfl (fun _ _=>rfl) (fun _=>rfl) rfl rfl
  case refine_2=>exact ws_retd (.inl rfl) rfl (fun _=>rfl)
 case hψ =>
  intro xs p h
  obtain ⟨ss,hss,h⟩:=bind_eq_some_iff.mp h
  split at h
  ·rename_i hc
   obtain ⟨hne,nd,hlen,hd⟩:=hc
   cases h
   have:=strsOf_eq hss
   subst this
   have hz:ss.length≤sizeLine:=zA6 (by lia)
   have hz1:(ss.drop 1).length≤sizeLine:=le_trans (by simp) hz
   refine ⟨by simpa using hne,by simp [flatP],ss,?_,fun bs nb hl=>?_⟩
   ·have hc:=comp_dlist (g:=fun p=>some [(ofString "path",.fz p)]) (ft:=fun _=>some true) (fk:=cV (ofString "path")) (l:=[(ofString "paths",.fz (.list (ss.map .str)))]) ss [] (by simpa using nd) (by simp; lia)
     fun s _=>⟨_,rfl,rfl,zA3 rfl⟩
    simp only [nil_append] at hc
    refine zB4 (bdT (zA3 rfl) (bdT (zC3 (by rw [length_map]; lia)) hc))
   ·have e1:pick (ss.map PV.str) (some 1) none none=(ss.drop 1).map .str:=by rw [pick_from1 _ (by simp; lia),List.map_drop]
    have hlp:look (ghosts bs ++ [(ofString "below",.fz (.dref ss bs)),(ofString "paths",.fz (.list (ss.map .str)))]) (ofString "paths")=some (.fz (.list (ss.map .str))):=by
     rw [look_past fun b=>(zN6 b).2.2,look_cons,if_neg (by decide),look_cons,if_pos rfl]
    have hlb:look (ghosts bs ++ [(ofString "below",.fz (.dref ss bs)),(ofString "paths",.fz (.list (ss.map .str)))]) (ofString "below")=some (.fz (.dref ss bs)):=by
     rw [look_past fun b=>(zN6 b).1,look_cons,if_pos rfl]
    have key:∀ fb fe,(∀ (l:Lc) l',cBApp (ofString "below") (fun l=>(cCons (cV (ofString "path")) cNil l).bind dirPV) (cV (ofString "path")) l=some (.go l')→fb l=some (.go l')) →
      ∃ l',forO (fun p=>some [(ofString "path",.fz p)]) fb fe ((ss.drop 1).map .str) (ghosts bs ++ [(ofString "below",.fz (.dref ss bs)),(ofString "paths",.fz (.list (ss.map .str)))])=fe l'∧JB ss bs ((ss.drop 1).map .str) l':=fun fb fe hfb=>by
     refine for_inv (J:=JB ss bs) [] _ _ rfl (fun pre p post l e hJ=>?_) ⟨hlb,[],rfl,fun i b k hi hk=>?_⟩
     ·have hm:p∈(ss.drop 1).map PV.str:=by rw [e]; simp
      obtain ⟨x,hx,rfl⟩:=mem_map.mp hm
      have hpl:pre.length≤1000:=by
       have:=congrArg List.length e
       simp at this; lia
      obtain ⟨l',e1,e2⟩:=below_step nd nb hl hpl hJ (hd x hx)
      exact ⟨l',hfb _ _ e1,e2⟩
     ·rw [look_ghost (List.mem_of_getElem? hi)]; rfl
    obtain ⟨l',e,hJ1,pr,hpr,hJ2⟩:=key (seqO (cBApp (ofString "below") (fun l=>(cCons (cV (ofString "path")) cNil l).bind dirPV) (cV (ofString "path"))) fun l=>some (.go l)) (fun l=>some (.go l)) (fun l l' h=>zA5 h)
    have hpr2:pr=ss.drop 1:=by
     have:=congrArg strsOf hpr
     rw [zD4,zD4] at this
     exact (Option.some.inj this).symm
    subst hpr2
    have hg:=gLists_of (l:=l') (f:=fun k=>(belowOf ss k).map .str) hl.symm hJ2
    refine ⟨.ret (.dict ss (ss.map fun k=>.list ((belowOf ss k).map .str))),?_,rfl⟩
    refine zK3 (items:=(ss.drop 1).map .str) (zF3 (p:=.list (ss.map .str)) (r:=.list ((ss.drop 1).map .str)) (lo:=some 1) (hi:=none) (st:=none) (zC2 hlp) rfl rfl rfl ((if_pos ⟨by rw [length_map]; exact hz,nofun⟩).trans (by rw [e1]))) (zC3 (by rw [length_map,List.length_drop]; exact le_trans (Nat.sub_le _ _) (le_trans hlen (by decide)))) ?_
    rw [e]
    exact zK4 ((drefAt_at hJ1).trans (by rw [hg]; rfl))
  ·exact no h
noncomputable def roomDict (w:World) (start:Int) (k t:Tok):Obj:={ cls:=.type "dict",data:=.dict #[⟨PyData.keyHash w.params (ofString "_initial_size"),.str (ofString "_initial_size") k,.int start t⟩] 1 }
noncomputable def roomObj (dx:Addr) (vs:Array Value) (n:Nat):Obj:={ cls:=.ref 100,dict:=some dx,data:=.seq vs n }
structure RoomAt (w:World) (h:Heap) (a dx:Addr) (vs:Array Value) (n:Nat) (start:Int) (k t:Tok):Prop where
 obj:h.get? a=some (roomObj dx vs n)
 dict:h.get? dx=some (roomDict w start k t)
theorem RoomAt.inst {w:World} {h:Heap} {a dx:Addr} {vs:Array Value} {n:Nat} {start:Int} {k t:Tok} (r:RoomAt w h a dx vs n start k t):PySem.W.InstAt h a (roomObj dx vs n) 100 (some (roomDict w start k t)) :=
 ⟨r.obj,rfl,rfl,r.dict⟩
theorem RoomAt.keeps {w:World} {h h':Heap} {a dx:Addr} {vs:Array Value} {n:Nat} {start:Int} {k t:Tok} (r:RoomAt w h a dx vs n start k t) (hk:∀ b o,h.get? b=some o→h'.get? b=some o):RoomAt w h' a dx vs n start k t:=⟨hk _ _ r.obj,hk _ _ r.dict⟩
theorem room_ne {w:World} {h:Heap} {a dx:Addr} {vs:Array Value} {n:Nat} {start:Int} {k t:Tok} (r:RoomAt w h a dx vs n start k t):dx≠a:=fun e=>by
 have h1:=r.obj
 have h2:=r.dict
 rw [e,h1] at h2
 injection h2 with h2
 injection h2 with h2
 cases h2
section
variable {w:World} {A:Around} {E:Value→Shared→Prop} {s:Shared} {a dx:Addr} {vs:Array Value} {n:Nat} {start:Int} {k t:Tok}
theorem canon_list_ga:(Manifest.canonical "list.__getattribute__" != "object.__getattribute__")=false:=by decide +kernel
theorem m_room {name:PStr} {f tf:Value} {pl:Sem Bool} {Q:Value × List Value→Shared→Prop} (X:(KT w.params).In s.heap) (r:RoomAt w s.heap a dx vs n start k t) (hf:findIn (KT w.params) (.ref 100) name=some (some f)) (ht:typeIn (KT w.params) f=some tf)
  (htf:(tf != .type "function" && tf != .type "method_descriptor" && tf != .type "wrapper_descriptor")=false) (hs:lookIn name (roomDict w start k t)=some none) (h:Q (f,[.ref a]) s):wpAny (model PG w) A (getMethod (.ref a) name pl) Q E s:=by
 have I:=r.inst
 have hga:findIn (KT w.params) (.ref 100) "__getattribute__" = some (some (.builtin "list.__getattribute__")):=rfl
 have hk:findIn (KT w.params) (.ref 100) "__getattr__" = some none:=rfl
 unfold getMethod specialOf
 refine wpAny_bind (wpAny_bind (I.type.here ((looks_findIn X hga).here ?_)))
 dsimp only
 rw [canon_list_ga,if_neg (by decide)]
 refine wpAny_bind (wpAny_bind (I.type.here ((looks_findIn X hk).here ?_)))
 refine wpAny_bind (wpAny_bind (I.type.here ((looks_findIn X hf).here (wpAny_bind ((looks_typeIn X ht).here ?_)))))
 rw [htf,if_neg (by decide)]
 refine wpAny_bind (wpAny_loadPart I.at_ ?_)
 refine wpAny_bind (wpAny_bind (wpAny_loadPart r.dict ?_))
 rw [nsLook_of hs]
 refine wpAny_pure ?_
 exact wpAny_bind (wpAny_rule (wpAny_pure h))
theorem room_list (X:(KT w.params).In s.heap) (r:RoomAt w s.heap a dx vs n start k t):Looks (model PG w) s.heap (isInstance (.ref a) (.type "list")) true :=
 r.inst.type.andThen (looks_mroIn X (show mroIn (KT w.params) 100 (.type "list")=some true from rfl))
theorem zJ9 {id nm:String} {b:Builtin} {rest:List Value} {Q:Value→Shared→Prop} (X:(KT w.params).In s.heap) (r:RoomAt w s.heap a dx vs n start k t) (hk:builtinKind id=some .slot ∨ builtinKind id=some .method) (hs:splitId id=some ("list",nm)) (hp:plainId id=true)
  (hb:entryFor table id=some b) (ha:argsOk id ⟨.ref a :: rest,[]⟩) (hc:wpAny (model PG w) A.in1 (b ⟨.ref a :: rest,[]⟩) (fun fin s'=>∃ v,fin = .done (.ret v)∧Q v s') E s) :
  wpAny (model PG w) A (call (.builtin id) (.ref a :: rest)) Q E s:=by
 refine wpAny_call (codeAny_call_builtin hp hb ?_)
 have hi:=room_list X r
 rcases hk with hk | hk <;>
 ·simp only [checkBuiltinCall,hk,hs]
  refine wpAny_bind (hi.here ?_)
  simp only [Bool.not_true,false_eq_true,if_false]
  cases hsig:Manifest.signature? id with
  | none=>exact wpAny_pure (wpAny_mono hc (fun fin s' h'=>by obtain ⟨v,rfl,hv⟩:=h'; exact hv) fun _ _ h'=>h')
  | some sig =>
   simp only [argsOk,hsig] at ha
   have h2:Bind.checkArgs id sig ⟨.ref a :: rest,[]⟩=pure ():=ha
   show wpAny _ _ (Bind.checkArgs id sig ⟨.ref a :: rest,[]⟩) _ _ _
   rw [h2]; exact wpAny_pure (wpAny_mono hc (fun fin s' h'=>by obtain ⟨v,rfl,hv⟩:=h'; exact hv) fun _ _ h'=>h')
end
theorem zO0 {M:Model} {A:Around} {E:Value→Shared→Prop} {env:Env} {s:Shared} {o:Expr} {name:PStr} {apos pos:Pos} {args:List Expr} {Q:Value→Shared→Prop} (hbase:attributeBase o name env (eval o env)=eval o env)
  (hfew:((backTo pos (starEach args env)).all (fun x=>!x.1) && (backToKw pos (keywordEach [] env)).all (fun x=>x.1.isSome) && decide (args.length + ([]:List Keyword).length + (if ([]:List Keyword).isEmpty then 0 else 1) < 30))=true)
  (hline:(apos.endLine == pos.line)=true)
  (h:wpAny M A (eval o env) (fun ov s₁=>∀ pl,wpAny M A (getMethod ov name pl) (fun fx s₂=>wpAny M A (callWith pos fx.1 fx.2 (backTo pos (starEach args env)) []) Q E s₂) E s₁) E s) :
  wpAny M A (eval (.Call (.Attribute o name apos) args [] pos) env) Q E s:=by
 rw [arm_eval_Call,hbase]
 refine wpAny_bind (wpAny_mono h (fun ov s₁ h₁=>?_) fun _ _ e=>e)
 refine wpAny_bind (wpAny_standAt ?_)
 have hform:methodCallForm (args.length + ([]:List Keyword).length) (backTo pos (starEach args env)) (backToKw pos (keywordEach [] env))=true:=hfew
 have hpos:methodCallPos true o env apos pos=pure pos:=by unfold methodCallPos; simp [hline]
 unfold methodCall
 rw [hform]
 refine wpAny_bind (wpAny_holding (wpAny_mono (h₁ _) (fun fx s₂ h₂=>?_) fun _ _ e=>e))
 exact wpAny_bind (wpAny_of_eq hpos h₂)
theorem f_push {k:Nat} {C:Cx} {A:Around} {s:Shared} {a dx:Addr} {vs:Array Value} {n:Nat} {start:Int} {kk tt:Tok} {u v:Value} {Q:Value→Shared→Prop} (R:Room (k + 2) A) (I:Inv C s) (r:RoomAt C.w s.heap a dx vs n start kk tt) (hsz:vs.size≤1000)
  (hQ:∀ h' tk T n',(∀ b o,b≠a→s.heap.get? b=some o→h'.get? b=some o)→h'.get? a=some (roomObj dx (vs.push (.ref T)) n')→s.heap.get? T=none→h'.get? T=some { cls:=.type "tuple",data:=.seq #[u,v] }→Q .none { s with heap:=h',toks:=tk }) :
  WP C A (call (.ref 45) [.ref a,u,v]) Q s:=by
 refine enter_raw (k:=k + 1) (xs:=[ofString "self",ofString "fws",ofString "string"]) ⟨fun P=>⟨_,rfl,rfl⟩,rfl,rfl,rfl,rfl,rfl,fun P=>⟨_,_,_,_,rfl,rfl,rfl,rfl⟩,rfl,rfl,rfl⟩ ?hx R I ?hb fun env s₁ R' B=>?_
 case hx=>intro x hx; simp only [mem_cons,not_mem_nil,or_false] at hx; rcases hx with rfl | rfl | rfl <;> rfl
 case hb=>exact Looks.of_pure rfl
 have r₁:=r.keeps B.keep
 obtain ⟨h₁,t₁,e₁⟩:=id B.same
 refine wpAny_execs_cons (wpAny_Expr ?_ (int_ok rfl env B.scope) rfl)
 refine zO0 rfl (few_ok rfl rfl env) rfl (B.name rfl rfl rfl rfl fun pl=>(m_room (f:=.builtin "list.append") (tf:=.type "method_descriptor") B.inv.K r₁ rfl rfl (by decide +kernel) rfl ?_))
 have St:Stars [Expr.Tuple [Expr.Name (ofString "fws") ⟨13,21,13,24⟩,Expr.Name (ofString "string") ⟨13,26,13,32⟩] 0 ⟨13,20,13,33⟩]:=zD2 rfl
 refine callWith_builtin (zC1 St) ?_
 rw [St env]
 refine evalArgs_plain (spliced_cons (PyProof.Rows.Tuple_ (k:=0) ?_))
 have St2:Stars [Expr.Name (ofString "fws") ⟨13,21,13,24⟩,Expr.Name (ofString "string") ⟨13,26,13,32⟩]:=zD2 rfl
 rw [St2 env]
 refine spliced_cons (B.name rfl rfl rfl rfl (spliced_cons (B.name rfl rfl rfl rfl (spliced_nil ?_))))
 refine wpAny_newObj_type (spliced_nil ?_) (by show 2≤sizeLine; exact zA6 (by lia))
 have B₂:=B.step (h':=s₁.heap.push { cls:=.type "tuple",data:=.seq [u,v].toArray }) s₁.toks fun b o e=>get?_push_of_some _ e
 have r₂:=r.keeps B₂.keep
 refine zJ9 (b:=Builtin.«list.append») (nm:="append") B₂.inv.K r₂ (.inr (by decide +kernel)) (by decide +kernel) (by decide +kernel) entry_list_append (args_list_append _ _) ?_
 show wpAny _ _ (updateSeq a (·.push (.ref s₁.heap.objs.size)) >>= fun _=>ret .none) _ _ _
 refine wpAny_bind (wpAny_updateSeq r₂.obj rfl (wpAny_pure ⟨.none,rfl,?_⟩) (by have:=zA6 (show vs.size≤1000000 by lia); lia) (by have:=size_big2 (show vs.size≤1000000 by lia); show (vs.push _).size≤_; rw [Array.size_push]; lia))
 have hx:(Obj.mapSeq (·.push (.ref s₁.heap.objs.size)) (roomObj dx vs n))=roomObj dx (vs.push (.ref s₁.heap.objs.size)) (n + 1):=by
  unfold roomObj Obj.mapSeq
  simp
 have hg:=get?_update_self (Obj.mapSeq (·.push (.ref s₁.heap.objs.size))) r₂.obj (by exact congrArg _ hx)
 rw [hx] at hg
 have az:a < s₁.heap.objs.size:=lt_size r₁.obj
 subst e₁
 refine wpAny_execs_nil (hQ _ _ h₁.objs.size _ (fun b o n e=>?_) hg ?_ ?_)
 ·exact (get?_update_other _ _ (Ne.symm n)).trans (B₂.keep b o e)
 ·cases q:s.heap.get? h₁.objs.size with
  | none=>rfl
  | some o=>exact absurd (lt_size (B.keep _ o q)) (Nat.lt_irrefl _)
 ·exact (get?_update_other _ _ (ne_of_lt az)).trans (get?_push_size _ rfl)
section
variable {w:World} {A:Around} {E:Value→Shared→Prop} {s:Shared} {a dx:Addr} {vs:Array Value} {n:Nat} {start:Int} {k t:Tok}
theorem zJ3 {name:PStr} {f:Option Value} {Q:Option Value→Shared→Prop} (X:(KT w.params).In s.heap) (r:RoomAt w s.heap a dx vs n start k t) (hf:findIn (KT w.params) (.ref 100) name=some f) (h:Q f s):wpAny (model PG w) A (specialOf (.ref a) name) Q E s:=by
 unfold specialOf
 exact wpAny_bind (r.inst.type.here ((looks_findIn X hf).here h))
theorem room_callb {name:PStr} {id:String} {args:List Value} {Q:Option Value→Shared→Prop} (X:(KT w.params).In s.heap) (r:RoomAt w s.heap a dx vs n start k t) (hf:findIn (KT w.params) (.ref 100) name=some (some (.builtin id))) (hb:∀ self,bindSpecial (.builtin id) self=pure (.builtin id,[self]))
  (h:wpAny (model PG w) A (call (.builtin id) (.ref a :: args)) (fun v=>Q (some v)) E s):wpAny (model PG w) A (callSpecial? (.ref a) name args) Q E s :=
 wpAny_bind (wpAny_bind (r.inst.type.here ((looks_findIn X hf).here (wpAny_holding (wpAny_bind (wpAny_of_eq (hb _) (wpAny_bind (wpAny_mono h (fun _ _ z=>wpAny_pure z) fun _ _ z=>z))))))))
theorem room_key {v:Value} {name:PStr} {Q:Value→Shared→Prop} (X:(KT w.params).In s.heap) (r:RoomAt w s.heap a dx vs n start k t) (h:Q v s):wpAny (model PG w) A (sequenceKey (.ref a) v name) Q E s:=by
 unfold sequenceKey
 refine wpAny_bind (r.inst.type.here ?_)
 show wpAny _ _ ((seqItemTypes.anyM fun n=>isSubtype (.ref 100) (.type n)) >>= _) _ _ _
 refine wpAny_bind ?_
 show wpAny _ _ (isSubtype (.ref 100) (.type "collections.deque") >>= _) _ _ _
 refine wpAny_bind ((looks_mroIn X (show mroIn (KT w.params) 100 (.type "collections.deque")=some false from rfl)).here ?_)
 refine wpAny_pure ?_
 simp -iota only [Bool.not_false,if_true]
 exact wpAny_pure h
theorem zN1 {sl:Addr} {vl vu vst:Value} {lo hi st:Option Int} {Q:Value→Shared→Prop} (X:(KT w.params).In s.heap) (r:RoomAt w s.heap a dx vs n start k t) (hs:s.heap.IsSliceOf sl vl vu vst) (pl:IsPart vl lo) (pu:IsPart vu hi) (ps:IsPart vst st) (h0:st≠some 0)
  (h:Q (.ref s.heap.objs.size) { s with heap:=s.heap.push { cls:=.type "list",data:=.seq (slicePick vs lo hi st) } }) (hsz:vs.size≤sizeLine):wpAny (model PG w) A (getItem (.ref a) (.ref sl)) Q E s:=by
 obtain ⟨os,hos,hcs,hds⟩:=id hs
 have hTs:s.TypeIs (.ref sl) "slice":=⟨os,hos,hcs⟩
 unfold getItem
 refine wpAny_holding ?_
 refine wpAny_bind (room_key X r ?_)
 refine wpAny_bind (room_callb X r rfl slot_list_getitem.bind (zJ9 (b:=Builtin.«list.__getitem__») (nm:="__getitem__") X r (.inr (by decide +kernel)) (by decide +kernel) (by decide +kernel) entry_list_getitem (args_list_getitem _ _) ?_))
 show wpAny _ _ (Builtin.List.listSubscript? (.ref sl) >>= _) _ _ s
 refine wpAny_bind ?_
 unfold Builtin.List.listSubscript?
 refine wpAny_bind (wpAny_specialOf hTs slice_no_index ?_)
 simp -iota only [Option.isNone_none,if_true]
 refine wpAny_pure ?_
 show wpAny _ _ (typeOf (.ref sl) >>= _) _ _ s
 refine wpAny_bind (wpAny_typeOf hTs ?_)
 rw [if_neg (by decide)]
 rw [listSliceParts_eq]
 have hstep:¬ ((rawPart st == rawInt 0)=true):=by
  cases st with
  | none=>exact Bool.false_ne_true
  | some c =>
   intro hh
   have:c=0:=by simpa [rawPart,rawInt] using hh
   exact h0 (by rw [this])
 refine wpAny_bind (wpAny_bind (wpAny_field hos hds (x:=vst) rfl (wpAny_bind (wpAny_listPart ps ?_))))
 rw [if_neg hstep]
 refine wpAny_bind (wpAny_field hos hds (x:=vl) rfl (wpAny_bind (wpAny_listPart pl ?_)))
 refine wpAny_bind (wpAny_field hos hds (x:=vu) rfl (wpAny_bind (wpAny_listPart pu (wpAny_pure ?_))))
 refine wpAny_bind (m:=Builtin.List.listItems (.ref a)) ?_
 unfold Builtin.List.listItems
 refine wpAny_bind (wpAny_seqItems r.obj rfl (wpAny_pure ?_))
 refine wpAny_bind (wpAny_of_eq (sliceIndices_raw lo hi st vs.size h0) ?_)
 refine wpAny_bind (wpAny_newObj_type (wpAny_pure ⟨_,rfl,wpAny_pure h⟩) (le_trans (slicePick_size_le vs lo hi st) hsz))
theorem room_cut {sl e:Addr} {vl:Value} {lo:Int} {m:Nat} {Q:Unit→Shared→Prop} (X:(KT w.params).In s.heap) (r:RoomAt w s.heap a dx vs n start k t) (hs:s.heap.IsSliceOf sl vl .none .none) (pl:IsPart vl (some lo)) (he:s.heap.get? e=some { cls:=.type "list",data:=.seq #[] m }) (h0:0≤lo) (h1:lo≤vs.size) (hea:e≠a)
  (h:∀ h' n',h'.get? a=some (roomObj dx (vs.extract 0 lo.toNat) n')→SameBut a s.heap h'→Q () { s with heap:=h' }) (hsz:vs.size≤1000):wpAny (model PG w) A (setItem (.ref a) (.ref sl) (.ref e)) Q E s:=by
 obtain ⟨os,hos,hcs,hds⟩:=id hs
 have hTs:s.TypeIs (.ref sl) "slice":=⟨os,hos,hcs⟩
 have hTe:s.TypeIs (.ref e) "list":=⟨_,he,rfl⟩
 unfold setItem
 refine wpAny_holding ?_
 refine wpAny_bind (room_key X r ?_)
 refine wpAny_bind (room_callb X r rfl PySem.F.slot_list_setitem.bind (zJ9 (b:=Builtin.«list.__setitem__») (nm:="__setitem__") X r (.inl (by decide +kernel)) (by decide +kernel) (by decide +kernel) PySem.F.entry_list_setitem (PySem.F.args_list_setitem_3 _ _ _) ?_))
 show wpAny _ _ (Builtin.List.listSubscript? (.ref sl) >>= _) _ _ s
 refine wpAny_bind ?_
 unfold Builtin.List.listSubscript?
 refine wpAny_bind (wpAny_specialOf hTs slice_no_index ?_)
 simp only [Option.isNone_none,if_true]
 refine wpAny_pure ?_
 show wpAny _ _ (typeOf (.ref sl) >>= _) _ _ s
 refine wpAny_bind (wpAny_typeOf hTs ?_)
 rw [if_neg (by decide)]
 rw [listSliceParts_eq]
 refine wpAny_bind (wpAny_bind (wpAny_field hos hds (x:=.none) rfl (wpAny_bind (wpAny_listPart .none ?_))))
 rw [if_neg (show ¬ ((rawPart none == rawInt 0)=true) from Bool.false_ne_true)]
 refine wpAny_bind (wpAny_field hos hds (x:=vl) rfl (wpAny_bind (wpAny_listPart pl ?_)))
 refine wpAny_bind (wpAny_field hos hds (x:=.none) rfl (wpAny_bind (wpAny_listPart .none (wpAny_pure ?_))))
 have hsr:Builtin.List.listSameRef (.ref a) (.ref e)=false:=by simp [Builtin.List.listSameRef,Ne.symm hea]
 rw [hsr,if_neg (by decide)]
 refine wpAny_bind (m:=Builtin.List.listAllItems (.ref e) _) ?_
 unfold Builtin.List.listAllItems
 refine wpAny_bind (wpAny_typeOf hTe ?_)
 rw [if_pos (by decide)]
 unfold Builtin.List.listItems
 refine wpAny_bind (wpAny_seqItems he rfl (wpAny_pure ?_))
 refine wpAny_bind (wpAny_bind (wpAny_seqItems r.obj rfl (wpAny_pure ?_)))
 have hb:sliceBounds (some lo) none none vs.size=(lo,(vs.size:Int),1):=by
  unfold sliceBounds
  have h2:((1:Int) > 0)=True:=by simp
  have h3:¬ lo < 0:=Int.not_lt.mpr h0
  have h4:max 0 (min lo (vs.size:Int))=lo:=by rw [Int.min_eq_left h1,Int.max_eq_right h0]
  simp only [Option.getD_none,h2,if_true,h3,if_false,h4]
 refine wpAny_bind (wpAny_of_eq (sliceIndices_raw (some lo) none none vs.size (by simp)) ?_)
 rw [hb]
 dsimp only
 rw [if_pos (by decide)]
 refine wpAny_bind (wpAny_rule ?_)
 have htl:¬ (Builtin.List.listTooLong (vs.size + (#[]:Array Value).size)=true):=by
  have:=zA6 (show vs.size≤1000000 by lia)
  simp [Builtin.List.listTooLong]; lia
 rw [if_neg htl]
 have hm:(max lo (vs.size:Int)).toNat=vs.size:=by rw [Int.max_eq_right h1,Int.toNat_natCast]
 have hu:(vs.extract 0 lo.toNat ++ (#[]:Array Value) ++ vs.extract (max lo (vs.size:Int)).toNat vs.size)=vs.extract 0 lo.toNat:=by rw [hm]; simp
 have hle:(vs.extract 0 lo.toNat).size≤sizeLine + 1:=by
  have:=zA6 (show vs.size≤1000000 by lia)
  simp; lia
 refine wpAny_bind (m:=Builtin.List.listUpdate (.ref a) _) ?_
 show wpAny _ _ (updateSeq a fun xs=>xs.extract 0 lo.toNat ++ (#[]:Array Value) ++ xs.extract (max lo (vs.size:Int)).toNat xs.size) _ _ _
 refine wpAny_updateSeq r.obj rfl ?_ ?_ ?_
 ·refine wpAny_bind (wpAny_letGo ?_)
  refine wpAny_pure ⟨_,rfl,wpAny_pure ?_⟩
  have hx:∃ n',(Obj.mapSeq (fun xs=>xs.extract 0 lo.toNat ++ (#[]:Array Value) ++ xs.extract (max lo (vs.size:Int)).toNat xs.size) (roomObj dx vs n))=roomObj dx (vs.extract 0 lo.toNat) n':=by
   unfold roomObj Obj.mapSeq
   dsimp only
   rw [hu]
   exact ⟨_,rfl⟩
  obtain ⟨n',hx⟩:=hx
  refine h _ n' ?_ (SameBut.update ..)
  rw [get?_update_self _ r.obj (by exact congrArg _ hx),hx]
 ·have:=zA6 (show vs.size≤1000000 by lia); lia
 ·rw [hu]; exact hle
end
theorem room_tail {C:Cx} {A:Around} {s:Shared} {a dx:Addr} {vs:Array Value} {n:Nat} {start:Int} {k t:Tok} {value slice:Expr} {i:Value} {ops:List Value} {Q:Value→Shared→Prop} (X:(KT C.w.params).In s.heap) (r:RoomAt C.w s.heap a dx vs n start k t)
  (hs:subscripted slice false (.ref a) i=operate ops (getItem (.ref a) i)) (h:WP C A (getItem (.ref a) i) Q s):WP C A (subscriptTail value slice (.ref a) i) Q s:=by
 unfold subscriptTail
 rw [getitemInPython_of_ne (by simp)]
 refine wpAny_bind (wpAny_bind (zJ3 X r rfl (wpAny_pure ?_)))
 rw [hs]
 refine wpAny_bind ?_
 have:WP C A (operate ops (getItem (.ref a) i)) Q s:=fun Γ p hΓ=>by rw [Sem.wp_operate]; exact h Γ p hΓ
 exact this.mono fun v s' q=>wpAny_bind (wpAny_letTemporaryGo (wpAny_pure q))
theorem f_popfrom {k:Nat} {C:Cx} {A:Around} {s:Shared} {a dx:Addr} {vs:Array Value} {n:Nat} {start:Int} {kk tt:Tok} {i:Int} {u:Tok} {Q:Value→Shared→Prop} (R:Room (k + 2) A) (I:Inv C s) (r:RoomAt C.w s.heap a dx vs n start kk tt) (hsz:vs.size≤1000) (h0:0≤i) (h1:i≤vs.size)
  (hQ:∀ h' tk P n' m,(∀ b o,b≠a→s.heap.get? b=some o→h'.get? b=some o)→h'.get? a=some (roomObj dx (vs.extract 0 i.toNat) n')→s.heap.get? P=none→h'.get? P=some { cls:=.type "list",data:=.seq (slicePick vs (some i) none none) m }→Q (.ref P) { s with heap:=h',toks:=tk }) :
  WP C A (call (.ref 53) [.ref a,.int i u]) Q s:=by
 refine enter_raw (k:=k + 1) (xs:=[ofString "self",ofString "i"]) ⟨fun P=>⟨_,rfl,rfl⟩,rfl,rfl,rfl,rfl,rfl,fun P=>⟨_,_,_,_,rfl,rfl,rfl,rfl⟩,rfl,rfl,rfl⟩ ?hx R I ?hb fun env s₁ R' B=>?_
 case hx=>intro x hx; simp only [mem_cons,not_mem_nil,or_false] at hx; rcases hx with rfl | rfl <;> rfl
 case hb=>exact Looks.of_peek (K:=KT C.w.params) I.K rfl
 have r₁:=r.keeps B.keep
 refine wpAny_execs_cons (wpAny_Assign_Name ?_ ?hsw)
 case hsw=>rfl
 refine PyProof.Rows.Subscript_ (B.name rfl rfl rfl rfl (wpAny_Slice (B.name rfl rfl rfl rfl ?_)))
 rw [evalPart_none]
 refine wpAny_pure (wpAny_pure ?_)
 obtain ⟨h₁,t₁,e₁⟩:=id B.same
 have B₂:=B.step (h':=s₁.heap.push { cls:=.type "slice",data:=.fields #[.int i u,.none,.none] }) s₁.toks fun b o e=>get?_push_of_some _ e
 have r₂:=r.keeps B₂.keep
 have hvs:vs.size≤sizeLine:=by have:=zA6 (show vs.size≤1000000 by lia); lia
 refine room_tail (ops:=[.ref s₁.heap.objs.size,.ref a]) B₂.inv.K r₂ rfl (zN1 B₂.inv.K r₂ (Heap.IsSliceOf.new s₁.heap (.int i u) .none .none) (.int i u) .none .none (by simp) ?_ hvs)
 have B₃:=B₂.step (h':=(s₁.heap.push { cls:=.type "slice",data:=.fields #[.int i u,.none,.none] }).push { cls:=.type "list",data:=.seq (slicePick vs (some i) none none) }) s₁.toks fun b o e=>get?_push_of_some _ e
 have z2:(s₁.heap.push { cls:=.type "slice",data:=.fields #[.int i u,.none,.none] }).objs.size=s₁.heap.objs.size + 1:=size_push ..
 have hP:((s₁.heap.push { cls:=.type "slice",data:=.fields #[.int i u,.none,.none] }).push { cls:=.type "list",data:=.seq (slicePick vs (some i) none none) }).get? (s₁.heap.objs.size + 1)=some { cls:=.type "list",data:=.seq (slicePick vs (some i) none none) }:=by
  have:=get?_push_size (s₁.heap.push { cls:=.type "slice",data:=.fields #[.int i u,.none,.none] }) (o:={ cls:=.type "list",data:=.seq (slicePick vs (some i) none none) }) rfl
  rw [z2] at this; exact this
 rw [z2]
 obtain ⟨oL,hoL⟩:=B.live
 have lL:env.locals < s₁.heap.objs.size:=lt_size hoL
 refine B₃.store I rfl rfl fun h₄ t₄ hs₄ B₄=>?_
 have P₄:=(hs₄.2 (s₁.heap.objs.size + 1) (Nat.ne_of_gt (lt_succ_of_lt lL))).trans hP
 refine wpAny_execs_cons (wpAny_Assign_Subscript ?_ ?hsw2)
 case hsw2=>rfl
 refine PyProof.Rows.List_ (spliced_nil (wpAny_newList ?_ (by show 0≤sizeLine; exact zero_le _)))
 have B₅:=B₄.step (h':=h₄.push { cls:=.type "list",data:=.seq ([]:List Value).toArray }) t₄ fun b o e=>get?_push_of_some _ e
 refine B₅.name rfl rfl rfl rfl (wpAny_Slice (B₅.name rfl rfl rfl rfl ?_))
 rw [evalPart_none]
 refine wpAny_pure (wpAny_pure ?_)
 have B₆:=B₅.step (h':=(h₄.push { cls:=.type "list",data:=.seq ([]:List Value).toArray }).push { cls:=.type "slice",data:=.fields #[.int i u,.none,.none] }) t₄ fun b o e=>get?_push_of_some _ e
 have r₆:=r.keeps B₆.keep
 have hE:((h₄.push { cls:=.type "list",data:=.seq ([]:List Value).toArray }).push { cls:=.type "slice",data:=.fields #[.int i u,.none,.none] }).get? h₄.objs.size=some { cls:=.type "list",data:=.seq #[] 0 }:=get?_push_of_some _ (get?_push_size _ rfl)
 have az:a < h₄.objs.size:=lt_size (r.keeps B₄.keep).obj
 refine room_cut B₆.inv.K r₆ (Heap.IsSliceOf.new (h₄.push { cls:=.type "list",data:=.seq ([]:List Value).toArray }) (.int i u) .none .none) (.int i u) hE h0 h1 (Nat.ne_of_gt az) (fun h₇ n₇ ha₇ hs₇=>?_) hsz
 have Pz:s₁.heap.objs.size + 1 < h₄.objs.size:=lt_size P₄
 have aP:s₁.heap.objs.size + 1≠a:=fun e=>by have:=lt_size r₁.obj; rw [← e] at this; exact absurd this (Nat.not_lt.mpr (le_succ _))
 have up:∀ b o,b≠a→h₄.get? b=some o→h₇.get? b=some o:=fun b o ne e=>(hs₇.2 b ne).trans (get?_push_of_some _ (get?_push_of_some _ e))
 have La:env.locals≠a:=fun e=>by have:=B.new; rw [e,r.obj] at this; cases this
 refine wpAny_execs_cons (wpAny_Return_some (wpAny_Name (wpAny_loadName_local (by rw [B.scope]) (show env.scope.names.lookup (ofString "popped")=_ by rw [B.scope]; rfl) (B₄.ns.at fun o e=>up _ o La e) (if_pos rfl) ?_) rfl))
 subst e₁
 refine hQ h₇ t₄ _ n₇ 0 (fun b o ne e=>up b o ne (B₄.keep b o e)) ha₇ ?_ (up _ _ aP P₄)
 cases q:s.heap.get? (h₁.objs.size + 1) with
 | none=>rfl
 | some o=>exact absurd (lt_size (B.keep _ o q)) (Nat.not_lt.mpr (le_succ _))
structure SupData (a:Addr) (fd:FuncData) (sc:Scope) (body:List Stmt):Prop where
 at_:∀ P,∃ o,(KT P).lookup a=some o∧o.data = .func fd
 body:fd.body = .stmts body
 scope:fd.scope=sc
 clo:fd.closure=[(ofString "__class__",25)]
 glob:fd.globals=mainGlobals
 bt:fd.builtins=builtinsNs
 code:∀ P,∃ c o vs t u,fd.code = .ref c∧(KT P).lookup c=some o∧o.data = .fields vs∧vs[1]? = some (.str fd.qualname t)∧vs[2]? = some (.str (PG.main.file:PySem.Str) u)
 co:fd.scope.isCoroutine=false
 gen:fd.scope.isGenerator=false
 kind:fd.scope.kind = .function
theorem enter_sup {k:Nat} {a:Addr} {fd:FuncData} {sc:Scope} {body:List Stmt} (D:SupData a fd sc body) {binds:List (PStr × Value)} (hcell:∀ x∈sc.names,x.2≠.cell) (hx:∀ x∈binds,sc.names.lookup x.1=some .local)
  {C:Cx} {A:Around} {s:Shared} {vals:List Value} (R:Room (k + 1) A) (I:Inv C s) (hbind:Looks (model PG C.w) s.heap (bindArgs fd ⟨vals,[]⟩) binds) {Q:Value→Shared→Prop}
  (h:∀ s₁,Room k (A.deeper (callEnv fd s.heap.objs.size a))→Body C sc (callEnv fd s.heap.objs.size a) s (fun y=>binds.reverse.lookup y) s₁ →
   PySem.wpAt (model PG C.w) (A.deeper (callEnv fd s.heap.objs.size a)) (.func body (callEnv fd s.heap.objs.size a)) (execs body (callEnv fd s.heap.objs.size a)) (fun f s'=>Q (match f with | .ret v=>v | _=>.none) s') (fun _ _=>False) s₁) :
  WP C A (call (.ref a) vals) Q s:=by
 obtain ⟨o,ho,hd⟩:=D.at_ C.w.params
 obtain ⟨c,oc,cvs,t,u,hc,hoc,hdc,hv,_⟩:=D.code C.w.params
 refine wpAny_call (codeAny_call_function R.dep (I.K a o ho) hd D.co D.gen D.body ⟨c,oc,cvs,t,hc,I.K c oc hoc,hdc,hv⟩ ?_)
 refine hbind.here ?_
 refine wpAny_newFunctionEnv (by rw [D.scope]; exact hcell) (by rw [D.scope]; exact hx) (fun h₀ hns hsb=>⟨I.lim.fresh _ hsb,?_⟩) D.kind
 have keep:∀ b o,s.heap.get? b=some o→h₀.get? b=some o:=fun b o e=>hsb.extBut b o (ne_of_lt (lt_size e)) (get?_push_of_some _ e)
 have R':Room k (A.deeper (callEnv fd s.heap.objs.size a)):=⟨R.handled,by have:=R.depth; show A.depth + 1 + _≤_; lia,by have:=R.units; show A.units + 3 + _≤_; lia⟩
 refine ks_codeAny_funcAt (env:=callEnv fd s.heap.objs.size a) ?_
 refine ks_wpAt_mono (h { s with heap:=h₀,toks:=s.toks + binds.length } R' ⟨D.scope,D.glob,D.bt,I.of_keep keep I.gens rfl rfl,hns,keep,zB5 _,h₀,_,rfl⟩) (fun f s' h'=>h') fun _ _ f=>f.elim
theorem slot_wget:Slot "wrapper_descriptor" "__get__" "wrapper_descriptor.__get__" :=
 .of (owner:="wrapper_descriptor") (n:="__get__") (by rw [typeLookup_type,builtinLookup_eq_fast]; kernel_rfl) (by decide +kernel) (by decide +kernel) (by decide +kernel)
  (by first | exact .inl (by decide +kernel) | exact .inr (by decide +kernel)) (by rw [isSubtype_type]; kernel_rfl)
theorem entry_wget:entryFor table "wrapper_descriptor.__get__" = some Builtin.«wrapper_descriptor.__get__»:=entryFor_of_tree (by kernel_rfl)
theorem args_wget (a b c:Value):argsOk "wrapper_descriptor.__get__" ⟨[a,b,c],[]⟩:=by unfold argsOk; kernel_rfl
theorem type_llen:typeOf (.builtin "list.__len__")=pure (.type "wrapper_descriptor"):=by show builtinType _=_; rw [builtinType_eq_fast]; kernel_rfl
theorem type_linit:typeOf (.builtin "list.__init__")=pure (.type "wrapper_descriptor"):=by show builtinType _=_; rw [builtinType_eq_fast]; kernel_rfl
theorem owner_llen:(kfb_private% "ownerAndName") "list.__len__" = ("list","__len__"):=by first | decide +kernel | kernel_rfl
theorem owner_linit:(kfb_private% "ownerAndName") "list.__init__" = ("list","__init__"):=by first | decide +kernel | kernel_rfl
noncomputable def wrapObj (id:String) (a:Addr):Obj:={ cls:=.type "method-wrapper",data:=.fields #[.builtin id,.ref a] }
section
variable {w:World} {A:Around} {E:Value→Shared→Prop} {s:Shared} {a dx:Addr} {vs:Array Value} {n:Nat} {start:Int} {k t:Tok}
theorem run_wget {id nm:String} {P:Fin→Shared→Prop} (X:(KT w.params).In s.heap) (r:RoomAt w s.heap a dx vs n start k t) (ho:(kfb_private% "ownerAndName") id=("list",nm)) (h:P (.done (.ret (.ref s.heap.objs.size))) { s with heap:=s.heap.push (wrapObj id a) }) :
  wpAny (model PG w) A (Builtin.«wrapper_descriptor.__get__» ⟨[.builtin id,.ref a,.ref 100],[]⟩) P E s:=by
 unfold Builtin.«wrapper_descriptor.__get__»
 refine wpAny_bind (wpAny_of_eq (a:=(.builtin id,some (.ref a),some (.ref 100))) (by first | rfl | kernel_rfl) ?_)
 show wpAny _ _ ((kfb_private% "checkInstance") (.builtin id) (.ref a) >>= fun _=>newFields "method-wrapper" [.builtin id,.ref a] >>= fun v=>ret v) _ _ _
 refine wpAny_bind ?_
 refine wpAny_bind (m:=(kfb_private% "nameAndClass") (.builtin id)) (wpAny_of_eq (a:=(ofString nm,.type "list")) ?_ ?_)
 ·show (match (kfb_private% "ownerAndName") id with | (owner,name)=>(pure (ofString name,Value.type owner):Sem _))=_
  rw [ho]
 refine wpAny_bind ((room_list X r).here ?_)
 exact wpAny_pure (wpAny_bind (wpAny_newObj_type (wpAny_pure h)))
theorem super_gaW {so:Addr} {id nm:String} {name:PStr} {l₀:List Value} {tk:Tok} {Q:Fin→Shared→Prop} (X:(KT w.params).In s.heap) (r:RoomAt w s.heap a dx vs n start k t) (ho:(kfb_private% "ownerAndName") id=("list",nm)) (ht:typeOf (.builtin id)=pure (.type "wrapper_descriptor"))
  (hso:s.heap.get? so=some (ks_superObj 100 a 100)) (hno:Looks (model PG w) s.heap (opaqueClassAbove (.ref 100)) none)
  (hC:Looks (model PG w) s.heap (mroOf (.ref 100)) l₀) (hl:(l₀.dropWhile (· != .ref 100)).drop 1=[.type "list",.type "object"])
  (hf:alongIn (KT w.params) name [.type "list",.type "object"]=some (some (.builtin id))) (hxC:a≠100) (hn:(name == (ofString "__class__"))=false)
  (hq:Q (.done (.ret (.ref s.heap.objs.size))) { s with heap:=s.heap.push (wrapObj id a) }) :
  wpAny (model PG w) A (Builtin.«super.__getattribute__» ⟨[.ref so,.str name tk],[]⟩) Q E s:=by
 obtain ⟨h,g,d,tt,os⟩:=s
 have hlk:=slot_wget.lookup
 have hne:(Value.ref a == Value.ref 100)=false:=by simp [hxC]
 have hTf:(⟨h,g,d,tt,os⟩:Shared).TypeIs (.builtin id) "wrapper_descriptor":=ht
 have hdt:(ks_superObj 100 a 100).data = .fields #[.ref 100,.ref a,.ref 100]:=rfl
 have f0:(#[.ref 100,.ref a,.ref 100]:Array Value)[0]? = some (.ref 100):=rfl
 have f1:(#[.ref 100,.ref a,.ref 100]:Array Value)[1]? = some (.ref a):=rfl
 have f2:(#[.ref 100,.ref a,.ref 100]:Array Value)[2]? = some (.ref 100):=rfl
 unfold Builtin.«super.__getattribute__»
 repeat (first
  | (with_reducible refine wpAny_field hso hdt f0 ?_) | (with_reducible refine wpAny_field hso hdt f1 ?_) | (with_reducible refine wpAny_field hso hdt f2 ?_)
  | (with_reducible refine ks_wpAny_notOpaque hno ?_)
  | (with_reducible refine Looks.at hC ?_; rw [hl])
  | (refine ks_forIn_along X (fun _ _=>rfl) rfl ?_ hf)
  | (with_reducible refine wpAny_typeOf hTf ?_)
  | (with_reducible refine wpAny_call_entry slot_wget hTf entry_wget ?_ (args_wget _ _ _))
  | (with_reducible refine run_wget X r ho ?_)
  | (with_reducible refine ⟨_,rfl,?_⟩)
  | (simp -iota only [hn,hne,Bool.or_false,false_eq_true,if_false])
  | wp_step
  | dsimp only)
 all_goals exact hq
theorem super_getW {so:Addr} {id nm:String} {name:PStr} {l₀:List Value} {pl:Sem Bool} {Q:Value × List Value→Shared→Prop} (X:(KT w.params).In s.heap) (r:RoomAt w s.heap a dx vs n start k t) (ho:(kfb_private% "ownerAndName") id=("list",nm)) (ht:typeOf (.builtin id)=pure (.type "wrapper_descriptor"))
  (hso:s.heap.get? so=some (ks_superObj 100 a 100)) (hno:Looks (model PG w) s.heap (opaqueClassAbove (.ref 100)) none)
  (hC:Looks (model PG w) s.heap (mroOf (.ref 100)) l₀) (hl:(l₀.dropWhile (· != .ref 100)).drop 1=[.type "list",.type "object"])
  (hf:alongIn (KT w.params) name [.type "list",.type "object"]=some (some (.builtin id))) (hxC:a≠100) (hn:(name == (ofString "__class__"))=false)
  (hq:Q (.ref s.heap.objs.size,[]) { s with heap:=s.heap.push (wrapObj id a),toks:=s.toks + 1 }) :
  wpAny (model PG w) A (getMethod (.ref so) name pl) Q E s:=by
 obtain ⟨h,g,d,tt,os⟩:=s
 have hlk:=F.ks_slot_super_ga.lookup
 have hcan:=F.ks_canon_super_ga
 have hT:∀ t',(⟨h,g,d,t',os⟩:Shared).TypeIs (.ref so) "super":=fun _=>⟨_,hso,rfl⟩
 unfold getMethod
 refine wpAny_bind (wpAny_specialOf (hT _) hlk ?_)
 show wpAny _ _ (if (Manifest.canonical "super.__getattribute__" != "object.__getattribute__")=true then _ else _) _ _ _
 rw [if_pos hcan]
 unfold getAttr getAttrBy
 refine wpAny_bind (wpAny_bind (wpAny_mkText (wpAny_holding (wpAny_bind (wpAny_typeOf (hT _) (wpAny_bind (wpAny_of_eq hlk ?_)))))))
 show wpAny _ _ (getAttrByItsOwn (.ref so) (.str name tt) (.type "super") (.builtin "super.__getattribute__") true false) _ _ _
 unfold getAttrByItsOwn hookBefore callGetattribute boundAndCalled
 refine wpAny_bind (wpAny_of_eq (show (if onTheHeap (.type "super") then typeLookup (.type "super") "__getattr__" else pure none)=pure none from rfl) ?_)
 refine wpAny_bind (wpAny_attempt (wpAny_holding ?_))
 show wpAny _ _ (bindSpecial (.builtin "super.__getattribute__") (.ref so) >>= _) _ _ _
 refine wpAny_bind (wpAny_of_eq (F.ks_slot_super_ga.bind _) ?_)
 refine wpAny_mono (Q:=fun v s'=>v = .ref h.objs.size∧s'=⟨h.push (wrapObj id a),g,d,tt + 1,os⟩) (E:=fun _ _=>False)
  (wpAny_call_entry F.ks_slot_super_ga (hT _) F.ks_entry_super_ga (super_gaW (s:=⟨h,g,d,tt + 1,os⟩) X r ho ht hso hno hC hl hf hxC hn ⟨_,rfl,rfl,rfl⟩) (F.ks_gaArgs_super _ _)) (fun v s' hv=>?_) fun _ _ z=>z.elim
 obtain ⟨rfl,rfl⟩:=hv
 exact wpAny_pure (wpAny_pure hq)
theorem callWith_wrap {pos:Pos} {u:Addr} {id:String} {Q:Value→Shared→Prop} (hu:s.heap.get? u=some (wrapObj id a))
  (h:wpAny (model PG w) A (call (.ref u) []) Q E s):wpAny (model PG w) A (callWith pos (.ref u) [] (backTo pos (starEach [] env)) []) Q E s:=by
 show wpAny _ _ (callWith pos (.ref u) [] [] []) Q E s
 unfold callWith
 refine wpAny_bind (wpAny_holding (wpAny_of_eq (a:=⟨[],[]⟩) (by first | rfl | kernel_rfl) (wpAny_bind (wpAny_standAt ?_))))
 refine wpAny_bind (m:=keeperOf (.ref u)) ?_
 unfold keeperOf
 refine wpAny_bind (wpAny_load hu ?_)
 simp -iota only [wrapObj,show (Value.type "method-wrapper" != Value.type "method")=true by decide,show (Value.type "method-wrapper" == Value.type "builtin_function_or_method" || Value.type "method-wrapper" == Value.type "method-wrapper")=true by decide,if_true]
 refine wpAny_pure ?_
 exact wpAny_bind (wpAny_mono h (fun r s₂ hr=>wpAny_bind (wpAny_holding (wpAny_point (wpAny_pure hr)))) fun _ _ x=>x)
theorem call_wrap {u:Addr} {id nm:String} {b:Builtin} {Q:Value→Shared→Prop} (X:(KT w.params).In s.heap) (r:RoomAt w s.heap a dx vs n start k t) (hu:s.heap.get? u=some (wrapObj id a))
  (hk:builtinKind id=some .slot) (hp:plainId id=true) (hb:entryFor table id=some b) (ha:argsOk id ⟨[.ref a],[]⟩)
  (hc:wpAny (model PG w) A.in1 (b ⟨[.ref a],[]⟩) (fun fin s'=>∃ v,fin = .done (.ret v)∧Q v s') E s):wpAny (model PG w) A (call (.ref u) []) Q E s:=by
 refine wpAny_call (codeAny_of_tree ?_)
 show wpAny _ A.in1 (callAny (.ref u) ⟨[],[]⟩) _ _ s
 simp -iota only [callAny]
 refine wpAny_bind (wpAny_load hu ?_)
 simp -iota only [wrapObj,show (Value.type "method-wrapper" == Value.type "method" || Value.type "method-wrapper" == Value.type "builtin_function_or_method" || Value.type "method-wrapper" == Value.type "method-wrapper")=true by decide,if_true]
 refine KFB.if_so (by decide) ?_
 have hchk:checkBoundCall id ⟨[.ref a],[]⟩=pure ():=by
  unfold checkBoundCall
  cases hsig:Manifest.signature? id with
  | none=>rfl
  | some sig =>
   simp -iota only [argsOk,hsig] at ha
   simp -iota only [hk]
   exact ha
 refine wpAny_bind (wpAny_of_eq (a:=()) hchk ?_)
 refine wpAny_bind (wpAny_pure (wpAny_pure ?_))
 refine ⟨plainId_quiet hp _,codeAny_builtin hb ?_⟩
 rw [Around.under_plainId hp _]
 exact wpAny_mono hc (fun fin s' h'=>by obtain ⟨v,rfl,hv⟩:=h'; exact hv) fun _ _ h'=>h'
end
theorem sup_base {C:Cx} {A:Around} {a f:Addr} {dx:Addr} {vs:Array Value} {n:Nat} {start:Int} {kk tt:Tok} {fd:FuncData} {sc:Scope} {body:List Stmt} {s s₁:Shared} {L:Addr} {m:PStr→Option Value} {p0 p1:Pos} {attr:PStr} {whole:Sem Value} {ar:Arg} {Q:Value→Shared→Prop}
  (D:SupData f fd sc body) (B:Body C sc (callEnv fd L f) s m s₁) (r:RoomAt C.w s₁.heap a dx vs n start kk tt)
  (hp:(fd.params.posonlyargs ++ fd.params.args).head? = some ar) (hm:m ar.arg=some (.ref a)) (hk:sc.kind = .function)
  (hat:(attr == (ofString "__class__"))=false) (hks:sc.names.lookup (ofString "super")=some .globalImplicit) (hkc:sc.names.lookup (ofString "__class__")=some .free) (hka:sc.names.lookup ar.arg=some .local)
  (h:∀ h',h'.get? s₁.heap.objs.size=some (ks_superObj 100 a 100)→(∀ b o,s₁.heap.get? b=some o→h'.get? b=some o)→Q (.ref s₁.heap.objs.size) { s₁ with heap:=h' }) :
  PySem.wpAt (model PG C.w) A (.func body (callEnv fd L f)) (attributeBase (.Call (.Name (ofString "super") p0) [] [] p1) attr (callEnv fd L f) whole) Q (fun _ _=>False) s₁:=by
 obtain ⟨o,ho,hd⟩:=D.at_ C.w.params
 obtain ⟨c,oc,cvs,t,u,hc,hoc,hdc,hv,hv2⟩:=D.code C.w.params
 have hsc:(callEnv fd L f).scope=sc:=D.scope
 have X:=B.inv.K
 have hD:∃ oD cd,s₁.heap.get? 100=some oD∧oD.data = .cls cd:=⟨_,_,X 100 _ rfl,rfl⟩
 obtain ⟨oD,cd,hD1,hD2⟩:=hD
 have hmro:mroIn (KT C.w.params) 100 (.ref 100)=some true:=rfl
 have hcell:s₁.heap.get? 25=some { cls:=.type "cell",data:=.cell (some (.ref 100)) }:=X 25 _ rfl
 refine ks_wpAt_super_base (env:=callEnv fd L f) (by show (callEnv fd L f).scope.names.lookup _=_; rw [hsc]; exact hks) (by show (callEnv fd L f).scope.names.lookup _=_; rw [hsc]; exact hkc) hat rfl (X _ _ ho) hd hp (show (callEnv fd L f).code = .ref c from hc) (X _ _ hoc) hdc hv2 (by simp) rfl ?_
 refine ks_loadName_global (by rw [hsc]; exact hk) (by show (callEnv fd L f).scope.names.lookup _=_; rw [hsc]; exact hks) (loadGlobal_builtin (env:=callEnv fd L f) (by rw [B.glob]; exact B.inv.g) (mg_none_of B.inv.K B.inv.g rfl) (by rw [B.bt]; exact B.inv.b) ((C.bt _ (by decide +kernel)).trans rfl) ⟨rfl,?_⟩)
 refine wpAny_loadName_free (by rw [hsc]; exact hk) (by show (callEnv fd L f).scope.names.lookup _=_; rw [hsc]; exact hkc) (by show fd.closure.lookup _=some 25; rw [D.clo]; rfl) ⟨_,hcell,rfl⟩ ?_
 refine wpAny_loadName_local (by rw [hsc]; exact hk) (by show (callEnv fd L f).scope.names.lookup _=_; rw [hsc]; exact hka) B.ns hm ?_
 obtain ⟨hh,g,d,tk,os⟩:=s₁
 refine ks_wpAny_isType_cls hD1 hD2 ⟨rfl,?_⟩
 refine ks_wpAny_call_super hD1 hD2 r.inst.at_ r.inst.cls (fun c e=>by cases e) (looks_mroIn X hmro) (fun h' e k=>h h' e k)
theorem run_llen {w:World} {A:Around} {E:Value→Shared→Prop} {s:Shared} {a:Addr} {o:Obj} {vs:Array Value} {n:Nat} {Q:Fin→Shared→Prop} (ho:s.heap.get? a=some o) (hd:o.data = .seq vs n) (h:Q (.done (.ret (.int vs.size s.toks))) { s with toks:=s.toks + 1 }) :
  wpAny (model PG w) A (Builtin.«list.__len__» ⟨[.ref a],[]⟩) Q E s:=by
 obtain ⟨hh,g,d,t,os⟩:=s
 unfold Builtin.«list.__len__»
 refine wpAny_bind (wpAny_of_eq (a:=(.ref a,[])) (by first | rfl | kernel_rfl) ?_)
 show wpAny _ _ (seqSize a >>= fun n=>retInt n) _ _ _
 refine wpAny_bind ?_
 unfold seqSize
 refine wpAny_bind (wpAny_loadPart_at ho ?_)
 rw [hd]
 refine wpAny_pure ?_
 show wpAny _ _ (mkInt _ >>= fun v=>ret v) _ _ _
 refine wpAny_bind (wpAny_mkInt ?_)
 exact wpAny_pure h
theorem super_off {w:World} {h:Heap} (X:(KT w.params).In h):Looks (model PG w) h (opaqueClassAbove (.ref 100)) none:=looks_opaque X rfl
theorem super_mro {w:World} {h:Heap} (X:(KT w.params).In h):∃ l₀,Looks (model PG w) h (mroOf (.ref 100)) l₀∧(l₀.dropWhile (· != .ref 100)).drop 1=[.type "list",.type "object"]:=by
 have hc:∃ cd,clsIn (KT w.params) 100=some cd∧(cd.mro.dropWhile (· != .ref 100)).drop 1=[.type "list",.type "object"]:=⟨_,rfl,by simp⟩
 obtain ⟨cd,hc,hm⟩:=hc
 exact ⟨cd.mro,fun A Q E s k q=>wpAny_bind ((looks_clsIn X hc) A _ E s k (wpAny_pure q)),hm⟩
theorem sup_call {C:Cx} {A:Around} {a f:Addr} {dx:Addr} {vs:Array Value} {n:Nat} {start:Int} {kk tt:Tok} {fd:FuncData} {sc:Scope} {body:List Stmt} {s s₁:Shared} {L:Addr} {m:PStr→Option Value} {p0 p1 p2 p3:Pos} {attr:PStr} {ar:Arg} {id nm:String} {pl:Sem Bool} {Q:Value→Shared→Prop}
  (D:SupData f fd sc body) (B:Body C sc (callEnv fd L f) s m s₁) (r:RoomAt C.w s₁.heap a dx vs n start kk tt)
  (hp:(fd.params.posonlyargs ++ fd.params.args).head? = some ar) (hm:m ar.arg=some (.ref a)) (hk:sc.kind = .function)
  (hat:(attr == (ofString "__class__"))=false) (hks:sc.names.lookup (ofString "super")=some .globalImplicit) (hkc:sc.names.lookup (ofString "__class__")=some .free) (hka:sc.names.lookup ar.arg=some .local)
  (he:eval (.Call (.Attribute (.Call (.Name (ofString "super") p0) [] [] p1) attr p2) [] [] p3) (callEnv fd L f)=(do
   let ov ← attributeBase (.Call (.Name (ofString "super") p0) [] [] p1) attr (callEnv fd L f) (eval (.Call (.Name (ofString "super") p0) [] [] p1) (callEnv fd L f))
   standAt p2.atName
   let (g,first) ← holding [ov] (getMethod ov attr pl)
   callWith p3 g first (backTo p3 (starEach [] (callEnv fd L f))) []))
  (ho:(kfb_private% "ownerAndName") id=("list",nm)) (ht:typeOf (.builtin id)=pure (.type "wrapper_descriptor")) (hf:alongIn (KT C.w.params) attr [.type "list",.type "object"]=some (some (.builtin id)))
  (h:∀ h' u tk,h'.get? u=some (wrapObj id a)→(∀ b o,s₁.heap.get? b=some o→h'.get? b=some o)→WP C A (call (.ref u) []) Q { s₁ with heap:=h',toks:=tk }) :
  PySem.wpAt (model PG C.w) A (.func body (callEnv fd L f)) (eval (.Call (.Attribute (.Call (.Name (ofString "super") p0) [] [] p1) attr p2) [] [] p3) (callEnv fd L f)) Q (fun _ _=>False) s₁:=by
 refine ks_wpAt_MethodCall (pl:=pl) (sup_base D B r hp hm hk hat hks hkc hka fun h' e k=>?_) he
 have X':(KT C.w.params).In h':=fun b o e=>k b o (B.inv.K b o e)
 have r':=r.keeps k
 obtain ⟨l₀,hC,hl⟩:=super_mro X'
 have hxC:a≠100:=fun e=>by
  have h1:=r'.obj
  have h2:=X' 100 _ rfl
  rw [e] at h1; rw [h1] at h2
  injection h2 with h2
  injection h2 with h2
  cases h2
 refine super_getW (s:={ s₁ with heap:=h' }) X' r' ho ht e (super_off X') hC hl hf hxC hat ?_
 have hu:(h'.push (wrapObj id a)).get? h'.objs.size=some (wrapObj id a):=get?_push_size _ rfl
 exact callWith_wrap (s:={ s₁ with heap:=h'.push (wrapObj id a),toks:=s₁.toks + 1 }) hu (h _ _ _ hu fun b o e=>get?_push_of_some _ (k b o e))
theorem f_partcount {k:Nat} {C:Cx} {A:Around} {s:Shared} {a dx:Addr} {vs:Array Value} {n:Nat} {start:Int} {kk tt:Tok} {Q:Value→Shared→Prop} (R:Room (k + 2) A) (I:Inv C s) (r:RoomAt C.w s.heap a dx vs n start kk tt)
  (hQ:∀ h' tk u,(∀ b o,s.heap.get? b=some o→h'.get? b=some o)→Q (.int vs.size u) { s with heap:=h',toks:=tk }) :
  WP C A (call (.ref 97) [.ref a]) Q s:=by
 refine enter_sup (k:=k + 1) (binds:=[(ofString "self",.ref a)]) ⟨fun P=>⟨_,rfl,rfl⟩,rfl,rfl,rfl,rfl,rfl,fun P=>⟨_,_,_,_,_,rfl,rfl,rfl,rfl,rfl⟩,rfl,rfl,rfl⟩ ?hcell ?hx R I ?hb fun s₁ R' B=>?_
 case hcell=>decide
 case hx=>intro x hx; simp only [mem_cons,not_mem_nil,or_false] at hx; subst hx; rfl
 case hb=>exact Looks.of_pure rfl
 have r₁:=r.keeps B.keep
 obtain ⟨h₁,t₁,e₁⟩:=id B.same
 subst e₁
 refine ks_wpAt_execs_cons (ks_wpAt_Return_some (sup_call ⟨fun P=>⟨_,rfl,rfl⟩,rfl,rfl,rfl,rfl,rfl,fun P=>⟨_,_,_,_,_,rfl,rfl,rfl,rfl,rfl⟩,rfl,rfl,rfl⟩ B r₁ rfl rfl rfl rfl rfl rfl rfl rfl owner_llen type_llen rfl fun h' u tk hu k'=>?_))
 have r':RoomAt C.w h' a dx vs n start kk tt:=r₁.keeps k'
 have X':(KT C.w.params).In h':=fun b o e=>k' b o (B.inv.K b o e)
 refine call_wrap (b:=Builtin.«list.__len__») (nm:="__len__") (s:={ s with heap:=h',toks:=tk }) X' r' hu (by decide +kernel) (by decide +kernel) entry_list_len (args_list_len _) (run_llen (s:={ s with heap:=h',toks:=tk }) r'.obj rfl ⟨_,rfl,?_⟩)
 exact hQ _ _ _ fun b o e=>k' b o (B.keep b o e)
open Builtin Builtin.ObjectAttr
theorem room_passes (self:Value) (c:Addr):refuseLoop self "__setattr__" [.ref c,.type "list",.type "object"]=pure ():=by
 rw [refuseLoop_ref]; kernel_rfl
section
variable {w:World} {A:Around} {s:Shared} {a dx:Addr} {vs:Array Value} {n:Nat} {start:Int} {t:Tok}
theorem room_osa {R:Result→Shared→Prop} {tk:Tok} (X:(KT w.params).In s.heap) (ho:s.heap.get? a=some (roomObj dx vs n)) (hdx:s.heap.get? dx=some emptyDict)
  (h:∀ h',h'.get? dx=some (roomDict w start s.toks t)→(∀ b o,b≠dx→s.heap.get? b=some o→h'.get? b=some o)→R (.ok (.ret .none)) { s with heap:=h',toks:=s.toks + 1 }) :
  codeAny (model PG w) A (.call (.builtin "object.__setattr__") ⟨[.ref a,.str (ofString "_initial_size") tk,.int start t],[]⟩) R s:=by
 have I:PySem.W.InstAt s.heap a (roomObj dx vs n) 100 (some emptyDict):=⟨ho,rfl,rfl,hdx⟩
 have hmro:∃ cd,clsIn (KT w.params) 100=some cd∧cd.mro=[.ref 100,.type "list",.type "object"]∧cd.hasDict=true:=⟨_,rfl,rfl,rfl⟩
 obtain ⟨cd,hc,hm,hhd⟩:=hmro
 have SF:=PySem.F.store_object
 have sub:Looks (model PG w) s.heap (isInstance (.ref a) (.type "object")) true:=I.type.andThen (looks_mroIn X (show mroIn (KT w.params) 100 (.type "object")=some true from rfl))
 refine codeAny_call_builtin SF.slot.plain SF.entry (@check_slot (model PG w) _ _ s "object.__setattr__" "object" "__setattr__" (.ref a) [.str (ofString "_initial_size") tk,.int start t] [] _ SF.kind SF.split sub (SF.args (.ref a) (.str _ _) (.int start t)) ?_)
 have hmr:Looks (model PG w) s.heap (mroOf (.ref 100)) [.ref 100,.type "list",.type "object"]:=by rw [← hm]; exact (looks_clsIn X hc).andThen .now
 rw [osa_eq,refuse_eq]
 refine wpAny_bind (wpAny_bind (I.type.here (wpAny_bind (hmr.here ?_))))
 rw [room_passes]
 refine wpAny_pure (wpAny_bind (I.type.here (wpAny_bind ((looks_findIn X (show findIn (KT w.params) (.ref 100) (ofString "_initial_size")=some none from rfl)).here ?_))))
 refine wpAny_bind (wpAny_pure ?_)
 show wpAny _ _ (storeInOwnDict (.ref a) (.ref 100) (.str (ofString "_initial_size") tk) (ofString "_initial_size") (.int start t) false) _ _ _
 refine wpAny_bind (wpAny_pure (wpAny_bind (wpAny_bind (wpAny_loadPart ho (wpAny_bind ((looks_clsIn X hc).here ?_))))))
 rw [hhd]
 refine wpAny_pure (a:=some dx) (wpAny_bind (wpAny_pure (wpAny_bind ?_)))
 unfold nsSet
 refine wpAny_bind (wpAny_bind (wpAny_askSetting (wpAny_pure (wpAny_bind (wpAny_mkText (wpAny_bind (wpAny_loadPart hdx ?_)))))))
 have c:(!(#[]:Array DictEntry).any (·.key.isStr (ofString "_initial_size")) && (#[]:Array DictEntry).any (·.refKey))=false:=by simp
 dsimp only
 rw [aRefKeyMayBeTheName_at,c]
 refine wpAny_updatePart hdx ?_
 have hput:Obj.putName (ofString "_initial_size") (PyData.keyHash w.params (ofString "_initial_size")) (.str (ofString "_initial_size") s.toks) (.int start t) emptyDict=roomDict w start s.toks t:=rfl
 have D':=get?_update_self (Obj.putName (ofString "_initial_size") (PyData.keyHash w.params (ofString "_initial_size")) (.str (ofString "_initial_size") s.toks) (.int start t)) hdx (by exact congrArg _ hput)
 rw [hput] at D'
 refine wpAny_bind (wpAny_lookBehind (o:=roomDict w start s.toks t) D' (show (Data.dict #[⟨PyData.keyHash w.params (ofString "_initial_size"),.str (ofString "_initial_size") s.toks,.int start t⟩] 1).pastItsLine=none from pastItsLine_dict (by show 1≤sizeLine + 1; lia)) ?_)
 exact wpAny_pure (h _ D' fun b o ne e=>(get?_update_other _ _ (Ne.symm ne)).trans e)
theorem room_setsize {E:Value→Shared→Prop} {Q:Unit→Shared→Prop} (X:(KT w.params).In s.heap) (ho:s.heap.get? a=some (roomObj dx vs n)) (hdx:s.heap.get? dx=some emptyDict)
  (h:∀ h',h'.get? dx=some (roomDict w start (s.toks + 1) t)→(∀ b o,b≠dx→s.heap.get? b=some o→h'.get? b=some o)→Q () { s with heap:=h',toks:=s.toks + 2 }) :
  wpAny (model PG w) A (setAttr (.ref a) (ofString "_initial_size") (.int start t)) Q E s:=by
 have I:PySem.W.InstAt s.heap a (roomObj dx vs n) 100 (some emptyDict):=⟨ho,rfl,rfl,hdx⟩
 refine set_plain X I rfl (room_osa (s:={ s with toks:=s.toks + 1 }) X ho hdx fun h' e k=>h h' e k)
theorem run_linit {E:Value→Shared→Prop} {o:Obj} {Q:Fin→Shared→Prop} (ho:s.heap.get? a=some (roomObj dx #[] n)) (h:∀ h' n',h'.get? a=some (roomObj dx #[] n')→(∀ b o,b≠a→s.heap.get? b=some o→h'.get? b=some o)→Q (.done (.ret .none)) { s with heap:=h' }) :
  wpAny (model PG w) A (Builtin.«list.__init__» ⟨[.ref a],[]⟩) Q E s:=by
 obtain ⟨hh,g,d,tk,os⟩:=s
 unfold Builtin.«list.__init__»
 show wpAny _ _ (Builtin.List.listItems (.ref a) >>= fun old=>Builtin.List.listUpdate (.ref a) (fun _=>#[]) >>= fun _=>letGo old.toList.reverse >>= fun _=>ret .none) _ _ _
 refine wpAny_bind ?_
 unfold Builtin.List.listItems
 refine wpAny_bind (wpAny_seqItems ho rfl (wpAny_pure ?_))
 refine wpAny_bind ?_
 show wpAny _ _ (updateSeq a fun _=>#[]) _ _ _
 have hx:(Obj.mapSeq (fun _=>#[]) (roomObj dx #[] n))=roomObj dx #[] n:=by unfold roomObj Obj.mapSeq; simp
 have hg:=get?_update_self (Obj.mapSeq (fun _=>#[])) ho (by exact congrArg _ hx)
 rw [hx] at hg
 refine wpAny_updateSeq ho rfl (wpAny_bind (wpAny_pure (wpAny_pure ?_))) (zero_le _) (zero_le _)
 exact h _ _ hg fun b o ne e=>(get?_update_other _ _ (Ne.symm ne)).trans e
end
end Mine
namespace Mine
open PySem.Str (ofString)
open PySem PySem.Calls PySem.Spec PyProof.Rows PySem.W PySem.W.X
structure MakesL (M:Model) (h:Heap) (C:Addr):Prop where
 obj:∃ oc od cd sl,h.get? C=some ⟨oc,od,.cls cd,sl⟩∧cd.abstract=false∧cd.hasDel=false∧cd.mro.isEmpty=false
 made:Looks M h (Bind.madeBy (.ref C)) (some "list.__new__")
 base:Looks M h (Bind.staticBase (.ref C)) (.ref C)
 self:Looks M h (isSubtype (.ref C) (.ref C)) true
 lst:Looks M h (isSubtype (.ref C) (.type "list")) true
 call:Looks M h (specialOf (.ref C) "__call__") (some (.builtin "type.__call__"))
 typ:Looks M h (isInstance (.ref C) (.type "type")) true
theorem makesL {M:Model} {P:Params} {h:Heap} (X:(KT P).In h):MakesL M h 100:=by
 obtain ⟨oc,od,cd,sl,ho,e1,e2,e3,e4⟩:∃ oc od cd sl,(KT P).lookup 100=some ⟨oc,od,.cls cd,sl⟩∧cd.abstract=false∧cd.hasDel=false∧(sl.toList[4]?).join=some (.builtin "list.__new__")∧cd.mro=[.ref 100,.type "list",.type "object"]:=⟨_,_,_,_,rfl,rfl,rfl,rfl,rfl⟩
 have hc:clsIn (KT P) 100=some cd:=by unfold clsIn; rw [ho]
 have hm:Looks M h (mroOf (.ref 100)) cd.mro:=(looks_clsIn X hc).andThen .now
 have made:Looks M h (Bind.madeBy (.ref 100)) (some "list.__new__"):=by
  intro A Q E s k q
  unfold Bind.madeBy
  refine wpAny_bind (hm A _ E s k ?_)
  rw [e4,forIn_cons]
  refine wpAny_bind (wpAny_bind (wpAny_bind (wpAny_bind (wpAny_loadPart (k _ _ (X _ _ ho)) (wpAny_pure ?_)))))
  dsimp only
  rw [← getElem?_toList,e3]
  exact wpAny_pure (wpAny_pure (wpAny_pure q))
 refine ⟨⟨oc,od,cd,sl,X _ _ ho,e1,e2,by exact congrArg _ e4⟩,made,?_,looks_mroIn X rfl,looks_mroIn X rfl,looks_specialIn X rfl,looks_instIn X rfl⟩
 intro A Q E s k q
 unfold Bind.staticBase
 refine wpAny_bind (hm A _ E s k ?_)
 rw [e4,forIn_cons]
 exact wpAny_bind (wpAny_bind (wpAny_bind (made A _ E s k (wpAny_pure (wpAny_pure (wpAny_pure q))))))
theorem kind_lnew:builtinKind "list.__new__" = some .builtinFn:=by decide +kernel
theorem split_lnew:splitId "list.__new__" = some ("list","__new__"):=by decide +kernel
noncomputable def lnewSig:Manifest.Signature:=⟨.any,"list","list",.cls,[⟨"args",.varPos,false⟩,⟨"kwargs",.varKw,false⟩]⟩
theorem row_lnew:Manifest.signature? "list.__new__" = some lnewSig:=by kernel_rfl
section
variable {w:World} {A:Around} {R:Result→Shared→Prop} {h:Heap} {g:Array GenState} {d:Drawn} {t:Nat} {os:OsState}
theorem new_list {rest:List Value} (Y:MakesL (model PG w) h 100)
  (hq:R (.ok (.ret (.ref (h.objs.size + 1)))) ⟨(h.push emptyDict).push (roomObj h.objs.size #[] 0),g,d,t,os⟩) :
  codeAny (model PG w) A (.call (.builtin "list.__new__") ⟨.ref 100 :: rest,[]⟩) R ⟨h,g,d,t,os⟩:=by
 obtain ⟨⟨oc,od,cd,sl,hC,e1,e2,e4⟩,made,base,self,top,call,typ⟩:=Y
 refine codeAny_of_tree ?_
 show wpAny _ A.in1 (do checkBuiltinCall "list.__new__" ⟨.ref 100 :: rest,[]⟩; again (.builtin "list.__new__" ⟨.ref 100 :: rest,[]⟩)) _ _ _
 have hown:=owner_list_new
 have here:Looks (model PG w) h (Bind.madeHere "list.__new__" (.ref 100)) ():=base.andThen (made.andThen (Looks.of_pure (by simp only [map_some,bne_self_eq_false,false_eq_true,if_false])))
 have args:Bind.checkArgs "list.__new__" lnewSig ⟨.ref 100 :: rest,[]⟩=pure ():=by kernel_rfl
 simp only [checkBuiltinCall,kind_lnew,split_lnew,row_lnew]
 rw [args]
 repeat (first | simp only [bne_self_eq_false,false_eq_true,if_false] | lk)
 refine ⟨plainId_quiet F.plain_list_new _,codeAny_builtin_stack F.entry_list_new rfl fun p st=>?_⟩
 simp only [hown]
 repeat (first | simp only [bne_self_eq_false,false_eq_true,if_false] | lk)
 have hC':=get?_push_of_some (roomObj h.objs.size #[] 0) (get?_push_of_some emptyDict hC)
 refine wpAny_load hC' ?_
 refine wpAny_pure ?_
 rw [e2]
 refine wpAny_pure (wpAny_pure ?_)
 show R _ _
 rw [size_push]
 exact hq
theorem make_room {rest:List Value} {fI:Addr} (Y:MakesL (model PG w) h 100) (hi:Looks (model PG w) h (typeLookup (.ref 100) "__init__") (some (.ref fI)))
  (hb:∀ self,Looks (model PG w) h (bindSpecial (.ref fI) self) (.ref fI,[self]))
  (hq:codeAny (model PG w) (A.under (.builtin "type.__call__" ⟨.ref 100 :: rest,[]⟩)) (.call (.ref fI) ⟨.ref (h.objs.size + 1) :: rest,[]⟩) (InitBack (h.objs.size + 1) R) ⟨(h.push emptyDict).push (roomObj h.objs.size #[] 0),g,d,t,os⟩) :
  codeAny (model PG w) A (.call (.ref 100) ⟨rest,[]⟩) R ⟨h,g,d,t,os⟩:=by
 have Y':=Y
 obtain ⟨⟨oc,od,cd,sl,hC,e1,e2,e4⟩,made,base,self,top,call,typ⟩:=Y
 refine codeAny_of_tree ?_
 show wpAny _ _ (callAny (.ref 100) _) _ _ _
 refine nd_load hC ?_
 show wpAny _ _ (callAny.viaDunder (.ref 100) _) _ _ _
 unfold callAny.viaDunder
 refine wpAny_bind (call.at ?_)
 dsimp only
 rw [tc_bind]
 refine wpAny_bind (wpAny_pure (wpAny_bind (wpAny_pure ?_)))
 refine wpAny_pure (a:=Fin.again (.call (.builtin "type.__call__") ⟨.ref 100 :: rest,[]⟩)) (And.intro rfl ?_)
 refine codeAny_call_builtin_at (Code.quiet_builtin _ (by decide +kernel)) entry_typeCall (check_slot tc_kind tc_split typ (tc_args _ _ _) ?_)
 unfold Builtin.«type.__call__»
 have hm:Looks (model PG w) h (mroOf (.ref 100)) cd.mro:=((Looks.ld (part:=none) hC).andThen .now).andThen .now
 repeat (first | simp only [e4,false_eq_true,if_false] | with_reducible refine wpAny_call ?_ | lk)
 refine new_list Y' ?_
 have k:∀ b o,h.get? b=some o→((h.push emptyDict).push (roomObj h.objs.size #[] 0)).get? b=some o:=fun b o e=>get?_push_of_some _ (get?_push_of_some _ e)
 have hx:((h.push emptyDict).push (roomObj h.objs.size #[] 0)).get? (h.objs.size + 1)=some (roomObj h.objs.size #[] 0):=by heap_get
 have t1:Looks (model PG w) ((h.push emptyDict).push (roomObj h.objs.size #[] 0)) (typeOf (.ref (h.objs.size + 1))) (.ref 100):=(Looks.ld hx).andThen .now
 have s1:=self.keeps k
 have i1:=hi.keeps k
 have b1:=(hb (.ref (h.objs.size + 1))).keeps k
 unfold isInstance callSpecial? specialOf
 repeat (first | with_reducible refine wpAny_call ?_ | lk)
 refine codeAny_mono hq fun r s' z=>?_
 rcases r with e | (v | _ | _ | _) <;> first | exact z | exact z.elim | skip
 obtain ⟨rfl,z⟩:=z
 exact wpAny_pure (wpAny_pure z)
end
theorem enter_supC {k:Nat} {a:Addr} {fd:FuncData} {sc:Scope} {body:List Stmt} (D:SupData a fd sc body) {binds:List (PStr × Value)} (hcell:∀ x∈sc.names,x.2≠.cell) (hx:∀ x∈binds,sc.names.lookup x.1=some .local)
  {C:Cx} {A:Around} {s:Shared} {vals:List Value} (R:Room (k + 1) A) (I:Inv C s) (hbind:Looks (model PG C.w) s.heap (bindArgs fd ⟨vals,[]⟩) binds) {Q:Result→Shared→Prop}
  (h:∀ s₁,Room k (A.deeper (callEnv fd s.heap.objs.size a))→Body C sc (callEnv fd s.heap.objs.size a) s (fun y=>binds.reverse.lookup y) s₁ →
   PySem.wpAt (model PG C.w) (A.deeper (callEnv fd s.heap.objs.size a)) (.func body (callEnv fd s.heap.objs.size a)) (execs body (callEnv fd s.heap.objs.size a)) (fun f s'=>Q (.ok (.ret (match f with | .ret v=>v | _=>.none))) s') (fun _ _=>False) s₁) :
  codeAny (model PG C.w) A (.call (.ref a) ⟨vals,[]⟩) Q s:=by
 obtain ⟨o,ho,hd⟩:=D.at_ C.w.params
 obtain ⟨c,oc,cvs,t,u,hc,hoc,hdc,hv,_⟩:=D.code C.w.params
 refine codeAny_call_function R.dep (I.K a o ho) hd D.co D.gen D.body ⟨c,oc,cvs,t,hc,I.K c oc hoc,hdc,hv⟩ ?_
 refine hbind.here ?_
 refine wpAny_newFunctionEnv (by rw [D.scope]; exact hcell) (by rw [D.scope]; exact hx) (fun h₀ hns hsb=>⟨I.lim.fresh _ hsb,?_⟩) D.kind
 have keep:∀ b o,s.heap.get? b=some o→h₀.get? b=some o:=fun b o e=>hsb.extBut b o (ne_of_lt (lt_size e)) (get?_push_of_some _ e)
 have R':Room k (A.deeper (callEnv fd s.heap.objs.size a)):=⟨R.handled,by have:=R.depth; show A.depth + 1 + _≤_; lia,by have:=R.units; show A.units + 3 + _≤_; lia⟩
 refine ks_codeAny_funcAt (env:=callEnv fd s.heap.objs.size a) ?_
 refine ks_wpAt_mono (h { s with heap:=h₀,toks:=s.toks + binds.length } R' ⟨D.scope,D.glob,D.bt,I.of_keep keep I.gens rfl rfl,hns,keep,zB5 _,h₀,_,rfl⟩) (fun f s' h'=>h') fun _ _ f=>f.elim
theorem f_init {k:Nat} {C:Cx} {A:Around} {s₀ s:Shared} {a dx:Addr} {n:Nat} {start:Int} {t:Tok} {Q:Result→Shared→Prop} (R:Room (k + 2) A) (I₀:Inv C s₀) (I:Inv C s) (hk:∀ b o,s₀.heap.get? b=some o→s.heap.get? b=some o) (hsame:∃ h tk,s={ s₀ with heap:=h,toks:=tk })
  (fa:s₀.heap.get? a=none) (fd:s₀.heap.get? dx=none) (ho:s.heap.get? a=some (roomObj dx #[] n)) (hdx:s.heap.get? dx=some emptyDict)
  (hQ:∀ h' tk n' kk,RoomAt C.w h' a dx #[] n' start kk t→(∀ b o,s₀.heap.get? b=some o→h'.get? b=some o)→Q (.ok (.ret .none)) { s₀ with heap:=h',toks:=tk }) :
  codeAny (model PG C.w) A (.call (.ref 38) ⟨[.ref a,.int start t],[]⟩) Q s:=by
 refine enter_supC (k:=k + 1) (binds:=[(ofString "self",.ref a),(ofString "initial_size",.int start t)]) ⟨fun P=>⟨_,rfl,rfl⟩,rfl,rfl,rfl,rfl,rfl,fun P=>⟨_,_,_,_,_,rfl,rfl,rfl,rfl,rfl⟩,rfl,rfl,rfl⟩ ?hcell ?hx R I ?hb fun s₁ R' B=>?_
 case hcell=>decide
 case hx=>intro x hx; simp only [mem_cons,not_mem_nil,or_false] at hx; rcases hx with rfl | rfl <;> rfl
 case hb=>exact Looks.of_peek (K:=KT C.w.params) I.K rfl
 obtain ⟨h₁,t₁,e₁⟩:=id B.same
 obtain ⟨h₂,t₂,e₂⟩:=hsame
 have ne:dx≠a:=fun e=>by rw [e,ho] at hdx; injection hdx with hdx; injection hdx with hdx; cases hdx
 have Lx:∀ b o,s.heap.get? b=some o→s.heap.objs.size≠b:=fun b o e q=>by have:=B.new; rw [show (callEnv _ s.heap.objs.size 38).locals=s.heap.objs.size from rfl,q,e] at this; cases this
 refine ks_wpAt_execs_cons (ks_wpAt_Assign_Attr (wpAt_of_wpAny (B.name rfl rfl rfl rfl (B.name rfl rfl rfl rfl ?_))))
 refine room_setsize B.inv.K (B.keep _ _ ho) (B.keep _ _ hdx) fun h' e k'=>?_
 have nf:∀ b o,s₀.heap.get? b=some o→b≠dx∧b≠a:=fun b o q=>⟨fun x=>(by rw [x,fd] at q; exact no q),fun x=>(by rw [x,fa] at q; exact no q)⟩
 have B₂:=Body.mk (C:=C) (s:=s₀) (s₁:={ s₁ with heap:=h',toks:=s₁.toks + 2 }) B.scope B.glob B.bt
  (B.inv.off I₀ (h':=h') (s₁.toks + 2) fun b o lv q=>k' b o (by obtain ⟨o',q'⟩:=isSome_iff_exists.mp lv; exact (nf b o' q').1) q)
  (B.ns.at fun o q=>k' _ o (Lx _ _ hdx) q)
  (fun b o q=>k' b o (nf b o q).1 (B.keep b o (hk b o q)))
  (by cases q:s₀.heap.get? s.heap.objs.size with | none=>exact q | some o=>exact absurd rfl (Lx _ _ (hk _ _ q)))
  ⟨h',s₁.toks + 2,by rw [e₁,e₂]⟩
 have r₂:RoomAt C.w h' a dx #[] n start (s₁.toks + 1) t:=⟨k' _ _ (Ne.symm ne) (B.keep _ _ ho),e⟩
 refine ks_wpAt_execs_cons (ks_wpAt_Expr_any (sup_call ⟨fun P=>⟨_,rfl,rfl⟩,rfl,rfl,rfl,rfl,rfl,fun P=>⟨_,_,_,_,_,rfl,rfl,rfl,rfl,rfl⟩,rfl,rfl,rfl⟩ B₂ r₂ rfl rfl rfl rfl rfl rfl rfl rfl owner_linit type_linit rfl fun h₃ u tk hu k₃=>?_) (int_ok rfl _ B.scope) rfl)
 have r₃:RoomAt C.w h₃ a dx #[] n start (s₁.toks + 1) t:=r₂.keeps k₃
 have X₃:(KT C.w.params).In h₃:=fun b o q=>k₃ b o (B₂.inv.K b o q)
 refine call_wrap (b:=Builtin.«list.__init__») (nm:="__init__") (s:={ s₁ with heap:=h₃,toks:=tk }) X₃ r₃ hu (by decide +kernel) (by decide +kernel) F.entry_list_init (F.args_list_init_1 _) (run_linit (dx:=dx) (n:=n) (o:=roomObj dx #[] n) (s:={ s₁ with heap:=h₃,toks:=tk }) r₃.obj fun h₄ n₄ ha₄ k₄=>⟨_,rfl,?_⟩)
 refine wpAt_of_wpAny (wpAny_execs_nil ?_)
 have:=hQ h₄ tk n₄ (s₁.toks + 1) ⟨ha₄,k₄ _ _ ne r₃.dict⟩ fun b o q=>k₄ b o (nf b o q).2 (k₃ b o (B₂.keep b o q))
 rw [e₁,e₂]
 exact this
theorem f_make {k:Nat} {C:Cx} {A:Around} {s:Shared} {start:Int} {t:Tok} {Q:Value→Shared→Prop} (R:Room (k + 3) A) (I:Inv C s)
  (hQ:∀ h' tk a dx n kk,(∀ b o,s.heap.get? b=some o→h'.get? b=some o)→RoomAt C.w h' a dx #[] n start kk t→s.heap.get? a=none→s.heap.get? dx=none→Q (.ref a) { s with heap:=h',toks:=tk }) :
  WP C A (call (.ref 100) [.int start t]) Q s:=by
 obtain ⟨hh,g,d,tk,os⟩:=s
 have X:(KT C.w.params).In hh:=I.K
 refine wpAny_call (make_room (makesL X) (looks_findIn X (show findIn (KT C.w.params) (.ref 100) "__init__" = some (some (.ref 38)) from rfl)) (fun self=>bind_fn X self rfl) ?_)
 have keep:∀ b o,hh.get? b=some o→((hh.push emptyDict).push (roomObj hh.objs.size #[] 0)).get? b=some o:=fun b o e=>get?_push_of_some _ (get?_push_of_some _ e)
 have hx:((hh.push emptyDict).push (roomObj hh.objs.size #[] 0)).get? (hh.objs.size + 1)=some (roomObj hh.objs.size #[] 0):=by heap_get
 have hd:((hh.push emptyDict).push (roomObj hh.objs.size #[] 0)).get? hh.objs.size=some emptyDict:=by heap_get
 have fr:∀ b,hh.objs.size≤b→hh.get? b=none:=fun b hb=>by
  cases q:hh.get? b with
  | none=>rfl
  | some o=>exact absurd (lt_size q) (Nat.not_lt.mpr hb)
 have I':Inv C ⟨(hh.push emptyDict).push (roomObj hh.objs.size #[] 0),g,d,tk,os⟩:=I.of_keep keep I.gens rfl rfl
 have R':Room (k + 2) (A.under (.builtin "type.__call__" ⟨[.ref 100,.int start t],[]⟩)):=⟨R.handled,by have:=R.depth; show A.depth + (Code.builtin "type.__call__" ⟨[.ref 100,.int start t],[]⟩).weight + 10 * (k + 2)≤900; rw [show (Code.builtin "type.__call__" ⟨[.ref 100,.int start t],[]⟩).weight=1 by kernel_rfl]; lia,by have:=R.units; show A.units + (Code.builtin "type.__call__" ⟨[.ref 100,.int start t],[]⟩).cUnits + 100 * (k + 2)≤9000; rw [show (Code.builtin "type.__call__" ⟨[.ref 100,.int start t],[]⟩).cUnits=1 by kernel_rfl]; lia⟩
 exact f_init R' I I' keep ⟨_,_,rfl⟩ (fr _ (le_succ _)) (fr _ (le_refl _)) hx hd fun h' tk n' kk r k'=>⟨rfl,hQ h' tk _ _ _ _ k' r (fr _ (le_succ _)) (fr _ (le_refl _))⟩
noncomputable def HasSeq (h:Heap) (a:Addr) (items:Array Value):Prop:=∃ o n,h.get? a=some o∧o.data = .seq items n
section
variable {prog:Program} {w:World} {A:Around} {E:Value→Shared→Prop} {s:Shared}
theorem next_item {it l:Addr} {i:Nat} {items:Array Value} {x:Value} {Q:Option Value→Shared→Prop} (hit:s.heap.IsListIter it l i)
  (hl:HasSeq s.heap l items) (hx:items[i]? = some x) (hQ:∀ h',h'.IsListIter it l (i + 1)→SameBut it s.heap h'→Q (some x) { s with heap:=h' }) :
  wpAny (model prog w) A (pyNext (.ref it)) Q E s:=by
 obtain ⟨o,ho,hc,hd⟩:=id hit
 obtain ⟨ol,nl,hol,hdl⟩:=hl
 unfold pyNext
 refine wpAny_bind (wpAny_attempt (wpAny_callSpecial?_slot (name:=Str.ofString "__next__") hit.typeIs slot_listiter_next (wpAny_call_entry slot_listiter_next hit.typeIs entry_listiter_next ?_ (args_listiter_next _))))
 show wpAny _ _ (field (.ref it) 0 >>= _) _ _ s
 refine wpAny_bind (wpAny_field ho hd (x:=.ref l) rfl ?_)
 show wpAny _ _ (if (Value.ref l == Value.none)=true then _ else _) _ _ s
 rw [if_neg (show ¬ ((Value.ref l == Value.none)=true) from Bool.false_ne_true)]
 show wpAny _ _ (field (.ref it) 1 >>= _) _ _ s
 refine wpAny_bind (wpAny_field ho hd (x:=.int i 0) rfl ?_)
 show wpAny _ _ (seqItems? (.ref l) >>= _) _ _ s
 refine wpAny_bind (wpAny_seqItems hol hdl ?_)
 simp only [Int.toNat_natCast,hx]
 refine wpAny_bind (wpAny_setField ho hd (by simp) (wpAny_pure ⟨x,rfl,wpAny_pure (hQ _ ?_ (SameBut.update ..))⟩))
 exact ⟨_,get?_update_self _ ho (Obj.isFreed_of_fields (Obj.data_mapFields hd _)),(Obj.cls_mapFields ..).trans hc,by
  rw [Obj.data_mapFields hd]; simp -iota [rawInt]⟩
theorem next_end {it l:Addr} {i:Nat} {items:Array Value} {Q:Option Value→Shared→Prop} (hh:A.handled=none)
  (hit:s.heap.IsListIter it l i) (hl:HasSeq s.heap l items) (hx:items[i]? = none)
  (hQ:∀ h',ExtBut it s.heap h'→Q none { s with heap:=h' }):wpAny (model prog w) A (pyNext (.ref it)) Q E s:=by
 obtain ⟨o,ho,hc,hd⟩:=id hit
 obtain ⟨ol,nl,hol,hdl⟩:=hl
 unfold pyNext
 refine wpAny_bind (wpAny_attempt (wpAny_callSpecial?_slot (name:=Str.ofString "__next__") hit.typeIs slot_listiter_next (wpAny_call_entry slot_listiter_next hit.typeIs entry_listiter_next ?_ (args_listiter_next _))))
 show wpAny _ _ (field (.ref it) 0 >>= _) _ _ s
 refine wpAny_bind (wpAny_field ho hd (x:=.ref l) rfl ?_)
 show wpAny _ _ (if (Value.ref l == Value.none)=true then _ else _) _ _ s
 rw [if_neg (show ¬ ((Value.ref l == Value.none)=true) from Bool.false_ne_true)]
 show wpAny _ _ (field (.ref it) 1 >>= _) _ _ s
 refine wpAny_bind (wpAny_field ho hd (x:=.int i 0) rfl ?_)
 show wpAny _ _ (seqItems? (.ref l) >>= _) _ _ s
 refine wpAny_bind (wpAny_seqItems hol hdl ?_)
 simp only [Int.toNat_natCast,hx]
 refine wpAny_bind (wpAny_rule (wpAny_bind (wpAny_setField ho hd (by simp) ?_)))
 show wpAny _ _ (newExc (.type "StopIteration") [] >>= _) _ _ _
 refine wpAny_bind ?_
 simp -iota only [newExc,newTuple]
 refine wpAny_bind (wpAny_newObj_type ?_ (by size_fits))
 refine wpAny_bind (m:=firstArgMember _ _) (wpAny_of_eq (a:=Value.none) (by first | rfl | (simp -iota only [firstArgMember]; rfl)) ?_)
 refine wpAny_newObj_type ?_ (by size_fits)
 simp -iota only [raiseNew]
 refine wpAny_bind (wpAny_handled ?_)
 rw [show A.in1.handled=none from hh]
 refine wpAny_bind (wpAny_pure (wpAny_throw ?_))
 refine wpAny_bind (wpAny_isInstance (T:="StopIteration") (b:=true) ⟨_,get?_push_size _ rfl,rfl⟩ isSubtype_stop ?_)
 exact wpAny_pure (hQ _ (((SameBut.update ..).extBut.push _).push _))
end
theorem HasSeq.at {h h':Heap} {a:Addr} {items:Array Value} (x:HasSeq h a items) (hk:∀ o,h.get? a=some o→h'.get? a=some o):HasSeq h' a items:=let ⟨o,n,e,d⟩:=x; ⟨o,n,hk _ e,d⟩
theorem walkPairs {prog:Program} {w:World} {A:Around} (hh:A.handled=none) (I ax:Addr) (hne:ax≠I) (items:Array Value) (Ts:Nat→Addr) (vals:Nat→Array Value)
  (hit:∀ j,j < items.size→items[j]? = some (.ref (Ts j))) (hTI:∀ j,j < items.size→Ts j≠I) :
  WalksU prog w A I (I :: ax :: (range items.size).map Ts) [I] items.size (fun j v=>v=vals j)
   (fun j h=>h.IsListIter I ax j∧HasSeq h ax items∧∀ k,k < items.size→h.IsTuple (Ts k) (vals k))
   (fun j T h=>(j < items.size∧T=Ts j)∧h.IsListIter I ax (j + 1)∧HasSeq h ax items∧∀ k,k < items.size→h.IsTuple (Ts k) (vals k)) where
 sub:=fun b hb=>by simp -iota at hb; simp -iota [hb]
 frame:=fun _ _ _ st hk=>⟨st.1.at fun o e=>hk I (by simp -iota) o e,st.2.1.at fun o e=>hk ax (by simp -iota) o e,
  fun k hk'=>(st.2.2 k hk').at fun o e=>hk (Ts k) (mem_cons_of_mem _ (mem_cons_of_mem _ (mem_map.mpr ⟨k,mem_range.mpr hk',rfl⟩))) o e⟩
 item:=fun i s Q E hi st hQ=>by
  refine next_item st.1 st.2.1 (x:=.ref (Ts i)) (hit i hi) fun h' hit' hs'=>?_
  have tup:∀ k,k < items.size→h'.IsTuple (Ts k) (vals k):=fun k hk'=>(st.2.2 k hk').extBut hs'.extBut (hTI k hk')
  exact hQ (Ts i) (vals i) h' s.toks rfl (tup i hi) ⟨⟨hi,rfl⟩,hit',st.2.1.at fun o e=>hs'.extBut _ _ hne e,tup⟩ fun b o hb e=>hs'.extBut b o (fun h=>hb (by simp -iota [h])) e
 go:=fun _ _ _ _ _ s Q _ hm hQ=>wpAny_letOwnedTupleGo_listiter hm.2.1 (hQ s.heap hm.2 fun _ _ _ e=>e)
 apart:=fun j T _ hm hmem=>by
  rcases mem_cons.mp hmem with e | e
  ·exact hTI j hm.1.1 (hm.1.2 ▸ e)
  ·cases e
 done:=fun s Q E st hQ=>next_end hh st.1 st.2.1 (by simp -iota) fun h' he'=>hQ h' s.toks fun b o hb e=>he' b o (fun h=>hb (by simp -iota [h])) e
 self:=fun _ _ _ _ st hQ=>wpAny_pyIter_listiter st.1 hQ
section
variable {w:World} {A:Around} {E:Value→Shared→Prop} {s:Shared} {a dx:Addr} {vs:Array Value} {n:Nat} {start:Int} {k t:Tok}
theorem room_iter {Q:Value→Shared→Prop} (X:(KT w.params).In s.heap) (r:RoomAt w s.heap a dx vs n start k t)
  (h:Q (.ref s.heap.objs.size) { s with heap:=s.heap.push { cls:=.type "list_iterator",data:=.fields #[.ref a,.int 0 0] } }):wpAny (model PG w) A (pyIter (.ref a)) Q E s:=by
 unfold pyIter
 refine wpAny_bind (zJ3 X r rfl ?_)
 dsimp only
 refine wpAny_bind ?_
 unfold callSpecialIfBoundUnlessNone? bindSpecialIfBound?
 refine wpAny_holding (wpAny_bind ?_)
 refine wpAny_bind (zJ3 (f:=some (.builtin "list.__iter__")) X r rfl ?_)
 dsimp only
 rw [slot_list_iter.bind]
 refine wpAny_bind (wpAny_askSetting ?_)
 have key:wpAny (model PG w) A (call (.builtin "list.__iter__") [.ref a]) (fun v s'=>v = .ref s.heap.objs.size∧s'={ s with heap:=s.heap.push { cls:=.type "list_iterator",data:=.fields #[.ref a,.int 0 0] } }) E s:=by
  refine zJ9 (b:=Builtin.«list.__iter__») (nm:="__iter__") X r (.inl (by decide +kernel)) (by decide +kernel) (by decide +kernel) entry_list_iter (args_list_iter _) ?_
  show wpAny _ _ (do ret (← newFields "list_iterator" [.ref a,rawInt 0])) _ _ s
  exact wpAny_bind (wpAny_newObj_type (wpAny_pure ⟨_,rfl,rfl,rfl⟩))
 have fin:wpAny (model PG w) A (do let it ← call (.builtin "list.__iter__") [.ref a]; pure (some it)) (fun a_2 s'=>a_2=some (.ref s.heap.objs.size)∧s'={ s with heap:=s.heap.push { cls:=.type "list_iterator",data:=.fields #[.ref a,.int 0 0] } }) E s :=
  wpAny_bind (wpAny_mono key (fun v s' h'=>wpAny_pure ⟨by rw [h'.1],h'.2⟩) fun _ _ z=>z)
 have rest:∀ v s',v=some (Value.ref s.heap.objs.size)∧s'={ s with heap:=s.heap.push { cls:=.type "list_iterator",data:=.fields #[.ref a,.int 0 0] } }→wpAny (model PG w) A (do let x ← specialOf (.ref s.heap.objs.size) (Str.ofString "__next__"); match x with | none=>(do rule "iter.non-iterator"; raiseError "TypeError" s!"iter() returned non-iterator of type '{← typeNameOf (.ref s.heap.objs.size)}'") | some _=>pure (Value.ref s.heap.objs.size)) Q E s':=by
  rintro v s' ⟨rfl,rfl⟩
  refine wpAny_bind (wpAny_specialOf (T:="list_iterator") ⟨_,get?_push_size _ rfl,rfl⟩ slot_listiter_next.lookup ?_)
  exact wpAny_pure h
 split
 ·refine wpAny_bind (wpAny_pure (wpAny_pure ?_))
  dsimp only
  rw [if_neg (by decide)]
  refine wpAny_mono fin (fun v s' h'=>?_) fun _ _ z=>z
  have:=rest v s' h'
  obtain ⟨rfl,_⟩:=h'
  exact this
 ·refine wpAny_tryCatch (wpAny_bind (wpAny_pure (wpAny_pure ?_)))
  dsimp only
  rw [if_neg (by decide)]
  refine wpAny_mono fin (fun v s' h'=>?_) fun _ _ z=>z
  have:=rest v s' h'
  obtain ⟨rfl,_⟩:=h'
  exact this
end
structure TabCode (c P:Addr) (line col:Nat):Prop where
 code:∀ P',∃ o vs file tf flags tg inF text tt,(KT P').lookup c=some o∧o.cls = .type "code"∧o.data = .fields vs∧vs[11]? = some (.ref P)∧vs.getD 11 .none = .ref P∧vs.getD 18 .none = .str file tf ∧
  vs.getD 7 .none = .int flags tg∧vs.getD 9 .none = .bool inF∧vs.getD 10 .none = .int text tt
 tab:isTab P=true
 ne:c≠P
 base:∀ C:Cx,∃ ps,C.h₁.TableAt c P ps
 st:∀ {C s},Inv C s→TabSt P line col s
 grow:∀ {C s} {h':Heap} {tk:Nat} {c':Addr},Inv C s→ExtBut P s.heap h'→h'.get? P=some (tableObj #[rawInt line,rawInt col,.ref c'])→TabSt 62 24 19 { s with heap:=h',toks:=tk }∧TabSt 69 27 32 { s with heap:=h',toks:=tk }
theorem tc62:TabCode 66 62 24 19 where
 code:=fun P'=>⟨_,_,_,_,_,_,_,_,_,rfl,rfl,rfl,rfl,rfl,rfl,rfl,rfl,rfl⟩
 tab:=rfl
 ne:=by decide
 base:=fun C=>C.tab62
 st:=fun I=>I.t62
 grow:=fun I hx e=>⟨⟨_,e,.inr ⟨_,rfl⟩⟩,let ⟨ps,e',r⟩:=I.t69; ⟨ps,hx _ _ (by decide) e',r⟩⟩
theorem tc69:TabCode 73 69 27 32 where
 code:=fun P'=>⟨_,_,_,_,_,_,_,_,_,rfl,rfl,rfl,rfl,rfl,rfl,rfl,rfl,rfl⟩
 tab:=rfl
 ne:=by decide
 base:=fun C=>C.tab69
 st:=fun I=>I.t69
 grow:=fun I hx e=>⟨let ⟨ps,e',r⟩:=I.t62; ⟨ps,hx _ _ (by decide) e',r⟩,⟨_,e,.inr ⟨_,rfl⟩⟩⟩
theorem zI1 {P b:Addr} (h:isTab P=true) (hb:isTab b=false):b≠P:=fun e=>by rw [e,h] at hb; exact bno hb rfl
theorem Inv.tab {C:Cx} {s:Shared} {h':Heap} {tk:Nat} {c P:Addr} {line col:Nat} {c':Addr} (T:TabCode c P line col) (I:Inv C s) (ht:s.heap.TableAt c P #[]) (ht':h'.TableAt c P #[rawInt line,rawInt col,.ref c'])
  (hx:ExtBut P s.heap h'):Inv C { s with heap:=h',toks:=tk }:=by
 obtain ⟨ps₀,h₀⟩:=T.base C
 obtain ⟨g1,g2⟩:=T.grow (tk:=tk) I hx ht'.2
 exact ⟨I.old.step_table h₀ ht (more:=#[rawInt line,rawInt col,.ref c']) ht' hx (Ne.symm (zI1 T.tab rfl)),fun a o e=>hx _ _ (zI1 T.tab (KT_off e)) (I.K a o e),g1,g2,
  I.g.extBut hx (zI1 T.tab rfl),I.b.extBut hx (zI1 T.tab rfl),I.lim.extBut hx (zI1 T.tab rfl),I.gens,I.drawn,I.os⟩
theorem TabCode.isCode {c P:Addr} {line col:Nat} (T:TabCode c P line col) {C:Cx} {s:Shared} (I:Inv C s) {ps:Array Value} (e:s.heap.get? P=some (tableObj ps)) (ht:TriplesOk ps.toList):s.heap.IsCode c P ps∧s.heap.TableAt c P ps:=by
 obtain ⟨o,vs,file,tf,flags,tg,inF,text,tt,hc,hcls,hd,h11,g11,g18,g7,g9,g10⟩:=T.code C.w.params
 exact ⟨⟨o,vs,file,tf,flags,tg,inF,text,tt,_,I.K _ _ hc,hd,g11,g18,g7,g9,g10,e,rfl,ht,T.ne⟩,⟨o,vs,I.K _ _ hc,hcls,hd,h11⟩,e⟩
theorem code_tab {C:Cx} {A:Around} {E:Value→Shared→Prop} {s:Shared} {env:Env} {c P:Addr} {line col:Nat} {pos:Pos} {qn:PStr} {scope:Scope} {Q:Value→Shared→Prop} (T:TabCode c P line col) (I:Inv C s) (hcode:env.code = .ref c) (hl:pos.line=line) (hc:pos.col=col)
  (h:∀ code h' tk,Inv C { s with heap:=h',toks:=tk }→ExtBut P s.heap h'→Q code { s with heap:=h',toks:=tk }):wpAny (model PG C.w) A (genexprCode env pos qn scope) Q E s:=by
 obtain ⟨ps,e,hp⟩:=T.st I
 subst hl hc
 rcases hp with rfl | ⟨c',rfl⟩
 ·obtain ⟨ic,ta⟩:=T.isCode I e trivial
  refine wpAny_genexprCodeX hcode ic ta rfl fun c' h' tk hx _ _ _ _ ht' _=>?_
  exact h _ _ _ (I.tab T ta ht' hx) hx
 ·obtain ⟨ic,ta⟩:=T.isCode I e trivial
  refine wpAny_genexprCode_hit (c':=.ref c') hcode ic ?_ ?_
  ·simp [codeAmong,rawInt]
  ·exact h _ s.heap s.toks I (ExtBut.refl _ _)
theorem bi_for {C:Cx} {A:Around} {E:Value→Shared→Prop} {s:Shared} {run:Addr} {Q:Addr→Shared→Prop} (I:Inv C s) (h:Q builtinsNs s):wpAny (model PG C.w) A (builtinsFor mainGlobals run) Q E s:=by
 obtain ⟨bm,o,e,ho,hc,hd,hp,ne⟩:∃ bm o,nsIn (KT C.w.params) mainGlobals "__builtins__" = some (some (.ref bm))∧(KT C.w.params).lookup bm=some o∧o.cls = .type "module"∧o.dict=some builtinsNs∧o.data = .plain∧bm≠builtinsNs:=⟨_,_,rfl,rfl,rfl,rfl,rfl,by decide⟩
 exact wpAny_builtinsFor I.g (mg_of I.K I.g e) ne (I.K _ _ ho) hc hd hp h
theorem WalksS.monoP {prog:Program} {w:World} {A:Around} {I:Addr} {fp wr:List Addr} {G:Array GenState→Array GenState→Prop} {n:Nat} {P P':Nat→Value→Prop} {St:Nat→Shared→Prop} (W:WalksS prog w A I fp wr G n P St) (h:∀ j y,P j y→P' j y):WalksS prog w A I fp wr G n P' St where
 sub:=W.sub
 grefl:=W.grefl
 gtrans:=W.gtrans
 frame:=W.frame
 item:=fun i s Q E hi st hQ=>W.item i s Q E hi st fun v s' hp=>hQ v s' (h _ _ hp)
 done:=W.done
 self:=W.self
structure GenR (C:Cx) (A:Around) (s:Shared) (g:Addr) (n:Nat) (F:Nat→Value→Prop) (s':Shared):Prop where
 walk:∃ fp wr gi St,WalksS PG C.w A.in4 g fp wr (GenOnlyQ gi) n F St∧St 0 s'∧(∀ i s'',St i s''→s''.TypeIs (.ref g) "generator")∧g∈fp∧(∀ b∈fp,b < s'.heap.objs.size)∧(∀ b∈wr,s.heap.get? b=none)
 inv:Inv C s'
 ext:Ext s s'
theorem gen_room {C:Cx} {A:Around} {s₀ s:Shared} {env:Env} {sc:Scope} {m:PStr→Option Value} {a dx:Addr} {vs:Array Value} {n:Nat} {start:Int} {k t:Tok} {c P:Addr} {line col:Nat} {x xa xb:PStr} {elt:Expr} {scope:Scope} {pos pa pb pt px:Pos} {kt:Nat} {F:Nat→Value→Prop} {Q:Value→Shared→Prop}
  (T:TabCode c P line col) (hl:pos.line=line) (hc:pos.col=col) (hh:A.handled=none) (hroom:A.depth < recursionLimit)
  (B:Body C sc env s₀ m s) (r:RoomAt C.w s.heap a dx vs n start k t) (hk:sc.kind = .function) (hx:sc.names.lookup x=some .local) (hd:(x == ("__debug__":PySem.Str))=false) (hm:m x=some (.ref a))
  (hcode:env.code = .ref c) (hclos:closureFor scope env=pure []) (hcell:∀ y∈scope.names,y.2≠.cell) (h0:scope.names.lookup (".0":PySem.Str)=some NameKind.local)
  (hxa:scope.names.lookup xa=some .local) (hxb:scope.names.lookup xb=some .local) (hab:xa≠xb) (hkind:scope.kind = .function) (hco:scope.isCoroutine=false)
  (Ts:Nat→Addr) (vals:Nat→Array Value) (hit:∀ j,j < vs.size→vs[j]? = some (.ref (Ts j))) (htup:∀ j,j < vs.size→s.heap.IsTuple (Ts j) (vals j)) (hv:∀ j,∃ va vb,vals j = #[va,vb])
  (helt:∀ (A':Around) (E':Value→Shared→Prop) i va vb (s₂:Shared) m₂ L code,A'.handled=none→i < vs.size→vals i = #[va,vb]→s₂.heap.Ns L m₂→m₂ xa=some va→m₂ xb=some vb →
   (KT C.w.params).In s₂.heap→s₂.heap.Ns mainGlobals C.mg→s₂.heap.Ns builtinsNs C.mb→wpAny (model PG C.w) A' (eval elt (genEnv scope [] L code builtinsNs env)) (fun y s₃=>F i y∧Keeps s₂ s₃) E' s₂)
  (hQ:∀ g s',GenR C A s g vs.size F s'→Q (.ref g) s')
  (hs:∀ y,genFold (.Name x px) env y=pure y:=by intro y; rfl) :
  WP C A (eval (.GeneratorExp elt [⟨.Tuple [.Name xa pa,.Name xb pb] kt pt,.Name x px,[],0⟩] scope pos) env) Q s:=by
 refine wpAny_GeneratorExp_walksQT hh hco hclos hcell h0 hxa hxb hab hkind hroom (B.name hk hx hd hm (room_iter B.inv.K r ⟨(B.inv.of_keep (s':={ s with heap:=s.heap.push { cls:=.type "list_iterator",data:=.fields #[.ref a,.int 0 0] } }) (fun b o e=>get?_push_of_some _ e) B.inv.gens rfl rfl).lim,?_⟩)) hs
 have I₂:Inv C { s with heap:=s.heap.push { cls:=.type "list_iterator",data:=.fields #[.ref a,.int 0 0] } }:=B.inv.of_keep (fun b o e=>get?_push_of_some _ e) B.inv.gens rfl rfl
 refine code_tab T I₂ hcode hl hc fun code h₃ tk₃ I₃ hx₃=>?_
 rw [B.glob]
 refine bi_for I₃ ?_
 have isz:(s.heap.push { cls:=.type "list_iterator",data:=.fields #[.ref a,.int 0 0] }).get? s.heap.objs.size=some { cls:=.type "list_iterator",data:=.fields #[.ref a,.int 0 0] }:=get?_push_size _ rfl
 have hIt:isTab s.heap.objs.size=false:=by
  cases q:isTab s.heap.objs.size with
  | false=>rfl
  | true =>
   obtain ⟨ps,r⟩:=I₂.tabObj isz q
   cases r
 have up:∀ b o,isTab b=false→s.heap.get? b=some o→h₃.get? b=some o:=fun b o hb e=>hx₃ b o (zI1 T.tab hb) (get?_push_of_some _ e)
 have hIl:h₃.get? s.heap.objs.size=some { cls:=.type "list_iterator",data:=.fields #[.ref a,.int 0 0] }:=hx₃ _ _ (zI1 T.tab hIt) isz
 have fr:s.heap.get? s.heap.objs.size=none:=zB5 _
 have az:isTab a=false:=by
  cases q:isTab a with
  | false=>rfl
  | true=>obtain ⟨ps,r'⟩:=B.inv.tabObj r.obj q; cases r'
 have tz:∀ j,j < vs.size→isTab (Ts j)=false:=fun j hj=>by
  cases q:isTab (Ts j) with
  | false=>rfl
  | true =>
   obtain ⟨o,ho,hcl,no,hdt⟩:=htup j hj
   obtain ⟨ps,r'⟩:=B.inv.tabObj ho q
   rw [r'] at hcl; cases hcl
 have aI:a≠s.heap.objs.size:=ne_of_lt (lt_size r.obj)
 have tI:∀ j,j < vs.size→Ts j≠s.heap.objs.size:=fun j hj=>by
  obtain ⟨o,ho,hcl,no,hdt⟩:=htup j hj
  exact ne_of_lt (lt_size ho)
 have htup₃:∀ j,j < vs.size→h₃.IsTuple (Ts j) (vals j):=fun j hj=>(htup j hj).at fun o e=>up _ o (tz j hj) e
 have hsz:s.heap.objs.size < h₃.objs.size:=lt_size hIl
 refine ⟨s.heap.objs.size,s.heap.objs.size :: a :: (range vs.size).map Ts,[s.heap.objs.size],vs.size,(fun j v=>j < vs.size∧v=vals j),_,_,(fun _=>true),F,rfl,fun A' hA=>(walkPairs hA _ a aI vs Ts vals hit tI).bound,?_,?_,?_,I₃.lim,?_,?_,?_⟩
 ·rintro i _ ⟨_,rfl⟩; exact hv i
 ·exact ⟨⟨_,hIl,rfl,rfl⟩,⟨_,_,up _ _ az r.obj,rfl⟩,htup₃⟩
 ·intro b hb
  rcases mem_cons.mp hb with rfl | hb
  ·exact hsz
  ·rcases mem_cons.mp hb with rfl | hb
   ·exact lt_size (up _ _ az r.obj)
   ·obtain ⟨j,hj,rfl⟩:=mem_map.mp hb
    obtain ⟨o,ho,_⟩:=htup₃ j (mem_range.mp hj)
    exact lt_size ho
 ·intro hb
  have:cStatics=s.heap.objs.size:=by simpa using hb
  obtain ⟨_,⟨o,_,_,ho,_⟩,_⟩:=B.inv.lim
  rw [this,fr] at ho; exact no ho
 ·intro href hk'
  refine ⟨fun A' E' i va vb s₂ m₂ hA hP hn ha hb hkeep=>?_,fun A' E' i va vb s₂ m₂ hA hP _ hn ha hb hkeep=>?_⟩
  ·rw [List.forIn_nil]
   exact wpAny_pure ⟨rfl,s₂.heap,s₂.toks,rfl,fun b o e=>e⟩
  ·have kp:∀ b o,b≠s.heap.objs.size→h₃.get? b=some o→s₂.heap.get? b=some o:=fun b o ne e=>hkeep b (mem_range.mpr (lt_size e)) (by simpa using ne) o (hk' b o e)
   have live:∀ b o,s.heap.get? b=some o→b≠s.heap.objs.size:=fun b o e=>ne_of_lt (lt_size e)
   have K₂:(KT C.w.params).In s₂.heap:=fun b o e=>kp b o (live b o (B.inv.K b o e)) (I₃.K b o e)
   have g₂:s₂.heap.Ns mainGlobals C.mg:=I₃.g.at fun o e=>kp _ _ (by obtain ⟨o',_,_,ho',_⟩:=B.inv.g; exact live _ _ ho') e
   have b₂:s₂.heap.Ns builtinsNs C.mb:=I₃.b.at fun o e=>kp _ _ (by obtain ⟨o',_,_,ho',_⟩:=B.inv.b; exact live _ _ ho') e
   exact helt A' E' i va vb s₂ m₂ _ code hA hP.1 hP.2.symm hn ha hb K₂ g₂ b₂
 ·intro g h₅ tk gs hgb hag hsz₅ hk₅ W hat
  have hpass:passing (fun _=>true) vs.size 0=range vs.size:=by unfold passing; simp
  rw [hpass,length_range] at W
  refine hQ g _ ⟨⟨_,_,_,_,WalksS.monoP W fun j y hj=>?_,hat,fun i s'' st=>st.1.typeIs,List.mem_cons_self,?_,?_⟩,?_,?_⟩
  ·obtain ⟨i,hi,hF⟩:=hj
   obtain ⟨h1,h2⟩:=List.getElem?_eq_some_iff.mp hi
   simp only [List.getElem_range] at h2
   subst h2; exact hF
  ·intro b hb
   show b < h₅.objs.size
   rw [hsz₅]
   rcases mem_cons.mp hb with rfl | hb
   ·exact Nat.lt_succ_self _
   ·rcases mem_cons.mp hb with rfl | hb
    ·exact lt_succ_of_lt hag
    ·exact lt_succ_of_lt (Nat.lt_trans (mem_range.mp hb) hag)
  ·intro b hb
   rcases mem_cons.mp hb with rfl | hb
   ·cases q:s.heap.get? h₃.objs.size with
    | none=>rfl
    | some o=>exact absurd (Nat.lt_trans (lt_size q) hsz) (Nat.lt_irrefl _)
   ·have:b=s.heap.objs.size:=by simpa using hb
    rw [this]; exact fr
  ·exact I₃.of_keep hk₅ (I₃.gens.push hgb) rfl rfl
  ·refine ⟨fun b o e hb=>hk₅ b o (up b o hb e),fun b e=>?_⟩
   obtain ⟨o,e⟩:=isSome_iff_exists.mp e
   by_cases hb:b=P
   ·subst hb
    obtain ⟨ps,e',_⟩:=T.st I₃
    rw [hk₅ _ _ e']; rfl
   ·rw [hk₅ b o (hx₃ b o hb (get?_push_of_some _ e))]; rfl
theorem args_sum2 (a b:Value):argsOk "sum" ⟨[a,b],[]⟩:=by unfold argsOk; kernel_rfl
noncomputable def shVal (start:Int) (val:Nat→Int):Nat→Int
 | 0=>start
 | j + 1=>val j
theorem preSum_sh (start:Int) (val:Nat→Int):∀ j,preSum (shVal start val) (j + 1)=start + preSum val j
 | 0=>by simp [preSum,shVal]
 | j + 1=>by
  rw [show preSum (shVal start val) (j + 1 + 1)=preSum (shVal start val) (j + 1) + val j from rfl,preSum_sh start val j,show preSum val (j + 1)=preSum val j + val j from rfl,Int.add_assoc]
noncomputable def shP (P:Nat→Value→Prop):Nat→Value→Prop
 | 0,_=>False
 | j + 1,y=>P j y
noncomputable def shSt (St:Nat→Shared→Prop):Nat→Shared→Prop
 | 0,_=>False
 | j + 1,s=>St j s
section
variable {prog:Program} {w:World} {A:Around} {E:Value→Shared→Prop} {s:Shared}
theorem WalksS.shift {I:Addr} {fp wr:List Addr} {G:Array GenState→Array GenState→Prop} {n:Nat} {P:Nat→Value→Prop} {St:Nat→Shared→Prop} (W:WalksS prog w A I fp wr G n P St) :
  WalksS prog w A I fp wr G (n + 1) (shP P) (shSt St) where
 sub:=W.sub
 grefl:=W.grefl
 gtrans:=W.gtrans
 frame:=fun i s h' tk st ht hk=>by
  cases i with
  | zero=>exact st.elim
  | succ i=>exact W.frame i s h' tk st ht hk
 item:=fun i s Q E hi st hQ=>by
  cases i with
  | zero=>exact st.elim
  | succ i=>exact W.item i s Q E (by lia) st fun v s' hp hs hm=>hQ v s' hp hs hm
 done:=W.done
 self:=fun i s Q E st hQ=>by
  cases i with
  | zero=>exact st.elim
  | succ i=>exact W.self i s Q E st hQ
theorem call_sum_start {x:Value} {start:Int} {t0:Tok} {Q:Value→Shared→Prop}
  (h:wpAny (model prog w) A.in1 (pyIter x) (fun it s₂=>∃ I fp wr G n P St val,it = .ref I∧WalksS prog w A.in1 I fp wr G n P St∧St 0 s₂∧(∀ b∈fp,b < s₂.heap.objs.size) ∧
   (∀ i v,P i v→∃ t,v = .int (val i) t)∧∀ s' t',Moved wr G s₂ s'→Q (.int (start + preSum val n) t') s') E s) :
  wpAny (model prog w) A (call (.builtin "sum") [x,.int start t0]) Q E s:=by
 refine call_function_tree F.kind_sum F.plain_sum F.entry_sum (args_sum2 _ _) ?_
 unfold Builtin.«sum»
 simp -iota only [length_cons,length_nil]
 rw [if_neg (by decide)]
 refine wpAny_bind (wpAny_of_eq (a:=[some (.int start t0)]) (by first | rfl | kernel_rfl) ?_)
 refine wpAny_bind (wpAny_mono h (fun it s₂ h₂=>?_) fun _ _ e=>e)
 obtain ⟨I,fp,wr,G,n,P,St,val,rfl,W,hst,hfp,hval,hQ⟩:=h₂
 have hv:∀ i v,shP P i v→∃ t,v = .int (shVal start val i) t:=by
  intro i v hp
  cases i with
  | zero=>exact hp.elim
  | succ i=>exact hval i v hp
 have hS1:preSum (shVal start val) 1=start:=by rw [preSum_sh]; simp -iota [preSum]
 have hSf:s₂.heap.objs.size ∉ fp:=fun hm=>Nat.lt_irrefl _ (hfp _ hm)
 have fin:∀ (tt:Tok) (tk:Nat) (st:Int),(st=0 ∨ st=2)→s₂.toks≤tk→codeAny (model prog w) A (.builtin "sum.loop" ⟨[.ref I,.ref s₂.heap.objs.size,rawInt st,rawInt 0],[]⟩) (wants Q E) { s₂ with heap:=s₂.heap.push { cls:=.type "list",data:=.seq #[.int start tt] },toks:=tk }:=fun tt tk st hst2 htk=>by
  refine codeAny_sum_loopAnyS (WalksS.shift W) (shVal start val) hv s₂.heap.objs.size hSf n 1 _ tt 0 st hst2 (by lia) (by lia) (W.frame 0 s₂ _ _ hst htk fun b _ o e=>get?_push_of_some _ e) (by rw [hS1]; exact get?_push_size _ rfl) fun s' t' hm=>?_
  have:=hQ s' t' (hm.drop_new htk)
  rw [preSum_sh]
  exact this
 show wpAny _ _ (if (_:Bool)=true then _ else _) _ _ _
 split
 ·refine wpAny_bind (wpAny_rule (wpAny_bind (wpAny_mkInt (wpAny_bind (wpAny_pure ?_)))))
  simp -iota only [forIn_cons,List.forIn_nil]
  refine wpAny_bind (wpAny_bind (wpAny_bind (wpAny_isInstance (T:="int") (b:=false) (typeIs_int _ _ _) PySem.sub_int_str ?_)))
  simp -iota only [false_eq_true,if_false]
  refine wpAny_pure (wpAny_bind (wpAny_bind (wpAny_isInstance (T:="int") (b:=false) (typeIs_int _ _ _) PySem.sub_int_bytes ?_)))
  simp -iota only [false_eq_true,if_false]
  refine wpAny_pure (wpAny_bind (wpAny_bind (wpAny_isInstance (T:="int") (b:=false) (typeIs_int _ _ _) PySem.sub_int_bytearray ?_)))
  simp -iota only [false_eq_true,if_false]
  refine wpAny_pure (wpAny_pure ?_)
  refine wpAny_bind (wpAny_newObj_type ?_)
  exact wpAny_pure ⟨plainId_quiet F.plain_sum_loop _,fin _ _ 0 (.inl rfl) (le_succ _)⟩
 ·refine wpAny_bind (wpAny_pure ?_)
  simp -iota only [forIn_cons,List.forIn_nil]
  refine wpAny_bind (wpAny_bind (wpAny_bind (wpAny_isInstance (T:="int") (b:=false) (typeIs_int _ _ _) PySem.sub_int_str ?_)))
  simp -iota only [false_eq_true,if_false]
  refine wpAny_pure (wpAny_bind (wpAny_bind (wpAny_isInstance (T:="int") (b:=false) (typeIs_int _ _ _) PySem.sub_int_bytes ?_)))
  simp -iota only [false_eq_true,if_false]
  refine wpAny_pure (wpAny_bind (wpAny_bind (wpAny_isInstance (T:="int") (b:=false) (typeIs_int _ _ _) PySem.sub_int_bytearray ?_)))
  simp -iota only [false_eq_true,if_false]
  refine wpAny_pure (wpAny_pure ?_)
  refine wpAny_bind (wpAny_newObj_type ?_)
  exact wpAny_pure ⟨plainId_quiet F.plain_sum_loop _,fin _ s₂.toks 2 (.inr rfl) (le_refl _)⟩
end
section
variable {w:World} {A:Around} {E:Value→Shared→Prop} {s:Shared} {a dx:Addr} {vs:Array Value} {n:Nat} {start:Int} {k t:Tok}
theorem room_size {fill expr:Bool} {tk:Tok} {Q:Value→Shared→Prop} (X:(KT w.params).In s.heap) (r:RoomAt w s.heap a dx vs n start k t) (h:Q (.int start t) s) :
  wpAny (model PG w) A (getAttrBy (.ref a) (.str (ofString "_initial_size") tk) fill expr) Q E s:=by
 have I:=r.inst
 have hga:findIn (KT w.params) (.ref 100) "__getattribute__" = some (some (.builtin "list.__getattribute__")):=rfl
 have hh:findIn (KT w.params) (.ref 100) "__getattr__" = some none:=rfl
 unfold getAttrBy
 refine wpAny_holding (wpAny_bind (I.type.here (wpAny_bind ((looks_findIn X hga).here ?_))))
 show wpAny _ _ (getAttrByItsOwn _ _ _ _ _ _) _ _ _
 unfold getAttrByItsOwn hookBefore
 refine wpAny_bind ((looks_findIn X hh).here ?_)
 refine wpAny_bind (wpAny_attempt (wpAny_holding ?_))
 have e1:callGetattribute (.ref a) (.str (ofString "_initial_size") tk) (.builtin "list.__getattribute__") expr=boundAndCalled (.builtin "list.__getattribute__") (.ref a) (.str (ofString "_initial_size") tk):=by
  unfold callGetattribute; cases expr <;> rfl
 rw [e1]
 unfold boundAndCalled
 rw [F.slot_list_getattribute.bind]
 refine wpAny_bind (wpAny_pure ?_)
 have hf:findObj (KT w.params) 100 (some (roomDict w start k t)) (ofString "_initial_size")=some (.value (.int start t)):=rfl
 refine zJ9 (b:=Builtin.«object.__getattribute__») (nm:="__getattribute__") X r (.inl (by decide +kernel)) (by decide +kernel) (by decide +kernel) F.entry_list_ga (F.args_list_getattribute_2 _ _) ?_
 refine wpAny_bind (wpAny_pure (wpAny_bind (wpAny_pure (wpAny_bind (I.type.here (wpAny_bind ((looks_find X I hf).here ?_)))))))
 exact wpAny_pure ⟨_,rfl,wpAny_pure h⟩
end
noncomputable def ItemsAt (h:Heap) (vs:Array Value) (its:List (PStr × PStr)):Prop :=
 its.length=vs.size∧∀ j,j < vs.size→∃ T t u,vs[j]? = some (.ref T)∧h.IsTuple T #[.str (its.getD j default).1 t,.str (its.getD j default).2 u]
theorem ItemsAt.keeps {C:Cx} {s s':Shared} {vs:Array Value} {its:List (PStr × PStr)} (I:Inv C s) (X:Ext s s') (h:ItemsAt s.heap vs its):ItemsAt s'.heap vs its:=by
 refine ⟨h.1,fun j hj=>?_⟩
 obtain ⟨T,t,u,e,o,ho,hc,n,hd⟩:=h.2 j hj
 exact ⟨T,t,u,e,o,X.kept I ho (fun ps q=>by rw [q] at hc; cases hc),hc,n,hd⟩
theorem ItemsAt.split {h:Heap} {vs:Array Value} {its:List (PStr × PStr)} (x:ItemsAt h vs its):∃ (Ts:Nat→Addr) (ta tb:Nat→Tok),(∀ j,j < vs.size→vs[j]? = some (.ref (Ts j)))∧∀ j,j < vs.size→h.IsTuple (Ts j) #[.str (its.getD j default).1 (ta j),.str (its.getD j default).2 (tb j)]:=by
 have:∀ j,∃ p:Addr × Tok × Tok,j < vs.size→vs[j]? = some (.ref p.1)∧h.IsTuple p.1 #[.str (its.getD j default).1 p.2.1,.str (its.getD j default).2 p.2.2]:=fun j=>by
  by_cases hj:j < vs.size
  ·obtain ⟨T,t,u,e,ht⟩:=x.2 j hj
   exact ⟨(T,t,u),fun _=>⟨e,ht⟩⟩
  ·exact ⟨(0,0,0),fun q=>absurd q hj⟩
 obtain ⟨f,hf⟩:=Classical.axiomOfChoice this
 exact ⟨fun j=>(f j).1,fun j=>(f j).2.1,fun j=>(f j).2.2,fun j hj=>(hf j hj).1,fun j hj=>(hf j hj).2⟩
noncomputable def lenAt (its:List (PStr × PStr)) (j:Nat):Int:=((its.getD j default).1.length:Int) + ((its.getD j default).2.length:Int)
noncomputable def lenSum (its:List (PStr × PStr)):Int:=(its.map fun p=>(p.1.length:Int) + p.2.length).sum
theorem preSum_take (its:List (PStr × PStr)):∀ j,j≤its.length→preSum (lenAt its) j=lenSum (its.take j)
 | 0,_=>rfl
 | j + 1,h=>by
  have hj:j < its.length:=h
  rw [show preSum (lenAt its) (j + 1)=preSum (lenAt its) j + lenAt its j from rfl,preSum_take its j (Nat.le_of_lt hj),List.take_add_one,getElem?_eq_getElem hj]
  unfold lenSum lenAt
  rw [map_append,List.sum_append,getD_eq_getElem?_getD,getElem?_eq_getElem hj]
  simp only [Option.toList_some,map_cons,List.map_nil,sum_cons,List.sum_nil,Option.getD_some,Int.add_zero]
theorem preSum_len (its:List (PStr × PStr)):preSum (lenAt its) its.length=lenSum its:=by
 rw [preSum_take its _ (le_refl _),List.take_length]
theorem enter_rawE {k:Nat} {a:Addr} {fd:FuncData} {sc:Scope} {body:List Stmt} (D:FnData a fd sc body) {xs:List PStr} (hx:∀ x∈xs,sc.names.lookup x=some .local)
  {C:Cx} {A:Around} {s:Shared} {vals:List Value} (R:Room (k + 1) A) (I:Inv C s) (hbind:Looks (model PG C.w) s.heap (bindArgs fd ⟨vals,[]⟩) (xs.zip vals)) {Q:Value→Shared→Prop}
  (h:∀ s₁,Room k (A.deeper (callEnvC fd s.heap.objs.size a))→Body C sc (callEnvC fd s.heap.objs.size a) s (bindL (fun y=>sc.names.lookup y) (xs.zip vals) fun _=>none) s₁ →
   WP C (A.deeper (callEnvC fd s.heap.objs.size a)) (execs body (callEnvC fd s.heap.objs.size a)) (fun f s'=>Q (match f with | .ret v=>v | _=>.none) s') s₁) :
  WP C A (call (.ref a) vals) Q s:=by
 obtain ⟨o,ho,hd⟩:=D.at_ C.w.params
 obtain ⟨c,oc,cvs,t,hc,hoc,hdc,hv⟩:=D.code C.w.params
 refine wpAny_call (codeAny_call_function R.dep (I.K a o ho) hd D.co D.gen D.body ⟨c,oc,cvs,t,hc,I.K c oc hoc,hdc,hv⟩ ?_)
 rw [D.clo]
 refine hbind.here ?_
 refine wpAny_newFunctionEnv_cells D.kind (fun y hy=>?_) fun env he s₁ x=>?_
 ·have hy1:y.1∈xs:=(List.of_mem_zip (a:=y.1) (b:=y.2) hy).1
  rw [D.scope]; exact .inl (hx y.1 hy1)
 ·have he':env=callEnvC fd s.heap.objs.size a:=he
  subst he'
  have R':Room k (A.deeper (callEnvC fd s.heap.objs.size a)):=⟨R.handled,by have:=R.depth; show A.depth + 1 + _≤_; lia,by have:=R.units; show A.units + 3 + _≤_; lia⟩
  obtain ⟨h₁,tk,he⟩:=x.toInCall.same
  have hkd:(callEnvC fd s.heap.objs.size a).kindOf=fun y=>sc.names.lookup y:=funext fun y=>by show fd.scope.names.lookup y=_; rw [D.scope]
  have hns:=x.toInCall.ns
  rw [hkd] at hns
  exact ⟨I.lim.keeps x.toInCall.keep,codeAny_func (wpAny_mono (h s₁ R' ⟨D.scope,D.glob,D.bt,I.of_keep x.toInCall.keep (by rw [he]; exact I.gens) (by rw [he]) (by rw [he]),hns,x.toInCall.keep,zB5 _,h₁,tk,he⟩) (fun f s' h'=>h') fun _ _ f=>f.elim)⟩
theorem glob_b {C:Cx} {A:Around} {E:Value→Shared→Prop} {s:Shared} {env:Env} {x:PStr} {pos:Pos} {v:Value} {Q:Value→Shared→Prop} (hk:env.scope.kind = .function) (hx:env.scope.names.lookup x=some .globalImplicit) (hg:env.globals=mainGlobals) (hb:env.builtins=builtinsNs)
  (X:(KT C.w.params).In s.heap) (G:s.heap.Ns mainGlobals C.mg) (B:s.heap.Ns builtinsNs C.mb) (V:GV x v) (h:Q v s):wpAny (model PG C.w) A (eval (.Name x pos) env) Q E s:=by
 cases V with
 | g V=>exact Name_function_global hk hx (loadGlobal_global (by rw [hg]; exact G) (mg_of X G (V.here _)) h) V.nd
 | b V=>exact Name_function_global hk hx (loadGlobal_builtin (by rw [hg]; exact G) (mg_none_of X G (V.off _)) (by rw [hb]; exact B) ((C.bt x V.nn).trans V.boot) h) V.nd
theorem call_nb {C:Cx} {A:Around} {E:Value→Shared→Prop} {s:Shared} {env:Env} {x:PStr} {np pos:Pos} {id:String} {e:Expr} {es:List Expr} {Q:Value→Shared→Prop} (hk:env.scope.kind = .function) (hx:env.scope.names.lookup x=some .globalImplicit) (hg:env.globals=mainGlobals) (hb:env.builtins=builtinsNs)
  (X:(KT C.w.params).In s.heap) (G:s.heap.Ns mainGlobals C.mg) (B:s.heap.Ns builtinsNs C.mb) (V:GV x (.builtin id)) (hst:Stars (e :: es))
  (h:wpAny (model PG C.w) A (spliced (backTo pos ((e :: es).map fun e=>(false,eval e env)))) (fun vs s₁=>wpAny (model PG C.w) A (call (.builtin id) vs) Q E s₁) E s):wpAny (model PG C.w) A (eval (.Call (.Name x np) (e :: es) [] pos) env) Q E s:=by
 show wpAny _ _ (do callWith pos (← eval (.Name x np) env) [] (backTo pos (starEach (e :: es) env)) (backToKw pos (keywordEach [] env))) _ _ s
 refine wpAny_bind (glob_b hk hx hg hb X G B V ?_)
 refine callWith_builtin (zC1 hst) ?_
 rw [hst env]
 exact evalArgs_plain h
theorem Inv.moved {C:Cx} {s₀ s s':Shared} (I₀:Inv C s₀) (I:Inv C s) (hk:∀ b o,(s₀.heap.get? b).isSome=true→s.heap.get? b=some o→s'.heap.get? b=some o) (hg:AllBare s'.gens) (hd:s'.drawn=s.drawn) (ho:s'.os=s.os):Inv C s':=by
 have J:=I.off I₀ (h':=s'.heap) s'.toks hk
 exact ⟨J.old,J.K,J.t62,J.t69,J.g,J.b,J.lim,hg,hd.trans I.drawn,ho.trans I.os⟩
theorem gen_after {C:Cx} {s s₂ s₂' s':Shared} {wr:List Addr} {gi:Nat} (I:Inv C s) (I₂:Inv C s₂) (X:Ext s s₂) (hw:∀ b∈wr,s.heap.get? b=none) (hk:∀ b o,s₂.heap.get? b=some o→s₂'.heap.get? b=some o)
  (hg:s₂'.gens=s₂.gens) (hd:s₂'.drawn=s₂.drawn) (ho:s₂'.os=s₂.os) (m:Moved wr (GenOnlyQ gi) s₂' s'):Inv C s'∧Ext s s':=by
 have off:∀ b o,s.heap.get? b=some o→b ∉ wr:=fun b o e hb=>by exact nos (hw b hb) e
 refine ⟨Inv.moved I I₂ (fun b o lv e=>?_) ((show AllBare s₂'.gens by rw [hg]; exact I₂.gens).moved m.gens) (m.drawn.trans hd) (m.os.trans ho),fun b o e hb=>?_,fun b lv=>?_⟩
 ·obtain ⟨o',e'⟩:=isSome_iff_exists.mp lv
  exact m.heap b o (off b o' e') (hk b o e)
 ·exact m.heap b o (off b o e) (hk b o (X.keep b o e hb))
 ·obtain ⟨o',e'⟩:=isSome_iff_exists.mp lv
  obtain ⟨o'',e''⟩:=isSome_iff_exists.mp (X.live b lv)
  rw [m.heap b o'' (off b o' e') (hk b o'' e'')]; rfl
theorem RoomAt.ext {C:Cx} {s s':Shared} {a dx:Addr} {vs:Array Value} {n:Nat} {start:Int} {k t:Tok} (I:Inv C s) (X:Ext s s') (r:RoomAt C.w s.heap a dx vs n start k t):RoomAt C.w s'.heap a dx vs n start k t :=
 ⟨X.kept I r.obj (fun ps q=>by cases q),X.kept I r.dict (fun ps q=>by cases q)⟩
theorem f_len {k:Nat} {C:Cx} {A:Around} {s:Shared} {a dx:Addr} {vs:Array Value} {n:Nat} {start:Int} {kk tt:Tok} {its:List (PStr × PStr)} {Q:Value→Shared→Prop} (R:Room (k + 2) A) (I:Inv C s) (r:RoomAt C.w s.heap a dx vs n start kk tt) (hi:ItemsAt s.heap vs its)
  (hsz:∀ p∈its,p.1.length≤sizeLine∧p.2.length≤sizeLine) (hQ:∀ s' u,Inv C s'→Ext s s'→Q (.int (start + lenSum its) u) s'):WP C A (call (.ref 67) [.ref a]) Q s:=by
 refine enter_rawE (k:=k + 1) (xs:=[ofString "self"]) ⟨fun P=>⟨_,rfl,rfl⟩,rfl,rfl,rfl,rfl,rfl,fun P=>⟨_,_,_,_,rfl,rfl,rfl,rfl⟩,rfl,rfl,rfl⟩ ?hx R I ?hb fun s₁ R' B=>?_
 case hx=>intro x hx; simp only [mem_cons,not_mem_nil,or_false] at hx; subst hx; rfl
 case hb=>exact Looks.of_pure rfl
 have r₁:=r.keeps B.keep
 have hi₁:ItemsAt s₁.heap vs its:=ItemsAt.keeps I (.of_keep B.keep) hi
 obtain ⟨Ts,ta,tb,hit,htup⟩:=hi₁.split
 refine wpAny_execs_cons (wpAny_Return_some ?_)
 refine call_nb rfl rfl rfl rfl B.inv.K B.inv.g B.inv.b gv_sum (zD2 rfl) ?_
 refine spliced_cons (gen_room (F:=fun j y=>∃ t,y = .int (lenAt its j) t) tc62 rfl rfl R'.handled R'.dep B r₁ rfl rfl rfl rfl rfl ?hclos ?hcell rfl rfl rfl (by decide +kernel) rfl rfl Ts _ hit htup (fun j=>⟨_,_,rfl⟩) ?helt fun g s₂ G=>?_)
 case hclos=>rfl
 case hcell=>decide
 case helt =>
  intro A' E' i va vb s₂ m₂ L code hA hilt hv hn ha hb X₂ G₂ B₂
  have hv':va = .str (its.getD i default).1 (ta i)∧vb = .str (its.getD i default).2 (tb i):=by
   have:=congrArg Array.toList hv
   simp only [List.cons.injEq,and_true] at this
   exact ⟨this.1.symm,this.2.symm⟩
  obtain ⟨rfl,rfl⟩:=hv'
  have hmem:its.getD i default∈its:=by
   have:i < its.length:=by rw [hi.1]; exact hilt
   rw [getD_eq_getElem?_getD,getElem?_eq_getElem this]; simp
  obtain ⟨z1,z2⟩:=hsz _ hmem
  refine wpAny_BinOp (call_nb rfl rfl rfl rfl X₂ G₂ B₂ gv_len (zD2 rfl) (spliced_cons (wpAny_Name (wpAny_loadName_local rfl rfl hn ha (spliced_nil ?_)) rfl)))
  refine P.len_str (by unfold sizeLine at z1; lia) ?_
  refine call_nb rfl rfl rfl rfl X₂ G₂ B₂ gv_len (zD2 rfl) (spliced_cons (wpAny_Name (wpAny_loadName_local rfl rfl hn hb (spliced_nil ?_)) rfl))
  refine P.len_str (by unfold sizeLine at z2; lia) ?_
  exact wpAny_add_int ⟨⟨_,rfl⟩,s₂.heap,_,rfl,fun b o e=>e⟩
 have X₂:=G.ext
 have r₂:=r₁.ext B.inv X₂
 obtain ⟨oL,es,ep,hoL,hdL,hrL⟩:=id B.ns
 have ns₂:s₂.heap.Ns _ _:=⟨oL,es,ep,X₂.kept B.inv hoL (fun ps q=>by rw [q] at hdL; cases hdL),hdL,hrL⟩
 refine spliced_cons (Attribute_name (wpAny_Name (wpAny_loadName_local rfl rfl ns₂ rfl ?_) rfl))
 refine wpAny_bind (wpAny_mkText (room_size (s:={ s₂ with toks:=s₂.toks + 1 }) G.inv.K r₂ (spliced_nil ?_)))
 obtain ⟨fp,wr,gi,St,W,hst,hT,hgf,hfp,hwr⟩:=G.walk
 have W₁:=W.of_in1.of_in1.of_in1
 have st₁:St 0 { s₂ with toks:=s₂.toks + 1 }:=W.frame 0 s₂ s₂.heap _ hst (le_succ _) fun b _ o e=>e
 refine call_sum_start (W₁.self 0 _ _ _ st₁ ⟨g,fp,wr,_,_,_,St,lenAt its,rfl,W₁,st₁,hfp,fun i v h=>h,fun s' t' hm=>?_⟩)
 obtain ⟨I',X'⟩:=gen_after (s₂':={ s₂ with toks:=s₂.toks + 1 }) B.inv G.inv X₂ hwr (fun b o e=>e) rfl rfl rfl hm
 have:=hQ s' t' I' ((Ext.of_keep B.keep).trans X')
 rw [← preSum_len,hi.1] at this
 exact this
theorem txt_join (sep:PStr) (l:List PStr):Txt.join sep l=PySem.Str.join sep l:=by
 have:=join_plain_closes sep l
 simpa using this
theorem join_len:∀ l:List PStr,(PySem.Str.join (ofString "") l).length=(l.map (·.length)).sum
 | []=>rfl
 | [x]=>by simp [PySem.Str.join]
 | x :: y :: r=>by
  rw [PySem.Str.join,zL8,zL8,join_len (y :: r)]
  have:(ofString "").length=0:=rfl
  ·rw [this]; simp only [map_cons,sum_cons]; lia
  ·intro h; cases h
theorem mem_le_sum {x:Nat}:∀ {l:List Nat},x∈l→x≤l.sum
 | y :: r,h=>by
  rw [sum_cons]
  rcases mem_cons.mp h with rfl | h
  ·lia
  ·have:=mem_le_sum h; lia
noncomputable def catP (p:PStr × PStr):PStr:=PySem.Str.join (ofString "") [p.1,p.2]
noncomputable def catS (its:List (PStr × PStr)):PStr:=PySem.Str.join (ofString "") (its.map catP)
theorem catP_len (p:PStr × PStr):(catP p).length=p.1.length + p.2.length:=by unfold catP; rw [join_len]; simp
theorem gv_empty:∃ t,GV (ofString "EMPTYSTRING") (.str (ofString "") t):=⟨_,.g ⟨fun P=>rfl,by decide +kernel⟩⟩
theorem items_strs {P:Nat→Value→Prop} {its:List (PStr × PStr)} {l:List (PStr × Tok)} {n:Nat} (hn:its.length=n) (hP:∀ j v,P j v→∃ u,v = .str (catP (its.getD j default)) u) (h:ItemsOf P (strValues l).toArray n):l.map (·.1)=its.map catP:=by
 have hl:(strValues l).length=l.length:=by unfold strValues; simp
 have h1:l.length=n:=by have:=h.1; simp only [List.size_toArray] at this; lia
 apply List.ext_getElem?
 intro j
 by_cases hj:j < n
 ·have e1:(strValues l).toArray[j]? = some (.str (l[j]'(by lia)).1 (l[j]'(by lia)).2):=by
   unfold strValues
   simp [getElem?_eq_getElem (show j < l.length by lia)]
  obtain ⟨u,hu⟩:=hP _ _ (h.2 j _ e1)
  injection hu with hu _
  rw [getElem?_map,getElem?_map,getElem?_eq_getElem (show j < l.length by lia),getElem?_eq_getElem (show j < its.length by lia)]
  simp only [map_some,Option.some.injEq]
  rw [hu,getD_eq_getElem?_getD,getElem?_eq_getElem (show j < its.length by lia)]
  rfl
 ·rw [List.getElem?_eq_none (by simp; lia),List.getElem?_eq_none (by simp; lia)]
theorem f_str {k:Nat} {C:Cx} {A:Around} {s:Shared} {a dx:Addr} {vs:Array Value} {n:Nat} {start:Int} {kk tt:Tok} {its:List (PStr × PStr)} {Q:Value→Shared→Prop} (R:Room (k + 2) A) (I:Inv C s) (r:RoomAt C.w s.heap a dx vs n start kk tt) (hi:ItemsAt s.heap vs its)
  (hsz:(its.map fun p=>p.1.length + p.2.length).sum≤1000000) (hn:its.length≤1000) (hQ:∀ s' u,Inv C s'→Ext s s'→Q (.str (catS its) u) s'):WP C A (call (.ref 74) [.ref a]) Q s:=by
 refine enter_rawE (k:=k + 1) (xs:=[ofString "self"]) ⟨fun P=>⟨_,rfl,rfl⟩,rfl,rfl,rfl,rfl,rfl,fun P=>⟨_,_,_,_,rfl,rfl,rfl,rfl⟩,rfl,rfl,rfl⟩ ?hx R I ?hb fun s₁ R' B=>?_
 case hx=>intro x hx; simp only [mem_cons,not_mem_nil,or_false] at hx; subst hx; rfl
 case hb=>exact Looks.of_pure rfl
 have r₁:=r.keeps B.keep
 have hi₁:ItemsAt s₁.heap vs its:=ItemsAt.keeps I (.of_keep B.keep) hi
 obtain ⟨Ts,ta,tb,hit,htup⟩:=hi₁.split
 obtain ⟨te,gve⟩:=gv_empty
 have each:∀ p∈its,p.1.length + p.2.length≤1000000:=fun p hp=>by
  have:p.1.length + p.2.length≤(its.map fun p=>p.1.length + p.2.length).sum:=mem_le_sum (List.mem_map_of_mem (f:=fun p:PStr × PStr=>p.1.length + p.2.length) hp)
  lia
 refine wpAny_execs_cons (wpAny_Return_some ?_)
 refine wpAny_Call_method_lateS rfl (few_ok rfl rfl _) rfl (glob_b rfl rfl rfl rfl B.inv.K B.inv.g B.inv.b gve ?_)
 refine ⟨"str","str.join",PySem.F.plainAttrs_str,m_join.slot,m_join.ty,typeIs_str _ _ _,(fun _ e=>nomatch e),?_⟩
 refine callWith_builtin (zC1 (zD2 rfl)) (evalArgs_plain (spliced_cons ?_))
 refine gen_room (F:=fun j y=>∃ t,y = .str (catP (its.getD j default)) t) tc69 rfl rfl R'.handled R'.dep B r₁ rfl rfl rfl rfl rfl ?hclos ?hcell rfl rfl rfl (by decide +kernel) rfl rfl Ts _ hit htup (fun j=>⟨_,_,rfl⟩) ?helt fun g s₂ G=>spliced_nil ?_
 case hclos=>rfl
 case hcell=>decide
 case helt =>
  intro A' E' i va vb s₂ m₂ L code hA hilt hv hn ha hb X₂ G₂ B₂
  have hv':va = .str (its.getD i default).1 (ta i)∧vb = .str (its.getD i default).2 (tb i):=by
   have:=congrArg Array.toList hv
   simp only [List.cons.injEq,and_true] at this
   exact ⟨this.1.symm,this.2.symm⟩
  obtain ⟨rfl,rfl⟩:=hv'
  have hmem:its.getD i default∈its:=by
   have:i < its.length:=by rw [hi.1]; exact hilt
   rw [getD_eq_getElem?_getD,getElem?_eq_getElem this]; simp
  have z:=each _ hmem
  refine wpAny_Call_method_lateS rfl (few_ok rfl rfl _) rfl (glob_b rfl rfl rfl rfl X₂ G₂ B₂ gve ?_)
  refine ⟨"str","str.join",PySem.F.plainAttrs_str,m_join.slot,m_join.ty,typeIs_str _ _ _,(fun _ e=>nomatch e),?_⟩
  refine callWith_builtin (zC1 (zD2 rfl)) (evalArgs_plain (spliced_cons (PyProof.Rows.Tuple_ (k:=0) ?_)))
  refine spliced_cons (wpAny_Name (wpAny_loadName_local rfl rfl hn ha (spliced_cons (wpAny_Name (wpAny_loadName_local rfl rfl hn hb (spliced_nil ?_)) rfl))) rfl)
  refine wpAny_newObj_type (spliced_nil ?_) (by show 2≤sizeLine; exact zA6 (by lia))
  refine join_tuple (items:=[Value.str (its.getD i default).1 (ta i),.str (its.getD i default).2 (tb i)].toArray) (ys:=[(its.getD i default).1,(its.getD i default).2]) ⟨_,get?_push_size _ rfl,rfl,0,rfl⟩ (.cons _ _ (.cons _ _ .nil)) ?_ fun t' k=>⟨⟨t',by unfold catP; rw [txt_join]⟩,_,k,rfl,fun b o e=>get?_push_of_some _ e⟩
  simp only [map_cons,List.map_nil,sum_cons,List.sum_nil,length_cons,length_nil]
  have:(ofString "").length=0:=rfl
  rw [this]; lia
 obtain ⟨fp,wr,gi,St,W,hst,hT,hgf,hfp,hwr⟩:=G.walk
 refine SC.joinGen W.of_in1.of_in1 hT hst hfp hgf (fun i v h=>?_) (fun s' l hm hl=>?_) ?_
 ·obtain ⟨u,rfl⟩:=h; exact ⟨_,u,rfl⟩
 ·have e:=items_strs hi.1 (fun j v h=>h) hl
  rw [e]
  refine ⟨joinOk_of ?_,fun t' k=>?_⟩
  ·have e1:((its.map catP).map (·.length)).sum=(its.map fun p=>p.1.length + p.2.length).sum:=by
    rw [map_map]; congr 1; exact List.map_congr_left fun p _=>catP_len p
   have:(ofString "").length=0:=rfl
   rw [e1,this]; lia
  ·obtain ⟨I',X'⟩:=gen_after B.inv G.inv G.ext hwr (fun b o e=>e) rfl rfl rfl hm
   rw [txt_join]
   exact hQ { s' with toks:=k } t' (I'.toks k) (((Ext.of_keep B.keep).trans X').trans (.of_keep fun b o e=>e))
 ·rw [← hi.1]; have:=zA6 (show its.length≤1000000 by lia); lia
theorem Room.in1 {k:Nat} {A:Around} (R:Room (k + 1) A):Room k A.in1:=⟨R.handled,by have:=R.depth; show A.depth + _≤_; lia,by have:=R.units; show A.units + 1 + _≤_; lia⟩
theorem call_lenR {k:Nat} {C:Cx} {A:Around} {s:Shared} {a dx:Addr} {vs:Array Value} {n:Nat} {start:Int} {kk tt:Tok} {its:List (PStr × PStr)} {Q:Value→Shared→Prop} (R:Room (k + 3) A) (I:Inv C s) (r:RoomAt C.w s.heap a dx vs n start kk tt) (hi:ItemsAt s.heap vs its)
  (hsz:(its.map fun p=>p.1.length + p.2.length).sum≤1000000) (hst:0≤start∧start≤1000000) (hQ:∀ s' u,Inv C s'→Ext s s'→Q (.int (start + lenSum its) u) s'):WP C A (call (.builtin "len") [.ref a]) Q s:=by
 have each:∀ p∈its,p.1.length + p.2.length≤1000000:=fun p hp=>by
  have:p.1.length + p.2.length≤(its.map fun p=>p.1.length + p.2.length).sum:=mem_le_sum (List.mem_map_of_mem (f:=fun p:PStr × PStr=>p.1.length + p.2.length) hp)
  lia
 have tot:lenSum its=(((its.map fun p=>p.1.length + p.2.length).sum:Nat):Int):=by
  clear hsz hi each hQ
  unfold lenSum
  induction its with
  | nil=>rfl
  | cons p r ih=>simp only [map_cons,sum_cons]; rw [ih]; push_cast; rfl
 refine Calls.call_function_entry kind_len plain_len entry_len (args_len1 _) ?_
 unfold Builtin.«len»
 refine wpAny_bind (m:=oneArg "len" _) (wpAny_pure ?_)
 refine wpAny_bind (m:=callSpecial? (.ref a) (Str.ofString "__len__")) (special_fn (f:=67) I.K r.inst rfl rfl (f_len (k:=k) R.in1 I r hi (fun p hp=>?_) fun s' u I' X'=>?_))
 ·have:=each p hp; exact ⟨zA6 (by lia),zA6 (by lia)⟩
 ·refine wpAny_bind (wpAny_holding (wpAny_pure ?_))
  refine wpAny_bind (wpAny_letGo ?_)
  show wpAny _ _ (if start + lenSum its < 0 then _ else _) _ _ _
  rw [if_neg (by lia)]
  show wpAny _ _ (if start + lenSum its ≥ 2 ^ 63 then _ else _) _ _ _
  rw [if_neg (by lia)]
  exact wpAny_bind (wpAny_mkInt (wpAny_pure ⟨_,rfl,hQ { s' with toks:=s'.toks + 1 } _ (I'.toks _) (X'.trans (.of_keep fun b o e=>e))⟩))
theorem call_strR {k:Nat} {C:Cx} {A:Around} {s:Shared} {a dx:Addr} {vs:Array Value} {n:Nat} {start:Int} {kk tt:Tok} {its:List (PStr × PStr)} {Q:Value→Shared→Prop} (R:Room (k + 4) A) (I:Inv C s) (r:RoomAt C.w s.heap a dx vs n start kk tt) (hi:ItemsAt s.heap vs its)
  (hsz:(its.map fun p=>p.1.length + p.2.length).sum≤1000000) (hn:its.length≤1000) (hQ:∀ s' u,Inv C s'→Ext s s'→Q (.str (catS its) u) s'):WP C A (call (.type "str") [.ref a]) Q s:=by
 refine callType_codes (Q₁:=fun v s'=>∃ u,v = .str (catS its) u∧Q v s') F.called_str (F.typeCall_str_1 _) F.entry_object_init (codeAny_call_builtin F.called_str.plain F.entry_str_new (wpAny_of_eq (F.newCall_str_1 _) ?_)) fun obj s₁ h₁=>?_
 ·rw [str_new_tree]
  refine wpAny_bind (wpAny_pure ?_)
  refine wpAny_bind (wpAny_of_eq isSubtype_str_str ?_)
  refine wpAny_bind ?_
  unfold Builtin.Str.strOf
  show wpAny _ _ (cRoomFor "str" [.ref a] >>= _) _ _ _
  refine wpAny_bind (wpAny_cRoomFor (by have:=R.units; show A.units + 1 + 1 < 9900; lia) ?_)
  refine wpAny_bind (m:=callSpecial? (.ref a) (Str.ofString "__str__")) (special_fn (f:=74) I.K r.inst rfl rfl (f_str (k:=k) R.in1.in1 I r hi hsz hn fun s' u I' X'=>?_))
  exact wpAny_pure (wpAny_pure ⟨u,rfl,hQ s' u I' X'⟩)
 ·obtain ⟨u,rfl,hq⟩:=h₁
  exact ⟨typeIs_str _ _ _,F.args_object_init_2 _ _,object_init_meets F.called_str.init.lookup F.called_str.made (by decide) _ _ _ _ _ ⟨typeIs_str _ _ _,rfl,hq⟩⟩
noncomputable def tupSS (p:PStr × PStr):PV:=.tup [.str p.1,.str p.2]
theorem pick_rest (vs:Array Value) (i:Nat) (h:i≤vs.size):(slicePick vs (some (i:Int)) none none).toList=vs.toList.drop i:=by
 have hb:sliceBounds (some (i:Int)) none none vs.size=((i:Int),(vs.size:Int),1):=by
  have hi':¬ ((i:Int) < 0):=by lia
  unfold sliceBounds
  simp [hi']
  lia
 rw [kmk_pick_nat vs hb]
 rw [List.take_of_length_le (by simp)]
theorem pick_every (vs:Array Value):(slicePick vs none none none).toList=vs.toList:=by
 have hb:sliceBounds none none none vs.size=(((0:Nat):Int),(vs.size:Int),1):=by
  unfold sliceBounds
  simp
 rw [kmk_pick_nat vs hb]
 rw [List.take_of_length_le (by simp)]
 simp
theorem rep_tupSS {w:World} {F:Fz} {h:Heap} (hs:F.sub h) {p:PStr × PStr} {v:Value} (r:Rep w F (tupSS p) v):∃ T t u,v = .ref T∧h.IsTuple T #[.str p.1 t,.str p.2 u]:=by
 unfold tupSS Rep at r
 obtain ⟨T,vs,n,rfl,f,l⟩:=r
 obtain ⟨v1,v2,e,r1,r2⟩:=two l
 obtain ⟨t,rfl⟩:=zB6 r1
 obtain ⟨u,rfl⟩:=zB6 r2
 have:vs = #[.str p.1 t,.str p.2 u]:=by
  apply Array.toList_inj.mp; rw [e]
 subst this
 exact ⟨T,t,u,rfl,_,hs _ _ f,rfl,n,rfl⟩
theorem mk_tupSS {w:World} {F:Fz} {x y:PStr} {T:Addr} {t u:Tok} (f:F T=some { cls:=.type "tuple",data:=.seq #[.str x t,.str y u] }):Rep w F (tupSS (x,y)) (.ref T):=by
 unfold tupSS Rep
 exact ⟨T,_,0,rfl,f,RepL.cons zJ6 (RepL.cons zJ6 RepL.nil)⟩
structure AccAt (w:World) (F:Fz) (h:Heap) (a dx:Addr) (vs:Array Value) (n:Nat) (st:Int) (k t:Tok) (its:List (PStr × PStr)):Prop where
 room:RoomAt w h a dx vs n st k t
 items:ItemsAt h vs its
 fd:F dx=some (roomDict w st k t)
 fa:F a=none
 rep:RepL w F (its.map tupSS) vs.toList
 size:vs.size=its.length
theorem acc_at {w:World} {F:Fz} {h:Heap} {a:Addr} {st:Int} {its:List (PStr × PStr)} (hs:F.sub h) (r:AccRep w F h a st its):∃ dx vs n k t,AccAt w F h a dx vs n st k t its:=by
 obtain ⟨dx,vs,n,t,k,ha,hd,fa,l⟩:=r
 have hl:=l.length
 simp only [length_toList,length_map] at hl
 refine ⟨dx,vs,n,k,t,⟨ha,hs _ _ hd⟩,⟨hl.symm,fun j hj=>?_⟩,hd,fa,l,hl⟩
 have hj':j < its.length:=by lia
 obtain ⟨v,hv,rv⟩:=l.get (i:=j) (x:=tupSS (its[j])) (by rw [getElem?_map,getElem?_eq_getElem hj']; rfl)
 obtain ⟨T,t',u,rfl,ht⟩:=rep_tupSS hs rv
 refine ⟨T,t',u,by rw [← getElem?_toList]; exact hv,?_⟩
 rw [getD_eq_getElem?_getD,getElem?_eq_getElem hj']
 exact ht
noncomputable def szOK (its:List (PStr × PStr)) (st:Int):Bool:=decide ((its.map fun p=>p.1.length + p.2.length).sum≤1000000) && decide (its.length≤900) && decide (0≤st) && decide (st≤1000000)
theorem szOK_of {its:List (PStr × PStr)} {st:Int} (h:szOK its st=true):(its.map fun p=>p.1.length + p.2.length).sum≤1000000∧its.length≤900∧0≤st∧st≤1000000:=by
 unfold szOK at h
 simp only [and_eq_true,decide_eq_true_eq] at h
 exact ⟨h.1.1.1,h.1.1.2,h.1.2,h.2⟩
noncomputable def cAcc (x:PStr) (g:Int→List (PStr × PStr)→PV):Lc→Option PV:=fun l=>match look l x with
 | some (.acc st its)=>if szOK its st=true then some (g st its) else none
 | _=>none
theorem zO1 {x:PStr} {g:Int→List (PStr × PStr)→PV} {l:Lc} {p:PV} (h:cAcc x g l=some p):∃ st its,look l x=some (.acc st its)∧szOK its st=true∧p=g st its:=by
 unfold cAcc at h
 split at h
 ·split at h
  ·rename_i e z; obtain rfl:=Option.some.inj h; exact ⟨_,_,e,z,rfl⟩
  ·exact no h
 ·exact no h
theorem post_of {C:Cx} {F:Fz} {s s':Shared} {p:PV} {v:Value} (I':Inv C s') (X':Ext s s') (r:∀ G:Fz,Rep C.w G p v):Post C F s p v s':=⟨X',I',r _⟩
theorem e_lenR {k:Nat} {sc:Scope} {x:PStr} {np xp pos:Pos} (hl:sc.names.lookup (ofString "len")=some .globalImplicit) (hx:sc.names.lookup x=some .local ∨ sc.names.lookup x=some .cell) (hd:(x == ("__debug__":PySem.Str))=false) (hst:Stars [Expr.Name x xp]) :
  SoundE (k + 4) sc (.Call (.Name (ofString "len") np) [.Name x xp] [] pos) (cAcc x fun st its=>.int (st + lenSum its)):=by
 intro C A env F l s p R S h
 obtain ⟨st,its,hl',hz,rfl⟩:=zO1 h
 obtain ⟨z1,z2,z3,z4⟩:=szOK_of hz
 obtain ⟨v,b,r⟩:=S.loc x _ hl' (by rw [S.ok.kindOf]; exact hx)
 obtain ⟨a,rfl,r⟩:=r
 obtain ⟨dx,vs,n,kk,t,X⟩:=acc_at S.sub r
 show WP C A (do callWith pos (← eval (.Name _ np) env) [] (backTo pos (starEach [.Name x xp] env)) (backToKw pos (keywordEach [] env))) _ s
 refine wpAny_bind (zC6 S.ok S.inv gv_len hl ?_)
 rw [hst env]
 refine callWith_builtin1 (wpAny_Name (zG1 S.ok hx b ?_) hd)
 exact call_lenR (k:=k + 1) R S.inv X.room X.items z1 ⟨z3,z4⟩ fun s' u I' X'=>post_of I' X' fun G=>by unfold Rep; exact ⟨u,rfl⟩
theorem e_strR {k:Nat} {sc:Scope} {x:PStr} {np xp pos:Pos} (hl:sc.names.lookup (ofString "str")=some .globalImplicit) (hx:sc.names.lookup x=some .local ∨ sc.names.lookup x=some .cell) (hd:(x == ("__debug__":PySem.Str))=false) (hst:Stars [Expr.Name x xp]) :
  SoundE (k + 4) sc (.Call (.Name (ofString "str") np) [.Name x xp] [] pos) (cAcc x fun st its=>.str (catS its)):=by
 intro C A env F l s p R S h
 obtain ⟨st,its,hl',hz,rfl⟩:=zO1 h
 obtain ⟨z1,z2,z3,z4⟩:=szOK_of hz
 obtain ⟨v,b,r⟩:=S.loc x _ hl' (by rw [S.ok.kindOf]; exact hx)
 obtain ⟨a,rfl,r⟩:=r
 obtain ⟨dx,vs,n,kk,t,X⟩:=acc_at S.sub r
 show WP C A (do callWith pos (← eval (.Name _ np) env) [] (backTo pos (starEach [.Name x xp] env)) (backToKw pos (keywordEach [] env))) _ s
 refine wpAny_bind (zC6 S.ok S.inv gv_strT hl ?_)
 rw [hst env]
 refine callWith_type1 (wpAny_Name (zG1 S.ok hx b ?_) hd)
 exact call_strR (k:=k) R S.inv X.room X.items z1 (by lia) fun s' u I' X'=>post_of I' X' fun G=>zJ6
theorem e_sliceR {k:Nat} {sc:Scope} {x:PStr} {xp sp pos:Pos} (hx:sc.names.lookup x=some .local ∨ sc.names.lookup x=some .cell) (hd:(x == ("__debug__":PySem.Str))=false)
  (hsub:∀ a sl,subscripted (.Slice none none none sp) false a sl=operate [sl,a] (getItem a sl)) :
  SoundE k sc (.Subscript (.Name x xp) (.Slice none none none sp) pos) (cAcc x fun st its=>.list (its.map tupSS)):=by
 intro C A env F l s p R S h
 obtain ⟨st,its,hl',hz,rfl⟩:=zO1 h
 obtain ⟨z1,z2,z3,z4⟩:=szOK_of hz
 obtain ⟨v,b,r⟩:=S.loc x _ hl' (by rw [S.ok.kindOf]; exact hx)
 obtain ⟨a,rfl,r⟩:=r
 obtain ⟨dx,vs,n,kk,t,X⟩:=acc_at S.sub r
 refine PyProof.Rows.Subscript_ (wpAny_Name (zG1 S.ok hx b (wpAny_Slice ?_)) hd)
 rw [evalPart_none]
 refine wpAny_pure (wpAny_pure (wpAny_pure ?_))
 have up:∀ b o,s.heap.get? b=some o→(s.heap.push { cls:=.type "slice",data:=.fields #[.none,.none,.none] }).get? b=some o:=fun b o e=>get?_push_of_some _ e
 have I₁:Inv C { s with heap:=s.heap.push { cls:=.type "slice",data:=.fields #[.none,.none,.none] } }:=S.inv.of_keep up S.inv.gens rfl rfl
 have r₁:=X.room.keeps up
 have hvs:vs.size≤sizeLine:=by have:=zA6 (show vs.size≤1000000 by have:=X.size; lia); lia
 refine room_tail (s:={ s with heap:=s.heap.push { cls:=.type "slice",data:=.fields #[.none,.none,.none] } }) (ops:=[.ref s.heap.objs.size,.ref a]) I₁.K r₁ (hsub _ _) (zN1 (s:={ s with heap:=s.heap.push { cls:=.type "slice",data:=.fields #[.none,.none,.none] } }) I₁.K r₁ (Heap.IsSliceOf.new s.heap .none .none .none) .none .none .none (by simp) ?_ hvs)
 have X₁:Ext s { s with heap:=s.heap.push { cls:=.type "slice",data:=.fields #[.none,.none,.none] } }:=.of_keep up
 have S₁:=S.step X₁ I₁
 refine Post.lift S.inv X₁ (zJ4 I₁ S₁.sub ?_)
 rw [pick_every]
 exact RepL.mono (Fz.le_ext S.sub) X.rep
theorem e_partR {k:Nat} {sc:Scope} {x:PStr} {xp ap pos:Pos} (hx:sc.names.lookup x=some .local ∨ sc.names.lookup x=some .cell) (hd:(x == ("__debug__":PySem.Str))=false)
  (hbase:∀ env,attributeBase (.Name x xp) (ofString "part_count") env (eval (.Name x xp) env)=eval (.Name x xp) env) (hline:(ap.endLine == pos.line)=true) :
  SoundE (k + 2) sc (.Call (.Attribute (.Name x xp) (ofString "part_count") ap) [] [] pos) (cAcc x fun st its=>.int its.length):=by
 intro C A env F l s p R S h
 obtain ⟨st,its,hl',hz,rfl⟩:=zO1 h
 obtain ⟨z1,z2,z3,z4⟩:=szOK_of hz
 obtain ⟨v,b,r⟩:=S.loc x _ hl' (by rw [S.ok.kindOf]; exact hx)
 obtain ⟨a,rfl,r⟩:=r
 obtain ⟨dx,vs,n,kk,t,X⟩:=acc_at S.sub r
 refine zO0 (hbase env) rfl hline (wpAny_Name (zG1 S.ok hx b fun pl=>?_) hd)
 refine m_room (f:=.ref 97) (tf:=.type "function") S.inv.K X.room rfl rfl (by decide +kernel) rfl ?_
 obtain ⟨o,fd,ho,hdt⟩:=(show IsFn 97 from fun P=>⟨_,_,rfl,rfl⟩) C.w.params
 refine callWith_function (o:=o) (fd:=fd) ?_
 refine wpAny_of_eq (a:=⟨[],[]⟩) rfl ⟨⟨S.inv.K _ _ ho,hdt⟩,?_⟩
 refine f_partcount (k:=k) R S.inv X.room fun h' tk u keep=>?_
 rw [X.size]
 exact post_of (S.inv.of_keep keep S.inv.gens rfl rfl) (.of_keep keep) fun G=>by unfold Rep; exact ⟨u,rfl⟩
theorem callWith_room {C:Cx} {A:Around} {pos:Pos} {args:List (Bool × Sem Value)} {s:Shared} {Q:Value→Shared→Prop} (hst:args.any (·.1)=false)
  (h:WP C A (evalArgs (.ref 100) true args []) (fun x s₁=>Inv C s₁∧WP C A (call (.ref 100) x.pos x.kw) Q s₁) s):WP C A (callWith pos (.ref 100) [] args []) Q s:=by
 unfold callWith
 refine wpAny_bind (wpAny_holding (wpAny_mono h (fun x s₁ h₁=>wpAny_bind (wpAny_standAt ?_)) fun _ _ x=>x))
 obtain ⟨I,hc⟩:=h₁
 obtain ⟨⟨oc,od,cd,sl,hC,_⟩,_,_,_,_,hcall,_⟩:=makesL (M:=model PG C.w) I.K
 simp -iota only [hst,List.any_nil,Bool.or_false]
 refine wpAny_bind (m:=keeperOf (.ref 100)) ?_
 unfold keeperOf
 refine wpAny_bind (wpAny_load hC ?_)
 refine wpAny_bind (hcall.here ?_)
 refine wpAny_pure ?_
 exact wpAny_bind (wpAny_mono hc (fun r s₂ hr=>wpAny_bind (wpAny_holding (wpAny_point (wpAny_pure hr)))) fun _ _ x=>x)
theorem gv_Accumulator:GV (ofString "_Accumulator") (.ref 100):=.g ⟨fun P=>rfl,by decide +kernel⟩
noncomputable def cRoom (x:PStr) (f:Lc→Option PV):Lc→Option Out:=fun l=>(f l).bind fun p=>match p with | .int i=>some (.go ((x,.acc i []) :: l)) | _=>none
theorem st_room {k:Nat} {sc:Scope} {x:PStr} {xp np cp pos:Pos} {e:Expr} {f:Lc→Option PV} (hl:sc.names.lookup (ofString "_Accumulator")=some .globalImplicit) (hx:sc.names.lookup x=some .local ∨ sc.names.lookup x=some .cell) (H:SoundE (k + 4) sc e f) (hst:Stars [e])
  (hsw:∀ env,env.scope=sc→swapsWith (.Call (.Name (ofString "_Accumulator") np) [e] [] cp) (some (.Name x xp)) pos.line env=pure false):SoundS (k + 4) sc (.Assign [.Name x xp] (.Call (.Name (ofString "_Accumulator") np) [e] [] cp) pos) (cRoom x f):=by
 intro C A env s₀ F₀ F K l s o R S h
 unfold cRoom at h
 obtain ⟨p,hp,h⟩:=bind_eq_some_iff.mp h
 split at h
 ·rename_i i
  cases h
  refine wpAny_Assign_Name ?_ (hsw env S.ok.scope)
  show WP C A (do callWith cp (← eval (.Name _ np) env) [] (backTo cp (starEach [e] env)) (backToKw cp (keywordEach [] env))) _ s
  refine wpAny_bind (zC6 S.ok S.inv gv_Accumulator hl ?_)
  refine callWith_room (zC1 hst) ?_
  rw [hst env]
  refine evalArgs_plain (spliced_cons ((H C A env F l s _ R S.xs hp).mono fun v s₁ P=>spliced_nil ⟨P.2,?_⟩))
  obtain ⟨t,rfl⟩:=zB9 P.3
  refine f_make (k:=k + 1) R P.2 fun h' tk a dx n kk keep r fa fd=>?_
  have I₂:Inv C { s₁ with heap:=h',toks:=tk }:=P.2.of_keep keep P.2.gens rfl rfl
  have X₂:Ext s { s₁ with heap:=h',toks:=tk }:=P.1.trans (.of_keep keep)
  have na:s.heap.get? a=none:=by
   cases q:s.heap.get? a with
   | none=>rfl
   | some o=>exact nol fa (P.1.live a (by exact lv q))
  have nd:s.heap.get? dx=none:=by
   cases q:s.heap.get? dx with
   | none=>rfl
   | some o=>exact nol fd (P.1.live dx (by exact lv q))
  have Fs:=Fz.ext_sub (F:=F) (s:=s) (Fz.sub_step S.fsub S.foff X₂)
  have FT:=Fz.offTab_ext (F:=F) (s':={ s₁ with heap:=h',toks:=tk }) S.foff S.inv
  refine own_storeL S (q:=.acc i []) (F':=fun b=>if b=a then none else F.ext s { s₁ with heap:=h',toks:=tk } b) hx X₂ I₂ na r.obj (if_pos rfl) (fun b o e=>?_) (fun b t=>?_) (fun b lv=>?_) (fun ps q=>by cases q) rfl ?_ fun s' G=>⟨rfl,G⟩
  ·have e:(if b=a then none else F.ext s { s₁ with heap:=h',toks:=tk } b)=some o:=e
   split at e
   ·exact no e
   ·exact Fs b o e
  ·show (if b=a then none else F.ext s { s₁ with heap:=h',toks:=tk } b)=none
   split
   ·rfl
   ·exact FT b t
  ·have:b≠a:=fun q=>by rw [q,na] at lv; cases lv
   show (if b=a then none else F.ext s { s₁ with heap:=h',toks:=tk } b)=F b
   rw [if_neg this]; unfold Fz.ext; rw [lv]; rfl
  ·refine ⟨a,rfl,dx,#[],n,t,kk,r.obj,?_,if_pos rfl,RepL.nil⟩
   show (if dx=a then none else F.ext s { s₁ with heap:=h',toks:=tk } dx)=_
   rw [if_neg (room_ne r)]
   exact zE7 nd r.dict
 ·exact no h
theorem FS.roomed {C:Cx} {sc:Scope} {env:Env} {s₀ s:Shared} {F₀ F K:Fz} {l:Lc} (S:FS C sc env s₀ F₀ F K l s) {x:PStr} {st:Int} {its its':List (PStr × PStr)} (hx:look l x=some (.acc st its)) {a dx:Addr} {vs vs':Array Value} {n n':Nat} {k t:Tok}
  (X:AccAt C.w F s.heap a dx vs n st k t its) (bd:Bd env s.heap x (.ref a)) {h':Heap} {tk:Nat} (keep:∀ b o,b≠a→s.heap.get? b=some o→h'.get? b=some o) (ha:h'.get? a=some (roomObj dx vs' n'))
  (hr:∀ G:Fz,F.le G→(∀ b o,s.heap.get? b=none→h'.get? b=some o→G b=some o)→RepL C.w G (its'.map tupSS) vs'.toList) :
  ∃ F' K',FS C sc env s₀ F₀ F' K' ((x,.acc st its') :: l) { s with heap:=h',toks:=tk }∧Grew F K s F' K' { s with heap:=h',toks:=tk }∧F'=F.ext s { s with heap:=h',toks:=tk }:=by
 have hold:=X.room.obj
 let h₂:Heap:=h'.update a (fun _=>roomObj dx vs n)
 have e₂:h₂.get? a=some (roomObj dx vs n):=get?_update_self _ ha rfl
 have up₂:∀ b o,s.heap.get? b=some o→h₂.get? b=some o:=fun b o e=>by
  by_cases q:b=a
  ·subst q; rw [hold] at e; obtain rfl:=Option.some.inj e; exact e₂
  ·exact (get?_update_other _ _ (Ne.symm q)).trans (keep b o q e)
 have I₂:Inv C { s with heap:=h₂,toks:=tk }:=S.inv.of_keep up₂ S.inv.gens rfl rfl
 have X₂:Ext s { s with heap:=h₂,toks:=tk }:=.of_keep up₂
 obtain ⟨S₂,g₂⟩:=S.step X₂ I₂
 obtain ⟨b,bb,rb,kb,upd⟩:=S₂.owned hx rfl
 have:=bd_fn bb (bd.step S.inv X₂)
 cases this
 have hF:F.ext s { s with heap:=h₂,toks:=tk }=F.ext s { s with heap:=h',toks:=tk }:=by
  funext b
  unfold Fz.ext
  by_cases lv:(s.heap.get? b).isSome=true
  ·rw [if_pos lv,if_pos lv]
  ·rw [if_neg lv,if_neg lv]
   show h₂.get? b=h'.get? b
   refine get?_update_other _ _ ?_
   rintro rfl
   rw [hold] at lv; exact lv rfl
 have sb:SameBut a h₂ h':=by
  refine ⟨?_,fun b hb=>?_⟩
  ·exact (Heap.size_update ..).symm
  ·exact (get?_update_other _ _ (Ne.symm hb)).symm
 have AR:AccRep C.w (F.ext s { s with heap:=h₂,toks:=tk }) h' a st its':=by
  refine ⟨dx,vs',n',t,k,ha,Fz.le_ext S.fsub _ _ X.fd,?_,hr _ (Fz.le_ext S.fsub) fun b o e e'=>?_⟩
  ·unfold Fz.ext; rw [hold]; exact X.fa
  ·rw [hF]; exact zE7 e e'
 refine ⟨_,_,upd h' tk (.acc st its') sb rfl ⟨a,rfl,AR⟩,g₂.trans ⟨.refl _,fun _ _=>rfl,fun b hb=>?_⟩,hF⟩
 exact sameBut_live sb (by exact lv ha) hb
noncomputable def cPush (x:PStr) (fs:Lc→Option (List PV)):Lc→Option Out:=fun l=>match look l x with
 | some (.acc st its)=>(fs l).bind fun ps=>match ps with
  | [.str a,.str b]=>if its.length < 900 then some (.go ((x,.acc st (its ++ [(a,b)])) :: l)) else none
  | _=>none
 | _=>none
theorem st_push {k:Nat} {sc:Scope} {x:PStr} {np ap cp pos:Pos} {e:Expr} {es:List Expr} {fs:Lc→Option (List PV)} (hx:sc.names.lookup x=some .local ∨ sc.names.lookup x=some .cell) (hd:(x == ("__debug__":PySem.Str))=false) (Hs:SoundEs (k + 2) sc (e :: es) fs) (hst:Stars (e :: es))
  (hbase:∀ env,attributeBase (.Name x np) (ofString "push") env (eval (.Name x np) env)=eval (.Name x np) env) (hline:(ap.endLine == cp.line)=true)
  (hfew:∀ env,((backTo cp (starEach (e :: es) env)).all (fun x=>!x.1) && (backToKw cp (keywordEach [] env)).all (fun x=>x.1.isSome) && decide ((e :: es).length + ([]:List Keyword).length + (if ([]:List Keyword).isEmpty then 0 else 1) < 30))=true)
  (hi:∀ env,env.scope=sc→interactive env=false) :
  SoundS (k + 2) sc (.Expr (.Call (.Attribute (.Name x np) (ofString "push") ap) (e :: es) [] cp) pos) (cPush x fs):=by
 intro C A env s₀ F₀ F K l s o R S h
 unfold cPush at h
 split at h
 ·rename_i st its hl
  obtain ⟨ps,hp,h⟩:=bind_eq_some_iff.mp h
  split at h
  ·rename_i p q
   obtain ⟨hz,rfl⟩:=zG0 h
   obtain ⟨a,ba,ra,ka,_⟩:=S.owned hl rfl
   obtain ⟨_,e1,ra⟩:=ra
   cases e1
   obtain ⟨dx,vs,n,kk,t,X⟩:=acc_at S.fsub ra
   refine wpAny_Expr (zO0 (hbase env) (hfew env) hline (wpAny_Name (zG1 S.ok hx ba fun pl=>?_) hd)) (hi env S.ok.scope) (by rfl)
   refine m_room (f:=.ref 45) (tf:=.type "function") S.inv.K X.room rfl rfl (by decide +kernel) rfl ?_
   obtain ⟨o,fd,ho,hdt⟩:=(show IsFn 45 from fun P=>⟨_,_,rfl,rfl⟩) C.w.params
   refine callWith_function (o:=o) (fd:=fd) (zI6 hst Hs R S.xs hp fun us s₁ X₁ T₁ r₁=>⟨⟨T₁.inv.K _ _ ho,hdt⟩,?_⟩)
   obtain ⟨S₁,g₁⟩:=S.step X₁ T₁.inv
   obtain ⟨u,v,rfl,ru,rv⟩:=two r₁
   obtain ⟨tu,rfl⟩:=zB6 ru
   obtain ⟨tv,rfl⟩:=zB6 rv
   obtain ⟨b,bb,rb,kb,_⟩:=S₁.owned hl rfl
   have:=bd_fn bb (ba.step S.inv X₁)
   cases this
   obtain ⟨_,e1,rb⟩:=rb
   injection e1 with e1
   subst e1
   obtain ⟨dx',vs',n',kk',t',X'⟩:=acc_at S₁.fsub rb
   refine f_push (k:=k) R S₁.inv X'.room (by have:=X'.size; lia) fun h' tk T n₂ keep ha fT hT=>?_
   have hr:∀ G:Fz,(F.ext s s₁).le G→(∀ b o,s₁.heap.get? b=none→h'.get? b=some o→G b=some o)→RepL C.w G ((its ++ [(p,q)]).map tupSS) (vs'.push (.ref T)).toList:=fun G hG hn=>by
    rw [map_append,Array.toList_push]
    exact (RepL.mono hG X'.rep).append (RepL.cons (mk_tupSS (hn T _ fT hT)) RepL.nil)
   obtain ⟨F',K',S',g',hF⟩:=S₁.roomed (its':=its ++ [(p,q)]) (tk:=tk) hl X' bb keep ha hr
   exact ⟨rfl,F',K',S',g₁.trans g'⟩
  ·exact no h
 ·exact no h
theorem RepL.takeN {w:World} {F:Fz}:∀ {xs:List PV} {vs:List Value} (i:Nat),RepL w F xs vs→RepL w F (xs.take i) (vs.take i)
 | _,_,0,_=>by simp only [List.take_zero]; exact RepL.nil
 | [],_,i + 1,h=>by unfold RepL at h; subst h; exact RepL.nil
 | x :: xs,_,i + 1,h=>by
  unfold RepL at h
  obtain ⟨u,t,rfl,a,h⟩:=h
  exact RepL.cons a (RepL.takeN i h)
theorem RepL.dropN {w:World} {F:Fz}:∀ {xs:List PV} {vs:List Value} (i:Nat),RepL w F xs vs→RepL w F (xs.drop i) (vs.drop i)
 | _,_,0,h=>h
 | [],_,i + 1,h=>by unfold RepL at h; subst h; exact RepL.nil
 | x :: xs,_,i + 1,h=>by
  unfold RepL at h
  obtain ⟨u,t,rfl,a,h⟩:=h
  exact RepL.dropN i h
noncomputable def cPop (y x:PStr) (f:Lc→Option PV):Lc→Option Out:=fun l=>match look l x with
 | some (.acc st its)=>(f l).bind fun p=>match p with
  | .int i=>if 0≤i∧i≤its.length∧its.length≤900 then some (.go ((y,.fz (.list ((its.drop i.toNat).map tupSS))) :: (x,.acc st (its.take i.toNat)) :: l)) else none
  | _=>none
 | _=>none
theorem st_pop {k:Nat} {sc:Scope} {x y:PStr} {xp yp ap cp pos:Pos} {e:Expr} {f:Lc→Option PV} (hx:sc.names.lookup x=some .local ∨ sc.names.lookup x=some .cell) (hy:sc.names.lookup y=some .local ∨ sc.names.lookup y=some .cell) (hd:(x == ("__debug__":PySem.Str))=false) (H:SoundE (k + 2) sc e f) (hst:Stars [e])
  (hbase:∀ env,attributeBase (.Name x xp) (ofString "pop_from") env (eval (.Name x xp) env)=eval (.Name x xp) env) (hline:(ap.endLine == cp.line)=true)
  (hfew:∀ env,((backTo cp (starEach [e] env)).all (fun x=>!x.1) && (backToKw cp (keywordEach [] env)).all (fun x=>x.1.isSome) && decide ([e].length + ([]:List Keyword).length + (if ([]:List Keyword).isEmpty then 0 else 1) < 30))=true)
  (hsw:∀ env,env.scope=sc→swapsWith (.Call (.Attribute (.Name x xp) (ofString "pop_from") ap) [e] [] cp) (some (.Name y yp)) pos.line env=pure false) :
  SoundS (k + 2) sc (.Assign [.Name y yp] (.Call (.Attribute (.Name x xp) (ofString "pop_from") ap) [e] [] cp) pos) (cPop y x f):=by
 intro C A env s₀ F₀ F K l s o R S h
 unfold cPop at h
 split at h
 ·rename_i st its hl
  obtain ⟨p,hp,h⟩:=bind_eq_some_iff.mp h
  split at h
  ·rename_i i
   obtain ⟨hz,rfl⟩:=zG0 h
   obtain ⟨a,ba,ra,ka,_⟩:=S.owned hl rfl
   obtain ⟨_,e1,ra⟩:=ra
   cases e1
   obtain ⟨dx,vs,n,kk,t,X⟩:=acc_at S.fsub ra
   refine wpAny_Assign_Name (zO0 (hbase env) (hfew env) hline (wpAny_Name (zG1 S.ok hx ba fun pl=>?_) hd)) (hsw env S.ok.scope)
   refine m_room (f:=.ref 53) (tf:=.type "function") S.inv.K X.room rfl rfl (by decide +kernel) rfl ?_
   obtain ⟨o,fd,ho,hdt⟩:=(show IsFn 53 from fun P=>⟨_,_,rfl,rfl⟩) C.w.params
   refine callWith_function (o:=o) (fd:=fd) ?_
   rw [hst env]
   refine evalArgs_plain (spliced_cons ((H C A env F l s _ R S.xs hp).mono fun v s₁ P=>spliced_nil ⟨⟨P.2.K _ _ ho,hdt⟩,?_⟩))
   obtain ⟨t,rfl⟩:=zB9 P.3
   obtain ⟨S₁,g₁⟩:=S.step P.1 P.2
   obtain ⟨b,bb,rb,kb,_⟩:=S₁.owned hl rfl
   have:=bd_fn bb (ba.step S.inv P.1)
   cases this
   obtain ⟨_,e1,rb⟩:=rb
   injection e1 with e1
   subst e1
   obtain ⟨dx',vs',n',kk',t',X'⟩:=acc_at S₁.fsub rb
   have hsz:=X'.size
   refine f_popfrom (k:=k) R S₁.inv X'.room (by lia) hz.1 (by lia) fun h' tk P' n₂ m keep ha fP hP=>?_
   obtain ⟨j,rfl⟩:=Int.eq_ofNat_of_zero_le hz.1
   have hr:∀ G:Fz,(F.ext s s₁).le G→(∀ b o,s₁.heap.get? b=none→h'.get? b=some o→G b=some o)→RepL C.w G ((its.take j).map tupSS) (vs'.extract 0 j).toList:=fun G hG hn=>by
    rw [Array.toList_extract,List.map_take]
    simpa using RepL.takeN j (RepL.mono hG X'.rep)
   obtain ⟨F',K',S',g',hF⟩:=S₁.roomed (its':=its.take j) (tk:=tk) hl X' bb keep ha hr
   have rP:Rep C.w F' (.list ((its.drop j).map tupSS)) (.ref P'):=by
    unfold Rep
    refine ⟨P',_,m,rfl,by rw [hF]; exact zE7 fP hP,?_⟩
    rw [pick_rest vs' j (by lia),List.map_drop]
    exact RepL.dropN j (RepL.mono (by rw [hF]; exact Fz.le_ext S₁.fsub) X'.rep)
   exact zI3 S' hy rP fun s₃ lv S₃=>⟨rfl,_,_,S₃,g₁.trans (g'.trans ⟨.refl _,fun _ _=>rfl,lv⟩)⟩
  ·exact no h
 ·exact no h
section
variable {k:Nat} {sc:Scope} {x y:PStr} {e:Expr} {es:List Expr} {f:Lc→Option PV} {fs:Lc→Option (List PV)} {p₁ p₂ p₃ p₄ pos:Pos}
theorem w_lenR (hl:sc.names.lookup (ofString "len")=some .globalImplicit) (hx:sc.names.lookup x=some .local ∨ sc.names.lookup x=some .cell) (hd:(x == ("__debug__":PySem.Str))=false) :
  WE (k + 4) sc (.Call (.Name (ofString "len") p₁) [.Name x p₂] [] pos) (cAcc x fun st its=>.int (st + lenSum its)):=⟨e_lenR hl hx hd (zD2 rfl)⟩
theorem w_strR (hl:sc.names.lookup (ofString "str")=some .globalImplicit) (hx:sc.names.lookup x=some .local ∨ sc.names.lookup x=some .cell) (hd:(x == ("__debug__":PySem.Str))=false) :
  WE (k + 4) sc (.Call (.Name (ofString "str") p₁) [.Name x p₂] [] pos) (cAcc x fun st its=>.str (catS its)):=⟨e_strR hl hx hd (zD2 rfl)⟩
theorem w_sliceR (hx:sc.names.lookup x=some .local ∨ sc.names.lookup x=some .cell) (hd:(x == ("__debug__":PySem.Str))=false):WE k sc (.Subscript (.Name x p₁) (.Slice none none none p₂) pos) (cAcc x fun st its=>.list (its.map tupSS)):=⟨e_sliceR hx hd fun _ _=>rfl⟩
theorem w_partR (hx:sc.names.lookup x=some .local ∨ sc.names.lookup x=some .cell) (hd:(x == ("__debug__":PySem.Str))=false) (hline:(p₂.endLine == pos.line)=true) :
  WE (k + 2) sc (.Call (.Attribute (.Name x p₁) (ofString "part_count") p₂) [] [] pos) (cAcc x fun st its=>.int its.length):=⟨e_partR hx hd (fun _=>rfl) hline⟩
theorem ws_room (hl:sc.names.lookup (ofString "_Accumulator")=some .globalImplicit) (hx:sc.names.lookup x=some .local ∨ sc.names.lookup x=some .cell) (H:WE (k + 4) sc e f) (hst:notStar e=true)
  (hsw:∀ env,env.scope=sc→swapsWith (.Call (.Name (ofString "_Accumulator") p₁) [e] [] p₂) (some (.Name x p₃)) pos.line env=pure false):WS (k + 4) sc (.Assign [.Name x p₃] (.Call (.Name (ofString "_Accumulator") p₁) [e] [] p₂) pos) (cRoom x f) :=
 ⟨st_room hl hx H.h (zD2 (by rw [all_cons,hst]; rfl)) hsw⟩
theorem ws_push (hx:sc.names.lookup x=some .local ∨ sc.names.lookup x=some .cell) (hd:(x == ("__debug__":PySem.Str))=false) (Hs:WEs (k + 2) sc (e :: es) fs) (hst:(e :: es).all notStar=true) (hl:(decide ((e :: es).length + 1 < 30))=true) (hline:(p₂.endLine == p₃.line)=true) (hi:(sc.kind == .function)=true) :
  WS (k + 2) sc (.Expr (.Call (.Attribute (.Name x p₁) (ofString "push") p₂) (e :: es) [] p₃) pos) (cPush x fs):=⟨st_push hx hd Hs.h (zD2 hst) (fun _=>rfl) hline (few_ok hst hl) (int_ok hi)⟩
theorem ws_pop (hx:sc.names.lookup x=some .local ∨ sc.names.lookup x=some .cell) (hy:sc.names.lookup y=some .local ∨ sc.names.lookup y=some .cell) (hd:(x == ("__debug__":PySem.Str))=false) (H:WE (k + 2) sc e f) (hst:notStar e=true) (hline:(p₂.endLine == p₃.line)=true)
  (hsw:∀ env,env.scope=sc→swapsWith (.Call (.Attribute (.Name x p₁) (ofString "pop_from") p₂) [e] [] p₃) (some (.Name y p₄)) pos.line env=pure false) :
  WS (k + 2) sc (.Assign [.Name y p₄] (.Call (.Attribute (.Name x p₁) (ofString "pop_from") p₂) [e] [] p₃) pos) (cPop y x f):=by
 have hs1:([e]:List Expr).all notStar=true:=by rw [all_cons,hst]; rfl
 exact ⟨st_pop hx hy hd H.h (zD2 hs1) (fun _=>rfl) hline (few_ok hs1 rfl) hsw⟩
end
abbrev PS:=Nat→Nat × Nat
noncomputable def costA (f:PS):Nat→List Nat→Nat
 | _,[]=>0
 | acc,x :: r=>max (acc + (f x).1) (costA f (acc + (f x).2) r)
noncomputable def keyL (f:PS) (x:Nat):Int:=((f x).2:Int) - (f x).1
noncomputable def sumL (f:PS) (l:List Nat):Nat:=(l.map fun x=>(f x).2).sum
theorem costA_swap {f:PS} {acc x y:Nat} {r:List Nat} (h:keyL f x≤keyL f y):costA f acc (x :: y :: r)≤costA f acc (y :: x :: r):=by
 unfold keyL at h
 simp only [costA]
 rw [Nat.add_right_comm acc (f y).2 (f x).2]
 generalize costA f (acc + (f x).2 + (f y).2) r=z
 generalize (f x).1=a at h ⊢
 generalize (f y).1=b at h ⊢
 generalize (f x).2=c at h ⊢
 generalize (f y).2=d at h ⊢
 have h':c + b≤d + a:=by lia
 have k1:acc + d + a≤max (acc + b) (max (acc + d + a) z):=le_trans (Nat.le_max_left _ _) (Nat.le_max_right _ _)
 refine Nat.max_le.mpr ⟨le_trans (Nat.add_le_add_right (Nat.le_add_right _ _) _) k1,Nat.max_le.mpr ⟨le_trans ?_ k1,le_trans (Nat.le_max_right _ _) (Nat.le_max_right _ _)⟩⟩
 rw [Nat.add_assoc,Nat.add_assoc]
 exact Nat.add_le_add_left h' _
theorem costA_mono {f:PS} {l m:List Nat} (h:∀ acc,costA f acc l≤costA f acc m) (x acc:Nat):costA f acc (x :: l)≤costA f acc (x :: m):=by
 simp only [costA]
 exact Nat.max_le.mpr ⟨Nat.le_max_left _ _,le_trans (h _) (Nat.le_max_right _ _)⟩
theorem costA_front {f:PS} {x:Nat} {b:List Nat}:∀ (a:List Nat),(∀ y∈a,keyL f x≤keyL f y)→∀ acc,costA f acc (x :: (a ++ b))≤costA f acc (a ++ x :: b)
 | [],_,acc=>le_refl _
 | y :: a,h,acc=>by
  refine le_trans (costA_swap (h y (by simp))) ?_
  exact costA_mono (fun acc=>costA_front a (fun z hz=>h z (by simp [hz])) acc) y acc
theorem zM4 {f:PS}:∀ (L l:List Nat),L.Pairwise (fun a b=>keyL f a≤keyL f b)→L.Perm l→∀ acc,costA f acc L≤costA f acc l
 | [],l,_,hp,acc=>by rw [List.nil_perm.mp hp]; exact le_refl _
 | x :: R,l,hs,hp,acc=>by
  obtain ⟨a,b,rfl⟩:=List.append_of_mem (hp.subset (by simp):x∈l)
  have hR:R.Perm (a ++ b):=(List.perm_cons x).mp (hp.trans List.perm_middle)
  rw [List.pairwise_cons] at hs
  refine le_trans ?_ (costA_front a (fun y hy=>hs.1 y (hR.symm.subset (by simp [hy]))) acc)
  exact costA_mono (fun acc=>zM4 R (a ++ b) hs.2 hR acc) x acc
theorem costA_app {f:PS} {y:Nat}:∀ (l:List Nat) (acc:Nat),costA f acc (l ++ [y])=max (costA f acc l) (acc + sumL f l + (f y).1)
 | [],acc=>by
  show max (acc + (f y).1) 0=max 0 (acc + 0 + (f y).1)
  rw [Nat.max_comm]; rfl
 | x :: r,acc=>by
  show max _ (costA f (acc + (f x).2) (r ++ [y]))=max (max _ (costA f (acc + (f x).2) r)) (acc + ((f x).2 + sumL f r) + (f y).1)
  rw [costA_app r (acc + (f x).2),Nat.max_assoc,Nat.add_assoc acc]
theorem zM9 {f:PS} {l m:List Nat} (h:l.Perm m):sumL f l=sumL f m:=(h.map _).sum_nat
noncomputable def srt (f:PS) (l:List Nat):List Nat:=l.mergeSort fun a b=>decide (keyL f a≤keyL f b)
noncomputable def best (f:PS) (l:List Nat):Nat:=costA f 0 (srt f l)
theorem srt_perm (f:PS) (l:List Nat):(srt f l).Perm l:=List.mergeSort_perm _ _
theorem zO5 (f:PS) (l:List Nat):(srt f l).Pairwise (fun a b=>keyL f a≤keyL f b):=by
 have:=List.pairwise_mergeSort (le:=fun a b=>decide (keyL f a≤keyL f b)) (fun a b c=>by simp only [decide_eq_true_eq]; lia) (fun a b=>by simp only [or_eq_true,decide_eq_true_eq]; lia) l
 exact this.imp (fun h=>by simpa using h)
theorem best_le {f:PS} {l m:List Nat} (h:m.Perm l):best f l≤costA f 0 m:=zM4 _ _ (zO5 f l) ((srt_perm f l).trans h.symm) 0
theorem best_of {f:PS} {l L:List Nat} (h:L.Perm l) (hs:L.Pairwise fun a b=>keyL f a≤keyL f b):best f l=costA f 0 L :=
 Nat.le_antisymm (best_le h) (zM4 _ _ hs (h.trans (srt_perm f l).symm) 0)
theorem best_perm {f:PS} {l m:List Nat} (h:l.Perm m):best f l=best f m:=best_of ((srt_perm f m).trans h.symm) (zO5 f m)
theorem best_nil (f:PS):best f []=0:=by unfold best srt; simp [costA]
theorem best_upper {f:PS} {l r:List Nat} {i:Nat} (h:(i :: r).Perm l):best f l≤max (best f r) (sumL f r + (f i).1):=by
 have hp:(srt f r ++ [i]).Perm l:=((List.perm_append_singleton i _).trans ((srt_perm f r).cons i)).trans h
 have:=best_le (f:=f) hp
 rw [costA_app,zM9 (srt_perm f r),Nat.zero_add] at this
 exact this
theorem best_attained {f:PS} {l:List Nat} (hne:l≠[]):∃ i r,(i :: r).Perm l∧best f l=max (best f r) (sumL f r + (f i).1):=by
 have hs:srt f l≠[]:=fun e=>hne (by have:=srt_perm f l; rw [e] at this; exact List.nil_perm.mp this)
 obtain ⟨r,i,e⟩:∃ r i,srt f l=r ++ [i]:=⟨_,_,(List.dropLast_concat_getLast hs).symm⟩
 have hp:(i :: r).Perm l:=((List.perm_append_singleton i r).symm.trans (by rw [← e]; exact srt_perm f l))
 refine ⟨i,r,hp,?_⟩
 unfold best
 rw [e,costA_app,Nat.zero_add]
 have hpw:(r ++ [i]).Pairwise (fun a b=>keyL f a≤keyL f b):=by rw [← e]; exact zO5 f l
 rw [show costA f 0 r=best f r from (best_of (List.Perm.refl _) (List.pairwise_append.mp hpw).1).symm]
 rfl
noncomputable def mkS (l:List Nat):PStr:=⟨l.toArray⟩
theorem zB2 (l:List Nat):(mkS l).length=l.length:=rfl
theorem zE6 (a b:List Nat):mkS a ++ mkS b=mkS (a ++ b):=by
 show (⟨a.toArray ++ b.toArray⟩:PStr)=⟨(a ++ b).toArray⟩
 simp
theorem mkS_inj {a b:List Nat} (h:mkS a=mkS b):a=b:=by
 unfold mkS at h
 injection h with h
 simpa using h
theorem mkS_list (x:PStr):mkS x.cps.toList=x:=by cases x; rfl
theorem zC5:ofString "/" = mkS [47]:=by decide +kernel
theorem mkS_none:ofString "" = mkS []:=by decide +kernel
theorem leS_mk (a b:List Nat):leS (mkS a) (mkS b)=decide (a≤b):=rfl
theorem sub_mk (l:List Nat) (i j:Nat):Builtin.Str.strSub (mkS l) i j=mkS ((l.drop i).take (j - i)):=strSub_mk _ _ _
theorem at_one (l:List Nat) (i c:Nat):StrLaws.At (mkS l) (mkS [c]) (mkS l).length i ↔ l[i]? = some c:=by
 unfold StrLaws.At
 have e1:(mkS [c]).length=1:=rfl
 rw [e1,zB2]
 have e2:Builtin.Str.subAt (mkS l) (mkS [c]) i=decide ((l.drop i).take 1=[c]):=by
  show ((mkS l).cps.extract i (i + 1) == #[c])=_
  rw [Bool.eq_iff_iff,beq_iff_eq,decide_eq_true_eq]
  rw [← Array.toList_inj]
  simp [mkS,List.extract_eq_take_drop]
 rw [e2]
 constructor
 ·rintro ⟨h1,h2⟩
  have h2:=of_decide_eq_true h2
  rw [getElem?_eq_getElem (show i < l.length by lia)]
  have:(l.drop i).take 1=[l[i]'(by lia)]:=by
   rw [List.drop_eq_getElem_cons (show i < l.length by lia)]; rfl
  rw [this] at h2
  injection h2 with h2
  rw [h2]
 ·intro h
  obtain ⟨hi,hc⟩:=List.getElem?_eq_some_iff.mp h
  refine ⟨by lia,decide_eq_true ?_⟩
  rw [List.drop_eq_getElem_cons hi,hc]; rfl
theorem rfind_last {p q:List Nat} {c:Nat} (hq:c ∉ q):Txt.rfind (mkS (p ++ c :: q)) (mkS [c])=p.length:=by
 rcases rfind_whole (mkS (p ++ c :: q)) (mkS [c]) with ⟨_,h⟩ | ⟨i,e,h1,h2⟩
 ·exfalso
  refine h p.length ((at_one _ _ _).mpr ?_)
  simp
 ·rw [e]
  have h1:=(at_one _ _ _).mp h1
  have hp:(p ++ c :: q)[p.length]? = some c:=by simp
  rcases Nat.lt_trichotomy i p.length with q1 | q1 | q1
  ·exact absurd ((at_one _ _ _).mpr hp) (h2 _ q1)
  ·rw [q1]
  ·exfalso
   obtain ⟨k,rfl⟩:∃ k,i=p.length + 1 + k:=⟨i - p.length - 1,by lia⟩
   rw [List.getElem?_append_right (by lia)] at h1
   have:p.length + 1 + k - p.length=k + 1:=by lia
   rw [this,List.getElem?_cons_succ] at h1
   exact hq (List.mem_of_getElem? h1)
theorem pick_upto (l:List Nat) (n:Nat) (h:n≤l.length):strPick (mkS l) none (some (n:Int))=mkS (l.take n):=by
 have hi:Builtin.Str.strSliceIndices none (some (n:Int)) 1 (mkS l).length=range n:=by
  unfold Builtin.Str.strSliceIndices sliceRange
  have h1:¬ ((n:Int) < 0):=by lia
  rw [zB2]
  simp only [h1,if_false,show ((1:Int) > 0)=True by simp,if_true]
  have e:max (0:Int) (min (n:Int) (l.length:Int))=n:=by lia
  rw [e]
  have e2:(if (0:Int) < (n:Int) then ((n:Int) - 0 + 1 - 1) / 1 else 0).toNat=n:=by split <;> simp <;> lia
  simp only [e2]
  have:(fun (k:Nat)=>((0:Int) + 1 * (k:Int)).toNat)=fun k=>k:=by funext k; lia
  rw [this]; simp
 unfold strPick
 rw [hi,length_range,zB2]
 split
 ·rename_i e; rw [e,List.take_of_length_le (le_refl _)]
 ·show (⟨_⟩:PStr)=⟨_⟩
  congr 2
  show (range n).filterMap (fun i=>l.toArray[i]?)=l.take n
  have e0:(fun (i:Nat)=>l.toArray[i]?)=fun (i:Nat)=>l[i]?:=by funext i; simp
  rw [e0]
  have key:∀ (l:List Nat) (n:Nat),n≤l.length→(range n).filterMap (fun i=>l[i]?)=l.take n:=by
   intro l n hn
   induction n with
   | zero=>simp
   | succ n ih =>
    rw [range_succ,List.filterMap_append,ih (by lia),List.take_add_one]
    congr 1
  exact key l n h
theorem head_mk {p q:List Nat} (hq:47 ∉ q):headS (mkS (p ++ 47 :: q))=mkS (p ++ [47]):=by
 unfold headS
 rw [zC5,rfind_last hq]
 have:=pick_upto (p ++ 47 :: q) (p.length + 1) (by simp)
 rw [show ((p.length:Int) + 1)=((p.length + 1:Nat):Int) by push_cast; rfl,this,List.take_append,List.take_of_length_le (show p.length≤p.length + 1 by lia)]
 simp
theorem rstrip_mk {p:List Nat} (hp:p.getLast?≠some 47):Txt.rstripChars (mkS (p ++ [47])) (mkS [47])=mkS p:=by
 have hc:(mkS [47]).cps.contains=fun n=>n == 47:=by
  funext n
  show (#[47]:Array Nat).contains n=_
  rw [Bool.eq_iff_iff]
  simp
 have hlo:stripLo (mkS [47]).cps.contains false (mkS (p ++ [47]))=0:=rfl
 have hhi:stripHi (mkS [47]).cps.contains true (mkS (p ++ [47])) 0=p.length:=by
  show (mkS (p ++ [47])).length - (((p ++ [47]).drop 0).reverse.takeWhile (mkS [47]).cps.contains).length=_
  rw [hc,zB2,List.drop_zero,List.reverse_append]
  have:(p.reverse.takeWhile fun n=>n == 47)=[]:=by
   cases h:p.reverse with
   | nil=>rfl
   | cons a r =>
    rw [List.takeWhile_cons]
    have:p.getLast? = some a:=by rw [← List.head?_reverse,h]; rfl
    rw [this] at hp
    have:¬ (a == 47)=true:=fun e=>hp (by rw [beq_iff_eq.mp e])
    rw [if_neg this]
  simp [this]
 unfold Txt.rstripChars Txt.stripBy
 rw [show stripSame (mkS [47]).cps.contains false true (mkS (p ++ [47]))=false by
  unfold stripSame
  rw [hlo,hhi,zB2]
  simp]
 simp only [false_eq_true,if_false]
 unfold PySem.stripped
 rw [hlo,hhi,sub_mk]
 congr 1
 simp
structure Tr where
 up:Nat→Nat
 nm:Nat→Nat
 md:Nat→Nat
 st:Nat
structure Tr.Ok (T:Tr):Prop where
 up:∀ k,0 < k→T.up k < k
 nm:∀ k,0 < k→1≤T.nm k∧T.nm k≤3
 st:T.st < 8
 md:∀ k,T.md k < 4294967296
noncomputable def Tr.name (T:Tr) (k:Nat):List Nat:=if k=0 then [] else List.replicate (T.nm k) (96 + k)
noncomputable def fixN {α:Type} (d:α) (F:Nat→(Nat→α)→α):Nat→Nat→α
 | 0=>fun _=>d
 | n + 1=>fun k=>F k (fixN d F n)
theorem fixN_eq {α:Type} {d:α} {F:Nat→(Nat→α)→α} (m:Nat→Nat) (hF:∀ k f g,(∀ j,m j < m k→f j=g j)→F k f=F k g):∀ n n' k,m k < n→m k < n'→fixN d F n k=fixN d F n' k
 | 0,_,_,h,_=>absurd h (Nat.not_lt_zero _)
 | _ + 1,0,_,_,h=>absurd h (Nat.not_lt_zero _)
 | n + 1,n' + 1,k,h,h'=>hF k _ _ fun j hj=>fixN_eq m hF n n' j (Nat.lt_of_lt_of_le hj (Nat.le_of_lt_succ h)) (Nat.lt_of_lt_of_le hj (Nat.le_of_lt_succ h'))
theorem fixN_up {α:Type} {d e:α} {u:Nat→Nat} {c:Nat→α→α} {k:Nat} (h:0 < k∧u k < k) :
  fixN d (fun k f=>if 0 < k∧u k < k then c k (f (u k)) else e) (k + 1) k=c k (fixN d (fun k f=>if 0 < k∧u k < k then c k (f (u k)) else e) (u k + 1) (u k)) :=
 (if_pos h).trans (congrArg (c k) (fixN_eq id (fun k f g e=>by
  split
  ·exact congrArg (c k) (e _ (And.right ‹_›))
  ·rfl) _ _ _ h.2 (Nat.lt_succ_self _)))
noncomputable def Tr.txt (T:Tr) (k:Nat):List Nat:=fixN [] (fun k f=>if 0 < k∧T.up k < k then f (T.up k) ++ 47 :: T.name k else []) (k + 1) k
noncomputable def Tr.pth (T:Tr) (k:Nat):List Nat:=if k=0 then [47] else T.txt k
noncomputable def Tr.pS (T:Tr) (k:Nat):PStr:=mkS (T.pth k)
section
variable {T:Tr} (O:T.Ok)
include O
theorem Tr.Ok.txt_pos {k:Nat} (h:0 < k):T.txt k=T.txt (T.up k) ++ 47 :: T.name k:=by
 exact fixN_up (c:=fun k x=>x ++ 47 :: T.name k) ⟨h,O.up k h⟩
theorem Tr.Ok.txt_zero:T.txt 0=[]:=rfl
theorem Tr.Ok.name_len {k:Nat} (h:0 < k):(T.name k).length=T.nm k:=by unfold Tr.name; rw [if_neg (by lia),List.length_replicate]
theorem Tr.Ok.name_free {k:Nat} (h:0 < k) (hk:k < 1000):47 ∉ T.name k:=by
 unfold Tr.name; rw [if_neg (by lia)]
 intro hm
 have:=(List.mem_replicate.mp hm).2
 lia
theorem Tr.Ok.name_last {k:Nat} (h:0 < k):(T.name k).getLast? = some (96 + k):=by
 unfold Tr.name; rw [if_neg (by lia)]
 obtain ⟨n,hn⟩:∃ n,T.nm k=n + 1:=⟨T.nm k - 1,by have:=(O.nm k h).1; lia⟩
 rw [hn,List.getLast?_replicate]; simp
theorem Tr.Ok.txt_last {k:Nat} (h:0 < k):(T.txt k).getLast? = some (96 + k):=by
 rw [O.txt_pos h,List.getLast?_append]
 have:=O.name_last h
 have e:(47 :: T.name k).getLast? = some (96 + k):=by
  cases hn:T.name k with
  | nil=>rw [hn] at this; exact no this
  | cons a r=>rw [hn] at this; rw [List.getLast?_cons_cons]; exact this
 rw [e]; rfl
theorem Tr.Ok.txt_len:∀ (k:Nat),(T.txt k).length≤4 * k:=by
 intro k
 induction k using Nat.strongRecOn with
 | ind k ih =>
  rcases eq_zero_or_pos k with rfl | h
  ·rw [O.txt_zero]; simp
  ·rw [O.txt_pos h,length_append,length_cons,O.name_len h]
   have:=ih _ (O.up k h)
   have:=O.up k h
   have:=(O.nm k h).2
   lia
theorem Tr.Ok.pth_pos {k:Nat} (h:0 < k):T.pth k=T.txt k:=by unfold Tr.pth; rw [if_neg (by lia)]
theorem Tr.Ok.pth_zero:T.pth 0=[47]:=by unfold Tr.pth; rw [if_pos rfl]
theorem Tr.Ok.pth_last (k:Nat):(T.pth k).getLast? = some (if k=0 then 47 else 96 + k):=by
 rcases eq_zero_or_pos k with rfl | h
 ·rw [O.pth_zero]; rfl
 ·rw [O.pth_pos h,O.txt_last h,if_neg (by lia)]
theorem Tr.Ok.pth_inj {i j:Nat} (h:T.pth i=T.pth j):i=j:=by
 have:=O.pth_last i
 rw [h,O.pth_last j] at this
 injection this with this
 by_cases h1:i=0 <;> by_cases h2:j=0 <;> simp [h1,h2] at this <;> lia
theorem Tr.Ok.pth_len {k:Nat} (h:k < 8):(T.pth k).length≤28:=by
 rcases eq_zero_or_pos k with rfl | hp
 ·rw [O.pth_zero]; simp
 ·rw [O.pth_pos hp]; have:=O.txt_len k; lia
theorem Tr.Ok.pS_inj {i j:Nat} (h:T.pS i=T.pS j):i=j:=O.pth_inj (mkS_inj h)
theorem Tr.Ok.txt_no47 (k:Nat):(T.txt k).getLast?≠some 47 ∨ k=0:=by
 rcases eq_zero_or_pos k with rfl | h
 ·exact .inr rfl
 ·left; rw [O.txt_last h]; intro e; injection e with e; lia
theorem Tr.Ok.head_path {k:Nat} (h:0 < k) (hk:k < 8):headS (T.pS k)=mkS (T.txt (T.up k) ++ [47]):=by
 unfold Tr.pS
 rw [O.pth_pos h,O.txt_pos h]
 exact head_mk (O.name_free h (by lia))
theorem Tr.Ok.dir_path {k:Nat} (h:0 < k) (hk:k < 8):dirS (T.pS k)=T.pS (T.up k):=by
 unfold dirS
 rw [O.head_path h hk]
 dsimp only
 rcases eq_zero_or_pos (T.up k) with h0 | h0
 ·rw [h0,O.txt_zero]
  have:Txt.mul (ofString "/") ((mkS ([] ++ [47])).length:Int)=mkS [47]:=by exact congrArg _ zC5
  rw [if_neg (by rintro ⟨_,h2⟩; exact h2 this.symm)]
  unfold Tr.pS; rw [O.pth_zero]; rfl
 ·have hne:mkS (T.txt (T.up k) ++ [47])≠Txt.mul (ofString "/") ((mkS (T.txt (T.up k) ++ [47])).length:Int):=by
   intro e
   have h2:(T.txt (T.up k)).getLast? = some (96 + T.up k):=O.txt_last h0
   obtain ⟨c,hc⟩:∃ c,c∈T.txt (T.up k)∧c≠47:=by
    refine ⟨96 + T.up k,List.mem_of_getLast? h2,by lia⟩
   have hm:c∈(mkS (T.txt (T.up k) ++ [47])).cps.toList:=by simp [mkS,hc.1]
   rw [e] at hm
   have:∀ (n:Nat),∀ c∈(Txt.mul (ofString "/") (n:Int)).cps.toList,c=47:=by
    intro n c hc
    unfold Txt.mul at hc
    split at hc
    ·simp [PySem.Str.empty] at hc
    ·split at hc
     ·rw [zC5] at hc; simpa [mkS] using hc
     ·have key:∀ (m:Nat) (acc:Array Nat),(∀ c∈acc.toList,c=47)→∀ c∈((List.replicate m (ofString "/").cps).foldl (· ++ ·) acc).toList,c=47:=by
       intro m
       induction m with
       | zero=>intro acc ha c hc; exact ha c hc
       | succ m ih =>
        intro acc ha c hc
        rw [List.replicate_succ,foldl_cons] at hc
        refine ih _ (fun d hd=>?_) c hc
        rw [Array.toList_append] at hd
        rcases mem_append.mp hd with hd | hd
        ·exact ha d hd
        ·rw [zC5] at hd; simpa [mkS] using hd
      exact key _ #[] (by simp) c hc
   exact hc.2 (this _ c hm)
  rw [if_pos ⟨by rw [zB2]; simp,hne⟩,zC5,rstrip_mk (by rcases O.txt_no47 (T.up k) with q | q; exact q; lia)]
  unfold Tr.pS; rw [O.pth_pos h0]
end
theorem starts_mk (l:List Nat) (c:Nat):Txt.startswith (mkS l) (mkS [c])=decide (l.head? = some c):=by
 have h:=at_one l 0 c
 unfold StrLaws.At at h
 unfold Txt.startswith
 rw [Bool.eq_iff_iff,and_eq_true,decide_eq_true_eq,decide_eq_true_eq,List.head?_eq_getElem?]
 exact h
theorem ends_mk (l:List Nat) (c:Nat):Txt.endswith (mkS l) (mkS [c])=decide (l.getLast? = some c):=by
 have h:=at_one l (l.length - 1) c
 unfold StrLaws.At at h
 unfold Txt.endswith
 rw [Bool.eq_iff_iff,and_eq_true,decide_eq_true_eq,decide_eq_true_eq,List.getLast?_eq_getElem?]
 rw [← h]
 have e1:(mkS [c]).length=1:=rfl
 rw [e1,zB2]
 cases l with
 | nil=>simp
 | cons a r=>simp
section
variable {T:Tr} (O:T.Ok)
include O
theorem Tr.Ok.name_head {k:Nat} (h:0 < k) (hk:k < 1000):(T.name k).head?≠some 47:=fun e=>O.name_free h hk (List.mem_of_head? e)
theorem Tr.Ok.join_path {k:Nat} (h:0 < k) (hk:k < 8):joinS (T.pS (T.up k)) (mkS (T.name k))=T.pS k:=by
 unfold joinS
 rw [zC5,starts_mk,if_neg (by
  rintro (q | q)
  ·exact O.name_head h (by lia) (of_decide_eq_true q)
  ·unfold Tr.pS at q
   rw [zB2] at q
   have:=O.pth_last (T.up k)
   rw [List.length_eq_zero_iff.mp q] at this
   exact no this)]
 unfold Tr.pS
 rw [ends_mk,O.pth_pos h,O.txt_pos h]
 rcases eq_zero_or_pos (T.up k) with h0 | h0
 ·rw [h0,O.pth_zero,O.txt_zero,if_pos (by decide),zE6]
  rfl
 ·rw [O.pth_pos h0,if_neg (fun q=>by
   have q:=of_decide_eq_true q
   rw [O.txt_last h0] at q
   injection q with q; lia),zE6,zE6]
  rfl
end
noncomputable def oneF (args:List PV) (res:PV):List PV→Option PV:=open Classical in fun ps=>if ps=args then some res else none
theorem zI0 (args:List PV) (res:PV):oneF args res args=some res:=by unfold oneF; rw [if_pos rfl]
theorem zE2 {args ps:List PV} {res p:PV} (h:oneF args res ps=some p):ps=args∧p=res:=by
 unfold oneF at h
 split at h
 ·rename_i e; obtain rfl:=Option.some.inj h; exact ⟨e,rfl⟩
 ·exact no h
theorem zE4 {β:Type} {g:PV→Option Lc} {fb fe:Lc→Option Out} {k:Out→Option β} {r:β} (J:List PV→Lc→Prop) {ps:List PV} {l0:Lc}
  (h0:J [] l0) (hs:∀ pre p post l,ps=pre ++ p :: post→J pre l→∃ l',((g p).bind fun t=>fb (t ++ l))=some (.go l')∧J (pre ++ [p]) l') (he:∀ l,J ps l→((fe l).bind k)=some r) :
  ((forO g fb fe ps l0).bind k)=some r:=by
 obtain ⟨l',e,h⟩:=for_inv [] ps l0 rfl hs h0
 rw [e]; exact he l' h
noncomputable def encI (f:Nat→Int):PV:=.list ((range 8).map fun (k:Nat)=>PV.int (f k))
noncomputable def encS (f:Nat→PStr):PV:=.list ((range 8).map fun (k:Nat)=>PV.str (f k))
noncomputable def nums17:List PV:=(range 7).map fun (k:Nat)=>PV.int ((k:Int) + 1)
noncomputable def upI (T:Tr):PV:=encI fun k=>(T.up k:Int)
noncomputable def nmS (T:Tr):PV:=encS fun k=>mkS (T.name k)
theorem zG5 {lo hi st:Int} (n:Nat) (h:rngSize lo hi st=n) (hs:Builtin.Range.small lo hi st=true) (hn:n≤1000000):iterPV (.rng lo hi st)=some ((range n).map fun (i:Nat)=>PV.int (lo + (i:Int) * st)):=by
 show (if Builtin.Range.small lo hi st=true∧0≤rngSize lo hi st∧rngSize lo hi st≤1000000 then some (rngL lo hi st) else none)=_
 rw [if_pos ⟨hs,by lia,by lia⟩]
 unfold rngL
 rw [h]; rfl
theorem iter17:iterPV (.rng 1 8 1)=some nums17:=by
 rw [zG5 7 (by decide) (by decide) (by decide)]
 rfl
theorem nums17_at {pre post:List PV} {p:PV} (e:nums17=pre ++ p :: post):pre.length < 7∧p = .int ((pre.length:Int) + 1):=by
 have h:nums17[pre.length]? = (pre ++ p :: post)[pre.length]?:=by rw [e]
 rw [List.getElem?_append_right (le_refl _),Nat.sub_self,List.getElem?_cons_zero] at h
 unfold nums17 at h
 rw [getElem?_map] at h
 obtain ⟨j,hj,e2⟩:=map_eq_some_iff.mp h
 obtain ⟨h1,h2⟩:=List.getElem?_eq_some_iff.mp hj
 simp only [length_range] at h1
 simp only [List.getElem_range] at h2
 subst h2
 exact ⟨h1,e2.symm⟩
theorem zN2 {f:Nat→PV} {n i:Nat} (h:i < n) (hn:n≤1000):nth ((range n).map f) (i:Int)=some (f i):=by
 unfold nth
 have:n≤sizeLine:=zA6 (by lia)
 simp [this,h]
theorem zC0 {f:Nat→PV} {n i:Nat} {p:PV} {j:Int} (hp:p = .list ((range n).map f)) (hj:j=(i:Int)) (h:i < n) (hn:n≤1000):idxPV p (.int j)=some (f i):=by
 subst hp hj; exact zN2 h hn
theorem f_paths {k:Nat} {T:Tr} (O:T.Ok):FnSound (k + 2) 276 (oneF [upI T,nmS T] (encS T.pS)):=by
 apply fn_w [ofString "above",ofString "names"]
 case hat=>exact fun P=>⟨_,rfl,rfl⟩
 case hcode=>exact fun P=>⟨_,_,_,_,rfl,rfl,rfl,rfl⟩
 case hsc=>rfl
 case hxs=>rfl
 case hbind=>exact bind2 (fun _ _=>rfl)
 case B=>exact (zA1 (zG3 (.inl rfl) (zH0 (zA0 zE5 zA4 rfl)) (fun _ _=>rfl))
 (zA1 (zG4 (zD1 rfl rfl (zA0 zB0 (zA0 zB0 zA4 rfl) rfl)) (zF4 (.inl rfl)) (zA1 (zC8 (.inl rfl) rfl (zC9 f_join gv_join (fun P=>⟨_,_,rfl,rfl⟩) rfl rfl (zA0 (zB3 (zA9 (.inl rfl) rfl) (zB3 (zA9 (.inl rfl) rfl) (zA2 (.inl rfl) rfl) fun _ _=>rfl) fun _ _=>rfl) (zA0 (zB3 (zA9 (.inl rfl) rfl) (zA2 (.inl rfl) rfl) fun _ _=>rfl) zA4 rfl) rfl)) rfl (fun _=>rfl) rfl rfl)
 zA8) zA8 fun _ _=>rfl)
 (zA1 (zD9 (zA2 (.inl rfl) rfl))
 zA8)))
 case hφ =>
  intro ps p h
  obtain ⟨rfl,rfl⟩:=zE2 h
  refine zG6 (L:=[(ofString "names",.fz (nmS T)),(ofString "above",.fz (upI T))]) rfl ?_
  rw [zA5 (zJ5 (cl1 _ _))]
  refine seq_for (cc2 rfl rfl) rfl iter17 ?_
  refine zE4 (fun pre l=>look l (ofString "paths")=some (.ow (.list ((range (pre.length + 1)).map fun (k:Nat)=>PV.str (T.pS k))))∧look l (ofString "names")=some (.fz (nmS T))∧look l (ofString "above")=some (.fz (upI T))) ?_ ?_ ?_
  ·refine ⟨?_,rfl,rfl⟩
   show some (Loc.ow (PV.list [PV.str (ofString "/")]))=some (Loc.ow (PV.list [PV.str (T.pS 0)]))
   unfold Tr.pS
   rw [O.pth_zero,zC5]
  ·rintro pre p post l e ⟨h1,h2,h3⟩
   obtain ⟨hj,rfl⟩:=nums17_at e
   have hu:=O.up (pre.length + 1) (by lia)
   have e1:idxPV (upI T) (.int ((pre.length:Int) + 1))=some (.int (T.up (pre.length + 1))):=zC0 (f:=fun (k:Nat)=>PV.int ((T.up k:Nat):Int)) (i:=pre.length + 1) rfl rfl (by lia) (by lia)
   have e2:idxPV (nmS T) (.int ((pre.length:Int) + 1))=some (.str (mkS (T.name (pre.length + 1)))):=zC0 (f:=fun (k:Nat)=>PV.str (mkS (T.name k))) (i:=pre.length + 1) rfl rfl (by lia) (by lia)
   have e3:idxPV (.list ((range (pre.length + 1)).map fun (k:Nat)=>PV.str (T.pS k))) (.int (T.up (pre.length + 1)))=some (.str (T.pS (T.up (pre.length + 1)))):=zC0 (f:=fun (k:Nat)=>PV.str (T.pS k)) rfl rfl hu (by lia)
   have e4:join2PV [.str (T.pS (T.up (pre.length + 1))),.str (mkS (T.name (pre.length + 1)))]=some (.str (T.pS (pre.length + 1))):=by
    refine (if_pos ?_).trans (by rw [O.join_path (by lia) (by lia)])
    have a1:=O.pth_len (show T.up (pre.length + 1) < 8 by lia)
    have a2:=O.name_len (show 0 < pre.length + 1 by lia)
    have a3:=(O.nm (pre.length + 1) (by lia)).2
    unfold Tr.pS
    rw [zB2,zB2]; lia
   have z2:pre.length + 1 < sizeLine:=Nat.lt_of_lt_of_le (show pre.length + 1 < 1000 by lia) (zA6 (by lia))
   refine ⟨(ofString "paths",.ow (.list (((range (pre.length + 1)).map fun (k:Nat)=>PV.str (T.pS k)) ++ [.str (T.pS (pre.length + 1))]))) :: (ofString "k",.fz (.int ((pre.length:Int) + 1))) :: l,?_,?_,h2,h3⟩
   ·rw [bind_some,singleton_append]
    rw [zA5 (app_go (by exact h1) (bd1 (cc2 (zA7 (zK0 (by exact h1)) (zA7 (zC2 (by exact h3)) (zA3 rfl) e1) e3) (zA7 (zC2 (by exact h2)) (zA3 rfl) e2)) e4) (by rw [length_map,length_range]; lia))]
   ·rw [length_append,length_singleton,range_succ (n:=pre.length + 1),map_append]; rfl
  ·rintro l ⟨h1,h2,h3⟩
   have b1:look (freeze l) (ofString "paths")=some (.fz (encS T.pS)):=by rw [zB7,h1]; rfl
   rw [bind_some]
   exact zH9 (zA3 b1)
theorem f_texts {k:Nat} {T:Tr} (O:T.Ok):FnSound k 310 (oneF [upI T,nmS T] (encS T.pS)):=by
 apply fn_w [ofString "above",ofString "names"]
 case hat=>exact fun P=>⟨_,rfl,rfl⟩
 case hcode=>exact fun P=>⟨_,_,_,_,rfl,rfl,rfl,rfl⟩
 case hsc=>rfl
 case hxs=>rfl
 case hbind=>exact bind2 (fun _ _=>rfl)
 case B=>exact (zA1 (zG3 (.inl rfl) (zH0 (zA0 zE5 zA4 rfl)) (fun _ _=>rfl))
 (zA1 (zG4 (zD1 rfl rfl (zA0 zB0 (zA0 zB0 zA4 rfl) rfl)) (zF4 (.inl rfl)) (zA1 (zC8 (.inl rfl) rfl (zE0 (zE0 (zB3 (zA9 (.inl rfl) rfl) (zB3 (zA9 (.inl rfl) rfl) (zA2 (.inl rfl) rfl) fun _ _=>rfl) fun _ _=>rfl) zE5) (zB3 (zA9 (.inl rfl) rfl) (zA2 (.inl rfl) rfl) fun _ _=>rfl)) rfl (fun _=>rfl) rfl rfl)
 zA8) zA8 fun _ _=>rfl)
 (zA1 (zD9 (zE0 (zJ1 (zA0 zE5 zA4 rfl)) (zH8 (zA9 (.inl rfl) rfl) (zF6 zB0) zD5 zD5 _ fun _ _=>rfl)))
 zA8)))
 case hφ =>
  intro ps p h
  obtain ⟨rfl,rfl⟩:=zE2 h
  refine zG6 (L:=[(ofString "names",.fz (nmS T)),(ofString "above",.fz (upI T))]) rfl ?_
  rw [zA5 (zJ5 (cl1 _ _))]
  refine seq_for (cc2 rfl rfl) rfl iter17 ?_
  refine zE4 (fun pre l=>look l (ofString "texts")=some (.ow (.list ((range (pre.length + 1)).map fun (k:Nat)=>PV.str (mkS (T.txt k)))))∧look l (ofString "names")=some (.fz (nmS T))∧look l (ofString "above")=some (.fz (upI T))) ?_ ?_ ?_
  ·refine ⟨?_,rfl,rfl⟩
   show some (Loc.ow (PV.list [PV.str (ofString "")]))=some (Loc.ow (PV.list [PV.str (mkS (T.txt 0))]))
   rw [O.txt_zero,mkS_none]
  ·rintro pre p post l e ⟨h1,h2,h3⟩
   obtain ⟨hj,rfl⟩:=nums17_at e
   have hu:=O.up (pre.length + 1) (by lia)
   have e1:idxPV (upI T) (.int ((pre.length:Int) + 1))=some (.int (T.up (pre.length + 1))):=zC0 (f:=fun (k:Nat)=>PV.int ((T.up k:Nat):Int)) (i:=pre.length + 1) rfl rfl (by lia) (by lia)
   have e2:idxPV (nmS T) (.int ((pre.length:Int) + 1))=some (.str (mkS (T.name (pre.length + 1)))):=zC0 (f:=fun (k:Nat)=>PV.str (mkS (T.name k))) (i:=pre.length + 1) rfl rfl (by lia) (by lia)
   have e3:idxPV (.list ((range (pre.length + 1)).map fun (k:Nat)=>PV.str (mkS (T.txt k)))) (.int (T.up (pre.length + 1)))=some (.str (mkS (T.txt (T.up (pre.length + 1))))):=zC0 (f:=fun (k:Nat)=>PV.str (mkS (T.txt k))) rfl rfl hu (by lia)
   have a1:=O.txt_len (T.up (pre.length + 1))
   have a2:=O.name_len (show 0 < pre.length + 1 by lia)
   have a3:=(O.nm (pre.length + 1) (by lia)).2
   have zz:1000≤sizeLine:=zA6 (by lia)
   have e4:addPV (.str (mkS (T.txt (T.up (pre.length + 1))))) (.str (ofString "/"))=some (.str (mkS (T.txt (T.up (pre.length + 1)) ++ [47]))):=by
    (first | rw [zI9] | rw [zG9] | rw [zI8])
    rw [zC5,if_pos (by rw [zB2,zB2]; simp only [length_cons,length_nil]; lia),zE6]
   have e5:addPV (.str (mkS (T.txt (T.up (pre.length + 1)) ++ [47]))) (.str (mkS (T.name (pre.length + 1))))=some (.str (mkS (T.txt (pre.length + 1)))):=by
    (first | rw [zI9] | rw [zG9] | rw [zI8])
    rw [if_pos (by rw [zB2,zB2]; simp only [length_append,length_cons,length_nil]; lia),zE6,O.txt_pos (show 0 < pre.length + 1 by lia)]
    simp
   refine ⟨(ofString "texts",.ow (.list (((range (pre.length + 1)).map fun (k:Nat)=>PV.str (mkS (T.txt k))) ++ [.str (mkS (T.txt (pre.length + 1)))]))) :: (ofString "k",.fz (.int ((pre.length:Int) + 1))) :: l,?_,?_,h2,h3⟩
   ·rw [bind_some,singleton_append]
    rw [zA5 (app_go (by exact h1) (zA7 (zA7 (zA7 (zK0 (by exact h1)) (zA7 (zC2 (by exact h3)) (zA3 rfl) e1) e3) rfl e4) (zA7 (zC2 (by exact h2)) (zA3 rfl) e2) e5) (by rw [length_map,length_range]; lia))]
   ·rw [length_append,length_singleton,range_succ (n:=pre.length + 1),map_append]; rfl
  ·rintro l ⟨h1,h2,h3⟩
   have z8:8≤sizeLine:=zA6 (by lia)
   have e6:slicePV (PV.list ((range (nums17.length + 1)).map fun (k:Nat)=>PV.str (mkS (T.txt k)))) (some 1) none none=some (.list (((range 8).map fun (k:Nat)=>PV.str (mkS (T.txt k))).drop 1)):=by
    (first | rw [zH4] | rw [slicePV_s])
    rw [if_pos ⟨z8,by simp⟩,pick_from1 _ (by rw [length_map,length_range]; decide)]
    rfl
   have e7:addPV (.list [.str (ofString "/")]) (.list (((range 8).map fun (k:Nat)=>PV.str (mkS (T.txt k))).drop 1))=some (encS T.pS):=by
    (first | rw [zI9] | rw [zG9] | rw [zI8])
    rw [if_pos (by rw [List.length_drop,length_map,length_range]; exact z8)]
    unfold encS
    rw [show range 8=0 :: (range 7).map (· + 1) from rfl,map_cons,map_cons,List.drop_one,List.tail_cons,map_map,map_map,singleton_append,zC5]
    unfold Tr.pS
    rw [O.pth_zero]
    congr 4
   have b1:look (freeze l) (ofString "texts")=some (.fz (.list ((range (nums17.length + 1)).map fun (k:Nat)=>PV.str (mkS (T.txt k))))):=by rw [zB7,h1]; rfl
   rw [bind_some]
   exact zH9 (zA7 (cl1 _ _) (zF3 (zC2 b1) rfl rfl rfl e6) e7)
noncomputable def kindS:List Nat:=[63,112,99,63,100,63,98,63,45,63,108,63,115,63,63,63]
noncomputable def specC (j o:Nat):Nat:=if j=2 then (if o=0 then 84 else 116) else (if o=0 then 83 else 115)
noncomputable def trip (j fig bit:Nat):List Nat:=[if 3 < fig then 114 else 45,if 1 < fig % 4 then 119 else 45,if bit=1 then specC j (fig % 2) else if fig % 2=0 then 45 else 120]
noncomputable def figD (j:Nat):Nat:=8 ^ (2 - j)
noncomputable def bitD (j:Nat):Nat:=2 ^ (11 - j)
noncomputable def tripM (m j:Nat):List Nat:=trip j (m / figD j % 8) (m / bitD j % 2)
noncomputable def kindC (m:Nat):Nat:=kindS.getD (m / 4096 % 16) 0
noncomputable def rowL (m:Nat):List Nat:=kindC m :: ((range 3).flatMap (tripM m))
theorem zK5 (m:Nat):(rowL m).length=10:=rfl
noncomputable def rowPV:List PV→Option PV:=open Classical in fun ps=>if h:∃ m:Nat,ps=[.int (m:Int)] then some (.str (mkS (rowL h.choose))) else none
theorem rowPV_at (m:Nat):rowPV [.int (m:Int)]=some (.str (mkS (rowL m))):=by
 unfold rowPV
 have h:∃ n:Nat,[PV.int (m:Int)]=[.int (n:Int)]:=⟨m,rfl⟩
 rw [dif_pos h]
 have:=h.choose_spec
 injection this with this _
 injection this with this
 rw [← Int.ofNat.inj this]
theorem rowPV_some {ps:List PV} {p:PV} (h:rowPV ps=some p):∃ m:Nat,ps=[.int (m:Int)]∧p = .str (mkS (rowL m)):=by
 unfold rowPV at h
 split at h
 ·rename_i hh
  injection h with h
  exact ⟨hh.choose,hh.choose_spec,h.symm⟩
 ·exact no h
theorem mk_r:ofString "r" = mkS [114]:=by decide +kernel
theorem mk_w:ofString "w" = mkS [119]:=by decide +kernel
theorem mk_d:ofString "-" = mkS [45]:=by decide +kernel
theorem mk_dx:ofString "-x" = mkS [45,120]:=by decide +kernel
theorem mk_Ss:ofString "Ss" = mkS [83,115]:=by decide +kernel
theorem mk_Tt:ofString "Tt" = mkS [84,116]:=by decide +kernel
theorem mk_kind:ofString "?pc?d?b?-?l?s???" = mkS kindS:=by decide +kernel
theorem idx_str {l:List Nat} {i:Nat} (h:i < l.length) (hl:l.length≤1000):idxPV (.str (mkS l)) (.int (i:Int))=some (.str (mkS [l.getD i 0])):=by
 show (nth l (i:Int)).map _=_
 unfold nth
 have:l.length≤sizeLine:=zA6 (by lia)
 have h':((i:Int) < (l.length:Int)):=by lia
 simp [this,h',h]
 rfl
theorem add_str {a b:List Nat} (h:a.length + b.length≤1000000):addPV (.str (mkS a)) (.str (mkS b))=some (.str (mkS (a ++ b))):=by
 (first | rw [zI9] | rw [zG9] | rw [zI8])
 rw [if_pos (zA6 (by rw [zB2,zB2]; exact h)),zE6]
theorem div_nat {a b:Nat} (h:0 < b) (h2:b < 1000000):divPV (.int (a:Int)) (.int (b:Int))=some (.int ((a / b:Nat):Int)):=by
 rw [divPV_ii]
 rw [if_pos (by lia)]; rfl
theorem zL9 {a b:Nat} (h:0 < b):modPV (.int (a:Int)) (.int (b:Int))=some (.int ((a % b:Nat):Int)):=by
 rw [modPV_ii]
 rw [if_pos (by lia)]; rfl
theorem gt_nat (a b:Nat):gtPV (.int (a:Int)) (.int (b:Int))=some (.bool (decide (b < a))):=by
 rw [gtPV_ii]
 simp
theorem eq_nat (a b:Nat):eqPV (.int (a:Int)) (.int (b:Int))=some (.bool (decide (a=b))):=by
 (first | rw [eqPV_ii] | rw [eqPV_ss] | rw [eqPV_ll])
 congr 2
 by_cases h:a=b
 ·subst h; simp
 ·have:¬ ((a:Int)=b):=by lia
  simp [h,this]
theorem map_at {α:Type} {f:Nat→α} {n:Nat} {pre post:List α} {p:α} (e:(range n).map f=pre ++ p :: post):pre.length < n∧p=f pre.length:=by
 have h:((range n).map f)[pre.length]? = (pre ++ p :: post)[pre.length]?:=by rw [e]
 rw [List.getElem?_append_right (le_refl _),Nat.sub_self,List.getElem?_cons_zero,getElem?_map] at h
 obtain ⟨j,hj,e2⟩:=map_eq_some_iff.mp h
 obtain ⟨h1,h2⟩:=List.getElem?_eq_some_iff.mp hj
 simp only [length_range] at h1
 simp only [List.getElem_range] at h2
 subst h2
 exact ⟨h1,e2.symm⟩
theorem f_lawrow {k:Nat}:FnSound k 303 rowPV:=by
 apply fn_w [ofString "mode"]
 case hat=>exact fun P=>⟨_,rfl,rfl⟩
 case hcode=>exact fun P=>⟨_,_,_,_,rfl,rfl,rfl,rfl⟩
 case hsc=>rfl
 case hxs=>rfl
 case hbind=>exact bind1 (fun _=>rfl)
 case B=>exact (zA1 (zB8 (.inl rfl) (zB3 (zL6 zE5) (zO4 (w_div (zA2 (.inl rfl) rfl) zB0) zB0) fun _ _=>rfl) fun _=>rfl)
 (zA1 (zG4 (zD1 rfl rfl (zA0 zB0 zA4 rfl)) (zF4 (.inl rfl)) (zA1 (zB8 (.inl rfl) (zO4 (w_div (zA2 (.inl rfl) rfl) (w_pow zB0 (w_sub zB0 (zA2 (.inl rfl) rfl)))) zB0) fun _=>rfl)
 (zA1 (zB8 (.inl rfl) (zE0 (zE0 (zA2 (.inl rfl) rfl) (w_ife (wt_gt (zA2 (.inl rfl) rfl) zB0 rfl) zE5 zE5)) (w_ife (wt_gt (zO4 (zA2 (.inl rfl) rfl) zB0) zB0 rfl) zE5 zE5)) fun _=>rfl)
 (zA1 (zO3 (wt_eq (zO4 (w_div (zA2 (.inl rfl) rfl) (w_pow zB0 (w_sub zB0 (zA2 (.inl rfl) rfl)))) zB0) zB0 rfl) (zA1 (zB8 (.inl rfl) (zE0 (zA2 (.inl rfl) rfl) (zB3 (zL6 (zB3 (zL6 (zJ1 (zA0 zE5 (zA0 zE5 (zA0 zE5 zA4 rfl) rfl) rfl))) (zA2 (.inl rfl) rfl) fun _ _=>rfl)) (zO4 (zA2 (.inl rfl) rfl) zB0) fun _ _=>rfl)) fun _=>rfl)
 zA8) (zA1 (zB8 (.inl rfl) (zE0 (zA2 (.inl rfl) rfl) (zB3 (zL6 zE5) (zO4 (zA2 (.inl rfl) rfl) zB0) fun _ _=>rfl)) fun _=>rfl)
 zA8))
 zA8))) zA8 fun _ _=>rfl)
 (zA1 (zD9 (zA2 (.inl rfl) rfl))
 zA8)))
 case hφ =>
  intro ps p h
  obtain ⟨m,rfl,rfl⟩:=rowPV_some h
  have e0:divPV (.int (m:Int)) (.int 4096)=some (.int ((m / 4096:Nat):Int)):=div_nat (b:=4096) (by lia) (by lia)
  have e1:modPV (.int ((m / 4096:Nat):Int)) (.int 16)=some (.int ((m / 4096 % 16:Nat):Int)):=zL9 (b:=16) (by lia)
  have hk:m / 4096 % 16 < kindS.length:=by show _ < 16; lia
  have e2:=idx_str hk (by decide)
  refine zG6 (L:=[(ofString "mode",.fz (.int (m:Int)))]) rfl ?_
  rw [zA5 (zB4 (zA7 (congrArg (fun x=>some (PV.str x)) mk_kind) (zA7 (zA7 (zA3 rfl) rfl e0) rfl e1) e2))]
  refine seq_for (cc1 rfl) rfl (zG5 3 (by decide) (by decide) (by decide)) ?_
  refine zE4 (fun pre l=>look l (ofString "row")=some (.fz (.str (mkS (kindC m :: ((range pre.length).flatMap (tripM m))))))∧look l (ofString "mode")=some (.fz (.int (m:Int)))) ⟨?_,rfl⟩ ?_ ?_
  ·rfl
  ·rintro pre p post l e ⟨h1,h2⟩
   obtain ⟨hj,rfl⟩:=map_at e
   rw [length_append,length_singleton]
   generalize pre.length=j at hj h1 e ⊢
   clear e
   have s0:(0:Int) + (j:Int) * 1=(j:Int):=by lia
   have hb:0 < figD j∧figD j < 1000000∧0 < bitD j∧bitD j < 1000000:=by
    have:j=0 ∨ j=1 ∨ j=2:=by lia
    rcases this with rfl | rfl | rfl <;> decide
   have s1:subPV (.int 2) (.int (j:Int))=some (.int ((2 - j:Nat):Int)):=by
    rw [subPV_ii]; congr 2; lia
   have s2:powPV (.int 8) (.int ((2 - j:Nat):Int))=some (.int ((figD j:Nat):Int)):=by
    have:j=0 ∨ j=1 ∨ j=2:=by lia
    rcases this with rfl | rfl | rfl <;> rfl
   have s3:=div_nat (a:=m) hb.1 hb.2.1
   have s4:modPV (.int ((m / figD j:Nat):Int)) (.int 8)=some (.int ((m / figD j % 8:Nat):Int)):=zL9 (b:=8) (by lia)
   have t1:subPV (.int 11) (.int (j:Int))=some (.int ((11 - j:Nat):Int)):=by
    rw [subPV_ii]; congr 2; lia
   have t2:powPV (.int 2) (.int ((11 - j:Nat):Int))=some (.int ((bitD j:Nat):Int)):=by
    have:j=0 ∨ j=1 ∨ j=2:=by lia
    rcases this with rfl | rfl | rfl <;> rfl
   have t3:=div_nat (a:=m) hb.2.2.1 hb.2.2.2
   have t4:modPV (.int ((m / bitD j:Nat):Int)) (.int 2)=some (.int ((m / bitD j % 2:Nat):Int)):=zL9 (b:=2) (by lia)
   have u1:∀ f:Nat,gtPV (.int (f:Int)) (.int 3)=some (.bool (decide (3 < f))):=fun f=>gt_nat f 3
   have u2:∀ f:Nat,gtPV (.int (f:Int)) (.int 1)=some (.bool (decide (1 < f))):=fun f=>gt_nat f 1
   have u3:∀ f:Nat,modPV (.int (f:Int)) (.int 4)=some (.int ((f % 4:Nat):Int)):=fun f=>zL9 (b:=4) (by lia)
   have u4:∀ f:Nat,modPV (.int (f:Int)) (.int 2)=some (.int ((f % 2:Nat):Int)):=fun f=>zL9 (b:=2) (by lia)
   have u5:∀ f:Nat,eqPV (.int (f:Int)) (.int 1)=some (.bool (decide (f=1))):=fun f=>eq_nat f 1
   have u6:idxPV (.list [.str (mkS [83,115]),.str (mkS [83,115]),.str (mkS [84,116])]) (.int (j:Int))=some (.str (mkS (if j=2 then [84,116] else [83,115]))):=by
    have:j=0 ∨ j=1 ∨ j=2:=by lia
    have z3:3≤sizeLine:=zA6 (by lia)
    rcases this with rfl | rfl | rfl <;> (rw [idxPV_l]; simp [nth,z3])
   have u7:∀ f:Nat,idxPV (.str (mkS [45,120])) (.int ((f % 2:Nat):Int))=some (.str (mkS [if f % 2=0 then 45 else 120])):=fun f=>by
    rw [idx_str (by show f % 2 < 2; lia) (by decide)]
    have:f % 2=0 ∨ f % 2=1:=by lia
    rcases this with q | q <;> rw [q] <;> rfl
   have u8:∀ f:Nat,idxPV (.str (mkS (if j=2 then [84,116] else [83,115]))) (.int ((f % 2:Nat):Int))=some (.str (mkS [specC j (f % 2)])):=fun f=>by
    unfold specC
    by_cases hj2:j=2
    ·rw [if_pos hj2,if_pos hj2,idx_str (by show f % 2 < 2; lia) (by decide)]
     have:f % 2=0 ∨ f % 2=1:=by lia
     rcases this with q | q <;> rw [q] <;> rfl
    ·rw [if_neg hj2,if_neg hj2,idx_str (by show f % 2 < 2; lia) (by decide)]
     have:f % 2=0 ∨ f % 2=1:=by lia
     rcases this with q | q <;> rw [q] <;> rfl
   have z3:3≤sizeLine:=zA6 (by lia)
   have hlen:((range j).flatMap (tripM m)).length≤9:=by
    have:j=0 ∨ j=1 ∨ j=2:=by lia
    rcases this with rfl | rfl | rfl <;> simp [range_succ,tripM,trip]
   have hnext:kindC m :: ((range (j + 1)).flatMap (tripM m))=kindC m :: ((range j).flatMap (tripM m) ++ tripM m j):=by
    rw [range_succ,List.flatMap_append]; simp
   have a1:∀ c,addPV (.str (mkS (kindC m :: (range j).flatMap (tripM m)))) (.str (mkS [c]))=some (.str (mkS (kindC m :: ((range j).flatMap (tripM m) ++ [c])))):=fun c=>by
    rw [add_str (by simp only [length_cons,length_nil]; lia)]; rfl
   have a2:∀ b c,addPV (.str (mkS (kindC m :: ((range j).flatMap (tripM m) ++ [b])))) (.str (mkS [c]))=some (.str (mkS (kindC m :: ((range j).flatMap (tripM m) ++ [b,c])))):=fun b c=>by
    rw [add_str (by simp only [length_cons,length_nil,length_append]; lia)]; simp
   have a3:∀ a b c,addPV (.str (mkS (kindC m :: ((range j).flatMap (tripM m) ++ [a,b])))) (.str (mkS [c]))=some (.str (mkS (kindC m :: ((range j).flatMap (tripM m) ++ [a,b,c])))):=fun a b c=>by
    rw [add_str (by simp only [length_cons,length_nil,length_append]; lia)]; simp
   rw [s0]
   have et:tripM m j=[if 3 < m / figD j % 8 then 114 else 45,if 1 < m / figD j % 8 % 4 then 119 else 45,if m / bitD j % 2=1 then specC j (m / figD j % 8 % 2) else if m / figD j % 8 % 2=0 then 45 else 120]:=rfl
   refine ⟨(ofString "row",.fz (.str (mkS (kindC m :: ((range j).flatMap (tripM m) ++ tripM m j))))) :: (ofString "row",.fz (.str (mkS (kindC m :: ((range j).flatMap (tripM m) ++ [if 3 < m / figD j % 8 then 114 else 45,if 1 < m / figD j % 8 % 4 then 119 else 45]))))) ::
    (ofString "figure",.fz (.int ((m / figD j % 8:Nat):Int))) :: (ofString "k",.fz (.int (j:Int))) :: l,?_,?_,h2⟩
   ·rw [bind_some,singleton_append]
    rw [zA5 (zB4 (zA7 (zA7 (zA3 (by exact h2)) (zA7 rfl (zA7 rfl (zA3 (p:=.int (j:Int)) rfl) s1) s2) s3) rfl s4))]
    rw [zA5 (zB4 (zA7 (zA7 (zA3 (by exact h1)) (ife_str (P:=3 < m / figD j % 8) (by rw [zA7 (zA3 (p:=.int ((m / figD j % 8:Nat):Int)) rfl) rfl (u1 _)]; rfl) mk_r mk_d) (a1 _)) (ife_str (P:=1 < m / figD j % 8 % 4) (by rw [zA7 (zA7 (zA3 (p:=.int ((m / figD j % 8:Nat):Int)) rfl) rfl (u3 _)) rfl (u2 _)]; rfl) mk_w mk_d) (a2 _ _)))]
    have ht:∀ l':Lc,look l' (ofString "mode")=some (.fz (.int (m:Int)))→look l' (ofString "k")=some (.fz (.int (j:Int))) →
      (c2 eqPV (c2 modPV (c2 divPV (cV (ofString "mode")) (c2 powPV (cK (.int 2)) (c2 subPV (cK (.int 11)) (cV (ofString "k"))))) (cK (.int 2))) (cK (.int 1)) l').bind asB=some (decide (m / bitD j % 2=1)):=fun l' k1 k2=>by
     rw [zA7 (zA7 (zA7 (zA3 k1) (zA7 rfl (zA7 rfl (zA3 k2) t1) t2) t3) rfl t4) rfl (u5 _)]; rfl
    by_cases c3:m / bitD j % 2=1
    ·rw [et,if_pos c3]
     rw [zA5 (if_yes ((ht _ (by exact h2) rfl).trans (congrArg some (decide_eq_true c3))) (by
      rw [zA5 (zB4 (zA7 (zA3 (p:=.str (mkS (kindC m :: ((range j).flatMap (tripM m) ++ [if 3 < m / figD j % 8 then 114 else 45,if 1 < m / figD j % 8 % 4 then 119 else 45])))) rfl) (zA7 (zA7 (p:=.list [.str (mkS [83,115]),.str (mkS [83,115]),.str (mkS [84,116])]) (by rw [← mk_Ss,← mk_Tt]; exact zD7 rfl (by decide)) (zA3 (p:=.int (j:Int)) rfl) u6) (zA7 (zA3 (p:=.int ((m / figD j % 8:Nat):Int)) rfl) rfl (u4 _)) (u8 _)) (a3 _ _ _)))]))]
    ·rw [et,if_neg c3]
     rw [zA5 (if_no ((ht _ (by exact h2) rfl).trans (congrArg some (decide_eq_false c3))) (by
      rw [zA5 (zB4 (zA7 (zA3 (p:=.str (mkS (kindC m :: ((range j).flatMap (tripM m) ++ [if 3 < m / figD j % 8 then 114 else 45,if 1 < m / figD j % 8 % 4 then 119 else 45])))) rfl) (zA7 (congrArg (fun x=>some (PV.str x)) mk_dx) (zA7 (zA3 (p:=.int ((m / figD j % 8:Nat):Int)) rfl) rfl (u4 _)) (u7 _)) (a3 _ _ _)))]))]
   ·rw [hnext]; rfl
  ·rintro l ⟨h1,h2⟩
   rw [bind_some]
   exact zH9 (zA3 (zE3 (q:=.fz _) h1))
noncomputable def updN (R:Nat→Nat) (i v:Nat):Nat→Nat:=fun j=>if j=i then v else R j
noncomputable def Tr.stepR (T:Tr) (R:Nat→Nat) (k:Nat):Nat→Nat:=updN R (T.up k) (R (T.up k) ||| R k)
noncomputable def Tr.base (T:Tr):Nat→Nat:=fun k=>T.md k % 4096
noncomputable def Tr.foldR (T:Tr) (os:List Nat):Nat→Nat:=os.foldl T.stepR T.base
noncomputable def desc:List Nat:=[7,6,5,4,3,2,1]
structure Tr.Topo (T:Tr) (os:List Nat):Prop where
 nd:os.Nodup
 mem:∀ c,c∈os ↔ 0 < c∧c < 8
 kids:∀ pre k post,os=pre ++ k :: post→∀ c,0 < c→c < 8→T.up c=k→c∈pre
noncomputable def FixR (T:Tr) (P:List Nat) (R:Nat→Nat):Prop:=∀ j b,(R j).testBit b=true ↔ ((T.base j).testBit b=true ∨ ∃ c∈P,T.up c=j∧(R c).testBit b=true)
theorem Tr.Ok.fix_step {T:Tr} (O:T.Ok) {os pre post:List Nat} {k:Nat} (H:T.Topo os) (e:os=pre ++ k :: post) {R:Nat→Nat} (h:FixR T pre R):FixR T (pre ++ [k]) (T.stepR R k):=by
 have hk:0 < k∧k < 8:=(H.mem k).mp (by rw [e]; simp)
 have hup:=O.up k hk.1
 have hnp:∀ c∈pre ++ [k],c≠T.up k:=by
  intro c hc q
  subst q
  rcases mem_append.mp hc with hc | hc
  ·obtain ⟨a,b,hab⟩:=List.append_of_mem hc
   have h1:os=a ++ T.up k :: (b ++ k :: post):=by rw [e,hab]; simp
   have h2:=H.kids a (T.up k) (b ++ k :: post) h1 k hk.1 hk.2 rfl
   have nd:=H.nd
   rw [h1] at nd
   rw [nodup_append] at nd
   exact nd.2.2 k h2 k (by simp) rfl
  ·have:T.up k=k:=by simpa using hc
   lia
 have same:∀ c∈pre ++ [k],T.stepR R k c=R c:=fun c hc=>by unfold Tr.stepR updN; rw [if_neg (hnp c hc)]
 intro j b
 by_cases hj:j=T.up k
 ·subst hj
  have e1:T.stepR R k (T.up k)=R (T.up k) ||| R k:=by unfold Tr.stepR updN; rw [if_pos rfl]
  rw [e1,Nat.testBit_or,or_eq_true,h (T.up k) b]
  constructor
  ·rintro ((q | ⟨c,hc,hu,q⟩) | q)
   ·exact .inl q
   ·exact .inr ⟨c,List.mem_append_left _ hc,hu,by rw [same c (List.mem_append_left _ hc)]; exact q⟩
   ·exact .inr ⟨k,by simp,rfl,by rw [same k (by simp)]; exact q⟩
  ·rintro (q | ⟨c,hc,hu,q⟩)
   ·exact .inl (.inl q)
   ·rw [same c hc] at q
    rcases mem_append.mp hc with hc | hc
    ·exact .inl (.inr ⟨c,hc,hu,q⟩)
    ·have:c=k:=by simpa using hc
     subst this; exact .inr q
 ·have e1:T.stepR R k j=R j:=by unfold Tr.stepR updN; rw [if_neg hj]
  rw [e1,h j b]
  constructor
  ·rintro (q | ⟨c,hc,hu,q⟩)
   ·exact .inl q
   ·exact .inr ⟨c,List.mem_append_left _ hc,hu,by rw [same c (List.mem_append_left _ hc)]; exact q⟩
  ·rintro (q | ⟨c,hc,hu,q⟩)
   ·exact .inl q
   ·rw [same c hc] at q
    rcases mem_append.mp hc with hc | hc
    ·exact .inr ⟨c,hc,hu,q⟩
    ·have:c=k:=by simpa using hc
     subst this; exact absurd hu.symm hj
theorem Tr.Ok.fix_fold {T:Tr} (O:T.Ok) {os:List Nat} (H:T.Topo os):∀ (post pre:List Nat) (R:Nat→Nat),os=pre ++ post→FixR T pre R→FixR T os (post.foldl T.stepR R)
 | [],pre,R,e,h=>by rw [e,List.append_nil]; exact h
 | k :: post,pre,R,e,h=>by
  rw [foldl_cons]
  exact O.fix_fold H post (pre ++ [k]) _ (by rw [e]; simp) (O.fix_step H e h)
theorem Tr.Ok.fix {T:Tr} (O:T.Ok) {os:List Nat} (H:T.Topo os):FixR T os (T.foldR os):=O.fix_fold H os [] _ rfl fun j b=>by simp
theorem Tr.Ok.fold_eq {T:Tr} (O:T.Ok) {os os':List Nat} (H:T.Topo os) (H':T.Topo os') (j:Nat):T.foldR os j=T.foldR os' j:=by
 have f:=O.fix H
 have f':=O.fix H'
 have key:∀ n j,8 - j≤n→T.foldR os j=T.foldR os' j:=by
  intro n
  induction n with
  | zero =>
   intro j hj
   apply Nat.eq_of_testBit_eq
   intro b
   rw [Bool.eq_iff_iff,f j b,f' j b]
   have no:∀ c,c∈os→T.up c≠j:=fun c hc q=>by have:=(H.mem c).mp hc; have:=O.up c this.1; lia
   have no':∀ c,c∈os'→T.up c≠j:=fun c hc q=>by have:=(H'.mem c).mp hc; have:=O.up c this.1; lia
   constructor
   ·rintro (q | ⟨c,hc,hu,_⟩)
    ·exact .inl q
    ·exact absurd hu (no c hc)
   ·rintro (q | ⟨c,hc,hu,_⟩)
    ·exact .inl q
    ·exact absurd hu (no' c hc)
  | succ n ih =>
   intro j hj
   apply Nat.eq_of_testBit_eq
   intro b
   rw [Bool.eq_iff_iff,f j b,f' j b]
   constructor
   ·rintro (q | ⟨c,hc,hu,q⟩)
    ·exact .inl q
    ·have hc':=(H.mem c).mp hc
     have:=O.up c hc'.1
     exact .inr ⟨c,(H'.mem c).mpr hc',hu,by rw [← ih c (by lia)]; exact q⟩
   ·rintro (q | ⟨c,hc,hu,q⟩)
    ·exact .inl q
    ·have hc':=(H'.mem c).mp hc
     have:=O.up c hc'.1
     exact .inr ⟨c,(H.mem c).mpr hc',hu,by rw [ih c (by lia)]; exact q⟩
 exact key (8 - j) j (le_refl _)
theorem Tr.Ok.topo_desc {T:Tr} (O:T.Ok):T.Topo desc:=by
 refine ⟨by decide,fun c=>?_,fun pre k post e c h0 h1 hu=>?_⟩
 ·have h1:∀ x∈desc,0 < x∧x < 8:=by decide
  have h2:∀ x,x < 8→0 < x→x∈desc:=by decide
  exact ⟨h1 c,fun h=>h2 c h.2 h.1⟩
 ·have hl:pre.length < 7:=by have:=congrArg List.length e; simp [desc] at this; lia
  have hp:pre=desc.take pre.length:=by rw [e]; simp
  have hk:desc[pre.length]? = some k:=by rw [e]; simp
  have:=O.up c h0
  have hd:∀ i,i < 7→desc[i]? = some (7 - i):=by decide
  rw [hd _ hl] at hk
  injection hk with hk
  rw [hp,List.mem_take_iff_getElem]
  refine ⟨7 - c,by simp [desc]; lia,?_⟩
  have:=hd (7 - c) (by lia)
  obtain ⟨h2,h3⟩:=List.getElem?_eq_some_iff.mp this
  rw [h3]; lia
noncomputable def Tr.R (T:Tr):Nat→Nat:=T.foldR desc
theorem Tr.foldR_lt {T:Tr}:∀ (os:List Nat) (R:Nat→Nat),(∀ j,R j < 4096)→∀ j,os.foldl T.stepR R j < 4096
 | [],R,h,j=>h j
 | k :: os,R,h,j=>by
  rw [foldl_cons]
  refine foldR_lt os _ (fun i=>?_) j
  unfold Tr.stepR updN
  split
  ·exact Nat.or_lt_two_pow (n:=12) (h _) (h _)
  ·exact h i
theorem Tr.R_lt {T:Tr} (j:Nat):T.R j < 4096:=foldR_lt _ _ (fun j=>Nat.mod_lt _ (by lia)) j
noncomputable def Tr.left (T:Tr) (k:Nat):List Nat:=(rowL (T.md k / 4096 * 4096 + T.R k)).filter (· != 45)
theorem Tr.left_len (T:Tr) (k:Nat):(T.left k).length≤10:=by
 unfold Tr.left
 exact le_trans (List.length_filter_le _ _) (Nat.le_of_eq (zK5 _))
noncomputable def Tr.size (T:Tr) (k:Nat):Nat:=(T.left k).length + (T.pth k).length
noncomputable def lS (T:Tr) (k:Nat):PStr:=mkS (T.left k)
noncomputable def mdI (T:Tr):PV:=encI fun k=>(T.md k:Int)
noncomputable def mulIPV:PV→PV→Option PV
 | .int a,.int b=>if Builtin.Int.intBits b≤64 then some (.int (a * b)) else none
 | _,_=>none
theorem o_mulI {k:Nat}:OpOK k (binaryOp .Mult) mulIPV:=by
 intro C A F s a b p va vb R I hs ra rb h
 unfold mulIPV at h
 split at h
 ·split at h
  ·rename_i hz
   cases h
   obtain ⟨t,rfl⟩:=zB9 ra
   obtain ⟨u,rfl⟩:=zB9 rb
   refine PyProof.Rows.mul_int (Post.int I _) ?_
   unfold IntMulOk
   have h':¬ (Builtin.Int.intBits _ > shortFactorBits):=Nat.not_lt.mpr hz
   rw [decide_eq_false h']; simp
  ·exact no h
 ·exact no h
theorem w_mulI {k:Nat} {sc:Scope} {e₁ e₂:Expr} {f g:Lc→Option PV} {pos:Pos} (H:WE k sc e₁ f) (G:WE k sc e₂ g):WE k sc (.BinOp e₁ .Mult e₂ pos) (c2 mulIPV f g):=⟨s_bin o_mulI H.h G.h⟩
theorem or_nat (a b:Nat):orPV (.int (a:Int)) (.int (b:Int))=some (.int ((a ||| b:Nat):Int)):=by
 rw [orPV_ii]
 congr 2
 unfold Builtin.bitOr Builtin.bitAnd Builtin.bitNot
 have h1:¬ (0:Int)≤-(a:Int) - 1:=by lia
 have h2:¬ (0:Int)≤-(b:Int) - 1:=by lia
 simp only [h1,h2,decide_false]
 have e1:(-(-(a:Int) - 1) - 1).toNat=a:=by lia
 have e2:(-(-(b:Int) - 1) - 1).toNat=b:=by lia
 rw [e1,e2]
 lia
theorem set_range {f:Nat→PV} {n i:Nat} {v:PV} (h:i < n):((range n).map f).set i v=(range n).map fun j=>if j=i then v else f j:=by
 apply List.ext_getElem?
 intro j
 rw [List.getElem?_set]
 by_cases hj:i=j
 ·subst hj; simp [h]
 ·rw [if_neg hj]
  rw [getElem?_map,getElem?_map]
  by_cases hjn:j < n
  ·simp [List.getElem?_range hjn,Ne.symm hj]
  ·simp [List.getElem?_eq_none (l:=range n) (show (range n).length≤j by simp; lia)]
theorem join_singles:∀ l:List Nat,PySem.Str.join (ofString "") (l.map fun c=>mkS [c])=mkS l
 | []=>rfl
 | [c]=>rfl
 | c :: d :: r=>by
  show mkS [c] ++ ofString "" ++ PySem.Str.join (ofString "") ((d :: r).map fun c=>mkS [c])=_
  rw [join_singles (d :: r),mkS_none,zE6,zE6]
  rfl
theorem join_mk (l:List Nat) (h:l.length≤1000):joinPV [.str (ofString ""),.list (l.map fun c=>PV.str (mkS [c]))]=some (.str (mkS l)):=by
 rw [joinPV_s]
 have:l.map (fun c=>PV.str (mkS [c]))=(l.map fun c=>mkS [c]).map .str:=by rw [map_map]; rfl
 rw [this,zD4]
 simp only [bind_some]
 rw [txt_join,join_singles,if_pos]
 refine joinOk_of ?_
 have e1:((l.map fun c=>mkS [c]).map (·.length)).sum=l.length:=by
  clear this h
  induction l with
  | nil=>rfl
  | cons c r ih =>
   rw [map_cons,map_cons,sum_cons,ih,length_cons]
   show 1 + _=_
   lia
 rw [e1]
 have:(ofString "").length=0:=rfl
 rw [this]; lia
noncomputable def nums71:List PV:=desc.map fun (k:Nat)=>PV.int (k:Int)
theorem iter71:iterPV (.rng 7 0 (-1))=some nums71:=by
 rw [zG5 7 (by decide) (by decide) (by decide)]
 rfl
theorem iter08:iterPV (.rng 0 8 1)=some ((range 8).map fun (k:Nat)=>PV.int (k:Int)):=by
 rw [zG5 8 (by decide) (by decide) (by decide)]
 congr 2
 funext k
 congr 1
 lia
theorem desc_at {pre post:List PV} {p:PV} (e:nums71=pre ++ p :: post):pre.length < 7∧p = .int ((7 - pre.length:Nat):Int)∧desc.take (pre.length + 1)=desc.take pre.length ++ [7 - pre.length]:=by
 have h:nums71[pre.length]? = (pre ++ p :: post)[pre.length]?:=by rw [e]
 rw [List.getElem?_append_right (le_refl _),Nat.sub_self,List.getElem?_cons_zero] at h
 have hl:pre.length < 7:=by have:=congrArg List.length e; simp [nums71,desc] at this; lia
 have:pre.length=0 ∨ pre.length=1 ∨ pre.length=2 ∨ pre.length=3 ∨ pre.length=4 ∨ pre.length=5 ∨ pre.length=6:=by lia
 rcases this with q | q | q | q | q | q | q <;> rw [q] at h ⊢ <;> exact ⟨by lia,(Option.some.inj h).symm,rfl⟩
theorem comp_ix {ι:Type} {g:PV→Option Lc} {ft:Lc→Option Bool} {fe:Lc→Option PV} {l:Lc} {f h:ι→PV}:∀ (ks:List ι) (acc:List PV),acc.length + ks.length≤1000 →
  (∀ k∈ks,∃ t,g (f k)=some t∧ft (t ++ noZ l)=some true∧fe (t ++ noZ l)=some (h k))→compO g ft (cApp fe) l (ks.map f) (.list acc)=some (.list (acc ++ ks.map h))
 | [],acc,_,_=>by simp [compO]
 | k :: ks,acc,hl,hs=>by
  obtain ⟨t,e1,e2,e3⟩:=hs k (by simp)
  have hl':acc.length + ks.length + 1≤1000:=by simp at hl; lia
  have hz:acc.length < sizeLine:=by have:=zA6 (show acc.length + 1≤1000000 by lia); lia
  rw [map_cons]
  unfold compO
  rw [e1]
  simp only [bind_some,e2,if_true]
  have:cApp fe (t ++ noZ l) (.list acc)=some (.list (acc ++ [h k])):=cApp_at e3 hz
  rw [this]
  simp only [bind_some]
  rw [comp_ix ks (acc ++ [h k]) (by simp; lia) fun q hq=>hs q (by simp [hq])]
  simp
theorem zF1 {ι:Type} {g:PV→Option Lc} {ft:Lc→Option Bool} {fe:Lc→Option PV} {l:Lc} {f h:ι→PV} {ks:List ι} (hl:ks.length≤1000)
  (hs:∀ k∈ks,∃ t,g (f k)=some t∧ft (t ++ noZ l)=some true∧fe (t ++ noZ l)=some (h k)):compO g ft (cApp fe) l (ks.map f) (.list [])=some (.list (ks.map h)):=by
 have:=comp_ix (l:=l) (h:=h) ks [] (by simpa using hl) hs
 simpa using this
theorem f_left {k:Nat} {T:Tr} (O:T.Ok):FnSound (k + 1) 315 (oneF [upI T,mdI T] (encS (lS T))):=by
 apply fn_w [ofString "above",ofString "modes"]
 case hat=>exact fun P=>⟨_,rfl,rfl⟩
 case hcode=>exact fun P=>⟨_,_,_,_,rfl,rfl,rfl,rfl⟩
 case hsc=>rfl
 case hxs=>rfl
 case hbind=>exact bind2 (fun _ _=>rfl)
 case B=>exact (zA1 (zG3 (.inr rfl) (wn_lc rfl (fun _ _=>rfl) (zA2 (.inr rfl) rfl) (zC7 rfl rfl rfl rfl) zF5 (zO4 (zA2 (.inl rfl) rfl) zB0)) (sw_list false rfl rfl))
 (zA1 (zG4 (zD1 rfl rfl (zA0 zB0 (zA0 zB0 (zA0 w_neg zA4 rfl) rfl) rfl)) (zF4 (.inl rfl)) (zA1 (zH3 (.inr rfl) rfl (w_or (zB3 (zA9 (.inr rfl) rfl) (zB3 (zA9 (.inl rfl) rfl) (zA2 (.inl rfl) rfl) fun _ _=>rfl) fun _ _=>rfl) (zB3 (zA9 (.inr rfl) rfl) (zA2 (.inl rfl) rfl) fun _ _=>rfl)) (zB3 (zA9 (.inl rfl) rfl) (zA2 (.inl rfl) rfl) fun _ _=>rfl) fun _=>rfl)
 zA8) zA8 fun _ _=>rfl)
 (zA1 (ws_lc rfl rfl rfl rfl (fun _ _=>rfl) (zD1 rfl rfl (zA0 zB0 zA4 rfl)) (zC7 rfl rfl rfl rfl) zF5 (zC9 f_lawrow gv_lawrow (fun P=>⟨_,_,rfl,rfl⟩) rfl rfl (zA0 (zE0 (w_mulI (w_div (zB3 (zA9 (.inr rfl) rfl) (zA2 (.inl rfl) rfl) fun _ _=>rfl) zB0) zB0) (zB3 (zA9 (.inr rfl) rfl) (zA2 (.inl rfl) rfl) fun _ _=>rfl)) zA4 rfl)))
 (zA1 (zD9 (we_n (wn_lc rfl (fun _ _=>rfl) (zA2 (.inl rfl) rfl) (zC7 rfl rfl rfl rfl) zF5 (zM7 m_join b_join zE5 (zA0 (we_n (wn_lc rfl (fun _ _=>rfl) (zA2 (.inl rfl) rfl) (zC7 rfl rfl rfl rfl) (wk_one (wt_ne (zA2 (.inl rfl) rfl) zE5 rfl)) (zA2 (.inl rfl) rfl))) zA4 rfl) rfl rfl (fun _=>rfl) rfl))))
 zA8))))
 case hφ =>
  intro ps p h
  obtain ⟨rfl,rfl⟩:=zE2 h
  have z8:8≤sizeLine:=zA6 (by lia)
  have it8:∀ f:Nat→PV,iterPV (.list ((range 8).map f))=some ((range 8).map f):=fun f=>zC3 (by rw [length_map,length_range]; decide)
  refine zG6 (L:=[(ofString "modes",.fz (mdI T)),(ofString "above",.fz (upI T))]) rfl ?_
  rw [zA5 (zJ5 (p:=.list ((range 8).map fun (k:Nat)=>PV.int (T.base k:Int))) ?hr)]
  case hr =>
   unfold cComp
   rw [zA3 (p:=mdI T) rfl,bind_some,show iterPV (mdI T)=some ((range 8).map fun (k:Nat)=>PV.int (T.md k:Int)) from it8 _,bind_some]
   exact zF1 (by decide) fun k _=>⟨_,rfl,rfl,zA7 (zA3 rfl) rfl (zL9 (b:=4096) (by decide))⟩
  refine seq_for (cc3 rfl rfl rfl) rfl iter71 ?_
  refine zE4 (fun pre l=>look l (ofString "rights")=some (.ow (.list ((range 8).map fun (k:Nat)=>PV.int ((desc.take pre.length).foldl T.stepR T.base k:Int))))∧look l (ofString "modes")=some (.fz (mdI T))∧look l (ofString "above")=some (.fz (upI T))) ?_ ?_ ?_
  ·exact ⟨rfl,rfl,rfl⟩
  ·rintro pre p post l e ⟨h1,h2,h3⟩
   obtain ⟨hj,rfl,hd⟩:=desc_at e
   rw [length_append,length_singleton,hd,List.foldl_append,foldl_cons,List.foldl_nil]
   generalize (desc.take pre.length).foldl T.stepR T.base=R at h1 ⊢
   have hk:0 < 7 - pre.length∧7 - pre.length < 8:=by lia
   generalize 7 - pre.length=k at hk ⊢
   have hu:=O.up k hk.1
   have e1:idxPV (upI T) (.int (k:Int))=some (.int (T.up k)):=zC0 (f:=fun (k:Nat)=>PV.int ((T.up k:Nat):Int)) rfl rfl (by lia) (by lia)
   have e2:∀ i:Nat,i < 8→idxPV (.list ((range 8).map fun (k:Nat)=>PV.int (R k:Int))) (.int (i:Int))=some (.int (R i:Int)):=fun i hi=>zC0 (f:=fun (k:Nat)=>PV.int (R k:Int)) rfl rfl hi (by lia)
   have e3:setPV (.list ((range 8).map fun (k:Nat)=>PV.int (R k:Int))) (.int (T.up k:Int)) (.int ((R (T.up k) ||| R k:Nat):Int))=some (.list ((range 8).map fun (j:Nat)=>PV.int (T.stepR R k j:Int))):=by
    (first | rw [setPV_l] | rw [setPV_d])
    rw [if_pos (by rw [length_map,length_range]; exact ⟨by lia,by lia,z8⟩)]
    rw [Int.toNat_natCast,set_range (f:=fun (k:Nat)=>PV.int (R k:Int)) (by lia)]
    congr 3
    funext j
    unfold Tr.stepR updN
    split <;> rfl
   refine ⟨(ofString "rights",.ow (.list ((range 8).map fun (j:Nat)=>PV.int (T.stepR R k j:Int)))) :: (ofString "k",.fz (.int (k:Int))) :: l,?_,rfl,h2,h3⟩
   rw [bind_some,singleton_append]
   rw [zA5 (item_go (by exact h1) (zA7 (zA7 (zK0 (by exact h1)) (zA7 (zC2 (by exact h3)) (zA3 (p:=.int (k:Int)) rfl) e1) (e2 _ (show T.up k < 8 by lia))) (zA7 (zK0 (by exact h1)) (zA3 (p:=.int (k:Int)) rfl) (e2 _ hk.2)) (or_nat _ _)) (zA7 (zC2 (by exact h3)) (zA3 (p:=.int (k:Int)) rfl) e1) e3)]
  ·rintro l ⟨h1,h2,h3⟩
   have hR:(desc.take nums71.length).foldl T.stepR T.base=T.R:=rfl
   rw [hR] at h1
   have er:∀ k:Nat,k < 8→idxPV (.list ((range 8).map fun (k:Nat)=>PV.int (T.R k:Int))) (.int (k:Int))=some (.int (T.R k:Int)):=fun k hk=>zC0 (f:=fun (k:Nat)=>PV.int (T.R k:Int)) rfl rfl hk (by lia)
   have em:∀ k:Nat,k < 8→idxPV (mdI T) (.int (k:Int))=some (.int (T.md k:Int)):=fun k hk=>zC0 (f:=fun (k:Nat)=>PV.int ((T.md k:Nat):Int)) rfl rfl hk (by lia)
   rw [bind_some]
   show seqO _ _ l=_
   rw [zA5 (zB4 (p:=.list ((range 8).map fun (k:Nat)=>PV.str (mkS (rowL (T.md k / 4096 * 4096 + T.R k))))) ?hrows)]
   case hrows =>
    unfold cComp
    rw [head3' (cc1 rfl) rfl iter08]
    refine zF1 (by decide) fun k hk=>⟨_,rfl,rfl,?_⟩
    have hk:=mem_range.mp hk
    have a1:divPV (.int (T.md k:Int)) (.int 4096)=some (.int ((T.md k / 4096:Nat):Int)):=div_nat (b:=4096) (by decide) (by decide)
    have a2:mulIPV (.int ((T.md k / 4096:Nat):Int)) (.int 4096)=some (.int ((T.md k / 4096 * 4096:Nat):Int)):=by
     unfold mulIPV
     dsimp only
     rw [if_pos (by decide)]
     congr 2
    have a3:addPV (.int ((T.md k / 4096 * 4096:Nat):Int)) (.int (T.R k:Int))=some (.int ((T.md k / 4096 * 4096 + T.R k:Nat):Int)):=by
     (first | rw [zI9] | rw [zG9] | rw [zI8])
     congr 2
    exact bd1 (cc1 (zA7 (zA7 (zA7 (zA7 (zC2 (zC4 (by decide) h2 (by decide))) (zA3 rfl) (em k hk)) rfl a1) rfl a2) (zA7 (zK0 (zC4 (by decide) h1 (by decide))) (zA3 rfl) (er k hk)) a3)) (rowPV_at _)
   refine zH9 ?_
   unfold cComp
   rw [zA3 (p:=.list ((range 8).map fun (k:Nat)=>PV.str (mkS (rowL (T.md k / 4096 * 4096 + T.R k))))) rfl,bind_some,it8,bind_some]
   refine zF1 (h:=fun k=>PV.str (lS T k)) (by decide) fun k hk=>⟨_,rfl,rfl,?_⟩
   have hl:=zK5 (T.md k / 4096 * 4096 + T.R k)
   refine bdT (t:=.str (ofString "")) rfl ?_
   refine bdT (t:=[.list ((T.left k).map fun c=>PV.str (mkS [c]))]) (cc1 ?_) ?_
   case refine_2=>exact join_mk (T.left k) (le_trans (T.left_len k) (by decide))
   rw [zA3 (p:=.str (mkS (rowL (T.md k / 4096 * 4096 + T.R k)))) rfl,bind_some,show iterPV (.str (mkS (rowL (T.md k / 4096 * 4096 + T.R k))))=some ((rowL (T.md k / 4096 * 4096 + T.R k)).map fun c=>PV.str (mkS [c])) from rfl,bind_some]
   rw [zN8 (h:=fun p=>p) (b:=fun p=>match p with | .str x=>!decide (x=mkS [45]) | _=>true) _ _ (by rw [length_map,hl]; decide)]
   ·rw [nil_append,List.map_id',List.filter_map]
    congr 4
    funext c
    show (!decide (mkS [c]=mkS [45]))=_
    by_cases hc:c=45
    ·subst hc; simp
    ·have:mkS [c]≠mkS [45]:=fun e=>hc (by have:=mkS_inj e; simpa using this)
     simp [hc,this]
   ·intro p hp
    obtain ⟨c,hc,rfl⟩:=mem_map.mp hp
    refine ⟨_,rfl,?_,fun _=>zA3 rfl⟩
    rw [zA7 (zA3 (p:=.str (mkS [c])) rfl) (congrArg (fun x=>some (PV.str x)) mk_d) (show nePV (.str (mkS [c])) (.str (mkS [45]))=some (.bool (!decide (mkS [c]=mkS [45]))) from rfl)]
    rfl
theorem bit_sub:∀ (i m j:Nat),m.testBit i=true→(m - 2 ^ i).testBit j=(m.testBit j && decide (j≠i))
 | 0,m,j,h=>by
  rw [Nat.testBit_zero] at h
  have h:=of_decide_eq_true h
  obtain ⟨q,rfl⟩:∃ q,m=2 * q + 1:=⟨m / 2,by have:=Nat.div_add_mod m 2; rw [h] at this; exact this.symm⟩
  show (2 * q).testBit j=_
  cases j with
  | zero =>
   rw [Nat.testBit_zero,Nat.mul_mod_right]
   exact (Bool.and_false _).symm
  | succ j =>
   rw [Nat.testBit_succ,Nat.testBit_succ,Nat.mul_div_cancel_left _ (by decide),Nat.mul_add_div (by decide)]
   exact (Bool.and_true _).symm
 | i + 1,m,j,h=>by
  rw [Nat.testBit_succ] at h
  have hle:2 ^ i≤m / 2:=Nat.ge_two_pow_of_testBit h
  have e:m - 2 ^ (i + 1)=2 * (m / 2 - 2 ^ i) + m % 2:=by
   rw [Nat.pow_succ,Nat.mul_comm,Nat.mul_sub,← Nat.sub_add_comm (Nat.mul_le_mul_left 2 hle),Nat.div_add_mod]
  rw [e]
  cases j with
  | zero =>
   rw [Nat.testBit_zero,Nat.testBit_zero,Nat.mul_add_mod,Nat.mod_mod]
   exact (Bool.and_true _).symm
  | succ j =>
   rw [Nat.testBit_succ,Nat.testBit_succ,Nat.mul_add_div (by decide),Nat.div_eq_of_lt (Nat.mod_lt _ (by decide)),Nat.add_zero,bit_sub i (m / 2) j h]
   congr 1
   exact decide_eq_decide.mpr ⟨fun h e=>h (Nat.succ.inj e),fun h e=>h (congrArg _ e)⟩
noncomputable def bitsN (n m:Nat):List Nat:=(range n).filter fun i=>m.testBit i
theorem bits_nodup (n m:Nat):(bitsN n m).Nodup:=nodup_range.filter _
theorem bits_mem {n m i:Nat}:i∈bitsN n m ↔ i < n∧m.testBit i=true:=by unfold bitsN; simp
theorem bits_sub {n m i:Nat} (h:i∈bitsN n m):(i :: bitsN n (m - 2 ^ i)).Perm (bitsN n m):=by
 have hi:=bits_mem.mp h
 have e:bitsN n (m - 2 ^ i)=(bitsN n m).erase i:=by
  rw [(bits_nodup n m).erase_eq_filter]
  unfold bitsN
  rw [List.filter_filter]
  apply List.filter_congr
  intro j _
  rw [bit_sub i m j hi.2,Bool.and_comm]
  congr 1
  by_cases q:j=i <;> simp [q]
 rw [e]
 exact (List.perm_cons_erase h).symm
theorem bits_full (n:Nat):bitsN n (2 ^ n - 1)=range n:=by
 unfold bitsN
 rw [List.filter_eq_self]
 intro i hi
 rw [Nat.testBit_two_pow_sub_one]
 simpa using hi
theorem bits_zero (n:Nat):bitsN n 0=[]:=by unfold bitsN; simp
theorem bits_ne {n m:Nat} (h0:0 < m) (h:m < 2 ^ n):bitsN n m≠[]:=by
 intro e
 have:m=0:=by
  apply Nat.eq_of_testBit_eq
  intro i
  rw [Nat.zero_testBit]
  by_cases hi:i < n
  ·cases q:m.testBit i with
   | false=>rfl
   | true=>have:=bits_mem.mpr ⟨hi,q⟩; rw [e] at this; cases this
  ·exact Nat.testBit_lt_two_pow (Nat.lt_of_lt_of_le h (Nat.pow_le_pow_right (by lia) (by lia)))
 lia
noncomputable def selN (cs:List Nat) (m:Nat):List Nat:=(bitsN cs.length m).map fun i=>cs.getD i 0
theorem sel_sub {cs:List Nat} {m i:Nat} (h:i∈bitsN cs.length m):(cs.getD i 0 :: selN cs (m - 2 ^ i)).Perm (selN cs m):=(bits_sub h).map fun i=>cs.getD i 0
theorem sel_full (cs:List Nat):selN cs (2 ^ cs.length - 1)=cs:=by
 unfold selN
 rw [bits_full]
 apply List.ext_getElem?
 intro j
 by_cases hj:j < cs.length
 ·simp [List.getElem?_range hj,getD_eq_getElem?_getD,getElem?_eq_getElem hj]
 ·rw [List.getElem?_eq_none (by simp; lia),List.getElem?_eq_none (by lia)]
theorem sel_zero (cs:List Nat):selN cs 0=[]:=by unfold selN; rw [bits_zero]; rfl
theorem least_min {f:PS} {cs:List Nat} {m:Nat} (h0:0 < m) (h:m < 2 ^ cs.length) :
  ((bitsN cs.length m).map fun i=>((max (best f (selN cs (m - 2 ^ i))) (sumL f (selN cs (m - 2 ^ i)) + (f (cs.getD i 0)).1):Nat):Int)).min? = some ((best f (selN cs m):Nat):Int):=by
 rw [List.min?_eq_some_iff]
 constructor
 ·have hne:selN cs m≠[]:=by unfold selN; intro e; exact bits_ne h0 h (List.map_eq_nil_iff.mp e)
  obtain ⟨c,r,hp,e⟩:=best_attained (f:=f) hne
  have hc:c∈selN cs m:=hp.subset (by simp)
  obtain ⟨i,hi,rfl⟩:=mem_map.mp hc
  have hr:r.Perm (selN cs (m - 2 ^ i)):=(List.perm_cons _).mp (hp.trans (sel_sub hi).symm)
  refine mem_map.mpr ⟨i,hi,?_⟩
  rw [e,best_perm hr,zM9 hr]
 ·intro b hb
  obtain ⟨i,hi,rfl⟩:=mem_map.mp hb
  have:=best_upper (f:=f) (sel_sub hi)
  exact Int.ofNat_le.mpr this
theorem sum_sel {f:PS} {cs:List Nat} {m i:Nat} (h:i∈bitsN cs.length m):sumL f (selN cs (m - 2 ^ i)) + (f (cs.getD i 0)).2=sumL f (selN cs m):=by
 rw [← zM9 (sel_sub h)]
 unfold sumL
 rw [map_cons,sum_cons]; lia
noncomputable def encN (l:List Nat):PV:=.list (l.map fun (c:Nat)=>PV.int (c:Int))
theorem encN_inj:∀ {a b:List Nat},encN a=encN b→a=b:=by
 intro a b h
 unfold encN at h
 injection h with h
 exact List.map_inj_right (fun x y e=>by injection e with e; exact Int.ofNat.inj e) |>.mp h
noncomputable def psOf (pk sz:List Nat):PS:=fun x=>(pk.getD x 0,sz.getD x 0)
abbrev LArg:=List Nat × List Nat × List Nat
noncomputable def LArg.ok (t:LArg):Prop:=t.1.length≤7∧(∀ c∈t.1,c < t.2.1.length∧c < t.2.2.length)∧t.2.1.length≤8∧t.2.2.length≤8
noncomputable def LArg.enc (t:LArg):List PV:=[encN t.1,encN t.2.1,encN t.2.2]
noncomputable def LArg.res (t:LArg):PV:=.tup [.int (best (psOf t.2.1 t.2.2) t.1:Nat),.int (sumL (psOf t.2.1 t.2.2) t.1:Nat)]
theorem LArg.enc_inj {t u:LArg} (h:t.enc=u.enc):t=u:=by
 unfold LArg.enc at h
 injection h with h1 h
 injection h with h2 h
 injection h with h3 _
 exact Prod.ext (encN_inj h1) (Prod.ext (encN_inj h2) (encN_inj h3))
noncomputable def leastPV:List PV→Option PV:=open Classical in fun ps=>if h:∃ t:LArg,ps=t.enc∧t.ok then some h.choose.res else none
theorem leastPV_at {t:LArg} (h:t.ok):leastPV t.enc=some t.res:=by
 unfold leastPV
 have hh:∃ u:LArg,t.enc=u.enc∧u.ok:=⟨t,rfl,h⟩
 rw [dif_pos hh]
 rw [← LArg.enc_inj hh.choose_spec.1]
theorem leastPV_some {ps:List PV} {p:PV} (h:leastPV ps=some p):∃ t:LArg,ps=t.enc∧t.ok∧p=t.res:=by
 unfold leastPV at h
 split at h
 ·rename_i hh
  injection h with h
  exact ⟨hh.choose,hh.choose_spec.1,hh.choose_spec.2,h.symm⟩
 ·exact no h
theorem rng_one (n:Nat) (h:n≤7):rngSize 1 (2 ^ n:Int) 1=((2 ^ n - 1:Nat):Int)∧Builtin.Range.small 1 (2 ^ n:Int) 1=true:=by
 have:∀ n:Nat,n < 8→rngSize 1 (2 ^ n:Int) 1=((2 ^ n - 1:Nat):Int)∧Builtin.Range.small 1 (2 ^ n:Int) 1=true:=by decide +kernel
 exact this n (Nat.lt_succ_of_le h)
theorem rng_zero (n:Nat) (h:n≤7):rngSize 0 (n:Int) 1=(n:Int)∧Builtin.Range.small 0 (n:Int) 1=true:=by
 have:∀ n:Nat,n < 8→rngSize 0 (n:Int) 1=(n:Int)∧Builtin.Range.small 0 (n:Int) 1=true:=by decide +kernel
 exact this n (Nat.lt_succ_of_le h)
theorem pow_nat {b i:Nat} (hb:b≤8) (hi:i≤64):powPV (.int (b:Int)) (.int (i:Int))=some (.int ((b ^ i:Nat):Int)):=by
 rw [powPV_ii]
 rw [if_pos ⟨by lia,by lia,by lia⟩]
 rw [Int.toNat_natCast,Int.natCast_pow]
theorem sub_nat {a b:Nat} (h:b≤a):subPV (.int (a:Int)) (.int (b:Int))=some (.int ((a - b:Nat):Int)):=by
 rw [subPV_ii]
 congr 2
 lia
theorem zK2 (a b:Nat):addPV (.int (a:Int)) (.int (b:Int))=some (.int ((a + b:Nat):Int)):=by
 (first | rw [zI9] | rw [zG9] | rw [zI8])
 rfl
theorem cast_max (a b:Nat):max (a:Int) (b:Int)=((max a b:Nat):Int):=by
 rcases Nat.le_total a b with h | h
 ·rw [Nat.max_eq_right h,Int.max_eq_right (Int.ofNat_le.mpr h)]
 ·rw [Nat.max_eq_left h,Int.max_eq_left (Int.ofNat_le.mpr h)]
theorem max_3 (a b c:Nat):maxPV [.int (a:Int),.int (b:Int),.int (c:Int)]=some (.int ((max (max a b) c:Nat):Int)):=by rw [maxPV_3,cast_max,cast_max]
theorem max_nat (a b:Nat):maxPV [.int (a:Int),.int (b:Int)]=some (.int ((max a b:Nat):Int)):=by
 rw [maxPV_2,cast_max]
theorem nth_map {α:Type} {f:α→PV} {l:List α} {i:Nat} (h:i < l.length) (hl:l.length≤1000):nth (l.map f) (i:Int)=some (f l[i]):=by
 unfold nth
 have:l.length≤sizeLine:=zA6 (by lia)
 simp [this,h]
theorem idx_encN {l:List Nat} {i:Nat} (h:i < l.length) (hl:l.length≤1000):idxPV (encN l) (.int (i:Int))=some (.int ((l.getD i 0:Nat):Int)):=by
 show nth (l.map fun (c:Nat)=>PV.int (c:Int)) (i:Int)=_
 rw [nth_map h hl,getD_eq_getElem?_getD,getElem?_eq_getElem h]
 rfl
theorem intsOf_map {α:Type} (f:α→Int):∀ l:List α,intsOf (l.map fun x=>PV.int (f x))=some (l.map f)
 | []=>rfl
 | x :: r=>by rw [map_cons,intsOf,intsOf_map f r]; rfl
theorem f_least {k:Nat}:FnSound k 320 leastPV:=by
 apply fn_w [ofString "below",ofString "peaks",ofString "sizes"]
 case hat=>exact fun P=>⟨_,rfl,rfl⟩
 case hcode=>exact fun P=>⟨_,_,_,_,rfl,rfl,rfl,rfl⟩
 case hsc=>rfl
 case hxs=>rfl
 case hbind=>exact bind3 (fun _ _ _=>rfl)
 case B=>exact (zA1 (zG3 (.inr rfl) (zH0 (zA0 zB0 zA4 rfl)) (fun _ _=>rfl))
 (zA1 (zG3 (.inr rfl) (zH0 (zA0 zB0 zA4 rfl)) (fun _ _=>rfl))
 (zA1 (zG4 (zD1 rfl rfl (zA0 zB0 (zA0 (w_pow zB0 (w_len rfl rfl (zA9 (.inr rfl) rfl))) zA4 rfl) rfl)) (zF4 (.inr rfl)) (zA1 (ws_lc rfl rfl rfl rfl (fun _ _=>rfl) (zD1 rfl rfl (zA0 (w_len rfl rfl (zA9 (.inr rfl) rfl)) zA4 rfl)) (zC7 rfl rfl rfl rfl) (wk_one (wt_eq (zO4 (w_div (zA2 (.inr rfl) rfl) (w_pow zB0 (zA2 (.inl rfl) rfl))) zB0) zB0 rfl)) (zA2 (.inl rfl) rfl))
 (zA1 (zC8 (.inr rfl) rfl (w_min rfl rfl (zA0 (we_n (wn_lc rfl (fun _ _=>rfl) (zA2 (.inl rfl) rfl) (zC7 rfl rfl rfl rfl) zF5 (w_max rfl rfl (zA0 (zB3 (zA9 (.inr rfl) rfl) (w_sub (zA2 (.inr rfl) rfl) (w_pow zB0 (zA2 (.inl rfl) rfl))) fun _ _=>rfl) (zA0 (zE0 (zB3 (zA9 (.inr rfl) rfl) (w_sub (zA2 (.inr rfl) rfl) (w_pow zB0 (zA2 (.inl rfl) rfl))) fun _ _=>rfl) (zB3 (zA9 (.inr rfl) rfl) (zB3 (zA9 (.inr rfl) rfl) (zA2 (.inl rfl) rfl) fun _ _=>rfl) fun _ _=>rfl)) zA4 rfl) rfl)))) zA4 rfl)) rfl (fun _=>rfl) rfl rfl)
 (zA1 (zC8 (.inr rfl) rfl (zE0 (zB3 (zA9 (.inr rfl) rfl) (w_sub (zA2 (.inr rfl) rfl) (w_pow zB0 (zB3 (zA9 (.inl rfl) rfl) zB0 fun _ _=>rfl))) fun _ _=>rfl) (zB3 (zA9 (.inl rfl) rfl) (zB3 (zA9 (.inr rfl) rfl) (zB3 (zA9 (.inl rfl) rfl) zB0 fun _ _=>rfl) fun _ _=>rfl) fun _ _=>rfl)) rfl (fun _=>rfl) rfl rfl)
 zA8))) zA8 fun _ _=>rfl)
 (zA1 (zD9 (w_tup (zA0 (zB3 (zA9 (.inr rfl) rfl) w_neg fun _ _=>rfl) (zA0 (zB3 (zA9 (.inr rfl) rfl) w_neg fun _ _=>rfl) zA4 rfl) rfl)))
 zA8))))
 case hφ =>
  intro ps p h
  obtain ⟨⟨cs,pk,sz⟩,rfl,⟨h7,hc,hp8,hs8⟩,rfl⟩:=leastPV_some h
  dsimp only at h7 hc hp8 hs8
  simp only [LArg.enc,LArg.res]
  generalize hf:psOf pk sz=f
  have z1:1≤sizeLine:=zA6 (by lia)
  have elen:lenPV (encN cs)=some (.int (cs.length:Nat)):=by
   unfold encN
   rw [lenPV_l]
   rw [length_map,if_pos (zA6 (by lia))]
  have epow:powPV (.int 2) (.int ((cs.length:Nat):Int))=some (.int ((2 ^ cs.length:Nat):Int)):=pow_nat (b:=2) (by lia) (by lia)
  have hv:∀ a b:Loc,cW (ofString "below") [(ofString "there",a),(ofString "least",b),(ofString "sizes",Loc.fz (encN sz)),(ofString "peaks",Loc.fz (encN pk)),(ofString "below",Loc.fz (encN cs))]=some (encN cs):=fun a b=>by
   rfl
  have hr:∀ a b:Loc,cCons (cK (.int 1)) (cCons (c2 powPV (cK (.int 2)) (fun l=>(cW (ofString "below") l).bind lenPV)) cNil) [(ofString "there",a),(ofString "least",b),(ofString "sizes",Loc.fz (encN sz)),(ofString "peaks",Loc.fz (encN pk)),(ofString "below",Loc.fz (encN cs))]=some [.int 1,.int ((2 ^ cs.length:Nat):Int)]:=fun a b=>by
   have hr2:c2 powPV (cK (.int 2)) (fun l=>(cW (ofString "below") l).bind lenPV) [(ofString "there",a),(ofString "least",b),(ofString "sizes",Loc.fz (encN sz)),(ofString "peaks",Loc.fz (encN pk)),(ofString "below",Loc.fz (encN cs))]=some (.int ((2 ^ cs.length:Nat):Int)):=by
    show ((cW (ofString "below") [(ofString "there",a),(ofString "least",b),(ofString "sizes",Loc.fz (encN sz)),(ofString "peaks",Loc.fz (encN pk)),(ofString "below",Loc.fz (encN cs))]).bind lenPV).bind (fun b=>powPV (.int 2) b)=_
    rw [hv]
    show (lenPV (encN cs)).bind (fun b=>powPV (.int 2) b)=_
    rw [elen]
    exact epow
   show (some (PV.int 1)).bind (fun p=>Option.map (fun x=>p :: x) ((c2 powPV (cK (.int 2)) (fun l=>(cW (ofString "below") l).bind lenPV) [(ofString "there",a),(ofString "least",b),(ofString "sizes",Loc.fz (encN sz)),(ofString "peaks",Loc.fz (encN pk)),(ofString "below",Loc.fz (encN cs))]).bind fun p=>some [p]))=_
   rw [hr2]
   rfl
  have hrg:=rng_one cs.length h7
  have e2n:((2 ^ cs.length:Nat):Int)=(2 ^ cs.length:Int):=Int.natCast_pow 2 cs.length
  have h128:2 ^ cs.length≤128:=Nat.pow_le_pow_right (n:=2) (by lia) h7
  have h1:1≤2 ^ cs.length:=Nat.one_le_two_pow
  have hir:=zG5 (2 ^ cs.length - 1) hrg.1 hrg.2 (by lia)
  have hrr:rangePV [PV.int 1,PV.int ((2 ^ cs.length:Nat):Int)]=some (.rng 1 (2 ^ cs.length:Int) 1):=by rw [e2n]; rfl
  simp only [bindP,seqO,bind_some,cOwn,cl1,map_some,goO,Option.bind_assoc]
  refine (head3 (hr _ _) hrr hir).trans ?_
  refine zE4 (fun pre l=>look l (ofString "least")=some (.ow (.list ((range (pre.length + 1)).map fun (m:Nat)=>PV.int (best f (selN cs m):Nat))))∧look l (ofString "there")=some (.ow (.list ((range (pre.length + 1)).map fun (m:Nat)=>PV.int (sumL f (selN cs m):Nat)))) ∧
   look l (ofString "below")=some (.fz (encN cs))∧look l (ofString "peaks")=some (.fz (encN pk))∧look l (ofString "sizes")=some (.fz (encN sz))) ?_ ?_ ?_
  ·refine ⟨?_,?_,?_,?_,?_⟩
   ·show some (Loc.ow (PV.list [PV.int 0]))=some (Loc.ow (PV.list [PV.int (best f (selN cs 0):Nat)]))
    rw [sel_zero,best_nil]; rfl
   ·show some (Loc.ow (PV.list [PV.int 0]))=some (Loc.ow (PV.list [PV.int (sumL f (selN cs 0):Nat)]))
    rw [sel_zero]; rfl
   ·rfl
   ·rfl
   ·rfl
  ·rintro pre p post l e ⟨g1,g2,g3,g4,g5⟩
   obtain ⟨hj,rfl⟩:=map_at e
   rw [length_append,length_singleton]
   generalize pre.length=t at hj g1 g2 ⊢
   have em:(1:Int) + (t:Int) * 1=((t + 1:Nat):Int):=by lia
   rw [em]
   have hm:t + 1 < 2 ^ cs.length:=by lia
   have hm0:0 < t + 1:=by lia
   have emin:=least_min (f:=f) hm0 hm
   have bne:=bits_ne hm0 hm
   generalize hM:t + 1=m at hm hm0 emin bne g1 g2 ⊢
   have hlast:∀ l:Lc,look l (ofString "below")=some (.fz (encN cs))→look l (ofString "some")=some (.fz (.int (m:Int))) →
     cComp (fun l=>(cCons (fun l=>(cW (ofString "below") l).bind lenPV) cNil l).bind rangePV) (fun p=>some [(ofString "i",Loc.fz p)])
          (fun l=>(c2 eqPV (c2 modPV (c2 divPV (cV (ofString "some")) (c2 powPV (cK (PV.int 2)) (cV (ofString "i")))) (cK (PV.int 2))) (cK (PV.int 1)) l).bind asB)
          (cApp (cV (ofString "i"))) (PV.list []) l=some (.list ((bitsN cs.length m).map fun (i:Nat)=>PV.int (i:Int))):=by
    intro l k1 k2
    have e1:(cCons (fun l=>(cW (ofString "below") l).bind lenPV) cNil l)=some [.int (cs.length:Int)]:=by
     exact cc1 (bdL (zC2 k1) elen)
    have hz:=rng_zero cs.length h7
    unfold cComp
    refine (head3' e1 (show rangePV [PV.int (cs.length:Int)]=some (.rng 0 (cs.length:Int) 1) from rfl) (zG5 cs.length hz.1 hz.2 (by lia))).trans ?_
    have e0:(fun (i:Nat)=>PV.int (0 + (i:Int) * 1))=fun (i:Nat)=>PV.int (i:Int):=by
     funext i
     rw [show (0:Int) + (i:Int) * 1=(i:Int) by lia]
    rw [e0]
    rw [zN8 (h:=fun p=>p) (b:=fun p=>m.testBit (p.toInt.getD 0).toNat) _ _ (by simp; lia)]
    ·rw [nil_append,List.map_id',List.filter_map]
     rfl
    ·intro p hp
     obtain ⟨i,hi,rfl⟩:=mem_map.mp hp
     have hi:=mem_range.mp hi
     have a1:powPV (.int 2) (.int (i:Int))=some (.int ((2 ^ i:Nat):Int)):=pow_nat (b:=2) (by lia) (by lia)
     have hle:2 ^ i≤128:=Nat.pow_le_pow_right (n:=2) (by lia) (show i≤7 by lia)
     have a2:divPV (.int (m:Int)) (.int ((2 ^ i:Nat):Int))=some (.int ((m / 2 ^ i:Nat):Int)):=div_nat (Nat.two_pow_pos i) (by lia)
     have a3:modPV (.int ((m / 2 ^ i:Nat):Int)) (.int 2)=some (.int ((m / 2 ^ i % 2:Nat):Int)):=zL9 (b:=2) (by lia)
     have a4:∀ x:Nat,eqPV (.int (x:Int)) (.int 1)=some (.bool (decide (x=1))):=fun x=>eq_nat x 1
     have b1:cV (ofString "some") ([(ofString "i",Loc.fz (PV.int (i:Int)))] ++ noZ l)=some (.int (m:Int)):=zA3 (zC4 (by decide) k2 (by decide))
     have b2:cV (ofString "i") ([(ofString "i",Loc.fz (PV.int (i:Int)))] ++ noZ l)=some (.int (i:Int)):=rfl
     refine ⟨_,rfl,?_,fun _=>b2⟩
     rw [show ((PV.int (i:Int)).toInt.getD 0).toNat=i from rfl,Nat.testBit_eq_decide_div_mod_eq]
     exact asB_at (zA7 (zA7 (zA7 b1 (zA7 rfl b2 a1) a2) rfl a3) rfl (a4 _))
   have hidx:∀ (l:Lc) (x:PStr) (g:Nat→Nat),look l x=some (.ow (.list ((range m).map fun (j:Nat)=>PV.int (g j:Int))))→∀ i,i < m→c2 idxPV (cW x) (cK (.int (i:Int))) l=some (.int (g i:Int)):=by
    intro l x g k1 i hi
    exact zA7 (zK0 k1) rfl (zN2 (f:=fun (j:Nat)=>PV.int (g j:Int)) hi (by lia))
   have hL:∀ i:Nat,i < m→idxPV (.list ((range m).map fun (j:Nat)=>PV.int (best f (selN cs j):Nat))) (.int (i:Int))=some (.int (best f (selN cs i):Nat)):=fun i hi=>zC0 (f:=fun (j:Nat)=>PV.int (best f (selN cs j):Nat)) rfl rfl hi (by lia)
   have hS:∀ i:Nat,i < m→idxPV (.list ((range m).map fun (j:Nat)=>PV.int (sumL f (selN cs j):Nat))) (.int (i:Int))=some (.int (sumL f (selN cs i):Nat)):=fun i hi=>zC0 (f:=fun (j:Nat)=>PV.int (sumL f (selN cs j):Nat)) rfl rfl hi (by lia)
   have hbit:∀ i,i∈bitsN cs.length m→i < cs.length∧2 ^ i≤m∧m - 2 ^ i < m∧i≤7:=fun i hi=>by
    have h1:=bits_mem.mp hi
    have h2:=Nat.ge_two_pow_of_testBit h1.2
    have h3:=Nat.two_pow_pos i
    exact ⟨h1.1,h2,by lia,by lia⟩
   have hcs:∀ i,i < cs.length→idxPV (encN cs) (.int (i:Int))=some (.int (cs.getD i 0:Nat)):=fun i hi=>idx_encN hi (by lia)
   have hin:∀ i,i < cs.length→cs.getD i 0 < pk.length∧cs.getD i 0 < sz.length:=fun i hi=>by
    have:cs.getD i 0∈cs:=by rw [getD_eq_getElem?_getD,getElem?_eq_getElem hi]; simp
    exact hc _ this
   have hpk:∀ i,i < cs.length→idxPV (encN pk) (.int (cs.getD i 0:Nat))=some (.int ((f (cs.getD i 0)).1:Nat)):=fun i hi=>by
    rw [idx_encN (hin i hi).1 (by lia),← hf]; rfl
   have hsz':∀ i,i < cs.length→idxPV (encN sz) (.int (cs.getD i 0:Nat))=some (.int ((f (cs.getD i 0)).2:Nat)):=fun i hi=>by
    rw [idx_encN (hin i hi).2 (by lia),← hf]; rfl
   have hmin:∀ l:Lc,look l (ofString "last")=some (.fz (.list ((bitsN cs.length m).map fun (i:Nat)=>PV.int (i:Int))))→look l (ofString "some")=some (.fz (.int (m:Int)))→look l (ofString "below")=some (.fz (encN cs))→look l (ofString "peaks")=some (.fz (encN pk)) →
     look l (ofString "least")=some (.ow (.list ((range m).map fun (j:Nat)=>PV.int (best f (selN cs j):Nat))))→look l (ofString "there")=some (.ow (.list ((range m).map fun (j:Nat)=>PV.int (sumL f (selN cs j):Nat)))) →
     (cCons (cComp (cV (ofString "last")) (fun p=>some [(ofString "i",Loc.fz p)]) (fun x=>some true)
      (cApp fun l=>(cCons (c2 idxPV (cW (ofString "least")) (c2 subPV (cV (ofString "some")) (c2 powPV (cK (PV.int 2)) (cV (ofString "i")))))
       (cCons (c2 addPV (c2 idxPV (cW (ofString "there")) (c2 subPV (cV (ofString "some")) (c2 powPV (cK (PV.int 2)) (cV (ofString "i"))))) (c2 idxPV (cW (ofString "peaks")) (c2 idxPV (cW (ofString "below")) (cV (ofString "i"))))) cNil) l).bind maxPV) (PV.list [])) cNil l).bind minPV=some (.int (best f (selN cs m):Nat)):=by
    intro l k1 k2 k3 k4 k5 k6
    have e1:cV (ofString "last") l=some (.list ((bitsN cs.length m).map fun (i:Nat)=>PV.int (i:Int))):=zA3 k1
    have hbl:(bitsN cs.length m).length≤7:=le_trans (List.length_filter_le _ _) (by simpa using h7)
    have ecomp:cComp (cV (ofString "last")) (fun p=>some [(ofString "i",Loc.fz p)]) (fun x=>some true)
      (cApp fun l=>(cCons (c2 idxPV (cW (ofString "least")) (c2 subPV (cV (ofString "some")) (c2 powPV (cK (PV.int 2)) (cV (ofString "i")))))
       (cCons (c2 addPV (c2 idxPV (cW (ofString "there")) (c2 subPV (cV (ofString "some")) (c2 powPV (cK (PV.int 2)) (cV (ofString "i"))))) (c2 idxPV (cW (ofString "peaks")) (c2 idxPV (cW (ofString "below")) (cV (ofString "i"))))) cNil) l).bind maxPV) (PV.list []) l =
      some (.list ((bitsN cs.length m).map fun (i:Nat)=>PV.int ((max (best f (selN cs (m - 2 ^ i))) (sumL f (selN cs (m - 2 ^ i)) + (f (cs.getD i 0)).1):Nat):Int))):=by
     unfold cComp
     rw [e1]
     simp only [bind_some]
     rw [zC3 (by rw [length_map]; lia)]
     simp only [bind_some]
     refine zF1 (by lia) fun i hi=>⟨_,rfl,rfl,?_⟩
     obtain ⟨j1,j2,j3,j4⟩:=hbit i hi
     have a1:powPV (.int 2) (.int (i:Int))=some (.int ((2 ^ i:Nat):Int)):=pow_nat (b:=2) (by lia) (by lia)
     have a2:=sub_nat j2
     have b1:cV (ofString "some") ([(ofString "i",Loc.fz (PV.int (i:Int)))] ++ noZ l)=some (.int (m:Int)):=zA3 (zC4 (by decide) k2 (by decide))
     have b2:cV (ofString "i") ([(ofString "i",Loc.fz (PV.int (i:Int)))] ++ noZ l)=some (.int (i:Int)):=rfl
     have b3:cW (ofString "least") ([(ofString "i",Loc.fz (PV.int (i:Int)))] ++ noZ l)=some (.list ((range m).map fun (j:Nat)=>PV.int (best f (selN cs j):Nat))):=zK0 (zC4 (by decide) k5 (by decide))
     have b4:cW (ofString "there") ([(ofString "i",Loc.fz (PV.int (i:Int)))] ++ noZ l)=some (.list ((range m).map fun (j:Nat)=>PV.int (sumL f (selN cs j):Nat))):=zK0 (zC4 (by decide) k6 (by decide))
     have b5:cW (ofString "below") ([(ofString "i",Loc.fz (PV.int (i:Int)))] ++ noZ l)=some (encN cs):=zC2 (zC4 (by decide) k3 (by decide))
     have b6:cW (ofString "peaks") ([(ofString "i",Loc.fz (PV.int (i:Int)))] ++ noZ l)=some (encN pk):=zC2 (zC4 (by decide) k4 (by decide))
     simp only [cCons,cNil,c2,b1,b2,b3,b4,b5,b6,cK,a1,a2,hL _ j3,hS _ j3,hcs i j1,hpk i j1,zK2,bind_some,map_some,max_nat]
    rw [cc1 ecomp]
    rw [bind_some]
    rw [minPV_l]
    rw [intsOf_map,bind_some,emin]
    rfl
   have hth:∀ l:Lc,look l (ofString "last")=some (.fz (.list ((bitsN cs.length m).map fun (i:Nat)=>PV.int (i:Int))))→look l (ofString "some")=some (.fz (.int (m:Int)))→look l (ofString "below")=some (.fz (encN cs))→look l (ofString "sizes")=some (.fz (encN sz)) →
     look l (ofString "there")=some (.ow (.list ((range m).map fun (j:Nat)=>PV.int (sumL f (selN cs j):Nat)))) →
     c2 addPV (c2 idxPV (cW (ofString "there")) (c2 subPV (cV (ofString "some")) (c2 powPV (cK (PV.int 2)) (c2 idxPV (cW (ofString "last")) (cK (PV.int 0)))))) (c2 idxPV (cW (ofString "sizes")) (c2 idxPV (cW (ofString "below")) (c2 idxPV (cW (ofString "last")) (cK (PV.int 0))))) l=some (.int (sumL f (selN cs m):Nat)):=by
    intro l k1 k2 k3 k4 k5
    obtain ⟨i,r,hir⟩:∃ i r,bitsN cs.length m=i :: r:=List.exists_cons_of_ne_nil bne
    have hi:i∈bitsN cs.length m:=by rw [hir]; simp
    obtain ⟨j1,j2,j3,j4⟩:=hbit i hi
    have a0:idxPV (.list ((bitsN cs.length m).map fun (i:Nat)=>PV.int (i:Int))) (.int 0)=some (.int (i:Int)):=by
     rw [hir]
     show nth ((i :: r).map fun (i:Nat)=>PV.int (i:Int)) ((0:Nat):Int)=_
     have hbl:(bitsN cs.length m).length≤7:=le_trans (List.length_filter_le _ _) (by simpa using h7)
     rw [nth_map (by simp) (by rw [← hir]; lia)]
     rfl
    have a1:powPV (.int 2) (.int (i:Int))=some (.int ((2 ^ i:Nat):Int)):=pow_nat (b:=2) (by lia) (by lia)
    have a2:=sub_nat j2
    have b1:cV (ofString "some") l=some (.int (m:Int)):=zA3 k2
    have b2:cW (ofString "last") l=some (.list ((bitsN cs.length m).map fun (i:Nat)=>PV.int (i:Int))):=by first | exact zC2 k1 | exact zK0 k1
    have b4:cW (ofString "there") l=some (.list ((range m).map fun (j:Nat)=>PV.int (sumL f (selN cs j):Nat))):=by first | exact zC2 k5 | exact zK0 k5
    have b5:cW (ofString "below") l=some (encN cs):=by first | exact zC2 k3 | exact zK0 k3
    have b6:cW (ofString "sizes") l=some (encN sz):=by first | exact zC2 k4 | exact zK0 k4
    simp only [c2,b1,b2,b4,b5,b6,cK,a0,a1,a2,hS _ j3,hcs i j1,hsz' i j1,zK2,bind_some,sum_sel hi]
   have q1:look ((ofString "some",Loc.fz (PV.int (m:Int))) :: l) (ofString "below")=some (.fz (encN cs)):=g3
   have q2:look ((ofString "some",Loc.fz (PV.int (m:Int))) :: l) (ofString "some")=some (.fz (.int (m:Int))):=rfl
   refine ⟨(ofString "there",.ow (.list (((range m).map fun (j:Nat)=>PV.int (sumL f (selN cs j):Nat)) ++ [.int (sumL f (selN cs m):Nat)]))) :: (ofString "least",.ow (.list (((range m).map fun (j:Nat)=>PV.int (best f (selN cs j):Nat)) ++ [.int (best f (selN cs m):Nat)]))) ::
    (ofString "last",.fz (.list ((bitsN cs.length m).map fun (i:Nat)=>PV.int (i:Int)))) :: (ofString "some",.fz (.int (m:Int))) :: l,?_,?_⟩
   ·simp only [bind_some,cons_append,nil_append]
    rw [zA5 (zB4 (hlast _ q1 q2))]
    rw [zA5 (app_go (xs:=(range m).map fun (j:Nat)=>PV.int (best f (selN cs j):Nat)) (by exact g1) (hmin _ rfl rfl (by exact g3) (by exact g4) (by exact g1) (by exact g2)) (by simp; lia))]
    rw [zA5 (app_go (xs:=(range m).map fun (j:Nat)=>PV.int (sumL f (selN cs j):Nat)) (by exact g2) (hth _ rfl rfl (by exact g3) (by exact g5) (by exact g2)) (by simp; lia))]
   ·exact ⟨by rw [range_succ,map_append]; rfl,by rw [range_succ,map_append]; rfl,g3,g4,g5⟩
  ·rintro l ⟨g1,g2,g3,g4,g5⟩
   rw [length_map,length_range,show 2 ^ cs.length - 1 + 1=2 ^ cs.length by lia] at g1 g2
   have hlast:∀ g:Nat→Nat,nth ((range (2 ^ cs.length)).map fun (j:Nat)=>PV.int (g j:Int)) (-1)=some (.int (g (2 ^ cs.length - 1):Int)):=fun g=>by
    unfold nth
    have z2:2 ^ cs.length≤sizeLine:=zA6 (by lia)
    rw [length_map,length_range,if_pos z2,if_neg (by decide),if_pos (by lia)]
    have e1:((-1:Int) + ((2 ^ cs.length:Nat):Int)).toNat=2 ^ cs.length - 1:=by lia
    rw [e1,getElem?_map,List.getElem?_range (by lia)]
    rfl
   have b1:cW (ofString "least") (freeze l)=some (.list ((range (2 ^ cs.length)).map fun (j:Nat)=>PV.int (best f (selN cs j):Nat))):=zC2 (zE3 (q:=.ow _) g1)
   have b2:cW (ofString "there") (freeze l)=some (.list ((range (2 ^ cs.length)).map fun (j:Nat)=>PV.int (sumL f (selN cs j):Nat))):=zC2 (zE3 (q:=.ow _) g2)
   have i1:c2 idxPV (cW (ofString "least")) (cK (PV.int (-1))) (freeze l)=some (.int (best f cs:Nat)):=by
    simp only [c2,b1,cK,bind_some]
    show nth _ (-1)=_
    rw [hlast fun j=>best f (selN cs j),sel_full]
   have i2:c2 idxPV (cW (ofString "there")) (cK (PV.int (-1))) (freeze l)=some (.int (sumL f cs:Nat)):=by
    simp only [c2,b2,cK,bind_some]
    show nth _ (-1)=_
    rw [hlast fun j=>sumL f (selN cs j),sel_full]
   have z2:2≤sizeLine:=zA6 (by lia)
   have i3:cTup (cCons (c2 idxPV (cW (ofString "least")) (cK (PV.int (-1)))) (cCons (c2 idxPV (cW (ofString "there")) (cK (PV.int (-1)))) cNil)) (freeze l)=some (.tup [.int (best f cs:Nat),.int (sumL f cs:Nat)]):=by
    exact ctup_at (cc2 i1 i2) (show 2≤1000 by decide)
   simp only [bind_some,i3,map_some,goO,outV]
theorem pick_rev {α:Type} (xs:List α):pick xs none none (some (-1))=xs.reverse:=by
 unfold pick
 rw [krv_bounds]
 show (sliceRange ((xs.length:Int) - 1) (-1) (-1)).filterMap (xs[·]?)=_
 rw [krv_sliceRange,krv_range,List.filterMap_reverse]
 congr 1
 exact List.filterMap_getElem?_range_length xs
theorem zM5 {f g:PS}:∀ {l:List Nat},(∀ x∈l,f x=g x)→∀ acc,costA f acc l=costA g acc l
 | [],_,_=>rfl
 | x :: r,h,acc=>by
  simp only [costA,h x (by simp),zM5 (l:=r) fun y hy=>h y (by simp [hy])]
theorem sumL_congr {f g:PS} {l:List Nat} (h:∀ x∈l,f x=g x):sumL f l=sumL g l:=by
 unfold sumL
 rw [List.map_congr_left fun x hx=>by rw [h x hx]]
theorem best_congr {f g:PS} {l:List Nat} (h:∀ x∈l,f x=g x):best f l=best g l:=by
 apply Nat.le_antisymm
 ·refine le_trans (best_le (srt_perm g l)) (Nat.le_of_eq ?_)
  exact zM5 (fun x hx=>h x ((srt_perm g l).subset hx)) 0
 ·refine le_trans (best_le (srt_perm f l)) (Nat.le_of_eq ?_)
  exact (zM5 (fun x hx=>(h x ((srt_perm f l).subset hx))) 0).symm
noncomputable def Tr.kids (T:Tr) (k:Nat):List Nat:=((range (7 - k)).map fun i=>k + 1 + i).filter fun c=>T.up c == k
theorem Tr.kids_mem {T:Tr} {k c:Nat}:c∈T.kids k ↔ k < c∧c < 8∧T.up c=k:=by
 unfold Tr.kids
 rw [List.mem_filter,mem_map]
 constructor
 ·rintro ⟨⟨i,hi,rfl⟩,h⟩
  have:=mem_range.mp hi
  exact ⟨by lia,by lia,by simpa using h⟩
 ·rintro ⟨h1,h2,h3⟩
  obtain ⟨i,rfl⟩:∃ i,c=k + 1 + i:=⟨c - (k + 1),(Nat.add_sub_cancel' h1).symm⟩
  exact ⟨⟨i,mem_range.mpr (by lia),rfl⟩,by simpa using h3⟩
theorem Tr.kids_len (T:Tr) (k:Nat):(T.kids k).length≤7:=by
 unfold Tr.kids
 refine le_trans (List.length_filter_le _ _) ?_
 simp
theorem Tr.kids_nodup (T:Tr) (k:Nat):(T.kids k).Nodup:=by
 unfold Tr.kids
 refine List.Pairwise.filter _ ?_
 rw [List.pairwise_map]
 exact nodup_range.imp fun h=>by lia
theorem fixN_dn {α:Type} {d e:α} {c:Nat→(Nat→α)→α} {k:Nat} :
  fixN d (fun k f=>c k fun x=>if k < x∧x < 8 then f x else e) (8 - k + 1) k=c k fun x=>if k < x∧x < 8 then fixN d (fun k f=>c k fun x=>if k < x∧x < 8 then f x else e) (8 - x + 1) x else e:=by
 have lt:∀ {k x:Nat},k < x∧x < 8→8 - x < 8 - k:=fun h=>Nat.sub_lt_sub_left (Nat.lt_trans h.1 h.2) h.1
 refine congrArg (c k) (funext fun x=>?_)
 split
 ·refine fixN_eq (fun k=>8 - k) (fun k f g e=>congrArg (c k) (funext fun x=>?_)) _ _ _ (lt ‹_›) (Nat.lt_succ_self _)
  split
  ·exact e _ (lt ‹_›)
  ·rfl
 ·rfl
noncomputable def Tr.peak (T:Tr) (k:Nat):Nat :=
 fixN 0 (fun k f=>max (max (best (fun x=>(if k < x∧x < 8 then f x else 0,T.size x)) (T.kids k)) (sumL (fun x=>(0,T.size x)) (T.kids k) + 10 + (T.pth k).length)) (T.size k)) (8 - k + 1) k
noncomputable def Tr.ps (T:Tr):PS:=fun x=>(T.peak x,T.size x)
theorem Tr.peak_eq (T:Tr) (k:Nat):T.peak k=max (max (best T.ps (T.kids k)) (sumL T.ps (T.kids k) + 10 + (T.pth k).length)) (T.size k):=by
 refine (fixN_dn (c:=fun k f=>max (max (best (fun x=>(f x,T.size x)) (T.kids k)) (sumL (fun x=>(0,T.size x)) (T.kids k) + 10 + (T.pth k).length)) (T.size k))).trans ?_
 congr 2
 refine best_congr fun x hx=>?_
 have:=Tr.kids_mem.mp hx
 exact Prod.ext (if_pos ⟨this.1,this.2.1⟩) rfl
noncomputable def Tr.common (T:Tr) (k:Nat):List Nat:=if (T.kids k).length=0 then [] else if (T.kids k).length=1 then T.pth ((T.kids k).getD 0 0) else T.pth k
noncomputable def entryV (T:Tr) (k:Nat):PV:=.list [.int ((T.st + T.peak k:Nat):Int),.list [.tup [.str (lS T k),.str (T.pS k)]],.int ((T.st + T.size k:Nat):Int),.str (mkS (T.left k ++ T.pth k)),.str (mkS (T.common k))]
theorem encN_map {α:Type} (g:α→Nat) (l:List α):encN (l.map g) = .list (l.map fun x=>PV.int (g x:Int)):=by unfold encN; rw [map_map]; rfl
theorem comp_rng {ι:Type} {xs:Lc→Option (List PV)} {g:PV→Option Lc} {ft:Lc→Option Bool} {fe:Lc→Option PV} {l:Lc} {ys:List PV} {r:PV} {f h:ι→PV} {ks:List ι} (h1:xs l=some ys) (h2:rangePV ys=some r) (h3:iterPV r=some (ks.map f)) (hl:ks.length≤1000)
  (hs:∀ k∈ks,∃ t,g (f k)=some t∧ft (t ++ noZ l)=some true∧fe (t ++ noZ l)=some (h k)):cComp (fun l=>(xs l).bind rangePV) g ft (cApp fe) (.list []) l=some (.list (ks.map h)):=by
 unfold cComp
 rw [head3' h1 h2 h3]
 exact zF1 hl hs
theorem lend_go {x:Option PV} {y z:PStr} {a b:PV} {l:Lc} (h:x=some (.tup [a,b])) (ha:flatP a=true) (hb:flatP b=true):(x.bind fun p=>if flatT p=true then Option.map (fun t=>Out.go (t ++ l)) (tupG [y,z] p) else none)=some (.go ((z,.fz b) :: (y,.fz a) :: l)):=by
 subst h
 rw [bind_some,if_pos (show flatT (PV.tup [a,b])=true by show (flatP a && (flatP b && true))=true; rw [ha,hb]; rfl)]
 rfl
theorem rev8 {α:Type} (e:Nat→α):((range 8).map fun i=>e (7 - i)).reverse=(range 8).map e:=rfl
noncomputable def PkF (T:Tr) (t k:Nat):Nat:=if 8≤k + t then T.peak k else 0
theorem rng_up (k:Nat) (h:k < 8):rngSize ((k:Int) + 1) 8 1=((7 - k:Nat):Int)∧Builtin.Range.small ((k:Int) + 1) 8 1=true:=by
 have:∀ k:Nat,k < 8→rngSize ((k:Int) + 1) 8 1=((7 - k:Nat):Int)∧Builtin.Range.small ((k:Int) + 1) 8 1=true:=by decide +kernel
 exact this k h
theorem len_mk {l:List Nat} (h:l.length≤1000000):lenPV (.str (mkS l))=some (.int ((l.length:Nat):Int)):=by
 (first | rw [lenPV_s] | rw [lenPV_l] | rw [lenPV_t])
 rw [if_pos (zA6 (by rw [zB2]; exact h)),zB2]
theorem zI2 {f:Nat→PStr} {i:Nat} (h:i < 8):idxPV (encS f) (.int (i:Int))=some (.str (f i)):=zC0 (f:=fun (k:Nat)=>PV.str (f k)) rfl rfl h (by lia)
theorem idx_encI {f:Nat→Int} {i:Nat} (h:i < 8):idxPV (encI f) (.int (i:Int))=some (.int (f i)):=zC0 (f:=fun (k:Nat)=>PV.int (f k)) rfl rfl h (by lia)
theorem idx_encM {f:Nat→Nat} {i:Nat} (h:i < 8):idxPV (encN ((range 8).map f)) (.int (i:Int))=some (.int (f i:Int)):=by
 rw [encN_map]
 exact zN2 (f:=fun (k:Nat)=>PV.int (f k:Int)) h (by lia)
theorem iter7m:iterPV (.rng 7 (-1) (-1))=some ((range 8).map fun (i:Nat)=>PV.int ((7 - i:Nat):Int)):=by
 rw [zG5 8 (by decide) (by decide) (by decide)]
 rfl
noncomputable def wantedV (T:Tr):PV:=.list ((range 8).map (entryV T))
theorem f_wanted {k:Nat} {T:Tr} (O:T.Ok):FnSound (k + 2) 325 (oneF [upI T,nmS T,mdI T,.int (T.st:Int)] (wantedV T)):=by
 apply fn_w [ofString "above",ofString "names",ofString "modes",ofString "start"]
 case hat=>exact fun P=>⟨_,rfl,rfl⟩
 case hcode=>exact fun P=>⟨_,_,_,_,rfl,rfl,rfl,rfl⟩
 case hsc=>rfl
 case hxs=>rfl
 case hbind=>exact bind4 (fun _ _ _ _=>rfl)
 case B=>exact (zA1 (zB8 (.inr rfl) (zC9 (f_texts O) gv_lawtexts (fun P=>⟨_,_,rfl,rfl⟩) rfl rfl (zA0 (zA2 (.inr rfl) rfl) (zA0 (zA2 (.inl rfl) rfl) zA4 rfl) rfl)) fun _=>rfl)
 (zA1 (zB8 (.inr rfl) (zC9 (f_left O) gv_lawleft (fun P=>⟨_,_,rfl,rfl⟩) rfl rfl (zA0 (zA2 (.inr rfl) rfl) (zA0 (zA2 (.inl rfl) rfl) zA4 rfl) rfl)) fun _=>rfl)
 (zA1 (ws_lc rfl rfl rfl rfl (fun _ _=>rfl) (zD1 rfl rfl (zA0 zB0 zA4 rfl)) (zC7 rfl rfl rfl rfl) zF5 (zE0 (w_len rfl rfl (zL6 (zB3 (zA9 (.inr rfl) rfl) (zA2 (.inl rfl) rfl) fun _ _=>rfl))) (w_len rfl rfl (zL6 (zB3 (zA9 (.inr rfl) rfl) (zA2 (.inl rfl) rfl) fun _ _=>rfl)))))
 (zA1 (zG3 (.inl rfl) (zH0 (zA0 zB0 (zA0 zB0 (zA0 zB0 (zA0 zB0 (zA0 zB0 (zA0 zB0 (zA0 zB0 (zA0 zB0 zA4 rfl) rfl) rfl) rfl) rfl) rfl) rfl) rfl)) (fun _ _=>rfl))
 (zA1 (zG3 (.inl rfl) (zH0 zA4) (fun _ _=>rfl))
 (zA1 (zG4 (zD1 rfl rfl (zA0 zB0 (zA0 w_neg (zA0 w_neg zA4 rfl) rfl) rfl)) (zF4 (.inr rfl)) (zA1 (ws_lc rfl rfl rfl rfl (fun _ _=>rfl) (zD1 rfl rfl (zA0 (zE0 (zA2 (.inr rfl) rfl) zB0) (zA0 zB0 zA4 rfl) rfl)) (zC7 rfl rfl rfl rfl) (wk_one (wt_eq (zB3 (zA9 (.inr rfl) rfl) (zA2 (.inl rfl) rfl) fun _ _=>rfl) (zA2 (.inr rfl) rfl) rfl)) (zA2 (.inl rfl) rfl))
 (zA1 (ws_lend (zC9 f_least gv_lawleast (fun P=>⟨_,_,rfl,rfl⟩) rfl rfl (zA0 (zA2 (.inl rfl) rfl) (zA0 (zA2 (.inl rfl) rfl) (zA0 (zA2 (.inl rfl) rfl) zA4 rfl) rfl) rfl)) (wg_pair rfl) (fun _=>rfl) fun _=>rfl)
 (zA1 (zH3 (.inl rfl) rfl (w_max rfl rfl (zA0 (zA2 (.inl rfl) rfl) (zA0 (zE0 (zE0 (zA2 (.inl rfl) rfl) zB0) (w_len rfl rfl (zL6 (zB3 (zA9 (.inr rfl) rfl) (zA2 (.inr rfl) rfl) fun _ _=>rfl)))) (zA0 (zB3 (zA9 (.inl rfl) rfl) (zA2 (.inr rfl) rfl) fun _ _=>rfl) zA4 rfl) rfl) rfl)) (zA2 (.inr rfl) rfl) fun _=>rfl)
 (zA1 (zB8 (.inl rfl) (w_ife (wt_not (zL3 (zA2 (.inl rfl) rfl) fun _ _=>rfl)) zE5 (w_ife (wt_eq (w_len rfl rfl (zA9 (.inl rfl) rfl)) zB0 rfl) (zB3 (zA9 (.inr rfl) rfl) (zB3 (zA9 (.inl rfl) rfl) zB0 fun _ _=>rfl) fun _ _=>rfl) (zB3 (zA9 (.inr rfl) rfl) (zA2 (.inr rfl) rfl) fun _ _=>rfl))) fun _=>rfl)
 (zA1 (zC8 (.inl rfl) rfl (zJ1 (zA0 (zE0 (zA2 (.inl rfl) rfl) (zB3 (zA9 (.inl rfl) rfl) (zA2 (.inr rfl) rfl) fun _ _=>rfl)) (zA0 (zJ1 (zA0 (w_tup (zA0 (zB3 (zA9 (.inr rfl) rfl) (zA2 (.inr rfl) rfl) fun _ _=>rfl) (zA0 (zB3 (zA9 (.inr rfl) rfl) (zA2 (.inr rfl) rfl) fun _ _=>rfl) zA4 rfl) rfl)) zA4 rfl)) (zA0 (zE0 (zA2 (.inl rfl) rfl) (zB3 (zA9 (.inl rfl) rfl) (zA2 (.inr rfl) rfl) fun _ _=>rfl)) (zA0 (zE0 (zB3 (zA9 (.inr rfl) rfl) (zA2 (.inr rfl) rfl) fun _ _=>rfl) (zB3 (zA9 (.inr rfl) rfl) (zA2 (.inr rfl) rfl) fun _ _=>rfl)) (zA0 (zA2 (.inl rfl) rfl) zA4 rfl) rfl) rfl) rfl) rfl)) rfl (fun _=>rfl) rfl rfl)
 zA8))))) zA8 fun _ _=>rfl)
 (zA1 (zD9 (zH8 (zA9 (.inl rfl) rfl) zD5 zD5 (zF6 w_neg) _ fun _ _=>rfl))
 zA8)))))))
 case hφ =>
  intro ps p h
  obtain ⟨rfl,rfl⟩:=zE2 h
  refine zG6 (L:=[(ofString "start",.fz (.int (T.st:Int))),(ofString "modes",.fz (mdI T)),(ofString "names",.fz (nmS T)),(ofString "above",.fz (upI T))]) rfl ?_
  rw [zA5 (zB4 (bd1 (cc2 (zA3 rfl) (zA3 rfl)) (zI0 _ _)))]
  rw [zA5 (zB4 (bd1 (cc2 (zA3 rfl) (zA3 rfl)) (zI0 _ _)))]
  have hsz:∀ l:Lc,look l (ofString "left")=some (.fz (encS (lS T)))→look l (ofString "texts")=some (.fz (encS T.pS)) →
    cComp (fun l=>(cCons (cK (PV.int 8)) cNil l).bind rangePV) (fun p=>some [(ofString "k",Loc.fz p)]) (fun x=>some true)
     (cApp (c2 addPV (fun l=>(c2 idxPV (cW (ofString "left")) (cV (ofString "k")) l).bind lenPV) fun l=>(c2 idxPV (cW (ofString "texts")) (cV (ofString "k")) l).bind lenPV)) (PV.list []) l=some (encN ((range 8).map T.size)):=by
   intro l k1 k2
   rw [encN_map]
   refine comp_rng (cc1 rfl) rfl iter08 (by decide) fun k hk=>⟨_,rfl,rfl,?_⟩
   have hk:=mem_range.mp hk
   have b1:look ([(ofString "k",Loc.fz (PV.int (k:Int)))] ++ noZ l) (ofString "left")=some (.fz (encS (lS T))):=zC4 (by decide) k1 (by decide)
   have b2:look ([(ofString "k",Loc.fz (PV.int (k:Int)))] ++ noZ l) (ofString "texts")=some (.fz (encS T.pS)):=zC4 (by decide) k2 (by decide)
   have b3:look ([(ofString "k",Loc.fz (PV.int (k:Int)))] ++ noZ l) (ofString "k")=some (.fz (.int (k:Int))):=rfl
   have ll:=T.left_len k
   have lp:=O.pth_len hk
   refine zA7 (p:=.int ((T.left k).length:Nat)) (q:=.int ((T.pth k).length:Nat)) ?_ ?_ (zK2 _ _)
   ·show (c2 idxPV _ _ _).bind lenPV=_
    rw [zA7 (zC2 b1) (zA3 b3) (zI2 hk)]
    exact len_mk (by lia)
   ·show (c2 idxPV _ _ _).bind lenPV=_
    rw [zA7 (zC2 b2) (zA3 b3) (zI2 hk)]
    exact len_mk (by lia)
  have z8:8≤sizeLine:=zA6 (by lia)
  rw [zA5 (zB4 (hsz _ rfl rfl))]
  rw [zA5 (zJ5 (p:=.list ((range 8).map fun (k:Nat)=>PV.int (PkF T 0 k:Int))) ?hpk)]
  case hpk =>
   exact (zD7 (ccS rfl (ccS rfl (ccS rfl (ccS rfl (ccS rfl (ccS rfl (cc2 rfl rfl))))))) (show 8≤1000 by lia)).trans rfl
  rw [zA5 (zJ5 (p:=.list []) (zD7 rfl (zero_le _)))]
  refine seq_for (cc3 rfl rfl rfl) rfl iter7m ?_
  refine zE4 (fun pre l=>look l (ofString "peaks")=some (.ow (.list ((range 8).map fun (k:Nat)=>PV.int (PkF T pre.length k:Int))))∧look l (ofString "wanted")=some (.ow (.list ((range pre.length).map fun i=>entryV T (7 - i)))) ∧
   look l (ofString "texts")=some (.fz (encS T.pS))∧look l (ofString "left")=some (.fz (encS (lS T)))∧look l (ofString "sizes")=some (.fz (encN ((range 8).map T.size)))∧look l (ofString "above")=some (.fz (upI T))∧look l (ofString "start")=some (.fz (.int (T.st:Int)))) ?_ ?_ ?_
  ·exact ⟨rfl,rfl,rfl,rfl,rfl,rfl,rfl⟩
  ·rintro pre p post l e ⟨g1,g2,g3,g4,g5,g6,g7⟩
   obtain ⟨ht,rfl⟩:=map_at e
   rw [length_append,length_singleton]
   generalize pre.length=t at ht g1 g2 ⊢
   clear e
   obtain ⟨k,hk,hkt⟩:∃ k,k < 8∧7 - t=k:=⟨7 - t,by lia,rfl⟩
   rw [hkt]
   have hkk:=T.kids_len k
   have hbelow:∀ l:Lc,look l (ofString "above")=some (.fz (upI T))→look l (ofString "k")=some (.fz (.int (k:Int))) →
     cComp (fun l=>(cCons (c2 addPV (cV (ofString "k")) (cK (PV.int 1))) (cCons (cK (PV.int 8)) cNil) l).bind rangePV) (fun p=>some [(ofString "c",Loc.fz p)])
      (fun l=>(c2 eqPV (c2 idxPV (cW (ofString "above")) (cV (ofString "c"))) (cV (ofString "k")) l).bind asB) (cApp (cV (ofString "c"))) (PV.list []) l=some (encN (T.kids k)):=by
    intro l k1 k2
    have hz:=rng_up k hk
    unfold cComp
    rw [head3' (cc2 (zA7 (zA3 k2) rfl rfl) rfl) (show rangePV [PV.int ((k:Int) + 1),PV.int 8]=some (.rng ((k:Int) + 1) 8 1) from rfl) (zG5 (7 - k) hz.1 hz.2 (by lia))]
    have e0:((range (7 - k)).map fun (i:Nat)=>PV.int ((k:Int) + 1 + (i:Int) * 1))=((range (7 - k)).map fun i=>k + 1 + i).map fun (c:Nat)=>PV.int (c:Int):=by
     rw [map_map]
     apply List.map_congr_left
     intro i _
     show PV.int ((k:Int) + 1 + (i:Int) * 1)=PV.int ((k + 1 + i:Nat):Int)
     congr 1
     lia
    rw [e0,zN8 (h:=fun p=>p) (b:=fun p=>T.up (p.toInt.getD 0).toNat == k) _ _ (by simp; lia)]
    ·rw [nil_append,List.map_id',List.filter_map]
     rfl
    ·intro p hp
     obtain ⟨c,hc,rfl⟩:=mem_map.mp hp
     obtain ⟨i,hi,rfl⟩:=mem_map.mp hc
     have hi:=mem_range.mp hi
     generalize hcc:k + 1 + i=c
     have hc8:c < 8:=by lia
     have b1:look ([(ofString "c",Loc.fz (PV.int (c:Int)))] ++ noZ l) (ofString "above")=some (.fz (upI T)):=zC4 (by decide) k1 (by decide)
     have b2:look ([(ofString "c",Loc.fz (PV.int (c:Int)))] ++ noZ l) (ofString "k")=some (.fz (.int (k:Int))):=zC4 (by decide) k2 (by decide)
     have b3:look ([(ofString "c",Loc.fz (PV.int (c:Int)))] ++ noZ l) (ofString "c")=some (.fz (.int (c:Int))):=rfl
     refine ⟨_,rfl,?_,fun _=>zA3 b3⟩
     rw [zA7 (zA7 (zC2 b1) (zA3 b3) (idx_encI (f:=fun k=>(T.up k:Int)) hc8)) (zA3 b2) (eq_nat _ _)]
     show some (decide (T.up c=k))=some (T.up c == k)
     congr 1
   have hbest:best (psOf ((range 8).map (PkF T t)) ((range 8).map T.size)) (T.kids k)=best T.ps (T.kids k)∧sumL (psOf ((range 8).map (PkF T t)) ((range 8).map T.size)) (T.kids k)=sumL T.ps (T.kids k):=by
    have hc:∀ x∈T.kids k,psOf ((range 8).map (PkF T t)) ((range 8).map T.size) x=T.ps x:=fun x hx=>by
     have hx:=Tr.kids_mem.mp hx
     unfold psOf Tr.ps
     rw [getD_eq_getElem?_getD,getD_eq_getElem?_getD,getElem?_map,getElem?_map,List.getElem?_range hx.2.1]
     show (PkF T t x,T.size x)=_
     unfold PkF
     rw [if_pos (by lia)]
    exact ⟨best_congr hc,sumL_congr hc⟩
   have hleast:leastPV [encN (T.kids k),.list ((range 8).map fun (k:Nat)=>PV.int (PkF T t k:Int)),encN ((range 8).map T.size)]=some (.tup [.int (best T.ps (T.kids k):Nat),.int (sumL T.ps (T.kids k):Nat)]):=by
    have:=leastPV_at (t:=(T.kids k,(range 8).map (PkF T t),(range 8).map T.size)) ⟨hkk,fun c hc=>by simpa using (Tr.kids_mem.mp hc).2.1,by simp,by simp⟩
    unfold LArg.enc LArg.res at this
    dsimp only at this
    rw [hbest.1,hbest.2,encN_map (PkF T t)] at this
    exact this
   have lp:=O.pth_len hk
   have ll:=T.left_len k
   have hset:setPV (.list ((range 8).map fun (k:Nat)=>PV.int (PkF T t k:Int))) (.int (k:Int)) (.int (T.peak k:Nat))=some (.list ((range 8).map fun (j:Nat)=>PV.int (PkF T (t + 1) j:Int))):=by
    (first | rw [setPV_l] | rw [setPV_d])
    rw [if_pos (by rw [length_map,length_range]; exact ⟨by lia,by lia,z8⟩)]
    rw [Int.toNat_natCast,set_range (f:=fun (k:Nat)=>PV.int (PkF T t k:Int)) hk]
    congr 2
    apply List.map_congr_left
    intro j hj
    have hj:=mem_range.mp hj
    unfold PkF
    by_cases q:j=k
    ·subst q; rw [if_pos rfl,if_pos (by lia)]
    ·rw [if_neg q]
     by_cases q2:8≤j + t
     ·rw [if_pos q2,if_pos (by lia)]
     ·rw [if_neg q2,if_neg (by lia)]
   have hpk1:PkF T (t + 1) k=T.peak k:=by unfold PkF; rw [if_pos (by lia)]
   have htxt:∀ l:Lc,look l (ofString "texts")=some (.fz (encS T.pS))→look l (ofString "k")=some (.fz (.int (k:Int)))→c2 idxPV (cW (ofString "texts")) (cV (ofString "k")) l=some (.str (T.pS k)):=fun l k1 k2=>zA7 (zC2 k1) (zA3 k2) (zI2 hk)
   have hlft:∀ l:Lc,look l (ofString "left")=some (.fz (encS (lS T)))→look l (ofString "k")=some (.fz (.int (k:Int)))→c2 idxPV (cW (ofString "left")) (cV (ofString "k")) l=some (.str (lS T k)):=fun l k1 k2=>zA7 (zC2 k1) (zA3 k2) (zI2 hk)
   have hszk:∀ l:Lc,look l (ofString "sizes")=some (.fz (encN ((range 8).map T.size)))→look l (ofString "k")=some (.fz (.int (k:Int)))→c2 idxPV (cW (ofString "sizes")) (cV (ofString "k")) l=some (.int (T.size k:Int)):=fun l k1 k2=>zA7 (zC2 k1) (zA3 k2) (idx_encM hk)
   have hmax:∀ l:Lc,look l (ofString "texts")=some (.fz (encS T.pS))→look l (ofString "k")=some (.fz (.int (k:Int)))→look l (ofString "sizes")=some (.fz (encN ((range 8).map T.size)))→look l (ofString "least")=some (.fz (.int (best T.ps (T.kids k):Nat)))→look l (ofString "there")=some (.fz (.int (sumL T.ps (T.kids k):Nat))) →
     (cCons (cV (ofString "least")) (cCons (c2 addPV (c2 addPV (cV (ofString "there")) (cK (PV.int 10))) fun l=>(c2 idxPV (cW (ofString "texts")) (cV (ofString "k")) l).bind lenPV) (cCons (c2 idxPV (cW (ofString "sizes")) (cV (ofString "k"))) cNil)) l).bind maxPV=some (.int (T.peak k:Nat)):=by
    intro l k1 k2 k3 k4 k5
    have a1:addPV (.int (sumL T.ps (T.kids k):Nat)) (.int 10)=some (.int (sumL T.ps (T.kids k) + 10:Nat)):=zK2 _ 10
    have a2:(c2 idxPV (cW (ofString "texts")) (cV (ofString "k")) l).bind lenPV=some (.int ((T.pth k).length:Nat)):=by
     rw [htxt l k1 k2]; exact len_mk (by lia)
    refine bd1 (cc3 (zA3 k4) (zA7 (zA7 (zA3 k5) rfl a1) a2 (zK2 _ _)) (hszk l k3 k2)) ?_
    rw [T.peak_eq k]
    exact max_3 _ _ _
   have hcommon:∀ l:Lc,look l (ofString "texts")=some (.fz (encS T.pS))→look l (ofString "k")=some (.fz (.int (k:Int)))→look l (ofString "below")=some (.fz (encN (T.kids k))) →
     (Option.map (fun x=>!x) ((cV (ofString "below") l).bind truthPV)).bind (fun c=>if c=true then cK (PV.str (ofString "")) l else
      ((c2 eqPV (fun l=>(cW (ofString "below") l).bind lenPV) (cK (PV.int 1)) l).bind asB).bind fun c=>if c=true then c2 idxPV (cW (ofString "texts")) (c2 idxPV (cW (ofString "below")) (cK (PV.int 0))) l else c2 idxPV (cW (ofString "texts")) (cV (ofString "k")) l)=some (.str (mkS (T.common k))):=by
    intro l k1 k2 k3
    have zk:(T.kids k).length≤sizeLine:=zA6 (by lia)
    have e1:truthPV (encN (T.kids k))=some (!(T.kids k).isEmpty):=by
     unfold encN
     (first | rw [truthPV_s] | rw [truthPV_l])
     rw [length_map,if_pos zk]
     simp
    have e2:lenPV (encN (T.kids k))=some (.int ((T.kids k).length:Nat)):=by
     unfold encN
     (first | rw [lenPV_s] | rw [lenPV_l] | rw [lenPV_t])
     rw [length_map,if_pos zk]
    have e3:c2 eqPV (fun l=>(cW (ofString "below") l).bind lenPV) (cK (PV.int 1)) l=some (.bool (decide ((T.kids k).length=1))):=by
     refine zA7 (p:=.int ((T.kids k).length:Nat)) ?_ rfl (eq_nat (T.kids k).length 1)
     show (cW _ l).bind lenPV=_
     rw [zC2 k3]; exact e2
    rw [zA3 k3,bind_some,e1,map_some,bind_some,e3]
    rw [show (some (PV.bool (decide ((T.kids k).length=1)))).bind asB=some (decide ((T.kids k).length=1)) from rfl]
    simp only [bind_some]
    unfold Tr.common
    rcases hq:T.kids k with _ | ⟨a,r⟩
    ·exact congrArg some (congrArg PV.str mkS_none.symm)
    ·have ha:a∈T.kids k:=by rw [hq]; simp
     have ha8:=(Tr.kids_mem.mp ha).2.1
     simp only [List.isEmpty_cons,Bool.not_false,Bool.not_true,false_eq_true,if_false,length_cons]
     rw [if_neg (show ¬ (r.length + 1=0) by lia)]
     by_cases h1:r.length + 1=1
     ·rw [if_pos h1]
      simp only [h1,decide_true,if_true]
      refine (zA7 (zC2 k1) (zA7 (zC2 k3) rfl (q:=.int 0) (r:=.int (a:Int)) ?_) (zI2 ha8)).trans rfl
      rw [hq]
      have:=idx_encN (l:=a :: r) (i:=0) (by simp) (by rw [hq] at hkk; lia)
      exact this
     ·rw [if_neg h1]
      simp only [h1,decide_false,false_eq_true,if_false]
      exact htxt l k1 k2
   have hent:∀ l:Lc,look l (ofString "texts")=some (.fz (encS T.pS))→look l (ofString "left")=some (.fz (encS (lS T)))→look l (ofString "k")=some (.fz (.int (k:Int)))→look l (ofString "sizes")=some (.fz (encN ((range 8).map T.size)))→look l (ofString "start")=some (.fz (.int (T.st:Int))) →
     look l (ofString "peaks")=some (.ow (.list ((range 8).map fun (k:Nat)=>PV.int (PkF T (t + 1) k:Int))))→look l (ofString "common")=some (.fz (.str (mkS (T.common k)))) →
     cList (cCons (c2 addPV (cV (ofString "start")) (c2 idxPV (cW (ofString "peaks")) (cV (ofString "k")))) (cCons (cList (cCons (cTup (cCons (c2 idxPV (cW (ofString "left")) (cV (ofString "k"))) (cCons (c2 idxPV (cW (ofString "texts")) (cV (ofString "k"))) cNil))) cNil))
      (cCons (c2 addPV (cV (ofString "start")) (c2 idxPV (cW (ofString "sizes")) (cV (ofString "k")))) (cCons (c2 addPV (c2 idxPV (cW (ofString "left")) (cV (ofString "k"))) (c2 idxPV (cW (ofString "texts")) (cV (ofString "k")))) (cCons (cV (ofString "common")) cNil))))) l=some (entryV T k):=by
    intro l k1 k2 k3 k4 k5 k6 k7
    have z1:1≤sizeLine:=zA6 (by lia)
    have z2:2≤sizeLine:=zA6 (by lia)
    have z5:5≤sizeLine:=zA6 (by lia)
    have i1:c2 addPV (cV (ofString "start")) (c2 idxPV (cW (ofString "peaks")) (cV (ofString "k"))) l=some (.int ((T.st + T.peak k:Nat):Int)):=by
     refine zA7 (zA3 k5) (zA7 (zK0 k6) (zA3 k3) (zN2 (f:=fun (k:Nat)=>PV.int (PkF T (t + 1) k:Int)) hk (by lia))) ?_
     rw [hpk1]
     exact zK2 _ _
    have i3:c2 addPV (cV (ofString "start")) (c2 idxPV (cW (ofString "sizes")) (cV (ofString "k"))) l=some (.int ((T.st + T.size k:Nat):Int)):=zA7 (zA3 k5) (hszk l k4 k3) (zK2 _ _)
    have i4:c2 addPV (c2 idxPV (cW (ofString "left")) (cV (ofString "k"))) (c2 idxPV (cW (ofString "texts")) (cV (ofString "k"))) l=some (.str (mkS (T.left k ++ T.pth k))):=zA7 (hlft l k2 k3) (htxt l k1 k3) (add_str (by lia))
    have i2:=ctup_at (cc2 (hlft l k2 k3) (htxt l k1 k3)) (by simp)
    exact zD7 (ccS i1 (ccS (zD7 (cc1 i2) (by simp)) (ccS i3 (ccS i4 (cc1 (zA3 k7)))))) (by simp)
   refine ⟨(ofString "wanted",.ow (.list (((range t).map fun i=>entryV T (7 - i)) ++ [entryV T k]))) :: (ofString "common",.fz (.str (mkS (T.common k)))) :: (ofString "peaks",.ow (.list ((range 8).map fun (k:Nat)=>PV.int (PkF T (t + 1) k:Int)))) ::
    (ofString "there",.fz (.int (sumL T.ps (T.kids k):Nat))) :: (ofString "least",.fz (.int (best T.ps (T.kids k):Nat))) :: (ofString "below",.fz (encN (T.kids k))) :: (ofString "k",.fz (.int (k:Int))) :: l,?_,?_⟩
   ·rw [bind_some,singleton_append]
    rw [zA5 (zB4 (hbelow _ (by exact g6) rfl))]
    have hl1:((cCons (cV (ofString "below")) (cCons (cV (ofString "peaks")) (cCons (cV (ofString "sizes")) cNil)) (freeze ((ofString "below",Loc.fz (encN (T.kids k))) :: (ofString "k",Loc.fz (PV.int (k:Int))) :: l))).bind leastPV)=some (.tup [.int (best T.ps (T.kids k):Nat),.int (sumL T.ps (T.kids k):Nat)]) :=
     bd1 (cc3 (zA3 (zE3 (q:=.fz _) rfl)) (zA3 (zE3 (q:=.ow _) g1)) (zA3 (zE3 (q:=.fz _) g5))) hleast
    rw [zA5 (l':=(ofString "there",.fz (.int (sumL T.ps (T.kids k):Nat))) :: (ofString "least",.fz (.int (best T.ps (T.kids k):Nat))) :: (ofString "below",.fz (encN (T.kids k))) :: (ofString "k",.fz (.int (k:Int))) :: l) (lend_go hl1 rfl rfl)]
    rw [zA5 (item_go (by exact g1) (hmax _ (by exact g3) rfl (by exact g5) rfl rfl) (zA3 rfl) hset)]
    rw [zA5 (zB4 (hcommon _ (by exact g3) rfl rfl))]
    rw [zA5 (app_go (xs:=(range t).map fun i=>entryV T (7 - i)) (by exact g2) (hent _ (by exact g3) (by exact g4) rfl (by exact g5) (by exact g7) rfl rfl) (by simp; lia))]
   ·exact ⟨rfl,by rw [range_succ (n:=t),map_append,← hkt]; rfl,g3,g4,g5,g6,g7⟩
  ·rintro l ⟨g1,g2,g3,g4,g5,g6,g7⟩
   have hw:cW (ofString "wanted") (freeze l)=some (.list ((range 8).map fun i=>entryV T (7 - i))):=by
    simp only [length_map,length_range] at g2
    exact zC2 (zE3 (q:=.ow _) g2)
   have hsl:slicePV (.list ((range 8).map fun i=>entryV T (7 - i))) none none (some (-1))=some (wantedV T):=by
    (first | rw [zH4] | rw [slicePV_s])
    rw [if_pos ⟨by rw [length_map,length_range]; exact z8,by simp⟩,pick_rev,rev8]
    rfl
   exact zH9 (zF3 hw rfl rfl (asI_at rfl) hsl)
noncomputable def told (ns:List Int) (k:Nat):Int:=(pick ns (some (k:Int)) none (some 8)).sum
noncomputable def aL:List Int:=[0,0,0,0,1,1,2,3]
noncomputable def bL:List Int:=[0,16832,16841,16896,32768,41471,4480,35309]
noncomputable def drawn (ns:List Int):Tr where
 up k:=((aL.getD k 0 + told ns k) % (k:Int)).toNat
 nm k:=(1 + told ns k / (k:Int) % 3).toNat
 md k:=if k=0 then ((16877 + told ns 0 / 8) % 4294967296).toNat else ((bL.getD k 0 + told ns k / (k:Int) / 3) % 4294967296).toNat
 st:=(told ns 0 % 8).toNat
noncomputable def tree (ns:List Int):Tr:={ drawn ns with up:=fun k=>if k=0 then 0 else (drawn ns).up k }
theorem tree_ok (ns:List Int):(tree ns).Ok where
 up k h:=by
  show (if k=0 then 0 else (drawn ns).up k) < k
  rw [if_neg (by lia)]
  show ((aL.getD k 0 + told ns k) % (k:Int)).toNat < k
  have h1:=Int.emod_nonneg (aL.getD k 0 + told ns k) (show (k:Int)≠0 by lia)
  have h2:=Int.emod_lt_of_pos (aL.getD k 0 + told ns k) (show (0:Int) < k by lia)
  lia
 nm k h:=by
  show 1≤(1 + told ns k / (k:Int) % 3).toNat∧(1 + told ns k / (k:Int) % 3).toNat≤3
  have h1:=Int.emod_nonneg (told ns k / (k:Int)) (show (3:Int)≠0 by lia)
  have h2:=Int.emod_lt_of_pos (told ns k / (k:Int)) (show (0:Int) < 3 by lia)
  lia
 st:=by
  show (told ns 0 % 8).toNat < 8
  lia
 md k:=by
  show (if k=0 then ((16877 + told ns 0 / 8) % 4294967296).toNat else ((bL.getD k 0 + told ns k / (k:Int) / 3) % 4294967296).toNat) < 4294967296
  split <;> lia
theorem up_tree (ns:List Int) {k:Nat} (h:0 < k):(((tree ns).up k:Nat):Int)=(aL.getD k 0 + told ns k) % (k:Int):=by
 show (((if k=0 then 0 else (drawn ns).up k):Nat):Int)=_
 rw [if_neg (by lia)]
 show ((((aL.getD k 0 + told ns k) % (k:Int)).toNat:Nat):Int)=_
 exact Int.toNat_of_nonneg (Int.emod_nonneg _ (by lia))
theorem nm_tree (ns:List Int) {k:Nat} (h:0 < k):(((tree ns).nm k:Nat):Int)=1 + told ns k / (k:Int) % 3:=by
 show (((1 + told ns k / (k:Int) % 3).toNat:Nat):Int)=_
 refine Int.toNat_of_nonneg ?_
 have h1:=Int.emod_nonneg (told ns k / (k:Int)) (show (3:Int)≠0 by lia)
 lia
theorem md_tree (ns:List Int) {k:Nat} (h:0 < k):(((tree ns).md k:Nat):Int)=(bL.getD k 0 + told ns k / (k:Int) / 3) % 4294967296:=by
 show (((if k=0 then ((16877 + told ns 0 / 8) % 4294967296).toNat else ((bL.getD k 0 + told ns k / (k:Int) / 3) % 4294967296).toNat):Nat):Int)=_
 rw [if_neg (by lia)]
 exact Int.toNat_of_nonneg (Int.emod_nonneg _ (by lia))
theorem md_zero (ns:List Int):(((tree ns).md 0:Nat):Int)=(16877 + told ns 0 / 8) % 4294967296:=by
 show ((((16877 + told ns 0 / 8) % 4294967296).toNat:Nat):Int)=_
 exact Int.toNat_of_nonneg (Int.emod_nonneg _ (by lia))
theorem st_tree (ns:List Int):(((tree ns).st:Nat):Int)=told ns 0 % 8:=by
 show (((told ns 0 % 8).toNat:Nat):Int)=_
 exact Int.toNat_of_nonneg (Int.emod_nonneg _ (by lia))
theorem pick_map {α β:Type} (f:α→β) (xs:List α) (lo hi st:Option Int):pick (xs.map f) lo hi st=(pick xs lo hi st).map f:=by
 unfold pick
 rw [List.map_filterMap,length_map]
 congr 1
 funext i
 rw [getElem?_map]
theorem mul_mk (c n:Nat):Txt.mul (mkS [c]) (n:Int)=mkS (List.replicate n c):=by
 unfold Txt.mul
 by_cases h0:(n:Int) < 1
 ·have:n=0:=by lia
  subst this; rw [if_pos h0]; rfl
 ·rw [if_neg h0]
  by_cases h1:((n:Int) == 1 || (mkS [c]).length == 0)=true
  ·rw [if_pos h1]
   have:n=1:=by
    rcases Bool.or_eq_true_iff.mp h1 with q | q
    ·have:=beq_iff_eq.mp q; lia
    ·cases q
   subst this; rfl
  ·rw [if_neg h1]
   rw [Int.toNat_natCast]
   have key:∀ (m:Nat) (acc:Array Nat),((List.replicate m (mkS [c]).cps).foldl (· ++ ·) acc)=acc ++ (List.replicate m c).toArray:=by
    intro m
    induction m with
    | zero=>intro acc; simp
    | succ m ih =>
     intro acc
     rw [List.replicate_succ,foldl_cons,ih,List.replicate_succ]
     apply Array.toList_inj.mp
     simp [mkS]
   rw [key]
   show (⟨_⟩:PStr)=⟨_⟩
   simp
theorem mk_abc:ofString "abcdefg" = mkS [97,98,99,100,101,102,103]:=by decide +kernel
theorem divI {a b:Int} (h:0 < b) (h2:b < 1000000):divPV (.int a) (.int b)=some (.int (a / b)):=by rw [divPV_ii]; rw [if_pos ⟨h,h2⟩]
theorem modI {a b:Int} (h:0 < b):modPV (.int a) (.int b)=some (.int (a % b)):=by rw [modPV_ii]; rw [if_pos h]
theorem addI (a b:Int):addPV (.int a) (.int b)=some (.int (a + b)):=rfl
theorem pow32:powPV (.int 2) (.int 32)=some (.int 4294967296):=by rw [powPV_ii]; rw [if_pos (by decide)]; rfl
noncomputable def drawnV (T:Tr):PV:=.tup [.int (T.st:Int),upI T,nmS T,mdI T]
theorem f_drawn {k:Nat} {ns:List Int} (hn:ns.length≤1000):FnSound k 269 (oneF [.list (ns.map .int)] (drawnV (tree ns))):=by
 apply fn_w [ofString "script"]
 case hat=>exact fun P=>⟨_,rfl,rfl⟩
 case hcode=>exact fun P=>⟨_,_,_,_,rfl,rfl,rfl,rfl⟩
 case hsc=>rfl
 case hxs=>rfl
 case hbind=>exact bind1 (fun _=>rfl)
 case B=>exact (zA1 (ws_lc rfl rfl rfl rfl (fun _ _=>rfl) (zD1 rfl rfl (zA0 zB0 zA4 rfl)) (zC7 rfl rfl rfl rfl) zF5 (w_sum rfl rfl (zA0 (zH8 (zA9 (.inr rfl) rfl) (zF6 (zA2 (.inl rfl) rfl)) zD5 (zF6 zB0) _ fun _ _=>rfl) zA4 rfl)))
 (zA1 (zG3 (.inl rfl) (zH0 (zA0 zB0 zA4 rfl)) (fun _ _=>rfl))
 (zA1 (zG3 (.inl rfl) (zH0 (zA0 zE5 zA4 rfl)) (fun _ _=>rfl))
 (zA1 (zG3 (.inl rfl) (zH0 (zA0 (zO4 (zE0 zB0 (w_div (zB3 (zA9 (.inl rfl) rfl) zB0 fun _ _=>rfl) zB0)) (w_pow zB0 zB0)) zA4 rfl)) (fun _ _=>rfl))
 (zA1 (zG4 (zD1 rfl rfl (zA0 zB0 (zA0 zB0 zA4 rfl) rfl)) (zF4 (.inl rfl)) (zA1 (zB8 (.inl rfl) (w_div (zB3 (zA9 (.inl rfl) rfl) (zA2 (.inl rfl) rfl) fun _ _=>rfl) (zA2 (.inl rfl) rfl)) fun _=>rfl)
 (zA1 (zC8 (.inl rfl) rfl (zO4 (zE0 (zB3 (zL6 (zJ1 (zA0 zB0 (zA0 zB0 (zA0 zB0 (zA0 zB0 (zA0 zB0 (zA0 zB0 (zA0 zB0 (zA0 zB0 zA4 rfl) rfl) rfl) rfl) rfl) rfl) rfl) rfl))) (zA2 (.inl rfl) rfl) fun _ _=>rfl) (zB3 (zA9 (.inl rfl) rfl) (zA2 (.inl rfl) rfl) fun _ _=>rfl)) (zA2 (.inl rfl) rfl)) rfl (fun _=>rfl) rfl rfl)
 (zA1 (zC8 (.inl rfl) rfl (w_mul (zB3 (zL6 zE5) (w_sub (zA2 (.inl rfl) rfl) zB0) fun _ _=>rfl) (zE0 zB0 (zO4 (zA2 (.inl rfl) rfl) zB0))) rfl (fun _=>rfl) rfl rfl)
 (zA1 (zC8 (.inl rfl) rfl (zO4 (zE0 (zB3 (zL6 (zJ1 (zA0 zB0 (zA0 zB0 (zA0 zB0 (zA0 zB0 (zA0 zB0 (zA0 zB0 (zA0 zB0 (zA0 zB0 zA4 rfl) rfl) rfl) rfl) rfl) rfl) rfl) rfl))) (zA2 (.inl rfl) rfl) fun _ _=>rfl) (w_div (zA2 (.inl rfl) rfl) zB0)) (w_pow zB0 zB0)) rfl (fun _=>rfl) rfl rfl)
 zA8)))) zA8 fun _ _=>rfl)
 (zA1 (zD9 (w_tup (zA0 (zO4 (zB3 (zA9 (.inl rfl) rfl) zB0 fun _ _=>rfl) zB0) (zA0 (zA2 (.inl rfl) rfl) (zA0 (zA2 (.inl rfl) rfl) (zA0 (zA2 (.inl rfl) rfl) zA4 rfl) rfl) rfl) rfl)))
 zA8))))))
 case hφ =>
  intro ps p h
  obtain ⟨rfl,rfl⟩:=zE2 h
  have O:=tree_ok ns
  generalize hT:tree ns=T at O
  have hup:=fun {k:Nat} (h:0 < k)=>hT ▸ up_tree ns h
  have hnm:=fun {k:Nat} (h:0 < k)=>hT ▸ nm_tree ns h
  have hmd:=fun {k:Nat} (h:0 < k)=>hT ▸ md_tree ns h
  have hmd0:=hT ▸ md_zero ns
  have hst:=hT ▸ st_tree ns
  have hup0:T.up 0=0:=by rw [← hT]; rfl
  refine zG6 (L:=[(ofString "script",.fz (.list (ns.map .int)))]) rfl ?_
  have htold:cComp (fun l=>(cCons (cK (PV.int 8)) cNil l).bind rangePV) (fun p=>some [(ofString "k",Loc.fz p)]) (fun x=>some true) (cApp fun l=>(cCons (cSlice (cW (ofString "script")) (fun l=>(cV (ofString "k") l).bind asI) (fun _=>some none) (fun l=>(cK (PV.int 8) l).bind asI)) cNil l).bind sumPV) (PV.list [])
    [(ofString "script",.fz (.list (ns.map .int)))]=some (.list ((range 8).map fun (k:Nat)=>PV.int (told ns k))):=by
   refine comp_rng (cc1 rfl) rfl iter08 (by decide) fun k hk=>⟨_,rfl,rfl,?_⟩
   have e1:slicePV (.list (ns.map .int)) (some (k:Int)) none (some 8)=some (.list ((pick ns (some (k:Int)) none (some 8)).map .int)):=by
    (first | rw [zH4] | rw [slicePV_s])
    rw [if_pos ⟨by rw [length_map]; exact zA6 (by lia),by simp⟩,pick_map]
   have e2:cSlice (cW (ofString "script")) (fun l=>(cV (ofString "k") l).bind asI) (fun _=>some none) (fun l=>(cK (PV.int 8) l).bind asI) ([(ofString "k",Loc.fz (PV.int (k:Int)))] ++ noZ [(ofString "script",.fz (.list (ns.map .int)))])=some (.list ((pick ns (some (k:Int)) none (some 8)).map .int)):=by
    have b1:cW (ofString "script") ([(ofString "k",Loc.fz (PV.int (k:Int)))] ++ noZ [(ofString "script",.fz (.list (ns.map .int)))])=some (.list (ns.map .int)):=zC2 rfl
    have b2:cV (ofString "k") ([(ofString "k",Loc.fz (PV.int (k:Int)))] ++ noZ [(ofString "script",.fz (.list (ns.map .int)))])=some (.int (k:Int)):=zA3 rfl
    exact zF3 b1 (asI_at b2) rfl rfl e1
   refine bd1 (cc1 e2) ?_
   show (intsOf _).map _=_
   rw [show (pick ns (some (k:Int)) none (some 8)).map PV.int=(pick ns (some (k:Int)) none (some 8)).map fun x=>PV.int (id x) from rfl,intsOf_map,List.map_id]
   rfl
  have hto:∀ l:Lc,look l (ofString "told")=some (.fz (.list ((range 8).map fun (k:Nat)=>PV.int (told ns k))))→∀ (G:Lc→Option PV) (k:Nat),k < 8→G l=some (.int (k:Int))→c2 idxPV (cW (ofString "told")) G l=some (.int (told ns k)):=fun l k1 G k hk hG=>zA7 (zC2 k1) hG (zC0 (f:=fun (k:Nat)=>PV.int (told ns k)) rfl rfl hk (by lia))
  rw [zA5 (zB4 htold)]
  rw [zA5 (zJ5 (cl1 _ _))]
  rw [zA5 (zJ5 (cl1 _ _))]
  rw [zA5 (zJ5 (p:=.list [.int (T.md 0:Int)]) (zD7 (cc1 (by
   refine zA7 (zA7 rfl (zA7 (hto _ rfl _ 0 (by lia) rfl) rfl (divI (by lia) (by lia))) (addI _ _)) (zA7 rfl rfl pow32) ?_
   rw [modI (by lia),hmd0])) (by simp)))]
  refine seq_for (cc2 rfl rfl) rfl iter17 ?_
  refine zE4 (fun pre l=>look l (ofString "above")=some (.ow (.list ((range (pre.length + 1)).map fun (k:Nat)=>PV.int (T.up k:Int))))∧look l (ofString "names")=some (.ow (.list ((range (pre.length + 1)).map fun (k:Nat)=>PV.str (mkS (T.name k))))) ∧
   look l (ofString "modes")=some (.ow (.list ((range (pre.length + 1)).map fun (k:Nat)=>PV.int (T.md k:Int))))∧look l (ofString "told")=some (.fz (.list ((range 8).map fun (k:Nat)=>PV.int (told ns k))))) ?_ ?_ ?_
  ·refine ⟨?_,?_,rfl,rfl⟩
   ·show some (Loc.ow (PV.list [PV.int 0]))=some (Loc.ow (PV.list [PV.int (T.up 0:Int)]))
    rw [hup0]; rfl
   ·show some (Loc.ow (PV.list [PV.str (ofString "")]))=some (Loc.ow (PV.list [PV.str (mkS (T.name 0))]))
    rw [mkS_none]; rfl
  ·rintro pre p post l e ⟨g1,g2,g3,g4⟩
   obtain ⟨hj,rfl⟩:=nums17_at e
   rw [length_append,length_singleton]
   have ek:((pre.length:Int) + 1)=((pre.length + 1:Nat):Int):=by push_cast; rfl
   rw [ek]
   generalize pre.length=j at hj g1 g2 g3 ⊢
   clear e ek
   obtain ⟨k,hk⟩:∃ k,j + 1=k:=⟨_,rfl⟩
   rw [hk] at g1 g2 g3 ⊢
   have hk0:0 < k:=by lia
   have hk8:k < 8:=by lia
   have hA:∀ l:Lc,cList (cCons (cK (PV.int 0)) (cCons (cK (PV.int 0)) (cCons (cK (PV.int 0)) (cCons (cK (PV.int 0)) (cCons (cK (PV.int 1)) (cCons (cK (PV.int 1)) (cCons (cK (PV.int 2)) (cCons (cK (PV.int 3)) cNil)))))))) l=some (.list (aL.map .int)):=fun l=>zD7 rfl (by decide)
   have hB:∀ l:Lc,cList (cCons (cK (PV.int 0)) (cCons (cK (PV.int 16832)) (cCons (cK (PV.int 16841)) (cCons (cK (PV.int 16896)) (cCons (cK (PV.int 32768)) (cCons (cK (PV.int 41471)) (cCons (cK (PV.int 4480)) (cCons (cK (PV.int 35309)) cNil)))))))) l=some (.list (bL.map .int)):=fun l=>zD7 rfl (by decide)
   have iA:idxPV (.list (aL.map .int)) (.int (k:Int))=some (.int (aL.getD k 0)):=by
    show nth (aL.map PV.int) (k:Int)=_
    rw [nth_map (show k < aL.length from hk8) (by decide),getD_eq_getElem?_getD,getElem?_eq_getElem (show k < aL.length from hk8)]; rfl
   have iB:idxPV (.list (bL.map .int)) (.int (k:Int))=some (.int (bL.getD k 0)):=by
    show nth (bL.map PV.int) (k:Int)=_
    rw [nth_map (show k < bL.length from hk8) (by decide),getD_eq_getElem?_getD,getElem?_eq_getElem (show k < bL.length from hk8)]; rfl
   have hkI:(0:Int) < (k:Int)∧(k:Int) < 1000000:=⟨by lia,by lia⟩
   refine ⟨(ofString "modes",.ow (.list (((range k).map fun (k:Nat)=>PV.int (T.md k:Int)) ++ [.int (T.md k:Int)]))) :: (ofString "names",.ow (.list (((range k).map fun (k:Nat)=>PV.str (mkS (T.name k))) ++ [.str (mkS (T.name k))]))) :: (ofString "above",.ow (.list (((range k).map fun (k:Nat)=>PV.int (T.up k:Int)) ++ [.int (T.up k:Int)]))) ::
    (ofString "rest",.fz (.int (told ns k / (k:Int)))) :: (ofString "k",.fz (.int (k:Int))) :: l,?_,?_⟩
   ·rw [bind_some,singleton_append]
    rw [zA5 (zB4 (zA7 (hto _ (by exact g4) _ k hk8 (zA3 (p:=.int (k:Int)) rfl)) (zA3 (p:=.int (k:Int)) rfl) (divI hkI.1 hkI.2)))]
    rw [zA5 (app_go (xs:=(range k).map fun (k:Nat)=>PV.int (T.up k:Int)) (p:=.int (T.up k:Int)) (by exact g1) (zA7 (zA7 (zA7 (hA _) (zA3 (p:=.int (k:Int)) rfl) iA) (hto _ (by exact g4) _ k hk8 (zA3 (p:=.int (k:Int)) rfl)) (addI _ _)) (zA3 (p:=.int (k:Int)) rfl) (by rw [modI hkI.1,hup hk0])) (by simp; lia))]
    have hname:mulPV (.str (mkS [96 + k])) (.int (1 + told ns k / (k:Int) % 3))=some (.str (mkS (T.name k))):=by
     rw [mulPV_si]
     rw [← hnm hk0]
     have:=(O.nm k hk0).2
     rw [if_pos ⟨by rw [zB2]; simp,by lia,by lia⟩,mul_mk]
     unfold Tr.name
     rw [if_neg (by lia)]
    have hlet:idxPV (.str (mkS [97,98,99,100,101,102,103])) (.int ((k:Int) - 1))=some (.str (mkS [96 + k])):=by
     have e1:((k:Int) - 1)=((j:Nat):Int):=by lia
     rw [e1,idx_str (show j < 7 from hj) (by decide)]
     have:j=0 ∨ j=1 ∨ j=2 ∨ j=3 ∨ j=4 ∨ j=5 ∨ j=6:=by lia
     rw [← hk]
     rcases this with rfl | rfl | rfl | rfl | rfl | rfl | rfl <;> rfl
    rw [zA5 (app_go (xs:=(range k).map fun (k:Nat)=>PV.str (mkS (T.name k))) (p:=.str (mkS (T.name k))) (by exact g2) (zA7 (zA7 (p:=.str (mkS [97,98,99,100,101,102,103])) (by rw [← mk_abc]; rfl) (zA7 (zA3 (p:=.int (k:Int)) rfl) rfl rfl) hlet) (zA7 rfl (zA7 (zA3 (p:=.int (told ns k / (k:Int))) rfl) rfl (modI (by lia))) (addI _ _)) hname) (by simp; lia))]
    rw [zA5 (app_go (xs:=(range k).map fun (k:Nat)=>PV.int (T.md k:Int)) (p:=.int (T.md k:Int)) (by exact g3) (zA7 (zA7 (zA7 (hB _) (zA3 (p:=.int (k:Int)) rfl) iB) (zA7 (zA3 (p:=.int (told ns k / (k:Int))) rfl) rfl (divI (by lia) (by lia))) (addI _ _)) (zA7 rfl rfl pow32) (by rw [modI (by lia),hmd hk0])) (by simp; lia))]
   ·exact ⟨by rw [range_succ,map_append]; rfl,by rw [range_succ,map_append]; rfl,by rw [range_succ,map_append]; rfl,g4⟩
  ·rintro l ⟨g1,g2,g3,g4⟩
   have b1:look (freeze l) (ofString "above")=some (.fz (upI T)):=by simp only [zB7,g1,map_some,frz]; rfl
   have b2:look (freeze l) (ofString "names")=some (.fz (nmS T)):=by simp only [zB7,g2,map_some,frz]; rfl
   have b3:look (freeze l) (ofString "modes")=some (.fz (mdI T)):=by simp only [zB7,g3,map_some,frz]; rfl
   have b4:look (freeze l) (ofString "told")=some (.fz (.list ((range 8).map fun (k:Nat)=>PV.int (told ns k)))):=by simp only [zB7,g4,map_some,frz]
   have i1:c2 modPV (c2 idxPV (cW (ofString "told")) (cK (PV.int 0))) (cK (PV.int 8)) (freeze l)=some (.int (T.st:Int)):=by
    refine zA7 (hto _ b4 _ 0 (by lia) rfl) rfl ?_
    rw [modI (by lia),hst]
   have i2:=ctup_at (ccS i1 (cc3 (zA3 b1) (zA3 b2) (zA3 b3))) (by simp)
   rw [bind_some]
   exact zH9 i2
theorem zL1 (m c:Nat):Builtin.bitAnd (m:Int) (c:Int)=((m &&& c:Nat):Int):=bitAnd_pp (by lia) (by lia)
theorem msk (m c n:Nat) (h:c < 2 ^ n):(Builtin.bitAnd (m:Int) (c:Int) == (c:Int))=(range n).all fun i=>!c.testBit i || m.testBit i:=by
 rw [zL1,Bool.eq_iff_iff,beq_iff_eq,List.all_eq_true]
 constructor
 ·intro e i _
  have e:m &&& c=c:=by lia
  have:=congrArg (fun x=>x.testBit i) e
  simp only [Nat.testBit_and] at this
  cases h1:c.testBit i <;> cases h2:m.testBit i <;> simp_all
 ·intro H
  have:m &&& c=c:=by
   apply Nat.eq_of_testBit_eq
   intro i
   rw [Nat.testBit_and]
   by_cases hi:i < n
   ·have:=H i (mem_range.mpr hi)
    cases h1:c.testBit i <;> cases h2:m.testBit i <;> simp_all
   ·have:c.testBit i=false:=Nat.testBit_lt_two_pow (Nat.lt_of_lt_of_le h (Nat.pow_le_pow_right (by lia) (by lia)))
    rw [this,Bool.and_false]
  rw [this]
theorem rowT_pos (m c n:Nat) (i:Int) (hi:i≠0) (h:c < 2 ^ n):rowT (m:Int) i (c:Int)=(range n).all fun i=>!c.testBit i || m.testBit i:=by
 unfold rowT; rw [if_neg hi]; exact msk m c n h
theorem and_kind (m:Nat):m &&& 61440=m / 4096 % 16 * 4096:=by
 apply Nat.eq_of_testBit_eq
 intro i
 rw [Nat.testBit_and,show (61440:Nat)=(2 ^ 4 - 1) * 2 ^ 12 from rfl,show m / 4096 % 16 * 4096=(m / 2 ^ 12 % 2 ^ 4) * 2 ^ 12 from rfl,Nat.testBit_mul_two_pow,Nat.testBit_mul_two_pow,Nat.testBit_two_pow_sub_one,Nat.testBit_mod_two_pow,Nat.testBit_div_two_pow]
 by_cases h:12≤i
 ·rw [Nat.sub_add_cancel h]
  cases m.testBit i <;> simp [h]
 ·simp [h]
noncomputable def rowQ (x:Int):List (Int × String)→String
 | []=>"?"
 | (b,s) :: r=>if x == b then s else rowQ x r
theorem rowC_Q (m:Int):∀ t:List (Int × String),rowC m 0 t=rowQ (Builtin.bitAnd m 61440) t
 | []=>rfl
 | (b,s) :: r=>by
  show (if rowT m 0 b then s else rowC m 0 r)=if Builtin.bitAnd m 61440 == b then s else rowQ _ r
  rw [rowC_Q m r]; rfl
theorem kind_row (m:Nat):strP (rowC (m:Int) 0 [(40960,"l"),(49152,"s"),(32768,"-"),(24576,"b"),(16384,"d"),(8192,"c"),(4096,"p")]) = .str (mkS [kindC m]):=by
 have key:∀ q,q < 16→ofString (rowQ ((q * 4096:Nat):Int) [(40960,"l"),(49152,"s"),(32768,"-"),(24576,"b"),(16384,"d"),(8192,"c"),(4096,"p")])=mkS [kindS.getD q 0]:=by decide +kernel
 have e:Builtin.bitAnd (m:Int) 61440=((m / 4096 % 16 * 4096:Nat):Int):=by
  rw [← and_kind]; exact zL1 m 61440
 rw [rowC_Q,e]
 exact congrArg PV.str (key _ (Nat.mod_lt _ (by decide)))
theorem sign_t (A B C D:Bool) (s S:String) (j:Nat) (h1:ofString s=mkS [specC j 1]) (h2:ofString S=mkS [specC j 0]):[strP (if A then "r" else "-"),strP (if B then "w" else "-"),strP (if D && C then s else if D then S else if C then "x" else "-")]=(trip j (4 * A.toNat + 2 * B.toNat + C.toNat) D.toNat).map fun c=>PV.str (mkS [c]):=by
 have e1:∀ A B C:Bool,(if 3 < 4 * A.toNat + 2 * B.toNat + C.toNat then 114 else 45)=(if A then 114 else 45:Nat):=by decide
 have e2:∀ A B C:Bool,(if 1 < (4 * A.toNat + 2 * B.toNat + C.toNat) % 4 then 119 else 45)=(if B then 119 else 45:Nat):=by decide
 have e3:∀ A B C:Bool,(4 * A.toNat + 2 * B.toNat + C.toNat) % 2=C.toNat:=by decide
 have ex:ofString "x" = mkS [120]:=by decide +kernel
 have s1:strP (if A then "r" else "-") = .str (mkS [if A then 114 else 45]):=by
  cases A
  ·exact congrArg PV.str mk_d
  ·exact congrArg PV.str mk_r
 have s2:strP (if B then "w" else "-") = .str (mkS [if B then 119 else 45]):=by
  cases B
  ·exact congrArg PV.str mk_d
  ·exact congrArg PV.str mk_w
 have s3:strP (if D && C then s else if D then S else if C then "x" else "-") = .str (mkS [if D.toNat=1 then specC j C.toNat else if C.toNat=0 then 45 else 120]):=by
  cases C <;> cases D
  ·exact congrArg PV.str mk_d
  ·exact congrArg PV.str h2
  ·exact congrArg PV.str ex
  ·exact congrArg PV.str h1
 rw [s1,s2,s3]
 unfold trip
 rw [e1,e2,e3]
 rfl
theorem oct (x:Nat):x % 8=4 * (x / 4 % 2) + 2 * (x / 2 % 2) + x % 2:=by
 rw [show 8=2 * (2 * 2) from rfl,Nat.mod_mul,Nat.mod_mul,Nat.div_div_eq_div_mul]
 generalize x / (2 * 2) % 2=a
 lia
theorem fig_bits (m:Nat):m / 64 % 8=4 * (m.testBit 8).toNat + 2 * (m.testBit 7).toNat + (m.testBit 6).toNat∧m / 8 % 8=4 * (m.testBit 5).toNat + 2 * (m.testBit 4).toNat + (m.testBit 3).toNat∧m / 1 % 8=4 * (m.testBit 2).toNat + 2 * (m.testBit 1).toNat + (m.testBit 0).toNat:=by
 have h (k:Nat):m / 2 ^ k % 8=4 * (m.testBit (k + 2)).toNat + 2 * (m.testBit (k + 1)).toNat + (m.testBit k).toNat:=by
  rw [oct,Nat.div_div_eq_div_mul,Nat.div_div_eq_div_mul,Nat.toNat_testBit,Nat.toNat_testBit,Nat.toNat_testBit,Nat.pow_add,Nat.pow_add]
 exact ⟨h 6,h 3,h 0⟩
theorem signs (m:Nat):(modeCs (m:Int)).map strP=(rowL m).map fun c=>PV.str (mkS [c]):=by
 have b11:m / 2048 % 2=(m.testBit 11).toNat:=by rw [Nat.toNat_testBit]
 have b10:m / 1024 % 2=(m.testBit 10).toNat:=by rw [Nat.toNat_testBit]
 have b9:m / 512 % 2=(m.testBit 9).toNat:=by rw [Nat.toNat_testBit]
 obtain ⟨f0,f1,f2⟩:=fig_bits m
 have t0:tripM m 0=trip 0 (m / 64 % 8) (m / 2048 % 2):=rfl
 have t1:tripM m 1=trip 1 (m / 8 % 8) (m / 1024 % 2):=rfl
 have t2:tripM m 2=trip 2 (m / 1 % 8) (m / 512 % 2):=rfl
 have er:rowL m=kindC m :: (tripM m 0 ++ (tripM m 1 ++ tripM m 2)):=rfl
 have r (i:Int) (hi:i≠0) (c n:Nat) (h:c < 2 ^ n):=rowT_pos m c n i hi h
 have u0:=sign_t (m.testBit 8) (m.testBit 7) (m.testBit 6) (m.testBit 11) "s" "S" 0 (by decide +kernel) (by decide +kernel)
 have u1:=sign_t (m.testBit 5) (m.testBit 4) (m.testBit 3) (m.testBit 10) "s" "S" 1 (by decide +kernel) (by decide +kernel)
 have u2:=sign_t (m.testBit 2) (m.testBit 1) (m.testBit 0) (m.testBit 9) "t" "T" 2 (by decide +kernel) (by decide +kernel)
 rw [er,map_cons,map_append,map_append,t0,t1,t2,f0,f1,f2,b11,b10,b9,← u0,← u1,← u2,← kind_row]
 have b1 (i:Int) (hi:i≠0) (c k n:Nat) (h:c < 2 ^ n) (e:((range n).all fun i=>!c.testBit i || m.testBit i)=(m.testBit k && true)):rowT (m:Int) i (c:Int)=m.testBit k:=by rw [r i hi c n h,e,Bool.and_true]
 have b2 (i:Int) (hi:i≠0) (c k j n:Nat) (h:c < 2 ^ n) (e:((range n).all fun i=>!c.testBit i || m.testBit i)=(m.testBit k && (m.testBit j && true))):rowT (m:Int) i (c:Int)=(m.testBit j && m.testBit k):=by rw [r i hi c n h,e,Bool.and_true,Bool.and_comm]
 have q256:rowT (m:Int) 1 256=m.testBit 8:=b1 1 (by decide) 256 8 9 (by decide) rfl
 have q128:rowT (m:Int) 2 128=m.testBit 7:=b1 2 (by decide) 128 7 8 (by decide) rfl
 have q32:rowT (m:Int) 4 32=m.testBit 5:=b1 4 (by decide) 32 5 6 (by decide) rfl
 have q16:rowT (m:Int) 5 16=m.testBit 4:=b1 5 (by decide) 16 4 5 (by decide) rfl
 have q4:rowT (m:Int) 7 4=m.testBit 2:=b1 7 (by decide) 4 2 3 (by decide) rfl
 have q2:rowT (m:Int) 8 2=m.testBit 1:=b1 8 (by decide) 2 1 2 (by decide) rfl
 have q2048:rowT (m:Int) 3 2048=m.testBit 11:=b1 3 (by decide) 2048 11 12 (by decide) rfl
 have q64:rowT (m:Int) 3 64=m.testBit 6:=b1 3 (by decide) 64 6 7 (by decide) rfl
 have q2112:rowT (m:Int) 3 2112=(m.testBit 11 && m.testBit 6):=b2 3 (by decide) 2112 6 11 12 (by decide) rfl
 have q1024:rowT (m:Int) 6 1024=m.testBit 10:=b1 6 (by decide) 1024 10 11 (by decide) rfl
 have q8:rowT (m:Int) 6 8=m.testBit 3:=b1 6 (by decide) 8 3 4 (by decide) rfl
 have q1032:rowT (m:Int) 6 1032=(m.testBit 10 && m.testBit 3):=b2 6 (by decide) 1032 3 10 11 (by decide) rfl
 have q512:rowT (m:Int) 9 512=m.testBit 9:=b1 9 (by decide) 512 9 10 (by decide) rfl
 have q1:rowT (m:Int) 9 1=m.testBit 0:=b1 9 (by decide) 1 0 1 (by decide) rfl
 have q513:rowT (m:Int) 9 513=(m.testBit 9 && m.testBit 0):=b2 9 (by decide) 513 0 9 10 (by decide) rfl
 have w256:rowC (m:Int) 1 [(256,"r")]=if m.testBit 8 then "r" else "-":=by simp only [rowC,q256]; rfl
 have w128:rowC (m:Int) 2 [(128,"w")]=if m.testBit 7 then "w" else "-":=by simp only [rowC,q128]; rfl
 have w32:rowC (m:Int) 4 [(32,"r")]=if m.testBit 5 then "r" else "-":=by simp only [rowC,q32]; rfl
 have w16:rowC (m:Int) 5 [(16,"w")]=if m.testBit 4 then "w" else "-":=by simp only [rowC,q16]; rfl
 have w4:rowC (m:Int) 7 [(4,"r")]=if m.testBit 2 then "r" else "-":=by simp only [rowC,q4]; rfl
 have w2:rowC (m:Int) 8 [(2,"w")]=if m.testBit 1 then "w" else "-":=by simp only [rowC,q2]; rfl
 have w2048:rowC (m:Int) 3 [(2112,"s"),(2048,"S"),(64,"x")]=if m.testBit 11 && m.testBit 6 then "s" else if m.testBit 11 then "S" else if m.testBit 6 then "x" else "-":=by simp only [rowC,q2048,q2112,q64]; rfl
 have w1024:rowC (m:Int) 6 [(1032,"s"),(1024,"S"),(8,"x")]=if m.testBit 10 && m.testBit 3 then "s" else if m.testBit 10 then "S" else if m.testBit 3 then "x" else "-":=by simp only [rowC,q1024,q1032,q8]; rfl
 have w512:rowC (m:Int) 9 [(513,"t"),(512,"T"),(1,"x")]=if m.testBit 9 && m.testBit 0 then "t" else if m.testBit 9 then "T" else if m.testBit 0 then "x" else "-":=by simp only [rowC,q512,q513,q1]; rfl
 rw [← w256,← w128,← w2048,← w32,← w16,← w1024,← w4,← w2,← w512]
 rfl
theorem mode_row (m:Nat):modePV (.int (m:Int))=some (mkS (rowL m)):=by
 show (joinPV [PV.str (ofString ""),PV.list (List.map strP (modeCs (m:Int)))]).bind PV.toStr=_
 rw [signs m,join_mk _ (by rw [zK5]; decide)]
 rfl
theorem dmc {m m':Nat} (h:m % 65536=m' % 65536) (a b:Nat) (hd:a * b ∣ 65536):m / a % b=m' / a % b:=by
 rw [← Nat.mod_mul_right_div_self,← Nat.mod_mul_right_div_self,← Nat.mod_mod_of_dvd m hd,h,Nat.mod_mod_of_dvd m' hd]
theorem rowL_congr {m m':Nat} (h:m % 65536=m' % 65536):rowL m=rowL m':=by
 have k:kindC m=kindC m':=by unfold kindC; rw [dmc h 4096 16 ⟨1,rfl⟩]
 have t0:tripM m 0=tripM m' 0:=by
  show trip 0 (m / 64 % 8) (m / 2048 % 2)=trip 0 (m' / 64 % 8) (m' / 2048 % 2)
  rw [dmc h 64 8 ⟨128,rfl⟩,dmc h 2048 2 ⟨16,rfl⟩]
 have t1:tripM m 1=tripM m' 1:=by
  show trip 1 (m / 8 % 8) (m / 1024 % 2)=trip 1 (m' / 8 % 8) (m' / 1024 % 2)
  rw [dmc h 8 8 ⟨1024,rfl⟩,dmc h 1024 2 ⟨32,rfl⟩]
 have t2:tripM m 2=tripM m' 2:=by
  show trip 2 (m / 1 % 8) (m / 512 % 2)=trip 2 (m' / 1 % 8) (m' / 512 % 2)
  rw [dmc h 1 8 ⟨8192,rfl⟩,dmc h 512 2 ⟨64,rfl⟩]
 have e (m:Nat):rowL m=kindC m :: (tripM m 0 ++ (tripM m 1 ++ tripM m 2)):=rfl
 rw [e,e,k,t0,t1,t2]
theorem leS_pre (a b:List Nat):leS (mkS a) (mkS (a ++ b))=true:=by
 rw [leS_mk]; exact decide_eq_true List.le_append_left
theorem sortS_eq {ss ss':List PStr} (hp:ss'.Perm ss) (h1:ss'.Pairwise fun a b=>leS a b=true):ss'=sortS ss:=by
 have h2:(sortS ss).Pairwise (fun a b=>leS a b=true):=List.pairwise_mergeSort zH6 zJ7 ss
 exact List.Perm.eq_of_pairwise (fun a b _ _=>zF2) h1 h2 (hp.trans (List.mergeSort_perm ss leS).symm)
theorem sortS_perm {ss ss':List PStr} (hp:ss.Perm ss'):sortS ss=sortS ss':=sortS_eq ((List.mergeSort_perm ss leS).trans hp) (List.pairwise_mergeSort zH6 zJ7 ss)
noncomputable def Tr.srt (T:Tr) (l:List Nat):List Nat:=l.mergeSort fun a b=>leS (T.pS a) (T.pS b)
theorem Tr.srt_perm (T:Tr) (l:List Nat):(T.srt l).Perm l:=List.mergeSort_perm _ _
theorem Tr.srt_pw (T:Tr) (l:List Nat):(T.srt l).Pairwise fun a b=>leS (T.pS a) (T.pS b)=true:=List.pairwise_mergeSort (le:=fun a b=>leS (T.pS a) (T.pS b)) (fun a b c=>zH6 _ _ _) (fun a b=>zJ7 _ _) l
theorem Tr.srt_S (T:Tr) (l:List Nat):sortS (l.map T.pS)=(T.srt l).map T.pS :=
 (sortS_eq ((T.srt_perm l).map _) (List.pairwise_map.mpr (T.srt_pw l))).symm
noncomputable def Tr.ord (T:Tr):List Nat:=T.srt (range 8)
theorem Tr.ord_mem {T:Tr} {k:Nat}:k∈T.ord ↔ k < 8:=(T.srt_perm _).mem_iff.trans mem_range
theorem Tr.ord_nodup (T:Tr):T.ord.Nodup:=(T.srt_perm _).nodup_iff.mpr nodup_range
theorem Tr.ord_len (T:Tr):T.ord.length=8:=(T.srt_perm _).length_eq.trans length_range
section
variable {T:Tr} (O:T.Ok)
include O
theorem Tr.Ok.pre_root:∀ k,∃ b,T.pth k=[47] ++ b:=by
 intro k
 induction k using Nat.strongRecOn with
 | ind k ih =>
  rcases eq_zero_or_pos k with rfl | h
  ·exact ⟨[],by rw [O.pth_zero]; rfl⟩
  ·rcases eq_zero_or_pos (T.up k) with h0 | h0
   ·refine ⟨T.name k,?_⟩
    rw [O.pth_pos h,O.txt_pos h,h0,O.txt_zero]; rfl
   ·obtain ⟨b,hb⟩:=ih _ (O.up k h)
    refine ⟨b ++ 47 :: T.name k,?_⟩
    rw [O.pth_pos h,O.txt_pos h,← O.pth_pos h0,hb]; simp
theorem Tr.Ok.le_root (k:Nat):leS (T.pS 0) (T.pS k)=true:=by
 obtain ⟨b,hb⟩:=O.pre_root k
 unfold Tr.pS
 rw [hb,O.pth_zero]
 exact leS_pre _ _
theorem Tr.Ok.le_up {k:Nat} (h:0 < k):leS (T.pS (T.up k)) (T.pS k)=true:=by
 rcases eq_zero_or_pos (T.up k) with h0 | h0
 ·rw [h0]; exact O.le_root k
 ·unfold Tr.pS
  rw [O.pth_pos h0,O.pth_pos h,O.txt_pos h]
  exact leS_pre _ _
theorem Tr.Ok.ord_root:∃ t,T.ord=0 :: t:=by
 have hl:=T.ord_len
 cases ho:T.ord with
 | nil=>rw [ho] at hl; simp at hl
 | cons h t =>
  have h0:0∈T.ord:=Tr.ord_mem.mpr (by lia)
  have pw:=T.srt_pw (range 8)
  rw [show T.srt (range 8)=h :: t from ho] at pw
  rw [ho] at h0
  rcases mem_cons.mp h0 with rfl | h0
  ·exact ⟨t,rfl⟩
  ·have:=(List.pairwise_cons.mp pw).1 0 h0
   have:=O.pS_inj (zF2 this (O.le_root h))
   subst this
   exact ⟨t,rfl⟩
theorem Tr.Ok.ord_before {pre post:List Nat} {k c:Nat} (e:T.ord=pre ++ k :: post) (h0:0 < c) (h1:c < 8) (hu:T.up c=k):c∈post:=by
 have hc:c∈T.ord:=Tr.ord_mem.mpr h1
 have pw:=T.srt_pw (range 8)
 rw [show T.srt (range 8)=pre ++ k :: post from e] at pw
 rw [e] at hc
 have hle:=O.le_up h0
 rw [hu] at hle
 have hne:c≠k:=fun q=>by have:=O.up c h0; lia
 rcases mem_append.mp hc with hc | hc
 ·exfalso
  have:=(List.pairwise_append.mp pw).2.2 c hc k (by simp)
  exact hne (O.pS_inj (zF2 this hle))
 ·rcases mem_cons.mp hc with rfl | hc
  ·exact absurd rfl hne
  ·exact hc
theorem Tr.Ok.topo_ord {t:List Nat} (e:T.ord=0 :: t):T.Topo t.reverse:=by
 have nd:=T.ord_nodup
 rw [e] at nd
 obtain ⟨n0,nd⟩:=List.nodup_cons.mp nd
 have hm:∀ c,c∈t ↔ 0 < c∧c < 8:=by
  intro c
  have:=Tr.ord_mem (T:=T) (k:=c)
  rw [e,mem_cons] at this
  constructor
  ·intro h
   refine ⟨Nat.pos_of_ne_zero fun q=>n0 (q ▸ h),this.mp (.inr h)⟩
  ·rintro ⟨h0,h1⟩
   rcases this.mpr h1 with q | q
   ·lia
   ·exact q
 refine ⟨(List.reverse_perm t).nodup_iff.mpr nd,fun c=>by rw [List.mem_reverse]; exact hm c,fun pre k post ep c h0 h1 hu=>?_⟩
 have et:t=post.reverse ++ k :: pre.reverse:=by
  have:=congrArg List.reverse ep
  simpa using this
 have:=O.ord_before (pre:=0 :: post.reverse) (post:=pre.reverse) (by rw [e,et]; rfl) h0 h1 hu
 exact List.mem_reverse.mp this
end
noncomputable def Tr.stepV (T:Tr) (V:Nat→Nat) (k:Nat):Nat→Nat:=updN V (T.up k) (V (T.up k) / 4096 % 16 * 4096 + (V (T.up k) % 4096 ||| V k % 4096))
theorem Tr.stepV_fold {T:Tr} (O:T.Ok):∀ (os:List Nat) (V R:Nat→Nat),(∀ k∈os,0 < k)→(∀ j,V j % 4096=R j∧V j / 4096 % 16=T.md j / 4096 % 16)→∀ j,os.foldl T.stepV V j % 4096=os.foldl T.stepR R j∧os.foldl T.stepV V j / 4096 % 16=T.md j / 4096 % 16
 | [],V,R,_,h,j=>h j
 | k :: os,V,R,hp,h,j=>by
  rw [foldl_cons,foldl_cons]
  refine stepV_fold O os _ _ (fun i hi=>hp i (by simp [hi])) (fun i=>?_) j
  unfold Tr.stepV Tr.stepR updN
  split
  ·rename_i e
   subst e
   have h1:=h (T.up k)
   have h2:=h k
   have hlt:(V (T.up k) % 4096 ||| V k % 4096) < 4096:=Nat.or_lt_two_pow (n:=12) (Nat.mod_lt _ (by lia)) (Nat.mod_lt _ (by lia))
   rw [← h1.1,← h2.1]
   generalize (V (T.up k) % 4096 ||| V k % 4096)=z at hlt
   have h3:=h1.2
   refine ⟨Nat.mul_add_mod_of_lt hlt,?_⟩
   rw [Nat.add_comm,Nat.add_mul_div_right _ _ (by decide),Nat.div_eq_of_lt hlt,Nat.zero_add,Nat.mod_mod]
   exact h3
  ·exact h i
noncomputable def Tr.V (T:Tr):Nat→Nat:=T.ord.tail.reverse.foldl T.stepV T.md
theorem Tr.Ok.V_row {T:Tr} (O:T.Ok) (j:Nat):rowL (T.V j)=rowL (T.md j / 4096 * 4096 + T.R j):=by
 obtain ⟨t,e⟩:=O.ord_root
 have tp:=O.topo_ord e
 have h:=Tr.stepV_fold O t.reverse T.md T.base (fun k hk=>((tp.mem k).mp hk).1) (fun j=>⟨rfl,rfl⟩) j
 have h1:t.reverse.foldl T.stepR T.base j=T.R j:=O.fold_eq tp O.topo_desc j
 rw [h1] at h
 have eV:T.V=t.reverse.foldl T.stepV T.md:=by unfold Tr.V; rw [e]; rfl
 rw [eV]
 refine rowL_congr ?_
 have hR:=Tr.R_lt (T:=T) j
 rw [show 65536=4096 * 16 from rfl,Nat.mod_mul,Nat.mod_mul,h.1,h.2,Nat.mul_add_mod_of_lt hR,Nat.add_comm (T.md j / 4096 * 4096),Nat.add_mul_div_right _ _ (by decide),Nat.div_eq_of_lt hR,Nat.zero_add]
section
variable {key:Nat→PStr} (hi:∀ {i j},key i=key j→i=j)
include hi
theorem zF0 {α:Type} {g:Nat→α}:∀ {ks:List Nat} {k:Nat},k∈ks→dget (ks.map key) (ks.map g) (key k)=some (g k)
 | [],_,h=>by simp at h
 | k' :: ks,k,h=>by
  rw [map_cons,map_cons]
  unfold dget
  by_cases e:key k=key k'
  ·rw [if_pos e,hi e]
  ·rw [if_neg e]
   refine zF0 ?_
   rcases mem_cons.mp h with q | h
   ·exact absurd (by rw [q]) e
   ·exact h
theorem dupd_map {α:Type} {g:Nat→α} {k:Nat} {v:α}:∀ {ks:List Nat},dupd (ks.map key) (ks.map g) (key k) v=ks.map fun j=>if j=k then v else g j
 | []=>rfl
 | k' :: ks=>by
  rw [map_cons,map_cons,map_cons]
  unfold dupd
  rw [dupd_map]
  congr 1
  by_cases e:k'=k
  ·rw [if_pos e,if_pos (by rw [e])]
  ·rw [if_neg e,if_neg fun q=>e (hi q)]
theorem mem_key {ks:List Nat} {k:Nat}:key k∈ks.map key ↔ k∈ks:=by
 rw [mem_map]
 exact ⟨fun ⟨j,h,e⟩=>hi e ▸ h,fun h=>⟨k,h,rfl⟩⟩
theorem nodup_key {ks:List Nat} (h:ks.Nodup):(ks.map key).Nodup:=by
 unfold List.Nodup
 rw [List.pairwise_map]
 exact h.imp fun h e=>h (hi e)
theorem set_old {g:Nat→PV} {ks:List Nat} {k:Nat} {v:PV} (nd:ks.Nodup) (hl:ks.length≤1000) (h:k∈ks):setPV (.dict (ks.map key) (ks.map g)) (.str (key k)) v=some (.dict (ks.map key) (ks.map fun j=>if j=k then v else g j)):=by
 (first | rw [setPV_l] | rw [setPV_d])
 have hz:(ks.map key).length < sizeLine:=by have:=zA6 (show ks.length + 1≤1000000 by lia); rw [length_map]; lia
 rw [if_pos ⟨nodup_key hi nd,hz⟩]
 unfold dsetK dsetV
 rw [if_pos ((mem_key hi).mpr h),if_pos ((mem_key hi).mpr h),dupd_map hi]
theorem set_new {g:Nat→PV} {ks:List Nat} {k:Nat} (nd:ks.Nodup) (hl:ks.length≤1000) (h:k ∉ ks):setPV (.dict (ks.map key) (ks.map g)) (.str (key k)) (g k)=some (.dict ((ks ++ [k]).map key) ((ks ++ [k]).map g)):=by
 (first | rw [setPV_l] | rw [setPV_d])
 have hz:(ks.map key).length < sizeLine:=by have:=zA6 (show ks.length + 1≤1000000 by lia); rw [length_map]; lia
 rw [if_pos ⟨nodup_key hi nd,hz⟩]
 unfold dsetK dsetV
 rw [if_neg fun q=>h ((mem_key hi).mp q),if_neg fun q=>h ((mem_key hi).mp q),map_append,map_append]
 rfl
theorem comp_dict {gg:PV→Option Lc} {ft:Lc→Option Bool} {fk fv:Lc→Option PV} {l:Lc} {f g:Nat→PV}:∀ (ks pre:List Nat),(pre ++ ks).Nodup→pre.length + ks.length≤1000 →
  (∀ k∈ks,∃ t,gg (f k)=some t∧ft (t ++ noZ l)=some true∧fk (t ++ noZ l)=some (.str (key k))∧fv (t ++ noZ l)=some (g k))→compO gg ft (cPut fk fv) l (ks.map f) (.dict (pre.map key) (pre.map g))=some (.dict ((pre ++ ks).map key) ((pre ++ ks).map g))
 | [],pre,_,_,_=>by simp [compO]
 | k :: ks,pre,nd,hl,hs=>by
  obtain ⟨t,e1,e2,e3,e4⟩:=hs k (by simp)
  simp only [length_cons] at hl
  have hn:k ∉ pre:=fun m=>by
   rw [nodup_append] at nd
   exact nd.2.2 k m k (by simp) rfl
  have nd1:pre.Nodup:=(nodup_append.mp nd).1
  rw [map_cons]
  unfold compO
  rw [e1,bind_some,e2,bind_some,if_pos rfl]
  have:cPut fk fv (t ++ noZ l) (.dict (pre.map key) (pre.map g))=some (.dict ((pre ++ [k]).map key) ((pre ++ [k]).map g)):=by
   unfold cPut
   rw [e3,bind_some,e4,bind_some]
   refine Eq.trans rfl (?_:setPV (.dict (pre.map key) (pre.map g)) (.str (key k)) (g k)=_)
   exact set_new hi nd1 (by lia) hn
  rw [this,bind_some,comp_dict ks (pre ++ [k]) (by simpa using nd) (by simp; lia) fun q hq=>hs q (by simp [hq])]
  simp
theorem comp_dictR {xs:Lc→Option (List PV)} {gg:PV→Option Lc} {ft:Lc→Option Bool} {fk fv:Lc→Option PV} {l:Lc} {f g:Nat→PV} {ys:List PV} {r:PV} {ks:List Nat} (h1:xs l=some ys) (h2:rangePV ys=some r) (h3:iterPV r=some (ks.map f)) (nd:ks.Nodup) (hl:ks.length≤1000)
  (hs:∀ k∈ks,∃ t,gg (f k)=some t∧ft (t ++ noZ l)=some true∧fk (t ++ noZ l)=some (.str (key k))∧fv (t ++ noZ l)=some (g k)):cComp (fun l=>(xs l).bind rangePV) gg ft (cPut fk fv) (.dict [] []) l=some (.dict (ks.map key) (ks.map g)):=by
 unfold cComp
 rw [head3' h1 h2 h3]
 exact comp_dict hi ks [] (by simpa using nd) (by simpa using hl) hs
theorem comp_dictL {xs:Lc→Option PV} {gg:PV→Option Lc} {ft:Lc→Option Bool} {fk fv:Lc→Option PV} {l:Lc} {f g:Nat→PV} {r:PV} {ks:List Nat} (h1:xs l=some r) (h3:iterPV r=some (ks.map f)) (nd:ks.Nodup) (hl:ks.length≤1000)
  (hs:∀ k∈ks,∃ t,gg (f k)=some t∧ft (t ++ noZ l)=some true∧fk (t ++ noZ l)=some (.str (key k))∧fv (t ++ noZ l)=some (g k)):cComp xs gg ft (cPut fk fv) (.dict [] []) l=some (.dict (ks.map key) (ks.map g)):=by
 unfold cComp
 rw [h1,bind_some,h3,bind_some]
 exact comp_dict hi ks [] (by simpa using nd) (by simpa using hl) hs
end
theorem pick_tail {α:Type} (xs:List α) (h:xs.length=8):pick xs none (some 0) (some (-1))=xs.tail.reverse:=by
 obtain ⟨a,xs,rfl,h0⟩:=zH2 h
 obtain ⟨b,xs,rfl,h1⟩:=zH2 h0
 obtain ⟨c,xs,rfl,h2⟩:=zH2 h1
 obtain ⟨d,xs,rfl,h3⟩:=zH2 h2
 obtain ⟨e,xs,rfl,h4⟩:=zH2 h3
 obtain ⟨f,xs,rfl,h5⟩:=zH2 h4
 obtain ⟨g,xs,rfl,h6⟩:=zH2 h5
 obtain ⟨i,xs,rfl,h7⟩:=zH2 h6
 rw [List.length_eq_zero_iff.mp h7]
 kernel_rfl
theorem slice_tail {xs:List PV} (h:xs.length=8):slicePV (.list xs) none (some 0) (some (-1))=some (.list xs.tail.reverse):=by
 (first | rw [zH4] | rw [slicePV_s])
 rw [if_pos ⟨zA6 (by lia),by decide⟩,pick_tail xs h]
theorem slice_rev {xs:List PV} (h:xs.length≤1000):slicePV (.list xs) none none (some (-1))=some (.list xs.reverse):=by
 (first | rw [zH4] | rw [slicePV_s])
 rw [if_pos ⟨zA6 (by lia),by decide⟩,pick_rev xs]
theorem sorted_S (T:Tr) {l:List Nat} (h:l.length < 64):sortedPV [.list (l.map fun k=>PV.str (T.pS k))]=some (.list ((T.srt l).map fun k=>PV.str (T.pS k))):=by
 have e:(l.map fun k=>PV.str (T.pS k))=(l.map T.pS).map PV.str:=by rw [map_map]; rfl
 unfold sortedPV
 dsimp only
 rw [e,zD4]
 dsimp only
 rw [if_pos (by rw [length_map]; exact h),T.srt_S,map_map]
 rfl
theorem split_map {α β:Type} {f:α→β} {os:List α} {pre post:List β} {p:β} (e:os.map f=pre ++ p :: post):∃ a k b,os=a ++ k :: b∧pre=a.map f∧p=f k∧post=b.map f:=by
 obtain ⟨a,r,rfl,h1,h2⟩:=List.map_eq_append_iff.mp e
 obtain ⟨k,b,rfl,h3,h4⟩:=List.map_eq_cons_iff.mp h2
 exact ⟨a,k,b,rfl,h1.symm,h3.symm,h4.symm⟩
theorem Tr.Ok.dirPV_at {T:Tr} (O:T.Ok) {k:Nat} (h:0 < k) (hk:k < 8):dirPV [.str (T.pS k)]=some (.str (T.pS (T.up k))):=by
 have:(headS (T.pS k)).length≤1000:=by
  rw [O.head_path h hk,zB2,length_append]
  have:=O.txt_len (T.up k)
  have:=O.up k h
  simp; lia
 show (if (headS (T.pS k)).length≤1000 then some (PV.str (dirS (T.pS k))) else none)=_
 rw [if_pos this,O.dir_path h hk]
theorem ifmt_nat (m:Nat):ifmtPV [.int (m:Int)]=some (.int ((m / 4096 % 16 * 4096:Nat):Int)):=by
 show some (PV.int (Builtin.bitAnd (m:Int) ((61440:Nat):Int)))=_
 rw [zL1,and_kind]
theorem imode_nat (m:Nat):imodePV [.int (m:Int)]=some (.int ((m % 4096:Nat):Int)):=by
 show some (PV.int (Builtin.bitAnd (m:Int) ((4095:Nat):Int)))=_
 rw [zL1,show (4095:Nat)=2 ^ 12 - 1 from rfl,Nat.and_two_pow_sub_one_eq_mod]
theorem strike (l:List Nat):Txt.replace (mkS l) (ofString "-") (ofString "")=mkS (l.filter (· != 45)):=by
 have e1:ofString "-" = ⟨#[45]⟩:=by decide +kernel
 have e2:ofString "" = ⟨#[]⟩:=by decide +kernel
 rw [e1,e2,← mkS_list (Txt.replace _ _ _),replace_strikes]
 rfl
noncomputable def keptV (T:Tr):PV:=.dict ((range 8).map T.pS) ((range 8).map fun k=>.str (lS T k))
theorem f_kept {k:Nat} {T:Tr} (O:T.Ok):FnSound (k + 3) 286 (oneF [encS T.pS,mdI T] (keptV T)):=by
 apply fn_w [ofString "paths",ofString "modes"]
 case hat=>exact fun P=>⟨_,rfl,rfl⟩
 case hcode=>exact fun P=>⟨_,_,_,_,rfl,rfl,rfl,rfl⟩
 case hsc=>rfl
 case hxs=>rfl
 case hbind=>exact bind2 (fun _ _=>rfl)
 case B =>
  exact (zA1 (zG3 (.inr rfl) (wn_dc rfl (fun _ _=>rfl) (zD1 rfl rfl (zA0 zB0 zA4 rfl)) (zC7 rfl rfl rfl rfl) zF5 (zB3 (zA9 (.inr rfl) rfl) (zA2 (.inl rfl) rfl) fun _ _=>rfl) (zB3 (zA9 (.inr rfl) rfl) (zA2 (.inl rfl) rfl) fun _ _=>rfl)) (sw_dict false rfl rfl))
 (zA1 (zG4 (zH8 (zL6 (zM6 rfl rfl (zA0 (zA2 (.inr rfl) rfl) zA4 rfl))) zD5 (zF6 zB0) (zF6 w_neg) _ fun _ _=>rfl) (zF4 (.inl rfl)) (zA1 (zB8 (.inl rfl) (zC9 f_dirname gv_dirname (fun P=>⟨_,_,rfl,rfl⟩) rfl rfl (zA0 (zA2 (.inl rfl) rfl) zA4 rfl)) fun _=>rfl)
 (zA1 (zH3 (.inr rfl) rfl (zE0 (zC9 f_SIFMT gv_SIFMT (fun P=>⟨_,_,rfl,rfl⟩) rfl rfl (zA0 (zB3 (zA9 (.inr rfl) rfl) (zA2 (.inl rfl) rfl) fun _ _=>rfl) zA4 rfl)) (w_or (zC9 f_SIMODE gv_SIMODE (fun P=>⟨_,_,rfl,rfl⟩) rfl rfl (zA0 (zB3 (zA9 (.inr rfl) rfl) (zA2 (.inl rfl) rfl) fun _ _=>rfl) zA4 rfl)) (zC9 f_SIMODE gv_SIMODE (fun P=>⟨_,_,rfl,rfl⟩) rfl rfl (zA0 (zB3 (zA9 (.inr rfl) rfl) (zA2 (.inl rfl) rfl) fun _ _=>rfl) zA4 rfl)))) (zA2 (.inl rfl) rfl) fun _=>rfl)
 zA8)) zA8 fun _ _=>rfl)
 (zA1 (zD9 (we_n (wn_dc rfl (fun _ _=>rfl) (zA2 (.inr rfl) rfl) (zC7 rfl rfl rfl rfl) zF5 (zA2 (.inl rfl) rfl) (w_repl f_filemode gv_filemode (fun P=>⟨_,_,rfl,rfl⟩) rfl rfl (zA0 (zB3 (zA9 (.inr rfl) rfl) (zA2 (.inl rfl) rfl) fun _ _=>rfl) zA4 rfl) rfl rfl (fun _=>rfl) rfl))))
 zA8)))
 case hφ =>
  intro ps p h
  obtain ⟨rfl,rfl⟩:=zE2 h
  refine zG6 (L:=[(ofString "modes",.fz (mdI T)),(ofString "paths",.fz (encS T.pS))]) rfl ?_
  rw [zA5 (zJ5 (p:=.dict ((range 8).map T.pS) ((range 8).map fun (j:Nat)=>PV.int (T.md j:Int))) ?hbook)]
  case hbook =>
   refine comp_dictR O.pS_inj (cc1 rfl) rfl iter08 nodup_range (by simp) fun j hj=>⟨_,rfl,rfl,?_,?_⟩
   ·exact zA7 (zC2 (p:=encS T.pS) rfl) (zA3 (p:=.int (j:Int)) rfl) (zI2 (mem_range.mp hj))
   ·exact zA7 (zC2 (p:=mdI T) rfl) (zA3 (p:=.int (j:Int)) rfl) (idx_encI (f:=fun k=>(T.md k:Int)) (mem_range.mp hj))
  obtain ⟨t0,et⟩:=O.ord_root
  have tp:=O.topo_ord et
  have hlo:=T.ord_len
  have eos:T.ord.tail.reverse=t0.reverse:=by rw [et]; rfl
  have hsl:slicePV (.list ((T.srt (range 8)).map fun k=>PV.str (T.pS k))) none (some 0) (some (-1))=some (.list (T.ord.tail.reverse.map fun k=>PV.str (T.pS k))):=by
   rw [slice_tail (by rw [length_map]; exact hlo),List.map_reverse,List.map_tail]
   rfl
  refine zK3 (zF3 (bd1 (cc1 (zA3 (p:=encS T.pS) rfl)) (sorted_S T (l:=range 8) (by decide))) rfl rfl rfl hsl) (zC3 (by rw [length_map,List.length_reverse,List.length_tail,hlo]; decide)) ?_
  refine zE4 (fun pre l=>look l (ofString "book")=some (.ow (.dict ((range 8).map T.pS) ((range 8).map fun (j:Nat)=>PV.int (((T.ord.tail.reverse.take pre.length).foldl T.stepV T.md j:Nat):Int))))∧look l (ofString "paths")=some (.fz (encS T.pS))) ?_ ?_ ?_
  ·exact ⟨rfl,rfl⟩
  ·rintro pre p post l e ⟨g1,g2⟩
   obtain ⟨a,c,b,ho,rfl,rfl,rfl⟩:=split_map e
   clear e
   have hc:0 < c∧c < 8:=(tp.mem c).mp (by rw [← eos,ho]; simp)
   have hu:T.up c < 8:=by have:=O.up c hc.1; lia
   have t1:T.ord.tail.reverse.take a.length=a:=by rw [ho]; simp
   have t2:T.ord.tail.reverse.take (a.length + 1)=a ++ [c]:=by rw [ho,List.take_append]; simp [List.take_of_length_le]
   rw [length_append,length_singleton,length_map,t2,List.foldl_append]
   rw [length_map,t1] at g1
   generalize a.foldl T.stepV T.md=V at g1 ⊢
   have hget:∀ (l:Lc) (x:PStr) (j:Nat),look l (ofString "book")=some (.ow (.dict ((range 8).map T.pS) ((range 8).map fun (j:Nat)=>PV.int (V j:Int))))→look l x=some (.fz (.str (T.pS j)))→j < 8→c2 idxPV (cW (ofString "book")) (cV x) l=some (.int (V j:Int)) :=
    fun l x j h1 h2 hj=>zA7 (zK0 h1) (zA3 h2) (zF0 O.pS_inj (g:=fun (j:Nat)=>PV.int (V j:Int)) (mem_range.mpr hj))
   have hset:setPV (.dict ((range 8).map T.pS) ((range 8).map fun (j:Nat)=>PV.int (V j:Int))) (.str (T.pS (T.up c))) (.int ((V (T.up c) / 4096 % 16 * 4096 + (V (T.up c) % 4096 ||| V c % 4096):Nat):Int))=some (.dict ((range 8).map T.pS) ((range 8).map fun (j:Nat)=>PV.int (T.stepV V c j:Int))):=by
    rw [set_old O.pS_inj (g:=fun (j:Nat)=>PV.int (V j:Int)) nodup_range (by simp) (mem_range.mpr hu)]
    congr 3
    funext j
    unfold Tr.stepV updN
    split <;> rfl
   refine ⟨(ofString "book",.ow (.dict ((range 8).map T.pS) ((range 8).map fun (j:Nat)=>PV.int (T.stepV V c j:Int)))) :: (ofString "folder",.fz (.str (T.pS (T.up c)))) :: (ofString "path",.fz (.str (T.pS c))) :: l,?_,?_,?_⟩
   ·rw [bind_some,singleton_append]
    rw [zA5 (zB4 (bd1 (cc1 (zA3 (p:=.str (T.pS c)) rfl)) (O.dirPV_at hc.1 hc.2)))]
    rw [zA5 (item_go (by exact g1) (zA7
     (bd1 (cc1 (hget _ _ _ (by exact g1) rfl hu)) (ifmt_nat _))
     (zA7 (bd1 (cc1 (hget _ _ (T.up c) (by exact g1) rfl hu)) (imode_nat _))
      (bd1 (cc1 (hget _ _ c (by exact g1) rfl hc.2)) (imode_nat _)) (or_nat _ _)) (zK2 _ _))
     (zA3 (p:=.str (T.pS (T.up c))) rfl) hset)]
   ·rfl
   ·exact g2
  ·rintro l ⟨g1,g2⟩
   rw [length_map,List.take_length] at g1
   have b1:look (freeze l) (ofString "book")=some (.fz (.dict ((range 8).map T.pS) ((range 8).map fun (j:Nat)=>PV.int (T.V j:Int)))):=by rw [zB7,g1]; rfl
   have b2:look (freeze l) (ofString "paths")=some (.fz (encS T.pS)):=by rw [zB7,g2]; rfl
   rw [bind_some]
   refine zH9 ?_
   refine comp_dictL O.pS_inj (zA3 b2) (zC3 (by simp)) nodup_range (by simp) fun j hj=>⟨_,rfl,rfl,?_,?_⟩
   ·exact zA3 rfl
   ·refine bd1 (cc1 (zA7 (zC2 (p:=.dict ((range 8).map T.pS) ((range 8).map fun (j:Nat)=>PV.int (T.V j:Int))) (zC4 (by decide) b1 (by decide))) (zA3 (p:=.str (T.pS j)) rfl) (show idxPV (.dict _ _) (.str _)=some (.int (T.V j:Int)) from zF0 O.pS_inj (g:=fun (j:Nat)=>PV.int (T.V j:Int)) hj))) ?_
    show ((modePV (.int (T.V j:Int))).bind fun x=>if x.length≤1000 then some (PV.str (Txt.replace x (ofString "-") (ofString ""))) else none)=some (.str (lS T j))
    rw [mode_row,bind_some,if_pos (by rw [zB2,zK5]; decide),strike,O.V_row]
    rfl
noncomputable def Tr.q (T:Tr) (c:Nat):Int × PStr:=((T.size c:Int) - (T.peak c:Int),T.pS c)
noncomputable def Tr.kidO (T:Tr) (k:Nat):List Nat:=(T.kids k).mergeSort fun a b=>leP (T.q a) (T.q b)
theorem Tr.kidO_perm (T:Tr) (k:Nat):(T.kidO k).Perm (T.kids k):=List.mergeSort_perm _ _
theorem Tr.kidO_mem {T:Tr} {k c:Nat}:c∈T.kidO k ↔ k < c∧c < 8∧T.up c=k:=(T.kidO_perm k).mem_iff.trans Tr.kids_mem
theorem Tr.kidO_len (T:Tr) (k:Nat):(T.kidO k).length=(T.kids k).length:=(T.kidO_perm k).length_eq
theorem Tr.kidO_sort (T:Tr) (k:Nat):sortP ((T.kids k).map T.q)=(T.kidO k).map T.q:=(List.map_mergeSort (f:=T.q) (s:=leP) fun a _ b _=>rfl).symm
theorem Tr.kidO_pw (T:Tr) (k:Nat):(T.kidO k).Pairwise fun a b=>leP (T.q a) (T.q b)=true:=List.pairwise_mergeSort (le:=fun a b=>leP (T.q a) (T.q b)) (fun a b c=>leP_trans _ _ _) (fun a b=>leP_total _ _) _
theorem Tr.best_kids (T:Tr) (k:Nat):best T.ps (T.kids k)=costA T.ps 0 (T.kidO k):=by
 refine best_of (T.kidO_perm k) ((T.kidO_pw k).imp fun {a b} h=>?_)
 show (T.q a).1≤(T.q b).1
 rcases (leP_iff _ _).mp h with h | h <;> lia
noncomputable def Tr.seq (T:Tr) (k:Nat):List Nat:=fixN [] (fun k f=>(T.kidO k).flatMap (fun x=>if k < x∧x < 8 then f x else []) ++ [k]) (8 - k + 1) k
theorem Tr.seq_eq (T:Tr) (k:Nat):T.seq k=(T.kidO k).flatMap T.seq ++ [k]:=by
 refine (fixN_dn (c:=fun k f=>(T.kidO k).flatMap f ++ [k])).trans ?_
 rw [List.flatMap_def,List.flatMap_def]
 congr 2
 refine List.map_congr_left fun x hx=>?_
 have:=Tr.kidO_mem.mp hx
 exact if_pos ⟨this.1,this.2.1⟩
theorem sum_le_map {f g:Nat→Nat}:∀ {l:List Nat},(∀ x∈l,f x≤g x)→(l.map f).sum≤(l.map g).sum
 | [],_=>le_refl _
 | x :: l,h=>by
  have h1:=h x (by simp)
  have h2:=sum_le_map (l:=l) fun y hy=>h y (by simp [hy])
  simp only [map_cons,sum_cons]; lia
theorem zM8 {f:Nat→Nat} {p:Nat→Bool}:∀ {l:List Nat},((l.filter p).map f).sum≤(l.map f).sum
 | []=>le_refl _
 | x :: l=>by
  have:=zM8 (f:=f) (p:=p) (l:=l)
  rw [List.filter_cons]
  split <;> simp only [map_cons,sum_cons] <;> lia
theorem Tr.seq_len (T:Tr):∀ k,k < 8→(T.seq k).length≤2 ^ (7 - k):=by
 intro k
 induction hn:8 - k using Nat.strongRecOn generalizing k with
 | ind n ih =>
  intro hk
  rw [T.seq_eq,length_append,List.length_flatMap,length_singleton]
  have h1:((T.kidO k).map fun a=>(T.seq a).length).sum≤((T.kidO k).map fun a=>2 ^ (7 - a)).sum:=sum_le_map fun x hx=>by
   have:=Tr.kidO_mem.mp hx
   exact ih (8 - x) (by lia) x rfl this.2.1
  have h2:((T.kidO k).map fun a=>2 ^ (7 - a)).sum=((T.kids k).map fun a=>2 ^ (7 - a)).sum:=((T.kidO_perm k).map _).sum_nat
  have h3:((T.kids k).map fun a=>2 ^ (7 - a)).sum≤(((range (7 - k)).map fun i=>k + 1 + i).map fun a=>2 ^ (7 - a)).sum:=zM8
  have h4:∀ k,k < 8→(((range (7 - k)).map fun i=>k + 1 + i).map fun a=>2 ^ (7 - a)).sum + 1=2 ^ (7 - k):=by decide
  have:=h4 k hk
  lia
theorem Tr.seq_len' (T:Tr) {k:Nat} (h:k < 8):(T.seq k).length≤128:=le_trans (T.seq_len k h) (Nat.pow_le_pow_right (n:=2) (by lia) (show 7 - k≤7 by lia))
noncomputable def Tr.item (T:Tr) (c:Nat):PStr × PStr:=(lS T c,T.pS c)
noncomputable def Tr.rowI (T:Tr) (c:Nat):PStr × PStr:=(mkS (rowL (T.md c)),T.pS c)
noncomputable def lenN (its:List (PStr × PStr)):Nat:=(its.map fun p=>p.1.length + p.2.length).sum
theorem zL0:∀ its,lenSum its=(lenN its:Int)
 | []=>rfl
 | p :: r=>by
  have:=zL0 r
  unfold lenSum lenN at *
  simp only [map_cons,sum_cons]
  lia
theorem zN4 (a b:List (PStr × PStr)):lenN (a ++ b)=lenN a + lenN b:=by unfold lenN; simp
theorem zN3 (T:Tr) (c:Nat):lenN [T.item c]=T.size c:=by
 unfold lenN Tr.item lS Tr.pS Tr.size
 simp [zB2]
theorem lenN_row (T:Tr) (c:Nat):lenN [T.rowI c]=10 + (T.pth c).length:=by
 unfold lenN Tr.rowI Tr.pS
 simp [zB2,zK5]
theorem lenN_items (T:Tr):∀ l:List Nat,lenN (l.map T.item)=sumL T.ps l
 | []=>rfl
 | c :: l=>by
  rw [map_cons,show T.item c :: l.map T.item=[T.item c] ++ l.map T.item from rfl,zN4,zN3,lenN_items T l]
  unfold sumL Tr.ps
  simp
theorem lenN_le {its:List (PStr × PStr)} (h:∀ p∈its,p.1.length + p.2.length≤40):lenN its≤40 * its.length:=by
 unfold lenN
 induction its with
 | nil=>simp
 | cons p r ih =>
  have h1:=h p (by simp)
  have h2:=ih fun q hq=>h q (by simp [hq])
  simp only [map_cons,sum_cons,length_cons]; lia
noncomputable def Tr.nextM (T:Tr) (base:List (PStr × PStr)) (m c:Nat):Nat:=max (max m (T.st + (lenN base + sumL T.ps (T.kidO c) + (10 + (T.pth c).length)))) (T.st + (lenN base + T.size c))
inductive Run (T:Tr):List (PStr × PStr)→Nat→List Nat→List (PStr × PStr)→Nat→Prop
 | nil (its m):Run T its m [] its m
 | cons (base m c S its' m'):c < 8→base.length≤100→(∀ p∈base,p.1.length + p.2.length≤40)→Run T (base ++ [T.item c]) (T.nextM base m c) S its' m'→Run T (base ++ (T.kidO c).map T.item) m (c :: S) its' m'
theorem Run.app {T:Tr} {a b c:List (PStr × PStr)} {m n p:Nat} {S S':List Nat} (h:Run T a m S b n) (g:Run T b n S' c p):Run T a m (S ++ S') c p:=by
 induction h with
 | nil its m=>exact g
 | cons base m c S its' m' h1 h2 h3 h4 ih=>exact .cons base m c _ _ _ h1 h2 h3 (ih g)
noncomputable def runM (T:Tr):Nat→Nat→List Nat→Nat
 | _,m,[]=>m
 | n,m,c :: r=>runM T (n + T.size c) (max m (T.st + n + T.peak c)) r
theorem runM_eq (T:Tr):∀ (cs:List Nat) (n m:Nat),runM T n m cs=max m (if cs=[] then 0 else T.st + costA T.ps n cs)
 | [],n,m=>by rw [runM,if_pos rfl,Nat.max_zero]
 | c :: r,n,m=>by
  rw [runM,runM_eq T r,if_neg (show ¬ c :: r=[] from List.cons_ne_nil _ _)]
  show max (max m (T.st + n + T.peak c)) _=max m (T.st + max (n + T.peak c) (costA T.ps (n + T.size c) r))
  by_cases e:r=[]
  ·subst e; rw [if_pos rfl,Nat.max_zero,costA,Nat.max_zero,Nat.add_assoc]
  ·rw [if_neg e,← Nat.add_max_add_left,Nat.max_assoc,Nat.add_assoc]
theorem zM3 {f:PS}:∀ (cs:List Nat) (n:Nat),cs≠[]→costA f n cs=n + costA f 0 cs
 | [],_,h=>absurd rfl h
 | c :: r,n,_=>by
  rw [costA,costA]
  by_cases e:r=[]
  ·subst e; rw [costA,costA,Nat.max_zero,Nat.max_zero,Nat.zero_add]
  ·rw [zM3 r (n + (f c).2) e,zM3 r (0 + (f c).2) e,Nat.zero_add,Nat.zero_add,← Nat.add_max_add_left,Nat.add_assoc]
theorem node_max (m p B X Z:Nat):max m (p + max (max B X) Z)=max (max (max m (p + B)) (p + X)) (p + Z):=by
 rw [← Nat.add_max_add_left,← Nat.add_max_add_left,Nat.max_assoc,Nat.max_assoc,Nat.max_assoc]
theorem Tr.Ok.item_le {T:Tr} (O:T.Ok) {c:Nat} (h:c < 8):(T.item c).1.length + (T.item c).2.length≤40:=by
 have:=T.left_len c
 have:=O.pth_len h
 show (mkS (T.left c)).length + (mkS (T.pth c)).length≤40
 rw [zB2,zB2]; lia
noncomputable def Fine (base:List (PStr × PStr)):Prop:=∀ p∈base,p.1.length + p.2.length≤40
theorem Fine.app {T:Tr} (O:T.Ok) {base:List (PStr × PStr)} (h:Fine base) {c:Nat} (hc:c < 8):Fine (base ++ [T.item c]):=fun p hp=>by
 rcases mem_append.mp hp with hp | hp
 ·exact h p hp
 ·rw [mem_singleton.mp hp]; exact O.item_le hc
theorem Run.kids {T:Tr} (O:T.Ok):∀ (cs:List Nat) (base:List (PStr × PStr)) (m:Nat),(∀ c∈cs,c < 8∧base.length + cs.length≤8 * c∧∀ (base:List (PStr × PStr)) m,base.length≤8 * c→Fine base→Run T base m (T.seq c) (base ++ [T.item c]) (max m (T.st + lenN base + T.peak c)))→Fine base →
  Run T base m (cs.flatMap T.seq) (base ++ cs.map T.item) (runM T (lenN base) m cs)
 | [],base,m,_,_=>by
  rw [List.map_nil,List.append_nil]; exact .nil _ _
 | c :: r,base,m,h,hf=>by
  obtain ⟨hc,hl,hr⟩:=h c (by simp)
  simp only [length_cons] at hl
  rw [List.flatMap_cons,map_cons,show base ++ T.item c :: r.map T.item=(base ++ [T.item c]) ++ r.map T.item by simp]
  refine (hr base m (by lia) hf).app ?_
  have:=Run.kids O r (base ++ [T.item c]) (max m (T.st + lenN base + T.peak c)) (fun x hx=>?_) (hf.app O hc)
  ·rw [zN4,zN3] at this
   exact this
  ·obtain ⟨h1,h2,h3⟩:=h x (by simp [hx])
   refine ⟨h1,?_,h3⟩
   simp only [length_append,length_cons,length_nil] at h2 ⊢; lia
theorem Run.node {T:Tr} (O:T.Ok):∀ k,k < 8→∀ (base:List (PStr × PStr)) m,base.length≤8 * k→Fine base→Run T base m (T.seq k) (base ++ [T.item k]) (max m (T.st + lenN base + T.peak k)):=by
 intro k
 induction hn:8 - k using Nat.strongRecOn generalizing k with
 | ind n ih =>
  intro hk base m hb hf
  rw [T.seq_eq]
  have hl:=T.kids_len k
  have R1:=Run.kids O (T.kidO k) base m (fun c hc=>by
   have:=Tr.kidO_mem.mp hc
   refine ⟨this.2.1,?_,fun base m h1 h2=>ih (8 - c) (by lia) c rfl this.2.1 base m h1 h2⟩
   rw [T.kidO_len]; lia) hf
  refine R1.app ?_
  have e:max m (T.st + lenN base + T.peak k)=T.nextM base (runM T (lenN base) m (T.kidO k)) k:=by
   unfold Tr.nextM
   rw [runM_eq,T.peak_eq k,T.best_kids,zM9 (T.kidO_perm k).symm]
   by_cases q:T.kidO k=[]
   ·rw [if_pos q,q,costA,node_max,Nat.max_zero,Nat.add_zero,Nat.max_assoc m,Nat.max_eq_right (show T.st + lenN base≤T.st + lenN base + _ from Nat.le_add_right _ _)]
    simp only [Nat.add_assoc]
   ·rw [if_neg q,zM3 _ (lenN base) q,node_max]
    simp only [Nat.add_assoc]
  rw [e]
  exact .cons base _ k [] _ _ hk (by lia) hf (.nil _ _)
theorem Run.root {T:Tr} (O:T.Ok) {k:Nat} (h:k < 8):Run T [] T.st (T.seq k) [T.item k] (T.st + T.peak k):=by
 have:=Run.node O k h [] T.st (by simp) fun p hp=>by simp at hp
 have e:max T.st (T.st + lenN [] + T.peak k)=T.st + T.peak k:=by
  have:lenN []=0:=rfl
  lia
 rw [e] at this
 exact this
mutual
theorem eqv_self:∀ d:PyData,d.canLay0=true→PyData.eqv d d=true
 | .none,_=>rfl
 | .bool b,_=>by simp [PyData.eqv]
 | .int i,_=>by simp [PyData.eqv]
 | .str x,_=>by simp [PyData.eqv]
 | .list xs,h=>by rw [PyData.eqv]; exact zM1 xs (by rw [PyData.canLay0] at h; exact h)
 | .tuple xs,h=>by rw [PyData.eqv]; exact zM1 xs (by rw [PyData.canLay0] at h; exact h)
 | .dict _,h=>by rw [PyData.canLay0] at h; cases h
theorem zM1:∀ ds:List PyData,PyData.canLayAll0 ds=true→PyData.eqvAll ds ds=true
 | [],_=>rfl
 | x :: xs,h=>by
  rw [PyData.canLayAll0,and_eq_true] at h
  rw [PyData.eqvAll,eqv_self x h.1,zM1 xs h.2]; rfl
end
theorem eqvPV_self {p:PV} {d:PyData} (h:toPy p=some d) (hc:d.canLay0=true) (hd:d.depth≤64):eqvPV p p=some true:=by
 unfold eqvPV
 rw [h,bind_some,bind_some,if_pos ⟨hc,hc,hd⟩,eqv_self d hc]
theorem layAll_of:∀ {ds:List PyData},(∀ d∈ds,d.canLay0=true)→PyData.canLayAll0 ds=true
 | [],_=>rfl
 | x :: xs,h=>by rw [PyData.canLayAll0,h x (by simp),layAll_of fun d hd=>h d (by simp [hd])]; rfl
theorem zM2 {n:Nat}:∀ {ds:List PyData},(∀ d∈ds,d.depth≤n)→PyData.depthAll ds≤n
 | [],_=>zero_le _
 | x :: xs,h=>by
  rw [PyData.depthAll]
  exact Nat.max_le.mpr ⟨h x (by simp),zM2 fun d hd=>h d (by simp [hd])⟩
theorem toPyL_map {ι:Type} {f:ι→PV} {g:ι→PyData} (h:∀ i,toPy (f i)=some (g i)):∀ l:List ι,toPyL (l.map f)=some (l.map g)
 | []=>rfl
 | i :: l=>by rw [map_cons,toPyL,h i,bind_some,toPyL_map h l]; rfl
noncomputable def small (l:List Nat):Prop:=∀ c∈l,c < 1000
theorem ok_mk {l:List Nat} (h:small l):PyData.strOk (mkS l)=true:=by
 unfold PyData.strOk
 rw [← Array.all_toList,List.all_eq_true]
 intro c hc
 have:=h c hc
 exact decide_eq_true (by lia)
theorem ne_self {ss:List PStr} (h:∀ x∈ss,PyData.strOk x=true):nePV (.list (ss.map .str)) (.list (ss.map .str))=some (.bool false):=by
 have e:toPy (.list (ss.map .str))=some (.list (ss.map PyData.str)):=by rw [toPy,toPyL_map (g:=PyData.str) (fun i=>rfl) ss]; rfl
 (first | rw [nePV_ii] | rw [nePV_ss] | rw [nePV_ll])
 rw [eqvPV_self e ?_ ?_]
 ·rfl
 ·rw [PyData.canLay0]
  refine layAll_of fun d hd=>?_
  obtain ⟨x,hx,rfl⟩:=mem_map.mp hd
  rw [PyData.canLay0]; exact h x hx
 ·rw [PyData.depth]
  have:PyData.depthAll (ss.map PyData.str)≤0:=zM2 fun d hd=>by
   obtain ⟨x,hx,rfl⟩:=mem_map.mp hd
   exact le_refl _
  lia
theorem Tr.Ok.name_small {T:Tr} (O:T.Ok) {k:Nat} (h:k < 8):small (T.name k):=by
 intro c hc
 unfold Tr.name at hc
 split at hc
 ·simp at hc
 ·have:=(List.mem_replicate.mp hc).2; lia
theorem Tr.Ok.txt_small {T:Tr} (O:T.Ok):∀ k,k < 8→small (T.txt k):=by
 intro k
 induction k using Nat.strongRecOn with
 | ind k ih =>
  intro hk c hc
  rcases eq_zero_or_pos k with rfl | h
  ·rw [O.txt_zero] at hc; simp at hc
  ·rw [O.txt_pos h] at hc
   rcases mem_append.mp hc with hc | hc
   ·exact ih _ (O.up k h) (by have:=O.up k h; lia) c hc
   ·rcases mem_cons.mp hc with rfl | hc
    ·lia
    ·exact O.name_small hk c hc
theorem Tr.Ok.pth_small {T:Tr} (O:T.Ok) {k:Nat} (h:k < 8):small (T.pth k):=by
 rcases eq_zero_or_pos k with rfl | h0
 ·rw [O.pth_zero]; intro c hc; simp at hc; lia
 ·rw [O.pth_pos h0]; exact O.txt_small k h
theorem rowL_small (m:Nat):small (rowL m):=by
 intro c hc
 unfold rowL at hc
 rcases mem_cons.mp hc with rfl | hc
 ·unfold kindC
  have:∀ i,i < 16→kindS.getD i 0 < 1000:=by decide
  exact this _ (Nat.mod_lt _ (by lia))
 ·obtain ⟨j,_,hj⟩:=List.mem_flatMap.mp hc
  unfold tripM trip specC at hj
  simp only [mem_cons,not_mem_nil,or_false] at hj
  rcases hj with rfl | rfl | rfl
  ·split <;> lia
  ·split <;> lia
  ·repeat' split
   all_goals lia
theorem Tr.left_small (T:Tr) (k:Nat):small (T.left k):=fun c hc=>rowL_small _ c (List.mem_filter.mp hc).1
theorem small_app {a b:List Nat} (h:small a) (g:small b):small (a ++ b):=fun c hc=>(mem_append.mp hc).elim (h c) (g c)
theorem Tr.Ok.common_small {T:Tr} (O:T.Ok) {k:Nat} (h:k < 8):small (T.common k):=by
 unfold Tr.common
 split
 ·intro c hc; simp at hc
 ·split
  ·rename_i h1
   have:(T.kids k).getD 0 0∈T.kids k:=by
    rw [getD_eq_getElem?_getD,getElem?_eq_getElem (by lia)]
    simp
   exact O.pth_small (Tr.kids_mem.mp this).2.1
  ·exact O.pth_small h
theorem Tr.Ok.eq_wanted {T:Tr} (O:T.Ok):eqPV (wantedV T) (wantedV T)=some (.bool true):=by
 let e:Nat→PyData:=fun k=>.list [.int ((T.st + T.peak k:Nat):Int),.list [.tuple [.str (lS T k),.str (T.pS k)]],.int ((T.st + T.size k:Nat):Int),.str (mkS (T.left k ++ T.pth k)),.str (mkS (T.common k))]
 have h1:toPy (wantedV T)=some (.list ((range 8).map e)):=by
  unfold wantedV
  rw [toPy,toPyL_map (g:=e) (fun i=>rfl)]
  rfl
 show (eqvPV (wantedV T) (wantedV T)).map PV.bool=_
 rw [eqvPV_self h1 ?_ ?_]
 ·rfl
 ·rw [PyData.canLay0]
  refine layAll_of fun d hd=>?_
  obtain ⟨k,hk,rfl⟩:=mem_map.mp hd
  have hk:=mem_range.mp hk
  have a1:PyData.strOk (lS T k)=true:=ok_mk (T.left_small k)
  have a2:PyData.strOk (T.pS k)=true:=ok_mk (O.pth_small hk)
  have a3:PyData.strOk (mkS (T.left k ++ T.pth k))=true:=ok_mk (small_app (T.left_small k) (O.pth_small hk))
  have a4:PyData.strOk (mkS (T.common k))=true:=ok_mk (O.common_small hk)
  simp only [e,PyData.canLay0,PyData.canLayAll0,a1,a2,a3,a4,Bool.and_self]
 ·rw [PyData.depth]
  have:PyData.depthAll ((range 8).map e)≤3:=zM2 fun d hd=>by
   obtain ⟨k,hk,rfl⟩:=mem_map.mp hd
   simp [e,PyData.depth,PyData.depthAll]
  lia
noncomputable def rowsV (T:Tr):PV:=.dict ((range 8).map T.pS) ((range 8).map fun k=>.str (mkS (rowL (T.md k))))
noncomputable def belowV (T:Tr):PV:=.dict ((range 8).map T.pS) ((range 8).map fun k=>.list ((T.kids k).map fun c=>.str (T.pS c)))
noncomputable def seqV (T:Tr) (k:Nat):PV:=.list ((T.seq k).map fun c=>.str (T.pS c))
noncomputable def runV (T:Tr) (k:Nat):PV:=.tup [.int ((T.st + T.peak k:Nat):Int),.list [.tup [.str (lS T k),.str (T.pS k)]],.int ((T.st + T.size k:Nat):Int),.str (mkS (T.left k ++ T.pth k))]
noncomputable def runA (T:Tr) (k:Nat):List PV:=[seqV T k,rowsV T,keptV T,belowV T,.int (T.st:Int)]
theorem pS_list {T:Tr} (O:T.Ok) {a b:List Nat} (h:PV.list (a.map fun c=>.str (T.pS c)) = .list (b.map fun c=>.str (T.pS c))):a=b:=by
 injection h with h
 exact (List.map_inj_right fun x y e=>by injection e with e; exact O.pS_inj e).mp h
noncomputable def manyF (A:Nat→List PV) (r:Nat→PV):List PV→Option PV:=open Classical in fun ps=>if h:∃ k,k < 8∧ps=A k then some (r h.choose) else none
theorem manyF_some {A:Nat→List PV} {r:Nat→PV} {ps:List PV} {p:PV} (h:manyF A r ps=some p):∃ k,k < 8∧ps=A k∧p=r k:=by
 unfold manyF at h
 split at h
 ·rename_i hh
  injection h with h
  exact ⟨_,hh.choose_spec.1,hh.choose_spec.2,h.symm⟩
 ·exact no h
theorem manyF_at {A:Nat→List PV} {r:Nat→PV} {k:Nat} (hk:k < 8) (hi:∀ j,j < 8→A k=A j→r j=r k):manyF A r (A k)=some (r k):=by
 unfold manyF
 have hh:∃ j,j < 8∧A k=A j:=⟨k,hk,rfl⟩
 rw [dif_pos hh,hi _ hh.choose_spec.1 hh.choose_spec.2]
theorem seqV_inj {T:Tr} (O:T.Ok) {j k:Nat} (h:seqV T k=seqV T j):j=k:=by
 have:=pS_list O h
 rw [T.seq_eq k,T.seq_eq j] at this
 have:=congrArg List.getLast? this
 simpa using this.symm
theorem runF_at {T:Tr} (O:T.Ok) {k:Nat} (hk:k < 8):manyF (runA T) (runV T) [seqV T k,rowsV T,keptV T,belowV T,.int (T.st:Int)]=some (runV T k) :=
 manyF_at (A:=runA T) hk fun j hj e=>by
  unfold runA at e
  injection e with e _
  rw [seqV_inj O e]
theorem room_go {x:PStr} {f:Lc→Option PV} {l:Lc} {i:Int} (h:f l=some (.int i)):cRoom x f l=some (.go ((x,.acc i []) :: l)):=by unfold cRoom; rw [h]; rfl
theorem push_go {x:PStr} {fs:Lc→Option (List PV)} {l:Lc} {st:Int} {its:List (PStr × PStr)} {a b:PStr} (h:look l x=some (.acc st its)) (h2:fs l=some [.str a,.str b]) (hl:its.length < 900):cPush x fs l=some (.go ((x,.acc st (its ++ [(a,b)])) :: l)):=by
 unfold cPush
 rw [h]
 dsimp only
 rw [h2,bind_some]
 dsimp only
 rw [if_pos hl]
theorem pop_go {y x:PStr} {f:Lc→Option PV} {l:Lc} {st:Int} {its:List (PStr × PStr)} {i:Nat} (h:look l x=some (.acc st its)) (h2:f l=some (.int (i:Int))) (hi:i≤its.length) (hl:its.length≤900):cPop y x f l=some (.go ((y,.fz (.list ((its.drop i).map tupSS))) :: (x,.acc st (its.take i)) :: l)):=by
 unfold cPop
 rw [h]
 dsimp only
 rw [h2,bind_some]
 dsimp only
 rw [if_pos ⟨by lia,by lia,hl⟩,Int.toNat_natCast]
theorem acc_of {x:PStr} {g:Int→List (PStr × PStr)→PV} {l:Lc} {st:Int} {its:List (PStr × PStr)} (h:look l x=some (.acc st its)) (hz:szOK its st=true):cAcc x g l=some (g st its):=by
 unfold cAcc
 rw [h]
 dsimp only
 rw [if_pos hz]
theorem sz_of {its:List (PStr × PStr)} {st:Nat} (h:Fine its) (hl:its.length≤120) (hs:st < 8):szOK its (st:Int)=true:=by
 have:=lenN_le h
 unfold szOK
 unfold lenN at this
 simp only [and_eq_true,decide_eq_true_eq]
 refine ⟨⟨⟨?_,?_⟩,?_⟩,?_⟩ <;> lia
noncomputable def RJ (T:Tr) (its:List (PStr × PStr)) (m:Nat) (l:Lc):Prop :=
 look l (ofString "room")=some (.acc (T.st:Int) its)∧look l (ofString "most")=some (.fz (.int (m:Int)))∧look l (ofString "rows")=some (.fz (rowsV T))∧look l (ofString "kept")=some (.fz (keptV T))∧look l (ofString "below")=some (.fz (belowV T))
theorem run_then {T:Tr} {β:Type} {g:PV→Option Lc} {fb fe:Lc→Option Out} {k:Out→Option β} {r:β} {its its':List (PStr × PStr)} {m m':Nat} {S:List Nat} (H:Run T its m S its' m')
  (hs:∀ c base m l,c < 8→base.length≤100→Fine base→RJ T (base ++ (T.kidO c).map T.item) m l→∃ l',((g (.str (T.pS c))).bind fun t=>fb (t ++ l))=some (.go l')∧RJ T (base ++ [T.item c]) (T.nextM base m c) l')
  (he:∀ l,RJ T its' m' l→((fe l).bind k)=some r):∀ l0,RJ T its m l0→((forO g fb fe (S.map fun c=>.str (T.pS c)) l0).bind k)=some r:=by
 induction H with
 | nil its m=>exact fun l0 h=>he l0 h
 | cons base m c S its' m' h1 h2 h3 h4 ih =>
  intro l0 h
  obtain ⟨l',e,h'⟩:=hs c base m l0 h1 h2 h3 h
  refine Eq.trans ?_ (ih he l' h')
  congr 1
  show ((g (.str (T.pS c))).bind fun t=>(fb (t ++ l0)).bind _)=_
  rw [← Option.bind_assoc,e]
  rfl
theorem dget_rows {T:Tr} (O:T.Ok) {c:Nat} (h:c < 8):idxPV (rowsV T) (.str (T.pS c))=some (.str (mkS (rowL (T.md c)))):=zF0 O.pS_inj (g:=fun k=>PV.str (mkS (rowL (T.md k)))) (mem_range.mpr h)
theorem dget_kept {T:Tr} (O:T.Ok) {c:Nat} (h:c < 8):idxPV (keptV T) (.str (T.pS c))=some (.str (lS T c)):=zF0 O.pS_inj (g:=fun k=>PV.str (lS T k)) (mem_range.mpr h)
theorem dget_below {T:Tr} (O:T.Ok) {c:Nat} (h:c < 8):idxPV (belowV T) (.str (T.pS c))=some (.list ((T.kids c).map fun c=>.str (T.pS c))):=zF0 O.pS_inj (g:=fun k=>PV.list ((T.kids k).map fun c=>.str (T.pS c))) (mem_range.mpr h)
theorem catS_one (a b:List Nat):catS [(mkS a,mkS b)]=mkS (a ++ b):=by
 show catP (mkS a,mkS b)=_
 show (mkS a ++ ofString "") ++ mkS b=_
 rw [mkS_none,zE6,zE6,List.append_nil]
theorem list_len {xs:List PV} (h:xs.length≤1000):lenPV (.list xs)=some (.int (xs.length:Nat)):=by
 (first | rw [lenPV_s] | rw [lenPV_l] | rw [lenPV_t])
 rw [if_pos (zA6 (by lia))]
theorem add_list {xs ys:List PV} (h:xs.length + ys.length≤1000):addPV (.list xs) (.list ys)=some (.list (xs ++ ys)):=by
 (first | rw [zI9] | rw [zG9] | rw [zI8])
 rw [if_pos (zA6 (by lia))]
theorem srt_same (T:Tr) {a b:List Nat} (h:a.Perm b):((T.srt a).map fun k=>PV.str (T.pS k))=((T.srt b).map fun k=>PV.str (T.pS k)):=by
 have:(T.srt a).map T.pS=(T.srt b).map T.pS:=by rw [← T.srt_S,← T.srt_S]; exact sortS_perm (h.map _)
 have:=congrArg (List.map PV.str) this
 rw [map_map,map_map] at this
 exact this
theorem f_run {k:Nat} {T:Tr} (O:T.Ok):FnSound (k + 4) 291 (manyF (runA T) (runV T)):=by
 apply fn_w [ofString "sequence",ofString "rows",ofString "kept",ofString "below",ofString "start"]
 case hat=>exact fun P=>⟨_,rfl,rfl⟩
 case hcode=>exact fun P=>⟨_,_,_,_,rfl,rfl,rfl,rfl⟩
 case hsc=>rfl
 case hxs=>rfl
 case hbind=>exact bind5 (fun _ _ _ _ _=>rfl)
 case B=>exact (zA1 (ws_room rfl (.inl rfl) (zA2 (.inl rfl) rfl) rfl fun _ _=>rfl)
 (zA1 (zB8 (.inl rfl) (zA2 (.inl rfl) rfl) fun _=>rfl)
 (zA1 (zG4 (zA2 (.inl rfl) rfl) (zF4 (.inl rfl)) (zA1 (ws_push (.inl rfl) rfl (zA0 (zB3 (zA9 (.inl rfl) rfl) (zA2 (.inl rfl) rfl) fun _ _=>rfl) (zA0 (zA2 (.inl rfl) rfl) zA4 rfl) rfl) rfl rfl rfl rfl)
 (zA1 (zB8 (.inl rfl) (w_max rfl rfl (zA0 (zA2 (.inl rfl) rfl) (zA0 (w_lenR rfl (.inl rfl) rfl) zA4 rfl) rfl)) fun _=>rfl)
 (zA1 (ws_pop (.inl rfl) (.inl rfl) rfl (w_sub (w_sub (w_partR (.inl rfl) rfl rfl) (w_len rfl rfl (zL6 (zB3 (zA9 (.inl rfl) rfl) (zA2 (.inl rfl) rfl) fun _ _=>rfl)))) zB0) rfl rfl fun _ _=>rfl)
 (zA1 (zO3 (wt_ne (zM6 rfl rfl (zA0 (we_n (wn_lc rfl (fun _ _=>rfl) (zA2 (.inl rfl) rfl) (wc_pair rfl rfl rfl rfl rfl rfl) zF5 (zA2 (.inl rfl) rfl))) zA4 rfl)) (zM6 rfl rfl (zA0 (zE0 (zB3 (zA9 (.inl rfl) rfl) (zA2 (.inl rfl) rfl) fun _ _=>rfl) (zJ1 (zA0 (zA2 (.inl rfl) rfl) zA4 rfl))) zA4 rfl)) rfl) (zA1 (zD9 (w_tup (zA0 (zA2 (.inl rfl) rfl) (zA0 (zJ1 (zA0 zE5 zA4 rfl)) (zA0 zB0 (zA0 zE5 zA4 rfl) rfl) rfl) rfl)))
 zA8) zA8)
 (zA1 (ws_push (.inl rfl) rfl (zA0 (zB3 (zA9 (.inl rfl) rfl) (zA2 (.inl rfl) rfl) fun _ _=>rfl) (zA0 (zA2 (.inl rfl) rfl) zA4 rfl) rfl) rfl rfl rfl rfl)
 (zA1 (zB8 (.inl rfl) (w_max rfl rfl (zA0 (zA2 (.inl rfl) rfl) (zA0 (w_lenR rfl (.inl rfl) rfl) zA4 rfl) rfl)) fun _=>rfl)
 zA8)))))) zA8 fun _ _=>rfl)
 (zA1 (zD9 (w_tup (zA0 (zA2 (.inl rfl) rfl) (zA0 (w_sliceR (.inl rfl) rfl) (zA0 (w_lenR rfl (.inl rfl) rfl) (zA0 (w_strR rfl (.inl rfl) rfl) zA4 rfl) rfl) rfl) rfl)))
 zA8))))
 case hφ =>
  intro ps p h
  obtain ⟨n,hn,rfl,rfl⟩:=manyF_some h
  clear h
  refine zG6 (L:=[(ofString "start",.fz (.int (T.st:Int))),(ofString "below",.fz (belowV T)),(ofString "kept",.fz (keptV T)),(ofString "rows",.fz (rowsV T)),(ofString "sequence",.fz (seqV T n))]) rfl ?_
  refine Eq.trans (zA5 (room_go (i:=(T.st:Int)) (zA3 rfl))) ?_
  refine Eq.trans (zA5 (zB4 (p:=.int (T.st:Int)) (zA3 rfl))) ?_
  refine zK3 (zA3 (p:=seqV T n) rfl) (zC3 (xs:=(T.seq n).map fun c=>.str (T.pS c)) (by rw [length_map]; have:=T.seq_len' hn; lia)) ?_
  refine run_then (Run.root O hn) ?_ ?_ _ ⟨rfl,rfl,rfl,rfl,rfl⟩
  ·rintro c base m l hc hb hf ⟨g1,g2,g3,g4,g5⟩
   have hkl:=T.kids_len c
   have hol:=T.kidO_len c
   have lp:=O.pth_len hc
   have hfk:Fine (base ++ (T.kidO c).map T.item):=fun p hp=>by
    rcases mem_append.mp hp with hp | hp
    ·exact hf p hp
    ·obtain ⟨x,hx,rfl⟩:=mem_map.mp hp
     exact O.item_le (Tr.kidO_mem.mp hx).2.1
   have hfr:Fine (base ++ (T.kidO c).map T.item ++ [T.rowI c]):=fun p hp=>by
    rcases mem_append.mp hp with hp | hp
    ·exact hfk p hp
    ·rw [mem_singleton.mp hp]
     show (mkS (rowL (T.md c))).length + (mkS (T.pth c)).length≤40
     rw [zB2,zB2,zK5]; lia
   have hfi:Fine (base ++ [T.item c]):=hf.app O hc
   have l1:(base ++ (T.kidO c).map T.item).length=base.length + (T.kids c).length:=by rw [length_append,length_map,hol]
   have l2:(base ++ (T.kidO c).map T.item ++ [T.rowI c]).length=base.length + (T.kids c).length + 1:=by rw [length_append,l1]; rfl
   have l3:(base ++ [T.item c]).length=base.length + 1:=by simp
   have z2:=sz_of hfr (by lia) O.st
   have z3:=sz_of hfi (by lia) O.st
   have n2:lenSum (base ++ (T.kidO c).map T.item ++ [T.rowI c])=((lenN base + sumL T.ps (T.kidO c) + (10 + (T.pth c).length):Nat):Int):=by rw [zL0,zN4,zN4,lenN_items,lenN_row]
   have n3:lenSum (base ++ [T.item c])=((lenN base + T.size c:Nat):Int):=by rw [zL0,zN4,zN3]
   have tk:(base ++ (T.kidO c).map T.item ++ [T.rowI c]).take base.length=base:=by rw [List.append_assoc,List.take_left']; rfl
   have dk:(base ++ (T.kidO c).map T.item ++ [T.rowI c]).drop base.length=(T.kidO c).map T.item ++ [T.rowI c]:=by rw [List.append_assoc,List.drop_left']; rfl
   generalize hm1:max m (T.st + (lenN base + sumL T.ps (T.kidO c) + (10 + (T.pth c).length)))=m1
   refine ⟨(ofString "most",.fz (.int ((max m1 (T.st + (lenN base + T.size c)):Nat):Int))) :: (ofString "room",.acc (T.st:Int) (base ++ [T.item c])) :: (ofString "gone",.fz (.list (((T.kidO c).map T.item ++ [T.rowI c]).map tupSS))) :: (ofString "room",.acc (T.st:Int) base) ::
    (ofString "most",.fz (.int (m1:Int))) :: (ofString "room",.acc (T.st:Int) (base ++ (T.kidO c).map T.item ++ [T.rowI c])) :: (ofString "path",.fz (.str (T.pS c))) :: l,?_,?_⟩
   ·rw [bind_some,singleton_append]
    refine Eq.trans (zA5 (push_go (st:=(T.st:Int)) (its:=base ++ (T.kidO c).map T.item) (a:=mkS (rowL (T.md c))) (b:=T.pS c) (by exact g1) (cc2 (zA7 (zC2 (p:=rowsV T) (by exact g3)) (zA3 rfl) (dget_rows O hc)) (zA3 rfl)) (by lia))) ?_
    have hmx:∀ (l:Lc) (its:List (PStr × PStr)) (m N:Nat),look l (ofString "most")=some (.fz (.int (m:Int)))→look l (ofString "room")=some (.acc (T.st:Int) its)→szOK its (T.st:Int)=true→lenSum its=(N:Int)→(cCons (cV (ofString "most")) (cCons (cAcc (ofString "room") fun st its=>.int (st + lenSum its)) cNil) l).bind maxPV=some (.int ((max m (T.st + N):Nat):Int)):=by
     intro l its m N h1 h2 h3 h4
     refine bd1 (cc2 (zA3 h1) (acc_of h2 h3)) ?_
     rw [h4,show ((T.st:Int) + (N:Int))=((T.st + N:Nat):Int) by lia]
     exact max_nat _ _
    refine Eq.trans (zA5 (zB4 (p:=.int (m1:Int)) (by rw [← hm1]; exact hmx _ _ m _ (by exact g2) rfl z2 n2))) ?_
    have hbel:∀ l:Lc,look l (ofString "below")=some (.fz (belowV T))→look l (ofString "path")=some (.fz (.str (T.pS c)))→c2 idxPV (cW (ofString "below")) (cV (ofString "path")) l=some (.list ((T.kids c).map fun c=>.str (T.pS c))):=fun l h1 h2=>zA7 (zC2 h1) (zA3 h2) (dget_below O hc)
    have hidx:∀ l:Lc,look l (ofString "room")=some (.acc (T.st:Int) (base ++ (T.kidO c).map T.item ++ [T.rowI c]))→look l (ofString "below")=some (.fz (belowV T))→look l (ofString "path")=some (.fz (.str (T.pS c))) →
      c2 subPV (c2 subPV (cAcc (ofString "room") fun st its=>.int its.length) (fun l=>(c2 idxPV (cW (ofString "below")) (cV (ofString "path")) l).bind lenPV)) (cK (.int 1)) l=some (.int (base.length:Int)):=by
     intro l h1 h2 h3
     have e1:subPV (.int ((base ++ (T.kidO c).map T.item ++ [T.rowI c]).length:Int)) (.int (((T.kids c).map fun c=>PV.str (T.pS c)).length:Int))=some (.int ((base.length + 1:Nat):Int)):=by
      rw [l2,length_map,sub_nat (by lia)]; congr 3; lia
     exact zA7 (zA7 (acc_of h1 z2) (bdL (hbel l h2 h3) (list_len (by rw [length_map]; lia))) e1) rfl ((sub_nat (b:=1) (by lia)).trans (by rw [Nat.add_sub_cancel]))
    refine Eq.trans (zA5 (pop_go (i:=base.length) (its:=base ++ (T.kidO c).map T.item ++ [T.rowI c]) (st:=(T.st:Int)) rfl (hidx _ rfl (by exact g5) rfl) (by lia) (by lia))) ?_
    rw [tk,dk]
    have hS1:sortedPV [.list (((T.kidO c).map T.item ++ [T.rowI c]).map fun p=>PV.str p.2)]=some (.list ((T.srt (T.kids c ++ [c])).map fun k=>PV.str (T.pS k))):=by
     have e1:(((T.kidO c).map T.item ++ [T.rowI c]).map fun p=>PV.str p.2)=(T.kidO c ++ [c]).map fun k=>PV.str (T.pS k):=by
      rw [map_append,map_append,map_map]; rfl
     rw [e1,sorted_S T (by rw [length_append,T.kidO_len]; simp; lia),srt_same T ((T.kidO_perm c).append_right [c])]
    have hS2:sortedPV [.list (((T.kids c).map fun c=>PV.str (T.pS c)) ++ [.str (T.pS c)])]=some (.list ((T.srt (T.kids c ++ [c])).map fun k=>PV.str (T.pS k))):=by
     have e1:(((T.kids c).map fun c=>PV.str (T.pS c)) ++ [.str (T.pS c)])=(T.kids c ++ [c]).map fun k=>PV.str (T.pS k):=by rw [map_append]; rfl
     rw [e1,sorted_S T (by rw [length_append]; simp; lia)]
    have hne:nePV (.list ((T.srt (T.kids c ++ [c])).map fun k=>PV.str (T.pS k))) (.list ((T.srt (T.kids c ++ [c])).map fun k=>PV.str (T.pS k)))=some (.bool false):=by
     have:=ne_self (ss:=(T.srt (T.kids c ++ [c])).map T.pS) fun x hx=>by
      obtain ⟨j,hj,rfl⟩:=mem_map.mp hx
      have hj:=(T.srt_perm _).mem_iff.mp hj
      refine ok_mk (O.pth_small ?_)
      rcases mem_append.mp hj with hj | hj
      ·exact (Tr.kids_mem.mp hj).2.1
      ·rw [mem_singleton.mp hj]; exact hc
     rw [map_map] at this
     exact this
    have htest:∀ l:Lc,look l (ofString "gone")=some (.fz (.list (((T.kidO c).map T.item ++ [T.rowI c]).map tupSS)))→look l (ofString "below")=some (.fz (belowV T))→look l (ofString "path")=some (.fz (.str (T.pS c))) →
      (c2 nePV (fun l=>(cCons (cComp (cV (ofString "gone")) (pairG (ofString "signs") (ofString "place")) (fun x=>some true) (cApp (cV (ofString "place"))) (PV.list [])) cNil l).bind sortedPV)
       (fun l=>(cCons (c2 addPV (c2 idxPV (cW (ofString "below")) (cV (ofString "path"))) (cList (cCons (cV (ofString "path")) cNil))) cNil l).bind sortedPV) l).bind asB=some false:=by
     intro l h1 h2 h3
     have e1:cComp (cV (ofString "gone")) (pairG (ofString "signs") (ofString "place")) (fun x=>some true) (cApp (cV (ofString "place"))) (PV.list []) l=some (.list (((T.kidO c).map T.item ++ [T.rowI c]).map fun p=>PV.str p.2)):=by
      unfold cComp
      rw [zA3 h1,bind_some,zC3 (by simp; lia),bind_some]
      exact zF1 (by simp; lia) fun x hx=>⟨_,rfl,rfl,zA3 rfl⟩
     rw [zA7 (bd1 (cc1 e1) hS1) (bd1 (cc1 (zA7 (hbel l h2 h3) (zD7 (cc1 (zA3 h3)) (by simp)) (add_list (by simp; lia)))) hS2) hne]
     rfl
    refine Eq.trans (zA5 (if_no (htest _ rfl (by exact g5) rfl) rfl)) ?_
    refine Eq.trans (zA5 (push_go (st:=(T.st:Int)) (its:=base) (a:=lS T c) (b:=T.pS c) rfl (cc2 (zA7 (zC2 (p:=keptV T) (by exact g4)) (zA3 rfl) (dget_kept O hc)) (zA3 rfl)) (by lia))) ?_
    refine Eq.trans (zA5 (zB4 (p:=.int ((max m1 (T.st + (lenN base + T.size c)):Nat):Int)) (hmx _ (base ++ [T.item c]) m1 _ rfl rfl z3 n3))) ?_
    rfl
   ·unfold RJ Tr.nextM
    rw [hm1]
    refine ⟨?_,?_,?_,?_,?_⟩ <;> first | rfl | assumption
  ·rintro l ⟨g1,g2,g3,g4,g5⟩
   have z:=sz_of (its:=[T.item n]) (fun p hp=>by rw [mem_singleton.mp hp]; exact O.item_le hn) (by simp) O.st
   have b1:look (freeze l) (ofString "room")=some (.acc (T.st:Int) [T.item n]):=by rw [zB7,g1]; rfl
   have b2:look (freeze l) (ofString "most")=some (.fz (.int ((T.st + T.peak n:Nat):Int))):=by rw [zB7,g2]; rfl
   have e1:((T.st:Int) + lenSum [T.item n])=((T.st + T.size n:Nat):Int):=by rw [zL0,zN3]; lia
   have e2:catS [T.item n]=mkS (T.left n ++ T.pth n):=catS_one _ _
   rw [bind_some]
   refine zH9 (ctup_at (ccS (zA3 b2) (ccS (acc_of b1 z) (ccS (acc_of b1 z) (ccS (acc_of b1 z) rfl)))) (by simp)) |>.trans ?_
   rw [e1,e2]
   rfl
noncomputable def jn:List (List Nat)→List Nat
 | []=>[]
 | [x]=>x
 | x :: y :: r=>x ++ 47 :: jn (y :: r)
theorem jn_join:∀ P:List (List Nat),PySem.Str.join (mkS [47]) (P.map mkS)=mkS (jn P)
 | []=>rfl
 | [x]=>rfl
 | x :: y :: r=>by
  have ih:=jn_join (y :: r)
  show (mkS x ++ mkS [47]) ++ PySem.Str.join (mkS [47]) ((y :: r).map mkS)=_
  rw [ih,zE6,zE6,List.append_assoc]
  rfl
theorem jn_snoc (x:List Nat):∀ P:List (List Nat),P≠[]→jn (P ++ [x])=jn P ++ 47 :: x
 | [],h=>absurd rfl h
 | [y],_=>rfl
 | y :: z :: r,_=>by
  have ih:=jn_snoc x (z :: r) (by simp)
  show y ++ 47 :: jn ((z :: r) ++ [x])=(y ++ 47 :: jn (z :: r)) ++ 47 :: x
  rw [ih]; simp
theorem cut_uniq:∀ {x y a b:List Nat},47 ∉ x→47 ∉ y→x ++ 47 :: a=y ++ 47 :: b→x=y∧a=b
 | [],[],a,b,_,_,h=>by injection h with _ h; exact ⟨rfl,h⟩
 | [],d :: y,a,b,_,hy,h=>by injection h with h _; exact absurd (by rw [h]; simp) hy
 | c :: x,[],a,b,hx,_,h=>by injection h with h _; exact absurd (by rw [h]; simp) hx
 | c :: x,d :: y,a,b,hx,hy,h=>by
  injection h with h1 h2
  obtain ⟨e1,e2⟩:=cut_uniq (fun m=>hx (by simp [m])) (fun m=>hy (by simp [m])) h2
  exact ⟨by rw [h1,e1],e2⟩
theorem jn_inj:∀ {P Q:List (List Nat)},P≠[]→Q≠[]→(∀ p∈P,47 ∉ p)→(∀ q∈Q,47 ∉ q)→jn P=jn Q→P=Q
 | [],_,h,_,_,_,_=>absurd rfl h
 | _ :: _,[],_,h,_,_,_=>absurd rfl h
 | [x],[y],_,_,_,_,h=>by rw [show x=y from h]
 | [x],y :: z :: r,_,_,hp,_,h=>by
  have h:x=y ++ 47 :: jn (z :: r):=h
  exact absurd (by rw [h]; simp) (hp x (by simp))
 | x :: w :: s,[y],_,_,_,hq,h=>by
  have h:x ++ 47 :: jn (w :: s)=y:=h
  exact absurd (by rw [← h]; simp) (hq y (by simp))
 | x :: w :: s,y :: z :: r,_,_,hp,hq,h=>by
  obtain ⟨e1,e2⟩:=cut_uniq (hp x (by simp)) (hq y (by simp)) h
  rw [e1,jn_inj (by simp) (by simp) (fun p m=>hp p (by simp [m])) (fun q m=>hq q (by simp [m])) e2]
theorem split_mk {P:List (List Nat)} (hP:P≠[]) (hf:∀ p∈P,47 ∉ p) (hl:jn P≠[]):Txt.split (mkS (jn P)) (mkS [47])=P.map mkS:=by
 have h1:=StrLaws.join_split (mkS (jn P)) (mkS [47])
 have h2:=StrLaws.split_free (mkS (jn P)) 47
 have e47:(⟨#[47]⟩:PStr)=mkS [47]:=rfl
 rw [e47] at h2
 generalize Txt.split (mkS (jn P)) (mkS [47])=L at h1 h2
 have eL:L=(L.map fun x=>x.cps.toList).map mkS:=by
  rw [map_map]
  exact (List.map_id'' (fun x=>mkS_list x) L).symm
 rw [eL,jn_join] at h1
 have h1:=mkS_inj h1
 have hne:(L.map fun x=>x.cps.toList)≠[]:=fun e=>hl (by rw [← h1,e]; rfl)
 have:=jn_inj hne hP (fun p hp=>by
  obtain ⟨x,hx,rfl⟩:=mem_map.mp hp
  exact h2 x hx) hf h1
 rw [eL,this]
noncomputable def Tr.cmp (T:Tr) (k:Nat):List (List Nat):=fixN [] (fun k f=>if 0 < k∧T.up k < k then f (T.up k) ++ [T.name k] else []) (k + 1) k
section
variable {T:Tr} (O:T.Ok)
include O
theorem Tr.Ok.cmp_pos {k:Nat} (h:0 < k):T.cmp k=T.cmp (T.up k) ++ [T.name k]:=fixN_up (c:=fun k x=>x ++ [T.name k]) ⟨h,O.up k h⟩
theorem Tr.Ok.cmp_zero:T.cmp 0=[]:=rfl
theorem Tr.Ok.name_ne {k:Nat} (h:0 < k):∃ r,T.name k=(96 + k) :: r:=by
 unfold Tr.name; rw [if_neg (by lia)]
 obtain ⟨n,hn⟩:∃ n,T.nm k=n + 1:=⟨T.nm k - 1,by have:=(O.nm k h).1; lia⟩
 rw [hn]; exact ⟨_,rfl⟩
theorem Tr.Ok.cmp_part:∀ k,k < 8→∀ p∈T.cmp k,47 ∉ p∧p≠[]∧p≠[46]∧p.length≤3:=by
 intro k
 induction k using Nat.strongRecOn with
 | ind k ih =>
  intro hk p hp
  rcases eq_zero_or_pos k with rfl | h
  ·rw [O.cmp_zero] at hp; simp at hp
  ·rw [O.cmp_pos h] at hp
   have:=O.up k h
   rcases mem_append.mp hp with hp | hp
   ·exact ih _ this (by lia) p hp
   ·rw [mem_singleton.mp hp]
    obtain ⟨r,hr⟩:=O.name_ne h
    refine ⟨O.name_free h (by lia),by rw [hr]; simp,fun e=>?_,?_⟩
    ·rw [hr] at e; injection e with e _; lia
    ·rw [O.name_len h]; exact (O.nm k h).2
theorem Tr.Ok.cmp_len:∀ k,(T.cmp k).length≤k:=by
 intro k
 induction k using Nat.strongRecOn with
 | ind k ih =>
  rcases eq_zero_or_pos k with rfl | h
  ·rw [O.cmp_zero]; simp
  ·rw [O.cmp_pos h,length_append]
   have:=O.up k h
   have:=ih _ this
   simp; lia
theorem Tr.Ok.txt_jn:∀ k,T.txt k=jn ([] :: T.cmp k):=by
 intro k
 induction k using Nat.strongRecOn with
 | ind k ih =>
  rcases eq_zero_or_pos k with rfl | h
  ·rw [O.cmp_zero,O.txt_zero]; rfl
  ·rw [O.txt_pos h,O.cmp_pos h,ih _ (O.up k h),← cons_append,jn_snoc _ _ (by simp)]
theorem Tr.Ok.pth_jn (k:Nat):T.pth k=47 :: jn (T.cmp k):=by
 rcases eq_zero_or_pos k with rfl | h
 ·rw [O.cmp_zero,O.pth_zero]; rfl
 ·rw [O.pth_pos h,O.txt_jn k]
  have:T.cmp k≠[]:=by rw [O.cmp_pos h]; simp
  cases hc:T.cmp k with
  | nil=>exact absurd hc this
  | cons x r=>rfl
theorem Tr.Ok.split_path {k:Nat} (h:0 < k) (hk:k < 8):Txt.split (T.pS k) (ofString "/")=([] :: T.cmp k).map mkS:=by
 unfold Tr.pS
 rw [O.pth_pos h,O.txt_jn k,zC5]
 refine split_mk (by simp) (fun p hp=>?_) ?_
 ·rcases mem_cons.mp hp with rfl | hp
  ·simp
  ·exact (O.cmp_part k hk p hp).1
 ·rw [← O.txt_jn k,O.txt_pos h]; simp
end
theorem ltL_app (a b:PStr):∀ P:List PStr,ltL (P ++ [a]) (P ++ [b])=if a=b then false else decide (a.cps.toList < b.cps.toList)
 | []=>rfl
 | x :: P=>by
  show (if x=x then ltL (P ++ [a]) (P ++ [b]) else _)=_
  rw [if_pos rfl,ltL_app a b P]
noncomputable def Tr.cmpS (T:Tr) (c:Nat):List PStr:=(T.cmp c).map mkS
theorem Tr.Ok.lt_kids {T:Tr} (O:T.Ok) {k a b:Nat} (ha:a∈T.kids k) (hb:b∈T.kids k):ltL (T.cmpS a) (T.cmpS b)=decide (a < b):=by
 obtain ⟨a1,a2,a3⟩:=Tr.kids_mem.mp ha
 obtain ⟨b1,b2,b3⟩:=Tr.kids_mem.mp hb
 unfold Tr.cmpS
 rw [O.cmp_pos (show 0 < a by lia),O.cmp_pos (show 0 < b by lia),a3,b3,map_append,map_append,List.map_singleton,List.map_singleton,ltL_app]
 obtain ⟨r,hr⟩:=O.name_ne (show 0 < a by lia)
 obtain ⟨s,hs⟩:=O.name_ne (show 0 < b by lia)
 by_cases e:a=b
 ·subst e; rw [if_pos rfl]; simp
 ·have hne:¬ mkS (T.name a)=mkS (T.name b):=fun q=>by
   have:=mkS_inj q
   rw [hr,hs] at this
   injection this with this _
   lia
  rw [if_neg hne,hr,hs]
  show decide ((96 + a) :: r < (96 + b) :: s)=_
  refine decide_eq_decide.mpr (List.cons_lt_cons_iff.trans ⟨?_,fun h=>?_⟩)
  ·rintro (h | ⟨h,_⟩) <;> lia
  ·left; lia
theorem zI7 {bt bt':Nat→Nat→Bool}:∀ k,(∀ i j,i≤k→j≤k→bt i j=bt' i j)→argBest bt k=argBest bt' k
 | 0,_=>rfl
 | k + 1,h=>by
  have ih:=zI7 k fun i j hi hj=>h i j (by lia) (by lia)
  have:=argBest_le bt' k
  unfold argBest
  rw [ih,h _ _ (le_refl _) (by lia)]
noncomputable def cmpV (T:Tr) (c:Nat):PV:=.list ((T.cmp c).map fun x=>.str (mkS x))
theorem lss_kids (T:Tr):∀ cs:List Nat,lssOf (cs.map (cmpV T))=some (cs.map T.cmpS)
 | []=>rfl
 | c :: cs=>by
  have e:strsOf ((T.cmp c).map fun x=>PV.str (mkS x))=some (T.cmpS c):=by
   rw [show ((T.cmp c).map fun x=>PV.str (mkS x))=(T.cmpS c).map PV.str by unfold Tr.cmpS; rw [map_map]; rfl,zD4]
  rw [map_cons,cmpV,lssOf]
  show (strsOf ((T.cmp c).map fun x=>PV.str (mkS x))).bind (fun ss=>Option.map (fun x=>ss :: x) (lssOf (cs.map (cmpV T))))=_
  rw [e,bind_some,lss_kids T cs]
  rfl
theorem Tr.Ok.minmax {T:Tr} (O:T.Ok) {k:Nat} (hne:T.kids k≠[]):∃ a b,a∈T.kids k∧b∈T.kids k∧minLPV [.list ((T.kids k).map (cmpV T))]=some (cmpV T a)∧maxLPV [.list ((T.kids k).map (cmpV T))]=some (cmpV T b)∧((T.kids k).length=1→a=(T.kids k).getD 0 0∧a=b)∧((T.kids k).length≠1→a≠b):=by
 have nd:=T.kids_nodup k
 have hmem:∀ i,i < (T.kids k).length→(T.kids k).getD i 0∈T.kids k:=fun i hi=>by rw [getD_eq_getElem?_getD,getElem?_eq_getElem hi]; simp
 have hlt:∀ i j,i < (T.kids k).length→j < (T.kids k).length→ltL (((T.kids k).map T.cmpS).getD i []) (((T.kids k).map T.cmpS).getD j [])=decide ((T.kids k).getD i 0 < (T.kids k).getD j 0):=fun i j hi hj=>by
  have e:∀ i,i < (T.kids k).length→((T.kids k).map T.cmpS).getD i []=T.cmpS ((T.kids k).getD i 0):=fun i hi=>by
   rw [getD_eq_getElem?_getD,getD_eq_getElem?_getD,getElem?_map,getElem?_eq_getElem hi]; rfl
  rw [e i hi,e j hj,O.lt_kids (hmem i hi) (hmem j hj)]
 have hinj:∀ i j,i < (T.kids k).length→j < (T.kids k).length→(T.kids k).getD i 0=(T.kids k).getD j 0→i=j:=fun i j hi hj e=>by
  rw [getD_eq_getElem?_getD,getD_eq_getElem?_getD,getElem?_eq_getElem hi,getElem?_eq_getElem hj] at e
  exact (List.getElem_inj nd).mp e
 generalize hcs:T.kids k=cs at nd hmem hlt hinj hne
 have hn:0 < cs.length:=List.length_pos_iff.mpr hne
 have e1:argBest (btMin (cs.map T.cmpS)) (cs.length - 1)=argBest (fun i j=>decide ((cs.getD i 0:Int) < cs.getD j 0)) (cs.length - 1):=zI7 _ fun i j hi hj=>by
  show ltL _ _=_
  rw [hlt i j (by lia) (by lia)]; congr 1; apply propext; lia
 have e2:argBest (btMax (cs.map T.cmpS)) (cs.length - 1)=argBest (fun i j=>decide ((-(cs.getD i 0:Int)) < (-(cs.getD j 0:Int)))) (cs.length - 1):=zI7 _ fun i j hi hj=>by
  show ltL _ _=_
  rw [hlt j i (by lia) (by lia)]; congr 1; apply propext; lia
 obtain ⟨p1,p2⟩:=zG8 (fun i=>(cs.getD i 0:Int)) (cs.length - 1)
 obtain ⟨q1,q2⟩:=zG8 (fun i=>-(cs.getD i 0:Int)) (cs.length - 1)
 rw [← e1] at p1 p2
 rw [← e2] at q1 q2
 have hget:∀ i,i < cs.length→(cs.map (cmpV T))[i]? = some (cmpV T (cs.getD i 0)):=fun i hi=>by
  rw [getElem?_map,getD_eq_getElem?_getD,getElem?_eq_getElem hi]; rfl
 refine ⟨cs.getD (argBest (btMin (cs.map T.cmpS)) (cs.length - 1)) 0,cs.getD (argBest (btMax (cs.map T.cmpS)) (cs.length - 1)) 0,hmem _ (by lia),hmem _ (by lia),?_,?_,fun h1=>?_,fun h1 e=>?_⟩
 ·rw [minLPV_l]
  rw [lss_kids,bind_some,length_map,hget _ (by lia)]
 ·rw [maxLPV_l]
  rw [lss_kids,bind_some,length_map,hget _ (by lia)]
 ·rw [h1]; exact ⟨rfl,rfl⟩
 ·have a0:=p2 0 (by lia)
  have a1:=p2 1 (by lia)
  have b0:=q2 0 (by lia)
  have b1:=q2 1 (by lia)
  have:=hinj 0 1 (by lia) (by lia) (by lia)
  lia
theorem forO_app {g:PV→Option Lc} {fb fe:Lc→Option Out} {qs:List PV}:∀ (ps:List PV) (l:Lc),forO g fb fe (ps ++ qs) l=forO g fb (forO g fb fe qs) ps l
 | [],l=>rfl
 | p :: ps,l=>by
  rw [cons_append]
  unfold forO
  congr 1; funext t; congr 1; funext o
  cases o with
  | go l'=>exact forO_app ps l'
  | brk l'=>rfl
  | ret q=>rfl
noncomputable def manyG (P:Nat→Prop) (A:Nat→List PV) (r:Nat→PV):List PV→Option PV:=open Classical in fun ps=>if h:∃ k,P k∧ps=A k then some (r h.choose) else none
theorem manyG_some {P:Nat→Prop} {A:Nat→List PV} {r:Nat→PV} {ps:List PV} {p:PV} (h:manyG P A r ps=some p):∃ k,P k∧ps=A k∧p=r k:=by
 unfold manyG at h
 split at h
 ·rename_i hh
  injection h with h
  exact ⟨_,hh.choose_spec.1,hh.choose_spec.2,h.symm⟩
 ·exact no h
theorem manyG_at {P:Nat→Prop} {A:Nat→List PV} {r:Nat→PV} {k:Nat} (hk:P k) (hi:∀ j,P j→A k=A j→r j=r k):manyG P A r (A k)=some (r k):=by
 unfold manyG
 have hh:∃ j,P j∧A k=A j:=⟨k,hk,rfl⟩
 rw [dif_pos hh,hi _ hh.choose_spec.1 hh.choose_spec.2]
noncomputable def cpP (T:Tr) (k:Nat):Prop:=k < 8∧T.kids k≠[]
noncomputable def cpA (T:Tr) (k:Nat):List PV:=[.list ((T.kids k).map fun c=>.str (T.pS c))]
noncomputable def cpV (T:Tr) (k:Nat):PV:=.str (mkS (T.common k))
theorem comp_add {g:PV→Option Lc} {ft:Lc→Option Bool} {fe:Lc→Option PV} {l:Lc}:∀ (ps:List PV) (b:Bool),(∀ p∈ps,∃ t,g p=some t∧ft (t ++ noZ l)=some true∧fe (t ++ noZ l)=some (.bool true))→compO g ft (cAdd fe) l ps (.bset b)=some (.bset (b || !ps.isEmpty))
 | [],b,_=>by simp [compO]
 | p :: ps,b,h=>by
  obtain ⟨t,e1,e2,e3⟩:=h p (by simp)
  unfold compO
  rw [e1,bind_some,e2,bind_some,if_pos rfl]
  have:cAdd fe (t ++ noZ l) (.bset b)=some (.bset true):=by unfold cAdd; rw [e3]; rfl
  rw [this,bind_some,comp_add ps true fun q hq=>h q (by simp [hq])]
  simp
theorem pick_take {α:Type} (xs:List α) (i:Nat) (h:i≤xs.length):pick xs none (some (i:Int)) none=xs.take i:=by
 unfold pick sliceBounds sliceRange
 simp only [Option.getD_none,Int.reduceLT,if_true]
 have h1:¬ ((1:Int) < 0):=by decide
 have h2:((1:Int) > 0)=True:=by simp
 have h3:¬ ((i:Int) < 0):=by lia
 simp only [h1,h2,h3,if_false,if_true]
 have e:max (0:Int) (min (i:Int) (xs.length:Int))=(i:Int):=by lia
 rw [e]
 have e2:((if (0:Int) < (i:Int) then (((i:Int) - 0 + 1 - 1) / 1) else 0)).toNat=i:=by
  split <;> simp <;> lia
 rw [e2,List.filterMap_map]
 have:((fun i=>xs[i]?) ∘ fun (k:Nat)=>((0:Int) + 1 * (k:Int)).toNat)=fun k=>xs[k]?:=by
  funext k
  have:((0:Int) + 1 * (k:Int)).toNat=k:=by lia
  simp only [Function.comp,this]
 rw [this]
 have h4:∀ (xs:List α) (i:Nat),i≤xs.length→(range i).filterMap (fun k=>xs[k]?)=xs.take i:=by
  intro xs i
  induction i with
  | zero=>intro _; rfl
  | succ i ih =>
   intro hi
   rw [range_succ,List.filterMap_append,ih (by lia),List.take_add_one,List.filterMap_cons,getElem?_eq_getElem (by lia)]
   rfl
 exact h4 xs i h
theorem enum_ix {xs pre post:List PV} {p:PV} (e:enumPV xs=pre ++ p :: post):∃ x,xs[pre.length]? = some x∧p = .tup [.int (pre.length:Int),x]:=by
 have h:(enumPV xs)[pre.length]? = (pre ++ p :: post)[pre.length]?:=by rw [e]
 rw [List.getElem?_append_right (le_refl _),Nat.sub_self,List.getElem?_cons_zero] at h
 unfold enumPV at h
 rw [getElem?_map,List.getElem?_zipIdx] at h
 cases hx:xs[pre.length]? with
 | none=>rw [hx] at h; exact no h
 | some x =>
  rw [hx] at h
  refine ⟨x,rfl,?_⟩
  injection h with h
  rw [← h,Nat.zero_add]
theorem enum_snoc (xs:List PV) (x:PV):enumPV (xs ++ [x])=enumPV xs ++ [.tup [.int (xs.length:Int),x]]:=by
 unfold enumPV
 rw [List.zipIdx_append,map_append]
 simp
noncomputable def partsP (R:List (List Nat)):List PV:=R.map fun x=>.str (mkS x)
theorem join_parts (R:List (List Nat)) (h:R.length≤8) (h2:∀ p∈R,p.length≤3):joinPV [.str (ofString "/"),.list (partsP R)]=some (.str (mkS (jn R))):=by
 rw [joinPV_s]
 have:partsP R=(R.map mkS).map .str:=by unfold partsP; rw [map_map]; rfl
 rw [this,zD4,bind_some]
 rw [txt_join,zC5,jn_join,if_pos]
 refine joinOk_of ?_
 have e1:((R.map mkS).map (·.length)).sum≤24:=by
  have:∀ R:List (List Nat),(∀ p∈R,p.length≤3)→((R.map mkS).map (·.length)).sum≤3 * R.length:=by
   intro R
   induction R with
   | nil=>intro _; simp
   | cons x r ih =>
    intro h
    have:=ih fun p hp=>h p (by simp [hp])
    have:=h x (by simp)
    simp only [map_cons,sum_cons,length_cons,zB2]; lia
  have:=this R h2
  lia
 have e2:(mkS [47]).length=1:=rfl
 have e3:(R.map mkS).length=R.length:=by simp
 exact le_trans (Nat.add_le_add_right e1 _) (by rw [e2,e3]; lia)
theorem forO_brk {g:PV→Option Lc} {fb fe:Lc→Option Out} {p:PV} {ps:List PV} {t l l':Lc} (h1:g p=some t) (h2:fb (t ++ l)=some (.brk l')):forO g fb fe (p :: ps) l=some (.go l'):=by
 unfold forO
 rw [h1,bind_some,h2]
 rfl
theorem seq_forE {f:Lc→Option PV} {g:PV→Option Lc} {fb fe:Lc→Option Out} {R:Lc→Option Out} {L:Lc} {xs:List PV} {p:PV} {out:Option Out} (h1:f L=some p) (h2:seqOf p=some xs) (h:(forO g fb fe (enumPV xs) L).bind (goO R)=out) :
  seqO (fun l=>(f l).bind fun p=>(seqOf p).bind fun xs=>forO g fb fe (enumPV xs) l) R L=out:=by
 show ((f L).bind fun p=>(seqOf p).bind fun xs=>forO g fb fe (enumPV xs) L).bind (goO R)=out
 rw [h1,bind_some,h2,bind_some]
 exact h
theorem nth_get {xs:List PV} {i:Nat} {x:PV} (h:xs[i]? = some x) (hl:xs.length≤1000):nth xs (i:Int)=some x:=by
 obtain ⟨h1,h2⟩:=List.getElem?_eq_some_iff.mp h
 unfold nth
 rw [if_pos (zA6 (by lia)),if_pos (by lia),if_pos (by lia),Int.toNat_natCast,h]
theorem ne_str (x y:PStr):nePV (.str x) (.str y)=some (.bool (!decide (x=y))):=rfl
theorem f_cp {k:Nat} {T:Tr} (O:T.Ok):FnSound (k + 2) 210 (manyG (cpP T) (cpA T) (cpV T)):=by
 apply fn_w [ofString "paths"]
 case hat=>exact fun P=>⟨_,rfl,rfl⟩
 case hcode=>exact fun P=>⟨_,_,_,_,rfl,rfl,rfl,rfl⟩
 case hsc=>rfl
 case hxs=>rfl
 case hbind=>exact bind1 (fun _=>rfl)
 case B =>
  exact (zA1 (zB8 (.inl rfl) (w_tmap (zA2 (.inl rfl) rfl) rfl rfl rfl rfl) fun _=>rfl)
 (zA1 (zO3 (wt_not (wt_tup (zA2 (.inl rfl) rfl) fun _ _=>rfl)) wb_dead zA8)
 (zA1 (zO3 (zL3 (w_isbytes (zB3 (zA9 (.inl rfl) rfl) zB0 fun _ _=>rfl) rfl rfl rfl) fun _ _=>rfl) wb_dead (zA1 (zB8 (.inr rfl) zE5 fun _=>rfl)
 (zA1 (zB8 (.inr rfl) zE5 fun _=>rfl)
 zA8)))
 (zA1 (ws_try (zA1 (ws_lc rfl rfl rfl rfl (fun _ _=>rfl) (zA2 (.inl rfl) rfl) (zC7 rfl rfl rfl rfl) zF5 (zM7 m_split b_split (zA2 (.inl rfl) rfl) (zA0 (zA2 (.inr rfl) rfl) zA4 rfl) rfl rfl (fun _=>rfl) rfl))
  (zA1 (ws_try (zA1 (ws_unset (.inl rfl) rfl (fun _ _=>rfl) (zA2 (.inl rfl) rfl) (zC7 rfl rfl rfl rfl) zF5 (zM7 m_startswith b_startswith (zA2 (.inl rfl) rfl) (zA0 (zA2 (.inr rfl) rfl) zA4 rfl) rfl rfl (fun _=>rfl) rfl) (fun _=>rfl) (fun _=>rfl)) zA8))
  (zA1 (ws_lc rfl rfl rfl rfl (fun _ _=>rfl) (zA2 (.inl rfl) rfl) (zC7 rfl rfl rfl rfl) zF5 (we_n (wn_lc rfl (fun _ _=>rfl) (zA2 (.inl rfl) rfl) (zC7 rfl rfl rfl rfl) (wk_one (wt_and (zL3 (zA2 (.inl rfl) rfl) fun _ _=>rfl) (wt_ne (zA2 (.inl rfl) rfl) (zA2 (.inr rfl) rfl) rfl))) (zA2 (.inl rfl) rfl))))
  (zA1 (zB8 (.inl rfl) (w_minL rfl rfl (zA0 (zA2 (.inl rfl) rfl) zA4 rfl)) fun _=>rfl)
  (zA1 (zB8 (.inl rfl) (w_maxL rfl rfl (zA0 (zA2 (.inl rfl) rfl) zA4 rfl)) fun _=>rfl)
  (zA1 (zB8 (.inl rfl) (zA2 (.inl rfl) rfl) fun _=>rfl)
  (zA1 (ws_for_enum (zA2 (.inl rfl) rfl) (wg_pair rfl) (zA1 (zO3 (wt_ne (zA2 (.inl rfl) rfl) (zB3 (zA9 (.inl rfl) rfl) (zA2 (.inl rfl) rfl) fun _ _=>rfl) rfl)
    (zA1 (zB8 (.inl rfl) (zH8 (zA9 (.inl rfl) rfl) zD5 (zF6 (zA2 (.inl rfl) rfl)) zD5 _ fun _ _=>rfl) fun _=>rfl) (zA1 ws_break zA8)) zA8) zA8) zA8 rfl rfl ⟨_,_,_,rfl⟩ (fun _ _=>rfl))
  (zA1 (zB8 (.inl rfl) (w_ife (zL3 (zA2 (.inl rfl) rfl) fun _ _=>rfl) (zA2 (.inr rfl) rfl) (zH8 (zA9 (.inr rfl) rfl) zD5 (zF6 zB0) zD5 _ fun _ _=>rfl)) fun _=>rfl)
  (zA1 (zD9 (zE0 (zA2 (.inl rfl) rfl) (zM7 m_join b_join (zA2 (.inr rfl) rfl) (zA0 (zA2 (.inl rfl) rfl) zA4 rfl) rfl rfl (fun _=>rfl) rfl))) zA8))))))))))
 zA8))))
 case hφ =>
  intro ps p h
  obtain ⟨n,⟨hn,hne⟩,rfl,rfl⟩:=manyG_some h
  clear h
  have hkl:=T.kids_len n
  refine zG6 (L:=[(ofString "paths",.fz (.list ((T.kids n).map fun c=>.str (T.pS c))))]) rfl ?_
  have htm:tmapPV (.list ((T.kids n).map fun c=>.str (T.pS c)))=some (.tup ((T.kids n).map fun c=>.str (T.pS c))):=by
   have e:((T.kids n).map fun c=>PV.str (T.pS c))=((T.kids n).map T.pS).map PV.str:=by rw [map_map]; rfl
   unfold tmapPV
   dsimp only
   rw [e,zD4,bind_some,if_pos (by rw [length_map]; lia)]
  rw [zA5 (zB4 (bdL (zA3 rfl) htm))]
  obtain ⟨c0,r0,hc0⟩:∃ c r,T.kids n=c :: r:=List.exists_cons_of_ne_nil hne
  rw [zA5 (if_no (by rw [zA3 (p:=.tup ((T.kids n).map fun c=>.str (T.pS c))) rfl,bind_some]; show Option.map (fun x=>!x) (if ((T.kids n).map fun c=>PV.str (T.pS c)).length≤1000 then some (!((T.kids n).map fun c=>PV.str (T.pS c)).isEmpty) else none)=some false; rw [if_pos (by rw [length_map]; lia),hc0]; rfl) rfl)]
  have h0:idxPV (.tup ((T.kids n).map fun c=>.str (T.pS c))) (.int 0)=some (.str (T.pS c0)):=by
   show nth ((T.kids n).map fun c=>PV.str (T.pS c)) ((0:Nat):Int)=_
   rw [hc0,nth_map (by simp) (by rw [← hc0]; lia)]
   rfl
  rw [zA5 (if_no (show (Option.bind _ truthPV)=some false from bdLB (bdL (φ:=noB) (zA7 (zC2 rfl) rfl (by exact h0)) rfl) rfl) (by rw [zA5 (zB4 rfl),zA5 (zB4 rfl)]))]
  refine zK4 ?_
  have hsep:∀ (l:Lc),look l (ofString "sep")=some (.fz (.str (ofString "/")))→cCons (cV (ofString "sep")) cNil l=some [.str (ofString "/")]:=fun l h=>cc1 (zA3 h)
  have hspl:∀ c,c∈T.kids n→splitPV [.str (T.pS c),.str (ofString "/")]=some (.list (partsP ([] :: T.cmp c))):=fun c hc=>by
   obtain ⟨q1,q2,q3⟩:=Tr.kids_mem.mp hc
   have:=O.pth_len q2
   rw [splitPV_s]
   rw [if_pos ⟨by unfold Tr.pS; rw [zB2]; lia,rfl⟩,O.split_path (by lia) q2,map_map]
   rfl
  rw [zA5 (zB4 (p:=.list ((T.kids n).map fun c=>.list (partsP ([] :: T.cmp c)))) ?hs1)]
  case hs1 =>
   unfold cComp
   rw [zA3 (p:=.tup ((T.kids n).map fun c=>.str (T.pS c))) rfl,bind_some]
   rw [show iterPV (.tup ((T.kids n).map fun c=>.str (T.pS c)))=some ((T.kids n).map fun c=>.str (T.pS c)) from by (first | rw [iterPV_l] | rw [iterPV_t]); rw [if_pos (zA6 (by rw [length_map]; lia))],bind_some]
   refine zF1 (by lia) fun c hc=>⟨_,rfl,rfl,?_⟩
   exact meth1 (zA3 rfl) (hsep _ rfl) (hspl c hc)
  have hit:iterPV (.tup ((T.kids n).map fun c=>.str (T.pS c)))=some ((T.kids n).map fun c=>.str (T.pS c)):=by (first | rw [iterPV_l] | rw [iterPV_t]); rw [if_pos (zA6 (by rw [length_map]; lia))]
  rw [zA5 (show seqO _ _ _=some (.go _) from (zA5 (zB4 (p:=.bool true) ?hs2)).trans rfl)]
  case hs2 =>
   refine bdLB (p:=.bset true) ?_ rfl
   unfold cComp
   rw [zA3 (p:=.tup ((T.kids n).map fun c=>.str (T.pS c))) rfl,bind_some,hit,bind_some,comp_add]
   ·rw [hc0]; rfl
   ·intro p hp
    obtain ⟨c,hc,rfl⟩:=mem_map.mp hp
    refine ⟨_,rfl,rfl,?_⟩
    refine meth1 (zA3 rfl) (hsep _ rfl) ?_
    show some (PV.bool (Txt.startswith (T.pS c) (ofString "/")))=_
    rw [zC5]
    unfold Tr.pS
    rw [starts_mk,O.pth_jn]
    rfl
  rw [zA5 (zB4 (p:=.list ((T.kids n).map (cmpV T))) ?hs3)]
  case hs3 =>
   unfold cComp
   rw [zA3 (p:=.list ((T.kids n).map fun c=>.list (partsP ([] :: T.cmp c)))) rfl,bind_some,zC3 (by rw [length_map]; lia),bind_some]
   refine zF1 (by lia) fun c hc=>⟨_,rfl,rfl,?_⟩
   obtain ⟨q1,q2,q3⟩:=Tr.kids_mem.mp hc
   have hcl:=O.cmp_len c
   rw [zA3 (p:=.list (partsP ([] :: T.cmp c))) rfl,bind_some,zC3 (by unfold partsP; rw [length_map,length_cons]; lia),bind_some]
   rw [zN8 (h:=fun p=>p) (b:=fun p=>decide (0 < (p.toStr.getD ⟨#[]⟩).length)) _ _ (by unfold partsP; rw [length_map,length_cons]; simp; lia)]
   ·unfold cmpV partsP
    rw [nil_append,List.map_id',map_cons,List.filter_cons_of_neg (by show ¬ decide (0 < (mkS []).length)=true; simp [zB2]),List.filter_eq_self.mpr]
    intro p hp
    obtain ⟨x,hx,rfl⟩:=mem_map.mp hp
    have:=(O.cmp_part c q2 x hx).2.1
    show decide (0 < (mkS x).length)=true
    rw [zB2]
    exact decide_eq_true (List.length_pos_iff.mpr this)
   ·intro p hp
    obtain ⟨x,hx,rfl⟩:=mem_map.mp hp
    refine ⟨_,rfl,?_,fun _=>zA3 rfl⟩
    have b1:look ([(ofString "c",Loc.fz (PV.str (mkS x)))] ++ noZ ([(ofString "s",Loc.fz (PV.list (partsP ([] :: T.cmp c))))] ++ noZ ((ofString "isabs",Loc.fz (PV.bool true)) :: (ofString "split_paths",Loc.fz (PV.list ((T.kids n).map fun c=>PV.list (partsP ([] :: T.cmp c))))) :: [(ofString "curdir",Loc.fz (PV.str (ofString "."))),(ofString "sep",Loc.fz (PV.str (ofString "/"))),(ofString "paths",Loc.fz (PV.tup (List.map (fun c=>PV.str (T.pS c)) (T.kids n)))),(ofString "paths",Loc.fz (PV.list (List.map (fun c=>PV.str (T.pS c)) (T.kids n))))]))) (ofString "curdir")=some (.fz (.str (ofString "."))):=rfl
    rw [zA3 (p:=.str (mkS x)) rfl,bind_some]
    have hx3:x.length≤3:=by
     rcases mem_cons.mp hx with rfl | hx
     ·simp
     ·exact (O.cmp_part c q2 x hx).2.2.2
    show (truthPV (.str (mkS x))).bind _=_
    (first | rw [truthPV_s] | rw [truthPV_l])
    rw [if_pos (zA6 (by rw [zB2]; lia)),bind_some]
    rcases mem_cons.mp hx with rfl | hx
    ·rfl
    ·have hp:=O.cmp_part c q2 x hx
     have hl:0 < (mkS x).length:=by rw [zB2]; exact List.length_pos_iff.mpr hp.2.1
     rw [if_pos (decide_eq_true hl),zA7 (zA3 (p:=.str (mkS x)) rfl) (zA3 b1) (show nePV (.str (mkS x)) (.str (ofString "."))=some (.bool true) from ?_)]
     ·show some true=some (decide (0 < (mkS x).length))
      rw [decide_eq_true hl]
     ·show some (PV.bool (!decide (mkS x=ofString ".")))=_
      rw [decide_eq_false]
      ·rfl
      ·intro e
       have e2:ofString "." = mkS [46]:=by decide +kernel
       rw [e2] at e
       exact hp.2.2.1 (mkS_inj e)
  obtain ⟨a,b,ha,hb,hmin,hmax,hs1,hs2⟩:=O.minmax hne
  rw [zA5 (zB4 (bd1 (cc1 (zA3 (p:=.list ((T.kids n).map (cmpV T))) rfl)) hmin))]
  rw [zA5 (zB4 (bd1 (cc1 (zA3 (p:=.list ((T.kids n).map (cmpV T))) rfl)) hmax))]
  rw [zA5 (zB4 (p:=cmpV T a) (zA3 rfl))]
  obtain ⟨a1,a2,a3⟩:=Tr.kids_mem.mp ha
  obtain ⟨b1,b2,b3⟩:=Tr.kids_mem.mp hb
  have ca:T.cmp a=T.cmp n ++ [T.name a]:=by rw [O.cmp_pos (by lia),a3]
  have cb:T.cmp b=T.cmp n ++ [T.name b]:=by rw [O.cmp_pos (by lia),b3]
  have hcn:=O.cmp_len n
  have hca:=O.cmp_len a
  have hend:∀ (l:Lc) (R:List (List Nat)) (E:Lc→Option Out),R.length≤8→(∀ p∈R,p.length≤3)→mkS (47 :: jn R)=mkS (T.common n)→look l (ofString "common")=some (.fz (.list (partsP R)))→look l (ofString "isabs")=some (.fz (.bool true))→look l (ofString "sep")=some (.fz (.str (ofString "/"))) →
    seqO
             (cSet (ofString "prefix") fun l =>
              ((cV (ofString "isabs") l).bind truthPV).bind fun c =>
               if c=true then cV (ofString "sep") l
               else
                cSlice (cW (ofString "sep")) (fun x=>some none)
                 (fun l=>(cK (PV.int 0) l).bind asI) (fun x=>some none) l)
             (seqO
              (fun l =>
               Option.map Out.ret
                (c2 addPV (cV (ofString "prefix"))
                 (fun l =>
                  methO joinPV (cV (ofString "sep")) (cCons (cV (ofString "common")) cNil) l)
                 (freeze l)))
              E) l=some (.ret (cpV T n)):=by
   intro l R E hR hR3 he k1 k2 k3
   rw [zA5 (zB4 (p:=.str (ofString "/")) (by rw [zA3 k2,bind_some]; show (some true).bind _=_; rw [bind_some,if_pos rfl]; exact zA3 (by exact k3)))]
   refine zK4 ?_
   have j1:look (freeze ((ofString "prefix",Loc.fz (.str (ofString "/"))) :: l)) (ofString "prefix")=some (.fz (.str (ofString "/"))):=zE3 (q:=.fz _) rfl
   have j2:look (freeze ((ofString "prefix",Loc.fz (.str (ofString "/"))) :: l)) (ofString "common")=some (.fz (.list (partsP R))):=zE3 (q:=.fz _) k1
   have j3:look (freeze ((ofString "prefix",Loc.fz (.str (ofString "/"))) :: l)) (ofString "sep")=some (.fz (.str (ofString "/"))):=zE3 (q:=.fz _) k3
   have hjn:(jn R).length≤40:=by
    have hq:∀ R:List (List Nat),(∀ p∈R,p.length≤3)→(jn R).length≤4 * R.length:=by
     intro R
     induction R with
     | nil=>intro _; simp [jn]
     | cons x r ih =>
      intro h
      have h1:=h x (by simp)
      have h2:=ih fun p hp=>h p (by simp [hp])
      cases r with
      | nil=>simp [jn]; lia
      | cons y r=>simp only [jn,length_append,length_cons] at h2 ⊢; lia
    have:=hq R hR3
    lia
   rw [zA7 (zA3 j1) (show _=some (PV.str (mkS (jn R))) from ?_) (show addPV (.str (ofString "/")) (.str (mkS (jn R)))=some (cpV T n) from ?_)]
   ·rfl
   ·exact meth1 (zA3 j3) (cc1 (zA3 j2)) (join_parts R hR hR3)
   ·unfold cpV
    rw [zG9]
    rw [zC5,if_pos (zA6 (by rw [zB2,zB2]; simp; lia)),zE6,← he]
    rfl
  have hcp:∀ c,c < 8→∀ p∈T.cmp c,p.length≤3:=fun c hc p hp=>(O.cmp_part c hc p hp).2.2.2
  have htest:∀ (l:Lc) (y z:PStr) (i:Nat) (S:List PV),look l (ofString "c")=some (.fz (.str y))→look l (ofString "i")=some (.fz (.int (i:Int)))→look l (ofString "s2")=some (.fz (.list S))→S[i]? = some (.str z)→S.length≤1000 →
    (c2 nePV (cV (ofString "c")) (c2 idxPV (cW (ofString "s2")) (cV (ofString "i"))) l).bind asB=some (!decide (y=z)):=by
   intro l y z i S k1 k2 k3 k4 k5
   rw [zA7 (zA3 k1) (zA7 (zC2 k3) (zA3 k2) (nth_get k4 k5)) (ne_str _ _)]
   rfl
  refine seq_forE (zA3 (p:=cmpV T a) rfl) (show seqOf (cmpV T a)=some (partsP (T.cmp a)) from rfl) ?_
  by_cases h1:(T.kids n).length=1
  ·obtain ⟨e1,e2⟩:=hs1 h1
   subst e2
   refine zE4 (fun pre l=>look l (ofString "s2")=some (.fz (cmpV T a))∧look l (ofString "common")=some (.fz (cmpV T a))∧look l (ofString "isabs")=some (.fz (.bool true))∧look l (ofString "sep")=some (.fz (.str (ofString "/")))) ?_ ?_ ?_
   ·refine ⟨?_,?_,?_,?_⟩ <;> first | rfl | assumption
   ·rintro pre p post l e ⟨g1,g2,g3,g4⟩
    obtain ⟨x,hx,rfl⟩:=enum_ix e
    obtain ⟨y,hy,rfl⟩:∃ y,(T.cmp a)[pre.length]? = some y∧x = .str (mkS y):=by
     unfold partsP at hx
     rw [getElem?_map] at hx
     obtain ⟨y,hy,e⟩:=map_eq_some_iff.mp hx
     exact ⟨y,hy,e.symm⟩
    refine ⟨(ofString "c",.fz (.str (mkS y))) :: (ofString "i",.fz (.int (pre.length:Int))) :: l,?_,?_⟩
    ·refine bdT (t:=[(ofString "c",.fz (.str (mkS y))),(ofString "i",.fz (.int (pre.length:Int)))]) rfl ?_
     rw [cons_append,cons_append,nil_append]
     rw [zA5 (if_no ((htest _ (mkS y) (mkS y) pre.length (partsP (T.cmp a)) rfl rfl (by exact g1) hx (by unfold partsP; rw [length_map]; lia)).trans (by simp)) rfl)]
    ·refine ⟨?_,?_,?_,?_⟩ <;> first | rfl | assumption
   ·rintro l ⟨g1,g2,g3,g4⟩
    rw [bind_some]
    refine hend l (T.cmp a) _ (by lia) (hcp a a2) ?_ g2 g3 g4
    unfold Tr.common
    rw [if_neg (by lia),if_pos h1,← e1,O.pth_jn]
  ·have hab:=hs2 h1
   have ea:partsP (T.cmp a)=partsP (T.cmp n) ++ [.str (mkS (T.name a))]:=by unfold partsP; rw [ca,map_append]; rfl
   have eb:partsP (T.cmp b)=partsP (T.cmp n) ++ [.str (mkS (T.name b))]:=by unfold partsP; rw [cb,map_append]; rfl
   have hln:(partsP (T.cmp n)).length=(T.cmp n).length:=by unfold partsP; rw [length_map]
   rw [ea,enum_snoc,forO_app]
   refine zE4 (fun pre l=>look l (ofString "s1")=some (.fz (cmpV T a))∧look l (ofString "s2")=some (.fz (cmpV T b))∧look l (ofString "isabs")=some (.fz (.bool true))∧look l (ofString "sep")=some (.fz (.str (ofString "/")))) ?_ ?_ ?_
   ·refine ⟨?_,?_,?_,?_⟩ <;> first | rfl | assumption
   ·rintro pre p post l e ⟨g1,g2,g3,g4⟩
    obtain ⟨x,hx,rfl⟩:=enum_ix e
    obtain ⟨y,hy,rfl⟩:∃ y,(T.cmp n)[pre.length]? = some y∧x = .str (mkS y):=by
     unfold partsP at hx
     rw [getElem?_map] at hx
     obtain ⟨y,hy,e⟩:=map_eq_some_iff.mp hx
     exact ⟨y,hy,e.symm⟩
    have hx2:(partsP (T.cmp b))[pre.length]? = some (.str (mkS y)):=by
     rw [eb,List.getElem?_append_left ?_]
     ·exact hx
     ·exact (List.getElem?_eq_some_iff.mp hx).1
    refine ⟨(ofString "c",.fz (.str (mkS y))) :: (ofString "i",.fz (.int (pre.length:Int))) :: l,?_,?_⟩
    ·refine bdT (t:=[(ofString "c",.fz (.str (mkS y))),(ofString "i",.fz (.int (pre.length:Int)))]) rfl ?_
     rw [cons_append,cons_append,nil_append]
     rw [zA5 (if_no ((htest _ (mkS y) (mkS y) pre.length (partsP (T.cmp b)) rfl rfl (by exact g2) hx2 (by rw [eb,length_append,hln]; simp; lia)).trans (by simp)) rfl)]
    ·refine ⟨?_,?_,?_,?_⟩ <;> first | rfl | assumption
   ·rintro l ⟨g1,g2,g3,g4⟩
    have hx2:(partsP (T.cmp b))[(T.cmp n).length]? = some (.str (mkS (T.name b))):=by
     rw [eb,List.getElem?_append_right (by rw [hln]; exact le_refl _),hln,Nat.sub_self]; rfl
    have hnn:¬ mkS (T.name a)=mkS (T.name b):=fun e=>by
     have e:=mkS_inj e
     obtain ⟨r,hr⟩:=O.name_ne (show 0 < a by lia)
     obtain ⟨s,hs⟩:=O.name_ne (show 0 < b by lia)
     rw [hr,hs] at e
     injection e with e _
     lia
    have hsl:slicePV (cmpV T a) none (some ((T.cmp n).length:Int)) none=some (.list (partsP (T.cmp n))):=by
     show slicePV (.list (partsP (T.cmp a))) _ _ _=_
     (first | rw [zH4] | rw [slicePV_s])
     rw [ea,if_pos ⟨zA6 (by rw [length_append,hln]; simp; lia),by simp⟩,pick_take _ _ (by rw [length_append,hln]; lia),List.take_left' hln]
    rw [forO_brk (t:=[(ofString "c",.fz (.str (mkS (T.name a)))),(ofString "i",.fz (.int ((partsP (T.cmp n)).length:Int)))]) (l':=(ofString "common",.fz (.list (partsP (T.cmp n)))) :: (ofString "c",.fz (.str (mkS (T.name a)))) :: (ofString "i",.fz (.int ((partsP (T.cmp n)).length:Int))) :: l) rfl ?hbrk]
    case hbrk =>
     rw [hln]
     show seqO _ _ ((ofString "c",.fz (.str (mkS (T.name a)))) :: (ofString "i",.fz (.int ((T.cmp n).length:Int))) :: l)=_
     refine seqO_brk (if_yes ((htest _ (mkS (T.name a)) (mkS (T.name b)) (T.cmp n).length (partsP (T.cmp b)) (by rfl) (by rfl) (by exact g2) hx2 (by rw [eb,length_append,hln]; simp; lia)).trans (by simp [hnn])) ?_)
     rw [zA5 (zB4 (zF3 (zC2 (p:=cmpV T a) (by exact g1)) rfl (asI_at (zA3 (p:=.int ((T.cmp n).length:Int)) rfl)) rfl hsl))]
     exact seqO_brk rfl
    rw [bind_some]
    refine hend _ (T.cmp n) _ (by lia) (hcp n hn) ?_ rfl g3 g4
    unfold Tr.common
    have:(T.kids n).length≠0:=fun e=>hne (List.length_eq_zero_iff.mp e)
    rw [if_neg this,if_neg h1,O.pth_jn]
theorem FnSound.less {k:Nat} {a:Addr} {φ φ':List PV→Option PV} (H:FnSound k a φ) (h:∀ ps p,φ' ps=some p→φ ps=some p):FnSound k a φ':=fun C A F s ps p vs R I hs hT r e=>H C A F s ps p vs R I hs hT r (h ps p e)
theorem Tr.Ok.kids_filter {T:Tr} (O:T.Ok) {k:Nat} (hk:k < 8):[1,2,3,4,5,6,7].filter (fun c=>decide (T.up c=k))=T.kids k:=by
 have hs:∀ k,k < 8→[1,2,3,4,5,6,7]=(range k).map (· + 1) ++ (range (7 - k)).map fun i=>k + 1 + i:=by decide
 rw [hs k hk,List.filter_append,List.filter_eq_nil_iff.mpr,nil_append]
 ·unfold Tr.kids
  refine List.filter_congr fun c _=>?_
  rw [Bool.eq_iff_iff,decide_eq_true_eq,beq_iff_eq]
 ·intro c hc
  obtain ⟨i,hi,rfl⟩:=mem_map.mp hc
  have hi:=mem_range.mp hi
  have:=O.up (i + 1) (by lia)
  simp; lia
theorem f_below {k:Nat} {T:Tr} (O:T.Ok):FnSound (k + 2) 281 (oneF [encS T.pS] (belowV T)):=by
 refine f_lawbelow.less fun ps p h=>?_
 obtain ⟨rfl,rfl⟩:=zE2 h
 show belowPV ((range 8).map fun k=>PV.str (T.pS k))=_
 have e:((range 8).map fun k=>PV.str (T.pS k))=((range 8).map T.pS).map PV.str:=by rw [map_map]; rfl
 have ed:((range 8).map T.pS).drop 1=[1,2,3,4,5,6,7].map T.pS:=rfl
 unfold belowPV
 rw [e,zD4,bind_some,if_pos]
 ·unfold belowV
  congr 2
  rw [map_map]
  refine List.map_congr_left fun n hn=>?_
  have hn:=mem_range.mp hn
  show PV.list ((belowOf _ (T.pS n)).map PV.str)=PV.list _
  congr 1
  unfold belowOf
  rw [ed,List.filter_map,map_map,← O.kids_filter hn]
  have:[1,2,3,4,5,6,7].filter ((fun x=>decide (dirS x=T.pS n)) ∘ T.pS)=[1,2,3,4,5,6,7].filter (fun c=>decide (T.up c=n)):=by
   refine List.filter_congr fun c hc=>?_
   have h2:0 < c∧c < 8:=by simp at hc; lia
   show decide (dirS (T.pS c)=T.pS n)=_
   rw [O.dir_path h2.1 h2.2]
   exact decide_eq_decide.mpr ⟨fun e=>O.pS_inj e,fun e=>by rw [e]⟩
  rw [this]
  rfl
 ·refine ⟨by simp,nodup_key O.pS_inj nodup_range,by simp,fun x hx=>?_⟩
  rw [ed] at hx
  obtain ⟨c,hc,rfl⟩:=mem_map.mp hx
  have h2:0 < c∧c < 8:=by simp at hc; lia
  have hu:=O.up c h2.1
  refine ⟨?_,?_⟩
  ·rw [O.head_path h2.1 h2.2,zB2,length_append]
   have:=O.txt_len (T.up c)
   simp; lia
  ·rw [O.dir_path h2.1 h2.2]
   exact mem_map.mpr ⟨_,mem_range.mpr (by lia),rfl⟩
theorem pairsP_map:∀ qs:List (Int × PStr),pairsP (qs.map tupP)=some qs
 | []=>rfl
 | q :: r=>by
  show (pairsP (r.map tupP)).map ((q.1,q.2) :: ·)=_
  rw [pairsP_map r]; rfl
theorem sorted_P {qs:List (Int × PStr)} (h:qs.length < 64):sortedPV [.list (qs.map tupP)]=some (.list ((sortP qs).map tupP)):=by
 cases qs with
 | nil =>
  have e1:sortP []=[]:=by simp [sortP]
  have e2:sortS []=[]:=by simp [sortS]
  show (if ([]:List PStr).length < 64 then some (PV.list ((sortS []).map .str)) else none)=_
  rw [if_pos (by decide),e1,e2]
  rfl
 | cons q r =>
  unfold sortedPV
  dsimp only
  have:strsOf ((q :: r).map tupP)=none:=rfl
  rw [this]
  dsimp only
  rw [pairsP_map,bind_some,if_pos h]
theorem Tr.q_sub (T:Tr) (c:Nat):subPV (.int ((T.st + T.size c:Nat):Int)) (.int ((T.st + T.peak c:Nat):Int))=some (.int (T.q c).1):=by
 show some (PV.int (((T.st + T.size c:Nat):Int) - ((T.st + T.peak c:Nat):Int)))=some (PV.int ((T.size c:Int) - (T.peak c:Int)))
 congr 2; lia
theorem cp_at {T:Tr} {k:Nat} (hk:k < 8) (hne:T.kids k≠[]) (O:T.Ok):manyG (cpP T) (cpA T) (cpV T) [.list ((T.kids k).map fun c=>.str (T.pS c))]=some (.str (mkS (T.common k))):=by
 refine manyG_at (A:=cpA T) (r:=cpV T) ⟨hk,hne⟩ fun j hj e=>?_
 unfold cpA at e
 injection e with e _
 have e:=pS_list O e
 obtain ⟨c,r,hc⟩:=List.exists_cons_of_ne_nil hne
 have h1:c∈T.kids k:=by rw [hc]; simp
 have h2:c∈T.kids j:=by rw [← e]; exact h1
 have:=(Tr.kids_mem.mp h1).2.2
 have:=(Tr.kids_mem.mp h2).2.2
 rw [show j=k by lia]
theorem seq_forX {f:Lc→Option PV} {g:PV→Option Lc} {fb fe:Lc→Option Out} {R:Lc→Option Out} {L:Lc} {items:List PV} {r:PV} {K:Lc→Prop} (J:List PV→Lc→Prop) (h1:f L=some r) (h3:iterPV r=some items) (h0:J [] L)
  (hs:∀ pre p post l,items=pre ++ p :: post→J pre l→∃ l',((g p).bind fun t=>fb (t ++ l))=some (.go l')∧J (pre ++ [p]) l') (he:∀ l,J items l→∃ l',(fe l).bind (goO R)=some (.go l')∧K l') :
  ∃ l',seqO (fun l=>(f l).bind fun p=>(iterPV p).bind fun ps=>forO g fb fe ps l) R L=some (.go l')∧K l':=by
 obtain ⟨l2,e2,h2⟩:=for_inv [] items L rfl hs h0
 obtain ⟨l',e,h⟩:=he l2 h2
 refine ⟨l',?_,h⟩
 refine zK3 h1 h3 ?_
 rw [e2]; exact e
theorem f_gathered {k:Nat} {T:Tr} (O:T.Ok):FnSound (k + 6) 296 (oneF [encS T.pS,mdI T,.int (T.st:Int)] (wantedV T)):=by
 apply fn_w [ofString "paths",ofString "modes",ofString "start"]
 case hat=>exact fun P=>⟨_,rfl,rfl⟩
 case hcode=>exact fun P=>⟨_,_,_,_,rfl,rfl,rfl,rfl⟩
 case hsc=>rfl
 case hxs=>rfl
 case hbind=>exact bind3 (fun _ _ _=>rfl)
 case B=>exact (zA1 (zB8 (.inr rfl) (zC9 (f_below (k:=k + 3) O) gv_lawbelow (fun P=>⟨_,_,rfl,rfl⟩) rfl rfl (zA0 (zA2 (.inr rfl) rfl) zA4 rfl)) fun _=>rfl)
 (zA1 (ws_dc rfl rfl rfl rfl (fun _ _=>rfl) (zD1 rfl rfl (zA0 zB0 zA4 rfl)) (zC7 rfl rfl rfl rfl) zF5 (zB3 (zA9 (.inr rfl) rfl) (zA2 (.inl rfl) rfl) fun _ _=>rfl) (zC9 (f_filemode (k:=k + 4)).sound gv_filemode (fun P=>⟨_,_,rfl,rfl⟩) rfl rfl (zA0 (zB3 (zA9 (.inr rfl) rfl) (zA2 (.inl rfl) rfl) fun _ _=>rfl) zA4 rfl)))
 (zA1 (zB8 (.inl rfl) (zC9 (f_kept (k:=k + 2) O) gv_lawkept (fun P=>⟨_,_,rfl,rfl⟩) rfl rfl (zA0 (zA2 (.inr rfl) rfl) (zA0 (zA2 (.inr rfl) rfl) zA4 rfl) rfl)) fun _=>rfl)
 (zA1 (zG3 (.inl rfl) wn_edict (fun _ _=>rfl))
 (zA1 (zG3 (.inr rfl) wn_edict (fun _ _=>rfl))
 (zA1 (zG4 (zH8 (zL6 (zM6 rfl rfl (zA0 (zA2 (.inr rfl) rfl) zA4 rfl))) zD5 zD5 (zF6 w_neg) _ fun _ _=>rfl) (zF4 (.inl rfl)) (zA1 (zB8 (.inl rfl) (zJ1 zA4) fun _=>rfl)
 (zA1 (zG4 (zM6 rfl rfl (zA0 (we_n (wn_lc rfl (fun _ _=>rfl) (zB3 (zA9 (.inr rfl) rfl) (zA2 (.inl rfl) rfl) fun _ _=>rfl) (zC7 rfl rfl rfl rfl) zF5 (w_tup (zA0 (w_sub (zB3 (zL6 (zB3 (zA9 (.inr rfl) rfl) (zA2 (.inl rfl) rfl) fun _ _=>rfl)) zB0 fun _ _=>rfl) (zB3 (zL6 (zB3 (zA9 (.inr rfl) rfl) (zA2 (.inl rfl) rfl) fun _ _=>rfl)) zB0 fun _ _=>rfl)) (zA0 (zA2 (.inl rfl) rfl) zA4 rfl) rfl)))) zA4 rfl)) (wg_pair rfl) (zA1 (zB8 (.inl rfl) (zE0 (zA2 (.inl rfl) rfl) (zB3 (zA9 (.inl rfl) rfl) (zA2 (.inl rfl) rfl) fun _ _=>rfl)) fun _=>rfl)
 zA8) zA8 fun _ _=>rfl)
 (zA1 (zH3 (.inl rfl) rfl (zE0 (zA2 (.inl rfl) rfl) (zJ1 (zA0 (zA2 (.inl rfl) rfl) zA4 rfl))) (zA2 (.inl rfl) rfl) fun _=>rfl)
 (zA1 (zH3 (.inr rfl) rfl (zC9 (f_run (k:=k + 1) O) gv_lawrun (fun P=>⟨_,_,rfl,rfl⟩) rfl rfl (zA0 (zB3 (zA9 (.inl rfl) rfl) (zA2 (.inl rfl) rfl) fun _ _=>rfl) (zA0 (zA2 (.inl rfl) rfl) (zA0 (zA2 (.inl rfl) rfl) (zA0 (zA2 (.inr rfl) rfl) (zA0 (zA2 (.inl rfl) rfl) zA4 rfl) rfl) rfl) rfl) rfl)) (zA2 (.inl rfl) rfl) fun _=>rfl)
 zA8)))) zA8 fun _ _=>rfl)
 (zA1 (zD9 (we_n (wn_lc rfl (fun _ _=>rfl) (zA2 (.inr rfl) rfl) (zC7 rfl rfl rfl rfl) zF5 (zE0 (w_list_ rfl rfl (zA0 (zB3 (zA9 (.inr rfl) rfl) (zA2 (.inl rfl) rfl) fun _ _=>rfl) zA4 rfl)) (zJ1 (zA0 (w_ife (zL3 (zB3 (zA9 (.inr rfl) rfl) (zA2 (.inl rfl) rfl) fun _ _=>rfl) fun _ _=>rfl) (zC9 (f_cp (k:=k + 3) O) gv_commonpath (fun P=>⟨_,_,rfl,rfl⟩) rfl rfl (zA0 (zB3 (zA9 (.inr rfl) rfl) (zA2 (.inl rfl) rfl) fun _ _=>rfl) zA4 rfl)) zE5) zA4 rfl))))))
 zA8)))))))
 case hφ =>
  intro ps p h
  obtain ⟨rfl,rfl⟩:=zE2 h
  clear h
  refine zG6 (L:=[(ofString "start",.fz (.int (T.st:Int))),(ofString "modes",.fz (mdI T)),(ofString "paths",.fz (encS T.pS))]) rfl ?_
  rw [zA5 (zB4 (bd1 (cc1 (zA3 rfl)) (zI0 _ _)))]
  rw [zA5 (zB4 (p:=rowsV T) ?hrows)]
  case hrows =>
   refine comp_dictR O.pS_inj (cc1 rfl) rfl iter08 nodup_range (by simp) fun j hj=>⟨_,rfl,rfl,?_,?_⟩
   ·exact zA7 (zC2 (p:=encS T.pS) rfl) (zA3 (p:=.int (j:Int)) rfl) (zI2 (mem_range.mp hj))
   ·refine bd1 (cc1 (zA7 (zC2 (p:=mdI T) rfl) (zA3 (p:=.int (j:Int)) rfl) (idx_encI (f:=fun k=>(T.md k:Int)) (mem_range.mp hj)))) ?_
    show (modePV (.int (T.md j:Int))).map PV.str=_
    rw [mode_row]; rfl
  rw [zA5 (zB4 (bd1 (cc2 (zA3 (p:=encS T.pS) rfl) (zA3 (p:=mdI T) rfl)) (zI0 _ _)))]
  rw [zA5 (zJ5 (p:=.dict [] []) rfl)]
  rw [zA5 (zJ5 (p:=.dict [] []) rfl)]
  have hlo:=T.ord_len
  have hsl:slicePV (.list ((T.srt (range 8)).map fun k=>PV.str (T.pS k))) none none (some (-1))=some (.list (T.ord.reverse.map fun k=>PV.str (T.pS k))):=by
   rw [slice_rev (by rw [length_map]; show T.ord.length≤1000; lia),List.map_reverse]
   rfl
  refine zK3 (zF3 (bd1 (cc1 (zA3 (p:=encS T.pS) rfl)) (sorted_S T (l:=range 8) (by decide))) rfl rfl rfl hsl) (zC3 (by rw [length_map,List.length_reverse,hlo]; decide)) ?_
  refine zE4 (fun pre l=>look l (ofString "sequences")=some (.ow (.dict ((T.ord.reverse.take pre.length).map T.pS) ((T.ord.reverse.take pre.length).map (seqV T))))∧look l (ofString "runs")=some (.ow (.dict ((T.ord.reverse.take pre.length).map T.pS) ((T.ord.reverse.take pre.length).map (runV T)))) ∧
   look l (ofString "below")=some (.fz (belowV T))∧look l (ofString "rows")=some (.fz (rowsV T))∧look l (ofString "kept")=some (.fz (keptV T))∧look l (ofString "paths")=some (.fz (encS T.pS))∧look l (ofString "start")=some (.fz (.int (T.st:Int)))) ?_ ?_ ?_
  ·exact ⟨rfl,rfl,rfl,rfl,rfl,rfl,rfl⟩
  ·intro pre p post l e hJ
   have g1:=hJ.1
   have g2:=hJ.2.1
   have g3:=hJ.2.2.1
   have g4:=hJ.2.2.2.1
   have g5:=hJ.2.2.2.2.1
   have g6:=hJ.2.2.2.2.2.1
   have g7:=hJ.2.2.2.2.2.2
   obtain ⟨a,c,b,ho,rfl,rfl,rfl⟩:=split_map e
   clear e
   have hc:c < 8:=Tr.ord_mem.mp (by rw [← List.mem_reverse,ho]; simp)
   have eo:T.ord=b.reverse ++ c :: a.reverse:=by
    have:=congrArg List.reverse ho
    simpa using this
   have hin:∀ x,x∈T.kidO c→x∈a:=fun x hx=>by
    obtain ⟨h1,h2,h3⟩:=Tr.kidO_mem.mp hx
    exact List.mem_reverse.mp (O.ord_before eo (by lia) h2 h3)
   have nd:(a ++ c :: b).Nodup:=by rw [← ho]; exact (List.reverse_perm _).nodup_iff.mpr T.ord_nodup
   have nda:a.Nodup:=(nodup_append.mp nd).1
   have hca:c ∉ a:=fun m=>(nodup_append.mp nd).2.2 c m c (by simp) rfl
   have hal:a.length≤8:=by
    have:=congrArg List.length ho
    rw [List.length_reverse,hlo,length_append] at this
    lia
   have t1:T.ord.reverse.take a.length=a:=by rw [ho]; simp
   have t2:T.ord.reverse.take (a.length + 1)=a ++ [c]:=by rw [ho,List.take_append]; simp [List.take_of_length_le]
   rw [length_append,length_singleton,length_map,t2]
   rw [length_map,t1] at g1 g2
   have hkl:=T.kids_len c
   have hol:=T.kidO_len c
   have hpairs:∀ l:Lc,look l (ofString "below")=some (.fz (belowV T))→look l (ofString "path")=some (.fz (.str (T.pS c)))→look l (ofString "runs")=some (.ow (.dict (a.map T.pS) (a.map (runV T)))) →
     (cCons (cComp (c2 idxPV (cW (ofString "below")) (cV (ofString "path"))) (fun p=>some [(ofString "child",Loc.fz p)]) (fun x=>some true)
      (cApp (cTup (cCons (c2 subPV (c2 idxPV (c2 idxPV (cW (ofString "runs")) (cV (ofString "child"))) (cK (.int 2))) (c2 idxPV (c2 idxPV (cW (ofString "runs")) (cV (ofString "child"))) (cK (.int 0)))) (cCons (cV (ofString "child")) cNil)))) (PV.list [])) cNil l).bind sortedPV=some (.list ((T.kidO c).map fun x=>tupP (T.q x))):=by
    intro l k1 k2 k3
    have e1:cComp (c2 idxPV (cW (ofString "below")) (cV (ofString "path"))) (fun p=>some [(ofString "child",Loc.fz p)]) (fun x=>some true)
      (cApp (cTup (cCons (c2 subPV (c2 idxPV (c2 idxPV (cW (ofString "runs")) (cV (ofString "child"))) (cK (.int 2))) (c2 idxPV (c2 idxPV (cW (ofString "runs")) (cV (ofString "child"))) (cK (.int 0)))) (cCons (cV (ofString "child")) cNil)))) (PV.list []) l=some (.list ((T.kids c).map fun x=>tupP (T.q x))):=by
     unfold cComp
     rw [zA7 (zC2 k1) (zA3 k2) (dget_below O hc),bind_some,zC3 (by rw [length_map]; lia),bind_some]
     refine zF1 (by lia) fun x hx=>⟨_,rfl,rfl,?_⟩
     have hxa:=hin x ((T.kidO_perm c).mem_iff.mpr hx)
     have b1:look ([(ofString "child",Loc.fz (.str (T.pS x)))] ++ noZ l) (ofString "runs")=some (.ow (.dict (a.map T.pS) (a.map (runV T)))):=zC4 (by decide) k3 (by decide)
     have b2:look ([(ofString "child",Loc.fz (.str (T.pS x)))] ++ noZ l) (ofString "child")=some (.fz (.str (T.pS x))):=rfl
     have b3:=zA7 (o:=idxPV) (zK0 b1) (zA3 b2) (show idxPV (.dict _ _) (.str _)=some (runV T x) from zF0 O.pS_inj (g:=runV T) hxa)
     exact ctup_at (cc2 (zA7 (zA7 (q:=.int 2) b3 rfl (show idxPV (runV T x) (.int 2)=some (.int ((T.st + T.size x:Nat):Int)) from (idxPV_t _ 2).trans (nth_get (i:=2) rfl (show 4≤1000 by lia)))) (zA7 (q:=.int 0) b3 rfl (show idxPV (runV T x) (.int 0)=some (.int ((T.st + T.peak x:Nat):Int)) from (idxPV_t _ 0).trans (nth_get (i:=0) rfl (show 4≤1000 by lia)))) (T.q_sub x)) (zA3 b2)) (by simp)
    rw [cc1 e1,bind_some]
    have e2:((T.kids c).map fun x=>tupP (T.q x))=((T.kids c).map T.q).map tupP:=by rw [map_map]; rfl
    rw [e2,sorted_P (by rw [length_map]; lia),T.kidO_sort,map_map]
    rfl
   rw [bind_some,singleton_append]
   rw [zA5 (zB4 (p:=.list []) (zD7 rfl (zero_le _)))]
   have hfl:∀ n,((((T.kidO c).take n).flatMap T.seq).length)≤128 * n:=fun n=>by
    have:∀ l:List Nat,(∀ x∈l,x < 8)→(l.flatMap T.seq).length≤128 * l.length:=by
     intro l
     induction l with
     | nil=>intro _; simp
     | cons x r ih =>
      intro h
      have h1:=T.seq_len' (h x (by simp))
      have h2:=ih fun y hy=>h y (by simp [hy])
      rw [List.flatMap_cons,length_append,length_cons]; lia
    have h1:=this ((T.kidO c).take n) fun x hx=>(Tr.kidO_mem.mp (List.mem_of_mem_take hx)).2.1
    have h2:((T.kidO c).take n).length≤n:=by rw [List.length_take]; lia
    exact le_trans h1 (by lia)
   refine seq_forX (fun pre l=>look l (ofString "sequence")=some (.fz (.list ((((T.kidO c).take pre.length).flatMap T.seq).map fun c=>.str (T.pS c))))∧look l (ofString "path")=some (.fz (.str (T.pS c)))∧look l (ofString "sequences")=some (.ow (.dict (a.map T.pS) (a.map (seqV T))))∧look l (ofString "runs")=some (.ow (.dict (a.map T.pS) (a.map (runV T)))) ∧
    look l (ofString "below")=some (.fz (belowV T))∧look l (ofString "rows")=some (.fz (rowsV T))∧look l (ofString "kept")=some (.fz (keptV T))∧look l (ofString "paths")=some (.fz (encS T.pS))∧look l (ofString "start")=some (.fz (.int (T.st:Int))))
    (hpairs _ g3 rfl g2) (zC3 (by rw [length_map]; lia)) ?_ ?_ ?_
   ·refine ⟨?_,?_,?_,?_,?_,?_,?_,?_,?_⟩ <;> first | rfl | assumption
   ·intro pre p post l2 e hJ
    have j1:=hJ.1
    have j2:=hJ.2.1
    have j3:=hJ.2.2.1
    have j4:=hJ.2.2.2.1
    have j5:=hJ.2.2.2.2.1
    have j6:=hJ.2.2.2.2.2.1
    have j7:=hJ.2.2.2.2.2.2.1
    have j8:=hJ.2.2.2.2.2.2.2.1
    have j9:=hJ.2.2.2.2.2.2.2.2
    obtain ⟨u,x,v,hk,rfl,rfl,rfl⟩:=split_map e
    clear e
    have hx:x∈T.kidO c:=by rw [hk]; simp
    have hx8:=(Tr.kidO_mem.mp hx).2.1
    have hul:u.length + 1≤7:=by
     have:=congrArg List.length hk
     rw [length_append,length_cons] at this
     lia
    have u1:(T.kidO c).take u.length=u:=by rw [hk]; simp
    have u2:(T.kidO c).take (u.length + 1)=u ++ [x]:=by rw [hk,List.take_append]; simp [List.take_of_length_le]
    have hfu:=hfl u.length
    rw [length_map] at j1
    rw [length_append,length_singleton,length_map,u2]
    rw [u1] at j1 hfu
    have hsx:=T.seq_len' hx8
    refine ⟨(ofString "sequence",.fz (.list (((u ++ [x]).flatMap T.seq).map fun c=>.str (T.pS c)))) :: (ofString "child",.fz (.str (T.pS x))) :: (ofString "spare",.fz (.int (T.q x).1)) :: l2,?_,?_⟩
    ·refine bdT (t:=[(ofString "child",.fz (.str (T.pS x))),(ofString "spare",.fz (.int (T.q x).1))]) rfl ?_
     rw [cons_append,cons_append,nil_append]
     rw [zA5 (zB4 (zA7 (zA3 (p:=.list ((u.flatMap T.seq).map fun c=>.str (T.pS c))) (by exact j1)) (zA7 (zK0 (p:=.dict (a.map T.pS) (a.map (seqV T))) (by exact j3)) (zA3 (p:=.str (T.pS x)) rfl) (show idxPV (.dict _ _) (.str _)=some (seqV T x) from zF0 O.pS_inj (g:=seqV T) (hin x hx))) (add_list (ys:=(T.seq x).map fun c=>.str (T.pS c)) (by rw [length_map,length_map]; lia))))]
     rw [List.flatMap_append,map_append]
     simp
    ·refine ⟨?_,?_,?_,?_,?_,?_,?_,?_,?_⟩ <;> first | rfl | assumption
   ·intro l2 hJ
    have j1:=hJ.1
    have j2:=hJ.2.1
    have j3:=hJ.2.2.1
    have j4:=hJ.2.2.2.1
    have j5:=hJ.2.2.2.2.1
    have j6:=hJ.2.2.2.2.2.1
    have j7:=hJ.2.2.2.2.2.2.1
    have j8:=hJ.2.2.2.2.2.2.2.1
    have j9:=hJ.2.2.2.2.2.2.2.2
    rw [length_map,List.take_length] at j1
    have hfu:=hfl (T.kidO c).length
    rw [List.take_length] at hfu
    rw [bind_some]
    have hset1:setPV (.dict (a.map T.pS) (a.map (seqV T))) (.str (T.pS c)) (seqV T c)=some (.dict ((a ++ [c]).map T.pS) ((a ++ [c]).map (seqV T))):=set_new O.pS_inj (g:=seqV T) nda (by lia) hca
    have hset2:setPV (.dict (a.map T.pS) (a.map (runV T))) (.str (T.pS c)) (runV T c)=some (.dict ((a ++ [c]).map T.pS) ((a ++ [c]).map (runV T))):=set_new O.pS_inj (g:=runV T) nda (by lia) hca
    have hseq:addPV (.list (((T.kidO c).flatMap T.seq).map fun c=>.str (T.pS c))) (.list [.str (T.pS c)])=some (seqV T c):=by
     rw [add_list (by rw [length_map,length_singleton]; lia)]
     unfold seqV
     rw [T.seq_eq,map_append]
     rfl
    refine ⟨(ofString "runs",.ow (.dict ((a ++ [c]).map T.pS) ((a ++ [c]).map (runV T)))) :: (ofString "sequences",.ow (.dict ((a ++ [c]).map T.pS) ((a ++ [c]).map (seqV T)))) :: l2,?_,?_⟩
    ·show seqO _ _ l2=_
     rw [zA5 (item_go (by exact j3) (zA7 (zA3 (by exact j1)) (zD7 (cc1 (zA3 (by exact j2))) (by simp)) hseq) (zA3 (by exact j2)) hset1)]
     rw [zA5 (item_go (c:=.dict (a.map T.pS) (a.map (runV T))) (by exact j4) (bd1 (ccS (zA7 (zK0 (p:=.dict ((a ++ [c]).map T.pS) ((a ++ [c]).map (seqV T))) rfl) (zA3 (p:=.str (T.pS c)) (by exact j2)) (show idxPV (.dict _ _) (.str _)=some (seqV T c) from zF0 O.pS_inj (g:=seqV T) (by simp)))
      (ccS (zA3 (p:=rowsV T) (by exact j6)) (cc3 (zA3 (p:=keptV T) (by exact j7)) (zA3 (p:=belowV T) (by exact j5)) (zA3 (p:=.int (T.st:Int)) (by exact j9))))) (runF_at O hc)) (zA3 (p:=.str (T.pS c)) (by exact j2)) hset2)]
    ·refine ⟨?_,?_,?_,?_,?_,?_,?_⟩ <;> first | rfl | assumption
  ·intro l hJ
   have g1:=hJ.1
   have g2:=hJ.2.1
   have g3:=hJ.2.2.1
   have g4:=hJ.2.2.2.1
   have g5:=hJ.2.2.2.2.1
   have g6:=hJ.2.2.2.2.2.1
   have g7:=hJ.2.2.2.2.2.2
   rw [length_map,List.take_length] at g2
   have b1:look (freeze l) (ofString "runs")=some (.fz (.dict (T.ord.reverse.map T.pS) (T.ord.reverse.map (runV T)))):=by rw [zB7,g2]; rfl
   have b2:look (freeze l) (ofString "below")=some (.fz (belowV T)):=by rw [zB7,g3]; rfl
   have b3:look (freeze l) (ofString "paths")=some (.fz (encS T.pS)):=by rw [zB7,g6]; rfl
   rw [bind_some]
   refine zH9 ?_
   unfold cComp
   rw [zA3 b3,bind_some,show iterPV (encS T.pS)=some ((range 8).map fun (k:Nat)=>PV.str (T.pS k)) from zC3 (by simp),bind_some]
   refine zF1 (by simp) fun n hn=>⟨_,rfl,rfl,?_⟩
   have hn:=mem_range.mp hn
   have c1:look ([(ofString "path",Loc.fz (.str (T.pS n)))] ++ noZ (freeze l)) (ofString "path")=some (.fz (.str (T.pS n))):=rfl
   have c2:look ([(ofString "path",Loc.fz (.str (T.pS n)))] ++ noZ (freeze l)) (ofString "runs")=some (.fz (.dict (T.ord.reverse.map T.pS) (T.ord.reverse.map (runV T)))):=zC4 (by decide) b1 (by decide)
   have c3:look ([(ofString "path",Loc.fz (.str (T.pS n)))] ++ noZ (freeze l)) (ofString "below")=some (.fz (belowV T)):=zC4 (by decide) b2 (by decide)
   have hb:=zA7 (o:=idxPV) (zC2 c3) (zA3 c1) (dget_below O hn)
   have hr:=zA7 (o:=idxPV) (zC2 c2) (zA3 c1) (show idxPV (.dict _ _) (.str _)=some (runV T n) from zF0 O.pS_inj (g:=runV T) (List.mem_reverse.mpr (Tr.ord_mem.mpr hn)))
   have hkl:=T.kids_len n
   refine zA7 (bd1 (cc1 hr) (show listPV [runV T n]=some (.list [.int ((T.st + T.peak n:Nat):Int),.list [.tup [.str (lS T n),.str (T.pS n)]],.int ((T.st + T.size n:Nat):Int),.str (mkS (T.left n ++ T.pth n))]) from ?_)) (zD7 (ps:=[.str (mkS (T.common n))]) (cc1 ?_) (by simp)) ((add_list (by simp)).trans rfl)
   ·exact if_pos (e:=none) (zA6 (show 4≤1000000 by lia))
   ·by_cases hne:T.kids n=[]
    ·rw [hb,hne]
     have:T.common n=[]:=by unfold Tr.common; rw [hne]; rfl
     rw [this]
     rfl
    ·rw [hb,bind_some]
     have:truthPV (.list ((T.kids n).map fun c=>PV.str (T.pS c)))=some true:=by
      (first | rw [truthPV_s] | rw [truthPV_l])
      rw [if_pos (zA6 (by rw [length_map]; lia))]
      obtain ⟨x,r,hx⟩:=List.exists_cons_of_ne_nil hne
      rw [hx]; rfl
     rw [this,bind_some,if_pos rfl]
     exact bd1 (cc1 hb) (cp_at hn hne O)
theorem zI4 {p:Addr × Obj→Bool}:∀ {K:Frag} {a:Addr} {o:Obj},(K.filter p).lookup a=some o→(∀ x∈K,∀ y∈K,x.1=y.1→p x=p y)→K.lookup a=some o
 | [],_,_,h,_=>by exact no h
 | (b,q) :: K,a,o,h,hp=>by
  rw [List.filter_cons] at h
  rw [lookup_cons]
  split at h
  ·rw [lookup_cons] at h
   split at h <;> rename_i e
   ·exact h
   ·exact zI4 h fun x hx y hy=>hp x (.tail _ hx) y (.tail _ hy)
  ·rename_i hf
   cases e:a == b with
   | false=>exact zI4 h fun x hx y hy=>hp x (.tail _ hx) y (.tail _ hy)
   | true =>
    exfalso
    have hab:=beq_iff_eq.mp e
    have:∀ K:Frag,(∀ x∈K,x.1=a→p x=false)→(K.filter p).lookup a=none:=by
     intro K
     induction K with
     | nil=>intro _; rfl
     | cons c K ih =>
      intro hc
      rw [List.filter_cons]
      split
      ·rename_i hpc
       rw [lookup_cons]
       have:(a == c.1)=false:=by
        cases q:a == c.1 with
        | false=>rfl
        | true=>exact bno (hc c (.head _) (beq_iff_eq.mp q).symm) hpc
       rw [this]; exact ih fun x hx=>hc x (.tail _ hx)
      ·exact ih fun x hx=>hc x (.tail _ hx)
    rw [this K fun x hx hxa=>by
     rw [hp x (.tail _ hx) (b,q) (.head _) (hxa.trans hab)]
     exact Bool.not_eq_true _ ▸ hf] at h
    exact no h
theorem KT_in {P:Params} {h:Heap} (X:(hd.heap_39 P).In h):(KT P).In h:=fun a o e=>X a o (zI4 e fun x _ y _ hxy=>by rw [hxy])
theorem ints_rep {w:World} {F:Fz}:∀ {vs:List Value} {ns:List Int},IntsAre vs ns→RepL w F (ns.map .int) vs
 | _,_,.nil=>RepL.nil
 | _,_,.cons n t h=>RepL.cons (by unfold Rep; exact ⟨t,rfl⟩) (ints_rep h)
theorem unpack_go {x:Option PV} {gg:PV→Option Lc} {l t:Lc} {p:PV} (h:x=some p) (h2:gg p=some t):(x.bind fun p=>(gg p).map fun t=>Out.go (t ++ l))=some (.go (t ++ l)):=by rw [h,bind_some,h2]; rfl
theorem f_law {k:Nat} {ns:List Int} (hn:ns.length≤1000):FnSound (k + 7) 332 (oneF [.list (ns.map .int)] (.bool true)):=by
 have O:=tree_ok ns
 apply fn_w [ofString "script"]
 case hat=>exact fun P=>⟨_,rfl,rfl⟩
 case hcode=>exact fun P=>⟨_,_,_,_,rfl,rfl,rfl,rfl⟩
 case hsc=>rfl
 case hxs=>rfl
 case hbind=>exact bind1 (fun _=>rfl)
 case B=>exact (zA1 (ws_unpack (zC9 (f_drawn (k:=k + 6) hn) gv_lawdrawn (fun P=>⟨_,_,rfl,rfl⟩) rfl rfl (zA0 (zA2 (.inl rfl) rfl) zA4 rfl)) (wg_four rfl) (fun _=>rfl) fun _=>rfl)
 (zA1 (zD9 (w_eq (zC9 (f_gathered (k:=k) O) gv_lawgathered (fun P=>⟨_,_,rfl,rfl⟩) rfl rfl (zA0 (zC9 (f_paths (k:=k + 4) O) gv_lawpaths (fun P=>⟨_,_,rfl,rfl⟩) rfl rfl (zA0 (zA2 (.inl rfl) rfl) (zA0 (zA2 (.inl rfl) rfl) zA4 rfl) rfl)) (zA0 (zA2 (.inl rfl) rfl) (zA0 (zA2 (.inl rfl) rfl) zA4 rfl) rfl) rfl)) (zC9 (f_wanted (k:=k + 4) O) gv_lawwanted (fun P=>⟨_,_,rfl,rfl⟩) rfl rfl (zA0 (zA2 (.inl rfl) rfl) (zA0 (zA2 (.inl rfl) rfl) (zA0 (zA2 (.inl rfl) rfl) (zA0 (zA2 (.inl rfl) rfl) zA4 rfl) rfl) rfl) rfl)) rfl))
 zA8))
 case hφ =>
  intro ps p h
  obtain ⟨rfl,rfl⟩:=zE2 h
  clear h
  refine zG6 (L:=[(ofString "script",.fz (.list (ns.map .int)))]) rfl ?_
  rw [zA5 (unpack_go (gg:=tupG [ofString "start",ofString "above",ofString "names",ofString "modes"]) (bd1 (cc1 (zA3 rfl)) (zI0 _ _)) rfl)]
  rw [cons_append,cons_append,cons_append,cons_append,nil_append]
  refine zK4 ?_
  rw [zA7 (bd1 (cc3 (bd1 (cc2 (zA3 (p:=upI (tree ns)) rfl) (zA3 (p:=nmS (tree ns)) rfl)) (zI0 _ _)) (zA3 (p:=mdI (tree ns)) rfl) (zA3 (p:=.int ((tree ns).st:Int)) rfl)) (zI0 _ _)) (bd1 (ccS (zA3 (p:=upI (tree ns)) rfl) (cc3 (zA3 (p:=nmS (tree ns)) rfl) (zA3 (p:=mdI (tree ns)) rfl) (zA3 (p:=.int ((tree ns).st:Int)) rfl))) (zI0 _ _)) O.eq_wanted]
  rfl
theorem law_end2 (H:∀ ns:List Int,¬ 63 < ns.length→FnSound 7 332 (oneF [.list (ns.map .int)] (.bool true))):PySem.Challenge.rw_il0075_01.Holds:=hd (by
 k_fill
 intro w s₀ s₁ mg mb G Y fa o pm cd doc dV kV ho hd hcd hD hmg hg args vals as hpre hlay hrd hwl hlo
 have KX:=kIn_of Y
 have X:=(Ground.X G).1
 have V:=(Ground.X G).2
 refine Ground.open G ?_
 intro T B D TE TW
 wrow_args hpre hlay hrd hwl hlo
 all_goals (x_fa T KX hmg)
 rename_i ns hs hlay0 hL1 hr1 hl2 w4 w3 L vs wl hL ra w1 r0 hI hr hc1 hc2
 clear hc2 hr r0 ra hl2 hr1 hL1 hlay0 hs
 let C:Cx:=⟨w,s₁.heap,s₁.drawn,s₁.os,mg,mb,fun x hx=>T.builtins x hx,⟨#[],⟨_,_,KX 66 _ rfl,rfl,rfl,rfl⟩,KX 62 _ rfl⟩,⟨#[],⟨_,_,KX 73 _ rfl,rfl,rfl,rfl⟩,KX 69 _ rfl⟩⟩
 have I:Inv C s₁:=⟨.refl _,KT_in KX,⟨#[],KX 62 _ rfl,.inl rfl⟩,⟨#[],KX 69 _ rfl,.inl rfl⟩,T.g,T.b,T.nolimit,.of_eq hg,rfl,rfl⟩
 have hLo:s₁.heap.get? L=some { cls:=.type "list",data:=.seq vs.toArray }:=by
  have w1':Well w.params s₁.heap (.ref L) (.list _):=w1
  cases w1' with
  | list e _ =>
   obtain ⟨o',e',hcl,n',hd'⟩:=hL
   rw [e] at e'; injection e' with e'; subst e'
   injection hd' with hd' _
   rw [e,hd']
 have hTab:isTab L=false:=by
  cases q:isTab L with
  | false=>rfl
  | true=>obtain ⟨ps,e⟩:=I.tabObj hLo q; cases e
 let F:Fz:=fun b=>if b=L then some { cls:=.type "list",data:=.seq vs.toArray } else none
 have hF:F L=some { cls:=.type "list",data:=.seq vs.toArray }:=if_pos rfl
 have hs:F.sub s₁.heap:=fun b o e=>by
  have e:(if b=L then some _ else none)=some o:=e
  split at e
  ·rename_i q; injection e with e; subst e; rw [q]; exact hLo
  ·cases e
 have hT:F.offTab:=fun b hb=>if_neg (fun q=>by rw [q,hTab] at hb; exact bno rfl hb)
 have R:Room (7 + 1) callerA:=⟨rfl,by show 1 + 300 + 10 * (7 + 1)≤900; lia,by show 4 + 100 * (7 + 1)≤9000; lia⟩
 have rp:Rep C.w F (.list (ns.map .int)) (.ref L):=by unfold Rep; exact ⟨L,vs.toArray,0,rfl,hF,ints_rep hI⟩
 refine wpAny_mono (H ns (by lia) C callerA F s₁ [.list (ns.map .int)] (.bool true) [.ref L] R I hs hT (RepL.cons rp RepL.nil) (zI0 _ _)) (fun v s' P=>?_) fun _ _ f=>f.elim
 obtain ⟨X',I',r'⟩:=P
 have hv:v = .bool true:=by unfold Rep at r'; exact r'
 subst hv
 refine ⟨.inl ⟨_,.bool true,[],rfl,fun _=>rfl,ReadsW.bool true,?_,fun _=>⟨List.nodup_nil,fun _ hm=>(nomatch hm)⟩⟩,I'.old,I'.os,I'.gens⟩
 first | rfl | wrow_post)
theorem holds:PySem.Challenge.rw_il0075_01.Holds:=law_end2 fun ns h=>f_law (k:=0) (by lia)
end Mine
theorem PySem.Challenge.cw_il0075_01_holds : PySem.Challenge.rw_il0075_01.Holds :=
 Mine.holds
