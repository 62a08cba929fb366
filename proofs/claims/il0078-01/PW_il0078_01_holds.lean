import PyProof.Rows.All
import Wide.All
import OpenK.AllK
import Wide.FinOn
import Lean
import PySem.Challenge.RW_il0078_01
set_option Elab.async false
set_option maxRecDepth 100000
set_option linter.all false
set_option rowWalk.seconds 0
local macro_rules | `(tactic| walk_at "binaryOp Mult ref int") => `(tactic| k_extra "binaryOp Mult ref int")
local macro_rules | `(tactic| walk_at "call builtin:issubclass") => `(tactic| k_extra "call builtin:issubclass")
local macro_rules | `(tactic| walk_at "call builtin:list.extend") => `(tactic| k_extra "call builtin:list.extend")
local macro_rules | `(tactic| walk_at "call builtin:list.pop") => `(tactic| k_extra "call builtin:list.pop")
local macro_rules | `(tactic| walk_at "call builtin:max") => `(tactic| k_extra "call builtin:max")
local macro_rules | `(tactic| walk_at "call builtin:min") => `(tactic| k_extra "call builtin:min")
local macro_rules | `(tactic| walk_at "call builtin:str.join") => `(tactic| k_extra "call builtin:str.join")
local macro_rules | `(tactic| walk_at "call builtin:sum") => `(tactic| k_extra "call builtin:sum")
local macro_rules | `(tactic| walk_at "call ref") => `(tactic| k_extra "call ref")
local macro_rules | `(tactic| walk_at "call type:map") => `(tactic| k_extra "call type:map")
local macro_rules | `(tactic| walk_at "call type:tuple") => `(tactic| k_extra "call type:tuple")
local macro_rules | `(tactic| walk_at "eval ListComp") => `(tactic| k_extra "eval ListComp")
local macro_rules | `(tactic| walk_at "exec Assign cons ListComp") => `(tactic| k_extra "exec Assign cons ListComp")
local macro_rules | `(tactic| walk_at "exec For Name Call") => `(tactic| k_extra "exec For Name Call")
local macro_rules | `(tactic| walk_at "exec For Name Call cons nil") => `(tactic| k_extra "exec For Name Call cons nil")
local macro_rules | `(tactic| walk_at "exec For Name Name") => `(tactic| k_extra "exec For Name Name")
local macro_rules | `(tactic| walk_at "exec For Name Name cons nil") => `(tactic| k_extra "exec For Name Name cons nil")
local macro_rules | `(tactic| walk_at "exec For Tuple Call") => `(tactic| k_extra "exec For Tuple Call")
local macro_rules | `(tactic| walk_at "exec For Tuple Call cons nil") => `(tactic| k_extra "exec For Tuple Call cons nil")
local macro_rules | `(tactic| walk_at "exec For Tuple Name cons cons") => `(tactic| k_extra "exec For Tuple Name cons cons")
local macro_rules | `(tactic| walk_at "exec For Tuple Tuple") => `(tactic| k_extra "exec For Tuple Tuple")
local macro_rules | `(tactic| walk_at "exec For Tuple Tuple cons nil") => `(tactic| k_extra "exec For Tuple Tuple cons nil")
local macro_rules | `(tactic| walk_at "exec Try") => `(tactic| k_extra "exec Try")
local macro_rules | `(tactic| walk_at "getMethod ref") => `(tactic| k_extra "getMethod ref")
local macro_rules | `(tactic| walk_at "subscriptTail") => `(tactic| k_extra "subscriptTail")
local macro_rules | `(tactic| walk_at "subscriptTail Name Slice ref ref") => `(tactic| k_extra "subscriptTail Name Slice ref ref")
local macro_rules | `(tactic| walk_at "subscriptTail Name UnaryOp ref int") => `(tactic| k_extra "subscriptTail Name UnaryOp ref int")
local macro_rules | `(tactic| walk_at "truthy ref") => `(tactic| k_extra "truthy ref")
local macro_rules | `(tactic| k_all) => `(tactic| k_extra "k_all")
section -- text HD
open PySem PySem.W PyProof.Rows
set_option Elab.async false
set_option maxRecDepth 100000
set_option maxHeartbeats 8000000
theorem Mine.same : PySem.Manifest.find? = PySem.Manifest.find? := rfl
name_quick tw3094477031063562474 for PySem.Manifest.find? by Mine.same
name_quick tw8075568018651887793 for PySem.Manifest.find? by Mine.same
name_quick tw9887803706249314303 for PySem.Manifest.find? by Mine.same
name_quick tw14979626087600564940 for PySem.Manifest.find? by Mine.same
name_quick tw8907686455067269944 for PySem.Manifest.find? by Mine.same
name_quick tw8359286648393180516 for PySem.Manifest.find? by Mine.same
name_quick tw6733733256287894996 for PySem.Manifest.find? by Mine.same
name_quick tw16519947266957812712 for PySem.Manifest.find? by Mine.same
name_quick tw7210653913260312092 for PySem.Manifest.find? by Mine.same
name_quick tw5393377272723796125 for PySem.Manifest.find? by Mine.same
name_quick tw8125751321437004933 for PySem.Manifest.find? by Mine.same
name_quick tw16145008321745377990 for PySem.Manifest.find? by Mine.same
name_quick tw12635297910168745909 for PySem.Manifest.find? by Mine.same
name_quick tw14891183629231038608 for PySem.Manifest.find? by Mine.same
name_quick tw17954471519018878134 for PySem.Manifest.find? by Mine.same
name_quick tw9763268239775435451 for PySem.Manifest.find? by Mine.same
name_quick tw2408619945344806742 for PySem.Manifest.find? by Mine.same
name_quick tw13618601795979515405 for PySem.Manifest.find? by Mine.same
name_quick tw17497748084772794779 for PySem.Manifest.find? by Mine.same
name_quick tw14761518105344179592 for PySem.Manifest.find? by Mine.same
name_quick tw16804044748790271530 for PySem.Manifest.find? by Mine.same
name_quick tw18350330562280901221 for PySem.Manifest.find? by Mine.same
name_quick tw14168537005229113720 for PySem.Manifest.find? by Mine.same
name_quick tw15742981410569661332 for PySem.Manifest.find? by Mine.same
name_quick tw5706481520468235054 for PySem.Manifest.find? by Mine.same
name_quick tw14311459727803291754 for PySem.Manifest.find? by Mine.same
name_quick tw4636218855388986860 for PySem.Manifest.find? by Mine.same
name_quick tw11130039905162102590 for PySem.Manifest.find? by Mine.same
name_quick tw14333388528381170442 for PySem.Manifest.find? by Mine.same
name_quick tw4444965560193506482 for PySem.Manifest.find? by Mine.same
name_quick tw14433975572909055671 for PySem.Manifest.find? by Mine.same
name_quick tw3282434896037501709 for PySem.Manifest.find? by Mine.same
name_quick tw11186114360453789277 for PySem.Manifest.find? by Mine.same
name_quick tw14073706353221006472 for PySem.Manifest.find? by Mine.same
name_quick tw13912434898499826684 for PySem.Manifest.find? by Mine.same
name_quick tw14376985748213822385 for PySem.Manifest.find? by Mine.same
name_quick tw13317431791736044220 for PySem.Manifest.find? by Mine.same
name_quick tw900395245841561262 for PySem.Manifest.find? by Mine.same
name_quick tw4549333791460862111 for PySem.Manifest.find? by Mine.same
name_quick tw1537898542681612871 for PySem.Manifest.find? by Mine.same
name_quick tw1092655722715705105 for PySem.Manifest.find? by Mine.same
name_quick tw387338674003428930 for PySem.Manifest.find? by Mine.same
name_quick tw6792406925840432001 for PySem.Manifest.find? by Mine.same
name_quick tw3764465048917985505 for PySem.Manifest.find? by Mine.same
name_quick tw5591276700874282246 for PySem.Manifest.find? by Mine.same
name_quick tw4797165386629745026 for PySem.Manifest.find? by Mine.same
name_quick tw9787463984185863102 for PySem.Manifest.find? by Mine.same
name_quick tw17386159190761668373 for PySem.Manifest.find? by Mine.same
name_quick tw5557055217656661889 for PySem.Manifest.find? by Mine.same
name_quick tw15168306246750427876 for PySem.Manifest.find? by Mine.same
name_quick tw10887116778572429059 for PySem.Manifest.find? by Mine.same
name_quick tw9458956999447867950 for PySem.Manifest.find? by Mine.same
name_quick tw4292500188555128830 for PySem.Manifest.find? by Mine.same
name_quick tw17563454237958015444 for PySem.Manifest.find? by Mine.same
name_quick tw7457235589161816955 for PySem.Manifest.find? by Mine.same
name_quick tw16999406412319421078 for PySem.Manifest.find? by Mine.same
name_quick tw5978237884098788730 for PySem.Manifest.find? by Mine.same
name_quick tw4242893501424385820 for PySem.Manifest.find? by Mine.same
name_quick tw6683783046931543321 for PySem.Manifest.find? by Mine.same
name_quick tw12237943961548833269 for PySem.Manifest.find? by Mine.same
name_quick tw16817318245366136608 for PySem.Manifest.find? by Mine.same
name_quick tw16241802466949684156 for PySem.Manifest.find? by Mine.same
name_quick tw2354135333415324597 for PySem.Manifest.find? by Mine.same
name_quick tw11326521457850498738 for PySem.Manifest.find? by Mine.same
name_quick tw1291980286583624508 for PySem.Manifest.find? by Mine.same
name_quick tw912392155897948271 for PySem.Manifest.find? by Mine.same
name_quick tw13900631225919944168 for PySem.Manifest.find? by Mine.same
name_quick tw9529234661008812162 for PySem.Manifest.find? by Mine.same
name_quick tw1617757218408452269 for PySem.Manifest.find? by Mine.same
name_quick tw662354867322794072 for PySem.Manifest.find? by Mine.same
name_quick tw18056578402003937789 for PySem.Manifest.find? by Mine.same
name_quick tw14126943448341045398 for PySem.Manifest.find? by Mine.same
name_quick tw4084157530781037267 for PySem.Manifest.find? by Mine.same
name_quick tw6711915476519705758 for PySem.Manifest.find? by Mine.same
name_quick tw3442601649717412197 for PySem.Manifest.find? by Mine.same
name_quick tw11277716924127702174 for PySem.Manifest.find? by Mine.same
name_quick tw3856783459128436802 for PySem.Manifest.find? by Mine.same
name_quick tw16049961110935095269 for PySem.Manifest.find? by Mine.same
name_quick tw10424941004445345732 for PySem.Manifest.find? by Mine.same
name_quick tw4629098017875484523 for PySem.Manifest.find? by Mine.same
name_quick tw4775785305629353868 for PySem.Manifest.find? by Mine.same
name_quick tw16296994325663420285 for PySem.Manifest.find? by Mine.same
name_quick tw5673025641062948296 for PySem.Manifest.find? by Mine.same
name_quick tw5076957145309523181 for PySem.Manifest.find? by Mine.same
name_quick tw4302124980754421698 for PySem.Manifest.find? by Mine.same
name_quick tw2478078296215019888 for PySem.Manifest.find? by Mine.same
name_quick tw12268644228514654432 for PySem.Manifest.find? by Mine.same
name_quick tw9011979029575296479 for PySem.Manifest.find? by Mine.same
name_quick tw3976722010076183465 for PySem.Manifest.find? by Mine.same
name_quick tw4071324889030633612 for PySem.Manifest.find? by Mine.same
name_quick tw10132909190147918485 for PySem.Manifest.find? by Mine.same
name_quick tw10073347824450446311 for PySem.Manifest.find? by Mine.same
name_quick tw11964429278604863157 for PySem.Manifest.find? by Mine.same
name_quick tw11420187438672877268 for PySem.Manifest.find? by Mine.same
name_quick tw13559156169165276386 for PySem.Manifest.find? by Mine.same
name_quick tw3152983702415266003 for PySem.Manifest.find? by Mine.same
name_quick tw7392212959928792091 for PySem.Manifest.find? by Mine.same
name_quick tw13236226663087606529 for PySem.Manifest.find? by Mine.same
name_quick tw17964007177503468958 for PySem.Manifest.find? by Mine.same
name_quick tw6122645084068987007 for PySem.Manifest.find? by Mine.same
name_quick tw4933834842325187142 for PySem.Manifest.find? by Mine.same
name_quick tw12635813782599140982 for PySem.Manifest.find? by Mine.same
name_quick tw8693227569615203950 for PySem.Manifest.find? by Mine.same
name_quick tw15263041282635125899 for PySem.Manifest.find? by Mine.same
name_quick tw16349804527192203551 for PySem.Manifest.find? by Mine.same
name_quick tw7721631327575515661 for PySem.Manifest.find? by Mine.same
name_quick tw17888162413812561239 for PySem.Manifest.find? by Mine.same
name_quick tw951843321253372498 for PySem.Manifest.find? by Mine.same
name_quick tw17846936440860909165 for PySem.Manifest.find? by Mine.same
name_quick tw1702518465993881591 for PySem.Manifest.find? by Mine.same
name_quick tw16643379632663270332 for PySem.Manifest.find? by Mine.same
name_quick tw3803298628253846420 for PySem.Manifest.find? by Mine.same
name_quick tw13678640442995254988 for PySem.Manifest.find? by Mine.same
name_quick tw7275051467321613617 for PySem.Manifest.find? by Mine.same
name_quick tw18345786424863182364 for PySem.Manifest.find? by Mine.same
name_quick tw18220123701641295943 for PySem.Manifest.find? by Mine.same
name_quick tw17672482021469178181 for PySem.Manifest.find? by Mine.same
name_quick tw7581352650102555174 for PySem.Manifest.find? by Mine.same
name_quick tw10948738476641704880 for PySem.Manifest.find? by Mine.same
name_quick tw13254397897704925713 for PySem.Manifest.find? by Mine.same
name_quick tw2611137233208623240 for PySem.Manifest.find? by Mine.same
name_quick tw8703263022893421829 for PySem.Manifest.find? by Mine.same
name_quick tw6004533443673955352 for PySem.Manifest.find? by Mine.same
name_quick tw5882768191206486792 for PySem.Manifest.find? by Mine.same
name_quick tw6434138532213402376 for PySem.Manifest.find? by Mine.same
name_quick tw15475462885187679331 for PySem.Manifest.find? by Mine.same
name_quick tw4679858250743294509 for PySem.Manifest.find? by Mine.same
name_quick tw17532440430192770315 for PySem.Manifest.find? by Mine.same
name_quick tw12233582284571471492 for PySem.Manifest.find? by Mine.same
name_quick tw14386061602966655976 for PySem.Manifest.find? by Mine.same
name_quick tw17975652961387846372 for PySem.Manifest.find? by Mine.same
name_quick tw5770868932273138760 for PySem.Manifest.find? by Mine.same
name_quick tw16018607276475445134 for PySem.Manifest.find? by Mine.same
name_quick tw17476080006546285661 for PySem.Manifest.find? by Mine.same
name_quick tw2422670821966735624 for PySem.Manifest.find? by Mine.same
name_quick tw7299303143086499733 for PySem.Manifest.find? by Mine.same
name_quick tw1414301608579184545 for PySem.Manifest.find? by Mine.same
name_quick tw15663404670287596823 for PySem.Manifest.find? by Mine.same
name_quick tw15894407043143930727 for PySem.Manifest.find? by Mine.same
name_quick tw16916688483869632129 for PySem.Manifest.find? by Mine.same
name_quick tw11317593695737139937 for PySem.Manifest.find? by Mine.same
name_quick tw7323676302269181137 for PySem.Manifest.find? by Mine.same
name_quick tw6929956602132211858 for PySem.Manifest.find? by Mine.same
name_quick tw1377046205977697930 for PySem.Manifest.find? by Mine.same
name_quick tw10996506086634736982 for PySem.Manifest.find? by Mine.same
name_quick tw3972328310683599613 for PySem.Manifest.find? by Mine.same
name_quick tw17100903815162463580 for PySem.Manifest.find? by Mine.same
name_quick tw17057272898397164401 for PySem.Manifest.find? by Mine.same
name_quick tw14714103240675001986 for PySem.Manifest.find? by Mine.same
name_quick tw14834023430324568649 for PySem.Manifest.find? by Mine.same
name_quick tw16414604833108395602 for PySem.Manifest.find? by Mine.same
name_quick tw9862997608875712007 for PySem.Manifest.find? by Mine.same
name_quick tw6448080314894763839 for PySem.Manifest.find? by Mine.same
name_quick tw3766158894648301139 for PySem.Manifest.find? by Mine.same
name_quick tw15766043655864335149 for PySem.Manifest.find? by Mine.same
name_quick tw460243522976405022 for PySem.Manifest.find? by Mine.same
name_quick tw17164873540382356111 for PySem.Manifest.find? by Mine.same
name_quick tw11625766737575182897 for PySem.Manifest.find? by Mine.same
name_quick tw16548257151911338427 for PySem.Manifest.find? by Mine.same
name_quick tw4748654258956052638 for PySem.Manifest.find? by Mine.same
name_quick tw13180171748994924942 for PySem.Manifest.find? by Mine.same
name_quick tw3619232141914619222 for PySem.Manifest.find? by Mine.same
name_quick tw16741492637210864865 for PySem.Manifest.find? by Mine.same
name_quick tw704327219915372674 for PySem.Manifest.find? by Mine.same
name_quick tw17069979004554194336 for PySem.Manifest.find? by Mine.same
name_quick tw17947096601507714206 for PySem.Manifest.find? by Mine.same
name_quick tw2039238271031011813 for PySem.Manifest.find? by Mine.same
name_quick tw5189142188285759775 for PySem.Manifest.find? by Mine.same
name_quick tw16846860572762119324 for PySem.Manifest.find? by Mine.same
name_quick tw15278061642289888581 for PySem.Manifest.find? by Mine.same
name_quick tw11566699232636054958 for PySem.Manifest.find? by Mine.same
name_quick tw7232422423428716515 for PySem.Manifest.find? by Mine.same
name_quick tw14974422364763868477 for PySem.Manifest.find? by Mine.same
name_quick tw4011157648589011858 for PySem.Manifest.find? by Mine.same
name_quick tw3105397867545767578 for PySem.Manifest.find? by Mine.same
name_quick tw13789449189825218787 for PySem.Manifest.find? by Mine.same
name_quick tw10205541121877940668 for PySem.Manifest.find? by Mine.same
name_quick tw3560238982266916124 for PySem.Manifest.find? by Mine.same
name_quick tw1402947280878808549 for PySem.Manifest.find? by Mine.same
name_quick tw5396446701170858492 for PySem.Manifest.find? by Mine.same
name_quick tw15490439104401381959 for PySem.Manifest.find? by Mine.same
name_quick tw6654550962395885724 for PySem.Manifest.find? by Mine.same
name_quick tw5111356299099525756 for PySem.Manifest.find? by Mine.same
name_quick tw5200128776193632040 for PySem.Manifest.find? by Mine.same
name_quick tw11788150170368784547 for PySem.Manifest.find? by Mine.same
name_quick tw932993149863042379 for PySem.Manifest.find? by Mine.same
name_quick tw13335737130258781183 for PySem.Manifest.find? by Mine.same
name_quick tw8603108125212654177 for PySem.Manifest.find? by Mine.same
name_quick tw9407582987413476825 for PySem.Manifest.find? by Mine.same
name_quick tw16439824349840649037 for PySem.Manifest.find? by Mine.same
name_quick tw5721027456603625697 for PySem.Manifest.find? by Mine.same
name_quick tw10029231156530900338 for PySem.Manifest.find? by Mine.same
name_quick tw43969757491396457 for PySem.Manifest.find? by Mine.same
name_quick tw1962928258387122110 for PySem.Manifest.find? by Mine.same
name_quick tw11853533878840232495 for PySem.Manifest.find? by Mine.same
name_quick tw15480198773659482676 for PySem.Manifest.find? by Mine.same
name_quick tw10942035263794033107 for PySem.Manifest.find? by Mine.same
name_quick tw9948023125614773506 for PySem.Manifest.find? by Mine.same
name_quick tw8400853705098224536 for PySem.Manifest.find? by Mine.same
name_quick tw9908251947323293946 for PySem.Manifest.find? by Mine.same
name_quick tw6380047634161181297 for PySem.Manifest.find? by Mine.same
name_quick tw8860024209350480642 for PySem.Manifest.find? by Mine.same
name_quick tw2567998274259142822 for PySem.Manifest.find? by Mine.same
name_quick tw10010936943081839664 for PySem.Manifest.find? by Mine.same
name_quick tw14108194823987119177 for PySem.Manifest.find? by Mine.same
name_quick tw11994158751524154303 for PySem.Manifest.find? by Mine.same
name_quick tw13145125596335152023 for PySem.Manifest.find? by Mine.same
name_quick tw347637069881736656 for PySem.Manifest.find? by Mine.same
name_quick tw7496433998918960881 for PySem.Manifest.find? by Mine.same
name_quick tw5902227825499142635 for PySem.Manifest.find? by Mine.same
name_quick tw7401281599722004195 for PySem.Manifest.find? by Mine.same
name_quick tw2862820112641550484 for PySem.Manifest.find? by Mine.same
name_quick tw4980102563643897964 for PySem.Manifest.find? by Mine.same
name_quick tw269472587109936629 for PySem.Manifest.find? by Mine.same
name_quick tw12866136484021002089 for PySem.Manifest.find? by Mine.same
name_quick tw15560500314895047343 for PySem.Manifest.find? by Mine.same
name_quick tw11729385059970357855 for PySem.Manifest.find? by Mine.same
namespace Mine
open_top hd for PySem.Challenge.rw_il0078_01
end Mine
end

/- the head leaves the walk set to the top: set it back -/
theorem Mine.top_off : True := by
  w_top off
  trivial

section -- text RE1
theorem Mine.rows_off_RE1 : True := by
  k_with_none
  trivial
open PySem PySem.W PyProof.Rows
set_option Elab.async false
set_option maxRecDepth 100000
set_option maxHeartbeats 8000000
namespace Mine
open PySem.Calls
theorem pa_pat : PlainAttrs "re.Pattern" :=
  ⟨⟨"object.__getattribute__", by rw [typeLookup_type, builtinLookup_eq_fast]; kernel_rfl, by decide +kernel⟩, by rw [typeLookup_type, builtinLookup_eq_fast]; kernel_rfl⟩
theorem owner_pat : Manifest.owners.lookup (String.ofList ['n', 'r', 'e', 't', 't', 'a', 'P', '.', 'e', 'r'].reverse) = some Manifest.sig_re_Pattern := by kernel_rfl
theorem slot_sub : Slot "re.Pattern" "sub" "re.Pattern.sub" :=
  .of (owner := "re.Pattern") (n := "sub") (by rw [typeLookup_type, builtinLookup_eq_fast]; kernel_rfl) (by decide +kernel) (by decide +kernel) (by decide +kernel)
    (by first | exact .inl (by decide +kernel) | exact .inr (by decide +kernel)) (by rw [isSubtype_type]; kernel_rfl)
theorem type_sub : typeOf (.builtin "re.Pattern.sub") = pure (.type "method_descriptor") := by show builtinType _ = _; rw [builtinType_eq_fast]; kernel_rfl
theorem entry_sub : entryFor table "re.Pattern.sub" = some Builtin.«re.Pattern.sub» := entryFor_of_tree (by kernel_rfl)
theorem entry_loop : entryFor table "re.Pattern.sub.loop" = some Builtin.«re.Pattern.sub.loop» := entryFor_of_tree (by kernel_rfl)
theorem args_sub (a b c : Value) : argsOk "re.Pattern.sub" ⟨[a, b, c], []⟩ := by
  unfold argsOk; rw [signature?_of (id := "re.Pattern.sub") (n := ['b', 'u', 's']) (o := ['n', 'r', 'e', 't', 't', 'a', 'P', '.', 'e', 'r']) (by kernel_rfl) owner_pat]; kernel_rfl
theorem getMethod_sub {prog : Program} {w : World} {A : Around} {E : Value → Shared → Prop} {s : Shared} {K : Frag} {a L : Addr} {h₀ : Heap} {m : Str → Option Value} {pl : Sem Bool} {Q : Value × List Value → Shared → Prop} {fs : Array Value}
   (F : Fr h₀ L s.heap m) (X : K.In h₀) (e : K.lookup a = some { cls := .type "re.Pattern", data := .fields fs }) (h : Q (.builtin "re.Pattern.sub", [.ref a]) s) :
   wpAny (model prog w) A (getMethod (.ref a) "sub" pl) Q E s :=
  getMethod_builtin (T := "re.Pattern") ⟨_, F.keep _ _ (X _ _ e), rfl⟩ pa_pat slot_sub type_sub (fun b hb => by cases hb; exact ⟨_, F.keep _ _ (X _ _ e), rfl⟩) h
end Mine
end

section -- text RE2
open PySem
set_option maxRecDepth 100000
set_option maxHeartbeats 400000
set_option linter.unusedSimpArgs false
namespace Mine
open PySem.Sre

theorem runFor_done {m : M} (h : m.outcome.isSome = true) : ∀ n, m.runFor n = m
  | 0 => rfl
  | n + 1 => by unfold M.runFor; rw [if_pos h]
theorem runFor_add (m : M) (a b : Nat) : m.runFor (a + b) = (m.runFor a).runFor b := by
  induction a generalizing m with
  | zero => rw [Nat.zero_add]; rfl
  | succ a ih =>
    rw [Nat.succ_add]
    by_cases h : m.outcome.isSome = true
    · rw [runFor_done h, runFor_done h, runFor_done h]
    · show (if m.outcome.isSome = true then m else (m.step).runFor (a + b)) = _
      rw [if_neg h, ih]
      show _ = (if m.outcome.isSome = true then m else (m.step).runFor a).runFor b
      rw [if_neg h]
theorem runFor_one {m : M} (h : m.outcome = none) : m.runFor 1 = m.step := by
  show (if m.outcome.isSome = true then m else (m.step).runFor 0) = _
  rw [if_neg (by rw [h]; exact Bool.false_ne_true)]; rfl

noncomputable def code2 : Array Nat := #[14, 9, 4, 1, 2, 16, 10, 16, 13, 0, 7, 7, 16, 13, 16, 10, 15, 18, 5, 16, 10, 15, 13, 11, 16, 13, 5, 5, 0, 16, 10, 1, 15, 2, 0, 1]
noncomputable def code1 : Array Nat := #[14, 4, 0, 1, 1, 6, 1, 16, 46, 1]

/-- the state in which an attempt at s begins -/
noncomputable def at2 (t : Array Nat) (s : Nat) (f : Bool) (σ : Seen) : M :=
  { code := code2, text := t, lim := t.size, start := s, lastStart := t.size, pc := 10, pos := s, handed := s, outermost := f, marks := #[],
    frames := [{ wait := .nextStart, pc := 10, pos := s, outermost := f }], weight := 1, seen := σ }

theorem set2 (c : Nat) (σ : Seen) : ∃ σ', inSet code2 c code2.size 5 true σ = .ok (c == 10 || c == 13, σ') := by
  by_cases h : c = 10
  · subst h; exact ⟨_, rfl⟩
  · by_cases h' : c = 13
    · subst h'; exact ⟨_, rfl⟩
    · have e1 : (c == 10) = false := beq_eq_false_iff_ne.mpr h
      have e2 : (c == 13) = false := beq_eq_false_iff_ne.mpr h'
      refine ⟨((σ.add 16).add 16).add 0, ?_⟩
      show (if (c == 10) = true then _ else _) = _
      rw [e1, if_neg Bool.false_ne_true]
      show (if (c == 13) = true then _ else _) = _
      rw [e2, if_neg Bool.false_ne_true]
      rfl

/-- the scan for a first sign: the first place from s on with 10 or 13 -/
theorem admitted_some {m : M} (hc : m.code = code2) {q : Nat} (hq : q < m.lim) (hnl : m.text.getD q 0 = 10 ∨ m.text.getD q 0 = 13) :
    ∀ (fuel s : Nat) (σ : Seen), s ≤ q → q < s + fuel → (∀ j, s ≤ j → j < q → m.text.getD j 0 ≠ 10 ∧ m.text.getD j 0 ≠ 13) → ∃ σ', M.admitted m fuel s σ = .ok (some q, σ')
  | 0, s, σ, h1, h2, _ => absurd h2 (by omega)
  | fuel + 1, s, σ, h1, h2, h3 => by
    unfold M.admitted
    rw [if_neg (by omega), hc]
    obtain ⟨σ', e⟩ := set2 (m.text.getD s 0) σ
    rw [e]
    by_cases hs : s = q
    · subst hs
      have : (m.text.getD s 0 == 10 || m.text.getD s 0 == 13) = true := Bool.or_eq_true_iff.mpr (hnl.imp beq_iff_eq.mpr beq_iff_eq.mpr)
      rw [this]; exact ⟨σ', rfl⟩
    · have := h3 s (Nat.le_refl _) (by omega)
      have : (m.text.getD s 0 == 10 || m.text.getD s 0 == 13) = false := Bool.or_eq_false_iff.mpr ⟨beq_eq_false_iff_ne.mpr this.1, beq_eq_false_iff_ne.mpr this.2⟩
      rw [this]
      exact admitted_some hc hq hnl fuel (s + 1) σ' (by omega) (by omega) fun j hj => h3 j (by omega)
theorem admitted_none {m : M} (hc : m.code = code2) :
    ∀ (fuel s : Nat) (σ : Seen), (∀ j, s ≤ j → j < m.lim → m.text.getD j 0 ≠ 10 ∧ m.text.getD j 0 ≠ 13) → ∃ σ', M.admitted m fuel s σ = .ok (none, σ')
  | 0, s, σ, _ => ⟨σ, rfl⟩
  | fuel + 1, s, σ, h3 => by
    unfold M.admitted
    by_cases hs : s ≥ m.lim
    · rw [if_pos hs]; exact ⟨σ, rfl⟩
    rw [if_neg hs, hc]
    obtain ⟨σ', e⟩ := set2 (m.text.getD s 0) σ
    rw [e]
    have := h3 s (Nat.le_refl _) (by omega)
    have : (m.text.getD s 0 == 10 || m.text.getD s 0 == 13) = false := Bool.or_eq_false_iff.mpr ⟨beq_eq_false_iff_ne.mpr this.1, beq_eq_false_iff_ne.mpr this.2⟩
    rw [this]
    exact admitted_none hc fuel (s + 1) σ' fun j hj => h3 j (by omega)

/-- a run that ends in a match from s to e -/
noncomputable def Hits (m : M) (s e k : Nat) : Prop := ∃ m', m.runFor k = m' ∧ m'.outcome = some .matched ∧ m'.start = s ∧ m'.handed = e
noncomputable def Fails (m : M) (k : Nat) : Prop := ∃ m', m.runFor k = m' ∧ m'.outcome = some .failed


section
variable {m : M}
theorem step_exec (ho : m.outcome = none) (ha : m.answer = none) (hpc : m.pc < m.code.size) : m.step = m.exec := by
  unfold M.step
  rw [if_neg (by rw [ho]; exact Bool.false_ne_true), ha]
  show (if m.pc < m.code.size then m.exec else _) = _
  rw [if_pos hpc]
theorem exec_lit_no (hop : ops[m.word 0]? = some .LITERAL) (h : m.pos ≥ m.lim ∨ m.text.getD m.pos 0 ≠ m.word 1) : ∃ σ, m.exec = { m with seen := σ, answer := some false } := by
  refine ⟨m.seen.add (m.word 0), ?_⟩
  unfold M.exec
  simp only [hop]
  by_cases hp : m.pos ≥ m.lim
  · rw [if_pos hp]; rfl
  · rw [if_neg hp]
    have h' := h.resolve_left hp
    have hop' : ops[m.code.getD m.pc 0]? = some .LITERAL := hop
    have : accepts m.code m.pc (m.text.getD m.pos 0) (m.seen.add (m.word 0)) = .ok (false, m.seen.add (m.word 0)) := by
      unfold accepts
      simp only [hop']
      have : (m.text.getD m.pos 0 == m.code.getD (m.pc + 1) 0) = false := beq_eq_false_iff_ne.mpr h'
      rw [this]
    rw [this]; rfl
theorem exec_lit_yes (hop : ops[m.word 0]? = some .LITERAL) (hp : m.pos < m.lim) (h : m.text.getD m.pos 0 = m.word 1) : ∃ σ, m.exec = { m with seen := σ, pc := m.pc + 2, pos := m.pos + 1 } := by
  refine ⟨m.seen.add (m.word 0), ?_⟩
  unfold M.exec
  simp only [hop]
  rw [if_neg (by omega)]
  have hop' : ops[m.code.getD m.pc 0]? = some .LITERAL := hop
  have : accepts m.code m.pc (m.text.getD m.pos 0) (m.seen.add (m.word 0)) = .ok (true, m.seen.add (m.word 0)) := by
    unfold accepts
    simp only [hop']
    have : (m.text.getD m.pos 0 == m.code.getD (m.pc + 1) 0) = true := beq_iff_eq.mpr h
    rw [this]
  rw [this]
  have : itemWidth m.code m.pc = 2 := by unfold itemWidth; simp only [hop']
  simp only [this]
end

/-- a state of a run over a text -/
noncomputable def st (c t : Array Nat) (s : Nat) (pc pos handed : Nat) (o : Bool) (fr : List Sre.Frame) (w : Nat) (a : Option Bool) (σ : Seen) : M :=
  { code := c, text := t, lim := t.size, start := s, lastStart := t.size, pc := pc, pos := pos, handed := handed, outermost := o, marks := #[], frames := fr, weight := w, seen := σ, answer := a }
noncomputable def f0 (pc s : Nat) (f : Bool) : Sre.Frame := { wait := .nextStart, pc := pc, pos := s, outermost := f }
noncomputable def fb (pc s : Nat) (f : Bool) : Sre.Frame := { wait := .nextBranch, pc := pc, pos := s, outermost := f, kept := { lastmark := -1, lastindex := -1, whole := false, marks := #[] } }
noncomputable def fn (s : Nat) (f : Bool) : Sre.Frame := { wait := .lookNot, pc := 26, pos := s, outermost := f, kept := { lastmark := -1, lastindex := -1, whole := false, marks := #[] } }

theorem run_step {m m' : M} {k : Nat} {s e : Nat} (ho : m.outcome = none) (h : m.step = m') (r : Hits m' s e k) : Hits m s e (1 + k) := by
  obtain ⟨x, rfl, h1⟩ := r
  refine ⟨_, rfl, ?_⟩
  rw [runFor_add, runFor_one ho, h]; exact h1

section
variable {t : Array Nat} {s : Nat} {f : Bool} {σ : Seen}
theorem b0 : ∃ σ', (st code2 t s 10 s s f [f0 10 s f] 1 none σ).step = st code2 t s 12 s s f [fb 11 s f, f0 10 s f] 2 none σ' := ⟨_, rfl⟩
theorem b1 : ∃ σ', (st code2 t s 12 s s f [fb 11 s f, f0 10 s f] 2 (some false) σ).step = st code2 t s 19 s s f [fb 18 s f, f0 10 s f] 2 none σ' := ⟨_, rfl⟩

theorem fin2 {e h k : Nat} : Hits (st code2 t s 35 e h f [fb k s f, f0 10 s f] 2 none σ) s e 4 := by
  cases f <;> exact ⟨_, rfl, rfl, rfl, rfl⟩
theorem Hits.of_st {c : Array Nat} {pc pos handed : Nat} {o : Bool} {fr : List Sre.Frame} {w : Nat} {a : Option Bool} {e k : Nat} {m' : M} (h : (st c t s pc pos handed o fr w a σ).step = m') (r : Hits m' s e k) : Hits (st c t s pc pos handed o fr w a σ) s e (1 + k) := run_step rfl h r

theorem hits_lf (hs : s < t.size) (h : t.getD s 0 = 10) : ∃ k, k ≤ 64 ∧ Hits (st code2 t s 10 s s f [f0 10 s f] 1 none σ) s (s + 1) k := by
  obtain ⟨σ1, e1⟩ := b0 (t := t) (s := s) (f := f) (σ := σ)
  obtain ⟨σ2, e2⟩ := exec_lit_no (m := st code2 t s 12 s s f [fb 11 s f, f0 10 s f] 2 none σ1) rfl (.inr (by show t.getD s 0 ≠ 13; rw [h]; decide))
  obtain ⟨σ3, e3⟩ := b1 (t := t) (s := s) (f := f) (σ := σ2)
  obtain ⟨σ4, e4⟩ := exec_lit_yes (m := st code2 t s 19 s s f [fb 18 s f, f0 10 s f] 2 none σ3) rfl hs (by show t.getD s 0 = 10; exact h)
  refine ⟨_, ?_, .of_st e1 (.of_st ((step_exec rfl rfl (by decide : 12 < code2.size)).trans e2) (.of_st e3 (.of_st ((step_exec rfl rfl (by decide : 19 < code2.size)).trans e4) (.of_st (m' := st code2 t s 35 (s + 1) s f [fb 18 s f, f0 10 s f] 2 none (σ4.add 15)) rfl fin2))))⟩
  decide

theorem hits_crlf (hs : s + 1 < t.size) (h : t.getD s 0 = 13) (h' : t.getD (s + 1) 0 = 10) : ∃ k, k ≤ 64 ∧ Hits (st code2 t s 10 s s f [f0 10 s f] 1 none σ) s (s + 2) k := by
  obtain ⟨σ1, e1⟩ := b0 (t := t) (s := s) (f := f) (σ := σ)
  obtain ⟨σ2, e2⟩ := exec_lit_yes (m := st code2 t s 12 s s f [fb 11 s f, f0 10 s f] 2 none σ1) rfl (Nat.lt_of_succ_lt hs) (by show t.getD s 0 = 13; exact h)
  obtain ⟨σ4, e4⟩ := exec_lit_yes (m := st code2 t s 14 (s + 1) s f [fb 11 s f, f0 10 s f] 2 none σ2) rfl hs (by show t.getD (s + 1) 0 = 10; exact h')
  refine ⟨_, ?_, .of_st e1 (.of_st ((step_exec rfl rfl (by decide : 12 < code2.size)).trans e2) (.of_st ((step_exec rfl rfl (by decide : 14 < code2.size)).trans e4) (.of_st (m' := st code2 t s 35 (s + 1 + 1) s f [fb 11 s f, f0 10 s f] 2 none (σ4.add 15)) rfl fin2)))⟩
  decide

theorem hits_cr (hs : s < t.size) (h : t.getD s 0 = 13) (h' : s + 1 ≥ t.size ∨ t.getD (s + 1) 0 ≠ 10) : ∃ k, k ≤ 64 ∧ Hits (st code2 t s 10 s s f [f0 10 s f] 1 none σ) s (s + 1) k := by
  obtain ⟨σ1, e1⟩ := b0 (t := t) (s := s) (f := f) (σ := σ)
  obtain ⟨σ2, e2⟩ := exec_lit_yes (m := st code2 t s 12 s s f [fb 11 s f, f0 10 s f] 2 none σ1) rfl hs (by show t.getD s 0 = 13; exact h)
  obtain ⟨σ3, e3⟩ := exec_lit_no (m := st code2 t s 14 (s + 1) s f [fb 11 s f, f0 10 s f] 2 none σ2) rfl h'
  obtain ⟨σ4, e4⟩ : ∃ σ', (st code2 t s 14 (s + 1) s f [fb 11 s f, f0 10 s f] 2 (some false) σ3).step = st code2 t s 19 s s f [fb 18 s f, f0 10 s f] 2 none σ' := ⟨_, rfl⟩
  obtain ⟨σ5, e5⟩ := exec_lit_no (m := st code2 t s 19 s s f [fb 18 s f, f0 10 s f] 2 none σ4) rfl (.inr (by show t.getD s 0 ≠ 10; rw [h]; decide))
  obtain ⟨σ6, e6⟩ : ∃ σ', (st code2 t s 19 s s f [fb 18 s f, f0 10 s f] 2 (some false) σ5).step = st code2 t s 24 s s f [fb 23 s f, f0 10 s f] 2 none σ' := ⟨_, rfl⟩
  obtain ⟨σ7, e7⟩ := exec_lit_yes (m := st code2 t s 24 s s f [fb 23 s f, f0 10 s f] 2 none σ6) rfl hs (by show t.getD s 0 = 13; exact h)
  obtain ⟨σ8, e8⟩ : ∃ σ', (st code2 t s 26 (s + 1) s f [fb 23 s f, f0 10 s f] 2 none σ7).step = st code2 t s 29 (s + 1) (s + 1) false [fn (s + 1) f, fb 23 s f, f0 10 s f] 3 none σ' := ⟨_, rfl⟩
  obtain ⟨σ9, e9⟩ := exec_lit_no (m := st code2 t s 29 (s + 1) (s + 1) false [fn (s + 1) f, fb 23 s f, f0 10 s f] 3 none σ8) rfl h'
  obtain ⟨σ10, e10⟩ : ∃ σ', (st code2 t s 29 (s + 1) (s + 1) false [fn (s + 1) f, fb 23 s f, f0 10 s f] 3 (some false) σ9).step = st code2 t s 32 (s + 1) (s + 1) f [fb 23 s f, f0 10 s f] 2 none σ' := ⟨_, rfl⟩
  refine ⟨_, ?_, .of_st e1 (.of_st ((step_exec rfl rfl (by decide : 12 < code2.size)).trans e2) (.of_st ((step_exec rfl rfl (by decide : 14 < code2.size)).trans e3) (.of_st e4 (.of_st ((step_exec rfl rfl (by decide : 19 < code2.size)).trans e5) (.of_st e6 (.of_st ((step_exec rfl rfl (by decide : 24 < code2.size)).trans e7) (.of_st e8 (.of_st ((step_exec rfl rfl (by decide : 29 < code2.size)).trans e9) (.of_st e10 (.of_st (m' := st code2 t s 35 (s + 1) (s + 1) f [fb 23 s f, f0 10 s f] 2 none (σ10.add 15)) rfl fin2))))))))))⟩
  decide
end

theorem search2_hit {t : Array Nat} {p q : Nat} {b : Bool} (hpq : p ≤ q) (hq : q < t.size) (hnl : t.getD q 0 = 10 ∨ t.getD q 0 = 13) (hno : ∀ j, p ≤ j → j < q → t.getD j 0 ≠ 10 ∧ t.getD j 0 ≠ 13) :
    ∃ σ, forSearch code2 t 0 p t.size b = st code2 t q 10 q q true [f0 10 q true] 1 none σ := by
  unfold forSearch
  have : (p > t.size || t.size - p < (header code2).1) = false := by
    have e : (header code2).1 = 1 := rfl
    rw [e]; simp; omega
  simp only [this]
  unfold M.attemptFrom
  obtain ⟨σ, e⟩ := admitted_some (m := { code := code2, text := t, lim := t.size, start := p, lastStart := t.size, pc := 10, pos := p, handed := p, marks := #[], mustAdvance := b, seen := ({} : Seen).add 14 }) rfl hq hnl (t.size + 1 - p) p (({} : Seen).add 14) hpq (by omega) hno
  refine ⟨σ, ?_⟩
  show (match M.admitted { code := code2, text := t, lim := t.size, start := p, lastStart := t.size, pc := 10, pos := p, handed := p, marks := #[], mustAdvance := b, seen := ({} : Seen).add 14 } (t.size + 1 - p) p (({} : Seen).add 14) with
    | .ok (some s, seen) => _
    | .ok (none, seen) => _
    | .error why => _) = _
  rw [e]
  rfl
theorem search2_none {t : Array Nat} {p : Nat} {b : Bool} (hno : ∀ j, p ≤ j → j < t.size → t.getD j 0 ≠ 10 ∧ t.getD j 0 ≠ 13) : Fails (forSearch code2 t 0 p t.size b) 1 := by
  unfold forSearch
  by_cases h : (p > t.size || t.size - p < (header code2).1) = true
  · simp only [h]; exact ⟨_, rfl, rfl⟩
  · rw [Bool.not_eq_true] at h
    simp only [h]
    unfold M.attemptFrom
    obtain ⟨σ, e⟩ := admitted_none (m := { code := code2, text := t, lim := t.size, start := p, lastStart := t.size, pc := 10, pos := p, handed := p, marks := #[], mustAdvance := b, seen := ({} : Seen).add 14 }) rfl (t.size + 1 - p) p (({} : Seen).add 14) hno
    show Fails (match M.admitted { code := code2, text := t, lim := t.size, start := p, lastStart := t.size, pc := 10, pos := p, handed := p, marks := #[], mustAdvance := b, seen := ({} : Seen).add 14 } (t.size + 1 - p) p (({} : Seen).add 14) with
      | .ok (some s, seen) => _
      | .ok (none, seen) => _
      | .error why => _) 1
    rw [e]
    exact ⟨_, rfl, rfl⟩

/-- a line begins at p -/
noncomputable def bol (t : Array Nat) (p : Nat) : Bool := p == 0 || t.getD (p - 1) 0 == 10
noncomputable def s1 (t : Array Nat) (p : Nat) (f : Bool) (σ : Seen) : M := st code1 t p 5 p p f [f0 5 p f] 1 none σ

theorem runFor_succ {m m' : M} {k : Nat} (ho : m.outcome = none) (h : m.step = m') : m.runFor (1 + k) = m'.runFor k := by
  rw [runFor_add, runFor_one ho, h]
section
variable {t : Array Nat} {p : Nat} {f : Bool} {σ : Seen}
theorem at1 : (s1 t p f σ).step = if bol t p = true then st code1 t p 7 p p f [f0 5 p f] 1 none ((σ.add 6).add 44) else st code1 t p 5 p p f [f0 5 p f] 1 (some false) ((σ.add 6).add 44) := rfl
theorem hit1 (hb : bol t p = true) (hp : p < t.size) (h : t.getD p 0 = 46) : Hits (s1 t p f σ) p (p + 1) 5 := by
  have e0 := at1 (t := t) (p := p) (f := f) (σ := σ)
  rw [if_pos hb] at e0
  obtain ⟨σ1, e1⟩ := exec_lit_yes (m := st code1 t p 7 p p f [f0 5 p f] 1 none ((σ.add 6).add 44)) rfl hp (by show t.getD p 0 = 46; exact h)
  refine Hits.of_st (k := 4) e0 (Hits.of_st (k := 3) ((step_exec rfl rfl (by decide : 7 < code1.size)).trans e1) ?_)
  cases f <;> exact ⟨_, rfl, rfl, rfl, rfl⟩
/-- what follows a missed place -/
noncomputable def after1 (t : Array Nat) (p : Nat) (σ : Seen) : M := if p < t.size then s1 t (p + 1) false σ else st code1 t p 5 p p true [] 0 (some false) σ
theorem back1 {pc : Nat} : (st code1 t p pc p p f [f0 5 p f] 1 (some false) σ).step = if p < t.size then s1 t (p + 1) false σ else st code1 t p 5 p p f [] 0 (some false) σ := rfl
theorem miss1 (hp : p < t.size) (h : ¬ (bol t p = true ∧ t.getD p 0 = 46)) : ∃ k σ', k ≤ 3 ∧ ∀ j, (s1 t p f σ).runFor (k + j) = (s1 t (p + 1) false σ').runFor j := by
  have e0 := at1 (t := t) (p := p) (f := f) (σ := σ)
  by_cases hb : bol t p = true
  · rw [if_pos hb] at e0
    obtain ⟨σ1, e1⟩ := exec_lit_no (m := st code1 t p 7 p p f [f0 5 p f] 1 none ((σ.add 6).add 44)) rfl (.inr (by show t.getD p 0 ≠ 46; exact fun e => h ⟨hb, e⟩))
    have e2 := back1 (t := t) (p := p) (f := f) (σ := σ1) (pc := 7)
    rw [if_pos hp] at e2
    refine ⟨3, σ1, by decide, fun j => ?_⟩
    rw [show 3 + j = 1 + (1 + (1 + j)) by omega, runFor_succ rfl e0, runFor_succ rfl ((step_exec rfl rfl (by decide : 7 < code1.size)).trans e1)]
    exact runFor_succ (m := st code1 t p 7 p p f [f0 5 p f] 1 (some false) σ1) rfl e2
  · rw [if_neg hb] at e0
    have e2 := back1 (t := t) (p := p) (f := f) (σ := (σ.add 6).add 44) (pc := 5)
    rw [if_pos hp] at e2
    refine ⟨2, (σ.add 6).add 44, by decide, fun j => ?_⟩
    rw [show 2 + j = 1 + (1 + j) by omega, runFor_succ rfl e0, runFor_succ rfl e2]
theorem end1 (hp : p = t.size) : ∃ k, k ≤ 4 ∧ Fails (s1 t p f σ) k := by
  have e0 := at1 (t := t) (p := p) (f := f) (σ := σ)
  by_cases hb : bol t p = true
  · rw [if_pos hb] at e0
    obtain ⟨σ1, e1⟩ := exec_lit_no (m := st code1 t p 7 p p f [f0 5 p f] 1 none ((σ.add 6).add 44)) rfl (.inl (by show p ≥ t.size; omega))
    have e2 := back1 (t := t) (p := p) (f := f) (σ := σ1) (pc := 7)
    rw [if_neg (by omega)] at e2
    refine ⟨1 + (1 + (1 + 1)), by decide, _, rfl, ?_⟩
    rw [runFor_succ rfl e0, runFor_succ rfl ((step_exec rfl rfl (by decide : 7 < code1.size)).trans e1)]
    show ((st code1 t p 7 p p f [f0 5 p f] 1 (some false) σ1).runFor (1 + 1)).outcome = _
    rw [runFor_succ (m := st code1 t p 7 p p f [f0 5 p f] 1 (some false) σ1) rfl e2]
    rfl
  · rw [if_neg hb] at e0
    have e2 := back1 (t := t) (p := p) (f := f) (σ := (σ.add 6).add 44) (pc := 5)
    rw [if_neg (by omega)] at e2
    refine ⟨1 + (1 + 1), by decide, _, rfl, ?_⟩
    rw [runFor_succ rfl e0, runFor_succ rfl e2]
    rfl
end
theorem scan1_hit {t : Array Nat} {q : Nat} (hb : bol t q = true) (hq : q < t.size) (h : t.getD q 0 = 46) :
    ∀ (n p : Nat) (f : Bool) (σ : Seen), p + n = q → (∀ j, p ≤ j → j < q → ¬ (bol t j = true ∧ t.getD j 0 = 46)) → ∃ k, k ≤ 3 * n + 5 ∧ Hits (s1 t p f σ) q (q + 1) k
  | 0, p, f, σ, e, _ => by obtain rfl : p = q := by omega
                           exact ⟨5, by omega, hit1 hb hq h⟩
  | n + 1, p, f, σ, e, hno => by
    obtain ⟨k, σ', hk, hr⟩ := miss1 (f := f) (σ := σ) (show p < t.size by omega) (hno p (Nat.le_refl _) (by omega))
    obtain ⟨k', hk', x, rfl, hx⟩ := scan1_hit hb hq h n (p + 1) false σ' (by omega) fun j hj => hno j (by omega)
    exact ⟨k + k', by omega, _, rfl, by rw [hr]; exact hx⟩
theorem scan1_none {t : Array Nat} :
    ∀ (n p : Nat) (f : Bool) (σ : Seen), p + n = t.size → (∀ j, p ≤ j → j < t.size → ¬ (bol t j = true ∧ t.getD j 0 = 46)) → ∃ k, k ≤ 3 * n + 4 ∧ Fails (s1 t p f σ) k
  | 0, p, f, σ, e, _ => let ⟨k, h, r⟩ := end1 (f := f) (σ := σ) (show p = t.size by omega); ⟨k, by omega, r⟩
  | n + 1, p, f, σ, e, hno => by
    obtain ⟨k, σ', hk, hr⟩ := miss1 (f := f) (σ := σ) (show p < t.size by omega) (hno p (Nat.le_refl _) (by omega))
    obtain ⟨k', hk', x, rfl, hx⟩ := scan1_none n (p + 1) false σ' (by omega) fun j hj => hno j (by omega)
    exact ⟨k + k', by omega, _, rfl, by rw [hr]; exact hx⟩
theorem search1_is {t : Array Nat} {p : Nat} (hp : p < t.size) : forSearch code1 t 0 p t.size false = s1 t p true (({} : Seen).add 14) := by
  unfold forSearch
  have : (p > t.size || t.size - p < (header code1).1) = false := by
    have e : (header code1).1 = 1 := rfl
    rw [e]; simp; omega
  simp only [this]
  rfl
theorem search1_hit {t : Array Nat} {p q : Nat} (hpq : p ≤ q) (hb : bol t q = true) (hq : q < t.size) (h : t.getD q 0 = 46) (hno : ∀ j, p ≤ j → j < q → ¬ (bol t j = true ∧ t.getD j 0 = 46)) :
    ∃ k, k ≤ 3 * t.size + 5 ∧ Hits (forSearch code1 t 0 p t.size false) q (q + 1) k := by
  rw [search1_is (by omega)]
  obtain ⟨k, hk, r⟩ := scan1_hit hb hq h (q - p) p true (({} : Seen).add 14) (by omega) hno
  exact ⟨k, by omega, r⟩
theorem search1_none {t : Array Nat} {p : Nat} (hno : ∀ j, p ≤ j → j < t.size → ¬ (bol t j = true ∧ t.getD j 0 = 46)) :
    ∃ k, k ≤ 3 * t.size + 5 ∧ Fails (forSearch code1 t 0 p t.size false) k := by
  by_cases hp : p < t.size
  · rw [search1_is hp]
    obtain ⟨k, hk, r⟩ := scan1_none (t.size - p) p true (({} : Seen).add 14) (by omega) hno
    exact ⟨k, by omega, r⟩
  · refine ⟨1, by omega, ?_⟩
    unfold forSearch
    have : (p > t.size || t.size - p < (header code1).1) = true := by
      have e : (header code1).1 = 1 := rfl
      rw [e]; simp; omega
    simp only [this]
    exact ⟨_, rfl, rfl⟩
end Mine
end

section -- text RE3
theorem Mine.rows_off_RE3 : True := by
  k_with_none
  trivial
open PySem PySem.W PyProof.Rows
set_option Elab.async false
set_option maxRecDepth 100000
set_option maxHeartbeats 1000000
namespace Mine
open PySem.Calls PySem.Sre PySem.Builtin.Re
section
variable {M : Model} {A : Around} {E : Value → Shared → Prop} {s : Shared}

theorem wpAny_reDrive {Q : Sre.M → Shared → Prop} {k : Nat} : ∀ (turns : Nat) (m : Sre.M), (m.runFor k).outcome.isSome = true → k < 4 * turns → Q (m.runFor k) s → wpAny M A (reDrive turns m) Q E s := by
  intro turns
  induction turns generalizing k with
  | zero => intro m _ h; omega
  | succ n ih =>
    intro m ho hk hQ
    show wpAny M A (if ((m.runFor reTurnSteps).outcome.isSome = true) then pure (m.runFor reTurnSteps) else (do rule "sre.turn"; reDrive n (m.runFor reTurnSteps))) Q E s
    by_cases h4 : (m.runFor reTurnSteps).outcome.isSome = true
    · rw [if_pos h4]
      have e : m.runFor reTurnSteps = m.runFor k := by
        by_cases hk4 : 4 ≤ k
        · obtain ⟨j, rfl⟩ : ∃ j, k = 4 + j := ⟨k - 4, by omega⟩
          rw [runFor_add]; exact (runFor_done h4 j).symm
        · obtain ⟨j, hj⟩ : ∃ j, 4 = k + j := ⟨4 - k, by omega⟩
          show m.runFor 4 = _
          rw [hj, runFor_add, runFor_done ho]
      rw [e]; exact wpAny_pure hQ
    · rw [if_neg h4]
      have hk4 : 4 ≤ k := by
        rcases Nat.lt_or_ge k 4 with h | h
        · exfalso
          apply h4
          obtain ⟨j, hj⟩ : ∃ j, 4 = k + j := ⟨4 - k, by omega⟩
          show (m.runFor 4).outcome.isSome = true
          rw [hj, runFor_add, runFor_done ho]; exact ho
        · exact h
      obtain ⟨j, rfl⟩ : ∃ j, k = 4 + j := ⟨k - 4, by omega⟩
      rw [runFor_add] at ho hQ
      exact wpAny_bind (wpAny_rule (ih (k := j) _ ho (by omega) hQ))

theorem wpAny_rules {Q : PUnit → Shared → Prop} (c : Nat → Bool) (nm : Nat → String) : ∀ l : List Nat, Q ⟨⟩ s →
    wpAny M A (forIn l PUnit.unit fun i _ => if c i = true then (do rule (nm i); pure (ForInStep.yield PUnit.unit)) else pure (ForInStep.yield PUnit.unit)) Q E s
  | [], h => by rw [List.forIn_nil]; exact wpAny_pure h
  | i :: r, h => by
    rw [List.forIn_cons]
    refine wpAny_bind (wpAny_ite ?_)
    split
    · exact wpAny_bind (wpAny_rule (wpAny_pure (wpAny_rules c nm r h)))
    · exact wpAny_pure (wpAny_rules c nm r h)

theorem wpAny_hits {m : Sre.M} {b e k : Nat} {Q : Option Sre.M → Shared → Prop} (hm : Hits m b e k) (hk : k < 2 ^ 64) (h : ∀ m', m'.start = b → m'.handed = e → Q (some m') s) : wpAny M A (reRunToEnd m) Q E s := by
  obtain ⟨m', rfl, ho, hb, he⟩ := hm
  unfold reRunToEnd
  refine wpAny_bind (wpAny_reDrive (2 ^ 64) m (by rw [ho]; rfl) (by omega) ?_)
  refine wpAny_bind (wpAny_rules (fun i => (m.runFor k).seen.has i) (fun i => Sre.names.getD i "") (List.range Sre.names.size) ?_)
  rw [ho]
  exact wpAny_pure (h _ hb he)
theorem wpAny_fails {m : Sre.M} {k : Nat} {Q : Option Sre.M → Shared → Prop} (hm : Fails m k) (hk : k < 2 ^ 64) (h : Q none s) : wpAny M A (reRunToEnd m) Q E s := by
  obtain ⟨m', rfl, ho⟩ := hm
  unfold reRunToEnd
  refine wpAny_bind (wpAny_reDrive (2 ^ 64) m (by rw [ho]; rfl) (by omega) ?_)
  refine wpAny_bind (wpAny_rules (fun i => (m.runFor k).seen.has i) (fun i => Sre.names.getD i "") (List.range Sre.names.size) ?_)
  rw [ho]
  exact wpAny_pure h
end
end Mine
end

section -- text RE4
theorem Mine.rows_off_RE4 : True := by
  k_with_none
  trivial
open PySem PySem.W PyProof.Rows
set_option Elab.async false
set_option maxRecDepth 100000
set_option maxHeartbeats 1000000
namespace Mine
open PySem.Calls PySem.Sre PySem.Builtin.Re

/-- the words of a pattern, as its tuple holds them -/
noncomputable def wordsV (c : Array Nat) : Array Value := c.map fun w : Nat => Value.int (w : Int) 0
/-- a compiled pattern of texts without groups, at a, its words at b -/
noncomputable def IsPat (h : Heap) (a : Addr) (c : Array Nat) : Prop :=
  ∃ b p f t, h.get? a = some { cls := .type "re.Pattern", data := .fields #[p, .int f t, .int 0 0, .none, .none, .ref b, .int 0 0] } ∧ h.get? b = some { cls := .type "tuple", data := .seq (wordsV c) }
theorem IsPat.keeps {h h' : Heap} {a : Addr} {c : Array Nat} (x : IsPat h a c) (k : ∀ b o, h.get? b = some o → h'.get? b = some o) : IsPat h' a c :=
  let ⟨b, p, f, t, e1, e2⟩ := x; ⟨b, p, f, t, k _ _ e1, k _ _ e2⟩

section
variable {M : Model} {A : Around} {E : Value → Shared → Prop} {s : Shared}
theorem words_back (c : Array Nat) : ((wordsV c).map reRawOf).map (·.toNat) = c := by
  unfold wordsV
  rw [Array.map_map, Array.map_map]
  have : (((fun x : Int => x.toNat) ∘ reRawOf) ∘ fun w : Nat => Value.int w 0) = id := by funext w; rfl
  rw [this, Array.map_id]
theorem wpAny_whole {a : Addr} {c : Array Nat} {x : Str} {tk : Tok} {Q : ReTarget → Shared → Prop} (hp : IsPat s.heap a c)
    (h : Q { pattern := .ref a, string := .str x tk, code := c, text := x.cps, kind := 0, groups := 0, pos := 0, lim := x.cps.size } s) : wpAny M A (reWholeTarget (.ref a) (.str x tk)) Q E s := by
  obtain ⟨b, p, f, t, e1, e2⟩ := hp
  unfold reWholeTarget
  refine wpAny_bind (wpAny_fieldsOf e1 rfl ?_)
  refine wpAny_bind (m := reTextOf (.str x tk)) (wpAny_pure ?_)
  show wpAny M A (do
    reNoCollectionInside (.str x tk) 0
    let c ← reRawItems (.ref b)
    pure ({ pattern := .ref a, string := .str x tk, code := c.map (·.toNat), text := x.cps, kind := 0, groups := 0, pos := 0, lim := x.cps.size } : ReTarget)) Q E s
  refine wpAny_bind (m := reNoCollectionInside (.str x tk) 0) (wpAny_pure ?_)
  refine wpAny_bind (m := reRawItems (.ref b)) ?_
  unfold reRawItems
  refine wpAny_bind (wpAny_seqItems e2 rfl ?_)
  refine wpAny_pure (wpAny_pure ?_)
  show Q { pattern := .ref a, string := .str x tk, code := ((wordsV c).map reRawOf).map (·.toNat), text := x.cps, kind := 0, groups := 0, pos := 0, lim := x.cps.size } s
  rw [words_back]; exact h
theorem wpAny_reSlice {t : Array Nat} {b e : Nat} {Q : Value → Shared → Prop} (hsz : t.size ≤ sizeLine) (h : Q (.str ⟨t.extract b e⟩ s.toks) { s with toks := s.toks + 1 }) : wpAny M A (reSlice t 0 b e) Q E s := by
  show wpAny M A (mkStr ⟨t.extract b e⟩) Q E s
  unfold mkStr
  rw [if_neg (by
    show ¬ (t.extract b e).size > sizeLine
    rw [Array.size_extract]; omega)]
  exact wpAny_bind (wpAny_fresh (wpAny_pure h))
end

noncomputable def loopArgs (a : Addr) (x : Str) (tx : Tok) (r : Str) (tr : Tok) (n : Int) (p : Nat) (l : Addr) : Args :=
  ⟨[.ref a, .str x tx, .str r tr, rawInt 0, rawInt 0, rawInt n, rawInt p, rawInt p, .bool false, .ref l, .bool false], []⟩
noncomputable def loopCode (a : Addr) (x : Str) (tx : Tok) (r : Str) (tr : Tok) (n : Int) (p : Nat) (l : Addr) : Code := .builtin "re.Pattern.sub.loop" (loopArgs a x tx r tr n p l)

section
variable {prog : Program} {w : World} {A : Around} {s : Shared} {a l : Addr} {c : Array Nat} {x r : Str} {tx tr : Tok} {n : Int} {p : Nat} {R : Result → Shared → Prop}


/-- the pieces so far, all else as it was -/
noncomputable def Out (s₀ : Shared) (l : Addr) (L : List (Str × Tok)) (s : Shared) : Prop :=
  ∃ h tk, s = { s₀ with heap := h, toks := tk } ∧ h.PlainList l (strValues L).toArray ∧ ∀ b o, b ≠ l → s₀.heap.get? b = some o → h.get? b = some o
theorem strValues_snoc (L : List (Str × Tok)) (x : Str) (t : Tok) : (strValues L).toArray.push (.str x t) = (strValues (L ++ [(x, t)])).toArray := by
  unfold strValues; simp
theorem wpAny_push {M : Model} {E : Value → Shared → Prop} {s₀ : Shared} {L : List (Str × Tok)} {y : Str} {ty : Tok} {Q : Unit → Shared → Prop} (O : Out s₀ l L s) (hsz : L.length ≤ sizeLine)
    (h : ∀ s', Out s₀ l (L ++ [(y, ty)]) s' → Q () s') : wpAny M A (updateSeq l (·.push (.str y ty))) Q E s := by
  obtain ⟨h', tk, rfl, ⟨n, ho⟩, hk⟩ := O
  have hz : (strValues L).toArray.size ≤ sizeLine := by unfold strValues; simpa using hsz
  refine wpAny_updateSeq ho rfl (h _ ⟨_, tk, rfl, ⟨n + 1, ?_⟩, fun b o hb e => ?_⟩) hz (by simpa using hz)
  · rw [Heap.get?_update_self _ ho (by rw [Obj.mapSeq_push_plain]; rfl), Obj.mapSeq_push_plain, strValues_snoc]
  · exact (Heap.SameBut.update h' l _).extBut b o hb (hk b o hb e)
theorem Out.toks {s₀ : Shared} {L : List (Str × Tok)} (O : Out s₀ l L s) (tk : Nat) : Out s₀ l L { s with toks := tk } := by
  obtain ⟨h', tk', rfl, a, b⟩ := O; exact ⟨h', tk, rfl, a, b⟩


theorem loop_hit {s₀ : Shared} {L : List (Str × Tok)} {q e k : Nat} (O : Out s₀ l L s) (hp : IsPat s.heap a c) (hk : k < 2 ^ 64) (hh : Hits (forSearch c x.cps 0 p x.cps.size false) q e k) (hqe : q < e) (hsz : L.length + 2 ≤ sizeLine) (hx : x.cps.size ≤ sizeLine)
   (next : ∀ s' t, Out s₀ l ((if p < q then L ++ [(⟨x.cps.extract p q⟩, t)] else L) ++ [(r, tr)]) s' → codeAny (model prog w) A (loopCode a x tx r tr (n + 1) e l) R s') :
   codeAny (model prog w) A (loopCode a x tx r tr n p l) R s := by
  refine codeAny_builtin entry_loop ?_
  unfold Builtin.«re.Pattern.sub.loop»
  unfold loopArgs
  dsimp only [rawInt]
  refine wpAny_bind (wpAny_whole hp ?_)
  refine wpAny_bind (m := reLiteralCannotBeTurned (.str r tr)) (wpAny_pure ?_)
  refine wpAny_bind (m := reNextFound { pattern := .ref a, string := .str x tx, code := c, text := x.cps, kind := 0, groups := 0, pos := 0, lim := x.cps.size } p false) ?_
  refine wpAny_hits hh hk fun m' hb he => ?_
  dsimp only
  rw [hb, he]
  have hne : (e == q) = false := beq_eq_false_iff_ne.mpr (by omega)
  have fin : ∀ {s₁ : Shared} {L₁ : List (Str × Tok)}, Out s₀ l L₁ s₁ → L₁.length ≤ sizeLine → (∀ s', Out s₀ l (L₁ ++ [(r, tr)]) s' → codeAny (model prog w) A (loopCode a x tx r tr (n + 1) e l) R s') →
      wpAny (model prog w) (A.under (Code.builtin "re.Pattern.sub.loop" { pos := [Value.ref a, Value.str x tx, Value.str r tr, Value.int 0 0, Value.int 0 0, Value.int n 0, Value.int (p : Int) 0, Value.int (p : Int) 0, Value.bool false, Value.ref l, Value.bool false] }))
        (do
          updateSeq l fun x => x.push (Value.str r tr)
          again (Code.builtin "re.Pattern.sub.loop" { pos := [Value.ref a, Value.str x tx, Value.str r tr, Value.int 0 0, Value.int 0 0, Value.int (n + 1) 0, Value.int (e : Int) 0, Value.int (e : Int) 0, Value.bool (e == q), Value.ref l, Value.bool false] }))
        (fun fin s' => match fin with | .done f => R (.ok f) s' | .again c' => c'.quiet = true ∧ codeAny (model prog w) A c' R s') (fun e s' => R (.error e) s') s₁ := by
    intro s₁ L₁ O₁ hz hn
    refine wpAny_bind (wpAny_push O₁ hz fun s' O' => wpAny_pure ⟨plainId_quiet (by decide +kernel) _, ?_⟩)
    rw [hne]
    exact hn s' O'
  have e0 : ((p : Int).toNat < q) = (p < q) := by rw [Int.toNat_natCast]
  by_cases hpq : p < q
  · rw [if_pos (by rw [e0]; exact hpq)]
    refine wpAny_bind (wpAny_reSlice hx ?_)
    refine wpAny_bind (wpAny_push (O.toks _) (by omega) fun s' O' => ?_)
    refine fin O' (by simp; omega) fun s'' O'' => next s'' s.toks ?_
    rw [if_pos hpq]
    exact O''
  · rw [if_neg (by rw [e0]; exact hpq)]
    refine fin O (by omega) fun s'' O'' => next s'' 0 ?_
    rw [if_neg hpq]
    exact O''

theorem loop_none {s₀ : Shared} {L : List (Str × Tok)} {k : Nat} (O : Out s₀ l L s) (hp : IsPat s.heap a c) (hk : k < 2 ^ 64) (hh : Fails (forSearch c x.cps 0 p x.cps.size false) k) (hsz : L.length + 1 ≤ sizeLine) (hx : x.cps.size ≤ sizeLine)
   (hj : JoinOk Str.empty (L.map (·.1) ++ if p < x.cps.size then [⟨x.cps.extract p x.cps.size⟩] else []) = true)
   (done : ∀ h' t tk, (∀ b o, b ≠ l → s₀.heap.get? b = some o → h'.get? b = some o) → R (.ok (.ret (.str (Txt.join Str.empty (L.map (·.1) ++ if p < x.cps.size then [⟨x.cps.extract p x.cps.size⟩] else [])) t))) { s₀ with heap := h', toks := tk }) :
   codeAny (model prog w) A (loopCode a x tx r tr n p l) R s := by
  refine codeAny_builtin entry_loop ?_
  unfold Builtin.«re.Pattern.sub.loop»
  unfold loopArgs
  dsimp only [rawInt]
  refine wpAny_bind (wpAny_whole hp ?_)
  refine wpAny_bind (m := reLiteralCannotBeTurned (.str r tr)) (wpAny_pure ?_)
  refine wpAny_bind (m := reNextFound { pattern := .ref a, string := .str x tx, code := c, text := x.cps, kind := 0, groups := 0, pos := 0, lim := x.cps.size } p false) ?_
  refine wpAny_fails hh hk ?_
  dsimp only
  have hemp : (⟨x.cps.extract 0 0⟩ : Str) = Str.empty := by
    show (⟨x.cps.extract 0 0⟩ : Str) = ⟨#[]⟩
    congr 1
    simp
  have fin : ∀ {s₁ : Shared} {L₁ : List (Str × Tok)}, Out s₀ l L₁ s₁ → JoinOk Str.empty (L₁.map (·.1)) = true →
      (∀ h' t tk, (∀ b o, b ≠ l → s₀.heap.get? b = some o → h'.get? b = some o) → R (.ok (.ret (.str (Txt.join Str.empty (L₁.map (·.1))) t))) { s₀ with heap := h', toks := tk }) →
      wpAny (model prog w) (A.under (Code.builtin "re.Pattern.sub.loop" { pos := [Value.ref a, Value.str x tx, Value.str r tr, Value.int 0 0, Value.int 0 0, Value.int n 0, Value.int (p : Int) 0, Value.int (p : Int) 0, Value.bool false, Value.ref l, Value.bool false] }))
        (do
          let joiner ← reSlice x.cps 0 0 0
          let xs ← seqItems? (Value.ref l)
          if (xs.getD #[]).isEmpty = true then do
            let text ← pure joiner
            ret text
          else do
            let text ← call (Value.builtin "str.join") [joiner, Value.ref l]
            ret text)
        (fun fin s' => match fin with | .done f => R (.ok f) s' | .again c' => c'.quiet = true ∧ codeAny (model prog w) A c' R s') (fun e s' => R (.error e) s') s₁ := by
    intro s₁ L₁ O₁ hj₁ hd
    refine wpAny_bind (wpAny_reSlice hx ?_)
    obtain ⟨h', tk, rfl, ⟨n', ho⟩, hkp⟩ := O₁
    refine wpAny_bind (wpAny_seqItems ho rfl ?_)
    show wpAny _ _ (if (strValues L₁).toArray.isEmpty = true then _ else _) _ _ _
    cases L₁ with
    | nil =>
      rw [if_pos (show (strValues []).toArray.isEmpty = true from rfl)]
      refine wpAny_bind (wpAny_pure (wpAny_pure ?_))
      rw [hemp]
      exact hd h' _ _ hkp
    | cons y L₁ =>
      rw [if_neg (by unfold strValues; simp)]
      rw [hemp]
      exact wpAny_bind (SC.join (l := y :: L₁) ⟨_, ho, rfl, n', rfl⟩ rfl hj₁ fun t' k' => wpAny_pure (hd h' t' k' hkp))
  have e0 : ((p : Int).toNat < x.cps.size) = (p < x.cps.size) := by rw [Int.toNat_natCast]
  by_cases hpq : p < x.cps.size
  · rw [if_pos (by rw [e0]; exact hpq)]
    rw [if_pos hpq] at hj done
    refine wpAny_bind (wpAny_reSlice hx ?_)
    refine wpAny_bind (wpAny_push (O.toks _) (by omega) fun s' O' => ?_)
    exact fin O' (by simpa using hj) fun h' t tk hk' => by simpa using done h' t tk hk'
  · rw [if_neg (by rw [e0]; exact hpq)]
    rw [if_neg hpq] at hj done
    exact fin O (by simpa using hj) fun h' t tk hk' => by simpa using done h' t tk hk'
end
end Mine
end

section -- text RE5
theorem Mine.rows_off_RE5 : True := by
  k_with_none
  trivial
open PySem PySem.W PyProof.Rows
set_option Elab.async false
set_option maxRecDepth 100000
set_option maxHeartbeats 1000000
namespace Mine
open PySem.Calls PySem.Sre PySem.Builtin.Re

noncomputable def cat (L : List Str) : List Nat := L.flatMap fun y => y.cps.toList
theorem cat_append (a b : List Str) : cat (a ++ b) = cat a ++ cat b := List.flatMap_append
theorem join_empty : ∀ L : List Str, (Str.join Str.empty L).cps.toList = cat L
  | [] => rfl
  | [x] => by unfold cat; simp [Str.join]
  | x :: y :: r => by
    show ((x ++ Str.empty ++ Str.join Str.empty (y :: r)) : Str).cps.toList = _
    rw [Str.cps_append, Str.cps_append, Array.toList_append, Array.toList_append, join_empty (y :: r)]
    show x.cps.toList ++ [] ++ _ = _
    rw [List.append_nil]
    rfl
theorem txt_join_empty (L : List Str) : Txt.join Str.empty L = ⟨(cat L).toArray⟩ := by
  show Builtin.Str.glued Str.empty L = _
  rw [StrLaws.glued_eq_join]
  have := join_empty L
  cases h : Str.join Str.empty L with
  | mk c => rw [h] at this; show (⟨c⟩ : Str) = _; congr 1; rw [← this]
theorem foldl_len (L : List Str) : ∀ n : Nat, L.foldl (fun a (y : Str) => a + y.length + Str.empty.length) n = n + (cat L).length := by
  induction L with
  | nil => intro n; rfl
  | cons x r ih =>
    intro n
    rw [List.foldl_cons, ih]
    unfold cat
    rw [List.flatMap_cons, List.length_append]
    have : x.length = x.cps.toList.length := rfl
    have h0 : Str.empty.length = 0 := rfl
    omega
theorem joinOk_empty {L : List Str} (h : (cat L).length ≤ sizeLine) : JoinOk Str.empty L = true := by
  unfold JoinOk
  rw [Bool.not_eq_true', ← Array.foldl_toList, foldl_len]
  unfold Builtin.Str.tooLong
  exact decide_eq_false (by show ¬ _; rw [Nat.zero_add]; show ¬ (cat L).length > sizeLine; omega)

theorem getD_at {t : Array Nat} {a b : List Nat} (h : t.toList = a ++ b) (j : Nat) : t.getD (a.length + j) 0 = b.getD j 0 := by
  have : t = (a ++ b).toArray := by rw [← h]
  subst this
  simp [List.getElem?_append_right]
theorem extract_at {t : Array Nat} {a b c : List Nat} (h : t.toList = a ++ b ++ c) : (t.extract a.length (a.length + b.length)).toList = b := by
  have : t = (a ++ b ++ c).toArray := by rw [← h]
  subst this
  simp
theorem str_ext {x : Str} {l : List Nat} (h : x.cps.toList = l) : x = ⟨l.toArray⟩ := by
  cases x with
  | mk c => subst h; rfl

/-- a row and its end -/
structure OkRow (r : List Nat × List Nat) : Prop where
  some : r.1 ≠ []
  plain : ∀ c ∈ r.1, c ≠ 10 ∧ c ≠ 13
  ends : r.2 = [10] ∨ r.2 = [13] ∨ r.2 = [13, 10]
noncomputable def flat (rows : List (List Nat × List Nat)) : List Nat := rows.flatMap fun r => r.1 ++ r.2
noncomputable def fixed (rows : List (List Nat × List Nat)) : List Nat := rows.flatMap fun r => r.1 ++ [13, 10]
theorem OkRow.len {r : List Nat × List Nat} (h : OkRow r) : 1 ≤ r.2.length ∧ r.2.length ≤ 2 := by
  rcases h.ends with e | e | e <;> rw [e] <;> exact ⟨by decide, by decide⟩

section
variable {prog : Program} {w : World} {A : Around} {s₀ : Shared} {a l : Addr} {x : Str} {tx tr : Tok} {R : Result → Shared → Prop}
theorem Out.pat {c : Array Nat} {L : List (Str × Tok)} {s : Shared} (O : Out s₀ l L s) (hp : IsPat s₀.heap a c) (hl : s₀.heap.get? l = none) : IsPat s.heap a c := by
  obtain ⟨h, tk, rfl, _, hk⟩ := O
  exact hp.keeps fun b o e => hk b o (fun q => by rw [q, hl] at e; cases e) e

noncomputable def crlf : Str := ⟨#[13, 10]⟩
theorem fix_rows (hp : IsPat s₀.heap a code2) (hl : s₀.heap.get? l = none) (hx : x.cps.size ≤ 65536) : ∀ (rows : List (List Nat × List Nat)) (pre : List Nat) (L : List (Str × Tok)) (n : Int) (s : Shared),
    x.cps.toList = pre ++ flat rows → (∀ r ∈ rows, OkRow r) → Out s₀ l L s → L.length + 2 * rows.length ≤ 65536 → (cat (L.map (·.1))).length + (fixed rows).length ≤ 65536 →
    (∀ h' t tk, (∀ b o, s₀.heap.get? b = some o → h'.get? b = some o) → R (.ok (.ret (.str ⟨(cat (L.map (·.1)) ++ fixed rows).toArray⟩ t))) { s₀ with heap := h', toks := tk }) →
    codeAny (model prog w) A (loopCode a x tx crlf tr n pre.length l) R s := by
  intro rows
  induction rows with
  | nil =>
    intro pre L n s ht _ O hz hc done
    have hsz : x.cps.size = pre.length := by
      have := congrArg List.length ht
      simpa [flat] using this
    have hno : ¬ pre.length < x.cps.size := by omega
    refine loop_none O (O.pat hp hl) (by decide) (search2_none fun j h1 h2 => absurd h2 (by omega)) (by rw [sizeLine_eq]; omega) (by rw [sizeLine_eq]; omega) ?_ ?_
    · rw [if_neg hno, List.append_nil]; exact joinOk_empty (by rw [sizeLine_eq]; omega)
    · intro h' t tk hk
      rw [if_neg hno, List.append_nil, txt_join_empty]
      simpa [fixed] using done h' t tk fun b o e => hk b o (fun q => by rw [q, hl] at e; cases e) e
  | cons r rows ih =>
    intro pre L n s ht hr O hz hc done
    have ok := hr r (.head _)
    have hr1 : 0 < r.1.length := List.length_pos_iff.mpr ok.some
    have hl2 := ok.len
    have ht' : x.cps.toList = pre ++ r.1 ++ (r.2 ++ flat rows) := by
      rw [ht]; unfold flat; rw [List.flatMap_cons]; simp
    have hsize : x.cps.size = pre.length + r.1.length + (r.2.length + (flat rows).length) := by
      have := congrArg List.length ht'
      simp at this; omega
    have at0 : x.cps.getD (pre.length + r.1.length) 0 = (r.2 ++ flat rows).getD 0 0 := by
      have := getD_at ht' 0
      rwa [List.length_append, Nat.add_zero] at this
    have at1 : x.cps.getD (pre.length + r.1.length + 1) 0 = (r.2 ++ flat rows).getD 1 0 := by
      have := getD_at ht' 1
      rwa [List.length_append] at this
    have scan : ∀ j, pre.length ≤ j → j < pre.length + r.1.length → x.cps.getD j 0 ≠ 10 ∧ x.cps.getD j 0 ≠ 13 := by
      intro j h1 h2
      obtain ⟨i, rfl⟩ := Nat.exists_eq_add_of_le h1
      have hi : i < r.1.length := Nat.lt_of_add_lt_add_left h2
      have e := getD_at (a := pre) (b := r.1 ++ (r.2 ++ flat rows)) (by rw [ht']; simp) i
      rw [e]
      have e2 : (r.1 ++ (r.2 ++ flat rows)).getD i 0 = r.1[i] := by
        simp [List.getElem?_append_left hi, hi]
      rw [e2]
      exact ok.plain _ (List.getElem_mem hi)
    -- the sign behind a lone return
    have behind : r.2 = [13] → pre.length + r.1.length + 1 ≥ x.cps.size ∨ x.cps.getD (pre.length + r.1.length + 1) 0 ≠ 10 := by
      intro e
      rw [at1, e]
      cases rows with
      | nil => left; rw [hsize, e]; show _ ≥ _ + (1 + 0); omega
      | cons r' rows' =>
        right
        have ok' := hr r' (.tail _ (.head _))
        obtain ⟨c, m, hcm⟩ := List.exists_cons_of_ne_nil ok'.some
        have : ([13] ++ flat (r' :: rows')).getD 1 0 = c := by
          unfold flat; rw [List.flatMap_cons, hcm]; rfl
        rw [this]
        exact (ok'.plain c (by rw [hcm]; exact .head _)).1
    have hnl : x.cps.getD (pre.length + r.1.length) 0 = 10 ∨ x.cps.getD (pre.length + r.1.length) 0 = 13 := by
      rw [at0]; rcases ok.ends with e | e | e <;> rw [e] <;> first | exact .inl rfl | exact .inr rfl
    obtain ⟨σ, hs⟩ := search2_hit (b := false) (Nat.le_add_right pre.length r.1.length) (by omega) hnl scan
    have hit : ∃ k, k ≤ 64 ∧ Hits (forSearch code2 x.cps 0 pre.length x.cps.size false) (pre.length + r.1.length) (pre.length + r.1.length + r.2.length) k := by
      rw [hs]
      rcases ok.ends with e | e | e
      · rw [e] at at0 ⊢
        exact hits_lf (by omega) at0
      · rw [e] at at0 ⊢
        exact hits_cr (by omega) at0 (behind e)
      · rw [e] at at0 at1 ⊢
        exact hits_crlf (by rw [hsize, e]; show _ < _ + (2 + _); omega) at0 at1
    obtain ⟨k, hk, hit⟩ := hit
    refine loop_hit O (O.pat hp hl) (by omega) hit (by omega) (by rw [sizeLine_eq]; simp at hz; omega) (by rw [sizeLine_eq]; omega) fun s' t O' => ?_
    rw [if_pos (by omega)] at O'
    have hlen : pre.length + r.1.length + r.2.length = (pre ++ r.1 ++ r.2).length := by simp; omega
    rw [hlen]
    have hslice : (⟨x.cps.extract pre.length (pre.length + r.1.length)⟩ : Str) = ⟨r.1.toArray⟩ := str_ext (extract_at ht')
    have hcat : cat ((L ++ [((⟨x.cps.extract pre.length (pre.length + r.1.length)⟩ : Str), t)] ++ [(crlf, tr)]).map (fun y : Str × Tok => y.1)) = cat (L.map (·.1)) ++ (r.1 ++ [13, 10]) := by
      rw [List.map_append, List.map_append, cat_append, cat_append]
      rw [hslice]
      simp [cat, crlf]
    have hfix : fixed (r :: rows) = (r.1 ++ [13, 10]) ++ fixed rows := by unfold fixed; rw [List.flatMap_cons]
    refine ih (pre ++ r.1 ++ r.2) _ _ s' ?_ (fun r' h => hr r' (.tail _ h)) O' ?_ ?_ ?_
    · rw [ht]; unfold flat; rw [List.flatMap_cons]; simp
    · simp at hz ⊢; omega
    · rw [hcat]; rw [hfix] at hc; simp at hc ⊢; omega
    · intro h' t' tk' hk'
      rw [hcat]
      have := done h' t' tk' hk'
      rw [hfix] at this
      rwa [List.append_assoc]

/-- a row whose first sign is a dot has it twice -/
noncomputable def dbl (r : List Nat) : List Nat := if r.head? = some 46 then 46 :: r else r
noncomputable def lines (rows : List (List Nat)) : List Nat := rows.flatMap fun r => r ++ [13, 10]
structure OkLine (r : List Nat) : Prop where
  some : r ≠ []
  plain : ∀ c ∈ r, c ≠ 10 ∧ c ≠ 13
theorem lines_cons (r : List Nat) (rows : List (List Nat)) : lines (r :: rows) = r ++ [13, 10] ++ lines rows := by unfold lines; rw [List.flatMap_cons]

noncomputable def dots : Str := ⟨#[46, 46]⟩
theorem dot_rows (hp : IsPat s₀.heap a code1) (hl : s₀.heap.get? l = none) (hx : x.cps.size ≤ 65536) : ∀ (rows : List (List Nat)) (pre gap : List Nat) (L : List (Str × Tok)) (n : Int) (s : Shared),
    x.cps.toList = pre ++ gap ++ lines rows → (∀ r ∈ rows, OkLine r) → (∀ j, pre.length ≤ j → j < pre.length + gap.length → ¬ (bol x.cps j = true ∧ x.cps.getD j 0 = 46)) →
    bol x.cps (pre.length + gap.length) = true → Out s₀ l L s → L.length + 2 * rows.length + 1 ≤ 65536 → (cat (L.map (·.1))).length + gap.length + (lines (rows.map dbl)).length ≤ 65536 →
    (∀ h' t tk, (∀ b o, s₀.heap.get? b = some o → h'.get? b = some o) → R (.ok (.ret (.str ⟨(cat (L.map (·.1)) ++ gap ++ lines (rows.map dbl)).toArray⟩ t))) { s₀ with heap := h', toks := tk }) →
    codeAny (model prog w) A (loopCode a x tx dots tr n pre.length l) R s := by
  intro rows
  induction rows with
  | nil =>
    intro pre gap L n s ht _ hgap hb O hz hc done
    have hsz : x.cps.size = pre.length + gap.length := by
      have := congrArg List.length ht
      simpa [lines] using this
    obtain ⟨k, hk, hf⟩ := search1_none (t := x.cps) (p := pre.length) fun j h1 h2 => hgap j h1 (by omega)
    have hsl : gap ≠ [] → (⟨x.cps.extract pre.length x.cps.size⟩ : Str) = ⟨gap.toArray⟩ := fun _ => str_ext (by rw [hsz]; exact extract_at (c := []) (by rw [ht]; simp [lines]))
    have hcat : cat (L.map (·.1) ++ if pre.length < x.cps.size then [(⟨x.cps.extract pre.length x.cps.size⟩ : Str)] else []) = cat (L.map (·.1)) ++ gap := by
      rw [cat_append]
      congr 1
      by_cases hg : gap = []
      · rw [if_neg (by rw [hsz, hg]; simp)]; rw [hg]; rfl
      · rw [if_pos (by rw [hsz]; have := List.length_pos_iff.mpr hg; omega), hsl hg]; simp [cat]
    refine loop_none O (O.pat hp hl) (by omega) hf (by rw [sizeLine_eq]; omega) (by rw [sizeLine_eq]; omega) ?_ ?_
    · refine joinOk_empty ?_
      rw [hcat, sizeLine_eq, List.length_append]; omega
    · intro h' t tk hk
      rw [txt_join_empty, hcat]
      simpa [lines] using done h' t tk fun b o e => hk b o (fun q => by rw [q, hl] at e; cases e) e
  | cons r rows ih =>
    intro pre gap L n s ht hr hgap hb O hz hc done
    have ok := hr r (.head _)
    obtain ⟨c, m, rfl⟩ := List.exists_cons_of_ne_nil ok.some
    rw [lines_cons] at ht
    have hsize : x.cps.size = pre.length + gap.length + (1 + m.length + 2 + (lines rows).length) := by
      have := congrArg List.length ht
      simp at this; omega
    -- the places of this row behind its first sign: no line begins there
    have inside : ∀ i, i < m.length + 2 → bol x.cps (pre.length + gap.length + 1 + i) = false := by
      intro i hi
      unfold bol
      have e1 : (pre.length + gap.length + 1 + i == 0) = false := beq_eq_false_iff_ne.mpr (by omega)
      rw [e1, Bool.false_or]
      have e2 := getD_at (a := pre ++ gap) (b := c :: m ++ [13, 10] ++ lines rows) ht i
      rw [List.length_append] at e2
      have e3 : pre.length + gap.length + 1 + i - 1 = pre.length + gap.length + i := by rw [Nat.add_right_comm, Nat.add_sub_cancel]
      rw [e3, e2]
      refine beq_eq_false_iff_ne.mpr ?_
      have hi' : i < (c :: m ++ [13]).length := by simp; omega
      have e4 : (c :: m ++ [13, 10] ++ lines rows) = (c :: m ++ [13]) ++ (10 :: lines rows) := by simp
      rw [e4]
      have e5 : ((c :: m ++ [13]) ++ (10 :: lines rows)).getD i 0 = (c :: m ++ [13])[i] := by
        rw [List.getD_eq_getElem?_getD, List.getElem?_append_left hi', List.getElem?_eq_getElem hi']; rfl
      rw [e5]
      rcases List.mem_append.mp (List.getElem_mem hi') with h | h
      · exact (ok.plain _ h).1
      · rw [List.mem_singleton.mp h]; decide
    have bol' : bol x.cps (pre.length + gap.length + 1 + (m.length + 2)) = true := by
      unfold bol
      have e2 := getD_at (a := pre ++ gap ++ (c :: m ++ [13])) (b := 10 :: lines rows) (t := x.cps) (by rw [ht]; simp) 0
      have e3 : pre.length + gap.length + 1 + (m.length + 2) - 1 = (pre ++ gap ++ (c :: m ++ [13])).length + 0 := by simp; omega
      rw [e3, e2]; simp
    have here : x.cps.getD (pre.length + gap.length) 0 = c := by
      have e2 := getD_at (a := pre ++ gap) (b := c :: m ++ [13, 10] ++ lines rows) ht 0
      rw [List.length_append, Nat.add_zero] at e2
      rw [e2]; rfl
    by_cases hc46 : c = 46
    · subst hc46
      have hd : dbl (46 :: m) = 46 :: 46 :: m := rfl
      rw [List.map_cons, lines_cons, hd] at hc done
      obtain ⟨k, hk, hit⟩ := search1_hit (t := x.cps) (p := pre.length) (Nat.le_add_right _ gap.length) hb (by omega) here hgap
      refine loop_hit O (O.pat hp hl) (by omega) hit (by omega) (by rw [sizeLine_eq]; simp at hz; omega) (by rw [sizeLine_eq]; omega) fun s' t O' => ?_
      have hlen : pre.length + gap.length + 1 = (pre ++ gap ++ [46]).length := by simp; omega
      have hcat : cat (((if pre.length < pre.length + gap.length then L ++ [((⟨x.cps.extract pre.length (pre.length + gap.length)⟩ : Str), t)] else L) ++ [(dots, tr)]).map (fun y : Str × Tok => y.1)) = cat (L.map (·.1)) ++ gap ++ [46, 46] := by
        by_cases hg : gap = []
        · rw [if_neg (by rw [hg]; simp), List.map_append, cat_append, hg]; simp [cat, dots]
        · have hsl : (⟨x.cps.extract pre.length (pre.length + gap.length)⟩ : Str) = ⟨gap.toArray⟩ := str_ext (extract_at ht)
          rw [if_pos (by have := List.length_pos_iff.mpr hg; omega), List.map_append, List.map_append, cat_append, cat_append, hsl]; simp [cat, dots]
      have hL : ((if pre.length < pre.length + gap.length then L ++ [((⟨x.cps.extract pre.length (pre.length + gap.length)⟩ : Str), t)] else L) ++ [(dots, tr)]).length ≤ L.length + 2 := by
        split <;> simp
      rw [hlen]
      refine ih (pre ++ gap ++ [46]) (m ++ [13, 10]) _ _ s' ?_ (fun r' h => hr r' (.tail _ h)) ?_ ?_ O' ?_ ?_ ?_
      · rw [ht]; simp
      · intro j h1 h2 h3
        obtain ⟨i, rfl⟩ := Nat.exists_eq_add_of_le (hlen ▸ h1 : pre.length + gap.length + 1 ≤ j)
        rw [inside i (by simp at h2; omega)] at h3
        exact Bool.false_ne_true h3.1
      · rw [← hlen]
        have : (m ++ [13, 10]).length = m.length + 2 := by simp
        rw [this]; exact bol'
      · rw [List.length_cons] at hz; omega
      · rw [hcat]; simp at hc ⊢; omega
      · intro h' t' tk' hk'
        rw [hcat]
        simpa using done h' t' tk' hk'
    · have hd : dbl (c :: m) = c :: m := by unfold dbl; rw [if_neg]; simpa using hc46
      rw [List.map_cons, lines_cons, hd] at hc done
      have hgl : (gap ++ (c :: m ++ [13, 10])).length = gap.length + (1 + (m.length + 2)) := by simp; omega
      refine ih pre (gap ++ (c :: m ++ [13, 10])) L n s ?_ (fun r' h => hr r' (.tail _ h)) ?_ ?_ O ?_ ?_ ?_
      · rw [ht]; simp
      · intro j h1 h2 h3
        rw [hgl] at h2
        rcases Nat.lt_trichotomy j (pre.length + gap.length) with h | h | h
        · exact hgap j h1 h h3
        · subst h; rw [here] at h3; exact hc46 h3.2
        · obtain ⟨i, rfl⟩ := Nat.exists_eq_add_of_le (show pre.length + gap.length + 1 ≤ j from h)
          rw [inside i (by omega)] at h3
          exact Bool.false_ne_true h3.1
      · rw [hgl]
        have : pre.length + (gap.length + (1 + (m.length + 2))) = pre.length + gap.length + 1 + (m.length + 2) := by rw [← Nat.add_assoc, ← Nat.add_assoc]
        rw [this]; exact bol'
      · simp at hz ⊢; omega
      · simp at hc ⊢; omega
      · intro h' t' tk' hk'
        simpa using done h' t' tk' hk'
end
end Mine
end

section -- text RE6
theorem Mine.rows_off_RE6 : True := by
  k_with_none
  trivial
open PySem PySem.W PyProof.Rows
set_option Elab.async false
set_option maxRecDepth 100000
set_option maxHeartbeats 1000000
namespace Mine
open PySem.Calls PySem.Sre PySem.Builtin.Re
theorem str_nocall : typeLookup (.type "str") "__call__" = pure none := by rw [typeLookup_type, builtinLookup_eq_fast]; kernel_rfl
section
variable {prog : Program} {w : World} {A : Around} {s : Shared} {a : Addr} {x r : Str} {tx tr : Tok} {c : Array Nat} {E : Value → Shared → Prop} {Q : Value → Shared → Prop}
theorem named_sub (u v : Value) : reNamed "re.Pattern.sub" "sub" ["repl", "string", "count"] 2 [u, v] [] = pure [some u, some v, none] := by
  rfl
theorem call_sub (hp : IsPat s.heap a c) (hr : r.cps.contains 92 = false)
    (h : codeAny (model prog w) A (loopCode a x tx r tr 0 0 s.heap.objs.size) (wants Q E) { s with heap := s.heap.push { cls := .type "list", data := .seq #[] } }) :
    wpAny (model prog w) A (call (.builtin "re.Pattern.sub") [.ref a, .str r tr, .str x tx]) Q E s := by
  have hT : s.TypeIs (.ref a) "re.Pattern" := by obtain ⟨b, p, f, t, e1, _⟩ := hp; exact ⟨_, e1, rfl⟩
  refine wpAny_call (codeAny_call_builtin slot_sub.plain entry_sub (slot_sub.check _ _ _ _ _ _ _ _ hT (args_sub _ _ _) ?_))
  unfold Builtin.«re.Pattern.sub» reSubstitute
  dsimp only
  refine wpAny_bind ?_
  rw [named_sub]
  refine wpAny_pure ?_
  dsimp only
  refine wpAny_bind (m := (pure 0 : Sem Int)) (wpAny_pure ?_)
  refine wpAny_bind (wpAny_specialOf (T := "str") rfl str_nocall ?_)
  dsimp only [Option.isSome]
  rw [if_neg Bool.false_ne_true]
  refine wpAny_bind (m := asStr? (.str r tr)) (wpAny_pure ?_)
  dsimp only
  rw [hr]
  refine wpAny_bind (wpAny_pure ?_)
  rw [if_neg Bool.false_ne_true, if_pos (show (!false) = true from rfl)]
  refine wpAny_bind (wpAny_pure ?_)
  dsimp only
  refine wpAny_bind (wpAny_holding (wpAny_whole hp ?_))
  rw [if_neg (show ¬ ((0 : Int) == 1) = true from by decide)]
  refine wpAny_bind (wpAny_newList ?_)
  exact wpAny_pure ⟨plainId_quiet (by decide +kernel) _, h⟩

theorem Out.start (s : Shared) : Out s s.heap.objs.size [] { s with heap := s.heap.push { cls := .type "list", data := .seq #[] } } :=
  ⟨_, s.toks, rfl, ⟨0, Heap.get?_push_size _ rfl⟩, fun b o hb e => Heap.get?_push_of_some _ e⟩
theorem none_at_size (h : Heap) : h.get? h.objs.size = none := by
  cases e : h.get? h.objs.size with
  | none => rfl
  | some o => exact absurd (Heap.lt_size e) (Nat.lt_irrefl _)

/-- what the first pattern's sub makes of rows with any ends -/
theorem sub_fix (rows : List (List Nat × List Nat)) (hp : IsPat s.heap a code2) (hx : x.cps.toList = flat rows) (hr : ∀ r ∈ rows, OkRow r) (hn : rows.length ≤ 1000) (hz : (flat rows).length ≤ 10000)
    (h : ∀ h' t tk, (∀ b o, s.heap.get? b = some o → h'.get? b = some o) → Q (.str ⟨(fixed rows).toArray⟩ t) { s with heap := h', toks := tk }) :
    wpAny (model prog w) A (call (.builtin "re.Pattern.sub") [.ref a, .str crlf tr, .str x tx]) Q E s := by
  refine call_sub hp (by decide +kernel) ?_
  have hsz : x.cps.size = (flat rows).length := by rw [← hx]; rfl
  have hf : ∀ rows : List (List Nat × List Nat), (∀ r ∈ rows, OkRow r) → (fixed rows).length ≤ 2 * (flat rows).length := by
    intro rows hr
    induction rows with
    | nil => exact Nat.le_refl _
    | cons r rows ih =>
      have h1 := ih fun r' h => hr r' (.tail _ h)
      have h2 := (hr r (.head _)).len
      have h3 : 0 < r.1.length := List.length_pos_iff.mpr (hr r (.head _)).some
      unfold fixed flat at *
      rw [List.flatMap_cons, List.flatMap_cons]
      simp only [List.length_append, List.length_cons, List.length_nil]
      omega
  have hf := hf rows hr
  refine fix_rows (l := s.heap.objs.size) (s₀ := s) hp (none_at_size _) (by omega) rows [] [] 0 _ (by simpa using hx) hr (Out.start s) (by simp; omega) (by simp [cat]; omega) ?_
  intro h' t tk hk
  simpa [cat] using h h' t tk hk

/-- what the second pattern's sub makes of rows that end in both signs -/
theorem sub_dot (rows : List (List Nat)) (hp : IsPat s.heap a code1) (hx : x.cps.toList = lines rows) (hr : ∀ r ∈ rows, OkLine r) (hn : rows.length ≤ 1000) (hz : (lines rows).length ≤ 10000)
    (h : ∀ h' t tk, (∀ b o, s.heap.get? b = some o → h'.get? b = some o) → Q (.str ⟨(lines (rows.map dbl)).toArray⟩ t) { s with heap := h', toks := tk }) :
    wpAny (model prog w) A (call (.builtin "re.Pattern.sub") [.ref a, .str dots tr, .str x tx]) Q E s := by
  refine call_sub hp (by decide +kernel) ?_
  have hsz : x.cps.size = (lines rows).length := by rw [← hx]; rfl
  have hf : ∀ rows : List (List Nat), (lines (rows.map dbl)).length ≤ 2 * (lines rows).length := by
    intro rows
    induction rows with
    | nil => exact Nat.le_refl _
    | cons r rows ih =>
      have : (dbl r).length ≤ r.length + 1 := by unfold dbl; split <;> simp
      rw [List.map_cons, lines_cons, lines_cons]
      simp only [List.length_append, List.length_cons, List.length_nil]
      omega
  have hf := hf rows
  refine dot_rows (l := s.heap.objs.size) (s₀ := s) hp (none_at_size _) (by omega) rows [] [] [] 0 _ (by simpa using hx) hr (fun j h1 h2 => absurd h2 (by simp)) (by rfl) (Out.start s) (by simp; omega) (by simp [cat]; omega) ?_
  intro h' t tk hk
  simpa [cat] using h h' t tk hk
end
end Mine
end

section -- text BASE
theorem Mine.rows_off_BASE : True := by
  k_with_none
  trivial
open PySem PySem.W PyProof.Rows
set_option Elab.async false
set_option maxRecDepth 100000
set_option maxHeartbeats 8000000
namespace Mine
/-- what a call of a def does, from anywhere: k frames deep at most -/
abbrev Cl (k : Nat) (w : World) (loose : List Str) (mean : ExcName → Option Value) (mg mb : Str → Option Value) (f : Addr) (news : List (Addr × Obj)) (vs : List Value) (R : Tok → Value) : Prop :=
  ∀ (dp un : Nat) (gd : Option (List Code)) (cn : Str) (cs : Scope) (a : Addr) (ccd : Value) (cl : List (Str × Addr)) (outer : List Env) (A₀ : Around) (base h₀ : Heap) (L : Addr) (m : Str → Option Value) (H : Heap) (gs : Array GenState) (dr : Drawn) (tq : Nat) (oq : OsState) (Q E : Value → Shared → Prop),
    Below A₀ base outer h₀ → Fr h₀ L H m → (Mine.hd.heap_39 w.params).In h₀ → News h₀ L H news → Top Mine.hd.view_39 loose mean mg mb h₀ → cs.kind = .function →
    dp + k < recursionLimit → un + 20 * k < cLine → CbRet h₀ L m news ⟨H, gs, dr, tq, oq⟩ Q R →
      wpAny (model PySem.Challenge.rw_il0078_01.row.prog w) (ktrTop dp un gd cn cs L a ccd cl outer) (call (.ref f) vs) Q E ⟨H, gs, dr, tq, oq⟩
theorem use_cl {k : Nat} {w : World} {loose : List Str} {mean : ExcName → Option Value} {mg mb : Str → Option Value} {f : Addr} {news : List (Addr × Obj)} {vs : List Value} {R : Tok → Value} (C : Cl k w loose mean mg mb f news vs R)
    {dp un : Nat} {gd : Option (List Code)} {cn : Str} {cs : Scope} {a : Addr} {ccd : Value} {cl : List (Str × Addr)} {outer : List Env} {A₀ : Around} {base h₀ : Heap} {L : Addr} {m : Str → Option Value} {s : Shared} {Q E : Value → Shared → Prop}
    (B : Below A₀ base outer h₀) (F : Fr h₀ L s.heap m) (X : (Mine.hd.heap_39 w.params).In h₀) (N : News h₀ L s.heap news) (T : Top Mine.hd.view_39 loose mean mg mb h₀) (hk : cs.kind = .function) (hd : dp + k < recursionLimit) (hu : un + 20 * k < cLine)
    (hret : ∀ (t : Tok) (h' : Heap) (tk' : Nat), Fr h₀ L h' m → News h₀ L h' news → Q (R t) { s with heap := h', toks := tk' }) :
    wpAny (model PySem.Challenge.rw_il0078_01.row.prog w) (ktrTop dp un gd cn cs L a ccd cl outer) (call (.ref f) vs) Q E s :=
  C dp un gd cn cs a ccd cl outer A₀ base h₀ L m s.heap s.gens s.drawn s.toks s.os Q E B F X N T hk hd hu hret
/-- what a call does that hands back one new object -/
abbrev ClN (k : Nat) (w : World) (loose : List Str) (mean : ExcName → Option Value) (mg mb : Str → Option Value) (f : Addr) (news : List (Addr × Obj)) (vs : List Value) (P : Obj → Prop) : Prop :=
  ∀ (dp un : Nat) (gd : Option (List Code)) (cn : Str) (cs : Scope) (a : Addr) (ccd : Value) (cl : List (Str × Addr)) (outer : List Env) (A₀ : Around) (base h₀ : Heap) (L : Addr) (m : Str → Option Value) (H : Heap) (gs : Array GenState) (dr : Drawn) (tq : Nat) (oq : OsState) (Q E : Value → Shared → Prop),
    Below A₀ base outer h₀ → Fr h₀ L H m → (Mine.hd.heap_39 w.params).In h₀ → News h₀ L H news → Top Mine.hd.view_39 loose mean mg mb h₀ → cs.kind = .function →
    dp + k < recursionLimit → un + 20 * k < cLine → (∀ (T : Addr) (o : Obj) (h' : Heap) (tk' : Nat), P o → (∀ p ∈ news, p.1 < T) → Fr h₀ L h' m → News h₀ L h' ((T, o) :: news) → Q (.ref T) ⟨h', gs, dr, tk', oq⟩) →
      wpAny (model PySem.Challenge.rw_il0078_01.row.prog w) (ktrTop dp un gd cn cs L a ccd cl outer) (call (.ref f) vs) Q E ⟨H, gs, dr, tq, oq⟩
theorem use_cn {k : Nat} {w : World} {loose : List Str} {mean : ExcName → Option Value} {mg mb : Str → Option Value} {f : Addr} {news : List (Addr × Obj)} {vs : List Value} {P : Obj → Prop} (C : ClN k w loose mean mg mb f news vs P)
    {dp un : Nat} {gd : Option (List Code)} {cn : Str} {cs : Scope} {a : Addr} {ccd : Value} {cl : List (Str × Addr)} {outer : List Env} {A₀ : Around} {base h₀ : Heap} {L : Addr} {m : Str → Option Value} {s : Shared} {Q E : Value → Shared → Prop}
    (B : Below A₀ base outer h₀) (F : Fr h₀ L s.heap m) (X : (Mine.hd.heap_39 w.params).In h₀) (N : News h₀ L s.heap news) (T : Top Mine.hd.view_39 loose mean mg mb h₀) (hk : cs.kind = .function) (hd : dp + k < recursionLimit) (hu : un + 20 * k < cLine)
    (hret : ∀ (T : Addr) (o : Obj) (h' : Heap) (tk' : Nat), P o → (∀ p ∈ news, p.1 < T) → Fr h₀ L h' m → News h₀ L h' ((T, o) :: news) → Q (.ref T) { s with heap := h', toks := tk' }) :
    wpAny (model PySem.Challenge.rw_il0078_01.row.prog w) (ktrTop dp un gd cn cs L a ccd cl outer) (call (.ref f) vs) Q E s :=
  C dp un gd cn cs a ccd cl outer A₀ base h₀ L m s.heap s.gens s.drawn s.toks s.os Q E B F X N T hk hd hu hret
theorem cb_retQ {x y : Str} {t : Tok} {h₀ h' : Heap} {L : Addr} {m : Str → Option Value} {news : List (Addr × Obj)} {Q : Value → Shared → Prop} {gs : Array GenState} {dr : Drawn} {tk' : Nat} {oq : OsState}
    (hret : ∀ (t : Tok) (h' : Heap) (tk' : Nat), Fr h₀ L h' m → News h₀ L h' news → Q (.str x t) ⟨h', gs, dr, tk', oq⟩) (e : y = x) (F : Fr h₀ L h' m) (N : News h₀ L h' news) : Q (.str y t) ⟨h', gs, dr, tk', oq⟩ := by
  subst e
  exact hret t h' tk' F N
end Mine
end

section -- text USE2
theorem Mine.rows_off_USE2 : True := by
  k_with_none
  trivial
open PySem PySem.W PyProof.Rows
set_option Elab.async false
set_option maxRecDepth 100000
set_option maxHeartbeats 8000000
namespace Mine
theorem use_cl2 {k : Nat} {w : World} {loose : List Str} {mean : ExcName → Option Value} {mg mb : Str → Option Value} {f : Addr} {news : List (Addr × Obj)} {vs : List Value} {R : Tok → Value} 
    {dp un : Nat} {gd : Option (List Code)} {cn : Str} {cs : Scope} {a : Addr} {ccd : Value} {cl : List (Str × Addr)} {outer : List Env} {A₀ : Around} {base h₀ : Heap} {L : Addr} {m : Str → Option Value} {s : Shared} {Q E : Value → Shared → Prop}
    (B : Below A₀ base outer h₀) (F : Fr h₀ L s.heap m) (X : (Mine.hd.heap_39 w.params).In h₀) (N : News h₀ L s.heap news) (T : Top Mine.hd.view_39 loose mean mg mb h₀) (hk : cs.kind = .function) (hd : dp + k < recursionLimit) (hu : un + 20 * k < cLine)
    (C : Cl k w loose mean mg mb f news vs R)
    (hret : ∀ (t : Tok) (h' : Heap) (tk' : Nat), Fr h₀ L h' m → News h₀ L h' news → Q (R t) { s with heap := h', toks := tk' }) :
    wpAny (model PySem.Challenge.rw_il0078_01.row.prog w) (ktrTop dp un gd cn cs L a ccd cl outer) (call (.ref f) vs) Q E s :=
  C dp un gd cn cs a ccd cl outer A₀ base h₀ L m s.heap s.gens s.drawn s.toks s.os Q E B F X N T hk hd hu hret
theorem use_cn2 {k : Nat} {w : World} {loose : List Str} {mean : ExcName → Option Value} {mg mb : Str → Option Value} {f : Addr} {news : List (Addr × Obj)} {vs : List Value} {P : Obj → Prop} 
    {dp un : Nat} {gd : Option (List Code)} {cn : Str} {cs : Scope} {a : Addr} {ccd : Value} {cl : List (Str × Addr)} {outer : List Env} {A₀ : Around} {base h₀ : Heap} {L : Addr} {m : Str → Option Value} {s : Shared} {Q E : Value → Shared → Prop}
    (B : Below A₀ base outer h₀) (F : Fr h₀ L s.heap m) (X : (Mine.hd.heap_39 w.params).In h₀) (N : News h₀ L s.heap news) (T : Top Mine.hd.view_39 loose mean mg mb h₀) (hk : cs.kind = .function) (hd : dp + k < recursionLimit) (hu : un + 20 * k < cLine)
    (C : ClN k w loose mean mg mb f news vs P)
    (hret : ∀ (T : Addr) (o : Obj) (h' : Heap) (tk' : Nat), P o → (∀ p ∈ news, p.1 < T) → Fr h₀ L h' m → News h₀ L h' ((T, o) :: news) → Q (.ref T) { s with heap := h', toks := tk' }) :
    wpAny (model PySem.Challenge.rw_il0078_01.row.prog w) (ktrTop dp un gd cn cs L a ccd cl outer) (call (.ref f) vs) Q E s :=
  C dp un gd cn cs a ccd cl outer A₀ base h₀ L m s.heap s.gens s.drawn s.toks s.os Q E B F X N T hk hd hu hret
noncomputable def Back {α : Type} (Q' Q : α → Shared → Prop) : Prop := ∀ a s, Q a s → Q' a s
theorem hide_post {M : Model} {A : Around} {α : Type} {x : Sem α} {Q : α → Shared → Prop} {E : Value → Shared → Prop} {s : Shared} (h : ∀ Q', Back Q' Q → wpAny M A x Q' E s) : wpAny M A x Q E s := h Q fun _ _ e => e
noncomputable def OnTF (Q' : Bool → Shared → Prop) (X Y : Shared → Prop) : Prop := (∀ s, X s → Q' true s) ∧ ∀ s, Y s → Q' false s
theorem onT {Q' : Bool → Shared → Prop} {X Y : Shared → Prop} {s : Shared} (h : OnTF Q' X Y) (g : X s) : Q' true s := h.1 s g
theorem onF {Q' : Bool → Shared → Prop} {X Y : Shared → Prop} {s : Shared} (h : OnTF Q' X Y) (g : Y s) : Q' false s := h.2 s g
theorem hide_if {M : Model} {A : Around} {x : Sem Bool} {X Y : Shared → Prop} {E : Value → Shared → Prop} {s : Shared} (h : ∀ Q' : Bool → Shared → Prop, OnTF Q' X Y → wpAny M A x Q' E s) :
    wpAny M A x (fun b s => if b = true then X s else Y s) E s := h _ ⟨fun _ e => (if_pos rfl).mpr e, fun _ e => (if_neg Bool.false_ne_true).mpr e⟩
theorem dec_lt {n i : Nat} (h : i < n) : n + 1 - (i + 1) < n + 1 - i := Nat.sub_lt_sub_left (Nat.lt_succ_of_lt h) (Nat.lt_succ_self i)
theorem hideP {C : Prop} (h : ∀ G : Prop, (C → G) → G) : C := h C id
end Mine
end

section -- text ORD
theorem Mine.rows_off_ORD : True := by
  k_with_none
  trivial
open PySem PySem.W PyProof.Rows
set_option Elab.async false
set_option maxRecDepth 100000
namespace Mine
/-- all of a list lie below d -/
noncomputable def LtA (d : Nat) : List Nat → Prop
  | [] => True
  | a :: r => @LT.lt Nat _ a d ∧ LtA d r
theorem ltA_of {d : Addr} : ∀ {l : List (Addr × Obj)}, (∀ p ∈ l, p.1 < d) → LtA d (l.map (·.1))
  | [], _ => trivial
  | p :: _, h => ⟨h p (.head _), ltA_of fun q hq => h q (.tail _ hq)⟩
theorem ltA_mem {d a : Nat} {l : List Nat} : LtA d l → a ∈ l → a < d := by
  induction l with
  | nil => intro _ m; exact absurd m List.not_mem_nil
  | cons b r ih =>
    intro h m
    rcases List.mem_cons.mp m with e | m
    · rw [e]; exact h.1
    · exact ih h.2 m
theorem ltA_ne {d a : Nat} {l : List Nat} (h : LtA d l) (m : a ∈ l) : a ≠ d := Nat.ne_of_lt (ltA_mem h m)
theorem ltA_ne' {d a : Nat} {l : List Nat} (h : LtA d l) (m : a ∈ l) : d ≠ a := (ltA_ne h m).symm
theorem ixm {l : List Nat} {a : Nat} (k : Nat) (m : l[k]? = some a) : a ∈ l := List.mem_of_getElem? m
theorem cell_ne {n a b : Nat} (h : a ≠ b) : n + a ≠ n + b := fun e => h (Nat.add_left_cancel e)
end Mine
end

section -- text LOOP
theorem Mine.rows_off_LOOP : True := by
  k_with_none
  trivial
open PySem PySem.W PyProof.Rows
set_option Elab.async false
set_option maxRecDepth 100000
set_option maxHeartbeats 1000000
set_option linter.all false
namespace Mine
/-- how a turn of a loop may end -/
noncomputable def TurnPost (h₀ : Heap) (L : Addr) (J : Nat → (Str → Option Value) → List (Addr × Obj) → Prop) (i : Nat) (I : Addr) (oI : Obj) (s : Shared) (Q : Flow → Shared → Prop) (f : Flow) (s₂ : Shared) : Prop :=
  match f with
  | .ret v => Q (.ret v) s₂
  | .brk => Q .next s₂
  | _ => ∃ h' tk m' nx, s₂ = { s with heap := h', toks := tk } ∧ Fr h₀ L h' m' ∧ News h₀ L h' ((I, oI) :: nx) ∧ J i m' nx

section
variable {prog : Program} {w : World} {A : Around} {E : Value → Shared → Prop} {s : Shared} {env : Env} {h₀ : Heap} {x : Str} {body : List Stmt} {Q : Flow → Shared → Prop} {m₀ : Str → Option Value} {news : List (Addr × Obj)}

theorem loop_of {I : Addr} {fp : List Addr} {n : Nat} {P : Nat → Value → Prop} {St : Nat → Heap → Prop} (W : Walks prog w A I fp [I] n P St) (fo : List (Addr × Obj)) (J : Nat → (Str → Option Value) → List (Addr × Obj) → Prop)
    (hst : St 0 s.heap) (hIO : ∀ i h, St i h → ∃ o, h.get? I = some o) (hI : ∀ p ∈ news, p.1 ≠ I) (hI0 : h₀.get? I = none)
    (hfp : ∀ b ∈ fp, b = I ∨ (∃ o, (b, o) ∈ fo) ∨ (h₀.get? b).isSome = true) (hIfp : I ∈ fp) (hfl : env.locals ∉ fp) (F : Fr h₀ env.locals s.heap m₀) (N : News h₀ env.locals s.heap news) (hj : J 0 m₀ news)
    (hJ : ∀ i m nx, J i m nx → nx.map (·.1) = news.map (·.1) ∧ ∀ p ∈ fo, p ∈ nx)
    (turn : ∀ i v m₁ nx h tk oI, i < n → P i v → J i m₁ nx → Fr h₀ env.locals h (fun y => if y = x then some v else m₁ y) → News h₀ env.locals h ((I, oI) :: nx) →
      wpAny (model prog w) A (execs body env) (TurnPost h₀ env.locals J (i + 1) I oI s Q) E { s with heap := h, toks := tk })
    (done : ∀ m₁ nx h tk, J n m₁ nx → Fr h₀ env.locals h m₁ → News h₀ env.locals h nx → Q .next { s with heap := h, toks := tk }) :
    LoopAtV prog w A h₀ env x body Q E (.ref I) s := by
  refine ⟨I, fp, [I], n, P, St, m₀, news, J, rfl, W, hfl, ?_, ?_, hst, F, N, hj, ?_, ?_⟩
  · intro b hb; rw [List.mem_singleton.mp hb]; exact hI0
  · intro p hp hq; exact hI p hp (List.mem_singleton.mp hq)
  · rintro i v m₁ nx s₁ own ⟨h, tk, rfl⟩ hi hP hj' hoff hsub hget hall hst' F' N'
    obtain ⟨oI, hoI⟩ := hIO _ _ hst'
    have hmI : (I, oI) ∈ own := hall I hIfp hI0 oI hoI
    have N₁ : News h₀ env.locals h ((I, oI) :: nx) := fun p hp => by
      rcases List.mem_cons.mp hp with rfl | hp
      · exact N' _ (List.mem_append_left _ hmI)
      · exact N' _ (List.mem_append_right _ hp)
    have adr : ∀ {k m' nx'}, J k m' nx' → ∀ p ∈ nx', p.1 ≠ I := fun hj₂ p hp => by
      have h1 : p.1 ∈ List.map (·.1) news := (hJ _ _ _ hj₂).1 ▸ List.mem_map.mpr ⟨p, hp, rfl⟩
      obtain ⟨q, hq, e⟩ := List.mem_map.mp h1
      exact e ▸ hI q hq
    refine wpAny_mono (turn i v m₁ nx h tk oI hi hP hj' F' N₁) (fun f s₂ p => ?_) fun _ _ e => e
    have fin : (∃ h' tk' m' nx', s₂ = { s with heap := h', toks := tk' } ∧ Fr h₀ env.locals h' m' ∧ News h₀ env.locals h' ((I, oI) :: nx') ∧ J (i + 1) m' nx') →
        LoopStepU h₀ env.locals [I] own (J (i + 1)) { s with heap := h, toks := tk } .next s₂ := by
      rintro ⟨h', tk', m', nx', rfl, F₂, N₂, hj₂⟩
      refine ⟨rfl, h', tk', m', nx', rfl, F₂, fun p hp => ?_, fun p hp hq => adr hj₂ p hp (List.mem_singleton.mp hq), hj₂⟩
      rcases List.mem_append.mp hp with hp | hp
      · have hg := hget p hp
        rcases hfp _ (hsub p hp) with e | ⟨o, ho⟩ | e
        · obtain ⟨pa, po⟩ := p
          cases e
          have : po = oI := by
            have h2 : h.get? pa = some po := hg
            rw [hoI] at h2; exact (Option.some.inj h2).symm
          subst this
          exact N₂ _ (.head _)
        · have h3 := (N₁ _ (.tail _ ((hJ _ _ _ hj').2 _ ho))).1
          obtain ⟨pa, po⟩ := p
          have : po = o := by
            have h2 : h.get? pa = some po := hg
            have h3' : h.get? pa = some o := h3
            rw [h3'] at h2; exact (Option.some.inj h2).symm
          subst this
          exact N₂ _ (.tail _ ((hJ _ _ _ hj₂).2 _ ho))
        · have h4 := (N' p (List.mem_append_left _ hp)).2.2
          rw [h4] at e; cases e
      · exact N₂ p (.tail _ hp)
    cases f with
    | ret v => exact .ret p
    | brk => exact .brk p
    | next => exact .next (fin p)
    | cont => exact .cont (fin p)
  · intro h' tk m' nx' F' N' _ hj'
    exact done m' nx' h' tk hj' F' N'

theorem news_ne_size {L : Addr} {h : Heap} (N : News h₀ L h news) : ∀ p ∈ news, p.1 ≠ h.objs.size := fun p hp e => absurd (Heap.lt_size (N p hp).1) (by rw [e]; exact Nat.lt_irrefl _)
theorem new_none {L : Addr} {h : Heap} {m : Str → Option Value} (F : Fr h₀ L h m) : h₀.get? h.objs.size = none := by
  cases e : h₀.get? h.objs.size with
  | none => rfl
  | some o => exact absurd (Heap.lt_size (F.keep _ _ e)) (Nat.lt_irrefl _)
theorem News.past {L : Addr} {h : Heap} {m : Str → Option Value} (N : News h₀ L h news) (o : Obj) : News h₀ L (h.push o) news := fun p hp => ⟨Heap.get?_push_of_some _ (N p hp).1, (N p hp).2⟩

/-- a loop over a list of the call's own -/
theorem iter_lst {l : Addr} {vs : List Value} {n₀ : Nat} (J : Nat → (Str → Option Value) → List (Addr × Obj) → Prop) (hh : A.handled = none) (F : Fr h₀ env.locals s.heap m₀) (N : News h₀ env.locals s.heap news)
    (hl : (l, ({ cls := .type "list", data := .seq vs.toArray n₀ } : Obj)) ∈ news) (hj : J 0 m₀ news)
    (hJ : ∀ i m nx, J i m nx → nx.map (·.1) = news.map (·.1) ∧ (l, ({ cls := .type "list", data := .seq vs.toArray n₀ } : Obj)) ∈ nx)
    (turn : ∀ i v m₁ nx h tk I oI, (∀ p ∈ news, p.1 < I) → vs[i]? = some v → J i m₁ nx → Fr h₀ env.locals h (fun y => if y = x then some v else m₁ y) → News h₀ env.locals h ((I, oI) :: nx) →
      wpAny (model prog w) A (execs body env) (TurnPost h₀ env.locals J (i + 1) I oI s Q) E { s with heap := h, toks := tk })
    (done : ∀ m₁ nx h tk, J vs.length m₁ nx → Fr h₀ env.locals h m₁ → News h₀ env.locals h nx → Q .next { s with heap := h, toks := tk }) :
    wpAny (model prog w) A (pyIter (.ref l)) (fun it s₂ => LoopAtV prog w A h₀ env x body Q E it s₂) E s := by
  have hls : s.heap.IsList l vs.toArray := ⟨_, (N _ hl).1, rfl, n₀, rfl⟩
  have hne : l ≠ s.heap.objs.size := news_ne_size N _ hl
  refine wpAny_pyIter_list hls ?_
  have W := Walks.list (prog := prog) (w := w) hh s.heap.objs.size l hne vs.toArray
  have hsz : vs.toArray.size = vs.length := by simp
  rw [hsz] at W
  refine loop_of (s := { s with heap := s.heap.push _ }) W [(l, { cls := .type "list", data := .seq vs.toArray n₀ })] J ⟨⟨_, Heap.get?_push_size _ rfl, rfl, rfl⟩, hls.at fun o e => Heap.get?_push_of_some _ e⟩ (fun i h st => let ⟨o, ho, _⟩ := st.1; ⟨o, ho⟩)
    (news_ne_size N) (new_none F) ?_ (.head _) ?_ (F.push _) (News.past (m := m₀) N _) hj (fun i m nx h => ⟨(hJ i m nx h).1, fun p hp => List.mem_singleton.mp hp ▸ (hJ i m nx h).2⟩) ?_ done
  · intro b hb
    rcases List.mem_cons.mp hb with e | hb
    · exact .inl e
    · rw [List.mem_singleton.mp hb]; exact .inr (.inl ⟨_, .head _⟩)
  · intro hm
    rcases List.mem_cons.mp hm with e | hm
    · exact absurd F.ns.lt (e ▸ Nat.lt_irrefl _)
    · exact (N _ hl).2.1 (List.mem_singleton.mp hm).symm
  · intro i v m₁ nx h tk oI hi hP hj' F' N'
    exact turn i v m₁ nx h tk _ oI (fun p hp => Heap.lt_size (N p hp).1) (by simpa using hP) hj' F' N'

/-- how a turn ends that folds a list of texts -/
noncomputable def FoldPost (h₀ : Heap) (L : Addr) (x : Str) (m₀ : Str → Option Value) (I : Addr) (oI : Obj) (d : Addr) (rest : List (Addr × Obj)) (R : List Str) (s : Shared) (Q : Flow → Shared → Prop) (f : Flow) (s₂ : Shared) : Prop :=
  match f with
  | .ret v => Q (.ret v) s₂
  | .brk => Q .next s₂
  | _ => ∃ h' tk m' nc n, s₂ = { s with heap := h', toks := tk } ∧ Fr h₀ L h' m' ∧ (∀ y, y ≠ x → m' y = m₀ y) ∧ nc.map (·.1) = R ∧ News h₀ L h' ((I, oI) :: (d, W.listOf (strValues nc).toArray n) :: rest)
/-- a loop over a list of texts that folds another list of texts -/
theorem iter_foldS {lc d : Addr} {l nc₀ : List (Str × Tok)} {n₀ n₁ : Nat} {rest : List (Addr × Obj)} (g : List Str → Str → List Str) (hh : A.handled = none) (F : Fr h₀ env.locals s.heap m₀)
    (N : News h₀ env.locals s.heap ((d, W.listOf (strValues nc₀).toArray n₁) :: rest)) (hl : (lc, ({ cls := .type "list", data := .seq (strValues l).toArray n₀ } : Obj)) ∈ rest)
    (turn : ∀ i c t nc n h tk I oI, (∀ p ∈ (d, W.listOf (strValues nc₀).toArray n₁) :: rest, p.1 < I) → i < l.length → (c, t) ∈ l → nc.map (·.1) = ((l.map (·.1)).take i).foldl g (nc₀.map (·.1)) → Fr h₀ env.locals h (fun y => if y = x then some (.str c t) else m₀ y) →
      News h₀ env.locals h ((I, oI) :: (d, W.listOf (strValues nc).toArray n) :: rest) →
      wpAny (model prog w) A (execs body env) (FoldPost h₀ env.locals x m₀ I oI d rest (g (nc.map (·.1)) c) s Q) E { s with heap := h, toks := tk })
    (done : ∀ u nc n h tk, nc.map (·.1) = (l.map (·.1)).foldl g (nc₀.map (·.1)) → Fr h₀ env.locals h (fun y => if y = x then u else m₀ y) → News h₀ env.locals h ((d, W.listOf (strValues nc).toArray n) :: rest) → Q .next { s with heap := h, toks := tk }) :
    wpAny (model prog w) A (pyIter (.ref lc)) (fun it s₂ => LoopAtV prog w A h₀ env x body Q E it s₂) E s := by
  refine iter_lst (vs := strValues l) (n₀ := n₀) (fun i m nx => (∀ y, y ≠ x → m y = m₀ y) ∧ ∃ nc n, nc.map (·.1) = ((l.map (·.1)).take i).foldl g (nc₀.map (·.1)) ∧ nx = (d, W.listOf (strValues nc).toArray n) :: rest) hh F N (.tail _ hl)
    ⟨fun _ _ => rfl, nc₀, n₁, rfl, rfl⟩ ?_ ?_ ?_
  · rintro i m nx ⟨_, nc, n, _, rfl⟩
    exact ⟨rfl, .tail _ hl⟩
  · rintro i v m₁ nx h tk I oI hI hv ⟨hm, nc, n, hnc, rfl⟩ F₁ N₁
    have hi : i < l.length := by
      have := (List.getElem?_eq_some_iff.mp hv).1
      simpa [strValues] using this
    have hv' : v = .str l[i].1 l[i].2 := by
      have : (strValues l)[i]? = some (.str l[i].1 l[i].2) := by simp [strValues, hi]
      rw [this] at hv; exact (Option.some.inj hv).symm
    subst hv'
    have e : (fun y => if y = x then some (Value.str l[i].1 l[i].2) else m₁ y) = fun y => if y = x then some (Value.str l[i].1 l[i].2) else m₀ y := by
      funext y
      by_cases h1 : y = x
      · simp [h1]
      · simp only [if_neg h1]; exact hm y h1
    rw [e] at F₁
    refine wpAny_mono (turn i l[i].1 l[i].2 nc n h tk I oI hI hi (by show l[i] ∈ l; exact List.getElem_mem hi) hnc F₁ N₁) (fun f s₂ p => ?_) fun _ _ e => e
    have fin : (∃ h' tk m' nc' n', s₂ = { s with heap := h', toks := tk } ∧ Fr h₀ env.locals h' m' ∧ (∀ y, y ≠ x → m' y = m₀ y) ∧ nc'.map (·.1) = g (nc.map (·.1)) l[i].1 ∧ News h₀ env.locals h' ((I, oI) :: (d, W.listOf (strValues nc').toArray n') :: rest)) →
        ∃ h' tk m' nx', s₂ = { s with heap := h', toks := tk } ∧ Fr h₀ env.locals h' m' ∧ News h₀ env.locals h' ((I, oI) :: nx') ∧ ((∀ y, y ≠ x → m' y = m₀ y) ∧ ∃ nc n, nc.map (·.1) = ((l.map (·.1)).take (i + 1)).foldl g (nc₀.map (·.1)) ∧ nx' = (d, W.listOf (strValues nc).toArray n) :: rest) := by
      rintro ⟨h', tk', m', nc', n', rfl, F₂, hm₂, hR, N₂⟩
      refine ⟨h', tk', m', _, rfl, F₂, N₂, hm₂, nc', n', ?_, rfl⟩
      rw [hR, List.take_add_one, hnc]
      simp [hi]
    cases f with
    | ret v => exact p
    | brk => exact p
    | next => exact fin p
    | cont => exact fin p
  · rintro m₁ nx h tk ⟨hm, nc, n, hnc, rfl⟩ F₁ N₁
    have hlen : (strValues l).length = l.length := by simp [strValues]
    have e : m₁ = fun y => if y = x then m₁ x else m₀ y := by
      funext y
      by_cases h1 : y = x
      · simp [h1]
      · simp only [if_neg h1]; exact hm y h1
    rw [hlen] at hnc
    refine done (m₁ x) nc n h tk ?_ (e ▸ F₁) N₁
    rw [hnc, List.take_of_length_le (by simp)]
end
section
open PySem.Calls
variable {prog : Program} {w : World} {A : Around} {E : Value → Shared → Prop} {s : Shared} {h₀ : Heap} {L d : Addr} {m : Str → Option Value} {news news' : List (Addr × Obj)} {its : Array Value} {n : Nat}
theorem truthyN {b : Bool} {Q : Bool → Shared → Prop} (N : News h₀ L s.heap news) (hm : (d, W.listOf its n) ∈ news) (hf : its.size ≤ 10000000) (hb : (!its.isEmpty) = b) (h : ∀ tk', Q b { s with toks := tk' }) : wpAny (model prog w) A (truthy (.ref d)) Q E s :=
  wpAny_truthy_list ⟨_, (N _ hm).1, rfl, n, rfl⟩ (by omega) (hb ▸ h _)
theorem itemN {value slice : PySem.Expr} {k : Int} {u : Tok} {v : Value} {Q : Value → Shared → Prop} (N : News h₀ L s.heap news) (hm : (d, W.listOf its n) ∈ news) (h0 : k < 0) (h1 : -(its.size : Int) ≤ k) (h2 : -(2 ^ 63) ≤ k) (hx : its[(k + its.size).toNat]? = some v) (h : Q v s)
    (hs : subscripted slice false (.ref d) (.int k u) = operate [.ref d, .int k u] (getItem (.ref d) (.int k u))) :
    wpAny (model prog w) A (subscriptTail value slice (.ref d) (.int k u)) Q E s :=
  have hl : s.heap.IsList d its := ⟨_, (N _ hm).1, rfl, n, rfl⟩
  tail_any hl.typeIs slot_list_getitem.lookup (wpAny_getItem_list_neg hl h0 h1 h2 hx h) hs
theorem strs_last (nc : List (Str × Tok)) (c : Str) (t : Tok) : (strValues (nc ++ [(c, t)])).toArray[((-1 : Int) + (strValues (nc ++ [(c, t)])).toArray.size).toNat]? = some (.str c t) := by
  have e : ((-1 : Int) + (strValues (nc ++ [(c, t)])).toArray.size).toNat = nc.length := by simp [strValues]; omega
  rw [e]; simp [strValues]
theorem kl_last_snoc : ∀ (l : List Value) (v : Value), W.kl_last (l ++ [v]) = some (l, v)
  | [], v => rfl
  | x :: r, v => by
    show (match W.kl_last (r ++ [v]) with | some (p, y) => some (x :: p, y) | none => some ([], x)) = _
    rw [kl_last_snoc r v]
theorem strs_pop (nc : List (Str × Tok)) (c : Str) (t : Tok) : W.kl_last (strValues (nc ++ [(c, t)])).toArray.toList = some (strValues nc, .str c t) := by
  have : (strValues (nc ++ [(c, t)])).toArray.toList = strValues nc ++ [.str c t] := by simp [strValues]
  rw [this, kl_last_snoc]
theorem strs_some (nc : List (Str × Tok)) (c : Str) (t : Tok) : (!(strValues (nc ++ [(c, t)])).toArray.isEmpty) = true := by simp [strValues]
theorem strs_none : (!(strValues []).toArray.isEmpty) = false := rfl
theorem joinN {l : List (Str × Tok)} {x : Str} {t : Tok} {Q : Value → Shared → Prop} (N : News h₀ L s.heap news) (hm : (d, W.listOf (strValues l).toArray n) ∈ news) (hok : JoinOk x (l.map (·.1)) = true)
    (h : ∀ t' k, Q (.str (Txt.join x (l.map (·.1))) t') { s with toks := k }) : wpAny (model prog w) A (call (.builtin "str.join") [.str x t, .ref d]) Q E s :=
  SC.join ⟨_, (N _ hm).1, rfl, n, rfl⟩ rfl hok h
noncomputable def wsum (L : List Str) : Nat := (L.map fun y => y.length + 1).sum
theorem wsum_cons (x : Str) (L : List Str) : wsum (x :: L) = x.length + 1 + wsum L := by unfold wsum; simp
theorem wsum_append (L M : List Str) : wsum (L ++ M) = wsum L + wsum M := by unfold wsum; simp
theorem foldl_len1 (sep : Str) (h1 : sep.length = 1) (L : List Str) : ∀ n : Nat, L.foldl (fun a (y : Str) => a + y.length + sep.length) n = n + wsum L := by
  induction L with
  | nil => intro n; rfl
  | cons x r ih =>
    intro n
    rw [List.foldl_cons, ih, wsum_cons]
    omega
theorem joinOk_one {sep : Str} (h1 : sep.length = 1) {L : List Str} (h : wsum L ≤ sizeLine) : JoinOk sep L = true := by
  unfold JoinOk
  rw [Bool.not_eq_true', ← Array.foldl_toList, foldl_len1 sep h1]
  unfold Builtin.Str.tooLong
  exact decide_eq_false (by rw [Nat.zero_add]; exact Nat.not_lt.mpr h)
theorem join_len_one {sep : Str} (h1 : sep.length = 1) : ∀ (L : List Str), (Txt.join sep L).length ≤ wsum L := by
  intro L
  show (Builtin.Str.glued sep L).length ≤ _
  rw [size_glued, h1]
  have : (L.map (·.length)).sum + L.length = wsum L := by
    induction L with
    | nil => rfl
    | cons x r ih => rw [wsum_cons, List.map_cons, List.sum_cons, List.length_cons]; omega
  omega
end
section
variable {prog : Program} {w : World} {A : Around} {E : Value → Shared → Prop} {s : Shared} {env : Env} {h₀ : Heap} {x : Str} {body : List Stmt} {Q : Flow → Shared → Prop} {m₀ : Str → Option Value} {news : List (Addr × Obj)}
/-- what a loop over it asks, n turns, the i-th item as P says, fo staying in the ledger -/
noncomputable def Iters (prog : Program) (w : World) (A : Around) (E : Value → Shared → Prop) (s : Shared) (env : Env) (h₀ : Heap) (x : Str) (body : List Stmt) (Q : Flow → Shared → Prop) (m₀ : Str → Option Value) (news : List (Addr × Obj)) (it : Value) (n : Nat) (P : Nat → Value → Prop) (fo : List (Addr × Obj)) : Prop :=
  ∀ (J : Nat → (Str → Option Value) → List (Addr × Obj) → Prop), J 0 m₀ news → (∀ i m nx, J i m nx → nx.map (·.1) = news.map (·.1) ∧ ∀ p ∈ fo, p ∈ nx) →
    (∀ i v m₁ nx h tk I oI, (∀ p ∈ news, p.1 < I) → i < n → P i v → J i m₁ nx → Fr h₀ env.locals h (fun y => if y = x then some v else m₁ y) → News h₀ env.locals h ((I, oI) :: nx) →
      wpAny (model prog w) A (execs body env) (TurnPost h₀ env.locals J (i + 1) I oI s Q) E { s with heap := h, toks := tk }) →
    (∀ m₁ nx h tk, J n m₁ nx → Fr h₀ env.locals h m₁ → News h₀ env.locals h nx → Q .next { s with heap := h, toks := tk }) →
    wpAny (model prog w) A (pyIter it) (fun it s₂ => LoopAtV prog w A h₀ env x body Q E it s₂) E s
theorem iters_tup {l : Addr} {vs : List Value} {n₀ : Nat} (hh : A.handled = none) (F : Fr h₀ env.locals s.heap m₀) (N : News h₀ env.locals s.heap news)
    (hl : (l, ({ cls := .type "tuple", data := .seq vs.toArray n₀ } : Obj)) ∈ news) : Iters prog w A E s env h₀ x body Q m₀ news (.ref l) vs.length (fun i v => vs[i]? = some v) [(l, { cls := .type "tuple", data := .seq vs.toArray n₀ })] := by
  intro J hj hJ turn done
  have hls : s.heap.IsTuple l vs.toArray := ⟨_, (N _ hl).1, rfl, n₀, rfl⟩
  have hne : l ≠ s.heap.objs.size := news_ne_size N _ hl
  refine wpAny_pyIter_tuple hls ?_
  have W := Walks.tuple (prog := prog) (w := w) hh s.heap.objs.size l hne vs.toArray
  have hsz : vs.toArray.size = vs.length := by simp
  rw [hsz] at W
  refine loop_of (s := { s with heap := s.heap.push _ }) W [(l, { cls := .type "tuple", data := .seq vs.toArray n₀ })] J ⟨⟨_, Heap.get?_push_size _ rfl, rfl, rfl⟩, hls.at fun o e => Heap.get?_push_of_some _ e⟩ (fun i h st => let ⟨o, ho, _⟩ := st.1; ⟨o, ho⟩)
    (news_ne_size N) (new_none F) ?_ (.head _) ?_ (F.push _) (News.past (m := m₀) N _) hj hJ ?_ done
  · intro b hb
    rcases List.mem_cons.mp hb with e | hb
    · exact .inl e
    · rw [List.mem_singleton.mp hb]; exact .inr (.inl ⟨_, .head _⟩)
  · intro hm
    rcases List.mem_cons.mp hm with e | hm
    · exact absurd F.ns.lt (e ▸ Nat.lt_irrefl _)
    · exact (N _ hl).2.1 (List.mem_singleton.mp hm).symm
  · intro i v m₁ nx h tk oI hi hP hj' F' N'
    exact turn i v m₁ nx h tk _ oI (fun p hp => Heap.lt_size (N p hp).1) hi (by simpa using hP) hj' F' N'

/-- how a turn ends that folds a text -/
noncomputable def TextPost (h₀ : Heap) (L : Addr) (x z : Str) (m₀ : Str → Option Value) (I : Addr) (oI : Obj) (news : List (Addr × Obj)) (R : Str) (s : Shared) (Q : Flow → Shared → Prop) (f : Flow) (s₂ : Shared) : Prop :=
  match f with
  | .ret v => Q (.ret v) s₂
  | .brk => Q .next s₂
  | _ => ∃ h' tk m', s₂ = { s with heap := h', toks := tk } ∧ Fr h₀ L h' m' ∧ News h₀ L h' ((I, oI) :: news) ∧ (∀ y, y ≠ x → y ≠ z → m' y = m₀ y) ∧ ∃ t, m' z = some (.str R t)

theorem iter_foldT {it : Value} {n : Nat} {P : Nat → Value → Prop} {fo : List (Addr × Obj)} (T : Iters prog w A E s env h₀ x body Q m₀ news it n P fo) (hfo : ∀ p ∈ fo, p ∈ news) (z : Str) (hzx : z ≠ x) (G : Nat → Str) (t₀ : Tok) (hz : m₀ z = some (.str (G 0) t₀))
    (turn : ∀ i v t h tk I oI, (∀ p ∈ news, p.1 < I) → i < n → P i v → Fr h₀ env.locals h (fun y => if y = x then some v else if y = z then some (.str (G i) t) else m₀ y) → News h₀ env.locals h ((I, oI) :: news) →
      wpAny (model prog w) A (execs body env) (TextPost h₀ env.locals x z m₀ I oI news (G (i + 1)) s Q) E { s with heap := h, toks := tk })
    (done : ∀ u t h tk, Fr h₀ env.locals h (fun y => if y = x then u else if y = z then some (.str (G n) t) else m₀ y) → News h₀ env.locals h news → Q .next { s with heap := h, toks := tk }) :
    wpAny (model prog w) A (pyIter it) (fun it s₂ => LoopAtV prog w A h₀ env x body Q E it s₂) E s := by
  refine T (fun i m nx => nx = news ∧ (∀ y, y ≠ x → y ≠ z → m y = m₀ y) ∧ ∃ t, m z = some (.str (G i) t)) ⟨rfl, fun _ _ _ => rfl, t₀, hz⟩ ?_ ?_ ?_
  · rintro i m nx ⟨rfl, _⟩; exact ⟨rfl, hfo⟩
  · rintro i v m₁ nx h tk I oI hI hi hP ⟨rfl, hm, t, ht⟩ F₁ N₁
    have e : (fun y => if y = x then some v else m₁ y) = fun y => if y = x then some v else if y = z then some (.str (G i) t) else m₀ y := by
      funext y
      by_cases h1 : y = x
      · simp [h1]
      · simp only [if_neg h1]
        by_cases h2 : y = z
        · subst h2; simp [ht]
        · simp only [if_neg h2]; exact hm y h1 h2
    rw [e] at F₁
    refine wpAny_mono (turn i v t h tk I oI hI hi hP F₁ N₁) (fun f s₂ p => ?_) fun _ _ e => e
    cases f with
    | ret v => exact p
    | brk => exact p
    | next => obtain ⟨h', tk', m', rfl, a, b, c, t', d⟩ := p; exact ⟨h', tk', m', nx, rfl, a, b, rfl, c, t', d⟩
    | cont => obtain ⟨h', tk', m', rfl, a, b, c, t', d⟩ := p; exact ⟨h', tk', m', nx, rfl, a, b, rfl, c, t', d⟩
  · rintro m₁ nx h tk ⟨rfl, hm, t, ht⟩ F₁ N₁
    have e : m₁ = fun y => if y = x then m₁ x else if y = z then some (.str (G n) t) else m₀ y := by
      funext y
      by_cases h1 : y = x
      · simp [h1]
      · simp only [if_neg h1]
        by_cases h2 : y = z
        · subst h2; simp [ht]
        · simp only [if_neg h2]; exact hm y h1 h2
    exact done (m₁ x) t h tk (e ▸ F₁) N₁

theorem iters_rng {r : Addr} {a b c : Int} {t u v : Tok} {n : Nat} (hh : A.handled = none) (F : Fr h₀ env.locals s.heap m₀) (N : News h₀ env.locals s.heap news) (hr : IsRange s.heap r a b c t u v) (hsmall : Builtin.Range.small a b c = true)
    (hn : Builtin.Range.rangeSize a b c = n) : Iters prog w A E s env h₀ x body Q m₀ news (.ref r) n (fun i v => ∃ t, v = .int (a + i * c) t) [] := by
  intro J hj hJ turn done
  refine wpAny_pyIter_range hr hsmall ?_
  have W := Walks.range (prog := prog) (w := w) hh s.heap.objs.size a c n
  refine loop_of (s := { s with heap := s.heap.push _ }) W [] J ?_ (fun i h st => ⟨_, st⟩) (news_ne_size N) (new_none F) ?_ (.head _) ?_ (F.push _) (News.past (m := m₀) N _) hj hJ ?_ done
  · show IsRangeIter _ _ (a + ((0 : Nat) : Int) * c) ((n : Int) - ((0 : Nat) : Int)) c
    have e1 : a + ((0 : Nat) : Int) * c = a := by simp
    have e2 : (n : Int) - ((0 : Nat) : Int) = Builtin.Range.rangeSize a b c := by rw [hn]; simp
    rw [e1, e2]
    exact Heap.get?_push_size _ rfl
  · intro b hb; exact .inl (List.mem_singleton.mp hb)
  · intro hm
    exact absurd F.ns.lt (List.mem_singleton.mp hm ▸ Nat.lt_irrefl _)
  · intro i v m₁ nx h tk oI hi hP hj' F' N'
    exact turn i v m₁ nx h tk _ oI (fun p hp => Heap.lt_size (N p hp).1) hi hP hj' F' N'

/-- how a turn ends that folds a list of texts and an int -/
noncomputable def LIPost (h₀ : Heap) (L : Addr) (x z y' : Str) (m₀ : Str → Option Value) (I : Addr) (oI : Obj) (d : Addr) (rest : List (Addr × Obj)) (R : List Str × Int) (s : Shared) (Q : Flow → Shared → Prop) (f : Flow) (s₂ : Shared) : Prop :=
  match f with
  | .ret v => Q (.ret v) s₂
  | .brk => Q .next s₂
  | _ => ∃ h' tk m' nc n, s₂ = { s with heap := h', toks := tk } ∧ Fr h₀ L h' m' ∧ News h₀ L h' ((I, oI) :: (d, W.listOf (strValues nc).toArray n) :: rest) ∧ nc.map (·.1) = R.1 ∧ (∀ y, y ≠ x → y ≠ z → y ≠ y' → m' y = m₀ y) ∧ ∃ t, m' z = some (.int R.2 t)

theorem iter_foldLI {it : Value} {n : Nat} {P : Nat → Value → Prop} {d : Addr} {nc₀ : List (Str × Tok)} {n₁ : Nat} {rest : List (Addr × Obj)} (z y' : Str) (hzx : z ≠ x) (hzy : z ≠ y') (hyx : y' ≠ x) (G : Nat → List Str × Int)
    (T : Iters prog w A E s env h₀ x body Q m₀ ((d, W.listOf (strValues nc₀).toArray n₁) :: rest) it n P []) (hg : nc₀.map (·.1) = (G 0).1) (hz : ∃ t₀, m₀ z = some (.int (G 0).2 t₀))
    (turn : ∀ i v nc n' t u h tk I oI, (∀ p ∈ (d, W.listOf (strValues nc₀).toArray n₁) :: rest, p.1 < I) → i < n → P i v → nc.map (·.1) = (G i).1 → Fr h₀ env.locals h (fun y => if y = x then some v else if y = y' then u else if y = z then some (.int (G i).2 t) else m₀ y) → News h₀ env.locals h ((I, oI) :: (d, W.listOf (strValues nc).toArray n') :: rest) →
      wpAny (model prog w) A (execs body env) (LIPost h₀ env.locals x z y' m₀ I oI d rest (G (i + 1)) s Q) E { s with heap := h, toks := tk })
    (done : ∀ u u' t nc n' h tk, nc.map (·.1) = (G n).1 → Fr h₀ env.locals h (fun y => if y = x then u else if y = y' then u' else if y = z then some (.int (G n).2 t) else m₀ y) → News h₀ env.locals h ((d, W.listOf (strValues nc).toArray n') :: rest) → Q .next { s with heap := h, toks := tk }) :
    wpAny (model prog w) A (pyIter it) (fun it s₂ => LoopAtV prog w A h₀ env x body Q E it s₂) E s := by
  have shape : ∀ {m₁ : Str → Option Value} {k : Int} {t : Tok} (u : Option Value), (∀ y, y ≠ x → y ≠ z → y ≠ y' → m₁ y = m₀ y) → m₁ z = some (.int k t) → (fun y => if y = x then u else m₁ y) = fun y => if y = x then u else if y = y' then m₁ y' else if y = z then some (.int k t) else m₀ y := by
    intro m₁ k t u hm ht
    funext y
    by_cases h1 : y = x
    · simp [h1]
    · simp only [if_neg h1]
      by_cases h3 : y = y'
      · subst h3; simp
      · simp only [if_neg h3]
        by_cases h2 : y = z
        · subst h2; simp [ht]
        · simp only [if_neg h2]; exact hm y h1 h2 h3
  refine T (fun i m nx => (∀ y, y ≠ x → y ≠ z → y ≠ y' → m y = m₀ y) ∧ (∃ t, m z = some (.int (G i).2 t)) ∧ ∃ nc n', nc.map (·.1) = (G i).1 ∧ nx = (d, W.listOf (strValues nc).toArray n') :: rest) ⟨fun _ _ _ _ => rfl, hz, nc₀, n₁, hg, rfl⟩ ?_ ?_ ?_
  · rintro i m nx ⟨_, _, nc, n', _, rfl⟩; exact ⟨rfl, fun p hp => nomatch hp⟩
  · rintro i v m₁ nx h tk I oI hI hi hP ⟨hm, ⟨t, ht⟩, nc, n', hnc, rfl⟩ F₁ N₁
    rw [shape (some v) hm ht] at F₁
    refine wpAny_mono (turn i v nc n' t (m₁ y') h tk I oI hI hi hP hnc F₁ N₁) (fun f s₂ p => ?_) fun _ _ e => e
    cases f with
    | ret v => exact p
    | brk => exact p
    | next => obtain ⟨h', tk', m', nc', k', rfl, a, b, c, e, f⟩ := p; exact ⟨h', tk', m', _, rfl, a, b, e, f, nc', k', c, rfl⟩
    | cont => obtain ⟨h', tk', m', nc', k', rfl, a, b, c, e, f⟩ := p; exact ⟨h', tk', m', _, rfl, a, b, e, f, nc', k', c, rfl⟩
  · rintro m₁ nx h tk ⟨hm, ⟨t, ht⟩, nc, n', hnc, rfl⟩ F₁ N₁
    have e : m₁ = fun y => if y = x then m₁ x else if y = y' then m₁ y' else if y = z then some (.int (G n).2 t) else m₀ y := by
      rw [← shape (m₁ x) hm ht]
      funext y
      by_cases h1 : y = x <;> simp [h1]
    exact done (m₁ x) (m₁ y') t nc n' h tk hnc (e ▸ F₁) N₁
end
section
open PySem.Calls
variable {prog : Program} {w : World} {A : Around} {E : Value → Shared → Prop} {s : Shared} {h₀ : Heap} {L d b : Addr} {m : Str → Option Value} {news : List (Addr × Obj)} {n n2 : Nat}
theorem updF_upd {d : Addr} {o : Obj} {l : List (Addr × Obj)} {g : Obj → List (Addr × Obj)} (h : W.UpdF d o l g) (o' : Obj) : W.Upd d o o' l (g o') := by
  induction h with
  | head h => exact .head h
  | tail h _ ih => exact .tail h ih
theorem rep_one (v : Value) : ∀ k : Nat, List.foldl (fun x1 x2 => x1 ++ x2) #[] (List.replicate k (#[v] : Array Value)) = (List.replicate k v).toArray := by
  have : ∀ (k : Nat) (a : Array Value), List.foldl (fun x1 x2 => x1 ++ x2) a (List.replicate k (#[v] : Array Value)) = a ++ (List.replicate k v).toArray := by
    intro k
    induction k with
    | zero => intro a; simp
    | succ k ih => intro a; rw [List.replicate_succ, List.foldl_cons, ih, List.replicate_succ]; simp [← Array.toList_inj]
  intro k
  rw [this k #[]]; simp
theorem mulK {S : Str} {t : Tok} {x : Int} {u : Tok} {Q : Value → Shared → Prop} (F : Fr h₀ L s.heap m) (N : News h₀ L s.heap news) (hm : (d, W.listOf #[.str S t] n) ∈ news) (h0 : 0 ≤ x) (h1 : x ≤ 1000)
    (h : ∀ D h', Fr h₀ L h' m → News h₀ L h' ((D, W.listOf (strValues (List.replicate x.toNat (S, t))).toArray 0) :: news) → (∀ p ∈ news, p.1 < D) → Q (.ref D) { s with heap := h' }) :
    wpAny (model prog w) A (binaryOp .Mult (.ref d) (.int x u)) Q E s :=
  mul_list F N (N _ hm).1 (by omega) (by omega) (by simp; omega) fun h' F' N' => by
    refine h _ h' F' ?_ fun p hp => Heap.lt_size (N p hp).1
    have e : (if (#[Value.str S t] : Array Value).isEmpty = true then 0 else x.toNat) = x.toNat := rfl
    rw [e, rep_one] at N'
    have e2 : List.replicate x.toNat (Value.str S t) = strValues (List.replicate x.toNat (S, t)) := by unfold strValues; rw [List.map_replicate]
    rw [e2] at N'
    exact N'
theorem extK {nc r : List (Str × Tok)} {g : Obj → List (Addr × Obj)} {Q : Value → Shared → Prop} (F : Fr h₀ L s.heap m) (N : News h₀ L s.heap news) (hb : (b, W.listOf (strValues r).toArray n2) ∈ news) (U : W.UpdF d (W.listOf (strValues nc).toArray n) news g) (hz : nc.length + r.length ≤ 1000)
    (h : ∀ n' h', Fr h₀ L h' m → News h₀ L h' (g (W.listOf (strValues (nc ++ r)).toArray n')) → Q .none { s with heap := h' }) : wpAny (model prog w) A (call (.builtin "list.extend") [.ref d, .ref b]) Q E s := by
  have hlen : ∀ l : List (Str × Tok), (strValues l).toArray.size = l.length := fun l => by simp [strValues]
  have hlong : ∀ k : Nat, k ≤ 1000 → Builtin.List.listTooLong k = false := fun k hk => by
    unfold Builtin.List.listTooLong
    exact decide_eq_false (by rw [sizeLine_eq]; omega)
  have hd : ¬ (!(strValues nc).toArray.isEmpty && Builtin.List.listTooLong ((strValues nc).toArray.size + (strValues r).toArray.size)) = true := by
    rw [hlen, hlen, hlong _ hz, Bool.and_false]; exact Bool.false_ne_true
  have hz1 : (strValues nc).toArray.toList.length ≤ sizeLine := by rw [sizeLine_eq]; simp [strValues]; omega
  have hz2 : (strValues nc).toArray.size + (strValues r).toArray.size ≤ sizeLine + 1 := by rw [hlen, hlen, sizeLine_eq]; omega
  cases r with
  | nil =>
    have e : nc ++ [] = nc := List.append_nil nc
    rw [e] at h
    exact W.kxn_extend F N hb rfl (updF_upd U _) hd hz1 hz2 fun h' F' N' => h n h' F' N'
  | cons p r =>
    exact W.kl_extend (l := strValues (nc ++ p :: r)) F N hb (by simp [strValues]) (by simp [strValues]) (updF_upd U _) hd hz1 hz2 fun h' F' N' => h (n + 1) h' F' N'
theorem revK {nc : List (Str × Tok)} {value slice : PySem.Expr} {vk : Value} {ops : List Value} {Q : Value → Shared → Prop} (F : Fr h₀ L s.heap m) (N : News h₀ L s.heap news) (hm : (d, W.listOf (strValues nc).toArray n) ∈ news) (pk : IsPart vk (some (-1))) (hz : (strValues nc).length ≤ 1000)
    (h : ∀ D h', Fr h₀ L h' m → News h₀ L h' ((D, W.listOf (strValues nc.reverse).toArray 0) :: news) → (∀ p ∈ news, p.1 < D) → Q (.ref D) { s with heap := h' })
    (hs : subscripted slice false (.ref d) (.ref s.heap.objs.size) = operate ops (getItem (.ref d) (.ref s.heap.objs.size))) (ht : ∀ r, letTemporaryGo value (.ref d) r = pure ()) :
    wpAny (model prog w) A (subscriptTail value slice (.ref d) (.ref s.heap.objs.size)) Q E { s with heap := s.heap.push { cls := .type "slice", data := .fields #[.none, .none, vk] } } :=
  W.krv_lit (its := (strValues nc).toArray) (zs := strValues nc.reverse) F N ⟨_, (N _ hm).1, rfl, n, rfl⟩ pk (by simp [strValues]) h hs ht (by rw [List.size_toArray, sizeLine_eq]; omega)
end
end Mine
end

section -- text USE3
theorem Mine.rows_off_USE3 : True := by
  k_with_none
  trivial
open PySem PySem.W PyProof.Rows
set_option Elab.async false
set_option maxRecDepth 100000
set_option maxHeartbeats 1000000
set_option linter.all false
namespace Mine
section
open PySem.Calls
variable {prog : Program} {w : World} {A : Around} {E : Value → Shared → Prop} {s : Shared} {h₀ : Heap} {L d : Addr} {m : Str → Option Value} {news news' : List (Addr × Obj)} {n : Nat} {nc : List (Str × Tok)} {c : Str} {t : Tok}
theorem truthyNil {Q : Bool → Shared → Prop} (N : News h₀ L s.heap news) (hm : (d, W.listOf (strValues []).toArray n) ∈ news) (h : ∀ tk', Q false { s with toks := tk' }) : wpAny (model prog w) A (truthy (.ref d)) Q E s :=
  truthyN N hm (Nat.zero_le _) strs_none h
theorem truthySnoc {Q : Bool → Shared → Prop} (N : News h₀ L s.heap news) (hm : (d, W.listOf (strValues (nc ++ [(c, t)])).toArray n) ∈ news) (hf : (strValues (nc ++ [(c, t)])).toArray.size ≤ 10000000) (h : ∀ tk', Q true { s with toks := tk' }) : wpAny (model prog w) A (truthy (.ref d)) Q E s :=
  truthyN N hm hf (strs_some _ _ _) h
theorem itemLast {value slice : PySem.Expr} {u : Tok} {Q : Value → Shared → Prop} (N : News h₀ L s.heap news) (hm : (d, W.listOf (strValues (nc ++ [(c, t)])).toArray n) ∈ news) (h : Q (.str c t) s)
    (hs : subscripted slice false (.ref d) (.int (-1) u) = operate [.ref d, .int (-1) u] (getItem (.ref d) (.int (-1) u))) :
    wpAny (model prog w) A (subscriptTail value slice (.ref d) (.int (-1) u)) Q E s :=
  itemN N hm (by decide) (by simp only [strValues, List.size_toArray, List.length_map, List.length_append, List.length_cons, List.length_nil]; omega) (by decide) (strs_last _ _ _) h hs
theorem popLast {Q : Value → Shared → Prop} (F : Fr h₀ L s.heap m) (N : News h₀ L s.heap news) (U : Upd d (W.listOf (strValues (nc ++ [(c, t)])).toArray n) (W.listOf (strValues nc).toArray (n + 1)) news news')
    (hz : (strValues (nc ++ [(c, t)])).length ≤ sizeLine) (h : ∀ h', Fr h₀ L h' m → News h₀ L h' news' → Q (.str c t) { s with heap := h' }) : wpAny (model prog w) A (call (.builtin "list.pop") [.ref d]) Q E s :=
  kl_pop F N (strs_pop _ _ _) U hz h
theorem revK2 {value slice : PySem.Expr} {vk : Value} {ops : List Value} {Q : Value → Shared → Prop} (F : Fr h₀ L s.heap m) (N : News h₀ L s.heap news) (hm : (d, W.listOf (strValues nc).toArray n) ∈ news) (hz : (strValues nc).length ≤ 1000) (pk : IsPart vk (some (-1)))
    (ht : ∀ r, letTemporaryGo value (.ref d) r = pure ()) (hs : subscripted slice false (.ref d) (.ref s.heap.objs.size) = operate ops (getItem (.ref d) (.ref s.heap.objs.size)))
    (h : ∀ D h', Fr h₀ L h' m → News h₀ L h' ((D, W.listOf (strValues nc.reverse).toArray 0) :: news) → (∀ p ∈ news, p.1 < D) → Q (.ref D) { s with heap := h' }) :
    wpAny (model prog w) A (subscriptTail value slice (.ref d) (.ref s.heap.objs.size)) Q E { s with heap := s.heap.push { cls := .type "slice", data := .fields #[.none, .none, vk] } } :=
  revK F N hm pk hz h hs ht
end
end Mine
end

section -- text TURNS
theorem Mine.rows_off_TURNS : True := by
  k_with_none
  trivial
open PySem PySem.W PyProof.Rows
set_option Elab.async false
set_option maxRecDepth 100000
set_option maxHeartbeats 1000000
set_option linter.all false
namespace Mine
section
variable {prog : Program} {w : World} {A : Around} {E : Value → Shared → Prop} {s : Shared} {env : Env} {h₀ : Heap} {target : Expr} {body : List Stmt} {Q : Flow → Shared → Prop} {m₀ : Str → Option Value} {news : List (Addr × Obj)}
/-- how a turn of a loop may end, the iterator's objects in the ledger -/
noncomputable def TurnPostW (h₀ : Heap) (L : Addr) (J : Nat → (Str → Option Value) → List (Addr × Obj) → Prop) (i : Nat) (os : List (Addr × Obj)) (s : Shared) (Q : Flow → Shared → Prop) (f : Flow) (s₂ : Shared) : Prop :=
  match f with
  | .ret v => Q (.ret v) s₂
  | .brk => Q .next s₂
  | _ => ∃ h' tk m' nx, s₂ = { s with heap := h', toks := tk } ∧ Fr h₀ L h' m' ∧ News h₀ L h' (os ++ nx) ∧ J i m' nx
theorem turns_of {I : Addr} {fp ws : List Addr} {n : Nat} {P Md : Nat → Value → Heap → Prop} {St : Nat → Heap → Prop} (WK : W.KTurns prog w A target I fp ws n P Md St) (fo : List (Addr × Obj)) (J : Nat → (Str → Option Value) → List (Addr × Obj) → Prop)
    (hst : St 0 s.heap) (hIO : ∀ i h, St i h → ∃ os : List (Addr × Obj), os.map (·.1) = ws ∧ ∀ p ∈ os, h.get? p.1 = some p.2) (hI : ∀ p ∈ news, p.1 ∉ ws) (hI0 : ∀ b ∈ ws, h₀.get? b = none)
    (hfp : ∀ b ∈ fp, b ∈ ws ∨ (∃ o, (b, o) ∈ fo) ∨ (h₀.get? b).isSome = true) (hfl : env.locals ∉ fp) (F : Fr h₀ env.locals s.heap m₀) (N : News h₀ env.locals s.heap news) (hj : J 0 m₀ news)
    (hJ : ∀ i m nx, J i m nx → nx.map (·.1) = news.map (·.1) ∧ ∀ p ∈ fo, p ∈ nx)
    (turn : ∀ i v m₁ nx h tk os, os.map (·.1) = ws → i < n → P i v h → J i m₁ nx → Fr h₀ env.locals h m₁ → News h₀ env.locals h (os ++ nx) →
      wpAny (model prog w) A (assign target env v) (fun _ s₃ => wpAny (model prog w) A (execs body env) (TurnPostW h₀ env.locals J (i + 1) os s Q) E s₃) E { s with heap := h, toks := tk })
    (done : ∀ m₁ nx h tk, J n m₁ nx → Fr h₀ env.locals h m₁ → News h₀ env.locals h nx → Q .next { s with heap := h, toks := tk }) :
    W.TurnsAt prog w A h₀ env target body Q E (.ref I) s := by
  refine ⟨I, fp, ws, n, P, Md, St, m₀, news, J, rfl, WK, hfl, hI0, hI, hst, F, N, hj, ?_, ?_⟩
  · rintro i v m₁ nx h tk own hi hP hj' hoff hsub hget hall hst' F' N'
    obtain ⟨os, hos, hog⟩ := hIO _ _ hst'
    have hmI : ∀ p ∈ os, p ∈ own := fun p hp => by
      have hb : p.1 ∈ ws := hos ▸ List.mem_map.mpr ⟨p, hp, rfl⟩
      exact hall p.1 (WK.sub _ hb) (hI0 _ hb) p.2 (hog p hp)
    have N₁ : News h₀ env.locals h (os ++ nx) := fun p hp => by
      rcases List.mem_append.mp hp with hp | hp
      · exact N' _ (List.mem_append_left _ (hmI p hp))
      · exact N' _ (List.mem_append_right _ hp)
    have adr : ∀ {k m' nx'}, J k m' nx' → ∀ p ∈ nx', p.1 ∉ ws := fun hj₂ p hp => by
      have h1 : p.1 ∈ List.map (·.1) news := (hJ _ _ _ hj₂).1 ▸ List.mem_map.mpr ⟨p, hp, rfl⟩
      obtain ⟨q, hq, e⟩ := List.mem_map.mp h1
      exact e ▸ hI q hq
    refine wpAny_mono (turn i v m₁ nx h tk os hos hi hP hj' F' N₁) (fun _ s₃ h₃ => wpAny_mono h₃ (fun f s₂ p => ?_) fun _ _ e => e) fun _ _ e => e
    have fin : (∃ h' tk' m' nx', s₂ = { s with heap := h', toks := tk' } ∧ Fr h₀ env.locals h' m' ∧ News h₀ env.locals h' (os ++ nx') ∧ J (i + 1) m' nx') →
        LoopStepU h₀ env.locals ws own (J (i + 1)) { s with heap := h, toks := tk } .next s₂ := by
      rintro ⟨h', tk', m', nx', rfl, F₂, N₂, hj₂⟩
      refine ⟨rfl, h', tk', m', nx', rfl, F₂, fun p hp => ?_, adr hj₂, hj₂⟩
      rcases List.mem_append.mp hp with hp | hp
      · have hg := hget p hp
        rcases hfp _ (hsub p hp) with e | ⟨o, ho⟩ | e
        · obtain ⟨q, hq, hqe⟩ := List.mem_map.mp (hos ▸ e : p.1 ∈ os.map (·.1))
          have h3 := hog q hq
          have : p = q := by
            obtain ⟨pa, po⟩ := p; obtain ⟨qa, qo⟩ := q
            have hqe' : qa = pa := hqe
            subst hqe'
            have h2 : h.get? qa = some po := hg
            have h4 : h.get? qa = some qo := h3
            rw [h4] at h2
            rw [Option.some.inj h2]
          subst this
          exact N₂ _ (List.mem_append_left _ hq)
        · have h3 := (N₁ _ (List.mem_append_right _ ((hJ _ _ _ hj').2 _ ho))).1
          obtain ⟨pa, po⟩ := p
          have : po = o := by
            have h2 : h.get? pa = some po := hg
            have h3' : h.get? pa = some o := h3
            rw [h3'] at h2; exact (Option.some.inj h2).symm
          subst this
          exact N₂ _ (List.mem_append_right _ ((hJ _ _ _ hj₂).2 _ ho))
        · have h4 := (N' p (List.mem_append_left _ hp)).2.2
          rw [h4] at e; cases e
      · exact N₂ p (List.mem_append_right _ hp)
    cases f with
    | ret v => exact .ret p
    | brk => exact .brk p
    | next => exact .next (fin p)
    | cont => exact .cont (fin p)
  · intro h' tk m' nx' F' N' _ hj'
    exact done m' nx' h' tk hj' F' N'

/-- a loop with any target over a tuple of the call's own -/
theorem turns_tup {l : Addr} {vs : List Value} {n₀ : Nat} (J : Nat → (Str → Option Value) → List (Addr × Obj) → Prop) (hh : A.handled = none) (F : Fr h₀ env.locals s.heap m₀) (N : News h₀ env.locals s.heap news)
    (hl : (l, ({ cls := .type "tuple", data := .seq vs.toArray n₀ } : Obj)) ∈ news) (hj : J 0 m₀ news) (hJ : ∀ i m nx, J i m nx → nx.map (·.1) = news.map (·.1) ∧ (l, ({ cls := .type "tuple", data := .seq vs.toArray n₀ } : Obj)) ∈ nx)
    (turn : ∀ i v m₁ nx h tk I oI, (∀ p ∈ news, p.1 < I) → vs[i]? = some v → J i m₁ nx → Fr h₀ env.locals h m₁ → News h₀ env.locals h ((I, oI) :: nx) →
      wpAny (model prog w) A (assign target env v) (fun _ s₃ => wpAny (model prog w) A (execs body env) (TurnPostW h₀ env.locals J (i + 1) [(I, oI)] s Q) E s₃) E { s with heap := h, toks := tk })
    (done : ∀ m₁ nx h tk, J vs.length m₁ nx → Fr h₀ env.locals h m₁ → News h₀ env.locals h nx → Q .next { s with heap := h, toks := tk }) :
    wpAny (model prog w) A (pyIter (.ref l)) (fun it s₂ => W.TurnsAt prog w A h₀ env target body Q E it s₂) E s := by
  have hls : s.heap.IsTuple l vs.toArray := ⟨_, (N _ hl).1, rfl, n₀, rfl⟩
  have hne : l ≠ s.heap.objs.size := news_ne_size N _ hl
  refine wpAny_pyIter_tuple hls ?_
  have WK := W.KTurns.ofWalks (target := target) (Walks.tuple (prog := prog) (w := w) hh s.heap.objs.size l hne vs.toArray) fun i v s Q E st q => letGo_tupleiter st.1 q
  have hsz : vs.toArray.size = vs.length := by simp
  rw [hsz] at WK
  refine turns_of (s := { s with heap := s.heap.push _ }) WK [(l, { cls := .type "tuple", data := .seq vs.toArray n₀ })] J ⟨⟨_, Heap.get?_push_size _ rfl, rfl, rfl⟩, hls.at fun o e => Heap.get?_push_of_some _ e⟩ (fun i h st => let ⟨o, ho, _⟩ := st.1; ⟨[(s.heap.objs.size, o)], rfl, fun p hp => by rw [List.mem_singleton.mp hp]; exact ho⟩)
    (fun p hp hq => news_ne_size N p hp (List.mem_singleton.mp hq)) (fun b hb => by rw [List.mem_singleton.mp hb]; exact new_none F) ?_ ?_ (F.push _) (News.past (m := m₀) N _) hj (fun i m nx h => ⟨(hJ i m nx h).1, fun p hp => List.mem_singleton.mp hp ▸ (hJ i m nx h).2⟩) ?_ done
  · intro b hb
    rcases List.mem_cons.mp hb with e | hb
    · exact .inl (List.mem_singleton.mpr e)
    · rw [List.mem_singleton.mp hb]; exact .inr (.inl ⟨_, .head _⟩)
  · intro hm
    rcases List.mem_cons.mp hm with e | hm
    · exact absurd F.ns.lt (e ▸ Nat.lt_irrefl _)
    · exact (N _ hl).2.1 (List.mem_singleton.mp hm).symm
  · intro i v m₁ nx h tk os hos hi hP hj' F' N'
    obtain ⟨⟨I', oI⟩, rfl⟩ : ∃ p, os = [p] := by
      have h1 : os.length = 1 := by have := congrArg List.length hos; simpa using this
      exact List.length_eq_one_iff.mp h1
    have hI' : I' = s.heap.objs.size := by simpa using hos
    subst hI'
    exact turn i v m₁ nx h tk _ oI (fun p hp => Heap.lt_size (N p hp).1) (by simpa using hP) hj' F' N'
end
section
variable {prog : Program} {w : World} {A : Around} {E : Value → Shared → Prop} {s : Shared} {env : Env} {h₀ : Heap} {target : Expr} {body : List Stmt} {Q : Flow → Shared → Prop} {m₀ : Str → Option Value} {news : List (Addr × Obj)}
/-- how a turn ends that folds a text, four names turning -/
noncomputable def TextPost4 (h₀ : Heap) (L : Addr) (a b c d z : Str) (m₀ : Str → Option Value) (I : Addr) (oI : Obj) (news : List (Addr × Obj)) (R : Str) (s : Shared) (Q : Flow → Shared → Prop) (f : Flow) (s₂ : Shared) : Prop :=
  match f with
  | .ret v => Q (.ret v) s₂
  | .brk => Q .next s₂
  | _ => ∃ h' tk m', s₂ = { s with heap := h', toks := tk } ∧ Fr h₀ L h' m' ∧ News h₀ L h' ((I, oI) :: news) ∧ (∀ y, y ≠ a → y ≠ b → y ≠ c → y ≠ d → y ≠ z → m' y = m₀ y) ∧ ∃ t, m' z = some (.str R t)
theorem over4 {a b c d z : Str} {m₁ m₀ : Str → Option Value} {v : Value} (hm : ∀ y, y ≠ a → y ≠ b → y ≠ c → y ≠ d → y ≠ z → m₁ y = m₀ y) (hz : m₁ z = some v) :
    m₁ = fun y => if y = a then m₁ a else if y = b then m₁ b else if y = c then m₁ c else if y = d then m₁ d else if y = z then some v else m₀ y := by
  funext y
  by_cases h1 : y = a
  · rw [if_pos h1, h1]
  · rw [if_neg h1]
    by_cases h2 : y = b
    · rw [if_pos h2, h2]
    · rw [if_neg h2]
      by_cases h3 : y = c
      · rw [if_pos h3, h3]
      · rw [if_neg h3]
        by_cases h4 : y = d
        · rw [if_pos h4, h4]
        · rw [if_neg h4]
          by_cases h5 : y = z
          · rw [if_pos h5, h5, hz]
          · rw [if_neg h5]; exact hm y h1 h2 h3 h4 h5
theorem turns_foldT4 {l : Addr} {vs : List Value} {n₀ : Nat} (a b c d z : Str) (G : Nat → Str) (hh : A.handled = none) (F : Fr h₀ env.locals s.heap m₀) (N : News h₀ env.locals s.heap news)
    (hl : (l, ({ cls := .type "tuple", data := .seq vs.toArray n₀ } : Obj)) ∈ news) (hz : ∃ t, m₀ z = some (.str (G 0) t))
    (turn : ∀ i v ua ub uc ud t h tk I oI, (∀ p ∈ news, p.1 < I) → vs[i]? = some v → Fr h₀ env.locals h (fun y => if y = a then ua else if y = b then ub else if y = c then uc else if y = d then ud else if y = z then some (.str (G i) t) else m₀ y) → News h₀ env.locals h ((I, oI) :: news) →
      wpAny (model prog w) A (assign target env v) (fun _ s₃ => wpAny (model prog w) A (execs body env) (TextPost4 h₀ env.locals a b c d z m₀ I oI news (G (i + 1)) s Q) E s₃) E { s with heap := h, toks := tk })
    (done : ∀ ua ub uc ud t h tk, Fr h₀ env.locals h (fun y => if y = a then ua else if y = b then ub else if y = c then uc else if y = d then ud else if y = z then some (.str (G vs.length) t) else m₀ y) → News h₀ env.locals h news → Q .next { s with heap := h, toks := tk }) :
    wpAny (model prog w) A (pyIter (.ref l)) (fun it s₂ => W.TurnsAt prog w A h₀ env target body Q E it s₂) E s := by
  refine turns_tup (fun i m nx => nx = news ∧ (∀ y, y ≠ a → y ≠ b → y ≠ c → y ≠ d → y ≠ z → m y = m₀ y) ∧ ∃ t, m z = some (.str (G i) t)) hh F N hl ⟨rfl, fun _ _ _ _ _ _ => rfl, hz⟩ ?_ ?_ ?_
  · rintro i m nx ⟨rfl, _⟩; exact ⟨rfl, hl⟩
  · rintro i v m₁ nx h tk I oI hI hv ⟨rfl, hm, t, ht⟩ F₁ N₁
    rw [over4 hm ht] at F₁
    refine wpAny_mono (turn i v _ _ _ _ t h tk I oI hI hv F₁ N₁) (fun _ s₃ h₃ => wpAny_mono h₃ (fun f s₂ p => ?_) fun _ _ e => e) fun _ _ e => e
    cases f with
    | ret v => exact p
    | brk => exact p
    | next => obtain ⟨h', tk', m', rfl, x1, x2, x3, t', x4⟩ := p; exact ⟨h', tk', m', nx, rfl, x1, x2, rfl, x3, t', x4⟩
    | cont => obtain ⟨h', tk', m', rfl, x1, x2, x3, t', x4⟩ := p; exact ⟨h', tk', m', nx, rfl, x1, x2, rfl, x3, t', x4⟩
  · rintro m₁ nx h tk ⟨rfl, hm, t, ht⟩ F₁ N₁
    rw [over4 hm ht] at F₁
    exact done _ _ _ _ t h tk F₁ N₁
end
end Mine
end

section -- text ENT
theorem Mine.rows_off_ENT : True := by
  k_with_none
  trivial
open PySem PySem.W PyProof.Rows
set_option Elab.async false
set_option maxRecDepth 100000
set_option maxHeartbeats 1000000
set_option linter.all false
namespace Mine
open AutoSeq1 (wpAny_loadPart')
section
variable {prog : Program} {w : World} {A : Around} {E : Value → Shared → Prop} {s : Shared}
/-- one draw from a tuple's iterator: into the builtin -/
theorem nextT_enter {I ax : Addr} {k : Nat} {Q : Value → Shared → Prop} (hI : s.heap.IsTupleIter I ax k)
    (h : wpAny (model prog w) A.in1 (Builtin.«tuple_iterator.__next__» ⟨[.ref I], []⟩) (fun f s' => ∃ v, f = .done (.ret v) ∧ Q v s') E s) : wpAny (model prog w) A (Builtin.SmallTypes.nextOf (.ref I)) Q E s := by
  unfold Builtin.SmallTypes.nextOf
  refine wpAny_bind (wpAny_callSpecial?_slot (name := Str.ofString "__next__") hI.typeIs F.slot_tuple_iterator_next (wpAny_call_entry F.slot_tuple_iterator_next hI.typeIs F.entry_tuple_iterator_next (wpAny_mono h ?_ fun _ _ e => e) (F.args_tuple_iterator_next_1 _)))
  rintro f s' ⟨v, rfl, hv⟩
  exact ⟨v, rfl, wpAny_pure hv⟩
theorem nextT_some {I ax : Addr} {k : Nat} {vs : Array Value} {v : Value} {Q : Value → Shared → Prop} (hI : s.heap.IsTupleIter I ax k) (hT : s.heap.IsTuple ax vs) (e : vs[k]? = some v)
    (q : ∀ h', h'.IsTupleIter I ax (k + 1) → Heap.SameBut I s.heap h' → Q v { s with heap := h' }) : wpAny (model prog w) A (Builtin.SmallTypes.nextOf (.ref I)) Q E s := by
  refine nextT_enter hI ?_
  obtain ⟨oI, gI, cI, dI⟩ := hI
  obtain ⟨oT, gT, _, _, dT⟩ := hT
  have f0 : ∀ {A : Around} {E : Value → Shared → Prop} {Q : Value → Shared → Prop}, Q (.ref ax) s → wpAny (model prog w) A (field (.ref I) 0) Q E s := fun h => wpAny_field gI dI rfl h
  have f1 : ∀ {A : Around} {E : Value → Shared → Prop} {Q : Value → Shared → Prop}, Q (.int k 0) s → wpAny (model prog w) A (field (.ref I) 1) Q E s := fun h => wpAny_field gI dI rfl h
  wp_walk using f0, f1, wpAny_seqItems gT dT
  simp only [Int.toNat_natCast, e]
  refine wpAny_bind (wpAny_setField gI dI (by simp) (wpAny_pure ⟨v, rfl, q _ ⟨_, Heap.get?_update_self _ gI (Obj.isFreed_of_fields (Obj.data_mapFields dI _)), (Obj.cls_mapFields ..).trans cI, ?_⟩ (Heap.SameBut.update ..)⟩))
  rw [Obj.data_mapFields dI]
  simp [rawInt]
theorem nextT_none {I ax : Addr} {k : Nat} {vs : Array Value} {Q : Value → Shared → Prop} (hh : A.handled = none) (hI : s.heap.IsTupleIter I ax k) (hT : s.heap.IsTuple ax vs) (e : vs[k]? = none)
    (q : ∀ h' x, Heap.ExtBut I s.heap h' → (∃ o, h'.get? x = some o ∧ o.cls = .type "StopIteration") → E (.ref x) { s with heap := h' }) : wpAny (model prog w) A (Builtin.SmallTypes.nextOf (.ref I)) Q E s := by
  refine nextT_enter hI ?_
  obtain ⟨oI, gI, cI, dI⟩ := hI
  obtain ⟨oT, gT, _, _, dT⟩ := hT
  have f0 : ∀ {A : Around} {E : Value → Shared → Prop} {Q : Value → Shared → Prop}, Q (.ref ax) s → wpAny (model prog w) A (field (.ref I) 0) Q E s := fun h => wpAny_field gI dI rfl h
  have f1 : ∀ {A : Around} {E : Value → Shared → Prop} {Q : Value → Shared → Prop}, Q (.int k 0) s → wpAny (model prog w) A (field (.ref I) 1) Q E s := fun h => wpAny_field gI dI rfl h
  wp_walk using f0, f1, wpAny_seqItems gT dT
  simp only [Int.toNat_natCast, e]
  refine wpAny_bind (wpAny_rule (wpAny_bind (wpAny_setField gI dI (by simp) ?_)))
  have hh1 : A.in1.handled = none := hh
  wp_walk
  simp only [raiseNew]
  refine wpAny_bind (wpAny_handled ?_)
  first | rw [hh1] | rw [hh]
  refine wpAny_bind (wpAny_pure (wpAny_throw (q _ _ (((Heap.SameBut.update ..).extBut.push _).push _) ⟨_, Heap.get?_push_size _ rfl, rfl⟩)))
/-- a tuple as the source of an enumerate -/
theorem drawsT {prog : Program} {w : World} {A : Around} (hh : A.handled = none) {I ax : Addr} (ne : ax ≠ I) (vs : Array Value) :
    Draws prog w A I [I, ax] vs.size (fun i v => vs[i]? = some v) (fun i h => h.IsTupleIter I ax i ∧ h.IsTuple ax vs) := by
  refine ⟨?_, ?_, ?_, ?_⟩
  · rintro _ _ ⟨⟨o, ho, _⟩, _⟩; exact ⟨o, ho⟩
  · rintro _ _ _ ⟨a, b⟩ hk; exact ⟨a.at fun o e => hk I (by simp) o e, b.at fun o e => hk ax (by simp) o e⟩
  · rintro i s Q E hi ⟨a, b⟩ hQ
    have e : vs[i]? = some vs[i] := by simp [hi]
    exact nextT_some a b e fun h' a' sb => hQ _ h' s.toks e ⟨a', b.extBut sb.extBut ne⟩ sb
  · rintro s Q E ⟨a, b⟩ hE; exact nextT_none hh a b (by simp) hE
theorem mkEnumT (ax : Addr) (dct : Option Addr) (vs : Array Value) (n : Nat) (sl : Array (Option Value)) :
    Meets (Builtin.«enumerate.__new__» ⟨[.type "enumerate", .ref ax], []⟩) (fun _ R s => s.heap.get? ax = some { cls := .type "tuple", dict := dct, data := .seq vs n, slots := sl } ∧
      R (.ok (.ret (.ref (s.heap.objs.size + 1)))) { s with heap := (s.heap.push { cls := .type "tuple_iterator", data := .fields #[.ref ax, .int 0 0] }).push { cls := .type "enumerate", data := .fields #[.none, .bool false, .ref s.heap.objs.size, rawInt 0, .none, .none] } }) := by
  refine .of_wp ?_
  rintro prog w A R ⟨hp, g, d, tk, os⟩ ⟨gT, r⟩
  have sub := sub_enumerate
  have isT : Heap.IsTuple (Shared.heap ⟨hp, g, d, tk, os⟩) ax vs := ⟨_, gT, rfl, n, rfl⟩
  have sz : (hp.push { cls := .type "tuple_iterator", data := .fields #[.ref ax, .int 0 0] }).objs.size = hp.objs.size + 1 := Heap.size_push ..
  simp only [← sz] at r
  wp_walk using wpAny_loadPart' gT
  refine wpAny_stack_any fun _ => wpAny_pure ?_
  split
  · rename_i c _ _ _ _ _
    cases (c == Value.type "enumerate") <;> (wp_walk using wpAny_loadPart' gT, wpAny_pyIter_tuple isT) <;> exact ⟨_, rfl, r⟩
  · wp_walk using wpAny_loadPart' gT, wpAny_pyIter_tuple isT
    exact ⟨_, rfl, r⟩
/-- enumerate called on a tuple -/
theorem callEnumT {ax : Addr} {vs : Array Value} {Q : Value → Shared → Prop} (hT : s.heap.IsTuple ax vs)
    (q : ∀ h', IsEnum h' (s.heap.objs.size + 1) s.heap.objs.size 0 .none → (h'.IsTupleIter s.heap.objs.size ax 0 ∧ h'.IsTuple ax vs) → h'.objs.size = s.heap.objs.size + 2 → (∀ b o, s.heap.get? b = some o → h'.get? b = some o) →
      Q (.ref (s.heap.objs.size + 1)) { s with heap := h' }) : wpAny (model prog w) A (call (.type "enumerate") [.ref ax]) Q E s := by
  obtain ⟨⟨c, dct, dt, sl⟩, gT, hc, n, hd⟩ := id hT
  obtain rfl : c = .type "tuple" := hc
  obtain rfl : dt = .seq vs n := hd
  refine callType_new F.called_enumerate (by decide) (F.typeCall_enumerate_1 _) (F.newCall_enumerate_1 _) (fun obj => F.args_object_init_2 obj _) F.entry_enumerate_new (mkEnumT ax dct vs n sl) ⟨gT, ?_⟩
  have sz : (s.heap.push { cls := .type "tuple_iterator", data := .fields #[.ref ax, .int 0 0] }).objs.size = s.heap.objs.size + 1 := Heap.size_push ..
  generalize hA : s.heap.push { cls := .type "tuple_iterator", data := .fields #[.ref ax, .int 0 0] } = hA' at sz ⊢
  have kA : ∀ b o, s.heap.get? b = some o → hA'.get? b = some o := fun b o e => hA ▸ Heap.get?_push_of_some _ e
  have gI : hA'.get? s.heap.objs.size = some { cls := .type "tuple_iterator", data := .fields #[.ref ax, .int 0 0] } := hA ▸ Heap.get?_push_size _ rfl
  have gE := Heap.get?_push_size hA' (o := { cls := .type "enumerate", data := .fields #[.none, .bool false, .ref s.heap.objs.size, rawInt 0, .none, .none] }) rfl
  rw [sz] at gE
  exact ⟨⟨_, gE, rfl⟩, q _ gE ⟨⟨_, Heap.get?_push_of_some _ gI, rfl, rfl⟩, hT.at fun o e => Heap.get?_push_of_some _ (kA _ o e)⟩ (by rw [Heap.size_push, sz]) fun b o e => Heap.get?_push_of_some _ (kA b o e)⟩
end
end Mine
end

section -- text TENT
theorem Mine.rows_off_TENT : True := by
  k_with_none
  trivial
open PySem PySem.W PyProof.Rows
set_option Elab.async false
set_option maxRecDepth 100000
set_option maxHeartbeats 1000000
set_option linter.all false
namespace Mine
section
variable {prog : Program} {w : World} {A : Around} {E : Value → Shared → Prop} {s : Shared} {env : Env} {h₀ : Heap} {body : List Stmt} {Q : Flow → Shared → Prop} {m₀ : Str → Option Value} {news : List (Addr × Obj)}
/-- a loop with a pair for its target over enumerate of a tuple of the program's own -/
theorem turns_enumT {elts : List Expr} {k : Nat} {pos : Pos} {ax : Addr} {vs : Array Value} (J : Nat → (Str → Option Value) → List (Addr × Obj) → Prop) (hh : A.handled = none) (F : Fr h₀ env.locals s.heap m₀) (N : News h₀ env.locals s.heap news)
    (hT : IsTup h₀ ax vs) (hj : J 0 m₀ news) (hJ : ∀ i m nx, J i m nx → nx.map (·.1) = news.map (·.1))
    (turn : ∀ (i : Nat) v x t T m₁ nx h tk I oE oI, (∀ p ∈ news, p.1 < I) → vs[i]? = some x → v = .ref T → IsTup h T #[.int (i : Int) t, x] → J i m₁ nx → Fr h₀ env.locals h m₁ → News h₀ env.locals h ((I + 1, oE) :: (I, oI) :: nx) →
      wpAny (model prog w) A (assign (.Tuple elts k pos) env v) (fun _ s₃ => wpAny (model prog w) A (execs body env) (TurnPostW h₀ env.locals J (i + 1) [(I + 1, oE), (I, oI)] s Q) E s₃) E { s with heap := h, toks := tk })
    (done : ∀ m₁ nx h tk, J vs.size m₁ nx → Fr h₀ env.locals h m₁ → News h₀ env.locals h nx → Q .next { s with heap := h, toks := tk }) :
    wpAny (model prog w) A (call (.type "enumerate") [.ref ax]) (fun xv s₁ => wpAny (model prog w) A (pyIter xv) (fun it s₂ => W.TurnsAt prog w A h₀ env (.Tuple elts k pos) body Q E it s₂) E s₁) E s := by
  have hTs : s.heap.IsTuple ax vs := F.tup hT
  have lx : ax < s.heap.objs.size := by obtain ⟨o, ho, _⟩ := hTs; exact Heap.lt_size ho
  have lL : env.locals < s.heap.objs.size := F.ns.lt
  refine callEnumT hTs fun h' hE hI hsz hk => ?_
  refine wpAny_pyIter_enum hE ?_
  have WK := W.KTurns.ofWalksU (elts := elts) (k := k) (pos := pos) (WalksT.enumerateD (drawsT (prog := prog) (w := w) (A := A.in1) hh (I := s.heap.objs.size) (ax := ax) (Nat.ne_of_lt lx) vs) (s.heap.objs.size + 1) (Nat.succ_ne_self _) (by
    intro hm
    rcases List.mem_cons.mp hm with e | hm
    · exact absurd e (Nat.succ_ne_self _)
    · exact absurd (List.mem_singleton.mp hm) (ktu_ne 1 lx).symm) (by simp)).toU
  refine turns_of (s := { s with heap := h' }) WK [] J ⟨⟨_, hE⟩, hI⟩ ?_ ?_ ?_ ?_ ?_ (F.keeps hk) (fun p hp => ?_) hj (fun i m nx h => ⟨hJ i m nx h, by simp⟩) ?_ done
  · rintro i h ⟨⟨old, he⟩, ⟨oi, hoi, _⟩, _⟩
    obtain ⟨oE, gE⟩ : ∃ oE, h.get? (s.heap.objs.size + 1) = some oE := ⟨_, he⟩
    refine ⟨[(s.heap.objs.size + 1, oE), (s.heap.objs.size, oi)], rfl, fun p hp => ?_⟩
    rcases List.mem_cons.mp hp with rfl | hp
    · exact gE
    · rw [List.mem_singleton.mp hp]; exact hoi
  · intro p hp hm
    have lp := Heap.lt_size (N p hp).1
    rcases List.mem_cons.mp hm with e | hm
    · exact ktu_ne 1 lp e
    · exact Nat.ne_of_lt lp (List.mem_singleton.mp hm)
  · intro b hm
    rcases List.mem_cons.mp hm with rfl | hm
    · exact ktu_new F (Nat.le_add_right _ _)
    · rw [List.mem_singleton.mp hm]; exact ktu_new F (Nat.le_refl _)
  · intro b hm
    rcases List.mem_cons.mp hm with rfl | hm
    · exact .inl (by simp)
    · rcases List.mem_cons.mp hm with rfl | hm
      · exact .inl (by simp)
      · rw [List.mem_singleton.mp hm]
        obtain ⟨o, ho, _⟩ := hT
        exact .inr (.inr (by rw [ho]; rfl))
  · intro hm
    rcases List.mem_cons.mp hm with e | hm
    · exact ktu_ne 1 lL e
    · rcases List.mem_cons.mp hm with e | hm
      · exact Nat.ne_of_lt lL e
      · exact (F.tup_ne hTs) (List.mem_singleton.mp hm).symm
  · exact N.grown hk p hp
  · rintro i v m₁ nx h tk os hos hi ⟨T, vals, rfl, ⟨t, x, hx, rfl⟩, hTu⟩ hj' F' N'
    obtain ⟨⟨a, oE⟩, ⟨b, oI⟩, rfl⟩ : ∃ p q, os = [p, q] := by
      have h2 : os.length = 2 := by have := congrArg List.length hos; simpa using this
      cases os with
      | nil => simp at h2
      | cons p r =>
        have h3 : r.length = 1 := by simpa using h2
        obtain ⟨q, rfl⟩ := List.length_eq_one_iff.mp h3
        exact ⟨p, q, rfl⟩
    obtain ⟨ea, eb⟩ : a = s.heap.objs.size + 1 ∧ b = s.heap.objs.size := by simpa using hos
    subst ea eb
    exact turn i _ x t T m₁ nx h tk _ oE oI (fun p hp => Heap.lt_size (N p hp).1) hx rfl hTu hj' F' N'
end
end Mine
end

section -- text FN1
theorem Mine.rows_off_FN1 : True := by
  k_with_none
  trivial
open PySem PySem.W PyProof.Rows
set_option Elab.async false
set_option maxRecDepth 100000
set_option maxHeartbeats 8000000
set_option linter.all false
namespace Mine
theorem words2 : wordsV code2 = #[Value.int 14 0, Value.int 9 0, Value.int 4 0, Value.int 1 0, Value.int 2 0, Value.int 16 0,
              Value.int 10 0, Value.int 16 0, Value.int 13 0, Value.int 0 0, Value.int 7 0, Value.int 7 0,
              Value.int 16 0, Value.int 13 0, Value.int 16 0, Value.int 10 0, Value.int 15 0, Value.int 18 0,
              Value.int 5 0, Value.int 16 0, Value.int 10 0, Value.int 15 0, Value.int 13 0, Value.int 11 0,
              Value.int 16 0, Value.int 13 0, Value.int 5 0, Value.int 5 0, Value.int 0 0, Value.int 16 0,
              Value.int 10 0, Value.int 1 0, Value.int 15 0, Value.int 2 0, Value.int 0 0, Value.int 1 0] := by simp [wordsV, code2]
theorem words1 : wordsV code1 = #[Value.int 14 0, Value.int 4 0, Value.int 0 0, Value.int 1 0, Value.int 1 0, Value.int 6 0, Value.int 1 0,
              Value.int 16 0, Value.int 46 0, Value.int 1 0] := by simp [wordsV, code1]
section
variable {w : World} {h h₀ : Heap} {L : Addr} {m : Str → Option Value}
theorem pat2 (F : Fr h₀ L h m) (X : (Mine.hd.heap_39 w.params).In h₀) : IsPat h 48 code2 :=
  ⟨47, _, _, _, F.keep _ _ (X 48 _ rfl), words2 ▸ F.keep _ _ (X 47 _ rfl)⟩
theorem pat1 (F : Fr h₀ L h m) (X : (Mine.hd.heap_39 w.params).In h₀) : IsPat h 43 code1 :=
  ⟨42, _, _, _, F.keep _ _ (X 43 _ rfl), words1 ▸ F.keep _ _ (X 42 _ rfl)⟩
end
section
variable {w : World} {A : Around} {E : Value → Shared → Prop} {s : Shared} {L : Addr} {h₀ : Heap} {m : Str → Option Value} {news : List (Addr × Obj)} {Q : Value → Shared → Prop} {x r : Str} {tx tr : Tok}
theorem fix_K (rows : List (List Nat × List Nat)) (F : Fr h₀ L s.heap m) (X : (Mine.hd.heap_39 w.params).In h₀) (N : News h₀ L s.heap news) (hx : x.cps.toList = flat rows) (hr : ∀ r ∈ rows, OkRow r) (hn : rows.length ≤ 1000) (hz : (flat rows).length ≤ 10000) (he : r = crlf)
    (h : ∀ h' t tk, Fr h₀ L h' m → News h₀ L h' news → Q (.str ⟨(fixed rows).toArray⟩ t) { s with heap := h', toks := tk }) :
    wpAny (model PySem.Challenge.rw_il0078_01.row.prog w) A (call (.builtin "re.Pattern.sub") [.ref 48, .str r tr, .str x tx]) Q E s := by
  subst he
  exact sub_fix rows (pat2 F X) hx hr hn hz fun h' t tk hk => h h' t tk (F.after hk) (N.keepsAll hk)
theorem dot_K (rows : List (List Nat)) (F : Fr h₀ L s.heap m) (X : (Mine.hd.heap_39 w.params).In h₀) (N : News h₀ L s.heap news) (hx : x.cps.toList = lines rows) (hr : ∀ r ∈ rows, OkLine r) (hn : rows.length ≤ 1000) (hz : (lines rows).length ≤ 10000) (he : r = dots)
    (h : ∀ h' t tk, Fr h₀ L h' m → News h₀ L h' news → Q (.str ⟨(lines (rows.map dbl)).toArray⟩ t) { s with heap := h', toks := tk }) :
    wpAny (model PySem.Challenge.rw_il0078_01.row.prog w) A (call (.builtin "re.Pattern.sub") [.ref 43, .str r tr, .str x tx]) Q E s := by
  subst he
  exact sub_dot rows (pat1 F X) hx hr hn hz fun h' t tk hk => h h' t tk (F.after hk) (N.keepsAll hk)
theorem sub2_K {pl : Sem Bool} {Q : Value × List Value → Shared → Prop} (F : Fr h₀ L s.heap m) (X : (Mine.hd.heap_39 w.params).In h₀) (h : Q (.builtin "re.Pattern.sub", [.ref 48]) s) : wpAny (model PySem.Challenge.rw_il0078_01.row.prog w) A (getMethod (.ref 48) (Str.ofString "sub") pl) Q E s :=
  getMethod_sub F X rfl h
theorem sub1_K {pl : Sem Bool} {Q : Value × List Value → Shared → Prop} (F : Fr h₀ L s.heap m) (X : (Mine.hd.heap_39 w.params).In h₀) (h : Q (.builtin "re.Pattern.sub", [.ref 43]) s) : wpAny (model PySem.Challenge.rw_il0078_01.row.prog w) A (getMethod (.ref 43) (Str.ofString "sub") pl) Q E s :=
  getMethod_sub F X rfl h
end

theorem lines_FN1_1 : True := by
  k_with_none
  k_with "getMethod ref" => (k_here; (with_reducible show wpAny _ _ (getMethod (Value.ref 48) _ _) _ _ _); k_dflt (refine sub2_K (by k_asm) (by k_asm) ?_; k_whole))
  k_with "getMethod ref" => (k_here; (with_reducible show wpAny _ _ (getMethod (Value.ref 43) _ _) _ _ _); k_dflt (refine sub1_K (by k_asm) (by k_asm) ?_; k_whole))
  trivial
theorem fix_spec (w : World) (loose : List Str) (mean : ExcName → Option Value) (mg mb : Str → Option Value) (news : List (Addr × Obj)) (x : Str) (tk : Tok) (rows : List (List Nat × List Nat)) (hx : x.cps.toList = flat rows) (hr : ∀ r ∈ rows, OkRow r) (hn : rows.length ≤ 1000) (hz : (flat rows).length ≤ 10000) :
    Cl 1 w loose mean mg mb 62 news [.str x tk] (fun t => .str ⟨(fixed rows).toArray⟩ t) := by
  dsimp only [Cl, CbRet]; k_fill; intros; rename_i hret
  refine wpAny_call ?_
  k_dflt cell_enter
  k_steps
  k_dflt (refine' fix_K rows ?k1 ?k2 ?k3 hx hr hn hz (by decide +kernel) ?_; (case k1 => k_asm); (case k2 => k_asm); (case k3 => k_asm))
  intro h9 t9 tk9 F9 N9
  k_steps
  all_goals (refine' hret _ _ _ ?e2 ?e3; (case e2 => k_asm); (case e3 => k_asm))

theorem fixed_lines (rows : List (List Nat × List Nat)) : fixed rows = lines (rows.map (·.1)) := by
  unfold fixed lines
  rw [List.flatMap_map]
theorem quote_spec (w : World) (loose : List Str) (mean : ExcName → Option Value) (mg mb : Str → Option Value) (news : List (Addr × Obj)) (x : Str) (tk : Tok) (rows : List (List Nat × List Nat)) (hx : x.cps.toList = flat rows) (hr : ∀ r ∈ rows, OkRow r) (hn : rows.length ≤ 1000) (hz : (flat rows).length ≤ 10000) (hz' : (fixed rows).length ≤ 10000) :
    Cl 1 w loose mean mg mb 55 news [.str x tk] (fun t => .str ⟨(lines ((rows.map (·.1)).map dbl)).toArray⟩ t) := by
  dsimp only [Cl, CbRet]; k_fill; intros; rename_i hret
  refine wpAny_call ?_
  k_dflt cell_enter
  k_steps
  k_dflt (refine' fix_K rows ?k1 ?k2 ?k3 hx hr hn hz (by decide +kernel) ?_; (case k1 => k_asm); (case k2 => k_asm); (case k3 => k_asm))
  intro h9 t9 tk9 F9 N9
  k_steps
  k_dflt (refine' dot_K (rows.map (·.1)) ?k1 ?k2 ?k3 ?k4 ?k5 ?k6 ?k7 (by decide +kernel) ?_; (case k1 => k_asm); (case k2 => k_asm); (case k3 => k_asm))
  case k4 => exact fixed_lines rows
  case k5 => intro r hr'; obtain ⟨r', h', rfl⟩ := List.mem_map.mp hr'; exact ⟨(hr r' h').some, (hr r' h').plain⟩
  case k6 => simpa using hn
  case k7 => rw [← fixed_lines]; exact hz'
  intro h8 t8 tk8 F8 N8
  k_steps
  all_goals (refine' hret _ _ _ ?e2 ?e3; (case e2 => k_asm); (case e3 => k_asm))

end Mine
end

section -- text FN2
theorem Mine.rows_off_FN2 : True := by
  k_with_none
  trivial
open PySem PySem.W PyProof.Rows
set_option Elab.async false
set_option maxRecDepth 100000
set_option maxHeartbeats 8000000
set_option linter.all false
namespace Mine
section
variable {prog : Program} {w : World} {A : Around} {E : Value → Shared → Prop} {s : Shared}
open PySem.Calls
theorem kind_isn : builtinKind "issubclass.nested" = none := by decide +kernel
theorem plain_isn : plainId "issubclass.nested" = true := by decide +kernel
theorem args_isn (a b c : Value) : argsOk "issubclass.nested" ⟨[a, b, c], []⟩ := by unfold argsOk; kernel_rfl
theorem sub_str_str : isSubtype (.type "str") (.type "str") = pure true := by rw [isSubtype_type]; kernel_rfl
theorem type_str : typeOf (.type "str") = pure (.type "type") := by rfl
theorem code_fn {id : String} {B : Builtin} {args : List Value} {R : Result → Shared → Prop} (kind : builtinKind id = none) (plain : plainId id = true)
    (entry : entryFor table id = some B) (ok : argsOk id ⟨args, []⟩) (hfin : wpAny (model prog w) A.in1 (B ⟨args, []⟩) (fun fin s' => match fin with | .done f => R (.ok f) s' | .again c' => c'.quiet = true ∧ codeAny (model prog w) A c' R s') (fun e s' => R (.error e) s') s) :
    codeAny (model prog w) A (.call (.builtin id) ⟨args, []⟩) R s := by
  refine codeAny_call_builtin plain entry ?_
  simp only [checkBuiltinCall, kind]
  cases hsig : Manifest.signature? id with
  | none => exact wpAny_pure hfin
  | some sig =>
    simp only [argsOk, hsig] at ok
    have h2 : Bind.checkArgs id sig ⟨args, []⟩ = pure () := ok
    show wpAny _ _ (Bind.checkArgs id sig ⟨args, []⟩) _ _ s
    rw [h2]; exact wpAny_pure hfin
theorem isn_strstr {k : Value} {dep : Int} {tk : Tok} {Q : Fin → Shared → Prop} (hk : k = .int dep tk) (hq : Q (.done (.ret (.bool true))) s) :
    wpAny (model prog w) A (Builtin.«issubclass.nested» ⟨[.type "str", .type "str", k], []⟩) Q E s := by
  subst hk
  have hm : (Value.type "type" == Value.type "type") = true := by decide
  have f1 := sub_str_str
  repeat (any_goals (first | assumption | (rw [if_pos hm]) | (rw [f1]) | wp_step))
theorem isn_tuple {D : Addr} {tk : Tok} {Q : Fin → Shared → Prop} (hD : s.heap.get? D = some { cls := .type "tuple", data := .seq #[.type "str", .type "bytes"] }) (hq : ∀ tk', Q (.done (.ret (.bool true))) { s with toks := tk' }) :
    wpAny (model prog w) A (Builtin.«issubclass.nested» ⟨[.type "str", .ref D, .int 0 tk], []⟩) Q E s := by
  obtain ⟨h, g, d, t, os⟩ := s
  have hT2 : (⟨h, g, d, t, os⟩ : Shared).TypeIs (.ref D) "tuple" := ⟨_, hD, rfl⟩
  have f1 := F.isi_sub_tuple
  repeat (any_goals (first | assumption | wp_step))
  refine code_fn (args := [.type "str", .type "str", rawInt 1]) kind_isn plain_isn F.entry_issubclass_nested (args_isn _ _ _) (isn_strstr rfl ?_)
  dsimp only
  refine wpAny_bind (wpAny_truthy_bool ?_)
  rw [if_pos rfl]
  exact wpAny_bind (wpAny_pure (wpAny_pure (wpAny_pure (wpAny_pure (hq t)))))
theorem issub_str {D : Addr} {Q : Value → Shared → Prop} (hD : s.heap.get? D = some { cls := .type "tuple", data := .seq #[.type "str", .type "bytes"] }) (hq : ∀ tk', Q (.bool true) { s with toks := tk' }) :
    wpAny (model prog w) A (call (.builtin "issubclass") [.type "str", .ref D]) Q E s := by
  refine call_issubclass (S := fun _ R s => s.heap.get? D = some { cls := .type "tuple", data := .seq #[.type "str", .type "bytes"] } ∧ ∀ tk', R (.ok (.ret (.bool true))) { s with toks := tk' }) (fun _ _ _ _ _ hs => issubclass_outer (isn_tuple hs.1 hs.2)) ⟨hD, hq⟩
theorem issub_K {h₀ : Heap} {L D : Addr} {m : Str → Option Value} {news : List (Addr × Obj)} {Q : Value → Shared → Prop} (F : Fr h₀ L s.heap m) (N : News h₀ L s.heap news) (hm : (D, ({ cls := .type "tuple", data := .seq #[.type "str", .type "bytes"] } : Obj)) ∈ news)
    (h : ∀ h' tk', Fr h₀ L h' m → News h₀ L h' news → Q (.bool true) { s with heap := h', toks := tk' }) : wpAny (model prog w) A (call (.builtin "issubclass") [.type "str", .ref D]) Q E s :=
  issub_str (N.get hm) fun tk' => h s.heap tk' F N
end
theorem lines_FN2_1 : True := by
  k_with_none
  k_with "call builtin:issubclass" => (k_here; (with_reducible show wpAny _ _ (call _ [Value.type "str", Value.ref _]) _ _ _); k_dflt (refine issub_K (by k_asm) (by k_asm) (by k_mem) ?_; k_whole); intro _ _ _ _)
  trivial
theorem fspath_spec (w : World) (loose : List Str) (mean : ExcName → Option Value) (mg mb : Str → Option Value) (news : List (Addr × Obj)) (x : Str) (tk : Tok) :
    Cl 1 w loose mean mg mb 135 news [.str x tk] (fun t => .str x t) := by
  dsimp only [Cl, CbRet]; k_fill; intros; rename_i hret
  refine wpAny_call ?_
  k_dflt cell_enter
  k_steps
  all_goals (refine' hret _ _ _ ?e2 ?e3; (case e2 => k_asm); (case e3 => first | k_asm | (refine' cb_drop ?cbN ?cbS; (case cbN => assumption); (case cbS => kcj_all))))

theorem getsep_spec (w : World) (loose : List Str) (mean : ExcName → Option Value) (mg mb : Str → Option Value) (news : List (Addr × Obj)) (x : Str) (tk : Tok) :
    Cl 1 w loose mean mg mb 149 news [.str x tk] (fun t => .str (Str.ofString "/") t) := by
  dsimp only [Cl, CbRet]; k_fill; intros; rename_i hret
  refine wpAny_call ?_
  k_dflt cell_enter
  k_steps
  all_goals (refine' hret _ _ _ ?e2 ?e3; (case e2 => k_asm); (case e3 => first | k_asm | (refine' cb_drop ?cbN ?cbS; (case cbN => assumption); (case cbS => kcj_all))))

theorem ifmt_spec (w : World) (loose : List Str) (mean : ExcName → Option Value) (mg mb : Str → Option Value) (news : List (Addr × Obj)) (x : Int) (tk : Tok) :
    Cl 1 w loose mean mg mb 182 news [.int x tk] (fun t => .int (Builtin.bitAnd x 61440) t) := by
  dsimp only [Cl, CbRet]; k_fill; intros; rename_i hret
  refine wpAny_call ?_
  k_dflt cell_enter
  k_steps
  all_goals (refine' hret _ _ _ ?e2 ?e3; (case e2 => k_asm); (case e3 => first | k_asm | (refine' cb_drop ?cbN ?cbS; (case cbN => assumption); (case cbS => kcj_all))))

end Mine
end

section -- text FN3
theorem Mine.rows_off_FN3 : True := by
  k_with_none
  trivial
open PySem PySem.W PyProof.Rows
set_option Elab.async false
set_option maxRecDepth 100000
set_option maxHeartbeats 8000000
set_option linter.all false
namespace Mine
theorem lines_FN3_1 : True := by
  k_with_none
  k_with "call ref" => (k_here; (with_reducible show wpAny _ _ (call (Value.ref 135) [Value.str _ _]) _ _ _); k_dflt (refine use_cl2 (by k_asm) (by k_asm) (by k_asm) (by k_asm) (by k_asm) (by first | exact rfl | assumption) (by ktr_room) (by ktr_units) (fspath_spec _ _ _ _ _ _ _ _) ?_; k_whole); intro _ _ _ _ _; (try dsimp only); (try k_fold))
  k_with "call ref" => (k_here; (with_reducible show wpAny _ _ (call (Value.ref 149) [Value.str _ _]) _ _ _); k_dflt (refine use_cl2 (by k_asm) (by k_asm) (by k_asm) (by k_asm) (by k_asm) (by first | exact rfl | assumption) (by ktr_room) (by ktr_units) (getsep_spec _ _ _ _ _ _ _ _) ?_; k_whole); intro _ _ _ _ _; (try dsimp only); (try k_fold))
  k_with "call ref" => (k_here; (with_reducible show wpAny _ _ (call (Value.ref 182) [Value.int _ _]) _ _ _); k_dflt (refine use_cl2 (by k_asm) (by k_asm) (by k_asm) (by k_asm) (by k_asm) (by first | exact rfl | assumption) (by ktr_room) (by ktr_units) (ifmt_spec _ _ _ _ _ _ _ _) ?_; k_whole); intro _ _ _ _ _; (try dsimp only); (try k_fold))
  trivial
noncomputable def slOf (x : Str) : Str := if (Txt.slice x none (some 1) != Str.ofString "/") = true then Str.ofString "" else if (Txt.slice x (some 1) (some 2) != Str.ofString "/") = true ∨ (Txt.slice x (some 2) (some 3) == Str.ofString "/") = true then Str.ofString "/" else Txt.slice x none (some 2)
noncomputable def reOf (x : Str) : Str := if (Txt.slice x none (some 1) != Str.ofString "/") = true then x else if (Txt.slice x (some 1) (some 2) != Str.ofString "/") = true ∨ (Txt.slice x (some 2) (some 3) == Str.ofString "/") = true then Txt.slice x (some 1) none else Txt.slice x (some 2) none
theorem reOf_len (x : Str) : (reOf x).length ≤ x.length := by
  unfold reOf
  split
  · exact Nat.le_refl _
  · split <;> exact PyProof.Txt.length_slice_le x _ _
theorem tup3_eq {e a b a' b' : Str} {t1 t2 t3 : Tok} (ha : a' = a) (hb : b' = b) : ({ cls := .type "tuple", data := .seq #[.str e t1, .str a t2, .str b t3] } : Obj) = { cls := .type "tuple", data := .seq #[.str e t1, .str a' t2, .str b' t3] } := by subst ha; subst hb; rfl
theorem splitroot_spec (w : World) (loose : List Str) (mean : ExcName → Option Value) (mg mb : Str → Option Value) (news : List (Addr × Obj)) (x : Str) (tk : Tok) (hsz : x.length ≤ 100000) :
    ClN 2 w loose mean mg mb 163 news [.str x tk] (fun o => (reOf x).length ≤ x.length ∧ ∃ t1 t2 t3, o = { cls := .type "tuple", data := .seq #[.str (Str.ofString "") t1, .str (slOf x) t2, .str (reOf x) t3] }) := by
  dsimp only [ClN]; k_fill; intros; rename_i hret
  refine wpAny_call ?_
  k_dflt cell_enter
  k_steps
  all_goals (refine' hret _ _ _ _ ?e1 ?e2 ?e3 ?e4; (case e4 => k_asm); (case e3 => k_asm); (case e2 => assumption); (case e1 => (refine ⟨reOf_len x, _, _, _, tup3_eq ?ea ?eb⟩; (case ea => (unfold slOf; simp_all)); (case eb => (unfold reOf; simp_all)))))

end Mine
end

section -- text FN4
theorem Mine.rows_off_FN4 : True := by
  k_with_none
  trivial
open PySem PySem.W PyProof.Rows
set_option Elab.async false
set_option maxRecDepth 100000
set_option maxHeartbeats 8000000
set_option linter.all false
namespace Mine
theorem lines_FN4_1 : True := by
  k_with_none
  k_with "call ref" => (k_here; (with_reducible show wpAny _ _ (call (Value.ref 135) [Value.str _ _]) _ _ _); k_dflt (refine use_cl2 (by k_asm) (by k_asm) (by k_asm) (by k_asm) (by k_asm) (by first | exact rfl | assumption) (by ktr_room) (by ktr_units) (fspath_spec _ _ _ _ _ _ _ _) ?_; k_whole); intro _ _ _ _ _; (try dsimp only); (try k_fold))
  k_with "call ref" => (k_here; (with_reducible show wpAny _ _ (call (Value.ref 149) [Value.str _ _]) _ _ _); k_dflt (refine use_cl2 (by k_asm) (by k_asm) (by k_asm) (by k_asm) (by k_asm) (by first | exact rfl | assumption) (by ktr_room) (by ktr_units) (getsep_spec _ _ _ _ _ _ _ _) ?_; k_whole); intro _ _ _ _ _; (try dsimp only); (try k_fold))
  k_with "call ref" => (k_here; (with_reducible show wpAny _ _ (call (Value.ref 182) [Value.int _ _]) _ _ _); k_dflt (refine use_cl2 (by k_asm) (by k_asm) (by k_asm) (by k_asm) (by k_asm) (by first | exact rfl | assumption) (by ktr_room) (by ktr_units) (ifmt_spec _ _ _ _ _ _ _ _) ?_; k_whole); intro _ _ _ _ _; (try dsimp only); (try k_fold))
  k_with "call ref" => (k_here; (with_reducible show wpAny _ _ (call (Value.ref 163) [Value.str _ _]) _ _ _); k_dflt (refine use_cn2 (by k_asm) (by k_asm) (by k_asm) (by k_asm) (by k_asm) (by first | exact rfl | assumption) (by ktr_room) (by ktr_units) (splitroot_spec _ _ _ _ _ _ _ _ (by first | assumption | omega)) ?_; k_whole); intro _ _ _ _ zP zl1 _ _; (try k_lt zl1); (try dsimp only); (obtain ⟨hre, t1, t2, t3, e'⟩ := zP); subst e'; (try k_fold))
  k_with "truthy ref" => (k_here; (with_reducible show wpAny _ _ (truthy (Value.ref _)) _ _ _); (first | k_dflt (refine truthyNil (by k_asm) (by k_mem) ?_; k_whole) | k_dflt (refine truthySnoc (by k_asm) (by k_mem) (by size_fits) ?_; k_whole)); intro _; (try k_fold))
  k_with "subscriptTail Name UnaryOp ref int" => (k_here; (with_reducible show wpAny _ _ (subscriptTail _ _ (Value.ref _) (Value.int _ _)) _ _ _); k_dflt (refine itemLast (by k_asm) (by k_mem) ?_ (by with_unfolding_all rfl); k_whole))
  k_with "call builtin:list.pop" => (k_here; (with_reducible show wpAny _ _ (call (Value.builtin _) [Value.ref _]) _ _ _); k_dflt (refine popLast (by k_asm) (by k_asm) (by k_upd) (by (show (strValues _).length ≤ _; rw [sizeLine_eq]; omega)) ?_; k_whole); intro _ _ _)
  trivial
theorem nil_or_snoc {α : Type} (l : List α) : l = [] ∨ ∃ l' a, l = l' ++ [a] := by
  rcases List.eq_nil_or_concat l with h | ⟨l', a, h⟩
  · exact .inl h
  · exact .inr ⟨l', a, by rw [h, List.concat_eq_append]⟩
theorem lines_FN4_2 : True := by
  k_with "call builtin:str.join" => (k_here; (with_reducible show wpAny _ _ (call (Value.builtin _) [Value.str _ _, Value.ref _]) _ _ _); k_dflt (refine joinN (by k_asm) (by k_mem) (by assumption) ?_; k_whole); intro _ _; (try k_fold))
  trivial
noncomputable def nstep (sl : Str) (acc : List Str) (c : Str) : List Str :=
  if c.length = 0 ∨ c = Str.ofString "." then acc else if c ≠ Str.ofString ".." ∨ (sl.length = 0 ∧ acc = []) ∨ acc.getLast? = some (Str.ofString "..") then acc ++ [c] else acc.dropLast
section
variable {sl c cl : Str} {acc : List Str}
theorem nA (h : c.length = 0) : acc = nstep sl acc c := by unfold nstep; rw [if_pos (.inl h)]
theorem nB (h : c = Str.ofString ".") : acc = nstep sl acc c := by unfold nstep; rw [if_pos (.inr h)]
theorem nskip (h : c.length ≠ 0) (h1 : ¬ c = Str.ofString ".") : ¬ (c.length = 0 ∨ c = Str.ofString ".") := fun e => e.elim h h1
theorem nC (h : c.length ≠ 0) (h1 : ¬ c = Str.ofString ".") (h2 : ¬ c = Str.ofString "..") : acc ++ [c] = nstep sl acc c := by unfold nstep; rw [if_neg (nskip h h1), if_pos (.inl h2)]
theorem nD (h : c.length ≠ 0) (h1 : ¬ c = Str.ofString ".") (h2 : c = Str.ofString "..") (h3 : sl.length ≠ 0) : [] = nstep sl [] c := by
  unfold nstep; rw [if_neg (nskip h h1), if_neg]; rfl
  rintro (e | e | e)
  · exact e h2
  · exact h3 e.1
  · cases e
theorem nE (h : c.length ≠ 0) (h1 : ¬ c = Str.ofString ".") (h3 : sl.length = 0) : [] ++ [c] = nstep sl [] c := by
  unfold nstep; rw [if_neg (nskip h h1), if_pos (.inr (.inl ⟨h3, rfl⟩))]
theorem nF (h : c.length ≠ 0) (h1 : ¬ c = Str.ofString ".") (h2 : cl = Str.ofString "..") : acc ++ [cl] ++ [c] = nstep sl (acc ++ [cl]) c := by
  unfold nstep; rw [if_neg (nskip h h1), if_pos (.inr (.inr (by simp [h2])))]
theorem nG (h : c.length ≠ 0) (h1 : ¬ c = Str.ofString ".") (h2 : c = Str.ofString "..") (h3 : ¬ cl = Str.ofString "..") : acc = nstep sl (acc ++ [cl]) c := by
  unfold nstep; rw [if_neg (nskip h h1), if_neg]
  · simp
  · rintro (e | e | e)
    · exact e h2
    · simp at e
    · simp at e; exact h3 e
end
theorem nstep_sum (sl : Str) (acc : List Str) (c : Str) : wsum (nstep sl acc c) ≤ wsum acc + (c.length + 1) := by
  unfold nstep
  split
  · omega
  · split
    · rw [wsum_append, wsum_cons]; show _ ≤ _; unfold wsum; simp
    · rcases List.eq_nil_or_concat acc with h | ⟨l', a, h⟩
      · subst h; exact Nat.zero_le _
      · subst h
        rw [List.concat_eq_append, List.dropLast_concat, wsum_append]; omega
theorem nfold_sum (sl : Str) : ∀ (cs : List Str) (acc : List Str), wsum (cs.foldl (nstep sl) acc) ≤ wsum acc + wsum cs
  | [], _ => by simp [wsum]
  | c :: cs, acc => by
    have h1 := nfold_sum sl cs (nstep sl acc c)
    have h2 := nstep_sum sl acc c
    rw [wsum_cons]
    simp only [List.foldl_cons]
    omega
theorem nfold_sum' {sl : Str} {L cs : List Str} (h : L = cs.foldl (nstep sl) (List.map (fun x : Str × Tok => x.1) [])) : wsum L ≤ wsum cs := by
  have := nfold_sum sl cs []
  rw [h]; simpa [wsum] using this
theorem split_sum {l : List (Str × Tok)} {x : Str} (h : l.map (·.1) = Txt.split x (Str.ofString "/")) : wsum (l.map (·.1)) ≤ x.length + 1 := by
  have h1 := split_weight x (Str.ofString "/") (by decide +kernel)
  rw [← h] at h1
  have : ∀ L : List Str, wsum L = (L.map (·.length)).sum + L.length := by
    intro L
    induction L with
    | nil => rfl
    | cons x r ih => rw [wsum_cons, List.map_cons, List.sum_cons, List.length_cons]; omega
  rw [this]; exact h1
noncomputable def npath (x : Str) : Str := slOf x ++ Txt.join (Str.ofString "/") ((Txt.split (reOf x) (Str.ofString "/")).foldl (nstep (slOf x)) [])
noncomputable def normOf (x : Str) : Str := if x.length = 0 then Str.ofString "." else if (npath x).length = 0 then Str.ofString "." else npath x
theorem norm_e0 {x : Str} (h : (x.length : Int) = 0) : Str.ofString "." = normOf x := by unfold normOf; rw [if_pos (by omega)]
theorem norm_e1 {x : Str} {l nc : List (Str × Tok)} (h : (x.length : Int) ≠ 0) (hl : l.map (·.1) = Txt.split (reOf x) (Str.ofString "/")) (hn : nc.map (·.1) = (l.map (·.1)).foldl (nstep (slOf x)) (List.map (fun x : Str × Tok => x.1) []))
    (hz : ((slOf x ++ Txt.join (Str.ofString "/") (nc.map (·.1))).length : Int) ≠ 0) : slOf x ++ Txt.join (Str.ofString "/") (nc.map (·.1)) = normOf x := by
  have e : npath x = slOf x ++ Txt.join (Str.ofString "/") (nc.map (·.1)) := by unfold npath; rw [hn, hl]; rfl
  unfold normOf
  rw [if_neg (by omega), e, if_neg (by omega)]
theorem norm_e2 {x : Str} {l nc : List (Str × Tok)} (h : (x.length : Int) ≠ 0) (hl : l.map (·.1) = Txt.split (reOf x) (Str.ofString "/")) (hn : nc.map (·.1) = (l.map (·.1)).foldl (nstep (slOf x)) (List.map (fun x : Str × Tok => x.1) []))
    (hz : ((slOf x ++ Txt.join (Str.ofString "/") (nc.map (·.1))).length : Int) = 0) : Str.ofString "." = normOf x := by
  have e : npath x = slOf x ++ Txt.join (Str.ofString "/") (nc.map (·.1)) := by unfold npath; rw [hn, hl]; rfl
  unfold normOf
  rw [if_neg (by omega), e, if_pos (by omega)]
theorem nstep_len (sl : Str) (acc : List Str) (c : Str) : (nstep sl acc c).length ≤ acc.length + 1 := by
  unfold nstep
  split
  · omega
  · split
    · simp
    · rw [List.length_dropLast]; omega
theorem nfold_len (sl : Str) : ∀ (cs : List Str) (acc : List Str), (cs.foldl (nstep sl) acc).length ≤ acc.length + cs.length
  | [], _ => by simp
  | c :: cs, acc => by
    have h1 := nfold_len sl cs (nstep sl acc c)
    have h2 := nstep_len sl acc c
    simp only [List.foldl_cons, List.length_cons]
    omega
theorem slOf_len (x : Str) : (slOf x).length ≤ x.length + 1 := by
  unfold slOf
  split
  · exact Nat.zero_le _
  · split
    · exact Nat.le_add_left _ _
    · exact Nat.le_succ_of_le (PyProof.Txt.length_slice_le x _ _)
theorem norm_spec (w : World) (loose : List Str) (mean : ExcName → Option Value) (mg mb : Str → Option Value) (news : List (Addr × Obj)) (x : Str) (tk : Tok) (hsz : x.length ≤ 100000) :
    Cl 3 w loose mean mg mb 170 news [.str x tk] (fun t => .str (normOf x) t) := by
  dsimp only [Cl, CbRet]; k_fill; intros; rename_i hret
  refine wpAny_call ?_
  k_dflt cell_enter
  k_steps
  · (rename Fr _ _ _ _ => lF'); (with_unfolding_all refine' For_invVF lF' ?k1 ?k2 ?_; (case k1 => exact rfl); (case k2 => exact rfl))
    walk1
    (rename Fr _ _ _ _ => lF'); (rename News _ _ _ _ => lN')
    (with_unfolding_all refine' iter_foldS (nc₀ := []) (nstep (slOf x)) rfl lF' lN' (.head _) ?turn ?done)
    case turn =>
      intro i c t nc n h1 tk1 I oI hI hi hc hnc F1 N1
      dsimp only at F1 N1
      k_lt hI
      have hcl := (by assumption : ∀ a : Str, a ∈ List.map (fun x => x.1) _ → a.length ≤ _) c (List.mem_map.mpr ⟨_, hc, rfl⟩)
      have hcl2 : c.length ≤ 100000 := by omega
      have hsl := slOf_len x
      have hncl : nc.length ≤ i := by
        have h1 := congrArg List.length hnc
        rw [List.length_map] at h1
        rw [h1]
        refine Nat.le_trans (nfold_len _ _ _) ?_
        rw [List.map_nil, List.length_nil, List.length_take]
        omega
      have hncs : (strValues nc).length ≤ i := by unfold strValues; rw [List.length_map]; exact hncl
      rcases nil_or_snoc nc with rfl | ⟨nc', ⟨cl, tl⟩, rfl⟩
      all_goals k_steps
      all_goals (try dsimp only)
      all_goals (try ((rename News _ _ _ _ => lN2); rw [strValues_snoc] at lN2))
      all_goals (unfold FoldPost; dsimp only; refine ⟨_, _, _, _, _, rfl, (by assumption), (by intro y hy; exact if_neg hy), ?_, (by assumption)⟩)
      all_goals (simp only [beq_iff_eq, bne_iff_ne, ne_eq, beq_eq_false_iff_ne, bne_eq_false_iff_eq] at *)
      all_goals (simp only [List.map_append, List.map_cons, List.map_nil])
      all_goals (first
        | exact nA (by omega) | exact nB (by assumption) | exact nC (by omega) (by assumption) (by assumption) | exact nD (by omega) (by assumption) (by assumption) (by omega)
        | exact nE (by omega) (by assumption) (by omega) | exact nF (by omega) (by assumption) (by assumption) | exact nG (by omega) (by assumption) (by assumption) (by assumption))
    case done =>
      intro u nc n h1 tk1 hnc F1 N1
      dsimp only at F1 N1
      have hsl := slOf_len x
      have hsp := split_sum (by assumption)
      have hsum := nfold_sum' hnc
      have hok : JoinOk (Str.ofString "/") (List.map (fun x => x.1) nc) = true := joinOk_one (by decide +kernel) (by rw [sizeLine_eq]; omega)
      have hjl := join_len_one (sep := Str.ofString "/") (by decide +kernel) (List.map (fun x => x.1) nc)
      have hjl2 : (Txt.join (Str.ofString "/") (List.map (fun x => x.1) nc)).length ≤ 200000 := by omega
      (try dsimp only)
      k_steps
      all_goals (first | refine cb_retQ hret (norm_e1 (by assumption) (by assumption) hnc (by assumption)) ?_ ?_ | refine cb_retQ hret (norm_e2 (by assumption) (by assumption) hnc (by assumption)) ?_ ?_)
      all_goals (first | k_asm | (refine' cb_drop ?cbN ?cbS; (case cbN => assumption); (case cbS => kcj_all)))
  · refine cb_retQ hret (norm_e0 (by assumption)) ?_ ?_
    all_goals (first | k_asm | (refine' cb_drop ?cbN ?cbS; (case cbN => assumption); (case cbS => kcj_all)))
end Mine
end

section -- text FN5
theorem Mine.rows_off_FN5 : True := by
  k_with_none
  trivial
open PySem PySem.W PyProof.Rows
set_option Elab.async false
set_option maxRecDepth 100000
set_option maxHeartbeats 8000000
set_option linter.all false
namespace Mine
theorem lines_FN5_1 : True := by
  k_with_none
  k_with "call ref" => (k_here; (with_reducible show wpAny _ _ (call (Value.ref _) _) _ _ _); refine wpAny_call ?_; k_dflt (refine code_def (by k_asm) (by k_asm) (by k_asm) (by k_asm) (by k_asm) (by exact rfl) (by exact rfl) (by first | exact rfl | assumption) (by k_is) (by k_is) (by ktr_room) (by exact BindsTo.of_eq rfl) (by exact locs rfl) ?_ (by exact rfl) (by exact rfl) (by exact rfl) (by decide); k_whole; intro _ _ _ _ _ _ zB _ _; (try dsimp only); (try k_lift zB); (try k_fold)))
  k_with "call ref" => (k_here; (with_reducible show wpAny _ _ (call (Value.ref 135) [Value.str _ _]) _ _ _); k_dflt (refine use_cl2 (by k_asm) (by k_asm) (by k_asm) (by k_asm) (by k_asm) (by first | exact rfl | assumption) (by ktr_room) (by ktr_units) (fspath_spec _ _ _ _ _ _ _ _) ?_; k_whole); intro _ _ _ _ _; (try dsimp only); (try k_fold))
  k_with "call ref" => (k_here; (with_reducible show wpAny _ _ (call (Value.ref 149) [Value.str _ _]) _ _ _); k_dflt (refine use_cl2 (by k_asm) (by k_asm) (by k_asm) (by k_asm) (by k_asm) (by first | exact rfl | assumption) (by ktr_room) (by ktr_units) (getsep_spec _ _ _ _ _ _ _ _) ?_; k_whole); intro _ _ _ _ _; (try dsimp only); (try k_fold))
  k_with "call ref" => (k_here; (with_reducible show wpAny _ _ (call (Value.ref 182) [Value.int _ _]) _ _ _); k_dflt (refine use_cl2 (by k_asm) (by k_asm) (by k_asm) (by k_asm) (by k_asm) (by first | exact rfl | assumption) (by ktr_room) (by ktr_units) (ifmt_spec _ _ _ _ _ _ _ _) ?_; k_whole); intro _ _ _ _ _; (try dsimp only); (try k_fold))
  k_with "call ref" => (k_here; (with_reducible show wpAny _ _ (call (Value.ref 163) [Value.str _ _]) _ _ _); k_dflt (refine use_cn2 (by k_asm) (by k_asm) (by k_asm) (by k_asm) (by k_asm) (by first | exact rfl | assumption) (by ktr_room) (by ktr_units) (splitroot_spec _ _ _ _ _ _ _ _ (by first | assumption | omega)) ?_; k_whole); intro _ _ _ _ zP zl1 _ _; (try k_lt zl1); (try dsimp only); (obtain ⟨hre, t1, t2, t3, e'⟩ := zP); subst e'; (try k_fold))
  trivial
noncomputable def jstep (path b : Str) : Str := if Txt.startswith b (Str.ofString "/") = true ∨ path.length = 0 then b else if Txt.endswith path (Str.ofString "/") = true then path ++ b else path ++ (Str.ofString "/" ++ b)
theorem j1 {a c : Str} (h : Txt.startswith c (Str.ofString "/") = true) : c = jstep a c := by unfold jstep; rw [if_pos (.inl h)]
theorem j2 {a c : Str} (h : (a.length : Int) = 0) : c = jstep a c := by unfold jstep; rw [if_pos (.inr (by omega))]
theorem j3 {a c : Str} (h : Txt.startswith c (Str.ofString "/") = false) (h0 : (a.length : Int) ≠ 0) (h1 : Txt.endswith a (Str.ofString "/") = true) : a ++ c = jstep a c := by
  unfold jstep; rw [if_neg (by rw [h]; rintro (e | e); exact Bool.false_ne_true e; omega), if_pos h1]
theorem j4 {a c : Str} (h : Txt.startswith c (Str.ofString "/") = false) (h0 : (a.length : Int) ≠ 0) (h1 : Txt.endswith a (Str.ofString "/") = false) : a ++ (Str.ofString "/" ++ c) = jstep a c := by
  unfold jstep; rw [if_neg (by rw [h]; rintro (e | e); exact Bool.false_ne_true e; omega), if_neg (by rw [h1]; exact Bool.false_ne_true)]
theorem some_str {a b : Str} {t : Tok} (h : a = b) : some (Value.str a t) = some (Value.str b t) := by rw [h]
theorem jstep_len (path b : Str) : (jstep path b).length ≤ path.length + b.length + 1 := by
  unfold jstep
  have h1 : (Str.ofString "/").length = 1 := by decide +kernel
  split
  · omega
  · split
    · rw [Str.length_append]; omega
    · rw [Str.length_append, Str.length_append]; omega
theorem jfold_len : ∀ (cs : List Str) (a : Str), (cs.foldl jstep a).length ≤ a.length + wsum cs
  | [], a => by simp [wsum]
  | c :: cs, a => by
    have h1 := jfold_len cs (jstep a c)
    have h2 := jstep_len a c
    rw [wsum_cons, List.foldl_cons]; omega
theorem item_of {bl : List (Str × Tok)} {i : Nat} {v : Value} (h : (strValues bl)[i]? = some v) : ∃ c t, v = .str c t ∧ bl[i]? = some (c, t) := by
  unfold strValues at h
  rw [List.getElem?_map] at h
  cases e : bl[i]? with
  | none => rw [e] at h; cases h
  | some p => rw [e] at h; cases h; exact ⟨p.1, p.2, rfl, rfl⟩
theorem take_fold {bl : List (Str × Tok)} {i : Nat} {c : Str} {t : Tok} (h : bl[i]? = some (c, t)) (g : Str → Str → Str) (a : Str) : ((bl.map (·.1)).take (i + 1)).foldl g a = g (((bl.map (·.1)).take i).foldl g a) c := by
  rw [List.take_add_one, List.getElem?_map, h]; simp
theorem wsum_take (L : List Str) (i : Nat) : wsum (L.take i) ≤ wsum L := by
  have := congrArg wsum (List.take_append_drop i L)
  rw [wsum_append] at this; omega
theorem take_vals (bl : List (Str × Tok)) : List.take (strValues bl).length (bl.map (·.1)) = bl.map (·.1) :=
  List.take_of_length_le (by unfold strValues; rw [List.length_map, List.length_map]; exact Nat.le_refl _)
theorem wsum_all : ∀ {L : List Str} {k : Nat}, (∀ x ∈ L, x.length ≤ k) → wsum L ≤ L.length * (k + 1)
  | [], _, _ => Nat.zero_le _
  | x :: r, k, h => by
    have h1 := wsum_all fun y hy => h y (.tail _ hy)
    have h2 := h x (.head _)
    rw [wsum_cons, List.length_cons, Nat.succ_mul]; omega
theorem join_spec (w : World) (loose : List Str) (mean : ExcName → Option Value) (mg mb : Str → Option Value) (news : List (Addr × Obj)) (x : Str) (tk : Tok) (v0 v1 v2 v3 v4 v5 v6 v7 v8 v9 : Value) (bl : List (Str × Tok)) (hv : [v0, v1, v2, v3, v4, v5, v6, v7, v8, v9] = strValues bl) (hx : x.length ≤ 1000) (hn : bl.length ≤ 10) (hb : ∀ s ∈ bl.map (·.1), s.length ≤ 100) :
    Cl 3 w loose mean mg mb 156 news (.str x tk :: [v0, v1, v2, v3, v4, v5, v6, v7, v8, v9]) (fun t => .str (List.foldl jstep x (bl.map (·.1))) t) := by
  dsimp only [Cl, CbRet]; k_fill; intros; rename_i hret
  refine wpAny_call ?_
  (refine' kp_rest ?k1 ?k2 ?k3 ?k4 ?k5 ?kA ?kF ?kK ?k6 ?k7 ?k8 ?kV ?kP ?kG ?kB ?_ ?c2 ?c3 ?c4 ?c5; (case kA => exact rfl); (case kF => exact rfl); (case kK => first | exact rfl | assumption); (case k1 => k_asm); (case k2 => k_asm); (case k3 => k_asm); (case k4 => k_asm); (case k5 => k_asm); (case k6 => k_is); (case k7 => k_is); (case k8 => ktr_room); (case kV => exact rfl); (case kP => exact rfl); (case kG => exact fun _ => rfl); (case kB => exact fun _ => locs rfl); (case c5 => decide); (case c2 => exact rfl); (case c3 => exact rfl); (case c4 => exact rfl))
  intro D' g' L' h' l1 FG' F' N' B' X' T'
  rw [hv] at N'
  (try k_lt l1)
  (try dsimp only)
  (try k_lift B')
  (try k_fold)

  k_steps
  (rename Fr _ _ _ _ => lF'); (with_unfolding_all refine' For_invVF lF' ?k1 ?k2 ?_; (case k1 => exact rfl); (case k2 => exact rfl))
  walk1
  (rename Fr _ _ _ _ => lF'); (rename News _ _ _ _ => lN')
  have hw : wsum (bl.map (·.1)) ≤ 1100 := Nat.le_trans (wsum_all hb) (by rw [List.length_map]; omega)
  (with_unfolding_all refine' iter_foldT (iters_tup (n₀ := 0) (vs := strValues bl) rfl lF' lN' (.head _)) (fun p hp => List.mem_singleton.mp hp ▸ .head _) (Str.ofString "path") (by decide +kernel) (fun i => ((List.map (fun x : Str × Tok => x.1) bl).take i).foldl jstep x) _ rfl ?turn ?done)
  case turn =>
    intro i v t h1 tk1 I oI hI hi hP F1 N1
    dsimp only at F1 N1
    k_lt hI
    refine hideP ?_
    intro G kG
    obtain ⟨c, tc, ev, hc⟩ := item_of hP
    refine kG ?_
    clear kG
    subst ev
    have hcl : c.length ≤ 100 := hb c (List.mem_map.mpr ⟨_, List.mem_of_getElem? hc, rfl⟩)
    rw [take_fold hc]
    have hG := jfold_len (List.take i (List.map (fun x : Str × Tok => x.1) bl)) x
    have hG2 := wsum_take (List.map (fun x : Str × Tok => x.1) bl) i
    generalize (List.take i (List.map (fun x : Str × Tok => x.1) bl)).foldl jstep x = acc at *
    have hacc : acc.length ≤ 3000 := by omega
    clear hG hG2 hw
    k_steps
    all_goals (unfold TextPost; dsimp only; refine ⟨_, _, _, rfl, (by assumption), (by assumption), (by intro y e1 e2; simp only [if_neg e1, if_neg e2]), ?_⟩)
    all_goals (first | exact ⟨_, (if_pos rfl).trans (some_str (j1 (by assumption)))⟩ | exact ⟨_, (if_pos rfl).trans (some_str (j2 (by assumption)))⟩ | exact ⟨_, (if_pos rfl).trans (some_str (j3 (by assumption) (by assumption) (by assumption)))⟩ | exact ⟨_, (if_pos rfl).trans (some_str (j4 (by assumption) (by assumption) (by assumption)))⟩)
  case done =>
    intro u t h1 tk1 F1 N1
    dsimp only at F1 N1
    k_steps
    refine cb_retQ hret (by rw [take_vals]) ?_ ?_
    all_goals (first | k_asm | (refine' cb_drop ?cbN ?cbS; (case cbN => assumption); (case cbS => kcj_all)))

end Mine
end

section -- text FN6
theorem Mine.rows_off_FN6 : True := by
  k_with_none
  trivial
open PySem PySem.W PyProof.Rows
set_option Elab.async false
set_option maxRecDepth 100000
set_option maxHeartbeats 8000000
set_option linter.all false
namespace Mine
theorem lines_FN6_1 : True := by
  k_with_none
  k_with "my_steps" => repeat' ((fail_if_success (with_reducible show wpAny _ _ (pyIter _) _ _ _)); first | (k_unfold; (try dsimp only)) | (k_end; kc_close) | walk1 | (dsimp only; walk1) | (leave1; walk_say "STEP leave1"; (try dsimp only)) | fail "no step")
  k_with "call ref" => (k_here; (with_reducible show wpAny _ _ (call (Value.ref _) _) _ _ _); refine wpAny_call ?_; k_dflt (refine code_def (by k_asm) (by k_asm) (by k_asm) (by k_asm) (by k_asm) (by exact rfl) (by exact rfl) (by first | exact rfl | assumption) (by k_is) (by k_is) (by ktr_room) (by exact BindsTo.of_eq rfl) (by exact locs rfl) ?_ (by exact rfl) (by exact rfl) (by exact rfl) (by decide); k_whole; intro _ _ _ _ _ _ zB _ _; (try dsimp only); (try k_lift zB); (try k_fold)))
  k_with "binaryOp Mult ref int" => (k_here; k_dflt (refine mulK (by k_asm) (by k_asm) (by k_mem) (by omega) (by omega) ?_; k_whole); intro _ _ _ _ zl1; (try k_lt zl1); (try k_fold))
  k_with "call builtin:list.extend" => (k_here; k_dflt (refine extK (by k_asm) (by k_asm) (by k_mem) (by k_updF) (by (simp only [List.length_replicate]; omega)) ?_; k_whole); intro _ _ _ zN; (try dsimp only at zN))
  k_with "subscriptTail Name Slice ref ref" => (k_here; (with_reducible show wpAny _ _ (subscriptTail _ (PySem.Expr.Slice none none (some _) _) (Value.ref _) (Value.ref _)) _ _ _); k_dflt (refine revK2 (by k_asm) (by k_asm) (by k_mem) (by (simp only [strValues, List.length_map, List.length_append, List.length_replicate]; omega)) (by exact IsPart.int _ _) (by kmk_pure) (by with_unfolding_all rfl) ?_; k_whole); intro _ _ _ _ zl1; (try k_lt zl1); (try k_fold))
  k_with "call ref" => (k_here; (with_reducible show wpAny _ _ (call (Value.ref 135) [Value.str _ _]) _ _ _); k_dflt (refine use_cl2 (by k_asm) (by k_asm) (by k_asm) (by k_asm) (by k_asm) (by first | exact rfl | assumption) (by ktr_room) (by ktr_units) (fspath_spec _ _ _ _ _ _ _ _) ?_; k_whole); intro _ _ _ _ _; (try dsimp only); (try k_fold))
  k_with "call ref" => (k_here; (with_reducible show wpAny _ _ (call (Value.ref 149) [Value.str _ _]) _ _ _); k_dflt (refine use_cl2 (by k_asm) (by k_asm) (by k_asm) (by k_asm) (by k_asm) (by first | exact rfl | assumption) (by ktr_room) (by ktr_units) (getsep_spec _ _ _ _ _ _ _ _) ?_; k_whole); intro _ _ _ _ _; (try dsimp only); (try k_fold))
  k_with "call ref" => (k_here; (with_reducible show wpAny _ _ (call (Value.ref 182) [Value.int _ _]) _ _ _); k_dflt (refine use_cl2 (by k_asm) (by k_asm) (by k_asm) (by k_asm) (by k_asm) (by first | exact rfl | assumption) (by ktr_room) (by ktr_units) (ifmt_spec _ _ _ _ _ _ _ _) ?_; k_whole); intro _ _ _ _ _; (try dsimp only); (try k_fold))
  k_with "call ref" => (k_here; (with_reducible show wpAny _ _ (call (Value.ref 163) [Value.str _ _]) _ _ _); k_dflt (refine use_cn2 (by k_asm) (by k_asm) (by k_asm) (by k_asm) (by k_asm) (by first | exact rfl | assumption) (by ktr_room) (by ktr_units) (splitroot_spec _ _ _ _ _ _ _ _ (by first | assumption | omega)) ?_; k_whole); intro _ _ _ _ zP zl1 _ _; (try k_lt zl1); (try dsimp only); (obtain ⟨hre, t1, t2, t3, e'⟩ := zP); subst e'; (try k_fold))
  trivial
noncomputable def one (c : Nat) : Str := ⟨#[c]⟩
theorem dash_is : Str.ofString "-" = one 45 := by decide +kernel
theorem one_inj {a b : Nat} (h : one a = one b) : a = b := by
  have h1 : (#[a] : Array Nat) = #[b] := congrArg Str.cps h
  simpa using h1
theorem one_dash {c : Nat} : (one c == Str.ofString "-") = true → c = 45 := fun h => one_inj ((beq_iff_eq.mp h).trans dash_is)
theorem one_nodash {c : Nat} : (one c == Str.ofString "-") = false → c ≠ 45 := fun h e => by subst e; rw [dash_is] at h; exact absurd (beq_iff_eq.mpr rfl) (by rw [h]; exact Bool.false_ne_true)
noncomputable def lstep (dots : Int) (st : List Str × Int) (c : Nat) : List Str × Int :=
  if c = 45 ∧ dots = 2 then (st.1, st.2 + 1) else if c ≠ 45 ∧ 0 < st.2 then (st.1, st.2 - 1) else if c ≠ 45 ∨ dots = 3 then (st.1 ++ [if c = 45 then Str.ofString "..." else one c], st.2) else st
noncomputable def lfold (dots : Int) (sg : List Nat) (i : Nat) : List Str × Int := (sg.reverse.take i).foldl (lstep dots) ([], 0)
theorem lstep_len (dots : Int) (st : List Str × Int) (c : Nat) : (lstep dots st c).1.length ≤ st.1.length + 1 ∧ (lstep dots st c).2 ≤ st.2 + 1 ∧ (0 ≤ st.2 → 0 ≤ (lstep dots st c).2) := by
  unfold lstep
  split
  · exact ⟨by simp, by simp, fun h => by show 0 ≤ st.2 + 1; omega⟩
  · split
    · rename_i h; exact ⟨by simp, by show st.2 - 1 ≤ _; omega, fun _ => by show 0 ≤ st.2 - 1; omega⟩
    · split
      · exact ⟨by simp, by simp; omega, fun h => h⟩
      · exact ⟨by omega, by omega, fun h => h⟩
theorem lfold_succ {dots : Int} {sg : List Nat} (hs : sg.length = 10) {i : Nat} (hi : i < 10) : lfold dots sg (i + 1) = lstep dots (lfold dots sg i) (sg.getD (9 - i) 0) := by
  unfold lfold
  rw [List.take_add_one, List.foldl_append]
  have : sg.reverse[i]? = some (sg.getD (9 - i) 0) := by
    rw [List.getElem?_reverse (by omega)]
    have e : sg.length - 1 - i = 9 - i := congrArg (fun k => k - 1 - i) hs
    rw [e, List.getD_eq_getElem?_getD, List.getElem?_eq_getElem (by omega)]; rfl
  rw [this]; rfl
theorem lfold_len {dots : Int} {sg : List Nat} (hs : sg.length = 10) : ∀ i, i ≤ 10 → (lfold dots sg i).1.length ≤ i ∧ (lfold dots sg i).2 ≤ i ∧ 0 ≤ (lfold dots sg i).2
  | 0, _ => ⟨by simp [lfold], by simp [lfold], by simp [lfold]⟩
  | i + 1, h => by
    have h1 := lfold_len (dots := dots) hs i (by omega)
    have h2 := lstep_len dots (lfold dots sg i) (sg.getD (9 - i) 0)
    rw [lfold_succ hs (by omega)]
    exact ⟨by omega, by push_cast; omega, h2.2.2 h1.2.2⟩
theorem item_is {x : Str} (hx : x.length = 10) {i : Nat} (hi : i < 10) : Txt.item x ((i : Nat) : Int) = one (x.cps.toList.getD i 0) := by
  have hs : x.cps.size = 10 := hx
  have : x.cps[(((i : Nat) : Int)).toNat]? = some (x.cps.toList.getD i 0) := by
    rw [Int.toNat_natCast]
    simp [hs, hi]
  exact item_meets (by omega) this
section
variable {S : Str} {c : Nat} {dots : Int} {st : List Str × Int}
theorem bad1 {S T : Str} (h : (S == T) = true) (h' : (S != T) = true) : False := by simp [bne, h] at h'
theorem bad2 {S T : Str} (h : (S == T) = false) (h' : (S != T) = false) : False := by simp [bne, h] at h'
noncomputable def namesOf (dots : Int) (x root : Str) : List Str := ((lfold dots x.cps.toList 10).1 ++ (if (root == Str.ofString "") = true then List.replicate (lfold dots x.cps.toList 10).2.toNat (Str.ofString "..") else [])).reverse
theorem names_e1 {x root : Str} {nc : List (Str × Tok)} {t : Tok} (hst : lfold dots x.cps.toList 10 = st) (hnc : nc.map (·.1) = st.1) (h : (root == Str.ofString "") = true) : ((nc ++ List.replicate st.2.toNat (Str.ofString "..", t)).reverse).map (·.1) = namesOf dots x root := by
  unfold namesOf; rw [hst, if_pos h, List.map_reverse, List.map_append, hnc, List.map_replicate]
theorem names_e2 {x root : Str} {nc : List (Str × Tok)} (hst : lfold dots x.cps.toList 10 = st) (hnc : nc.map (·.1) = st.1) (h : (root == Str.ofString "") = false) : (nc.reverse).map (·.1) = namesOf dots x root := by
  unfold namesOf; rw [hst, if_neg (by rw [h]; exact Bool.false_ne_true), List.append_nil, List.map_reverse, hnc]
theorem allLt_to {d : Addr} : ∀ {l : List (Addr × Obj)}, W.AllLt d l → ∀ p ∈ l, p.1 < d
  | [], _, _, hp => nomatch hp
  | _ :: _, h, p, hp => (List.mem_cons.mp hp).elim (fun e => e ▸ h.1) fun hp => allLt_to h.2 p hp
theorem le1 (hS : S = one c) (h : (S == Str.ofString "-") = true) (h2 : dots = 2) : (st.1, st.2 + 1) = lstep dots st c := by
  subst hS; unfold lstep; rw [if_pos ⟨one_dash h, h2⟩]
theorem le2 (hS : S = one c) (h : (S == Str.ofString "-") = false) (h2 : st.2 > 0) : (st.1, st.2 - 1) = lstep dots st c := by
  subst hS; unfold lstep; rw [if_neg (fun e => one_nodash h e.1), if_pos ⟨one_nodash h, h2⟩]
theorem le3 (hS : S = one c) (h : (S == Str.ofString "-") = false) (h2 : ¬ st.2 > 0) : (st.1 ++ [S], st.2) = lstep dots st c := by
  subst hS; unfold lstep; rw [if_neg (fun e => one_nodash h e.1), if_neg (fun e => h2 e.2), if_pos (.inl (one_nodash h)), if_neg (one_nodash h)]
theorem le4 (hS : S = one c) (h : (S == Str.ofString "-") = true) (h2 : dots = 3) : (st.1 ++ [Str.ofString "..."], st.2) = lstep dots st c := by
  subst hS; unfold lstep; rw [if_neg (fun e => by omega), if_neg (fun e => e.1 (one_dash h)), if_pos (.inr h2), if_pos (one_dash h)]
theorem le5 (hS : S = one c) (h : (S == Str.ofString "-") = true) (h2 : dots ≠ 2) (h3 : dots ≠ 3) : st = lstep dots st c := by
  subst hS; unfold lstep; rw [if_neg (fun e => h2 e.2), if_neg (fun e => e.1 (one_dash h)), if_neg (fun e => e.elim (fun e => e (one_dash h)) h3)]
end
theorem names_spec (w : World) (loose : List Str) (mean : ExcName → Option Value) (mg mb : Str → Option Value) (news : List (Addr × Obj)) (x : Str) (tk : Tok) (dots : Int) (td : Tok) (root : Str) (tr : Tok) (hx : x.length = 10) (hd : dots = 1 ∨ dots = 2 ∨ dots = 3) (hr : root.length ≤ 2) :
    ClN 1 w loose mean mg mb 236 news [.str x tk, .int dots td, .str root tr] (fun o => ∃ l : List (Str × Tok), o = W.listOf (strValues l).toArray 0 ∧ l.map (·.1) = namesOf dots x root) := by
  dsimp only [ClN]; k_fill; intros; rename_i hret
  refine wpAny_call ?_
  k_dflt cell_enter
  walk_at "my_steps"
  (rename Fr _ _ _ _ => lF'); (rename News _ _ _ _ => lN'); (rename IsRange _ _ _ _ _ _ _ _ => lR')
  have lN2 := cb_drop lN' (fun p hp => List.Mem.tail _ hp)
  rw [hx] at lR'
  have e1 : Str.ofString "debts" ≠ Str.ofString "place" := by decide +kernel
  have e2 : Str.ofString "debts" ≠ Str.ofString "sign" := by decide +kernel
  have e3 : Str.ofString "sign" ≠ Str.ofString "place" := by decide +kernel
  have e6 : Str.ofString "debts" ≠ Str.ofString "names" := by decide +kernel
  have e4 : Builtin.Range.small (((10 : Nat) : Int) - 1) (-1) (-1) = true := by decide +kernel
  have e5 : Builtin.Range.rangeSize (((10 : Nat) : Int) - 1) (-1) (-1) = ((10 : Nat) : Int) := by decide +kernel
  have hsg : x.cps.toList.length = 10 := hx
  (with_unfolding_all refine' iter_foldLI (nc₀ := []) (Str.ofString "debts") (Str.ofString "sign") e1 e2 e3 (lfold dots x.cps.toList) (iters_rng (n := 10) rfl lF' lN2 lR' e4 e5) ?hg ?hz ?turn ?done)
  case hg => simp [lfold]
  case hz => exact ⟨_, Eq.trans (if_neg e6) (if_pos rfl)⟩
  case turn =>
    intro i v nc n' t u h1 tk1 I oI hI hi hP hnc F1 N1
    dsimp only at F1 N1
    k_lt hI
    obtain ⟨t', rfl⟩ := hP
    have hk : (((10 : Nat) : Int) - 1 + (i : Int) * (-1)) = ((9 - i : Nat) : Int) := by omega
    rw [hk] at F1
    clear hk
    have hq : 9 - i < 10 := Nat.lt_of_le_of_lt (Nat.sub_le 9 i) (by decide)
    have hit := item_is hx hq
    rw [lfold_succ hsg hi]
    have hb := lfold_len (dots := dots) hsg i (Nat.le_of_lt hi)
    generalize lfold dots x.cps.toList i = st at *
    generalize 9 - i = q at *
    have hncl : (strValues nc).length ≤ 10 := by
      have := congrArg List.length hnc
      rw [List.length_map] at this
      unfold strValues; rw [List.length_map]; omega
    have hst0 := hb.2.2
    have hst1 : st.2 ≤ 10 := by omega
    clear hb
    k_steps
    all_goals (try dsimp only)
    all_goals (try ((rename News _ _ _ _ => lN3); rw [strValues_snoc] at lN3))
    all_goals (unfold LIPost; dsimp only; refine ⟨_, _, _, _, _, rfl, (by assumption), (by assumption), ?_, (by intro y e1 e2 e3; simp only [if_neg e1, if_neg e2, if_neg e3]), ?_⟩)
    all_goals (first | (exfalso; exact bad1 (by assumption) (by assumption)) | (exfalso; exact bad2 (by assumption) (by assumption)) | skip)
    all_goals (first
      | rw [← le1 hit (by assumption) (by assumption)] | rw [← le2 hit (by assumption) (by assumption)] | rw [← le3 hit (by assumption) (by assumption)] | rw [← le4 hit (by assumption) (by assumption)] | rw [← le5 hit (by assumption) (by assumption) (by assumption)])
    all_goals (first
      | exact hnc
      | (rw [List.map_append, hnc]; rfl)
      | exact ⟨_, if_pos rfl⟩
      | exact ⟨_, (if_neg e2).trans ((if_neg e1).trans ((if_neg e2).trans (if_pos rfl)))⟩)

  case done =>
    intro u u' t nc n' h1 tk1 hnc F1 N1
    dsimp only at F1 N1
    have hb := lfold_len (dots := dots) hsg 10 (by omega)
    generalize hst : lfold dots x.cps.toList 10 = st at *
    have hncl : nc.length ≤ 10 := by
      have := congrArg List.length hnc
      rw [List.length_map] at this
      omega
    have hst0 := hb.2.2
    have hst1 : st.2 ≤ 10 := hb.2.1
    (try dsimp only)
    walk_at "my_steps"
    all_goals (refine' hret _ _ _ _ ?e1 ?e2 ?e3 ?e4; (case e4 => (refine' cb_drop ?cbN ?cbS; (case cbN => assumption); (case cbS => kcj_all))); (case e3 => k_asm); (case e2 => first | exact allLt_to (by assumption) | exact allLt_to (And.right (by assumption)) | exact allLt_to (And.right (And.right (by assumption))) | exact allLt_to (And.right (And.right (And.right (by assumption)))) | exact allLt_to (And.right (And.right (And.right (And.right (by assumption))))) | exact allLt_to (And.right (And.right (And.right (And.right (And.right (by assumption))))))); (case e1 => first | exact ⟨_, rfl, names_e1 hst hnc (by assumption)⟩ | exact ⟨_, rfl, names_e2 hst hnc (by assumption)⟩))


end Mine
end

section -- text FN7
theorem Mine.rows_off_FN7 : True := by
  k_with_none
  trivial
open PySem PySem.W PyProof.Rows
set_option Elab.async false
set_option maxRecDepth 100000
set_option maxHeartbeats 8000000
set_option linter.all false
namespace Mine
theorem lines_FN7_1 : True := by
  k_with_none
  k_with "my_steps" => repeat' ((fail_if_success (with_reducible show wpAny _ _ (pyIter _) _ _ _)); first | (k_unfold; (try dsimp only)) | (k_end; kc_close) | walk1 | (dsimp only; walk1) | (leave1; walk_say "STEP leave1"; (try dsimp only)) | fail "no step")
  k_with "call ref" => (k_here; (with_reducible show wpAny _ _ (call (Value.ref _) _) _ _ _); refine wpAny_call ?_; k_dflt (refine code_def (by k_asm) (by k_asm) (by k_asm) (by k_asm) (by k_asm) (by exact rfl) (by exact rfl) (by first | exact rfl | assumption) (by k_is) (by k_is) (by ktr_room) (by exact BindsTo.of_eq rfl) (by exact locs rfl) ?_ (by exact rfl) (by exact rfl) (by exact rfl) (by decide); k_whole; intro _ _ _ _ _ _ zB _ _; (try dsimp only); (try k_lift zB); (try k_fold)))
  k_with "call ref" => (k_here; (with_reducible show wpAny _ _ (call (Value.ref 135) [Value.str _ _]) _ _ _); k_dflt (refine use_cl2 (by k_asm) (by k_asm) (by k_asm) (by k_asm) (by k_asm) (by first | exact rfl | assumption) (by ktr_room) (by ktr_units) (fspath_spec _ _ _ _ _ _ _ _) ?_; k_whole); intro _ _ _ _ _; (try dsimp only); (try k_fold))
  k_with "call ref" => (k_here; (with_reducible show wpAny _ _ (call (Value.ref 149) [Value.str _ _]) _ _ _); k_dflt (refine use_cl2 (by k_asm) (by k_asm) (by k_asm) (by k_asm) (by k_asm) (by first | exact rfl | assumption) (by ktr_room) (by ktr_units) (getsep_spec _ _ _ _ _ _ _ _) ?_; k_whole); intro _ _ _ _ _; (try dsimp only); (try k_fold))
  k_with "call ref" => (k_here; (with_reducible show wpAny _ _ (call (Value.ref 182) [Value.int _ _]) _ _ _); k_dflt (refine use_cl2 (by k_asm) (by k_asm) (by k_asm) (by k_asm) (by k_asm) (by first | exact rfl | assumption) (by ktr_room) (by ktr_units) (ifmt_spec _ _ _ _ _ _ _ _) ?_; k_whole); intro _ _ _ _ _; (try dsimp only); (try k_fold))
  k_with "call ref" => (k_here; (with_reducible show wpAny _ _ (call (Value.ref 163) [Value.str _ _]) _ _ _); k_dflt (refine use_cn2 (by k_asm) (by k_asm) (by k_asm) (by k_asm) (by k_asm) (by first | exact rfl | assumption) (by ktr_room) (by ktr_units) (splitroot_spec _ _ _ _ _ _ _ _ (by first | assumption | omega)) ?_; k_whole); intro _ _ _ _ zP zl1 _ _; (try k_lt zl1); (try dsimp only); (obtain ⟨hre, t1, t2, t3, e'⟩ := zP); subst e'; (try k_fold))
  trivial
theorem some_strR {a b : Str} {t : Tok} (h : a = b) : some (Value.str a t) = some (Value.str b t) := by rw [h]
noncomputable def rw4 (t : Int) : Str := if 4 ≤ t then (if 2 ≤ t.fmod 4 then Str.ofString "rw" else Str.ofString "r-") else (if 2 ≤ t.fmod 4 then Str.ofString "-w" else Str.ofString "--")
noncomputable def xs2 (V f a : Int) (e : Str) : Str := if (V.fdiv a).fmod 2 = 1 then Txt.item e (((V.fdiv f).fmod 8).fmod 2) else Txt.item (Str.ofString "-x") (((V.fdiv f).fmod 8).fmod 2)
noncomputable def rowS (V f a : Int) (e g : Str) : Str := g ++ rw4 ((V.fdiv f).fmod 8) ++ xs2 V f a e
noncomputable def row0 (V : Int) : Str := Txt.item (Str.ofString "?pc?d?b?-?l?s???") ((V.fdiv 4096).fmod 16)
noncomputable def row1 (V : Int) : Str := rowS V 64 2048 (Str.ofString "Ss") (row0 V)
noncomputable def row2 (V : Int) : Str := rowS V 8 1024 (Str.ofString "Ss") (row1 V)
noncomputable def row3 (V : Int) : Str := rowS V 1 512 (Str.ofString "Tt") (row2 V)
noncomputable def rowG (V : Int) : Nat → Str
  | 0 => row0 V
  | 1 => row1 V
  | 2 => row2 V
  | _ => row3 V
theorem rw4_len (t : Int) : (rw4 t).length = 2 := by unfold rw4; split <;> split <;> decide +kernel
theorem xs2_len (V f a : Int) (e : Str) : (xs2 V f a e).length = 1 := by unfold xs2; split <;> rfl
theorem rowS_len (V f a : Int) (e g : Str) : (rowS V f a e g).length = g.length + 3 := by unfold rowS; rw [Str.length_append, Str.length_append, rw4_len, xs2_len]
theorem rowG_len (V : Int) (i : Nat) : (rowG V i).length ≤ 10 := by
  have h0 : (row0 V).length = 1 := rfl
  have h1 : (row1 V).length = 4 := by unfold row1; rw [rowS_len, h0]
  have h2 : (row2 V).length = 7 := by unfold row2; rw [rowS_len, h1]
  have h3 : (row3 V).length = 10 := by unfold row3; rw [rowS_len, h2]
  unfold rowG
  split <;> omega
theorem law_tuples {h₀ h : Heap} {L I DD D1 D2 D3 : Addr} {oI : Obj} {rest : List (Addr × Obj)} {a1 b1 c1 a2 b2 c2 a3 b3 c3 : Tok} {V : Int} {i : Nat} {v : Value}
    (_N : News h₀ L h ((I, oI) :: (DD, ({ cls := .type "tuple", data := .seq #[.ref D3, .ref D2, .ref D1] } : Obj)) :: (D1, ({ cls := .type "tuple", data := .seq #[.int 1 a1, .int 512 b1, .str (Str.ofString "Tt") c1] } : Obj)) :: (D2, ({ cls := .type "tuple", data := .seq #[.int 8 a2, .int 1024 b2, .str (Str.ofString "Ss") c2] } : Obj)) :: (D3, ({ cls := .type "tuple", data := .seq #[.int 64 a3, .int 2048 b3, .str (Str.ofString "Ss") c3] } : Obj)) :: rest))
    (hv : [Value.ref D3, .ref D2, .ref D1][i]? = some v) :
    ∃ D f tf a ta e te, v = .ref D ∧ (D, ({ cls := .type "tuple", data := .seq #[.int f tf, .int a ta, .str e te] } : Obj)) ∈ ((I, oI) :: (DD, ({ cls := .type "tuple", data := .seq #[.ref D3, .ref D2, .ref D1] } : Obj)) :: (D1, ({ cls := .type "tuple", data := .seq #[.int 1 a1, .int 512 b1, .str (Str.ofString "Tt") c1] } : Obj)) :: (D2, ({ cls := .type "tuple", data := .seq #[.int 8 a2, .int 1024 b2, .str (Str.ofString "Ss") c2] } : Obj)) :: (D3, ({ cls := .type "tuple", data := .seq #[.int 64 a3, .int 2048 b3, .str (Str.ofString "Ss") c3] } : Obj)) :: rest) ∧
      (f = 64 ∨ f = 8 ∨ f = 1) ∧ (a = 2048 ∨ a = 1024 ∨ a = 512) ∧ e.length = 2 ∧ rowG V (i + 1) = rowS V f a e (rowG V i) := by
  have hS : (Str.ofString "Ss").length = 2 := by decide +kernel
  have hT : (Str.ofString "Tt").length = 2 := by decide +kernel
  match i, hv with
  | 0, hv => exact ⟨_, 64, _, 2048, _, Str.ofString "Ss", _, (Option.some.inj hv).symm, .tail _ (.tail _ (.tail _ (.tail _ (.head _)))), .inl rfl, .inl rfl, hS, rfl⟩
  | 1, hv => exact ⟨_, 8, _, 1024, _, Str.ofString "Ss", _, (Option.some.inj hv).symm, .tail _ (.tail _ (.tail _ (.head _))), .inr (.inl rfl), .inr (.inl rfl), hS, rfl⟩
  | 2, hv => exact ⟨_, 1, _, 512, _, Str.ofString "Tt", _, (Option.some.inj hv).symm, .tail _ (.tail _ (.head _)), .inr (.inr rfl), .inr (.inr rfl), hT, rfl⟩
section
variable {t V f a : Int} {e g X Y : Str}
theorem q1 (h : 4 ≤ t) (h' : 2 ≤ t.fmod 4) : rw4 t = Str.ofString "rw" := by unfold rw4; rw [if_pos h, if_pos h']
theorem q2 (h : 4 ≤ t) (h' : ¬ 2 ≤ t.fmod 4) : rw4 t = Str.ofString "r-" := by unfold rw4; rw [if_pos h, if_neg h']
theorem q3 (h : ¬ 4 ≤ t) (h' : 2 ≤ t.fmod 4) : rw4 t = Str.ofString "-w" := by unfold rw4; rw [if_neg h, if_pos h']
theorem q4 (h : ¬ 4 ≤ t) (h' : ¬ 2 ≤ t.fmod 4) : rw4 t = Str.ofString "--" := by unfold rw4; rw [if_neg h, if_neg h']
theorem q5 (h : (V.fdiv a).fmod 2 = 1) : xs2 V f a e = Txt.item e (((V.fdiv f).fmod 8).fmod 2) := by unfold xs2; rw [if_pos h]
theorem q6 (h : (V.fdiv a).fmod 2 ≠ 1) : xs2 V f a e = Txt.item (Str.ofString "-x") (((V.fdiv f).fmod 8).fmod 2) := by unfold xs2; rw [if_neg h]
theorem rowS_eq (h1 : rw4 ((V.fdiv f).fmod 8) = X) (h2 : xs2 V f a e = Y) : g ++ X ++ Y = rowS V f a e g := by unfold rowS; rw [h1, h2]
end
set_option maxHeartbeats 8000000 in
theorem lr_f {f : Int} (h : f = 64 ∨ f = 8 ∨ f = 1) : 1 ≤ f ∧ f.natAbs < 1073741824 := by rcases h with rfl | rfl | rfl <;> decide
theorem lr_a {f : Int} (h : f = 2048 ∨ f = 1024 ∨ f = 512) : 1 ≤ f ∧ f.natAbs < 1073741824 := by rcases h with rfl | rfl | rfl <;> decide
theorem lr_spec (w : World) (loose : List Str) (mean : ExcName → Option Value) (mg mb : Str → Option Value) (news : List (Addr × Obj)) (V : Int) (tk : Tok) (h0 : 0 ≤ V) (h1 : V < 1048576) :
    Cl 2 w loose mean mg mb 229 news [.int V tk] (fun t => .str (rowG V 3) t) := by
  dsimp only [Cl, CbRet]; k_fill; intros; rename_i hret
  refine wpAny_call ?_
  k_dflt cell_enter
  walk_at "my_steps"
  (rename Fr _ _ _ _ => lF'); (rename News _ _ _ _ => lN')
  (with_unfolding_all refine' turns_foldT4 (Str.ofString "figure") (Str.ofString "above") (Str.ofString "ends") (Str.ofString "three") (Str.ofString "row") (rowG V) rfl lF' lN' (.head _) ?hz ?turn ?done)
  case hz => exact ⟨_, if_pos rfl⟩
  case turn =>
    intro i v ua ub uc ud t h1 tk1 I oI hI hv F1 N1
    dsimp only at F1 N1
    have hG := rowG_len V i
    refine hideP ?_
    intro G kG
    obtain ⟨D, f, tf, a, ta, e, te, ev, hD, hf, ha, he, hR⟩ := law_tuples (V := V) N1 hv
    refine kG ?_
    clear kG
    subst ev
    rw [hR]
    k_lt hI
    have hf1 := (lr_f hf).1
    have hf2 := (lr_f hf).2
    have ha1 := (lr_a ha).1
    have ha2 := (lr_a ha).2
    clear hR hf ha
    generalize rowG V i = g0 at *
    have k0 : 0 ≤ ((V.fdiv f).fmod 8).fmod 2 := Int.fmod_nonneg_of_pos _ (by decide)
    have k1 : ((V.fdiv f).fmod 8).fmod 2 < (e.length : Int) := by rw [he]; exact Int.fmod_lt_of_pos _ (by decide)
    walk_at "my_steps"
    all_goals (try (unfold TextPost4; dsimp only; refine ⟨_, _, _, rfl, (by assumption), (by assumption), (by intro y e1 e2 e3 e4 e5; simp only [if_neg e1, if_neg e2, if_neg e3, if_neg e4, if_neg e5]), ?_⟩))
    all_goals (try exact ⟨_, (if_pos rfl).trans (some_strR (rowS_eq (by first | exact q1 (by assumption) (by assumption) | exact q2 (by assumption) (by assumption) | exact q3 (by assumption) (by assumption) | exact q4 (by assumption) (by assumption)) (by first | exact q5 (by assumption) | exact q6 (by assumption))))⟩)
  case done =>
    intro ua ub uc ud t h1 tk1 F1 N1
    dsimp only at F1 N1
    walk_at "my_steps"
    refine cb_retQ hret (by rfl) ?_ ?_
    all_goals (first | k_asm | (refine' cb_drop ?cbN ?cbS; (case cbN => assumption); (case cbS => kcj_all)))

end Mine
end

section -- text ELSE
theorem Mine.rows_off_ELSE : True := by
  k_with_none
  trivial
open PySem PySem.W PyProof.Rows
set_option Elab.async false
set_option maxRecDepth 100000
set_option maxHeartbeats 1000000
set_option linter.all false
namespace Mine
section
variable {prog : Program} {w : World} {A : Around} {E : Value → Shared → Prop} {s : Shared} {env : Env} {h₀ : Heap} {target : Expr} {body orelse : List Stmt} {Q : Flow → Shared → Prop} {m₀ : Str → Option Value} {news : List (Addr × Obj)}
/-- a for with an else, its source read -/
noncomputable def ElseAt (prog : Program) (w : World) (A : Around) (env : Env) (target : Expr) (body orelse : List Stmt) (Q : Flow → Shared → Prop) (E : Value → Shared → Prop) (xv : Value) (s₁ : Shared) : Prop :=
  PassesOwn (model prog w) A env E → wpAny (model prog w) A (pyIter xv) (fun it s₂ =>
    codeAny (model prog w) A (.forLoop target it body orelse env) (fun r s' => match r with | .ok f => Q f s' | .error e => cameBackBy (model prog w) A env E e s') s₂) E s₁
theorem For_else {iter : Expr} {pos : Pos} {m : Str → Option Value} (_F : Fr h₀ env.locals s.heap m)
    (h : wpAny (model prog w) A (eval iter env) (fun xv s₁ => ElseAt prog w A env target body orelse Q E xv s₁) E s)
    (hs : ∀ x, foldedSetIterable iter env x = pure x)
    (hE : PassesOwn (model prog w) A env E) :
    wpAny (model prog w) A (exec (.For target iter body orelse pos) env) Q E s :=
  wpAny_For (wpAny_mono h (fun xv s₁ h₁ => h₁ hE) fun _ _ e => e) hs
/-- how a turn ends of a loop with an else -/
noncomputable def ElsePost (h₀ : Heap) (L : Addr) (J : Nat → (Str → Option Value) → Prop) (i : Nat) (I : Addr) (oI : Obj) (news : List (Addr × Obj)) (s : Shared) (Q : Flow → Shared → Prop) (f : Flow) (s₂ : Shared) : Prop :=
  match f with
  | .ret v => Q (.ret v) s₂
  | .brk => Q .next s₂
  | _ => ∃ h' tk m', s₂ = { s with heap := h', toks := tk } ∧ Fr h₀ L h' m' ∧ News h₀ L h' ((I, oI) :: news) ∧ J i m'
/-- a loop with an else over a tuple of the text's own -/
theorem else_tup {ax : Addr} {vs : Array Value} (J : Nat → (Str → Option Value) → Prop) (hh : A.handled = none) (F : Fr h₀ env.locals s.heap m₀) (N : News h₀ env.locals s.heap news)
    (hT : IsTup h₀ ax vs) (hj : J 0 m₀)
    (turn : ∀ (i : Nat) v m₁ h tk I oI, (∀ p ∈ news, p.1 < I) → vs[i]? = some v → J i m₁ → Fr h₀ env.locals h m₁ → News h₀ env.locals h ((I, oI) :: news) →
      wpAny (model prog w) A (assign target env v) (fun _ s₃ => wpAny (model prog w) A (execs body env) (ElsePost h₀ env.locals J (i + 1) I oI news s Q) E s₃) E { s with heap := h, toks := tk })
    (done : ∀ m₁ h tk, J vs.size m₁ → Fr h₀ env.locals h m₁ → News h₀ env.locals h news → wpAny (model prog w) A (execs orelse env) Q E { s with heap := h, toks := tk }) :
    ElseAt prog w A env target body orelse Q E (.ref ax) s := by
  intro hE
  have hTs : s.heap.IsTuple ax vs := F.tup hT
  have hne : ax ≠ s.heap.objs.size := by obtain ⟨o, ho, _⟩ := hTs; exact Nat.ne_of_lt (Heap.lt_size ho)
  have lL : env.locals < s.heap.objs.size := F.ns.lt
  refine wpAny_pyIter_tuple hTs ?_
  have WK := Walks.tuple (prog := prog) (w := w) (A := A) hh s.heap.objs.size ax hne vs
  have hI0 : h₀.get? s.heap.objs.size = none := new_none F
  have hnw : ∀ p ∈ news, p.1 < s.heap.objs.size := fun p hp => Heap.lt_size (N p hp).1
  have F' := F.push { cls := .type "tuple_iterator", dict := none, data := .fields #[.ref ax, rawInt 0], slots := #[] }
  refine codeAny_forLoop_any (fun k s' => ∃ h' tk m' i, s' = { s with heap := h', toks := tk } ∧ (h'.IsTupleIter s.heap.objs.size ax i ∧ h'.IsTuple ax vs) ∧ Fr h₀ env.locals h' m' ∧ News h₀ env.locals h' news ∧ J i m' ∧ i ≤ vs.size ∧ k = vs.size + 1 - i) ?_ (vs.size + 1)
    ⟨_, _, m₀, 0, rfl, ⟨⟨_, Heap.get?_push_size _ rfl, rfl, rfl⟩, hTs.at fun o e => Heap.get?_push_of_some _ e⟩, F.push _, News.past (m := m₀) N _, hj, Nat.zero_le _, rfl⟩
  intro k s' hx0
  refine hideP ?_
  intro G kG
  obtain ⟨h', tk, m', i, e1, hst, F1, N1, hJ, hi, e2⟩ := hx0
  refine kG ?_
  clear kG
  subst e1
  subst e2
  have next : ∀ h₁ : Heap, (∀ b o, b ∉ [s.heap.objs.size] → h'.get? b = some o → h₁.get? b = some o) → Fr h₀ env.locals h₁ m' ∧ News h₀ env.locals h₁ news := fun h₁ hk₁ =>
    ⟨⟨F1.ns.at' fun o e => hk₁ _ o (fun hm => Nat.ne_of_lt lL (List.mem_singleton.mp hm)) e, fun b o e => hk₁ b o (fun hm => by rw [List.mem_singleton.mp hm, hI0] at e; cases e) (F1.keep b o e), F1.above⟩,
     fun p hp => ⟨hk₁ _ _ (fun hm => Nat.ne_of_lt (hnw p hp) (List.mem_singleton.mp hm)) (N1 p hp).1, (N1 p hp).2⟩⟩
  by_cases hlt : i < vs.size
  · refine WK.item i _ _ _ hlt hst fun v h₁ tk₁ hP hst₁ hk₁ => ?_
    obtain ⟨F₂, N₂⟩ := next h₁ hk₁
    refine letGo_tupleiter hst₁.1 ?_
    obtain ⟨oI, hoI, hoc, hod⟩ := hst₁.1
    have N₃ : News h₀ env.locals h₁ ((s.heap.objs.size, oI) :: news) := fun p hp => by
      rcases List.mem_cons.mp hp with rfl | hp
      · exact ⟨hoI, Nat.ne_of_gt lL, hI0⟩
      · exact N₂ p hp
    refine wpAny_mono (turn i v m' h₁ tk₁ s.heap.objs.size oI hnw hP hJ F₂ N₃) (fun _ s₂ h₂' => wpAny_mono (wpAny_passesOwn hE h₂') (fun f s₃ h₃ => ?_) fun _ _ e => e) hE
    have fin : (∃ h' tk m', s₃ = { s with heap := h', toks := tk } ∧ Fr h₀ env.locals h' m' ∧ News h₀ env.locals h' ((s.heap.objs.size, oI) :: news) ∧ J (i + 1) m') →
        ∃ k, k < vs.size + 1 - i ∧ ∃ h' tk m' i, s₃ = { s with heap := h', toks := tk } ∧ (h'.IsTupleIter s.heap.objs.size ax i ∧ h'.IsTuple ax vs) ∧ Fr h₀ env.locals h' m' ∧ News h₀ env.locals h' news ∧ J i m' ∧ i ≤ vs.size ∧ k = vs.size + 1 - i := by
      intro hx0
      refine hideP ?_
      intro G kG
      obtain ⟨h₄, tk₄, m₄, e1, F₄, N₄, hJ₄⟩ := hx0
      refine kG ?_
      clear kG
      subst e1
      exact ⟨vs.size + 1 - (i + 1), dec_lt hlt, h₄, tk₄, m₄, i + 1, rfl, ⟨⟨oI, (N₄ _ (.head _)).1, hoc, hod⟩, F₄.tup hT⟩, F₄, fun p hp => N₄ p (.tail _ hp), hJ₄, hlt, rfl⟩
    cases f with
    | ret v => exact h₃
    | brk => exact h₃
    | next => exact fin h₃
    | cont => exact fin h₃
  · have hin : i = vs.size := by omega
    subst hin
    refine WK.done _ _ _ hst fun h₁ tk₁ hk₁ => ?_
    obtain ⟨F₁, N₁⟩ := next h₁ hk₁
    exact wpAny_mono (done m' h₁ tk₁ hJ F₁ N₁) (fun _ _ x => x) hE
end
end Mine
end

section -- text FN8
theorem Mine.rows_off_FN8 : True := by
  k_with_none
  trivial
open PySem PySem.W PyProof.Rows
set_option Elab.async false
set_option maxRecDepth 100000
set_option maxHeartbeats 8000000
set_option linter.all false
namespace Mine
theorem lines_FN8_1 : True := by
  k_with_none
  k_with "my_steps" => repeat' ((fail_if_success (with_reducible show wpAny _ _ (pyIter _) _ _ _)); first | (k_unfold; (try dsimp only)) | (k_end; kc_close) | walk1 | (dsimp only; walk1) | (leave1; walk_say "STEP leave1"; (try dsimp only)) | fail "no step")
  k_with "call ref" => (k_here; (with_reducible show wpAny _ _ (call (Value.ref _) _) _ _ _); refine wpAny_call ?_; k_dflt (refine code_def (by k_asm) (by k_asm) (by k_asm) (by k_asm) (by k_asm) (by exact rfl) (by exact rfl) (by first | exact rfl | assumption) (by k_is) (by k_is) (by ktr_room) (by exact BindsTo.of_eq rfl) (by exact locs rfl) ?_ (by exact rfl) (by exact rfl) (by exact rfl) (by decide); k_whole; intro _ _ _ _ _ _ zB _ _; (try dsimp only); (try k_lift zB); (try k_fold)))
  k_with "call ref" => (k_here; (with_reducible show wpAny _ _ (call (Value.ref 135) [Value.str _ _]) _ _ _); k_dflt (refine use_cl2 (by k_asm) (by k_asm) (by k_asm) (by k_asm) (by k_asm) (by first | exact rfl | assumption) (by ktr_room) (by ktr_units) (fspath_spec _ _ _ _ _ _ _ _) ?_; k_whole); intro _ _ _ _ _; (try dsimp only); (try k_fold))
  k_with "call ref" => (k_here; (with_reducible show wpAny _ _ (call (Value.ref 149) [Value.str _ _]) _ _ _); k_dflt (refine use_cl2 (by k_asm) (by k_asm) (by k_asm) (by k_asm) (by k_asm) (by first | exact rfl | assumption) (by ktr_room) (by ktr_units) (getsep_spec _ _ _ _ _ _ _ _) ?_; k_whole); intro _ _ _ _ _; (try dsimp only); (try k_fold))
  k_with "call ref" => (k_here; (with_reducible show wpAny _ _ (call (Value.ref 182) [Value.int _ _]) _ _ _); k_dflt (refine use_cl2 (by k_asm) (by k_asm) (by k_asm) (by k_asm) (by k_asm) (by first | exact rfl | assumption) (by ktr_room) (by ktr_units) (ifmt_spec _ _ _ _ _ _ _ _) ?_; k_whole); intro _ _ _ _ _; (try dsimp only); (try k_fold))
  k_with "call ref" => (k_here; (with_reducible show wpAny _ _ (call (Value.ref 163) [Value.str _ _]) _ _ _); k_dflt (refine use_cn2 (by k_asm) (by k_asm) (by k_asm) (by k_asm) (by k_asm) (by first | exact rfl | assumption) (by ktr_room) (by ktr_units) (splitroot_spec _ _ _ _ _ _ _ _ (by first | assumption | omega)) ?_; k_whole); intro _ _ _ _ zP zl1 _ _; (try k_lt zl1); (try dsimp only); (obtain ⟨hre, t1, t2, t3, e'⟩ := zP); subst e'; (try k_fold))
  k_with "call builtin:str.join" => (k_here; (with_reducible show wpAny _ _ (call (Value.builtin _) [Value.str _ _, Value.ref _]) _ _ _); k_dflt (refine joinN (by k_asm) (by k_mem) (by assumption) ?_; k_whole); intro _ _; (try k_fold))
  k_with "exec For Tuple Call cons nil" => (k_here; (rename Fr _ _ _ _ => zlF); with_unfolding_all refine' W.For_turns zlF ?_)
  k_with "exec For Tuple Name cons cons" => (k_here; (rename Fr _ _ _ _ => zlF); with_unfolding_all refine' For_else zlF ?_ (by intro _; rfl) (by passes_own))
  trivial
/-- the names that filemode's loops turn -/
noncomputable def fmN : List Str := [Str.ofString "index", Str.ofString "table", Str.ofString "bit", Str.ofString "char"]
noncomputable def JF (l : Addr) (m₀ : Str → Option Value) (news : List (Addr × Obj)) (sg : Nat → Str) (i : Nat) (m : Str → Option Value) (nx : List (Addr × Obj)) : Prop :=
  (∀ y, y ∉ fmN → m y = m₀ y) ∧ ∃ cs : List (Str × Tok), cs.map (·.1) = (List.range i).map sg ∧ ∃ n, nx = (l, W.listOf (strValues cs).toArray n) :: news
theorem turns_fm {prog : Program} {w : World} {A : Around} {E : Value → Shared → Prop} {s : Shared} {env : Env} {h₀ : Heap} {body : List Stmt} {Q : Flow → Shared → Prop} {m₀ : Str → Option Value} {news : List (Addr × Obj)}
    {elts : List Expr} {k : Nat} {pos : Pos} {ax l : Addr} {vs : Array Value} (sg : Nat → Str) (hh : A.handled = none) (F : Fr h₀ env.locals s.heap m₀) (N : News h₀ env.locals s.heap ((l, W.listOf #[] 0) :: news))
    (hT : IsTup h₀ ax vs)
    (turn : ∀ (i : Nat) x t T m₁ cs n h tk I oE oI, (∀ p ∈ (l, W.listOf (strValues cs).toArray n) :: news, p.1 < I) → vs[i]? = some x → IsTup h T #[.int (i : Int) t, x] → (∀ y, y ∉ fmN → m₁ y = m₀ y) → cs.map (·.1) = (List.range i).map sg →
      Fr h₀ env.locals h m₁ → News h₀ env.locals h ((I + 1, oE) :: (I, oI) :: (l, W.listOf (strValues cs).toArray n) :: news) →
      wpAny (model prog w) A (assign (.Tuple elts k pos) env (.ref T)) (fun _ s₃ => wpAny (model prog w) A (execs body env) (TurnPostW h₀ env.locals (JF l m₀ news sg) (i + 1) [(I + 1, oE), (I, oI)] s Q) E s₃) E { s with heap := h, toks := tk })
    (done : ∀ m₁ cs n h tk, (∀ y, y ∉ fmN → m₁ y = m₀ y) → cs.map (·.1) = (List.range vs.size).map sg → Fr h₀ env.locals h m₁ → News h₀ env.locals h ((l, W.listOf (strValues cs).toArray n) :: news) → Q .next { s with heap := h, toks := tk }) :
    wpAny (model prog w) A (call (.type "enumerate") [.ref ax]) (fun xv s₁ => wpAny (model prog w) A (pyIter xv) (fun it s₂ => W.TurnsAt prog w A h₀ env (.Tuple elts k pos) body Q E it s₂) E s₁) E s := by
  refine turns_enumT (JF l m₀ news sg) hh F N hT ⟨fun _ _ => rfl, [], rfl, 0, rfl⟩ ?_ ?_ ?_
  · rintro i m nx ⟨_, cs, _, n, rfl⟩; rfl
  · rintro i v x t T m₁ nx h tk1 I oE oI hI hx rfl hTu ⟨hm, cs, hcs, n, rfl⟩ F1 N1
    exact turn i x t T m₁ cs n h tk1 I oE oI (fun p hp => by
      rcases List.mem_cons.mp hp with rfl | hp
      · exact hI (l, W.listOf #[] 0) (.head _)
      · exact hI p (.tail _ hp)) hx hTu hm hcs F1 N1
  · rintro m₁ nx h tk ⟨hm, cs, hcs, n, rfl⟩ F1 N1
    exact done m₁ cs n h tk hm hcs F1 N1
/-- filemode's table -/
noncomputable def fmT : Nat → List (Int × Str)
  | 0 => [(40960, Str.ofString "l"), (49152, Str.ofString "s"), (32768, Str.ofString "-"), (24576, Str.ofString "b"), (16384, Str.ofString "d"), (8192, Str.ofString "c"), (4096, Str.ofString "p")]
  | 1 => [(256, Str.ofString "r")]
  | 2 => [(128, Str.ofString "w")]
  | 3 => [(2112, Str.ofString "s"), (2048, Str.ofString "S"), (64, Str.ofString "x")]
  | 4 => [(32, Str.ofString "r")]
  | 5 => [(16, Str.ofString "w")]
  | 6 => [(1032, Str.ofString "s"), (1024, Str.ofString "S"), (8, Str.ofString "x")]
  | 7 => [(4, Str.ofString "r")]
  | 8 => [(2, Str.ofString "w")]
  | _ => [(513, Str.ofString "t"), (512, Str.ofString "T"), (1, Str.ofString "x")]
noncomputable def fmP (V : Int) (i : Nat) (p : Int × Str) : Bool := if i = 0 then Builtin.bitAnd V 61440 == p.1 else Builtin.bitAnd V p.1 == p.1
/-- filemode's letter of the turn i -/
noncomputable def fmSg (V : Int) (i : Nat) : Str := match (fmT i).find? (fmP V i) with
  | some p => p.2
  | none => if i = 0 then Str.ofString "?" else Str.ofString "-"
theorem fm_hit {V : Int} {i j : Nat} {p : Int × Str} (h : (fmT i)[j]? = some p) (hp : fmP V i p = true) (hn : ∀ q < j, ∀ r, (fmT i)[q]? = some r → fmP V i r = false) : fmSg V i = p.2 := by
  have : (fmT i).find? (fmP V i) = some p := by
    obtain ⟨hj, he⟩ := List.getElem?_eq_some_iff.mp h
    have e : fmT i = (fmT i).take j ++ p :: (fmT i).drop (j + 1) := by
      rw [← he, List.getElem_cons_drop, List.take_append_drop]
    rw [e, List.find?_append, List.find?_eq_none.mpr, List.find?_cons_of_pos hp]; rfl
    intro r hr
    obtain ⟨q, hq, e2⟩ := List.mem_take_iff_getElem.mp hr
    have hq' : q < j := Nat.lt_of_lt_of_le hq (Nat.min_le_left _ _)
    rw [hn q hq' r (List.getElem?_eq_some_iff.mpr ⟨by omega, e2⟩)]; exact Bool.false_ne_true
  unfold fmSg; rw [this]
theorem fm_miss {V : Int} {i : Nat} (hn : ∀ q < (fmT i).length, ∀ r, (fmT i)[q]? = some r → fmP V i r = false) : fmSg V i = if i = 0 then Str.ofString "?" else Str.ofString "-" := by
  have : (fmT i).find? (fmP V i) = none := List.find?_eq_none.mpr fun r hr => by
    obtain ⟨q, hq, e⟩ := List.getElem_of_mem hr
    rw [hn q hq r (List.getElem?_eq_some_iff.mpr ⟨hq, e⟩)]; exact Bool.false_ne_true
  unfold fmSg; rw [this]
/-- a cell of the table, as the written heap has it -/
noncomputable def FmCell (h₀ : Heap) (i j : Nat) (u : Value) : Prop := ∃ p b c tb tc, u = .ref p ∧ IsTup h₀ p #[.int b tb, .str c tc] ∧ (fmT i)[j]? = some (b, c)
theorem fm_cell {h₀ : Heap} {i j : Nat} {u : Value} {p : Addr} {b : Int} {c : Str} {tb tc : Tok} {o : Obj} {n : Nat} (hu : some (Value.ref p) = some u) (ho : h₀.get? p = some o) (hc : o.cls = .type "tuple") (hd : o.data = .seq #[.int b tb, .str c tc] n) (hf : (fmT i)[j]? = some (b, c)) : FmCell h₀ i j u :=
  ⟨p, b, c, tb, tc, (Option.some.inj hu).symm, ⟨o, ho, hc, n, hd⟩, hf⟩
/-- the row i of the table, as the written heap has it -/
noncomputable def FmRow (h₀ : Heap) (i : Nat) (x : Value) : Prop :=
  ∃ ax us, x = .ref ax ∧ IsTup h₀ ax us ∧ us.size = (fmT i).length ∧ ∀ (j : Nat) u, us[j]? = some u → FmCell h₀ i j u
theorem fm_line {h₀ : Heap} {i : Nat} {x : Value} {ax : Addr} {us : Array Value} {o : Obj} {n : Nat} (hi : i < 10) (h : some (Value.ref ax) = some x) (ho : h₀.get? ax = some o) (hc : o.cls = .type "tuple") (hd : o.data = .seq us n) (hs : us.size = (fmT i).length) (hj : ∀ (j : Nat) u, us[j]? = some u → FmCell h₀ i j u) : i < 10 ∧ FmRow h₀ i x :=
  ⟨hi, ax, us, (Option.some.inj h).symm, ⟨o, ho, hc, n, hd⟩, hs, hj⟩
theorem fm_rows {w : World} {h₀ : Heap} {i : Nat} {x : Value} (X : (Mine.hd.heap_39 w.params).In h₀) (h : (#[Value.ref 190, Value.ref 192, Value.ref 194, Value.ref 198, Value.ref 200, Value.ref 202, Value.ref 206, Value.ref 208, Value.ref 210, Value.ref 214] : Array Value)[i]? = some x) : i < 10 ∧ FmRow h₀ i x := by
  match i, h with
  | 0, h =>
    refine fm_line (by decide) h (X 190 _ (by with_unfolding_all exact rfl)) rfl rfl rfl ?_
    intro j u hu
    match j, hu with
    | 0, hu => exact fm_cell (b := 40960) (c := Str.ofString "l") hu (X _ _ (by with_unfolding_all exact rfl)) rfl rfl rfl
    | 1, hu => exact fm_cell (b := 49152) (c := Str.ofString "s") hu (X _ _ (by with_unfolding_all exact rfl)) rfl rfl rfl
    | 2, hu => exact fm_cell (b := 32768) (c := Str.ofString "-") hu (X _ _ (by with_unfolding_all exact rfl)) rfl rfl rfl
    | 3, hu => exact fm_cell (b := 24576) (c := Str.ofString "b") hu (X _ _ (by with_unfolding_all exact rfl)) rfl rfl rfl
    | 4, hu => exact fm_cell (b := 16384) (c := Str.ofString "d") hu (X _ _ (by with_unfolding_all exact rfl)) rfl rfl rfl
    | 5, hu => exact fm_cell (b := 8192) (c := Str.ofString "c") hu (X _ _ (by with_unfolding_all exact rfl)) rfl rfl rfl
    | 6, hu => exact fm_cell (b := 4096) (c := Str.ofString "p") hu (X _ _ (by with_unfolding_all exact rfl)) rfl rfl rfl
  | 1, h =>
    refine fm_line (by decide) h (X 192 _ (by with_unfolding_all exact rfl)) rfl rfl rfl ?_
    intro j u hu
    match j, hu with
    | 0, hu => exact fm_cell (b := 256) (c := Str.ofString "r") hu (X _ _ (by with_unfolding_all exact rfl)) rfl rfl rfl
  | 2, h =>
    refine fm_line (by decide) h (X 194 _ (by with_unfolding_all exact rfl)) rfl rfl rfl ?_
    intro j u hu
    match j, hu with
    | 0, hu => exact fm_cell (b := 128) (c := Str.ofString "w") hu (X _ _ (by with_unfolding_all exact rfl)) rfl rfl rfl
  | 3, h =>
    refine fm_line (by decide) h (X 198 _ (by with_unfolding_all exact rfl)) rfl rfl rfl ?_
    intro j u hu
    match j, hu with
    | 0, hu => exact fm_cell (b := 2112) (c := Str.ofString "s") hu (X _ _ (by with_unfolding_all exact rfl)) rfl rfl rfl
    | 1, hu => exact fm_cell (b := 2048) (c := Str.ofString "S") hu (X _ _ (by with_unfolding_all exact rfl)) rfl rfl rfl
    | 2, hu => exact fm_cell (b := 64) (c := Str.ofString "x") hu (X _ _ (by with_unfolding_all exact rfl)) rfl rfl rfl
  | 4, h =>
    refine fm_line (by decide) h (X 200 _ (by with_unfolding_all exact rfl)) rfl rfl rfl ?_
    intro j u hu
    match j, hu with
    | 0, hu => exact fm_cell (b := 32) (c := Str.ofString "r") hu (X _ _ (by with_unfolding_all exact rfl)) rfl rfl rfl
  | 5, h =>
    refine fm_line (by decide) h (X 202 _ (by with_unfolding_all exact rfl)) rfl rfl rfl ?_
    intro j u hu
    match j, hu with
    | 0, hu => exact fm_cell (b := 16) (c := Str.ofString "w") hu (X _ _ (by with_unfolding_all exact rfl)) rfl rfl rfl
  | 6, h =>
    refine fm_line (by decide) h (X 206 _ (by with_unfolding_all exact rfl)) rfl rfl rfl ?_
    intro j u hu
    match j, hu with
    | 0, hu => exact fm_cell (b := 1032) (c := Str.ofString "s") hu (X _ _ (by with_unfolding_all exact rfl)) rfl rfl rfl
    | 1, hu => exact fm_cell (b := 1024) (c := Str.ofString "S") hu (X _ _ (by with_unfolding_all exact rfl)) rfl rfl rfl
    | 2, hu => exact fm_cell (b := 8) (c := Str.ofString "x") hu (X _ _ (by with_unfolding_all exact rfl)) rfl rfl rfl
  | 7, h =>
    refine fm_line (by decide) h (X 208 _ (by with_unfolding_all exact rfl)) rfl rfl rfl ?_
    intro j u hu
    match j, hu with
    | 0, hu => exact fm_cell (b := 4) (c := Str.ofString "r") hu (X _ _ (by with_unfolding_all exact rfl)) rfl rfl rfl
  | 8, h =>
    refine fm_line (by decide) h (X 210 _ (by with_unfolding_all exact rfl)) rfl rfl rfl ?_
    intro j u hu
    match j, hu with
    | 0, hu => exact fm_cell (b := 2) (c := Str.ofString "w") hu (X _ _ (by with_unfolding_all exact rfl)) rfl rfl rfl
  | 9, h =>
    refine fm_line (by decide) h (X 214 _ (by with_unfolding_all exact rfl)) rfl rfl rfl ?_
    intro j u hu
    match j, hu with
    | 0, hu => exact fm_cell (b := 513) (c := Str.ofString "t") hu (X _ _ (by with_unfolding_all exact rfl)) rfl rfl rfl
    | 1, hu => exact fm_cell (b := 512) (c := Str.ofString "T") hu (X _ _ (by with_unfolding_all exact rfl)) rfl rfl rfl
    | 2, hu => exact fm_cell (b := 1) (c := Str.ofString "x") hu (X _ _ (by with_unfolding_all exact rfl)) rfl rfl rfl
  | n + 10, h => simp at h
theorem ov4 {a b c d : Str} {m₁ m₀ : Str → Option Value} (hm : ∀ y, y ∉ [a, b, c, d] → m₁ y = m₀ y) :
    m₁ = fun y => if y = a then m₁ a else if y = b then m₁ b else if y = c then m₁ c else if y = d then m₁ d else m₀ y := by
  funext y
  by_cases h1 : y = a
  · rw [if_pos h1, h1]
  · rw [if_neg h1]
    by_cases h2 : y = b
    · rw [if_pos h2, h2]
    · rw [if_neg h2]
      by_cases h3 : y = c
      · rw [if_pos h3, h3]
      · rw [if_neg h3]
        by_cases h4 : y = d
        · rw [if_pos h4, h4]
        · rw [if_neg h4]; exact hm y (by simp [h1, h2, h3, h4])
theorem ov2 {a b : Str} {m₁ m₀ : Str → Option Value} (hm : ∀ y, y ∉ [a, b] → m₁ y = m₀ y) :
    m₁ = fun y => if y = a then m₁ a else if y = b then m₁ b else m₀ y := by
  funext y
  by_cases h1 : y = a
  · rw [if_pos h1, h1]
  · rw [if_neg h1]
    by_cases h2 : y = b
    · rw [if_pos h2, h2]
    · rw [if_neg h2]; exact hm y (by simp [h1, h2])
/-- what holds between the inner loop's turns -/
noncomputable def JE (V : Int) (k : Nat) (m₀ : Str → Option Value) (j : Nat) (m : Str → Option Value) : Prop :=
  (∀ y, y ∉ [Str.ofString "bit", Str.ofString "char"] → m y = m₀ y) ∧ ∀ q < j, ∀ r, (fmT k)[q]? = some r → fmP V k r = false
theorem je_next {V : Int} {k j : Nat} {m₀ m : Str → Option Value} {r : Int × Str} (hn : ∀ q < j, ∀ r, (fmT k)[q]? = some r → fmP V k r = false) (hr : (fmT k)[j]? = some r) (hp : fmP V k r = false) (hm : ∀ y, y ∉ [Str.ofString "bit", Str.ofString "char"] → m y = m₀ y) : JE V k m₀ (j + 1) m :=
  ⟨hm, fun q hq r' hr' => by
    by_cases e : q = j
    · subst e; rw [hr] at hr'; exact Option.some.inj hr' ▸ hp
    · exact hn q (by omega) r' hr'⟩
theorem fm_y4 {y : Str} (h : y ∉ fmN) : y ≠ Str.ofString "index" ∧ y ≠ Str.ofString "table" ∧ y ≠ Str.ofString "bit" ∧ y ≠ Str.ofString "char" := by simpa [fmN] using h
theorem fm_y2 {y : Str} (h : y ∉ [Str.ofString "bit", Str.ofString "char"]) : y ≠ Str.ofString "bit" ∧ y ≠ Str.ofString "char" := by simpa using h
theorem fm_first {V : Int} {k : Nat} {b : Int} {c : Str} (h1 : (k : Int) = 0 ∧ Builtin.bitAnd V 61440 ≠ b ∨ (k : Int) ≠ 0 ∧ Builtin.bitAnd V b ≠ b) : fmP V k (b, c) = false := by
  unfold fmP
  rcases h1 with ⟨e, h⟩ | ⟨e, h⟩
  · rw [if_pos (by omega)]; exact beq_eq_false_iff_ne.mpr h
  · rw [if_neg (by omega)]; exact beq_eq_false_iff_ne.mpr h
theorem fm_first' {V : Int} {k : Nat} {b : Int} {c : Str} (h1 : (k : Int) = 0 ∧ Builtin.bitAnd V 61440 = b ∨ (k : Int) ≠ 0 ∧ Builtin.bitAnd V b = b) : fmP V k (b, c) = true := by
  unfold fmP
  rcases h1 with ⟨e, h⟩ | ⟨e, h⟩
  · rw [if_pos (by omega)]; exact beq_iff_eq.mpr h
  · rw [if_neg (by omega)]; exact beq_iff_eq.mpr h
/-- the end of an outer turn -/
theorem fm_turn {h₀ : Heap} {L l I : Addr} {m₀ m : Str → Option Value} {news : List (Addr × Obj)} {sg : Nat → Str} {i n : Nat} {oE oI : Obj} {s : Shared} {Q : Flow → Shared → Prop} {h' : Heap} {tk' : Nat} {cs : List (Str × Tok)} {c : Str} {t : Tok}
    (F : Fr h₀ L h' m) (N : News h₀ L h' ((I + 1, oE) :: (I, oI) :: (l, W.listOf (strValues (cs ++ [(c, t)])).toArray n) :: news)) (hm : ∀ y, y ∉ fmN → m y = m₀ y) (hcs : cs.map (·.1) = (List.range i).map sg) (hc : sg i = c) :
    TurnPostW h₀ L (JF l m₀ news sg) (i + 1) [(I + 1, oE), (I, oI)] s Q .next { s with heap := h', toks := tk' } :=
  ⟨h', tk', m, _, rfl, F, N, hm, cs ++ [(c, t)], by rw [List.map_append, hcs, List.range_succ, List.map_append, ← hc]; rfl, n, rfl⟩
theorem fmSg_len (V : Int) (i : Nat) : (fmSg V i).length = 1 := by
  unfold fmSg
  split
  · rename_i p hp
    have hm := List.mem_of_find?_eq_some hp
    unfold fmT at hm
    split at hm <;> (simp only [List.mem_cons, List.not_mem_nil, or_false] at hm)
    all_goals first
      | (rcases hm with rfl | rfl | rfl | rfl | rfl | rfl | rfl <;> rfl)
      | (rcases hm with rfl | rfl | rfl <;> rfl)
      | (subst hm; rfl)
  · split <;> rfl
noncomputable def fmText (V : Int) : Str := Txt.join (Str.ofString "") ((List.range 10).map (fmSg V))
theorem empty_is : Str.ofString "" = Str.empty := rfl
theorem cat_ones : ∀ (L : List Str), (∀ x ∈ L, x.length = 1) → (cat L).length = L.length
  | [], _ => rfl
  | x :: r, h => by
    have h1 : x.cps.toList.length = 1 := h x (.head _)
    have h2 := cat_ones r fun y hy => h y (.tail _ hy)
    unfold cat at h2 ⊢
    rw [List.flatMap_cons, List.length_append, h1, h2, List.length_cons]; omega
theorem fm_cat (V : Int) : (cat ((List.range 10).map (fmSg V))).length = 10 := by
  rw [cat_ones _ (by intro x hx; obtain ⟨i, _, rfl⟩ := List.mem_map.mp hx; exact fmSg_len V i)]; simp
theorem fm_ok (V : Int) : JoinOk (Str.ofString "") ((List.range 10).map (fmSg V)) = true := by
  rw [empty_is]; exact joinOk_empty (by rw [fm_cat, sizeLine_eq]; omega)
theorem fmText_len (V : Int) : (fmText V).length = 10 := by
  unfold fmText; rw [empty_is, txt_join_empty]; exact fm_cat V
theorem fmP0 {V : Int} {k : Nat} {b : Int} {c : Str} {x : Bool} (hk : (k : Int) = 0) (h : (Builtin.bitAnd V 61440 == b) = x) : fmP V k (b, c) = x := by
  unfold fmP; rw [if_pos (by omega)]; exact h
theorem fmP1 {V : Int} {k : Nat} {b : Int} {c : Str} {x : Bool} (hk : (k : Int) ≠ 0) (h : (Builtin.bitAnd V b == b) = x) : fmP V k (b, c) = x := by
  unfold fmP; rw [if_neg (by omega)]; exact h
set_option maxHeartbeats 4000000 in
theorem fm_spec (w : World) (loose : List Str) (mean : ExcName → Option Value) (mg mb : Str → Option Value) (news : List (Addr × Obj)) (V : Int) (tk : Tok) (h0 : 0 ≤ V) (h1 : V < 1048576) :
    Cl 2 w loose mean mg mb 222 news [.int V tk] (fun t => .str (fmText V) t) := by
  dsimp only [Cl, CbRet]; k_fill; intros; rename_i hret
  refine wpAny_call ?_
  k_dflt cell_enter
  walk_at "my_steps"
  (rename Fr _ _ _ _ => lF'); (rename News _ _ _ _ => lN'); (rename Frag.In _ _ => lX')
  have hTab : IsTup _ 215 _ := ⟨_, lX' 215 _ (by with_unfolding_all exact rfl), rfl, _, rfl⟩
  (with_unfolding_all refine' turns_fm (fmSg V) rfl lF' lN' hTab ?turn ?done)
  case turn =>
    rintro i x t T m₁ cs n1 h tk1 I oE oI hI hx hTu hm hcs F1 N1
    try dsimp only at F1 N1
    refine hideP ?_
    intro G kG
    obtain ⟨hi, ax, us, ev, hax, hus, hrow⟩ := fm_rows lX' hx
    refine kG ?_
    clear kG
    subst ev
    clear hx hTab
    rw [ov4 hm] at F1
    have hcl : (strValues cs).length ≤ 10 := by
      have := congrArg List.length hcs
      rw [List.length_map, List.length_map, List.length_range] at this
      unfold strValues; rw [List.length_map]; omega
    k_lt hI
    (with_unfolding_all refine' unpackN_ F1 N1 hTu rfl rfl rfl ?_)
    intro h2 F2 N2
    walk_at "my_steps"

    (rename Fr _ _ _ _ => lF); (rename News _ _ _ _ => lN)
    (with_unfolding_all refine' else_tup (JE V i _) rfl lF lN hax ⟨fun _ _ => rfl, fun q hq => absurd hq (Nat.not_lt_zero q)⟩ ?eturn ?edone)
    case eturn =>
      rintro j v m₂ h3 tk3 I2 oI2 hI2 hv ⟨hm2, hn⟩ F3 N3
      refine hideP ?_
      intro G kG
      obtain ⟨p, b, c, tb, tc, ev, hp, hT⟩ := hrow j v hv
      refine kG ?_
      clear kG
      subst ev
      rw [ov2 hm2] at F3
      k_lt hI2
      walk_at "my_steps"
      all_goals first
        | ((with_reducible show ElsePost _ _ _ _ _ _ _ _ _ _ _); (refine ⟨_, _, _, rfl, (by assumption), (by assumption), je_next hn hT (fm_first (by first | exact .inl ⟨by assumption, by assumption⟩ | exact .inr ⟨by assumption, by assumption⟩)) ?_⟩); intro y hy; (obtain ⟨e1, e2⟩ := fm_y2 hy); simp only [if_neg e1, if_neg e2])
        | ((dsimp only [ElsePost]); (walk_at "my_steps"))
      all_goals (rename News _ _ _ _ => lN); rw [strValues_snoc] at lN
      all_goals exact fm_turn (by assumption) (fun p hp => lN p (.tail _ hp)) (by intro y hy; have hy4 := fm_y4 hy; simp only [if_neg hy4.1, if_neg hy4.2.1, if_neg hy4.2.2.1, if_neg hy4.2.2.2]) hcs (fm_hit hT (fm_first' (by first | exact .inl ⟨by assumption, by assumption⟩ | exact .inr ⟨by assumption, by assumption⟩)) hn)
    case edone =>
      rintro m₂ h3 tk3 ⟨hm2, hn⟩ F3 N3
      rw [hus] at hn
      rw [ov2 hm2] at F3
      walk_at "my_steps"
      all_goals (rename News _ _ _ _ => lN); rw [strValues_snoc] at lN
      all_goals exact fm_turn (by assumption) (fun p hp => lN p hp) (by intro y hy; have hy4 := fm_y4 hy; simp only [if_neg hy4.1, if_neg hy4.2.1, if_neg hy4.2.2.1, if_neg hy4.2.2.2]) hcs (by first | exact (fm_miss hn).trans (if_pos (by omega)) | exact (fm_miss hn).trans (if_neg (by omega)))
  case done =>
    intro m₁ cs n1 h tk1 hm hcs F1 N1
    rw [ov4 hm] at F1
    have hcs' : cs.map (·.1) = (List.range 10).map (fmSg V) := hcs
    have hok : JoinOk (Str.ofString "") (cs.map (·.1)) = true := by rw [hcs']; exact fm_ok V
    have hjl : (Txt.join (Str.ofString "") (cs.map (·.1))).length ≤ 10 := by rw [hcs']; exact Nat.le_of_eq (fmText_len V)
    walk_at "my_steps"
    refine cb_retQ hret (by rw [hcs]; rfl) ?_ ?_
    all_goals (first | k_asm | (refine' cb_drop ?cbN ?cbS; (case cbN => assumption); (case cbS => kcj_all)))


end Mine
end

section -- text MAP1
theorem Mine.rows_off_MAP1 : True := by
  k_with_none
  trivial
open PySem PySem.W PyProof.Rows
set_option Elab.async false
set_option maxRecDepth 100000
set_option maxHeartbeats 1000000
set_option linter.all false
namespace Mine
open AutoSeq1 (wpAny_loadPart')
theorem sub_map : isSubtype (.type "map") (.type "map") = pure true := by rw [isSubtype_type]; kernel_rfl
theorem mro_map : mroOf (.type "map") = pure [.type "map", .type "object"] := by rw [mroOf_type]; kernel_rfl
theorem lookup_map_new : typeLookup (.type "map") "__new__" = pure (some (.builtin "map.__new__")) := by rw [typeLookup_type, builtinLookup_eq_fast]; kernel_rfl
theorem slot_map_init : Slot "map" "__init__" "object.__init__" :=
  .of (owner := "object") (n := "__init__") (by rw [typeLookup_type, builtinLookup_eq_fast]; kernel_rfl) (by decide +kernel) (by decide +kernel) (by decide +kernel)
    (by first | exact .inl (by decide +kernel) | exact .inr (by decide +kernel)) (by rw [isSubtype_type]; kernel_rfl)
theorem called_map : TypeCalled "map" "map.__new__" "object.__init__" :=
  ⟨by decide +kernel, by decide +kernel, ⟨_, _, mro_map⟩, madeBy_type mro_map lookup_map_new (by decide +kernel), by decide +kernel, by rw [isSubtype_type]; kernel_rfl, slot_map_init⟩
theorem typeCall_map_2 (a b : Value) : checkTypeCall "map" ⟨[a, b], []⟩ = pure () := by kernel_rfl
theorem newCall_map_2 (a b : Value) : checkBuiltinCall "map.__new__" ⟨[.type "map", a, b], []⟩ = pure () := by kernel_rfl
theorem entry_map_new : entryFor table "map.__new__" = some Builtin.«map.__new__» := entryFor_of_tree (by kernel_rfl)
theorem entry_map_next : entryFor table "map.__next__" = some Builtin.«map.__next__» := entryFor_of_tree (by kernel_rfl)
theorem entry_map_iter : entryFor table "map.__iter__" = some Builtin.«dict_keyiterator.__iter__» :=
  entryFor_alias (id' := "dict_keyiterator.__iter__") (by kernel_rfl) (by first | rfl | decide +kernel | (unfold String.splitOn; simp +decide [String.splitOnAux])) (by decide +kernel) (by kernel_rfl)
theorem slot_map_next : Slot "map" "__next__" "map.__next__" :=
  .of (owner := "map") (n := "__next__") (by rw [typeLookup_type, builtinLookup_eq_fast]; kernel_rfl) (by decide +kernel) (by decide +kernel) (by decide +kernel)
    (by first | exact .inl (by decide +kernel) | exact .inr (by decide +kernel)) (by rw [isSubtype_type]; kernel_rfl)
theorem slot_map_iter : Slot "map" "__iter__" "map.__iter__" :=
  .of (owner := "map") (n := "__iter__") (by rw [typeLookup_type, builtinLookup_eq_fast]; kernel_rfl) (by decide +kernel) (by decide +kernel) (by decide +kernel)
    (by first | exact .inl (by decide +kernel) | exact .inr (by decide +kernel)) (by rw [isSubtype_type]; kernel_rfl)
theorem args_map_next (a : Value) : argsOk "map.__next__" ⟨[a], []⟩ := by unfold argsOk; kernel_rfl
theorem args_map_iter (a : Value) : argsOk "map.__iter__" ⟨[a], []⟩ := by unfold argsOk; kernel_rfl
theorem args_object_init_3 (a b c : Value) : argsOk "object.__init__" ⟨[a, b, c], []⟩ := by unfold argsOk; kernel_rfl
theorem map_no_len : typeLookup (.type "map") "__len__" = pure none := by rw [typeLookup_type, builtinLookup_eq_fast]; kernel_rfl
theorem map_no_hint : typeLookup (.type "map") "__length_hint__" = pure none := by rw [typeLookup_type, builtinLookup_eq_fast]; kernel_rfl
end Mine
end

section -- text MAP2
theorem Mine.rows_off_MAP2 : True := by
  k_with_none
  trivial
open PySem PySem.W PyProof.Rows
set_option Elab.async false
set_option maxRecDepth 100000
set_option maxHeartbeats 1000000
set_option linter.all false
namespace Mine
open AutoSeq1 (wpAny_loadPart')
section
variable {prog : Program} {w : World} {A : Around} {E : Value → Shared → Prop} {s : Shared}
noncomputable def litObj (l : Addr) : Obj := { cls := .type "list_iterator", data := .fields #[.ref l, .int 0 0] }
noncomputable def mapObj (T f : Addr) : Obj := { cls := .type "map", data := .fields #[.ref T, .ref f] }
theorem mkMap (f ax : Addr) (vs : Array Value) (n : Nat) :
    Meets (Builtin.«map.__new__» ⟨[.type "map", .ref f, .ref ax], []⟩) (fun _ R s => s.heap.get? ax = some (W.listOf vs n) ∧
      R (.ok (.ret (.ref (s.heap.objs.size + 2)))) { s with heap := ((s.heap.push { cls := .type "list_iterator", data := .fields #[.ref ax, .int 0 0] }).push { cls := .type "tuple", data := .seq #[.ref s.heap.objs.size] }).push (mapObj (s.heap.objs.size + 1) f) }) := by
  refine .of_wp ?_
  rintro prog w A R ⟨hp, g, d, tk, os⟩ ⟨gT, r⟩
  have sub := sub_map
  have isL : Heap.IsList (Shared.heap ⟨hp, g, d, tk, os⟩) ax vs := ⟨_, gT, rfl, n, rfl⟩
  have sz : (hp.push { cls := .type "list_iterator", data := .fields #[.ref ax, .int 0 0] }).objs.size = hp.objs.size + 1 := Heap.size_push ..
  have sz2 : ((hp.push { cls := .type "list_iterator", data := .fields #[.ref ax, .int 0 0] }).push { cls := .type "tuple", data := .seq #[.ref hp.objs.size] }).objs.size = hp.objs.size + 2 := by rw [Heap.size_push, sz]
  wp_walk using wpAny_loadPart' gT, wpAny_pyIter_list isL
  have r' : R (.ok (.ret (.ref (hp.objs.size + 2)))) ⟨((hp.push { cls := .type "list_iterator", data := .fields #[.ref ax, .int 0 0] }).push { cls := .type "tuple", data := .seq #[.ref hp.objs.size] }).push (mapObj (hp.objs.size + 1) f), g, d, tk, os⟩ := r
  rw [← sz2] at r'
  unfold mapObj at r'
  rw [← sz] at r'
  exact ⟨_, rfl, r'⟩
/-- map called on a def and a list -/
theorem callMap {f l : Addr} {vs : Array Value} {n : Nat} {Q : Value → Shared → Prop} (hl : s.heap.get? l = some (W.listOf vs n))
    (q : ∀ h', h'.get? (s.heap.objs.size + 2) = some (mapObj (s.heap.objs.size + 1) f) → h'.get? (s.heap.objs.size + 1) = some { cls := .type "tuple", data := .seq #[.ref s.heap.objs.size] } → h'.get? s.heap.objs.size = some (litObj l) →
      h'.objs.size = s.heap.objs.size + 3 → (∀ b o, s.heap.get? b = some o → h'.get? b = some o) →
      Q (.ref (s.heap.objs.size + 2)) { s with heap := h' }) : wpAny (model prog w) A (call (.type "map") [.ref f, .ref l]) Q E s := by
  refine callType_new called_map (by decide) (typeCall_map_2 _ _) (newCall_map_2 _ _) (fun obj => args_object_init_3 obj _ _) entry_map_new (mkMap f l vs n) ⟨hl, ?_⟩
  have sz : (s.heap.push { cls := .type "list_iterator", data := .fields #[.ref l, .int 0 0] }).objs.size = s.heap.objs.size + 1 := Heap.size_push ..
  generalize hA : s.heap.push { cls := .type "list_iterator", data := .fields #[.ref l, .int 0 0] } = hA' at sz ⊢
  have kA : ∀ b o, s.heap.get? b = some o → hA'.get? b = some o := fun b o e => hA ▸ Heap.get?_push_of_some _ e
  have gI : hA'.get? s.heap.objs.size = some { cls := .type "list_iterator", data := .fields #[.ref l, .int 0 0] } := hA ▸ Heap.get?_push_size _ rfl
  have sz2 : (hA'.push { cls := .type "tuple", data := .seq #[.ref s.heap.objs.size] }).objs.size = s.heap.objs.size + 2 := by rw [Heap.size_push, sz]
  generalize hB : hA'.push { cls := .type "tuple", data := .seq #[.ref s.heap.objs.size] } = hB' at sz2 ⊢
  have kB : ∀ b o, hA'.get? b = some o → hB'.get? b = some o := fun b o e => hB ▸ Heap.get?_push_of_some _ e
  have gT : hB'.get? (s.heap.objs.size + 1) = some { cls := .type "tuple", data := .seq #[.ref s.heap.objs.size] } := by rw [← sz]; exact hB ▸ Heap.get?_push_size _ rfl
  have gM := Heap.get?_push_size hB' (o := mapObj (s.heap.objs.size + 1) f) rfl
  rw [sz2] at gM
  exact ⟨⟨_, gM, rfl⟩, q _ gM (Heap.get?_push_of_some _ gT) (Heap.get?_push_of_some _ (kB _ _ gI)) (by rw [Heap.size_push, sz2]) fun b o e => Heap.get?_push_of_some _ (kB _ _ (kA b o e))⟩
theorem iterMap {M T f : Addr} {Q : Value → Shared → Prop} (hM : s.heap.get? M = some (mapObj T f)) (h : Q (.ref M) s) : wpAny (model prog w) A (pyIter (.ref M)) Q E s := by
  have hT : s.TypeIs (.ref M) "map" := ⟨_, hM, rfl⟩
  refine wpAny_pyIter_slot hT slot_map_iter (wpAny_call_entry slot_map_iter hT entry_map_iter ?_ (args_map_iter _))
  show wpAny _ _ (ret (.ref M)) _ _ s
  exact wpAny_pure ⟨_, rfl, "map", _, hT, slot_map_next.lookup, h⟩
theorem nextMap_some {M T f It l : Addr} {i : Nat} {vs : Array Value} {x : Value} {Q : Option Value → Shared → Prop} (hh : A.handled = none) (hM : s.heap.get? M = some (mapObj T f)) (hT : s.heap.get? T = some { cls := .type "tuple", data := .seq #[.ref It] })
    (hI : s.heap.IsListIter It l i) (hl : s.heap.IsList l vs) (hx : vs[i]? = some x)
    (hc : ∀ h' (E' : Value → Shared → Prop), h'.IsListIter It l (i + 1) → Heap.SameBut It s.heap h' → It ≠ M → wpAny (model prog w) A.in1 (call (.ref f) [x]) (fun v s' => Q (some v) s') E' { s with heap := h' }) :
    wpAny (model prog w) A (pyNext (.ref M)) Q E s := by
  have hTI : s.TypeIs (.ref M) "map" := ⟨_, hM, rfl⟩
  have hne : It ≠ M := by
    rintro rfl
    obtain ⟨o, ho, hoc, _⟩ := hI
    rw [hM] at ho
    cases ho
    simp [mapObj] at hoc
  unfold pyNext
  refine wpAny_bind (wpAny_attempt (wpAny_callSpecial?_slot (name := Str.ofString "__next__") hTI slot_map_next (wpAny_call_entry slot_map_next hTI entry_map_next ?_ (args_map_next _))))
  have dM : (mapObj T f).data = .fields #[.ref T, .ref f] := rfl
  have f0 : ∀ {A : Around} {E : Value → Shared → Prop} {Q : Value → Shared → Prop}, Q (.ref T) s → wpAny (model prog w) A (field (.ref M) 0) Q E s := fun h => wpAny_field hM dM rfl h
  have f1 : ∀ {A : Around} {E : Value → Shared → Prop} {Q : Value → Shared → Prop} {h' : Heap}, h'.get? M = some (mapObj T f) → Q (.ref f) { s with heap := h' } → wpAny (model prog w) A (field (.ref M) 1) Q E { s with heap := h' } := fun h h2 => wpAny_field h dM rfl h2
  have hs : ∀ {Q : Value × List Value → Shared → Prop} {E : Value → Shared → Prop}, Q (.ref M, []) s → wpAny (model prog w) A.in1 (slotArgs "__next__" 0 ⟨[.ref M], []⟩) Q E s := fun h => by wp_walk; exact h
  show wpAny _ A.in1 (Builtin.«map.__next__» ⟨[.ref M], []⟩) _ _ s
  unfold Builtin.«map.__next__»
  refine wpAny_bind (hs ?_)
  refine wpAny_bind (f0 ?_)
  refine wpAny_bind (wpAny_seqItems hT rfl ?_)
  dsimp only
  rw [← Array.forIn_toList]
  simp only [List.forIn_cons, List.forIn_nil, bind_assoc, pure_bind]
  refine wpAny_bind (wpAny_holding (wpAny_nextOf_list_item hI hl hx fun h' hI' hS => ?_))
  have hM' := (hS.2 M (Ne.symm hne)).trans hM
  refine wpAny_bind (f1 hM' ?_)
  refine wpAny_bind (wpAny_holding (wpAny_mono (hc h' _ hI' hS hne) (fun v s' hq => ?_) fun _ _ e => e))
  refine wpAny_bind (wpAny_letGo ?_)
  exact wpAny_pure ⟨_, rfl, wpAny_pure hq⟩
theorem nextMap_none {M T f It l : Addr} {i : Nat} {vs : Array Value} {Q : Option Value → Shared → Prop} (hh : A.handled = none) (hM : s.heap.get? M = some (mapObj T f)) (hT : s.heap.get? T = some { cls := .type "tuple", data := .seq #[.ref It] })
    (hI : s.heap.IsListIter It l i) (hl : s.heap.IsList l vs) (hx : vs[i]? = none)
    (hQ : ∀ h', Heap.ExtBut It s.heap h' → Q none { s with heap := h' }) :
    wpAny (model prog w) A (pyNext (.ref M)) Q E s := by
  have hTI : s.TypeIs (.ref M) "map" := ⟨_, hM, rfl⟩
  unfold pyNext
  refine wpAny_bind (wpAny_attempt (wpAny_callSpecial?_slot (name := Str.ofString "__next__") hTI slot_map_next (wpAny_call_entry slot_map_next hTI entry_map_next ?_ (args_map_next _))))
  have dM : (mapObj T f).data = .fields #[.ref T, .ref f] := rfl
  have hs : ∀ {Q : Value × List Value → Shared → Prop} {E : Value → Shared → Prop}, Q (.ref M, []) s → wpAny (model prog w) A.in1 (slotArgs "__next__" 0 ⟨[.ref M], []⟩) Q E s := fun h => by wp_walk; exact h
  show wpAny _ A.in1 (Builtin.«map.__next__» ⟨[.ref M], []⟩) _ _ s
  unfold Builtin.«map.__next__»
  refine wpAny_bind (hs ?_)
  refine wpAny_bind (wpAny_field hM dM rfl ?_)
  refine wpAny_bind (wpAny_seqItems hT rfl ?_)
  dsimp only
  rw [← Array.forIn_toList]
  simp only [List.forIn_cons, List.forIn_nil, bind_assoc, pure_bind]
  refine wpAny_bind (wpAny_holding (wpAny_nextOf_list_end (A := A.in1) hh hI hl hx fun h' e hext ho => ?_))
  obtain ⟨o, ho, hc⟩ := ho
  refine wpAny_bind (wpAny_isInstance (T := "StopIteration") (b := true) ⟨o, ho, hc⟩ isSubtype_stop ?_)
  exact wpAny_pure (hQ h' hext)
end
end Mine
end

section -- text MAP3
theorem Mine.rows_off_MAP3 : True := by
  k_with_none
  trivial
open PySem PySem.W PyProof.Rows
set_option Elab.async false
set_option maxRecDepth 100000
set_option maxHeartbeats 1000000
set_option linter.all false
namespace Mine
section
variable {prog : Program} {w : World} {A : Around} {E : Value → Shared → Prop} {s : Shared} {h₀ : Heap} {L M T f It l : Addr} {m : Str → Option Value} {bl : List (Str × Tok)} {n₀ nL : Nat}
/-- a def that hands back its text, called from within a builtin: the frame and its news stay -/
noncomputable def Hands (prog : Program) (w : World) (A : Around) (h₀ : Heap) (L : Addr) (m : Str → Option Value) (f : Addr) : Prop :=
  ∀ (x : Str) (t : Tok) (news' : List (Addr × Obj)) (s : Shared) (Q E : Value → Shared → Prop), Fr h₀ L s.heap m → News h₀ L s.heap news' →
    (∀ t' h' tk', Fr h₀ L h' m → News h₀ L h' news' → Q (.str x t') { s with heap := h', toks := tk' }) → wpAny (model prog w) A (call (.ref f) [.str x t]) Q E s
/-- the map's objects, i items drawn -/
structure MapSt (h₀ : Heap) (L M T f It l : Addr) (m : Str → Option Value) (bl : List (Str × Tok)) (nL : Nat) (i : Nat) (h : Heap) : Prop where
  map : h.get? M = some (mapObj T f)
  tup : h.get? T = some { cls := .type "tuple", data := .seq #[.ref It] }
  iter : h.IsListIter It l i
  list : h.get? l = some (W.listOf (strValues bl).toArray nL)
  fr : Fr h₀ L h m
theorem listOf_is {h : Heap} {l : Addr} {its : Array Value} {n : Nat} (e : h.get? l = some (W.listOf its n)) : h.IsList l its := ⟨_, e, rfl, n, rfl⟩
theorem MapSt.keep {i : Nat} {h h' : Heap} (S : MapSt h₀ L M T f It l m bl nL i h) (hk : ∀ b o, h.get? b = some o → h'.get? b = some o) : MapSt h₀ L M T f It l m bl nL i h' :=
  ⟨hk _ _ S.map, hk _ _ S.tup, S.iter.at fun o e => hk _ o e, hk _ _ S.list, ⟨S.fr.ns.at' fun o e => hk _ o e, fun b o e => hk b o (S.fr.keep b o e), S.fr.above⟩⟩
/-- what a call leaves, that keeps the frame and all its news -/
theorem own_all {h h' : Heap} (F' : Fr h₀ L h' m) (F : Fr h₀ L h m) (N : News h₀ L h' (PyProof.Rows.ownOf h₀ ((List.range h.objs.size).filter (· ≠ L)) h)) : ∀ b o, b ≠ L → h.get? b = some o → h'.get? b = some o := by
  intro b o hb e
  cases hn : h₀.get? b with
  | some o' =>
    have := F.keep b o' hn
    rw [e] at this
    cases this
    exact F'.keep b o hn
  | none => exact (N (b, o) (mem_ownOf (List.mem_filter.mpr ⟨List.mem_range.mpr (Heap.lt_size e), by simpa using hb⟩) hn e)).1
/-- one draw of a map object -/
theorem drawMap (hh : A.handled = none) (C : Hands prog w A.in1 h₀ L m f) (d1 : It ≠ M) (d2 : It ≠ T) (d3 : It ≠ l) (dL : L ≠ M) (dT : L ≠ T) (dl : L ≠ l) (dI : L ≠ It) (hI0 : h₀.get? It = none)
    {i : Nat} {Q : Option Value → Shared → Prop} (hi : i < bl.length) (S : MapSt h₀ L M T f It l m bl nL i s.heap)
    (hQ : ∀ t h' tk', MapSt h₀ L M T f It l m bl nL (i + 1) h' → (∀ b o, b ≠ It → b ≠ L → s.heap.get? b = some o → h'.get? b = some o) → Q (some (.str bl[i].1 t)) { s with heap := h', toks := tk' }) :
    wpAny (model prog w) A (pyNext (.ref M)) Q E s := by
  have hx : (strValues bl).toArray[i]? = some (.str bl[i].1 bl[i].2) := by simp [strValues, hi]
  refine nextMap_some hh S.map S.tup S.iter (listOf_is S.list) hx fun h' E' hI hS _ => ?_
  have k1 : ∀ b o, b ≠ It → s.heap.get? b = some o → h'.get? b = some o := fun b o hb e => (hS.2 b hb).trans e
  have F1 : Fr h₀ L h' m := ⟨S.fr.ns.at' fun o e => k1 _ o dI e, fun b o e => k1 b o (fun h => by rw [h, hI0] at e; cases e) (S.fr.keep b o e), S.fr.above⟩
  refine C _ _ (PyProof.Rows.ownOf h₀ ((List.range h'.objs.size).filter (· ≠ L)) h') _ _ _ F1 (news_ownOf (by simp)) fun t' h'' tk' F2 N2 => ?_
  have k2 := own_all F2 F1 N2
  exact hQ _ _ _
    ⟨k2 _ _ (Ne.symm dL) (k1 _ _ (Ne.symm d1) S.map), k2 _ _ (Ne.symm dT) (k1 _ _ (Ne.symm d2) S.tup), hI.at fun o e => k2 _ o (Ne.symm dI) e, k2 _ _ (Ne.symm dl) (k1 _ _ (Ne.symm d3) S.list), F2⟩
    fun b o hb hL e => k2 b o hL (k1 b o hb e)
/-- the items that a map object over texts gives -/
noncomputable def TextAt (bl : List (Str × Tok)) (i : Nat) (v : Value) : Prop := ∃ c t, (bl.map (·.1))[i]? = some c ∧ v = .str c t
theorem extMap {R : Result → Shared → Prop} {Z : Addr} {res : Value} (hh : A.handled = none) (C : Hands prog w A.in1.in1 h₀ L m f) (d1 : It ≠ M) (d2 : It ≠ T) (d3 : It ≠ l) (dL : L ≠ M) (dT : L ≠ T) (dl : L ≠ l) (dI : L ≠ It) (hI0 : h₀.get? It = none)
    (z1 : Z ≠ M) (z2 : Z ≠ T) (z3 : Z ≠ l) (z4 : Z ≠ It) (z5 : Z ≠ L) (hZ0 : h₀.get? Z = none) (hn : bl.length ≤ sizeLine) :
    ∀ (k i : Nat) (h : Heap) (tk : Nat) (acc : Array Value) (c : Nat), bl.length - i = k → i ≤ bl.length → MapSt h₀ L M T f It l m bl nL i h → h.get? Z = some { cls := .type "list", dict := none, data := .seq acc c, slots := #[] } → ItemsOf (TextAt bl) acc i →
      (∀ h' tk' acc' c', Fr h₀ L h' m → (∀ b o, b ≠ Z → b ≠ It → b ≠ L → h.get? b = some o → h'.get? b = some o) → h'.get? Z = some { cls := .type "list", dict := none, data := .seq acc' c', slots := #[] } → ItemsOf (TextAt bl) acc' bl.length → R (.ok (.ret res)) { s with heap := h', toks := tk' }) →
      codeAny (model prog w) A (.builtin "list.extend.loop" ⟨[.ref Z, .ref M, res], []⟩) R { s with heap := h, toks := tk } := by
  intro k
  induction k with
  | zero =>
    intro i h tk acc c hk hi S hS hacc hR
    obtain rfl : i = bl.length := by omega
    refine codeAny_builtin F.entry_extend_loop ?_
    rw [Around.under_plainId F.plain_extend_loop _]
    show wpAny _ A.in1 (pyNext (.ref M) >>= _) _ _ _
    have hx : (strValues bl).toArray[bl.length]? = none := by simp [strValues]
    refine wpAny_bind (nextMap_none (A := A.in1) hh S.map S.tup S.iter (listOf_is S.list) hx fun h' hE => ?_)
    have k1 : ∀ b o, b ≠ It → h.get? b = some o → h'.get? b = some o := hE
    exact wpAny_pure (hR h' tk acc c ⟨S.fr.ns.at' fun o e => k1 _ o dI e, fun b o e => k1 b o (fun h => by rw [h, hI0] at e; cases e) (S.fr.keep b o e), S.fr.above⟩ (fun b o _ hb _ e => k1 b o hb e) (k1 _ _ z4 hS) hacc)
  | succ k ih =>
    intro i h tk acc c hk hi S hS hacc hR
    have hlt : i < bl.length := by omega
    refine codeAny_builtin F.entry_extend_loop ?_
    rw [Around.under_plainId F.plain_extend_loop _]
    show wpAny _ A.in1 (pyNext (.ref M) >>= _) _ _ _
    refine wpAny_bind (drawMap (A := A.in1) hh C d1 d2 d3 dL dT dl dI hI0 hlt S fun t h' tk' S' k1 => ?_)
    have hS' := k1 _ _ z4 z5 hS
    show wpAny _ A.in1 (updateSeq Z (·.push (.str bl[i].1 t)) >>= _) _ _ _
    refine wpAny_bind ?_
    have k2 : ∀ b o, b ≠ Z → h'.get? b = some o → (h'.update Z (Obj.mapSeq (·.push (.str bl[i].1 t)))).get? b = some o := fun b o hb e => (Heap.get?_update_other _ _ (Ne.symm hb)).trans e
    refine wpAny_updateSeq hS' rfl (wpAny_pure ⟨plainId_quiet F.plain_extend_loop _, ih (i + 1) _ _ (acc.push (.str bl[i].1 t)) _ (by omega) hlt
      ⟨k2 _ _ (Ne.symm z1) S'.map, k2 _ _ (Ne.symm z2) S'.tup, S'.iter.at fun o e => k2 _ o (Ne.symm z4) e, k2 _ _ (Ne.symm z3) S'.list, ⟨S'.fr.ns.at' fun o e => k2 _ o (Ne.symm z5) e, fun b o e => k2 b o (fun h => by rw [h, hZ0] at e; cases e) (S'.fr.keep b o e), S'.fr.above⟩⟩
      (Heap.get?_update_self _ hS' rfl) (hacc.push ⟨_, t, by simp [hlt], rfl⟩) fun h'' tk'' acc' c' F'' k'' g'' i'' => hR h'' tk'' acc' c' F'' (fun b o a1 a2 a3 e => k'' b o a1 a2 a3 (k2 b o a1 (k1 b o a2 a3 e))) g'' i''⟩)
      (by rw [hacc.1]; omega) (by show (acc.push _).size ≤ sizeLine + 1; rw [Array.size_push, hacc.1]; omega)
/-- a map object's items gathered in a list -/
theorem collectMap {Q : List Value → Shared → Prop} (hh : A.handled = none) (C : Hands prog w A.in1.in1 h₀ L m f) (d1 : It ≠ M) (d2 : It ≠ T) (d3 : It ≠ l) (dL : L ≠ M) (dT : L ≠ T) (dl : L ≠ l) (dI : L ≠ It) (hI0 : h₀.get? It = none) (hn : bl.length ≤ sizeLine)
    (S : MapSt h₀ L M T f It l m bl nL 0 s.heap)
    (hQ : ∀ h' tk' acc, Fr h₀ L h' m → (∀ b o, b ≠ It → b ≠ L → s.heap.get? b = some o → h'.get? b = some o) → ItemsOf (TextAt bl) acc bl.length → Q acc.toList { s with heap := h', toks := tk' }) : wpAny (model prog w) A (collect (.ref M)) Q E s := by
  have lt : ∀ {b o}, s.heap.get? b = some o → s.heap.objs.size ≠ b := fun e => Ne.symm (Nat.ne_of_lt (Heap.lt_size e))
  have z1 := lt S.map
  have z2 := lt S.tup
  have z3 := lt S.list
  have z4 : s.heap.objs.size ≠ It := by obtain ⟨o, ho, _⟩ := S.iter; exact lt ho
  have z5 : s.heap.objs.size ≠ L := Ne.symm (Nat.ne_of_lt S.fr.ns.lt)
  have z0 := new_none S.fr
  generalize hz : s.heap.objs.size = z at z0 z1 z2 z3 z4 z5
  unfold collect
  refine wpAny_bind (wpAny_runValue (codeAny_builtin F.entry_proto_collect ?_))
  rw [Around.under_plainId F.plain_proto_collect _]
  show wpAny _ A.in1 (newList [] >>= fun l => again (.builtin "list.__iadd__" ⟨[l, .ref M], []⟩)) _ _ s
  refine wpAny_bind (wpAny_newObj_type ?_)
  refine wpAny_pure ⟨plainId_quiet F.plain_list_iadd _, codeAny_builtin F.entry_list_iadd ?_⟩
  rw [Around.under_plainId F.plain_list_iadd _, hz]
  generalize hp : s.heap.push { cls := .type "list", data := .seq ([] : List Value).toArray } = h1
  have k1 : ∀ b o, s.heap.get? b = some o → h1.get? b = some o := fun b o e => hp ▸ Heap.get?_push_of_some _ e
  have g1 : h1.get? z = some { cls := .type "list", data := .seq ([] : List Value).toArray } := hz ▸ hp ▸ Heap.get?_push_size _ rfl
  have S1 := S.keep k1
  have hT1 : ({ s with heap := h1 } : Shared).TypeIs (.ref M) "map" := ⟨_, S1.map, rfl⟩
  show wpAny _ A.in1 (Builtin.List.listExtendWith (.ref z) (.ref M) (.ref z)) _ _ { s with heap := h1 }
  unfold Builtin.List.listExtendWith
  refine wpAny_bind (wpAny_typeOf hT1 ?_)
  have e1 : Builtin.List.listSameRef (.ref z) (.ref M) = false := by simp [Builtin.List.listSameRef, z1]
  have e2 : (Value.type "map" == Value.type "list") = false := by decide
  have e3 : (Value.type "map" == Value.type "tuple") = false := by decide
  simp only [e1, e2, e3, Bool.or_false, Bool.false_eq_true, if_false]
  refine wpAny_bind (iterMap S1.map (wpAny_bind (wpAny_holding ?_)))
  unfold Builtin.List.listLengthHint
  refine wpAny_bind (wpAny_specialOf hT1 map_no_len ?_)
  show wpAny _ A.in1 (specialOf (Value.ref M) (Str.ofString "__length_hint__") >>= _) _ _ _
  refine wpAny_bind (wpAny_specialOf hT1 map_no_hint (wpAny_pure ?_))
  show wpAny _ A.in1 (rule "list.extend.makes-room" >>= fun _ => Builtin.List.listTouch (.ref z) >>= fun _ => again (.builtin "list.extend.loop" ⟨[.ref z, .ref M, .ref z], []⟩)) _ _ _
  refine wpAny_bind (wpAny_rule (wpAny_bind ?_))
  show wpAny _ A.in1 (updateSeq z (·.push .none) >>= fun _ => updateSeq z (·.pop)) _ _ _
  have g2 := Heap.get?_update_self (Obj.mapSeq (·.push Value.none)) g1 rfl
  have g3 := Heap.get?_update_self (Obj.mapSeq (·.pop)) g2 rfl
  have k3 : ∀ b o, b ≠ z → h1.get? b = some o → ((h1.update z (Obj.mapSeq (·.push Value.none))).update z (Obj.mapSeq (·.pop))).get? b = some o :=
    fun b o hb e => (Heap.get?_update_other _ _ (Ne.symm hb)).trans ((Heap.get?_update_other _ _ (Ne.symm hb)).trans e)
  refine wpAny_bind (wpAny_updateSeq g1 rfl (wpAny_updateSeq g2 rfl ?_))
  have S3 : MapSt h₀ L M T f It l m bl nL 0 _ := ⟨k3 _ _ (Ne.symm z1) S1.map, k3 _ _ (Ne.symm z2) S1.tup, S1.iter.at fun o e => k3 _ o (Ne.symm z4) e, k3 _ _ (Ne.symm z3) S1.list,
    ⟨S1.fr.ns.at' fun o e => k3 _ o (Ne.symm z5) e, fun b o e => k3 b o (fun h => by rw [h, z0] at e; cases e) (S1.fr.keep b o e), S1.fr.above⟩⟩
  refine wpAny_pure ⟨plainId_quiet F.plain_extend_loop _, extMap (s := s) hh C d1 d2 d3 dL dT dl dI hI0 z1 z2 z3 z4 z5 z0 hn bl.length 0 _ _ _ _ rfl (Nat.zero_le _) S3 g3 (ItemsOf.nil _) fun h' tk' acc c F' k' gS its => ?_⟩
  show wpAny _ A (load z >>= _) _ _ _
  exact wpAny_bind (wpAny_load gS (wpAny_pure (hQ h' tk' acc F' (fun b o a1 a2 e => k' b o (hz ▸ Nat.ne_of_lt (Heap.lt_size e)) a1 a2 (k3 b o (hz ▸ Nat.ne_of_lt (Heap.lt_size e)) (k1 b o e))) its)))
theorem codeTupleMap {Q₁ : Value → Shared → Prop} (hh : A.handled = none) (C : Hands prog w A.in1.in1.in1 h₀ L m f) (d1 : It ≠ M) (d2 : It ≠ T) (d3 : It ≠ l) (dL : L ≠ M) (dT : L ≠ T) (dl : L ≠ l) (dI : L ≠ It) (hI0 : h₀.get? It = none) (hn : bl.length ≤ sizeLine)
    (S : MapSt h₀ L M T f It l m bl nL 0 s.heap)
    (h : ∀ h' tk' acc, Fr h₀ L h' m → (∀ b o, b ≠ It → b ≠ L → s.heap.get? b = some o → h'.get? b = some o) → ItemsOf (TextAt bl) acc bl.length → Q₁ (.ref h'.objs.size) { s with heap := h'.push { cls := .type "tuple", data := .seq acc }, toks := tk' }) :
    codeAny (model prog w) A (.call (.builtin "tuple.__new__") ⟨[.type "tuple", .ref M], []⟩) (wants Q₁ E) s := by
  refine codeAny_of_tree ?_
  show wpAny _ A.in1 (do checkBuiltinCall "tuple.__new__" ⟨[.type "tuple", .ref M], []⟩; again (.builtin "tuple.__new__" ⟨[.type "tuple", .ref M], []⟩)) _ _ s
  refine wpAny_bind (wpAny_of_eq (F.newCall_tuple_1 _) (wpAny_pure ⟨plainId_quiet F.plain_tuple_new _, codeAny_builtin F.entry_tuple_new ?_⟩))
  rw [Around.under_plainId F.plain_tuple_new _]
  have hsub := sub_tuple_self
  have hinit := init_tuple_lookup
  have hmh := madeHere_tuple
  have hTI : s.TypeIs (.ref M) "map" := ⟨_, S.map, rfl⟩
  wp_walk using wpAny_typeOf hTI, collectMap (A := A.in1) hh C d1 d2 d3 dL dT dl dI hI0 hn S
  intro h' tk' acc F' k' its
  show wpAny _ _ (Builtin.Tuple.tupleExact acc.toList.toArray >>= fun v => ret v) _ _ _
  unfold Builtin.Tuple.tupleExact
  have e : acc.toList.toArray = acc := by simp
  rw [e]
  exact wpAny_bind (wpAny_newObj_type (wpAny_pure (h h' tk' acc F' k' its)) (by show acc.size ≤ sizeLine; rw [its.1]; exact hn))
theorem callTupleMap {Q : Value → Shared → Prop} (hh : A.handled = none) (C : Hands prog w A.in1.in1.in1.in1 h₀ L m f) (d1 : It ≠ M) (d2 : It ≠ T) (d3 : It ≠ l) (dL : L ≠ M) (dT : L ≠ T) (dl : L ≠ l) (dI : L ≠ It) (hI0 : h₀.get? It = none) (hn : bl.length ≤ sizeLine)
    (S : MapSt h₀ L M T f It l m bl nL 0 s.heap)
    (hQ : ∀ h' tk' acc, Fr h₀ L h' m → (∀ b o, b ≠ It → b ≠ L → s.heap.get? b = some o → h'.get? b = some o) → ItemsOf (TextAt bl) acc bl.length → Q (.ref h'.objs.size) { s with heap := h'.push { cls := .type "tuple", data := .seq acc }, toks := tk' }) :
    wpAny (model prog w) A (call (.type "tuple") [.ref M]) Q E s := by
  refine callType_codes (Q₁ := fun obj s₁ => s₁.TypeIs obj "tuple" ∧ Q obj s₁) F.called_tuple (F.typeCall_tuple_1 _) F.entry_object_init
    (codeTupleMap (A := A.in1) hh C d1 d2 d3 dL dT dl dI hI0 hn S fun h' tk' acc F' k' its => ⟨⟨_, Heap.get?_push_size _ rfl, rfl⟩, hQ h' tk' acc F' k' its⟩) fun obj s₁ h₁ => ?_
  exact ⟨h₁.1, F.args_object_init_2 obj _, object_init_meets F.called_tuple.init.lookup F.called_tuple.made (by decide) prog w A.in1 _ s₁ ⟨h₁.1, rfl, h₁.2⟩⟩
theorem mapK {f l : Addr} {news : List (Addr × Obj)} {its : Array Value} {n : Nat} {Q : Value → Shared → Prop} (F : Fr h₀ L s.heap m) (N : News h₀ L s.heap news) (hl : (l, W.listOf its n) ∈ news)
    (h : ∀ I h', (∀ p ∈ news, p.1 < I) → Fr h₀ L h' m → News h₀ L h' ((I + 2, mapObj (I + 1) f) :: (I + 1, { cls := .type "tuple", data := .seq #[.ref I] }) :: (I, litObj l) :: news) → Q (.ref (I + 2)) { s with heap := h' }) :
    wpAny (model prog w) A (call (.type "map") [.ref f, .ref l]) Q E s := by
  refine callMap (N _ hl).1 fun h' gM gT gI _ hk => ?_
  have lL : L < s.heap.objs.size := F.ns.lt
  have nn : ∀ j, h₀.get? (s.heap.objs.size + j) = none := fun j => by
    cases e : h₀.get? (s.heap.objs.size + j) with
    | none => rfl
    | some o => exact absurd (Heap.lt_size (F.keep _ _ e)) (Nat.not_lt.mpr (Nat.le_add_right _ _))
  refine h _ h' (fun p hp => Heap.lt_size (N p hp).1) (F.keeps hk) fun p hp => ?_
  rcases List.mem_cons.mp hp with rfl | hp
  · exact ⟨gM, Nat.ne_of_gt (Nat.lt_add_right 2 lL), nn 2⟩
  · rcases List.mem_cons.mp hp with rfl | hp
    · exact ⟨gT, Nat.ne_of_gt (Nat.lt_add_right 1 lL), nn 1⟩
    · rcases List.mem_cons.mp hp with rfl | hp
      · exact ⟨gI, Nat.ne_of_gt lL, nn 0⟩
      · exact ⟨hk _ _ (N p hp).1, (N p hp).2⟩
theorem texts_of : ∀ {bl : List (Str × Tok)} {acc : Array Value}, ItemsOf (TextAt bl) acc bl.length → ∃ bl' : List (Str × Tok), acc = (strValues bl').toArray ∧ bl'.map (·.1) = bl.map (·.1) := by
  intro bl acc h
  have key : ∀ (n : Nat), n ≤ bl.length → ∃ bl' : List (Str × Tok), acc.toList.take n = strValues bl' ∧ bl'.map (·.1) = (bl.map (·.1)).take n := by
    intro n
    induction n with
    | zero => intro _; exact ⟨[], rfl, rfl⟩
    | succ n ih =>
      intro hn
      obtain ⟨b', e1, e2⟩ := ih (by omega)
      have hs : n < acc.size := by rw [h.1]; omega
      obtain ⟨c, t, hc, hv⟩ := h.2 n acc[n] (Array.getElem?_eq_getElem hs)
      refine ⟨b' ++ [(c, t)], ?_, ?_⟩
      · rw [List.take_add_one, e1]
        have : acc.toList[n]? = some (.str c t) := by rw [← hv, Array.getElem?_toList]; exact Array.getElem?_eq_getElem hs
        rw [this]; simp [strValues]
      · rw [List.take_add_one, hc, List.map_append, e2]; rfl
  obtain ⟨b', e1, e2⟩ := key bl.length (Nat.le_refl _)
  refine ⟨b', ?_, by rw [e2, List.take_of_length_le (by rw [List.length_map]; exact Nat.le_refl _)]⟩
  rw [← e1, List.take_of_length_le (by have := h.1; rw [Array.length_toList]; exact Nat.le_of_eq this)]
theorem hands_of_cl {w : World} {loose : List Str} {mean : ExcName → Option Value} {mg mb : Str → Option Value} {f : Addr} (C : ∀ news x t, Cl 1 w loose mean mg mb f news [.str x t] (fun t => .str x t))
    {dp un : Nat} {gd : Option (List Code)} {cn : Str} {cs : Scope} {a : Addr} {ccd : Value} {cl : List (Str × Addr)} {outer : List Env} {A₀ : Around} {base h₀ : Heap} {L : Addr} {m : Str → Option Value}
    (B : Below A₀ base outer h₀) (X : (Mine.hd.heap_39 w.params).In h₀) (T : Top Mine.hd.view_39 loose mean mg mb h₀) (hk : cs.kind = .function) (hd : dp + 1 < recursionLimit) (hu : un + 20 < cLine) :
    Hands PySem.Challenge.rw_il0078_01.row.prog w (ktrTop dp un gd cn cs L a ccd cl outer) h₀ L m f :=
  fun x t news' s Q E F N h => use_cl (C news' x t) B F X N T hk hd hu fun t' h' tk' F' N' => h t' h' tk' F' N'
theorem tupMapK {w : World} {loose : List Str} {mean : ExcName → Option Value} {mg mb : Str → Option Value} {f l I : Addr} (C : ∀ news x t, Cl 1 w loose mean mg mb f news [.str x t] (fun t => .str x t))
    {dp un : Nat} {gd : Option (List Code)} {cn : Str} {cs : Scope} {a : Addr} {ccd : Value} {cl : List (Str × Addr)} {outer : List Env} {A₀ : Around} {base h₀ : Heap} {L : Addr} {m : Str → Option Value} {s : Shared} {Q E : Value → Shared → Prop} {news : List (Addr × Obj)} {bl : List (Str × Tok)} {n : Nat}
    (B : Below A₀ base outer h₀) (F : Fr h₀ L s.heap m) (X : (Mine.hd.heap_39 w.params).In h₀) (N : News h₀ L s.heap ((I + 2, mapObj (I + 1) f) :: (I + 1, { cls := .type "tuple", data := .seq #[.ref I] }) :: (I, litObj l) :: news)) (T : Top Mine.hd.view_39 loose mean mg mb h₀) (hk : cs.kind = .function)
    (hd : dp + 1 < recursionLimit) (hu : un + 24 < cLine) (hl : (l, W.listOf (strValues bl).toArray n) ∈ news) (hn : bl.length ≤ 1000) (dw : ∀ p ∈ news, p.1 ≠ I)
    (h : ∀ D bl' h' tk', bl'.map (·.1) = bl.map (·.1) → (∀ p ∈ news, p.1 < D) → Fr h₀ L h' m → News h₀ L h' ((D, { cls := .type "tuple", data := .seq (strValues bl').toArray }) :: news) → Q (.ref D) { s with heap := h', toks := tk' }) :
    wpAny (model PySem.Challenge.rw_il0078_01.row.prog w) (ktrTop dp un gd cn cs L a ccd cl outer) (call (.type "tuple") [.ref (I + 2)]) Q E s := by
  have NM := N _ (.head _)
  have NT := N _ (.tail _ (.head _))
  have NI := N _ (.tail _ (.tail _ (.head _)))
  have Nr : News h₀ L s.heap news := fun p hp => N p (.tail _ (.tail _ (.tail _ hp)))
  have Nl := Nr _ hl
  have dl : I ≠ l := by
    rintro rfl
    have h1 := NI.1
    have h2 := Nl.1
    rw [h1] at h2
    exact absurd (congrArg (fun o => Option.map Obj.cls o) h2) (by simp [litObj, W.listOf])
  refine callTupleMap (bl := bl) (nL := n) (It := I) (T := I + 1) (l := l) (f := f) rfl (hands_of_cl (un := un + 4) C B X T hk hd (by omega)) (Nat.ne_of_lt (Nat.lt_add_of_pos_right (by decide))) (Nat.ne_of_lt (Nat.lt_add_of_pos_right (by decide))) dl (Ne.symm NM.2.1) (Ne.symm NT.2.1) (Ne.symm Nl.2.1) (Ne.symm NI.2.1) NI.2.2 (by rw [sizeLine_eq]; omega)
    ⟨NM.1, NT.1, ⟨_, NI.1, rfl, rfl⟩, Nl.1, F⟩ fun h' tk' acc F' k' its => ?_
  obtain ⟨bl', rfl, hb⟩ := texts_of its
  have N1 : News h₀ L h' news := fun p hp => ⟨k' _ _ (dw p hp) (Nr p hp).2.1 (Nr p hp).1, (Nr p hp).2⟩
  refine h _ bl' _ tk' hb (fun p hp => Heap.lt_size (N1 p hp).1) (F'.push _) fun p hp => ?_
  rcases List.mem_cons.mp hp with rfl | hp
  · exact ⟨Heap.get?_push_size _ rfl, Nat.ne_of_gt F'.ns.lt, new_none F'⟩
  · exact News.past (m := m) N1 _ p hp
end
end Mine
end

section -- text COMP
theorem Mine.rows_off_COMP : True := by
  k_with_none
  trivial
open PySem PySem.W PyProof.Rows PySem.Calls
set_option Elab.async false
set_option maxRecDepth 100000
set_option maxHeartbeats 1000000
set_option linter.all false
namespace Mine
section
variable {prog : Program} {w : World} {A : Around} {E : Value → Shared → Prop} {s : Shared} {h₀ : Heap} {L : Addr} {m : Str → Option Value} {env : Env} {news : List (Addr × Obj)}
/-- the test of a comprehension's clauses -/
abbrev testsOf (ifs : List Expr) (cenv : Env) : Sem Bool := forIn ifs true fun c r => if r = true then do let ok ← isTrue c cenv (eval c cenv); pure (ForInStep.yield ok) else pure (ForInStep.yield r)
/-- how a comprehension's turn ends -/
noncomputable def CEnd (h₀ : Heap) (L : Addr) (m : Str → Option Value) (s : Shared) (I : Addr) (oI : Obj) (C : Addr) (oC : Obj) (D : Addr) (ys : List Value) (J : List Value → List (Addr × Obj) → Prop) (ys' : List Value) (s₄ : Shared) : Prop :=
  ∃ h' tk' nx, s₄ = { s with heap := h', toks := tk' } ∧ Fr h₀ L h' m ∧ News h₀ L h' ((I, oI) :: (C, oC) :: (D, LCg.lst ys) :: nx) ∧ (∀ p ∈ nx, p.1 ≠ I ∧ p.1 ≠ C ∧ p.1 ≠ D) ∧ J ys' nx
/-- what a comprehension's turn is to show -/
noncomputable def CTurn (prog : Program) (w : World) (A : Around) (h₀ : Heap) (L : Addr) (m : Str → Option Value) (env : Env) (elt : Expr) (x : Str) (ifs : List Expr) (scope : Scope) (cl : List (Str × Addr)) (s : Shared) (I : Addr) (news : List (Addr × Obj)) (n : Nat) (P : Nat → Value → Prop)
    (J : Nat → List Value → List (Addr × Obj) → Prop) : Prop :=
  ∀ i v ys nx C oC m₂ D oI h tk (E' : Value → Shared → Prop), i < n → P i v → J i ys nx → LCg.NsObj oC m₂ → m₂ x = some v → (∀ p ∈ news, p.1 < I) → (@LT.lt Nat _ I D) → (@LT.lt Nat _ D C) → (∀ p ∈ nx, p.1 ≠ I ∧ p.1 ≠ C ∧ p.1 ≠ D) → Fr h₀ L h m → News h₀ L h ((I, oI) :: (C, oC) :: (D, LCg.lst ys) :: nx) →
    wpAny (model prog w) A (testsOf ifs (compEnvC scope cl C env)) (fun ok s₃ => if ok = true then wpAny (model prog w) A (eval elt (compEnvC scope cl C env)) (fun y s₄ => CEnd h₀ L m s I oI C oC D ys (J (i + 1)) (ys ++ [y]) s₄) E' s₃
      else CEnd h₀ L m s I oI C oC D ys (J (i + 1)) ys s₃) E' { s with heap := h, toks := tk }
theorem comp_core {elt iter : Expr} {x : Str} {px : Pos} {ifs : List Expr} {scope : Scope} {cl : List (Str × Addr)} {pos : Pos} {I : Addr} {fp : List Addr} {n : Nat} {P : Nat → Value → Prop} {St : Nat → Heap → Prop} {RR : Value → Addr → Result → Shared → Prop}
    (WK : Walks prog w A I fp [I] n P St) (fo : List (Addr × Obj)) (J : Nat → List Value → List (Addr × Obj) → Prop) (hsz : n ≤ sizeLine)
    (hcell : ∀ y ∈ scope.names, y.2 ≠ .cell) (hkind : scope.kind = .function) (hx : scope.names.lookup x = some .local)
    (hst : St 0 s.heap) (hIO : ∀ i h, St i h → ∃ o, h.get? I = some o) (hlt : ∀ b ∈ fp, b < s.heap.objs.size) (hI0 : h₀.get? I = none) (hIL : I ≠ L) (hnI : ∀ p ∈ news, p.1 < I)
    (hfp : ∀ b ∈ fp, b = I ∨ (∃ o, (b, o) ∈ fo) ∨ (h₀.get? b).isSome = true) (F : Fr h₀ L s.heap m) (N : News h₀ L s.heap news) (hj : J 0 [] news)
    (hJ : ∀ i ys nx, J i ys nx → ∀ p ∈ fo, p ∈ nx)
    (turn : CTurn prog w A h₀ L m env elt x ifs scope cl s I news n P J)
    (hRR : ∀ D C h tk m' ys nx, J n ys nx → (∀ p ∈ news, p.1 < D) → (∀ p ∈ nx, p.1 ≠ C ∧ p.1 ≠ D) → Fr h₀ L h m → News h₀ L h ((D, LCg.lst ys) :: nx) → h.Ns C m' → h₀.get? C = none → C ≠ L → C ≠ D → RR (.ref D) C (.ok .next) { s with heap := h, toks := tk }) :
    wpAny (model prog w) A (newList []) (fun acc s₃ => wpAny (model prog w) A (newFunctionEnv scope env.globals cl [] env.qual none .none (some env)) (fun cenv s₄ =>
      codeAny (model prog w) A (.compStart (.ListComp elt [⟨.Name x px, iter, ifs, 0⟩] scope pos) 0 (.ref I) acc { cenv with scope := relabel scope env }) (RR acc cenv.locals) s₄) E s₃) E s := by
  have hIf : I ∈ fp := WK.sub I (List.mem_singleton.mpr rfl)
  have lI : I < s.heap.objs.size := hlt I hIf
  have lL : L < s.heap.objs.size := F.ns.lt
  refine wpAny_newObj_type (wpAny_newFunctionEnv hcell (by intro y hy; simp at hy) (fun h₁ hns hsb => ?_) hkind)
  dsimp only at hns hsb ⊢
  generalize hp : s.heap.push { cls := .type "list", dict := none, data := .seq ([] : List Value).toArray } = hA at hns hsb ⊢
  have kA : ∀ b o, s.heap.get? b = some o → hA.get? b = some o := fun b o e => hp ▸ Heap.get?_push_of_some _ e
  have gA : hA.get? s.heap.objs.size = some (LCg.lst []) := hp ▸ Heap.get?_push_size _ rfl
  have zA : hA.objs.size = s.heap.objs.size + 1 := by rw [← hp, Heap.size_push]
  obtain ⟨D, hD⟩ : ∃ D, D = s.heap.objs.size := ⟨_, rfl⟩
  obtain ⟨C, hC⟩ : ∃ C, C = hA.objs.size := ⟨_, rfl⟩
  rw [← hD] at gA zA
  rw [← hC] at hns hsb zA ⊢
  rw [← hD]
  have lD : ∀ b, b < s.heap.objs.size → b ≠ D ∧ b ≠ C := fun b hb => ⟨Nat.ne_of_lt (hD ▸ hb), Nat.ne_of_lt (by rw [zA, hD]; exact Nat.lt_succ_of_lt hb)⟩
  have dDC : D ≠ C := Nat.ne_of_lt (by rw [zA]; exact Nat.lt_succ_self _)
  have none₀ : ∀ b, s.heap.objs.size ≤ b → h₀.get? b = none := fun b hb => by
    cases e : h₀.get? b with
    | none => rfl
    | some o => exact absurd (Heap.lt_size (F.keep _ _ e)) (Nat.not_lt.mpr hb)
  have hD0 : h₀.get? D = none := none₀ D (Nat.le_of_eq hD.symm)
  have hC0 : h₀.get? C = none := none₀ C (by rw [zA, hD]; exact Nat.le_succ _)
  have hDL : D ≠ L := Ne.symm (lD L lL).1
  have hCL : C ≠ L := Ne.symm (lD L lL).2
  have hID : I ≠ D := (lD I lI).1
  have hIC : I ≠ C := (lD I lI).2
  have k1 : ∀ b o, s.heap.get? b = some o → h₁.get? b = some o := fun b o e => hsb.extBut b o (lD b (Heap.lt_size e)).2 (Heap.get?_push_of_some _ (kA b o e))
  have g1 : h₁.get? D = some (LCg.lst []) := hsb.extBut _ _ dDC (Heap.get?_push_of_some _ gA)
  have dDf : D ∉ fp := fun h => (lD D (hlt D h)).1 rfl
  have dCf : C ∉ fp := fun h => (lD C (hlt C h)).2 rfl
  have lnI : ∀ p ∈ news, p.1 ≠ I ∧ p.1 ≠ C ∧ p.1 ≠ D := fun p hp => ⟨Nat.ne_of_lt (hnI p hp), (lD _ (Heap.lt_size (N p hp).1)).2, (lD _ (Heap.lt_size (N p hp).1)).1⟩
  have loop : ∀ s₃ : Shared, s₃ = { s with heap := h₁, toks := s.toks + ([] : List (Str × Value)).length } →
      codeAny (model prog w) A (.compLoop (.ListComp elt [⟨.Name x px, iter, ifs, 0⟩] scope pos) 0 (.ref I) (.ref D) (compEnvC scope cl C env)) (RR (.ref D) C) s₃ := by
    rintro s₃ rfl
    refine codeAny_compLoop_tests
      (fun k s' => ∃ h' tk i ys m' nx, s' = { s with heap := h', toks := tk } ∧ i ≤ n ∧ k = n + 1 - i ∧ ys.length ≤ i ∧ St i h' ∧ Fr h₀ L h' m ∧ h'.Ns C m' ∧ News h₀ L h' ((D, LCg.lst ys) :: nx) ∧ (∀ p ∈ nx, p.1 ≠ I ∧ p.1 ≠ C ∧ p.1 ≠ D) ∧ J i ys nx) ?_ (n + 1)
      ⟨h₁, _, 0, [], _, news, rfl, Nat.zero_le _, rfl, Nat.le_refl _, WK.frame _ _ _ hst fun b _ o e => k1 b o e, F.keeps k1, hns, fun p hp => ?_, lnI, hj⟩
    · intro k s' hx0
      refine hideP ?_
      intro G kG
      obtain ⟨h', tk, i, ys, m', nx, e1, hi, e2, hyl, hst', F', hn', N', off, hj'⟩ := hx0
      refine kG ?_
      clear kG
      subst e1
      subst e2
      have up : ∀ h₂ : Heap, (∀ b o, b ∉ [I] → h'.get? b = some o → h₂.get? b = some o) → Fr h₀ L h₂ m ∧ News h₀ L h₂ ((D, LCg.lst ys) :: nx) ∧ h₂.Ns C m' := fun h₂ hk =>
        ⟨⟨F'.ns.at' fun o e => hk _ o (by simpa using Ne.symm hIL) e, fun b o e => hk b o (fun hm => by rw [List.mem_singleton.mp hm, hI0] at e; cases e) (F'.keep b o e), F'.above⟩,
         fun p hp => ⟨hk _ _ (by
           rcases List.mem_cons.mp hp with rfl | hp
           · simpa using Ne.symm hID
           · simpa using (off p hp).1) (N' p hp).1, (N' p hp).2⟩, hn'.at' fun o e => hk _ o (by simpa using Ne.symm hIC) e⟩
      by_cases hl : i < n
      · refine WK.item i _ _ _ hl hst' fun v h₂ tk₂ hP hst₂ hk₂ => ?_
        obtain ⟨F₂, N₂, hn₂⟩ := up h₂ hk₂
        refine wpAny_assign_Name (wpAny_storeName_local (lookup_relabel_local hx) hn₂ (fun h₃ hn₃ hs₃ => ?_) (by simp [compEnvC, relabel, hkind]))
        have k3 : ∀ b o, b ≠ C → h₂.get? b = some o → h₃.get? b = some o := fun b o hb e => hs₃.extBut b o hb e
        have hst₃ : St (i + 1) h₃ := WK.frame _ _ _ hst₂ fun b hb o e => k3 b o (fun q => dCf (q ▸ hb)) e
        obtain ⟨oI, gI⟩ := hIO _ _ hst₃
        obtain ⟨oC, gC, hoC⟩ := LCg.ns_obj hn₃
        have F₃ : Fr h₀ L h₃ m := F₂.change hs₃ hCL hC0
        have N₃ : News h₀ L h₃ ((I, oI) :: (C, oC) :: (D, LCg.lst ys) :: nx) := fun p hp => by
          rcases List.mem_cons.mp hp with rfl | hp
          · exact ⟨gI, hIL, hI0⟩
          · rcases List.mem_cons.mp hp with rfl | hp
            · exact ⟨gC, hCL, hC0⟩
            · refine ⟨k3 _ _ ?_ (N₂ p hp).1, (N₂ p hp).2⟩
              rcases List.mem_cons.mp hp with rfl | hp
              · exact dDC
              · exact (off p hp).2.1
        have fin : ∀ h₄ nx', Fr h₀ L h₄ m → News h₀ L h₄ ((I, oI) :: (C, oC) :: (D, LCg.lst ys) :: nx') → (∀ p ∈ fo, p ∈ nx') → St (i + 1) h₄ := fun h₄ nx' F₄ N₄ hfo => by
          refine WK.frame _ _ _ hst₃ fun b hb o e => ?_
          rcases hfp b hb with rfl | ⟨o', ho⟩ | h0
          · rw [gI] at e; cases e; exact (N₄ _ (.head _)).1
          · have q := (N₃ (b, o') (.tail _ (.tail _ (.tail _ (hJ _ _ _ hj' _ ho))))).1
            rw [e] at q; cases q
            exact (N₄ (b, _) (.tail _ (.tail _ (.tail _ (hfo _ ho))))).1
          · obtain ⟨o', e'⟩ := Option.isSome_iff_exists.mp h0
            have q := F₃.keep _ _ e'
            rw [e] at q; cases q
            exact F₄.keep _ _ e'
        have lID : @LT.lt Nat _ I D := by rw [hD]; exact lI
        have lDC : @LT.lt Nat _ D C := by rw [zA]; exact Nat.lt_succ_self _
        refine wpAny_mono (turn i v ys nx C oC _ D oI h₃ _ _ hl hP hj' hoC (by simp) hnI lID lDC off F₃ N₃) (fun ok s₃ hk => ?_) fun _ _ e => e
        cases ok with
        | true =>
          rw [if_pos rfl] at hk ⊢
          refine wpAny_mono hk (fun y s₄ h₄ => ?_) fun _ _ e => e
          refine hideP ?_
          intro G kG
          obtain ⟨h₄, tk₄, nx', e1, F₄, N₄, off', hj₄⟩ := h₄
          refine kG ?_
          clear kG
          subst e1
          have hst₄ := fin h₄ nx' F₄ N₄ (hJ _ _ _ hj₄)
          refine append_at (hsz := by show ys.toArray.size ≤ sizeLine; rw [List.size_toArray]; omega) (N₄ _ (.tail _ (.tail _ (.head _)))).1 fun h₅ hs₅ g₅ => ?_
          have k5 : ∀ b o, b ≠ D → h₄.get? b = some o → h₅.get? b = some o := fun b o hb e => hs₅.extBut b o hb e
          refine ⟨n + 1 - (i + 1), dec_lt hl, h₅, tk₄, i + 1, ys ++ [y], _, nx', rfl, hl, rfl, by rw [List.length_append, List.length_singleton]; omega, WK.frame _ _ _ hst₄ fun b hb o e => k5 b o (fun q => dDf (q ▸ hb)) e, F₄.change hs₅ hDL hD0,
            (hoC.ns (N₄ _ (.tail _ (.head _))).1).sameBut hs₅ (Ne.symm dDC), fun p hp => ?_, off', hj₄⟩
          rcases List.mem_cons.mp hp with rfl | hp
          · exact ⟨g₅.trans (congrArg some (LCg.lst_snoc ys y)), hDL, hD0⟩
          · have q := N₄ p (.tail _ (.tail _ (.tail _ hp)))
            exact ⟨k5 _ _ (off' p hp).2.2 q.1, q.2⟩
        | false =>
          rw [if_neg Bool.false_ne_true] at hk ⊢
          refine hideP ?_
          intro G kG
          obtain ⟨h₄, tk₄, nx', e1, F₄, N₄, off', hj₄⟩ := hk
          refine kG ?_
          clear kG
          subst e1
          exact ⟨n + 1 - (i + 1), dec_lt hl, h₄, tk₄, i + 1, ys, _, nx', rfl, hl, rfl, by omega, fin h₄ nx' F₄ N₄ (hJ _ _ _ hj₄), F₄, hoC.ns (N₄ _ (.tail _ (.head _))).1, fun p hp => N₄ p (.tail _ (.tail _ hp)), off', hj₄⟩
      · obtain rfl : i = n := Nat.le_antisymm hi (Nat.not_lt.mp hl)
        refine WK.done _ _ _ hst' fun h₂ tk₂ hk₂ => ?_
        obtain ⟨F₂, N₂, hn₂⟩ := up h₂ hk₂
        exact hRR D C h₂ tk₂ _ ys nx hj' (fun p hp => hD ▸ Heap.lt_size (N p hp).1) (fun p hp => (off p hp).2) F₂ N₂ hn₂ hC0 hCL (Ne.symm dDC)
    · rcases List.mem_cons.mp hp with rfl | hp
      · exact ⟨g1, hDL, hD0⟩
      · exact ⟨k1 _ _ (N p hp).1, (N p hp).2⟩
  exact codeAny_compStart_list (loop _ rfl) (WK.self 0 _ _ _ (WK.frame _ _ _ hst fun b _ o e => k1 b o e) (loop _ rfl))
/-- a list comprehension, its source read -/
noncomputable def CompAt (prog : Program) (w : World) (A : Around) (E : Value → Shared → Prop) (env : Env) (RR : Value → Addr → Result → Shared → Prop) (elt iter : Expr) (x : Str) (px : Pos) (ifs : List Expr) (scope : Scope) (cl : List (Str × Addr)) (pos : Pos) (xv : Value) (s₁ : Shared) : Prop :=
  wpAny (model prog w) A (pyIter xv) (fun it s₂ => wpAny (model prog w) A (newList []) (fun acc s₃ => wpAny (model prog w) A (newFunctionEnv scope env.globals cl [] env.qual none .none (some env)) (fun cenv s₄ =>
    codeAny (model prog w) A (.compStart (.ListComp elt [⟨.Name x px, iter, ifs, 0⟩] scope pos) 0 it acc { cenv with scope := relabel scope env }) (RR acc cenv.locals) s₄) E s₃) E s₂) E s₁
theorem ListComp_at {elt iter : Expr} {x : Str} {px : Pos} {ifs : List Expr} {scope : Scope} {cl : List (Str × Addr)} {pos : Pos} {Q : Value → Shared → Prop}
    (hclos : closureFor scope env = pure cl) (hkind : scope.kind = .function) (hnames : ∀ y ∈ scope.names, y.2 = .local → scope.names.lookup y.1 = some .local)
    (h : wpAny (model prog w) A (eval iter env) (CompAt prog w A E env (compPost (model prog w) A E none Q) elt iter x px ifs scope cl pos) E s)
    (hs : ∀ x, foldedSetIterable iter env x = pure x := by intro _; rfl) :
    wpAny (model prog w) A (eval (.ListComp elt [⟨.Name x px, iter, ifs, 0⟩] scope pos) env) Q E s := by
  rw [eval_ListComp]
  exact wpAny_comprehension_free (use := none) rfl hs hclos hkind hnames h
theorem Assign_at {elt iter : Expr} {x y : Str} {px py : Pos} {ifs : List Expr} {scope : Scope} {cl : List (Str × Addr)} {pos spos : Pos} {Q : Flow → Shared → Prop}
    (hsw : swapsWith (.ListComp elt [⟨.Name x px, iter, ifs, 0⟩] scope pos) (some (.Name y py)) spos.line env = pure true)
    (hclos : closureFor scope env = pure cl) (hkind : scope.kind = .function) (hnames : ∀ y ∈ scope.names, y.2 = .local → scope.names.lookup y.1 = some .local)
    (h : wpAny (model prog w) A (eval iter env) (CompAt prog w A E env (compPost (model prog w) A E (some (assign (.Name y py) env)) fun _ s' => Q .next s') elt iter x px ifs scope cl pos) E s)
    (hs : ∀ x, foldedSetIterable iter env x = pure x := by intro _; rfl) :
    wpAny (model prog w) A (exec (.Assign [.Name y py] (.ListComp elt [⟨.Name x px, iter, ifs, 0⟩] scope pos) spos) env) Q E s := by
  rw [exec_Assign_Name_used _ _ _ _ hsw]
  refine wpAny_bind (wpAny_standAt (wpAny_bind ?_))
  show wpAny _ A (do let _ ← comprehension (.ListComp elt [⟨.Name x px, iter, ifs, 0⟩] scope pos) scope env _ (newList []) false (eval iter env) (some (assign (.Name y py) env))) _ _ s
  exact wpAny_bind (wpAny_mono (wpAny_comprehension_free (use := some (assign (.Name y py) env)) (Q := fun _ s' => Q .next s') rfl hs hclos hkind hnames h) (fun _ s' hq => wpAny_pure (wpAny_pure hq)) fun _ _ e => e)
/-- the rest behind a comprehension -/
abbrev RRof (h₀ : Heap) (L : Addr) (m : Str → Option Value) (s : Shared) (news : List (Addr × Obj)) (Jn : List Value → List (Addr × Obj) → Prop) (RR : Value → Addr → Result → Shared → Prop) : Prop :=
  ∀ D C h tk m' ys nx, Jn ys nx → (∀ p ∈ news, p.1 < D) → (∀ p ∈ nx, p.1 ≠ C ∧ p.1 ≠ D) → Fr h₀ L h m → News h₀ L h ((D, LCg.lst ys) :: nx) → h.Ns C m' → h₀.get? C = none → C ≠ L → C ≠ D → RR (.ref D) C (.ok .next) { s with heap := h, toks := tk }
theorem rr_none {Jn : List Value → List (Addr × Obj) → Prop} {Q : Value → Shared → Prop}
    (done : ∀ D ys nx h tk, Jn ys nx → (∀ p ∈ news, p.1 < D) → (∀ p ∈ nx, p.1 ≠ D) → Fr h₀ L h m → News h₀ L h ((D, LCg.lst ys) :: nx) → Q (.ref D) { s with heap := h, toks := tk }) :
    RRof h₀ L m s news Jn (compPost (model prog w) A E none Q) := by
  intro D C h tk m' ys nx hj hD off F N hn hC0 hCL hCD
  refine ⟨m', hn, fun h'' hs => done D ys nx h'' tk hj hD (fun p hp => (off p hp).2) (F.change hs hCL hC0) fun p hp => ⟨hs.extBut _ _ ?_ (N p hp).1, (N p hp).2⟩⟩
  rcases List.mem_cons.mp hp with rfl | hp
  · exact Ne.symm hCD
  · exact (off p hp).1
theorem rr_asgn {Jn : List Value → List (Addr × Obj) → Prop} {Q : Value → Shared → Prop} {y : Str} {py : Pos} (hLe : env.locals = L)
    (hy : env.kindOf y = some .local) (hp : (env.scope.kind == .class || (env.scope.kind == .module && env.locals != env.globals)) = false)
    (done : ∀ D ys nx h tk, Jn ys nx → (∀ p ∈ news, p.1 < D) → (∀ p ∈ nx, p.1 ≠ D) → Fr h₀ L h (fun z => if z = y then some (.ref D) else m z) → News h₀ L h ((D, LCg.lst ys) :: nx) → Q .none { s with heap := h, toks := tk }) :
    RRof h₀ L m s news Jn (compPost (model prog w) A E (some (assign (.Name y py) env)) Q) := by
  subst hLe
  intro D C h tk m' ys nx hj hD off F N hn hC0 hCL hCD
  show wpAny _ A (assign (.Name y py) env (.ref D)) _ _ _
  refine wpAny_assign_Name (wpAny_storeName_local hy F.ns (fun h₂ hn₂ hs₂ => ?_) hp)
  have hL₀ : h₀.get? env.locals = none := Heap.get?_none_of_le F.above
  have F₂ : Fr h₀ env.locals h₂ (fun z => if z = y then some (.ref D) else m z) := ⟨hn₂, fun b o e => hs₂.extBut b o (fun q => by rw [q, hL₀] at e; cases e) (F.keep b o e), F.above⟩
  refine ⟨m', hn.sameBut hs₂ hCL, fun h'' hs => done D ys nx h'' _ hj hD (fun p hp => (off p hp).2) (F₂.change hs hCL hC0) fun p hp => ⟨hs.extBut _ _ ?_ (hs₂.extBut _ _ (N p hp).2.1 (N p hp).1), (N p hp).2⟩⟩
  rcases List.mem_cons.mp hp with rfl | hp
  · exact Ne.symm hCD
  · exact (off p hp).1
section
variable {elt iter : Expr} {x : Str} {px : Pos} {ifs : List Expr} {scope : Scope} {cl : List (Str × Addr)} {pos : Pos} {RR : Value → Addr → Result → Shared → Prop}
theorem comp_lst {l : Addr} {vs : List Value} {n₀ : Nat} (J : Nat → List Value → List (Addr × Obj) → Prop) (hh : A.handled = none) (F : Fr h₀ L s.heap m) (N : News h₀ L s.heap news)
    (hl : (l, ({ cls := .type "list", data := .seq vs.toArray n₀ } : Obj)) ∈ news) (hsz : vs.length ≤ sizeLine) (hcell : ∀ y ∈ scope.names, y.2 ≠ .cell) (hkind : scope.kind = .function) (hx : scope.names.lookup x = some .local)
    (hj : J 0 [] news) (hJ : ∀ i ys nx, J i ys nx → (l, ({ cls := .type "list", data := .seq vs.toArray n₀ } : Obj)) ∈ nx)
    (turn : ∀ I, CTurn prog w A h₀ L m env elt x ifs scope cl s I news vs.length (fun i v => vs[i]? = some v) J) (hRR : RRof h₀ L m s news (J vs.length) RR) :
    CompAt prog w A E env RR elt iter x px ifs scope cl pos (.ref l) s := by
  have hls : s.heap.IsList l vs.toArray := ⟨_, (N _ hl).1, rfl, n₀, rfl⟩
  have hne : l ≠ s.heap.objs.size := news_ne_size N _ hl
  refine wpAny_pyIter_list hls ?_
  have WK := Walks.list (prog := prog) (w := w) hh s.heap.objs.size l hne vs.toArray
  have hz : vs.toArray.size = vs.length := by simp
  simp only [hz, List.getElem?_toArray] at WK
  refine comp_core (s := { s with heap := s.heap.push _ }) WK [(l, { cls := .type "list", data := .seq vs.toArray n₀ })] J hsz hcell hkind hx ⟨⟨_, Heap.get?_push_size _ rfl, rfl, rfl⟩, hls.at fun o e => Heap.get?_push_of_some _ e⟩
    (fun i h st => let ⟨o, ho, _⟩ := st.1; ⟨o, ho⟩) ?_ (new_none F) (Nat.ne_of_gt F.ns.lt) (fun p hp => Heap.lt_size (N p hp).1) ?_ (F.push _) (News.past (m := m) N _) hj (fun i ys nx h p hp => List.mem_singleton.mp hp ▸ hJ i ys nx h) (turn _) hRR
  · intro b hb
    show b < (s.heap.push _).objs.size
    rw [Heap.size_push]
    rcases List.mem_cons.mp hb with rfl | hb
    · exact Nat.lt_succ_self _
    · rw [List.mem_singleton.mp hb]; exact Nat.lt_succ_of_lt (Heap.lt_size (N _ hl).1)
  · intro b hb
    rcases List.mem_cons.mp hb with e | hb
    · exact .inl e
    · rw [List.mem_singleton.mp hb]; exact .inr (.inl ⟨_, .head _⟩)
theorem comp_tup {l : Addr} {vs : List Value} {n₀ : Nat} (J : Nat → List Value → List (Addr × Obj) → Prop) (hh : A.handled = none) (F : Fr h₀ L s.heap m) (N : News h₀ L s.heap news)
    (hl : (l, ({ cls := .type "tuple", data := .seq vs.toArray n₀ } : Obj)) ∈ news) (hsz : vs.length ≤ sizeLine) (hcell : ∀ y ∈ scope.names, y.2 ≠ .cell) (hkind : scope.kind = .function) (hx : scope.names.lookup x = some .local)
    (hj : J 0 [] news) (hJ : ∀ i ys nx, J i ys nx → (l, ({ cls := .type "tuple", data := .seq vs.toArray n₀ } : Obj)) ∈ nx)
    (turn : ∀ I, CTurn prog w A h₀ L m env elt x ifs scope cl s I news vs.length (fun i v => vs[i]? = some v) J) (hRR : RRof h₀ L m s news (J vs.length) RR) :
    CompAt prog w A E env RR elt iter x px ifs scope cl pos (.ref l) s := by
  have hls : s.heap.IsTuple l vs.toArray := ⟨_, (N _ hl).1, rfl, n₀, rfl⟩
  have hne : l ≠ s.heap.objs.size := news_ne_size N _ hl
  refine wpAny_pyIter_tuple hls ?_
  have WK := Walks.tuple (prog := prog) (w := w) hh s.heap.objs.size l hne vs.toArray
  have hz : vs.toArray.size = vs.length := by simp
  simp only [hz, List.getElem?_toArray] at WK
  refine comp_core (s := { s with heap := s.heap.push _ }) WK [(l, { cls := .type "tuple", data := .seq vs.toArray n₀ })] J hsz hcell hkind hx ⟨⟨_, Heap.get?_push_size _ rfl, rfl, rfl⟩, hls.at fun o e => Heap.get?_push_of_some _ e⟩
    (fun i h st => let ⟨o, ho, _⟩ := st.1; ⟨o, ho⟩) ?_ (new_none F) (Nat.ne_of_gt F.ns.lt) (fun p hp => Heap.lt_size (N p hp).1) ?_ (F.push _) (News.past (m := m) N _) hj (fun i ys nx h p hp => List.mem_singleton.mp hp ▸ hJ i ys nx h) (turn _) hRR
  · intro b hb
    show b < (s.heap.push _).objs.size
    rw [Heap.size_push]
    rcases List.mem_cons.mp hb with rfl | hb
    · exact Nat.lt_succ_self _
    · rw [List.mem_singleton.mp hb]; exact Nat.lt_succ_of_lt (Heap.lt_size (N _ hl).1)
  · intro b hb
    rcases List.mem_cons.mp hb with e | hb
    · exact .inl e
    · rw [List.mem_singleton.mp hb]; exact .inr (.inl ⟨_, .head _⟩)
theorem comp_str {y : Str} {t : Tok} (J : Nat → List Value → List (Addr × Obj) → Prop) (hh : A.handled = none) (F : Fr h₀ L s.heap m) (N : News h₀ L s.heap news) (hsz : y.cps.size ≤ sizeLine)
    (hcell : ∀ y ∈ scope.names, y.2 ≠ .cell) (hkind : scope.kind = .function) (hx : scope.names.lookup x = some .local) (hj : J 0 [] news)
    (turn : ∀ I, CTurn prog w A h₀ L m env elt x ifs scope cl s I news y.cps.size (SignAt y) J) (hRR : RRof h₀ L m s news (J y.cps.size) RR) :
    CompAt prog w A E env RR elt iter x px ifs scope cl pos (.str y t) s := by
  have key : ∀ (o : Obj) (St : Nat → Heap → Prop), Walks prog w A s.heap.objs.size [s.heap.objs.size] [s.heap.objs.size] y.cps.size (SignAt y) St → St 0 (s.heap.push o) → (∀ i h, St i h → ∃ o, h.get? s.heap.objs.size = some o) →
      wpAny (model prog w) A (newList []) (fun acc s₃ => wpAny (model prog w) A (newFunctionEnv scope env.globals cl [] env.qual none .none (some env)) (fun cenv s₄ =>
        codeAny (model prog w) A (.compStart (.ListComp elt [⟨.Name x px, iter, ifs, 0⟩] scope pos) 0 (.ref s.heap.objs.size) acc { cenv with scope := relabel scope env }) (RR acc cenv.locals) s₄) E s₃) E { s with heap := s.heap.push o } := by
    intro o St WK hst hIO
    refine comp_core (s := { s with heap := s.heap.push o }) WK [] J hsz hcell hkind hx hst hIO ?_ (new_none F) (Nat.ne_of_gt F.ns.lt) (fun p hp => Heap.lt_size (N p hp).1) ?_ (F.push _) (News.past (m := m) N _) hj (fun i ys nx h p hp => nomatch hp) (turn _) hRR
    · intro b hb
      show b < (s.heap.push _).objs.size
      rw [Heap.size_push, List.mem_singleton.mp hb]; exact Nat.lt_succ_self _
    · intro b hb; exact .inl (List.mem_singleton.mp hb)
  unfold CompAt
  cases ha : y.cps.all (· < 128)
  · exact wpAny_pyIter_wide ha (key _ _ (Walks.strWide hh _ y t) ⟨_, Heap.get?_push_size _ rfl, rfl, rfl⟩ fun i h st => let ⟨o, ho, _⟩ := st; ⟨o, ho⟩)
  · exact wpAny_pyIter_ascii ha (key _ _ (Walks.strAscii hh _ y t) ⟨_, Heap.get?_push_size _ rfl, rfl, rfl⟩ fun i h st => let ⟨o, ho, _⟩ := st; ⟨o, ho⟩)
theorem comp_rng {r : Addr} {a b : Int} {t u v : Tok} {n : Nat} (J : Nat → List Value → List (Addr × Obj) → Prop) (hh : A.handled = none) (F : Fr h₀ L s.heap m) (N : News h₀ L s.heap news) (hr : IsRange s.heap r a b 1 t u v) (hsmall : Builtin.Range.small a b 1 = true)
    (hn : Builtin.Range.rangeSize a b 1 = n) (hsz : n ≤ sizeLine) (hcell : ∀ y ∈ scope.names, y.2 ≠ .cell) (hkind : scope.kind = .function) (hx : scope.names.lookup x = some .local) (hj : J 0 [] news)
    (turn : ∀ I, CTurn prog w A h₀ L m env elt x ifs scope cl s I news n (fun i v => ∃ t, v = .int (a + (i : Int)) t) J) (hRR : RRof h₀ L m s news (J n) RR) :
    CompAt prog w A E env RR elt iter x px ifs scope cl pos (.ref r) s := by
  refine wpAny_pyIter_range hr hsmall ?_
  refine comp_core (s := { s with heap := s.heap.push _ }) (LCg.range_walks hh a n) [] J hsz hcell hkind hx ?_ (fun i h st => ⟨_, st⟩) ?_ (new_none F) (Nat.ne_of_gt F.ns.lt) (fun p hp => Heap.lt_size (N p hp).1) ?_ (F.push _) (News.past (m := m) N _) hj (fun i ys nx h p hp => nomatch hp) (turn _) hRR
  · show IsRangeIter _ _ (a + ((0 : Nat) : Int) * 1) ((n : Int) - ((0 : Nat) : Int)) 1
    have e1 : a + ((0 : Nat) : Int) * 1 = a := by simp
    have e2 : (n : Int) - ((0 : Nat) : Int) = Builtin.Range.rangeSize a b 1 := by rw [hn]; simp
    rw [e1, e2]
    exact Heap.get?_push_size _ rfl
  · intro b hb
    show b < (s.heap.push _).objs.size
    rw [Heap.size_push, List.mem_singleton.mp hb]; exact Nat.lt_succ_self _
  · intro b hb; exact .inl (List.mem_singleton.mp hb)
end
end
end Mine
end

section -- text LST
theorem Mine.rows_off_LST : True := by
  k_with_none
  trivial
open PySem PySem.W PyProof.Rows PySem.Calls
set_option Elab.async false
set_option maxRecDepth 100000
set_option maxHeartbeats 1000000
set_option linter.all false
namespace Mine
open AutoSeq1 (wpAny_loadPart')
noncomputable def strLt (a b : Str) : Bool := decide (a.cps.toList < b.cps.toList)
/-- the order of two lists of texts -/
noncomputable def lexLt : List Str → List Str → Bool
  | [], [] => false
  | [], _ :: _ => true
  | _ :: _, [] => false
  | a :: r, b :: q => if (a == b) = true then lexLt r q else strLt a b
noncomputable def lexGt : List Str → List Str → Bool
  | [], [] => false
  | [], _ :: _ => false
  | _ :: _, [] => true
  | a :: r, b :: q => if (a == b) = true then lexGt r q else strLt b a
theorem lt_loop {l b : Addr} {xs ys : List (Str × Tok)} {n n2 : Nat} (k : Nat) : ∀ i : Nat, xs.length - i = k → i ≤ xs.length → i ≤ ys.length →
    Meets (Builtin.«list.__eq__.loop» ⟨[.ref l, .ref b, rawInt i, rawInt 0], []⟩)
      (fun A R s => s.heap.get? l = some (W.listOf (strValues xs).toArray n) ∧ s.heap.get? b = some (W.listOf (strValues ys).toArray n2) ∧
        R (.ok (.ret (.bool (lexLt ((xs.map (·.1)).drop i) ((ys.map (·.1)).drop i))))) s) := by
  have hz : ∀ (zs : List (Str × Tok)) (i : Nat), (strValues zs).toArray[((i : Nat) : Int).toNat]? = (zs[i]?).map fun p => .str p.1 p.2 := fun zs i => by simp [strValues]
  have hs : ∀ zs : List (Str × Tok), (strValues zs).toArray.size = zs.length := fun zs => by simp [strValues]
  have hd : ∀ (zs : List (Str × Tok)) (i : Nat) (p : Str × Tok), zs[i]? = some p → (zs.map (·.1)).drop i = p.1 :: (zs.map (·.1)).drop (i + 1) := fun zs i p h => by
    obtain ⟨hi, he⟩ := List.getElem?_eq_some_iff.mp h
    rw [← he, List.drop_eq_getElem_cons (by rw [List.length_map]; exact hi)]
    simp
  have hn : ∀ (zs : List (Str × Tok)) (i : Nat), zs[i]? = none → (zs.map (·.1)).drop i = [] := fun zs i h => by
    rw [List.drop_eq_nil_iff, List.length_map]; exact List.getElem?_eq_none_iff.mp h
  induction k with
  | zero =>
    intro i hk h1 h2 prog w A R s h
    obtain ⟨hp, g, d, tk, os⟩ := s; obtain ⟨hl, hb, h⟩ := h
    wp_walk using wpAny_loadPart' hl, wpAny_loadPart' hb
    rw [hz, hz]
    have e1 : xs[i]? = none := by rw [List.getElem?_eq_none_iff]; omega
    rw [hn xs i e1] at h
    rw [e1]
    cases e2 : ys[i]? with
    | none =>
      have e3 := List.getElem?_eq_none_iff.mp e2
      rw [hn ys i e2] at h
      wp_walk using wpAny_loadPart' hl, wpAny_loadPart' hb
      show R (.ok (.ret (.bool (decide ((strValues xs).toArray.size < (strValues ys).toArray.size))))) _
      rw [hs, hs, decide_eq_false (by omega)]
      exact h
    | some q =>
      have e3 := (List.getElem?_eq_some_iff.mp e2).1
      rw [hd ys i q e2] at h
      wp_walk using wpAny_loadPart' hl, wpAny_loadPart' hb
      show R (.ok (.ret (.bool (decide ((strValues xs).toArray.size < (strValues ys).toArray.size))))) _
      rw [hs, hs, decide_eq_true (by omega)]
      exact h
  | succ k ih =>
    intro i hk h1 h2 prog w A R s h
    obtain ⟨hp, g, d, tk, os⟩ := s; obtain ⟨hl, hb, h⟩ := h
    wp_walk using wpAny_loadPart' hl, wpAny_loadPart' hb
    rw [hz, hz]
    obtain ⟨p, e1⟩ : ∃ p, xs[i]? = some p := ⟨xs[i]'(by omega), List.getElem?_eq_getElem (by omega)⟩
    rw [hd xs i p e1] at h
    rw [e1]
    cases e2 : ys[i]? with
    | none =>
      have e3 := List.getElem?_eq_none_iff.mp e2
      rw [hn ys i e2] at h
      wp_walk using wpAny_loadPart' hl, wpAny_loadPart' hb
      show R (.ok (.ret (.bool (decide ((strValues xs).toArray.size < (strValues ys).toArray.size))))) _
      rw [hs, hs, decide_eq_false (by omega)]
      exact h
    | some q =>
      have e3 := (List.getElem?_eq_some_iff.mp e2).1
      rw [hd ys i q e2] at h
      refine wpAny_bind (SeqAt.EqAt.str_str p.1 p.2 q.1 q.2 prog w _ _ ?_)
      cases hb' : (p.1 == q.1) with
      | true =>
        unfold lexLt at h
        rw [if_pos hb'] at h
        wp_walk
        have hc : ((i : Int) + 1) = ((i + 1 : Nat) : Int) := by push_cast; rfl
        rw [hc]
        exact ⟨plainId_quiet MeetsSeq3.plain_eq_loop _, codeAny_builtin MeetsSeq3.entry_eq_loop (by
          rw [Around.under_plainId MeetsSeq3.plain_eq_loop _]
          exact ih (i + 1) (by omega) (by omega) (by omega) prog w A R _ ⟨hl, hb, h⟩)⟩
      | false =>
        unfold lexLt at h
        rw [if_neg (by rw [hb']; exact Bool.false_ne_true)] at h
        wp_walk using wpAny_loadPart' hl, wpAny_loadPart' hb
        rw [hz, hz, e1, e2]
        show wpAny _ _ (richCompare .Lt (.str p.1 p.2) (.str q.1 q.2) >>= _) _ _ _
        refine wpAny_bind ?_
        show wpAny _ _ (compareOp .Lt (.str p.1 p.2) (.str q.1 q.2)) _ _ _
        exact lt_str (wpAny_pure h)

theorem gt_loop {l b : Addr} {xs ys : List (Str × Tok)} {n n2 : Nat} (k : Nat) : ∀ i : Nat, xs.length - i = k → i ≤ xs.length → i ≤ ys.length →
    Meets (Builtin.«list.__eq__.loop» ⟨[.ref l, .ref b, rawInt i, rawInt 4], []⟩)
      (fun A R s => s.heap.get? l = some (W.listOf (strValues xs).toArray n) ∧ s.heap.get? b = some (W.listOf (strValues ys).toArray n2) ∧
        R (.ok (.ret (.bool (lexGt ((xs.map (·.1)).drop i) ((ys.map (·.1)).drop i))))) s) := by
  have hz : ∀ (zs : List (Str × Tok)) (i : Nat), (strValues zs).toArray[((i : Nat) : Int).toNat]? = (zs[i]?).map fun p => .str p.1 p.2 := fun zs i => by simp [strValues]
  have hs : ∀ zs : List (Str × Tok), (strValues zs).toArray.size = zs.length := fun zs => by simp [strValues]
  have hd : ∀ (zs : List (Str × Tok)) (i : Nat) (p : Str × Tok), zs[i]? = some p → (zs.map (·.1)).drop i = p.1 :: (zs.map (·.1)).drop (i + 1) := fun zs i p h => by
    obtain ⟨hi, he⟩ := List.getElem?_eq_some_iff.mp h
    rw [← he, List.drop_eq_getElem_cons (by rw [List.length_map]; exact hi)]
    simp
  have hn : ∀ (zs : List (Str × Tok)) (i : Nat), zs[i]? = none → (zs.map (·.1)).drop i = [] := fun zs i h => by
    rw [List.drop_eq_nil_iff, List.length_map]; exact List.getElem?_eq_none_iff.mp h
  induction k with
  | zero =>
    intro i hk h1 h2 prog w A R s h
    obtain ⟨hp, g, d, tk, os⟩ := s; obtain ⟨hl, hb, h⟩ := h
    wp_walk using wpAny_loadPart' hl, wpAny_loadPart' hb
    rw [hz, hz]
    have e1 : xs[i]? = none := by rw [List.getElem?_eq_none_iff]; omega
    rw [hn xs i e1] at h
    rw [e1]
    cases e2 : ys[i]? with
    | none =>
      have e3 := List.getElem?_eq_none_iff.mp e2
      rw [hn ys i e2] at h
      wp_walk using wpAny_loadPart' hl, wpAny_loadPart' hb
      show R (.ok (.ret (.bool (decide ((strValues xs).toArray.size > (strValues ys).toArray.size))))) _
      rw [hs, hs, decide_eq_false (by omega)]
      exact h
    | some q =>
      have e3 := (List.getElem?_eq_some_iff.mp e2).1
      rw [hd ys i q e2] at h
      wp_walk using wpAny_loadPart' hl, wpAny_loadPart' hb
      show R (.ok (.ret (.bool (decide ((strValues xs).toArray.size > (strValues ys).toArray.size))))) _
      rw [hs, hs, decide_eq_false (by omega)]
      exact h
  | succ k ih =>
    intro i hk h1 h2 prog w A R s h
    obtain ⟨hp, g, d, tk, os⟩ := s; obtain ⟨hl, hb, h⟩ := h
    wp_walk using wpAny_loadPart' hl, wpAny_loadPart' hb
    rw [hz, hz]
    obtain ⟨p, e1⟩ : ∃ p, xs[i]? = some p := ⟨xs[i]'(by omega), List.getElem?_eq_getElem (by omega)⟩
    rw [hd xs i p e1] at h
    rw [e1]
    cases e2 : ys[i]? with
    | none =>
      have e3 := List.getElem?_eq_none_iff.mp e2
      rw [hn ys i e2] at h
      wp_walk using wpAny_loadPart' hl, wpAny_loadPart' hb
      show R (.ok (.ret (.bool (decide ((strValues xs).toArray.size > (strValues ys).toArray.size))))) _
      rw [hs, hs, decide_eq_true (by omega)]
      exact h
    | some q =>
      have e3 := (List.getElem?_eq_some_iff.mp e2).1
      rw [hd ys i q e2] at h
      refine wpAny_bind (SeqAt.EqAt.str_str p.1 p.2 q.1 q.2 prog w _ _ ?_)
      cases hb' : (p.1 == q.1) with
      | true =>
        unfold lexGt at h
        rw [if_pos hb'] at h
        wp_walk
        have hc : ((i : Int) + 1) = ((i + 1 : Nat) : Int) := by push_cast; rfl
        rw [hc]
        exact ⟨plainId_quiet MeetsSeq3.plain_eq_loop _, codeAny_builtin MeetsSeq3.entry_eq_loop (by
          rw [Around.under_plainId MeetsSeq3.plain_eq_loop _]
          exact ih (i + 1) (by omega) (by omega) (by omega) prog w A R _ ⟨hl, hb, h⟩)⟩
      | false =>
        unfold lexGt at h
        rw [if_neg (by rw [hb']; exact Bool.false_ne_true)] at h
        wp_walk using wpAny_loadPart' hl, wpAny_loadPart' hb
        rw [hz, hz, e1, e2]
        show wpAny _ _ (richCompare .Gt (.str p.1 p.2) (.str q.1 q.2) >>= _) _ _ _
        refine wpAny_bind ?_
        show wpAny _ _ (compareOp .Gt (.str p.1 p.2) (.str q.1 q.2)) _ _ _
        exact P.gt_str (wpAny_pure h)

theorem list_lt {l b : Addr} {xs ys : List (Str × Tok)} {n n2 : Nat} :
    Meets (Builtin.«list.__lt__» ⟨[.ref l, .ref b], []⟩)
      (fun A R s => s.heap.get? l = some (W.listOf (strValues xs).toArray n) ∧ s.heap.get? b = some (W.listOf (strValues ys).toArray n2) ∧
        R (.ok (.ret (.bool (lexLt (xs.map (·.1)) (ys.map (·.1)))))) s) := by
  intro prog w A R s h
  obtain ⟨hp, g, d, tk, os⟩ := s; obtain ⟨hl, hb, h⟩ := h
  have f3 := AutoSeq1.sub_list_list
  wp_walk using wpAny_loadPart' hl, wpAny_loadPart' hb
  exact ⟨plainId_quiet MeetsSeq3.plain_eq_loop _, codeAny_builtin MeetsSeq3.entry_eq_loop (by
    rw [Around.under_plainId MeetsSeq3.plain_eq_loop _]
    exact lt_loop _ 0 rfl (Nat.zero_le _) (Nat.zero_le _) prog w A R _ ⟨hl, hb, by simpa using h⟩)⟩
theorem rich_lt {prog : Program} {w : World} {A : Around} {E : Value → Shared → Prop} {s : Shared} {l b : Addr} {xs ys : List (Str × Tok)} {n n2 : Nat} {Q : Value → Shared → Prop} (hl : s.heap.get? l = some (W.listOf (strValues xs).toArray n)) (hb : s.heap.get? b = some (W.listOf (strValues ys).toArray n2)) (hu : A.units < cLine)
    (h : Q (.bool (lexLt (xs.map (·.1)) (ys.map (·.1)))) s) : wpAny (model prog w) A (richCompare .Lt (.ref l) (.ref b)) Q E s :=
  richCompare_meets_room (op := .Lt) ⟨_, hl, rfl⟩ ⟨_, hb, rfl⟩ F.slot_list_lt F.entry_list_lt (F.args_list_lt_2 _ _) list_lt ⟨hl, hb, Value.noConfusion, h⟩ hu
theorem list_gt {l b : Addr} {xs ys : List (Str × Tok)} {n n2 : Nat} :
    Meets (Builtin.«list.__gt__» ⟨[.ref l, .ref b], []⟩)
      (fun A R s => s.heap.get? l = some (W.listOf (strValues xs).toArray n) ∧ s.heap.get? b = some (W.listOf (strValues ys).toArray n2) ∧
        R (.ok (.ret (.bool (lexGt (xs.map (·.1)) (ys.map (·.1)))))) s) := by
  intro prog w A R s h
  obtain ⟨hp, g, d, tk, os⟩ := s; obtain ⟨hl, hb, h⟩ := h
  have f3 := AutoSeq1.sub_list_list
  wp_walk using wpAny_loadPart' hl, wpAny_loadPart' hb
  exact ⟨plainId_quiet MeetsSeq3.plain_eq_loop _, codeAny_builtin MeetsSeq3.entry_eq_loop (by
    rw [Around.under_plainId MeetsSeq3.plain_eq_loop _]
    exact gt_loop _ 0 rfl (Nat.zero_le _) (Nat.zero_le _) prog w A R _ ⟨hl, hb, by simpa using h⟩)⟩
theorem rich_gt {prog : Program} {w : World} {A : Around} {E : Value → Shared → Prop} {s : Shared} {l b : Addr} {xs ys : List (Str × Tok)} {n n2 : Nat} {Q : Value → Shared → Prop} (hl : s.heap.get? l = some (W.listOf (strValues xs).toArray n)) (hb : s.heap.get? b = some (W.listOf (strValues ys).toArray n2)) (hu : A.units < cLine)
    (h : Q (.bool (lexGt (xs.map (·.1)) (ys.map (·.1)))) s) : wpAny (model prog w) A (richCompare .Gt (.ref l) (.ref b)) Q E s :=
  richCompare_meets_room (op := .Gt) ⟨_, hl, rfl⟩ ⟨_, hb, rfl⟩ F.slot_list_gt F.entry_list_gt (F.args_list_gt_2 _ _) list_gt ⟨hl, hb, Value.noConfusion, h⟩ hu
end Mine
end

section -- text MM
theorem Mine.rows_off_MM : True := by
  k_with_none
  trivial
open PySem PySem.W PyProof.Rows PySem.Calls
set_option Elab.async false
set_option maxRecDepth 100000
set_option maxHeartbeats 1000000
set_option linter.all false
namespace Mine
section
variable {prog : Program} {w : World} {A : Around} {E : Value → Shared → Prop} {s : Shared} {H : Heap} {vs : List Value} {I B l : Addr} {R : Result → Shared → Prop}
/-- comparing two items, the objects of H standing -/
noncomputable def CmpAt (prog : Program) (w : World) (A : Around) (H : Heap) (op : CmpOp) (vs : List Value) (bt : Nat → Nat → Bool) : Prop :=
  ∀ i j vi vj (s' : Shared) (Q E : Value → Shared → Prop), (∀ b o, H.get? b = some o → s'.heap.get? b = some o) → vs[i]? = some vi → vs[j]? = some vj → Q (.bool (bt i j)) s' → wpAny (model prog w) A (richCompare op vi vj) Q E s'
theorem min_loop (bt : Nat → Nat → Bool) (hh : A.handled = none) (hc : CmpAt prog w A.in1 H .Lt vs bt) (hl : H.IsList l vs.toArray) (hI : H.get? I = none) (hB : H.get? B = none) (hBI : B ≠ I)
    (hR : ∀ v h' tk', vs[argBest bt (vs.length - 1)]? = some v → (∀ b o, H.get? b = some o → h'.get? b = some o) → R (.ok (.ret v)) { s with heap := h', toks := tk' }) :
    ∀ (r j : Nat) (h : Heap) (tk c : Nat) (vb : Value), vs.length - j = r → 0 < j → j ≤ vs.length → (∀ b o, H.get? b = some o → h.get? b = some o) → vs[argBest bt (j - 1)]? = some vb → h.get? B = some { cls := .type "list", data := .seq #[vb, vb] c } → h.IsListIter I l j →
      codeAny (model prog w) A (.builtin "min.loop" ⟨[.ref I, .none, .ref B], []⟩) R { s with heap := h, toks := tk } := by
  have hname : (toString "min" ++ toString ".loop" : String) = "min.loop" := by decide
  have hne : l ≠ I := by
    rintro rfl
    obtain ⟨o, ho, _⟩ := hl
    rw [hI] at ho; cases ho
  have WK := Walks.list (prog := prog) (w := w) (A := A.in1) hh I l hne vs.toArray
  have hsz : vs.toArray.size = vs.length := List.size_toArray ..
  intro r
  induction r with
  | zero =>
    intro j h tk c vb hr hj hjl hk hvb gB hit
    obtain rfl : j = vs.length := by omega
    refine codeAny_builtin PySem.F.entry_min_loop ?_
    rw [Around.under_plainId PySem.F.plain_min_loop _]
    show wpAny _ A.in1 (seqItems? (.ref B) >>= _) _ _ _
    refine wpAny_bind (wpAny_seqItems gB rfl ?_)
    show wpAny _ A.in1 (tryCatch (pyNext (.ref I)) _ >>= _) _ _ _
    refine wpAny_bind (wpAny_tryCatch (WK.done _ _ _ ⟨by rw [hsz]; exact hit, hl.at fun o e => hk _ o e⟩ fun h' tk' hk' => ?_))
    have gB' := hk' B _ (by simpa using hBI) gB
    show wpAny _ A.in1 (updateSeq B (fun _ => #[]) >>= _) _ _ _
    refine wpAny_bind (wpAny_updateSeq gB' rfl (wpAny_bind (wpAny_letGo (wpAny_pure ?_))))
    exact hR vb _ _ hvb fun b o e => (Heap.get?_update_other _ _ (fun q : B = b => by rw [← q, hB] at e; cases e)).trans (hk' b o (by simp; rintro rfl; rw [hI] at e; cases e) (hk b o e))
  | succ r ih =>
    intro j h tk c vb hr hj hjl hk hvb gB hit
    have hlt : j < vs.length := by omega
    refine codeAny_builtin PySem.F.entry_min_loop ?_
    rw [Around.under_plainId PySem.F.plain_min_loop _]
    show wpAny _ A.in1 (seqItems? (.ref B) >>= _) _ _ _
    refine wpAny_bind (wpAny_seqItems gB rfl ?_)
    show wpAny _ A.in1 (tryCatch (pyNext (.ref I)) _ >>= _) _ _ _
    refine wpAny_bind (wpAny_tryCatch (WK.item j _ _ _ (by rw [hsz]; exact hlt) ⟨hit, hl.at fun o e => hk _ o e⟩ fun v h' tk' hP hst' hk' => ?_))
    have hv : vs[j]? = some v := by simpa using hP
    have gB' := hk' B _ (by simpa using hBI) gB
    have hkH : ∀ b o, H.get? b = some o → h'.get? b = some o := fun b o e => hk' b o (by simp; rintro rfl; rw [hI] at e; cases e) (hk b o e)
    have hs : argBest bt (j + 1 - 1) = if bt j (argBest bt (j - 1)) then j else argBest bt (j - 1) := by
      obtain ⟨k, rfl⟩ : ∃ k, j = k + 1 := ⟨j - 1, by omega⟩
      rfl
    show wpAny _ A.in1 (tryCatch (holding [v, v] (richCompare .Lt v vb >>= _)) _ >>= _) _ _ _
    refine wpAny_bind (wpAny_tryCatch (wpAny_holding (wpAny_bind (hc j (argBest bt (j - 1)) v vb _ _ _ hkH hv hvb ?_))))
    refine wpAny_bind (wpAny_holding (wpAny_truthy_bool ?_))
    refine wpAny_bind (wpAny_letGo (wpAny_pure ?_))
    cases hb : bt j (argBest bt (j - 1)) with
    | true =>
      simp only [if_true]
      rw [hb, if_pos rfl] at hs
      refine wpAny_bind (wpAny_updateSeq gB' rfl (wpAny_bind (wpAny_letGo ?_)))
      rw [hname]
      exact wpAny_pure ⟨plainId_quiet PySem.F.plain_min_loop _, ih (j + 1) _ _ _ v (by omega) (by omega) hlt (fun b o e => (Heap.get?_update_other _ _ (fun q : B = b => by rw [← q, hB] at e; cases e)).trans (hkH b o e)) (by rw [hs]; exact hv)
        (Heap.get?_update_self (Obj.mapSeq fun _ => #[v, v]) gB' rfl) (hst'.1.at fun o e => (Heap.get?_update_other _ _ hBI).trans e)⟩
    | false =>
      simp only [Bool.false_eq_true, if_false]
      rw [hb, if_neg Bool.false_ne_true] at hs
      refine wpAny_bind (wpAny_letGo ?_)
      rw [hname]
      exact wpAny_pure ⟨plainId_quiet PySem.F.plain_min_loop _, ih (j + 1) _ _ _ vb (by omega) (by omega) hlt hkH (by rw [hs]; exact hvb) gB' hst'.1⟩
theorem call_minL (bt : Nat → Nat → Bool) (hh : A.handled = none) (hc : CmpAt prog w A.in1.in1 s.heap .Lt vs bt) (hl : s.heap.IsList l vs.toArray) (hn : 0 < vs.length) {Q : Value → Shared → Prop}
    (hQ : ∀ v h' tk', vs[argBest bt (vs.length - 1)]? = some v → (∀ b o, s.heap.get? b = some o → h'.get? b = some o) → Q v { s with heap := h', toks := tk' }) :
    wpAny (model prog w) A (call (.builtin "min") [.ref l]) Q E s := by
  have hname : (toString "min" ++ toString ".loop" : String) = "min.loop" := by decide
  refine call_function_tree PySem.F.kind_min PySem.F.plain_min PySem.F.entry_min (PySem.F.args_min1 _) ?_
  show wpAny _ A.in1 (Builtin.Builtins.bindParams "min" ["key", "default"] 0 ⟨[], []⟩ >>= _) _ _ s
  refine wpAny_bind (wpAny_of_eq (show Builtin.Builtins.bindParams "min" ["key", "default"] 0 ⟨[], []⟩ = pure [none, none] from rfl) ?_)
  refine wpAny_bind (wpAny_pure ?_)
  refine wpAny_bind (wpAny_pyIter_list hl ?_)
  refine wpAny_bind (wpAny_newObj_type ?_)
  rw [hname]
  have none₀ : ∀ b, s.heap.objs.size ≤ b → s.heap.get? b = none := fun b hb => by
    cases e : s.heap.get? b with
    | none => rfl
    | some o => exact absurd (Heap.lt_size e) (Nat.not_lt.mpr hb)
  have zI : (s.heap.push { cls := .type "list_iterator", data := .fields #[.ref l, .int 0 0] }).objs.size = s.heap.objs.size + 1 := Heap.size_push ..
  have lne : l ≠ s.heap.objs.size := by obtain ⟨o, ho, _⟩ := hl; exact Nat.ne_of_lt (Heap.lt_size ho)
  have WK := Walks.list (prog := prog) (w := w) (A := A.in1.in1) hh s.heap.objs.size l lne vs.toArray
  have hsz : vs.toArray.size = vs.length := List.size_toArray ..
  obtain ⟨B, hB⟩ : ∃ B, B = (s.heap.push { cls := .type "list_iterator", data := .fields #[.ref l, .int 0 0] }).objs.size := ⟨_, rfl⟩
  have dBI : B ≠ s.heap.objs.size := by rw [hB, zI]; exact Nat.succ_ne_self _
  have hB0 : s.heap.get? B = none := none₀ _ (by rw [hB, zI]; exact Nat.le_succ _)
  have gI := Heap.get?_push_of_some { cls := .type "list", data := .seq #[] } (Heap.get?_push_size s.heap (o := { cls := .type "list_iterator", data := .fields #[.ref l, .int 0 0] }) rfl)
  have gB := Heap.get?_push_size (s.heap.push { cls := .type "list_iterator", data := .fields #[.ref l, .int 0 0] }) (o := { cls := .type "list", data := .seq #[] }) rfl
  have k1 : ∀ b o, s.heap.get? b = some o → ((s.heap.push { cls := .type "list_iterator", data := .fields #[.ref l, .int 0 0] }).push { cls := .type "list", data := .seq #[] }).get? b = some o := fun b o e => Heap.get?_push_of_some _ (Heap.get?_push_of_some _ e)
  rw [← hB] at gB
  refine wpAny_pure ⟨plainId_quiet PySem.F.plain_min_loop _, ?_⟩
  refine codeAny_builtin PySem.F.entry_min_loop ?_
  rw [Around.under_plainId PySem.F.plain_min_loop _]
  show wpAny _ A.in1 (seqItems? (.ref _) >>= _) _ _ _
  rw [← hB]
  refine wpAny_bind (wpAny_seqItems gB rfl ?_)
  show wpAny _ A.in1 (tryCatch (pyNext (.ref s.heap.objs.size)) _ >>= _) _ _ _
  refine wpAny_bind (wpAny_tryCatch ((wpAny_of_in1 (WK.item 0 _ _ _ (by rw [hsz]; exact hn) ⟨⟨_, gI, rfl, rfl⟩, hl.at fun o e => k1 _ o e⟩ fun v h' tk' hP hst' hk' => ?_))))
  have hv : vs[0]? = some v := by simpa using hP
  have gB' := hk' B _ (by simpa using dBI) gB
  show wpAny _ A.in1 (updateSeq B (fun _ => #[v, v]) >>= _) _ _ _
  refine wpAny_bind (wpAny_updateSeq gB' rfl ?_)
  rw [hname]
  exact wpAny_pure ⟨plainId_quiet PySem.F.plain_min_loop _, min_loop (s := s) bt hh (fun i j vi vj s' Q E => fun a b c d => wpAny_of_in1 (hc i j vi vj s' Q E a b c d)) hl (none₀ _ (Nat.le_refl _)) hB0 dBI hQ _ 1 _ _ _ v rfl (by omega) hn
    (fun b o e => (Heap.get?_update_other _ _ (fun q : B = b => by rw [← q, hB0] at e; cases e)).trans (hk' b o (by simp; exact Nat.ne_of_lt (Heap.lt_size e)) (k1 b o e))) (by simpa [argBest] using hv)
    (Heap.get?_update_self (Obj.mapSeq fun _ => #[v, v]) gB' rfl) (hst'.1.at fun o e => (Heap.get?_update_other _ _ dBI).trans e)⟩
theorem max_loop (bt : Nat → Nat → Bool) (hh : A.handled = none) (hc : CmpAt prog w A.in1 H .Gt vs bt) (hl : H.IsList l vs.toArray) (hI : H.get? I = none) (hB : H.get? B = none) (hBI : B ≠ I)
    (hR : ∀ v h' tk', vs[argBest bt (vs.length - 1)]? = some v → (∀ b o, H.get? b = some o → h'.get? b = some o) → R (.ok (.ret v)) { s with heap := h', toks := tk' }) :
    ∀ (r j : Nat) (h : Heap) (tk c : Nat) (vb : Value), vs.length - j = r → 0 < j → j ≤ vs.length → (∀ b o, H.get? b = some o → h.get? b = some o) → vs[argBest bt (j - 1)]? = some vb → h.get? B = some { cls := .type "list", data := .seq #[vb, vb] c } → h.IsListIter I l j →
      codeAny (model prog w) A (.builtin "max.loop" ⟨[.ref I, .none, .ref B], []⟩) R { s with heap := h, toks := tk } := by
  have hname : (toString "max" ++ toString ".loop" : String) = "max.loop" := by decide
  have hne : l ≠ I := by
    rintro rfl
    obtain ⟨o, ho, _⟩ := hl
    rw [hI] at ho; cases ho
  have WK := Walks.list (prog := prog) (w := w) (A := A.in1) hh I l hne vs.toArray
  have hsz : vs.toArray.size = vs.length := List.size_toArray ..
  intro r
  induction r with
  | zero =>
    intro j h tk c vb hr hj hjl hk hvb gB hit
    obtain rfl : j = vs.length := by omega
    refine codeAny_builtin PySem.F.entry_max_loop ?_
    rw [Around.under_plainId PySem.F.plain_max_loop _]
    show wpAny _ A.in1 (seqItems? (.ref B) >>= _) _ _ _
    refine wpAny_bind (wpAny_seqItems gB rfl ?_)
    show wpAny _ A.in1 (tryCatch (pyNext (.ref I)) _ >>= _) _ _ _
    refine wpAny_bind (wpAny_tryCatch (WK.done _ _ _ ⟨by rw [hsz]; exact hit, hl.at fun o e => hk _ o e⟩ fun h' tk' hk' => ?_))
    have gB' := hk' B _ (by simpa using hBI) gB
    show wpAny _ A.in1 (updateSeq B (fun _ => #[]) >>= _) _ _ _
    refine wpAny_bind (wpAny_updateSeq gB' rfl (wpAny_bind (wpAny_letGo (wpAny_pure ?_))))
    exact hR vb _ _ hvb fun b o e => (Heap.get?_update_other _ _ (fun q : B = b => by rw [← q, hB] at e; cases e)).trans (hk' b o (by simp; rintro rfl; rw [hI] at e; cases e) (hk b o e))
  | succ r ih =>
    intro j h tk c vb hr hj hjl hk hvb gB hit
    have hlt : j < vs.length := by omega
    refine codeAny_builtin PySem.F.entry_max_loop ?_
    rw [Around.under_plainId PySem.F.plain_max_loop _]
    show wpAny _ A.in1 (seqItems? (.ref B) >>= _) _ _ _
    refine wpAny_bind (wpAny_seqItems gB rfl ?_)
    show wpAny _ A.in1 (tryCatch (pyNext (.ref I)) _ >>= _) _ _ _
    refine wpAny_bind (wpAny_tryCatch (WK.item j _ _ _ (by rw [hsz]; exact hlt) ⟨hit, hl.at fun o e => hk _ o e⟩ fun v h' tk' hP hst' hk' => ?_))
    have hv : vs[j]? = some v := by simpa using hP
    have gB' := hk' B _ (by simpa using hBI) gB
    have hkH : ∀ b o, H.get? b = some o → h'.get? b = some o := fun b o e => hk' b o (by simp; rintro rfl; rw [hI] at e; cases e) (hk b o e)
    have hs : argBest bt (j + 1 - 1) = if bt j (argBest bt (j - 1)) then j else argBest bt (j - 1) := by
      obtain ⟨k, rfl⟩ : ∃ k, j = k + 1 := ⟨j - 1, by omega⟩
      rfl
    show wpAny _ A.in1 (tryCatch (holding [v, v] (richCompare .Gt v vb >>= _)) _ >>= _) _ _ _
    refine wpAny_bind (wpAny_tryCatch (wpAny_holding (wpAny_bind (hc j (argBest bt (j - 1)) v vb _ _ _ hkH hv hvb ?_))))
    refine wpAny_bind (wpAny_holding (wpAny_truthy_bool ?_))
    refine wpAny_bind (wpAny_letGo (wpAny_pure ?_))
    cases hb : bt j (argBest bt (j - 1)) with
    | true =>
      simp only [if_true]
      rw [hb, if_pos rfl] at hs
      refine wpAny_bind (wpAny_updateSeq gB' rfl (wpAny_bind (wpAny_letGo ?_)))
      rw [hname]
      exact wpAny_pure ⟨plainId_quiet PySem.F.plain_max_loop _, ih (j + 1) _ _ _ v (by omega) (by omega) hlt (fun b o e => (Heap.get?_update_other _ _ (fun q : B = b => by rw [← q, hB] at e; cases e)).trans (hkH b o e)) (by rw [hs]; exact hv)
        (Heap.get?_update_self (Obj.mapSeq fun _ => #[v, v]) gB' rfl) (hst'.1.at fun o e => (Heap.get?_update_other _ _ hBI).trans e)⟩
    | false =>
      simp only [Bool.false_eq_true, if_false]
      rw [hb, if_neg Bool.false_ne_true] at hs
      refine wpAny_bind (wpAny_letGo ?_)
      rw [hname]
      exact wpAny_pure ⟨plainId_quiet PySem.F.plain_max_loop _, ih (j + 1) _ _ _ vb (by omega) (by omega) hlt hkH (by rw [hs]; exact hvb) gB' hst'.1⟩
theorem call_maxL (bt : Nat → Nat → Bool) (hh : A.handled = none) (hc : CmpAt prog w A.in1.in1 s.heap .Gt vs bt) (hl : s.heap.IsList l vs.toArray) (hn : 0 < vs.length) {Q : Value → Shared → Prop}
    (hQ : ∀ v h' tk', vs[argBest bt (vs.length - 1)]? = some v → (∀ b o, s.heap.get? b = some o → h'.get? b = some o) → Q v { s with heap := h', toks := tk' }) :
    wpAny (model prog w) A (call (.builtin "max") [.ref l]) Q E s := by
  have hname : (toString "max" ++ toString ".loop" : String) = "max.loop" := by decide
  refine call_function_tree PySem.F.kind_max PySem.F.plain_max PySem.F.entry_max (PySem.F.args_max1 _) ?_
  show wpAny _ A.in1 (Builtin.Builtins.bindParams "max" ["key", "default"] 0 ⟨[], []⟩ >>= _) _ _ s
  refine wpAny_bind (wpAny_of_eq (show Builtin.Builtins.bindParams "max" ["key", "default"] 0 ⟨[], []⟩ = pure [none, none] from rfl) ?_)
  refine wpAny_bind (wpAny_pure ?_)
  refine wpAny_bind (wpAny_pyIter_list hl ?_)
  refine wpAny_bind (wpAny_newObj_type ?_)
  rw [hname]
  have none₀ : ∀ b, s.heap.objs.size ≤ b → s.heap.get? b = none := fun b hb => by
    cases e : s.heap.get? b with
    | none => rfl
    | some o => exact absurd (Heap.lt_size e) (Nat.not_lt.mpr hb)
  have zI : (s.heap.push { cls := .type "list_iterator", data := .fields #[.ref l, .int 0 0] }).objs.size = s.heap.objs.size + 1 := Heap.size_push ..
  have lne : l ≠ s.heap.objs.size := by obtain ⟨o, ho, _⟩ := hl; exact Nat.ne_of_lt (Heap.lt_size ho)
  have WK := Walks.list (prog := prog) (w := w) (A := A.in1.in1) hh s.heap.objs.size l lne vs.toArray
  have hsz : vs.toArray.size = vs.length := List.size_toArray ..
  obtain ⟨B, hB⟩ : ∃ B, B = (s.heap.push { cls := .type "list_iterator", data := .fields #[.ref l, .int 0 0] }).objs.size := ⟨_, rfl⟩
  have dBI : B ≠ s.heap.objs.size := by rw [hB, zI]; exact Nat.succ_ne_self _
  have hB0 : s.heap.get? B = none := none₀ _ (by rw [hB, zI]; exact Nat.le_succ _)
  have gI := Heap.get?_push_of_some { cls := .type "list", data := .seq #[] } (Heap.get?_push_size s.heap (o := { cls := .type "list_iterator", data := .fields #[.ref l, .int 0 0] }) rfl)
  have gB := Heap.get?_push_size (s.heap.push { cls := .type "list_iterator", data := .fields #[.ref l, .int 0 0] }) (o := { cls := .type "list", data := .seq #[] }) rfl
  have k1 : ∀ b o, s.heap.get? b = some o → ((s.heap.push { cls := .type "list_iterator", data := .fields #[.ref l, .int 0 0] }).push { cls := .type "list", data := .seq #[] }).get? b = some o := fun b o e => Heap.get?_push_of_some _ (Heap.get?_push_of_some _ e)
  rw [← hB] at gB
  refine wpAny_pure ⟨plainId_quiet PySem.F.plain_max_loop _, ?_⟩
  refine codeAny_builtin PySem.F.entry_max_loop ?_
  rw [Around.under_plainId PySem.F.plain_max_loop _]
  show wpAny _ A.in1 (seqItems? (.ref _) >>= _) _ _ _
  rw [← hB]
  refine wpAny_bind (wpAny_seqItems gB rfl ?_)
  show wpAny _ A.in1 (tryCatch (pyNext (.ref s.heap.objs.size)) _ >>= _) _ _ _
  refine wpAny_bind (wpAny_tryCatch ((wpAny_of_in1 (WK.item 0 _ _ _ (by rw [hsz]; exact hn) ⟨⟨_, gI, rfl, rfl⟩, hl.at fun o e => k1 _ o e⟩ fun v h' tk' hP hst' hk' => ?_))))
  have hv : vs[0]? = some v := by simpa using hP
  have gB' := hk' B _ (by simpa using dBI) gB
  show wpAny _ A.in1 (updateSeq B (fun _ => #[v, v]) >>= _) _ _ _
  refine wpAny_bind (wpAny_updateSeq gB' rfl ?_)
  rw [hname]
  exact wpAny_pure ⟨plainId_quiet PySem.F.plain_max_loop _, max_loop (s := s) bt hh (fun i j vi vj s' Q E => fun a b c d => wpAny_of_in1 (hc i j vi vj s' Q E a b c d)) hl (none₀ _ (Nat.le_refl _)) hB0 dBI hQ _ 1 _ _ _ v rfl (by omega) hn
    (fun b o e => (Heap.get?_update_other _ _ (fun q : B = b => by rw [← q, hB0] at e; cases e)).trans (hk' b o (by simp; exact Nat.ne_of_lt (Heap.lt_size e)) (k1 b o e))) (by simpa [argBest] using hv)
    (Heap.get?_update_self (Obj.mapSeq fun _ => #[v, v]) gB' rfl) (hst'.1.at fun o e => (Heap.get?_update_other _ _ dBI).trans e)⟩
end
end Mine
end

section -- text SETC
theorem Mine.rows_off_SETC : True := by
  k_with_none
  trivial
open PySem PySem.W PyProof.Rows PySem.Calls
set_option Elab.async false
set_option maxRecDepth 100000
set_option maxHeartbeats 1000000
set_option linter.all false
namespace Mine
noncomputable def hashB (b : Bool) : Int := if b then 1 else 0
noncomputable def setObj (es : Array (Int × Value)) (ep : Nat) (t : SetTable) : Obj := { cls := .type "set", data := .set es ep t }
noncomputable def tab1 (led b : Bool) : SetTable := { mask := 7, place := #[if b then 1 else 0], dummies := #[], finger := 0, led := led, moves := 0, plain := true }
theorem lay1 (led b : Bool) : layNew (.fresh 0 0 led) #[] (hashB b) (.bool b) = (#[(hashB b, .bool b)], tab1 led b, false, false) := by cases led <;> cases b <;> rfl
theorem fits0 (led : Bool) : (SetTable.fresh 0 0 led).fits (#[] : Array (Int × Value)).size = true := by cases led <;> rfl
theorem fits1 (led b : Bool) : (tab1 led b).fits (#[(hashB b, Value.bool b)] : Array (Int × Value)).size = true := by cases led <;> cases b <;> rfl
section
variable {prog : Program} {w : World} {A : Around} {E : Value → Shared → Prop} {s : Shared} {a : Addr} {b led : Bool}
theorem hash_bool {Q : Int → Shared → Prop} (h : ∀ tk, Q (hashB b) { s with toks := tk }) : wpAny (model prog w) A (pyHash (.bool b)) Q E s := by
  have hT : s.TypeIs (.bool b) "bool" := rfl
  unfold pyHash
  have hv : [Value.bool b].any Value.onHeap = false := rfl
  refine wpAny_bind ?_
  rw [cRoomFor, if_neg (by rw [hv]; exact Bool.false_ne_true)]; refine wpAny_pure ?_
  refine wpAny_bind (wpAny_specialOf hT F.slot_bool_hash.lookup ?_)
  show wpAny _ _ (if (some (Value.builtin "int.__hash__") == some Value.none) = true then _ else _) Q E s
  rw [if_neg (by rw [beq_builtin_none]; exact Bool.false_ne_true)]
  refine wpAny_bind (wpAny_specialOf hT F.slot_bool_hash.lookup ?_)
  show wpAny _ _ (callSpecialIfBoundUnlessNone? (.bool b) "__hash__" _ >>= _) Q E s
  refine wpAny_bind (wpAny_callSpecialIfBoundUnlessNone?_slot hT F.slot_bool_hash
    (wpAny_call_entry F.slot_bool_hash hT F.entry_int_hash ?_ (F.args_int_hash_1 _)))
  cases b
  · wp_walk
    refine ⟨_, rfl, ?_⟩
    show wpAny _ _ (pyHashByItsType.reduced 0) Q E _
    unfold pyHashByItsType.reduced
    exact wpAny_pure (h _)
  · wp_walk
    refine ⟨_, rfl, ?_⟩
    show wpAny _ _ (pyHashByItsType.reduced 1) Q E _
    unfold pyHashByItsType.reduced
    exact wpAny_pure (h _)
theorem add_first {Q : Bool → Shared → Prop} (ho : s.heap.get? a = some (setObj #[] 0 (.fresh 0 0 led)))
    (h : ∀ h', Heap.SameBut a s.heap h' → h'.get? a = some (setObj #[(hashB b, .bool b)] 1 (tab1 led b)) → Q true { s with heap := h' }) : wpAny (model prog w) A (setAddHashed a (.bool b) (hashB b)) Q E s := by
  unfold setAddHashed setAddHashedIn
  refine wpAny_holding (wpAny_bind (wpAny_setState_of ho rfl (fits0 led) ?_))
  dsimp only
  rw [if_pos (show byScan (.bool b) #[] = true by cases b <;> decide +kernel)]
  unfold setAddByScan
  refine wpAny_bind (wpAny_bind (wpAny_rule ?_))
  show wpAny _ _ (setScanFrom a (.bool b) (hashB b) true [] 0 >>= _) _ _ _
  unfold setScanFrom
  refine wpAny_bind (wpAny_pure ?_)
  dsimp only
  rw [lay1]
  dsimp only
  refine wpAny_bind (wpAny_pure ?_)
  rw [if_pos (show (tab1 led b).plain = true from rfl)]
  refine wpAny_bind (wpAny_pure ?_)
  simp only [if_true]
  refine wpAny_bind (wpAny_storeSet_of ho rfl ?_)
  rw [if_neg (by cases led <;> cases b <;> decide)]
  refine wpAny_pure (wpAny_pure (h _ (Heap.SameBut.update ..) ?_))
  rw [Heap.get?_update_self _ ho rfl]
  rfl
theorem add_again {Q : Bool → Shared → Prop} (ho : s.heap.get? a = some (setObj #[(hashB b, .bool b)] 1 (tab1 led b)))
    (h : Q false s) : wpAny (model prog w) A (setAddHashed a (.bool b) (hashB b)) Q E s := by
  unfold setAddHashed setAddHashedIn
  refine wpAny_holding (wpAny_bind (wpAny_setState_of ho rfl (fits1 led b) ?_))
  dsimp only
  rw [if_pos (show byScan (.bool b) #[(hashB b, .bool b)] = true by cases b <;> decide +kernel)]
  unfold setAddByScan
  refine wpAny_bind (wpAny_bind (wpAny_rule ?_))
  show wpAny _ _ (setScanFrom a (.bool b) (hashB b) true [(hashB b, .bool b)] 0 >>= _) _ _ _
  unfold setScanFrom
  rw [if_pos (by simp)]
  refine wpAny_bind (wpAny_bind (wpAny_setEpoch_of ho rfl (fits1 led b) ?_))
  refine wpAny_bind (SeqAt.EqAt.bool_bool b b prog w _ _ ?_)
  rw [if_pos (by simp)]
  exact wpAny_pure (wpAny_pure (wpAny_pure h))
/-- a truth value put into the set that holds none, or itself -/
theorem add_bool {Q : Value → Shared → Prop} {o o' : Obj} (ho : s.heap.get? a = some o) (hd : o = setObj #[] 0 (.fresh 0 0 led) ∨ o = setObj #[(hashB b, .bool b)] 1 (tab1 led b))
    (h : ∀ h' tk, Heap.SameBut a s.heap h' → h'.get? a = some (setObj #[(hashB b, .bool b)] 1 (tab1 led b)) → Q .none { s with heap := h', toks := tk }) : wpAny (model prog w) A (call (.builtin "set.add") [.ref a, .bool b]) Q E s := by
  have hT : s.TypeIs (.ref a) "set" := by rcases hd with rfl | rfl <;> exact ⟨_, ho, rfl⟩
  refine wpAny_call_entry F.slot_set_add hT F.entry_set_add ?_ (F.args_set_add_2 _ _)
  unfold Builtin.«set.add» Builtin.Frozenset.oneOther
  simp only [List.isEmpty_nil, bind_assoc]
  unfold Builtin.Frozenset.addrOf setAdd
  refine wpAny_bind (wpAny_pure ?_)
  try dsimp only
  refine wpAny_bind (wpAny_pure ?_)
  try dsimp only
  refine wpAny_bind (wpAny_holding (wpAny_bind (hash_bool fun tk => ?_)))
  rcases hd with rfl | rfl
  · exact add_first ho fun h' hs hg => wpAny_pure ⟨_, rfl, h h' tk hs hg⟩
  · exact add_again ho (wpAny_pure ⟨_, rfl, h _ tk (Heap.SameBut.refl ..) ho⟩)
/-- are sets led in this world? -/
noncomputable def ledOf (w : World) : Bool := !w.params.followText "set-order"
theorem new_set {Q : Value → Shared → Prop} (h : Q (.ref s.heap.objs.size) { s with heap := s.heap.push (setObj #[] 0 (.fresh 0 0 (ledOf w))) }) : wpAny (model prog w) A (newSet (.type "set")) Q E s := by
  unfold newSet setsByText
  refine wpAny_bind (wpAny_bind (wpAny_askSetting (wpAny_pure ?_)))
  dsimp only
  simp only [newObj]
  exact wpAny_bind (wpAny_alloc (wpAny_pure h))
theorem by_text {Q : Bool → Shared → Prop} (h : Q (!ledOf w) s) : wpAny (model prog w) A setsByText Q E s := by
  unfold setsByText
  refine wpAny_bind (wpAny_askSetting (wpAny_pure ?_))
  have h' : Q (w.params.followText "set-order") s := by unfold ledOf at h; simpa using h
  exact h'
noncomputable def setIt (a : Addr) (p i : Int) (tp ti : Tok) : Obj := { cls := .type "set_iterator", data := .fields #[.int p tp, .int i ti, .ref a, .int 1 0, .int 1 0] }
theorem slot_set_iter' : Slot "set" "__iter__" "set.__iter__" :=
  .of (owner := "set") (n := "__iter__") (by rw [typeLookup_type, builtinLookup_eq_fast]; kernel_rfl) (by decide +kernel) (by decide +kernel) (by decide +kernel)
    (by first | exact .inl (by decide +kernel) | exact .inr (by decide +kernel)) (by rw [isSubtype_type]; kernel_rfl)
theorem slot_sit_next : Slot "set_iterator" "__next__" "set_iterator.__next__" :=
  .of (owner := "set_iterator") (n := "__next__") (by rw [typeLookup_type, builtinLookup_eq_fast]; kernel_rfl) (by decide +kernel) (by decide +kernel) (by decide +kernel)
    (by first | exact .inl (by decide +kernel) | exact .inr (by decide +kernel)) (by rw [isSubtype_type]; kernel_rfl)
theorem entry_sit_next : entryFor table "set_iterator.__next__" = some Builtin.«set_iterator.__next__» := entryFor_of_tree (by kernel_rfl)
theorem args_sit_next (a : Value) : argsOk "set_iterator.__next__" ⟨[a], []⟩ := by unfold argsOk; kernel_rfl
theorem args_set_iter' (a : Value) : argsOk "set.__iter__" ⟨[a], []⟩ := by unfold argsOk; kernel_rfl
theorem entry_set_iter' : entryFor table "set.__iter__" = some Builtin.«frozenset.__iter__» :=
  entryFor_alias (id' := "frozenset.__iter__") (by kernel_rfl) (by first | rfl | decide +kernel | (unfold String.splitOn; simp +decide [String.splitOnAux])) (by decide +kernel) (by kernel_rfl)
theorem set_drawn {Q : Bool → Shared → Prop} (ho : s.heap.get? a = some (setObj #[(hashB b, .bool b)] 1 (tab1 (ledOf w) b))) (h : Q false s) : wpAny (model prog w) A (setDrawn a) Q E s := by
  unfold setDrawn
  refine wpAny_bind (wpAny_setState_of ho rfl (fits1 _ b) ?_)
  dsimp only
  refine wpAny_bind (by_text (wpAny_pure ?_))
  have e : ∀ x : Bool, (x && (!(tab1 (ledOf w) b).plain && decide ((#[(hashB b, Value.bool b)] : Array (Int × Value)).size > 1))) = false := by intro x; cases x <;> rfl
  exact (e _) ▸ h
/-- iter of the set of one truth value -/
theorem iter_set {Q : Value → Shared → Prop} (ho : s.heap.get? a = some (setObj #[(hashB b, .bool b)] 1 (tab1 (ledOf w) b)))
    (h : ∀ tk, Q (.ref s.heap.objs.size) { s with heap := s.heap.push (setIt a 0 0 0 0), toks := tk }) : wpAny (model prog w) A (pyIter (.ref a)) Q E s := by
  have hT : s.TypeIs (.ref a) "set" := ⟨_, ho, rfl⟩
  refine wpAny_pyIter_slot hT slot_set_iter' (wpAny_call_entry slot_set_iter' hT entry_set_iter' ?_ (args_set_iter' _))
  have h1 : ∀ {A : Around} {E : Value → Shared → Prop} {Q : Bool → Shared → Prop}, Q false s → wpAny (model prog w) A (setDrawn a) Q E s := fun h => set_drawn ho h
  have h2 : ∀ {A : Around} {E : Value → Shared → Prop} {Q : Nat → Shared → Prop}, Q 1 s → wpAny (model prog w) A (setEpoch a) Q E s := fun h => wpAny_setEpoch_of ho rfl (fits1 _ b) h
  have h3 : ∀ {A : Around} {E : Value → Shared → Prop} {Q : Array (Int × Value) → Shared → Prop}, Q #[(hashB b, .bool b)] s → wpAny (model prog w) A (setEntries a) Q E s := fun h => wpAny_setEntries_of ho rfl (fits1 _ b) h
  wp_walk using h1, h2, h3
  exact ⟨_, rfl, "set_iterator", _, ⟨_, Heap.get?_push_size _ rfl, rfl⟩, slot_sit_next.lookup, h _⟩
noncomputable def pAt (led b : Bool) : Nat := if led then (if b then 2 else 1) else 0
theorem pick_one {α : Type} (f : Nat → Nat) (x : α) : pickOrder f #[x] = #[x] := by
  unfold pickOrder
  show pickOrder.go f 1 0 [x] #[] = #[x]
  unfold pickOrder.go
  rw [List.length_singleton, Nat.mod_one]
  rfl
theorem walk_text {Q : Array (Int × Value) → Shared → Prop} (hl : ledOf w = false) (ho : s.heap.get? a = some (setObj #[(hashB b, .bool b)] 1 (tab1 (ledOf w) b))) (h : Q #[(hashB b, .bool b)] s) : wpAny (model prog w) A (setWalk a) Q E s := by
  unfold setWalk
  refine wpAny_bind (wpAny_setState_of ho rfl (fits1 _ b) ?_)
  dsimp only
  refine wpAny_bind (by_text ?_)
  rw [hl, if_pos (show (!false) = true from rfl)]
  refine wpAny_bind (wpAny_askSetting (wpAny_pure ?_))
  rw [pick_one]
  exact h
theorem below0 (led : Bool) : SetTable.below (tab1 led b).place (Int.toNat 0) = 0 := by cases b <;> rfl
theorem below1 (led : Bool) : SetTable.below (tab1 led b).place (Int.toNat ((pAt true b : Nat) : Int)) = 1 := by cases led <;> cases b <;> decide +kernel
theorem set_next0 {Q : Option (Value × Nat) → Shared → Prop} (ho : s.heap.get? a = some (setObj #[(hashB b, .bool b)] 1 (tab1 (ledOf w) b))) (h : Q (some (.bool b, pAt (ledOf w) b)) s) :
    wpAny (model prog w) A (setNext a (Int.toNat 0) (Int.toNat 0) (Int.toNat 1)) Q E s := by
  unfold setNext
  refine wpAny_bind (wpAny_setState_of ho rfl (fits1 _ b) ?_)
  dsimp only
  refine wpAny_bind (by_text ?_)
  cases hl : ledOf w with
  | false =>
    rw [if_pos (show (!false) = true from rfl), if_neg (by decide)]
    refine wpAny_bind (walk_text hl ho (wpAny_pure ?_))
    rw [hl] at h; exact h
  | true =>
    rw [if_neg (by decide)]
    change wpAny _ _ (if false = true then _ else _) _ _ _
    rw [if_neg Bool.false_ne_true]
    refine wpAny_bind (wpAny_pure (wpAny_pure ?_))
    rw [below0]
    rw [hl] at h
    cases b <;> exact h
theorem set_next1 {Q : Option (Value × Nat) → Shared → Prop} (ho : s.heap.get? a = some (setObj #[(hashB b, .bool b)] 1 (tab1 (ledOf w) b))) (h : Q none s) :
    wpAny (model prog w) A (setNext a (Int.toNat ((pAt (ledOf w) b : Nat) : Int)) (Int.toNat 1) (Int.toNat 1)) Q E s := by
  unfold setNext
  refine wpAny_bind (wpAny_setState_of ho rfl (fits1 _ b) ?_)
  dsimp only
  refine wpAny_bind (by_text ?_)
  cases hl : ledOf w with
  | false =>
    rw [if_pos (show (!false) = true from rfl), if_neg (by decide)]
    exact wpAny_bind (walk_text hl ho (wpAny_pure h))
  | true =>
    rw [if_neg (by decide)]
    change wpAny _ _ (if false = true then _ else _) _ _ _
    rw [if_neg Bool.false_ne_true]
    refine wpAny_bind (wpAny_pure (wpAny_pure ?_))
    rw [below1]
    exact h
theorem next_set1 {I : Addr} {tp ti : Tok} {Q : Option Value → Shared → Prop} (ho : s.heap.get? a = some (setObj #[(hashB b, .bool b)] 1 (tab1 (ledOf w) b))) (hI : s.heap.get? I = some (setIt a 0 0 tp ti))
    (h : ∀ h' tp' ti', h'.get? I = some (setIt a (pAt (ledOf w) b : Nat) 1 tp' ti') → Heap.SameBut I s.heap h' → Q (some (.bool b)) { s with heap := h' }) : wpAny (model prog w) A (pyNext (.ref I)) Q E s := by
  have hT : s.TypeIs (.ref I) "set_iterator" := ⟨_, hI, rfl⟩
  unfold pyNext
  refine wpAny_bind (wpAny_attempt (wpAny_callSpecial?_slot (name := Str.ofString "__next__") hT slot_sit_next (wpAny_call_entry slot_sit_next hT entry_sit_next ?_ (args_sit_next _))))
  have h3 : ∀ {A : Around} {E : Value → Shared → Prop} {Q : Array (Int × Value) → Shared → Prop}, Q #[(hashB b, .bool b)] s → wpAny (model prog w) A (setEntries a) Q E s := fun h => wpAny_setEntries_of ho rfl (fits1 _ b) h
  have h4 : ∀ {A : Around} {E : Value → Shared → Prop} {Q : Option (Value × Nat) → Shared → Prop}, Q (some (.bool b, pAt (ledOf w) b)) s → wpAny (model prog w) A (setNext a (Int.toNat 0) (Int.toNat 0) (Int.toNat 1)) Q E s := fun h => set_next0 ho h
  wp_walk using h3, h4
  refine ⟨_, rfl, wpAny_pure (h _ 0 0 ?_ ?_)⟩
  · have g1 := Heap.get?_update_self (Obj.mapFields fun x => x.setIfInBounds 0 (rawInt ↑(pAt (ledOf w) b))) hI rfl
    exact Heap.get?_update_self (Obj.mapFields fun x => x.setIfInBounds 1 (rawInt (0 + 1))) g1 rfl
  · exact (Heap.SameBut.update ..).trans (Heap.SameBut.update ..)
theorem next_set2 {I : Addr} {tp ti : Tok} {Q : Option Value → Shared → Prop} (hh : A.handled = none) (ho : s.heap.get? a = some (setObj #[(hashB b, .bool b)] 1 (tab1 (ledOf w) b))) (hI : s.heap.get? I = some (setIt a (pAt (ledOf w) b : Nat) 1 tp ti))
    (h : ∀ h' , Heap.ExtBut I s.heap h' → Q none { s with heap := h' }) : wpAny (model prog w) A (pyNext (.ref I)) Q E s := by
  have hT : s.TypeIs (.ref I) "set_iterator" := ⟨_, hI, rfl⟩
  unfold pyNext
  refine wpAny_bind (wpAny_attempt (wpAny_callSpecial?_slot (name := Str.ofString "__next__") hT slot_sit_next (wpAny_call_entry slot_sit_next hT entry_sit_next ?_ (args_sit_next _))))
  have h3 : ∀ {A : Around} {E : Value → Shared → Prop} {Q : Array (Int × Value) → Shared → Prop}, Q #[(hashB b, .bool b)] s → wpAny (model prog w) A (setEntries a) Q E s := fun h => wpAny_setEntries_of ho rfl (fits1 _ b) h
  have h4 : ∀ {A : Around} {E : Value → Shared → Prop} {Q : Option (Value × Nat) → Shared → Prop}, Q none s → wpAny (model prog w) A (setNext a (Int.toNat ((pAt (ledOf w) b : Nat) : Int)) (Int.toNat 1) (Int.toNat 1)) Q E s := fun h => set_next1 ho h
  have hh1 : A.in1.handled = none := hh
  wp_walk using h3, h4
  simp only [raiseNew]
  refine wpAny_bind (wpAny_handled ?_)
  rw [hh1]
  refine wpAny_bind (wpAny_pure (wpAny_throw ?_))
  refine wpAny_bind (wpAny_isInstance (T := "StopIteration") (b := true) ⟨_, Heap.get?_push_size _ rfl, rfl⟩ isSubtype_stop ?_)
  exact wpAny_pure (h _ (((Heap.SameBut.update ..).extBut.push _).push _))
/-- a set of one truth value unpacked -/
theorem unpack_set {Q : List Value → Shared → Prop} (hh : A.handled = none) (ho : s.heap.get? a = some (setObj #[(hashB b, .bool b)] 1 (tab1 (ledOf w) b)))
    (hQ : ∀ h' tk, Heap.ExtBut s.heap.objs.size s.heap h' → Q [.bool b] { s with heap := h', toks := tk }) : wpAny (model prog w) A (unpackItems (.ref a) 1 none) Q E s := by
  have hT : s.TypeIs (.ref a) "set" := ⟨_, ho, rfl⟩
  have hne : a ≠ s.heap.objs.size := Nat.ne_of_lt (Heap.lt_size ho)
  unfold unpackItems
  refine wpAny_bind ?_
  unfold notIterableAtAll
  refine wpAny_bind (wpAny_specialOf hT slot_set_iter'.lookup (wpAny_pure ?_))
  simp only [Bool.false_eq_true, if_false]
  refine wpAny_bind (wpAny_holding (iter_set ho fun tk => ?_))
  have gI : (s.heap.push (setIt a 0 0 0 0)).get? s.heap.objs.size = some (setIt a 0 0 0 0) := Heap.get?_push_size _ rfl
  have ga : (s.heap.push (setIt a 0 0 0 0)).get? a = some (setObj #[(hashB b, .bool b)] 1 (tab1 (ledOf w) b)) := Heap.get?_push_of_some _ ho
  refine wpAny_bind (wpAny_holding ?_)
  unfold draw
  refine wpAny_bind (next_set1 ga gI fun h' tp ti g' hs => ?_)
  refine wpAny_bind (wpAny_holding (wpAny_pure (wpAny_pure ?_)))
  rw [if_neg (by simp)]
  refine wpAny_bind (wpAny_holding (next_set2 hh ((hs.2 a hne).trans ga) g' fun h'' he => ?_))
  rw [if_neg (by simp)]
  refine wpAny_pure (hQ h'' tk fun c o hc e => he c o hc ((hs.2 c hc).trans (Heap.get?_push_of_some _ e)))
theorem assign_set {env : Env} {e : Expr} {k : Nat} {pos : Pos} {Q : Unit → Shared → Prop} {h₀ : Heap} {L : Addr} {m : Str → Option Value} {news : List (Addr × Obj)} (hh : A.handled = none) (F : Fr h₀ L s.heap m) (N : News h₀ L s.heap news)
    (hm : (a, setObj #[(hashB b, .bool b)] 1 (tab1 (ledOf w) b)) ∈ news) (hn : (assignEach [e] env).length = 1) (hstar : (assignEach [e] env).findIdx? (·.1) = none)
    (h : ∀ h' tk, Fr h₀ L h' m → News h₀ L h' news → wpAny (model prog w) A (assignInOrder ((assignEach [e] env).map (·.2)) [.bool b]) Q E { s with heap := h', toks := tk }) :
    wpAny (model prog w) A (assign (.Tuple [e] k pos) env (.ref a)) Q E s := by
  rw [arm_assign_Tuple]
  refine wpAny_bind (wpAny_standAt ?_)
  unfold unpack
  refine wpAny_bind (wpAny_holding ?_)
  rw [hn, hstar]
  refine unpack_set hh (N _ hm).1 fun h' tk he => ?_
  exact h h' tk (F.extBut he (Nat.le_refl _)) (N.extBut he (Nat.le_refl _))
end
section
variable {prog : Program} {w : World} {A : Around} {E : Value → Shared → Prop} {R : Result → Shared → Prop} {s : Shared} {env : Env}
theorem setStart {elt target iter : Expr} {scope : Scope} {pos : Pos} {it acc : Value}
    (h0 : codeAny (model prog w) A (.compLoop (.SetComp elt [⟨target, iter, [], 0⟩] scope pos) 0 it acc env) R s)
    (h : wpAny (model prog w) A (pyIter it) (fun it' s' => codeAny (model prog w) A (.compLoop (.SetComp elt [⟨target, iter, [], 0⟩] scope pos) 0 it' acc env) R s') (notedBy (model prog w) A env fun x s' => R (.error x) s') s) :
    codeAny (model prog w) A (.compStart (.SetComp elt [⟨target, iter, [], 0⟩] scope pos) 0 it acc env) R s := by
  refine codeAny_of_tree ?_
  show wpAny _ _ ((compStart (.SetComp elt [⟨target, iter, [], 0⟩] scope pos) 0 it acc env).onRaise (fun x => do noteFrame x env; standAt theWindowsPlace)) _ _ s
  refine wpAny_notedAt ?_
  unfold compStart
  show wpAny _ _ (ask >>= _) _ _ s
  refine wpAny_bind (wpAny_askSetting (wpAny_ite ?_))
  split
  · first
      | exact wpAny_bind (wpAny_pure (wpAny_pure (And.intro rfl h0)))
      | exact wpAny_pure (And.intro rfl h0)
  · first
      | exact wpAny_bind (wpAny_rule (wpAny_bind (wpAny_standAt (wpAny_bind (wpAny_mono h (fun it' s' h' => wpAny_pure (And.intro rfl h')) fun _ _ x => x)))))
      | (refine wpAny_bind (wpAny_rule ?_); show wpAny _ _ (standAt iter.pos >>= _) _ _ s; exact wpAny_bind (wpAny_standAt (wpAny_bind (wpAny_mono h (fun it' s' h' => wpAny_pure (And.intro rfl h')) fun _ _ x => x))))
theorem setTurn (elt target iter : Expr) (scope : Scope) (pos : Pos) (it acc : Value) (env : Env) :
    compTurn (.SetComp elt [⟨target, iter, [], 0⟩] scope pos) 0 it acc env = (standAt iter.pos >>= fun _ => pyNext it >>= fun r => match r with
      | none => pure (.done .next)
      | some v => letOwnedTupleGo target it v >>= fun _ => assign target env v >>= fun _ =>
        (eval elt env >>= fun x => standAt elt.pos >>= fun _ => call (.builtin "set.add") [acc, x] >>= fun _ => pure ()) >>= fun _ =>
          again (.compLoop (.SetComp elt [⟨target, iter, [], 0⟩] scope pos) 0 it acc env)) := by rfl
theorem setLoop {elt target iter : Expr} {scope : Scope} {pos : Pos} {it acc : Value} (I : Nat → Shared → Prop)
    (turn : ∀ n s, I n s → wpAny (model prog w) A (pyNext it) (fun r s₁ => match r with
      | none => R (.ok .next) s₁
      | some v => wpAny (model prog w) A (assign target env v) (fun _ s₂ => wpAny (model prog w) A (eval elt env) (fun x s₃ =>
          wpAny (model prog w) A (call (.builtin "set.add") [acc, x]) (fun _ s₄ => ∃ m, m < n ∧ I m s₄) (notedBy (model prog w) A env fun e s' => R (.error e) s') s₃)
          (notedBy (model prog w) A env fun e s' => R (.error e) s') s₂) (notedBy (model prog w) A env fun e s' => R (.error e) s') s₁) (notedBy (model prog w) A env fun e s' => R (.error e) s') s)
    (n : Nat) (h : I n s) (ht : ∀ v, letOwnedTupleGo target it v = pure ()) : codeAny (model prog w) A (.compLoop (.SetComp elt [⟨target, iter, [], 0⟩] scope pos) 0 it acc env) R s := by
  refine codeAny_loop rfl I (fun n s hI => ?_) n h
  show wpAny _ A ((compTurn (.SetComp elt [⟨target, iter, [], 0⟩] scope pos) 0 it acc env).onRaise (fun x => do noteFrame x env; theTreesLotGoes x)) _ _ s
  refine wpAny_noted ?_
  rw [setTurn]
  refine wpAny_bind (wpAny_standAt (wpAny_bind (wpAny_mono (turn n s hI) (fun r s₁ h₁ => ?_) fun _ _ h' => h')))
  cases r with
  | none => exact wpAny_pure h₁
  | some v =>
    refine wpAny_bind (wpAny_of_eq (ht v) ?_)
    refine wpAny_bind (wpAny_mono h₁ (fun _ s₂ h₂ => ?_) fun _ _ h' => h')
    refine wpAny_bind (wpAny_bind (wpAny_mono h₂ (fun x s₃ h₃ => ?_) fun _ _ h' => h'))
    refine wpAny_bind (wpAny_standAt (wpAny_bind (wpAny_mono h₃ (fun _ s₄ h₄ => ?_) fun _ _ h' => h')))
    exact wpAny_pure (wpAny_pure ⟨rfl, h₄⟩)
/-- a set comprehension over a tuple, whose items all give the one truth value -/
theorem SetComp_tup {h₀ : Heap} {L l : Addr} {m : Str → Option Value} {news : List (Addr × Obj)} {elt iter : Expr} {x : Str} {px : Pos} {scope : Scope} {cl : List (Str × Addr)} {pos : Pos} {Q : Value → Shared → Prop} {vs : List Value} {n₀ : Nat} (b : Bool)
    (hclos : closureFor scope env = pure cl) (hcell : ∀ y ∈ scope.names, y.2 ≠ .cell) (hkind : scope.kind = .function) (hnames : ∀ y ∈ scope.names, y.2 = .local → scope.names.lookup y.1 = some .local) (hx : scope.names.lookup x = some .local)
    (hh : A.handled = none) (hn : 0 < vs.length)
    (h : wpAny (model prog w) A (eval iter env) (fun xv s₁ => xv = .ref l ∧ Fr h₀ L s₁.heap m ∧ News h₀ L s₁.heap news ∧ (l, ({ cls := .type "tuple", data := .seq vs.toArray n₀ } : Obj)) ∈ news ∧
      (∀ i v C oC m₂ D oD I oI h tk (E' : Value → Shared → Prop), i < vs.length → vs[i]? = some v → LCg.NsObj oC m₂ → m₂ x = some v → Fr h₀ L h m → News h₀ L h ((I, oI) :: (C, oC) :: (D, oD) :: news) →
        wpAny (model prog w) A (eval elt (compEnvC scope cl C env)) (fun y s₄ => y = .bool b ∧ ∃ h' tk', s₄ = { s₁ with heap := h', toks := tk' } ∧ Fr h₀ L h' m ∧ News h₀ L h' ((I, oI) :: (C, oC) :: (D, oD) :: news)) E' { s₁ with heap := h, toks := tk }) ∧
      (∀ D h tk, (∀ p ∈ news, p.1 < D) → Fr h₀ L h m → News h₀ L h ((D, setObj #[(hashB b, .bool b)] 1 (tab1 (ledOf w) b)) :: news) → Q (.ref D) { s₁ with heap := h, toks := tk })) E s)
    (hs : ∀ x, foldedSetIterable iter env x = pure x := by intro _; rfl) :
    wpAny (model prog w) A (eval (.SetComp elt [⟨.Name x px, iter, [], 0⟩] scope pos) env) Q E s := by
  rw [arm_eval_SetComp]
  refine wpAny_comprehension_free (use := none) rfl hs hclos hkind hnames (wpAny_mono h (fun xv s₁ h₁ => ?_) fun _ _ e => e)
  obtain ⟨rfl, F, N, hl, turn, done⟩ := h₁
  have hls : s₁.heap.IsTuple l vs.toArray := ⟨_, (N _ hl).1, rfl, n₀, rfl⟩
  have hne : l ≠ s₁.heap.objs.size := news_ne_size N _ hl
  refine wpAny_pyIter_tuple hls ?_
  have WK := Walks.tuple (prog := prog) (w := w) hh s₁.heap.objs.size l hne vs.toArray
  have hz : vs.toArray.size = vs.length := by simp
  simp only [hz, List.getElem?_toArray] at WK
  obtain ⟨I, hI⟩ : ∃ I, I = s₁.heap.objs.size := ⟨_, rfl⟩
  rw [← hI] at WK hne ⊢
  have lL : L < s₁.heap.objs.size := F.ns.lt
  have none₀ : ∀ b, s₁.heap.objs.size ≤ b → h₀.get? b = none := fun b hb => by
    cases e : h₀.get? b with
    | none => rfl
    | some o => exact absurd (Heap.lt_size (F.keep _ _ e)) (Nat.not_lt.mpr hb)
  refine new_set (wpAny_newFunctionEnv hcell (by intro y hy; simp at hy) (fun h₁ hns hsb => ?_) hkind)
  dsimp only at hns hsb ⊢
  generalize hp1 : s₁.heap.push { cls := .type "tuple_iterator", data := .fields #[.ref l, .int 0 0] } = hA at hns hsb ⊢
  have kA : ∀ b o, s₁.heap.get? b = some o → hA.get? b = some o := fun b o e => hp1 ▸ Heap.get?_push_of_some _ e
  have zA : hA.objs.size = s₁.heap.objs.size + 1 := by rw [← hp1, Heap.size_push]
  have gA : hA.get? I = some { cls := .type "tuple_iterator", data := .fields #[.ref l, .int 0 0] } := hI ▸ hp1 ▸ Heap.get?_push_size _ rfl
  obtain ⟨D, hD⟩ : ∃ D, D = hA.objs.size := ⟨_, rfl⟩
  rw [← hD] at zA ⊢
  generalize hp2 : hA.push (setObj #[] 0 (.fresh 0 0 (ledOf w))) = hB at hns hsb ⊢
  have kB : ∀ b o, hA.get? b = some o → hB.get? b = some o := fun b o e => hp2 ▸ Heap.get?_push_of_some _ e
  have gB : hB.get? D = some (setObj #[] 0 (.fresh 0 0 (ledOf w))) := hD ▸ hp2 ▸ Heap.get?_push_size _ rfl
  have zB : hB.objs.size = D + 1 := by rw [← hp2, Heap.size_push, hD]
  obtain ⟨C, hC⟩ : ∃ C, C = hB.objs.size := ⟨_, rfl⟩
  rw [← hC] at hns hsb zB ⊢
  have dIL : I ≠ L := by rw [hI]; exact Nat.ne_of_gt lL
  have dDL : D ≠ L := by rw [zA]; exact Nat.ne_of_gt (Nat.lt_succ_of_lt lL)
  have dCL : C ≠ L := by rw [zB, zA]; exact Nat.ne_of_gt (Nat.lt_succ_of_lt (Nat.lt_succ_of_lt lL))
  have dID : I ≠ D := by rw [zA, hI]; exact Nat.ne_of_lt (Nat.lt_succ_self _)
  have dDC : D ≠ C := by rw [zB]; exact Nat.ne_of_lt (Nat.lt_succ_self _)
  have dIC : I ≠ C := by rw [zB, zA, hI]; exact Nat.ne_of_lt (Nat.lt_succ_of_lt (Nat.lt_succ_self _))
  have hI0 : h₀.get? I = none := none₀ I (Nat.le_of_eq hI.symm)
  have hD0 : h₀.get? D = none := none₀ D (by rw [zA]; exact Nat.le_succ _)
  have hC0 : h₀.get? C = none := none₀ C (by rw [zB, zA]; exact Nat.le_succ_of_le (Nat.le_succ _))
  have off : ∀ p ∈ news, p.1 ≠ I ∧ p.1 ≠ C ∧ p.1 ≠ D := fun p hp => by
    have lp := Heap.lt_size (N p hp).1
    exact ⟨by rw [hI]; exact Nat.ne_of_lt lp, by rw [zB, zA]; exact Nat.ne_of_lt (Nat.lt_succ_of_lt (Nat.lt_succ_of_lt lp)), by rw [zA]; exact Nat.ne_of_lt (Nat.lt_succ_of_lt lp)⟩
  have ltD : ∀ p ∈ news, p.1 < D := fun p hp => by rw [zA]; exact Nat.lt_succ_of_lt (Heap.lt_size (N p hp).1)
  have k1 : ∀ b o, s₁.heap.get? b = some o → h₁.get? b = some o := fun b o e => hsb.extBut b o (by rw [zB, zA]; exact Nat.ne_of_lt (Nat.lt_succ_of_lt (Nat.lt_succ_of_lt (Heap.lt_size e)))) (Heap.get?_push_of_some _ (kB b o (kA b o e)))
  have g1I : h₁.get? I = some { cls := .type "tuple_iterator", data := .fields #[.ref l, .int 0 0] } := hsb.extBut _ _ dIC (Heap.get?_push_of_some _ (kB _ _ gA))
  have g1D : h₁.get? D = some (setObj #[] 0 (.fresh 0 0 (ledOf w))) := hsb.extBut _ _ dDC (Heap.get?_push_of_some _ gB)
  have ht : ∀ v, letOwnedTupleGo (.Name x px) (.ref I) v = pure () := by intro _; rfl
  have loop : ∀ s₃ : Shared, s₃ = { s₁ with heap := h₁, toks := s₁.toks + ([] : List (Str × Value)).length } →
      codeAny (model prog w) A (.compLoop (.SetComp elt [⟨.Name x px, iter, [], 0⟩] scope pos) 0 (.ref I) (.ref D) (compEnvC scope cl C env)) (compPost (model prog w) A E none Q (.ref D) C) s₃ := by
    rintro s₃ rfl
    refine setLoop (fun k s' => ∃ h' tk i oD m', s' = { s₁ with heap := h', toks := tk } ∧ i ≤ vs.length ∧ k = vs.length + 1 - i ∧ ((i = 0 ∧ oD = setObj #[] 0 (.fresh 0 0 (ledOf w))) ∨ oD = setObj #[(hashB b, .bool b)] 1 (tab1 (ledOf w) b)) ∧
        (h'.IsTupleIter I l i ∧ h'.IsTuple l vs.toArray) ∧ Fr h₀ L h' m ∧ h'.Ns C m' ∧ News h₀ L h' ((D, oD) :: news)) ?_ (vs.length + 1)
      ⟨h₁, _, 0, _, _, rfl, Nat.zero_le _, rfl, .inl ⟨rfl, rfl⟩, ⟨⟨_, g1I, rfl, rfl⟩, hls.at fun o e => k1 _ o e⟩, F.keeps k1, hns, fun p hp => ?_⟩ ht
    · intro k s' hx0
      refine hideP ?_
      intro G kG
      obtain ⟨h', tk, i, oD, m', e1, hi, e2, hoD, hst, F', hn', N'⟩ := hx0
      refine kG ?_
      clear kG
      subst e1
      subst e2
      have up : ∀ h₂ : Heap, (∀ b o, b ∉ [I] → h'.get? b = some o → h₂.get? b = some o) → Fr h₀ L h₂ m ∧ News h₀ L h₂ ((D, oD) :: news) ∧ h₂.Ns C m' := fun h₂ hk =>
        ⟨⟨F'.ns.at' fun o e => hk _ o (by simpa using Ne.symm dIL) e, fun b o e => hk b o (fun hm => by rw [List.mem_singleton.mp hm, hI0] at e; cases e) (F'.keep b o e), F'.above⟩,
         fun p hp => ⟨hk _ _ (by
           rcases List.mem_cons.mp hp with rfl | hp
           · simpa using Ne.symm dID
           · simpa using (off p hp).1) (N' p hp).1, (N' p hp).2⟩, hn'.at' fun o e => hk _ o (by simpa using Ne.symm dIC) e⟩
      by_cases hl' : i < vs.length
      · refine WK.item i _ _ _ hl' hst fun v h₂ tk₂ hP hst₂ hk₂ => ?_
        obtain ⟨F₂, N₂, hn₂⟩ := up h₂ hk₂
        refine wpAny_assign_Name (wpAny_storeName_local (lookup_relabel_local hx) hn₂ (fun h₃ hn₃ hs₃ => ?_) (by simp [compEnvC, relabel, hkind]))
        have k3 : ∀ b o, b ≠ C → h₂.get? b = some o → h₃.get? b = some o := fun b o hb e => hs₃.extBut b o hb e
        obtain ⟨oI, gI, hIc, hId⟩ := hst₂.1
        have gI3 := k3 _ _ dIC gI
        obtain ⟨oC, gC, hoC⟩ := LCg.ns_obj hn₃
        have F₃ : Fr h₀ L h₃ m := F₂.change hs₃ dCL hC0
        have N₃ : News h₀ L h₃ ((I, oI) :: (C, oC) :: (D, oD) :: news) := fun p hp => by
          rcases List.mem_cons.mp hp with rfl | hp
          · exact ⟨gI3, dIL, hI0⟩
          · rcases List.mem_cons.mp hp with rfl | hp
            · exact ⟨gC, dCL, hC0⟩
            · refine ⟨k3 _ _ ?_ (N₂ p hp).1, (N₂ p hp).2⟩
              rcases List.mem_cons.mp hp with rfl | hp
              · exact dDC
              · exact (off p hp).2.1
        refine wpAny_mono (turn i v C oC _ D oD I oI h₃ _ _ hl' hP hoC (by simp) F₃ N₃) (fun y s₃ hy => ?_) fun _ _ e => e
        refine hideP ?_
        intro G kG
        obtain ⟨e0, h₄, tk₄, e1, F₄, N₄⟩ := hy
        refine kG ?_
        clear kG
        subst e0
        subst e1
        refine add_bool (led := ledOf w) (o' := oD) (N₄ _ (.tail _ (.tail _ (.head _)))).1 (hoD.imp (fun e => e.2) id) fun h₅ tk₅ hs₅ g₅ => ?_
        have k5 : ∀ b o, b ≠ D → h₄.get? b = some o → h₅.get? b = some o := fun b o hb e => hs₅.extBut b o hb e
        have gI5 := k5 _ _ dID (N₄ _ (.head _)).1
        refine ⟨vs.length + 1 - (i + 1), dec_lt hl', h₅, tk₅, i + 1, _, _, rfl, hl', rfl, .inr rfl, ⟨⟨oI, gI5, hIc, hId⟩, ?_⟩, F₄.change hs₅ dDL hD0, (hoC.ns (N₄ _ (.tail _ (.head _))).1).sameBut hs₅ (Ne.symm dDC), fun p hp => ?_⟩
        · have g := N₄ _ (.tail _ (.tail _ (.tail _ hl)))
          exact ⟨_, k5 _ _ (off _ hl).2.2 g.1, rfl, n₀, rfl⟩
        · rcases List.mem_cons.mp hp with rfl | hp
          · exact ⟨g₅, dDL, hD0⟩
          · have q := N₄ p (.tail _ (.tail _ (.tail _ hp)))
            exact ⟨k5 _ _ (off p hp).2.2 q.1, q.2⟩
      · obtain rfl : i = vs.length := Nat.le_antisymm hi (Nat.not_lt.mp hl')
        have hoD' : oD = setObj #[(hashB b, .bool b)] 1 (tab1 (ledOf w) b) := hoD.elim (fun e => absurd e.1 (by omega)) id
        subst hoD'
        refine WK.done _ _ _ hst fun h₂ tk₂ hk₂ => ?_
        obtain ⟨F₂, N₂, hn₂⟩ := up h₂ hk₂
        refine ⟨_, hn₂, fun h'' hs => done D h'' _ ltD (F₂.change hs dCL hC0) fun p hp => ⟨hs.extBut _ _ ?_ (N₂ p hp).1, (N₂ p hp).2⟩⟩
        rcases List.mem_cons.mp hp with rfl | hp
        · exact dDC
        · exact (off p hp).2.1
    · rcases List.mem_cons.mp hp with rfl | hp
      · exact ⟨g1D, dDL, hD0⟩
      · exact ⟨k1 _ _ (N p hp).1, (N p hp).2⟩
  exact setStart (loop _ rfl) (WK.self 0 _ _ _ ⟨⟨_, g1I, rfl, rfl⟩, hls.at fun o e => k1 _ o e⟩ (loop _ rfl))
/-- what an element of a set comprehension gives -/
noncomputable def SetEl (h₀ : Heap) (L : Addr) (m : Str → Option Value) (s₁ : Shared) (I : Addr) (oI : Obj) (C : Addr) (oC : Obj) (D : Addr) (oD : Obj) (news : List (Addr × Obj)) (b : Bool) (y : Value) (s₄ : Shared) : Prop :=
  y = .bool b ∧ ∃ h' tk', s₄ = { s₁ with heap := h', toks := tk' } ∧ Fr h₀ L h' m ∧ News h₀ L h' ((I, oI) :: (C, oC) :: (D, oD) :: news)
noncomputable def SetAt (prog : Program) (w : World) (A : Around) (h₀ : Heap) (L l : Addr) (m : Str → Option Value) (env : Env) (elt : Expr) (x : Str) (scope : Scope) (cl : List (Str × Addr)) (news : List (Addr × Obj)) (vs : List Value) (n₀ : Nat) (b : Bool) (Q : Value → Shared → Prop) (xv : Value) (s₁ : Shared) : Prop :=
  xv = .ref l ∧ Fr h₀ L s₁.heap m ∧ News h₀ L s₁.heap news ∧ (l, ({ cls := .type "tuple", data := .seq vs.toArray n₀ } : Obj)) ∈ news ∧
      (∀ i v C oC m₂ D oD I oI h tk (E' : Value → Shared → Prop), i < vs.length → vs[i]? = some v → LCg.NsObj oC m₂ → m₂ x = some v → Fr h₀ L h m → News h₀ L h ((I, oI) :: (C, oC) :: (D, oD) :: news) →
        wpAny (model prog w) A (eval elt (compEnvC scope cl C env)) (SetEl h₀ L m s₁ I oI C oC D oD news b) E' { s₁ with heap := h, toks := tk }) ∧
      (∀ D h tk, (∀ p ∈ news, p.1 < D) → Fr h₀ L h m → News h₀ L h ((D, setObj #[(hashB b, .bool b)] 1 (tab1 (ledOf w) b)) :: news) → Q (.ref D) { s₁ with heap := h, toks := tk })
theorem SetComp_at {h₀ : Heap} {L l : Addr} {m : Str → Option Value} {news : List (Addr × Obj)} {elt iter : Expr} {x : Str} {px : Pos} {scope : Scope} {cl : List (Str × Addr)} {pos : Pos} {Q : Value → Shared → Prop} {vs : List Value} {n₀ : Nat} (b : Bool)
    (_F : Fr h₀ L s.heap m) (_N : News h₀ L s.heap news) (_hl : (l, ({ cls := .type "tuple", data := .seq vs.toArray n₀ } : Obj)) ∈ news)
    (hclos : closureFor scope env = pure cl) (hcell : ∀ y ∈ scope.names, y.2 ≠ .cell) (hkind : scope.kind = .function) (hnames : ∀ y ∈ scope.names, y.2 = .local → scope.names.lookup y.1 = some .local) (hx : scope.names.lookup x = some .local)
    (hh : A.handled = none) (hn : 0 < vs.length)
    (h : wpAny (model prog w) A (eval iter env) (SetAt prog w A h₀ L l m env elt x scope cl news vs n₀ b Q) E s)
    (hs : ∀ x, foldedSetIterable iter env x = pure x := by intro _; rfl) :
    wpAny (model prog w) A (eval (.SetComp elt [⟨.Name x px, iter, [], 0⟩] scope pos) env) Q E s :=
  SetComp_tup b hclos hcell hkind hnames hx hh hn h hs
end
end Mine
end

section -- text CPL
theorem Mine.rows_off_CPL : True := by
  k_with_none
  trivial
open PySem PySem.W PyProof.Rows
set_option Elab.async false
set_option maxRecDepth 100000
set_option maxHeartbeats 8000000
set_option linter.all false
namespace Mine
theorem ne_of_lts {news : List (Addr × Obj)} {I : Addr} (h : ∀ p ∈ news, p.1 < I) : ∀ p ∈ news, p.1 ≠ I := fun p hp => Nat.ne_of_lt (h p hp)
theorem lts_succ {news : List (Addr × Obj)} {I : Addr} (h : ∀ p ∈ news, p.1 < I) : ∀ p ∈ news, p.1 < I + 1 := fun p hp => Nat.lt_succ_of_lt (h p hp)
theorem truthyT {prog : Program} {w : World} {A : Around} {E : Value → Shared → Prop} {s : Shared} {h₀ : Heap} {L d : Addr} {news : List (Addr × Obj)} {its : Array Value} {n : Nat} {b : Bool} {Q : Bool → Shared → Prop} (N : News h₀ L s.heap news) (hm : (d, ({ cls := .type "tuple", data := .seq its n } : Obj)) ∈ news) (hf : its.size ≤ 10000000) (hb : (!its.isEmpty) = b) (h : ∀ tk', Q b { s with toks := tk' }) : wpAny (model prog w) A (truthy (.ref d)) Q E s :=
  ktl_truthy (N _ hm).1 (by omega) (hb ▸ h _)
theorem itemT {prog : Program} {w : World} {A : Around} {E : Value → Shared → Prop} {s : Shared} {h₀ : Heap} {L d : Addr} {news : List (Addr × Obj)} {its : List Value} {n : Nat} {value slice : PySem.Expr} {k : Int} {u : Tok} {j : Nat} {v : Value} {Q : Value → Shared → Prop} (N : News h₀ L s.heap news) (hm : (d, ({ cls := .type "tuple", data := .seq its.toArray n } : Obj)) ∈ news)
    (hlo : -(2 ^ 63) ≤ k) (hhi : k < 2 ^ 63) (hj : seqIndex? k its.length = some j) (hx : its[j]? = some v) (h : Q v s)
    (hs : subscripted slice false (.ref d) (.int k u) = operate [.ref d, .int k u] (getItem (.ref d) (.int k u))) (hg : ∀ r, letTemporaryGo value (.ref d) r = pure ()) :
    wpAny (model prog w) A (subscriptTail value slice (.ref d) (.int k u)) Q E s :=
  item_tupleL ⟨_, (N _ hm).1, rfl, n, rfl⟩ hlo hhi hj hx h hs hg
theorem strs_consT (p : Str × Tok) (r : List (Str × Tok)) : (!(strValues (p :: r)).toArray.isEmpty) = true := rfl
theorem seqIndex_zero {n : Nat} (h : 0 < n) : seqIndex? 0 n = some 0 := by unfold seqIndex?; simp; omega
theorem getD_of {bl : List (Str × Tok)} {i : Nat} {c : Str} {t : Tok} (h : bl[i]? = some (c, t)) : (bl.map (·.1)).getD i Str.empty = c := by
  rw [List.getD_eq_getElem?_getD, List.getElem?_map, h]; rfl
theorem abs_of {bl bl2 : List (Str × Tok)} {i : Nat} {c : Str} {t : Tok} {b : Bool} (hb : bl2.map (·.1) = bl.map (·.1)) (hz : ∀ p ∈ bl, Txt.startswith p.1 (Str.ofString "/") = b) (h : bl2[i]? = some (c, t)) : Txt.startswith c (Str.ofString "/") = b := by
  have h1 : c ∈ bl2.map (·.1) := List.mem_map.mpr ⟨(c, t), List.mem_of_getElem? h, rfl⟩
  rw [hb] at h1
  obtain ⟨p, hp, rfl⟩ := List.mem_map.mp h1
  exact hz p hp
theorem getD_len {bl bl2 : List (Str × Tok)} {k : Nat} (hb : bl2.map (·.1) = bl.map (·.1)) (hz : ∀ p ∈ bl, p.1.length ≤ k) (i : Nat) : ((bl2.map (·.1)).getD i Str.empty).length ≤ k := by
  rw [hb, List.getD_eq_getElem?_getD, List.getElem?_map]
  cases e : bl[i]? with
  | none => exact Nat.zero_le _
  | some p => exact hz p (List.mem_of_getElem? e)
theorem len_of {bl bl2 : List (Str × Tok)} {i : Nat} {c : Str} {t : Tok} {k : Nat} (hb : bl2.map (·.1) = bl.map (·.1)) (hz : ∀ p ∈ bl, p.1.length ≤ k) (h : bl2[i]? = some (c, t)) : c.length ≤ k := by
  have h1 : c ∈ bl2.map (·.1) := List.mem_map.mpr ⟨(c, t), List.mem_of_getElem? h, rfl⟩
  rw [hb] at h1
  obtain ⟨p, hp, rfl⟩ := List.mem_map.mp h1
  exact hz p hp
/-- lists of texts in the ledger: address, texts, count -/
abbrev Els := List (Addr × List (Str × Tok) × Nat)
noncomputable def objsOf (els : Els) : List (Addr × Obj) := els.map fun e => (e.1, W.listOf (strValues e.2.1).toArray e.2.2)
noncomputable def refsOf (els : Els) : List Value := els.map fun e => .ref e.1
noncomputable def textsOf (els : Els) : List (List Str) := els.map fun e => e.2.1.map (·.1)
/-- a comprehension that builds a list of lists of texts -/
noncomputable def JS (head news : List (Addr × Obj)) (f : Nat → List Str) (i : Nat) (ys : List Value) (nx : List (Addr × Obj)) : Prop :=
  ∃ els : Els, ys = refsOf els ∧ nx = head ++ (objsOf els ++ news) ∧ textsOf els = (List.range i).map f
theorem ref_of {els : Els} {i : Nat} {v : Value} (h : (refsOf els)[i]? = some v) : ∃ a l n, els[i]? = some (a, l, n) ∧ v = .ref a := by
  unfold refsOf at h
  rw [List.getElem?_map] at h
  cases e : els[i]? with
  | none => rw [e] at h; cases h
  | some p => rw [e] at h; cases h; exact ⟨p.1, p.2.1, p.2.2, rfl, rfl⟩
theorem obj_of {els : Els} {i : Nat} {a : Addr} {l : List (Str × Tok)} {n : Nat} {news : List (Addr × Obj)} (h : els[i]? = some (a, l, n)) : (a, W.listOf (strValues l).toArray n) ∈ objsOf els ++ news :=
  List.mem_append_left _ (List.mem_map.mpr ⟨_, List.mem_of_getElem? h, rfl⟩)
theorem text_of {els : Els} {i : Nat} {a : Addr} {l : List (Str × Tok)} {n : Nat} (h : els[i]? = some (a, l, n)) : (textsOf els).getD i [] = l.map (·.1) := by
  unfold textsOf
  rw [List.getD_eq_getElem?_getD, List.getElem?_map, h]; rfl
/-- a part of a path that commonpath keeps -/
noncomputable def keepB (c : Str) : Bool := !(c.length == 0) && !(c == Str.ofString ".")
noncomputable def partsOf (x : Str) : List Str := (Txt.split x (Str.ofString "/")).filter keepB
/-- a comprehension that picks texts -/
noncomputable def JF2 (led : List (Addr × Obj)) (L : List Str) (i : Nat) (ys : List Value) (nx : List (Addr × Obj)) : Prop :=
  nx = led ∧ ∃ cs : List (Str × Tok), ys = strValues cs ∧ cs.map (·.1) = (L.take i).filter keepB
theorem split_len {c : Str} (h : c.length ≤ 200) {l : List Str} (e : l = Txt.split c (Str.ofString "/")) : l.length ≤ 201 ∧ ∀ x ∈ l, x.length ≤ 201 := by
  have h1 := split_weight c (Str.ofString "/") (by decide +kernel)
  rw [← e] at h1
  have h2 : ∀ (M : List Str) (x : Str), x ∈ M → x.length ≤ (M.map (·.length)).sum := by
    intro M
    induction M with
    | nil => intro x hx; cases hx
    | cons y r ih =>
      intro x hx
      rw [List.map_cons, List.sum_cons]
      rcases List.mem_cons.mp hx with rfl | hx
      · omega
      · have := ih x hx; omega
  exact ⟨by omega, fun x hx => by have := h2 l x hx; omega⟩
theorem els_len {els : Els} {i : Nat} {a : Addr} {l : List (Str × Tok)} {n k : Nat} {g : Nat → Str} (h : els[i]? = some (a, l, n)) (he : textsOf els = (List.range k).map fun i => Txt.split (g i) (Str.ofString "/")) (hg : ∀ i, (g i).length ≤ 200) :
    l.length ≤ 201 ∧ ∀ x ∈ l.map (·.1), x.length ≤ 201 := by
  have h1 : l.map (·.1) ∈ textsOf els := List.mem_map.mpr ⟨(a, l, n), List.mem_of_getElem? h, rfl⟩
  rw [he] at h1
  obtain ⟨j, _, e⟩ := List.mem_map.mp h1
  have := split_len (hg j) e.symm
  rw [List.length_map] at this
  exact this
theorem keep_yes {c : Str} (h1 : (c.length : Int) ≠ 0) (h2 : c ≠ Str.ofString ".") : keepB c = true := by
  unfold keepB
  rw [Bool.and_eq_true]
  exact ⟨by simp; omega, by simpa using h2⟩
theorem keep_no1 {c : Str} (h1 : (c.length : Int) = 0) : keepB c = false := by
  unfold keepB
  rw [show (c.length == 0) = true by simp; omega]; rfl
theorem keep_no2 {c : Str} (h1 : c = Str.ofString ".") : keepB c = false := by
  unfold keepB
  rw [show (c == Str.ofString ".") = true by simpa using h1, Bool.not_true, Bool.and_false]
theorem take_keep {l : List (Str × Tok)} {i : Nat} {c : Str} {t : Tok} (h : l[i]? = some (c, t)) : ((l.map (·.1)).take (i + 1)).filter keepB = ((l.map (·.1)).take i).filter keepB ++ (if keepB c then [c] else []) := by
  rw [List.take_add_one, List.getElem?_map, h, List.filter_append]
  cases e : keepB c <;> simp [e]
theorem keep_yes' {c : Str} (h1 : (c.length : Int) ≠ 0) (h2 : (c != Str.ofString ".") = true) : keepB c = true := keep_yes h1 (by simpa using h2)
theorem keep_no2' {c : Str} (h1 : (c != Str.ofString ".") = false) : keepB c = false := keep_no2 (by simpa using h1)
section
variable {h₀ : Heap} {L I C D : Addr} {m : Str → Option Value} {s : Shared} {oI oC : Obj} {led : List (Addr × Obj)} {l : List (Str × Tok)} {i : Nat} {cs : List (Str × Tok)} {c : Str} {t t' : Tok} {h' : Heap} {tk' : Nat}
theorem jf2_yes (F : Fr h₀ L h' m) (N : News h₀ L h' ((I, oI) :: (C, oC) :: (D, LCg.lst (strValues cs)) :: led)) (off : ∀ p ∈ led, p.1 ≠ I ∧ p.1 ≠ C ∧ p.1 ≠ D) (hcs : cs.map (·.1) = ((l.map (·.1)).take i).filter keepB) (hc : l[i]? = some (c, t)) (hk : keepB c = true) :
    CEnd h₀ L m s I oI C oC D (strValues cs) (JF2 led (l.map (·.1)) (i + 1)) (strValues cs ++ [.str c t']) { s with heap := h', toks := tk' } :=
  ⟨h', tk', led, rfl, F, N, off, rfl, cs ++ [(c, t')], by simp [strValues], by rw [take_keep hc, hk, List.map_append, hcs]; rfl⟩
theorem jf2_no (F : Fr h₀ L h' m) (N : News h₀ L h' ((I, oI) :: (C, oC) :: (D, LCg.lst (strValues cs)) :: led)) (off : ∀ p ∈ led, p.1 ≠ I ∧ p.1 ≠ C ∧ p.1 ≠ D) (hcs : cs.map (·.1) = ((l.map (·.1)).take i).filter keepB) (hc : l[i]? = some (c, t)) (hk : keepB c = false) :
    CEnd h₀ L m s I oI C oC D (strValues cs) (JF2 led (l.map (·.1)) (i + 1)) (strValues cs) { s with heap := h', toks := tk' } :=
  ⟨h', tk', led, rfl, F, N, off, rfl, cs, rfl, by rw [take_keep hc, hk, hcs]; simp⟩
end
theorem mem_els {p : Addr × Obj} {els : Els} {e : Addr × List (Str × Tok) × Nat} {news : List (Addr × Obj)} (hp : p ∈ objsOf (els ++ [e]) ++ news) : p = (e.1, W.listOf (strValues e.2.1).toArray e.2.2) ∨ p ∈ objsOf els ++ news := by
  unfold objsOf at hp
  rw [List.map_append] at hp
  rcases List.mem_append.mp hp with hp | hp
  · rcases List.mem_append.mp hp with hp | hp
    · exact .inr (List.mem_append_left _ hp)
    · exact .inl (List.mem_singleton.mp hp)
  · exact .inr (List.mem_append_right _ hp)
theorem js_end {h₀ : Heap} {L I C D T : Addr} {m : Str → Option Value} {s : Shared} {oI oC : Obj} {head news : List (Addr × Obj)} {f : Nat → List Str} {i : Nat} {els : Els} {l : List (Str × Tok)} {n : Nat} {h' : Heap} {tk' : Nat}
    (F : Fr h₀ L h' m) (N : News h₀ L h' ((T, W.listOf (strValues l).toArray n) :: (I, oI) :: (C, oC) :: (D, LCg.lst (refsOf els)) :: (head ++ (objsOf els ++ news)))) (hI : T ≠ I) (hC : T ≠ C) (hD : T ≠ D)
    (off : ∀ p ∈ head ++ (objsOf els ++ news), p.1 ≠ I ∧ p.1 ≠ C ∧ p.1 ≠ D) (he : textsOf els = (List.range i).map f) (hl : l.map (·.1) = f i) :
    CEnd h₀ L m s I oI C oC D (refsOf els) (JS head news f (i + 1)) (refsOf els ++ [.ref T]) { s with heap := h', toks := tk' } := by
  refine ⟨h', tk', head ++ (objsOf (els ++ [(T, l, n)]) ++ news), rfl, F, ?_, ?_, els ++ [(T, l, n)], by simp [refsOf], rfl, by rw [List.range_succ, List.map_append, ← he]; simp [textsOf, hl]⟩
  · intro p hp
    rcases List.mem_cons.mp hp with rfl | hp
    · exact N _ (.tail _ (.head _))
    rcases List.mem_cons.mp hp with rfl | hp
    · exact N _ (.tail _ (.tail _ (.head _)))
    rcases List.mem_cons.mp hp with rfl | hp
    · exact N _ (.tail _ (.tail _ (.tail _ (.head _))))
    rcases List.mem_append.mp hp with hp | hp
    · exact N p (.tail _ (.tail _ (.tail _ (.tail _ (List.mem_append_left _ hp)))))
    · rcases mem_els hp with rfl | hp
      · exact N _ (.head _)
      · exact N p (.tail _ (.tail _ (.tail _ (.tail _ (List.mem_append_right _ hp)))))
  · intro p hp
    rcases List.mem_append.mp hp with hp | hp
    · exact off p (List.mem_append_left _ hp)
    · rcases mem_els hp with rfl | hp
      · exact ⟨hI, hC, hD⟩
      · exact off p (List.mem_append_right _ hp)
theorem mem_objs {els : Els} {e : Addr × List (Str × Tok) × Nat} {news : List (Addr × Obj)} (h : e ∈ els) : (e.1, W.listOf (strValues e.2.1).toArray e.2.2) ∈ objsOf els ++ news := List.mem_append_left _ (List.mem_map.mpr ⟨e, h, rfl⟩)
section
variable {prog : Program} {w : World} {A : Around} {E : Value → Shared → Prop} {s : Shared} {h₀ : Heap} {L D : Addr} {m : Str → Option Value} {news : List (Addr × Obj)} {els : Els} {Q : Value → Shared → Prop}
noncomputable def txt (els : Els) (i : Nat) : List Str := (textsOf els).getD i []
theorem els_at {i : Nat} {v : Value} (h : (refsOf els)[i]? = some v) (hobj : ∀ e ∈ els, (e.1, W.listOf (strValues e.2.1).toArray e.2.2) ∈ news) (N : News h₀ L s.heap news) :
    ∃ a l n, els[i]? = some (a, l, n) ∧ v = .ref a ∧ s.heap.get? a = some (W.listOf (strValues l).toArray n) ∧ txt els i = l.map (·.1) := by
  obtain ⟨a, l, n, he, rfl⟩ := ref_of h
  exact ⟨a, l, n, he, rfl, (N _ (hobj _ (List.mem_of_getElem? he))).1, text_of he⟩
theorem minK (F : Fr h₀ L s.heap m) (N : News h₀ L s.heap news) (hl : (D, LCg.lst (refsOf els)) ∈ news) (hobj : ∀ e ∈ els, (e.1, W.listOf (strValues e.2.1).toArray e.2.2) ∈ news) (hh : A.handled = none) (hu : A.units + 2 < cLine) (hn : 0 < els.length)
    (h : ∀ a l n h' tk', els[argBest (fun i j => lexLt (txt els i) (txt els j)) (els.length - 1)]? = some (a, l, n) → Fr h₀ L h' m → News h₀ L h' news → Q (.ref a) { s with heap := h', toks := tk' }) :
    wpAny (model prog w) A (call (.builtin "min") [.ref D]) Q E s := by
  have hz : (refsOf els).length = els.length := by unfold refsOf; rw [List.length_map]
  refine call_minL (vs := refsOf els) (fun i j => lexLt (txt els i) (txt els j)) hh ?_ ⟨_, (N _ hl).1, rfl, _, rfl⟩ (by rw [hz]; exact hn) fun v h' tk' hv hk => ?_
  · intro i j vi vj s' Q' E' hk hi hj hq
    obtain ⟨a, l, n, _, rfl, g1, e1⟩ := els_at hi hobj N
    obtain ⟨a', l', n', _, rfl, g2, e2⟩ := els_at hj hobj N
    dsimp only at hq; rw [e1, e2] at hq
    exact rich_lt (hk _ _ g1) (hk _ _ g2) hu hq
  · rw [hz] at hv
    obtain ⟨a, l, n, he, rfl, _, _⟩ := els_at hv hobj N
    exact h a l n h' tk' he (F.keeps hk) (N.grown hk)
theorem maxK (F : Fr h₀ L s.heap m) (N : News h₀ L s.heap news) (hl : (D, LCg.lst (refsOf els)) ∈ news) (hobj : ∀ e ∈ els, (e.1, W.listOf (strValues e.2.1).toArray e.2.2) ∈ news) (hh : A.handled = none) (hu : A.units + 2 < cLine) (hn : 0 < els.length)
    (h : ∀ a l n h' tk', els[argBest (fun i j => lexGt (txt els i) (txt els j)) (els.length - 1)]? = some (a, l, n) → Fr h₀ L h' m → News h₀ L h' news → Q (.ref a) { s with heap := h', toks := tk' }) :
    wpAny (model prog w) A (call (.builtin "max") [.ref D]) Q E s := by
  have hz : (refsOf els).length = els.length := by unfold refsOf; rw [List.length_map]
  refine call_maxL (vs := refsOf els) (fun i j => lexGt (txt els i) (txt els j)) hh ?_ ⟨_, (N _ hl).1, rfl, _, rfl⟩ (by rw [hz]; exact hn) fun v h' tk' hv hk => ?_
  · intro i j vi vj s' Q' E' hk hi hj hq
    obtain ⟨a, l, n, _, rfl, g1, e1⟩ := els_at hi hobj N
    obtain ⟨a', l', n', _, rfl, g2, e2⟩ := els_at hj hobj N
    dsimp only at hq; rw [e1, e2] at hq
    exact rich_gt (hk _ _ g1) (hk _ _ g2) hu hq
  · rw [hz] at hv
    obtain ⟨a, l, n, he, rfl, _, _⟩ := els_at hv hobj N
    exact h a l n h' tk' he (F.keeps hk) (N.grown hk)
end

end Mine
end

section -- text ENL
theorem Mine.rows_off_ENL : True := by
  k_with_none
  trivial
open PySem PySem.W PyProof.Rows
set_option Elab.async false
set_option maxRecDepth 100000
set_option maxHeartbeats 1000000
set_option linter.all false
namespace Mine
section
variable {prog : Program} {w : World} {A : Around} {E : Value → Shared → Prop} {s : Shared} {env : Env} {h₀ : Heap} {body : List Stmt} {Q : Flow → Shared → Prop} {m₀ : Str → Option Value} {news : List (Addr × Obj)}
/-- a loop with a pair for its target over enumerate of a list of the call's own -/
theorem turns_enumL {elts : List Expr} {k : Nat} {pos : Pos} {ax : Addr} {vs : Array Value} {n₀ : Nat} (J : Nat → (Str → Option Value) → List (Addr × Obj) → Prop) (hh : A.handled = none) (F : Fr h₀ env.locals s.heap m₀) (N : News h₀ env.locals s.heap news)
    (hl : (ax, W.listOf vs n₀) ∈ news) (hj : J 0 m₀ news) (hJ : ∀ i m nx, J i m nx → nx.map (·.1) = news.map (·.1) ∧ (ax, W.listOf vs n₀) ∈ nx)
    (turn : ∀ (i : Nat) v x t T m₁ nx h tk I oE oI, (∀ p ∈ news, p.1 < I) → vs[i]? = some x → v = .ref T → IsTup h T #[.int (i : Int) t, x] → J i m₁ nx → Fr h₀ env.locals h m₁ → News h₀ env.locals h ((I + 1, oE) :: (I, oI) :: nx) →
      wpAny (model prog w) A (assign (.Tuple elts k pos) env v) (fun _ s₃ => wpAny (model prog w) A (execs body env) (TurnPostW h₀ env.locals J (i + 1) [(I + 1, oE), (I, oI)] s Q) E s₃) E { s with heap := h, toks := tk })
    (done : ∀ m₁ nx h tk, J vs.size m₁ nx → Fr h₀ env.locals h m₁ → News h₀ env.locals h nx → Q .next { s with heap := h, toks := tk }) :
    wpAny (model prog w) A (call (.type "enumerate") [.ref ax]) (fun xv s₁ => wpAny (model prog w) A (pyIter xv) (fun it s₂ => W.TurnsAt prog w A h₀ env (.Tuple elts k pos) body Q E it s₂) E s₁) E s := by
  have gl := (N _ hl).1
  have lx : ax < s.heap.objs.size := Heap.lt_size gl
  have lL : env.locals < s.heap.objs.size := F.ns.lt
  refine call_enumerate_1 gl fun h' hE hI hsz hk => ?_
  refine wpAny_pyIter_enum hE ?_
  have WK := W.KTurns.ofWalksU (elts := elts) (k := k) (pos := pos) (WalksT.enumerateD (Draws.list (prog := prog) (w := w) (A := A.in1) hh s.heap.objs.size ax (Nat.ne_of_lt lx) vs) (s.heap.objs.size + 1) (Nat.succ_ne_self _) (by
    intro hm
    rcases List.mem_cons.mp hm with e | hm
    · exact absurd e (Nat.succ_ne_self _)
    · exact absurd (List.mem_singleton.mp hm) (ktu_ne 1 lx).symm) (by simp)).toU
  refine turns_of (s := { s with heap := h' }) WK [(ax, W.listOf vs n₀)] J ⟨⟨_, hE⟩, hI, ⟨_, hk _ _ gl, rfl, n₀, rfl⟩⟩ ?_ ?_ ?_ ?_ ?_ (F.keeps hk) (fun p hp => ?_) hj (fun i m nx h => ⟨(hJ i m nx h).1, fun p hp => List.mem_singleton.mp hp ▸ (hJ i m nx h).2⟩) ?_ done
  · rintro i h ⟨⟨old, he⟩, ⟨oi, hoi, _⟩, _⟩
    obtain ⟨oE, gE⟩ : ∃ oE, h.get? (s.heap.objs.size + 1) = some oE := ⟨_, he⟩
    refine ⟨[(s.heap.objs.size + 1, oE), (s.heap.objs.size, oi)], rfl, fun p hp => ?_⟩
    rcases List.mem_cons.mp hp with rfl | hp
    · exact gE
    · rw [List.mem_singleton.mp hp]; exact hoi
  · intro p hp hm
    have lp := Heap.lt_size (N p hp).1
    rcases List.mem_cons.mp hm with e | hm
    · exact ktu_ne 1 lp e
    · exact Nat.ne_of_lt lp (List.mem_singleton.mp hm)
  · intro b hm
    rcases List.mem_cons.mp hm with rfl | hm
    · exact ktu_new F (Nat.le_add_right _ _)
    · rw [List.mem_singleton.mp hm]; exact ktu_new F (Nat.le_refl _)
  · intro b hm
    rcases List.mem_cons.mp hm with rfl | hm
    · exact .inl (by simp)
    · rcases List.mem_cons.mp hm with rfl | hm
      · exact .inl (by simp)
      · rw [List.mem_singleton.mp hm]
        exact .inr (.inl ⟨_, .head _⟩)
  · intro hm
    rcases List.mem_cons.mp hm with e | hm
    · exact ktu_ne 1 lL e
    · rcases List.mem_cons.mp hm with e | hm
      · exact Nat.ne_of_lt lL e
      · exact (N _ hl).2.1 (List.mem_singleton.mp hm).symm
  · exact N.grown hk p hp
  · rintro i v m₁ nx h tk os hos hi ⟨T, vals, rfl, ⟨t, x, hx, rfl⟩, hTu⟩ hj' F' N'
    obtain ⟨⟨a, oE⟩, ⟨b, oI⟩, rfl⟩ : ∃ p q, os = [p, q] := by
      have h2 : os.length = 2 := by have := congrArg List.length hos; simpa using this
      cases os with
      | nil => simp at h2
      | cons p r =>
        have h3 : r.length = 1 := by simpa using h2
        obtain ⟨q, rfl⟩ := List.length_eq_one_iff.mp h3
        exact ⟨p, q, rfl⟩
    obtain ⟨ea, eb⟩ : a = s.heap.objs.size + 1 ∧ b = s.heap.objs.size := by simpa using hos
    subst ea eb
    exact turn i _ x t T m₁ nx h tk _ oE oI (fun p hp => Heap.lt_size (N p hp).1) hx rfl hTu hj' F' N'
end
theorem strs_at {l : List (Str × Tok)} {i : Nat} {x : Value} (h : (strValues l).toArray[i]? = some x) : ∃ c t, x = .str c t ∧ l[i]? = some (c, t) := by
  have h' : (strValues l)[i]? = some x := by simpa using h
  unfold strValues at h'
  rw [List.getElem?_map] at h'
  cases e : l[i]? with
  | none => rw [e] at h'; cases h'
  | some p => rw [e] at h'; cases h'; exact ⟨p.1, p.2, rfl, rfl⟩
section
variable {prog : Program} {w : World} {A : Around} {E : Value → Shared → Prop} {s : Shared} {h₀ : Heap} {L d : Addr} {m : Str → Option Value} {news : List (Addr × Obj)} {n : Nat} {value slice : PySem.Expr}
theorem itemL {its : Array Value} {k : Int} {u : Tok} {v : Value} {Q : Value → Shared → Prop} (N : News h₀ L s.heap news) (hm : (d, W.listOf its n) ∈ news) (h0 : 0 ≤ k) (h1 : k < 2 ^ 63) (hx : its[k.toNat]? = some v) (h : Q v s)
    (hs : subscripted slice false (.ref d) (.int k u) = operate [.ref d, .int k u] (getItem (.ref d) (.int k u)) := by with_unfolding_all rfl) :
    wpAny (model prog w) A (subscriptTail value slice (.ref d) (.int k u)) Q E s :=
  have hl : s.heap.IsList d its := ⟨_, (N _ hm).1, rfl, n, rfl⟩
  tail_any hl.typeIs slot_list_getitem.lookup (wpAny_getItem_list hl h0 h1 hx h) hs
theorem pick_upto (l : List (Str × Tok)) (k : Nat) : W.kms_pick (strValues l).toArray.toList none (some (k : Int)) = strValues (l.take k) := by
  have e : (strValues l).toArray.toList = strValues l := rfl
  rw [e]
  show ((strValues l).drop 0).take ((if ((k : Nat) : Int) < 0 then (strValues l).length - (-(k : Int)).toNat else min ((k : Nat) : Int).toNat (strValues l).length) - 0) = _
  rw [if_neg (by omega), List.drop_zero, Nat.sub_zero, Int.toNat_natCast]
  unfold strValues
  rw [List.length_map, ← List.map_take, ← W.kmk_take_min l k]
theorem sliceK {l : List (Str × Tok)} {k : Nat} {vu : Value} {Q : Value → Shared → Prop} (F : Fr h₀ L s.heap m) (N : News h₀ L s.heap news) (hm : (d, W.listOf (strValues l).toArray n) ∈ news) (pu : IsPart vu (some (k : Int)))
    (h : ∀ D h', Fr h₀ L h' m → News h₀ L h' ((D, W.listOf (strValues (l.take k)).toArray 0) :: news) → (∀ p ∈ news, p.1 < D) → Q (.ref D) { s with heap := h' })
    (hs : subscripted slice false (.ref d) (.ref s.heap.objs.size) = operate [.ref s.heap.objs.size, .ref d] (getItem (.ref d) (.ref s.heap.objs.size))) (ht : ∀ r, letTemporaryGo value (.ref d) r = pure ()) (hz : l.length ≤ 1000) :
    wpAny (model prog w) A (subscriptTail value slice (.ref d) (.ref s.heap.objs.size)) Q E { s with heap := s.heap.push { cls := .type "slice", data := .fields #[.none, vu, .none] } } :=
  W.kms_slice_lit F N ⟨_, (N _ hm).1, rfl, n, rfl⟩ .none pu (pick_upto l k) h hs ht (by rw [List.size_toArray, sizeLine_eq]; unfold strValues; rw [List.length_map]; omega)
end
end Mine
end

section -- text CPZ
theorem Mine.rows_off_CPZ : True := by
  k_with_none
  trivial
open PySem PySem.W PyProof.Rows
set_option Elab.async false
set_option maxRecDepth 100000
set_option maxHeartbeats 2000000
set_option linter.all false
namespace Mine
section
variable {prog : Program} {w : World} {A : Around} {E : Value → Shared → Prop} {s : Shared} {env : Env} {h₀ : Heap} {L : Addr} {elt : Expr} {body : List Stmt} {Q : Flow → Shared → Prop} {m₀ m : Str → Option Value} {news head : List (Addr × Obj)}
  {x : Str} {scope : Scope} {cl : List (Str × Addr)} {n : Nat} {f : Nat → List Str}
/-- lists of texts, built of texts -/
theorem turnSs {I : Addr} {qs : List (Str × Tok)}
    (turn : ∀ (i : Nat) c t els C oC m₂ D oI h tk (E' Z : Value → Shared → Prop), qs[i]? = some (c, t) →
      (∀ T l k h' tk', l.map (·.1) = f i → T ≠ I → T ≠ C → T ≠ D → Fr h₀ L h' m → News h₀ L h' ((T, W.listOf (strValues l).toArray k) :: (I, oI) :: (C, oC) :: (D, LCg.lst (refsOf els)) :: (head ++ (objsOf els ++ news))) → Z (.ref T) { s with heap := h', toks := tk' }) →
      LCg.NsObj oC m₂ → m₂ x = some (.str c t) → Fr h₀ L h m → News h₀ L h ((I, oI) :: (C, oC) :: (D, LCg.lst (refsOf els)) :: (head ++ (objsOf els ++ news))) →
      wpAny (model prog w) A (eval elt (compEnvC scope cl C env)) Z E' { s with heap := h, toks := tk }) {nw : List (Addr × Obj)} :
    CTurn prog w A h₀ L m env elt x [] scope cl s I nw n (fun i v => (strValues qs)[i]? = some v) (JS head news f) := by
  rintro i v ys nx C oC m₂ D oI h tk E' hi hv ⟨els, rfl, rfl, hels⟩ hoC hx hnI hID hDC off F N
  obtain ⟨c, t, rfl, hc⟩ := item_of hv
  refine wpAny_tests_nil ?_
  rw [if_pos rfl]
  exact turn i c t els C oC m₂ D oI h tk E' _ hc (fun T l k h' tk' hl a b d F' N' => js_end F' N' a b d off hels hl) hoC hx F N
/-- lists of texts, built of such lists -/
theorem turnSr {I : Addr} {es : Els} {ws : List Value} (hws : refsOf es = ws)
    (turn : ∀ (i : Nat) a l₀ k₀ els C oC m₂ D oI h tk (E' Z : Value → Shared → Prop), es[i]? = some (a, l₀, k₀) →
      (∀ T l k h' tk', l.map (·.1) = f i → T ≠ I → T ≠ C → T ≠ D → Fr h₀ L h' m → News h₀ L h' ((T, W.listOf (strValues l).toArray k) :: (I, oI) :: (C, oC) :: (D, LCg.lst (refsOf els)) :: (head ++ (objsOf els ++ news))) → Z (.ref T) { s with heap := h', toks := tk' }) →
      LCg.NsObj oC m₂ → m₂ x = some (.ref a) → Fr h₀ L h m → News h₀ L h ((I, oI) :: (C, oC) :: (D, LCg.lst (refsOf els)) :: (head ++ (objsOf els ++ news))) →
      wpAny (model prog w) A (eval elt (compEnvC scope cl C env)) Z E' { s with heap := h, toks := tk }) {nw : List (Addr × Obj)} :
    CTurn prog w A h₀ L m env elt x [] scope cl s I nw n (fun i v => ws[i]? = some v) (JS head news f) := by
  rintro i v ys nx C oC m₂ D oI h tk E' hi hv ⟨els, rfl, rfl, hels⟩ hoC hx hnI hID hDC off F N
  subst hws
  obtain ⟨a, l, k, he, rfl⟩ := ref_of hv
  refine wpAny_tests_nil ?_
  rw [if_pos rfl]
  exact turn i a l k els C oC m₂ D oI h tk E' _ he (fun T l k h' tk' hl a b d F' N' => js_end F' N' a b d off hels hl) hoC hx F N
theorem js_mem {i : Nat} {ys : List Value} {nx : List (Addr × Obj)} (h : JS head news f i ys nx) {p : Addr × Obj} (hp : p ∈ head) : p ∈ nx := by
  obtain ⟨els, _, rfl, _⟩ := h
  exact List.mem_append_left _ hp
theorem rr_asgnS {Q : Value → Shared → Prop} {y : Str} {py : Pos} {nw : List (Addr × Obj)} (hLe : env.locals = L)
    (hy : env.kindOf y = some .local) (hp : (env.scope.kind == .class || (env.scope.kind == .module && env.locals != env.globals)) = false)
    (done : ∀ D els h tk, textsOf els = (List.range n).map f → (∀ p ∈ nw, p.1 < D) → Fr h₀ L h (fun z => if z = y then some (.ref D) else m z) → News h₀ L h ((D, LCg.lst (refsOf els)) :: (head ++ (objsOf els ++ news))) → Q .none { s with heap := h, toks := tk }) :
    RRof h₀ L m s nw (JS head news f n) (compPost (model prog w) A E (some (assign (.Name y py) env)) Q) :=
  rr_asgn hLe hy hp fun D ys nx h tk ⟨els, e, e2, a⟩ hD off F N => done D els h tk a hD F (e ▸ e2 ▸ N)
/-- the texts that are kept -/
theorem turnF {I : Addr} {l : List (Str × Tok)} {c₀ : Expr}
    (turn : ∀ (i : Nat) c t cs C oC m₂ D oI h tk (E' ZY : Value → Shared → Prop) (ZN : Shared → Prop), l[i]? = some (c, t) →
      (∀ t' h' tk', keepB c = true → Fr h₀ L h' m → News h₀ L h' ((I, oI) :: (C, oC) :: (D, LCg.lst (strValues cs)) :: news) → ZY (.str c t') { s with heap := h', toks := tk' }) →
      (∀ h' tk', keepB c = false → Fr h₀ L h' m → News h₀ L h' ((I, oI) :: (C, oC) :: (D, LCg.lst (strValues cs)) :: news) → ZN { s with heap := h', toks := tk' }) →
      LCg.NsObj oC m₂ → m₂ x = some (.str c t) → (∀ p ∈ news, p.1 < I) → (@LT.lt Nat _ I D) → (@LT.lt Nat _ D C) → Fr h₀ L h m → News h₀ L h ((I, oI) :: (C, oC) :: (D, LCg.lst (strValues cs)) :: news) →
      wpAny (model prog w) A (testsOf [c₀] (compEnvC scope cl C env)) (fun ok s₃ => if ok = true then wpAny (model prog w) A (eval elt (compEnvC scope cl C env)) ZY E' s₃ else ZN s₃) E' { s with heap := h, toks := tk }) :
    CTurn prog w A h₀ L m env elt x [c₀] scope cl s I news n (fun i v => (strValues l)[i]? = some v) (JF2 news (l.map (·.1))) := by
  rintro i v ys nx C oC m₂ D oI h tk E' hi hv ⟨rfl, cs, rfl, hcs⟩ hoC hx hnI hID hDC off F N
  obtain ⟨c, t, rfl, hc⟩ := item_of hv
  exact turn i c t cs C oC m₂ D oI h tk E' _ _ hc (fun t' h' tk' hk F' N' => jf2_yes F' N' off hcs hc hk) (fun h' tk' hk F' N' => jf2_no F' N' off hcs hc hk) hoC hx hnI hID hDC F N
theorem jf_mem {led nx : List (Addr × Obj)} {Ls : List Str} {i : Nat} {ys : List Value} (h : JF2 led Ls i ys nx) {p : Addr × Obj} (hp : p ∈ led) : p ∈ nx := h.1 ▸ hp
theorem rr_noneF {Ls : List Str} {Q : Value → Shared → Prop}
    (done : ∀ D cs h tk, cs.map (·.1) = (Ls.take n).filter keepB → (∀ p ∈ news, p.1 ≠ D) → Fr h₀ L h m → News h₀ L h ((D, LCg.lst (strValues cs)) :: news) → Q (.ref D) { s with heap := h, toks := tk }) :
    RRof h₀ L m s news (JF2 news Ls n) (compPost (model prog w) A E none Q) :=
  rr_none fun D ys nx h tk ⟨e, cs, e2, a⟩ hD off F N => done D cs h tk a (e ▸ off) F (e2 ▸ e ▸ N)
end
end Mine
end

section -- text USE4
theorem Mine.rows_off_USE4 : True := by
  k_with_none
  trivial
open PySem PySem.W PyProof.Rows
set_option Elab.async false
set_option maxRecDepth 100000
set_option maxHeartbeats 1000000
set_option linter.all false
namespace Mine
section
open PySem.Calls
variable {prog : Program} {w : World} {A : Around} {E : Value → Shared → Prop} {s : Shared} {h₀ : Heap} {L d : Addr} {m : Str → Option Value} {news news' : List (Addr × Obj)} {n : Nat} {r : List (Str × Tok)} {p : Str × Tok}
theorem truthyConsT {Q : Bool → Shared → Prop} (N : News h₀ L s.heap news) (hm : (d, ({ cls := .type "tuple", data := .seq (strValues (p :: r)).toArray n } : Obj)) ∈ news) (hf : (strValues (p :: r)).toArray.size ≤ 10000000) (h : ∀ tk', Q true { s with toks := tk' }) : wpAny (model prog w) A (truthy (.ref d)) Q E s :=
  truthyT N hm hf (strs_consT _ _) h
theorem itemT0 {value slice : PySem.Expr} {u : Tok} {Q : Value → Shared → Prop} (N : News h₀ L s.heap news) (hm : (d, ({ cls := .type "tuple", data := .seq (strValues (p :: r)).toArray n } : Obj)) ∈ news) (h : Q (.str p.1 p.2) s)
    (hs : subscripted slice false (.ref d) (.int 0 u) = operate [.ref d, .int 0 u] (getItem (.ref d) (.int 0 u))) (hg : ∀ r, letTemporaryGo value (.ref d) r = pure ()) :
    wpAny (model prog w) A (subscriptTail value slice (.ref d) (.int 0 u)) Q E s :=
  itemT (its := strValues (p :: r)) (j := 0) N hm (by decide) (by decide) (seqIndex_zero (Nat.succ_pos _)) rfl h hs hg
theorem itemLx {its : Array Value} {k : Int} {u : Tok} {v : Value} {value slice : PySem.Expr} {Q : Value → Shared → Prop} (N : News h₀ L s.heap news) (hx : its[k.toNat]? = some v) (hm : (d, W.listOf its n) ∈ news) (h0 : 0 ≤ k) (h1 : k < 2 ^ 63) (h : Q v s)
    (hs : subscripted slice false (.ref d) (.int k u) = operate [.ref d, .int k u] (getItem (.ref d) (.int k u))) :
    wpAny (model prog w) A (subscriptTail value slice (.ref d) (.int k u)) Q E s := itemL N hm h0 h1 hx h hs
end
end Mine
end

section -- text LEX
theorem Mine.rows_off_LEX : True := by
  k_with_none
  trivial
open PySem PySem.W PyProof.Rows PySem.Calls
set_option Elab.async false
set_option maxRecDepth 100000
set_option maxHeartbeats 1000000
set_option linter.all false
namespace Mine
theorem strLt_irrefl (a : Str) : strLt a a = false := by
  unfold strLt; exact decide_eq_false (List.lt_irrefl _)
theorem strLt_trans {a b c : Str} (h1 : strLt a b = true) (h2 : strLt b c = true) : strLt a c = true := by
  unfold strLt at *
  exact decide_eq_true (List.lt_trans (of_decide_eq_true h1) (of_decide_eq_true h2))
theorem strLt_tri {a b : Str} (h1 : strLt a b = false) (h2 : strLt b a = false) : a = b := by
  unfold strLt at *
  have e : a.cps.toList = b.cps.toList := List.le_antisymm (of_decide_eq_false h2) (of_decide_eq_false h1)
  cases a; cases b
  simp only [Str.mk.injEq]
  exact Array.toList_inj.mp e
theorem lexGt_eq : ∀ x y, lexGt x y = lexLt y x
  | [], [] => rfl
  | [], _ :: _ => rfl
  | _ :: _, [] => rfl
  | a :: x, b :: y => by
    unfold lexGt lexLt
    by_cases e : a = b
    · subst e
      simp only [beq_self_eq_true, if_true]
      exact lexGt_eq x y
    · rw [if_neg (by simpa using e), if_neg (by simpa using Ne.symm e)]
theorem lexLt_irrefl : ∀ x, lexLt x x = false
  | [] => rfl
  | a :: x => by unfold lexLt; simp only [beq_self_eq_true, if_true]; exact lexLt_irrefl x
theorem lexLt_trans : ∀ {x y z}, lexLt x y = true → lexLt y z = true → lexLt x z = true
  | [], [], _, h1, _ => by cases h1
  | [], _ :: _, [], _, h2 => by cases h2
  | [], _ :: _, _ :: _, _, _ => rfl
  | _ :: _, [], _, h1, _ => by cases h1
  | _ :: _, _ :: _, [], _, h2 => by cases h2
  | a :: x, b :: y, c :: z, h1, h2 => by
    unfold lexLt at *
    by_cases e1 : a = b
    · subst e1
      simp only [beq_self_eq_true, if_true] at h1
      by_cases e2 : a = c
      · subst e2
        simp only [beq_self_eq_true, if_true] at h2 ⊢
        exact lexLt_trans h1 h2
      · rw [if_neg (by simpa using e2)] at h2 ⊢
        exact h2
    · rw [if_neg (by simpa using e1)] at h1
      by_cases e2 : b = c
      · subst e2
        rw [if_neg (by simpa using e1)]; exact h1
      · rw [if_neg (by simpa using e2)] at h2
        have h3 := strLt_trans h1 h2
        rw [if_neg, h3]
        intro e
        rw [beq_iff_eq.mp e, strLt_irrefl] at h3
        cases h3
/-- the least place of a strict order -/
theorem best_is {bt : Nat → Nat → Bool} (hi : ∀ i, bt i i = false) (ht : ∀ i j k, bt i j = true → bt j k = true → bt i k = true) : ∀ k j, j ≤ k → bt j (argBest bt k) = false
  | 0, j, h => by
    obtain rfl : j = 0 := by omega
    exact hi 0
  | k + 1, j, h => by
    unfold argBest
    split
    · rename_i hb
      by_cases e : j = k + 1
      · rw [e]; exact hi _
      · have h1 := best_is hi ht k j (by omega)
        cases h2 : bt j (k + 1) with
        | false => rfl
        | true => rw [ht _ _ _ h2 hb] at h1; cases h1
    · rename_i hb
      by_cases e : j = k + 1
      · rw [e]; simpa using hb
      · exact best_is hi ht k j (by omega)
theorem best_le {bt : Nat → Nat → Bool} : ∀ k, argBest bt k ≤ k
  | 0 => Nat.le_refl _
  | k + 1 => by
    unfold argBest
    split
    · exact Nat.le_refl _
    · exact Nat.le_succ_of_le (best_le k)
noncomputable def minAt (T : Nat → List Str) (k : Nat) : Nat := argBest (fun i j => lexLt (T i) (T j)) k
noncomputable def maxAt (T : Nat → List Str) (k : Nat) : Nat := argBest (fun i j => lexGt (T i) (T j)) k
theorem minAt_is (T : Nat → List Str) (k j : Nat) (h : j ≤ k) : lexLt (T j) (T (minAt T k)) = false :=
  best_is (bt := fun i j => lexLt (T i) (T j)) (fun _ => lexLt_irrefl _) (fun _ _ _ => lexLt_trans) k j h
theorem maxAt_is (T : Nat → List Str) (k j : Nat) (h : j ≤ k) : lexLt (T (maxAt T k)) (T j) = false := by
  have := best_is (bt := fun i j => lexGt (T i) (T j)) (fun i => by rw [lexGt_eq]; exact lexLt_irrefl _) (fun i j k a b => by rw [lexGt_eq] at *; exact lexLt_trans b a) k j h
  rwa [lexGt_eq] at this
noncomputable def lcp : List Str → List Str → List Str
  | a :: x, b :: y => if (a == b) = true then a :: lcp x y else []
  | _, _ => []
theorem lex_room : ∀ (i : Nat) {x y : List Str}, lexLt y x = false → x.take i = y.take i → i < x.length → i < y.length
  | _, [], _, _, _, h => by simp at h
  | _, _ :: _, [], h, _, _ => by cases h
  | 0, _ :: _, _ :: _, _, _, _ => by simp
  | i + 1, a :: x, b :: y, h, ht, hl => by
    rw [List.take_succ_cons, List.take_succ_cons, List.cons.injEq] at ht
    obtain ⟨rfl, ht⟩ := ht
    unfold lexLt at h
    simp only [beq_self_eq_true, if_true] at h
    have := lex_room i h ht (by simpa using hl)
    simpa using this
theorem lcp_break : ∀ (i : Nat) {x y : List Str} {c d : Str}, x.take i = y.take i → x[i]? = some c → y[i]? = some d → c ≠ d → lcp x y = x.take i
  | _, [], _, _, _, _, h, _, _ => by simp at h
  | _, _ :: _, [], _, _, _, _, h, _ => by simp at h
  | 0, a :: x, b :: y, c, d, _, h1, h2, hn => by
    simp at h1 h2
    subst h1 h2
    unfold lcp
    rw [if_neg (by simpa using hn)]; rfl
  | i + 1, a :: x, b :: y, c, d, ht, h1, h2, hn => by
    rw [List.take_succ_cons, List.take_succ_cons, List.cons.injEq] at ht
    obtain ⟨rfl, ht⟩ := ht
    unfold lcp
    simp only [beq_self_eq_true, if_true]
    rw [List.take_succ_cons, lcp_break i ht (by simpa using h1) (by simpa using h2) hn]
theorem lcp_full : ∀ {x y : List Str}, x.take x.length = y.take x.length → lcp x y = x
  | [], [], _ => rfl
  | [], _ :: _, _ => rfl
  | _ :: _, [], h => by simp at h
  | a :: x, b :: y, h => by
    rw [List.length_cons, List.take_succ_cons, List.take_succ_cons, List.cons.injEq] at h
    obtain ⟨rfl, h⟩ := h
    unfold lcp
    simp only [beq_self_eq_true, if_true]
    rw [lcp_full h]
theorem lcp_between : ∀ {x y z : List Str}, lexLt z x = false → lexLt y z = false → ∃ r, z = lcp x y ++ r
  | [], _, z, _, _ => ⟨z, rfl⟩
  | _ :: _, [], z, _, _ => ⟨z, rfl⟩
  | a :: x, b :: y, z, h1, h2 => by
    unfold lcp
    by_cases e : a = b
    · subst e
      simp only [beq_self_eq_true, if_true]
      cases z with
      | nil => cases h1
      | cons c z =>
        unfold lexLt at h1 h2
        by_cases e : a = c
        · subst e
          simp only [beq_self_eq_true, if_true] at h1 h2
          obtain ⟨r, hr⟩ := lcp_between h1 h2
          exact ⟨r, by rw [hr]; rfl⟩
        · rw [if_neg (by simpa using Ne.symm e)] at h1
          rw [if_neg (by simpa using e)] at h2
          exact absurd (strLt_tri h2 h1) e
    · rw [if_neg (by simpa using e)]
      exact ⟨z, rfl⟩
theorem lcp_long : ∀ (q : Nat) {x y : List Str}, x.take q = y.take q → q ≤ x.length → q ≤ (lcp x y).length
  | 0, _, _, _, _ => Nat.zero_le _
  | q + 1, [], _, _, h => by simp at h
  | q + 1, a :: x, [], h, _ => by simp at h
  | q + 1, a :: x, b :: y, h, hl => by
    rw [List.take_succ_cons, List.take_succ_cons, List.cons.injEq] at h
    obtain ⟨rfl, h⟩ := h
    unfold lcp
    simp only [beq_self_eq_true, if_true, List.length_cons]
    have := lcp_long q h (by simpa using hl)
    omega
/-- what commonpath makes of the paths' parts -/
noncomputable def comOf (Ts : List (List Str)) : List Str := lcp (Ts.getD (minAt (fun i => Ts.getD i []) (Ts.length - 1)) []) (Ts.getD (maxAt (fun i => Ts.getD i []) (Ts.length - 1)) [])
end Mine
end

section -- text FN9
theorem Mine.rows_off_FN9 : True := by
  k_with_none
  trivial
open PySem PySem.W PyProof.Rows
set_option Elab.async false
set_option maxRecDepth 100000
set_option maxHeartbeats 8000000
set_option linter.all false
namespace Mine
theorem lines_FN9_1 : True := by
  k_with_none
  k_with "my_steps" => repeat' ((fail_if_success (with_reducible show wpAny _ _ (pyIter _) _ _ _)); first | (k_unfold; (try dsimp only)) | (k_end; kc_close) | walk1 | (dsimp only; walk1) | (leave1; walk_say "STEP leave1"; (try dsimp only)) | fail "no step")
  k_with "call ref" => (k_here; (with_reducible show wpAny _ _ (call (Value.ref _) _) _ _ _); refine wpAny_call ?_; k_dflt (refine code_def (by k_asm) (by k_asm) (by k_asm) (by k_asm) (by k_asm) (by exact rfl) (by exact rfl) (by first | exact rfl | assumption) (by k_is) (by k_is) (by ktr_room) (by exact BindsTo.of_eq rfl) (by exact locs rfl) ?_ (by exact rfl) (by exact rfl) (by exact rfl) (by decide); k_whole; intro _ _ _ _ _ _ zB _ _; (try dsimp only); (try k_lift zB); (try k_fold)))
  k_with "call ref" => (k_here; (with_reducible show wpAny _ _ (call (Value.ref 135) [Value.str _ _]) _ _ _); k_dflt (refine use_cl2 (by k_asm) (by k_asm) (by k_asm) (by k_asm) (by k_asm) (by first | exact rfl | assumption) (by ktr_room) (by ktr_units) (fspath_spec _ _ _ _ _ _ _ _) ?_; k_whole); intro _ _ _ _ _; (try dsimp only); (try k_fold))
  k_with "call ref" => (k_here; (with_reducible show wpAny _ _ (call (Value.ref 149) [Value.str _ _]) _ _ _); k_dflt (refine use_cl2 (by k_asm) (by k_asm) (by k_asm) (by k_asm) (by k_asm) (by first | exact rfl | assumption) (by ktr_room) (by ktr_units) (getsep_spec _ _ _ _ _ _ _ _) ?_; k_whole); intro _ _ _ _ _; (try dsimp only); (try k_fold))
  k_with "call ref" => (k_here; (with_reducible show wpAny _ _ (call (Value.ref 182) [Value.int _ _]) _ _ _); k_dflt (refine use_cl2 (by k_asm) (by k_asm) (by k_asm) (by k_asm) (by k_asm) (by first | exact rfl | assumption) (by ktr_room) (by ktr_units) (ifmt_spec _ _ _ _ _ _ _ _) ?_; k_whole); intro _ _ _ _ _; (try dsimp only); (try k_fold))
  k_with "call ref" => (k_here; (with_reducible show wpAny _ _ (call (Value.ref 163) [Value.str _ _]) _ _ _); k_dflt (refine use_cn2 (by k_asm) (by k_asm) (by k_asm) (by k_asm) (by k_asm) (by first | exact rfl | assumption) (by ktr_room) (by ktr_units) (splitroot_spec _ _ _ _ _ _ _ _ (by first | assumption | omega)) ?_; k_whole); intro _ _ _ _ zP zl1 _ _; (try k_lt zl1); (try dsimp only); (obtain ⟨hre, t1, t2, t3, e'⟩ := zP); subst e'; (try k_fold))
  k_with "call builtin:str.join" => (k_here; (with_reducible show wpAny _ _ (call (Value.builtin _) [Value.str _ _, Value.ref _]) _ _ _); k_dflt (refine joinN (by k_asm) (by k_mem) (by assumption) ?_; k_whole); intro _ _; (try k_fold))
  k_with "call type:map" => (k_here; k_dflt (refine mapK (by k_asm) (by k_asm) (by (repeat (first | assumption | apply List.Mem.tail))) ?_; k_whole); intro _ _ zl1 _ _; have l1' := zl1; (try k_lt zl1); (try k_fold))
  k_with "call type:tuple" => (k_here; k_dflt (refine tupMapK (fun _ _ _ => fspath_spec _ _ _ _ _ _ _ _) (by k_asm) (by k_asm) (by k_asm) (by k_asm) (by k_asm) (by first | exact rfl | assumption) (by ktr_room) (by ktr_units) (by (repeat (first | assumption | apply List.Mem.tail))) (by omega) (by exact ne_of_lts (by assumption)) ?_; k_whole); intro _ _ _ _ _ zl2 _ _; (try k_lt zl2); (try dsimp only); (try k_fold))
  k_with "exec Try" => (k_here; (with_reducible show wpAny _ _ (exec (Stmt.Try _ (_ :: _) _ [] _) _) _ _ _); refine wpAny_Try_except (wpAny_noRaise ?_))
  k_with "k_all" => first | assumption | exact ne_of_lts (by assumption)
  k_with "truthy ref" => (k_here; k_dflt (refine truthyConsT (by k_asm) (by k_mem) (by (first | assumption | (simp [strValues]; omega))) ?_; k_whole); intro _)
  k_with "subscriptTail" => (k_here; (with_reducible show wpAny _ _ (subscriptTail _ _ (Value.ref _) (Value.int 0 _)) _ _ _); k_dflt (refine itemT0 (by k_asm) (by k_mem) ?_ (by with_unfolding_all rfl) (by intro _; with_unfolding_all rfl); k_whole))
  k_with "exec Assign cons ListComp" => (k_here; k_dflt (refine Assign_at (by with_unfolding_all rfl) (by with_unfolding_all rfl) (by rfl) (by decide) ?_))
  k_with "eval ListComp" => (k_here; k_dflt (refine ListComp_at (by with_unfolding_all rfl) (by rfl) (by decide) ?_))
  k_with "call builtin:min" => (k_here; (with_reducible show wpAny _ _ (call (Value.builtin _) [Value.ref _]) _ _ _); k_dflt (refine minK (by k_asm) (by k_asm) (by assumption) (by assumption) (by rfl) (by ktr_units) (by assumption) ?_; k_whole); intro _ _ _ _ _ _ _ _)
  k_with "call builtin:max" => (k_here; (with_reducible show wpAny _ _ (call (Value.builtin _) [Value.ref _]) _ _ _); k_dflt (refine maxK (by k_asm) (by k_asm) (by assumption) (by assumption) (by rfl) (by ktr_units) (by assumption) ?_; k_whole); intro _ _ _ _ _ _ _ _)
  k_with "exec For Tuple Call cons nil" => (k_here; (rename Fr _ _ _ _ => zlF); with_unfolding_all refine' W.For_turns zlF ?_)
  k_with "exec For Tuple Call" => (k_here; (rename Fr _ _ _ _ => zlF); with_unfolding_all refine' W.For_turns zlF ?_)
  k_with "subscriptTail" => (k_here; (with_reducible show wpAny _ _ (subscriptTail _ _ (Value.ref _) (Value.int _ _)) _ _ _); k_dflt (refine itemLx (by k_asm) (by assumption) (by (repeat (first | assumption | apply List.Mem.tail))) (by omega) (by omega) ?_ (by with_unfolding_all rfl); k_whole))
  k_with "subscriptTail Name Slice ref ref" => (k_here; (with_reducible show wpAny _ _ (subscriptTail _ (PySem.Expr.Slice none (some _) none _) (Value.ref _) (Value.ref _)) _ _ _); k_dflt (refine sliceK (by k_asm) (by k_asm) (by (repeat (first | assumption | apply List.Mem.tail))) (by exact IsPart.int _ _) ?_ (by with_unfolding_all rfl) (by kmk_pure) (by omega); k_whole); intro _ _ _ _ zl1; (try k_lt zl1); (try k_fold))
  k_with "call builtin:str.join" => (k_here; (with_reducible show wpAny _ _ (call (Value.builtin _) [Value.str _ _, Value.ref _]) _ _ _); k_dflt (refine joinN (by k_asm) (by (repeat (first | assumption | apply List.Mem.head | apply List.Mem.tail))) (by assumption) ?_; k_whole); intro _ _; (try k_fold))
  trivial
theorem wsum_filter (p : Str → Bool) : ∀ L : List Str, wsum (L.filter p) ≤ wsum L
  | [] => Nat.le_refl _
  | x :: r => by
    have := wsum_filter p r
    cases e : p x with
    | true => rw [List.filter_cons_of_pos e, wsum_cons, wsum_cons]; omega
    | false => rw [List.filter_cons_of_neg (by rw [e]; exact Bool.false_ne_true), wsum_cons]; omega
theorem els8_w {els els8 : Els} {i k k2 : Nat} {a : Addr} {l : List (Str × Tok)} {n : Nat} {g : Nat → Str} (h : els8[i]? = some (a, l, n)) (he8 : textsOf els8 = (List.range k2).map fun i => ((textsOf els).getD i []).filter keepB) (he : textsOf els = (List.range k).map fun i => Txt.split (g i) (Str.ofString "/")) (hg : ∀ i, (g i).length ≤ 200) :
    wsum (l.map (·.1)) ≤ 201 := by
  have h1 : l.map (·.1) ∈ textsOf els8 := List.mem_map.mpr ⟨(a, l, n), List.mem_of_getElem? h, rfl⟩
  rw [he8] at h1
  obtain ⟨j, _, e⟩ := List.mem_map.mp h1
  rw [← e]
  refine Nat.le_trans (wsum_filter _ _) ?_
  rw [he, List.getD_eq_getElem?_getD, List.getElem?_map]
  cases e2 : (List.range k)[j]? with
  | none => exact Nat.zero_le _
  | some q =>
    have := split_weight (g q) (Str.ofString "/") (by decide +kernel)
    have hw : ∀ L : List Str, wsum L = (L.map (·.length)).sum + L.length := by
      intro L
      induction L with
      | nil => rfl
      | cons x r ih => rw [wsum_cons, List.map_cons, List.sum_cons, List.length_cons]; omega
    show wsum (Txt.split (g q) _) ≤ 201
    rw [hw]
    have := hg q
    omega
theorem wsum_len (L : List Str) : L.length ≤ wsum L := by
  induction L with
  | nil => exact Nat.zero_le _
  | cons x r ih => rw [wsum_cons, List.length_cons]; omega
theorem wsum_mem {L : List Str} {x : Str} (h : x ∈ L) : x.length ≤ wsum L := by
  induction L with
  | nil => cases h
  | cons y r ih =>
    rw [wsum_cons]
    rcases List.mem_cons.mp h with rfl | h
    · omega
    · have := ih h; omega
/-- what holds between the turns of commonpath's last loop -/
noncomputable def JC (m₀ : Str → Option Value) (news : List (Addr × Obj)) (l1 l2 : List Str) (i : Nat) (m : Str → Option Value) (nx : List (Addr × Obj)) : Prop :=
  (∀ y, y ∉ [Str.ofString "i", Str.ofString "c"] → m y = m₀ y) ∧ nx = news ∧ l1.take i = l2.take i
theorem take_same {l1 l2 : List (Str × Tok)} {i : Nat} {c d : Str} {t u : Tok} (h : (l1.map (·.1)).take i = (l2.map (·.1)).take i) (h1 : l1[i]? = some (c, t)) (h2 : l2[i]? = some (d, u)) (e : c = d) : (l1.map (·.1)).take (i + 1) = (l2.map (·.1)).take (i + 1) := by
  rw [List.take_add_one, List.take_add_one, h, List.getElem?_map, List.getElem?_map, h1, h2, e]; rfl
theorem cp_y2 {y : Str} (h : y ∉ [Str.ofString "i", Str.ofString "c"]) : y ≠ Str.ofString "i" ∧ y ≠ Str.ofString "c" := by simpa using h
theorem ne_of_bne {c d : Str} (h : (c != d) = false) : c = d := by simpa using h
theorem ne_of_bne' {c d : Str} (h : (c != d) = true) : c ≠ d := by simpa using h
theorem getD_range {α : Type} (L : List α) (d : α) : (List.range L.length).map (fun i => L.getD i d) = L := by
  apply List.ext_getElem (by simp)
  intro i h1 h2
  simp [List.getElem?_eq_getElem h2]
theorem range_map {α β : Type} (L : List α) (d : α) (f : α → β) {n : Nat} (hn : n = L.length) : (List.range n).map (fun i => f (L.getD i d)) = L.map f := by
  subst hn
  have h := congrArg (List.map f) (getD_range L d)
  rw [List.map_map] at h
  exact h
noncomputable def cpText (b : Bool) (Ts : List (List Str)) : Str := (if b then Str.ofString "/" else Str.ofString "") ++ Txt.join (Str.ofString "/") (comOf Ts)
theorem cpX1 {b : Bool} (h : b = true) : Str.ofString "/" = if b then Str.ofString "/" else Str.ofString "" := by rw [h]; rfl
theorem cpX0 {b : Bool} (h : b = false) : Str.ofString "" = if b then Str.ofString "/" else Str.ofString "" := by rw [h]; rfl
theorem cp_end {b : Bool} {Ts : List (List Str)} {X : Str} {l1 l2 l : List Str} (hX : X = if b then Str.ofString "/" else Str.ofString "") (hc : comOf Ts = lcp l1 l2) (h : lcp l1 l2 = l) : X ++ Txt.join (Str.ofString "/") l = cpText b Ts := by
  unfold cpText; rw [hX, hc, h]
theorem map_get {l : List (Str × Tok)} {i : Nat} {c : Str} {t : Tok} (h : l[i]? = some (c, t)) : (l.map (·.1))[i]? = some c := by rw [List.getElem?_map, h]; rfl
set_option maxHeartbeats 2000000 in
theorem cp_spec (w : World) (loose : List Str) (mean : ExcName → Option Value) (mg mb : Str → Option Value) (news : List (Addr × Obj)) (P : Addr) (bl : List (Str × Tok)) (n : Nat) (hP : (P, W.listOf (strValues bl).toArray n) ∈ news) (hb0 : 1 ≤ bl.length) (hb1 : bl.length ≤ 3) (hbz : ∀ p ∈ bl, p.1.length ≤ 200) (b : Bool) (hab : ∀ p ∈ bl, Txt.startswith p.1 (Str.ofString "/") = b) :
    Cl 3 w loose mean mg mb 175 news [.ref P] (fun t => .str (cpText b ((bl.map (·.1)).map partsOf)) t) := by
  dsimp only [Cl, CbRet]; k_fill; intros; rename_i hret
  refine wpAny_call ?_
  k_dflt (refine' code_defC ?k1 ?k2 ?k3 ?k4 ?k5 ?kA ?kF ?kK ?k6 ?k7 ?k8 ?k9 ?kB ?kD ?_ ?c2 ?c3 ?c4; (case kA => exact rfl); (case kF => exact rfl); (case kK => first | exact rfl | assumption); (case k1 => k_asm); (case k2 => k_asm); (case k3 => k_asm); (case k4 => k_asm); (case k5 => k_asm); (case k6 => k_is); (case k7 => k_is); (case k8 => ktr_room); (case k9 => exact BindsTo.of_eq rfl); (case kB => exact rfl); (case kD => decide +kernel); (case c2 => exact rfl); (case c3 => exact rfl); (case c4 => exact rfl); k_whole; intro g' L' h' tk' cells' FG' F' N' Y' B' X' T' l1; have l1a := lts_succ l1; have l1b := lts_succ l1a; have l1c := lts_succ l1b; have l1d := lts_succ l1c; (try k_lt l1); k_cells Y'; (try simp only [List.cons_append, List.nil_append] at N'); (try dsimp only); (try k_lift B'); (try k_fold))
  walk_at "my_steps"
  rename List.map _ _ = List.map _ _ => hbl
  rename List (Str × Tok) => bl2
  have hbn : bl2.length = bl.length := by have := congrArg List.length hbl; rw [List.length_map, List.length_map] at this; exact this
  obtain ⟨⟨c0, t0⟩, rs, rfl⟩ : ∃ p r, bl2 = p :: r := by
    cases bl2 with
    | nil => rw [← hbn] at hb0; simp at hb0
    | cons p r => exact ⟨p, r, rfl⟩
  have hz1 : (strValues ((c0, t0) :: rs)).toArray.size ≤ 10000000 := by simp [strValues]; simp at hbn; omega
  (try dsimp only)
  walk_at "my_steps"
  (rename Fr _ _ _ _ => lF'); (rename News _ _ _ _ => lN')
  have hsl : (strValues ((c0, t0) :: rs)).length ≤ 3 := by simp [strValues]; simp at hbn; omega
  (with_unfolding_all refine' comp_tup (vs := strValues ((c0, t0) :: rs)) (JS [_, _, _] news fun i => Txt.split ((((c0, t0) :: rs).map (·.1)).getD i Str.empty) (Str.ofString "/")) rfl lF' lN' (.head _) (by rw [sizeLine_eq]; omega) (by decide) rfl (by rfl) ⟨[], rfl, rfl, rfl⟩ ?jj (fun I9 => turnSs ?turn) (rr_asgnS ?a1 ?a2 ?a3 ?done))
  case a1 => exact rfl
  case a2 => exact rfl
  case a3 => exact rfl
  case jj => exact fun i ys nx h => js_mem h (.head _)
  case turn =>
    intro i c t els C oC m₂ D oI h1 tk1 E' Z hc hZ hoC hx F1 N1
    have hcl : c.length ≤ 200 := len_of hbl hbz hc
    dsimp only [List.cons_append, List.nil_append] at N1 hZ
    have hne := news_ne_size N1
    generalize hnw : objsOf els ++ news = nw at N1 hZ
    generalize hys : refsOf els = ys at N1 hZ
    walk_at "my_steps"
    (rename News _ _ _ _ => lN)
    exact hZ _ _ _ _ _ (by rw [getD_of hc]; assumption) (Ne.symm (hne _ (.head _))) (Ne.symm (hne _ (.tail _ (.head _)))) (Ne.symm (hne _ (.tail _ (.tail _ (.head _))))) (by assumption) lN
  case done =>
    intro D2 els h2 tk2 hels hD2 F2 N2
    dsimp only [List.cons_append, List.nil_append] at N2
    generalize hnw : objsOf els ++ news = nw at N2
    generalize hys : refsOf els = ys at N2
    clear lF' lN'
    try dsimp only
    walk_at "my_steps"
    (rename Fr _ _ _ _ => lF'); (rename News _ _ _ _ => lN')
    (with_unfolding_all refine' SetComp_at (vs := strValues ((c0, t0) :: rs)) b lF' lN' (.tail _ (.head _)) ?s1 ?s2 ?s3 ?s4 ?s5 rfl ?s6 ?s7)
    case s1 => with_unfolding_all rfl
    case s2 => decide
    case s3 => rfl
    case s4 => decide
    case s5 => rfl
    case s6 => exact Nat.succ_pos _
    case s7 =>
      walk_at "my_steps"
      unfold SetAt
      refine ⟨rfl, (by assumption), (by assumption), (.tail _ (.head _)), ?sturn, ?sdone⟩
      case sturn =>
        intro i v C oC m₂ D oD I oI h1 tk1 E' hi hv hoC hx F1 N1
        obtain ⟨c, t, rfl, hc⟩ := item_of hv
        have hcl : c.length ≤ 200 := len_of hbl hbz hc
        have hcb : Txt.startswith c (Str.ofString "/") = b := abs_of hbl hab hc
        walk_at "my_steps"
        refine ⟨congrArg Value.bool hcb, _, _, rfl, by assumption, by assumption⟩
      case sdone =>
        intro D3 h3 tk3 hD3 F3 N3
        (try dsimp only)
        walk_at "my_steps"
        (rename Fr _ _ _ _ => lF'); (rename News _ _ _ _ => lN')
        (with_unfolding_all refine' assign_set rfl lF' lN' (.head _) rfl rfl ?_)
        intro h4 tk4 F4 N4
        (try dsimp only)
        walk_at "my_steps"
        (rename Fr _ _ _ _ => lF'); (rename News _ _ _ _ => lN')
        have hel : els.length ≤ 3 := by
          have := congrArg List.length hels
          simp only [textsOf, List.length_map, List.length_range] at this
          omega
        have hysl : ys.length ≤ 3 := by rw [← hys]; unfold refsOf; rw [List.length_map]; exact hel
        have hgl : ∀ i, ((((c0, t0) :: rs).map (·.1)).getD i Str.empty).length ≤ 200 := getD_len hbl hbz
        have hobj : ∀ {i a l n}, els[i]? = some (a, l, n) → (a, W.listOf (strValues l).toArray n) ∈ nw := fun h => hnw ▸ obj_of h
        (with_unfolding_all refine' comp_lst (vs := ys) (JS [_, _, _, _, _] nw fun i => ((textsOf els).getD i []).filter keepB) rfl lF' lN' (.tail _ (.head _)) (by rw [sizeLine_eq]; omega) (by decide) rfl (by rfl) ⟨[], rfl, rfl, rfl⟩ ?jj (fun I9 => turnSr hys ?turn) (rr_asgnS ?a1 ?a2 ?a3 ?done))
        case a1 => exact rfl
        case a2 => exact rfl
        case a3 => exact rfl
        case jj => exact fun i ys nx h => js_mem h (.tail _ (.head _))
        case turn =>
          intro i a5 l5 n5 els2 C oC m₂ D oI h1 tk1 E' Z he5 hZ hoC hx F1 N1
          have hm5 := hobj he5
          have hl5 := els_len he5 hels hgl
          have hls5 : (strValues l5).length ≤ 201 := by unfold strValues; rw [List.length_map]; exact hl5.1
          dsimp only [List.cons_append, List.nil_append] at N1 hZ
          have hne := news_ne_size N1
          generalize hnw2 : objsOf els2 ++ nw = nw2 at N1 hZ
          have hm6 : (a5, W.listOf (strValues l5).toArray n5) ∈ nw2 := hnw2 ▸ List.mem_append_right _ hm5
          generalize hzs : refsOf els2 = zs at N1 hZ
          walk_at "my_steps"
          (rename Fr _ _ _ _ => lF2); (rename News _ _ _ _ => lN2)
          (with_unfolding_all refine' comp_lst (vs := strValues l5) (JF2 _ (l5.map (·.1))) rfl lF2 lN2 (by repeat (first | exact hm6 | apply List.Mem.tail)) (by rw [sizeLine_eq]; omega) (by decide) rfl (by rfl) ⟨rfl, [], rfl, rfl⟩ ?jj2 (fun I2 => turnF ?turn2) (rr_noneF ?done2))
          case jj2 => exact fun i ys nx h => jf_mem h (by repeat (first | exact hm6 | apply List.Mem.tail))
          case turn2 =>
            intro i2 c t cs C2 oC2 m3 D6 oI2 h2 tk2 E2 ZY ZN hc hZY hZN hoC2 hx2 hnI2 hID2 hDC2 F2 N2
            have hcl : c.length ≤ 201 := hl5.2 c (List.mem_map.mpr ⟨_, List.mem_of_getElem? hc, rfl⟩)
            refine wpAny_tests_one ?_
            walk_at "my_steps"
            all_goals first
              | exact hZY _ _ _ (by first | exact keep_yes (by assumption) (by assumption) | exact keep_yes' (by assumption) (by assumption)) (by assumption) (by assumption)
              | exact hZN _ _ (by first | exact keep_no1 (by assumption) | exact keep_no2 (by assumption) | exact keep_no2' (by assumption)) (by assumption) (by assumption)
          case done2 =>
            intro D7 cs7 h7 tk7 hcs7 off7 F7 N7
            (try dsimp only)
            have hcs8 : cs7.map (·.1) = ((textsOf els).getD i []).filter keepB := by
              rw [hcs7, text_of he5, List.take_of_length_le]
              unfold strValues; rw [List.length_map, List.length_map]; exact Nat.le_refl _
            exact hZ _ _ _ _ _ hcs8 (Ne.symm (off7 _ (.head _))) (Ne.symm (off7 _ (.tail _ (.head _)))) (Ne.symm (off7 _ (.tail _ (.tail _ (.head _))))) (by assumption) N7
        case done =>
          intro D8 els8 h8 tk8 hels8 hD8 F8 N8
          dsimp only [List.cons_append, List.nil_append] at N8
          have hel8 : els8.length = ys.length := by
            have := congrArg List.length hels8
            simp only [textsOf, List.length_map, List.length_range] at this
            exact this
          have hel9 : els.length = ((c0, t0) :: rs).length := by
            have := congrArg List.length hels
            simp only [textsOf, List.length_map, List.length_range] at this
            rw [this]; unfold strValues; rw [List.length_map]
          have hys9 : ys.length = els.length := by rw [← hys]; unfold refsOf; rw [List.length_map]
          have hpos : 0 < els8.length := by rw [hel8, hys9, hel9]; exact Nat.succ_pos _
          have hob8 : ∀ e ∈ els8, (e.1, W.listOf (strValues e.2.1).toArray e.2.2) ∈ objsOf els8 ++ nw := fun e he => mem_objs he
          generalize hnw8 : objsOf els8 ++ nw = nw8 at N8 hob8
          have hob9 : ∀ (x1 x2 x3 x4 x5 x6 : Addr × Obj), ∀ e ∈ els8, (e.1, W.listOf (strValues e.2.1).toArray e.2.2) ∈ x1 :: x2 :: x3 :: x4 :: x5 :: x6 :: nw8 := fun _ _ _ _ _ _ e he => .tail _ (.tail _ (.tail _ (.tail _ (.tail _ (.tail _ (hob8 e he))))))
          try dsimp only
          walk_at "my_steps"
          (rename Fr _ _ _ _ => lF'); (rename News _ _ _ _ => lN')
          (with_unfolding_all refine' minK lF' lN' (.head _) (hob9 _ _ _ _ _ _) rfl ?u1 hpos ?_)
          case u1 => ktr_units
          intro a1 l1' n1 h9 tk9 he1 F9 N9
          try dsimp only
          walk_at "my_steps"
          (rename Fr _ _ _ _ => lF'); (rename News _ _ _ _ => lN')
          (with_unfolding_all refine' maxK lF' lN' (.head _) (hob9 _ _ _ _ _ _) rfl ?u2 hpos ?_)
          case u2 => ktr_units
          intro a2 l2' n2 h10 tk10 he2 F10 N10
          try dsimp only
          have hg1 := text_of he1
          have hg2 := text_of he2
          have hlex : lexLt (l2'.map (·.1)) (l1'.map (·.1)) = false := by
            rw [← hg1, ← hg2]
            exact maxAt_is (txt els8) (els8.length - 1) _ (best_le _)
          have hw1 := els8_w he1 hels8 hels hgl
          have hw2 := els8_w he2 hels8 hels hgl
          have hn1 : l1'.length ≤ 201 := by have := wsum_len (l1'.map (·.1)); rw [List.length_map] at this; omega
          have hm1 : (a1, W.listOf (strValues l1').toArray n1) ∈ nw8 := hob8 _ (List.mem_of_getElem? he1)
          have hm2 : (a2, W.listOf (strValues l2').toArray n2) ∈ nw8 := hob8 _ (List.mem_of_getElem? he2)
          have hcom : comOf (textsOf els8) = lcp (l1'.map (·.1)) (l2'.map (·.1)) := by
            unfold comOf
            rw [← hg1, ← hg2]
            have e : (textsOf els8).length = els8.length := by unfold textsOf; rw [List.length_map]
            rw [e]; rfl
          have hTs : textsOf els8 = (bl.map (·.1)).map partsOf := by
            have e1 : textsOf els = (bl.map (·.1)).map fun x => Txt.split x (Str.ofString "/") := by
              rw [hels, hbl]
              exact range_map (n := (strValues ((c0, t0) :: rs)).length) (bl.map (·.1)) Str.empty (fun x => Txt.split x (Str.ofString "/")) (by unfold strValues; rw [List.length_map, List.length_map]; exact hbn)
            rw [hels8]
            refine (range_map (n := ys.length) (textsOf els) [] (fun x => x.filter keepB) (by rw [hys9]; unfold textsOf; rw [List.length_map])).trans ?_
            rw [e1, List.map_map]; rfl
          have hsub8 : ∀ p ∈ news, p ∈ nw8 := fun p hp => hnw8 ▸ List.mem_append_right _ (hnw ▸ List.mem_append_right _ hp)
          have hsl1 : ((strValues l1').toArray.size : Nat) = l1'.length := by simp [strValues]
          walk_at "my_steps"
          (rename Fr _ _ _ _ => lF'); (rename News _ _ _ _ => lN')
          (with_unfolding_all refine' turns_enumL (JC _ _ (l1'.map (·.1)) (l2'.map (·.1))) rfl lF' lN' (by repeat (first | exact hm1 | apply List.Mem.tail)) ⟨fun _ _ => rfl, rfl, rfl⟩ ?jc ?tc ?dc)
          case jc =>
            rintro i m nx ⟨_, rfl, _⟩
            exact ⟨rfl, by repeat (first | exact hm1 | apply List.Mem.tail)⟩
          case tc =>
            rintro i v x t T m₁ nx h11 tk11 I oE oI hI hx rfl hTu ⟨hm, rfl, htake⟩ F11 N11
            obtain ⟨c, tc, rfl, hc⟩ := strs_at hx
            rw [ov2 hm] at F11
            have hi1 : i < l1'.length := (List.getElem?_eq_some_iff.mp hc).1
            have hi2 : i < l2'.length := by
              have := lex_room i hlex htake (by rw [List.length_map]; exact hi1)
              rwa [List.length_map] at this
            obtain ⟨⟨d, td⟩, hd⟩ : ∃ p, l2'[i]? = some p := ⟨l2'[i], List.getElem?_eq_getElem hi2⟩
            have hx2 : (strValues l2').toArray[((i : Nat) : Int).toNat]? = some (.str d td) := by simp [strValues, hd]
            have hcl : c.length ≤ 201 := Nat.le_trans (wsum_mem (List.mem_map.mpr ⟨_, List.mem_of_getElem? hc, rfl⟩)) hw1
            have hdl : d.length ≤ 201 := Nat.le_trans (wsum_mem (List.mem_map.mpr ⟨_, List.mem_of_getElem? hd, rfl⟩)) hw2
            have hI' := hI
            (with_unfolding_all refine' unpackN_ F11 N11 hTu rfl rfl rfl ?_)
            intro h12 F12 N12
            have hokT : JoinOk (Str.ofString "/") ((l1'.take i).map (·.1)) = true := joinOk_one (by decide +kernel) (by rw [List.map_take, sizeLine_eq]; have := wsum_take (l1'.map (·.1)) i; omega)
            have hjT : (Txt.join (Str.ofString "/") ((l1'.take i).map (·.1))).length ≤ 201 := by
              have h1 := join_len_one (sep := Str.ofString "/") (by decide +kernel) ((l1'.take i).map (·.1))
              have h2 := wsum_take (l1'.map (·.1)) i
              rw [← List.map_take] at h2
              omega
            walk_at "my_steps"
            all_goals first
              | ((with_reducible show TurnPostW _ _ _ _ _ _ _ _ _); refine ⟨_, _, _, _, rfl, (by assumption), (by assumption), (by intro y hy; have hy2 := cp_y2 hy; simp only [if_neg hy2.1, if_neg hy2.2]), rfl, take_same htake hc hd (ne_of_bne (by assumption))⟩)
              | ((dsimp only [TurnPostW]); (walk_at "my_steps"))
            all_goals refine cb_retQ hret (cp_end (by first | exact cpX1 (by assumption) | exact cpX0 (by assumption)) (hTs ▸ hcom) ((lcp_break i htake (map_get hc) (map_get hd) (ne_of_bne' (by assumption))).trans (List.map_take).symm)) ?_ ?_
            all_goals (first | k_asm | exact cb_drop (by assumption) (fun p hp => by repeat (first | exact hsub8 p hp | apply List.Mem.tail)))
          case dc =>
            rintro m₁ nx h11 tk11 ⟨hm, rfl, htake⟩ F11 N11
            have htake' : (l1'.map (·.1)).take l1'.length = (l2'.map (·.1)).take l1'.length := by rw [← hsl1]; exact htake
            rw [ov2 hm] at F11
            have hok : JoinOk (Str.ofString "/") (l1'.map (·.1)) = true := joinOk_one (by decide +kernel) (by rw [sizeLine_eq]; omega)
            have hj : (Txt.join (Str.ofString "/") (l1'.map (·.1))).length ≤ 201 := by
              have h1 := join_len_one (sep := Str.ofString "/") (by decide +kernel) (l1'.map (·.1))
              omega
            try dsimp only
            walk_at "my_steps"
            all_goals refine cb_retQ hret (cp_end (by first | exact cpX1 (by assumption) | exact cpX0 (by assumption)) (hTs ▸ hcom) (lcp_full (by rw [List.length_map]; exact htake'))) ?_ ?_
            all_goals (first | k_asm | exact cb_drop (by assumption) (fun p hp => by repeat (first | exact hsub8 p hp | apply List.Mem.tail)))


end Mine
end

section -- text LAWL
theorem Mine.rows_off_LAWL : True := by
  k_with_none
  trivial
open PySem PySem.W PyProof.Rows PySem.Calls
set_option Elab.async false
set_option maxRecDepth 100000
set_option maxHeartbeats 1000000
set_option linter.all false
namespace Mine
section
variable {prog : Program} {w : World} {A : Around} {E : Value → Shared → Prop} {s : Shared} {h₀ : Heap} {L l : Addr} {m : Str → Option Value} {news : List (Addr × Obj)}
/-- the sum of a list of ints -/
theorem sumK {ws : Array Value} {ms : List Int} {n₀ : Nat} {Q : Value → Shared → Prop} (hh : A.handled = none) (F : Fr h₀ L s.heap m) (N : News h₀ L s.heap news) (hl : (l, ({ cls := .type "list", data := .seq ws n₀ } : Obj)) ∈ news) (hi : IntsAre ws.toList ms)
    (h : ∀ z t h' tk', Fr h₀ L h' m → News h₀ L h' news → Q (.int z t) { s with heap := h', toks := tk' }) : wpAny (model prog w) A (call (.builtin "sum") [.ref l]) Q E s := by
  have hls : s.heap.IsList l ws := ⟨_, (N _ hl).1, rfl, n₀, rfl⟩
  have hne : l ≠ s.heap.objs.size := news_ne_size N _ hl
  have lt : ∀ b o, s.heap.get? b = some o → b ≠ s.heap.objs.size := fun b o e => Nat.ne_of_lt (Heap.lt_size e)
  refine call_sum_walkG (wpAny_pyIter_list hls ⟨s.heap.objs.size, _, _, _, _, _, fun i => ms.getD i 0, rfl, Walks.list (A := A.in1) hh s.heap.objs.size l hne ws, ⟨⟨_, Heap.get?_push_size _ rfl, rfl, rfl⟩, hls.push _⟩, ?_, ?_, ?_⟩)
  · intro b hb
    show b < (s.heap.push _).objs.size
    rw [Heap.size_push]
    rcases List.mem_cons.mp hb with rfl | hb
    · exact Nat.lt_succ_self _
    · rw [List.mem_singleton.mp hb]; exact Nat.lt_succ_of_lt (Heap.lt_size (N _ hl).1)
  · intro i v hv
    obtain ⟨n, t, rfl, hn⟩ := hi.at i v (by simpa using hv)
    exact ⟨t, by dsimp only; rw [List.getD_eq_getElem?_getD, hn]; rfl⟩
  · intro h' tk t' hk
    have k : ∀ b o, s.heap.get? b = some o → h'.get? b = some o := fun b o e => hk b o (by simpa using lt b o e) (Heap.get?_push_of_some _ e)
    exact h _ t' h' tk (F.keeps k) (N.grown k)
/-- one of three texts, at a place reckoned -/
theorem item3 {a b c : Str} {ta tb tc : Tok} {n₀ : Nat} {value slice : PySem.Expr} {k : Int} {u : Tok} {Q : Value → Shared → Prop} (N : News h₀ L s.heap news) (hm : (l, ({ cls := .type "tuple", data := .seq #[.str a ta, .str b tb, .str c tc] n₀ } : Obj)) ∈ news)
    (h0 : 0 ≤ k) (h1 : k < 3) (h : ∀ R t, (k = 0 ∧ R = a ∨ k = 1 ∧ R = b ∨ k = 2 ∧ R = c) → Q (.str R t) s)
    (hs : subscripted slice false (.ref l) (.int k u) = operate [.ref l, .int k u] (getItem (.ref l) (.int k u)) := by with_unfolding_all rfl) :
    wpAny (model prog w) A (subscriptTail value slice (.ref l) (.int k u)) Q E s := by
  refine kba_turn (value' := .Name (Str.ofString "x") ⟨0, 0, 0, 0⟩) (fun _ => rfl) ?_
  have hg : ∀ r, letTemporaryGo (.Name (Str.ofString "x") ⟨0, 0, 0, 0⟩) (.ref l) r = pure () := fun _ => rfl
  have ht : IsTup s.heap l (List.toArray [.str a ta, .str b tb, .str c tc]) := ⟨_, (N _ hm).1, rfl, n₀, rfl⟩
  have hj : ∀ j : Nat, k = (j : Int) → j < 3 → seqIndex? k ([.str a ta, .str b tb, .str c tc] : List Value).length = some j := by
    rintro j rfl hj
    unfold seqIndex?
    simp
    omega
  have hk : k = 0 ∨ k = 1 ∨ k = 2 := by omega
  rcases hk with e | e | e
  · exact item_tupleL ht (by omega) (by omega) (hj 0 e (by omega)) rfl (h a ta (.inl ⟨e, rfl⟩)) hs hg
  · exact item_tupleL ht (by omega) (by omega) (hj 1 e (by omega)) rfl (h b tb (.inr (.inl ⟨e, rfl⟩))) hs hg
  · exact item_tupleL ht (by omega) (by omega) (hj 2 e (by omega)) rfl (h c tc (.inr (.inr ⟨e, rfl⟩))) hs hg
/-- a comprehension that gives ints -/
noncomputable def JI (led : List (Addr × Obj)) (P : Nat → Int → Prop) (i : Nat) (ys : List Value) (nx : List (Addr × Obj)) : Prop :=
  nx = led ∧ ∃ zs : List Int, IntsAre ys zs ∧ zs.length = i ∧ ∀ j z, zs[j]? = some z → P j z
theorem ji_end {I C D : Addr} {oI oC : Obj} {led : List (Addr × Obj)} {P : Nat → Int → Prop} {i : Nat} {ys : List Value} {zs : List Int} {z : Int} {t : Tok} {h' : Heap} {tk' : Nat}
    (F : Fr h₀ L h' m) (N : News h₀ L h' ((I, oI) :: (C, oC) :: (D, LCg.lst ys) :: led)) (off : ∀ p ∈ led, p.1 ≠ I ∧ p.1 ≠ C ∧ p.1 ≠ D) (hz : IntsAre ys zs) (hl : zs.length = i) (hP : ∀ j z, zs[j]? = some z → P j z) (hp : P i z) :
    CEnd h₀ L m s I oI C oC D ys (JI led P (i + 1)) (ys ++ [.int z t]) { s with heap := h', toks := tk' } := by
  refine ⟨h', tk', led, rfl, F, N, off, rfl, zs ++ [z], ?_, by rw [List.length_append, hl]; rfl, ?_⟩
  · have : ∀ {as : List Value} {bs : List Int}, IntsAre as bs → IntsAre (as ++ [.int z t]) (bs ++ [z]) := by
      intro as bs hab
      induction hab with
      | nil => exact .cons z t .nil
      | cons n u _ ih => exact .cons n u ih
    exact this hz
  · intro j z' hj
    rw [List.getElem?_append] at hj
    split at hj
    · exact hP j z' hj
    · rename_i hlt
      have : j = zs.length := by
        have := (List.getElem?_eq_some_iff.mp hj).1
        simp at this; omega
      subst this
      simp at hj
      subst hj
      exact hl ▸ hp
end
theorem range_small {n : Nat} (h : n ≤ 64) : Builtin.Range.small 0 (n : Int) 1 = true ∧ Builtin.Range.rangeSize 0 (n : Int) 1 = (n : Int) := by
  have key : ∀ k : Fin 65, Builtin.Range.small 0 ((k.val : Nat) : Int) 1 = true ∧ Builtin.Range.rangeSize 0 ((k.val : Nat) : Int) 1 = ((k.val : Nat) : Int) := by decide +kernel
  exact key ⟨n, by omega⟩
end Mine
end

section -- text TURNG
theorem Mine.rows_off_TURNG : True := by
  k_with_none
  trivial
open PySem PySem.W PyProof.Rows
set_option Elab.async false
set_option maxRecDepth 100000
set_option maxHeartbeats 1000000
set_option linter.all false
namespace Mine
theorem letGo_rangeiter {prog : Program} {w : World} {A : Around} {E : Value → Shared → Prop} {target : Expr} {I : Addr} {a b c : Int} {v : Value} {Q' : Unit → Shared → Prop} {s' : Shared} (hit : IsRangeIter s'.heap I a b c) (h : Q' () s') :
    wpAny (model prog w) A (letOwnedTupleGo target (.ref I) v) Q' E s' := by
  unfold letOwnedTupleGo
  cases target <;> first
    | exact wpAny_pure h
    | (cases v <;> first
        | exact wpAny_pure h
        | (refine wpAny_bind (wpAny_load hit ?_)
           exact wpAny_pure h))
section
variable {prog : Program} {w : World} {A : Around} {E : Value → Shared → Prop} {s : Shared} {env : Env} {h₀ : Heap} {target : Expr} {body : List Stmt} {Q : Flow → Shared → Prop} {m₀ : Str → Option Value} {news : List (Addr × Obj)}
/-- how a turn of a loop may end, the iterator's objects in the ledger -/
noncomputable def TurnPostG (h₀ : Heap) (L : Addr) (J : Nat → (Str → Option Value) → List (Addr × Obj) → Prop) (i : Nat) (os : List (Addr × Obj)) (s : Shared) (Q : Flow → Shared → Prop) (f : Flow) (s₂ : Shared) : Prop :=
  match f with
  | .ret v => Q (.ret v) s₂
  | .brk => Q .next s₂
  | _ => ∃ h' tk m' nx, s₂ = { s with heap := h', toks := tk } ∧ Fr h₀ L h' m' ∧ News h₀ L h' (os ++ nx) ∧ (∀ p ∈ nx, ∀ q ∈ os, p.1 ≠ q.1) ∧ J i m' nx
theorem turns_ofG {I : Addr} {fp ws : List Addr} {n : Nat} {P Md : Nat → Value → Heap → Prop} {St : Nat → Heap → Prop} (WK : W.KTurns prog w A target I fp ws n P Md St) (fo : List (Addr × Obj)) (J : Nat → (Str → Option Value) → List (Addr × Obj) → Prop)
    (hst : St 0 s.heap) (hIO : ∀ i h, St i h → ∃ os : List (Addr × Obj), os.map (·.1) = ws ∧ ∀ p ∈ os, h.get? p.1 = some p.2) (hI : ∀ p ∈ news, p.1 ∉ ws) (hI0 : ∀ b ∈ ws, h₀.get? b = none)
    (hfp : ∀ b ∈ fp, b ∈ ws ∨ (∃ o, (b, o) ∈ fo) ∨ (h₀.get? b).isSome = true) (hfl : env.locals ∉ fp) (F : Fr h₀ env.locals s.heap m₀) (N : News h₀ env.locals s.heap news) (hj : J 0 m₀ news)
    (hJ : ∀ i m nx, J i m nx → ∀ p ∈ fo, p ∈ nx)
    (turn : ∀ (Q' : Flow → Shared → Prop) i v m₁ nx h tk os, os.map (·.1) = ws → i < n → P i v h → J i m₁ nx → (∀ p ∈ nx, ∀ q ∈ os, p.1 ≠ q.1) → Fr h₀ env.locals h m₁ → News h₀ env.locals h (os ++ nx) →
      wpAny (model prog w) A (assign target env v) (fun _ s₃ => wpAny (model prog w) A (execs body env) (TurnPostG h₀ env.locals J (i + 1) os s Q') E s₃) E { s with heap := h, toks := tk })
    (done : ∀ m₁ nx h tk, J n m₁ nx → Fr h₀ env.locals h m₁ → News h₀ env.locals h nx → Q .next { s with heap := h, toks := tk }) :
    W.TurnsAt prog w A h₀ env target body Q E (.ref I) s := by
  refine ⟨I, fp, ws, n, P, Md, St, m₀, news, J, rfl, WK, hfl, hI0, hI, hst, F, N, hj, ?_, ?_⟩
  · rintro i v m₁ nx h tk own hi hP hj' hoff hsub hget hall hst' F' N'
    obtain ⟨os, hos, hog⟩ := hIO _ _ hst'
    have hmI : ∀ p ∈ os, p ∈ own := fun p hp => by
      have hb : p.1 ∈ ws := hos ▸ List.mem_map.mpr ⟨p, hp, rfl⟩
      exact hall p.1 (WK.sub _ hb) (hI0 _ hb) p.2 (hog p hp)
    have N₁ : News h₀ env.locals h (os ++ nx) := fun p hp => by
      rcases List.mem_append.mp hp with hp | hp
      · exact N' _ (List.mem_append_left _ (hmI p hp))
      · exact N' _ (List.mem_append_right _ hp)
    refine wpAny_mono (turn Q i v m₁ nx h tk os hos hi hP hj' (fun p hp q hq e => hoff p hp (hos ▸ e ▸ List.mem_map.mpr ⟨q, hq, rfl⟩)) F' N₁) (fun _ s₃ h₃ => wpAny_mono h₃ (fun f s₂ p => ?_) fun _ _ e => e) fun _ _ e => e
    have fin : (∃ h' tk' m' nx', s₂ = { s with heap := h', toks := tk' } ∧ Fr h₀ env.locals h' m' ∧ News h₀ env.locals h' (os ++ nx') ∧ (∀ p ∈ nx', ∀ q ∈ os, p.1 ≠ q.1) ∧ J (i + 1) m' nx') →
        LoopStepU h₀ env.locals ws own (J (i + 1)) { s with heap := h, toks := tk } .next s₂ := by
      rintro ⟨h', tk', m', nx', rfl, F₂, N₂, off₂, hj₂⟩
      refine ⟨rfl, h', tk', m', nx', rfl, F₂, fun p hp => ?_, fun p hp hm => ?_, hj₂⟩
      rcases List.mem_append.mp hp with hp | hp
      · have hg := hget p hp
        rcases hfp _ (hsub p hp) with e | ⟨o, ho⟩ | e
        · obtain ⟨q, hq, hqe⟩ := List.mem_map.mp (hos ▸ e : p.1 ∈ os.map (·.1))
          have h3 := hog q hq
          have : p = q := by
            obtain ⟨pa, po⟩ := p; obtain ⟨qa, qo⟩ := q
            have hqe' : qa = pa := hqe
            subst hqe'
            have h2 : h.get? qa = some po := hg
            have h4 : h.get? qa = some qo := h3
            rw [h4] at h2
            rw [Option.some.inj h2]
          subst this
          exact N₂ _ (List.mem_append_left _ hq)
        · have h3 := (N₁ _ (List.mem_append_right _ (hJ _ _ _ hj' _ ho))).1
          obtain ⟨pa, po⟩ := p
          have : po = o := by
            have h2 : h.get? pa = some po := hg
            have h3' : h.get? pa = some o := h3
            rw [h3'] at h2; exact (Option.some.inj h2).symm
          subst this
          exact N₂ _ (List.mem_append_right _ (hJ _ _ _ hj₂ _ ho))
        · have h4 := (N' p (List.mem_append_left _ hp)).2.2
          rw [h4] at e; cases e
      · exact N₂ p (List.mem_append_right _ hp)
      · rw [← hos] at hm
        obtain ⟨q, hq, e⟩ := List.mem_map.mp hm
        exact off₂ p hp q hq e.symm
    cases f with
    | ret v => exact .ret p
    | brk => exact .brk p
    | next => exact .next (fin p)
    | cont => exact .cont (fin p)
  · intro h' tk m' nx' F' N' _ hj'
    exact done m' nx' h' tk hj' F' N'


section
variable {l : Addr} {vs : List Value} {n₀ : Nat}
theorem turns_lstG (J : Nat → (Str → Option Value) → List (Addr × Obj) → Prop) (hh : A.handled = none) (F : Fr h₀ env.locals s.heap m₀) (N : News h₀ env.locals s.heap news)
    (hl : (l, ({ cls := .type "list", data := .seq vs.toArray n₀ } : Obj)) ∈ news) (hj : J 0 m₀ news) (hJ : ∀ i m nx, J i m nx → (l, ({ cls := .type "list", data := .seq vs.toArray n₀ } : Obj)) ∈ nx)
    (turn : ∀ (Q' : Flow → Shared → Prop) i v m₁ nx h tk I oI, (∀ p ∈ news, p.1 < I) → i < vs.length → vs[i]? = some v → J i m₁ nx → (∀ p ∈ nx, p.1 ≠ I) → Fr h₀ env.locals h m₁ → News h₀ env.locals h ((I, oI) :: nx) →
      wpAny (model prog w) A (assign target env v) (fun _ s₃ => wpAny (model prog w) A (execs body env) (TurnPostG h₀ env.locals J (i + 1) [(I, oI)] s Q') E s₃) E { s with heap := h, toks := tk })
    (done : ∀ m₁ nx h tk, J vs.length m₁ nx → Fr h₀ env.locals h m₁ → News h₀ env.locals h nx → Q .next { s with heap := h, toks := tk }) :
    wpAny (model prog w) A (pyIter (.ref l)) (fun it s₂ => W.TurnsAt prog w A h₀ env target body Q E it s₂) E s := by
  have hls : s.heap.IsList l vs.toArray := ⟨_, (N _ hl).1, rfl, n₀, rfl⟩
  have hne : l ≠ s.heap.objs.size := news_ne_size N _ hl
  refine wpAny_pyIter_list hls ?_
  have WK := W.KTurns.ofWalks (target := target) (Walks.list (prog := prog) (w := w) hh s.heap.objs.size l hne vs.toArray) fun i v s Q E st q => letGo_listiter st.1 q
  have hsz : vs.toArray.size = vs.length := by simp
  rw [hsz] at WK
  refine turns_ofG (s := { s with heap := s.heap.push _ }) WK [(l, { cls := .type "list", data := .seq vs.toArray n₀ })] J ⟨⟨_, Heap.get?_push_size _ rfl, rfl, rfl⟩, hls.at fun o e => Heap.get?_push_of_some _ e⟩ (fun i h st => let ⟨o, ho, _⟩ := st.1; ⟨[(s.heap.objs.size, o)], rfl, fun p hp => by rw [List.mem_singleton.mp hp]; exact ho⟩)
    (fun p hp hq => news_ne_size N p hp (List.mem_singleton.mp hq)) (fun b hb => by rw [List.mem_singleton.mp hb]; exact new_none F) ?_ ?_ (F.push _) (News.past (m := m₀) N _) hj (fun i m nx h p hp => List.mem_singleton.mp hp ▸ hJ i m nx h) ?_ done
  · intro b hb
    rcases List.mem_cons.mp hb with e | hb
    · exact .inl (List.mem_singleton.mpr e)
    · rw [List.mem_singleton.mp hb]; exact .inr (.inl ⟨_, .head _⟩)
  · intro hm
    rcases List.mem_cons.mp hm with e | hm
    · exact absurd F.ns.lt (e ▸ Nat.lt_irrefl _)
    · exact (N _ hl).2.1 (List.mem_singleton.mp hm).symm
  · intro Q' i v m₁ nx h tk os hos hi hP hj' hoff F' N'
    obtain ⟨⟨I', oI⟩, rfl⟩ : ∃ p, os = [p] := by
      have h1 : os.length = 1 := by have := congrArg List.length hos; simpa using this
      exact List.length_eq_one_iff.mp h1
    have hI' : I' = s.heap.objs.size := by simpa using hos
    subst hI'
    exact turn Q' i v m₁ nx h tk _ oI (fun p hp => Heap.lt_size (N p hp).1) hi (by simpa using hP) hj' (fun p hp => hoff p hp _ (.head _)) F' N'
theorem turns_tupG (J : Nat → (Str → Option Value) → List (Addr × Obj) → Prop) (hh : A.handled = none) (F : Fr h₀ env.locals s.heap m₀) (N : News h₀ env.locals s.heap news)
    (hl : (l, ({ cls := .type "tuple", data := .seq vs.toArray n₀ } : Obj)) ∈ news) (hj : J 0 m₀ news) (hJ : ∀ i m nx, J i m nx → (l, ({ cls := .type "tuple", data := .seq vs.toArray n₀ } : Obj)) ∈ nx)
    (turn : ∀ (Q' : Flow → Shared → Prop) i v m₁ nx h tk I oI, (∀ p ∈ news, p.1 < I) → i < vs.length → vs[i]? = some v → J i m₁ nx → (∀ p ∈ nx, p.1 ≠ I) → Fr h₀ env.locals h m₁ → News h₀ env.locals h ((I, oI) :: nx) →
      wpAny (model prog w) A (assign target env v) (fun _ s₃ => wpAny (model prog w) A (execs body env) (TurnPostG h₀ env.locals J (i + 1) [(I, oI)] s Q') E s₃) E { s with heap := h, toks := tk })
    (done : ∀ m₁ nx h tk, J vs.length m₁ nx → Fr h₀ env.locals h m₁ → News h₀ env.locals h nx → Q .next { s with heap := h, toks := tk }) :
    wpAny (model prog w) A (pyIter (.ref l)) (fun it s₂ => W.TurnsAt prog w A h₀ env target body Q E it s₂) E s := by
  have hls : s.heap.IsTuple l vs.toArray := ⟨_, (N _ hl).1, rfl, n₀, rfl⟩
  have hne : l ≠ s.heap.objs.size := news_ne_size N _ hl
  refine wpAny_pyIter_tuple hls ?_
  have WK := W.KTurns.ofWalks (target := target) (Walks.tuple (prog := prog) (w := w) hh s.heap.objs.size l hne vs.toArray) fun i v s Q E st q => letGo_tupleiter st.1 q
  have hsz : vs.toArray.size = vs.length := by simp
  rw [hsz] at WK
  refine turns_ofG (s := { s with heap := s.heap.push _ }) WK [(l, { cls := .type "tuple", data := .seq vs.toArray n₀ })] J ⟨⟨_, Heap.get?_push_size _ rfl, rfl, rfl⟩, hls.at fun o e => Heap.get?_push_of_some _ e⟩ (fun i h st => let ⟨o, ho, _⟩ := st.1; ⟨[(s.heap.objs.size, o)], rfl, fun p hp => by rw [List.mem_singleton.mp hp]; exact ho⟩)
    (fun p hp hq => news_ne_size N p hp (List.mem_singleton.mp hq)) (fun b hb => by rw [List.mem_singleton.mp hb]; exact new_none F) ?_ ?_ (F.push _) (News.past (m := m₀) N _) hj (fun i m nx h p hp => List.mem_singleton.mp hp ▸ hJ i m nx h) ?_ done
  · intro b hb
    rcases List.mem_cons.mp hb with e | hb
    · exact .inl (List.mem_singleton.mpr e)
    · rw [List.mem_singleton.mp hb]; exact .inr (.inl ⟨_, .head _⟩)
  · intro hm
    rcases List.mem_cons.mp hm with e | hm
    · exact absurd F.ns.lt (e ▸ Nat.lt_irrefl _)
    · exact (N _ hl).2.1 (List.mem_singleton.mp hm).symm
  · intro Q' i v m₁ nx h tk os hos hi hP hj' hoff F' N'
    obtain ⟨⟨I', oI⟩, rfl⟩ : ∃ p, os = [p] := by
      have h1 : os.length = 1 := by have := congrArg List.length hos; simpa using this
      exact List.length_eq_one_iff.mp h1
    have hI' : I' = s.heap.objs.size := by simpa using hos
    subst hI'
    exact turn Q' i v m₁ nx h tk _ oI (fun p hp => Heap.lt_size (N p hp).1) hi (by simpa using hP) hj' (fun p hp => hoff p hp _ (.head _)) F' N'
theorem turns_rngG {r : Addr} {a b : Int} {t u v : Tok} {n : Nat} (J : Nat → (Str → Option Value) → List (Addr × Obj) → Prop) (hh : A.handled = none) (F : Fr h₀ env.locals s.heap m₀) (N : News h₀ env.locals s.heap news)
    (hr : IsRange s.heap r a b 1 t u v) (hsmall : Builtin.Range.small a b 1 = true) (hn : Builtin.Range.rangeSize a b 1 = n) (hj : J 0 m₀ news)
    (turn : ∀ (Q' : Flow → Shared → Prop) i tv m₁ nx h tk I oI, (∀ p ∈ news, p.1 < I) → i < n → J i m₁ nx → (∀ p ∈ nx, p.1 ≠ I) → Fr h₀ env.locals h m₁ → News h₀ env.locals h ((I, oI) :: nx) →
      wpAny (model prog w) A (assign target env (.int (a + (i : Int)) tv)) (fun _ s₃ => wpAny (model prog w) A (execs body env) (TurnPostG h₀ env.locals J (i + 1) [(I, oI)] s Q') E s₃) E { s with heap := h, toks := tk })
    (done : ∀ m₁ nx h tk, J n m₁ nx → Fr h₀ env.locals h m₁ → News h₀ env.locals h nx → Q .next { s with heap := h, toks := tk }) :
    wpAny (model prog w) A (pyIter (.ref r)) (fun it s₂ => W.TurnsAt prog w A h₀ env target body Q E it s₂) E s := by
  refine wpAny_pyIter_range hr hsmall ?_
  have WK := W.KTurns.ofWalks (target := target) (LCg.range_walks (prog := prog) (w := w) (I := s.heap.objs.size) hh a n) fun i v s Q E st q => letGo_rangeiter st q
  refine turns_ofG (s := { s with heap := s.heap.push _ }) WK [] J ?_ (fun i h st => ⟨[(s.heap.objs.size, _)], rfl, fun p hp => by rw [List.mem_singleton.mp hp]; exact st⟩)
    (fun p hp hq => news_ne_size N p hp (List.mem_singleton.mp hq)) (fun b hb => by rw [List.mem_singleton.mp hb]; exact new_none F) (fun b hb => .inl hb) ?_ (F.push _) (News.past (m := m₀) N _) hj (fun i m nx h p hp => nomatch hp) ?_ done
  · show IsRangeIter _ _ (a + ((0 : Nat) : Int) * 1) ((n : Int) - ((0 : Nat) : Int)) 1
    have e1 : a + ((0 : Nat) : Int) * 1 = a := by simp
    have e2 : (n : Int) - ((0 : Nat) : Int) = Builtin.Range.rangeSize a b 1 := by rw [hn]; simp
    rw [e1, e2]
    exact Heap.get?_push_size _ rfl
  · intro hm
    exact absurd F.ns.lt (List.mem_singleton.mp hm ▸ Nat.lt_irrefl _)
  · intro Q' i v m₁ nx h tk os hos hi hP hj' hoff F' N'
    obtain ⟨⟨I', oI⟩, rfl⟩ : ∃ p, os = [p] := by
      have h1 : os.length = 1 := by have := congrArg List.length hos; simpa using this
      exact List.length_eq_one_iff.mp h1
    have hI' : I' = s.heap.objs.size := by simpa using hos
    subst hI'
    obtain ⟨tv, rfl⟩ := hP
    exact turn Q' i tv m₁ nx h tk _ oI (fun p hp => Heap.lt_size (N p hp).1) hi hj' (fun p hp => hoff p hp _ (.head _)) F' N'
end
end
end Mine
end

section -- text LAWQ
theorem Mine.rows_off_LAWQ : True := by
  k_with_none
  trivial
open PySem PySem.W PyProof.Rows
set_option Elab.async false
set_option maxRecDepth 100000
set_option maxHeartbeats 1000000
set_option linter.all false
namespace Mine
theorem bit_nat (n m : Nat) : Builtin.bitAnd (n : Int) (m : Int) = ((n &&& m : Nat) : Int) := rfl
theorem bit_one (n k : Nat) : ((n &&& 2 ^ k : Nat) == 2 ^ k) = decide (n / 2 ^ k % 2 = 1) := by
  rw [Bool.eq_iff_iff, beq_iff_eq, decide_eq_true_iff]
  have t : n / 2 ^ k % 2 = 1 ↔ n.testBit k = true := by rw [Nat.testBit_eq_decide_div_mod_eq]; simp
  rw [t]
  constructor
  · intro q
    have hk : (n &&& 2 ^ k).testBit k = (2 ^ k).testBit k := by rw [q]
    simpa only [Nat.testBit_and, Nat.testBit_two_pow_self, Bool.and_true] using hk
  · intro hk
    apply Nat.eq_of_testBit_eq
    intro i
    simp only [Nat.testBit_and, Nat.testBit_two_pow]
    by_cases h1 : k = i
    · subst h1; simp [hk]
    · simp [h1]
theorem bit_two (n j k : Nat) (h : j < k) : ((n &&& (2 ^ k + 2 ^ j) : Nat) == 2 ^ k + 2 ^ j) = decide (n / 2 ^ k % 2 = 1 ∧ n / 2 ^ j % 2 = 1) := by
  have e : 2 ^ k + 2 ^ j = 2 ^ k ||| 2 ^ j := by
    have := Nat.two_pow_add_eq_or_of_lt (b := 2 ^ j) (i := k) (Nat.pow_lt_pow_right (by omega) h) 1
    simpa using this
  rw [Bool.eq_iff_iff, beq_iff_eq, decide_eq_true_iff]
  have t : ∀ i, n / 2 ^ i % 2 = 1 ↔ n.testBit i = true := fun i => by rw [Nat.testBit_eq_decide_div_mod_eq]; simp
  rw [t, t, e]
  constructor
  · intro q
    have hk : (n &&& (2 ^ k ||| 2 ^ j)).testBit k = (2 ^ k ||| 2 ^ j).testBit k := by rw [q]
    have hj : (n &&& (2 ^ k ||| 2 ^ j)).testBit j = (2 ^ k ||| 2 ^ j).testBit j := by rw [q]
    simp only [Nat.testBit_and, Nat.testBit_or, Nat.testBit_two_pow_self, Bool.true_or, Bool.or_true, Bool.and_true] at hk hj
    exact ⟨hk, hj⟩
  · rintro ⟨hk, hj⟩
    apply Nat.eq_of_testBit_eq
    intro i
    simp only [Nat.testBit_and, Nat.testBit_or, Nat.testBit_two_pow]
    by_cases h1 : k = i
    · subst h1; simp [hk]
    · by_cases h2 : j = i
      · subst h2; simp [hj]
      · simp [h1, h2]
theorem bit_four (n : Nat) : (n &&& 61440 : Nat) = 4096 * (n / 4096 % 16) := by
  have e : (61440 : Nat) = (2 ^ 4 - 1) <<< 12 := by decide
  apply Nat.eq_of_testBit_eq
  intro i
  have e2 : 4096 * (n / 4096 % 16) = (n / 2 ^ 12 % 2 ^ 4) <<< 12 := by rw [Nat.shiftLeft_eq]; exact Nat.mul_comm _ _
  rw [e2, e]
  simp only [Nat.testBit_and, Nat.testBit_shiftLeft, Nat.testBit_two_pow_sub_one, Nat.testBit_mod_two_pow, Nat.testBit_div_two_pow]
  by_cases h : 12 ≤ i
  · have : i - 12 + 12 = i := Nat.sub_add_cancel h
    simp [h, this, Bool.and_comm]
  · simp [h]
theorem mask1 (n : Nat) (k m : Nat) (hm : m = 2 ^ k) : (Builtin.bitAnd (n : Int) (m : Int) == (m : Int)) = decide (n / 2 ^ k % 2 = 1) := by
  rw [bit_nat, ← bit_one, hm]
  rw [Bool.eq_iff_iff, beq_iff_eq, beq_iff_eq]; exact Int.ofNat_inj
theorem mask2 (n : Nat) (j k m : Nat) (h : j < k) (hm : m = 2 ^ k + 2 ^ j) : (Builtin.bitAnd (n : Int) (m : Int) == (m : Int)) = decide (n / 2 ^ k % 2 = 1 ∧ n / 2 ^ j % 2 = 1) := by
  rw [bit_nat, ← bit_two n j k h, hm]
  rw [Bool.eq_iff_iff, beq_iff_eq, beq_iff_eq]; exact Int.ofNat_inj
theorem sg_one {V : Int} {i : Nat} {a : Int} {ca : Str} (hT : fmT i = [(a, ca)]) (hi : i ≠ 0) : fmSg V i = if (Builtin.bitAnd V a == a) = true then ca else Str.ofString "-" := by
  unfold fmSg
  rw [hT, List.find?_cons]
  unfold fmP
  rw [if_neg hi, if_neg hi]
  dsimp only
  cases h : (Builtin.bitAnd V a == a) <;> simp
theorem sg_three {V : Int} {i : Nat} {a b c : Int} {ca cb cc : Str} (hT : fmT i = [(a, ca), (b, cb), (c, cc)]) (hi : i ≠ 0) :
    fmSg V i = if (Builtin.bitAnd V a == a) = true then ca else if (Builtin.bitAnd V b == b) = true then cb else if (Builtin.bitAnd V c == c) = true then cc else Str.ofString "-" := by
  unfold fmSg
  rw [hT, List.find?_cons, List.find?_cons, List.find?_cons]
  unfold fmP
  rw [if_neg hi, if_neg hi, if_neg hi, if_neg hi]
  dsimp only
  cases h : (Builtin.bitAnd V a == a) <;> cases h2 : (Builtin.bitAnd V b == b) <;> cases h3 : (Builtin.bitAnd V c == c) <;> simp
theorem sg_zero (n : Nat) : fmSg (n : Int) 0 = row0 (n : Int) := by
  have hb : Builtin.bitAnd (n : Int) 61440 = ((4096 * (n / 4096 % 16) : Nat) : Int) := by
    have := bit_nat n 61440
    rw [bit_four] at this; exact this
  have hr : ((n : Int).fdiv 4096).fmod 16 = ((n / 4096 % 16 : Nat) : Int) := by
    rw [Int.fdiv_eq_ediv_of_nonneg _ (by omega), Int.fmod_eq_emod_of_nonneg _ (by omega)]; omega
  unfold row0 fmSg
  rw [hr]
  have e : fmP (n : Int) 0 = fun p => ((4096 * (n / 4096 % 16) : Nat) : Int) == p.1 := by
    funext p; unfold fmP; rw [if_pos rfl, hb]
  rw [e]
  have ht : n / 4096 % 16 < 16 := Nat.mod_lt _ (by omega)
  generalize n / 4096 % 16 = t at ht
  match t, ht with
  | 0, _ => decide +kernel
  | 1, _ => decide +kernel
  | 2, _ => decide +kernel
  | 3, _ => decide +kernel
  | 4, _ => decide +kernel
  | 5, _ => decide +kernel
  | 6, _ => decide +kernel
  | 7, _ => decide +kernel
  | 8, _ => decide +kernel
  | 9, _ => decide +kernel
  | 10, _ => decide +kernel
  | 11, _ => decide +kernel
  | 12, _ => decide +kernel
  | 13, _ => decide +kernel
  | 14, _ => decide +kernel
  | 15, _ => decide +kernel
  | t + 16, h => exact absurd h (by omega)
theorem lst_app (a b : Str) : (a ++ b).cps.toList = a.cps.toList ++ b.cps.toList := by
  show (a.cps ++ b.cps).toList = _
  simp
theorem str_ext' {a b : Str} (h : a.cps.toList = b.cps.toList) : a = b := by
  cases a; cases b
  rw [Str.mk.injEq]; exact Array.toList_inj.mp h
/-- three signs of filemode, as the figures to the base 8 tell them -/
theorem rw_small (t : Nat) (ht : t < 8) : (rw4 (t : Int)).cps.toList = (if decide (t / 4 = 1) = true then Str.ofString "r" else Str.ofString "-").cps.toList ++ (if decide (t / 2 % 2 = 1) = true then Str.ofString "w" else Str.ofString "-").cps.toList := by
  have key : ∀ k : Fin 8, (rw4 ((k.val : Nat) : Int)).cps.toList = (if decide (k.val / 4 = 1) = true then Str.ofString "r" else Str.ofString "-").cps.toList ++ (if decide (k.val / 2 % 2 = 1) = true then Str.ofString "w" else Str.ofString "-").cps.toList := by decide +kernel
  exact key ⟨t, ht⟩
theorem group3 (n i j u : Nat) (s S e : Str) (hu : j < u) (hi : i ≠ 0) (h1 : fmT i = [(((2 ^ (j + 2) : Nat) : Int), Str.ofString "r")]) (h2 : fmT (i + 1) = [(((2 ^ (j + 1) : Nat) : Int), Str.ofString "w")])
    (h3 : fmT (i + 2) = [(((2 ^ u + 2 ^ j : Nat) : Int), s), (((2 ^ u : Nat) : Int), S), (((2 ^ j : Nat) : Int), Str.ofString "x")]) (he0 : Txt.item e 0 = S) (he1 : Txt.item e 1 = s) :
    (rw4 (((n : Int).fdiv (2 ^ j : Nat)).fmod 8)).cps.toList = (fmSg n i).cps.toList ++ (fmSg n (i + 1)).cps.toList ∧ xs2 n (2 ^ j : Nat) (2 ^ u : Nat) e = fmSg n (i + 2) := by
  have ht : ((n : Int).fdiv (2 ^ j : Nat)).fmod 8 = ((n / 2 ^ j % 8 : Nat) : Int) := by
    rw [Int.fdiv_eq_ediv_of_nonneg _ (Int.natCast_nonneg _), Int.fmod_eq_emod_of_nonneg _ (by decide)]; rfl
  have hV : ((n : Int).fdiv (2 ^ u : Nat)).fmod 2 = ((n / 2 ^ u % 2 : Nat) : Int) := by
    rw [Int.fdiv_eq_ediv_of_nonneg _ (Int.natCast_nonneg _), Int.fmod_eq_emod_of_nonneg _ (by decide)]; rfl
  have q1 : n / 2 ^ (j + 1) = n / 2 ^ j / 2 := by rw [Nat.pow_succ, Nat.div_div_eq_div_mul]
  have q2 : n / 2 ^ (j + 2) = n / 2 ^ j / 4 := by rw [Nat.pow_add, Nat.div_div_eq_div_mul]
  have r4 : n / 2 ^ j / 4 % 2 = n / 2 ^ j % 8 / 4 := (Nat.mod_mul_right_div_self (n / 2 ^ j) 4 2).symm
  have r2 : n / 2 ^ j / 2 % 2 = n / 2 ^ j % 8 / 2 % 2 := by
    rw [← Nat.mod_mod_of_dvd (n / 2 ^ j / 2) (show 2 ∣ 4 by decide), ← Nat.mod_mul_right_div_self]
  have r1 : n / 2 ^ j % 2 = n / 2 ^ j % 8 % 2 := (Nat.mod_mod_of_dvd _ (by decide)).symm
  rw [sg_one h1 hi, sg_one h2 (Nat.succ_ne_zero _), sg_three h3 (Nat.succ_ne_zero _), mask1 n (j + 2) _ rfl, mask1 n (j + 1) _ rfl, mask2 n j u _ hu rfl, mask1 n u _ rfl, mask1 n j _ rfl, q1, q2, r4, r2, r1]
  unfold xs2
  rw [ht, hV]
  have ht8 : n / 2 ^ j % 8 < 8 := Nat.mod_lt _ (by decide)
  clear r4 r2 r1 q1 q2 ht hV
  generalize n / 2 ^ j % 8 = t at *
  generalize n / 2 ^ u % 2 = b
  refine ⟨rw_small t ht8, ?_⟩
  have f2 : ((t : Nat) : Int).fmod 2 = ((t % 2 : Nat) : Int) := by rw [Int.fmod_eq_emod_of_nonneg _ (by decide)]; rfl
  rw [f2]
  by_cases a1 : b = 1
  · rw [if_pos (by rw [a1]; rfl)]
    rcases Nat.mod_two_eq_zero_or_one t with e0 | e0
    · rw [e0, if_neg (by simp), if_pos (by simp [a1])]; exact he0
    · rw [e0, if_pos (by simp [a1])]; exact he1
  · rw [if_neg (show ¬ ((b : Int) = 1) from fun q => a1 (Int.ofNat_inj.mp q)), if_neg (by simp [a1]), if_neg (by simp [a1])]
    rcases Nat.mod_two_eq_zero_or_one t with e0 | e0
    · rw [e0, if_neg (by simp)]; decide +kernel
    · rw [e0, if_pos (by simp)]; decide +kernel
theorem fm_row' (n : Nat) : fmText (n : Int) = rowG (n : Int) 3 := by
  have g1 := group3 n 1 6 11 (Str.ofString "s") (Str.ofString "S") (Str.ofString "Ss") (by decide) (by decide) rfl rfl rfl (by decide +kernel) (by decide +kernel)
  have g2 := group3 n 4 3 10 (Str.ofString "s") (Str.ofString "S") (Str.ofString "Ss") (by decide) (by decide) rfl rfl rfl (by decide +kernel) (by decide +kernel)
  have g3 := group3 n 7 0 9 (Str.ofString "t") (Str.ofString "T") (Str.ofString "Tt") (by decide) (by decide) rfl rfl rfl (by decide +kernel) (by decide +kernel)
  have g0 := sg_zero n
  apply str_ext'
  show _ = (row3 (n : Int)).cps.toList
  unfold row3 row2 row1 rowS fmText
  rw [empty_is, txt_join_empty]
  simp only [lst_app]
  have e : (List.range 10).map (fmSg (n : Int)) = [fmSg n 0, fmSg n 1, fmSg n 2, fmSg n 3, fmSg n 4, fmSg n 5, fmSg n 6, fmSg n 7, fmSg n 8, fmSg n 9] := rfl
  rw [e]
  have k1 := g1.1; have k2 := g2.1; have k3 := g3.1
  have m1 := g1.2; have m2 := g2.2; have m3 := g3.2
  simp only [cat, List.flatMap_cons, List.flatMap_nil, List.append_nil]
  have c64 : ((2 ^ 6 : Nat) : Int) = 64 := rfl
  have c8 : ((2 ^ 3 : Nat) : Int) = 8 := rfl
  have c1 : ((2 ^ 0 : Nat) : Int) = 1 := rfl
  have d1 : ((2 ^ 11 : Nat) : Int) = 2048 := rfl
  have d2 : ((2 ^ 10 : Nat) : Int) = 1024 := rfl
  have d3 : ((2 ^ 9 : Nat) : Int) = 512 := rfl
  rw [c64] at k1 m1; rw [c8] at k2 m2; rw [c1] at k3 m3
  rw [d1] at m1; rw [d2] at m2; rw [d3] at m3
  rw [k1, k2, k3, m1, m2, m3, g0]
  simp only [List.append_assoc]
end Mine
end

section -- text LAWS
theorem Mine.rows_off_LAWS : True := by
  k_with_none
  trivial
open PySem PySem.W PyProof.Rows PySem.StrLaws PySem.Builtin.Str
set_option Elab.async false
set_option maxRecDepth 100000
set_option maxHeartbeats 1000000
set_option linter.all false
namespace Mine
theorem crlf_is : Str.ofString "\r\n" = ⟨#[13, 10]⟩ := by decide +kernel
theorem at_two (x : Str) (i : Nat) : At x ⟨#[13, 10]⟩ x.length i ↔ x.cps.toList[i]? = some 13 ∧ x.cps.toList[i + 1]? = some 10 := by
  unfold At
  rw [subAt_eq]
  show (i + 2 ≤ x.length ∧ ((x.cps.toList.drop i).take 2 == [13, 10]) = true) ↔ _
  have hx : x.length = x.cps.toList.length := by simp [Str.length]
  rw [hx, beq_iff_eq]
  have h0 : x.cps.toList[i]? = (x.cps.toList.drop i)[0]? := by rw [List.getElem?_drop]; rfl
  have h1 : x.cps.toList[i + 1]? = (x.cps.toList.drop i)[1]? := by rw [List.getElem?_drop]
  have hl : (x.cps.toList.drop i).length = x.cps.toList.length - i := List.length_drop
  rw [h0, h1]
  generalize x.cps.toList.drop i = l at *
  match l with
  | [] => simp
  | [a] => simp
  | a :: b :: r =>
    simp only [List.length_cons] at hl
    have hi : i + 2 ≤ x.cps.toList.length := by omega
    simp only [List.take_succ_cons, List.take_zero, List.getElem?_cons_zero, List.getElem?_cons_succ, Option.some.injEq, List.cons.injEq, and_true]
    exact ⟨fun h => h.2, fun h => ⟨hi, h⟩⟩
theorem chain_rows (x : Str) : ∀ (rows : List (List Nat)) (a : Nat) (cuts : List Nat) (f : Nat), (∀ r ∈ rows, ∀ c ∈ r, c ≠ 13) → x.cps.toList.drop a = lines rows →
    ChainG x ⟨#[13, 10]⟩ x.length a cuts f → (∀ k, f ≤ k → ¬ At x ⟨#[13, 10]⟩ x.length k) → partsFrom x 2 a cuts = rows.map (fun r => (⟨r.toArray⟩ : Str)) ++ [Str.empty]
  | [], a, cuts, f, hr, hd, hG, hn => by
    have hlen : x.cps.toList.length ≤ a := List.drop_eq_nil_iff.mp (hd.trans rfl)
    match cuts, hG with
    | [], _ =>
      show [strSub x a x.length] = [Str.empty]
      have : strSub x a x.length = Str.empty := by
        apply str_ext'
        rw [strSub_toList, hd]
        show List.take _ ([] : List Nat) = []
        exact List.take_nil
      rw [this]
    | c :: cs, hG =>
      have h1 := (at_two x c).mp hG.2.1
      have h2 := (List.getElem?_eq_some_iff.mp h1.1).1
      have := hG.1
      omega
  | r :: rs, a, cuts, f, hr, hd, hG, hn => by
    rw [lines_cons] at hd
    have hat : ∀ j, x.cps.toList[a + j]? = (r ++ [13, 10] ++ lines rs)[j]? := fun j => by rw [← hd, List.getElem?_drop]
    have hA : At x ⟨#[13, 10]⟩ x.length (a + r.length) := by
      rw [at_two]
      constructor
      · rw [hat]; simp
      · rw [Nat.add_assoc, hat]; simp
    have hno : ∀ k, a ≤ k → k < a + r.length → ¬ At x ⟨#[13, 10]⟩ x.length k := by
      intro k h1 h2 h
      have h3 := ((at_two x k).mp h).1
      obtain ⟨j, rfl⟩ := Nat.exists_eq_add_of_le h1
      rw [hat, List.append_assoc, List.getElem?_append_left (by omega)] at h3
      have h4 := List.mem_of_getElem? h3
      exact hr r (.head _) 13 h4 rfl
    match cuts, hG with
    | [], hG =>
      have e : f = a := hG
      subst e
      exact absurd hA (hn _ (by omega))
    | c :: cs, hG =>
      obtain ⟨h1, h2, h3, h4⟩ := hG
      have hc : c = a + r.length := by
        rcases Nat.lt_trichotomy c (a + r.length) with h | h | h
        · exact absurd h2 (hno c h1 h)
        · exact h
        · exact absurd hA (h3 _ (by omega) h)
      subst hc
      show strSub x a (a + r.length) :: partsFrom x 2 (a + r.length + 2) cs = _
      have e1 : strSub x a (a + r.length) = ⟨r.toArray⟩ := by
        apply str_ext'
        rw [strSub_toList, hd]
        simp
      have hd2 : x.cps.toList.drop (a + r.length + 2) = lines rs := by
        have : x.cps.toList.drop (a + r.length + 2) = (x.cps.toList.drop a).drop (r.length + 2) := by rw [List.drop_drop, Nat.add_assoc]
        rw [this, hd]
        have hl : (r ++ [13, 10]).length = r.length + 2 := by simp
        rw [← hl, List.drop_left]
      rw [e1, chain_rows x rs (a + r.length + 2) cs f (fun q hq => hr q (.tail _ hq)) hd2 h4 hn]
      rfl
theorem lines_split (rows : List (List Nat)) (hne : rows ≠ []) (hr : ∀ r ∈ rows, ∀ c ∈ r, c ≠ 13) : Txt.split ⟨(lines rows).toArray⟩ (Str.ofString "\r\n") = rows.map (fun r => (⟨r.toArray⟩ : Str)) ++ [Str.empty] := by
  rw [crlf_is]
  generalize hx : (⟨(lines rows).toArray⟩ : Str) = x
  have hd : x.cps.toList.drop 0 = lines rows := by rw [← hx]; simp
  obtain ⟨f, hG, hn⟩ := occ_tight x ⟨#[13, 10]⟩ (by decide)
  obtain ⟨r, rs, rfl⟩ := List.exists_cons_of_ne_nil hne
  have hA : At x ⟨#[13, 10]⟩ x.length r.length := by
    rw [at_two]
    rw [List.drop_zero] at hd
    rw [hd, lines_cons]
    constructor
    · simp
    · simp
  have hocc : occurrences x ⟨#[13, 10]⟩ 0 x.length (x.length + 1) ≠ [] := by
    intro h
    rw [h] at hG
    have e : f = 0 := hG
    exact hn r.length (by omega) hA
  unfold Txt.split
  have hk : Builtin.Str.strKind (⟨#[13, 10]⟩ : Str) = 1 := by decide +kernel
  have hk2 : 1 ≤ Builtin.Str.strKind x := by unfold Builtin.Str.strKind; (repeat' split) <;> omega
  have hl : 2 ≤ x.length := by have := hA.1; have e : (⟨#[13, 10]⟩ : Str).length = 2 := rfl; omega
  have hl2 : (⟨#[13, 10]⟩ : Str).length = 2 := rfl
  rw [if_neg (by rw [hk, hl2]; simp; omega), if_neg (by rw [List.isEmpty_iff]; exact hocc), partsBetween_eq]
  exact chain_rows x (r :: rs) 0 _ f hr hd hG hn
end Mine
end

section -- text LAWP
theorem Mine.rows_off_LAWP : True := by
  k_with_none
  trivial
open PySem PySem.W PyProof.Rows
set_option Elab.async false
set_option maxRecDepth 100000
set_option maxHeartbeats 1000000
set_option linter.all false
namespace Mine
/-- the sign at a place -/
noncomputable def sgn (V : Int) (p : Nat) : Nat := (fmText V).cps.toList.getD p 0
noncomputable def chOf (V : Int) (p : Nat) : Nat := if sgn V p = 45 then 46 else sgn V p
noncomputable def eolOf (V : Int) (p : Nat) : List Nat := if (V + (p : Int)).fmod 3 = 0 then [10] else if (V + (p : Int)).fmod 3 = 1 then [13] else [13, 10]
noncomputable def rowsM (V : Int) (j : Nat) : List (List Nat × List Nat) := (List.range j).map fun p => ([chOf V p], eolOf V p)
noncomputable def mailS (V : Int) (j : Nat) : Str := ⟨(flat (rowsM V j)).toArray⟩
noncomputable def rowL (d : Nat) (V : Int) (p : Nat) : List Nat := if sgn V p = 45 then List.replicate d 46 else [sgn V p]
noncomputable def rowStr (d : Nat) (V : Int) (p : Nat) : Str := ⟨(rowL d V p).toArray⟩
noncomputable def sentS (d : Nat) (V : Int) : Str := ⟨(lines ((List.range 10).map (rowL d V))).toArray⟩
noncomputable def pathS (d : Nat) (R : Str) (V : Int) : Str := normOf (((List.range 10).map (rowStr d V)).foldl jstep R)
theorem fm_row {V : Int} (h0 : 0 ≤ V) (h1 : V < 1048576) : fmText V = rowG V 3 := by
  obtain ⟨n, rfl⟩ := Int.eq_ofNat_of_zero_le h0
  exact fm_row' n
noncomputable def okc (c : Nat) : Bool := c != 10 && c != 13 && c != 46 && c != 47
theorem fmT_ok : ∀ i, ((fmT i).all fun p => p.2.cps.toList.all okc) = true
  | 0 => by decide +kernel
  | 1 => by decide +kernel
  | 2 => by decide +kernel
  | 3 => by decide +kernel
  | 4 => by decide +kernel
  | 5 => by decide +kernel
  | 6 => by decide +kernel
  | 7 => by decide +kernel
  | 8 => by decide +kernel
  | n + 9 => show ((fmT 9).all fun p => p.2.cps.toList.all okc) = true by decide +kernel
theorem fmSg_ok (V : Int) (i : Nat) : ∀ c ∈ (fmSg V i).cps.toList, okc c = true := by
  unfold fmSg
  split
  · rename_i p hp
    have h1 := List.mem_of_find?_eq_some hp
    have h2 := List.all_eq_true.mp (fmT_ok i) p h1
    exact List.all_eq_true.mp h2
  · split <;> decide +kernel
theorem sgn_ok (V : Int) {p : Nat} (hp : p < 10) : sgn V p ≠ 10 ∧ sgn V p ≠ 13 ∧ sgn V p ≠ 46 ∧ sgn V p ≠ 47 := by
  have hl : (fmText V).cps.toList.length = 10 := fmText_len V
  have hm : sgn V p ∈ (fmText V).cps.toList := by
    unfold sgn
    rw [List.getD_eq_getElem?_getD, List.getElem?_eq_getElem (by omega), Option.getD_some]
    exact List.getElem_mem _
  have hok : ∀ c ∈ (fmText V).cps.toList, okc c = true := by
    intro c hc
    unfold fmText at hc
    rw [empty_is, txt_join_empty] at hc
    obtain ⟨x, hx, hcx⟩ := List.mem_flatMap.mp (show c ∈ cat _ from hc)
    obtain ⟨i, _, rfl⟩ := List.mem_map.mp hx
    exact fmSg_ok V i c hcx
  have := hok _ hm
  unfold okc at this
  simp only [Bool.and_eq_true, bne_iff_ne, ne_eq] at this
  exact ⟨this.1.1.1, this.1.1.2, this.1.2, this.2⟩
theorem mail_succ (V : Int) (j : Nat) : mailS V (j + 1) = mailS V j ++ (one (chOf V j) ++ ⟨(eolOf V j).toArray⟩) := by
  apply str_ext'
  rw [lst_app, lst_app]
  show (flat (rowsM V (j + 1))).toArray.toList = (flat (rowsM V j)).toArray.toList ++ ([chOf V j] ++ (eolOf V j).toArray.toList)
  rw [List.toList_toArray, List.toList_toArray, List.toList_toArray]
  unfold rowsM flat
  rw [List.range_succ, List.map_append, List.flatMap_append]
  simp
theorem flat_le {α : Type} (f : α → List Nat) (k : Nat) : ∀ L : List α, (∀ x ∈ L, (f x).length ≤ k) → (L.flatMap f).length ≤ k * L.length
  | [], _ => by simp
  | x :: r, h => by
    have h1 := h x (.head _)
    have h2 := flat_le f k r fun y hy => h y (.tail _ hy)
    rw [List.flatMap_cons, List.length_append, List.length_cons, Nat.mul_succ]; omega
theorem eolOf_cases (V : Int) (p : Nat) : eolOf V p = [10] ∨ eolOf V p = [13] ∨ eolOf V p = [13, 10] := by
  unfold eolOf; split
  · exact .inl rfl
  · split
    · exact .inr (.inl rfl)
    · exact .inr (.inr rfl)
theorem chOf_ok (V : Int) {p : Nat} (hp : p < 10) : chOf V p ≠ 10 ∧ chOf V p ≠ 13 := by
  unfold chOf
  split
  · exact ⟨by decide, by decide⟩
  · exact ⟨(sgn_ok V hp).1, (sgn_ok V hp).2.1⟩
theorem flat_len (V : Int) (j : Nat) : (flat (rowsM V j)).length ≤ 3 * j := by
  have := flat_le (fun r : List Nat × List Nat => r.1 ++ r.2) 3 (rowsM V j) (by
    intro r hr
    obtain ⟨p, _, rfl⟩ := List.mem_map.mp hr
    rcases eolOf_cases V p with e | e | e <;> simp [e])
  have hl : (rowsM V j).length = j := by unfold rowsM; simp
  rw [hl] at this; exact this
theorem mail_ok (V : Int) : ∀ r ∈ rowsM V 10, OkRow r := by
  intro r hr
  obtain ⟨p, hp, rfl⟩ := List.mem_map.mp hr
  have hp' := List.mem_range.mp hp
  refine ⟨by simp, ?_, eolOf_cases V p⟩
  intro c hc
  rw [List.mem_singleton.mp hc]; exact chOf_ok V hp'
theorem row1_is (V : Int) (p : Nat) : rowL 1 V p = [chOf V p] := by
  unfold rowL chOf; split <;> rfl
theorem row2_is (V : Int) {p : Nat} (hp : p < 10) : dbl [chOf V p] = rowL 2 V p := by
  have h := (sgn_ok V hp).2.2.1
  unfold rowL chOf dbl
  split
  · rfl
  · simp [h]
theorem row3_is (V : Int) {p : Nat} (hp : p < 10) : dbl (rowL 2 V p) = rowL 3 V p := by
  have h := (sgn_ok V hp).2.2.1
  unfold rowL dbl
  split
  · rfl
  · simp [h]
theorem map_lt {α : Type} {f g : Nat → α} {n : Nat} (h : ∀ p, p < n → f p = g p) : (List.range n).map f = (List.range n).map g :=
  List.map_congr_left fun p hp => h p (List.mem_range.mp hp)
theorem fixed_mail (V : Int) : (⟨(fixed (rowsM V 10)).toArray⟩ : Str) = sentS 1 V := by
  rw [fixed_lines]
  unfold sentS rowsM
  rw [List.map_map]
  have : (List.range 10).map ((fun x : List Nat × List Nat => x.1) ∘ fun p => ([chOf V p], eolOf V p)) = (List.range 10).map (rowL 1 V) := map_lt fun p _ => (row1_is V p).symm
  rw [this]
theorem dbl_mail (V : Int) : (⟨(lines (((rowsM V 10).map (·.1)).map dbl)).toArray⟩ : Str) = sentS 2 V := by
  unfold sentS rowsM
  rw [List.map_map, List.map_map]
  have : (List.range 10).map ((dbl ∘ fun x : List Nat × List Nat => x.1) ∘ fun p => ([chOf V p], eolOf V p)) = (List.range 10).map (rowL 2 V) := map_lt fun p hp => row2_is V hp
  rw [this]
noncomputable def rowsO (V : Int) : List (List Nat × List Nat) := (List.range 10).map fun p => (rowL 2 V p, [13, 10])
theorem once_flat (V : Int) : (sentS 2 V).cps.toList = flat (rowsO V) := by
  unfold sentS rowsO flat lines
  rw [List.toList_toArray, List.flatMap_map, List.flatMap_map]
theorem rowL_len (d : Nat) (V : Int) (p : Nat) (hd : 1 ≤ d) : (rowL d V p).length ≤ d := by
  unfold rowL; split
  · simp
  · simpa using hd
theorem once_ok (V : Int) : ∀ r ∈ rowsO V, OkRow r := by
  intro r hr
  obtain ⟨p, hp, rfl⟩ := List.mem_map.mp hr
  have hp' := List.mem_range.mp hp
  refine ⟨?_, ?_, .inr (.inr rfl)⟩
  · show rowL 2 V p ≠ []
    unfold rowL; split <;> simp
  · intro c hc
    have hc' : c ∈ rowL 2 V p := hc
    unfold rowL at hc'
    split at hc'
    · rw [List.eq_of_mem_replicate hc']; decide
    · rw [List.mem_singleton.mp hc']; exact ⟨(sgn_ok V hp').1, (sgn_ok V hp').2.1⟩
theorem dbl_once (V : Int) : (⟨(lines (((rowsO V).map (·.1)).map dbl)).toArray⟩ : Str) = sentS 3 V := by
  unfold sentS rowsO
  rw [List.map_map, List.map_map]
  have : (List.range 10).map ((dbl ∘ fun x : List Nat × List Nat => x.1) ∘ fun p => (rowL 2 V p, [13, 10])) = (List.range 10).map (rowL 3 V) := map_lt fun p hp => row3_is V hp
  rw [this]
theorem once_len (V : Int) : (flat (rowsO V)).length ≤ 40 ∧ (fixed (rowsO V)).length ≤ 40 := by
  have hl : (rowsO V).length = 10 := by unfold rowsO; simp
  have h1 := flat_le (fun r : List Nat × List Nat => r.1 ++ r.2) 4 (rowsO V) (by
    intro r hr
    obtain ⟨p, _, rfl⟩ := List.mem_map.mp hr
    have := rowL_len 2 V p (by omega)
    rw [List.length_append]; simp; omega)
  have h2 := flat_le (fun r : List Nat × List Nat => r.1 ++ [13, 10]) 4 (rowsO V) (by
    intro r hr
    obtain ⟨p, _, rfl⟩ := List.mem_map.mp hr
    have := rowL_len 2 V p (by omega)
    rw [List.length_append]; simp; omega)
  rw [hl] at h1 h2
  exact ⟨h1, h2⟩
theorem fixedm_len (V : Int) : (fixed (rowsM V 10)).length ≤ 40 := by
  have hl : (rowsM V 10).length = 10 := by unfold rowsM; simp
  have h2 := flat_le (fun r : List Nat × List Nat => r.1 ++ [13, 10]) 4 (rowsM V 10) (by
    intro r hr
    obtain ⟨p, _, rfl⟩ := List.mem_map.mp hr
    simp)
  rw [hl] at h2
  exact h2
theorem fix_mail (w : World) (loose : List Str) (mean : ExcName → Option Value) (mg mb : Str → Option Value) (news : List (Addr × Obj)) (V : Int) (tk : Tok) :
    Cl 1 w loose mean mg mb 62 news [.str (mailS V 10) tk] (fun t => .str (sentS 1 V) t) := by
  have h := fix_spec w loose mean mg mb news (mailS V 10) tk (rowsM V 10) (by unfold mailS; simp) (mail_ok V) (by unfold rowsM; simp) (by have := flat_len V 10; omega)
  rw [fixed_mail] at h
  exact h
theorem quote_mail (w : World) (loose : List Str) (mean : ExcName → Option Value) (mg mb : Str → Option Value) (news : List (Addr × Obj)) (V : Int) (tk : Tok) :
    Cl 1 w loose mean mg mb 55 news [.str (mailS V 10) tk] (fun t => .str (sentS 2 V) t) := by
  have h := quote_spec w loose mean mg mb news (mailS V 10) tk (rowsM V 10) (by unfold mailS; simp) (mail_ok V) (by unfold rowsM; simp) (by have := flat_len V 10; omega) (by have := fixedm_len V; omega)
  rw [dbl_mail] at h
  exact h
theorem quote_once (w : World) (loose : List Str) (mean : ExcName → Option Value) (mg mb : Str → Option Value) (news : List (Addr × Obj)) (V : Int) (tk : Tok) :
    Cl 1 w loose mean mg mb 55 news [.str (sentS 2 V) tk] (fun t => .str (sentS 3 V) t) := by
  have h := quote_spec w loose mean mg mb news (sentS 2 V) tk (rowsO V) (once_flat V) (once_ok V) (by unfold rowsO; simp) (by have := once_len V; omega) (by have := once_len V; omega)
  rw [dbl_once] at h
  exact h
theorem lr_spec' (w : World) (loose : List Str) (mean : ExcName → Option Value) (mg mb : Str → Option Value) (news : List (Addr × Obj)) (V : Int) (tk : Tok) (h0 : 0 ≤ V) (h1 : V < 1048576) :
    Cl 2 w loose mean mg mb 229 news [.int V tk] (fun t => .str (fmText V) t) := by
  rw [fm_row h0 h1]; exact lr_spec w loose mean mg mb news V tk h0 h1
theorem sent_join (d : Nat) (V : Int) : sentS d V = Txt.join (Str.ofString "") ((List.range 10).map fun p => rowStr d V p ++ Str.ofString "\r\n") := by
  rw [empty_is, txt_join_empty]
  apply str_ext'
  unfold sentS lines cat
  rw [List.flatMap_map, List.flatMap_map]
  show _ = ((List.range 10).flatMap _).toArray.toList
  rw [List.toList_toArray, List.toList_toArray]
  congr 1
  funext p
  rw [lst_app]; rfl
theorem sent_split (d : Nat) (V : Int) (hd : 1 ≤ d) : Txt.split (sentS d V) (Str.ofString "\r\n") = (List.range 10).map (rowStr d V) ++ [Str.empty] := by
  have h := lines_split ((List.range 10).map (rowL d V)) (by simp) (by
    intro r hr c hc
    obtain ⟨p, hp, rfl⟩ := List.mem_map.mp hr
    have hp' := List.mem_range.mp hp
    unfold rowL at hc
    split at hc
    · rw [List.eq_of_mem_replicate hc]; decide
    · rw [List.mem_singleton.mp hc]; exact (sgn_ok V hp').2.1)
  rw [List.map_map] at h
  exact h
theorem sent_len (d : Nat) (V : Int) (hd : d ≤ 3) : (sentS d V).length ≤ 50 := by
  show (lines ((List.range 10).map (rowL d V))).toArray.size ≤ 50
  rw [List.size_toArray]
  unfold lines
  rw [List.flatMap_map]
  have := flat_le (fun p => rowL d V p ++ [13, 10]) 5 (List.range 10) (by
    intro p _
    rw [List.length_append]
    unfold rowL; split
    · simp; omega
    · simp)
  simpa using this
theorem rowStr_len (d : Nat) (V : Int) (p : Nat) (hd : d ≤ 3) : (rowStr d V p).length ≤ 3 := by
  show (rowL d V p).toArray.size ≤ 3
  rw [List.size_toArray]
  unfold rowL; split
  · simp; omega
  · simp
theorem eol_is {V : Int} {p : Nat} {R : Str} (h : (V + (p : Int)).fmod 3 = 0 ∧ R = Str.ofString "\n" ∨ (V + (p : Int)).fmod 3 = 1 ∧ R = Str.ofString "\r" ∨ (V + (p : Int)).fmod 3 = 2 ∧ R = Str.ofString "\r\n") : R = ⟨(eolOf V p).toArray⟩ := by
  unfold eolOf
  rcases h with ⟨h, rfl⟩ | ⟨h, rfl⟩ | ⟨h, rfl⟩ <;> rw [h] <;> decide +kernel
theorem mail_dash {V : Int} {p : Nat} {R : Str} (hp : p < 10) (hc : (Txt.item (fmText V) (p : Int) == Str.ofString "-") = true) (h : (V + (p : Int)).fmod 3 = 0 ∧ R = Str.ofString "\n" ∨ (V + (p : Int)).fmod 3 = 1 ∧ R = Str.ofString "\r" ∨ (V + (p : Int)).fmod 3 = 2 ∧ R = Str.ofString "\r\n") :
    mailS V p ++ (Str.ofString "." ++ R) = mailS V (p + 1) := by
  have e := item_is (fmText_len V) hp
  rw [e] at hc
  have hs : sgn V p = 45 := one_dash hc
  rw [mail_succ, ← eol_is h]
  unfold chOf; rw [if_pos hs]; rfl
theorem mail_sign {V : Int} {p : Nat} {R : Str} (hp : p < 10) (hc : (Txt.item (fmText V) (p : Int) == Str.ofString "-") = false) (h : (V + (p : Int)).fmod 3 = 0 ∧ R = Str.ofString "\n" ∨ (V + (p : Int)).fmod 3 = 1 ∧ R = Str.ofString "\r" ∨ (V + (p : Int)).fmod 3 = 2 ∧ R = Str.ofString "\r\n") :
    mailS V p ++ (Txt.item (fmText V) (p : Int) ++ R) = mailS V (p + 1) := by
  have e := item_is (fmText_len V) hp
  rw [e] at hc ⊢
  have hs : ¬ sgn V p = 45 := one_nodash hc
  rw [mail_succ, ← eol_is h]
  unfold chOf; rw [if_neg hs]; rfl
theorem mail_len (V : Int) (p : Nat) : (mailS V p).length ≤ 3 * p := by
  have := flat_len V p
  show (flat (rowsM V p)).toArray.size ≤ _
  rw [List.size_toArray]; exact this
theorem pm_y2 {y : Str} (h : y ∉ [Str.ofString "place", Str.ofString "mail"]) : y ≠ Str.ofString "place" ∧ y ≠ Str.ofString "mail" := by simpa using h
theorem r3_len {k : Int} {a b c R : Str} (h : k = 0 ∧ R = a ∨ k = 1 ∧ R = b ∨ k = 2 ∧ R = c) (ha : a.length ≤ 2) (hb : b.length ≤ 2) (hc : c.length ≤ 2) : R.length ≤ 2 := by
  rcases h with ⟨_, rfl⟩ | ⟨_, rfl⟩ | ⟨_, rfl⟩ <;> assumption
/-- a comprehension that gives texts -/
noncomputable def JT (led : List (Addr × Obj)) (f : Nat → Str) (i : Nat) (ys : List Value) (nx : List (Addr × Obj)) : Prop :=
  nx = led ∧ ∃ cs : List (Str × Tok), ys = strValues cs ∧ cs.map (·.1) = (List.range i).map f
theorem jt_end {h₀ h' : Heap} {L I C D : Addr} {m : Str → Option Value} {s : Shared} {oI oC : Obj} {led : List (Addr × Obj)} {f : Nat → Str} {i : Nat} {cs : List (Str × Tok)} {c : Str} {t : Tok} {tk' : Nat}
    (F : Fr h₀ L h' m) (N : News h₀ L h' ((I, oI) :: (C, oC) :: (D, LCg.lst (strValues cs)) :: led)) (off : ∀ p ∈ led, p.1 ≠ I ∧ p.1 ≠ C ∧ p.1 ≠ D) (hz : cs.map (·.1) = (List.range i).map f) (hc : c = f i) :
    CEnd h₀ L m s I oI C oC D (strValues cs) (JT led f (i + 1)) (strValues cs ++ [.str c t]) { s with heap := h', toks := tk' } := by
  refine ⟨h', tk', led, rfl, F, N, off, rfl, cs ++ [(c, t)], by unfold strValues; rw [List.map_append]; rfl, ?_⟩
  rw [List.map_append, hz, List.range_succ, List.map_append, hc]; rfl
theorem sg_at {V : Int} {i : Nat} {v : Value} (h : SignAt (fmText V) i v) : i < 10 ∧ ∃ u, v = .str (one (sgn V i)) u := by
  obtain ⟨c, u, hc, rfl⟩ := h
  have hs : (fmText V).cps.size = 10 := fmText_len V
  obtain ⟨hlt, hv⟩ := Array.getElem?_eq_some_iff.mp hc
  refine ⟨by omega, u, ?_⟩
  have : sgn V i = c := by
    unfold sgn
    rw [List.getD_eq_getElem?_getD, Array.getElem?_toList, hc]; rfl
  rw [this]; rfl
theorem mul_dots {d : Nat} (hd : d = 1 ∨ d = 2 ∨ d = 3) : Txt.mul (Str.ofString ".") (d : Int) = ⟨(List.replicate d 46).toArray⟩ := by
  rcases hd with rfl | rfl | rfl <;> decide +kernel
theorem row_dash {d : Nat} {V : Int} {i : Nat} (h : (one (sgn V i) == Str.ofString "-") = true) : (⟨(List.replicate d 46).toArray⟩ : Str) = rowStr d V i := by
  have := one_dash h
  unfold rowStr rowL; rw [if_pos this]
theorem row_sign {d : Nat} {V : Int} {i : Nat} (h : (one (sgn V i) == Str.ofString "-") = false) : one (sgn V i) = rowStr d V i := by
  have := one_nodash h
  unfold rowStr rowL; rw [if_neg this]; rfl
/-- what the lists of one way of quoting hold after n modes -/
noncomputable def LawTx (ms : List Int) (R : Str) (d : Nat) (n : Nat) (q : List (Str × Tok)) (els : Els) : Prop :=
  q.map (·.1) = (ms.take n).map (pathS d R) ∧ textsOf els = (ms.take n).map (fun z => namesOf d (fmText z) R)
noncomputable def LawSt (forb : List Addr) (cd d1 d2 d3 p1 p2 p3 : Addr) (fx : List (Addr × Obj)) (ms : List Int) (R : Str) (n1 n2 n3 : Nat) (nx : List (Addr × Obj)) : Prop :=
  ∃ (q1 q2 q3 : List (Str × Tok)) (els1 els2 els3 : Els) (k1 k2 k3 k4 k5 k6 : Nat) (oc : Obj) (vc : Option Value) (nw : List (Addr × Obj)),
    nx = (d1, W.listOf (refsOf els1).toArray k1) :: (d2, W.listOf (refsOf els2).toArray k2) :: (d3, W.listOf (refsOf els3).toArray k3) ::
      (p1, W.listOf (strValues q1).toArray k4) :: (p2, W.listOf (strValues q2).toArray k5) :: (p3, W.listOf (strValues q3).toArray k6) :: (cd, oc) :: (fx ++ nw) ∧
    oc.data = .cell vc ∧ (∀ p ∈ objsOf els1, p ∈ nw) ∧ (∀ p ∈ objsOf els2, p ∈ nw) ∧ (∀ p ∈ objsOf els3, p ∈ nw) ∧ (∀ a ∈ forb, ∀ p ∈ nw, p.1 ≠ a) ∧
    LawTx ms R 1 n1 q1 els1 ∧ LawTx ms R 2 n2 q2 els2 ∧ LawTx ms R 3 n3 q3 els3
theorem LawSt.el {forb : List Addr} {cd d1 d2 d3 p1 p2 p3 : Addr} {fx : List (Addr × Obj)} {ms : List Int} {R : Str} {n1 n2 n3 : Nat} {nx : List (Addr × Obj)} {C : Prop} (h : LawSt forb cd d1 d2 d3 p1 p2 p3 fx ms R n1 n2 n3 nx)
    (k : ∀ (q1 q2 q3 : List (Str × Tok)) (els1 els2 els3 : Els) (k1 k2 k3 k4 k5 k6 : Nat) (oc : Obj) (vc : Option Value) (nw : List (Addr × Obj)),
      nx = (d1, W.listOf (refsOf els1).toArray k1) :: (d2, W.listOf (refsOf els2).toArray k2) :: (d3, W.listOf (refsOf els3).toArray k3) ::
        (p1, W.listOf (strValues q1).toArray k4) :: (p2, W.listOf (strValues q2).toArray k5) :: (p3, W.listOf (strValues q3).toArray k6) :: (cd, oc) :: (fx ++ nw) →
      oc.data = .cell vc → (∀ p ∈ objsOf els1, p ∈ nw) → (∀ p ∈ objsOf els2, p ∈ nw) → (∀ p ∈ objsOf els3, p ∈ nw) → (∀ a ∈ forb, ∀ p ∈ nw, p.1 ≠ a) →
      LawTx ms R 1 n1 q1 els1 → LawTx ms R 2 n2 q2 els2 → LawTx ms R 3 n3 q3 els3 → C) : C := by
  obtain ⟨q1, q2, q3, els1, els2, els3, k1, k2, k3, k4, k5, k6, oc, vc, nw, e, hoc, ho1, ho2, ho3, hnw, hT1, hT2, hT3⟩ := h
  exact k q1 q2 q3 els1 els2 els3 k1 k2 k3 k4 k5 k6 oc vc nw e hoc ho1 ho2 ho3 hnw hT1 hT2 hT3
theorem law_tx {ms : List Int} {R : Str} {d n : Nat} {q : List (Str × Tok)} {els : Els} {V : Int} {l : List (Str × Tok)} {P : Str} {t : Tok} {T : Addr} {k : Nat} (h : LawTx ms R d n q els) (hV : ms[n]? = some V) (hP : P = pathS d R V) (hl : l.map (·.1) = namesOf d (fmText V) R) :
    LawTx ms R d (n + 1) (q ++ [(P, t)]) (els ++ [(T, l, k)]) := by
  have ht : ms.take (n + 1) = ms.take n ++ [V] := by rw [List.take_add_one, hV]; rfl
  refine ⟨?_, ?_⟩
  · rw [List.map_append, h.1, ht, List.map_append, hP]; rfl
  · show (els ++ [(T, l, k)]).map _ = _
    rw [List.map_append, ht, List.map_append]
    have := h.2
    unfold textsOf at this
    rw [this]
    show _ ++ [l.map (·.1)] = _
    rw [hl]; rfl
theorem sent_at {T1 T2 T3 : Addr} {j : Nat} {v : Value} (h : [Value.ref T1, .ref T2, .ref T3][j]? = some v) : (v = .ref T1 ∧ j = 0) ∨ (v = .ref T2 ∧ j = 1) ∨ (v = .ref T3 ∧ j = 2) := by
  match j, h with
  | 0, h => exact .inl ⟨(Option.some.inj h).symm, rfl⟩
  | 1, h => exact .inr (.inl ⟨(Option.some.inj h).symm, rfl⟩)
  | 2, h => exact .inr (.inr ⟨(Option.some.inj h).symm, rfl⟩)
  | n + 3, h => simp at h
theorem off1 {nx : List (Addr × Obj)} {I : Addr} {o : Obj} (h : ∀ p ∈ nx, p.1 ≠ I) : ∀ p ∈ nx, ∀ q ∈ [(I, o)], p.1 ≠ q.1 := fun p hp q hq => by rw [List.mem_singleton.mp hq]; exact h p hp
/-- the frame over the modes, and the ledger -/
noncomputable def LJ (m₀ : Str → Option Value) (forb : List Addr) (cd d1 d2 d3 p1 p2 p3 : Addr) (fx : List (Addr × Obj)) (ms : List Int) (R : Str) (i : Nat) (m : Str → Option Value) (nx : List (Addr × Obj)) : Prop :=
  (∀ y, y ∉ [Str.ofString "mode", Str.ofString "signs", Str.ofString "mail", Str.ofString "place", Str.ofString "once", Str.ofString "sent", Str.ofString "rows", Str.ofString "names", Str.ofString "path"] → m y = m₀ y) ∧ LawSt forb cd d1 d2 d3 p1 p2 p3 fx ms R i i i nx
/-- the frame over the ways of quoting one mail, and the ledger -/
noncomputable def LJ2 (m₀ : Str → Option Value) (forb : List Addr) (cd d1 d2 d3 p1 p2 p3 : Addr) (fx : List (Addr × Obj)) (ms : List Int) (R : Str) (n : Nat) (i : Nat) (m : Str → Option Value) (nx : List (Addr × Obj)) : Prop :=
  (∀ y, y ∉ [Str.ofString "sent", Str.ofString "rows", Str.ofString "names", Str.ofString "path"] → m y = m₀ y) ∧ LawSt forb cd d1 d2 d3 p1 p2 p3 fx ms R (if 0 < i then n + 1 else n) (if 1 < i then n + 1 else n) (if 2 < i then n + 1 else n) nx
/-- the frame over the places of a mail -/
noncomputable def LM (m₀ : Str → Option Value) (led : List (Addr × Obj)) (V : Int) (i : Nat) (m : Str → Option Value) (nx : List (Addr × Obj)) : Prop :=
  (∀ y, y ∉ [Str.ofString "place", Str.ofString "mail"] → m y = m₀ y) ∧ nx = led ∧ ∃ t, m (Str.ofString "mail") = some (.str (mailS V i) t)
theorem d1N {d : Nat} (h : d = 1 ∨ d = 2 ∨ d = 3) : 1 ≤ d := by rcases h with rfl | rfl | rfl <;> decide
end Mine
end

section -- text LAWN
theorem Mine.rows_off_LAWN : True := by
  k_with_none
  trivial
open PySem PySem.W PyProof.Rows PySem.StrLaws PySem.Builtin.Str
set_option Elab.async false
set_option maxRecDepth 100000
set_option maxHeartbeats 1000000
set_option linter.all false
namespace Mine
theorem slash_is : Str.ofString "/" = ⟨#[47]⟩ := by decide +kernel
theorem len_list (x : Str) : x.length = x.cps.toList.length := by simp [Str.length]
theorem start_iff (x : Str) : Txt.startswith x (Str.ofString "/") = true ↔ x.cps.toList[0]? = some 47 := by
  rw [slash_is]
  unfold Txt.startswith
  rw [← subAt_one x 47 0, Bool.and_eq_true, decide_eq_true_iff]
theorem end_iff (x : Str) : Txt.endswith x (Str.ofString "/") = true ↔ x.cps.toList.getLast? = some 47 := by
  rw [slash_is, List.getLast?_eq_getElem?, ← len_list]
  unfold Txt.endswith
  have e : (⟨#[47]⟩ : Str).length = 1 := rfl
  rw [← subAt_one x 47 (x.length - 1), Bool.and_eq_true, decide_eq_true_iff, e]
  constructor
  · rintro ⟨h1, h2⟩; exact ⟨by omega, h2⟩
  · rintro ⟨h1, h2⟩; exact ⟨by omega, h2⟩
/-- a part of a path: some signs, no slash -/
noncomputable def Seg (b : Str) : Prop := b.cps.toList ≠ [] ∧ 47 ∉ b.cps.toList
theorem Seg.start {b : Str} (h : Seg b) : Txt.startswith b (Str.ofString "/") = false := by
  rw [Bool.eq_false_iff]; intro e
  exact h.2 (List.mem_of_getElem? ((start_iff b).mp e))
theorem last_app {l l' : List Nat} (h : l' ≠ []) : (l ++ l').getLast? = l'.getLast? := by
  rw [List.getLast?_append]
  cases h' : l'.getLast? with
  | none => exact absurd (List.getLast?_eq_none_iff.mp h') h
  | some c => rfl
noncomputable def tailJ (bs : List Str) : List Nat := bs.flatMap fun b => 47 :: b.cps.toList
theorem jstep_in {p b : Str} (hp : p.cps.toList ≠ []) (hl : p.cps.toList.getLast? ≠ some 47) (hb : Seg b) : (jstep p b).cps.toList = p.cps.toList ++ 47 :: b.cps.toList := by
  unfold jstep
  have h0 : p.length ≠ 0 := by rw [len_list]; exact fun e => hp (List.length_eq_zero_iff.mp e)
  rw [if_neg (by rw [hb.start]; rintro (e | e); exact Bool.false_ne_true e; exact h0 e), if_neg (by intro e; exact hl ((end_iff p).mp e)), lst_app, lst_app, slash_is]
  rfl
theorem last_in {p : List Nat} {b : Str} (hb : Seg b) : (p ++ 47 :: b.cps.toList).getLast? ≠ some 47 := by
  intro e
  rw [last_app (by simp)] at e
  rw [List.getLast?_cons] at e
  have h1 : b.cps.toList.getLast? ≠ none := by intro q; exact hb.1 (List.getLast?_eq_none_iff.mp q)
  obtain ⟨c, hc⟩ := Option.ne_none_iff_exists'.mp h1
  rw [hc] at e
  have : c = 47 := by simpa using e
  exact hb.2 (this ▸ List.mem_of_getLast? hc)
theorem jfold_in : ∀ (bs : List Str) (p : Str), p.cps.toList ≠ [] → p.cps.toList.getLast? ≠ some 47 → (∀ b ∈ bs, Seg b) → (bs.foldl jstep p).cps.toList = p.cps.toList ++ tailJ bs
  | [], p, _, _, _ => by simp [tailJ]
  | b :: bs, p, hp, hl, hb => by
    have h1 := jstep_in hp hl (hb b (.head _))
    rw [List.foldl_cons, jfold_in bs (jstep p b) (by rw [h1]; simp) (by rw [h1]; exact last_in (hb b (.head _))) fun q hq => hb q (.tail _ hq), h1]
    unfold tailJ
    rw [List.flatMap_cons, List.append_assoc]
theorem join_list : ∀ (b : Str) (bs : List Str), (Txt.join (Str.ofString "/") (b :: bs)).cps.toList = b.cps.toList ++ tailJ bs := by
  intro b bs
  show (glued _ _).cps.toList = _
  rw [glued_eq_join]
  induction bs generalizing b with
  | nil => simp [Str.join, tailJ]
  | cons c r ih =>
    show (b ++ Str.ofString "/" ++ Str.join (Str.ofString "/") (c :: r)).cps.toList = _
    rw [lst_app, lst_app, ih, slash_is]
    unfold tailJ
    rw [List.flatMap_cons]
    simp
theorem jfold_root {R : Str} (hR : R = Str.ofString "" ∨ R = Str.ofString "/" ∨ R = Str.ofString "//") (b : Str) (bs : List Str) (h : ∀ c ∈ b :: bs, Seg c) :
    (b :: bs).foldl jstep R = R ++ Txt.join (Str.ofString "/") (b :: bs) := by
  have hb := h b (.head _)
  have h1 : jstep R b = R ++ b := by
    unfold jstep
    rcases hR with rfl | rfl | rfl
    · rw [if_pos (.inr rfl)]
      apply str_ext'; rw [lst_app]; rfl
    · rw [if_neg (by rw [hb.start]; rintro (e | e); exact Bool.false_ne_true e; exact absurd e (by decide +kernel)), if_pos (by decide +kernel)]
    · rw [if_neg (by rw [hb.start]; rintro (e | e); exact Bool.false_ne_true e; exact absurd e (by decide +kernel)), if_pos (by decide +kernel)]
  rw [List.foldl_cons, h1]
  apply str_ext'
  have h1 : b.cps.toList.getLast? ≠ none := by intro q; exact hb.1 (List.getLast?_eq_none_iff.mp q)
  obtain ⟨c, hc⟩ := Option.ne_none_iff_exists'.mp h1
  rw [jfold_in bs (R ++ b) (by rw [lst_app]; simp [hb.1]) (by rw [lst_app, last_app hb.1]; intro e; exact hb.2 (List.mem_of_getLast? e)) fun q hq => h q (.tail _ hq), lst_app, lst_app, join_list, List.append_assoc]
theorem slice_ab (x : Str) (a b : Nat) (hab : a ≤ b) (hb : b ≤ x.length) : (Txt.slice x (some (a : Int)) (some (b : Int))).cps.toList = (x.cps.toList.drop a).take (b - a) := by
  unfold Txt.slice
  rw [strSliceIndices_plain hab hb]
  have hl := len_list x
  split
  · rename_i h
    simp at h
    have : a = 0 ∧ b = x.length := by omega
    rw [this.1, this.2, hl, List.drop_zero, Nat.sub_zero, List.take_length]
  · show (List.filterMap _ _).toArray.toList = _
    rw [List.toList_toArray, ← picks x.cps.toList (b - a) a (by omega)]
    simp
theorem slice_lo (x : Str) (b : Nat) (hb : b ≤ x.length) : (Txt.slice x none (some (b : Int))).cps.toList = x.cps.toList.take b := by
  have e : Txt.slice x none (some (b : Int)) = Txt.slice x (some ((0 : Nat) : Int)) (some (b : Int)) := by
    unfold Txt.slice; rw [sliceIdx_none_lo]; rfl
  rw [e, slice_ab x 0 b (by omega) hb, List.drop_zero, Nat.sub_zero]
theorem slice_hi (x : Str) (a : Nat) (ha : a ≤ x.length) : (Txt.slice x (some (a : Int)) none).cps.toList = x.cps.toList.drop a := by
  have e : Txt.slice x (some (a : Int)) none = Txt.slice x (some (a : Int)) (some ((x.length : Nat) : Int)) := by
    unfold Txt.slice; rw [sliceIdx_none_hi]
  rw [e, slice_ab x a x.length ha (Nat.le_refl _), List.take_of_length_le (by rw [List.length_drop, len_list]; omega)]
theorem str_ne {a b : Str} (h : a.cps.toList ≠ b.cps.toList) : (a != b) = true := by
  rw [bne_iff_ne]; intro e; exact h (by rw [e])
theorem str_eq {a b : Str} (h : a.cps.toList = b.cps.toList) : a = b := str_ext' h
/-- the root and the rest of a path made of a root and parts -/
theorem root_of {R y : Str} (hR : R = Str.ofString "" ∨ R = Str.ofString "/" ∨ R = Str.ofString "//") {c1 c2 c3 : Nat} {r : List Nat} (hy : y.cps.toList = c1 :: c2 :: c3 :: r) (h1 : c1 ≠ 47) :
    slOf (R ++ y) = R ∧ reOf (R ++ y) = y := by
  generalize hx : R ++ y = x
  have hl : x.cps.toList = R.cps.toList ++ y.cps.toList := by rw [← hx, lst_app]
  have hn := len_list x
  have s1 : 1 ≤ x.length → (Txt.slice x none (some 1)).cps.toList = x.cps.toList.take 1 := fun h => slice_lo x 1 h
  have s2 : 2 ≤ x.length → (Txt.slice x (some 1) (some 2)).cps.toList = (x.cps.toList.drop 1).take 1 := fun h => slice_ab x 1 2 (by omega) h
  have s3 : 3 ≤ x.length → (Txt.slice x (some 2) (some 3)).cps.toList = (x.cps.toList.drop 2).take 1 := fun h => slice_ab x 2 3 (by omega) h
  have s4 : 2 ≤ x.length → (Txt.slice x none (some 2)).cps.toList = x.cps.toList.take 2 := fun h => slice_lo x 2 h
  have s5 : 1 ≤ x.length → (Txt.slice x (some 1) none).cps.toList = x.cps.toList.drop 1 := fun h => slice_hi x 1 h
  have s6 : 2 ≤ x.length → (Txt.slice x (some 2) none).cps.toList = x.cps.toList.drop 2 := fun h => slice_hi x 2 h
  have eq : (Str.ofString "/").cps.toList = [47] := by rw [slash_is]
  unfold slOf reOf
  rcases hR with rfl | rfl | rfl
  · have hl' : x.cps.toList = c1 :: c2 :: c3 :: r := by rw [hl, hy]; rfl
    rw [hl'] at hn
    simp only [List.length_cons] at hn
    have t1 := s1 (by omega)
    rw [hl'] at t1
    have n1 : (Txt.slice x none (some 1) != Str.ofString "/") = true := str_ne (by rw [t1, eq]; simpa using h1)
    rw [if_pos n1, if_pos n1]
    exact ⟨rfl, str_eq (by rw [hl', hy])⟩
  · have hl' : x.cps.toList = 47 :: c1 :: c2 :: c3 :: r := by rw [hl, hy, eq]; rfl
    rw [hl'] at hn
    simp only [List.length_cons] at hn
    have t1 := s1 (by omega)
    have t2 := s2 (by omega)
    have t5 := s5 (by omega)
    rw [hl'] at t1 t2 t5
    have n1 : ¬ (Txt.slice x none (some 1) != Str.ofString "/") = true := by
      rw [str_eq (a := Txt.slice x none (some 1)) (b := Str.ofString "/") (by rw [t1, eq]; rfl)]; simp
    have n2 : (Txt.slice x (some 1) (some 2) != Str.ofString "/") = true := str_ne (by rw [t2, eq]; simpa using h1)
    rw [if_neg n1, if_neg n1, if_pos (.inl n2), if_pos (.inl n2)]
    exact ⟨rfl, str_eq (by rw [t5, hy]; rfl)⟩
  · have hl' : x.cps.toList = 47 :: 47 :: c1 :: c2 :: c3 :: r := by
      have e2 : (Str.ofString "//").cps.toList = [47, 47] := by
        have : Str.ofString "//" = ⟨#[47, 47]⟩ := by decide +kernel
        rw [this]
      rw [hl, hy, e2]; rfl
    rw [hl'] at hn
    simp only [List.length_cons] at hn
    have t1 := s1 (by omega)
    have t2 := s2 (by omega)
    have t3 := s3 (by omega)
    have t4 := s4 (by omega)
    have t6 := s6 (by omega)
    rw [hl'] at t1 t2 t3 t4 t6
    have n1 : ¬ (Txt.slice x none (some 1) != Str.ofString "/") = true := by
      rw [str_eq (a := Txt.slice x none (some 1)) (b := Str.ofString "/") (by rw [t1, eq]; rfl)]; simp
    have n2 : ¬ (Txt.slice x (some 1) (some 2) != Str.ofString "/") = true := by
      rw [str_eq (a := Txt.slice x (some 1) (some 2)) (b := Str.ofString "/") (by rw [t2, eq]; rfl)]; simp
    have n3 : ¬ (Txt.slice x (some 2) (some 3) == Str.ofString "/") = true := by
      have := str_ne (a := Txt.slice x (some 2) (some 3)) (b := Str.ofString "/") (by rw [t3, eq]; simpa using h1)
      intro e
      rw [bne, e] at this; exact Bool.noConfusion this
    have n4 : ¬ ((Txt.slice x (some 1) (some 2) != Str.ofString "/") = true ∨ (Txt.slice x (some 2) (some 3) == Str.ofString "/") = true) := fun h => h.elim n2 n3
    rw [if_neg n1, if_neg n1, if_neg n4, if_neg n4]
    refine ⟨str_eq ?_, str_eq (by rw [t6, hy]; rfl)⟩
    have e2 : Str.ofString "//" = ⟨#[47, 47]⟩ := by decide +kernel
    rw [t4, e2]; rfl
theorem join_unique : ∀ (L L' : List Str), L ≠ [] → L' ≠ [] → (∀ b ∈ L, 47 ∉ b.cps.toList) → (∀ b ∈ L', 47 ∉ b.cps.toList) → Str.join (Str.ofString "/") L = Str.join (Str.ofString "/") L' → L = L' := by
  have key : ∀ (a b : List Nat) (u v : List Str), 47 ∉ a → 47 ∉ b → a ++ tailJ u = b ++ tailJ v → a = b ∧ tailJ u = tailJ v := by
    intro a
    induction a with
    | nil =>
      intro b u v _ hb h
      match b with
      | [] => exact ⟨rfl, h⟩
      | c :: b' =>
        match u with
        | [] => simp [tailJ] at h
        | q :: u' =>
          simp only [tailJ, List.flatMap_cons, List.nil_append, List.cons_append, List.cons.injEq] at h
          exact absurd (h.1 ▸ List.mem_cons_self) hb
    | cons d a' ih =>
      intro b u v ha hb h
      match b with
      | [] =>
        match v with
        | [] => simp [tailJ] at h
        | q :: v' =>
          simp only [tailJ, List.flatMap_cons, List.nil_append, List.cons_append, List.cons.injEq] at h
          exact absurd (h.1 ▸ List.mem_cons_self) ha
      | c :: b' =>
        rw [List.cons_append, List.cons_append, List.cons.injEq] at h
        have := ih b' u v (fun m => ha (.tail _ m)) (fun m => hb (.tail _ m)) h.2
        exact ⟨by rw [h.1, this.1], this.2⟩
  have tails : ∀ (u v : List Str), (∀ b ∈ u, 47 ∉ b.cps.toList) → (∀ b ∈ v, 47 ∉ b.cps.toList) → tailJ u = tailJ v → u = v := by
    intro u
    induction u with
    | nil =>
      intro v _ _ h
      match v with
      | [] => rfl
      | q :: v' => simp [tailJ] at h
    | cons p u' ih =>
      intro v hu hv h
      match v with
      | [] => simp [tailJ] at h
      | q :: v' =>
        have h' : p.cps.toList ++ tailJ u' = q.cps.toList ++ tailJ v' := by
          simpa only [tailJ, List.flatMap_cons, List.cons_append, List.cons.injEq, true_and] using h
        obtain ⟨e1, e2⟩ := key _ _ _ _ (hu p (.head _)) (hv q (.head _)) h'
        rw [str_eq e1, ih v' (fun b hb => hu b (.tail _ hb)) (fun b hb => hv b (.tail _ hb)) e2]
  intro L L' h1 h2 hL hL' h
  match L, L', h1, h2 with
  | p :: u, q :: v, _, _ =>
    have h' : p.cps.toList ++ tailJ u = q.cps.toList ++ tailJ v := by
      have a := join_list p u
      have b := join_list q v
      have e : ∀ M, Txt.join (Str.ofString "/") M = Str.join (Str.ofString "/") M := fun M => glued_eq_join _ _
      rw [e] at a b
      rw [← a, ← b, h]
    obtain ⟨e1, e2⟩ := key _ _ _ _ (hL p (.head _)) (hL' q (.head _)) h'
    rw [str_eq e1, tails u v (fun b hb => hL b (.tail _ hb)) (fun b hb => hL' b (.tail _ hb)) e2]
theorem split_join {b : Str} {bs : List Str} (h : ∀ c ∈ b :: bs, 47 ∉ c.cps.toList) : Txt.split (Txt.join (Str.ofString "/") (b :: bs)) (Str.ofString "/") = b :: bs := by
  have e : Txt.join (Str.ofString "/") (b :: bs) = Str.join (Str.ofString "/") (b :: bs) := glued_eq_join _ _
  have hp := split_pos (Txt.join (Str.ofString "/") (b :: bs)) (Str.ofString "/")
  refine join_unique _ _ (by intro q; rw [q] at hp; simp at hp) (by simp) ?_ h ?_
  · rw [slash_is]; exact split_free _ 47
  · rw [join_split, e]
theorem nstep_dot (sl : Str) (acc : List Str) : nstep sl acc (Str.ofString ".") = acc := by unfold nstep; rw [if_pos (.inr rfl)]
theorem seg_len {b : Str} (h : Seg b) : b.length ≠ 0 := by rw [len_list]; exact fun e => h.1 (List.length_eq_zero_iff.mp e)
theorem nstep_push {sl : Str} {acc : List Str} {b : Str} (h : Seg b) (h1 : b ≠ Str.ofString ".") (h2 : b ≠ Str.ofString "..") : nstep sl acc b = acc ++ [b] := by
  unfold nstep
  rw [if_neg (by rintro (e | e); exact seg_len h e; exact h1 e), if_pos (.inl h2)]
theorem dd_seg : Seg (Str.ofString "..") := by
  have : Str.ofString ".." = ⟨#[46, 46]⟩ := by decide +kernel
  rw [this]; exact ⟨by simp, by simp⟩
theorem dd_len : (Str.ofString "..").length ≠ 0 := seg_len dd_seg
theorem dd_dot : Str.ofString ".." ≠ Str.ofString "." := by decide +kernel
theorem nstep_up {sl : Str} (acc : List Str) : nstep sl acc (Str.ofString "..") = if (sl.length = 0 ∧ acc = []) ∨ acc.getLast? = some (Str.ofString "..") then acc ++ [Str.ofString ".."] else acc.dropLast := by
  unfold nstep
  rw [if_neg (by rintro (e | e); exact dd_len e; exact dd_dot e)]
  by_cases h : (sl.length = 0 ∧ acc = []) ∨ acc.getLast? = some (Str.ofString "..")
  · rw [if_pos (.inr h), if_pos h]
  · rw [if_neg (by rintro (e | e); exact e rfl; exact h e), if_neg h]
noncomputable def upN (sl : Str) : Nat → List Str → List Str
  | 0, acc => acc
  | k + 1, acc => upN sl k (nstep sl acc (Str.ofString ".."))
theorem upN_root {sl : Str} (h : sl.length ≠ 0) : ∀ k, upN sl k [] = []
  | 0 => rfl
  | k + 1 => by
    show upN sl k (nstep sl [] (Str.ofString "..")) = []
    rw [nstep_up, if_neg (by rintro (e | e); exact h e.1; simp at e)]
    exact upN_root h k
theorem upN_free {sl : Str} (h : sl.length = 0) : ∀ k j, upN sl k (List.replicate j (Str.ofString "..")) = List.replicate (j + k) (Str.ofString "..")
  | 0, j => rfl
  | k + 1, j => by
    show upN sl k (nstep sl (List.replicate j (Str.ofString "..")) (Str.ofString "..")) = _
    have e : nstep sl (List.replicate j (Str.ofString "..")) (Str.ofString "..") = List.replicate (j + 1) (Str.ofString "..") := by
      rw [nstep_up, if_pos, List.replicate_succ']
      match j with
      | 0 => exact .inl ⟨h, rfl⟩
      | j + 1 => refine .inr ?_; rw [List.replicate_succ', List.getLast?_append]; rfl
    rw [e, upN_free h k (j + 1)]
    congr 1; omega
/-- the row of a sign, and what the law's names make of it -/
noncomputable def rowC (d : Nat) (c : Nat) : Str := if c = 45 then ⟨(List.replicate d 46).toArray⟩ else one c
noncomputable def okS (c : Nat) : Prop := c ≠ 46 ∧ c ≠ 47
theorem one_seg {c : Nat} (h : okS c) : Seg (one c) ∧ one c ≠ Str.ofString "." ∧ one c ≠ Str.ofString ".." := by
  refine ⟨⟨by simp [one], by simp [one]; exact fun e => h.2 e.symm⟩, ?_, ?_⟩
  · have : Str.ofString "." = one 46 := by decide +kernel
    rw [this]; exact fun e => h.1 (one_inj e)
  · have : Str.ofString ".." = ⟨#[46, 46]⟩ := by decide +kernel
    rw [this]; intro e
    have := congrArg (fun z : Str => z.cps.toList.length) e
    simp [one] at this
theorem lstep_dash2 (st : List Str × Int) : lstep 2 st 45 = (st.1, st.2 + 1) := by unfold lstep; rw [if_pos ⟨rfl, rfl⟩]
theorem lstep_up {dots : Int} {st : List Str × Int} {c : Nat} (h : c ≠ 45) (h0 : 0 < st.2) : lstep dots st c = (st.1, st.2 - 1) := by
  unfold lstep; rw [if_neg (fun e => h e.1), if_pos ⟨h, h0⟩]
theorem lstep_put {dots : Int} {st : List Str × Int} {c : Nat} (h : c ≠ 45) (h0 : ¬ 0 < st.2) : lstep dots st c = (st.1 ++ [one c], st.2) := by
  unfold lstep; rw [if_neg (fun e => h e.1), if_neg (fun e => h0 e.2), if_pos (.inl h), if_neg h]
theorem lstep_dash1 (st : List Str × Int) : lstep 1 st 45 = st := by
  unfold lstep; rw [if_neg (by rintro ⟨_, e⟩; exact absurd e (by decide)), if_neg (by rintro ⟨e, _⟩; exact e rfl), if_neg (by rintro (e | e); exact e rfl; exact absurd e (by decide))]
theorem lstep_dash3 (st : List Str × Int) : lstep 3 st 45 = (st.1 ++ [Str.ofString "..."], st.2) := by
  unfold lstep; rw [if_neg (by rintro ⟨_, e⟩; exact absurd e (by decide)), if_neg (by rintro ⟨e, _⟩; exact e rfl), if_pos (.inr rfl), if_pos rfl]
noncomputable def back (dots : Int) (sg : List Nat) : List Str × Int := sg.foldr (fun c st => lstep dots st c) ([], 0)
theorem back_is (dots : Int) {sg : List Nat} (h : sg.length = 10) : lfold dots sg 10 = back dots sg := by
  unfold lfold back
  rw [List.take_of_length_le (by rw [List.length_reverse, h]; exact Nat.le_refl _), List.foldl_reverse]
theorem back_nn (dots : Int) : ∀ sg, 0 ≤ (back dots sg).2
  | [] => Int.le_refl 0
  | c :: r => (lstep_len dots (back dots r) c).2.2 (back_nn dots r)
theorem stack2 (sl : Str) : ∀ (sg : List Nat) (acc : List Str), (∀ c ∈ sg, okS c) → (sg.map (rowC 2)).foldl (nstep sl) acc = upN sl (back 2 sg).2.toNat acc ++ (back 2 sg).1.reverse
  | [], acc, _ => by show acc = upN sl 0 acc ++ []; simp [upN]
  | c :: r, acc, h => by
    have ih := fun a => stack2 sl r a fun q hq => h q (.tail _ hq)
    rw [List.map_cons, List.foldl_cons, ih]
    have hb : back 2 (c :: r) = lstep 2 (back 2 r) c := rfl
    have hn := back_nn 2 r
    rw [hb]
    by_cases hc : c = 45
    · subst hc
      rw [lstep_dash2]
      have e : rowC 2 45 = Str.ofString ".." := by decide +kernel
      have e2 : ((back 2 r).2 + 1).toNat = (back 2 r).2.toNat + 1 := by obtain ⟨m, hm⟩ := Int.eq_ofNat_of_zero_le hn; rw [hm]; rfl
      rw [e]; dsimp only; rw [e2]; rfl
    · have hs := one_seg (h c (.head _))
      have e : rowC 2 c = one c := if_neg hc
      rw [e, nstep_push hs.1 hs.2.1 hs.2.2]
      by_cases hd : 0 < (back 2 r).2
      · rw [lstep_up hc hd]
        obtain ⟨k, hk'⟩ : ∃ k : Nat, (back 2 r).2 = (k : Int) + 1 := by
          obtain ⟨m, hm⟩ := Int.eq_ofNat_of_zero_le hn
          cases m with
          | zero => rw [hm] at hd; exact absurd hd (by decide)
          | succ k => exact ⟨k, hm⟩
        have hk : (back 2 r).2.toNat = k + 1 := by rw [hk']; rfl
        have e2 : ((back 2 r).2 - 1).toNat = k := by rw [hk']; exact congrArg Int.toNat (Int.add_sub_cancel (k : Int) 1)
        dsimp only
        rw [hk, e2]
        show upN sl k (nstep sl (acc ++ [one c]) (Str.ofString "..")) ++ _ = _
        rw [nstep_up, if_neg (by
          rintro (e | e)
          · exact absurd e.2 (by simp)
          · rw [List.getLast?_append] at e; exact hs.2.2 (by simpa using e)), List.dropLast_concat]
      · rw [lstep_put hc hd]
        have e2 : (back 2 r).2.toNat = 0 := by omega
        dsimp only
        rw [e2]
        show acc ++ [one c] ++ _ = acc ++ _
        rw [List.reverse_append]; simp
theorem stack1 (sl : Str) : ∀ (sg : List Nat) (acc : List Str), (∀ c ∈ sg, okS c) → (sg.map (rowC 1)).foldl (nstep sl) acc = acc ++ (back 1 sg).1.reverse ∧ (back 1 sg).2 = 0
  | [], acc, _ => ⟨by show acc = acc ++ []; simp, rfl⟩
  | c :: r, acc, h => by
    have ih := fun a => stack1 sl r a fun q hq => h q (.tail _ hq)
    rw [List.map_cons, List.foldl_cons, (ih _).1]
    have hb : back 1 (c :: r) = lstep 1 (back 1 r) c := rfl
    have h0 := (ih []).2
    rw [hb]
    by_cases hc : c = 45
    · subst hc
      have e : rowC 1 45 = Str.ofString "." := by decide +kernel
      rw [lstep_dash1, e, nstep_dot]; exact ⟨rfl, h0⟩
    · have hs := one_seg (h c (.head _))
      have e : rowC 1 c = one c := if_neg hc
      rw [e, nstep_push hs.1 hs.2.1 hs.2.2, lstep_put hc (by omega)]
      refine ⟨?_, h0⟩
      dsimp only; rw [List.reverse_append]; simp
theorem stack3 (sl : Str) : ∀ (sg : List Nat) (acc : List Str), (∀ c ∈ sg, okS c) → (sg.map (rowC 3)).foldl (nstep sl) acc = acc ++ (back 3 sg).1.reverse ∧ (back 3 sg).2 = 0
  | [], acc, _ => ⟨by show acc = acc ++ []; simp, rfl⟩
  | c :: r, acc, h => by
    have ih := fun a => stack3 sl r a fun q hq => h q (.tail _ hq)
    rw [List.map_cons, List.foldl_cons, (ih _).1]
    have hb : back 3 (c :: r) = lstep 3 (back 3 r) c := rfl
    have h0 := (ih []).2
    rw [hb]
    by_cases hc : c = 45
    · subst hc
      have e : rowC 3 45 = Str.ofString "..." := by decide +kernel
      have e3 : Str.ofString "..." = ⟨#[46, 46, 46]⟩ := by decide +kernel
      have hs : Seg (Str.ofString "...") := by rw [e3]; exact ⟨by simp, by simp⟩
      rw [lstep_dash3, e, nstep_push hs (by decide +kernel) (by decide +kernel)]
      refine ⟨?_, h0⟩
      dsimp only; rw [List.reverse_append]; simp
    · have hs := one_seg (h c (.head _))
      have e : rowC 3 c = one c := if_neg hc
      rw [e, nstep_push hs.1 hs.2.1 hs.2.2, lstep_put hc (by omega)]
      refine ⟨?_, h0⟩
      dsimp only; rw [List.reverse_append]; simp
theorem names_is {d : Nat} (hd : d = 1 ∨ d = 2 ∨ d = 3) {x R : Str} (hx : x.length = 10) (hR : R = Str.ofString "" ∨ R = Str.ofString "/" ∨ R = Str.ofString "//") (h : ∀ c ∈ x.cps.toList, okS c) :
    (x.cps.toList.map (rowC d)).foldl (nstep R) [] = namesOf d x R := by
  have hl : x.cps.toList.length = 10 := by rw [← len_list]; exact hx
  unfold namesOf
  rw [back_is _ hl, List.reverse_append]
  rcases hd with rfl | rfl | rfl
  · obtain ⟨h1, h2⟩ := stack1 R x.cps.toList [] h
    rw [h1]
    have h2' : (back ((1 : Nat) : Int) x.cps.toList).2 = 0 := h2
    rw [h2']
    split <;> rfl
  · rw [stack2 R x.cps.toList [] h]
    show _ = (if (R == Str.ofString "") = true then List.replicate (back 2 x.cps.toList).2.toNat (Str.ofString "..") else []).reverse ++ (back 2 x.cps.toList).1.reverse
    congr 1
    rcases hR with rfl | rfl | rfl
    · rw [if_pos (by decide +kernel), List.reverse_replicate]
      have := upN_free (sl := Str.ofString "") rfl (back 2 x.cps.toList).2.toNat 0
      rw [Nat.zero_add] at this; exact this
    · rw [if_neg (by decide +kernel), upN_root (by decide +kernel)]; rfl
    · rw [if_neg (by decide +kernel), upN_root (by decide +kernel)]; rfl
  · obtain ⟨h1, h2⟩ := stack3 R x.cps.toList [] h
    rw [h1]
    have h2' : (back ((3 : Nat) : Int) x.cps.toList).2 = 0 := h2
    rw [h2']
    split <;> rfl
theorem sgn_all (V : Int) : ∀ c ∈ (fmText V).cps.toList, okS c := by
  intro c hc
  obtain ⟨p, hp, e⟩ := List.mem_iff_getElem.mp hc
  have hl : (fmText V).cps.toList.length = 10 := fmText_len V
  have : sgn V p = c := by unfold sgn; rw [List.getD_eq_getElem?_getD, List.getElem?_eq_getElem hp, Option.getD_some]; exact e
  have h := sgn_ok V (p := p) (by omega)
  rw [this] at h
  exact ⟨h.2.2.1, h.2.2.2⟩
theorem rows_map (d : Nat) (V : Int) : (List.range 10).map (rowStr d V) = (fmText V).cps.toList.map (rowC d) := by
  have hl : (fmText V).cps.toList.length = 10 := fmText_len V
  have e := getD_range (fmText V).cps.toList 0
  rw [hl] at e
  have : (fmText V).cps.toList.map (rowC d) = ((List.range 10).map (fun i => (fmText V).cps.toList.getD i 0)).map (rowC d) := by rw [e]
  rw [this, List.map_map]
  apply List.map_congr_left
  intro p _
  show rowStr d V p = rowC d (sgn V p)
  unfold rowStr rowL rowC one
  split <;> rfl
theorem rowC_seg {d : Nat} (hd : 1 ≤ d) {c : Nat} (h : okS c) : Seg (rowC d c) := by
  unfold rowC
  split
  · refine ⟨by simp; omega, ?_⟩
    intro hm
    rw [List.toList_toArray] at hm
    exact absurd (List.eq_of_mem_replicate hm) (by decide)
  · exact (one_seg h).1
theorem path_is (d : Nat) (R : Str) (V : Int) (hd : d = 1 ∨ d = 2 ∨ d = 3) (hR : R = Str.ofString "" ∨ R = Str.ofString "/" ∨ R = Str.ofString "//") :
    pathS d R V = if R ++ Txt.join (Str.ofString "/") (namesOf d (fmText V) R) = Str.ofString "" then Str.ofString "." else R ++ Txt.join (Str.ofString "/") (namesOf d (fmText V) R) := by
  have hl : (fmText V).cps.toList.length = 10 := fmText_len V
  have hn := names_is hd (fmText_len V) hR (sgn_all V)
  have hseg : ∀ b ∈ (fmText V).cps.toList.map (rowC d), Seg b := by
    intro b hb
    obtain ⟨c, hc, rfl⟩ := List.mem_map.mp hb
    exact rowC_seg (d1N hd) (sgn_all V c hc)
  have hlen : ((fmText V).cps.toList.map (rowC d)).length = 10 := by rw [List.length_map, hl]
  unfold pathS
  rw [rows_map, ← hn]
  generalize (fmText V).cps.toList.map (rowC d) = L at *
  match L, hlen with
  | b :: b2 :: bs, _ =>
    rw [jfold_root hR b (b2 :: bs) hseg]
    have hb := hseg b (.head _)
    have hb2 := hseg b2 (.tail _ (.head _))
    have hy := join_list b (b2 :: bs)
    have hsp := split_join (b := b) (bs := b2 :: bs) fun c hc => (hseg c hc).2
    generalize Txt.join (Str.ofString "/") (b :: b2 :: bs) = y at *
    obtain ⟨c1, t1, e1⟩ := List.exists_cons_of_ne_nil hb.1
    obtain ⟨c2, t2, e2⟩ := List.exists_cons_of_ne_nil hb2.1
    have hc1 : c1 ≠ 47 := fun e => hb.2 (by rw [e1, e]; exact .head _)
    have hy2 : y.cps.toList = c1 :: (t1 ++ 47 :: c2 :: (t2 ++ tailJ bs)) := by
      rw [hy, e1]
      unfold tailJ
      rw [List.flatMap_cons, e2]; simp
    obtain ⟨u, v, r, huv⟩ : ∃ u v r, t1 ++ 47 :: c2 :: (t2 ++ tailJ bs) = u :: v :: r := by
      match t1 with
      | [] => exact ⟨_, _, _, rfl⟩
      | [a] => exact ⟨_, _, _, rfl⟩
      | a :: a' :: t => exact ⟨_, _, _, rfl⟩
    rw [huv] at hy2
    obtain ⟨hs, hr⟩ := root_of hR hy2 hc1
    have hnp : npath (R ++ y) = R ++ Txt.join (Str.ofString "/") ((b :: b2 :: bs).foldl (nstep R) []) := by
      unfold npath; rw [hs, hr, hsp]
    have h0 : (R ++ y).length ≠ 0 := by rw [len_list, lst_app, hy2]; simp
    unfold normOf
    rw [if_neg h0, hnp]
    generalize R ++ Txt.join (Str.ofString "/") ((b :: b2 :: bs).foldl (nstep R) []) = z
    by_cases hz : z = Str.ofString ""
    · rw [if_pos hz, if_pos (by rw [hz]; rfl)]
    · rw [if_neg hz, if_neg]
      intro e
      apply hz
      apply str_ext'
      rw [len_list] at e
      rw [List.length_eq_zero_iff.mp e]; rfl
end Mine
end

section -- text LAWD
theorem Mine.rows_off_LAWD : True := by
  k_with_none
  trivial
open PySem PySem.W PyProof.Rows PySem.StrLaws PySem.Builtin.Str
set_option Elab.async false
set_option maxRecDepth 100000
set_option maxHeartbeats 1000000
set_option linter.all false
namespace Mine
/-- the parts that all lists begin with -/
theorem com_is {Ts : List (List Str)} {T0 : List Str} {M most : Nat} (h0 : Ts[0]? = some T0) (hM : M ≤ most) (hm : ∀ T ∈ Ts, most ≤ T.length) (hmost : ∃ T ∈ Ts, T.length = most)
    (h1 : ∀ T ∈ Ts, T.take M = T0.take M) (h2 : ∀ q, q ≤ most → (∀ T ∈ Ts, T.take q = T0.take q) → q ≤ M) : comOf Ts = T0.take M := by
  have hpos : 0 < Ts.length := (List.getElem?_eq_some_iff.mp h0).1
  have hT0 : T0 ∈ Ts := List.mem_of_getElem? h0
  unfold comOf
  have hmn := best_le (bt := fun i j => lexLt ((fun i => Ts.getD i []) i) ((fun i => Ts.getD i []) j)) (Ts.length - 1)
  have hmx := best_le (bt := fun i j => lexGt ((fun i => Ts.getD i []) i) ((fun i => Ts.getD i []) j)) (Ts.length - 1)
  have mem : ∀ i, i ≤ Ts.length - 1 → Ts.getD i [] ∈ Ts := fun i hi => by
    rw [List.getD_eq_getElem?_getD, List.getElem?_eq_getElem (by omega), Option.getD_some]
    exact List.getElem_mem _
  have m1 := mem _ hmn
  have m2 := mem _ hmx
  have btw : ∀ T ∈ Ts, ∃ r, T = lcp (Ts.getD (minAt (fun i => Ts.getD i []) (Ts.length - 1)) []) (Ts.getD (maxAt (fun i => Ts.getD i []) (Ts.length - 1)) []) ++ r := by
    intro T hT
    obtain ⟨j, hj, e⟩ := List.mem_iff_getElem.mp hT
    have ej : Ts.getD j [] = T := by rw [List.getD_eq_getElem?_getD, List.getElem?_eq_getElem hj, Option.getD_some]; exact e
    have a := minAt_is (fun i => Ts.getD i []) (Ts.length - 1) j (by omega)
    have b := maxAt_is (fun i => Ts.getD i []) (Ts.length - 1) j (by omega)
    simp only [ej] at a b
    exact lcp_between a b
  have e1 := h1 _ m1
  have e2 := h1 _ m2
  have l1 := hm _ m1
  have lg := lcp_long M (x := Ts.getD (minAt (fun i => Ts.getD i []) (Ts.length - 1)) []) (y := Ts.getD (maxAt (fun i => Ts.getD i []) (Ts.length - 1)) []) (e1.trans e2.symm) (Nat.le_trans hM l1)
  generalize lcp (Ts.getD (minAt (fun i => Ts.getD i []) (Ts.length - 1)) []) (Ts.getD (maxAt (fun i => Ts.getD i []) (Ts.length - 1)) []) = P at *
  have tk : ∀ T ∈ Ts, T.take P.length = P := by
    intro T hT
    obtain ⟨r, hr⟩ := btw T hT
    rw [hr, List.take_left']; rfl
  have hP : P.length ≤ most := by
    obtain ⟨T, hT, e⟩ := hmost
    obtain ⟨r, hr⟩ := btw T hT
    rw [← e, hr, List.length_append]; omega
  have hPM := h2 _ hP fun T hT => (tk T hT).trans (tk _ hT0).symm
  have : P.length = M := by omega
  rw [← this, tk _ hT0]
theorem seg_keep {b : Str} (h : Seg b) (h1 : b ≠ Str.ofString ".") : keepB b = true := by
  unfold keepB
  have := seg_len h
  simp [this, h1]
/-- a name of the law: a part of a path, not a dot -/
noncomputable def NameOk (b : Str) : Prop := Seg b ∧ b ≠ Str.ofString "."
theorem nm_one {c : Nat} (h : okS c) : NameOk (one c) := ⟨(one_seg h).1, (one_seg h).2.1⟩
theorem nm_dd : NameOk (Str.ofString "..") := ⟨dd_seg, dd_dot⟩
theorem nm_ddd : NameOk (Str.ofString "...") := by
  have e3 : Str.ofString "..." = ⟨#[46, 46, 46]⟩ := by decide +kernel
  exact ⟨by rw [e3]; exact ⟨by simp, by simp⟩, by decide +kernel⟩
theorem lstep_ok {dots : Int} {st : List Str × Int} {c : Nat} (h : okS c) (hs : ∀ b ∈ st.1, NameOk b) : ∀ b ∈ (lstep dots st c).1, NameOk b := by
  unfold lstep
  split
  · exact hs
  · split
    · exact hs
    · split
      · intro b hb
        rcases List.mem_append.mp hb with hb | hb
        · exact hs b hb
        · rw [List.mem_singleton.mp hb]
          split
          · exact nm_ddd
          · exact nm_one h
      · exact hs
theorem back_ok (dots : Int) : ∀ sg : List Nat, (∀ c ∈ sg, okS c) → ∀ b ∈ (back dots sg).1, NameOk b
  | [], _ => fun b hb => nomatch hb
  | c :: r, h => lstep_ok (h c (.head _)) (back_ok dots r fun q hq => h q (.tail _ hq))
theorem names_ok (d : Int) (V : Int) (R : Str) : ∀ b ∈ namesOf d (fmText V) R, NameOk b := by
  intro b hb
  have hl : (fmText V).cps.toList.length = 10 := fmText_len V
  unfold namesOf at hb
  rw [List.mem_reverse, back_is _ hl] at hb
  rcases List.mem_append.mp hb with hb | hb
  · exact back_ok d _ (sgn_all V) b hb
  · split at hb
    · rw [List.eq_of_mem_replicate hb]; exact nm_dd
    · exact nomatch hb
theorem keep_all {L : List Str} (h : ∀ b ∈ L, NameOk b) : L.filter keepB = L := List.filter_eq_self.mpr fun b hb => seg_keep (h b hb).1 (h b hb).2
theorem split_nil : Txt.split (Str.ofString "") (Str.ofString "/") = [Str.ofString ""] := by
  have h := split_join (b := Str.ofString "") (bs := []) (by intro c hc; rw [List.mem_singleton.mp hc]; simp [show Str.ofString "" = ⟨#[]⟩ from rfl])
  have e : Txt.join (Str.ofString "/") [Str.ofString ""] = Str.ofString "" := by
    apply str_ext'; rw [join_list]; simp [tailJ]
  rwa [e] at h
theorem empty_free : 47 ∉ (Str.ofString "").cps.toList := by simp [show Str.ofString "" = ⟨#[]⟩ from rfl]
theorem keep_empty : keepB (Str.ofString "") = false := rfl
/-- the parts of a root and names behind it -/
theorem parts_is {R : Str} (hR : R = Str.ofString "" ∨ R = Str.ofString "/" ∨ R = Str.ofString "//") {L : List Str} (h : ∀ b ∈ L, NameOk b) : partsOf (R ++ Txt.join (Str.ofString "/") L) = L := by
  have fr : ∀ b ∈ L, 47 ∉ b.cps.toList := fun b hb => (h b hb).1.2
  have ee : (Str.ofString "").cps.toList = [] := rfl
  have key : ∀ (pre : List Str) (b : Str) (bs : List Str), (∀ c ∈ pre, c = Str.ofString "") → (∀ c ∈ b :: bs, 47 ∉ c.cps.toList) → R ++ Txt.join (Str.ofString "/") L = Txt.join (Str.ofString "/") (pre ++ b :: bs) → (b :: bs).filter keepB = L → partsOf (R ++ Txt.join (Str.ofString "/") L) = L := by
    intro pre b bs hp hf he hk
    have hall : ∀ c ∈ pre ++ b :: bs, 47 ∉ c.cps.toList := by
      intro c hc
      rcases List.mem_append.mp hc with hc | hc
      · rw [hp c hc]; exact empty_free
      · exact hf c hc
    have hpk : pre.filter keepB = [] := List.filter_eq_nil_iff.mpr fun c hc => by rw [hp c hc, keep_empty]; exact Bool.false_ne_true
    unfold partsOf
    rw [he]
    cases pre with
    | nil =>
      rw [List.nil_append] at hall ⊢
      rw [split_join hall]; exact hk
    | cons p ps =>
      rw [List.cons_append] at hall ⊢
      rw [split_join hall, ← List.cons_append, List.filter_append, hpk, List.nil_append]; exact hk
  have s2 : (Str.ofString "//").cps.toList = [47, 47] := by
    have : Str.ofString "//" = ⟨#[47, 47]⟩ := by decide +kernel
    rw [this]
  have s1 : (Str.ofString "/").cps.toList = [47] := by rw [slash_is]
  have jn : Txt.join (Str.ofString "/") [] = Str.ofString "" := by decide +kernel
  cases L with
  | nil =>
    rcases hR with rfl | rfl | rfl
    · exact key [] (Str.ofString "") [] (by simp) (by intro c hc; rw [List.mem_singleton.mp hc]; exact empty_free) (by apply str_ext'; rw [lst_app, List.nil_append, join_list, jn]; simp [tailJ, ee]) (by simp [keep_empty])
    · exact key [Str.ofString ""] (Str.ofString "") [] (by simp) (by intro c hc; rw [List.mem_singleton.mp hc]; exact empty_free) (by apply str_ext'; rw [lst_app, List.cons_append, join_list, jn]; simp [tailJ, s1, ee]) (by simp [keep_empty])
    · exact key [Str.ofString "", Str.ofString ""] (Str.ofString "") [] (by simp) (by intro c hc; rw [List.mem_singleton.mp hc]; exact empty_free) (by apply str_ext'; rw [lst_app, List.cons_append, join_list, jn]; simp [tailJ, s2, ee]) (by simp [keep_empty])
  | cons b bs =>
    rcases hR with rfl | rfl | rfl
    · exact key [] b bs (by simp) fr (by apply str_ext'; rw [lst_app, List.nil_append, join_list]; simp [ee]) (keep_all h)
    · exact key [Str.ofString ""] b bs (by simp) fr (by apply str_ext'; rw [lst_app, List.cons_append, join_list, join_list]; simp [tailJ, s1, ee]) (keep_all h)
    · exact key [Str.ofString "", Str.ofString ""] b bs (by simp) fr (by apply str_ext'; rw [lst_app, List.cons_append, join_list, join_list]; simp [tailJ, s2, ee]) (keep_all h)
theorem path_parts (d : Nat) (R : Str) (V : Int) (hd : d = 1 ∨ d = 2 ∨ d = 3) (hR : R = Str.ofString "" ∨ R = Str.ofString "/" ∨ R = Str.ofString "//") :
    partsOf (pathS d R V) = namesOf d (fmText V) R := by
  have hp := parts_is hR (names_ok d V R)
  rw [path_is d R V hd hR]
  split
  · rename_i e
    rw [e] at hp
    rw [← hp]
    have : Txt.split (Str.ofString ".") (Str.ofString "/") = [Str.ofString "."] := by
      have h := split_join (b := Str.ofString ".") (bs := []) (by intro c hc; rw [List.mem_singleton.mp hc]; decide +kernel)
      have e : Txt.join (Str.ofString "/") [Str.ofString "."] = Str.ofString "." := by
        apply str_ext'; rw [join_list]; simp [tailJ]
      rwa [e] at h
    unfold partsOf
    rw [this, split_nil]; rfl
  · exact hp
/-- whether a path has a root -/
theorem path_abs (d : Nat) (R : Str) (V : Int) (hd : d = 1 ∨ d = 2 ∨ d = 3) (hR : R = Str.ofString "" ∨ R = Str.ofString "/" ∨ R = Str.ofString "//") :
    Txt.startswith (pathS d R V) (Str.ofString "/") = !(R == Str.ofString "") := by
  rw [path_is d R V hd hR]
  have s2 : (Str.ofString "//").cps.toList = [47, 47] := by
    have : Str.ofString "//" = ⟨#[47, 47]⟩ := by decide +kernel
    rw [this]
  have s1 : (Str.ofString "/").cps.toList = [47] := by rw [slash_is]
  rcases hR with rfl | rfl | rfl
  · have e : (!(Str.ofString "" == Str.ofString "")) = false := by decide +kernel
    rw [e]
    split
    · decide +kernel
    · rename_i hn
      rw [Bool.eq_false_iff]
      intro h
      rw [start_iff, lst_app] at h
      have hok := names_ok d V (Str.ofString "")
      generalize namesOf d (fmText V) (Str.ofString "") = L at *
      cases L with
      | nil => exact hn (by decide +kernel)
      | cons b bs =>
        rw [join_list] at h
        obtain ⟨c1, t1, e1⟩ := List.exists_cons_of_ne_nil (hok b (.head _)).1.1
        have h2 : (([] : List Nat) ++ (b.cps.toList ++ tailJ bs))[0]? = some 47 := h
        rw [e1] at h2
        simp at h2
        exact (hok b (.head _)).1.2 (by rw [e1, h2]; exact .head _)
  · rw [if_neg]
    · have e : (!(Str.ofString "/" == Str.ofString "")) = true := by decide +kernel
      rw [e, start_iff, lst_app, s1]; rfl
    · intro e
      have := congrArg (fun z : Str => z.cps.toList) e
      rw [lst_app, s1] at this
      exact nomatch this
  · rw [if_neg]
    · have e : (!(Str.ofString "//" == Str.ofString "")) = true := by decide +kernel
      rw [e, start_iff, lst_app, s2]; rfl
    · intro e
      have := congrArg (fun z : Str => z.cps.toList) e
      rw [lst_app, s2] at this
      exact nomatch this
/-- the root's first sign -/
theorem root_one {R : Str} (hR : R = Str.ofString "" ∨ R = Str.ofString "/" ∨ R = Str.ofString "//") : Txt.slice R none (some 1) = if (!(R == Str.ofString "")) then Str.ofString "/" else Str.ofString "" := by
  rcases hR with rfl | rfl | rfl <;> decide +kernel
/-- what commonpath gives is what the law reckons -/
theorem cp_law {d : Nat} {R : Str} {zs : List Int} {T0 : List Str} {M most : Nat} (hd : d = 1 ∨ d = 2 ∨ d = 3) (hR : R = Str.ofString "" ∨ R = Str.ofString "/" ∨ R = Str.ofString "//")
    (h0 : (zs.map fun z => namesOf d (fmText z) R)[0]? = some T0) (hM : M ≤ most) (hm : ∀ T ∈ zs.map (fun z => namesOf d (fmText z) R), most ≤ T.length) (hmost : ∃ T ∈ zs.map (fun z => namesOf d (fmText z) R), T.length = most)
    (h1 : ∀ T ∈ zs.map (fun z => namesOf d (fmText z) R), T.take M = T0.take M) (h2 : ∀ q, q ≤ most → (∀ T ∈ zs.map (fun z => namesOf d (fmText z) R), T.take q = T0.take q) → q ≤ M) :
    cpText (!(R == Str.ofString "")) ((zs.map (pathS d R)).map partsOf) = Txt.slice R none (some 1) ++ Txt.join (Str.ofString "/") (T0.take M) := by
  have e : (zs.map (pathS d R)).map partsOf = zs.map fun z => namesOf d (fmText z) R := by
    rw [List.map_map]
    apply List.map_congr_left
    intro z _
    rw [Function.comp_apply]
    exact path_parts d R z hd hR
  unfold cpText
  rw [e, com_is h0 hM hm hmost h1 h2, root_one hR]
end Mine
end

section -- text LAWE
theorem Mine.rows_off_LAWE : True := by
  k_with_none
  trivial
open PySem PySem.W PyProof.Rows PySem.StrLaws PySem.Builtin.Str
set_option Elab.async false
set_option maxRecDepth 100000
set_option maxHeartbeats 1000000
set_option linter.all false
namespace Mine
theorem sent_ok (d : Nat) (V : Int) (hd : d ≤ 3) : JoinOk (Str.ofString "") ((List.range 10).map fun p => rowStr d V p ++ Str.ofString "\r\n") = true := by
  rw [empty_is]
  refine joinOk_empty ?_
  have h := sent_join d V
  rw [empty_is, txt_join_empty] at h
  have hl := sent_len d V hd
  rw [h] at hl
  have : (cat ((List.range 10).map fun p => rowStr d V p ++ Str.ofString "\r\n")).length ≤ 50 := by
    have e : (⟨(cat ((List.range 10).map fun p => rowStr d V p ++ Str.ofString "\r\n")).toArray⟩ : Str).length = (cat ((List.range 10).map fun p => rowStr d V p ++ Str.ofString "\r\n")).length := by
      show (List.toArray _).size = _
      rw [List.size_toArray]
    rw [← e]; exact hl
  rw [sizeLine_eq]; omega
theorem wsum_le {k : Nat} : ∀ {L : List Str}, (∀ b ∈ L, b.length ≤ k) → wsum L ≤ (k + 1) * L.length
  | [], _ => Nat.zero_le _
  | x :: r, h => by
    have h1 := h x (.head _)
    have h2 := wsum_le fun b hb => h b (.tail _ hb)
    rw [wsum_cons, List.length_cons, Nat.mul_succ]; omega
theorem back_len3 (dots : Int) : ∀ sg : List Nat, ∀ b ∈ (back dots sg).1, b.length ≤ 3
  | [] => fun b hb => nomatch hb
  | c :: r => by
    have ih := back_len3 dots r
    show ∀ b ∈ (lstep dots (back dots r) c).1, b.length ≤ 3
    unfold lstep
    split
    · exact ih
    · split
      · exact ih
      · split
        · intro b hb
          rcases List.mem_append.mp hb with hb | hb
          · exact ih b hb
          · rw [List.mem_singleton.mp hb]
            split
            · decide +kernel
            · show (1 : Nat) ≤ 3; omega
        · exact ih
theorem names_len3 (d : Int) (V : Int) (R : Str) : ∀ b ∈ namesOf d (fmText V) R, b.length ≤ 3 := by
  intro b hb
  have hl : (fmText V).cps.toList.length = 10 := fmText_len V
  unfold namesOf at hb
  rw [List.mem_reverse, back_is _ hl] at hb
  rcases List.mem_append.mp hb with hb | hb
  · exact back_len3 d _ b hb
  · split at hb
    · rw [List.eq_of_mem_replicate hb]; decide +kernel
    · exact nomatch hb
theorem names_cnt (d : Int) (V : Int) (R : Str) : (namesOf d (fmText V) R).length ≤ 20 := by
  have hl : (fmText V).cps.toList.length = 10 := fmText_len V
  obtain ⟨h1, h2, h3⟩ := lfold_len (dots := d) hl 10 (Nat.le_refl _)
  unfold namesOf
  rw [List.length_reverse, List.length_append]
  split
  · rw [List.length_replicate]; omega
  · rw [List.length_nil]; omega
theorem names_wsum (d : Int) (V : Int) (R : Str) : wsum (namesOf d (fmText V) R) ≤ 80 := by
  have h1 := wsum_le (names_len3 d V R)
  have h2 := names_cnt d V R
  omega
theorem names_jok (d : Int) (V : Int) (R : Str) : JoinOk (Str.ofString "/") (namesOf d (fmText V) R) = true := joinOk_one (by decide +kernel) (by rw [sizeLine_eq]; have := names_wsum d V R; omega)
theorem names_jlen (d : Int) (V : Int) (R : Str) : (Txt.join (Str.ofString "/") (namesOf d (fmText V) R)).length ≤ 80 := Nat.le_trans (join_len_one (by decide +kernel) _) (names_wsum d V R)
theorem root_len {R : Str} (hR : R = Str.ofString "" ∨ R = Str.ofString "/" ∨ R = Str.ofString "//") : R.length ≤ 2 := by
  rcases hR with rfl | rfl | rfl <;> decide +kernel
theorem path_len (d : Nat) (R : Str) (V : Int) (hd : d = 1 ∨ d = 2 ∨ d = 3) (hR : R = Str.ofString "" ∨ R = Str.ofString "/" ∨ R = Str.ofString "//") : (pathS d R V).length ≤ 100 := by
  rw [path_is d R V hd hR]
  split
  · decide +kernel
  · have h1 := names_jlen d V R
    have h2 := root_len hR
    rw [Str.length_append]; omega
noncomputable def joinS (d : Nat) (R : Str) (V : Int) : Str := ((List.range 10).map (rowStr d V)).foldl jstep R
theorem joinS_len (d : Nat) (R : Str) (V : Int) (hd : d ≤ 3) (hR : R.length ≤ 2) : (joinS d R V).length ≤ 100000 := by
  have h1 := jfold_len ((List.range 10).map (rowStr d V)) R
  have h2 := wsum_le (k := 3) (L := (List.range 10).map (rowStr d V)) (by
    intro b hb
    obtain ⟨p, _, rfl⟩ := List.mem_map.mp hb
    exact rowStr_len d V p hd)
  rw [List.length_map, List.length_range] at h2
  unfold joinS
  omega
theorem join_rows (w : World) (loose : List Str) (mean : ExcName → Option Value) (mg mb : Str → Option Value) (news : List (Addr × Obj)) (d : Nat) (V : Int) (R : Str) (tR t0 t1 t2 t3 t4 t5 t6 t7 t8 t9 : Tok) (hd : d ≤ 3) (hR : R.length ≤ 2) :
    Cl 3 w loose mean mg mb 156 news (.str R tR :: ([.str (rowStr d V 0) t0, .str (rowStr d V 1) t1, .str (rowStr d V 2) t2, .str (rowStr d V 3) t3, .str (rowStr d V 4) t4, .str (rowStr d V 5) t5, .str (rowStr d V 6) t6, .str (rowStr d V 7) t7, .str (rowStr d V 8) t8, .str (rowStr d V 9) t9] ++ [])) (fun t => .str (joinS d R V) t) := by
  have hl : ∀ p, (rowStr d V p).length ≤ 100 := fun p => Nat.le_trans (rowStr_len d V p hd) (by omega)
  exact join_spec w loose mean mg mb news R tR _ _ _ _ _ _ _ _ _ _ [(rowStr d V 0, t0), (rowStr d V 1, t1), (rowStr d V 2, t2), (rowStr d V 3, t3), (rowStr d V 4, t4), (rowStr d V 5, t5), (rowStr d V 6, t6), (rowStr d V 7, t7), (rowStr d V 8, t8), (rowStr d V 9, t9)] rfl (by omega) (Nat.le_refl 10) (List.forall_mem_cons.mpr ⟨hl 0, List.forall_mem_cons.mpr ⟨hl 1, List.forall_mem_cons.mpr ⟨hl 2, List.forall_mem_cons.mpr ⟨hl 3, List.forall_mem_cons.mpr ⟨hl 4, List.forall_mem_cons.mpr ⟨hl 5, List.forall_mem_cons.mpr ⟨hl 6, List.forall_mem_cons.mpr ⟨hl 7, List.forall_mem_cons.mpr ⟨hl 8, List.forall_mem_cons.mpr ⟨hl 9, fun _ h => nomatch h⟩⟩⟩⟩⟩⟩⟩⟩⟩⟩)
theorem norm_rows (w : World) (loose : List Str) (mean : ExcName → Option Value) (mg mb : Str → Option Value) (news : List (Addr × Obj)) (d : Nat) (V : Int) (R : Str) (tk : Tok) (hd : d ≤ 3) (hR : R.length ≤ 2) :
    Cl 3 w loose mean mg mb 170 news [.str (joinS d R V) tk] (fun t => .str (pathS d R V) t) :=
  norm_spec w loose mean mg mb news (joinS d R V) tk (joinS_len d R V hd hR)
theorem path_e1 {P S : Str} {t : Tok} (hp : P = if S = Str.ofString "" then Str.ofString "." else S) (h : (S != Str.ofString "") = true) : Value.str S t = Value.str P t := by
  rw [hp, if_neg (bne_iff_ne.mp h)]
theorem path_e2 {P S : Str} {t : Tok} (hp : P = if S = Str.ofString "" then Str.ofString "." else S) (h : (S != Str.ofString "") = false) : Value.str (Str.ofString ".") t = Value.str P t := by
  have : S = Str.ofString "" := by simpa using h
  rw [hp, if_pos this]
end Mine
end

section -- text LAWO
theorem Mine.rows_off_LAWO : True := by
  k_with_none
  trivial
open PySem PySem.W PyProof.Rows
set_option Elab.async false
set_option maxRecDepth 100000
set_option maxHeartbeats 1000000
set_option linter.all false
namespace Mine
section
variable {m : Str → Option Value} {a b c d : Str} {u v w x : Option Value}
theorem self2 (ha : m a = u) (hb : m b = v) : m = fun y => if y = a then u else if y = b then v else m y := by
  funext y
  repeat' split
  all_goals first | (subst_vars; rfl) | rfl
theorem self3 (ha : m a = u) (hb : m b = v) (hc : m c = w) : m = fun y => if y = a then u else if y = b then v else if y = c then w else m y := by
  funext y
  repeat' split
  all_goals first | (subst_vars; rfl) | rfl
theorem self4 (ha : m a = u) (hb : m b = v) (hc : m c = w) (hd : m d = x) : m = fun y => if y = a then u else if y = b then v else if y = c then w else if y = d then x else m y := by
  funext y
  repeat' split
  all_goals first | (subst_vars; rfl) | rfl
end
theorem pm_y4 {y a b c d : Str} (h : y ∉ [a, b, c, d]) : y ≠ a ∧ y ≠ b ∧ y ≠ c ∧ y ≠ d := by simpa using h
theorem pm_y9 {y a b c d e f g h' i : Str} (h : y ∉ [a, b, c, d, e, f, g, h', i]) : y ≠ a ∧ y ≠ b ∧ y ≠ c ∧ y ≠ d ∧ y ≠ e ∧ y ≠ f ∧ y ≠ g ∧ y ≠ h' ∧ y ≠ i := by simpa using h
theorem strs_snocA (nc : List (Str × Tok)) (c : Str) (t : Tok) : (strValues nc).toArray.push (.str c t) = (strValues (nc ++ [(c, t)])).toArray := by
  unfold strValues; rw [List.map_append]; simp
theorem refs_snocA (els : Els) (T : Addr) (l : List (Str × Tok)) (k : Nat) : (refsOf els).toArray.push (.ref T) = (refsOf (els ++ [(T, l, k)])).toArray := by
  unfold refsOf; rw [List.map_append]; simp
theorem strs_arr {X : Array Value} {nc : List (Str × Tok)} {c : Str} {t : Tok} (h : X.toList = strValues nc ++ [.str c t]) : X = (strValues (nc ++ [(c, t)])).toArray := by
  rw [← strs_snocA]
  apply Array.toList_inj.mp
  rw [h]; simp
theorem refs_arr {X : Array Value} {els : Els} {T : Addr} {l : List (Str × Tok)} {k : Nat} (h : X.toList = refsOf els ++ [.ref T]) : X = (refsOf (els ++ [(T, l, k)])).toArray := by
  rw [← refs_snocA els T l k]
  apply Array.toList_inj.mp
  rw [h]; simp
theorem objs_snoc {els : Els} {nz : List (Addr × Obj)} {T : Addr} {l : List (Str × Tok)} {k : Nat} (h : ∀ p ∈ objsOf els, p ∈ nz) : ∀ p ∈ objsOf (els ++ [(T, l, k)]), p ∈ (T, W.listOf (strValues l).toArray k) :: nz := by
  intro p hp
  unfold objsOf at hp
  rw [List.map_append] at hp
  rcases List.mem_append.mp hp with hp | hp
  · exact .tail _ (h p hp)
  · rw [List.mem_singleton.mp hp]; exact .head _
theorem objs_more {els : Els} {nz : List (Addr × Obj)} {q : Addr × Obj} (h : ∀ p ∈ objsOf els, p ∈ nz) : ∀ p ∈ objsOf els, p ∈ q :: nz := fun p hp => .tail _ (h p hp)
theorem tx_len {ms : List Int} {R : Str} {d n : Nat} {q : List (Str × Tok)} {els : Els} (h : LawTx ms R d n q els) : q.length ≤ ms.length ∧ els.length ≤ ms.length := by
  have h1 := congrArg List.length h.1
  have h2 := congrArg List.length h.2
  unfold textsOf at h2
  simp only [List.length_map, List.length_take] at h1 h2
  omega
theorem tx_size {ms : List Int} {R : Str} {d n : Nat} {q : List (Str × Tok)} {els : Els} (h : LawTx ms R d n q els) (hm : ms.length ≤ 3) : (strValues q).toArray.size ≤ 3 ∧ (refsOf els).toArray.size ≤ 3 := by
  have := tx_len h
  unfold strValues refsOf
  rw [List.size_toArray, List.size_toArray, List.length_map, List.length_map]
  omega
/-- how the addresses of the law's own objects lie -/
noncomputable def Asc : List Nat → Prop
  | a :: b :: r => @LT.lt Nat _ a b ∧ Asc (b :: r)
  | _ => True
theorem Asc.head : ∀ (r : List Nat) {a : Nat}, Asc (a :: r) → ∀ (j : Nat) {b : Nat}, r[j]? = some b → a < b
  | [], _, _, j, b, hb => by simp at hb
  | c :: r, a, h, 0, b, hb => by
    simp at hb; exact hb ▸ h.1
  | c :: r, a, h, j + 1, b, hb => Nat.lt_trans h.1 (Asc.head r h.2 j (by simpa using hb))
theorem Asc.tail : ∀ {r : List Nat} {a : Nat}, Asc (a :: r) → Asc r
  | [], _, _ => trivial
  | _ :: _, _, h => h.2
noncomputable def Chain (kc dc cd D6 p1 p2 p3 aP d1 d2 d3 aD I T1 T2 T3 TT I3 : Nat) : Prop := Asc [kc, dc, cd, D6, p1, p2, p3, aP, d1, d2, d3, aD, I, T1, T2, T3, TT, I3]
theorem all_cons {α : Type} {P : α → Prop} {a : α} {l : List α} (h1 : P a) (h2 : ∀ p ∈ l, P p) : ∀ p ∈ a :: l, P p := List.forall_mem_cons.mpr ⟨h1, h2⟩
theorem mem_at {α : Type} {l : List α} {a : α} (i : Nat) (h : l[i]? = some a) : a ∈ l := List.mem_of_getElem? h
theorem mem_dr {α : Type} {l nz : List α} (i : Nat) (h : l.drop i = nz) : ∀ p ∈ nz, p ∈ l := fun p hp => List.mem_of_mem_drop (i := i) (h ▸ hp)
theorem asc_of (l : List Nat) : Asc l → ∀ (i j : Nat) {a b : Nat}, l[i]? = some a → l[j]? = some b → i < j → a < b := by
  induction l with
  | nil => intro _ i j a b hi; simp at hi
  | cons c r ih =>
    intro h i j a b hi hj hij
    cases j with
    | zero => exact absurd hij (Nat.not_lt_zero _)
    | succ j =>
      rw [List.getElem?_cons_succ] at hj
      cases i with
      | zero => exact Option.some.inj hi ▸ Asc.head r h j hj
      | succ i => exact ih h.tail i j (by rwa [List.getElem?_cons_succ] at hi) hj (Nat.lt_of_succ_lt_succ hij)
section
variable {kc dc cd D6 p1 p2 p3 aP d1 d2 d3 aD I T1 T2 T3 TT I3 T : Addr} {oTT o3 o2 o1 oI oaD oaP o6 oD oK oI3 od od' : Obj} {h₀ h : Heap} {L : Addr} {nz : List (Addr × Obj)}
  {r1 r2 r3 l : List (Str × Tok)} {fls1 fls2 fls3 : Els} {g1 g2 g3 g4 g5 g6 kn n : Nat} {vd : Option Value} {ms : List Int} {R : Str} {nd : Int} {t : Tok} {rest : List (Addr × Obj)}
/-- addresses of two places differ -/
noncomputable def Apart (as : List Nat) : Prop := ∀ (i j : Nat) {a b : Nat}, as[i]? = some a → as[j]? = some b → i < j → a ≠ b
theorem Apart.lo {as : List Nat} (h : Apart as) (i j : Nat) {a b : Nat} (hi : as[i]? = some a) (hj : as[j]? = some b) (hij : Nat.blt i j = true) : (a : Addr) ≠ b := h i j hi hj (by rw [Nat.blt_eq] at hij; exact hij)
theorem Apart.hi {as : List Nat} (h : Apart as) (i j : Nat) {a b : Nat} (hi : as[i]? = some a) (hj : as[j]? = some b) (hij : Nat.blt i j = true) : (b : Addr) ≠ a := (h.lo i j hi hj hij).symm
theorem apart18 (hc : Chain kc dc cd D6 p1 p2 p3 aP d1 d2 d3 aD I T1 T2 T3 TT I3) : Apart [kc, dc, cd, D6, p1, p2, p3, aP, d1, d2, d3, aD, I, T1, T2, T3, TT, I3] := fun i j _ _ hi hj hij => Nat.ne_of_lt (asc_of _ hc i j hi hj hij)
theorem apart19 (hc : Chain kc dc cd D6 p1 p2 p3 aP d1 d2 d3 aD I T1 T2 T3 TT I3) (hT : @LT.lt Nat _ I3 T) : Apart [kc, dc, cd, D6, p1, p2, p3, aP, d1, d2, d3, aD, I, T1, T2, T3, TT, I3, T] := by
  have h : Asc [kc, dc, cd, D6, p1, p2, p3, aP, d1, d2, d3, aD, I, T1, T2, T3, TT, I3, T] := ⟨hc.1, hc.2.1, hc.2.2.1, hc.2.2.2.1, hc.2.2.2.2.1, hc.2.2.2.2.2.1, hc.2.2.2.2.2.2.1, hc.2.2.2.2.2.2.2.1, hc.2.2.2.2.2.2.2.2.1, hc.2.2.2.2.2.2.2.2.2.1, hc.2.2.2.2.2.2.2.2.2.2.1, hc.2.2.2.2.2.2.2.2.2.2.2.1, hc.2.2.2.2.2.2.2.2.2.2.2.2.1, hc.2.2.2.2.2.2.2.2.2.2.2.2.2.1, hc.2.2.2.2.2.2.2.2.2.2.2.2.2.2.1, hc.2.2.2.2.2.2.2.2.2.2.2.2.2.2.2.1, hc.2.2.2.2.2.2.2.2.2.2.2.2.2.2.2.2.1, hT, trivial⟩
  exact fun i j _ _ hi hj hij => Nat.ne_of_lt (asc_of _ h i j hi hj hij)
theorem inner_open (hc : Chain kc dc cd D6 p1 p2 p3 aP d1 d2 d3 aD I T1 T2 T3 TT I3) (hz : ∀ a ∈ (I :: [cd, d1, d2, d3, p1, p2, p3, kc]), ∀ p ∈ nz, p.1 ≠ a) (N : News h₀ L h ((I3, oI3) :: (d1, W.listOf (refsOf fls1).toArray g1) :: (d2, W.listOf (refsOf fls2).toArray g2) :: (d3, W.listOf (refsOf fls3).toArray g3) :: (p1, W.listOf (strValues r1).toArray g4) :: (p2, W.listOf (strValues r2).toArray g5) :: (p3, W.listOf (strValues r3).toArray g6) :: (cd, od) :: ([(TT, oTT), (T3, o3), (T2, o2), (T1, o1), (I, oI), (aD, oaD), (aP, oaP), (D6, o6), (dc, oD), (kc, oK)] ++ nz))) :
    ∃ rest, rest = (d1, W.listOf (refsOf fls1).toArray g1) :: (d2, W.listOf (refsOf fls2).toArray g2) :: (d3, W.listOf (refsOf fls3).toArray g3) :: (p1, W.listOf (strValues r1).toArray g4) :: (p2, W.listOf (strValues r2).toArray g5) :: (p3, W.listOf (strValues r3).toArray g6) :: ([(TT, oTT), (T3, o3), (T2, o2), (T1, o1), (I, oI), (aD, oaD), (aP, oaP), (D6, o6), (dc, oD), (kc, oK)] ++ nz) ∧ News h₀ L h ((I3, oI3) :: (cd, od) :: rest) ∧ (∀ p ∈ rest, p.1 ≠ cd) := by
  have ha := apart18 hc
  exact ⟨_, rfl, cb_drop N (all_cons (mem_at 0 rfl) (all_cons (mem_at 7 rfl) (all_cons (mem_at 1 rfl) (all_cons (mem_at 2 rfl) (all_cons (mem_at 3 rfl) (all_cons (mem_at 4 rfl) (all_cons (mem_at 5 rfl) (all_cons (mem_at 6 rfl) (all_cons (mem_at 8 rfl) (all_cons (mem_at 9 rfl) (all_cons (mem_at 10 rfl) (all_cons (mem_at 11 rfl) (all_cons (mem_at 12 rfl) (all_cons (mem_at 13 rfl) (all_cons (mem_at 14 rfl) (all_cons (mem_at 15 rfl) (all_cons (mem_at 16 rfl) (all_cons (mem_at 17 rfl) (mem_dr 18 rfl))))))))))))))))))), all_cons (ha.hi 2 8 rfl rfl rfl) (all_cons (ha.hi 2 9 rfl rfl rfl) (all_cons (ha.hi 2 10 rfl rfl rfl) (all_cons (ha.hi 2 4 rfl rfl rfl) (all_cons (ha.hi 2 5 rfl rfl rfl) (all_cons (ha.hi 2 6 rfl rfl rfl) (all_cons (ha.hi 2 16 rfl rfl rfl) (all_cons (ha.hi 2 15 rfl rfl rfl) (all_cons (ha.hi 2 14 rfl rfl rfl) (all_cons (ha.hi 2 13 rfl rfl rfl) (all_cons (ha.hi 2 12 rfl rfl rfl) (all_cons (ha.hi 2 11 rfl rfl rfl) (all_cons (ha.hi 2 7 rfl rfl rfl) (all_cons (ha.hi 2 3 rfl rfl rfl) (all_cons (ha.lo 1 2 rfl rfl rfl) (all_cons (ha.lo 0 2 rfl rfl rfl) (hz cd (mem_at 1 rfl)))))))))))))))))⟩
theorem inner_pre1 (hc : Chain kc dc cd D6 p1 p2 p3 aP d1 d2 d3 aD I T1 T2 T3 TT I3) (hT : @LT.lt Nat _ I3 T) (hz : ∀ a ∈ (I :: [cd, d1, d2, d3, p1, p2, p3, kc]), ∀ p ∈ nz, p.1 ≠ a) (hr : rest = (d1, W.listOf (refsOf fls1).toArray g1) :: (d2, W.listOf (refsOf fls2).toArray g2) :: (d3, W.listOf (refsOf fls3).toArray g3) :: (p1, W.listOf (strValues r1).toArray g4) :: (p2, W.listOf (strValues r2).toArray g5) :: (p3, W.listOf (strValues r3).toArray g6) :: ([(TT, oTT), (T3, o3), (T2, o2), (T1, o1), (I, oI), (aD, oaD), (aP, oaP), (D6, o6), (dc, oD), (kc, oK)] ++ nz))
    (N : News h₀ L h ((T, W.listOf (strValues l).toArray kn) :: (I3, oI3) :: (cd, od') :: rest)) :
    ∃ rest2, rest2 = (T, W.listOf (strValues l).toArray kn) :: (I3, oI3) :: (d2, W.listOf (refsOf fls2).toArray g2) :: (d3, W.listOf (refsOf fls3).toArray g3) :: (p2, W.listOf (strValues r2).toArray g5) :: (p3, W.listOf (strValues r3).toArray g6) :: (TT, oTT) :: (T3, o3) :: (T2, o2) :: (T1, o1) :: (I, oI) :: (D6, o6) :: (kc, oK) :: nz ∧ News h₀ L h ((p1, W.listOf (strValues r1).toArray g4) :: (d1, W.listOf (refsOf fls1).toArray g1) :: (cd, od') :: (aP, oaP) :: (aD, oaD) :: (dc, oD) :: rest2) ∧ (∀ p ∈ (d1, W.listOf (refsOf fls1).toArray g1) :: (cd, od') :: (aP, oaP) :: (aD, oaD) :: (dc, oD) :: rest2, p.1 ≠ p1) ∧ (∀ p ∈ (cd, od') :: (aP, oaP) :: (aD, oaD) :: (dc, oD) :: rest2, p.1 ≠ d1) ∧ (∀ o : Obj, (p1, o).1 ≠ d1) := by
  subst hr
  have ha := apart19 hc hT
  exact ⟨_, rfl, cb_drop N (all_cons (mem_at 6 rfl) (all_cons (mem_at 3 rfl) (all_cons (mem_at 2 rfl) (all_cons (mem_at 15 rfl) (all_cons (mem_at 14 rfl) (all_cons (mem_at 17 rfl) (all_cons (mem_at 0 rfl) (all_cons (mem_at 1 rfl) (all_cons (mem_at 4 rfl) (all_cons (mem_at 5 rfl) (all_cons (mem_at 7 rfl) (all_cons (mem_at 8 rfl) (all_cons (mem_at 9 rfl) (all_cons (mem_at 10 rfl) (all_cons (mem_at 11 rfl) (all_cons (mem_at 12 rfl) (all_cons (mem_at 13 rfl) (all_cons (mem_at 16 rfl) (all_cons (mem_at 18 rfl) (mem_dr 19 rfl)))))))))))))))))))), all_cons (ha.hi 4 8 rfl rfl rfl) (all_cons (ha.lo 2 4 rfl rfl rfl) (all_cons (ha.hi 4 7 rfl rfl rfl) (all_cons (ha.hi 4 11 rfl rfl rfl) (all_cons (ha.lo 1 4 rfl rfl rfl) (all_cons (ha.hi 4 18 rfl rfl rfl) (all_cons (ha.hi 4 17 rfl rfl rfl) (all_cons (ha.hi 4 9 rfl rfl rfl) (all_cons (ha.hi 4 10 rfl rfl rfl) (all_cons (ha.hi 4 5 rfl rfl rfl) (all_cons (ha.hi 4 6 rfl rfl rfl) (all_cons (ha.hi 4 16 rfl rfl rfl) (all_cons (ha.hi 4 15 rfl rfl rfl) (all_cons (ha.hi 4 14 rfl rfl rfl) (all_cons (ha.hi 4 13 rfl rfl rfl) (all_cons (ha.hi 4 12 rfl rfl rfl) (all_cons (ha.lo 3 4 rfl rfl rfl) (all_cons (ha.lo 0 4 rfl rfl rfl) (hz p1 (mem_at 5 rfl))))))))))))))))))), all_cons (ha.lo 2 8 rfl rfl rfl) (all_cons (ha.lo 7 8 rfl rfl rfl) (all_cons (ha.hi 8 11 rfl rfl rfl) (all_cons (ha.lo 1 8 rfl rfl rfl) (all_cons (ha.hi 8 18 rfl rfl rfl) (all_cons (ha.hi 8 17 rfl rfl rfl) (all_cons (ha.hi 8 9 rfl rfl rfl) (all_cons (ha.hi 8 10 rfl rfl rfl) (all_cons (ha.lo 5 8 rfl rfl rfl) (all_cons (ha.lo 6 8 rfl rfl rfl) (all_cons (ha.hi 8 16 rfl rfl rfl) (all_cons (ha.hi 8 15 rfl rfl rfl) (all_cons (ha.hi 8 14 rfl rfl rfl) (all_cons (ha.hi 8 13 rfl rfl rfl) (all_cons (ha.hi 8 12 rfl rfl rfl) (all_cons (ha.lo 3 8 rfl rfl rfl) (all_cons (ha.lo 0 8 rfl rfl rfl) (hz d1 (mem_at 2 rfl)))))))))))))))))), fun _ => ha.lo 4 8 rfl rfl rfl⟩
theorem inner_end1 (hc : Chain kc dc cd D6 p1 p2 p3 aP d1 d2 d3 aD I T1 T2 T3 TT I3) (hT : @LT.lt Nat _ I3 T) (hz : ∀ a ∈ (I :: [cd, d1, d2, d3, p1, p2, p3, kc]), ∀ p ∈ nz, p.1 ≠ a) (hz3 : ∀ p ∈ nz, p.1 ≠ I3) (hr2 : rest = (T, W.listOf (strValues l).toArray kn) :: (I3, oI3) :: (d2, W.listOf (refsOf fls2).toArray g2) :: (d3, W.listOf (refsOf fls3).toArray g3) :: (p2, W.listOf (strValues r2).toArray g5) :: (p3, W.listOf (strValues r3).toArray g6) :: (TT, oTT) :: (T3, o3) :: (T2, o2) :: (T1, o1) :: (I, oI) :: (D6, o6) :: (kc, oK) :: nz)
    (hod : od'.data = .cell vd) (ho1 : ∀ p ∈ objsOf fls1, p ∈ nz) (ho2 : ∀ p ∈ objsOf fls2, p ∈ nz) (ho3 : ∀ p ∈ objsOf fls3, p ∈ nz)
    (hU1 : LawTx ms R 1 n r1 fls1) (hU2 : LawTx ms R 2 n r2 fls2) (hU3 : LawTx ms R 3 n r3 fls3) (hV : ms[n]? = some nd) (hl : l.map (·.1) = namesOf ((1 : Nat) : Int) (fmText nd) R)
    {X Y : Array Value} (N : News h₀ L h ((p1, W.listOf X (g4 + 1)) :: (d1, W.listOf Y (g1 + 1)) :: (cd, od') :: (aP, oaP) :: (aD, oaD) :: (dc, oD) :: rest)) (hX : X.toList = strValues r1 ++ [.str (pathS 1 R nd) t]) (hY : Y.toList = refsOf fls1 ++ [.ref T]) :
    ∃ nx, News h₀ L h ([(I3, oI3)] ++ nx) ∧ (∀ p ∈ nx, ∀ q ∈ [(I3, oI3)], p.1 ≠ q.1) ∧ LawSt (I :: [cd, d1, d2, d3, p1, p2, p3, kc]) cd d1 d2 d3 p1 p2 p3 [(TT, oTT), (T3, o3), (T2, o2), (T1, o1), (I, oI), (aD, oaD), (aP, oaP), (D6, o6), (dc, oD), (kc, oK)] ms R (n + 1) n n nx := by
  subst hr2
  rw [strs_arr hX, refs_arr (l := l) (k := kn) hY] at N
  have ha := apart19 hc hT
  have hfT : ∀ a ∈ (I :: [cd, d1, d2, d3, p1, p2, p3, kc]), (T : Addr) ≠ a := all_cons (P := fun a => (T : Addr) ≠ a) (ha.hi 12 18 rfl rfl rfl) (all_cons (P := fun a => (T : Addr) ≠ a) (ha.hi 2 18 rfl rfl rfl) (all_cons (P := fun a => (T : Addr) ≠ a) (ha.hi 8 18 rfl rfl rfl) (all_cons (P := fun a => (T : Addr) ≠ a) (ha.hi 9 18 rfl rfl rfl) (all_cons (P := fun a => (T : Addr) ≠ a) (ha.hi 10 18 rfl rfl rfl) (all_cons (P := fun a => (T : Addr) ≠ a) (ha.hi 4 18 rfl rfl rfl) (all_cons (P := fun a => (T : Addr) ≠ a) (ha.hi 5 18 rfl rfl rfl) (all_cons (P := fun a => (T : Addr) ≠ a) (ha.hi 6 18 rfl rfl rfl) (all_cons (P := fun a => (T : Addr) ≠ a) (ha.hi 0 18 rfl rfl rfl) (fun _ h => nomatch h)))))))))
  exact ⟨(d1, W.listOf (refsOf (fls1 ++ [(T, l, kn)])).toArray (g1 + 1)) :: (d2, W.listOf (refsOf fls2).toArray g2) :: (d3, W.listOf (refsOf fls3).toArray g3) :: (p1, W.listOf (strValues (r1 ++ [(pathS 1 R nd, t)])).toArray (g4 + 1)) :: (p2, W.listOf (strValues r2).toArray g5) :: (p3, W.listOf (strValues r3).toArray g6) :: (cd, od') :: ([(TT, oTT), (T3, o3), (T2, o2), (T1, o1), (I, oI), (aD, oaD), (aP, oaP), (D6, o6), (dc, oD), (kc, oK)] ++ ((T, W.listOf (strValues l).toArray kn) :: nz)), cb_drop N (all_cons (mem_at 7 rfl) (all_cons (mem_at 1 rfl) (all_cons (mem_at 8 rfl) (all_cons (mem_at 9 rfl) (all_cons (mem_at 0 rfl) (all_cons (mem_at 10 rfl) (all_cons (mem_at 11 rfl) (all_cons (mem_at 2 rfl) (all_cons (mem_at 12 rfl) (all_cons (mem_at 13 rfl) (all_cons (mem_at 14 rfl) (all_cons (mem_at 15 rfl) (all_cons (mem_at 16 rfl) (all_cons (mem_at 4 rfl) (all_cons (mem_at 3 rfl) (all_cons (mem_at 17 rfl) (all_cons (mem_at 5 rfl) (all_cons (mem_at 18 rfl) (all_cons (mem_at 6 rfl) (mem_dr 19 rfl)))))))))))))))))))), off1 (all_cons (ha.lo 8 17 rfl rfl rfl) (all_cons (ha.lo 9 17 rfl rfl rfl) (all_cons (ha.lo 10 17 rfl rfl rfl) (all_cons (ha.lo 4 17 rfl rfl rfl) (all_cons (ha.lo 5 17 rfl rfl rfl) (all_cons (ha.lo 6 17 rfl rfl rfl) (all_cons (ha.lo 2 17 rfl rfl rfl) (all_cons (ha.lo 16 17 rfl rfl rfl) (all_cons (ha.lo 15 17 rfl rfl rfl) (all_cons (ha.lo 14 17 rfl rfl rfl) (all_cons (ha.lo 13 17 rfl rfl rfl) (all_cons (ha.lo 12 17 rfl rfl rfl) (all_cons (ha.lo 11 17 rfl rfl rfl) (all_cons (ha.lo 7 17 rfl rfl rfl) (all_cons (ha.lo 3 17 rfl rfl rfl) (all_cons (ha.lo 1 17 rfl rfl rfl) (all_cons (ha.lo 0 17 rfl rfl rfl) (all_cons (ha.hi 17 18 rfl rfl rfl) (hz3))))))))))))))))))), r1 ++ [(pathS 1 R nd, t)], r2, r3, fls1 ++ [(T, l, kn)], fls2, fls3, g1 + 1, g2, g3, g4 + 1, g5, g6, od', vd, (T, W.listOf (strValues l).toArray kn) :: nz, rfl, hod, objs_snoc ho1, objs_more ho2, objs_more ho3, fun a h => all_cons (hfT a h) (hz a h), law_tx hU1 hV rfl hl, hU2, hU3⟩
theorem inner_pre2 (hc : Chain kc dc cd D6 p1 p2 p3 aP d1 d2 d3 aD I T1 T2 T3 TT I3) (hT : @LT.lt Nat _ I3 T) (hz : ∀ a ∈ (I :: [cd, d1, d2, d3, p1, p2, p3, kc]), ∀ p ∈ nz, p.1 ≠ a) (hr : rest = (d1, W.listOf (refsOf fls1).toArray g1) :: (d2, W.listOf (refsOf fls2).toArray g2) :: (d3, W.listOf (refsOf fls3).toArray g3) :: (p1, W.listOf (strValues r1).toArray g4) :: (p2, W.listOf (strValues r2).toArray g5) :: (p3, W.listOf (strValues r3).toArray g6) :: ([(TT, oTT), (T3, o3), (T2, o2), (T1, o1), (I, oI), (aD, oaD), (aP, oaP), (D6, o6), (dc, oD), (kc, oK)] ++ nz))
    (N : News h₀ L h ((T, W.listOf (strValues l).toArray kn) :: (I3, oI3) :: (cd, od') :: rest)) :
    ∃ rest2, rest2 = (T, W.listOf (strValues l).toArray kn) :: (I3, oI3) :: (d1, W.listOf (refsOf fls1).toArray g1) :: (d3, W.listOf (refsOf fls3).toArray g3) :: (p1, W.listOf (strValues r1).toArray g4) :: (p3, W.listOf (strValues r3).toArray g6) :: (TT, oTT) :: (T3, o3) :: (T2, o2) :: (T1, o1) :: (I, oI) :: (D6, o6) :: (kc, oK) :: nz ∧ News h₀ L h ((p2, W.listOf (strValues r2).toArray g5) :: (d2, W.listOf (refsOf fls2).toArray g2) :: (cd, od') :: (aP, oaP) :: (aD, oaD) :: (dc, oD) :: rest2) ∧ (∀ p ∈ (d2, W.listOf (refsOf fls2).toArray g2) :: (cd, od') :: (aP, oaP) :: (aD, oaD) :: (dc, oD) :: rest2, p.1 ≠ p2) ∧ (∀ p ∈ (cd, od') :: (aP, oaP) :: (aD, oaD) :: (dc, oD) :: rest2, p.1 ≠ d2) ∧ (∀ o : Obj, (p2, o).1 ≠ d2) := by
  subst hr
  have ha := apart19 hc hT
  exact ⟨_, rfl, cb_drop N (all_cons (mem_at 7 rfl) (all_cons (mem_at 4 rfl) (all_cons (mem_at 2 rfl) (all_cons (mem_at 15 rfl) (all_cons (mem_at 14 rfl) (all_cons (mem_at 17 rfl) (all_cons (mem_at 0 rfl) (all_cons (mem_at 1 rfl) (all_cons (mem_at 3 rfl) (all_cons (mem_at 5 rfl) (all_cons (mem_at 6 rfl) (all_cons (mem_at 8 rfl) (all_cons (mem_at 9 rfl) (all_cons (mem_at 10 rfl) (all_cons (mem_at 11 rfl) (all_cons (mem_at 12 rfl) (all_cons (mem_at 13 rfl) (all_cons (mem_at 16 rfl) (all_cons (mem_at 18 rfl) (mem_dr 19 rfl)))))))))))))))))))), all_cons (ha.hi 5 9 rfl rfl rfl) (all_cons (ha.lo 2 5 rfl rfl rfl) (all_cons (ha.hi 5 7 rfl rfl rfl) (all_cons (ha.hi 5 11 rfl rfl rfl) (all_cons (ha.lo 1 5 rfl rfl rfl) (all_cons (ha.hi 5 18 rfl rfl rfl) (all_cons (ha.hi 5 17 rfl rfl rfl) (all_cons (ha.hi 5 8 rfl rfl rfl) (all_cons (ha.hi 5 10 rfl rfl rfl) (all_cons (ha.lo 4 5 rfl rfl rfl) (all_cons (ha.hi 5 6 rfl rfl rfl) (all_cons (ha.hi 5 16 rfl rfl rfl) (all_cons (ha.hi 5 15 rfl rfl rfl) (all_cons (ha.hi 5 14 rfl rfl rfl) (all_cons (ha.hi 5 13 rfl rfl rfl) (all_cons (ha.hi 5 12 rfl rfl rfl) (all_cons (ha.lo 3 5 rfl rfl rfl) (all_cons (ha.lo 0 5 rfl rfl rfl) (hz p2 (mem_at 6 rfl))))))))))))))))))), all_cons (ha.lo 2 9 rfl rfl rfl) (all_cons (ha.lo 7 9 rfl rfl rfl) (all_cons (ha.hi 9 11 rfl rfl rfl) (all_cons (ha.lo 1 9 rfl rfl rfl) (all_cons (ha.hi 9 18 rfl rfl rfl) (all_cons (ha.hi 9 17 rfl rfl rfl) (all_cons (ha.lo 8 9 rfl rfl rfl) (all_cons (ha.hi 9 10 rfl rfl rfl) (all_cons (ha.lo 4 9 rfl rfl rfl) (all_cons (ha.lo 6 9 rfl rfl rfl) (all_cons (ha.hi 9 16 rfl rfl rfl) (all_cons (ha.hi 9 15 rfl rfl rfl) (all_cons (ha.hi 9 14 rfl rfl rfl) (all_cons (ha.hi 9 13 rfl rfl rfl) (all_cons (ha.hi 9 12 rfl rfl rfl) (all_cons (ha.lo 3 9 rfl rfl rfl) (all_cons (ha.lo 0 9 rfl rfl rfl) (hz d2 (mem_at 3 rfl)))))))))))))))))), fun _ => ha.lo 5 9 rfl rfl rfl⟩
theorem inner_end2 (hc : Chain kc dc cd D6 p1 p2 p3 aP d1 d2 d3 aD I T1 T2 T3 TT I3) (hT : @LT.lt Nat _ I3 T) (hz : ∀ a ∈ (I :: [cd, d1, d2, d3, p1, p2, p3, kc]), ∀ p ∈ nz, p.1 ≠ a) (hz3 : ∀ p ∈ nz, p.1 ≠ I3) (hr2 : rest = (T, W.listOf (strValues l).toArray kn) :: (I3, oI3) :: (d1, W.listOf (refsOf fls1).toArray g1) :: (d3, W.listOf (refsOf fls3).toArray g3) :: (p1, W.listOf (strValues r1).toArray g4) :: (p3, W.listOf (strValues r3).toArray g6) :: (TT, oTT) :: (T3, o3) :: (T2, o2) :: (T1, o1) :: (I, oI) :: (D6, o6) :: (kc, oK) :: nz)
    (hod : od'.data = .cell vd) (ho1 : ∀ p ∈ objsOf fls1, p ∈ nz) (ho2 : ∀ p ∈ objsOf fls2, p ∈ nz) (ho3 : ∀ p ∈ objsOf fls3, p ∈ nz)
    (hU1 : LawTx ms R 1 (n + 1) r1 fls1) (hU2 : LawTx ms R 2 n r2 fls2) (hU3 : LawTx ms R 3 n r3 fls3) (hV : ms[n]? = some nd) (hl : l.map (·.1) = namesOf ((2 : Nat) : Int) (fmText nd) R)
    {X Y : Array Value} (N : News h₀ L h ((p2, W.listOf X (g5 + 1)) :: (d2, W.listOf Y (g2 + 1)) :: (cd, od') :: (aP, oaP) :: (aD, oaD) :: (dc, oD) :: rest)) (hX : X.toList = strValues r2 ++ [.str (pathS 2 R nd) t]) (hY : Y.toList = refsOf fls2 ++ [.ref T]) :
    ∃ nx, News h₀ L h ([(I3, oI3)] ++ nx) ∧ (∀ p ∈ nx, ∀ q ∈ [(I3, oI3)], p.1 ≠ q.1) ∧ LawSt (I :: [cd, d1, d2, d3, p1, p2, p3, kc]) cd d1 d2 d3 p1 p2 p3 [(TT, oTT), (T3, o3), (T2, o2), (T1, o1), (I, oI), (aD, oaD), (aP, oaP), (D6, o6), (dc, oD), (kc, oK)] ms R (n + 1) (n + 1) n nx := by
  subst hr2
  rw [strs_arr hX, refs_arr (l := l) (k := kn) hY] at N
  have ha := apart19 hc hT
  have hfT : ∀ a ∈ (I :: [cd, d1, d2, d3, p1, p2, p3, kc]), (T : Addr) ≠ a := all_cons (P := fun a => (T : Addr) ≠ a) (ha.hi 12 18 rfl rfl rfl) (all_cons (P := fun a => (T : Addr) ≠ a) (ha.hi 2 18 rfl rfl rfl) (all_cons (P := fun a => (T : Addr) ≠ a) (ha.hi 8 18 rfl rfl rfl) (all_cons (P := fun a => (T : Addr) ≠ a) (ha.hi 9 18 rfl rfl rfl) (all_cons (P := fun a => (T : Addr) ≠ a) (ha.hi 10 18 rfl rfl rfl) (all_cons (P := fun a => (T : Addr) ≠ a) (ha.hi 4 18 rfl rfl rfl) (all_cons (P := fun a => (T : Addr) ≠ a) (ha.hi 5 18 rfl rfl rfl) (all_cons (P := fun a => (T : Addr) ≠ a) (ha.hi 6 18 rfl rfl rfl) (all_cons (P := fun a => (T : Addr) ≠ a) (ha.hi 0 18 rfl rfl rfl) (fun _ h => nomatch h)))))))))
  exact ⟨(d1, W.listOf (refsOf fls1).toArray g1) :: (d2, W.listOf (refsOf (fls2 ++ [(T, l, kn)])).toArray (g2 + 1)) :: (d3, W.listOf (refsOf fls3).toArray g3) :: (p1, W.listOf (strValues r1).toArray g4) :: (p2, W.listOf (strValues (r2 ++ [(pathS 2 R nd, t)])).toArray (g5 + 1)) :: (p3, W.listOf (strValues r3).toArray g6) :: (cd, od') :: ([(TT, oTT), (T3, o3), (T2, o2), (T1, o1), (I, oI), (aD, oaD), (aP, oaP), (D6, o6), (dc, oD), (kc, oK)] ++ ((T, W.listOf (strValues l).toArray kn) :: nz)), cb_drop N (all_cons (mem_at 7 rfl) (all_cons (mem_at 8 rfl) (all_cons (mem_at 1 rfl) (all_cons (mem_at 9 rfl) (all_cons (mem_at 10 rfl) (all_cons (mem_at 0 rfl) (all_cons (mem_at 11 rfl) (all_cons (mem_at 2 rfl) (all_cons (mem_at 12 rfl) (all_cons (mem_at 13 rfl) (all_cons (mem_at 14 rfl) (all_cons (mem_at 15 rfl) (all_cons (mem_at 16 rfl) (all_cons (mem_at 4 rfl) (all_cons (mem_at 3 rfl) (all_cons (mem_at 17 rfl) (all_cons (mem_at 5 rfl) (all_cons (mem_at 18 rfl) (all_cons (mem_at 6 rfl) (mem_dr 19 rfl)))))))))))))))))))), off1 (all_cons (ha.lo 8 17 rfl rfl rfl) (all_cons (ha.lo 9 17 rfl rfl rfl) (all_cons (ha.lo 10 17 rfl rfl rfl) (all_cons (ha.lo 4 17 rfl rfl rfl) (all_cons (ha.lo 5 17 rfl rfl rfl) (all_cons (ha.lo 6 17 rfl rfl rfl) (all_cons (ha.lo 2 17 rfl rfl rfl) (all_cons (ha.lo 16 17 rfl rfl rfl) (all_cons (ha.lo 15 17 rfl rfl rfl) (all_cons (ha.lo 14 17 rfl rfl rfl) (all_cons (ha.lo 13 17 rfl rfl rfl) (all_cons (ha.lo 12 17 rfl rfl rfl) (all_cons (ha.lo 11 17 rfl rfl rfl) (all_cons (ha.lo 7 17 rfl rfl rfl) (all_cons (ha.lo 3 17 rfl rfl rfl) (all_cons (ha.lo 1 17 rfl rfl rfl) (all_cons (ha.lo 0 17 rfl rfl rfl) (all_cons (ha.hi 17 18 rfl rfl rfl) (hz3))))))))))))))))))), r1, r2 ++ [(pathS 2 R nd, t)], r3, fls1, fls2 ++ [(T, l, kn)], fls3, g1, g2 + 1, g3, g4, g5 + 1, g6, od', vd, (T, W.listOf (strValues l).toArray kn) :: nz, rfl, hod, objs_more ho1, objs_snoc ho2, objs_more ho3, fun a h => all_cons (hfT a h) (hz a h), hU1, law_tx hU2 hV rfl hl, hU3⟩
theorem inner_pre3 (hc : Chain kc dc cd D6 p1 p2 p3 aP d1 d2 d3 aD I T1 T2 T3 TT I3) (hT : @LT.lt Nat _ I3 T) (hz : ∀ a ∈ (I :: [cd, d1, d2, d3, p1, p2, p3, kc]), ∀ p ∈ nz, p.1 ≠ a) (hr : rest = (d1, W.listOf (refsOf fls1).toArray g1) :: (d2, W.listOf (refsOf fls2).toArray g2) :: (d3, W.listOf (refsOf fls3).toArray g3) :: (p1, W.listOf (strValues r1).toArray g4) :: (p2, W.listOf (strValues r2).toArray g5) :: (p3, W.listOf (strValues r3).toArray g6) :: ([(TT, oTT), (T3, o3), (T2, o2), (T1, o1), (I, oI), (aD, oaD), (aP, oaP), (D6, o6), (dc, oD), (kc, oK)] ++ nz))
    (N : News h₀ L h ((T, W.listOf (strValues l).toArray kn) :: (I3, oI3) :: (cd, od') :: rest)) :
    ∃ rest2, rest2 = (T, W.listOf (strValues l).toArray kn) :: (I3, oI3) :: (d1, W.listOf (refsOf fls1).toArray g1) :: (d2, W.listOf (refsOf fls2).toArray g2) :: (p1, W.listOf (strValues r1).toArray g4) :: (p2, W.listOf (strValues r2).toArray g5) :: (TT, oTT) :: (T3, o3) :: (T2, o2) :: (T1, o1) :: (I, oI) :: (D6, o6) :: (kc, oK) :: nz ∧ News h₀ L h ((p3, W.listOf (strValues r3).toArray g6) :: (d3, W.listOf (refsOf fls3).toArray g3) :: (cd, od') :: (aP, oaP) :: (aD, oaD) :: (dc, oD) :: rest2) ∧ (∀ p ∈ (d3, W.listOf (refsOf fls3).toArray g3) :: (cd, od') :: (aP, oaP) :: (aD, oaD) :: (dc, oD) :: rest2, p.1 ≠ p3) ∧ (∀ p ∈ (cd, od') :: (aP, oaP) :: (aD, oaD) :: (dc, oD) :: rest2, p.1 ≠ d3) ∧ (∀ o : Obj, (p3, o).1 ≠ d3) := by
  subst hr
  have ha := apart19 hc hT
  exact ⟨_, rfl, cb_drop N (all_cons (mem_at 8 rfl) (all_cons (mem_at 5 rfl) (all_cons (mem_at 2 rfl) (all_cons (mem_at 15 rfl) (all_cons (mem_at 14 rfl) (all_cons (mem_at 17 rfl) (all_cons (mem_at 0 rfl) (all_cons (mem_at 1 rfl) (all_cons (mem_at 3 rfl) (all_cons (mem_at 4 rfl) (all_cons (mem_at 6 rfl) (all_cons (mem_at 7 rfl) (all_cons (mem_at 9 rfl) (all_cons (mem_at 10 rfl) (all_cons (mem_at 11 rfl) (all_cons (mem_at 12 rfl) (all_cons (mem_at 13 rfl) (all_cons (mem_at 16 rfl) (all_cons (mem_at 18 rfl) (mem_dr 19 rfl)))))))))))))))))))), all_cons (ha.hi 6 10 rfl rfl rfl) (all_cons (ha.lo 2 6 rfl rfl rfl) (all_cons (ha.hi 6 7 rfl rfl rfl) (all_cons (ha.hi 6 11 rfl rfl rfl) (all_cons (ha.lo 1 6 rfl rfl rfl) (all_cons (ha.hi 6 18 rfl rfl rfl) (all_cons (ha.hi 6 17 rfl rfl rfl) (all_cons (ha.hi 6 8 rfl rfl rfl) (all_cons (ha.hi 6 9 rfl rfl rfl) (all_cons (ha.lo 4 6 rfl rfl rfl) (all_cons (ha.lo 5 6 rfl rfl rfl) (all_cons (ha.hi 6 16 rfl rfl rfl) (all_cons (ha.hi 6 15 rfl rfl rfl) (all_cons (ha.hi 6 14 rfl rfl rfl) (all_cons (ha.hi 6 13 rfl rfl rfl) (all_cons (ha.hi 6 12 rfl rfl rfl) (all_cons (ha.lo 3 6 rfl rfl rfl) (all_cons (ha.lo 0 6 rfl rfl rfl) (hz p3 (mem_at 7 rfl))))))))))))))))))), all_cons (ha.lo 2 10 rfl rfl rfl) (all_cons (ha.lo 7 10 rfl rfl rfl) (all_cons (ha.hi 10 11 rfl rfl rfl) (all_cons (ha.lo 1 10 rfl rfl rfl) (all_cons (ha.hi 10 18 rfl rfl rfl) (all_cons (ha.hi 10 17 rfl rfl rfl) (all_cons (ha.lo 8 10 rfl rfl rfl) (all_cons (ha.lo 9 10 rfl rfl rfl) (all_cons (ha.lo 4 10 rfl rfl rfl) (all_cons (ha.lo 5 10 rfl rfl rfl) (all_cons (ha.hi 10 16 rfl rfl rfl) (all_cons (ha.hi 10 15 rfl rfl rfl) (all_cons (ha.hi 10 14 rfl rfl rfl) (all_cons (ha.hi 10 13 rfl rfl rfl) (all_cons (ha.hi 10 12 rfl rfl rfl) (all_cons (ha.lo 3 10 rfl rfl rfl) (all_cons (ha.lo 0 10 rfl rfl rfl) (hz d3 (mem_at 4 rfl)))))))))))))))))), fun _ => ha.lo 6 10 rfl rfl rfl⟩
theorem inner_end3 (hc : Chain kc dc cd D6 p1 p2 p3 aP d1 d2 d3 aD I T1 T2 T3 TT I3) (hT : @LT.lt Nat _ I3 T) (hz : ∀ a ∈ (I :: [cd, d1, d2, d3, p1, p2, p3, kc]), ∀ p ∈ nz, p.1 ≠ a) (hz3 : ∀ p ∈ nz, p.1 ≠ I3) (hr2 : rest = (T, W.listOf (strValues l).toArray kn) :: (I3, oI3) :: (d1, W.listOf (refsOf fls1).toArray g1) :: (d2, W.listOf (refsOf fls2).toArray g2) :: (p1, W.listOf (strValues r1).toArray g4) :: (p2, W.listOf (strValues r2).toArray g5) :: (TT, oTT) :: (T3, o3) :: (T2, o2) :: (T1, o1) :: (I, oI) :: (D6, o6) :: (kc, oK) :: nz)
    (hod : od'.data = .cell vd) (ho1 : ∀ p ∈ objsOf fls1, p ∈ nz) (ho2 : ∀ p ∈ objsOf fls2, p ∈ nz) (ho3 : ∀ p ∈ objsOf fls3, p ∈ nz)
    (hU1 : LawTx ms R 1 (n + 1) r1 fls1) (hU2 : LawTx ms R 2 (n + 1) r2 fls2) (hU3 : LawTx ms R 3 n r3 fls3) (hV : ms[n]? = some nd) (hl : l.map (·.1) = namesOf ((3 : Nat) : Int) (fmText nd) R)
    {X Y : Array Value} (N : News h₀ L h ((p3, W.listOf X (g6 + 1)) :: (d3, W.listOf Y (g3 + 1)) :: (cd, od') :: (aP, oaP) :: (aD, oaD) :: (dc, oD) :: rest)) (hX : X.toList = strValues r3 ++ [.str (pathS 3 R nd) t]) (hY : Y.toList = refsOf fls3 ++ [.ref T]) :
    ∃ nx, News h₀ L h ([(I3, oI3)] ++ nx) ∧ (∀ p ∈ nx, ∀ q ∈ [(I3, oI3)], p.1 ≠ q.1) ∧ LawSt (I :: [cd, d1, d2, d3, p1, p2, p3, kc]) cd d1 d2 d3 p1 p2 p3 [(TT, oTT), (T3, o3), (T2, o2), (T1, o1), (I, oI), (aD, oaD), (aP, oaP), (D6, o6), (dc, oD), (kc, oK)] ms R (n + 1) (n + 1) (n + 1) nx := by
  subst hr2
  rw [strs_arr hX, refs_arr (l := l) (k := kn) hY] at N
  have ha := apart19 hc hT
  have hfT : ∀ a ∈ (I :: [cd, d1, d2, d3, p1, p2, p3, kc]), (T : Addr) ≠ a := all_cons (P := fun a => (T : Addr) ≠ a) (ha.hi 12 18 rfl rfl rfl) (all_cons (P := fun a => (T : Addr) ≠ a) (ha.hi 2 18 rfl rfl rfl) (all_cons (P := fun a => (T : Addr) ≠ a) (ha.hi 8 18 rfl rfl rfl) (all_cons (P := fun a => (T : Addr) ≠ a) (ha.hi 9 18 rfl rfl rfl) (all_cons (P := fun a => (T : Addr) ≠ a) (ha.hi 10 18 rfl rfl rfl) (all_cons (P := fun a => (T : Addr) ≠ a) (ha.hi 4 18 rfl rfl rfl) (all_cons (P := fun a => (T : Addr) ≠ a) (ha.hi 5 18 rfl rfl rfl) (all_cons (P := fun a => (T : Addr) ≠ a) (ha.hi 6 18 rfl rfl rfl) (all_cons (P := fun a => (T : Addr) ≠ a) (ha.hi 0 18 rfl rfl rfl) (fun _ h => nomatch h)))))))))
  exact ⟨(d1, W.listOf (refsOf fls1).toArray g1) :: (d2, W.listOf (refsOf fls2).toArray g2) :: (d3, W.listOf (refsOf (fls3 ++ [(T, l, kn)])).toArray (g3 + 1)) :: (p1, W.listOf (strValues r1).toArray g4) :: (p2, W.listOf (strValues r2).toArray g5) :: (p3, W.listOf (strValues (r3 ++ [(pathS 3 R nd, t)])).toArray (g6 + 1)) :: (cd, od') :: ([(TT, oTT), (T3, o3), (T2, o2), (T1, o1), (I, oI), (aD, oaD), (aP, oaP), (D6, o6), (dc, oD), (kc, oK)] ++ ((T, W.listOf (strValues l).toArray kn) :: nz)), cb_drop N (all_cons (mem_at 7 rfl) (all_cons (mem_at 8 rfl) (all_cons (mem_at 9 rfl) (all_cons (mem_at 1 rfl) (all_cons (mem_at 10 rfl) (all_cons (mem_at 11 rfl) (all_cons (mem_at 0 rfl) (all_cons (mem_at 2 rfl) (all_cons (mem_at 12 rfl) (all_cons (mem_at 13 rfl) (all_cons (mem_at 14 rfl) (all_cons (mem_at 15 rfl) (all_cons (mem_at 16 rfl) (all_cons (mem_at 4 rfl) (all_cons (mem_at 3 rfl) (all_cons (mem_at 17 rfl) (all_cons (mem_at 5 rfl) (all_cons (mem_at 18 rfl) (all_cons (mem_at 6 rfl) (mem_dr 19 rfl)))))))))))))))))))), off1 (all_cons (ha.lo 8 17 rfl rfl rfl) (all_cons (ha.lo 9 17 rfl rfl rfl) (all_cons (ha.lo 10 17 rfl rfl rfl) (all_cons (ha.lo 4 17 rfl rfl rfl) (all_cons (ha.lo 5 17 rfl rfl rfl) (all_cons (ha.lo 6 17 rfl rfl rfl) (all_cons (ha.lo 2 17 rfl rfl rfl) (all_cons (ha.lo 16 17 rfl rfl rfl) (all_cons (ha.lo 15 17 rfl rfl rfl) (all_cons (ha.lo 14 17 rfl rfl rfl) (all_cons (ha.lo 13 17 rfl rfl rfl) (all_cons (ha.lo 12 17 rfl rfl rfl) (all_cons (ha.lo 11 17 rfl rfl rfl) (all_cons (ha.lo 7 17 rfl rfl rfl) (all_cons (ha.lo 3 17 rfl rfl rfl) (all_cons (ha.lo 1 17 rfl rfl rfl) (all_cons (ha.lo 0 17 rfl rfl rfl) (all_cons (ha.hi 17 18 rfl rfl rfl) (hz3))))))))))))))))))), r1, r2, r3 ++ [(pathS 3 R nd, t)], fls1, fls2, fls3 ++ [(T, l, kn)], g1, g2, g3 + 1, g4, g5, g6 + 1, od', vd, (T, W.listOf (strValues l).toArray kn) :: nz, rfl, hod, objs_more ho1, objs_more ho2, objs_snoc ho3, fun a h => all_cons (hfT a h) (hz a h), hU1, hU2, law_tx hU3 hV rfl hl⟩
theorem outer_end {nx : List (Addr × Obj)} (hc : Chain kc dc cd D6 p1 p2 p3 aP d1 d2 d3 aD I T1 T2 T3 TT I3) (N : News h₀ L h nx) (hs : LawSt (I :: [cd, d1, d2, d3, p1, p2, p3, kc]) cd d1 d2 d3 p1 p2 p3 [(TT, oTT), (T3, o3), (T2, o2), (T1, o1), (I, oI), (aD, oaD), (aP, oaP), (D6, o6), (dc, oD), (kc, oK)] ms R (n + 1) (n + 1) (n + 1) nx) :
    ∃ nx', News h₀ L h ([(I, oI)] ++ nx') ∧ (∀ p ∈ nx', ∀ q ∈ [(I, oI)], p.1 ≠ q.1) ∧ LawSt [cd, d1, d2, d3, p1, p2, p3, kc] cd d1 d2 d3 p1 p2 p3 [(aD, oaD), (aP, oaP), (D6, o6), (dc, oD), (kc, oK)] ms R (n + 1) (n + 1) (n + 1) nx' := by
  refine hs.el ?_
  intro q1 q2 q3 els1 els2 els3 k1 k2 k3 k4 k5 k6 oc vc nw e0 hoc ho1 ho2 ho3 hnw hT1 hT2 hT3
  subst e0
  have ha := apart18 hc
  have hf1 : ∀ a ∈ [cd, d1, d2, d3, p1, p2, p3, kc], (T1 : Addr) ≠ a := all_cons (P := fun a => (T1 : Addr) ≠ a) (ha.hi 2 13 rfl rfl rfl) (all_cons (P := fun a => (T1 : Addr) ≠ a) (ha.hi 8 13 rfl rfl rfl) (all_cons (P := fun a => (T1 : Addr) ≠ a) (ha.hi 9 13 rfl rfl rfl) (all_cons (P := fun a => (T1 : Addr) ≠ a) (ha.hi 10 13 rfl rfl rfl) (all_cons (P := fun a => (T1 : Addr) ≠ a) (ha.hi 4 13 rfl rfl rfl) (all_cons (P := fun a => (T1 : Addr) ≠ a) (ha.hi 5 13 rfl rfl rfl) (all_cons (P := fun a => (T1 : Addr) ≠ a) (ha.hi 6 13 rfl rfl rfl) (all_cons (P := fun a => (T1 : Addr) ≠ a) (ha.hi 0 13 rfl rfl rfl) (fun _ h => nomatch h))))))))
  have hf2 : ∀ a ∈ [cd, d1, d2, d3, p1, p2, p3, kc], (T2 : Addr) ≠ a := all_cons (P := fun a => (T2 : Addr) ≠ a) (ha.hi 2 14 rfl rfl rfl) (all_cons (P := fun a => (T2 : Addr) ≠ a) (ha.hi 8 14 rfl rfl rfl) (all_cons (P := fun a => (T2 : Addr) ≠ a) (ha.hi 9 14 rfl rfl rfl) (all_cons (P := fun a => (T2 : Addr) ≠ a) (ha.hi 10 14 rfl rfl rfl) (all_cons (P := fun a => (T2 : Addr) ≠ a) (ha.hi 4 14 rfl rfl rfl) (all_cons (P := fun a => (T2 : Addr) ≠ a) (ha.hi 5 14 rfl rfl rfl) (all_cons (P := fun a => (T2 : Addr) ≠ a) (ha.hi 6 14 rfl rfl rfl) (all_cons (P := fun a => (T2 : Addr) ≠ a) (ha.hi 0 14 rfl rfl rfl) (fun _ h => nomatch h))))))))
  have hf3 : ∀ a ∈ [cd, d1, d2, d3, p1, p2, p3, kc], (T3 : Addr) ≠ a := all_cons (P := fun a => (T3 : Addr) ≠ a) (ha.hi 2 15 rfl rfl rfl) (all_cons (P := fun a => (T3 : Addr) ≠ a) (ha.hi 8 15 rfl rfl rfl) (all_cons (P := fun a => (T3 : Addr) ≠ a) (ha.hi 9 15 rfl rfl rfl) (all_cons (P := fun a => (T3 : Addr) ≠ a) (ha.hi 10 15 rfl rfl rfl) (all_cons (P := fun a => (T3 : Addr) ≠ a) (ha.hi 4 15 rfl rfl rfl) (all_cons (P := fun a => (T3 : Addr) ≠ a) (ha.hi 5 15 rfl rfl rfl) (all_cons (P := fun a => (T3 : Addr) ≠ a) (ha.hi 6 15 rfl rfl rfl) (all_cons (P := fun a => (T3 : Addr) ≠ a) (ha.hi 0 15 rfl rfl rfl) (fun _ h => nomatch h))))))))
  have hf4 : ∀ a ∈ [cd, d1, d2, d3, p1, p2, p3, kc], (TT : Addr) ≠ a := all_cons (P := fun a => (TT : Addr) ≠ a) (ha.hi 2 16 rfl rfl rfl) (all_cons (P := fun a => (TT : Addr) ≠ a) (ha.hi 8 16 rfl rfl rfl) (all_cons (P := fun a => (TT : Addr) ≠ a) (ha.hi 9 16 rfl rfl rfl) (all_cons (P := fun a => (TT : Addr) ≠ a) (ha.hi 10 16 rfl rfl rfl) (all_cons (P := fun a => (TT : Addr) ≠ a) (ha.hi 4 16 rfl rfl rfl) (all_cons (P := fun a => (TT : Addr) ≠ a) (ha.hi 5 16 rfl rfl rfl) (all_cons (P := fun a => (TT : Addr) ≠ a) (ha.hi 6 16 rfl rfl rfl) (all_cons (P := fun a => (TT : Addr) ≠ a) (ha.hi 0 16 rfl rfl rfl) (fun _ h => nomatch h))))))))
  exact ⟨(d1, W.listOf (refsOf els1).toArray k1) :: (d2, W.listOf (refsOf els2).toArray k2) :: (d3, W.listOf (refsOf els3).toArray k3) :: (p1, W.listOf (strValues q1).toArray k4) :: (p2, W.listOf (strValues q2).toArray k5) :: (p3, W.listOf (strValues q3).toArray k6) :: (cd, oc) :: ([(aD, oaD), (aP, oaP), (D6, o6), (dc, oD), (kc, oK)] ++ ((TT, oTT) :: (T3, o3) :: (T2, o2) :: (T1, o1) :: nw)), cb_drop N (all_cons (mem_at 11 rfl) (all_cons (mem_at 0 rfl) (all_cons (mem_at 1 rfl) (all_cons (mem_at 2 rfl) (all_cons (mem_at 3 rfl) (all_cons (mem_at 4 rfl) (all_cons (mem_at 5 rfl) (all_cons (mem_at 6 rfl) (all_cons (mem_at 12 rfl) (all_cons (mem_at 13 rfl) (all_cons (mem_at 14 rfl) (all_cons (mem_at 15 rfl) (all_cons (mem_at 16 rfl) (all_cons (mem_at 7 rfl) (all_cons (mem_at 8 rfl) (all_cons (mem_at 9 rfl) (all_cons (mem_at 10 rfl) (mem_dr 17 rfl)))))))))))))))))), off1 (all_cons (ha.lo 8 12 rfl rfl rfl) (all_cons (ha.lo 9 12 rfl rfl rfl) (all_cons (ha.lo 10 12 rfl rfl rfl) (all_cons (ha.lo 4 12 rfl rfl rfl) (all_cons (ha.lo 5 12 rfl rfl rfl) (all_cons (ha.lo 6 12 rfl rfl rfl) (all_cons (ha.lo 2 12 rfl rfl rfl) (all_cons (ha.lo 11 12 rfl rfl rfl) (all_cons (ha.lo 7 12 rfl rfl rfl) (all_cons (ha.lo 3 12 rfl rfl rfl) (all_cons (ha.lo 1 12 rfl rfl rfl) (all_cons (ha.lo 0 12 rfl rfl rfl) (all_cons (ha.hi 12 16 rfl rfl rfl) (all_cons (ha.hi 12 15 rfl rfl rfl) (all_cons (ha.hi 12 14 rfl rfl rfl) (all_cons (ha.hi 12 13 rfl rfl rfl) (hnw I (mem_at 0 rfl)))))))))))))))))),
    q1, q2, q3, els1, els2, els3, k1, k2, k3, k4, k5, k6, oc, vc, (TT, oTT) :: (T3, o3) :: (T2, o2) :: (T1, o1) :: nw, rfl, hoc, objs_more (objs_more (objs_more (objs_more ho1))), objs_more (objs_more (objs_more (objs_more ho2))), objs_more (objs_more (objs_more (objs_more ho3))), fun a h => all_cons (hf4 a h) (all_cons (hf3 a h) (all_cons (hf2 a h) (all_cons (hf1 a h) (hnw a (.tail _ h))))), hT1, hT2, hT3⟩
end
end Mine
end

section -- text COMPC
theorem Mine.rows_off_COMPC : True := by
  k_with_none
  trivial
open PySem PySem.W PyProof.Rows PySem.Calls
set_option Elab.async false
set_option maxRecDepth 100000
set_option maxHeartbeats 1000000
set_option linter.all false
namespace Mine
section
variable {prog : Program} {w : World} {A : Around} {E : Value → Shared → Prop} {s : Shared} {h₀ : Heap} {L : Addr} {m : Str → Option Value} {env : Env} {news : List (Addr × Obj)}
theorem newEnv_cell {M : Model} {scope : Scope} {globals : Addr} {cl : List (Str × Addr)} {qual : Str} {x : Str} {Q : Env → Shared → Prop} (hcf : ∀ n, cellsFrom n scope.names cl = (x, n) :: cl) (hpc : ∀ h, pushCells h scope.names = h.push { cls := .type "cell", data := .cell none })
    (h : Q (newEnv scope s.heap.objs.size globals ((x, s.heap.objs.size + 1) :: cl) qual none .none (some env) builtinsNs) { s with heap := (s.heap.push { cls := .type "dict", data := .dict #[] }).push { cls := .type "cell", data := .cell none } }) :
    wpAny M A (newFunctionEnv scope globals cl [] qual none .none (some env)) Q E s := by
  simp only [newFunctionEnv, Option.isSome_some, if_true]
  refine wpAny_bind (wpAny_alloc ?_)
  refine wpAny_bind (wpAny_layCells _ (fun name kind cells => by cases hkc : kind == NameKind.cell <;> simp [hkc]) _ _ _ _ ?_)
  rw [hcf, hpc]
  refine wpAny_bind ?_
  rw [List.forIn_nil]
  refine wpAny_pure (wpAny_pure ?_)
  have e : ({ s with heap := s.heap.push { cls := .type "dict", data := .dict #[] } } : Shared).heap.objs.size = s.heap.objs.size + 1 := Heap.size_push ..
  rw [e]
  exact h
/-- how a turn ends of a comprehension whose letter is a cell -/
noncomputable def CEndC (h₀ : Heap) (L : Addr) (m : Str → Option Value) (s : Shared) (I : Addr) (oI : Obj) (X : Addr) (oX : Obj) (C : Addr) (oC : Obj) (D : Addr) (ys : List Value) (J : List Value → List (Addr × Obj) → Prop) (ys' : List Value) (s₄ : Shared) : Prop :=
  ∃ h' tk' nx, s₄ = { s with heap := h', toks := tk' } ∧ Fr h₀ L h' m ∧ News h₀ L h' ((I, oI) :: (X, oX) :: (C, oC) :: (D, LCg.lst ys) :: nx) ∧ (∀ p ∈ nx, p.1 ≠ I ∧ p.1 ≠ C ∧ p.1 ≠ D ∧ p.1 ≠ X) ∧ J ys' nx
noncomputable def CTurnC (prog : Program) (w : World) (A : Around) (h₀ : Heap) (L : Addr) (m : Str → Option Value) (env : Env) (elt : Expr) (x : Str) (ifs : List Expr) (scope : Scope) (cl : List (Str × Addr)) (s : Shared) (I : Addr) (news : List (Addr × Obj)) (n : Nat) (P : Nat → Value → Prop)
    (J : Nat → List Value → List (Addr × Obj) → Prop) : Prop :=
  ∀ i v ys nx X oX C oC D oI h tk (E' : Value → Shared → Prop), i < n → P i v → J i ys nx → oX.data = .cell (some v) → (∀ p ∈ news, p.1 < I) → (@LT.lt Nat _ I D) → (@LT.lt Nat _ D C) → (@LT.lt Nat _ C X) → (∀ p ∈ nx, p.1 ≠ I ∧ p.1 ≠ C ∧ p.1 ≠ D ∧ p.1 ≠ X) → Fr h₀ L h m → News h₀ L h ((I, oI) :: (X, oX) :: (C, oC) :: (D, LCg.lst ys) :: nx) →
    wpAny (model prog w) A (testsOf ifs (compEnvC scope ((x, X) :: cl) C env)) (fun ok s₃ => if ok = true then wpAny (model prog w) A (eval elt (compEnvC scope ((x, X) :: cl) C env)) (fun y s₄ => CEndC h₀ L m s I oI X oX C oC D ys (J (i + 1)) (ys ++ [y]) s₄) E' s₃
      else CEndC h₀ L m s I oI X oX C oC D ys (J (i + 1)) ys s₃) E' { s with heap := h, toks := tk }
theorem comp_coreC {elt iter : Expr} {x : Str} {px : Pos} {ifs : List Expr} {scope : Scope} {cl : List (Str × Addr)} {pos : Pos} {I : Addr} {fp : List Addr} {n : Nat} {P : Nat → Value → Prop} {St : Nat → Heap → Prop} {RR : Value → Addr → Result → Shared → Prop}
    (WK : Walks prog w A I fp [I] n P St) (fo : List (Addr × Obj)) (J : Nat → List Value → List (Addr × Obj) → Prop) (hsz : n ≤ sizeLine)
    (hcf : ∀ n, cellsFrom n scope.names cl = (x, n) :: cl) (hpc : ∀ h, pushCells h scope.names = h.push { cls := .type "cell", data := .cell none }) (hkind : scope.kind = .function) (hx : (relabel scope env).names.lookup x = some .cell)
    (hst : St 0 s.heap) (hIO : ∀ i h, St i h → ∃ o, h.get? I = some o) (hlt : ∀ b ∈ fp, b < s.heap.objs.size) (hI0 : h₀.get? I = none) (hIL : I ≠ L) (hnI : ∀ p ∈ news, p.1 < I)
    (hfp : ∀ b ∈ fp, b = I ∨ (∃ o, (b, o) ∈ fo) ∨ (h₀.get? b).isSome = true) (F : Fr h₀ L s.heap m) (N : News h₀ L s.heap news) (hj : J 0 [] news)
    (hJ : ∀ i ys nx, J i ys nx → ∀ p ∈ fo, p ∈ nx)
    (turn : CTurnC prog w A h₀ L m env elt x ifs scope cl s I news n P J)
    (hRR : ∀ D C h tk m' ys nx, J n ys nx → (∀ p ∈ news, p.1 < D) → (∀ p ∈ nx, p.1 ≠ C ∧ p.1 ≠ D) → Fr h₀ L h m → News h₀ L h ((D, LCg.lst ys) :: nx) → h.Ns C m' → h₀.get? C = none → C ≠ L → C ≠ D → RR (.ref D) C (.ok .next) { s with heap := h, toks := tk }) :
    wpAny (model prog w) A (newList []) (fun acc s₃ => wpAny (model prog w) A (newFunctionEnv scope env.globals cl [] env.qual none .none (some env)) (fun cenv s₄ =>
      codeAny (model prog w) A (.compStart (.ListComp elt [⟨.Name x px, iter, ifs, 0⟩] scope pos) 0 (.ref I) acc { cenv with scope := relabel scope env }) (RR acc cenv.locals) s₄) E s₃) E s := by
  have hIf : I ∈ fp := WK.sub I (List.mem_singleton.mpr rfl)
  have lI : I < s.heap.objs.size := hlt I hIf
  have lL : L < s.heap.objs.size := F.ns.lt
  refine wpAny_newObj_type (newEnv_cell hcf hpc ?_)
  dsimp only
  generalize hp : s.heap.push { cls := .type "list", dict := none, data := .seq ([] : List Value).toArray } = hA
  have kA : ∀ b o, s.heap.get? b = some o → hA.get? b = some o := fun b o e => hp ▸ Heap.get?_push_of_some _ e
  have gA : hA.get? s.heap.objs.size = some (LCg.lst []) := hp ▸ Heap.get?_push_size _ rfl
  have zA : hA.objs.size = s.heap.objs.size + 1 := by rw [← hp, Heap.size_push]
  have hns : ((hA.push { cls := .type "dict", data := .dict #[] }).push { cls := .type "cell", data := .cell none }).Ns hA.objs.size (fun _ => none) := (Heap.Ns.new hA (.type "dict")).keeps fun b o e => Heap.get?_push_of_some _ e
  have gX : ((hA.push { cls := .type "dict", data := .dict #[] }).push { cls := .type "cell", data := .cell none }).get? (hA.objs.size + 1) = some { cls := .type "cell", data := .cell none } := by
    have e : hA.objs.size + 1 = (hA.push { cls := .type "dict", data := .dict #[] }).objs.size := (Heap.size_push ..).symm
    rw [e]; exact Heap.get?_push_size _ rfl
  have k1 : ∀ b o, s.heap.get? b = some o → ((hA.push { cls := .type "dict", data := .dict #[] }).push { cls := .type "cell", data := .cell none }).get? b = some o := fun b o e => Heap.get?_push_of_some _ (Heap.get?_push_of_some _ (kA b o e))
  have g1 : ((hA.push { cls := .type "dict", data := .dict #[] }).push { cls := .type "cell", data := .cell none }).get? s.heap.objs.size = some (LCg.lst []) := Heap.get?_push_of_some _ (Heap.get?_push_of_some _ gA)
  generalize ((hA.push { cls := .type "dict", data := .dict #[] }).push { cls := .type "cell", data := .cell none }) = h₁ at hns gX k1 g1 ⊢
  obtain ⟨D, hD⟩ : ∃ D, D = s.heap.objs.size := ⟨_, rfl⟩
  obtain ⟨C, hC⟩ : ∃ C, C = hA.objs.size := ⟨_, rfl⟩
  obtain ⟨X, hX⟩ : ∃ X, X = hA.objs.size + 1 := ⟨_, rfl⟩
  rw [← hD] at gA zA g1
  rw [← hX] at gX ⊢
  rw [← hC] at hns zA hX ⊢
  rw [← hD]
  have lD : ∀ b, b < s.heap.objs.size → b ≠ D ∧ b ≠ C ∧ b ≠ X := fun b hb => ⟨Nat.ne_of_lt (hD ▸ hb), Nat.ne_of_lt (by rw [zA, hD]; exact Nat.lt_succ_of_lt hb), Nat.ne_of_lt (by rw [hX, zA, hD]; exact Nat.lt_succ_of_lt (Nat.lt_succ_of_lt hb))⟩
  have dDC : D ≠ C := Nat.ne_of_lt (by rw [zA]; exact Nat.lt_succ_self _)
  have dCX : C ≠ X := Nat.ne_of_lt (by rw [hX]; exact Nat.lt_succ_self _)
  have dDX : D ≠ X := Nat.ne_of_lt (by rw [hX, zA]; exact Nat.lt_succ_of_lt (Nat.lt_succ_self _))
  have none₀ : ∀ b, s.heap.objs.size ≤ b → h₀.get? b = none := fun b hb => by
    cases e : h₀.get? b with
    | none => rfl
    | some o => exact absurd (Heap.lt_size (F.keep _ _ e)) (Nat.not_lt.mpr hb)
  have hD0 : h₀.get? D = none := none₀ D (Nat.le_of_eq hD.symm)
  have hC0 : h₀.get? C = none := none₀ C (by rw [zA, hD]; exact Nat.le_succ _)
  have hX0 : h₀.get? X = none := none₀ X (by rw [hX, zA, hD]; exact Nat.le_succ_of_le (Nat.le_succ _))
  have hDL : D ≠ L := Ne.symm (lD L lL).1
  have hCL : C ≠ L := Ne.symm (lD L lL).2.1
  have hXL : X ≠ L := Ne.symm (lD L lL).2.2
  have hID : I ≠ D := (lD I lI).1
  have hIC : I ≠ C := (lD I lI).2.1
  have hIX : I ≠ X := (lD I lI).2.2
  have dDf : D ∉ fp := fun h => (lD D (hlt D h)).1 rfl
  have dXf : X ∉ fp := fun h => (lD X (hlt X h)).2.2 rfl
  have lnI : ∀ p ∈ news, p.1 ≠ I ∧ p.1 ≠ C ∧ p.1 ≠ D ∧ p.1 ≠ X := fun p hp => ⟨Nat.ne_of_lt (hnI p hp), (lD _ (Heap.lt_size (N p hp).1)).2.1, (lD _ (Heap.lt_size (N p hp).1)).1, (lD _ (Heap.lt_size (N p hp).1)).2.2⟩
  have hcenv : ({ (newEnv scope C env.globals ((x, X) :: cl) env.qual none .none (some env) builtinsNs) with scope := relabel scope env } : Env) = compEnvC scope ((x, X) :: cl) C env := rfl
  have loop : ∀ s₃ : Shared, s₃ = { s with heap := h₁ } →
      codeAny (model prog w) A (.compLoop (.ListComp elt [⟨.Name x px, iter, ifs, 0⟩] scope pos) 0 (.ref I) (.ref D) (compEnvC scope ((x, X) :: cl) C env)) (RR (.ref D) C) s₃ := by
    rintro s₃ rfl
    refine codeAny_compLoop_tests
      (fun k s' => ∃ h' tk i ys m' nx oX vX, s' = { s with heap := h', toks := tk } ∧ i ≤ n ∧ k = n + 1 - i ∧ ys.length ≤ i ∧ St i h' ∧ Fr h₀ L h' m ∧ h'.Ns C m' ∧ h'.get? X = some oX ∧ oX.data = .cell vX ∧ News h₀ L h' ((D, LCg.lst ys) :: nx) ∧ (∀ p ∈ nx, p.1 ≠ I ∧ p.1 ≠ C ∧ p.1 ≠ D ∧ p.1 ≠ X) ∧ J i ys nx) ?_ (n + 1)
      ⟨h₁, _, 0, [], _, news, _, _, rfl, Nat.zero_le _, rfl, Nat.le_refl _, WK.frame _ _ _ hst fun b _ o e => k1 b o e, F.keeps k1, hns, gX, rfl, fun p hp => ?_, lnI, hj⟩
    · intro k s' hx0
      refine hideP ?_
      intro G kG
      obtain ⟨h', tk, i, ys, m', nx, oX, vX, e1, hi, e2, hyl, hst', F', hn', hgX, hdX, N', off, hj'⟩ := hx0
      refine kG ?_
      clear kG
      subst e1
      subst e2
      have up : ∀ h₂ : Heap, (∀ b o, b ∉ [I] → h'.get? b = some o → h₂.get? b = some o) → Fr h₀ L h₂ m ∧ News h₀ L h₂ ((D, LCg.lst ys) :: nx) ∧ h₂.Ns C m' ∧ h₂.get? X = some oX := fun h₂ hk =>
        ⟨⟨F'.ns.at' fun o e => hk _ o (by simpa using Ne.symm hIL) e, fun b o e => hk b o (fun hm => by rw [List.mem_singleton.mp hm, hI0] at e; cases e) (F'.keep b o e), F'.above⟩,
         fun p hp => ⟨hk _ _ (by
           rcases List.mem_cons.mp hp with rfl | hp
           · simpa using Ne.symm hID
           · simpa using (off p hp).1) (N' p hp).1, (N' p hp).2⟩, hn'.at' fun o e => hk _ o (by simpa using Ne.symm hIC) e, hk _ _ (by simpa using Ne.symm hIX) hgX⟩
      by_cases hl : i < n
      · refine WK.item i _ _ _ hl hst' fun v h₂ tk₂ hP hst₂ hk₂ => ?_
        obtain ⟨F₂, N₂, hn₂, gX₂⟩ := up h₂ hk₂
        refine wpAny_assign_Name (wpAny_storeName_cell (c := X) (v₀ := vX) (by show (relabel scope env).kind = _; exact hkind) hx (by simp [compEnvC]) ⟨_, gX₂, hdX⟩ (fun h₃ hn₃ hs₃ => ?_))
        have k3 : ∀ b o, b ≠ X → h₂.get? b = some o → h₃.get? b = some o := fun b o hb e => hs₃.extBut b o hb e
        have hst₃ : St (i + 1) h₃ := WK.frame _ _ _ hst₂ fun b hb o e => k3 b o (fun q => dXf (q ▸ hb)) e
        obtain ⟨oI, gI⟩ := hIO _ _ hst₃
        obtain ⟨oX', gX₃, hdX'⟩ := hn₃
        have hnC₃ : h₃.Ns C m' := hn₂.at' fun o e => k3 _ o dCX e
        obtain ⟨oC, gC, hoC⟩ := LCg.ns_obj hnC₃
        have F₃ : Fr h₀ L h₃ m := F₂.change hs₃ hXL hX0
        have N₃ : News h₀ L h₃ ((I, oI) :: (X, oX') :: (C, oC) :: (D, LCg.lst ys) :: nx) := fun p hp => by
          rcases List.mem_cons.mp hp with rfl | hp
          · exact ⟨gI, hIL, hI0⟩
          · rcases List.mem_cons.mp hp with rfl | hp
            · exact ⟨gX₃, hXL, hX0⟩
            · rcases List.mem_cons.mp hp with rfl | hp
              · exact ⟨gC, hCL, hC0⟩
              · refine ⟨k3 _ _ ?_ (N₂ p hp).1, (N₂ p hp).2⟩
                rcases List.mem_cons.mp hp with rfl | hp
                · exact dDX
                · exact (off p hp).2.2.2
        have fin : ∀ h₄ nx', Fr h₀ L h₄ m → News h₀ L h₄ ((I, oI) :: (X, oX') :: (C, oC) :: (D, LCg.lst ys) :: nx') → (∀ p ∈ fo, p ∈ nx') → St (i + 1) h₄ := fun h₄ nx' F₄ N₄ hfo => by
          refine WK.frame _ _ _ hst₃ fun b hb o e => ?_
          rcases hfp b hb with rfl | ⟨o', ho⟩ | h0
          · rw [gI] at e; cases e; exact (N₄ _ (.head _)).1
          · have q := (N₃ (b, o') (.tail _ (.tail _ (.tail _ (.tail _ (hJ _ _ _ hj' _ ho)))))).1
            rw [e] at q; cases q
            exact (N₄ (b, _) (.tail _ (.tail _ (.tail _ (.tail _ (hfo _ ho)))))).1
          · obtain ⟨o', e'⟩ := Option.isSome_iff_exists.mp h0
            have q := F₃.keep _ _ e'
            rw [e] at q; cases q
            exact F₄.keep _ _ e'
        have lID : @LT.lt Nat _ I D := by rw [hD]; exact lI
        have lDC : @LT.lt Nat _ D C := by rw [zA]; exact Nat.lt_succ_self _
        have lCX : @LT.lt Nat _ C X := by rw [hX]; exact Nat.lt_succ_self _
        refine wpAny_mono (turn i v ys nx X oX' C oC D oI h₃ _ _ hl hP hj' hdX' hnI lID lDC lCX off F₃ N₃) (fun ok s₃ hk => ?_) fun _ _ e => e
        cases ok with
        | true =>
          rw [if_pos rfl] at hk ⊢
          refine wpAny_mono hk (fun y s₄ h₄ => ?_) fun _ _ e => e
          refine hideP ?_
          intro G kG
          obtain ⟨h₄, tk₄, nx', e1, F₄, N₄, off', hj₄⟩ := h₄
          refine kG ?_
          clear kG
          subst e1
          have hst₄ := fin h₄ nx' F₄ N₄ (hJ _ _ _ hj₄)
          refine append_at (hsz := by show ys.toArray.size ≤ sizeLine; rw [List.size_toArray]; omega) (N₄ _ (.tail _ (.tail _ (.tail _ (.head _))))).1 fun h₅ hs₅ g₅ => ?_
          have k5 : ∀ b o, b ≠ D → h₄.get? b = some o → h₅.get? b = some o := fun b o hb e => hs₅.extBut b o hb e
          refine ⟨n + 1 - (i + 1), dec_lt hl, h₅, tk₄, i + 1, ys ++ [y], _, nx', oX', some v, rfl, hl, rfl, by rw [List.length_append, List.length_singleton]; omega, WK.frame _ _ _ hst₄ fun b hb o e => k5 b o (fun q => dDf (q ▸ hb)) e, F₄.change hs₅ hDL hD0,
            (hoC.ns (N₄ _ (.tail _ (.tail _ (.head _)))).1).sameBut hs₅ (Ne.symm dDC), k5 _ _ (Ne.symm dDX) (N₄ _ (.tail _ (.head _))).1, hdX', fun p hp => ?_, off', hj₄⟩
          rcases List.mem_cons.mp hp with rfl | hp
          · exact ⟨g₅.trans (congrArg some (LCg.lst_snoc ys y)), hDL, hD0⟩
          · have q := N₄ p (.tail _ (.tail _ (.tail _ (.tail _ hp))))
            exact ⟨k5 _ _ (off' p hp).2.2.1 q.1, q.2⟩
        | false =>
          rw [if_neg Bool.false_ne_true] at hk ⊢
          refine hideP ?_
          intro G kG
          obtain ⟨h₄, tk₄, nx', e1, F₄, N₄, off', hj₄⟩ := hk
          refine kG ?_
          clear kG
          subst e1
          exact ⟨n + 1 - (i + 1), dec_lt hl, h₄, tk₄, i + 1, ys, _, nx', oX', some v, rfl, hl, rfl, by omega, fin h₄ nx' F₄ N₄ (hJ _ _ _ hj₄), F₄, hoC.ns (N₄ _ (.tail _ (.tail _ (.head _)))).1, (N₄ _ (.tail _ (.head _))).1, hdX', fun p hp => N₄ p (.tail _ (.tail _ (.tail _ hp))), off', hj₄⟩
      · obtain rfl : i = n := Nat.le_antisymm hi (Nat.not_lt.mp hl)
        refine WK.done _ _ _ hst' fun h₂ tk₂ hk₂ => ?_
        obtain ⟨F₂, N₂, hn₂, _⟩ := up h₂ hk₂
        exact hRR D C h₂ tk₂ _ ys nx hj' (fun p hp => hD ▸ Heap.lt_size (N p hp).1) (fun p hp => ⟨(off p hp).2.1, (off p hp).2.2.1⟩) F₂ N₂ hn₂ hC0 hCL (Ne.symm dDC)
    · rcases List.mem_cons.mp hp with rfl | hp
      · exact ⟨g1, hDL, hD0⟩
      · exact ⟨k1 _ _ (N p hp).1, (N p hp).2⟩
  exact codeAny_compStart_list (loop _ rfl) (WK.self 0 _ _ _ (WK.frame _ _ _ hst fun b _ o e => k1 b o e) (loop _ rfl))
theorem comp_rngC {elt iter : Expr} {x : Str} {px : Pos} {ifs : List Expr} {scope : Scope} {cl : List (Str × Addr)} {pos : Pos} {RR : Value → Addr → Result → Shared → Prop} {r : Addr} {a b : Int} {t u v : Tok} {n : Nat} (J : Nat → List Value → List (Addr × Obj) → Prop) (hh : A.handled = none) (F : Fr h₀ L s.heap m) (N : News h₀ L s.heap news) (hr : IsRange s.heap r a b 1 t u v) (hsmall : Builtin.Range.small a b 1 = true)
    (hn : Builtin.Range.rangeSize a b 1 = n) (hsz : n ≤ sizeLine) (hcf : ∀ n, cellsFrom n scope.names cl = (x, n) :: cl) (hpc : ∀ h, pushCells h scope.names = h.push { cls := .type "cell", data := .cell none }) (hkind : scope.kind = .function) (hx : (relabel scope env).names.lookup x = some .cell) (hj : J 0 [] news)
    (turn : ∀ I, CTurnC prog w A h₀ L m env elt x ifs scope cl s I news n (fun i v => ∃ t, v = .int (a + (i : Int)) t) J) (hRR : RRof h₀ L m s news (J n) RR) :
    CompAt prog w A E env RR elt iter x px ifs scope cl pos (.ref r) s := by
  refine wpAny_pyIter_range hr hsmall ?_
  refine comp_coreC (s := { s with heap := s.heap.push _ }) (LCg.range_walks hh a n) [] J hsz hcf hpc hkind hx ?_ (fun i h st => ⟨_, st⟩) ?_ (new_none F) (Nat.ne_of_gt F.ns.lt) (fun p hp => Heap.lt_size (N p hp).1) ?_ (F.push _) (News.past (m := m) N _) hj (fun i ys nx h p hp => nomatch hp) (turn _) hRR
  · show IsRangeIter _ _ (a + ((0 : Nat) : Int) * 1) ((n : Int) - ((0 : Nat) : Int)) 1
    have e1 : a + ((0 : Nat) : Int) * 1 = a := by simp
    have e2 : (n : Int) - ((0 : Nat) : Int) = Builtin.Range.rangeSize a b 1 := by rw [hn]; simp
    rw [e1, e2]
    exact Heap.get?_push_size _ rfl
  · intro b hb
    show b < (s.heap.push _).objs.size
    rw [Heap.size_push, List.mem_singleton.mp hb]; exact Nat.lt_succ_self _
  · intro b hb; exact .inl (List.mem_singleton.mp hb)
end
end Mine
end

section -- text EQL
theorem Mine.rows_off_EQL : True := by
  k_with_none
  trivial
open PySem PySem.W PyProof.Rows PyProof.V PySem.Spec PySem.SeqAt PySem.Calls
set_option Elab.async false
set_option maxRecDepth 100000
set_option maxHeartbeats 1000000
set_option linter.all false
namespace Mine
noncomputable def sdat (l : List Str) : PyData := .list (l.map PyData.str)
theorem readsAll_strs {h : Heap} : ∀ (l : List (Str × Tok)), ReadsAll h (strValues l) ((l.map (·.1)).map PyData.str) []
  | [] => .nil
  | (x, t) :: r => by
    have := ReadsAll.cons (Reads.str (h := h) x t) (readsAll_strs (h := h) r)
    simpa [strValues] using this
theorem reads_strs {h : Heap} {a : Addr} {l : List (Str × Tok)} {n : Nat} (ho : h.get? a = some (W.listOf (strValues l).toArray n)) : Reads h (.ref a) (sdat (l.map (·.1))) [a] :=
  Reads.list ho rfl rfl (by simpa using readsAll_strs (h := h) l)
/-- the signs of all texts are signs -/
noncomputable def OkStrs (l : List Str) : Prop := ∀ x ∈ l, PyData.strOk x = true
theorem canLay_strs : ∀ l : List Str, OkStrs l → PyData.canLayAll0 (l.map PyData.str) = true
  | [], _ => by simp [PyData.canLayAll0]
  | n :: r, h => by
    have h1 := h n (.head _)
    have h2 := canLay_strs r fun x hx => h x (.tail _ hx)
    simp [PyData.canLayAll0, PyData.canLay0, h2, h1]
theorem depth_strs : ∀ l : List Str, PyData.depthAll (l.map PyData.str) ≤ 1
  | [] => by simp [PyData.depthAll]
  | n :: r => by
    have := depth_strs r
    simp only [List.map_cons, PyData.depthAll, PyData.depth]
    omega
theorem shaped_strs (l : List Str) (h : OkStrs l) : shaped (sdat l) = true := by
  have h1 := depth_strs l
  have h2 : PyData.depth (sdat l) ≤ 64 := by simp only [sdat, PyData.depth]; omega
  show (PyData.canLay0 (sdat l) && decide (PyData.depth (sdat l) ≤ 64)) = true
  rw [Bool.and_eq_true]
  exact ⟨by simp only [sdat, PyData.canLay0]; exact canLay_strs l h, decide_eq_true h2⟩
theorem noMix_strs : ∀ l k : List Str, noMixAll (l.map PyData.str) (k.map PyData.str) = true
  | [], [] => by simp [noMixAll]
  | [], _ :: _ => by simp [noMixAll]
  | _ :: _, [] => by simp [noMixAll]
  | _ :: r, _ :: q => by simp [noMixAll, noMix, noMix_strs r q]
theorem same_strs : ∀ l k : List Str, PySem.Spec.sameAll (l.map PyData.str) (k.map PyData.str) = decide (l = k)
  | [], [] => by simp [PySem.Spec.sameAll]
  | [], _ :: _ => by simp [PySem.Spec.sameAll]
  | _ :: _, [] => by simp [PySem.Spec.sameAll]
  | n :: r, k :: q => by
    simp only [List.map_cons, PySem.Spec.sameAll, PySem.Spec.same, same_strs r q]
    by_cases h : n = k <;> simp [h]
section
variable {prog : Program} {w : World} {A : Around} {E : Value → Shared → Prop} {s : Shared} {h₀ : Heap} {L : Addr} {news : List (Addr × Obj)}
theorem ne_strsK {a b : Addr} {l k : List (Str × Tok)} {n n2 : Nat} {Q : Value → Shared → Prop} (ha : s.heap.get? a = some (W.listOf (strValues l).toArray n)) (hb : s.heap.get? b = some (W.listOf (strValues k).toArray n2)) (hl : OkStrs (l.map (·.1))) (hk : OkStrs (k.map (·.1))) (hu : A.units + 64 < cLine)
    (h : Q (.bool (!decide (l.map (·.1) = k.map (·.1)))) s) : wpAny (model prog w) A (compareOp .NotEq (.ref a) (.ref b)) Q E s :=
  ne_dataH_same (reads_strs ha) (reads_strs hb) (shaped_strs _ hl) (shaped_strs _ hk) hu (by simp only [sdat, noMix]; exact noMix_strs _ _) (by simp only [sdat, PySem.Spec.same]; rw [same_strs]; exact h)
/-- a list of lists of texts -/
theorem readsAll_els {h : Heap} : ∀ (els : Els), (∀ p ∈ objsOf els, h.get? p.1 = some p.2) → ReadsAll h (refsOf els) ((textsOf els).map sdat) (els.map (·.1))
  | [], _ => .nil
  | e :: r, hh => by
    have h1 : Reads h (.ref e.1) (sdat (e.2.1.map (·.1))) [e.1] := reads_strs (hh (e.1, _) (.head _))
    exact ReadsAll.cons h1 (readsAll_els r fun p hp => hh p (.tail _ hp))
theorem canLay_els : ∀ l : List (List Str), (∀ x ∈ l, OkStrs x) → PyData.canLayAll0 (l.map sdat) = true
  | [], _ => by simp [PyData.canLayAll0]
  | n :: r, h => by
    have h1 := canLay_strs n (h n (.head _))
    have h2 := canLay_els r fun x hx => h x (.tail _ hx)
    have h3 : PyData.canLay0 (sdat n) = true := by simp only [sdat, PyData.canLay0]; exact h1
    simp [PyData.canLayAll0, h2, h3]
theorem depth_els : ∀ l : List (List Str), PyData.depthAll (l.map sdat) ≤ 3
  | [] => by simp [PyData.depthAll]
  | n :: r => by
    have := depth_els r
    have h1 := depth_strs n
    have h2 : PyData.depth (sdat n) ≤ 2 := by simp only [sdat, PyData.depth]; omega
    simp only [List.map_cons, PyData.depthAll]
    omega
theorem eq_nilK {a b : Addr} {els : Els} {n n2 : Nat} {Q : Value → Shared → Prop} (ha : s.heap.get? a = some (W.listOf (refsOf els).toArray n)) (hels : ∀ p ∈ objsOf els, s.heap.get? p.1 = some p.2) (hb : s.heap.get? b = some (W.listOf #[] n2)) (hok : ∀ x ∈ textsOf els, OkStrs x) (hu : A.units + 64 < cLine)
    (h : Q (.bool (decide (els = []))) s) : wpAny (model prog w) A (compareOp .Eq (.ref a) (.ref b)) Q E s := by
  have ra : Reads s.heap (.ref a) (.list ((textsOf els).map sdat)) _ := Reads.list ha rfl rfl (by simpa using readsAll_els els hels)
  have rb : Reads s.heap (.ref b) (.list []) _ := Reads.list hb rfl rfl .nil
  have sa : shaped (.list ((textsOf els).map sdat)) = true := by
    have h1 := depth_els (textsOf els)
    show (PyData.canLay0 _ && decide (PyData.depth _ ≤ 64)) = true
    rw [Bool.and_eq_true]
    exact ⟨by simp only [PyData.canLay0]; exact canLay_els _ hok, decide_eq_true (by simp only [PyData.depth]; omega)⟩
  refine eq_dataH_same ra rb sa (by decide +kernel) hu ?_ ?_
  · cases els with
    | nil => simp [textsOf, noMix, noMixAll]
    | cons e r => simp [textsOf, noMix, noMixAll]
  · have : PySem.Spec.same (.list ((textsOf els).map sdat)) (.list []) = decide (els = []) := by
      cases els with
      | nil => simp [textsOf, PySem.Spec.same, PySem.Spec.sameAll]
      | cons e r => simp [textsOf, PySem.Spec.same, PySem.Spec.sameAll]
    rw [this]; exact h
theorem lenK {a : Addr} {its : Array Value} {n : Nat} {Q : Value → Shared → Prop} (ha : s.heap.get? a = some (W.listOf its n)) (hz : its.size ≤ 1000) (h : ∀ t k, Q (.int its.size t) { s with toks := k }) : wpAny (model prog w) A (call (.builtin "len") [.ref a]) Q E s :=
  call_len_list ⟨_, ha, rfl, n, rfl⟩ (by omega) (h _ _)
end
theorem fmT_lt : ∀ i, ((fmT i).all fun p => p.2.cps.toList.all fun c => decide (c < 1000)) = true
  | 0 => by decide +kernel
  | 1 => by decide +kernel
  | 2 => by decide +kernel
  | 3 => by decide +kernel
  | 4 => by decide +kernel
  | 5 => by decide +kernel
  | 6 => by decide +kernel
  | 7 => by decide +kernel
  | 8 => by decide +kernel
  | n + 9 => show ((fmT 9).all fun p => p.2.cps.toList.all fun c => decide (c < 1000)) = true by decide +kernel
theorem fmSg_lt (V : Int) (i : Nat) : ∀ c ∈ (fmSg V i).cps.toList, c < 1000 := by
  have key : ∀ c ∈ (fmSg V i).cps.toList, decide (c < 1000) = true := by
    unfold fmSg
    split
    · rename_i p hp
      have h1 := List.mem_of_find?_eq_some hp
      have h2 := List.all_eq_true.mp (fmT_lt i) p h1
      exact List.all_eq_true.mp h2
    · split <;> decide +kernel
  exact fun c hc => of_decide_eq_true (key c hc)
theorem fmText_lt (V : Int) : ∀ c ∈ (fmText V).cps.toList, c < 1000 := by
  intro c hc
  unfold fmText at hc
  rw [empty_is, txt_join_empty] at hc
  obtain ⟨x, hx, hcx⟩ := List.mem_flatMap.mp (show c ∈ cat _ from hc)
  obtain ⟨i, _, rfl⟩ := List.mem_map.mp hx
  exact fmSg_lt V i c hcx
end Mine
end

section -- text LAWF
theorem Mine.rows_off_LAWF : True := by
  k_with_none
  trivial
open PySem PySem.W PyProof.Rows
set_option Elab.async false
set_option maxRecDepth 100000
set_option maxHeartbeats 1000000
set_option linter.all false
namespace Mine
theorem one_ok {c : Nat} (h : c < 1000) : PyData.strOk (one c) = true := by
  unfold PyData.strOk one
  simp; omega
theorem back_okS (dots : Int) : ∀ sg : List Nat, (∀ c ∈ sg, c < 1000) → OkStrs (back dots sg).1
  | [], _ => fun b hb => nomatch hb
  | c :: r, h => by
    have ih := back_okS dots r fun q hq => h q (.tail _ hq)
    show OkStrs (lstep dots (back dots r) c).1
    unfold lstep
    split
    · exact ih
    · split
      · exact ih
      · split
        · intro b hb
          rcases List.mem_append.mp hb with hb | hb
          · exact ih b hb
          · rw [List.mem_singleton.mp hb]
            split
            · decide +kernel
            · exact one_ok (h c (.head _))
        · exact ih
theorem names_okS (d : Int) (V : Int) (R : Str) : OkStrs (namesOf d (fmText V) R) := by
  intro b hb
  have hl : (fmText V).cps.toList.length = 10 := fmText_len V
  unfold namesOf at hb
  rw [List.mem_reverse, back_is _ hl] at hb
  rcases List.mem_append.mp hb with hb | hb
  · exact back_okS d _ (fmText_lt V) b hb
  · split at hb
    · rw [List.eq_of_mem_replicate hb]; decide +kernel
    · exact nomatch hb
theorem okS_take {l : List Str} (h : OkStrs l) (k : Nat) : OkStrs (l.take k) := fun x hx => h x (List.mem_of_mem_take hx)
/-- what the law's last loop reads of one way of quoting -/
noncomputable def Way (rest : List (Addr × Obj)) (ms : List Int) (R : Str) (d1 d2 d3 p1 p2 p3 : Addr) (i : Nat) (dk pk : Addr) (els : Els) (q : List (Str × Tok)) (g g' : Nat) : Prop :=
  [Value.ref d1, .ref d2, .ref d3][i]? = some (.ref dk) ∧ [Value.ref p1, .ref p2, .ref p3][i]? = some (.ref pk) ∧ (dk, W.listOf (refsOf els).toArray g) ∈ rest ∧ (pk, W.listOf (strValues q).toArray g') ∈ rest ∧ (∀ p ∈ objsOf els, p ∈ rest) ∧ LawTx ms R (i + 1) ms.length q els
section
variable {kc dc cd D6 p1 p2 p3 aP d1 d2 d3 aD : Addr} {oaD oaP o6 oD oK : Obj} {h₀ h : Heap} {L : Addr} {nx : List (Addr × Obj)} {ms : List Int} {R : Str} {n : Nat}
theorem last_open (hc : Asc [kc, dc, cd, D6, p1, p2, p3, aP, d1, d2, d3, aD]) (N : News h₀ L h nx) (hn : n = ms.length) (hs : LawSt [cd, d1, d2, d3, p1, p2, p3, kc] cd d1 d2 d3 p1 p2 p3 [(aD, oaD), (aP, oaP), (D6, o6), (dc, oD), (kc, oK)] ms R n n n nx) :
    ∃ rest, News h₀ L h ((kc, oK) :: rest) ∧ (∀ p ∈ rest, p.1 ≠ kc) ∧ (dc, oD) ∈ rest ∧ (aD, oaD) ∈ rest ∧ (aP, oaP) ∈ rest ∧ ∀ i, i < 3 → ∃ dk pk els q g g', Way rest ms R d1 d2 d3 p1 p2 p3 i dk pk els q g g' := by
  refine hs.el ?_
  intro q1 q2 q3 els1 els2 els3 k1 k2 k3 k4 k5 k6 oc vc nw e0 hoc ho1 ho2 ho3 hnw hT1 hT2 hT3
  subst e0
  subst hn
  have ha : Apart [kc, dc, cd, D6, p1, p2, p3, aP, d1, d2, d3, aD] := fun i j _ _ hi hj hij => Nat.ne_of_lt (asc_of _ hc i j hi hj hij)
  have hw : ∀ p ∈ nw, p ∈ (d1, W.listOf (refsOf els1).toArray k1) :: (d2, W.listOf (refsOf els2).toArray k2) :: (d3, W.listOf (refsOf els3).toArray k3) :: (p1, W.listOf (strValues q1).toArray k4) :: (p2, W.listOf (strValues q2).toArray k5) :: (p3, W.listOf (strValues q3).toArray k6) :: (cd, oc) :: (aD, oaD) :: (aP, oaP) :: (D6, o6) :: (dc, oD) :: nw := mem_dr 11 rfl
  refine ⟨(d1, W.listOf (refsOf els1).toArray k1) :: (d2, W.listOf (refsOf els2).toArray k2) :: (d3, W.listOf (refsOf els3).toArray k3) :: (p1, W.listOf (strValues q1).toArray k4) :: (p2, W.listOf (strValues q2).toArray k5) :: (p3, W.listOf (strValues q3).toArray k6) :: (cd, oc) :: (aD, oaD) :: (aP, oaP) :: (D6, o6) :: (dc, oD) :: nw,
    cb_drop N (all_cons (mem_at 11 rfl) (all_cons (mem_at 0 rfl) (all_cons (mem_at 1 rfl) (all_cons (mem_at 2 rfl) (all_cons (mem_at 3 rfl) (all_cons (mem_at 4 rfl) (all_cons (mem_at 5 rfl) (all_cons (mem_at 6 rfl) (all_cons (mem_at 7 rfl) (all_cons (mem_at 8 rfl) (all_cons (mem_at 9 rfl) (all_cons (mem_at 10 rfl) (mem_dr 12 rfl))))))))))))),
    all_cons (ha.hi 0 8 rfl rfl rfl) (all_cons (ha.hi 0 9 rfl rfl rfl) (all_cons (ha.hi 0 10 rfl rfl rfl) (all_cons (ha.hi 0 4 rfl rfl rfl) (all_cons (ha.hi 0 5 rfl rfl rfl) (all_cons (ha.hi 0 6 rfl rfl rfl) (all_cons (ha.hi 0 2 rfl rfl rfl) (all_cons (ha.hi 0 11 rfl rfl rfl) (all_cons (ha.hi 0 7 rfl rfl rfl) (all_cons (ha.hi 0 3 rfl rfl rfl) (all_cons (ha.hi 0 1 rfl rfl rfl) (hnw kc (mem_at 7 rfl)))))))))))),
    mem_at 10 rfl, mem_at 7 rfl, mem_at 8 rfl, ?_⟩
  intro i hi
  have : i = 0 ∨ i = 1 ∨ i = 2 := by omega
  rcases this with rfl | rfl | rfl
  · exact ⟨d1, p1, els1, q1, k1, k4, rfl, rfl, mem_at 0 rfl, mem_at 3 rfl, fun p hp => hw p (ho1 p hp), hT1⟩
  · exact ⟨d2, p2, els2, q2, k2, k5, rfl, rfl, mem_at 1 rfl, mem_at 4 rfl, fun p hp => hw p (ho2 p hp), hT2⟩
  · exact ⟨d3, p3, els3, q3, k3, k6, rfl, rfl, mem_at 2 rfl, mem_at 5 rfl, fun p hp => hw p (ho3 p hp), hT3⟩
end
/-- the frame and the ledger of the last loop -/
noncomputable def LK (m₀ : Str → Option Value) (kc : Addr) (rest : List (Addr × Obj)) (i : Nat) (m : Str → Option Value) (nx : List (Addr × Obj)) : Prop :=
  (∀ y, y ∉ [Str.ofString "most", Str.ofString "shared"] → m y = m₀ y) ∧ ∃ ok vk, nx = (kc, ok) :: rest ∧ ok.data = .cell vk
theorem els_atF {els : Els} {i : Nat} {v : Value} (h : (refsOf els)[i]? = some v) : ∃ T l k, els[i]? = some (T, l, k) ∧ v = .ref T ∧ (T, W.listOf (strValues l).toArray k) ∈ objsOf els := by
  unfold refsOf at h
  rw [List.getElem?_map] at h
  cases e : els[i]? with
  | none => rw [e] at h; cases h
  | some p =>
    rw [e] at h
    obtain ⟨T, l, k⟩ := p
    exact ⟨T, l, k, rfl, (Option.some.inj h).symm, List.mem_map.mpr ⟨_, List.mem_of_getElem? e, rfl⟩⟩
theorem tx_at {ms : List Int} {R : Str} {d : Nat} {q : List (Str × Tok)} {els : Els} (h : LawTx ms R d ms.length q els) {j : Nat} {T : Addr} {l : List (Str × Tok)} {k : Nat} (he : els[j]? = some (T, l, k)) : ∃ z, ms[j]? = some z ∧ l.map (·.1) = namesOf d (fmText z) R := by
  have h2 := congrArg (fun x : List (List Str) => x[j]?) h.2
  unfold textsOf at h2
  simp only [List.getElem?_map, he, List.take_length, Option.map_some] at h2
  cases e : ms[j]? with
  | none => rw [e] at h2; cases h2
  | some z => rw [e] at h2; exact ⟨z, rfl, Option.some.inj h2⟩
theorem tx_small {ms : List Int} {R : Str} {d : Nat} {q : List (Str × Tok)} {els : Els} (h : LawTx ms R d ms.length q els) {j : Nat} {T : Addr} {l : List (Str × Tok)} {k : Nat} (he : els[j]? = some (T, l, k)) : l.length ≤ 20 ∧ OkStrs (l.map (·.1)) ∧ wsum (l.map (·.1)) ≤ 80 := by
  obtain ⟨z, _, hz⟩ := tx_at h he
  have h1 := congrArg List.length hz
  rw [List.length_map] at h1
  rw [h1, hz]
  exact ⟨names_cnt _ _ _, names_okS _ _ _, names_wsum _ _ _⟩
theorem tx_count {ms : List Int} {R : Str} {d : Nat} {q : List (Str × Tok)} {els : Els} (h : LawTx ms R d ms.length q els) : q.length = ms.length ∧ els.length = ms.length := by
  have h1 := congrArg List.length h.1
  have h2 := congrArg List.length h.2
  unfold textsOf at h2
  simp only [List.length_map, List.length_take, Nat.min_self] at h1 h2
  exact ⟨h1, h2⟩
/-- the least count of names -/
noncomputable def Least (els : Els) (mst : Nat) : Prop := (∃ e ∈ els, e.2.1.length = mst) ∧ ∀ e ∈ els, mst ≤ e.2.1.length
theorem least_of {els : Els} {zs : List Int} {M : Int} (hl : zs.length = els.length) (hP : ∀ (j : Nat) (z : Int), zs[j]? = some z → ∃ (T : Addr) (l : List (Str × Tok)) (k : Nat), els[j]? = some (T, l, k) ∧ z = ((l.length : Nat) : Int)) (h1 : M ∈ zs) (h2 : ∀ a, a ∈ zs → M ≤ a) : ∃ mst : Nat, M = (mst : Int) ∧ Least els mst := by
  obtain ⟨j, hj, e⟩ := List.mem_iff_getElem.mp h1
  obtain ⟨T, l, k, he, hz⟩ := hP j M (by rw [List.getElem?_eq_getElem hj, e])
  refine ⟨l.length, hz, ⟨_, List.mem_of_getElem? he, rfl⟩, fun x hx => ?_⟩
  obtain ⟨j', hj', e'⟩ := List.mem_iff_getElem.mp hx
  have hj2 : j' < zs.length := by omega
  obtain ⟨T', l', k', he', hz'⟩ := hP j' zs[j'] (List.getElem?_eq_getElem hj2)
  rw [List.getElem?_eq_getElem hj', e'] at he'
  have hx' : x = (T', l', k') := Option.some.inj he'
  subst hx'
  have := h2 _ (List.getElem_mem hj2)
  rw [hz', hz] at this
  show l.length ≤ l'.length
  omega
theorem strs_size (l : List (Str × Tok)) : (((strValues l).toArray.size : Nat) : Int) = ((l.length : Nat) : Int) := by
  unfold strValues; rw [List.size_toArray, List.length_map]
noncomputable def goodB (Ts : List (List Str)) (T0 : List Str) (p : Nat) : Bool := Ts.all fun T => decide (T.take p = T0.take p)
noncomputable def goods (Ts : List (List Str)) (T0 : List Str) (i : Nat) : List Int := ((List.range i).filter (goodB Ts T0)).map fun p => ((p : Nat) : Int)
/-- the places at which all begin alike -/
noncomputable def JG (led : List (Addr × Obj)) (Ts : List (List Str)) (T0 : List Str) (i : Nat) (ys : List Value) (nx : List (Addr × Obj)) : Prop := nx = led ∧ IntsAre ys (goods Ts T0 i)
theorem ints_snoc {as : List Value} {bs : List Int} {z : Int} {t : Tok} (h : IntsAre as bs) : IntsAre (as ++ [.int z t]) (bs ++ [z]) := by
  induction h with
  | nil => exact .cons z t .nil
  | cons n u _ ih => exact .cons n u ih
theorem goods_yes {Ts : List (List Str)} {T0 : List Str} {i : Nat} (h : goodB Ts T0 i = true) : goods Ts T0 (i + 1) = goods Ts T0 i ++ [(i : Int)] := by
  unfold goods; rw [List.range_succ, List.filter_append, List.map_append]; simp [h]
theorem goods_no {Ts : List (List Str)} {T0 : List Str} {i : Nat} (h : goodB Ts T0 i = false) : goods Ts T0 (i + 1) = goods Ts T0 i := by
  unfold goods; rw [List.range_succ, List.filter_append, List.map_append]; simp [h]
section
variable {h₀ h' : Heap} {L I X C D : Addr} {m : Str → Option Value} {s : Shared} {oI oX oC : Obj} {led : List (Addr × Obj)} {Ts : List (List Str)} {T0 : List Str} {i : Nat} {ys : List Value} {t : Tok} {tk' : Nat}
theorem jg_yes (F : Fr h₀ L h' m) (N : News h₀ L h' ((I, oI) :: (X, oX) :: (C, oC) :: (D, LCg.lst ys) :: led)) (off : ∀ p ∈ led, p.1 ≠ I ∧ p.1 ≠ C ∧ p.1 ≠ D ∧ p.1 ≠ X) (hys : IntsAre ys (goods Ts T0 i)) (hg : goodB Ts T0 i = true) :
    CEndC h₀ L m s I oI X oX C oC D ys (JG led Ts T0 (i + 1)) (ys ++ [.int (i : Int) t]) { s with heap := h', toks := tk' } :=
  ⟨h', tk', led, rfl, F, N, off, rfl, by rw [goods_yes hg]; exact ints_snoc hys⟩
theorem jg_no (F : Fr h₀ L h' m) (N : News h₀ L h' ((I, oI) :: (X, oX) :: (C, oC) :: (D, LCg.lst ys) :: led)) (off : ∀ p ∈ led, p.1 ≠ I ∧ p.1 ≠ C ∧ p.1 ≠ D ∧ p.1 ≠ X) (hys : IntsAre ys (goods Ts T0 i)) (hg : goodB Ts T0 i = false) :
    CEndC h₀ L m s I oI X oX C oC D ys (JG led Ts T0 (i + 1)) ys { s with heap := h', toks := tk' } :=
  ⟨h', tk', led, rfl, F, N, off, rfl, by rw [goods_no hg]; exact hys⟩
/-- the lists that begin otherwise -/
noncomputable def JB (led : List (Addr × Obj)) (els : Els) (T0 : List Str) (p : Nat) (i : Nat) (ys : List Value) (nx : List (Addr × Obj)) : Prop :=
  nx = led ∧ ∃ els' : Els, ys = refsOf els' ∧ (∀ e ∈ els', e ∈ els) ∧ (els' = [] ↔ goodB ((textsOf els).take i) T0 p = true)
theorem jb_step {els : Els} {T0 : List Str} {p j : Nat} {T : Addr} {l : List (Str × Tok)} {k : Nat} (he : els[j]? = some (T, l, k)) : goodB ((textsOf els).take (j + 1)) T0 p = (goodB ((textsOf els).take j) T0 p && decide ((l.map (·.1)).take p = T0.take p)) := by
  have ht : (textsOf els)[j]? = some (l.map (·.1)) := by unfold textsOf; rw [List.getElem?_map, he]; rfl
  unfold goodB
  rw [List.take_add_one, ht, List.all_append]
  simp
theorem jb_no {els els' : Els} {p j : Nat} {T : Addr} {l : List (Str × Tok)} {k : Nat} (F : Fr h₀ L h' m) (N : News h₀ L h' ((I, oI) :: (C, oC) :: (D, LCg.lst (refsOf els')) :: led)) (off : ∀ p ∈ led, p.1 ≠ I ∧ p.1 ≠ C ∧ p.1 ≠ D) (hs : ∀ e ∈ els', e ∈ els) (hn : els' = [] ↔ goodB ((textsOf els).take j) T0 p = true)
    (he : els[j]? = some (T, l, k)) (hd : (l.map (·.1)).take p = T0.take p) : CEnd h₀ L m s I oI C oC D (refsOf els') (JB led els T0 p (j + 1)) (refsOf els') { s with heap := h', toks := tk' } :=
  ⟨h', tk', led, rfl, F, N, off, rfl, els', rfl, hs, by rw [jb_step he, hn, hd]; simp⟩
theorem jb_yes {els els' : Els} {p j : Nat} {T : Addr} {l : List (Str × Tok)} {k : Nat} (F : Fr h₀ L h' m) (N : News h₀ L h' ((I, oI) :: (C, oC) :: (D, LCg.lst (refsOf els')) :: led)) (off : ∀ p ∈ led, p.1 ≠ I ∧ p.1 ≠ C ∧ p.1 ≠ D) (hs : ∀ e ∈ els', e ∈ els)
    (he : els[j]? = some (T, l, k)) (hd : ¬ (l.map (·.1)).take p = T0.take p) : CEnd h₀ L m s I oI C oC D (refsOf els') (JB led els T0 p (j + 1)) (refsOf els' ++ [.ref T]) { s with heap := h', toks := tk' } := by
  refine ⟨h', tk', led, rfl, F, N, off, rfl, els' ++ [(T, l, k)], by unfold refsOf; rw [List.map_append]; rfl, ?_, ?_⟩
  · intro e hm
    rcases List.mem_append.mp hm with hm | hm
    · exact hs e hm
    · rw [List.mem_singleton.mp hm]; exact List.mem_of_getElem? he
  · rw [jb_step he]
    simp [hd]
end
theorem cut_ne {l l0 : List (Str × Tok)} {p : Nat} {b : Bool} (h : (!decide ((l.take p).map (·.1) = (l0.take p).map (·.1))) = b) : b = true → ¬ (l.map (·.1)).take p = (l0.map (·.1)).take p := by
  intro hb
  subst hb
  simp only [Bool.not_eq_true', decide_eq_false_iff_not, List.map_take] at h
  exact h
theorem cut_eq {l l0 : List (Str × Tok)} {p : Nat} {b : Bool} (h : (!decide ((l.take p).map (·.1) = (l0.take p).map (·.1))) = b) : b = false → (l.map (·.1)).take p = (l0.map (·.1)).take p := by
  intro hb
  subst hb
  simp only [Bool.not_eq_false', decide_eq_true_eq, List.map_take] at h
  exact h
theorem objs_sub {els els' : Els} (h : ∀ e ∈ els', e ∈ els) : ∀ q ∈ objsOf els', q ∈ objsOf els := by
  intro q hq
  obtain ⟨e, he, rfl⟩ := List.mem_map.mp hq
  exact List.mem_map.mpr ⟨e, h e he, rfl⟩
theorem texts_okS {ms : List Int} {R : Str} {d : Nat} {q : List (Str × Tok)} {els els' : Els} (h : LawTx ms R d ms.length q els) (hs : ∀ e ∈ els', e ∈ els) : ∀ x ∈ textsOf els', OkStrs x := by
  intro x hx
  obtain ⟨⟨T, l, k⟩, he, rfl⟩ := List.mem_map.mp hx
  obtain ⟨j, hj, e⟩ := List.mem_iff_getElem.mp (hs _ he)
  exact (tx_small h ((List.getElem?_eq_getElem hj).trans (congrArg some e))).2.1
theorem good_is {els els' : Els} {T0 : List Str} {p : Nat} {b : Bool} (hn : els' = [] ↔ goodB ((textsOf els).take (refsOf els).length) T0 p = true) (hb : decide (els' = []) = b) : goodB (textsOf els) T0 p = b := by
  have hl : (textsOf els).take (refsOf els).length = textsOf els := List.take_of_length_le (by unfold refsOf textsOf; rw [List.length_map, List.length_map]; exact Nat.le_refl _)
  rw [hl] at hn
  rw [← hb]
  by_cases h : els' = []
  · rw [decide_eq_true h]; exact hn.mp h
  · rw [decide_eq_false h]
    cases e : goodB (textsOf els) T0 p with
    | false => rfl
    | true => exact absurd (hn.mpr e) h
theorem goods_pos (Ts : List (List Str)) (T0 : List Str) (n : Nat) : 0 < (goods Ts T0 (n + 1)).length := by
  have hg : goodB Ts T0 0 = true := by simp [goodB]
  have h0 : (0 : Nat) ∈ (List.range (n + 1)).filter (goodB Ts T0) := List.mem_filter.mpr ⟨List.mem_range.mpr (Nat.succ_pos _), hg⟩
  have : ((0 : Nat) : Int) ∈ goods Ts T0 (n + 1) := List.mem_map.mpr ⟨0, h0, rfl⟩
  exact List.length_pos_of_mem this
theorem cp_fin {ms : List Int} {R : Str} {d mst : Nat} {q : List (Str × Tok)} {els : Els} {T0 : Addr} {l0 : List (Str × Tok)} {k0 : Nat} {M : Int} (hd : d = 1 ∨ d = 2 ∨ d = 3) (hR : R = Str.ofString "" ∨ R = Str.ofString "/" ∨ R = Str.ofString "//")
    (h : LawTx ms R d ms.length q els) (he0 : els[0]? = some (T0, l0, k0)) (hl : Least els mst) (hM1 : M ∈ goods (textsOf els) (l0.map (·.1)) (mst + 1)) (hM2 : ∀ a, a ∈ goods (textsOf els) (l0.map (·.1)) (mst + 1) → a ≤ M) :
    ∃ μ : Nat, M = (μ : Int) ∧ μ ≤ 20 ∧ cpText (!(R == Str.ofString "")) ((q.map (·.1)).map partsOf) = Txt.slice R none (some 1) ++ Txt.join (Str.ofString "/") ((l0.take μ).map (·.1)) := by
  obtain ⟨μ, hμ, rfl⟩ := List.mem_map.mp hM1
  obtain ⟨hr, hg⟩ := List.mem_filter.mp hμ
  have hr' := List.mem_range.mp hr
  have hT : textsOf els = ms.map fun z => namesOf d (fmText z) R := by have := h.2; rwa [List.take_length] at this
  have hq : q.map (·.1) = ms.map (pathS d R) := by have := h.1; rwa [List.take_length] at this
  have h0 : (textsOf els)[0]? = some (l0.map (·.1)) := by unfold textsOf; rw [List.getElem?_map, he0]; rfl
  have hmem : ∀ T ∈ textsOf els, ∃ e ∈ els, T = e.2.1.map (·.1) := fun T hT => by
    obtain ⟨e, he, rfl⟩ := List.mem_map.mp hT
    exact ⟨e, he, rfl⟩
  have hm : ∀ T ∈ textsOf els, mst ≤ T.length := fun T hT => by
    obtain ⟨e, he, rfl⟩ := hmem T hT
    rw [List.length_map]; exact hl.2 e he
  have hmost : ∃ T ∈ textsOf els, T.length = mst := by
    obtain ⟨e, he, hle⟩ := hl.1
    exact ⟨_, List.mem_map.mpr ⟨e, he, rfl⟩, by rw [List.length_map]; exact hle⟩
  have hg1 : ∀ T ∈ textsOf els, T.take μ = (l0.map (·.1)).take μ := fun T hT => by
    have := List.all_eq_true.mp hg T hT
    exact of_decide_eq_true this
  have hg2 : ∀ r, r ≤ mst → (∀ T ∈ textsOf els, T.take r = (l0.map (·.1)).take r) → r ≤ μ := fun r hr hall => by
    have hgr : goodB (textsOf els) (l0.map (·.1)) r = true := List.all_eq_true.mpr fun T hT => decide_eq_true (hall T hT)
    have := hM2 ((r : Nat) : Int) (List.mem_map.mpr ⟨r, List.mem_filter.mpr ⟨List.mem_range.mpr (by omega), hgr⟩, rfl⟩)
    omega
  have h20 := (tx_small h he0).1
  have hm0 := hm _ (List.mem_of_getElem? h0)
  rw [List.length_map] at hm0
  refine ⟨μ, rfl, by omega, ?_⟩
  rw [hT] at h0 hm hmost hg1 hg2
  have := cp_law (zs := ms) (M := μ) (most := mst) hd hR h0 (by omega) hm hmost hg1 hg2
  rw [hq, this, List.map_take]
theorem way_paths {ms : List Int} {R : Str} {d : Nat} {q : List (Str × Tok)} {els : Els} (hd : d = 1 ∨ d = 2 ∨ d = 3) (hR : R = Str.ofString "" ∨ R = Str.ofString "/" ∨ R = Str.ofString "//") (h : LawTx ms R d ms.length q els) :
    (∀ p ∈ q, p.1.length ≤ 200) ∧ (∀ p ∈ q, Txt.startswith p.1 (Str.ofString "/") = !(R == Str.ofString "")) := by
  have hq : q.map (·.1) = ms.map (pathS d R) := by have := h.1; rwa [List.take_length] at this
  have key : ∀ p ∈ q, ∃ z, p.1 = pathS d R z := fun p hp => by
    have : p.1 ∈ q.map (·.1) := List.mem_map.mpr ⟨p, hp, rfl⟩
    rw [hq] at this
    obtain ⟨z, _, e⟩ := List.mem_map.mp this
    exact ⟨z, e.symm⟩
  refine ⟨fun p hp => ?_, fun p hp => ?_⟩
  · obtain ⟨z, e⟩ := key p hp
    rw [e]; exact Nat.le_trans (path_len d R z hd hR) (by omega)
  · obtain ⟨z, e⟩ := key p hp
    rw [e]; exact path_abs d R z hd hR
theorem cut_join {l0 : List (Str × Tok)} (h : wsum (l0.map (·.1)) ≤ 80) (μ : Nat) : JoinOk (Str.ofString "/") ((l0.take μ).map (·.1)) = true ∧ (Txt.join (Str.ofString "/") ((l0.take μ).map (·.1))).length ≤ 80 := by
  have h1 := wsum_take (l0.map (·.1)) μ
  rw [← List.map_take] at h1
  exact ⟨joinOk_one (by decide +kernel) (by rw [sizeLine_eq]; omega), Nat.le_trans (join_len_one (by decide +kernel) _) (by omega)⟩
theorem root_cut {R : Str} (hR : R = Str.ofString "" ∨ R = Str.ofString "/" ∨ R = Str.ofString "//") : (Txt.slice R none (some 1)).length ≤ 2 := by
  rcases hR with rfl | rfl | rfl <;> decide +kernel
theorem pm_z2 {y a b : Str} (h : y ∉ [a, b]) : y ≠ a ∧ y ≠ b := by simpa using h
end Mine
end

section -- text LAWZ
theorem Mine.rows_off_LAWZ : True := by
  k_with_none
  trivial
open PySem PySem.W PyProof.Rows
set_option Elab.async false
set_option maxRecDepth 100000
set_option maxHeartbeats 2000000
set_option linter.all false
namespace Mine
section
variable {prog : Program} {w : World} {A : Around} {E : Value → Shared → Prop} {s : Shared} {env : Env} {h₀ : Heap} {L : Addr} {target elt : Expr} {body : List Stmt} {Q : Flow → Shared → Prop} {m₀ m : Str → Option Value} {news : List (Addr × Obj)}
  {x : Str} {ifs : List Expr} {scope : Scope} {cl : List (Str × Addr)} {n : Nat}
/-- a turn's end, its post a letter -/
noncomputable def ZOk (h₀ : Heap) (L : Addr) (s : Shared) (I : Addr) (oI : Obj) (Jn : (Str → Option Value) → List (Addr × Obj) → Prop) (Z : Flow → Shared → Prop) : Prop :=
  ∀ h' tk' m' nx', Fr h₀ L h' m' → News h₀ L h' ((I, oI) :: nx') → (∀ p ∈ nx', p.1 ≠ I) → Jn m' nx' → Z .next { s with heap := h', toks := tk' }
theorem zturn {I : Addr} {oI : Obj} {J : Nat → (Str → Option Value) → List (Addr × Obj) → Prop} {i : Nat} {Q' : Flow → Shared → Prop} : ZOk h₀ L s I oI (J i) (TurnPostG h₀ L J i [(I, oI)] s Q') :=
  fun h' tk' m' nx' F N off j => ⟨h', tk', m', nx', rfl, F, N, off1 off, j⟩
theorem turns_lstZ {l : Addr} {vs : List Value} {n₀ : Nat} (J : Nat → (Str → Option Value) → List (Addr × Obj) → Prop) (hh : A.handled = none) (F : Fr h₀ env.locals s.heap m₀) (N : News h₀ env.locals s.heap news)
    (hl : (l, ({ cls := .type "list", data := .seq vs.toArray n₀ } : Obj)) ∈ news) (hj : J 0 m₀ news) (hJ : ∀ i m nx, J i m nx → (l, ({ cls := .type "list", data := .seq vs.toArray n₀ } : Obj)) ∈ nx)
    (turn : ∀ (Z : Flow → Shared → Prop) i v m₁ nx h tk I oI, ZOk h₀ env.locals s I oI (J (i + 1)) Z → (∀ p ∈ news, p.1 < I) → i < vs.length → vs[i]? = some v → J i m₁ nx → (∀ p ∈ nx, p.1 ≠ I) → Fr h₀ env.locals h m₁ → News h₀ env.locals h ((I, oI) :: nx) →
      wpAny (model prog w) A (assign target env v) (fun _ s₃ => wpAny (model prog w) A (execs body env) Z E s₃) E { s with heap := h, toks := tk })
    (done : ∀ m₁ nx h tk, J vs.length m₁ nx → Fr h₀ env.locals h m₁ → News h₀ env.locals h nx → Q .next { s with heap := h, toks := tk }) :
    wpAny (model prog w) A (pyIter (.ref l)) (fun it s₂ => W.TurnsAt prog w A h₀ env target body Q E it s₂) E s :=
  turns_lstG J hh F N hl hj hJ (fun Q' i v m₁ nx h tk I oI a b c d e f g => turn _ i v m₁ nx h tk I oI zturn a b c d e f g) done
theorem turns_tupZ {l : Addr} {vs : List Value} {n₀ : Nat} (J : Nat → (Str → Option Value) → List (Addr × Obj) → Prop) (hh : A.handled = none) (F : Fr h₀ env.locals s.heap m₀) (N : News h₀ env.locals s.heap news)
    (hl : (l, ({ cls := .type "tuple", data := .seq vs.toArray n₀ } : Obj)) ∈ news) (hj : J 0 m₀ news) (hJ : ∀ i m nx, J i m nx → (l, ({ cls := .type "tuple", data := .seq vs.toArray n₀ } : Obj)) ∈ nx)
    (turn : ∀ (Z : Flow → Shared → Prop) i v m₁ nx h tk I oI, ZOk h₀ env.locals s I oI (J (i + 1)) Z → (∀ p ∈ news, p.1 < I) → i < vs.length → vs[i]? = some v → J i m₁ nx → (∀ p ∈ nx, p.1 ≠ I) → Fr h₀ env.locals h m₁ → News h₀ env.locals h ((I, oI) :: nx) →
      wpAny (model prog w) A (assign target env v) (fun _ s₃ => wpAny (model prog w) A (execs body env) Z E s₃) E { s with heap := h, toks := tk })
    (done : ∀ m₁ nx h tk, J vs.length m₁ nx → Fr h₀ env.locals h m₁ → News h₀ env.locals h nx → Q .next { s with heap := h, toks := tk }) :
    wpAny (model prog w) A (pyIter (.ref l)) (fun it s₂ => W.TurnsAt prog w A h₀ env target body Q E it s₂) E s :=
  turns_tupG J hh F N hl hj hJ (fun Q' i v m₁ nx h tk I oI a b c d e f g => turn _ i v m₁ nx h tk I oI zturn a b c d e f g) done
theorem turns_lstZi {l : Addr} {vs : List Value} {ns : List Int} {n₀ : Nat} (hvs : IntsAre vs ns) (J : Nat → (Str → Option Value) → List (Addr × Obj) → Prop) (hh : A.handled = none) (F : Fr h₀ env.locals s.heap m₀) (N : News h₀ env.locals s.heap news)
    (hl : (l, ({ cls := .type "list", data := .seq vs.toArray n₀ } : Obj)) ∈ news) (hj : J 0 m₀ news) (hJ : ∀ i m nx, J i m nx → (l, ({ cls := .type "list", data := .seq vs.toArray n₀ } : Obj)) ∈ nx)
    (turn : ∀ (Z : Flow → Shared → Prop) i nd td m₁ nx h tk I oI, ZOk h₀ env.locals s I oI (J (i + 1)) Z → (∀ p ∈ news, p.1 < I) → i < vs.length → ns[i]? = some nd → J i m₁ nx → (∀ p ∈ nx, p.1 ≠ I) → Fr h₀ env.locals h m₁ → News h₀ env.locals h ((I, oI) :: nx) →
      wpAny (model prog w) A (assign target env (.int nd td)) (fun _ s₃ => wpAny (model prog w) A (execs body env) Z E s₃) E { s with heap := h, toks := tk })
    (done : ∀ m₁ nx h tk, J vs.length m₁ nx → Fr h₀ env.locals h m₁ → News h₀ env.locals h nx → Q .next { s with heap := h, toks := tk }) :
    wpAny (model prog w) A (pyIter (.ref l)) (fun it s₂ => W.TurnsAt prog w A h₀ env target body Q E it s₂) E s :=
  turns_lstZ J hh F N hl hj hJ (fun Z i v m₁ nx h tk I oI z a b c d e f g => by
    obtain ⟨nd, td, rfl, hnd⟩ := hvs.at i v c
    exact turn Z i nd td m₁ nx h tk I oI z a b hnd d e f g) done
/-- the loop over the places of a mail -/
theorem turns_rngM {r : Addr} {a b : Int} {t u v : Tok} (V : Int) {t₀ : Tok} (hh : A.handled = none) (F : Fr h₀ env.locals s.heap m₀) (N : News h₀ env.locals s.heap news)
    (hr : IsRange s.heap r a b 1 t u v) (hsmall : Builtin.Range.small a b 1 = true) (hn : Builtin.Range.rangeSize a b 1 = n) (hm0 : m₀ (Str.ofString "mail") = some (.str (mailS V 0) t₀))
    (turn : ∀ (Z : Flow → Shared → Prop) i tv m₁ h tk I oI t', (∀ h' tk' m', Fr h₀ env.locals h' m' → News h₀ env.locals h' ((I, oI) :: news) → (∀ y, y ∉ [Str.ofString "place", Str.ofString "mail"] → m' y = m₀ y) → (∃ t, m' (Str.ofString "mail") = some (.str (mailS V (i + 1)) t)) → Z .next { s with heap := h', toks := tk' }) →
      (∀ p ∈ news, p.1 < I) → i < n → (∀ y, y ∉ [Str.ofString "place", Str.ofString "mail"] → m₁ y = m₀ y) → m₁ (Str.ofString "mail") = some (.str (mailS V i) t') → Fr h₀ env.locals h m₁ → News h₀ env.locals h ((I, oI) :: news) →
      wpAny (model prog w) A (assign target env (.int (a + (i : Int)) tv)) (fun _ s₃ => wpAny (model prog w) A (execs body env) Z E s₃) E { s with heap := h, toks := tk })
    (done : ∀ m₁ h tk t', (∀ y, y ∉ [Str.ofString "place", Str.ofString "mail"] → m₁ y = m₀ y) → m₁ (Str.ofString "mail") = some (.str (mailS V n) t') → Fr h₀ env.locals h m₁ → News h₀ env.locals h news → Q .next { s with heap := h, toks := tk }) :
    wpAny (model prog w) A (pyIter (.ref r)) (fun it s₂ => W.TurnsAt prog w A h₀ env target body Q E it s₂) E s := by
  refine turns_rngG (LM m₀ news V) hh F N hr hsmall hn ⟨fun _ _ => rfl, rfl, ⟨_, hm0⟩⟩ ?_ ?_
  · rintro Q' i tv m₁ nx h tk I oI hI hi ⟨hm, rfl, t', ht⟩ hoff F' N'
    exact turn _ i tv m₁ h tk I oI t' (fun h' tk' m' F2 N2 hm2 ht2 => ⟨h', tk', m', _, rfl, F2, N2, off1 hoff, hm2, rfl, ht2⟩) hI hi hm ht F' N'
  · rintro m₁ nx h tk ⟨hm, rfl, t', ht⟩ F' N'
    exact done m₁ h tk t' hm ht F' N'
/-- the last loop -/
theorem turns_rngK {r : Addr} {a b : Int} {t u v : Tok} (kc : Addr) (rest : List (Addr × Obj)) {ok₀ : Obj} {vk₀ : Option Value} (hh : A.handled = none) (F : Fr h₀ env.locals s.heap m₀) (N : News h₀ env.locals s.heap ((kc, ok₀) :: rest))
    (hr : IsRange s.heap r a b 1 t u v) (hsmall : Builtin.Range.small a b 1 = true) (hn : Builtin.Range.rangeSize a b 1 = n) (hk0 : ok₀.data = .cell vk₀)
    (turn : ∀ (Z : Flow → Shared → Prop) i tv m₁ h tk I oI ok vk, (∀ h' tk' m' ok' vk', Fr h₀ env.locals h' m' → News h₀ env.locals h' ((I, oI) :: (kc, ok') :: rest) → (∀ y, y ∉ [Str.ofString "most", Str.ofString "shared"] → m' y = m₀ y) → ok'.data = .cell vk' → Z .next { s with heap := h', toks := tk' }) →
      (@LT.lt Nat _ kc I) → (kc ≠ I) → i < n → (∀ y, y ∉ [Str.ofString "most", Str.ofString "shared"] → m₁ y = m₀ y) → ok.data = .cell vk → Fr h₀ env.locals h m₁ → News h₀ env.locals h ((I, oI) :: (kc, ok) :: rest) →
      wpAny (model prog w) A (assign target env (.int (a + (i : Int)) tv)) (fun _ s₃ => wpAny (model prog w) A (execs body env) Z E s₃) E { s with heap := h, toks := tk })
    (done : ∀ m₁ h tk ok vk, (∀ y, y ∉ [Str.ofString "most", Str.ofString "shared"] → m₁ y = m₀ y) → ok.data = .cell vk → Fr h₀ env.locals h m₁ → News h₀ env.locals h ((kc, ok) :: rest) → Q .next { s with heap := h, toks := tk }) :
    wpAny (model prog w) A (pyIter (.ref r)) (fun it s₂ => W.TurnsAt prog w A h₀ env target body Q E it s₂) E s := by
  refine turns_rngG (LK m₀ kc rest) hh F N hr hsmall hn ⟨fun _ _ => rfl, ok₀, _, rfl, hk0⟩ ?_ ?_
  · rintro Q' i tv m₁ nx h tk I oI hI hi ⟨hm, ok, vk, rfl, hok⟩ hoff F' N'
    refine turn _ i tv m₁ h tk I oI ok vk (fun h' tk' m' ok' vk' F2 N2 hm2 hok2 => ⟨h', tk', m', _, rfl, F2, N2, off1 (fun p hp => ?_), hm2, ok', vk', rfl, hok2⟩) (hI (kc, ok₀) (.head _)) (hoff (kc, ok) (.head _)) hi hm hok F' N'
    rcases List.mem_cons.mp hp with rfl | hp
    · exact hoff (kc, ok) (.head _)
    · exact hoff p (.tail _ hp)
  · rintro m₁ nx h tk ⟨hm, ok, vk, rfl, hok⟩ F' N'
    exact done m₁ h tk ok vk hm hok F' N'
/-- a turn of a comprehension without tests that gives ints -/
theorem turnI {I : Addr} {P : Nat → Int → Prop} {Pv : Nat → Value → Prop}
    (turn : ∀ i v ys C oC m₂ D oI h tk (E' Z : Value → Shared → Prop), i < n → Pv i v → (∀ z t h' tk', P i z → Fr h₀ L h' m → News h₀ L h' ((I, oI) :: (C, oC) :: (D, LCg.lst ys) :: news) → Z (.int z t) { s with heap := h', toks := tk' }) →
      LCg.NsObj oC m₂ → m₂ x = some v → (∀ p ∈ news, p.1 < I) → (@LT.lt Nat _ I D) → (@LT.lt Nat _ D C) → Fr h₀ L h m → News h₀ L h ((I, oI) :: (C, oC) :: (D, LCg.lst ys) :: news) →
      wpAny (model prog w) A (eval elt (compEnvC scope cl C env)) Z E' { s with heap := h, toks := tk }) :
    CTurn prog w A h₀ L m env elt x [] scope cl s I news n Pv (JI news P) := by
  rintro i v ys nx C oC m₂ D oI h tk E' hi hv ⟨rfl, zs, hzs, hzl, hzP⟩ hoC hx hnI hID hDC off F N
  refine wpAny_tests_nil ?_
  rw [if_pos rfl]
  exact turn i v ys C oC m₂ D oI h tk E' _ hi hv (fun z t h' tk' hp F' N' => ji_end F' N' off hzs hzl hzP hp) hoC hx hnI hID hDC F N
theorem turnIr {I : Addr} {P : Nat → Int → Prop} {a : Int}
    (turn : ∀ i tv ys C oC m₂ D oI h tk (E' Z : Value → Shared → Prop), i < n → (∀ z t h' tk', P i z → Fr h₀ L h' m → News h₀ L h' ((I, oI) :: (C, oC) :: (D, LCg.lst ys) :: news) → Z (.int z t) { s with heap := h', toks := tk' }) →
      LCg.NsObj oC m₂ → m₂ x = some (.int (a + (i : Int)) tv) → (∀ p ∈ news, p.1 < I) → (@LT.lt Nat _ I D) → (@LT.lt Nat _ D C) → Fr h₀ L h m → News h₀ L h ((I, oI) :: (C, oC) :: (D, LCg.lst ys) :: news) →
      wpAny (model prog w) A (eval elt (compEnvC scope cl C env)) Z E' { s with heap := h, toks := tk }) :
    CTurn prog w A h₀ L m env elt x [] scope cl s I news n (fun i v => ∃ t, v = .int (a + (i : Int)) t) (JI news P) :=
  turnI fun i v ys C oC m₂ D oI h tk E' Z hi ⟨tv, hv⟩ hZ hoC hx => turn i tv ys C oC m₂ D oI h tk E' Z hi hZ hoC (hx.trans (congrArg some hv))
theorem turnIi {I : Addr} {P : Nat → Int → Prop} {vs : List Value} {ns : List Int} (hvs : IntsAre vs ns)
    (turn : ∀ i nd td ys C oC m₂ D oI h tk (E' Z : Value → Shared → Prop), i < n → ns[i]? = some nd → (∀ z t h' tk', P i z → Fr h₀ L h' m → News h₀ L h' ((I, oI) :: (C, oC) :: (D, LCg.lst ys) :: news) → Z (.int z t) { s with heap := h', toks := tk' }) →
      LCg.NsObj oC m₂ → m₂ x = some (.int nd td) → (∀ p ∈ news, p.1 < I) → (@LT.lt Nat _ I D) → (@LT.lt Nat _ D C) → Fr h₀ L h m → News h₀ L h ((I, oI) :: (C, oC) :: (D, LCg.lst ys) :: news) →
      wpAny (model prog w) A (eval elt (compEnvC scope cl C env)) Z E' { s with heap := h, toks := tk }) :
    CTurn prog w A h₀ L m env elt x [] scope cl s I news n (fun i v => vs[i]? = some v) (JI news P) :=
  turnI fun i v ys C oC m₂ D oI h tk E' Z hi hv hZ hoC hx =>
    let ⟨nd, td, e, hnd⟩ := hvs.at i v hv
    turn i nd td ys C oC m₂ D oI h tk E' Z hi hnd hZ hoC (hx.trans (congrArg some e))
theorem turnIe {I : Addr} {P : Nat → Int → Prop} {els : Els}
    (turn : ∀ (i : Nat) T l k ys C oC m₂ D oI h tk (E' Z : Value → Shared → Prop), els[i]? = some (T, l, k) → (T, W.listOf (strValues l).toArray k) ∈ objsOf els → (∀ z t h' tk', P i z → Fr h₀ L h' m → News h₀ L h' ((I, oI) :: (C, oC) :: (D, LCg.lst ys) :: news) → Z (.int z t) { s with heap := h', toks := tk' }) →
      LCg.NsObj oC m₂ → m₂ x = some (.ref T) → (∀ p ∈ news, p.1 < I) → (@LT.lt Nat _ I D) → (@LT.lt Nat _ D C) → Fr h₀ L h m → News h₀ L h ((I, oI) :: (C, oC) :: (D, LCg.lst ys) :: news) →
      wpAny (model prog w) A (eval elt (compEnvC scope cl C env)) Z E' { s with heap := h, toks := tk }) :
    CTurn prog w A h₀ L m env elt x [] scope cl s I news n (fun i v => (refsOf els)[i]? = some v) (JI news P) :=
  turnI fun i v ys C oC m₂ D oI h tk E' Z hi hv hZ hoC hx =>
    let ⟨T, l, k, he, e, ho⟩ := els_atF hv
    turn i T l k ys C oC m₂ D oI h tk E' Z he ho hZ hoC (hx.trans (congrArg some e))
theorem rr_noneI {P : Nat → Int → Prop} {Q : Value → Shared → Prop}
    (done : ∀ D ys zs h tk, IntsAre ys zs → zs.length = n → (∀ j z, zs[j]? = some z → P j z) → (∀ p ∈ news, p.1 < D) → Fr h₀ L h m → News h₀ L h ((D, LCg.lst ys) :: news) → Q (.ref D) { s with heap := h, toks := tk }) :
    RRof h₀ L m s news (JI news P n) (compPost (model prog w) A E none Q) :=
  rr_none fun D ys nx h tk ⟨e, zs, a, b, c⟩ hD off F N => done D ys zs h tk a b c hD F (e ▸ N)
theorem rr_asgnI {P : Nat → Int → Prop} {Q : Value → Shared → Prop} {y : Str} {py : Pos} (hLe : env.locals = L)
    (hy : env.kindOf y = some .local) (hp : (env.scope.kind == .class || (env.scope.kind == .module && env.locals != env.globals)) = false)
    (done : ∀ D ys zs h tk, IntsAre ys zs → zs.length = n → (∀ j z, zs[j]? = some z → P j z) → (∀ p ∈ news, p.1 < D) → Fr h₀ L h (fun z => if z = y then some (.ref D) else m z) → News h₀ L h ((D, LCg.lst ys) :: news) → Q .none { s with heap := h, toks := tk }) :
    RRof h₀ L m s news (JI news P n) (compPost (model prog w) A E (some (assign (.Name y py) env)) Q) :=
  rr_asgn hLe hy hp fun D ys nx h tk ⟨e, zs, a, b, c⟩ hD off F N => done D ys zs h tk a b c hD F (e ▸ N)
/-- texts -/
theorem turnT {I : Addr} {f : Nat → Str} {Pv : Nat → Value → Prop}
    (turn : ∀ i v cs C oC m₂ D oI h tk (E' Z : Value → Shared → Prop), i < n → Pv i v → (∀ c t h' tk', c = f i → Fr h₀ L h' m → News h₀ L h' ((I, oI) :: (C, oC) :: (D, LCg.lst (strValues cs)) :: news) → Z (.str c t) { s with heap := h', toks := tk' }) →
      LCg.NsObj oC m₂ → m₂ x = some v → (∀ p ∈ news, p.1 < I) → (@LT.lt Nat _ I D) → (@LT.lt Nat _ D C) → Fr h₀ L h m → News h₀ L h ((I, oI) :: (C, oC) :: (D, LCg.lst (strValues cs)) :: news) →
      wpAny (model prog w) A (eval elt (compEnvC scope cl C env)) Z E' { s with heap := h, toks := tk }) :
    CTurn prog w A h₀ L m env elt x [] scope cl s I news n Pv (JT news f) := by
  rintro i v ys nx C oC m₂ D oI h tk E' hi hv ⟨rfl, cs, rfl, hcs⟩ hoC hx hnI hID hDC off F N
  refine wpAny_tests_nil ?_
  rw [if_pos rfl]
  exact turn i v cs C oC m₂ D oI h tk E' _ hi hv (fun z t h' tk' hp F' N' => jt_end F' N' off hcs hp) hoC hx hnI hID hDC F N
theorem turnTs {I : Addr} {f : Nat → Str} {V : Int}
    (turn : ∀ i u cs C oC m₂ D oI h tk (E' Z : Value → Shared → Prop), i < 10 → (∀ c t h' tk', c = f i → Fr h₀ L h' m → News h₀ L h' ((I, oI) :: (C, oC) :: (D, LCg.lst (strValues cs)) :: news) → Z (.str c t) { s with heap := h', toks := tk' }) →
      LCg.NsObj oC m₂ → m₂ x = some (.str (one (sgn V i)) u) → (∀ p ∈ news, p.1 < I) → (@LT.lt Nat _ I D) → (@LT.lt Nat _ D C) → Fr h₀ L h m → News h₀ L h ((I, oI) :: (C, oC) :: (D, LCg.lst (strValues cs)) :: news) →
      wpAny (model prog w) A (eval elt (compEnvC scope cl C env)) Z E' { s with heap := h, toks := tk }) :
    CTurn prog w A h₀ L m env elt x [] scope cl s I news n (SignAt (fmText V)) (JT news f) :=
  turnT fun i v cs C oC m₂ D oI h tk E' Z hi hv hZ hoC hx =>
    let ⟨hi, u, e⟩ := sg_at hv
    turn i u cs C oC m₂ D oI h tk E' Z hi hZ hoC (hx.trans (congrArg some e))
theorem turnTt {I : Addr} {f g : Nat → Str} {qs : List (Str × Tok)} (hq : qs.map (·.1) = (List.range n).map g)
    (turn : ∀ i u cs C oC m₂ D oI h tk (E' Z : Value → Shared → Prop), i < n → (∀ c t h' tk', c = f i → Fr h₀ L h' m → News h₀ L h' ((I, oI) :: (C, oC) :: (D, LCg.lst (strValues cs)) :: news) → Z (.str c t) { s with heap := h', toks := tk' }) →
      LCg.NsObj oC m₂ → m₂ x = some (.str (g i) u) → (∀ p ∈ news, p.1 < I) → (@LT.lt Nat _ I D) → (@LT.lt Nat _ D C) → Fr h₀ L h m → News h₀ L h ((I, oI) :: (C, oC) :: (D, LCg.lst (strValues cs)) :: news) →
      wpAny (model prog w) A (eval elt (compEnvC scope cl C env)) Z E' { s with heap := h, toks := tk }) :
    CTurn prog w A h₀ L m env elt x [] scope cl s I news (strValues qs).length (fun i v => (strValues qs)[i]? = some v) (JT news f) := by
  have hl : (strValues qs).length = n := by
    have := congrArg List.length hq
    unfold strValues
    rw [List.length_map] at this ⊢
    rw [this, List.length_map, List.length_range]
  refine turnT fun i v cs C oC m₂ D oI h tk E' Z hi hv hZ hoC hx => ?_
  obtain ⟨c, u, e, hc⟩ := strs_at (l := qs) (by simpa using hv)
  have hi' : i < n := hl ▸ hi
  have hcg : c = g i := by
    have h1 := congrArg (fun z : List Str => z[i]?) hq
    rw [List.getElem?_map, hc, List.getElem?_map, List.getElem?_range hi'] at h1
    exact Option.some.inj h1
  exact turn i u cs C oC m₂ D oI h tk E' Z hi' hZ hoC (hx.trans (by rw [e, hcg]))
theorem rr_noneT {f : Nat → Str} {Q : Value → Shared → Prop}
    (done : ∀ D cs h tk, cs.map (·.1) = (List.range n).map f → (∀ p ∈ news, p.1 < D) → Fr h₀ L h m → News h₀ L h ((D, LCg.lst (strValues cs)) :: news) → Q (.ref D) { s with heap := h, toks := tk }) :
    RRof h₀ L m s news (JT news f n) (compPost (model prog w) A E none Q) :=
  rr_none fun D ys nx h tk ⟨e, cs, e2, a⟩ hD off F N => done D cs h tk a hD F (e2 ▸ e ▸ N)
theorem rr_asgnT {f : Nat → Str} {Q : Value → Shared → Prop} {y : Str} {py : Pos} (hLe : env.locals = L)
    (hy : env.kindOf y = some .local) (hp : (env.scope.kind == .class || (env.scope.kind == .module && env.locals != env.globals)) = false)
    (done : ∀ D cs h tk, cs.map (·.1) = (List.range n).map f → (∀ p ∈ news, p.1 < D) → Fr h₀ L h (fun z => if z = y then some (.ref D) else m z) → News h₀ L h ((D, LCg.lst (strValues cs)) :: news) → Q .none { s with heap := h, toks := tk }) :
    RRof h₀ L m s news (JT news f n) (compPost (model prog w) A E (some (assign (.Name y py) env)) Q) :=
  rr_asgn hLe hy hp fun D ys nx h tk ⟨e, cs, e2, a⟩ hD off F N => done D cs h tk a hD F (e2 ▸ e ▸ N)
/-- the lists that begin otherwise -/
theorem turnB {I : Addr} {els : Els} {T0 : List Str} {p : Nat} {c : Expr}
    (turn : ∀ (i : Nat) T l k els' C oC m₂ D oI h tk (E' ZY : Value → Shared → Prop) (ZN : Shared → Prop), els[i]? = some (T, l, k) → (T, W.listOf (strValues l).toArray k) ∈ objsOf els →
      (∀ h' tk', ¬ (l.map (·.1)).take p = T0.take p → Fr h₀ L h' m → News h₀ L h' ((I, oI) :: (C, oC) :: (D, LCg.lst (refsOf els')) :: news) → ZY (.ref T) { s with heap := h', toks := tk' }) →
      (∀ h' tk', (l.map (·.1)).take p = T0.take p → Fr h₀ L h' m → News h₀ L h' ((I, oI) :: (C, oC) :: (D, LCg.lst (refsOf els')) :: news) → ZN { s with heap := h', toks := tk' }) →
      LCg.NsObj oC m₂ → m₂ x = some (.ref T) → (∀ p ∈ news, p.1 < I) → (@LT.lt Nat _ I D) → (@LT.lt Nat _ D C) → Fr h₀ L h m → News h₀ L h ((I, oI) :: (C, oC) :: (D, LCg.lst (refsOf els')) :: news) →
      wpAny (model prog w) A (testsOf [c] (compEnvC scope cl C env)) (fun ok s₃ => if ok = true then wpAny (model prog w) A (eval elt (compEnvC scope cl C env)) ZY E' s₃ else ZN s₃) E' { s with heap := h, toks := tk }) :
    CTurn prog w A h₀ L m env elt x [c] scope cl s I news n (fun i v => (refsOf els)[i]? = some v) (JB news els T0 p) := by
  rintro i v ys nx C oC m₂ D oI h tk E' hi hv ⟨rfl, els', rfl, hsub, hnil⟩ hoC hx hnI hID hDC off F N
  obtain ⟨T, l, k, he, rfl, ho⟩ := els_atF hv
  exact turn i T l k els' C oC m₂ D oI h tk E' _ _ he ho (fun h' tk' hd F' N' => jb_yes F' N' off hsub he hd) (fun h' tk' hd F' N' => jb_no F' N' off hsub hnil he hd) hoC hx hnI hID hDC F N
theorem rr_noneB {els : Els} {T0 : List Str} {p : Nat} {Q : Value → Shared → Prop}
    (done : ∀ D els' h tk, (∀ e ∈ els', e ∈ els) → (els' = [] ↔ goodB ((textsOf els).take n) T0 p = true) → (∀ p ∈ news, p.1 < D) → Fr h₀ L h m → News h₀ L h ((D, LCg.lst (refsOf els')) :: news) → Q (.ref D) { s with heap := h, toks := tk }) :
    RRof h₀ L m s news (JB news els T0 p n) (compPost (model prog w) A E none Q) :=
  rr_none fun D ys nx h tk ⟨e, els', e2, a, b⟩ hD off F N => done D els' h tk a b hD F (e2 ▸ e ▸ N)
theorem turnG {I : Addr} {Ts : List (List Str)} {T0 : List Str} {c : Expr}
    (turn : ∀ i tv ys X oX C oC D oI h tk (E' ZY : Value → Shared → Prop) (ZN : Shared → Prop), i < n →
      (∀ t h' tk', goodB Ts T0 i = true → Fr h₀ L h' m → News h₀ L h' ((I, oI) :: (X, oX) :: (C, oC) :: (D, LCg.lst ys) :: news) → ZY (.int (i : Int) t) { s with heap := h', toks := tk' }) →
      (∀ h' tk', goodB Ts T0 i = false → Fr h₀ L h' m → News h₀ L h' ((I, oI) :: (X, oX) :: (C, oC) :: (D, LCg.lst ys) :: news) → ZN { s with heap := h', toks := tk' }) →
      oX.data = .cell (some (.int (i : Int) tv)) → (∀ p ∈ news, p.1 < I) → (@LT.lt Nat _ I D) → (@LT.lt Nat _ D C) → (@LT.lt Nat _ C X) → Fr h₀ L h m → News h₀ L h ((I, oI) :: (X, oX) :: (C, oC) :: (D, LCg.lst ys) :: news) →
      wpAny (model prog w) A (testsOf [c] (compEnvC scope ((x, X) :: cl) C env)) (fun ok s₃ => if ok = true then wpAny (model prog w) A (eval elt (compEnvC scope ((x, X) :: cl) C env)) ZY E' s₃ else ZN s₃) E' { s with heap := h, toks := tk }) :
    CTurnC prog w A h₀ L m env elt x [c] scope cl s I news n (fun i v => ∃ t, v = .int (0 + (i : Int)) t) (JG news Ts T0) := by
  rintro i v ys nx X oX C oC D oI h tk E' hi ⟨tv, rfl⟩ ⟨rfl, hys⟩ hoX hnI hID hDC hCX off F N
  have hk : (0 : Int) + (i : Int) = (i : Int) := by omega
  rw [hk] at hoX
  exact turn i tv ys X oX C oC D oI h tk E' _ _ hi (fun t h' tk' hg F' N' => jg_yes F' N' off hys hg) (fun h' tk' hg F' N' => jg_no F' N' off hys hg) hoX hnI hID hDC hCX F N
theorem rr_asgnG {Ts : List (List Str)} {T0 : List Str} {Q : Value → Shared → Prop} {y : Str} {py : Pos} (hLe : env.locals = L)
    (hy : env.kindOf y = some .local) (hp : (env.scope.kind == .class || (env.scope.kind == .module && env.locals != env.globals)) = false)
    (done : ∀ D ys h tk, IntsAre ys (goods Ts T0 n) → (∀ p ∈ news, p.1 < D) → Fr h₀ L h (fun z => if z = y then some (.ref D) else m z) → News h₀ L h ((D, LCg.lst ys) :: news) → Q .none { s with heap := h, toks := tk }) :
    RRof h₀ L m s news (JG news Ts T0 n) (compPost (model prog w) A E (some (assign (.Name y py) env)) Q) :=
  rr_asgn hLe hy hp fun D ys nx h tk ⟨e, a⟩ hD off F N => done D ys h tk a hD F (e ▸ N)
end
section
variable {kc dc cd D6 p1 p2 p3 aP d1 d2 d3 aD I T1 T2 T3 TT I3 : Addr} {oaD oaP o6 oD oK oTT o1 o2 o3 oI oI3 : Obj} {h₀ h : Heap} {L : Addr} {nx rest : List (Addr × Obj)} {ms : List Int} {R : Str} {n n1 n2 n3 j d : Nat} {forb : List Addr} {fx : List (Addr × Obj)} {nd : Int} {m₀ m : Str → Option Value}
theorem lawSt_fx (h : LawSt forb cd d1 d2 d3 p1 p2 p3 fx ms R n1 n2 n3 nx) {p : Addr × Obj} (hp : p ∈ fx) : p ∈ nx := by
  refine h.el ?_
  intro q1 q2 q3 els1 els2 els3 k1 k2 k3 k4 k5 k6 oc vc nw e0 _ _ _ _ _ _ _ _
  subst e0
  exact .tail _ (.tail _ (.tail _ (.tail _ (.tail _ (.tail _ (.tail _ (List.mem_append_left _ hp)))))))
theorem lawSt_cd (h : LawSt forb cd d1 d2 d3 p1 p2 p3 fx ms R n1 n2 n3 nx) : ∃ o, (cd, o) ∈ nx := by
  refine h.el ?_
  intro q1 q2 q3 els1 els2 els3 k1 k2 k3 k4 k5 k6 oc vc nw e0 _ _ _ _ _ _ _ _
  subst e0
  exact ⟨oc, mem_at 6 rfl⟩
/-- the start -/
theorem lawSt_0 {oc : Obj} {vc : Option Value} (h : oc.data = .cell vc) : LawSt forb cd d1 d2 d3 p1 p2 p3 fx ms R 0 0 0 ((d1, W.listOf #[] 0) :: (d2, W.listOf #[] 0) :: (d3, W.listOf #[] 0) :: (p1, W.listOf #[] 0) :: (p2, W.listOf #[] 0) :: (p3, W.listOf #[] 0) :: (cd, oc) :: fx) :=
  ⟨[], [], [], [], [], [], 0, 0, 0, 0, 0, 0, oc, vc, [], by rw [List.append_nil]; rfl, h, by simp [objsOf], by simp [objsOf], by simp [objsOf], by simp, ⟨rfl, rfl⟩, ⟨rfl, rfl⟩, ⟨rfl, rfl⟩⟩
/-- into the loop over the ways -/
theorem outer_open (hst : LawSt [cd, d1, d2, d3, p1, p2, p3, kc] cd d1 d2 d3 p1 p2 p3 [(aD, oaD), (aP, oaP), (D6, o6), (dc, oD), (kc, oK)] ms R n n n nx) (hoff : ∀ p ∈ nx, p.1 ≠ I) (N : News h₀ L h ((TT, oTT) :: (T3, o3) :: (T2, o2) :: (T1, o1) :: (I, oI) :: nx)) :
    ∃ nx', News h₀ L h nx' ∧ LawSt (I :: [cd, d1, d2, d3, p1, p2, p3, kc]) cd d1 d2 d3 p1 p2 p3 [(TT, oTT), (T3, o3), (T2, o2), (T1, o1), (I, oI), (aD, oaD), (aP, oaP), (D6, o6), (dc, oD), (kc, oK)] ms R n n n nx' := by
  refine hst.el ?_
  intro q1 q2 q3 els1 els2 els3 k1 k2 k3 k4 k5 k6 oc vc nw e0 hoc ho1 ho2 ho3 hnw hT1 hT2 hT3
  subst e0
  have hnI : ∀ p ∈ nw, p.1 ≠ I := fun p hp => hoff p (mem_dr (nz := nw) 12 rfl p hp)
  exact ⟨_, cb_drop (news := (d1, W.listOf (refsOf els1).toArray k1) :: (d2, W.listOf (refsOf els2).toArray k2) :: (d3, W.listOf (refsOf els3).toArray k3) :: (p1, W.listOf (strValues q1).toArray k4) :: (p2, W.listOf (strValues q2).toArray k5) :: (p3, W.listOf (strValues q3).toArray k6) :: (cd, oc) :: ([(TT, oTT), (T3, o3), (T2, o2), (T1, o1), (I, oI), (aD, oaD), (aP, oaP), (D6, o6), (dc, oD), (kc, oK)] ++ nw)) N (all_cons (mem_at 5 rfl) (all_cons (mem_at 6 rfl) (all_cons (mem_at 7 rfl) (all_cons (mem_at 8 rfl) (all_cons (mem_at 9 rfl) (all_cons (mem_at 10 rfl) (all_cons (mem_at 11 rfl) (all_cons (mem_at 0 rfl) (all_cons (mem_at 1 rfl) (all_cons (mem_at 2 rfl) (all_cons (mem_at 3 rfl) (all_cons (mem_at 4 rfl) (all_cons (mem_at 12 rfl) (all_cons (mem_at 13 rfl) (all_cons (mem_at 14 rfl) (all_cons (mem_at 15 rfl) (all_cons (mem_at 16 rfl) (mem_dr 17 rfl)))))))))))))))))),
    q1, q2, q3, els1, els2, els3, k1, k2, k3, k4, k5, k6, oc, vc, nw, rfl, hoc, ho1, ho2, ho3, List.forall_mem_cons.mpr ⟨hnI, hnw⟩, hT1, hT2, hT3⟩
/-- the ledger of a turn over the ways, the cell apart -/
noncomputable def InSt (kc dc cd D6 p1 p2 p3 aP d1 d2 d3 aD I T1 T2 T3 TT I3 : Addr) (oaD oaP o6 oD oK oTT o1 o2 o3 oI : Obj) (ms : List Int) (R : Str) (n1 n2 n3 : Nat) (rest : List (Addr × Obj)) : Prop :=
  ∃ (r1 r2 r3 : List (Str × Tok)) (fls1 fls2 fls3 : Els) (g1 g2 g3 g4 g5 g6 : Nat) (nz : List (Addr × Obj)), rest = (d1, W.listOf (refsOf fls1).toArray g1) :: (d2, W.listOf (refsOf fls2).toArray g2) :: (d3, W.listOf (refsOf fls3).toArray g3) :: (p1, W.listOf (strValues r1).toArray g4) :: (p2, W.listOf (strValues r2).toArray g5) :: (p3, W.listOf (strValues r3).toArray g6) :: ([(TT, oTT), (T3, o3), (T2, o2), (T1, o1), (I, oI), (aD, oaD), (aP, oaP), (D6, o6), (dc, oD), (kc, oK)] ++ nz) ∧
    (∀ p ∈ objsOf fls1, p ∈ nz) ∧ (∀ p ∈ objsOf fls2, p ∈ nz) ∧ (∀ p ∈ objsOf fls3, p ∈ nz) ∧ (∀ a ∈ (I :: [cd, d1, d2, d3, p1, p2, p3, kc]), ∀ p ∈ nz, p.1 ≠ a) ∧ (∀ p ∈ nz, p.1 ≠ I3) ∧ LawTx ms R 1 n1 r1 fls1 ∧ LawTx ms R 2 n2 r2 fls2 ∧ LawTx ms R 3 n3 r3 fls3
theorem inner_goA (hc : Chain kc dc cd D6 p1 p2 p3 aP d1 d2 d3 aD I T1 T2 T3 TT I3) (hst : LawSt (I :: [cd, d1, d2, d3, p1, p2, p3, kc]) cd d1 d2 d3 p1 p2 p3 [(TT, oTT), (T3, o3), (T2, o2), (T1, o1), (I, oI), (aD, oaD), (aP, oaP), (D6, o6), (dc, oD), (kc, oK)] ms R n1 n2 n3 nx) (hoff : ∀ p ∈ nx, p.1 ≠ I3) (N : News h₀ L h ((I3, oI3) :: nx)) {C : Prop}
    (k : ∀ od vd rest, od.data = .cell vd → InSt kc dc cd D6 p1 p2 p3 aP d1 d2 d3 aD I T1 T2 T3 TT I3 oaD oaP o6 oD oK oTT o1 o2 o3 oI ms R n1 n2 n3 rest → News h₀ L h ((I3, oI3) :: (cd, od) :: rest) → (∀ p ∈ rest, p.1 ≠ cd) → C) : C := by
  refine hst.el ?_
  intro r1 r2 r3 fls1 fls2 fls3 g1 g2 g3 g4 g5 g6 od vd nz e0 hod hz1 hz2 hz3 hnz hU1 hU2 hU3
  subst e0
  have hnI3 : ∀ p ∈ nz, p.1 ≠ I3 := fun p hp => hoff p (mem_dr (nz := nz) 17 rfl p hp)
  obtain ⟨rest, hrest, N5, hr5⟩ := inner_open hc hnz N
  exact k od vd rest hod ⟨r1, r2, r3, fls1, fls2, fls3, g1, g2, g3, g4, g5, g6, nz, hrest, hz1, hz2, hz3, hnz, hnI3, hU1, hU2, hU3⟩ N5 hr5
theorem end3 {g : Heap} {S : List (Addr × Obj) → Prop} (hx : ∃ nx, News h₀ L g ([(I3, oI3)] ++ nx) ∧ (∀ p ∈ nx, ∀ q ∈ [(I3, oI3)], p.1 ≠ q.1) ∧ S nx) : ∃ nx, News h₀ L g ((I3, oI3) :: nx) ∧ (∀ p ∈ nx, p.1 ≠ I3) ∧ S nx := by
  obtain ⟨nx, a, b, e⟩ := hx
  exact ⟨nx, a, fun p hp => b p hp _ (.head _), e⟩
/-- behind the names: the two lists to be added to, and how the turn ends -/
theorem inner_goB {T : Addr} {l : List (Str × Tok)} {kn : Nat} {od' : Obj} {vd : Option Value} (hc : Chain kc dc cd D6 p1 p2 p3 aP d1 d2 d3 aD I T1 T2 T3 TT I3)
    (hs : InSt kc dc cd D6 p1 p2 p3 aP d1 d2 d3 aD I T1 T2 T3 TT I3 oaD oaP o6 oD oK oTT o1 o2 o3 oI ms R (if 0 < j then n + 1 else n) (if 1 < j then n + 1 else n) (if 2 < j then n + 1 else n) rest) (hd : d = 1 ∨ d = 2 ∨ d = 3) (hdj : d = j + 1)
    (hT : @LT.lt Nat _ I3 T) (hod : od'.data = .cell vd) (hV : ms[n]? = some nd) (hl : l.map (·.1) = namesOf ((d : Nat) : Int) (fmText nd) R) (hm : ms.length ≤ 3)
    (N : News h₀ L h ((T, W.listOf (strValues l).toArray kn) :: (I3, oI3) :: (cd, od') :: rest)) {C : Prop}
    (k : ∀ (dk pk : Addr) (Y X : Array Value) (gd gp : Nat) (rest2 : List (Addr × Obj)), (#[Value.ref d1, .ref d2, .ref d3] : Array Value)[((d : Int) - 1).toNat]? = some (.ref dk) → (#[Value.ref p1, .ref p2, .ref p3] : Array Value)[((d : Int) - 1).toNat]? = some (.ref pk) → Y.size ≤ 3 → X.size ≤ 3 →
      News h₀ L h ((pk, W.listOf X gp) :: (dk, W.listOf Y gd) :: (cd, od') :: (aP, oaP) :: (aD, oaD) :: (dc, oD) :: rest2) → (∀ p ∈ (dk, W.listOf Y gd) :: (cd, od') :: (aP, oaP) :: (aD, oaD) :: (dc, oD) :: rest2, p.1 ≠ pk) → (∀ p ∈ (cd, od') :: (aP, oaP) :: (aD, oaD) :: (dc, oD) :: rest2, p.1 ≠ dk) → (∀ o : Obj, (pk, o).1 ≠ dk) →
      (∀ h' t, News h₀ L h' ((pk, W.listOf (X.push (.str (pathS d R nd) t)) (gp + 1)) :: (dk, W.listOf (Y.push (.ref T)) (gd + 1)) :: (cd, od') :: (aP, oaP) :: (aD, oaD) :: (dc, oD) :: rest2) →
        ∃ nx, News h₀ L h' ((I3, oI3) :: nx) ∧ (∀ p ∈ nx, p.1 ≠ I3) ∧ LawSt (I :: [cd, d1, d2, d3, p1, p2, p3, kc]) cd d1 d2 d3 p1 p2 p3 [(TT, oTT), (T3, o3), (T2, o2), (T1, o1), (I, oI), (aD, oaD), (aP, oaP), (D6, o6), (dc, oD), (kc, oK)] ms R (if 0 < j + 1 then n + 1 else n) (if 1 < j + 1 then n + 1 else n) (if 2 < j + 1 then n + 1 else n) nx) → C) : C := by
  refine hideP ?_
  intro G kG
  obtain ⟨r1, r2, r3, fls1, fls2, fls3, g1, g2, g3, g4, g5, g6, nz, hrest, hz1, hz2, hz3, hnz, hnI3, hU1, hU2, hU3⟩ := hs
  refine kG ?_
  clear kG
  rcases hd with rfl | rfl | rfl
  · obtain rfl : j = 0 := by omega
    obtain ⟨rest2, hr2, N18, hA, hB, hAB⟩ := inner_pre1 hc hT hnz hrest N
    have hsz := tx_size hU1 hm
    exact k d1 p1 _ _ _ _ rest2 rfl rfl hsz.2 hsz.1 N18 hA hB hAB fun h' t N' => end3 (inner_end1 (t := t) hc hT hnz hnI3 hr2 hod hz1 hz2 hz3 hU1 hU2 hU3 hV hl N' (by simp) (by simp))
  · obtain rfl : j = 1 := by omega
    obtain ⟨rest2, hr2, N18, hA, hB, hAB⟩ := inner_pre2 hc hT hnz hrest N
    have hsz := tx_size hU2 hm
    exact k d2 p2 _ _ _ _ rest2 rfl rfl hsz.2 hsz.1 N18 hA hB hAB fun h' t N' => end3 (inner_end2 (t := t) hc hT hnz hnI3 hr2 hod hz1 hz2 hz3 hU1 hU2 hU3 hV hl N' (by simp) (by simp))
  · obtain rfl : j = 2 := by omega
    obtain ⟨rest2, hr2, N18, hA, hB, hAB⟩ := inner_pre3 hc hT hnz hrest N
    have hsz := tx_size hU3 hm
    exact k d3 p3 _ _ _ _ rest2 rfl rfl hsz.2 hsz.1 N18 hA hB hAB fun h' t N' => end3 (inner_end3 (t := t) hc hT hnz hnI3 hr2 hod hz1 hz2 hz3 hU1 hU2 hU3 hV hl N' (by simp) (by simp))
/-- which of the three -/
theorem pick_tup {u1 u2 u3 w1 w2 w3 : Tok} {v : Value} (hv : [Value.ref T1, .ref T2, .ref T3][j]? = some v) (hst : LawSt forb cd d1 d2 d3 p1 p2 p3 ((TT, oTT) :: (T3, ({ cls := .type "tuple", data := .seq #[.int 3 u3, .str (sentS 3 nd) w3] } : Obj)) :: (T2, ({ cls := .type "tuple", data := .seq #[.int 2 u2, .str (sentS 2 nd) w2] } : Obj)) :: (T1, ({ cls := .type "tuple", data := .seq #[.int 1 u1, .str (sentS 1 nd) w1] } : Obj)) :: fx) ms R n1 n2 n3 nx) {C : Prop}
    (k : ∀ (T : Addr) (d : Nat) (td ts : Tok), v = .ref T → (d = 1 ∨ d = 2 ∨ d = 3) → d = j + 1 → (T, ({ cls := .type "tuple", data := .seq #[.int (d : Int) td, .str (sentS d nd) ts] } : Obj)) ∈ nx → C) : C := by
  rcases sent_at hv with ⟨rfl, rfl⟩ | ⟨rfl, rfl⟩ | ⟨rfl, rfl⟩
  · exact k T1 1 u1 w1 rfl (.inl rfl) rfl (lawSt_fx hst (mem_at 3 rfl))
  · exact k T2 2 u2 w2 rfl (.inr (.inl rfl)) rfl (lawSt_fx hst (mem_at 2 rfl))
  · exact k T3 3 u3 w3 rfl (.inr (.inr rfl)) rfl (lawSt_fx hst (mem_at 1 rfl))
theorem lawSt_cdlt (h : LawSt forb cd d1 d2 d3 p1 p2 p3 fx ms R n1 n2 n3 nx) (hI : ∀ p ∈ nx, p.1 < I3) : @LT.lt Nat _ cd I3 := let ⟨_, ho⟩ := lawSt_cd h; hI _ ho
theorem lj_0 {oc : Obj} {vc : Option Value} (h : oc.data = .cell vc) : LJ m₀ forb cd d1 d2 d3 p1 p2 p3 fx ms R 0 m₀ ((d1, W.listOf #[] 0) :: (d2, W.listOf #[] 0) :: (d3, W.listOf #[] 0) :: (p1, W.listOf #[] 0) :: (p2, W.listOf #[] 0) :: (p3, W.listOf #[] 0) :: (cd, oc) :: fx) := ⟨fun _ _ => rfl, lawSt_0 h⟩
theorem lj2_0 (h : LawSt forb cd d1 d2 d3 p1 p2 p3 fx ms R n n n nx) : LJ2 m₀ forb cd d1 d2 d3 p1 p2 p3 fx ms R n 0 m₀ nx := ⟨fun _ _ => rfl, h⟩
end
/-- the token of an item -/
noncomputable def tkA (q : List (Str × Tok)) (i : Nat) : Tok := (q.getD i (Str.empty, 0)).2
theorem ten_vals {f : Nat → Str} {q : List (Str × Tok)} (h : q.map (·.1) = (List.range 10).map f ++ [Str.empty]) :
    (strValues (q.take 10)).toArray.toList = [.str (f 0) (tkA q 0), .str (f 1) (tkA q 1), .str (f 2) (tkA q 2), .str (f 3) (tkA q 3), .str (f 4) (tkA q 4), .str (f 5) (tkA q 5), .str (f 6) (tkA q 6), .str (f 7) (tkA q 7), .str (f 8) (tkA q 8), .str (f 9) (tkA q 9)] := by
  have hl : q.length = 11 := by have := congrArg List.length h; simpa using this
  have key : ∀ i, i < 10 → q[i]? = some (f i, tkA q i) := by
    intro i hi
    have h1 := congrArg (fun z : List Str => z[i]?) h
    have h2 : q[i]? = some (q.getD i (Str.empty, 0)) := by
      rw [List.getD_eq_getElem?_getD, List.getElem?_eq_getElem (by omega), Option.getD_some]
    rw [List.getElem?_map, h2, List.getElem?_append_left (by simp; omega), List.getElem?_map, List.getElem?_range hi] at h1
    rw [h2]
    exact congrArg some (Prod.ext (Option.some.inj h1) rfl)
  have e : [Value.str (f 0) (tkA q 0), .str (f 1) (tkA q 1), .str (f 2) (tkA q 2), .str (f 3) (tkA q 3), .str (f 4) (tkA q 4), .str (f 5) (tkA q 5), .str (f 6) (tkA q 6), .str (f 7) (tkA q 7), .str (f 8) (tkA q 8), .str (f 9) (tkA q 9)] = (List.range 10).map fun i => Value.str (f i) (tkA q i) := rfl
  rw [List.toList_toArray, e]
  refine List.ext_getElem? fun i => ?_
  unfold strValues
  rw [List.getElem?_map, List.getElem?_take, List.getElem?_map]
  by_cases hi : i < 10
  · rw [if_pos hi, key i hi, List.getElem?_range hi]; rfl
  · rw [if_neg hi, List.getElem?_eq_none (l := List.range 10) (by simp; omega)]; rfl
theorem ten_size (q : List (Str × Tok)) : (strValues (q.take 10)).toArray.size ≤ sizeLine := by
  rw [List.size_toArray, sizeLine_eq]; unfold strValues
  rw [List.length_map, List.length_take]; omega
theorem ji_mem {led nx : List (Addr × Obj)} {P : Nat → Int → Prop} {i : Nat} {ys : List Value} (h : JI led P i ys nx) {p : Addr × Obj} (hp : p ∈ led) : p ∈ nx := h.1 ▸ hp
theorem jt_mem {led nx : List (Addr × Obj)} {f : Nat → Str} {i : Nat} {ys : List Value} (h : JT led f i ys nx) {p : Addr × Obj} (hp : p ∈ led) : p ∈ nx := h.1 ▸ hp
theorem jb_mem {led nx : List (Addr × Obj)} {els : Els} {T0 : List Str} {q i : Nat} {ys : List Value} (h : JB led els T0 q i ys nx) {p : Addr × Obj} (hp : p ∈ led) : p ∈ nx := h.1 ▸ hp
section
variable {prog : Program} {w : World} {A : Around} {E : Value → Shared → Prop} {s : Shared} {h₀ : Heap} {L : Addr} {m : Str → Option Value} {news : List (Addr × Obj)} {d : Addr} {n : Nat} {value slice : Expr}
theorem pick_last {l : List (Str × Tok)} {k : Nat} (hl : l.length = k + 1) : W.kms_pick (strValues l).toArray.toList none (some (-1)) = strValues (l.take k) := by
  show ((strValues l).drop 0).take ((if (-1 : Int) < 0 then (strValues l).length - (-(-1 : Int)).toNat else min ((-1 : Int)).toNat (strValues l).length) - 0) = _
  rw [if_pos (by decide), List.drop_zero, Nat.sub_zero]
  unfold strValues
  rw [List.length_map, ← List.map_take, hl]
  rfl
theorem sliceM {f : Nat → Str} {l : List (Str × Tok)} {vu : Value} {Q : Value → Shared → Prop} (F : Fr h₀ L s.heap m) (N : News h₀ L s.heap news) (hm : (d, W.listOf (strValues l).toArray n) ∈ news) (pu : IsPart vu (some (-1))) (ht10 : l.map (·.1) = (List.range 10).map f ++ [Str.empty])
    (h : ∀ D h', Fr h₀ L h' m → News h₀ L h' ((D, W.listOf (strValues (l.take 10)).toArray 0) :: news) → (∀ p ∈ news, p.1 < D) → Q (.ref D) { s with heap := h' })
    (hs : subscripted slice false (.ref d) (.ref s.heap.objs.size) = operate [.ref s.heap.objs.size, .ref d] (getItem (.ref d) (.ref s.heap.objs.size))) (ht : ∀ r, letTemporaryGo value (.ref d) r = pure ()) :
    wpAny (model prog w) A (subscriptTail value slice (.ref d) (.ref s.heap.objs.size)) Q E { s with heap := s.heap.push { cls := .type "slice", data := .fields #[.none, vu, .none] } } := by
  have hl : l.length = 10 + 1 := by have := congrArg List.length ht10; simpa using this
  exact W.kms_slice_lit F N ⟨_, (N _ hm).1, rfl, n, rfl⟩ .none pu (pick_last hl) h hs ht (by rw [List.size_toArray, sizeLine_eq]; unfold strValues; rw [List.length_map]; omega)
end
theorem d3I {d : Nat} (h : d = 1 ∨ d = 2 ∨ d = 3) : (d : Int) = 1 ∨ (d : Int) = 2 ∨ (d : Int) = 3 := by rcases h with rfl | rfl | rfl <;> simp
theorem d3N {d : Nat} (h : d = 1 ∨ d = 2 ∨ d = 3) : d ≤ 3 := by rcases h with rfl | rfl | rfl <;> decide
theorem i3N {i : Nat} (h : i < 3) : i + 1 = 1 ∨ i + 1 = 2 ∨ i + 1 = 3 := by
  match i, h with
  | 0, _ => exact .inl rfl
  | 1, _ => exact .inr (.inl rfl)
  | 2, _ => exact .inr (.inr rfl)
end Mine
end

section -- text LAWY
theorem Mine.rows_off_LAWY : True := by
  k_with_none
  trivial
open PySem PySem.W PyProof.Rows
set_option maxHeartbeats 8000000
local macro_rules | `(tactic| k_ne) => `(tactic| k_extra "k_ne")
local macro_rules | `(tactic| k_lt $h:ident) => `(tactic| (replace $h := Mine.ltA_of $h; (try dsimp only [List.map_cons, List.map_nil] at $h:ident)))
namespace Mine
theorem lines_LAWX_1 : True := by
  k_with_none
  k_with "k_at" => (first | exact ixm 0 rfl | exact ixm 1 rfl | exact ixm 2 rfl | exact ixm 3 rfl | exact ixm 4 rfl | exact ixm 5 rfl | exact ixm 6 rfl | exact ixm 7 rfl | exact ixm 8 rfl | exact ixm 9 rfl | exact ixm 10 rfl | exact ixm 11 rfl | exact ixm 12 rfl | exact ixm 13 rfl | exact ixm 14 rfl | exact ixm 15 rfl | exact ixm 16 rfl | exact ixm 17 rfl | exact ixm 18 rfl | exact ixm 19 rfl)
  k_with "k_ne" => (refine neN ?_; (try dsimp only); first | with_reducible assumption | exact Ne.symm (by with_reducible assumption) | (refine ltA_ne (by with_reducible assumption) ?_; walk_at "k_at") | (refine ltA_ne' (by with_reducible assumption) ?_; walk_at "k_at") | exact And.left (by with_reducible assumption) | exact Ne.symm (And.left (by with_reducible assumption)) | exact And.left (And.right (by with_reducible assumption)) | exact Ne.symm (And.left (And.right (by with_reducible assumption))) | exact And.left (And.right (And.right (by with_reducible assumption))) | exact Ne.symm (And.left (And.right (And.right (by with_reducible assumption)))) | exact And.left (And.right (And.right (And.right (by with_reducible assumption)))) | exact Ne.symm (And.left (And.right (And.right (And.right (by with_reducible assumption))))) | exact And.left (And.right (And.right (And.right (And.right (by with_reducible assumption))))) | exact Ne.symm (And.left (And.right (And.right (And.right (And.right (by with_reducible assumption)))))) | exact And.right (by with_reducible assumption) | exact Ne.symm (And.right (by with_reducible assumption)) | exact And.right (And.right (by with_reducible assumption)) | exact Ne.symm (And.right (And.right (by with_reducible assumption))) | exact And.right (And.right (And.right (by with_reducible assumption))) | exact Ne.symm (And.right (And.right (And.right (by with_reducible assumption)))) | exact And.right (And.right (And.right (And.right (by with_reducible assumption)))) | exact Ne.symm (And.right (And.right (And.right (And.right (by with_reducible assumption))))) | omega | ((dsimp only [LtA] at *); omega))
  k_with "law_one" => ((fail_if_success (with_reducible show wpAny _ _ (pyIter _) _ _ _)); (fail_if_success (with_reducible show wpAny _ _ (eval (PySem.Expr.ListComp _ _ _ _) _) _ _ _)); (fail_if_success (with_reducible show wpAny _ _ (exec (PySem.Stmt.Assign [_] (PySem.Expr.ListComp _ _ _ _) _) _) _ _ _)); first | (walk_at "my_sub") | (k_unfold; (try dsimp only)) | (k_end; kc_close) | walk1 | (dsimp only; walk1) | (leave1; walk_say "STEP leave1"; (try dsimp only)) | fail "no step")
  k_with "law_steps" => repeat' (walk_at "law_one")
  k_with "law_app" => repeat' ((fail_if_success (with_reducible show wpAny _ _ (call (Value.builtin "list.append") _) _ _ _)); (walk_at "law_one"))
  k_with "my_sub" => ((with_reducible show wpAny _ _ (subscriptTail _ _ (Value.ref _) (Value.int _ _)) _ _ _); k_dflt (refine itemL (by k_asm) (by k_mem) (by omega) (by omega) (by with_reducible assumption) ?_; k_whole))
  k_with "law_b" => repeat' ((fail_if_success (with_reducible show wpAny _ _ (call (Value.builtin "len") _) _ _ _)); (fail_if_success (with_reducible show wpAny _ _ (call (Value.builtin "min") _) _ _ _)); (fail_if_success (with_reducible show wpAny _ _ (call (Value.builtin "max") _) _ _ _)); (fail_if_success (with_reducible show wpAny _ _ (compareOp _ (Value.ref _) (Value.ref _)) _ _ _)); (fail_if_success (with_reducible show wpAny _ _ (subscriptTail _ (PySem.Expr.Slice _ _ _ _) (Value.ref _) _) _ _ _)); (walk_at "law_one"))
  k_with "call ref" => (k_here; (with_reducible show wpAny _ _ (call (Value.ref 175) _) _ _ _); k_dflt (refine use_cl2 (by k_asm) (by k_asm) (by k_asm) (by k_asm) (by k_asm) (by first | exact rfl | assumption) (by ktr_room) (by ktr_units) (cp_spec _ _ _ _ _ _ _ _ _ (by k_mem) (by assumption) (by assumption) (by assumption) _ (by assumption)) ?_; k_whole); intro _ _ _ _ _; (try dsimp only); (try k_fold))
  k_with "law_till" => repeat' ((fail_if_success (with_reducible show wpAny _ _ (exec (PySem.Stmt.Expr _ _) _) _ _ _)); (fail_if_success (with_reducible show wpAny _ _ (eval (PySem.Expr.IfExp _ _ _ _) _) _ _ _)); (fail_if_success (with_reducible show wpAny _ _ (call (Value.builtin "str.split") _) _ _ _)); (fail_if_success (with_reducible show wpAny _ _ (call (Value.builtin "list.append") _) _ _ _)); (fail_if_success (with_reducible show wpAny _ _ (subscriptTail _ (PySem.Expr.Slice _ _ _ _) _ _) _ _ _)); (walk_at "law_one"))
  k_with "law_ends" => repeat' ((fail_if_success (with_reducible show ∃ _, _)); (walk_at "law_one"))
  k_with "my_comp" => first | k_dflt (refine ListComp_at (by with_unfolding_all rfl) (by rfl) (by decide) ?_) | k_dflt (refine Assign_at (by with_unfolding_all rfl) (by with_unfolding_all rfl) (by rfl) (by decide) ?_)
  k_with "call builtin:sum" => (k_here; (with_reducible show wpAny _ _ (call (Value.builtin "sum") [Value.ref _]) _ _ _); k_dflt (refine sumK (by exact rfl) (by k_asm) (by k_asm) (by k_mem) (by first | assumption | exact IntsAre.pick (by assumption) _ _ _) ?_; k_whole); intro _ _ _ _ _ _)
  k_with "my_sub" => ((with_reducible show wpAny _ _ (subscriptTail _ _ (Value.ref _) (Value.int (Int.fmod _ 3) _)) _ _ _); k_dflt (refine item3 (by k_asm) (by k_mem) (by exact Int.fmod_nonneg_of_pos _ (by decide)) (by exact Int.fmod_lt_of_pos _ (by decide)) ?_; k_whole); intro R tR hR; have hRl : R.length ≤ 2 := r3_len hR (by decide +kernel) (by decide +kernel) (by decide +kernel))
  k_with "call builtin:str.join" => (k_here; (with_reducible show wpAny _ _ (call (Value.builtin _) [Value.str _ _, Value.ref _]) _ _ _); k_dflt (refine joinN (by k_asm) (by (repeat (first | assumption | apply List.Mem.head | apply List.Mem.tail))) (by assumption) ?_; k_whole); intro _ _; (try k_fold))
  k_with "call ref" => (k_here; (with_reducible show wpAny _ _ (call (Value.ref 222) [Value.int _ _]) _ _ _); k_dflt (refine use_cl2 (by k_asm) (by k_asm) (by k_asm) (by k_asm) (by k_asm) (by first | exact rfl | assumption) (by ktr_room) (by ktr_units) (fm_spec _ _ _ _ _ _ _ _ (by assumption) (by assumption)) ?_; k_whole); intro _ _ _ _ _; (try dsimp only); (try k_fold))
  k_with "call ref" => (k_here; (with_reducible show wpAny _ _ (call (Value.ref 229) [Value.int _ _]) _ _ _); k_dflt (refine use_cl2 (by k_asm) (by k_asm) (by k_asm) (by k_asm) (by k_asm) (by first | exact rfl | assumption) (by ktr_room) (by ktr_units) (lr_spec' _ _ _ _ _ _ _ _ (by assumption) (by assumption)) ?_; k_whole); intro _ _ _ _ _; (try dsimp only); (try k_fold))
  k_with "call ref" => (k_here; (with_reducible show wpAny _ _ (call (Value.ref 62) [Value.str _ _]) _ _ _); k_dflt (refine use_cl2 (by k_asm) (by k_asm) (by k_asm) (by k_asm) (by k_asm) (by first | exact rfl | assumption) (by ktr_room) (by ktr_units) (fix_mail _ _ _ _ _ _ _ _) ?_; k_whole); intro _ _ _ _ _; (try dsimp only); (try k_fold))
  k_with "call ref" => (k_here; (with_reducible show wpAny _ _ (call (Value.ref 55) [Value.str (mailS _ _) _]) _ _ _); k_dflt (refine use_cl2 (by k_asm) (by k_asm) (by k_asm) (by k_asm) (by k_asm) (by first | exact rfl | assumption) (by ktr_room) (by ktr_units) (quote_mail _ _ _ _ _ _ _ _) ?_; k_whole); intro _ _ _ _ _; (try dsimp only); (try k_fold))
  k_with "call ref" => (k_here; (with_reducible show wpAny _ _ (call (Value.ref 55) [Value.str (sentS _ _) _]) _ _ _); k_dflt (refine use_cl2 (by k_asm) (by k_asm) (by k_asm) (by k_asm) (by k_asm) (by first | exact rfl | assumption) (by ktr_room) (by ktr_units) (quote_once _ _ _ _ _ _ _ _) ?_; k_whole); intro _ _ _ _ _; (try dsimp only); (try k_fold))
  k_with "call ref" => (k_here; (with_reducible show wpAny _ _ (call (Value.ref 236) [Value.str _ _, Value.int _ _, Value.str _ _]) _ _ _); k_dflt (refine use_cn2 (by k_asm) (by k_asm) (by k_asm) (by k_asm) (by k_asm) (by first | exact rfl | assumption) (by ktr_room) (by ktr_units) (names_spec _ _ _ _ _ _ _ _ _ _ _ _ (fmText_len _) (by assumption) (by assumption)) ?_; k_whole); intro _ _ _ _ _ zl1 _ _; (try k_lt zl1); (try dsimp only); (try k_fold))
  k_with "call ref" => (k_here; (with_reducible show wpAny _ _ (call (Value.ref 156) _) _ _ _); k_dflt (refine use_cl2 (by k_asm) (by k_asm) (by k_asm) (by k_asm) (by k_asm) (by first | exact rfl | assumption) (by ktr_room) (by ktr_units) (join_rows _ _ _ _ _ _ _ _ _ _ _ _ _ _ _ _ _ _ _ _ (by assumption) (by assumption)) ?_; k_whole); intro _ _ _ _ _; (try dsimp only); (try k_fold))
  k_with "call ref" => (k_here; (with_reducible show wpAny _ _ (call (Value.ref 170) _) _ _ _); k_dflt (refine use_cl2 (by k_asm) (by k_asm) (by k_asm) (by k_asm) (by k_asm) (by first | exact rfl | assumption) (by ktr_room) (by ktr_units) (norm_rows _ _ _ _ _ _ _ _ _ _ (by assumption) (by assumption)) ?_; k_whole); intro _ _ _ _ _; (try dsimp only); (try k_fold))
  k_with "exec For Name Name cons nil" => (k_here; (rename Fr _ _ _ _ => lF); with_unfolding_all refine' W.For_turns lF ?_)
  k_with "exec For Name Name" => (k_here; (rename Fr _ _ _ _ => lF); with_unfolding_all refine' W.For_turns lF ?_)
  k_with "exec For Name Call cons nil" => (k_here; (rename Fr _ _ _ _ => lF); with_unfolding_all refine' W.For_turns lF ?_)
  k_with "exec For Name Call" => (k_here; (rename Fr _ _ _ _ => lF); with_unfolding_all refine' W.For_turns lF ?_)
  k_with "exec For Tuple Tuple cons nil" => (k_here; (rename Fr _ _ _ _ => lF); with_unfolding_all refine' W.For_turns lF ?_)
  k_with "exec For Tuple Tuple" => (k_here; (rename Fr _ _ _ _ => lF); with_unfolding_all refine' W.For_turns lF ?_)
  k_with "k_all" => first | assumption | exact ne_of_lts (by assumption)
  trivial
set_option maxHeartbeats 40000000 in
theorem law_t : PySem.Challenge.rw_il0078_01.Holds := Mine.hd (by
  k_go0
  rename_i w s0 s1 mg mb G Y fa o pm doc ho hg KX X V GL T B TE TW w13 w12 M w11 w10 hcd ns hs hlay0 hL1 hr1 hl2 w8 w7 sc vs w4 hL ra w1 r0 hI hr hlen hcond K0 hD h1 tk1 F0 c4 c3 c2 c1 d4 d3 d2 d1 N0 X0
  clear G Y V GL B TE TW M hcd hD X
  dsimp only at F0 d1 d2 d3 d4 N0 ⊢
  clear X0
  (try k_fold)
  refine wpAny_noRaise ?_
  clear ek
  walk_at "law_steps"
  walk1
  walk1
  walk_at "law_steps"
  rename IntsAre ys _ => hnum
  have hnl : ys.length ≤ 63 := by rw [hnum.length, List.length_map, List.length_take]; omega
  generalize List.map (fun k' : Int => k'.fmod 1000000) (List.take 63 ns) = nums at *
  walk_at "my_comp"
  walk_at "law_steps"
  rename IsRange _ _ _ _ _ _ _ _ => hR
  (rename Fr _ _ _ _ => lF'); (rename News _ _ _ _ => lN')
  obtain ⟨n2, hn2, hn2'⟩ : ∃ n : Nat, (if (nums.length : Int) < 2 then (nums.length : Int) else 2) = (n : Int) ∧ n ≤ 2 := by
    by_cases h : (nums.length : Int) < 2
    · exact ⟨nums.length, if_pos h, by omega⟩
    · exact ⟨2, if_neg h, Nat.le_refl _⟩
  rw [hn2] at hR
  have lN3 := cb_drop lN' (fun p hp => hp)
  (with_unfolding_all refine' comp_rng (n := n2) (JI _ fun _ _ => True) rfl lF' lN' hR (range_small (by omega)).1 (range_small (by omega)).2 (by rw [sizeLine_eq]; omega) (by decide) rfl (by rfl) ⟨rfl, [], .nil, rfl, fun j z h => by simp at h⟩ (fun I9 => turnIr ?turn) (rr_noneI ?done))
  case turn =>
    intro i tv ys C oC m₂ D oI h2 tk2 E' Z hi hZ hoC hx hnI hID hDC F1 N1
    have hk0 : (0 : Int) + (i : Int) = (i : Int) := Int.zero_add _
    rw [hk0] at hx
    walk_at "law_steps"
    exact hZ _ _ _ _ trivial (by assumption) (cb_drop (by assumption) (fun p hp => .tail _ hp))
  case done =>
    intro D5 ys5 zs5 h5 tk5 hzs5 hzl5 hzP5 hD5 F5 N5
    clear lF' lN' lN3
    (try dsimp only)
    walk_at "law_steps"
    rename IntsAre _ (zs5 ++ [17064]) => hdr
    (rename Fr _ _ _ _ => lF'); (rename News _ _ _ _ => lN')
    have hdl : (zs5 ++ [17064]).length ≤ 3 := by rw [List.length_append, hzl5, List.length_singleton]; omega
    have hdl1 : 1 ≤ (zs5 ++ [17064]).length := by rw [List.length_append, List.length_singleton]; omega
    have hdw := hdr.length
    walk_at "my_comp"
    walk_at "law_steps"
    (rename Fr _ _ _ _ => lF'); (rename News _ _ _ _ => lN')
    (with_unfolding_all refine' comp_lst (JI _ fun _ z => 0 ≤ z ∧ z < 1048576) rfl lF' lN' (.head _) (by rw [sizeLine_eq, hdw]; exact Nat.le_trans hdl (by decide)) (by decide) rfl (by rfl) ⟨rfl, [], .nil, rfl, fun j z h => by simp at h⟩ ?mj (fun I9 => turnIi hdr ?mturn) (rr_asgnI ?a1 ?a2 ?a3 ?mdone))
    case a1 => exact rfl
    case a2 => exact rfl
    case a3 => exact rfl
    case mj => exact fun i ys nx h => ji_mem h (.head _)
    case mturn =>
      intro i nd td ys C oC m₂ D oI h2 tk2 E' Z hi hnd hZ hoC hx hnI hID hDC F1 N1
      walk_at "law_steps"
      exact hZ _ _ _ _ ⟨Int.fmod_nonneg_of_pos _ (by decide), Int.fmod_lt_of_pos _ (by decide)⟩ (by assumption) (by assumption)
    case mdone =>
      intro D6 ys6 ms h6 tk6 hms hml hmP hD6 F6 N6
      clear lF' lN'
      (try dsimp only)
      k_lt hD5
      k_lt hD6
      walk_at "law_steps"
      rename_i x80 x79 x78 x77 x76 x75 x74 x73 x72 x71 x70 x69 x68 x67 x66 x65 x64 x63 x62 x61 x60 x59 x58 x57 x56 x55 x54 x53 x52 x51 x50 x49 x48 x47 x46 x45 x44 aT h12 l18 z1 t11 h11 tk1 h10 tk01 ap1 h9 l17 ap2 h8 l16 ap3 h7 l15 aP h6 l14 h5 tk0 ad1 h4 l13 ad2 h3 l12 ad3 h2 l11 aD h1 l10 h0 oD lN dD
      have hml3 : ms.length ≤ 3 := by rw [hml, hdw]; exact hdl
      have hms1 : 1 ≤ ms.length := by rw [hml, hdw]; exact hdl1
      clear hdl hdl1 hdw hml
      have hRo : R = Str.ofString "" ∨ R = Str.ofString "/" ∨ R = Str.ofString "//" := hR.elim (fun h => .inl h.2) fun h => h.elim (fun h => .inr (.inl h.2)) fun h => .inr (.inr h.2)
      have lN3 := cb_drop (news := [(ad1, W.listOf #[] 0), (ad2, W.listOf #[] 0), (ad3, W.listOf #[] 0), (ap1, W.listOf #[] 0), (ap2, W.listOf #[] 0), (ap3, W.listOf #[] 0), (s1.heap.objs.size + 1 + 1 + 1 + 1, c4), (aD, W.listOf #[.ref ad1, .ref ad2, .ref ad3] 0), (aP, W.listOf #[.ref ap1, .ref ap2, .ref ap3] 0), (D6, LCg.lst ys6), (s1.heap.objs.size + 1 + 1 + 1, oD), (s1.heap.objs.size + 1 + 1, c2)]) lN (by kcj_all)
      clear lN
      (with_unfolding_all refine' turns_lstZi (vs := ys6) hms (LJ _ [s1.heap.objs.size + 1 + 1 + 1 + 1, ad1, ad2, ad3, ap1, ap2, ap3, s1.heap.objs.size + 1 + 1] (s1.heap.objs.size + 1 + 1 + 1 + 1) ad1 ad2 ad3 ap1 ap2 ap3 [(aD, W.listOf #[.ref ad1, .ref ad2, .ref ad3] 0), (aP, W.listOf #[.ref ap1, .ref ap2, .ref ap3] 0), (D6, LCg.lst ys6), (s1.heap.objs.size + 1 + 1 + 1, oD), (s1.heap.objs.size + 1 + 1, c2)] ms R) rfl lF lN3 ?lm (lj_0 d4) ?lJ ?lturn ?ldone)
      case lm => exact mem_at 9 rfl
      case lJ => exact fun i m nx h => lawSt_fx h.2 (mem_at 2 rfl)
      case lturn =>
        intro Z1 i nd td m₁ nx h tk I oI hZ1 hI hi hnd hJ1 hoff F1 N1
        have hm := hJ1.1
        have hst := hJ1.2
        obtain ⟨hm0, hm1⟩ := hmP i nd hnd
        have hc1 := self2 (u := some (.str R tR)) (v := some (.ref aP)) ((hm (Str.ofString "root") (by decide +kernel)).trans rfl) ((hm (Str.ofString "paths") (by decide +kernel)).trans rfl)
        rw [hc1] at F1
        change Fr s1.heap s1.heap.objs.size _ _ at F1
        change News s1.heap s1.heap.objs.size _ _ at N1
        have hI' := hI
        k_lt hI'
        have hord : @LT.lt Nat _ (s1.heap.objs.size + 1 + 1 + 1 + 1) (D6) ∧ @LT.lt Nat _ (D6) (ap1) ∧ @LT.lt Nat _ (ap1) (ap2) ∧ @LT.lt Nat _ (ap2) (ap3) ∧ @LT.lt Nat _ (ap3) (aP) ∧ @LT.lt Nat _ (aP) (ad1) ∧ @LT.lt Nat _ (ad1) (ad2) ∧ @LT.lt Nat _ (ad2) (ad3) ∧ @LT.lt Nat _ (ad3) (aD) ∧ @LT.lt Nat _ (aD) (I) := by (refine ⟨ltA_mem (by with_reducible assumption) ?_, ltA_mem (by with_reducible assumption) ?_, ltA_mem (by with_reducible assumption) ?_, ltA_mem (by with_reducible assumption) ?_, ltA_mem (by with_reducible assumption) ?_, ltA_mem (by with_reducible assumption) ?_, ltA_mem (by with_reducible assumption) ?_, ltA_mem (by with_reducible assumption) ?_, ltA_mem (by with_reducible assumption) ?_, ltA_mem (by with_reducible assumption) ?_⟩) <;> (walk_at "k_at")
        clear hI' lF lN3 l10 l11 l12 l13 l14 l15 l16 l17 l18 hD5 hD6
        walk_at "law_steps"
        all_goals try ((have hbad : (fmText nd != fmText nd) = true := by with_reducible assumption); exact absurd hbad (by simp))
        rename IsRange _ _ _ _ _ _ _ _ => hRg
        (rename Fr _ _ _ _ => F2'); (rename News _ _ _ _ => N2')
        (with_unfolding_all refine' turns_rngM (n := 10) nd rfl F2' N2' hRg (by decide +kernel) (by decide +kernel) ?pm0 ?pturn ?pdone)
        case pm0 => exact rfl
        case pturn =>
          intro Z2 p tv m₂ h2 tk2 I2 oI2 t2 hZ2 hI2 hp hm2 hmail F2 N2
          have hk0 : (0 : Int) + (p : Int) = (p : Int) := Int.zero_add _
          rw [hk0]
          have hc2 := self3 (v := some (.str (fmText nd) _)) (w := some (.int nd td)) hmail ((hm2 (Str.ofString "signs") (by decide +kernel)).trans rfl) ((hm2 (Str.ofString "mode") (by decide +kernel)).trans rfl)
          rw [hc2] at F2
          change Fr s1.heap s1.heap.objs.size _ _ at F2
          change News s1.heap s1.heap.objs.size _ _ at N2
          k_lt hI2
          have hml' := mail_len nd p
          have hfl := fmText_len nd
          clear F2' N2'
          walk_at "law_steps"
          all_goals ((rename Fr _ _ _ _ => Fz); (rename News _ _ _ _ => Nz))
          all_goals (refine hZ2 _ _ _ Fz (cb_drop Nz ?_) ?_ ?_)
          all_goals (first | (intro p hp; (repeat (first | exact hp | apply List.Mem.tail)); done) | (intro y hy; refine Eq.trans ?_ (hm2 y hy); have hy2 := pm_y2 hy; have hyc := congrFun hc2 y; simp only [if_neg hy2.1, if_neg hy2.2] at hyc ⊢; exact hyc.symm) | exact ⟨_, some_str (mail_dash hp (by assumption) (by assumption))⟩ | exact ⟨_, some_str (mail_sign hp (by assumption) (by assumption))⟩)
        case pdone =>
          intro m₂ h2 tk2 t2 hm2 hmail F2 N2
          have hc2 := self4 (v := some (.str (fmText nd) _)) (w := some (.str R tR)) (x := some (.ref aP)) hmail ((hm2 (Str.ofString "signs") (by decide +kernel)).trans rfl) ((hm2 (Str.ofString "root") (by decide +kernel)).trans rfl) ((hm2 (Str.ofString "paths") (by decide +kernel)).trans rfl)
          rw [hc2] at F2
          change Fr s1.heap s1.heap.objs.size _ _ at F2
          change News s1.heap s1.heap.objs.size _ _ at N2
          clear F2' N2'
          walk_at "law_steps"
          rename_i t2b h27 tk26 qk25 ek24 h23b t1b h21b tk20 qk19 ek18 T1 h24 lT1 T2 h23 lT2 t33 h22 tk22 T3 h21 lT3 TT h20 F3 N3 lTT
          have hT01 : @LT.lt Nat _ I T1 := lT1.1
          have hT12 : @LT.lt Nat _ T1 T2 := lT2.1
          have hT23 : @LT.lt Nat _ T2 T3 := lT3.1
          have hT3T : @LT.lt Nat _ T3 TT := lTT.1
          clear lT1 lT2 lT3 lTT
          obtain ⟨nx0, N3', hst'⟩ := outer_open hst hoff N3
          (with_unfolding_all refine' turns_tupZ (vs := [.ref T1, .ref T2, .ref T3]) (LJ2 _ _ _ _ _ _ _ _ _ _ _ _ _) rfl F3 N3' (l := TT) (n₀ := 0) (lawSt_fx hst' (.head _)) (lj2_0 hst') ?dJ ?dturn ?ddone)
          case dJ => exact fun i m nx h => lawSt_fx h.2 (.head _)
          case dturn =>
            intro Z3 j v m₃ nx3 h3 tk3 I3 oI3 hZ3 hI3 hj hv3 hJ3 hoff3 F4 N4
            have hm3 := hJ3.1
            have hst3 := hJ3.2
            have hTI : @LT.lt Nat _ TT I3 := hI3 _ (lawSt_fx hst' (.head _))
            have hch : Chain (s1.heap.objs.size + 1 + 1) (s1.heap.objs.size + 1 + 1 + 1) (s1.heap.objs.size + 1 + 1 + 1 + 1) D6 ap1 ap2 ap3 aP ad1 ad2 ad3 aD I T1 T2 T3 TT I3 := ⟨Nat.lt_succ_self _, Nat.lt_succ_self _, hord.1, hord.2.1, hord.2.2.1, hord.2.2.2.1, hord.2.2.2.2.1, hord.2.2.2.2.2.1, hord.2.2.2.2.2.2.1, hord.2.2.2.2.2.2.2.1, hord.2.2.2.2.2.2.2.2.1, hord.2.2.2.2.2.2.2.2.2, hT01, hT12, hT23, hT3T, hTI, trivial⟩
            refine pick_tup hv3 hst3 ?_
            intro T d td' ts ev hd hdj hTm
            subst ev
            have hTu : IsTup h3 T #[.int (d : Int) td', .str (sentS d nd) ts] := ⟨_, (N4 (T, _) (.tail _ hTm)).1, rfl, _, rfl⟩
            refine inner_goA hch hst3 hoff3 N4 ?_
            intro od vd rest hod hin N5 hr5
            have hc3 := self3 (u := some (.str (fmText nd) _)) (v := some (.str R tR)) (w := some (.ref aP)) ((hm3 (Str.ofString "signs") (by decide +kernel)).trans rfl) ((hm3 (Str.ofString "root") (by decide +kernel)).trans rfl) ((hm3 (Str.ofString "paths") (by decide +kernel)).trans rfl)
            rw [hc3] at F4
            change Fr s1.heap s1.heap.objs.size _ _ at F4
            change News s1.heap s1.heap.objs.size _ _ at N5
            have hcI : LtA I3 [s1.heap.objs.size + 1 + 1 + 1 + 1] := ⟨lawSt_cdlt hst' hI3, trivial⟩
            have hd3 : d ≤ 3 := d3N hd
            (with_unfolding_all refine' unpackN_ F4 N5 hTu rfl rfl rfl ?_)
            intro h5 F5 N5'
            clear hTu N4 F4 hTm N5 F3 N3 N3' F2 N2 hI3 hI
            walk_at "law_steps"
            walk_at "my_comp"
            walk_at "law_steps"
            (rename Fr _ _ _ _ => lF8); (rename News _ _ _ _ => lN8)
            (with_unfolding_all refine' comp_str (JT _ (rowStr d nd)) rfl lF8 lN8 ?rsz (by decide) rfl (by rfl) ⟨rfl, [], rfl, rfl⟩ (fun I8 => turnTs ?rturn) (rr_asgnT ?ra1 ?ra2 ?ra3 ?rdone))
            case ra1 => exact rfl
            case ra2 => exact rfl
            case ra3 => exact rfl
            case rsz => (have := fmText_len nd; rw [sizeLine_eq]; show (fmText nd).length ≤ _; exact Nat.le_trans (Nat.le_of_eq this) (by decide))
            case rturn =>
              intro e u8 cs C8 oC8 m8 D8 oI8 h8 tk8 E8 Z8 he10 hZ8 hoC8 hx8 hnI8 hID8 hDC8 F8 N8
              walk_at "law_steps"
              all_goals first
                | exact hZ8 _ _ _ _ ((mul_dots hd).trans (row_dash (by assumption))) (by assumption) (by assumption)
                | exact hZ8 _ _ _ _ (row_sign (by assumption)) (by assumption) (by assumption)
            case rdone =>
              intro D8 cs8 h8 tk8 hcs8 hD8 F8 N8
              have hcs10 : cs8.map (·.1) = (List.range 10).map (rowStr d nd) := by
                have e : (fmText nd).cps.size = 10 := fmText_len nd
                rw [e] at hcs8; exact hcs8
              clear hcs8 lF8 lN8
              (try dsimp only)
              k_lt hD8
              walk_at "law_steps"
              walk_at "my_comp"
              walk_at "law_steps"
              have hcl8 : cs8.length = 10 := by
                have := congrArg List.length hcs10
                rwa [List.length_map, List.length_map, List.length_range] at this
              (with_unfolding_all refine' comp_lst (vs := strValues cs8) (JT _ fun p => rowStr d nd p ++ Str.ofString "\r\n") rfl F8 N8 (.head _) ?ssz (by decide) rfl (by rfl) ⟨rfl, [], rfl, rfl⟩ ?sj (fun I9 => turnTt hcs10 ?sturn) (rr_noneT ?sdone))
              case ssz => (show (strValues cs8).length ≤ _; rw [sizeLine_eq]; unfold strValues; rw [List.length_map, hcl8]; decide)
              case sj => exact fun i ys nx h => jt_mem h (.head _)
              case sturn =>
                intro e u9 cs C9 oC9 m9 D9 oI9 h9 tk9 E9 Z9 he10 hZ9 hoC9 hx9 hnI9 hID9 hDC9 F9 N9
                have hcl9 := rowStr_len d nd e hd3
                walk_at "law_steps"
                exact hZ9 _ _ _ _ rfl (by assumption) (by assumption)
              case sdone =>
                intro D10 cs10 h10 tk10 hcs10b hD10 F10 N10
                have hcs11 : cs10.map (·.1) = (List.range 10).map (fun p => rowStr d nd p ++ Str.ofString "\r\n") := by
                  have e : (strValues cs8).length = 10 := by unfold strValues; rw [List.length_map, hcl8]
                  rw [e] at hcs10b; exact hcs10b
                have hjok10 : JoinOk (Str.ofString "") (cs10.map (·.1)) = true := by rw [hcs11]; exact sent_ok d nd hd3
                have hje : Txt.join (Str.ofString "") (cs10.map (·.1)) = sentS d nd := by rw [hcs11]; exact (sent_join d nd).symm
                clear hcs10b F8 N8
                (try dsimp only)
                k_lt hD10
                iterate 6 (all_goals (try (walk_at "law_one")))
                all_goals try ((have hbad : (sentS d nd != Txt.join (Str.ofString "") (List.map (fun x => x.1) cs10)) = true := by with_reducible assumption); exact absurd hbad (by rw [hje]; simp))
                have hdI := d3I hd
                walk_at "law_till"
                rename (∃ l : List (Str × Tok), _ ∧ _) => P11
                obtain ⟨ln, e11, hln⟩ := P11
                subst e11
                have hjokn : JoinOk (Str.ofString "/") (ln.map (·.1)) = true := by rw [hln]; exact names_jok _ _ _
                have hjlen : (Txt.join (Str.ofString "/") (ln.map (·.1))).length ≤ 80 := by rw [hln]; exact names_jlen _ _ _
                have hpth := path_is d R nd hd hRo
                rw [← hln] at hpth
                have hsl12 := sent_len d nd hd3
                k_here
                (refine' W.KSpl.split1 ?sp1 ?sp2 ?sp3 ?sp4 ?sp5; (case sp1 => k_asm); (case sp2 => k_asm); (case sp3 => decide +kernel); (case sp5 => exact Nat.le_trans (Nat.add_le_add_right hsl12 2) (by rw [sizeLine_eq]; decide)); k_whole)
                intro D12 q12 h12 k12 hq12 a12 F12 N12 l12
                clear a12
                rw [sent_split d nd (d1N hd)] at hq12
                (try k_lt l12)
                (try dsimp only)
                walk_at "law_till"
                refine W.kba_turn (value' := .Name (Str.ofString "x") ⟨0, 0, 0, 0⟩) (fun _ => rfl) ?_
                (refine' sliceM (l := q12) ?sc1 ?sc2 ?sc3 ?sc4 hq12 ?_ ?sc7 ?sc8; (case sc1 => k_asm); (case sc2 => k_asm); (case sc3 => k_mem); (case sc4 => kmk_part); (case sc7 => with_unfolding_all rfl); (case sc8 => exact fun _ => rfl))
                intro D13 h13 F13 N13 l13
                (try k_lt l13)
                (refine' W.star_seq ?st1 ?st2 ?st3 ?st4 ?st5 ?st6 ?st7 ?st8 ?_; (case st1 => k_asm); (case st2 => k_asm); (case st3 => exact .head _); (case st4 => rfl); (case st5 => rfl); (case st6 => exact .inl rfl); (case st7 => exact ten_vals hq12); (case st8 => exact ten_size q12))
                intro h14 F14 N14
                walk_at "law_till"
                rename Heap => h15
                refine wpAny_mono (Q := fun v s' => ∃ t k, v = Value.str (pathS d R nd) t ∧ s' = (⟨h15, s1.gens, s1.drawn, k, s1.os⟩ : Shared)) ?ife ?iff (fun _ _ e => e)
                case ife =>
                  walk_at "law_ends"
                  all_goals (first | exact ⟨_, _, path_e1 hpth (by assumption), rfl⟩ | exact ⟨_, _, path_e2 hpth (by assumption), rfl⟩)
                case iff =>
                  rintro v15 s15 ⟨t15, k15, rfl, rfl⟩
                  (try dsimp only)
                  iterate 4 (all_goals (try (walk_at "law_one")))
                  all_goals try ((have hbad : (pathS d R nd != pathS d R nd) = true := by with_reducible assumption); exact absurd hbad (by simp))
                  (rename Fr _ _ _ _ => F16); (rename News _ _ _ _ => N16)
                  have N17 := cb_drop N16 (all_cons (mem_at 2 rfl) (all_cons (mem_at 5 rfl) (all_cons (mem_at 6 rfl) (mem_dr 7 rfl))))
                  change Fr s1.heap s1.heap.objs.size _ _ at F16
                  change News s1.heap s1.heap.objs.size _ _ at N17
                  clear N16
                  (try dsimp only)
                  refine inner_goB hch hin hd hdj (ltA_mem (by with_reducible assumption) (by walk_at "k_at")) (by assumption) hnd hln hml3 N17 ?_
                  intro dk pk Y X gd gp rest2 hxD hxP hY3 hX3 N18 hA hB hAB hfin
                  clear N17
                  walk_at "law_app"
                  k_here
                  (refine' append_K ?xa1 ?xb1 (.head hA) ?_ (Nat.le_trans hX3 (by rw [sizeLine_eq]; omega)); (case xa1 => k_asm); (case xb1 => k_asm); k_whole)
                  intro h18 F18 N19
                  walk_at "law_app"
                  k_here
                  (refine' append_K ?xc1 ?xd1 (.tail (hAB _) (.head hB)) ?_ (Nat.le_trans hY3 (by rw [sizeLine_eq]; omega)); (case xc1 => k_asm); (case xd1 => k_asm); k_whole)
                  intro h19 F19 N20
                  walk_at "law_app"
                  obtain ⟨nx', N21, off21, st21⟩ := hfin _ _ N20
                  refine hZ3 _ _ _ nx' F19 N21 off21 ⟨?_, st21⟩
                  intro y hy
                  refine Eq.trans ?_ (hm3 y hy)
                  have hy2 := pm_y4 hy
                  have hyc := congrFun hc3 y
                  simp only [if_neg hy2.1, if_neg hy2.2.1, if_neg hy2.2.2.1, if_neg hy2.2.2.2] at hyc ⊢
                  exact hyc.symm
          case ddone =>
            intro m₄ nx4 h4 tk4 hJ4 F5 N5
            have hm4 := hJ4.1
            have hst4 := hJ4.2
            have hchO : Chain (s1.heap.objs.size + 1 + 1) (s1.heap.objs.size + 1 + 1 + 1) (s1.heap.objs.size + 1 + 1 + 1 + 1) D6 ap1 ap2 ap3 aP ad1 ad2 ad3 aD I T1 T2 T3 TT (TT + 1) := ⟨Nat.lt_succ_self _, Nat.lt_succ_self _, hord.1, hord.2.1, hord.2.2.1, hord.2.2.2.1, hord.2.2.2.2.1, hord.2.2.2.2.2.1, hord.2.2.2.2.2.2.1, hord.2.2.2.2.2.2.2.1, hord.2.2.2.2.2.2.2.2.1, hord.2.2.2.2.2.2.2.2.2, hT01, hT12, hT23, hT3T, Nat.lt_succ_self _, trivial⟩
            (try dsimp only)
            walk_at "law_app"
            obtain ⟨nx', N6, off6', st6⟩ := outer_end hchO N5 hst4
            refine hZ1 _ _ _ nx' F5 N6 (fun p hp => off6' p hp _ (.head _)) ⟨?_, st6⟩
            intro y hy
            obtain ⟨n1, n2, n3, n4, n5, n6, n7, n8, n9⟩ := pm_y9 hy
            have a1 := hm4 y (by simp [n6, n7, n8, n9])
            have a2 := congrFun hc2 y
            have a3 := hm2 y (by simp [n3, n4])
            have a4 := congrFun hc1 y
            have a5 := hm y hy
            simp only [if_neg n1, if_neg n2, if_neg n3, if_neg n5] at a1 a2 a3 a4
            exact a1.trans (a2.symm.trans (a3.trans (a4.symm.trans a5)))
      case ldone =>
        intro m₅ nx5 h5 tk5 hJ5 F5 N5
        have hm5 := hJ5.1
        have hst5 := hJ5.2
        have hc5 := self2 (u := some (.str R tR)) (v := some (.ref aP)) ((hm5 (Str.ofString "root") (by decide +kernel)).trans rfl) ((hm5 (Str.ofString "paths") (by decide +kernel)).trans rfl)
        rw [hc5] at F5
        change Fr s1.heap s1.heap.objs.size _ _ at F5
        change News s1.heap s1.heap.objs.size _ _ at N5
        have hnm : ys6.length = ms.length := hms.length
        have hasc : Asc [s1.heap.objs.size + 1 + 1, s1.heap.objs.size + 1 + 1 + 1, s1.heap.objs.size + 1 + 1 + 1 + 1, D6, ap1, ap2, ap3, aP, ad1, ad2, ad3, aD] := by (refine ⟨Nat.lt_succ_self _, Nat.lt_succ_self _, ltA_mem (by with_reducible assumption) ?_, ltA_mem (by with_reducible assumption) ?_, ltA_mem (by with_reducible assumption) ?_, ltA_mem (by with_reducible assumption) ?_, ltA_mem (by with_reducible assumption) ?_, ltA_mem (by with_reducible assumption) ?_, ltA_mem (by with_reducible assumption) ?_, ltA_mem (by with_reducible assumption) ?_, ltA_mem (by with_reducible assumption) ?_, trivial⟩) <;> (walk_at "k_at")
        obtain ⟨rest, N6, hrk, hrd, hrD, hrP, hways⟩ := last_open hasc N5 hnm hst5
        clear l10 l11 l12 l13 l14 l15 l16 l17 l18 hasc hst5 N5 lN3 lF
        (try dsimp only)
        walk_at "law_steps"
        rename IsRange _ _ _ _ _ _ _ _ => hRk
        (rename Fr _ _ _ _ => F7); (rename News _ _ _ _ => N7)
        (with_unfolding_all refine' turns_rngK (n := 3) (s1.heap.objs.size + 1 + 1) rest rfl F7 N7 hRk (by decide +kernel) (by decide +kernel) d2 ?kturn ?kdone)
        case kturn =>
          intro Z8 i tv m₈ h8 tk8 I8 oI8 ok8 vk8 hZ8 hIk hkI hi8 hm8 hok8 F8 N8
          have hk0 : (0 : Int) + (i : Int) = (i : Int) := Int.zero_add _
          rw [hk0]
          obtain ⟨dk, pk, els, q, g, g', hwd, hwp, hmd, hmp, hmo, htx⟩ := hways i hi8
          have hc8 := self2 (u := some (.str R tR)) (v := some (.ref aP)) ((hm8 (Str.ofString "root") (by decide +kernel)).trans rfl) ((hm8 (Str.ofString "paths") (by decide +kernel)).trans rfl)
          rw [hc8] at F8
          change Fr s1.heap s1.heap.objs.size _ _ at F8
          change News s1.heap s1.heap.objs.size _ _ at N8
          have N9 : News s1.heap s1.heap.objs.size h8 ((I8, oI8) :: (s1.heap.objs.size + 1 + 1, ok8) :: (s1.heap.objs.size + 1 + 1 + 1, oD) :: (aD, W.listOf #[.ref ad1, .ref ad2, .ref ad3] 0) :: (aP, W.listOf #[.ref ap1, .ref ap2, .ref ap3] 0) :: (dk, W.listOf (refsOf els).toArray g) :: (pk, W.listOf (strValues q).toArray g') :: rest) :=
            cb_drop N8 (all_cons (mem_at 0 rfl) (all_cons (mem_at 1 rfl) (all_cons (.tail _ (.tail _ hrd)) (all_cons (.tail _ (.tail _ hrD)) (all_cons (.tail _ (.tail _ hrP)) (all_cons (.tail _ (.tail _ hmd)) (all_cons (.tail _ (.tail _ hmp)) (mem_dr 2 rfl))))))))
          have hrk' : ∀ p ∈ (s1.heap.objs.size + 1 + 1 + 1, oD) :: (aD, W.listOf #[.ref ad1, .ref ad2, .ref ad3] 0) :: (aP, W.listOf #[.ref ap1, .ref ap2, .ref ap3] 0) :: (dk, W.listOf (refsOf els).toArray g) :: (pk, W.listOf (strValues q).toArray g') :: rest, p.1 ≠ s1.heap.objs.size + 1 + 1 := all_cons (hrk _ hrd) (all_cons (hrk _ hrD) (all_cons (hrk _ hrP) (all_cons (hrk _ hmd) (all_cons (hrk _ hmp) hrk))))
          clear N8 hways
          have hel3 : els.length ≤ 3 := (tx_count htx).2 ▸ hml3
          have hq3 : q.length ≤ 3 := (tx_count htx).1 ▸ hml3
          have hq1 : 1 ≤ q.length := (tx_count htx).1 ▸ hms1
          have hel1 : 1 ≤ els.length := (tx_count htx).2 ▸ hms1
          clear hml3 hms1
          obtain ⟨T0, l0, k0, he0⟩ : ∃ (T : Addr) (l : List (Str × Tok)) (k : Nat), els[0]? = some (T, l, k) := ⟨_, _, _, List.getElem?_eq_getElem hel1⟩
          have hxD : (#[Value.ref ad1, .ref ad2, .ref ad3] : Array Value)[((i : Nat) : Int).toNat]? = some (.ref dk) := by simpa using hwd
          have hxP : (#[Value.ref ap1, .ref ap2, .ref ap3] : Array Value)[((i : Nat) : Int).toNat]? = some (.ref pk) := by simpa using hwp
          have hx0 : (refsOf els).toArray[((0 : Int)).toNat]? = some (.ref T0) := by simp [refsOf, he0]
          walk_at "law_steps"
          walk_at "my_comp"
          walk_at "law_steps"
          (rename Fr _ _ _ _ => F9); (rename News _ _ _ _ => N9c)
          (with_unfolding_all refine' comp_lst (vs := refsOf els) (JI _ fun j z => ∃ (T : Addr) (l : List (Str × Tok)) (k' : Nat), els[j]? = some (T, l, k') ∧ z = ((l.length : Nat) : Int)) rfl F9 N9c (mem_at 5 rfl) ?c1s (by decide) rfl (by rfl) ⟨rfl, [], .nil, rfl, fun j z h => by simp at h⟩ ?c1j (fun I9 => turnIe ?c1turn) (rr_noneI ?c1done))
          case c1s => (unfold refsOf; rw [List.length_map, sizeLine_eq]; exact Nat.le_trans hel3 (by decide))
          case c1j => exact fun i ys nx h => ji_mem h (mem_at 5 rfl)
          case c1turn =>
            intro j T l k' ys C9 oC9 m9 D9 oI9 h9 tk9 E9 Z9 he hTo hZ9 hoC9 hx9 hnI9 hID9 hDC9 F9' N9'
            have hsm := tx_small htx he
            walk_at "law_b"
            refine lenK (N9' (T, _) (mem_dr (nz := rest) 10 rfl _ (hmo _ hTo))).1 (by unfold strValues; rw [List.size_toArray, List.length_map]; exact Nat.le_trans hsm.1 (by decide)) ?_
            intro t11 k11
            exact hZ9 _ _ _ _ ⟨T, l, k', he, strs_size l⟩ (by assumption) (by assumption)
          case c1done =>
            intro D9 ys9 zs9 h9 tk9 hzs9 hzl9 hzP9 hD9 F9' N9'
            have hzl9' : zs9.length = els.length := by unfold refsOf at hzl9; rw [List.length_map] at hzl9; exact hzl9
            (try dsimp only)
            k_lt hD9
            walk_at "law_b"
            refine W.kso_min (vs := ys9) (ns := zs9) F9' N9' ⟨_, (N9' _ (.head _)).1, rfl, _, rfl⟩ hzs9 (by rw [hzl9']; exact hel1) rfl ?_
            intro h10 M t10 k10 F10 N10 hM1 hM2
            obtain ⟨mst, rfl, hleast⟩ := least_of hzl9' hzP9 hM1 hM2
            clear hM1 hM2 hzP9 hzs9 N9' F9' N9c F9
            have hm20 : mst ≤ 20 := by
              obtain ⟨⟨T, l, k'⟩, he, hl⟩ := hleast.1
              obtain ⟨j', hj', e'⟩ := List.mem_iff_getElem.mp he
              have := (tx_small htx ((List.getElem?_eq_getElem hj').trans (congrArg some e'))).1
              show mst ≤ 20
              rw [← hl]; exact this
            walk_at "law_steps"
            walk_at "my_comp"
            walk_at "law_steps"
            rename IsRange _ _ _ _ _ _ _ _ => hR2
            (rename Fr _ _ _ _ => F11); (rename News _ _ _ _ => N11)
            have hM1 : (mst : Int) + 1 = ((mst + 1 : Nat) : Int) := rfl
            rw [hM1] at hR2
            (with_unfolding_all refine' comp_rngC (n := mst + 1) (JG _ (textsOf els) (l0.map (·.1))) rfl F11 N11 hR2 (range_small (Nat.le_trans (Nat.add_le_add_right hm20 1) (by decide))).1 (range_small (Nat.le_trans (Nat.add_le_add_right hm20 1) (by decide))).2 (by rw [sizeLine_eq]; exact Nat.le_trans (Nat.add_le_add_right hm20 1) (by decide)) (fun _ => rfl) (fun _ => rfl) rfl (by rfl) ⟨rfl, .nil⟩ (fun I11 => turnG ?gturn) (rr_asgnG ?ga1 ?ga2 ?ga3 ?gdone))
            case ga1 => exact rfl
            case ga2 => exact rfl
            case ga3 => exact rfl
            case gturn =>
              intro p tv11 ys11 X11 oX11 C11 oC11 D11 oI11 h11 tk11 E11 ZY11 ZN11 hp11 hZY11 hZN11 hoX11 hnI11 hID11 hDC11 hCX11 F12 N12
              refine wpAny_tests_one ?_
              walk_at "law_steps"
              walk_at "my_comp"
              walk_at "law_steps"
              (rename Fr _ _ _ _ => F13); (rename News _ _ _ _ => N13)
              (with_unfolding_all refine' comp_lst (vs := refsOf els) (JB _ els (l0.map (·.1)) p) rfl F13 N13 (mem_at 10 rfl) ?b1s (by decide) rfl (by rfl) ⟨rfl, [], rfl, (fun _ h => nomatch h), by simp [goodB]⟩ ?b1j (fun I12 => turnB ?b1turn) (rr_noneB ?b1done))
              case b1s => (unfold refsOf; rw [List.length_map, sizeLine_eq]; exact Nat.le_trans hel3 (by decide))
              case b1j => exact fun i ys nx h => jb_mem h (mem_at 10 rfl)
              case b1turn =>
                intro j T l k' els' C12 oC12 m12 D12 oI12 h12 tk12 E12 ZY12 ZN12 he hTo hZY12 hZN12 hoC12 hx12 hnI12 hID12 hDC12 F14 N14
                have hsm := tx_small htx he
                have hsm0 := tx_small htx he0
                refine wpAny_tests_one ?_
                have hT0o : (T0, W.listOf (strValues l0).toArray k0) ∈ objsOf els := List.mem_map.mpr ⟨_, List.mem_of_getElem? he0, rfl⟩
                (try dsimp only)
                walk_at "law_b"
                (refine' sliceK (l := l) (n := k') (k := p) ?s1F ?s1N ?s1m ?s1p ?_ ?s1h ?s1t (Nat.le_trans hsm.1 (by decide)); (case s1F => k_asm); (case s1N => k_asm); (case s1m => exact mem_dr (nz := rest) 15 rfl _ (hmo _ hTo)); (case s1p => kmk_part); (case s1h => with_unfolding_all rfl); (case s1t => exact fun _ => rfl))
                intro D13 h13 F15 N15 l13
                walk_at "law_b"
                refine W.kba_turn (value' := .Name (Str.ofString "x") ⟨0, 0, 0, 0⟩) (fun _ => rfl) ?_
                (refine' sliceK (l := l0) (n := k0) (k := p) ?s2F ?s2N ?s2m ?s2p ?_ ?s2h ?s2t (Nat.le_trans hsm0.1 (by decide)); (case s2F => k_asm); (case s2N => k_asm); (case s2m => exact mem_dr (nz := rest) 16 rfl _ (hmo _ hT0o)); (case s2p => kmk_part); (case s2h => with_unfolding_all rfl); (case s2t => exact fun _ => rfl))
                intro D14 h14 F16 N16 l14
                walk_at "law_b"
                refine ne_strsK (l := l.take p) (k := l0.take p) (N16 _ (mem_at 1 rfl)).1 (N16 _ (mem_at 0 rfl)).1 (by rw [List.map_take]; exact okS_take hsm.2.1 p) (by rw [List.map_take]; exact okS_take hsm0.2.1 p) (by units_room) ?_
                generalize hbb : (!decide ((l.take p).map (·.1) = (l0.take p).map (·.1))) = bb
                walk_at "law_b"
                all_goals first
                  | exact hZY12 _ _ (cut_ne hbb (by with_reducible assumption)) F16 (cb_drop N16 (fun p hp => .tail _ (.tail _ hp)))
                  | exact hZN12 _ _ (cut_eq hbb (by with_reducible assumption)) F16 (cb_drop N16 (fun p hp => .tail _ (.tail _ hp)))
              case b1done =>
                intro D15 els' h15 tk15 hsub' hnil' hD15 F15 N15
                (try dsimp only)
                walk_at "law_b"
                (rename Fr _ _ _ _ => F17); (rename News _ _ _ _ => N17)
                refine eq_nilK (els := els') (N17 _ (mem_at 1 rfl)).1 (fun q hq => (N17 _ (mem_dr (nz := rest) 14 rfl _ (hmo _ (objs_sub hsub' q hq)))).1) (N17 _ (mem_at 0 rfl)).1 (texts_okS htx hsub') (by units_room) ?_
                generalize hb2 : decide (els' = []) = b2
                have hgd := good_is hnil' hb2
                walk_at "law_b"
                all_goals first
                  | exact hZY11 _ _ _ (hgd.trans (by with_reducible assumption)) F17 (cb_drop N17 (fun p hp => .tail _ (.tail _ hp)))
                  | exact hZN11 _ _ (hgd.trans (by with_reducible assumption)) F17 (cb_drop N17 (fun p hp => .tail _ (.tail _ hp)))
            case gdone =>
              intro D17 ys17 h17 tk17 hys17 hD17 F17 N17
              (try dsimp only)
              k_lt hD17
              have hd8 := i3N hi8
              obtain ⟨hql, hqa⟩ := way_paths hd8 hRo htx
              have hrc := root_cut hRo
              walk_at "law_b"
              (rename Fr _ _ _ _ => F18); (rename News _ _ _ _ => N18)
              change Fr s1.heap s1.heap.objs.size _ _ at F18
              change News s1.heap s1.heap.objs.size _ _ at N18
              refine W.kso_max (vs := ys17) (ns := goods (textsOf els) (l0.map (·.1)) (mst + 1)) F18 N18 ⟨_, (N18 _ (.head _)).1, rfl, _, rfl⟩ hys17 (goods_pos _ _ _) rfl ?_
              intro h19 M19 t19 k19 F19 N19 hX1 hX2
              obtain ⟨μ, rfl, hμ, hcp⟩ := cp_fin hd8 hRo htx he0 hleast hX1 hX2
              have hsm0 := tx_small htx he0
              have hT0o : (T0, W.listOf (strValues l0).toArray k0) ∈ objsOf els := List.mem_map.mpr ⟨_, List.mem_of_getElem? he0, rfl⟩
              obtain ⟨hcj, hcl⟩ := cut_join hsm0.2.2 μ
              clear hX1 hX2 N18 F18 hys17
              (try dsimp only)
              walk_at "law_b"
              refine W.kba_turn (value' := .Name (Str.ofString "x") ⟨0, 0, 0, 0⟩) (fun _ => rfl) ?_
              (refine' sliceK (l := l0) (n := k0) (k := μ) ?s3F ?s3N ?s3m ?s3p ?_ ?s3h ?s3t (Nat.le_trans hsm0.1 (by decide)); (case s3F => k_asm); (case s3N => k_asm); (case s3m => exact mem_dr (nz := rest) 9 rfl _ (hmo _ hT0o)); (case s3p => kmk_part); (case s3h => with_unfolding_all rfl); (case s3t => exact fun _ => rfl))
              intro D20 h20 F20 N20 l20
              walk_at "law_b"
              all_goals try ((have hbad : (cpText (!(R == Str.ofString "")) (List.map partsOf (List.map (fun x => x.1) q)) != Txt.slice R none (some 1) ++ Txt.join (Str.ofString "/") (List.map (fun x => x.1) (List.take μ l0))) = true := by with_reducible assumption); exact absurd hbad (by rw [hcp]; simp))
              refine hZ8 _ _ _ _ _ F20 (cb_drop N20 (all_cons (mem_at 3 rfl) (all_cons (mem_at 4 rfl) (mem_dr (nz := rest) 10 rfl)))) ?_ (by assumption)
              intro y hy
              refine Eq.trans ?_ (hm8 y hy)
              have hy2 := pm_z2 hy
              have hyc := congrFun hc8 y
              simp only [if_neg hy2.1, if_neg hy2.2] at hyc ⊢
              exact hyc.symm
        case kdone =>
          intro m₉ h9 tk9 ok9 vk9 hm9 hok9 F9 N9
          (try dsimp only)
          walk_at "law_steps"
 )

end Mine
end
theorem PySem.Challenge.cw_il0078_01_holds : PySem.Challenge.rw_il0078_01.Holds :=
  Mine.law_t
