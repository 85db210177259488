import PyProof.Rows.All
import Wide.All
import OpenK.AllK
import Wide.FinOn
import PySem.Challenge.RW_op0251_01
open PySem PySem.W PyProof.Rows PySem.Calls
set_option Elab.async false
set_option maxRecDepth 100000
set_option maxHeartbeats 8000000
theorem Mine.nq : @PySem.W.namesOk = @PySem.W.namesOk := rfl
name_quick tw861502493610598483 for PySem.W.namesOk by Mine.nq
name_quick tw16655933491062851922 for PySem.W.namesOk by Mine.nq
name_quick tw9326592196723003686 for PySem.W.namesOk by Mine.nq
name_quick tw4244922878905308065 for PySem.W.namesOk by Mine.nq
name_quick tw7774113678449685934 for PySem.W.namesOk by Mine.nq
name_quick tw17990624206721955122 for PySem.W.namesOk by Mine.nq
name_quick tw4548300405975405348 for PySem.W.namesOk by Mine.nq
name_quick tw5459702643516471331 for PySem.W.namesOk by Mine.nq
name_quick tw11766667032028208565 for PySem.W.namesOk by Mine.nq
name_quick tw6522051377940421278 for PySem.W.namesOk by Mine.nq
name_quick tw4849480874435393781 for PySem.W.namesOk by Mine.nq
name_quick tw140236481695663071 for PySem.W.namesOk by Mine.nq
name_quick tw15779231459743154856 for PySem.W.namesOk by Mine.nq
name_quick tw13622603851894308203 for PySem.W.namesOk by Mine.nq
name_quick tw1972164579936704799 for PySem.W.namesOk by Mine.nq
name_quick tw5002640475654186023 for PySem.W.namesOk by Mine.nq
name_quick tw15042883488752021643 for PySem.W.namesOk by Mine.nq
name_quick tw4884199854448574 for PySem.W.namesOk by Mine.nq
name_quick tw2789304352393801511 for PySem.W.namesOk by Mine.nq
name_quick tw87601786513091389 for PySem.W.namesOk by Mine.nq
name_quick tw8739830900816887780 for PySem.W.namesOk by Mine.nq
name_quick tw7217548393331319763 for PySem.W.namesOk by Mine.nq
name_quick tw17963105932079019327 for PySem.W.namesOk by Mine.nq
name_quick tw9796564346219866840 for PySem.W.namesOk by Mine.nq
name_quick tw5537553045615171315 for PySem.W.namesOk by Mine.nq
name_quick tw7424060955962978353 for PySem.W.namesOk by Mine.nq
name_quick tw6344153461787385748 for PySem.W.namesOk by Mine.nq
name_quick tw6798380500665416597 for PySem.W.namesOk by Mine.nq
name_quick tw10876078143196172821 for PySem.W.namesOk by Mine.nq
name_quick tw6356304189028158447 for PySem.W.namesOk by Mine.nq
name_quick tw16723463757517087524 for PySem.W.namesOk by Mine.nq
name_quick tw8297923619242306668 for PySem.W.namesOk by Mine.nq
name_quick tw8733291241859026926 for PySem.W.namesOk by Mine.nq
name_quick tw16053306600634468012 for PySem.W.namesOk by Mine.nq
name_quick tw5101696844757716304 for PySem.W.namesOk by Mine.nq
name_quick tw3641951560692057861 for PySem.W.namesOk by Mine.nq
name_quick tw15402603294489630176 for PySem.W.namesOk by Mine.nq
name_quick tw446995266069924076 for PySem.W.namesOk by Mine.nq
name_quick tw4953865588907285216 for PySem.W.namesOk by Mine.nq
name_quick tw4039707410889071942 for PySem.W.namesOk by Mine.nq
name_quick tw8899516883271353254 for PySem.W.namesOk by Mine.nq
name_quick tw896239598344801917 for PySem.W.namesOk by Mine.nq
name_quick tw9116068151291705539 for PySem.W.namesOk by Mine.nq
name_quick tw10016166984437732892 for PySem.W.namesOk by Mine.nq
name_quick tw4075453323654395381 for PySem.W.namesOk by Mine.nq
name_quick tw8374155422468719031 for PySem.W.namesOk by Mine.nq
name_quick tw16120054744476736488 for PySem.W.namesOk by Mine.nq
name_quick tw4734895289157585001 for PySem.W.namesOk by Mine.nq
name_quick tw16140922888777852060 for PySem.W.namesOk by Mine.nq
name_quick tw9456574344343218679 for PySem.W.namesOk by Mine.nq
name_quick tw2827255003249426055 for PySem.W.namesOk by Mine.nq
name_quick tw9919008367099125623 for PySem.W.namesOk by Mine.nq
name_quick tw1205274952441263945 for PySem.W.namesOk by Mine.nq
name_quick tw6512149657230936976 for PySem.W.namesOk by Mine.nq
name_quick tw8949853181751564097 for PySem.W.namesOk by Mine.nq
name_quick tw11401859456886640639 for PySem.W.namesOk by Mine.nq
name_quick tw16822532161544500889 for PySem.W.namesOk by Mine.nq
name_quick tw3300257896294614128 for PySem.W.namesOk by Mine.nq
name_quick tw1478030337931831861 for PySem.W.namesOk by Mine.nq
name_quick tw6549852094080907030 for PySem.W.namesOk by Mine.nq
name_quick tw16670775579421159206 for PySem.W.namesOk by Mine.nq
name_quick tw8159993647027272844 for PySem.W.namesOk by Mine.nq
name_quick tw17724038513149304489 for PySem.W.namesOk by Mine.nq
name_quick tw12297992134047619483 for PySem.W.namesOk by Mine.nq
name_quick tw15127105006835628225 for PySem.W.namesOk by Mine.nq
name_quick tw15925456577456769635 for PySem.W.namesOk by Mine.nq
name_quick tw523537741815420091 for PySem.W.namesOk by Mine.nq
name_quick tw15227483606004533461 for PySem.W.namesOk by Mine.nq
name_quick tw8480184845173159842 for PySem.W.namesOk by Mine.nq
name_quick tw9972681490609642005 for PySem.W.namesOk by Mine.nq
name_quick tw3419001889969749887 for PySem.W.namesOk by Mine.nq
name_quick tw6858818405166986180 for PySem.W.namesOk by Mine.nq
name_quick tw14760874974797668852 for PySem.W.namesOk by Mine.nq
name_quick tw9977182230042388008 for PySem.W.namesOk by Mine.nq
name_quick tw7086961617601330827 for PySem.W.namesOk by Mine.nq
name_quick tw2950685276103557050 for PySem.W.namesOk by Mine.nq
name_quick tw740290905518256060 for PySem.W.namesOk by Mine.nq
name_quick tw6784737039638806343 for PySem.W.namesOk by Mine.nq
name_quick tw1708089923452030704 for PySem.W.namesOk by Mine.nq
name_quick tw7322748291113730364 for PySem.W.namesOk by Mine.nq
name_quick tw13769103115541136327 for PySem.W.namesOk by Mine.nq
name_quick tw8080008513338510535 for PySem.W.namesOk by Mine.nq
name_quick tw10374632558016547081 for PySem.W.namesOk by Mine.nq
name_quick tw4906484309439969231 for PySem.W.namesOk by Mine.nq
name_quick tw10295913840692754127 for PySem.W.namesOk by Mine.nq
name_quick tw14172470266813156586 for PySem.W.namesOk by Mine.nq
name_quick tw18157406047293677543 for PySem.W.namesOk by Mine.nq
name_quick tw4683681711962371626 for PySem.W.namesOk by Mine.nq
name_quick tw896878414759379649 for PySem.W.namesOk by Mine.nq
name_quick tw2080317491765294665 for PySem.W.namesOk by Mine.nq
name_quick tw8219003486749837733 for PySem.W.namesOk by Mine.nq
name_quick tw12269216009862288129 for PySem.W.namesOk by Mine.nq
name_quick tw7480016910919988345 for PySem.W.namesOk by Mine.nq
name_quick tw11823594873375168262 for PySem.W.namesOk by Mine.nq
name_quick tw17464319187374939960 for PySem.W.namesOk by Mine.nq
name_quick tw2646887283097553488 for PySem.W.namesOk by Mine.nq
name_quick tw17013487888433625170 for PySem.W.namesOk by Mine.nq
name_quick tw14842496431369740429 for PySem.W.namesOk by Mine.nq
name_quick tw15539815450414544023 for PySem.W.namesOk by Mine.nq
name_quick tw12330612334027959195 for PySem.W.namesOk by Mine.nq
name_quick tw18101783494082082527 for PySem.W.namesOk by Mine.nq
name_quick tw4684226298888400098 for PySem.W.namesOk by Mine.nq
name_quick tw12382822922155266910 for PySem.W.namesOk by Mine.nq
name_quick tw14689541978594310382 for PySem.W.namesOk by Mine.nq
name_quick tw13034982811429478159 for PySem.W.namesOk by Mine.nq
name_quick tw7164969610272591079 for PySem.W.namesOk by Mine.nq
name_quick tw9784134513789038367 for PySem.W.namesOk by Mine.nq
name_quick tw17760279517084355780 for PySem.W.namesOk by Mine.nq
name_quick tw9860861378791804195 for PySem.W.namesOk by Mine.nq
name_quick tw866717566613908145 for PySem.W.namesOk by Mine.nq
name_quick tw9848817304349107530 for PySem.W.namesOk by Mine.nq
name_quick tw16298917771340976007 for PySem.W.namesOk by Mine.nq
name_quick tw5444512763150141072 for PySem.W.namesOk by Mine.nq
name_quick tw4480162626587320490 for PySem.W.namesOk by Mine.nq
name_quick tw5994696166404524948 for PySem.W.namesOk by Mine.nq
name_quick tw11429584451438056573 for PySem.W.namesOk by Mine.nq
name_quick tw5449601097390414333 for PySem.W.namesOk by Mine.nq
name_quick tw8912161614967838395 for PySem.W.namesOk by Mine.nq
name_quick tw14564479935002850509 for PySem.W.namesOk by Mine.nq
name_quick tw9495317472360511255 for PySem.W.namesOk by Mine.nq
name_quick tw17518593693041627797 for PySem.W.namesOk by Mine.nq
name_quick tw17062427158221528723 for PySem.W.namesOk by Mine.nq
name_quick tw2295934692909999376 for PySem.W.namesOk by Mine.nq
name_quick tw4077048163395320219 for PySem.W.namesOk by Mine.nq
name_quick tw447263597446747957 for PySem.W.namesOk by Mine.nq
name_quick tw140001813534094272 for PySem.W.namesOk by Mine.nq
name_quick tw10258873121960336067 for PySem.W.namesOk by Mine.nq
name_quick tw2314633323536394700 for PySem.W.namesOk by Mine.nq
name_quick tw9536688357841153863 for PySem.W.namesOk by Mine.nq
name_quick tw3215387988796971590 for PySem.W.namesOk by Mine.nq
name_quick tw12887044766017154078 for PySem.W.namesOk by Mine.nq
name_quick tw7476452910721959123 for PySem.W.namesOk by Mine.nq
name_quick tw13953587524928339648 for PySem.W.namesOk by Mine.nq
name_quick tw3721919958574915784 for PySem.W.namesOk by Mine.nq
name_quick tw6968137755033780318 for PySem.W.namesOk by Mine.nq
name_quick tw14226173905949225808 for PySem.W.namesOk by Mine.nq
name_quick tw2941924889016668590 for PySem.W.namesOk by Mine.nq
name_quick tw1623625103409104307 for PySem.W.namesOk by Mine.nq
name_quick tw2692750590507578028 for PySem.W.namesOk by Mine.nq
name_quick tw1000662321505670351 for PySem.W.namesOk by Mine.nq
name_quick tw14935467056822913822 for PySem.W.namesOk by Mine.nq
name_quick tw2570914705882880060 for PySem.W.namesOk by Mine.nq
name_quick tw17187875760726034783 for PySem.W.namesOk by Mine.nq
name_quick tw11738243743197964597 for PySem.W.namesOk by Mine.nq
name_quick tw8002303944043701648 for PySem.W.namesOk by Mine.nq
name_quick tw14243238205550065757 for PySem.W.namesOk by Mine.nq
name_quick tw18418582437962087742 for PySem.W.namesOk by Mine.nq
name_quick tw10510056951384868246 for PySem.W.namesOk by Mine.nq
name_quick tw8047209995159408440 for PySem.W.namesOk by Mine.nq
name_quick tw3382625519597670723 for PySem.W.namesOk by Mine.nq
name_quick tw15173544498738437827 for PySem.W.namesOk by Mine.nq
name_quick tw13469501207593853456 for PySem.W.namesOk by Mine.nq
name_quick tw8972062959192195235 for PySem.W.namesOk by Mine.nq
name_quick tw4547051000311932777 for PySem.W.namesOk by Mine.nq
name_quick tw8060666987683057360 for PySem.W.namesOk by Mine.nq
name_quick tw2135409205425526673 for PySem.W.namesOk by Mine.nq
name_quick tw8997383693586321770 for PySem.W.namesOk by Mine.nq
name_quick tw2144661209622563809 for PySem.W.namesOk by Mine.nq
name_quick tw938635154573522699 for PySem.W.namesOk by Mine.nq
name_quick tw1383625962624193546 for PySem.W.namesOk by Mine.nq
name_quick tw5498123283257192965 for PySem.W.namesOk by Mine.nq
name_quick tw13757698761724263525 for PySem.W.namesOk by Mine.nq
name_quick tw17351735930882485243 for PySem.W.namesOk by Mine.nq
name_quick tw15621415185263527259 for PySem.W.namesOk by Mine.nq
name_quick tw8285278889055680438 for PySem.W.namesOk by Mine.nq
name_quick tw2400638427578300857 for PySem.W.namesOk by Mine.nq
name_quick tw2187251505897268136 for PySem.W.namesOk by Mine.nq
name_quick tw10792498714594961201 for PySem.W.namesOk by Mine.nq
name_quick tw14424681132571578402 for PySem.W.namesOk by Mine.nq
name_quick tw6128106870883400570 for PySem.W.namesOk by Mine.nq
name_quick tw16864618592142003386 for PySem.W.namesOk by Mine.nq
name_quick tw16279288168775177219 for PySem.W.namesOk by Mine.nq
name_quick tw6953138203311097117 for PySem.W.namesOk by Mine.nq
name_quick tw5832305185047221409 for PySem.W.namesOk by Mine.nq
name_quick tw13135312941875745310 for PySem.W.namesOk by Mine.nq
name_quick tw9592521066531166775 for PySem.W.namesOk by Mine.nq
name_quick tw17435391645217708394 for PySem.W.namesOk by Mine.nq
name_quick tw3985964047577975286 for PySem.W.namesOk by Mine.nq
name_quick tw17284588472162393981 for PySem.W.namesOk by Mine.nq
name_quick tw2483420100392427323 for PySem.W.namesOk by Mine.nq
name_quick tw17483705464198625004 for PySem.W.namesOk by Mine.nq
name_quick tw3543459598558145280 for PySem.W.namesOk by Mine.nq
name_quick tw4804111812005502284 for PySem.W.namesOk by Mine.nq
name_quick tw10698057553749749337 for PySem.W.namesOk by Mine.nq
name_quick tw6229817132586351632 for PySem.W.namesOk by Mine.nq
name_quick tw4321966507151631593 for PySem.W.namesOk by Mine.nq
name_quick tw3235425350174046738 for PySem.W.namesOk by Mine.nq
name_quick tw14904681115217272601 for PySem.W.namesOk by Mine.nq
name_quick tw14827714588952709054 for PySem.W.namesOk by Mine.nq
name_quick tw3042748168174471775 for PySem.W.namesOk by Mine.nq
name_quick tw4635989785427082552 for PySem.W.namesOk by Mine.nq
name_quick tw17292613610259460706 for PySem.W.namesOk by Mine.nq
name_quick tw13946496683202179788 for PySem.W.namesOk by Mine.nq
name_quick tw12903330217458380548 for PySem.W.namesOk by Mine.nq
name_quick tw5217270863462422736 for PySem.W.namesOk by Mine.nq
name_quick tw11898673842065290130 for PySem.W.namesOk by Mine.nq
name_quick tw10294118229990073760 for PySem.W.namesOk by Mine.nq
name_quick tw2403389108928632939 for PySem.W.namesOk by Mine.nq
name_quick tw5362036446546632119 for PySem.W.namesOk by Mine.nq
name_quick tw2107523057676978006 for PySem.W.namesOk by Mine.nq
name_quick tw11962351593759143498 for PySem.W.namesOk by Mine.nq
name_quick tw209982475168477708 for PySem.W.namesOk by Mine.nq
name_quick tw11564986514327137767 for PySem.W.namesOk by Mine.nq
name_quick tw9879335643197240621 for PySem.W.namesOk by Mine.nq
name_quick tw9615563845995560447 for PySem.W.namesOk by Mine.nq
name_quick tw4562827626845409882 for PySem.W.namesOk by Mine.nq
name_quick tw6148498323302512570 for PySem.W.namesOk by Mine.nq
name_quick tw8157277791214410489 for PySem.W.namesOk by Mine.nq
name_quick tw5344687154915797982 for PySem.W.namesOk by Mine.nq
name_quick tw1840220198017710270 for PySem.W.namesOk by Mine.nq
name_quick tw12772213712371865176 for PySem.W.namesOk by Mine.nq
name_quick tw443766864951011646 for PySem.W.namesOk by Mine.nq
name_quick tw2353497105660221152 for PySem.W.namesOk by Mine.nq
name_quick tw14958820412457663293 for PySem.W.namesOk by Mine.nq
name_quick tw16955839230299176341 for PySem.W.namesOk by Mine.nq
name_quick tw3270257207059953099 for PySem.W.namesOk by Mine.nq
name_quick tw11066385474520676512 for PySem.W.namesOk by Mine.nq
name_quick tw3919386906821981792 for PySem.W.namesOk by Mine.nq
name_quick tw16682895059504647277 for PySem.W.namesOk by Mine.nq
name_quick tw5702276774652866934 for PySem.W.namesOk by Mine.nq
name_quick tw13812277999558781770 for PySem.W.namesOk by Mine.nq
name_quick tw15685335758407661847 for PySem.W.namesOk by Mine.nq
name_quick tw16902440903046159558 for PySem.W.namesOk by Mine.nq
name_quick tw16409965706819354750 for PySem.W.namesOk by Mine.nq
name_quick tw13055953723892786844 for PySem.W.namesOk by Mine.nq
name_quick tw643336161829623379 for PySem.W.namesOk by Mine.nq
open_top hd for PySem.Challenge.rw_op0251_01
set_option maxHeartbeats 4000000
set_option linter.unusedVariables false
theorem fill_dummy (w : World) (h : Heap) : (hd.heap_39 w.params).In h → PySem.Challenge.rw_op0251_01.prog = PySem.Challenge.rw_op0251_01.prog := by
  k_fill
  intro _; rfl
set_option genSizeOf false
namespace Mine


theorem low_ne {n a : Nat} (k : Nat) (h1 : 245 ≤ n) (h2 : n ≤ a) (hk : k < 245) : k ≠ a := by omega

noncomputable abbrev PP : Program := PySem.Challenge.rw_op0251_01.row.prog

/-- an object as the proof speaks of it -/
inductive AObj where
  | ilist (ns : List Int)
  | rlist (as : List Addr)
  | itup (ns : List Int)
  | idict (kvs : List (Int × Int))
  | rdict (kvs : List (Int × Addr))
  | iset (S : Int → Bool) (n : Nat)
  | ins (C dx : Addr) (sl : List (Option Value))
  | atd (l : List (Str × Value))
  | raw (o : Obj)
  | fld (cls : String) (vs : Array Value)
  | cell (v : Option Value)
  | code (q : Str)

noncomputable def er : Value → Value
  | .int i _ => .int i 0
  | .str x _ => .str x 0
  | .float x _ => .float x 0
  | .bytes b _ => .bytes b 0
  | v => v

theorem er_int {v : Value} {i : Int} (h : er v = .int i 0) : ∃ t, v = .int i t := by
  cases v <;> simp only [er] at h <;> first | (cases h; exact ⟨_, rfl⟩) | cases h
theorem er_ref {v : Value} {a : Addr} (h : er v = .ref a) : v = .ref a := by
  cases v <;> first | exact h | (simp only [er] at h; cases h)
theorem er_none {v : Value} (h : er v = .none) : v = .none := by
  cases v <;> first | exact h | (simp only [er] at h; cases h)
/-- lists and tuples as the model lays them -/
noncomputable abbrev tupOf (its : Array Value) (n : Nat) : Obj := { cls := .type "tuple", data := .seq its n }

section
variable (w : World)
noncomputable def AObj.Is : AObj → Obj → Prop
  | .ilist ns, o => ∃ vs n, o = listOf vs n ∧ IntsAre vs.toList ns
  | .rlist as, o => ∃ n, o = listOf (as.map Value.ref).toArray n
  | .itup ns, o => ∃ vs n, o = tupOf vs n ∧ IntsAre vs.toList ns
  | .idict kvs, o => o.ExactDict ∧ ∃ es ep kv', o.data = .dict es ep ∧ KeysOf (intKind PP w) es ∧ Pairs (intKind PP w) es.toList kv' ∧ (kv'.map (·.1)).Nodup ∧ kv'.map (fun p => (p.1, er p.2)) = kvs.map (fun p => (p.1, Value.int p.2 0))
  | .rdict kvs, o => o.ExactDict ∧ ∃ es ep kv', o.data = .dict es ep ∧ KeysOf (intKind PP w) es ∧ Pairs (intKind PP w) es.toList kv' ∧ (kv'.map (·.1)).Nodup ∧ kv' = kvs.map (fun p => (p.1, Value.ref p.2))
  | .iset S n, o => o.SetObjOf (intKind PP w) S n
  | .ins C dx sl, o => ∃ sl' : Array (Option Value), o = ⟨.ref C, some dx, .plain, sl'⟩ ∧ sl'.toList.map (Option.map er) = sl
  | .atd l, o => ∃ es n, o = dictOf es n ∧ es.map (fun e => (er e.key, er e.val)) = l.map (fun p => (Value.str p.1 0, p.2))
  | .raw o', o => o = o'
  | .fld c vs, o => o.cls = .type c ∧ o.data = .fields vs
  | .cell v, o => ∃ v', o.data = .cell v' ∧ v'.map er = v
  | .code q, o => ∃ vs t, o.data = .fields vs ∧ vs[1]? = some (.str q t)

noncomputable def AObj.At (ao : AObj) (h : Heap) (a : Addr) : Prop := ∃ o, h.get? a = some o ∧ ao.Is w o
end
theorem AObj.At.same {w : World} {ao : AObj} {h h' : Heap} {a : Addr} (x : ao.At w h a) (e : ∀ o, h.get? a = some o → h'.get? a = some o) : ao.At w h' a :=
  let ⟨o, g, r⟩ := x; ⟨o, e _ g, r⟩
theorem AObj.At.lt {w : World} {ao : AObj} {h : Heap} {a : Addr} (x : ao.At w h a) : a < h.objs.size := let ⟨_, g, _⟩ := x; Heap.lt_size g

/-- the ground: the heap the law starts on, without its three code tables -/
structure Gd (w : World) where
  h : Heap
  os : OsState
  mg : Str → Option Value
  mb : Str → Option Value
  K : (hd.heap_39 w.params).In h
  g : h.Ns mainGlobals mg
  b : h.Ns builtinsNs mb
  nolimit : h.NoLimit
  blt : ∀ x : Str, x ≠ "__name__" → mb x = bootBuiltins x
  bmain : ∃ bm ob, mg "__builtins__" = some (.ref bm) ∧ bm ≠ builtinsNs ∧ h.get? bm = some ob ∧ ob.cls = .type "module" ∧ ob.dict = some builtinsNs ∧ ob.data = .plain
  c1 : CodeHd h 76 72
  c2 : CodeHd h 69 65
  c3 : CodeHd h 243 241
  big : 245 ≤ h.objs.size
  n1 : h.get? 72 = none
  n2 : h.get? 65 = none
  n3 : h.get? 241 = none

noncomputable abbrev View := Addr → Option AObj
noncomputable abbrev Loc := Str → Option Value
inductive FK where
  | loc (lv : Loc)
  | obj (ao : AObj)
noncomputable abbrev Frs := List (Addr × FK)

noncomputable def upd (V : View) (a : Addr) (o : AObj) : View := fun b => if b = a then some o else V b
theorem upd_eq {V : View} {a : Addr} {o : AObj} : upd V a o a = some o := if_pos rfl
theorem upd_ne {V : View} {a b : Addr} {o : AObj} (h : b ≠ a) : upd V a o b = V b := if_neg h
noncomputable def lup (m : Loc) (x : Str) (v : Value) : Loc := fun y => if y = x then some v else m y
theorem lup_eq {m : Loc} {x : Str} {v : Value} : lup m x v x = some v := if_pos rfl
theorem lup_ne {m : Loc} {x y : Str} {v : Value} (h : (y == x) = false) : lup m x v y = m y := if_neg (by intro e; subst e; simp at h)

/-- nothing but a code object is known at c -/
noncomputable def CodeV (V : View) (c : Addr) : Prop := ∀ ao, V c = some ao → ∃ q, ao = .code q
/-- a code table: empty, or with the one nested def's code -/
noncomputable def TabOk (P : Addr) (pos : Pos) (q : Str) (n : Nat) (fs : Frs) (V : View) (h : Heap) : Prop :=
  h.get? P = some (tabObj #[]) ∨ ∃ c o vs t, h.get? P = some (tabObj #[rawInt pos.line, rawInt pos.col, .ref c]) ∧ h.get? c = some o ∧ o.data = .fields vs ∧ vs[1]? = some (.str q t) ∧ CodeV V c ∧ c ∉ fs.map (·.1) ∧ n ≤ c

noncomputable def LocAt (h : Heap) (L : Addr) (lv : Loc) : Prop := ∃ m, h.Ns L m ∧ ∀ y, (m y).map er = lv y
theorem LocAt.lt {h : Heap} {L : Addr} {lv : Loc} (x : LocAt h L lv) : L < h.objs.size := let ⟨_, n, _⟩ := x; n.lt
theorem LocAt.same {h h' : Heap} {L : Addr} {lv : Loc} (x : LocAt h L lv) (e : ∀ o, h.get? L = some o → h'.get? L = some o) : LocAt h' L lv :=
  let ⟨m, ⟨o, es, ep, ho, r⟩, q⟩ := x; ⟨m, ⟨o, es, ep, e _ ho, r⟩, q⟩

noncomputable def FK.At (w : World) : FK → Heap → Addr → Prop
  | .loc lv, h, a => LocAt h a lv
  | .obj ao, h, a => ao.At w h a
theorem FK.At.lt {w : World} {k : FK} {h : Heap} {a : Addr} (x : k.At w h a) : a < h.objs.size := by
  cases k with
  | loc lv => exact LocAt.lt x
  | obj ao => exact AObj.At.lt x
theorem FK.At.same {w : World} {k : FK} {h h' : Heap} {a : Addr} (x : k.At w h a) (e : ∀ o, h.get? a = some o → h'.get? a = some o) : k.At w h' a := by
  cases k with
  | loc lv => exact LocAt.same x e
  | obj ao => exact AObj.At.same x e

noncomputable abbrev pos1 : Pos := ⟨88, 4, 93, 55⟩
noncomputable abbrev pos2 : Pos := ⟨73, 4, 82, 28⟩
noncomputable abbrev pos3 : Pos := ⟨305, 30, 305, 83⟩
noncomputable abbrev q1 : Str := Str.ofString "_digits2int" ++ ".<locals>." ++ Str.ofString "inner"
noncomputable abbrev q2 : Str := Str.ofString "_int2digits" ++ ".<locals>." ++ Str.ofString "inner"
noncomputable abbrev q3 : Str := Str.ofString "law" ++ ".<locals>." ++ Str.ofString "<lambda>"

noncomputable abbrev tabL : List (Addr × Pos × Str) := [(72, pos1, q1), (65, pos2, q2), (241, pos3, q3)]
theorem tab_lt (q : Addr × Pos × Str) (h : q ∈ tabL) : q.1 < 245 := by
  simp only [tabL, List.mem_cons, List.not_mem_nil, or_false] at h
  rcases h with rfl | rfl | rfl <;> decide
structure SS {w : World} (G : Gd w) (fs : Frs) (V : View) (s : Shared) : Prop where
  gens : s.gens = #[]
  os : s.os = G.os
  base : ∀ b o, G.h.get? b = some o → s.heap.get? b = some o
  frames : ∀ f ∈ fs, f.2.At w s.heap f.1 ∧ G.h.objs.size ≤ f.1
  nodup : (fs.map (·.1)).Nodup
  see : ∀ a ao, V a = some ao → ao.At w s.heap a
  high : ∀ a ao, V a = some ao → G.h.objs.size ≤ a
  apart : ∀ f ∈ fs, V f.1 = none
  tabs : ∀ q ∈ tabL, TabOk q.1 q.2.1 q.2.2 G.h.objs.size fs V s.heap

section
variable {w : World} {G : Gd w} {fs : Frs} {V V' : View} {s s' : Shared} {L a : Addr} {m : FK} {ao : AObj}

theorem TabOk.mono {P : Addr} {pos : Pos} {q : Str} {n : Nat} {fs fs' : Frs} {V V' : View} {h h' : Heap} (x : TabOk P pos q n fs V h)
    (kP : ∀ o, h.get? P = some o → h'.get? P = some o) (kc : ∀ c o, h.get? c = some o → CodeV V c → c ∉ fs.map (·.1) → n ≤ c → h'.get? c = some o ∧ CodeV V' c ∧ c ∉ fs'.map (·.1)) : TabOk P pos q n fs' V' h' := by
  rcases x with x | ⟨c, o, vs, t, x1, x2, x3, x4, x5, x6, x7⟩
  · exact .inl (kP _ x)
  · obtain ⟨y1, y2, y3⟩ := kc c o x2 x5 x6 x7
    exact .inr ⟨c, o, vs, t, kP _ x1, y1, x3, x4, y2, y3, x7⟩

/-- only what is known less -/
theorem SS.weak (S : SS G fs V s) (h : ∀ a ao, V' a = some ao → V a = some ao) : SS G fs V' s where
  gens := S.gens
  os := S.os
  base := S.base
  frames := S.frames
  nodup := S.nodup
  see := fun a ao e => S.see a ao (h a ao e)
  high := fun a ao e => S.high a ao (h a ao e)
  apart := fun f hf => by
    cases q : V' f.1 with
    | none => rfl
    | some ao => have := h _ _ q; rw [S.apart f hf] at this; cases this
  tabs := fun q hq => (S.tabs q hq).mono (fun _ e => e) fun c o e v f _ => ⟨e, fun ao q => v ao (h _ _ q), f⟩

theorem SS.pop {f : Addr × FK} (S : SS G (f :: fs) V s) : SS G fs V s where
  gens := S.gens
  os := S.os
  base := S.base
  frames := fun g hg => S.frames g (.tail _ hg)
  nodup := (List.nodup_cons.mp S.nodup).2
  see := S.see
  high := S.high
  apart := fun g hg => S.apart g (.tail _ hg)
  tabs := fun q hq => (S.tabs q hq).mono (fun _ e => e) fun c o e v f _ => ⟨e, v, fun h => f (.tail _ h)⟩

/-- the heap has grown; nothing old is another -/
theorem SS.grow (S : SS G fs V s) (hg : s'.gens = s.gens) (ho : s'.os = s.os) (k : ∀ b o, s.heap.get? b = some o → s'.heap.get? b = some o) : SS G fs V s' where
  gens := hg.trans S.gens
  os := ho.trans S.os
  base := fun b o e => k b o (S.base b o e)
  frames := fun f hf => ⟨(S.frames f hf).1.same (fun o => k _ o), (S.frames f hf).2⟩
  nodup := S.nodup
  see := fun a ao e => (S.see a ao e).same (fun o => k _ o)
  high := S.high
  apart := S.apart
  tabs := fun q hq => (S.tabs q hq).mono (fun o => k _ o) fun c o e v f _ => ⟨k _ _ e, v, f⟩
theorem SS.tok (S : SS G fs V s) (n : Nat) : SS G fs V { s with toks := n } := S.grow rfl rfl fun _ _ e => e

theorem SS.fresh (S : SS G fs V s) (h : s.heap.objs.size ≤ a) : V a = none := by
  cases q : V a with
  | none => rfl
  | some ao => exact absurd (S.see a ao q).lt (Nat.not_lt.mpr h)
theorem SS.size (S : SS G fs V s) (h : s.heap.get? a ≠ none) : a < s.heap.objs.size := by
  cases q : s.heap.get? a with
  | none => exact absurd q h
  | some o => exact Heap.lt_size q

theorem SS.baseLe (S : SS G fs V s) : 245 ≤ G.h.objs.size := G.big

theorem base_le (S : SS G fs V s) (f : Addr × FK) (hf : f ∈ fs) : G.h.objs.size ≤ s.heap.objs.size := Nat.le_trans (S.frames f hf).2 (Nat.le_of_lt (S.frames f hf).1.lt)

/-- one object of the view is another now -/
theorem SS.chg {ao₀ : AObj} (S : SS G fs V s) (hV : V a = some ao₀) (hg : s'.gens = s.gens) (ho : s'.os = s.os) (k : ∀ b o, b ≠ a → s.heap.get? b = some o → s'.heap.get? b = some o) (hn : ao.At w s'.heap a) (hnc : ∀ q, ao₀ ≠ .code q := by intro _; nofun) : SS G fs (upd V a ao) s' := by
  have hi := S.high a ao₀ hV
  have big := G.big
  have kc : ∀ c o, s.heap.get? c = some o → CodeV V c → c ∉ fs.map (·.1) → G.h.objs.size ≤ c → s'.heap.get? c = some o ∧ CodeV (upd V a ao) c ∧ c ∉ fs.map (·.1) := fun c o e v f _ => by
    have hc : c ≠ a := fun q => by rw [q] at v; obtain ⟨q', e'⟩ := v _ hV; exact hnc q' e'
    exact ⟨k _ _ hc e, fun ao' h' => v ao' (by rwa [upd_ne hc] at h'), f⟩
  exact {
    gens := hg.trans S.gens
    os := ho.trans S.os
    base := fun b o e => k b o (Nat.ne_of_lt (Nat.lt_of_lt_of_le (Heap.lt_size e) hi)) (S.base b o e)
    frames := fun f hf => ⟨(S.frames f hf).1.same (fun o => k _ o fun q => by have := S.apart f hf; rw [q, hV] at this; cases this), (S.frames f hf).2⟩
    nodup := S.nodup
    see := fun b bo e => by
      by_cases q : b = a
      · subst q; rw [upd_eq] at e; cases e; exact hn
      · rw [upd_ne q] at e; exact (S.see b bo e).same (fun o => k _ o q)
    high := fun b bo e => by
      by_cases q : b = a
      · subst q; exact hi
      · rw [upd_ne q] at e; exact S.high b bo e
    apart := fun f hf => by
      have h1 := S.apart f hf
      have q : f.1 ≠ a := fun q => by rw [q, hV] at h1; cases h1
      rw [upd_ne q]; exact h1
    tabs := fun q hq => (S.tabs q hq).mono (fun o => k _ o (low_ne q.1 big hi (tab_lt q hq))) kc }

/-- a new object -/
theorem SS.new (S : SS G fs V s) (hge : G.h.objs.size ≤ s.heap.objs.size) (ha : s.heap.objs.size ≤ a) (hg : s'.gens = s.gens) (ho : s'.os = s.os) (k : ∀ b o, s.heap.get? b = some o → s'.heap.get? b = some o) (hn : ao.At w s'.heap a) : SS G fs (upd V a ao) s' := by
  have big := G.big
  have hi := Nat.le_trans hge ha
  have kc : ∀ c o, s.heap.get? c = some o → CodeV V c → c ∉ fs.map (·.1) → G.h.objs.size ≤ c → s'.heap.get? c = some o ∧ CodeV (upd V a ao) c ∧ c ∉ fs.map (·.1) := fun c o e v f _ => by
    have hc : c ≠ a := Nat.ne_of_lt (Nat.lt_of_lt_of_le (Heap.lt_size e) ha)
    exact ⟨k _ _ e, fun ao' h' => v ao' (by rwa [upd_ne hc] at h'), f⟩
  exact {
    gens := hg.trans S.gens
    os := ho.trans S.os
    base := fun b o e => k b o (S.base b o e)
    frames := fun f hf => ⟨(S.frames f hf).1.same (fun o => k _ o), (S.frames f hf).2⟩
    nodup := S.nodup
    see := fun b bo e => by
      by_cases q : b = a
      · subst q; rw [upd_eq] at e; cases e; exact hn
      · rw [upd_ne q] at e; exact (S.see b bo e).same (fun o => k _ o)
    high := fun b bo e => by
      by_cases q : b = a
      · subst q; exact hi
      · rw [upd_ne q] at e; exact S.high b bo e
    apart := fun f hf => by
      have h1 := (S.frames f hf).1.lt
      rw [upd_ne (Nat.ne_of_lt (Nat.lt_of_lt_of_le h1 ha))]; exact S.apart f hf
    tabs := fun q hq => (S.tabs q hq).mono (fun o => k _ o) kc }

/-- a new frame -/
theorem SS.push {lv : FK} (S : SS G fs V s) (hge : G.h.objs.size ≤ s.heap.objs.size) (hL : s.heap.objs.size ≤ L) (hg : s'.gens = s.gens) (ho : s'.os = s.os) (k : ∀ b o, s.heap.get? b = some o → s'.heap.get? b = some o) (hn : lv.At w s'.heap L) : SS G ((L, lv) :: fs) V s' := by
  have big := G.big
  have hi := Nat.le_trans hge hL
  have kc : ∀ c o, s.heap.get? c = some o → CodeV V c → c ∉ fs.map (·.1) → G.h.objs.size ≤ c → s'.heap.get? c = some o ∧ CodeV V c ∧ c ∉ ((L, lv) :: fs).map (·.1) := fun c o e v f _ => by
    have hc : c ≠ L := Nat.ne_of_lt (Nat.lt_of_lt_of_le (Heap.lt_size e) hL)
    exact ⟨k _ _ e, v, by simp only [List.map_cons, List.mem_cons, not_or]; exact ⟨hc, f⟩⟩
  exact {
    gens := hg.trans S.gens
    os := ho.trans S.os
    base := fun b o e => k b o (S.base b o e)
    frames := fun f hf => by
      rcases List.mem_cons.mp hf with rfl | hf
      · exact ⟨hn, hi⟩
      · exact ⟨(S.frames f hf).1.same (fun o => k _ o), (S.frames f hf).2⟩
    nodup := List.nodup_cons.mpr ⟨fun q => by
      obtain ⟨f, hf, e⟩ := List.mem_map.mp q
      have := (S.frames f hf).1.lt
      simp only at e
      rw [e] at this
      exact absurd this (Nat.not_lt.mpr hL), S.nodup⟩
    see := fun b bo e => (S.see b bo e).same (fun o => k _ o)
    high := S.high
    apart := fun f hf => by
      rcases List.mem_cons.mp hf with rfl | hf
      · exact S.fresh hL
      · exact S.apart f hf
    tabs := fun q hq => (S.tabs q hq).mono (fun o => k _ o) kc }

/-- the head frame is another now -/
theorem SS.fr {lv : FK} (S : SS G ((L, m) :: fs) V s) (hg : s'.gens = s.gens) (ho : s'.os = s.os) (k : ∀ b o, b ≠ L → s.heap.get? b = some o → s'.heap.get? b = some o) (hn : lv.At w s'.heap L) : SS G ((L, lv) :: fs) V s' := by
  have hi := (S.frames _ (.head _)).2
  simp only at hi
  have big := G.big
  have hd := List.nodup_cons.mp S.nodup
  have kc : ∀ c o, s.heap.get? c = some o → CodeV V c → c ∉ ((L, m) :: fs).map (·.1) → G.h.objs.size ≤ c → s'.heap.get? c = some o ∧ CodeV V c ∧ c ∉ ((L, lv) :: fs).map (·.1) := fun c o e v f _ => by
    have hc : c ≠ L := fun q => f (by rw [q]; exact .head _)
    exact ⟨k _ _ hc e, v, f⟩
  exact {
    gens := hg.trans S.gens
    os := ho.trans S.os
    base := fun b o e => k b o (Nat.ne_of_lt (Nat.lt_of_lt_of_le (Heap.lt_size e) hi)) (S.base b o e)
    frames := fun f hf => by
      rcases List.mem_cons.mp hf with rfl | hf
      · exact ⟨hn, hi⟩
      · exact ⟨(S.frames f (.tail _ hf)).1.same (fun o => k _ o fun q => hd.1 (by rw [← q]; exact List.mem_map_of_mem (f := (·.1)) hf)), (S.frames f (.tail _ hf)).2⟩
    nodup := S.nodup
    see := fun b bo e => (S.see b bo e).same (fun o => k _ o fun q => by
      have := S.apart _ (.head _); simp only at this; rw [q, this] at e; cases e)
    high := S.high
    apart := fun f hf => by
      rcases List.mem_cons.mp hf with rfl | hf
      · exact S.apart (L, m) (.head _)
      · exact S.apart f (.tail _ hf)
    tabs := fun q hq => (S.tabs q hq).mono (fun o => k _ o (low_ne q.1 big hi (tab_lt q hq))) kc }

theorem SS.swap {f g : Addr × FK} (S : SS G (f :: g :: fs) V s) : SS G (g :: f :: fs) V s := by
  have mem : ∀ x, x ∈ g :: f :: fs → x ∈ f :: g :: fs := fun x hx => by
    rcases List.mem_cons.mp hx with rfl | hx
    · exact .tail _ (.head _)
    · rcases List.mem_cons.mp hx with rfl | hx
      · exact .head _
      · exact .tail _ (.tail _ hx)
  have kc : ∀ c, c ∉ (f :: g :: fs).map (·.1) → c ∉ (g :: f :: fs).map (·.1) := fun c hc q => hc (by
    simp only [List.map_cons, List.mem_cons] at q ⊢
    rcases q with q | q | q
    · exact .inr (.inl q)
    · exact .inl q
    · exact .inr (.inr q))
  exact {
    gens := S.gens
    os := S.os
    base := S.base
    frames := fun x hx => S.frames x (mem x hx)
    nodup := by
      have h := S.nodup
      simp only [List.map_cons, List.nodup_cons, List.mem_cons, not_or] at h ⊢
      exact ⟨⟨fun e => h.1.1 e.symm, h.2.1⟩, h.1.2, h.2.2⟩
    see := S.see
    high := S.high
    apart := fun x hx => S.apart x (mem x hx)
    tabs := fun q hq => (S.tabs q hq).mono (fun _ e => e) fun c o e v f _ => ⟨e, v, kc c f⟩ }
/-- the thing under the head goes -/
theorem SS.drop2 {f g : Addr × FK} (S : SS G (f :: g :: fs) V s) : SS G (f :: fs) V s := S.swap.pop

/-- new frames and new things at once -/
theorem SS.ext {nf : Frs} (S : SS G fs V s) (hge : G.h.objs.size ≤ s.heap.objs.size) (hnf : ∀ f ∈ nf, s.heap.objs.size ≤ f.1 ∧ f.2.At w s'.heap f.1) (hnd : (nf.map (·.1)).Nodup)
    (hV : ∀ a ao, V' a = some ao → V a = some ao ∨ (s.heap.objs.size ≤ a ∧ ao.At w s'.heap a ∧ a ∉ nf.map (·.1))) (hg : s'.gens = s.gens) (ho : s'.os = s.os) (k : ∀ b o, s.heap.get? b = some o → s'.heap.get? b = some o) : SS G (nf ++ fs) V' s' := by
  have big := G.big
  have kc : ∀ c o, s.heap.get? c = some o → CodeV V c → c ∉ fs.map (·.1) → G.h.objs.size ≤ c → s'.heap.get? c = some o ∧ CodeV V' c ∧ c ∉ (nf ++ fs).map (·.1) := fun c o e v f _ => by
    refine ⟨k _ _ e, fun ao' h' => ?_, fun q => ?_⟩
    · rcases hV c ao' h' with h1 | h1
      · exact v ao' h1
      · exact absurd (Heap.lt_size e) (Nat.not_lt.mpr h1.1)
    · rw [List.map_append, List.mem_append] at q
      rcases q with q | q
      · obtain ⟨g, hg', e'⟩ := List.mem_map.mp q
        have := (hnf g hg').1
        rw [e'] at this
        exact absurd (Heap.lt_size e) (Nat.not_lt.mpr this)
      · exact f q
  exact {
    gens := hg.trans S.gens
    os := ho.trans S.os
    base := fun b o e => k b o (S.base b o e)
    frames := fun f hf => by
      rcases List.mem_append.mp hf with hf | hf
      · exact ⟨(hnf f hf).2, Nat.le_trans hge (hnf f hf).1⟩
      · exact ⟨(S.frames f hf).1.same (fun o => k _ o), (S.frames f hf).2⟩
    nodup := by
      rw [List.map_append, List.nodup_append]
      refine ⟨hnd, S.nodup, fun x hx y hy e => ?_⟩
      subst e
      obtain ⟨g, hg', e'⟩ := List.mem_map.mp hx
      obtain ⟨g2, hg2, e2⟩ := List.mem_map.mp hy
      have h1 := (hnf g hg').1
      have h2 := (S.frames g2 hg2).1.lt
      rw [e'] at h1
      rw [e2] at h2
      exact absurd h2 (Nat.not_lt.mpr h1)
    see := fun b bo e => by
      rcases hV b bo e with h1 | h1
      · exact (S.see b bo h1).same (fun o => k _ o)
      · exact h1.2.1
    high := fun b bo e => by
      rcases hV b bo e with h1 | h1
      · exact S.high b bo h1
      · exact Nat.le_trans hge h1.1
    apart := fun f hf => by
      cases q : V' f.1 with
      | none => rfl
      | some ao =>
        exfalso
        rcases hV _ _ q with h1 | h1
        · rcases List.mem_append.mp hf with hf | hf
          · exact absurd (S.see _ _ h1).lt (Nat.not_lt.mpr (hnf f hf).1)
          · rw [S.apart f hf] at h1; cases h1
        · rcases List.mem_append.mp hf with hf | hf
          · exact h1.2.2 (List.mem_map_of_mem (f := (·.1)) hf)
          · exact absurd (S.frames f hf).1.lt (Nat.not_lt.mpr h1.1)
    tabs := fun q hq => (S.tabs q hq).mono (fun o => k _ o) kc }
end


structure Rm (A : Around) (k : Nat) : Prop where
  d : A.depth + k ≤ 990
  u : A.units + 10 * k ≤ 9800
  h : A.handled = none
theorem Rm.deeper {A : Around} {k : Nat} {env : Env} (r : Rm A (k + 1)) : Rm (A.deeper env) k where
  d := by have := r.d; show A.depth + 1 + k ≤ 990; omega
  u := by have := r.u; show A.units + 3 + 10 * k ≤ 9800; omega
  h := r.h
theorem Rm.in1 {A : Around} {k : Nat} (r : Rm A (k + 1)) : Rm A.in1 k where
  d := by have := r.d; show A.depth + k ≤ 990; omega
  u := by have := r.u; show A.units + 1 + 10 * k ≤ 9800; omega
  h := r.h
theorem Rm.le {A : Around} {k j : Nat} (r : Rm A k) (h : j ≤ k) : Rm A j := ⟨by have := r.d; omega, by have := r.u; omega, r.h⟩
theorem Rm.room {A : Around} {k : Nat} (r : Rm A k) : A.depth < recursionLimit := by have := r.d; show A.depth < 1000; omega
theorem Rm.units {A : Around} {k : Nat} (r : Rm A k) : A.units < cLine := by have := r.u; show A.units < 9900; omega

theorem bt_len : bootBuiltins (Str.ofString "len") = some (.builtin "len") := by decide +kernel
theorem bt_range : bootBuiltins (Str.ofString "range") = some (.type "range") := by decide +kernel
theorem bt_reversed : bootBuiltins (Str.ofString "reversed") = some (.type "reversed") := by decide +kernel
theorem bt_divmod : bootBuiltins (Str.ofString "divmod") = some (.builtin "divmod") := by decide +kernel
theorem bt_sum : bootBuiltins (Str.ofString "sum") = some (.builtin "sum") := by decide +kernel
theorem bt_sorted : bootBuiltins (Str.ofString "sorted") = some (.builtin "sorted") := by decide +kernel
theorem bt_tuple : bootBuiltins (Str.ofString "tuple") = some (.type "tuple") := by decide +kernel
theorem bt_max : bootBuiltins (Str.ofString "max") = some (.builtin "max") := by decide +kernel
theorem bt_abs : bootBuiltins (Str.ofString "abs") = some (.builtin "abs") := by decide +kernel
theorem bt_iter : bootBuiltins (Str.ofString "iter") = some (.builtin "iter") := by decide +kernel
theorem bt_set : bootBuiltins (Str.ofString "set") = some (.type "set") := by decide +kernel
theorem bt_bool : bootBuiltins (Str.ofString "bool") = some (.type "bool") := by decide +kernel
theorem bt_StopIteration : bootBuiltins (Str.ofString "StopIteration") = some (.type "StopIteration") := by decide +kernel
theorem ifF {a b : Prop} (h : b) : if false = true then a else b := by rw [if_neg Bool.false_ne_true]; exact h
theorem ifT {a b : Prop} (h : a) : if true = true then a else b := by rw [if_pos rfl]; exact h
noncomputable def lvOf (binds : List (Str × Value)) : Loc := binds.foldl (fun m b => lup m b.1 (er b.2)) (fun _ => none)
theorem lvOf_aux : ∀ (binds done : List (Str × Value)) (m : Loc) (y : Str), (∀ y, (done.reverse.lookup y).map er = m y) →
    ((done ++ binds).reverse.lookup y).map er = binds.foldl (fun m b => lup m b.1 (er b.2)) m y
  | [], done, m, y, h => by rw [List.append_nil]; exact h y
  | b :: bs, done, m, y, h => by
    have := lvOf_aux bs (done ++ [b]) (lup m b.1 (er b.2)) y (fun y => by
      rw [List.reverse_append]
      show (List.lookup y (b :: done.reverse)).map er = _
      rw [show (b :: done.reverse) = ((b.1, b.2) :: done.reverse) from rfl, List.lookup_cons]
      cases q : y == b.1 with
      | true => simp only [lup, if_pos (eq_of_beq q), Option.map_some]
      | false => rw [lup_ne q]; exact h y)
    rw [List.append_assoc] at this
    exact this
theorem lvOf_eq (binds : List (Str × Value)) (y : Str) : (binds.reverse.lookup y).map er = lvOf binds y := lvOf_aux binds [] (fun _ => none) y (fun _ => rfl)

section
variable {w : World} {G : Gd w} {f₀ : Addr × FK} {fs : Frs} {V V' : View} {s s' : Shared} {L a : Addr} {m : Loc} {ao : AObj} {A : Around} {E : Value → Shared → Prop} {env : Env}

theorem SS.ge (S : SS G (f₀ :: fs) V s) : G.h.objs.size ≤ s.heap.objs.size := base_le S f₀ (.head _)
theorem SS.K (S : SS G fs V s) : (hd.heap_39 w.params).In s.heap := G.K.keeps S.base
theorem SS.lim (S : SS G fs V s) : s.heap.NoLimit := G.nolimit.keeps S.base

/-- what a frame hands back -/
noncomputable def rv : Flow → Value
  | .ret v => v
  | _ => .none

theorem enter {f : Addr} {vals : List Value} {kw : List (Str × Value)} (binds : List (Str × Value)) {Q : Value → Shared → Prop} {name qual : Str} {params : Arguments} {body : List Stmt} {scope : Scope} {dV kV doc pm cdv ct oc : Value} {an od : Option Addr} {osl : Array (Option Value)}
    (S : SS G (f₀ :: fs) V s) (ho : (hd.heap_39 w.params).lookup f = some ⟨oc, od, .func (fnOf name qual params body scope dV kV doc pm an cdv ct), osl⟩) (hcd : codeIn (hd.heap_39 w.params) cdv qual = true) (hroom : A.depth < recursionLimit)
    (hbind : BindsTo s (fnOf name qual params body scope dV kV doc pm an cdv ct) ⟨vals, kw⟩ binds) (hloc : ∀ y ∈ binds, scope.names.lookup y.1 = some .local)
    (hcell : ∀ x ∈ scope.names, x.2 ≠ .cell) (hco : scope.isCoroutine = false) (hgen : scope.isGenerator = false) (hk : scope.kind = .function)
    (h : ∀ L s₁, SS G ((L, .loc (lvOf binds)) :: f₀ :: fs) V s₁ → wpAny (model PP w) (A.deeper (envOf qual scope L f cdv)) (execs body (envOf qual scope L f cdv))
      (fun fl s' => Q (rv fl) s') (fun _ _ => False) s₁) :
    wpAny (model PP w) A (call (.ref f) vals kw) Q E s := by
  refine wpAny_call ?_
  refine codeAny_call_def (fd := fnOf name qual params body scope dV kV doc pm an cdv ct) (body := body) (binds := binds) hroom (S.K _ _ ho) rfl S.lim (codeRec_of S.K hcd) rfl hbind hcell hloc (fun h₁ hns hk₁ => ?_) hco hgen hk
  refine wpAny_mono (h s.heap.objs.size _ (S.push (s' := { s with heap := h₁, toks := s.toks + binds.length }) S.ge (Nat.le_refl _) rfl rfl hk₁ ⟨_, hns, lvOf_eq binds⟩)) (fun fl _ x => by cases fl <;> exact x) (fun _ _ x => x.elim)

theorem nm_i {x : Str} {pos : Pos} {i : Int} {Q : Value → Shared → Prop} (S : SS G ((L, .loc m) :: fs) V s) (hv : m x = some (.int i 0)) (h : ∀ t, Q (.int i t) s)
    (hL : env.locals = L := by rfl) (hk : env.scope.kind = .function := by rfl) (hx : env.kindOf x = some .local := by rfl) (hd : (x == ("__debug__" : Str)) = false := by decide) :
    wpAny (model PP w) A (eval (.Name x pos) env) Q E s := by
  obtain ⟨mm, hn, hm⟩ := (S.frames _ (.head _)).1
  have e : (mm x).map er = m x := hm x
  rw [hv] at e
  obtain ⟨v, hv', he⟩ := Option.map_eq_some_iff.mp e
  obtain ⟨t, rfl⟩ := er_int he
  exact wpAny_Name (wpAny_loadName_local hk hx (hL ▸ hn) hv' (h t)) hd
theorem nm_r {x : Str} {pos : Pos} {b : Addr} {Q : Value → Shared → Prop} (S : SS G ((L, .loc m) :: fs) V s) (hv : m x = some (.ref b)) (h : Q (.ref b) s)
    (hL : env.locals = L := by rfl) (hk : env.scope.kind = .function := by rfl) (hx : env.kindOf x = some .local := by rfl) (hd : (x == ("__debug__" : Str)) = false := by decide) :
    wpAny (model PP w) A (eval (.Name x pos) env) Q E s := by
  obtain ⟨mm, hn, hm⟩ := (S.frames _ (.head _)).1
  have e : (mm x).map er = m x := hm x
  rw [hv] at e
  obtain ⟨v, hv', he⟩ := Option.map_eq_some_iff.mp e
  rw [er_ref he] at hv'
  exact wpAny_Name (wpAny_loadName_local hk hx (hL ▸ hn) hv' h) hd
theorem nm_n {x : Str} {pos : Pos} {Q : Value → Shared → Prop} (S : SS G ((L, .loc m) :: fs) V s) (hv : m x = some .none) (h : Q .none s)
    (hL : env.locals = L := by rfl) (hk : env.scope.kind = .function := by rfl) (hx : env.kindOf x = some .local := by rfl) (hd : (x == ("__debug__" : Str)) = false := by decide) :
    wpAny (model PP w) A (eval (.Name x pos) env) Q E s := by
  obtain ⟨mm, hn, hm⟩ := (S.frames _ (.head _)).1
  have e : (mm x).map er = m x := hm x
  rw [hv] at e
  obtain ⟨v, hv', he⟩ := Option.map_eq_some_iff.mp e
  rw [er_none he] at hv'
  exact wpAny_Name (wpAny_loadName_local hk hx (hL ▸ hn) hv' h) hd
theorem ln_i {x : Str} {i : Int} {Q : Value → Shared → Prop} (S : SS G ((L, .loc m) :: fs) V s) (hv : m x = some (.int i 0)) (h : ∀ t, Q (.int i t) s)
    (hL : env.locals = L := by rfl) (hk : env.scope.kind = .function := by rfl) (hx : env.kindOf x = some .local := by rfl) :
    wpAny (model PP w) A (loadName env x) Q E s := by
  obtain ⟨mm, hn, hm⟩ := (S.frames _ (.head _)).1
  have e : (mm x).map er = m x := hm x
  rw [hv] at e
  obtain ⟨v, hv', he⟩ := Option.map_eq_some_iff.mp e
  obtain ⟨t, rfl⟩ := er_int he
  exact wpAny_loadName_local hk hx (hL ▸ hn) hv' (h t)

/-- a name stored -/
theorem sto {x : Str} {v : Value} {Q : Unit → Shared → Prop} (S : SS G ((L, .loc m) :: fs) V s) (h : ∀ s', SS G ((L, .loc (lup m x (er v))) :: fs) V s' → Q () s')
    (hL : env.locals = L := by rfl) (hk : env.scope.kind = .function := by rfl) (hx : env.kindOf x = some .local := by rfl) :
    wpAny (model PP w) A (storeName env x v) Q E s := by
  obtain ⟨mm, hn, hm⟩ := (S.frames _ (.head _)).1
  simp only at hn hm
  subst hL
  refine wpAny_storeName_local hx hn (fun h' hn' hs => ?_) (by rw [hk]; rfl)
  refine h _ (S.fr (s' := { s with heap := h', toks := s.toks + 1 }) rfl rfl (fun b o hb e => (hs.2 b hb).trans e) ⟨_, hn', fun y => ?_⟩)
  simp only [lup]
  split
  · rfl
  · exact hm y

/-- a name of the module -/
theorem nm_g {x : Str} {pos : Pos} {v : Value} {Q : Value → Shared → Prop} (S : SS G fs V s) (e : nsIn (hd.heap_39 w.params) mainGlobals x = some (some v)) (h : Q v s)
    (hg : env.globals = mainGlobals := by rfl) (hk : env.scope.kind = .function := by rfl) (hx : env.kindOf x = some .globalImplicit := by rfl) (hd : (x == ("__debug__" : Str)) = false := by decide) :
    wpAny (model PP w) A (eval (.Name x pos) env) Q E s := Name_function_global hk hx (loadGlobal_global (env := env) (hg ▸ G.g.keeps S.base) (mg_of G.K G.g e) h) hd
theorem nm_b {x : Str} {pos : Pos} {v : Value} {Q : Value → Shared → Prop} (S : SS G fs V s) (e : nsIn (hd.heap_39 w.params) mainGlobals x = some none) (hv : bootBuiltins x = some v) (hn : x ≠ "__name__") (h : Q v s)
    (hg : env.globals = mainGlobals := by rfl) (hb : env.builtins = builtinsNs := by rfl) (hk : env.scope.kind = .function := by rfl) (hx : env.kindOf x = some .globalImplicit := by rfl) (hd : (x == ("__debug__" : Str)) = false := by decide) :
    wpAny (model PP w) A (eval (.Name x pos) env) Q E s :=
  Name_function_global hk hx (loadGlobal_builtin (env := env) (hg ▸ G.g.keeps S.base) (mg_none_of G.K G.g e) (hb ▸ G.b.keeps S.base) ((G.blt x hn).trans hv) h) hd

/-- ways of a statement that meet -/
theorem join {x : Sem Flow} {Q : Flow → Shared → Prop} (J : Shared → Prop) (h1 : wpAny (model PP w) A x (fun f s' => f = .next ∧ J s') (fun _ _ => False) s) (h2 : ∀ s', J s' → Q .next s') : wpAny (model PP w) A x Q E s :=
  wpAny_mono h1 (fun f s' h => by obtain ⟨rfl, hj⟩ := h; exact h2 s' hj) (fun _ _ x => x.elim)
/-- a while by an invariant; nothing escapes -/
theorem whl {test : Expr} {body orelse : List Stmt} {pos : Pos} {Q : Flow → Shared → Prop} (I : Nat → Shared → Prop) (n : Nat) (h : I n s)
    (turn : ∀ n s, I n s → wpAny (model PP w) A (isTrue test env (eval test env)) (fun b s₂ =>
        if b then wpAny (model PP w) A (execs body env) (fun f s₃ => match f with
            | .next | .cont => ∃ m, m < n ∧ I m s₃
            | .brk => Q .next s₃
            | .ret v => Q (.ret v) s₃) (fun _ _ => False) s₂
        else wpAny (model PP w) A (execs orelse env) Q (fun _ _ => False) s₂) (fun _ _ => False) s) :
    wpAny (model PP w) A (exec (.While test body orelse pos) env) Q (fun _ _ => False) s := by
  refine wpAny_While (codeAny_whileLoop I (fun n s hI => ?_) n h)
  refine wpAny_mono (turn n s hI) (fun b s₂ hb => ?_) (fun _ _ x => x.elim)
  cases b with
  | false =>
    simp only [Bool.false_eq_true, if_false] at hb ⊢
    exact wpAny_mono hb (fun _ _ x => x) (fun _ _ x => x.elim)
  | true =>
    simp only [if_true] at hb ⊢
    exact wpAny_mono hb (fun f _ x => by cases f <;> exact x) (fun _ _ x => x.elim)


section
variable {a b : Int} {t u : Tok} {Q : Value → Shared → Prop}
theorem c_int {i : Int} {k : Nat} {pos : Pos} (S : SS G fs V s) (h : ∀ t s', SS G fs V s' → Q (.int i t) s') : wpAny (model PP w) A (eval (.Constant (.int i) k pos) env) Q E s := wpAny_Constant_int (h _ _ (S.tok _))
theorem add_i (S : SS G fs V s) (h : ∀ t s', SS G fs V s' → Q (.int (a + b) t) s') : wpAny (model PP w) A (binaryOp .Add (.int a t) (.int b u)) Q E s := P.add_int (h _ _ (S.tok _))
theorem sub_i (S : SS G fs V s) (h : ∀ t s', SS G fs V s' → Q (.int (a - b) t) s') : wpAny (model PP w) A (binaryOp .Sub (.int a t) (.int b u)) Q E s := P.sub_int (h _ _ (S.tok _))
theorem mul_i (S : SS G fs V s) (ha : a.natAbs < 2 ^ 64) (h : ∀ t s', SS G fs V s' → Q (.int (a * b) t) s') : wpAny (model PP w) A (binaryOp .Mult (.int a t) (.int b u)) Q E s := P.mul_int (h _ _ (S.tok _)) (.of_left (intBits_le ha))
theorem neg_i (S : SS G fs V s) (h : ∀ t s', SS G fs V s' → Q (.int (-a) t) s') : wpAny (model PP w) A (unaryOp .USub (.int a t)) Q E s := P.neg_int (h _ _ (S.tok _))
theorem iadd_i (S : SS G fs V s) (h : ∀ t s', SS G fs V s' → Q (.int (a + b) t) s') : wpAny (model PP w) A (inplaceOp .Add (.int a t) (.int b u)) Q E s := P.iadd_int (h _ _ (S.tok _))
theorem isub_i (S : SS G fs V s) (h : ∀ t s', SS G fs V s' → Q (.int (a - b) t) s') : wpAny (model PP w) A (inplaceOp .Sub (.int a t) (.int b u)) Q E s := P.isub_int (h _ _ (S.tok _))
theorem mod_i (S : SS G fs V s) (hb : b ≠ 0) (h : ∀ t s', SS G fs V s' → Q (.int (a.fmod b) t) s') : wpAny (model PP w) A (binaryOp .Mod (.int a t) (.int b u)) Q E s := mod_int' hb (h _ _ (S.tok _))
theorem shr_i (S : SS G fs V s) (hb : 0 ≤ b) (h : ∀ t s', SS G fs V s' → Q (.int (a.fdiv (2 ^ b.toNat)) t) s') : wpAny (model PP w) A (binaryOp .RShift (.int a t) (.int b u)) Q E s := rshift_int hb (h _ _ (S.tok _))
theorem ishr_i (S : SS G fs V s) (hb : 0 ≤ b) (h : ∀ t s', SS G fs V s' → Q (.int (a.fdiv (2 ^ b.toNat)) t) s') : wpAny (model PP w) A (inplaceOp .RShift (.int a t) (.int b u)) Q E s := irshift_int hb (h _ _ (S.tok _))
theorem shl_i (S : SS G fs V s) (hb : 0 ≤ b) (hb2 : b ≤ 1000000) (ha : a.natAbs < 2 ^ 64) (h : ∀ t s', SS G fs V s' → Q (.int (a * 2 ^ b.toNat) t) s') : wpAny (model PP w) A (binaryOp .LShift (.int a t) (.int b u)) Q E s := lshift_int_small hb hb2 ha (h _ _ (S.tok _))
theorem xor_i (S : SS G fs V s) (h : ∀ t s', SS G fs V s' → Q (.int (Builtin.bitXor a b) t) s') : wpAny (model PP w) A (binaryOp .BitXor (.int a t) (.int b u)) Q E s := xor_int (h _ _ (S.tok _))
theorem inv_i (S : SS G fs V s) (h : ∀ t s', SS G fs V s' → Q (.int (Builtin.bitNot a) t) s') : wpAny (model PP w) A (unaryOp .Invert (.int a t)) Q E s := invert_int (h _ _ (S.tok _))
theorem pow_i (S : SS G fs V s) (hb : 0 ≤ b) (hb2 : b ≤ 1000000) (ha : a.natAbs < 2 ^ 64) (h : ∀ t s', SS G fs V s' → Q (.int (a ^ b.toNat) t) s') : wpAny (model PP w) A (binaryOp .Pow (.int a t) (.int b u)) Q E s := pow_int_small hb hb2 ha (h _ _ (S.tok _))
theorem fdiv_i (S : SS G fs V s) (hb : b ≠ 0) (hb2 : b.natAbs < 1073741824) (h : ∀ t s', SS G fs V s' → Q (.int (a.fdiv b) t) s') : wpAny (model PP w) A (binaryOp .FloorDiv (.int a t) (.int b u)) Q E s := floordiv_int hb (h _ _ (S.tok _)) (Or.inl (PyProof.noPylong_small hb2))
end
end

section
variable {w : World} {G : Gd w} {f₀ : Addr × FK} {fs : Frs} {V V' : View} {s s' : Shared} {l a b : Addr} {m : Loc} {ao : AObj} {A : Around} {E : Value → Shared → Prop} {env : Env} {ns : List Int} {as : List Addr} {k n : Int} {u t : Tok} {Q : Value → Shared → Prop}

theorem SS.il (S : SS G fs V s) (h : V l = some (.ilist ns)) : ∃ vs n, s.heap.get? l = some (listOf vs n) ∧ IntsAre vs.toList ns := by
  obtain ⟨o, ho, vs, n, rfl, hi⟩ := S.see l _ h; exact ⟨vs, n, ho, hi⟩
theorem SS.rl (S : SS G fs V s) (h : V l = some (.rlist as)) : ∃ n, s.heap.get? l = some (listOf (as.map Value.ref).toArray n) := by
  obtain ⟨o, ho, n, rfl⟩ := S.see l _ h; exact ⟨n, ho⟩
theorem SS.it (S : SS G fs V s) (h : V l = some (.itup ns)) : ∃ vs n, s.heap.get? l = some (tupOf vs n) ∧ IntsAre vs.toList ns := by
  obtain ⟨o, ho, vs, n, rfl, hi⟩ := S.see l _ h; exact ⟨vs, n, ho, hi⟩
theorem isList_of {h : Heap} {vs : Array Value} {n : Nat} (ho : h.get? l = some (listOf vs n)) : h.IsList l vs := ⟨_, ho, rfl, n, rfl⟩
theorem isTup_of {h : Heap} {vs : Array Value} {n : Nat} (ho : h.get? l = some (tupOf vs n)) : IsTup h l vs := ⟨_, ho, rfl, n, rfl⟩

/-- an item -/
theorem sub_rl {value slice : Expr} (S : SS G fs V s) (hV : V l = some (.rlist as)) (h0 : 0 ≤ k) (hk : k < 1000000) (hx : as[k.toNat]? = some b) (h : Q (.ref b) s)
    (hs : subscripted slice false (.ref l) (.int k u) = operate [.ref l, .int k u] (getItem (.ref l) (.int k u)) := by with_unfolding_all rfl) :
    wpAny (model PP w) A (subscriptTail value slice (.ref l) (.int k u)) Q E s := by
  obtain ⟨n, ho⟩ := S.rl hV
  exact tail_any (isList_of ho).typeIs slot_list_getitem.lookup (wpAny_getItem_list (x := .ref b) (isList_of ho) h0 (by omega) (by simp [hx]) h) hs
theorem sub_il {value slice : Expr} (S : SS G fs V s) (hV : V l = some (.ilist ns)) (h0 : 0 ≤ k) (hk : k < 1000000) (hx : ns[k.toNat]? = some n) (h : ∀ t, Q (.int n t) s)
    (hs : subscripted slice false (.ref l) (.int k u) = operate [.ref l, .int k u] (getItem (.ref l) (.int k u)) := by with_unfolding_all rfl) :
    wpAny (model PP w) A (subscriptTail value slice (.ref l) (.int k u)) Q E s := by
  obtain ⟨vs, n', ho, hi⟩ := S.il hV
  obtain ⟨t, ht⟩ := hi.get _ _ hx
  exact tail_any (isList_of ho).typeIs slot_list_getitem.lookup (wpAny_getItem_list (x := .int n t) (isList_of ho) h0 (by omega) (by simpa using ht) (h t)) hs
theorem sub_it {value slice : Expr} {j : Nat} (S : SS G fs V s) (hV : V l = some (.itup ns)) (h0 : -1000000 ≤ k) (hk : k < 1000000) (hj : seqIndex? k ns.length = some j) (hx : ns[j]? = some n) (h : ∀ t, Q (.int n t) s)
    (hs : subscripted slice false (.ref l) (.int k u) = operate [.ref l, .int k u] (getItem (.ref l) (.int k u)) := by with_unfolding_all rfl) :
    wpAny (model PP w) A (subscriptTail value slice (.ref l) (.int k u)) Q E s := by
  obtain ⟨vs, n', ho, hi⟩ := S.it hV
  obtain ⟨t, ht⟩ := hi.get _ _ hx
  have hl := hi.length
  exact tail_any (isTup_of ho).typeIs slot_tuple_getitem.lookup (getItem_tuple (isTup_of ho) (by omega) (by omega) (j := j) (by rw [← Array.length_toList, hl]; exact hj) (by simpa using ht) (h t)) hs

/-- the length -/
theorem len_rl (S : SS G fs V s) (hV : V l = some (.rlist as)) (hk : as.length < 1000000) (h : ∀ t s', SS G fs V s' → Q (.int as.length t) s') : wpAny (model PP w) A (call (.builtin "len") [.ref l]) Q E s := by
  obtain ⟨n, ho⟩ := S.rl hV
  refine len_list (isList_of ho) (by simp; omega) ?_
  have := h (s.toks + 1) _ (S.tok (s.toks + 1 + 1))
  simpa using this
theorem len_il (S : SS G fs V s) (hV : V l = some (.ilist ns)) (hk : ns.length < 1000000) (h : ∀ t s', SS G fs V s' → Q (.int ns.length t) s') : wpAny (model PP w) A (call (.builtin "len") [.ref l]) Q E s := by
  obtain ⟨vs, n, ho, hi⟩ := S.il hV
  have hl := hi.length
  rw [Array.length_toList] at hl
  refine len_list (isList_of ho) (by omega) ?_
  rw [hl]; exact h _ _ (S.tok _)

/-- truth of a list -/
theorem tru_rl {Q : Bool → Shared → Prop} (S : SS G fs V s) (hV : V l = some (.rlist as)) (hk : as.length < 1000000) (h : ∀ s', SS G fs V s' → Q (!as.isEmpty) s') : wpAny (model PP w) A (truthy (.ref l)) Q E s := by
  obtain ⟨n, ho⟩ := S.rl hV
  refine wpAny_truthy_list (isList_of ho) (by simp; omega) ?_
  have := h _ (S.tok (s.toks + 1 + 1))
  simpa using this
theorem tru_il {Q : Bool → Shared → Prop} (S : SS G fs V s) (hV : V l = some (.ilist ns)) (hk : ns.length < 1000000) (h : ∀ s', SS G fs V s' → Q (!ns.isEmpty) s') : wpAny (model PP w) A (truthy (.ref l)) Q E s := by
  obtain ⟨vs, n, ho, hi⟩ := S.il hV
  have hl := hi.length
  rw [Array.length_toList] at hl
  refine wpAny_truthy_list (isList_of ho) (by omega) ?_
  have e : vs.isEmpty = ns.isEmpty := by
    rw [Bool.eq_iff_iff, Array.isEmpty_iff_size_eq_zero, List.isEmpty_iff_length_eq_zero, hl]
  rw [e]; exact h _ (S.tok _)

theorem IntsAre.set {vs : List Value} {ns : List Int} (h : IntsAre vs ns) : ∀ (i : Nat) (n : Int) (t : Tok), IntsAre (vs.set i (.int n t)) (ns.set i n) := by
  induction h with
  | nil => intro i n t; exact .nil
  | cons n₀ t₀ r ih =>
    intro i n t
    cases i with
    | zero => exact .cons n t r
    | succ i => exact .cons n₀ t₀ (ih i n t)

/-- a list of the view changed in place -/
theorem SS.lupd {ao₀ : AObj} {vs : Array Value} {n : Nat} (S : SS G fs V s) (hV : V l = some ao₀) (ho : s.heap.get? l = some (listOf vs n)) (f : Array Value → Array Value) (hn : ∀ n', ao.Is w (listOf (f vs) n')) (hnc : ∀ q, ao₀ ≠ .code q := by intro _; nofun) :
    SS G fs (upd V l ao) { s with heap := s.heap.update l (Obj.mapSeq f) } :=
  S.chg hV rfl rfl (fun c o hc e => (Heap.get?_update_ne _ _ _ _ hc).trans e) ⟨_, IsL.update (n := n) ho f, hn _⟩ hnc

/-- an item stored -/
theorem set_rl {Q : Unit → Shared → Prop} (S : SS G fs V s) (hV : V l = some (.rlist as)) (h0 : 0 ≤ k) (hk : k < as.length) (hb : as.length < 1000000) (h : ∀ s', SS G fs (upd V l (.rlist (as.set k.toNat b))) s' → Q () s') :
    wpAny (model PP w) A (setItem (.ref l) (.int k u) (.ref b)) Q E s := by
  obtain ⟨n, ho⟩ := S.rl hV
  exact ki_setAt ho h0 (by omega) (by simpa using hk) (h _ (S.lupd hV ho _ fun n' => ⟨n', by simp⟩))
theorem set_il {Q : Unit → Shared → Prop} (S : SS G fs V s) (hV : V l = some (.ilist ns)) (h0 : 0 ≤ k) (hk : k < ns.length) (hb : ns.length < 1000000) (h : ∀ s', SS G fs (upd V l (.ilist (ns.set k.toNat n))) s' → Q () s') :
    wpAny (model PP w) A (setItem (.ref l) (.int k u) (.int n t)) Q E s := by
  obtain ⟨vs, n', ho, hi⟩ := S.il hV
  have hl := hi.length
  rw [Array.length_toList] at hl
  exact ki_setAt ho h0 (by omega) (by omega) (h _ (S.lupd hV ho _ fun n' => ⟨_, n', rfl, by rw [Array.toList_setIfInBounds]; exact IntsAre.set hi _ _ _⟩))

/-- append -/
theorem app_rl (S : SS G fs V s) (hV : V l = some (.rlist as)) (hb : as.length < 1000000) (h : ∀ s', SS G fs (upd V l (.rlist (as ++ [b]))) s' → Q .none s') :
    wpAny (model PP w) A (call (.builtin "list.append") [.ref l, .ref b]) Q E s := by
  obtain ⟨n, ho⟩ := S.rl hV
  refine append_at ho (fun h' hs ho' => h _ (S.chg (s' := { s with heap := h' }) hV rfl rfl (fun c o hc e => (hs.2 c hc).trans e) ⟨_, ho', _, by simp; rfl⟩)) (by simp; show as.length ≤ 2 ^ 24; omega)
theorem app_il (S : SS G fs V s) (hV : V l = some (.ilist ns)) (hb : ns.length < 1000000) (h : ∀ s', SS G fs (upd V l (.ilist (ns ++ [n]))) s' → Q .none s') :
    wpAny (model PP w) A (call (.builtin "list.append") [.ref l, .int n t]) Q E s := by
  obtain ⟨vs, n', ho, hi⟩ := S.il hV
  have hl := hi.length
  rw [Array.length_toList] at hl
  refine append_at ho (fun h' hs ho' => h _ (S.chg (s' := { s with heap := h' }) hV rfl rfl (fun c o hc e => (hs.2 c hc).trans e) ⟨_, ho', _, _, rfl, by rw [Array.toList_push]; exact hi.append (.cons n t .nil)⟩)) (by show vs.size ≤ 2 ^ 24; omega)

/-- pop, the last one -/
theorem pop_rl (S : SS G fs V s) (hV : V l = some (.rlist (as ++ [b]))) (hb : as.length < 1000000) (h : ∀ s', SS G fs (upd V l (.rlist as)) s' → Q (.ref b) s') :
    wpAny (model PP w) A (call (.builtin "list.pop") [.ref l]) Q E s := by
  obtain ⟨n, ho⟩ := S.rl hV
  rw [List.map_append] at ho
  have hk : ((as.map Value.ref) ++ [Value.ref b]).toArray.size - 1 = (as.map Value.ref).length := by simp
  have hz : ((as.map Value.ref) ++ [Value.ref b]).toArray.size ≤ sizeLine := by simp; show as.length + 1 ≤ 2 ^ 24; omega
  refine call_meets PySem.F.slot_list_pop ⟨_, ho, rfl⟩ PySem.F.entry_list_pop (PySem.F.args_list_pop_1 _) (PySem.MeetsSeq.list_pop_last l _ n (.ref b) (by rw [hk]; simp) hz) ⟨ho, h _ (S.lupd hV ho _ fun n' => ⟨n', ?_⟩)⟩
  rw [hk, show List.map Value.ref [b] = [Value.ref b] from rfl, kl_erase, List.append_nil]
theorem pop_il (S : SS G fs V s) (hV : V l = some (.ilist (ns ++ [n]))) (hb : ns.length < 1000000) (h : ∀ t s', SS G fs (upd V l (.ilist ns)) s' → Q (.int n t) s') :
    wpAny (model PP w) A (call (.builtin "list.pop") [.ref l]) Q E s := by
  obtain ⟨vs, n', ho, hi⟩ := S.il hV
  have hl := hi.length
  simp only [Array.length_toList, List.length_append, List.length_cons, List.length_nil] at hl
  obtain ⟨t, ht⟩ := hi.get ns.length n (by simp)
  have hsp : vs.toList = (vs.toList.take ns.length) ++ [.int n t] := by
    conv => lhs; rw [← List.take_append_drop ns.length vs.toList]
    congr 1
    have h1 : (vs.toList.drop ns.length).length = 1 := by simp; omega
    obtain ⟨x, hx⟩ := List.length_eq_one_iff.mp h1
    rw [hx]
    have : (vs.toList.drop ns.length)[0]? = some (.int n t) := by rw [List.getElem?_drop]; simpa using ht
    rw [hx] at this
    simpa using this
  have hI : IntsAre (vs.toList.take ns.length) ns := by have := hi.take ns.length; simpa using this
  generalize hp : vs.toList.take ns.length = p at hsp hI
  have hpl := hI.length
  have ev : vs = (p ++ [Value.int n t]).toArray := by rw [← hsp, Array.toArray_toList]
  subst ev
  have hk : (p ++ [Value.int n t]).toArray.size - 1 = p.length := by simp
  have hz : (p ++ [Value.int n t]).toArray.size ≤ sizeLine := by simp; show p.length + 1 ≤ 2 ^ 24; omega
  refine call_meets PySem.F.slot_list_pop ⟨_, ho, rfl⟩ PySem.F.entry_list_pop (PySem.F.args_list_pop_1 _) (PySem.MeetsSeq.list_pop_last l _ n' (.int n t) (by rw [hk]; simp) hz) ⟨ho, h _ _ (S.lupd hV ho _ fun n'' => ⟨_, n'', rfl, ?_⟩)⟩
  rw [hk, kl_erase, List.append_nil]
  exact hI

/-- a method of a list -/
theorem met_l {name : Str} {id : String} {pl : Sem Bool} {Q : Value × List Value → Shared → Prop} {vs : Array Value} {n : Nat} (ho : s.heap.get? l = some (listOf vs n)) (slot : Slot "list" name id) (hty : typeOf (.builtin id) = pure (.type "method_descriptor"))
    (h : Q (.builtin id, [.ref l]) s) : wpAny (model PP w) A (getMethod (.ref l) name pl) Q E s :=
  getMethod_builtin ⟨_, ho, rfl⟩ PySem.F.plainAttrs_list slot hty (fun a e => by cases e; exact ⟨_, ho, rfl⟩) h
theorem met_rl {name : Str} {id : String} {pl : Sem Bool} {Q : Value × List Value → Shared → Prop} (S : SS G fs V s) (hV : V l = some (.rlist as)) (slot : Slot "list" name id) (hty : typeOf (.builtin id) = pure (.type "method_descriptor"))
    (h : Q (.builtin id, [.ref l]) s) : wpAny (model PP w) A (getMethod (.ref l) name pl) Q E s := let ⟨_, ho⟩ := S.rl hV; met_l ho slot hty h
theorem met_il {name : Str} {id : String} {pl : Sem Bool} {Q : Value × List Value → Shared → Prop} (S : SS G fs V s) (hV : V l = some (.ilist ns)) (slot : Slot "list" name id) (hty : typeOf (.builtin id) = pure (.type "method_descriptor"))
    (h : Q (.builtin id, [.ref l]) s) : wpAny (model PP w) A (getMethod (.ref l) name pl) Q E s := let ⟨_, _, ho, _⟩ := S.il hV; met_l ho slot hty h
end

theorem eqB {prog : Program} {w : World} {A : Around} {E : Value → Shared → Prop} {s : Shared} {a b : Int} {t u : Tok} {Q : Bool → Shared → Prop} (c : Bool) (hc : (a == b) = c) (h : Q c s) : wpAny (model prog w) A (eqBool (.int a t) (.int b u)) Q E s := wpAny_eqBool_int (hc ▸ h)
theorem rcLt {prog : Program} {w : World} {A : Around} {E : Value → Shared → Prop} {s : Shared} {a b : Int} {t u : Tok} {Q : Value → Shared → Prop} (h : Q (.bool (decide (a < b))) s) : wpAny (model prog w) A (richCompare .Lt (.int a t) (.int b u)) Q E s :=
  richCompare_meets (typeIs_int s a t) (typeIs_int s b u) PySem.F.slot_int_lt PySem.F.entry_int_lt (PySem.F.args_int_lt_2 _ _) (gives_int_lt a b t u).meets ⟨(fun x => nomatch x), h⟩
theorem tuple_lt2 (l b : Addr) (x₁ y₁ x₂ y₂ : Int) (t₁ u₁ t₂ u₂ : Tok) (n n2 : Nat) :
    Meets (Builtin.«tuple.__lt__» ⟨[.ref l, .ref b], []⟩)
      (fun A R s => s.heap.get? l = some (tupOf #[.int x₁ t₁, .int y₁ u₁] n) ∧ s.heap.get? b = some (tupOf #[.int x₂ t₂, .int y₂ u₂] n2) ∧
        R (.ok (.ret (.bool (decide (x₁ < x₂ ∨ x₁ = x₂ ∧ y₁ < y₂))))) s) :=
  .of_wp fun prog w A R s h => by
    obtain ⟨hp, g, d, tk, os⟩ := s; obtain ⟨hl, hb, h⟩ := h
    have f2 := AutoSeq1.sub_tuple_tuple
    by_cases hx : x₁ = x₂
    · have e1 : (x₁ == x₂) = true := by simp [hx]
      by_cases hy : y₁ = y₂
      · have e2 : (y₁ == y₂) = true := by simp [hy]
        wp_walk using wpAny_loadPart' hl, wpAny_loadPart' hb, eqB true e1, eqB true e2
        refine ⟨_, rfl, ?_⟩
        have : decide (x₁ < x₂ ∨ x₁ = x₂ ∧ y₁ < y₂) = false := by simp [hx, hy]
        rw [this] at h
        exact h
      · have e2 : (y₁ == y₂) = false := by simp [hy]
        wp_walk using wpAny_loadPart' hl, wpAny_loadPart' hb, eqB true e1, eqB false e2, rcLt
        refine ⟨_, rfl, ?_⟩
        have : decide (x₁ < x₂ ∨ x₁ = x₂ ∧ y₁ < y₂) = decide (y₁ < y₂) := by simp [hx]
        rw [this] at h
        exact h
    · have e1 : (x₁ == x₂) = false := by simp [hx]
      wp_walk using wpAny_loadPart' hl, wpAny_loadPart' hb, eqB false e1, rcLt
      refine ⟨_, rfl, ?_⟩
      have : decide (x₁ < x₂ ∨ x₁ = x₂ ∧ y₁ < y₂) = decide (x₁ < x₂) := by simp [hx]
      rw [this] at h
      exact h
/-- pairs by their first, then their second -/
noncomputable def pLt (p q : Int × Int) : Bool := decide (p.1 < q.1 ∨ p.1 = q.1 ∧ p.2 < q.2)
section
variable {w : World} {G : Gd w} {f₀ : Addr × FK} {fs : Frs} {V V' : View} {s s' : Shared} {l a b : Addr} {m : Loc} {ao : AObj} {A : Around} {E : Value → Shared → Prop} {env : Env} {Q : Value → Shared → Prop} {k : Nat}
theorem two_ints {vs : Array Value} {x y : Int} (h : IntsAre vs.toList [x, y]) : ∃ t u, vs = #[.int x t, .int y u] := by
  obtain ⟨l⟩ := vs
  obtain ⟨t, l', e, h'⟩ := IntsAre.cons_inv h
  obtain ⟨u, l'', e', h''⟩ := IntsAre.cons_inv h'
  have e2 := IntsAre.nil_inv h''
  simp only at e
  subst e e' e2
  exact ⟨t, u, rfl⟩
theorem lt_tt {p q : Int × Int} (r : Rm A k) (S : SS G fs V s) (ha : V a = some (.itup [p.1, p.2])) (hb : V b = some (.itup [q.1, q.2])) (h : Q (.bool (pLt p q)) s) : wpAny (model PP w) A (compareOp .Lt (.ref a) (.ref b)) Q E s := by
  obtain ⟨vs, n, ho, hi⟩ := S.it ha
  obtain ⟨vs', n', ho', hi'⟩ := S.it hb
  obtain ⟨t, u, rfl⟩ := two_ints hi
  obtain ⟨t', u', rfl⟩ := two_ints hi'
  exact cmp_ofLt (richCompare_meets_room ⟨_, ho, rfl⟩ ⟨_, ho', rfl⟩ PySem.F.slot_tuple_lt PySem.F.entry_tuple_lt (PySem.F.args_tuple_lt_2 _ _) (tuple_lt2 a b _ _ _ _ t u t' u' n n') ⟨ho, ho', (fun x => nomatch x), h⟩ r.units)
end
noncomputable def Hid {α : Type} (Q' Q : α → Shared → Prop) : Prop := ∀ a s, Q a s → Q' a s
section
variable {w : World} {A : Around} {E : Value → Shared → Prop} {s : Shared} {env : Env}
theorem Hid.out {α : Type} {Q' Q : α → Shared → Prop} {a : α} (h : Hid Q' Q) (x : Q a s) : Q' a s := h a s x
theorem cons_hid {st : Stmt} {rest : List Stmt} {Q : Flow → Shared → Prop} (h : ∀ Q' : Flow → Shared → Prop, Hid Q' (fun f s' => match f with | .next => wpAny (model PP w) A (execs rest env) Q E s' | f => Q f s') → wpAny (model PP w) A (exec st env) Q' E s) :
    wpAny (model PP w) A (execs (st :: rest) env) Q E s := by
  refine wpAny_execs_cons ?_
  exact h _ fun _ _ x => x
end

section
variable {w : World} {G : Gd w} {f₀ : Addr × FK} {fs : Frs} {V V' : View} {s s' : Shared} {l a b L I : Addr} {m : Loc} {ao : AObj} {A : Around} {E : Value → Shared → Prop} {env : Env} {k : Nat}

/-- a pinned thing under the head frame is another now -/
theorem SS.pin {ao₀ : FK} {g : Addr × FK} {k' : FK} (S : SS G (g :: (I, ao₀) :: fs) V s) (hg : s'.gens = s.gens) (ho : s'.os = s.os) (k : ∀ b o, b ≠ I → s.heap.get? b = some o → s'.heap.get? b = some o) (hn : k'.At w s'.heap I) : SS G (g :: (I, k') :: fs) V s' :=
  (S.swap.fr hg ho k hn).swap
/-- a new pinned thing -/
theorem SS.pinNew {g : Addr × FK} {k' : FK} (S : SS G (g :: fs) V s) (hI : s.heap.objs.size ≤ I) (hg : s'.gens = s.gens) (ho : s'.os = s.os) (k : ∀ b o, s.heap.get? b = some o → s'.heap.get? b = some o) (hn : k'.At w s'.heap I) : SS G (g :: (I, k') :: fs) V s' :=
  (S.push S.ge hI hg ho k hn).swap
/-- a pinned thing goes, whatever it is now -/
theorem SS.unpin {ao₀ : FK} {g : Addr × FK} (S : SS G (g :: (I, ao₀) :: fs) V s) (hg : s'.gens = s.gens) (ho : s'.os = s.os) (k : ∀ b o, b ≠ I → s.heap.get? b = some o → s'.heap.get? b = some o) : SS G (g :: fs) V s' := by
  have S' := S.swap
  have hd := List.nodup_cons.mp S'.nodup
  have hi := (S'.frames _ (.head _)).2
  simp only at hi
  have big := G.big
  have hV : V I = none := S'.apart _ (.head _)
  have kc : ∀ c o, s.heap.get? c = some o → CodeV V c → c ∉ ((I, ao₀) :: g :: fs).map (·.1) → G.h.objs.size ≤ c → s'.heap.get? c = some o ∧ CodeV V c ∧ c ∉ (g :: fs).map (·.1) := fun c o e v f _ => by
    simp only [List.map_cons, List.mem_cons, not_or] at f ⊢
    exact ⟨k _ _ f.1 e, v, f.2⟩
  exact {
    gens := hg.trans S.gens
    os := ho.trans S.os
    base := fun b o e => k b o (Nat.ne_of_lt (Nat.lt_of_lt_of_le (Heap.lt_size e) hi)) (S.base b o e)
    frames := fun f hf => ⟨(S'.frames f (.tail _ hf)).1.same (fun o => k _ o fun q => hd.1 (by rw [← q]; exact List.mem_map_of_mem (f := (·.1)) hf)), (S'.frames f (.tail _ hf)).2⟩
    nodup := hd.2
    see := fun b bo e => (S.see b bo e).same (fun o => k _ o fun q => by rw [q, hV] at e; cases e)
    high := S.high
    apart := fun f hf => S'.apart f (.tail _ hf)
    tabs := fun q hq => (S'.tabs q hq).mono (fun o => k _ o (low_ne q.1 big hi (tab_lt q hq))) kc }

/-- a for over anything that walks -/
theorem for_gen {target : Expr} {body orelse : List Stmt} {Q : Flow → Shared → Prop} {n : Nat} {P : Nat → Value → Prop} {Sti : Nat → Heap → Prop} {fp : List Addr} (W : Walks PP w A I fp [I] n P Sti) (it : Nat → AObj) (J : Nat → Loc → View → Prop)
    (hst : ∀ i m V s, i ≤ n → J i m V → SS G ((L, .loc m) :: (I, .obj (it i)) :: fs) V s → Sti i s.heap) (hit : ∀ i h, Sti i h → (it i).At w h I)
    (hgo : ∀ i v s (Q : Unit → Shared → Prop), Sti i s.heap → Q () s → wpAny (model PP w) A (letOwnedTupleGo target (.ref I) v) Q (fun _ _ => False) s)
    (S : SS G ((L, .loc m) :: (I, .obj (it 0)) :: fs) V s) (h0 : J 0 m V)
    (turn : ∀ i m V v s, i < n → P i v → J i m V → SS G ((L, .loc m) :: (I, .obj (it (i + 1))) :: fs) V s →
      wpAny (model PP w) A (assign target env v) (fun _ s₂ => wpAny (model PP w) A (execs body env) (fun f s₃ => match f with
        | .next | .cont => ∃ m' V', J (i + 1) m' V' ∧ SS G ((L, .loc m') :: (I, .obj (it (i + 1))) :: fs) V' s₃
        | .brk => Q .next s₃
        | .ret v => Q (.ret v) s₃) (fun _ _ => False) s₂) (fun _ _ => False) s)
    (fin : ∀ m V s, J n m V → SS G ((L, .loc m) :: fs) V s → wpAny (model PP w) A (execs orelse env) Q (fun _ _ => False) s) :
    codeAny (model PP w) A (.forLoop target (.ref I) body orelse env) (fun r s' => match r with | .ok f => Q f s' | .error e => cameBackBy (model PP w) A env E e s') s := by
  refine codeAny_forLoop_any (fun k s => ∃ i m V, k = n - i ∧ i ≤ n ∧ J i m V ∧ SS G ((L, .loc m) :: (I, .obj (it i)) :: fs) V s) (fun k s hI => ?_) n ⟨0, m, V, rfl, Nat.zero_le _, h0, S⟩
  obtain ⟨i, m, V, rfl, hi, hJ, S⟩ := hI
  rcases Nat.lt_or_ge i n with hlt | hge
  · refine W.item i s _ _ hlt (hst i m V s hi hJ S) fun v h' tk hP hSt hk => ?_
    have S' : SS G ((L, .loc m) :: (I, .obj (it (i + 1))) :: fs) V { s with heap := h', toks := tk } := S.pin rfl rfl (fun b o hb e => hk b o (by simpa using hb) e) (hit _ _ hSt)
    refine hgo _ v _ _ hSt ?_ |> fun q => wpAny_mono q (fun _ _ x => x) (fun _ _ x => x.elim)
    refine wpAny_mono (turn i m V v _ hlt hP hJ S') (fun _ s₂ h₂ => wpAny_mono h₂ (fun f s₃ h₃ => ?_) fun _ _ x => x.elim) (fun _ _ x => x.elim)
    cases f with
    | next => obtain ⟨m', V', hj, S''⟩ := h₃; exact ⟨n - (i + 1), by omega, i + 1, m', V', rfl, hlt, hj, S''⟩
    | cont => obtain ⟨m', V', hj, S''⟩ := h₃; exact ⟨n - (i + 1), by omega, i + 1, m', V', rfl, hlt, hj, S''⟩
    | brk => exact h₃
    | ret v => exact h₃
  · have : i = n := by omega
    subst this
    refine W.done s _ _ (hst i m V s hi hJ S) fun h' tk hk => ?_
    exact wpAny_mono (fin m V _ hJ (S.unpin (s' := { s with heap := h', toks := tk }) rfl rfl fun b o hb e => hk b o (by simpa using hb) e)) (fun _ _ x => x) (fun _ _ x => x.elim)

theorem go_name {x : Str} {pos : Pos} {it v : Value} {Q : Unit → Shared → Prop} (h : Q () s) : wpAny (model PP w) A (letOwnedTupleGo (.Name x pos) it v) Q (fun _ _ => False) s := wpAny_pure h
end

section
variable {w : World} {A : Around}
theorem isList_ilist {h : Heap} {l : Addr} {ns : List Int} (x : (AObj.ilist ns).At w h l) : ∃ vs : Array Value, h.IsList l vs ∧ IntsAre vs.toList ns ∧ vs.size = ns.length := by
  obtain ⟨o, ho, vs, n, rfl, hi⟩ := x
  exact ⟨vs, isList_of ho, hi, by rw [← Array.length_toList]; exact hi.length⟩
theorem isTuple_itup {h : Heap} {l : Addr} {ns : List Int} (x : (AObj.itup ns).At w h l) : ∃ vs : Array Value, h.IsTuple l vs ∧ IntsAre vs.toList ns ∧ vs.size = ns.length := by
  obtain ⟨o, ho, vs, n, rfl, hi⟩ := x
  exact ⟨vs, ⟨_, ho, rfl, n, rfl⟩, hi, by rw [← Array.length_toList]; exact hi.length⟩
theorem isList_rlist {h : Heap} {l : Addr} {as : List Addr} (x : (AObj.rlist as).At w h l) : h.IsList l (as.map Value.ref).toArray := by
  obtain ⟨o, ho, n, rfl⟩ := x
  exact isList_of ho

theorem walks_il (hh : A.handled = none) (I l : Addr) (hne : l ≠ I) (ns : List Int) :
    Walks PP w A I [I, l] [I] ns.length (fun i v => ∃ t, v = .int (ns.getD i 0) t) (fun i h => h.IsListIter I l i ∧ (AObj.ilist ns).At w h l) where
  sub := fun b hb => by simp at hb; simp [hb]
  frame := fun _ _ _ st hk => ⟨st.1.at fun o e => hk I (by simp) o e, st.2.same fun o e => hk l (by simp) o e⟩
  item := fun i s Q E hi st hQ => by
    obtain ⟨vs, hl, hI, hz⟩ := isList_ilist st.2
    have hlt : i < vs.size := by omega
    refine wpAny_pyNext_list_item st.1 hl (x := vs[i]) (by simp [hlt]) fun h' hit' hs' => ?_
    exact hQ _ h' s.toks (hI.int_at i _ (by simp [hlt])) ⟨hit', st.2.same fun o e => hs'.extBut l o hne e⟩ fun b o hb e => hs'.extBut b o (fun h => hb (by simp [h])) e
  done := fun s Q E st hQ => by
    obtain ⟨vs, hl, hI, hz⟩ := isList_ilist st.2
    exact wpAny_pyNext_list_end hh st.1 hl (by simp [hz]) fun h' he' => hQ h' s.toks fun b o hb e => he' b o (fun h => hb (by simp [h])) e
  self := fun _ _ _ _ st hQ => wpAny_pyIter_listiter st.1 hQ
theorem walks_it (hh : A.handled = none) (I l : Addr) (hne : l ≠ I) (ns : List Int) :
    Walks PP w A I [I, l] [I] ns.length (fun i v => ∃ t, v = .int (ns.getD i 0) t) (fun i h => h.IsTupleIter I l i ∧ (AObj.itup ns).At w h l) where
  sub := fun b hb => by simp at hb; simp [hb]
  frame := fun _ _ _ st hk => ⟨st.1.at fun o e => hk I (by simp) o e, st.2.same fun o e => hk l (by simp) o e⟩
  item := fun i s Q E hi st hQ => by
    obtain ⟨vs, hl, hI, hz⟩ := isTuple_itup st.2
    have hlt : i < vs.size := by omega
    refine wpAny_pyNext_tuple_item st.1 hl (x := vs[i]) (by simp [hlt]) fun h' hit' hs' => ?_
    exact hQ _ h' s.toks (hI.int_at i _ (by simp [hlt])) ⟨hit', st.2.same fun o e => hs'.extBut l o hne e⟩ fun b o hb e => hs'.extBut b o (fun h => hb (by simp [h])) e
  done := fun s Q E st hQ => by
    obtain ⟨vs, hl, hI, hz⟩ := isTuple_itup st.2
    exact wpAny_pyNext_tuple_end hh st.1 hl (by simp [hz]) fun h' he' => hQ h' s.toks fun b o hb e => he' b o (fun h => hb (by simp [h])) e
  self := fun _ _ _ _ st hQ => wpAny_pyIter_tupleiter st.1 hQ
theorem walks_rl (hh : A.handled = none) (I l : Addr) (hne : l ≠ I) (as : List Addr) :
    Walks PP w A I [I, l] [I] as.length (fun i v => v = .ref (as.getD i 0)) (fun i h => h.IsListIter I l i ∧ (AObj.rlist as).At w h l) where
  sub := fun b hb => by simp at hb; simp [hb]
  frame := fun _ _ _ st hk => ⟨st.1.at fun o e => hk I (by simp) o e, st.2.same fun o e => hk l (by simp) o e⟩
  item := fun i s Q E hi st hQ => by
    refine wpAny_pyNext_list_item st.1 (isList_rlist st.2) (x := .ref (as.getD i 0)) (by simp [hi, List.getD]) fun h' hit' hs' => ?_
    exact hQ _ h' s.toks rfl ⟨hit', st.2.same fun o e => hs'.extBut l o hne e⟩ fun b o hb e => hs'.extBut b o (fun h => hb (by simp [h])) e
  done := fun s Q E st hQ => wpAny_pyNext_list_end hh st.1 (isList_rlist st.2) (by simp) fun h' he' => hQ h' s.toks fun b o hb e => he' b o (fun h => hb (by simp [h])) e
  self := fun _ _ _ _ st hQ => wpAny_pyIter_listiter st.1 hQ
end

section
variable {w : World} {G : Gd w} {f₀ : Addr × FK} {fs : Frs} {V V' : View} {s s' : Shared} {l a b L I : Addr} {m : Loc} {ao : AObj} {A : Around} {E : Value → Shared → Prop} {env : Env} {k : Nat} {x : Str} {px : Pos} {body orelse : List Stmt} {Q : Flow → Shared → Prop}

/-- for x in a list of ints -/
theorem for_il {ns : List Int} (r : Rm A k) (S : SS G ((L, .loc m) :: fs) V s) (hV : V l = some (.ilist ns)) (J : Nat → Loc → View → Prop) (h0 : J 0 m V) (hJ : ∀ i m V, J i m V → V l = some (.ilist ns))
    (turn : ∀ i m V t it s, i < ns.length → J i m V → SS G ((L, .loc m) :: it :: fs) V s →
      wpAny (model PP w) A (assign (.Name x px) env (.int (ns.getD i 0) t)) (fun _ s₂ => wpAny (model PP w) A (execs body env) (fun f s₃ => match f with
        | .next | .cont => ∃ m' V', J (i + 1) m' V' ∧ SS G ((L, .loc m') :: it :: fs) V' s₃
        | .brk => Q .next s₃
        | .ret v => Q (.ret v) s₃) (fun _ _ => False) s₂) (fun _ _ => False) s)
    (fin : ∀ m V s, J ns.length m V → SS G ((L, .loc m) :: fs) V s → wpAny (model PP w) A (execs orelse env) Q (fun _ _ => False) s) :
    wpAny (model PP w) A (pyIter (.ref l)) (fun it s₂ => codeAny (model PP w) A (.forLoop (.Name x px) it body orelse env) (fun r s' => match r with | .ok f => Q f s' | .error e => cameBackBy (model PP w) A env E e s') s₂) E s := by
  obtain ⟨vs, n, ho, hi⟩ := S.il hV
  refine wpAny_pyIter_list (isList_of ho) ?_
  have hne : l ≠ s.heap.objs.size := Nat.ne_of_lt (Heap.lt_size ho)
  exact for_gen (walks_il r.h s.heap.objs.size l hne ns) (fun i => .fld "list_iterator" #[.ref l, .int i 0]) J (fun i m V s' _ hj S' => ⟨(S'.frames _ (.tail _ (.head _))).1, S'.see l _ (hJ i m V hj)⟩) (fun i h hs => hs.1) (fun i v s Q _ h => go_name h)
    (S.pinNew (Nat.le_refl _) rfl rfl (fun b o e => Heap.get?_push_of_some _ e) ⟨_, Heap.get?_push_size _ rfl, rfl, rfl⟩) h0 (fun i m V v s' hi' hP hj S' => by obtain ⟨t, rfl⟩ := hP; exact turn i m V t _ s' hi' hj S') (fun m V s' hj S' => fin m V s' hj S')
/-- for x in a tuple of ints -/
theorem for_it {ns : List Int} (r : Rm A k) (S : SS G ((L, .loc m) :: fs) V s) (hV : V l = some (.itup ns)) (J : Nat → Loc → View → Prop) (h0 : J 0 m V) (hJ : ∀ i m V, J i m V → V l = some (.itup ns))
    (turn : ∀ i m V t it s, i < ns.length → J i m V → SS G ((L, .loc m) :: it :: fs) V s →
      wpAny (model PP w) A (assign (.Name x px) env (.int (ns.getD i 0) t)) (fun _ s₂ => wpAny (model PP w) A (execs body env) (fun f s₃ => match f with
        | .next | .cont => ∃ m' V', J (i + 1) m' V' ∧ SS G ((L, .loc m') :: it :: fs) V' s₃
        | .brk => Q .next s₃
        | .ret v => Q (.ret v) s₃) (fun _ _ => False) s₂) (fun _ _ => False) s)
    (fin : ∀ m V s, J ns.length m V → SS G ((L, .loc m) :: fs) V s → wpAny (model PP w) A (execs orelse env) Q (fun _ _ => False) s) :
    wpAny (model PP w) A (pyIter (.ref l)) (fun it s₂ => codeAny (model PP w) A (.forLoop (.Name x px) it body orelse env) (fun r s' => match r with | .ok f => Q f s' | .error e => cameBackBy (model PP w) A env E e s') s₂) E s := by
  obtain ⟨vs, n, ho, hi⟩ := S.it hV
  refine wpAny_pyIter_tuple ⟨_, ho, rfl, n, rfl⟩ ?_
  have hne : l ≠ s.heap.objs.size := Nat.ne_of_lt (Heap.lt_size ho)
  exact for_gen (walks_it r.h s.heap.objs.size l hne ns) (fun i => .fld "tuple_iterator" #[.ref l, .int i 0]) J (fun i m V s' _ hj S' => ⟨(S'.frames _ (.tail _ (.head _))).1, S'.see l _ (hJ i m V hj)⟩) (fun i h hs => hs.1) (fun i v s Q _ h => go_name h)
    (S.pinNew (Nat.le_refl _) rfl rfl (fun b o e => Heap.get?_push_of_some _ e) ⟨_, Heap.get?_push_size _ rfl, rfl, rfl⟩) h0 (fun i m V v s' hi' hP hj S' => by obtain ⟨t, rfl⟩ := hP; exact turn i m V t _ s' hi' hj S') (fun m V s' hj S' => fin m V s' hj S')

/-- an iterator over a range, at hand as an object: down from n - 1 to 0 (c = -1), or up from a (c = 1) -/
theorem for_rg {I : Addr} {a c : Int} {n : Nat} (r : Rm A k) (S : SS G ((L, .loc m) :: (I, .obj (.raw { cls := .type "range_iterator", data := .fields #[rawInt a, rawInt n, rawInt c] })) :: fs) V s) (J : Nat → Loc → View → Prop) (h0 : J 0 m V)
    (turn : ∀ i m V t it s, i < n → J i m V → SS G ((L, .loc m) :: it :: fs) V s →
      wpAny (model PP w) A (assign (.Name x px) env (.int (a + i * c) t)) (fun _ s₂ => wpAny (model PP w) A (execs body env) (fun f s₃ => match f with
        | .next | .cont => ∃ m' V', J (i + 1) m' V' ∧ SS G ((L, .loc m') :: it :: fs) V' s₃
        | .brk => Q .next s₃
        | .ret v => Q (.ret v) s₃) (fun _ _ => False) s₂) (fun _ _ => False) s)
    (fin : ∀ m V s, J n m V → SS G ((L, .loc m) :: fs) V s → wpAny (model PP w) A (execs orelse env) Q (fun _ _ => False) s) :
    codeAny (model PP w) A (.forLoop (.Name x px) (.ref I) body orelse env) (fun r s' => match r with | .ok f => Q f s' | .error e => cameBackBy (model PP w) A env E e s') s := by
  refine for_gen (Walks.range r.h I a c n) (fun i => .raw { cls := .type "range_iterator", data := .fields #[rawInt (a + (i : Nat) * c), rawInt ((n : Int) - (i : Nat)), rawInt c] }) J (fun i m V s' _ hj S' => ?_) (fun i h hs => ⟨_, hs, rfl⟩) (fun i v s Q _ h => go_name h)
    (by simpa using S) h0 (fun i m V v s' hi' hP hj S' => by obtain ⟨t, rfl⟩ := hP; exact turn i m V t _ s' hi' hj S') (fun m V s' hj S' => fin m V s' hj S')
  obtain ⟨o, ho, e⟩ := (S'.frames _ (.tail _ (.head _))).1
  cases e
  exact ho
theorem it_rg {I : Addr} {a b c : Int} {Q : Value → Shared → Prop} (ho : s.heap.get? I = some { cls := .type "range_iterator", data := .fields #[rawInt a, rawInt b, rawInt c] }) (h : Q (.ref I) s) : wpAny (model PP w) A (pyIter (.ref I)) Q E s :=
  wpAny_pyIter_rangeiter ho h
end

theorem range_rev (r : Addr) (n : Int) (t u v : Tok) (h0 : 0 ≤ n) (h1 : n < 1000000) :
    Meets (Builtin.«range.__reversed__» ⟨[.ref r], []⟩)
      (fun _ R s => IsRange s.heap r 0 n 1 t u v ∧ R (.ok (.ret (.ref s.heap.objs.size))) { s with heap := s.heap.push { cls := .type "range_iterator", data := .fields #[rawInt (n - 1), rawInt n, rawInt (-1)] } }) :=
  .of_wp fun prog w A R s h => by
    obtain ⟨hp, g, d, tk, os⟩ := s; obtain ⟨hl, h⟩ := h
    wp_walk using wpAny_loadPart' hl
    have e : Builtin.Range.rangeSize 0 n 1 = n := by
      rw [rangeSize_one]; split <;> omega
    rw [e]
    have e1 : (Builtin.Range.rangeFitsLong 0 && Builtin.Range.rangeFitsLong n && Builtin.Range.rangeFitsLong 1 && Builtin.Range.rangeFitsLong (-1) && Builtin.Range.rangeFitsLong (0 - 1) && Builtin.Range.rangeFitsLong n) = true := by
      have : Builtin.Range.rangeFitsLong n = true := by
        unfold Builtin.Range.rangeFitsLong
        rw [decide_eq_true (by omega), decide_eq_true (by omega)]; rfl
      rw [this]; rfl
    rw [e1]
    simp only [Bool.not_true, Bool.false_eq_true, if_false, if_true, Int.zero_add, Int.mul_one]
    refine wpAny_bind (wpAny_newObj_type ?_ (by size_fits))
    exact wpAny_pure ⟨_, rfl, h⟩

section
variable {prog : Program} {w : World} {A : Around} {E : Value → Shared → Prop} {s : Shared}
theorem sub_ri_reversed : isSubtype (.type "range_iterator") (.type "reversed") = pure false := by rw [isSubtype_type]; kernel_rfl
theorem code_reversed_range {r : Addr} {n : Int} {t u v : Tok} {Q₁ : Value → Shared → Prop} (hr : IsRange s.heap r 0 n 1 t u v) (h0 : 0 ≤ n) (h1 : n < 1000000)
    (h : Q₁ (.ref s.heap.objs.size) { s with heap := s.heap.push { cls := .type "range_iterator", data := .fields #[rawInt (n - 1), rawInt n, rawInt (-1)] } }) :
    codeAny (model prog w) A (.call (.builtin "reversed.__new__") ⟨[.type "reversed", .ref r], []⟩) (wants Q₁ E) s := by
  have hT : s.TypeIs (.ref r) "range" := ⟨_, hr, rfl⟩
  have sp := F.slot_range_reversed.lookup
  have bd := F.slot_range_reversed.bind (.ref r)
  have cl := newClass_reversed (.ref r)
  have ck := F.newCall_reversed_1 (.ref r)
  refine codeAny_call_builtin F.plain_reversed_new F.entry_reversed_new (wpAny_of_eq ck ?_)
  unfold Builtin.«reversed.__new__»
  have cm : ∀ {A : Around} {Q E : Value → Shared → Prop}, Q (.ref s.heap.objs.size) { s with heap := s.heap.push { cls := .type "range_iterator", data := .fields #[rawInt (n - 1), rawInt n, rawInt (-1)] } } → wpAny (model prog w) A (runValue (.call (.builtin "range.__reversed__") ⟨[.ref r], []⟩)) Q E s :=
    fun g => call_meets F.slot_range_reversed hT F.entry_range_reversed (F.args_range_reversed_1 _) (range_rev r n t u v h0 h1) ⟨hr, g⟩
  wp_walk using cm
  exact h
theorem call_reversed_range {r : Addr} {n : Int} {t u v : Tok} {Q : Value → Shared → Prop} (hr : IsRange s.heap r 0 n 1 t u v) (h0 : 0 ≤ n) (h1 : n < 1000000)
    (h : Q (.ref s.heap.objs.size) { s with heap := s.heap.push { cls := .type "range_iterator", data := .fields #[rawInt (n - 1), rawInt n, rawInt (-1)] } }) : wpAny (model prog w) A (call (.type "reversed") [.ref r]) Q E s := by
  refine callType_other (U := "range_iterator") (Q₁ := fun obj s₁ => obj = .ref s.heap.objs.size ∧ s₁ = { s with heap := s.heap.push { cls := .type "range_iterator", data := .fields #[rawInt (n - 1), rawInt n, rawInt (-1)] } }) (by decide +kernel) F.create_reversed ⟨_, _, F.mro_reversed⟩ F.made_reversed sub_ri_reversed (F.typeCall_reversed_1 _) (code_reversed_range hr h0 h1 ⟨rfl, rfl⟩) ?_
  rintro obj s₁ ⟨rfl, rfl⟩
  exact ⟨⟨_, Heap.get?_push_size _ rfl, rfl⟩, h⟩
end

section
variable {w : World} {G : Gd w} {f₀ : Addr × FK} {fs : Frs} {V V' : View} {s s' : Shared} {l a b L I : Addr} {m : Loc} {ao : AObj} {A : Around} {E : Value → Shared → Prop} {env : Env} {k : Nat} {Q : Value → Shared → Prop}
noncomputable abbrev rngO (n : Int) (t u v : Tok) : Obj := { cls := .type "range", dict := none, data := .fields #[.int 0 t, .int n u, .int 1 v], slots := #[] }
/-- range(n), to be reversed at once -/
theorem rng_1 {n : Int} {t : Tok} {g : Addr × FK} (S : SS G (g :: fs) V s) (h : ∀ r t' u s', SS G (g :: (r, .obj (.raw (rngO n t' t u))) :: fs) V s' → Q (.ref r) s') : wpAny (model PP w) A (call (.type "range") [.int n t]) Q E s :=
  call_range_1 (h _ _ _ _ (S.pinNew (Nat.le_refl _) rfl rfl (fun b o e => Heap.get?_push_of_some _ e) ⟨_, Heap.get?_push_size _ rfl, rfl⟩))
theorem rev_rng {n : Int} {t u v : Tok} {g : Addr × FK} {r : Addr} (S : SS G (g :: (r, .obj (.raw (rngO n t u v))) :: fs) V s) (h0 : 0 ≤ n) (h1 : n < 1000000)
    (h : ∀ I s', s'.heap.get? I = some { cls := .type "range_iterator", data := .fields #[rawInt (n - 1), rawInt n, rawInt (-1)] } → SS G (g :: (I, .obj (.raw { cls := .type "range_iterator", data := .fields #[rawInt (n - 1), rawInt n, rawInt (-1)] })) :: fs) V s' → Q (.ref I) s') : wpAny (model PP w) A (call (.type "reversed") [.ref r]) Q E s := by
  obtain ⟨o, ho, e⟩ := (S.frames _ (.tail _ (.head _))).1
  have e : o = rngO n t u v := e
  subst e
  exact call_reversed_range ho h0 h1 (h _ _ (Heap.get?_push_size _ rfl) (S.drop2.pinNew (Nat.le_refl _) rfl rfl (fun b o e => Heap.get?_push_of_some _ e) ⟨_, Heap.get?_push_size _ rfl, rfl⟩))
end

noncomputable def isLoc (scope : Scope) (b : Str × Value) : Bool := decide (scope.names.lookup b.1 = some .local)
theorem bindL_eq (scope : Scope) (kindOf : Str → Option NameKind) (hk : ∀ x, kindOf x = scope.names.lookup x) : ∀ (binds : List (Str × Value)) (m : Str → Option Value) (lv : Loc) (y : Str), (∀ y, (m y).map er = lv y) →
    (bindL kindOf binds m y).map er = (binds.filter (isLoc scope)).foldl (fun m b => lup m b.1 (er b.2)) lv y
  | [], m, lv, y, h => h y
  | (n, v) :: r, m, lv, y, h => by
    rw [bindL, hk]
    by_cases q : scope.names.lookup n = some .local
    · rw [if_pos q, List.filter_cons_of_pos (by simp [isLoc, q]), List.foldl_cons]
      refine bindL_eq scope kindOf hk r _ _ y fun y => ?_
      simp only [lup]
      split
      · rfl
      · exact h y
    · rw [if_neg q, List.filter_cons_of_neg (by simp [isLoc, q])]
      exact bindL_eq scope kindOf hk r _ _ y h
theorem bindC_eq (scope : Scope) (kindOf : Str → Option NameKind) (hk : ∀ x, kindOf x = scope.names.lookup x) : ∀ (binds : List (Str × Value)) (m : Str → Option Value) (lv : Loc) (y : Str), (∀ y, (m y).map er = lv y) →
    (bindC kindOf binds m y).map er = (binds.filter (fun b => !isLoc scope b)).foldl (fun m b => lup m b.1 (er b.2)) lv y
  | [], m, lv, y, h => h y
  | (n, v) :: r, m, lv, y, h => by
    rw [bindC, hk]
    by_cases q : scope.names.lookup n = some .local
    · rw [if_pos q, List.filter_cons_of_neg (by simp [isLoc, q])]
      exact bindC_eq scope kindOf hk r _ _ y h
    · rw [if_neg q, List.filter_cons_of_pos (by simp [isLoc, q]), List.foldl_cons]
      refine bindC_eq scope kindOf hk r _ _ y fun y => ?_
      simp only [lup]
      split
      · rfl
      · exact h y

section
variable {w : World} {G : Gd w} {f₀ : Addr × FK} {fs : Frs} {V : View} {s s' : Shared} {L a c : Addr} {m : Loc} {ao : AObj} {A : Around} {E : Value → Shared → Prop} {env : Env}

/-- a call of a def of the top that has cells -/
theorem enterC {f : Addr} {vals : List Value} (binds bl bc : List (Str × Value)) (V' : Addr → View) {Q : Value → Shared → Prop} {name qual : Str} {params : Arguments} {body : List Stmt} {scope : Scope} {dV kV doc pm cdv ct oc : Value} {an od : Option Addr} {osl : Array (Option Value)}
    (S : SS G (f₀ :: fs) V s) (ho : (hd.heap_39 w.params).lookup f = some ⟨oc, od, .func (fnOf name qual params body scope dV kV doc pm an cdv ct), osl⟩) (hcd : codeIn (hd.heap_39 w.params) cdv qual = true) (hroom : A.depth < recursionLimit)
    (hbind : bindArgs (fnOf name qual params body scope dV kV doc pm an cdv ct) ⟨vals, []⟩ = pure binds)
    (hkind : ∀ n, ∀ x ∈ binds, scope.names.lookup x.1 = some .local ∨ (scope.names.lookup x.1 = some .cell ∧ ((cellsFrom n scope.names []).lookup x.1).isSome = true))
    (hbl : binds.filter (isLoc scope) = bl) (hbc : binds.filter (fun b => !isLoc scope b) = bc)
    (hV' : ∀ L a ao, V' L a = some ao → V a = some ao ∨ ∃ n, (cellsFrom (L + 1) scope.names []).lookup n = some a ∧ ao = .cell (lvOf bc n))
    (hco : scope.isCoroutine = false) (hgen : scope.isGenerator = false) (hk : scope.kind = .function)
    (h : ∀ L s₁, (∀ a, L ≤ a → V a = none) → SS G ((L, .loc (lvOf bl)) :: f₀ :: fs) (V' L) s₁ → wpAny (model PP w) (A.deeper (envOfC qual scope L f cdv)) (execs body (envOfC qual scope L f cdv))
      (fun fl s' => Q (rv fl) s') (fun _ _ => False) s₁) :
    wpAny (model PP w) A (call (.ref f) vals) Q E s := by
  refine wpAny_call ?_
  refine codeAny_call_cells (fd := fnOf name qual params body scope dV kV doc pm an cdv ct) (body := body) (binds := binds) hroom (S.K _ _ ho) rfl S.lim (codeRec_of S.K hcd) rfl hbind rfl (hkind _) (fun s₁ x => ?_) hco hgen hk
  obtain ⟨h₁, tk, rfl, hk₁⟩ := x.done
  have kd : ∀ y, (callEnvC (fnOf name qual params body scope dV kV doc pm an cdv ct) s.heap.objs.size f).kindOf y = scope.names.lookup y := fun y => rfl
  refine wpAny_mono (h s.heap.objs.size _ (fun a ha => S.fresh ha) (S.ext (V' := V' s.heap.objs.size) (s' := { s with heap := h₁, toks := tk }) (nf := [(s.heap.objs.size, .loc (lvOf bl))]) S.ge ?_ (by simp) ?_ rfl rfl hk₁)) (fun fl _ x => by cases fl <;> exact x) (fun _ _ x => x.elim)
  · intro g hg
    rw [List.mem_singleton] at hg
    subst hg
    refine ⟨Nat.le_refl _, _, x.toInCall.ns, fun y => ?_⟩
    rw [← hbl]
    exact bindL_eq scope _ kd binds _ _ y (fun _ => rfl)
  · intro a ao e
    rcases hV' _ a ao e with h1 | ⟨n, h1, rfl⟩
    · exact .inl h1
    · have hc := x.cell n a h1
      have hab := x.above n a (mem_of_lookup h1)
      refine .inr ⟨Nat.le_of_lt hab, ?_, ?_⟩
      · obtain ⟨o, e1, e2⟩ := hc
        refine ⟨o, e1, _, e2, ?_⟩
        rw [← hbc]
        exact bindC_eq scope _ kd binds _ _ n (fun _ => rfl)
      · simp only [List.map_cons, List.map_nil, List.mem_singleton]
        exact Nat.ne_of_gt hab

theorem SS.cel {v : Option Value} (S : SS G fs V s) (hV : V c = some (.cell v)) : ∃ v', s.heap.IsCell c v' ∧ v'.map er = v := by
  obtain ⟨o, ho, v', e, h⟩ := S.see c _ hV; exact ⟨v', ⟨o, ho, e⟩, h⟩
/-- names that are cells -/
theorem nm_c {x : Str} {pos : Pos} {v : Value} {Q : Value → Shared → Prop} (S : SS G fs V s) (hc : env.cells.lookup x = some c) (hV : V c = some (.cell (some v))) (h : ∀ v', er v' = v → Q v' s)
    (hk : env.scope.kind = .function := by rfl) (hx : env.kindOf x = some .cell ∨ env.kindOf x = some .free := by first | exact .inl rfl | exact .inr rfl) (hb : (x == ("__debug__" : Str)) = false := by decide) (hn : (x == ("__classdict__" : Str)) = false := by decide) :
    wpAny (model PP w) A (eval (.Name x pos) env) Q E s := by
  obtain ⟨v', hv, e⟩ := S.cel hV
  obtain ⟨v'', rfl, e'⟩ := Option.map_eq_some_iff.mp e
  rcases hx with hx | hx
  · exact wpAny_Name (wpAny_loadName_cell hk hx hc hv (h _ e')) hb
  · exact wpAny_Name (wpAny_loadName_free hk hx hc hv (h _ e') hn) hb
theorem nm_ci {x : Str} {pos : Pos} {i : Int} {Q : Value → Shared → Prop} (S : SS G fs V s) (hc : env.cells.lookup x = some c) (hV : V c = some (.cell (some (.int i 0)))) (h : ∀ t, Q (.int i t) s)
    (hk : env.scope.kind = .function := by rfl) (hx : env.kindOf x = some .cell ∨ env.kindOf x = some .free := by first | exact .inl rfl | exact .inr rfl) (hb : (x == ("__debug__" : Str)) = false := by decide) (hn : (x == ("__classdict__" : Str)) = false := by decide) :
    wpAny (model PP w) A (eval (.Name x pos) env) Q E s := nm_c S hc hV (fun v' e => by obtain ⟨t, rfl⟩ := er_int e; exact h t) hk hx hb hn
theorem nm_cr {x : Str} {pos : Pos} {a : Addr} {Q : Value → Shared → Prop} (S : SS G fs V s) (hc : env.cells.lookup x = some c) (hV : V c = some (.cell (some (.ref a)))) (h : Q (.ref a) s)
    (hk : env.scope.kind = .function := by rfl) (hx : env.kindOf x = some .cell ∨ env.kindOf x = some .free := by first | exact .inl rfl | exact .inr rfl) (hb : (x == ("__debug__" : Str)) = false := by decide) (hn : (x == ("__classdict__" : Str)) = false := by decide) :
    wpAny (model PP w) A (eval (.Name x pos) env) Q E s := nm_c S hc hV (fun v' e => by rw [er_ref e]; exact h) hk hx hb hn
theorem sto_c {x : Str} {v : Value} {v₀ : Option Value} {Q : Unit → Shared → Prop} (S : SS G fs V s) (hc : env.cells.lookup x = some c) (hV : V c = some (.cell v₀)) (h : ∀ s', SS G fs (upd V c (.cell (some (er v)))) s' → Q () s')
    (hk : env.scope.kind = .function := by rfl) (hx : env.kindOf x = some .cell := by rfl) :
    wpAny (model PP w) A (storeName env x v) Q E s := by
  obtain ⟨v', hv, e⟩ := S.cel hV
  refine wpAny_storeName_cell hk hx hc hv fun h' hcl hs => h _ (S.chg (s' := { s with heap := h' }) hV rfl rfl (fun b o hb e => (hs.2 b hb).trans e) ?_)
  obtain ⟨o, e1, e2⟩ := hcl
  exact ⟨o, e1, _, e2, rfl⟩
end

section
variable {w : World} {G : Gd w} {f₀ : Addr × FK} {fs : Frs} {V : View} {s s' : Shared} {L a c P : Addr} {m : Loc} {ao : AObj} {A : Around} {E : Value → Shared → Prop} {env : Env} {pos : Pos} {q : Str}

theorem tab_inj (x y : Addr × Pos × Str) (hx : x ∈ tabL) (hy : y ∈ tabL) (h : x.1 = y.1) : x = y := by
  simp only [tabL, List.mem_cons, List.not_mem_nil, or_false] at hx hy
  rcases hx with rfl | rfl | rfl <;> rcases hy with rfl | rfl | rfl <;> first | rfl | exact absurd h (by decide)
/-- what is known of a filled table's code -/
theorem SS.learn {c' : Addr} {o : Obj} {vs : Array Value} {t : Tok} (S : SS G fs V s) (hc : s.heap.get? c' = some o) (hd : o.data = .fields vs) (hv : vs[1]? = some (.str q t)) (hC : CodeV V c') (hf : c' ∉ fs.map (·.1)) (hn : G.h.objs.size ≤ c') : SS G fs (upd V c' (.code q)) s where
  gens := S.gens
  os := S.os
  base := S.base
  frames := S.frames
  nodup := S.nodup
  see := fun b bo e => by
    by_cases h : b = c'
    · subst h; rw [upd_eq] at e; cases e; exact ⟨o, hc, vs, t, hd, hv⟩
    · rw [upd_ne h] at e; exact S.see b bo e
  high := fun b bo e => by
    by_cases h : b = c'
    · subst h; exact hn
    · rw [upd_ne h] at e; exact S.high b bo e
  apart := fun f hf' => by rw [upd_ne (fun h => hf (by rw [← h]; exact List.mem_map_of_mem (f := (·.1)) hf'))]; exact S.apart f hf'
  tabs := fun x hx => (S.tabs x hx).mono (fun _ e => e) fun c o e v f _ => ⟨e, fun ao h => by
    by_cases k : c = c'
    · subst k; rw [upd_eq] at h; cases h; exact ⟨q, rfl⟩
    · rw [upd_ne k] at h; exact v ao h, f⟩

/-- a table is filled -/
theorem SS.fill {c' : Addr} {o : Obj} {vs : Array Value} {t : Tok} (ht : (P, pos, q) ∈ tabL) (hP : G.h.get? P = none) (S : SS G fs V s) (hge : G.h.objs.size ≤ s.heap.objs.size) (hg : s'.gens = s.gens) (ho : s'.os = s.os) (hx : Heap.ExtBut P s.heap s'.heap) (hc' : s.heap.objs.size ≤ c')
    (hc : s'.heap.get? c' = some o) (hd : o.data = .fields vs) (hv : vs[1]? = some (.str q t)) (hT : s'.heap.get? P = some (tabObj #[rawInt pos.line, rawInt pos.col, .ref c'])) : SS G fs (upd V c' (.code q)) s' := by
  have lt := tab_lt _ ht
  have big := G.big
  have low : ∀ x, G.h.objs.size ≤ x → x ≠ P := fun x h e => by subst e; exact absurd (Nat.lt_of_lt_of_le (Nat.lt_of_lt_of_le lt big) h) (Nat.lt_irrefl _)
  have hcf : c' ∉ fs.map (·.1) := fun k => by
    obtain ⟨f, hf, e⟩ := List.mem_map.mp k
    have := (S.frames f hf).1.lt
    rw [e] at this
    exact absurd this (Nat.not_lt.mpr hc')
  exact {
    gens := hg.trans S.gens
    os := ho.trans S.os
    base := fun b o e => hx b o (fun k => by rw [k, hP] at e; cases e) (S.base b o e)
    frames := fun f hf => ⟨(S.frames f hf).1.same (fun o e => hx _ o (low _ (S.frames f hf).2) e), (S.frames f hf).2⟩
    nodup := S.nodup
    see := fun b bo e => by
      by_cases h : b = c'
      · subst h; rw [upd_eq] at e; cases e; exact ⟨o, hc, vs, t, hd, hv⟩
      · rw [upd_ne h] at e; exact (S.see b bo e).same (fun o e' => hx _ o (low _ (S.high b bo e)) e')
    high := fun b bo e => by
      by_cases h : b = c'
      · subst h; exact Nat.le_trans hge hc'
      · rw [upd_ne h] at e; exact S.high b bo e
    apart := fun f hf' => by rw [upd_ne (fun h => hcf (by rw [← h]; exact List.mem_map_of_mem (f := (·.1)) hf'))]; exact S.apart f hf'
    tabs := fun x hx' => by
      by_cases k : x.1 = P
      · have e : x = (P, pos, q) := tab_inj _ _ hx' ht k
        subst e
        exact .inr ⟨c', o, vs, t, hT, hc, hd, hv, fun ao h => by rw [upd_eq] at h; cases h; exact ⟨_, rfl⟩, hcf, Nat.le_trans hge hc'⟩
      · exact (S.tabs x hx').mono (fun o => hx _ o k) fun c o e v f hn => ⟨hx _ _ (low _ hn) e, fun ao h => by
          by_cases k : c = c'
          · subst k; rw [upd_eq] at h; cases h; exact ⟨_, rfl⟩
          · rw [upd_ne k] at h; exact v ao h, f⟩ }

theorem codeAmong_hit {cv : Value} (pos : Pos) : codeAmong pos #[rawInt pos.line, rawInt pos.col, cv].toList = some cv := by
  simp [codeAmong, rawInt]

/-- a def or a lambda made in a body -/
theorem mkfun {Q : Value → Shared → Prop} {name : Str} {params : Arguments} {body : List Stmt} {scope : Scope} {clos : List (Str × Addr)} {firstLine : Nat} (ht : (P, pos, q) ∈ tabL) (hP : G.h.get? P = none) (C : CodeHd G.h c P) (S : SS G (f₀ :: fs) V s)
    (hcl : closureFor scope env = pure clos) (hge0 : env.globals = mainGlobals) (hcode : env.code = .ref c)
    (h : ∀ c' f ctv doc pm s', V f = none → c' ≠ f → (∀ ao, V c' = some ao → ao = .code q) → SS G (f₀ :: fs) (upd (upd V c' (.code q)) f (.raw (fnMade name q params body scope clos doc pm c' ctv))) s' → Q (.ref f) s') :
    wpAny (model PP w) A (makeFunction name q params (.stmts body) scope env [] [] [] pos firstLine) Q E s := by
  have hgs := G.g.keeps S.base
  obtain ⟨bm, ob, b1, b2, b3, b4, b5, b6⟩ := G.bmain
  have hgP : mainGlobals ≠ P := fun k => by
    obtain ⟨o, es, ep, e, _⟩ := G.g
    rw [k, hP] at e; cases e
  have hbP : bm ≠ P := fun k => by rw [k, hP] at b3; cases b3
  have hbG : bm ≠ mainGlobals := fun k => by
    obtain ⟨o, es, ep, e, hd, _⟩ := G.g
    rw [k, e] at b3; cases b3; rw [hd] at b6; cases b6
  have hb : s.heap.BuiltinsAt G.mg P := ⟨bm, ob, b1, b2, hbG, hbP, S.base _ _ b3, b4, b5, b6⟩
  rcases S.tabs _ ht with hT | ⟨c', o, vs, t, hT, hc, hd, hv, hC, hf, hn⟩
  · refine makeFunction_K (mg := G.mg) hcl hge0 hgs hcode (C.keeps S.base) hT trivial rfl hgP hb fun c' ctv doc h' tk hx hge hlt hrec htb => ?_
    obtain ⟨c₂, oc, vs, t, e2, hoc, hd, hv⟩ := hrec
    cases e2
    have S1 : SS G (f₀ :: fs) (upd V c' (.code q)) { s with heap := h', toks := tk } := S.fill ht hP S.ge rfl rfl hx hge hoc hd hv (by simpa using htb)
    have hVf : V h'.objs.size = none := S.fresh (Nat.le_trans hge (Nat.le_of_lt hlt))
    refine h c' h'.objs.size ctv doc _ _ hVf (Nat.ne_of_lt hlt) (fun ao e => ?_) (S1.new (s' := { s with heap := h'.push _, toks := tk }) S1.ge (Nat.le_refl _) rfl rfl (fun b o e => Heap.get?_push_of_some _ e) ⟨_, Heap.get?_push_size _ rfl, rfl⟩)
    rw [S.fresh hge] at e; cases e
  · refine makeFunction_hit (mg := G.mg) hcl hge0 hgs hcode (C.keeps S.base) hT (by simp [TriplesOk, rawInt]) (codeAmong_hit pos) hb fun ctv doc h' tk hk hsz => ?_
    have S1 := S.learn hc hd hv hC hf hn
    have S2 : SS G (f₀ :: fs) (upd V c' (.code q)) { s with heap := h', toks := tk } := S1.grow rfl rfl hk
    refine h c' h'.objs.size ctv doc _ _ (S.fresh hsz) (Nat.ne_of_lt (Nat.lt_of_lt_of_le (Heap.lt_size hc) hsz)) (fun ao e => ?_) (S2.new (s' := { s with heap := h'.push _, toks := tk }) S2.ge (Nat.le_refl _) rfl rfl (fun b o e => Heap.get?_push_of_some _ e) ⟨_, Heap.get?_push_size _ rfl, rfl⟩)
    obtain ⟨q', rfl⟩ := hC ao e
    obtain ⟨o', ho', vs', t', hd', hv'⟩ := S.see c' _ e
    rw [hc] at ho'
    cases ho'
    rw [hd] at hd'
    cases hd'
    rw [hv] at hv'
    cases hv'
    rfl
end

section
variable {w : World} {G : Gd w} {f₀ : Addr × FK} {fs : Frs} {V : View} {s s' : Shared} {l L a b c P t : Addr} {m : Loc} {ao : AObj} {A : Around} {E : Value → Shared → Prop} {env : Env} {k : Nat} {Q : Value → Shared → Prop}

theorem fresh_ne {W : View} {a b : Addr} {o : AObj} (hb : W b = none) (ha : W a = some o) : a ≠ b := fun e => by rw [e, hb] at ha; cases ha
theorem upd_old {W : View} {a b : Addr} {o x : AObj} (hb : W b = none) (ha : W a = some o) : upd W b x a = some o := (upd_ne (fresh_ne hb ha)).trans ha
/-- a call of a def made in a body -/
theorem enterX {f c' : Addr} {vals : List Value} (binds : List (Str × Value)) {name q : Str} {params : Arguments} {body : List Stmt} {scope : Scope} {clos : List (Str × Addr)} {doc pm ctv : Value}
    (S : SS G (f₀ :: fs) V s) (hf : V f = some (.raw (fnMade name q params body scope clos doc pm c' ctv))) (hc : V c' = some (.code q)) (hroom : A.depth < recursionLimit)
    (hbind : BindsTo s (fnX name q params body scope clos .none .none doc pm none (.ref c') ctv) ⟨vals, []⟩ binds) (hloc : ∀ y ∈ binds, scope.names.lookup y.1 = some .local)
    (hcell : ∀ x ∈ scope.names, x.2 ≠ .cell) (hco : scope.isCoroutine = false) (hgen : scope.isGenerator = false) (hk : scope.kind = .function)
    (h : ∀ L s₁, SS G ((L, .loc (lvOf binds)) :: f₀ :: fs) V s₁ → wpAny (model PP w) (A.deeper (envX q scope L f (.ref c') clos)) (execs body (envX q scope L f (.ref c') clos))
      (fun fl s' => Q (rv fl) s') (fun _ _ => False) s₁) :
    wpAny (model PP w) A (call (.ref f) vals) Q E s := by
  obtain ⟨o, ho, e⟩ := S.see f _ hf
  have e : o = fnMade name q params body scope clos doc pm c' ctv := e
  subst e
  obtain ⟨oc, hoc, vs, tk, hd, hv⟩ := S.see c' _ hc
  refine wpAny_call ?_
  refine codeAny_call_def (fd := fnX name q params body scope clos .none .none doc pm none (.ref c') ctv) (body := body) (binds := binds) hroom ho rfl S.lim ⟨c', oc, vs, tk, rfl, hoc, hd, hv⟩ rfl hbind hcell hloc (fun h₁ hns hk₁ => ?_) hco hgen hk
  refine wpAny_mono (h s.heap.objs.size _ (S.push (s' := { s with heap := h₁, toks := s.toks + binds.length }) S.ge (Nat.le_refl _) rfl rfl hk₁ ⟨_, hns, lvOf_eq binds⟩)) (fun fl _ x => by cases fl <;> exact x) (fun _ _ x => x.elim)
theorem SS.fnAt {f c' : Addr} {name q : Str} {params : Arguments} {body : List Stmt} {scope : Scope} {clos : List (Str × Addr)} {doc pm ctv : Value} (S : SS G fs V s) (hf : V f = some (.raw (fnMade name q params body scope clos doc pm c' ctv))) : FnAt f s.heap := by
  obtain ⟨o, ho, e⟩ := S.see f _ hf
  have e : o = fnMade name q params body scope clos doc pm c' ctv := e
  subst e
  exact ⟨_, _, _, _, ho⟩

/-- the def statement in a body -/
theorem def_in {Q : Flow → Shared → Prop} {c : Addr} {pos : Pos} {q name : Str} {params : Arguments} {body : List Stmt} {scope : Scope} {clos : List (Str × Addr)} (ht : (P, pos, q) ∈ tabL) (hP : G.h.get? P = none) (C : CodeHd G.h c P) (S : SS G (f₀ :: fs) V s)
    (hcl : closureFor scope env = pure clos) (hge0 : env.globals = mainGlobals) (hcode : env.code = .ref c) (hq : qualnameIn env name name = q) (hd0 : params.defaults = []) (hk0 : params.kw_defaults = []) (ha : annTrees params none env = [])
    (h : ∀ c' f ctv doc pm s', V f = none → c' ≠ f → (∀ ao, V c' = some ao → ao = .code q) → SS G (f₀ :: fs) (upd (upd V c' (.code q)) f (.raw (fnMade name q params body scope clos doc pm c' ctv))) s' → wpAny (model PP w) A (storeName env name (.ref f)) (fun _ s'' => Q .next s'') E s') :
    wpAny (model PP w) A (exec (.FunctionDef name params body [] none [] scope none name pos) env) Q E s := by
  refine nestDef_K hd0 hk0 ha ?_
  rw [hq]
  exact mkfun ht hP C S hcl hge0 hcode h

/-- [..] * n -/
theorem mul_l {items : Array Value} {n : Nat} {x : Int} {u : Tok} (ho : s.heap.get? l = some (listOf items n)) (hlo : -(2 ^ 63 : Int) ≤ x) (hhi : x < 2 ^ 63) (hsz : items.size * x.toNat ≤ 2 ^ 24)
    (h : Q (.ref s.heap.objs.size) { s with heap := s.heap.push { cls := .type "list", data := .seq (List.foldl (fun x1 x2 => x1 ++ x2) #[] (List.replicate (if items.isEmpty = true then 0 else x.toNat) items)) } }) :
    wpAny (model PP w) A (binaryOp .Mult (.ref l) (.int x u)) Q E s :=
  wpAny_binaryOp_repeat_ref (T := "list") (U := "int") (by decide) ⟨_, ho, rfl⟩ (fun s' => typeIs_int s' x u) noFill_list_mul F.fills_int_mul F.slot_int_rmul repeat_list F.slot_int_index.lookup
    (call_meets F.slot_int_rmul (typeIs_int s x u) F.entry_int_rmul (F.args_int_rmul_2 _ _) (int___rmul___int_list x u l items n)
      ⟨ho, rfl, ⟨_, ho, rfl⟩, call_meets F.slot_list_mul ⟨_, ho, rfl⟩ F.entry_list_mul (F.args_list_mul_2 _ _)
        (AutoListH.list___mul___list_int_3 l items n x u (by simp [Builtin.List.listFitsIndex]; omega) (by omega) (by simp [Builtin.List.listTooLong, sizeLine]; omega)) ⟨ho, h⟩⟩)
theorem rep_one (v : Value) : ∀ n : Nat, List.foldl (fun x1 x2 : Array Value => x1 ++ x2) #[] (List.replicate n #[v]) = (List.replicate n v).toArray := by
  have aux : ∀ (n : Nat) (acc : Array Value), List.foldl (fun x1 x2 : Array Value => x1 ++ x2) acc (List.replicate n #[v]) = acc ++ (List.replicate n v).toArray := by
    intro n
    induction n with
    | zero => intro acc; simp
    | succ n ih =>
      intro acc
      rw [List.replicate_succ, List.foldl_cons, ih, List.replicate_succ]
      apply Array.toList_inj.mp
      rw [Array.toList_append, Array.toList_append, Array.toList_append, List.append_assoc]
      rfl
  intro n
  rw [aux]; simp
theorem ints_rep (i : Int) (t : Tok) : ∀ n : Nat, IntsAre (List.replicate n (.int i t)) (List.replicate n i)
  | 0 => .nil
  | n + 1 => by rw [List.replicate_succ, List.replicate_succ]; exact .cons i t (ints_rep i t n)
theorem mul_il {i x : Int} {u : Tok} (S : SS G (f₀ :: fs) V s) (hV : V l = some (.ilist [i])) (hlo : 0 ≤ x) (hhi : x < 1000000)
    (h : ∀ b s', V b = none → SS G (f₀ :: fs) (upd V b (.ilist (List.replicate x.toNat i))) s' → Q (.ref b) s') : wpAny (model PP w) A (binaryOp .Mult (.ref l) (.int x u)) Q E s := by
  obtain ⟨vs, n, ho, hi⟩ := S.il hV
  obtain ⟨tk, vs', e, hr⟩ := IntsAre.cons_inv hi
  have e2 := IntsAre.nil_inv hr
  subst e2
  obtain ⟨vl⟩ := vs
  simp only at e
  subst e
  refine mul_l ho (by omega) (by omega) (by simp; omega) (h _ _ (S.fresh (Nat.le_refl _)) (S.new S.ge (Nat.le_refl _) rfl rfl (fun b o e => Heap.get?_push_of_some _ e) ⟨_, Heap.get?_push_size _ rfl, _, _, rfl, ?_⟩))
  rw [show (if Array.isEmpty #[Value.int i tk] = true then 0 else x.toNat) = x.toNat from if_neg (by simp), rep_one]
  exact ints_rep i tk _

/-- divmod of two ints -/
theorem dm_i {x y : Int} {t u : Tok} (S : SS G (f₀ :: fs) V s) (hb : y ≠ 0) (hb2 : y.natAbs < 1073741824) (h : ∀ b s', V b = none → SS G (f₀ :: fs) (upd V b (.itup [x.fdiv y, x.fmod y])) s' → Q (.ref b) s') :
    wpAny (model PP w) A (call (.builtin "divmod") [.int x t, .int y u]) Q E s :=
  divmod_int hb (h _ _ (S.fresh (Nat.le_refl _)) (S.new (s' := { s with toks := s.toks + 1 + 1, heap := s.heap.push _ }) S.ge (Nat.le_refl _) rfl rfl (fun b o e => Heap.get?_push_of_some _ e) ⟨_, Heap.get?_push_size _ rfl, _, _, rfl, .cons _ _ (.cons _ _ .nil)⟩)) (Or.inl (PyProof.noPylong_small hb2))

/-- the ends of displays -/
theorem tup_done {vs : List Value} {ns : List Int} (S : SS G (f₀ :: fs) V s) (hI : IntsAre vs ns) (hl : ns.length < 1000000) (h : ∀ b s', V b = none → SS G (f₀ :: fs) (upd V b (.itup ns)) s' → Q (.ref b) s') :
    vs.length ≤ sizeLine ∧ Q (.ref s.heap.objs.size) { s with heap := s.heap.push { cls := .type "tuple", data := .seq vs.toArray } } :=
  ⟨by rw [hI.length]; show ns.length ≤ 2 ^ 24; omega, h _ _ (S.fresh (Nat.le_refl _)) (S.new S.ge (Nat.le_refl _) rfl rfl (fun b o e => Heap.get?_push_of_some _ e) ⟨_, Heap.get?_push_size _ rfl, vs.toArray, 0, rfl, hI⟩)⟩
theorem ils_done {vs : List Value} {ns : List Int} (S : SS G (f₀ :: fs) V s) (hI : IntsAre vs ns) (hl : ns.length < 1000000) (h : ∀ b s', V b = none → SS G (f₀ :: fs) (upd V b (.ilist ns)) s' → Q (.ref b) s') :
    vs.length ≤ sizeLine ∧ Q (.ref s.heap.objs.size) { s with heap := s.heap.push { cls := .type "list", data := .seq vs.toArray } } :=
  ⟨by rw [hI.length]; show ns.length ≤ 2 ^ 24; omega, h _ _ (S.fresh (Nat.le_refl _)) (S.new S.ge (Nat.le_refl _) rfl rfl (fun b o e => Heap.get?_push_of_some _ e) ⟨_, Heap.get?_push_size _ rfl, vs.toArray, 0, rfl, hI⟩)⟩
theorem rls_done {as : List Addr} (S : SS G (f₀ :: fs) V s) (hl : as.length < 1000000) (h : ∀ b s', V b = none → SS G (f₀ :: fs) (upd V b (.rlist as)) s' → Q (.ref b) s') :
    (as.map Value.ref).length ≤ sizeLine ∧ Q (.ref s.heap.objs.size) { s with heap := s.heap.push { cls := .type "list", data := .seq (as.map Value.ref).toArray } } :=
  ⟨by rw [List.length_map]; show as.length ≤ 2 ^ 24; omega, h _ _ (S.fresh (Nat.le_refl _)) (S.new S.ge (Nat.le_refl _) rfl rfl (fun b o e => Heap.get?_push_of_some _ e) ⟨_, Heap.get?_push_size _ rfl, 0, rfl⟩)⟩

/-- a tuple unpacked into names -/
theorem asg2 {Q : Unit → Shared → Prop} {x y : Str} {px py pos : Pos} {kk : Nat} {i j : Int} (r : Rm A k) (S : SS G (f₀ :: fs) V s) (hV : V t = some (.itup [i, j]))
    (h : ∀ u v s', SS G (f₀ :: fs) V s' → wpAny (model PP w) A (assign (.Name x px) env (.int i u)) (fun _ s₂ => wpAny (model PP w) A (assign (.Name y py) env (.int j v)) Q E s₂) E s') :
    wpAny (model PP w) A (assign (.Tuple [.Name x px, .Name y py] kk pos) env (.ref t)) Q E s := by
  obtain ⟨vs, n, ho, hi⟩ := S.it hV
  obtain ⟨u, v, rfl⟩ := two_ints hi
  refine wpAny_assign_Tuple r.h ⟨_, ho, rfl, n, rfl⟩ rfl rfl fun h' he => ?_
  have S' : SS G (f₀ :: fs) V { s with heap := h' } := S.grow rfl rfl fun b o e => he b o (Nat.ne_of_lt (Heap.lt_size e)) e
  show wpAny _ _ (do holding [.int j v] (assign (.Name x px) env (.int i u)); do holding [] (assign (.Name y py) env (.int j v)); pure ()) _ _ _
  refine wpAny_bind (wpAny_holding (wpAny_mono (h u v _ S') (fun _ s₂ h₂ => ?_) fun _ _ x => x))
  exact wpAny_bind (wpAny_holding (wpAny_mono h₂ (fun _ _ x => wpAny_pure x) fun _ _ x => x))
theorem bl_i {x : Int} {t : Tok} (S : SS G fs V s) (h : ∀ t s', SS G fs V s' → Q (.int (Builtin.Int.intBits x) t) s') : wpAny (model PP w) A (call (.builtin "int.bit_length") [.int x t]) Q E s := call_int_bit_length (h _ _ (S.tok _))
end

section
variable {w : World} {A : Around}
theorem walks_rv (hh : A.handled = none) (I l : Addr) (hne : l ≠ I) (ns : List Int) :
    Walks PP w A I [I, l] [I] ns.length (fun i v => ∃ t, v = .int (ns.getD (ns.length - 1 - i) 0) t) (fun i h => i ≤ ns.length ∧ h.IsRevIter I l ((ns.length : Int) - 1 - (i : Int)) ∧ (AObj.ilist ns).At w h l) where
  sub := fun b hb => by simp at hb; simp [hb]
  frame := fun _ _ _ st hk => ⟨st.1, st.2.1.at fun o e => hk I (by simp) o e, st.2.2.same fun o e => hk l (by simp) o e⟩
  item := fun i s Q E hi st hQ => by
    obtain ⟨vs, hl, hI, hz⟩ := isList_ilist st.2.2
    have e : (ns.length : Int) - 1 - (i : Int) = ((ns.length - 1 - i : Nat) : Int) := by omega
    have hit := st.2.1
    rw [e] at hit
    have hlt : ns.length - 1 - i < vs.size := by omega
    refine wpAny_pyNext_rev_item hit hl (x := vs[ns.length - 1 - i]) (by simp [hlt]) fun h' hit' hs' => ?_
    have e2 : ((ns.length - 1 - i : Nat) : Int) - 1 = (ns.length : Int) - 1 - ((i + 1 : Nat) : Int) := by omega
    rw [e2] at hit'
    exact hQ _ h' s.toks (hI.int_at _ _ (by simp [hlt])) ⟨hi, hit', st.2.2.same fun o e => hs'.extBut l o hne e⟩ fun b o hb e => hs'.extBut b o (fun h => hb (by simp [h])) e
  done := fun s Q E st hQ => by
    have e : (ns.length : Int) - 1 - (ns.length : Int) = -1 := by omega
    have hit := st.2.1
    rw [e] at hit
    exact wpAny_pyNext_rev_end hh hit fun h' he' => hQ h' s.toks fun b o hb e => he' b o (fun h => hb (by simp [h])) e
  self := fun _ _ _ _ st hQ => wpAny_pyIter_revIter st.2.1 hQ
end
section
variable {w : World} {G : Gd w} {f₀ : Addr × FK} {fs : Frs} {V V' : View} {s s' : Shared} {l a b L I : Addr} {m : Loc} {ao : AObj} {A : Around} {E : Value → Shared → Prop} {env : Env} {k : Nat} {x : Str} {px : Pos} {body orelse : List Stmt}
theorem SS.forget (S : SS G fs (upd V b ao) s) (hb : V b = none) : SS G fs V s := S.weak fun a ao ha => upd_old hb ha
/-- reversed(a list of ints), for a for -/
theorem rev_il {g : Addr × FK} {ns : List Int} {Q : Value → Shared → Prop} (S : SS G (g :: fs) V s) (hV : V l = some (.ilist ns))
    (h : ∀ I s', s'.heap.IsRevIter I l ((ns.length : Int) - 1) → SS G (g :: (I, .obj (.fld "list_reverseiterator" #[.ref l, .int ((ns.length : Int) - 1) 0])) :: fs) V s' → Q (.ref I) s') :
    wpAny (model PP w) A (call (.type "reversed") [.ref l]) Q E s := by
  obtain ⟨vs, n, ho, hi⟩ := S.il hV
  have hl := hi.length
  rw [Array.length_toList] at hl
  refine call_reversed_list (isList_of ho) ?_
  rw [hl]
  exact h _ _ ⟨_, Heap.get?_push_size _ rfl, rfl, rfl⟩ (S.pinNew (Nat.le_refl _) rfl rfl (fun b o e => Heap.get?_push_of_some _ e) ⟨_, Heap.get?_push_size _ rfl, rfl, rfl⟩)
theorem for_rv {ns : List Int} {Q : Flow → Shared → Prop} (r : Rm A k) (S : SS G ((L, .loc m) :: (I, .obj (.fld "list_reverseiterator" #[.ref l, .int ((ns.length : Int) - 1) 0])) :: fs) V s) (hV : V l = some (.ilist ns)) (J : Nat → Loc → View → Prop) (h0 : J 0 m V) (hJ : ∀ i m V, J i m V → V l = some (.ilist ns))
    (turn : ∀ i m V t it s, i < ns.length → J i m V → SS G ((L, .loc m) :: it :: fs) V s →
      wpAny (model PP w) A (assign (.Name x px) env (.int (ns.getD (ns.length - 1 - i) 0) t)) (fun _ s₂ => wpAny (model PP w) A (execs body env) (fun f s₃ => match f with
        | .next | .cont => ∃ m' V', J (i + 1) m' V' ∧ SS G ((L, .loc m') :: it :: fs) V' s₃
        | .brk => Q .next s₃
        | .ret v => Q (.ret v) s₃) (fun _ _ => False) s₂) (fun _ _ => False) s)
    (fin : ∀ m V s, J ns.length m V → SS G ((L, .loc m) :: fs) V s → wpAny (model PP w) A (execs orelse env) Q (fun _ _ => False) s) :
    codeAny (model PP w) A (.forLoop (.Name x px) (.ref I) body orelse env) (fun r s' => match r with | .ok f => Q f s' | .error e => cameBackBy (model PP w) A env E e s') s := by
  have hne : l ≠ I := fun e => by have := S.apart _ (.tail _ (.head _)); simp only at this; rw [← e, hV] at this; cases this
  exact for_gen (walks_rv r.h I l hne ns) (fun i => .fld "list_reverseiterator" #[.ref l, .int ((ns.length : Int) - 1 - (i : Nat)) 0]) J (fun i m V s' hi hj S' => ⟨hi, (S'.frames _ (.tail _ (.head _))).1, S'.see l _ (hJ i m V hj)⟩) (fun i h hs => hs.2.1) (fun i v s Q _ h => go_name h)
    (by simpa using S) h0 (fun i m V v s' hi' hP hj S' => by obtain ⟨t, rfl⟩ := hP; exact turn i m V t _ s' hi' hj S') (fun m V s' hj S' => fin m V s' hj S')
/-- the method reverse -/
theorem turn_il {ns : List Int} {Q : Value → Shared → Prop} (S : SS G fs V s) (hV : V l = some (.ilist ns)) (hb : ns.length < 1000000) (h : ∀ s', SS G fs (upd V l (.ilist ns.reverse)) s' → Q .none s') :
    wpAny (model PP w) A (call (.builtin "list.reverse") [.ref l]) Q E s := by
  obtain ⟨vs, n', ho, hi⟩ := S.il hV
  have hl := hi.length
  rw [Array.length_toList] at hl
  refine call_meets PySem.F.slot_list_reverse ⟨_, ho, rfl⟩ PySem.F.entry_list_reverse (PySem.F.args_list_reverse_1 _) (PySem.AutoSeq1.list_reverse_list_0 l vs n' (by show vs.size ≤ 2 ^ 24; omega)) ⟨ho, h _ (S.lupd hV ho _ fun n'' => ⟨_, n'', rfl, ?_⟩)⟩
  rw [Array.toList_reverse]
  exact hi.reverse
end

section
variable {w : World} {G : Gd w} {f₀ : Addr × FK} {fs : Frs} {V V' : View} {s s' : Shared} {l a b L I : Addr} {m : Loc} {ao : AObj} {A : Around} {E : Value → Shared → Prop} {env : Env} {k : Nat} {Q : Value → Shared → Prop} {ns : List Int}
theorem ep_some {e : Expr} (h : wpAny (model PP w) A (eval e env) Q E s) : wpAny (model PP w) A (evalPart (some e) env) Q E s := h
theorem ep_none (h : Q .none s) : wpAny (model PP w) A (evalPart none env) Q E s := wpAny_pure h
/-- a slice of a list of ints -/
theorem sli_il {value slice : Expr} {vl vu vk : Value} {lo hi st : Option Int} {ops : List Value} (S : SS G (f₀ :: fs) V s) (hV : V l = some (.ilist ns)) (pl : IsPart vl lo) (pu : IsPart vu hi) (pk : IsPart vk st) (h0 : st ≠ some 0) (hb : ns.length < 1000000)
    (h : ∀ b s', V b = none → SS G (f₀ :: fs) (upd V b (.ilist (pickNums ns lo hi st))) s' → Q (.ref b) s')
    (hs : subscripted slice false (.ref l) (.ref s.heap.objs.size) = operate ops (getItem (.ref l) (.ref s.heap.objs.size)) := by with_unfolding_all rfl) :
    wpAny (model PP w) A (subscriptTail value slice (.ref l) (.ref s.heap.objs.size)) Q E { s with heap := s.heap.push { cls := .type "slice", data := .fields #[vl, vu, vk] } } := by
  obtain ⟨vs, n, ho, hi'⟩ := S.il hV
  have hl := hi'.length
  rw [Array.length_toList] at hl
  have S' : SS G (f₀ :: fs) V { s with heap := s.heap.push { cls := .type "slice", data := .fields #[vl, vu, vk] } } := S.grow rfl rfl fun b o e => Heap.get?_push_of_some _ e
  have ho' : (s.heap.push { cls := .type "slice", data := .fields #[vl, vu, vk] }).get? l = some (listOf vs n) := Heap.get?_push_of_some _ ho
  refine tail_any ⟨_, ho', rfl⟩ slot_list_getitem.lookup (wpAny_getItem_list_slice (isList_of ho') (Heap.IsSliceOf.new ..) pl pu pk h0 (h _ _ (S'.fresh (Nat.le_refl _)) (S'.new S'.ge (Nat.le_refl _) rfl rfl (fun b o e => Heap.get?_push_of_some _ e) ⟨_, Heap.get?_push_size _ rfl, _, 0, rfl, ?_⟩)) (by show vs.size ≤ 2 ^ 24; omega)) hs
  have := hi'.pick lo hi st
  rwa [show vs.toList.toArray = vs from Array.toArray_toList] at this

theorem preSum_at (ns : List Int) : ∀ n, n ≤ ns.length → preSum (fun i => ns.getD i 0) n = (ns.take n).sum
  | 0, _ => rfl
  | n + 1, h => by
    rw [preSum, preSum_at ns n (by omega), List.take_succ, List.sum_append]
    simp [List.getD, show n < ns.length from by omega]
theorem sum_il (r : Rm A (k + 1)) (S : SS G (f₀ :: fs) V s) (hV : V l = some (.ilist ns)) (h : ∀ t s', SS G (f₀ :: fs) V s' → Q (.int ns.sum t) s') : wpAny (model PP w) A (call (.builtin "sum") [.ref l]) Q E s := by
  obtain ⟨vs, n, ho, hi⟩ := S.il hV
  have hne : l ≠ s.heap.objs.size := Nat.ne_of_lt (Heap.lt_size ho)
  refine call_sum_walkG (wpAny_pyIter_list (isList_of ho) ⟨s.heap.objs.size, _, _, _, _, _, fun i => ns.getD i 0, rfl, walks_il r.in1.h s.heap.objs.size l hne ns, ?_, ?_, ?_, ?_⟩)
  · exact ⟨⟨_, Heap.get?_push_size _ rfl, rfl, rfl⟩, (S.see l _ hV).same fun o e => Heap.get?_push_of_some _ e⟩
  · intro b hb
    rw [Heap.size_push]
    simp only [List.mem_cons, List.not_mem_nil, or_false] at hb
    rcases hb with rfl | rfl
    · exact Nat.lt_succ_self _
    · exact Nat.lt_succ_of_lt (Heap.lt_size ho)
  · intro i v hv; exact hv
  · intro h' tk t' hk
    rw [preSum_at ns _ (Nat.le_refl _), List.take_length]
    refine h _ _ (S.grow rfl rfl fun b o e => hk b o ?_ (Heap.get?_push_of_some _ e))
    simp only [List.mem_cons, List.not_mem_nil, or_false]
    exact Nat.ne_of_lt (Heap.lt_size e)
theorem nin_il {x : Int} {t : Tok} (S : SS G fs V s) (hV : V l = some (.ilist ns)) (h : Q (.bool (!(ns.any (· == x)))) s) : wpAny (model PP w) A (compareOp .NotIn (.int x t) (.ref l)) Q E s := by
  obtain ⟨vs, n, ho, hi⟩ := S.il hV
  exact notin_list_ints (vs := vs.toList) (by rw [Array.toArray_toList]; exact isList_of ho) hi h
theorem srt_il (S : SS G (f₀ :: fs) V s) (hV : V l = some (.ilist ns)) (hb : ns.length < 64) (h : ∀ b s' ns', V b = none → ns'.Perm ns → ns'.Pairwise (· ≤ ·) → SS G (f₀ :: fs) (upd V b (.ilist ns')) s' → Q (.ref b) s') : wpAny (model PP w) A (call (.builtin "sorted") [.ref l]) Q E s := by
  obtain ⟨vs, n, ho, hi⟩ := S.il hV
  have hl := hi.length
  refine sorted_ints (vs := vs.toList) (by rw [Array.toArray_toList]; exact isList_of ho) hi (by omega) fun out ns' a1 a2 a3 => ?_
  obtain ⟨e, he⟩ := sortedAll_at s.heap vs.toList out
  exact h _ _ ns' (S.fresh (Nat.le_succ _)) a2 a3 (S.new S.ge (Nat.le_succ _) rfl rfl (fun b o e => sortedAll_old e) ⟨_, he, _, _, rfl, a1⟩)
end

section
variable {w : World} {G : Gd w} {f₀ : Addr × FK} {fs : Frs} {V V' : View} {s s' : Shared} {l a b L I x dx C : Addr} {m : Loc} {ao : AObj} {A : Around} {E : Value → Shared → Prop} {env : Env} {k : Nat} {name : Str}

/-- all that lives, but two -/
noncomputable def restOf (h : Heap) (L x : Addr) : List (Addr × Obj) := (List.range h.objs.size).filterMap fun b => if b = L ∨ b = x then none else (h.get? b).map fun o => (b, o)
theorem mem_rest {h : Heap} {p : Addr × Obj} : p ∈ restOf h L x ↔ p.1 ≠ L ∧ p.1 ≠ x ∧ h.get? p.1 = some p.2 := by
  unfold restOf
  rw [List.mem_filterMap]
  constructor
  · rintro ⟨b, hb, e⟩
    split at e
    · cases e
    · rename_i hn
      obtain ⟨o, ho, rfl⟩ := Option.map_eq_some_iff.mp e
      exact ⟨fun e => hn (.inl e), fun e => hn (.inr e), ho⟩
  · rintro ⟨h1, h2, h3⟩
    refine ⟨p.1, List.mem_range.mpr (Heap.lt_size h3), ?_⟩
    rw [if_neg (by rintro (e | e); exact h1 e; exact h2 e), h3]
    rfl
/-- one object of the view is changed by a rule of the kit's that speaks of frames and news -/
theorem SS.viaK {ao₀ : AObj} {ox : Obj} (S : SS G ((L, .loc m) :: fs) V s) (hV : V x = some ao₀) (hox : s.heap.get? x = some ox) (hnc : ∀ q, ao₀ ≠ .code q := by intro _; nofun) :
    ∃ m' post, Fr {} L s.heap m' ∧ News {} L s.heap ([] ++ (x, ox) :: post) ∧ (∀ p ∈ post, p.1 ≠ x) ∧
      ∀ ox' ao s', s'.gens = s.gens → s'.os = s.os → Fr {} L s'.heap m' → News {} L s'.heap ([] ++ (x, ox') :: post) → ao.Is w ox' → SS G ((L, .loc m) :: fs) (upd V x ao) s' := by
  obtain ⟨m', hns, hm'⟩ := (S.frames _ (.head _)).1
  have hxL : x ≠ L := fun e => by have := S.apart _ (.head _); simp only at this; rw [← e, hV] at this; cases this
  refine ⟨m', restOf s.heap L x, ⟨hns, (fun b o e => by cases e), Nat.zero_le _⟩, ?_, fun p hp => (mem_rest.mp hp).2.1, ?_⟩
  · intro p hp
    rcases List.mem_cons.mp hp with rfl | hp
    · exact ⟨hox, hxL, rfl⟩
    · exact ⟨(mem_rest.mp hp).2.2, (mem_rest.mp hp).1, rfl⟩
  · intro ox' ao s' hg ho F' N' hi
    have hx' := (N' (x, ox') (.head _)).1
    have hfr : ox'.isFreed = false := (Heap.get?_some_iff.mp hx').2
    have S1 : SS G ((L, .loc m) :: fs) (upd V x ao) { s with heap := s.heap.update x (fun _ => ox') } :=
      S.chg hV rfl rfl (fun c o hc e => (Heap.get?_update_ne _ _ _ _ hc).trans e) ⟨_, Heap.get?_update_self (fun _ => ox') hox hfr, hi⟩ hnc
    refine S1.fr hg ho (fun b o hb e => ?_) ⟨m', F'.ns, hm'⟩
    by_cases q : b = x
    · subst q
      rw [show (s.heap.update b fun _ => ox').get? b = some ox' from Heap.get?_update_self (fun _ => ox') hox hfr] at e
      cases e; exact hx'
    · have e' : s.heap.get? b = some o := (Heap.get?_update_ne _ _ _ _ q).symm.trans e
      exact (N' (b, o) (.tail _ (mem_rest.mpr ⟨hb, q, e'⟩))).1

/-- attributes by name -/
noncomputable def getA (name : Str) : List (Str × Value) → Option Value
  | [] => none
  | p :: l => if p.1 = name then some p.2 else getA name l
noncomputable def putA (name : Str) (v : Value) : List (Str × Value) → List (Str × Value)
  | [] => [(name, v)]
  | p :: l => if p.1 = name then (name, v) :: l else p :: putA name v l
noncomputable abbrev Atts (es : List DictEntry) (l : List (Str × Value)) : Prop := es.map (fun e => (er e.key, er e.val)) = l.map (fun p => (Value.str p.1 0, p.2))
theorem er_str {v : Value} {x : Str} (h : er v = .str x 0) : ∃ t, v = .str x t := by
  cases v <;> simp [er] at h
  exact ⟨_, by rw [h]⟩
theorem isStr_str {x y : Str} {t : Tok} : (Value.str x t).isStr y = decide (x = y) := by
  by_cases h : x = y
  · subst h; simp [Value.isStr]
  · simp [Value.isStr, h]
theorem Atts.get : ∀ {es : List DictEntry} {l : List (Str × Value)}, Atts es l → ∀ name, ∃ r, getL name es = some r ∧ r.map er = getA name l := by
  have aux : ∀ {es : List DictEntry} {l : List (Str × Value)}, Atts es l → es.any (·.refKey) = false := by
    intro es
    induction es with
    | nil => intro l _; rfl
    | cons e es ih =>
      intro l h
      cases l with
      | nil => simp [Atts] at h
      | cons p l =>
        simp only [Atts, List.map_cons, List.cons.injEq, Prod.mk.injEq] at h
        obtain ⟨t, ht⟩ := er_str h.1.1
        rw [List.any_cons, ih h.2, Bool.or_false]
        unfold DictEntry.refKey
        rw [ht]
  intro es l h name
  have hr := aux h
  unfold getL
  rw [hr]
  suffices h' : (es.find? (·.key.isStr name)).map (fun e => er e.val) = getA name l by
    cases hf : es.find? (·.key.isStr name) with
    | none => rw [hf] at h'; exact ⟨none, rfl, h'⟩
    | some e => rw [hf] at h'; exact ⟨some e.val, rfl, h'⟩
  clear hr
  induction es generalizing l with
  | nil =>
    cases l with
    | nil => rfl
    | cons p l => simp [Atts] at h
  | cons e es ih =>
    cases l with
    | nil => simp [Atts] at h
    | cons p l =>
      simp only [Atts, List.map_cons, List.cons.injEq, Prod.mk.injEq] at h
      obtain ⟨t, ht⟩ := er_str h.1.1
      rw [List.find?_cons, ht, isStr_str, getA]
      by_cases hn : p.1 = name
      · rw [decide_eq_true hn, if_pos hn, Option.map_some, h.1.2]
      · rw [decide_eq_false hn, if_neg hn]
        exact ih h.2
theorem Atts.put {hs : Int} {t : Tok} {v : Value} : ∀ {es : List DictEntry} {l : List (Str × Value)}, Atts es l → Atts (putL name hs (.str name t) v es) (putA name (er v) l) := by
  intro es
  induction es with
  | nil =>
    intro l h
    cases l with
    | nil => rfl
    | cons p l => simp [Atts] at h
  | cons e es ih =>
    intro l h
    cases l with
    | nil => simp [Atts] at h
    | cons p l =>
      simp only [Atts, List.map_cons, List.cons.injEq, Prod.mk.injEq] at h
      obtain ⟨t, ht⟩ := er_str h.1.1
      rw [putL, putA, ht, isStr_str]
      by_cases hn : p.1 = name
      · rw [if_pos (decide_eq_true hn), if_pos hn]
        simp only [Atts, List.map_cons, List.cons.injEq, Prod.mk.injEq]
        exact ⟨⟨by rw [← hn]; rfl, by trivial⟩, h.2⟩
      · rw [if_neg (by rw [decide_eq_true_eq]; exact hn), if_neg hn]
        simp only [Atts, List.map_cons, List.cons.injEq, Prod.mk.injEq]
        exact ⟨⟨by rw [ht]; rfl, h.1.2⟩, ih h.2⟩
theorem putL_len {hs : Int} {kv v : Value} : ∀ {es : List DictEntry}, (putL name hs kv v es).length ≤ es.length + 1
  | [] => Nat.le_refl _
  | e :: es => by
    rw [putL]
    split
    · exact Nat.le_succ _
    · exact Nat.succ_le_succ putL_len

theorem SS.inst {sl : List (Option Value)} {at' : List (Str × Value)} (S : SS G fs V s) (hx : V x = some (.ins C dx sl)) (hd : V dx = some (.atd at')) :
    ∃ sl' es n, s.heap.get? x = some ⟨.ref C, some dx, .plain, sl'⟩ ∧ sl'.toList.map (Option.map er) = sl ∧ s.heap.get? dx = some (dictOf es n) ∧ Atts es at' ∧ W.InstAt s.heap x ⟨.ref C, some dx, .plain, sl'⟩ C (some (dictOf es n)) := by
  obtain ⟨o, ho, sl', rfl, h1⟩ := S.see x _ hx
  obtain ⟨od, hod, es, n, rfl, h2⟩ := S.see dx _ hd
  exact ⟨sl', es, n, ho, h1, hod, h2, ho, rfl, rfl, hod⟩

theorem handed_er {v ev : Value} (h : er v = ev) (he : handedIn ev = true) : handedIn v = true := by
  cases v <;> first | rfl | (subst h; exact he)
/-- an attribute of the instance's own dict -/
theorem ga {expr : Bool} {Q : Value → Shared → Prop} {sl : List (Option Value)} {at' : List (Str × Value)} {attr : Option Value} {ev : Value} (S : SS G fs V s) (hx : V x = some (.ins C dx sl)) (hd' : V dx = some (.atd at'))
    (hg : plainGet (hd.heap_39 w.params) C name = true) (hh : hasDictIn (hd.heap_39 w.params) C = true) (ha : findIn (hd.heap_39 w.params) (.ref C) name = some attr) (hn : noGet (hd.heap_39 w.params) attr = true)
    (hl : getA name at' = some ev) (he : handedIn ev = true) (h : ∀ v s', er v = ev → SS G fs V s' → Q v s') : wpAny (model PP w) A (getAttr (.ref x) name expr) Q E s := by
  obtain ⟨sl', es, n, ho, h1, hod, h2, I⟩ := S.inst hx hd'
  obtain ⟨r, hr, er'⟩ := h2.get name
  rw [hl] at er'
  obtain ⟨v, rfl, hv⟩ := Option.map_eq_some_iff.mp er'
  exact get_value S.K I (plainGet_of hg).1 (findObj_own hh ha hn hr) (handed_er hv he) (h v _ hv (S.tok _))
/-- an attribute stored in the instance's own dict -/
theorem sa {Q : Unit → Shared → Prop} {sl : List (Option Value)} {at' : List (Str × Value)} {v : Value} (S : SS G ((L, .loc m) :: fs) V s) (hx : V x = some (.ins C dx sl)) (hd' : V dx = some (.atd at'))
    (hs : findIn (hd.heap_39 w.params) (.ref C) "__setattr__" = some (some (.builtin "object.__setattr__"))) (hp : plainOver (hd.heap_39 w.params) C = true) (ht : takerIn (hd.heap_39 w.params) C name = some none) (hh : hasDictIn (hd.heap_39 w.params) C = true) (hz : at'.length < 100)
    (h : ∀ s', SS G ((L, .loc m) :: fs) (upd V dx (.atd (putA name (er v) at'))) s' → Q () s') : wpAny (model PP w) A (setAttr (.ref x) name v) Q E s := by
  obtain ⟨sl', es, n, ho, h1, hod, h2, I⟩ := S.inst hx hd'
  obtain ⟨r, hr, er'⟩ := h2.get name
  obtain ⟨m', post, F, N, hpost, fin⟩ := S.viaK hd' hod
  have hlen : es.length = at'.length := by have := congrArg List.length h2; simpa using this
  refine set_plain S.K I hs (osa_dict (s := { s with toks := s.toks + 1 }) F N S.K I rfl hp ht hh (by rw [lookIn_dict, hr]; rfl) (fun _ h => nomatch h) hpost (putName_dict _ _ _ _ _ _) rfl (Nat.le_trans putL_len (by omega)) fun h' F' N' => h _ (fin _ _ _ rfl rfl F' N' ⟨_, _, rfl, h2.put⟩))
/-- a method of the class -/
theorem ma {pl : Sem Bool} {Q : Value × List Value → Shared → Prop} {sl : List (Option Value)} {at' : List (Str × Value)} {f : Addr} (S : SS G fs V s) (hx : V x = some (.ins C dx sl)) (hd' : V dx = some (.atd at'))
    (hg : plainGet (hd.heap_39 w.params) C name = true) (hf : findIn (hd.heap_39 w.params) (.ref C) name = some (some (.ref f))) (ht : isFn (hd.heap_39 w.params) (.ref f) = true) (hl : getA name at' = none)
    (h : Q (.ref f, [.ref x]) s) : wpAny (model PP w) A (getMethod (.ref x) name pl) Q E s := by
  obtain ⟨sl', es, n, ho, h1, hod, h2, I⟩ := S.inst hx hd'
  obtain ⟨r, hr, er'⟩ := h2.get name
  rw [hl] at er'
  have : r = none := by cases r with | none => rfl | some _ => cases er'
  subst this
  exact method_fn S.K I (plainGet_of hg).1 (plainGet_of hg).2 hf (beq_iff_eq.mp ht) (by show (lookIn name (dictOf es n)).map _ = _; rw [lookIn_dict, hr]; rfl) h
/-- a slot -/
theorem gs {expr : Bool} {Q : Value → Shared → Prop} {sl : List (Option Value)} {at' : List (Str × Value)} {p : Addr} {i : Nat} {ev : Value} (S : SS G fs V s) (hx : V x = some (.ins C dx sl)) (hd' : V dx = some (.atd at'))
    (hg : plainGet (hd.heap_39 w.params) C name = true) (hc : isClsIn (hd.heap_39 w.params) C = true) (ha : findIn (hd.heap_39 w.params) (.ref C) name = some (some (.ref p)))
    (hn : specialIn (hd.heap_39 w.params) (.ref p) "__get__" = some (some (.builtin "member_descriptor.__get__"))) (ht : takesIn (hd.heap_39 w.params) (.ref p) = some true) (hp : slotIn (hd.heap_39 w.params) p C = some i)
    (hl : sl[i]? = some (some ev)) (he : handedIn ev = true) (h : ∀ v s', er v = ev → SS G fs V s' → Q v s') : wpAny (model PP w) A (getAttr (.ref x) name expr) Q E s := by
  obtain ⟨sl', es, n, ho, h1, hod, h2, I⟩ := S.inst hx hd'
  rw [← h1, List.getElem?_map] at hl
  obtain ⟨o, ho', e⟩ := Option.map_eq_some_iff.mp hl
  obtain ⟨v, rfl, hv⟩ := Option.map_eq_some_iff.mp e
  exact get_bind S.K I (plainGet_of hg).1 (findObj_data hc ha hn ht) (plainGet_of hg).2 (wpAny_call (slot_get (s := { s with toks := s.toks + 1 }) (SS.K (s := { s with toks := s.toks + 1 }) (S.tok _)) I hp (v := v) (by
    show (sl'[i]?).join = some v
    rw [← Array.getElem?_toList, ho']; rfl) (handed_on (handed_er hv he) (h v _ hv (S.tok _)))))
theorem ss {Q : Unit → Shared → Prop} {sl : List (Option Value)} {at' : List (Str × Value)} {p : Addr} {i : Nat} {v : Value} (S : SS G ((L, .loc m) :: fs) V s) (hx : V x = some (.ins C dx sl)) (hd' : V dx = some (.atd at'))
    (hs : findIn (hd.heap_39 w.params) (.ref C) "__setattr__" = some (some (.builtin "object.__setattr__"))) (hp : plainOver (hd.heap_39 w.params) C = true) (ht : takerIn (hd.heap_39 w.params) C name = some (some (.ref p))) (hT : typeIn (hd.heap_39 w.params) (.ref p) = some (.type "member_descriptor"))
    (hi : slotIn (hd.heap_39 w.params) p C = some i) (hz : i < 1000)
    (h : ∀ s', SS G ((L, .loc m) :: fs) (upd V x (.ins C dx ((sl ++ List.replicate (i + 1 - sl.length) none).set i (some (er v))))) s' → Q () s') : wpAny (model PP w) A (setAttr (.ref x) name v) Q E s := by
  obtain ⟨sl', es, n, ho, h1, hod, h2, I⟩ := S.inst hx hd'
  obtain ⟨m', post, F, N, hpost, fin⟩ := S.viaK hx ho
  refine set_plain S.K I hs (osa_descr (s := { s with toks := s.toks + 1 }) KF.slot_mset (SS.K (s := { s with toks := s.toks + 1 }) (S.tok _)) I hp ht hT (slot_set (s := { s with toks := s.toks + 1 }) F N (SS.K (s := { s with toks := s.toks + 1 }) (S.tok _)) I hi hz (fun _ h => nomatch h) hpost rfl rfl fun h' F' N' => h _ (fin _ _ _ rfl rfl F' N' ⟨_, rfl, ?_⟩)))
  have hlen : sl'.size = sl.length := by rw [← h1]; simp
  rw [Array.toList_setIfInBounds, Array.toList_append, Array.toList_replicate, List.map_set, List.map_append, h1, hlen, List.map_replicate]
  rfl
/-- an instance is made -/
theorem mk_inst {Q : Value → Shared → Prop} {fI : Addr} {vals : List Value} (S : SS G (f₀ :: fs) V s) (hm : makesIn (hd.heap_39 w.params) C = true)
    (hi : findIn (hd.heap_39 w.params) (.ref C) "__init__" = some (some (.ref fI))) (hf : typeIn (hd.heap_39 w.params) (.ref fI) = some (.type "function"))
    (h : ∀ x dx s', V x = none → V dx = none → dx ≠ x → SS G (f₀ :: fs) (upd (upd V dx (.atd [])) x (.ins C dx [])) s' →
      codeAny (model PP w) (A.under (.builtin "type.__call__" ⟨.ref C :: vals, []⟩)) (.call (.ref fI) ⟨.ref x :: vals, []⟩) (fun r s'' => ∃ v, r = .ok (.ret v) ∧ v = .none ∧ Q (.ref x) s'') s') :
    wpAny (model PP w) A (call (.ref C) vals) Q E s := by
  refine wpAny_call ?_
  obtain ⟨hh, g, d, t, os⟩ := s
  refine make_core (makes_of S.K hm) (looks_findIn S.K hi) (fun self => bind_fn S.K self hf) (.inl rfl) ?_
  have S1 := S.new (s' := ⟨hh.push emptyDict, g, d, t, os⟩) (a := hh.objs.size) (ao := .atd []) S.ge (Nat.le_refl _) rfl rfl (fun b o e => Heap.get?_push_of_some _ e) ⟨_, Heap.get?_push_size _ rfl, [], 0, rfl, rfl⟩
  have S2 := S1.new (s' := ⟨(hh.push emptyDict).push (instObj C hh.objs.size), g, d, t, os⟩) (a := hh.objs.size + 1) (ao := .ins C hh.objs.size []) S1.ge (by show (hh.push _).objs.size ≤ _; rw [Heap.size_push]; exact Nat.le_refl _) rfl rfl (fun b o e => Heap.get?_push_of_some _ e)
    ⟨_, by have := Heap.get?_push_size (hh.push emptyDict) (o := instObj C hh.objs.size) rfl; rwa [Heap.size_push] at this, #[], rfl, rfl⟩
  refine codeAny_mono (h _ _ _ (S.fresh (Nat.le_succ _)) (S.fresh (Nat.le_refl _)) (Nat.ne_of_lt (Nat.lt_succ_self _)) S2) fun r s'' z => ?_
  obtain ⟨v, rfl, rfl, hq⟩ := z
  exact ⟨rfl, hq⟩
theorem enterR {f : Addr} {vals : List Value} {kw : List (Str × Value)} (binds : List (Str × Value)) {R : Result → Shared → Prop} {name qual : Str} {params : Arguments} {body : List Stmt} {scope : Scope} {dV kV doc pm cdv ct oc : Value} {an od : Option Addr} {osl : Array (Option Value)}
    (S : SS G (f₀ :: fs) V s) (ho : (hd.heap_39 w.params).lookup f = some ⟨oc, od, .func (fnOf name qual params body scope dV kV doc pm an cdv ct), osl⟩) (hcd : codeIn (hd.heap_39 w.params) cdv qual = true) (hroom : A.depth < recursionLimit)
    (hbind : BindsTo s (fnOf name qual params body scope dV kV doc pm an cdv ct) ⟨vals, kw⟩ binds) (hloc : ∀ y ∈ binds, scope.names.lookup y.1 = some .local)
    (hcell : ∀ x ∈ scope.names, x.2 ≠ .cell) (hco : scope.isCoroutine = false) (hgen : scope.isGenerator = false) (hk : scope.kind = .function)
    (h : ∀ L s₁, SS G ((L, .loc (lvOf binds)) :: f₀ :: fs) V s₁ → wpAny (model PP w) (A.deeper (envOf qual scope L f cdv)) (execs body (envOf qual scope L f cdv))
      (fun fl s' => R (.ok (.ret (rv fl))) s') (fun _ _ => False) s₁) :
    codeAny (model PP w) A (.call (.ref f) ⟨vals, kw⟩) R s := by
  refine codeAny_call_def (fd := fnOf name qual params body scope dV kV doc pm an cdv ct) (body := body) (binds := binds) hroom (S.K _ _ ho) rfl S.lim (codeRec_of S.K hcd) rfl hbind hcell hloc (fun h₁ hns hk₁ => ?_) hco hgen hk
  refine wpAny_mono (h s.heap.objs.size _ (S.push (s' := { s with heap := h₁, toks := s.toks + binds.length }) S.ge (Nat.le_refl _) rfl rfl hk₁ ⟨_, hns, lvOf_eq binds⟩)) (fun fl _ x => by cases fl <;> exact x) (fun _ _ x => x.elim)
end

/-- what a dict with int keys holds, tokens erased -/
noncomputable def AObj.dv : AObj → Option (List (Int × Value))
  | .idict kvs => some (kvs.map fun p => (p.1, .int p.2 0))
  | .rdict kvs => some (kvs.map fun p => (p.1, .ref p.2))
  | _ => none
noncomputable abbrev erp (kvs : List (Int × Value)) : List (Int × Value) := kvs.map fun p => (p.1, er p.2)
theorem er_ref_map : ∀ {kv : List (Int × Value)} {kvs : List (Int × Addr)}, erp kv = kvs.map (fun p => (p.1, Value.ref p.2)) → kv = kvs.map (fun p => (p.1, Value.ref p.2))
  | [], [], _ => rfl
  | [], _ :: _, h => by simp [erp] at h
  | _ :: _, [], h => by simp [erp] at h
  | p :: kv, q :: kvs, h => by
    simp only [erp, List.map_cons, List.cons.injEq, Prod.mk.injEq] at h ⊢
    exact ⟨Prod.ext h.1.1 (er_ref h.1.2), er_ref_map h.2⟩
theorem er_ref_self (kvs : List (Int × Addr)) : erp (kvs.map (fun p => (p.1, Value.ref p.2))) = kvs.map (fun p => (p.1, Value.ref p.2)) := by
  simp [erp, er]
theorem valueAt_er (kv : List (Int × Value)) (k : Int) : (valueAt kv k).map er = valueAt (erp kv) k := by
  unfold valueAt erp
  rw [List.find?_map, Option.map_map, Option.map_map]
  rfl
theorem stored_er (kv : List (Int × Value)) (k : Int) (v : Value) : erp (stored kv k v) = stored (erp kv) k (er v) := by
  unfold stored erp
  rw [List.any_map]
  have e : ((fun kv : Int × Value => decide (kv.1 = k)) ∘ fun p : Int × Value => (p.1, er p.2)) = fun kv => decide (kv.1 = k) := rfl
  rw [e]
  split
  · rw [List.map_map, List.map_map]
    congr 1
    funext p
    simp only [Function.comp]
    split <;> rfl
  · rw [List.map_append]; rfl
section
variable {w : World} {G : Gd w} {f₀ : Addr × FK} {fs : Frs} {V V' : View} {s s' : Shared} {l a b d L I x dx C : Addr} {m : Loc} {ao : AObj} {A : Around} {E : Value → Shared → Prop} {env : Env} {i : Int} {t : Tok} {kvs : List (Int × Value)}
theorem SS.dct (S : SS G fs V s) (hV : V d = some ao) (hd : ao.dv = some kvs) : ∃ kv', s.heap.DictOf (intKind PP w) d kv' ∧ erp kv' = kvs := by
  obtain ⟨o, ho, hi⟩ := S.see d _ hV
  cases ao <;> simp only [AObj.dv, Option.some.injEq, reduceCtorEq] at hd
  · subst hd
    obtain ⟨h1, es, ep, kv', h2, h3, h4, h5, h6⟩ := hi
    exact ⟨kv', ⟨o, es, ep, ho, h1, h2, h3, h4, h5⟩, h6⟩
  · subst hd
    obtain ⟨h1, es, ep, kv', h2, h3, h4, h5, h6⟩ := hi
    exact ⟨kv', ⟨o, es, ep, ho, h1, h2, h3, h4, h5⟩, by rw [h6, er_ref_self]⟩
theorem dct_at {h : Heap} {kv' : List (Int × Value)} (D : h.DictOf (intKind PP w) d kv') (hd : ao.dv = some (erp kv')) : ao.At w h d := by
  obtain ⟨o, es, ep, ho, h1, h2, h3, h4, h5⟩ := D
  refine ⟨o, ho, ?_⟩
  cases ao <;> simp only [AObj.dv, Option.some.injEq, reduceCtorEq] at hd
  · exact ⟨h1, es, ep, kv', h2, h3, h4, h5, hd.symm⟩
  · exact ⟨h1, es, ep, kv', h2, h3, h4, h5, er_ref_map hd.symm⟩
theorem dv_nc (hd : ao.dv = some kvs) : ∀ q, ao ≠ .code q := by intro q e; subst e; cases hd
theorem SS.notSys (S : SS G fs V s) (hV : V d = some ao) : (d == sysModules) = false := by
  have h1 := S.high d _ hV
  have h2 := G.big
  rw [beq_eq_false_iff_ne]
  intro e
  have e' : @Eq Nat d sysModules := e
  have h3 : @LT.lt Nat instLTNat sysModules 245 := by decide
  rw [e'] at h1
  exact absurd (Nat.lt_of_lt_of_le h3 (Nat.le_trans h2 h1)) (Nat.lt_irrefl _)
theorem dnew {pos : Pos} {Q : Value → Shared → Prop} (S : SS G (f₀ :: fs) V s) (hd : ao.dv = some []) (h : ∀ b s', V b = none → SS G (f₀ :: fs) (upd V b ao) s' → Q (.ref b) s') : wpAny (model PP w) A (eval (.Dict [] [] pos) env) Q E s :=
  wpAny_Dict_empty (h _ _ (S.fresh (Nat.le_refl _)) (S.new S.ge (Nat.le_refl _) rfl rfl (fun b o e => Heap.get?_push_of_some _ e) (dct_at (Heap.DictOf.new _) hd)))
theorem dmet {name : Str} {id : String} {pl : Sem Bool} {Q : Value × List Value → Shared → Prop} (S : SS G fs V s) (hV : V d = some ao) (hd : ao.dv = some kvs) (slot : Slot "dict" name id) (hty : typeOf (.builtin id) = pure (.type "method_descriptor"))
    (h : Q (.builtin id, [.ref d]) s) : wpAny (model PP w) A (getMethod (.ref d) name pl) Q E s := by
  obtain ⟨kv', D, e⟩ := S.dct hV hd
  exact getMethod_builtin D.typeIs PySem.F.plainAttrs_dict slot hty D.mapOf.noDict h
theorem dget1 {Q : Value → Shared → Prop} (S : SS G fs V s) (hV : V d = some ao) (hd : ao.dv = some kvs) (h : ∀ v s', er v = (valueAt kvs i).getD .none → SS G fs V s' → Q v s') : wpAny (model PP w) A (call (.builtin "dict.get") [.ref d, .int i t]) Q E s := by
  obtain ⟨kv', D, e⟩ := S.dct hV hd
  refine call_meetsIn PySem.F.slot_dict_get D.typeIs PySem.F.entry_dict_get (PySem.F.args_dict_get_2 _ _) (meets_dict_get (intKind PP w) d (k := i) (key := .int i t) (by simp [intKind, Value.isInt]) (S.notSys hV)) ⟨_, D.mapOf, h _ _ ?_ (S.tok _)⟩
  rw [← e, ← valueAt_er]
  cases valueAt kv' i <;> rfl
theorem dget2 {Q : Value → Shared → Prop} {dv : Value} (S : SS G fs V s) (hV : V d = some ao) (hd : ao.dv = some kvs) (h : ∀ v s', er v = (valueAt kvs i).getD (er dv) → SS G fs V s' → Q v s') : wpAny (model PP w) A (call (.builtin "dict.get") [.ref d, .int i t, dv]) Q E s := by
  obtain ⟨kv', D, e⟩ := S.dct hV hd
  refine call_meetsIn PySem.F.slot_dict_get D.typeIs PySem.F.entry_dict_get (PySem.F.args_dict_get_3 _ _ _) (meets_dict_get_default (intKind PP w) d (k := i) (key := .int i t) (by simp [intKind, Value.isInt]) (S.notSys hV) dv) ⟨_, D.mapOf, h _ _ ?_ (S.tok _)⟩
  rw [← e, ← valueAt_er]
  cases valueAt kv' i <;> rfl
theorem ditem {Q : Value → Shared → Prop} {value slice : Expr} {ev : Value} (S : SS G fs V s) (hV : V d = some ao) (hd : ao.dv = some kvs) (hv : valueAt kvs i = some ev) (h : ∀ v s', er v = ev → SS G fs V s' → Q v s')
    (hs : subscripted slice false (.ref d) (.int i t) = operate [.ref d, .int i t] (getItem (.ref d) (.int i t)) := by with_unfolding_all rfl) :
    wpAny (model PP w) A (subscriptTail value slice (.ref d) (.int i t)) Q E s := by
  obtain ⟨kv', D, e⟩ := S.dct hV hd
  rw [← e, ← valueAt_er] at hv
  obtain ⟨v, hv', he⟩ := Option.map_eq_some_iff.mp hv
  exact tail_any D.typeIs slot_dict_getitem.lookup (wpAny_getItem_of (knd := intKind PP w) (k := i) (by simp [intKind, Value.isInt]) D.mapOf hv' (h v _ he (S.tok _))) hs
theorem dset {Q : Unit → Shared → Prop} {v : Value} {ao' : AObj} (S : SS G fs V s) (hV : V d = some ao) (hd : ao.dv = some kvs) (hd' : ao'.dv = some (stored kvs i (er v))) (hz : kvs.length < 1000) (h : ∀ s', SS G fs (upd V d ao') s' → Q () s') :
    wpAny (model PP w) A (setItem (.ref d) (.int i t) v) Q E s := by
  obtain ⟨kv', D, e⟩ := S.dct hV hd
  have hl : kv'.length = kvs.length := by rw [← e]; simp [erp]
  refine wpAny_setItem_pairs (knd := intKind PP w) (k := i) (by simp [intKind, Value.isInt]) D (fun h' D' hs => h _ (S.chg hV rfl rfl (fun c o hc e => (hs.2 c hc).trans e) (dct_at D' ?_) (dv_nc hd))) (by show kv'.length ≤ 2 ^ 24; omega)
  rw [stored_er, e]; exact hd'
theorem din {Q : Value → Shared → Prop} (S : SS G fs V s) (hV : V d = some ao) (hd : ao.dv = some kvs) (h : ∀ s', SS G fs V s' → Q (.bool (valueAt kvs i).isSome) s') : wpAny (model PP w) A (compareOp .In (.int i t) (.ref d)) Q E s := by
  obtain ⟨kv', D, e⟩ := S.dct hV hd
  refine wpAny_in_of (knd := intKind PP w) (k := i) (by simp [intKind, Value.isInt]) (S.notSys hV) D.mapOf ?_
  have e2 : (valueAt kv' i).isSome = (valueAt kvs i).isSome := by rw [← e, ← valueAt_er]; simp
  rw [e2]
  exact h _ (S.tok _)
theorem asg_sub {o j : Expr} {pos : Pos} {v : Value} {Q : Unit → Shared → Prop} (h : wpAny (model PP w) A (eval o env) (fun ov s₁ => wpAny (model PP w) A (eval j env) (fun iv s₂ => wpAny (model PP w) A (setItem ov iv v) Q E s₂) E s₁) E s) :
    wpAny (model PP w) A (assign (.Subscript o j pos) env v) Q E s := by
  rw [assign_Subscript]
  refine wpAny_bind (wpAny_holding (wpAny_mono h (fun ov s₁ h₁ => wpAny_bind (wpAny_holding (wpAny_mono h₁ (fun iv s₂ h₂ => wpAny_bind (wpAny_standAt (wpAny_bind (wpAny_holding (wpAny_mono h₂ (fun _ _ h₃ => ?_) fun _ _ x => x))))) fun _ _ x => x))) fun _ _ x => x))
  exact wpAny_release h₃
end
local macro_rules | `(tactic| walk_at "bt") => `(tactic| with_reducible first | exact bt_len | exact bt_range | exact bt_reversed | exact bt_divmod | exact bt_sum | exact bt_sorted | exact bt_tuple | exact bt_max | exact bt_abs | exact bt_iter | exact bt_set | exact bt_bool | exact bt_StopIteration)
local macro_rules | `(tactic| walk_at "lk") => `(tactic| first | assumption | exact lup_eq | (refine (lup_ne (by decide)).trans ?_; walk_at "lk"))
local macro_rules | `(tactic| walk_at "ne") => `(tactic| first | assumption | (apply Ne.symm; assumption) | exact fun e => absurd (show @Eq Nat _ _ from e) (by omega))
local macro_rules | `(tactic| walk_at "vw") => `(tactic| first | assumption | exact upd_eq | (refine (upd_ne (by walk_at "ne")).trans ?_; walk_at "vw") | (refine upd_old (by assumption) ?_; walk_at "vw"))
section
variable {w : World} {G : Gd w} {f₀ : Addr × FK} {fs : Frs} {V V' : View} {s s' : Shared} {l a b : Addr} {A : Around} {E : Value → Shared → Prop} {Q : Value → Shared → Prop}

theorem upd_upd {V : View} {a : Addr} {o o' : AObj} : upd (upd V a o) a o' = upd V a o' := by
  funext b; simp only [upd]; split <;> rfl
theorem upd_tup {V : View} {l b : Addr} {as : List Addr} {ns : List Int} {o : AObj} (hV : V l = some (.rlist as)) (hb : V b = some (.itup ns)) : upd V l o b = some (.itup ns) := by
  rw [upd_ne]; exact hb
  intro e; subst e; rw [hV] at hb; cases hb

theorem upd_same {V : View} {l : Addr} {o : AObj} (h : V l = some o) : upd V l o = V := by
  funext b; simp only [upd]; split
  · rename_i e; rw [e, h]
  · rfl
theorem getD_some {as : List Addr} {i : Nat} (h : i < as.length) : as[i]? = some (as.getD i 0) := by simp [List.getD, h]
theorem getD_mem {as : List Addr} {i : Nat} (h : i < as.length) : as.getD i 0 ∈ as := by simp [List.getD, h]
theorem set_sub {as xs : List Addr} {i : Nat} {b : Addr} (h : ∀ x ∈ xs, x ∈ as) (hb : b ∈ as) : ∀ x ∈ xs.set i b, x ∈ as := fun x hx => by
  rcases List.mem_or_eq_of_mem_set hx with h1 | h1
  · exact h x h1
  · rw [h1]; exact hb
theorem sub_rl' {as : List Addr} {k : Int} {u : Tok} {value slice : Expr} (S : SS G fs V s) (hV : V l = some (.rlist as)) (h0 : 0 ≤ k) (hk : k.toNat < as.length) (hb : as.length < 1000000) (h : Q (.ref (as.getD k.toNat 0)) s)
    (hs : subscripted slice false (.ref l) (.int k u) = operate [.ref l, .int k u] (getItem (.ref l) (.int k u)) := by with_unfolding_all rfl) :
    wpAny (model PP w) A (subscriptTail value slice (.ref l) (.int k u)) Q E s :=
  sub_rl S hV h0 (by omega) (b := as.getD k.toNat 0) (getD_some hk) h hs

/-- the pure siftdown: the item x goes up from pos, not above st -/
noncomputable def sdnF (lt : Addr → Addr → Bool) (st : Nat) (x : Addr) : Nat → List Addr → Nat → List Addr
  | 0, xs, pos => xs.set pos x
  | k + 1, xs, pos => if st < pos then (if lt x (xs.getD ((pos - 1) / 2) 0) then sdnF lt st x k (xs.set pos (xs.getD ((pos - 1) / 2) 0)) ((pos - 1) / 2) else xs.set pos x) else xs.set pos x
noncomputable def sdn (lt : Addr → Addr → Bool) (xs : List Addr) (st pos : Nat) : List Addr := sdnF lt st (xs.getD pos 0) pos xs pos

theorem sdnF_fuel (lt : Addr → Addr → Bool) (st : Nat) (x : Addr) : ∀ (k j : Nat) (xs : List Addr) (p : Nat), p ≤ k → p ≤ j → sdnF lt st x k xs p = sdnF lt st x j xs p := by
  intro k
  induction k with
  | zero =>
    intro j xs p h1 h2
    have : p = 0 := by omega
    subst this
    cases j with
    | zero => rfl
    | succ j => rw [sdnF, sdnF, if_neg (by omega)]
  | succ k ih =>
    intro j xs p h1 h2
    cases j with
    | zero =>
      have : p = 0 := by omega
      subst this
      rw [sdnF, sdnF, if_neg (by omega)]
    | succ j =>
      rw [sdnF, sdnF]
      split
      · split
        · exact ih j _ _ (by omega) (by omega)
        · rfl
      · rfl

theorem half_i (p : Nat) (h : 0 < p) : ((p : Int) - 1).fdiv (2 ^ (1 : Int).toNat) = (((p - 1) / 2 : Nat) : Int) := by
  rw [Int.fdiv_eq_ediv_of_nonneg _ (by decide)]
  show ((p : Int) - 1) / 2 = _
  omega

theorem siftdown_c {as : List Addr} {P : Addr → Int × Int} {st pos : Nat} {t u : Tok} (r : Rm A 2) (S : SS G (f₀ :: fs) V s) (hV : V l = some (.rlist as)) (hP : ∀ b ∈ as, V b = some (.itup [(P b).1, (P b).2]))
    (hp : pos < as.length) (hl : as.length < 1000) (h : ∀ s', SS G (f₀ :: fs) (upd V l (.rlist (sdn (fun a b => pLt (P a) (P b)) as st pos))) s' → Q .none s') :
    wpAny (model PP w) A (call (.ref 42) [.ref l, .int st t, .int pos u]) Q E s := by
  refine enter [(Str.ofString "heap", .ref l), (Str.ofString "startpos", .int st t), (Str.ofString "pos", .int pos u)] S (by k_is) (by k_is) r.room (BindsTo.of_eq rfl) (locs rfl) (by decide) rfl rfl rfl ?_
  intro L s₁ S₁
  simp only [lvOf, List.foldl, er] at S₁
  have r' : ∀ env, Rm (A.deeper env) 1 := fun _ => r.deeper
  with_reducible refine cons_hid ?_; intro _ _
  refine wpAny_Assign_Name ?_
  with_reducible refine Subscript_ ?_
  refine nm_r (by assumption) (by walk_at "lk") ?_
  refine nm_i (by assumption) (by walk_at "lk") ?_; intro _
  refine sub_rl' (by assumption) hV (by omega) (by omega) (by omega) ?_
  refine sto (by assumption) ?_; intro _ _
  with_reducible refine Hid.out (by assumption) ?_
  with_reducible refine cons_hid ?_; intro _ _
  have hx : as.getD pos 0 ∈ as := getD_mem hp
  rw [Int.toNat_natCast] at *
  refine whl (fun k s => ∃ m xs p, SS G ((L, .loc m) :: f₀ :: fs) (upd V l (.rlist xs)) s ∧ m (Str.ofString "heap") = some (.ref l) ∧ m (Str.ofString "startpos") = some (.int st 0) ∧ m (Str.ofString "pos") = some (.int (p : Nat) 0) ∧
    m (Str.ofString "newitem") = some (.ref (as.getD pos 0)) ∧ p = k ∧ p < xs.length ∧ xs.length = as.length ∧ (∀ b ∈ xs, b ∈ as) ∧ sdnF (fun a b => pLt (P a) (P b)) st (as.getD pos 0) k xs p = sdn (fun a b => pLt (P a) (P b)) as st pos) pos
    ⟨_, as, pos, by rw [upd_same hV]; assumption, by walk_at "lk", by walk_at "lk", by walk_at "lk", by walk_at "lk", rfl, hp, rfl, fun b hb => hb, rfl⟩ ?_
  rintro k s ⟨m, xs, p, S, m1, m2, m3, m4, rfl, q1, q2, q3, q4⟩
  refine wpAny_isTrue_Compare1 ?_
  refine nm_i (by assumption) (by walk_at "lk") ?_; intro _
  refine nm_i (by assumption) (by walk_at "lk") ?_; intro _
  with_reducible refine PySem.P.gt_int ?_
  with_reducible refine wpAny_truthy_bool ?_
  split
  · rename_i hc
    have hc : st < p := by have := of_decide_eq_true hc; omega
    with_reducible refine cons_hid ?_; intro _ _
    refine wpAny_Assign_Name ?_
    with_reducible refine wpAny_BinOp ?_
    with_reducible refine wpAny_BinOp ?_
    refine nm_i (by assumption) (by walk_at "lk") ?_; intro _
    with_reducible refine c_int (by assumption) ?_; intro _ _ _
    with_reducible refine sub_i (by assumption) ?_; intro _ _ _
    with_reducible refine c_int (by assumption) ?_; intro _ _ _
    with_reducible refine shr_i (by assumption) (by first | decide | omega) ?_; intro _ _ _
    rw [half_i p (by omega)]
    refine sto (by assumption) ?_; intro _ _
    with_reducible refine Hid.out (by assumption) ?_
    with_reducible refine cons_hid ?_; intro _ _
    refine wpAny_Assign_Name ?_
    with_reducible refine Subscript_ ?_
    refine nm_r (by assumption) (by walk_at "lk") ?_
    refine nm_i (by assumption) (by walk_at "lk") ?_; intro _
    have hh : (p - 1) / 2 < xs.length := by omega
    refine sub_rl' (by assumption) upd_eq (by omega) (by omega) (by omega) ?_
    rw [Int.toNat_natCast]
    refine sto (by assumption) ?_; intro _ _
    with_reducible refine Hid.out (by assumption) ?_
    with_reducible refine cons_hid ?_; intro _ _
    with_reducible refine wpAny_If ?_
    refine wpAny_isTrue_Compare1 ?_
    refine nm_r (by assumption) (by walk_at "lk") ?_
    refine nm_r (by assumption) (by walk_at "lk") ?_
    refine lt_tt (p := P (as.getD pos 0)) (q := P (xs.getD ((p - 1) / 2) 0)) (r' _) (by assumption) (upd_tup hV (hP _ hx)) (upd_tup hV (hP _ (q3 _ (getD_mem hh)))) ?_
    with_reducible refine wpAny_truthy_bool ?_
    obtain ⟨j, hj⟩ : ∃ j, p = j + 1 := ⟨p - 1, by omega⟩
    split
    · rename_i hlt
      with_reducible refine cons_hid ?_; intro _ _
      refine wpAny_Assign_Subscript ?_
      refine nm_r (by assumption) (by walk_at "lk") ?_
      refine nm_r (by assumption) (by walk_at "lk") ?_
      refine nm_i (by assumption) (by walk_at "lk") ?_; intro _
      refine set_rl (by assumption) upd_eq (by omega) (by omega) (by omega) ?_
      intro s' S'
      rw [upd_upd, Int.toNat_natCast] at S'
      with_reducible refine Hid.out (by assumption) ?_
      with_reducible refine cons_hid ?_; intro _ _
      refine wpAny_Assign_Name ?_
      refine nm_i (by assumption) (by walk_at "lk") ?_; intro _
      refine sto (by assumption) ?_; intro _ _
      with_reducible refine Hid.out (by assumption) ?_
      with_reducible refine cons_hid ?_; intro _ _
      with_reducible refine wpAny_Continue ?_
      with_reducible refine Hid.out (by assumption) ?_
      with_reducible refine Hid.out (by assumption) ?_
      refine ⟨(p - 1) / 2, by omega, _, _, (p - 1) / 2, by assumption, by walk_at "lk", by walk_at "lk", by walk_at "lk", by walk_at "lk", rfl, by rw [List.length_set]; omega, by rw [List.length_set]; omega, set_sub q3 (q3 _ (getD_mem hh)), ?_⟩
      rw [← q4]
      conv => rhs; rw [hj]
      rw [sdnF, if_pos (by omega), hj, if_pos (by rw [← hj]; exact hlt)]
      exact sdnF_fuel _ _ _ _ _ _ _ (by omega) (by omega)
    · rename_i hlt
      with_reducible refine wpAny_execs_nil ?_
      with_reducible refine Hid.out (by assumption) ?_
      with_reducible refine cons_hid ?_; intro _ _
      with_reducible refine wpAny_Break ?_
      with_reducible refine Hid.out (by assumption) ?_
      with_reducible refine Hid.out (by assumption) ?_
      with_reducible refine cons_hid ?_; intro _ _
      refine wpAny_Assign_Subscript ?_
      refine nm_r (by assumption) (by walk_at "lk") ?_
      refine nm_r (by assumption) (by walk_at "lk") ?_
      refine nm_i (by assumption) (by walk_at "lk") ?_; intro _
      refine set_rl (by assumption) upd_eq (by omega) (by omega) (by omega) ?_
      intro s' S'
      rw [upd_upd, Int.toNat_natCast] at S'
      with_reducible refine Hid.out (by assumption) ?_
      with_reducible refine wpAny_execs_nil ?_
      rw [hj, sdnF, if_pos (by omega), if_neg (by rw [← hj]; exact hlt), ← hj] at q4
      rw [q4] at S'
      exact h _ (SS.pop (by assumption))
  · rename_i hc
    have hc : ¬ st < p := fun q => hc (decide_eq_true (by omega))
    with_reducible refine wpAny_execs_nil ?_
    with_reducible refine Hid.out (by assumption) ?_
    with_reducible refine cons_hid ?_; intro _ _
    refine wpAny_Assign_Subscript ?_
    refine nm_r (by assumption) (by walk_at "lk") ?_
    refine nm_r (by assumption) (by walk_at "lk") ?_
    refine nm_i (by assumption) (by walk_at "lk") ?_; intro _
    refine set_rl (by assumption) upd_eq (by omega) (by omega) (by omega) ?_
    intro s' S'
    rw [upd_upd, Int.toNat_natCast] at S'
    with_reducible refine Hid.out (by assumption) ?_
    with_reducible refine wpAny_execs_nil ?_
    have : sdnF (fun a b => pLt (P a) (P b)) st (as.getD pos 0) p xs p = xs.set p (as.getD pos 0) := by
      cases p with
      | zero => rfl
      | succ p => rw [sdnF, if_neg hc]
    rw [← this, q4] at S'
    exact h _ (SS.pop (by assumption))
end
section
variable {w : World} {G : Gd w} {f₀ : Addr × FK} {fs : Frs} {V V' : View} {s s' : Shared} {l a b : Addr} {A : Around} {E : Value → Shared → Prop} {Q : Value → Shared → Prop}

/-- the lesser child's place -/
noncomputable def chd (lt : Addr → Addr → Bool) (xs : List Addr) (p : Nat) : Nat :=
  if 2 * p + 2 < xs.length ∧ lt (xs.getD (2 * p + 1) 0) (xs.getD (2 * p + 2) 0) = false then 2 * p + 2 else 2 * p + 1
/-- the pure siftup's way down -/
noncomputable def supF (lt : Addr → Addr → Bool) : Nat → List Addr → Nat → List Addr × Nat
  | 0, xs, p => (xs, p)
  | k + 1, xs, p => if 2 * p + 1 < xs.length then supF lt k (xs.set p (xs.getD (chd lt xs p) 0)) (chd lt xs p) else (xs, p)
noncomputable def sup (lt : Addr → Addr → Bool) (xs : List Addr) (p : Nat) : List Addr :=
  sdn lt ((supF lt xs.length xs p).1.set (supF lt xs.length xs p).2 (xs.getD p 0)) p (supF lt xs.length xs p).2

theorem chd_lt {lt : Addr → Addr → Bool} {xs : List Addr} {p : Nat} (h : 2 * p + 1 < xs.length) : chd lt xs p < xs.length ∧ p < chd lt xs p := by
  unfold chd; split <;> omega
theorem supF_fuel (lt : Addr → Addr → Bool) : ∀ (k j : Nat) (xs : List Addr) (p : Nat), xs.length ≤ k + p → xs.length ≤ j + p → supF lt k xs p = supF lt j xs p := by
  intro k
  induction k with
  | zero =>
    intro j xs p h1 h2
    cases j with
    | zero => rfl
    | succ j => rw [supF, supF, if_neg (by omega)]
  | succ k ih =>
    intro j xs p h1 h2
    cases j with
    | zero => rw [supF, supF, if_neg (by omega)]
    | succ j =>
      rw [supF, supF]
      split
      · rename_i hc
        have := chd_lt (lt := lt) hc
        exact ih j _ _ (by rw [List.length_set]; omega) (by rw [List.length_set]; omega)
      · rfl

theorem siftup_c {as : List Addr} {P : Addr → Int × Int} {pos : Nat} {t : Tok} (r : Rm A 4) (S : SS G (f₀ :: fs) V s) (hV : V l = some (.rlist as)) (hP : ∀ b ∈ as, V b = some (.itup [(P b).1, (P b).2]))
    (hp : pos < as.length) (hl : as.length < 1000) (h : ∀ s', SS G (f₀ :: fs) (upd V l (.rlist (sup (fun a b => pLt (P a) (P b)) as pos))) s' → Q .none s') :
    wpAny (model PP w) A (call (.ref 49) [.ref l, .int pos t]) Q E s := by
  refine enter [(Str.ofString "heap", .ref l), (Str.ofString "pos", .int pos t)] S (by k_is) (by k_is) r.room (BindsTo.of_eq rfl) (locs rfl) (by decide) rfl rfl rfl ?_
  intro L s₁ S₁
  simp only [lvOf, List.foldl, er] at S₁
  have r' : ∀ env, Rm (A.deeper env) 3 := fun _ => r.deeper
  with_reducible refine cons_hid ?_; intro _ _
  refine wpAny_Assign_Name ?_
  refine wpAny_Call_NameR ?_
  refine nm_b (by assumption) (by k_is) (by walk_at "bt") (by decide +kernel) ?_
  refine callWith_method1 ?_
  refine wpAny_items_cons ?_
  refine nm_r (by assumption) (by walk_at "lk") ?_
  with_reducible refine wpAny_items_nil ?_
  refine len_rl (by assumption) hV (by omega) ?_
  intro _ _ _
  refine sto (by assumption) ?_; intro _ _
  with_reducible refine Hid.out (by assumption) ?_
  with_reducible refine cons_hid ?_; intro _ _
  refine wpAny_Assign_Name ?_
  refine nm_i (by assumption) (by walk_at "lk") ?_; intro _
  refine sto (by assumption) ?_; intro _ _
  with_reducible refine Hid.out (by assumption) ?_
  with_reducible refine cons_hid ?_; intro _ _
  refine wpAny_Assign_Name ?_
  with_reducible refine Subscript_ ?_
  refine nm_r (by assumption) (by walk_at "lk") ?_
  refine nm_i (by assumption) (by walk_at "lk") ?_; intro _
  refine sub_rl' (by assumption) hV (by omega) (by omega) (by omega) ?_
  rw [Int.toNat_natCast]
  refine sto (by assumption) ?_; intro _ _
  with_reducible refine Hid.out (by assumption) ?_
  with_reducible refine cons_hid ?_; intro _ _
  refine wpAny_Assign_Name ?_
  with_reducible refine wpAny_BinOp ?_
  with_reducible refine wpAny_BinOp ?_
  with_reducible refine c_int (by assumption) ?_; intro _ _ _
  refine nm_i (by assumption) (by walk_at "lk") ?_; intro _
  with_reducible refine mul_i (by assumption) (by first | decide | omega) ?_; intro _ _ _
  with_reducible refine c_int (by assumption) ?_; intro _ _ _
  with_reducible refine add_i (by assumption) ?_; intro _ _ _
  refine sto (by assumption) ?_; intro _ _
  with_reducible refine Hid.out (by assumption) ?_
  with_reducible refine cons_hid ?_; intro _ _
  have hx : as.getD pos 0 ∈ as := getD_mem hp
  refine whl (fun k s => ∃ m xs p, SS G ((L, .loc m) :: f₀ :: fs) (upd V l (.rlist xs)) s ∧ m (Str.ofString "heap") = some (.ref l) ∧ m (Str.ofString "endpos") = some (.int as.length 0) ∧ m (Str.ofString "startpos") = some (.int pos 0) ∧
    m (Str.ofString "pos") = some (.int (p : Nat) 0) ∧ m (Str.ofString "childpos") = some (.int (2 * (p : Nat) + 1) 0) ∧
    m (Str.ofString "newitem") = some (.ref (as.getD pos 0)) ∧ k = as.length - p ∧ p < xs.length ∧ xs.length = as.length ∧ (∀ b ∈ xs, b ∈ as) ∧ supF (fun a b => pLt (P a) (P b)) k xs p = supF (fun a b => pLt (P a) (P b)) as.length as pos) (as.length - pos)
    ⟨_, as, pos, by rw [upd_same hV]; assumption, by walk_at "lk", by walk_at "lk", by walk_at "lk", by walk_at "lk", by walk_at "lk", by walk_at "lk", rfl, hp, rfl, fun b hb => hb, supF_fuel _ _ _ _ _ (by omega) (by omega)⟩ ?_
  rintro k s ⟨m, xs, p, S, m1, m2, m3, m4, m5, m6, rfl, q1, q2, q3, q4⟩
  refine wpAny_isTrue_Compare1 ?_
  refine nm_i (by assumption) (by walk_at "lk") ?_; intro _
  refine nm_i (by assumption) (by walk_at "lk") ?_; intro _
  with_reducible refine PySem.P.lt_int ?_
  with_reducible refine wpAny_truthy_bool ?_
  split
  · rename_i hc
    have hc : 2 * p + 1 < xs.length := by have := of_decide_eq_true hc; omega
    have hcl := chd_lt (lt := fun a b => pLt (P a) (P b)) hc
    with_reducible refine cons_hid ?_; intro _ _
    refine wpAny_Assign_Name ?_
    with_reducible refine wpAny_BinOp ?_
    refine nm_i (by assumption) (by walk_at "lk") ?_; intro _
    with_reducible refine c_int (by assumption) ?_; intro _ _ _
    with_reducible refine add_i (by assumption) ?_; intro _ _ _
    refine sto (by assumption) ?_; intro _ _
    with_reducible refine Hid.out (by assumption) ?_
    with_reducible refine cons_hid ?_; intro _ _
    refine join (fun s' => ∃ m', SS G ((L, .loc m') :: f₀ :: fs) (upd V l (.rlist xs)) s' ∧ m' (Str.ofString "heap") = some (.ref l) ∧ m' (Str.ofString "endpos") = some (.int as.length 0) ∧ m' (Str.ofString "startpos") = some (.int pos 0) ∧
      m' (Str.ofString "pos") = some (.int (p : Nat) 0) ∧ m' (Str.ofString "childpos") = some (.int (chd (fun a b => pLt (P a) (P b)) xs p : Nat) 0) ∧ m' (Str.ofString "newitem") = some (.ref (as.getD pos 0))) ?_ ?_
    · with_reducible refine wpAny_If ?_
      refine wpAny_isTrue_BoolOp ?_
      with_reducible refine wpAny_allTrue_And_cons ?_
      refine wpAny_isTrue_Compare1 ?_
      refine nm_i (by assumption) (by walk_at "lk") ?_; intro _
      refine nm_i (by assumption) (by walk_at "lk") ?_; intro _
      with_reducible refine PySem.P.lt_int ?_
      with_reducible refine wpAny_truthy_bool ?_
      split
      · rename_i h2
        have h2 : 2 * p + 2 < xs.length := by have := of_decide_eq_true h2; omega
        with_reducible refine wpAny_allTrue_And_cons ?_
        refine wpAny_isTrue_Not ?_
        refine wpAny_isTrue_Compare1 ?_
        with_reducible refine Subscript_ ?_
        refine nm_r (by assumption) (by walk_at "lk") ?_
        refine nm_i (by assumption) (by walk_at "lk") ?_; intro _
        refine sub_rl' (by assumption) upd_eq (by omega) (by omega) (by omega) ?_
        with_reducible refine Subscript_ ?_
        refine nm_r (by assumption) (by walk_at "lk") ?_
        refine nm_i (by assumption) (by walk_at "lk") ?_; intro _
        refine sub_rl' (by assumption) upd_eq (by omega) (by omega) (by omega) ?_
        skip
        rw [show (2 * (p : Int) + 1).toNat = 2 * p + 1 from by omega, show (2 * (p : Int) + 1 + 1).toNat = 2 * p + 2 from by omega]
        refine lt_tt (p := P (xs.getD (2 * p + 1) 0)) (q := P (xs.getD (2 * p + 2) 0)) (r' _) (by assumption) (upd_tup hV (hP _ (q3 _ (getD_mem hc)))) (upd_tup hV (hP _ (q3 _ (getD_mem h2)))) ?_
        with_reducible refine wpAny_truthy_bool ?_
        split
        · rename_i h3
          have h3 : pLt (P (xs.getD (2 * p + 1) 0)) (P (xs.getD (2 * p + 2) 0)) = false := by simpa using h3
          with_reducible refine wpAny_allTrue_And_nil ?_
          with_reducible refine ifT ?_
          with_reducible refine cons_hid ?_; intro _ _
          refine wpAny_Assign_Name ?_
          refine nm_i (by assumption) (by walk_at "lk") ?_; intro _
          refine sto (by assumption) ?_; intro _ _
          with_reducible refine Hid.out (by assumption) ?_
          with_reducible refine wpAny_execs_nil ?_
          have e : chd (fun a b => pLt (P a) (P b)) xs p = 2 * p + 2 := if_pos ⟨h2, h3⟩
          refine ⟨rfl, _, by assumption, by walk_at "lk", by walk_at "lk", by walk_at "lk", by walk_at "lk", ?_, by walk_at "lk"⟩
          rw [e, show ((2 * p + 2 : Nat) : Int) = 2 * (p : Int) + 1 + 1 from by omega]
          walk_at "lk"
        · rename_i h3
          have h3 : ¬ pLt (P (xs.getD (2 * p + 1) 0)) (P (xs.getD (2 * p + 2) 0)) = false := by simpa using h3
          with_reducible refine ifF ?_
          with_reducible refine wpAny_execs_nil ?_
          have e : chd (fun a b => pLt (P a) (P b)) xs p = 2 * p + 1 := if_neg fun q => h3 q.2
          refine ⟨rfl, _, by assumption, by walk_at "lk", by walk_at "lk", by walk_at "lk", by walk_at "lk", ?_, by walk_at "lk"⟩
          rw [e, show ((2 * p + 1 : Nat) : Int) = 2 * (p : Int) + 1 from by omega]
          walk_at "lk"
      · rename_i h2
        have h2 : ¬ 2 * p + 2 < xs.length := fun q => h2 (decide_eq_true (by omega))
        with_reducible refine ifF ?_
        with_reducible refine wpAny_execs_nil ?_
        have e : chd (fun a b => pLt (P a) (P b)) xs p = 2 * p + 1 := if_neg fun q => h2 q.1
        refine ⟨rfl, _, by assumption, by walk_at "lk", by walk_at "lk", by walk_at "lk", by walk_at "lk", ?_, by walk_at "lk"⟩
        rw [e, show ((2 * p + 1 : Nat) : Int) = 2 * (p : Int) + 1 from by omega]
        walk_at "lk"
    · rintro s' ⟨m', S', n1, n2, n3, n4, n5, n6⟩
      with_reducible refine Hid.out (by assumption) ?_
      with_reducible refine cons_hid ?_; intro _ _
      refine wpAny_Assign_Subscript ?_
      with_reducible refine Subscript_ ?_
      refine nm_r (by assumption) (by walk_at "lk") ?_
      refine nm_i (by assumption) (by walk_at "lk") ?_; intro _
      refine sub_rl' (by assumption) upd_eq (by omega) (by omega) (by omega) ?_
      rw [Int.toNat_natCast]
      refine nm_r (by assumption) (by walk_at "lk") ?_
      refine nm_i (by assumption) (by walk_at "lk") ?_; intro _
      refine set_rl (by assumption) upd_eq (by omega) (by omega) (by omega) ?_
      intro s' S'
      rw [upd_upd, Int.toNat_natCast] at S'
      with_reducible refine Hid.out (by assumption) ?_
      with_reducible refine cons_hid ?_; intro _ _
      refine wpAny_Assign_Name ?_
      refine nm_i (by assumption) (by walk_at "lk") ?_; intro _
      refine sto (by assumption) ?_; intro _ _
      with_reducible refine Hid.out (by assumption) ?_
      with_reducible refine cons_hid ?_; intro _ _
      refine wpAny_Assign_Name ?_
      with_reducible refine wpAny_BinOp ?_
      with_reducible refine wpAny_BinOp ?_
      with_reducible refine c_int (by assumption) ?_; intro _ _ _
      refine nm_i (by assumption) (by walk_at "lk") ?_; intro _
      with_reducible refine mul_i (by assumption) (by first | decide | omega) ?_; intro _ _ _
      with_reducible refine c_int (by assumption) ?_; intro _ _ _
      with_reducible refine add_i (by assumption) ?_; intro _ _ _
      refine sto (by assumption) ?_; intro _ _
      with_reducible refine Hid.out (by assumption) ?_
      with_reducible refine wpAny_execs_nil ?_
      refine ⟨as.length - chd (fun a b => pLt (P a) (P b)) xs p, by omega, _, _, chd (fun a b => pLt (P a) (P b)) xs p, by assumption, by walk_at "lk", by walk_at "lk", by walk_at "lk", by walk_at "lk", by walk_at "lk", by walk_at "lk", rfl, by rw [List.length_set]; omega, by rw [List.length_set]; omega, set_sub q3 (q3 _ (getD_mem hcl.1)), ?_⟩
      rw [← q4, show as.length - p = (as.length - p - 1) + 1 from by omega, supF, if_pos hc]
      exact supF_fuel _ _ _ _ _ (by rw [List.length_set]; omega) (by rw [List.length_set]; omega)
  · rename_i hc
    have hc : ¬ 2 * p + 1 < xs.length := fun q => hc (decide_eq_true (by omega))
    have e : (xs, p) = supF (fun a b => pLt (P a) (P b)) as.length as pos := by
      rw [← q4, show as.length - p = (as.length - p - 1) + 1 from by omega, supF, if_neg hc]
    with_reducible refine wpAny_execs_nil ?_
    with_reducible refine Hid.out (by assumption) ?_
    with_reducible refine cons_hid ?_; intro _ _
    refine wpAny_Assign_Subscript ?_
    refine nm_r (by assumption) (by walk_at "lk") ?_
    refine nm_r (by assumption) (by walk_at "lk") ?_
    refine nm_i (by assumption) (by walk_at "lk") ?_; intro _
    refine set_rl (by assumption) upd_eq (by omega) (by omega) (by omega) ?_
    intro s' S'
    rw [upd_upd, Int.toNat_natCast] at S'
    with_reducible refine Hid.out (by assumption) ?_
    with_reducible refine cons_hid ?_; intro _ _
    refine wpAny_Expr_any ?_
    refine wpAny_Call_NameR ?_
    refine nm_g (by assumption) (by k_is) ?_
    refine callWith_K (SS.K (by assumption)) (by k_is) ?_
    refine wpAny_items_cons ?_
    refine nm_r (by assumption) (by walk_at "lk") ?_
    refine wpAny_items_cons ?_
    refine nm_i (by assumption) (by walk_at "lk") ?_; intro _
    refine wpAny_items_cons ?_
    refine nm_i (by assumption) (by walk_at "lk") ?_; intro _
    with_reducible refine wpAny_items_nil ?_
    refine ⟨SS.K (by assumption), ?_⟩
    have hsub := set_sub (i := p) q3 hx
    refine siftdown_c (as := xs.set p (as.getD pos 0)) (P := P) ((r' _).le (by decide)) (by assumption) upd_eq (fun b hb => upd_tup hV (hP _ (hsub b hb))) (by rw [List.length_set]; omega) (by rw [List.length_set]; omega) ?_
    intro s' S'
    rw [upd_upd] at S'
    with_reducible refine Hid.out (by assumption) ?_
    with_reducible refine wpAny_execs_nil ?_
    have e1 : xs = (supF (fun a b => pLt (P a) (P b)) as.length as pos).1 := by rw [← e]
    have e2 : p = (supF (fun a b => pLt (P a) (P b)) as.length as pos).2 := by rw [← e]
    rw [e1, e2] at S'
    exact h _ S'.pop
end
section
open List
variable {lt : Addr → Addr → Bool}
theorem getD_eq {xs : List Addr} {i : Nat} (h : i < xs.length) : xs.getD i 0 = xs[i] := by simp [List.getD, h]
theorem set_swap {xs : List Addr} {i j : Nat} {x : Addr} (hi : i < xs.length) (hj : j < xs.length) (hne : i ≠ j) : ((xs.set i (xs.getD j 0)).set j x).Perm (xs.set i x) := by
  have h1 : i < (xs.set i x).length := by rw [List.length_set]; exact hi
  have h2 : j < (xs.set i x).length := by rw [List.length_set]; exact hj
  have := List.set_set_perm h1 h2
  rw [List.getElem_set_self, List.getElem_set_ne hne, List.set_set] at this
  rw [getD_eq hj]
  exact this
theorem sdnF_perm (st : Nat) (x : Addr) : ∀ (k : Nat) (xs : List Addr) (p : Nat), p < xs.length → (sdnF lt st x k xs p).Perm (xs.set p x) := by
  intro k
  induction k with
  | zero => intro xs p h; exact .refl _
  | succ k ih =>
    intro xs p h
    rw [sdnF]
    split
    · split
      · exact (ih _ _ (by rw [List.length_set]; omega)).trans (set_swap h (by omega) (by omega))
      · exact .refl _
    · exact .refl _
theorem supF_len : ∀ (k : Nat) (xs : List Addr) (p : Nat), (supF lt k xs p).1.length = xs.length := by
  intro k
  induction k with
  | zero => intro xs p; rfl
  | succ k ih => intro xs p; rw [supF]; split; rw [ih, List.length_set]; rfl
theorem supF_lt : ∀ (k : Nat) (xs : List Addr) (p : Nat), p < xs.length → (supF lt k xs p).2 < xs.length := by
  intro k
  induction k with
  | zero => intro xs p h; exact h
  | succ k ih =>
    intro xs p h
    rw [supF]; split
    · rename_i hc
      have := ih (xs.set p (xs.getD (chd lt xs p) 0)) (chd lt xs p) (by rw [List.length_set]; exact (chd_lt hc).1)
      rwa [List.length_set] at this
    · exact h
theorem supF_perm (x : Addr) : ∀ (k : Nat) (xs : List Addr) (p : Nat), p < xs.length → ((supF lt k xs p).1.set (supF lt k xs p).2 x).Perm (xs.set p x) := by
  intro k
  induction k with
  | zero => intro xs p h; exact .refl _
  | succ k ih =>
    intro xs p h
    rw [supF]; split
    · rename_i hc
      have hcl := chd_lt (lt := lt) hc
      exact (ih _ _ (by rw [List.length_set]; exact hcl.1)).trans (set_swap h hcl.1 (by omega))
    · exact .refl _
theorem set_getD_same {xs : List Addr} {p : Nat} (h : p < xs.length) : xs.set p (xs.getD p 0) = xs := by rw [getD_eq h]; simp
theorem sup_perm {xs : List Addr} {p : Nat} (h : p < xs.length) : (sup lt xs p).Perm xs := by
  have h1 := supF_lt (lt := lt) xs.length xs p h
  have h2 := supF_len (lt := lt) xs.length xs p
  unfold sup sdn
  refine (sdnF_perm _ _ _ _ _ (by rw [List.length_set, h2]; exact h1)).trans ?_
  rw [set_getD_same (by rw [List.length_set, h2]; exact h1)]
  exact (supF_perm _ _ _ _ h).trans (by rw [set_getD_same h])
/-- heapify: the places k - 1 down to k - i are sifted -/
noncomputable def hfyN (lt : Addr → Addr → Bool) (xs : List Addr) (k : Nat) : Nat → List Addr
  | 0 => xs
  | i + 1 => sup lt (hfyN lt xs k i) (k - 1 - i)
noncomputable def hfy (lt : Addr → Addr → Bool) (xs : List Addr) : List Addr := hfyN lt xs (xs.length / 2) (xs.length / 2)
theorem hfyN_perm {xs : List Addr} {k : Nat} (hk : k ≤ xs.length) : ∀ i, i ≤ k → (hfyN lt xs k i).Perm xs := by
  intro i
  induction i with
  | zero => intro _; exact .refl _
  | succ i ih =>
    intro hi
    have := ih (by omega)
    exact (sup_perm (by rw [this.length_eq]; omega)).trans this
theorem hfy_perm (xs : List Addr) : (hfy lt xs).Perm xs := hfyN_perm (by omega) _ (Nat.le_refl _)
/-- heappop: what is left -/
noncomputable def hpop (lt : Addr → Addr → Bool) (xs : List Addr) : List Addr := if xs.length ≤ 1 then [] else sup lt (xs.dropLast.set 0 (xs.getLastD 0)) 0
end
section
variable {w : World} {G : Gd w} {f₀ : Addr × FK} {fs : Frs} {V V' : View} {s s' : Shared} {l a b : Addr} {A : Around} {E : Value → Shared → Prop} {Q : Value → Shared → Prop}

theorem heapify_c {as : List Addr} {P : Addr → Int × Int} (r : Rm A 8) (S : SS G (f₀ :: fs) V s) (hV : V l = some (.rlist as)) (hP : ∀ b ∈ as, V b = some (.itup [(P b).1, (P b).2]))
    (hl : as.length < 1000) (h : ∀ s', SS G (f₀ :: fs) (upd V l (.rlist (hfy (fun a b => pLt (P a) (P b)) as))) s' → Q .none s') :
    wpAny (model PP w) A (call (.ref 35) [.ref l]) Q E s := by
  refine enter [(Str.ofString "x", .ref l)] S (by k_is) (by k_is) r.room (BindsTo.of_eq rfl) (locs rfl) (by decide) rfl rfl rfl ?_
  intro L s₁ S₁
  simp only [lvOf, List.foldl, er] at S₁
  have r' : ∀ env, Rm (A.deeper env) 7 := fun _ => r.deeper
  with_reducible refine cons_hid ?_; intro _ _
  refine wpAny_Assign_Name ?_
  refine wpAny_Call_NameR ?_
  refine nm_b (by assumption) (by k_is) (by walk_at "bt") (by decide +kernel) ?_
  refine callWith_method1 ?_
  refine wpAny_items_cons ?_
  refine nm_r (by assumption) (by walk_at "lk") ?_
  with_reducible refine wpAny_items_nil ?_
  refine len_rl (by assumption) hV (by omega) ?_
  intro _ _ _
  refine sto (by assumption) ?_; intro _ _
  with_reducible refine Hid.out (by assumption) ?_
  with_reducible refine cons_hid ?_; intro _ _
  refine wpAny_For ?_
  refine wpAny_Call_NameR ?_
  refine nm_b (by assumption) (by k_is) (by walk_at "bt") (by decide +kernel) ?_
  refine PyProof.Rows.callWith_type1 ?_
  refine wpAny_items_cons ?_
  refine wpAny_Call_NameR ?_
  refine nm_b (by assumption) (by k_is) (by walk_at "bt") (by decide +kernel) ?_
  refine PyProof.Rows.callWith_type1 ?_
  refine wpAny_items_cons ?_
  with_reducible refine wpAny_BinOp ?_
  refine nm_i (by assumption) (by walk_at "lk") ?_; intro _
  with_reducible refine c_int (by assumption) ?_; intro _ _ _
  with_reducible refine fdiv_i (by assumption) (by first | decide | omega) (by first | decide | omega) ?_; intro _ _ _
  with_reducible refine wpAny_items_nil ?_
  rw [show (as.length : Int).fdiv 2 = ((as.length / 2 : Nat) : Int) from by rw [Int.fdiv_eq_ediv_of_nonneg _ (by decide)]; omega]
  refine rng_1 (by assumption) ?_
  intro _ _ _ _ _
  with_reducible refine wpAny_items_nil ?_
  refine rev_rng (by assumption) (by omega) (by omega) ?_
  intro I s' ho S'
  refine it_rg ho ?_
  refine for_rg (r' _) S' (fun i m V' => V' = upd V l (.rlist (hfyN (fun a b => pLt (P a) (P b)) as (as.length / 2) i)) ∧ m (Str.ofString "x") = some (.ref l)) ⟨(upd_same hV).symm, by walk_at "lk"⟩ ?_ ?_
  · rintro i m V' t it s'' hi ⟨rfl, hm⟩ S''
    rw [show ((as.length / 2 : Nat) : Int) - 1 + (i : Int) * (-1) = ((as.length / 2 - 1 - i : Nat) : Int) from by omega]
    have hp := hfyN_perm (lt := fun a b => pLt (P a) (P b)) (xs := as) (k := as.length / 2) (by omega) i (by omega)
    with_reducible refine wpAny_assign_Name ?_
    refine sto (by assumption) ?_; intro _ _
    with_reducible refine cons_hid ?_; intro _ _
    refine wpAny_Expr_any ?_
    refine wpAny_Call_NameR ?_
    refine nm_g (by assumption) (by k_is) ?_
    refine callWith_K (SS.K (by assumption)) (by k_is) ?_
    refine wpAny_items_cons ?_
    refine nm_r (by assumption) (by walk_at "lk") ?_
    refine wpAny_items_cons ?_
    refine nm_i (by assumption) (by walk_at "lk") ?_; intro _
    with_reducible refine wpAny_items_nil ?_
    refine ⟨SS.K (by assumption), ?_⟩
    refine siftup_c (as := hfyN (fun a b => pLt (P a) (P b)) as (as.length / 2) i) (P := P) ((r' _).le (by decide)) (by assumption) upd_eq (fun b hb => upd_tup hV (hP _ (hp.mem_iff.mp hb))) (by rw [hp.length_eq]; omega) (by rw [hp.length_eq]; exact hl) ?_
    intro s3 S3
    rw [upd_upd] at S3
    with_reducible refine Hid.out (by assumption) ?_
    with_reducible refine wpAny_execs_nil ?_
    exact ⟨_, _, ⟨rfl, by walk_at "lk"⟩, S3⟩
  · rintro m V' s'' ⟨rfl, hm⟩ S''
    with_reducible refine wpAny_execs_nil ?_
    with_reducible refine Hid.out (by assumption) ?_
    with_reducible refine wpAny_execs_nil ?_
    exact h _ S''.pop

theorem heappop_c {as : List Addr} {P : Addr → Int × Int} (r : Rm A 8) (S : SS G (f₀ :: fs) V s) (hV : V l = some (.rlist as)) (hP : ∀ b ∈ as, V b = some (.itup [(P b).1, (P b).2]))
    (hne : 0 < as.length) (hl : as.length < 1000) (h : ∀ s', SS G (f₀ :: fs) (upd V l (.rlist (hpop (fun a b => pLt (P a) (P b)) as))) s' → Q (.ref (as.getD 0 0)) s') :
    wpAny (model PP w) A (call (.ref 28) [.ref l]) Q E s := by
  refine enter [(Str.ofString "heap", .ref l)] S (by k_is) (by k_is) r.room (BindsTo.of_eq rfl) (locs rfl) (by decide) rfl rfl rfl ?_
  intro L s₁ S₁
  simp only [lvOf, List.foldl, er] at S₁
  have r' : ∀ env, Rm (A.deeper env) 7 := fun _ => r.deeper
  obtain ⟨xs, z, rfl⟩ : ∃ xs z, as = xs ++ [z] := ⟨as.dropLast, as.getLast (by intro e; rw [e] at hne; exact absurd hne (by decide)), (List.dropLast_concat_getLast _).symm⟩
  rw [List.length_append, List.length_singleton] at hl
  with_reducible refine cons_hid ?_; intro _ _
  refine wpAny_Assign_Name ?_
  refine MethodCall_ ?_
  refine nm_r (by assumption) (by walk_at "lk") ?_
  refine met_rl (by assumption) hV PySem.F.slot_list_pop PySem.F.type_list_pop ?_
  refine callWith_method0 ?_
  refine pop_rl (by assumption) hV (by omega) ?_
  intro s2 S2
  refine sto (by assumption) ?_; intro _ _
  with_reducible refine Hid.out (by assumption) ?_
  with_reducible refine cons_hid ?_; intro _ _
  with_reducible refine wpAny_If ?_
  refine wpAny_isTrue_value ?_
  refine nm_r (by assumption) (by walk_at "lk") ?_
  refine tru_rl (by assumption) upd_eq (by omega) ?_
  intro s3 S3
  cases xs with
  | nil =>
    rw [show (!(List.isEmpty ([] : List Addr))) = false from rfl]
    with_reducible refine ifF ?_
    with_reducible refine wpAny_execs_nil ?_
    with_reducible refine Hid.out (by assumption) ?_
    with_reducible refine cons_hid ?_; intro _ _
    with_reducible refine wpAny_Return_some ?_
    refine nm_r (by assumption) (by walk_at "lk") ?_
    with_reducible refine Hid.out (by assumption) ?_
    exact h _ S3.pop
  | cons y ys =>
    rw [show (!(List.isEmpty (y :: ys))) = true from rfl]
    rw [List.length_cons] at hl
    with_reducible refine ifT ?_
    with_reducible refine cons_hid ?_; intro _ _
    refine wpAny_Assign_Name ?_
    with_reducible refine Subscript_ ?_
    refine nm_r (by assumption) (by walk_at "lk") ?_
    with_reducible refine c_int (by assumption) ?_; intro _ _ _
    refine sub_rl' (by assumption) upd_eq (by decide) (by rw [List.length_cons]; exact Nat.succ_pos _) (by rw [List.length_cons]; omega) ?_
    refine sto (by assumption) ?_; intro _ _
    with_reducible refine Hid.out (by assumption) ?_
    with_reducible refine cons_hid ?_; intro _ _
    refine wpAny_Assign_Subscript ?_
    refine nm_r (by assumption) (by walk_at "lk") ?_
    refine nm_r (by assumption) (by walk_at "lk") ?_
    with_reducible refine c_int (by assumption) ?_; intro _ _ _
    refine set_rl (by assumption) upd_eq (by decide) (by rw [List.length_cons]; omega) (by rw [List.length_cons]; omega) ?_
    intro s4 S4
    rw [upd_upd] at S4
    with_reducible refine Hid.out (by assumption) ?_
    with_reducible refine cons_hid ?_; intro _ _
    refine wpAny_Expr_any ?_
    refine wpAny_Call_NameR ?_
    refine nm_g (by assumption) (by k_is) ?_
    refine callWith_K (SS.K (by assumption)) (by k_is) ?_
    refine wpAny_items_cons ?_
    refine nm_r (by assumption) (by walk_at "lk") ?_
    refine wpAny_items_cons ?_
    with_reducible refine c_int (by assumption) ?_; intro _ _ _
    with_reducible refine wpAny_items_nil ?_
    refine ⟨SS.K (by assumption), ?_⟩
    have hm : ∀ b ∈ (y :: ys).set (Int.toNat 0) z, b ∈ y :: ys ++ [z] := set_sub (fun x hx => List.mem_append_left _ hx) (List.mem_append_right _ (.head _))
    refine siftup_c (pos := 0) (as := (y :: ys).set (Int.toNat 0) z) (P := P) ((r' _).le (by decide)) (by assumption) upd_eq (fun b hb => upd_tup hV (hP _ (hm b hb))) (by rw [List.length_set, List.length_cons]; omega) (by rw [List.length_set, List.length_cons]; omega) ?_
    intro s5 S5
    rw [upd_upd] at S5
    with_reducible refine Hid.out (by assumption) ?_
    with_reducible refine cons_hid ?_; intro _ _
    with_reducible refine wpAny_Return_some ?_
    refine nm_r (by assumption) (by walk_at "lk") ?_
    with_reducible refine Hid.out (by assumption) ?_
    with_reducible refine Hid.out (by assumption) ?_
    refine h _ ?_
    have e : hpop (fun a b => pLt (P a) (P b)) (y :: ys ++ [z]) = sup (fun a b => pLt (P a) (P b)) ((y :: ys).set (Int.toNat 0) z) 0 := by
      unfold hpop
      rw [if_neg (by simp), List.dropLast_concat, List.getLastD_eq_getLast?, List.getLast?_concat]
      rfl
    rw [e]
    exact S5.pop
end
section
variable {w : World} {G : Gd w} {f₀ : Addr × FK} {fs : Frs} {V V' : View} {s s' : Shared} {l a b : Addr} {A : Around} {E : Value → Shared → Prop} {Q : Value → Shared → Prop}

theorem disp_it {env : Env} {elts : List Expr} {k : Nat} {pos : Pos} (h : wpAny (model PP w) A (spliced (backTo pos (starEach elts env))) (fun vs s₁ => ∃ (G : Gd w) (f₀ : Addr × FK) (fs : Frs) (V : View) (ns : List Int), SS G (f₀ :: fs) V s₁ ∧ IntsAre vs ns ∧ ns.length < 1000000 ∧ ∀ b s', V b = none → SS G (f₀ :: fs) (upd V b (.itup ns)) s' → Q (.ref b) s') E s) :
    wpAny (model PP w) A (eval (.Tuple elts k pos) env) Q E s :=
  wpAny_Tuple (wpAny_mono h (fun vs s₁ ⟨G, f₀, fs, V, ns, S, hI, hl, hq⟩ => tup_done S hI hl hq) fun _ _ x => x)
theorem disp_il {env : Env} {elts : List Expr} {pos : Pos} (h : wpAny (model PP w) A (spliced (backTo pos (starEach elts env))) (fun vs s₁ => ∃ (G : Gd w) (f₀ : Addr × FK) (fs : Frs) (V : View) (ns : List Int), SS G (f₀ :: fs) V s₁ ∧ IntsAre vs ns ∧ ns.length < 1000000 ∧ ∀ b s', V b = none → SS G (f₀ :: fs) (upd V b (.ilist ns)) s' → Q (.ref b) s') E s) :
    wpAny (model PP w) A (eval (.List elts pos) env) Q E s :=
  wpAny_List (wpAny_mono h (fun vs s₁ ⟨G, f₀, fs, V, ns, S, hI, hl, hq⟩ => ils_done S hI hl hq) fun _ _ x => x)
theorem disp_rl {env : Env} {elts : List Expr} {pos : Pos} (h : wpAny (model PP w) A (spliced (backTo pos (starEach elts env))) (fun vs s₁ => ∃ (G : Gd w) (f₀ : Addr × FK) (fs : Frs) (V : View) (as : List Addr), SS G (f₀ :: fs) V s₁ ∧ vs = as.map Value.ref ∧ as.length < 1000000 ∧ ∀ b s', V b = none → SS G (f₀ :: fs) (upd V b (.rlist as)) s' → Q (.ref b) s') E s) :
    wpAny (model PP w) A (eval (.List elts pos) env) Q E s :=
  wpAny_List (wpAny_mono h (fun vs s₁ ⟨G, f₀, fs, V, as, S, hI, hl, hq⟩ => by subst hI; exact rls_done S hl hq) fun _ _ x => x)

theorem div2n1n_c {x y : Int} {n : Nat} {t u v : Tok} (r : Rm A 2) (S : SS G (f₀ :: fs) V s) (hx : x.natAbs < 2 ^ 1000) (hy : y ≠ 0) (hy2 : y.natAbs < 1073741824)
    (h : ∀ b s', V b = none → SS G (f₀ :: fs) (upd V b (.itup [x.fdiv y, x.fmod y])) s' → Q (.ref b) s') :
    wpAny (model PP w) A (call (.ref 56) [.int x t, .int y u, .int n v]) Q E s := by
  refine enter [(Str.ofString "a", .int x t), (Str.ofString "b", .int y u), (Str.ofString "n", .int n v)] S (by k_is) (by k_is) r.room (BindsTo.of_eq rfl) (locs rfl) (by decide) rfl rfl rfl ?_
  intro L s₁ S₁
  simp only [lvOf, List.foldl, er] at S₁
  have hb := intBits_le hx
  with_reducible refine cons_hid ?_; intro _ _
  with_reducible refine wpAny_If ?_
  refine wpAny_isTrue_Compare1 ?_
  with_reducible refine wpAny_BinOp ?_
  refine MethodCall_ ?_
  refine nm_i (by assumption) (by walk_at "lk") ?_; intro _
  refine getMethod_int_bit_length ?_
  refine callWith_method0 ?_
  refine bl_i (by assumption) ?_; intro _ _ _
  refine nm_i (by assumption) (by walk_at "lk") ?_; intro _
  with_reducible refine sub_i (by assumption) ?_; intro _ _ _
  refine nm_g (by assumption) (by k_is) ?_
  with_reducible refine P.le_int ?_
  with_reducible refine wpAny_truthy_bool ?_
  rw [if_pos (decide_eq_true (by omega))]
  with_reducible refine cons_hid ?_; intro _ _
  with_reducible refine wpAny_Return_some ?_
  refine wpAny_Call_NameR ?_
  refine nm_b (by assumption) (by k_is) (by walk_at "bt") (by decide +kernel) ?_
  refine callWith_method1 ?_
  refine wpAny_items_cons ?_
  refine nm_i (by assumption) (by walk_at "lk") ?_; intro _
  refine wpAny_items_cons ?_
  refine nm_i (by assumption) (by walk_at "lk") ?_; intro _
  with_reducible refine wpAny_items_nil ?_
  refine dm_i (by assumption) hy hy2 ?_
  intro b s' hb S'
  with_reducible refine Hid.out (by assumption) ?_
  with_reducible refine Hid.out (by assumption) ?_
  exact h b _ hb S'.pop
end
section
theorem and_high (x s : Nat) : x &&& (x / 2 ^ s * 2 ^ s) = x / 2 ^ s * 2 ^ s := by
  rw [← Nat.shiftRight_eq_div_pow, ← Nat.shiftLeft_eq]
  apply Nat.eq_of_testBit_eq
  intro i
  rw [Nat.testBit_and, Nat.testBit_shiftLeft, Nat.testBit_shiftRight]
  by_cases h : s ≤ i
  · rw [show s + (i - s) = i from by omega]; simp [h]
  · simp [h]
theorem xor_low (x s : Nat) : Builtin.bitXor (x : Int) ((x / 2 ^ s * 2 ^ s : Nat) : Int) = ((x % 2 ^ s : Nat) : Int) := by
  rw [bitXor_and]
  have e : Builtin.bitAnd (x : Int) ((x / 2 ^ s * 2 ^ s : Nat) : Int) = ((x / 2 ^ s * 2 ^ s : Nat) : Int) := by
    unfold Builtin.bitAnd
    rw [decide_eq_true (Int.natCast_nonneg _), decide_eq_true (Int.natCast_nonneg _)]
    simp only [Int.toNat_natCast]
    rw [and_high]
  rw [e]
  have := Nat.div_add_mod x (2 ^ s)
  rw [Nat.mul_comm] at this
  generalize x / 2 ^ s * 2 ^ s = y at *
  omega
/-- the number that digits tell, the lowest first -/
noncomputable def val (n : Nat) : List Nat → Nat
  | [] => 0
  | d :: ds => d + 2 ^ n * val n ds
theorem val_append (n : Nat) : ∀ (a b : List Nat), val n (a ++ b) = val n a + 2 ^ (n * a.length) * val n b
  | [], b => by simp [val]
  | d :: a, b => by
    rw [List.cons_append, val, val, val_append n a b, List.length_cons, Nat.mul_succ, Nat.pow_add, Nat.mul_add, Nat.add_assoc]
    congr 2
    rw [Nat.mul_comm (2 ^ (n * a.length)) (2 ^ n), Nat.mul_assoc]
theorem shr_nat (x s : Nat) : (x : Int).fdiv (2 ^ ((s : Nat) : Int).toNat) = ((x / 2 ^ s : Nat) : Int) := by
  rw [Int.fdiv_eq_ediv_of_nonneg _ (by exact_mod_cast Nat.zero_le (2 ^ s)), Int.toNat_natCast]
  norm_cast
end
section
variable {w : World} {G : Gd w} {f₀ : Addr × FK} {fs : Frs} {V V' : View} {s s' : Shared} {l a b : Addr} {A : Around} {E : Value → Shared → Prop} {Q : Value → Shared → Prop}

theorem cells3 {V : View} {L : Addr} {x y z : Str} {vx vy vz : Option Value} {cs : List (Str × Addr)} {lv : Str → Option Value} (h1 : cs.lookup x = some (L + 1)) (h2 : cs.lookup y = some (L + 2)) (h3 : cs.lookup z = some (L + 3)) (e1 : lv x = vx) (e2 : lv y = vy) (e3 : lv z = vz)
    (a : Addr) (ao : AObj) (h : upd (upd (upd V (L + 1) (.cell vx)) (L + 2) (.cell vy)) (L + 3) (.cell vz) a = some ao) : V a = some ao ∨ ∃ n, cs.lookup n = some a ∧ ao = .cell (lv n) := by
  by_cases q3 : a = L + 3
  · subst q3; rw [upd_eq] at h; cases h; exact .inr ⟨z, h3, by rw [e3]⟩
  · rw [upd_ne q3] at h
    by_cases q2 : a = L + 2
    · subst q2; rw [upd_eq] at h; cases h; exact .inr ⟨y, h2, by rw [e2]⟩
    · rw [upd_ne q2] at h
      by_cases q1 : a = L + 1
      · subst q1; rw [upd_eq] at h; cases h; exact .inr ⟨x, h1, by rw [e1]⟩
      · rw [upd_ne q1] at h; exact .inl h

theorem seg_join {xs a b : List Int} {lo mid hi : Nat} (hm : lo ≤ mid) (hh : mid ≤ hi) (hl : hi ≤ xs.length) (ha : a.length = mid - lo) :
    (xs.take lo ++ a ++ xs.drop mid).take mid ++ b ++ (xs.take lo ++ a ++ xs.drop mid).drop hi = xs.take lo ++ (a ++ b) ++ xs.drop hi := by
  have h1 : (xs.take lo ++ a).length = mid := by rw [List.length_append, List.length_take]; omega
  have e1 : (xs.take lo ++ a ++ xs.drop mid).take mid = xs.take lo ++ a := List.take_left' h1
  have e2 : (xs.take lo ++ a ++ xs.drop mid).drop hi = xs.drop hi := by
    rw [List.drop_append, List.drop_of_length_le (by omega), h1, List.drop_drop, show mid + (hi - mid) = hi from by omega]
    rfl
  rw [e1, e2]; simp
theorem int2digits_c {x n : Nat} {t u : Tok} (r : Rm A 70) (S : SS G (f₀ :: fs) V s) (hx : x < 2 ^ 60) (hn : 1 ≤ n) (hn2 : n ≤ 60)
    (h : ∀ b s' ds, V b = none → val n ds = x → (∀ d ∈ ds, d ≤ x) → ds.length ≤ 60 → SS G (f₀ :: fs) (upd V b (.ilist (ds.map Int.ofNat))) s' → Q (.ref b) s') :
    wpAny (model PP w) A (call (.ref 70) [.int x t, .int n u]) Q E s := by
  refine enterC [(Str.ofString "a", .int x t), (Str.ofString "n", .int n u)] [(Str.ofString "a", .int x t)] [(Str.ofString "n", .int n u)] (fun L => upd (upd (upd V (L + 1) (.cell (some (.int n 0)))) (L + 2) (.cell none)) (L + 3) (.cell none))
    S (by k_is) (by k_is) r.room rfl ?_ rfl rfl ?_ rfl rfl rfl ?_
  · intro n x hx
    simp only [List.mem_cons, List.not_mem_nil, or_false] at hx
    rcases hx with rfl | rfl
    · exact .inl rfl
    · exact .inr ⟨rfl, rfl⟩
  · intro L a ao h
    exact cells3 (L := L) (x := Str.ofString "n") (y := Str.ofString "a_digits") (z := Str.ofString "inner") rfl rfl rfl rfl rfl rfl a ao h
  intro L s₁ hfr S₁
  simp only [lvOf, List.foldl, er] at S₁
  have hb := intBits_le (a := (x : Int)) (k := 60) (by simpa using hx)
  have r' : ∀ env, Rm (A.deeper env) 69 := fun _ => r.deeper
  with_reducible refine cons_hid ?_; intro _ _
  refine wpAny_Assign_Name ?_
  with_reducible refine wpAny_BinOp ?_
  refine disp_il ?_
  refine wpAny_items_cons ?_
  with_reducible refine c_int (by assumption) ?_; intro _ _ _
  with_reducible refine wpAny_items_nil ?_
  refine ⟨G, _, _, _, [0], by assumption, .cons _ _ .nil, by decide, ?_⟩
  intro b0 s2 hb0 S2
  with_reducible refine wpAny_BinOp ?_
  with_reducible refine wpAny_BinOp ?_
  with_reducible refine wpAny_BinOp ?_
  refine MethodCall_ ?_
  refine nm_i (by assumption) (by walk_at "lk") ?_; intro _
  refine getMethod_int_bit_length ?_
  refine callWith_method0 ?_
  refine bl_i (by assumption) ?_; intro _ _ _
  refine nm_ci (by assumption) (by exact rfl) (by walk_at "vw") ?_; intro _
  with_reducible refine add_i (by assumption) ?_; intro _ _ _
  with_reducible refine c_int (by assumption) ?_; intro _ _ _
  with_reducible refine sub_i (by assumption) ?_; intro _ _ _
  refine nm_ci (by assumption) (by exact rfl) (by walk_at "vw") ?_; intro _
  with_reducible refine fdiv_i (by assumption) (by first | decide | omega) (by first | decide | omega) ?_; intro _ _ _
  generalize hK : Builtin.Int.intBits (x : Int) = K at *
  have eK : ((K : Int) + (n : Int) - 1).fdiv (n : Int) = (((K + n - 1) / n : Nat) : Int) := by
    rw [Int.fdiv_eq_ediv_of_nonneg _ (by omega), show (K : Int) + (n : Int) - 1 = ((K + n - 1 : Nat) : Int) from by omega]
    norm_cast
  rw [eK]
  have hK2 : (K + n - 1) / n ≤ 60 := Nat.div_le_of_le_mul (by omega)
  have hM0 : x ≠ 0 → 0 < (K + n - 1) / n := fun h0 => Nat.div_pos (by
    have := natAbs_lt_pow_bits (x : Int)
    rw [hK, Int.natAbs_natCast] at this
    cases K with
    | zero => simp at this; omega
    | succ K => omega) hn
  generalize (K + n - 1) / n = M at *
  refine mul_il (by assumption) upd_eq (by omega) (by omega) ?_
  intro b s3 hb3 S3
  rw [Int.toNat_natCast] at S3
  refine sto_c (by assumption) (by exact rfl) (by walk_at "vw") ?_; intro _ _
  with_reducible refine Hid.out (by assumption) ?_
  with_reducible refine cons_hid ?_; intro _ _
  have n1 : ∀ a ao, V a = some ao → a ≠ L + 1 := fun a ao ha => fresh_ne (hfr (L + 1) (Nat.le_add_right _ _)) ha
  have n2 : ∀ a ao, V a = some ao → a ≠ L + 1 + 1 := fun a ao ha => fresh_ne (hfr (L + 1 + 1) (Nat.le_trans (Nat.le_add_right _ _) (Nat.le_add_right _ _))) ha
  have n3 : ∀ a ao, V a = some ao → a ≠ L + 1 + 1 + 1 := fun a ao ha => fresh_ne (hfr (L + 1 + 1 + 1) (Nat.le_trans (Nat.le_add_right _ _) (Nat.le_trans (Nat.le_add_right _ _) (Nat.le_add_right _ _)))) ha
  have hVb : V b = none := by
    cases q : V b with
    | none => rfl
    | some ao =>
      rw [upd_old hb0 ((upd_ne (n3 b ao q)).trans ((upd_ne (n2 b ao q)).trans ((upd_ne (n1 b ao q)).trans q)))] at hb3
      cases hb3
  obtain ⟨W, w1, w2, w3, w4, w5, S4⟩ : ∃ W : View, W (L + 1) = some (.cell (some (.int n 0))) ∧ W (L + 1 + 1) = some (.cell (some (.ref b))) ∧ W (L + 1 + 1 + 1) = some (.cell none) ∧ W b = some (.ilist (List.replicate M 0)) ∧
      (∀ a ao, V a = some ao → W a = some ao) ∧ SS G ((L, .loc (lup (fun x => none) (Str.ofString "a") (Value.int x 0))) :: f₀ :: fs) W _ :=
    ⟨_, by walk_at "vw", by walk_at "vw", by walk_at "vw", (by
      refine (upd_ne (fun e => ?_)).trans upd_eq
      have : upd (upd (upd (upd V (L + 1) (AObj.cell (some (Value.int n 0)))) (L + 2) (AObj.cell none)) (L + 3) (AObj.cell none)) b0 (AObj.ilist [0]) (L + 1 + 1) = some (.cell none) := by walk_at "vw"
      rw [e, this] at hb3; cases hb3), (fun a ao ha => (upd_ne (n2 a ao ha)).trans (upd_old hb3 (upd_old hb0 ((upd_ne (n3 a ao ha)).trans ((upd_ne (n2 a ao ha)).trans ((upd_ne (n1 a ao ha)).trans ha)))))), by assumption⟩
  refine def_in (P := 65) (pos := pos2) (q := q2) (.tail _ (.head _)) G.n2 G.c2 S4 (by rfl) rfl rfl rfl rfl rfl rfl ?_
  intro c' f ctv doc pm s5 hf hcf hC S5
  have hfb : f ≠ b := fun e => by rw [e, w4] at hf; cases hf
  have hcb : c' ≠ b := fun e => by rw [e] at hC; cases hC _ w4
  have hc1 : c' ≠ L + 1 := fun e => by rw [e] at hC; cases hC _ w1
  have hc2 : c' ≠ L + 1 + 1 := fun e => by rw [e] at hC; cases hC _ w2
  have hc3 : c' ≠ L + 1 + 1 + 1 := fun e => by rw [e] at hC; cases hC _ w3
  have hf1 : f ≠ L + 1 := fun e => by rw [e, w1] at hf; cases hf
  have hf2 : f ≠ L + 1 + 1 := fun e => by rw [e, w2] at hf; cases hf
  have hf3 : f ≠ L + 1 + 1 + 1 := fun e => by rw [e, w3] at hf; cases hf
  have hb31 : b ≠ L + 1 + 1 + 1 := fun e => by rw [e, w3] at w4; cases w4
  refine sto_c (by assumption) (by exact rfl) (by walk_at "vw") ?_; intro _ _
  rename_i s6 S6
  generalize hW2 : upd (upd (upd W c' (AObj.code q2)) f _) (L + 1 + 1 + 1) _ = W2 at S6
  have v1 : W2 (L + 1) = some (.cell (some (.int n 0))) := by rw [← hW2]; walk_at "vw"
  have v2 : W2 (L + 1 + 1) = some (.cell (some (.ref b))) := by rw [← hW2]; walk_at "vw"
  have v3 : W2 (L + 1 + 1 + 1) = some (.cell (some (.ref f))) := by rw [← hW2]; walk_at "vw"
  have v4 : W2 b = some (.ilist (List.replicate M 0)) := by rw [← hW2]; walk_at "vw"
  have v5 := id (α := W2 f = some _) (by rw [← hW2]; walk_at "vw")
  have v6 : W2 c' = some (.code q2) := by rw [← hW2]; walk_at "vw"
  have v7 : ∀ a ao, V a = some ao → W2 a = some ao := fun a ao ha => by
    rw [← hW2]
    refine (upd_ne (n3 a ao ha)).trans ?_
    by_cases e : a = c'
    · subst e
      have := hC _ (w5 _ _ ha)
      subst this
      exact (upd_ne hcf).trans upd_eq
    · exact (upd_ne (fun e => by rw [e] at ha; rw [w5 _ _ ha] at hf; cases hf)).trans ((upd_ne e).trans (w5 _ _ ha))
  clear hW2
  have inner_c : ∀ (d : Nat) (y lo hi : Nat) (xs : List Int) (V1 : View) (g1 : Addr × FK) (fs1 : Frs) (s1 : Shared) (A1 : Around) (Q1 E1 : Value → Shared → Prop) (t u v : Tok), hi = lo + d → 0 < d → hi ≤ xs.length → xs.length ≤ 60 → y < 2 ^ 60 → Rm A1 (d + 1) →
      V1 (L + 1) = some (.cell (some (.int n 0))) → V1 (L + 1 + 1) = some (.cell (some (.ref b))) → V1 (L + 1 + 1 + 1) = some (.cell (some (.ref f))) → V1 f = W2 f → V1 c' = some (.code q2) → V1 b = some (.ilist xs) → SS G (g1 :: fs1) V1 s1 →
      (∀ s' seg, seg.length = d → val n seg = y → (∀ z ∈ seg, z ≤ y) → SS G (g1 :: fs1) (upd V1 b (.ilist (xs.take lo ++ seg.map Int.ofNat ++ xs.drop hi))) s' → Q1 .none s') →
      wpAny (model PP w) A1 (call (.ref f) [.int y t, .int lo u, .int hi v]) Q1 E1 s1 := by
    intro d
    induction d using Nat.strongRecOn with
    | ind d ih =>
    intro y lo hi xs V1 g1 fs1 s1 A1 Q1 E1 t u v hhi hd hle hlen hy r1 u1 u2 u3 u4 u5 u6 S1 hq
    have u4' := u4.trans v5
    refine enterX [(Str.ofString "x", .int y t), (Str.ofString "L", .int lo u), (Str.ofString "R", .int hi v)] S1 (u4.trans v5) u5 r1.room (BindsTo.of_eq rfl) (locs rfl) (by decide) rfl rfl rfl ?_
    intro L1 s2 S2
    simp only [lvOf, List.foldl, er] at S2
    with_reducible refine cons_hid ?_; intro _ _
    with_reducible refine wpAny_If ?_
    refine wpAny_isTrue_Compare1 ?_
    with_reducible refine wpAny_BinOp ?_
    refine nm_i (by assumption) (by walk_at "lk") ?_; intro _
    with_reducible refine c_int (by assumption) ?_; intro _ _ _
    with_reducible refine add_i (by assumption) ?_; intro _ _ _
    refine nm_i (by assumption) (by walk_at "lk") ?_; intro _
    with_reducible refine P.eq_int ?_
    with_reducible refine wpAny_truthy_bool ?_
    split
    · rename_i hc
      have hc : d = 1 := by have := eq_of_beq hc; omega
      subst hc
      with_reducible refine cons_hid ?_; intro _ _
      refine wpAny_Assign_Subscript ?_
      refine nm_i (by assumption) (by walk_at "lk") ?_; intro _
      refine nm_cr (by assumption) (by exact rfl) (by walk_at "vw") ?_
      refine nm_i (by assumption) (by walk_at "lk") ?_; intro _
      refine set_il (by assumption) u6 (by omega) (by omega) (by omega) ?_
      intro s3 S3
      with_reducible refine Hid.out (by assumption) ?_
      with_reducible refine cons_hid ?_; intro _ _
      with_reducible refine wpAny_Return_none ?_
      with_reducible refine Hid.out (by assumption) ?_
      with_reducible refine Hid.out (by assumption) ?_
      refine hq _ [y] rfl (by simp [val]) (by simp) ?_
      have e : xs.take lo ++ [y].map Int.ofNat ++ xs.drop hi = xs.set ((lo : Nat) : Int).toNat (y : Int) := by
        rw [Int.toNat_natCast, List.set_eq_take_append_cons_drop, if_pos (by omega), hhi, List.append_assoc]
        rfl
      rw [e]
      exact S3.pop
    · rename_i hc
      have hc : d ≠ 1 := fun e => hc (by subst e; simp [hhi])
      with_reducible refine wpAny_execs_nil ?_
      with_reducible refine Hid.out (by assumption) ?_
      with_reducible refine cons_hid ?_; intro _ _
      refine wpAny_Assign_Name ?_
      with_reducible refine wpAny_BinOp ?_
      with_reducible refine wpAny_BinOp ?_
      refine nm_i (by assumption) (by walk_at "lk") ?_; intro _
      refine nm_i (by assumption) (by walk_at "lk") ?_; intro _
      with_reducible refine add_i (by assumption) ?_; intro _ _ _
      with_reducible refine c_int (by assumption) ?_; intro _ _ _
      with_reducible refine shr_i (by assumption) (by first | decide | omega) ?_; intro _ _ _
      rw [show ((lo : Int) + (hi : Int)).fdiv (2 ^ (1 : Int).toNat) = (((lo + hi) / 2 : Nat) : Int) from by rw [Int.fdiv_eq_ediv_of_nonneg _ (by decide)]; show ((lo : Int) + hi) / 2 = _; omega]
      have hm1 : lo < (lo + hi) / 2 := by omega
      have hm2 : (lo + hi) / 2 < hi := by omega
      generalize (lo + hi) / 2 = mid at *
      refine sto (by assumption) ?_; intro _ _
      with_reducible refine Hid.out (by assumption) ?_
      with_reducible refine cons_hid ?_; intro _ _
      refine wpAny_Assign_Name ?_
      with_reducible refine wpAny_BinOp ?_
      with_reducible refine wpAny_BinOp ?_
      refine nm_i (by assumption) (by walk_at "lk") ?_; intro _
      refine nm_i (by assumption) (by walk_at "lk") ?_; intro _
      with_reducible refine sub_i (by assumption) ?_; intro _ _ _
      refine nm_ci (by assumption) (by exact rfl) (by walk_at "vw") ?_; intro _
      with_reducible refine mul_i (by assumption) (by first | decide | omega) ?_; intro _ _ _
      have hsh : (mid - lo) * n ≤ 3600 := Nat.mul_le_mul (by omega : mid - lo ≤ 60) hn2
      rw [show ((mid : Int) - (lo : Int)) * (n : Int) = (((mid - lo) * n : Nat) : Int) from by rw [Int.natCast_mul, Int.natCast_sub (by omega)]]
      generalize hshd : (mid - lo) * n = sh at *
      refine sto (by assumption) ?_; intro _ _
      with_reducible refine Hid.out (by assumption) ?_
      with_reducible refine cons_hid ?_; intro _ _
      refine wpAny_Assign_Name ?_
      with_reducible refine wpAny_BinOp ?_
      refine nm_i (by assumption) (by walk_at "lk") ?_; intro _
      refine nm_i (by assumption) (by walk_at "lk") ?_; intro _
      with_reducible refine shr_i (by assumption) (by first | decide | omega) ?_; intro _ _ _
      rw [shr_nat]
      refine sto (by assumption) ?_; intro _ _
      with_reducible refine Hid.out (by assumption) ?_
      with_reducible refine cons_hid ?_; intro _ _
      refine wpAny_Assign_Name ?_
      with_reducible refine wpAny_BinOp ?_
      refine nm_i (by assumption) (by walk_at "lk") ?_; intro _
      with_reducible refine wpAny_BinOp ?_
      refine nm_i (by assumption) (by walk_at "lk") ?_; intro _
      refine nm_i (by assumption) (by walk_at "lk") ?_; intro _
      have hup : y / 2 ^ sh ≤ y := Nat.div_le_self _ _
      have hlow : y % 2 ^ sh ≤ y := Nat.mod_le _ _
      refine shl_i (by assumption) (by omega) (by omega) (by rw [Int.natAbs_natCast]; omega) ?_
      intro _ _ _
      with_reducible refine xor_i (by assumption) ?_; intro _ _ _
      rw [show ((y / 2 ^ sh : Nat) : Int) * 2 ^ ((sh : Nat) : Int).toNat = ((y / 2 ^ sh * 2 ^ sh : Nat) : Int) from by rw [Int.toNat_natCast]; norm_cast, xor_low]
      refine sto (by assumption) ?_; intro _ _
      with_reducible refine Hid.out (by assumption) ?_
      with_reducible refine cons_hid ?_; intro _ _
      refine wpAny_Expr_any ?_
      refine wpAny_Call_NameR ?_
      refine nm_cr (by assumption) (by exact rfl) (by walk_at "vw") ?_
      refine callWith_F (SS.fnAt (by assumption) (by walk_at "vw")) ?_
      refine wpAny_items_cons ?_
      refine nm_i (by assumption) (by walk_at "lk") ?_; intro _
      refine wpAny_items_cons ?_
      refine nm_i (by assumption) (by walk_at "lk") ?_; intro _
      refine wpAny_items_cons ?_
      refine nm_i (by assumption) (by walk_at "lk") ?_; intro _
      with_reducible refine wpAny_items_nil ?_
      refine ⟨SS.fnAt (by assumption) (by walk_at "vw"), ?_⟩
      have hr1 : ∀ env, Rm (A1.deeper env) d := fun _ => r1.deeper
      have m1 : L + 1 ≠ b := fun e => by rw [e, u6] at u1; cases u1
      have m2 : L + 1 + 1 ≠ b := fun e => by rw [e, u6] at u2; cases u2
      have m3 : L + 1 + 1 + 1 ≠ b := fun e => by rw [e, u6] at u3; cases u3
      refine ih (mid - lo) (by omega) (y % 2 ^ sh) lo mid xs V1 _ _ _ _ _ _ _ _ _ (by omega) (by omega) (by omega) hlen (by omega) ((hr1 _).le (by omega)) u1 u2 u3 u4 u5 u6 (by assumption) ?_
      intro s7 seg1 l1 e1 b1 S7
      with_reducible refine Hid.out (by assumption) ?_
      with_reducible refine cons_hid ?_; intro _ _
      refine wpAny_Expr_any ?_
      refine wpAny_Call_NameR ?_
      refine nm_cr (by assumption) (by exact rfl) (by walk_at "vw") ?_
      refine callWith_F (SS.fnAt (by assumption) (by walk_at "vw")) ?_
      refine wpAny_items_cons ?_
      refine nm_i (by assumption) (by walk_at "lk") ?_; intro _
      refine wpAny_items_cons ?_
      refine nm_i (by assumption) (by walk_at "lk") ?_; intro _
      refine wpAny_items_cons ?_
      refine nm_i (by assumption) (by walk_at "lk") ?_; intro _
      with_reducible refine wpAny_items_nil ?_
      refine ⟨SS.fnAt (by assumption) (by walk_at "vw"), ?_⟩
      have ll : (xs.take lo ++ seg1.map Int.ofNat ++ xs.drop mid).length = xs.length := by
        rw [List.length_append, List.length_append, List.length_map, List.length_take, List.length_drop, l1]; omega
      refine ih (hi - mid) (by omega) (y / 2 ^ sh) mid hi (xs.take lo ++ seg1.map Int.ofNat ++ xs.drop mid) (upd V1 b (.ilist (xs.take lo ++ seg1.map Int.ofNat ++ xs.drop mid))) _ _ _ _ _ _ _ _ _ (by omega) (by omega) (by omega) (by omega) (by omega) ((hr1 _).le (by omega))
        ((upd_ne m1).trans u1) ((upd_ne m2).trans u2) ((upd_ne m3).trans u3) ((upd_ne hfb).trans u4) ((upd_ne hcb).trans u5) upd_eq (by assumption) ?_
      intro s8 seg2 l2 e2 b2 S8
      rw [upd_upd] at S8
      with_reducible refine Hid.out (by assumption) ?_
      with_reducible refine wpAny_execs_nil ?_
      refine hq _ (seg1 ++ seg2) (by rw [List.length_append]; omega) ?_ (fun z hz => ?_) ?_
      · rw [val_append, l1, e1, e2, show n * (mid - lo) = sh from by rw [Nat.mul_comm]; exact hshd]
        exact Nat.mod_add_div _ _
      · rcases List.mem_append.mp hz with hz | hz
        · exact Nat.le_trans (b1 z hz) hlow
        · exact Nat.le_trans (b2 z hz) hup
      · rw [seg_join (by omega) (by omega) hle (by rw [List.length_map]; exact l1), ← List.map_append] at S8
        exact S8.pop
  have back : ∀ (o : AObj) (s' : Shared) (g : Addr × FK), SS G (g :: f₀ :: fs) (upd W2 b o) s' → SS G (f₀ :: fs) (upd V b o) s' := fun o s' g S' => S'.pop.weak fun a ao e => by
    by_cases q : a = b
    · subst q; rw [upd_eq] at e ⊢; exact e
    · rw [upd_ne q] at e ⊢; exact v7 a ao e
  with_reducible refine Hid.out (by assumption) ?_
  with_reducible refine cons_hid ?_; intro _ _
  with_reducible refine wpAny_If ?_
  refine wpAny_isTrue_value ?_
  refine nm_i (by assumption) (by walk_at "lk") ?_; intro _
  with_reducible refine P.truthy_int ?_
  split
  · rename_i hc
    have hc : x ≠ 0 := fun e => by subst e; simp at hc
    have hM := hM0 hc
    with_reducible refine cons_hid ?_; intro _ _
    refine wpAny_Expr_any ?_
    refine wpAny_Call_NameR ?_
    refine nm_cr (by assumption) (by exact rfl) (by walk_at "vw") ?_
    refine callWith_F (SS.fnAt (by assumption) (by walk_at "vw")) ?_
    refine wpAny_items_cons ?_
    refine nm_i (by assumption) (by walk_at "lk") ?_; intro _
    refine wpAny_items_cons ?_
    with_reducible refine c_int (by assumption) ?_; intro _ _ _
    refine wpAny_items_cons ?_
    refine wpAny_Call_NameR ?_
    refine nm_b (by assumption) (by k_is) (by walk_at "bt") (by decide +kernel) ?_
    refine callWith_method1 ?_
    refine wpAny_items_cons ?_
    refine nm_cr (by assumption) (by exact rfl) (by walk_at "vw") ?_
    with_reducible refine wpAny_items_nil ?_
    refine len_il (by assumption) v4 (by rw [List.length_replicate]; omega) ?_
    rw [List.length_replicate]
    intro _ _ _
    with_reducible refine wpAny_items_nil ?_
    refine ⟨SS.fnAt (by assumption) (by walk_at "vw"), ?_⟩
    refine inner_c M x 0 M (List.replicate M 0) W2 _ _ _ _ _ _ _ _ _ (by omega) hM (by rw [List.length_replicate]; exact Nat.le_refl _) (by rw [List.length_replicate]; exact hK2) hx ((r' _).le (by omega)) v1 v2 v3 rfl v6 v4 (by assumption) ?_
    intro s9 seg l1 e1 b1 S9
    have m2 : L + 1 + 1 ≠ b := fun e => by rw [e, v4] at v2; cases v2
    with_reducible refine Hid.out (by assumption) ?_
    with_reducible refine wpAny_execs_nil ?_
    with_reducible refine Hid.out (by assumption) ?_
    with_reducible refine cons_hid ?_; intro _ _
    with_reducible refine wpAny_Return_some ?_
    refine nm_cr (by assumption) (by exact rfl) (by walk_at "vw") ?_
    with_reducible refine Hid.out (by assumption) ?_
    rw [List.take_zero, List.drop_of_length_le (by rw [List.length_replicate]; exact Nat.le_refl _), List.nil_append, List.append_nil] at S9
    exact h b _ seg hVb e1 b1 (by omega) (back _ _ _ S9)
  · rename_i hc
    have hc : x = 0 := by
      cases x with
      | zero => rfl
      | succ x => exact absurd (by simp; omega) hc
    with_reducible refine wpAny_execs_nil ?_
    with_reducible refine Hid.out (by assumption) ?_
    with_reducible refine cons_hid ?_; intro _ _
    with_reducible refine wpAny_Return_some ?_
    refine nm_cr (by assumption) (by exact rfl) (by walk_at "vw") ?_
    with_reducible refine Hid.out (by assumption) ?_
    have e0 : ∀ M, val n (List.replicate M 0) = 0 := fun M => by
      induction M with
      | zero => rfl
      | succ M ih => rw [List.replicate_succ, val, ih]; rfl
    refine h b _ (List.replicate M 0) hVb (by rw [e0, hc]) (fun d hd => by rw [List.eq_of_mem_replicate hd]; exact Nat.zero_le _) (by rw [List.length_replicate]; exact hK2) (back _ _ (L, .loc (lup (fun x => none) (Str.ofString "a") (Value.int x 0))) ?_)
    rw [List.map_replicate, show Int.ofNat 0 = 0 from rfl, upd_same v4]
    assumption
end
section
variable {w : World} {G : Gd w} {f₀ : Addr × FK} {fs : Frs} {V V' : View} {s s' : Shared} {l a b : Addr} {A : Around} {E : Value → Shared → Prop} {Q : Value → Shared → Prop}

/-- the digits from lo up to hi -/
noncomputable def sg (ds : List Nat) (lo hi : Nat) : List Nat := (ds.drop lo).take (hi - lo)
theorem sg_split {ds : List Nat} {lo mid hi : Nat} (h1 : lo ≤ mid) (h2 : mid ≤ hi) : sg ds lo hi = sg ds lo mid ++ sg ds mid hi := by
  unfold sg
  rw [show hi - lo = (mid - lo) + (hi - mid) from by omega, List.take_add, List.drop_drop, show lo + (mid - lo) = mid from by omega]
theorem sg_len {ds : List Nat} {lo hi : Nat} (h1 : lo ≤ hi) (h2 : hi ≤ ds.length) : (sg ds lo hi).length = hi - lo := by
  unfold sg; rw [List.length_take, List.length_drop]; omega
theorem val_le_left (n : Nat) (a b : List Nat) : val n a ≤ val n (a ++ b) := by rw [val_append]; exact Nat.le_add_right _ _
theorem val_le_right (n : Nat) (a b : List Nat) : val n b ≤ val n (a ++ b) := by
  rw [val_append]
  exact Nat.le_trans (Nat.le_mul_of_pos_left _ (Nat.two_pow_pos _)) (Nat.le_add_left _ _)
theorem sg_val_le (n : Nat) (ds : List Nat) (lo hi : Nat) : val n (sg ds lo hi) ≤ val n ds := by
  unfold sg
  have h1 : val n ((ds.drop lo).take (hi - lo)) ≤ val n (ds.drop lo) := by
    conv => rhs; rw [← List.take_append_drop (hi - lo) (ds.drop lo)]
    exact val_le_left _ _ _
  have h2 : val n (ds.drop lo) ≤ val n ds := by
    conv => rhs; rw [← List.take_append_drop lo ds]
    exact val_le_right _ _ _
  exact Nat.le_trans h1 h2
theorem sg_one {ds : List Nat} {lo : Nat} (n : Nat) (h : lo < ds.length) : val n (sg ds lo (lo + 1)) = ds.getD lo 0 := by
  unfold sg
  rw [show lo + 1 - lo = 1 from by omega, List.drop_eq_getElem_cons h, List.take_succ_cons, List.take_zero]
  show ds[lo] + 2 ^ n * 0 = _
  simp [List.getD, h]

theorem digits2int_c {ds : List Nat} {n : Nat} {u : Tok} (r : Rm A 70) (S : SS G (f₀ :: fs) V s) (hV : V l = some (.ilist (ds.map Int.ofNat))) (hd : ds.length ≤ 60) (hv : val n ds < 2 ^ 60) (hn2 : n ≤ 60)
    (h : ∀ t s', SS G (f₀ :: fs) V s' → Q (.int (val n ds) t) s') :
    wpAny (model PP w) A (call (.ref 77) [.ref l, .int n u]) Q E s := by
  refine enterC [(Str.ofString "digits", .ref l), (Str.ofString "n", .int n u)] [] [(Str.ofString "digits", .ref l), (Str.ofString "n", .int n u)] (fun L => upd (upd (upd V (L + 1) (.cell (some (.ref l)))) (L + 2) (.cell (some (.int n 0)))) (L + 3) (.cell none))
    S (by k_is) (by k_is) r.room rfl ?_ rfl rfl ?_ rfl rfl rfl ?_
  · intro n x hx
    simp only [List.mem_cons, List.not_mem_nil, or_false] at hx
    rcases hx with rfl | rfl
    · exact .inr ⟨rfl, rfl⟩
    · exact .inr ⟨rfl, rfl⟩
  · intro L a ao h
    exact cells3 (L := L) (x := Str.ofString "digits") (y := Str.ofString "n") (z := Str.ofString "inner") rfl rfl rfl rfl rfl rfl a ao h
  intro L s₁ hfr S₁
  simp only [lvOf, List.foldl, er] at S₁
  have r' : ∀ env, Rm (A.deeper env) 69 := fun _ => r.deeper
  have n1 : ∀ a ao, V a = some ao → a ≠ L + 1 := fun a ao ha => fresh_ne (hfr (L + 1) (Nat.le_add_right _ _)) ha
  have n2 : ∀ a ao, V a = some ao → a ≠ L + 1 + 1 := fun a ao ha => fresh_ne (hfr (L + 1 + 1) (Nat.le_trans (Nat.le_add_right _ _) (Nat.le_add_right _ _))) ha
  have n3 : ∀ a ao, V a = some ao → a ≠ L + 1 + 1 + 1 := fun a ao ha => fresh_ne (hfr (L + 1 + 1 + 1) (Nat.le_trans (Nat.le_add_right _ _) (Nat.le_trans (Nat.le_add_right _ _) (Nat.le_add_right _ _)))) ha
  obtain ⟨W, w1, w2, w3, w5, S4⟩ : ∃ W : View, W (L + 1) = some (.cell (some (.ref l))) ∧ W (L + 1 + 1) = some (.cell (some (.int n 0))) ∧ W (L + 1 + 1 + 1) = some (.cell none) ∧
      (∀ a ao, V a = some ao → W a = some ao) ∧ SS G ((L, .loc (fun x => none)) :: f₀ :: fs) W s₁ :=
    ⟨_, by walk_at "vw", by walk_at "vw", by walk_at "vw", (fun a ao ha => (upd_ne (n3 a ao ha)).trans ((upd_ne (n2 a ao ha)).trans ((upd_ne (n1 a ao ha)).trans ha))), S₁⟩
  clear S₁ S
  have w4 := w5 _ _ hV
  with_reducible refine cons_hid ?_; intro _ _
  refine def_in (P := 72) (pos := pos1) (q := q1) (.head _) G.n1 G.c1 S4 (by rfl) rfl rfl rfl rfl rfl rfl ?_
  intro c' f ctv doc pm s5 hf hcf hC S5
  have hc1 : c' ≠ L + 1 := fun e => by rw [e] at hC; cases hC _ w1
  have hc2 : c' ≠ L + 1 + 1 := fun e => by rw [e] at hC; cases hC _ w2
  have hc3 : c' ≠ L + 1 + 1 + 1 := fun e => by rw [e] at hC; cases hC _ w3
  have hf1 : f ≠ L + 1 := fun e => by rw [e, w1] at hf; cases hf
  have hf2 : f ≠ L + 1 + 1 := fun e => by rw [e, w2] at hf; cases hf
  have hf3 : f ≠ L + 1 + 1 + 1 := fun e => by rw [e, w3] at hf; cases hf
  refine sto_c (by assumption) (by exact rfl) (by walk_at "vw") ?_; intro _ _
  rename_i s6 S6
  generalize hW2 : upd (upd (upd W c' (AObj.code q1)) f _) (L + 1 + 1 + 1) _ = W2 at S6
  have v1 : W2 (L + 1) = some (.cell (some (.ref l))) := by rw [← hW2]; walk_at "vw"
  have v2 : W2 (L + 1 + 1) = some (.cell (some (.int n 0))) := by rw [← hW2]; walk_at "vw"
  have v3 : W2 (L + 1 + 1 + 1) = some (.cell (some (.ref f))) := by rw [← hW2]; walk_at "vw"
  have v5 := id (α := W2 f = some _) (by rw [← hW2]; walk_at "vw")
  have v6 : W2 c' = some (.code q1) := by rw [← hW2]; walk_at "vw"
  have v7 : ∀ a ao, V a = some ao → W2 a = some ao := fun a ao ha => by
    rw [← hW2]
    refine (upd_ne (n3 a ao ha)).trans ?_
    by_cases e : a = c'
    · subst e
      have := hC _ (w5 _ _ ha)
      subst this
      exact (upd_ne hcf).trans upd_eq
    · exact (upd_ne (fun e => by rw [e] at ha; rw [w5 _ _ ha] at hf; cases hf)).trans ((upd_ne e).trans (w5 _ _ ha))
  have v4 := v7 _ _ hV
  clear hW2 S5 S4 hc1 hc2 hc3 hf1 hf2 hf3 hC hf hcf w1 w2 w3 w4 w5 n1 n2 n3
  have inner_c : ∀ (d : Nat) (lo hi : Nat) (g1 : Addr × FK) (fs1 : Frs) (s1 : Shared) (A1 : Around) (Q1 E1 : Value → Shared → Prop) (t u : Tok), hi = lo + d → 0 < d → hi ≤ ds.length → Rm A1 (d + 1) → SS G (g1 :: fs1) W2 s1 →
      (∀ s' t, SS G (g1 :: fs1) W2 s' → Q1 (.int (val n (sg ds lo hi)) t) s') →
      wpAny (model PP w) A1 (call (.ref f) [.int lo t, .int hi u]) Q1 E1 s1 := by
    clear S6 r' h r
    intro d
    induction d using Nat.strongRecOn with
    | ind d ih =>
    intro lo hi g1 fs1 s1 A1 Q1 E1 t u hhi hd0 hle r1 S1 hq
    refine enterX [(Str.ofString "L", .int lo t), (Str.ofString "R", .int hi u)] S1 v5 v6 r1.room (BindsTo.of_eq rfl) (locs rfl) (by decide) rfl rfl rfl ?_
    intro L1 s2 S2
    simp only [lvOf, List.foldl, er] at S2
    with_reducible refine cons_hid ?_; intro _ _
    with_reducible refine wpAny_If ?_
    refine wpAny_isTrue_Compare1 ?_
    with_reducible refine wpAny_BinOp ?_
    refine nm_i (by assumption) (by walk_at "lk") ?_; intro _
    with_reducible refine c_int (by assumption) ?_; intro _ _ _
    with_reducible refine add_i (by assumption) ?_; intro _ _ _
    refine nm_i (by assumption) (by walk_at "lk") ?_; intro _
    with_reducible refine P.eq_int ?_
    with_reducible refine wpAny_truthy_bool ?_
    split
    · rename_i hc
      have hc : d = 1 := by have := eq_of_beq hc; omega
      subst hc
      with_reducible refine cons_hid ?_; intro _ _
      with_reducible refine wpAny_Return_some ?_
      with_reducible refine Subscript_ ?_
      refine nm_cr (by assumption) (by exact rfl) (by walk_at "vw") ?_
      refine nm_i (by assumption) (by walk_at "lk") ?_; intro _
      refine sub_il (by assumption) v4 (n := ((ds.getD lo 0 : Nat) : Int)) (by omega) (by omega) ?_ ?_
      · rw [Int.toNat_natCast, List.getElem?_map]
        simp [List.getD, show lo < ds.length from by omega]
      intro t
      with_reducible refine Hid.out (by assumption) ?_
      with_reducible refine Hid.out (by assumption) ?_
      rw [hhi] at hq
      rw [← sg_one n (by omega)]
      exact hq _ _ (SS.pop (by assumption))
    · rename_i hc
      have hc : d ≠ 1 := fun e => hc (by subst e; simp [hhi])
      with_reducible refine wpAny_execs_nil ?_
      with_reducible refine Hid.out (by assumption) ?_
      with_reducible refine cons_hid ?_; intro _ _
      refine wpAny_Assign_Name ?_
      with_reducible refine wpAny_BinOp ?_
      with_reducible refine wpAny_BinOp ?_
      refine nm_i (by assumption) (by walk_at "lk") ?_; intro _
      refine nm_i (by assumption) (by walk_at "lk") ?_; intro _
      with_reducible refine add_i (by assumption) ?_; intro _ _ _
      with_reducible refine c_int (by assumption) ?_; intro _ _ _
      with_reducible refine shr_i (by assumption) (by first | decide | omega) ?_; intro _ _ _
      rw [show ((lo : Int) + (hi : Int)).fdiv (2 ^ (1 : Int).toNat) = (((lo + hi) / 2 : Nat) : Int) from by rw [Int.fdiv_eq_ediv_of_nonneg _ (by decide)]; show ((lo : Int) + hi) / 2 = _; omega]
      have hm1 : lo < (lo + hi) / 2 := by omega
      have hm2 : (lo + hi) / 2 < hi := by omega
      generalize (lo + hi) / 2 = mid at *
      refine sto (by assumption) ?_; intro _ _
      with_reducible refine Hid.out (by assumption) ?_
      with_reducible refine cons_hid ?_; intro _ _
      refine wpAny_Assign_Name ?_
      with_reducible refine wpAny_BinOp ?_
      with_reducible refine wpAny_BinOp ?_
      refine nm_i (by assumption) (by walk_at "lk") ?_; intro _
      refine nm_i (by assumption) (by walk_at "lk") ?_; intro _
      with_reducible refine sub_i (by assumption) ?_; intro _ _ _
      refine nm_ci (by assumption) (by exact rfl) (by walk_at "vw") ?_; intro _
      with_reducible refine mul_i (by assumption) (by first | decide | omega) ?_; intro _ _ _
      have hsh : (mid - lo) * n ≤ 3600 := Nat.mul_le_mul (by omega : mid - lo ≤ 60) hn2
      rw [show ((mid : Int) - (lo : Int)) * (n : Int) = (((mid - lo) * n : Nat) : Int) from by rw [Int.natCast_mul, Int.natCast_sub (by omega)]]
      generalize hshd : (mid - lo) * n = sh at *
      have hr1 : ∀ env, Rm (A1.deeper env) d := fun _ => r1.deeper
      refine sto (by assumption) ?_; intro _ _
      with_reducible refine Hid.out (by assumption) ?_
      with_reducible refine cons_hid ?_; intro _ _
      with_reducible refine wpAny_Return_some ?_
      with_reducible refine wpAny_BinOp ?_
      with_reducible refine wpAny_BinOp ?_
      refine wpAny_Call_NameR ?_
      refine nm_cr (by assumption) (by exact rfl) (by walk_at "vw") ?_
      refine callWith_F (SS.fnAt (by assumption) (by walk_at "vw")) ?_
      refine wpAny_items_cons ?_
      refine nm_i (by assumption) (by walk_at "lk") ?_; intro _
      refine wpAny_items_cons ?_
      refine nm_i (by assumption) (by walk_at "lk") ?_; intro _
      with_reducible refine wpAny_items_nil ?_
      refine ⟨SS.fnAt (by assumption) (by walk_at "vw"), ?_⟩
      refine ih (hi - mid) (by omega) mid hi _ _ _ _ _ _ _ _ (by omega) (by omega) (by omega) ((hr1 _).le (by omega)) (by assumption) ?_
      intro s7 t7 S7
      refine nm_i (by assumption) (by walk_at "lk") ?_; intro _
      have hb2 := sg_val_le n ds mid hi
      refine shl_i (by assumption) (by omega) (by omega) (by rw [Int.natAbs_natCast]; omega) ?_
      intro _ _ _
      refine wpAny_Call_NameR ?_
      refine nm_cr (by assumption) (by exact rfl) (by walk_at "vw") ?_
      refine callWith_F (SS.fnAt (by assumption) (by walk_at "vw")) ?_
      refine wpAny_items_cons ?_
      refine nm_i (by assumption) (by walk_at "lk") ?_; intro _
      refine wpAny_items_cons ?_
      refine nm_i (by assumption) (by walk_at "lk") ?_; intro _
      with_reducible refine wpAny_items_nil ?_
      refine ⟨SS.fnAt (by assumption) (by walk_at "vw"), ?_⟩
      refine ih (mid - lo) (by omega) lo mid _ _ _ _ _ _ _ _ (by omega) (by omega) (by omega) ((hr1 _).le (by omega)) (by assumption) ?_
      intro s8 t8 S8
      with_reducible refine add_i (by assumption) ?_; intro _ _ _
      with_reducible refine Hid.out (by assumption) ?_
      have e : ((val n (sg ds mid hi) : Nat) : Int) * 2 ^ ((sh : Nat) : Int).toNat + ((val n (sg ds lo mid) : Nat) : Int) = ((val n (sg ds lo hi) : Nat) : Int) := by
        rw [sg_split (by omega : lo ≤ mid) (by omega : mid ≤ hi), val_append, sg_len (by omega) (by omega), Nat.mul_comm n, hshd, Int.toNat_natCast]
        push_cast
        rw [Int.mul_comm, Int.add_comm]
      rw [e]
      exact hq _ _ (SS.pop (by assumption))
  have back : ∀ (s' : Shared) (g : Addr × FK), SS G (g :: f₀ :: fs) W2 s' → SS G (f₀ :: fs) V s' := fun s' g S' => S'.pop.weak v7
  with_reducible refine Hid.out (by assumption) ?_
  with_reducible refine cons_hid ?_; intro _ _
  with_reducible refine wpAny_Return_some ?_
  with_reducible refine wpAny_IfExp ?_
  refine wpAny_isTrue_value ?_
  refine nm_cr (by assumption) (by exact rfl) (by walk_at "vw") ?_
  refine tru_il (by assumption) v4 (by rw [List.length_map]; omega) ?_
  intro s9 S9
  cases hds : ds with
  | nil =>
    subst hds
    rw [show (!(List.isEmpty (List.map Int.ofNat ([] : List Nat)))) = false from rfl]
    with_reducible refine ifF ?_
    with_reducible refine c_int (by assumption) ?_; intro _ _ _
    with_reducible refine Hid.out (by assumption) ?_
    exact h _ _ (back _ _ (by assumption))
  | cons d0 dr =>
    rw [show (!(List.isEmpty (List.map Int.ofNat (d0 :: dr)))) = true from rfl]
    have hl0 : 0 < ds.length := by rw [hds]; exact Nat.succ_pos _
    with_reducible refine ifT ?_
    refine wpAny_Call_NameR ?_
    refine nm_cr (by assumption) (by exact rfl) (by walk_at "vw") ?_
    refine callWith_F (SS.fnAt (by assumption) (by walk_at "vw")) ?_
    refine wpAny_items_cons ?_
    with_reducible refine c_int (by assumption) ?_; intro _ _ _
    refine wpAny_items_cons ?_
    refine wpAny_Call_NameR ?_
    refine nm_b (by assumption) (by k_is) (by walk_at "bt") (by decide +kernel) ?_
    refine callWith_method1 ?_
    refine wpAny_items_cons ?_
    refine nm_cr (by assumption) (by exact rfl) (by walk_at "vw") ?_
    with_reducible refine wpAny_items_nil ?_
    refine len_il (by assumption) v4 (by rw [List.length_map]; omega) ?_
    rw [List.length_map]
    intro _ _ _
    with_reducible refine wpAny_items_nil ?_
    refine ⟨SS.fnAt (by assumption) (by walk_at "vw"), ?_⟩
    refine inner_c ds.length 0 ds.length _ _ _ _ _ _ _ _ (by omega) hl0 (Nat.le_refl _) ((r' _).le (by omega)) (by assumption) ?_
    intro s10 t10 S10
    with_reducible refine Hid.out (by assumption) ?_
    have e : sg ds 0 ds.length = ds := by unfold sg; rw [List.drop_zero]; exact List.take_of_length_le (by omega)
    rw [e]
    exact h _ _ (back _ _ (by assumption))
end
section
variable {w : World} {G : Gd w} {f₀ : Addr × FK} {fs : Frs} {V V' : View} {s s' : Shared} {l a b : Addr} {A : Around} {E : Value → Shared → Prop} {Q : Value → Shared → Prop}
theorem long_step (n b Q r d : Nat) (hb : 0 < b) : (d + 2 ^ n * (b * Q + r)) / b = (r * 2 ^ n + d) / b + 2 ^ n * Q ∧ (d + 2 ^ n * (b * Q + r)) % b = (r * 2 ^ n + d) % b := by
  have e : d + 2 ^ n * (b * Q + r) = (r * 2 ^ n + d) + b * (2 ^ n * Q) := by
    rw [Nat.mul_add, Nat.mul_left_comm, Nat.mul_comm r]; omega
  rw [e]
  exact ⟨Nat.add_mul_div_left _ _ hb, Nat.add_mul_mod_self_left _ _ _⟩

theorem divmod_pos_c {x y : Nat} {t u : Tok} (r : Rm A 72) (S : SS G (f₀ :: fs) V s) (hx : x < 2 ^ 60) (hy : 0 < y) (hy2 : y < 2 ^ 30)
    (h : ∀ b s', V b = none → SS G (f₀ :: fs) (upd V b (.itup [((x / y : Nat) : Int), ((x % y : Nat) : Int)])) s' → Q (.ref b) s') :
    wpAny (model PP w) A (call (.ref 84) [.int x t, .int y u]) Q E s := by
  refine enter [(Str.ofString "a", .int x t), (Str.ofString "b", .int y u)] S (by k_is) (by k_is) r.room (BindsTo.of_eq rfl) (locs rfl) (by decide) rfl rfl rfl ?_
  intro L s₁ S₁
  simp only [lvOf, List.foldl, er] at S₁
  have r' : ∀ env, Rm (A.deeper env) 71 := fun _ => r.deeper
  have hb := intBits_le (a := (y : Int)) (k := 30) (by simpa using hy2)
  have hb1 : 1 ≤ Builtin.Int.intBits (y : Int) := by
    unfold Builtin.Int.intBits
    rw [if_neg (by rw [beq_iff_eq]; omega)]; omega
  with_reducible refine cons_hid ?_; intro _ _
  refine wpAny_Assign_Name ?_
  refine MethodCall_ ?_
  refine nm_i (by assumption) (by walk_at "lk") ?_; intro _
  refine getMethod_int_bit_length ?_
  refine callWith_method0 ?_
  refine bl_i (by assumption) ?_; intro _ _ _
  generalize Builtin.Int.intBits (y : Int) = n at *
  clear S S₁
  refine sto (by assumption) ?_; intro _ _
  with_reducible refine Hid.out (by assumption) ?_
  with_reducible refine cons_hid ?_; intro _ _
  refine wpAny_Assign_Name ?_
  refine wpAny_Call_NameR ?_
  refine nm_g (by assumption) (by k_is) ?_
  refine callWith_K (SS.K (by assumption)) (by k_is) ?_
  refine wpAny_items_cons ?_
  refine nm_i (by assumption) (by walk_at "lk") ?_; intro _
  refine wpAny_items_cons ?_
  refine nm_i (by assumption) (by walk_at "lk") ?_; intro _
  with_reducible refine wpAny_items_nil ?_
  refine ⟨SS.K (by assumption), ?_⟩
  refine int2digits_c ((r' _).le (by decide)) (by assumption) hx hb1 (by omega) ?_
  intro dl s2 ds hdl hval hdle hdlen S2
  refine sto (by assumption) ?_; intro _ _
  with_reducible refine Hid.out (by assumption) ?_
  with_reducible refine cons_hid ?_; intro _ _
  refine wpAny_Assign_Name ?_
  with_reducible refine c_int (by assumption) ?_; intro _ _ _
  refine sto (by assumption) ?_; intro _ _
  with_reducible refine Hid.out (by assumption) ?_
  with_reducible refine cons_hid ?_; intro _ _
  refine wpAny_Assign_Name ?_
  refine disp_il ?_
  with_reducible refine wpAny_items_nil ?_
  refine ⟨G, _, _, _, [], by assumption, .nil, by decide, ?_⟩
  intro ql s3 hql S3
  refine sto (by assumption) ?_; intro _ _
  with_reducible refine Hid.out (by assumption) ?_
  with_reducible refine cons_hid ?_; intro _ _
  refine wpAny_For ?_
  refine wpAny_Call_NameR ?_
  refine nm_b (by assumption) (by k_is) (by walk_at "bt") (by decide +kernel) ?_
  refine PyProof.Rows.callWith_type1 ?_
  refine wpAny_items_cons ?_
  refine nm_r (by assumption) (by walk_at "lk") ?_
  with_reducible refine wpAny_items_nil ?_
  refine rev_il (by assumption) (by walk_at "vw") ?_
  intro I s4 hI S4
  refine wpAny_pyIter_revIter hI ?_
  have hqd : ql ≠ dl := fun e => by rw [e, upd_eq] at hql; cases hql
  refine for_rv (r' _) S4 (by walk_at "vw") (fun i m V' => ∃ qs : List Nat, V' = upd (upd V dl (.ilist (ds.map Int.ofNat))) ql (.ilist (qs.map Int.ofNat)) ∧ qs.length = i ∧ val n qs.reverse = val n (ds.drop (ds.length - i)) / y ∧
    m (Str.ofString "r") = some (.int ((val n (ds.drop (ds.length - i)) % y : Nat) : Int) 0) ∧ m (Str.ofString "n") = some (.int n 0) ∧ m (Str.ofString "b") = some (.int y 0) ∧ m (Str.ofString "q_digits") = some (.ref ql))
    ⟨[], rfl, rfl, by simp [val], by simp [val]; walk_at "lk", by walk_at "lk", by walk_at "lk", by walk_at "lk"⟩ ?_ ?_ ?_
  · rintro i m V' ⟨qs, rfl, _⟩
    exact (upd_ne hqd.symm).trans upd_eq
  · rintro i m V' t it s5 hi ⟨qs, rfl, hqi, hqv, m1, m2, m3, m4⟩ S5
    rw [List.length_map] at hi ⊢
    have hd : ((List.map Int.ofNat ds).getD (ds.length - 1 - i) 0) = ((ds.getD (ds.length - 1 - i) 0 : Nat) : Int) := by
      simp [List.getD, show ds.length - 1 - i < ds.length from by omega]
    rw [hd]
    have hdx : ds.getD (ds.length - 1 - i) 0 ≤ x := hdle _ (by
      have hlt : ds.length - 1 - i < ds.length := by omega
      rw [show ds.getD (ds.length - 1 - i) 0 = ds[ds.length - 1 - i] from by simp [List.getD, hlt]]; exact List.getElem_mem _)
    have hstep : val n (ds.drop (ds.length - (i + 1))) = ds.getD (ds.length - 1 - i) 0 + 2 ^ n * val n (ds.drop (ds.length - i)) := by
      rw [show ds.length - (i + 1) = ds.length - 1 - i from by omega, List.drop_eq_getElem_cons (by omega), show ds.length - 1 - i + 1 = ds.length - i from by omega, val]
      simp [List.getD, show ds.length - 1 - i < ds.length from by omega]
    generalize ds.getD (ds.length - 1 - i) 0 = d at *
    generalize val n (ds.drop (ds.length - i)) = Ai at *
    rw [hstep]
    have hrs := Nat.mod_lt Ai hy
    have hq := long_step n y (Ai / y) (Ai % y) d hy
    rw [Nat.div_add_mod] at hq
    rw [hq.1, hq.2, ← hqv]
    have hpw : (2 : Nat) ^ n ≤ 2 ^ 30 := Nat.pow_le_pow_right (by decide) hb
    have hprod : Ai % y * 2 ^ n ≤ 2 ^ 30 * 2 ^ 30 := Nat.mul_le_mul (by omega) hpw
    generalize Ai % y = R at *
    with_reducible refine wpAny_assign_Name ?_
    refine sto (by assumption) ?_; intro _ _
    with_reducible refine cons_hid ?_; intro _ _
    refine Assign_Tuple ?_
    refine wpAny_Call_NameR ?_
    refine nm_g (by assumption) (by k_is) ?_
    refine callWith_K (SS.K (by assumption)) (by k_is) ?_
    refine wpAny_items_cons ?_
    with_reducible refine wpAny_BinOp ?_
    with_reducible refine wpAny_BinOp ?_
    refine nm_i (by assumption) (by walk_at "lk") ?_; intro _
    refine nm_i (by assumption) (by walk_at "lk") ?_; intro _
    refine shl_i (by assumption) (by omega) (by omega) (by rw [Int.natAbs_natCast]; omega) ?_
    intro _ _ _
    rw [show ((R : Nat) : Int) * 2 ^ ((n : Nat) : Int).toNat = ((R * 2 ^ n : Nat) : Int) from by rw [Int.toNat_natCast]; push_cast; rfl]
    generalize R * 2 ^ n = P at *
    refine nm_i (by assumption) (by walk_at "lk") ?_; intro _
    with_reducible refine add_i (by assumption) ?_; intro _ _ _
    refine wpAny_items_cons ?_
    refine nm_i (by assumption) (by walk_at "lk") ?_; intro _
    refine wpAny_items_cons ?_
    refine nm_i (by assumption) (by walk_at "lk") ?_; intro _
    with_reducible refine wpAny_items_nil ?_
    refine ⟨SS.K (by assumption), ?_⟩
    rw [show ((P : Nat) : Int) + ((d : Nat) : Int) = ((P + d : Nat) : Int) from by push_cast; rfl]
    refine div2n1n_c ((r' _).le (by decide)) (by assumption) (by rw [Int.natAbs_natCast]; exact Nat.lt_trans (by omega : P + d < 2 ^ 64) (Nat.pow_lt_pow_right (by decide) (by decide))) (by omega) (by rw [Int.natAbs_natCast]; omega) ?_
    intro tb s6 htb S6
    rw [show ((P + d : Nat) : Int).fdiv (y : Int) = (((P + d) / y : Nat) : Int) from by rw [Int.fdiv_eq_ediv_of_nonneg _ (by omega)]; norm_cast, show ((P + d : Nat) : Int).fmod (y : Int) = (((P + d) % y : Nat) : Int) from by rw [Int.fmod_eq_emod_of_nonneg _ (by omega)]; norm_cast] at S6
    generalize (P + d) / y = qd at *
    generalize (P + d) % y = R' at *
    skip
    refine asg2 (r' _) (by assumption) upd_eq ?_
    intro _ _ s7 S7
    have S8 := S7.forget htb
    clear S7 S6
    with_reducible refine wpAny_assign_Name ?_
    refine sto (by assumption) ?_; intro _ _
    with_reducible refine wpAny_assign_Name ?_
    refine sto (by assumption) ?_; intro _ _
    with_reducible refine Hid.out (by assumption) ?_
    with_reducible refine cons_hid ?_; intro _ _
    refine wpAny_Expr_any ?_
    refine MethodCall_ ?_
    refine nm_r (by assumption) (by walk_at "lk") ?_
    refine met_il (by assumption) upd_eq PySem.F.slot_list_append PySem.F.type_list_append ?_
    refine callWith_method1 ?_
    refine wpAny_items_cons ?_
    refine nm_i (by assumption) (by walk_at "lk") ?_; intro _
    with_reducible refine wpAny_items_nil ?_
    refine app_il (by assumption) upd_eq (by rw [List.length_map]; omega) ?_
    intro s9 S9
    rw [upd_upd] at S9
    with_reducible refine Hid.out (by assumption) ?_
    with_reducible refine wpAny_execs_nil ?_
    exact ⟨_, _, ⟨qs ++ [qd], by rw [List.map_append]; rfl, by rw [List.length_append, List.length_singleton]; omega, by rw [List.reverse_append]; rfl, by walk_at "lk", by walk_at "lk", by walk_at "lk", by walk_at "lk"⟩, S9⟩
  · rintro m V' s5 ⟨qs, rfl, hqi, hqv, m1, m2, m3, m4⟩ S5
    rw [List.length_map] at hqi hqv m1
    rw [Nat.sub_self, List.drop_zero, hval] at hqv m1
    with_reducible refine wpAny_execs_nil ?_
    with_reducible refine Hid.out (by assumption) ?_
    with_reducible refine cons_hid ?_; intro _ _
    refine wpAny_Expr_any ?_
    refine MethodCall_ ?_
    refine nm_r (by assumption) (by walk_at "lk") ?_
    refine met_il (by assumption) upd_eq PySem.F.slot_list_reverse PySem.F.type_list_reverse ?_
    refine callWith_method0 ?_
    refine turn_il (by assumption) upd_eq (by rw [List.length_map]; omega) ?_
    intro s6 S6
    rw [upd_upd, ← List.map_reverse] at S6
    with_reducible refine Hid.out (by assumption) ?_
    with_reducible refine cons_hid ?_; intro _ _
    refine wpAny_Assign_Name ?_
    refine wpAny_Call_NameR ?_
    refine nm_g (by assumption) (by k_is) ?_
    refine callWith_K (SS.K (by assumption)) (by k_is) ?_
    refine wpAny_items_cons ?_
    refine nm_r (by assumption) (by walk_at "lk") ?_
    refine wpAny_items_cons ?_
    refine nm_i (by assumption) (by walk_at "lk") ?_; intro _
    with_reducible refine wpAny_items_nil ?_
    refine ⟨SS.K (by assumption), ?_⟩
    refine digits2int_c ((r' _).le (by decide)) (by assumption) upd_eq (by rw [List.length_reverse]; omega) (by rw [hqv]; exact Nat.lt_of_le_of_lt (Nat.div_le_self _ _) hx) (by omega) ?_
    intro t7 s7 S7
    rw [hqv]
    refine sto (by assumption) ?_; intro _ _
    with_reducible refine Hid.out (by assumption) ?_
    with_reducible refine cons_hid ?_; intro _ _
    with_reducible refine wpAny_Return_some ?_
    refine disp_it ?_
    refine wpAny_items_cons ?_
    refine nm_i (by assumption) (by walk_at "lk") ?_; intro _
    refine wpAny_items_cons ?_
    refine nm_i (by assumption) (by walk_at "lk") ?_; intro _
    with_reducible refine wpAny_items_nil ?_
    refine ⟨G, _, _, _, [((x / y : Nat) : Int), ((x % y : Nat) : Int)], by assumption, .cons _ _ (.cons _ _ .nil), by show 2 < 1000000; decide, ?_⟩
    intro b s8 hb8 S8
    with_reducible refine Hid.out (by assumption) ?_
    have hbq : b ≠ ql := fun e => by rw [e, upd_eq] at hb8; cases hb8
    rw [upd_ne hbq] at hb8
    have hbd : b ≠ dl := fun e => by rw [e, upd_eq] at hb8; cases hb8
    rw [upd_ne hbd] at hb8
    rw [upd_ne hqd] at hql
    refine h b _ hb8 (S8.pop.weak ?_)
    intro a ao ha
    by_cases e : a = b
    · subst e; rw [upd_eq] at ha ⊢; exact ha
    · rw [upd_ne e] at ha ⊢
      exact upd_old (by rw [upd_ne hqd]; exact hql) (upd_old hdl ha)
end
section
variable {w : World} {G : Gd w} {f₀ : Addr × FK} {fs : Frs} {V V' : View} {s s' : Shared} {l a b : Addr} {A : Around} {E : Value → Shared → Prop} {Q : Value → Shared → Prop}
theorem dv0 {x y : Nat} {t u : Tok} (r : Rm A 73) (S : SS G (f₀ :: fs) V s) (hx : x < 2 ^ 60) (hy : 0 < y) (hy2 : y < 2 ^ 30)
    (h : ∀ b s', V b = none → SS G (f₀ :: fs) (upd V b (.itup [((x / y : Nat) : Int), ((x % y : Nat) : Int)])) s' → Q (.ref b) s') :
    wpAny (model PP w) A (call (.ref 91) [.int x t, .int y u]) Q E s := by
  refine enter [(Str.ofString "a", .int x t), (Str.ofString "b", .int y u)] S (by k_is) (by k_is) r.room (BindsTo.of_eq rfl) (locs rfl) (by decide) rfl rfl rfl ?_
  intro L s₁ S₁
  simp only [lvOf, List.foldl, er] at S₁
  have r' : ∀ env, Rm (A.deeper env) 72 := fun _ => r.deeper
  with_reducible refine cons_hid ?_; intro _ _
  with_reducible refine wpAny_If ?_
  refine wpAny_isTrue_Compare1 ?_
  refine nm_i (by assumption) (by walk_at "lk") ?_; intro _
  with_reducible refine c_int (by assumption) ?_; intro _ _ _
  with_reducible refine P.eq_int ?_
  with_reducible refine wpAny_truthy_bool ?_
  rw [if_neg (by rw [beq_iff_eq]; omega)]
  with_reducible refine cons_hid ?_; intro _ _
  with_reducible refine wpAny_If ?_
  refine wpAny_isTrue_Compare1 ?_
  refine nm_i (by assumption) (by walk_at "lk") ?_; intro _
  with_reducible refine c_int (by assumption) ?_; intro _ _ _
  with_reducible refine P.lt_int ?_
  with_reducible refine wpAny_truthy_bool ?_
  rw [if_neg (by rw [decide_eq_true_eq]; omega)]
  with_reducible refine cons_hid ?_; intro _ _
  with_reducible refine wpAny_If ?_
  refine wpAny_isTrue_Compare1 ?_
  refine nm_i (by assumption) (by walk_at "lk") ?_; intro _
  with_reducible refine c_int (by assumption) ?_; intro _ _ _
  with_reducible refine P.lt_int ?_
  with_reducible refine wpAny_truthy_bool ?_
  rw [if_neg (by rw [decide_eq_true_eq]; omega)]
  with_reducible refine cons_hid ?_; intro _ _
  with_reducible refine wpAny_Return_some ?_
  refine wpAny_Call_NameR ?_
  refine nm_g (by assumption) (by k_is) ?_
  refine callWith_K (SS.K (by assumption)) (by k_is) ?_
  refine wpAny_items_cons ?_
  refine nm_i (by assumption) (by walk_at "lk") ?_; intro _
  refine wpAny_items_cons ?_
  refine nm_i (by assumption) (by walk_at "lk") ?_; intro _
  with_reducible refine wpAny_items_nil ?_
  refine ⟨SS.K (by assumption), ?_⟩
  refine divmod_pos_c (r' _) (by assumption) hx hy hy2 ?_
  intro b s2 hb S2
  with_reducible refine Hid.out (by assumption) ?_
  with_reducible refine Hid.out (by assumption) ?_
  with_reducible refine Hid.out (by assumption) ?_
  with_reducible refine Hid.out (by assumption) ?_
  exact h b _ hb S2.pop

theorem dv1 {x : Int} {y : Nat} {t u : Tok} (r : Rm A 74) (S : SS G (f₀ :: fs) V s) (hx : x.natAbs < 2 ^ 59) (hy : 0 < y) (hy2 : y < 2 ^ 30)
    (h : ∀ b s', V b = none → SS G (f₀ :: fs) (upd V b (.itup [x / y, x % y])) s' → Q (.ref b) s') :
    wpAny (model PP w) A (call (.ref 91) [.int x t, .int y u]) Q E s := by
  rcases Int.lt_or_le x 0 with hneg | hpos
  · refine enter [(Str.ofString "a", .int x t), (Str.ofString "b", .int y u)] S (by k_is) (by k_is) r.room (BindsTo.of_eq rfl) (locs rfl) (by decide) rfl rfl rfl ?_
    intro L s₁ S₁
    simp only [lvOf, List.foldl, er] at S₁
    have r' : ∀ env, Rm (A.deeper env) 73 := fun _ => r.deeper
    with_reducible refine cons_hid ?_; intro _ _
    with_reducible refine wpAny_If ?_
    refine wpAny_isTrue_Compare1 ?_
    refine nm_i (by assumption) (by walk_at "lk") ?_; intro _
    with_reducible refine c_int (by assumption) ?_; intro _ _ _
    with_reducible refine P.eq_int ?_
    with_reducible refine wpAny_truthy_bool ?_
    rw [if_neg (by rw [beq_iff_eq]; omega)]
    with_reducible refine cons_hid ?_; intro _ _
    with_reducible refine wpAny_If ?_
    refine wpAny_isTrue_Compare1 ?_
    refine nm_i (by assumption) (by walk_at "lk") ?_; intro _
    with_reducible refine c_int (by assumption) ?_; intro _ _ _
    with_reducible refine P.lt_int ?_
    with_reducible refine wpAny_truthy_bool ?_
    rw [if_neg (by rw [decide_eq_true_eq]; omega)]
    with_reducible refine cons_hid ?_; intro _ _
    with_reducible refine wpAny_If ?_
    refine wpAny_isTrue_Compare1 ?_
    refine nm_i (by assumption) (by walk_at "lk") ?_; intro _
    with_reducible refine c_int (by assumption) ?_; intro _ _ _
    with_reducible refine P.lt_int ?_
    with_reducible refine wpAny_truthy_bool ?_
    rw [if_pos (by rw [decide_eq_true_eq]; omega)]
    with_reducible refine cons_hid ?_; intro _ _
    refine Assign_Tuple ?_
    refine wpAny_Call_NameR ?_
    refine nm_g (by assumption) (by k_is) ?_
    refine callWith_K (SS.K (by assumption)) (by k_is) ?_
    refine wpAny_items_cons ?_
    with_reducible refine wpAny_UnaryOp ?_
    refine nm_i (by assumption) (by walk_at "lk") ?_; intro _
    with_reducible refine inv_i (by assumption) ?_; intro _ _ _
    refine wpAny_items_cons ?_
    refine nm_i (by assumption) (by walk_at "lk") ?_; intro _
    with_reducible refine wpAny_items_nil ?_
    refine ⟨SS.K (by assumption), ?_⟩
    obtain ⟨z, hz⟩ : ∃ z : Nat, x = -((z : Int) + 1) := ⟨(-x - 1).toNat, by omega⟩
    subst hz
    rw [show Builtin.bitNot (-((z : Int) + 1)) = (z : Int) from by unfold Builtin.bitNot; omega]
    refine dv0 (r' _) (by assumption) (by omega) hy hy2 ?_
    intro tb s2 htb S2
    have e1 : -((z : Int) + 1) / (y : Int) = -((z / y : Nat) : Int) - 1 := by
      have := Int.negSucc_ediv z (b := y) (by omega)
      rw [show -((z : Int) + 1) = Int.negSucc z from by rw [Int.negSucc_eq], this, Int.natCast_ediv]
      show -((z : Int) / (y : Int) + 1) = -((z : Int) / (y : Int)) - 1
      generalize (z : Int) / (y : Int) = g
      omega
    have e2 : -((z : Int) + 1) % (y : Int) = (y : Int) - 1 - ((z % y : Nat) : Int) := by
      rw [Int.emod_def, e1, Int.natCast_emod, Int.emod_def]
      rw [Int.mul_sub, Int.mul_neg, Int.natCast_ediv]
      omega
    rw [e1, e2] at h
    generalize z / y = qd at *
    generalize z % y = R' at *
    skip
    refine asg2 (r' _) (by assumption) upd_eq ?_
    intro _ _ s7 S7
    have S8 := S7.forget htb
    clear S7 S2
    with_reducible refine wpAny_assign_Name ?_
    refine sto (by assumption) ?_; intro _ _
    with_reducible refine wpAny_assign_Name ?_
    refine sto (by assumption) ?_; intro _ _
    with_reducible refine Hid.out (by assumption) ?_
    with_reducible refine cons_hid ?_; intro _ _
    with_reducible refine wpAny_Return_some ?_
    refine disp_it ?_
    refine wpAny_items_cons ?_
    with_reducible refine wpAny_UnaryOp ?_
    refine nm_i (by assumption) (by walk_at "lk") ?_; intro _
    with_reducible refine inv_i (by assumption) ?_; intro _ _ _
    refine wpAny_items_cons ?_
    with_reducible refine wpAny_BinOp ?_
    refine nm_i (by assumption) (by walk_at "lk") ?_; intro _
    with_reducible refine wpAny_UnaryOp ?_
    refine nm_i (by assumption) (by walk_at "lk") ?_; intro _
    with_reducible refine inv_i (by assumption) ?_; intro _ _ _
    with_reducible refine add_i (by assumption) ?_; intro _ _ _
    with_reducible refine wpAny_items_nil ?_
    rw [show Builtin.bitNot ((qd : Nat) : Int) = -((qd : Nat) : Int) - 1 from by unfold Builtin.bitNot; omega]
    rw [show (y : Int) + Builtin.bitNot ((R' : Nat) : Int) = (y : Int) - 1 - ((R' : Nat) : Int) from by unfold Builtin.bitNot; omega]
    refine ⟨G, _, _, _, [-((qd : Nat) : Int) - 1, (y : Int) - 1 - ((R' : Nat) : Int)], by assumption, .cons _ _ (.cons _ _ .nil), by show 2 < 1000000; decide, ?_⟩
    intro b s8 hb8 S9
    with_reducible refine Hid.out (by assumption) ?_
    with_reducible refine Hid.out (by assumption) ?_
    with_reducible refine Hid.out (by assumption) ?_
    with_reducible refine Hid.out (by assumption) ?_
    exact h b _ hb8 S9.pop
  · obtain ⟨z, rfl⟩ := Int.eq_ofNat_of_zero_le hpos
    refine dv0 (r.le (by decide)) S (by omega) hy hy2 ?_
    intro b s' hb S'
    exact h b s' hb (by rw [Int.natCast_ediv, Int.natCast_emod] at S'; exact S')

theorem int_divmod_c {x y : Int} {t u : Tok} (r : Rm A 75) (S : SS G (f₀ :: fs) V s) (hx : x.natAbs < 2 ^ 59) (hy : y ≠ 0) (hy2 : y.natAbs < 2 ^ 30)
    (h : ∀ b s', V b = none → SS G (f₀ :: fs) (upd V b (.itup [x.fdiv y, x.fmod y])) s' → Q (.ref b) s') :
    wpAny (model PP w) A (call (.ref 91) [.int x t, .int y u]) Q E s := by
  rcases Int.lt_or_le y 0 with hneg | hpos
  · refine enter [(Str.ofString "a", .int x t), (Str.ofString "b", .int y u)] S (by k_is) (by k_is) r.room (BindsTo.of_eq rfl) (locs rfl) (by decide) rfl rfl rfl ?_
    intro L s₁ S₁
    simp only [lvOf, List.foldl, er] at S₁
    have r' : ∀ env, Rm (A.deeper env) 74 := fun _ => r.deeper
    with_reducible refine cons_hid ?_; intro _ _
    with_reducible refine wpAny_If ?_
    refine wpAny_isTrue_Compare1 ?_
    refine nm_i (by assumption) (by walk_at "lk") ?_; intro _
    with_reducible refine c_int (by assumption) ?_; intro _ _ _
    with_reducible refine P.eq_int ?_
    with_reducible refine wpAny_truthy_bool ?_
    rw [if_neg (by rw [beq_iff_eq]; omega)]
    with_reducible refine cons_hid ?_; intro _ _
    with_reducible refine wpAny_If ?_
    refine wpAny_isTrue_Compare1 ?_
    refine nm_i (by assumption) (by walk_at "lk") ?_; intro _
    with_reducible refine c_int (by assumption) ?_; intro _ _ _
    with_reducible refine P.lt_int ?_
    with_reducible refine wpAny_truthy_bool ?_
    rw [if_pos (by rw [decide_eq_true_eq]; omega)]
    with_reducible refine cons_hid ?_; intro _ _
    refine Assign_Tuple ?_
    refine wpAny_Call_NameR ?_
    refine nm_g (by assumption) (by k_is) ?_
    refine callWith_K (SS.K (by assumption)) (by k_is) ?_
    refine wpAny_items_cons ?_
    with_reducible refine wpAny_UnaryOp ?_
    refine nm_i (by assumption) (by walk_at "lk") ?_; intro _
    with_reducible refine neg_i (by assumption) ?_; intro _ _ _
    refine wpAny_items_cons ?_
    with_reducible refine wpAny_UnaryOp ?_
    refine nm_i (by assumption) (by walk_at "lk") ?_; intro _
    with_reducible refine neg_i (by assumption) ?_; intro _ _ _
    with_reducible refine wpAny_items_nil ?_
    refine ⟨SS.K (by assumption), ?_⟩
    obtain ⟨z, hz⟩ : ∃ z : Nat, y = -(z : Int) := ⟨(-y).toNat, by omega⟩
    subst hz
    rw [show -(-(z : Int)) = (z : Int) from by omega]
    refine dv1 (r' _) (by assumption) (by omega) (by omega) (by omega) ?_
    intro tb s2 htb S2
    have e1 : x.fdiv (-(z : Int)) = -x / (z : Int) := by
      rw [← Int.fdiv_eq_ediv_of_nonneg _ (by omega : (0 : Int) ≤ z), ← Int.neg_fdiv_neg, Int.neg_neg]
    have e2 : x.fmod (-(z : Int)) = -(-x % (z : Int)) := by
      rw [← Int.fmod_eq_emod_of_nonneg _ (by omega : (0 : Int) ≤ z), Int.fmod_def, Int.fmod_def, e1, Int.fdiv_eq_ediv_of_nonneg _ (by omega : (0 : Int) ≤ z)]
      rw [Int.neg_mul]; omega
    rw [e1, e2] at h
    generalize -x / (z : Int) = qd at *
    generalize -x % (z : Int) = R' at *
    skip
    refine asg2 (r' _) (by assumption) upd_eq ?_
    intro _ _ s7 S7
    have S8 := S7.forget htb
    clear S7 S2
    with_reducible refine wpAny_assign_Name ?_
    refine sto (by assumption) ?_; intro _ _
    with_reducible refine wpAny_assign_Name ?_
    refine sto (by assumption) ?_; intro _ _
    with_reducible refine Hid.out (by assumption) ?_
    with_reducible refine cons_hid ?_; intro _ _
    with_reducible refine wpAny_Return_some ?_
    refine disp_it ?_
    refine wpAny_items_cons ?_
    refine nm_i (by assumption) (by walk_at "lk") ?_; intro _
    refine wpAny_items_cons ?_
    with_reducible refine wpAny_UnaryOp ?_
    refine nm_i (by assumption) (by walk_at "lk") ?_; intro _
    with_reducible refine neg_i (by assumption) ?_; intro _ _ _
    with_reducible refine wpAny_items_nil ?_
    refine ⟨G, _, _, _, [qd, -R'], by assumption, .cons _ _ (.cons _ _ .nil), by show 2 < 1000000; decide, ?_⟩
    intro b s8 hb8 S9
    with_reducible refine Hid.out (by assumption) ?_
    with_reducible refine Hid.out (by assumption) ?_
    with_reducible refine Hid.out (by assumption) ?_
    exact h b _ hb8 S9.pop
  · obtain ⟨z, rfl⟩ := Int.eq_ofNat_of_zero_le hpos
    refine dv1 (r.le (by decide)) S hx (by omega) (by omega) ?_
    intro b s' hb S'
    exact h b s' hb (by rw [Int.fdiv_eq_ediv_of_nonneg _ (by omega), Int.fmod_eq_emod_of_nonneg _ (by omega)]; exact S')
end
noncomputable def lftF : Nat → Nat → Nat
  | 0, n => n / 2
  | k + 1, n => if n % 2 = 0 then lftF k (n / 2) else n / 2
noncomputable def lft (n : Nat) : Nat := lftF 7 n
noncomputable def rgtF : Nat → Nat → Nat
  | 0, n => n / 2
  | k + 1, n => if n % 2 = 1 then rgtF k (n / 2) else n / 2
noncomputable def rgt (n : Nat) : Nat := rgtF 7 n
theorem shr1 (p : Nat) : (p : Int).fdiv (2 ^ (1 : Int).toNat) = ((p / 2 : Nat) : Int) := by
  rw [Int.fdiv_eq_ediv_of_nonneg _ (by decide)]; simp
theorem mod2 (p : Nat) : (p : Int).fmod 2 = ((p % 2 : Nat) : Int) := by
  rw [Int.fmod_eq_emod_of_nonneg _ (by decide)]; simp
section
variable {w : World} {G : Gd w} {f₀ : Addr × FK} {fs : Frs} {V V' : View} {s s' : Shared} {l a b : Addr} {A : Around} {E : Value → Shared → Prop} {Q : Value → Shared → Prop}
theorem left_c {n : Nat} {tk : Tok} (r : Rm A 1) (S : SS G (f₀ :: fs) V s) (h1 : 1 ≤ n) (h2 : n < 128) (h : ∀ t s', SS G (f₀ :: fs) V s' → Q (.int (lft n) t) s') :
    wpAny (model PP w) A (call (.ref 225) [.int n tk]) Q E s := by
  refine enter [(Str.ofString "place", .int n tk)] S (by k_is) (by k_is) r.room (BindsTo.of_eq rfl) (locs rfl) (by decide) rfl rfl rfl ?_
  intro L s₁ S₁
  simp only [lvOf, List.foldl, er] at S₁
  with_reducible refine cons_hid ?_; intro _ _
  refine whl (fun k s => ∃ m, SS G ((L, .loc m) :: f₀ :: fs) V s ∧ ∃ p : Nat, m (Str.ofString "place") = some (.int p 0) ∧ 1 ≤ p ∧ p < 2 ^ k ∧ k ≤ 7 ∧ lftF k p = lft n) 7 ⟨_, S₁, n, lup_eq, h1, h2, Nat.le_refl _, rfl⟩ ?_
  rintro k s ⟨m, S, p, hp, h1, h2, h3, h4⟩
  refine wpAny_isTrue_Compare1 ?_
  with_reducible refine wpAny_BinOp ?_
  refine nm_i (by assumption) (by walk_at "lk") ?_; intro _
  with_reducible refine c_int (by assumption) ?_; intro _ _ _
  with_reducible refine mod_i (by assumption) (by first | decide | omega) ?_; intro _ _ _
  with_reducible refine c_int (by assumption) ?_; intro _ _ _
  with_reducible refine P.eq_int ?_
  with_reducible refine wpAny_truthy_bool ?_
  rw [mod2]
  cases k with
  | zero => simp at h2; omega
  | succ k =>
  split
  · rename_i he
    have he : p % 2 = 0 := by have := eq_of_beq he; omega
    with_reducible refine cons_hid ?_; intro _ _
    with_reducible refine wpAny_AugAssign_Name ?_
    refine ln_i (by assumption) (by walk_at "lk") ?_; intro _
    with_reducible refine c_int (by assumption) ?_; intro _ _ _
    with_reducible refine ishr_i (by assumption) (by first | decide | omega) ?_; intro _ _ _
    refine sto (by assumption) ?_; intro _ _
    with_reducible refine Hid.out (by assumption) ?_
    with_reducible refine wpAny_execs_nil ?_
    refine ⟨k, Nat.lt_succ_self _, _, by assumption, p / 2, (by rw [shr1]; exact lup_eq), by omega, by rw [Nat.pow_succ] at h2; omega, by omega, ?_⟩
    rw [← h4, lftF, if_pos he]
  · rename_i he
    have he : p % 2 ≠ 0 := fun q => he (by rw [q]; rfl)
    with_reducible refine wpAny_execs_nil ?_
    with_reducible refine Hid.out (by assumption) ?_
    with_reducible refine cons_hid ?_; intro _ _
    with_reducible refine wpAny_Return_some ?_
    with_reducible refine wpAny_BinOp ?_
    refine nm_i (by assumption) (by walk_at "lk") ?_; intro _
    with_reducible refine c_int (by assumption) ?_; intro _ _ _
    with_reducible refine shr_i (by assumption) (by first | decide | omega) ?_; intro _ _ _
    with_reducible refine Hid.out (by assumption) ?_
    rw [lftF, if_neg he] at h4
    rw [shr1, h4]
    exact h _ _ (SS.pop (by assumption))
theorem right_c {n : Nat} {tk : Tok} (r : Rm A 1) (S : SS G (f₀ :: fs) V s) (h2 : n < 128) (h : ∀ t s', SS G (f₀ :: fs) V s' → Q (.int (rgt n) t) s') :
    wpAny (model PP w) A (call (.ref 232) [.int n tk]) Q E s := by
  refine enter [(Str.ofString "place", .int n tk)] S (by k_is) (by k_is) r.room (BindsTo.of_eq rfl) (locs rfl) (by decide) rfl rfl rfl ?_
  intro L s₁ S₁
  simp only [lvOf, List.foldl, er] at S₁
  with_reducible refine cons_hid ?_; intro _ _
  refine whl (fun k s => ∃ m, SS G ((L, .loc m) :: f₀ :: fs) V s ∧ ∃ p : Nat, m (Str.ofString "place") = some (.int p 0) ∧ p < 2 ^ k ∧ k ≤ 7 ∧ rgtF k p = rgt n) 7 ⟨_, S₁, n, lup_eq, h2, Nat.le_refl _, rfl⟩ ?_
  rintro k s ⟨m, S, p, hp, h2, h3, h4⟩
  refine wpAny_isTrue_Compare1 ?_
  with_reducible refine wpAny_BinOp ?_
  refine nm_i (by assumption) (by walk_at "lk") ?_; intro _
  with_reducible refine c_int (by assumption) ?_; intro _ _ _
  with_reducible refine mod_i (by assumption) (by first | decide | omega) ?_; intro _ _ _
  with_reducible refine c_int (by assumption) ?_; intro _ _ _
  with_reducible refine P.eq_int ?_
  with_reducible refine wpAny_truthy_bool ?_
  rw [mod2]
  split
  · rename_i he
    have he : p % 2 = 1 := by have := eq_of_beq he; omega
    cases k with
    | zero => simp at h2; omega
    | succ k =>
    with_reducible refine cons_hid ?_; intro _ _
    with_reducible refine wpAny_AugAssign_Name ?_
    refine ln_i (by assumption) (by walk_at "lk") ?_; intro _
    with_reducible refine c_int (by assumption) ?_; intro _ _ _
    with_reducible refine ishr_i (by assumption) (by first | decide | omega) ?_; intro _ _ _
    refine sto (by assumption) ?_; intro _ _
    with_reducible refine Hid.out (by assumption) ?_
    with_reducible refine wpAny_execs_nil ?_
    refine ⟨k, Nat.lt_succ_self _, _, by assumption, p / 2, (by rw [shr1]; exact lup_eq), by rw [Nat.pow_succ] at h2; omega, by omega, ?_⟩
    rw [← h4, rgtF, if_pos he]
  · rename_i he
    have he : p % 2 ≠ 1 := fun q => he (by rw [q]; rfl)
    with_reducible refine wpAny_execs_nil ?_
    with_reducible refine Hid.out (by assumption) ?_
    with_reducible refine cons_hid ?_; intro _ _
    with_reducible refine wpAny_Return_some ?_
    with_reducible refine wpAny_BinOp ?_
    refine nm_i (by assumption) (by walk_at "lk") ?_; intro _
    with_reducible refine c_int (by assumption) ?_; intro _ _ _
    with_reducible refine shr_i (by assumption) (by first | decide | omega) ?_; intro _ _ _
    with_reducible refine Hid.out (by assumption) ?_
    have h4 : p / 2 = rgt n := by
      cases k with
      | zero => exact h4
      | succ k => rw [rgtF, if_neg he] at h4; exact h4
    rw [shr1, h4]
    exact h _ _ (SS.pop (by assumption))
end
noncomputable def okW (pl a b : Nat) : Bool := decide (b < 1000) && decide (a < 1000) && decide (pl < 1000) && (decide (b ≤ a) || decide (a % b ≠ 0))
/-- the way to a fraction; none where it would leave its bounds -/
noncomputable def wayF : Nat → Nat → Nat → Nat → Nat → Option (Nat × Nat)
  | 0, _, _, _, _ => none
  | k + 1, place, turn, a, b => if b = 0 then some (place, a) else
      if okW place a b = true then
        wayF k (place * 2 ^ (if a % b = 0 then a / b - 1 else a / b) + turn * (2 ^ (if a % b = 0 then a / b - 1 else a / b) - 1)) (1 - turn) b (a % b)
      else none
section
variable {w : World} {G : Gd w} {f₀ : Addr × FK} {fs : Frs} {V V' : View} {s s' : Shared} {l a b t : Addr} {A : Around} {E : Value → Shared → Prop} {env : Env} {k : Nat}
theorem swp2 {Q : Unit → Shared → Prop} {x y : Str} {i j : Int} (r : Rm A k) (S : SS G (f₀ :: fs) V s) (hV : V t = some (.itup [i, j]))
    (h : ∀ u v s', SS G (f₀ :: fs) V s' → wpAny (model PP w) A (storeName env y (.int j v)) (fun _ s₂ => wpAny (model PP w) A (storeName env x (.int i u)) Q E s₂) E s') :
    wpAny (model PP w) A (unpackItems (.ref t) [x, y].length none) (fun items s₂ => wpAny (model PP w) A (assignInOrder ([x, y].reverse.map fun n => bindName env n) items.reverse) Q E s₂) E s := by
  obtain ⟨vs, n, ho, hi⟩ := S.it hV
  obtain ⟨u, v, rfl⟩ := two_ints hi
  refine wpAny_unpackItems_tuple (items := #[.int i u, .int j v]) r.h ⟨_, ho, rfl, n, rfl⟩ fun h' he => ?_
  have S' : SS G (f₀ :: fs) V { s with heap := h' } := S.grow rfl rfl fun b o e => he b o (Nat.ne_of_lt (Heap.lt_size e)) e
  show wpAny _ _ (do holding [.int i u] (bindName env y (.int j v)); do holding [] (bindName env x (.int i u)); pure ()) _ _ _
  refine wpAny_bind (wpAny_holding (wpAny_bindName (wpAny_mono (h u v _ S') (fun _ s₂ h₂ => ?_) fun _ _ x => x)))
  exact wpAny_bind (wpAny_holding (wpAny_bindName (wpAny_mono h₂ (fun _ _ x => wpAny_pure x) fun _ _ x => x)))
end
section
variable {w : World} {G : Gd w} {f₀ : Addr × FK} {fs : Frs} {V V' : View} {s s' : Shared} {l a b : Addr} {A : Around} {E : Value → Shared → Prop} {Q : Value → Shared → Prop}
theorem way_c {x y p g k : Nat} {t u : Tok} (r : Rm A 80) (S : SS G (f₀ :: fs) V s) (hw : wayF k 1 1 x y = some (p, g))
    (h : ∀ b s', V b = none → SS G (f₀ :: fs) (upd V b (.itup [(p : Int), (g : Int)])) s' → Q (.ref b) s') :
    wpAny (model PP w) A (call (.ref 239) [.int x t, .int y u]) Q E s := by
  refine enter [(Str.ofString "above", .int x t), (Str.ofString "below", .int y u)] S (by k_is) (by k_is) r.room (BindsTo.of_eq rfl) (locs rfl) (by decide) rfl rfl rfl ?_
  intro L s₁ S₁
  simp only [lvOf, List.foldl, er] at S₁
  have r' : ∀ env, Rm (A.deeper env) 79 := fun _ => r.deeper
  clear S
  with_reducible refine cons_hid ?_; intro _ _
  refine wpAny_Assign_Name ?_
  with_reducible refine c_int (by assumption) ?_; intro _ _ _
  refine sto (by assumption) ?_; intro _ _
  with_reducible refine Hid.out (by assumption) ?_
  with_reducible refine cons_hid ?_; intro _ _
  refine wpAny_Assign_Name ?_
  with_reducible refine c_int (by assumption) ?_; intro _ _ _
  refine sto (by assumption) ?_; intro _ _
  with_reducible refine Hid.out (by assumption) ?_
  with_reducible refine cons_hid ?_; intro _ _
  refine whl (fun k s => ∃ m, SS G ((L, .loc m) :: f₀ :: fs) V s ∧ ∃ pl tn x y : Nat, m (Str.ofString "place") = some (.int pl 0) ∧ m (Str.ofString "turn") = some (.int tn 0) ∧ m (Str.ofString "above") = some (.int x 0) ∧ m (Str.ofString "below") = some (.int y 0) ∧ tn ≤ 1 ∧ wayF k pl tn x y = some (p, g)) k ⟨_, by assumption, 1, 1, x, y, by walk_at "lk", by walk_at "lk", by walk_at "lk", by walk_at "lk", by decide, hw⟩ ?_
  rintro k s ⟨m, S, pl, tn, x, y, m1, m2, m3, m4, h2, h4⟩
  clear hw
  cases k with
  | zero => cases h4
  | succ k =>
  refine wpAny_isTrue_value ?_
  refine nm_i (by assumption) (by walk_at "lk") ?_; intro _
  with_reducible refine P.truthy_int ?_
  rw [wayF] at h4
  by_cases hy : y = 0
  · subst hy
    rw [if_pos rfl] at h4
    simp only [Option.some.injEq, Prod.mk.injEq] at h4
    obtain ⟨rfl, rfl⟩ := h4
    rw [show (((0 : Nat) : Int) != 0) = false from rfl, if_neg (by decide)]
    with_reducible refine wpAny_execs_nil ?_
    with_reducible refine Hid.out (by assumption) ?_
    with_reducible refine cons_hid ?_; intro _ _
    with_reducible refine wpAny_Return_some ?_
    refine disp_it ?_
    refine wpAny_items_cons ?_
    refine nm_i (by assumption) (by walk_at "lk") ?_; intro _
    refine wpAny_items_cons ?_
    refine nm_i (by assumption) (by walk_at "lk") ?_; intro _
    with_reducible refine wpAny_items_nil ?_
    refine ⟨G, _, _, _, [((pl : Nat) : Int), ((x : Nat) : Int)], by assumption, .cons _ _ (.cons _ _ .nil), by show 2 < 1000000; decide, ?_⟩
    intro b s8 hb8 S9
    with_reducible refine Hid.out (by assumption) ?_
    exact h b _ hb8 S9.pop
  · rw [if_neg hy] at h4
    cases hok : okW pl x y with
    | false => rw [hok, if_neg (by decide)] at h4; cases h4
    | true =>
    rw [hok, if_pos rfl] at h4
    simp only [okW, Bool.and_eq_true, Bool.or_eq_true, decide_eq_true_eq] at hok
    obtain ⟨⟨⟨hb1, hb2⟩, hb3⟩, hb4⟩ := hok
    rw [show ((y : Int) != 0) = true from by rw [bne_iff_ne]; omega, if_pos rfl]
    with_reducible refine cons_hid ?_; intro _ _
    refine Assign_Tuple ?_
    refine wpAny_Call_NameR ?_
    refine nm_g (by assumption) (by k_is) ?_
    refine callWith_K (SS.K (by assumption)) (by k_is) ?_
    refine wpAny_items_cons ?_
    refine nm_i (by assumption) (by walk_at "lk") ?_; intro _
    refine wpAny_items_cons ?_
    refine nm_i (by assumption) (by walk_at "lk") ?_; intro _
    with_reducible refine wpAny_items_nil ?_
    refine ⟨SS.K (by assumption), ?_⟩
    refine int_divmod_c ((r' _).le (by decide)) (by assumption) (by omega) (by omega) (by omega) ?_
    intro tb s2 htb S2
    rw [show ((x : Nat) : Int).fdiv (y : Int) = ((x / y : Nat) : Int) from by rw [Int.fdiv_eq_ediv_of_nonneg _ (by omega)]; norm_cast, show ((x : Nat) : Int).fmod (y : Int) = ((x % y : Nat) : Int) from by rw [Int.fmod_eq_emod_of_nonneg _ (by omega)]; norm_cast] at S2
    have hq : x % y = 0 → 1 ≤ x / y := fun e => Nat.div_pos (by omega) (by omega)
    have hq2 : x / y ≤ x := Nat.div_le_self _ _
    generalize x / y = qd at *
    generalize x % y = R' at *
    skip
    refine asg2 (r' _) (by assumption) upd_eq ?_
    intro _ _ s7 S7
    have S8 := S7.forget htb
    clear S7 S2
    with_reducible refine wpAny_assign_Name ?_
    refine sto (by assumption) ?_; intro _ _
    with_reducible refine wpAny_assign_Name ?_
    refine sto (by assumption) ?_; intro _ _
    with_reducible refine Hid.out (by assumption) ?_
    with_reducible refine cons_hid ?_; intro _ _
    obtain ⟨many, hm⟩ : ∃ many : Nat, many = if R' = 0 then qd - 1 else qd := ⟨_, rfl⟩
    rw [← hm] at h4
    refine join (fun s => ∃ m, SS G ((L, .loc m) :: f₀ :: fs) V s ∧ m (Str.ofString "place") = some (.int pl 0) ∧ m (Str.ofString "turn") = some (.int tn 0) ∧ m (Str.ofString "rest") = some (.int R' 0) ∧ m (Str.ofString "below") = some (.int y 0) ∧ m (Str.ofString "many") = some (.int many 0)) ?_ ?_
    · with_reducible refine wpAny_If ?_
      refine wpAny_isTrue_Compare1 ?_
      refine nm_i (by assumption) (by walk_at "lk") ?_; intro _
      with_reducible refine c_int (by assumption) ?_; intro _ _ _
      with_reducible refine P.eq_int ?_
      with_reducible refine wpAny_truthy_bool ?_
      split
      · rename_i he
        have he : R' = 0 := by have := eq_of_beq he; omega
        rw [if_pos he] at hm
        have := hq he
        with_reducible refine cons_hid ?_; intro _ _
        with_reducible refine wpAny_AugAssign_Name ?_
        refine ln_i (by assumption) (by walk_at "lk") ?_; intro _
        with_reducible refine c_int (by assumption) ?_; intro _ _ _
        with_reducible refine isub_i (by assumption) ?_; intro _ _ _
        refine sto (by assumption) ?_; intro _ _
        with_reducible refine Hid.out (by assumption) ?_
        with_reducible refine wpAny_execs_nil ?_
        rw [show ((qd : Nat) : Int) - 1 = (many : Int) from by omega] at *
        exact ⟨rfl, _, by assumption, by walk_at "lk", by walk_at "lk", by walk_at "lk", by walk_at "lk", by walk_at "lk"⟩
      · rename_i he
        have he : R' ≠ 0 := fun e => he (by rw [e]; rfl)
        rw [if_neg he] at hm
        subst hm
        with_reducible refine wpAny_execs_nil ?_
        exact ⟨rfl, _, by assumption, by walk_at "lk", by walk_at "lk", by walk_at "lk", by walk_at "lk", by walk_at "lk"⟩
    clear S8 S m1 m2 m3 m4
    rintro s ⟨m, S, m1, m2, m3, m4, m5⟩
    have hmm : many ≤ 1000 := by rw [hm]; split <;> omega
    with_reducible refine Hid.out (by assumption) ?_
    with_reducible refine cons_hid ?_; intro _ _
    refine wpAny_Assign_Name ?_
    with_reducible refine wpAny_BinOp ?_
    with_reducible refine wpAny_BinOp ?_
    refine nm_i (by assumption) (by walk_at "lk") ?_; intro _
    refine nm_i (by assumption) (by walk_at "lk") ?_; intro _
    refine shl_i (by assumption) (by omega) (by omega) (by omega) ?_
    intro _ _ _
    with_reducible refine wpAny_BinOp ?_
    refine nm_i (by assumption) (by walk_at "lk") ?_; intro _
    with_reducible refine wpAny_BinOp ?_
    with_reducible refine wpAny_BinOp ?_
    with_reducible refine c_int (by assumption) ?_; intro _ _ _
    refine nm_i (by assumption) (by walk_at "lk") ?_; intro _
    refine shl_i (by assumption) (by omega) (by omega) (by omega) ?_
    intro _ _ _
    with_reducible refine c_int (by assumption) ?_; intro _ _ _
    with_reducible refine sub_i (by assumption) ?_; intro _ _ _
    with_reducible refine mul_i (by assumption) (by first | decide | omega) ?_; intro _ _ _
    with_reducible refine add_i (by assumption) ?_; intro _ _ _
    have hp1 : 1 ≤ 2 ^ many := Nat.one_le_two_pow
    rw [show (pl : Int) * 2 ^ ((many : Nat) : Int).toNat + (tn : Int) * (1 * 2 ^ ((many : Nat) : Int).toNat - 1) = ((pl * 2 ^ many + tn * (2 ^ many - 1) : Nat) : Int) from by rw [Int.toNat_natCast, Int.one_mul]; push_cast [hp1]; rfl]
    generalize pl * 2 ^ many + tn * (2 ^ many - 1) = pl' at *
    refine sto (by assumption) ?_; intro _ _
    with_reducible refine Hid.out (by assumption) ?_
    with_reducible refine cons_hid ?_; intro _ _
    refine wpAny_Assign_Name ?_
    with_reducible refine wpAny_BinOp ?_
    with_reducible refine c_int (by assumption) ?_; intro _ _ _
    refine nm_i (by assumption) (by walk_at "lk") ?_; intro _
    with_reducible refine sub_i (by assumption) ?_; intro _ _ _
    refine sto (by assumption) ?_; intro _ _
    with_reducible refine Hid.out (by assumption) ?_
    with_reducible refine cons_hid ?_; intro _ _
    refine Assign_Tuple_swapped ?_
    refine disp_it ?_
    refine wpAny_items_cons ?_
    refine nm_i (by assumption) (by walk_at "lk") ?_; intro _
    refine wpAny_items_cons ?_
    refine nm_i (by assumption) (by walk_at "lk") ?_; intro _
    with_reducible refine wpAny_items_nil ?_
    refine ⟨G, _, _, _, [((y : Nat) : Int), ((R' : Nat) : Int)], by assumption, .cons _ _ (.cons _ _ .nil), by show 2 < 1000000; decide, ?_⟩
    intro b s8 hb8 S9
    refine swp2 (r' _) S9 upd_eq ?_
    intro _ _ s10 S10
    have S11 := S10.forget hb8
    clear S10 S9
    refine sto (by assumption) ?_; intro _ _
    refine sto (by assumption) ?_; intro _ _
    with_reducible refine Hid.out (by assumption) ?_
    with_reducible refine wpAny_execs_nil ?_
    rw [show (1 : Int) - (tn : Int) = ((1 - tn : Nat) : Int) from by omega] at *
    exact ⟨k, Nat.lt_succ_self _, _, by assumption, pl', 1 - tn, y, R', by walk_at "lk", by walk_at "lk", by walk_at "lk", by walk_at "lk", by omega, h4⟩
end
/-- what the places are -/
structure Pl (ps : List Nat) : Prop where
  nd : ps.Nodup
  one : 1 ∈ ps
  rng : ∀ p ∈ ps, 1 ≤ p ∧ p < 128
  up : ∀ p ∈ ps, 1 < p → p / 2 ∈ ps
  len : ps.length < 20
structure PlU (ps : List Nat) (c : Nat) : Prop where
  nd : ps.Nodup
  one : 1 ∈ ps
  rng : ∀ p ∈ ps, 1 ≤ p ∧ p < 128
  up : ∀ p ∈ ps, 1 < p → p / 2 ∈ ps ∨ p / 2 = c
theorem PlU.more {ps : List Nat} {c : Nat} (h : PlU ps c) (h1 : 1 ≤ c) (h2 : c < 128) (hn : c ∉ ps) : PlU (ps ++ [c]) (c / 2) where
  nd := by
    rw [List.nodup_append]
    refine ⟨h.nd, by simp, ?_⟩
    intro a ha b hb e
    simp only [List.mem_singleton] at hb
    subst hb; subst e; exact hn ha
  one := List.mem_append_left _ h.one
  rng := fun p hp => by
    rcases List.mem_append.mp hp with hp | hp
    · exact h.rng p hp
    · simp only [List.mem_singleton] at hp; subst hp; exact ⟨h1, h2⟩
  up := fun p hp h1 => by
    rcases List.mem_append.mp hp with hp | hp
    · rcases h.up p hp h1 with h2 | h2
      · exact .inl (List.mem_append_left _ h2)
      · exact .inl (List.mem_append_right _ (by simp [h2]))
    · simp only [List.mem_singleton] at hp; subst hp; exact .inr rfl
theorem any_mem (ps : List Nat) (p : Nat) : (ps.map Int.ofNat).any (· == (p : Int)) = decide (p ∈ ps) := by
  rw [Bool.eq_iff_iff, List.any_eq_true, decide_eq_true_iff]
  constructor
  · rintro ⟨x, hx, e⟩
    obtain ⟨y, hy, rfl⟩ := List.mem_map.mp hx
    have e := eq_of_beq e
    have : y = p := Int.ofNat.inj e
    subst this; exact hy
  · intro hp
    exact ⟨Int.ofNat p, List.mem_map_of_mem hp, beq_self_eq_true _⟩
theorem upd_comm {V : View} {a b : Addr} {x y : AObj} (h : a ≠ b) : upd (upd V a x) b y = upd (upd V b y) a x := by
  funext c
  by_cases h1 : c = a
  · subst h1; rw [upd_ne h, upd_eq, upd_eq]
  · by_cases h2 : c = b
    · subst h2; rw [upd_eq, upd_ne h1, upd_eq]
    · rw [upd_ne h2, upd_ne h1, upd_ne h1, upd_ne h2]
theorem SS.weakU {w : World} {G : Gd w} {fs : Frs} {V W : View} {s : Shared} {b : Addr} {z : AObj} (S : SS G fs (upd W b z) s) (h : ∀ a ao, V a = some ao → W a = some ao) : SS G fs (upd V b z) s := S.weak fun a ao ha => by
  by_cases e : a = b
  · subst e; rw [upd_eq] at ha ⊢; exact ha
  · rw [upd_ne e] at ha ⊢; exact h a ao ha
section
variable {w : World} {G : Gd w} {f₀ : Addr × FK} {fs : Frs} {V V' : View} {s s' : Shared} {l a b : Addr} {A : Around} {E : Value → Shared → Prop} {Q : Value → Shared → Prop}
end
theorem Rm.under {A : Around} {k : Nat} {C : Addr} {vals : List Value} {kw : List (Str × Value)} (r : Rm A (k + 1)) : Rm (A.under (.builtin "type.__call__" ⟨.ref C :: vals, kw⟩)) k where
  d := by have := r.d; show A.depth + 1 + k ≤ 990; omega
  u := by have := r.u; show A.units + 1 + 10 * k ≤ 9800; omega
  h := r.h
section
variable {w : World} {G : Gd w} {f₀ : Addr × FK} {fs : Frs} {V V' : View} {s s' : Shared} {l a b : Addr} {A : Around} {E : Value → Shared → Prop} {Q : Value → Shared → Prop}
theorem node_c {n : Int} {t : Tok} (r : Rm A 3) (S : SS G (f₀ :: fs) V s)
    (h : ∀ x dx su s', V x = none → V dx = none → V su = none → dx ≠ x → su ≠ x → su ≠ dx → SS G (f₀ :: fs) (upd (upd (upd V dx (.atd [])) su (.ilist [])) x (.ins 110 dx [some (.int n 0), some (.int 0 0), some (.ref su)])) s' → Q (.ref x) s') :
    wpAny (model PP w) A (call (.ref 110) [.int n t]) Q E s := by
  refine mk_inst S (by k_is) (by k_is) (by k_is) ?_
  intro x dx s₀ hx hdx hne S₀
  refine enterR [(Str.ofString "self", .ref x), (Str.ofString "node", .int n t)] S₀ (by k_is) (by k_is) r.under.room (BindsTo.of_eq rfl) (locs rfl) (by decide) rfl rfl rfl ?_
  intro L s₁ S₁
  simp only [lvOf, List.foldl, er] at S₁
  with_reducible refine cons_hid ?_; intro _ _
  refine plainObj_wpAny_Assign_Attribute ?_
  refine nm_i (by assumption) (by walk_at "lk") ?_; intro _
  refine nm_r (by assumption) (by walk_at "lk") ?_
  refine ss (by assumption) upd_eq ((upd_ne hne).trans upd_eq) (by k_is) (by k_is) (by k_is) (by k_is) (by k_is) (by decide) ?_
  intro s2 S2
  rw [upd_upd] at S2
  with_reducible refine Hid.out (by assumption) ?_
  with_reducible refine cons_hid ?_; intro _ _
  refine plainObj_wpAny_Assign_Attribute ?_
  with_reducible refine c_int (by assumption) ?_; intro _ _ _
  refine nm_r (by assumption) (by walk_at "lk") ?_
  refine ss (by assumption) upd_eq ((upd_ne hne).trans upd_eq) (by k_is) (by k_is) (by k_is) (by k_is) (by k_is) (by decide) ?_
  intro s3 S3
  rw [upd_upd] at S3
  with_reducible refine Hid.out (by assumption) ?_
  with_reducible refine cons_hid ?_; intro _ _
  refine plainObj_wpAny_Assign_Attribute ?_
  refine disp_il ?_
  with_reducible refine wpAny_items_nil ?_
  refine ⟨G, _, _, _, [], by assumption, .nil, by decide, ?_⟩
  intro su s4 hsu S4
  have h1 : su ≠ x := fun e => by rw [e, upd_eq] at hsu; cases hsu
  rw [upd_ne h1] at hsu
  have h2 : su ≠ dx := fun e => by rw [e, upd_eq] at hsu; cases hsu
  rw [upd_ne h2] at hsu
  refine nm_r (by assumption) (by walk_at "lk") ?_
  refine ss (by assumption) ((upd_ne h1.symm).trans upd_eq) ((upd_ne h2.symm).trans ((upd_ne hne).trans upd_eq)) (by k_is) (by k_is) (by k_is) (by k_is) (by k_is) (by decide) ?_
  intro s5 S5
  rw [upd_comm h1.symm, upd_upd] at S5
  with_reducible refine Hid.out (by assumption) ?_
  with_reducible refine wpAny_execs_nil ?_
  exact ⟨_, rfl, rfl, h x dx su _ hx hdx hsu hne h1 h2 S5.pop⟩
end
/-- the sorter's state -/
structure SQ where
  dx : Addr
  nd : Addr
  N : List Nat
  ni : Nat → Addr
  di : Nat → Addr
  su : Nat → Addr
  np : Nat → Int
  sc : Nat → List Nat
  rd : Option (Addr × List Nat)
  npass : Int
  nfin : Int
noncomputable def rdV : Option (Addr × List Nat) → Value
  | none => .none
  | some p => .ref p.1
noncomputable abbrev attsOf (q : SQ) : List (Str × Value) := [(Str.ofString "_node2info", .ref q.nd), (Str.ofString "_ready_nodes", rdV q.rd), (Str.ofString "_npassedout", .int q.npass 0), (Str.ofString "_nfinished", .int q.nfin 0)]
noncomputable abbrev infoOf (q : SQ) (n : Nat) : AObj := .ins 110 (q.di n) [some (.int n 0), some (.int (q.np n) 0), some (.ref (q.su n))]
structure Srt (W V : View) (x : Addr) (q : SQ) : Prop where
  sub : ∀ a ao, W a = some ao → V a = some ao
  self : V x = some (.ins 207 q.dx [])
  atts : V q.dx = some (.atd (attsOf q))
  wdx : W q.dx = none
  dict : V q.nd = some (.rdict (q.N.map fun n : Nat => ((n : Int), q.ni n)))
  wnd : W q.nd = none
  info : ∀ n ∈ q.N, V (q.ni n) = some (infoOf q n)
  wni : ∀ n ∈ q.N, W (q.ni n) = none
  idc : ∀ n ∈ q.N, V (q.di n) = some (.atd [])
  succ : ∀ n ∈ q.N, V (q.su n) = some (.ilist ((q.sc n).map Int.ofNat))
  wsu : ∀ n ∈ q.N, W (q.su n) = none
  inj : ∀ n ∈ q.N, ∀ k ∈ q.N, q.su n = q.su k → n = k
  nd : q.N.Nodup
  ready : ∀ p, q.rd = some p → V p.1 = some (.ilist (p.2.map Int.ofNat)) ∧ W p.1 = none ∧ ∀ n ∈ q.N, q.su n ≠ p.1
/-- a new thing, not the sorter's -/
theorem Srt.new {W V : View} {x b : Addr} {q : SQ} {ao : AObj} (T : Srt W V x q) (hb : V b = none) : Srt W (upd V b ao) x q where
  sub := fun a ao' h => upd_old hb (T.sub a ao' h)
  self := upd_old hb T.self
  atts := upd_old hb T.atts
  wdx := T.wdx
  dict := upd_old hb T.dict
  wnd := T.wnd
  info := fun n hn => upd_old hb (T.info n hn)
  wni := T.wni
  idc := fun n hn => upd_old hb (T.idc n hn)
  succ := fun n hn => upd_old hb (T.succ n hn)
  wsu := T.wsu
  inj := T.inj
  nd := T.nd
  ready := fun p hp => ⟨upd_old hb (T.ready p hp).1, (T.ready p hp).2⟩
/-- the rest of the view grows or changes -/
theorem Srt.grow {W V : View} {x b : Addr} {q : SQ} {ao : AObj} (T : Srt W V x q) (hb : V b = none ∨ ∃ o, W b = some o) (hx : b ≠ x) (hdi : ∀ n ∈ q.N, b ≠ q.di n) : Srt (upd W b ao) (upd V b ao) x q := by
  have ne : ∀ a o, V a = some o → W a = none → a ≠ b := fun a o h1 h2 e => by
    subst e
    rcases hb with hb | ⟨o', hb⟩
    · rw [h1] at hb; cases hb
    · rw [h2] at hb; cases hb
  exact {
    sub := fun a ao' h => by
      by_cases e : a = b
      · subst e; rw [upd_eq] at h ⊢; exact h
      · rw [upd_ne e] at h ⊢; exact T.sub a ao' h
    self := (upd_ne hx.symm).trans T.self
    atts := (upd_ne (ne _ _ T.atts T.wdx)).trans T.atts
    wdx := (upd_ne (ne _ _ T.atts T.wdx)).trans T.wdx
    dict := (upd_ne (ne _ _ T.dict T.wnd)).trans T.dict
    wnd := (upd_ne (ne _ _ T.dict T.wnd)).trans T.wnd
    info := fun n hn => (upd_ne (ne _ _ (T.info n hn) (T.wni n hn))).trans (T.info n hn)
    wni := fun n hn => (upd_ne (ne _ _ (T.info n hn) (T.wni n hn))).trans (T.wni n hn)
    idc := fun n hn => (upd_ne (hdi n hn).symm).trans (T.idc n hn)
    succ := fun n hn => (upd_ne (ne _ _ (T.succ n hn) (T.wsu n hn))).trans (T.succ n hn)
    wsu := fun n hn => (upd_ne (ne _ _ (T.succ n hn) (T.wsu n hn))).trans (T.wsu n hn)
    inj := T.inj
    nd := T.nd
    ready := fun p hp => ⟨(upd_ne (ne _ _ (T.ready p hp).1 (T.ready p hp).2.1)).trans (T.ready p hp).1, (upd_ne (ne _ _ (T.ready p hp).1 (T.ready p hp).2.1)).trans (T.ready p hp).2.1, (T.ready p hp).2.2⟩ }
section
variable {w : World} {G : Gd w} {f₀ : Addr × FK} {fs : Frs} {V V' : View} {s s' : Shared} {l a b : Addr} {A : Around} {E : Value → Shared → Prop} {Q : Value → Shared → Prop}
theorem sorter_c (r : Rm A 3) (S : SS G (f₀ :: fs) V s)
    (h : ∀ x V' s' q, Srt V V' x q → q.N = [] → q.rd = none → q.npass = 0 → q.nfin = 0 → V x = none → SS G (f₀ :: fs) V' s' → Q (.ref x) s') :
    wpAny (model PP w) A (call (.ref 207) []) Q E s := by
  refine mk_inst S (by k_is) (by k_is) (by k_is) ?_
  intro x dx s₀ hx hdx hne S₀
  refine enterR [(Str.ofString "self", .ref x), (Str.ofString "graph", .none)] S₀ (by k_is) (by k_is) r.under.room (binds_K S₀.K rfl (by k_is) rfl rfl rfl) (locs rfl) (by decide) rfl rfl rfl ?_
  intro L s₁ S₁
  simp only [lvOf, List.foldl, er] at S₁
  with_reducible refine cons_hid ?_; intro _ _
  refine plainObj_wpAny_Assign_Attribute ?_
  refine dnew (ao := .rdict []) (by assumption) rfl ?_
  intro nd s2 hnd S2
  have h1 : nd ≠ x := fun e => by rw [e, upd_eq] at hnd; cases hnd
  rw [upd_ne h1] at hnd
  have h2 : nd ≠ dx := fun e => by rw [e, upd_eq] at hnd; cases hnd
  rw [upd_ne h2] at hnd
  refine nm_r (by assumption) (by walk_at "lk") ?_
  refine sa (by assumption) (by walk_at "vw") (by walk_at "vw") (by k_is) (by k_is) (by k_is) (by k_is) (by decide) ?_
  intro s3 S3
  rw [upd_comm (a := nd) (b := dx) h2, upd_comm (a := x) (b := dx) hne.symm, upd_upd] at S3
  with_reducible refine Hid.out (by assumption) ?_
  with_reducible refine cons_hid ?_; intro _ _
  refine plainObj_wpAny_Assign_Attribute ?_
  with_reducible refine wpAny_Constant_none ?_
  refine nm_r (by assumption) (by walk_at "lk") ?_
  refine sa (by assumption) (by walk_at "vw") (by walk_at "vw") (by k_is) (by k_is) (by k_is) (by k_is) (by show 1 < 100; decide) ?_
  intro s4 S4
  rw [upd_comm (a := nd) (b := dx) h2, upd_comm (a := x) (b := dx) hne.symm, upd_upd] at S4
  with_reducible refine Hid.out (by assumption) ?_
  with_reducible refine cons_hid ?_; intro _ _
  refine plainObj_wpAny_Assign_Attribute ?_
  with_reducible refine c_int (by assumption) ?_; intro _ _ _
  refine nm_r (by assumption) (by walk_at "lk") ?_
  refine sa (by assumption) (by walk_at "vw") (by walk_at "vw") (by k_is) (by k_is) (by k_is) (by k_is) (by show 2 < 100; decide) ?_
  intro s5 S5
  rw [upd_comm (a := nd) (b := dx) h2, upd_comm (a := x) (b := dx) hne.symm, upd_upd] at S5
  with_reducible refine Hid.out (by assumption) ?_
  with_reducible refine cons_hid ?_; intro _ _
  refine plainObj_wpAny_Assign_Attribute ?_
  with_reducible refine c_int (by assumption) ?_; intro _ _ _
  refine nm_r (by assumption) (by walk_at "lk") ?_
  refine sa (by assumption) (by walk_at "vw") (by walk_at "vw") (by k_is) (by k_is) (by k_is) (by k_is) (by show 3 < 100; decide) ?_
  intro s6 S6
  rw [upd_comm (a := nd) (b := dx) h2, upd_comm (a := x) (b := dx) hne.symm, upd_upd] at S6
  with_reducible refine Hid.out (by assumption) ?_
  with_reducible refine cons_hid ?_; intro _ _
  with_reducible refine wpAny_If ?_
  refine wpAny_isTrue_Compare1 ?_
  refine nm_n (by assumption) (by walk_at "lk") ?_
  with_reducible refine wpAny_Constant_none ?_
  with_reducible refine PyProof.Rows.isnot_none_none ?_
  with_reducible refine wpAny_truthy_bool ?_
  with_reducible refine ifF ?_
  with_reducible refine wpAny_execs_nil ?_
  with_reducible refine Hid.out (by assumption) ?_
  with_reducible refine wpAny_execs_nil ?_
  refine ⟨_, rfl, rfl, h x _ _ ⟨dx, nd, [], fun _ => 0, fun _ => 0, fun _ => 0, fun _ => 0, fun _ => [], none, 0, 0⟩ ?_ rfl rfl rfl rfl hx S6.pop⟩
  exact {
    sub := fun a ao ha => upd_old (by rw [upd_ne h1, upd_ne h2]; exact hnd) (upd_old (by rw [upd_ne hne.symm]; exact hx) (upd_old hdx ha))
    self := by walk_at "vw"
    atts := by walk_at "vw"
    wdx := hdx
    dict := by walk_at "vw"
    wnd := hnd
    info := fun n hn => nomatch hn
    wni := fun n hn => nomatch hn
    idc := fun n hn => nomatch hn
    succ := fun n hn => nomatch hn
    wsu := fun n hn => nomatch hn
    inj := fun n hn => nomatch hn
    nd := .nil
    ready := fun p hp => nomatch hp }
end
/-- one node more -/
noncomputable def SQ.add (q : SQ) (n : Nat) (x d u : Addr) : SQ := { q with N := q.N ++ [n], ni := fun k => if k = n then x else q.ni k, di := fun k => if k = n then d else q.di k, su := fun k => if k = n then u else q.su k, np := fun k => if k = n then 0 else q.np k, sc := fun k => if k = n then [] else q.sc k }
theorem valueAt_nodes {N : List Nat} {f : Nat → Addr} {n : Nat} (h : n ∈ N) : valueAt ((N.map fun k : Nat => ((k : Int), f k)).map fun p => (p.1, Value.ref p.2)) (n : Int) = some (.ref (f n)) := by
  induction N with
  | nil => cases h
  | cons k N ih =>
    unfold valueAt at ih ⊢
    rw [List.map_cons, List.map_cons, List.find?_cons]
    by_cases e : k = n
    · subst e; simp
    · have e' : decide (((k : Int)) = (n : Int)) = false := decide_eq_false (by omega)
      simp only [e']
      exact ih ((List.mem_cons.mp h).resolve_left (fun q => e q.symm))
theorem valueAt_no {N : List Nat} {f : Nat → Addr} {n : Nat} (h : n ∉ N) : valueAt ((N.map fun k : Nat => ((k : Int), f k)).map fun p => (p.1, Value.ref p.2)) (n : Int) = none := by
  induction N with
  | nil => rfl
  | cons k N ih =>
    unfold valueAt at ih ⊢
    rw [List.map_cons, List.map_cons, List.find?_cons]
    have e : k ≠ n := fun e => h (by rw [e]; exact .head _)
    have e' : decide (((k : Int)) = (n : Int)) = false := decide_eq_false (by omega)
    simp only [e']
    exact ih fun q => h (.tail _ q)
theorem stored_no {N : List Nat} {f : Nat → Addr} {n : Nat} {y : Addr} (h : n ∉ N) : stored ((N.map fun k : Nat => ((k : Int), f k)).map fun p => (p.1, Value.ref p.2)) (n : Int) (er (.ref y)) = (N.map (fun k : Nat => ((k : Int), f k)) ++ [((n : Int), y)]).map fun p => (p.1, Value.ref p.2) := by
  unfold stored
  rw [if_neg, List.map_append]
  · rfl
  · rw [List.map_map, List.any_map, Bool.not_eq_true, List.any_eq_false]
    intro k hk e
    have e := of_decide_eq_true e
    have e' : (k : Int) = (n : Int) := e
    exact h (by rw [← Int.ofNat.inj e']; exact hk)
section
variable {w : World} {G : Gd w} {f₀ : Addr × FK} {fs : Frs} {W V V' : View} {s s' : Shared} {l a b x : Addr} {A : Around} {E : Value → Shared → Prop} {Q : Value → Shared → Prop} {q : SQ} {n : Nat}
theorem gni_old {t : Tok} (r : Rm A 5) (S : SS G (f₀ :: fs) V s) (T : Srt W V x q) (hn : n ∈ q.N) (h : ∀ s', SS G (f₀ :: fs) V s' → Q (.ref (q.ni n)) s') :
    wpAny (model PP w) A (call (.ref 150) [.ref x, .int n t]) Q E s := by
  refine enter [(Str.ofString "self", .ref x), (Str.ofString "node", .int n t)] S (by k_is) (by k_is) r.room (BindsTo.of_eq rfl) (locs rfl) (by decide) rfl rfl rfl ?_
  intro L s₁ S₁
  simp only [lvOf, List.foldl, er] at S₁
  with_reducible refine cons_hid ?_; intro _ _
  with_reducible refine wpAny_If ?_
  refine wpAny_isTrue_Compare1 ?_
  refine wpAny_NamedExpr ?_
  refine MethodCall_ ?_
  refine Attribute_any_ ?_
  refine nm_r (by assumption) (by walk_at "lk") ?_
  refine ga (by assumption) T.self T.atts (by k_is) (by k_is) (by k_is) (by k_is) rfl rfl ?_
  intro v s2 hv S2
  rw [er_ref hv]
  refine dmet (by assumption) T.dict rfl PySem.F.slot_dict_get PySem.F.type_dict_get ?_
  refine callWith_method1 ?_
  refine wpAny_items_cons ?_
  refine nm_i (by assumption) (by walk_at "lk") ?_; intro _
  with_reducible refine wpAny_items_nil ?_
  refine dget1 (by assumption) T.dict rfl ?_
  intro v3 s3 hv3 S3
  rw [valueAt_nodes hn] at hv3
  rw [er_ref hv3]
  with_reducible refine wpAny_assign_Name ?_
  refine sto (by assumption) ?_; intro _ _
  with_reducible refine wpAny_Constant_none ?_
  refine PyProof.Rows.is_none_ne (by nofun) ?_
  with_reducible refine wpAny_truthy_bool ?_
  with_reducible refine ifF ?_
  with_reducible refine wpAny_execs_nil ?_
  with_reducible refine Hid.out (by assumption) ?_
  with_reducible refine cons_hid ?_; intro _ _
  with_reducible refine wpAny_Return_some ?_
  refine nm_r (by assumption) (by walk_at "lk") ?_
  with_reducible refine Hid.out (by assumption) ?_
  exact h _ (SS.pop (by assumption))
theorem gni_new {t : Tok} (r : Rm A 5) (S : SS G (f₀ :: fs) V s) (T : Srt W V x q) (hn : n ∉ q.N) (hz : q.N.length < 100) (h : ∀ V' s' y d u, Srt W V' x (q.add n y d u) → SS G (f₀ :: fs) V' s' → Q (.ref y) s') :
    wpAny (model PP w) A (call (.ref 150) [.ref x, .int n t]) Q E s := by
  refine enter [(Str.ofString "self", .ref x), (Str.ofString "node", .int n t)] S (by k_is) (by k_is) r.room (BindsTo.of_eq rfl) (locs rfl) (by decide) rfl rfl rfl ?_
  intro L s₁ S₁
  simp only [lvOf, List.foldl, er] at S₁
  have r' : ∀ env, Rm (A.deeper env) 4 := fun _ => r.deeper
  with_reducible refine cons_hid ?_; intro _ _
  with_reducible refine wpAny_If ?_
  refine wpAny_isTrue_Compare1 ?_
  refine wpAny_NamedExpr ?_
  refine MethodCall_ ?_
  refine Attribute_any_ ?_
  refine nm_r (by assumption) (by walk_at "lk") ?_
  refine ga (by assumption) T.self T.atts (by k_is) (by k_is) (by k_is) (by k_is) rfl rfl ?_
  intro v s2 hv S2
  rw [er_ref hv]
  refine dmet (by assumption) T.dict rfl PySem.F.slot_dict_get PySem.F.type_dict_get ?_
  refine callWith_method1 ?_
  refine wpAny_items_cons ?_
  refine nm_i (by assumption) (by walk_at "lk") ?_; intro _
  with_reducible refine wpAny_items_nil ?_
  refine dget1 (by assumption) T.dict rfl ?_
  intro v3 s3 hv3 S3
  rw [valueAt_no hn] at hv3
  have hv3 : v3 = .none := by cases v3 <;> simp [er] at hv3; rfl
  subst hv3
  with_reducible refine wpAny_assign_Name ?_
  refine sto (by assumption) ?_; intro _ _
  with_reducible refine wpAny_Constant_none ?_
  with_reducible refine PyProof.Rows.is_none_none ?_
  with_reducible refine wpAny_truthy_bool ?_
  with_reducible refine ifT ?_
  with_reducible refine cons_hid ?_; intro _ _
  refine wpAny_Assign_two ?_
  refine wpAny_Call_NameR ?_
  refine nm_g (by assumption) (by k_is) ?_
  refine callWith_K (SS.K (by assumption)) (by k_is) ?_
  refine wpAny_items_cons ?_
  refine nm_i (by assumption) (by walk_at "lk") ?_; intro _
  with_reducible refine wpAny_items_nil ?_
  refine ⟨SS.K (by assumption), ?_⟩
  refine node_c ((r' _).le (by decide)) (by assumption) ?_
  intro y d u s4 hy hd hu h1 h2 h3 S4
  refine asg_sub ?_
  refine Attribute_any_ ?_
  refine nm_r (by assumption) (by walk_at "lk") ?_
  have hd1 := hd
  have T1 : Srt W (upd V d (.atd [])) x q := T.new hd
  have T2 : Srt W (upd (upd V d (.atd [])) u (.ilist [])) x q := T1.new (by rw [upd_ne h3]; exact hu)
  have T3 : Srt W (upd (upd (upd V d (.atd [])) u (.ilist [])) y (.ins 110 d [some (.int n 0), some (.int 0 0), some (.ref u)])) x q := T2.new (by rw [upd_ne h2.symm, upd_ne h1.symm]; exact hy)
  refine ga (by assumption) T3.self T3.atts (by k_is) (by k_is) (by k_is) (by k_is) rfl rfl ?_
  intro v5 s5 hv5 S5
  rw [er_ref hv5]
  refine nm_i (by assumption) (by walk_at "lk") ?_; intro _
  refine dset (ao' := .rdict (q.N.map (fun k : Nat => ((k : Int), q.ni k)) ++ [((n : Int), y)])) (by assumption) T3.dict rfl (by rw [stored_no hn]; rfl) (by rw [List.length_map, List.length_map]; omega) ?_
  intro s6 S6
  with_reducible refine wpAny_assign_Name ?_
  refine sto (by assumption) ?_; intro _ _
  with_reducible refine Hid.out (by assumption) ?_
  with_reducible refine wpAny_execs_nil ?_
  with_reducible refine Hid.out (by assumption) ?_
  with_reducible refine cons_hid ?_; intro _ _
  with_reducible refine wpAny_Return_some ?_
  refine nm_r (by assumption) (by walk_at "lk") ?_
  with_reducible refine Hid.out (by assumption) ?_
  refine h _ _ y d u ?_ (SS.pop (by assumption))
  have nwy : W y = none := by cases e : W y with | none => rfl | some o => have := T.sub _ _ e; rw [hy] at this; cases this
  have nwu : W u = none := by cases e : W u with | none => rfl | some o => have := T.sub _ _ e; rw [hu] at this; cases this
  have ndy : y ≠ q.nd := fun e => by have := T.dict; rw [← e, hy] at this; cases this
  have ndd : d ≠ q.nd := fun e => by have := T.dict; rw [← e, hd] at this; cases this
  have ndu : u ≠ q.nd := fun e => by have := T.dict; rw [← e, hu] at this; cases this
  have dd : q.dx ≠ q.nd := fun e => by have := T.atts; rw [e, T.dict] at this; cases this
  have dsf : x ≠ q.nd := fun e => by have := T.self; rw [e, T.dict] at this; cases this
  have mem : ∀ k, k ∈ (q.add n y d u).N → k ∈ q.N ∧ k ≠ n ∨ k = n := fun k hk => by
    rcases List.mem_append.mp hk with hk | hk
    · exact .inl ⟨hk, fun e => hn (by rw [← e]; exact hk)⟩
    · exact .inr (List.mem_singleton.mp hk)
  exact {
    sub := fun a ao ha => (upd_ne (fun e => by rw [e, T.wnd] at ha; cases ha)).trans (T3.sub a ao ha)
    self := (upd_ne dsf).trans T3.self
    atts := (upd_ne dd).trans T3.atts
    wdx := T.wdx
    dict := by
      refine upd_eq.trans ?_
      congr 2
      show _ = (q.N ++ [n]).map _
      rw [List.map_append]
      congr 1
      · refine List.map_congr_left fun k hk => ?_
        show ((k : Int), q.ni k) = ((k : Int), if k = n then y else q.ni k)
        rw [if_neg (fun e => hn (by rw [← e]; exact hk))]
      · show [((n : Int), y)] = [((n : Int), if n = n then y else q.ni n)]
        rw [if_pos rfl]
    wnd := T.wnd
    info := fun k hk => by
      rcases mem k hk with ⟨hk, e⟩ | rfl
      · have i := T3.info k hk
        have hne : q.ni k ≠ q.nd := fun e => by rw [e, T3.dict] at i; cases i
        simp only [SQ.add, infoOf, if_neg e]
        exact (upd_ne hne).trans i
      · simp only [SQ.add, infoOf, if_pos rfl]
        exact (upd_ne ndy).trans upd_eq
    wni := fun k hk => by
      rcases mem k hk with ⟨hk, e⟩ | rfl
      · simp only [SQ.add, if_neg e]; exact T.wni k hk
      · simp only [SQ.add, if_pos rfl]; exact nwy
    idc := fun k hk => by
      rcases mem k hk with ⟨hk, e⟩ | rfl
      · have i := T3.idc k hk
        have hne : q.di k ≠ q.nd := fun e => by rw [e, T3.dict] at i; cases i
        simp only [SQ.add, if_neg e]
        exact (upd_ne hne).trans i
      · simp only [SQ.add, if_pos rfl]
        exact (upd_ne ndd).trans ((upd_ne h1).trans ((upd_ne h3.symm).trans upd_eq))
    succ := fun k hk => by
      rcases mem k hk with ⟨hk, e⟩ | rfl
      · have i := T3.succ k hk
        have hne : q.su k ≠ q.nd := fun e => by rw [e, T3.dict] at i; cases i
        simp only [SQ.add, if_neg e]
        exact (upd_ne hne).trans i
      · simp only [SQ.add, if_pos rfl]
        exact (upd_ne ndu).trans ((upd_ne h2).trans upd_eq)
    wsu := fun k hk => by
      rcases mem k hk with ⟨hk, e⟩ | rfl
      · simp only [SQ.add, if_neg e]; exact T.wsu k hk
      · simp only [SQ.add, if_pos rfl]; exact nwu
    inj := fun k hk j hj => by
      have nu : ∀ i ∈ q.N, q.su i ≠ u := fun i hi e => by have := T.succ i hi; rw [e, hu] at this; cases this
      rcases mem k hk with ⟨hk1, e⟩ | e
      · rcases mem j hj with ⟨hj1, e'⟩ | e'
        · simp only [SQ.add, if_neg e, if_neg e']; exact T.inj k hk1 j hj1
        · simp only [SQ.add, if_neg e, if_pos e']; exact fun x => absurd x (nu k hk1)
      · rcases mem j hj with ⟨hj1, e'⟩ | e'
        · simp only [SQ.add, if_neg e', if_pos e]; exact fun x => absurd x.symm (nu j hj1)
        · exact fun _ => e.trans e'.symm
    nd := by
      show (q.N ++ [n]).Nodup
      rw [List.nodup_append]
      exact ⟨T.nd, by simp, fun a ha b hb e => hn (by rw [List.mem_singleton.mp hb] at e; rw [← e]; exact ha)⟩
    ready := fun p hp => by
      obtain ⟨i1, i2, i3⟩ := T3.ready p hp
      refine ⟨(upd_ne fun e => by rw [e, T3.dict] at i1; cases i1).trans i1, i2, fun k hk => ?_⟩
      rcases mem k hk with ⟨hk, e⟩ | rfl
      · simp only [SQ.add, if_neg e]; exact i3 k hk
      · simp only [SQ.add, ↓reduceIte]
        intro e
        have := (T.ready p hp).1
        rw [← e, hu] at this; cases this }
end

section
variable {w : World} {G : Gd w} {f₀ : Addr × FK} {fs : Frs} {V V' : View} {s s' : Shared} {l a b d L I x dx C : Addr} {m : Loc} {ao : AObj} {A : Around} {E : Value → Shared → Prop} {env : Env}
/-- a call of a def that takes the rest of its arguments as a tuple -/
theorem enterVc {f : Addr} {vals : List Value} {rest : List Value} {ns : List Int} (binds : Value → List (Str × Value)) {Q : Value → Shared → Prop} {name qual : Str} {params : Arguments} {body : List Stmt} {scope : Scope} {dV kV doc pm cdv ct oc : Value} {an od : Option Addr} {osl : Array (Option Value)}
    (S : SS G (f₀ :: fs) V s) (ho : (hd.heap_39 w.params).lookup f = some ⟨oc, od, .func (fnOf name qual params body scope dV kV doc pm an cdv ct), osl⟩) (hcd : codeIn (hd.heap_39 w.params) cdv qual = true) (hroom : A.depth < recursionLimit)
    (hbind : bindArgs (fnOf name qual params body scope dV kV doc pm an cdv ct) ⟨vals, []⟩ = (newTuple rest >>= fun t => pure (binds t))) (hI : IntsAre rest ns) (hlen : ns.length < 1000)
    (hloc : ∀ t, ∀ y ∈ binds t, scope.names.lookup y.1 = some .local)
    (hcell : ∀ x ∈ scope.names, x.2 ≠ .cell) (hco : scope.isCoroutine = false) (hgen : scope.isGenerator = false) (hk : scope.kind = .function)
    (h : ∀ L t s₁, V t = none → SS G ((L, .loc (lvOf (binds (.ref t)))) :: f₀ :: fs) (upd V t (.itup ns)) s₁ → wpAny (model PP w) (A.deeper (envOf qual scope L f cdv)) (execs body (envOf qual scope L f cdv))
      (fun fl s' => Q (rv fl) s') (fun _ _ => False) s₁) :
    codeAny (model PP w) A (.call (.ref f) ⟨vals, []⟩) (fun r s' => match r with | .ok (.ret v) => Q v s' | .ok _ => False | .error e => E e s') s := by
  refine codeAny_call_function hroom (S.K _ _ ho) rfl hco hgen rfl (codeRec_of S.K hcd) ?_
  rw [hbind]
  have hz : rest.length ≤ sizeLine := by rw [hI.length]; show ns.length ≤ 2 ^ 24; omega
  have S1 : SS G (f₀ :: fs) (upd V s.heap.objs.size (.itup ns)) { s with heap := s.heap.push { cls := .type "tuple", data := .seq rest.toArray } } :=
    S.new S.ge (Nat.le_refl _) rfl rfl (fun b o e => Heap.get?_push_of_some _ e) ⟨_, Heap.get?_push_size _ rfl, rest.toArray, 0, rfl, hI⟩
  refine wpAny_bind (wpAny_newTuple ?_)
  refine wpAny_pure ?_
  refine wpAny_newFunctionEnv hcell (hloc _) (fun h₀ hns₀ hsb₀ => ⟨S1.lim.fresh _ hsb₀, codeAny_func ?_⟩) hk
  refine wpAny_mono (h _ _ _ (S.fresh (Nat.le_refl _)) (S1.push (s' := { s with heap := h₀, toks := s.toks + (binds (.ref s.heap.objs.size)).length }) S1.ge (Nat.le_refl _) rfl rfl (fun b o e => hsb₀.extBut b o (Nat.ne_of_lt (Heap.lt_size e)) (Heap.get?_push_of_some _ e)) ⟨_, hns₀, lvOf_eq _⟩)) (fun fl _ x => by cases fl <;> exact x) (fun _ _ x => x.elim)
end
noncomputable def SQ.setNp (q : SQ) (n : Nat) (v : Int) : SQ := { q with np := fun k => if k = n then v else q.np k }
noncomputable def SQ.setSc (q : SQ) (n : Nat) (l : List Nat) : SQ := { q with sc := fun k => if k = n then l else q.sc k }
section
variable {W V : View} {x : Addr} {q : SQ} {n : Nat}
theorem Srt.ni_ne (T : Srt W V x q) {k : Nat} (hn : n ∈ q.N) (hk : k ∈ q.N) (h : k ≠ n) : q.ni k ≠ q.ni n := fun e => by
  have h1 := T.info k hk
  rw [e, T.info n hn] at h1
  simp only [infoOf, Option.some.injEq, AObj.ins.injEq, List.cons.injEq, Value.int.injEq] at h1
  omega
theorem Srt.setNp (T : Srt W V x q) (hn : n ∈ q.N) (v : Int) : Srt W (upd V (q.ni n) (infoOf (q.setNp n v) n)) x (q.setNp n v) := by
  have i := T.info n hn
  have ne : ∀ a o, V a = some o → (∀ c d l, o ≠ .ins c d l) → a ≠ q.ni n := fun a o h h' e => by rw [e, i] at h; exact h' _ _ _ (Option.some.inj h).symm
  have xne : x ≠ q.ni n := fun e => by have := T.self; rw [e, i] at this; cases this
  exact {
    sub := fun a ao h => (upd_ne (fun e => by rw [e, T.wni n hn] at h; cases h)).trans (T.sub a ao h)
    self := (upd_ne xne).trans T.self
    atts := (upd_ne (ne _ _ T.atts (by intros; nofun))).trans T.atts
    wdx := T.wdx
    dict := (upd_ne (ne _ _ T.dict (by intros; nofun))).trans T.dict
    wnd := T.wnd
    info := fun k hk => by
      by_cases e : k = n
      · subst e; exact upd_eq
      · have h1 := (upd_ne (o := infoOf (q.setNp n v) n) (T.ni_ne hn hk e)).trans (T.info k hk)
        simp only [infoOf, SQ.setNp, if_neg e] at h1 ⊢
        exact h1
    wni := T.wni
    idc := fun k hk => (upd_ne (ne _ _ (T.idc k hk) (by intros; nofun))).trans (T.idc k hk)
    succ := fun k hk => (upd_ne (ne _ _ (T.succ k hk) (by intros; nofun))).trans (T.succ k hk)
    wsu := T.wsu
    inj := T.inj
    nd := T.nd
    ready := fun p hp => ⟨(upd_ne (ne _ _ (T.ready p hp).1 (by intros; nofun))).trans (T.ready p hp).1, (T.ready p hp).2⟩ }
theorem Srt.setSc (T : Srt W V x q) (hn : n ∈ q.N) (l : List Nat) : Srt W (upd V (q.su n) (.ilist (l.map Int.ofNat))) x (q.setSc n l) := by
  have i := T.succ n hn
  have ne : ∀ a o, V a = some o → (∀ l, o ≠ .ilist l) → a ≠ q.su n := fun a o h h' e => by rw [e, i] at h; exact h' _ (Option.some.inj h).symm
  exact {
    sub := fun a ao h => (upd_ne (fun e => by rw [e, T.wsu n hn] at h; cases h)).trans (T.sub a ao h)
    self := (upd_ne (ne _ _ T.self (by intros; nofun))).trans T.self
    atts := (upd_ne (ne _ _ T.atts (by intros; nofun))).trans T.atts
    wdx := T.wdx
    dict := (upd_ne (ne _ _ T.dict (by intros; nofun))).trans T.dict
    wnd := T.wnd
    info := fun k hk => (upd_ne (ne _ _ (T.info k hk) (by intros; nofun))).trans (T.info k hk)
    wni := T.wni
    idc := fun k hk => (upd_ne (ne _ _ (T.idc k hk) (by intros; nofun))).trans (T.idc k hk)
    succ := fun k hk => by
      by_cases e : k = n
      · subst e; simp only [SQ.setSc, ↓reduceIte]; exact upd_eq
      · simp only [SQ.setSc, if_neg e]
        exact (upd_ne (fun h => e (T.inj k hk n hn h))).trans (T.succ k hk)
    wsu := T.wsu
    inj := T.inj
    nd := T.nd
    ready := fun p hp => ⟨(upd_ne ((T.ready p hp).2.2 n hn).symm).trans (T.ready p hp).1, (T.ready p hp).2⟩ }
theorem Srt.weakW {W' : View} (T : Srt W' V x q) (h : ∀ a ao, W a = some ao → W' a = some ao) : Srt W V x q := by
  have no : ∀ a, W' a = none → W a = none := fun a e => by cases i : W a with | none => rfl | some o => rw [h a o i] at e; cases e
  exact {
    sub := fun a ao e => T.sub a ao (h a ao e)
    self := T.self
    atts := T.atts
    wdx := no _ T.wdx
    dict := T.dict
    wnd := no _ T.wnd
    info := T.info
    wni := fun n hn => no _ (T.wni n hn)
    idc := T.idc
    succ := T.succ
    wsu := fun n hn => no _ (T.wsu n hn)
    inj := T.inj
    nd := T.nd
    ready := fun p hp => ⟨(T.ready p hp).1, no _ (T.ready p hp).2.1, (T.ready p hp).2.2⟩ }
end
/-- n is put behind each of ps -/
noncomputable def SQ.link (q : SQ) (n : Nat) (ps : List Nat) : SQ := { q with sc := fun k => if k ∈ ps then q.sc k ++ [n] else q.sc k }
theorem len_it {w : World} {G : Gd w} {fs : Frs} {V : View} {s : Shared} {l : Addr} {A : Around} {E : Value → Shared → Prop} {Q : Value → Shared → Prop} {ns : List Int} (S : SS G fs V s) (hV : V l = some (.itup ns)) (hk : ns.length < 1000000) (h : ∀ t s', SS G fs V s' → Q (.int ns.length t) s') : wpAny (model PP w) A (call (.builtin "len") [.ref l]) Q E s := by
  obtain ⟨vs, n, ho, hi⟩ := S.it hV
  have hl := hi.length
  rw [Array.length_toList] at hl
  refine len_tuple ⟨_, ho, rfl, n, rfl⟩ (by omega) ?_
  rw [hl]; exact h _ _ (S.tok _)
theorem SQ.link_nil (q : SQ) (n : Nat) : q.link n [] = q := by simp [SQ.link]
theorem SQ.link_snoc (q : SQ) (n p : Nat) (ps : List Nat) (h : p ∉ ps) : q.link n (ps ++ [p]) = (q.link n ps).setSc p ((q.link n ps).sc p ++ [n]) := by
  unfold SQ.link SQ.setSc
  congr 1
  funext k
  by_cases e : k = p
  · subst e; simp [h]
  · simp [e]
section
variable {w : World} {G : Gd w} {f₀ : Addr × FK} {fs : Frs} {W V V' : View} {s s' : Shared} {l a b x : Addr} {A : Around} {E : Value → Shared → Prop} {Q : Value → Shared → Prop} {q : SQ} {n : Nat}
theorem add_c {vs : List Value} {ps : List Nat} {t : Tok} (r : Rm A 8) (S : SS G (f₀ :: fs) V s) (T : Srt W V x q) (hn : n ∉ q.N) (hz : q.N.length < 100) (hrd : q.rd = none) (hI : IntsAre vs (ps.map Int.ofNat)) (hps : ∀ p ∈ ps, p ∈ q.N) (hnd : ps.Nodup) (hlen : ps.length < 100) (hsc : ∀ p ∈ q.N, (q.sc p).length < 1000)
    (h : ∀ V' s' y d u, Srt W V' x (((q.add n y d u).setNp n ps.length).link n ps) → SS G (f₀ :: fs) V' s' → Q .none s') :
    codeAny (model PP w) A (.call (.ref 157) ⟨(.ref x :: .int n t :: vs), []⟩) (fun r s' => match r with | .ok (.ret v) => Q v s' | .ok _ => False | .error e => E e s') s := by
  refine enterVc (fun tp => [(Str.ofString "self", .ref x), (Str.ofString "node", .int n t), (Str.ofString "predecessors", tp)]) S (by k_is) (by k_is) r.room (by cases vs with | nil => rfl | cons _ _ => rfl) hI (by rw [List.length_map]; omega) (fun _ => locs rfl) (by decide) rfl rfl rfl ?_
  intro L tp s₁ htp S₁
  simp only [lvOf, List.foldl, er] at S₁
  have r' : ∀ env, Rm (A.deeper env) 7 := fun _ => r.deeper
  have T0 : Srt (upd W tp (.itup (ps.map Int.ofNat))) (upd V tp (.itup (ps.map Int.ofNat))) x q := T.grow (.inl htp) (fun e => by rw [e, T.self] at htp; cases htp) (fun k hk e => by rw [e, T.idc k hk] at htp; cases htp)
  with_reducible refine cons_hid ?_; intro _ _
  with_reducible refine wpAny_If ?_
  refine wpAny_isTrue_Compare1 ?_
  refine Attribute_any_ ?_
  refine nm_r (by assumption) (by walk_at "lk") ?_
  refine ga (by assumption) T0.self T0.atts (by k_is) (by k_is) (by k_is) (by k_is) rfl (by rw [hrd]; rfl) ?_
  intro v s2 hv S2
  have hv : v = .none := by rw [hrd] at hv; cases v <;> simp [er, rdV] at hv; rfl
  subst hv
  with_reducible refine wpAny_Constant_none ?_
  with_reducible refine PyProof.Rows.isnot_none_none ?_
  with_reducible refine wpAny_truthy_bool ?_
  with_reducible refine ifF ?_
  with_reducible refine wpAny_execs_nil ?_
  with_reducible refine Hid.out (by assumption) ?_
  with_reducible refine cons_hid ?_; intro _ _
  refine wpAny_Assign_Name ?_
  refine MethodCall_ ?_
  refine nm_r (by assumption) (by walk_at "lk") ?_
  refine ma (by assumption) T0.self T0.atts (by k_is) (by k_is) (by k_is) rfl ?_
  refine callWith_K (SS.K (by assumption)) (by k_is) ?_
  refine wpAny_items_cons ?_
  refine nm_i (by assumption) (by walk_at "lk") ?_; intro _
  with_reducible refine wpAny_items_nil ?_
  refine ⟨SS.K (by assumption), ?_⟩
  refine gni_new ((r' _).le (by decide)) (by assumption) T0 hn hz ?_
  intro V1 s3 y d u T1 S3
  have hnN : n ∈ (q.add n y d u).N := List.mem_append_right _ (.head _)
  have i1 : V1 y = some (.ins 110 d [some (.int n 0), some (.int 0 0), some (.ref u)]) := by have := T1.info n hnN; simp only [SQ.add, infoOf, ↓reduceIte] at this; exact this
  have i2 : V1 d = some (.atd []) := by have := T1.idc n hnN; simp only [SQ.add, ↓reduceIte] at this; exact this
  refine sto (by assumption) ?_; intro _ _
  with_reducible refine Hid.out (by assumption) ?_
  with_reducible refine cons_hid ?_; intro _ _
  refine wpAny_AugAssign_AttributeAny ?_
  refine nm_r (by assumption) (by walk_at "lk") ?_
  refine gs (by assumption) i1 i2 (by k_is) (by k_is) (by k_is) (by k_is) (by k_is) (by k_is) rfl rfl ?_
  intro v4 s4 hv4 S4
  obtain ⟨t4, rfl⟩ := er_int hv4
  refine wpAny_Call_NameR ?_
  refine nm_b (by assumption) (by k_is) (by walk_at "bt") (by decide +kernel) ?_
  refine callWith_method1 ?_
  refine wpAny_items_cons ?_
  refine nm_r (by assumption) (by walk_at "lk") ?_
  with_reducible refine wpAny_items_nil ?_
  have htpV : V1 tp = some (.itup (ps.map Int.ofNat)) := T1.sub _ _ upd_eq
  refine len_it (by assumption) htpV (by rw [List.length_map]; omega) ?_
  rw [List.length_map]
  intro _ _ _
  with_reducible refine iadd_i (by assumption) ?_; intro _ _ _
  refine ss (by assumption) i1 i2 (by k_is) (by k_is) (by k_is) (by k_is) (by k_is) (by decide) ?_
  intro s5 S5
  have T2 : Srt (upd W tp (.itup (ps.map Int.ofNat))) (upd V1 y (.ins 110 d [some (.int n 0), some (.int ps.length 0), some (.ref u)])) x ((q.add n y d u).setNp n ps.length) := by
    have := T1.setNp hnN ps.length
    rw [show (q.add n y d u).ni n = y from if_pos rfl, show infoOf ((q.add n y d u).setNp n ps.length) n = .ins 110 d [some (.int n 0), some (.int ps.length 0), some (.ref u)] from by simp [infoOf, SQ.add, SQ.setNp]] at this
    exact this
  rw [Int.zero_add] at S5
  have S5 : SS G _ (upd V1 y (.ins 110 d [some (.int n 0), some (.int ps.length 0), some (.ref u)])) s5 := S5
  generalize upd V1 y _ = V2 at T2 S5
  have htp2 : V2 tp = some (.itup (ps.map Int.ofNat)) := T2.sub _ _ upd_eq
  clear T1 i1 i2 htpV
  with_reducible refine Hid.out (by assumption) ?_
  with_reducible refine cons_hid ?_; intro _ _
  refine wpAny_For ?_
  refine nm_r (by assumption) (by walk_at "lk") ?_
  refine for_it (r' _) (by assumption) htp2 (fun i m V' => Srt (upd W tp (.itup (ps.map Int.ofNat))) V' x (((q.add n y d u).setNp n ps.length).link n (ps.take i)) ∧ m (Str.ofString "self") = some (.ref x) ∧ m (Str.ofString "node") = some (.int n 0))
    ⟨by rw [List.take_zero, SQ.link_nil]; exact T2, by walk_at "lk", by walk_at "lk"⟩ (fun i m V' h => h.1.sub _ _ upd_eq) ?_ ?_
  · rintro i m V' t it s6 hi ⟨T3, m1, m2⟩ S6
    rw [List.length_map] at hi
    obtain ⟨p, hp⟩ : ∃ p, ps[i]? = some p := ⟨_, List.getElem?_eq_getElem hi⟩
    have hval : (ps.map Int.ofNat).getD i 0 = (p : Int) := by simp [List.getD, hp]
    have hpm : p ∈ ps := List.mem_of_getElem? hp
    have htk : ps.take (i + 1) = ps.take i ++ [p] := by rw [List.take_succ, hp]; rfl
    have hpn : p ∉ ps.take i := by
      have hnd' := (List.take_append_drop (i + 1) ps) ▸ hnd
      rw [htk, List.append_assoc, List.nodup_append] at hnd'
      exact fun h1 => hnd'.2.2 p h1 p (.head _) rfl
    have hpN : p ∈ (((q.add n y d u).setNp n ps.length).link n (ps.take i)).N := List.mem_append_left _ (hps p hpm)
    have hsc3 : ((((q.add n y d u).setNp n ps.length).link n (ps.take i)).sc p).length < 1000 := by
      have pn : p ≠ n := fun e => hn (by rw [← e]; exact hps p hpm)
      simp only [SQ.link, SQ.setNp, SQ.add, if_neg hpn, if_neg pn]
      exact hsc p (hps p hpm)
    rw [hval]
    have j1 := T3.info p hpN
    have j2 := T3.idc p hpN
    have j3 := T3.succ p hpN
    rw [htk, SQ.link_snoc _ _ _ _ hpn]
    generalize ((q.add n y d u).setNp n ps.length).link n (ps.take i) = q3 at *
    with_reducible refine wpAny_assign_Name ?_
    refine sto (by assumption) ?_; intro _ _
    with_reducible refine cons_hid ?_; intro _ _
    refine wpAny_Assign_Name ?_
    refine MethodCall_ ?_
    refine nm_r (by assumption) (by walk_at "lk") ?_
    refine ma (by assumption) T3.self T3.atts (by k_is) (by k_is) (by k_is) rfl ?_
    refine callWith_K (SS.K (by assumption)) (by k_is) ?_
    refine wpAny_items_cons ?_
    refine nm_i (by assumption) (by walk_at "lk") ?_; intro _
    with_reducible refine wpAny_items_nil ?_
    refine ⟨SS.K (by assumption), ?_⟩
    refine gni_old ((r' _).le (by decide)) (by assumption) T3 hpN ?_
    intro s7 S7
    refine sto (by assumption) ?_; intro _ _
    with_reducible refine Hid.out (by assumption) ?_
    with_reducible refine cons_hid ?_; intro _ _
    refine wpAny_Expr_any ?_
    refine MethodCall_ ?_
    refine Attribute_any_ ?_
    refine nm_r (by assumption) (by walk_at "lk") ?_
    refine gs (by assumption) j1 j2 (by k_is) (by k_is) (by k_is) (by k_is) (by k_is) (by k_is) rfl rfl ?_
    intro v8 s8 hv8 S8
    rw [er_ref hv8]
    refine met_il (by assumption) j3 PySem.F.slot_list_append PySem.F.type_list_append ?_
    refine callWith_method1 ?_
    refine wpAny_items_cons ?_
    refine nm_i (by assumption) (by walk_at "lk") ?_; intro _
    with_reducible refine wpAny_items_nil ?_
    refine app_il (by assumption) j3 (by rw [List.length_map]; omega) ?_
    intro s9 S9
    with_reducible refine Hid.out (by assumption) ?_
    with_reducible refine wpAny_execs_nil ?_
    refine ⟨_, _, ⟨?_, by walk_at "lk", by walk_at "lk"⟩, S9⟩
    have := T3.setSc hpN (q3.sc p ++ [n])
    rw [List.map_append] at this
    exact this
  · rintro m V' s6 ⟨T3, m1, m2⟩ S6
    rw [List.length_map, List.take_length] at T3
    with_reducible refine wpAny_execs_nil ?_
    with_reducible refine Hid.out (by assumption) ?_
    with_reducible refine wpAny_execs_nil ?_
    have hW : W tp = none := by cases i : W tp with | none => rfl | some o => rw [T.sub _ _ i] at htp; cases htp
    exact h _ _ y d u (T3.weakW fun a ao ha => upd_old hW ha) S6.pop
end

theorem meets_bool_list (l : Addr) (vs : Array Value) (n : Nat) (hz : vs.size < 1000000) : Meets (Builtin.«bool.__new__» ⟨[.type "bool", .ref l], []⟩)
    (fun _ R s => s.heap.get? l = some (listOf vs n) ∧ R (.ok (.ret (.bool (!vs.isEmpty)))) { s with toks := s.toks + 1 + 1 }) :=
  Meets.of_wp fun prog w A R s hs => by
    obtain ⟨ho, hs⟩ := hs
    have ht : ∀ {Q : Bool → Shared → Prop} {A E}, Q (!vs.isEmpty) { s with toks := s.toks + 1 + 1 } → wpAny (model prog w) A (truthy (.ref l)) Q E s := fun h => wpAny_truthy_list (isList_of ho) (by omega) h
    have f1 := PySem.F.conv_sub_bool
    repeat (any_goals (first | assumption | with_reducible apply ht | wp_step))
    all_goals first | exact ⟨_, rfl, hs⟩ | skip
section
variable {w : World} {G : Gd w} {f₀ : Addr × FK} {fs : Frs} {V V' : View} {s s' : Shared} {l a b d L I x dx C : Addr} {A : Around} {E : Value → Shared → Prop} {env : Env} {Q : Value → Shared → Prop} {ns : List Int}
theorem bool_il (S : SS G fs V s) (hV : V l = some (.ilist ns)) (hz : ns.length < 1000000) (h : ∀ s', SS G fs V s' → Q (.bool (!ns.isEmpty)) s') : wpAny (model PP w) A (call (.type "bool") [.ref l]) Q E s := by
  obtain ⟨vs, n, ho, hi⟩ := S.il hV
  have hl := hi.length
  rw [Array.length_toList] at hl
  refine call_bool_1 (meets_bool_list l vs n (by omega)) ⟨ho, rfl, ?_⟩
  have e : vs.isEmpty = ns.isEmpty := by
    rw [Bool.eq_iff_iff, Array.isEmpty_iff_size_eq_zero, List.isEmpty_iff_length_eq_zero, hl]
  rw [e]; exact h _ (S.tok _)
end
section
variable {w : World} {G : Gd w} {f₀ : Addr × FK} {fs : Frs} {W V V' : View} {s s' : Shared} {l a b x : Addr} {A : Around} {E : Value → Shared → Prop} {Q : Value → Shared → Prop} {q : SQ} {n : Nat}
theorem active_c {rl : Addr} {rs : List Nat} (r : Rm A 5) (S : SS G (f₀ :: fs) V s) (T : Srt W V x q) (hrd : q.rd = some (rl, rs)) (hz : rs.length < 1000) (h : ∀ s', SS G (f₀ :: fs) V s' → Q (.bool (decide (q.nfin < q.npass) || !rs.isEmpty)) s') :
    wpAny (model PP w) A (call (.ref 176) [.ref x]) Q E s := by
  refine enter [(Str.ofString "self", .ref x)] S (by k_is) (by k_is) r.room (BindsTo.of_eq rfl) (locs rfl) (by decide) rfl rfl rfl ?_
  intro L s₁ S₁
  simp only [lvOf, List.foldl, er] at S₁
  with_reducible refine cons_hid ?_; intro _ _
  with_reducible refine wpAny_If ?_
  refine wpAny_isTrue_Compare1 ?_
  refine Attribute_any_ ?_
  refine nm_r (by assumption) (by walk_at "lk") ?_
  refine ga (by assumption) T.self T.atts (by k_is) (by k_is) (by k_is) (by k_is) rfl (by rw [hrd]; rfl) ?_
  intro v s2 hv S2
  rw [hrd] at hv
  rw [er_ref hv]
  with_reducible refine wpAny_Constant_none ?_
  refine PyProof.Rows.is_none_ne (by nofun) ?_
  with_reducible refine wpAny_truthy_bool ?_
  with_reducible refine ifF ?_
  with_reducible refine wpAny_execs_nil ?_
  with_reducible refine Hid.out (by assumption) ?_
  with_reducible refine cons_hid ?_; intro _ _
  with_reducible refine wpAny_Return_some ?_
  refine BoolOp_or ?_
  refine wpAny_Compare1 ?_
  refine Attribute_any_ ?_
  refine nm_r (by assumption) (by walk_at "lk") ?_
  refine ga (by assumption) T.self T.atts (by k_is) (by k_is) (by k_is) (by k_is) rfl rfl ?_
  intro v3 s3 hv3 S3
  obtain ⟨t3, rfl⟩ := er_int hv3
  refine Attribute_any_ ?_
  refine nm_r (by assumption) (by walk_at "lk") ?_
  refine ga (by assumption) T.self T.atts (by k_is) (by k_is) (by k_is) (by k_is) rfl rfl ?_
  intro v4 s4 hv4 S4
  obtain ⟨t4, rfl⟩ := er_int hv4
  with_reducible refine P.lt_int ?_
  with_reducible refine wpAny_truthy_bool ?_
  cases hc : decide (q.nfin < q.npass) with
  | true =>
    rw [hc] at h
    with_reducible refine ifT ?_
    with_reducible refine Hid.out (by assumption) ?_
    exact h _ (SS.pop (by assumption))
  | false =>
    rw [hc] at h
    with_reducible refine ifF ?_
    refine BoolOp_one ?_
    refine wpAny_Call_NameR ?_
    refine nm_b (by assumption) (by k_is) (by walk_at "bt") (by decide +kernel) ?_
    refine PyProof.Rows.callWith_type1 ?_
    refine wpAny_items_cons ?_
    refine Attribute_any_ ?_
    refine nm_r (by assumption) (by walk_at "lk") ?_
    refine ga (by assumption) T.self T.atts (by k_is) (by k_is) (by k_is) (by k_is) rfl (by rw [hrd]; rfl) ?_
    intro v5 s5 hv5 S5
    rw [hrd] at hv5
    rw [er_ref hv5]
    with_reducible refine wpAny_items_nil ?_
    refine bool_il (ns := rs.map Int.ofNat) (by assumption) (T.ready _ hrd).1 (by rw [List.length_map]; omega) ?_
    intro s6 S6
    rw [show (rs.map Int.ofNat).isEmpty = rs.isEmpty from by cases rs <;> rfl]
    with_reducible refine Hid.out (by assumption) ?_
    exact h _ (SS.pop (by assumption))
end

section
variable {w : World} {G : Gd w} {f₀ : Addr × FK} {fs : Frs} {V V' : View} {s s' : Shared} {l a b d L I x dx C : Addr} {A : Around} {E : Value → Shared → Prop} {env : Env} {Q : Value → Shared → Prop} {ns : List Int}
theorem clear_il (S : SS G fs V s) (hV : V l = some (.ilist ns)) (hz : ns.length < 1000000) (h : ∀ s', SS G fs (upd V l (.ilist [])) s' → Q .none s') : wpAny (model PP w) A (call (.builtin "list.clear") [.ref l]) Q E s := by
  obtain ⟨vs, n, ho, hi⟩ := S.il hV
  have hl := hi.length
  rw [Array.length_toList] at hl
  exact call_meets PySem.F.slot_list_clear ⟨_, ho, rfl⟩ PySem.F.entry_list_clear (PySem.F.args_list_clear_1 _) (PySem.AutoSeq1.list_clear_list_0 l vs n (by show vs.size ≤ 2 ^ 24; omega)) ⟨ho, h _ (S.lupd hV ho (fun _ => #[]) fun n'' => ⟨_, n'', rfl, .nil⟩)⟩
theorem tup_il (S : SS G (f₀ :: fs) V s) (hV : V l = some (.ilist ns)) (hz : ns.length < 1000000) (h : ∀ b s', V b = none → SS G (f₀ :: fs) (upd V b (.itup ns)) s' → Q (.ref b) s') : wpAny (model PP w) A (call (.type "tuple") [.ref l]) Q E s := by
  obtain ⟨vs, n, ho, hi⟩ := S.il hV
  have hl := hi.length
  rw [Array.length_toList] at hl
  refine call_tuple_list (isList_of ho) (fun h' hk => ?_) (by show vs.size ≤ 2 ^ 24; omega)
  have S1 : SS G (f₀ :: fs) V { s with heap := h' } := S.grow rfl rfl hk
  exact h _ _ (S1.fresh (Nat.le_refl _)) (S1.new (s' := { s with heap := h'.push _ }) S1.ge (Nat.le_refl _) rfl rfl (fun b o e => Heap.get?_push_of_some _ e) ⟨_, Heap.get?_push_size _ rfl, vs, 0, rfl, hi⟩)
end
section
variable {W V : View} {x : Addr} {q : SQ}
/-- the sorter's own attributes are others now -/
theorem Srt.setAtts (T : Srt W V x q) (rd : Option (Addr × List Nat)) (np nf : Int) (hr : ∀ p, rd = some p → V p.1 = some (.ilist (p.2.map Int.ofNat)) ∧ W p.1 = none ∧ ∀ n ∈ q.N, q.su n ≠ p.1) :
    Srt W (upd V q.dx (.atd (attsOf { q with rd := rd, npass := np, nfin := nf }))) x { q with rd := rd, npass := np, nfin := nf } := by
  have i := T.atts
  have ne : ∀ a o, V a = some o → (∀ l, o ≠ .atd l) → a ≠ q.dx := fun a o h h' e => by rw [e, i] at h; exact h' _ (Option.some.inj h).symm
  exact {
    sub := fun a ao h => (upd_ne (fun e => by rw [e, T.wdx] at h; cases h)).trans (T.sub a ao h)
    self := (upd_ne (ne _ _ T.self (by intros; nofun))).trans T.self
    atts := upd_eq
    wdx := T.wdx
    dict := (upd_ne (ne _ _ T.dict (by intros; nofun))).trans T.dict
    wnd := T.wnd
    info := fun k hk => (upd_ne (ne _ _ (T.info k hk) (by intros; nofun))).trans (T.info k hk)
    wni := T.wni
    idc := fun k hk => by
      have hne : q.di k ≠ q.dx := fun e => by have := T.idc k hk; rw [e, i] at this; cases this
      exact (upd_ne hne).trans (T.idc k hk)
    succ := fun k hk => (upd_ne (ne _ _ (T.succ k hk) (by intros; nofun))).trans (T.succ k hk)
    wsu := T.wsu
    inj := T.inj
    nd := T.nd
    ready := fun p hp => ⟨(upd_ne (ne _ _ (hr p hp).1 (by intros; nofun))).trans (hr p hp).1, (hr p hp).2⟩ }
/-- the ready list is another now -/
theorem Srt.setReady {p : Addr × List Nat} (T : Srt W V x q) (hp : q.rd = some p) (l : List Nat) : Srt W (upd V p.1 (.ilist (l.map Int.ofNat))) x { q with rd := some (p.1, l) } := by
  obtain ⟨i, iw, isu⟩ := T.ready p hp
  have ne : ∀ a o, V a = some o → (∀ l, o ≠ .ilist l) → a ≠ p.1 := fun a o h h' e => by rw [e, i] at h; exact h' _ (Option.some.inj h).symm
  exact {
    sub := fun a ao h => (upd_ne (fun e => by rw [e, iw] at h; cases h)).trans (T.sub a ao h)
    self := (upd_ne (ne _ _ T.self (by intros; nofun))).trans T.self
    atts := (upd_ne (ne _ _ T.atts (by intros; nofun))).trans (by have := T.atts; simp only [attsOf, hp, rdV] at this ⊢; exact this)
    wdx := T.wdx
    dict := (upd_ne (ne _ _ T.dict (by intros; nofun))).trans T.dict
    wnd := T.wnd
    info := fun k hk => (upd_ne (ne _ _ (T.info k hk) (by intros; nofun))).trans (T.info k hk)
    wni := T.wni
    idc := fun k hk => (upd_ne (ne _ _ (T.idc k hk) (by intros; nofun))).trans (T.idc k hk)
    succ := fun k hk => (upd_ne (isu k hk)).trans (T.succ k hk)
    wsu := T.wsu
    inj := T.inj
    nd := T.nd
    ready := fun p' hp' => by
      cases hp'
      exact ⟨upd_eq, iw, isu⟩ }
end
/-- the nodes ns are out -/
noncomputable def SQ.out (q : SQ) (ns : List Nat) (v : Int) : SQ := { q with np := fun k => if k ∈ ns then v else q.np k }
theorem SQ.out_nil (q : SQ) (v : Int) : q.out [] v = q := by simp [SQ.out]
theorem SQ.out_snoc (q : SQ) (n : Nat) (ns : List Nat) (v : Int) : q.out (ns ++ [n]) v = (q.out ns v).setNp n v := by
  unfold SQ.out SQ.setNp
  congr 1
  funext k
  by_cases e : k = n
  · subst e; simp
  · simp [e]
section
variable {w : World} {G : Gd w} {f₀ : Addr × FK} {fs : Frs} {W V V' : View} {s s' : Shared} {l a b x : Addr} {A : Around} {E : Value → Shared → Prop} {Q : Value → Shared → Prop} {q : SQ} {n : Nat}
theorem ready_c {rl : Addr} {rs : List Nat} (r : Rm A 5) (S : SS G (f₀ :: fs) V s) (T : Srt W V x q) (hrd : q.rd = some (rl, rs)) (hz : rs.length < 1000) (hin : ∀ n ∈ rs, n ∈ q.N)
    (h : ∀ V' s' b, V b = none → Srt (upd W b (.itup (rs.map Int.ofNat))) V' x { q.out rs (-1) with rd := some (rl, []), npass := q.npass + rs.length } → SS G (f₀ :: fs) V' s' → Q (.ref b) s') :
    wpAny (model PP w) A (call (.ref 169) [.ref x]) Q E s := by
  refine enter [(Str.ofString "self", .ref x)] S (by k_is) (by k_is) r.room (BindsTo.of_eq rfl) (locs rfl) (by decide) rfl rfl rfl ?_
  intro L s₁ S₁
  simp only [lvOf, List.foldl, er] at S₁
  have r' : ∀ env, Rm (A.deeper env) 4 := fun _ => r.deeper
  with_reducible refine cons_hid ?_; intro _ _
  with_reducible refine wpAny_If ?_
  refine wpAny_isTrue_Compare1 ?_
  refine Attribute_any_ ?_
  refine nm_r (by assumption) (by walk_at "lk") ?_
  refine ga (by assumption) T.self T.atts (by k_is) (by k_is) (by k_is) (by k_is) rfl (by rw [hrd]; rfl) ?_
  intro v s2 hv S2
  rw [hrd] at hv
  rw [er_ref hv]
  with_reducible refine wpAny_Constant_none ?_
  refine PyProof.Rows.is_none_ne (by nofun) ?_
  with_reducible refine wpAny_truthy_bool ?_
  with_reducible refine ifF ?_
  with_reducible refine wpAny_execs_nil ?_
  with_reducible refine Hid.out (by assumption) ?_
  with_reducible refine cons_hid ?_; intro _ _
  refine wpAny_Assign_Name ?_
  refine wpAny_Call_NameR ?_
  refine nm_b (by assumption) (by k_is) (by walk_at "bt") (by decide +kernel) ?_
  refine PyProof.Rows.callWith_type1 ?_
  refine wpAny_items_cons ?_
  refine Attribute_any_ ?_
  refine nm_r (by assumption) (by walk_at "lk") ?_
  refine ga (by assumption) T.self T.atts (by k_is) (by k_is) (by k_is) (by k_is) rfl (by rw [hrd]; rfl) ?_
  intro v s3 hv S3
  rw [hrd] at hv
  rw [er_ref hv]
  with_reducible refine wpAny_items_nil ?_
  refine tup_il (ns := rs.map Int.ofNat) (by assumption) (T.ready _ hrd).1 (by rw [List.length_map]; omega) ?_
  intro b s4 hb S4
  have T0 : Srt (upd W b (.itup (rs.map Int.ofNat))) (upd V b (.itup (rs.map Int.ofNat))) x q := T.grow (.inl hb) (fun e => by rw [e, T.self] at hb; cases hb) (fun k hk e => by rw [e, T.idc k hk] at hb; cases hb)
  generalize upd V b _ = V1 at *
  refine sto (by assumption) ?_; intro _ _
  with_reducible refine Hid.out (by assumption) ?_
  with_reducible refine cons_hid ?_; intro _ _
  refine wpAny_Assign_Name ?_
  refine Attribute_any_ ?_
  refine nm_r (by assumption) (by walk_at "lk") ?_
  refine ga (by assumption) T0.self T0.atts (by k_is) (by k_is) (by k_is) (by k_is) rfl rfl ?_
  intro v s5 hv S5
  rw [er_ref hv]
  refine sto (by assumption) ?_; intro _ _
  with_reducible refine Hid.out (by assumption) ?_
  with_reducible refine cons_hid ?_; intro _ _
  refine wpAny_For ?_
  refine nm_r (by assumption) (by walk_at "lk") ?_
  refine for_it (r' _) (by assumption) (T0.sub _ _ upd_eq) (fun i m V' => Srt (upd W b (.itup (rs.map Int.ofNat))) V' x (q.out (rs.take i) (-1)) ∧ m (Str.ofString "self") = some (.ref x) ∧ m (Str.ofString "n2i") = some (.ref q.nd) ∧ m (Str.ofString "result") = some (.ref b))
    ⟨by rw [List.take_zero, SQ.out_nil]; exact T0, by walk_at "lk", by walk_at "lk", by walk_at "lk"⟩ (fun i m V' h => h.1.sub _ _ upd_eq) ?_ ?_
  · rintro i m V' t it s6 hi ⟨T3, m1, m2, m3⟩ S6
    rw [List.length_map] at hi
    obtain ⟨p, hp⟩ : ∃ p, rs[i]? = some p := ⟨_, List.getElem?_eq_getElem hi⟩
    have hval : (rs.map Int.ofNat).getD i 0 = (p : Int) := by simp [List.getD, hp]
    have htk : rs.take (i + 1) = rs.take i ++ [p] := by rw [List.take_succ, hp]; rfl
    have hpN : p ∈ (q.out (rs.take i) (-1)).N := hin p (List.mem_of_getElem? hp)
    rw [hval, htk, SQ.out_snoc]
    have hnd : (q.out (rs.take i) (-1)).nd = q.nd := rfl
    rw [← hnd] at m2
    generalize q.out (rs.take i) (-1) = q3 at *
    with_reducible refine wpAny_assign_Name ?_
    refine sto (by assumption) ?_; intro _ _
    with_reducible refine cons_hid ?_; intro _ _
    refine plainObj_wpAny_Assign_Attribute ?_
    refine nm_g (by assumption) (by k_is) ?_
    with_reducible refine Subscript_ ?_
    refine nm_r (by assumption) (by walk_at "lk") ?_
    refine nm_i (by assumption) (by walk_at "lk") ?_; intro _
    refine ditem (by assumption) T3.dict rfl (valueAt_nodes hpN) ?_
    intro v7 s7 hv7 S7
    rw [er_ref hv7]
    have j1 := T3.info p hpN
    have j2 := T3.idc p hpN
    refine ss (by assumption) j1 j2 (by k_is) (by k_is) (by k_is) (by k_is) (by k_is) (by decide) ?_
    intro s8 S8
    with_reducible refine Hid.out (by assumption) ?_
    with_reducible refine wpAny_execs_nil ?_
    refine ⟨_, _, ⟨?_, by walk_at "lk", by rw [← hnd]; walk_at "lk", by walk_at "lk"⟩, S8⟩
    have T4 := T3.setNp hpN (-1)
    rw [show infoOf (q3.setNp p (-1)) p = .ins 110 (q3.di p) [some (.int p 0), some (.int (-1) 0), some (.ref (q3.su p))] from by simp [infoOf, SQ.setNp]] at T4
    exact T4
  · rintro m V' s6 ⟨T3, m1, m2, m3⟩ S6
    rw [List.length_map, List.take_length] at T3
    have hrd' : (q.out rs (-1)).rd = some (rl, rs) := hrd
    have hnp : (q.out rs (-1)).npass = q.npass := rfl
    have hnf : (q.out rs (-1)).nfin = q.nfin := rfl
    generalize q.out rs (-1) = q3 at *
    with_reducible refine wpAny_execs_nil ?_
    with_reducible refine Hid.out (by assumption) ?_
    with_reducible refine cons_hid ?_; intro _ _
    refine wpAny_Expr_any ?_
    refine MethodCall_ ?_
    refine Attribute_any_ ?_
    refine nm_r (by assumption) (by walk_at "lk") ?_
    refine ga (by assumption) T3.self T3.atts (by k_is) (by k_is) (by k_is) (by k_is) rfl (by rw [hrd']; rfl) ?_
    intro v7 s7 hv7 S7
    rw [hrd'] at hv7
    rw [er_ref hv7]
    have R := T3.ready _ hrd'
    refine met_il (by assumption) R.1 PySem.F.slot_list_clear PySem.F.type_list_clear ?_
    refine callWith_method0 ?_
    refine clear_il (by assumption) R.1 (by rw [List.length_map]; exact Nat.lt_trans hz (by decide)) ?_
    intro s8 S8
    have T4 := T3.setReady hrd' []
    have S8 : SS G _ (upd V' rl (.ilist (List.map Int.ofNat []))) s8 := S8
    generalize upd V' rl _ = V4 at T4 S8
    with_reducible refine Hid.out (by assumption) ?_
    with_reducible refine cons_hid ?_; intro _ _
    refine wpAny_AugAssign_AttributeAny ?_
    refine nm_r (by assumption) (by walk_at "lk") ?_
    refine ga (by assumption) T4.self T4.atts (by k_is) (by k_is) (by k_is) (by k_is) rfl rfl ?_
    intro v9 s9 hv9 S9
    obtain ⟨t9, rfl⟩ := er_int hv9
    refine wpAny_Call_NameR ?_
    refine nm_b (by assumption) (by k_is) (by walk_at "bt") (by decide +kernel) ?_
    refine callWith_method1 ?_
    refine wpAny_items_cons ?_
    refine nm_r (by assumption) (by walk_at "lk") ?_
    with_reducible refine wpAny_items_nil ?_
    refine len_it (by assumption) (T4.sub _ _ upd_eq) (by rw [List.length_map]; omega) ?_
    rw [List.length_map]
    intro _ _ _
    with_reducible refine iadd_i (by assumption) ?_; intro _ _ _
    refine sa (by assumption) T4.self T4.atts (by k_is) (by k_is) (by k_is) (by k_is) (by show 4 < 100; decide) ?_
    intro s10 S10
    with_reducible refine Hid.out (by assumption) ?_
    with_reducible refine cons_hid ?_; intro _ _
    with_reducible refine wpAny_Return_some ?_
    refine nm_r (by assumption) (by walk_at "lk") ?_
    with_reducible refine Hid.out (by assumption) ?_
    have T5 := T4.setAtts (some (rl, [])) (q3.npass + rs.length) q3.nfin (fun p hp => by cases hp; exact T4.ready _ rfl)
    rw [hnp] at T5
    rw [hnp] at S10
    exact h _ _ b hb T5 S10.pop
end
/-- one count down, and into the ready list at nought -/
noncomputable def decS (st : (Nat → Int) × List Nat) (c : Nat) : (Nat → Int) × List Nat := ((fun k => if k = c then st.1 c - 1 else st.1 k), if st.1 c - 1 = 0 then st.2 ++ [c] else st.2)
/-- one node done -/
noncomputable def finS (sc : Nat → List Nat) (st : (Nat → Int) × List Nat) (n : Nat) : (Nat → Int) × List Nat := (sc n).foldl decS ((fun k => if k = n then -2 else st.1 k), st.2)
noncomputable def SQ.put (q : SQ) (rl : Addr) (st : (Nat → Int) × List Nat) (nf : Int) : SQ := { q with np := st.1, rd := some (rl, st.2), nfin := nf }
theorem decS_len (st : (Nat → Int) × List Nat) (c : Nat) : (decS st c).2.length ≤ st.2.length + 1 := by
  unfold decS
  simp only
  split
  · simp
  · omega
theorem decS_lens : ∀ (cs : List Nat) (st : (Nat → Int) × List Nat), (cs.foldl decS st).2.length ≤ st.2.length + cs.length
  | [], st => Nat.le_refl _
  | c :: cs, st => by
    have h1 := decS_lens cs (decS st c)
    have h2 := decS_len st c
    rw [List.foldl_cons, List.length_cons]
    omega
theorem finS_lens {sc : Nat → List Nat} : ∀ (ns : List Nat) (st : (Nat → Int) × List Nat), (∀ n ∈ ns, (sc n).length < 100) → (ns.foldl (finS sc) st).2.length ≤ st.2.length + 100 * ns.length
  | [], st, _ => Nat.le_refl _
  | n :: ns, st, h => by
    have h1 := finS_lens ns (finS sc st n) fun k hk => h k (.tail _ hk)
    have h2 := decS_lens (sc n) ((fun k => if k = n then -2 else st.1 k), st.2)
    have h3 := h n (.head _)
    have e : (finS sc st n).2 = ((sc n).foldl decS ((fun k => if k = n then -2 else st.1 k), st.2)).2 := rfl
    rw [← e] at h2
    simp only at h2
    rw [List.foldl_cons, List.length_cons]
    omega
section
variable {w : World} {G : Gd w} {f₀ : Addr × FK} {fs : Frs} {W V V' : View} {s s' : Shared} {l a b x : Addr} {A : Around} {E : Value → Shared → Prop} {Q : Value → Shared → Prop} {q : SQ} {n : Nat}
theorem Srt.np' (T : Srt W V x q) (hn : n ∈ q.N) (v : Int) (S : SS G fs (upd V (q.ni n) (.ins 110 (q.di n) [some (.int n 0), some (.int v 0), some (.ref (q.su n))])) s) :
    ∃ V', Srt W V' x (q.setNp n v) ∧ SS G fs V' s ∧ V' (q.ni n) = some (.ins 110 (q.di n) [some (.int n 0), some (.int v 0), some (.ref (q.su n))]) := by
  have T' := T.setNp hn v
  rw [show infoOf (q.setNp n v) n = .ins 110 (q.di n) [some (.int n 0), some (.int v 0), some (.ref (q.su n))] from by simp [infoOf, SQ.setNp]] at T'
  exact ⟨_, T', S, upd_eq⟩
theorem done_c {vs : List Value} {ns : List Nat} {rl : Addr} {rs : List Nat} (r : Rm A 5) (S : SS G (f₀ :: fs) V s) (T : Srt W V x q) (hrd : q.rd = some (rl, rs)) (hI : IntsAre vs (ns.map Int.ofNat)) (hin : ∀ n ∈ ns, n ∈ q.N)
    (hsc : ∀ n ∈ ns, (q.sc n).length < 100 ∧ ∀ c ∈ q.sc n, c ∈ q.N) (hlen : ns.length < 100) (hz : rs.length < 100) (hout : ∀ i n, ns[i]? = some n → ((ns.take i).foldl (finS q.sc) (q.np, rs)).1 n = -1)
    (h : ∀ V' s', Srt W V' x (q.put rl (ns.foldl (finS q.sc) (q.np, rs)) (q.nfin + ns.length)) → SS G (f₀ :: fs) V' s' → Q .none s') :
    codeAny (model PP w) A (.call (.ref 190) ⟨(.ref x :: vs), []⟩) (fun r s' => match r with | .ok (.ret v) => Q v s' | .ok _ => False | .error e => E e s') s := by
  refine enterVc (fun tp => [(Str.ofString "self", .ref x), (Str.ofString "nodes", tp)]) S (by k_is) (by k_is) r.room (by cases vs with | nil => rfl | cons _ _ => rfl) hI (by rw [List.length_map]; omega) (fun _ => locs rfl) (by decide) rfl rfl rfl ?_
  intro L tp s₁ htp S₁
  simp only [lvOf, List.foldl, er] at S₁
  have r' : ∀ env, Rm (A.deeper env) 4 := fun _ => r.deeper
  have T0 : Srt (upd W tp (.itup (ns.map Int.ofNat))) (upd V tp (.itup (ns.map Int.ofNat))) x q := T.grow (.inl htp) (fun e => by rw [e, T.self] at htp; cases htp) (fun k hk e => by rw [e, T.idc k hk] at htp; cases htp)
  generalize upd V tp _ = V1 at *
  with_reducible refine wpAny_execs_cons ?_
  with_reducible refine wpAny_If ?_
  refine wpAny_isTrue_Compare1 ?_
  refine Attribute_any_ ?_
  refine nm_r (by assumption) (by walk_at "lk") ?_
  refine ga (by assumption) T0.self T0.atts (by k_is) (by k_is) (by k_is) (by k_is) rfl (by rw [hrd]; rfl) ?_
  intro v s2 hv S2
  rw [hrd] at hv
  rw [er_ref hv]
  with_reducible refine wpAny_Constant_none ?_
  refine PyProof.Rows.is_none_ne (by nofun) ?_
  with_reducible refine wpAny_truthy_bool ?_
  with_reducible refine ifF ?_
  with_reducible refine wpAny_execs_nil ?_
  with_reducible refine wpAny_execs_cons ?_
  refine wpAny_Assign_Name ?_
  refine Attribute_any_ ?_
  refine nm_r (by assumption) (by walk_at "lk") ?_
  refine ga (by assumption) T0.self T0.atts (by k_is) (by k_is) (by k_is) (by k_is) rfl rfl ?_
  intro v s3 hv S3
  rw [er_ref hv]
  refine sto (by assumption) ?_; intro _ _
  with_reducible refine wpAny_execs_cons ?_
  refine wpAny_For ?_
  refine nm_r (by assumption) (by walk_at "lk") ?_
  clear S₁ S2
  refine for_it (r' _) (by assumption) (T0.sub _ _ upd_eq) (fun i m V' => Srt (upd W tp (.itup (ns.map Int.ofNat))) V' x (q.put rl ((ns.take i).foldl (finS q.sc) (q.np, rs)) (q.nfin + i)) ∧ m (Str.ofString "self") = some (.ref x) ∧ m (Str.ofString "n2i") = some (.ref q.nd))
    ⟨by
      have e : q.put rl ((ns.take 0).foldl (finS q.sc) (q.np, rs)) (q.nfin + (0 : Nat)) = q := by
        rw [List.take_zero, List.foldl_nil, Int.ofNat_zero, Int.add_zero]
        unfold SQ.put
        simp only
        rw [← hrd]
      rw [e]; exact T0, by walk_at "lk", by walk_at "lk"⟩ (fun i m V' h => h.1.sub _ _ upd_eq) ?_ ?_
  · rintro i m V' t it s6 hi ⟨T3, m1, m2⟩ S6
    rw [List.length_map] at hi
    obtain ⟨p, hp⟩ : ∃ p, ns[i]? = some p := ⟨_, List.getElem?_eq_getElem hi⟩
    have hval : (ns.map Int.ofNat).getD i 0 = (p : Int) := by simp [List.getD, hp]
    have htk : ns.take (i + 1) = ns.take i ++ [p] := by rw [List.take_add_one, hp]; rfl
    have hpm : p ∈ ns := List.mem_of_getElem? hp
    have hpN := hin p hpm
    have hst := hout i p hp
    have hl0 := finS_lens (ns.take i) (q.np, rs) fun n hn => (hsc n (List.mem_of_mem_take hn)).1
    rw [List.length_take, Nat.min_eq_left (Nat.le_of_lt hi)] at hl0
    simp only at hl0
    rw [hval, htk, List.foldl_append, List.foldl_cons, List.foldl_nil]
    generalize (ns.take i).foldl (finS q.sc) (q.np, rs) = st at *
    have hpN' : p ∈ (q.put rl st (q.nfin + i)).N := hpN
    with_reducible refine wpAny_assign_Name ?_
    refine sto (by assumption) ?_; intro _ _
    with_reducible refine wpAny_execs_cons ?_
    with_reducible refine wpAny_If ?_
    refine wpAny_isTrue_Compare1 ?_
    refine wpAny_NamedExpr ?_
    refine MethodCall_ ?_
    refine nm_r (by assumption) (by walk_at "lk") ?_
    refine dmet (by assumption) T3.dict rfl PySem.F.slot_dict_get PySem.F.type_dict_get ?_
    refine callWith_method1 ?_
    refine wpAny_items_cons ?_
    refine nm_i (by assumption) (by walk_at "lk") ?_; intro _
    with_reducible refine wpAny_items_nil ?_
    refine dget1 (by assumption) T3.dict rfl ?_
    intro v7 s7 hv7 S7
    rw [valueAt_nodes hpN'] at hv7
    rw [er_ref hv7]
    with_reducible refine wpAny_assign_Name ?_
    refine sto (by assumption) ?_; intro _ _
    with_reducible refine wpAny_Constant_none ?_
    refine PyProof.Rows.is_none_ne (by nofun) ?_
    with_reducible refine wpAny_truthy_bool ?_
    with_reducible refine ifF ?_
    with_reducible refine wpAny_execs_nil ?_
    with_reducible refine wpAny_execs_cons ?_
    refine wpAny_Assign_Name ?_
    refine Attribute_any_ ?_
    refine nm_r (by assumption) (by walk_at "lk") ?_
    have j1 := T3.info p hpN'
    have j2 := T3.idc p hpN'
    refine gs (by assumption) j1 j2 (by k_is) (by k_is) (by k_is) (by k_is) (by k_is) (by k_is) rfl rfl ?_
    intro v8 s8 hv8 S8
    rw [show (q.put rl st (q.nfin + i)).np p = -1 from hst] at hv8
    obtain ⟨t8, rfl⟩ := er_int hv8
    refine sto (by assumption) ?_; intro _ _
    with_reducible refine wpAny_execs_cons ?_
    with_reducible refine wpAny_If ?_
    refine wpAny_isTrue_Compare1 ?_
    refine nm_i (by assumption) (by walk_at "lk") ?_; intro _
    refine nm_g (by assumption) (by k_is) ?_
    with_reducible refine P.ne_int ?_
    with_reducible refine wpAny_truthy_bool ?_
    rw [if_neg (by decide)]
    with_reducible refine wpAny_execs_nil ?_
    with_reducible refine wpAny_execs_cons ?_
    refine plainObj_wpAny_Assign_Attribute ?_
    refine nm_g (by assumption) (by k_is) ?_
    refine nm_r (by assumption) (by walk_at "lk") ?_
    refine ss (by assumption) j1 j2 (by k_is) (by k_is) (by k_is) (by k_is) (by k_is) (by decide) ?_
    intro s9 S9
    obtain ⟨V4, T4, S9, j1⟩ := T3.np' hpN' (-2) S9
    have T4 : Srt (upd W tp (.itup (ns.map Int.ofNat))) V4 x (q.put rl ((fun k => if k = p then -2 else st.1 k), st.2) (q.nfin + i)) := T4
    have j2 := T4.idc p hpN
    have j3 : V4 (q.su p) = some (.ilist ((q.sc p).map Int.ofNat)) := T4.succ p hpN
    clear T3 S8 S7 S6
    with_reducible refine wpAny_execs_cons ?_
    refine wpAny_For ?_
    refine Attribute_any_ ?_
    refine nm_r (by assumption) (by walk_at "lk") ?_
    refine gs (by assumption) j1 j2 (by k_is) (by k_is) (by k_is) (by k_is) (by k_is) (by k_is) rfl rfl ?_
    intro v10 s10 hv10 S10
    rw [er_ref hv10]
    have hfin : finS q.sc st p = (q.sc p).foldl decS ((fun k => if k = p then -2 else st.1 k), st.2) := rfl
    try rw [hfin]
    obtain ⟨hc1, hc2⟩ := hsc p hpm
    have j3 : V4 (q.su p) = some (.ilist ((q.sc p).map Int.ofNat)) := j3
    have hl1 : ((fun k => if k = p then -2 else st.1 k, st.2) : (Nat → Int) × List Nat).2.length ≤ rs.length + 100 * i := hl0
    generalize ((fun k => if k = p then -2 else st.1 k, st.2) : (Nat → Int) × List Nat) = st0 at *
    refine for_il (r' _) (by assumption) j3 (fun j m V' => Srt (upd W tp (.itup (ns.map Int.ofNat))) V' x (q.put rl (((q.sc p).take j).foldl decS st0) (q.nfin + i)) ∧ m (Str.ofString "self") = some (.ref x) ∧ m (Str.ofString "n2i") = some (.ref q.nd))
      ⟨T4, by walk_at "lk", by walk_at "lk"⟩ (fun j m V' h => h.1.succ p hpN) ?_ ?_
    · clear m1 m2 T4 j1 j2 j3 S10
      rintro j m V' t it s11 hj ⟨T5, m1, m2⟩ S11
      rw [List.length_map] at hj
      obtain ⟨c, hc⟩ : ∃ c, (q.sc p)[j]? = some c := ⟨_, List.getElem?_eq_getElem hj⟩
      have hval : ((q.sc p).map Int.ofNat).getD j 0 = (c : Int) := by simp [List.getD, hc]
      have htk : (q.sc p).take (j + 1) = (q.sc p).take j ++ [c] := by rw [List.take_add_one, hc]; rfl
      have hcN := hc2 c (List.mem_of_getElem? hc)
      have hl2 := decS_lens ((q.sc p).take j) st0
      rw [List.length_take, Nat.min_eq_left (Nat.le_of_lt hj)] at hl2
      rw [hval, htk, List.foldl_append, List.foldl_cons, List.foldl_nil]
      generalize ((q.sc p).take j).foldl decS st0 = st1 at *
      have hcN' : c ∈ (q.put rl st1 (q.nfin + i)).N := hcN
      with_reducible refine wpAny_assign_Name ?_
      refine sto (by assumption) ?_; intro _ _
      with_reducible refine wpAny_execs_cons ?_
      refine wpAny_Assign_Name ?_
      with_reducible refine Subscript_ ?_
      refine nm_r (by assumption) (by walk_at "lk") ?_
      refine nm_i (by assumption) (by walk_at "lk") ?_; intro _
      refine ditem (by assumption) T5.dict rfl (valueAt_nodes hcN') ?_
      intro v12 s12 hv12 S12
      rw [er_ref hv12]
      have k1 := T5.info c hcN'
      have k2 := T5.idc c hcN'
      refine sto (by assumption) ?_; intro _ _
      with_reducible refine wpAny_execs_cons ?_
      refine wpAny_AugAssign_AttributeAny ?_
      refine nm_r (by assumption) (by walk_at "lk") ?_
      refine gs (by assumption) k1 k2 (by k_is) (by k_is) (by k_is) (by k_is) (by k_is) (by k_is) rfl rfl ?_
      intro v13 s13 hv13 S13
      obtain ⟨t13, rfl⟩ := er_int hv13
      with_reducible refine c_int (by assumption) ?_; intro _ _ _
      with_reducible refine isub_i (by assumption) ?_; intro _ _ _
      refine ss (by assumption) k1 k2 (by k_is) (by k_is) (by k_is) (by k_is) (by k_is) (by decide) ?_
      intro s14 S14
      obtain ⟨V6, T6, S14, k3⟩ := T5.np' hcN' (st1.1 c - 1) S14
      have T6 : Srt (upd W tp (.itup (ns.map Int.ofNat))) V6 x (q.put rl ((fun k => if k = c then st1.1 c - 1 else st1.1 k), st1.2) (q.nfin + i)) := T6
      have k4 := T6.idc c hcN
      clear T5 k1 k2 S13 S12 S11
      with_reducible refine wpAny_execs_cons ?_
      with_reducible refine wpAny_If ?_
      refine wpAny_isTrue_Compare1 ?_
      refine Attribute_any_ ?_
      refine nm_r (by assumption) (by walk_at "lk") ?_
      refine gs (by assumption) k3 k4 (by k_is) (by k_is) (by k_is) (by k_is) (by k_is) (by k_is) rfl rfl ?_
      intro v15 s15 hv15 S15
      obtain ⟨t15, rfl⟩ := er_int hv15
      with_reducible refine c_int (by assumption) ?_; intro _ _ _
      with_reducible refine P.eq_int ?_
      with_reducible refine wpAny_truthy_bool ?_
      unfold decS
      simp only
      split
      · rename_i hz0
        have hz0 : st1.1 c - 1 = 0 := eq_of_beq hz0
        with_reducible refine wpAny_execs_cons ?_
        refine wpAny_Expr_any ?_
        refine MethodCall_ ?_
        refine Attribute_any_ ?_
        refine nm_r (by assumption) (by walk_at "lk") ?_
        refine ga (by assumption) T6.self T6.atts (by k_is) (by k_is) (by k_is) (by k_is) rfl rfl ?_
        intro v16 s16 hv16 S16
        rw [er_ref hv16]
        have R := T6.ready _ rfl
        refine met_il (by assumption) R.1 PySem.F.slot_list_append PySem.F.type_list_append ?_
        refine callWith_method1 ?_
        refine wpAny_items_cons ?_
        refine nm_i (by assumption) (by walk_at "lk") ?_; intro _
        with_reducible refine wpAny_items_nil ?_
        refine app_il (by assumption) R.1 (by rw [List.length_map]; show st1.2.length < 1000000; omega) ?_
        intro s17 S17
        with_reducible refine wpAny_execs_nil ?_
        with_reducible refine wpAny_execs_nil ?_
        refine ⟨_, _, ⟨?_, by walk_at "lk", by walk_at "lk"⟩, S17⟩
        rw [if_pos hz0]
        have T7 := T6.setReady rfl (st1.2 ++ [c])
        rw [List.map_append] at T7
        exact T7
      · rename_i hz0
        have hz0 : st1.1 c - 1 ≠ 0 := fun e => hz0 (by rw [e]; rfl)
        with_reducible refine wpAny_execs_nil ?_
        with_reducible refine wpAny_execs_nil ?_
        refine ⟨_, V6, ?_, by assumption⟩
        refine ⟨?_, by walk_at "lk", by walk_at "lk"⟩
        rw [if_neg hz0]
        exact T6
    · clear m1 m2 T4 j1 j2 j3 S10
      rintro m V' s11 ⟨T5, m1, m2⟩ S11
      rw [List.length_map, List.take_length] at T5
      generalize (q.sc p).foldl decS st0 = st1 at *
      with_reducible refine wpAny_execs_nil ?_
      with_reducible refine wpAny_execs_cons ?_
      refine wpAny_AugAssign_AttributeAny ?_
      refine nm_r (by assumption) (by walk_at "lk") ?_
      refine ga (by assumption) T5.self T5.atts (by k_is) (by k_is) (by k_is) (by k_is) rfl rfl ?_
      intro v12 s12 hv12 S12
      obtain ⟨t12, rfl⟩ := er_int hv12
      with_reducible refine c_int (by assumption) ?_; intro _ _ _
      with_reducible refine iadd_i (by assumption) ?_; intro _ _ _
      refine sa (by assumption) T5.self T5.atts (by k_is) (by k_is) (by k_is) (by k_is) (by show 4 < 100; decide) ?_
      intro s13 S13
      with_reducible refine wpAny_execs_nil ?_
      have T7 := T5.setAtts (some (rl, st1.2)) q.npass (q.nfin + i + 1) (fun p hp => by cases hp; exact T5.ready _ rfl)
      refine ⟨_, _, ⟨?_, by walk_at "lk", by walk_at "lk"⟩, S13⟩
      rw [show (q.nfin + ((i + 1 : Nat) : Int)) = q.nfin + i + 1 from by omega]
      try rw [hfin]
      exact T7
  · rintro m V' s6 ⟨T3, m1, m2⟩ S6
    rw [List.length_map, List.take_length] at T3
    with_reducible refine wpAny_execs_nil ?_
    with_reducible refine wpAny_execs_nil ?_
    have hW : W tp = none := by cases i : W tp with | none => rfl | some o => rw [T.sub _ _ i] at htp; cases htp
    refine h _ _ (T3.weakW fun a ao ha => upd_old hW ha) S6.pop
end

theorem slot_wget : Slot "wrapper_descriptor" "__get__" "wrapper_descriptor.__get__" :=
  .of (owner := "wrapper_descriptor") (n := "__get__") (by rw [typeLookup_type, builtinLookup_eq_fast]; kernel_rfl) (by decide +kernel) (by decide +kernel) (by decide +kernel)
    (by first | exact .inl (by decide +kernel) | exact .inr (by decide +kernel)) (by rw [isSubtype_type]; kernel_rfl)
theorem entry_wget : entryFor table "wrapper_descriptor.__get__" = some Builtin.«wrapper_descriptor.__get__» := entryFor_of_tree (by kernel_rfl)
theorem args_wget (a b c : Value) : argsOk "wrapper_descriptor.__get__" ⟨[a, b, c], []⟩ := by unfold argsOk; kernel_rfl
theorem slot_li_ga : Slot "list_iterator" "__getattribute__" "object.__getattribute__" :=
  .of (owner := "object") (n := "__getattribute__") (by rw [typeLookup_type, builtinLookup_eq_fast]; kernel_rfl) (by decide +kernel) (by decide +kernel) (by decide +kernel)
    (by first | exact .inl (by decide +kernel) | exact .inr (by decide +kernel)) (by rw [isSubtype_type]; kernel_rfl)
theorem wd_no_set : typeLookup (.type "wrapper_descriptor") "__set__" = pure none := by rw [typeLookup_type, builtinLookup_eq_fast]; kernel_rfl
theorem wd_no_delete : typeLookup (.type "wrapper_descriptor") "__delete__" = pure none := by rw [typeLookup_type, builtinLookup_eq_fast]; kernel_rfl
theorem nx_type : typeOf (.builtin "list_iterator.__next__") = pure (.type "wrapper_descriptor") := by show builtinType _ = _; rw [builtinType_eq_fast]; kernel_rfl
noncomputable abbrev liO (l : Addr) (k : Nat) : Obj := { cls := .type "list_iterator", data := .fields #[.ref l, .int k 0] }
noncomputable abbrev mwO (it : Addr) : Obj := { cls := .type "method-wrapper", data := .fields #[.builtin "list_iterator.__next__", .ref it] }
theorem li_sub : isSubtype (.type "list_iterator") (.type "list_iterator") = pure true := by rw [isSubtype_type]; kernel_rfl
theorem meets_wget (a l : Addr) (k : Nat) : Meets (Builtin.«wrapper_descriptor.__get__» ⟨[.builtin "list_iterator.__next__", .ref a, .type "list_iterator"], []⟩)
    (fun A R s => s.heap.get? a = some (liO l k) ∧ R (.ok (.ret (.ref s.heap.objs.size))) { s with heap := s.heap.push (mwO a) }) :=
  Meets.of_wp fun prog w A R s hs => by
    obtain ⟨hp, g, d, tk, os⟩ := s
    obtain ⟨hx, hs⟩ := hs
    have hT : (⟨hp, g, d, tk, os⟩ : Shared).TypeIs (.ref a) "list_iterator" := ⟨_, hx, rfl⟩
    unfold Builtin.«wrapper_descriptor.__get__»
    refine wpAny_bind (wpAny_of_eq (a := (.builtin "list_iterator.__next__", some (.ref a), some (.type "list_iterator"))) (by first | rfl | kernel_rfl) ?_)
    refine wpAny_bind ?_
    refine wpAny_bind (wpAny_of_eq (a := (Str.ofString "__next__", .type "list_iterator")) (by first | rfl | kernel_rfl) ?_)
    refine wpAny_bind (wpAny_isInstance hT li_sub ?_)
    rw [if_neg (by decide)]
    refine wpAny_pure ?_
    exact wpAny_bind (wpAny_newObj_type (wpAny_pure ⟨_, rfl, hs⟩))
theorem meets_nx (a l : Addr) (k : Nat) (u : Tok) : Meets (Builtin.«object.__getattribute__» ⟨[.ref a, .str (Str.ofString "__next__") u], []⟩)
    (fun A R s => s.heap.get? a = some (liO l k) ∧ R (.ok (.ret (.ref s.heap.objs.size))) { s with heap := s.heap.push (mwO a) }) :=
  Meets.of_wp fun prog w A R s hs => by
    obtain ⟨hp, g, d, tk, os⟩ := s
    obtain ⟨hx, hs⟩ := hs
    have hT : (⟨hp, g, d, tk, os⟩ : Shared).TypeIs (.ref a) "list_iterator" := ⟨_, hx, rfl⟩
    have f1 := slot_listiter_next.lookup
    unfold Builtin.«object.__getattribute__»
    have f2 := slot_wget.lookup
    repeat (any_goals (first | assumption | (with_reducible refine wpAny_specialOf_val nx_type f2 ?_) | (with_reducible refine wpAny_specialOf_val nx_type wd_no_set ?_) | (with_reducible refine wpAny_specialOf_val nx_type wd_no_delete ?_) | ((with_reducible show wpAny _ _ (call (Value.builtin "wrapper_descriptor.__get__") _ _) _ _ _); refine call_meets slot_wget nx_type entry_wget (args_wget _ _ _) (meets_wget a l k) ⟨hx, ?_⟩) | wp_step))
    exact wpAny_pure ⟨_, rfl, hs⟩
section
variable {prog : Program} {w : World} {A : Around} {E : Value → Shared → Prop} {s : Shared}
theorem getAttr_nx {a l : Addr} {k : Nat} {Q : Value → Shared → Prop} (hx : s.heap.get? a = some (liO l k)) (h : Q (.ref s.heap.objs.size) { s with heap := s.heap.push (mwO a), toks := s.toks + 1 }) :
    wpAny (model prog w) A (getAttr (.ref a) (Str.ofString "__next__") true) Q E s := by
  obtain ⟨hp, g, d, tk, os⟩ := s
  have hT : ∀ tk', (⟨hp, g, d, tk', os⟩ : Shared).TypeIs (.ref a) "list_iterator" := fun _ => ⟨_, hx, rfl⟩
  have f3 := slot_li_ga.lookup
  have f4 := slot_li_ga.bind (.ref a)
  unfold getAttr getAttrBy
  repeat (any_goals (first | assumption | exact hT _ | ((with_reducible show wpAny _ _ (call (Value.builtin "object.__getattribute__") _ _) _ _ _); refine call_meets slot_li_ga (hT _) F.entry_object_getattribute (F.args_object_getattribute_2 _ _) (meets_nx a l k _) ⟨hx, ?_⟩) | wp_step))
  exact wpAny_pure h
theorem check_nx (a : Value) : checkBoundCall "list_iterator.__next__" ⟨[a], []⟩ = pure () := by first | kernel_rfl | rfl
theorem call_mw {S : PySem.Spec} {m it : Addr} {o : Obj} {Q : Value → Shared → Prop} (ho : s.heap.get? m = some o) (hc : o.cls = .type "method-wrapper") (hd : o.data = .fields #[.builtin "list_iterator.__next__", .ref it])
    (g : Meets (Builtin.«list_iterator.__next__» ⟨[.ref it], []⟩) S) (h : S A (wants Q E) s) : wpAny (model prog w) A (call (.ref m) []) Q E s := by
  refine wpAny_call (codeAny_of_tree ?_)
  show wpAny _ _ (callAny (.ref m) _) _ _ _
  unfold callAny
  refine wpAny_bind (wpAny_load ho ?_)
  rw [hd, hc]
  refine wpAny_bind (wpAny_of_eq (a := ()) (check_nx _) ?_)
  refine wpAny_pure ⟨plainId_quiet (by decide +kernel) _, codeAny_builtin entry_listiter_next ?_⟩
  rw [Around.under_plainId (by decide +kernel)]
  exact g prog w A _ s h
theorem meets_next_item {it l : Addr} {i : Nat} {items : Array Value} {x : Value} : Meets (Builtin.«list_iterator.__next__» ⟨[.ref it], []⟩)
    (fun A R s => s.heap.IsListIter it l i ∧ s.heap.IsList l items ∧ items[i]? = some x ∧ ∀ h', h'.IsListIter it l (i + 1) → Heap.SameBut it s.heap h' → R (.ok (.ret x)) { s with heap := h' }) := fun prog w A R s hs => by
  obtain ⟨⟨o, ho, hc, hd⟩, ⟨ol, hol, _, nl, hdl⟩, hx, hQ⟩ := hs
  unfold Builtin.«list_iterator.__next__»
  wp_walk using wpAny_field ho hd (i := 0) (x := .ref l) rfl, wpAny_field ho hd (i := 1) (x := .int i 0) rfl, wpAny_seqItems hol hdl, wpAny_setField ho hd (by simp)
  rw [Int.toNat_natCast, hx]
  wp_walk using wpAny_setField ho hd (by simp)
  refine hQ _ ⟨_, Heap.get?_update_self _ ho ?_, ?_, ?_⟩ (Heap.SameBut.update ..)
  · exact Obj.isFreed_of_fields (Obj.data_mapFields hd _)
  · rw [Obj.cls_mapFields, hc]
  · rw [Obj.data_mapFields hd]; rfl
theorem meets_next_end {it l : Addr} {i : Nat} {items : Array Value} : Meets (Builtin.«list_iterator.__next__» ⟨[.ref it], []⟩)
    (fun A R s => A.handled = none ∧ s.heap.IsListIter it l i ∧ s.heap.IsList l items ∧ items[i]? = none ∧ ∀ h' e oe vs, Heap.ExtBut it s.heap h' → s.heap.objs.size ≤ e → h'.get? e = some oe → oe.cls = .type "StopIteration" → oe.data = .fields vs → vs[1]? = some .none → (∃ a0, vs[0]? = some a0) → R (.error (.ref e)) { s with heap := h' }) := fun prog w A R s hs => by
  obtain ⟨hh, ⟨o, ho, hc, hd⟩, ⟨ol, hol, _, nl, hdl⟩, hx, hQ⟩ := hs
  unfold Builtin.«list_iterator.__next__»
  wp_walk using wpAny_field ho hd (i := 0) (x := .ref l) rfl, wpAny_field ho hd (i := 1) (x := .int i 0) rfl, wpAny_seqItems hol hdl, wpAny_setField ho hd (by simp)
  rw [Int.toNat_natCast, hx]
  have hh' : A.in1.handled = none := hh
  wp_walk using wpAny_setField ho hd (by simp)
  unfold raiseNew
  wp_walk using wpAny_setField ho hd (by simp)
  have ex := ((Heap.SameBut.update s.heap it (Obj.mapFields fun x => x.setIfInBounds 0 Value.none)).extBut.push { cls := .type "tuple", data := .seq #[] })
  refine hQ _ _ _ _ (ex.push _) ?_ (Heap.get?_push_size _ rfl) rfl rfl rfl ⟨_, rfl⟩
  rw [Heap.size_push, (Heap.SameBut.update s.heap it _).1]
  exact Nat.le_succ _
end
section
variable {w : World} {G : Gd w} {f₀ : Addr × FK} {fs : Frs} {V V' : View} {s s' : Shared} {l a b d L I x dx C : Addr} {m : Loc} {ao : AObj} {A : Around} {E : Value → Shared → Prop} {env : Env}
theorem LocAt.data {h h' : Heap} {L : Addr} {lv : Loc} (x : LocAt h L lv) (k : ∀ o, h.get? L = some o → (∀ vs, o.data ≠ .fields vs) → ∃ sl, h'.get? L = some { o with slots := sl }) : LocAt h' L lv := by
  obtain ⟨m, ⟨o, es, ep, ho, hd, r⟩, q⟩ := x
  obtain ⟨sl, h2⟩ := k o ho (by intro vs e; rw [hd] at e; cases e)
  exact ⟨m, ⟨_, es, ep, h2, hd, r⟩, q⟩
/-- frames touched in their slots, and an exception -/
theorem SS.up {e : Addr} {Ls : List Addr} {oe : Obj} {vs : Array Value} {h' : Heap} (S : SS G fs V s) (k : ∀ b o, b ≠ e → b ∉ Ls → s.heap.get? b = some o → h'.get? b = some o) (hs : s.heap.UpToSlots h')
    (hL : ∀ b ∈ Ls, ∃ lv, (b, FK.loc lv) ∈ fs) (he : s.heap.get? e = some oe) (hd : oe.data = .fields vs) (h1 : vs[1]? = some .none) (hb : G.h.objs.size ≤ e) (hV : V e = none) (hn : e ∉ fs.map (·.1)) : SS G fs V { s with heap := h' } := by
  have big := G.big
  have hLf : ∀ b ∈ Ls, b ∈ fs.map (·.1) := fun b hb => by
    obtain ⟨lv, h⟩ := hL b hb
    exact List.mem_map_of_mem (f := (·.1)) h
  have hi : ∀ b ∈ Ls, G.h.objs.size ≤ b := fun b hb => by
    obtain ⟨lv, h⟩ := hL b hb
    exact (S.frames _ h).2
  have low : ∀ b, b < G.h.objs.size → b ≠ e ∧ b ∉ Ls := fun b h => ⟨Nat.ne_of_lt (Nat.lt_of_lt_of_le h hb), fun q => absurd h (Nat.not_lt.mpr (hi b q))⟩
  exact {
    gens := S.gens
    os := S.os
    base := fun b o h => k b o (low b (Heap.lt_size h)).1 (low b (Heap.lt_size h)).2 (S.base b o h)
    frames := fun f hf => by
      refine ⟨?_, (S.frames f hf).2⟩
      have hne : f.1 ≠ e := fun q => hn (by rw [← q]; exact List.mem_map_of_mem (f := (·.1)) hf)
      by_cases q : f.1 ∈ Ls
      · obtain ⟨lv, h⟩ := hL _ q
        have e2 : f = (f.1, FK.loc lv) := by
          have nd := S.nodup
          have inj : ∀ (l : Frs), (l.map (·.1)).Nodup → ∀ x ∈ l, ∀ y ∈ l, x.1 = y.1 → x = y := by
            intro l
            induction l with
            | nil => intro _ x hx; cases hx
            | cons z l ih =>
              intro nd x hx y hy exy
              rw [List.map_cons, List.nodup_cons] at nd
              rcases List.mem_cons.mp hx with e1 | hx'
              · rcases List.mem_cons.mp hy with e2 | hy'
                · rw [e1, e2]
                · exact absurd (by rw [← e1, exy]; exact List.mem_map_of_mem (f := (·.1)) hy') nd.1
              · rcases List.mem_cons.mp hy with e2 | hy'
                · exact absurd (by rw [← e2, ← exy]; exact List.mem_map_of_mem (f := (·.1)) hx') nd.1
                · exact ih nd.2 x hx' y hy' exy
          exact inj fs nd f hf _ h rfl
        have h3 := (S.frames f hf).1
        rw [e2] at h3 ⊢
        exact LocAt.data h3 fun o ho hnf => hs _ o ho hnf
      · exact (S.frames f hf).1.same fun o ho => k _ o hne q ho
    nodup := S.nodup
    see := fun a ao h => by
      refine (S.see a ao h).same fun o ho => k _ o (fun q => by rw [q, hV] at h; cases h) (fun q => ?_) ho
      obtain ⟨f, hf, e3⟩ := List.mem_map.mp (hLf a q)
      have := S.apart f hf
      rw [e3, h] at this; cases this
    high := S.high
    apart := S.apart
    tabs := fun q hq => by
      have lt := Nat.lt_of_lt_of_le (tab_lt q hq) big
      rcases S.tabs q hq with h | ⟨c, o, vs', t, x1, x2, x3, x4, x5, x6, x7⟩
      · exact .inl (k _ _ (low _ lt).1 (low _ lt).2 h)
      · refine .inr ⟨c, o, vs', t, k _ _ (low _ lt).1 (low _ lt).2 x1, k c o (fun q => ?_) (fun q => x6 (hLf c q)) x2, x3, x4, x5, x6, x7⟩
        subst q
        rw [he] at x2
        cases x2
        rw [hd] at x3
        cases x3
        rw [h1] at x4
        cases x4 }
theorem isExc_stop : isSubtype (.type "StopIteration") (.type "BaseException") = pure true := by rw [isSubtype_type]; kernel_rfl
theorem notTuple_stop : isSubtype (.type ((Manifest.find? "StopIteration").elim "type" fun x => x.metatype)) (.type "tuple") = pure false := by
  rw [show ((Manifest.find? "StopIteration").elim "type" fun x => x.metatype) = "type" from by decide +kernel, isSubtype_type]; kernel_rfl
/-- StopIteration, caught in the frame's own try -/
theorem caughtS {outer : List Env} {e : Addr} {oe : Obj} {vs : Array Value} {a0 : Value} {pos np : Pos} {b₀ : Stmt} {suite : List Stmt} {rest : List ExceptHandler} {Q : Flow → Shared → Prop}
    (hA : A.frames = some (env :: outer)) (hL : env.frame = some L) (hfr : ∀ x ∈ env :: outer, x.scope.kind ≠ .module ∧ ∃ L lv, x.frame = some L ∧ (L, FK.loc lv) ∈ fs) (S : SS G fs V s) (he : s.heap.get? e = some oe) (hc : oe.cls = .type "StopIteration") (hd : oe.data = .fields vs)
    (h1 : vs[1]? = some .none) (h0 : vs[0]? = some a0) (hb : G.h.objs.size ≤ e) (hV : V e = none) (hn : e ∉ fs.map (·.1))
    (k : ∀ s', SS G fs V s' → wpAny (model PP w) (A.mark (some (.ref e))) (execs (b₀ :: suite) env) Q (fun _ _ => False) s')
    (hg : env.globals = mainGlobals := by rfl) (hbt : env.builtins = builtinsNs := by rfl) (hk : env.scope.kind = .function := by rfl) (hx : env.kindOf (Str.ofString "StopIteration") = some .globalImplicit := by rfl) :
    wpAny (model PP w) A (noteFrame (.ref e) env) (fun _ s₂ => wpAny (model PP w) A (setFlight (.ref e) none) (fun _ s₃ => wpAny (model PP w) A (handleBy (.ref e) env (.ExceptHandler (some (.Name (Str.ofString "StopIteration") np)) none (b₀ :: suite) pos :: rest)) Q E s₃) E s₂) E s := by
  have hLs : ∀ b ∈ (env :: outer).filterMap (·.frame), ∃ lv, (b, FK.loc lv) ∈ fs := fun b hb => by
    obtain ⟨x, hx, hf⟩ := List.mem_filterMap.mp hb
    obtain ⟨_, L', lv, h2, h3⟩ := hfr x hx
    rw [h2] at hf; cases hf
    exact ⟨lv, h3⟩
  have hen : (hideAll s.heap (e :: (env :: outer).filterMap (·.frame))).get? e = none := hideAll_none _ (.head _)
  have hst : (hideAll s.heap (e :: (env :: outer).filterMap (·.frame))).StaysIn s.heap := fun b o h => of_hideAll _ h
  have hff : ∀ l, (∀ x ∈ l, x ∈ env :: outer) → s.heap.FunFrames (hideAll s.heap (e :: (env :: outer).filterMap (·.frame))) l := by
    intro l
    induction l with
    | nil => intro _; trivial
    | cons x l ih =>
      intro h
      obtain ⟨h2, L', lv, h3, h4⟩ := hfr x (h x (.head _))
      obtain ⟨mm, ⟨o, es, ep, ho, hd', _⟩, _⟩ := (S.frames _ h4).1
      exact ⟨h2, ⟨L', o, h3, hideAll_none _ (.tail _ (List.mem_filterMap.mpr ⟨x, h x (.head _), h3⟩)), ho, by intro vs q; rw [hd'] at q; cases q⟩, ih fun y hy => h y (.tail _ hy)⟩
  have hkeep : ∀ h' : Heap, (hideAll s.heap (e :: (env :: outer).filterMap (·.frame))).StaysIn h' → ∀ b o, b ≠ e → b ∉ (env :: outer).filterMap (·.frame) → s.heap.get? b = some o → h'.get? b = some o := fun h' hs b o h2 h3 h4 =>
    hs b o (hideAll_get _ h4 (by intro q; rcases List.mem_cons.mp q with q | q; exact h2 q; exact h3 q))
  unfold noteFrame
  simp only [hL]
  refine wpAny_bind (wpAny_field he hd h1 ?_)
  rw [if_neg (by decide)]
  refine wpAny_entryW hA (hff _ fun _ h => h) hL he hst hen hd (Array.getElem?_eq_some_iff.mp h1).1 h0 fun h₁ hN => ?_
  obtain ⟨k1, k2, k3, k4⟩ := hN
  rw [hc] at k3
  refine wpAny_landsW ⟨k1, hen, k2, k3⟩ fun h₂ hfl hsm => ?_
  have sm2 : s.heap.UpToSlots h₂ := Heap.UpToSlots.trans k4 hsm
  have S2 : SS G fs V { s with heap := h₂ } := S.up (hkeep _ hfl.1) sm2 hLs he hd h1 hb hV hn
  refine wpAny_handleBy_builtin (X := "StopIteration") (T := "StopIteration") (b := true) isExc_stop notTuple_stop isSubtype_stop ?_
  refine nm_b S2 (by k_is) bt_StopIteration (by decide +kernel) ⟨rfl, hfl.there, ?_⟩ hg hbt hk hx
  rw [if_pos rfl]
  refine lands_againW hfl fun h₃ hfl₃ hsm₃ => ?_
  have S3 : SS G fs V { s with heap := h₃ } := S.up (hkeep _ hfl₃.1) (sm2.trans hsm₃) hLs he hd h1 hb hV hn
  exact wpAny_mono (k _ S3) (fun _ _ x => x) fun _ _ x => x.elim
end

noncomputable def vdel (V : View) (a : Addr) : View := fun b => if b = a then none else V b
theorem vdel_eq {V : View} {a : Addr} : vdel V a a = none := if_pos rfl
theorem vdel_ne {V : View} {a b : Addr} (h : b ≠ a) : vdel V a b = V b := if_neg h
noncomputable abbrev liV (l : Addr) (k : Nat) : AObj := .fld "list_iterator" #[.ref l, .int k 0]
noncomputable abbrev mwV (it : Addr) : AObj := .fld "method-wrapper" #[.builtin "list_iterator.__next__", .ref it]
section
variable {w : World} {G : Gd w} {f₀ : Addr × FK} {fs : Frs} {V V' : View} {s s' : Shared} {l a b d it mw L I x dx C : Addr} {m : Loc} {ao : AObj} {A : Around} {E : Value → Shared → Prop} {env : Env} {ns : List Int} {i : Nat} {n k : Int} {t u : Tok}
/-- one object of the view is another now, and no more known -/
theorem SS.lose {ao₀ : AObj} (S : SS G fs V s) (hV : V a = some ao₀) (hg : s'.gens = s.gens) (ho : s'.os = s.os) (k : ∀ b o, b ≠ a → s.heap.get? b = some o → s'.heap.get? b = some o) (hnc : ∀ q, ao₀ ≠ .code q := by intro _; nofun) : SS G fs (vdel V a) s' := by
  have hi := S.high a ao₀ hV
  have big := G.big
  have kc : ∀ c o, s.heap.get? c = some o → CodeV V c → c ∉ fs.map (·.1) → G.h.objs.size ≤ c → s'.heap.get? c = some o ∧ CodeV (vdel V a) c ∧ c ∉ fs.map (·.1) := fun c o e v f _ => by
    have hc : c ≠ a := fun q => by rw [q] at v; obtain ⟨q', e'⟩ := v _ hV; exact hnc q' e'
    exact ⟨k _ _ hc e, fun ao' h' => v ao' (by rwa [vdel_ne hc] at h'), f⟩
  exact {
    gens := hg.trans S.gens
    os := ho.trans S.os
    base := fun b o e => k b o (Nat.ne_of_lt (Nat.lt_of_lt_of_le (Heap.lt_size e) hi)) (S.base b o e)
    frames := fun f hf => ⟨(S.frames f hf).1.same (fun o => k _ o fun q => by have := S.apart f hf; rw [q, hV] at this; cases this), (S.frames f hf).2⟩
    nodup := S.nodup
    see := fun b bo e => by
      by_cases q : b = a
      · subst q; rw [vdel_eq] at e; cases e
      · rw [vdel_ne q] at e; exact (S.see b bo e).same (fun o => k _ o q)
    high := fun b bo e => by
      by_cases q : b = a
      · subst q; exact hi
      · rw [vdel_ne q] at e; exact S.high b bo e
    apart := fun f hf => by
      have h1 := S.apart f hf
      by_cases q : f.1 = a
      · rw [q]; exact vdel_eq
      · rw [vdel_ne q]; exact h1
    tabs := fun q hq => (S.tabs q hq).mono (fun o => k _ o (low_ne q.1 big hi (tab_lt q hq))) kc }
theorem SS.toRaw (S : SS G fs V s) (hV : V a = some ao) (hnc : ∀ q, ao ≠ .code q := by intro _; nofun) : ∃ o, ao.Is w o ∧ SS G fs (upd V a (.raw o)) s := by
  obtain ⟨o, ho, hi⟩ := S.see a _ hV
  exact ⟨o, hi, S.chg hV rfl rfl (fun _ _ _ e => e) ⟨o, ho, rfl⟩ hnc⟩
theorem SS.ofRaw {o : Obj} (S : SS G fs V s) (hV : V a = some (.raw o)) (hi : ao.Is w o) : SS G fs (upd V a ao) s := by
  obtain ⟨o', ho, e⟩ := S.see a _ hV
  have e : o' = o := e
  subst e
  exact S.chg hV rfl rfl (fun _ _ _ e => e) ⟨o', ho, hi⟩
/-- an item of a dict that is known as an object -/
theorem ditemR {Q : Value → Shared → Prop} {value slice : Expr} {ev : Value} {o : Obj} {kvs : List (Int × Value)} {i : Int} (S : SS G fs V s) (hV : V d = some (.raw o)) (hi : ao.Is w o) (hd : ao.dv = some kvs) (hv : valueAt kvs i = some ev) (h : ∀ v s', er v = ev → SS G fs V s' → Q v s')
    (hs : subscripted slice false (.ref d) (.int i t) = operate [.ref d, .int i t] (getItem (.ref d) (.int i t)) := by with_unfolding_all rfl) :
    wpAny (model PP w) A (subscriptTail value slice (.ref d) (.int i t)) Q E s := by
  have S2 := S.ofRaw hV hi
  obtain ⟨kv', D, e⟩ := S2.dct upd_eq hd
  rw [← e, ← valueAt_er] at hv
  obtain ⟨v, hv', he⟩ := Option.map_eq_some_iff.mp hv
  exact tail_any D.typeIs slot_dict_getitem.lookup (wpAny_getItem_of (knd := intKind PP w) (k := i) (by simp [intKind, Value.isInt]) D.mapOf hv' (h v _ he (S.tok _))) hs

/-- iter of a list -/
theorem iter_il {Q : Value → Shared → Prop} (S : SS G (f₀ :: fs) V s) (hV : V l = some (.ilist ns)) (h : ∀ it s', V it = none → SS G (f₀ :: fs) (upd V it (.raw (liO l 0))) s' → Q (.ref it) s') :
    wpAny (model PP w) A (call (.builtin "iter") [.ref l]) Q E s := by
  obtain ⟨vs, n, ho, hi⟩ := S.il hV
  refine call_function_entry (by decide +kernel) (by decide +kernel) kdk_entry_iter (kdk_args_iter _) ?_
  unfold Builtin.«iter»
  refine wpAny_bind (m := someArgs "iter" 1 2 _) (wpAny_of_eq (a := [Value.ref l]) (by first | rfl | kernel_rfl!) ?_)
  show wpAny _ _ (pyIter (.ref l) >>= _) _ _ _
  refine wpAny_bind (wpAny_pyIter_list (isList_of ho) ?_)
  exact wpAny_pure ⟨_, rfl, h _ _ (S.fresh (Nat.le_refl _)) (S.new S.ge (Nat.le_refl _) rfl rfl (fun b o e => Heap.get?_push_of_some _ e) ⟨_, Heap.get?_push_size _ rfl, rfl⟩)⟩
theorem nx_get {Q : Value → Shared → Prop} {i : Nat} (S : SS G (f₀ :: fs) V s) (hV : V it = some (.raw (liO l i))) (h : ∀ mw s', V mw = none → SS G (f₀ :: fs) (upd (upd V it (liV l i)) mw (mwV it)) s' → Q (.ref mw) s') :
    wpAny (model PP w) A (getAttr (.ref it) (Str.ofString "__next__") true) Q E s := by
  obtain ⟨o, ho, e⟩ := S.see it _ hV
  have e : o = liO l i := e
  subst e
  have S2 : SS G (f₀ :: fs) (upd V it (liV l i)) s := S.ofRaw hV ⟨rfl, rfl⟩
  exact getAttr_nx ho (h _ _ (S.fresh (Nat.le_refl _)) (S2.new (s' := { s with heap := s.heap.push (mwO it), toks := s.toks + 1 }) S2.ge (Nat.le_refl _) rfl rfl (fun b o e => Heap.get?_push_of_some _ e) ⟨_, Heap.get?_push_size _ rfl, rfl, rfl⟩))
theorem nx_item {Q : Value → Shared → Prop} (S : SS G fs V s) (hm : V mw = some (mwV it)) (hi : V it = some (liV l i)) (hl : V l = some (.ilist ns)) (hx : ns[i]? = some n) (h : ∀ t s', SS G fs (upd V it (liV l (i + 1))) s' → Q (.int n t) s') :
    wpAny (model PP w) A (call (.ref mw) []) Q E s := by
  obtain ⟨o, ho, h1, h2⟩ := S.see mw _ hm
  obtain ⟨oi, hoi, h3, h4⟩ := S.see it _ hi
  obtain ⟨vs, n', hol, hI⟩ := S.il hl
  obtain ⟨t, ht⟩ := hI.get _ _ hx
  refine call_mw ho h1 h2 (meets_next_item (l := l) (i := i) (items := vs) (x := .int n t)) ⟨⟨oi, hoi, h3, h4⟩, isList_of hol, by simpa using ht, fun h' hit hs => ?_⟩
  obtain ⟨oi', q1, q2, q3⟩ := hit
  exact h _ _ (S.chg (s' := { s with heap := h' }) hi rfl rfl (fun b o hb e => (hs.2 b hb).trans e) ⟨oi', q1, q2, q3⟩)
theorem nx_end {Q : Value → Shared → Prop} (hh : A.handled = none) (S : SS G (f₀ :: fs) V s) (hm : V mw = some (mwV it)) (hi : V it = some (liV l i)) (hl : V l = some (.ilist ns)) (hx : ns[i]? = none)
    (h : ∀ e s' oe vs a0, SS G (f₀ :: fs) (vdel V it) s' → s'.heap.get? e = some oe → oe.cls = .type "StopIteration" → oe.data = .fields vs → vs[1]? = some .none → vs[0]? = some a0 → G.h.objs.size ≤ e → V e = none → e ∉ (f₀ :: fs).map (·.1) → E (.ref e) s') :
    wpAny (model PP w) A (call (.ref mw) []) Q E s := by
  obtain ⟨o, ho, h1, h2⟩ := S.see mw _ hm
  obtain ⟨oi, hoi, h3, h4⟩ := S.see it _ hi
  obtain ⟨vs, n', hol, hI⟩ := S.il hl
  have hx' : vs[i]? = none := by
    have := hI.length
    rw [List.getElem?_eq_none_iff] at hx
    rw [Array.getElem?_eq_none_iff, ← Array.length_toList, this]; exact hx
  refine call_mw ho h1 h2 (meets_next_end (l := l) (i := i) (items := vs)) ⟨hh, ⟨oi, hoi, h3, h4⟩, isList_of hol, hx', fun h' e oe ws hs hfr he hc hd w1 ⟨a0, w0⟩ => ?_⟩
  refine h e { s with heap := h' } oe ws a0 (S.lose (s' := { s with heap := h' }) hi rfl rfl fun b o hb e => hs b o hb e) he hc hd w1 w0 (Nat.le_trans S.ge hfr) (S.fresh hfr) fun q => ?_
  obtain ⟨f, hf, e2⟩ := List.mem_map.mp q
  have := (S.frames f hf).1.lt
  rw [e2] at this
  exact absurd this (Nat.not_lt.mpr hfr)

/-- a call of what an expression gives -/
theorem Call_any {fe : Expr} {args : List Expr} {pos : Pos} {Q : Value → Shared → Prop}
    (h : wpAny (model PP w) A (eval fe env) (fun f s₁ => wpAny (model PP w) A (callWith pos f [] (backTo pos (starEach args env)) []) Q E s₁) E s)
    (e : eval (.Call fe args [] pos) env = (do callWith pos (← eval fe env) [] (backTo pos (starEach args env)) (backToKw pos (keywordEach [] env))) := by rfl) :
    wpAny (model PP w) A (eval (.Call fe args [] pos) env) Q E s := by
  rw [e]
  exact wpAny_bind h
noncomputable def MwAt (q : Addr) (h : Heap) : Prop := ∃ o vs, h.get? q = some o ∧ o.cls = .type "method-wrapper" ∧ o.data = .fields vs
theorem keeps_mw {M : Model} {q : Addr} (h : Heap) (X : MwAt q h) : ∃ k, (k = Keeper.frame ∨ k = Keeper.machine ∨ k = Keeper.boundFrame) ∧ Looks M h (keeperOf (.ref q)) k := by
  obtain ⟨o, vs, e, hc, hd⟩ := X
  refine ⟨.machine, .inr (.inl rfl), (Looks.ld (part := none) e).andThen ?_⟩
  rw [hd, hc]
  exact .now
theorem callWith_mw {pos : Pos} {Q : Value → Shared → Prop} (S : SS G fs V s) (hm : V mw = some (mwV it)) (h : wpAny (model PP w) A (call (.ref mw) []) Q E s) :
    wpAny (model PP w) A (callWith pos (.ref mw) [] (backTo pos (starEach [] env)) []) Q E s := by
  obtain ⟨o, ho, h1, h2⟩ := S.see mw _ hm
  exact callWith_of rfl keeps_mw (evalArgs_nil3 ⟨⟨o, _, ho, h1, h2⟩, h⟩)

/-- the last item -/
theorem sub_last {value slice : Expr} {as : List Addr} {Q : Value → Shared → Prop} (S : SS G fs V s) (hV : V l = some (.rlist (as ++ [b]))) (hk : as.length < 1000000) (h : Q (.ref b) s)
    (hs : subscripted slice false (.ref l) (.int (-1) u) = operate [.ref l, .int (-1) u] (getItem (.ref l) (.int (-1) u)) := by with_unfolding_all rfl) :
    wpAny (model PP w) A (subscriptTail value slice (.ref l) (.int (-1) u)) Q E s := by
  obtain ⟨n, ho⟩ := S.rl hV
  refine tail_any (isList_of ho).typeIs slot_list_getitem.lookup (wpAny_getItem_list_neg (x := .ref b) (isList_of ho) (by decide) ?_ (by decide) ?_ h) hs
  · simp; omega
  · have e : ((-1 : Int) + ((as ++ [b]).map Value.ref).toArray.size).toNat = as.length := by simp; omega
    rw [e]; simp
/-- sets -/
theorem set_new {Q : Value → Shared → Prop} (S : SS G (f₀ :: fs) V s) (h : ∀ b s', V b = none → SS G (f₀ :: fs) (upd V b (.iset (fun _ => false) 0)) s' → Q (.ref b) s') : wpAny (model PP w) A (call (.type "set") []) Q E s :=
  call_set_0 fun led => h _ _ (S.fresh (Nat.le_refl _)) (S.new S.ge (Nat.le_refl _) rfl rfl (fun b o e => Heap.get?_push_of_some _ e) ⟨_, Heap.get?_push_size _ rfl, setObjOf_fresh (knd := intKind PP w) led⟩)
theorem set_in {Q : Value → Shared → Prop} {T : Int → Bool} {c : Nat} (S : SS G fs V s) (hV : V a = some (.iset T c)) (hc : c < 1000) (h : ∀ s', SS G fs V s' → Q (.bool (T n)) s') : wpAny (model PP w) A (compareOp .In (.int n t) (.ref a)) Q E s := by
  obtain ⟨o, ho, hi⟩ := S.see a _ hV
  exact wpAny_inSet_of (knd := intKind PP w) (k := n) (by simp [intKind, Value.isInt]) rfl (hi.setOf ho (by unfold scanBound; omega)) (h _ (S.tok _))
theorem set_met {Q : Value × List Value → Shared → Prop} {pl : Sem Bool} {T : Int → Bool} {c : Nat} (S : SS G fs V s) (hV : V a = some (.iset T c)) (hc : c < 1000) (h : Q (.builtin "set.add", [.ref a]) s) : wpAny (model PP w) A (getMethod (.ref a) (Str.ofString "add") pl) Q E s := by
  obtain ⟨o, ho, hi⟩ := S.see a _ hV
  exact getMethod_set_add (hi.setOf ho (by unfold scanBound; omega)) h
theorem set_add {Q : Value → Shared → Prop} {T : Int → Bool} {c : Nat} (S : SS G fs V s) (hV : V a = some (.iset T c)) (hc : c < 1000) (hn : T n = false) (h : ∀ s', SS G fs (upd V a (.iset (fun k => T k || decide (k = n)) (c + 1))) s' → Q .none s') : wpAny (model PP w) A (call (.builtin "set.add") [.ref a, .int n t]) Q E s := by
  obtain ⟨o, ho, hi⟩ := S.see a _ hV
  refine call_set_add (knd := intKind PP w) (k := n) (by simp [intKind, Value.isInt]) rfl (hi.setOf ho (by unfold scanBound; omega)) (by unfold scanBound; omega) fun h' hs hS => ?_
  obtain ⟨o', ho', hi'⟩ := hS.objOf
  rw [hn] at hi'
  exact h _ (S.chg (s' := { s with heap := h', toks := s.toks + 1 }) hV rfl rfl (fun b o hb e => (hs.2 b hb).trans e) ⟨o', ho', hi'⟩)
/-- del d[n] -/
theorem without_er (kv : List (Int × Value)) (k : Int) : erp (without kv k) = without (erp kv) k := by
  unfold without erp
  rw [List.filter_map]
  rfl
theorem ddel {Q : Unit → Shared → Prop} {kvs : List (Int × Value)} {ao' : AObj} (S : SS G fs V s) (hV : V d = some ao) (hd : ao.dv = some kvs) (hd' : ao'.dv = some (without kvs n)) (hz : kvs.length < 1000) (hin : (valueAt kvs n).isSome = true) (h : ∀ s', SS G fs (upd V d ao') s' → Q () s') :
    wpAny (model PP w) A (delItem (.ref d) (.int n t)) Q E s := by
  obtain ⟨kv', D, e⟩ := S.dct hV hd
  have hl : kv'.length = kvs.length := by rw [← e]; simp [erp]
  unfold delItem
  try with_reducible refine wpAny_holding ?_
  refine wpAny_bind (wpAny_sequenceKey D.typeIs (by decide) ?_)
  refine wpAny_bind (wpAny_callSpecial?_slot (name := Str.ofString "__delitem__") D.typeIs PySem.F.slot_dict_delitem
    (call_meetsIn PySem.F.slot_dict_delitem D.typeIs PySem.F.entry_dict_delitem (PySem.F.args_dict_delitem_2 _ _) (meets_dict_delitem_pairs (intKind PP w) d (k := n) (by simp [intKind, Value.isInt])) ⟨kv', D, (by show kv'.length ≤ 2 ^ 24; omega), ?_, fun h' hmm hs => ?_⟩))
  · rw [← e, ← valueAt_er] at hin
    simpa using hin
  · exact wpAny_pure (h _ (S.chg (s' := { s with heap := h', toks := s.toks + 1 }) hV rfl rfl (fun b o hb e => (hs.2 b hb).trans e) (dct_at hmm (by rw [without_er, e]; exact hd')) (dv_nc hd)))
end

section
variable {w : World} {G : Gd w} {f₀ : Addr × FK} {fs : Frs} {V V' : View} {s s' : Shared} {l a b d it mw L I x dx C : Addr} {m : Loc} {ao : AObj} {A : Around} {E : Value → Shared → Prop} {env : Env}
/-- for x in a dict with int keys that is known as an object -/
theorem for_dk {o : Obj} {kvs : List (Int × Addr)} {x : Str} {px : Pos} {body orelse : List Stmt} {Q : Flow → Shared → Prop} {k : Nat} (r : Rm A k) (S : SS G ((L, .loc m) :: fs) V s) (hV : V d = some (.raw o)) (ho : (AObj.rdict kvs).Is w o) (J : Nat → Loc → View → Prop) (h0 : J 0 m V) (hJ : ∀ i m V, J i m V → V d = some (.raw o))
    (turn : ∀ i m V t it s, i < kvs.length → J i m V → SS G ((L, .loc m) :: it :: fs) V s →
      wpAny (model PP w) A (assign (.Name x px) env (.int ((kvs.map (·.1)).getD i 0) t)) (fun _ s₂ => wpAny (model PP w) A (execs body env) (fun f s₃ => match f with
        | .next | .cont => ∃ m' V', J (i + 1) m' V' ∧ SS G ((L, .loc m') :: it :: fs) V' s₃
        | .brk => Q .next s₃
        | .ret v => Q (.ret v) s₃) (fun _ _ => False) s₂) (fun _ _ => False) s)
    (fin : ∀ m V s, J kvs.length m V → SS G ((L, .loc m) :: fs) V s → wpAny (model PP w) A (execs orelse env) Q (fun _ _ => False) s) :
    wpAny (model PP w) A (pyIter (.ref d)) (fun it s₂ => codeAny (model PP w) A (.forLoop (.Name x px) it body orelse env) (fun r s' => match r with | .ok f => Q f s' | .error e => cameBackBy (model PP w) A env E e s') s₂) E s := by
  obtain ⟨h1, es, ep, kv', h2, h3, h4, h5, h6⟩ := ho
  have at_ : ∀ {V s fs}, SS G fs V s → V d = some (.raw o) → s.heap.DictAt (intKind PP w) d kv' ep := fun S hV => by
    obtain ⟨o', ho, e⟩ := S.see d _ hV
    have e : o' = o := e
    subst e
    exact ⟨_, es, ho, h1, h2, h3, h4, h5⟩
  have hlen : kv'.length = kvs.length := by rw [h6]; simp
  refine wpAny_pyIter_dict (S.notSys hV) (at_ S hV) ?_
  have hne : d ≠ s.heap.objs.size := Nat.ne_of_lt (at_ S hV).lt_size
  have hit0 : (AObj.fld "dict_keyiterator" #[.ref d, .int (0 : Nat) 0, .int kv'.length 0, .int ep 0]).At w (s.heap.push { cls := .type "dict_keyiterator", data := .fields #[.ref d, .int 0 0, .int kv'.length 0, .int ep 0] }) s.heap.objs.size := ⟨_, Heap.get?_push_size _ rfl, rfl, rfl⟩
  exact for_gen (Walks.dictKeys (knd := intKind PP w) r.h s.heap.objs.size d hne kv' ep) (fun i => .fld "dict_keyiterator" #[.ref d, .int (i : Nat) 0, .int kv'.length 0, .int ep 0]) J (fun i m V s' _ hj S' => ⟨(S'.frames _ (.tail _ (.head _))).1, at_ S' (hJ i m V hj)⟩) (fun i h hs => hs.1) (fun i v s Q _ h => go_name h)
    (S.pinNew (Nat.le_refl _) rfl rfl (fun b o e => Heap.get?_push_of_some _ e) hit0) h0 (fun i m V v s' hi' hP hj S' => by
      obtain ⟨k, y, hk, hi⟩ := hP
      obtain ⟨t, rfl⟩ := Value.isInt_shape hi
      rw [hlen] at hi'
      have e : (kvs.map (·.1)).getD i 0 = k := by
        rw [h6, List.getElem?_map] at hk
        cases q : kvs[i]? with
        | none => rw [q] at hk; cases hk
        | some p =>
          rw [q] at hk
          simp only [Option.map_some, Option.some.injEq, Prod.mk.injEq] at hk
          rw [List.getD_eq_getElem?_getD, List.getElem?_map, q]
          exact hk.1
      have := turn i m V t _ s' hi' hj S'
      rw [e] at this
      exact this) (fun m V s' hj S' => fin m V s' (by rw [← hlen]; exact hj) S')

/-- a list comprehension over anything that walks -/
theorem comp_gen {g : Addr × FK} {elt iter : Expr} {x : Str} {px : Pos} {ifs : List Expr} {scope : Scope} {cl : List (Str × Addr)} {pos : Pos} {Q : Value → Shared → Prop} {fp : List Addr} {n : Nat} {P : Nat → Value → Prop} {Sti : Nat → Heap → Prop}
    (W : Walks PP w A I fp [I] n P Sti) (it : Nat → AObj) (J : Nat → View → AObj → Prop)
    (hst : ∀ i V₀ ao V s fs', J i V₀ ao → (∀ a z, V₀ a = some z → V a = some z) → SS G fs' V s → (I, FK.obj (it i)) ∈ fs' → Sti i s.heap) (hit : ∀ i h, Sti i h → (it i).At w h I)
    (hcell : ∀ y ∈ scope.names, y.2 ≠ .cell) (hkind : scope.kind = .function) (hx : scope.names.lookup x = some .local)
    (S : SS G (g :: (I, .obj (it 0)) :: fs) V s) (h0 : J 0 V (.ilist []) ∨ J 0 V (.rlist [])) (hnc : ∀ i V₀ ao, J i V₀ ao → ∀ q, ao ≠ .code q)
    (turn : ∀ i V₀ ao m v s C D, i < n → P i v → J i V₀ ao → V₀ D = none → SS G ((C, .loc (lup m x (er v))) :: (I, .obj (it (i + 1))) :: g :: fs) (upd V₀ D ao) s →
      wpAny (model PP w) A (forIn ifs true fun c r => if r = true then do let ok ← isTrue c (compEnvC scope cl C env) (eval c (compEnvC scope cl C env)); pure (ForInStep.yield ok) else pure (ForInStep.yield r)) (fun ok s₃ =>
        if ok = true then wpAny (model PP w) A (eval elt (compEnvC scope cl C env)) (fun y s₄ => wpAny (model PP w) A (call (.builtin "list.append") [.ref D, y]) (fun _ s₅ =>
            ∃ m' V₁ ao₁, J (i + 1) V₁ ao₁ ∧ V₁ D = none ∧ SS G ((C, .loc m') :: (I, .obj (it (i + 1))) :: g :: fs) (upd V₁ D ao₁) s₅) (fun _ _ => False) s₄) (fun _ _ => False) s₃
        else ∃ m' V₁ ao₁, J (i + 1) V₁ ao₁ ∧ V₁ D = none ∧ SS G ((C, .loc m') :: (I, .obj (it (i + 1))) :: g :: fs) (upd V₁ D ao₁) s₃) (fun _ _ => False) s)
    (fin : ∀ V₀ ao D s, J n V₀ ao → V₀ D = none → SS G (g :: fs) (upd V₀ D ao) s → Q (.ref D) s) :
    wpAny (model PP w) A (newList []) (fun acc s₃ => wpAny (model PP w) A (newFunctionEnv scope env.globals cl [] env.qual none .none (some env)) (fun cenv s₄ =>
      codeAny (model PP w) A (.compStart (.ListComp elt [⟨.Name x px, iter, ifs, 0⟩] scope pos) 0 (.ref I) acc { cenv with scope := relabel scope env }) (compPost (model PP w) A E none Q acc cenv.locals) s₄) E s₃) E s := by
  obtain ⟨ao, hao, hemp⟩ : ∃ ao, J 0 V ao ∧ ao.Is w { cls := .type "list", dict := none, data := .seq ([] : List Value).toArray } := by
    rcases h0 with h | h
    · exact ⟨_, h, _, 0, rfl, .nil⟩
    · exact ⟨_, h, 0, rfl⟩
  refine wpAny_newObj_type (wpAny_newFunctionEnv hcell (by intro y hy; simp at hy) (fun h₁ hns₁ hsb₁ => ?_) hkind)
  dsimp only at hns₁ hsb₁ ⊢
  have hD : V s.heap.objs.size = none := S.fresh (Nat.le_refl _)
  have S1 : SS G ((I, .obj (it 0)) :: g :: fs) (upd V s.heap.objs.size ao) { s with heap := s.heap.push { cls := .type "list", dict := none, data := .seq ([] : List Value).toArray } } :=
    S.swap.new S.ge (Nat.le_refl _) rfl rfl (fun b o e => Heap.get?_push_of_some _ e) ⟨_, Heap.get?_push_size _ rfl, hemp⟩
  generalize s.heap.objs.size = D at *
  generalize hH2 : s.heap.push { cls := .type "list", dict := none, data := .seq ([] : List Value).toArray } = H2 at hns₁ hsb₁ S1 ⊢
  have S2 : SS G ((H2.objs.size, .loc (fun _ => none)) :: (I, .obj (it 0)) :: g :: fs) (upd V D ao) { s with heap := h₁ } :=
    S1.push S1.ge (Nat.le_refl _) rfl rfl (fun b o e => hsb₁.extBut b o (Nat.ne_of_lt (Heap.lt_size e)) (Heap.get?_push_of_some _ e)) ⟨_, hns₁, fun y => rfl⟩
  generalize H2.objs.size = C at *
  have sub : ∀ {V₀ : View} {ao : AObj}, V₀ D = none → ∀ a z, V₀ a = some z → upd V₀ D ao a = some z := fun hn a z h => upd_old hn h
  have loop : codeAny (model PP w) A (.compLoop (.ListComp elt [⟨.Name x px, iter, ifs, 0⟩] scope pos) 0 (.ref I) (.ref D) (compEnvC scope cl C env)) (compPost (model PP w) A E none Q (.ref D) C) { s with heap := h₁ } := by
    refine codeAny_compLoop_tests (fun k s => ∃ i m V₀ ao, k = n - i ∧ i ≤ n ∧ J i V₀ ao ∧ V₀ D = none ∧ SS G ((C, .loc m) :: (I, .obj (it i)) :: g :: fs) (upd V₀ D ao) s) (fun k s hI => ?_) n ⟨0, _, V, ao, rfl, Nat.zero_le _, hao, hD, S2⟩
    obtain ⟨i, m, V₀, ao, rfl, hi, hJ, hV₀, S⟩ := hI
    have St := hst i V₀ ao _ s _ hJ (sub hV₀) S (.tail _ (.head _))
    rcases Nat.lt_or_ge i n with hlt | hge
    · refine W.item i s _ _ hlt St fun v h' tk hP hSt hk => ?_
      have S' : SS G ((C, .loc m) :: (I, .obj (it (i + 1))) :: g :: fs) (upd V₀ D ao) { s with heap := h', toks := tk } := S.pin rfl rfl (fun b o hb e => hk b o (by simpa using hb) e) (hit _ _ hSt)
      refine wpAny_assign_Name (sto S' (fun s2 S2 => ?_) rfl (by show (relabel scope env).kind = _; exact hkind) (lookup_relabel_local hx))
      refine wpAny_mono (turn i V₀ ao m v s2 C D hlt hP hJ hV₀ S2) (fun ok s3 h3 => ?_) fun _ _ x => x.elim
      cases ok with
      | false =>
        simp only [Bool.false_eq_true, if_false] at h3 ⊢
        obtain ⟨m', V₁, ao₁, j1, j2, j3⟩ := h3
        exact ⟨n - (i + 1), by omega, i + 1, m', V₁, ao₁, rfl, hlt, j1, j2, j3⟩
      | true =>
        simp only [if_true] at h3 ⊢
        refine wpAny_mono h3 (fun y s4 h4 => wpAny_mono h4 (fun _ s5 h5 => ?_) fun _ _ x => x.elim) fun _ _ x => x.elim
        obtain ⟨m', V₁, ao₁, j1, j2, j3⟩ := h5
        exact ⟨n - (i + 1), by omega, i + 1, m', V₁, ao₁, rfl, hlt, j1, j2, j3⟩
    · have : i = n := by omega
      subst this
      refine W.done s _ _ St fun h' tk hk => ?_
      have S3 : SS G ((C, .loc m) :: g :: fs) (upd V₀ D ao) { s with heap := h', toks := tk } := S.unpin rfl rfl fun b o hb e => hk b o (by simpa using hb) e
      obtain ⟨mm, hns, _⟩ := (S3.frames _ (.head _)).1
      exact ⟨mm, hns, fun h'' hsb => fin V₀ ao D _ hJ hV₀ (S3.swap.unpin (s' := { s with heap := h'', toks := tk }) rfl rfl fun b o hb e => (hsb.2 b hb).trans e)⟩
  exact codeAny_compStart_list loop (W.self 0 _ _ _ (hst 0 V ao _ _ _ hao (sub hD) S2 (.tail _ (.head _))) loop)
/-- a list comprehension, up to its first iterable -/
theorem lc_start {elt iter target : Expr} {ifs : List Expr} {scope : Scope} {pos : Pos} {Q : Value → Shared → Prop} (cl : List (Str × Addr)) (hclos : closureFor scope env = pure cl) (hkind : scope.kind = .function)
    (hnames : ∀ x ∈ scope.names, x.2 = .local → scope.names.lookup x.1 = some .local)
    (h : wpAny (model PP w) A (eval iter env) (fun x s₁ => wpAny (model PP w) A (pyIter x) (fun it s₂ => wpAny (model PP w) A (newList []) (fun acc s₃ =>
      wpAny (model PP w) A (newFunctionEnv scope env.globals cl [] env.qual none .none (some env)) (fun cenv s₄ =>
        codeAny (model PP w) A (.compStart (.ListComp elt [⟨target, iter, ifs, 0⟩] scope pos) 0 it acc { cenv with scope := relabel scope env }) (compPost (model PP w) A E none Q acc cenv.locals) s₄) E s₃) E s₂) E s₁) E s)
    (hs : ∀ x, foldedSetIterable iter env x = pure x := by intro _; rfl) :
    wpAny (model PP w) A (eval (.ListComp elt [⟨target, iter, ifs, 0⟩] scope pos) env) Q E s := by
  rw [eval_ListComp]
  exact wpAny_comprehension_free (use := none) rfl hs hclos hkind hnames h
end
/-- a frame of the search: the node, how many of its successors are told, the iterator, its bound __next__ -/
noncomputable abbrev Fr4 := Nat × Nat × Addr × Addr
noncomputable def prs (fr : List Fr4) : List (Int × Int) := fr.zipIdx.map fun p => ((p.1.1 : Int), (p.2 : Int))
theorem prs_snoc (fr : List Fr4) (f : Fr4) : prs (fr ++ [f]) = prs fr ++ [((f.1 : Int), (fr.length : Int))] := by
  unfold prs
  rw [List.zipIdx_append, List.map_append]
  simp
theorem prs_keys : ∀ (fr : List Fr4) (p : Int × Int), p ∈ prs fr → ∃ f ∈ fr, p.1 = (f.1 : Int) := fun fr p hp => by
  unfold prs at hp
  obtain ⟨x, hx, rfl⟩ := List.mem_map.mp hp
  exact ⟨x.1, (List.mem_zipIdx' hx).2 ▸ List.getElem_mem _, rfl⟩
theorem prs_len (fr : List Fr4) : (prs fr).length = fr.length := by simp [prs]
noncomputable def unsn (sc : Nat → List Nat) (T : Int → Bool) (N : List Nat) : Nat := ((N.filter fun n : Nat => !T (n : Int)).map fun n => (sc n).length + 1).sum
noncomputable def rest4 (sc : Nat → List Nat) (fr : List Fr4) : Nat := (fr.map fun f => (sc f.1).length - f.2.1).sum
theorem unsn_add {sc : Nat → List Nat} {T : Int → Bool} : ∀ {N : List Nat} {n : Nat}, N.Nodup → n ∈ N → T (n : Int) = false → unsn sc T N = unsn sc (fun k => T k || decide (k = (n : Int))) N + ((sc n).length + 1)
  | [], n, _, h, _ => nomatch h
  | k :: N, n, nd, h, hT => by
    rw [List.nodup_cons] at nd
    have same : n ∉ N → (N.filter fun k : Nat => !(T (k : Int) || decide ((k : Int) = (n : Int)))) = N.filter fun k : Nat => !T (k : Int) := fun hn => by
      refine List.filter_congr fun k hk => ?_
      have : (k : Int) ≠ (n : Int) := fun e => hn (by rw [← Int.ofNat.inj e]; exact hk)
      rw [decide_eq_false this, Bool.or_false]
    by_cases e : k = n
    · subst e
      unfold unsn
      rw [List.filter_cons_of_pos (by simp [hT]), List.filter_cons_of_neg (by simp), same nd.1]
      simp only [List.map_cons, List.sum_cons]
      omega
    · have hm : n ∈ N := (List.mem_cons.mp h).resolve_left fun q => e q.symm
      have ih := unsn_add (sc := sc) nd.2 hm hT
      have hk : decide ((k : Int) = (n : Int)) = false := decide_eq_false (by omega)
      simp only [unsn] at ih ⊢
      cases hTk : T (k : Int) with
      | true => rw [List.filter_cons_of_neg (by simp [hTk]), List.filter_cons_of_neg (by simp [hTk])]; exact ih
      | false =>
        rw [List.filter_cons_of_pos (by simp [hTk]), List.filter_cons_of_pos (by simp [hTk, hk])]
        simp only [List.map_cons, List.sum_cons]
        omega
noncomputable def unsc (T : Int → Bool) (N : List Nat) : Nat := (N.filter fun n : Nat => !T (n : Int)).length
theorem unsc_add {T : Int → Bool} {N : List Nat} {n : Nat} (nd : N.Nodup) (h : n ∈ N) (hT : T (n : Int) = false) : unsc T N = unsc (fun k => T k || decide (k = (n : Int))) N + 1 := by
  have := unsn_add (sc := fun _ => []) nd h hT
  have e : ∀ T, unsn (fun _ => []) T N = unsc T N := fun T => by
    unfold unsn unsc
    induction (N.filter fun n : Nat => !T (n : Int)) with
    | nil => rfl
    | cons x l ih => simp only [List.map_cons, List.sum_cons, List.length_cons, List.length_nil] at ih ⊢; omega
  rw [e, e] at this
  exact this
theorem valueAt_prs_no {fr : List Fr4} {n : Nat} (h : ∀ f ∈ fr, f.1 < n) : valueAt ((prs fr).map fun p => (p.1, Value.int p.2 0)) (n : Int) = none := by
  unfold valueAt
  rw [List.find?_map]
  cases e : (prs fr).find? _ with
  | none => rfl
  | some p =>
    have h1 := List.find?_some e
    obtain ⟨f, hf, h2⟩ := prs_keys fr p (List.mem_of_find?_eq_some e)
    have h1 : p.1 = (n : Int) := by simpa using h1
    have := h f hf
    omega
theorem stored_prs {fr : List Fr4} {n : Nat} {v : Int} (h : ∀ f ∈ fr, f.1 < n) : stored ((prs fr).map fun p => (p.1, Value.int p.2 0)) (n : Int) (.int v 0) = (prs fr ++ [((n : Int), v)]).map fun p => (p.1, Value.int p.2 0) := by
  unfold stored
  rw [if_neg, List.map_append]
  · rfl
  · rw [List.any_map, Bool.not_eq_true, List.any_eq_false]
    intro p hp e
    obtain ⟨f, hf, h2⟩ := prs_keys fr p hp
    have e : p.1 = (n : Int) := of_decide_eq_true e
    have := h f hf
    omega
theorem without_prs {fr : List Fr4} {f : Fr4} (h : ∀ g ∈ fr, g.1 < f.1) : without ((prs (fr ++ [f])).map fun p => (p.1, Value.int p.2 0)) (f.1 : Int) = (prs fr).map fun p => (p.1, Value.int p.2 0) := by
  unfold without
  rw [prs_snoc, List.map_append, List.filter_append]
  have e1 : (((prs fr).map fun p => (p.1, Value.int p.2 0)).filter fun kv => decide (kv.1 ≠ (f.1 : Int))) = (prs fr).map fun p => (p.1, Value.int p.2 0) := by
    rw [List.filter_eq_self]
    intro q hq
    obtain ⟨p, hp, rfl⟩ := List.mem_map.mp hq
    obtain ⟨g, hg, h2⟩ := prs_keys fr p hp
    have := h g hg
    exact decide_eq_true (show p.1 ≠ (f.1 : Int) by omega)
  rw [e1]
  simp
theorem there_prs (fr : List Fr4) (f : Fr4) : (valueAt ((prs (fr ++ [f])).map fun p => (p.1, Value.int p.2 0)) (f.1 : Int)).isSome = true := by
  unfold valueAt
  rw [prs_snoc, List.map_append, List.find?_append]
  simp
/-- the search's state -/
structure Fc (N : List Nat) (su : Nat → Addr) (sc : Nat → List Nat) (V V' : View) (sk isk se d2 : Addr) (fr : List Fr4) (T : Int → Bool) (c : Nat) : Prop where
  sub : ∀ a ao, V a = some ao → V' a = some ao
  vsk : V sk = none
  visk : V isk = none
  vse : V se = none
  vd2 : V d2 = none
  sk : V' sk = some (.ilist (fr.map fun f => (f.1 : Int)))
  isk : V' isk = some (.rlist (fr.map (·.2.2.2)))
  se : V' se = some (.iset T c)
  d2 : V' d2 = some (.idict (prs fr))
  its : ∀ f ∈ fr, V' f.2.2.2 = some (mwV f.2.2.1) ∧ V' f.2.2.1 = some (liV (su f.1) f.2.1) ∧ V f.2.2.1 = none
  nd : (fr.map (·.2.2.1)).Nodup
  seen : ∀ f ∈ fr, T (f.1 : Int) = true
  mem : ∀ f ∈ fr, f.1 ∈ N
  asc : (fr.map (·.1)).Pairwise (· < ·)
  cnt : c + unsc T N = N.length
section
variable {N : List Nat} {su : Nat → Addr} {sc : Nat → List Nat} {V V' : View} {sk isk se d2 : Addr} {fr : List Fr4} {T : Int → Bool} {c : Nat}
theorem Fc.push (F : Fc N su sc V V' sk isk se d2 fr T c) {it mw : Addr} {n : Nat} {V1 : View} (ndN : N.Nodup) (hn : n ∈ N) (hT : T (n : Int) = false) (hlt : ∀ f ∈ fr, f.1 < n)
    (h1 : V' it = none) (h2 : V' mw = none) (h3 : mw ≠ it)
    (hV : V1 = upd (upd (upd (upd (upd (upd V' se (.iset (fun k => T k || decide (k = (n : Int))) (c + 1))) it (liV (su n) 0)) mw (mwV it)) isk (.rlist (fr.map (·.2.2.2) ++ [mw]))) d2 (.idict (prs fr ++ [((n : Int), (fr.length : Int))]))) sk (.ilist (fr.map (fun f => (f.1 : Int)) ++ [(n : Int)]))) :
    Fc N su sc V V1 sk isk se d2 (fr ++ [(n, 0, it, mw)]) (fun k => T k || decide (k = (n : Int))) (c + 1) := by
  subst hV
  have Vno : ∀ {a}, V' a = none → V a = none := fun {a} h => by cases e : V a with | none => rfl | some o => rw [F.sub a o e] at h; cases h
  have ne : ∀ {a b : Addr} {x y : AObj}, V' a = some x → V' b = some y → x ≠ y → a ≠ b := fun h1 h2 h e => h (by rw [e, h2] at h1; exact (Option.some.inj h1).symm)
  have neN : ∀ {a b : Addr} {x : AObj}, V' a = some x → V' b = none → a ≠ b := fun h1 h2 e => by rw [e, h2] at h1; cases h1
  have a1 : sk ≠ isk := ne F.sk F.isk nofun
  have a2 : sk ≠ se := ne F.sk F.se nofun
  have a3 : sk ≠ d2 := ne F.sk F.d2 nofun
  have a4 : isk ≠ se := ne F.isk F.se nofun
  have a5 : isk ≠ d2 := ne F.isk F.d2 nofun
  have a6 : se ≠ d2 := ne F.se F.d2 nofun
  have b1 := neN F.sk h1
  have b2 := neN F.isk h1
  have b3 := neN F.se h1
  have b4 := neN F.d2 h1
  have c1 := neN F.sk h2
  have c2 := neN F.isk h2
  have c3 := neN F.se h2
  have c4 := neN F.d2 h2
  exact {
    sub := fun a ao h => by
      have e0 := F.sub a ao h
      have nn : ∀ {b}, V b = none → a ≠ b := fun hb e => by rw [e, hb] at h; cases h
      rw [upd_ne (nn F.vsk), upd_ne (nn F.vd2), upd_ne (nn F.visk), upd_ne (neN e0 h2), upd_ne (neN e0 h1), upd_ne (nn F.vse)]
      exact e0
    vsk := F.vsk
    visk := F.visk
    vse := F.vse
    vd2 := F.vd2
    sk := by rw [List.map_append]; exact upd_eq
    isk := by rw [List.map_append]; exact (upd_ne a1.symm).trans ((upd_ne a5).trans upd_eq)
    se := (upd_ne a2.symm).trans ((upd_ne a6).trans ((upd_ne a4.symm).trans ((upd_ne c3).trans ((upd_ne b3).trans upd_eq))))
    d2 := by rw [prs_snoc]; exact (upd_ne a3.symm).trans upd_eq
    its := fun f hf => by
      rcases List.mem_append.mp hf with hf | hf
      · obtain ⟨i1, i2, i3⟩ := F.its f hf
        refine ⟨?_, ?_, i3⟩
        · rw [upd_ne (ne i1 F.sk nofun), upd_ne (ne i1 F.d2 nofun), upd_ne (ne i1 F.isk nofun), upd_ne (neN i1 h2), upd_ne (neN i1 h1), upd_ne (ne i1 F.se nofun)]; exact i1
        · rw [upd_ne (ne i2 F.sk nofun), upd_ne (ne i2 F.d2 nofun), upd_ne (ne i2 F.isk nofun), upd_ne (neN i2 h2), upd_ne (neN i2 h1), upd_ne (ne i2 F.se nofun)]; exact i2
      · rw [List.mem_singleton] at hf
        subst hf
        refine ⟨?_, ?_, Vno h1⟩
        · exact (upd_ne c1.symm).trans ((upd_ne c4.symm).trans ((upd_ne c2.symm).trans upd_eq))
        · exact (upd_ne b1.symm).trans ((upd_ne b4.symm).trans ((upd_ne b2.symm).trans ((upd_ne h3.symm).trans upd_eq)))
    nd := by
      rw [List.map_append, List.nodup_append]
      refine ⟨F.nd, by simp, fun a ha b hb e => ?_⟩
      obtain ⟨f, hf, rfl⟩ := List.mem_map.mp ha
      simp only [List.map_cons, List.map_nil, List.mem_singleton] at hb
      have := (F.its f hf).2.1
      rw [e, hb, h1] at this; cases this
    seen := fun f hf => by
      rcases List.mem_append.mp hf with hf | hf
      · rw [F.seen f hf]; rfl
      · rw [List.mem_singleton] at hf; subst hf; simp
    mem := fun f hf => by
      rcases List.mem_append.mp hf with hf | hf
      · exact F.mem f hf
      · rw [List.mem_singleton] at hf; subst hf; exact hn
    asc := by
      rw [List.map_append, List.pairwise_append]
      refine ⟨F.asc, by simp, fun a ha b hb => ?_⟩
      obtain ⟨f, hf, rfl⟩ := List.mem_map.mp ha
      simp only [List.map_cons, List.map_nil, List.mem_singleton] at hb
      rw [hb]; exact hlt f hf
    cnt := by
      have := F.cnt
      have := unsc_add ndN hn hT
      omega }
theorem Fc.step {f : Fr4} (F : Fc N su sc V V' sk isk se d2 (fr ++ [f]) T c) : Fc N su sc V (upd V' f.2.2.1 (liV (su f.1) (f.2.1 + 1))) sk isk se d2 (fr ++ [(f.1, f.2.1 + 1, f.2.2.1, f.2.2.2)]) T c := by
  have hf := F.its f (List.mem_append_right _ (.head _))
  have ne : ∀ {a : Addr} {x : AObj}, V' a = some x → (∀ vs, x ≠ .fld "list_iterator" vs) → a ≠ f.2.2.1 := fun h1 h e => h _ (by rw [e, hf.2.1] at h1; exact (Option.some.inj h1).symm)
  have mem : ∀ g, g ∈ fr ++ [(f.1, f.2.1 + 1, f.2.2.1, f.2.2.2)] → g ∈ fr ∨ g = (f.1, f.2.1 + 1, f.2.2.1, f.2.2.2) := fun g hg => (List.mem_append.mp hg).imp id List.mem_singleton.mp
  have nd := F.nd
  rw [List.map_append, List.nodup_append] at nd
  exact {
    sub := fun a ao h => (upd_ne (fun e => by rw [e, hf.2.2] at h; cases h)).trans (F.sub a ao h)
    vsk := F.vsk
    visk := F.visk
    vse := F.vse
    vd2 := F.vd2
    sk := (upd_ne (ne F.sk nofun)).trans (by have := F.sk; rw [List.map_append] at this ⊢; exact this)
    isk := (upd_ne (ne F.isk nofun)).trans (by have := F.isk; rw [List.map_append] at this ⊢; exact this)
    se := (upd_ne (ne F.se nofun)).trans F.se
    d2 := (upd_ne (ne F.d2 nofun)).trans (by have := F.d2; rw [prs_snoc] at this ⊢; exact this)
    its := fun g hg => by
      rcases mem g hg with hg | rfl
      · obtain ⟨i1, i2, i3⟩ := F.its g (List.mem_append_left _ hg)
        refine ⟨(upd_ne (ne i1 (fun vs e => absurd (AObj.fld.inj e).1 (by decide)))).trans i1, (upd_ne fun e => ?_).trans i2, i3⟩
        exact nd.2.2 g.2.2.1 (List.mem_map_of_mem (f := fun f : Fr4 => f.2.2.1) hg) _ (by simp) e
      · exact ⟨(upd_ne (ne hf.1 (fun vs e => absurd (AObj.fld.inj e).1 (by decide)))).trans hf.1, upd_eq, hf.2.2⟩
    nd := by have := F.nd; rw [List.map_append] at this ⊢; exact this
    seen := fun g hg => by
      rcases mem g hg with hg | rfl
      · exact F.seen g (List.mem_append_left _ hg)
      · exact F.seen f (List.mem_append_right _ (.head _))
    mem := fun g hg => by
      rcases mem g hg with hg | rfl
      · exact F.mem g (List.mem_append_left _ hg)
      · exact F.mem f (List.mem_append_right _ (.head _))
    asc := by have := F.asc; rw [List.map_append] at this ⊢; exact this
    cnt := F.cnt }
theorem Fc.pop {f : Fr4} (F : Fc N su sc V V' sk isk se d2 (fr ++ [f]) T c) : Fc N su sc V (upd (upd (upd (vdel V' f.2.2.1) sk (.ilist (fr.map fun f => (f.1 : Int)))) d2 (.idict (prs fr))) isk (.rlist (fr.map (·.2.2.2)))) sk isk se d2 fr T c := by
  have hf := F.its f (List.mem_append_right _ (.head _))
  have ne : ∀ {a : Addr} {x : AObj}, V' a = some x → (∀ vs, x ≠ .fld "list_iterator" vs) → a ≠ f.2.2.1 := fun h1 h e => h _ (by rw [e, hf.2.1] at h1; exact (Option.some.inj h1).symm)
  have ne2 : ∀ {a b : Addr} {x y : AObj}, V' a = some x → V' b = some y → x ≠ y → a ≠ b := fun h1 h2 h e => h (by rw [e, h2] at h1; exact (Option.some.inj h1).symm)
  have nd := F.nd
  rw [List.map_append, List.nodup_append] at nd
  have as := F.asc
  rw [List.map_append, List.pairwise_append] at as
  have a1 : sk ≠ isk := ne2 F.sk F.isk nofun
  have a3 : sk ≠ d2 := ne2 F.sk F.d2 nofun
  have a5 : isk ≠ d2 := ne2 F.isk F.d2 nofun
  exact {
    sub := fun a ao h => by
      have nn : ∀ {b}, V b = none → a ≠ b := fun hb e => by rw [e, hb] at h; cases h
      rw [upd_ne (nn F.visk), upd_ne (nn F.vd2), upd_ne (nn F.vsk), vdel_ne (nn hf.2.2)]
      exact F.sub a ao h
    vsk := F.vsk
    visk := F.visk
    vse := F.vse
    vd2 := F.vd2
    sk := (upd_ne a1).trans ((upd_ne a3).trans upd_eq)
    isk := upd_eq
    se := (upd_ne (ne2 F.se F.isk nofun)).trans ((upd_ne (ne2 F.se F.d2 nofun)).trans ((upd_ne (ne2 F.se F.sk nofun)).trans ((vdel_ne (ne F.se nofun)).trans F.se)))
    d2 := (upd_ne a5.symm).trans upd_eq
    its := fun g hg => by
      obtain ⟨i1, i2, i3⟩ := F.its g (List.mem_append_left _ hg)
      refine ⟨?_, ?_, i3⟩
      · rw [upd_ne (ne2 i1 F.isk nofun), upd_ne (ne2 i1 F.d2 nofun), upd_ne (ne2 i1 F.sk nofun), vdel_ne (ne i1 (fun vs e => absurd (AObj.fld.inj e).1 (by decide)))]; exact i1
      · rw [upd_ne (ne2 i2 F.isk nofun), upd_ne (ne2 i2 F.d2 nofun), upd_ne (ne2 i2 F.sk nofun), vdel_ne fun e => nd.2.2 g.2.2.1 (List.mem_map_of_mem (f := fun f : Fr4 => f.2.2.1) hg) _ (by simp) e]; exact i2
    nd := nd.1
    seen := fun g hg => F.seen g (List.mem_append_left _ hg)
    mem := fun g hg => F.mem g (List.mem_append_left _ hg)
    asc := as.1
    cnt := F.cnt }
end
theorem nodup_sub_len : ∀ (l1 l2 : List Nat), l1.Nodup → (∀ x ∈ l1, x ∈ l2) → l1.length ≤ l2.length
  | [], _, _, _ => Nat.zero_le _
  | x :: l, l2, nd, h => by
    rw [List.nodup_cons] at nd
    have hx := h x (.head _)
    have := nodup_sub_len l (l2.erase x) nd.2 fun y hy => (List.mem_erase_of_ne fun e => nd.1 (by rw [← e]; exact hy)).mpr (h y (.tail _ hy))
    rw [List.length_erase_of_mem hx] at this
    have := List.length_pos_of_mem hx
    rw [List.length_cons]
    omega
theorem Fc.len {N : List Nat} {su : Nat → Addr} {sc : Nat → List Nat} {V V' : View} {sk isk se d2 : Addr} {fr : List Fr4} {T : Int → Bool} {c : Nat} (F : Fc N su sc V V' sk isk se d2 fr T c) : fr.length ≤ N.length := by
  have nd : (fr.map fun f : Fr4 => f.1).Nodup := F.asc.imp fun h => Nat.ne_of_lt h
  have := nodup_sub_len (fr.map fun f : Fr4 => f.1) N nd fun x hx => by
    obtain ⟨f, hf, rfl⟩ := List.mem_map.mp hx
    exact F.mem f hf
  rwa [List.length_map] at this
theorem noU {V V1 : View} {a b : Addr} {z : AObj} (h : V1 = upd V a z) (hb : V1 b = none) : V b = none := by
  subst h
  by_cases e : b = a
  · rw [e, upd_eq] at hb; cases hb
  · rwa [upd_ne e] at hb
/-- the search's names -/
structure Lc (m : Loc) (nd sk isk se d2 : Addr) : Prop where
  n2i : m (Str.ofString "n2i") = some (.ref nd)
  stack : m (Str.ofString "stack") = some (.ref sk)
  itstack : m (Str.ofString "itstack") = some (.ref isk)
  seen : m (Str.ofString "seen") = some (.ref se)
  n2s : m (Str.ofString "node2stacki") = some (.ref d2)
section
variable {w : World} {G : Gd w} {f₀ : Addr × FK} {fs : Frs} {W V V' : View} {s s' : Shared} {l a b x : Addr} {A : Around} {E : Value → Shared → Prop} {Q : Value → Shared → Prop} {q : SQ} {n : Nat}
theorem fcyc_c {outer : List Env} (r : Rm A 5) (S : SS G (f₀ :: fs) V s) (T : Srt W V x q) (hA : A.frames = some outer) (hout : ∀ y ∈ outer, y.scope.kind ≠ .module ∧ ∃ L lv, y.frame = some L ∧ (L, FK.loc lv) ∈ f₀ :: fs)
    (hN : q.N.length < 100) (hsc : ∀ n ∈ q.N, (q.sc n).length < 100 ∧ ∀ c ∈ q.sc n, c ∈ q.N ∧ n < c) (h : ∀ s', SS G (f₀ :: fs) V s' → Q .none s') :
    wpAny (model PP w) A (call (.ref 197) [.ref x]) Q E s := by
  refine enter [(Str.ofString "self", .ref x)] S (by k_is) (by k_is) r.room (BindsTo.of_eq rfl) (locs rfl) (by decide) rfl rfl rfl ?_
  intro L s₁ S₁
  simp only [lvOf, List.foldl, er] at S₁
  have r' : ∀ env, Rm (A.deeper env) 4 := fun _ => r.deeper
  have hA' : ∀ env, (A.deeper env).frames = some (env :: outer) := fun _ => Around.frames_deeper hA
  with_reducible refine cons_hid ?_; intro _ _
  refine wpAny_Assign_Name ?_
  refine Attribute_any_ ?_
  refine nm_r (by assumption) (by walk_at "lk") ?_
  refine ga (by assumption) T.self T.atts (by k_is) (by k_is) (by k_is) (by k_is) rfl rfl ?_
  intro v s2 hv S2
  rw [er_ref hv]
  refine sto (by assumption) ?_; intro _ _
  with_reducible refine Hid.out (by assumption) ?_
  with_reducible refine cons_hid ?_; intro _ _
  refine wpAny_Assign_Name ?_
  refine disp_il ?_
  with_reducible refine wpAny_items_nil ?_
  refine ⟨G, _, _, _, [], by assumption, .nil, by decide, ?_⟩
  intro sk s3 hsk S3
  refine sto (by assumption) ?_; intro _ _
  with_reducible refine Hid.out (by assumption) ?_
  with_reducible refine cons_hid ?_; intro _ _
  refine wpAny_Assign_Name ?_
  refine disp_rl ?_
  with_reducible refine wpAny_items_nil ?_
  refine ⟨G, _, _, _, [], by assumption, rfl, by decide, ?_⟩
  intro isk s4 hisk S4
  refine sto (by assumption) ?_; intro _ _
  with_reducible refine Hid.out (by assumption) ?_
  with_reducible refine cons_hid ?_; intro _ _
  refine wpAny_Assign_Name ?_
  refine wpAny_Call_NameR ?_
  refine nm_b (by assumption) (by k_is) (by walk_at "bt") (by decide +kernel) ?_
  refine PyProof.Rows.callWith_type0 ?_
  refine set_new (by assumption) ?_
  intro se s5 hse S5
  refine sto (by assumption) ?_; intro _ _
  with_reducible refine Hid.out (by assumption) ?_
  with_reducible refine cons_hid ?_; intro _ _
  refine wpAny_Assign_Name ?_
  refine dnew (ao := .idict []) (by assumption) rfl ?_
  intro d2 s6 hd2 S6
  refine sto (by assumption) ?_; intro _ _
  with_reducible refine Hid.out (by assumption) ?_
  with_reducible refine cons_hid ?_; intro _ _
  refine wpAny_For ?_
  refine nm_r (by assumption) (by walk_at "lk") ?_
  clear S₁ S2 S3 S4 S5 S6
  rename_i S6 _ _
  have neq : ∀ {a b : Addr} {V : View} {y : AObj}, V a = some y → V b = none → a ≠ b := fun h1 h2 e => by rw [e, h2] at h1; cases h1
  have hisk0 := hisk
  have hse0 := hse
  have hd20 := hd2
  have e1 : isk ≠ sk := fun e => by rw [e, upd_eq] at hisk; cases hisk
  rw [upd_ne e1] at hisk
  have e2 : se ≠ isk := fun e => by rw [e, upd_eq] at hse; cases hse
  rw [upd_ne e2] at hse
  have e3 : se ≠ sk := fun e => by rw [e, upd_eq] at hse; cases hse
  rw [upd_ne e3] at hse
  have e4 : d2 ≠ se := fun e => by rw [e, upd_eq] at hd2; cases hd2
  rw [upd_ne e4] at hd2
  have e5 : d2 ≠ isk := fun e => by rw [e, upd_eq] at hd2; cases hd2
  rw [upd_ne e5] at hd2
  have e6 : d2 ≠ sk := fun e => by rw [e, upd_eq] at hd2; cases hd2
  rw [upd_ne e6] at hd2
  have hnd := T.dict
  have n1 : q.nd ≠ sk := neq hnd hsk
  have n2 : q.nd ≠ isk := neq hnd hisk
  have n3 : q.nd ≠ se := neq hnd hse
  have n4 : q.nd ≠ d2 := neq hnd hd2
  obtain ⟨o, ho, S7⟩ := S6.toRaw (a := q.nd) (by rw [upd_ne n4, upd_ne n3, upd_ne n2, upd_ne n1]; exact hnd)
  have F0 : Fc q.N q.su q.sc (upd V q.nd (.raw o)) (upd (upd (upd (upd (upd V sk (.ilist [])) isk (.rlist [])) se (.iset (fun _ => false) 0)) d2 (.idict [])) q.nd (.raw o)) sk isk se d2 [] (fun _ => false) 0 := by
    have k : ∀ {b}, V b = none → b ≠ q.nd → upd V q.nd (.raw o) b = none := fun h1 h2 => (upd_ne h2).trans h1
    exact {
      sub := fun a ao h => by
        by_cases e : a = q.nd
        · subst e; rw [upd_eq] at h ⊢; exact h
        · rw [upd_ne e] at h ⊢
          rw [upd_ne (neq h hd2), upd_ne (neq h hse), upd_ne (neq h hisk), upd_ne (neq h hsk)]; exact h
      vsk := k hsk n1.symm
      visk := k hisk n2.symm
      vse := k hse n3.symm
      vd2 := k hd2 n4.symm
      sk := by rw [upd_ne n1.symm, upd_ne e6.symm, upd_ne e3.symm, upd_ne e1.symm]; exact upd_eq
      isk := by rw [upd_ne n2.symm, upd_ne e5.symm, upd_ne e2.symm]; exact upd_eq
      se := by rw [upd_ne n3.symm, upd_ne e4.symm]; exact upd_eq
      d2 := by rw [upd_ne n4.symm]; exact upd_eq
      its := fun f hf => nomatch hf
      nd := .nil
      seen := fun f hf => nomatch hf
      mem := fun f hf => nomatch hf
      asc := .nil
      cnt := by simp [unsc] }
  have hinfo : ∀ n ∈ q.N, upd V q.nd (.raw o) (q.ni n) = some (infoOf q n) := fun n hn => (upd_ne fun e => by have := T.info n hn; rw [e, hnd] at this; cases this).trans (T.info n hn)
  have hidc : ∀ n ∈ q.N, upd V q.nd (.raw o) (q.di n) = some (.atd []) := fun n hn => (upd_ne fun e => by have := T.idc n hn; rw [e, hnd] at this; cases this).trans (T.idc n hn)
  have hsuc : ∀ n ∈ q.N, upd V q.nd (.raw o) (q.su n) = some (.ilist ((q.sc n).map Int.ofNat)) := fun n hn => (upd_ne fun e => by have := T.succ n hn; rw [e, hnd] at this; cases this).trans (T.succ n hn)
  have hback : ∀ {V' : View} {s' : Shared}, (∀ a ao, upd V q.nd (.raw o) a = some ao → V' a = some ao) → SS G (f₀ :: fs) V' s' → SS G (f₀ :: fs) V s' := fun hsub S => by
    have := (S.weak hsub).ofRaw (a := q.nd) upd_eq ho
    rwa [upd_upd, upd_same hnd] at this
  have hnd0 : upd V q.nd (.raw o) q.nd = some (.raw o) := upd_eq
  have hNd := T.nd
  generalize upd (upd (upd (upd (upd V sk (.ilist [])) isk (.rlist [])) se (.iset (fun _ => false) 0)) d2 (.idict [])) q.nd (.raw o) = V7 at S7 F0
  generalize upd V q.nd (.raw o) = V0 at *
  clear S S6
  refine for_dk (r' _) S7 (F0.sub _ _ hnd0) ho (fun i m V' => ∃ T c, Fc q.N q.su q.sc V0 V' sk isk se d2 [] T c ∧ Lc m q.nd sk isk se d2) ⟨_, _, F0, by walk_at "lk", by walk_at "lk", by walk_at "lk", by walk_at "lk", by walk_at "lk"⟩ (fun i m V' ⟨T, c, F, _⟩ => F.sub _ _ hnd0) ?_ ?_
  · clear S7 F0
    rintro i m V' t it s8 hi ⟨T, c, F, m1⟩ S8
    rw [List.length_map] at hi
    obtain ⟨n, hn⟩ : ∃ n, q.N[i]? = some n := ⟨_, List.getElem?_eq_getElem hi⟩
    have hnN : n ∈ q.N := List.mem_of_getElem? hn
    have hval : ((q.N.map fun n : Nat => ((n : Int), q.ni n)).map (·.1)).getD i 0 = (n : Int) := by rw [List.map_map, List.getD_eq_getElem?_getD, List.getElem?_map, hn]; rfl
    rw [hval]
    obtain ⟨m1, m2, m3, m4, m5⟩ := m1
    have hc := F.cnt
    with_reducible refine wpAny_assign_Name ?_
    refine sto (by assumption) ?_; intro _ _
    with_reducible refine cons_hid ?_; intro _ _
    with_reducible refine wpAny_If ?_
    refine wpAny_isTrue_Compare1 ?_
    refine nm_i (by assumption) (by walk_at "lk") ?_; intro _
    refine nm_r (by assumption) (by walk_at "lk") ?_
    refine set_in (by assumption) F.se (by omega) ?_
    intro s9 S9
    cases hT : T (n : Int) with
    | true =>
      with_reducible refine wpAny_truthy_bool ?_
      with_reducible refine ifT ?_
      with_reducible refine cons_hid ?_; intro _ _
      with_reducible refine wpAny_Continue ?_
      with_reducible refine Hid.out (by assumption) ?_
      with_reducible refine Hid.out (by assumption) ?_
      exact ⟨_, _, ⟨T, c, F, by walk_at "lk", by walk_at "lk", by walk_at "lk", by walk_at "lk", by walk_at "lk"⟩, S9⟩
    | false =>
      with_reducible refine wpAny_truthy_bool ?_
      with_reducible refine ifF ?_
      with_reducible refine wpAny_execs_nil ?_
      with_reducible refine Hid.out (by assumption) ?_
      with_reducible refine cons_hid ?_; intro _ _
      refine whl (fun k s => ∃ m V' fr T c, ∃ n : Nat, SS G ((L, .loc m) :: it :: f₀ :: fs) V' s ∧ Fc q.N q.su q.sc V0 V' sk isk se d2 fr T c ∧ Lc m q.nd sk isk se d2 ∧ m (Str.ofString "node") = some (.int n 0) ∧ n ∈ q.N ∧ (∀ f ∈ fr, f.1 < n) ∧ (∀ f ∈ fr, f.2.1 ≤ (q.sc f.1).length) ∧ k = unsn q.sc T q.N + rest4 q.sc fr) _
        ⟨_, _, [], T, c, n, S9, F, ⟨by walk_at "lk", by walk_at "lk", by walk_at "lk", by walk_at "lk", by walk_at "lk"⟩, by walk_at "lk", hnN, (fun _ h => nomatch h), (fun _ h => nomatch h), rfl⟩ ?_
      clear S8 S9 F hval hnN hn hi hc m1 m2 m3 m4 m5 hT
      rintro k s ⟨m, V', fr, T, c, n, S, F, ⟨m1, m2, m3, m4, m5⟩, m6, hnN, hlt, hle, rfl⟩
      have hc := F.cnt
      have hfl := F.len
      refine wpAny_isTrue_value ?_
      with_reducible refine wpAny_Constant_bool ?_
      with_reducible refine wpAny_truthy_bool ?_
      with_reducible refine ifT ?_
      with_reducible refine cons_hid ?_; intro _ _
      refine join (fun s => ∃ m V' fr' T' c', SS G ((L, .loc m) :: it :: f₀ :: fs) V' s ∧ Fc q.N q.su q.sc V0 V' sk isk se d2 fr' T' c' ∧ Lc m q.nd sk isk se d2 ∧ (∀ f ∈ fr', f.2.1 ≤ (q.sc f.1).length) ∧ unsn q.sc T' q.N + rest4 q.sc fr' ≤ unsn q.sc T q.N + rest4 q.sc fr) ?_ ?_
      · with_reducible refine wpAny_If ?_
        refine wpAny_isTrue_Compare1 ?_
        refine nm_i (by assumption) (by walk_at "lk") ?_; intro _
        refine nm_r (by assumption) (by walk_at "lk") ?_
        refine set_in (by assumption) F.se (by omega) ?_
        intro s9 S9
        cases hT : T (n : Int) with
        | true =>
          with_reducible refine wpAny_truthy_bool ?_
          with_reducible refine ifT ?_
          with_reducible refine cons_hid ?_; intro _ _
          with_reducible refine wpAny_If ?_
          refine wpAny_isTrue_Compare1 ?_
          refine nm_i (by assumption) (by walk_at "lk") ?_; intro _
          refine nm_r (by assumption) (by walk_at "lk") ?_
          refine din (by assumption) F.d2 rfl ?_
          rw [valueAt_prs_no hlt, Option.isSome_none]
          intro s10 S10
          with_reducible refine wpAny_truthy_bool ?_
          with_reducible refine ifF ?_
          with_reducible refine wpAny_execs_nil ?_
          with_reducible refine Hid.out (by assumption) ?_
          with_reducible refine wpAny_execs_nil ?_
          exact ⟨rfl, _, _, fr, T, c, S10, F, ⟨by walk_at "lk", by walk_at "lk", by walk_at "lk", by walk_at "lk", by walk_at "lk"⟩, hle, Nat.le_refl _⟩
        | false =>
          with_reducible refine wpAny_truthy_bool ?_
          with_reducible refine ifF ?_
          with_reducible refine cons_hid ?_; intro _ _
          refine wpAny_Expr_any ?_
          refine MethodCall_ ?_
          refine nm_r (by assumption) (by walk_at "lk") ?_
          refine set_met (by assumption) F.se (by omega) ?_
          refine callWith_method1 ?_
          refine wpAny_items_cons ?_
          refine nm_i (by assumption) (by walk_at "lk") ?_; intro _
          with_reducible refine wpAny_items_nil ?_
          refine set_add (by assumption) F.se (by omega) hT ?_
          intro s10 S10
          have nes : ∀ {a : Addr} {y z : AObj}, V' a = some y → (∀ T c, y ≠ .iset T c) → upd V' se z a = some y := fun h1 h2 => (upd_ne fun e => h2 _ _ (by rw [e, F.se] at h1; exact (Option.some.inj h1).symm)).trans h1
          have k1 := nes (z := .iset (fun k => T k || decide (k = (n : Int))) (c + 1)) (F.sub _ _ (hinfo n hnN)) (by intros; nofun)
          have k2 := nes (z := .iset (fun k => T k || decide (k = (n : Int))) (c + 1)) (F.sub _ _ (hidc n hnN)) (by intros; nofun)
          have k3 := nes (z := .iset (fun k => T k || decide (k = (n : Int))) (c + 1)) (F.sub _ _ (hsuc n hnN)) (by intros; nofun)
          have k4 := nes (z := .iset (fun k => T k || decide (k = (n : Int))) (c + 1)) (F.sub _ _ hnd0) (by intros; nofun)
          have k5 := nes (z := .iset (fun k => T k || decide (k = (n : Int))) (c + 1)) F.isk (by intros; nofun)
          have k6 := nes (z := .iset (fun k => T k || decide (k = (n : Int))) (c + 1)) F.sk (by intros; nofun)
          have k7 := nes (z := .iset (fun k => T k || decide (k = (n : Int))) (c + 1)) F.d2 (by intros; nofun)
          obtain ⟨V1, hV1⟩ : ∃ V1, V1 = upd V' se (.iset (fun k => T k || decide (k = (n : Int))) (c + 1)) := ⟨_, rfl⟩
          rw [← hV1] at S10 k1 k2 k3 k4 k5 k6 k7
          with_reducible refine Hid.out (by assumption) ?_
          with_reducible refine cons_hid ?_; intro _ _
          refine wpAny_Expr_any ?_
          refine MethodCall_ ?_
          refine nm_r (by assumption) (by walk_at "lk") ?_
          refine met_rl (by assumption) k5 PySem.F.slot_list_append PySem.F.type_list_append ?_
          refine callWith_method1 ?_
          refine wpAny_items_cons ?_
          refine Attribute_any_ ?_
          refine wpAny_Call_NameR ?_
          refine nm_b (by assumption) (by k_is) (by walk_at "bt") (by decide +kernel) ?_
          refine callWith_method1 ?_
          refine wpAny_items_cons ?_
          refine Attribute_any_ ?_
          with_reducible refine Subscript_ ?_
          refine nm_r (by assumption) (by walk_at "lk") ?_
          refine nm_i (by assumption) (by walk_at "lk") ?_; intro _
          refine ditemR (by assumption) k4 ho rfl (valueAt_nodes hnN) ?_
          intro v11 s11 hv11 S11
          rw [er_ref hv11]
          skip
          refine gs (by assumption) k1 k2 (by k_is) (by k_is) (by k_is) (by k_is) (by k_is) (by k_is) rfl rfl ?_
          intro v12 s12 hv12 S12
          rw [er_ref hv12]
          with_reducible refine wpAny_items_nil ?_
          refine iter_il (by assumption) k3 ?_
          intro itn s13 hitn S13
          skip
          refine nx_get (by assumption) upd_eq ?_
          intro mw s14 hmw S14
          rw [upd_upd] at S14
          have hne : mw ≠ itn := fun e => by rw [e, upd_eq] at hmw; cases hmw
          rw [upd_ne hne] at hmw
          clear S13 S12 S11 S10 S9
          with_reducible refine wpAny_items_nil ?_
          have w1 : ∀ {a : Addr} {y : AObj}, V1 a = some y → upd (upd V1 itn (liV (q.su n) 0)) mw (mwV itn) a = some y := fun h1 => upd_old (by rw [upd_ne hne]; exact hmw) (upd_old hitn h1)
          have k5 := w1 k5
          have k6 := w1 k6
          have k7 := w1 k7
          obtain ⟨V2, hV2⟩ : ∃ V2, V2 = upd (upd V1 itn (liV (q.su n) 0)) mw (mwV itn) := ⟨_, rfl⟩
          rw [← hV2] at S14 k5 k6 k7
          refine app_rl (by assumption) k5 (by rw [List.length_map]; omega) ?_
          intro s15 S15
          have ai : ∀ {a : Addr} {y z : AObj}, V2 a = some y → (∀ l, y ≠ .rlist l) → upd V2 isk z a = some y := fun h1 h2 => (upd_ne fun e => h2 _ (by rw [e, k5] at h1; exact (Option.some.inj h1).symm)).trans h1
          have k6 := ai (z := .rlist (fr.map (·.2.2.2) ++ [mw])) k6 (by intros; nofun)
          have k7 := ai (z := .rlist (fr.map (·.2.2.2) ++ [mw])) k7 (by intros; nofun)
          obtain ⟨V3, hV3⟩ : ∃ V3, V3 = upd V2 isk (.rlist (fr.map (·.2.2.2) ++ [mw])) := ⟨_, rfl⟩
          rw [← hV3] at S15 k6 k7
          with_reducible refine Hid.out (by assumption) ?_
          with_reducible refine cons_hid ?_; intro _ _
          refine wpAny_Assign_Subscript ?_
          refine wpAny_Call_NameR ?_
          refine nm_b (by assumption) (by k_is) (by walk_at "bt") (by decide +kernel) ?_
          refine callWith_method1 ?_
          refine wpAny_items_cons ?_
          refine nm_r (by assumption) (by walk_at "lk") ?_
          with_reducible refine wpAny_items_nil ?_
          refine len_il (by assumption) k6 (by rw [List.length_map]; omega) ?_
          intro t16 s16 S16
          rw [List.length_map]
          refine nm_r (by assumption) (by walk_at "lk") ?_
          refine nm_i (by assumption) (by walk_at "lk") ?_; intro _
          refine dset (ao' := .idict (prs fr ++ [((n : Int), (fr.length : Int))])) (by assumption) k7 rfl (by show _ = some (stored _ _ (.int _ 0)); rw [stored_prs hlt]; rfl) (by rw [List.length_map, prs_len]; omega) ?_
          intro s17 S17
          have k6 : upd V3 d2 (.idict (prs fr ++ [((n : Int), (fr.length : Int))])) sk = some (.ilist (fr.map fun f => (f.1 : Int))) := (upd_ne fun e => by rw [e, k7] at k6; cases k6).trans k6
          with_reducible refine Hid.out (by assumption) ?_
          with_reducible refine cons_hid ?_; intro _ _
          refine wpAny_Expr_any ?_
          refine MethodCall_ ?_
          refine nm_r (by assumption) (by walk_at "lk") ?_
          refine met_il (by assumption) k6 PySem.F.slot_list_append PySem.F.type_list_append ?_
          refine callWith_method1 ?_
          refine wpAny_items_cons ?_
          refine nm_i (by assumption) (by walk_at "lk") ?_; intro _
          with_reducible refine wpAny_items_nil ?_
          refine app_il (by assumption) k6 (by rw [List.length_map]; omega) ?_
          intro s18 S18
          with_reducible refine Hid.out (by assumption) ?_
          with_reducible refine wpAny_execs_nil ?_
          have F2 := F.push (V1 := upd (upd V3 d2 (.idict (prs fr ++ [((n : Int), (fr.length : Int))]))) sk (.ilist (fr.map (fun f => (f.1 : Int)) ++ [(n : Int)]))) hNd hnN hT hlt (noU hV1 hitn) (noU hV1 hmw) hne (by rw [hV3, hV2, hV1])
          refine ⟨rfl, _, _, fr ++ [(n, 0, itn, mw)], _, _, S18, F2, ⟨by walk_at "lk", by walk_at "lk", by walk_at "lk", by walk_at "lk", by walk_at "lk"⟩, ?_, ?_⟩
          · intro f hf
            rcases List.mem_append.mp hf with hf | hf
            · exact hle f hf
            · rw [List.mem_singleton] at hf; subst hf; exact Nat.zero_le _
          · have e1 := unsn_add (sc := q.sc) hNd hnN hT
            have e2 : rest4 q.sc (fr ++ [(n, 0, itn, mw)]) = rest4 q.sc fr + (q.sc n).length := by simp [rest4]
            omega
      · clear S F m1 m2 m3 m4 m5 m6 hle hlt hc hfl
        obtain ⟨K, hK⟩ : ∃ K, K = unsn q.sc T q.N + rest4 q.sc fr := ⟨_, rfl⟩
        rw [← hK]
        rintro s ⟨m, V', fr', T', c', S, F, ⟨m1, m2, m3, m4, m5⟩, hle, hK'⟩
        with_reducible refine Hid.out (by assumption) ?_
        with_reducible refine cons_hid ?_; intro _ _
        refine whl (fun j s => ∃ m V' fr T c, SS G ((L, .loc m) :: it :: f₀ :: fs) V' s ∧ Fc q.N q.su q.sc V0 V' sk isk se d2 fr T c ∧ Lc m q.nd sk isk se d2 ∧ (∀ f ∈ fr, f.2.1 ≤ (q.sc f.1).length) ∧ unsn q.sc T q.N + rest4 q.sc fr ≤ K ∧ j = fr.length) _
          ⟨_, V', fr', T', c', S, F, ⟨m1, m2, m3, m4, m5⟩, hle, by omega, rfl⟩ ?_
        clear S F m1 m2 m3 m4 m5 hle hK'
        rintro j s ⟨m, V', fr, T, c, S, F, ⟨m1, m2, m3, m4, m5⟩, hle, hK', rfl⟩
        have hc := F.cnt
        have hfl := F.len
        refine wpAny_isTrue_value ?_
        refine nm_r (by assumption) (by walk_at "lk") ?_
        refine tru_il (by assumption) F.sk (by rw [List.length_map]; omega) ?_
        intro s9 S9
        rcases List.eq_nil_or_concat fr with rfl | ⟨fr0, f, rfl⟩
        · rw [show (!(List.map (fun f : Fr4 => (f.1 : Int)) []).isEmpty) = false from rfl]
          with_reducible refine ifF ?_
          with_reducible refine cons_hid ?_; intro _ _
          with_reducible refine wpAny_Break ?_
          with_reducible refine Hid.out (by assumption) ?_
          with_reducible refine Hid.out (by assumption) ?_
          with_reducible refine Hid.out (by assumption) ?_
          with_reducible refine wpAny_execs_nil ?_
          exact ⟨_, _, ⟨T, c, F, m1, m2, m3, m4, m5⟩, S9⟩
        · rw [List.concat_eq_append] at *
          rw [show (!(List.map (fun f : Fr4 => (f.1 : Int)) (fr0 ++ [f])).isEmpty) = true from by simp]
          with_reducible refine ifT ?_
          with_reducible refine cons_hid ?_; intro _ _
          refine wpAny_Try_except ?_
          with_reducible refine cons_hid ?_; intro _ _
          refine wpAny_Assign_Name ?_
          refine Call_any ?_
          with_reducible refine Subscript_ ?_
          refine nm_r (by assumption) (by walk_at "lk") ?_
          with_reducible refine wpAny_UnaryOp ?_
          with_reducible refine c_int (by assumption) ?_; intro _ _ _
          with_reducible refine neg_i (by assumption) ?_; intro _ _ _
          have hf := F.its f (List.mem_append_right _ (.head _))
          have hmem := F.mem f (List.mem_append_right _ (.head _))
          have hisk' : V' isk = some (.rlist (fr0.map (·.2.2.2) ++ [f.2.2.2])) := by have := F.isk; rw [List.map_append] at this; exact this
          have hsk' : V' sk = some (.ilist (fr0.map (fun f => (f.1 : Int)) ++ [(f.1 : Int)])) := by have := F.sk; rw [List.map_append] at this; exact this
          have hsu := F.sub _ _ (hsuc f.1 hmem)
          rw [List.length_append, List.length_singleton] at hfl
          refine sub_last (by assumption) hisk' (by rw [List.length_map]; omega) ?_
          refine callWith_mw (by assumption) hf.1 ?_
          have hlt0 : ∀ g ∈ fr0, g.1 < f.1 := fun g hg => by
            have := F.asc
            rw [List.map_append, List.pairwise_append] at this
            exact this.2.2 g.1 (List.mem_map_of_mem (f := fun f : Fr4 => f.1) hg) f.1 (by simp)
          cases hx : (q.sc f.1)[f.2.1]? with
          | some ch =>
            have hcm := (hsc f.1 hmem).2 ch (List.mem_of_getElem? hx)
            have hxl : f.2.1 < (q.sc f.1).length := (List.getElem?_eq_some_iff.mp hx).1
            refine nx_item (n := (ch : Int)) (by assumption) hf.1 hf.2.1 hsu (by rw [List.getElem?_map, hx]; rfl) ?_
            intro t10 s10 S10
            refine sto (by assumption) ?_; intro _ _
            with_reducible refine Hid.out (by assumption) ?_
            with_reducible refine cons_hid ?_; intro _ _
            with_reducible refine wpAny_Break ?_
            with_reducible refine Hid.out (by assumption) ?_
            with_reducible refine Hid.out (by assumption) ?_
            with_reducible refine Hid.out (by assumption) ?_
            with_reducible refine wpAny_execs_nil ?_
            have e2 : ∀ k, rest4 q.sc (fr0 ++ [(f.1, k, f.2.2.1, f.2.2.2)]) = rest4 q.sc fr0 + ((q.sc f.1).length - k) := fun k => by simp [rest4]
            have e3 := e2 f.2.1
            have e4 := e2 (f.2.1 + 1)
            have e5 : rest4 q.sc (fr0 ++ [f]) = rest4 q.sc (fr0 ++ [(f.1, f.2.1, f.2.2.1, f.2.2.2)]) := rfl
            refine ⟨unsn q.sc T q.N + rest4 q.sc (fr0 ++ [(f.1, f.2.1 + 1, f.2.2.1, f.2.2.2)]), by omega, _, _, _, T, c, ch, by assumption, F.step, ⟨by walk_at "lk", by walk_at "lk", by walk_at "lk", by walk_at "lk", by walk_at "lk"⟩, by walk_at "lk", hcm.1, ?_, ?_, rfl⟩
            · intro g hg
              rcases List.mem_append.mp hg with hg | hg
              · exact Nat.lt_trans (hlt0 g hg) hcm.2
              · rw [List.mem_singleton] at hg; subst hg; exact hcm.2
            · intro g hg
              rcases List.mem_append.mp hg with hg | hg
              · exact hle g (List.mem_append_left _ hg)
              · rw [List.mem_singleton] at hg; subst hg; exact hxl
          | none =>
            refine nx_end (r' _).h (by assumption) hf.1 hf.2.1 hsu (by rw [List.getElem?_map, hx]; rfl) ?_
            intro e s10 oe vs a0 S10 he1 he2 he3 he4 he5 he6 he7 he8
            refine caughtS (hA' _) rfl ?_ S10 he1 he2 he3 he4 he5 he6 (by by_cases qe : e = f.2.2.1; (rw [qe]; exact vdel_eq); (rw [vdel_ne qe]; exact he7)) he8 ?_
            · intro y hy
              rcases List.mem_cons.mp hy with rfl | hy
              · exact ⟨(by intro q; cases q), L, _, rfl, .head _⟩
              · obtain ⟨i1, L', lv, i2, i3⟩ := hout y hy
                exact ⟨i1, L', lv, i2, .tail _ (.tail _ i3)⟩
            · intro s11 S11
              clear S10 S9
              have nel : ∀ {a : Addr} {y : AObj}, V' a = some y → (∀ vs, y ≠ .fld "list_iterator" vs) → vdel V' f.2.2.1 a = some y := fun h1 h2 => (vdel_ne fun e => h2 _ (by rw [e, hf.2.1] at h1; exact (Option.some.inj h1).symm)).trans h1
              have g1 := nel hsk' nofun
              have g2 := nel hisk' nofun
              have g3 := nel F.d2 nofun
              have F2 := F.pop
              obtain ⟨Vd, hVd⟩ : ∃ Vd, Vd = vdel V' f.2.2.1 := ⟨_, rfl⟩
              rw [← hVd] at S11 g1 g2 g3 F2
              with_reducible refine cons_hid ?_; intro _ _
              refine wpAny_Delete ?_
              refine wpAny_deleteEach_cons ?_
              refine delete_Subscript ?_
              refine nm_r (by assumption) (by walk_at "lk") ?_
              refine MethodCall_ ?_
              refine nm_r (by assumption) (by walk_at "lk") ?_
              refine met_il (by assumption) g1 PySem.F.slot_list_pop PySem.F.type_list_pop ?_
              refine callWith_method0 ?_
              refine pop_il (by assumption) g1 (by rw [List.length_map]; omega) ?_
              intro t12 s12 S12
              have sd : sk ≠ d2 := fun e => by rw [e, g3] at g1; cases g1
              have sI : sk ≠ isk := fun e => by rw [e, g2] at g1; cases g1
              have di : d2 ≠ isk := fun e => by rw [e, g2] at g3; cases g3
              refine ddel (ao' := .idict (prs fr0)) (by assumption) ((upd_ne sd.symm).trans g3) rfl (by rw [without_prs hlt0]; rfl) (by rw [List.length_map, prs_len, List.length_append, List.length_singleton]; omega) (there_prs fr0 f) ?_
              intro s13 S13
              refine wpAny_deleteEach_nil ?_
              with_reducible refine Hid.out (by assumption) ?_
              with_reducible refine cons_hid ?_; intro _ _
              refine wpAny_Expr_any ?_
              refine MethodCall_ ?_
              refine nm_r (by assumption) (by walk_at "lk") ?_
              refine met_rl (by assumption) ((upd_ne di.symm).trans ((upd_ne sI.symm).trans g2)) PySem.F.slot_list_pop PySem.F.type_list_pop ?_
              refine callWith_method0 ?_
              refine pop_rl (by assumption) ((upd_ne di.symm).trans ((upd_ne sI.symm).trans g2)) (by rw [List.length_map]; omega) ?_
              intro s14 S14
              with_reducible refine Hid.out (by assumption) ?_
              with_reducible refine wpAny_execs_nil ?_
              with_reducible refine Hid.out (by assumption) ?_
              with_reducible refine wpAny_execs_nil ?_
              have e2 : rest4 q.sc (fr0 ++ [f]) = rest4 q.sc fr0 + ((q.sc f.1).length - f.2.1) := by simp [rest4]
              refine ⟨fr0.length, by rw [List.length_append, List.length_singleton]; omega, _, _, fr0, T, c, S14, F2, ⟨by walk_at "lk", by walk_at "lk", by walk_at "lk", by walk_at "lk", by walk_at "lk"⟩, fun g hg => hle g (List.mem_append_left _ hg), by omega, rfl⟩
  · clear S7 F0
    rintro m V' s8 ⟨T, c, F, m1⟩ S8
    with_reducible refine wpAny_execs_nil ?_
    with_reducible refine Hid.out (by assumption) ?_
    with_reducible refine cons_hid ?_; intro _ _
    with_reducible refine wpAny_Return_some ?_
    with_reducible refine wpAny_Constant_none ?_
    with_reducible refine Hid.out (by assumption) ?_
    exact h _ (hback F.sub (SS.pop (by assumption)))
end
section
variable {w : World} {G : Gd w} {f₀ : Addr × FK} {fs : Frs} {W V V' : View} {s s' : Shared} {l a b d x : Addr} {A : Around} {E : Value → Shared → Prop} {Q : Value → Shared → Prop} {q : SQ} {n : Nat}
/-- d.values() of a dict that is known as an object -/
theorem dvals {o : Obj} {kvs : List (Int × Addr)} (S : SS G (f₀ :: fs) V s) (hV : V d = some (.raw o)) (ho : (AObj.rdict kvs).Is w o) (h : ∀ b s', V b = none → SS G (f₀ :: fs) (upd V b (.fld "dict_values" #[.ref d])) s' → Q (.ref b) s') :
    wpAny (model PP w) A (call (.builtin "dict.values") [.ref d]) Q E s := by
  have S2 := S.ofRaw hV ho
  obtain ⟨kv', D, e⟩ := S2.dct upd_eq rfl
  exact call_meetsIn PySem.F.slot_dict_values D.typeIs PySem.F.entry_dict_values (PySem.F.args_dict_values_1 _) (meets_dict_values (intKind PP w) d (S.notSys hV)) ⟨⟨_, D⟩, h _ _ (S.fresh (Nat.le_refl _)) (S.new S.ge (Nat.le_refl _) rfl rfl (fun b o e => Heap.get?_push_of_some _ e) ⟨_, Heap.get?_push_size _ rfl, rfl, rfl⟩)⟩
theorem met_dR {name : Str} {id : String} {pl : Sem Bool} {Q : Value × List Value → Shared → Prop} {o : Obj} {kvs : List (Int × Addr)} (S : SS G fs V s) (hV : V d = some (.raw o)) (ho : (AObj.rdict kvs).Is w o) (slot : Slot "dict" name id) (hty : typeOf (.builtin id) = pure (.type "method_descriptor"))
    (h : Q (.builtin id, [.ref d]) s) : wpAny (model PP w) A (getMethod (.ref d) name pl) Q E s := by
  obtain ⟨kv', D, e⟩ := (S.ofRaw hV ho).dct upd_eq rfl
  exact getMethod_builtin D.typeIs PySem.F.plainAttrs_dict slot hty D.mapOf.noDict h
theorem prepare_c {outer : List Env} (r : Rm A 8) (S : SS G (f₀ :: fs) V s) (T : Srt W V x q) (hrd : q.rd = none) (hA : A.frames = some outer) (hout : ∀ y ∈ outer, y.scope.kind ≠ .module ∧ ∃ L lv, y.frame = some L ∧ (L, FK.loc lv) ∈ f₀ :: fs)
    (hN : q.N.length < 100) (hsc : ∀ n ∈ q.N, (q.sc n).length < 100 ∧ ∀ c ∈ q.sc n, c ∈ q.N ∧ n < c) (h : ∀ V' s' rl, Srt W V' x { q with rd := some (rl, q.N.filter fun n => decide (q.np n = 0)) } → SS G (f₀ :: fs) V' s' → Q .none s') :
    wpAny (model PP w) A (call (.ref 162) [.ref x]) Q E s := by
  refine enter [(Str.ofString "self", .ref x)] S (by k_is) (by k_is) r.room (BindsTo.of_eq rfl) (locs rfl) (by decide) rfl rfl rfl ?_
  intro L s₁ S₁
  simp only [lvOf, List.foldl, er] at S₁
  have r' : ∀ env, Rm (A.deeper env) 7 := fun _ => r.deeper
  have hA' : ∀ env, (A.deeper env).frames = some (env :: outer) := fun _ => Around.frames_deeper hA
  clear S
  with_reducible refine cons_hid ?_; intro _ _
  with_reducible refine wpAny_If ?_
  refine wpAny_isTrue_Compare1 ?_
  refine Attribute_any_ ?_
  refine nm_r (by assumption) (by walk_at "lk") ?_
  refine ga (by assumption) T.self T.atts (by k_is) (by k_is) (by k_is) (by k_is) rfl (by rw [hrd]; rfl) ?_
  intro v s2 hv S2
  have hv : v = .none := by rw [hrd] at hv; cases v <;> simp [er, rdV] at hv; rfl
  subst hv
  with_reducible refine wpAny_Constant_none ?_
  with_reducible refine PyProof.Rows.isnot_none_none ?_
  with_reducible refine wpAny_truthy_bool ?_
  with_reducible refine ifF ?_
  with_reducible refine wpAny_execs_nil ?_
  with_reducible refine Hid.out (by assumption) ?_
  with_reducible refine cons_hid ?_; intro _ _
  refine plainObj_wpAny_Assign_Attribute ?_
  refine lc_start [] rfl rfl (by decide) ?_
  refine MethodCall_ ?_
  refine Attribute_any_ ?_
  refine nm_r (by assumption) (by walk_at "lk") ?_
  refine ga (by assumption) T.self T.atts (by k_is) (by k_is) (by k_is) (by k_is) rfl rfl ?_
  intro v3 s3 hv3 S3
  rw [er_ref hv3]
  have hnd := T.dict
  obtain ⟨o, ho, S4⟩ := S3.toRaw hnd
  have hinfo : ∀ n ∈ q.N, upd V q.nd (.raw o) (q.ni n) = some (infoOf q n) := fun n hn => (upd_ne fun e => by have := T.info n hn; rw [e, hnd] at this; cases this).trans (T.info n hn)
  have hidc : ∀ n ∈ q.N, upd V q.nd (.raw o) (q.di n) = some (.atd []) := fun n hn => (upd_ne fun e => by have := T.idc n hn; rw [e, hnd] at this; cases this).trans (T.idc n hn)
  have hnd0 : upd V q.nd (.raw o) q.nd = some (.raw o) := upd_eq
  have hV0 : upd (upd V q.nd (.raw o)) q.nd (.rdict (q.N.map fun n : Nat => ((n : Int), q.ni n))) = V := by rw [upd_upd, upd_same hnd]
  obtain ⟨V0, eV0⟩ : ∃ V0, V0 = upd V q.nd (.raw o) := ⟨_, rfl⟩
  rw [← eV0] at S4 hinfo hidc hnd0 hV0
  clear S3 S2
  refine met_dR (by assumption) hnd0 ho PySem.F.slot_dict_values PySem.F.type_dict_values ?_
  refine callWith_method0 ?_
  refine dvals (by assumption) hnd0 ho ?_
  intro vw s5 hvw S5
  obtain ⟨h1, es, ep, kv', h2, h3, h4, h5, h6⟩ := id ho
  have at_ : ∀ {V s fs}, SS G fs V s → V q.nd = some (.raw o) → s.heap.DictAt (intKind PP w) q.nd kv' ep := fun S hV => by
    obtain ⟨o', ho2, e⟩ := S.see q.nd _ hV
    have e : o' = o := e
    rw [e] at ho2
    exact ⟨_, es, ho2, h1, h2, h3, h4, h5⟩
  have hlen : kv'.length = q.N.length := by rw [h6]; simp
  have hvw5 : upd V0 vw (.fld "dict_values" #[.ref q.nd]) q.nd = some (.raw o) := upd_old hvw hnd0
  obtain ⟨ov, hov, hov1, hov2⟩ := S5.see vw _ upd_eq
  refine wpAny_pyIter_values ⟨ov, hov, hov1, hov2⟩ (at_ S5 hvw5) ?_
  have hne : q.nd ≠ s5.heap.objs.size := Nat.ne_of_lt (at_ S5 hvw5).lt_size
  have S5' := S5.forget hvw
  have hit0 : (AObj.fld "dict_valueiterator" #[.ref q.nd, .int (0 : Nat) 0, .int kv'.length 0, .int ep 0]).At w (s5.heap.push { cls := .type "dict_valueiterator", data := .fields #[.ref q.nd, .int 0 0, .int kv'.length 0, .int ep 0] }) s5.heap.objs.size := ⟨_, Heap.get?_push_size _ rfl, rfl, rfl⟩
  refine comp_gen (Walks.dictValues (knd := intKind PP w) (r' _).h s5.heap.objs.size q.nd hne kv' ep) (fun i => .fld "dict_valueiterator" #[.ref q.nd, .int (i : Nat) 0, .int kv'.length 0, .int ep 0]) (fun i V₀ ao => V₀ = V0 ∧ ao = .ilist (((q.N.take i).filter fun n => decide (q.np n = 0)).map Int.ofNat))
    (fun i V₀ ao V s fs' ⟨hj, _⟩ hs S' hm => ⟨(S'.frames _ hm).1, at_ S' (hs _ _ (by rw [hj]; exact hnd0))⟩) (fun i h hs => hs.1) (by decide) rfl rfl
    (S5'.pinNew (Nat.le_refl _) rfl rfl (fun b o e => Heap.get?_push_of_some _ e) hit0) (.inl ⟨rfl, rfl⟩) (fun i V₀ ao ⟨_, h⟩ q => by rw [h]; nofun) ?_ ?_
  · rintro i V₀ ao m v s C D hi ⟨k, hk⟩ ⟨rfl, rfl⟩ hD S6
    rw [hlen] at hi
    obtain ⟨n, hn⟩ : ∃ n, q.N[i]? = some n := ⟨_, List.getElem?_eq_getElem hi⟩
    have hnN : n ∈ q.N := List.mem_of_getElem? hn
    have hv : v = .ref (q.ni n) := by
      rw [h6, List.getElem?_map, List.getElem?_map, hn] at hk
      simp only [Option.map_some, Option.some.injEq, Prod.mk.injEq] at hk
      exact hk.2.symm
    subst hv
    have htk : q.N.take (i + 1) = q.N.take i ++ [n] := by rw [List.take_add_one, hn]; rfl
    have j1 : upd V₀ D (.ilist (((q.N.take i).filter fun n => decide (q.np n = 0)).map Int.ofNat)) (q.ni n) = _ := upd_old hD (hinfo n hnN)
    have j2 : upd V₀ D (.ilist (((q.N.take i).filter fun n => decide (q.np n = 0)).map Int.ofNat)) (q.di n) = _ := upd_old hD (hidc n hnN)
    refine wpAny_tests_one ?_
    refine wpAny_isTrue_Compare1 ?_
    refine Attribute_any_ ?_
    refine nm_r (by assumption) (by walk_at "lk") ?_
    refine gs (by assumption) j1 j2 (by k_is) (by k_is) (by k_is) (by k_is) (by k_is) (by k_is) rfl rfl ?_
    intro v7 s7 hv7 S7
    obtain ⟨t7, rfl⟩ := er_int hv7
    with_reducible refine c_int (by assumption) ?_; intro _ _ _
    with_reducible refine P.eq_int ?_
    with_reducible refine wpAny_truthy_bool ?_
    split
    · rename_i hz
      have hz : q.np n = 0 := eq_of_beq hz
      refine Attribute_any_ ?_
      refine nm_r (by assumption) (by walk_at "lk") ?_
      refine gs (by assumption) j1 j2 (by k_is) (by k_is) (by k_is) (by k_is) (by k_is) (by k_is) rfl rfl ?_
      intro v8 s8 hv8 S8
      obtain ⟨t8, rfl⟩ := er_int hv8
      have hlz : ((q.N.take i).filter fun n => decide (q.np n = 0)).length ≤ q.N.length := Nat.le_trans (List.length_filter_le _ _) (by rw [List.length_take]; omega)
      refine app_il (by assumption) upd_eq (by rw [List.length_map]; omega) ?_
      intro s9 S9
      rw [upd_upd] at S9
      refine ⟨lup m (Str.ofString "i") (er (.ref (q.ni n))), V₀, _, ⟨rfl, rfl⟩, hD, ?_⟩
      rw [htk, List.filter_append, List.filter_cons_of_pos (by simp [hz]), List.filter_nil, List.map_append]
      exact S9
    · rename_i hz
      have hz : q.np n ≠ 0 := fun e => hz (by rw [e]; rfl)
      refine ⟨lup m (Str.ofString "i") (er (.ref (q.ni n))), V₀, _, ⟨rfl, rfl⟩, hD, ?_⟩
      rw [htk, List.filter_append, List.filter_cons_of_neg (by simp [hz]), List.filter_nil, List.append_nil]
      assumption
  · rintro V₀ ao D s6 ⟨rfl, rfl⟩ hD S6
    rw [List.take_of_length_le (by omega)] at S6
    have hDn : D ≠ q.nd := fun e => by rw [e, hnd0] at hD; cases hD
    have hVD : V D = none := by rw [← hV0, upd_ne hDn]; exact hD
    have S7 := S6.ofRaw (a := q.nd) (by rw [upd_ne hDn.symm]; exact hnd0) ho
    rw [upd_comm hDn, hV0] at S7
    have T1 : Srt W (upd V D (.ilist ((q.N.filter fun n => decide (q.np n = 0)).map Int.ofNat))) x q := T.new hVD
    have T2 := T1.setAtts (some (D, q.N.filter fun n => decide (q.np n = 0))) q.npass q.nfin (fun p hp => by
      cases hp
      refine ⟨upd_eq, ?_, fun n hn e => ?_⟩
      · cases i : W D with
        | none => rfl
        | some z => have := T.sub _ _ i; rw [hVD] at this; cases this
      · have := T.succ n hn
        rw [e, hVD] at this; cases this)
    clear S6 S5' S5 S4
    refine nm_r (by assumption) (by walk_at "lk") ?_
    refine sa (by assumption) T1.self T1.atts (by k_is) (by k_is) (by k_is) (by k_is) (by show 4 < 100; decide) ?_
    intro s8 S8
    have S8 : SS G ((L, .loc (lup (fun x => none) (Str.ofString "self") (Value.ref x))) :: f₀ :: fs) (upd (upd V D (.ilist ((q.N.filter fun n => decide (q.np n = 0)).map Int.ofNat))) q.dx (.atd (attsOf { q with rd := some (D, q.N.filter fun n => decide (q.np n = 0)) }))) s8 := by
      have e : putA (Str.ofString "_ready_nodes") (er (.ref D)) (attsOf q) = attsOf { q with rd := some (D, q.N.filter fun n => decide (q.np n = 0)) } := by rfl
      rw [← e]; exact S8
    have T2 : Srt W (upd (upd V D (.ilist ((q.N.filter fun n => decide (q.np n = 0)).map Int.ofNat))) q.dx (.atd (attsOf { q with rd := some (D, q.N.filter fun n => decide (q.np n = 0)) }))) x { q with rd := some (D, q.N.filter fun n => decide (q.np n = 0)) } := T2
    generalize upd (upd V D (.ilist ((q.N.filter fun n => decide (q.np n = 0)).map Int.ofNat))) q.dx _ = V3 at S8 T2
    with_reducible refine Hid.out (by assumption) ?_
    with_reducible refine cons_hid ?_; intro _ _
    refine wpAny_Assign_Name ?_
    refine MethodCall_ ?_
    refine nm_r (by assumption) (by walk_at "lk") ?_
    refine ma (by assumption) T2.self T2.atts (by k_is) (by k_is) (by k_is) rfl ?_
    refine callWith_K0 (SS.K (by assumption)) (by k_is) ?_
    refine fcyc_c ((r' _).le (by decide)) (by assumption) T2 (hA' _) ?_ hN hsc ?_
    · intro y hy
      rcases List.mem_cons.mp hy with rfl | hy
      · exact ⟨(by intro q; cases q), L, _, rfl, .head _⟩
      · obtain ⟨i1, L', lv, i2, i3⟩ := hout y hy
        exact ⟨i1, L', lv, i2, .tail _ i3⟩
    · intro s9 S9
      refine sto (by assumption) ?_; intro _ _
      with_reducible refine Hid.out (by assumption) ?_
      with_reducible refine cons_hid ?_; intro _ _
      with_reducible refine wpAny_If ?_
      refine wpAny_isTrue_value ?_
      refine nm_n (by assumption) (by walk_at "lk") ?_
      refine PyProof.Rows.truthy_none ?_
      with_reducible refine ifF ?_
      with_reducible refine wpAny_execs_nil ?_
      with_reducible refine Hid.out (by assumption) ?_
      with_reducible refine wpAny_execs_nil ?_
      exact h _ _ D T2 (SS.pop (by assumption))
end

noncomputable abbrev intD (ns : List Int) : List PyData := ns.map .int
theorem canLay_ints (ns : List Int) : PyData.canLayAll0 (intD ns) = true := by
  induction ns with
  | nil => rfl
  | cons n ns ih => simpa [intD, PyData.canLayAll0, PyData.canLay0] using ih
theorem depth_ints (ns : List Int) : PyData.depthAll (intD ns) = 0 := by
  induction ns with
  | nil => rfl
  | cons n ns ih => simpa [intD, PyData.depthAll, PyData.depth] using ih
noncomputable abbrev tupD (nss : List (List Int)) : List PyData := nss.map fun ns => .tuple (intD ns)
theorem canLay_tups (nss : List (List Int)) : PyData.canLayAll0 (tupD nss) = true := by
  induction nss with
  | nil => rfl
  | cons n ns ih =>
    have := canLay_ints n
    simp only [tupD, List.map_cons, PyData.canLayAll0, PyData.canLay0, Bool.and_eq_true] at ih ⊢
    exact ⟨this, ih⟩
theorem depth_tups (nss : List (List Int)) : PyData.depthAll (tupD nss) ≤ 1 := by
  induction nss with
  | nil => simp [tupD, PyData.depthAll]
  | cons n ns ih =>
    have := depth_ints n
    simp only [tupD, List.map_cons, PyData.depthAll, PyData.depth, this] at ih ⊢
    omega
theorem reads_ints {h : Heap} : ∀ {vs : List Value} {ns : List Int}, IntsAre vs ns → ReadsAll h vs (intD ns) []
  | _, _, .nil => .nil
  | _, _, .cons n t r => readsAll_cons_val (.int n t) (reads_ints r)
/-- tuples of the view, one by one -/
inductive TupsAt (V : View) : List Addr → List (List Int) → Prop
  | nil : TupsAt V [] []
  | cons {a as ns nss} : V a = some (.itup ns) → TupsAt V as nss → TupsAt V (a :: as) (ns :: nss)
section
variable {w : World} {G : Gd w} {f₀ : Addr × FK} {fs : Frs} {V V' : View} {s s' : Shared} {l a b d L I x dx C : Addr} {m : Loc} {ao : AObj} {A : Around} {E : Value → Shared → Prop} {env : Env} {ns ms : List Int} {as bs : List Addr} {k : Nat} {n i : Int} {t u : Tok} {Q : Value → Shared → Prop}
theorem Rm.u64 (r : Rm A (k + 6)) : A.units + 64 < cLine := by have := r.u; show A.units + 64 < 9900; omega
theorem SS.rdT (S : SS G fs V s) (h : V a = some (.itup ns)) : Reads s.heap (.ref a) (.tuple (intD ns)) [] := by
  obtain ⟨vs, n, ho, hi⟩ := S.it h
  exact .tuple ho rfl rfl (reads_ints hi)
theorem SS.rdTs (S : SS G fs V s) : ∀ {as : List Addr} {nss : List (List Int)}, TupsAt V as nss → ReadsAll s.heap (as.map Value.ref) (tupD nss) []
  | _, _, .nil => .nil
  | _, _, .cons h r => readsAll_cons_val (S.rdT h) (S.rdTs r)
/-- two lists of tuples that hold the same -/
theorem ne_rt {nss : List (List Int)} (r : Rm A (k + 6)) (S : SS G fs V s) (ha : V a = some (.rlist as)) (hb : V b = some (.rlist bs)) (h1 : TupsAt V as nss) (h2 : TupsAt V bs nss) (h : Q (.bool false) s) :
    wpAny (model PP w) A (compareOp .NotEq (.ref a) (.ref b)) Q E s := by
  obtain ⟨n, ho⟩ := S.rl ha
  obtain ⟨n', ho'⟩ := S.rl hb
  have sh : SeqAt.shaped (.list (tupD nss)) = true := by
    unfold SeqAt.shaped
    rw [Bool.and_eq_true, decide_eq_true_eq]
    refine ⟨canLay_tups nss, ?_⟩
    have := depth_tups nss
    simp only [PyData.depth]; omega
  refine ne_dataH (.list ho rfl rfl (by simpa using S.rdTs h1)) (.list ho' rfl rfl (by simpa using S.rdTs h2)) sh sh r.u64 ?_
  rw [PySem.SeqAt.eqv_refl (.list (tupD nss)) (canLay_tups nss)]
  exact h
/-- two tuples that hold the same -/
theorem ne_tt (r : Rm A (k + 6)) (S : SS G fs V s) (ha : V a = some (.itup ns)) (hb : V b = some (.itup ns)) (h : Q (.bool false) s) :
    wpAny (model PP w) A (compareOp .NotEq (.ref a) (.ref b)) Q E s := by
  have sh : SeqAt.shaped (.tuple (intD ns)) = true := by
    unfold SeqAt.shaped
    rw [Bool.and_eq_true, decide_eq_true_eq]
    refine ⟨canLay_ints ns, ?_⟩
    simp only [PyData.depth, depth_ints]; omega
  refine ne_dataH (S.rdT ha) (S.rdT hb) sh sh r.u64 ?_
  rw [PySem.SeqAt.eqv_refl (.tuple (intD ns)) (canLay_ints ns)]
  exact h
theorem ne_il (r : Rm A (k + 6)) (S : SS G fs V s) (ha : V a = some (.ilist ns)) (hb : V b = some (.ilist ms)) (h : Q (.bool (!decide (ns = ms))) s) :
    wpAny (model PP w) A (compareOp .NotEq (.ref a) (.ref b)) Q E s := by
  obtain ⟨vs, n, ho, hi⟩ := S.il ha
  obtain ⟨us, n', ho', hi'⟩ := S.il hb
  exact ne_intsK (vs := vs.toList) (us := us.toList) (by rw [Array.toArray_toList]; exact isList_of ho) hi (by rw [Array.toArray_toList]; exact isList_of ho') hi' r.u64 h
theorem abs_i (S : SS G fs V s) (h : ∀ t s', SS G fs V s' → Q (.int (if n < 0 then -n else n) t) s') : wpAny (model PP w) A (call (.builtin "abs") [.int n t]) Q E s :=
  call_abs_int fun u tk => h u _ (S.tok _)
theorem max_il (r : Rm A (k + 1)) (S : SS G ((L, .loc m) :: fs) V s) (hV : V l = some (.ilist ns)) (hne : 0 < ns.length) (h : ∀ M t s', M ∈ ns → (∀ a, a ∈ ns → a ≤ M) → SS G ((L, .loc m) :: fs) V s' → Q (.int M t) s') : wpAny (model PP w) A (call (.builtin "max") [.ref l]) Q E s := by
  obtain ⟨⟨vs⟩, n, ho, hi⟩ := S.il hV
  obtain ⟨m', post, F, N, -, fin⟩ := S.viaK hV ho
  refine max_list_N r.h F N (isList_of ho) hi hne fun h' M t tk F' N' hM ha => h _ _ _ hM ha ?_
  have S' := fin _ (.ilist ns) { s with heap := h', toks := tk } rfl rfl F' N' ⟨_, _, rfl, hi⟩
  rwa [show upd V l (.ilist ns) = V from funext fun b => by unfold upd; split <;> simp_all] at S'
theorem add_il (S : SS G (f₀ :: fs) V s) (ha : V a = some (.ilist ns)) (hb : V b = some (.ilist ms)) (hz : ns.length + ms.length < 1000) (h : ∀ c s', V c = none → SS G (f₀ :: fs) (upd V c (.ilist (ns ++ ms))) s' → Q (.ref c) s') :
    wpAny (model PP w) A (binaryOp .Add (.ref a) (.ref b)) Q E s := by
  obtain ⟨vs, n, ho, hi⟩ := S.il ha
  obtain ⟨us, n', ho', hi'⟩ := S.il hb
  have h1 := hi.length
  have h2 := hi'.length
  rw [Array.length_toList] at h1 h2
  refine concat_meets ⟨_, ho, rfl⟩ ⟨_, ho', rfl⟩ noFill_list_add seq_list_add PySem.F.slot_list_add PySem.F.entry_list_add (PySem.F.args_list_add_2 _ _) (list_addW a b vs us n n' none none #[] #[] (by show vs.size + us.size ≤ 2 ^ 24; omega)) ⟨ho, ho', ?_⟩
  exact h _ _ (S.fresh (Nat.le_refl _)) (S.new S.ge (Nat.le_refl _) rfl rfl (fun b o e => Heap.get?_push_of_some _ e) ⟨_, Heap.get?_push_size _ rfl, _, 0, rfl, by rw [Array.toList_append]; exact hi.append hi'⟩)
/-- the last item of a list of ints -/
theorem sub_lastI {value slice : Expr} (S : SS G fs V s) (hV : V l = some (.ilist (ns ++ [n]))) (hk : ns.length < 1000000) (h : ∀ t, Q (.int n t) s)
    (hs : subscripted slice false (.ref l) (.int (-1) u) = operate [.ref l, .int (-1) u] (getItem (.ref l) (.int (-1) u)) := by with_unfolding_all rfl) :
    wpAny (model PP w) A (subscriptTail value slice (.ref l) (.int (-1) u)) Q E s := by
  obtain ⟨vs, n', ho, hi⟩ := S.il hV
  have hl := hi.length
  rw [Array.length_toList, List.length_append, List.length_singleton] at hl
  obtain ⟨t, ht⟩ := hi.get ns.length n (by simp)
  refine tail_any (isList_of ho).typeIs slot_list_getitem.lookup (wpAny_getItem_list_neg (x := .int n t) (isList_of ho) (by decide) ?_ (by decide) ?_ (h t)) hs
  · omega
  · have e : ((-1 : Int) + vs.size).toNat = ns.length := by omega
    rw [e]; simpa using ht
/-- range(a, b), for a for -/
theorem rng_2 {g : Addr × FK} {a b : Int} (S : SS G (g :: fs) V s) (h : ∀ r t' u s', SS G (g :: (r, .obj (.raw { cls := .type "range", dict := none, data := .fields #[.int a t', .int b t, .int 1 u], slots := #[] })) :: fs) V s' → Q (.ref r) s') : wpAny (model PP w) A (call (.type "range") [.int a u, .int b t]) Q E s :=
  call_range_2 (h _ _ _ _ (S.pinNew (Nat.le_refl _) rfl rfl (fun b o e => Heap.get?_push_of_some _ e) ⟨_, Heap.get?_push_size _ rfl, rfl⟩))
theorem it_rng {g : Addr × FK} {a : Int} {n : Nat} {r : Addr} {t u v : Tok} (S : SS G (g :: (r, .obj (.raw { cls := .type "range", dict := none, data := .fields #[.int a t, .int (a + n) u, .int 1 v], slots := #[] })) :: fs) V s) (ha : 0 ≤ a) (ha2 : a < 1000) (hn : n < 1000)
    (h : ∀ I s', SS G (g :: (I, .obj (.raw { cls := .type "range_iterator", data := .fields #[rawInt a, rawInt n, rawInt 1] })) :: fs) V s' → Q (.ref I) s') : wpAny (model PP w) A (pyIter (.ref r)) Q E s := by
  obtain ⟨o, ho, e⟩ := (S.frames _ (.tail _ (.head _))).1
  have e : o = _ := e
  subst e
  have hz : Builtin.Range.rangeSize a (a + n) 1 = n := by rw [rangeSize_one]; split <;> omega
  refine wpAny_pyIter_range ho (small_one (by omega) (by omega) (by omega) (by omega)) ?_
  rw [hz]
  exact h _ _ (S.drop2.pinNew (Nat.le_refl _) rfl rfl (fun b o e => Heap.get?_push_of_some _ e) ⟨_, Heap.get?_push_size _ rfl, rfl⟩)
theorem notIt {v : Value} {T id : String} {Q : Bool → Shared → Prop} (hT : s.TypeIs v T) (sl : Slot T "__iter__" id) (h : Q false s) : wpAny (model PP w) A (notIterableAtAll v) Q E s := by
  unfold notIterableAtAll
  exact wpAny_bind (wpAny_specialOf hT sl.lookup (wpAny_pure h))
/-- starred arguments -/
theorem star_il {x : Sem Value} {rest : List (Bool × Sem Value)} {Q : List Value → Shared → Prop} (h : wpAny (model PP w) A x (fun v s₁ => ∃ (G : Gd w) (f₀ : Addr × FK) (fs : Frs) (V : View) (l : Addr) (ns : List Int), v = .ref l ∧ SS G (f₀ :: fs) V s₁ ∧ V l = some (.ilist ns) ∧ ns.length < 1000 ∧
      ∀ vs s₂, IntsAre vs ns → SS G (f₀ :: fs) V s₂ → wpAny (model PP w) A (spliced rest) (fun ws s₃ => Q (vs ++ ws) s₃) E s₂) E s) :
    wpAny (model PP w) A (spliced ((true, x) :: rest)) Q E s := by
  show wpAny _ A (x >>= _) _ _ _
  refine wpAny_bind (wpAny_mono h (fun v s₁ h₁ => ?_) fun _ _ x => x)
  obtain ⟨G, f₀, fs, V, l, ns, rfl, S, hV, hz, h2⟩ := h₁
  obtain ⟨vs, n, ho, hi⟩ := S.il hV
  have hl := hi.length
  rw [Array.length_toList] at hl
  refine wpAny_bind (notIt (isList_of ho).typeIs slot_list_iter ?_)
  refine wpAny_bind (wpAny_collect_seq l (.inl rfl) ho rfl rfl (fun h' hk => ?_) (by show vs.size ≤ 2 ^ 24; omega))
  refine wpAny_bind (wpAny_holding (wpAny_mono (h2 vs.toList _ hi (S.grow (s' := { s₁ with heap := h' }) rfl rfl hk)) (fun ws s₃ h₃ => wpAny_pure h₃) fun _ _ x => x))
/-- a call with a lone starred argument, a tuple -/
theorem args_star_it {f : Value} {x : Sem Value} {Q : Args → Shared → Prop} (h : wpAny (model PP w) A x (fun v s₁ => ∃ (G : Gd w) (f₀ : Addr × FK) (fs : Frs) (V : View) (l : Addr) (ns : List Int), v = .ref l ∧ SS G (f₀ :: fs) V s₁ ∧ V l = some (.itup ns) ∧ ns.length < 1000 ∧
      ∀ vs s₂, IntsAre vs ns → SS G (f₀ :: fs) V s₂ → Q ⟨vs, []⟩ s₂) E s) :
    wpAny (model PP w) A (evalArgs f true [(true, x)] []) Q E s := by
  unfold evalArgs
  show wpAny _ A (x >>= _) _ _ _
  refine wpAny_bind (wpAny_mono h (fun v s₁ h₁ => ?_) fun _ _ x => x)
  obtain ⟨G, f₀, fs, V, l, ns, rfl, S, hV, hz, h2⟩ := h₁
  obtain ⟨vs, n, ho, hi⟩ := S.it hV
  have hl := hi.length
  rw [Array.length_toList] at hl
  refine wpAny_bind (wpAny_pure ?_)
  refine wpAny_holding ?_
  dsimp only
  simp only [List.all_nil, if_true, List.filterMap_nil, List.map_nil]
  refine wpAny_bind (wpAny_pure ?_)
  refine wpAny_bind (wpAny_bind (notIt (isTup_of ho).typeIs slot_tuple_iter ?_))
  rw [if_neg Bool.false_ne_true]
  refine wpAny_holding ?_
  refine wpAny_collect_seq l (.inr rfl) ho rfl rfl (fun h' hk => ?_) (by show vs.size ≤ 2 ^ 24; omega)
  refine wpAny_pure ?_
  exact h2 vs.toList _ hi (S.grow (s' := { s₁ with heap := h' }) rfl rfl hk)
end

section
variable {w : World} {G : Gd w} {f₀ : Addr × FK} {fs : Frs} {V V' : View} {s s' : Shared} {l a b c d L I x dx C P : Addr} {m : Loc} {ao : AObj} {A : Around} {E : Value → Shared → Prop} {env : Env} {ns ms : List Int} {as bs : List Addr} {k : Nat} {n i : Int} {t u : Tok} {pos : Pos} {q : Str}
/-- a lambda made in a body -/
theorem mklam {Q : Value → Shared → Prop} {name : Str} {params : Arguments} {body : Expr} {scope : Scope} {clos : List (Str × Addr)} {firstLine : Nat} (ht : (P, pos, q) ∈ tabL) (hP : G.h.get? P = none) (C : CodeHd G.h c P) (S : SS G (f₀ :: fs) V s)
    (hcl : closureFor scope env = pure clos) (hge0 : env.globals = mainGlobals) (hcode : env.code = .ref c)
    (h : ∀ c' f ctv pm s', V f = none → c' ≠ f → (∀ ao, V c' = some ao → ao = .code q) → SS G (f₀ :: fs) (upd (upd V c' (.code q)) f (.raw (kla_obj name q params body scope clos pm c' ctv))) s' → Q (.ref f) s') :
    wpAny (model PP w) A (makeFunction name q params (.expr body) scope env [] [] [] pos firstLine) Q E s := by
  have hgs := G.g.keeps S.base
  obtain ⟨bm, ob, b1, b2, b3, b4, b5, b6⟩ := G.bmain
  have hgP : mainGlobals ≠ P := fun k => by
    obtain ⟨o, es, ep, e, _⟩ := G.g
    rw [k, hP] at e; cases e
  have hbP : bm ≠ P := fun k => by rw [k, hP] at b3; cases b3
  have hbG : bm ≠ mainGlobals := fun k => by
    obtain ⟨o, es, ep, e, hd, _⟩ := G.g
    rw [k, e] at b3; cases b3; rw [hd] at b6; cases b6
  have hb : s.heap.BuiltinsAt G.mg P := ⟨bm, ob, b1, b2, hbG, hbP, S.base _ _ b3, b4, b5, b6⟩
  rcases S.tabs _ ht with hT | ⟨c', o, vs, t, hT, hc, hd, hv, hC, hf, hn⟩
  · refine kla_makeFunction (mg := G.mg) hcl hge0 hgs hcode (C.keeps S.base) hT trivial rfl hgP hb fun c' ctv h' tk hx hge hlt hrec htb => ?_
    obtain ⟨c₂, oc, vs, t, e2, hoc, hd, hv⟩ := hrec
    cases e2
    have S1 : SS G (f₀ :: fs) (upd V c' (.code q)) { s with heap := h', toks := tk } := S.fill ht hP S.ge rfl rfl hx hge hoc hd hv (by simpa using htb)
    have hVf : V h'.objs.size = none := S.fresh (Nat.le_trans hge (Nat.le_of_lt hlt))
    refine h c' h'.objs.size ctv _ _ hVf (Nat.ne_of_lt hlt) (fun ao e => ?_) (S1.new (s' := { s with heap := h'.push _, toks := tk }) S1.ge (Nat.le_refl _) rfl rfl (fun b o e => Heap.get?_push_of_some _ e) ⟨_, Heap.get?_push_size _ rfl, rfl⟩)
    rw [S.fresh hge] at e; cases e
  · refine kla_makeFunctionHit (mg := G.mg) hcl hge0 hgs hcode (C.keeps S.base) hT (by simp [TriplesOk, rawInt]) (codeAmong_hit pos) hb fun ctv h' tk hk hsz => ?_
    have S1 := S.learn hc hd hv hC hf hn
    have S2 : SS G (f₀ :: fs) (upd V c' (.code q)) { s with heap := h', toks := tk } := S1.grow rfl rfl hk
    refine h c' h'.objs.size ctv _ _ (S.fresh hsz) (Nat.ne_of_lt (Nat.lt_of_lt_of_le (Heap.lt_size hc) hsz)) (fun ao e => ?_) (S2.new (s' := { s with heap := h'.push _, toks := tk }) S2.ge (Nat.le_refl _) rfl rfl (fun b o e => Heap.get?_push_of_some _ e) ⟨_, Heap.get?_push_size _ rfl, rfl⟩)
    obtain ⟨q', rfl⟩ := hC ao e
    obtain ⟨o', ho', vs', t', hd', hv'⟩ := S.see c' _ e
    rw [hc] at ho'
    cases ho'
    rw [hd] at hd'
    cases hd'
    rw [hv] at hv'
    cases hv'
    rfl
/-- a call of a lambda made in a body -/
theorem enterL {f c' : Addr} {vals : List Value} {Q : Value → Shared → Prop} (binds : List (Str × Value)) {name q : Str} {params : Arguments} {body : Expr} {scope : Scope} {clos : List (Str × Addr)} {pm ctv : Value}
    (S : SS G (f₀ :: fs) V s) (hf : V f = some (.raw (kla_obj name q params body scope clos pm c' ctv))) (hc : V c' = some (.code q)) (hroom : A.depth < recursionLimit)
    (hbind : bindArgs (kla_fn name q params body scope clos pm (.ref c') ctv) ⟨vals, []⟩ = pure binds) (hloc : ∀ y ∈ binds, scope.names.lookup y.1 = some .local)
    (hcell : ∀ x ∈ scope.names, x.2 ≠ .cell) (hco : scope.isCoroutine = false) (hgen : scope.isGenerator = false) (hk : scope.kind = .function)
    (h : ∀ L s₁, SS G ((L, .loc (lvOf binds)) :: f₀ :: fs) V s₁ → wpAny (model PP w) (A.deeper (envX q scope L f (.ref c') clos)) (eval body (envX q scope L f (.ref c') clos)) Q (fun _ _ => False) s₁) :
    wpAny (model PP w) A (call (.ref f) vals) Q E s := by
  obtain ⟨o, ho, e⟩ := S.see f _ hf
  have e : o = kla_obj name q params body scope clos pm c' ctv := e
  subst e
  obtain ⟨oc, hoc, vs, tk, hd, hv⟩ := S.see c' _ hc
  refine wpAny_call ?_
  refine kla_callFunE hroom ho rfl hco hgen rfl ⟨c', oc, vs, tk, rfl, hoc, hd, hv⟩ ?_
  rw [hbind]
  refine wpAny_pure (wpAny_newFunctionEnv hcell hloc (fun h₁ hns hsb => ⟨S.lim.fresh _ hsb, ?_⟩) hk)
  have hk₁ : ∀ b o, s.heap.get? b = some o → h₁.get? b = some o := fun b o e => hsb.extBut b o (Nat.ne_of_lt (Heap.lt_size e)) (Heap.get?_push_of_some _ e)
  refine kla_codeExpr (wpAny_mono (h s.heap.objs.size _ (S.push (s' := { s with heap := h₁, toks := s.toks + binds.length }) S.ge (Nat.le_refl _) rfl rfl hk₁ ⟨_, hns, lvOf_eq binds⟩)) (fun v _ x => x) fun _ _ x => x.elim)
end

theorem zip_ints {kf : Int → Int} : ∀ {ks vs : List Value} {ns : List Int}, IntsAre ks (ns.map kf) → IntsAre vs ns → (∀ p ∈ ks.zip vs, ∃ n t u, p.1 = .int (kf n) t ∧ p.2 = .int n u) ∧ (ks.zip vs).map (fun p => numOf p.2) = ns
  | _, _, [], hk, hv => by
    have e := IntsAre.nil_inv hv
    subst e
    simp
  | _, _, n :: ns, hk, hv => by
    obtain ⟨t, k', rfl, hk'⟩ := IntsAre.cons_inv hk
    obtain ⟨u, v', rfl, hv'⟩ := IntsAre.cons_inv hv
    obtain ⟨h1, h2⟩ := zip_ints hk' hv'
    refine ⟨fun p hp => ?_, ?_⟩
    · rw [List.zip_cons_cons] at hp
      rcases List.mem_cons.mp hp with rfl | hp
      · exact ⟨n, t, u, rfl, rfl⟩
      · exact h1 p hp
    · rw [List.zip_cons_cons, List.map_cons, h2]; rfl
theorem key_out {kf : Int → Int} {ks vs : Array Value} {ns : List Int} (hk : IntsAre ks.toList (ns.map kf)) (hv : IntsAre vs.toList ns) {xs : Array (Value × Value)} (hp : xs.Perm (ks.zip vs)) (hs : SortedTo xs (ks.zip vs).size) :
    ∃ out : List Int, IntsAre (xs.map (·.2)).toList out ∧ out.Perm ns ∧ out.Pairwise (fun i j => kf i ≤ kf j) := by
  obtain ⟨z1, z2⟩ := zip_ints hk hv
  have hl : xs.toList.Perm (ks.toList.zip vs.toList) := by rw [← Array.toList_zip]; exact Array.perm_iff_toList_perm.mp hp
  have hm : ∀ p ∈ xs.toList, ∃ n t u, p.1 = .int (kf n) t ∧ p.2 = .int n u := fun p hp' => z1 p (hl.mem_iff.mp hp')
  have key : ∀ (i : Nat) (hi : i < xs.size), K xs i = kf (numOf xs[i].2) := fun i hi => by
    obtain ⟨n, t, u, e1, e2⟩ := hm xs[i] (by simp)
    rw [K_eq hi, e1, e2]; rfl
  refine ⟨xs.toList.map (fun p => numOf p.2), ?_, z2 ▸ hl.map (fun p => numOf p.2), List.pairwise_iff_getElem.mpr fun i j hi hj hij => ?_⟩
  · have h1 := intsAre_map (xs.toList.map (·.2)) (List.forall_mem_map.mpr fun p hp' => by
      obtain ⟨n, t, u, _, e⟩ := hm p hp'
      exact ⟨n, u, e⟩)
    rw [List.map_map] at h1
    rw [Array.toList_map]; exact h1
  · rw [List.length_map, Array.length_toList] at hi hj
    have := hs i j (Nat.le_of_lt hij) (hp.size_eq ▸ hj)
    rw [key i hi, key j hj] at this
    simpa using this
theorem wpAny_letGo {M : Model} {A : Around} {E : Value → Shared → Prop} {s : Shared} {Q : Unit → Shared → Prop} {keep : List Value} (h : Q () s) : ∀ (l : List Value), wpAny M A (letGo l keep) Q E s
  | [] => wpAny_pure h
  | _ :: r => by
    unfold letGo
    exact wpAny_bind (wpAny_holding (wpAny_point (wpAny_letGo h r)))
theorem loop_keys {M : Model} {A : Around} {E : Value → Shared → Prop} {g : Value → PUnit → Sem (ForInStep PUnit)} {Q : PUnit → Shared → Prop} {kf : Int → Int} {ns : List Int} (I : List Int → Shared → Prop)
    (N : Nat) (step : ∀ done n t s, n ∈ ns → done.length < N → I done s → wpAny M A (g (.int n t) PUnit.unit) (fun r s' => r = .yield PUnit.unit ∧ I (done ++ [kf n]) s') E s) :
    ∀ (xs : List Value) (ms : List Int), IntsAre xs ms → (∀ n ∈ ms, n ∈ ns) → ∀ done s, done.length + ms.length ≤ N → I done s → (∀ s', I (done ++ ms.map kf) s' → Q PUnit.unit s') → wpAny M A (forIn xs PUnit.unit g) Q E s
  | _, _, .nil, _, done, s, _, h, fin => by
    rw [List.forIn_nil]
    exact wpAny_pure (fin s (by simpa using h))
  | _, _, .cons n t (vs := vs) (ns := ms) r, hin, done, s, hz, h, fin => by
    rw [List.length_cons] at hz
    rw [List.forIn_cons]
    refine wpAny_bind (wpAny_mono (step done n t s (hin n (.head _)) (by omega) h) (fun x s' hx => ?_) fun _ _ x => x)
    obtain ⟨rfl, hx⟩ := hx
    exact loop_keys I N step vs ms r (fun n hn => hin n (.tail _ hn)) _ s' (by rw [List.length_append, List.length_singleton]; omega) hx fun s'' h'' => fin s'' (by simpa using h'')
section
variable {w : World} {G : Gd w} {f₀ : Addr × FK} {fs : Frs} {V V' : View} {s s' : Shared} {l a b c d f : Addr} {A : Around} {E : Value → Shared → Prop} {ns ms : List Int} {k : Nat} {n i : Int} {t u : Tok}
theorem sort_body {kf : Int → Int} {P : Fin → Shared → Prop} (S : SS G (f₀ :: fs) V s) (hV : V a = some (.ilist ns)) (hz : ns.length < 64)
    (hf : ∀ n ∈ ns, ∀ V' s' t (Q : Value → Shared → Prop), SS G (f₀ :: fs) V' s' → (∀ b z, b ≠ a → V b = some z → V' b = some z) → (∀ t' s'', SS G (f₀ :: fs) V' s'' → Q (.int (kf n) t') s'') → wpAny (model PP w) A (call (.ref f) [.int n t]) Q (fun _ _ => False) s')
    (h : ∀ s' out, out.Perm ns → out.Pairwise (fun i j => kf i ≤ kf j) → SS G (f₀ :: fs) (upd V a (.ilist out)) s' → P (.done (.ret .none)) s') :
    wpAny (model PP w) A (Builtin.«list.sort» ⟨[.ref a], [(Str.ofString "key", .ref f)]⟩) P E s := by
  rw [ksk_t1]
  unfold ksk_tree
  obtain ⟨vs, nv, ho, hi⟩ := S.il hV
  have hl := hi.length
  rw [Array.length_toList] at hl
  refine wpAny_bind (listItems_at ho rfl ?_)
  refine wpAny_bind (listUpdate_at ho rfl ?_ (by show vs.size ≤ 2 ^ 24; omega))
  have S1 : SS G (f₀ :: fs) (upd V a (.ilist [])) { s with heap := s.heap.update a (Obj.mapSeq fun _ => #[]) } := S.lupd hV ho (fun _ => #[]) fun n' => ⟨_, n', rfl, .nil⟩
  obtain ⟨o1, ho1, S2⟩ := S1.toRaw upd_eq
  rw [upd_upd] at S2
  obtain ⟨vs1, e1, rfl, hi1⟩ := ho1
  have ev : vs1 = #[] := by have := hi1.length; simpa using this
  subst ev
  have at_ : ∀ {V' s'}, SS G (f₀ :: fs) V' s' → V' a = some (.raw (listOf #[] e1)) → s'.heap.get? a = some (listOf #[] e1) := fun S' h => by
    obtain ⟨o', ho', e⟩ := S'.see a _ h
    have e : o' = _ := e
    rw [e] at ho'; exact ho'
  generalize ({ s with heap := s.heap.update a (Obj.mapSeq fun _ => #[]) } : Shared) = s1 at *
  refine wpAny_bind (seqEpoch_at (at_ S2 upd_eq) rfl ?_)
  refine wpAny_bind (wpAny_newTuple ?_ (by rw [Array.length_toList]; show vs.size ≤ 2 ^ 24; omega))
  have S3 : SS G (f₀ :: fs) (upd V a (.raw (listOf #[] e1))) { s1 with heap := s1.heap.push { cls := .type "tuple", data := .seq vs.toList.toArray } } := S2.grow rfl rfl fun b o e => Heap.get?_push_of_some _ e
  generalize ({ s1 with heap := s1.heap.push { cls := .type "tuple", data := .seq vs.toList.toArray } } : Shared) = s2 at *
  refine wpAny_bind (wpAny_newList ?_)
  have hks := S3.fresh (Nat.le_refl _)
  have S4 : SS G (f₀ :: fs) (upd (upd V a (.raw (listOf #[] e1))) s2.heap.objs.size (.ilist [])) { s2 with heap := s2.heap.push { cls := .type "list", data := .seq ([] : List Value).toArray } } :=
    S3.new S3.ge (Nat.le_refl _) rfl rfl (fun b o e => Heap.get?_push_of_some _ e) ⟨_, Heap.get?_push_size _ rfl, _, 0, rfl, .nil⟩
  generalize ({ s2 with heap := s2.heap.push { cls := .type "list", data := .seq ([] : List Value).toArray } } : Shared) = s3 at *
  generalize s2.heap.objs.size = ks at *
  refine wpAny_holding ?_
  unfold ksk_rest
  refine wpAny_bind (wpAny_rule ?_)
  refine wpAny_bind ?_
  rw [← Array.forIn_toList]
  have hksa : ks ≠ a := fun e => by rw [e, upd_eq] at hks; cases hks
  have hVks : V ks = none := by rwa [upd_ne hksa] at hks
  refine loop_keys (kf := kf) (ns := ns) (fun done s => SS G (f₀ :: fs) (upd (upd V a (.raw (listOf #[] e1))) ks (.ilist done)) s) 64 (fun done n t s hn hdl S => ?_) vs.toList ns hi (fun _ h => h) [] _ (by simp; omega) S4 ?_
  · refine wpAny_bind (wpAny_attempt (wpAny_mono (hf n hn _ s t (fun v s' => ∃ t', v = .int (kf n) t' ∧ SS G (f₀ :: fs) (upd (upd V a (.raw (listOf #[] e1))) ks (.ilist done)) s') S (fun b z hb h => ?_) fun t' s'' S'' => ⟨t', rfl, S''⟩) ?_ fun _ _ x => x.elim))
    · exact upd_old hks ((upd_ne hb).trans h)
    · rintro v s' ⟨t', rfl, S'⟩
      obtain ⟨vd, nd, hod, hid⟩ := S'.il upd_eq
      have hld := hid.length
      rw [Array.length_toList] at hld
      refine wpAny_bind (listUpdate_at hod rfl (wpAny_pure ⟨rfl, ?_⟩) (by show vd.size ≤ 2 ^ 24; omega) (by rw [Array.size_push]; show vd.size + 1 ≤ 2 ^ 24 + 1; omega))
      have S5 := S'.lupd (ao := .ilist (done ++ [kf n])) upd_eq hod (·.push (.int (kf n) t')) fun n' => ⟨_, n', rfl, by rw [Array.toList_push]; exact hid.append (.cons _ t' .nil)⟩
      rw [upd_upd] at S5
      exact S5
  · intro s5 S5
    rw [List.nil_append] at S5
    obtain ⟨vk, nk, hok, hik⟩ := S5.il upd_eq
    have hlk := hik.length
    rw [Array.length_toList, List.length_map] at hlk
    refine wpAny_bind (listItems_at hok rfl ?_)
    have hzs : (vk.zip vs).size = ns.length := by simp; omega
    have fin : ∀ st' : SortSt, (arrOf st').Perm (vk.zip vs) → SortedTo (arrOf st') (vk.zip vs).size → failedOf st' = none →
      wpAny (model PP w) A (ksk_tail a false e1 (.ref ks) st') P E s5 := by
      intro st' hp hs hfail
      obtain ⟨out, o1, o2, o3⟩ := key_out hik hi hp hs
      unfold ksk_tail
      simp only [Bool.false_eq_true, if_false]
      refine wpAny_bind (listUpdate_at hok rfl ?_ (by show vk.size ≤ 2 ^ 24; omega))
      have S6 := S5.lupd (ao := .ilist []) upd_eq hok (fun _ => #[]) fun n' => ⟨_, n', rfl, .nil⟩
      rw [upd_upd] at S6
      generalize ({ s5 with heap := s5.heap.update ks (Obj.mapSeq fun x => #[]) } : Shared) = s6 at *
      refine wpAny_bind (wpAny_letGo ?_ _)
      have S7 := S6.forget hks
      refine wpAny_bind (seqEpoch_at (at_ S7 upd_eq) rfl ?_)
      refine wpAny_bind (listUpdate_at (at_ S7 upd_eq) rfl ?_ (by show 0 ≤ 2 ^ 24; omega) (by rw [Array.size_map, hp.size_eq, hzs]; show ns.length ≤ 2 ^ 24 + 1; omega))
      have S8 := S7.lupd (ao := .ilist out) upd_eq (at_ S7 upd_eq) (fun _ => Array.map (fun x => x.snd) (arrOf st')) fun n' => ⟨_, n', rfl, o1⟩
      rw [upd_upd] at S8
      rw [hfail]
      simp only [bne_self_eq_false, Bool.false_eq_true, if_false]
      exact wpAny_pure (h _ out o2 o3 S8)
    unfold ksk_end
    simp only [Bool.false_eq_true, if_false]
    by_cases h2 : vs.size < 2
    · rw [if_pos h2, if_pos h2]
      refine wpAny_bind (wpAny_pure ?_)
      rw [StateT.run_pure]
      refine wpAny_bind (wpAny_pure ?_)
      refine fin (SortSt.mk' general' (vk.zip vs) #[] 7 none) (Array.Perm.refl _) ?_ rfl
      intro i j hij hj
      have : i = j := by omega
      subst this; exact Int.le_refl _
    · rw [if_neg h2, if_neg h2]
      obtain ⟨lk⟩ := vk
      have hik' : IntsAre lk (ns.map kf) := hik
      obtain ⟨v₁, v₂, rest, rfl⟩ : ∃ v₁ v₂ rest, lk = v₁ :: v₂ :: rest := by
        have : lk.length = ns.length := by simpa using hlk
        match lk, this with
        | [], this => simp at this; omega
        | [_], this => simp at this; omega
        | v₁ :: v₂ :: rest, _ => exact ⟨v₁, v₂, rest, rfl⟩
      rw [show ({ toList := v₁ :: v₂ :: rest } : Array Value) = (v₁ :: v₂ :: rest).toArray from rfl] at *
      rw [keyKind_ints hik']
      refine wpAny_bind (wpAny_pure ?_)
      refine wpAny_bind (wpAny_mono (wpS_sortRuns (a₀ := (v₁ :: v₂ :: rest).toArray.zip vs) (st := SortSt.mk' oneType' ((v₁ :: v₂ :: rest).toArray.zip vs) #[] 7 none)
        (Q := fun _ st' => (arrOf st').Perm ((v₁ :: v₂ :: rest).toArray.zip vs) ∧ failedOf st' = none ∧ SortedTo (arrOf st') ((v₁ :: v₂ :: rest).toArray.zip vs).size)
        (fun p hp => by
          rw [Array.toList_zip] at hp
          obtain ⟨n, t, u, e, _⟩ := (zip_ints hik' hi).1 p hp
          exact ⟨_, t, e⟩) ⟨Array.Perm.refl _, rfl, rfl, rfl⟩ (by omega) (by omega) fun st' a1 a2 a3 => ⟨a1, a2, a3⟩) ?_ fun _ _ e => e)
      rintro ⟨⟨⟩, st'⟩ s' ⟨rfl, hp, hfl, hs⟩
      exact fin st' hp hs hfl
theorem sorted_key {kf : Int → Int} {Q : Value → Shared → Prop} (r : Rm A (k + 2)) (S : SS G (f₀ :: fs) V s) (hV : V l = some (.ilist ns)) (hz : ns.length < 64)
    (hf : ∀ A', Rm A' k → ∀ n ∈ ns, ∀ V' s' t (Q : Value → Shared → Prop), SS G (f₀ :: fs) V' s' → (∀ b z, V b = some z → V' b = some z) → (∀ t' s'', SS G (f₀ :: fs) V' s'' → Q (.int (kf n) t') s'') → wpAny (model PP w) A' (call (.ref f) [.int n t]) Q (fun _ _ => False) s')
    (h : ∀ b s' out, V b = none → out.Perm ns → out.Pairwise (fun i j => kf i ≤ kf j) → SS G (f₀ :: fs) (upd V b (.ilist out)) s' → Q (.ref b) s') :
    wpAny (model PP w) A (call (.builtin "sorted") [.ref l] [(Str.ofString "key", .ref f)]) Q E s := by
  obtain ⟨vs, nv, ho, hi⟩ := S.il hV
  have hl := hi.length
  rw [Array.length_toList] at hl
  refine call_function_entry_kw kind_sorted plain_sorted entry_sorted (ksk_s1 _ _) ?_
  unfold Builtin.«sorted»
  refine wpAny_bind (m := checkCount "sorted" 1 1 _) (wpAny_pure ?_)
  refine wpAny_bind ?_
  refine wpAny_collect_seq l (.inl rfl) ho rfl rfl (fun h' hk => ?_) (by show vs.size ≤ 2 ^ 24; omega)
  have S1 : SS G (f₀ :: fs) V { s with heap := h' } := S.grow rfl rfl hk
  refine wpAny_bind (wpAny_newList ?_ (by rw [Array.length_toList]; show vs.size ≤ 2 ^ 24; omega))
  have hb := S1.fresh (Nat.le_refl _)
  have S2 : SS G (f₀ :: fs) (upd V h'.objs.size (.ilist ns)) { s with heap := h'.push { cls := .type "list", data := .seq vs.toList.toArray } } :=
    S1.new (s' := { s with heap := h'.push { cls := .type "list", data := .seq vs.toList.toArray } }) S1.ge (Nat.le_refl _) rfl rfl (fun b o e => Heap.get?_push_of_some _ e) ⟨_, Heap.get?_push_size _ rfl, vs.toList.toArray, 0, rfl, by simpa using hi⟩
  refine wpAny_bind (wpAny_holding (wpAny_call_entry_kw slot_list_sort ⟨_, Heap.get?_push_size _ rfl, rfl⟩ entry_list_sort (sort_body (kf := kf) S2 upd_eq hz (fun n hn V' s' t Q S' hs hq => hf _ r.in1.in1 n hn V' s' t Q S' (fun b z hz => hs b z (fun e => by
    have hb' : V h'.objs.size = none := hb
    rw [e, hb'] at hz; cases hz) (upd_old hb hz)) hq) fun s' out a1 a2 a3 => ⟨_, rfl, ?_⟩) (ksk_l1 _ _)))
  rw [upd_upd] at a3
  exact wpAny_pure ⟨_, rfl, h _ _ out hb a1 a2 a3⟩
end

section
variable {w : World} {G : Gd w} {f₀ : Addr × FK} {fs : Frs} {V V' : View} {s s' : Shared} {l a b c d f L I t : Addr} {m : Loc} {A : Around} {E : Value → Shared → Prop} {env : Env} {ns ms : List Int} {as : List Addr} {k : Nat}
/-- for .., .. in a list of tuples -/
theorem for_rt {elts : List Expr} {kk : Nat} {pos : Pos} {body orelse : List Stmt} {Q : Flow → Shared → Prop} (r : Rm A k) (S : SS G ((L, .loc m) :: fs) V s) (hV : V l = some (.rlist as)) (J : Nat → Loc → View → Prop) (h0 : J 0 m V) (hJ : ∀ i m V, J i m V → V l = some (.rlist as))
    (turn : ∀ i m V it s, i < as.length → J i m V → SS G ((L, .loc m) :: it :: fs) V s →
      wpAny (model PP w) A (assign (.Tuple elts kk pos) env (.ref (as.getD i 0))) (fun _ s₂ => wpAny (model PP w) A (execs body env) (fun f s₃ => match f with
        | .next | .cont => ∃ m' V', J (i + 1) m' V' ∧ SS G ((L, .loc m') :: it :: fs) V' s₃
        | .brk => Q .next s₃
        | .ret v => Q (.ret v) s₃) (fun _ _ => False) s₂) (fun _ _ => False) s)
    (fin : ∀ m V s, J as.length m V → SS G ((L, .loc m) :: fs) V s → wpAny (model PP w) A (execs orelse env) Q (fun _ _ => False) s) :
    wpAny (model PP w) A (pyIter (.ref l)) (fun it s₂ => codeAny (model PP w) A (.forLoop (.Tuple elts kk pos) it body orelse env) (fun r s' => match r with | .ok f => Q f s' | .error e => cameBackBy (model PP w) A env E e s') s₂) E s := by
  obtain ⟨n, ho⟩ := S.rl hV
  refine wpAny_pyIter_list (isList_of ho) ?_
  have hne : l ≠ s.heap.objs.size := Nat.ne_of_lt (Heap.lt_size ho)
  refine for_gen (walks_rl r.h s.heap.objs.size l hne as) (fun i => .fld "list_iterator" #[.ref l, .int i 0]) J (fun i m V s' _ hj S' => ⟨(S'.frames _ (.tail _ (.head _))).1, S'.see l _ (hJ i m V hj)⟩) (fun i h hs => hs.1) ?_
    (S.pinNew (Nat.le_refl _) rfl rfl (fun b o e => Heap.get?_push_of_some _ e) ⟨_, Heap.get?_push_size _ rfl, rfl, rfl⟩) h0 (fun i m V v s' hi' hP hj S' => by subst hP; exact turn i m V _ s' hi' hj S') (fun m V s' hj S' => fin m V s' hj S')
  intro i v s' Q hs h
  cases v with
  | ref T => exact wpAny_letOwnedTupleGo_listiter hs.1 h
  | _ =>
    obtain ⟨o, e1, e2, e3⟩ := hs.1
    unfold letOwnedTupleGo
    first | exact wpAny_pure h | (simp only []; exact wpAny_pure h)
/-- a tuple of three unpacked into names -/
theorem asg3 {Q : Unit → Shared → Prop} {x y z : Str} {px py pz pos : Pos} {kk : Nat} {i j n : Int} (r : Rm A k) (S : SS G (f₀ :: fs) V s) (hV : V t = some (.itup [i, j, n]))
    (h : ∀ u v q s', SS G (f₀ :: fs) V s' → wpAny (model PP w) A (assign (.Name x px) env (.int i u)) (fun _ s₂ => wpAny (model PP w) A (assign (.Name y py) env (.int j v)) (fun _ s₃ => wpAny (model PP w) A (assign (.Name z pz) env (.int n q)) Q E s₃) E s₂) E s') :
    wpAny (model PP w) A (assign (.Tuple [.Name x px, .Name y py, .Name z pz] kk pos) env (.ref t)) Q E s := by
  obtain ⟨vs, c, ho, hi⟩ := S.it hV
  obtain ⟨lv⟩ := vs
  obtain ⟨u, l1, e1, hi⟩ := IntsAre.cons_inv hi
  obtain ⟨v, l2, e2, hi⟩ := IntsAre.cons_inv hi
  obtain ⟨q, l3, e3, hi⟩ := IntsAre.cons_inv hi
  have e4 := IntsAre.nil_inv hi
  simp only at e1
  subst e1 e2 e3 e4
  refine wpAny_assign_Tuple r.h ⟨_, ho, rfl, c, rfl⟩ rfl rfl fun h' he => ?_
  have S' : SS G (f₀ :: fs) V { s with heap := h' } := S.grow rfl rfl fun b o e => he b o (Nat.ne_of_lt (Heap.lt_size e)) e
  show wpAny _ _ (do holding [.int j v, .int n q] (assign (.Name x px) env (.int i u)); do holding [.int n q] (assign (.Name y py) env (.int j v)); do holding [] (assign (.Name z pz) env (.int n q)); pure ()) _ _ _
  refine wpAny_bind (wpAny_holding (wpAny_mono (h u v q _ S') (fun _ s₂ h₂ => ?_) fun _ _ x => x))
  refine wpAny_bind (wpAny_holding (wpAny_mono h₂ (fun _ s₃ h₃ => ?_) fun _ _ x => x))
  exact wpAny_bind (wpAny_holding (wpAny_mono h₃ (fun _ _ x => wpAny_pure x) fun _ _ x => x))
/-- [.. for x in a list of ints] -/
theorem comp_il {g : Addr × FK} {elt iter : Expr} {x : Str} {px : Pos} {ifs : List Expr} {scope : Scope} {cl : List (Str × Addr)} {pos : Pos} {Q : Value → Shared → Prop}
    (r : Rm A k) (S : SS G (g :: fs) V s) (hV : V l = some (.ilist ns)) (J : Nat → View → AObj → Prop) (hJ : ∀ i V₀ ao, J i V₀ ao → V₀ l = some (.ilist ns))
    (hcell : ∀ y ∈ scope.names, y.2 ≠ .cell) (hkind : scope.kind = .function) (hx : scope.names.lookup x = some .local) (h0 : J 0 V (.ilist []) ∨ J 0 V (.rlist [])) (hnc : ∀ i V₀ ao, J i V₀ ao → ∀ q, ao ≠ .code q)
    (turn : ∀ i V₀ ao m s C D it, i < ns.length → J i V₀ ao → V₀ D = none → SS G ((C, .loc (lup m x (.int (ns.getD i 0) 0))) :: it :: g :: fs) (upd V₀ D ao) s →
      wpAny (model PP w) A (forIn ifs true fun c r => if r = true then do let ok ← isTrue c (compEnvC scope cl C env) (eval c (compEnvC scope cl C env)); pure (ForInStep.yield ok) else pure (ForInStep.yield r)) (fun ok s₃ =>
        if ok = true then wpAny (model PP w) A (eval elt (compEnvC scope cl C env)) (fun y s₄ => wpAny (model PP w) A (call (.builtin "list.append") [.ref D, y]) (fun _ s₅ =>
            ∃ m' V₁ ao₁, J (i + 1) V₁ ao₁ ∧ V₁ D = none ∧ SS G ((C, .loc m') :: it :: g :: fs) (upd V₁ D ao₁) s₅) (fun _ _ => False) s₄) (fun _ _ => False) s₃
        else ∃ m' V₁ ao₁, J (i + 1) V₁ ao₁ ∧ V₁ D = none ∧ SS G ((C, .loc m') :: it :: g :: fs) (upd V₁ D ao₁) s₃) (fun _ _ => False) s)
    (fin : ∀ V₀ ao D s, J ns.length V₀ ao → V₀ D = none → SS G (g :: fs) (upd V₀ D ao) s → Q (.ref D) s) :
    wpAny (model PP w) A (pyIter (.ref l)) (fun it s₂ => wpAny (model PP w) A (newList []) (fun acc s₃ => wpAny (model PP w) A (newFunctionEnv scope env.globals cl [] env.qual none .none (some env)) (fun cenv s₄ =>
      codeAny (model PP w) A (.compStart (.ListComp elt [⟨.Name x px, iter, ifs, 0⟩] scope pos) 0 it acc { cenv with scope := relabel scope env }) (compPost (model PP w) A E none Q acc cenv.locals) s₄) E s₃) E s₂) E s := by
  obtain ⟨vs, n, ho, hi⟩ := S.il hV
  refine wpAny_pyIter_list (isList_of ho) ?_
  have hne : l ≠ s.heap.objs.size := Nat.ne_of_lt (Heap.lt_size ho)
  exact comp_gen (walks_il r.h s.heap.objs.size l hne ns) (fun i => .fld "list_iterator" #[.ref l, .int i 0]) J (fun i V₀ ao V s fs' hj hs S' hm => ⟨(S'.frames _ hm).1, S'.see l _ (hs _ _ (hJ i V₀ ao hj))⟩) (fun i h hs => hs.1) hcell hkind hx
    (S.pinNew (Nat.le_refl _) rfl rfl (fun b o e => Heap.get?_push_of_some _ e) ⟨_, Heap.get?_push_size _ rfl, rfl, rfl⟩) h0 hnc (fun i V₀ ao m v s C D hi hP hj hD S' => by obtain ⟨t, rfl⟩ := hP; exact turn i V₀ ao m s C D _ hi hj hD S') fin
/-- [.. for x in a tuple of ints] -/
theorem comp_it {g : Addr × FK} {elt iter : Expr} {x : Str} {px : Pos} {ifs : List Expr} {scope : Scope} {cl : List (Str × Addr)} {pos : Pos} {Q : Value → Shared → Prop}
    (r : Rm A k) (S : SS G (g :: fs) V s) (hV : V l = some (.itup ns)) (J : Nat → View → AObj → Prop) (hJ : ∀ i V₀ ao, J i V₀ ao → V₀ l = some (.itup ns))
    (hcell : ∀ y ∈ scope.names, y.2 ≠ .cell) (hkind : scope.kind = .function) (hx : scope.names.lookup x = some .local) (h0 : J 0 V (.ilist []) ∨ J 0 V (.rlist [])) (hnc : ∀ i V₀ ao, J i V₀ ao → ∀ q, ao ≠ .code q)
    (turn : ∀ i V₀ ao m s C D it, i < ns.length → J i V₀ ao → V₀ D = none → SS G ((C, .loc (lup m x (.int (ns.getD i 0) 0))) :: it :: g :: fs) (upd V₀ D ao) s →
      wpAny (model PP w) A (forIn ifs true fun c r => if r = true then do let ok ← isTrue c (compEnvC scope cl C env) (eval c (compEnvC scope cl C env)); pure (ForInStep.yield ok) else pure (ForInStep.yield r)) (fun ok s₃ =>
        if ok = true then wpAny (model PP w) A (eval elt (compEnvC scope cl C env)) (fun y s₄ => wpAny (model PP w) A (call (.builtin "list.append") [.ref D, y]) (fun _ s₅ =>
            ∃ m' V₁ ao₁, J (i + 1) V₁ ao₁ ∧ V₁ D = none ∧ SS G ((C, .loc m') :: it :: g :: fs) (upd V₁ D ao₁) s₅) (fun _ _ => False) s₄) (fun _ _ => False) s₃
        else ∃ m' V₁ ao₁, J (i + 1) V₁ ao₁ ∧ V₁ D = none ∧ SS G ((C, .loc m') :: it :: g :: fs) (upd V₁ D ao₁) s₃) (fun _ _ => False) s)
    (fin : ∀ V₀ ao D s, J ns.length V₀ ao → V₀ D = none → SS G (g :: fs) (upd V₀ D ao) s → Q (.ref D) s) :
    wpAny (model PP w) A (pyIter (.ref l)) (fun it s₂ => wpAny (model PP w) A (newList []) (fun acc s₃ => wpAny (model PP w) A (newFunctionEnv scope env.globals cl [] env.qual none .none (some env)) (fun cenv s₄ =>
      codeAny (model PP w) A (.compStart (.ListComp elt [⟨.Name x px, iter, ifs, 0⟩] scope pos) 0 it acc { cenv with scope := relabel scope env }) (compPost (model PP w) A E none Q acc cenv.locals) s₄) E s₃) E s₂) E s := by
  obtain ⟨vs, n, ho, hi⟩ := S.it hV
  refine wpAny_pyIter_tuple ⟨_, ho, rfl, n, rfl⟩ ?_
  have hne : l ≠ s.heap.objs.size := Nat.ne_of_lt (Heap.lt_size ho)
  exact comp_gen (walks_it r.h s.heap.objs.size l hne ns) (fun i => .fld "tuple_iterator" #[.ref l, .int i 0]) J (fun i V₀ ao V s fs' hj hs S' hm => ⟨(S'.frames _ hm).1, S'.see l _ (hs _ _ (hJ i V₀ ao hj))⟩) (fun i h hs => hs.1) hcell hkind hx
    (S.pinNew (Nat.le_refl _) rfl rfl (fun b o e => Heap.get?_push_of_some _ e) ⟨_, Heap.get?_push_size _ rfl, rfl, rfl⟩) h0 hnc (fun i V₀ ao m v s C D hi hP hj hD S' => by obtain ⟨t, rfl⟩ := hP; exact turn i V₀ ao m s C D _ hi hj hD S') fin
end

section
variable {w : World} {G : Gd w} {f₀ : Addr × FK} {fs : Frs} {V V' : View} {s s' : Shared} {l a b d L I x dx C : Addr} {m : Loc} {ao : AObj} {A : Around} {E : Value → Shared → Prop} {env : Env} {name : Str}
/-- a method of an instance, as an object -/
theorem gm {expr : Bool} {Q : Value → Shared → Prop} {sl : List (Option Value)} {at' : List (Str × Value)} {f : Addr} (S : SS G (f₀ :: fs) V s) (hx : V x = some (.ins C dx sl)) (hd' : V dx = some (.atd at'))
    (hg : plainGet (hd.heap_39 w.params) C name = true) (hh : hasDictIn (hd.heap_39 w.params) C = true) (hf : findIn (hd.heap_39 w.params) (.ref C) name = some (some (.ref f))) (ht : isFn (hd.heap_39 w.params) (.ref f) = true)
    (hgf : specialIn (hd.heap_39 w.params) (.ref f) "__get__" = some (some (.builtin "function.__get__"))) (hk : takesIn (hd.heap_39 w.params) (.ref f) = some false) (hc : copiedNames.contains name = false) (hl : getA name at' = none)
    (h : ∀ b s', V b = none → SS G (f₀ :: fs) (upd V b (.raw (methodObj (.ref f) (.ref x)))) s' → Q (.ref b) s') : wpAny (model PP w) A (getAttr (.ref x) name expr) Q E s := by
  obtain ⟨sl', es, n, ho, h1, hod, h2, I⟩ := S.inst hx hd'
  obtain ⟨r, hr, er'⟩ := h2.get name
  rw [hl] at er'
  have : r = none := by cases r with | none => rfl | some _ => cases er'
  subst this
  exact get_bind S.K I (plainGet_of hg).1 (findObj_fn hh hf hgf hk hc (by show lookIn name (dictOf es n) = _; rw [lookIn_dict, hr])) (plainGet_of hg).2
    (wpAny_call (fn_get (s := { s with toks := s.toks + 1 }) (SS.K (s := { s with toks := s.toks + 1 }) (S.tok _)) (beq_iff_eq.mp ht) (handed_on rfl (h s.heap.objs.size _ (S.fresh (Nat.le_refl _))
      (S.new (s' := { s with heap := s.heap.push (methodObj (.ref f) (.ref x)), toks := s.toks + 1 }) S.ge (Nat.le_refl _) rfl rfl (fun b o e => Heap.get?_push_of_some _ e) ⟨_, Heap.get?_push_size _ rfl, rfl⟩)))))
/-- a starred call of a method object -/
theorem callM_star {pos : Pos} {args : List (Bool × Sem Value)} {f : Addr} {Q : Value → Shared → Prop} (hst : args.any (·.1) = true) (hf : fnIn (hd.heap_39 w.params) f = true)
    (h : wpAny (model PP w) A (evalArgs (.ref b) true args []) (fun a s₁ => (∃ (G : Gd w) (fs : Frs) (V : View), SS G fs V s₁ ∧ V b = some (.raw (methodObj (.ref f) (.ref x)))) ∧
      codeAny (model PP w) A (.call (.ref f) ⟨.ref x :: a.pos, a.kw⟩) (fun r s' => match r with | .ok (.ret v) => Q v s' | .ok _ => False | .error e => E e s') s₁) E s) :
    wpAny (model PP w) A (callWith pos (.ref b) [] args []) Q E s := by
  unfold callWith
  refine wpAny_bind (wpAny_holding (wpAny_mono h (fun a s₁ h₁ => wpAny_bind (wpAny_standAt ?_)) fun _ _ x => x))
  obtain ⟨⟨G, fs, V, S, hb⟩, hc⟩ := h₁
  obtain ⟨o, ho, e⟩ := S.see b _ hb
  have e : o = methodObj (.ref f) (.ref x) := e
  subst e
  obtain ⟨k, hk', L⟩ := keeps_M (M := model PP w) hf _ ⟨ho, S.K⟩
  simp only [hst, Bool.true_or]
  refine wpAny_bind (L.here ?_)
  have tail : ∀ {t : Sem Value}, wpAny (model PP w) A t Q E s₁ → wpAny (model PP w) A (t >>= fun r => holding [r] point >>= fun _ => pure r) Q E s₁ :=
    fun ht => wpAny_bind (wpAny_mono ht (fun r s₂ hr => wpAny_bind (wpAny_holding (wpAny_point (wpAny_pure hr)))) fun _ _ x => x)
  have C : wpAny (model PP w) A (call (.ref b) ([] ++ a.pos) a.kw) Q E s₁ := wpAny_call (method_call ho hc)
  rcases hk' with rfl | rfl | rfl <;> dsimp only <;> first | exact tail (wpAny_operate' C) | exact tail (by unfold callMarked; exact Calls.wpAny_keep C)
/-- a starred call of a method -/
theorem MethodCall_star {o : Expr} {apos pos : Pos} {args : List Expr} {Q : Value → Shared → Prop}
    (h : wpAny (model PP w) A (eval o env) (fun ov s₁ => wpAny (model PP w) A (getAttr ov name true) (fun f s₂ => wpAny (model PP w) A (callWith pos f [] (backTo pos (starEach args env)) []) Q E s₂) E s₁) E s)
    (he : eval (.Call (.Attribute o name apos) args [] pos) env = (do
      let ov ← eval o env
      standAt apos.atName
      let (f, first) ← holding [ov] (do pure (← getAttr ov name true, []))
      callWith pos f first (backTo pos (starEach args env)) []) := by rfl) :
    wpAny (model PP w) A (eval (.Call (.Attribute o name apos) args [] pos) env) Q E s := by
  rw [he]
  refine wpAny_bind (wpAny_mono h (fun ov s₁ h₁ => wpAny_bind (wpAny_standAt (wpAny_bind (wpAny_holding (wpAny_bind (wpAny_mono h₁ (fun fx s₂ h₂ => wpAny_pure ?_) fun _ _ x => x)))))) fun _ _ x => x)
  exact h₂
/-- a plain argument, then starred ones -/
theorem callM_one {pos pos' : Pos} {e : Expr} {rest : List Expr} {f : Addr} {Q : Value → Shared → Prop} (hst : ((starEach rest env)).any (·.1) = true) (hf : fnIn (hd.heap_39 w.params) f = true)
    (h : wpAny (model PP w) A (spliced (backTo pos (starEach (e :: rest) env))) (fun vs s₁ => (∃ (G : Gd w) (fs : Frs) (V : View), SS G fs V s₁ ∧ V b = some (.raw (methodObj (.ref f) (.ref x)))) ∧
      codeAny (model PP w) A (.call (.ref f) ⟨.ref x :: vs, []⟩) (fun r s' => match r with | .ok (.ret v) => Q v s' | .ok _ => False | .error e => E e s') s₁) E s)
    (he : starEach (e :: rest) env = (false, eval e env) :: starEach rest env := by rfl) :
    wpAny (model PP w) A (callWith pos' (.ref b) [] (backTo pos (starEach (e :: rest) env)) []) Q E s := by
  have hst' : (backTo pos (starEach (e :: rest) env)).any (·.1) = true := by
    rw [he]
    show (false || (backTo pos (starEach rest env)).any (·.1)) = true
    rw [Bool.false_or, ← hst]
    unfold backTo
    rw [List.any_map]
    rfl
  refine callM_star (f := f) (x := x) hst' hf ?_
  rw [he] at h ⊢
  exact evalArgs_plain h
/-- the last argument is starred: a list of ints -/
theorem items_star {pos p2 : Pos} {e : Expr} {Q : List Value → Shared → Prop}
    (h : wpAny (model PP w) A (eval e env) (fun v s₁ => ∃ (G : Gd w) (f₀ : Addr × FK) (fs : Frs) (V : View) (l : Addr) (ns : List Int), v = .ref l ∧ SS G (f₀ :: fs) V s₁ ∧ V l = some (.ilist ns) ∧ ns.length < 1000 ∧
      ∀ vs s₂, IntsAre vs ns → SS G (f₀ :: fs) V s₂ → Q vs s₂) E s) :
    wpAny (model PP w) A (spliced (backTo pos (starEach [.Starred e p2] env))) Q E s := by
  show wpAny _ _ (spliced ((true, (do let v ← eval e env; standAt pos; pure v)) :: [])) _ _ _
  refine star_il (wpAny_bind (wpAny_mono h (fun v s₁ h₁ => wpAny_bind (wpAny_standAt (wpAny_pure ?_))) fun _ _ x => x))
  obtain ⟨G, f₀, fs, V, l, ns, e1, S, hV, hz, h2⟩ := h₁
  refine ⟨G, f₀, fs, V, l, ns, e1, S, hV, hz, fun vs s₂ hI S2 => ?_⟩
  show wpAny _ _ (pure []) _ _ _
  exact wpAny_pure (by rw [List.append_nil]; exact h2 vs s₂ hI S2)
end

structure Tot (lt : Addr → Addr → Bool) : Prop where
  tr : ∀ a b c, lt b a = false → lt c b = false → lt c a = false
  as : ∀ a b, lt a b = true → lt b a = false
theorem g_set (xs : List Addr) (i j : Nat) (a : Addr) : (xs.set i a).getD j 0 = if i = j ∧ i < xs.length then a else xs.getD j 0 := by
  simp only [List.getD_eq_getElem?_getD, List.getElem?_set]
  by_cases h : i = j
  · subst h
    by_cases h2 : i < xs.length
    · simp [h2]
    · simp [h2, List.getElem?_eq_none (Nat.not_lt.mp h2)]
  · simp [h]
theorem g_set_eq {xs : List Addr} {i : Nat} {a : Addr} (h : i < xs.length) : (xs.set i a).getD i 0 = a := by rw [g_set, if_pos ⟨rfl, h⟩]
theorem g_set_ne {xs : List Addr} {i j : Nat} {a : Addr} (h : i ≠ j) : (xs.set i a).getD j 0 = xs.getD j 0 := by rw [g_set, if_neg (fun x => h x.1)]

noncomputable def Hp (lt : Addr → Addr → Bool) (st : Nat) (xs : List Addr) : Prop := ∀ i, i < xs.length → 0 < i → st ≤ (i - 1) / 2 → lt (xs.getD i 0) (xs.getD ((i - 1) / 2) 0) = false
structure Hole (lt : Addr → Addr → Bool) (st : Nat) (xs : List Addr) (p : Nat) : Prop where
  out : ∀ i, i < xs.length → 0 < i → st ≤ (i - 1) / 2 → i ≠ p → (i - 1) / 2 ≠ p → lt (xs.getD i 0) (xs.getD ((i - 1) / 2) 0) = false
  skip : ∀ c, c < xs.length → 0 < c → (c - 1) / 2 = p → st < p → lt (xs.getD c 0) (xs.getD ((p - 1) / 2) 0) = false
inductive Dsc (st : Nat) : Nat → Prop
  | base : Dsc st st
  | l {p : Nat} : Dsc st p → Dsc st (2 * p + 1)
  | r {p : Nat} : Dsc st p → Dsc st (2 * p + 2)
theorem Dsc.up {st p : Nat} (h : Dsc st p) : p = st ∨ (Dsc st ((p - 1) / 2) ∧ st < p) := by
  have ge : ∀ {p}, Dsc st p → st ≤ p := by
    intro p h
    induction h with
    | base => exact Nat.le_refl _
    | l _ ih => omega
    | r _ ih => omega
  cases h with
  | base => exact .inl rfl
  | @l p h => have := ge h; exact .inr ⟨by rw [show (2 * p + 1 - 1) / 2 = p from by omega]; exact h, by omega⟩
  | @r p h => have := ge h; exact .inr ⟨by rw [show (2 * p + 2 - 1) / 2 = p from by omega]; exact h, by omega⟩
theorem Dsc.ge {st p : Nat} (h : Dsc st p) : st ≤ p := by
  rcases h.up with h | h
  · omega
  · omega

theorem sdnF_heap {lt : Addr → Addr → Bool} (T : Tot lt) {st : Nat} {x : Addr} : ∀ (k : Nat) (xs : List Addr) (p : Nat), p ≤ k → p < xs.length → Dsc st p → Hole lt st xs p →
    (∀ c, c < xs.length → 0 < c → (c - 1) / 2 = p → lt (xs.getD c 0) x = false) → Hp lt st (sdnF lt st x k xs p) := by
  have place : ∀ (xs : List Addr) (p : Nat), p < xs.length → Hole lt st xs p → (∀ c, c < xs.length → 0 < c → (c - 1) / 2 = p → lt (xs.getD c 0) x = false) →
      (st < p → lt x (xs.getD ((p - 1) / 2) 0) = false) → (p = st ∨ st < p) → Hp lt st (xs.set p x) := by
    intro xs p hp H hc hx hs i hi h0 hst
    rw [List.length_set] at hi
    by_cases h1 : i = p
    · subst h1
      rw [g_set_eq hp, g_set_ne (by omega)]
      exact hx (by omega)
    · rw [g_set_ne (xs := xs) (i := p) (j := i) (fun e => h1 e.symm)]
      by_cases h2 : (i - 1) / 2 = p
      · rw [h2, g_set_eq hp]
        exact hc i hi h0 h2
      · rw [g_set_ne (fun e => h2 e.symm)]
        exact H.out i hi h0 hst h1 h2
  intro k
  induction k with
  | zero =>
    intro xs p hk hp D H hc
    have : p = 0 := by omega
    subst this
    exact place xs 0 hp H hc (fun h => by omega) (by have := D.ge; omega)
  | succ k ih =>
    intro xs p hk hp D H hc
    rw [sdnF]
    rcases D.up with e | ⟨D', hst⟩
    · rw [if_neg (by omega)]
      exact place xs p hp H hc (fun h => by omega) (.inl e)
    · rw [if_pos hst]
      have hge := D'.ge
      split
      · rename_i hlt
        have hq : (p - 1) / 2 < xs.length := by omega
        refine ih _ _ (by omega) (by rw [List.length_set]; exact hq) D' ⟨?_, ?_⟩ ?_
        · intro i hi h0 hs h1 h2
          rw [List.length_set] at hi
          have hip : i ≠ p := fun e => by subst e; exact h2 rfl
          rw [g_set_ne (fun e => hip e.symm)]
          by_cases h3 : (i - 1) / 2 = p
          · rw [h3, g_set_eq hp]
            exact H.skip i hi h0 h3 hst
          · rw [g_set_ne (fun e => h3 e.symm)]
            exact H.out i hi h0 hs hip h3
        · intro c hc' h0 h1 hs
          rw [List.length_set] at hc'
          have hqq : ((p - 1) / 2 - 1) / 2 ≠ p := by omega
          rw [g_set_ne (xs := xs) (i := p) (j := ((p - 1) / 2 - 1) / 2) (fun e => hqq e.symm)]
          have hqD : st ≤ ((p - 1) / 2 - 1) / 2 := by
            rcases D'.up with e | ⟨D'', _⟩
            · omega
            · exact D''.ge
          have hpar := H.out ((p - 1) / 2) hq (by omega) hqD (by omega) hqq
          by_cases hcp : c = p
          · subst hcp
            rw [g_set_eq hp]
            exact hpar
          · rw [g_set_ne (fun e => hcp e.symm)]
            refine T.tr _ (xs.getD ((p - 1) / 2) 0) _ hpar ?_
            have := H.out c hc' h0 (by omega) hcp (by omega)
            rwa [h1] at this
        · intro c hc' h0 h1
          rw [List.length_set] at hc'
          by_cases hcp : c = p
          · subst hcp
            rw [g_set_eq hp]
            exact T.as _ _ hlt
          · rw [g_set_ne (fun e => hcp e.symm)]
            refine T.tr _ (xs.getD ((p - 1) / 2) 0) _ (T.as _ _ hlt) ?_
            have := H.out c hc' h0 (by omega) hcp (by omega)
            rwa [h1] at this
      · rename_i hlt
        exact place xs p hp H hc (fun _ => by simpa using hlt) (.inr hst)

theorem sdn_heap {lt : Addr → Addr → Bool} (T : Tot lt) {st p : Nat} {xs : List Addr} (hp : p < xs.length) (D : Dsc st p) (H : Hole lt st xs p)
    (hc : ∀ c, c < xs.length → 0 < c → (c - 1) / 2 = p → lt (xs.getD c 0) (xs.getD p 0) = false) : Hp lt st (sdn lt xs st p) :=
  sdnF_heap T p xs p (Nat.le_refl _) hp D H hc

theorem supF_hole {lt : Addr → Addr → Bool} (T : Tot lt) {st : Nat} : ∀ (k : Nat) (xs : List Addr) (p : Nat), xs.length ≤ k + p → p < xs.length → Dsc st p → Hole lt st xs p →
    Hole lt st (supF lt k xs p).1 (supF lt k xs p).2 ∧ Dsc st (supF lt k xs p).2 ∧ (supF lt k xs p).2 < (supF lt k xs p).1.length ∧ (supF lt k xs p).1.length ≤ 2 * (supF lt k xs p).2 + 1 := by
  intro k
  induction k with
  | zero => intro xs p hk hp D H; omega
  | succ k ih =>
    intro xs p hk hp D H
    rw [supF]
    split
    · rename_i hc
      have hcl := chd_lt (lt := lt) hc
      have hsp := D.ge
      have hch : (chd lt xs p - 1) / 2 = p ∧ (∀ d, d < xs.length → 0 < d → (d - 1) / 2 = p → lt (xs.getD d 0) (xs.getD (chd lt xs p) 0) = false) ∧ Dsc st (chd lt xs p) := by
        have irr : ∀ a, lt a a = false := fun a => by
          cases e : lt a a with
          | false => rfl
          | true => have := T.as _ _ e; rw [e] at this; exact this
        unfold chd
        split
        · rename_i h
          refine ⟨by omega, fun d hd h0 h1 => ?_, D.r⟩
          rcases (show d = 2 * p + 1 ∨ d = 2 * p + 2 from by omega) with rfl | rfl
          · exact h.2
          · exact irr _
        · rename_i h
          refine ⟨by omega, fun d hd h0 h1 => ?_, D.l⟩
          rcases (show d = 2 * p + 1 ∨ d = 2 * p + 2 from by omega) with rfl | rfl
          · exact irr _
          · cases e : lt (xs.getD (2 * p + 1) 0) (xs.getD (2 * p + 2) 0) with
            | false => exact absurd ⟨hd, e⟩ h
            | true => exact T.as _ _ e
      obtain ⟨hc1, hc2, hc3⟩ := hch
      have hc4 : 0 < chd lt xs p := by omega
      generalize chd lt xs p = c at *
      refine ih _ _ (by rw [List.length_set]; omega) (by rw [List.length_set]; omega) hc3 ⟨?_, ?_⟩
      · intro i hi h0 hs h1 h2
        rw [List.length_set] at hi
        by_cases hip : i = p
        · subst hip
          rw [g_set_eq hp, g_set_ne (by omega)]
          exact H.skip c hcl.1 hc4 hc1 (by omega)
        · rw [g_set_ne (xs := xs) (i := p) (j := i) (fun e => hip e.symm)]
          by_cases h3 : (i - 1) / 2 = p
          · rw [h3, g_set_eq hp]
            exact hc2 i hi h0 h3
          · rw [g_set_ne (fun e => h3 e.symm)]
            exact H.out i hi h0 hs hip h3
      · intro d hd h0 h1 hs
        rw [List.length_set] at hd
        rw [hc1, g_set_eq hp, g_set_ne (by omega)]
        have := H.out d hd h0 (by omega) (by omega) (by omega)
        rwa [h1] at this
    · rename_i hc
      exact ⟨H, D, hp, by simp only; omega⟩
theorem Hole.set {lt : Addr → Addr → Bool} {st p : Nat} {xs : List Addr} {x : Addr} (H : Hole lt st xs p) : Hole lt st (xs.set p x) p where
  out := fun i hi h0 hs h1 h2 => by
    rw [List.length_set] at hi
    rw [g_set_ne (fun e => h1 e.symm), g_set_ne (fun e => h2 e.symm)]
    exact H.out i hi h0 hs h1 h2
  skip := fun c hc h0 h1 hs => by
    rw [List.length_set] at hc
    rw [g_set_ne (by omega), g_set_ne (by omega)]
    exact H.skip c hc h0 h1 hs
theorem sup_heap {lt : Addr → Addr → Bool} (T : Tot lt) {st : Nat} {xs : List Addr} (hp : st < xs.length) (H : Hole lt st xs st) : Hp lt st (sup lt xs st) := by
  obtain ⟨H', D, h1, h2⟩ := supF_hole T xs.length xs st (by omega) hp .base H
  unfold sup
  refine sdn_heap T (by rw [List.length_set]; exact h1) D H'.set ?_
  intro c hc h0 h3
  rw [List.length_set] at hc
  omega
theorem Hp.hole {lt : Addr → Addr → Bool} {st : Nat} {xs : List Addr} (H : Hp lt (st + 1) xs) : Hole lt st xs st where
  out := fun i hi h0 hs h1 h2 => H i hi h0 (by omega)
  skip := fun c hc h0 h1 hs => by omega
theorem hfyN_heap {lt : Addr → Addr → Bool} (T : Tot lt) {xs : List Addr} : ∀ i, i ≤ xs.length / 2 → Hp lt (xs.length / 2 - i) (hfyN lt xs (xs.length / 2) i) := by
  intro i
  induction i with
  | zero =>
    intro _ j hj h0 hs
    rw [hfyN] at hj
    omega
  | succ i ih =>
    intro hi
    have h := ih (by omega)
    have hp := hfyN_perm (lt := lt) (xs := xs) (k := xs.length / 2) (by omega) i (by omega)
    rw [hfyN]
    have e : xs.length / 2 - i = xs.length / 2 - 1 - i + 1 := by omega
    rw [e] at h
    rw [show xs.length / 2 - (i + 1) = xs.length / 2 - 1 - i from by omega]
    exact sup_heap T (by rw [hp.length_eq]; omega) h.hole
theorem hfy_heap {lt : Addr → Addr → Bool} (T : Tot lt) (xs : List Addr) : Hp lt 0 (hfy lt xs) := by
  have := hfyN_heap T (xs := xs) _ (Nat.le_refl _)
  rwa [Nat.sub_self] at this
/-- the first is the least -/
theorem Hp.least {lt : Addr → Addr → Bool} (T : Tot lt) {xs : List Addr} (H : Hp lt 0 xs) : ∀ i, i < xs.length → lt (xs.getD i 0) (xs.getD 0 0) = false := by
  have irr : ∀ a, lt a a = false := fun a => by
    cases e : lt a a with
    | false => rfl
    | true => have := T.as _ _ e; rw [e] at this; exact this
  intro i
  induction i using Nat.strongRecOn with
  | ind i ih =>
    intro hi
    rcases Nat.eq_zero_or_pos i with rfl | h0
    · exact irr _
    · exact T.tr _ _ _ (ih ((i - 1) / 2) (by omega) (by omega)) (H i hi h0 (Nat.zero_le _))
theorem Hp.least' {lt : Addr → Addr → Bool} (T : Tot lt) {xs : List Addr} (H : Hp lt 0 xs) : ∀ b ∈ xs, lt b (xs.getD 0 0) = false := fun b hb => by
  obtain ⟨i, hi, rfl⟩ := List.mem_iff_getElem.mp hb
  have := H.least T i hi
  rwa [show xs.getD i 0 = xs[i] from by simp [List.getD_eq_getElem?_getD, hi]] at this
theorem hpop_spec {lt : Addr → Addr → Bool} (T : Tot lt) {xs : List Addr} (H : Hp lt 0 xs) (hne : 0 < xs.length) : (xs.getD 0 0 :: hpop lt xs).Perm xs ∧ Hp lt 0 (hpop lt xs) := by
  unfold hpop
  split
  · rename_i h
    obtain ⟨a, rfl⟩ := List.length_eq_one_iff.mp (by omega : xs.length = 1)
    exact ⟨.refl _, fun i hi => by simp at hi⟩
  · rename_i h
    obtain ⟨x, ys, z, rfl⟩ : ∃ x ys z, xs = x :: (ys ++ [z]) := by
      cases xs with
      | nil => simp at hne
      | cons x r =>
        refine ⟨x, r.dropLast, r.getLast (by intro e; subst e; simp at h), ?_⟩
        rw [List.dropLast_concat_getLast]
    have e1 : (x :: (ys ++ [z])).dropLast = x :: ys := by
      rw [show x :: (ys ++ [z]) = (x :: ys) ++ [z] from rfl, List.dropLast_concat]
    have e2 : (x :: (ys ++ [z])).getLastD 0 = z := by
      rw [show x :: (ys ++ [z]) = (x :: ys) ++ [z] from rfl, List.getLastD_eq_getLast?, List.getLast?_concat]; rfl
    rw [e1, e2, List.set_cons_zero]
    refine ⟨?_, sup_heap T (by simp) ⟨?_, fun c hc h0 h1 hs => by omega⟩⟩
    · show (x :: sup lt (z :: ys) 0).Perm _
      refine List.Perm.cons _ ((sup_perm (by simp)).trans ?_)
      exact (List.perm_append_singleton z ys).symm
    · intro i hi h0 hs h1 h2
      have hl : (z :: ys).length = ys.length + 1 := rfl
      rw [hl] at hi
      have := H i (by rw [List.length_cons, List.length_append]; simp; omega) h0 (Nat.zero_le _)
      obtain ⟨j, rfl⟩ : ∃ j, i = j + 1 := ⟨i - 1, by omega⟩
      obtain ⟨k, hk⟩ : ∃ k, (j + 1 - 1) / 2 = k + 1 := ⟨(j + 1 - 1) / 2 - 1, by omega⟩
      rw [hk] at this ⊢
      rw [List.getD_cons_succ, List.getD_cons_succ] at this ⊢
      have a1 : j < ys.length := by omega
      have a2 : k < ys.length := by omega
      simp only [List.getD_eq_getElem?_getD, List.getElem?_append_left a1, List.getElem?_append_left a2] at this ⊢
      exact this
/-- what is told: the heap emptied from the first -/
noncomputable def drain (lt : Addr → Addr → Bool) : Nat → List Addr → List Addr
  | 0, _ => []
  | k + 1, xs => xs.getD 0 0 :: drain lt k (hpop lt xs)
theorem drain_spec {lt : Addr → Addr → Bool} (T : Tot lt) : ∀ (k : Nat) (xs : List Addr), xs.length = k → Hp lt 0 xs → (drain lt k xs).Perm xs ∧ (drain lt k xs).Pairwise (fun a b => lt b a = false) := by
  intro k
  induction k with
  | zero => intro xs h H; rw [List.length_eq_zero_iff.mp h]; exact ⟨.refl _, .nil⟩
  | succ k ih =>
    intro xs h H
    obtain ⟨h1, h2⟩ := hpop_spec T H (by omega)
    have hl := h1.length_eq
    rw [List.length_cons] at hl
    obtain ⟨i1, i2⟩ := ih (hpop lt xs) (by omega) h2
    rw [drain]
    refine ⟨(List.Perm.cons _ i1).trans h1, List.pairwise_cons.mpr ⟨fun b hb => ?_, i2⟩⟩
    exact H.least' T b (h1.mem_iff.mp (.tail _ (i1.mem_iff.mp hb)))

noncomputable def OT : Nat := 174060164953771995221538540108113426211031259088562569051391423332879976657297926220058914581662717446355387679728497823930105777207508343482353636083153507222618208111476477508812727069148718239583019951061373371545171458523664448
noncomputable def UT : Nat := 25034211336716235689438857869594089659542226656647733507970570982029288472980083680101210959782944917030301650281124330041254813978002135380182692182426821320643179945365237902437479910293209577678040987935787501443954067458236480
/-- numerator and denominator at a place -/
noncomputable def O (n : Nat) : Nat := (OT >>> (6 * n)) % 64
noncomputable def U (n : Nat) : Nat := (UT >>> (6 * n)) % 64
/-- how many binary figures -/
noncomputable def bl (n : Nat) : Nat := if n = 0 then 0 else n.log2 + 1
/-- where a place stands in the line -/
noncomputable def key (n : Nat) : Nat := (2 * n + 1) * 2 ^ (7 - bl n)
/-- a bound's part -/
noncomputable def pO (b d : Nat) : Nat := if b = 0 then d else O b
noncomputable def pU (b d : Nat) : Nat := if b = 0 then d else U b

theorem bl_eq (n : Nat) : Builtin.Int.intBits (n : Int) = bl n := by
  unfold Builtin.Int.intBits bl
  cases n with
  | zero => rfl
  | succ n => rfl
noncomputable def chk1 (p : Nat) : Bool :=
  decide (1 ≤ bl p) && decide (bl p ≤ 7) && (decide (p = 1) || decide (bl (p / 2) + 1 = bl p)) &&
  (decide (lft p = 0) || decide (lft p < p)) && (decide (rgt p = 0) || decide (rgt p < p)) &&
  (decide (lft p = 0) || decide (lft p = p / 2) || decide (bl (lft p) < bl (p / 2))) && (decide (rgt p = 0) || decide (rgt p = p / 2) || decide (bl (rgt p) < bl (p / 2))) &&
  (decide (lft p = p / 2) || decide (rgt p = p / 2)) && (decide (p = 1) || decide (lft p ≠ rgt p)) &&
  decide (O p = pO (lft p) 0 + pO (rgt p) 1) && decide (U p = pU (lft p) 1 + pU (rgt p) 0) && decide (1 ≤ O p) && decide (1 ≤ U p) && decide (O p + U p ≤ 34) &&
  decide (wayF 20 1 1 (O p) (U p) = some (p, 1)) && decide (O p * pU (lft p) 1 = pO (lft p) 0 * U p + 1) && (decide (rgt p = 0) || decide (O (rgt p) * U p = O p * U (rgt p) + 1)) &&
  (decide (lft p = 0) || decide (key (lft p) < key p)) && (decide (rgt p = 0) || decide (key p < key (rgt p)))
theorem chk1_all : (List.range 128).all (fun p => decide (p = 0) || chk1 p) = true := by decide +kernel
noncomputable def chk2 (p q : Nat) : Bool :=
  (decide (key p ≠ key q) || decide (p = q)) && (!decide (key p < key q) ||
    (decide (O p * U q < O q * U p) && (decide (p = lft q) || decide (q = rgt p) || (decide (lft q ≠ 0) && decide (key p < key (lft q))) || (decide (rgt p ≠ 0) && decide (key (rgt p) < key q)))))
theorem chk2_all : (List.range 128).all (fun p => (List.range 128).all fun q => decide (p = 0) || decide (q = 0) || chk2 p q) = true := by decide +kernel
/-- what is so of one place -/
structure PF (p : Nat) : Prop where
  bl1 : 1 ≤ bl p
  bl7 : bl p ≤ 7
  blh : p = 1 ∨ bl (p / 2) + 1 = bl p
  lt_l : lft p = 0 ∨ lft p < p
  lt_r : rgt p = 0 ∨ rgt p < p
  up_l : lft p = 0 ∨ lft p = p / 2 ∨ bl (lft p) < bl (p / 2)
  up_r : rgt p = 0 ∨ rgt p = p / 2 ∨ bl (rgt p) < bl (p / 2)
  par : lft p = p / 2 ∨ rgt p = p / 2
  ne : p = 1 ∨ lft p ≠ rgt p
  O_eq : O p = pO (lft p) 0 + pO (rgt p) 1
  U_eq : U p = pU (lft p) 1 + pU (rgt p) 0
  O1 : 1 ≤ O p
  U1 : 1 ≤ U p
  sum : O p + U p ≤ 34
  way : wayF 20 1 1 (O p) (U p) = some (p, 1)
  uni_l : O p * pU (lft p) 1 = pO (lft p) 0 * U p + 1
  uni_r : rgt p = 0 ∨ O (rgt p) * U p = O p * U (rgt p) + 1
  key_l : lft p = 0 ∨ key (lft p) < key p
  key_r : rgt p = 0 ∨ key p < key (rgt p)
theorem pf {p : Nat} (h1 : 1 ≤ p) (h2 : p < 128) : PF p := by
  have h := List.all_eq_true.mp chk1_all p (List.mem_range.mpr h2)
  have h0 : decide (p = 0) = false := decide_eq_false (by omega)
  rw [h0, Bool.false_or] at h
  simp only [chk1, Bool.and_eq_true, Bool.or_eq_true, decide_eq_true_eq] at h
  obtain ⟨⟨⟨⟨⟨⟨⟨⟨⟨⟨⟨⟨⟨⟨⟨⟨⟨⟨a1, a2⟩, a3⟩, a4⟩, a5⟩, a6⟩, a7⟩, a8⟩, a9⟩, a10⟩, a11⟩, a12⟩, a13⟩, a14⟩, a15⟩, a16⟩, a17⟩, a18⟩, a19⟩ := h
  exact ⟨a1, a2, a3, a4, a5, or_assoc.mp a6, or_assoc.mp a7, a8, a9, a10, a11, a12, a13, a14, a15, a16, a17, a18, a19⟩
/-- what is so of two places -/
structure PF2 (p q : Nat) : Prop where
  inj : key p = key q → p = q
  lt : key p < key q → O p * U q < O q * U p
  side : key p < key q → p = lft q ∨ q = rgt p ∨ (lft q ≠ 0 ∧ key p < key (lft q)) ∨ (rgt p ≠ 0 ∧ key (rgt p) < key q)
theorem pf2 {p q : Nat} (h1 : 1 ≤ p) (h2 : p < 128) (h3 : 1 ≤ q) (h4 : q < 128) : PF2 p q := by
  have h := List.all_eq_true.mp (List.all_eq_true.mp chk2_all p (List.mem_range.mpr h2)) q (List.mem_range.mpr h4)
  have h0 : decide (p = 0) = false := decide_eq_false (by omega)
  have h0' : decide (q = 0) = false := decide_eq_false (by omega)
  rw [h0, h0', Bool.false_or, Bool.false_or] at h
  simp only [chk2, Bool.and_eq_true, Bool.or_eq_true, decide_eq_true_eq, Bool.not_eq_true', decide_eq_false_iff_not] at h
  obtain ⟨a, b⟩ := h
  refine ⟨fun e => a.resolve_left fun n => n e, fun e => ?_, fun e => ?_⟩
  · exact (b.resolve_left fun n => n e).1
  · rcases (b.resolve_left fun n => n e).2 with ((c | c) | c) | c
    · exact .inl c
    · exact .inr (.inl c)
    · exact .inr (.inr (.inl c))
    · exact .inr (.inr (.inr c))

/-- the bounds of a place that are places -/
noncomputable def bnds (p : Nat) : List Nat := [lft p, rgt p].filter fun b => decide (b ≠ 0)
theorem mem_bnds {p b : Nat} : b ∈ bnds p ↔ (b = lft p ∨ b = rgt p) ∧ b ≠ 0 := by
  unfold bnds
  rw [List.mem_filter, decide_eq_true_eq]
  simp
theorem anc_all : (List.range 128).all (fun p => decide ((lft p = 0 ∨ lft p = p / 2 ∨ lft p = lft (p / 2)) ∧ (rgt p = 0 ∨ rgt p = p / 2 ∨ rgt p = rgt (p / 2)))) = true := by decide +kernel
theorem anc {p : Nat} (h : p < 128) : (lft p = 0 ∨ lft p = p / 2 ∨ lft p = lft (p / 2)) ∧ (rgt p = 0 ∨ rgt p = p / 2 ∨ rgt p = rgt (p / 2)) :=
  of_decide_eq_true (List.all_eq_true.mp anc_all p (List.mem_range.mpr h))
theorem lft_one : lft 1 = 0 ∧ rgt 1 = 0 := by decide
section
variable {ps : List Nat}
theorem Pl.bound (hP : Pl ps) : ∀ (k : Nat) {p : Nat}, p < k → p ∈ ps → (lft p = 0 ∨ lft p ∈ ps) ∧ (rgt p = 0 ∨ rgt p ∈ ps)
  | 0, p, h, _ => absurd h (Nat.not_lt_zero _)
  | k + 1, p, h, hp => by
    have h1 := hP.rng p hp
    by_cases e : p = 1
    · subst e; exact ⟨.inl lft_one.1, .inl lft_one.2⟩
    · have hu := hP.up p hp (by omega)
      have ih := Pl.bound hP k (p := p / 2) (by omega) hu
      have a := anc h1.2
      refine ⟨?_, ?_⟩
      · rcases a.1 with a | a | a
        · exact .inl a
        · rw [a]; exact .inr hu
        · rw [a]; exact ih.1
      · rcases a.2 with a | a | a
        · exact .inl a
        · rw [a]; exact .inr hu
        · rw [a]; exact ih.2
theorem Pl.lft (hP : Pl ps) {p : Nat} (hp : p ∈ ps) : lft p = 0 ∨ Mine.lft p ∈ ps := (hP.bound (p + 1) (Nat.lt_succ_self _) hp).1
theorem Pl.rgt (hP : Pl ps) {p : Nat} (hp : p ∈ ps) : rgt p = 0 ∨ Mine.rgt p ∈ ps := (hP.bound (p + 1) (Nat.lt_succ_self _) hp).2
theorem Pl.pf (hP : Pl ps) {p : Nat} (hp : p ∈ ps) : PF p := Mine.pf (hP.rng p hp).1 (hP.rng p hp).2
theorem Pl.pf2 (hP : Pl ps) {p q : Nat} (hp : p ∈ ps) (hq : q ∈ ps) : PF2 p q := Mine.pf2 (hP.rng p hp).1 (hP.rng p hp).2 (hP.rng q hq).1 (hP.rng q hq).2
theorem Pl.bnds (hP : Pl ps) {p b : Nat} (hp : p ∈ ps) (hb : b ∈ bnds p) : b ∈ ps ∧ b < p := by
  obtain ⟨h, h0⟩ := mem_bnds.mp hb
  have F := hP.pf hp
  rcases h with h | h <;> subst h
  · exact ⟨(hP.lft hp).resolve_left h0, F.lt_l.resolve_left h0⟩
  · exact ⟨(hP.rgt hp).resolve_left h0, F.lt_r.resolve_left h0⟩
theorem bnds_one : Mine.bnds 1 = [] := by decide
theorem Pl.bnds_nd (hP : Pl ps) {p : Nat} (hp : p ∈ ps) : (Mine.bnds p).Nodup := by
  have F := hP.pf hp
  rcases F.ne with e | e
  · subst e; rw [bnds_one]; exact List.nodup_nil
  · unfold Mine.bnds
    refine List.Nodup.sublist List.filter_sublist ?_
    simp [e]
theorem bnds_len (p : Nat) : (bnds p).length ≤ 2 := List.length_filter_le _ _
/-- in a rising list, what lies below the i-th lies before it -/
theorem rise_take {ps : List Nat} (h : ps.Pairwise (· < ·)) {i b n : Nat} (hn : ps[i]? = some n) (hb : b ∈ ps) (hlt : b < n) : b ∈ ps.take i := by
  obtain ⟨j, hj, e⟩ := List.mem_iff_getElem.mp hb
  obtain ⟨hi, e'⟩ := List.getElem?_eq_some_iff.mp hn
  have : j < i := by
    rcases Nat.lt_or_ge j i with h' | h'
    · exact h'
    · exfalso
      rcases Nat.lt_or_eq_of_le h' with h' | h'
      · have := List.pairwise_iff_getElem.mp h i j hi hj h'
        omega
      · subst h'; omega
  rw [List.mem_take_iff_getElem]
  exact ⟨j, by omega, e⟩
theorem rise_le {ps : List Nat} (h : ps.Pairwise (· < ·)) {i b n : Nat} (hn : ps[i]? = some n) (hb : b ∈ ps.take i) : b < n := by
  obtain ⟨j, hj, e⟩ := List.mem_take_iff_getElem.mp hb
  obtain ⟨hi, e'⟩ := List.getElem?_eq_some_iff.mp hn
  have := List.pairwise_iff_getElem.mp h j i (by omega) hi (by omega)
  omega
end
/-- a list of ints of the ground -/
noncomputable def GL {w : World} (G : Gd w) (l : Addr) (ns : List Int) : Prop := ∃ vs : Array Value, G.h.IsList l vs ∧ IntsAre vs.toList ns
section
variable {w : World} {G : Gd w} {f₀ : Addr × FK} {fs : Frs} {V V' : View} {s s' : Shared} {l a b L I : Addr} {m : Loc} {ao : AObj} {A : Around} {E : Value → Shared → Prop} {env : Env} {k : Nat} {Q : Value → Shared → Prop} {ns : List Int}
theorem sli_gl {value slice : Expr} {vl vu vk : Value} {lo hi st : Option Int} {ops : List Value} (S : SS G (f₀ :: fs) V s) (hV : GL G l ns) (pl : IsPart vl lo) (pu : IsPart vu hi) (pk : IsPart vk st) (h0 : st ≠ some 0) (hb : ns.length < 1000000)
    (h : ∀ b s', V b = none → SS G (f₀ :: fs) (upd V b (.ilist (pickNums ns lo hi st))) s' → Q (.ref b) s')
    (hs : subscripted slice false (.ref l) (.ref s.heap.objs.size) = operate ops (getItem (.ref l) (.ref s.heap.objs.size)) := by with_unfolding_all rfl) :
    wpAny (model PP w) A (subscriptTail value slice (.ref l) (.ref s.heap.objs.size)) Q E { s with heap := s.heap.push { cls := .type "slice", data := .fields #[vl, vu, vk] } } := by
  obtain ⟨vs, ⟨o, ho0, hc, n, hd0⟩, hi'⟩ := hV
  have ho := S.base _ _ ho0
  have hl := hi'.length
  rw [Array.length_toList] at hl
  have S' : SS G (f₀ :: fs) V { s with heap := s.heap.push { cls := .type "slice", data := .fields #[vl, vu, vk] } } := S.grow rfl rfl fun b o e => Heap.get?_push_of_some _ e
  have ho' : (s.heap.push { cls := .type "slice", data := .fields #[vl, vu, vk] }).get? l = some o := Heap.get?_push_of_some _ ho
  refine tail_any ⟨_, ho', hc⟩ slot_list_getitem.lookup (wpAny_getItem_list_slice ⟨o, ho', hc, n, hd0⟩ (Heap.IsSliceOf.new ..) pl pu pk h0 (h _ _ (S'.fresh (Nat.le_refl _)) (S'.new S'.ge (Nat.le_refl _) rfl rfl (fun b o e => Heap.get?_push_of_some _ e) ⟨_, Heap.get?_push_size _ rfl, _, 0, rfl, ?_⟩)) (by show vs.size ≤ 2 ^ 24; omega)) hs
  have := hi'.pick lo hi st
  rwa [show vs.toList.toArray = vs from Array.toArray_toList] at this
end
section
variable {w : World} {G : Gd w} {f₀ : Addr × FK} {fs : Frs} {V V' : View} {s s' : Shared} {l a b : Addr} {A : Around} {E : Value → Shared → Prop} {Q : Value → Shared → Prop}
theorem places_g {ns : List Int} (r : Rm A 8) (S : SS G (f₀ :: fs) V s) (hV : GL G l ns) (hl : ns.length < 100)
    (h : ∀ b s' ps, V b = none → Pl ps → ps.Pairwise (· < ·) → SS G (f₀ :: fs) (upd V b (.ilist (ps.map Int.ofNat))) s' → Q (.ref b) s') :
    wpAny (model PP w) A (call (.ref 218) [.ref l]) Q E s := by
  refine enter [(Str.ofString "script", .ref l)] S (by k_is) (by k_is) r.room (BindsTo.of_eq rfl) (locs rfl) (by decide) rfl rfl rfl ?_
  intro L s₁ S₁
  simp only [lvOf, List.foldl, er] at S₁
  have r' : ∀ env, Rm (A.deeper env) 7 := fun _ => r.deeper
  clear S
  with_reducible refine cons_hid ?_; intro _ _
  refine wpAny_Assign_Name ?_
  refine disp_il ?_
  refine wpAny_items_cons ?_
  with_reducible refine c_int (by assumption) ?_; intro _ _ _
  with_reducible refine wpAny_items_nil ?_
  refine ⟨G, _, _, _, [1], by assumption, .cons _ _ .nil, by decide, ?_⟩
  intro pl s2 hpl S2
  clear S₁
  refine sto (by assumption) ?_; intro _ _
  with_reducible refine Hid.out (by assumption) ?_
  with_reducible refine cons_hid ?_; intro _ _
  refine wpAny_For ?_
  refine disp_il ?_
  refine wpAny_items_cons ?_
  with_reducible refine wpAny_BinOp ?_
  refine wpAny_Call_NameR ?_
  refine nm_b (by assumption) (by k_is) (by walk_at "bt") (by decide +kernel) ?_
  refine callWith_method1 ?_
  refine wpAny_items_cons ?_
  with_reducible refine Subscript_ ?_
  refine nm_r (by assumption) (by walk_at "lk") ?_
  refine wpAny_Slice ?_
  refine ep_some ?_
  with_reducible refine c_int (by assumption) ?_; intro _ _ _
  refine ep_none ?_
  refine ep_some ?_
  with_reducible refine c_int (by assumption) ?_; intro _ _ _
  refine sli_gl (by assumption) hV (.int _ _) .none (.int _ _) (by decide) (by omega) ?_
  intro b1 s3 hb1 S3
  with_reducible refine wpAny_items_nil ?_
  refine sum_il (r' _) (by assumption) upd_eq ?_
  intro _ s4 S4
  have S5 := S4.forget hb1
  clear S3 S4 S2
  with_reducible refine c_int (by assumption) ?_; intro _ _ _
  with_reducible refine add_i (by assumption) ?_; intro _ _ _
  refine wpAny_items_cons ?_
  with_reducible refine wpAny_BinOp ?_
  refine wpAny_Call_NameR ?_
  refine nm_b (by assumption) (by k_is) (by walk_at "bt") (by decide +kernel) ?_
  refine callWith_method1 ?_
  refine wpAny_items_cons ?_
  with_reducible refine Subscript_ ?_
  refine nm_r (by assumption) (by walk_at "lk") ?_
  refine wpAny_Slice ?_
  refine ep_some ?_
  with_reducible refine c_int (by assumption) ?_; intro _ _ _
  refine ep_none ?_
  refine ep_some ?_
  with_reducible refine c_int (by assumption) ?_; intro _ _ _
  refine sli_gl (by assumption) hV (.int _ _) .none (.int _ _) (by decide) (by omega) ?_
  intro b2 s6 hb2 S6
  with_reducible refine wpAny_items_nil ?_
  refine sum_il (r' _) (by assumption) upd_eq ?_
  intro _ s7 S7
  have S8 := S7.forget hb2
  clear S6 S7 S5
  with_reducible refine c_int (by assumption) ?_; intro _ _ _
  with_reducible refine add_i (by assumption) ?_; intro _ _ _
  with_reducible refine wpAny_items_nil ?_
  generalize (pickNums ns (some 0) none (some 2)).sum + 21 = c1
  generalize (pickNums ns (some 1) none (some 2)).sum + 12 = c2
  refine ⟨G, _, _, _, [c1, c2], by assumption, .cons _ _ (.cons _ _ .nil), by show 2 < 1000000; decide, ?_⟩
  intro cl s9 hcl S9
  clear S8
  have hne : pl ≠ cl := fun e => by rw [← e, upd_eq] at hcl; cases hcl
  refine for_il (r' _) S9 upd_eq (fun i m V' => ∃ ps : List Nat, V' = upd (upd V cl (.ilist [c1, c2])) pl (.ilist (ps.map Int.ofNat)) ∧ PlU ps 1 ∧ ps.length ≤ 1 + 7 * i ∧ m (Str.ofString "places") = some (.ref pl))
    ⟨[1], upd_comm hne, ⟨by simp, by simp, by simp, by simp⟩, by decide, by walk_at "lk"⟩ ?_ ?_ ?_
  · rintro i m V' ⟨ps, rfl, _⟩
    exact (upd_ne hne.symm).trans upd_eq
  · rintro i m V' t it s10 hi ⟨ps, rfl, hu, hlen, m1⟩ S10
    have hi : i < 2 := hi
    generalize [c1, c2].getD i 0 = c
    with_reducible refine wpAny_assign_Name ?_
    refine sto (by assumption) ?_; intro _ _
    with_reducible refine cons_hid ?_; intro _ _
    refine wpAny_Assign_Name ?_
    with_reducible refine wpAny_BinOp ?_
    with_reducible refine c_int (by assumption) ?_; intro _ _ _
    with_reducible refine wpAny_BinOp ?_
    refine nm_i (by assumption) (by walk_at "lk") ?_; intro _
    with_reducible refine c_int (by assumption) ?_; intro _ _ _
    with_reducible refine mod_i (by assumption) (by first | decide | omega) ?_; intro _ _ _
    with_reducible refine add_i (by assumption) ?_; intro _ _ _
    obtain ⟨p, hp, hp1, hp2⟩ : ∃ p : Nat, 1 + c.fmod 127 = (p : Int) ∧ 1 ≤ p ∧ p < 128 := by
      have h1 := Int.fmod_nonneg_of_pos c (by decide : (0 : Int) < 127)
      have h2 := Int.fmod_lt_of_pos c (by decide : (0 : Int) < 127)
      exact ⟨(1 + c.fmod 127).toNat, by omega, by omega, by omega⟩
    rw [hp]
    refine sto (by assumption) ?_; intro _ _
    with_reducible refine Hid.out (by assumption) ?_
    with_reducible refine cons_hid ?_; intro _ _
    refine whl (fun k s => ∃ m, ∃ ps : List Nat, ∃ pc : Nat, SS G ((L, .loc m) :: it :: f₀ :: fs) (upd (upd V cl (.ilist [c1, c2])) pl (.ilist (ps.map Int.ofNat))) s ∧ m (Str.ofString "places") = some (.ref pl) ∧ m (Str.ofString "place") = some (.int pc 0) ∧ PlU ps pc ∧ 1 ≤ pc ∧ pc < 128 ∧ pc < 2 ^ k ∧ ps.length + k ≤ 1 + 7 * i + 7) 7
      ⟨_, ps, p, by assumption, by walk_at "lk", by walk_at "lk", ⟨hu.nd, hu.one, hu.rng, fun x hx h1 => (hu.up x hx h1).elim .inl fun e => .inl (by rw [e]; exact hu.one)⟩, hp1, hp2, hp2, by omega⟩ ?_
    clear S10 m1 hlen hu
    rintro k s ⟨m, ps, pc, S, m1, m2, hu, h1, h2, h3, h4⟩
    refine wpAny_isTrue_Compare1 ?_
    refine nm_i (by assumption) (by walk_at "lk") ?_; intro _
    refine nm_r (by assumption) (by walk_at "lk") ?_
    refine nin_il (by assumption) upd_eq ?_
    rw [any_mem]
    by_cases hin : pc ∈ ps
    · rw [decide_eq_true hin, Bool.not_true]
      with_reducible refine wpAny_truthy_bool ?_
      with_reducible refine ifF ?_
      with_reducible refine wpAny_execs_nil ?_
      with_reducible refine Hid.out (by assumption) ?_
      with_reducible refine wpAny_execs_nil ?_
      exact ⟨_, _, ⟨ps, rfl, ⟨hu.nd, hu.one, hu.rng, fun x hx h1 => (hu.up x hx h1).elim .inl fun e => .inl (by rw [e]; exact hin)⟩, by omega, by walk_at "lk"⟩, by assumption⟩
    · rw [decide_eq_false hin, Bool.not_false]
      have hpc : pc ≠ 1 := fun e => hin (by rw [e]; exact hu.one)
      cases k with
      | zero => simp at h3; omega
      | succ k =>
      with_reducible refine wpAny_truthy_bool ?_
      with_reducible refine ifT ?_
      with_reducible refine cons_hid ?_; intro _ _
      refine wpAny_Expr_any ?_
      refine MethodCall_ ?_
      refine nm_r (by assumption) (by walk_at "lk") ?_
      refine met_il (by assumption) upd_eq PySem.F.slot_list_append PySem.F.type_list_append ?_
      refine callWith_method1 ?_
      refine wpAny_items_cons ?_
      refine nm_i (by assumption) (by walk_at "lk") ?_; intro _
      with_reducible refine wpAny_items_nil ?_
      refine app_il (by assumption) upd_eq (by rw [List.length_map]; omega) ?_
      intro s9 S9
      rw [upd_upd] at S9
      with_reducible refine Hid.out (by assumption) ?_
      with_reducible refine cons_hid ?_; intro _ _
      with_reducible refine wpAny_AugAssign_Name ?_
      refine ln_i (by assumption) (by walk_at "lk") ?_; intro _
      with_reducible refine c_int (by assumption) ?_; intro _ _ _
      with_reducible refine ishr_i (by assumption) (by first | decide | omega) ?_; intro _ _ _
      refine sto (by assumption) ?_; intro _ _
      with_reducible refine Hid.out (by assumption) ?_
      with_reducible refine wpAny_execs_nil ?_
      refine ⟨k, Nat.lt_succ_self _, _, ps ++ [pc], pc / 2, by rw [List.map_append]; assumption, by walk_at "lk", by rw [← shr1]; walk_at "lk", hu.more h1 h2 hin, by omega, by omega, by rw [Nat.pow_succ] at h3; omega, by rw [List.length_append, List.length_singleton]; omega⟩
  · rintro m V' s10 ⟨ps, rfl, hu, hlen, m1⟩ S10
    have hlen : ps.length ≤ 15 := hlen
    with_reducible refine wpAny_execs_nil ?_
    with_reducible refine Hid.out (by assumption) ?_
    with_reducible refine cons_hid ?_; intro _ _
    with_reducible refine wpAny_Return_some ?_
    refine wpAny_Call_NameR ?_
    refine nm_b (by assumption) (by k_is) (by walk_at "bt") (by decide +kernel) ?_
    refine callWith_method1 ?_
    refine wpAny_items_cons ?_
    refine nm_r (by assumption) (by walk_at "lk") ?_
    with_reducible refine wpAny_items_nil ?_
    refine srt_il (by assumption) upd_eq (by rw [List.length_map]; omega) ?_
    intro b s11 ns' hb hperm hsort S11
    with_reducible refine Hid.out (by assumption) ?_
    obtain ⟨ps', rfl, hp'⟩ : ∃ ps' : List Nat, ns' = ps'.map Int.ofNat ∧ ps'.Perm ps := by
      refine ⟨ns'.map Int.toNat, ?_, ?_⟩
      · rw [List.map_map]
        conv => lhs; rw [← List.map_id ns']
        refine List.map_congr_left fun x hx => ?_
        obtain ⟨y, _, rfl⟩ := List.mem_map.mp (hperm.mem_iff.mp hx)
        rfl
      · have := hperm.map Int.toNat
        rw [List.map_map, show (Int.toNat ∘ Int.ofNat) = id from rfl, List.map_id] at this
        exact this
    have hmem := fun x => hp'.mem_iff (a := x)
    refine h b _ ps' ?_ ⟨hp'.nodup_iff.mpr hu.nd, (hmem _).mpr hu.one, fun p hp => hu.rng p ((hmem _).mp hp), fun p hp h1 => (hmem _).mpr ((hu.up p ((hmem _).mp hp) h1).elim id fun e => by rw [e]; exact hu.one), by rw [hp'.length_eq]; omega⟩ ?_ (S11.pop.weakU ?_)
    · have h1 : b ≠ pl := fun e => by rw [e, upd_eq] at hb; cases hb
      rw [upd_ne h1] at hb
      have h2 : b ≠ cl := fun e => by rw [e, upd_eq] at hb; cases hb
      rwa [upd_ne h2] at hb
    · rw [List.pairwise_map] at hsort
      have hnd : ps'.Pairwise (· ≠ ·) := hp'.nodup_iff.mpr hu.nd
      exact (hsort.and hnd).imp fun {a b} hab => by
        have h1 : (a : Int) ≤ (b : Int) := hab.1
        omega
    · intro a ao ha
      rw [upd_ne hne.symm] at hcl
      exact upd_old (by rw [upd_ne hne]; exact hpl) (upd_old hcl ha)
end
/-- law's text -/
noncomputable def lawDef : Option Stmt := PySem.Challenge.pw_op0251_01.main.body.getLast?
noncomputable def lawBody : List Stmt := match lawDef with | some (.FunctionDef _ _ b _ _ _ _ _ _ _) => b | _ => []
noncomputable def lawScope : Scope := match lawDef with | some (.FunctionDef _ _ _ _ _ _ sc _ _ _) => sc | _ => { kind := .function, names := [], isGenerator := false, isCoroutine := false }
noncomputable abbrev lawEnv (L : Addr) : Env := envOfC (Str.ofString "law") lawScope L 244 (.ref 243)
section
variable {w : World} {G : Gd w} {f₀ : Addr × FK} {fs : Frs} {V V' : View} {s s' : Shared} {l a b d x L : Addr} {m : Loc} {A : Around} {E : Value → Shared → Prop} {ns : List Int}
theorem getD_map (ps : List Nat) (i : Nat) (hi : i < ps.length) : (ps.map Int.ofNat).getD i 0 = ((ps.getD i 0 : Nat) : Int) := by
  rw [List.getD_eq_getElem?_getD, List.getElem?_map, List.getD_eq_getElem?_getD, List.getElem?_eq_getElem hi]
  rfl
theorem stA {outer : List Env} {Q : Flow → Shared → Prop} (r : Rm A 84) (S : SS G ((L, .loc m) :: fs) V s) (hA : A.frames = some outer) (hout : ∀ y ∈ outer, y.scope.kind ≠ .module ∧ ∃ L', y.frame = some L' ∧ (L' = L ∨ ∃ lv, (L', FK.loc lv) ∈ fs))
    (hm : m (Str.ofString "script") = some (.ref l)) (hl : GL G l ns) (hlen : ns.length < 100)
    (h : ∀ m' V' s' pl x q W ps rl, Pl ps → ps.Pairwise (· < ·) → V pl = none → W = upd V pl (.ilist (ps.map Int.ofNat)) → Srt W V' x q → q.N = ps → (∀ k ∈ ps, q.np k = (bnds k).length) → (∀ k ∈ ps, q.sc k = ps.filter fun n => decide (k ∈ bnds n)) →
      q.rd = some (rl, ps.filter fun n => decide (q.np n = 0)) → q.npass = 0 → q.nfin = 0 → m' (Str.ofString "sorter") = some (.ref x) → m' (Str.ofString "places") = some (.ref pl) → SS G ((L, .loc m') :: fs) V' s' →
      wpAny (model PP w) A (execs (lawBody.drop 4) (lawEnv L)) Q (fun _ _ => False) s') :
    wpAny (model PP w) A (execs lawBody (lawEnv L)) Q (fun _ _ => False) s := by
  show wpAny _ _ (execs (_ :: _) (envOfC _ { kind := _, names := _ :: _, isGenerator := _, isCoroutine := _, more := _ } _ _ _)) _ _ _
  with_reducible refine cons_hid ?_; intro _ _
  refine wpAny_Assign_Name ?_
  refine wpAny_Call_NameR ?_
  refine nm_g (by assumption) (by k_is) ?_
  refine callWith_K (SS.K (by assumption)) (by k_is) ?_
  refine wpAny_items_cons ?_
  refine nm_r (by assumption) (by walk_at "lk") ?_
  with_reducible refine wpAny_items_nil ?_
  refine ⟨SS.K (by assumption), ?_⟩
  refine places_g (r.le (by decide)) (by assumption) hl hlen ?_
  intro pl s2 ps hpl hP hsort S2
  refine sto (by assumption) ?_; intro _ _
  with_reducible refine Hid.out (by assumption) ?_
  with_reducible refine cons_hid ?_; intro _ _
  refine wpAny_Assign_Name ?_
  refine wpAny_Call_NameR ?_
  refine nm_g (by assumption) (by k_is) ?_
  refine callWith_K0 (SS.K (by assumption)) (by k_is) ?_
  refine sorter_c (r.le (by decide)) (by assumption) ?_
  intro x V1 s3 q T hN hrd hnpass hnfin hx S3
  obtain ⟨W, hW⟩ : ∃ W, W = upd V pl (AObj.ilist (List.map Int.ofNat ps)) := ⟨_, rfl⟩
  have hWpl : W pl = some (AObj.ilist (List.map Int.ofNat ps)) := by rw [hW]; exact upd_eq
  rw [← hW] at T
  have hps : ps.length < 100 := Nat.lt_trans hP.len (by decide)
  clear S S2
  refine sto (by assumption) ?_; intro _ _
  with_reducible refine Hid.out (by assumption) ?_
  with_reducible refine cons_hid ?_; intro _ _
  refine wpAny_For ?_
  refine nm_r (by assumption) (by walk_at "lk") ?_
  refine for_il r (by assumption) (T.sub _ _ hWpl) (fun i m V => ∃ q, Srt W V x q ∧ q.N = ps.take i ∧ (∀ k ∈ q.N, q.np k = (bnds k).length) ∧ (∀ k ∈ q.N, q.sc k = q.N.filter fun n => decide (k ∈ bnds n)) ∧ q.rd = none ∧ q.npass = 0 ∧ q.nfin = 0 ∧ m (Str.ofString "sorter") = some (.ref x) ∧ m (Str.ofString "places") = some (.ref pl))
    ⟨q, T, by rw [hN]; rfl, by rw [hN]; simp, by rw [hN]; simp, hrd, hnpass, hnfin, by walk_at "lk", by walk_at "lk"⟩ ?_ ?_ ?_
  · rintro i m V' ⟨q, T, _⟩
    exact T.sub _ _ hWpl
  · rintro i m1 V1 t it s5 hi ⟨q, T, hN, hnp, hsc, hrd, hnpass, hnfin, m1, m2⟩ S5
    rw [List.length_map] at hi
    rw [getD_map ps i hi]
    generalize hn : ps.getD i 0 = n
    with_reducible refine wpAny_assign_Name ?_
    refine sto (by assumption) ?_; intro _ _
    with_reducible refine cons_hid ?_; intro _ _
    refine wpAny_Expr_any ?_
    refine MethodCall_star ?_
    refine nm_r (by assumption) (by walk_at "lk") ?_
    refine gm (by assumption) T.self T.atts (by k_is) (by k_is) (by k_is) (by k_is) (by k_is) (by k_is) rfl rfl ?_
    intro mo s6 hmo S6
    refine callM_one (f := 157) (x := x) (by rfl) (by k_is) ?_
    refine wpAny_items_cons ?_
    refine nm_i (by assumption) (by walk_at "lk") ?_; intro _
    refine items_star ?_
    skip
    refine lc_start [] rfl rfl (by decide) ?_
    refine disp_it ?_
    refine wpAny_items_cons ?_
    refine wpAny_Call_NameR ?_
    refine nm_g (by assumption) (by k_is) ?_
    refine callWith_K (SS.K (by assumption)) (by k_is) ?_
    refine wpAny_items_cons ?_
    refine nm_i (by assumption) (by walk_at "lk") ?_; intro _
    with_reducible refine wpAny_items_nil ?_
    refine ⟨SS.K (by assumption), ?_⟩
    have hni : ps[i]? = some n := by rw [← hn, List.getD_eq_getElem?_getD, List.getElem?_eq_getElem hi]; rfl
    have hnP : n ∈ ps := List.mem_of_getElem? hni
    have hnr := hP.rng n hnP
    refine left_c (r.le (by decide)) (by assumption) hnr.1 hnr.2 ?_
    intro _ _ _
    refine wpAny_items_cons ?_
    refine wpAny_Call_NameR ?_
    refine nm_g (by assumption) (by k_is) ?_
    refine callWith_K (SS.K (by assumption)) (by k_is) ?_
    refine wpAny_items_cons ?_
    refine nm_i (by assumption) (by walk_at "lk") ?_; intro _
    with_reducible refine wpAny_items_nil ?_
    refine ⟨SS.K (by assumption), ?_⟩
    refine right_c (r.le (by decide)) (by assumption) hnr.2 ?_
    intro _ _ _
    with_reducible refine wpAny_items_nil ?_
    refine ⟨G, _, _, _, [(lft n : Int), (rgt n : Int)], by assumption, .cons _ _ (.cons _ _ .nil), by show 2 < 1000000; decide, ?_⟩
    intro tp s7 htp S7
    clear S6 S5
    refine comp_it r S7 upd_eq (fun i V₀ ao => V₀ = upd (upd V1 mo (.raw (methodObj (.ref 157) (.ref x)))) tp (.itup [(lft n : Int), (rgt n : Int)]) ∧ ao = .ilist ((([lft n, rgt n].take i).filter fun b => decide (b ≠ 0)).map Int.ofNat)) ?_ (by decide) rfl rfl (.inl ⟨rfl, rfl⟩) (fun i V₀ ao ⟨_, h⟩ q => by rw [h]; nofun) ?_ ?_
    · rintro i V₀ ao ⟨rfl, _⟩
      exact upd_eq
    · rintro j V₀ ao m9 s9 C D it2 hj ⟨rfl, rfl⟩ hD S9
      have hj : j < 2 := hj
      obtain ⟨c, hc1, hc2⟩ : ∃ c : Nat, [(lft n : Int), (rgt n : Int)].getD j 0 = (c : Int) ∧ [lft n, rgt n].take (j + 1) = [lft n, rgt n].take j ++ [c] := by
        match j, hj with
        | 0, _ => exact ⟨lft n, rfl, rfl⟩
        | 1, _ => exact ⟨rgt n, rfl, rfl⟩
      rw [hc1] at S9
      refine wpAny_tests_one ?_
      refine wpAny_isTrue_value ?_
      refine nm_i (by assumption) (by walk_at "lk") ?_; intro _
      with_reducible refine P.truthy_int ?_
      split
      · rename_i hz
        have hz : c ≠ 0 := fun e => by rw [e] at hz; exact absurd hz (by decide)
        refine nm_i (by assumption) (by walk_at "lk") ?_; intro _
        refine app_il (by assumption) upd_eq (by rw [List.length_map]; refine Nat.lt_of_le_of_lt (List.length_filter_le _ _) (by rw [List.length_take]; omega)) ?_
        intro s10 S10
        rw [upd_upd] at S10
        refine ⟨lup m9 (Str.ofString "bound") (.int (c : Int) 0), _, _, ⟨rfl, rfl⟩, hD, ?_⟩
        rw [hc2, List.filter_append, List.filter_cons_of_pos (by simp [hz]), List.filter_nil, List.map_append]
        exact S10
      · rename_i hz
        have hz : c = 0 := by
          rcases Nat.eq_zero_or_pos c with h | h
          · exact h
          · exact absurd (by rw [bne_iff_ne]; omega) hz
        refine ⟨lup m9 (Str.ofString "bound") (.int (c : Int) 0), _, _, ⟨rfl, rfl⟩, hD, ?_⟩
        rw [hc2, List.filter_append, List.filter_cons_of_neg (by simp [hz]), List.filter_nil, List.append_nil]
        assumption
    · rintro V₀ ao D s9 ⟨rfl, rfl⟩ hD S9
      change SS G _ (upd _ D (.ilist ((bnds n).map Int.ofNat))) s9 at S9
      refine ⟨G, _, _, _, D, _, rfl, S9, upd_eq, by rw [List.length_map]; have := bnds_len n; omega, ?_⟩
      intro vs s10 hI S10
      have T1 : Srt W (upd V1 mo (.raw (methodObj (.ref 157) (.ref x)))) x q := T.new hmo
      have T2 : Srt W (upd (upd V1 mo (.raw (methodObj (.ref 157) (.ref x)))) tp (.itup [(lft n : Int), (rgt n : Int)])) x q := T1.new htp
      have T3 := T2.new (ao := .ilist ((bnds n).map Int.ofNat)) hD
      have hnN : n ∉ q.N := by
        rw [hN]
        intro hc
        exact absurd (rise_le hsort hni hc) (Nat.lt_irrefl n)
      have hNps : ∀ k ∈ q.N, k ∈ ps := fun k hk => by rw [hN] at hk; exact List.mem_of_mem_take hk
      have hNl : q.N.length < 100 := by rw [hN, List.length_take]; omega
      refine ⟨⟨G, _, _, S10, (upd_old hD (upd_old htp upd_eq))⟩, ?_⟩
      have hbN : ∀ b ∈ bnds n, b ∈ q.N := fun b hb => by
        obtain ⟨h1, h2⟩ := hP.bnds hnP hb
        rw [hN]
        exact rise_take hsort hni h1 h2
      refine add_c (r.le (by decide)) S10 T3 hnN hNl hrd hI hbN (hP.bnds_nd hnP) (by have := bnds_len n; omega) (fun k hk => by rw [hsc k hk]; exact Nat.lt_of_le_of_lt (List.length_filter_le _ _) (by omega)) ?_
      intro V' s11 y d u T4 S11
      try dsimp only
      with_reducible refine Hid.out (by assumption) ?_
      with_reducible refine wpAny_execs_nil ?_
      have htk : ps.take (i + 1) = ps.take i ++ [n] := by rw [List.take_add_one, hni]; rfl
      refine ⟨_, _, ⟨_, T4, by rw [htk, ← hN]; rfl, ?_, ?_, hrd, hnpass, hnfin, by walk_at "lk", by walk_at "lk"⟩, S11⟩
      · intro k hk
        show (if k = n then ((bnds n).length : Int) else if k = n then 0 else q.np k) = _
        by_cases e : k = n
        · rw [if_pos e, e]
        · rw [if_neg e, if_neg e]
          exact hnp k ((List.mem_append.mp hk).resolve_right fun h => e (List.mem_singleton.mp h))
      · intro k hk
        show (if k ∈ bnds n then (if k = n then [] else q.sc k) ++ [n] else (if k = n then [] else q.sc k)) = (q.N ++ [n]).filter fun y => decide (k ∈ bnds y)
        rw [List.filter_append]
        by_cases e : k = n
        · have h1 : k ∉ bnds n := fun h => by have := (hP.bnds hnP h).2; omega
          rw [if_neg h1, if_pos e, List.filter_cons_of_neg (by simpa using h1), List.filter_nil, List.append_nil]
          symm
          rw [List.filter_eq_nil_iff]
          intro y hy hc
          have hc := of_decide_eq_true hc
          have h2 := (hP.bnds (hNps y hy) hc).2
          have h3 := rise_le hsort hni (by rw [← hN]; exact hy)
          omega
        · have hk' : k ∈ q.N := (List.mem_append.mp hk).resolve_right fun h => e (List.mem_singleton.mp h)
          rw [if_neg e]
          split
          · rename_i h
            rw [List.filter_cons_of_pos (by simpa using h), List.filter_nil, hsc k hk']
          · rename_i h
            rw [List.filter_cons_of_neg (by simpa using h), List.filter_nil, List.append_nil, hsc k hk']
  · rintro m3 V3 s6 ⟨q, T, hN, hnp, hsc, hrd, hnpass, hnfin, m1, m2⟩ S6
    rw [List.length_map, List.take_length] at hN
    with_reducible refine wpAny_execs_nil ?_
    with_reducible refine Hid.out (by assumption) ?_
    with_reducible refine cons_hid ?_; intro _ _
    with_reducible refine wpAny_If ?_
    refine wpAny_isTrue_Compare1 ?_
    refine MethodCall_ ?_
    refine nm_r (by assumption) (by walk_at "lk") ?_
    refine ma (by assumption) T.self T.atts (by k_is) (by k_is) (by k_is) rfl ?_
    refine callWith_K0 (SS.K (by assumption)) (by k_is) ?_
    refine prepare_c (r.le (by decide)) (by assumption) T hrd hA ?_ (by rw [hN]; omega) ?_ ?_
    · intro y hy
      obtain ⟨h1, L', h2, h3⟩ := hout y hy
      rcases h3 with rfl | ⟨lv, h3⟩
      · exact ⟨h1, _, _, h2, .head _⟩
      · exact ⟨h1, _, _, h2, .tail _ h3⟩
    · intro n hn
      rw [hsc n hn]
      refine ⟨Nat.lt_of_le_of_lt (List.length_filter_le _ _) (by rw [hN]; omega), fun c hc => ?_⟩
      obtain ⟨h1, h2⟩ := List.mem_filter.mp hc
      exact ⟨h1, (hP.bnds (by rw [← hN]; exact h1) (of_decide_eq_true h2)).2⟩
    · intro V4 s8 rl T4 S8
      with_reducible refine wpAny_Constant_none ?_
      with_reducible refine PyProof.Rows.isnot_none_none ?_
      with_reducible refine wpAny_truthy_bool ?_
      with_reducible refine ifF ?_
      with_reducible refine wpAny_execs_nil ?_
      with_reducible refine Hid.out (by assumption) ?_
      exact h _ _ _ pl x _ W ps rl hP hsort hpl hW T4 hN (fun k hk => hnp k (by rw [hN]; exact hk)) (fun k hk => by rw [← hN]; exact hsc k (by rw [hN]; exact hk)) (by rw [← hN]) hnpass hnfin m1 m2 S8
end

noncomputable def row (ps : List Nat) (k : Nat) : List Nat := ps.filter fun p => decide (bl p = k)
noncomputable def kids (ps : List Nat) (n : Nat) : List Nat := ps.filter fun c => decide (c / 2 = n)
/-- how many bounds are not done -/
noncomputable def cnt (dn : Nat → Bool) (p : Nat) : Nat := ((bnds p).filter fun b => !dn b).length
theorem mem_row {ps : List Nat} {k p : Nat} : p ∈ row ps k ↔ p ∈ ps ∧ bl p = k := by unfold row; rw [List.mem_filter, decide_eq_true_eq]
theorem sorted_ext : ∀ {l1 l2 : List Nat}, l1.Pairwise (· < ·) → l2.Pairwise (· < ·) → (∀ x, x ∈ l1 ↔ x ∈ l2) → l1 = l2
  | [], [], _, _, _ => rfl
  | [], b :: l2, _, _, h => absurd ((h b).mpr (.head _)) (by simp)
  | a :: l1, [], _, _, h => absurd ((h a).mp (.head _)) (by simp)
  | a :: l1, b :: l2, h1, h2, h => by
    obtain ⟨a1, a2⟩ := List.pairwise_cons.mp h1
    obtain ⟨b1, b2⟩ := List.pairwise_cons.mp h2
    have e : a = b := by
      rcases List.mem_cons.mp ((h a).mp (.head _)) with e | e
      · exact e
      · rcases List.mem_cons.mp ((h b).mpr (.head _)) with e' | e'
        · exact e'.symm
        · have := b1 a e; have := a1 b e'; omega
    subst e
    congr 1
    refine sorted_ext a2 b2 fun x => ?_
    have hx := h x
    rw [List.mem_cons, List.mem_cons] at hx
    constructor
    · intro hm
      have := a1 x hm
      exact (hx.mp (.inr hm)).resolve_left (by omega)
    · intro hm
      have := b1 x hm
      exact (hx.mpr (.inr hm)).resolve_left (by omega)
theorem nd_take {l : List Nat} (h : l.Nodup) {i n : Nat} (hn : l[i]? = some n) : n ∉ l.take i := fun hc => by
  obtain ⟨j, hj, e⟩ := List.mem_take_iff_getElem.mp hc
  obtain ⟨hi, e'⟩ := List.getElem?_eq_some_iff.mp hn
  exact List.pairwise_iff_getElem.mp h j i (by omega) hi (by omega) (e.trans e'.symm)
theorem bl_mono {p q : Nat} (h : p ≤ q) : bl p ≤ bl q := by
  unfold bl
  by_cases h0 : p = 0
  · rw [if_pos h0]; omega
  · rw [if_neg h0, if_neg (by omega)]
    have : p.log2 ≤ q.log2 := (Nat.le_log2 (by omega)).mpr (Nat.le_trans (Nat.log2_self_le h0) h)
    omega
theorem bl_one {p : Nat} (h0 : p ≠ 0) (h : bl p = 1) : p = 1 := by
  unfold bl at h
  rw [if_neg h0] at h
  have h1 : p.log2 < 1 := by omega
  have := (Nat.log2_lt h0).mp h1
  omega
theorem decS_fold : ∀ (cs : List Nat) (st : (Nat → Int) × List Nat), cs.Nodup → cs.foldl decS st = ((fun k => if k ∈ cs then st.1 k - 1 else st.1 k), st.2 ++ cs.filter fun c => decide (st.1 c - 1 = 0))
  | [], st, _ => by simp
  | c :: cs, st, h => by
    obtain ⟨h1, h2⟩ := List.nodup_cons.mp h
    rw [List.foldl_cons, decS_fold cs _ h2]
    have hn : ∀ c' ∈ cs, c' ≠ c := fun c' h e => h1 (e ▸ h)
    refine Prod.ext ?_ ?_
    · funext k
      show (if k ∈ cs then (decS st c).1 k - 1 else (decS st c).1 k) = _
      unfold decS
      by_cases e : k = c
      · subst e; simp [h1]
      · simp [e]
    · show (decS st c).2 ++ cs.filter (fun c' => decide ((decS st c).1 c' - 1 = 0)) = _
      have e1 : cs.filter (fun c' => decide ((decS st c).1 c' - 1 = 0)) = cs.filter fun c' => decide (st.1 c' - 1 = 0) := by
        refine List.filter_congr fun c' hc => ?_
        unfold decS
        simp [hn c' hc]
      rw [e1]
      unfold decS
      by_cases e : st.1 c - 1 = 0
      · rw [List.filter_cons_of_pos (by simpa using e)]; simp [e]
      · rw [List.filter_cons_of_neg (by simpa using e)]; simp [e]
theorem flt_step (dn : Nat → Bool) (n : Nat) (h : dn n = false) : ∀ (l : List Nat), l.Nodup → (l.filter fun b => !(dn b || decide (b = n))).length + (if n ∈ l then 1 else 0) = (l.filter fun b => !dn b).length
  | [], _ => rfl
  | a :: l, hl => by
    obtain ⟨h1, h2⟩ := List.nodup_cons.mp hl
    have ih := flt_step dn n h l h2
    by_cases e : a = n
    · subst e
      rw [if_neg h1] at ih
      simp [h]
      simpa using ih
    · have e' : (n ∈ a :: l) ↔ n ∈ l := by simp [Ne.symm e]
      by_cases hd : dn a = true
      · simp only [List.filter_cons, hd, Bool.true_or, Bool.not_true, Bool.false_eq_true, if_false, e']
        exact ih
      · have hd : dn a = false := by simpa using hd
        simp only [List.filter_cons, hd, Bool.false_or, e', decide_eq_false e, Bool.not_false, if_true, List.length_cons]
        omega
section
variable {ps : List Nat} {k n : Nat} {dn : Nat → Bool} {np : Nat → Int} {sc : Nat → List Nat}
theorem Pl.blt (hP : Pl ps) {p b : Nat} (hp : p ∈ ps) (hb : b ∈ Mine.bnds p) : (b = p / 2 ∨ bl b < bl (p / 2)) ∧ p ≠ 1 ∧ bl (p / 2) + 1 = bl p := by
  have F := hP.pf hp
  have h1 : p ≠ 1 := fun e => by subst e; rw [bnds_one] at hb; cases hb
  obtain ⟨h, h0⟩ := mem_bnds.mp hb
  refine ⟨?_, h1, F.blh.resolve_left h1⟩
  rcases h with h | h <;> subst h
  · exact F.up_l.resolve_left h0
  · exact F.up_r.resolve_left h0
theorem Pl.half (hP : Pl ps) {p : Nat} (hp : p ∈ ps) (h1 : p ≠ 1) : p / 2 ∈ Mine.bnds p ∧ p / 2 ∈ ps ∧ bl (p / 2) + 1 = bl p := by
  have F := hP.pf hp
  have hr := hP.rng p hp
  have h0 : p / 2 ≠ 0 := by omega
  refine ⟨mem_bnds.mpr ⟨?_, h0⟩, hP.up p hp (by omega), F.blh.resolve_left h1⟩
  rcases F.par with e | e
  · exact .inl e.symm
  · exact .inr e.symm
theorem Pl.zero_iff (hP : Pl ps) {c : Nat} (hc : c ∈ ps) (hn : n ∈ Mine.bnds c) (hk : bl n = k) (h1 : ∀ b ∈ ps, bl b < k → dn b = true) (h2 : ∀ b ∈ ps, dn b = true → bl b ≤ k) (h3 : dn n = true) : cnt dn c = 0 ↔ c / 2 = n := by
  obtain ⟨a1, a2, a3⟩ := hP.blt hc hn
  have hh := hP.half hc a2
  unfold cnt
  rw [List.length_eq_zero_iff, List.filter_eq_nil_iff]
  constructor
  · intro h
    have h4 := h2 _ hh.2.1 (by simpa using h _ hh.1)
    rcases a1 with a1 | a1
    · exact a1.symm
    · omega
  · intro e b hb
    rcases (hP.blt hc hb).1 with h4 | h4
    · rw [h4, e, h3]; simp
    · rw [h1 b (hP.bnds hc hb).1 (by rw [← hk, ← e]; exact h4)]; simp
structure RInv (ps : List Nat) (k : Nat) (dn : Nat → Bool) (np : Nat → Int) : Prop where
  lo : ∀ b ∈ ps, bl b < k → dn b = true
  hi : ∀ b ∈ ps, dn b = true → bl b ≤ k
  np : ∀ p ∈ ps, np p = if dn p = true then -2 else if bl p = k then -1 else (cnt dn p : Int)
theorem finS_step (hP : Pl ps) (hsc : ∀ n ∈ ps, sc n = ps.filter fun c => decide (n ∈ bnds c)) (I : RInv ps k dn np) (hn : n ∈ ps) (hk : bl n = k) (hd : dn n = false) (l : List Nat) :
    (finS sc (np, l) n).2 = l ++ kids ps n ∧ RInv ps k (fun b => dn b || decide (b = n)) (finS sc (np, l) n).1 := by
  have hnd : (sc n).Nodup := by rw [hsc n hn]; exact hP.nd.sublist List.filter_sublist
  unfold finS
  rw [decS_fold _ _ hnd]
  have J1 : ∀ b ∈ ps, bl b < k → (dn b || decide (b = n)) = true := fun b hb h => by rw [I.lo b hb h]; rfl
  have J2 : ∀ b ∈ ps, (dn b || decide (b = n)) = true → bl b ≤ k := fun b hb h => by
    rcases Bool.or_eq_true_iff.mp h with h | h
    · exact I.hi b hb h
    · rw [of_decide_eq_true h]; omega
  have J3 : (dn n || decide (n = n)) = true := by simp
  have key : ∀ c ∈ ps, n ∈ bnds c → c ≠ n ∧ dn c = false ∧ bl c ≠ k ∧ np c = (cnt dn c : Int) ∧ cnt (fun b => dn b || decide (b = n)) c + 1 = cnt dn c := fun c hc h => by
    have h5 := hP.blt hc h
    have h6 : k < bl c := by
      rw [← hk]
      rcases h5.1 with h7 | h7
      · rw [h7]; omega
      · omega
    have h8 : dn c = false := by
      cases e : dn c with
      | false => rfl
      | true => have := I.hi c hc e; omega
    refine ⟨fun e => by rw [e] at h6; omega, h8, by omega, ?_, ?_⟩
    · rw [I.np c hc, h8, if_neg (by simp), if_neg (by omega)]
    · have := flt_step dn n hd (bnds c) (hP.bnds_nd hc)
      rw [if_pos h] at this
      exact this
  constructor
  · show l ++ _ = l ++ _
    congr 1
    rw [hsc n hn, List.filter_filter]
    unfold kids
    refine List.filter_congr fun c hc => ?_
    rw [Bool.eq_iff_iff, Bool.and_eq_true, decide_eq_true_eq, decide_eq_true_eq, decide_eq_true_eq]
    constructor
    · rintro ⟨h1, h2⟩
      obtain ⟨k1, k2, k3, k4, k5⟩ := key c hc h2
      refine (hP.zero_iff hc h2 hk J1 J2 J3).mp ?_
      dsimp only at h1
      rw [if_neg k1, k4] at h1
      omega
    · intro e
      have hc1 : c ≠ 1 := fun e1 => by
        have := (hP.rng n hn).1
        omega
      have h2 : n ∈ bnds c := by rw [← e]; exact (hP.half hc hc1).1
      refine ⟨?_, h2⟩
      obtain ⟨k1, k2, k3, k4, k5⟩ := key c hc h2
      dsimp only
      rw [if_neg k1, k4]
      have := (hP.zero_iff hc h2 hk J1 J2 J3).mpr e
      omega
  · refine ⟨J1, J2, fun p hp => ?_⟩
    show (if p ∈ sc n then (if p = n then (-2 : Int) else np p) - 1 else if p = n then -2 else np p) = _
    have hm : p ∈ sc n ↔ n ∈ bnds p := by rw [hsc n hn, List.mem_filter, decide_eq_true_eq]; exact ⟨fun h => h.2, fun h => ⟨hp, h⟩⟩
    by_cases h : n ∈ bnds p
    · obtain ⟨k1, k2, k3, k4, k5⟩ := key p hp h
      rw [if_pos (hm.mpr h), if_neg k1, k4, if_neg (by simp [k2, k1]), if_neg k3]
      omega
    · rw [if_neg (fun q => h (hm.mp q))]
      by_cases e : p = n
      · rw [if_pos e, if_pos (by simp [e])]
      · rw [if_neg e, I.np p hp]
        have := flt_step dn n hd (bnds p) (hP.bnds_nd hp)
        rw [if_neg h] at this
        have h9 : cnt (fun b => dn b || decide (b = n)) p = cnt dn p := this
        rw [h9, decide_eq_false e, Bool.or_false]
theorem round_fold (hP : Pl ps) (hsc : ∀ n ∈ ps, sc n = ps.filter fun c => decide (n ∈ bnds c)) (I : RInv ps k (fun b => decide (bl b < k)) np) : ∀ i, i ≤ (row ps k).length →
    (((row ps k).take i).foldl (finS sc) (np, [])).2 = ((row ps k).take i).flatMap (kids ps) ∧ RInv ps k (fun b => decide (bl b < k) || decide (b ∈ (row ps k).take i)) (((row ps k).take i).foldl (finS sc) (np, [])).1
  | 0, _ => by
    refine ⟨rfl, ?_⟩
    have e : (fun b => decide (bl b < k) || decide (b ∈ (row ps k).take 0)) = fun b => decide (bl b < k) := by funext b; simp
    rw [e]
    exact I
  | i + 1, hi => by
    obtain ⟨h1, h2⟩ := round_fold hP hsc I i (by omega)
    have hin : (row ps k)[i]? = some ((row ps k)[i]) := List.getElem?_eq_getElem (by omega)
    generalize (row ps k)[i] = n at hin
    have ht : (row ps k).take (i + 1) = (row ps k).take i ++ [n] := by rw [List.take_add_one, hin]; rfl
    have hn := mem_row.mp (List.mem_of_getElem? hin)
    have hnd : (row ps k).Nodup := hP.nd.sublist List.filter_sublist
    have hni : n ∉ (row ps k).take i := nd_take hnd hin
    rw [ht, List.foldl_append, List.foldl_cons, List.foldl_nil, List.flatMap_append]
    generalize hst : ((row ps k).take i).foldl (finS sc) (np, []) = st at h1 h2 ⊢
    obtain ⟨a, b⟩ := finS_step hP hsc h2 hn.1 hn.2 (by simp [hni, hn.2]) st.2
    refine ⟨?_, ?_⟩
    · rw [show (st.1, st.2) = st from rfl] at a
      rw [a, h1]
      simp
    · rw [show (st.1, st.2) = st from rfl] at b
      have e : (fun b => decide (bl b < k) || decide (b ∈ (row ps k).take i ++ [n])) = fun b => (decide (bl b < k) || decide (b ∈ (row ps k).take i)) || decide (b = n) := by
        funext b
        rw [Bool.or_assoc]
        congr 1
        rw [Bool.eq_iff_iff, Bool.or_eq_true, decide_eq_true_eq, decide_eq_true_eq, decide_eq_true_eq, List.mem_append, List.mem_singleton]
      rw [e]
      exact b
theorem row_next (hP : Pl ps) (hs : ps.Pairwise (· < ·)) (hk : 1 ≤ k) : (row ps k).flatMap (kids ps) = row ps (k + 1) := by
  refine sorted_ext ?_ (hs.sublist List.filter_sublist) fun x => ?_
  · rw [List.pairwise_flatMap]
    refine ⟨fun a _ => hs.sublist List.filter_sublist, ?_⟩
    refine List.Pairwise.imp (R := (· < ·)) (fun {a b} hab x hx y hy => ?_) (hs.sublist List.filter_sublist)
    have h1 := of_decide_eq_true (List.mem_filter.mp hx).2
    have h2 := of_decide_eq_true (List.mem_filter.mp hy).2
    omega
  · rw [List.mem_flatMap, mem_row]
    constructor
    · rintro ⟨n, hn, hx⟩
      obtain ⟨h1, h2⟩ := List.mem_filter.mp hx
      have h2 := of_decide_eq_true h2
      obtain ⟨h3, h4⟩ := mem_row.mp hn
      have := (hP.rng n h3).1
      have h5 := hP.half h1 (by intro e; omega)
      rw [h2] at h5
      exact ⟨h1, by omega⟩
    · rintro ⟨h1, h2⟩
      have h3 : x ≠ 1 := fun e => by
        subst e
        have : bl 1 = 1 := by decide
        omega
      have h5 := hP.half h1 h3
      refine ⟨x / 2, mem_row.mpr ⟨h5.2.1, by omega⟩, ?_⟩
      unfold kids
      rw [List.mem_filter]
      exact ⟨h1, by simp⟩
/-- one round -/
theorem round_all (hP : Pl ps) (hs : ps.Pairwise (· < ·)) (hk : 1 ≤ k) (hsc : ∀ n ∈ ps, sc n = ps.filter fun c => decide (n ∈ bnds c)) (I : RInv ps k (fun b => decide (bl b < k)) np) :
    ((row ps k).foldl (finS sc) (np, [])).2 = row ps (k + 1) ∧ (∀ p ∈ ps, ((row ps k).foldl (finS sc) (np, [])).1 p = if bl p < k + 1 then -2 else (cnt (fun b => decide (bl b < k + 1)) p : Int)) ∧
    ∀ i n, (row ps k)[i]? = some n → (((row ps k).take i).foldl (finS sc) (np, [])).1 n = -1 := by
  refine ⟨?_, ?_, ?_⟩
  · have := (round_fold hP hsc I _ (Nat.le_refl _)).1
    rw [List.take_length] at this
    rw [this, row_next hP hs hk]
  · intro p hp
    have := (round_fold hP hsc I _ (Nat.le_refl _)).2.np p hp
    rw [List.take_length] at this
    rw [this]
    have e : ∀ b ∈ ps, (decide (bl b < k) || decide (b ∈ row ps k)) = decide (bl b < k + 1) := fun b hb => by
      rw [Bool.eq_iff_iff, Bool.or_eq_true, decide_eq_true_eq, decide_eq_true_eq, decide_eq_true_eq, mem_row]
      constructor
      · rintro (h | h)
        · omega
        · omega
      · intro h
        rcases Nat.lt_or_ge (bl b) k with h' | h'
        · exact .inl h'
        · exact .inr ⟨hb, by omega⟩
    have e2 : cnt (fun b => decide (bl b < k) || decide (b ∈ row ps k)) p = cnt (fun b => decide (bl b < k + 1)) p := by
      unfold cnt
      congr 1
      refine List.filter_congr fun b hb => ?_
      dsimp only
      rw [e b (hP.bnds hp hb).1]
    rw [e p hp, e2]
    by_cases h : bl p < k + 1
    · rw [if_pos h, if_pos (decide_eq_true h)]
    · rw [if_neg h, if_neg (by rw [decide_eq_true_eq]; exact h), if_neg (by omega)]
  · intro i n hn
    obtain ⟨hi, hn'⟩ := List.getElem?_eq_some_iff.mp hn
    have h1 := mem_row.mp (List.mem_of_getElem? hn)
    rw [(round_fold hP hsc I i (by omega)).2.np n h1.1]
    have hnd : (row ps k).Nodup := hP.nd.sublist List.filter_sublist
    have hni : n ∉ (row ps k).take i := nd_take hnd hn
    rw [if_neg (by simp [hni, h1.2]), if_pos h1.2]
theorem row_ne (hP : Pl ps) {z : Nat} (hz : z ∈ ps) : ∀ d j, bl z = j + d → 1 ≤ j → row ps j ≠ []
  | 0, j, h, _ => List.ne_nil_of_mem (mem_row.mpr ⟨hz, h⟩)
  | d + 1, j, h, h1 => by
    have := row_ne hP hz d (j + 1) (by omega) (by omega)
    obtain ⟨p, hp⟩ := List.exists_mem_of_ne_nil _ this
    obtain ⟨h2, h3⟩ := mem_row.mp hp
    have h4 : p ≠ 1 := fun e => by
      subst e
      have : bl 1 = 1 := by decide
      omega
    have h5 := hP.half h2 h4
    exact List.ne_nil_of_mem (mem_row.mpr ⟨h5.2.1, by omega⟩)
theorem row_end {z : Nat} (hz : ∀ p ∈ ps, p ≤ z) (h : bl z < k) : row ps k = [] := by
  unfold row
  rw [List.filter_eq_nil_iff]
  intro p hp
  have := bl_mono (hz p hp)
  rw [decide_eq_true_eq]
  omega
theorem row_one (hP : Pl ps) (hnp : ∀ k ∈ ps, np k = (bnds k).length) : ps.filter (fun n => decide (np n = 0)) = row ps 1 := by
  unfold row
  refine List.filter_congr fun p hp => ?_
  rw [hnp p hp]
  by_cases e : p = 1
  · subst e; decide
  · have h1 := hP.half hp e
    have h2 := (hP.rng _ h1.2.1).1
    have h3 : (bnds p).length ≠ 0 := fun e => by
      rw [List.length_eq_zero_iff.mp e] at h1
      cases h1.1
    have h4 : bl p ≠ 1 := fun e' => e (bl_one (by have := hP.rng p hp; omega) e')
    rw [decide_eq_false h4, decide_eq_false (by omega)]
theorem cnt_one (hP : Pl ps) {p : Nat} (hp : p ∈ ps) : cnt (fun b => decide (bl b < 1)) p = (bnds p).length ∧ ¬ bl p < 1 := by
  have F := hP.pf hp
  refine ⟨?_, by have := F.bl1; omega⟩
  unfold cnt
  congr 1
  rw [List.filter_eq_self]
  intro b hb
  have := (hP.pf (hP.bnds hp hb).1).bl1
  simp
  omega
end
noncomputable def dO (ks : List Nat) : List (Int × Int) := ks.map fun p : Nat => ((p : Int), (O p : Int))
noncomputable def dU (ks : List Nat) : List (Int × Int) := ks.map fun p : Nat => ((p : Int), (U p : Int))
theorem dv_at (f : Nat → Nat) (n : Nat) : ∀ (ks : List Nat), valueAt ((ks.map fun p : Nat => ((p : Int), (f p : Int))).map fun p => (p.1, Value.int p.2 0)) (n : Int) = if n ∈ ks then some (.int (f n) 0) else none
  | [] => rfl
  | k :: ks => by
    have ih := dv_at f n ks
    unfold valueAt at ih ⊢
    rw [List.map_cons, List.map_cons, List.find?_cons]
    by_cases e : k = n
    · subst e; simp
    · have e' : decide (((k : Int)) = (n : Int)) = false := decide_eq_false (by omega)
      simp only [e', List.mem_cons, Ne.symm e, false_or]
      exact ih
theorem dv_new (f : Nat → Nat) {n : Nat} {v : Int} {ks : List Nat} (h : n ∉ ks) (hv : v = (f n : Int)) : stored ((ks.map fun p : Nat => ((p : Int), (f p : Int))).map fun p => (p.1, Value.int p.2 0)) (n : Int) (.int v 0) = ((ks ++ [n]).map fun p : Nat => ((p : Int), (f p : Int))).map fun p => (p.1, Value.int p.2 0) := by
  unfold stored
  rw [if_neg]
  · rw [List.map_append, List.map_append, hv]; rfl
  · intro hc
    rw [List.any_eq_true] at hc
    obtain ⟨p, hp, e⟩ := hc
    rw [List.map_map, List.mem_map] at hp
    obtain ⟨k, hk, rfl⟩ := hp
    have e := of_decide_eq_true e
    exact h (by have : (k : Int) = n := e; have : k = n := by omega
                rw [← this]; exact hk)
theorem upo {W : View} {a b : Addr} {o ao : AObj} (hb : W b = none) (h : W a = some o) : upd W b ao a = some o := upd_old hb h
/-- what the law keeps while the sorter runs -/
structure LC (L pl rn od ud : Addr) (ps : List Nat) (as : List Addr) (nss : List (List Int)) (ks ks' : List Nat) (W : View) : Prop where
  hpl : W pl = some (.ilist (ps.map Int.ofNat))
  hrn : W rn = some (.rlist as)
  htup : TupsAt W as nss
  hc1 : W (L + 1) = some (.cell (some (.ref od)))
  hc2 : W (L + 1 + 1) = some (.cell (some (.ref ud)))
  hc3 : W (L + 1 + 1 + 1) = some (.cell none)
  hod : W od = some (.idict (dO ks))
  hud : W ud = some (.idict (dU ks'))
  hne : od ≠ ud
theorem TupsAt.chg {W : View} {b : Addr} {ao : AObj} (hb : ∀ ns, W b ≠ some (.itup ns)) : ∀ {as nss}, TupsAt W as nss → TupsAt (upd W b ao) as nss
  | _, _, .nil => .nil
  | _, _, .cons h t => .cons ((upd_ne (fun e => by subst e; exact hb _ h)).trans h) (t.chg hb)
theorem TupsAt.sub {W V : View} (h : ∀ a ao, W a = some ao → V a = some ao) : ∀ {as nss}, TupsAt W as nss → TupsAt V as nss
  | _, _, .nil => .nil
  | _, _, .cons x t => .cons (h _ _ x) (t.sub h)
theorem TupsAt.snoc {W : View} {b : Addr} {ns : List Int} (hb : W b = some (.itup ns)) : ∀ {as nss}, TupsAt W as nss → TupsAt W (as ++ [b]) (nss ++ [ns])
  | _, _, .nil => .cons hb .nil
  | _, _, .cons x t => .cons x (t.snoc hb)
theorem TupsAt.len {W : View} : ∀ {as nss}, TupsAt W as nss → as.length = nss.length
  | _, _, .nil => rfl
  | _, _, .cons x t => by rw [List.length_cons, List.length_cons, t.len]
section
variable {L pl rn od ud b : Addr} {ps : List Nat} {as : List Addr} {nss : List (List Int)} {ks ks' k1 : List Nat} {W V : View} {ao : AObj}
theorem LC.new (C : LC L pl rn od ud ps as nss ks ks' W) (hb : W b = none) : LC L pl rn od ud ps as nss ks ks' (upd W b ao) :=
  ⟨upd_old hb C.hpl, upd_old hb C.hrn, C.htup.sub fun a o h => upd_old hb h, upd_old hb C.hc1, upd_old hb C.hc2, upd_old hb C.hc3, upd_old hb C.hod, upd_old hb C.hud, C.hne⟩
theorem ne_of {W : View} {a b : Addr} {o o' : AObj} (h1 : W a = some o) (h2 : W b = some o') (h : o ≠ o') : a ≠ b := fun e => by rw [e, h2] at h1; exact h (Option.some.inj h1).symm
theorem LC.setO (C : LC L pl rn od ud ps as nss ks ks' W) : LC L pl rn od ud ps as nss k1 ks' (upd W od (.idict (dO k1))) :=
  ⟨(upd_ne (ne_of C.hpl C.hod nofun)).trans C.hpl, (upd_ne (ne_of C.hrn C.hod nofun)).trans C.hrn, C.htup.chg (fun ns e => by rw [C.hod] at e; cases e), (upd_ne (ne_of C.hc1 C.hod nofun)).trans C.hc1, (upd_ne (ne_of C.hc2 C.hod nofun)).trans C.hc2,
    (upd_ne (ne_of C.hc3 C.hod nofun)).trans C.hc3, upd_eq, (upd_ne C.hne.symm).trans C.hud, C.hne⟩
theorem LC.setU (C : LC L pl rn od ud ps as nss ks ks' W) : LC L pl rn od ud ps as nss ks k1 (upd W ud (.idict (dU k1))) :=
  ⟨(upd_ne (ne_of C.hpl C.hud nofun)).trans C.hpl, (upd_ne (ne_of C.hrn C.hud nofun)).trans C.hrn, C.htup.chg (fun ns e => by rw [C.hud] at e; cases e), (upd_ne (ne_of C.hc1 C.hud nofun)).trans C.hc1, (upd_ne (ne_of C.hc2 C.hud nofun)).trans C.hc2,
    (upd_ne (ne_of C.hc3 C.hud nofun)).trans C.hc3, (upd_ne C.hne).trans C.hod, upd_eq, C.hne⟩
theorem LC.app {ns : List Int} (C : LC L pl rn od ud ps as nss ks ks' W) (hb : W b = some (.itup ns)) : LC L pl rn od ud ps (as ++ [b]) (nss ++ [ns]) ks ks' (upd W rn (.rlist (as ++ [b]))) :=
  ⟨(upd_ne (ne_of C.hpl C.hrn nofun)).trans C.hpl, upd_eq, TupsAt.snoc ((upd_ne (ne_of hb C.hrn nofun)).trans hb) (C.htup.chg (fun ns e => by rw [C.hrn] at e; cases e)), (upd_ne (ne_of C.hc1 C.hrn nofun)).trans C.hc1, (upd_ne (ne_of C.hc2 C.hrn nofun)).trans C.hc2,
    (upd_ne (ne_of C.hc3 C.hrn nofun)).trans C.hc3, (upd_ne (ne_of C.hod C.hrn nofun)).trans C.hod, (upd_ne (ne_of C.hud C.hrn nofun)).trans C.hud, C.hne⟩
theorem LC.sub (C : LC L pl rn od ud ps as nss ks ks' W) (h : ∀ a ao, W a = some ao → V a = some ao) : LC L pl rn od ud ps as nss ks ks' V :=
  ⟨h _ _ C.hpl, h _ _ C.hrn, C.htup.sub h, h _ _ C.hc1, h _ _ C.hc2, h _ _ C.hc3, h _ _ C.hod, h _ _ C.hud, C.hne⟩
theorem Srt.chg {x : Addr} {q : SQ} {o : AObj} (T : Srt W V x q) (hb : W b = some o) (h1 : ∀ C d l, o ≠ .ins C d l) (h2 : ∀ l, o ≠ .atd l) : Srt (upd W b ao) (upd V b ao) x q :=
  T.grow (.inr ⟨_, hb⟩) (fun e => by have := T.sub _ _ hb; rw [e, T.self] at this; exact h1 _ _ _ (Option.some.inj this).symm) (fun n hn e => by have := T.sub _ _ hb; rw [e, T.idc n hn] at this; exact h2 _ (Option.some.inj this).symm)
theorem Srt.wnone {x : Addr} {q : SQ} (T : Srt W V x q) (hb : V b = none) : W b = none := by
  cases i : W b with
  | none => rfl
  | some o => rw [T.sub _ _ i] at hb; cases hb
end
section
variable {w : World} {G : Gd w} {f₀ : Addr × FK} {fs : Frs} {W V V' : View} {s s' : Shared} {l a b d x pl L : Addr} {m : Loc} {A : Around} {E : Value → Shared → Prop} {ps : List Nat} {q : SQ} {rl : Addr}
/-- a call of a method object with a lone starred tuple -/
theorem callM_lone {pos pos' p2 : Pos} {e : Expr} {f : Addr} {env : Env} {Q : Value → Shared → Prop} (hf : fnIn (hd.heap_39 w.params) f = true)
    (h : wpAny (model PP w) A (eval e env) (fun v s₁ => ∃ (G : Gd w) (f₀ : Addr × FK) (fs : Frs) (V : View) (l : Addr) (ns : List Int), v = .ref l ∧ SS G (f₀ :: fs) V s₁ ∧ V l = some (.itup ns) ∧ ns.length < 1000 ∧ V b = some (.raw (methodObj (.ref f) (.ref x))) ∧
      ∀ vs s₂, IntsAre vs ns → SS G (f₀ :: fs) V s₂ → codeAny (model PP w) A (.call (.ref f) ⟨.ref x :: vs, []⟩) (fun r s' => match r with | .ok (.ret v) => Q v s' | .ok _ => False | .error e => E e s') s₂) E s) :
    wpAny (model PP w) A (callWith pos' (.ref b) [] (backTo pos (starEach [.Starred e p2] env)) []) Q E s := by
  refine callM_star (f := f) (x := x) rfl hf ?_
  show wpAny _ _ (evalArgs _ true [(true, (do let v ← eval e env; standAt pos; pure v))] []) _ _ _
  refine args_star_it (wpAny_bind (wpAny_mono h (fun v s₁ h₁ => wpAny_bind (wpAny_standAt (wpAny_pure ?_))) fun _ _ x => x))
  obtain ⟨G, f₀, fs, V, l, ns, e1, S, hV, hz, hb, h2⟩ := h₁
  exact ⟨G, f₀, fs, V, l, ns, e1, S, hV, hz, fun vs s₂ hI S2 => ⟨⟨G, _, _, S2, hb⟩, h2 vs s₂ hI S2⟩⟩
theorem getO {ks : List Nat} {b d : Nat} (h0 : 0 ∉ ks) (hb : b = 0 ∨ b ∈ ks) : (valueAt ((dO ks).map fun p => (p.1, Value.int p.2 0)) (b : Int)).getD (.int (d : Int) 0) = .int ((pO b d : Nat) : Int) 0 := by
  unfold dO
  rw [dv_at]
  rcases hb with hb | hb
  · subst hb; rw [if_neg h0]; rfl
  · rw [if_pos hb]; unfold pO; rw [if_neg (show ¬ b = 0 from fun e => h0 (by rw [← e]; exact hb))]; rfl
theorem getU {ks : List Nat} {b d : Nat} (h0 : 0 ∉ ks) (hb : b = 0 ∨ b ∈ ks) : (valueAt ((dU ks).map fun p => (p.1, Value.int p.2 0)) (b : Int)).getD (.int (d : Int) 0) = .int ((pU b d : Nat) : Int) 0 := by
  unfold dU
  rw [dv_at]
  rcases hb with hb | hb
  · subst hb; rw [if_neg h0]; rfl
  · rw [if_pos hb]; unfold pU; rw [if_neg (show ¬ b = 0 from fun e => h0 (by rw [← e]; exact hb))]; rfl
theorem stB {z : Nat} {Q : Flow → Shared → Prop} (r : Rm A 84) (S : SS G ((L, .loc m) :: fs) V s) (hP : Pl ps) (hsort : ps.Pairwise (· < ·)) (hz : z ∈ ps) (hzm : ∀ p ∈ ps, p ≤ z) (hpl : W pl = some (.ilist (ps.map Int.ofNat)))
    (hc1 : W (L + 1) = some (.cell none)) (hc2 : W (L + 1 + 1) = some (.cell none)) (hc3 : W (L + 1 + 1 + 1) = some (.cell none))
    (T : Srt W V x q) (hN : q.N = ps) (hnp : ∀ k ∈ ps, q.np k = (bnds k).length) (hsc : ∀ k ∈ ps, q.sc k = ps.filter fun n => decide (k ∈ bnds n))
    (hrd : q.rd = some (rl, ps.filter fun n => decide (q.np n = 0))) (hnpass : q.npass = 0) (hnfin : q.nfin = 0) (m1 : m (Str.ofString "sorter") = some (.ref x)) (m2 : m (Str.ofString "places") = some (.ref pl))
    (h : ∀ m' V' s' rn od ud as ks, LC L pl rn od ud ps as ((List.range (bl z)).map fun i => (row ps (i + 1)).map Int.ofNat) ks ks V' → (∀ p ∈ ps, p ∈ ks) → m' (Str.ofString "places") = some (.ref pl) → m' (Str.ofString "rounds") = some (.ref rn) → SS G ((L, .loc m') :: fs) V' s' →
      wpAny (model PP w) A (execs (lawBody.drop 8) (lawEnv L)) Q (fun _ _ => False) s') :
    wpAny (model PP w) A (execs (lawBody.drop 4) (lawEnv L)) Q (fun _ _ => False) s := by
  show wpAny _ _ (execs (_ :: _) (envOfC _ { kind := _, names := _ :: _, isGenerator := _, isCoroutine := _, more := _ } _ _ _)) _ _ _
  with_reducible refine cons_hid ?_; intro _ _
  refine wpAny_Assign_Name ?_
  refine disp_rl ?_
  with_reducible refine wpAny_items_nil ?_
  refine ⟨G, _, _, _, [], by assumption, rfl, by decide, ?_⟩
  intro rn s1 hrn S1
  have T1 := T.grow (b := rn) (ao := .rlist []) (.inl hrn) (fun e => by rw [e, T.self] at hrn; cases hrn) (fun k hk e => by rw [e, T.idc k hk] at hrn; cases hrn)
  have wrn := T.wnone hrn
  have d1 := upo (ao := .rlist []) wrn hc1
  have d2 := upo (ao := .rlist []) wrn hc2
  have d3 := upo (ao := .rlist []) wrn hc3
  have d4 := upo (ao := .rlist []) wrn hpl
  have d5 : upd W rn (.rlist []) rn = _ := upd_eq
  generalize upd W rn (.rlist []) = W1 at *
  generalize upd V rn (.rlist []) = V1 at *
  clear S
  refine sto (by assumption) ?_; intro _ _
  with_reducible refine Hid.out (by assumption) ?_
  with_reducible refine cons_hid ?_; intro _ _
  refine wpAny_Assign_Name ?_
  refine dnew (ao := .idict []) (by assumption) rfl ?_
  intro od s2 hod S2
  have T2 := T1.grow (b := od) (ao := .idict []) (.inl hod) (fun e => by rw [e, T1.self] at hod; cases hod) (fun k hk e => by rw [e, T1.idc k hk] at hod; cases hod)
  have wod := T1.wnone hod
  have e1 := upo (ao := .idict []) wod d1
  have e2 := upo (ao := .idict []) wod d2
  have e3 := upo (ao := .idict []) wod d3
  have e4 := upo (ao := .idict []) wod d4
  have e5 := upo (ao := .idict []) wod d5
  have e6 : upd W1 od (.idict []) od = _ := upd_eq
  generalize upd W1 od (.idict []) = W2 at *
  generalize upd V1 od (.idict []) = V2 at *
  have g1 := T2.sub _ _ e1
  clear S1
  refine sto_c (by assumption) (by exact rfl) (by walk_at "vw") ?_; intro _ _
  with_reducible refine Hid.out (by assumption) ?_
  with_reducible refine cons_hid ?_; intro _ _
  refine wpAny_Assign_Name ?_
  have T3 := T2.chg (ao := .cell (some (.ref od))) e1 (by intros; nofun) (by intros; nofun)
  have f1 : upd W2 (L + 1) (.cell (some (.ref od))) (L + 1) = _ := upd_eq
  have f2 : upd W2 (L + 1) (.cell (some (.ref od))) (L + 1 + 1) = some (.cell none) := by walk_at "vw"
  have f3 : upd W2 (L + 1) (.cell (some (.ref od))) (L + 1 + 1 + 1) = some (.cell none) := by walk_at "vw"
  have f4 : upd W2 (L + 1) (.cell (some (.ref od))) pl = _ := (upd_ne (ne_of e4 e1 nofun)).trans e4
  have f5 : upd W2 (L + 1) (.cell (some (.ref od))) rn = _ := (upd_ne (ne_of e5 e1 nofun)).trans e5
  have f6 : upd W2 (L + 1) (.cell (some (.ref od))) od = _ := (upd_ne (ne_of e6 e1 nofun)).trans e6
  rename_i sx S3 _ _
  change SS G _ (upd V2 (L + 1) (AObj.cell (some (.ref od)))) sx at S3
  clear S2
  generalize upd W2 (L + 1) (.cell (some (.ref od))) = W3 at *
  generalize upd V2 (L + 1) (.cell (some (.ref od))) = V3 at *
  refine dnew (ao := .idict []) S3 rfl ?_
  intro ud s4 hud S4
  have hne : od ≠ ud := fun e => by rw [← e, T3.sub _ _ f6] at hud; cases hud
  have T4 := T3.grow (b := ud) (ao := .idict []) (.inl hud) (fun e => by rw [e, T3.self] at hud; cases hud) (fun k hk e => by rw [e, T3.idc k hk] at hud; cases hud)
  have wud := T3.wnone hud
  have g1 := upo (ao := .idict []) wud f1
  have g2 := upo (ao := .idict []) wud f2
  have g3 := upo (ao := .idict []) wud f3
  have g4 := upo (ao := .idict []) wud f4
  have g5 := upo (ao := .idict []) wud f5
  have g6 := upo (ao := .idict []) wud f6
  have g7 : upd W3 ud (.idict []) ud = _ := upd_eq
  generalize upd W3 ud (.idict []) = W4 at *
  generalize upd V3 ud (.idict []) = V4 at *
  have g8 := T4.sub _ _ g2
  clear S3
  refine sto_c (by assumption) (by exact rfl) (by walk_at "vw") ?_; intro _ _
  with_reducible refine Hid.out (by assumption) ?_
  rename_i sy S5
  change SS G _ (upd V4 (L + 1 + 1) (AObj.cell (some (.ref ud)))) sy at S5
  have T5 := T4.chg (ao := .cell (some (.ref ud))) g2 (by intros; nofun) (by intros; nofun)
  have C5 : LC L pl rn od ud ps [] [] [] [] (upd W4 (L + 1 + 1) (.cell (some (.ref ud)))) :=
    ⟨(upd_ne (ne_of g4 g2 nofun)).trans g4, (upd_ne (ne_of g5 g2 nofun)).trans g5, .nil, by walk_at "vw", upd_eq, by walk_at "vw", (upd_ne (ne_of g6 g2 nofun)).trans g6, (upd_ne (ne_of g7 g2 nofun)).trans g7, hne⟩
  generalize upd W4 (L + 1 + 1) (.cell (some (.ref ud))) = W5 at *
  generalize upd V4 (L + 1 + 1) (.cell (some (.ref ud))) = V5 at *
  have hzr := hP.rng z hz
  have hpsl : ps.length < 20 := hP.len
  have hK : bl z ≤ 7 := (hP.pf hz).bl7
  clear S4 T1 T2 T3 T4 g1 g2 g3 g4 g5 g6 g7 g8 f1 f2 f3 f4 f5 f6 e1 e2 e3 e4 e5 e6 d1 d2 d3 d4 d5 T hpl hc1 hc2 hc3 wrn wod wud hrn hod hud hne
  have hrd : q.rd = some (rl, row ps (0 + 1)) := by rw [hrd, row_one hP hnp]
  show wpAny _ _ (execs _ _) _ _ _
  refine wpAny_execs_cons ?_
  refine whl (fun n s => ∃ m V W q as ks j, SS G ((L, .loc m) :: fs) V s ∧ Srt W V x q ∧ LC L pl rn od ud ps as ((List.range j).map fun i => (row ps (i + 1)).map Int.ofNat) ks ks W ∧ q.N = ps ∧ (∀ p ∈ ps, q.np p = if bl p < j + 1 then -2 else (cnt (fun b => decide (bl b < j + 1)) p : Int)) ∧
      (∀ k ∈ ps, q.sc k = ps.filter fun n => decide (k ∈ bnds n)) ∧ q.rd = some (rl, row ps (j + 1)) ∧ q.nfin = q.npass ∧ (∀ p, p ∈ ks ↔ p ∈ ps ∧ bl p < j + 1) ∧ ks.length ≤ 20 * j ∧ n + j = bl z ∧ m (Str.ofString "sorter") = some (.ref x) ∧ m (Str.ofString "places") = some (.ref pl) ∧ m (Str.ofString "rounds") = some (.ref rn)) (bl z)
    ⟨_, V5, W5, q, [], [], 0, S5, T5, C5, hN, fun p hp => ?_, hsc, hrd, by rw [hnfin, hnpass], fun p => ⟨fun h => absurd h List.not_mem_nil, fun h => ?_⟩, by simp, by omega, by walk_at "lk", by walk_at "lk", by walk_at "lk"⟩ ?_
  · obtain ⟨c1, c2⟩ := cnt_one hP hp
    rw [hnp p hp, if_neg (by omega), c1]
  · exact absurd h.2 (cnt_one hP h.1).2
  clear S5 T5 C5 hnp hsc hrd hnpass hnfin hN
  rintro n s ⟨m, V, W, q, as, ks, j, S, T, C, hN, hnp, hsc, hrd, hnf, hks, hkl, hnj, m1, m2, m3⟩
  refine wpAny_isTrue_value ?_
  refine MethodCall_ ?_
  refine nm_r (by assumption) (by walk_at "lk") ?_
  have hrl : (row ps (j + 1)).length < 20 := Nat.lt_of_le_of_lt (List.length_filter_le _ _) hpsl
  refine ma (by assumption) T.self T.atts (by k_is) (by k_is) (by k_is) rfl ?_
  refine callWith_K0 (SS.K (by assumption)) (by k_is) ?_
  refine active_c (r.le (by decide)) (by assumption) T hrd (by omega) ?_
  intro _ _
  rw [decide_eq_false (show ¬ q.nfin < q.npass from by omega), Bool.false_or]
  rcases Nat.eq_zero_or_pos n with hn0 | hn0
  · rw [row_end hzm (show bl z < j + 1 from by omega), show (!([] : List Nat).isEmpty) = false from rfl]
    with_reducible refine wpAny_truthy_bool ?_
    with_reducible refine ifF ?_
    with_reducible refine wpAny_execs_nil ?_
    have hj : j = bl z := by omega
    subst hj
    refine h _ _ _ rn od ud as ks (C.sub T.sub) (fun p hp => (hks p).mpr ⟨hp, ?_⟩) (by walk_at "lk") (by walk_at "lk") (by assumption)
    have := bl_mono (hzm p hp)
    omega
  · have hne : row ps (j + 1) ≠ [] := row_ne hP hz (bl z - (j + 1)) (j + 1) (by omega) (by omega)
    rw [show (!(row ps (j + 1)).isEmpty) = true from by rw [Bool.not_eq_true', List.isEmpty_eq_false_iff]; exact hne]
    have hjz : j < bl z := by omega
    have hasl : as.length = j := by have := C.htup.len; rw [List.length_map, List.length_range] at this; exact this
    with_reducible refine wpAny_truthy_bool ?_
    with_reducible refine ifT ?_
    with_reducible refine cons_hid ?_; intro _ _
    refine wpAny_Assign_Name ?_
    refine MethodCall_ ?_
    refine nm_r (by assumption) (by walk_at "lk") ?_
    refine ma (by assumption) T.self T.atts (by k_is) (by k_is) (by k_is) rfl ?_
    refine callWith_K0 (SS.K (by assumption)) (by k_is) ?_
    refine ready_c (r.le (by decide)) (by assumption) T hrd (by omega) (fun n hn => by rw [hN]; exact (mem_row.mp hn).1) ?_
    intro V1 s3 b hb T1 S3
    have C1 := C.new (ao := .itup ((row ps (j + 1)).map Int.ofNat)) (T.wnone hb)
    have w1 : upd W b (.itup ((row ps (j + 1)).map Int.ofNat)) b = _ := upd_eq
    generalize upd W b (.itup ((row ps (j + 1)).map Int.ofNat)) = W1 at *
    obtain ⟨q1, hq1⟩ : ∃ q1, q1 = { q.out (row ps (j + 1)) (-1) with rd := some (rl, []), npass := q.npass + (row ps (j + 1)).length } := ⟨_, rfl⟩
    rw [← hq1] at T1
    refine sto (by assumption) ?_; intro _ _
    with_reducible refine Hid.out (by assumption) ?_
    with_reducible refine cons_hid ?_; intro _ _
    refine wpAny_Expr_any ?_
    refine MethodCall_ ?_
    refine nm_r (by assumption) (by walk_at "lk") ?_
    refine met_rl (by assumption) (T1.sub _ _ C1.hrn) PySem.F.slot_list_append PySem.F.type_list_append ?_
    refine callWith_method1 ?_
    refine wpAny_items_cons ?_
    refine nm_r (by assumption) (by walk_at "lk") ?_
    with_reducible refine wpAny_items_nil ?_
    refine app_rl (by assumption) (T1.sub _ _ C1.hrn) (by omega) ?_
    intro s4 S4
    have T2 := T1.chg (ao := .rlist (as ++ [b])) C1.hrn (by intros; nofun) (by intros; nofun)
    have C2 := C1.app w1
    have w2 : upd W1 rn (.rlist (as ++ [b])) b = _ := (upd_ne (ne_of w1 C1.hrn nofun)).trans w1
    generalize upd W1 rn (.rlist (as ++ [b])) = W2 at *
    generalize upd V1 rn (.rlist (as ++ [b])) = V2 at *
    with_reducible refine Hid.out (by assumption) ?_
    with_reducible refine cons_hid ?_; intro _ _
    refine wpAny_For ?_
    refine nm_r (by assumption) (by walk_at "lk") ?_
    refine for_it r (by assumption) (T2.sub _ _ w2) (fun i m V => ∃ W, Srt W V x q1 ∧ LC L pl rn od ud ps (as ++ [b]) ((List.range j).map (fun i => (row ps (i + 1)).map Int.ofNat) ++ [(row ps (j + 1)).map Int.ofNat]) (ks ++ (row ps (j + 1)).take i) (ks ++ (row ps (j + 1)).take i) W ∧
        W b = some (.itup ((row ps (j + 1)).map Int.ofNat)) ∧ m (Str.ofString "sorter") = some (.ref x) ∧ m (Str.ofString "places") = some (.ref pl) ∧ m (Str.ofString "rounds") = some (.ref rn) ∧ m (Str.ofString "ready") = some (.ref b))
      ⟨W2, T2, by rw [List.take_zero, List.append_nil]; exact C2, w2, by walk_at "lk", by walk_at "lk", by walk_at "lk", by walk_at "lk"⟩ (fun i m V ⟨W, T, C, w, _⟩ => T.sub _ _ w) ?_ ?_
    · clear S4 T2 C2 w2 T1 C1 w1 T C S3
      rintro i m V t it s5 hi ⟨W, T, C, wb, m1, m2, m3, m4⟩ S5
      rw [List.length_map] at hi
      rw [getD_map _ i hi]
      generalize hn : (row ps (j + 1)).getD i 0 = p
      have hpi : (row ps (j + 1))[i]? = some p := by rw [← hn, List.getD_eq_getElem?_getD, List.getElem?_eq_getElem hi]; rfl
      have hpr := mem_row.mp (List.mem_of_getElem? hpi)
      have hpp := hP.rng p hpr.1
      have F := hP.pf hpr.1
      have htk : (row ps (j + 1)).take (i + 1) = (row ps (j + 1)).take i ++ [p] := by rw [List.take_add_one, hpi]; rfl
      have hin : ∀ y, y ∈ ks ++ (row ps (j + 1)).take i → y ∈ ps := fun y hy => by
        rcases List.mem_append.mp hy with h | h
        · exact ((hks y).mp h).1
        · exact (mem_row.mp (List.mem_of_mem_take h)).1
      have k0 : 0 ∉ ks ++ (row ps (j + 1)).take i := fun h => by have := hP.rng 0 (hin 0 h); omega
      have kb : ∀ y ∈ bnds p, y ∈ ks ++ (row ps (j + 1)).take i := fun y hy => by
        have h1 := hP.blt hpr.1 hy
        refine List.mem_append.mpr (.inl ((hks y).mpr ⟨(hP.bnds hpr.1 hy).1, ?_⟩))
        rcases h1.1 with h2 | h2
        · rw [h2]; omega
        · omega
      have kl : lft p = 0 ∨ lft p ∈ ks ++ (row ps (j + 1)).take i := by
        rcases Nat.eq_zero_or_pos (lft p) with h | h
        · exact .inl h
        · exact .inr (kb _ (mem_bnds.mpr ⟨.inl rfl, by omega⟩))
      have kr : rgt p = 0 ∨ rgt p ∈ ks ++ (row ps (j + 1)).take i := by
        rcases Nat.eq_zero_or_pos (rgt p) with h | h
        · exact .inl h
        · exact .inr (kb _ (mem_bnds.mpr ⟨.inr rfl, by omega⟩))
      have kp : p ∉ ks ++ (row ps (j + 1)).take i := fun h => by
        rcases List.mem_append.mp h with h | h
        · have := ((hks p).mp h).2; omega
        · exact nd_take (hP.nd.sublist List.filter_sublist) hpi h
      have klen : (ks ++ (row ps (j + 1)).take i).length < 500 := by
        rw [List.length_append, List.length_take]; omega
      rw [htk, ← List.append_assoc]
      generalize ks ++ (row ps (j + 1)).take i = kk at *
      have c1 := T.sub _ _ C.hc1
      have c2 := T.sub _ _ C.hc2
      have o1 := T.sub _ _ C.hod
      have u1 := T.sub _ _ C.hud
      with_reducible refine wpAny_assign_Name ?_
      refine sto (by assumption) ?_; intro _ _
      with_reducible refine cons_hid ?_; intro _ _
      refine wpAny_Assign_Name ?_
      refine wpAny_Call_NameR ?_
      refine nm_g (by assumption) (by k_is) ?_
      refine callWith_K (SS.K (by assumption)) (by k_is) ?_
      refine wpAny_items_cons ?_
      refine nm_i (by assumption) (by walk_at "lk") ?_; intro _
      with_reducible refine wpAny_items_nil ?_
      refine ⟨SS.K (by assumption), ?_⟩
      refine left_c (r.le (by decide)) (by assumption) hpp.1 hpp.2 ?_
      intro _ _ _
      refine sto (by assumption) ?_; intro _ _
      with_reducible refine Hid.out (by assumption) ?_
      with_reducible refine cons_hid ?_; intro _ _
      refine wpAny_Assign_Name ?_
      refine wpAny_Call_NameR ?_
      refine nm_g (by assumption) (by k_is) ?_
      refine callWith_K (SS.K (by assumption)) (by k_is) ?_
      refine wpAny_items_cons ?_
      refine nm_i (by assumption) (by walk_at "lk") ?_; intro _
      with_reducible refine wpAny_items_nil ?_
      refine ⟨SS.K (by assumption), ?_⟩
      refine right_c (r.le (by decide)) (by assumption) hpp.2 ?_
      intro _ _ _
      refine sto (by assumption) ?_; intro _ _
      with_reducible refine Hid.out (by assumption) ?_
      with_reducible refine cons_hid ?_; intro _ _
      refine wpAny_Assign_Subscript ?_
      with_reducible refine wpAny_BinOp ?_
      refine MethodCall_ ?_
      refine nm_cr (by assumption) (by exact rfl) (by walk_at "vw") ?_
      refine dmet (by assumption) o1 rfl PySem.F.slot_dict_get PySem.F.type_dict_get ?_
      refine callWith_method1 ?_
      refine wpAny_items_cons ?_
      refine nm_i (by assumption) (by walk_at "lk") ?_; intro _
      refine wpAny_items_cons ?_
      with_reducible refine c_int (by assumption) ?_; intro _ _ _
      with_reducible refine wpAny_items_nil ?_
      refine dget2 (by assumption) o1 rfl ?_
      intro v6 s6 hv S6
      obtain ⟨t6, rfl⟩ := er_int (hv.trans (getO (d := 0) k0 kl))
      refine MethodCall_ ?_
      refine nm_cr (by assumption) (by exact rfl) (by walk_at "vw") ?_
      refine dmet (by assumption) o1 rfl PySem.F.slot_dict_get PySem.F.type_dict_get ?_
      refine callWith_method1 ?_
      refine wpAny_items_cons ?_
      refine nm_i (by assumption) (by walk_at "lk") ?_; intro _
      refine wpAny_items_cons ?_
      with_reducible refine c_int (by assumption) ?_; intro _ _ _
      with_reducible refine wpAny_items_nil ?_
      refine dget2 (by assumption) o1 rfl ?_
      intro v7 s7 hv S7
      obtain ⟨t7, rfl⟩ := er_int (hv.trans (getO (d := 1) k0 kr))
      with_reducible refine add_i (by assumption) ?_; intro _ _ _
      refine nm_cr (by assumption) (by exact rfl) (by walk_at "vw") ?_
      refine nm_i (by assumption) (by walk_at "lk") ?_; intro _
      refine dset (ao' := .idict (dO (kk ++ [p]))) (by assumption) o1 rfl (by show _ = some (stored _ _ (.int _ 0)); unfold dO; rw [dv_new O kp (by rw [F.O_eq]; omega)]; rfl) (by rw [List.length_map, dO, List.length_map]; omega) ?_
      intro s8 S8
      have T8 := T.chg (ao := .idict (dO (kk ++ [p]))) C.hod (by intros; nofun) (by intros; nofun)
      have C8 := C.setO (k1 := kk ++ [p])
      have wb8 : upd W od (.idict (dO (kk ++ [p]))) b = _ := (upd_ne (ne_of wb C.hod nofun)).trans wb
      generalize upd W od (.idict (dO (kk ++ [p]))) = W8 at *
      generalize upd V od (.idict (dO (kk ++ [p]))) = V8 at *
      clear S6 S7 S5
      have c3 := T8.sub _ _ C8.hc2
      have u3 := T8.sub _ _ C8.hud
      with_reducible refine Hid.out (by assumption) ?_
      with_reducible refine cons_hid ?_; intro _ _
      refine wpAny_Assign_Subscript ?_
      with_reducible refine wpAny_BinOp ?_
      refine MethodCall_ ?_
      refine nm_cr (by assumption) (by exact rfl) (by walk_at "vw") ?_
      refine dmet (by assumption) u3 rfl PySem.F.slot_dict_get PySem.F.type_dict_get ?_
      refine callWith_method1 ?_
      refine wpAny_items_cons ?_
      refine nm_i (by assumption) (by walk_at "lk") ?_; intro _
      refine wpAny_items_cons ?_
      with_reducible refine c_int (by assumption) ?_; intro _ _ _
      with_reducible refine wpAny_items_nil ?_
      refine dget2 (by assumption) u3 rfl ?_
      intro v6 s6 hv S6
      obtain ⟨t6, rfl⟩ := er_int (hv.trans (getU (d := 1) k0 kl))
      refine MethodCall_ ?_
      refine nm_cr (by assumption) (by exact rfl) (by walk_at "vw") ?_
      refine dmet (by assumption) u3 rfl PySem.F.slot_dict_get PySem.F.type_dict_get ?_
      refine callWith_method1 ?_
      refine wpAny_items_cons ?_
      refine nm_i (by assumption) (by walk_at "lk") ?_; intro _
      refine wpAny_items_cons ?_
      with_reducible refine c_int (by assumption) ?_; intro _ _ _
      with_reducible refine wpAny_items_nil ?_
      refine dget2 (by assumption) u3 rfl ?_
      intro v7 s7 hv S7
      obtain ⟨t7, rfl⟩ := er_int (hv.trans (getU (d := 0) k0 kr))
      with_reducible refine add_i (by assumption) ?_; intro _ _ _
      refine nm_cr (by assumption) (by exact rfl) (by walk_at "vw") ?_
      refine nm_i (by assumption) (by walk_at "lk") ?_; intro _
      refine dset (ao' := .idict (dU (kk ++ [p]))) (by assumption) u3 rfl (by show _ = some (stored _ _ (.int _ 0)); unfold dU; rw [dv_new U kp (by rw [F.U_eq]; omega)]; rfl) (by rw [List.length_map, dU, List.length_map]; omega) ?_
      intro s9 S9
      have T9 := T8.chg (ao := .idict (dU (kk ++ [p]))) C8.hud (by intros; nofun) (by intros; nofun)
      have C9 := C8.setU (k1 := kk ++ [p])
      have wb9 : upd W8 ud (.idict (dU (kk ++ [p]))) b = _ := (upd_ne (ne_of wb8 C8.hud nofun)).trans wb8
      with_reducible refine Hid.out (by assumption) ?_
      with_reducible refine wpAny_execs_nil ?_
      exact ⟨_, _, ⟨_, T9, C9, wb9, by walk_at "lk", by walk_at "lk", by walk_at "lk", by walk_at "lk"⟩, S9⟩
    · clear S4 T2 C2 w2 T1 C1 w1 T C S3
      rintro m V s5 ⟨W, T, C, wb, m1, m2, m3, m4⟩ S5
      rw [List.length_map, List.take_length] at C
      with_reducible refine wpAny_execs_nil ?_
      with_reducible refine Hid.out (by assumption) ?_
      with_reducible refine cons_hid ?_; intro _ _
      refine wpAny_Expr_any ?_
      refine MethodCall_star ?_
      refine nm_r (by assumption) (by walk_at "lk") ?_
      refine gm (by assumption) T.self T.atts (by k_is) (by k_is) (by k_is) (by k_is) (by k_is) (by k_is) rfl rfl ?_
      intro mo s6 hmo S6
      refine callM_lone (f := 190) (x := x) (by k_is) ?_
      refine nm_r (by assumption) (by walk_at "lk") ?_
      refine ⟨G, _, _, _, b, _, rfl, by assumption, upd_old hmo (T.sub _ _ wb), by rw [List.length_map]; omega, upd_eq, ?_⟩
      intro vs s7 hI S7
      have hN1 : q1.N = ps := by rw [hq1]; exact hN
      have hsc1 : ∀ k ∈ ps, q1.sc k = ps.filter fun n => decide (k ∈ bnds n) := by rw [hq1]; exact hsc
      have I : RInv ps (j + 1) (fun b => decide (bl b < j + 1)) q1.np := by
        refine ⟨fun b _ h => decide_eq_true h, fun b _ h => by have := of_decide_eq_true h; omega, fun p hp => ?_⟩
        rw [hq1]
        show (if p ∈ row ps (j + 1) then (-1 : Int) else q.np p) = _
        by_cases e : bl p = j + 1
        · rw [if_pos (mem_row.mpr ⟨hp, e⟩), if_neg (by rw [decide_eq_true_eq]; omega), if_pos e]
        · rw [if_neg (fun h => e (mem_row.mp h).2), hnp p hp, if_neg e]
          by_cases e2 : bl p < j + 1
          · rw [if_pos e2, if_pos (decide_eq_true e2)]
          · rw [if_neg e2, if_neg (by rw [decide_eq_true_eq]; exact e2)]
      obtain ⟨R1, R2, R3⟩ := round_all hP hsort (by omega) hsc1 I
      refine done_c (r.le (by decide)) S7 (T.new hmo) (rl := rl) (rs := []) (by rw [hq1]) hI (fun n hn => by rw [hN1]; exact (mem_row.mp hn).1) (fun n hn => ?_) (by omega) (by decide) (fun i n hi => R3 i n hi) ?_
      · rw [hsc1 n (mem_row.mp hn).1, hN1]
        exact ⟨Nat.lt_of_le_of_lt (List.length_filter_le _ _) (by omega), fun c hc => (List.mem_filter.mp hc).1⟩
      intro V8 s8 T8 S8
      try dsimp only
      with_reducible refine Hid.out (by assumption) ?_
      with_reducible refine wpAny_execs_nil ?_
      refine ⟨n - 1, by omega, m, _, W, _, as ++ [b], ks ++ row ps (j + 1), j + 1, by assumption, T8, ?_, hN1, R2, hsc1, ?_, ?_, fun p => ?_, ?_, by omega, by walk_at "lk", by walk_at "lk", by walk_at "lk"⟩
      · rw [List.range_succ, List.map_append]
        exact C
      · show some (rl, _) = _
        rw [R1]
      · rw [hq1]
        show q.nfin + _ = q.npass + _
        rw [hnf]
      · rw [List.mem_append, hks, mem_row]
        constructor
        · rintro (h | h)
          · exact ⟨h.1, by omega⟩
          · exact ⟨h.1, by omega⟩
        · rintro ⟨h1, h2⟩
          rcases Nat.lt_or_ge (bl p) (j + 1) with h3 | h3
          · exact .inl ⟨h1, h3⟩
          · exact .inr ⟨h1, by omega⟩
      · rw [List.length_append]
        omega
end
/-- what the law keeps after the rounds -/
structure LE (L pl od ud : Addr) (ps ks : List Nat) (W : View) : Prop where
  hpl : W pl = some (.ilist (ps.map Int.ofNat))
  hc1 : W (L + 1) = some (.cell (some (.ref od)))
  hc2 : W (L + 1 + 1) = some (.cell (some (.ref ud)))
  hc3 : ∃ v, W (L + 1 + 1 + 1) = some (.cell v)
  hod : W od = some (.idict (dO ks))
  hud : W ud = some (.idict (dU ks))
section
variable {L pl rn od ud b : Addr} {ps : List Nat} {as : List Addr} {nss : List (List Int)} {ks : List Nat} {W V : View} {ao : AObj}
theorem LC.toE (C : LC L pl rn od ud ps as nss ks ks W) : LE L pl od ud ps ks W := ⟨C.hpl, C.hc1, C.hc2, ⟨_, C.hc3⟩, C.hod, C.hud⟩
theorem LE.new (C : LE L pl od ud ps ks W) (hb : W b = none) : LE L pl od ud ps ks (upd W b ao) :=
  ⟨upd_old hb C.hpl, upd_old hb C.hc1, upd_old hb C.hc2, let ⟨v, h⟩ := C.hc3; ⟨v, upd_old hb h⟩, upd_old hb C.hod, upd_old hb C.hud⟩
theorem LE.setc {v : Option Value} (C : LE L pl od ud ps ks W) : LE L pl od ud ps ks (upd W (L + 1 + 1 + 1) (.cell v)) := by
  obtain ⟨v0, h⟩ := C.hc3
  exact ⟨(upd_ne (ne_of C.hpl h nofun)).trans C.hpl, (upd_ne (fun e => absurd (show @Eq Nat _ _ from e) (by omega))).trans C.hc1, (upd_ne (fun e => absurd (show @Eq Nat _ _ from e) (by omega))).trans C.hc2,
    ⟨v, upd_eq⟩, (upd_ne (ne_of C.hod h nofun)).trans C.hod, (upd_ne (ne_of C.hud h nofun)).trans C.hud⟩
theorem LE.chgR (C : LE L pl od ud ps ks W) (hb : W b = some (.rlist as)) : LE L pl od ud ps ks (upd W b ao) :=
  ⟨(upd_ne (ne_of C.hpl hb nofun)).trans C.hpl, (upd_ne (ne_of C.hc1 hb nofun)).trans C.hc1, (upd_ne (ne_of C.hc2 hb nofun)).trans C.hc2,
    let ⟨v, h⟩ := C.hc3; ⟨v, (upd_ne (ne_of h hb nofun)).trans h⟩, (upd_ne (ne_of C.hod hb nofun)).trans C.hod, (upd_ne (ne_of C.hud hb nofun)).trans C.hud⟩
end
section
variable {w : World} {G : Gd w} {f₀ : Addr × FK} {fs : Frs} {W V V' : View} {s s' : Shared} {l a b d x pl rn od ud L : Addr} {m : Loc} {A : Around} {E : Value → Shared → Prop} {ps ini ks : List Nat} {as : List Addr}
theorem stC {z : Nat} {Q : Flow → Shared → Prop} (r : Rm A 84) (S : SS G ((L, .loc m) :: fs) V s) (hP : Pl ps) (hps : ps = ini ++ [z])
    (C : LC L pl rn od ud ps as ((List.range (bl z)).map fun i => (row ps (i + 1)).map Int.ofNat) ks ks V) (m2 : m (Str.ofString "places") = some (.ref pl)) (m3 : m (Str.ofString "rounds") = some (.ref rn))
    (h : ∀ m' V' s', LE L pl od ud ps ks V' → m' (Str.ofString "places") = some (.ref pl) → SS G ((L, .loc m') :: fs) V' s' → wpAny (model PP w) A (execs (lawBody.drop 11) (lawEnv L)) Q (fun _ _ => False) s') :
    wpAny (model PP w) A (execs (lawBody.drop 8) (lawEnv L)) Q (fun _ _ => False) s := by
  show wpAny _ _ (execs (_ :: _) (envOfC _ { kind := _, names := _ :: _, isGenerator := _, isCoroutine := _, more := _ } _ _ _)) _ _ _
  have hz : z ∈ ps := by rw [hps]; simp
  have hK : bl z ≤ 7 := (hP.pf hz).bl7
  have hpsl : ps.length < 20 := hP.len
  have hini : ini.length < 20 := by rw [hps, List.length_append] at hpsl; omega
  with_reducible refine cons_hid ?_; intro _ _
  refine wpAny_Assign_Name ?_
  refine disp_rl ?_
  with_reducible refine wpAny_items_nil ?_
  refine ⟨G, _, _, _, [], by assumption, rfl, by decide, ?_⟩
  intro rw' s1 hrw S1
  have hne : rw' ≠ rn := fun e => by rw [e, C.hrn] at hrw; cases hrw
  have C1 := C.toE.new (ao := .rlist []) hrw
  have w1 := upo (ao := .rlist []) hrw C.hrn
  have w2 : TupsAt (upd V rw' (.rlist [])) as _ := C.htup.sub fun a o h => upd_old hrw h
  have w3 : upd V rw' (.rlist []) rw' = _ := upd_eq
  generalize upd V rw' (.rlist []) = V1 at *
  clear S
  refine sto (by assumption) ?_; intro _ _
  with_reducible refine Hid.out (by assumption) ?_
  with_reducible refine cons_hid ?_; intro _ _
  refine wpAny_For ?_
  refine wpAny_Call_NameR ?_
  refine nm_b (by assumption) (by k_is) (by walk_at "bt") (by decide +kernel) ?_
  refine PyProof.Rows.callWith_type1 ?_
  refine wpAny_items_cons ?_
  with_reducible refine c_int (by assumption) ?_; intro _ _ _
  refine wpAny_items_cons ?_
  with_reducible refine wpAny_BinOp ?_
  refine MethodCall_ ?_
  with_reducible refine Subscript_ ?_
  refine nm_r (by assumption) (by walk_at "lk") ?_
  with_reducible refine wpAny_UnaryOp ?_
  with_reducible refine c_int (by assumption) ?_; intro _ _ _
  with_reducible refine neg_i (by assumption) ?_; intro _ _ _
  refine sub_lastI (ns := ini.map Int.ofNat) (n := (z : Int)) (by assumption) (by rw [C1.hpl, hps, List.map_append]; rfl) (by rw [List.length_map]; omega) ?_
  intro _
  refine getMethod_int_bit_length ?_
  refine callWith_method0 ?_
  refine bl_i (by assumption) ?_; intro _ _ _
  with_reducible refine c_int (by assumption) ?_; intro _ _ _
  with_reducible refine add_i (by assumption) ?_; intro _ _ _
  with_reducible refine wpAny_items_nil ?_
  rw [bl_eq]
  skip
  rw [show ((bl z : Int) + 1) = 1 + ((bl z : Nat) : Int) from by omega]
  refine rng_2 (by assumption) ?_
  intro _ _ _ _ S2
  skip
  refine it_rng S2 (by decide) (by decide) (by omega) ?_
  intro I s3 S3
  refine for_rg r S3 (fun i m V => LE L pl od ud ps ks V ∧ V rn = some (.rlist as) ∧ TupsAt V as ((List.range (bl z)).map fun i => (row ps (i + 1)).map Int.ofNat) ∧
      (∃ as2, V rw' = some (.rlist as2) ∧ as2.length = i ∧ TupsAt V as2 ((List.range i).map fun i => (row ps (i + 1)).map Int.ofNat)) ∧ m (Str.ofString "places") = some (.ref pl) ∧ m (Str.ofString "rounds") = some (.ref rn) ∧ m (Str.ofString "rows") = some (.ref rw'))
    ⟨C1, w1, w2, ⟨[], w3, rfl, .nil⟩, by walk_at "lk", by walk_at "lk", by walk_at "lk"⟩ ?_ ?_
  · rintro i m V t it s4 hi ⟨C, w1, w2, ⟨as2, w3, hl2, w4⟩, m2, m3, m4⟩ S4
    rw [show (1 + (i : Int) * 1) = ((i + 1 : Nat) : Int) from by omega]
    obtain ⟨v, hc3⟩ := C.hc3
    with_reducible refine wpAny_assign_Name ?_
    refine sto_c (by assumption) (by exact rfl) (by walk_at "vw") ?_; intro _ _
    with_reducible refine cons_hid ?_; intro _ _
    refine wpAny_Expr_any ?_
    refine MethodCall_ ?_
    refine nm_r (by assumption) (by walk_at "lk") ?_
    rename_i sx S5 _ _
    change SS G _ (upd V (L + 1 + 1 + 1) (.cell (some (.int ((i + 1 : Nat) : Int) 0)))) sx at S5
    have D1 := C.setc (v := some (.int ((i + 1 : Nat) : Int) 0))
    have x1 : upd V (L + 1 + 1 + 1) (.cell (some (.int ((i + 1 : Nat) : Int) 0))) rn = _ := (upd_ne (ne_of w1 hc3 nofun)).trans w1
    have x2 := w2.chg (b := L + 1 + 1 + 1) (ao := .cell (some (.int ((i + 1 : Nat) : Int) 0))) (fun ns e => by rw [hc3] at e; cases e)
    have x3 : upd V (L + 1 + 1 + 1) (.cell (some (.int ((i + 1 : Nat) : Int) 0))) rw' = _ := (upd_ne (ne_of w3 hc3 nofun)).trans w3
    have x4 := w4.chg (b := L + 1 + 1 + 1) (ao := .cell (some (.int ((i + 1 : Nat) : Int) 0))) (fun ns e => by rw [hc3] at e; cases e)
    have x5 : upd V (L + 1 + 1 + 1) (.cell (some (.int ((i + 1 : Nat) : Int) 0))) (L + 1 + 1 + 1) = _ := upd_eq
    generalize upd V (L + 1 + 1 + 1) (.cell (some (.int ((i + 1 : Nat) : Int) 0))) = V1 at *
    clear S4
    skip
    refine met_rl (by assumption) x3 PySem.F.slot_list_append PySem.F.type_list_append ?_
    refine callWith_method1 ?_
    refine wpAny_items_cons ?_
    refine wpAny_Call_NameR ?_
    refine nm_b (by assumption) (by k_is) (by walk_at "bt") (by decide +kernel) ?_
    refine PyProof.Rows.callWith_type1 ?_
    refine wpAny_items_cons ?_
    refine lc_start [(Str.ofString "bits", L + 1 + 1 + 1)] rfl rfl (by decide) ?_
    refine nm_r (by assumption) (by walk_at "lk") ?_
    refine comp_il r S5 D1.hpl (fun j V₀ ao => V₀ = V1 ∧ ao = .ilist (((ps.take j).filter fun p => decide (bl p = i + 1)).map Int.ofNat)) (fun j V₀ ao ⟨h, _⟩ => by rw [h]; exact D1.hpl) (by decide) rfl rfl (.inl ⟨rfl, rfl⟩) (fun i V₀ ao ⟨_, h⟩ q => by rw [h]; nofun) ?_ ?_
    · rintro j V₀ ao m9 s9 Cc D it2 hj ⟨rfl, rfl⟩ hD S9
      rw [List.length_map] at hj
      rw [getD_map _ j hj] at S9
      generalize hn : ps.getD j 0 = p at S9
      have hpj : ps[j]? = some p := by rw [← hn, List.getD_eq_getElem?_getD, List.getElem?_eq_getElem hj]; rfl
      have htk : ps.take (j + 1) = ps.take j ++ [p] := by rw [List.take_add_one, hpj]; rfl
      have hlz : ((ps.take j).filter fun p => decide (bl p = i + 1)).length ≤ ps.length := Nat.le_trans (List.length_filter_le _ _) (by rw [List.length_take]; omega)
      refine wpAny_tests_one ?_
      refine wpAny_isTrue_Compare1 ?_
      refine MethodCall_ ?_
      refine nm_i (by assumption) (by walk_at "lk") ?_; intro _
      refine getMethod_int_bit_length ?_
      refine callWith_method0 ?_
      refine bl_i (by assumption) ?_; intro _ _ _
      refine nm_ci (by assumption) (by exact rfl) (by walk_at "vw") ?_; intro _
      with_reducible refine P.eq_int ?_
      with_reducible refine wpAny_truthy_bool ?_
      rw [bl_eq]
      split
      · rename_i he
        have he : bl p = i + 1 := by have := eq_of_beq he; omega
        refine nm_i (by assumption) (by walk_at "lk") ?_; intro _
        refine app_il (by assumption) upd_eq (by rw [List.length_map]; omega) ?_
        intro s10 S10
        rw [upd_upd] at S10
        refine ⟨lup m9 (Str.ofString "place") (.int (p : Int) 0), _, _, ⟨rfl, rfl⟩, hD, ?_⟩
        rw [htk, List.filter_append, List.filter_cons_of_pos (by simp [he]), List.filter_nil, List.map_append]
        exact S10
      · rename_i he
        have he : bl p ≠ i + 1 := fun e => he (by rw [e]; exact beq_self_eq_true _)
        refine ⟨lup m9 (Str.ofString "place") (.int (p : Int) 0), _, _, ⟨rfl, rfl⟩, hD, ?_⟩
        rw [htk, List.filter_append, List.filter_cons_of_neg (by simp [he]), List.filter_nil, List.append_nil]
        assumption
    · rintro V₀ ao D s9 ⟨rfl, rfl⟩ hD S9
      rw [List.length_map, List.take_length] at S9
      change SS G _ (upd _ D (.ilist ((row ps (i + 1)).map Int.ofNat))) s9 at S9
      have hrl : (row ps (i + 1)).length < 20 := Nat.lt_of_le_of_lt (List.length_filter_le _ _) hpsl
      with_reducible refine wpAny_items_nil ?_
      refine tup_il (by assumption) upd_eq (by rw [List.length_map]; omega) ?_
      intro b s10 hb S10
      have D2 := (D1.new (ao := .ilist ((row ps (i + 1)).map Int.ofNat)) hD).new (ao := .itup ((row ps (i + 1)).map Int.ofNat)) hb
      have y1 := upo (ao := .itup ((row ps (i + 1)).map Int.ofNat)) hb (upo (ao := .ilist ((row ps (i + 1)).map Int.ofNat)) hD x1)
      have y2 := (x2.sub fun a o h => upo (ao := .ilist ((row ps (i + 1)).map Int.ofNat)) hD h).sub fun a o h => upo (ao := .itup ((row ps (i + 1)).map Int.ofNat)) hb h
      have y3 := upo (ao := .itup ((row ps (i + 1)).map Int.ofNat)) hb (upo (ao := .ilist ((row ps (i + 1)).map Int.ofNat)) hD x3)
      have y4 := (x4.sub fun a o h => upo (ao := .ilist ((row ps (i + 1)).map Int.ofNat)) hD h).sub fun a o h => upo (ao := .itup ((row ps (i + 1)).map Int.ofNat)) hb h
      have y5 : upd (upd V₀ D (.ilist ((row ps (i + 1)).map Int.ofNat))) b (.itup ((row ps (i + 1)).map Int.ofNat)) b = _ := upd_eq
      generalize upd (upd V₀ D (.ilist ((row ps (i + 1)).map Int.ofNat))) b (.itup ((row ps (i + 1)).map Int.ofNat)) = V2 at *
      with_reducible refine wpAny_items_nil ?_
      refine app_rl (by assumption) y3 (by omega) ?_
      intro s11 S11
      with_reducible refine Hid.out (by assumption) ?_
      with_reducible refine wpAny_execs_nil ?_
      refine ⟨_, _, ⟨D2.chgR y3, (upd_ne hne.symm).trans y1, y2.chg (fun ns e => by rw [y3] at e; cases e), ⟨as2 ++ [b], upd_eq, by rw [List.length_append, hl2]; rfl, ?_⟩, by walk_at "lk", by walk_at "lk", by walk_at "lk"⟩, S11⟩
      rw [List.range_succ, List.map_append]
      exact TupsAt.snoc ((upd_ne (ne_of y5 y3 nofun)).trans y5) (y4.chg (fun ns e => by rw [y3] at e; cases e))
  · rintro m V s4 ⟨C, w1, w2, ⟨as2, w3, hl2, w4⟩, m2, m3, m4⟩ S4
    with_reducible refine wpAny_execs_nil ?_
    with_reducible refine Hid.out (by assumption) ?_
    with_reducible refine cons_hid ?_; intro _ _
    with_reducible refine wpAny_If ?_
    refine wpAny_isTrue_Compare1 ?_
    refine nm_r (by assumption) (by walk_at "lk") ?_
    refine nm_r (by assumption) (by walk_at "lk") ?_
    refine ne_rt (r.le (by decide) : Rm A (78 + 6)) (by assumption) w1 w3 w2 w4 ?_
    with_reducible refine wpAny_truthy_bool ?_
    with_reducible refine ifF ?_
    with_reducible refine wpAny_execs_nil ?_
    with_reducible refine Hid.out (by assumption) ?_
    exact h _ _ _ C m2 (by assumption)
end
section
variable {L pl rn od ud b : Addr} {ps : List Nat} {ks : List Nat} {W V : View} {ao : AObj}
theorem LE.sub (C : LE L pl od ud ps ks W) (h : ∀ a ao, W a = some ao → V a = some ao) : LE L pl od ud ps ks V :=
  ⟨h _ _ C.hpl, h _ _ C.hc1, h _ _ C.hc2, let ⟨v, e⟩ := C.hc3; ⟨v, h _ _ e⟩, h _ _ C.hod, h _ _ C.hud⟩
theorem atO {p : Nat} (h : p ∈ ks) : valueAt ((dO ks).map fun p => (p.1, Value.int p.2 0)) (p : Int) = some (.int (O p) 0) := by
  unfold dO; rw [dv_at, if_pos h]
theorem atU {p : Nat} (h : p ∈ ks) : valueAt ((dU ks).map fun p => (p.1, Value.int p.2 0)) (p : Int) = some (.int (U p) 0) := by
  unfold dU; rw [dv_at, if_pos h]
end
section
variable {w : World} {G : Gd w} {f₀ : Addr × FK} {fs : Frs} {W V V' : View} {s s' : Shared} {l a b d x pl rn od ud L : Addr} {m : Loc} {A : Around} {E : Value → Shared → Prop} {ps ini ks : List Nat} {as : List Addr}
theorem stD {Q : Flow → Shared → Prop} (r : Rm A 84) (S : SS G ((L, .loc m) :: fs) V s) (hP : Pl ps) (C : LE L pl od ud ps ks V) (hks : ∀ p ∈ ps, p ∈ ks) (m2 : m (Str.ofString "places") = some (.ref pl))
    (h : ∀ m' V' s' M, LE L pl od ud ps ks V' → (∀ p ∈ ps, O p + U p ≤ M) → M ≤ 34 → m' (Str.ofString "places") = some (.ref pl) → m' (Str.ofString "wide") = some (.int ((M * M : Nat) : Int) 0) → SS G ((L, .loc m') :: fs) V' s' →
      wpAny (model PP w) A (execs (lawBody.drop 13) (lawEnv L)) Q (fun _ _ => False) s') :
    wpAny (model PP w) A (execs (lawBody.drop 11) (lawEnv L)) Q (fun _ _ => False) s := by
  show wpAny _ _ (execs (_ :: _) (envOfC _ { kind := _, names := _ :: _, isGenerator := _, isCoroutine := _, more := _ } _ _ _)) _ _ _
  have hpsl : ps.length < 20 := hP.len
  with_reducible refine cons_hid ?_; intro _ _
  with_reducible refine wpAny_If ?_
  refine wpAny_isTrue_Compare1 ?_
  refine lc_start [(Str.ofString "under", L + 1 + 1), (Str.ofString "over", L + 1)] rfl rfl (by decide) ?_
  refine nm_r (by assumption) (by walk_at "lk") ?_
  obtain ⟨Vb, hVb⟩ : ∃ Vb, Vb = V := ⟨_, rfl⟩
  refine comp_il r (by assumption) C.hpl (fun j V₀ ao => (∀ a o, V a = some o → V₀ a = some o) ∧ ∃ as, ao = .rlist as ∧ as.length = j ∧ TupsAt V₀ as ((ps.take j).map fun p : Nat => [(p : Int), (1 : Int)])) (fun j V₀ ao ⟨h, _⟩ => h _ _ C.hpl) (by decide) rfl rfl (.inr ⟨fun a o h => h, [], rfl, rfl, .nil⟩) (fun i V₀ ao ⟨_, as, h, _⟩ q => by rw [h]; nofun) ?_ ?_
  · rintro j V₀ ao m9 s9 Cc D it2 hj ⟨hx, as, rfl, hal, ht⟩ hD S9
    rw [List.length_map] at hj
    rw [getD_map _ j hj] at S9
    generalize hn : ps.getD j 0 = p at S9
    have hpj : ps[j]? = some p := by rw [← hn, List.getD_eq_getElem?_getD, List.getElem?_eq_getElem hj]; rfl
    have hp : p ∈ ps := List.mem_of_getElem? hpj
    have htk : ps.take (j + 1) = ps.take j ++ [p] := by rw [List.take_add_one, hpj]; rfl
    have C1 := C.sub fun a o h => upo (ao := .rlist as) hD (hx a o h)
    have c1 := C1.hc1
    have c2 := C1.hc2
    refine wpAny_pure ?_
    rw [if_pos rfl]
    refine wpAny_Call_NameR ?_
    refine nm_g (by assumption) (by k_is) ?_
    refine callWith_K (SS.K (by assumption)) (by k_is) ?_
    refine wpAny_items_cons ?_
    with_reducible refine Subscript_ ?_
    refine nm_cr (by assumption) (by exact rfl) (by walk_at "vw") ?_
    refine nm_i (by assumption) (by walk_at "lk") ?_; intro _
    refine ditem (by assumption) C1.hod rfl (atO (hks p hp)) ?_
    intro v s10 hv S10
    obtain ⟨t1, rfl⟩ := er_int hv
    refine wpAny_items_cons ?_
    with_reducible refine Subscript_ ?_
    refine nm_cr (by assumption) (by exact rfl) (by walk_at "vw") ?_
    refine nm_i (by assumption) (by walk_at "lk") ?_; intro _
    refine ditem (by assumption) C1.hud rfl (atU (hks p hp)) ?_
    intro v s11 hv S11
    obtain ⟨t2, rfl⟩ := er_int hv
    with_reducible refine wpAny_items_nil ?_
    refine ⟨SS.K (by assumption), ?_⟩
    refine way_c (r.le (by decide)) (by assumption) (hP.pf hp).way ?_
    intro b s12 hb S12
    have hbD : b ≠ D := fun e => by rw [e, upd_eq] at hb; cases hb
    rw [upd_ne hbD] at hb
    refine app_rl (by assumption) ((upd_ne hbD.symm).trans upd_eq) (by omega) ?_
    intro s13 S13
    rw [upd_comm hbD.symm, upd_upd] at S13
    refine ⟨_, _, _, ⟨fun a o h => upo hb (hx a o h), as ++ [b], rfl, by rw [List.length_append, hal]; rfl, ?_⟩, (upd_ne hbD.symm).trans hD, S13⟩
    rw [htk, List.map_append]
    exact TupsAt.snoc upd_eq (ht.sub fun a o h => upo hb h)
  · rintro V₀ ao D s9 ⟨hx, as, rfl, hal, ht⟩ hD S9
    rw [List.length_map, List.take_length] at ht
    have C1 := C.sub fun a o h => upo (ao := .rlist as) hD (hx a o h)
    have v1 : upd V₀ D (.rlist as) D = _ := upd_eq
    have v2 : TupsAt (upd V₀ D (.rlist as)) as _ := ht.sub fun a o h => upo hD h
    generalize upd V₀ D (.rlist as) = V1 at *
    refine lc_start [] rfl rfl (by decide) ?_
    refine nm_r (by assumption) (by walk_at "lk") ?_
    refine comp_il r (by assumption) C1.hpl (fun j V₀ ao => (∀ a o, V1 a = some o → V₀ a = some o) ∧ ∃ as, ao = .rlist as ∧ as.length = j ∧ TupsAt V₀ as ((ps.take j).map fun p : Nat => [(p : Int), (1 : Int)])) (fun j V₀ ao ⟨h, _⟩ => h _ _ C1.hpl) (by decide) rfl rfl (.inr ⟨fun a o h => h, [], rfl, rfl, .nil⟩) (fun i V₀ ao ⟨_, as, h, _⟩ q => by rw [h]; nofun) ?_ ?_
    · rintro j V₀ ao m9 s9 Cc D it2 hj ⟨hx, as, rfl, hal, ht⟩ hD S9
      rw [List.length_map] at hj
      rw [getD_map _ j hj] at S9
      generalize hn : ps.getD j 0 = p at S9
      have hpj : ps[j]? = some p := by rw [← hn, List.getD_eq_getElem?_getD, List.getElem?_eq_getElem hj]; rfl
      have htk : ps.take (j + 1) = ps.take j ++ [p] := by rw [List.take_add_one, hpj]; rfl
      refine wpAny_pure ?_
      rw [if_pos rfl]
      refine disp_it ?_
      refine wpAny_items_cons ?_
      refine nm_i (by assumption) (by walk_at "lk") ?_; intro _
      refine wpAny_items_cons ?_
      with_reducible refine c_int (by assumption) ?_; intro _ _ _
      with_reducible refine wpAny_items_nil ?_
      refine ⟨G, _, _, _, [(p : Int), (1 : Int)], by assumption, .cons _ _ (.cons _ _ .nil), by show 2 < 1000000; decide, ?_⟩
      intro b s12 hb S12
      have hbD : b ≠ D := fun e => by rw [e, upd_eq] at hb; cases hb
      rw [upd_ne hbD] at hb
      refine app_rl (by assumption) ((upd_ne hbD.symm).trans upd_eq) (by omega) ?_
      intro s13 S13
      rw [upd_comm hbD.symm, upd_upd] at S13
      refine ⟨_, _, _, ⟨fun a o h => upo hb (hx a o h), as ++ [b], rfl, by rw [List.length_append, hal]; rfl, ?_⟩, (upd_ne hbD.symm).trans hD, S13⟩
      rw [htk, List.map_append]
      exact TupsAt.snoc upd_eq (ht.sub fun a o h => upo hb h)
    · rintro V₀ ao D2 s9 ⟨hx, as2, rfl, hal, ht⟩ hD S9
      rw [List.length_map, List.take_length] at ht
      have C2 := C1.sub fun a o h => upo (ao := .rlist as2) hD (hx a o h)
      refine ne_rt (r.le (by decide) : Rm A (78 + 6)) S9 (upo hD (hx _ _ v1)) upd_eq (v2.sub fun a o h => upo hD (hx a o h)) (ht.sub fun a o h => upo hD h) ?_
      generalize upd V₀ D2 (.rlist as2) = V2 at *
      with_reducible refine wpAny_truthy_bool ?_
      with_reducible refine ifF ?_
      with_reducible refine wpAny_execs_nil ?_
      with_reducible refine Hid.out (by assumption) ?_
      with_reducible refine cons_hid ?_; intro _ _
      refine wpAny_Assign_Name ?_
      with_reducible refine wpAny_BinOp ?_
      refine wpAny_Call_NameR ?_
      refine nm_b (by assumption) (by k_is) (by walk_at "bt") (by decide +kernel) ?_
      refine callWith_method1 ?_
      refine wpAny_items_cons ?_
      refine lc_start [(Str.ofString "under", L + 1 + 1), (Str.ofString "over", L + 1)] rfl rfl (by decide) ?_
      refine nm_r (by assumption) (by walk_at "lk") ?_
      refine comp_il r (by assumption) C2.hpl (fun j V₀ ao => V₀ = V2 ∧ ao = .ilist ((ps.take j).map fun p : Nat => ((O p + U p : Nat) : Int))) (fun j V₀ ao ⟨h, _⟩ => by rw [h]; exact C2.hpl) (by decide) rfl rfl (.inl ⟨rfl, rfl⟩) (fun i V₀ ao ⟨_, h⟩ q => by rw [h]; nofun) ?_ ?_
      · rintro j V₀ ao m9 s9 Cc D it2 hj ⟨rfl, rfl⟩ hD S9
        rw [List.length_map] at hj
        rw [getD_map _ j hj] at S9
        generalize hn : ps.getD j 0 = p at S9
        have hpj : ps[j]? = some p := by rw [← hn, List.getD_eq_getElem?_getD, List.getElem?_eq_getElem hj]; rfl
        have hp : p ∈ ps := List.mem_of_getElem? hpj
        have htk : ps.take (j + 1) = ps.take j ++ [p] := by rw [List.take_add_one, hpj]; rfl
        have C1 := C2.new (ao := .ilist ((ps.take j).map fun p : Nat => ((O p + U p : Nat) : Int))) hD
        have c1 := C1.hc1
        have c2 := C1.hc2
        refine wpAny_pure ?_
        rw [if_pos rfl]
        with_reducible refine wpAny_BinOp ?_
        with_reducible refine Subscript_ ?_
        refine nm_cr (by assumption) (by exact rfl) (by walk_at "vw") ?_
        refine nm_i (by assumption) (by walk_at "lk") ?_; intro _
        refine ditem (by assumption) C1.hod rfl (atO (hks p hp)) ?_
        intro v s10 hv S10
        obtain ⟨t1, rfl⟩ := er_int hv
        with_reducible refine Subscript_ ?_
        refine nm_cr (by assumption) (by exact rfl) (by walk_at "vw") ?_
        refine nm_i (by assumption) (by walk_at "lk") ?_; intro _
        refine ditem (by assumption) C1.hud rfl (atU (hks p hp)) ?_
        intro v s11 hv S11
        obtain ⟨t2, rfl⟩ := er_int hv
        with_reducible refine add_i (by assumption) ?_; intro _ _ _
        refine app_il (by assumption) upd_eq (by rw [List.length_map, List.length_take]; omega) ?_
        intro s12 S12
        rw [upd_upd] at S12
        refine ⟨lup m9 (Str.ofString "place") (.int (p : Int) 0), _, _, ⟨rfl, rfl⟩, hD, ?_⟩
        rw [htk, List.map_append]
        exact S12
      · rintro V₀ ao D3 s10 ⟨rfl, rfl⟩ hD S10
        rw [List.length_map, List.take_length] at S10
        with_reducible refine wpAny_items_nil ?_
        refine max_il (r.le (by decide) : Rm A (80 + 1)) (by assumption) upd_eq (by rw [List.length_map]; exact List.length_pos_of_mem hP.one) ?_
        intro M t s11 hM1 hM2 S11
        obtain ⟨p, hp, rfl⟩ := List.mem_map.mp hM1
        have hs := (hP.pf hp).sum
        with_reducible refine c_int (by assumption) ?_; intro _ _ _
        refine pow_i (by assumption) (by decide) (by decide) (by rw [Int.natAbs_natCast]; exact Nat.lt_of_le_of_lt hs (by decide)) ?_
        intro _ _ _
        refine sto (by assumption) ?_; intro _ _
        with_reducible refine Hid.out (by assumption) ?_
        refine h _ _ _ (O p + U p) (C2.new hD) (fun p' hp' => ?_) hs (by walk_at "lk") (lup_eq.trans ?_) (by assumption)
        · have := hM2 _ (List.mem_map.mpr ⟨p', hp', rfl⟩)
          exact Int.ofNat_le.mp this
        · show some (Value.int (((O p + U p : Nat) : Int) ^ 2) 0) = _
          rw [Int.pow_succ, Int.pow_succ, Int.pow_zero, Int.one_mul, Int.natCast_mul]
end
/-- the heap's entries: a floor and a name -/
noncomputable def fl (M p : Nat) : Int := ((O p * (M * M) : Nat) : Int).fdiv ((O p + U p : Nat) : Int)
noncomputable def fn (M p : Nat) : Int := (-((O p * (M * M) : Nat) : Int)).fdiv ((O p + U p : Nat) : Int)
noncomputable def two (M p : Nat) : List (Int × Int) := [(fl M p, (p : Int)), (fn M p, -(p : Int))]
noncomputable def ents (M : Nat) (ps : List Nat) : List (Int × Int) := ps.flatMap (two M)
noncomputable def prs2 (es : List (Int × Int)) : List (List Int) := es.map fun e => [e.1, e.2]
theorem joinV {w : World} {A : Around} {E : Value → Shared → Prop} {s : Shared} {x : Sem Value} {Q : Value → Shared → Prop} (J : Value → Shared → Prop) (h1 : wpAny (model PP w) A x J (fun _ _ => False) s) (h2 : ∀ v s', J v s' → Q v s') : wpAny (model PP w) A x Q E s :=
  wpAny_mono h1 (fun v s' h => h2 v s' h) fun _ _ h => h.elim
theorem chkdiv (dd dv : Int) (h : dv ≠ 0) : dd.fdiv dv * dv + dd.fmod dv = dd ∧ 0 ≤ dd.fmod dv * dv ∧ (dd.fmod dv).natAbs < dv.natAbs ∧ (dd.fdiv dv).natAbs ≤ dd.natAbs + dv.natAbs := by
  have h1 := Int.fdiv_mul_add_fmod dd dv
  have h2 : 0 ≤ dd.fmod dv * dv ∧ (dd.fmod dv).natAbs < dv.natAbs := by
    rcases Int.lt_or_gt_of_ne h with hn | hp
    · obtain ⟨z, rfl⟩ : ∃ z : Int, dv = -z := ⟨-dv, by omega⟩
      have e : dd.fmod (-z) = -((-dd).fmod z) := by rw [← Int.neg_fmod_neg (-dd) z, Int.neg_neg]
      rw [e]
      have a := Int.fmod_nonneg_of_pos (-dd) (show 0 < z by omega)
      have b := Int.fmod_lt_of_pos (-dd) (show 0 < z by omega)
      generalize (-dd).fmod z = r at *
      refine ⟨?_, by omega⟩
      rw [Int.neg_mul_neg]
      exact Int.mul_nonneg a (by omega)
    · have a := Int.fmod_nonneg_of_pos dd hp
      have b := Int.fmod_lt_of_pos dd hp
      exact ⟨Int.mul_nonneg a (by omega), by omega⟩
  refine ⟨h1, h2.1, h2.2, ?_⟩
  have h3 : (dd.fdiv dv * dv).natAbs ≤ dd.natAbs + dv.natAbs := by
    have : dd.fdiv dv * dv = dd - dd.fmod dv := by omega
    rw [this]
    omega
  rw [Int.natAbs_mul] at h3
  exact Nat.le_trans (Nat.le_mul_of_pos_right _ (by omega)) h3
/-- the pair that a tuple holds -/
noncomputable def prOf (V : View) (b : Addr) : Int × Int := match V b with | some (.itup [i, j]) => (i, j) | _ => (0, 0)
theorem prOf_of {V : View} {b : Addr} {i j : Int} (h : V b = some (.itup [i, j])) : prOf V b = (i, j) := by unfold prOf; rw [h]
theorem tups_prs {V : View} : ∀ {as : List Addr} {es : List (Int × Int)}, TupsAt V as (prs2 es) → (∀ b ∈ as, V b = some (.itup [(prOf V b).1, (prOf V b).2])) ∧ as.map (prOf V) = es
  | [], [], _ => ⟨fun _ h => absurd h List.not_mem_nil, rfl⟩
  | a :: as, e :: es, h => by
    obtain ⟨i, j⟩ := e
    cases h with
    | cons h t =>
      obtain ⟨h1, h2⟩ := tups_prs (es := es) t
      refine ⟨fun b hb => ?_, by rw [List.map_cons, h2, prOf_of h]⟩
      rcases List.mem_cons.mp hb with rfl | hb
      · rw [prOf_of h]; exact h
      · exact h1 b hb
theorem ents_len (M : Nat) : ∀ ps : List Nat, (ents M ps).length = 2 * ps.length
  | [] => rfl
  | p :: ps => by
    have := ents_len M ps
    unfold ents at this ⊢
    rw [List.flatMap_cons, List.length_append, this, List.length_cons]
    show 2 + _ = _
    omega
section
variable {w : World} {G : Gd w} {f₀ : Addr × FK} {fs : Frs} {W V V' : View} {s s' : Shared} {l a b d x pl rn od ud L : Addr} {m : Loc} {A : Around} {E : Value → Shared → Prop} {ps ini ks : List Nat} {as : List Addr}
theorem stE {M : Nat} {Q : Flow → Shared → Prop} (r : Rm A 84) (S : SS G ((L, .loc m) :: fs) V s) (hP : Pl ps) (C : LE L pl od ud ps ks V) (hks : ∀ p ∈ ps, p ∈ ks) (hM : M ≤ 34) (m2 : m (Str.ofString "places") = some (.ref pl)) (m3 : m (Str.ofString "wide") = some (.int ((M * M : Nat) : Int) 0))
    (h : ∀ m' V' s' hl as P, LE L pl od ud ps ks V' → V' hl = some (.rlist (hfy (fun a b => pLt (P a) (P b)) as)) → (∀ b ∈ as, V' b = some (.itup [(P b).1, (P b).2])) → as.map P = ents M ps → m' (Str.ofString "places") = some (.ref pl) → m' (Str.ofString "heap") = some (.ref hl) → SS G ((L, .loc m') :: fs) V' s' →
      wpAny (model PP w) A (execs (lawBody.drop 16) (lawEnv L)) Q (fun _ _ => False) s') :
    wpAny (model PP w) A (execs (lawBody.drop 13) (lawEnv L)) Q (fun _ _ => False) s := by
  show wpAny _ _ (execs (_ :: _) (envOfC _ { kind := _, names := _ :: _, isGenerator := _, isCoroutine := _, more := _ } _ _ _)) _ _ _
  have hpsl : ps.length < 20 := hP.len
  with_reducible refine cons_hid ?_; intro _ _
  refine wpAny_Assign_Name ?_
  refine disp_rl ?_
  with_reducible refine wpAny_items_nil ?_
  refine ⟨G, _, _, _, [], by assumption, rfl, by decide, ?_⟩
  intro hl s1 hhl S1
  have C1 := C.new (ao := .rlist []) hhl
  have w1 : upd V hl (.rlist []) hl = _ := upd_eq
  generalize upd V hl (.rlist []) = V1 at *
  clear S
  refine sto (by assumption) ?_; intro _ _
  with_reducible refine Hid.out (by assumption) ?_
  with_reducible refine cons_hid ?_; intro _ _
  refine wpAny_For ?_
  refine nm_r (by assumption) (by walk_at "lk") ?_
  refine for_il r (by assumption) C1.hpl (fun i m V => LE L pl od ud ps ks V ∧ (∃ as, V hl = some (.rlist as) ∧ as.length = 2 * i ∧ TupsAt V as (prs2 (ents M (ps.take i)))) ∧ m (Str.ofString "places") = some (.ref pl) ∧ m (Str.ofString "wide") = some (.int ((M * M : Nat) : Int) 0) ∧ m (Str.ofString "heap") = some (.ref hl))
    ⟨C1, ⟨[], w1, rfl, .nil⟩, by walk_at "lk", by walk_at "lk", by walk_at "lk"⟩ (fun i m V ⟨C, _⟩ => C.hpl) ?_ ?_
  · rintro i m V t it s4 hi ⟨C, ⟨as, w1, hal, ht⟩, m2, m3, m4⟩ S4
    rw [List.length_map] at hi
    rw [getD_map _ i hi]
    generalize hn : ps.getD i 0 = p
    have hpi : ps[i]? = some p := by rw [← hn, List.getD_eq_getElem?_getD, List.getElem?_eq_getElem hi]; rfl
    have hp : p ∈ ps := List.mem_of_getElem? hpi
    have htk : ps.take (i + 1) = ps.take i ++ [p] := by rw [List.take_add_one, hpi]; rfl
    have F := hP.pf hp
    have hsum := F.sum
    have hU1 := F.U1
    have hO1 := F.O1
    have c1 := C.hc1
    have c2 := C.hc2
    with_reducible refine wpAny_assign_Name ?_
    refine sto (by assumption) ?_; intro _ _
    with_reducible refine cons_hid ?_; intro _ _
    refine wpAny_Assign_Name ?_
    with_reducible refine wpAny_BinOp ?_
    with_reducible refine Subscript_ ?_
    refine nm_cr (by assumption) (by exact rfl) (by walk_at "vw") ?_
    refine nm_i (by assumption) (by walk_at "lk") ?_; intro _
    refine ditem (by assumption) C.hod rfl (atO (hks p hp)) ?_
    intro v s10 hv S10
    obtain ⟨t1, rfl⟩ := er_int hv
    refine nm_i (by assumption) (by walk_at "lk") ?_; intro _
    with_reducible refine mul_i (by assumption) (by first | decide | omega) ?_; intro _ _ _
    refine sto (by assumption) ?_; intro _ _
    with_reducible refine Hid.out (by assumption) ?_
    with_reducible refine cons_hid ?_; intro _ _
    refine wpAny_Assign_Name ?_
    with_reducible refine wpAny_BinOp ?_
    with_reducible refine Subscript_ ?_
    refine nm_cr (by assumption) (by exact rfl) (by walk_at "vw") ?_
    refine nm_i (by assumption) (by walk_at "lk") ?_; intro _
    refine ditem (by assumption) C.hod rfl (atO (hks p hp)) ?_
    intro v s11 hv S11
    obtain ⟨t2, rfl⟩ := er_int hv
    with_reducible refine Subscript_ ?_
    refine nm_cr (by assumption) (by exact rfl) (by walk_at "vw") ?_
    refine nm_i (by assumption) (by walk_at "lk") ?_; intro _
    refine ditem (by assumption) C.hud rfl (atU (hks p hp)) ?_
    intro v s12 hv S12
    obtain ⟨t3, rfl⟩ := er_int hv
    with_reducible refine add_i (by assumption) ?_; intro _ _ _
    refine sto (by assumption) ?_; intro _ _
    with_reducible refine Hid.out (by assumption) ?_
    with_reducible refine cons_hid ?_; intro _ _
    refine wpAny_Assign_Name ?_
    refine joinV (fun v s => ∃ td tk m', v = .int td tk ∧ (td = 1 ∨ td = -1) ∧ SS G ((L, .loc m') :: it :: fs) V s ∧ m' (Str.ofString "places") = some (.ref pl) ∧ m' (Str.ofString "wide") = some (.int ((M * M : Nat) : Int) 0) ∧ m' (Str.ofString "heap") = some (.ref hl) ∧
      m' (Str.ofString "place") = some (.int (p : Int) 0) ∧ m' (Str.ofString "upper") = some (.int ((O p * (M * M) : Nat) : Int) 0) ∧ m' (Str.ofString "lower") = some (.int ((O p + U p : Nat) : Int) 0)) ?_ ?_
    · with_reducible refine wpAny_IfExp ?_
      refine wpAny_isTrue_value ?_
      with_reducible refine wpAny_BinOp ?_
      refine nm_i (by assumption) (by walk_at "lk") ?_; intro _
      with_reducible refine c_int (by assumption) ?_; intro _ _ _
      with_reducible refine mod_i (by assumption) (by first | decide | omega) ?_; intro _ _ _
      with_reducible refine P.truthy_int ?_
      split
      · with_reducible refine wpAny_UnaryOp ?_
        with_reducible refine c_int (by assumption) ?_; intro _ _ _
        with_reducible refine neg_i (by assumption) ?_; intro _ _ _
        refine ⟨_, _, _, rfl, .inr rfl, by assumption, by walk_at "lk", by walk_at "lk", by walk_at "lk", by walk_at "lk", ?_, lup_eq⟩
        exact (lup_ne (by decide)).trans lup_eq
      · with_reducible refine c_int (by assumption) ?_; intro _ _ _
        refine ⟨_, _, _, rfl, .inl rfl, by assumption, by walk_at "lk", by walk_at "lk", by walk_at "lk", by walk_at "lk", ?_, lup_eq⟩
        exact (lup_ne (by decide)).trans lup_eq
    clear S4 S10 S11 S12 m2 m3 m4
    rintro v s5 ⟨td, tk, m, rfl, htd, S5, m2, m3, m4, m5, m6, m7⟩
    have hu : O p * (M * M) ≤ 34 * (34 * 34) := Nat.mul_le_mul (by omega) (Nat.mul_le_mul hM hM)
    obtain ⟨u, hue⟩ : ∃ u, u = O p * (M * M) := ⟨_, rfl⟩
    obtain ⟨lo, hlo⟩ : ∃ lo, lo = O p + U p := ⟨_, rfl⟩
    rw [← hue] at m6 hu
    rw [← hlo] at m7
    refine sto (by assumption) ?_; intro _ _
    with_reducible refine Hid.out (by assumption) ?_
    with_reducible refine cons_hid ?_; intro _ _
    refine wpAny_For ?_
    refine disp_rl ?_
    refine wpAny_items_cons ?_
    refine disp_it ?_
    refine wpAny_items_cons ?_
    refine nm_i (by assumption) (by walk_at "lk") ?_; intro _
    refine wpAny_items_cons ?_
    refine nm_i (by assumption) (by walk_at "lk") ?_; intro _
    refine wpAny_items_cons ?_
    refine nm_i (by assumption) (by walk_at "lk") ?_; intro _
    with_reducible refine wpAny_items_nil ?_
    refine ⟨G, _, _, _, [(u : Int), (lo : Int), (p : Int)], by assumption, .cons _ _ (.cons _ _ (.cons _ _ .nil)), by show 3 < 1000000; decide, ?_⟩
    intro b1 s6 hb1 S6
    have C2 := C.new (ao := .itup [(u : Int), (lo : Int), (p : Int)]) hb1
    have e1 := upo (ao := .itup [(u : Int), (lo : Int), (p : Int)]) hb1 w1
    have e2 := ht.sub fun a o h => upo (ao := .itup [(u : Int), (lo : Int), (p : Int)]) hb1 h
    have e3 : upd V b1 (.itup [(u : Int), (lo : Int), (p : Int)]) b1 = _ := upd_eq
    generalize upd V b1 (.itup [(u : Int), (lo : Int), (p : Int)]) = V2 at *
    clear S5
    refine wpAny_items_cons ?_
    refine disp_it ?_
    refine wpAny_items_cons ?_
    with_reducible refine wpAny_BinOp ?_
    refine nm_i (by assumption) (by walk_at "lk") ?_; intro _
    refine nm_i (by assumption) (by walk_at "lk") ?_; intro _
    with_reducible refine mul_i (by assumption) (by first | decide | omega) ?_; intro _ _ _
    refine wpAny_items_cons ?_
    with_reducible refine wpAny_BinOp ?_
    with_reducible refine wpAny_UnaryOp ?_
    refine nm_i (by assumption) (by walk_at "lk") ?_; intro _
    with_reducible refine neg_i (by assumption) ?_; intro _ _ _
    refine nm_i (by assumption) (by walk_at "lk") ?_; intro _
    with_reducible refine mul_i (by assumption) (by first | decide | omega) ?_; intro _ _ _
    refine wpAny_items_cons ?_
    with_reducible refine wpAny_UnaryOp ?_
    refine nm_i (by assumption) (by walk_at "lk") ?_; intro _
    with_reducible refine neg_i (by assumption) ?_; intro _ _ _
    with_reducible refine wpAny_items_nil ?_
    refine ⟨G, _, _, _, [td * (u : Int), -td * (lo : Int), -(p : Int)], by assumption, .cons _ _ (.cons _ _ (.cons _ _ .nil)), by show 3 < 1000000; decide, ?_⟩
    intro b2 s7 hb2 S7
    have C3 := C2.new (ao := .itup [td * (u : Int), -td * (lo : Int), -(p : Int)]) hb2
    have f1 := upo (ao := .itup [td * (u : Int), -td * (lo : Int), -(p : Int)]) hb2 e1
    have f2 := e2.sub fun a o h => upo (ao := .itup [td * (u : Int), -td * (lo : Int), -(p : Int)]) hb2 h
    have f3 := upo (ao := .itup [td * (u : Int), -td * (lo : Int), -(p : Int)]) hb2 e3
    have f4 : upd V2 b2 (.itup [td * (u : Int), -td * (lo : Int), -(p : Int)]) b2 = _ := upd_eq
    generalize upd V2 b2 (.itup [td * (u : Int), -td * (lo : Int), -(p : Int)]) = V3 at *
    clear S6
    with_reducible refine wpAny_items_nil ?_
    refine ⟨G, _, _, _, [b1, b2], by assumption, rfl, by show 2 < 1000000; decide, ?_⟩
    intro tl s8 htl S8
    have hne : tl ≠ hl := fun e => by rw [e, f1] at htl; cases htl
    have C4 := C3.new (ao := .rlist [b1, b2]) htl
    have g1 := upo (ao := .rlist [b1, b2]) htl f1
    have g2 := f2.sub fun a o h => upo (ao := .rlist [b1, b2]) htl h
    have g3 := upo (ao := .rlist [b1, b2]) htl f3
    have g4 := upo (ao := .rlist [b1, b2]) htl f4
    have g5 : upd V3 tl (.rlist [b1, b2]) tl = _ := upd_eq
    generalize upd V3 tl (.rlist [b1, b2]) = V4 at *
    clear S7
    refine for_rt r S8 g5 (fun i' m V => LE L pl od ud ps ks V ∧ V tl = some (.rlist [b1, b2]) ∧ V b1 = some (.itup [(u : Int), (lo : Int), (p : Int)]) ∧ V b2 = some (.itup [td * (u : Int), -td * (lo : Int), -(p : Int)]) ∧
        (∃ as, V hl = some (.rlist as) ∧ as.length = 2 * i + i' ∧ TupsAt V as (prs2 (ents M (ps.take i) ++ (two M p).take i'))) ∧ m (Str.ofString "places") = some (.ref pl) ∧ m (Str.ofString "wide") = some (.int ((M * M : Nat) : Int) 0) ∧ m (Str.ofString "heap") = some (.ref hl) ∧ m (Str.ofString "lower") = some (.int (lo : Int) 0))
      ⟨C4, g5, g3, g4, ⟨as, g1, hal, by rw [List.take_zero, List.append_nil]; exact g2⟩, by walk_at "lk", by walk_at "lk", by walk_at "lk", by walk_at "lk"⟩ (fun i m V ⟨_, h, _⟩ => h) ?_ ?_
    · clear C4 g1 g2 g3 g4 g5 C3 f1 f2 f3 f4 C2 e1 e2 e3 C w1 ht S8 m2 m3 m4 m5 m6 m7
      rintro i' m V it2 s9 hi' ⟨C, g5, g3, g4, ⟨as, g1, hal, ht⟩, m2, m3, m4, m7⟩ S9
      have hi' : i' < 2 := hi'
      obtain ⟨dd, dv, nm, mn, b, hb, hV, hdd, hdv, hab, hmn, htk2⟩ : ∃ (dd dv nm mn : Int), ∃ b, [b1, b2].getD i' 0 = b ∧ V b = some (.itup [dd, dv, nm]) ∧ dd.natAbs = u ∧ dv ≠ 0 ∧ dv.natAbs = lo ∧ dd.fdiv dv = mn ∧ (two M p).take (i' + 1) = (two M p).take i' ++ [(mn, nm)] := by
        have hlo0 : (lo : Int) ≠ 0 := by omega
        match i', hi' with
        | 0, _ => exact ⟨_, _, _, fl M p, b1, rfl, g3, by omega, hlo0, by omega, by rw [hue, hlo]; rfl, rfl⟩
        | 1, _ =>
          refine ⟨_, _, _, fn M p, b2, rfl, g4, ?_, ?_, ?_, ?_, rfl⟩
          · rcases htd with rfl | rfl <;> omega
          · rcases htd with rfl | rfl <;> omega
          · rcases htd with rfl | rfl <;> omega
          · unfold fn
            rw [← hue, ← hlo]
            rcases htd with rfl | rfl
            · rw [Int.one_mul, Int.neg_one_mul, ← Int.neg_fdiv_neg (-(u : Int)) (lo : Int), Int.neg_neg]
            · rw [Int.neg_neg, Int.one_mul, Int.neg_one_mul]
      rw [hb]
      obtain ⟨q1, q2, q3, q4⟩ := chkdiv dd dv hdv
      refine asg3 r S9 hV ?_
      intro _ _ _ s10 S10
      with_reducible refine wpAny_assign_Name ?_
      refine sto (by assumption) ?_; intro _ _
      with_reducible refine wpAny_assign_Name ?_
      refine sto (by assumption) ?_; intro _ _
      with_reducible refine wpAny_assign_Name ?_
      refine sto (by assumption) ?_; intro _ _
      with_reducible refine cons_hid ?_; intro _ _
      refine Assign_Tuple ?_
      refine wpAny_Call_NameR ?_
      refine nm_g (by assumption) (by k_is) ?_
      refine callWith_K (SS.K (by assumption)) (by k_is) ?_
      refine wpAny_items_cons ?_
      refine nm_i (by assumption) (by walk_at "lk") ?_; intro _
      refine wpAny_items_cons ?_
      refine nm_i (by assumption) (by walk_at "lk") ?_; intro _
      with_reducible refine wpAny_items_nil ?_
      refine ⟨SS.K (by assumption), ?_⟩
      refine int_divmod_c (r.le (by decide)) (by assumption) (by omega) hdv (by omega) ?_
      intro rb s11 hrb S11
      rw [hmn] at S11 q1 q4
      generalize dd.fmod dv = re at *
      skip
      refine asg2 r (by assumption) upd_eq ?_
      intro _ _ s12 S12
      have S13 := S12.forget hrb
      clear S12 S11 S10 S9
      with_reducible refine wpAny_assign_Name ?_
      refine sto (by assumption) ?_; intro _ _
      with_reducible refine wpAny_assign_Name ?_
      refine sto (by assumption) ?_; intro _ _
      with_reducible refine Hid.out (by assumption) ?_
      with_reducible refine cons_hid ?_; intro _ _
      with_reducible refine wpAny_If ?_
      refine wpAny_isTrue_BoolOp ?_
      with_reducible refine wpAny_allTrue_Or_cons ?_
      refine wpAny_isTrue_Compare1 ?_
      with_reducible refine wpAny_BinOp ?_
      with_reducible refine wpAny_BinOp ?_
      refine nm_i (by assumption) (by walk_at "lk") ?_; intro _
      refine nm_i (by assumption) (by walk_at "lk") ?_; intro _
      with_reducible refine mul_i (by assumption) (by first | decide | omega) ?_; intro _ _ _
      refine nm_i (by assumption) (by walk_at "lk") ?_; intro _
      with_reducible refine add_i (by assumption) ?_; intro _ _ _
      refine nm_i (by assumption) (by walk_at "lk") ?_; intro _
      with_reducible refine P.ne_int ?_
      with_reducible refine wpAny_truthy_bool ?_
      rw [q1, show (dd != dd) = false from bne_self_eq_false dd]
      with_reducible refine ifF ?_
      with_reducible refine wpAny_allTrue_Or_cons ?_
      refine wpAny_isTrue_Compare1 ?_
      with_reducible refine wpAny_BinOp ?_
      refine nm_i (by assumption) (by walk_at "lk") ?_; intro _
      refine nm_i (by assumption) (by walk_at "lk") ?_; intro _
      with_reducible refine mul_i (by assumption) (by first | decide | omega) ?_; intro _ _ _
      with_reducible refine c_int (by assumption) ?_; intro _ _ _
      with_reducible refine P.lt_int ?_
      with_reducible refine wpAny_truthy_bool ?_
      rw [decide_eq_false (show ¬ re * dv < 0 from by omega)]
      with_reducible refine ifF ?_
      with_reducible refine wpAny_allTrue_Or_cons ?_
      refine wpAny_isTrue_Compare1 ?_
      refine wpAny_Call_NameR ?_
      refine nm_b (by assumption) (by k_is) (by walk_at "bt") (by decide +kernel) ?_
      refine callWith_method1 ?_
      refine wpAny_items_cons ?_
      refine nm_i (by assumption) (by walk_at "lk") ?_; intro _
      with_reducible refine wpAny_items_nil ?_
      refine abs_i (by assumption) ?_
      intro _ s14 S14
      refine nm_i (by assumption) (by walk_at "lk") ?_; intro _
      with_reducible refine P.ge_int ?_
      with_reducible refine wpAny_truthy_bool ?_
      rw [decide_eq_false (show ¬ (if re < 0 then -re else re) ≥ (lo : Int) from by split <;> omega)]
      with_reducible refine ifF ?_
      with_reducible refine wpAny_allTrue_Or_nil ?_
      with_reducible refine ifF ?_
      with_reducible refine wpAny_execs_nil ?_
      with_reducible refine Hid.out (by assumption) ?_
      with_reducible refine cons_hid ?_; intro _ _
      refine wpAny_Expr_any ?_
      refine MethodCall_ ?_
      refine nm_r (by assumption) (by walk_at "lk") ?_
      refine met_rl (by assumption) g1 PySem.F.slot_list_append PySem.F.type_list_append ?_
      refine callWith_method1 ?_
      refine wpAny_items_cons ?_
      refine disp_it ?_
      refine wpAny_items_cons ?_
      refine nm_i (by assumption) (by walk_at "lk") ?_; intro _
      refine wpAny_items_cons ?_
      refine nm_i (by assumption) (by walk_at "lk") ?_; intro _
      with_reducible refine wpAny_items_nil ?_
      refine ⟨G, _, _, _, [mn, nm], by assumption, .cons _ _ (.cons _ _ .nil), by show 2 < 1000000; decide, ?_⟩
      intro eb s15 heb S15
      with_reducible refine wpAny_items_nil ?_
      refine app_rl (by assumption) (upo heb g1) (by omega) ?_
      intro s16 S16
      have k1 := upo (ao := .itup [mn, nm]) heb g1
      have k2 := upo (ao := .itup [mn, nm]) heb g3
      have k3 := upo (ao := .itup [mn, nm]) heb g4
      with_reducible refine Hid.out (by assumption) ?_
      with_reducible refine wpAny_execs_nil ?_
      refine ⟨_, _, ⟨(C.new heb).chgR k1, (upd_ne hne).trans (upo heb g5), (upd_ne (ne_of k2 k1 nofun)).trans k2, (upd_ne (ne_of k3 k1 nofun)).trans k3, ⟨as ++ [eb], upd_eq, by rw [List.length_append, hal]; rfl, ?_⟩, by walk_at "lk", by walk_at "lk", by walk_at "lk", by walk_at "lk"⟩, S16⟩
      rw [htk2, ← List.append_assoc, prs2, List.map_append]
      exact TupsAt.snoc ((upd_ne (ne_of upd_eq k1 nofun)).trans upd_eq) ((ht.sub fun a o h => upo heb h).chg (fun ns e => by rw [k1] at e; cases e))
    · rintro m V s9 ⟨C, _, _, _, ⟨as, g1, hal, ht⟩, m2, m3, m4, m7⟩ S9
      with_reducible refine wpAny_execs_nil ?_
      with_reducible refine Hid.out (by assumption) ?_
      with_reducible refine wpAny_execs_nil ?_
      refine ⟨_, _, ⟨C, ⟨as, g1, by rw [hal]; show 2 * i + 2 = _; omega, ?_⟩, m2, m3, m4⟩, by assumption⟩
      have e : ents M (ps.take (i + 1)) = ents M (ps.take i) ++ two M p := by
        rw [htk, ents, ents, List.flatMap_append, List.flatMap_cons, List.flatMap_nil, List.append_nil]
      rw [e]
      exact ht
  · rintro m V s9 ⟨C, ⟨as, g1, hal, ht⟩, m2, m3, m4⟩ S9
    rw [List.length_map, List.take_length] at ht
    rw [List.length_map] at hal
    obtain ⟨h1, h2⟩ := tups_prs ht
    with_reducible refine wpAny_execs_nil ?_
    with_reducible refine Hid.out (by assumption) ?_
    with_reducible refine cons_hid ?_; intro _ _
    with_reducible refine wpAny_If ?_
    refine wpAny_isTrue_Compare1 ?_
    refine wpAny_Call_NameR ?_
    refine nm_g (by assumption) (by k_is) ?_
    refine callWith_K (SS.K (by assumption)) (by k_is) ?_
    refine wpAny_items_cons ?_
    refine nm_r (by assumption) (by walk_at "lk") ?_
    with_reducible refine wpAny_items_nil ?_
    refine ⟨SS.K (by assumption), ?_⟩
    refine heapify_c (P := prOf V) (r.le (by decide)) (by assumption) g1 h1 (by omega) ?_
    intro s10 S10
    with_reducible refine wpAny_Constant_none ?_
    with_reducible refine PyProof.Rows.isnot_none_none ?_
    with_reducible refine wpAny_truthy_bool ?_
    with_reducible refine ifF ?_
    with_reducible refine wpAny_execs_nil ?_
    with_reducible refine Hid.out (by assumption) ?_
    refine h _ _ _ hl as (prOf V) (C.chgR g1) upd_eq (fun b hb => (upd_ne (ne_of (h1 b hb) g1 nofun)).trans (h1 b hb)) h2 (by walk_at "lk") (by walk_at "lk") (by assumption)
end
theorem LE.chgI {L pl od ud b : Addr} {ps ks : List Nat} {W : View} {ao : AObj} {xs : List Int} (C : LE L pl od ud ps ks W) (hb : W b = some (.ilist xs)) (hn : pl ≠ b) : LE L pl od ud ps ks (upd W b ao) :=
  ⟨(upd_ne hn).trans C.hpl, (upd_ne (ne_of C.hc1 hb nofun)).trans C.hc1, (upd_ne (ne_of C.hc2 hb nofun)).trans C.hc2,
    let ⟨v, h⟩ := C.hc3; ⟨v, (upd_ne (ne_of h hb nofun)).trans h⟩, (upd_ne (ne_of C.hod hb nofun)).trans C.hod, (upd_ne (ne_of C.hud hb nofun)).trans C.hud⟩
section
variable {w : World} {G : Gd w} {f₀ : Addr × FK} {fs : Frs} {W V V' : View} {s s' : Shared} {l a b d x pl rn od ud L hl : Addr} {m : Loc} {A : Around} {E : Value → Shared → Prop} {ps ini ks : List Nat} {as : List Addr} {P : Addr → Int × Int}
theorem stF {T0 : List Int} {lt : Addr → Addr → Bool} {Q : Flow → Shared → Prop} (r : Rm A 84) (S : SS G ((L, .loc m) :: fs) V s) (hlt : lt = fun a b => pLt (P a) (P b)) (T : Tot lt) (C : LE L pl od ud ps ks V) (h1 : V hl = some (.rlist as)) (hz : as.length < 100) (hH : Hp lt 0 as) (h2 : ∀ b ∈ as, V b = some (.itup [(P b).1, (P b).2]))
    (hT0 : T0 = (drain lt as.length as).map fun b => (P b).2) (m2 : m (Str.ofString "places") = some (.ref pl)) (m3 : m (Str.ofString "heap") = some (.ref hl))
    (h : ∀ m' V' s' tl, LE L pl od ud ps ks V' → V' tl = some (.ilist T0) → m' (Str.ofString "places") = some (.ref pl) → m' (Str.ofString "told") = some (.ref tl) → SS G ((L, .loc m') :: fs) V' s' →
      wpAny (model PP w) A (execs (lawBody.drop 18) (lawEnv L)) Q (fun _ _ => False) s') :
    wpAny (model PP w) A (execs (lawBody.drop 16) (lawEnv L)) Q (fun _ _ => False) s := by
  show wpAny _ _ (execs (_ :: _) (envOfC _ { kind := _, names := _ :: _, isGenerator := _, isCoroutine := _, more := _ } _ _ _)) _ _ _
  with_reducible refine cons_hid ?_; intro _ _
  refine wpAny_Assign_Name ?_
  refine disp_il ?_
  with_reducible refine wpAny_items_nil ?_
  refine ⟨G, _, _, _, [], by assumption, .nil, by decide, ?_⟩
  intro tl s1 htl S1
  have C1 := C.new (ao := .ilist []) htl
  have w1 := upo (ao := .ilist []) htl h1
  have w2 : ∀ b ∈ as, upd V tl (.ilist []) b = some (.itup [(P b).1, (P b).2]) := fun b hb => upo htl (h2 b hb)
  have w3 : upd V tl (.ilist []) tl = _ := upd_eq
  have hnpl : pl ≠ tl := fun e => by rw [← e, C.hpl] at htl; cases htl
  generalize upd V tl (.ilist []) = V1 at *
  clear S
  refine sto (by assumption) ?_; intro _ _
  with_reducible refine Hid.out (by assumption) ?_
  show wpAny _ _ (execs _ _) _ _ _
  refine wpAny_execs_cons ?_
  refine whl (fun n s => ∃ m V hs told, SS G ((L, .loc m) :: fs) V s ∧ LE L pl od ud ps ks V ∧ V hl = some (.rlist hs) ∧ hs.length = n ∧ Hp lt 0 hs ∧ (∀ b ∈ hs, V b = some (.itup [(P b).1, (P b).2])) ∧ V tl = some (.ilist told) ∧ told ++ (drain lt n hs).map (fun b => (P b).2) = T0 ∧ told.length + n < 200 ∧
      m (Str.ofString "places") = some (.ref pl) ∧ m (Str.ofString "heap") = some (.ref hl) ∧ m (Str.ofString "told") = some (.ref tl)) as.length
    ⟨_, V1, as, [], by assumption, C1, w1, rfl, hH, w2, w3, by rw [hT0]; rfl, by show 0 + as.length < 200; omega, by walk_at "lk", by walk_at "lk", by walk_at "lk"⟩ ?_
  rintro n s ⟨m, V, hs, told, S, C, w1, hn, hH, w2, w3, ht, hl2, m2, m3, m4⟩
  refine wpAny_isTrue_value ?_
  refine nm_r (by assumption) (by walk_at "lk") ?_
  refine tru_rl (by assumption) w1 (by omega) ?_
  intro s2 S2
  clear S
  cases n with
  | zero =>
    have hs0 := List.length_eq_zero_iff.mp hn
    subst hs0
    rw [show (!([] : List Addr).isEmpty) = false from rfl]
    rw [drain, List.map_nil, List.append_nil] at ht
    subst ht
    with_reducible refine ifF ?_
    with_reducible refine wpAny_execs_nil ?_
    exact h _ _ _ tl C w3 m2 m4 (by assumption)
  | succ n =>
    have hne : hs ≠ [] := fun e => by rw [e] at hn; exact absurd hn (by simp)
    rw [show (!hs.isEmpty) = true from by rw [Bool.not_eq_true', List.isEmpty_eq_false_iff]; exact hne]
    have hp := hpop_spec T hH (by omega)
    have h0m : hs.getD 0 0 ∈ hs := by rw [List.getD_eq_getElem?_getD, List.getElem?_eq_getElem (by omega)]; exact List.getElem_mem _
    with_reducible refine ifT ?_
    with_reducible refine cons_hid ?_; intro _ _
    refine wpAny_Expr_any ?_
    refine MethodCall_ ?_
    refine nm_r (by assumption) (by walk_at "lk") ?_
    refine met_il (by assumption) w3 PySem.F.slot_list_append PySem.F.type_list_append ?_
    refine callWith_method1 ?_
    refine wpAny_items_cons ?_
    with_reducible refine Subscript_ ?_
    refine wpAny_Call_NameR ?_
    refine nm_g (by assumption) (by k_is) ?_
    refine callWith_K (SS.K (by assumption)) (by k_is) ?_
    refine wpAny_items_cons ?_
    refine nm_r (by assumption) (by walk_at "lk") ?_
    with_reducible refine wpAny_items_nil ?_
    refine ⟨SS.K (by assumption), ?_⟩
    refine heappop_c (P := P) (r.le (by decide)) (by assumption) w1 w2 (by omega) (by omega) ?_
    intro s3 S3
    rw [← hlt] at S3
    have C1 := C.chgR (ao := .rlist (hpop lt hs)) w1
    have e1 : upd V hl (.rlist (hpop lt hs)) hl = _ := upd_eq
    have e2 : ∀ b ∈ hs, upd V hl (.rlist (hpop lt hs)) b = some (.itup [(P b).1, (P b).2]) := fun b hb => (upd_ne (ne_of (w2 b hb) w1 nofun)).trans (w2 b hb)
    have e3 : upd V hl (.rlist (hpop lt hs)) tl = _ := (upd_ne (ne_of w3 w1 nofun)).trans w3
    generalize upd V hl (.rlist (hpop lt hs)) = V2 at *
    with_reducible refine c_int (by assumption) ?_; intro _ _ _
    refine sub_it (j := 1) (by assumption) (e2 _ h0m) (by decide) (by decide) rfl rfl ?_
    intro _
    with_reducible refine wpAny_items_nil ?_
    refine app_il (by assumption) e3 (by omega) ?_
    intro s4 S4
    with_reducible refine Hid.out (by assumption) ?_
    with_reducible refine wpAny_execs_nil ?_
    have hlen : (hpop lt hs).length = n := by
      have := hp.1.length_eq
      rw [List.length_cons] at this
      omega
    refine ⟨n, Nat.lt_succ_self _, _, _, hpop lt hs, told ++ [(P (hs.getD 0 0)).2], S4, C1.chgI e3 hnpl, (upd_ne (ne_of e1 e3 nofun)).trans e1, hlen, hp.2, fun b hb => ?_, upd_eq, ?_, by rw [List.length_append]; show told.length + 1 + n < 200; omega, by walk_at "lk", by walk_at "lk", by walk_at "lk"⟩
    · have := e2 b (hp.1.subset (List.mem_cons_of_mem _ hb))
      exact (upd_ne (ne_of this e3 nofun)).trans this
    · rw [← ht, drain, List.map_cons, List.append_assoc]
      rfl
end
theorem back_nats : ∀ ps : List Nat, (ps.map Int.ofNat).map Int.toNat = ps
  | [] => rfl
  | p :: ps => by rw [List.map_cons, List.map_cons, back_nats ps]; rfl
theorem nats_of {out : List Int} {ps : List Nat} (h : out.Perm (ps.map Int.ofNat)) : ∃ ln : List Nat, out = ln.map Int.ofNat ∧ ln.Perm ps := by
  refine ⟨out.map Int.toNat, ?_, by have := h.map Int.toNat; rwa [back_nats] at this⟩
  have : ∀ x ∈ out, (Int.ofNat ∘ Int.toNat) x = id x := fun x hx => by
    obtain ⟨p, _, rfl⟩ := List.mem_map.mp (h.subset hx)
    rfl
  rw [List.map_map, List.map_congr_left this, List.map_id]
theorem ints_inj : ∀ {vs : List Value} {a b : List Int}, IntsAre vs a → IntsAre vs b → a = b
  | _, _, _, .nil, .nil => rfl
  | _, _, _, .cons n t h, .cons _ _ h' => by rw [ints_inj h h']
theorem ints_self : ∀ ns : List Int, IntsAre (ns.map fun n => Value.int n 0) ns
  | [] => .nil
  | n :: ns => .cons n 0 (ints_self ns)
theorem pick_drop (ns : List Int) (k : Nat) : pickNums ns (some (k : Int)) none none = ns.drop k := by
  have h := ints_self ns
  have := kmk_from (x := (k : Int)) h (by omega)
  rw [Int.toNat_natCast] at this
  exact ints_inj (h.pick _ _ _) this
theorem idx_rev : (List.range 64).all (fun n => decide (sliceRange (sliceBounds none none (some (-1)) n).1 (sliceBounds none none (some (-1)) n).2.1 (sliceBounds none none (some (-1)) n).2.2 = (List.range n).reverse)) = true := by decide +kernel
theorem range_all : ∀ (ns : List Int), (List.range ns.length).filterMap (ns[·]?) = ns
  | [] => rfl
  | n :: ns => by
    rw [List.length_cons, List.range_succ_eq_map, List.filterMap_cons]
    have h0 : (n :: ns)[0]? = some n := rfl
    simp only [h0]
    rw [List.filterMap_map]
    have : ((fun i : Nat => (n :: ns)[i]?) ∘ Nat.succ) = fun i => ns[i]? := by funext i; simp
    rw [this, range_all ns]
theorem pick_rev (ns : List Int) (h : ns.length < 64) : pickNums ns none none (some (-1)) = ns.reverse := by
  have h1 := of_decide_eq_true (List.all_eq_true.mp idx_rev ns.length (List.mem_range.mpr h))
  unfold pickNums
  rw [h1, List.filterMap_reverse, range_all]
section
variable {w : World} {G : Gd w} {f₀ : Addr × FK} {fs : Frs} {W V V' : View} {s s' : Shared} {l a b d x pl rn od ud L hl tl : Addr} {m : Loc} {A : Around} {E : Value → Shared → Prop} {ps ini ks : List Nat} {as : List Addr} {P : Addr → Int × Int}
theorem lam_open {c' f : Addr} {q : Str} {ko : Obj} {fs : Frs} (S5 : SS G fs (upd (upd V c' (.code q)) f (.raw ko)) s) (hf : V f = none) (hcf : c' ≠ f) (hC : ∀ ao, V c' = some ao → ao = .code q) :
    ∃ V2, (∀ a o, V a = some o → V2 a = some o) ∧ V2 f = some (.raw ko) ∧ V2 c' = some (.code q) ∧ SS G fs V2 s := by
  refine ⟨_, fun a o h => ?_, upd_eq, (upd_ne hcf).trans upd_eq, S5⟩
  refine (upd_ne (fun e => by rw [e, hf] at h; cases h)).trans ?_
  by_cases e : a = c'
  · subst e; rw [upd_eq, hC o h]
  · exact (upd_ne e).trans h
theorem stG {told : List Int} {Q : Flow → Shared → Prop} (r : Rm A 84) (S : SS G ((L, .loc m) :: fs) V s) (hP : Pl ps) (C : LE L pl od ud ps ks V) (hks : ∀ p ∈ ps, p ∈ ks) (ht : V tl = some (.ilist told)) (htold : ∀ ln : List Nat, ln.Perm ps → ln.Pairwise (fun a b => key a ≤ key b) → told = (ln.reverse.map fun p : Nat => -(p : Int)) ++ ln.map Int.ofNat)
    (hadj : ∀ ln : List Nat, ln.Perm ps → ln.Pairwise (fun a b => key a ≤ key b) → ∀ i p, ln[i]? = some p → O p * (if i = 0 then 1 else U (ln.getD (i - 1) 0)) = (if i = 0 then 0 else O (ln.getD (i - 1) 0)) * U p + 1)
    (hQ : ∀ m' V' s', SS G ((L, .loc m') :: fs) V' s' → Q (.ret (.bool true)) s') (m2 : m (Str.ofString "places") = some (.ref pl)) (m3 : m (Str.ofString "told") = some (.ref tl)) :
    wpAny (model PP w) A (execs (lawBody.drop 18) (lawEnv L)) Q (fun _ _ => False) s := by
  show wpAny _ _ (execs (_ :: _) (envOfC _ { kind := _, names := _ :: _, isGenerator := _, isCoroutine := _, more := _ } _ _ _)) _ _ _
  have hpsl : ps.length < 20 := hP.len
  with_reducible refine cons_hid ?_; intro _ _
  refine wpAny_Assign_Name ?_
  refine wpAny_Call_Name_kw ?_
  refine nm_b (by assumption) (by k_is) (by walk_at "bt") (by decide +kernel) ?_
  refine callWith_kw ?_
  refine wpAny_items_cons ?_
  refine nm_r (by assumption) (by walk_at "lk") ?_
  with_reducible refine wpAny_items_nil ?_
  refine kws_cons ?_
  skip
  refine kla_eval rfl ?_
  refine mklam (P := 241) (pos := pos3) (q := q3) (.tail _ (.tail _ (.head _))) G.n3 G.c3 (by assumption) rfl rfl rfl ?_
  intro c' f ctv pm s5 hf hcf hC S5
  obtain ⟨V2, hsub, e1, e2, S6⟩ := lam_open S5 hf hcf hC
  have C1 := C.sub hsub
  have t1 := hsub _ _ ht
  clear S S5
  refine kws_nil ?_
  refine sorted_key (kf := fun n => ((key n.toNat : Nat) : Int)) (r.le (by decide) : Rm A (80 + 2)) S6 C1.hpl (by rw [List.length_map]; omega) ?_ ?_
  · intro A' r' n hn V' s' t Q S' hs hq
    obtain ⟨p, hp, rfl⟩ := List.mem_map.mp hn
    have hpr := hP.rng p hp
    have F := hP.pf hp
    refine enterL [(Str.ofString "place", .int (Int.ofNat p) t)] S' (hs _ _ e1) (hs _ _ e2) r'.room rfl (locs rfl) (by decide) rfl rfl rfl ?_
    intro L s₁ S₁
    simp only [lvOf, List.foldl, er] at S₁
    with_reducible refine wpAny_BinOp ?_
    with_reducible refine wpAny_BinOp ?_
    with_reducible refine wpAny_BinOp ?_
    with_reducible refine c_int (by assumption) ?_; intro _ _ _
    refine nm_i (by assumption) (by walk_at "lk") ?_; intro _
    with_reducible refine mul_i (by assumption) (by first | decide | omega) ?_; intro _ _ _
    with_reducible refine c_int (by assumption) ?_; intro _ _ _
    with_reducible refine add_i (by assumption) ?_; intro _ _ _
    with_reducible refine wpAny_BinOp ?_
    with_reducible refine c_int (by assumption) ?_; intro _ _ _
    refine MethodCall_ ?_
    refine nm_i (by assumption) (by walk_at "lk") ?_; intro _
    refine getMethod_int_bit_length ?_
    refine callWith_method0 ?_
    refine bl_i (by assumption) ?_; intro _ _ _
    with_reducible refine sub_i (by assumption) ?_; intro _ _ _
    rw [show (Builtin.Int.intBits (Int.ofNat p)) = bl p from bl_eq p]
    refine shl_i (by assumption) (by have := F.bl7; omega) (by omega) (by show (2 * (p : Int) + 1).natAbs < _; omega) ?_
    intro t' s3 S3
    have e : (2 * Int.ofNat p + 1) * 2 ^ (7 - (bl p : Int)).toNat = ((key (Int.ofNat p).toNat : Nat) : Int) := by
      have h7 := F.bl7
      have e7 : (7 - (bl p : Int)).toNat = 7 - bl p := by omega
      rw [e7]
      show (2 * (p : Int) + 1) * 2 ^ (7 - bl p) = (((2 * p + 1) * 2 ^ (7 - bl p) : Nat) : Int)
      push_cast
      rfl
    rw [e]
    exact hq _ _ S3.pop
  · intro b s7 out hb hperm hsrt S7
    obtain ⟨ln, rfl, hln⟩ := nats_of hperm
    rw [List.pairwise_map] at hsrt
    have hs : ln.Pairwise (fun a b => key a ≤ key b) := hsrt.imp fun {a b} h => Int.ofNat_le.mp h
    have hlnl : ln.length < 20 := by rw [hln.length_eq]; exact hpsl
    have C2 := C1.new (ao := .ilist (ln.map Int.ofNat)) hb
    have t2 := upo (ao := .ilist (ln.map Int.ofNat)) hb t1
    have v2 : upd V2 b (.ilist (ln.map Int.ofNat)) b = _ := upd_eq
    generalize upd V2 b (.ilist (ln.map Int.ofNat)) = V3 at *
    refine sto (by assumption) ?_; intro _ _
    with_reducible refine Hid.out (by assumption) ?_
    with_reducible refine cons_hid ?_; intro _ _
    with_reducible refine wpAny_If ?_
    refine wpAny_isTrue_Compare1 ?_
    refine nm_r (by assumption) (by walk_at "lk") ?_
    with_reducible refine wpAny_BinOp ?_
    refine lc_start [] rfl rfl (by decide) ?_
    with_reducible refine Subscript_ ?_
    refine nm_r (by assumption) (by walk_at "lk") ?_
    refine wpAny_Slice ?_
    refine ep_none ?_
    refine ep_none ?_
    refine ep_some ?_
    with_reducible refine wpAny_UnaryOp ?_
    with_reducible refine c_int (by assumption) ?_; intro _ _ _
    with_reducible refine neg_i (by assumption) ?_; intro _ _ _
    refine sli_il (by assumption) v2 .none .none (.int _ _) (by decide) (by rw [List.length_map]; omega) ?_
    intro b3 s8 hb3 S8
    rw [pick_rev _ (by rw [List.length_map]; omega)] at S8
    have C3 := C2.new (ao := .ilist (ln.map Int.ofNat).reverse) hb3
    have t3 := upo (ao := .ilist (ln.map Int.ofNat).reverse) hb3 t2
    have v3 := upo (ao := .ilist (ln.map Int.ofNat).reverse) hb3 v2
    have u3 : upd V3 b3 (.ilist (ln.map Int.ofNat).reverse) b3 = _ := upd_eq
    generalize upd V3 b3 (.ilist (ln.map Int.ofNat).reverse) = V4 at *
    skip
    refine comp_il r (by assumption) u3 (fun j V₀ ao => V₀ = V4 ∧ ao = .ilist ((ln.reverse.take j).map fun p : Nat => -(p : Int))) (fun j V₀ ao ⟨h, _⟩ => by rw [h]; exact u3) (by decide) rfl rfl (.inl ⟨rfl, rfl⟩) (fun i V₀ ao ⟨_, h⟩ q => by rw [h]; nofun) ?_ ?_
    · rintro j V₀ ao m9 s9 Cc D it2 hj ⟨rfl, rfl⟩ hD S9
      rw [List.length_reverse, List.length_map] at hj
      rw [← List.map_reverse, getD_map _ j (by rw [List.length_reverse]; exact hj)] at S9
      generalize hn : ln.reverse.getD j 0 = p at S9
      have hpj : ln.reverse[j]? = some p := by rw [← hn, List.getD_eq_getElem?_getD, List.getElem?_eq_getElem (by rw [List.length_reverse]; exact hj)]; rfl
      have htk : ln.reverse.take (j + 1) = ln.reverse.take j ++ [p] := by rw [List.take_add_one, hpj]; rfl
      refine wpAny_pure ?_
      rw [if_pos rfl]
      with_reducible refine wpAny_UnaryOp ?_
      refine nm_i (by assumption) (by walk_at "lk") ?_; intro _
      with_reducible refine neg_i (by assumption) ?_; intro _ _ _
      refine app_il (by assumption) upd_eq (by rw [List.length_map, List.length_take]; omega) ?_
      intro s10 S10
      rw [upd_upd] at S10
      refine ⟨lup m9 (Str.ofString "place") (.int (p : Int) 0), _, _, ⟨rfl, rfl⟩, hD, ?_⟩
      rw [htk, List.map_append]
      exact S10
    · rintro V₀ ao D s9 ⟨rfl, rfl⟩ hD S9
      rw [List.take_of_length_le (by rw [List.length_reverse, List.length_reverse, List.length_map]; omega)] at S9
      have C4 := C3.new (ao := .ilist (ln.reverse.map fun p : Nat => -(p : Int))) hD
      have t4 := upo (ao := .ilist (ln.reverse.map fun p : Nat => -(p : Int))) hD t3
      have v4 := upo (ao := .ilist (ln.reverse.map fun p : Nat => -(p : Int))) hD v3
      have u4 : upd V₀ D (.ilist (ln.reverse.map fun p : Nat => -(p : Int))) D = _ := upd_eq
      generalize upd V₀ D (.ilist (ln.reverse.map fun p : Nat => -(p : Int))) = V5 at *
      refine nm_r (by assumption) (by walk_at "lk") ?_
      refine add_il (by assumption) u4 v4 (by rw [List.length_map, List.length_map, List.length_reverse]; omega) ?_
      intro b5 s10 hb5 S10
      have C5' := C4.new (ao := .ilist ((ln.reverse.map fun p : Nat => -(p : Int)) ++ ln.map Int.ofNat)) hb5
      have t5' := upo (ao := .ilist ((ln.reverse.map fun p : Nat => -(p : Int)) ++ ln.map Int.ofNat)) hb5 t4
      refine ne_il (r.le (by decide) : Rm A (78 + 6)) S10 t5' upd_eq ?_
      rw [decide_eq_true (htold ln hln hs)]
      generalize upd V5 b5 (.ilist ((ln.reverse.map fun p : Nat => -(p : Int)) ++ ln.map Int.ofNat)) = V6 at *
      rw [show (!true) = false from rfl] at *
      with_reducible refine wpAny_truthy_bool ?_
      with_reducible refine ifF ?_
      with_reducible refine wpAny_execs_nil ?_
      with_reducible refine Hid.out (by assumption) ?_
      with_reducible refine cons_hid ?_; intro _ _
      refine wpAny_Assign_Name ?_
      with_reducible refine c_int (by assumption) ?_; intro _ _ _
      refine sto (by assumption) ?_; intro _ _
      with_reducible refine Hid.out (by assumption) ?_
      with_reducible refine cons_hid ?_; intro _ _
      refine wpAny_Assign_Name ?_
      with_reducible refine c_int (by assumption) ?_; intro _ _ _
      refine sto (by assumption) ?_; intro _ _
      with_reducible refine Hid.out (by assumption) ?_
      with_reducible refine cons_hid ?_; intro _ _
      refine wpAny_For ?_
      with_reducible refine Subscript_ ?_
      refine nm_r (by assumption) (by walk_at "lk") ?_
      refine wpAny_Slice ?_
      refine ep_some ?_
      refine wpAny_Call_NameR ?_
      refine nm_b (by assumption) (by k_is) (by walk_at "bt") (by decide +kernel) ?_
      refine callWith_method1 ?_
      refine wpAny_items_cons ?_
      refine nm_r (by assumption) (by walk_at "lk") ?_
      with_reducible refine wpAny_items_nil ?_
      refine len_il (by assumption) C5'.hpl (by rw [List.length_map]; omega) ?_
      intro _ _ _
      refine ep_none ?_
      refine ep_none ?_
      rw [List.length_map]
      refine sli_il (by assumption) t5' (.int _ _) .none .none (by decide) (by rw [htold ln hln hs, List.length_append, List.length_map, List.length_map, List.length_reverse]; omega) ?_
      intro b6 s11 hb6 S11
      rw [pick_drop, htold ln hln hs, List.drop_left' (by rw [List.length_map, List.length_reverse, hln.length_eq])] at S11
      have C6 := C5'.new (ao := .ilist (ln.map Int.ofNat)) hb6
      have u6 : upd V6 b6 (.ilist (ln.map Int.ofNat)) b6 = _ := upd_eq
      generalize upd V6 b6 (.ilist (ln.map Int.ofNat)) = V7 at *
      skip
      refine for_il r (by assumption) u6 (fun i m V => LE L pl od ud ps ks V ∧ V b6 = some (.ilist (ln.map Int.ofNat)) ∧ m (Str.ofString "above") = some (.int ((if i = 0 then 0 else O (ln.getD (i - 1) 0) : Nat) : Int) 0) ∧ m (Str.ofString "below") = some (.int ((if i = 0 then 1 else U (ln.getD (i - 1) 0) : Nat) : Int) 0))
        ⟨C6, u6, by walk_at "lk", by walk_at "lk"⟩ (fun i m V ⟨_, h, _⟩ => h) ?_ ?_
      · rintro i m V t it s12 hi ⟨C, u6, m2, m3⟩ S12
        rw [List.length_map] at hi
        rw [getD_map _ i hi]
        generalize hn : ln.getD i 0 = p
        have hpi : ln[i]? = some p := by rw [← hn, List.getD_eq_getElem?_getD, List.getElem?_eq_getElem hi]; rfl
        have hp : p ∈ ps := hln.subset (List.mem_of_getElem? hpi)
        have hq := hadj ln hln hs i p hpi
        have F := hP.pf hp
        have hsum := F.sum
        have hU1 := F.U1
        have hO1 := F.O1
        have hbB : (if i = 0 then 1 else U (ln.getD (i - 1) 0)) ≤ 64 := by
          split
          · decide
          · unfold U; omega
        generalize (if i = 0 then 0 else O (ln.getD (i - 1) 0)) = av at *
        generalize (if i = 0 then 1 else U (ln.getD (i - 1) 0)) = bv at *
        have c1 := C.hc1
        have c2 := C.hc2
        with_reducible refine wpAny_assign_Name ?_
        refine sto (by assumption) ?_; intro _ _
        with_reducible refine cons_hid ?_; intro _ _
        with_reducible refine wpAny_If ?_
        refine wpAny_isTrue_Compare1 ?_
        refine wpAny_Call_NameR ?_
        refine nm_g (by assumption) (by k_is) ?_
        refine callWith_K (SS.K (by assumption)) (by k_is) ?_
        refine wpAny_items_cons ?_
        with_reducible refine wpAny_BinOp ?_
        with_reducible refine wpAny_BinOp ?_
        with_reducible refine Subscript_ ?_
        refine nm_cr (by assumption) (by exact rfl) (by walk_at "vw") ?_
        refine nm_i (by assumption) (by walk_at "lk") ?_; intro _
        refine ditem (by assumption) C.hod rfl (atO (hks p hp)) ?_
        intro v s13 hv S13
        obtain ⟨t1, rfl⟩ := er_int hv
        refine nm_i (by assumption) (by walk_at "lk") ?_; intro _
        with_reducible refine mul_i (by assumption) (by first | decide | omega) ?_; intro _ _ _
        with_reducible refine c_int (by assumption) ?_; intro _ _ _
        with_reducible refine sub_i (by assumption) ?_; intro _ _ _
        refine wpAny_items_cons ?_
        with_reducible refine Subscript_ ?_
        refine nm_cr (by assumption) (by exact rfl) (by walk_at "vw") ?_
        refine nm_i (by assumption) (by walk_at "lk") ?_; intro _
        refine ditem (by assumption) C.hud rfl (atU (hks p hp)) ?_
        intro v s14 hv S14
        obtain ⟨t2, rfl⟩ := er_int hv
        with_reducible refine wpAny_items_nil ?_
        refine ⟨SS.K (by assumption), ?_⟩
        have hx : (O p : Int) * (bv : Int) - 1 = (av : Int) * (U p : Int) := by
          have : ((O p * bv : Nat) : Int) = ((av * U p + 1 : Nat) : Int) := by rw [hq]
          rw [Int.natCast_mul, Int.natCast_add, Int.natCast_mul] at this
          omega
        have hxb : O p * bv ≤ 34 * 64 := Nat.mul_le_mul (by omega) hbB
        have hxb2 : ((av : Int) * (U p : Int)).natAbs < 2 ^ 59 := by
          rw [← Int.natCast_mul, Int.natAbs_natCast]
          omega
        rw [hx]
        refine int_divmod_c (r.le (by decide)) (by assumption) hxb2 (by omega) (by omega) ?_
        intro rb s15 hrb S15
        rw [Int.mul_fdiv_cancel _ (show (U p : Int) ≠ 0 from by omega), Int.mul_fmod_left] at S15
        refine disp_it ?_
        refine wpAny_items_cons ?_
        refine nm_i (by assumption) (by walk_at "lk") ?_; intro _
        refine wpAny_items_cons ?_
        with_reducible refine c_int (by assumption) ?_; intro _ _ _
        with_reducible refine wpAny_items_nil ?_
        refine ⟨G, _, _, _, [(av : Int), (0 : Int)], by assumption, .cons _ _ (.cons _ _ .nil), by show 2 < 1000000; decide, ?_⟩
        intro rc s16 hrc S16
        refine ne_tt (r.le (by decide) : Rm A (78 + 6)) S16 (upo hrc upd_eq) upd_eq ?_
        have C7 := (C.new (ao := .itup [(av : Int), (0 : Int)]) hrb).new (ao := .itup [(av : Int), (0 : Int)]) hrc
        have u7 := upo (ao := .itup [(av : Int), (0 : Int)]) hrc (upo (ao := .itup [(av : Int), (0 : Int)]) hrb u6)
        generalize upd (upd V rb (.itup [(av : Int), (0 : Int)])) rc (.itup [(av : Int), (0 : Int)]) = V8 at *
        have c3 := C7.hc1
        have c4 := C7.hc2
        clear S12 S13 S14 S15
        with_reducible refine wpAny_truthy_bool ?_
        with_reducible refine ifF ?_
        with_reducible refine wpAny_execs_nil ?_
        with_reducible refine Hid.out (by assumption) ?_
        with_reducible refine cons_hid ?_; intro _ _
        refine wpAny_Assign_Name ?_
        with_reducible refine Subscript_ ?_
        refine nm_cr (by assumption) (by exact rfl) (by walk_at "vw") ?_
        refine nm_i (by assumption) (by walk_at "lk") ?_; intro _
        refine ditem (by assumption) C7.hod rfl (atO (hks p hp)) ?_
        intro v s17 hv S17
        obtain ⟨t3, rfl⟩ := er_int hv
        refine sto (by assumption) ?_; intro _ _
        with_reducible refine Hid.out (by assumption) ?_
        with_reducible refine cons_hid ?_; intro _ _
        refine wpAny_Assign_Name ?_
        with_reducible refine Subscript_ ?_
        refine nm_cr (by assumption) (by exact rfl) (by walk_at "vw") ?_
        refine nm_i (by assumption) (by walk_at "lk") ?_; intro _
        refine ditem (by assumption) C7.hud rfl (atU (hks p hp)) ?_
        intro v s18 hv S18
        obtain ⟨t4, rfl⟩ := er_int hv
        refine sto (by assumption) ?_; intro _ _
        with_reducible refine Hid.out (by assumption) ?_
        with_reducible refine wpAny_execs_nil ?_
        refine ⟨_, _, ⟨C7, u7, ?_, ?_⟩, by assumption⟩
        · rw [if_neg (Nat.succ_ne_zero i), Nat.add_sub_cancel, hn]
          walk_at "lk"
        · rw [if_neg (Nat.succ_ne_zero i), Nat.add_sub_cancel, hn]
          walk_at "lk"
      · rintro m V s12 ⟨C, u6, m2, m3⟩ S12
        with_reducible refine wpAny_execs_nil ?_
        with_reducible refine Hid.out (by assumption) ?_
        with_reducible refine cons_hid ?_; intro _ _
        with_reducible refine wpAny_Return_some ?_
        with_reducible refine wpAny_Constant_bool ?_
        with_reducible refine Hid.out (by assumption) ?_
        exact hQ _ _ _ (by assumption)
end

section
variable {ps ln : List Nat}
theorem adj (hP : Pl ps) (hln : ln.Perm ps) (hs : ln.Pairwise (fun a b => key a ≤ key b)) (i p : Nat) (hi : ln[i]? = some p) :
    O p * (if i = 0 then 1 else U (ln.getD (i - 1) 0)) = (if i = 0 then 0 else O (ln.getD (i - 1) 0)) * U p + 1 := by
  obtain ⟨hil, hie⟩ := List.getElem?_eq_some_iff.mp hi
  have hp : p ∈ ps := hln.subset (List.mem_of_getElem? hi)
  have F := hP.pf hp
  have at_le : ∀ j k (hj : j < ln.length) (hk : k < ln.length), j ≤ k → key ln[j] ≤ key ln[k] := fun j k hj hk h => by
    rcases Nat.lt_or_eq_of_le h with h | h
    · exact List.pairwise_iff_getElem.mp hs j k hj hk h
    · subst h; exact Nat.le_refl _
  have mem_at : ∀ r ∈ ps, ∃ j, ∃ h : j < ln.length, ln[j] = r := fun r hr => List.mem_iff_getElem.mp (hln.symm.subset hr)
  cases i with
  | zero =>
    rw [if_pos rfl, if_pos rfl]
    have h0 : lft p = 0 := by
      rcases hP.lft hp with h | h
      · exact h
      · rcases F.key_l with h' | h'
        · exact h'
        · obtain ⟨j, hj, e⟩ := mem_at _ h
          have := at_le 0 j hil hj (Nat.zero_le _)
          rw [e, hie] at this
          omega
    have := F.uni_l
    rw [h0] at this
    exact this
  | succ i =>
    rw [if_neg (Nat.succ_ne_zero i), if_neg (Nat.succ_ne_zero i), Nat.add_sub_cancel]
    have hi' : i < ln.length := by omega
    have hq : ln.getD i 0 = ln[i] := by rw [List.getD_eq_getElem?_getD, List.getElem?_eq_getElem hi']; rfl
    rw [hq]
    generalize hqe : ln[i] = q
    have hqm : q ∈ ps := by rw [← hqe]; exact hln.subset (List.getElem_mem _)
    have F2 := hP.pf2 hqm hp
    have Fq := hP.pf hqm
    have hpr := hP.rng p hp
    have hqr := hP.rng q hqm
    have hlt : key q < key p := by
      have h1 := at_le i (i + 1) hi' hil (by omega)
      rw [hqe, hie] at h1
      rcases Nat.lt_or_eq_of_le h1 with h | h
      · exact h
      · exfalso
        have hnd : ln.Nodup := hln.nodup_iff.mpr hP.nd
        have := List.pairwise_iff_getElem.mp hnd i (i + 1) hi' hil (by omega)
        rw [hqe, hie] at this
        exact this (F2.inj h)
    have gap : ∀ r ∈ ps, key q < key r → key r < key p → False := fun r hr h1 h2 => by
      obtain ⟨j, hj, e⟩ := mem_at r hr
      rcases Nat.lt_or_ge i j with h | h
      · have := at_le (i + 1) j hil hj h
        rw [e, hie] at this
        omega
      · have := at_le j i hj hi' h
        rw [e, hqe] at this
        omega
    rcases F2.side hlt with h | h | ⟨h0, h⟩ | ⟨h0, h⟩
    · have := F.uni_l
      rw [← h] at this
      unfold pO pU at this
      rw [if_neg (by omega), if_neg (by omega)] at this
      exact this
    · have := Fq.uni_r.resolve_left (by omega)
      rw [← h] at this
      rw [this, Nat.mul_comm]
    · exact (gap _ ((hP.lft hp).resolve_left h0) h (F.key_l.resolve_left h0)).elim
    · exact (gap _ ((hP.rgt hqm).resolve_left h0) (Fq.key_r.resolve_left h0) h).elim
theorem lex_tot {P : Addr → Int × Int} : Tot (fun a b => pLt (P a) (P b)) where
  tr := fun a b c h1 h2 => by
    unfold pLt at *
    rw [decide_eq_false_iff_not] at *
    omega
  as := fun a b h => by
    unfold pLt at *
    rw [decide_eq_true_eq] at h
    rw [decide_eq_false_iff_not]
    omega
theorem fl_lt {M p q : Nat} (hP : Pl ps) (hp : p ∈ ps) (hq : q ∈ ps) (hM : ∀ p ∈ ps, O p + U p ≤ M) (h : key p < key q) : fl M p < fl M q ∧ fn M q < fn M p := by
  have hl := (hP.pf2 hp hq).lt h
  have Fp := hP.pf hp
  have Fq := hP.pf hq
  have a1 := Fp.O1
  have a2 := Fp.U1
  have b1 := Fq.O1
  have b2 := Fq.U1
  have hMp := hM p hp
  have hMq := hM q hq
  unfold fl fn
  obtain ⟨a, ha⟩ : ∃ a, a = O p := ⟨_, rfl⟩
  obtain ⟨b, hb⟩ : ∃ b, b = O p + U p := ⟨_, rfl⟩
  obtain ⟨c, hc⟩ : ∃ c, c = O q := ⟨_, rfl⟩
  obtain ⟨d, hd⟩ : ∃ d, d = O q + U q := ⟨_, rfl⟩
  have hk : a * d + 1 ≤ c * b := by
    rw [ha, hb, hc, hd, Nat.mul_add, Nat.mul_add]
    have : O q * O p = O p * O q := Nat.mul_comm _ _
    omega
  rw [← hb, ← hd, ← ha, ← hc]
  have hb0 : 0 < b := by omega
  have hd0 : 0 < d := by omega
  rw [← hb] at hMp
  rw [← hd] at hMq
  clear hl ha hb hc hd
  -- b * d ≤ M * M
  have hbd : b * d ≤ M * M := Nat.mul_le_mul hMp hMq
  generalize M * M = N at *
  have key : (a * N) * d + b * d ≤ (c * N) * b := by
    have h1 : (a * d + 1) * N ≤ c * b * N := Nat.mul_le_mul_right _ hk
    have e1 : (a * d + 1) * N = a * N * d + N := by rw [Nat.add_mul, Nat.one_mul]; congr 1; rw [Nat.mul_right_comm]
    have e2 : c * b * N = c * N * b := Nat.mul_right_comm _ _ _
    omega
  generalize a * N = x at *
  generalize c * N = y at *
  rw [Int.fdiv_eq_ediv_of_nonneg _ (by omega), Int.fdiv_eq_ediv_of_nonneg _ (by omega), Int.fdiv_eq_ediv_of_nonneg _ (by omega), Int.fdiv_eq_ediv_of_nonneg _ (by omega)]
  have hbZ : (0 : Int) < b := by omega
  have hdZ : (0 : Int) < d := by omega
  have keyZ : (x : Int) * d + b * d ≤ (y : Int) * b := by exact_mod_cast key
  constructor
  · have h1 := Int.ediv_mul_le (x : Int) (Int.ne_of_gt hbZ)
    have h2 : ((x : Int) / b + 1) * d ≤ y := by
      have h3 : ((x : Int) / b * b) * d ≤ x * d := Int.mul_le_mul_of_nonneg_right h1 (Int.le_of_lt hdZ)
      have h4 : (((x : Int) / b + 1) * d) * b ≤ y * b := by
        have e : (((x : Int) / b + 1) * d) * b = ((x : Int) / b * b) * d + b * d := by
          rw [Int.add_mul, Int.one_mul, Int.add_mul, Int.mul_right_comm, Int.mul_comm (d : Int) b]
        omega
      exact Int.le_of_mul_le_mul_right h4 hbZ
    have h5 := (Int.le_ediv_iff_mul_le hdZ).mpr h2
    omega
  · have h1 := Int.ediv_mul_le (-(y : Int)) (Int.ne_of_gt hdZ)
    have h2 : (-(y : Int) / d + 1) * b ≤ -(x : Int) := by
      have h3 : (-(y : Int) / d * d) * b ≤ -(y : Int) * b := Int.mul_le_mul_of_nonneg_right h1 (Int.le_of_lt hbZ)
      have h4 : ((-(y : Int) / d + 1) * b) * d ≤ -(x : Int) * d := by
        have e : ((-(y : Int) / d + 1) * b) * d = (-(y : Int) / d * d) * b + b * d := by
          rw [Int.add_mul, Int.one_mul, Int.add_mul, Int.mul_right_comm]
        rw [Int.neg_mul] at h3
        rw [Int.neg_mul]
        omega
      exact Int.le_of_mul_le_mul_right h4 hdZ
    have h5 := (Int.le_ediv_iff_mul_le hbZ).mpr h2
    omega
theorem sign {M p : Nat} (hP : Pl ps) (hp : p ∈ ps) (hM : ∀ p ∈ ps, O p + U p ≤ M) : 0 ≤ fl M p ∧ fn M p < 0 := by
  have F := hP.pf hp
  have a1 := F.O1
  have a2 := F.U1
  have h := hM p hp
  unfold fl fn
  have h1 : 0 < O p * (M * M) := Nat.mul_pos (by omega) (Nat.mul_pos (by omega) (by omega))
  have hb : 0 < O p + U p := by omega
  generalize O p * (M * M) = x at *
  generalize O p + U p = b at *
  rw [Int.fdiv_eq_ediv_of_nonneg _ (by omega), Int.fdiv_eq_ediv_of_nonneg _ (by omega)]
  exact ⟨Int.ediv_nonneg (by omega) (by omega), Int.ediv_neg_of_neg_of_pos (by omega) (by omega)⟩
theorem ents_perm (M : Nat) : ∀ ps : List Nat, (ents M ps).Perm ((ps.map fun p : Nat => (fn M p, -(p : Int))) ++ ps.map fun p : Nat => (fl M p, (p : Int)))
  | [] => .refl _
  | p :: ps => by
    have ih := ents_perm M ps
    unfold ents at ih ⊢
    rw [List.flatMap_cons, List.map_cons, List.map_cons]
    show ((fl M p, (p : Int)) :: (fn M p, -(p : Int)) :: _).Perm ((fn M p, -(p : Int)) :: (_ ++ (fl M p, (p : Int)) :: _))
    refine (List.Perm.swap _ _ _).trans (.cons _ ?_)
    refine List.Perm.trans (.cons _ ih) ?_
    exact (List.perm_middle).symm
theorem told_eq {M : Nat} {E : List (Int × Int)} (hP : Pl ps) (hM : ∀ p ∈ ps, O p + U p ≤ M) (hE : E.Perm (ents M ps)) (hEs : E.Pairwise (fun a b => pLt b a = false)) (hln : ln.Perm ps) (hs : ln.Pairwise (fun a b => key a ≤ key b)) :
    E.map (·.2) = (ln.reverse.map fun p : Nat => -(p : Int)) ++ ln.map Int.ofNat := by
  have hnd : ln.Nodup := hln.nodup_iff.mpr hP.nd
  have hss : ln.Pairwise (fun a b => a ∈ ps ∧ b ∈ ps ∧ key a < key b) := by
    rw [List.pairwise_iff_getElem] at hs ⊢
    intro i j hi hj hij
    have h1 : ln[i] ∈ ps := hln.subset (List.getElem_mem _)
    have h2 : ln[j] ∈ ps := hln.subset (List.getElem_mem _)
    refine ⟨h1, h2, ?_⟩
    rcases Nat.lt_or_eq_of_le (hs i j hi hj hij) with h | h
    · exact h
    · exact absurd ((hP.pf2 h1 h2).inj h) (List.pairwise_iff_getElem.mp hnd i j hi hj hij)
  have e : E = (ln.reverse.map fun p : Nat => (fn M p, -(p : Int))) ++ ln.map fun p : Nat => (fl M p, (p : Int)) := by
    refine List.Perm.eq_of_pairwise (le := fun a b => pLt b a = false) (fun a b _ _ h1 h2 => ?_) hEs ?_ ?_
    · unfold pLt at h1 h2
      rw [decide_eq_false_iff_not] at h1 h2
      exact Prod.ext (by omega) (by omega)
    · rw [List.pairwise_append]
      refine ⟨?_, ?_, ?_⟩
      · rw [List.pairwise_map, List.pairwise_reverse]
        refine hss.imp fun {a b} h => ?_
        have := (fl_lt hP h.1 h.2.1 hM h.2.2).2
        unfold pLt
        rw [decide_eq_false_iff_not]
        dsimp only
        omega
      · rw [List.pairwise_map]
        refine hss.imp fun {a b} h => ?_
        have := (fl_lt hP h.1 h.2.1 hM h.2.2).1
        unfold pLt
        rw [decide_eq_false_iff_not]
        dsimp only
        omega
      · intro a ha b hb
        obtain ⟨p, hp, rfl⟩ := List.mem_map.mp ha
        obtain ⟨q, hq, rfl⟩ := List.mem_map.mp hb
        have h1 := (sign hP (hln.subset (List.mem_reverse.mp hp)) hM).2
        have h2 := (sign hP (hln.subset hq) hM).1
        unfold pLt
        rw [decide_eq_false_iff_not]
        dsimp only
        omega
    · refine hE.trans ((ents_perm M ps).trans ?_)
      refine List.Perm.append ?_ ?_
      · exact ((List.reverse_perm ln).trans hln).symm.map _
      · exact hln.symm.map _
  rw [e, List.map_append, List.map_map, List.map_map]
  rfl
end
section
variable {w : World} {G : Gd w} {f₀ : Addr × FK} {fs : Frs} {V V' : View} {s s' : Shared} {l L : Addr} {m : Loc} {A : Around} {E : Value → Shared → Prop} {ns : List Int}
theorem law_body {outer : List Env} {Q : Flow → Shared → Prop} (r : Rm A 84) (S : SS G ((L, .loc m) :: fs) V s) (hA : A.frames = some outer) (hout : ∀ y ∈ outer, y.scope.kind ≠ .module ∧ ∃ L', y.frame = some L' ∧ (L' = L ∨ ∃ lv, (L', FK.loc lv) ∈ fs))
    (hm : m (Str.ofString "script") = some (.ref l)) (hl : GL G l ns) (hlen : ns.length < 100) (hc1 : V (L + 1) = some (.cell none)) (hc2 : V (L + 1 + 1) = some (.cell none)) (hc3 : V (L + 1 + 1 + 1) = some (.cell none))
    (hQ : ∀ m' V' s', SS G ((L, .loc m') :: fs) V' s' → Q (.ret (.bool true)) s') : wpAny (model PP w) A (execs lawBody (lawEnv L)) Q (fun _ _ => False) s := by
  refine stA r S hA hout hm hl hlen ?_
  intro m' V' s' pl x q W ps rl hP hsort hplV hW T hN hnp hsc hrd hnpass hnfin m1 m2 S2
  obtain ⟨ini, z, hps⟩ : ∃ ini z, ps = ini ++ [z] := ⟨ps.dropLast, ps.getLast (List.ne_nil_of_mem hP.one), (List.dropLast_concat_getLast _).symm⟩
  have hz : z ∈ ps := by rw [hps]; simp
  have hzm : ∀ p ∈ ps, p ≤ z := fun p hp => by
    rw [hps] at hp hsort
    rcases List.mem_append.mp hp with h | h
    · exact Nat.le_of_lt ((List.pairwise_append.mp hsort).2.2 p h z (.head _))
    · rw [List.mem_singleton.mp h]; exact Nat.le_refl _
  refine stB r S2 hP hsort hz hzm (by rw [hW]; exact upd_eq) (by rw [hW]; exact upo hplV hc1) (by rw [hW]; exact upo hplV hc2) (by rw [hW]; exact upo hplV hc3) T hN hnp hsc hrd hnpass hnfin m1 m2 ?_
  intro m3 V3 s3 rn od ud as ks C hks m2 m3' S3
  refine stC r S3 hP hps C m2 m3' ?_
  intro m4 V4 s4 C4 m2 S4
  refine stD r S4 hP C4 hks m2 ?_
  intro m5 V5 s5 M C5 hM hM34 m2 m3 S5
  refine stE r S5 hP C5 hks hM34 m2 m3 ?_
  intro m6 V6 s6 hl as P C6 h1 h2 hmap m2 m3 S6
  have hlen2 : as.length = 2 * ps.length := by
    have := congrArg List.length hmap
    rwa [List.length_map, ents_len] at this
  have hps20 := hP.len
  have hpm := hfy_perm (lt := fun a b => pLt (P a) (P b)) as
  refine stF (lt := fun a b => pLt (P a) (P b)) r S6 rfl lex_tot C6 h1 (by rw [hpm.length_eq]; omega) (hfy_heap lex_tot as) (fun b hb => h2 b (hpm.mem_iff.mp hb)) rfl m2 m3 ?_
  intro m7 V7 s7 tl C7 ht m2 m3 S7
  refine stG r S7 hP C7 hks ht (fun ln hln hs => ?_) (fun ln hln hs => adj hP hln hs) hQ m2 m3
  obtain ⟨d1, d2⟩ := drain_spec (lex_tot (P := P)) _ _ rfl (hfy_heap lex_tot as)
  have e := told_eq (E := (drain (fun a b => pLt (P a) (P b)) (hfy (fun a b => pLt (P a) (P b)) as).length (hfy (fun a b => pLt (P a) (P b)) as)).map P) hP hM (by rw [← hmap]; exact (d1.trans hpm).map P) (List.pairwise_map.mpr d2) hln hs
  rw [List.map_map] at e
  exact e
end
section
variable {w : World} {G : Gd w} {f₀ : Addr × FK} {fs : Frs} {V V₁ : View} {s s' : Shared} {l a b L I : Addr} {m : Loc} {A : Around} {E : Value → Shared → Prop} {ns : List Int}
theorem enterCc {f : Addr} {vals : List Value} (binds bl bc : List (Str × Value)) (V' : Addr → View) {Q : Value → Shared → Prop} {name qual : Str} {params : Arguments} {body : List Stmt} {scope : Scope} {dV kV doc pm cdv ct oc : Value} {an od : Option Addr} {osl : Array (Option Value)}
    (S : SS G fs V s) (hge : G.h.objs.size ≤ s.heap.objs.size) (ho : (hd.heap_39 w.params).lookup f = some ⟨oc, od, .func (fnOf name qual params body scope dV kV doc pm an cdv ct), osl⟩) (hcd : codeIn (hd.heap_39 w.params) cdv qual = true) (hroom : A.depth < recursionLimit)
    (hbind : bindArgs (fnOf name qual params body scope dV kV doc pm an cdv ct) ⟨vals, []⟩ = pure binds)
    (hkind : ∀ n, ∀ x ∈ binds, scope.names.lookup x.1 = some .local ∨ (scope.names.lookup x.1 = some .cell ∧ ((cellsFrom n scope.names []).lookup x.1).isSome = true))
    (hbl : binds.filter (isLoc scope) = bl) (hbc : binds.filter (fun b => !isLoc scope b) = bc)
    (hV' : ∀ L a ao, V' L a = some ao → V a = some ao ∨ ∃ n, (cellsFrom (L + 1) scope.names []).lookup n = some a ∧ ao = .cell (lvOf bc n))
    (hco : scope.isCoroutine = false) (hgen : scope.isGenerator = false) (hk : scope.kind = .function)
    (h : ∀ L s₁, (∀ a, L ≤ a → V a = none) → SS G ((L, .loc (lvOf bl)) :: fs) (V' L) s₁ → wpAny (model PP w) (A.deeper (envOfC qual scope L f cdv)) (execs body (envOfC qual scope L f cdv))
      (fun fl s' => Q (rv fl) s') (fun _ _ => False) s₁) :
    codeAny (model PP w) A (.call (.ref f) ⟨vals, []⟩) (fun r s' => match r with | .ok (.ret v) => Q v s' | .ok _ => False | .error e => E e s') s := by
  refine codeAny_call_cells (fd := fnOf name qual params body scope dV kV doc pm an cdv ct) (body := body) (binds := binds) hroom (S.K _ _ ho) rfl S.lim (codeRec_of S.K hcd) rfl hbind rfl (hkind _) (fun s₁ x => ?_) hco hgen hk
  obtain ⟨h₁, tk, rfl, hk₁⟩ := x.done
  have kd : ∀ y, (callEnvC (fnOf name qual params body scope dV kV doc pm an cdv ct) s.heap.objs.size f).kindOf y = scope.names.lookup y := fun y => rfl
  refine wpAny_mono (h s.heap.objs.size _ (fun a ha => S.fresh ha) (S.ext (V' := V' s.heap.objs.size) (s' := { s with heap := h₁, toks := tk }) (nf := [(s.heap.objs.size, .loc (lvOf bl))]) hge ?_ (by simp) ?_ rfl rfl hk₁)) (fun fl _ x => by cases fl <;> exact x) (fun _ _ x => x.elim)
  · intro g hg
    rw [List.mem_singleton] at hg
    subst hg
    refine ⟨Nat.le_refl _, _, x.toInCall.ns, fun y => ?_⟩
    rw [← hbl]
    exact bindL_eq scope _ kd binds _ _ y (fun _ => rfl)
  · intro a ao e
    rcases hV' _ a ao e with h1 | ⟨n, h1, rfl⟩
    · exact .inl h1
    · have hc := x.cell n a h1
      have hab := x.above n a (mem_of_lookup h1)
      refine .inr ⟨Nat.le_of_lt hab, ?_, ?_⟩
      · obtain ⟨o, e1, e2⟩ := hc
        refine ⟨o, e1, _, e2, ?_⟩
        rw [← hbc]
        exact bindC_eq scope _ kd binds _ _ n (fun _ => rfl)
      · simp only [List.map_cons, List.map_nil, List.mem_singleton]
        exact Nat.ne_of_gt hab
theorem law_c {outer : List Env} {Q : Value → Shared → Prop} (r : Rm A 85) (S : SS G [] V s) (hge : G.h.objs.size ≤ s.heap.objs.size) (hA : A.frames = some []) (hl : GL G l ns) (hlen : ns.length < 100)
    (hQ : ∀ L m' V' s', SS G [(L, .loc m')] V' s' → Q (.bool true) s') :
    codeAny (model PP w) A (.call (.ref 244) ⟨[.ref l], []⟩) (fun r s' => match r with | .ok (.ret v) => Q v s' | .ok _ => False | .error e => E e s') s := by
  refine enterCc [(Str.ofString "script", .ref l)] [(Str.ofString "script", .ref l)] [] (fun L => upd (upd (upd V (L + 1) (.cell none)) (L + 2) (.cell none)) (L + 3) (.cell none))
    S hge (by k_is) (by k_is) r.room rfl ?_ rfl rfl ?_ rfl rfl rfl ?_
  · intro n x hx
    simp only [List.mem_cons, List.not_mem_nil, or_false] at hx
    subst hx
    exact .inl rfl
  · intro L a ao h
    exact cells3 (L := L) (x := Str.ofString "over") (y := Str.ofString "under") (z := Str.ofString "bits") rfl rfl rfl rfl rfl rfl a ao h
  intro L s₁ hfr S₁
  simp only [lvOf, List.foldl, er] at S₁
  refine law_body (l := l) (r.deeper) S₁ (Around.frames_deeper hA) ?_ (by walk_at "lk") hl hlen (by walk_at "vw") (by walk_at "vw") (by walk_at "vw") ?_
  · intro y hy
    rw [List.mem_singleton] at hy
    subst hy
    exact ⟨nofun, L, rfl, .inl rfl⟩
  · intro m' V' s' S'
    exact hQ _ _ _ _ S'
end

noncomputable abbrev tabs3 : List (Addr × Addr) := [(76, 72), (69, 65), (243, 241)]
theorem first {w : World} {s : Shared} {mg mb : Str → Option Value} {mean : ExcName → Option Value} {p : Program} {loose : List Str} (KX : (hd.heap_39 w.params).In s.heap) (hT9 : TabsAt tabs3 s.heap) (T : Top p loose mean mg mb s.heap) (hg : s.gens = #[]) :
    ∃ G : Gd w, G.h = ghostOf s.heap tabs3 ∧ G.os = s.os ∧ SS G [] (fun _ => none) s := by
  have hsz : (ghostOf s.heap tabs3).objs.size = s.heap.objs.size := hideAll_size _ _
  have hbig : 245 ≤ (ghostOf s.heap tabs3).objs.size := by
    have h1 : ((hd.heap_39 w.params).lookup 244).isSome = true := by kernel_rfl
    obtain ⟨o, ho⟩ := Option.isSome_iff_exists.mp h1
    rw [hsz]
    exact Heap.lt_size (KX 244 o ho)
  refine ⟨{ h := ghostOf s.heap tabs3, os := s.os, mg := mg, mb := mb, K := ghost_K hT9 KX (by kernel_rfl), g := ghost_ns hT9 T.g, b := ghost_ns hT9 T.b, nolimit := ?_, blt := T.builtins, bmain := ?_, c1 := (ghost_code hT9).1, c2 := (ghost_code hT9).2.1, c3 := (ghost_code hT9).2.2.1, big := hbig, n1 := hideAll_none _ (by simp), n2 := hideAll_none _ (by simp), n3 := hideAll_none _ (by simp) }, rfl, rfl, ?_⟩
  · obtain ⟨mc, a, r⟩ := T.nolimit
    exact ⟨mc, ghost_ns hT9 a, r⟩
  · obtain ⟨bm, ob, e1, e2, e3, e4, e5, e6⟩ := T.bmain
    exact ⟨bm, ob, e1, e2, ghost_get hT9 e3 (fun q => by rw [q] at e4; cases e4), e4, e5, e6⟩
  · exact {
      gens := hg
      os := rfl
      base := fun b o e => of_hideAll _ e
      frames := fun f hf => absurd hf List.not_mem_nil
      nodup := List.nodup_nil
      see := fun a ao e => by cases e
      high := fun a ao e => by cases e
      apart := fun f hf => absurd hf List.not_mem_nil
      tabs := fun q hq => .inl (by
        simp only [tabL, List.mem_cons, List.not_mem_nil, or_false] at hq
        rcases hq with rfl | rfl | rfl
        · exact (hT9 (76, 72) (.head _)).2
        · exact (hT9 (69, 65) (.tail _ (.head _))).2
        · exact (hT9 (243, 241) (.tail _ (.tail _ (.head _)))).2) }
theorem tab_grown {w : World} {G : Gd w} {fs : Frs} {V : View} {s : Shared} (S : SS G fs V s) : GrownAll tabs3 s.heap := by
  have h : ∀ q ∈ tabL, GrownAt q.1 s.heap := fun q hq => by
    rcases S.tabs q hq with h | ⟨c, o, vs, t, h, _⟩
    · exact ⟨_, h⟩
    · exact ⟨_, h⟩
  exact ⟨h (72, pos1, q1) (.head _), h (65, pos2, q2) (.tail _ (.head _)), h (241, pos3, q3) (.tail _ (.tail _ (.head _))), trivial⟩
end Mine

theorem PySem.Challenge.cw_op0251_01_holds : PySem.Challenge.rw_op0251_01.Holds := by
  refine hd ?_
  k_fill
  intro w s₀ s₁ mg mb G Y fa o pm cd doc dV kV ho hd' hcd hD hmg hg args vals as hpre hlay hrd hwl hlo
  have KX := km_in_of Y
  have hT8 := km_tabs_of Y
  have X := (Ground.X G).1
  have V := (Ground.X G).2
  refine Ground.open G ?_
  intro T B D TE TW
  try (refine guard_noD D (by decide +kernel) ?_; clear D)
  have hT9 : TabsAt [(76, 72), (69, 65), (243, 241)] s₁.heap :=
    List.forall_mem_cons.mpr ⟨⟨codeHd_of_K (c := 76) (P := 72) KX (by kernel_rfl), hT8 72 (.head _)⟩,
    List.forall_mem_cons.mpr ⟨⟨codeHd_of_K (c := 69) (P := 65) KX (by kernel_rfl), hT8 65 (.tail _ (.head _))⟩,
    List.forall_mem_cons.mpr ⟨⟨codeHd_of_K (c := 243) (P := 241) KX (by kernel_rfl), hT8 241 (.tail _ (.tail _ (.head _)))⟩, fun _ h => nomatch h⟩⟩⟩
  have hfa : fa = 244 := by
    have e1 := mg_of (n := Str.ofString "law") (v := .ref 244) KX T.g (by kernel_rfl)
    have e2 : mg (Str.ofString "law") = some (.ref fa) := hmg
    rw [e1] at e2
    cases e2
    rfl
  subst hfa
  clear hmg hd' hcd hD ho
  wrow_args hpre hlay hrd hwl hlo
  all_goals (
    first | refine callC_kw (enter_call ?_) | refine enter_call ?_)
  all_goals refine kn_post hT9 (fun _ _ => rfl) ?_
  all_goals (
    obtain ⟨G', hG, hos, S⟩ := Mine.first KX hT9 T hg
    rename_i ns _ _ _ _ _ _ _ l vs _ hL _ _ _ hI _ hlen _
    refine codeAny_mono (Mine.law_c (outer := []) (E := fun _ _ => False) (Q := fun v s' => v = .bool true ∧ ∃ L m' V', Mine.SS G' [(L, .loc m')] V' s') ⟨by decide, by decide, rfl⟩ S (by rw [hG]; exact Nat.le_of_eq (hideAll_size _ _)) rfl ⟨vs.toArray, by rw [hG]; exact ghost_list hT9 hL, hI⟩ (by omega) (fun L m' V' s' S' => ⟨rfl, L, m', V', S'⟩)) ?_
    intro r s' hr
    rcases r with e | (_ | _ | _ | v)
    all_goals first | exact hr.elim | skip
    obtain ⟨hv, L, m', V', S'⟩ := hr
    have hv : v = .bool true := hv
    subst hv
    refine ⟨⟨.inl ⟨.bool true, .bool true, [], rfl, fun _ => rfl, .bool true, ?_, fun _ => ⟨List.nodup_nil, fun a ha => absurd ha List.not_mem_nil⟩⟩, fun b o e => S'.base b o (by rw [hG]; exact e), S'.os.trans hos, S'.gens⟩, Mine.tab_grown S'⟩
    first | kernel_rfl | exact postW_of (by wrow_shape) (by wtm_val) (by str_meet; first | done | w_fin))
