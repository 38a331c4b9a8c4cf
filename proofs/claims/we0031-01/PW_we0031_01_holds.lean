import PyProof.Rows.All
import Wide.All
import OpenK.AllK
import Wide.FinOn
import PySem.Challenge.RW_we0031_01
open PySem PySem.W PyProof.Rows
set_option Elab.async false
set_option maxRecDepth 100000
set_option maxHeartbeats 8000000
set_option rowWalk.seconds 0
theorem Mine.same : PySem.W.namesOk = PySem.W.namesOk := rfl
name_quick tw861502493610598483 for PySem.W.namesOk by Mine.same
name_quick tw6108671856727231990 for PySem.W.namesOk by Mine.same
name_quick tw14074196154385387334 for PySem.W.namesOk by Mine.same
name_quick tw7774113678449685934 for PySem.W.namesOk by Mine.same
name_quick tw5821505357256439647 for PySem.W.namesOk by Mine.same
name_quick tw17843931727820963302 for PySem.W.namesOk by Mine.same
name_quick tw2886075108996040433 for PySem.W.namesOk by Mine.same
name_quick tw10619231889807973815 for PySem.W.namesOk by Mine.same
name_quick tw3116142745294760271 for PySem.W.namesOk by Mine.same
name_quick tw12411574311111392344 for PySem.W.namesOk by Mine.same
name_quick tw3303267245142563540 for PySem.W.namesOk by Mine.same
name_quick tw1599053048872161195 for PySem.W.namesOk by Mine.same
name_quick tw12848530379965262573 for PySem.W.namesOk by Mine.same
name_quick tw13485263441057248554 for PySem.W.namesOk by Mine.same
name_quick tw16723463757517087524 for PySem.W.namesOk by Mine.same
name_quick tw3382625519597670723 for PySem.W.namesOk by Mine.same
name_quick tw6784737039638806343 for PySem.W.namesOk by Mine.same
name_quick tw7424060955962978353 for PySem.W.namesOk by Mine.same
name_quick tw5101696844757716304 for PySem.W.namesOk by Mine.same
name_quick tw8215439957894238634 for PySem.W.namesOk by Mine.same
name_quick tw10995594419232131675 for PySem.W.namesOk by Mine.same
name_quick tw8726500145642417389 for PySem.W.namesOk by Mine.same
name_quick tw9176024353136599441 for PySem.W.namesOk by Mine.same
name_quick tw3300454383303005205 for PySem.W.namesOk by Mine.same
name_quick tw14847308668706973960 for PySem.W.namesOk by Mine.same
name_quick tw14961746396406840608 for PySem.W.namesOk by Mine.same
name_quick tw15166322114958858414 for PySem.W.namesOk by Mine.same
name_quick tw18183970276198133131 for PySem.W.namesOk by Mine.same
name_quick tw561727478393794602 for PySem.W.namesOk by Mine.same
name_quick tw2646887283097553488 for PySem.W.namesOk by Mine.same
name_quick tw10648816792666195974 for PySem.W.namesOk by Mine.same
name_quick tw1719895430356276633 for PySem.W.namesOk by Mine.same
name_quick tw4003800409337655787 for PySem.W.namesOk by Mine.same
name_quick tw457283913326318344 for PySem.W.namesOk by Mine.same
name_quick tw12740759652641322565 for PySem.W.namesOk by Mine.same
name_quick tw1937721966566455358 for PySem.W.namesOk by Mine.same
name_quick tw2741014181512449073 for PySem.W.namesOk by Mine.same
name_quick tw4971374062829452455 for PySem.W.namesOk by Mine.same
name_quick tw4171853373547519906 for PySem.W.namesOk by Mine.same
name_quick tw18073898193381586223 for PySem.W.namesOk by Mine.same
name_quick tw13347621489011750686 for PySem.W.namesOk by Mine.same
name_quick tw11153475782318119604 for PySem.W.namesOk by Mine.same
name_quick tw3270257207059953099 for PySem.W.namesOk by Mine.same
name_quick tw12954591660760965231 for PySem.W.namesOk by Mine.same
name_quick tw13421457143807847188 for PySem.W.namesOk by Mine.same
name_quick tw17817366049700826239 for PySem.W.namesOk by Mine.same
name_quick tw12903330217458380548 for PySem.W.namesOk by Mine.same
name_quick tw8047209995159408440 for PySem.W.namesOk by Mine.same
name_quick tw12772213712371865176 for PySem.W.namesOk by Mine.same
name_quick tw10212804917625248896 for PySem.W.namesOk by Mine.same
name_quick tw5994696166404524948 for PySem.W.namesOk by Mine.same
name_quick tw9461873434466728008 for PySem.W.namesOk by Mine.same
name_quick tw17214186515701724070 for PySem.W.namesOk by Mine.same
name_quick tw17267597263503486738 for PySem.W.namesOk by Mine.same
name_quick tw14782755387869428366 for PySem.W.namesOk by Mine.same
name_quick tw140001813534094272 for PySem.W.namesOk by Mine.same
name_quick tw9536688357841153863 for PySem.W.namesOk by Mine.same
name_quick tw15433366417846715934 for PySem.W.namesOk by Mine.same
name_quick tw4309217394794523951 for PySem.W.namesOk by Mine.same
name_quick tw6030501089693204938 for PySem.W.namesOk by Mine.same
name_quick tw9527419180321252691 for PySem.W.namesOk by Mine.same
name_quick tw547895379624588593 for PySem.W.namesOk by Mine.same
name_quick tw14170518179582410385 for PySem.W.namesOk by Mine.same
name_quick tw1467881925912835984 for PySem.W.namesOk by Mine.same
name_quick tw4148533619186036948 for PySem.W.namesOk by Mine.same
name_quick tw11853640710764476214 for PySem.W.namesOk by Mine.same
name_quick tw6128145076113358165 for PySem.W.namesOk by Mine.same
name_quick tw4734895289157585001 for PySem.W.namesOk by Mine.same
name_quick tw12768989823518198380 for PySem.W.namesOk by Mine.same
name_quick tw12960429369202013873 for PySem.W.namesOk by Mine.same
name_quick tw6858818405166986180 for PySem.W.namesOk by Mine.same
name_quick tw2399617604181995578 for PySem.W.namesOk by Mine.same
name_quick tw9404705873571188630 for PySem.W.namesOk by Mine.same
name_quick tw740290905518256060 for PySem.W.namesOk by Mine.same
name_quick tw16728255500844073214 for PySem.W.namesOk by Mine.same
name_quick tw3110587219445414310 for PySem.W.namesOk by Mine.same
name_quick tw8060666987683057360 for PySem.W.namesOk by Mine.same
name_quick tw4321966507151631593 for PySem.W.namesOk by Mine.same
name_quick tw6522051377940421278 for PySem.W.namesOk by Mine.same
name_quick tw12652081859355081885 for PySem.W.namesOk by Mine.same
name_quick tw11066385474520676512 for PySem.W.namesOk by Mine.same
name_quick tw3475869608268796686 for PySem.W.namesOk by Mine.same
name_quick tw12620873455715996183 for PySem.W.namesOk by Mine.same
name_quick tw13406242734642179557 for PySem.W.namesOk by Mine.same
name_quick tw4548300405975405348 for PySem.W.namesOk by Mine.same
name_quick tw9806118890596472461 for PySem.W.namesOk by Mine.same
name_quick tw3308634892276815127 for PySem.W.namesOk by Mine.same
name_quick tw12099505692703838030 for PySem.W.namesOk by Mine.same
name_quick tw6557801498797044033 for PySem.W.namesOk by Mine.same
name_quick tw12546471409375691253 for PySem.W.namesOk by Mine.same
name_quick tw11038752745809355942 for PySem.W.namesOk by Mine.same
name_quick tw1711978525486605378 for PySem.W.namesOk by Mine.same
name_quick tw2474200967059427378 for PySem.W.namesOk by Mine.same
name_quick tw6472337539984862722 for PySem.W.namesOk by Mine.same
name_quick tw5537553045615171315 for PySem.W.namesOk by Mine.same
name_quick tw1142673529048489019 for PySem.W.namesOk by Mine.same
name_quick tw1972164579936704799 for PySem.W.namesOk by Mine.same
name_quick tw13385558918117058561 for PySem.W.namesOk by Mine.same
name_quick tw10792498714594961201 for PySem.W.namesOk by Mine.same
name_quick tw16217903435359918192 for PySem.W.namesOk by Mine.same
name_quick tw17071660069713835940 for PySem.W.namesOk by Mine.same
name_quick tw16140922888777852060 for PySem.W.namesOk by Mine.same
name_quick tw10341888390210383824 for PySem.W.namesOk by Mine.same
name_quick tw4906484309439969231 for PySem.W.namesOk by Mine.same
name_quick tw18328257000508772394 for PySem.W.namesOk by Mine.same
name_quick tw12314708539913122752 for PySem.W.namesOk by Mine.same
name_quick tw9796564346219866840 for PySem.W.namesOk by Mine.same
name_quick tw977512076041815475 for PySem.W.namesOk by Mine.same
name_quick tw5167058305935922445 for PySem.W.namesOk by Mine.same
name_quick tw14404928986312190071 for PySem.W.namesOk by Mine.same
name_quick tw9972681490609642005 for PySem.W.namesOk by Mine.same
name_quick tw2931988195819169919 for PySem.W.namesOk by Mine.same
name_quick tw14827714588952709054 for PySem.W.namesOk by Mine.same
name_quick tw4096221787609464999 for PySem.W.namesOk by Mine.same
name_quick tw2576523973992343609 for PySem.W.namesOk by Mine.same
name_quick tw17483705464198625004 for PySem.W.namesOk by Mine.same
name_quick tw12138319994727072339 for PySem.W.namesOk by Mine.same
name_quick tw7485256538410118956 for PySem.W.namesOk by Mine.same
name_quick tw6248682570935725439 for PySem.W.namesOk by Mine.same
name_quick tw16753820520455620202 for PySem.W.namesOk by Mine.same
name_quick tw17062427158221528723 for PySem.W.namesOk by Mine.same
name_quick tw6420159726195949164 for PySem.W.namesOk by Mine.same
name_quick tw15685335758407661847 for PySem.W.namesOk by Mine.same
name_quick tw10551173667578312727 for PySem.W.namesOk by Mine.same
name_quick tw16298917771340976007 for PySem.W.namesOk by Mine.same
name_quick tw17026682123665591243 for PySem.W.namesOk by Mine.same
name_quick tw1708089923452030704 for PySem.W.namesOk by Mine.same
name_quick tw443766864951011646 for PySem.W.namesOk by Mine.same
name_quick tw7212858340449540239 for PySem.W.namesOk by Mine.same
name_quick tw7322748291113730364 for PySem.W.namesOk by Mine.same
name_quick tw1956260828630720203 for PySem.W.namesOk by Mine.same
name_quick tw15173544498738437827 for PySem.W.namesOk by Mine.same
name_quick tw4015202173357781934 for PySem.W.namesOk by Mine.same
name_quick tw6607644564249050058 for PySem.W.namesOk by Mine.same
name_quick tw2466311954974566718 for PySem.W.namesOk by Mine.same
name_quick tw15240619367488684849 for PySem.W.namesOk by Mine.same
name_quick tw7480016910919988345 for PySem.W.namesOk by Mine.same
name_quick tw8737599933303070863 for PySem.W.namesOk by Mine.same
name_quick tw5449601097390414333 for PySem.W.namesOk by Mine.same
name_quick tw7921390202802761869 for PySem.W.namesOk by Mine.same
name_quick tw2570914705882880060 for PySem.W.namesOk by Mine.same
name_quick tw12770481643036789091 for PySem.W.namesOk by Mine.same
name_quick tw6968137755033780318 for PySem.W.namesOk by Mine.same
name_quick tw14746253646979254834 for PySem.W.namesOk by Mine.same
name_quick tw13034982811429478159 for PySem.W.namesOk by Mine.same
name_quick tw5217270863462422736 for PySem.W.namesOk by Mine.same
name_quick tw1835071406663858368 for PySem.W.namesOk by Mine.same
name_quick tw4804111812005502284 for PySem.W.namesOk by Mine.same
name_quick tw14391293386007564604 for PySem.W.namesOk by Mine.same
name_quick tw6798380500665416597 for PySem.W.namesOk by Mine.same
name_quick tw8023364242772225894 for PySem.W.namesOk by Mine.same
name_quick tw8432719020341155521 for PySem.W.namesOk by Mine.same
name_quick tw13956191218907399338 for PySem.W.namesOk by Mine.same
name_quick tw16822532161544500889 for PySem.W.namesOk by Mine.same
name_quick tw17760279517084355780 for PySem.W.namesOk by Mine.same
name_quick tw6690350156832105676 for PySem.W.namesOk by Mine.same
name_quick tw13135312941875745310 for PySem.W.namesOk by Mine.same
name_quick tw5702276774652866934 for PySem.W.namesOk by Mine.same
name_quick tw5890639436620234070 for PySem.W.namesOk by Mine.same
name_quick tw11962351593759143498 for PySem.W.namesOk by Mine.same
name_quick tw15757054237691784606 for PySem.W.namesOk by Mine.same
name_quick tw2789304352393801511 for PySem.W.namesOk by Mine.same
name_quick tw8912161614967838395 for PySem.W.namesOk by Mine.same
name_quick tw4075453323654395381 for PySem.W.namesOk by Mine.same
name_quick tw2403389108928632939 for PySem.W.namesOk by Mine.same
name_quick tw15541240446876304647 for PySem.W.namesOk by Mine.same
name_quick tw17691633702590694504 for PySem.W.namesOk by Mine.same
name_quick tw11384182702204212275 for PySem.W.namesOk by Mine.same
name_quick tw1840220198017710270 for PySem.W.namesOk by Mine.same
name_quick tw15127105006835628225 for PySem.W.namesOk by Mine.same
name_quick tw17170472223608059050 for PySem.W.namesOk by Mine.same
name_quick tw8739830900816887780 for PySem.W.namesOk by Mine.same
name_quick tw3641951560692057861 for PySem.W.namesOk by Mine.same
name_quick tw9947508896943372755 for PySem.W.namesOk by Mine.same
name_quick tw9456574344343218679 for PySem.W.namesOk by Mine.same
name_quick tw15402603294489630176 for PySem.W.namesOk by Mine.same
name_quick tw1979317910248211280 for PySem.W.namesOk by Mine.same
name_quick tw15925456577456769635 for PySem.W.namesOk by Mine.same
name_quick tw6548459193220583526 for PySem.W.namesOk by Mine.same
name_quick tw3215387988796971590 for PySem.W.namesOk by Mine.same
name_quick tw16636501806038632012 for PySem.W.namesOk by Mine.same
name_quick tw5444512763150141072 for PySem.W.namesOk by Mine.same
name_quick tw11907897558876765624 for PySem.W.namesOk by Mine.same
name_quick tw17318462890700432884 for PySem.W.namesOk by Mine.same
name_quick tw16607193741793207195 for PySem.W.namesOk by Mine.same
name_quick tw5667099127317398114 for PySem.W.namesOk by Mine.same
name_quick tw3919386906821981792 for PySem.W.namesOk by Mine.same
name_quick tw10294118229990073760 for PySem.W.namesOk by Mine.same
name_quick tw8159993647027272844 for PySem.W.namesOk by Mine.same
name_quick tw14760874974797668852 for PySem.W.namesOk by Mine.same
name_quick tw13053770412826190925 for PySem.W.namesOk by Mine.same
name_quick tw14958820412457663293 for PySem.W.namesOk by Mine.same
name_quick tw16902440903046159558 for PySem.W.namesOk by Mine.same
name_quick tw7867829370405329436 for PySem.W.namesOk by Mine.same
name_quick tw16409965706819354750 for PySem.W.namesOk by Mine.same
name_quick tw13674586047789940208 for PySem.W.namesOk by Mine.same
name_quick tw8297923619242306668 for PySem.W.namesOk by Mine.same
name_quick tw8431482922422412695 for PySem.W.namesOk by Mine.same
name_quick tw5832305185047221409 for PySem.W.namesOk by Mine.same
name_quick tw6822071536725586909 for PySem.W.namesOk by Mine.same
name_quick tw866717566613908145 for PySem.W.namesOk by Mine.same
name_quick tw6170744672141170255 for PySem.W.namesOk by Mine.same
name_quick tw17338325484393633139 for PySem.W.namesOk by Mine.same
name_quick tw14564479935002850509 for PySem.W.namesOk by Mine.same
name_quick tw9950792792127014553 for PySem.W.namesOk by Mine.same
name_quick tw5000232492035539693 for PySem.W.namesOk by Mine.same
name_quick tw11692469974320434101 for PySem.W.namesOk by Mine.same
name_quick tw13946496683202179788 for PySem.W.namesOk by Mine.same
name_quick tw16226643914720891334 for PySem.W.namesOk by Mine.same
name_quick tw12269216009862288129 for PySem.W.namesOk by Mine.same
name_quick tw991626836265849350 for PySem.W.namesOk by Mine.same
name_quick tw12887044766017154078 for PySem.W.namesOk by Mine.same
name_quick tw615563214671542189 for PySem.W.namesOk by Mine.same
name_quick tw17351735930882485243 for PySem.W.namesOk by Mine.same
name_quick tw8535803893964050539 for PySem.W.namesOk by Mine.same
name_quick tw2259672571474061568 for PySem.W.namesOk by Mine.same
name_quick tw3049343062529576306 for PySem.W.namesOk by Mine.same
name_quick tw2358075552688931204 for PySem.W.namesOk by Mine.same
name_quick tw13160504802963445071 for PySem.W.namesOk by Mine.same
name_quick tw3778530596728393105 for PySem.W.namesOk by Mine.same
name_quick tw14727194681476072466 for PySem.W.namesOk by Mine.same
name_quick tw9331231397406362311 for PySem.W.namesOk by Mine.same
name_quick tw11662115353561507501 for PySem.W.namesOk by Mine.same
name_quick tw10741264400317747893 for PySem.W.namesOk by Mine.same
name_quick tw15042883488752021643 for PySem.W.namesOk by Mine.same
name_quick tw11429584451438056573 for PySem.W.namesOk by Mine.same
name_quick tw6575520176995025181 for PySem.W.namesOk by Mine.same
name_quick tw1293241653719404408 for PySem.W.namesOk by Mine.same
name_quick tw5362036446546632119 for PySem.W.namesOk by Mine.same
name_quick tw8285278889055680438 for PySem.W.namesOk by Mine.same
open_top hd for PySem.Challenge.rw_we0031_01

namespace Mine
section
theorem room1 {d a b c l : Nat} (h : d + c < l) (e : Nat.ble (a + b) c = true) : d + a + b < l :=
  Nat.lt_of_le_of_lt (by rw [Nat.add_assoc]; exact Nat.add_le_add_left (Nat.le_of_ble_eq_true e) d) h
theorem fcons {α : Type} {p : α → Prop} {a : α} {l : List α} (h : p a) (t : ∀ x ∈ l, p x) : ∀ x ∈ a :: l, p x := List.forall_mem_cons.mpr ⟨h, t⟩
theorem room0 {d c l : Nat} (h : d + c < l) : d < l := Nat.lt_of_le_of_lt (Nat.le_add_right d c) h
theorem fill_here {P : Prop} (h : PySem.Challenge.rw_we0031_01 = PySem.Challenge.rw_we0031_01 ∧ hd.heap_39 = hd.heap_39 → P) : P := h ⟨rfl, rfl⟩
abbrev tup (vs : List Value) : Obj := { cls := .type "tuple", data := .seq vs.toArray }
theorem all_ne {X : List (Addr × Obj)} {d e : Addr} (h : ∀ p ∈ X, p.1 < e) (hd : @LE.le Nat _ e d) : ∀ p ∈ X, p.1 ≠ d := fun p hp => Nat.ne_of_lt (Nat.lt_of_lt_of_le (h p hp) hd)
theorem news_drop {h₀ h : Heap} {L : Addr} {X Y : List (Addr × Obj)} (N : News h₀ L h X) (hs : ∀ p ∈ Y, p ∈ X) : News h₀ L h Y := fun p hp => N p (hs p hp)
theorem lt_tail {X : List (Addr × Obj)} {e : Addr × Obj} {d : Addr} (h : ∀ p ∈ e :: X, p.1 < d) : ∀ p ∈ X, p.1 < d := fun p hp => h p (List.mem_cons_of_mem _ hp)
theorem news_two {h₀ h : Heap} {L D : Addr} {o : Obj} {rest news : List (Addr × Obj)} (e : Addr × Obj) (N : News h₀ L h ((D, o) :: rest)) (h1 : e ∈ rest) (h2 : ∀ p ∈ news, p ∈ rest) : News h₀ L h (e :: (D, o) :: news) := fun p hp => by
  rcases List.mem_cons.mp hp with rfl | hp
  · exact N _ (List.mem_cons_of_mem _ h1)
  · rcases List.mem_cons.mp hp with rfl | hp
    · exact N _ List.mem_cons_self
    · exact N _ (List.mem_cons_of_mem _ (h2 p hp))
theorem one_beq (n k : Nat) : (({ cps := #[n] } : Str) == { cps := #[k] }) = decide (n = k) := by
  by_cases h : n = k
  · subst h; simp
  · rw [decide_eq_false h]
    apply beq_eq_false_iff_ne.mpr
    intro e; apply h; injection e with e; simpa using e
theorem sgl1 (n : Nat) : (({ cps := #[n] } : Str) == Str.ofString "1") = decide (n = 49) := one_beq n 49
theorem sglq (n : Nat) : (({ cps := #[n] } : Str) == Str.ofString "?") = decide (n = 63) := one_beq n 63
noncomputable def onesF (l : List Int) : Int := l.foldl (fun o c => if c = 49 then 2 * o + 1 else 2 * o) 0
noncomputable def looseF (l : List Int) : Int := l.foldl (fun o c => if c = 63 then 2 * o + 1 else 2 * o) 0
theorem onesF_snoc (l : List Int) (c : Int) : onesF (l ++ [c]) = if c = 49 then 2 * onesF l + 1 else 2 * onesF l := by simp [onesF]
theorem looseF_snoc (l : List Int) (c : Int) : looseF (l ++ [c]) = if c = 63 then 2 * looseF l + 1 else 2 * looseF l := by simp [looseF]
noncomputable def stepT (c : Str × Int × Int) : Str × Int × Int := (Txt.item (Str.ofString "01??") (Int.fmod c.2.1 2 + 2 * Int.fmod c.2.2 2) ++ c.1, Int.fdiv c.2.1 2, Int.fdiv c.2.2 2)
@[irreducible] noncomputable def iterT (o l : Int) (n : Nat) : Str × Int × Int := Nat.rec (Str.ofString "", o, l) (fun _ c => stepT c) n
theorem iterT_zero (o l : Int) : iterT o l 0 = (Str.ofString "", o, l) := by unfold iterT; rfl
theorem iterT_succ (o l : Int) (n : Nat) : iterT o l (n + 1) = stepT (iterT o l n) := by unfold iterT; rfl
noncomputable def joinI (d o1 l1 o2 l2 : Int) : Int × Int :=
  if d = 36 then
    let low := o1 + o2
    let loose := Builtin.bitOr (Builtin.bitOr l1 l2) (Builtin.bitXor low (low + (l1 + l2)))
    (Builtin.bitAnd low (Builtin.bitNot loose), loose)
  else if d = 37 then
    let low := o1 - o2
    let loose := Builtin.bitOr (Builtin.bitOr l1 l2) (Builtin.bitXor (low + l1) (low - l2))
    (Builtin.bitAnd low (Builtin.bitNot loose), loose)
  else if d = 41 then
    let low := Builtin.bitAnd o1 o2
    let loose := Builtin.bitAnd (Builtin.bitAnd (Builtin.bitOr o1 l1) (Builtin.bitOr o2 l2)) (Builtin.bitNot low)
    (Builtin.bitAnd low (Builtin.bitNot loose), loose)
  else if d = 42 then
    let low := Builtin.bitOr o1 o2
    let loose := Builtin.bitAnd (Builtin.bitOr l1 l2) (Builtin.bitNot low)
    (Builtin.bitAnd low (Builtin.bitNot loose), loose)
  else
    let low := Builtin.bitXor o1 o2
    let loose := Builtin.bitOr l1 l2
    (Builtin.bitAnd low (Builtin.bitNot loose), loose)
section
variable {d o1 l1 o2 l2 : Int}
theorem joinI_36 (h : d = 36) : joinI d o1 l1 o2 l2 = (Builtin.bitAnd (o1 + o2) (Builtin.bitNot (Builtin.bitOr (Builtin.bitOr l1 l2) (Builtin.bitXor (o1 + o2) (o1 + o2 + (l1 + l2))))), Builtin.bitOr (Builtin.bitOr l1 l2) (Builtin.bitXor (o1 + o2) (o1 + o2 + (l1 + l2)))) := by
  unfold joinI; rw [if_pos h]
theorem joinI_37 (h0 : d ≠ 36) (h : d = 37) : joinI d o1 l1 o2 l2 = (Builtin.bitAnd (o1 - o2) (Builtin.bitNot (Builtin.bitOr (Builtin.bitOr l1 l2) (Builtin.bitXor (o1 - o2 + l1) (o1 - o2 - l2)))), Builtin.bitOr (Builtin.bitOr l1 l2) (Builtin.bitXor (o1 - o2 + l1) (o1 - o2 - l2))) := by
  unfold joinI; rw [if_neg h0, if_pos h]
theorem joinI_41 (h0 : d ≠ 36) (h1 : d ≠ 37) (h : d = 41) : joinI d o1 l1 o2 l2 = (Builtin.bitAnd (Builtin.bitAnd o1 o2) (Builtin.bitNot (Builtin.bitAnd (Builtin.bitAnd (Builtin.bitOr o1 l1) (Builtin.bitOr o2 l2)) (Builtin.bitNot (Builtin.bitAnd o1 o2)))), Builtin.bitAnd (Builtin.bitAnd (Builtin.bitOr o1 l1) (Builtin.bitOr o2 l2)) (Builtin.bitNot (Builtin.bitAnd o1 o2))) := by
  unfold joinI; rw [if_neg h0, if_neg h1, if_pos h]
theorem joinI_42 (h0 : d ≠ 36) (h1 : d ≠ 37) (h2 : d ≠ 41) (h : d = 42) : joinI d o1 l1 o2 l2 = (Builtin.bitAnd (Builtin.bitOr o1 o2) (Builtin.bitNot (Builtin.bitAnd (Builtin.bitOr l1 l2) (Builtin.bitNot (Builtin.bitOr o1 o2)))), Builtin.bitAnd (Builtin.bitOr l1 l2) (Builtin.bitNot (Builtin.bitOr o1 o2))) := by
  unfold joinI; rw [if_neg h0, if_neg h1, if_neg h2, if_pos h]
theorem joinI_e (h0 : d ≠ 36) (h1 : d ≠ 37) (h2 : d ≠ 41) (h : d ≠ 42) : joinI d o1 l1 o2 l2 = (Builtin.bitAnd (Builtin.bitXor o1 o2) (Builtin.bitNot (Builtin.bitOr l1 l2)), Builtin.bitOr l1 l2) := by
  unfold joinI; rw [if_neg h0, if_neg h1, if_neg h2, if_neg h]
end
theorem text_step {o l a b : Int} {x : Str} {k : Nat} (h1 : x = (iterT o l k).1) (h2 : a = (iterT o l k).2.1) (h3 : b = (iterT o l k).2.2) (h4 : x.length = k) (hi : (Txt.item (Str.ofString "01??") (Int.fmod a 2 + 2 * Int.fmod b 2)).length = 1) {pre : List Int} {n : Int} (hp : pre.length = k) :
    Txt.item (Str.ofString "01??") (Int.fmod a 2 + 2 * Int.fmod b 2) ++ x = (iterT o l (pre ++ [n]).length).1 ∧ Int.fdiv a 2 = (iterT o l (pre ++ [n]).length).2.1 ∧ Int.fdiv b 2 = (iterT o l (pre ++ [n]).length).2.2 ∧ (Txt.item (Str.ofString "01??") (Int.fmod a 2 + 2 * Int.fmod b 2) ++ x).length = (pre ++ [n]).length := by
  rw [List.length_append, List.length_singleton, hp, iterT_succ]
  refine ⟨?_, ?_, ?_, ?_⟩
  · simp only [stepT]; rw [← h1, ← h2, ← h3]
  · simp only [stepT]; rw [← h2]
  · simp only [stepT]; rw [← h3]
  · rw [Str.length_append, hi, h4]; omega
theorem text_start (o l : Int) : Str.ofString "" = (iterT o l ([] : List Int).length).1 ∧ o = (iterT o l ([] : List Int).length).2.1 ∧ l = (iterT o l ([] : List Int).length).2.2 ∧ (Str.ofString "").length = ([] : List Int).length := by
  rw [List.length_nil, iterT_zero]; exact ⟨rfl, rfl, rfl, rfl⟩
theorem text_end {o l : Int} {x : Str} (h1 : x = (iterT o l (rangeKs 0 8).length).1) (h4 : x.length = (rangeKs 0 8).length) : x = (iterT o l 8).1 ∧ (iterT o l 8).1.length = 8 := by
  rw [rangeKs_length] at h1 h4; exact ⟨h1, by rw [← h1]; exact h4⟩
end
local macro_rules | `(tactic| walk_at "own room") => `(tactic| ((try dsimp only [ktrTop]); first | ((with_reducible refine' room1 ?h ?e); (case h => with_reducible assumption); (case e => exact rfl)) | ((with_reducible refine' room0 ?h); (case h => with_reducible assumption)) | fail))
local macro_rules | `(tactic| walk_at "own and") => `(tactic| (first | assumption | exact And.left (by assumption) | exact And.left (And.right (by assumption)) | exact And.left (And.right (And.right (by assumption))) | exact And.left (And.right (And.right (And.right (by assumption)))) | exact And.right (by assumption) | exact And.right (And.right (by assumption)) | exact And.right (And.right (And.right (by assumption))) | exact And.right (And.right (And.right (And.right (by assumption)))) | fail))
local macro_rules | `(tactic| ktr_room) => `(tactic| walk_at "own room")
local macro_rules | `(tactic| ktr_units) => `(tactic| walk_at "own room")
local macro_rules | `(tactic| k_ne) => `(tactic| (refine neN ?_; (try dsimp only); with_reducible first | assumption | exact Nat.ne_of_lt (by walk_at "own and") | exact Nat.ne_of_gt (by walk_at "own and") | exact Ne.symm (by assumption) | fail))
local macro_rules | `(tactic| k_all) => `(tactic| first | exact List.forall_mem_nil _ | assumption | exact all_ne (by assumption) (by omega) | exact all_ne (kst_ltOf (by first | assumption | exact And.right (by assumption) | exact And.right (And.right (by assumption)) | exact And.right (And.right (And.right (by assumption))) | exact And.right (And.right (And.right (And.right (by assumption)))))) (by omega) | (refine' fcons ?a ?b; (case a => k_ne); (case b => k_all)))
local macro_rules | `(tactic| k_mem) => `(tactic| first | ktr_member | exact List.mem_cons_self | (refine List.mem_cons_of_mem _ ?_; k_mem))
local macro_rules | `(tactic| k_room) => `(tactic| ktr_room)
local macro_rules | `(tactic| ktr_enter) => `(tactic| first
  | (refine' code_def ?k1 ?k2 ?k3 ?k4 ?k5 ?kA ?kF ?kK ?k6 ?k7 ?k8 ?k9 ?kB ?_ ?c2 ?c3 ?c4 ?c5; (case kA | kF => exact rfl); (case kK => first | exact rfl | assumption); (case k1 | k2 | k3 | k4 | k5 => k_asm); (case k6 | k7 => k_is); (case k8 => ktr_room); (case k9 => first | exact BindsTo.of_eq rfl | exact binds_K (by k_in) rfl (by k_is) rfl rfl rfl | fail "k_enter: no rule for these arguments"); (case c5 => decide); (case kB => exact locs rfl); (case c2 | c3 | c4 => exact rfl); k_whole; intro g' L' h' FG' F' N' B' X' T'; (try dsimp only); (try k_lift B'); (try k_fold))
  | (refine' code_defC ?k1 ?k2 ?k3 ?k4 ?k5 ?kA ?kF ?kK ?k6 ?k7 ?k8 ?k9 ?kB ?kD ?_ ?c2 ?c3 ?c4; (case kA | kF => exact rfl); (case kK => first | exact rfl | assumption); (case k1 | k2 | k3 | k4 | k5 => k_asm); (case k6 | k7 => k_is); (case k8 => ktr_room); (case k9 => first | exact BindsTo.of_eq rfl | exact binds_K (by k_in) rfl (by k_is) rfl rfl rfl | fail "k_enter: no rule for these arguments"); (case kB => exact rfl); (case kD => decide +kernel); (case c2 | c3 | c4 => exact rfl); k_whole; intro g' L' h' tk' cells' FG' F' N' Y' B' X' T' l1; (try k_lt l1); k_cells Y'; (try simp only [List.cons_append, List.nil_append] at N'); (try dsimp only); (try k_lift B'); (try k_fold)))
section
open PySem.Calls
open PySem.Builtin.Re
noncomputable def okC (c : Nat) : Prop := c = 48 ∨ c = 49 ∨ c = 63 ∨ c = 88 ∨ c = 89 ∨ c = 90 ∨ c = 120 ∨ c = 121 ∨ c = 122
noncomputable def okS (x : Str) : Prop := ∀ c ∈ x.cps.toList, okC c
abbrev code106 : Array Nat := #[14, 10, 4, 1, 1, 22, 0, 31, 16, 127, 0, 13, 7, 22, 0, 31, 16, 127, 0, 1]
abbrev code111 : Array Nat := #[14, 14, 4, 1, 1, 9, 4294966783, 0, 0, 2147483648, 0, 0, 0, 0, 0, 13, 11, 9, 4294966783, 0, 0, 2147483648, 0, 0, 0, 0, 0, 1]
theorem inSet106 {c : Nat} (h : okC c) (seen : Sre.Seen) : ∃ q, Sre.inSet code106 c code106.size 5 true seen = .ok (false, q) := by
  rcases h with rfl | rfl | rfl | rfl | rfl | rfl | rfl | rfl | rfl <;> exact ⟨_, rfl⟩
theorem inSet111 {c : Nat} (h : okC c) (seen : Sre.Seen) : ∃ q, Sre.inSet code111 c code111.size 5 true seen = .ok (false, q) := by
  rcases h with rfl | rfl | rfl | rfl | rfl | rfl | rfl | rfl | rfl <;> exact ⟨_, rfl⟩
theorem admitted_none {m : Sre.M} (hl : m.lim ≤ m.text.size) (h : ∀ i, i < m.lim → ∀ seen, ∃ q, Sre.inSet m.code (m.text.getD i 0) m.code.size 5 true seen = .ok (false, q)) :
    ∀ (fuel s : Nat) (seen : Sre.Seen), ∃ q, Sre.M.admitted m fuel s seen = .ok (none, q)
  | 0, _, seen => ⟨seen, rfl⟩
  | fuel + 1, s, seen => by
    unfold Sre.M.admitted
    by_cases hs : s ≥ m.lim
    · rw [if_pos hs]; exact ⟨_, rfl⟩
    · rw [if_neg hs]
      obtain ⟨q, hq⟩ := h s (by omega) seen
      rw [hq]
      exact admitted_none hl h fuel (s + 1) q
theorem attemptFrom_none {m : Sre.M} (hf : m.hasFirstSet = true) (hl : m.lim ≤ m.text.size) (h : ∀ i, i < m.lim → ∀ seen, ∃ q, Sre.inSet m.code (m.text.getD i 0) m.code.size 5 true seen = .ok (false, q)) (s : Nat) (first : Bool) :
    ∃ q, m.attemptFrom s first = { m with seen := q, answer := some false } := by
  unfold Sre.M.attemptFrom
  rw [hf]
  obtain ⟨q, hq⟩ := admitted_none hl h (m.lim + 1 - s) s m.seen
  simp only [Bool.not_true, Bool.false_eq_true, if_false, hq]
  exact ⟨q, rfl⟩
theorem getD_mem {x : Str} (hx : okS x) {i : Nat} (hi : i < x.cps.size) : okC (x.cps.getD i 0) := by
  apply hx
  rw [Array.getD_eq_getD_getElem?, Array.getElem?_eq_getElem hi, Option.getD_some]
  exact Array.mem_toList_iff.mpr (Array.getElem_mem hi)
structure Fails (m : Sre.M) : Prop where
  ans : m.answer = some false
  out : m.outcome = none
  fr : m.frames = []
theorem fails_attempt {m : Sre.M} {s : Nat} {first : Bool} (hf : m.hasFirstSet = true) (hl : m.lim ≤ m.text.size) (h : ∀ i, i < m.lim → ∀ seen, ∃ q, Sre.inSet m.code (m.text.getD i 0) m.code.size 5 true seen = .ok (false, q))
    (ho : m.outcome = none) (hr : m.frames = []) : Fails (m.attemptFrom s first) := by
  obtain ⟨q, e⟩ := attemptFrom_none hf hl h s first
  rw [e]; exact ⟨rfl, ho, hr⟩
theorem search106 {x : Str} (hx : okS x) : Fails (Sre.forSearch code106 x.cps 0 (min (0 : Int).toNat x.cps.size) (min (9223372036854775807 : Int).toNat x.cps.size) false) := by
  have hz : min (0 : Int).toNat x.cps.size = 0 := by simp
  rw [hz]
  unfold Sre.forSearch
  dsimp only
  split
  · exact ⟨rfl, rfl, rfl⟩
  · refine fails_attempt ?_ ?_ ?_ rfl rfl
    · rfl
    · exact Nat.min_le_right _ _
    · exact fun i hi seen => inSet106 (getD_mem hx (Nat.lt_of_lt_of_le hi (Nat.min_le_right _ _))) seen
theorem search111 {x : Str} (hx : okS x) : Fails (Sre.forSearch code111 x.cps 0 (min (0 : Int).toNat x.cps.size) (min (9223372036854775807 : Int).toNat x.cps.size) false) := by
  have hz : min (0 : Int).toNat x.cps.size = 0 := by simp
  rw [hz]
  unfold Sre.forSearch
  dsimp only
  split
  · exact ⟨rfl, rfl, rfl⟩
  · refine fails_attempt ?_ ?_ ?_ rfl rfl
    · rfl
    · exact Nat.min_le_right _ _
    · exact fun i hi seen => inSet111 (getD_mem hx (Nat.lt_of_lt_of_le hi (Nat.min_le_right _ _))) seen
theorem runFor_fails {m : Sre.M} (h : Fails m) : (m.runFor 4).outcome = some .failed := by
  obtain ⟨h1, h2, h3⟩ := h
  have hs : m.step = { m with outcome := some .failed } := by
    unfold Sre.M.step
    rw [h2, h1, h3]; rfl
  simp only [Sre.M.runFor, h2, hs, Option.isSome_none, Option.isSome_some, Bool.false_eq_true, if_false, if_true]

section
variable {M : Model} {A : Around} {E : Value → Shared → Prop} {s : Shared}
theorem drive_fails {m : Sre.M} (h : Fails m) {Q : Sre.M → Shared → Prop} (hq : Q (m.runFor 4) s) : wpAny M A (reDrive (2 ^ 64) m) Q E s := by
  have e : (2 ^ 64 : Nat) = (2 ^ 64 - 1) + 1 := by decide
  rw [e]
  unfold reDrive
  have h2 : (m.runFor reTurnSteps).outcome.isSome = true := by show (m.runFor 4).outcome.isSome = true; rw [runFor_fails h]; rfl
  simp only [h2, if_true]
  exact wpAny_pure hq
theorem seen_loop (c : Nat → Bool) (nm : Nat → String) {Q : PUnit → Shared → Prop} (hq : Q PUnit.unit s) : ∀ l : List Nat, wpAny M A (forIn l PUnit.unit fun i _ => if c i = true then (rule (nm i) >>= fun _ => pure (ForInStep.yield PUnit.unit) : Sem (ForInStep PUnit)) else pure (ForInStep.yield PUnit.unit)) Q E s
  | [] => wpAny_pure hq
  | i :: l => by
    rw [List.forIn_cons]
    refine wpAny_bind ?_
    by_cases h : c i = true
    · rw [if_pos h]
      exact wpAny_bind (wpAny_rule (wpAny_pure (seen_loop c nm hq l)))
    · rw [if_neg h]
      exact wpAny_pure (seen_loop c nm hq l)
theorem end_fails {m : Sre.M} (h : Fails m) {Q : Option Sre.M → Shared → Prop} (hq : Q none s) : wpAny M A (reRunToEnd m) Q E s := by
  unfold reRunToEnd
  refine wpAny_bind (drive_fails h ?_)
  refine wpAny_bind ?_
  have ho := runFor_fails h
  refine seen_loop (fun i => (m.runFor 4).seen.has i) (fun i => Sre.names.getD i "") ?_ _
  rw [ho]
  exact wpAny_pure hq
end
theorem tgt106 (w : World) (x : Str) (tx : Tok) : peek (hd.heap_39 w.params) ⟨PySem.Challenge.rw_we0031_01.row.prog, w.params⟩ (reTarget "re.Pattern.search" "search" ⟨[.ref 107, .str x tx], []⟩) =
    some { pattern := .ref 107, string := .str x tx, code := code106, text := x.cps, kind := 0, groups := 0, pos := min (0 : Int).toNat x.cps.size, lim := min (9223372036854775807 : Int).toNat x.cps.size } := by kernel_rfl
theorem tgt111 (w : World) (x : Str) (tx : Tok) : peek (hd.heap_39 w.params) ⟨PySem.Challenge.rw_we0031_01.row.prog, w.params⟩ (reTarget "re.Pattern.search" "search" ⟨[.ref 112, .str x tx], []⟩) =
    some { pattern := .ref 112, string := .str x tx, code := code111, text := x.cps, kind := 0, groups := 0, pos := min (0 : Int).toNat x.cps.size, lim := min (9223372036854775807 : Int).toNat x.cps.size } := by kernel_rfl
theorem slot_re_search : Slot "re.Pattern" "search" "re.Pattern.search" :=
  .of (owner := "re.Pattern") (n := "search") (by rw [typeLookup_type, builtinLookup_eq_fast]; kernel_rfl) (by decide +kernel) (by decide +kernel) (by decide +kernel)
    (by first | exact .inl (by decide +kernel) | exact .inr (by decide +kernel)) (by rw [isSubtype_type]; kernel_rfl)
theorem entry_re_search : entryFor table "re.Pattern.search" = some Builtin.«re.Pattern.search» := entryFor_of_tree (by kernel_rfl)
theorem args_re_search (a b : Value) : argsOk "re.Pattern.search" ⟨[a, b], []⟩ := by
  unfold argsOk; kernel_rfl

theorem gm107 (w : World) (pl : Sem Bool) : peek (hd.heap_39 w.params) ⟨PySem.Challenge.rw_we0031_01.row.prog, w.params⟩ (getMethod (.ref 107) (Str.ofString "search") pl) = some (.builtin "re.Pattern.search", [.ref 107]) := by kernel_rfl
theorem gm112 (w : World) (pl : Sem Bool) : peek (hd.heap_39 w.params) ⟨PySem.Challenge.rw_we0031_01.row.prog, w.params⟩ (getMethod (.ref 112) (Str.ofString "search") pl) = some (.builtin "re.Pattern.search", [.ref 112]) := by kernel_rfl
section
variable {w : World} {A : Around} {E : Value → Shared → Prop} {s : Shared} {h₀ : Heap} {L : Addr} {m : Str → Option Value} {x : Str} {tx : Tok}
theorem meth107 {pl : Sem Bool} {Q : Value × List Value → Shared → Prop} (F : Fr h₀ L s.heap m) (X : (hd.heap_39 w.params).In h₀) (h : Q (.builtin "re.Pattern.search", [.ref 107]) s) :
    wpAny (model PySem.Challenge.rw_we0031_01.row.prog w) A (getMethod (.ref 107) (Str.ofString "search") pl) Q E s := Looks.here (Looks.of_peek (X.keeps F.keep) (gm107 w pl)) h
theorem meth112 {pl : Sem Bool} {Q : Value × List Value → Shared → Prop} (F : Fr h₀ L s.heap m) (X : (hd.heap_39 w.params).In h₀) (h : Q (.builtin "re.Pattern.search", [.ref 112]) s) :
    wpAny (model PySem.Challenge.rw_we0031_01.row.prog w) A (getMethod (.ref 112) (Str.ofString "search") pl) Q E s := Looks.here (Looks.of_peek (X.keeps F.keep) (gm112 w pl)) h
theorem re_type {a : Nat} {vs : Array Value} (X : (hd.heap_39 w.params).In s.heap) (h : (hd.heap_39 w.params).lookup a = some { cls := .type "re.Pattern", data := .fields vs }) : s.TypeIs (.ref a) "re.Pattern" := ⟨_, X _ _ h, rfl⟩
theorem search_106 {Q : Value → Shared → Prop} (F : Fr h₀ L s.heap m) (X : (hd.heap_39 w.params).In h₀) (hx : okS x) (h : Q .none s) :
    wpAny (model PySem.Challenge.rw_we0031_01.row.prog w) A (call (.builtin "re.Pattern.search") [.ref 107, .str x tx]) Q E s := by
  refine wpAny_call_entry slot_re_search (re_type (X.keeps F.keep) rfl) entry_re_search ?_ (args_re_search _ _)
  unfold Builtin.«re.Pattern.search»
  refine wpAny_bind (Looks.here (Looks.of_peek (X.keeps F.keep) (tgt106 w x tx)) ?_)
  unfold reAnswer
  exact wpAny_bind (end_fails (search106 hx) (wpAny_pure ⟨_, rfl, h⟩))
theorem search_111 {Q : Value → Shared → Prop} (F : Fr h₀ L s.heap m) (X : (hd.heap_39 w.params).In h₀) (hx : okS x) (h : Q .none s) :
    wpAny (model PySem.Challenge.rw_we0031_01.row.prog w) A (call (.builtin "re.Pattern.search") [.ref 112, .str x tx]) Q E s := by
  refine wpAny_call_entry slot_re_search (re_type (X.keeps F.keep) rfl) entry_re_search ?_ (args_re_search _ _)
  unfold Builtin.«re.Pattern.search»
  refine wpAny_bind (Looks.here (Looks.of_peek (X.keeps F.keep) (tgt111 w x tx)) ?_)
  unfold reAnswer
  exact wpAny_bind (end_fails (search111 hx) (wpAny_pure ⟨_, rfl, h⟩))
end
end
section
local macro_rules | `(tactic| k_room) => `(tactic| ktr_room)
local macro_rules | `(tactic| walk_at "getMethod ref") => `(tactic| (k_here; k_dflt (first | (refine' meth107 ?k1 ?k2 ?_; (case k1 => k_asm); (case k2 => k_asm); k_whole) | (refine' meth112 ?k1 ?k2 ?_; (case k1 => k_asm); (case k2 => k_asm); k_whole))))
theorem conv_code {w : World} {mean : ExcName → Option Value} {mg mb : Str → Option Value} {dp un : Nat} {gd : Option (List Code)} {cn : Str} {cs : Scope} {a : Addr} {ccd : Value} {cl : List (Str × Addr)} {outer : List Env} {A₀ : Around} {base h₀ : Heap} {L : Addr} {m : Str → Option Value} {news : List (Addr × Obj)} {s : Shared} {Q E : Value → Shared → Prop}
    (B : Below A₀ base outer h₀) (F : Fr h₀ L s.heap m) (X : (hd.heap_39 w.params).In h₀) (N : News h₀ L s.heap news) (T : Top hd.view_39 (looseW hd.view_39 [Str.ofString "EXACT_TOKEN_TYPES", Str.ofString "tspecials", Str.ofString "_name_disallowed_re", Str.ofString "_value_disallowed_re", Str.ofString "_formatparam"]) mean mg mb h₀) (hk : cs.kind = .function) {R : Result → Shared → Prop} (hd : dp + 4 < recursionLimit) (hu : un + 32 < cLine)
    {tb : Value} {v : Str} {tv : Tok} {b : Bool} (hv : okS v)
    (ret : ∀ h' tk', Fr h₀ L h' m → News h₀ L h' news → R (.ok (.ret (.str v tv))) { s with heap := h', toks := tk' }) :
    codeAny (model PySem.Challenge.rw_we0031_01.row.prog w) (ktrTop dp un gd cn cs L a ccd cl outer) (.call (.ref 142) ⟨[tb, .str v tv], [(Str.ofString "name", .bool b)]⟩) R s := by
  w_top off
  k_with_none
  refine fill_here (fun hfill => ?_)
  revert hfill
  k_fill
  intro _
  k_with "call builtin:re.Pattern.search" => ((k_here; k_dflt (first | (refine' search_106 ?k1 ?k2 ?k3 ?_; (case k1 | k2 => k_asm); (case k3 => assumption); k_whole) | (refine' search_111 ?k1 ?k2 ?k3 ?_; (case k1 | k2 => k_asm); (case k3 => assumption); k_whole))))
  have hk' : (envX cn cs L a ccd cl).scope.kind = .function := hk
  (refine' code_def ?k1 ?k2 ?k3 ?k4 ?k5 ?kA ?kF ?kK ?k6 ?k7 ?k8 ?k9 ?kB ?_ ?c2 ?c3 ?c4 ?c5; (case kA => exact rfl); (case kF => exact rfl); (case kK => assumption); (case k1 => k_asm); (case k2 => k_asm); (case k3 => k_asm); (case k4 => k_asm); (case k5 => k_asm); (case k6 => k_is); (case k7 => k_is); (case k8 => ktr_room); (case k9 => first | exact BindsTo.of_eq rfl | exact binds_K (by k_in) rfl (by k_is) rfl rfl rfl | fail "k_enter: no rule for these arguments"); (case c5 => decide); (case kB => exact locs rfl); (case c2 => exact rfl); (case c3 => exact rfl); (case c4 => exact rfl); k_whole; intro g' L' h' FG' F' N' B' X' T'; (try dsimp only); (try k_fold))
  k_steps
  all_goals exact ret _ _ (by k_asm) (by k_asm)
theorem conv_call {w : World} {mean : ExcName → Option Value} {mg mb : Str → Option Value} {dp un : Nat} {gd : Option (List Code)} {cn : Str} {cs : Scope} {a : Addr} {ccd : Value} {cl : List (Str × Addr)} {outer : List Env} {A₀ : Around} {base h₀ : Heap} {L : Addr} {m : Str → Option Value} {news : List (Addr × Obj)} {s : Shared} {Q E : Value → Shared → Prop}
    (B : Below A₀ base outer h₀) (F : Fr h₀ L s.heap m) (X : (hd.heap_39 w.params).In h₀) (N : News h₀ L s.heap news) (T : Top hd.view_39 (looseW hd.view_39 [Str.ofString "EXACT_TOKEN_TYPES", Str.ofString "tspecials", Str.ofString "_name_disallowed_re", Str.ofString "_value_disallowed_re", Str.ofString "_formatparam"]) mean mg mb h₀) (hk : cs.kind = .function) (hd : dp + 4 < recursionLimit) (hu : un + 32 < cLine)
    {tb : Value} {v : Str} {tv : Tok} {b : Bool} (hv : okS v)
    (ret : ∀ h' tk', Fr h₀ L h' m → News h₀ L h' news → Q (.str v tv) { s with heap := h', toks := tk' }) :
    wpAny (model PySem.Challenge.rw_we0031_01.row.prog w) (ktrTop dp un gd cn cs L a ccd cl outer) (call (.ref 142) [tb, .str v tv] [(Str.ofString "name", .bool b)]) Q E s :=
  wpAny_call (conv_code (Q := Q) (E := E) B F X N T hk hd hu hv (fun h' tk' F' N' => ret h' tk' F' N'))
end
section
open PyProof.V PySem.Spec PySem.Calls
theorem grown_past {h h' : Heap} {o : Obj} (hk : ∀ b x, b ∉ [h.objs.size] → (h.push o).get? b = some x → h'.get? b = some x) : ∀ b x, h.get? b = some x → h'.get? b = some x :=
  fun b x e => hk b x (fun hm => absurd (Heap.lt_size e) (by rw [List.mem_singleton.mp hm]; exact Nat.lt_irrefl _)) (Heap.get?_push_of_some _ e)
section
variable {prog : Program} {w : World} {A : Around} {E : Value → Shared → Prop} {s : Shared} {h₀ : Heap} {L : Addr} {m : Str → Option Value} {news : List (Addr × Obj)} {env : Env}
/-- a list comprehension over a list, its tests and its element told value by value -/
theorem comp_list {elt iter : PySem.Expr} {x : Str} {px : Pos} {ifs : List PySem.Expr} {scope : Scope} {cl : List (Str × Addr)} {pos : Pos} {Q : Value → Shared → Prop} (pz : Value → Bool) (G : Value → Value → Prop) (_F : Fr h₀ L s.heap m)
    (hh : A.handled = none) (hclos : closureFor scope env = pure cl) (hcell : ∀ y ∈ scope.names, y.2 ≠ .cell) (hkind : scope.kind = .function)
    (hnames : ∀ y ∈ scope.names, y.2 = .local → scope.names.lookup y.1 = some .local) (hx : scope.names.lookup x = some .local)
    (h : wpAny (model prog w) A (eval iter env) (fun xv s₁ => ∃ (news : List (Addr × Obj)) (ax : Addr) (vs : List Value), xv = .ref ax ∧ s₁.heap.IsList ax vs.toArray ∧ vs.length ≤ sizeLine ∧ Fr h₀ L s₁.heap m ∧ News h₀ L s₁.heap news ∧
      (∀ C v s₂ m₂ E', v ∈ vs → s₂.heap.Ns (compEnvC scope cl C env).locals m₂ → m₂ x = some v → (∀ b o, s₁.heap.get? b = some o → s₂.heap.get? b = some o) →
        wpAny (model prog w) A (forIn ifs true fun c r => if r = true then do let ok ← isTrue c (compEnvC scope cl C env) (eval c (compEnvC scope cl C env)); pure (ForInStep.yield ok) else pure (ForInStep.yield r))
          (fun ok s₃ => ok = pz v ∧ Keeps s₂ s₃) E' s₂) ∧
      (∀ C v s₂ m₂ E', v ∈ vs → pz v = true → s₂.heap.Ns (compEnvC scope cl C env).locals m₂ → m₂ x = some v → (∀ b o, s₁.heap.get? b = some o → s₂.heap.get? b = some o) →
        wpAny (model prog w) A (eval elt (compEnvC scope cl C env)) (fun y s₃ => G v y ∧ Keeps s₂ s₃) E' s₂) ∧
      (∀ D ys c h' tk, Fr h₀ L h' m → News h₀ L h' ((D, W.listOf (List.toArray ys) c) :: news) → (∀ p ∈ news, p.1 ≠ D) → Paired G (vs.filter pz) ys → Q (.ref D) { s₁ with heap := h', toks := tk })) E s)
    (hs : ∀ x, foldedSetIterable iter env x = pure x) :
    wpAny (model prog w) A (eval (.ListComp elt [⟨.Name x px, iter, ifs, 0⟩] scope pos) env) Q E s := by
  refine wpAny_ListComp_free pz G hclos hcell hkind hnames hx (wpAny_mono h (fun xv s₁ h₁ => ?_) fun _ _ e => e) hs
  obtain ⟨news, ax, vs, rfl, hl, hsz, F, N, htest, helt, hQ⟩ := h₁
  obtain ⟨ol, hol, _⟩ := id hl
  have hlt : ax < s₁.heap.objs.size := Heap.lt_size hol
  refine wpAny_pyIter_list hl ⟨s₁.heap.objs.size, [s₁.heap.objs.size, ax], [s₁.heap.objs.size], vs.toArray.size, _, _, rfl, Walks.list hh _ _ (Nat.ne_of_lt hlt) vs.toArray, by rw [List.size_toArray]; exact hsz, ⟨⟨_, Heap.get?_push_size _ rfl, rfl, rfl⟩, hl.push _⟩, ?_, ⟨?_, ?_⟩, ?_⟩
  · intro b hb
    show b < (s₁.heap.push _).objs.size
    rw [Heap.size_push]
    simp only [List.mem_cons, List.not_mem_nil, or_false] at hb
    rcases hb with rfl | rfl
    · exact Nat.lt_succ_self _
    · exact Nat.lt_succ_of_lt hlt
  · intro C i v s₃ m₃ E' _ hP hn hm hk _
    exact htest C v s₃ m₃ E' (by simpa using Array.mem_of_getElem? hP) hn hm (grown_past hk)
  · intro C i v s₃ m₃ E' _ hP hp hn hm hk _
    exact helt C v s₃ m₃ E' (by simpa using Array.mem_of_getElem? hP) hp hn hm (grown_past hk)
  · intro D h' tk ys vs' hnew hlD hplD hlen hP hF hk
    have e : vs' = vs := by simpa using list_of_places hlen hP
    subst e
    have keep := grown_past (h' := h') hk
    obtain ⟨c, hc⟩ := hplD
    have ne : ∀ p ∈ news, p.1 ≠ D := fun p hp e => by
      rw [← e, Heap.get?_push_of_some _ (N p hp).1] at hnew; cases hnew
    have F' := F.keeps keep
    refine hQ D ys.toList c h' tk F' (fun p hp => ?_) ne hF
    rcases List.mem_cons.mp hp with rfl | hp
    · refine ⟨by simpa using hc, fun e => ?_, ?_⟩
      · obtain ⟨oL, _, _, hL, _⟩ := F.ns
        have e' : D = L := e
        rw [e', Heap.get?_push_of_some _ hL] at hnew; cases hnew
      · cases q : h₀.get? D with
        | none => rfl
        | some o' => rw [Heap.get?_push_of_some _ (F.keep _ _ q)] at hnew; cases hnew
    · exact N.grown keep p hp
end
/-- the end of a turn -/
noncomputable def EndJ (h₀ : Heap) (L : Addr) (J : (Str → Option Value) → List (Addr × Obj) → Prop) (I : Addr) (oI : Obj) (s₁ s₂ : Shared) : Prop :=
  ∃ h' tk m' nx, s₂ = { s₁ with heap := h', toks := tk } ∧ Fr h₀ L h' m' ∧ News h₀ L h' ((I, oI) :: nx) ∧ (∀ p ∈ nx, p.1 ≠ I) ∧ J m' nx
noncomputable def PostJ (h₀ : Heap) (L : Addr) (J : (Str → Option Value) → List (Addr × Obj) → Prop) (I : Addr) (oI : Obj) (s₁ : Shared) (Q : Flow → Shared → Prop) (f : Flow) (s₂ : Shared) : Prop :=
  match f with
  | .ret v => Q (.ret v) s₂
  | .brk => Q .next s₂
  | _ => EndJ h₀ L J I oI s₁ s₂
section
variable {prog : Program} {w : World} {A : Around} {E : Value → Shared → Prop} {s : Shared} {env : Env} {h₀ : Heap} {x : Str} {body : List Stmt} {Q : Flow → Shared → Prop}
/-- a loop over a list that the ledger bears; the ledger may grow from turn to turn -/
theorem for_list {l : Addr} {vs : List Value} {nn : Nat} {m₀ : Str → Option Value} {news : List (Addr × Obj)} (J : Nat → (Str → Option Value) → List (Addr × Obj) → Prop)
    (hh : A.handled = none) (F : Fr h₀ env.locals s.heap m₀) (N : News h₀ env.locals s.heap news) (hj : J 0 m₀ news) (hJ : ∀ i m nx, J i m nx → (l, W.listOf vs.toArray nn) ∈ nx)
    (turn : ∀ i v m₁ nx h tk I oI, vs[i]? = some v → J i m₁ nx → Fr h₀ env.locals h (fun y => if y = x then some v else m₁ y) → News h₀ env.locals h ((I, oI) :: nx) → (∀ p ∈ nx, p.1 ≠ I) →
      wpAny (model prog w) A (execs body env) (PostJ h₀ env.locals (J (i + 1)) I oI { s with heap := h, toks := tk } Q) E { s with heap := h, toks := tk })
    (done : ∀ m₁ nx h tk, J vs.length m₁ nx → Fr h₀ env.locals h m₁ → News h₀ env.locals h nx → Q .next { s with heap := h, toks := tk }) :
    wpAny (model prog w) A (pyIter (.ref l)) (fun it s₂ => LoopAtV prog w A h₀ env x body Q E it s₂) E s := by
  have hol := (N _ (hJ _ _ _ hj)).1
  have hls : s.heap.IsList l vs.toArray := ⟨_, hol, rfl, nn, rfl⟩
  have hlt : l < s.heap.objs.size := Heap.lt_size hol
  have hn0 : h₀.get? l = none := (N _ (hJ _ _ _ hj)).2.2
  have hI0 : h₀.get? s.heap.objs.size = none := next_is_new F
  refine wpAny_pyIter_list hls ?_
  refine ⟨s.heap.objs.size, [s.heap.objs.size, l], [s.heap.objs.size], vs.toArray.size, _, _, m₀, news, J, rfl, Walks.list hh _ _ (Nat.ne_of_lt hlt) vs.toArray, ?_, ?_, ?_, ⟨⟨_, Heap.get?_push_size _ rfl, rfl, rfl⟩, hls.push _⟩, F.push _, (fun p hp => ⟨Heap.get?_push_of_some _ (N p hp).1, (N p hp).2⟩), hj, ?_, ?_⟩
  · intro hm
    simp only [List.mem_cons, List.not_mem_nil, or_false] at hm
    rcases hm with e | e
    · exact Nat.lt_irrefl _ (e ▸ F.ns.lt)
    · exact (N _ (hJ _ _ _ hj)).2.1 e.symm
  · intro b hb
    rw [List.mem_singleton.mp hb]; exact hI0
  · intro p hp hI
    exact absurd (Heap.lt_size (N p hp).1) (by rw [List.mem_singleton.mp hI]; exact Nat.lt_irrefl _)
  · rintro i v m₁ nx s₁ own ⟨hh', tk', rfl⟩ _ hP hj₁ hoff hown hget hall st F₁ N₁
    obtain ⟨oI, hoI⟩ : ∃ o, hh'.get? s.heap.objs.size = some o := let ⟨o, e, _⟩ := st.1; ⟨o, e⟩
    have mI : (s.heap.objs.size, oI) ∈ own := hall _ (by simp) hI0 _ hoI
    have N₂ : News h₀ env.locals hh' ((s.heap.objs.size, oI) :: nx) := fun p hp => by
      rcases List.mem_cons.mp hp with rfl | hp
      · exact N₁ _ (List.mem_append_left _ mI)
      · exact N₁ p (List.mem_append_right _ hp)
    have hne : ∀ p ∈ nx, p.1 ≠ s.heap.objs.size := fun p hp e => hoff p hp (by rw [e]; exact List.mem_singleton.mpr rfl)
    refine wpAny_mono (turn i v m₁ nx hh' tk' _ oI (by simpa using hP) hj₁ F₁ N₂ hne) (fun f s₂ p => ?_) fun _ _ e => e
    have fin : EndJ h₀ env.locals (J (i + 1)) s.heap.objs.size oI { s with heap := hh', toks := tk' } s₂ → LoopStepU h₀ env.locals [s.heap.objs.size] own (J (i + 1)) { s with heap := hh', toks := tk' } .next s₂ := by
      rintro ⟨h', tk, m', nx', e, F', N', hne', hj'⟩
      refine ⟨rfl, h', tk, m', nx', e, F', fun p hp => ?_, fun p hp hI => hne' p hp (List.mem_singleton.mp hI), hj'⟩
      rcases List.mem_append.mp hp with hp | hp
      · have h1 := hoff
        have h2 := hown p hp
        have h3 := hget p hp
        simp only [List.mem_cons, List.not_mem_nil, or_false] at h2
        rcases h2 with e1 | e1
        · have e2 : p.2 = oI := by
            have h4 : hh'.get? p.1 = some p.2 := h3
            rw [e1, hoI] at h4; exact (Option.some.inj h4).symm
          have e3 : p = (s.heap.objs.size, oI) := Prod.ext e1 e2
          rw [e3]; exact N' _ List.mem_cons_self
        · have h5 : (l, W.listOf vs.toArray nn) ∈ nx := hJ _ _ _ hj₁
          have h6 := (N₁ _ (List.mem_append_right _ h5)).1
          have h4 : hh'.get? p.1 = some p.2 := h3
          rw [e1] at h4
          have h7 : hh'.get? l = some (W.listOf vs.toArray nn) := h6
          rw [h7] at h4
          have e3 : p = (l, W.listOf vs.toArray nn) := Prod.ext e1 (Option.some.inj h4).symm
          rw [e3]; exact N' _ (List.mem_cons_of_mem _ (hJ _ _ _ hj'))
      · exact N' p (List.mem_cons_of_mem _ hp)
    cases f with
    | ret v => exact .ret p
    | brk => exact .brk p
    | next => exact .next (fin p)
    | cont => exact .cont (fin p)
  · rintro h' tk m' news' F' N' _ hj'
    have e : vs.toArray.size = vs.length := List.size_toArray ..
    rw [e] at hj'
    exact done m' news' h' tk hj' F' N'

noncomputable def ixs (i : Nat) : List Int := (List.range i).map Int.ofNat
theorem ixs_length (i : Nat) : (ixs i).length = i := by simp [ixs]
theorem ixs_succ (i : Nat) : ixs (i + 1) = ixs i ++ [(i : Int)] := by simp [ixs, List.range_succ]
/-- a loop over a list of any values that the ledger bears, its state told as the library's own loops tell it -/
theorem kst_vals {σ : Type} {l : Addr} {vs : List Value} {nn : Nat} {m₀ : Str → Option Value} (Led : σ → List (Addr × Obj)) (ps : σ → List (Str × Value)) (Facts : σ → Prop) (stored : List Str) (P : Nat → σ → Prop) (c₀ : σ)
    (hh : A.handled = none) (hl : ∀ c : σ, (l, W.listOf vs.toArray nn) ∈ Led c) (F : Fr h₀ env.locals s.heap m₀) (N : News h₀ env.locals s.heap (Led c₀)) (hf : Facts c₀) (hk : ∀ p ∈ ps c₀, m₀ p.1 = some p.2) (hp : P 0 c₀)
    (turn : ∀ (c : σ) i v (u : Str → Option Value) h tk I oI, vs[i]? = some v → OwnOff [(I, oI)] ((Led c₀).map (·.1)) → Facts c → P i c →
      Fr h₀ env.locals h (fun y => if y = x then some v else kstB (fun z => if stored.contains z then u z else m₀ z) (ps c) y) → News h₀ env.locals h (Led c ++ [(I, oI)]) →
      wpAny (model prog w) A (execs body env) (InvPostN h₀ env.locals (KstS Led ps Facts x stored m₀ (fun pre c => P pre.length c) (ixs i ++ [(i : Int)])) [(I, oI)] ((Led c₀).map (·.1)) { s with heap := h, toks := tk } Q) E { s with heap := h, toks := tk })
    (done : ∀ (c : σ) (u : Str → Option Value) h tk, Facts c → P vs.length c → Fr h₀ env.locals h (fun y => if y = x then u y else kstB (fun z => if stored.contains z then u z else m₀ z) (ps c) y) → News h₀ env.locals h (Led c) → Q .next { s with heap := h, toks := tk }) :
    wpAny (model prog w) A (pyIter (.ref l)) (fun it s₂ => LoopAtV prog w A h₀ env x body Q E it s₂) E s := by
  refine for_list (vs := vs) (nn := nn) (fun i m nx => nx.map (·.1) = (Led c₀).map (·.1) ∧ KstS Led ps Facts x stored m₀ (fun pre c => P pre.length c) (ixs i) m nx) hh F N ⟨rfl, c₀, rfl, hf, hk, fun _ _ _ _ => rfl, by simpa [ixs] using hp⟩ ?_ ?_ ?_
  · rintro i m nx ⟨_, c, rfl, _⟩
    exact hl c
  · rintro i v m₁ nx h tk I oI hv ⟨hadr, c, rfl, hf', h1, h2, hp'⟩ F₁ N₁ hne
    have hp'' : P i c := by simpa [ixs_length] using hp'
    have hoff : OwnOff [(I, oI)] ((Led c₀).map (·.1)) := by
      intro p hp b hb e
      rw [List.mem_singleton.mp hp] at e
      rw [← hadr] at hb
      obtain ⟨q, hq, rfl⟩ := List.mem_map.mp hb
      exact hne q hq e.symm
    refine wpAny_mono (turn c i v m₁ h tk I oI hv hoff hf' hp'' (kst_fr h1 h2 F₁) (fun p hp => N₁ p (by rcases List.mem_append.mp hp with hp | hp; exact List.mem_cons_of_mem _ hp; rw [List.mem_singleton.mp hp]; exact List.mem_cons_self))) (fun f s₂ p => ?_) fun _ _ e => e
    have up : InvEndN h₀ env.locals (KstS Led ps Facts x stored m₀ (fun pre c => P pre.length c) (ixs i ++ [(i : Int)])) [(I, oI)] ((Led c₀).map (·.1)) { s with heap := h, toks := tk } s₂ →
        EndJ h₀ env.locals (fun m nx => nx.map (·.1) = (Led c₀).map (·.1) ∧ KstS Led ps Facts x stored m₀ (fun pre c => P pre.length c) (ixs (i + 1)) m nx) I oI { s with heap := h, toks := tk } s₂ := by
      rintro ⟨h', tk', m', news', nx', e, F', N', hn', ho', ha, hS⟩
      refine ⟨h', tk', m', nx', e, F', fun p hp => ?_, fun p hp e => ?_, ha, by rw [ixs_succ]; exact hS⟩
      · rcases List.mem_cons.mp hp with rfl | hp
        · exact N' _ (ho' _ (List.mem_singleton.mpr rfl))
        · exact N' p (hn' p hp)
      · exact hoff _ (List.mem_singleton.mpr rfl) p.1 (by rw [← ha]; exact List.mem_map_of_mem hp) e.symm
    cases f with
    | ret v => exact p
    | brk => exact p
    | next => exact up p
    | cont => exact up p
  · rintro m₁ nx h tk ⟨_, c, rfl, hf', h1, h2, hp'⟩ F₁ N₁
    have hp'' : P vs.length c := by simpa [ixs_length] using hp'
    exact done c m₁ h tk hf' hp'' (kst_frOut h1 h2 F₁) N₁
end
end
section
noncomputable def isL (c : Nat) : Prop := c = 88 ∨ c = 89 ∨ c = 90 ∨ c = 120 ∨ c = 121 ∨ c = 122
theorem isL_lo {c : Nat} (h : isL c) : isL (lo1 c) := by
  rcases h with rfl | rfl | rfl | rfl | rfl | rfl <;> (unfold isL; decide)
theorem isL_lt {c : Nat} (h : isL c) : c < 128 := by
  rcases h with rfl | rfl | rfl | rfl | rfl | rfl <;> decide
theorem okS_nm {c : Nat} (h : isL c) : okS ⟨#[c]⟩ := by
  intro d hd
  have e : d = c := by simpa using hd
  subst e
  rcases h with rfl | rfl | rfl | rfl | rfl | rfl <;> simp [okC]
theorem lower_one {c : Nat} (h : isL c) : Txt.lower ⟨#[c]⟩ = ⟨#[lo1 c]⟩ := by
  rw [lower_ascii (fun d hd => by have e : d = c := by simpa using hd
                                  subst e; exact isL_lt h)]
  simp
theorem lower_nm {prog : Program} {w : World} {A : Around} {E : Value → Shared → Prop} {s : Shared} {c : Nat} {t : Tok} {Q : Value → Shared → Prop} (h : isL c) (hq : ∀ t, Q (.str ⟨#[lo1 c]⟩ t) { s with toks := s.toks + 1 }) :
    wpAny (model prog w) A (call (.builtin "str.lower") [.str ⟨#[c]⟩ t]) Q E s := by
  refine SCL.lower (by show (1 : Nat) ≤ _; decide) (fun _ => ?_)
  rw [lower_one h]
  exact hq _
noncomputable def IsRow (nx : List (Addr × Obj)) (v : Value) (r : Nat × Str) : Prop := ∃ a t1 t2, v = .ref a ∧ (a, tup [.str ⟨#[r.1]⟩ t1, .str r.2 t2]) ∈ nx
abbrev Rows (nx : List (Addr × Obj)) (vs : List Value) (ps : List (Nat × Str)) : Prop := Paired (IsRow nx) vs ps
theorem isRow_one {h₀ h : Heap} {L : Addr} {nx : List (Addr × Obj)} (N : News h₀ L h nx) {v : Value} {r r' : Nat × Str} (h1 : IsRow nx v r) (h2 : IsRow nx v r') : r = r' := by
  obtain ⟨a, t1, t2, rfl, m1⟩ := h1
  obtain ⟨a', t1', t2', e, m2⟩ := h2
  cases e
  have e1 := (N _ m1).1
  rw [(N _ m2).1] at e1
  have e2 := Obj.mk.inj (Option.some.inj e1)
  have e3 := (Data.seq.inj e2.2.2.1).1
  have e4 : [Value.str ⟨#[r'.1]⟩ t1', .str r'.2 t2'] = [Value.str ⟨#[r.1]⟩ t1, .str r.2 t2] := by simpa using e3
  simp only [List.cons.injEq, Value.str.injEq, Str.mk.injEq, and_true] at e4
  obtain ⟨⟨a1, _⟩, ⟨a2, _⟩⟩ := e4
  have a3 : r'.1 = r.1 := by simpa using a1
  exact Prod.ext a3.symm a2.symm
theorem rows_info {h₀ h : Heap} {L : Addr} {nx : List (Addr × Obj)} (N : News h₀ L h nx) {vs : List Value} {ps : List (Nat × Str)} (R : Rows nx vs ps) : ∃ info : Value → Nat × Str, ps = vs.map info ∧ ∀ v ∈ vs, IsRow nx v (info v) := by
  classical
  refine ⟨fun v => if q : ∃ r, IsRow nx v r then Classical.choose q else default, ?_, ?_⟩
  · induction R with
    | nil => rfl
    | cons hr _ ih =>
      rw [List.map_cons, ← ih]
      congr 1
      rw [dif_pos ⟨_, hr⟩]
      exact isRow_one N hr (Classical.choose_spec ⟨_, hr⟩)
  · intro v hv
    have q : ∃ r, IsRow nx v r := by
      clear N
      induction R with
      | nil => cases hv
      | cons hr _ ih =>
        rcases List.mem_cons.mp hv with rfl | hv
        · exact ⟨_, hr⟩
        · exact ih hv
    simp only [dif_pos q]
    exact Classical.choose_spec q
theorem strs_of_paired {info : Value → Nat × Str} {vs ys : List Value} (h : Paired (fun v y => ∃ t, y = Value.str (info v).2 t) vs ys) : StrsAre ys ((vs.map info).map (·.2)) := by
  induction h with
  | nil => exact .nil
  | cons e _ ih => obtain ⟨_, e⟩ := e; subst e; exact .cons _ _ ih
noncomputable def knownF (xs : List Str) : Int × Int := xs.foldl (fun a x => (Builtin.bitOr a.1 (onesF (KStt.codes x)), Builtin.bitAnd a.2 (looseF (KStt.codes x)))) (0, 255)
theorem known_take {xs : List Str} {i : Nat} {x : Str} (h : xs[i]? = some x) : knownF (xs.take (i + 1)) = (Builtin.bitOr (knownF (xs.take i)).1 (onesF (KStt.codes x)), Builtin.bitAnd (knownF (xs.take i)).2 (looseF (KStt.codes x))) := by
  unfold knownF
  rw [List.take_add_one, h]
  simp
theorem strs_get {vs : List Value} {xs : List Str} (h : StrsAre vs xs) : ∀ {i : Nat} {v : Value}, vs[i]? = some v → ∃ x t, xs[i]? = some x ∧ v = .str x t := by
  induction h with
  | nil => intro i v e; simp at e
  | cons y t r ih =>
    intro i v e
    cases i with
    | zero => exact ⟨y, t, by simp, by simpa using e.symm⟩
    | succ i =>
      have := ih (i := i) (v := v) (by simpa using e)
      simpa using this
theorem strs_len {vs : List Value} {xs : List Str} (h : StrsAre vs xs) : vs.length = xs.length := by
  induction h with
  | nil => rfl
  | cons _ _ _ ih => rw [List.length_cons, List.length_cons, ih]
theorem known_step {xs : List Str} {i : Nat} {x : Str} {o l : Int} (hx : xs[i]? = some x) (hP : o = (knownF (xs.take i)).1 ∧ l = (knownF (xs.take i)).2) :
    Builtin.bitOr o (onesF (KStt.codes x)) = (knownF (xs.take (ixs i ++ [(i : Int)]).length)).1 ∧ Builtin.bitAnd l (looseF (KStt.codes x)) = (knownF (xs.take (ixs i ++ [(i : Int)]).length)).2 := by
  have e : (ixs i ++ [(i : Int)]).length = i + 1 := by rw [List.length_append, ixs_length]; rfl
  rw [e, known_take hx]
  obtain ⟨rfl, rfl⟩ := hP
  exact ⟨rfl, rfl⟩
theorem one_bne (n k : Nat) : (({ cps := #[n] } : Str) != { cps := #[k] }) = decide (n ≠ k) := by
  unfold bne; rw [one_beq]; simp
theorem eq_of_paired {vs ys : List Value} (h : Paired (fun v y => y = v) vs ys) : ys = vs := by
  induction h with
  | nil => rfl
  | cons e _ ih => rw [e, ih]
theorem rows_filter {nx : List (Addr × Obj)} {info : Value → Nat × Str} (q : Nat × Str → Bool) : ∀ {vs : List Value}, (∀ v ∈ vs, IsRow nx v (info v)) → Rows nx (vs.filter fun v => q (info v)) ((vs.map info).filter q)
  | [], _ => .nil
  | v :: vs, h => by
    have ih := rows_filter q (vs := vs) fun u hu => h u (List.mem_cons_of_mem _ hu)
    simp only [List.map_cons, List.filter_cons]
    cases e : q (info v) with
    | true => simp only [if_true]; exact .cons (h v List.mem_cons_self) ih
    | false => simp only [Bool.false_eq_true, if_false]; exact ih
end
section
theorem chr_nm {prog : Program} {w : World} {A : Around} {E : Value → Shared → Prop} {s : Shared} {i : Int} {c : Nat} {t : Tok} {Q : Value → Shared → Prop} (hi : i = (c : Int)) (hc : isL c) (h : ∀ t, Q (.str ⟨#[c]⟩ t) { s with toks := s.toks + 1 }) :
    wpAny (model prog w) A (call (.builtin "chr") [.int i t]) Q E s := by
  have := isL_lt hc
  subst hi
  refine chr_of_range (by omega) (by omega) ?_
  exact h _
theorem fr_canon {h₀ h : Heap} {L : Addr} {m : Str → Option Value} {ps : List (Str × Value)} (F : Fr h₀ L h m) (hk : ∀ p ∈ ps, m p.1 = some p.2) : Fr h₀ L h (kstB m ps) := by
  have e : kstB m ps = m := funext fun z => kstB_eq hk fun _ => rfl
  rw [e]; exact F
theorem mod2 (a : Int) : Int.fmod a 2 = 0 ∨ Int.fmod a 2 = 1 := by
  have h1 := fmod_lo a (n := 2) (by decide)
  have h2 := fmod_hi a (n := 2) (by decide)
  omega
theorem item4 (a b : Int) : ∃ c, Txt.item (Str.ofString "01??") (Int.fmod a 2 + 2 * Int.fmod b 2) = ⟨#[c]⟩ ∧ okC c := by
  rcases mod2 a with h1 | h1 <;> rcases mod2 b with h2 | h2 <;> rw [h1, h2]
  · exact ⟨48, by decide, by unfold okC; decide⟩
  · exact ⟨63, by decide, by unfold okC; decide⟩
  · exact ⟨49, by decide, by unfold okC; decide⟩
  · exact ⟨63, by decide, by unfold okC; decide⟩
theorem okS_iterT (o l : Int) (n : Nat) : okS (iterT o l n).1 := by
  induction n with
  | zero => rw [iterT_zero]; intro c hc; dsimp only at hc; rw [show (Str.ofString "").cps.toList = [] from by decide] at hc; cases hc
  | succ n ih =>
    rw [iterT_succ]
    intro c hc
    obtain ⟨d, e, hd⟩ := item4 (iterT o l n).2.1 (iterT o l n).2.2
    simp only [stepT] at hc
    rw [e, Str.cps_append, Array.toList_append] at hc
    rcases List.mem_append.mp hc with hc | hc
    · have e2 : c = d := by simpa using hc
      rw [e2]; exact hd
    · exact ih c hc
theorem item_at {prog : Program} {w : World} {A : Around} {E : Value → Shared → Prop} {s : Shared} {h₀ : Heap} {L : Addr} {news : List (Addr × Obj)} {value slice : PySem.Expr} {l : Addr} {us : List Value} {cc : Nat} {k : Int} {u : Tok} {v : Value} {ops : List Value} {Q : Value → Shared → Prop}
    (N : News h₀ L s.heap news) (hm : (l, W.listOf us.toArray cc) ∈ news) (h0 : 0 ≤ k) (hhi : k < 2 ^ 63) (hx : us[k.toNat]? = some v) (h : Q v s)
    (hs : subscripted slice false (.ref l) (.int k u) = operate ops (getItem (.ref l) (.int k u))) : wpAny (model prog w) A (subscriptTail value slice (.ref l) (.int k u)) Q E s := by
  have hl : s.heap.IsList l us.toArray := ⟨_, (N _ hm).1, rfl, cc, rfl⟩
  exact tail_any hl.typeIs PySem.F.slot_list_getitem.lookup (wpAny_getItem_list hl h0 hhi (by simpa using hx) h) hs
theorem whl_induct {prog : Program} {w : World} {A : Around} {E : Value → Shared → Prop} {env : Env} {test : PySem.Expr} {body orelse : List Stmt} {Q : Flow → Shared → Prop} (n : Nat) (I : Nat → Shared → Prop)
    (hstep : ∀ i s, i < n → I i s → (∀ s', I (i + 1) s' → WhlRest prog w A E env test body orelse Q 0 s') → WhlRest prog w A E env test body orelse Q 5 s)
    (hend : ∀ s, I n s → WhlRest prog w A E env test body orelse Q 1 s) : ∀ i, i ≤ n → ∀ s, I i s → WhlRest prog w A E env test body orelse Q 0 s := by
  intro i hi
  induction h : n - i generalizing i with
  | zero =>
    intro s hs
    have e : i = n := by omega
    subst e
    exact hend s hs
  | succ k ih =>
    intro s hs
    exact hstep i s (by omega) hs fun s' hs' => ih (i + 1) (by omega) (by omega) s' hs'
/-- a statement of the program: its letter, its operator, a tilde, the other letter -/
structure Stm where
  c1 : Nat
  op : Int
  tl : Bool
  c2 : Nat
noncomputable def okStm (st : Stm) : Prop := isL st.c1 ∧ isL st.c2 ∧ (st.op = 36 ∨ st.op = 37 ∨ st.op = 41 ∨ st.op = 42 ∨ st.op = 43)
noncomputable def textsOf (ps : List (Nat × Str)) (c : Nat) : List Str := (ps.filter fun r => decide (lo1 r.1 = lo1 c)).map (·.2)
noncomputable def turnI (g : Int × Int) : Int × Int := (Builtin.bitAnd (Builtin.bitNot (Builtin.bitOr g.1 g.2)) 255, g.2)
noncomputable def secondOf (ps : List (Nat × Str)) (st : Stm) : Int × Int := if st.tl then turnI (knownF (textsOf ps st.c2)) else knownF (textsOf ps st.c2)
noncomputable def newText (ps : List (Nat × Str)) (st : Stm) : Str :=
  let j := joinI st.op (knownF (textsOf ps st.c1)).1 (knownF (textsOf ps st.c1)).2 (secondOf ps st).1 (secondOf ps st).2
  (iterT j.1 j.2 8).1
noncomputable def stepRun (ps : List (Nat × Str)) (st : Stm) : List (Nat × Str) := (ps.filter fun r => decide (lo1 r.1 ≠ lo1 st.c1)) ++ [(st.c1, newText ps st)]
noncomputable def rowsAt (ps : List (Nat × Str)) (sts : List Stm) : List (Nat × Str) := sts.foldl stepRun ps
noncomputable def symsOf (st : Stm) : List Int := [256 + (st.c1 : Int), st.op] ++ (if st.tl then [31] else []) ++ [256 + (st.c2 : Int), 12]
noncomputable def offs (sts : List Stm) (i : Nat) : Nat := ((sts.take i).flatMap symsOf).length
/-- what the history holds behind i statements -/
noncomputable def histAt (ps : List (Nat × Str)) (sts : List Stm) (i : Nat) : List (List (Nat × Str)) := (List.range i).map fun j => rowsAt ps (sts.take (j + 1))
noncomputable def IsHist (nx : List (Addr × Obj)) (v : Value) (ps : List (Nat × Str)) : Prop := ∃ a vs c, v = .ref a ∧ (a, W.listOf (List.toArray vs) c) ∈ nx ∧ Rows nx vs ps
theorem IsRow.mono {nx nx' : List (Addr × Obj)} {v : Value} {r : Nat × Str} (h : IsRow nx v r) (hs : ∀ p ∈ nx, p ∈ nx') : IsRow nx' v r := by
  obtain ⟨a, t1, t2, e, m⟩ := h
  exact ⟨a, t1, t2, e, hs _ m⟩
theorem Rows.mono {nx nx' : List (Addr × Obj)} {vs : List Value} {ps : List (Nat × Str)} (h : Rows nx vs ps) (hs : ∀ p ∈ nx, p ∈ nx') : Rows nx' vs ps := by
  induction h with
  | nil => exact .nil
  | cons h _ ih => exact .cons (h.mono hs) ih
theorem IsHist.mono {nx nx' : List (Addr × Obj)} {v : Value} {ps : List (Nat × Str)} (h : IsHist nx v ps) (hs : ∀ p ∈ nx, p ∈ nx') : IsHist nx' v ps := by
  obtain ⟨a, vs, c, e, m, r⟩ := h
  exact ⟨a, vs, c, e, hs _ m, Rows.mono r hs⟩
theorem Hists.mono {nx nx' : List (Addr × Obj)} {vs : List Value} {ps : List (List (Nat × Str))} (h : Paired (IsHist nx) vs ps) (hs : ∀ p ∈ nx, p ∈ nx') : Paired (IsHist nx') vs ps := by
  induction h with
  | nil => exact .nil
  | cons h _ ih => exact .cons (h.mono hs) ih
theorem Rows.snoc {nx : List (Addr × Obj)} {vs : List Value} {ps : List (Nat × Str)} {a : Addr} {c : Nat} {x : Str} {t1 t2 : Tok} (h : Rows nx vs ps) (hm : (a, tup [.str ⟨#[c]⟩ t1, .str x t2]) ∈ nx) : Rows nx (vs ++ [.ref a]) (ps ++ [(c, x)]) :=
  Paired.snoc h ⟨a, t1, t2, rfl, hm⟩
theorem Rows.length {nx : List (Addr × Obj)} {vs : List Value} {ps : List (Nat × Str)} (h : Rows nx vs ps) : vs.length = ps.length := by
  induction h with
  | nil => rfl
  | cons _ _ ih => simp [ih]
theorem Hists.length {nx : List (Addr × Obj)} {vs : List Value} {ps : List (List (Nat × Str))} (h : Paired (IsHist nx) vs ps) : vs.length = ps.length := by
  induction h with
  | nil => rfl
  | cons _ _ ih => simp [ih]
theorem Rows.tail {nx : List (Addr × Obj)} {vs : List Value} {ps : List (Nat × Str)} {a : Addr} {its : Array Value} {c : Nat} (h : Rows ((a, W.listOf its c) :: nx) vs ps) : Rows nx vs ps := by
  induction h with
  | nil => exact .nil
  | cons h _ ih =>
    refine .cons ?_ ih
    obtain ⟨b, t1, t2, e, m⟩ := h
    refine ⟨b, t1, t2, e, ?_⟩
    rcases List.mem_cons.mp m with q | q
    · have := congrArg (fun p : Addr × Obj => p.2.cls) q
      simp at this
    · exact q
theorem kstB_self {m : Str → Option Value} {ps : List (Str × Value)} (hk : ∀ p ∈ ps, m p.1 = some p.2) : m = kstB m ps := (funext fun z => kstB_eq hk fun _ => rfl : kstB m ps = m).symm
theorem paired_get {α β : Type} {R : α → β → Prop} {l1 : List α} {l2 : List β} (h : Paired R l1 l2) : ∀ {i : Nat} {v : α}, l1[i]? = some v → ∃ r, l2[i]? = some r ∧ R v r := by
  induction h with
  | nil => intro i v e; simp at e
  | cons h _ ih =>
    intro i v e
    cases i with
    | zero =>
      rw [List.getElem?_cons_zero, Option.some.injEq] at e
      subst e
      exact ⟨_, rfl, h⟩
    | succ i =>
      have := ih (i := i) (v := v) (by simpa using e)
      simpa using this
theorem take_snoc {α : Type} {l : List α} {i : Nat} {r : α} (h : l[i]? = some r) : l.take (i + 1) = l.take i ++ [r] := by simp [List.take_add_one, h]
theorem chr_sym {prog : Program} {w : World} {A : Around} {E : Value → Shared → Prop} {s : Shared} {c : Nat} {t : Tok} {Q : Value → Shared → Prop} (hc : isL c) (h : ∀ t, Q (.str ⟨#[c]⟩ t) { s with toks := s.toks + 1 }) :
    wpAny (model prog w) A (call (.builtin "chr") [.int (256 + (c : Int) - 256) t]) Q E s := chr_nm (by omega) hc h
theorem eqI_yes {prog : Program} {w : World} {A : Around} {E : Value → Shared → Prop} {s : Shared} {a b : Int} {t u : Tok} {Q : Value → Shared → Prop} (e : a = b) (h : Q (.bool true) s) : wpAny (model prog w) A (compareOp .Eq (.int a t) (.int b u)) Q E s := by
  refine eq_int ?_
  rw [show (a == b) = true from beq_iff_eq.mpr e]; exact h
theorem eqI_no {prog : Program} {w : World} {A : Around} {E : Value → Shared → Prop} {s : Shared} {a b : Int} {t u : Tok} {Q : Value → Shared → Prop} (e : a ≠ b) (h : Q (.bool false) s) : wpAny (model prog w) A (compareOp .Eq (.int a t) (.int b u)) Q E s := by
  refine eq_int ?_
  rw [show (a == b) = false from beq_eq_false_iff_ne.mpr e]; exact h
theorem neI_yes {prog : Program} {w : World} {A : Around} {E : Value → Shared → Prop} {s : Shared} {a b : Int} {t u : Tok} {Q : Value → Shared → Prop} (e : a ≠ b) (h : Q (.bool true) s) : wpAny (model prog w) A (compareOp .NotEq (.int a t) (.int b u)) Q E s := by
  refine ne_int ?_
  rw [show (a != b) = true from bne_iff_ne.mpr e]; exact h
theorem neI_no {prog : Program} {w : World} {A : Around} {E : Value → Shared → Prop} {s : Shared} {a b : Int} {t u : Tok} {Q : Value → Shared → Prop} (e : a = b) (h : Q (.bool false) s) : wpAny (model prog w) A (compareOp .NotEq (.int a t) (.int b u)) Q E s := by
  refine ne_int ?_
  rw [show (a != b) = false from by rw [e]; simp]; exact h
theorem ints_at : ∀ {us : List Value} {ns : List Int}, IntsAre us ns → ∀ {i : Nat} {n : Int}, ns[i]? = some n → ∃ t, us[i]? = some (.int n t)
  | _, _, h, i, n, e => by
    obtain ⟨t, ht⟩ := h.get i n e
    exact ⟨t, ht⟩
theorem flat_split {sts : List Stm} {i : Nat} {st : Stm} (h : sts[i]? = some st) : sts.flatMap symsOf ++ [0] = (sts.take i).flatMap symsOf ++ (symsOf st ++ ((sts.drop (i + 1)).flatMap symsOf ++ [0])) := by
  have e : sts = sts.take i ++ st :: sts.drop (i + 1) := by
    have h1 := List.take_append_drop (i + 1) sts
    rw [take_snoc h, List.append_assoc] at h1
    exact h1.symm
  conv => lhs; rw [e]
  simp [List.flatMap_append, List.flatMap_cons]
theorem offs_succ {sts : List Stm} {i : Nat} {st : Stm} (h : sts[i]? = some st) : offs sts (i + 1) = offs sts i + (symsOf st).length := by
  unfold offs
  rw [take_snoc h]; simp [List.flatMap_append]
theorem sym_at {us : List Value} {sts : List Stm} {i : Nat} {st : Stm} (hus : IntsAre us (sts.flatMap symsOf ++ [0])) (h : sts[i]? = some st) {j : Nat} {n : Int} (hj : (symsOf st)[j]? = some n) : ∃ t, us[offs sts i + j]? = some (.int n t) := by
  refine ints_at hus ?_
  rw [flat_split h]
  have hlt : j < (symsOf st).length := by
    rcases Nat.lt_or_ge j (symsOf st).length with q | q
    · exact q
    · rw [List.getElem?_eq_none q] at hj; cases hj
  rw [List.getElem?_append_right (by unfold offs; omega)]
  rw [show offs sts i + j - ((sts.take i).flatMap symsOf).length = j from by unfold offs; omega]
  rw [List.getElem?_append_left hlt]; exact hj
theorem sym_end {us : List Value} {sts : List Stm} (hus : IntsAre us (sts.flatMap symsOf ++ [0])) : ∃ t, us[offs sts sts.length]? = some (.int 0 t) := by
  refine ints_at hus ?_
  unfold offs
  rw [List.take_length]; simp
theorem sym_four {us : List Value} {sts : List Stm} {i : Nat} {st : Stm} (hus : IntsAre us (sts.flatMap symsOf ++ [0])) (h : sts[i]? = some st) (ht : st.tl = false) :
    ∃ (k : Int) (t0 t1 t2 t3 : Tok), k = (offs sts i : Nat) ∧ us[k.toNat]? = some (.int (256 + (st.c1 : Int)) t0) ∧ us[(k + 1).toNat]? = some (.int st.op t1) ∧ us[(k + 1 + 1).toNat]? = some (.int (256 + (st.c2 : Int)) t2) ∧ us[(k + 1 + 1 + 1).toNat]? = some (.int 12 t3) ∧ k + 1 + 1 + 1 + 1 = (offs sts (i + 1) : Nat) := by
  have hs : symsOf st = [256 + (st.c1 : Int), st.op, 256 + (st.c2 : Int), 12] := by simp [symsOf, ht]
  obtain ⟨t0, h0⟩ := sym_at hus h (j := 0) (by rw [hs]; rfl)
  obtain ⟨t1, h1⟩ := sym_at hus h (j := 1) (by rw [hs]; rfl)
  obtain ⟨t2, h2⟩ := sym_at hus h (j := 2) (by rw [hs]; rfl)
  obtain ⟨t3, h3⟩ := sym_at hus h (j := 3) (by rw [hs]; rfl)
  have ho := offs_succ h
  rw [hs] at ho
  simp only [List.length_cons, List.length_nil] at ho
  refine ⟨_, t0, t1, t2, t3, rfl, ?_, ?_, ?_, ?_, by omega⟩
  · rw [show ((offs sts i : Nat) : Int).toNat = offs sts i + 0 from by omega]; exact h0
  · rw [show (((offs sts i : Nat) : Int) + 1).toNat = offs sts i + 1 from by omega]; exact h1
  · rw [show (((offs sts i : Nat) : Int) + 1 + 1).toNat = offs sts i + 2 from by omega]; exact h2
  · rw [show (((offs sts i : Nat) : Int) + 1 + 1 + 1).toNat = offs sts i + 3 from by omega]; exact h3
theorem sym_five {us : List Value} {sts : List Stm} {i : Nat} {st : Stm} (hus : IntsAre us (sts.flatMap symsOf ++ [0])) (h : sts[i]? = some st) (ht : st.tl = true) :
    ∃ (k : Int) (t0 t1 t4 t2 t3 : Tok), k = (offs sts i : Nat) ∧ us[k.toNat]? = some (.int (256 + (st.c1 : Int)) t0) ∧ us[(k + 1).toNat]? = some (.int st.op t1) ∧ us[(k + 1 + 1).toNat]? = some (.int 31 t4) ∧ us[(k + 1 + 1 + 1).toNat]? = some (.int (256 + (st.c2 : Int)) t2) ∧ us[(k + 1 + 1 + 1 + 1).toNat]? = some (.int 12 t3) ∧ k + 1 + 1 + 1 + 1 + 1 = (offs sts (i + 1) : Nat) := by
  have hs : symsOf st = [256 + (st.c1 : Int), st.op, 31, 256 + (st.c2 : Int), 12] := by simp [symsOf, ht]
  obtain ⟨t0, h0⟩ := sym_at hus h (j := 0) (by rw [hs]; rfl)
  obtain ⟨t1, h1⟩ := sym_at hus h (j := 1) (by rw [hs]; rfl)
  obtain ⟨t4, h4⟩ := sym_at hus h (j := 2) (by rw [hs]; rfl)
  obtain ⟨t2, h2⟩ := sym_at hus h (j := 3) (by rw [hs]; rfl)
  obtain ⟨t3, h3⟩ := sym_at hus h (j := 4) (by rw [hs]; rfl)
  have ho := offs_succ h
  rw [hs] at ho
  simp only [List.length_cons, List.length_nil] at ho
  refine ⟨_, t0, t1, t4, t2, t3, rfl, ?_, ?_, ?_, ?_, ?_, by omega⟩
  · rw [show ((offs sts i : Nat) : Int).toNat = offs sts i + 0 from by omega]; exact h0
  · rw [show (((offs sts i : Nat) : Int) + 1).toNat = offs sts i + 1 from by omega]; exact h1
  · rw [show (((offs sts i : Nat) : Int) + 1 + 1).toNat = offs sts i + 2 from by omega]; exact h4
  · rw [show (((offs sts i : Nat) : Int) + 1 + 1 + 1).toNat = offs sts i + 3 from by omega]; exact h2
  · rw [show (((offs sts i : Nat) : Int) + 1 + 1 + 1 + 1).toNat = offs sts i + 4 from by omega]; exact h3
theorem symsOf_le (st : Stm) : (symsOf st).length ≤ 5 := by
  unfold symsOf; cases st.tl <;> simp
theorem offs_le (sts : List Stm) (i : Nat) : offs sts i ≤ 5 * i := by
  induction i with
  | zero => simp [offs]
  | succ i ih =>
    cases h : sts[i]? with
    | some st =>
      have := offs_succ h
      have := symsOf_le st
      omega
    | none =>
      have hlen : sts.length ≤ i := by simpa using h
      have e : offs sts (i + 1) = offs sts i := by
        unfold offs
        rw [List.take_of_length_le (by omega), List.take_of_length_le hlen]
      omega
theorem isL_rowsAt {ps : List (Nat × Str)} : ∀ {sts : List Stm}, (∀ r ∈ ps, isL r.1) → (∀ st ∈ sts, okStm st) → ∀ r ∈ rowsAt ps sts, isL r.1
  | [], hp, _ => hp
  | st :: sts, hp, hs => by
    refine isL_rowsAt (ps := stepRun ps st) (sts := sts) (fun r hr => ?_) (fun q hq => hs q (List.mem_cons_of_mem _ hq))
    rcases List.mem_append.mp hr with hr | hr
    · exact hp r (List.mem_filter.mp hr).1
    · rw [List.mem_singleton.mp hr]; exact (hs st List.mem_cons_self).1
theorem rowsAt_snoc {ps : List (Nat × Str)} {sts : List Stm} {i : Nat} {st : Stm} (h : sts[i]? = some st) : rowsAt ps (sts.take (i + 1)) = stepRun (rowsAt ps (sts.take i)) st := by
  unfold rowsAt; rw [take_snoc h, List.foldl_append]; rfl
theorem histAt_succ (ps : List (Nat × Str)) (sts : List Stm) (i : Nat) : histAt ps sts (i + 1) = histAt ps sts i ++ [rowsAt ps (sts.take (i + 1))] := by
  unfold histAt; rw [List.range_succ, List.map_append]; rfl
end
section
noncomputable def isSign (x : Str) : Prop := x = ⟨#[48]⟩ ∨ x = ⟨#[49]⟩ ∨ x = ⟨#[63]⟩
noncomputable def mayS (x : Str) : List Int := if x = ⟨#[63]⟩ then [0, 1] else if x = ⟨#[49]⟩ then [1] else [0]
theorem mayS_48 : mayS ⟨#[48]⟩ = [0] := by decide
theorem mayS_49 : mayS ⟨#[49]⟩ = [1] := by decide
theorem mayS_63 : mayS ⟨#[63]⟩ = [0, 1] := by decide
noncomputable def signs8 (x : Str) : Prop := x.length = 8 ∧ ∀ c ∈ x.cps.toList, c = 48 ∨ c = 49 ∨ c = 63
theorem item_sign {x : Str} (h : signs8 x) {k : Int} (h0 : 0 ≤ k) (h1 : k < 8) : isSign (Txt.item x k) := by
  obtain ⟨hl, hc⟩ := h
  have hl' : x.cps.size = 8 := hl
  have hi : k.toNat < x.cps.size := by omega
  have e : Txt.charAt x k = some x.cps[k.toNat] := by
    unfold Txt.charAt
    have e1 : seqIndex? k x.length = some k.toNat := by
      have h2 : ¬ k < 0 := by omega
      have h3 : (decide (0 ≤ k) && decide (k < ((x.length : Nat) : Int))) = true := by
        rw [hl]; simp only [Bool.and_eq_true, decide_eq_true_eq]; omega
      simp only [seqIndex?, if_neg h2]
      rw [if_pos h3]
    rw [e1]; simp [hi]
  have hm : x.cps[k.toNat] ∈ x.cps.toList := Array.mem_toList_iff.mpr (Array.getElem_mem hi)
  unfold Txt.item isSign
  rw [e]
  rcases hc _ hm with q | q | q <;> rw [Option.getD_some, q] <;> simp
end
section
open PyProof.V PySem.Spec PySem.Calls
section
variable {prog : Program} {w : World} {A : Around} {E : Value → Shared → Prop} {s : Shared} {env : Env} {h₀ : Heap} {x : Str} {body : List Stmt} {Q : Flow → Shared → Prop}
/-- a loop over a range; the ledger may grow from turn to turn -/
theorem for_range {r : Addr} {a₀ b₀ st : Int} {t₀ u₀ v₀ : Tok} {n : Nat} {m₀ : Str → Option Value} {news : List (Addr × Obj)} (J : Nat → (Str → Option Value) → List (Addr × Obj) → Prop)
    (hh : A.handled = none) (hr : IsRange s.heap r a₀ b₀ st t₀ u₀ v₀) (hsmall : Builtin.Range.small a₀ b₀ st = true) (hn : Builtin.Range.rangeSize a₀ b₀ st = (n : Int)) (F : Fr h₀ env.locals s.heap m₀) (N : News h₀ env.locals s.heap news) (hj : J 0 m₀ news)
    (turn : ∀ i t m₁ nx h tk I oI, i < n → J i m₁ nx → Fr h₀ env.locals h (fun y => if y = x then some (.int (a₀ + (i : Int) * st) t) else m₁ y) → News h₀ env.locals h ((I, oI) :: nx) → (∀ p ∈ nx, p.1 ≠ I) →
      wpAny (model prog w) A (execs body env) (PostJ h₀ env.locals (J (i + 1)) I oI { s with heap := h, toks := tk } Q) E { s with heap := h, toks := tk })
    (done : ∀ m₁ nx h tk, J n m₁ nx → Fr h₀ env.locals h m₁ → News h₀ env.locals h nx → Q .next { s with heap := h, toks := tk }) :
    wpAny (model prog w) A (pyIter (.ref r)) (fun it s₂ => LoopAtV prog w A h₀ env x body Q E it s₂) E s := by
  refine wpAny_pyIter_range hr hsmall ?_
  have W : Walks prog w A s.heap.objs.size [s.heap.objs.size] [s.heap.objs.size] n (fun i v => i < n ∧ ∃ t, v = .int (a₀ + i * st) t)
      (fun i h => IsRangeIter h s.heap.objs.size (a₀ + (i : Nat) * st) ((n : Int) - (i : Nat)) st) := (Walks.range hh _ a₀ st n).bound
  have hI0 : h₀.get? s.heap.objs.size = none := next_is_new F
  refine ⟨s.heap.objs.size, [s.heap.objs.size], [s.heap.objs.size], n, _, _, m₀, news, J, rfl, W, ?_, ?_, ?_, (by show IsRangeIter _ _ _ _ _; rw [hn]; simpa using Heap.get?_push_size _ rfl), F.push _, (fun p hp => ⟨Heap.get?_push_of_some _ (N p hp).1, (N p hp).2⟩), hj, ?_, ?_⟩
  · intro hm
    exact absurd F.ns.lt ((List.mem_singleton.mp hm) ▸ Nat.lt_irrefl _)
  · intro b hb
    rw [List.mem_singleton.mp hb]; exact hI0
  · intro p hp hI
    exact absurd (Heap.lt_size (N p hp).1) (by rw [List.mem_singleton.mp hI]; exact Nat.lt_irrefl _)
  · rintro i v m₁ nx s₁ own ⟨hh', tk', rfl⟩ hi hP hj₁ hoff hown hget hall st' F₁ N₁
    obtain ⟨_, t, rfl⟩ := hP
    obtain ⟨oI, hoI⟩ : ∃ o, hh'.get? s.heap.objs.size = some o := ⟨_, st'⟩
    have mI : (s.heap.objs.size, oI) ∈ own := hall _ (by simp) hI0 _ hoI
    have N₂ : News h₀ env.locals hh' ((s.heap.objs.size, oI) :: nx) := fun p hp => by
      rcases List.mem_cons.mp hp with rfl | hp
      · exact N₁ _ (List.mem_append_left _ mI)
      · exact N₁ p (List.mem_append_right _ hp)
    have hne : ∀ p ∈ nx, p.1 ≠ s.heap.objs.size := fun p hp e => hoff p hp (by rw [e]; exact List.mem_singleton.mpr rfl)
    refine wpAny_mono (turn i t m₁ nx hh' tk' _ oI hi hj₁ F₁ N₂ hne) (fun f s₂ p => ?_) fun _ _ e => e
    have fin : EndJ h₀ env.locals (J (i + 1)) s.heap.objs.size oI { s with heap := hh', toks := tk' } s₂ → LoopStepU h₀ env.locals [s.heap.objs.size] own (J (i + 1)) { s with heap := hh', toks := tk' } .next s₂ := by
      rintro ⟨h', tk, m', nx', e, F', N', hne', hj'⟩
      refine ⟨rfl, h', tk, m', nx', e, F', fun p hp => ?_, fun p hp hI => hne' p hp (List.mem_singleton.mp hI), hj'⟩
      rcases List.mem_append.mp hp with hp | hp
      · have h2 := hown p hp
        have h3 := hget p hp
        have e1 := List.mem_singleton.mp h2
        have e2 : p.2 = oI := by
          have h4 : hh'.get? p.1 = some p.2 := h3
          rw [e1, hoI] at h4; exact (Option.some.inj h4).symm
        have e3 : p = (s.heap.objs.size, oI) := Prod.ext e1 e2
        rw [e3]; exact N' _ List.mem_cons_self
      · exact N' p (List.mem_cons_of_mem _ hp)
    cases f with
    | ret v => exact .ret p
    | brk => exact .brk p
    | next => exact .next (fin p)
    | cont => exact .cont (fin p)
  · rintro h' tk m' news' F' N' _ hj'
    exact done m' news' h' tk hj' F' N'
end
end
section
theorem or_call {w : World} {mean : ExcName → Option Value} {mg mb : Str → Option Value} {dp un : Nat} {gd : Option (List Code)} {cn : Str} {cs : Scope} {a : Addr} {ccd : Value} {cl : List (Str × Addr)} {outer : List Env} {A₀ : Around} {base h₀ : Heap} {L : Addr} {m : Str → Option Value} {news : List (Addr × Obj)} {s : Shared} {Q E : Value → Shared → Prop}
    (B : Below A₀ base outer h₀) (F : Fr h₀ L s.heap m) (X : (hd.heap_39 w.params).In h₀) (N : News h₀ L s.heap news) (T : Top hd.view_39 (looseW hd.view_39 [Str.ofString "EXACT_TOKEN_TYPES", Str.ofString "tspecials", Str.ofString "_name_disallowed_re", Str.ofString "_value_disallowed_re", Str.ofString "_formatparam"]) mean mg mb h₀) (hk : cs.kind = .function) (hd : dp + 2 < recursionLimit) (hu : un + 16 < cLine)
    {x y : Int} {tx ty : Tok}
    (ret : ∀ t h' tk', Fr h₀ L h' m → News h₀ L h' news → Q (.int (Builtin.bitOr x y) t) { s with heap := h', toks := tk' }) :
    wpAny (model PySem.Challenge.rw_we0031_01.row.prog w) (ktrTop dp un gd cn cs L a ccd cl outer) (call (.ref 66) [.int x tx, .int y ty]) Q E s := by
  w_top off
  k_with_none
  refine fill_here (fun hfill => ?_)
  revert hfill
  k_fill
  intro _
  refine wpAny_call ?_
  k_dflt ktr_enter
  k_steps
  all_goals exact ret _ _ _ (by k_asm) (by k_asm)
theorem and_call {w : World} {mean : ExcName → Option Value} {mg mb : Str → Option Value} {dp un : Nat} {gd : Option (List Code)} {cn : Str} {cs : Scope} {a : Addr} {ccd : Value} {cl : List (Str × Addr)} {outer : List Env} {A₀ : Around} {base h₀ : Heap} {L : Addr} {m : Str → Option Value} {news : List (Addr × Obj)} {s : Shared} {Q E : Value → Shared → Prop}
    (B : Below A₀ base outer h₀) (F : Fr h₀ L s.heap m) (X : (hd.heap_39 w.params).In h₀) (N : News h₀ L s.heap news) (T : Top hd.view_39 (looseW hd.view_39 [Str.ofString "EXACT_TOKEN_TYPES", Str.ofString "tspecials", Str.ofString "_name_disallowed_re", Str.ofString "_value_disallowed_re", Str.ofString "_formatparam"]) mean mg mb h₀) (hk : cs.kind = .function) (hd : dp + 2 < recursionLimit) (hu : un + 16 < cLine)
    {x y : Int} {tx ty : Tok}
    (ret : ∀ t h' tk', Fr h₀ L h' m → News h₀ L h' news → Q (.int (Builtin.bitAnd x y) t) { s with heap := h', toks := tk' }) :
    wpAny (model PySem.Challenge.rw_we0031_01.row.prog w) (ktrTop dp un gd cn cs L a ccd cl outer) (call (.ref 52) [.int x tx, .int y ty]) Q E s := by
  w_top off
  k_with_none
  refine fill_here (fun hfill => ?_)
  revert hfill
  k_fill
  intro _
  refine wpAny_call ?_
  k_dflt ktr_enter
  k_steps
  all_goals exact ret _ _ _ (by k_asm) (by k_asm)
theorem xor_call {w : World} {mean : ExcName → Option Value} {mg mb : Str → Option Value} {dp un : Nat} {gd : Option (List Code)} {cn : Str} {cs : Scope} {a : Addr} {ccd : Value} {cl : List (Str × Addr)} {outer : List Env} {A₀ : Around} {base h₀ : Heap} {L : Addr} {m : Str → Option Value} {news : List (Addr × Obj)} {s : Shared} {Q E : Value → Shared → Prop}
    (B : Below A₀ base outer h₀) (F : Fr h₀ L s.heap m) (X : (hd.heap_39 w.params).In h₀) (N : News h₀ L s.heap news) (T : Top hd.view_39 (looseW hd.view_39 [Str.ofString "EXACT_TOKEN_TYPES", Str.ofString "tspecials", Str.ofString "_name_disallowed_re", Str.ofString "_value_disallowed_re", Str.ofString "_formatparam"]) mean mg mb h₀) (hk : cs.kind = .function) (hd : dp + 2 < recursionLimit) (hu : un + 16 < cLine)
    {x y : Int} {tx ty : Tok}
    (ret : ∀ t h' tk', Fr h₀ L h' m → News h₀ L h' news → Q (.int (Builtin.bitXor x y) t) { s with heap := h', toks := tk' }) :
    wpAny (model PySem.Challenge.rw_we0031_01.row.prog w) (ktrTop dp un gd cn cs L a ccd cl outer) (call (.ref 80) [.int x tx, .int y ty]) Q E s := by
  w_top off
  k_with_none
  refine fill_here (fun hfill => ?_)
  revert hfill
  k_fill
  intro _
  refine wpAny_call ?_
  k_dflt ktr_enter
  k_steps
  all_goals exact ret _ _ _ (by k_asm) (by k_asm)
theorem add_call {w : World} {mean : ExcName → Option Value} {mg mb : Str → Option Value} {dp un : Nat} {gd : Option (List Code)} {cn : Str} {cs : Scope} {a : Addr} {ccd : Value} {cl : List (Str × Addr)} {outer : List Env} {A₀ : Around} {base h₀ : Heap} {L : Addr} {m : Str → Option Value} {news : List (Addr × Obj)} {s : Shared} {Q E : Value → Shared → Prop}
    (B : Below A₀ base outer h₀) (F : Fr h₀ L s.heap m) (X : (hd.heap_39 w.params).In h₀) (N : News h₀ L s.heap news) (T : Top hd.view_39 (looseW hd.view_39 [Str.ofString "EXACT_TOKEN_TYPES", Str.ofString "tspecials", Str.ofString "_name_disallowed_re", Str.ofString "_value_disallowed_re", Str.ofString "_formatparam"]) mean mg mb h₀) (hk : cs.kind = .function) (hd : dp + 2 < recursionLimit) (hu : un + 16 < cLine)
    {x y : Int} {tx ty : Tok}
    (ret : ∀ t h' tk', Fr h₀ L h' m → News h₀ L h' news → Q (.int (x + y) t) { s with heap := h', toks := tk' }) :
    wpAny (model PySem.Challenge.rw_we0031_01.row.prog w) (ktrTop dp un gd cn cs L a ccd cl outer) (call (.ref 45) [.int x tx, .int y ty]) Q E s := by
  w_top off
  k_with_none
  refine fill_here (fun hfill => ?_)
  revert hfill
  k_fill
  intro _
  refine wpAny_call ?_
  k_dflt ktr_enter
  k_steps
  all_goals exact ret _ _ _ (by k_asm) (by k_asm)
theorem sub_call {w : World} {mean : ExcName → Option Value} {mg mb : Str → Option Value} {dp un : Nat} {gd : Option (List Code)} {cn : Str} {cs : Scope} {a : Addr} {ccd : Value} {cl : List (Str × Addr)} {outer : List Env} {A₀ : Around} {base h₀ : Heap} {L : Addr} {m : Str → Option Value} {news : List (Addr × Obj)} {s : Shared} {Q E : Value → Shared → Prop}
    (B : Below A₀ base outer h₀) (F : Fr h₀ L s.heap m) (X : (hd.heap_39 w.params).In h₀) (N : News h₀ L s.heap news) (T : Top hd.view_39 (looseW hd.view_39 [Str.ofString "EXACT_TOKEN_TYPES", Str.ofString "tspecials", Str.ofString "_name_disallowed_re", Str.ofString "_value_disallowed_re", Str.ofString "_formatparam"]) mean mg mb h₀) (hk : cs.kind = .function) (hd : dp + 2 < recursionLimit) (hu : un + 16 < cLine)
    {x y : Int} {tx ty : Tok}
    (ret : ∀ t h' tk', Fr h₀ L h' m → News h₀ L h' news → Q (.int (x - y) t) { s with heap := h', toks := tk' }) :
    wpAny (model PySem.Challenge.rw_we0031_01.row.prog w) (ktrTop dp un gd cn cs L a ccd cl outer) (call (.ref 73) [.int x tx, .int y ty]) Q E s := by
  w_top off
  k_with_none
  refine fill_here (fun hfill => ?_)
  revert hfill
  k_fill
  intro _
  refine wpAny_call ?_
  k_dflt ktr_enter
  k_steps
  all_goals exact ret _ _ _ (by k_asm) (by k_asm)
theorem inv_call {w : World} {mean : ExcName → Option Value} {mg mb : Str → Option Value} {dp un : Nat} {gd : Option (List Code)} {cn : Str} {cs : Scope} {a : Addr} {ccd : Value} {cl : List (Str × Addr)} {outer : List Env} {A₀ : Around} {base h₀ : Heap} {L : Addr} {m : Str → Option Value} {news : List (Addr × Obj)} {s : Shared} {Q E : Value → Shared → Prop}
    (B : Below A₀ base outer h₀) (F : Fr h₀ L s.heap m) (X : (hd.heap_39 w.params).In h₀) (N : News h₀ L s.heap news) (T : Top hd.view_39 (looseW hd.view_39 [Str.ofString "EXACT_TOKEN_TYPES", Str.ofString "tspecials", Str.ofString "_name_disallowed_re", Str.ofString "_value_disallowed_re", Str.ofString "_formatparam"]) mean mg mb h₀) (hk : cs.kind = .function) (hd : dp + 2 < recursionLimit) (hu : un + 16 < cLine)
    {x : Int} {tx : Tok}
    (ret : ∀ t h' tk', Fr h₀ L h' m → News h₀ L h' news → Q (.int (Builtin.bitNot x) t) { s with heap := h', toks := tk' }) :
    wpAny (model PySem.Challenge.rw_we0031_01.row.prog w) (ktrTop dp un gd cn cs L a ccd cl outer) (call (.ref 59) [.int x tx]) Q E s := by
  w_top off
  k_with_none
  refine fill_here (fun hfill => ?_)
  revert hfill
  k_fill
  intro _
  refine wpAny_call ?_
  k_dflt ktr_enter
  k_steps
  all_goals exact ret _ _ _ (by k_asm) (by k_asm)
end
section
local macro_rules | `(tactic| walk_at "nowhere") => `(tactic| skip)
open PyProof.V PySem.Spec PySem.Calls
theorem setL_eq (us : List Value) : ∀ (i : Nat) (v : Value), i < us.length → ki_setL us i v = some (us.set i v) := by
  induction us with
  | nil => intro i v h; exact absurd h (Nat.not_lt_zero _)
  | cons a us ih =>
    intro i v h
    cases i with
    | zero => rfl
    | succ i =>
      have := ih i v (Nat.lt_of_succ_lt_succ h)
      show (match ki_setL us i v with | some q => some (a :: q) | none => none) = _
      rw [this]; rfl
theorem set_at {prog : Program} {w : World} {A : Around} {E : Value → Shared → Prop} {s : Shared} {h₀ : Heap} {L D : Addr} {m : Str → Option Value} {news : List (Addr × Obj)} {us : List Value} {n : Nat} {k : Int} {t : Tok} {v : Value} {Q : Unit → Shared → Prop} (F : Fr h₀ L s.heap m) (N : News h₀ L s.heap ((D, W.listOf us.toArray n) :: news)) (hne : ∀ p ∈ news, p.1 ≠ D)
    (h0 : 0 ≤ k) (hn : k < us.length) (hfit : k < 2 ^ 63) (h : ∀ h', Fr h₀ L h' m → News h₀ L h' ((D, W.listOf (us.set k.toNat v).toArray n) :: news) → Q () { s with heap := h' }) :
    wpAny (model prog w) A (setItem (.ref D) (.int k t) v) Q E s :=
  ki_set F N h0 hfit (by simpa using setL_eq us k.toNat v (by omega)) (.head hne) h
theorem ints_set {us : List Value} {ns : List Int} (h : IntsAre us ns) : ∀ (i : Nat) (n : Int) (t : Tok), IntsAre (us.set i (.int n t)) (ns.set i n) := by
  induction h with
  | nil => intro _ _ _; exact .nil
  | cons a u r ih =>
    intro i n t
    cases i with
    | zero => exact .cons n t r
    | succ i => exact .cons a u (ih i n t)
/-- ahead of a turn -/
inductive NumJ (news : List (Addr × Obj)) (ta sa : Addr) (i : Nat) (m : Str → Option Value) (nx : List (Addr × Obj)) : Prop
  | mk (u : Str → Option Value) (vs : List Value) (xs : List Int) (c : Nat) (em : m = kstB u [(Str.ofString "told", .ref ta), (Str.ofString "script", .ref sa)]) (en : nx = (ta, W.listOf vs.toArray c) :: news) (hvs : IntsAre vs xs) (h8 : xs.length = 8) (hx : ∀ x ∈ xs, 0 ≤ x) : NumJ news ta sa i m nx

theorem numbers_call {w : World} {mean : ExcName → Option Value} {mg mb : Str → Option Value} {dp un : Nat} {gd : Option (List Code)} {cn : Str} {cs : Scope} {a : Addr} {ccd : Value} {cl : List (Str × Addr)} {outer : List Env} {A₀ : Around} {base h₀ : Heap} {L : Addr} {m : Str → Option Value} {news : List (Addr × Obj)} {s : Shared} {Q E : Value → Shared → Prop}
    (B : Below A₀ base outer h₀) (F : Fr h₀ L s.heap m) (X : (hd.heap_39 w.params).In h₀) (N : News h₀ L s.heap news) (T : Top hd.view_39 (looseW hd.view_39 [Str.ofString "EXACT_TOKEN_TYPES", Str.ofString "tspecials", Str.ofString "_name_disallowed_re", Str.ofString "_value_disallowed_re", Str.ofString "_formatparam"]) mean mg mb h₀) (hk : cs.kind = .function) (hd : dp + 4 < recursionLimit) (hu : un + 32 < cLine)
    {sa : Addr} {us : List Value} {ns : List Int} (hl : h₀.IsList sa us.toArray) (hI : IntsAre us ns) (hlen : ns.length ≤ 63)
    (ret : ∀ D vs xs c' h' tk', Fr h₀ L h' m → News h₀ L h' ((D, W.listOf (List.toArray vs) c') :: news) → IntsAre vs xs → xs.length = 8 → (∀ x ∈ xs, 0 ≤ x) → (∀ p ∈ news, p.1 < D) → Q (.ref D) { s with heap := h', toks := tk' }) :
    wpAny (model PySem.Challenge.rw_we0031_01.row.prog w) (ktrTop dp un gd cn cs L a ccd cl outer) (call (.ref 252) [.ref sa]) Q E s := by
  w_top off
  k_with_none
  refine fill_here (fun hfill => ?_)
  revert hfill
  k_fill
  intro _
  refine wpAny_call ?_
  k_dflt ktr_enter
  rename_i g7 L7 h7 FG7 F7 N7 B7 X7 T7
  have hl7 : g7.IsList sa us.toArray := hl.at fun o e => FG7.keep sa o e
  repeat' ((fail_if_success (with_reducible show wpAny _ _ (pyIter _) _ _ _)); (first | (k_unfold; (try dsimp only)) | (k_end; wrow_close) | walk1 | (dsimp only; walk1)))
  rename_i ta h01 lta hi F02 hh tkx Fa Na hg tk9 t1 t2 t3 hR F9 N9 hkeep
  clear F02
  clear Fa Na
  rw [if_pos (by omega)] at hR
  k_dflt (refine for_range (n := ns.length) (NumJ news ta sa) (by rfl) hR (small_one (by decide) (by decide) (by omega) (by omega)) (by rw [rangeSize_nat]; omega) F9 N9 ?j0 ?turn ?done)
  case j0 => exact ⟨_, [_, _, _, _, _, _, _, _], _, 0, kstB_self (by kst_all), rfl, (.cons _ _ (.cons _ _ (.cons _ _ (.cons _ _ (.cons _ _ (.cons _ _ (.cons _ _ (.cons _ _ .nil)))))))), rfl, by decide⟩
  case turn =>
    clear F9 N9
    rintro i t9 m₁ nx h tk I0 oI0 hi ⟨u, vs, xs, c, rfl, rfl, hvs, h8, hx⟩ F9 N9 hI0
    obtain ⟨k, hk⟩ : ∃ k : Int, k = (i : Int) := ⟨_, rfl⟩
    have hkl : 0 ≤ k := by omega
    have hkh : k < ns.length := by omega
    rw [show (0 : Int) + (i : Int) * 1 = k from by omega] at F9
    dsimp only [kstB, envOf] at F9
    repeat' ((fail_if_success (with_reducible show wpAny _ _ (setItem _ _ _) _ _ _)); (first | (k_unfold; (try dsimp only)) | (k_end; wrow_close) | walk1 | (dsimp only; walk1)))
    have nI : I0 ≠ ta := fun e => hI0 _ List.mem_cons_self e.symm
    have N10 := news_drop (Y := (ta, W.listOf vs.toArray c) :: (I0, oI0) :: news) N9 (by (repeat' (first | (refine fcons ?_ ?_) | (intro p9 hp9; repeat (first | exact hp9 | refine List.mem_cons_of_mem _ ?_)) | k_mem)))
    clear N9
    have h8v : vs.length = 8 := by rw [hvs.length]; exact h8
    have kl : 0 ≤ k.fmod 8 := fmod_lo _ (by decide)
    have kh : k.fmod 8 < 8 := fmod_hi _ (by decide)
    refine set_at F9 N10 ((fcons nI (fun p hp => Nat.ne_of_lt (lta p hp)))) kl (by omega) (by omega) (fun h' F10 N11 => ?_)
    clear F9 N10
    dsimp only
    k_steps
    refine ⟨_, _, _, (ta, W.listOf (vs.set (k.fmod 8).toNat (Value.int (xs.getD (k.fmod 8).toNat 0 + (ns.getD k.toNat 0).fmod 100000000) _)).toArray c) :: news, rfl, F10, news_drop N11 (by (repeat' (first | (refine fcons ?_ ?_) | (intro p9 hp9; repeat (first | exact hp9 | refine List.mem_cons_of_mem _ ?_)) | k_mem))), (fcons (Ne.symm nI) (fun p hp => hI0 p (List.mem_cons_of_mem _ hp))), ⟨_, _, _, _, kstB_self (by kst_all), rfl, ints_set hvs _ _ _, by rw [List.length_set]; exact h8, ?_⟩⟩
    intro z hz
    rcases List.mem_or_eq_of_mem_set hz with q | q
    · exact hx z q
    · rw [q]
      have h1 : 0 ≤ (ns.getD k.toNat 0).fmod 100000000 := fmod_lo _ (by decide)
      have h2 : 0 ≤ xs.getD (k.fmod 8).toNat 0 := by
        have hlt : (k.fmod 8).toNat < xs.length := by omega
        rw [List.getD_eq_getElem?_getD, List.getElem?_eq_getElem hlt, Option.getD_some]
        exact hx _ (List.getElem_mem hlt)
      omega
  case done =>
    clear F9 N9
    rintro m₁ nx h tk ⟨u, vs, xs, c, rfl, rfl, hvs, h8, hx⟩ F9 N9
    dsimp only [kstB, envOf] at F9
    k_steps
    exact ret ta vs xs c _ _ (by k_asm) (by k_asm) hvs h8 hx lta
end
section
noncomputable def signsN (i : Nat) (x : Str) : Prop := x.length = i ∧ ∀ c ∈ x.cps.toList, c = 48 ∨ c = 49 ∨ c = 63
/-- no place where the two texts say opposite bits -/
noncomputable def agree (x y : Str) : Prop := ∀ p ∈ x.cps.toList.zip y.cps.toList, p.1 = 63 ∨ p.2 = 63 ∨ p.1 = p.2
theorem agree_nil : agree (Str.ofString "") (Str.ofString "") := fun p hp => by rw [show (Str.ofString "").cps.toList = [] from by decide] at hp; cases hp
theorem ten_pow : ∀ j : Nat, j < 8 → (0 : Int) < 10 ^ j ∧ (10 : Int) ^ j ≤ 10000000 := by decide
theorem cps_append (x y : Str) : (x ++ y).cps.toList = x.cps.toList ++ y.cps.toList := by
  show (x.cps ++ y.cps).toList = _; simp
theorem signs_cons {i : Nat} {z x : Str} (hz : ∃ c, z = ⟨#[c]⟩ ∧ (c = 48 ∨ c = 49 ∨ c = 63)) (hx : signsN i x) : signsN (i + 1) (z ++ x) := by
  obtain ⟨c, rfl, hc⟩ := hz
  refine ⟨by rw [Str.length_append, hx.1]; show 1 + i = _; omega, fun d hd => ?_⟩
  rw [cps_append] at hd
  rcases List.mem_append.mp hd with q | q
  · have : d = c := by simpa using q
    rw [this]; exact hc
  · exact hx.2 d q
theorem agree_cons {z1 z2 x y : Str} (hz : ∃ c d, z1 = ⟨#[c]⟩ ∧ z2 = ⟨#[d]⟩ ∧ (c = 63 ∨ d = 63 ∨ c = d)) (h : agree x y) : agree (z1 ++ x) (z2 ++ y) := by
  obtain ⟨c, d, rfl, rfl, hc⟩ := hz
  intro p hp
  rw [cps_append, cps_append] at hp
  rcases List.mem_cons.mp (show p ∈ (c, d) :: x.cps.toList.zip y.cps.toList from hp) with q | q
  · rw [q]; exact hc
  · exact h p q
theorem bit_item (f : Int) : ∃ c, (c = 48 ∨ c = 49) ∧ Txt.item (Str.ofString "01") (f.fmod 2) = ⟨#[c]⟩ := by
  rcases mod2 f with q | q <;> rw [q]
  · exact ⟨48, .inl rfl, by decide⟩
  · exact ⟨49, .inr rfl, by decide⟩
theorem q_cps : ∃ c, Str.ofString "?" = ⟨#[c]⟩ ∧ (c = 48 ∨ c = 49 ∨ c = 63) := ⟨63, by decide, .inr (.inr rfl)⟩
theorem c_cps {c : Nat} (h : c = 48 ∨ c = 49) : ∃ d, (⟨#[c]⟩ : Str) = ⟨#[d]⟩ ∧ (d = 48 ∨ d = 49 ∨ d = 63) := ⟨c, rfl, h.imp_right Or.inl⟩
theorem ag_l (z : Nat) : ∃ c d, Str.ofString "?" = ⟨#[c]⟩ ∧ (⟨#[z]⟩ : Str) = ⟨#[d]⟩ ∧ (c = 63 ∨ d = 63 ∨ c = d) := ⟨63, z, by decide, rfl, .inl rfl⟩
theorem ag_r (z : Nat) : ∃ c d, (⟨#[z]⟩ : Str) = ⟨#[c]⟩ ∧ Str.ofString "?" = ⟨#[d]⟩ ∧ (c = 63 ∨ d = 63 ∨ c = d) := ⟨z, 63, rfl, by decide, .inr (.inl rfl)⟩
theorem ag_e (z : Nat) : ∃ c d, (⟨#[z]⟩ : Str) = ⟨#[c]⟩ ∧ (⟨#[z]⟩ : Str) = ⟨#[d]⟩ ∧ (c = 63 ∨ d = 63 ∨ c = d) := ⟨z, z, rfl, rfl, .inr (.inr rfl)⟩
theorem ag_q : ∃ c d, Str.ofString "?" = ⟨#[c]⟩ ∧ Str.ofString "?" = ⟨#[d]⟩ ∧ (c = 63 ∨ d = 63 ∨ c = d) := ⟨63, 63, by decide, by decide, .inl rfl⟩
/-- ahead of a turn -/
inductive FacJ (news : List (Addr × Obj)) (n : Int) (tn : Tok) (i : Nat) (m : Str → Option Value) (nx : List (Addr × Obj)) : Prop
  | mk (u : Str → Option Value) (x y : Str) (tx ty : Tok) (em : m = kstB u [(Str.ofString "first", .str x tx), (Str.ofString "second", .str y ty), (Str.ofString "number", .int n tn)]) (en : nx = news) (hx : signsN i x) (hy : signsN i y) (hxy : agree x y) : FacJ news n tn i m nx

theorem facts_call {w : World} {mean : ExcName → Option Value} {mg mb : Str → Option Value} {dp un : Nat} {gd : Option (List Code)} {cn : Str} {cs : Scope} {a : Addr} {ccd : Value} {cl : List (Str × Addr)} {outer : List Env} {A₀ : Around} {base h₀ : Heap} {L : Addr} {m : Str → Option Value} {news : List (Addr × Obj)} {s : Shared} {Q E : Value → Shared → Prop}
    (B : Below A₀ base outer h₀) (F : Fr h₀ L s.heap m) (X : (hd.heap_39 w.params).In h₀) (N : News h₀ L s.heap news) (T : Top hd.view_39 (looseW hd.view_39 [Str.ofString "EXACT_TOKEN_TYPES", Str.ofString "tspecials", Str.ofString "_name_disallowed_re", Str.ofString "_value_disallowed_re", Str.ofString "_formatparam"]) mean mg mb h₀) (hk : cs.kind = .function) (hd : dp + 4 < recursionLimit) (hu : un + 32 < cLine)
    {n : Int} {tn : Tok}
    (ret : ∀ D x y tx ty c' h' tk', signs8 x → signs8 y → agree x y → Fr h₀ L h' m → News h₀ L h' ((D, W.listOf #[.str x tx, .str y ty] c') :: news) → (∀ p ∈ news, p.1 < D) → Q (.ref D) { s with heap := h', toks := tk' }) :
    wpAny (model PySem.Challenge.rw_we0031_01.row.prog w) (ktrTop dp un gd cn cs L a ccd cl outer) (call (.ref 259) [.int n tn]) Q E s := by
  w_top off
  k_with_none
  refine fill_here (fun hfill => ?_)
  revert hfill
  k_fill
  intro _
  refine wpAny_call ?_
  k_dflt ktr_enter
  repeat' ((fail_if_success (with_reducible show wpAny _ _ (pyIter _) _ _ _)); (first | (k_unfold; (try dsimp only)) | (k_end; wrow_close) | walk1 | (dsimp only; walk1)))
  rename_i g7 L7 h1 FG7 B7 X7 T7 h2 h3 F7 N7 hg tk9 t1 t2 t3 hR F9 N9 hkeep
  k_dflt (refine for_range (n := 8) (FacJ news n tn) (by rfl) hR (by decide) (by rfl) F9 N9 ?j0 ?turn ?done)
  case j0 => exact ⟨_, _, _, _, _, kstB_self (by kst_all), rfl, ⟨rfl, by decide⟩, ⟨rfl, by decide⟩, agree_nil⟩
  case turn =>
    clear F9 N9
    rintro i t9 m₁ nx h tk I0 oI0 hi ⟨u, x, y, tx, ty, rfl, rfl, hx, hy, hxy⟩ F9 N9 hI0
    obtain ⟨k, hk⟩ : ∃ k : Int, k = (i : Int) := ⟨_, rfl⟩
    have hkl : 0 ≤ k := by omega
    have hkh : k < 8 := by omega
    rw [show (0 : Int) + (i : Int) * 1 = k from by omega] at F9
    dsimp only [kstB, envOf] at F9
    repeat' ((fail_if_success (with_reducible show wpAny _ _ (binaryOp .FloorDiv _ _) _ _ _)); (first | (k_unfold; (try dsimp only)) | (k_end; wrow_close) | walk1 | (dsimp only; walk1)))
    have hp := ten_pow k.toNat (by omega)
    generalize (10 : Int) ^ k.toNat = P at hp ⊢
    refine floordiv_int (by omega) ?_ (Or.inl (PyProof.noPylong_small (by omega)))
    have hxl : x.length = i := hx.1
    have hyl : y.length = i := hy.1
    obtain ⟨c, hc, hci⟩ := bit_item ((n.fdiv P).fmod 10)
    k_steps
    all_goals
      rename_i F10 N10
      rw [hci] at F10
      refine ⟨_, _, _, nx, rfl, F10, news_drop N10 (by (repeat' (first | (refine fcons ?_ ?_) | (intro p9 hp9; repeat (first | exact hp9 | refine List.mem_cons_of_mem _ ?_)) | k_mem))), (fun p hp => hI0 p hp), ⟨_, _, _, _, _, kstB_self (by kst_all), rfl, signs_cons ?_ hx, signs_cons ?_ hy, agree_cons ?_ hxy⟩⟩ <;> first | exact .inl rfl | exact .inr rfl | exact q_cps | exact c_cps hc | exact ag_l _ | exact ag_r _ | exact ag_e _ | exact ag_q
  case done =>
    clear F9 N9
    rintro m₁ nx h tk ⟨u, x, y, tx, ty, rfl, rfl, hx, hy, hxy⟩ F9 N9
    dsimp only [kstB, envOf] at F9
    k_steps
    exact ret _ x y _ _ _ _ _ hx hy hxy (by k_asm) (by k_asm) (by k_asm)
end
section
noncomputable def isLow (c : Nat) : Prop := c = 120 ∨ c = 121 ∨ c = 122
theorem isLow_L {c : Nat} (h : isLow c) : isL c := by
  rcases h with rfl | rfl | rfl
  · exact .inr (.inr (.inr (.inl rfl)))
  · exact .inr (.inr (.inr (.inr (.inl rfl))))
  · exact .inr (.inr (.inr (.inr (.inr rfl))))
theorem xyz_item (n : Int) : ∃ c, isLow c ∧ Txt.item (Str.ofString "xyz") (n.fmod 3) = ⟨#[c]⟩ := by
  have h0 : 0 ≤ n.fmod 3 := fmod_lo _ (by decide)
  have h1 : n.fmod 3 < 3 := fmod_hi _ (by decide)
  have h : n.fmod 3 = 0 ∨ n.fmod 3 = 1 ∨ n.fmod 3 = 2 := by omega
  rcases h with q | q | q <;> rw [q]
  · exact ⟨120, .inl rfl, by decide⟩
  · exact ⟨121, .inr (.inl rfl), by decide⟩
  · exact ⟨122, .inr (.inr rfl), by decide⟩
noncomputable def opcOf (op : Int) : Nat := if op = 36 then 43 else if op = 37 then 45 else if op = 41 then 38 else if op = 42 then 124 else 94
noncomputable def tilS (b : Bool) : Str := if b then ⟨#[126]⟩ else ⟨#[]⟩
/-- the text of a statement -/
noncomputable def stmText (st : Stm) : Str := ⟨#[st.c1]⟩ ++ ⟨#[opcOf st.op]⟩ ++ Str.ofString "=" ++ tilS st.tl ++ ⟨#[st.c2]⟩ ++ Str.ofString ","
theorem stm_b (c : Nat) (op : Int) (b : Bool) (c2 : Nat) : (⟨#[c]⟩ : Str) ++ ⟨#[opcOf op]⟩ ++ Str.ofString "=" ++ tilS b ++ ⟨#[c2]⟩ ++ Str.ofString "," = stmText ⟨c, op, b, c2⟩ := by unfold stmText; rfl
noncomputable def lowStm (st : Stm) : Prop := okStm st ∧ isLow st.c2
theorem op_item (n : Int) : ∃ op : Int, (op = 36 ∨ op = 37 ∨ op = 41 ∨ op = 42 ∨ op = 43) ∧ Txt.item (Str.ofString "+-&|^") (n.fmod 5) = ⟨#[opcOf op]⟩ := by
  have h0 : 0 ≤ n.fmod 5 := fmod_lo _ (by decide)
  have h1 : n.fmod 5 < 5 := fmod_hi _ (by decide)
  have h : n.fmod 5 = 0 ∨ n.fmod 5 = 1 ∨ n.fmod 5 = 2 ∨ n.fmod 5 = 3 ∨ n.fmod 5 = 4 := by omega
  rcases h with q | q | q | q | q <;> rw [q]
  · exact ⟨36, by decide, by decide⟩
  · exact ⟨37, by decide, by decide⟩
  · exact ⟨41, by decide, by decide⟩
  · exact ⟨42, by decide, by decide⟩
  · exact ⟨43, by decide, by decide⟩
theorem til_mul (n : Int) : ∃ b, Txt.mul (Str.ofString "~") (n.fmod 2) = tilS b := by
  rcases mod2 n with q | q <;> rw [q]
  · exact ⟨false, by decide⟩
  · exact ⟨true, by decide⟩
theorem upper_low {prog : Program} {w : World} {A : Around} {E : Value → Shared → Prop} {s : Shared} {c : Nat} {t : Tok} {Q : Value → Shared → Prop} (h : isLow c) (hq : ∀ t, Q (.str ⟨#[c - 32]⟩ t) { s with toks := s.toks + 1 }) :
    wpAny (model prog w) A (call (.builtin "str.upper") [.str ⟨#[c]⟩ t]) Q E s := by
  have e : Txt.upper ⟨#[c]⟩ = ⟨#[c - 32]⟩ := by
    rcases h with rfl | rfl | rfl <;> decide +kernel
  refine SC.upper (by rw [e]; rfl) ?_
  rw [e]
  exact hq _
theorem isLow_up {c : Nat} (h : isLow c) : isL (c - 32) := by
  rcases h with rfl | rfl | rfl
  · exact .inl rfl
  · exact .inr (.inl rfl)
  · exact .inr (.inr (.inl rfl))
section
variable {prog : Program} {w : World} {A : Around} {E : Value → Shared → Prop} {s : Shared}
theorem store_item {env : Env} {x : Str} {t : Tok} {Q : Unit → Shared → Prop} (f : Int) (h : ∀ c, isLow c → wpAny (model prog w) A (storeName env x (.str ⟨#[c]⟩ t)) Q E s) :
    wpAny (model prog w) A (storeName env x (.str (Txt.item (Str.ofString "xyz") (f.fmod 3)) t)) Q E s := by
  obtain ⟨c, hc, e⟩ := xyz_item f
  rw [e]; exact h c hc
theorem add_item {v : Value} {t : Tok} {Q : Value → Shared → Prop} (f : Int) (h : ∀ op : Int, (op = 36 ∨ op = 37 ∨ op = 41 ∨ op = 42 ∨ op = 43) → wpAny (model prog w) A (binaryOp .Add v (.str ⟨#[opcOf op]⟩ t)) Q E s) :
    wpAny (model prog w) A (binaryOp .Add v (.str (Txt.item (Str.ofString "+-&|^") (f.fmod 5)) t)) Q E s := by
  obtain ⟨c, hc, e⟩ := op_item f
  rw [e]; exact h c hc
theorem add_til {v : Value} {t : Tok} {Q : Value → Shared → Prop} (f : Int) (h : ∀ b, (tilS b).length ≤ 1 → wpAny (model prog w) A (binaryOp .Add v (.str (tilS b) t)) Q E s) :
    wpAny (model prog w) A (binaryOp .Add v (.str (Txt.mul (Str.ofString "~") (f.fmod 2)) t)) Q E s := by
  obtain ⟨b, e⟩ := til_mul f
  rw [e]
  exact h b (by cases b <;> decide)
end

local macro_rules | `(tactic| walk_at "call builtin:str.upper") => `(tactic| (refine' upper_low ?h ?_; (case h => assumption); intro _))
theorem statement_call {w : World} {mean : ExcName → Option Value} {mg mb : Str → Option Value} {dp un : Nat} {gd : Option (List Code)} {cn : Str} {cs : Scope} {a : Addr} {ccd : Value} {cl : List (Str × Addr)} {outer : List Env} {A₀ : Around} {base h₀ : Heap} {L : Addr} {m : Str → Option Value} {news : List (Addr × Obj)} {s : Shared} {Q E : Value → Shared → Prop}
    (B : Below A₀ base outer h₀) (F : Fr h₀ L s.heap m) (X : (hd.heap_39 w.params).In h₀) (N : News h₀ L s.heap news) (T : Top hd.view_39 (looseW hd.view_39 [Str.ofString "EXACT_TOKEN_TYPES", Str.ofString "tspecials", Str.ofString "_name_disallowed_re", Str.ofString "_value_disallowed_re", Str.ofString "_formatparam"]) mean mg mb h₀) (hk : cs.kind = .function) (hd : dp + 4 < recursionLimit) (hu : un + 32 < cLine)
    {k n : Int} {tk0 tn : Tok}
    (ret : ∀ st t h' tk', lowStm st → Fr h₀ L h' m → News h₀ L h' news → Q (.str (stmText st) t) { s with heap := h', toks := tk' }) :
    wpAny (model PySem.Challenge.rw_we0031_01.row.prog w) (ktrTop dp un gd cn cs L a ccd cl outer) (call (.ref 266) [.int k tk0, .int n tn]) Q E s := by
  w_top off
  k_with_none
  refine fill_here (fun hfill => ?_)
  revert hfill
  k_fill
  intro _
  refine wpAny_call ?_
  k_dflt ktr_enter
  rename_i g7 L7 h7 FG7 F7 N7 B7 X7 T7
  repeat' ((fail_if_success (with_reducible show wpAny _ _ (storeName _ _ _) _ _ _)); (first | (k_unfold; (try dsimp only)) | (k_end; wrow_close) | walk1 | (dsimp only; walk1)))
  refine store_item _ (fun c1 hc1 => ?_)
  walk1
  repeat' ((fail_if_success (with_reducible show wpAny _ _ (storeName _ _ _) _ _ _)); (first | (k_unfold; (try dsimp only)) | (k_end; wrow_close) | walk1 | (dsimp only; walk1)))
  refine store_item _ (fun c2 hc2 => ?_)
  walk1
  repeat' ((fail_if_success (with_reducible show wpAny _ _ (exec (Stmt.If _ _ _ _) _) _ _ _)); (first | (k_unfold; (try dsimp only)) | (k_end; wrow_close) | walk1 | (dsimp only; walk1)))
  refine wpAny_mono (Q := fun fl s' => fl = Flow.next ∧ ∃ (c : Nat) (h : Heap) (tk : Nat) (u : Str → Option Value) (t t2 : Tok), isL c ∧ s' = { s with heap := h, toks := tk } ∧
    Fr g7 L7 h (kstB u [(Str.ofString "name", .str ⟨#[c]⟩ t), (Str.ofString "other", .str ⟨#[c2]⟩ t2), (Str.ofString "number", .int n tn)]) ∧ News g7 L7 h news) ?ja ?jb (fun _ _ e => e)
  case ja =>
    repeat' ((fail_if_success (with_reducible show _ = Flow.next ∧ _)); (first | (k_unfold; (try dsimp only)) | (k_end; wrow_close) | walk1 | (dsimp only; walk1)))
    · exact ⟨rfl, c1 - 32, _, _, _, _, _, isLow_up hc1, rfl, fr_canon (by k_asm) (by kst_all), by k_asm⟩
    · exact ⟨rfl, c1, _, _, _, _, _, isLow_L hc1, rfl, fr_canon (by k_asm) (by kst_all), by k_asm⟩
  case jb =>
    rename_i F8 N8
    clear F8 N8
    rintro fl s' ⟨rfl, c, h, tk, u, t, t2, hc, rfl, F9, N9⟩
    dsimp only [kstB] at F9
    dsimp only
    repeat' ((fail_if_success (with_reducible show wpAny _ _ (binaryOp .Add (.str _ _) _) _ _ _)); (first | (k_unfold; (try dsimp only)) | (k_end; wrow_close) | walk1 | (dsimp only; walk1)))
    refine add_item _ (fun op hop => ?_)
    walk1
    try dsimp only
    repeat' ((fail_if_success (with_reducible show wpAny _ _ (binaryOp .Add _ (.str (Txt.mul _ _) _)) _ _ _)); (first | (k_unfold; (try dsimp only)) | (k_end; wrow_close) | walk1 | (dsimp only; walk1)))
    refine add_til _ (fun b hb => ?_)
    k_steps
    rw [stm_b]; exact ret _ _ _ _ ⟨⟨hc, isLow_L hc2, hop⟩, hc2⟩ (by k_asm) (by k_asm)
end
section
noncomputable def opF (d : Nat) (a b c : Int) : Int := if d = 43 then a + b + c else if d = 45 then a - b + c else if d = 38 then (if b < a then b else a) else if d = 124 then (if b > a then b else a) else (if a - b < 0 then -(a - b) else a - b)
noncomputable def sumsF (d : Nat) (A B C : List Int) : List Int := A.flatMap fun a => B.flatMap fun b => C.map fun c => opF d a b c
noncomputable def bitsF (S : List Int) : List Int := S.map fun n => Int.fmod n 2
noncomputable def halfF (S : List Int) : List Int := S.map fun n => Int.fdiv n 2
noncomputable def bitT (S : List Int) : Str := if (0 : Int) ∈ bitsF S ∧ (1 : Int) ∈ bitsF S then ⟨#[63]⟩ else Txt.item (Str.ofString "01") ((bitsF S).headD 0)
noncomputable def carF (S : List Int) : List Int := [-1, 0, 1].filter fun n => decide (n ∈ halfF S)
noncomputable def handSums (d : Nat) (x y : Str) (i : Nat) (C : List Int) : List Int := sumsF d (mayS (Txt.item x (7 - (i : Int)))) (mayS (Txt.item y (7 - (i : Int)))) C
noncomputable def handStep (d : Nat) (x y : Str) (i : Nat) (c : Str × List Int) : Str × List Int := (bitT (handSums d x y i c.2) ++ c.1, carF (handSums d x y i c.2))
@[irreducible] noncomputable def handIter (d : Nat) (x y : Str) (n : Nat) : Str × List Int := Nat.rec (Str.ofString "", [0]) (fun i c => handStep d x y i c) n
theorem handIter_zero (d : Nat) (x y : Str) : handIter d x y 0 = (Str.ofString "", [0]) := by unfold handIter; rfl
theorem handIter_succ (d : Nat) (x y : Str) (n : Nat) : handIter d x y (n + 1) = handStep d x y n (handIter d x y n) := by unfold handIter; rfl
noncomputable def handF (d : Nat) (x y : Str) : Str := (handIter d x y 8).1
theorem mayS_bit {x : Str} {a : Int} (h : a ∈ mayS x) : a = 0 ∨ a = 1 := by
  unfold mayS at h
  split at h
  · simpa using h
  · split at h
    · exact .inr (by simpa using h)
    · exact .inl (by simpa using h)
theorem mayS_ne (x : Str) : mayS x ≠ [] := by
  unfold mayS
  split
  · simp
  · split <;> simp
noncomputable def okCar (C : List Int) : Prop := C ≠ [] ∧ ∀ c ∈ C, -1 ≤ c ∧ c ≤ 1
theorem opF_le {d : Nat} {a b c : Int} (ha : a = 0 ∨ a = 1) (hb : b = 0 ∨ b = 1) (hc : -1 ≤ c ∧ c ≤ 1) : -2 ≤ opF d a b c ∧ opF d a b c ≤ 3 := by
  unfold opF
  rcases ha with rfl | rfl <;> rcases hb with rfl | rfl <;> (repeat' split) <;> first | omega | decide
theorem mem_sums {d : Nat} {A B C : List Int} {n : Int} : n ∈ sumsF d A B C ↔ ∃ a ∈ A, ∃ b ∈ B, ∃ c ∈ C, opF d a b c = n := by
  simp [sumsF, List.mem_flatMap]
theorem sums_ne {d : Nat} {A B C : List Int} (hA : A ≠ []) (hB : B ≠ []) (hC : C ≠ []) : sumsF d A B C ≠ [] := by
  obtain ⟨a, ha⟩ := List.exists_mem_of_ne_nil _ hA
  obtain ⟨b, hb⟩ := List.exists_mem_of_ne_nil _ hB
  obtain ⟨c, hc⟩ := List.exists_mem_of_ne_nil _ hC
  exact List.ne_nil_of_mem (mem_sums.mpr ⟨a, ha, b, hb, c, hc, rfl⟩)
theorem handSums_ne {d : Nat} {x y : Str} {i : Nat} {C : List Int} (h : okCar C) : handSums d x y i C ≠ [] := sums_ne (mayS_ne _) (mayS_ne _) h.1
theorem handSums_le {d : Nat} {x y : Str} {i : Nat} {C : List Int} (h : okCar C) : ∀ n ∈ handSums d x y i C, -2 ≤ n ∧ n ≤ 3 := by
  intro n hn
  obtain ⟨a, ha, b, hb, c, hc, rfl⟩ := mem_sums.mp hn
  exact opF_le (mayS_bit ha) (mayS_bit hb) (h.2 c hc)
theorem okCar_step {S : List Int} (h : S ≠ []) (hS : ∀ n ∈ S, -2 ≤ n ∧ n ≤ 3) : okCar (carF S) := by
  obtain ⟨n, hn⟩ := List.exists_mem_of_ne_nil _ h
  constructor
  · have h1 := hS n hn
    have h2 : Int.fdiv n 2 ∈ halfF S := List.mem_map_of_mem hn
    have h3 : Int.fdiv n 2 = -1 ∨ Int.fdiv n 2 = 0 ∨ Int.fdiv n 2 = 1 := by
      have : n = -2 ∨ n = -1 ∨ n = 0 ∨ n = 1 ∨ n = 2 ∨ n = 3 := by omega
      rcases this with rfl | rfl | rfl | rfl | rfl | rfl <;> decide
    refine List.ne_nil_of_mem (a := Int.fdiv n 2) (List.mem_filter.mpr ⟨?_, decide_eq_true h2⟩)
    rcases h3 with e | e | e <;> rw [e] <;> decide
  · intro c hc
    have := (List.mem_filter.mp hc).1
    simp only [List.mem_cons, List.not_mem_nil, or_false] at this
    omega
theorem okCar_hand (d : Nat) (x y : Str) (n : Nat) : okCar (handIter d x y n).2 := by
  induction n with
  | zero => rw [handIter_zero]; exact ⟨by simp, by simp⟩
  | succ n ih => rw [handIter_succ]; exact okCar_step (handSums_ne ih) (handSums_le ih)
theorem ints_get {us : List Value} {ns : List Int} (h : IntsAre us ns) : ∀ {i : Nat} {v : Value}, us[i]? = some v → ∃ n t, ns[i]? = some n ∧ v = .int n t := by
  induction h with
  | nil => intro i v e; simp at e
  | cons n t r ih =>
    intro i v e
    cases i with
    | zero => exact ⟨n, t, by simp, by simpa using e.symm⟩
    | succ i =>
      have := ih (i := i) (v := v) (by simpa using e)
      simpa using this
theorem IntsAre.snoc {us : List Value} {ns : List Int} {n : Int} {t : Tok} (h : IntsAre us ns) : IntsAre (us ++ [.int n t]) (ns ++ [n]) := h.append (.cons n t .nil)
theorem bitsF_bit {S : List Int} {n : Int} (h : n ∈ bitsF S) : n = 0 ∨ n = 1 := by
  obtain ⟨a, _, rfl⟩ := List.mem_map.mp h
  exact mod2 a
theorem bitT_len (S : List Int) : (bitT S).length = 1 := by unfold bitT; split <;> rfl
theorem hand_len (d : Nat) (x y : Str) (n : Nat) : (handIter d x y n).1.length = n := by
  induction n with
  | zero => rw [handIter_zero]; rfl
  | succ n ih => rw [handIter_succ]; show (bitT _ ++ _).length = _; rw [Str.length_append, bitT_len, ih]; omega
theorem mayS_len (x : Str) : (mayS x).length ≤ 2 := by
  unfold mayS
  split
  · simp
  · split <;> simp
theorem car_len (S : List Int) : (carF S).length ≤ 3 := List.length_filter_le _ _
theorem handCar_len (d : Nat) (x y : Str) (n : Nat) : (handIter d x y n).2.length ≤ 3 := by
  cases n with
  | zero => rw [handIter_zero]; decide
  | succ n => rw [handIter_succ]; exact car_len _
theorem sums_len1 (d : Nat) (a : Int) (B C : List Int) : (B.flatMap fun b => C.map fun c => opF d a b c).length = B.length * C.length := by
  induction B with
  | nil => simp
  | cons b B ih2 => rw [List.flatMap_cons, List.length_append, ih2, List.length_map, List.length_cons, Nat.add_mul, Nat.one_mul, Nat.add_comm]
theorem sums_len (d : Nat) (A B C : List Int) : (sumsF d A B C).length = A.length * (B.length * C.length) := by
  unfold sumsF
  induction A with
  | nil => simp
  | cons a A ih =>
    rw [List.flatMap_cons, List.length_append, ih, List.length_cons]
    rw [sums_len1, Nat.add_mul, Nat.one_mul, Nat.add_comm]
theorem sums_le {d : Nat} {A B C : List Int} (ha : A.length ≤ 2) (hb : B.length ≤ 2) (hc : C.length ≤ 3) : (sumsF d A B C).length ≤ 12 := by
  rw [sums_len]
  calc _ ≤ 2 * (2 * 3) := Nat.mul_le_mul ha (Nat.mul_le_mul hb hc)
    _ = 12 := rfl
theorem three_le {d : Nat} {A B C : List Int} {a b : Int} {j j2 j3 : Nat} {sv : List Value} (h : IntsAre sv (sumsF d (A.take j) B C ++ sumsF d [a] (B.take j2) C ++ sumsF d [a] [b] (C.take j3))) (ha : A.length ≤ 2) (hb : B.length ≤ 2) (hc : C.length ≤ 3) : sv.length ≤ 1000 := by
  rw [h.length, List.length_append, List.length_append]
  have h1 := sums_le (d := d) (A := A.take j) (B := B) (C := C) (Nat.le_trans (List.length_take_le' _ _) ha) hb hc
  have h2 := sums_le (d := d) (A := [a]) (B := B.take j2) (C := C) (by simp) (Nat.le_trans (List.length_take_le' _ _) hb) hc
  have h3 := sums_le (d := d) (A := [a]) (B := [b]) (C := C.take j3) (by simp) (by simp) (Nat.le_trans (List.length_take_le' _ _) hc)
  omega
theorem sums_snocC {d : Nat} {a b c : Int} {C : List Int} {j : Nat} (h : C[j]? = some c) : sumsF d [a] [b] (C.take (j + 1)) = sumsF d [a] [b] (C.take j) ++ [opF d a b c] := by
  rw [show C.take (j + 1) = C.take j ++ [c] from by simp [List.take_add_one, h]]
  simp [sumsF]
theorem sums_snocB {d : Nat} {a b : Int} {B C : List Int} {j : Nat} (h : B[j]? = some b) : sumsF d [a] (B.take (j + 1)) C = sumsF d [a] (B.take j) C ++ sumsF d [a] [b] C := by
  rw [show B.take (j + 1) = B.take j ++ [b] from by simp [List.take_add_one, h]]
  simp [sumsF]
theorem sums_snocA {d : Nat} {a : Int} {A B C : List Int} {j : Nat} (h : A[j]? = some a) : sumsF d (A.take (j + 1)) B C = sumsF d (A.take j) B C ++ sumsF d [a] B C := by
  rw [show A.take (j + 1) = A.take j ++ [a] from by simp [List.take_add_one, h]]
  simp [sumsF]
theorem ch_yes {d : Nat} {x : Str} (k : Nat) (e : x = { cps := #[k] }) (h : (({ cps := #[d] } : Str) == x) = true) : d = k := by
  rw [e, one_beq] at h; exact of_decide_eq_true h
theorem ch_no {d : Nat} {x : Str} (k : Nat) (e : x = { cps := #[k] }) (h : (({ cps := #[d] } : Str) == x) = false) : ¬ d = k := by
  rw [e, one_beq] at h; exact of_decide_eq_false h
theorem op_43 {d : Nat} {a b c : Int} (h : (({ cps := #[d] } : Str) == Str.ofString "+") = true) : a + b + c = opF d a b c := by
  unfold opF; rw [if_pos (ch_yes 43 (by decide) h)]
theorem op_45 {d : Nat} {a b c : Int} (h1 : (({ cps := #[d] } : Str) == Str.ofString "+") = false) (h : (({ cps := #[d] } : Str) == Str.ofString "-") = true) : a - b + c = opF d a b c := by
  unfold opF; rw [if_neg (ch_no 43 (by decide) h1), if_pos (ch_yes 45 (by decide) h)]
theorem op_38 {d : Nat} {a b c : Int} (h1 : (({ cps := #[d] } : Str) == Str.ofString "+") = false) (h2 : (({ cps := #[d] } : Str) == Str.ofString "-") = false) (h : (({ cps := #[d] } : Str) == Str.ofString "&") = true) : (if b < a then b else a) = opF d a b c := by
  unfold opF; rw [if_neg (ch_no 43 (by decide) h1), if_neg (ch_no 45 (by decide) h2), if_pos (ch_yes 38 (by decide) h)]
theorem op_124 {d : Nat} {a b c : Int} (h1 : (({ cps := #[d] } : Str) == Str.ofString "+") = false) (h2 : (({ cps := #[d] } : Str) == Str.ofString "-") = false) (h3 : (({ cps := #[d] } : Str) == Str.ofString "&") = false) (h : (({ cps := #[d] } : Str) == Str.ofString "|") = true) : (if b > a then b else a) = opF d a b c := by
  unfold opF; rw [if_neg (ch_no 43 (by decide) h1), if_neg (ch_no 45 (by decide) h2), if_neg (ch_no 38 (by decide) h3), if_pos (ch_yes 124 (by decide) h)]
theorem op_94 {d : Nat} {a b c : Int} (h1 : (({ cps := #[d] } : Str) == Str.ofString "+") = false) (h2 : (({ cps := #[d] } : Str) == Str.ofString "-") = false) (h3 : (({ cps := #[d] } : Str) == Str.ofString "&") = false) (h : (({ cps := #[d] } : Str) == Str.ofString "|") = false) : (if a - b < 0 then -(a - b) else a - b) = opF d a b c := by
  unfold opF; rw [if_neg (ch_no 43 (by decide) h1), if_neg (ch_no 45 (by decide) h2), if_neg (ch_no 38 (by decide) h3), if_neg (ch_no 124 (by decide) h)]
theorem ints_mem {us : List Value} {ns : List Int} (h : IntsAre us ns) {v : Value} (hv : v ∈ us) : ∃ n t, v = .int n t ∧ n ∈ ns := by
  obtain ⟨i, hi, e⟩ := List.getElem_of_mem hv
  obtain ⟨n, t, h1, h2⟩ := ints_get h (i := i) (v := v) (by simp [hi, e])
  exact ⟨n, t, h2, List.mem_of_getElem? h1⟩
theorem ints_map {f : Int → Int} {us ys : List Value} {ns : List Int} (h : IntsAre us ns) : Paired (fun v y => ∃ n t t', v = Value.int n t ∧ y = Value.int (f n) t') us ys → IntsAre ys (ns.map f) := by
  induction h generalizing ys with
  | nil => intro q; cases q; exact .nil
  | cons n t r ih =>
    intro q
    cases q with
    | cons e q =>
      obtain ⟨n', t1, t2, e1, e2⟩ := e
      injection e1 with e3 _
      subst e3 e2
      exact .cons _ _ (ih q)
theorem filter_all {α : Type} (l : List α) : (l.filter fun _ => true) = l := List.filter_eq_self.mpr fun _ _ => rfl
end
section
open PyProof.V PySem.Spec PySem.Calls
noncomputable def KF (x y z : Str) : Nat → Str := fun c => if c = 120 then x else if c = 121 then y else z
noncomputable def setK (K : Nat → Str) (c : Nat) (v : Str) : Nat → Str := fun d => if d = c then v else K d
noncomputable def tabD (K : Nat → Str) : List (PyData × PyData) := [(.str ⟨#[120]⟩, .str (K 120)), (.str ⟨#[121]⟩, .str (K 121)), (.str ⟨#[122]⟩, .str (K 122))]
theorem look_K {K : Nat → Str} {c : Nat} (h : isLow c) : lookup (.str ⟨#[c]⟩) (tabD K) = some (.str (K c)) := by
  rcases h with rfl | rfl | rfl <;> rfl
theorem put_K {K : Nat → Str} {c : Nat} {v : Str} (h : isLow c) : putD (.str ⟨#[c]⟩) (.str v) (tabD K) = tabD (setK K c v) := by
  rcases h with rfl | rfl | rfl <;> rfl
section
variable {prog : Program} {w : World} {A : Around} {E : Value → Shared → Prop} {s : Shared} {h₀ : Heap} {L d : Addr} {m : Str → Option Value} {news : List (Addr × Obj)} {o : Obj} {kvs : List (Str × Value)} {K : Nat → Str}
/-- known[c] -/
theorem known_get {value slice : PySem.Expr} {c : Nat} {t : Tok} {Q : Value → Shared → Prop} (N : News h₀ L s.heap news) (hm : (d, o) ∈ news) (lo : (d == sysModules) = false) (hd : o.IsDictOf (strKind prog w) kvs) (hf : FlatPairs PyData.str kvs (tabD K)) (hc : isLow c)
    (h : ∀ t', Q (.str (K c) t') { s with toks := s.toks + 1 })
    (hs : subscripted slice false (.ref d) (.str ⟨#[c]⟩ t) = operate [.ref d, .str ⟨#[c]⟩ t] (getItem (.ref d) (.str ⟨#[c]⟩ t)) := by with_unfolding_all rfl) (hg : ∀ r, letTemporaryGo value (.ref d) r = pure () := by intro _; with_unfolding_all rfl) :
    wpAny (model prog w) A (subscriptTail value slice (.ref d) (.str ⟨#[c]⟩ t)) Q E s := by
  refine item_strTab (D := tabD K) (TabAt.ofNews N hm lo hd hf) (look_K hc) (fun v hv => ?_) hs hg
  cases hv s.heap
  exact h _
/-- known[c] = v -/
theorem known_set {c : Nat} {t tv : Tok} {v : Str} {Q : Unit → Shared → Prop} (F : Fr h₀ L s.heap m) (N : News h₀ L s.heap ((d, o) :: news)) (hne : ∀ p ∈ news, p.1 ≠ d) (hd : o.IsDictOf (strKind prog w) kvs) (hf : FlatPairs PyData.str kvs (tabD K)) (hc : isLow c)
    (h : ∀ h' o' kvs', Fr h₀ L h' m → News h₀ L h' ((d, o') :: news) → o'.IsDictOf (strKind prog w) kvs' → FlatPairs PyData.str kvs' (tabD (setK K c v)) → Q () { s with heap := h', toks := s.toks + 1 }) :
    wpAny (model prog w) A (setItem (.ref d) (.str ⟨#[c]⟩ t) (.str v tv)) Q E s := by
  refine setItem_K PyProof.V.same_str (strKind_is _ _ _ _) (.str _ _) F N (.head hne) hd hf (fun h' o' F' N' hd' hf' => ?_) (by rw [sizeLine_eq]; exact (by decide : 3 ≤ 16777216))
  refine h h' o' _ F' N' hd' ?_
  have := put_K (K := K) (v := v) hc
  rw [← this]; exact hf'
end
end
section
noncomputable def flipC (c : Nat) : Nat := if c = 48 then 49 else if c = 49 then 48 else 63
noncomputable def flipF (x : Str) : Str := ⟨(x.cps.toList.map flipC).toArray⟩
noncomputable def otherF (K : Nat → Str) (st : Stm) : Str := if st.tl then flipF (K st.c2) else K st.c2
abbrev RuleSt := (Nat → Str) × List (Nat × Str)
noncomputable def stepRule (c : RuleSt) (st : Stm) : RuleSt :=
  (setK c.1 (lo1 st.c1) (handF (opcOf st.op) (c.1 (lo1 st.c1)) (otherF c.1 st)),
    (c.2.filter fun r => decide (lo1 r.1 ≠ lo1 st.c1)) ++ [(st.c1, handF (opcOf st.op) (c.1 (lo1 st.c1)) (otherF c.1 st))])
noncomputable def ruleAt (c : RuleSt) (sts : List Stm) : RuleSt := sts.foldl stepRule c
noncomputable def histRule (c : RuleSt) (sts : List Stm) (i : Nat) : List (List (Nat × Str)) := (List.range i).map fun j => (ruleAt c (sts.take (j + 1))).2
theorem ruleAt_snoc {c : RuleSt} {sts : List Stm} {i : Nat} {st : Stm} (h : sts[i]? = some st) : ruleAt c (sts.take (i + 1)) = stepRule (ruleAt c (sts.take i)) st := by
  unfold ruleAt; rw [take_snoc h, List.foldl_append]; rfl
theorem histRule_succ (c : RuleSt) (sts : List Stm) (i : Nat) : histRule c sts (i + 1) = histRule c sts i ++ [(ruleAt c (sts.take (i + 1))).2] := by
  unfold histRule; rw [List.range_succ, List.map_append]; rfl
theorem isLow_lo {c : Nat} (h : isL c) : isLow (lo1 c) := by
  rcases h with rfl | rfl | rfl | rfl | rfl | rfl <;> (unfold isLow; decide)
theorem bitT_signs {S : List Int} (h : S ≠ []) : ∀ c ∈ (bitT S).cps.toList, c = 48 ∨ c = 49 ∨ c = 63 := by
  unfold bitT
  split
  · intro c hc
    have : c = 63 := by simpa using hc
    exact .inr (.inr this)
  · obtain ⟨b0, br, hb⟩ : ∃ b0 br, bitsF S = b0 :: br := by
      cases q : bitsF S with
      | nil => exact absurd (List.map_eq_nil_iff.mp q) h
      | cons b0 br => exact ⟨b0, br, rfl⟩
    have h01 : b0 = 0 ∨ b0 = 1 := bitsF_bit (S := S) (by rw [hb]; exact List.mem_cons_self)
    rw [hb]
    show ∀ c ∈ (Txt.item (Str.ofString "01") b0).cps.toList, _
    rcases h01 with rfl | rfl
    · rw [show Txt.item (Str.ofString "01") 0 = ⟨#[48]⟩ from by decide]
      intro c hc
      exact .inl (by simpa using hc)
    · rw [show Txt.item (Str.ofString "01") 1 = ⟨#[49]⟩ from by decide]
      intro c hc
      exact .inr (.inl (by simpa using hc))
theorem hand_signs (d : Nat) (x y : Str) : signs8 (handF d x y) := by
  refine ⟨hand_len d x y 8, ?_⟩
  have go : ∀ n, ∀ c ∈ (handIter d x y n).1.cps.toList, c = 48 ∨ c = 49 ∨ c = 63 := by
    intro n
    induction n with
    | zero => rw [handIter_zero, show (Str.ofString "", [(0 : Int)]).1.cps.toList = [] from by decide]; intro c hc; cases hc
    | succ n ih =>
      rw [handIter_succ]
      intro c hc
      have hc' : c ∈ (bitT (handSums d x y n (handIter d x y n).2)).cps.toList ++ (handIter d x y n).1.cps.toList := by rw [← cps_append]; exact hc
      rcases List.mem_append.mp hc' with q | q
      · exact bitT_signs (handSums_ne (okCar_hand d x y n)) c q
      · exact ih c q
  exact go 8
theorem flip_signs {x : Str} (h : signs8 x) : signs8 (flipF x) := by
  refine ⟨?_, fun c hc => ?_⟩
  · show (List.toArray (x.cps.toList.map flipC)).size = 8
    rw [List.size_toArray, List.length_map, Array.length_toList]; exact h.1
  · have hc' : c ∈ x.cps.toList.map flipC := by simpa [flipF] using hc
    obtain ⟨d, _, rfl⟩ := List.mem_map.mp hc'
    unfold flipC
    split
    · exact .inr (.inl rfl)
    · split
      · exact .inl rfl
      · exact .inr (.inr rfl)
/-- the three texts known by hand -/
noncomputable def okK (K : Nat → Str) : Prop := ∀ c, isLow c → signs8 (K c)
theorem okK_step {c : RuleSt} {st : Stm} (h : okK c.1) : okK (stepRule c st).1 := by
  intro d hd
  show signs8 (setK _ _ _ d)
  unfold setK
  split
  · exact hand_signs _ _ _
  · exact h d hd
end
section
noncomputable def isBit (a : Int) : Prop := a = 0 ∨ a = 1
theorem nat_and2 (m n a b : Nat) (ha : a < 2) (hb : b < 2) : (2 * m + a) &&& (2 * n + b) = 2 * (m &&& n) + (a &&& b) := by
  apply Nat.eq_of_testBit_eq
  intro i
  cases i with
  | zero =>
    rw [Nat.testBit_and]
    have h1 : a = 0 ∨ a = 1 := by omega
    have h2 : b = 0 ∨ b = 1 := by omega
    rcases h1 with rfl | rfl <;> rcases h2 with rfl | rfl <;> simp [Nat.testBit_zero] <;> omega
  | succ i =>
    rw [Nat.testBit_and, Nat.testBit_succ, Nat.testBit_succ, Nat.testBit_succ]
    have e3 : a &&& b < 2 := Nat.lt_of_le_of_lt Nat.and_le_left ha
    rw [show (2 * m + a) / 2 = m from by omega, show (2 * n + b) / 2 = n from by omega, show (2 * (m &&& n) + (a &&& b)) / 2 = m &&& n from by omega, Nat.testBit_and]
theorem nat_or2 (m n a b : Nat) (ha : a < 2) (hb : b < 2) : (2 * m + a) ||| (2 * n + b) = 2 * (m ||| n) + (a ||| b) := by
  have h1 := nat_or_add_and (2 * m + a) (2 * n + b)
  have h2 := nat_or_add_and m n
  have h3 := nat_or_add_and a b
  rw [nat_and2 m n a b ha hb] at h1
  omega
theorem not_two (x a : Int) : Builtin.bitNot (2 * x + a) = 2 * Builtin.bitNot x + (1 - a) := by
  unfold Builtin.bitNot; omega
theorem toNat2 {x : Int} (h : 0 ≤ x) (a : Nat) : (2 * x + (a : Int)).toNat = 2 * x.toNat + a := by omega
theorem sub1 {a : Nat} (h : a < 2) : (1 : Int) - a = ((1 - a : Nat) : Int) := by omega
theorem two_pos {x : Int} (h : 0 ≤ x) (a : Nat) : 0 ≤ 2 * x + (a : Int) := by omega
theorem two_neg {x : Int} (h : ¬ 0 ≤ x) {a : Nat} (ha : a < 2) : ¬ 0 ≤ 2 * x + (a : Int) := by omega
theorem not_pos {x : Int} (h : ¬ 0 ≤ x) : 0 ≤ Builtin.bitNot x := by unfold Builtin.bitNot; omega
theorem sub_lt2 (a : Nat) : 1 - a < 2 := by omega
theorem bit_cases {a : Nat} (h : a < 2) : a = 0 ∨ a = 1 := by omega
theorem and_two {x y a b : Int} (ha : isBit a) (hb : isBit b) : Builtin.bitAnd (2 * x + a) (2 * y + b) = 2 * Builtin.bitAnd x y + a * b := by
  obtain ⟨a', rfl, ha'⟩ : ∃ a' : Nat, a = (a' : Int) ∧ a' < 2 := by rcases ha with rfl | rfl; exact ⟨0, rfl, by omega⟩; exact ⟨1, rfl, by omega⟩
  obtain ⟨b', rfl, hb'⟩ : ∃ b' : Nat, b = (b' : Int) ∧ b' < 2 := by rcases hb with rfl | rfl; exact ⟨0, rfl, by omega⟩; exact ⟨1, rfl, by omega⟩
  have hab : ((a' &&& b' : Nat) : Int) = (a' : Int) * b' := by
    have h1 := bit_cases ha'
    have h2 := bit_cases hb'
    rcases h1 with rfl | rfl <;> rcases h2 with rfl | rfl <;> rfl
  have hab1 : ((a' &&& (1 - b') : Nat) : Int) = (a' : Int) - a' * b' := by
    have h1 := bit_cases ha'
    have h2 := bit_cases hb'
    rcases h1 with rfl | rfl <;> rcases h2 with rfl | rfl <;> rfl
  have hab2 : ((b' &&& (1 - a') : Nat) : Int) = (b' : Int) - a' * b' := by
    have h1 := bit_cases ha'
    have h2 := bit_cases hb'
    rcases h1 with rfl | rfl <;> rcases h2 with rfl | rfl <;> rfl
  have hab3 : (((1 - a') ||| (1 - b') : Nat) : Int) = 1 - (a' : Int) * b' := by
    have h1 := bit_cases ha'
    have h2 := bit_cases hb'
    rcases h1 with rfl | rfl <;> rcases h2 with rfl | rfl <;> rfl
  have nx := not_two x a'
  have ny := not_two y b'
  rw [sub1 ha'] at nx
  rw [sub1 hb'] at ny
  by_cases hx : 0 ≤ x <;> by_cases hy : 0 ≤ y
  · rw [bitAnd_pp hx hy, bitAnd_pp (two_pos hx a') (two_pos hy b'), toNat2 hx, toNat2 hy, nat_and2 _ _ _ _ ha' hb']
    omega
  · rw [bitAnd_pn hx hy, bitAnd_pn (two_pos hx a') (two_neg hy hb'), ny, toNat2 hx, toNat2 (not_pos hy), nat_and2 _ _ _ _ ha' (sub_lt2 b')]
    omega
  · rw [bitAnd_np hx hy, bitAnd_np (two_neg hx ha') (two_pos hy b'), nx, toNat2 hy, toNat2 (not_pos hx), nat_and2 _ _ _ _ hb' (sub_lt2 a')]
    omega
  · rw [bitAnd_nn hx hy, bitAnd_nn (two_neg hx ha') (two_neg hy hb'), nx, ny, toNat2 (not_pos hx), toNat2 (not_pos hy), nat_or2 _ _ _ _ (sub_lt2 a') (sub_lt2 b')]
    unfold Builtin.bitNot
    omega
theorem or_two {x y a b : Int} (ha : isBit a) (hb : isBit b) : Builtin.bitOr (2 * x + a) (2 * y + b) = 2 * Builtin.bitOr x y + (a + b - a * b) := by
  have h := and_two (x := x) (y := y) ha hb
  rw [bitOr_and, bitOr_and]
  have h' : Builtin.bitAnd (2 * x + a) (2 * y + b) = 2 * Builtin.bitAnd x y + a * b := h
  rw [h']; omega
theorem xor_two {x y a b : Int} (ha : isBit a) (hb : isBit b) : Builtin.bitXor (2 * x + a) (2 * y + b) = 2 * Builtin.bitXor x y + (a + b - 2 * (a * b)) := by
  have h := and_two (x := x) (y := y) ha hb
  rw [bitXor_and, bitXor_and]
  have h' : Builtin.bitAnd (2 * x + a) (2 * y + b) = 2 * Builtin.bitAnd x y + a * b := h
  rw [h']; omega
end
section
noncomputable def loC (c : Nat) : Int := if c = 49 then 1 else 0
noncomputable def lzC (c : Nat) : Int := if c = 63 then 1 else 0
theorem loC_bit (c : Nat) : isBit (loC c) := by unfold loC; split; exact .inr rfl; exact .inl rfl
theorem lzC_bit (c : Nat) : isBit (lzC c) := by unfold lzC; split; exact .inr rfl; exact .inl rfl
/-- the numbers of a text, its signs from the low end -/
noncomputable def oN : List Nat → Int
  | [] => 0
  | c :: cs => 2 * oN cs + loC c
noncomputable def lN : List Nat → Int
  | [] => 0
  | c :: cs => 2 * lN cs + lzC c
noncomputable def orI (a b : Int) : Int := a + b - a * b
noncomputable def xorI (a b : Int) : Int := a + b - 2 * (a * b)
theorem orI_bit {a b : Int} (ha : isBit a) (hb : isBit b) : isBit (orI a b) := by
  rcases ha with rfl | rfl <;> rcases hb with rfl | rfl <;> unfold isBit orI <;> omega
theorem xorI_bit {a b : Int} (ha : isBit a) (hb : isBit b) : isBit (xorI a b) := by
  rcases ha with rfl | rfl <;> rcases hb with rfl | rfl <;> unfold isBit xorI <;> omega
theorem mul_bit {a b : Int} (ha : isBit a) (hb : isBit b) : isBit (a * b) := by
  rcases ha with rfl | rfl <;> rcases hb with rfl | rfl <;> unfold isBit <;> omega
theorem neg_bit {a : Int} (ha : isBit a) : isBit (1 - a) := by
  rcases ha with rfl | rfl <;> unfold isBit <;> omega
theorem fm2 {q r : Int} (h : isBit r) : Int.fmod (2 * q + r) 2 = r ∧ Int.fdiv (2 * q + r) 2 = q := by
  rw [Int.fmod_eq_emod_of_nonneg _ (by decide), Int.fdiv_eq_ediv_of_nonneg _ (by decide)]
  rcases h with rfl | rfl <;> omega
theorem fmod_bit (n : Int) : isBit (Int.fmod n 2) := mod2 n
theorem split2 (n : Int) : n = 2 * Int.fdiv n 2 + Int.fmod n 2 := by
  rw [Int.fmod_eq_emod_of_nonneg _ (by decide), Int.fdiv_eq_ediv_of_nonneg _ (by decide)]
  omega
noncomputable def looI (l1 l2 p q : Int) : Int := Builtin.bitOr (Builtin.bitOr l1 l2) (Builtin.bitXor p q)
noncomputable def oneI (u L : Int) : Int := Builtin.bitAnd u (Builtin.bitNot L)
noncomputable def sF (x y p q : Int) : Int := orI (orI x y) (xorI p q)
theorem sF_bit {x y p q : Int} (hx : isBit x) (hy : isBit y) (hp : isBit p) (hq : isBit q) : isBit (sF x y p q) := orI_bit (orI_bit hx hy) (xorI_bit hp hq)
theorem looI_two {l1 l2 u v x y p q : Int} (hx : isBit x) (hy : isBit y) (hp : isBit p) (hq : isBit q) : looI (2 * l1 + x) (2 * l2 + y) (2 * u + p) (2 * v + q) = 2 * looI l1 l2 u v + sF x y p q := by
  unfold looI
  rw [or_two hx hy, xor_two hp hq]
  exact or_two (orI_bit hx hy) (xorI_bit hp hq)
theorem oneI_two {u L p s : Int} (hp : isBit p) (hs : isBit s) : oneI (2 * u + p) (2 * L + s) = 2 * oneI u L + p * (1 - s) := by
  unfold oneI
  rw [not_two]
  exact and_two hp (neg_bit hs)
/-- a turn of the text -/
theorem iterT_two {o l : Int} {i : Nat} {O L r s : Int} (hr : isBit r) (hs : isBit s) (h : (iterT o l i).2 = (2 * O + r, 2 * L + s)) :
    iterT o l (i + 1) = (Txt.item (Str.ofString "01??") (r + 2 * s) ++ (iterT o l i).1, O, L) := by
  rw [iterT_succ]
  unfold stepT
  rw [h]
  dsimp only
  rw [(fm2 hr).1, (fm2 hr).2, (fm2 hs).1, (fm2 hs).2]
noncomputable def carL (a b : Int) : List Int := [-1, 0, 1].filter fun n => decide (n = a ∨ n = b)
noncomputable def addOk : List (Int × Int) := [(0, 0), (0, 1), (1, 1)]
noncomputable def addU (c1 c2 : Nat) (p : Int × Int) : Int := loC c1 + loC c2 + p.1
noncomputable def addV (c1 c2 : Nat) (p : Int × Int) : Int := loC c1 + loC c2 + lzC c1 + lzC c2 + p.2
noncomputable def addS (c1 c2 : Nat) (p : Int × Int) : Int := sF (lzC c1) (lzC c2) (Int.fmod (addU c1 c2 p) 2) (Int.fmod (addV c1 c2 p) 2)
theorem fin_add : ∀ c1 ∈ [48, 49, 63], ∀ c2 ∈ [48, 49, 63], ∀ p ∈ addOk,
    carF (sumsF 43 (mayS ⟨#[c1]⟩) (mayS ⟨#[c2]⟩) (carL p.1 p.2)) = carL (Int.fdiv (addU c1 c2 p) 2) (Int.fdiv (addV c1 c2 p) 2) ∧
    bitT (sumsF 43 (mayS ⟨#[c1]⟩) (mayS ⟨#[c2]⟩) (carL p.1 p.2)) = Txt.item (Str.ofString "01??") (Int.fmod (addU c1 c2 p) 2 * (1 - addS c1 c2 p) + 2 * addS c1 c2 p) ∧
    (Int.fdiv (addU c1 c2 p) 2, Int.fdiv (addV c1 c2 p) 2) ∈ addOk := by decide +kernel
noncomputable def subOk : List (Int × Int × Int) := [(-1, -1, -1), (-1, -1, 0), (-1, 0, 0), (0, 0, 0)]
noncomputable def subU (c1 c2 : Nat) (p : Int × Int × Int) : Int := loC c1 - loC c2 + p.2.1
noncomputable def subA (c1 c2 : Nat) (p : Int × Int × Int) : Int := loC c1 - loC c2 + lzC c1 + p.2.2
noncomputable def subB (c1 c2 : Nat) (p : Int × Int × Int) : Int := loC c1 - loC c2 - lzC c2 + p.1
noncomputable def subS (c1 c2 : Nat) (p : Int × Int × Int) : Int := sF (lzC c1) (lzC c2) (Int.fmod (subA c1 c2 p) 2) (Int.fmod (subB c1 c2 p) 2)
theorem fin_sub : ∀ c1 ∈ [48, 49, 63], ∀ c2 ∈ [48, 49, 63], ∀ p ∈ subOk,
    carF (sumsF 45 (mayS ⟨#[c1]⟩) (mayS ⟨#[c2]⟩) (carL p.1 p.2.2)) = carL (Int.fdiv (subB c1 c2 p) 2) (Int.fdiv (subA c1 c2 p) 2) ∧
    bitT (sumsF 45 (mayS ⟨#[c1]⟩) (mayS ⟨#[c2]⟩) (carL p.1 p.2.2)) = Txt.item (Str.ofString "01??") (Int.fmod (subU c1 c2 p) 2 * (1 - subS c1 c2 p) + 2 * subS c1 c2 p) ∧
    (Int.fdiv (subB c1 c2 p) 2, Int.fdiv (subU c1 c2 p) 2, Int.fdiv (subA c1 c2 p) 2) ∈ subOk := by decide +kernel
/-- the bits of the other three -/
noncomputable def lowB (op a x b y : Int) : Int := if op = 41 then a * b else if op = 42 then orI a b else xorI a b
noncomputable def looB (op a x b y : Int) : Int := if op = 41 then orI a x * orI b y * (1 - a * b) else if op = 42 then orI x y * (1 - orI a b) else orI x y
theorem fin_bit : ∀ op ∈ [(41 : Int), 42, 43], ∀ c1 ∈ [48, 49, 63], ∀ c2 ∈ [48, 49, 63],
    carF (sumsF (opcOf op) (mayS ⟨#[c1]⟩) (mayS ⟨#[c2]⟩) [0]) = [0] ∧
    bitT (sumsF (opcOf op) (mayS ⟨#[c1]⟩) (mayS ⟨#[c2]⟩) [0]) = Txt.item (Str.ofString "01??") (lowB op (loC c1) (lzC c1) (loC c2) (lzC c2) * (1 - looB op (loC c1) (lzC c1) (loC c2) (lzC c2)) + 2 * looB op (loC c1) (lzC c1) (loC c2) (lzC c2)) := by decide +kernel
end
section
noncomputable def revL (x : Str) : List Nat := x.cps.toList.reverse
theorem item_rev {x : Str} (h : signs8 x) {i : Nat} (hi : i < 8) : ∃ c, (c ∈ [48, 49, 63]) ∧ Txt.item x (7 - (i : Int)) = ⟨#[c]⟩ ∧ (revL x).drop i = c :: (revL x).drop (i + 1) := by
  obtain ⟨hl, hc⟩ := h
  have hl' : x.cps.size = 8 := hl
  have hr : (revL x).length = 8 := by unfold revL; rw [List.length_reverse, Array.length_toList]; exact hl'
  have hk : 7 - i < x.cps.size := by omega
  have e : Txt.charAt x (7 - (i : Int)) = some x.cps[7 - i] := by
    unfold Txt.charAt
    have e1 : seqIndex? (7 - (i : Int)) x.length = some (7 - i) := by
      have h2 : ¬ 7 - (i : Int) < 0 := by omega
      have h3 : (decide (0 ≤ 7 - (i : Int)) && decide (7 - (i : Int) < ((x.length : Nat) : Int))) = true := by
        rw [hl]; simp only [Bool.and_eq_true, decide_eq_true_eq]; omega
      simp only [seqIndex?, if_neg h2]
      rw [if_pos h3]
      congr 1
      omega
    rw [e1]; simp [hk]
  have e2 : (revL x)[i]'(by rw [hr]; exact hi) = x.cps[7 - i] := by
    unfold revL
    rw [List.getElem_reverse]
    simp only [Array.length_toList, hl', Array.getElem_toList]
  refine ⟨x.cps[7 - i], ?_, ?_, ?_⟩
  · have hm : x.cps[7 - i] ∈ x.cps.toList := Array.mem_toList_iff.mpr (Array.getElem_mem hk)
    rcases hc _ hm with q | q | q <;> rw [q] <;> decide
  · unfold Txt.item; rw [e, Option.getD_some]
  · rw [List.drop_eq_getElem_cons (by rw [hr]; exact hi), e2]
theorem rev_end {x : Str} (h : signs8 x) : (revL x).drop 8 = [] := by
  apply List.drop_eq_nil_of_le
  unfold revL; rw [List.length_reverse, Array.length_toList]
  have : x.cps.size = 8 := h.1
  omega
/-- the state of an adding -/
noncomputable def addN (as bs : List Nat) (p : Int × Int) : Int × Int :=
  (oneI (oN as + oN bs + p.1) (looI (lN as) (lN bs) (oN as + oN bs + p.1) (oN as + oN bs + (lN as + lN bs) + p.2)), looI (lN as) (lN bs) (oN as + oN bs + p.1) (oN as + oN bs + (lN as + lN bs) + p.2))
theorem addN_step (c1 c2 : Nat) (as bs : List Nat) (p : Int × Int) : addN (c1 :: as) (c2 :: bs) p =
    (2 * (addN as bs (Int.fdiv (addU c1 c2 p) 2, Int.fdiv (addV c1 c2 p) 2)).1 + Int.fmod (addU c1 c2 p) 2 * (1 - addS c1 c2 p), 2 * (addN as bs (Int.fdiv (addU c1 c2 p) 2, Int.fdiv (addV c1 c2 p) 2)).2 + addS c1 c2 p) := by
  have hu := split2 (addU c1 c2 p)
  have hv := split2 (addV c1 c2 p)
  have bu := fmod_bit (addU c1 c2 p)
  have bv := fmod_bit (addV c1 c2 p)
  have b1 := lzC_bit c1
  have b2 := lzC_bit c2
  unfold addN addS
  have e1 : oN (c1 :: as) + oN (c2 :: bs) + p.1 = 2 * (oN as + oN bs + Int.fdiv (addU c1 c2 p) 2) + Int.fmod (addU c1 c2 p) 2 := by
    show 2 * oN as + loC c1 + (2 * oN bs + loC c2) + p.1 = _
    have : addU c1 c2 p = loC c1 + loC c2 + p.1 := rfl
    omega
  have e2 : oN (c1 :: as) + oN (c2 :: bs) + (lN (c1 :: as) + lN (c2 :: bs)) + p.2 = 2 * (oN as + oN bs + (lN as + lN bs) + Int.fdiv (addV c1 c2 p) 2) + Int.fmod (addV c1 c2 p) 2 := by
    show 2 * oN as + loC c1 + (2 * oN bs + loC c2) + (2 * lN as + lzC c1 + (2 * lN bs + lzC c2)) + p.2 = _
    have : addV c1 c2 p = loC c1 + loC c2 + lzC c1 + lzC c2 + p.2 := rfl
    omega
  rw [e1, e2]
  show (oneI _ (looI (2 * lN as + lzC c1) (2 * lN bs + lzC c2) _ _), looI (2 * lN as + lzC c1) (2 * lN bs + lzC c2) _ _) = _
  rw [looI_two b1 b2 bu bv, oneI_two bu (sF_bit b1 b2 bu bv)]
theorem add_inv {x y : Str} (hx : signs8 x) (hy : signs8 y) : ∀ i, i ≤ 8 → ∃ p ∈ addOk, (iterT (addN (revL x) (revL y) (0, 0)).1 (addN (revL x) (revL y) (0, 0)).2 i).1 = (handIter 43 x y i).1 ∧
    (iterT (addN (revL x) (revL y) (0, 0)).1 (addN (revL x) (revL y) (0, 0)).2 i).2 = addN ((revL x).drop i) ((revL y).drop i) p ∧ (handIter 43 x y i).2 = carL p.1 p.2 := by
  intro i
  induction i with
  | zero =>
    intro _
    refine ⟨(0, 0), by decide, ?_, ?_, ?_⟩
    · rw [iterT_zero, handIter_zero]
    · rw [iterT_zero]; rfl
    · rw [handIter_zero]; decide
  | succ i ih =>
    intro hi
    obtain ⟨p, hp, h1, h2, h3⟩ := ih (by omega)
    obtain ⟨c1, m1, e1, d1⟩ := item_rev hx (i := i) (by omega)
    obtain ⟨c2, m2, e2, d2⟩ := item_rev hy (i := i) (by omega)
    obtain ⟨f1, f2, f3⟩ := fin_add c1 m1 c2 m2 p hp
    rw [d1, d2, addN_step] at h2
    have bu := fmod_bit (addU c1 c2 p)
    have bs : isBit (addS c1 c2 p) := sF_bit (lzC_bit _) (lzC_bit _) bu (fmod_bit _)
    have it := iterT_two (mul_bit bu (neg_bit bs)) bs h2
    have hst := handIter_succ 43 x y i
    unfold handStep at hst
    have hS : handSums 43 x y i (handIter 43 x y i).2 = sumsF 43 (mayS ⟨#[c1]⟩) (mayS ⟨#[c2]⟩) (carL p.1 p.2) := by
      unfold handSums; rw [e1, e2, h3]
    rw [hS] at hst
    refine ⟨_, f3, ?_, ?_, ?_⟩
    · rw [it, hst]; dsimp only; rw [f2, h1]
    · rw [it]
    · rw [hst]; exact f1
/-- the state of a taking away -/
noncomputable def subN (as bs : List Nat) (p : Int × Int × Int) : Int × Int :=
  (oneI (oN as - oN bs + p.2.1) (looI (lN as) (lN bs) (oN as - oN bs + lN as + p.2.2) (oN as - oN bs - lN bs + p.1)), looI (lN as) (lN bs) (oN as - oN bs + lN as + p.2.2) (oN as - oN bs - lN bs + p.1))
theorem subN_step (c1 c2 : Nat) (as bs : List Nat) (p : Int × Int × Int) : subN (c1 :: as) (c2 :: bs) p =
    (2 * (subN as bs (Int.fdiv (subB c1 c2 p) 2, Int.fdiv (subU c1 c2 p) 2, Int.fdiv (subA c1 c2 p) 2)).1 + Int.fmod (subU c1 c2 p) 2 * (1 - subS c1 c2 p), 2 * (subN as bs (Int.fdiv (subB c1 c2 p) 2, Int.fdiv (subU c1 c2 p) 2, Int.fdiv (subA c1 c2 p) 2)).2 + subS c1 c2 p) := by
  have hu := split2 (subU c1 c2 p)
  have ha := split2 (subA c1 c2 p)
  have hb := split2 (subB c1 c2 p)
  have bu := fmod_bit (subU c1 c2 p)
  have ba := fmod_bit (subA c1 c2 p)
  have bb := fmod_bit (subB c1 c2 p)
  have b1 := lzC_bit c1
  have b2 := lzC_bit c2
  unfold subN subS
  have e1 : oN (c1 :: as) - oN (c2 :: bs) + p.2.1 = 2 * (oN as - oN bs + Int.fdiv (subU c1 c2 p) 2) + Int.fmod (subU c1 c2 p) 2 := by
    show 2 * oN as + loC c1 - (2 * oN bs + loC c2) + p.2.1 = _
    have : subU c1 c2 p = loC c1 - loC c2 + p.2.1 := rfl
    omega
  have e2 : oN (c1 :: as) - oN (c2 :: bs) + lN (c1 :: as) + p.2.2 = 2 * (oN as - oN bs + lN as + Int.fdiv (subA c1 c2 p) 2) + Int.fmod (subA c1 c2 p) 2 := by
    show 2 * oN as + loC c1 - (2 * oN bs + loC c2) + (2 * lN as + lzC c1) + p.2.2 = _
    have : subA c1 c2 p = loC c1 - loC c2 + lzC c1 + p.2.2 := rfl
    omega
  have e3 : oN (c1 :: as) - oN (c2 :: bs) - lN (c2 :: bs) + p.1 = 2 * (oN as - oN bs - lN bs + Int.fdiv (subB c1 c2 p) 2) + Int.fmod (subB c1 c2 p) 2 := by
    show 2 * oN as + loC c1 - (2 * oN bs + loC c2) - (2 * lN bs + lzC c2) + p.1 = _
    have : subB c1 c2 p = loC c1 - loC c2 - lzC c2 + p.1 := rfl
    omega
  rw [e1, e2, e3]
  show (oneI _ (looI (2 * lN as + lzC c1) (2 * lN bs + lzC c2) _ _), looI (2 * lN as + lzC c1) (2 * lN bs + lzC c2) _ _) = _
  rw [looI_two b1 b2 ba bb, oneI_two bu (sF_bit b1 b2 ba bb)]
theorem sub_inv {x y : Str} (hx : signs8 x) (hy : signs8 y) : ∀ i, i ≤ 8 → ∃ p ∈ subOk, (iterT (subN (revL x) (revL y) (0, 0, 0)).1 (subN (revL x) (revL y) (0, 0, 0)).2 i).1 = (handIter 45 x y i).1 ∧
    (iterT (subN (revL x) (revL y) (0, 0, 0)).1 (subN (revL x) (revL y) (0, 0, 0)).2 i).2 = subN ((revL x).drop i) ((revL y).drop i) p ∧ (handIter 45 x y i).2 = carL p.1 p.2.2 := by
  intro i
  induction i with
  | zero =>
    intro _
    refine ⟨(0, 0, 0), by decide, ?_, ?_, ?_⟩
    · rw [iterT_zero, handIter_zero]
    · rw [iterT_zero]; rfl
    · rw [handIter_zero]; decide
  | succ i ih =>
    intro hi
    obtain ⟨p, hp, h1, h2, h3⟩ := ih (by omega)
    obtain ⟨c1, m1, e1, d1⟩ := item_rev hx (i := i) (by omega)
    obtain ⟨c2, m2, e2, d2⟩ := item_rev hy (i := i) (by omega)
    obtain ⟨f1, f2, f3⟩ := fin_sub c1 m1 c2 m2 p hp
    rw [d1, d2, subN_step] at h2
    have bu := fmod_bit (subU c1 c2 p)
    have bs : isBit (subS c1 c2 p) := sF_bit (lzC_bit _) (lzC_bit _) (fmod_bit _) (fmod_bit _)
    have it := iterT_two (mul_bit bu (neg_bit bs)) bs h2
    have hst := handIter_succ 45 x y i
    unfold handStep at hst
    have hS : handSums 45 x y i (handIter 45 x y i).2 = sumsF 45 (mayS ⟨#[c1]⟩) (mayS ⟨#[c2]⟩) (carL p.1 p.2.2) := by
      unfold handSums; rw [e1, e2, h3]
    rw [hS] at hst
    refine ⟨_, f3, ?_, ?_, ?_⟩
    · rw [it, hst]; dsimp only; rw [f2, h1]
    · rw [it]
    · rw [hst]; exact f1
/-- the state of the other three -/
noncomputable def bitN (op : Int) (as bs : List Nat) : Int × Int := joinI op (oN as) (lN as) (oN bs) (lN bs)
theorem bitN_step {op : Int} (ho : op ∈ [(41 : Int), 42, 43]) (c1 c2 : Nat) (as bs : List Nat) : bitN op (c1 :: as) (c2 :: bs) =
    (2 * (bitN op as bs).1 + lowB op (loC c1) (lzC c1) (loC c2) (lzC c2) * (1 - looB op (loC c1) (lzC c1) (loC c2) (lzC c2)), 2 * (bitN op as bs).2 + looB op (loC c1) (lzC c1) (loC c2) (lzC c2)) := by
  have a1 := loC_bit c1
  have a2 := loC_bit c2
  have b1 := lzC_bit c1
  have b2 := lzC_bit c2
  show joinI op (2 * oN as + loC c1) (2 * lN as + lzC c1) (2 * oN bs + loC c2) (2 * lN bs + lzC c2) = _
  unfold bitN
  simp only [List.mem_cons, List.not_mem_nil, or_false] at ho
  rcases ho with rfl | rfl | rfl
  · rw [joinI_41 (by decide) (by decide) rfl, joinI_41 (by decide) (by decide) rfl]
    have l1 : isBit (loC c1 * loC c2) := mul_bit a1 a2
    have l2 : isBit (orI (loC c1) (lzC c1) * orI (loC c2) (lzC c2)) := mul_bit (orI_bit a1 b1) (orI_bit a2 b2)
    rw [and_two a1 a2, or_two a1 b1, or_two a2 b2, not_two]
    rw [show loC c1 + lzC c1 - loC c1 * lzC c1 = orI (loC c1) (lzC c1) from rfl, show loC c2 + lzC c2 - loC c2 * lzC c2 = orI (loC c2) (lzC c2) from rfl]
    rw [and_two (orI_bit a1 b1) (orI_bit a2 b2), and_two l2 (neg_bit l1), not_two, and_two l1 (neg_bit (mul_bit l2 (neg_bit l1)))]
    rfl
  · rw [joinI_42 (by decide) (by decide) (by decide) rfl, joinI_42 (by decide) (by decide) (by decide) rfl]
    have l1 : isBit (orI (loC c1) (loC c2)) := orI_bit a1 a2
    have l2 : isBit (orI (lzC c1) (lzC c2)) := orI_bit b1 b2
    rw [or_two a1 a2, or_two b1 b2, not_two]
    rw [show loC c1 + loC c2 - loC c1 * loC c2 = orI (loC c1) (loC c2) from rfl, show lzC c1 + lzC c2 - lzC c1 * lzC c2 = orI (lzC c1) (lzC c2) from rfl]
    rw [and_two l2 (neg_bit l1), not_two, and_two l1 (neg_bit (mul_bit l2 (neg_bit l1)))]
    rfl
  · rw [joinI_e (by decide) (by decide) (by decide) (by decide), joinI_e (by decide) (by decide) (by decide) (by decide)]
    have l1 : isBit (xorI (loC c1) (loC c2)) := xorI_bit a1 a2
    have l2 : isBit (orI (lzC c1) (lzC c2)) := orI_bit b1 b2
    rw [xor_two a1 a2, or_two b1 b2]
    rw [show loC c1 + loC c2 - 2 * (loC c1 * loC c2) = xorI (loC c1) (loC c2) from rfl, show lzC c1 + lzC c2 - lzC c1 * lzC c2 = orI (lzC c1) (lzC c2) from rfl]
    rw [not_two, and_two l1 (neg_bit l2)]
    rfl
theorem lowB_bit {op a x b y : Int} (ha : isBit a) (hb : isBit b) : isBit (lowB op a x b y) := by
  unfold lowB
  split
  · exact mul_bit ha hb
  · split
    · exact orI_bit ha hb
    · exact xorI_bit ha hb
theorem looB_bit {op a x b y : Int} (ha : isBit a) (hb : isBit b) (hx : isBit x) (hy : isBit y) : isBit (looB op a x b y) := by
  unfold looB
  split
  · exact mul_bit (mul_bit (orI_bit ha hx) (orI_bit hb hy)) (neg_bit (mul_bit ha hb))
  · split
    · exact mul_bit (orI_bit hx hy) (neg_bit (orI_bit ha hb))
    · exact orI_bit hx hy
theorem bit_inv {op : Int} (ho : op ∈ [(41 : Int), 42, 43]) {x y : Str} (hx : signs8 x) (hy : signs8 y) : ∀ i, i ≤ 8 → (iterT (bitN op (revL x) (revL y)).1 (bitN op (revL x) (revL y)).2 i).1 = (handIter (opcOf op) x y i).1 ∧
    (iterT (bitN op (revL x) (revL y)).1 (bitN op (revL x) (revL y)).2 i).2 = bitN op ((revL x).drop i) ((revL y).drop i) ∧ (handIter (opcOf op) x y i).2 = [0] := by
  intro i
  induction i with
  | zero =>
    intro _
    refine ⟨?_, ?_, ?_⟩
    · rw [iterT_zero, handIter_zero]
    · rw [iterT_zero]; rfl
    · rw [handIter_zero]
  | succ i ih =>
    intro hi
    obtain ⟨h1, h2, h3⟩ := ih (by omega)
    obtain ⟨c1, m1, e1, d1⟩ := item_rev hx (i := i) (by omega)
    obtain ⟨c2, m2, e2, d2⟩ := item_rev hy (i := i) (by omega)
    obtain ⟨f1, f2⟩ := fin_bit op ho c1 m1 c2 m2
    rw [d1, d2, bitN_step ho] at h2
    have bu : isBit (lowB op (loC c1) (lzC c1) (loC c2) (lzC c2)) := lowB_bit (loC_bit _) (loC_bit _)
    have bs : isBit (looB op (loC c1) (lzC c1) (loC c2) (lzC c2)) := looB_bit (loC_bit _) (loC_bit _) (lzC_bit _) (lzC_bit _)
    have it := iterT_two (mul_bit bu (neg_bit bs)) bs h2
    have hst := handIter_succ (opcOf op) x y i
    unfold handStep at hst
    have hS : handSums (opcOf op) x y i (handIter (opcOf op) x y i).2 = sumsF (opcOf op) (mayS ⟨#[c1]⟩) (mayS ⟨#[c2]⟩) [0] := by
      unfold handSums; rw [e1, e2, h3]
    rw [hS] at hst
    refine ⟨?_, ?_, ?_⟩
    · rw [it, hst]; dsimp only; rw [f2, h1]
    · rw [it]
    · rw [hst]; exact f1
theorem ones_rev (x : Str) : onesF (KStt.codes x) = oN (revL x) := by
  unfold KStt.codes revL
  generalize x.cps.toList = l
  have go : ∀ l : List Nat, onesF ((l.reverse).map fun (c : Nat) => (c : Int)) = oN l := by
    intro l
    induction l with
    | nil => rfl
    | cons c l ih =>
      rw [List.reverse_cons, List.map_append, List.map_singleton, onesF_snoc, ih]
      show _ = 2 * oN l + loC c
      unfold loC
      by_cases h : c = 49
      · rw [if_pos h, if_pos (by omega)]
      · rw [if_neg h, if_neg (by omega)]; omega
  have := go l.reverse
  rwa [List.reverse_reverse] at this
theorem loose_rev (x : Str) : looseF (KStt.codes x) = lN (revL x) := by
  unfold KStt.codes revL
  generalize x.cps.toList = l
  have go : ∀ l : List Nat, looseF ((l.reverse).map fun (c : Nat) => (c : Int)) = lN l := by
    intro l
    induction l with
    | nil => rfl
    | cons c l ih =>
      rw [List.reverse_cons, List.map_append, List.map_singleton, looseF_snoc, ih]
      show _ = 2 * lN l + lzC c
      unfold lzC
      by_cases h : c = 63
      · rw [if_pos h, if_pos (by omega)]
      · rw [if_neg h, if_neg (by omega)]; omega
  have := go l.reverse
  rwa [List.reverse_reverse] at this
/-- the numbers that a text tells -/
noncomputable def numsF (x : Str) : Int × Int := (onesF (KStt.codes x), looseF (KStt.codes x))
/-- the law of the tristate numbers: the fast road and the road by hand tell the same text -/
theorem fast_is_hand {op : Int} (ho : op = 36 ∨ op = 37 ∨ op = 41 ∨ op = 42 ∨ op = 43) {x y : Str} (hx : signs8 x) (hy : signs8 y) :
    (iterT (joinI op (numsF x).1 (numsF x).2 (numsF y).1 (numsF y).2).1 (joinI op (numsF x).1 (numsF x).2 (numsF y).1 (numsF y).2).2 8).1 = handF (opcOf op) x y := by
  unfold numsF
  dsimp only
  rw [ones_rev, ones_rev, loose_rev, loose_rev]
  have other : op ∈ [(41 : Int), 42, 43] → (iterT (joinI op (oN (revL x)) (lN (revL x)) (oN (revL y)) (lN (revL y))).1 (joinI op (oN (revL x)) (lN (revL x)) (oN (revL y)) (lN (revL y))).2 8).1 = handF (opcOf op) x y := fun h =>
    (bit_inv h hx hy 8 (Nat.le_refl _)).1
  rcases ho with rfl | rfl | rfl | rfl | rfl
  · obtain ⟨p, _, h, _⟩ := add_inv hx hy 8 (Nat.le_refl _)
    rw [joinI_36 rfl]
    unfold addN looI oneI at h
    simp only [Int.add_zero] at h
    exact h
  · obtain ⟨p, _, h, _⟩ := sub_inv hx hy 8 (Nat.le_refl _)
    rw [joinI_37 (by decide) rfl]
    unfold subN looI oneI at h
    simp only [Int.add_zero] at h
    exact h
  · exact other (by decide)
  · exact other (by decide)
  · exact other (by decide)
end
section
theorem index_lit {prog : Program} {w : World} {A : Around} {E : Value → Shared → Prop} {s : Shared} {x y : Str} {tx ty : Tok} {Q : Value → Shared → Prop} (i : Nat) (ho : Builtin.Str.occurrences x y 0 x.length 1 = [i]) (h : ∀ t, Q (.int (i : Int) t) { s with toks := s.toks + 1 }) :
    wpAny (model prog w) A (call (.builtin "str.index") [.str x tx, .str y ty]) Q E s :=
  SC.index ho (h _)

theorem occ0 : Builtin.Str.occurrences (Str.ofString "01") { cps := #[48] } 0 (Str.ofString "01").length 1 = [0] := by decide +kernel
theorem occ1 : Builtin.Str.occurrences (Str.ofString "01") { cps := #[49] } 0 (Str.ofString "01").length 1 = [1] := by decide +kernel
theorem may_call {w : World} {mean : ExcName → Option Value} {mg mb : Str → Option Value} {dp un : Nat} {gd : Option (List Code)} {cn : Str} {cs : Scope} {a : Addr} {ccd : Value} {cl : List (Str × Addr)} {outer : List Env} {A₀ : Around} {base h₀ : Heap} {L : Addr} {m : Str → Option Value} {news : List (Addr × Obj)} {s : Shared} {Q E : Value → Shared → Prop}
    (B : Below A₀ base outer h₀) (F : Fr h₀ L s.heap m) (X : (hd.heap_39 w.params).In h₀) (N : News h₀ L s.heap news) (T : Top hd.view_39 (looseW hd.view_39 [Str.ofString "EXACT_TOKEN_TYPES", Str.ofString "tspecials", Str.ofString "_name_disallowed_re", Str.ofString "_value_disallowed_re", Str.ofString "_formatparam"]) mean mg mb h₀) (hk : cs.kind = .function) (hd : dp + 4 < recursionLimit) (hu : un + 32 < cLine)
    {x : Str} {tx : Tok} (hx : isSign x)
    (ret : ∀ D us c' h' tk', Fr h₀ L h' m → News h₀ L h' ((D, W.listOf (List.toArray us) c') :: news) → IntsAre us (mayS x) → (∀ p ∈ news, p.1 < D) → Q (.ref D) { s with heap := h', toks := tk' }) :
    wpAny (model PySem.Challenge.rw_we0031_01.row.prog w) (ktrTop dp un gd cn cs L a ccd cl outer) (call (.ref 322) [.str x tx]) Q E s := by
  w_top off
  k_with_none
  refine fill_here (fun hfill => ?_)
  revert hfill
  k_fill
  intro _
  k_with "call builtin:str.index" => (first | (k_here; k_dflt (refine' index_lit 0 ?h ?_; (case h => exact occ0); intro _)) | (k_here; k_dflt (refine' index_lit 1 ?h ?_; (case h => exact occ1); intro _)))
  rcases hx with rfl | rfl | rfl
  · rw [mayS_48] at ret
    refine wpAny_call ?_
    k_dflt ktr_enter
    k_steps
    exact ret _ [_] _ _ _ (by k_asm) (by k_asm) (.cons _ _ .nil) (by k_asm)
  · rw [mayS_49] at ret
    refine wpAny_call ?_
    k_dflt ktr_enter
    k_steps
    exact ret _ [_] _ _ _ (by k_asm) (by k_asm) (.cons _ _ .nil) (by k_asm)
  · rw [mayS_63] at ret
    refine wpAny_call ?_
    k_dflt ktr_enter
    k_steps
    exact ret _ [_, _] _ _ _ (by k_asm) (by k_asm) (.cons _ _ (.cons _ _ .nil)) (by k_asm)
end
section
open PyProof.V PySem.Spec PySem.Calls
section
variable {prog : Program} {w : World} {A : Around} {E : Value → Shared → Prop} {s : Shared} {h₀ : Heap} {m : Str → Option Value} {news : List (Addr × Obj)} {env : Env}
theorem ints_kf {us : List Value} {ns : List Int} (h : IntsAre us ns) : kf_ints us = true := by
  induction h with
  | nil => rfl
  | cons n t _ ih =>
    show kf_ints (Value.int n t :: _) = true
    unfold kf_ints; exact ih
theorem ints_any (k : Int) : ∀ {us : List Value} {ns : List Int}, IntsAre us ns → us.any (isInt k) = decide (k ∈ ns)
  | _, _, .nil => rfl
  | _, _, .cons n t r => by
    rw [List.any_cons, ints_any k r]
    simp only [isInt, List.mem_cons, Bool.decide_or]
    congr 1
    by_cases q : n = k
    · rw [decide_eq_true q.symm, q]; exact beq_self_eq_true k
    · rw [decide_eq_false (fun e => q e.symm)]; exact beq_eq_false_iff_ne.mpr q
/-- k in xs, a list of numbers of the ledger -/
theorem in_ints {L D : Addr} {us : List Value} {ns : List Int} {n : Nat} {k : Int} {t : Tok} {Q : Value → Shared → Prop} (N : News h₀ L s.heap news) (hm : (D, W.listOf us.toArray n) ∈ news) (hi : IntsAre us ns) (h : Q (.bool (decide (k ∈ ns))) s) :
    wpAny (model prog w) A (compareOp .In (.int k t) (.ref D)) Q E s :=
  kf_in N hm (by simpa using ints_kf hi) (by simpa using ints_any k hi) h
theorem in_yes {L D : Addr} {us : List Value} {ns : List Int} {n : Nat} {k : Int} {t : Tok} {Q : Value → Shared → Prop} (N : News h₀ L s.heap news) (hm : (D, W.listOf us.toArray n) ∈ news) (hi : IntsAre us ns) (hk : k ∈ ns) (h : Q (.bool true) s) :
    wpAny (model prog w) A (compareOp .In (.int k t) (.ref D)) Q E s := in_ints N hm hi (by rw [decide_eq_true hk]; exact h)
theorem in_no {L D : Addr} {us : List Value} {ns : List Int} {n : Nat} {k : Int} {t : Tok} {Q : Value → Shared → Prop} (N : News h₀ L s.heap news) (hm : (D, W.listOf us.toArray n) ∈ news) (hi : IntsAre us ns) (hk : ¬ k ∈ ns) (h : Q (.bool false) s) :
    wpAny (model prog w) A (compareOp .In (.int k t) (.ref D)) Q E s := in_ints N hm hi (by rw [decide_eq_false hk]; exact h)
/-- y = [a list comprehension over a list], its tests and its element told value by value -/
theorem assign_comp {elt iter : PySem.Expr} {x y : Str} {px py : Pos} {ifs : List PySem.Expr} {scope : Scope} {cl : List (Str × Addr)} {pos spos : Pos} {Q : Flow → Shared → Prop} (pz : Value → Bool) (G : Value → Value → Prop) (_F : Fr h₀ env.locals s.heap m)
    (hsw : swapsWith (.ListComp elt [⟨.Name x px, iter, ifs, 0⟩] scope pos) (some (.Name y py)) spos.line env = pure true)
    (hh : A.handled = none) (hclos : closureFor scope env = pure cl) (hcell : ∀ y ∈ scope.names, y.2 ≠ .cell) (hkind : scope.kind = .function)
    (hnames : ∀ y ∈ scope.names, y.2 = .local → scope.names.lookup y.1 = some .local) (hx : scope.names.lookup x = some .local)
    (hy : env.kindOf y = some .local) (hp : (env.scope.kind == .class || (env.scope.kind == .module && env.locals != env.globals)) = false)
    (h : wpAny (model prog w) A (eval iter env) (fun xv s₁ => ∃ (news : List (Addr × Obj)) (ax : Addr) (vs : List Value), xv = .ref ax ∧ s₁.heap.IsList ax vs.toArray ∧ ax ≠ env.locals ∧ vs.length ≤ sizeLine ∧ Fr h₀ env.locals s₁.heap m ∧ News h₀ env.locals s₁.heap news ∧
      (∀ C v s₂ m₂ E', v ∈ vs → s₂.heap.Ns (compEnvC scope cl C env).locals m₂ → m₂ x = some v → (∀ b o, s₁.heap.get? b = some o → s₂.heap.get? b = some o) →
        wpAny (model prog w) A (forIn ifs true fun c r => if r = true then do let ok ← isTrue c (compEnvC scope cl C env) (eval c (compEnvC scope cl C env)); pure (ForInStep.yield ok) else pure (ForInStep.yield r))
          (fun ok s₃ => ok = pz v ∧ Keeps s₂ s₃) E' s₂) ∧
      (∀ C v s₂ m₂ E', v ∈ vs → pz v = true → s₂.heap.Ns (compEnvC scope cl C env).locals m₂ → m₂ x = some v → (∀ b o, s₁.heap.get? b = some o → s₂.heap.get? b = some o) →
        wpAny (model prog w) A (eval elt (compEnvC scope cl C env)) (fun y s₃ => G v y ∧ Keeps s₂ s₃) E' s₂) ∧
      (∀ D ys c h' tk, Fr h₀ env.locals h' (fun z => if z = y then some (.ref D) else m z) → News h₀ env.locals h' ((D, W.listOf (List.toArray ys) c) :: news) → (∀ p ∈ news, p.1 ≠ D) → Paired G (vs.filter pz) ys → Q .next { s₁ with heap := h', toks := tk })) E s)
    (hs : ∀ x, foldedSetIterable iter env x = pure x) :
    wpAny (model prog w) A (exec (.Assign [.Name y py] (.ListComp elt [⟨.Name x px, iter, ifs, 0⟩] scope pos) spos) env) Q E s := by
  refine wpAny_Assign_ListComp_free pz G hsw hclos hcell hkind hnames hx hy hp (wpAny_mono h (fun xv s₁ h₁ => ?_) fun _ _ e => e) hs
  obtain ⟨news, ax, vs, rfl, hl, hax, hsz, F, N, htest, helt, hQ⟩ := h₁
  obtain ⟨ol, hol, _⟩ := id hl
  have hlt : ax < s₁.heap.objs.size := Heap.lt_size hol
  refine wpAny_pyIter_list hl ⟨s₁.heap.objs.size, [s₁.heap.objs.size, ax], [s₁.heap.objs.size], vs.toArray.size, _, _, m, rfl, Walks.list hh _ _ (Nat.ne_of_lt hlt) vs.toArray, by rw [List.size_toArray]; exact hsz, ⟨⟨_, Heap.get?_push_size _ rfl, rfl, rfl⟩, hl.push _⟩, ?_, ?_, ?_, ⟨?_, ?_⟩, ?_⟩
  · intro b hb
    show b < (s₁.heap.push _).objs.size
    rw [Heap.size_push]
    simp only [List.mem_cons, List.not_mem_nil, or_false] at hb
    rcases hb with rfl | rfl
    · exact Nat.lt_succ_self _
    · exact Nat.lt_succ_of_lt hlt
  · intro hm
    exact absurd F.ns.lt ((List.mem_singleton.mp hm) ▸ Nat.lt_irrefl _)
  · exact (F.push _).ns
  · intro C i v s₃ m₃ E' _ hP hn hm hk _
    exact htest C v s₃ m₃ E' (by simpa using Array.mem_of_getElem? hP) hn hm (grown_past hk)
  · intro C i v s₃ m₃ E' _ hP hp hn hm hk _
    exact helt C v s₃ m₃ E' (by simpa using Array.mem_of_getElem? hP) hp hn hm (grown_past hk)
  · intro D h' tk ys vs' hnew hlD hplD hlen hP hF hns hk
    have e : vs' = vs := by simpa using list_of_places hlen hP
    subst e
    have keep : ∀ b o, b ≠ env.locals → s₁.heap.get? b = some o → h'.get? b = some o := fun b x hb e =>
      hk b x hb (fun hm => absurd (Heap.lt_size e) (by rw [List.mem_singleton.mp hm]; exact Nat.lt_irrefl _)) (Heap.get?_push_of_some _ e)
    obtain ⟨c, hc⟩ := hplD
    have ne : ∀ p ∈ news, p.1 ≠ D := fun p hp e => by
      rw [← e, Heap.get?_push_of_some _ (N p hp).1] at hnew; cases hnew
    have F' : Fr h₀ env.locals h' (fun z => if z = y then some (.ref D) else m z) :=
      ⟨hns, fun b o e => keep b o (Nat.ne_of_lt (Nat.lt_of_lt_of_le (Heap.lt_size e) F.above)) (F.keep b o e), F.above⟩
    refine hQ D ys.toList c h' tk F' (fun p hp => ?_) ne hF
    rcases List.mem_cons.mp hp with rfl | hp
    · refine ⟨by simpa using hc, fun e => ?_, ?_⟩
      · obtain ⟨oL, _, _, hL, _⟩ := F.ns
        have e' : D = env.locals := e
        rw [e', Heap.get?_push_of_some _ hL] at hnew; cases hnew
      · cases q : h₀.get? D with
        | none => rfl
        | some o' => rw [Heap.get?_push_of_some _ (F.keep _ _ q)] at hnew; cases hnew
    · exact ⟨keep _ _ (N p hp).2.1 (N p hp).1, (N p hp).2⟩
end
/-- what a statement leaves -/
noncomputable def StmtEnd (s : Shared) (R : Heap → Prop) (f : Flow) (s' : Shared) : Prop := f = .next ∧ ∃ h tk, s' = { s with heap := h, toks := tk } ∧ R h
theorem StmtEnd.here {s : Shared} {R : Heap → Prop} {h : Heap} {tk : Nat} (r : R h) : StmtEnd s R .next { s with heap := h, toks := tk } := ⟨rfl, h, tk, rfl, r⟩
end
section
local macro_rules | `(tactic| walk_at "compareOp In int ref") => `(tactic| (k_here; first | (k_dflt (refine' in_yes ?N ?m ?i ?y ?_; (case N => first | k_asm | exact News.grown (by assumption) (by assumption)); (case m => k_mem); (case i => assumption); (case y => assumption))) | (k_dflt (refine' in_no ?N ?m ?i ?y ?_; (case N => first | k_asm | exact News.grown (by assumption) (by assumption)); (case m => k_mem); (case i => assumption); (case y => assumption)))))
noncomputable def inHalf (S : List Int) : Value → Bool
  | .int n _ => decide (n ∈ halfF S)
  | _ => false
theorem any_dec (l : List Int) (k : Int) : (l.any fun x => x == k) = decide (k ∈ l) := by
  induction l with
  | nil => rfl
  | cons a l ih =>
    rw [List.any_cons, ih]
    by_cases h : a = k
    · rw [h]; simp
    · rw [beq_false_of_ne h]
      simp only [Bool.false_or, List.mem_cons, fun e : k = a => h e.symm]
      congr 1
      simp [show ¬ k = a from fun e => h e.symm]
theorem ints_car (S : List Int) (t1 t2 t3 : Tok) : IntsAre ([Value.int (-1) t1, Value.int 0 t2, Value.int 1 t3].filter (inHalf S)) (carF S) := by
  unfold carF
  simp only [List.filter_cons, List.filter_nil, inHalf]
  by_cases h1 : (-1 : Int) ∈ halfF S <;> by_cases h2 : (0 : Int) ∈ halfF S <;> by_cases h3 : (1 : Int) ∈ halfF S <;> simp only [h1, h2, h3, decide_true, decide_false, if_true, Bool.false_eq_true, if_false] <;> repeat' constructor
theorem three_size (a b c : Value) : [a, b, c].length ≤ sizeLine := by rw [sizeLine_eq]; exact (by decide : 3 ≤ 16777216)
/-- ahead of a turn of the outer loop -/
inductive HandA (news : List (Addr × Obj)) (L7 : Addr) (d : Nat) (x y : Str) (td tx ty : Tok) (i : Nat) (m : Str → Option Value) (nx : List (Addr × Obj)) : Prop
  | mk (u : Str → Option Value) (tt : Tok) (ca : Addr) (cv : List Value) (cc : Nat) (o : Obj) (oc : Option Value) (em : m = kstB u [(Str.ofString "text", .str (handIter d x y i).1 tt), (Str.ofString "carries", .ref ca), (Str.ofString "deed", .str ⟨#[d]⟩ td), (Str.ofString "first", .str x tx), (Str.ofString "second", .str y ty)])
    (en : nx = (ca, W.listOf cv.toArray cc) :: (L7 + 1, o) :: news) (hcv : IntsAre cv (handIter d x y i).2) (hoc : o.data = Data.cell oc) : HandA news L7 d x y td tx ty i m nx
theorem handA_zero {news : List (Addr × Obj)} {L7 : Addr} {d : Nat} {x y : Str} {td tx ty tt : Tok} {m : Str → Option Value} {nx : List (Addr × Obj)} {ca : Addr} {cv : List Value} {cc : Nat} {o : Obj} {oc : Option Value}
    (em : m = kstB m [(Str.ofString "text", .str (Str.ofString "") tt), (Str.ofString "carries", .ref ca), (Str.ofString "deed", .str ⟨#[d]⟩ td), (Str.ofString "first", .str x tx), (Str.ofString "second", .str y ty)])
    (en : nx = (ca, W.listOf cv.toArray cc) :: (L7 + 1, o) :: news) (hcv : IntsAre cv [0]) (hoc : o.data = Data.cell oc) : HandA news L7 d x y td tx ty 0 m nx :=
  ⟨m, tt, ca, cv, cc, o, oc, by rw [handIter_zero]; exact em, en, by rw [handIter_zero]; exact hcv, hoc⟩
/-- ahead of a turn of the inner loops: vars are the names of the loops outside, z what the sums hold -/
inductive HandB (vars : List (Str × Value)) (rest : List (Addr × Obj)) (sa : Addr) (z : Nat → List Int) (j : Nat) (m : Str → Option Value) (nx : List (Addr × Obj)) : Prop
  | mk (u : Str → Option Value) (sv : List Value) (sc : Nat) (em : m = kstB u vars) (en : nx = (sa, W.listOf sv.toArray sc) :: rest) (hsv : IntsAre sv (z j)) : HandB vars rest sa z j m nx
theorem hand_call {w : World} {mean : ExcName → Option Value} {mg mb : Str → Option Value} {dp un : Nat} {gd : Option (List Code)} {cn : Str} {cs : Scope} {a : Addr} {ccd : Value} {cl : List (Str × Addr)} {outer : List Env} {A₀ : Around} {base h₀ : Heap} {L : Addr} {m : Str → Option Value} {news : List (Addr × Obj)} {s : Shared} {Q E : Value → Shared → Prop}
    (B : Below A₀ base outer h₀) (F : Fr h₀ L s.heap m) (X : (hd.heap_39 w.params).In h₀) (N : News h₀ L s.heap news) (T : Top hd.view_39 (looseW hd.view_39 [Str.ofString "EXACT_TOKEN_TYPES", Str.ofString "tspecials", Str.ofString "_name_disallowed_re", Str.ofString "_value_disallowed_re", Str.ofString "_formatparam"]) mean mg mb h₀) (hk : cs.kind = .function) (hd : dp + 8 < recursionLimit) (hu : un + 64 < cLine)
    {d : Nat} {x y : Str} {td tx ty : Tok} (hd9 : d = 43 ∨ d = 45 ∨ d = 38 ∨ d = 124 ∨ d = 94) (hx : signs8 x) (hy : signs8 y)
    (ret : ∀ t h' tk', Fr h₀ L h' m → News h₀ L h' news → Q (.str (handF d x y) t) { s with heap := h', toks := tk' }) :
    wpAny (model PySem.Challenge.rw_we0031_01.row.prog w) (ktrTop dp un gd cn cs L a ccd cl outer) (call (.ref 327) [.str ⟨#[d]⟩ td, .str x tx, .str y ty]) Q E s := by
  w_top off
  k_with_none
  k_with "call ref" => (k_here; k_dflt (refine' may_call ?k1 ?k2 ?k3 ?k4 ?k5 ?k6 ?k7 ?k8 ?k9 ?_; (case k1 | k2 | k3 | k4 | k5 => k_asm); (case k6 => first | exact rfl | assumption); (case k7 => ktr_room); (case k8 => ktr_units); (case k9 => exact item_sign (by assumption) (by omega) (by omega)); k_whole); intro _ _ _ _ _ _ _ _ l1'; (try k_lt l1'); revert l1'; intro _; (try k_sweep))
  refine fill_here (fun hfill => ?_)
  revert hfill
  k_fill
  intro _
  refine wpAny_call ?_
  k_dflt ktr_enter
  rename_i g7 L7 h7 tk7 FG7 F7 B7 X7 T7 l7 o7 hc7 N7
  have hc8 : o7.data = Data.cell none := hc7
  clear hc7
  have F8 := fr_canon F7 (ps := [(Str.ofString "deed", .str ⟨#[d]⟩ td), (Str.ofString "first", .str x tx), (Str.ofString "second", .str y ty)]) (by kst_all)
  clear F7
  revert F8
  generalize hmm : (bindL _ _ _ : Str → Option Value) = u7
  clear hmm
  intro F8
  repeat' ((fail_if_success (with_reducible show wpAny _ _ (pyIter _) _ _ _)); (first | (k_unfold; (try dsimp only)) | (k_end; wrow_close) | walk1 | (dsimp only; walk1)))
  rename_i hj ca hi lca hh F9 N9a hg tk9 t1 t2 t3 hR F10 N9 hkeep
  clear F9 N9a
  have lca' : @LT.lt Nat _ (L7 + 1) ca := lca.1
  k_dflt (refine for_range (n := 8) (HandA news L7 d x y td tx ty) (by rfl) hR (by decide) (by rfl) F10 N9 ?j0 ?turn ?done)
  case j0 => exact handA_zero (cv := [_]) (kstB_self (by kst_all)) rfl (.cons _ _ .nil) hc8
  case turn =>
    clear F10 N9
    rintro i t9 m₁ nx h tk I0 oI0 hi8 ⟨u, tt, ca, cv, cc, o, oc, rfl, rfl, hcv, hoc⟩ F9 N9 hI0
    obtain ⟨k, hk⟩ : ∃ k : Int, k = 7 - (i : Int) := ⟨_, rfl⟩
    have hkl : 0 ≤ k := by omega
    have hkh : k < 8 := by omega
    rw [show (7 : Int) + (i : Int) * (-1) = k from by omega] at F9
    have hx8 : x.length = 8 := hx.1
    have hy8 : y.length = 8 := hy.1
    dsimp only [kstB, envOf] at F9
    repeat' ((fail_if_success (with_reducible show wpAny _ _ (pyIter _) _ _ _)); (first | (k_unfold; (try dsimp only)) | (k_end; wrow_close) | walk1 | (dsimp only; walk1)))
    rename_i sa ha Fa Na ls hb hlen Da us9 c9 h9 tk9 F10 N10 hA lD
    clear Fa Na
    have lD1 : @LT.lt Nat _ sa Da := lD.1
    have ls1 : @LT.lt Nat _ I0 sa := ls.1
    have ls2 : @LT.lt Nat _ ca sa := ls.2.1
    have ls3 : @LT.lt Nat _ (L7 + 1) sa := ls.2.2.1
    have ls4 : ∀ p ∈ news, p.1 ≠ sa := fun p hp => Nat.ne_of_lt (kst_ltOf ls.2.2.2 p hp)
    generalize hCC : (handIter d x y i).2 = CC at hcv
    obtain ⟨rest1, hrest⟩ : ∃ r, (Da, W.listOf us9.toArray c9) :: (I0, oI0) :: (ca, W.listOf cv.toArray cc) :: (L7 + 1, o) :: news = r := ⟨_, rfl⟩
    have hr1 : ∀ p ∈ rest1, p.1 ≠ sa := by
      rw [← hrest]
      exact (fcons (Nat.ne_of_gt lD1) ((fcons (Nat.ne_of_lt ls1) ((fcons (Nat.ne_of_lt ls2) ((fcons (Nat.ne_of_lt ls3) ls4)))))))
    have N11 : News g7 L7 h9 ((sa, W.listOf (List.toArray []) 0) :: rest1) := by rw [← hrest]; exact news_drop N10 (by (repeat' (first | (refine fcons ?_ ?_) | (intro p9 hp9; repeat (first | exact hp9 | refine List.mem_cons_of_mem _ ?_)) | k_mem)))
    clear N10
    have m1 : (Da, W.listOf us9.toArray c9) ∈ rest1 := by rw [← hrest]; exact List.mem_cons_self
    have m2 : (ca, W.listOf cv.toArray cc) ∈ rest1 := by rw [← hrest]; k_mem
    k_dflt (refine for_list (vs := us9) (nn := c9) (HandB [(Str.ofString "sums", .ref sa), (Str.ofString "k", .int k t9), (Str.ofString "text", .str (handIter d x y i).1 tt), (Str.ofString "carries", .ref ca), (Str.ofString "deed", .str ⟨#[d]⟩ td), (Str.ofString "first", .str x tx), (Str.ofString "second", .str y ty)] rest1 sa (fun j => sumsF d ((mayS (Txt.item x k)).take j) (mayS (Txt.item y k)) CC)) (by rfl) F10 N11 ?j1 ?l1 ?turn1 ?done1)
    case j1 => exact ⟨_, [], 0, kstB_self (by kst_all), rfl, .nil⟩
    case l1 =>
      rintro j m nx ⟨u, sv, sc, rfl, rfl, hsv⟩
      exact List.mem_cons_of_mem _ m1
    case turn1 =>
      clear F10 N11
      rintro j v m₁ nx h tk I1 oI1 hv ⟨u, sv, sc, rfl, rfl, hsv⟩ F9 N9 hI1
      obtain ⟨a9, ta, ha9, rfl⟩ := ints_get hA hv
      dsimp only [kstB, envOf] at F9
      repeat' ((fail_if_success (with_reducible show wpAny _ _ (pyIter _) _ _ _)); (first | (k_unfold; (try dsimp only)) | (k_end; wrow_close) | walk1 | (dsimp only; walk1)))
      rename_i hlen2 Db ub9 cb9 hb9 tkb9 F10 N10 hB lDb
      have lb1 : @LT.lt Nat _ sa Db := lDb.2.1
      have nI1 : I1 ≠ sa := fun e => hI1 _ List.mem_cons_self e.symm
      obtain ⟨rest2, hrest2⟩ : ∃ r, (Db, W.listOf ub9.toArray cb9) :: (I1, oI1) :: rest1 = r := ⟨_, rfl⟩
      have hr2 : ∀ p ∈ rest2, p.1 ≠ sa := by
        rw [← hrest2]
        exact (fcons (Nat.ne_of_gt lb1) ((fcons nI1 hr1)))
      have N11 : News g7 L7 hb9 ((sa, W.listOf sv.toArray sc) :: rest2) := by rw [← hrest2]; exact news_drop N10 (by (repeat' (first | (refine fcons ?_ ?_) | (intro p9 hp9; repeat (first | exact hp9 | refine List.mem_cons_of_mem _ ?_)) | k_mem)))
      clear N10
      have m3 : (Db, W.listOf ub9.toArray cb9) ∈ rest2 := by rw [← hrest2]; exact List.mem_cons_self
      have m4 : (ca, W.listOf cv.toArray cc) ∈ rest2 := by rw [← hrest2]; exact List.mem_cons_of_mem _ (List.mem_cons_of_mem _ m2)
      k_dflt (refine for_list (vs := ub9) (nn := cb9) (HandB [(Str.ofString "a", .int a9 ta), (Str.ofString "sums", .ref sa), (Str.ofString "k", .int k t9), (Str.ofString "text", .str (handIter d x y i).1 tt), (Str.ofString "carries", .ref ca), (Str.ofString "deed", .str ⟨#[d]⟩ td), (Str.ofString "first", .str x tx), (Str.ofString "second", .str y ty)] rest2 sa (fun j2 => sumsF d ((mayS (Txt.item x k)).take j) (mayS (Txt.item y k)) CC ++ sumsF d [a9] ((mayS (Txt.item y k)).take j2) CC)) (by rfl) F10 N11 ?j2 ?l2 ?turn2 ?done2)
      case j2 => exact ⟨_, sv, sc, kstB_self (by kst_all), rfl, by rw [show sumsF d [a9] ((mayS (Txt.item y k)).take 0) CC = [] from by simp [sumsF], List.append_nil]; exact hsv⟩
      case l2 =>
        rintro j m nx ⟨u, sv, sc, rfl, rfl, hsv⟩
        exact List.mem_cons_of_mem _ m3
      case turn2 =>
        clear F10 N11
        rintro j2 v m₁ nx h tk I2 oI2 hv2 ⟨u2, sv2, sc2, rfl, rfl, hsv2⟩ F9 N9 hI2
        obtain ⟨b9, tb, hb9, rfl⟩ := ints_get hB hv2
        dsimp only [kstB, envOf] at F9
        repeat' ((fail_if_success (with_reducible show wpAny _ _ (pyIter _) _ _ _)); (first | (k_unfold; (try dsimp only)) | (k_end; wrow_close) | walk1 | (dsimp only; walk1)))
        rename_i F10
        have nI2 : I2 ≠ sa := fun e => hI2 _ List.mem_cons_self e.symm
        obtain ⟨rest3, hrest3⟩ : ∃ r, (I2, oI2) :: rest2 = r := ⟨_, rfl⟩
        have hr3 : ∀ p ∈ rest3, p.1 ≠ sa := by
          rw [← hrest3]
          exact (fcons nI2 hr2)
        have N11 : News g7 L7 h ((sa, W.listOf sv2.toArray sc2) :: rest3) := by rw [← hrest3]; exact news_drop N9 (by (repeat' (first | (refine fcons ?_ ?_) | (intro p9 hp9; repeat (first | exact hp9 | refine List.mem_cons_of_mem _ ?_)) | k_mem)))
        clear N9
        have m5 : (ca, W.listOf cv.toArray cc) ∈ rest3 := by rw [← hrest3]; exact List.mem_cons_of_mem _ m4
        k_dflt (refine for_list (vs := cv) (nn := cc) (HandB [(Str.ofString "b", .int b9 tb), (Str.ofString "a", .int a9 ta), (Str.ofString "sums", .ref sa), (Str.ofString "k", .int k t9), (Str.ofString "text", .str (handIter d x y i).1 tt), (Str.ofString "carries", .ref ca), (Str.ofString "deed", .str ⟨#[d]⟩ td), (Str.ofString "first", .str x tx), (Str.ofString "second", .str y ty)] rest3 sa (fun j3 => sumsF d ((mayS (Txt.item x k)).take j) (mayS (Txt.item y k)) CC ++ sumsF d [a9] ((mayS (Txt.item y k)).take j2) CC ++ sumsF d [a9] [b9] (CC.take j3))) (by rfl) F10 N11 ?j3 ?l3 ?turn3 ?done3)
        case j3 => exact ⟨_, sv2, sc2, kstB_self (by kst_all), rfl, by rw [show sumsF d [a9] [b9] (CC.take 0) = [] from by simp [sumsF], List.append_nil]; assumption⟩
        case l3 =>
          rintro j m nx ⟨u, sv, sc, rfl, rfl, hsv⟩
          exact List.mem_cons_of_mem _ m5
        case turn3 =>
          clear F10 N11
          rintro j3 v m₁ nx h tk I3 oI3 hv3 ⟨u3, sv3, sc3, rfl, rfl, hsv3⟩ F9 N9 hI3
          obtain ⟨c9, tc, hc9, rfl⟩ := ints_get hcv hv3
          have nI3 : I3 ≠ sa := fun e => hI3 _ List.mem_cons_self e.symm
          have hr4 : ∀ p ∈ (I3, oI3) :: rest3, p.1 ≠ sa := (fcons nI3 hr3)
          have N11 : News g7 L7 h ((sa, W.listOf sv3.toArray sc3) :: (I3, oI3) :: rest3) := news_drop N9 (by (repeat' (first | (refine fcons ?_ ?_) | (intro p9 hp9; repeat (first | exact hp9 | refine List.mem_cons_of_mem _ ?_)) | k_mem)))
          clear N9
          have hs3 : sv3.length ≤ 1000 := three_le hsv3 (mayS_len _) (mayS_len _) (by rw [← hCC]; exact handCar_len _ _ _ _)
          dsimp only [kstB, envOf] at F9
          k_steps
          all_goals
            rename_i F10 N10
            first
              | rw [show a9 + b9 + c9 = opF d a9 b9 c9 from op_43 (by assumption)] at N10
              | rw [show a9 - b9 + c9 = opF d a9 b9 c9 from op_45 (by assumption) (by assumption)] at N10
              | rw [show (if b9 < a9 then b9 else a9) = opF d a9 b9 c9 from op_38 (by assumption) (by assumption) (by assumption)] at N10
              | rw [show (if b9 > a9 then b9 else a9) = opF d a9 b9 c9 from op_124 (by assumption) (by assumption) (by assumption) (by assumption)] at N10
              | rw [show (if a9 - b9 < 0 then -(a9 - b9) else a9 - b9) = opF d a9 b9 c9 from op_94 (by assumption) (by assumption) (by assumption) (by assumption)] at N10
            rw [List.push_toArray] at N10
            refine ⟨_, _, _, (sa, W.listOf (sv3 ++ [Value.int (opF d a9 b9 c9) _]).toArray (sc3 + 1)) :: rest3, rfl, F10, news_drop N10 (by (repeat' (first | (refine fcons ?_ ?_) | (intro p9 hp9; repeat (first | exact hp9 | refine List.mem_cons_of_mem _ ?_)) | k_mem))), (fcons (Ne.symm nI3) (fun p hp => hI3 p (List.mem_cons_of_mem _ hp))), ⟨_, _, _, kstB_self (by kst_all), rfl, ?_⟩⟩
            rw [sums_snocC hc9, ← List.append_assoc]
            exact IntsAre.snoc hsv3
        case done3 =>
          clear F10 N11
          rintro m₁ nx h tk ⟨u3, sv3, sc3, rfl, rfl, hsv3⟩ F9 N9
          rw [hcv.length, List.take_length] at hsv3
          dsimp only [kstB, envOf] at F9
          k_steps
          refine ⟨_, _, _, (sa, W.listOf sv3.toArray sc3) :: rest2, rfl, F9, news_drop N9 (by rw [← hrest3]; (repeat' (first | (refine fcons ?_ ?_) | (intro p9 hp9; repeat (first | exact hp9 | refine List.mem_cons_of_mem _ ?_)) | k_mem))), (fcons (Ne.symm nI2) (fun p hp => hI2 p (List.mem_cons_of_mem _ hp))), ⟨_, sv3, sc3, kstB_self (by kst_all), rfl, ?_⟩⟩
          rw [sums_snocB (by assumption), ← List.append_assoc]
          exact hsv3
      case done2 =>
        clear F10 N11
        rintro m₁ nx h tk ⟨u2, sv2, sc2, rfl, rfl, hsv2⟩ F9 N9
        rw [hB.length, List.take_length] at hsv2
        dsimp only [kstB, envOf] at F9
        k_steps
        refine ⟨_, _, _, (sa, W.listOf sv2.toArray sc2) :: rest1, rfl, F9, news_drop N9 (by rw [← hrest2]; (repeat' (first | (refine fcons ?_ ?_) | (intro p9 hp9; repeat (first | exact hp9 | refine List.mem_cons_of_mem _ ?_)) | k_mem))), (fcons (Ne.symm nI1) (fun p hp => hI1 p (List.mem_cons_of_mem _ hp))), ⟨_, sv2, sc2, kstB_self (by kst_all), rfl, ?_⟩⟩
        rw [sums_snocA (by assumption)]
        exact hsv2
    case done1 =>
      clear F10 N11
      rintro m₁ nx h tk ⟨u, sv, sc, rfl, rfl, hsv⟩ F9 N9
      rw [hA.length, List.take_length] at hsv
      dsimp only [kstB, envOf] at F9
      repeat' ((fail_if_success (with_reducible show wpAny _ _ (exec (Stmt.Assign [Expr.Name _ _] (Expr.ListComp _ _ _ _) _) _) _ _ _)); (first | (k_unfold; (try dsimp only)) | (k_end; wrow_close) | walk1 | (dsimp only; walk1)))
      have hs9 : sv.length ≤ 1000 := by rw [hsv.length]; exact Nat.le_trans (sums_le (mayS_len _) (mayS_len _) (by rw [← hCC]; exact handCar_len _ _ _ _)) (by decide)
      have N10 := news_drop (Y := (sa, W.listOf sv.toArray sc) :: (I0, oI0) :: (ca, W.listOf cv.toArray cc) :: (L7 + 1, o) :: news) N9 (by rw [← hrest]; (repeat' (first | (refine fcons ?_ ?_) | (intro p9 hp9; repeat (first | exact hp9 | refine List.mem_cons_of_mem _ ?_)) | k_mem)))
      clear N9
      have sL : @Ne Nat sa L7 := by (show @Ne Nat _ _; first | k_ne | omega)
      k_dflt (refine assign_comp (fun _ => true) (fun v y => ∃ n t t', v = Value.int n t ∧ y = Value.int (Int.fmod n 2) t') F9 (by with_unfolding_all rfl) (by rfl) (by with_unfolding_all rfl) (by decide) (by rfl) (by decide) (by rfl) (by with_unfolding_all rfl) (by rfl) ?_ (by intro _; rfl))
      repeat' ((fail_if_success (with_reducible show ∃ _, _)); (first | (k_unfold; (try dsimp only)) | (k_end; wrow_close) | walk1 | (dsimp only; walk1)))
      refine ⟨_, sa, sv, rfl, News.isList (by k_asm) (by k_mem), sL, by rw [sizeLine_eq]; omega, by k_asm, by k_asm, ?_, ?_, ?_⟩
      · intro C v s₂ m₂ E' hv hns hm hk
        k_steps
        exact ⟨_, _, rfl, fun _ _ e => e⟩
      · intro C v s₂ m₂ E' hv _ hns hm hk
        obtain ⟨n9, t9, rfl, hn9⟩ := ints_mem hsv hv
        k_steps
        exact ⟨_, _, rfl, fun _ _ e => e⟩
      · intro D ys c2 h' tk' F' N' ne hG
        rw [filter_all] at hG
        have hbits := ints_map hsv hG
        clear hG
        have neD : @Ne Nat D L7 := (N' _ List.mem_cons_self).2.1
        have hSn := handSums_ne (d := d) (x := x) (y := y) (i := i) (okCar_hand d x y i)
        have hSe : sumsF d (mayS (Txt.item x k)) (mayS (Txt.item y k)) CC = handSums d x y i CC := by unfold handSums; rw [hk]
        rw [hCC] at hSn
        rw [hSe] at hbits hsv
        generalize hS : handSums d x y i CC = S at *
        replace hbits : IntsAre ys (bitsF S) := hbits
        have hlen8 : (handIter d x y i).1.length = i := hand_len d x y i
        dsimp only
        repeat' ((fail_if_success (with_reducible show wpAny _ _ (exec (Stmt.Assign _ (Expr.BinOp _ _ _ _) _) _) _ _ _)); (first | (k_unfold; (try dsimp only)) | (k_end; wrow_close) | walk1 | (dsimp only; walk1)))
        refine wpAny_mono (Q := StmtEnd s fun h => ∃ u t, Fr g7 L7 h (kstB u [(Str.ofString "text", .str (bitT S ++ (handIter d x y i).1) t), (Str.ofString "sums", .ref sa), (Str.ofString "deed", .str ⟨#[d]⟩ td), (Str.ofString "first", .str x tx), (Str.ofString "second", .str y ty)]) ∧
          News g7 L7 h ((sa, W.listOf sv.toArray sc) :: (I0, oI0) :: (L7 + 1, o) :: news)) ?_ ?_ (fun _ _ e => e)
        · obtain ⟨b0, br, hb0⟩ : ∃ b0 br, bitsF S = b0 :: br := by
            cases q : bitsF S with
            | nil => exact absurd (List.map_eq_nil_iff.mp q) hSn
            | cons b0 br => exact ⟨b0, br, rfl⟩
          have hb01 : b0 = 0 ∨ b0 = 1 := bitsF_bit (S := S) (by rw [hb0]; exact List.mem_cons_self)
          have hg : (bitsF S).getD (Int.toNat 0) 0 = b0 := by rw [hb0]; rfl
          have hg0 : 0 ≤ (bitsF S).getD (Int.toNat 0) 0 := by omega
          have hg1 : (bitsF S).getD (Int.toNat 0) 0 ≤ 1 := by omega
          by_cases h0 : (0 : Int) ∈ bitsF S
          · by_cases h1 : (1 : Int) ∈ bitsF S
            · rw [show bitT S = Str.ofString "?" from if_pos ⟨h0, h1⟩]
              k_steps
              rename_i F10 N10
              exact StmtEnd.here ⟨_, _, fr_canon F10 (by kst_all), news_drop N10 (by (repeat' (first | (refine fcons ?_ ?_) | (intro p9 hp9; repeat (first | exact hp9 | refine List.mem_cons_of_mem _ ?_)) | k_mem)))⟩
            · rw [show bitT S = Txt.item (Str.ofString "01") ((bitsF S).getD (Int.toNat 0) 0) from by unfold bitT; rw [if_neg (fun q => h1 q.2), hb0]; rfl]
              k_steps
              rename_i F10 N10
              exact StmtEnd.here ⟨_, _, fr_canon F10 (by kst_all), news_drop N10 (by (repeat' (first | (refine fcons ?_ ?_) | (intro p9 hp9; repeat (first | exact hp9 | refine List.mem_cons_of_mem _ ?_)) | k_mem)))⟩
          · rw [show bitT S = Txt.item (Str.ofString "01") ((bitsF S).getD (Int.toNat 0) 0) from by unfold bitT; rw [if_neg (fun q => h0 q.1), hb0]; rfl]
            k_steps
            rename_i F10 N10
            exact StmtEnd.here ⟨_, _, fr_canon F10 (by kst_all), news_drop N10 (by (repeat' (first | (refine fcons ?_ ?_) | (intro p9 hp9; repeat (first | exact hp9 | refine List.mem_cons_of_mem _ ?_)) | k_mem)))⟩
        · clear F9 N' F' hbits
          rintro f s' ⟨rfl, h, tk, rfl, u2, t2, F9, N9⟩
          dsimp only [kstB] at F9
          repeat' ((fail_if_success (with_reducible show wpAny _ _ (exec (Stmt.Assign [Expr.Name _ _] (Expr.ListComp _ _ _ _) _) _) _ _ _)); (first | (k_unfold; (try dsimp only)) | (k_end; wrow_close) | walk1 | (dsimp only; walk1)))
          refine wpAny_Assign_Name ?_ (by with_unfolding_all rfl)
          k_dflt (refine comp_list (fun _ => true) (fun v y => ∃ n t t', v = Value.int n t ∧ y = Value.int (Int.fdiv n 2) t') F9 (by rfl) (by with_unfolding_all rfl) (by decide) (by rfl) (by decide) (by rfl) ?_ (by intro _; rfl))
          repeat' ((fail_if_success (with_reducible show ∃ _, _)); (first | (k_unfold; (try dsimp only)) | (k_end; wrow_close) | walk1 | (dsimp only; walk1)))
          refine ⟨_, sa, sv, rfl, News.isList (by k_asm) (by k_mem), by rw [sizeLine_eq]; omega, by k_asm, by k_asm, ?_, ?_, ?_⟩
          · intro C v s₂ m₂ E' hv hns hm hk
            k_steps
            exact ⟨_, _, rfl, fun _ _ e => e⟩
          · intro C v s₂ m₂ E' hv _ hns hm hk
            obtain ⟨n9, t9, rfl, hn9⟩ := ints_mem hsv hv
            k_steps
            exact ⟨_, _, rfl, fun _ _ e => e⟩
          · intro Dm ym cm h' tk' F' N' ne hG
            rw [filter_all] at hG
            have hmov := ints_map hsv hG
            clear hG N9 F9
            replace hmov : IntsAre ym (halfF S) := hmov
            dsimp only
            have nD1 : @Ne Nat Dm (L7 + 1) := fun e => ne (L7 + 1, o) (by simp) e.symm
            have nI1 : @Ne Nat I0 (L7 + 1) := fun e => hI0 (L7 + 1, o) (by simp) e.symm
            have nS1 : @Ne Nat sa (L7 + 1) := by (show @Ne Nat _ _; first | k_ne | omega)
            have nN1 : ∀ p ∈ news, p.1 ≠ L7 + 1 := fun p hp => Nat.ne_of_lt (Nat.lt_succ_of_lt (l7 p hp))
            repeat' ((fail_if_success (with_reducible show wpAny _ _ (exec (Stmt.Assign [Expr.Name _ _] (Expr.ListComp _ _ _ _) _) _) _ _ _)); (first | (k_unfold; (try dsimp only)) | (k_end; wrow_close) | walk1 | (dsimp only; walk1)))
            rename_i h9 o9 F9 N9 hd9'
            k_dflt (refine assign_comp (inHalf S) (fun v y => y = v) F9 (by with_unfolding_all rfl) (by rfl) (by with_unfolding_all rfl) (by decide) (by rfl) (by decide) (by rfl) (by with_unfolding_all rfl) (by rfl) ?_ (by intro _; rfl))
            repeat' ((fail_if_success (with_reducible show ∃ _, _)); (first | (k_unfold; (try dsimp only)) | (k_end; wrow_close) | walk1 | (dsimp only; walk1)))
            rename_i Lc hc Fc Nc ltc
            refine ⟨_, Lc, [_, _, _], rfl, News.isList (by k_asm) (by k_mem), (Nc _ List.mem_cons_self).2.1, three_size _ _ _, by k_asm, by k_asm, ?_, ?_, ?_⟩
            · intro C v s₂ m₂ E' hv hns hm hk
              simp only [List.mem_cons, List.not_mem_nil, or_false] at hv
              rcases hv with rfl | rfl | rfl <;> k_steps
              all_goals first | exact any_dec _ _ | exact ⟨_, _, rfl, fun _ _ e => e⟩
            · intro C v s₂ m₂ E' hv hpz hns hm hk
              simp only [List.mem_cons, List.not_mem_nil, or_false] at hv
              rcases hv with rfl | rfl | rfl <;> k_steps
              all_goals exact ⟨_, _, rfl, fun _ _ e => e⟩
            · intro Dc yc cc2 h' tk' F' N' ne hG
              have hcar : IntsAre yc (carF S) := by rw [eq_of_paired hG]; exact ints_car S _ _ _
              clear hG Fc Nc
              have hst := handIter_succ d x y i
              have hcS : handSums d x y i (handIter d x y i).2 = S := by rw [hCC]; exact hS
              unfold handStep at hst
              rw [hcS] at hst
              dsimp only
              k_steps
              refine ⟨_, _, _, (Dc, W.listOf yc.toArray cc2) :: (L7 + 1, o9) :: news, rfl, F', news_drop N' (by (repeat' (first | (refine fcons ?_ ?_) | (intro p9 hp9; repeat (first | exact hp9 | refine List.mem_cons_of_mem _ ?_)) | k_mem))), ?_, ⟨_, _, Dc, yc, cc2, o9, _, kstB_self (by rw [hst]; kst_all), rfl, by rw [hst]; exact hcar, hd9'⟩⟩
              exact (fcons (fun e => ne (I0, oI0) (by simp) e.symm) ((fcons (hI0 (L7 + 1, o) (by simp)) (fun p hp => hI0 p (List.mem_cons_of_mem _ (List.mem_cons_of_mem _ hp))))))
  case done => 
    clear F10 N9
    rintro m₁ nx h tk ⟨u, tt, ca, cv, cc, o, oc, rfl, rfl, hcv, hoc⟩ F9 N9
    dsimp only [kstB, envOf] at F9
    k_steps
    exact ret _ _ _ (by k_asm) (news_drop (by k_asm) (by (repeat' (first | (refine fcons ?_ ?_) | (intro p9 hp9; repeat (first | exact hp9 | refine List.mem_cons_of_mem _ ?_)) | k_mem))))
end
section
open PyProof.V PySem.Spec PySem.Calls
noncomputable def tokL : List (Str × Int) := [(⟨#[33]⟩, 54), (⟨#[33, 61]⟩, 28), (⟨#[37]⟩, 24), (⟨#[37, 61]⟩, 40), (⟨#[38]⟩, 19), (⟨#[38, 61]⟩, 41), (⟨#[40]⟩, 7), (⟨#[41]⟩, 8), (⟨#[42]⟩, 16), (⟨#[42, 42]⟩, 35), (⟨#[42, 42, 61]⟩, 46), (⟨#[42, 61]⟩, 38), (⟨#[43]⟩, 14), (⟨#[43, 61]⟩, 36), (⟨#[44]⟩, 12), (⟨#[45]⟩, 15), (⟨#[45, 61]⟩, 37), (⟨#[45, 62]⟩, 51), (⟨#[46]⟩, 23), (⟨#[46, 46, 46]⟩, 52), (⟨#[47]⟩, 17), (⟨#[47, 47]⟩, 47), (⟨#[47, 47, 61]⟩, 48), (⟨#[47, 61]⟩, 39), (⟨#[58]⟩, 11), (⟨#[58, 61]⟩, 53), (⟨#[59]⟩, 13), (⟨#[60]⟩, 20), (⟨#[60, 60]⟩, 33), (⟨#[60, 60, 61]⟩, 44), (⟨#[60, 61]⟩, 29), (⟨#[61]⟩, 22), (⟨#[61, 61]⟩, 27), (⟨#[62]⟩, 21), (⟨#[62, 61]⟩, 30), (⟨#[62, 62]⟩, 34), (⟨#[62, 62, 61]⟩, 45), (⟨#[64]⟩, 49), (⟨#[64, 61]⟩, 50), (⟨#[91]⟩, 9), (⟨#[93]⟩, 10), (⟨#[94]⟩, 32), (⟨#[94, 61]⟩, 43), (⟨#[123]⟩, 25), (⟨#[124]⟩, 18), (⟨#[124, 61]⟩, 42), (⟨#[125]⟩, 26), (⟨#[126]⟩, 31)]
noncomputable def tokD : List (Str × KTD.Dat) := tokL.map fun p => (p.1, .flat (.int p.2))
noncomputable def lookS (z : Str) : List (Str × Int) → Option Int
  | [] => none
  | (x, n) :: D => if z = x then some n else lookS z D
noncomputable def tokF (z : Str) : Option Int := lookS z tokL
theorem tok_in {w : World} {h : Heap} (X : (hd.heap_39 w.params).In h) : KTD.TextTab h 81 tokD := kt_text_in X (by kernel_rfl)
section
variable {prog : Program} {w : World} {A : Around} {E : Value → Shared → Prop} {s : Shared} {h₀ : Heap} {L : Addr} {m : Str → Option Value}
theorem in_lookS (z : Str) : ∀ D : List (Str × Int), KTD.inKeys z (D.map fun p => (p.1, KTD.Dat.flat (.int p.2))) = (lookS z D).isSome
  | [] => rfl
  | (x, n) :: D => by
    show (decide (z = x) || KTD.inKeys z (D.map fun p => (p.1, KTD.Dat.flat (.int p.2)))) = (if z = x then some n else lookS z D).isSome
    by_cases h : z = x
    · rw [if_pos h, decide_eq_true h]; rfl
    · rw [if_neg h, decide_eq_false h]; exact in_lookS z D
theorem each_lookS {h : Heap} (z : Str) (P : Value → Prop) (els : Prop) : ∀ D : List (Str × Int), (match lookS z D with | some n => ∀ t, P (.int n t) | none => els) → KTD.Each h z P els (D.map fun p => (p.1, KTD.Dat.flat (.int p.2)))
  | [], q => q
  | (x, n) :: D, q => by
    show if decide (z = x) = true then KTD.Opened h P (.flat (.int n)) else KTD.Each h z P els (D.map fun p => (p.1, KTD.Dat.flat (.int p.2)))
    replace q : match (if z = x then some n else lookS z D) with | some n => ∀ t, P (.int n t) | none => els := q
    by_cases e : z = x
    · rw [if_pos (decide_eq_true e)]
      rw [if_pos e] at q
      exact q
    · rw [if_neg (by rw [decide_eq_false e]; exact Bool.false_ne_true)]
      rw [if_neg e] at q
      exact each_lookS z P els D q
theorem tok_notin {K : (hd.heap_39 w.params).In h₀} {z : Str} {t : Tok} {Q : Value → Shared → Prop} (F : Fr h₀ L s.heap m) (h : Q (.bool (tokF z).isNone) { s with toks := s.toks + 1 }) :
    wpAny (model prog w) A (compareOp .NotIn (.str z t) (.ref 81)) Q E s := by
  refine KTD.notin_text (h₀ := h₀) (D := tokD) ⟨tok_in K, F.keep⟩ ?_
  rw [show KTD.inKeys z tokD = (tokF z).isSome from in_lookS z tokL]
  cases q : tokF z <;> rw [q] at h <;> exact h
theorem tok_get {K : (hd.heap_39 w.params).In h₀} {z : Str} {t : Tok} {d : Value} {Q : Value → Shared → Prop} (F : Fr h₀ L s.heap m) (h1 : ∀ n, tokF z = some n → ∀ t, Q (.int n t) { s with toks := s.toks + 1 }) (h2 : tokF z = none → Q d { s with toks := s.toks + 1 }) :
    wpAny (model prog w) A (call (.builtin "dict.get") [.ref 81, .str z t, d]) Q E s := by
  refine KTD.get2_text (h₀ := h₀) (D := tokD) ⟨tok_in K, F.keep⟩ ?_
  refine each_lookS z _ _ tokL ?_
  cases q : lookS z tokL with
  | some n => exact h1 n q
  | none => exact h2 q
theorem tok_method {K : (hd.heap_39 w.params).In h₀} {pl : Sem Bool} {Q : Value × List Value → Shared → Prop} (F : Fr h₀ L s.heap m) (h : Q (.builtin "dict.get", [.ref 81]) s) : wpAny (model prog w) A (getMethod (.ref 81) "get" pl) Q E s :=
  KTD.getMethod_text (h₀ := h₀) (D := tokD) ⟨tok_in K, F.keep⟩ h
end
end
section
open PyProof.V PySem.Spec PySem.Calls
noncomputable def sizeF (l : List Nat) : Nat := if (tokF ⟨(l.take 3).toArray⟩).isNone = false then 3 else if (tokF ⟨(l.take 2).toArray⟩).isNone = false then 2 else 1
noncomputable def oneSym (l : List Nat) : Int := (tokF ⟨(l.take (sizeF l)).toArray⟩).getD (256 + (l.headD 0 : Nat))
noncomputable def symIter (l : List Nat) : Nat → List Nat × List Int
  | 0 => (l, [])
  | i + 1 => ((symIter l i).1.drop (sizeF (symIter l i).1), (symIter l i).2 ++ [oneSym (symIter l i).1])
theorem slice_take (l : List Nat) (k : Nat) : Txt.slice ⟨l.toArray⟩ none (some (k : Int)) = ⟨(l.take k).toArray⟩ := by
  have small : ∀ k : Nat, k ≤ l.length → Txt.slice ⟨l.toArray⟩ none (some (k : Int)) = ⟨(l.take k).toArray⟩ := fun k h => by
    have := beq_iff_eq.mp (slice_closes_toL (x := ⟨l.toArray⟩) (j := (k : Int)) (by omega) (by show (k : Int) ≤ (l.toArray.size : Nat); rw [List.size_toArray]; omega))
    rw [this]
    simp
  by_cases h : k ≤ l.length
  · exact small k h
  · have e1 : Builtin.Str.strSliceIndices none (some (k : Int)) 1 l.length = Builtin.Str.strSliceIndices none (some ((l.length : Nat) : Int)) 1 l.length := by
      have h0 : ¬ (k : Int) < 0 := by omega
      have h1 : ¬ ((l.length : Nat) : Int) < 0 := by omega
      have h2 : (1 : Int) > 0 := by decide
      have h3 : ((l.length : Nat) : Int) ≤ k := by omega
      simp only [Builtin.Str.strSliceIndices, h0, h1, h2, if_false, if_true, Int.min_eq_right h3, Int.min_self]
    have e2 : Txt.slice ⟨l.toArray⟩ none (some (k : Int)) = Txt.slice ⟨l.toArray⟩ none (some ((l.length : Nat) : Int)) := by
      unfold Txt.slice
      rw [show (⟨l.toArray⟩ : Str).length = l.length from List.size_toArray ..]
      rw [e1]
    rw [e2, small l.length (Nat.le_refl _), List.take_length, List.take_of_length_le (by omega)]
theorem slice_drop (l : List Nat) (k : Nat) : Txt.slice ⟨l.toArray⟩ (some (k : Int)) none = ⟨(l.drop k).toArray⟩ := by
  have hl : (⟨l.toArray⟩ : Str).length = l.length := List.size_toArray ..
  by_cases h : k ≤ l.length
  · rw [slice_from_eq (b := (l.length : Nat)) (by omega) (by rw [hl]; omega) (by rw [hl])]
    simp only [Int.toNat_natCast]
    rw [List.take_of_length_le]
    rw [List.length_drop]
    omega
  · rw [slice_beyond (by rw [hl]; omega), List.drop_eq_nil_of_le (by omega)]
    rfl
section
variable {prog : Program} {w : World} {A : Around} {E : Value → Shared → Prop} {s : Shared} {h₀ : Heap} {L : Addr} {m : Str → Option Value} {news : List (Addr × Obj)} {value slice : PySem.Expr} {l : List Nat} {t : Tok} {Q : Value → Shared → Prop}
theorem tok_get_int {K : (hd.heap_39 w.params).In h₀} {z : Str} {e : Int} {te : Tok} (F : Fr h₀ L s.heap m) (h : ∀ t, Q (.int ((tokF z).getD e) t) { s with toks := s.toks + 1 }) :
    wpAny (model prog w) A (call (.builtin "dict.get") [.ref 81, .str z t, .int e te]) Q E s := by
  refine tok_get (K := K) F (fun n q t => ?_) (fun q => ?_)
  · have := h t; rw [q] at this; exact this
  · have := h te; rw [q] at this; exact this
theorem tok_notin_b {K : (hd.heap_39 w.params).In h₀} {z : Str} {b : Bool} (F : Fr h₀ L s.heap m) (hb : (tokF z).isNone = b) (h : Q (.bool b) { s with toks := s.toks + 1 }) :
    wpAny (model prog w) A (compareOp .NotIn (.str z t) (.ref 81)) Q E s := tok_notin (K := K) F (by rw [hb]; exact h)
end
theorem str_ne_empty {l : List Nat} (h : l ≠ []) : (({ cps := l.toArray } : Str) != Str.ofString "") = true := by
  refine bne_iff_ne.mpr fun e => h ?_
  have e2 : l.toArray = (Str.ofString "").cps := congrArg Str.cps e
  have e3 : l = (Str.ofString "").cps.toList := by rw [← e2]
  rw [e3]; decide
theorem symIter_len (l : List Nat) (i : Nat) : (symIter l i).1.length ≤ l.length := by
  induction i with
  | zero => exact Nat.le_refl _
  | succ i ih => exact Nat.le_trans (by show (List.drop _ _).length ≤ _; rw [List.length_drop]; omega) ih
theorem item_head (c : Nat) (r : List Nat) : (Txt.item { cps := (c :: r).toArray } 0).cps.getD 0 0 = c := by
  have e : Txt.charAt { cps := (c :: r).toArray } 0 = some c := by
    unfold Txt.charAt
    have e1 : seqIndex? 0 ({ cps := (c :: r).toArray } : Str).length = some 0 := by
      have h3 : (decide ((0 : Int) ≤ 0) && decide ((0 : Int) < ((({ cps := (c :: r).toArray } : Str).length : Nat) : Int))) = true := by
        simp only [Bool.and_eq_true, decide_eq_true_eq]
        refine ⟨by omega, ?_⟩
        show (0 : Int) < (((c :: r).toArray.size : Nat) : Int)
        rw [List.size_toArray, List.length_cons]; omega
      simp only [seqIndex?, if_neg (by decide : ¬ (0 : Int) < 0)]
      rw [if_pos h3]; rfl
    rw [e1]; simp
  unfold Txt.item
  rw [e]; rfl
theorem one_eq {c : Nat} {r : List Nat} {k : Nat} {z : Str} (h : sizeF (c :: r) = k) (e : z = ⟨((c :: r).take k).toArray⟩) : oneSym (c :: r) = (tokF z).getD (256 + (((Txt.item { cps := (c :: r).toArray } 0).cps.getD 0 0 : Nat) : Int)) := by
  unfold oneSym
  rw [h, e, item_head]
  rfl

local macro_rules | `(tactic| walk_at "compareOp NotIn str ref") => `(tactic| (k_here; k_dflt (refine' tok_notin_b (K := ?X) ?F ?h ?_; (case X => k_asm); (case F => k_asm); (case h => assumption))))
local macro_rules | `(tactic| walk_at "getMethod ref") => `(tactic| (k_here; k_dflt (refine' tok_method (K := ?X) ?F ?_; (case X => k_asm); (case F => k_asm))))
local macro_rules | `(tactic| walk_at "call builtin:dict.get") => `(tactic| (k_here; k_dflt (refine' tok_get_int (K := ?X) ?F ?_; (case X => k_asm); (case F => k_asm)); intro _))
local macro_rules | `(tactic| walk_at "exec While BoolOp") => `(tactic| (k_here; k_dflt (refine whl_start 100 ?_)))
/-- behind i symbols -/
inductive SymJ (s : Shared) (g7 : Heap) (L7 : Addr) (l : List Nat) (fa : Addr) (news : List (Addr × Obj)) (i : Nat) (s' : Shared) : Prop
  | mk (h : Heap) (tk : Nat) (u : Str → Option Value) (tt : Tok) (us : List Value) (c : Nat) (es : s' = { s with heap := h, toks := tk }) (F : Fr g7 L7 h (kstB u [(Str.ofString "text", .str ⟨(symIter l i).1.toArray⟩ tt), (Str.ofString "found", .ref fa)]))
    (N : News g7 L7 h ((fa, W.listOf us.toArray c) :: news)) (hus : IntsAre us (symIter l i).2) (hlen : us.length = i) : SymJ s g7 L7 l fa news i s'
theorem symbols_call {w : World} {mean : ExcName → Option Value} {mg mb : Str → Option Value} {dp un : Nat} {gd : Option (List Code)} {cn : Str} {cs : Scope} {a : Addr} {ccd : Value} {cl : List (Str × Addr)} {outer : List Env} {A₀ : Around} {base h₀ : Heap} {L : Addr} {m : Str → Option Value} {news : List (Addr × Obj)} {s : Shared} {Q E : Value → Shared → Prop}
    (B : Below A₀ base outer h₀) (F : Fr h₀ L s.heap m) (X : (hd.heap_39 w.params).In h₀) (N : News h₀ L s.heap news) (T : Top hd.view_39 (looseW hd.view_39 [Str.ofString "EXACT_TOKEN_TYPES", Str.ofString "tspecials", Str.ofString "_name_disallowed_re", Str.ofString "_value_disallowed_re", Str.ofString "_formatparam"]) mean mg mb h₀) (hk : cs.kind = .function) (hd : dp + 4 < recursionLimit) (hu : un + 32 < cLine)
    {l : List Nat} {n : Nat} {tx : Tok} (hx : l.length ≤ 100) (hn : ∀ i, i < n → (symIter l i).1 ≠ []) (he : (symIter l n).1 = []) (hn9 : n ≤ 100)
    (ret : ∀ D us c' h' tk', Fr h₀ L h' m → News h₀ L h' ((D, W.listOf (List.toArray us) c') :: news) → IntsAre us ((symIter l n).2 ++ [0]) → (∀ p ∈ news, p.1 < D) → Q (.ref D) { s with heap := h', toks := tk' }) :
    wpAny (model PySem.Challenge.rw_we0031_01.row.prog w) (ktrTop dp un gd cn cs L a ccd cl outer) (call (.ref 273) [.str ⟨l.toArray⟩ tx]) Q E s := by
  w_top off
  k_with_none
  refine fill_here (fun hfill => ?_)
  revert hfill
  k_fill
  intro _
  refine wpAny_call ?_
  k_dflt ktr_enter
  rename_i g7 L7 h7 FG7 F7 N7 B7 X7 T7
  repeat' ((fail_if_success (with_reducible show WhlRest _ _ _ _ _ _ _ _ _ _ _)); (first | (k_unfold; (try dsimp only)) | (k_end; wrow_close) | walk1 | (dsimp only; walk1)))
  rename_i z1 fa z2 z4 z3 F9 N9
  refine whl_induct n (SymJ s g7 L7 l fa news) ?hstep ?hend 0 (Nat.zero_le _) _ ?h0
  case h0 => exact ⟨_, _, _, _, [], 0, rfl, fr_canon F9 (by kst_all), N9, .nil, rfl⟩
  case hstep =>
    clear F9 N9
    rintro i s' hi ⟨h, tk, u, tt, us, c, rfl, F9, N9, hus, hlen⟩ IH
    dsimp only [kstB] at F9
    have hne := hn i hi
    generalize hl9 : (symIter l i).1 = l9 at F9 hne
    repeat' ((fail_if_success (with_reducible show WhlIf _ _ _)); (first | (k_unfold; (try dsimp only)) | (k_end; wrow_close) | walk1 | (dsimp only; walk1)))
    rw [str_ne_empty hne]
    have hl1000 : l9.length ≤ 1000 := by rw [← hl9]; exact Nat.le_trans (symIter_len l i) (by omega)
    have hus1 : us.length ≤ 1000 := by omega
    obtain ⟨c9, r9, rfl⟩ := List.exists_cons_of_ne_nil hne
    have hS : symIter l (i + 1) = ((c9 :: r9).drop (sizeF (c9 :: r9)), (symIter l i).2 ++ [oneSym (c9 :: r9)]) := by rw [← hl9]; rfl
    have e3 : Txt.slice { cps := (c9 :: r9).toArray } none (some 3) = ⟨((c9 :: r9).take 3).toArray⟩ := slice_take _ 3
    have e2 : Txt.slice { cps := (c9 :: r9).toArray } none (some (3 - 1)) = ⟨((c9 :: r9).take 2).toArray⟩ := slice_take _ 2
    have e1 : Txt.slice { cps := (c9 :: r9).toArray } none (some (3 - 1 - 1)) = ⟨((c9 :: r9).take 1).toArray⟩ := slice_take _ 1
    repeat' ((fail_if_success (with_reducible show wpAny _ _ (exec (Stmt.While _ _ _ _) _) _ _ _)); (first | (k_unfold; (try dsimp only)) | (k_end; wrow_close) | walk1 | (dsimp only; walk1)))
    rename_i F9b N9b
    refine wpAny_mono (Q := fun fl s' => fl = Flow.next ∧ ∃ (z : Nat) (h : Heap) (tk : Nat) (u : Str → Option Value) (t : Tok), z = sizeF (c9 :: r9) ∧ s' = { s with heap := h, toks := tk } ∧
      Fr g7 L7 h (kstB u [(Str.ofString "size", .int (z : Int) t), (Str.ofString "text", .str ⟨(c9 :: r9).toArray⟩ tt), (Str.ofString "found", .ref fa)]) ∧ News g7 L7 h ((fa, W.listOf us.toArray c) :: news)) ?ja ?jb (fun _ _ e => e)
    case ja =>
      by_cases h3 : (tokF (Txt.slice { cps := (c9 :: r9).toArray } none (some 3))).isNone = false
      · have hsz : sizeF (c9 :: r9) = 3 := by unfold sizeF; rw [← e3, ← e2]; rw [if_pos h3]
        repeat' ((fail_if_success (with_reducible show _ = Flow.next ∧ _)); (first | (k_unfold; (try dsimp only)) | (k_end; wrow_close) | walk1 | (dsimp only; walk1)))
        exact ⟨rfl, 3, _, _, _, _, hsz.symm, rfl, fr_canon (by k_asm) (by kst_all), by k_asm⟩
      · replace h3 : (tokF (Txt.slice { cps := (c9 :: r9).toArray } none (some 3))).isNone = true := by simpa using h3
        by_cases h2 : (tokF (Txt.slice { cps := (c9 :: r9).toArray } none (some (3 - 1)))).isNone = false
        · have hsz : sizeF (c9 :: r9) = 2 := by unfold sizeF; rw [← e3, ← e2]; rw [if_neg (by rw [h3]; exact Bool.noConfusion)]; rw [if_pos h2]
          repeat' ((fail_if_success (with_reducible show _ = Flow.next ∧ _)); (first | (k_unfold; (try dsimp only)) | (k_end; wrow_close) | walk1 | (dsimp only; walk1)))
          exact ⟨rfl, 2, _, _, _, _, hsz.symm, rfl, fr_canon (by k_asm) (by kst_all), by k_asm⟩
        · replace h2 : (tokF (Txt.slice { cps := (c9 :: r9).toArray } none (some (3 - 1)))).isNone = true := by simpa using h2
          have hsz : sizeF (c9 :: r9) = 1 := by unfold sizeF; rw [← e3, ← e2]; rw [if_neg (by rw [h3]; exact Bool.noConfusion)]; rw [if_neg (by rw [h2]; exact Bool.noConfusion)]
          repeat' ((fail_if_success (with_reducible show _ = Flow.next ∧ _)); (first | (k_unfold; (try dsimp only)) | (k_end; wrow_close) | walk1 | (dsimp only; walk1)))
          exact ⟨rfl, 1, _, _, _, _, hsz.symm, rfl, fr_canon (by k_asm) (by kst_all), by k_asm⟩
    case jb =>
      clear F9b N9b
      rintro fl s' ⟨rfl, z9, h, tk, u, t, hz9, rfl, F9, N9⟩
      have ez := slice_take (c9 :: r9) z9
      have dz := slice_drop (c9 :: r9) z9
      have hz3 : z9 ≤ 3 := by rw [hz9]; unfold sizeF; split <;> (try split) <;> decide
      obtain ⟨zi, hzi⟩ : ∃ zi : Int, zi = (z9 : Int) := ⟨_, rfl⟩
      have hz0 : 0 ≤ zi := by omega
      have hz4 : zi ≤ 3 := by omega
      rw [← hzi] at F9 ez dz
      dsimp only [kstB] at F9
      dsimp only
      repeat' ((fail_if_success (with_reducible show WhlRest _ _ _ _ _ (Expr.Compare _ _ _ _) _ _ _ _ _)); (first | (k_unfold; (try dsimp only)) | (k_end; wrow_close) | walk1 | (dsimp only; walk1)))
      rename_i F10 N10
      rw [List.push_toArray] at N10
      refine IH _ ⟨_, _, _, _, us ++ [Value.int _ _], c + 1, rfl, fr_canon F10 (ps := [(Str.ofString "text", .str ⟨(symIter l (i + 1)).1.toArray⟩ _), (Str.ofString "found", .ref fa)]) (by rw [hS, ← hz9, ← dz]; kst_all), N10, ?_, by rw [List.length_append, hlen]; rfl⟩
      rw [hS]
      rw [show oneSym (c9 :: r9) = _ from one_eq hz9.symm ez]
      exact IntsAre.snoc hus
  case hend =>
    rintro s' ⟨h, tk, u, tt, us, c, rfl, F9, N9, hus, hlen⟩
    dsimp only [kstB] at F9
    rw [he] at F9
    k_steps
    rename_i D1 h1 F1 N1 l1 h2 a1 a2 kF kN Tc kX
    exact ret _ (us ++ [Value.int 0 _]) 0 _ _ (by k_asm) (news_drop kN (by (repeat' (first | (refine fcons ?_ ?_) | (intro p9 hp9; repeat (first | exact hp9 | refine List.mem_cons_of_mem _ ?_)) | k_mem)))) (IntsAre.snoc hus) (fun p hp => Heap.lt_size (N1 p (List.mem_cons_of_mem _ (List.mem_cons_of_mem _ hp))).1)
end
section
inductive Run : List Nat → List Int → Prop
  | nil : Run [] []
  | cons {l : List Nat} {ss : List Int} : l ≠ [] → Run (l.drop (sizeF l)) ss → Run l (oneSym l :: ss)
theorem symIter_shift (l : List Nat) (i : Nat) : symIter l (i + 1) = ((symIter (l.drop (sizeF l)) i).1, oneSym l :: (symIter (l.drop (sizeF l)) i).2) := by
  induction i with
  | zero => rfl
  | succ i ih =>
    show ((symIter l (i + 1)).1.drop (sizeF (symIter l (i + 1)).1), (symIter l (i + 1)).2 ++ [oneSym (symIter l (i + 1)).1]) = _
    rw [ih]
    rfl
theorem Run.iter {l : List Nat} {ss : List Int} (h : Run l ss) : symIter l ss.length = ([], ss) ∧ ∀ i, i < ss.length → (symIter l i).1 ≠ [] := by
  induction h with
  | nil => exact ⟨rfl, fun i hi => absurd hi (Nat.not_lt_zero _)⟩
  | cons hne _ ih =>
    refine ⟨by rw [List.length_cons, symIter_shift, ih.1], fun i hi => ?_⟩
    cases i with
    | zero => exact hne
    | succ i => rw [symIter_shift]; exact ih.2 i (by simpa using hi)
noncomputable def letB (c : Nat) : Bool := c == 88 || c == 89 || c == 90 || c == 120 || c == 121 || c == 122
theorem letB_of {c : Nat} (h : isL c) : letB c = true := by
  rcases h with rfl | rfl | rfl | rfl | rfl | rfl <;> rfl
theorem tok_plain : (tokL.all fun p => p.1.cps.toList.all fun c => !letB c) = true := by decide
theorem lookS_let {z : Str} {c : Nat} (hc : c ∈ z.cps.toList) (hl : letB c = true) : ∀ D : List (Str × Int), (D.all fun p => p.1.cps.toList.all fun c => !letB c) = true → lookS z D = none
  | [], _ => rfl
  | (x, n) :: D, h => by
    rw [List.all_cons, Bool.and_eq_true] at h
    show (if z = x then some n else lookS z D) = none
    rw [if_neg ?_]
    · exact lookS_let hc hl D h.2
    · intro e
      subst e
      have := List.all_eq_true.mp h.1 c hc
      rw [hl] at this
      exact Bool.noConfusion this
theorem tokF_let {l : List Nat} {c : Nat} (hc : c ∈ l) (hl : isL c) : tokF ⟨l.toArray⟩ = none := lookS_let (z := ⟨l.toArray⟩) (by simpa using hc) (letB_of hl) tokL tok_plain
theorem run_let {c : Nat} {t : List Nat} {ss : List Int} (hc : isL c) (h : Run t ss) : Run (c :: t) (((256 : Int) + (c : Nat)) :: ss) := by
  have n1 : tokF ⟨((c :: t).take 1).toArray⟩ = none := tokF_let (by simp) hc
  have n2 : tokF ⟨((c :: t).take 2).toArray⟩ = none := tokF_let (by simp) hc
  have n3 : tokF ⟨((c :: t).take 3).toArray⟩ = none := tokF_let (by simp) hc
  have hs : sizeF (c :: t) = 1 := by unfold sizeF; rw [n3, n2]; rfl
  have ho : oneSym (c :: t) = (256 : Int) + (c : Nat) := by unfold oneSym; rw [hs, n1]; rfl
  have r := Run.cons (ss := ss) (List.cons_ne_nil _ _) (show Run (List.drop (sizeF _) _) _ by rw [hs]; exact h)
  rw [ho] at r; exact r
theorem run_op {op : Int} {d : Nat} {t : List Nat} {ss : List Int} (ho : op = 36 ∨ op = 37 ∨ op = 41 ∨ op = 42 ∨ op = 43) (hd : d = 126 ∨ isL d) (h : Run (d :: t) ss) : Run (opcOf op :: 61 :: d :: t) (op :: ss) := by
  have n3 : tokF ⟨((opcOf op :: 61 :: d :: t).take 3).toArray⟩ = none := by
    rcases hd with rfl | hd
    · show tokF ⟨#[opcOf op, 61, 126]⟩ = none
      rcases ho with rfl | rfl | rfl | rfl | rfl <;> decide
    · exact tokF_let (c := d) (by simp) hd
  have n2 : tokF ⟨((opcOf op :: 61 :: d :: t).take 2).toArray⟩ = some op := by
    show tokF ⟨#[opcOf op, 61]⟩ = some op
    rcases ho with rfl | rfl | rfl | rfl | rfl <;> decide
  have hs : sizeF (opcOf op :: 61 :: d :: t) = 2 := by unfold sizeF; rw [n3, n2]; rfl
  have ho : oneSym (opcOf op :: 61 :: d :: t) = op := by unfold oneSym; rw [hs, n2]; rfl
  have r := Run.cons (ss := ss) (List.cons_ne_nil _ _) (show Run (List.drop (sizeF _) _) _ by rw [hs]; exact h)
  rw [ho] at r; exact r
theorem run_til {c : Nat} {t : List Nat} {ss : List Int} (hc : isL c) (h : Run (c :: t) ss) : Run (126 :: c :: t) (31 :: ss) := by
  have n1 : tokF ⟨((126 :: c :: t).take 1).toArray⟩ = some 31 := by show tokF ⟨#[126]⟩ = some 31; decide
  have n2 : tokF ⟨((126 :: c :: t).take 2).toArray⟩ = none := tokF_let (c := c) (by simp) hc
  have n3 : tokF ⟨((126 :: c :: t).take 3).toArray⟩ = none := tokF_let (c := c) (by simp) hc
  have hs : sizeF (126 :: c :: t) = 1 := by unfold sizeF; rw [n3, n2]; rfl
  have ho : oneSym (126 :: c :: t) = 31 := by unfold oneSym; rw [hs, n1]; rfl
  have r := Run.cons (ss := ss) (List.cons_ne_nil _ _) (show Run (List.drop (sizeF _) _) _ by rw [hs]; exact h)
  rw [ho] at r; exact r
theorem run_comma {t : List Nat} {ss : List Int} (ht : t = [] ∨ ∃ c t', t = c :: t' ∧ isL c) (h : Run t ss) : Run (44 :: t) (12 :: ss) := by
  rcases ht with rfl | ⟨c, t', rfl, hc⟩
  · have n3 : tokF ⟨([44].take 3).toArray⟩ = some 12 := by show tokF ⟨#[44]⟩ = some 12; decide
    have hs : sizeF [44] = 3 := by unfold sizeF; rw [n3]; rfl
    have ho : oneSym [44] = 12 := by unfold oneSym; rw [hs, n3]; rfl
    have r := Run.cons (ss := ss) (List.cons_ne_nil _ _) (show Run (List.drop (sizeF _) _) _ by rw [hs]; exact h)
    rw [ho] at r; exact r
  · have n1 : tokF ⟨((44 :: c :: t').take 1).toArray⟩ = some 12 := by show tokF ⟨#[44]⟩ = some 12; decide
    have n2 : tokF ⟨((44 :: c :: t').take 2).toArray⟩ = none := tokF_let (c := c) (by simp) hc
    have n3 : tokF ⟨((44 :: c :: t').take 3).toArray⟩ = none := tokF_let (c := c) (by simp) hc
    have hs : sizeF (44 :: c :: t') = 1 := by unfold sizeF; rw [n3, n2]; rfl
    have ho : oneSym (44 :: c :: t') = 12 := by unfold oneSym; rw [hs, n1]; rfl
    have r := Run.cons (ss := ss) (List.cons_ne_nil _ _) (show Run (List.drop (sizeF _) _) _ by rw [hs]; exact h)
    rw [ho] at r; exact r
noncomputable def codesOf (st : Stm) : List Nat := [st.c1, opcOf st.op, 61] ++ (if st.tl then [126] else []) ++ [st.c2, 44]
theorem stmText_codes (st : Stm) : stmText st = ⟨(codesOf st).toArray⟩ := by
  obtain ⟨c1, op, tl, c2⟩ := st
  cases tl <;> rfl
theorem run_stm {st : Stm} (hs : okStm st) {t : List Nat} {ss : List Int} (ht : t = [] ∨ ∃ c t', t = c :: t' ∧ isL c) (h : Run t ss) : Run (codesOf st ++ t) (symsOf st ++ ss) := by
  obtain ⟨c1, op, tl, c2⟩ := st
  obtain ⟨h1, h2, h3⟩ := hs
  cases tl
  · exact run_let h1 (run_op h3 (.inr h2) (run_let h2 (run_comma ht h)))
  · exact run_let h1 (run_op h3 (.inl rfl) (run_til h2 (run_let h2 (run_comma ht h))))
theorem run_all : ∀ {sts : List Stm}, (∀ st ∈ sts, okStm st) → Run (sts.flatMap codesOf) (sts.flatMap symsOf)
  | [], _ => .nil
  | st :: sts, h => by
    rw [List.flatMap_cons, List.flatMap_cons]
    refine run_stm (h st (by simp)) ?_ (run_all fun s hs => h s (by simp [hs]))
    cases sts with
    | nil => exact .inl rfl
    | cons s2 sts => exact .inr ⟨s2.c1, _, rfl, (h s2 (by simp)).1⟩
end
section
open PyProof.V PySem.Spec PySem.Calls
section
variable {prog : Program} {w : World} {A : Around} {E : Value → Shared → Prop} {s : Shared} {env : Env} {h₀ : Heap} {target : PySem.Expr} {body : List Stmt} {Q : Flow → Shared → Prop}
/-- a loop with any target over a list that the ledger bears; the ledger may grow -/
theorem turns_list {ax : Addr} {vs : List Value} {n : Nat} {m₀ : Str → Option Value} {news : List (Addr × Obj)} (J : Nat → (Str → Option Value) → List (Addr × Obj) → Prop)
    (hh : A.handled = none) (F : Fr h₀ env.locals s.heap m₀) (N : News h₀ env.locals s.heap news) (hj : J 0 m₀ news) (hJ : ∀ i m nx, J i m nx → (ax, W.listOf vs.toArray n) ∈ nx)
    (turn : ∀ i v m₁ nx h tk I oI, vs[i]? = some v → J i m₁ nx → Fr h₀ env.locals h m₁ → News h₀ env.locals h ((I, oI) :: nx) → (∀ p ∈ nx, p.1 ≠ I) →
      wpAny (model prog w) A (assign target env v) (fun _ s₂ => wpAny (model prog w) A (execs body env) (PostJ h₀ env.locals (J (i + 1)) I oI { s with heap := h, toks := tk } Q) E s₂) E { s with heap := h, toks := tk })
    (done : ∀ m₁ nx h tk, J vs.length m₁ nx → Fr h₀ env.locals h m₁ → News h₀ env.locals h nx → Q .next { s with heap := h, toks := tk }) :
    wpAny (model prog w) A (pyIter (.ref ax)) (fun it s₂ => TurnsAt prog w A h₀ env target body Q E it s₂) E s := by
  refine iter_listTurns (vs := vs) (n := n) hh F N (hJ _ _ _ hj) rfl rfl (fun I hI => ?_)
  have key : ∀ k i, k = vs.length - i → i ≤ vs.length → ∀ m nx, J i m nx → (∀ p ∈ nx, p.1 ≠ I) → ItemsRest prog w A E h₀ env target body Q s [(I, "list_iterator")] [(ax, W.listOf vs.toArray n)] ((vs.drop i).map .val) m nx := by
    intro k
    induction k with
    | zero =>
      intro i hk hi m nx hj' _
      have e : i = vs.length := by omega
      subst e
      rw [List.drop_length]
      exact ItemsRest.zero fun h tk F' N' => done m nx h tk hj' F' N'
    | succ k ih =>
      intro i hk hi m nx hj' hne
      have hlt : i < vs.length := by omega
      rw [List.drop_eq_getElem_cons hlt, List.map_cons]
      refine ItemsRest.val fun h' tk' F' => AllObj.cons fun o' _ => AllObj.nil fun N' => ?_
      refine wpAny_mono (turn i vs[i] m nx h' tk' I o' (by simp [hlt]) hj' F' N' hne) (fun _ s₂ q => wpAny_mono q (fun f s₃ p => ?_) fun _ _ e => e) fun _ _ e => e
      have up : EndJ h₀ env.locals (J (i + 1)) I o' { s with heap := h', toks := tk' } s₃ → UnrEndW h₀ env.locals { s with heap := h', toks := tk' } [(I, o')] (fun m' n' => SubL [(ax, W.listOf vs.toArray n)] n' ∧ ItemsRest prog w A E h₀ env target body Q s [(I, "list_iterator")] [(ax, W.listOf vs.toArray n)] ((vs.drop (i + 1)).map .val) m' n') s₃ := by
        rintro ⟨h2, tk2, m2, nx2, e, F2, N2, hne2, hj2⟩
        exact ⟨h2, tk2, m2, nx2, e, F2, N2, fun p hp q hq => by rw [List.mem_singleton.mp hq]; exact hne2 p hp, And.intro (hJ _ _ _ hj2) trivial, ih (i + 1) (by omega) (by omega) m2 nx2 hj2 hne2⟩
      cases f with
      | ret v => exact p
      | brk => exact p
      | next => exact up p
      | cont => exact up p
  have h0 := key (vs.length - 0) 0 rfl (Nat.zero_le _) m₀ news hj (fun p hp => Nat.ne_of_lt (hI p hp))
  rw [List.drop_zero] at h0
  exact h0
end
end
section
open PyProof.V PySem.Spec PySem.Calls
section
variable {prog : Program} {w : World} {A : Around} {E : Value → Shared → Prop} {s : Shared} {h₀ : Heap} {L : Addr} {m : Str → Option Value} {news : List (Addr × Obj)} {env : Env}
theorem comp_tail {h h' : Heap} {o : Obj} {news : List (Addr × Obj)} {D : Addr} {ys : Array Value} (F : Fr h₀ L h m) (N : News h₀ L h news) (hnew : (h.push o).get? D = none) (hplD : h'.PlainList D ys)
    (hk : ∀ b x, b ∉ [h.objs.size] → (h.push o).get? b = some x → h'.get? b = some x) :
    ∃ c, Fr h₀ L h' m ∧ News h₀ L h' ((D, W.listOf ys c) :: news) ∧ ∀ p ∈ news, p.1 ≠ D := by
  have keep := grown_past (h' := h') hk
  obtain ⟨c, hc⟩ := hplD
  have ne : ∀ p ∈ news, p.1 ≠ D := fun p hp e => by
    rw [← e, Heap.get?_push_of_some _ (N p hp).1] at hnew; cases hnew
  refine ⟨c, F.keeps keep, fun p hp => ?_, ne⟩
  rcases List.mem_cons.mp hp with rfl | hp
  · refine ⟨hc, fun e => ?_, ?_⟩
    · obtain ⟨oL, _, _, hL, _⟩ := F.ns
      have e' : D = L := e
      rw [e', Heap.get?_push_of_some _ hL] at hnew; cases hnew
    · cases q : h₀.get? D with
      | none => rfl
      | some o' => rw [Heap.get?_push_of_some _ (F.keep _ _ q)] at hnew; cases hnew
  · exact N.grown keep p hp
theorem filt_all (vs : List Value) : (vs.filter fun _ => true) = vs := List.filter_eq_self.mpr fun _ _ => rfl
/-- a list comprehension over a range, without a test -/
theorem comp_range {elt iter : PySem.Expr} {x : Str} {px : Pos} {scope : Scope} {cl : List (Str × Addr)} {pos : Pos} {Q : Value → Shared → Prop} (G : Nat → Value → Prop) (_F : Fr h₀ L s.heap m)
    (hh : A.handled = none) (hclos : closureFor scope env = pure cl) (hcell : ∀ y ∈ scope.names, y.2 ≠ .cell) (hkind : scope.kind = .function)
    (hnames : ∀ y ∈ scope.names, y.2 = .local → scope.names.lookup y.1 = some .local) (hx : scope.names.lookup x = some .local)
    (h : wpAny (model prog w) A (eval iter env) (fun xv s₁ => ∃ (news : List (Addr × Obj)) (r : Addr) (n : Nat) (b : Int) (t u v : Tok), xv = .ref r ∧ IsRange s₁.heap r 0 b 1 t u v ∧ Builtin.Range.small 0 b 1 = true ∧ Builtin.Range.rangeSize 0 b 1 = ((n : Nat) : Int) ∧ n ≤ sizeLine ∧ Fr h₀ L s₁.heap m ∧ News h₀ L s₁.heap news ∧
      (∀ C (i : Nat) t s₂ m₂ E', i < n → s₂.heap.Ns (compEnvC scope cl C env).locals m₂ → m₂ x = some (.int (i : Int) t) → (∀ b o, s₁.heap.get? b = some o → s₂.heap.get? b = some o) →
        wpAny (model prog w) A (eval elt (compEnvC scope cl C env)) (fun y s₃ => G i y ∧ Keeps s₂ s₃) E' s₂) ∧
      (∀ D ys c h' tk, Fr h₀ L h' m → News h₀ L h' ((D, W.listOf (List.toArray ys) c) :: news) → (∀ p ∈ news, p.1 ≠ D) → Paired G (List.range n) ys → Q (.ref D) { s₁ with heap := h', toks := tk })) E s)
    (hs : ∀ x, foldedSetIterable iter env x = pure x) :
    wpAny (model prog w) A (eval (.ListComp elt [⟨.Name x px, iter, [], 0⟩] scope pos) env) Q E s := by
  refine wpAny_ListComp_free (fun _ => true) (fun v y => ∃ (i : Nat) (t : Tok), v = Value.int (i : Int) t ∧ G i y) hclos hcell hkind hnames hx (wpAny_mono h (fun xv s₁ h₁ => ?_) fun _ _ e => e) hs
  obtain ⟨news, r, n, b, t, u, v, rfl, hr, hsm, hn, hsz, F, N, helt, hQ⟩ := h₁
  refine wpAny_pyIter_range hr hsm ?_
  have W : Walks prog w A s₁.heap.objs.size [s₁.heap.objs.size] [s₁.heap.objs.size] n (fun i v => i < n ∧ ∃ t, v = .int (0 + i * 1) t)
      (fun i h => IsRangeIter h s₁.heap.objs.size (0 + (i : Nat) * 1) ((n : Int) - (i : Nat)) 1) := (Walks.range hh _ 0 1 n).bound
  refine ⟨s₁.heap.objs.size, [s₁.heap.objs.size], [s₁.heap.objs.size], n, _, _, rfl, W, hsz, (by show IsRangeIter _ _ _ _ _; rw [hn]; simpa using Heap.get?_push_size _ rfl), ?_, ⟨?_, ?_⟩, ?_⟩
  · intro b hb
    rw [List.mem_singleton.mp hb]
    show s₁.heap.objs.size < (s₁.heap.push _).objs.size
    rw [Heap.size_push]; exact Nat.lt_succ_self _
  · intro C i v s₃ m₃ E' _ hP hn hm hk _
    exact wpAny_pure ⟨rfl, _, _, rfl, fun _ _ e => e⟩
  · intro C i v s₃ m₃ E' _ hP _ hn hm hk _
    obtain ⟨hi, t, rfl⟩ := hP
    rw [show (0 : Int) + (i : Int) * 1 = (i : Int) from by omega] at hm ⊢
    refine wpAny_mono (helt C i t s₃ m₃ E' hi hn hm (grown_past hk)) (fun y s₄ q => ⟨⟨i, t, rfl, q.1⟩, q.2⟩) fun _ _ e => e
  · intro D h' tk ys vs hnew hlD hplD hlen hP hF hk
    obtain ⟨c, F', N', ne⟩ := comp_tail F N hnew hplD hk
    rw [filt_all] at hF
    refine hQ D ys.toList c h' tk F' (by simpa using N') ne ?_
    have go : ∀ (k : Nat) (vs : List Value) (ys : List Value), (∀ j v, vs[j]? = some v → ∃ t, v = Value.int ((k + j : Nat) : Int) t) → Paired (fun v y => ∃ (i : Nat) (t : Tok), v = Value.int (i : Int) t ∧ G i y) vs ys →
        Paired G ((List.range vs.length).map fun i => k + i) ys := by
      intro k vs ys hv hp
      induction hp generalizing k with
      | nil => exact .nil
      | cons r hr ih =>
        rename_i a b l1 l2
        rw [List.length_cons, List.range_succ_eq_map, List.map_cons, List.map_map]
        obtain ⟨i, t, e1, hg⟩ := r
        obtain ⟨t', e2⟩ := hv 0 a rfl
        rw [e1] at e2
        injection e2 with e3 _
        have e4 : i = k + 0 := by omega
        refine .cons (by rw [← e4]; exact hg) ?_
        have := ih (k + 1) fun j v hj => by
          obtain ⟨t, e⟩ := hv (j + 1) v (by simpa using hj)
          exact ⟨t, by rw [e, show k + (j + 1) = k + 1 + j from by omega]⟩
        refine cast (congrArg (fun z => Paired G z l2) ?_) this
        apply List.map_congr_left
        intro j _
        show k + 1 + j = k + (j + 1)
        omega
    have := go 0 vs ys.toList (fun j v hj => by
      obtain ⟨_, t, e⟩ := hP j v hj
      exact ⟨t, by rw [e]; congr 1; omega⟩) hF
    rw [hlen] at this
    simpa using this
/-- a list comprehension over a text, without a test -/
theorem comp_str {elt iter : PySem.Expr} {x : Str} {px : Pos} {scope : Scope} {cl : List (Str × Addr)} {pos : Pos} {Q : Value → Shared → Prop} (G : Nat → Value → Prop) (_F : Fr h₀ L s.heap m)
    (hh : A.handled = none) (hclos : closureFor scope env = pure cl) (hcell : ∀ y ∈ scope.names, y.2 ≠ .cell) (hkind : scope.kind = .function)
    (hnames : ∀ y ∈ scope.names, y.2 = .local → scope.names.lookup y.1 = some .local) (hx : scope.names.lookup x = some .local)
    (h : wpAny (model prog w) A (eval iter env) (fun xv s₁ => ∃ (news : List (Addr × Obj)) (z : Str) (tz : Tok), xv = .str z tz ∧ z.cps.size ≤ sizeLine ∧ Fr h₀ L s₁.heap m ∧ News h₀ L s₁.heap news ∧
      (∀ C c t s₂ m₂ E', c ∈ z.cps.toList → s₂.heap.Ns (compEnvC scope cl C env).locals m₂ → m₂ x = some (.str ⟨#[c]⟩ t) → (∀ b o, s₁.heap.get? b = some o → s₂.heap.get? b = some o) →
        wpAny (model prog w) A (eval elt (compEnvC scope cl C env)) (fun y s₃ => G c y ∧ Keeps s₂ s₃) E' s₂) ∧
      (∀ D ys c h' tk, Fr h₀ L h' m → News h₀ L h' ((D, W.listOf (List.toArray ys) c) :: news) → (∀ p ∈ news, p.1 ≠ D) → Paired G z.cps.toList ys → Q (.ref D) { s₁ with heap := h', toks := tk })) E s)
    (hs : ∀ x, foldedSetIterable iter env x = pure x) :
    wpAny (model prog w) A (eval (.ListComp elt [⟨.Name x px, iter, [], 0⟩] scope pos) env) Q E s := by
  refine wpAny_ListComp_free (fun _ => true) (fun v y => ∃ (c : Nat) (t : Tok), v = .str ⟨#[c]⟩ t ∧ G c y) hclos hcell hkind hnames hx (wpAny_mono h (fun xv s₁ h₁ => ?_) fun _ _ e => e) hs
  obtain ⟨news, z, tz, rfl, hsz, F, N, helt, hQ⟩ := h₁
  refine wpAny_pyIter_str fun o St W hst => ?_
  refine ⟨s₁.heap.objs.size, [s₁.heap.objs.size], [s₁.heap.objs.size], z.cps.size, _, _, rfl, W A hh, hsz, hst, ?_, ⟨?_, ?_⟩, ?_⟩
  · intro b hb
    rw [List.mem_singleton.mp hb]
    show s₁.heap.objs.size < (s₁.heap.push _).objs.size
    rw [Heap.size_push]; exact Nat.lt_succ_self _
  · intro C i v s₃ m₃ E' _ hP hn hm hk _
    exact wpAny_pure ⟨rfl, _, _, rfl, fun _ _ e => e⟩
  · intro C i v s₃ m₃ E' _ hP _ hn hm hk _
    obtain ⟨c, t, hc, rfl⟩ := hP
    refine wpAny_mono (helt C c t s₃ m₃ E' (by simpa using Array.mem_of_getElem? hc) hn hm (grown_past hk)) (fun y s₄ q => ⟨⟨c, t, rfl, q.1⟩, q.2⟩) fun _ _ e => e
  · intro D h' tk ys vs hnew hlD hplD hlen hP hF hk
    obtain ⟨c, F', N', ne⟩ := comp_tail F N hnew hplD hk
    rw [filt_all] at hF
    refine hQ D ys.toList c h' tk F' (by simpa using N') ne ?_
    have go : ∀ (cs : List Nat) (vs : List Value) (ys : List Value), vs.length = cs.length → (∀ (j : Nat) v, vs[j]? = some v → ∃ c t, cs[j]? = some c ∧ v = .str ⟨#[c]⟩ t) → Paired (fun v y => ∃ (c : Nat) (t : Tok), v = .str ⟨#[c]⟩ t ∧ G c y) vs ys →
        Paired G cs ys := by
      intro cs vs ys hl hv hp
      induction hp generalizing cs with
      | nil => rw [List.length_eq_zero_iff.mp hl.symm]; exact .nil
      | cons r hr ih =>
        rename_i a b l1 l2
        cases cs with
        | nil => simp at hl
        | cons c0 cs =>
          obtain ⟨c, t, e1, hg⟩ := r
          obtain ⟨c', t', e2, e3⟩ := hv 0 a rfl
          rw [e1] at e3
          have e4 : c = c' := by injection e3 with e5 _; injection e5 with e6; simpa using e6
          have e5 : c0 = c' := by simpa using e2
          refine .cons (by rw [e5, ← e4]; exact hg) (ih cs (by simpa using hl) fun j v hj => by simpa using hv (j + 1) v (by simpa using hj))
    exact go z.cps.toList vs ys.toList (by rw [hlen]; simp) (fun j v hj => by
      obtain ⟨c, t, hc, e⟩ := hP j v hj
      exact ⟨c, t, by simpa using hc, e⟩) hF
end
end
section
open PyProof.V PySem.Spec PySem.Calls
theorem cods_fold (rest : List (List Nat)) : ∀ acc : List Nat, ((rest.map fun l => (⟨l.toArray⟩ : Str)).foldl (fun acc p => acc ++ (Str.ofString "").cps ++ p.cps) acc.toArray) = (acc ++ rest.flatten).toArray := by
  induction rest with
  | nil => intro acc; simp
  | cons l rest ih =>
    intro acc
    rw [List.map_cons, List.foldl_cons]
    have e : acc.toArray ++ (Str.ofString "").cps ++ (⟨l.toArray⟩ : Str).cps = (acc ++ l).toArray := by
      rw [show (Str.ofString "").cps = #[] from by decide]
      simp
    rw [e, ih]
    simp
theorem join_codes (ls : List (List Nat)) : Txt.join (Str.ofString "") (ls.map fun l => (⟨l.toArray⟩ : Str)) = ⟨ls.flatten.toArray⟩ := by
  cases ls with
  | nil => rfl
  | cons l rest =>
    show Builtin.Str.glued (Str.ofString "") ((⟨l.toArray⟩ : Str) :: rest.map fun l => (⟨l.toArray⟩ : Str)) = _
    unfold Builtin.Str.glued
    have := cods_fold rest l
    simp only [List.flatten_cons]
    rw [← this]
    rfl
theorem flat_ones : ∀ cs : List Nat, (cs.map fun c => [c]).flatten = cs
  | [] => rfl
  | c :: cs => by rw [List.map_cons, List.flatten_cons, flat_ones cs]; rfl
theorem join_chars (cs : List Nat) : Txt.join (Str.ofString "") (cs.map fun c => (⟨#[c]⟩ : Str)) = ⟨cs.toArray⟩ := by
  have := join_codes (cs.map fun c => [c])
  rw [List.map_map] at this
  rw [flat_ones] at this
  exact this
section
variable {prog : Program} {w : World} {A : Around} {E : Value → Shared → Prop} {s : Shared} {h₀ : Heap} {L : Addr} {m : Str → Option Value} {news : List (Addr × Obj)} {env : Env}
/-- ''.join of a list of signs -/
theorem join_signs {D : Addr} {ys : List Value} {n : Nat} {cs : List Nat} {tx : Tok} {Q : Value → Shared → Prop} (N : News h₀ L s.heap news) (hm : (D, W.listOf ys.toArray n) ∈ news) (hy : StrsAre ys (cs.map fun c => (⟨#[c]⟩ : Str))) (hl : cs.length ≤ 1000)
    (h : ∀ t' k, Q (.str ⟨cs.toArray⟩ t') { s with toks := k }) : wpAny (model prog w) A (call (.builtin "str.join") [.str (Str.ofString "") tx, .ref D]) Q E s := by
  refine join_list (News.isList N hm) (by simpa using hy) ?_ (fun t' k => by rw [join_chars]; exact h t' k)
  have e : ((cs.map fun c => (⟨#[c]⟩ : Str)).map (·.length)).sum = cs.length := by
    rw [List.map_map]
    clear hy h hl
    induction cs with
    | nil => rfl
    | cons c cs ih => rw [List.map_cons, List.sum_cons, ih, List.length_cons]; show 1 + _ = _; omega
  rw [e, show (Str.ofString "").length = 0 from by decide]
  omega
theorem join_texts {D : Addr} {ys : List Value} {n : Nat} {ls : List (List Nat)} {tx : Tok} {Q : Value → Shared → Prop} (N : News h₀ L s.heap news) (hm : (D, W.listOf ys.toArray n) ∈ news) (hy : StrsAre ys (ls.map fun l => (⟨l.toArray⟩ : Str))) (hl : ls.flatten.length ≤ 1000)
    (h : ∀ t' k, Q (.str ⟨ls.flatten.toArray⟩ t') { s with toks := k }) : wpAny (model prog w) A (call (.builtin "str.join") [.str (Str.ofString "") tx, .ref D]) Q E s := by
  refine join_list (News.isList N hm) (by simpa using hy) ?_ (fun t' k => by rw [join_codes]; exact h t' k)
  have e : ((ls.map fun l => (⟨l.toArray⟩ : Str)).map (·.length)).sum = ls.flatten.length := by
    rw [List.map_map]
    clear hy h hl
    induction ls with
    | nil => rfl
    | cons l ls ih => rw [List.map_cons, List.sum_cons, ih, List.flatten_cons, List.length_append]; show l.toArray.size + _ = _; rw [List.size_toArray]
  rw [e, show (Str.ofString "").length = 0 from by decide]
  omega
end
end
section
open PyProof.V PySem.Spec PySem.Calls

/-- the sign that the facts together say at a place -/
noncomputable def mergeC (x y : Str) (i : Nat) : Str := if (Txt.item x (i : Int) != Str.ofString "?") = true then Txt.item x (i : Int) else Txt.item y (i : Int)
noncomputable def mergeF (x y : Str) : Str := ⟨((List.range 8).map fun i => (mergeC x y i).cps.getD 0 0).toArray⟩
noncomputable def MergeV (x y : Str) (i : Nat) (v : Value) : Prop := ∃ t, v = .str (mergeC x y i) t
theorem mergeC_one (x y : Str) (i : Nat) : mergeC x y i = ⟨#[(mergeC x y i).cps.getD 0 0]⟩ := by
  unfold mergeC Txt.item
  split <;> rfl
theorem merge_l {x y : Str} {i : Nat} {t : Tok} (h : (Txt.item x (i : Int) != Str.ofString "?") = true) : MergeV x y i (.str (Txt.item x (i : Int)) t) := ⟨t, by unfold mergeC; rw [if_pos h]⟩
theorem merge_r {x y : Str} {i : Nat} {t : Tok} (h : (Txt.item x (i : Int) != Str.ofString "?") = false) : MergeV x y i (.str (Txt.item y (i : Int)) t) := ⟨t, by unfold mergeC; rw [if_neg (by rw [h]; exact Bool.noConfusion)]⟩
theorem strs_merge {x y : Str} {ys : List Value} (h : Paired (MergeV x y) (List.range 8) ys) : StrsAre ys (((List.range 8).map fun i => (mergeC x y i).cps.getD 0 0).map fun c => (⟨#[c]⟩ : Str)) := by
  have go : ∀ (l : List Nat) (ys : List Value), Paired (MergeV x y) l ys → StrsAre ys ((l.map fun i => (mergeC x y i).cps.getD 0 0).map fun c => (⟨#[c]⟩ : Str)) := by
    intro l ys h
    induction h with
    | nil => exact .nil
    | cons r _ ih =>
      obtain ⟨t, rfl⟩ := r
      rw [List.map_cons, List.map_cons, ← mergeC_one]
      exact StrsAre.cons _ _ ih
  exact go _ _ h
theorem known_init {prog : Program} {w : World} {A : Around} {E : Value → Shared → Prop} {s : Shared} {h₀ : Heap} {L d : Addr} {m : Str → Option Value} {news : List (Addr × Obj)} {o : Obj} {kvs : List (Str × Value)} {K : Nat → Str} {i c : Nat} {v : Str} {t tv : Tok} {Q : Unit → Shared → Prop}
    (hic : (i = 0 ∧ c = 120) ∨ (i = 1 ∧ c = 121) ∨ (i = 2 ∧ c = 122)) (hv : v = K c) (F : Fr h₀ L s.heap m) (N : News h₀ L s.heap ((d, o) :: news)) (hne : ∀ p ∈ news, p.1 ≠ d) (hd : o.IsDictOf (strKind prog w) kvs) (hf : FlatPairs PyData.str kvs ((tabD K).take i))
    (h : ∀ h' o' kvs', Fr h₀ L h' m → News h₀ L h' ((d, o') :: news) → o'.IsDictOf (strKind prog w) kvs' → FlatPairs PyData.str kvs' ((tabD K).take (i + 1)) → Q () { s with heap := h', toks := s.toks + 1 }) :
    wpAny (model prog w) A (setItem (.ref d) (.str ⟨#[c]⟩ t) (.str v tv)) Q E s := by
  refine setItem_K PyProof.V.same_str (strKind_is _ _ _ _) (.str _ _) F N (.head hne) hd hf (fun h' o' F' N' hd' hf' => ?_) (by rw [sizeLine_eq]; exact Nat.le_trans (List.length_take_le' _ _) (by decide : 3 ≤ 16777216))
  refine h h' o' _ F' N' hd' ?_
  have e : putD (.str ⟨#[c]⟩) (.str v) ((tabD K).take i) = (tabD K).take (i + 1) := by
    rw [hv]
    rcases hic with ⟨rfl, rfl⟩ | ⟨rfl, rfl⟩ | ⟨rfl, rfl⟩ <;> rfl
  rw [← e]; exact hf'
local macro_rules | `(tactic| walk_at "subscriptTail") => `(tactic| (k_here; (with_reducible show wpAny _ _ (subscriptTail _ _ (Value.ref _) (Value.int _ _)) _ _ _); k_dflt (refine' item_at ?N ?m ?a ?b ?x ?_ ?s; (case N => k_asm); (case m => k_mem); (case a => first | decide | omega); (case b => first | decide | omega); (case x => first | exact rfl | assumption); (case s => exact rfl))))
local macro_rules | `(tactic| walk_at "call builtin:str.lower") => `(tactic| (k_here; (with_reducible show wpAny _ _ (call (Value.builtin "str.lower") [Value.str _ _]) _ _ _); k_dflt (refine' lower_nm ?k1 ?_; (case k1 => assumption)); intro _))
local macro_rules | `(tactic| walk_at "exec For Name Name cons nil") => `(tactic| (k_here; (rename Fr _ _ _ _ => lF'); (with_unfolding_all refine' For_invVF lF' ?k1 ?k2 ?_; (case k1 => exact rfl); (case k2 => exact rfl); k_whole)))
theorem setK_same (K : Nat → Str) (c : Nat) (v : Str) : setK K c v c = v := if_pos rfl
theorem til_all : ∀ c1 ∈ [88, 89, 90, 120, 121, 122], ∀ c2 ∈ [120, 121, 122], ∀ op ∈ [(36 : Int), 37, 41, 42, 43], ∀ tl : Bool,
    (!(Builtin.Str.occurrences (stmText ⟨c1, op, tl, c2⟩) (Str.ofString "~") 0 (stmText ⟨c1, op, tl, c2⟩).length 1).isEmpty) = tl := by decide +kernel
theorem til_of {c1 c2 : Nat} {op : Int} (tl : Bool) (h1 : isL c1) (h2 : isLow c2) (ho : op = 36 ∨ op = 37 ∨ op = 41 ∨ op = 42 ∨ op = 43) :
    (!(Builtin.Str.occurrences (stmText ⟨c1, op, tl, c2⟩) (Str.ofString "~") 0 (stmText ⟨c1, op, tl, c2⟩).length 1).isEmpty) = tl :=
  til_all c1 (by unfold isL at h1; simpa using h1) c2 (by unfold isLow at h2; simpa using h2) op (by simpa using ho) tl
theorem stm_items (c1 : Nat) (op : Int) (tl : Bool) (c2 : Nat) : Txt.item (stmText ⟨c1, op, tl, c2⟩) 0 = ⟨#[c1]⟩ ∧ Txt.item (stmText ⟨c1, op, tl, c2⟩) (-2) = ⟨#[c2]⟩ ∧ Txt.item (stmText ⟨c1, op, tl, c2⟩) 1 = ⟨#[opcOf op]⟩ ∧ 5 ≤ (stmText ⟨c1, op, tl, c2⟩).length ∧ (stmText ⟨c1, op, tl, c2⟩).length ≤ 6 := by
  cases tl
  · rw [show stmText ⟨c1, op, false, c2⟩ = ⟨#[c1, opcOf op, 61, c2, 44]⟩ from rfl]
    exact ⟨rfl, rfl, rfl, by show 5 ≤ 5; decide, by show 5 ≤ 6; decide⟩
  · rw [show stmText ⟨c1, op, true, c2⟩ = ⟨#[c1, opcOf op, 61, 126, c2, 44]⟩ from rfl]
    exact ⟨rfl, rfl, rfl, by show 5 ≤ 6; decide, by show 6 ≤ 6; decide⟩
theorem okK_at {c : RuleSt} (h : okK c.1) (sts : List Stm) : okK (ruleAt c sts).1 := by
  unfold ruleAt
  induction sts generalizing c with
  | nil => exact h
  | cons st sts ih => exact ih (okK_step h)
theorem isL_at {c : RuleSt} (h : ∀ r ∈ c.2, isL r.1) : ∀ {sts : List Stm}, (∀ st ∈ sts, okStm st) → ∀ r ∈ (ruleAt c sts).2, isL r.1
  | [], _ => h
  | st :: sts, hs => by
    refine isL_at (c := stepRule c st) (sts := sts) (fun r hr => ?_) (fun q hq => hs q (List.mem_cons_of_mem _ hq))
    rcases List.mem_append.mp hr with hr | hr
    · exact h r (List.mem_filter.mp hr).1
    · rw [List.mem_singleton.mp hr]; exact (hs st List.mem_cons_self).1
theorem merge_signs {x y : Str} (hx : signs8 x) (hy : signs8 y) : signs8 (mergeF x y) := by
  refine ⟨by show (List.toArray _).size = 8; rw [List.size_toArray, List.length_map, List.length_range], fun c hc => ?_⟩
  have hc' : c ∈ (List.range 8).map fun i => (mergeC x y i).cps.getD 0 0 := by simpa [mergeF] using hc
  obtain ⟨i, hi, rfl⟩ := List.mem_map.mp hc'
  have hi8 : i < 8 := List.mem_range.mp hi
  have go : ∀ z : Str, signs8 z → ((Txt.item z (i : Int)).cps.getD 0 0 = 48 ∨ (Txt.item z (i : Int)).cps.getD 0 0 = 49 ∨ (Txt.item z (i : Int)).cps.getD 0 0 = 63) := fun z hz => by
    rcases item_sign hz (k := (i : Int)) (by omega) (by omega) with q | q | q <;> rw [q] <;> simp
  unfold mergeC
  split
  · exact go x hx
  · exact go y hy
theorem occ01a : Builtin.Str.occurrences (Str.ofString "01?") { cps := #[48] } 0 (Str.ofString "01?").length 1 = [0] := by decide +kernel
theorem occ01b : Builtin.Str.occurrences (Str.ofString "01?") { cps := #[49] } 0 (Str.ofString "01?").length 1 = [1] := by decide +kernel
theorem occ01c : Builtin.Str.occurrences (Str.ofString "01?") { cps := #[63] } 0 (Str.ofString "01?").length 1 = [2] := by decide +kernel
noncomputable def FlipV (c : Nat) (v : Value) : Prop := ∃ t, v = .str ⟨#[flipC c]⟩ t
theorem flipV_of {c : Nat} {z : Str} {t : Tok} (h : z = ⟨#[flipC c]⟩) : FlipV c (.str z t) := ⟨t, by rw [h]⟩
theorem strs_flip {cs : List Nat} {ys : List Value} (h : Paired FlipV cs ys) : StrsAre ys ((cs.map flipC).map fun c => (⟨#[c]⟩ : Str)) := by
  induction h with
  | nil => exact .nil
  | cons r _ ih =>
    obtain ⟨t, rfl⟩ := r
    rw [List.map_cons, List.map_cons]
    exact StrsAre.cons _ _ ih
/-- ahead of a turn of the rule's first loop -/
inductive RuleA (w : World) (news : List (Addr × Obj)) (d p fa sa L7 : Addr) (K : Nat → Str) (i : Nat) (m : Str → Option Value) (nx : List (Addr × Obj)) : Prop
  | mk (u : Str → Option Value) (o1 o2 o3 od : Obj) (v1 v2 v3 : Option Value) (kvs : List (Str × Value)) (em : m = kstB u [(Str.ofString "known", .ref d), (Str.ofString "pairs", .ref p), (Str.ofString "facts", .ref fa), (Str.ofString "statements", .ref sa)])
    (en : nx = (d, od) :: (L7 + 1 + 1 + 1, o1) :: (L7 + 1 + 1, o2) :: (L7 + 1, o3) :: news) (h1 : o1.data = Data.cell v1) (h2 : o2.data = Data.cell v2) (h3 : o3.data = Data.cell v3)
    (hod : od.IsDictOf (strKind PySem.Challenge.rw_we0031_01.row.prog w) kvs) (hkv : FlatPairs PyData.str kvs ((tabD K).take i)) : RuleA w news d p fa sa L7 K i m nx
/-- ahead of a turn of the rule's second loop -/
inductive RuleB (w : World) (news : List (Addr × Obj)) (H d fa sa L7 : Addr) (c0 : RuleSt) (sts : List Stm) (i : Nat) (m : Str → Option Value) (nx : List (Addr × Obj)) : Prop
  | mk (u : Str → Option Value) (pl : Addr) (vsP : List Value) (cP : Nat) (refs : List Value) (cH : Nat) (o1 o2 o3 od : Obj) (v1 v2 v3 : Option Value) (kvs : List (Str × Value)) (rest : List (Addr × Obj))
    (em : m = kstB u [(Str.ofString "history", .ref H), (Str.ofString "known", .ref d), (Str.ofString "pairs", .ref pl), (Str.ofString "facts", .ref fa), (Str.ofString "statements", .ref sa)])
    (en : nx = (H, W.listOf refs.toArray cH) :: (d, od) :: (L7 + 1 + 1 + 1, o1) :: (L7 + 1 + 1, o2) :: (L7 + 1, o3) :: rest) (h1 : o1.data = Data.cell v1) (h2 : o2.data = Data.cell v2) (h3 : o3.data = Data.cell v3)
    (hod : od.IsDictOf (strKind PySem.Challenge.rw_we0031_01.row.prog w) kvs) (hkv : FlatPairs PyData.str kvs (tabD (ruleAt c0 (sts.take i)).1)) (hpl : (pl, W.listOf vsP.toArray cP) ∈ rest) (hrP : Rows rest vsP (ruleAt c0 (sts.take i)).2) (hH : Paired (IsHist rest) refs (histRule c0 sts i))
    (hsub : ∀ e ∈ news, e ∈ rest) (hne : ∀ q ∈ rest, q.1 ≠ H ∧ q.1 ≠ d ∧ q.1 ≠ L7 + 1 ∧ q.1 ≠ L7 + 1 + 1 ∧ q.1 ≠ L7 + 1 + 1 + 1) (hlP : vsP.length ≤ 100 + i) (hlR : refs.length = i) : RuleB w news H d fa sa L7 c0 sts i m nx
theorem rule_call {w : World} {mean : ExcName → Option Value} {mg mb : Str → Option Value} {dp un : Nat} {gd : Option (List Code)} {cn : Str} {cs : Scope} {a : Addr} {ccd : Value} {cl : List (Str × Addr)} {outer : List Env} {A₀ : Around} {base h₀ : Heap} {L : Addr} {m : Str → Option Value} {news : List (Addr × Obj)} {s : Shared} {Q E : Value → Shared → Prop}
    (B : Below A₀ base outer h₀) (F : Fr h₀ L s.heap m) (X : (hd.heap_39 w.params).In h₀) (N : News h₀ L s.heap news) (T : Top hd.view_39 (looseW hd.view_39 [Str.ofString "EXACT_TOKEN_TYPES", Str.ofString "tspecials", Str.ofString "_name_disallowed_re", Str.ofString "_value_disallowed_re", Str.ofString "_formatparam"]) mean mg mb h₀) (hk : cs.kind = .function) (hd : dp + 14 < recursionLimit) (hu : un + 112 < cLine)
    {p fa sa f0 f1 f2 : Addr} {vs us : List Value} {c1 c2 c3 c4 c5 c6 : Nat} {ps : List (Nat × Str)} {sts : List Stm} {x0 y0 x1 y1 x2 y2 : Str} {t1 t2 t3 t4 t5 t6 : Tok}
    (hp : (p, W.listOf vs.toArray c1) ∈ news) (hr : Rows news vs ps) (hps : ∀ r ∈ ps, isL r.1)
    (hf : (fa, W.listOf #[.ref f0, .ref f1, .ref f2] c2) ∈ news) (hf0 : (f0, W.listOf #[.str x0 t1, .str y0 t2] c3) ∈ news) (hf1 : (f1, W.listOf #[.str x1 t3, .str y1 t4] c4) ∈ news) (hf2 : (f2, W.listOf #[.str x2 t5, .str y2 t6] c5) ∈ news)
    (hx0 : signs8 x0) (hy0 : signs8 y0) (hx1 : signs8 x1) (hy1 : signs8 y1) (hx2 : signs8 x2) (hy2 : signs8 y2)
    (hs : (sa, W.listOf us.toArray c6) ∈ news) (hus : StrsAre us (sts.map stmText)) (hst : ∀ st ∈ sts, lowStm st) (hl1 : vs.length ≤ 100) (hl2 : sts.length ≤ 100)
    (ret : ∀ H refs cH rest h' tk', Fr h₀ L h' m → News h₀ L h' ((H, W.listOf (List.toArray refs) cH) :: rest) → (∀ e ∈ news, e ∈ rest) → Paired (IsHist rest) refs (histRule (KF (mergeF x0 y0) (mergeF x1 y1) (mergeF x2 y2), ps) sts sts.length) → (∀ e ∈ rest, e.1 ≠ H) → Q (.ref H) { s with heap := h', toks := tk' }) :
    wpAny (model PySem.Challenge.rw_we0031_01.row.prog w) (ktrTop dp un gd cn cs L a ccd cl outer) (call (.ref 332) [.ref p, .ref fa, .ref sa]) Q E s := by
  w_top off
  k_with_none
  k_with "call ref" => (k_here; k_dflt (refine' hand_call ?k1 ?k2 ?k3 ?k4 ?k5 ?k6 ?k7 ?k8 ?k9 ?k10 ?k11 ?_; (case k1 | k2 | k3 | k4 | k5 => k_asm); (case k6 => first | exact rfl | assumption); (case k7 => ktr_room); (case k8 => ktr_units); (case k9 | k10 | k11 => assumption); k_whole); intro _ _ _ _ _;  (try k_sweep))
  refine fill_here (fun hfill => ?_)
  revert hfill
  k_fill
  intro _
  k_with "call builtin:str.index" => (first | (k_here; k_dflt (refine' index_lit 0 ?h ?_; (case h => exact occ01a); intro _)) | (k_here; k_dflt (refine' index_lit 1 ?h ?_; (case h => exact occ01b); intro _)) | (k_here; k_dflt (refine' index_lit 2 ?h ?_; (case h => exact occ01c); intro _)))
  refine wpAny_call ?_
  k_dflt ktr_enter
  rename_i g7 L7 h7 tk7 FG7 F7 B7 X7 T7 l7 o1 o2 o3 d1 d2 d3 N7
  have hd1 : o1.data = Data.cell none := d1
  have hd2 : o2.data = Data.cell none := d2
  have hd3 : o3.data = Data.cell none := d3
  clear d1 d2 d3
  have F8 := fr_canon F7 (ps := [(Str.ofString "pairs", .ref p), (Str.ofString "facts", .ref fa), (Str.ofString "statements", .ref sa)]) (by kst_all)
  clear F7
  revert F8
  generalize hmm : (bindL _ _ _ : Str → Option Value) = u7
  clear hmm
  intro F8
  repeat' ((fail_if_success (with_reducible show wpAny _ _ (pyIter _) _ _ _)); (first | (k_unfold; (try dsimp only)) | (k_end; wrow_close) | walk1 | (dsimp only; walk1)))
  rename_i d h8 od lod hid hfd hi1 hi2 ltd h9 F9 N9 hg tk9 t7 t8 t9 hR F10 N10 hkeep
  clear F9 N9 hi1 hi2
  have ltd1 : @LT.lt Nat _ (L7 + 1 + 1 + 1) d := ltd.1
  have ltd2 : ∀ q ∈ news, q.1 < d := kst_ltOf ltd.2.2.2
  k_dflt (refine for_range (n := 3) (RuleA w news d p fa sa L7 (KF (mergeF x0 y0) (mergeF x1 y1) (mergeF x2 y2))) (by rfl) hR (by decide) (by rfl) F10 N10 ?j0 ?turn ?done)
  case j0 => exact ⟨_, o1, o2, o3, od, _, _, _, [], kstB_self (by kst_all), rfl, hd1, hd2, hd3, hid, hfd⟩
  case turn =>
    clear F10 N10 hd1 hd2 hd3
    rintro i t10 m₁ nx h tk I0 oI0 hi8 ⟨u, o1, o2, o3, od, v1, v2, v3, kvs, rfl, rfl, hd1, hd2, hd3, hod, hkv⟩ F9 N9 hI0
    have lD : ∀ q ∈ news, q.1 ≠ d := fun q hq => Nat.ne_of_lt (ltd2 q hq)
    have nI1 : @Ne Nat I0 (L7 + 1) := fun e => hI0 (L7 + 1, o3) (by simp) e.symm
    have nI2 : @Ne Nat I0 (L7 + 1 + 1) := fun e => hI0 (L7 + 1 + 1, o2) (by simp) e.symm
    have nI3 : @Ne Nat I0 (L7 + 1 + 1 + 1) := fun e => hI0 (L7 + 1 + 1 + 1, o1) (by simp) e.symm
    have nId : @Ne Nat I0 d := fun e => hI0 (d, od) (by simp) e.symm
    have nN1 : ∀ q ∈ news, q.1 ≠ L7 + 1 := fun q hq => Nat.ne_of_lt (Nat.lt_succ_of_lt (l7 q hq))
    have nN2 : ∀ q ∈ news, q.1 ≠ L7 + 1 + 1 := fun q hq => Nat.ne_of_lt (Nat.lt_succ_of_lt (Nat.lt_succ_of_lt (l7 q hq)))
    obtain ⟨k, hk⟩ : ∃ k : Int, k = (i : Int) := ⟨_, rfl⟩
    have hkl : 0 ≤ k := by omega
    have hkh : k < 3 := by omega
    rw [show (0 : Int) + (i : Int) * 1 = k from by omega] at F9
    obtain ⟨fi, xi, yi, ci, cc, tx, ty, hus2, hmem, hci, hcase2, hKi, hxi, hyi⟩ : ∃ fi xi yi ci cc tx ty, [Value.ref f0, Value.ref f1, Value.ref f2][k.toNat]? = some (Value.ref fi) ∧ (fi, W.listOf #[Value.str xi tx, Value.str yi ty] cc) ∈ news ∧
        Txt.item (Str.ofString "xyz") k = ⟨#[ci]⟩ ∧ (i = 0 ∧ ci = 120 ∨ i = 1 ∧ ci = 121 ∨ i = 2 ∧ ci = 122) ∧ mergeF xi yi = KF (mergeF x0 y0) (mergeF x1 y1) (mergeF x2 y2) ci ∧ signs8 xi ∧ signs8 yi := by
      have hcase : i = 0 ∨ i = 1 ∨ i = 2 := by omega
      rcases hcase with rfl | rfl | rfl <;> subst hk
      · exact ⟨f0, x0, y0, 120, c3, t1, t2, rfl, hf0, by decide, .inl ⟨rfl, rfl⟩, rfl, hx0, hy0⟩
      · exact ⟨f1, x1, y1, 121, c4, t3, t4, rfl, hf1, by decide, .inr (.inl ⟨rfl, rfl⟩), rfl, hx1, hy1⟩
      · exact ⟨f2, x2, y2, 122, c5, t5, t6, rfl, hf2, by decide, .inr (.inr ⟨rfl, rfl⟩), rfl, hx2, hy2⟩
    dsimp only [kstB, envOf] at F9
    repeat' ((fail_if_success (with_reducible show wpAny _ _ (eval (Expr.ListComp _ _ _ _) _) _ _ _)); (first | (k_unfold; (try dsimp only)) | (k_end; wrow_close) | walk1 | (dsimp only; walk1)))
    rename_i h11 oA hcA h12 oB F11 N11 hcB
    have hIr : ∀ q ∈ (L7 + 1 + 1 + 1, o1) :: (L7 + 1 + 1, oB) :: (L7 + 1, oA) :: news, q.1 ≠ I0 := (fcons (Ne.symm nI3) ((fcons (Ne.symm nI2) ((fcons (Ne.symm nI1) (fun q hq => hI0 q (by simp [hq])))))))
    k_dflt (refine comp_range (MergeV xi yi) F11 (by rfl) (by with_unfolding_all rfl) (by decide) (by rfl) (by decide) (by rfl) ?_ (by intro _; rfl))
    repeat' ((fail_if_success (with_reducible show ∃ _, _)); (first | (k_unfold; (try dsimp only)) | (k_end; wrow_close) | walk1 | (dsimp only; walk1)))
    rename_i hg2 tk2 ta tb tc hR2 F12 N12 hk2
    have lx : xi.length = 8 := hxi.1
    have ly : yi.length = 8 := hyi.1
    refine ⟨_, _, 8, _, _, _, _, rfl, hR2, by decide, by rfl, by rw [sizeLine_eq]; decide, F12, N12, ?_, ?_⟩
    · intro C i t s₂ m₂ E' hi hns hm hk
      k_steps
      · exact merge_l (by assumption)
      · exact ⟨_, _, rfl, fun _ _ e => e⟩
      · exact merge_r (by assumption)
      · exact ⟨_, _, rfl, fun _ _ e => e⟩
    · intro D ys c h' tk' F' N' ne hG
      have hst := strs_merge hG
      repeat' ((fail_if_success (with_reducible show wpAny _ _ (call (Value.builtin "str.join") _) _ _ _)); (first | (k_unfold; (try dsimp only)) | (k_end; wrow_close) | walk1 | (dsimp only; walk1)))
      refine join_signs N' List.mem_cons_self hst (by simp) (fun tj kj => ?_)
      repeat' ((fail_if_success (with_reducible show wpAny _ _ (setItem _ _ _) _ _ _)); (first | (k_unfold; (try dsimp only)) | (k_end; wrow_close) | walk1 | (dsimp only; walk1)))
      have N13 := news_drop (Y := (d, od) :: (I0, oI0) :: (L7 + 1 + 1 + 1, o1) :: (L7 + 1 + 1, oB) :: (L7 + 1, oA) :: news) N' (by (repeat' (first | (refine fcons ?_ ?_) | (intro p9 hp9; repeat (first | exact hp9 | refine List.mem_cons_of_mem _ ?_)) | k_mem)))
      have ne13 : ∀ q ∈ (I0, oI0) :: (L7 + 1 + 1 + 1, o1) :: (L7 + 1 + 1, oB) :: (L7 + 1, oA) :: news, q.1 ≠ d := (fcons nId ((fcons (Nat.ne_of_lt ltd1) ((fcons (Nat.ne_of_lt (Nat.lt_of_succ_lt ltd1)) ((fcons (Nat.ne_of_lt (Nat.lt_of_succ_lt (Nat.lt_of_succ_lt ltd1))) lD)))))))
      rw [hci]
      refine known_init (K := KF (mergeF x0 y0) (mergeF x1 y1) (mergeF x2 y2)) (i := i) hcase2 hKi F' N13 ne13 hod hkv (fun h' o' kvs' F13 N14 hod' hkv' => ?_)
      clear F' N' N13
      dsimp only
      k_steps
      exact ⟨_, _, _, (d, o') :: (L7 + 1 + 1 + 1, o1) :: (L7 + 1 + 1, oB) :: (L7 + 1, oA) :: news, rfl, F13, news_drop N14 (by (repeat' (first | (refine fcons ?_ ?_) | (intro p9 hp9; repeat (first | exact hp9 | refine List.mem_cons_of_mem _ ?_)) | k_mem))), (fcons (hI0 (d, od) (by simp)) (fun q hq => hIr q hq)), ⟨_, o1, oB, oA, o', _, _, _, kvs', kstB_self (by kst_all), rfl, hd1, hcB, hcA, hod', hkv'⟩⟩
  case done =>
    clear F10 N10 hd1 hd2 hd3
    rintro m₁ nx h tk ⟨u, o1, o2, o3, od, v1, v2, v3, kvs, rfl, rfl, hd1, hd2, hd3, hod, hkv⟩ F9 N9
    replace hkv : FlatPairs PyData.str kvs (tabD (KF (mergeF x0 y0) (mergeF x1 y1) (mergeF x2 y2))) := hkv
    dsimp only [kstB, envOf] at F9
    repeat' ((fail_if_success (with_reducible show wpAny _ _ (pyIter _) _ _ _)); (first | (k_unfold; (try dsimp only)) | (k_end; wrow_close) | walk1 | (dsimp only; walk1)))
    rename_i H h12 F12 N12 ltH h13 F10 N10
    clear F12 N12
    have ltH1 : @LT.lt Nat _ d H := ltH.1
    have ltH2 : ∀ q ∈ news, q.1 < H := kst_ltOf ltH.2.2.2.2
    obtain ⟨c0, hc0⟩ : ∃ c0 : RuleSt, c0 = (KF (mergeF x0 y0) (mergeF x1 y1) (mergeF x2 y2), ps) := ⟨_, rfl⟩
    have hK0 : okK c0.1 := by
      rw [hc0]
      rintro c (rfl | rfl | rfl)
      · exact merge_signs hx0 hy0
      · exact merge_signs hx1 hy1
      · exact merge_signs hx2 hy2
    have hps0 : ∀ r ∈ c0.2, isL r.1 := by rw [hc0]; exact hps
    rw [← hc0] at ret
    k_dflt (refine for_list (vs := us) (nn := c6) (RuleB w news H d fa sa L7 c0 sts) (by rfl) F10 N10 ?jj0 ?ll ?tturn ?ddone)
    case jj0 =>
      refine ⟨_, p, vs, c1, [], 0, o1, o2, o3, od, _, _, _, kvs, news, kstB_self (by kst_all), rfl, hd1, hd2, hd3, hod, ?_, hp, ?_, .nil, fun e he => he, fun q hq => ⟨Nat.ne_of_lt (ltH2 q hq), Nat.ne_of_lt (ltd2 q hq), ?_, ?_, ?_⟩, hl1, rfl⟩
      · rw [hc0]; exact hkv
      · rw [hc0]; exact hr
      · exact Nat.ne_of_lt (Nat.lt_succ_of_lt (l7 q hq))
      · exact Nat.ne_of_lt (Nat.lt_succ_of_lt (Nat.lt_succ_of_lt (l7 q hq)))
      · exact Nat.ne_of_lt (Nat.lt_succ_of_lt (Nat.lt_succ_of_lt (Nat.lt_succ_of_lt (l7 q hq))))
    case ll =>
      rintro i m nx ⟨u, pl, vsP, cP, refs, cH, o1, o2, o3, od, v1, v2, v3, kvs, rest, rfl, rfl, hd1, hd2, hd3, hod, hkv, hpl, hrP, hH, hsub, hne, hlP, hlR⟩
      exact List.mem_cons_of_mem _ (List.mem_cons_of_mem _ (List.mem_cons_of_mem _ (List.mem_cons_of_mem _ (List.mem_cons_of_mem _ (hsub _ hs)))))
    case tturn =>
      clear F10 N10 hd1 hd2 hd3 hod hkv
      rintro i v m₁ nx h tk I0 oI0 hv ⟨u, pl, vsP, cP, refs, cH, o1, o2, o3, od, v1, v2, v3, kvs, rest, rfl, rfl, hd1, hd2, hd3, hod, hkv, hpl, hrP, hH, hsub, hne, hlP, hlR⟩ F9 N9 hI0
      obtain ⟨z9, tz9, hz9, rfl⟩ := strs_get hus hv
      rw [List.getElem?_map] at hz9
      obtain ⟨st, hst9, rfl⟩ := Option.map_eq_some_iff.mp hz9
      have hi9 : i < sts.length := (List.getElem?_eq_some_iff.mp hst9).1
      have hlow := hst st (List.mem_of_getElem? hst9)
      have hstep := ruleAt_snoc (c := c0) hst9
      have hokK := okK_at hK0 (sts.take i)
      have hLr := isL_at hps0 (sts := sts.take i) (fun s hs => (hst s (List.mem_of_mem_take hs)).1)
      generalize hcc : ruleAt c0 (sts.take i) = cc at hstep hokK hLr hkv hrP
      obtain ⟨c1, op, tl, c2⟩ := st
      obtain ⟨⟨hc1, hc2, hop⟩, hl2c⟩ := hlow
      dsimp only at hc1 hc2 hop hl2c
      have nI1 : @Ne Nat I0 (L7 + 1) := fun e => hI0 (L7 + 1, o3) (by simp) e.symm
      have nI2 : @Ne Nat I0 (L7 + 1 + 1) := fun e => hI0 (L7 + 1 + 1, o2) (by simp) e.symm
      have nI3 : @Ne Nat I0 (L7 + 1 + 1 + 1) := fun e => hI0 (L7 + 1 + 1 + 1, o1) (by simp) e.symm
      have nId : @Ne Nat I0 d := fun e => hI0 (d, od) (by simp) e.symm
      have nIH : @Ne Nat I0 H := fun e => hI0 _ List.mem_cons_self e.symm
      have nH3 : @Ne Nat H (L7 + 1 + 1 + 1) := Nat.ne_of_gt (Nat.lt_trans ltd1 ltH1)
      have nd3 : @Ne Nat d (L7 + 1 + 1 + 1) := Nat.ne_of_gt ltd1
      have nR3 : ∀ q ∈ rest, q.1 ≠ L7 + 1 + 1 + 1 := fun q hq => (hne q hq).2.2.2.2
      have nRd : ∀ q ∈ rest, q.1 ≠ d := fun q hq => (hne q hq).2.1
      have nRH : ∀ q ∈ rest, q.1 ≠ H := fun q hq => (hne q hq).1
      obtain ⟨hz0, hz2, hz1, hzl, hzh⟩ := stm_items c1 op tl c2
      have htil := til_of tl hc1 hl2c hop
      generalize stmText ⟨c1, op, tl, c2⟩ = z at F9 hz0 hz1 hz2 hzl hzh htil
      dsimp only [kstB, envOf] at F9
      repeat' ((fail_if_success (with_reducible show wpAny _ _ (call (Value.builtin "str.lower") _) _ _ _)); (first | (k_unfold; (try dsimp only)) | (k_end; wrow_close) | walk1 | (dsimp only; walk1)))
      rw [hz0]
      refine lower_nm hc1 (fun tn => ?_)
      repeat' ((fail_if_success (with_reducible show wpAny _ _ (subscriptTail _ _ (Value.ref _) (Value.str _ _)) _ _ _)); (first | (k_unfold; (try dsimp only)) | (k_end; wrow_close) | walk1 | (dsimp only; walk1)))
      rename_i h14 oN F14 N14 hcN ha9
      rw [hz2]
      refine known_get N14 (by k_mem) lod hod hkv hl2c (fun t14 => ?_)
      repeat' ((fail_if_success (with_reducible show wpAny _ _ (exec (Stmt.If _ _ _ _) _) _ _ _)); (first | (k_unfold; (try dsimp only)) | (k_end; wrow_close) | walk1 | (dsimp only; walk1)))
      rename_i h14b F14b N14b
      refine wpAny_mono (Q := fun fl s' => fl = Flow.next ∧ ∃ (h : Heap) (tk : Nat) (u : Str → Option Value) (t : Tok), s' = { s with heap := h, toks := tk } ∧ Fr g7 L7 h (kstB u [(Str.ofString "other", .str (otherF cc.1 ⟨c1, op, tl, c2⟩) t), (Str.ofString "text", .str z tz9), (Str.ofString "history", .ref H), (Str.ofString "known", .ref d), (Str.ofString "pairs", .ref pl), (Str.ofString "facts", .ref fa), (Str.ofString "statements", .ref sa)]) ∧
        News g7 L7 h ((I0, oI0) :: (H, W.listOf refs.toArray cH) :: (d, od) :: (L7 + 1 + 1 + 1, oN) :: (L7 + 1 + 1, o2) :: (L7 + 1, o3) :: rest)) ?ja ?jb (fun _ _ e => e)
      case ja =>
        repeat' ((fail_if_success (with_reducible show wpAny _ _ (truthy _) _ _ _)); (first | (k_unfold; (try dsimp only)) | (k_end; wrow_close) | walk1 | (dsimp only; walk1)))
        rw [htil]
        clear htil
        cases tl with
        | false =>
          repeat' ((fail_if_success (with_reducible show _ = Flow.next ∧ _)); (first | (k_unfold; (try dsimp only)) | (k_end; wrow_close) | walk1 | (dsimp only; walk1)))
          exact ⟨rfl, _, _, _, _, rfl, fr_canon (by k_asm) (by kst_all), by k_asm⟩
        | true =>
          have hs20 : signs8 (cc.1 c2) := hokK _ hl2c
          repeat' ((fail_if_success (with_reducible show wpAny _ _ (eval (Expr.ListComp _ _ _ _) _) _ _ _)); (first | (k_unfold; (try dsimp only)) | (k_end; wrow_close) | walk1 | (dsimp only; walk1)))
          k_dflt (refine comp_str FlipV F14b (by rfl) (by with_unfolding_all rfl) (by decide) (by rfl) (by decide) (by rfl) ?_ (by intro _; rfl))
          repeat' ((fail_if_success (with_reducible show ∃ _, _)); (first | (k_unfold; (try dsimp only)) | (k_end; wrow_close) | walk1 | (dsimp only; walk1)))
          refine ⟨_, _, _, rfl, by rw [sizeLine_eq]; show (cc.1 c2).length ≤ _; rw [hs20.1]; decide, by k_asm, by k_asm, ?_, ?_⟩
          · intro C c t s₂ m₂ E' hc hns hm hk
            rcases hs20.2 c hc with rfl | rfl | rfl
            all_goals
              k_steps
              · exact flipV_of (by decide)
              · exact ⟨_, _, rfl, fun _ _ e => e⟩
          intro D24 ys24 c24 h24' tk24' F24' N24' ne24 hG24
          have hst24 := strs_flip hG24
          clear F14b N14b
          repeat' ((fail_if_success (with_reducible show wpAny _ _ (call (Value.builtin "str.join") _) _ _ _)); (first | (k_unfold; (try dsimp only)) | (k_end; wrow_close) | walk1 | (dsimp only; walk1)))
          refine join_signs N24' List.mem_cons_self hst24 (by rw [List.length_map, Array.length_toList]; show (cc.1 c2).length ≤ 1000; rw [hs20.1]; decide) (fun tj kj => ?_)
          rw [show (⟨((cc.1 c2).cps.toList.map flipC).toArray⟩ : Str) = flipF (cc.1 c2) from rfl]
          repeat' ((fail_if_success (with_reducible show _ = Flow.next ∧ _)); (first | (k_unfold; (try dsimp only)) | (k_end; wrow_close) | walk1 | (dsimp only; walk1)))
          rename_i F25 N25
          exact ⟨rfl, _, _, _, _, rfl, fr_canon F25 (by kst_all), news_drop N25 (by (repeat' (first | (refine fcons ?_ ?_) | (intro p9 hp9; repeat (first | exact hp9 | refine List.mem_cons_of_mem _ ?_)) | k_mem)))⟩
      case jb =>
      clear F14b N14b
      rintro fl s' ⟨rfl, h, tk, u, t, rfl, F14, N14⟩
      dsimp only [kstB] at F14
      dsimp only
      have hop9 : opcOf op = 43 ∨ opcOf op = 45 ∨ opcOf op = 38 ∨ opcOf op = 124 ∨ opcOf op = 94 := by
        rcases hop with rfl | rfl | rfl | rfl | rfl <;> decide
      repeat' ((fail_if_success (with_reducible show wpAny _ _ (subscriptTail _ _ (Value.ref _) (Value.str _ _)) _ _ _)); (first | (k_unfold; (try dsimp only)) | (k_end; wrow_close) | walk1 | (dsimp only; walk1)))
      rename_i ha15
      refine known_get N14 (by k_mem) lod hod hkv (isLow_lo hc1) (fun t15 => ?_)
      have hs1 : signs8 (cc.1 (lo1 c1)) := hokK _ (isLow_lo hc1)
      have hs2 : signs8 (otherF cc.1 ⟨c1, op, tl, c2⟩) := by cases tl; exact hokK _ hl2c; exact flip_signs (hokK _ hl2c)
      rw [hz1]
      repeat' ((fail_if_success (with_reducible show wpAny _ _ (setItem _ _ _) _ _ _)); (first | (k_unfold; (try dsimp only)) | (k_end; wrow_close) | walk1 | (dsimp only; walk1)))
      rename_i t16 h16 tk16 F16 N16
      have N17 := news_drop (Y := (d, od) :: (I0, oI0) :: (H, W.listOf refs.toArray cH) :: (L7 + 1 + 1 + 1, oN) :: (L7 + 1 + 1, o2) :: (L7 + 1, o3) :: rest) N16 (by (repeat' (first | (refine fcons ?_ ?_) | (intro p9 hp9; repeat (first | exact hp9 | refine List.mem_cons_of_mem _ ?_)) | k_mem)))
      refine known_set F16 N17 ((fcons nId ((fcons (Nat.ne_of_gt ltH1) ((fcons (Nat.ne_of_lt ltd1) ((fcons (Nat.ne_of_lt (Nat.lt_of_succ_lt ltd1)) ((fcons (Nat.ne_of_lt (Nat.lt_of_succ_lt (Nat.lt_of_succ_lt ltd1))) nRd)))))))))) hod hkv (isLow_lo hc1) (fun h17 o17 kvs17 F17 N18 hod17 hkv17 => ?_)
      clear F16 N16 N17 hod hkv
      obtain ⟨info, hinf, hi⟩ := rows_info (news_drop N18 (by intro p hp; simp [hp])) hrP
      dsimp only
      repeat' ((fail_if_success (with_reducible show wpAny _ _ (eval (Expr.ListComp _ _ _ _) _) _ _ _)); (first | (k_unfold; (try dsimp only)) | (k_end; wrow_close) | walk1 | (dsimp only; walk1)))
      k_dflt (refine comp_list (fun v => decide (lo1 (info v).1 ≠ lo1 c1)) (fun v y => y = v) F17 (by rfl) (by with_unfolding_all rfl) (by decide) (by rfl) (by decide) (by rfl) ?_ (by intro _; rfl))
      repeat' ((fail_if_success (with_reducible show ∃ _, _)); (first | (k_unfold; (try dsimp only)) | (k_end; wrow_close) | walk1 | (dsimp only; walk1)))
      refine ⟨_, pl, vsP, rfl, News.isList (by k_asm) (by k_mem), by rw [sizeLine_eq]; omega, by k_asm, by k_asm, ?_, ?_, ?_⟩
      · intro C v s₂ m₂ E' hv hns hm hk
        obtain ⟨a9, t91, t92, e9, m9⟩ := hi v hv
        subst e9
        have hL9 : isL (info (Value.ref a9)).1 := hLr _ (by rw [hinf]; exact List.mem_map_of_mem hv)
        k_steps
        · exact one_bne _ _
        · exact ⟨_, _, rfl, fun _ _ e => e⟩
      · intro C v s₂ m₂ E' hv hpz hns hm hk
        obtain ⟨a9, t91, t92, e9, m9⟩ := hi v hv
        k_steps
        exact ⟨_, _, rfl, fun _ _ e => e⟩
      · intro D ys c2' h' tk' F' N' ne hG
        have hG' := eq_of_paired hG
        subst hG'
        repeat' ((fail_if_success (with_reducible show wpAny _ _ (subscriptTail _ _ (Value.ref _) (Value.str _ _)) _ _ _)); (first | (k_unfold; (try dsimp only)) | (k_end; wrow_close) | walk1 | (dsimp only; walk1)))
        refine known_get N' (by k_mem) lod hod17 hkv17 (isLow_lo hc1) (fun t18 => ?_)
        rw [setK_same]
        rw [hz0]
        repeat' ((fail_if_success (with_reducible show wpAny _ _ (binaryOp .Add (Value.ref _) (Value.ref _)) _ _ _)); (first | (k_unfold; (try dsimp only)) | (k_end; wrow_close) | walk1 | (dsimp only; walk1)))
        rename_i D18 h18a lt17 l18 h18 F18 N18 lt18
        have hfl := List.length_filter_le (fun v => decide (lo1 (info v).1 ≠ lo1 c1)) vsP
        refine kmk_add_lit F18 N18 (News.isList N18 (by k_mem)) (News.isList N18 List.mem_cons_self) rfl (fun D2 h19 F19 N19 lt19 => ?_) (by rw [sizeLine_eq]; show (List.filter _ vsP).length + 1 ≤ _; omega)
        have hrl : refs.length ≤ 1000 := by omega
        have lt19H : @LT.lt Nat _ H D2 := lt19 (H, W.listOf refs.toArray cH) (by simp)
        have m19 : ∀ q ∈ (d, o17) :: (I0, oI0) :: (H, W.listOf refs.toArray cH) :: (L7 + 1 + 1 + 1, oN) :: (L7 + 1 + 1, o2) :: (L7 + 1, o3) :: rest, q.1 < D2 := fun q hq => lt19 q (by exact List.mem_cons_of_mem _ (List.mem_cons_of_mem _ (List.mem_cons_of_mem _ hq)))
        have lt19d : @LT.lt Nat _ d D2 := m19 _ List.mem_cons_self
        have lt19I : @LT.lt Nat _ I0 D2 := m19 (I0, oI0) (by simp)
        have lt17d : @LT.lt Nat _ d D18 := lt17.2.1
        have lt17I : @LT.lt Nat _ I0 D18 := lt17.2.2.1
        have lt17H : @LT.lt Nat _ H D18 := lt17.2.2.2.1
        clear lt17 lt18 m19
        repeat' ((fail_if_success (with_reducible show wpAny _ _ (call (Value.builtin "list.append") _) _ _ _)); (first | (k_unfold; (try dsimp only)) | (k_end; wrow_close) | walk1 | (dsimp only; walk1)))
        rename_i h20 F20 N20
        obtain ⟨rest9, hrest9⟩ : ∃ r, (D2, W.listOf ((vsP.filter fun v => decide (lo1 (info v).1 ≠ lo1 c1)) ++ [Value.ref D18]).toArray 0) :: (D18, tup [.str ⟨#[c1]⟩ (tk' + 1), .str (handF (opcOf op) (cc.1 (lo1 c1)) (otherF cc.1 ⟨c1, op, tl, c2⟩)) t18]) :: rest = r := ⟨_, rfl⟩
        have N21 := news_drop (Y := (H, W.listOf refs.toArray cH) :: (d, o17) :: (L7 + 1 + 1 + 1, oN) :: (L7 + 1 + 1, o2) :: (L7 + 1, o3) :: (I0, oI0) :: rest9) N20 (by rw [← hrest9]; (repeat' (first | (refine fcons ?_ ?_) | (intro p9 hp9; repeat (first | exact hp9 | refine List.mem_cons_of_mem _ ?_)) | k_mem)))
        clear N20
        have ne9 : ∀ q ∈ rest9, q.1 ≠ H ∧ q.1 ≠ d ∧ q.1 ≠ L7 + 1 ∧ q.1 ≠ L7 + 1 + 1 ∧ q.1 ≠ L7 + 1 + 1 + 1 := by
          rw [← hrest9]
          refine (fcons (⟨?_, ?_, ?_, ?_, ?_⟩) ((fcons (⟨?_, ?_, ?_, ?_, ?_⟩) hne))) <;> (show @Ne Nat _ _; first | k_ne | omega)
        have ne9H : ∀ q ∈ rest9, q.1 ≠ H := fun q hq => (ne9 q hq).1
        have ne9I : ∀ q ∈ rest9, q.1 ≠ I0 := by
          rw [← hrest9]
          refine (fcons (by (show @Ne Nat _ _; first | k_ne | omega)) ((fcons (by (show @Ne Nat _ _; first | k_ne | omega)) (fun q hq => hI0 q (by simp [hq])))))
        have sub9 : ∀ e ∈ rest, e ∈ rest9 := fun e he => by rw [← hrest9]; exact List.mem_cons_of_mem _ (List.mem_cons_of_mem _ he)
        have mD2 : (D2, W.listOf ((vsP.filter fun v => decide (lo1 (info v).1 ≠ lo1 c1)) ++ [Value.ref D18]).toArray 0) ∈ rest9 := by rw [← hrest9]; exact List.mem_cons_self
        have mD18 : (D18, tup [.str ⟨#[c1]⟩ (tk' + 1), .str (handF (opcOf op) (cc.1 (lo1 c1)) (otherF cc.1 ⟨c1, op, tl, c2⟩)) t18]) ∈ rest9 := by rw [← hrest9]; exact List.mem_cons_of_mem _ List.mem_cons_self
        have hR9 : Rows rest9 ((vsP.filter fun v => decide (lo1 (info v).1 ≠ lo1 c1)) ++ [Value.ref D18]) (ruleAt c0 (sts.take (i + 1))).2 := by
          rw [hstep]
          unfold stepRule
          rw [hinf]
          exact Rows.snoc (Rows.mono (rows_filter (fun r => decide (lo1 r.1 ≠ lo1 c1)) hi) sub9) mD18
        clear ne hG
        k_steps
        rename_i F21 N22
        rw [List.push_toArray] at N22
        have hkv9 : FlatPairs PyData.str kvs17 (tabD (ruleAt c0 (sts.take (i + 1))).1) := by rw [hstep]; exact hkv17
        refine ⟨_, _, _, (H, W.listOf (refs ++ [Value.ref D2]).toArray (cH + 1)) :: (d, o17) :: (L7 + 1 + 1 + 1, oN) :: (L7 + 1 + 1, o2) :: (L7 + 1, o3) :: rest9, rfl, F21, news_drop N22 (by (repeat' (first | (refine fcons ?_ ?_) | (intro p9 hp9; repeat (first | exact hp9 | refine List.mem_cons_of_mem _ ?_)) | k_mem))), ?_, ⟨_, D2, _, 0, refs ++ [Value.ref D2], cH + 1, oN, o2, o3, o17, _, _, _, kvs17, rest9, kstB_self (by kst_all), rfl, hcN, hd2, hd3, hod17, hkv9, mD2, hR9, ?_, fun e he => sub9 _ (hsub e he), ne9, ?_, by rw [List.length_append, hlR]; rfl⟩⟩
        · exact (fcons (Ne.symm nIH) ((fcons (Ne.symm nId) ((fcons (Ne.symm nI3) ((fcons (Ne.symm nI2) ((fcons (Ne.symm nI1) ne9I)))))))))
        · rw [histRule_succ]
          exact Paired.snoc (Hists.mono hH sub9) ⟨D2, _, 0, rfl, mD2, hR9⟩
        · rw [List.length_append, List.length_singleton]; omega
    case ddone =>
      clear F10 N10 hd1 hd2 hd3 hod hkv
      rintro m₁ nx h tk ⟨u, pl, vsP, cP, refs, cH, o1, o2, o3, od, v1, v2, v3, kvs, rest, rfl, rfl, hd1, hd2, hd3, hod, hkv, hpl, hrP, hH, hsub, hne, hlP, hlR⟩ F9 N9
      rw [show us.length = sts.length from by rw [strs_len hus, List.length_map]] at hH
      dsimp only [kstB, envOf] at F9
      k_steps
      refine ret H refs cH ((d, od) :: (L7 + 1 + 1 + 1, o1) :: (L7 + 1 + 1, o2) :: (L7 + 1, o3) :: rest) _ _ (by k_asm) (by k_asm) (fun e he => by simp [hsub e he]) (Hists.mono hH (by (repeat' (first | (refine fcons ?_ ?_) | (intro p9 hp9; repeat (first | exact hp9 | refine List.mem_cons_of_mem _ ?_)) | k_mem)))) ?_
      exact (fcons (Nat.ne_of_lt ltH1) ((fcons (by (show @Ne Nat _ _; first | k_ne | omega)) ((fcons (by (show @Ne Nat _ _; first | k_ne | omega)) ((fcons (by (show @Ne Nat _ _; first | k_ne | omega)) (fun q hq => (hne q hq).1))))))))
end
section
noncomputable def isSg (c : Nat) : Prop := c = 48 ∨ c = 49 ∨ c = 63
theorem rev_sg {x : Str} (h : signs8 x) : ∀ c ∈ revL x, isSg c := fun c hc => h.2 c (List.mem_reverse.mp hc)
theorem rev_len {x : Str} (h : signs8 x) : (revL x).length = 8 := by
  unfold revL; rw [List.length_reverse, Array.length_toList]; exact h.1
theorem lN_range : ∀ ds : List Nat, 0 ≤ lN ds ∧ lN ds < 2 ^ ds.length
  | [] => by show (0 : Int) ≤ 0 ∧ (0 : Int) < 1; omega
  | c :: ds => by
    have ih := lN_range ds
    have h := lzC_bit c
    show 0 ≤ 2 * lN ds + lzC c ∧ 2 * lN ds + lzC c < 2 ^ (ds.length + 1)
    have e : (2 : Int) ^ (ds.length + 1) = 2 * 2 ^ ds.length := by rw [Int.pow_succ, Int.mul_comm]
    rw [e]
    rcases h with q | q <;> rw [q] <;> omega
theorem and255 {x : Str} (h : signs8 x) : Builtin.bitAnd 255 (lN (revL x)) = lN (revL x) := by
  rw [bitAnd_m8']
  have := lN_range (revL x)
  rw [rev_len h] at this
  have h2 : lN (revL x) < 256 := this.2
  omega
theorem or_zero (n : Int) : Builtin.bitOr 0 n = n := by
  rw [bitOr_and, bitAnd_comm, bitAnd_zero]; omega
theorem known_one {v : Str} (h : signs8 v) : knownF [v] = numsF v := by
  unfold knownF numsF
  rw [List.foldl_cons, List.foldl_nil]
  dsimp only
  rw [or_zero, loose_rev, and255 h]
/-- the turned text -/
theorem flip_digit {c : Nat} (h : isSg c) : loC (flipC c) = (1 - orI (loC c) (lzC c)) * 1 ∧ lzC (flipC c) = lzC c := by
  rcases h with rfl | rfl | rfl <;> decide
theorem flip_nums : ∀ ds : List Nat, (∀ c ∈ ds, isSg c) → Builtin.bitAnd (Builtin.bitNot (Builtin.bitOr (oN ds) (lN ds))) (oN (List.replicate ds.length 49)) = oN (ds.map flipC) ∧ lN (ds.map flipC) = lN ds
  | [], _ => ⟨bitAnd_zero _, rfl⟩
  | c :: ds, h => by
    obtain ⟨ih1, ih2⟩ := flip_nums ds fun d hd => h d (List.mem_cons_of_mem _ hd)
    obtain ⟨f1, f2⟩ := flip_digit (h c List.mem_cons_self)
    have b1 := loC_bit c
    have b2 := lzC_bit c
    constructor
    · show Builtin.bitAnd (Builtin.bitNot (Builtin.bitOr (2 * oN ds + loC c) (2 * lN ds + lzC c))) (2 * oN (List.replicate ds.length 49) + loC 49) = 2 * oN (ds.map flipC) + loC (flipC c)
      rw [or_two b1 b2, not_two, show loC c + lzC c - loC c * lzC c = orI (loC c) (lzC c) from rfl, show loC 49 = 1 from rfl, and_two (neg_bit (orI_bit b1 b2)) (.inr rfl), ih1, f1]
    · show 2 * lN (ds.map flipC) + lzC (flipC c) = 2 * lN ds + lzC c
      rw [ih2, f2]
theorem turn_flip {x : Str} (h : signs8 x) : turnI (numsF x) = numsF (flipF x) := by
  have e : revL (flipF x) = (revL x).map flipC := by
    unfold revL flipF
    rw [List.map_reverse]
  have := flip_nums (revL x) (rev_sg h)
  rw [rev_len h] at this
  unfold turnI numsF
  dsimp only
  rw [ones_rev, ones_rev, loose_rev, loose_rev, e, ← this.1, this.2]
  rfl
/-- two facts that agree -/
noncomputable def mergeD (c d : Nat) : Nat := if c = 63 then d else c
theorem merge_digit {c d : Nat} (hc : isSg c) (hd : isSg d) (h : c = 63 ∨ d = 63 ∨ c = d) : loC (mergeD c d) = orI (loC c) (loC d) ∧ lzC (mergeD c d) = lzC c * lzC d := by
  rcases hc with rfl | rfl | rfl <;> rcases hd with rfl | rfl | rfl <;> first | decide | omega
theorem merge_nums : ∀ as bs : List Nat, as.length = bs.length → (∀ c ∈ as, isSg c) → (∀ c ∈ bs, isSg c) → (∀ p ∈ as.zip bs, p.1 = 63 ∨ p.2 = 63 ∨ p.1 = p.2) →
    Builtin.bitOr (oN as) (oN bs) = oN (List.zipWith mergeD as bs) ∧ Builtin.bitAnd (lN as) (lN bs) = lN (List.zipWith mergeD as bs)
  | [], [], _, _, _, _ => ⟨or_zero _, bitAnd_zero _⟩
  | [], _ :: _, h, _, _, _ => by simp at h
  | _ :: _, [], h, _, _, _ => by simp at h
  | a :: as, b :: bs, hl, h1, h2, h3 => by
    obtain ⟨i1, i2⟩ := merge_nums as bs (by simpa using hl) (fun c hc => h1 c (List.mem_cons_of_mem _ hc)) (fun c hc => h2 c (List.mem_cons_of_mem _ hc)) (fun p hp => h3 p (List.mem_cons_of_mem _ hp))
    obtain ⟨f1, f2⟩ := merge_digit (h1 a List.mem_cons_self) (h2 b List.mem_cons_self) (h3 (a, b) List.mem_cons_self)
    constructor
    · show Builtin.bitOr (2 * oN as + loC a) (2 * oN bs + loC b) = 2 * oN (List.zipWith mergeD as bs) + loC (mergeD a b)
      rw [or_two (loC_bit _) (loC_bit _), i1, f1]; rfl
    · show Builtin.bitAnd (2 * lN as + lzC a) (2 * lN bs + lzC b) = 2 * lN (List.zipWith mergeD as bs) + lzC (mergeD a b)
      rw [and_two (lzC_bit _) (lzC_bit _), i2, f2]
theorem item_at8 {x : Str} (h : signs8 x) {i : Nat} (hi : i < 8) : Txt.item x (i : Int) = ⟨#[x.cps.toList.getD i 0]⟩ := by
  obtain ⟨c, hc, e, d⟩ := item_rev h (i := 7 - i) (by omega)
  rw [show (7 : Int) - ((7 - i : Nat) : Int) = (i : Int) from by omega] at e
  rw [e]
  congr 2
  have hl : x.cps.toList.length = 8 := by rw [Array.length_toList]; exact h.1
  have h1 : ((revL x).drop (7 - i))[0]? = some c := by rw [d]; rfl
  rw [List.getElem?_drop] at h1
  unfold revL at h1
  rw [List.getElem?_reverse (by omega)] at h1
  rw [show x.cps.toList.length - 1 - (7 - i + 0) = i from by omega] at h1
  rw [List.getD_eq_getElem?_getD, h1]; rfl
theorem mergeC_at {x y : Str} (hx : signs8 x) (hy : signs8 y) {i : Nat} (hi : i < 8) : (mergeC x y i).cps.getD 0 0 = mergeD (x.cps.toList.getD i 0) (y.cps.toList.getD i 0) := by
  unfold mergeC
  rw [item_at8 hx hi, item_at8 hy hi]
  have e : (({ cps := #[x.cps.toList.getD i 0] } : Str) != Str.ofString "?") = decide (x.cps.toList.getD i 0 ≠ 63) := one_bne _ 63
  rw [e]
  unfold mergeD
  by_cases h : x.cps.toList.getD i 0 = 63
  · rw [if_pos h, if_neg (by rw [h]; decide)]; rfl
  · rw [if_neg h, if_pos (decide_eq_true h)]; rfl
theorem eight {α : Type} {l : List α} (h : l.length = 8) (d : α) : l = (List.range 8).map fun i => l.getD i d := by
  apply List.ext_getElem
  · rw [List.length_map, List.length_range, h]
  · intro i h1 h2
    rw [List.getElem_map, List.getElem_range, List.getD_eq_getElem?_getD, List.getElem?_eq_getElem h1, Option.getD_some]
theorem merge_codes {x y : Str} (hx : signs8 x) (hy : signs8 y) : (mergeF x y).cps.toList = List.zipWith mergeD x.cps.toList y.cps.toList := by
  have lx : x.cps.toList.length = 8 := by rw [Array.length_toList]; exact hx.1
  have ly : y.cps.toList.length = 8 := by rw [Array.length_toList]; exact hy.1
  rw [eight (l := List.zipWith mergeD x.cps.toList y.cps.toList) (by rw [List.length_zipWith, lx, ly]; rfl) 0]
  unfold mergeF
  show (List.map _ (List.range 8)).toArray.toList = _
  rw [List.toList_toArray]
  apply List.map_congr_left
  intro i hi
  have hi8 : i < 8 := List.mem_range.mp hi
  rw [mergeC_at hx hy hi8, List.getD_eq_getElem?_getD, List.getD_eq_getElem?_getD, List.getD_eq_getElem?_getD, List.getElem?_zipWith]
  rw [List.getElem?_eq_getElem (by omega), List.getElem?_eq_getElem (by omega)]
  rfl
theorem known_two {x y : Str} (hx : signs8 x) (hy : signs8 y) (ha : agree x y) : knownF [x, y] = numsF (mergeF x y) := by
  have lx : x.cps.toList.length = 8 := by rw [Array.length_toList]; exact hx.1
  have ly : y.cps.toList.length = 8 := by rw [Array.length_toList]; exact hy.1
  have e : revL (mergeF x y) = List.zipWith mergeD (revL x) (revL y) := by
    unfold revL
    rw [merge_codes hx hy, List.reverse_zipWith (by omega)]
  have m := merge_nums (revL x) (revL y) (by rw [rev_len hx, rev_len hy]) (rev_sg hx) (rev_sg hy) (fun p hp => by
    unfold revL at hp
    rw [List.zip_eq_zipWith, ← List.reverse_zipWith (by omega)] at hp
    exact ha p (by rw [List.zip_eq_zipWith]; exact List.mem_reverse.mp hp))
  unfold knownF numsF
  rw [List.foldl_cons, List.foldl_cons, List.foldl_nil]
  dsimp only
  rw [or_zero, ones_rev, ones_rev, ones_rev, loose_rev, loose_rev, loose_rev, and255 hx, e, m.1, m.2]
theorem lo1_low {c : Nat} (h : isLow c) : lo1 c = c := by
  rcases h with rfl | rfl | rfl <;> decide
theorem lo1_lo1 {c : Nat} (h : isL c) : lo1 (lo1 c) = lo1 c := lo1_low (isLow_lo h)
theorem texts_lo (ps : List (Nat × Str)) {c : Nat} (h : isL c) : textsOf ps (lo1 c) = textsOf ps c := by
  unfold textsOf; rw [lo1_lo1 h]
/-- what the table says and what is known by hand -/
noncomputable def Same (ps : List (Nat × Str)) (K : Nat → Str) : Prop := (∀ c, isLow c → knownF (textsOf ps c) = numsF (K c)) ∧ okK K
theorem new_is_hand {ps : List (Nat × Str)} {K : Nat → Str} {st : Stm} (h : Same ps K) (hs : lowStm st) : newText ps st = handF (opcOf st.op) (K (lo1 st.c1)) (otherF K st) := by
  obtain ⟨⟨h1, h2, ho⟩, hl⟩ := hs
  have k1 : knownF (textsOf ps st.c1) = numsF (K (lo1 st.c1)) := by rw [← texts_lo ps h1]; exact h.1 _ (isLow_lo h1)
  have k2 : secondOf ps st = numsF (otherF K st) := by
    unfold secondOf otherF
    rw [h.1 _ hl]
    cases st.tl with
    | false => rfl
    | true => exact turn_flip (h.2 _ hl)
  have ok2 : signs8 (otherF K st) := by
    unfold otherF
    cases st.tl with
    | false => exact h.2 _ hl
    | true => exact flip_signs (h.2 _ hl)
  unfold newText
  rw [k1, k2]
  exact fast_is_hand ho (h.2 _ (isLow_lo h1)) ok2
theorem texts_same (ps : List (Nat × Str)) {c d : Nat} {v : Str} (e : lo1 d = lo1 c) : textsOf ((ps.filter fun r => decide (lo1 r.1 ≠ lo1 c)) ++ [(c, v)]) d = [v] := by
  unfold textsOf
  rw [List.filter_append, List.filter_filter, e]
  rw [List.filter_eq_nil_iff.mpr (fun r _ => by simp)]
  simp
theorem texts_else (ps : List (Nat × Str)) {c d : Nat} {v : Str} (e : lo1 d ≠ lo1 c) : textsOf ((ps.filter fun r => decide (lo1 r.1 ≠ lo1 c)) ++ [(c, v)]) d = textsOf ps d := by
  unfold textsOf
  rw [List.filter_append, List.filter_filter]
  congr 1
  have e1 : List.filter (fun r => decide (lo1 r.1 = lo1 d)) [(c, v)] = [] := by
    rw [List.filter_eq_nil_iff]
    intro r hr
    rw [List.mem_singleton.mp hr]
    simpa using fun q => e q.symm
  rw [e1, List.append_nil]
  apply List.filter_congr
  intro r _
  by_cases q : lo1 r.1 = lo1 d
  · simp [q, e]
  · simp [q]
theorem step_same {ps : List (Nat × Str)} {K : Nat → Str} {st : Stm} (h : Same ps K) (hs : lowStm st) : stepRun ps st = (stepRule (K, ps) st).2 ∧ Same (stepRun ps st) (stepRule (K, ps) st).1 := by
  have hn := new_is_hand h hs
  refine ⟨by unfold stepRun stepRule; rw [hn], fun c hc => ?_, okK_step h.2⟩
  unfold stepRun stepRule
  rw [hn]
  dsimp only
  unfold setK
  by_cases e : c = lo1 st.c1
  · rw [if_pos e, texts_same _ (by rw [e]; exact lo1_lo1 hs.1.1)]
    exact known_one (hand_signs _ _ _)
  · rw [if_neg e, texts_else _ (by rw [lo1_low hc]; exact e)]
    exact h.1 c hc
theorem rows_same {ps : List (Nat × Str)} {K : Nat → Str} (h : Same ps K) : ∀ {sts : List Stm}, (∀ st ∈ sts, lowStm st) → rowsAt ps sts = (ruleAt (K, ps) sts).2
  | [], _ => rfl
  | st :: sts, hs => by
    obtain ⟨e, s⟩ := step_same h (hs st List.mem_cons_self)
    show rowsAt (stepRun ps st) sts = (ruleAt (stepRule (K, ps) st) sts).2
    rw [rows_same s fun q hq => hs q (List.mem_cons_of_mem _ hq), e]
/-- the two histories are one -/
theorem hist_same {ps : List (Nat × Str)} {K : Nat → Str} (h : Same ps K) {sts : List Stm} (hs : ∀ st ∈ sts, lowStm st) : histAt ps sts sts.length = histRule (K, ps) sts sts.length := by
  unfold histAt histRule
  apply List.map_congr_left
  intro j _
  exact rows_same h fun st hst => hs st (List.mem_of_mem_take hst)
theorem begun_same {x0 y0 x1 y1 x2 y2 : Str} (h0 : signs8 x0) (g0 : signs8 y0) (a0 : agree x0 y0) (h1 : signs8 x1) (g1 : signs8 y1) (a1 : agree x1 y1) (h2 : signs8 x2) (g2 : signs8 y2) (a2 : agree x2 y2) :
    Same [(120, x0), (88, y0), (121, x1), (89, y1), (122, x2), (90, y2)] (KF (mergeF x0 y0) (mergeF x1 y1) (mergeF x2 y2)) := by
  constructor
  · rintro c (rfl | rfl | rfl)
    · exact known_two h0 g0 a0
    · exact known_two h1 g1 a1
    · exact known_two h2 g2 a2
  · rintro c (rfl | rfl | rfl)
    · exact merge_signs h0 g0
    · exact merge_signs h1 g1
    · exact merge_signs h2 g2
end
section
open PyProof.V PySem.Spec PySem.Calls
/-- the turns of a comprehension by what holds ahead of each -/
theorem comp_rest {prog : Program} {w : World} {A : Around} {h₀ : Heap} {L : Addr} {m : Str → Option Value} {env : Env} {elt : PySem.Expr} {x : Str} {scope : Scope} {cl : List (Str × Addr)} {s : Shared} {S : List (Addr × Obj) → Prop} {P : Nat → Value → Prop} {Fin : List Value → List (Addr × Obj) → Prop} {n : Nat}
    (J : Nat → List Value → List (Addr × Obj) → Prop)
    (hstep : ∀ i ys news, i < n → J i ys news → ∀ v I oI C oC D m₂ h tk (E' : Value → Shared → Prop), P i v → LCg.NsObj oC m₂ → m₂ x = some v → Fr h₀ L h m → News h₀ L h ((I, oI) :: (C, oC) :: (D, LCg.lst ys) :: news) → LCg.Off3 I C D news → ((@Ne Nat I C) ∧ (@Ne Nat I D) ∧ (@Ne Nat C D)) →
      wpAny (model prog w) A (eval elt (compEnvC scope cl C env)) (LCg.CompEnd h₀ L m { s with heap := h, toks := tk } I oI C oC D (LCg.lst ys) S (fun y news' => J (i + 1) (ys ++ [y]) news')) E' { s with heap := h, toks := tk })
    (hfin : ∀ ys news, J n ys news → Fin ys news) : ∀ k i ys news, i + k = n → J i ys news → LCg.CompRest prog w A h₀ L m env elt x scope cl s S P Fin k i ys news := by
  intro k
  induction k with
  | zero =>
    intro i ys news hi hj
    have e : i = n := by omega
    subst e
    exact LCg.CompRest.zero (hfin ys news hj)
  | succ k ih =>
    intro i ys news hi hj
    refine LCg.CompRest.succ fun v I oI C oC D m₂ h tk E' hP hoC hx F N off ne => ?_
    refine wpAny_mono (hstep i ys news (by omega) hj v I oI C oC D m₂ h tk E' hP hoC hx F N off ne) (fun y s₂ hq => ?_) fun _ _ e => e
    obtain ⟨h', tk', news', e, F', N', off', hS, hr⟩ := hq
    exact ⟨h', tk', news', e, F', N', off', hS, ih (i + 1) (ys ++ [y]) news' (by omega) hr⟩
end
section
theorem iseof_call {w : World} {mean : ExcName → Option Value} {mg mb : Str → Option Value} {dp un : Nat} {gd : Option (List Code)} {cn : Str} {cs : Scope} {a : Addr} {ccd : Value} {cl : List (Str × Addr)} {outer : List Env} {A₀ : Around} {base h₀ : Heap} {L : Addr} {m : Str → Option Value} {news : List (Addr × Obj)} {s : Shared} {Q E : Value → Shared → Prop}
    (B : Below A₀ base outer h₀) (F : Fr h₀ L s.heap m) (X : (hd.heap_39 w.params).In h₀) (N : News h₀ L s.heap news) (T : Top hd.view_39 (looseW hd.view_39 [Str.ofString "EXACT_TOKEN_TYPES", Str.ofString "tspecials", Str.ofString "_name_disallowed_re", Str.ofString "_value_disallowed_re", Str.ofString "_formatparam"]) mean mg mb h₀) (hk : cs.kind = .function) (hd : dp + 2 < recursionLimit) (hu : un + 16 < cLine)
    {x : Int} {tx : Tok}
    (ret : ∀ h' tk', Fr h₀ L h' m → News h₀ L h' news → Q (.bool (x == 0)) { s with heap := h', toks := tk' }) :
    wpAny (model PySem.Challenge.rw_we0031_01.row.prog w) (ktrTop dp un gd cn cs L a ccd cl outer) (call (.ref 97) [.int x tx]) Q E s := by
  w_top off
  k_with_none
  refine fill_here (fun hfill => ?_)
  revert hfill
  k_fill
  intro _
  refine wpAny_call ?_
  k_dflt ktr_enter
  k_steps
  all_goals exact ret _ _ (by k_asm) (by k_asm)
theorem isnt_call {w : World} {mean : ExcName → Option Value} {mg mb : Str → Option Value} {dp un : Nat} {gd : Option (List Code)} {cn : Str} {cs : Scope} {a : Addr} {ccd : Value} {cl : List (Str × Addr)} {outer : List Env} {A₀ : Around} {base h₀ : Heap} {L : Addr} {m : Str → Option Value} {news : List (Addr × Obj)} {s : Shared} {Q E : Value → Shared → Prop}
    (B : Below A₀ base outer h₀) (F : Fr h₀ L s.heap m) (X : (hd.heap_39 w.params).In h₀) (N : News h₀ L s.heap news) (T : Top hd.view_39 (looseW hd.view_39 [Str.ofString "EXACT_TOKEN_TYPES", Str.ofString "tspecials", Str.ofString "_name_disallowed_re", Str.ofString "_value_disallowed_re", Str.ofString "_formatparam"]) mean mg mb h₀) (hk : cs.kind = .function) (hd : dp + 2 < recursionLimit) (hu : un + 16 < cLine)
    {x : Int} {tx : Tok}
    (ret : ∀ h' tk', Fr h₀ L h' m → News h₀ L h' news → Q (.bool (decide (256 ≤ x))) { s with heap := h', toks := tk' }) :
    wpAny (model PySem.Challenge.rw_we0031_01.row.prog w) (ktrTop dp un gd cn cs L a ccd cl outer) (call (.ref 90) [.int x tx]) Q E s := by
  w_top off
  k_with_none
  refine fill_here (fun hfill => ?_)
  revert hfill
  k_fill
  intro _
  refine wpAny_call ?_
  k_dflt ktr_enter
  k_steps
  all_goals exact ret _ _ (by k_asm) (by k_asm)
theorem iseof_no {w : World} {mean : ExcName → Option Value} {mg mb : Str → Option Value} {dp un : Nat} {gd : Option (List Code)} {cn : Str} {cs : Scope} {a : Addr} {ccd : Value} {cl : List (Str × Addr)} {outer : List Env} {A₀ : Around} {base h₀ : Heap} {L : Addr} {m : Str → Option Value} {news : List (Addr × Obj)} {s : Shared} {Q E : Value → Shared → Prop}
    (B : Below A₀ base outer h₀) (F : Fr h₀ L s.heap m) (X : (hd.heap_39 w.params).In h₀) (N : News h₀ L s.heap news) (T : Top hd.view_39 (looseW hd.view_39 [Str.ofString "EXACT_TOKEN_TYPES", Str.ofString "tspecials", Str.ofString "_name_disallowed_re", Str.ofString "_value_disallowed_re", Str.ofString "_formatparam"]) mean mg mb h₀) (hk : cs.kind = .function) (hd : dp + 2 < recursionLimit) (hu : un + 16 < cLine)
    {x : Int} {tx : Tok} (hx : x ≠ 0)
    (ret : ∀ h' tk', Fr h₀ L h' m → News h₀ L h' news → Q (.bool false) { s with heap := h', toks := tk' }) :
    wpAny (model PySem.Challenge.rw_we0031_01.row.prog w) (ktrTop dp un gd cn cs L a ccd cl outer) (call (.ref 97) [.int x tx]) Q E s :=
  iseof_call B F X N T hk hd hu fun h' tk' F' N' => by rw [show (x == 0) = false from beq_eq_false_iff_ne.mpr hx]; exact ret h' tk' F' N'
theorem iseof_yes {w : World} {mean : ExcName → Option Value} {mg mb : Str → Option Value} {dp un : Nat} {gd : Option (List Code)} {cn : Str} {cs : Scope} {a : Addr} {ccd : Value} {cl : List (Str × Addr)} {outer : List Env} {A₀ : Around} {base h₀ : Heap} {L : Addr} {m : Str → Option Value} {news : List (Addr × Obj)} {s : Shared} {Q E : Value → Shared → Prop}
    (B : Below A₀ base outer h₀) (F : Fr h₀ L s.heap m) (X : (hd.heap_39 w.params).In h₀) (N : News h₀ L s.heap news) (T : Top hd.view_39 (looseW hd.view_39 [Str.ofString "EXACT_TOKEN_TYPES", Str.ofString "tspecials", Str.ofString "_name_disallowed_re", Str.ofString "_value_disallowed_re", Str.ofString "_formatparam"]) mean mg mb h₀) (hk : cs.kind = .function) (hd : dp + 2 < recursionLimit) (hu : un + 16 < cLine)
    {x : Int} {tx : Tok} (hx : x = 0)
    (ret : ∀ h' tk', Fr h₀ L h' m → News h₀ L h' news → Q (.bool true) { s with heap := h', toks := tk' }) :
    wpAny (model PySem.Challenge.rw_we0031_01.row.prog w) (ktrTop dp un gd cn cs L a ccd cl outer) (call (.ref 97) [.int x tx]) Q E s :=
  iseof_call B F X N T hk hd hu fun h' tk' F' N' => by rw [show (x == 0) = true from beq_iff_eq.mpr hx]; exact ret h' tk' F' N'
theorem isnt_yes {w : World} {mean : ExcName → Option Value} {mg mb : Str → Option Value} {dp un : Nat} {gd : Option (List Code)} {cn : Str} {cs : Scope} {a : Addr} {ccd : Value} {cl : List (Str × Addr)} {outer : List Env} {A₀ : Around} {base h₀ : Heap} {L : Addr} {m : Str → Option Value} {news : List (Addr × Obj)} {s : Shared} {Q E : Value → Shared → Prop}
    (B : Below A₀ base outer h₀) (F : Fr h₀ L s.heap m) (X : (hd.heap_39 w.params).In h₀) (N : News h₀ L s.heap news) (T : Top hd.view_39 (looseW hd.view_39 [Str.ofString "EXACT_TOKEN_TYPES", Str.ofString "tspecials", Str.ofString "_name_disallowed_re", Str.ofString "_value_disallowed_re", Str.ofString "_formatparam"]) mean mg mb h₀) (hk : cs.kind = .function) (hd : dp + 2 < recursionLimit) (hu : un + 16 < cLine)
    {x : Int} {tx : Tok} (hx : 256 ≤ x)
    (ret : ∀ h' tk', Fr h₀ L h' m → News h₀ L h' news → Q (.bool true) { s with heap := h', toks := tk' }) :
    wpAny (model PySem.Challenge.rw_we0031_01.row.prog w) (ktrTop dp un gd cn cs L a ccd cl outer) (call (.ref 90) [.int x tx]) Q E s :=
  isnt_call B F X N T hk hd hu fun h' tk' F' N' => by rw [decide_eq_true hx]; exact ret h' tk' F' N'
theorem isnt_no {w : World} {mean : ExcName → Option Value} {mg mb : Str → Option Value} {dp un : Nat} {gd : Option (List Code)} {cn : Str} {cs : Scope} {a : Addr} {ccd : Value} {cl : List (Str × Addr)} {outer : List Env} {A₀ : Around} {base h₀ : Heap} {L : Addr} {m : Str → Option Value} {news : List (Addr × Obj)} {s : Shared} {Q E : Value → Shared → Prop}
    (B : Below A₀ base outer h₀) (F : Fr h₀ L s.heap m) (X : (hd.heap_39 w.params).In h₀) (N : News h₀ L s.heap news) (T : Top hd.view_39 (looseW hd.view_39 [Str.ofString "EXACT_TOKEN_TYPES", Str.ofString "tspecials", Str.ofString "_name_disallowed_re", Str.ofString "_value_disallowed_re", Str.ofString "_formatparam"]) mean mg mb h₀) (hk : cs.kind = .function) (hd : dp + 2 < recursionLimit) (hu : un + 16 < cLine)
    {x : Int} {tx : Tok} (hx : x < 256)
    (ret : ∀ h' tk', Fr h₀ L h' m → News h₀ L h' news → Q (.bool false) { s with heap := h', toks := tk' }) :
    wpAny (model PySem.Challenge.rw_we0031_01.row.prog w) (ktrTop dp un gd cn cs L a ccd cl outer) (call (.ref 90) [.int x tx]) Q E s :=
  isnt_call B F X N T hk hd hu fun h' tk' F' N' => by rw [decide_eq_false (by omega)]; exact ret h' tk' F' N'
end
section
local macro_rules | `(tactic| walk_at "nowhere") => `(tactic| skip)

theorem text_call {w : World} {mean : ExcName → Option Value} {mg mb : Str → Option Value} {dp un : Nat} {gd : Option (List Code)} {cn : Str} {cs : Scope} {a : Addr} {ccd : Value} {cl : List (Str × Addr)} {outer : List Env} {A₀ : Around} {base h₀ : Heap} {L : Addr} {m : Str → Option Value} {news : List (Addr × Obj)} {s : Shared} {Q E : Value → Shared → Prop}
    (B : Below A₀ base outer h₀) (F : Fr h₀ L s.heap m) (X : (hd.heap_39 w.params).In h₀) (N : News h₀ L s.heap news) (T : Top hd.view_39 (looseW hd.view_39 [Str.ofString "EXACT_TOKEN_TYPES", Str.ofString "tspecials", Str.ofString "_name_disallowed_re", Str.ofString "_value_disallowed_re", Str.ofString "_formatparam"]) mean mg mb h₀) (hk : cs.kind = .function) (hd : dp + 4 < recursionLimit) (hu : un + 32 < cLine)
    {p : Addr} {o l : Int} {t1 t2 : Tok} (hp : (p, tup [.int o t1, .int l t2]) ∈ news)
    (ret : ∀ t h' tk', (iterT o l 8).1.length = 8 → Fr h₀ L h' m → News h₀ L h' news → Q (.str (iterT o l 8).1 t) { s with heap := h', toks := tk' }) :
    wpAny (model PySem.Challenge.rw_we0031_01.row.prog w) (ktrTop dp un gd cn cs L a ccd cl outer) (call (.ref 287) [.ref p]) Q E s := by
  w_top off
  k_with_none
  refine fill_here (fun hfill => ?_)
  revert hfill
  k_fill
  intro _
  k_with "pyIter ref" => k_dflt (k_state_short (fun pre x a b => x = (iterT o l pre.length).1 ∧ a = (iterT o l pre.length).2.1 ∧ b = (iterT o l pre.length).2.2 ∧ x.length = pre.length) "text" "ones" "loose")
  k_with "state" => first | exact text_start _ _ | exact text_step (by assumption) (by assumption) (by assumption) (by assumption) (by assumption) rfl
  refine wpAny_call ?_
  k_dflt ktr_enter
  k_steps
  all_goals (obtain ⟨e1, e2⟩ := text_end (by assumption) (by assumption); subst e1; exact ret _ _ _ e2 (by k_asm) (by k_asm))
end
section
theorem joined_call {w : World} {mean : ExcName → Option Value} {mg mb : Str → Option Value} {dp un : Nat} {gd : Option (List Code)} {cn : Str} {cs : Scope} {a : Addr} {ccd : Value} {cl : List (Str × Addr)} {outer : List Env} {A₀ : Around} {base h₀ : Heap} {L : Addr} {m : Str → Option Value} {news : List (Addr × Obj)} {s : Shared} {Q E : Value → Shared → Prop}
    (B : Below A₀ base outer h₀) (F : Fr h₀ L s.heap m) (X : (hd.heap_39 w.params).In h₀) (N : News h₀ L s.heap news) (T : Top hd.view_39 (looseW hd.view_39 [Str.ofString "EXACT_TOKEN_TYPES", Str.ofString "tspecials", Str.ofString "_name_disallowed_re", Str.ofString "_value_disallowed_re", Str.ofString "_formatparam"]) mean mg mb h₀) (hk : cs.kind = .function) (hd : dp + 4 < recursionLimit) (hu : un + 32 < cLine)
    {d : Int} {td : Tok} {p q : Addr} {o1 l1 o2 l2 : Int} {t1 t2 t3 t4 : Tok} (hp : (p, tup [.int o1 t1, .int l1 t2]) ∈ news) (hq : (q, tup [.int o2 t3, .int l2 t4]) ∈ news)
    (ret : ∀ r t1 t2 h' tk', Fr h₀ L h' m → News h₀ L h' ((r, tup [.int (joinI d o1 l1 o2 l2).1 t1, .int (joinI d o1 l1 o2 l2).2 t2]) :: news) → (∀ q ∈ news, q.1 < r) → Q (.ref r) { s with heap := h', toks := tk' }) :
    wpAny (model PySem.Challenge.rw_we0031_01.row.prog w) (ktrTop dp un gd cn cs L a ccd cl outer) (call (.ref 308) [.int d td, .ref p, .ref q]) Q E s := by
  w_top off
  k_with_none
  k_with "call ref" => (k_here; k_dflt ((first | refine' or_call ?k1 ?k2 ?k3 ?k4 ?k5 ?k6 ?k7 ?k8 ?_ | refine' and_call ?k1 ?k2 ?k3 ?k4 ?k5 ?k6 ?k7 ?k8 ?_ | refine' inv_call ?k1 ?k2 ?k3 ?k4 ?k5 ?k6 ?k7 ?k8 ?_ | refine' xor_call ?k1 ?k2 ?k3 ?k4 ?k5 ?k6 ?k7 ?k8 ?_ | refine' add_call ?k1 ?k2 ?k3 ?k4 ?k5 ?k6 ?k7 ?k8 ?_ | refine' sub_call ?k1 ?k2 ?k3 ?k4 ?k5 ?k6 ?k7 ?k8 ?_); (case k1 | k2 | k3 | k4 | k5 => k_asm); (case k6 => first | exact rfl | assumption); (case k7 => ktr_room); (case k8 => ktr_units); k_whole); intro _ _ _ _ _;  (try k_sweep))
  refine fill_here (fun hfill => ?_)
  revert hfill
  k_fill
  intro _
  refine wpAny_call ?_
  k_dflt ktr_enter
  k_steps
  all_goals first
    | (rw [joinI_36 (by assumption)] at ret; exact ret _ _ _ _ _ (by k_asm) (by k_asm) (by k_asm))
    | (rw [joinI_37 (by assumption) (by assumption)] at ret; exact ret _ _ _ _ _ (by k_asm) (by k_asm) (by k_asm))
    | (rw [joinI_41 (by assumption) (by assumption) (by assumption)] at ret; exact ret _ _ _ _ _ (by k_asm) (by k_asm) (by k_asm))
    | (rw [joinI_42 (by assumption) (by assumption) (by assumption) (by assumption)] at ret; exact ret _ _ _ _ _ (by k_asm) (by k_asm) (by k_asm))
    | (rw [joinI_e (by assumption) (by assumption) (by assumption) (by assumption)] at ret; exact ret _ _ _ _ _ (by k_asm) (by k_asm) (by k_asm))
end
section
local macro_rules | `(tactic| walk_at "call ref") => `(tactic| (k_here; k_dflt (refine' conv_call ?k1 ?k2 ?k3 ?k4 ?k5 ?k6 ?k7 ?k8 ?k9 ?_; (case k1 => k_asm); (case k2 => k_asm); (case k3 => k_asm); (case k4 => k_asm); (case k5 => k_asm); (case k6 => first | exact rfl | assumption); (case k7 => ktr_room); (case k8 => ktr_units); (case k9 => first | assumption | exact okS_nm (by assumption) | exact okS_nm (isL_lo (by assumption))); k_whole); intro h' tk' F' N'; (try k_sweep)))
local macro_rules | `(tactic| walk_at "call builtin:str.lower") => `(tactic| (k_here; (with_reducible show wpAny _ _ (call (Value.builtin "str.lower") [Value.str _ _]) _ _ _); k_dflt (refine' lower_nm ?k1 ?_; (case k1 => assumption)); intro _))
theorem getall_call {w : World} {mean : ExcName → Option Value} {mg mb : Str → Option Value} {dp un : Nat} {gd : Option (List Code)} {cn : Str} {cs : Scope} {a : Addr} {ccd : Value} {cl : List (Str × Addr)} {outer : List Env} {A₀ : Around} {base h₀ : Heap} {L : Addr} {m : Str → Option Value} {news : List (Addr × Obj)} {s : Shared} {Q E : Value → Shared → Prop}
    (B : Below A₀ base outer h₀) (F : Fr h₀ L s.heap m) (X : (hd.heap_39 w.params).In h₀) (N : News h₀ L s.heap news) (T : Top hd.view_39 (looseW hd.view_39 [Str.ofString "EXACT_TOKEN_TYPES", Str.ofString "tspecials", Str.ofString "_name_disallowed_re", Str.ofString "_value_disallowed_re", Str.ofString "_formatparam"]) mean mg mb h₀) (hk : cs.kind = .function) (hd : dp + 6 < recursionLimit) (hu : un + 48 < cLine)
    {tb dx hl : Addr} {hs : Int} {tk0 : Tok} {vs : List Value} {c1 : Nat} {c : Nat} {tv : Tok} {ps : List (Nat × Str)} (hv : isL c)
    (h1 : (tb, instObj 241 dx) ∈ news) (h2 : (dx, dictOf [⟨hs, .str (Str.ofString "_headers") tk0, .ref hl⟩] 1) ∈ news) (h3 : (hl, W.listOf vs.toArray c1) ∈ news)
    (hr : Rows news vs ps) (hp : ∀ r ∈ ps, isL r.1) (hn : vs.length ≤ 1000)
    (ret : ∀ D ys c2 h' tk', Fr h₀ L h' m → News h₀ L h' ((D, W.listOf (List.toArray ys) c2) :: news) → (∀ p ∈ news, p.1 ≠ D) → StrsAre ys ((ps.filter fun r => decide (lo1 r.1 = lo1 c)).map (·.2)) → Q (.ref D) { s with heap := h', toks := tk' }) :
    wpAny (model PySem.Challenge.rw_we0031_01.row.prog w) (ktrTop dp un gd cn cs L a ccd cl outer) (call (.ref 180) [.ref tb, .str ⟨#[c]⟩ tv]) Q E s := by
  obtain ⟨info, rfl, hi⟩ := rows_info N hr
  w_top off
  k_with_none
  refine fill_here (fun hfill => ?_)
  revert hfill
  k_fill
  intro _
  refine wpAny_call ?_
  k_dflt ktr_enter
  repeat' ((fail_if_success (with_reducible show wpAny _ _ (eval (Expr.ListComp _ _ _ _) _) _ _ _)); (first | (k_unfold; (try dsimp only)) | (k_end; wrow_close) | walk1 | (dsimp only; walk1)))
  k_dflt (refine comp_list (fun v => decide (lo1 (info v).1 = lo1 c)) (fun v y => ∃ t, y = Value.str (info v).2 t) (by assumption) (by rfl) (by with_unfolding_all rfl) (by decide) (by rfl) (by decide) (by rfl) ?_ (by intro _; rfl))
  repeat' ((fail_if_success (with_reducible show ∃ _, _)); (first | (k_unfold; (try dsimp only)) | (k_end; wrow_close) | walk1 | (dsimp only; walk1)))
  refine ⟨_, hl, vs, rfl, News.isList (by k_asm) (by k_mem), by rw [sizeLine_eq]; omega, by k_asm, by k_asm, ?_, ?_, ?_⟩
  · intro C v s₂ m₂ E' hv hns hm hk
    obtain ⟨a9, t91, t92, e9, m9⟩ := hi v hv
    subst e9
    have hL9 : isL (info (Value.ref a9)).1 := hp _ (List.mem_map_of_mem hv)
    k_steps
    · exact one_beq _ _
    · exact ⟨_, _, rfl, fun _ _ e => e⟩
  · intro C v s₂ m₂ E' hv hpz hns hm hk
    obtain ⟨a9, t91, t92, e9, m9⟩ := hi v hv
    subst e9
    have hL9 : isL (info (Value.ref a9)).1 := hp _ (List.mem_map_of_mem hv)
    k_steps
    exact ⟨_, _, rfl, fun _ _ e => e⟩
  · intro D ys c2 h' tk' F' N' ne hG
    k_steps
    have hS := strs_of_paired hG
    rw [show ((vs.filter fun v => decide (lo1 (info v).1 = lo1 c)).map info) = (vs.map info).filter (fun r => decide (lo1 r.1 = lo1 c)) from by rw [List.filter_map]; rfl] at hS
    exact ret D ys c2 _ _ (by k_asm) (news_drop (by k_asm) (fun p hp => by rcases List.mem_cons.mp hp with rfl | hp; exact List.mem_cons_self; exact List.mem_cons_of_mem _ (List.mem_cons_of_mem _ hp))) (fun p hp => ne p (List.mem_cons_of_mem _ hp)) hS
end
section
theorem turned_call {w : World} {mean : ExcName → Option Value} {mg mb : Str → Option Value} {dp un : Nat} {gd : Option (List Code)} {cn : Str} {cs : Scope} {a : Addr} {ccd : Value} {cl : List (Str × Addr)} {outer : List Env} {A₀ : Around} {base h₀ : Heap} {L : Addr} {m : Str → Option Value} {news : List (Addr × Obj)} {s : Shared} {Q E : Value → Shared → Prop}
    (B : Below A₀ base outer h₀) (F : Fr h₀ L s.heap m) (X : (hd.heap_39 w.params).In h₀) (N : News h₀ L s.heap news) (T : Top hd.view_39 (looseW hd.view_39 [Str.ofString "EXACT_TOKEN_TYPES", Str.ofString "tspecials", Str.ofString "_name_disallowed_re", Str.ofString "_value_disallowed_re", Str.ofString "_formatparam"]) mean mg mb h₀) (hk : cs.kind = .function) (hd : dp + 4 < recursionLimit) (hu : un + 32 < cLine)
    {p : Addr} {o l : Int} {t1 t2 : Tok} (hp : (p, tup [.int o t1, .int l t2]) ∈ news)
    (ret : ∀ r t1 t2 h' tk', Fr h₀ L h' m → News h₀ L h' ((r, tup [.int (Builtin.bitAnd (Builtin.bitNot (Builtin.bitOr o l)) 255) t1, .int l t2]) :: news) → (∀ q ∈ news, q.1 < r) → Q (.ref r) { s with heap := h', toks := tk' }) :
    wpAny (model PySem.Challenge.rw_we0031_01.row.prog w) (ktrTop dp un gd cn cs L a ccd cl outer) (call (.ref 301) [.ref p]) Q E s := by
  w_top off
  k_with_none
  k_with "call ref" => (k_here; k_dflt ((first | refine' or_call ?k1 ?k2 ?k3 ?k4 ?k5 ?k6 ?k7 ?k8 ?_ | refine' and_call ?k1 ?k2 ?k3 ?k4 ?k5 ?k6 ?k7 ?k8 ?_ | refine' inv_call ?k1 ?k2 ?k3 ?k4 ?k5 ?k6 ?k7 ?k8 ?_); (case k1 | k2 | k3 | k4 | k5 => k_asm); (case k6 => first | exact rfl | assumption); (case k7 => ktr_room); (case k8 => ktr_units); k_whole); intro _ _ _ _ _;  (try k_sweep))
  refine fill_here (fun hfill => ?_)
  revert hfill
  k_fill
  intro _
  refine wpAny_call ?_
  k_dflt ktr_enter
  k_steps
  all_goals (subst_vars; exact ret _ _ _ _ _ (by k_asm) (by k_asm) (by k_asm))
theorem parts_call {w : World} {mean : ExcName → Option Value} {mg mb : Str → Option Value} {dp un : Nat} {gd : Option (List Code)} {cn : Str} {cs : Scope} {a : Addr} {ccd : Value} {cl : List (Str × Addr)} {outer : List Env} {A₀ : Around} {base h₀ : Heap} {L : Addr} {m : Str → Option Value} {news : List (Addr × Obj)} {s : Shared} {Q E : Value → Shared → Prop}
    (B : Below A₀ base outer h₀) (F : Fr h₀ L s.heap m) (X : (hd.heap_39 w.params).In h₀) (N : News h₀ L s.heap news) (T : Top hd.view_39 (looseW hd.view_39 [Str.ofString "EXACT_TOKEN_TYPES", Str.ofString "tspecials", Str.ofString "_name_disallowed_re", Str.ofString "_value_disallowed_re", Str.ofString "_formatparam"]) mean mg mb h₀) (hk : cs.kind = .function) (hd : dp + 4 < recursionLimit) (hu : un + 32 < cLine)
    {x : Str} {tx : Tok}
    (ret : ∀ r t1 t2 h' tk', Fr h₀ L h' m → News h₀ L h' ((r, tup [.int (onesF (KStt.codes x)) t1, .int (looseF (KStt.codes x)) t2]) :: news) → (∀ q ∈ news, q.1 < r) → Q (.ref r) { s with heap := h', toks := tk' }) :
    wpAny (model PySem.Challenge.rw_we0031_01.row.prog w) (ktrTop dp un gd cn cs L a ccd cl outer) (call (.ref 280) [.str x tx]) Q E s := by
  w_top off
  k_with_none
  k_with "call ref" => (k_here; k_dflt ((first | refine' or_call ?k1 ?k2 ?k3 ?k4 ?k5 ?k6 ?k7 ?k8 ?_ | refine' and_call ?k1 ?k2 ?k3 ?k4 ?k5 ?k6 ?k7 ?k8 ?_ | refine' inv_call ?k1 ?k2 ?k3 ?k4 ?k5 ?k6 ?k7 ?k8 ?_); (case k1 | k2 | k3 | k4 | k5 => k_asm); (case k6 => first | exact rfl | assumption); (case k7 => ktr_room); (case k8 => ktr_units); k_whole); intro _ _ _ _ _;  (try k_sweep))
  refine fill_here (fun hfill => ?_)
  revert hfill
  k_fill
  intro _
  k_with "pyIter str" => k_state (fun pre k m => k = onesF pre ∧ m = looseF pre) "ones" "loose"
  k_with "state" => (simp only [onesF_snoc, looseF_snoc, sgl1, sglq, decide_eq_true_eq, decide_eq_false_iff_not] at *; simp_all <;> omega)
  refine wpAny_call ?_
  k_dflt ktr_enter
  k_steps
  all_goals (subst_vars; exact ret _ _ _ _ _ (by k_asm) (by k_asm) (by k_asm))
end
section
local macro_rules | `(tactic| walk_at "nowhere") => `(tactic| skip)

theorem known_call {w : World} {mean : ExcName → Option Value} {mg mb : Str → Option Value} {dp un : Nat} {gd : Option (List Code)} {cn : Str} {cs : Scope} {a : Addr} {ccd : Value} {cl : List (Str × Addr)} {outer : List Env} {A₀ : Around} {base h₀ : Heap} {L : Addr} {m : Str → Option Value} {news : List (Addr × Obj)} {s : Shared} {Q E : Value → Shared → Prop}
    (B : Below A₀ base outer h₀) (F : Fr h₀ L s.heap m) (X : (hd.heap_39 w.params).In h₀) (N : News h₀ L s.heap news) (T : Top hd.view_39 (looseW hd.view_39 [Str.ofString "EXACT_TOKEN_TYPES", Str.ofString "tspecials", Str.ofString "_name_disallowed_re", Str.ofString "_value_disallowed_re", Str.ofString "_formatparam"]) mean mg mb h₀) (hk : cs.kind = .function) (hd : dp + 8 < recursionLimit) (hu : un + 64 < cLine)
    {tb dx hl : Addr} {hs : Int} {tk0 : Tok} {vs : List Value} {c1 : Nat} {c : Nat} {tv : Tok} {ps : List (Nat × Str)} (hv : isL c)
    (h1 : (tb, instObj 241 dx) ∈ news) (h2 : (dx, dictOf [⟨hs, .str (Str.ofString "_headers") tk0, .ref hl⟩] 1) ∈ news) (h3 : (hl, W.listOf vs.toArray c1) ∈ news)
    (hr : Rows news vs ps) (hp : ∀ r ∈ ps, isL r.1) (hn : vs.length ≤ 1000)
    (ret : ∀ r t1 t2 h' tk', Fr h₀ L h' m → News h₀ L h' ((r, tup [.int (knownF ((ps.filter fun r => decide (lo1 r.1 = lo1 c)).map (·.2))).1 t1, .int (knownF ((ps.filter fun r => decide (lo1 r.1 = lo1 c)).map (·.2))).2 t2]) :: news) → (∀ q ∈ news, q.1 < r) → Q (.ref r) { s with heap := h', toks := tk' }) :
    wpAny (model PySem.Challenge.rw_we0031_01.row.prog w) (ktrTop dp un gd cn cs L a ccd cl outer) (call (.ref 294) [.ref tb, .str ⟨#[c]⟩ tv]) Q E s := by
  generalize hxs : (ps.filter fun r => decide (lo1 r.1 = lo1 c)).map (·.2) = xs at ret
  w_top off
  k_with_none
  k_with "call ref" => (k_here; k_dflt (refine' getall_call ?k1 ?k2 ?k3 ?k4 ?k5 ?k6 ?k7 ?k8 ?k9 ?k10 ?k11 ?k12 ?k13 ?k14 ?k15 ?_; (case k1 | k2 | k3 | k4 | k5 => k_asm); (case k6 => first | exact rfl | assumption); (case k7 => ktr_room); (case k8 => ktr_units); (case k9 => assumption); (case k10 | k11 | k12 => k_mem); (case k13 => first | assumption | (refine Rows.mono (by assumption) ?_; intro p hp; simp only [List.mem_cons, hp, or_true])); (case k14 | k15 => assumption); k_whole); intro _ _ _ _ _ _ _ _ _;  (try k_sweep))
  k_with "call ref" => (k_here; k_dflt (refine' parts_call ?k1 ?k2 ?k3 ?k4 ?k5 ?k6 ?k7 ?k8 ?_; (case k1 | k2 | k3 | k4 | k5 => k_asm); (case k6 => first | exact rfl | assumption); (case k7 => ktr_room); (case k8 => ktr_units); k_whole); intro _ _ _ _ _ _ _ l1'; (try k_lt l1'); revert l1'; intro _; (try k_sweep))
  k_with "call ref" => (k_here; k_dflt ((first | refine' or_call ?k1 ?k2 ?k3 ?k4 ?k5 ?k6 ?k7 ?k8 ?_ | refine' and_call ?k1 ?k2 ?k3 ?k4 ?k5 ?k6 ?k7 ?k8 ?_); (case k1 | k2 | k3 | k4 | k5 => k_asm); (case k6 => first | exact rfl | assumption); (case k7 => ktr_room); (case k8 => ktr_units); k_whole); intro _ _ _ _ _;  (try k_sweep))
  refine fill_here (fun hfill => ?_)
  revert hfill
  k_fill
  intro _
  refine wpAny_call ?_
  k_dflt ktr_enter
  repeat' ((fail_if_success (with_reducible show wpAny _ _ (pyIter _) _ _ _)); (first | (k_unfold; (try dsimp only)) | (k_end; wrow_close) | walk1 | (dsimp only; walk1)))
  rename_i D9 ys9 c29 h9 tk9 F9 N9 ne9 hS9
  rw [hxs] at hS9
  k_dflt (refine' kst_vals (σ := Int × Nat × Int × Nat) (vs := ys9) (nn := c29) (fun _ => (D9, W.listOf ys9.toArray c29) :: news) (fun c => [(Str.ofString "ones", .int c.1 c.2.1), (Str.ofString "loose", .int c.2.2.1 c.2.2.2)]) (fun _ => True) [Str.ofString "fact"] (fun i c => c.1 = (knownF (xs.take i)).1 ∧ c.2.2.1 = (knownF (xs.take i)).2) (0, ?t1, 255, ?t2) (by rfl) (fun _ => List.mem_cons_self) F9 N9 trivial ?kk ⟨rfl, rfl⟩ ?turn ?done; (case kk => kst_all))
  · intro c9 i9 v9 u9 h8 tk8 I9 oI9 hv9 hoff9 _ hP9 F8 N8
    obtain ⟨x9, t9, hx9, rfl⟩ := strs_get hS9 hv9
    clear F9 N9
    dsimp only [kstB] at F8
    k_with "state" => exact known_step (by assumption) (by assumption)
    k_steps
  · intro c9 u9 h8 tk8 _ hP9 F8 N8
    clear F9 N9
    dsimp only [kstB] at F8
    obtain ⟨e1, e2⟩ := hP9
    rw [show xs.take ys9.length = xs from by rw [strs_len hS9]; exact List.take_length] at e1 e2
    k_steps
    all_goals (rw [← e1, ← e2] at ret; exact ret _ _ _ _ _ (by k_asm) (news_drop (by k_asm) (fun p hp => by rcases List.mem_cons.mp hp with rfl | hp; exact List.mem_cons_self; exact List.mem_cons_of_mem _ (List.mem_cons_of_mem _ hp))) (by first | assumption | exact lt_tail (by assumption) | exact kst_ltOf (by first | assumption | exact And.right (by assumption) | exact And.right (And.right (by assumption)) | exact And.right (And.right (And.right (by assumption))) | exact And.right (And.right (And.right (And.right (by assumption)))) | exact And.right (And.right (And.right (And.right (And.right (by assumption))))) | exact And.right (And.right (And.right (And.right (And.right (And.right (by assumption)))))) | exact And.right (And.right (And.right (And.right (And.right (And.right (And.right (by assumption))))))))))
end
section
local macro_rules | `(tactic| walk_at "nowhere") => `(tactic| skip)

local macro_rules | `(tactic| ktr_enter) => `(tactic| (refine' kp_more ?k1 ?k2 ?k3 ?k4 ?k5 ?kA ?kF ?kK ?k6 ?k7 ?k8 ?kX ?kM ?kN ?kD ?kR ?kP ?kT ?kB ?_ ?c2 ?c3 ?c4 ?c5; (case kA | kF => exact rfl); (case kK => first | exact rfl | assumption); (case k1 | k2 | k3 | k4 | k5 => k_asm); (case k6 | k7 => k_is); (case k8 => ktr_room); (case kX => kp_lit); (case kM | kN => exact rfl); (case kD => kp_flats); (case kR | kP => exact rfl); (case kT => exact fun _ => rfl); (case kB => exact fun _ => locs rfl); (case c5 => decide); (case c2 | c3 | c4 => exact rfl); k_whole; intro D' o' g' L' h' tk' l1 lo' hs' fs' FG' F' N' B' X' T'; (try k_lt l1); (try dsimp only); (try k_lift B'); (try k_fold)))
theorem one_fits {x sep : Str} (hx : x.length = 8) (hs : sep.length ≤ 100) : ([x].map (·.length)).sum + [x].length * sep.length ≤ 16777216 := by
  simp only [List.map_cons, List.map_nil, List.sum_cons, List.sum_nil, List.length_cons, List.length_nil]; omega
local macro_rules | `(tactic| walk_at "call builtin:str.join") => `(tactic| (k_here; k_dflt (refine' join_list ?a ?b ?c ?_; (case a => exact News.isList (by k_asm) (by k_mem)); (case b => exact .cons _ _ .nil); (case c => exact one_fits (by assumption) (by decide))); (try simp only [join_one])))
theorem add_header_call {w : World} {mean : ExcName → Option Value} {mg mb : Str → Option Value} {dp un : Nat} {gd : Option (List Code)} {cn : Str} {cs : Scope} {a : Addr} {ccd : Value} {cl : List (Str × Addr)} {outer : List Env} {A₀ : Around} {base h₀ : Heap} {L : Addr} {m : Str → Option Value} {news : List (Addr × Obj)} {s : Shared} {Q E : Value → Shared → Prop}
    (B : Below A₀ base outer h₀) (F : Fr h₀ L s.heap m) (X : (hd.heap_39 w.params).In h₀) (T : Top hd.view_39 (looseW hd.view_39 [Str.ofString "EXACT_TOKEN_TYPES", Str.ofString "tspecials", Str.ofString "_name_disallowed_re", Str.ofString "_value_disallowed_re", Str.ofString "_formatparam"]) mean mg mb h₀) (hk : cs.kind = .function) (hd : dp + 8 < recursionLimit) (hu : un + 64 < cLine)
    {tb dx hl : Addr} {hs : Int} {tk0 : Tok} {vs : List Value} {c1 : Nat} {c : Nat} {tc : Tok} {x : Str} {tx : Tok} (hc : isL c) (hx : okS x) (hx8 : x.length = 8)
    (hne : ∀ p ∈ news, p.1 ≠ hl) (N : News h₀ L s.heap ((hl, W.listOf vs.toArray c1) :: news))
    (h1 : (tb, instObj 241 dx) ∈ news) (h2 : (dx, dictOf [⟨hs, .str (Str.ofString "_headers") tk0, .ref hl⟩] 1) ∈ news)
    (hn : vs.length ≤ 1000)
    (ret : ∀ r t1 t2 h' tk', Fr h₀ L h' m → News h₀ L h' ((hl, W.listOf (vs ++ [Value.ref r]).toArray (c1 + 1)) :: (r, tup [.str ⟨#[c]⟩ t1, .str x t2]) :: news) → hl < r → (∀ p ∈ news, p.1 < r) → Q .none { s with heap := h', toks := tk' }) :
    wpAny (model PySem.Challenge.rw_we0031_01.row.prog w) (ktrTop dp un gd cn cs L a ccd cl outer) (call (.ref 238) [.ref tb, .str ⟨#[c]⟩ tc, .str x tx]) Q E s := by
  w_top off
  k_with_none
  k_with "call ref" => (k_here; k_dflt (refine' conv_call ?k1 ?k2 ?k3 ?k4 ?k5 ?k6 ?k7 ?k8 ?k9 ?_; (case k1 | k2 | k3 | k4 | k5 => k_asm); (case k6 => first | exact rfl | assumption); (case k7 => ktr_room); (case k8 => ktr_units); (case k9 => first | assumption | exact okS_nm (by assumption) | exact okS_nm (isL_lo (by assumption))); k_whole); intro _ _ _ _;  (try k_sweep))
  refine fill_here (fun hfill => ?_)
  revert hfill
  k_fill
  intro _
  refine wpAny_call ?_
  k_dflt ktr_enter
  repeat' ((fail_if_success (with_reducible show wpAny _ _ (call (Value.builtin "list.append") [Value.ref _, Value.ref _]) _ _ _)); (first | (k_unfold; (try dsimp only)) | (k_end; wrow_close) | walk1 | (dsimp only; walk1)))
  rename_i D9 h9 F9 N9 l19
  have e9 : Txt.join (Str.ofString "; ") [x] = x := rfl
  rw [e9] at N9
  have N10 := news_two (hl, W.listOf vs.toArray c1) (news := news) N9 (by k_mem) (by intro p hp; simp [hp])
  clear N9
  k_dflt (refine' append_K (n := c1) (its := vs.toArray) F9 N10 (Upd.head ?hd) ?go ?sz)
  case hd => exact (fcons (Nat.ne_of_gt (by omega)) hne)
  case sz => rw [List.size_toArray, sizeLine_eq]; omega
  case go =>
    intro h8 F8 N8
    rw [List.push_toArray] at N8
    clear N10 F9
    dsimp only
    k_steps
    exact ret _ _ _ _ _ (by k_asm) (by k_asm) (by show @LT.lt Nat _ _ _; omega) (by first | assumption | exact lt_tail (by assumption) | exact kst_ltOf (by first | assumption | exact And.right (by assumption) | exact And.right (And.right (by assumption)) | exact And.right (And.right (And.right (by assumption))) | exact And.right (And.right (And.right (And.right (by assumption)))) | exact And.right (And.right (And.right (And.right (And.right (by assumption))))) | exact And.right (And.right (And.right (And.right (And.right (And.right (by assumption)))))) | exact And.right (And.right (And.right (And.right (And.right (And.right (And.right (by assumption)))))))))
end
section
local macro_rules | `(tactic| walk_at "nowhere") => `(tactic| skip)

local macro_rules | `(tactic| k_enter) => `(tactic| ktr_enter)
local macro_rules | `(tactic| walk_at "exec For Tuple Name cons nil") => `(tactic| (k_here; (rename Fr _ _ _ _ => lF'); (with_unfolding_all refine' For_turns lF' ?_; k_whole)))
local macro_rules | `(tactic| walk_at "pyIter ref") => `(tactic| (k_here; (with_reducible show wpAny _ _ (pyIter (Value.ref _)) (fun it s₂ => TurnsAt _ _ _ _ _ _ _ _ _ it s₂) _ _); (with_unfolding_all refine iter_listTurns (vs := []) (by rfl) (by assumption) (by assumption) (by k_mem) (by rfl) (by rfl) ?_); intro i' l1'; clear l1'))
theorem new_call {w : World} {mean : ExcName → Option Value} {mg mb : Str → Option Value} {dp un : Nat} {gd : Option (List Code)} {cn : Str} {cs : Scope} {a : Addr} {ccd : Value} {cl : List (Str × Addr)} {outer : List Env} {A₀ : Around} {base h₀ : Heap} {L : Addr} {m : Str → Option Value} {news : List (Addr × Obj)} {s : Shared} {Q E : Value → Shared → Prop}
    (B : Below A₀ base outer h₀) (F : Fr h₀ L s.heap m) (X : (hd.heap_39 w.params).In h₀) (N : News h₀ L s.heap news) (T : Top hd.view_39 (looseW hd.view_39 [Str.ofString "EXACT_TOKEN_TYPES", Str.ofString "tspecials", Str.ofString "_name_disallowed_re", Str.ofString "_value_disallowed_re", Str.ofString "_formatparam"]) mean mg mb h₀) (hk : cs.kind = .function) (hd : dp + 8 < recursionLimit) (hu : un + 64 < cLine)
    {l : Addr} {c1 : Nat} (h1 : (l, W.listOf #[] c1) ∈ news)
    (ret : ∀ x dx tk0 h' tk', Fr h₀ L h' m → News h₀ L h' ((x, instObj 241 dx) :: (dx, dictOf [⟨PyData.keyHash w.params (Str.ofString "_headers"), .str (Str.ofString "_headers") tk0, .ref l⟩] 1) :: news) → @LT.lt Nat _ dx x → (∀ p ∈ news, p.1 < dx) → Q (.ref x) { s with heap := h', toks := tk' }) :
    wpAny (model PySem.Challenge.rw_we0031_01.row.prog w) (ktrTop dp un gd cn cs L a ccd cl outer) (call (.ref 241) [.ref l]) Q E s := by
  w_top off
  k_with_none
  refine fill_here (fun hfill => ?_)
  revert hfill
  k_fill
  intro _
  k_steps
  exact ret _ _ _ _ _ (by k_asm) (by k_asm) (by show @LT.lt Nat _ _ _; omega) (by first | assumption | exact lt_tail (by assumption) | exact kst_ltOf (by first | assumption | exact And.right (by assumption) | exact And.right (And.right (by assumption)) | exact And.right (And.right (And.right (by assumption))) | exact And.right (And.right (And.right (And.right (by assumption)))) | exact And.right (And.right (And.right (And.right (And.right (by assumption))))) | exact And.right (And.right (And.right (And.right (And.right (And.right (by assumption)))))) | exact And.right (And.right (And.right (And.right (And.right (And.right (And.right (by assumption)))))))))
end
section
open PyProof.V PySem.Spec PySem.Calls
section
variable {prog : Program} {w : World} {A : Around} {E : Value → Shared → Prop} {s : Shared} {h₀ : Heap} {L : Addr} {m : Str → Option Value} {news : List (Addr × Obj)}
theorem all_bounds (n : Nat) : sliceBounds none none none n = (0, (n : Int), 1) := by
  simp [sliceBounds]
theorem mapSeq_all (f : Array Value → Array Value) (items : Array Value) (n : Nat) : ∃ c, Obj.mapSeq f (W.listOf items n) = W.listOf (f items) c := ⟨_, rfl⟩
/-- l[:] = D, both lists -/
theorem set_all {l sl D : Addr} {items new : Array Value} {n c : Nat} {Q : Unit → Shared → Prop} (ho : s.heap.get? l = some (W.listOf items n)) (hs : s.heap.IsSliceOf sl .none .none .none)
    (hv : s.heap.get? D = some (W.listOf new c)) (hne : l ≠ D) (hsz : items.size + new.size ≤ 16777216)
    (hQ : ∀ h' c', Heap.SameBut l s.heap h' → h'.get? l = some (W.listOf new c') → Q () { s with heap := h' }) :
    wpAny (model prog w) A (setItem (.ref l) (.ref sl) (.ref D)) Q E s := by
  have hl : s.heap.IsList l items := ⟨_, ho, rfl, n, rfl⟩
  obtain ⟨os, hos, hcs, hds⟩ := id hs
  have hTs : s.TypeIs (.ref sl) "slice" := ⟨os, hos, hcs⟩
  have hTD : s.TypeIs (.ref D) "list" := ⟨_, hv, rfl⟩
  unfold setItem
  refine wpAny_holding ?_
  refine wpAny_bind (wpAny_sequenceKey hl.typeIs (by decide) ?_)
  refine wpAny_bind (wpAny_callSpecial?_slot (name := Str.ofString "__setitem__") hl.typeIs F.slot_list_setitem
    (wpAny_call_entry F.slot_list_setitem hl.typeIs F.entry_list_setitem ?_ (F.args_list_setitem_3 _ _ _)))
  show wpAny _ _ (Builtin.List.listSubscript? (.ref sl) >>= _) _ _ s
  unfold Builtin.List.listSubscript?
  refine wpAny_bind (wpAny_bind (wpAny_specialOf hTs slice_no_index ?_))
  simp only [Option.isNone_none, if_true]
  refine wpAny_pure ?_
  show wpAny _ _ (typeOf (.ref sl) >>= _) _ _ s
  refine wpAny_bind (wpAny_typeOf hTs ?_)
  rw [if_neg (by decide), listSliceParts_eq]
  refine wpAny_bind (wpAny_bind (wpAny_field hos hds (x := .none) rfl (wpAny_bind (wpAny_listPart .none ?_))))
  rw [if_neg (by decide)]
  refine wpAny_bind (wpAny_field hos hds (x := .none) rfl (wpAny_bind (wpAny_listPart .none ?_)))
  refine wpAny_bind (wpAny_field hos hds (x := .none) rfl (wpAny_bind (wpAny_listPart .none (wpAny_pure ?_))))
  have e1 : Builtin.List.listSameRef (.ref l) (.ref D) = false := beq_eq_false_iff_ne.mpr hne
  rw [if_neg (by rw [e1]; exact Bool.false_ne_true)]
  refine wpAny_bind (m := Builtin.List.listAllItems (.ref D) _) ?_
  unfold Builtin.List.listAllItems
  refine wpAny_bind (wpAny_typeOf hTD ?_)
  rw [if_pos (by decide)]
  unfold Builtin.List.listItems
  refine wpAny_bind (wpAny_seqItems hv rfl (wpAny_pure ?_))
  refine wpAny_bind (wpAny_bind (wpAny_seqItems ho rfl (wpAny_pure ?_)))
  refine wpAny_bind (wpAny_of_eq (sliceIndices_raw none none none items.size (by decide)) ?_)
  rw [all_bounds]
  dsimp only
  rw [if_pos (by decide)]
  refine wpAny_bind (wpAny_rule ?_)
  have e2 : Builtin.List.listTooLong (items.size + new.size) = false := by
    unfold Builtin.List.listTooLong
    rw [sizeLine_eq]; exact decide_eq_false (by omega)
  rw [if_neg (by rw [e2]; exact Bool.false_ne_true)]
  have e3 : items.extract 0 (0 : Int).toNat ++ new ++ items.extract (max (0 : Int) (items.size : Int)).toNat items.size = new := by
    have e4 : (max (0 : Int) (items.size : Int)).toNat = items.size := by omega
    rw [e4]; simp
  refine wpAny_bind ?_
  show wpAny _ _ (updateSeq l _) _ _ s
  refine wpAny_updateSeq ho rfl ?_ (by rw [sizeLine_eq]; omega) (by rw [e3, sizeLine_eq]; omega)
  refine wpAny_bind (wpAny_letGo (wpAny_pure ⟨.none, rfl, wpAny_pure (hQ _ (if new.size == items.size then n else n + 1) (Heap.SameBut.update ..) ?_)⟩))
  rw [Heap.get?_update_self _ ho (by rfl)]
  refine congrArg some ?_
  show W.listOf (items.extract 0 (0 : Int).toNat ++ new ++ items.extract (max (0 : Int) (items.size : Int)).toNat items.size) (if (items.extract 0 (0 : Int).toNat ++ new ++ items.extract (max (0 : Int) (items.size : Int)).toNat items.size).size == items.size then n else n + 1) = _
  rw [e3]
/-- the same on the ledger; the slice object lies on top of the heap -/
theorem set_all_N {hp : Heap} {l D : Addr} {vs xs : List Value} {n c : Nat} {Q : Unit → Shared → Prop} (F : Fr h₀ L hp m) (N : News h₀ L hp ((l, W.listOf vs.toArray n) :: news)) (hv : (D, W.listOf xs.toArray c) ∈ news)
    (hne : ∀ p ∈ news, p.1 ≠ l) (hs : s.heap = hp.push { cls := .type "slice", data := .fields #[.none, .none, .none] }) (hsz : vs.length + xs.length ≤ 16777216)
    (hQ : ∀ h' c', Fr h₀ L h' m → News h₀ L h' ((l, W.listOf xs.toArray c') :: news) → Q () { s with heap := h' }) :
    wpAny (model prog w) A (setItem (.ref l) (.ref hp.objs.size) (.ref D)) Q E s := by
  have hl := N _ List.mem_cons_self
  have hd := N _ (List.mem_cons_of_mem _ hv)
  have F' := F.push ({ cls := .type "slice", data := .fields #[.none, .none, .none] } : Obj)
  refine set_all (items := vs.toArray) (new := xs.toArray) (n := n) (c := c) (by rw [hs]; exact Heap.get?_push_of_some _ hl.1) (by rw [hs]; exact Heap.IsSliceOf.new ..) (by rw [hs]; exact Heap.get?_push_of_some _ hd.1) (fun e => hne _ hv e.symm) (by simpa using hsz) (fun h' c' hb hg => ?_)
  rw [hs] at hb
  refine hQ h' c' (F'.change hb hl.2.1 hl.2.2) (fun p hp' => ?_)
  rcases List.mem_cons.mp hp' with rfl | hp'
  · exact ⟨hg, hl.2⟩
  · exact ⟨(hb.2 p.1 (hne p hp')).trans (Heap.get?_push_of_some _ (N p (List.mem_cons_of_mem _ hp')).1), (N p (List.mem_cons_of_mem _ hp')).2⟩
end
section
variable {M : Model} {A : Around} {E : Value → Shared → Prop} {s : Shared} {h₀ : Heap} {L x C f : Addr} {m : Str → Option Value} {K : Frag} {ox : Obj} {od : Option Obj} {i : Value}
/-- del x[i] of a class of the text's own -/
theorem del_own {Q : Unit → Shared → Prop} (F : Fr h₀ L s.heap m) (X₀ : K.In h₀) (I : InstAt s.heap x ox C od) (hq : noSeq K C = true) (hs : findIn K (.ref C) "__delitem__" = some (some (.ref f))) (hf : isFn K (.ref f) = true)
    (h : wpAny M A (call (.ref f) [.ref x, i]) (fun _ s' => Q () s') E s) : wpAny M A (delItem (.ref x) i) Q E s := by
  have X := X₀.keeps F.keep
  unfold delItem sequenceKey
  refine wpAny_holding (wpAny_bind (wpAny_bind (I.type.here ?_)))
  refine wpAny_bind ((anyM_none X hq).here ?_)
  rw [if_pos (show (!false) = true from rfl)]
  exact wpAny_pure (wpAny_bind (special_fn X I hs (beq_iff_eq.mp hf) (wpAny_mono h (fun _ _ z => wpAny_pure z) fun _ _ z => z)))
end
section
variable {prog : Program} {w : World} {A : Around} {E : Value → Shared → Prop} {s : Shared} {h₀ : Heap} {L : Addr} {m : Str → Option Value} {news : List (Addr × Obj)}
/-- l[:], the slice object on top of the heap -/
theorem slice_all_N {hp : Heap} {l : Addr} {vs : List Value} {n : Nat} {value slice : PySem.Expr} {Q : Value → Shared → Prop} (F : Fr h₀ L hp m) (N : News h₀ L hp news) (hm : (l, W.listOf vs.toArray n) ∈ news)
    (hs : s.heap = hp.push { cls := .type "slice", data := .fields #[.none, .none, .none] }) (hsz : vs.length ≤ 1000)
    {ops : List Value} (hsub : subscripted slice false (.ref l) (.ref hp.objs.size) = operate ops (getItem (.ref l) (.ref hp.objs.size)))
    (hQ : ∀ D h', Fr h₀ L h' m → News h₀ L h' ((D, W.listOf vs.toArray 0) :: news) → (∀ p ∈ news, p.1 < D) → Q (.ref D) { s with heap := h' }) :
    wpAny (model prog w) A (subscriptTail value slice (.ref l) (.ref hp.objs.size)) Q E s := by
  have F' := F.push ({ cls := .type "slice", data := .fields #[.none, .none, .none] } : Obj)
  have N' : News h₀ L (hp.push { cls := .type "slice", data := .fields #[.none, .none, .none] }) news := fun p hp => ⟨Heap.get?_push_of_some _ (N p hp).1, (N p hp).2⟩
  have hl : s.heap.IsList l vs.toArray := by rw [hs]; exact ⟨_, (N' _ hm).1, rfl, n, rfl⟩
  refine tail_any hl.typeIs PySem.F.slot_list_getitem.lookup (wpAny_getItem_list_slice hl (by rw [hs]; exact Heap.IsSliceOf.new ..) .none .none .none (by decide) ?_ (by rw [List.size_toArray, sizeLine_eq]; omega)) hsub
  rw [slicePick_all, hs]
  exact hQ _ _ (F'.push _) (N'.push F' _) (fun p hp' => Heap.lt_size (N' p hp').1)
end
end
section
local macro_rules | `(tactic| walk_at "call builtin:str.lower") => `(tactic| (k_here; (with_reducible show wpAny _ _ (call (Value.builtin "str.lower") [Value.str _ _]) _ _ _); k_dflt (refine' lower_nm ?k1 ?_; (case k1 => assumption)); intro _))
theorem del_call {w : World} {mean : ExcName → Option Value} {mg mb : Str → Option Value} {dp un : Nat} {gd : Option (List Code)} {cn : Str} {cs : Scope} {a : Addr} {ccd : Value} {cl : List (Str × Addr)} {outer : List Env} {A₀ : Around} {base h₀ : Heap} {L : Addr} {m : Str → Option Value} {news : List (Addr × Obj)} {s : Shared} {Q E : Value → Shared → Prop}
    (B : Below A₀ base outer h₀) (F : Fr h₀ L s.heap m) (X : (hd.heap_39 w.params).In h₀) (T : Top hd.view_39 (looseW hd.view_39 [Str.ofString "EXACT_TOKEN_TYPES", Str.ofString "tspecials", Str.ofString "_name_disallowed_re", Str.ofString "_value_disallowed_re", Str.ofString "_formatparam"]) mean mg mb h₀) (hk : cs.kind = .function) (hd : dp + 6 < recursionLimit) (hu : un + 48 < cLine)
    {tb dx hl : Addr} {hs : Int} {tk0 : Tok} {vs : List Value} {c1 : Nat} {c : Nat} {tc : Tok} {ps : List (Nat × Str)} (hc : isL c)
    (hne : ∀ p ∈ news, p.1 ≠ hl) (N : News h₀ L s.heap ((hl, W.listOf vs.toArray c1) :: news))
    (h1 : (tb, instObj 241 dx) ∈ news) (h2 : (dx, dictOf [⟨hs, .str (Str.ofString "_headers") tk0, .ref hl⟩] 1) ∈ news)
    (hr : Rows news vs ps) (hp : ∀ r ∈ ps, isL r.1) (hn : vs.length ≤ 1000)
    (ret : ∀ vs' c' h' tk', Fr h₀ L h' m → News h₀ L h' ((hl, W.listOf (List.toArray vs') c') :: news) → Rows news vs' (ps.filter fun r => decide (lo1 r.1 ≠ lo1 c)) → vs'.length ≤ vs.length → Q .none { s with heap := h', toks := tk' }) :
    wpAny (model PySem.Challenge.rw_we0031_01.row.prog w) (ktrTop dp un gd cn cs L a ccd cl outer) (call (.ref 161) [.ref tb, .str ⟨#[c]⟩ tc]) Q E s := by
  obtain ⟨info, rfl, hi⟩ := rows_info (news_drop N (fun p hp => List.mem_cons_of_mem _ hp)) hr
  w_top off
  k_with_none
  k_with "call ref" => (k_here; k_dflt (refine' conv_call ?k1 ?k2 ?k3 ?k4 ?k5 ?k6 ?k7 ?k8 ?k9 ?_; (case k1 | k2 | k3 | k4 | k5 => k_asm); (case k6 => first | exact rfl | assumption); (case k7 => ktr_room); (case k8 => ktr_units); (case k9 => first | assumption | exact okS_nm (by assumption) | exact okS_nm (isL_lo (by assumption))); k_whole); intro _ _ _ _;  (try k_sweep))
  refine fill_here (fun hfill => ?_)
  revert hfill
  k_fill
  intro _
  refine wpAny_call ?_
  k_dflt ktr_enter
  repeat' ((fail_if_success (with_reducible show wpAny _ _ (eval (Expr.ListComp _ _ _ _) _) _ _ _)); (first | (k_unfold; (try dsimp only)) | (k_end; wrow_close) | walk1 | (dsimp only; walk1)))
  k_dflt (refine comp_list (fun v => decide (lo1 (info v).1 ≠ lo1 c)) (fun v y => y = v) (by assumption) (by rfl) (by with_unfolding_all rfl) (by decide) (by rfl) (by decide) (by rfl) ?_ (by intro _; rfl))
  repeat' ((fail_if_success (with_reducible show ∃ _, _)); (first | (k_unfold; (try dsimp only)) | (k_end; wrow_close) | walk1 | (dsimp only; walk1)))
  refine ⟨_, hl, vs, rfl, News.isList (by k_asm) (by k_mem), by rw [sizeLine_eq]; omega, by k_asm, by k_asm, ?_, ?_, ?_⟩
  · intro C v s₂ m₂ E' hv hns hm hk
    obtain ⟨a9, t91, t92, e9, m9⟩ := hi v hv
    subst e9
    have hL9 : isL (info (Value.ref a9)).1 := hp _ (List.mem_map_of_mem hv)
    k_steps
    · exact one_bne _ _
    · exact ⟨_, _, rfl, fun _ _ e => e⟩
  · intro C v s₂ m₂ E' hv hpz hns hm hk
    obtain ⟨a9, t91, t92, e9, m9⟩ := hi v hv
    k_steps
    exact ⟨_, _, rfl, fun _ _ e => e⟩
  · intro D ys c2 h' tk' F' N' ne hG
    have hG' := eq_of_paired hG
    subst hG'
    repeat' ((fail_if_success (with_reducible show wpAny _ _ (setItem (Value.ref _) (Value.ref _) (Value.ref _)) _ _ _)); (first | (k_unfold; (try dsimp only)) | (k_end; wrow_close) | walk1 | (dsimp only; walk1)))
    have N9 := news_two (hl, W.listOf vs.toArray c1) (news := news) N' (by k_mem) (by intro p hp; simp [hp])
    refine set_all_N F' N9 List.mem_cons_self ?_ rfl ?_ ?_
    · exact (fcons (fun e => ne (hl, W.listOf vs.toArray c1) (by simp) e.symm) hne)
    · have := List.length_filter_le (fun v => decide (lo1 (info v).1 ≠ lo1 c)) vs
      omega
    · intro h9 c9 F9 N10
      clear F' N' N9
      dsimp only
      k_steps
      exact ret _ _ _ _ (by k_asm) (news_drop (by k_asm) (by intro p hp; rcases List.mem_cons.mp hp with rfl | hp; exact List.mem_cons_self; exact List.mem_cons_of_mem _ (List.mem_cons_of_mem _ hp))) (rows_filter (fun r => decide (lo1 r.1 ≠ lo1 c)) hi) (List.length_filter_le _ _)
end
section
theorem set_call {w : World} {mean : ExcName → Option Value} {mg mb : Str → Option Value} {dp un : Nat} {gd : Option (List Code)} {cn : Str} {cs : Scope} {a : Addr} {ccd : Value} {cl : List (Str × Addr)} {outer : List Env} {A₀ : Around} {base h₀ : Heap} {L : Addr} {m : Str → Option Value} {news : List (Addr × Obj)} {s : Shared} {Q E : Value → Shared → Prop}
    (B : Below A₀ base outer h₀) (F : Fr h₀ L s.heap m) (X : (hd.heap_39 w.params).In h₀) (T : Top hd.view_39 (looseW hd.view_39 [Str.ofString "EXACT_TOKEN_TYPES", Str.ofString "tspecials", Str.ofString "_name_disallowed_re", Str.ofString "_value_disallowed_re", Str.ofString "_formatparam"]) mean mg mb h₀) (hk : cs.kind = .function) (hd : dp + 10 < recursionLimit) (hu : un + 80 < cLine)
    {tb dx hl : Addr} {hs : Int} {tk0 : Tok} {vs : List Value} {c1 : Nat} {c : Nat} {tc : Tok} {x : Str} {tx : Tok} {ps : List (Nat × Str)} (hc : isL c) (hx : okS x)
    (hne : ∀ p ∈ news, p.1 ≠ hl) (N : News h₀ L s.heap ((hl, W.listOf vs.toArray c1) :: news))
    (h1 : (tb, instObj 241 dx) ∈ news) (h2 : (dx, dictOf [⟨hs, .str (Str.ofString "_headers") tk0, .ref hl⟩] 1) ∈ news)
    (hr : Rows news vs ps) (hp : ∀ r ∈ ps, isL r.1) (hn : vs.length ≤ 999)
    (ret : ∀ vs' r c' ta tb h' tk', Fr h₀ L h' m → News h₀ L h' ((hl, W.listOf (vs' ++ [Value.ref r]).toArray c') :: (r, tup [.str ⟨#[c]⟩ ta, .str x tb]) :: news) → Rows news vs' (ps.filter fun r => decide (lo1 r.1 ≠ lo1 c)) → vs'.length ≤ vs.length → @LT.lt Nat _ hl r → (∀ p ∈ news, p.1 < r) → Q .none { s with heap := h', toks := tk' }) :
    wpAny (model PySem.Challenge.rw_we0031_01.row.prog w) (ktrTop dp un gd cn cs L a ccd cl outer) (call (.ref 156) [.ref tb, .str ⟨#[c]⟩ tc, .str x tx]) Q E s := by
  w_top off
  k_with_none
  k_with "call ref" => (k_here; k_dflt (refine' conv_call ?k1 ?k2 ?k3 ?k4 ?k5 ?k6 ?k7 ?k8 ?k9 ?_; (case k1 | k2 | k3 | k4 | k5 => k_asm); (case k6 => first | exact rfl | assumption); (case k7 => ktr_room); (case k8 => ktr_units); (case k9 => first | assumption | exact okS_nm (by assumption) | exact okS_nm (isL_lo (by assumption))); k_whole); intro _ _ _ _;  (try k_sweep))
  k_with "call ref" => (k_here; k_dflt (refine' del_call ?k1 ?k2 ?k3 ?k4 ?k5 ?k6 ?k7 ?k8 ?k9 ?k10 ?k11 ?k12 ?k13 ?k14 ?k15 ?_; (case k1 | k2 | k3 | k4 => k_asm); (case k5 => first | exact rfl | assumption); (case k6 => ktr_room); (case k7 => ktr_units); (case k8 | k9 => assumption); (case k10 => k_asm); (case k11 | k12 => k_mem); (case k13 | k14 | k15 => assumption); k_whole); intro _ _ _ _ _ _ _ _;  (try k_sweep))
  refine fill_here (fun hfill => ?_)
  revert hfill
  k_fill
  intro _
  k_with "delItem ref" => ((k_here; k_dflt (refine' del_own ?F ?X ?I ?hQ ?hS ?hF ?_; (case F | X => k_asm); (case I => k_inst); (case hS => k_is); (case hF => k_is); (case hQ => k_is); k_whole)))
  refine wpAny_call ?_
  k_dflt ktr_enter
  have hn' : vs.length ≤ 1000 := by omega
  repeat' ((fail_if_success (with_reducible show wpAny _ _ (call (Value.builtin "list.append") [Value.ref _, Value.ref _]) _ _ _)); (first | (k_unfold; (try dsimp only)) | (k_end; wrow_close) | walk1 | (dsimp only; walk1)))
  rename_i vs9 c9 h8 tk8 hr9 hl9 h7 tk7 h6 tk6 D9 h9 F9 N9 l19
  have N10 := news_two (hl, W.listOf vs9.toArray c9) (news := news) N9 (by k_mem) (by intro p hp; simp [hp])
  clear N9
  k_dflt (refine' append_K (n := c9) (its := vs9.toArray) F9 N10 (Upd.head ?hd) ?go ?sz)
  case hd => exact (fcons (Nat.ne_of_gt (by omega)) hne)
  case sz => rw [List.size_toArray, sizeLine_eq]; omega
  case go =>
    intro h8 F8 N8
    rw [List.push_toArray] at N8
    clear N10 F9
    dsimp only
    k_steps
    exact ret _ _ _ _ _ _ _ (by k_asm) (by k_asm) hr9 hl9 (by show @LT.lt Nat _ _ _; omega) (by first | assumption | exact lt_tail (by assumption) | exact kst_ltOf (by first | assumption | exact And.right (by assumption) | exact And.right (And.right (by assumption)) | exact And.right (And.right (And.right (by assumption))) | exact And.right (And.right (And.right (And.right (by assumption)))) | exact And.right (And.right (And.right (And.right (And.right (by assumption))))) | exact And.right (And.right (And.right (And.right (And.right (And.right (by assumption)))))) | exact And.right (And.right (And.right (And.right (And.right (And.right (And.right (by assumption)))))))))
end
section
local macro_rules | `(tactic| walk_at "subscriptTail") => `(tactic| (k_here; k_dflt (refine' slice_all_N ?F ?N ?m ?s ?z ?u ?_; (case F => k_asm); (case N => k_asm); (case m => k_mem); (case s => exact rfl); (case z => assumption); (case u => exact rfl)); intro D' h' F' N' l1; (try k_lt l1); (try k_sweep)))
theorem items_call {w : World} {mean : ExcName → Option Value} {mg mb : Str → Option Value} {dp un : Nat} {gd : Option (List Code)} {cn : Str} {cs : Scope} {a : Addr} {ccd : Value} {cl : List (Str × Addr)} {outer : List Env} {A₀ : Around} {base h₀ : Heap} {L : Addr} {m : Str → Option Value} {news : List (Addr × Obj)} {s : Shared} {Q E : Value → Shared → Prop}
    (B : Below A₀ base outer h₀) (F : Fr h₀ L s.heap m) (X : (hd.heap_39 w.params).In h₀) (N : News h₀ L s.heap news) (T : Top hd.view_39 (looseW hd.view_39 [Str.ofString "EXACT_TOKEN_TYPES", Str.ofString "tspecials", Str.ofString "_name_disallowed_re", Str.ofString "_value_disallowed_re", Str.ofString "_formatparam"]) mean mg mb h₀) (hk : cs.kind = .function) (hd : dp + 4 < recursionLimit) (hu : un + 32 < cLine)
    {tb dx hl : Addr} {hs : Int} {tk0 : Tok} {vs : List Value} {c1 : Nat}
    (h1 : (tb, instObj 241 dx) ∈ news) (h2 : (dx, dictOf [⟨hs, .str (Str.ofString "_headers") tk0, .ref hl⟩] 1) ∈ news) (h3 : (hl, W.listOf vs.toArray c1) ∈ news) (hn : vs.length ≤ 1000)
    (ret : ∀ D h' tk', Fr h₀ L h' m → News h₀ L h' ((D, W.listOf vs.toArray 0) :: news) → (∀ p ∈ news, p.1 < D) → Q (.ref D) { s with heap := h', toks := tk' }) :
    wpAny (model PySem.Challenge.rw_we0031_01.row.prog w) (ktrTop dp un gd cn cs L a ccd cl outer) (call (.ref 205) [.ref tb]) Q E s := by
  w_top off
  k_with_none
  refine fill_here (fun hfill => ?_)
  revert hfill
  k_fill
  intro _
  refine wpAny_call ?_
  k_dflt ktr_enter
  k_steps
  exact ret _ _ _ (by k_asm) (by k_asm) (by first | assumption | exact lt_tail (by assumption) | exact kst_ltOf (by first | assumption | exact And.right (by assumption) | exact And.right (And.right (by assumption)) | exact And.right (And.right (And.right (by assumption))) | exact And.right (And.right (And.right (And.right (by assumption)))) | exact And.right (And.right (And.right (And.right (And.right (by assumption))))) | exact And.right (And.right (And.right (And.right (And.right (And.right (by assumption)))))) | exact And.right (And.right (And.right (And.right (And.right (And.right (And.right (by assumption)))))))))
end
section
local macro_rules | `(tactic| walk_at "subscriptTail Name Name ref int") => `(tactic| ((k_here; k_dflt (refine' item_at ?N ?m ?a ?b ?x ?_ ?s; (case N => k_asm); (case m => k_mem); (case a => omega); (case b => omega); (case x => assumption); (case s => exact rfl)))))
local macro_rules | `(tactic| walk_at "call builtin:chr") => `(tactic| (refine' chr_sym ?h ?_; (case h => assumption); intro _))
local macro_rules | `(tactic| walk_at "exec For Tuple Name cons nil") => `(tactic| (k_here; (rename Fr _ _ _ _ => lF'); (with_unfolding_all refine' For_turns lF' ?_; k_whole)))
/-- ahead of a turn of the first loop -/
inductive RunA (w : World) (news : List (Addr × Obj)) (l9 x9 dx9 q : Addr) (tk0 : Tok) (ps : List (Nat × Str)) (i : Nat) (m : Str → Option Value) (nx : List (Addr × Obj)) : Prop
  | mk (u : Str → Option Value) (vsI : List Value) (cI : Nat) (rest : List (Addr × Obj)) (em : m = kstB u [(Str.ofString "table", .ref x9), (Str.ofString "symbols", .ref q)]) (en : nx = (l9, W.listOf vsI.toArray cI) :: rest) (hR : Rows rest vsI (ps.take i)) (hne : ∀ p ∈ rest, p.1 ≠ l9)
    (hx : (x9, instObj 241 dx9) ∈ rest) (hdx : (dx9, dictOf [⟨PyData.keyHash w.params (Str.ofString "_headers"), .str (Str.ofString "_headers") tk0, .ref l9⟩] 1) ∈ rest) (hsub : ∀ e ∈ news, e ∈ rest) : RunA w news l9 x9 dx9 q tk0 ps i m nx
/-- behind i statements -/
inductive RunB (w : World) (news : List (Addr × Obj)) (s : Shared) (g7 : Heap) (L7 q x9 H9 l9 dx9 : Addr) (tk0 : Tok) (ps : List (Nat × Str)) (sts : List Stm) (i : Nat) (s' : Shared) : Prop
  | mk (h : Heap) (tk : Nat) (u : Str → Option Value) (nl : Addr) (refs : List Value) (cH : Nat) (vsI : List Value) (cI : Nat) (rest : List (Addr × Obj)) (d : Int) (td tkk : Tok)
    (es : s' = { s with heap := h, toks := tk }) (F : Fr g7 L7 h (kstB u [(Str.ofString "symbols", .ref q), (Str.ofString "table", .ref x9), (Str.ofString "history", .ref H9), (Str.ofString "names", .ref nl), (Str.ofString "turned", .bool false), (Str.ofString "deed", .int d td), (Str.ofString "k", .int (offs sts i : Nat) tkk)]))
    (N : News g7 L7 h ((nl, W.listOf #[] 0) :: (H9, W.listOf refs.toArray cH) :: (l9, W.listOf vsI.toArray cI) :: rest)) (hR : Rows rest vsI (rowsAt ps (sts.take i))) (hV : vsI.length ≤ 100 + i) (hH : Paired (IsHist rest) refs (histAt ps sts i))
    (n1 : @Ne Nat nl H9) (n2 : @Ne Nat nl l9) (n3 : @Ne Nat H9 l9) (m1 : ∀ p ∈ rest, p.1 ≠ nl) (m2 : ∀ p ∈ rest, p.1 ≠ H9) (m3 : ∀ p ∈ rest, p.1 ≠ l9)
    (hx : (x9, instObj 241 dx9) ∈ rest) (hdx : (dx9, dictOf [⟨PyData.keyHash w.params (Str.ofString "_headers"), .str (Str.ofString "_headers") tk0, .ref l9⟩] 1) ∈ rest) (hsub : ∀ e ∈ news, e ∈ rest) : RunB w news s g7 L7 q x9 H9 l9 dx9 tk0 ps sts i s'
/-- what holds of the loop's rest, used many times -/
theorem with_rest {R : Shared → Prop} {s0 : Shared} (T : (Shared → Prop) → Prop) (h1 : T R) (h2 : T R → R s0) : R s0 := h2 h1
theorem run_call {w : World} {mean : ExcName → Option Value} {mg mb : Str → Option Value} {dp un : Nat} {gd : Option (List Code)} {cn : Str} {cs : Scope} {a : Addr} {ccd : Value} {cl : List (Str × Addr)} {outer : List Env} {A₀ : Around} {base h₀ : Heap} {L : Addr} {m : Str → Option Value} {news : List (Addr × Obj)} {s : Shared} {Q E : Value → Shared → Prop}
    (B : Below A₀ base outer h₀) (F : Fr h₀ L s.heap m) (X : (hd.heap_39 w.params).In h₀) (N : News h₀ L s.heap news) (T : Top hd.view_39 (looseW hd.view_39 [Str.ofString "EXACT_TOKEN_TYPES", Str.ofString "tspecials", Str.ofString "_name_disallowed_re", Str.ofString "_value_disallowed_re", Str.ofString "_formatparam"]) mean mg mb h₀) (hk : cs.kind = .function) (hd : dp + 14 < recursionLimit) (hu : un + 112 < cLine)
    {p q : Addr} {vs us : List Value} {c1 c2 : Nat} {ps : List (Nat × Str)} {sts : List Stm}
    (hp : (p, W.listOf vs.toArray c1) ∈ news) (hr : Rows news vs ps) (hps : ∀ r ∈ ps, isL r.1 ∧ okS r.2 ∧ r.2.length = 8)
    (hq : (q, W.listOf us.toArray c2) ∈ news) (hus : IntsAre us (sts.flatMap symsOf ++ [0])) (hst : ∀ st ∈ sts, okStm st) (hl1 : vs.length ≤ 100) (hl2 : sts.length ≤ 100)
    (ret : ∀ H refs cH rest h' tk', Fr h₀ L h' m → News h₀ L h' ((H, W.listOf (List.toArray refs) cH) :: rest) → (∀ e ∈ news, e ∈ rest) → Paired (IsHist rest) refs (histAt ps sts sts.length) → (∀ e ∈ rest, e.1 ≠ H) → Q (.ref H) { s with heap := h', toks := tk' }) :
    wpAny (model PySem.Challenge.rw_we0031_01.row.prog w) (ktrTop dp un gd cn cs L a ccd cl outer) (call (.ref 315) [.ref p, .ref q]) Q E s := by
  w_top off
  k_with_none
  k_with "call ref" => (k_here; k_dflt (refine' new_call ?k1 ?k2 ?k3 ?k4 ?k5 ?k6 ?k7 ?k8 ?k9 ?_; (case k1 | k2 | k3 | k4 | k5 => k_asm); (case k6 => first | exact rfl | assumption); (case k7 => ktr_room); (case k8 => ktr_units); (case k9 => k_mem); k_whole); intro _ _ _ _ _ _ _ l1' l2'; (try k_lt l1'); (try k_lt l2'); revert l1' l2'; intro _ _; (try k_sweep))
  k_with "call ref" => (k_here; k_dflt (refine' add_header_call ?k1 ?k2 ?k3 ?k4 ?k5 ?k6 ?k7 ?k8 ?k9 ?k10 ?k11 ?k12 ?k13 ?k14 ?k15 ?_; (case k1 | k2 | k3 | k4 => k_asm); (case k5 => first | exact rfl | assumption); (case k6 => ktr_room); (case k7 => ktr_units); (case k8 | k9 | k10 | k11 => assumption); (case k12 => k_asm); (case k13 | k14 => k_mem); (case k15 => assumption); k_whole); intro _ _ _ _ _ _ _ l1' l2'; (try k_lt l1'); (try k_lt l2'); revert l1' l2'; intro _ _; (try k_sweep))
  k_with "call ref" => (k_here; k_dflt (refine' iseof_no ?k1 ?k2 ?k3 ?k4 ?k5 ?k6 ?k7 ?k8 ?k9 ?_; (case k1 | k2 | k3 | k4 | k5 => k_asm); (case k6 => first | exact rfl | assumption); (case k7 => ktr_room); (case k8 => ktr_units); (case k9 => omega); k_whole); intro _ _ _ _;  (try k_sweep))
  k_with "call ref" => (k_here; k_dflt (refine' iseof_yes ?k1 ?k2 ?k3 ?k4 ?k5 ?k6 ?k7 ?k8 ?k9 ?_; (case k1 | k2 | k3 | k4 | k5 => k_asm); (case k6 => first | exact rfl | assumption); (case k7 => ktr_room); (case k8 => ktr_units); (case k9 => omega); k_whole); intro _ _ _ _;  (try k_sweep))
  k_with "call ref" => (k_here; k_dflt (refine' isnt_yes ?k1 ?k2 ?k3 ?k4 ?k5 ?k6 ?k7 ?k8 ?k9 ?_; (case k1 | k2 | k3 | k4 | k5 => k_asm); (case k6 => first | exact rfl | assumption); (case k7 => ktr_room); (case k8 => ktr_units); (case k9 => omega); k_whole); intro _ _ _ _;  (try k_sweep))
  k_with "call ref" => (k_here; k_dflt (refine' isnt_no ?k1 ?k2 ?k3 ?k4 ?k5 ?k6 ?k7 ?k8 ?k9 ?_; (case k1 | k2 | k3 | k4 | k5 => k_asm); (case k6 => first | exact rfl | assumption); (case k7 => ktr_room); (case k8 => ktr_units); (case k9 => omega); k_whole); intro _ _ _ _;  (try k_sweep))
  k_with "call ref" => (k_here; k_dflt (refine' known_call ?k1 ?k2 ?k3 ?k4 ?k5 ?k6 ?k7 ?k8 ?k9 ?k10 ?k11 ?k12 ?k13 ?k14 ?k15 ?_; (case k1 | k2 | k3 | k4 | k5 => k_asm); (case k6 => first | exact rfl | assumption); (case k7 => ktr_room); (case k8 => ktr_units); (case k9 => assumption); (case k10 | k11 | k12 => k_mem); (case k13 => first | assumption | (refine Rows.mono (by assumption) ?_; intro p hp; simp only [List.mem_cons, hp, or_true])); (case k14 | k15 => assumption); k_whole); intro _ _ _ _ _ _ _ l1'; (try k_lt l1'); revert l1'; intro _; (try k_sweep))
  k_with "call ref" => (k_here; k_dflt (refine' turned_call ?k1 ?k2 ?k3 ?k4 ?k5 ?k6 ?k7 ?k8 ?k9 ?_; (case k1 | k2 | k3 | k4 | k5 => k_asm); (case k6 => first | exact rfl | assumption); (case k7 => ktr_room); (case k8 => ktr_units); (case k9 => k_mem); k_whole); intro _ _ _ _ _ _ _ l1'; (try k_lt l1'); revert l1'; intro _; (try k_sweep))
  k_with "call ref" => (k_here; k_dflt (refine' text_call ?k1 ?k2 ?k3 ?k4 ?k5 ?k6 ?k7 ?k8 ?k9 ?_; (case k1 | k2 | k3 | k4 | k5 => k_asm); (case k6 => first | exact rfl | assumption); (case k7 => ktr_room); (case k8 => ktr_units); (case k9 => k_mem); k_whole); intro _ _ _ _ _ _;  (try k_sweep))
  k_with "call ref" => (k_here; k_dflt (refine' joined_call ?k1 ?k2 ?k3 ?k4 ?k5 ?k6 ?k7 ?k8 ?k9 ?k10 ?_; (case k1 | k2 | k3 | k4 | k5 => k_asm); (case k6 => first | exact rfl | assumption); (case k7 => ktr_room); (case k8 => ktr_units); (case k9 | k10 => k_mem); k_whole); intro _ _ _ _ _ _ _ l1'; (try k_lt l1'); revert l1'; intro _; (try k_sweep))
  k_with "call ref" => (k_here; k_dflt (refine' items_call ?k1 ?k2 ?k3 ?k4 ?k5 ?k6 ?k7 ?k8 ?k9 ?k10 ?k11 ?k12 ?_; (case k1 | k2 | k3 | k4 | k5 => k_asm); (case k6 => first | exact rfl | assumption); (case k7 => ktr_room); (case k8 => ktr_units); (case k9 | k10 | k11 => k_mem); (case k12 => assumption); k_whole); intro _ _ _ _ _ l1'; (try k_lt l1'); revert l1'; intro _; (try k_sweep))
  refine fill_here (fun hfill => ?_)
  revert hfill
  k_fill
  intro _
  k_with "compareOp Eq int int" => (first | (refine' eqI_yes ?h ?_; (case h => omega)) | (refine' eqI_no ?h ?_; (case h => omega)))
  k_with "compareOp NotEq int int" => (first | (refine' neI_yes ?h ?_; (case h => omega)) | (refine' neI_no ?h ?_; (case h => omega)))
  refine wpAny_call ?_
  k_dflt ktr_enter
  rename_i g7 L7 h7 FG7 F7 N7 B7 X7 T7
  repeat' ((fail_if_success (with_reducible show wpAny _ _ (pyIter _) _ _ _)); (first | (k_unfold; (try dsimp only)) | (k_end; wrow_close) | walk1 | (dsimp only; walk1)))
  rename_i tk9 l9 h9 l19 x9 dx9 tk0 h8 tk8 lx9 lx8 h7 F9 N9
  have hlen := Rows.length hr
  have N10 : News _ _ h7 ((l9, W.listOf (List.toArray []) 0) :: (x9, instObj 241 dx9) :: (dx9, dictOf [⟨PyData.keyHash w.params (Str.ofString "_headers"), .str (Str.ofString "_headers") tk0, .ref l9⟩] 1) :: news) := news_drop N9 (by (repeat' (first | (refine fcons ?_ ?_) | (intro p9 hp9; repeat (first | exact hp9 | refine List.mem_cons_of_mem _ ?_)) | k_mem)))
  clear N9
  k_dflt (refine turns_list (vs := vs) (n := c1) (RunA w news l9 x9 dx9 q tk0 ps) (by rfl) F9 N10 ?j0 ?jl ?turn ?done)
  case j0 =>
    refine ⟨_, [], 0, _, kstB_self (by kst_all), rfl, .nil, ?_, by simp, by simp, fun e he => by simp [he]⟩
    have e1 : @LT.lt Nat _ l9 dx9 := lx8.1
    have e2 : @LT.lt Nat _ dx9 x9 := lx9
    refine (fcons (Nat.ne_of_gt (Nat.lt_trans e1 e2)) ((fcons (Nat.ne_of_gt e1) (fun p hp => Nat.ne_of_lt (l19 p hp)))))
  case jl =>
    rintro i m nx ⟨u, vsI, cI, rest, rfl, rfl, hR, hne, hx, hdx, hsub⟩
    exact List.mem_cons_of_mem _ (hsub _ hp)
  case turn =>
    rintro i v m₁ nx h tk I oI hv ⟨u, vsI, cI, rest, rfl, rfl, hR, hne, hx, hdx, hsub⟩ F8 N8 hI
    obtain ⟨r9, hr9, a9, t91, t92, e9, m9⟩ := paired_get hr hv
    subst e9
    replace m9 := hsub _ m9
    obtain ⟨hL9, hS9, h89⟩ := hps r9 (List.mem_of_getElem? hr9)
    have hV9 : vsI.length ≤ 1000 := by
      have := Rows.length hR
      rw [this, List.length_take]; omega
    have hI9 : l9 ≠ I := hI _ List.mem_cons_self
    have hne9 : ∀ p ∈ (I, oI) :: rest, p.1 ≠ l9 := (fcons (Ne.symm hI9) hne)
    have N7 : News _ _ h ((l9, W.listOf vsI.toArray cI) :: (I, oI) :: rest) := news_drop N8 (by (repeat' (first | (refine fcons ?_ ?_) | (intro p9 hp9; repeat (first | exact hp9 | refine List.mem_cons_of_mem _ ?_)) | k_mem)))
    clear F9 N10 N8
    dsimp only [kstB, envOf] at F8
    dsimp only [envOf] at N7
    k_steps
    rename_i r8 t18 t28 h6 tk6 F6 N6 l16 l26
    refine ⟨h6, _, _, (l9, W.listOf (vsI ++ [Value.ref r8]).toArray (cI + 1)) :: (r8, tup [.str ⟨#[r9.1]⟩ t18, .str r9.2 t28]) :: rest, rfl, F6, news_drop N6 ?_, ?_, ⟨_, vsI ++ [Value.ref r8], cI + 1, _, kstB_self (by kst_all), rfl, ?_, ?_, List.mem_cons_of_mem _ hx, List.mem_cons_of_mem _ hdx, fun e he => List.mem_cons_of_mem _ (hsub e he)⟩⟩
    · (repeat' (first | (refine fcons ?_ ?_) | (intro p9 hp9; repeat (first | exact hp9 | refine List.mem_cons_of_mem _ ?_)) | k_mem))
    · exact (fcons hI9 ((fcons (Nat.ne_of_gt l26.1) (fun p hp => hI p (List.mem_cons_of_mem _ hp)))))
    · rw [take_snoc hr9]
      exact Rows.snoc (Rows.mono hR fun p hp => List.mem_cons_of_mem _ hp) List.mem_cons_self
    · exact (fcons (Nat.ne_of_gt l16) hne)
  case done =>
    rintro m₁ nx h tk ⟨u, vsI, cI, rest, rfl, rfl, hR, hne, hx, hdx, hsub⟩ F8 N8
    rw [hlen, List.take_length] at hR
    clear F9 N10
    dsimp only [kstB, envOf] at F8
    dsimp only [envOf] at N8
    repeat' ((fail_if_success (with_reducible show WhlRest _ _ _ _ _ _ _ _ _ _ _)); (first | (k_unfold; (try dsimp only)) | (k_end; wrow_close) | walk1 | (dsimp only; walk1)))
    rename_i H9 ha lH hb tkb nl9 hc ln hd he hf hg F9 N9
    refine with_rest (R := WhlRest _ _ _ _ _ _ _ _ _ 0) (fun R => ∀ (c : Nat) (k : Int) (t tkk td : Tok) (h : Heap) (tk : Nat) (u : Str → Option Value) (nl : Addr) (nv : List Value) (cN : Nat) (b : Bool) (d : Int) (rest : List (Addr × Obj)),
      isL c → us[k.toNat]? = some (.int (256 + (c : Int)) t) → 0 ≤ k → k ≤ 1000 → nv.length ≤ 10 → (q, W.listOf us.toArray c2) ∈ rest → (∀ p ∈ rest, p.1 ≠ nl) →
      Fr g7 L7 h (kstB u [(Str.ofString "symbols", .ref q), (Str.ofString "table", .ref x9), (Str.ofString "history", .ref H9), (Str.ofString "names", .ref nl), (Str.ofString "turned", .bool b), (Str.ofString "deed", .int d td), (Str.ofString "k", .int k tkk)]) → News g7 L7 h ((nl, W.listOf nv.toArray cN) :: rest) →
      (∀ (h' : Heap) (tk' : Nat) (tkk' tn : Tok) (u' : Str → Option Value), Fr g7 L7 h' (kstB u' [(Str.ofString "symbols", .ref q), (Str.ofString "table", .ref x9), (Str.ofString "history", .ref H9), (Str.ofString "names", .ref nl), (Str.ofString "turned", .bool b), (Str.ofString "deed", .int d td), (Str.ofString "k", .int (k + 1) tkk')]) → News g7 L7 h' ((nl, W.listOf (nv ++ [Value.str ⟨#[c]⟩ tn]).toArray (cN + 1)) :: rest) → R { s with heap := h', toks := tk' }) → R { s with heap := h, toks := tk }) ?tL (fun turnL => ?_)
    case tL =>
      clear F9 N9
      intro c k t tkk td h tk u nl nv cN b d rest hc hk h0 hk9 hn hq8 hne F8 N8 IH
      dsimp only [kstB] at F8
      show WhlRest _ _ _ _ _ _ _ _ _ 1 _
      repeat' ((fail_if_success (with_reducible show WhlRest _ _ _ _ _ _ _ _ _ 0 _)); (first | (k_unfold; (try dsimp only)) | (k_end; wrow_close) | walk1 | (dsimp only; walk1)))
      rename_i F9 N9
      rw [List.push_toArray] at N9
      exact IH _ _ _ _ _ (fr_canon F9 (by kst_all)) N9
    refine with_rest (R := WhlRest _ _ _ _ _ _ _ _ _ 0) (fun R => ∀ (k op : Int) (t tkk td : Tok) (h : Heap) (tk : Nat) (u : Str → Option Value) (nl : Addr) (b : Bool) (d : Int) (rest : List (Addr × Obj)),
      (op = 36 ∨ op = 37 ∨ op = 41 ∨ op = 42 ∨ op = 43) → us[k.toNat]? = some (.int op t) → 0 ≤ k → k ≤ 1000 → (q, W.listOf us.toArray c2) ∈ rest →
      Fr g7 L7 h (kstB u [(Str.ofString "symbols", .ref q), (Str.ofString "table", .ref x9), (Str.ofString "history", .ref H9), (Str.ofString "names", .ref nl), (Str.ofString "turned", .bool b), (Str.ofString "deed", .int d td), (Str.ofString "k", .int k tkk)]) → News g7 L7 h rest →
      (∀ (h' : Heap) (tk' : Nat) (tkk' td' : Tok) (u' : Str → Option Value), Fr g7 L7 h' (kstB u' [(Str.ofString "symbols", .ref q), (Str.ofString "table", .ref x9), (Str.ofString "history", .ref H9), (Str.ofString "names", .ref nl), (Str.ofString "turned", .bool b), (Str.ofString "deed", .int op td'), (Str.ofString "k", .int (k + 1) tkk')]) → News g7 L7 h' rest → R { s with heap := h', toks := tk' }) → R { s with heap := h, toks := tk }) ?tO (fun turnO => ?_)
    case tO =>
      clear F9 N9
      intro k op t tkk td h tk u nl b d rest hop hk h0 hk9 hq8 F8 N8 IH
      dsimp only [kstB] at F8
      show WhlRest _ _ _ _ _ _ _ _ _ 1 _
      repeat' ((fail_if_success (with_reducible show WhlRest _ _ _ _ _ _ _ _ _ 0 _)); (first | (k_unfold; (try dsimp only)) | (k_end; wrow_close) | walk1 | (dsimp only; walk1)))
      rename_i F9 N9
      exact IH _ _ _ _ _ (fr_canon F9 (by kst_all)) N9
    refine with_rest (R := WhlRest _ _ _ _ _ _ _ _ _ 0) (fun R => ∀ (k op : Int) (t tkk td : Tok) (h : Heap) (tk : Nat) (u : Str → Option Value) (nl : Addr) (b : Bool) (d : Int) (rest : List (Addr × Obj)),
      op = 31 → us[k.toNat]? = some (.int op t) → 0 ≤ k → k ≤ 1000 → (q, W.listOf us.toArray c2) ∈ rest →
      Fr g7 L7 h (kstB u [(Str.ofString "symbols", .ref q), (Str.ofString "table", .ref x9), (Str.ofString "history", .ref H9), (Str.ofString "names", .ref nl), (Str.ofString "turned", .bool b), (Str.ofString "deed", .int d td), (Str.ofString "k", .int k tkk)]) → News g7 L7 h rest →
      (∀ (h' : Heap) (tk' : Nat) (tkk' td' : Tok) (u' : Str → Option Value), Fr g7 L7 h' (kstB u' [(Str.ofString "symbols", .ref q), (Str.ofString "table", .ref x9), (Str.ofString "history", .ref H9), (Str.ofString "names", .ref nl), (Str.ofString "turned", .bool true), (Str.ofString "deed", .int d td'), (Str.ofString "k", .int (k + 1) tkk')]) → News g7 L7 h' rest → R { s with heap := h', toks := tk' }) → R { s with heap := h, toks := tk }) ?tT (fun turnT => ?_)
    case tT =>
      clear F9 N9
      intro k op t tkk td h tk u nl b d rest hop hk h0 hk9 hq8 F8 N8 IH
      dsimp only [kstB] at F8
      show WhlRest _ _ _ _ _ _ _ _ _ 1 _
      repeat' ((fail_if_success (with_reducible show WhlRest _ _ _ _ _ _ _ _ _ 0 _)); (first | (k_unfold; (try dsimp only)) | (k_end; wrow_close) | walk1 | (dsimp only; walk1)))
      rename_i F9 N9
      exact IH _ _ _ _ _ (fr_canon F9 (by kst_all)) N9
    refine with_rest (R := WhlRest _ _ _ _ _ _ _ _ _ 0) (fun R => ∀ (i : Nat) (st : Stm) (k : Int) (t tkk td tn1 tn2 : Tok) (h : Heap) (tk : Nat) (u : Str → Option Value) (nl : Addr) (cN : Nat) (refs : List Value) (cH : Nat) (vsI : List Value) (cI : Nat) (rest : List (Addr × Obj)),
      sts[i]? = some st → us[k.toNat]? = some (.int 12 t) → k + 1 = (offs sts (i + 1) : Nat) → i ≤ 100 →
      Fr g7 L7 h (kstB u [(Str.ofString "symbols", .ref q), (Str.ofString "table", .ref x9), (Str.ofString "history", .ref H9), (Str.ofString "names", .ref nl), (Str.ofString "turned", .bool st.tl), (Str.ofString "deed", .int st.op td), (Str.ofString "k", .int k tkk)]) → News g7 L7 h ((nl, W.listOf #[Value.str ⟨#[st.c1]⟩ tn1, Value.str ⟨#[st.c2]⟩ tn2] cN) :: (H9, W.listOf refs.toArray cH) :: (l9, W.listOf vsI.toArray cI) :: rest) →
      Rows rest vsI (rowsAt ps (sts.take i)) → vsI.length ≤ 100 + i → Paired (IsHist rest) refs (histAt ps sts i) →
      @Ne Nat nl H9 → @Ne Nat nl l9 → @Ne Nat H9 l9 → (∀ p ∈ rest, p.1 ≠ nl) → (∀ p ∈ rest, p.1 ≠ H9) → (∀ p ∈ rest, p.1 ≠ l9) →
      (x9, instObj 241 dx9) ∈ rest → (dx9, dictOf [⟨PyData.keyHash w.params (Str.ofString "_headers"), .str (Str.ofString "_headers") tk0, .ref l9⟩] 1) ∈ rest → (∀ e ∈ news, e ∈ rest) →
      (∀ (h : Heap) (tk : Nat) (u : Str → Option Value) (nl : Addr) (refs : List Value) (cH : Nat) (vsI : List Value) (cI : Nat) (rest : List (Addr × Obj)) (d : Int) (td tkk : Tok),
        Fr g7 L7 h (kstB u [(Str.ofString "symbols", .ref q), (Str.ofString "table", .ref x9), (Str.ofString "history", .ref H9), (Str.ofString "names", .ref nl), (Str.ofString "turned", .bool false), (Str.ofString "deed", .int d td), (Str.ofString "k", .int (offs sts (i + 1) : Nat) tkk)]) → News g7 L7 h ((nl, W.listOf #[] 0) :: (H9, W.listOf refs.toArray cH) :: (l9, W.listOf vsI.toArray cI) :: rest) →
        Rows rest vsI (rowsAt ps (sts.take (i + 1))) → vsI.length ≤ 100 + (i + 1) → Paired (IsHist rest) refs (histAt ps sts (i + 1)) →
        @Ne Nat nl H9 → @Ne Nat nl l9 → (∀ p ∈ rest, p.1 ≠ nl) → (∀ p ∈ rest, p.1 ≠ H9) → (∀ p ∈ rest, p.1 ≠ l9) →
        (x9, instObj 241 dx9) ∈ rest → (dx9, dictOf [⟨PyData.keyHash w.params (Str.ofString "_headers"), .str (Str.ofString "_headers") tk0, .ref l9⟩] 1) ∈ rest → (∀ e ∈ news, e ∈ rest) → R { s with heap := h, toks := tk }) → R { s with heap := h, toks := tk }) ?tC (fun turnC => ?_)
    case tC =>
      clear F9 N9
      intro i st k t tkk td tn1 tn2 h tk u nl cN refs cH vsI cI rest hst9 hk hke hi F8 N8 hR hV hH n1 n2 n3 m1 m2 m3 hx hdx hsub IH
      obtain ⟨hc1, hc2, hop⟩ := hst st (List.mem_of_getElem? hst9)
      have hq8 := hsub _ hq
      have hl8 := offs_le sts (i + 1)
      have h0 : 0 ≤ k := by have := offs_succ hst9; have : 4 ≤ (symsOf st).length := by (unfold symsOf; cases st.tl <;> simp)
                            omega
      have hk9 : k ≤ 1000 := by omega
      have hLR := isL_rowsAt (ps := ps) (sts := sts.take i) (fun r hr => (hps r hr).1) (fun q hq => hst q (List.mem_of_mem_take hq))
      have hV2 : vsI.length ≤ 1000 := by omega
      dsimp only [kstB] at F8
      show WhlRest _ _ _ _ _ _ _ _ _ 1 _
      repeat' ((fail_if_success (with_reducible show wpAny _ _ (exec (Stmt.If (Expr.Name _ _) _ _ _) _) _ _ _)); (first | (k_unfold; (try dsimp only)) | (k_end; wrow_close) | walk1 | (dsimp only; walk1)))
      rename_i r8 t18 t28 h18 tk18 lt8 h9 F9 N9
      clear lt8
      refine wpAny_mono (Q := fun fl s' => fl = Flow.next ∧ ∃ (h : Heap) (tk : Nat) (u : Str → Option Value) (r : Addr) (t1 t2 : Tok), s' = { s with heap := h, toks := tk } ∧ Fr g7 L7 h (kstB u [(Str.ofString "second", .ref r), (Str.ofString "symbols", .ref q), (Str.ofString "table", .ref x9), (Str.ofString "history", .ref H9), (Str.ofString "names", .ref nl), (Str.ofString "turned", .bool st.tl), (Str.ofString "deed", .int st.op td), (Str.ofString "k", .int k tkk)]) ∧
        News g7 L7 h ((r, tup [.int (secondOf (rowsAt ps (sts.take i)) st).1 t1, .int (secondOf (rowsAt ps (sts.take i)) st).2 t2]) :: (nl, W.listOf #[Value.str ⟨#[st.c1]⟩ tn1, Value.str ⟨#[st.c2]⟩ tn2] cN) :: (H9, W.listOf refs.toArray cH) :: (l9, W.listOf vsI.toArray cI) :: rest)) ?ja ?jb (fun _ _ e => e)
      case ja =>
        clear IH
        cases htl : st.tl with
        | false =>
          rw [htl] at F9
          have e8 : secondOf (rowsAt ps (sts.take i)) st = knownF (textsOf (rowsAt ps (sts.take i)) st.c2) := by unfold secondOf; rw [htl]; rfl
          rw [e8]
          repeat' ((fail_if_success (with_reducible show _ = Flow.next ∧ _)); (first | (k_unfold; (try dsimp only)) | (k_end; wrow_close) | walk1 | (dsimp only; walk1)))
          exact ⟨rfl, _, _, _, r8, _, _, rfl, fr_canon (by k_asm) (by kst_all), by k_asm⟩
        | true =>
          rw [htl] at F9
          have e8 : secondOf (rowsAt ps (sts.take i)) st = turnI (knownF (textsOf (rowsAt ps (sts.take i)) st.c2)) := by unfold secondOf; rw [htl]; rfl
          rw [e8]
          repeat' ((fail_if_success (with_reducible show _ = Flow.next ∧ _)); (first | (k_unfold; (try dsimp only)) | (k_end; wrow_close) | walk1 | (dsimp only; walk1)))
          rename_i r9 t19 t29 h19 tk19 l19 h29 F19 N19
          refine ⟨rfl, _, _, _, r9, t19, t29, rfl, fr_canon F19 (by kst_all), ?_⟩
          exact news_drop N19 (by (repeat' (first | (refine fcons ?_ ?_) | (intro p9 hp9; repeat (first | exact hp9 | refine List.mem_cons_of_mem _ ?_)) | k_mem)))
      case jb =>
        clear F9 N9
        rintro fl s' ⟨rfl, h, tk, u, r, t1, t2, rfl, F9, N9⟩
        dsimp only [kstB] at F9
        dsimp only
        repeat' ((fail_if_success (with_reducible show wpAny _ _ (call (Value.ref 156) _) _ _ _)); (first | (k_unfold; (try dsimp only)) | (k_end; wrow_close) | walk1 | (dsimp only; walk1)))
        rename_i F9 N9
        have N8' := news_drop (Y := (l9, W.listOf vsI.toArray cI) :: (H9, W.listOf refs.toArray cH) :: rest) N9 (by (repeat' (first | (refine fcons ?_ ?_) | (intro p9 hp9; repeat (first | exact hp9 | refine List.mem_cons_of_mem _ ?_)) | k_mem)))
        clear N9
        have hnH : ∀ p ∈ (H9, W.listOf refs.toArray cH) :: rest, p.1 ≠ l9 := (fcons n3 m3)
        have hV3 : vsI.length ≤ 999 := by omega
        k_dflt (refine' set_call ?k1 ?k2 ?k3 ?k4 ?k5 ?k6 ?k7 ?k8 ?k9 ?k10 ?k11 ?k12 ?k13 ?k14 ?k15 ?k16 ?_; (case k1 => k_asm); (case k2 => k_asm); (case k3 => k_asm); (case k4 => k_asm); (case k5 => first | exact rfl | assumption); (case k6 => ktr_room); (case k7 => ktr_units); (case k8 => assumption); (case k9 => exact okS_iterT _ _ _); (case k10 => exact hnH); (case k11 => exact N8'); (case k12 => k_mem); (case k13 => k_mem); (case k14 => exact Rows.mono hR (fun p hp => List.mem_cons_of_mem _ hp)); (case k15 => assumption); (case k16 => assumption))
        intro vs' r' c' ta tb h' tk' F' N' hr' hl' l1 l2
        k_lt l2
        have hV4 : (vs' ++ [Value.ref r']).length ≤ 1000 := by rw [List.length_append, List.length_singleton]; omega
        have hRf : refs.length ≤ 100 := by rw [Hists.length hH]; simp only [histAt, List.length_map, List.length_range]; omega
        clear F9 N8'
        (try dsimp only)
        repeat' ((fail_if_success (with_reducible show WhlRest _ _ _ _ _ _ _ _ _ 0 _)); (first | (k_unfold; (try dsimp only)) | (k_end; wrow_close) | walk1 | (dsimp only; walk1)))
        rename_i D6 h6a tk6a lD hb6 tkb6 nl6 hc6 lN hd6 he6 hf6 F6 N6
        rw [hke] at F6
        rw [List.push_toArray] at N6
        have l1' : @LT.lt Nat _ l9 r' := l1
        have e6 := rowsAt_snoc (ps := ps) hst9
        have hR6 : Rows ((D6, W.listOf (vs' ++ [Value.ref r']).toArray 0) :: (r', tup [.str ⟨#[st.c1]⟩ ta, .str (newText (rowsAt ps (sts.take i)) st) tb]) :: rest) (vs' ++ [Value.ref r']) (rowsAt ps (sts.take (i + 1))) := by
          rw [e6]; unfold stepRun
          refine Rows.snoc (t1 := ta) (t2 := tb) (Rows.mono (Rows.tail hr') (by (repeat' (first | (refine fcons ?_ ?_) | (intro p9 hp9; repeat (first | exact hp9 | refine List.mem_cons_of_mem _ ?_)) | k_mem)))) (List.mem_cons_of_mem _ List.mem_cons_self)
        refine IH _ _ _ nl6 (refs ++ [Value.ref D6]) (cH + 1) (vs' ++ [Value.ref r']) c' ((D6, W.listOf (vs' ++ [Value.ref r']).toArray 0) :: (r', tup [.str ⟨#[st.c1]⟩ ta, .str (newText (rowsAt ps (sts.take i)) st) tb]) :: rest) st.op _ _ (fr_canon F6 (by kst_all)) ?_ hR6 ?_ ?_ ?_ ?_ ?_ ?_ ?_ ?_ ?_ ?_
        · unfold newText textsOf; exact news_drop N6 (by (repeat' (first | (refine fcons ?_ ?_) | (intro p9 hp9; repeat (first | exact hp9 | refine List.mem_cons_of_mem _ ?_)) | k_mem)))
        · rw [List.length_append, List.length_singleton]; omega
        · rw [histAt_succ]
          exact Paired.snoc (Hists.mono hH (by (repeat' (first | (refine fcons ?_ ?_) | (intro p9 hp9; repeat (first | exact hp9 | refine List.mem_cons_of_mem _ ?_)) | k_mem)))) ⟨D6, vs' ++ [Value.ref r'], 0, rfl, List.mem_cons_self, hR6⟩
        · omega
        · omega
        · exact (fcons (by (show @Ne Nat _ _; first | k_ne | omega)) ((fcons (by (show @Ne Nat _ _; first | k_ne | omega)) (fun p hp => Nat.ne_of_lt (kst_ltOf lN.2.2.2.2 p hp)))))
        · exact (fcons (by (show @Ne Nat _ _; first | k_ne | omega)) ((fcons (by (show @Ne Nat _ _; first | k_ne | omega)) m2)))
        · exact (fcons (by (show @Ne Nat _ _; first | k_ne | omega)) ((fcons (by (show @Ne Nat _ _; first | k_ne | omega)) m3)))
        · exact List.mem_cons_of_mem _ (List.mem_cons_of_mem _ hx)
        · exact List.mem_cons_of_mem _ (List.mem_cons_of_mem _ hdx)
        · exact fun e he => List.mem_cons_of_mem _ (List.mem_cons_of_mem _ (hsub e he))
    refine whl_induct sts.length (RunB w news s g7 L7 q x9 H9 l9 dx9 tk0 ps sts) ?hstep ?hend 0 (Nat.zero_le _) _ ?h0
    case h0 =>
      refine ⟨_, _, _, nl9, [], 0, vsI, cI, rest, 0, _, _, rfl, fr_canon F9 (by kst_all), N9, hR, ?_, .nil, ?_, ?_, ?_, ?_, ?_, hne, hx, hdx, hsub⟩
      · have := Rows.length hR
        omega
      · omega
      · omega
      · omega
      · exact fun p hp => Nat.ne_of_lt (kst_ltOf ln.2.2 p hp)
      · exact fun p hp => Nat.ne_of_lt (kst_ltOf lH.2 p hp)
    case hend =>
      rintro s' ⟨h, tk, u, nl, refs, cH, vsI, cI, rest, d, td, tkk, rfl, F8, N8, hR, hV, hH, n1, n2, n3, m1, m2, m3, hx, hdx, hsub⟩
      clear F9 N9
      have hq8 := hsub _ hq
      have hl8 := offs_le sts sts.length
      obtain ⟨t0, y0⟩ := sym_end hus
      have y0' : us[((offs sts sts.length : Nat) : Int).toNat]? = some (.int 0 t0) := by rw [Int.toNat_natCast]; exact y0
      dsimp only [kstB] at F8
      k_steps
      exact ret H9 refs cH ((l9, W.listOf vsI.toArray cI) :: rest) _ _ (by k_asm) (news_drop (by k_asm) (by (repeat' (first | (refine fcons ?_ ?_) | (intro p9 hp9; repeat (first | exact hp9 | refine List.mem_cons_of_mem _ ?_)) | k_mem)))) (fun e he => List.mem_cons_of_mem _ (hsub e he)) (Hists.mono hH (by (repeat' (first | (refine fcons ?_ ?_) | (intro p9 hp9; repeat (first | exact hp9 | refine List.mem_cons_of_mem _ ?_)) | k_mem)))) ((fcons (by (show @Ne Nat _ _; first | k_ne | omega)) m2))
    case hstep =>
      rintro i s' hi ⟨h, tk, u, nl, refs, cH, vsI, cI, rest, d, td, tkk, rfl, F8, N8, hR, hV, hH, n1, n2, n3, m1, m2, m3, hx, hdx, hsub⟩ IH
      clear F9 N9
      obtain ⟨st, hst9⟩ : ∃ st, sts[i]? = some st := ⟨sts[i], by simp [hi]⟩
      obtain ⟨hc1, hc2, hop⟩ := hst st (List.mem_of_getElem? hst9)
      have hq8 : (q, W.listOf us.toArray c2) ∈ (H9, W.listOf refs.toArray cH) :: (l9, W.listOf vsI.toArray cI) :: rest := List.mem_cons_of_mem _ (List.mem_cons_of_mem _ (hsub _ hq))
      have hl8 := offs_le sts i
      have mn : ∀ p ∈ (H9, W.listOf refs.toArray cH) :: (l9, W.listOf vsI.toArray cI) :: rest, p.1 ≠ nl := (fcons (Ne.symm n1) ((fcons (Ne.symm n2) m1)))
      have fin : ∀ (k : Int) (t tkk td tn1 tn2 : Tok) (h : Heap) (tk : Nat) (u : Str → Option Value) (b : Bool), b = st.tl → us[k.toNat]? = some (.int 12 t) → k + 1 = (offs sts (i + 1) : Nat) →
          Fr g7 L7 h (kstB u [(Str.ofString "symbols", .ref q), (Str.ofString "table", .ref x9), (Str.ofString "history", .ref H9), (Str.ofString "names", .ref nl), (Str.ofString "turned", .bool b), (Str.ofString "deed", .int st.op td), (Str.ofString "k", .int k tkk)]) → News g7 L7 h ((nl, W.listOf #[Value.str ⟨#[st.c1]⟩ tn1, Value.str ⟨#[st.c2]⟩ tn2] (0 + 1 + 1)) :: (H9, W.listOf refs.toArray cH) :: (l9, W.listOf vsI.toArray cI) :: rest) → _ :=
        fun k t tkk td tn1 tn2 h tk u b hb y hke F N => turnC i st k t tkk td tn1 tn2 h tk u nl (0 + 1 + 1) refs cH vsI cI rest hst9 y hke (by omega) (by rw [← hb]; exact F) N hR hV hH n1 n2 n3 m1 m2 m3 hx hdx hsub
          (fun h tk u nl refs cH vsI cI rest d td tkk F N a1 a2 a3 a4 a5 a6 a7 a8 a9 a10 a11 => IH _ ⟨h, tk, u, nl, refs, cH, vsI, cI, rest, d, td, tkk, rfl, F, N, a1, a2, a3, a4, a5, n3, a6, a7, a8, a9, a10, a11⟩)
      cases htl : st.tl with
      | false =>
        obtain ⟨k9, t0, t1, t2, t3, hk9, y0, y1, y2, y3, hke⟩ := sym_four hus hst9 htl
        rw [← hk9] at F8
        refine turnL st.c1 k9 t0 tkk td h tk u nl [] 0 false d _ hc1 y0 (by omega) (by omega) (by decide) hq8 mn F8 N8 (fun h1 tk1 kk1 tn1 u1 F1 N1 => ?_)
        refine turnO (k9 + 1) st.op t1 kk1 td h1 tk1 u1 nl false d _ hop y1 (by omega) (by omega) (List.mem_cons_of_mem _ hq8) F1 N1 (fun h2 tk2 kk2 td2 u2 F2 N2 => ?_)
        refine turnL st.c2 (k9 + 1 + 1) t2 kk2 td2 h2 tk2 u2 nl [Value.str ⟨#[st.c1]⟩ tn1] (0 + 1) false st.op _ hc2 y2 (by omega) (by omega) (by show 1 ≤ 10; decide) hq8 mn F2 N2 (fun h3 tk3 kk3 tn3 u3 F3 N3 => ?_)
        exact fin (k9 + 1 + 1 + 1) t3 kk3 td2 tn1 tn3 h3 tk3 u3 false htl.symm y3 hke F3 N3
      | true =>
        obtain ⟨k9, t0, t1, t4, t2, t3, hk9, y0, y1, y4, y2, y3, hke⟩ := sym_five hus hst9 htl
        rw [← hk9] at F8
        refine turnL st.c1 k9 t0 tkk td h tk u nl [] 0 false d _ hc1 y0 (by omega) (by omega) (by decide) hq8 mn F8 N8 (fun h1 tk1 kk1 tn1 u1 F1 N1 => ?_)
        refine turnO (k9 + 1) st.op t1 kk1 td h1 tk1 u1 nl false d _ hop y1 (by omega) (by omega) (List.mem_cons_of_mem _ hq8) F1 N1 (fun h2 tk2 kk2 td2 u2 F2 N2 => ?_)
        refine turnT (k9 + 1 + 1) 31 t4 kk2 td2 h2 tk2 u2 nl false st.op _ rfl y4 (by omega) (by omega) (List.mem_cons_of_mem _ hq8) F2 N2 (fun h4 tk4 kk4 td4 u4 F4 N4 => ?_)
        refine turnL st.c2 (k9 + 1 + 1 + 1) t2 kk4 td4 h4 tk4 u4 nl [Value.str ⟨#[st.c1]⟩ tn1] (0 + 1) true st.op _ hc2 y2 (by omega) (by omega) (by show 1 ≤ 10; decide) hq8 mn F4 N4 (fun h3 tk3 kk3 tn3 u3 F3 N3 => ?_)
        exact fin (k9 + 1 + 1 + 1 + 1) t3 kk3 td4 tn1 tn3 h3 tk3 u3 true htl.symm y3 hke F3 N3
end
section
open PyProof.V PySem.Spec PySem.Calls PySem.SeqAt
/-- what is read of a row, of the rows, of a history -/
noncomputable def rowD (r : Nat × Str) : PyData := .tuple [.str ⟨#[r.1]⟩, .str r.2]
noncomputable def rowsD (ps : List (Nat × Str)) : PyData := .list (ps.map rowD)
noncomputable def histD (hs : List (List (Nat × Str))) : PyData := .list (hs.map rowsD)
section
variable {h₀ h : Heap} {L : Addr} {nx : List (Addr × Obj)}
theorem reads_row (N : News h₀ L h nx) {v : Value} {r : Nat × Str} (hr : IsRow nx v r) : ∃ as, Reads h v (rowD r) as := by
  obtain ⟨a, t1, t2, rfl, m⟩ := hr
  exact ⟨_, reads_tuple_at (N.get m) rfl rfl (.cons (.str _ _) (.cons (.str _ _) .nil))⟩
theorem reads_rows (N : News h₀ L h nx) {vs : List Value} {ps : List (Nat × Str)} (R : Rows nx vs ps) : ∃ as, ReadsAll h vs (ps.map rowD) as := by
  induction R with
  | nil => exact ⟨_, .nil⟩
  | cons hr _ ih =>
    obtain ⟨as, h1⟩ := reads_row N hr
    obtain ⟨bs, h2⟩ := ih
    exact ⟨_, .cons h1 h2⟩
theorem reads_hist (N : News h₀ L h nx) {v : Value} {ps : List (Nat × Str)} (hr : IsHist nx v ps) : ∃ as, Reads h v (rowsD ps) as := by
  obtain ⟨a, vs, c, rfl, m, R⟩ := hr
  obtain ⟨as, h1⟩ := reads_rows N R
  exact ⟨_, reads_list_at (N.get m) rfl rfl (by simpa using h1)⟩
theorem reads_hists (N : News h₀ L h nx) {vs : List Value} {hs : List (List (Nat × Str))} (R : Paired (IsHist nx) vs hs) : ∃ as, ReadsAll h vs (hs.map rowsD) as := by
  induction R with
  | nil => exact ⟨_, .nil⟩
  | cons hr _ ih =>
    obtain ⟨as, h1⟩ := reads_hist N hr
    obtain ⟨bs, h2⟩ := ih
    exact ⟨_, .cons h1 h2⟩
theorem reads_whole (N : News h₀ L h nx) {H : Addr} {refs : List Value} {c : Nat} {hs : List (List (Nat × Str))} (m : (H, W.listOf refs.toArray c) ∈ nx) (R : Paired (IsHist nx) refs hs) : ∃ as, Reads h (.ref H) (histD hs) as := by
  obtain ⟨as, h1⟩ := reads_hists N R
  exact ⟨_, reads_list_at (N.get m) rfl rfl (by simpa using h1)⟩
end
/-- the rows that may be laid -/
noncomputable def okRows (ps : List (Nat × Str)) : Prop := ∀ r ∈ ps, isL r.1 ∧ signs8 r.2
theorem lay_row {r : Nat × Str} (h : isL r.1 ∧ signs8 r.2) : (rowD r).canLay0 = true ∧ (rowD r).depth = 1 := by
  have h1 : r.1 < 1114112 := Nat.lt_trans (isL_lt h.1) (by decide)
  have h2 : ∀ i (hi : i < r.2.cps.size), r.2.cps[i] < 1114112 := fun i hi => by
    have := h.2.2 r.2.cps[i] (by simp)
    omega
  constructor
  · simp [rowD, PyData.canLay0, PyData.canLayAll0, PyData.strOk, h1]
    exact h2
  · simp [rowD, PyData.depth, PyData.depthAll]
theorem lay_rows : ∀ {ps : List (Nat × Str)}, okRows ps → PyData.canLayAll0 (ps.map rowD) = true ∧ PyData.depthAll (ps.map rowD) ≤ 1
  | [], _ => ⟨rfl, by simp [PyData.depthAll]⟩
  | r :: ps, h => by
    obtain ⟨a, b⟩ := lay_row (h r List.mem_cons_self)
    obtain ⟨c, d⟩ := lay_rows (ps := ps) fun q hq => h q (List.mem_cons_of_mem _ hq)
    refine ⟨by simp [PyData.canLayAll0, a, c], ?_⟩
    simp only [List.map_cons, PyData.depthAll]
    omega
theorem lay_hist : ∀ {hs : List (List (Nat × Str))}, (∀ ps ∈ hs, okRows ps) → PyData.canLayAll0 (hs.map rowsD) = true ∧ PyData.depthAll (hs.map rowsD) ≤ 2
  | [], _ => ⟨rfl, by simp [PyData.depthAll]⟩
  | ps :: hs, h => by
    obtain ⟨a, b⟩ := lay_rows (h ps List.mem_cons_self)
    obtain ⟨c, d⟩ := lay_hist (hs := hs) fun q hq => h q (List.mem_cons_of_mem _ hq)
    refine ⟨by simp [PyData.canLayAll0, rowsD, PyData.canLay0, a, c], ?_⟩
    simp only [List.map_cons, PyData.depthAll, rowsD, PyData.depth] at *
    omega
theorem shaped_hist {hs : List (List (Nat × Str))} (h : ∀ ps ∈ hs, okRows ps) : shaped (histD hs) = true := by
  obtain ⟨a, b⟩ := lay_hist h
  unfold shaped histD
  rw [Bool.and_eq_true]
  refine ⟨by simpa [PyData.canLay0] using a, decide_eq_true ?_⟩
  simp only [PyData.depth]
  omega
theorem rule_ok : ∀ {sts : List Stm} {c : RuleSt}, okRows c.2 → (∀ st ∈ sts, lowStm st) → okRows (ruleAt c sts).2
  | [], _, h, _ => h
  | st :: sts, c, h, hs => by
    refine rule_ok (sts := sts) (c := stepRule c st) (fun r hr => ?_) fun q hq => hs q (List.mem_cons_of_mem _ hq)
    unfold stepRule at hr
    rcases List.mem_append.mp hr with q | q
    · exact h r (List.mem_filter.mp q).1
    · rw [List.mem_singleton.mp q]
      exact ⟨(hs st List.mem_cons_self).1.1, hand_signs _ _ _⟩
theorem hist_ok {sts : List Stm} {c : RuleSt} (h : okRows c.2) (hs : ∀ st ∈ sts, lowStm st) (n : Nat) : ∀ ps ∈ histRule c sts n, okRows ps := by
  intro ps hp
  unfold histRule at hp
  obtain ⟨j, _, rfl⟩ := List.mem_map.mp hp
  exact rule_ok h fun st hst => hs st (List.mem_of_mem_take hst)
/-- the two histories compared -/
theorem eq_hists {prog : Program} {w : World} {A : Around} {E : Value → Shared → Prop} {s : Shared} {h₀ : Heap} {L : Addr} {nx ny : List (Addr × Obj)} {H G : Addr} {us vs : List Value} {c d : Nat} {hs : List (List (Nat × Str))} {Q : Value → Shared → Prop}
    (N : News h₀ L s.heap nx) (M : News h₀ L s.heap ny) (m1 : (H, W.listOf us.toArray c) ∈ nx) (r1 : Paired (IsHist nx) us hs) (m2 : (G, W.listOf vs.toArray d) ∈ ny) (r2 : Paired (IsHist ny) vs hs) (ho : ∀ ps ∈ hs, okRows ps) (hu : A.units + 64 < cLine)
    (h : Q (.bool true) s) : wpAny (model prog w) A (compareOp .Eq (.ref H) (.ref G)) Q E s := by
  obtain ⟨as, ra⟩ := reads_whole N m1 r1
  obtain ⟨bs, rb⟩ := reads_whole M m2 r2
  have sh := shaped_hist ho
  refine eq_dataH ra rb sh sh hu ?_
  rw [PySem.SeqAt.eqv_refl _ (canLay_of_shaped sh)]
  exact h
end
section
open PyProof.V PySem.Spec PySem.Calls
/-- the rows that the law begins with -/
noncomputable def begunL (x0 y0 x1 y1 x2 y2 : Str) : List (Nat × Str) := [(120, x0), (88, y0), (121, x1), (89, y1), (122, x2), (90, y2)]
theorem codes_len : ∀ sts : List Stm, (sts.flatMap codesOf).length ≤ 6 * sts.length
  | [] => Nat.le_refl _
  | st :: sts => by
    have ih := codes_len sts
    rw [List.flatMap_cons, List.length_append, List.length_cons]
    have : (codesOf st).length ≤ 6 := by unfold codesOf; cases st.tl <;> simp
    omega
theorem syms_len : ∀ sts : List Stm, (sts.flatMap symsOf).length ≤ 5 * sts.length
  | [] => Nat.le_refl _
  | st :: sts => by
    have ih := syms_len sts
    rw [List.flatMap_cons, List.length_append, List.length_cons]
    have := symsOf_le st
    omega
theorem begun_ok {x0 y0 x1 y1 x2 y2 : Str} (h0 : signs8 x0) (g0 : signs8 y0) (h1 : signs8 x1) (g1 : signs8 y1) (h2 : signs8 x2) (g2 : signs8 y2) : ∀ r ∈ begunL x0 y0 x1 y1 x2 y2, isL r.1 ∧ okS r.2 ∧ r.2.length = 8 := by
  have go : ∀ x : Str, signs8 x → okS x ∧ x.length = 8 := fun x h => ⟨fun c hc => by rcases h.2 c hc with q | q | q; exact .inl q; exact .inr (.inl q); exact .inr (.inr (.inl q)), h.1⟩
  exact (fcons (⟨.inr (.inr (.inr (.inl rfl))), go _ h0⟩) ((fcons (⟨.inl rfl, go _ g0⟩) ((fcons (⟨.inr (.inr (.inr (.inr (.inl rfl)))), go _ h1⟩) ((fcons (⟨.inr (.inl rfl), go _ g1⟩) ((fcons (⟨.inr (.inr (.inr (.inr (.inr rfl)))), go _ h2⟩) ((fcons (⟨.inr (.inr (.inl rfl)), go _ g2⟩) (List.forall_mem_nil _))))))))))))
theorem begun_sg {x0 y0 x1 y1 x2 y2 : Str} (h0 : signs8 x0) (g0 : signs8 y0) (h1 : signs8 x1) (g1 : signs8 y1) (h2 : signs8 x2) (g2 : signs8 y2) : ∀ r ∈ begunL x0 y0 x1 y1 x2 y2, signs8 r.2 :=
  (fcons h0 ((fcons g0 ((fcons h1 ((fcons g1 ((fcons h2 ((fcons g2 (List.forall_mem_nil _))))))))))))
/-- ahead of a turn -/
inductive LawJ (base : List (Addr × Obj)) (bl gl sa : Addr) (ps : List (Nat × Str)) (i : Nat) (m : Str → Option Value) (nx : List (Addr × Obj)) : Prop
  | mk (u : Str → Option Value) (bs : List Value) (cb : Nat) (rest : List (Addr × Obj)) (em : m = kstB u [(Str.ofString "begun", .ref bl), (Str.ofString "given", .ref gl), (Str.ofString "script", .ref sa)])
    (en : nx = (bl, W.listOf bs.toArray cb) :: rest) (hrB : Rows rest bs (ps.take (2 * i))) (hlB : bs.length = 2 * i) (hsub : ∀ e ∈ base, e ∈ rest) (hne : ∀ q ∈ rest, q.1 ≠ bl) : LawJ base bl gl sa ps i m nx

local macro_rules | `(tactic| walk_at "subscriptTail") => `(tactic| (k_here; (with_reducible show wpAny _ _ (subscriptTail _ _ (Value.ref _) (Value.int _ _)) _ _ _); k_dflt (refine' item_at ?N ?m ?a ?b ?x ?_ ?s; (case N => k_asm); (case m => k_mem); (case a => first | decide | omega); (case b => first | decide | omega); (case x => first | exact rfl | assumption); (case s => exact rfl))))
theorem law_walk : PySem.Challenge.rw_we0031_01.Holds := hd (by
  k_with_none
  k_with "call ref" => (k_here; k_dflt (refine' numbers_call ?k1 ?k2 ?k3 ?k4 ?k5 ?k6 ?k7 ?k8 ?k9 ?k10 ?k11 ?_; (case k1 | k2 | k3 | k4 | k5 => k_asm); (case k6 => first | exact rfl | assumption); (case k7 => ktr_room); (case k8 => ktr_units); (case k9 | k10 => assumption); (case k11 => omega); k_whole); intro _ _ _ _ _ _ _ _ _ _ _ l1'; (try k_lt l1'); revert l1'; intro _; (try k_sweep))
  k_with "call ref" => (k_here; k_dflt (refine' facts_call ?k1 ?k2 ?k3 ?k4 ?k5 ?k6 ?k7 ?k8 ?_; (case k1 | k2 | k3 | k4 | k5 => k_asm); (case k6 => first | exact rfl | assumption); (case k7 => ktr_room); (case k8 => ktr_units); k_whole); intro _ _ _ _ _ _ _ _ _ _ _ _ _ l1'; (try k_lt l1'); revert l1'; intro _; (try k_sweep))
  k_with "call ref" => (k_here; k_dflt (refine' statement_call ?k1 ?k2 ?k3 ?k4 ?k5 ?k6 ?k7 ?k8 ?_; (case k1 | k2 | k3 | k4 | k5 => k_asm); (case k6 => first | exact rfl | assumption); (case k7 => ktr_room); (case k8 => ktr_units); k_whole); intro _ _ _ _ _ _ _;  (try k_sweep))
  k_go0
  all_goals try k_fold
  rename_i ww s0 s1 mgl mbl GG YY fad fo pm doc hfo hgens KX XX VV GL TT BB TE TW w10 w9 MM w8 w7 hcd ns hs hlay0 hL1 hr1 hl2 w5 w4 sa us w1a hL ra w1b r0 hI hr hcond hc2 K0 hD h1 tk1 F wo right N0 X0
  have hwo : wo.data = Data.cell none := right
  clear right X0 hD
  have F8 := fr_canon F (ps := [(Str.ofString "script", .ref sa)]) (by kst_all)
  clear F
  revert F8
  generalize hmm : (bindL _ _ _ : Str → Option Value) = u7
  clear hmm
  intro F8
  repeat' ((fail_if_success (with_reducible show wpAny _ _ (pyIter _) _ _ _)); (first | (k_unfold; (try dsimp only)) | (k_end; wrow_close) | walk1 | (dsimp only; walk1)))
  rename_i Dn vsn xsn cn_ hA1 tkA1 In h8n hxn ltn hA2 oc dc tkA2 tA2 f0 x0 y0 tx0 ty0 c0 hA3 tkA3 hx0 hy0 ha0 lt0 tA3 f1 x1 y1 tx1 ty1 c1 hA4 tkA4 hx1 hy1 ha1 lt1 tA4 f2 x2 y2 tx2 ty2 c2 hA5 tkA5 hx2 hy2 ha2 lt2 gl hA6 ltg hA7 tkA7 bl hA8 ltb hA9 FA NA hB tkB tB1 tB2 tB3 hR F10 N10 hkeep
  clear FA NA F8
  obtain ⟨base, hbase⟩ : ∃ b, [(gl, W.listOf #[Value.ref f0, Value.ref f1, Value.ref f2] 0), (f2, W.listOf #[Value.str x2 tx2, Value.str y2 ty2] c2), (f1, W.listOf #[Value.str x1 tx1, Value.str y1 ty1] c1), (f0, W.listOf #[Value.str x0 tx0, Value.str y0 ty0] c0), (Dn, W.listOf vsn.toArray cn_), (s1.heap.objs.size + 1, oc)] = b := ⟨_, rfl⟩
  have mg : (gl, W.listOf #[Value.ref f0, Value.ref f1, Value.ref f2] 0) ∈ base := by rw [← hbase]; exact List.mem_cons_self
  have m2 : (f2, W.listOf #[Value.str x2 tx2, Value.str y2 ty2] c2) ∈ base := by rw [← hbase]; exact List.mem_cons_of_mem _ List.mem_cons_self
  have m1 : (f1, W.listOf #[Value.str x1 tx1, Value.str y1 ty1] c1) ∈ base := by rw [← hbase]; exact List.mem_cons_of_mem _ (List.mem_cons_of_mem _ List.mem_cons_self)
  have m0 : (f0, W.listOf #[Value.str x0 tx0, Value.str y0 ty0] c0) ∈ base := by rw [← hbase]; exact List.mem_cons_of_mem _ (List.mem_cons_of_mem _ (List.mem_cons_of_mem _ List.mem_cons_self))
  have mD : (Dn, W.listOf vsn.toArray cn_) ∈ base := by rw [← hbase]; exact List.mem_cons_of_mem _ (List.mem_cons_of_mem _ (List.mem_cons_of_mem _ (List.mem_cons_of_mem _ List.mem_cons_self)))
  have mC : (s1.heap.objs.size + 1, oc) ∈ base := by rw [← hbase]; exact List.mem_cons_of_mem _ (List.mem_cons_of_mem _ (List.mem_cons_of_mem _ (List.mem_cons_of_mem _ (List.mem_cons_of_mem _ List.mem_cons_self))))
  have hbl : ∀ q ∈ base, @LT.lt Nat _ q.1 bl := by
    rw [← hbase]
    obtain ⟨e1, e2, e3, e4, e5, e6⟩ := ltb
    exact (fcons e1 ((fcons e2 ((fcons e3 ((fcons e4 ((fcons e5 ((fcons e6 (List.forall_mem_nil _))))))))))))
  rw [hbase] at N10
  clear ltb ltg lt2 lt1 lt0 ltn
  k_dflt (refine for_range (n := 3) (LawJ base bl gl sa (begunL x0 y0 x1 y1 x2 y2)) (by rfl) hR (by decide) (by rfl) F10 N10 ?j0 ?turn ?done)
  case j0 => exact ⟨_, [], 0, base, kstB_self (by kst_all), rfl, .nil, rfl, fun e he => he, fun q hq => Nat.ne_of_lt (hbl q hq)⟩
  case turn =>
    clear F10 N10
    rintro i t9 m₁ nx h tk I0 oI0 hi8 ⟨u, bs, cb, rest, rfl, rfl, hrB, hlB, hsub, hne⟩ F9 N9 hI0
    have nI : @Ne Nat I0 bl := fun e => hI0 _ List.mem_cons_self e.symm
    have mg' := hsub _ mg
    have m0' := hsub _ m0
    have m1' := hsub _ m1
    have m2' := hsub _ m2
    have hb9 : bs.length ≤ 900 := by omega
    have N11 := news_drop (Y := (bl, W.listOf bs.toArray cb) :: (I0, oI0) :: rest) N9 (by (repeat' (first | (refine fcons ?_ ?_) | (intro p9 hp9; repeat (first | exact hp9 | refine List.mem_cons_of_mem _ ?_)) | k_mem)))
    clear N9
    obtain ⟨k, hk⟩ : ∃ k : Int, k = (i : Int) := ⟨_, rfl⟩
    have hkl : 0 ≤ k := by omega
    have hkh : k < 3 := by omega
    rw [show (0 : Int) + (i : Int) * 1 = k from by omega] at F9
    obtain ⟨fi, xi, yi, ci, di, cc, tx, ty, hus, hmem, hci, hdi, htk⟩ : ∃ fi xi yi ci di cc tx ty, [Value.ref f0, Value.ref f1, Value.ref f2][k.toNat]? = some (Value.ref fi) ∧ (fi, W.listOf #[Value.str xi tx, Value.str yi ty] cc) ∈ rest ∧
        Txt.item (Str.ofString "xyz") k = ⟨#[ci]⟩ ∧ Txt.item (Str.ofString "XYZ") k = ⟨#[di]⟩ ∧ (begunL x0 y0 x1 y1 x2 y2).take (2 * (i + 1)) = (begunL x0 y0 x1 y1 x2 y2).take (2 * i) ++ [(ci, xi)] ++ [(di, yi)] := by
      have hcase : i = 0 ∨ i = 1 ∨ i = 2 := by omega
      rcases hcase with rfl | rfl | rfl <;> subst hk
      · exact ⟨f0, x0, y0, 120, 88, c0, tx0, ty0, rfl, m0', by decide, by decide, rfl⟩
      · exact ⟨f1, x1, y1, 121, 89, c1, tx1, ty1, rfl, m1', by decide, by decide, rfl⟩
      · exact ⟨f2, x2, y2, 122, 90, c2, tx2, ty2, rfl, m2', by decide, by decide, rfl⟩
    clear m0' m1' m2'
    dsimp only [kstB] at F9
    k_steps
    rename_i kx1 Da hh1 lta hh2 tkx kx2 Db hh3 ltb2 hh4 F12 N12
    rw [List.push_toArray, List.push_toArray, hci, hdi] at N12
    have la1 : @LT.lt Nat _ bl Da := lta.1
    have la2 : @LT.lt Nat _ I0 Da := lta.2.1
    have lb1 : @LT.lt Nat _ bl Db := ltb2.2.1
    have lb2 : @LT.lt Nat _ I0 Db := ltb2.2.2.1
    refine ⟨_, _, _, (bl, W.listOf (bs ++ [Value.ref Da] ++ [Value.ref Db]).toArray (cb + 1 + 1)) :: (Db, tup [Value.str ⟨#[di]⟩ _, Value.str yi _]) :: (Da, tup [Value.str ⟨#[ci]⟩ _, Value.str xi _]) :: rest, rfl, F12, news_drop N12 (by (repeat' (first | (refine fcons ?_ ?_) | (intro p9 hp9; repeat (first | exact hp9 | refine List.mem_cons_of_mem _ ?_)) | k_mem))), ?_, ⟨_, bs ++ [Value.ref Da] ++ [Value.ref Db], cb + 1 + 1, (Db, tup [Value.str ⟨#[di]⟩ _, Value.str yi _]) :: (Da, tup [Value.str ⟨#[ci]⟩ _, Value.str xi _]) :: rest, kstB_self (by kst_all), rfl, ?_, ?_, ?_, ?_⟩⟩
    · exact (fcons (Ne.symm nI) ((fcons (Nat.ne_of_gt lb2) ((fcons (Nat.ne_of_gt la2) (fun q hq => hI0 q (List.mem_cons_of_mem _ hq)))))))
    · rw [htk]
      exact Rows.snoc (Rows.snoc (Rows.mono hrB (by (repeat' (first | (refine fcons ?_ ?_) | (intro p9 hp9; repeat (first | exact hp9 | refine List.mem_cons_of_mem _ ?_)) | k_mem)))) (List.mem_cons_of_mem _ List.mem_cons_self)) List.mem_cons_self
    · rw [List.length_append, List.length_append, hlB]; simp only [List.length_singleton]; omega
    · exact fun e he => List.mem_cons_of_mem _ (List.mem_cons_of_mem _ (hsub e he))
    · exact (fcons (Nat.ne_of_gt lb1) ((fcons (Nat.ne_of_gt la1) hne)))
  case done =>
    clear F10 N10
    rintro m₁ nx h tk ⟨u, bs, cb, rest, rfl, rfl, hrB, hlB, hsub, hne⟩ F9 N9
    replace hrB : Rows rest bs (begunL x0 y0 x1 y1 x2 y2) := hrB
    have mg' := hsub _ mg
    have m0' := hsub _ m0
    have m1' := hsub _ m1
    have m2' := hsub _ m2
    have mD' := hsub _ mD
    have mC' := hsub _ mC
    dsimp only [kstB] at F9
    repeat' ((fail_if_success (with_reducible show wpAny _ _ (exec (Stmt.Assign [Expr.Name _ _] (Expr.ListComp _ _ _ _) _) _) _ _ _)); (first | (k_unfold; (try dsimp only)) | (k_end; wrow_close) | walk1 | (dsimp only; walk1)))
    k_dflt (refine LCg.Assign_ListComp_U (F₀ := F9) (by rfl) (by with_unfolding_all rfl) (by with_unfolding_all rfl) (by decide) (by rfl) (by decide) (by rfl) (by rfl) (by rfl) ?_)
    repeat' ((fail_if_success (with_reducible show LCg.CompSrc _ _ _ _ _ _ _ _ _ _ _ _ _ _)); (first | (k_unfold; (try dsimp only)) | (k_end; wrow_close) | walk1 | (dsimp only; walk1)))
    rename_i hg2 tk2 ta tb tc hR2 F12 N12 hk2
    obtain ⟨rest9, hrest9⟩ : ∃ r, (bl, W.listOf bs.toArray cb) :: rest = r := ⟨_, rfl⟩
    rw [hrest9] at N12
    have sub9 : ∀ e ∈ rest, e ∈ rest9 := fun e he => by rw [← hrest9]; exact List.mem_cons_of_mem _ he
    have mD9 := sub9 _ mD'
    have mC9 := sub9 _ mC'
    refine LCg.CompSrc.range (by rfl) F12 N12 hR2 (by decide) (n := 5) (by rfl) (by rw [sizeLine_eq]; decide) (fun g => ?_)
    refine comp_rest (n := 5) (fun i ys nx => nx = rest9 ∧ ∃ sts : List Stm, sts.length = i ∧ (∀ st ∈ sts, lowStm st) ∧ StrsAre ys (sts.map stmText)) ?_ ?_ 5 0 [] rest9 rfl ⟨rfl, [], rfl, (fun _ h => nomatch h), .nil⟩
    · rintro i ys nx hi5 ⟨rfl, sts, hsl, hst, hys⟩ v I oI C oC D m₂ h tk E' ⟨tv, rfl⟩ hoC hmx F13 N13 off ne
      k_steps
      rename_i st9 t9 h9 tk9 hst9 F14 N14
      refine LCg.CompEnd.intro F14 N14 nx (fun p hp => hp) off trivial ⟨rfl, sts ++ [st9], by rw [List.length_append, hsl, List.length_singleton], fun st hst' => ?_, ?_⟩
      · rcases List.mem_append.mp hst' with q | q
        · exact hst st q
        · rw [List.mem_singleton.mp q]; exact hst9
      · rw [List.map_append]; exact hys.append' (.cons _ _ .nil)
    · rintro ys nx ⟨rfl, sts, hsl, hst, hys⟩ D h tk F13 N13 off
      have hok : ∀ st ∈ sts, okStm st := fun st h => (hst st h).1
      have hc9 : (sts.map codesOf).flatten = sts.flatMap codesOf := by rw [List.flatMap]
      have hys' : StrsAre ys ((sts.map codesOf).map fun l => (⟨l.toArray⟩ : Str)) := by
        rw [List.map_map]
        rw [show sts.map ((fun l => (⟨l.toArray⟩ : Str)) ∘ codesOf) = sts.map stmText from List.map_congr_left fun st _ => (stmText_codes st).symm]
        exact hys
      have hl9 : (sts.map codesOf).flatten.length ≤ 100 := by rw [hc9]; have := codes_len sts; omega
      have hs9 : (sts.flatMap symsOf).length ≤ 100 := by have := syms_len sts; omega
      obtain ⟨it1, it2⟩ := Run.iter (run_all hok)
      repeat' ((fail_if_success (with_reducible show wpAny _ _ (call (Value.builtin "str.join") _) _ _ _)); (first | (k_unfold; (try dsimp only)) | (k_end; wrow_close) | walk1 | (dsimp only; walk1)))
      refine join_texts N13 List.mem_cons_self hys' (by omega) (fun t8 k8 => ?_)
      repeat' ((fail_if_success (with_reducible show wpAny _ _ (call (Value.ref 273) _) _ _ _)); (first | (k_unfold; (try dsimp only)) | (k_end; wrow_close) | walk1 | (dsimp only; walk1)))
      clear N12
      k_dflt (refine' symbols_call (l := (sts.map codesOf).flatten) (n := (sts.flatMap symsOf).length) ?k1 ?k2 ?k3 ?k4 ?k5 ?k6 ?k7 ?k8 ?k9 ?k10 ?k11 ?k12 ?_; (case k1 => k_asm); (case k2 => k_asm); (case k3 => k_asm); (case k4 => k_asm); (case k5 => k_asm); (case k6 => first | exact rfl | assumption); (case k7 => ktr_room); (case k8 => ktr_units); (case k9 => exact hl9); (case k10 => rw [hc9]; exact it2); (case k11 => rw [hc9, it1]); (case k12 => exact hs9))
      intro SA us9 cS9 h15 tk15 F15 N15 hus9 lt15
      rw [hc9, it1] at hus9
      replace hus9 : IntsAre us9 (sts.flatMap symsOf ++ [0]) := hus9
      (try dsimp only)
      repeat' ((fail_if_success (with_reducible show wpAny _ _ (call (Value.ref 315) _) _ _ _)); (first | (k_unfold; (try dsimp only)) | (k_end; wrow_close) | walk1 | (dsimp only; walk1)))
      have bl9 : (bl, W.listOf bs.toArray cb) ∈ nx := by rw [← hrest9]; exact List.mem_cons_self
      have hrB9 : Rows nx bs (begunL x0 y0 x1 y1 x2 y2) := Rows.mono hrB sub9
      have hlb : bs.length ≤ 100 := by omega
      have hls : sts.length ≤ 100 := by omega
      have mg9 := sub9 _ mg'
      have m09 := sub9 _ m0'
      have m19 := sub9 _ m1'
      have m29 := sub9 _ m2'
      have sD : ∀ e ∈ nx, e ∈ (SA, W.listOf us9.toArray cS9) :: (D, LCg.lst ys) :: nx := fun e he => List.mem_cons_of_mem _ (List.mem_cons_of_mem _ he)
      k_dflt (refine' run_call (vs := bs) (us := us9) (ps := begunL x0 y0 x1 y1 x2 y2) (sts := sts) ?k1 ?k2 ?k3 ?k4 ?k5 ?k6 ?k7 ?k8 ?k9 ?k10 ?k11 ?k12 ?k13 ?k14 ?k15 ?k16 ?_; (case k1 => k_asm); (case k2 => k_asm); (case k3 => k_asm); (case k4 => k_asm); (case k5 => k_asm); (case k6 => first | exact rfl | assumption); (case k7 => ktr_room); (case k8 => ktr_units); (case k9 => exact sD _ bl9); (case k10 => exact Rows.mono hrB9 sD); (case k11 => exact begun_ok hx0 hy0 hx1 hy1 hx2 hy2); (case k12 => exact List.mem_cons_self); (case k13 => exact hus9); (case k14 => exact hok); (case k15 => exact hlb); (case k16 => exact hls))
      intro RA refs1 cR1 rest1 h16 tk16 F16 N16 sub16 hp16 ne16
      clear F15 N15 F13 N13
      (try dsimp only)
      repeat' ((fail_if_success (with_reducible show wpAny _ _ (call (Value.ref 332) _) _ _ _)); (first | (k_unfold; (try dsimp only)) | (k_end; wrow_close) | walk1 | (dsimp only; walk1)))
      have sE : ∀ e ∈ nx, e ∈ (RA, W.listOf refs1.toArray cR1) :: rest1 := fun e he => List.mem_cons_of_mem _ (sub16 _ (sD _ he))
      have mD16 : (D, LCg.lst ys) ∈ (RA, W.listOf refs1.toArray cR1) :: rest1 := List.mem_cons_of_mem _ (sub16 _ (List.mem_cons_of_mem _ List.mem_cons_self))
      k_dflt (refine' rule_call (vs := bs) (us := ys) (ps := begunL x0 y0 x1 y1 x2 y2) (sts := sts) (x0 := x0) (y0 := y0) (x1 := x1) (y1 := y1) (x2 := x2) (y2 := y2) ?k1 ?k2 ?k3 ?k4 ?k5 ?k6 ?k7 ?k8 ?k9 ?k10 ?k11 ?k12 ?k13 ?k14 ?k15 ?k16 ?k17 ?k18 ?k19 ?k20 ?k21 ?k22 ?k23 ?k24 ?k25 ?k26 ?_; (case k1 => k_asm); (case k2 => k_asm); (case k3 => k_asm); (case k4 => k_asm); (case k5 => k_asm); (case k6 => first | exact rfl | assumption); (case k7 => ktr_room); (case k8 => ktr_units); (case k9 => exact sE _ bl9); (case k10 => exact Rows.mono hrB9 sE); (case k11 => exact fun r hr => (begun_ok hx0 hy0 hx1 hy1 hx2 hy2 r hr).1); (case k12 => exact sE _ mg9); (case k13 => exact sE _ m09); (case k14 => exact sE _ m19); (case k15 => exact sE _ m29); (case k16 => exact hx0); (case k17 => exact hy0); (case k18 => exact hx1); (case k19 => exact hy1); (case k20 => exact hx2); (case k21 => exact hy2); (case k22 => exact mD16); (case k23 => exact hys); (case k24 => exact hst); (case k25 => exact hlb); (case k26 => exact hls))
      intro QA refs2 cR2 rest2 h17 tk17 F17 N17 sub17 hp17 ne17
      clear F16 N16
      (try dsimp only)
      repeat' ((fail_if_success (with_reducible show wpAny _ _ (compareOp _ _ _) _ _ _)); (first | (k_unfold; (try dsimp only)) | (k_end; wrow_close) | walk1 | (dsimp only; walk1)))
      have hsame : histAt (begunL x0 y0 x1 y1 x2 y2) sts sts.length = histRule (KF (mergeF x0 y0) (mergeF x1 y1) (mergeF x2 y2), begunL x0 y0 x1 y1 x2 y2) sts sts.length := hist_same (begun_same hx0 hy0 ha0 hx1 hy1 ha1 hx2 hy2 ha2) hst
      have hokR : ∀ ps ∈ histRule (KF (mergeF x0 y0) (mergeF x1 y1) (mergeF x2 y2), begunL x0 y0 x1 y1 x2 y2) sts sts.length, okRows ps := hist_ok (fun r hr => ⟨(begun_ok hx0 hy0 hx1 hy1 hx2 hy2 r hr).1, begun_sg hx0 hy0 hx1 hy1 hx2 hy2 r hr⟩) hst _
      have hp16' : Paired (IsHist ((QA, W.listOf refs2.toArray cR2) :: rest2)) refs1 (histRule (KF (mergeF x0 y0) (mergeF x1 y1) (mergeF x2 y2), begunL x0 y0 x1 y1 x2 y2) sts sts.length) := by
        rw [← hsame]
        exact Hists.mono hp16 fun e he => List.mem_cons_of_mem _ (sub17 _ (List.mem_cons_of_mem _ he))
      refine eq_hists N17 N17 (List.mem_cons_of_mem _ (sub17 _ List.mem_cons_self)) hp16' List.mem_cons_self (Hists.mono hp17 fun e he => List.mem_cons_of_mem _ he) hokR ?hu ?hq
      case hu => ktr_units
      case hq =>
        k_steps)
end
end Mine
set_option maxRecDepth 100000 in
set_option maxHeartbeats 8000000 in
theorem PySem.Challenge.cw_we0031_01_holds : PySem.Challenge.rw_we0031_01.Holds :=
  Mine.law_walk
