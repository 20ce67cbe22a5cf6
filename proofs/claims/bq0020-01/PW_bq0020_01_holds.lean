import PyProof.Rows.All
import Wide.All
import OpenK.AllK
import Wide.FinOn
import Lean
import PySem.Challenge.RW_bq0020_01
open PySem PySem.W PyProof.Rows
set_option Elab.async false
namespace Mine
/-! the powers of 2 and the logarithms in the field, one byte an entry -/
def EXPN : Nat := 70160881166704368827218703435136616750530459438269794890424969378298545675077208731798828898087927652446353395360628748027273188182808436399538186061104243134188885576122562338679313492324190829158544377810568631194580132524405266702234305646236648896994794467054525044798919765581988418950285252905306116225263236585714808161311289784028762024137133735135393922581566890382566480334369299400480864790538739986285574563168380416343369614948461817839620668187777978661530364712890858126432457562886306102556561631759900551331094983229723298224611133722330829711659991602983068895685602467964643306841827719562658305
def LOGN : Nat := 22135253156888987530748098150270024343632497605293634117281264061560962248099620766229961468867162294233796152347975563017024165690400661622462404646302566225833645086064538892198543335321514950294300187779610338557442029018619797274438901674641748676613670242915365385819254959901651105240253464034662486586186382979728982817772067067513442677601938078891989292316012868233806586592927239821351197800766822366321181463280924672822998103315976779850880337712374790938628529953751181886374687897611504386983350015558142994211516619836411558782076806704747441947939324473761869443721989389604670425385080942269787340800
def eN (i : Nat) : Nat := (EXPN >>> (8 * (i % 255))) % 256
def lgN (v : Nat) : Nat := (LOGN >>> (8 * v)) % 256
def EXPL : List Int := (List.range 256).map fun i => (eN i : Int)
def LOGL : List Int := (List.range 256).map fun v => (lgN v : Int)
@[irreducible] def gexpZ (n : Int) : Int := EXPL.getD (n.fmod 255).toNat 0
@[irreducible] def glogZ (n : Int) : Int := LOGL.getD n.toNat 0
theorem gexpZ_eq (n : Int) : EXPL.getD (n.fmod 255).toNat 0 = gexpZ n := by unfold gexpZ; rfl
theorem glogZ_eq (n : Int) : LOGL.getD n.toNat 0 = glogZ n := by unfold glogZ; rfl
def sg (v : Int) : Int := 1 - 2 * ((v.fdiv 32).fmod 2)
def valX (h l b c x : Int) : Int :=
  if 0 < b then Builtin.bitXor (Builtin.bitXor (gexpZ (h + 3 * glogZ x)) c) (gexpZ (l + glogZ x))
  else Builtin.bitXor (gexpZ (h + 3 * glogZ x)) c
def tot (h l b c : Int) (pre : List Int) : Int := pre.foldl (fun t x => t + sg (valX h l b c x)) (sg c)
def cond (h b u : Int) : Prop := Builtin.bitXor (gexpZ (128 * (h + glogZ u))) (gexpZ (h + 2 * glogZ u)) = b
theorem tot_nil (h l b c : Int) : tot h l b c [] = sg c := rfl
theorem tot_step (h l b c : Int) (pre : List Int) (k : Int) : tot h l b c (pre ++ [k]) = tot h l b c pre + sg (valX h l b c k) := by
  simp [tot, List.foldl_append]
theorem getD_bd (xs : List Int) (lo hi : Int) (h : xs.all (fun k => decide (lo ≤ k) && decide (k ≤ hi)) = true) (h0 : lo ≤ 0) (h1 : 0 ≤ hi) (i : Nat) : lo ≤ xs.getD i 0 ∧ xs.getD i 0 ≤ hi := by
  refine kmn_any ?_
  simp [h, h0, h1]
theorem gexpZ_bd (n : Int) : 0 ≤ gexpZ n ∧ gexpZ n ≤ 255 := by
  rw [← gexpZ_eq]
  exact getD_bd EXPL 0 255 (by decide +kernel) (by omega) (by omega) _
theorem glogZ_bd (n : Int) : 0 ≤ glogZ n ∧ glogZ n ≤ 254 := by
  rw [← glogZ_eq]
  exact getD_bd LOGL 0 254 (by decide +kernel) (by omega) (by omega) _
def vi : Value → Option Int
  | .int i _ => some i
  | _ => none
theorem intsAre_of : ∀ {vs : List Value} {ns : List Int}, vs.map vi = ns.map some → IntsAre vs ns
  | [], [], _ => .nil
  | [], _ :: _, h => by simp at h
  | _ :: _, [], h => by simp at h
  | v :: vs, n :: ns, h => by
    simp only [List.map_cons, List.cons.injEq] at h
    cases v <;> simp only [vi, Option.some.injEq, reduceCtorEq, false_and] at h
    obtain ⟨rfl, h2⟩ := h
    exact .cons _ _ (intsAre_of h2)
section
variable {prog : Program} {w : World} {A : Around} {E : Value → Shared → Prop} {s : Shared}
theorem tab_item {K : Frag} {h₀ : Heap} {L a : Addr} {m : Str → Option Value} {value slice : PySem.Expr} {od : Option Addr} {n : Nat} {sl : Array (Option Value)} {vs : List Value} (ns : List Int) {k : Int} {u : Tok} {Q : Value → Shared → Prop}
    (X : K.In h₀) (F : Fr h₀ L s.heap m) (ho : K.lookup a = some ⟨.type "list", od, .seq vs.toArray n, sl⟩) (hi : vs.map vi = ns.map some) (hn : ns.length = 256)
    (h0 : 0 ≤ k) (h1 : k < 256) (h : ∀ t, Q (.int (ns.getD k.toNat 0) t) s)
    (hs : subscripted slice false (.ref a) (.int k u) = operate [.ref a, .int k u] (getItem (.ref a) (.int k u)) := by with_unfolding_all rfl) :
    wpAny (model prog w) A (subscriptTail value slice (.ref a) (.int k u)) Q E s :=
  item_anyK (listIn X F ho) (intsAre_of hi) h0 (by omega) (by omega) h hs
end
def TR2 : Nat := 582363019452727942714077920757974193566194661895007501437542966720009695973306706373360118781739500339751734231029261093989360783528929658205747444747808
def P8 : Nat := 95125173855764218123276304889944061997689682402263585766959741291920687686033329201817409157123347502415384089435969498586180241031507595463600295898153685276653211633572815512294064538494957912327413386667662218713394765509704508661031522276467630197481635010039778342554499416459730172574551513689147646224
def CU0 : Nat := 49702575130864482575697564342344805306191913843171916555667894986814879464680
def CU1 : Nat := 18904176559906449473974086671146123364783178868223664541978122124200679071880
def CU2 : Nat := 5780501425263687155389881959743227914207264985346499619199883197213478928970
def CT0 : Nat := 63366678571198053530385771689227264354486423929445642618958432155056836375326566957677238309626309017303091692578124378285988079595871317315771122903525327548822278004451784715594069976182043183215488657697461667340595177696078869222107408183547747509473834406879054823852728361542449445999853783178831672810623460515505219524170829166741341966627235777641567395273834385141779628714382945283804940139397135777628818626409803575988132818290924994023981817233772018547253236067856470506149877544527020509680731065039796403704623000416713689441259845255695389648659874779320493598197775977781357778019423384013668496
def WT0 : Nat := 320784010535363440728660870948516624563214798617370604332660139475897844960758237606881416807537357456634841368482769429786047547772452854265819539837950524949676556592030764758056401160041129374304318655506582406062267329513789670828346147952277882617464927177554814942178433411796902943120368587335324209699343388788689295142675021638131686487888882422690630548735891481973271974048093927734890247477903053463789298335925813293110457224723922423648083709803741263618887849015010016634803453547671362752157463172943931301843658405962040038007176436382913775816245517950130147853646021280137233
def CT1 : Nat := 67327095981897931766993373562235681459522968223855180771469317025742075066776889147696449875079454068202017251200219275985679342932736854738081289263175893073467759967316393365778666655941520785219710251221139376748638273787700750755981144670399862094778939637920229911817578924564631642991233555536138584079812137514630168081607649087208004142418622363195581068684382802275793859344401461500486478578301356873891686517052680235372639357863524645117472914011397875884128137436892131449929082555680599901524714600404996826420866451751436560897511403037955085575100483947009637281170599226788772608940028631923062920
def WT1 : Nat := 25297934424557579770828930582123473814107669389216002121235193927372975842938628806403468363291738064093034006515401041358599484971355710860777524089262861769588664798458663287729849417460933207082577432680590219602444166156641729337307397998896819224558727733951792112746530450781297506324552672483978832520480840142581986805622873573232777444945932907450226219531579374301948595896600977691930180461990523020550120549062708761446482581375180453095259599398157554180861149681892733185750490031902007225287427784275622636928465779890091373119539840845759722782301289510490946965117295217540843596335890229271184780
def CT2 : Nat := 67327095980060894733515960075484536085743130248818168445999363684386048301307398364630387378267043777103659257588547760745613813120280529794304372800127018947958808337932025472555700501160792166303510028306209664773572945533903391017819033203643950686196482703376281624445414831536048189492919708498086483043655718384122869384848053232442755824641839615927614097988096090212856613647836836247670551243368128126719136250800491525041319099918050827911523487661037549446283774362385975468930095696832476147992005370518673556636329104025135422452006788870827411693550965968411419820260966724970591806071674486549674120
def WT2 : Nat := 81561924349357193606878452210285294576811199208458714624786575796651756695634490178491381901103717815484538081015179463504241473136246606759525048999643689015729166223566605965567447937561320537577141145165966832836037543822329075418880048733388718926779303972373947067426087953886764058571635194077735569248256383930391632509930734769352294720262553052519031491643115876622197388078385635563543614629781359910781948249243912281705378236197943043837809023159491607045083194859910665771863545615145899444923802798723022473390526721989896443426987165274549618158183293455888193824267121642340286599412236519794762265
def CU : Nat → Nat
  | 0 => CU0
  | 1 => CU1
  | _ => CU2
def CT : Nat → Nat
  | 0 => CT0
  | 1 => CT1
  | _ => CT2
def WT : Nat → Nat
  | 0 => WT0
  | 1 => WT1
  | _ => WT2
def bN (i : Nat) : Bool := (eN i).testBit 5
def sB (b : Bool) : Int := if b then -1 else 1
def G (h l p : Nat) : Bool := Bool.xor (bN (h + 3 * p)) (bN (l + p))
def Sm (f : Nat → Int) : Nat → Int
  | 0 => 0
  | n + 1 => Sm f n + f n
def T (h l : Nat) : Int := 1 + Sm (fun p => sB (G h l p)) 255
def C (h l p : Nat) : Prop := eN (128 * (h + p)) ^^^ eN (h + 2 * p) = eN l
def K (h : Nat) : Int := if h % 3 = 0 then -32 else 16
/-- how many of the n lowest bits are set: bit by bit, and byte by byte -/
def pc : Nat → Nat → Nat
  | 0, _ => 0
  | n + 1, x => x % 2 + pc n (x / 2)
def pcB : Nat → Nat → Nat
  | 0, _ => 0
  | n + 1, x => (P8 >>> (4 * (x % 256))) % 16 + pcB n (x / 256)
def signs (h l : Nat) : Nat := CU h ^^^ ((TR2 >>> l) % 2 ^ 255)
def cnt (h l : Nat) : Nat := (CT h >>> (8 * l)) % 256
def allLt (f : Nat → Bool) : Nat → Bool
  | 0 => true
  | n + 1 => f n && allLt f n
theorem allLt_of {f : Nat → Bool} : ∀ {n : Nat}, allLt f n = true → ∀ i, i < n → f i = true
  | 0, _, i, hi => absurd hi (Nat.not_lt_zero i)
  | n + 1, h, i, hi => by
    simp only [allLt, Bool.and_eq_true] at h
    rcases Nat.lt_succ_iff_lt_or_eq.mp hi with h1 | rfl
    · exact allLt_of h.2 i h1
    · exact h.1
def lhs (h p : Nat) : Nat := eN (128 * (h + p)) ^^^ eN (h + 2 * p)
def want (h : Nat) (g : Bool) : Nat := if h = 0 then (if g then 112 else 144) else (if g then 136 else 120)
def chkA (h p : Nat) : Bool := lhs h p == 0 || cnt h (lgN (lhs h p)) == want h (G h (lgN (lhs h p)) p)
def chkB (h l : Nat) : Bool := cnt h l == 128 || lhs h ((WT h >>> (8 * l)) % 256) == eN l
def chkC (h l : Nat) : Bool := pcB 32 (signs h l) == cnt h l
theorem pc8_all : allLt (fun v => pc 8 v == (P8 >>> (4 * v)) % 16) 256 = true := by decide +kernel
theorem chkA0 : allLt (chkA 0) 255 = true := by decide +kernel
theorem chkA1 : allLt (chkA 1) 255 = true := by decide +kernel
theorem chkA2 : allLt (chkA 2) 255 = true := by decide +kernel
theorem chkB0 : allLt (chkB 0) 255 = true := by decide +kernel
theorem chkB1 : allLt (chkB 1) 255 = true := by decide +kernel
theorem chkB2 : allLt (chkB 2) 255 = true := by decide +kernel
theorem chkC0 : allLt (chkC 0) 255 = true := by decide +kernel
theorem chkC1 : allLt (chkC 1) 255 = true := by decide +kernel
theorem chkC2 : allLt (chkC 2) 255 = true := by decide +kernel
/-! sums -/
theorem Sm_congr {f g : Nat → Int} : ∀ {n : Nat}, (∀ i, i < n → f i = g i) → Sm f n = Sm g n
  | 0, _ => rfl
  | n + 1, h => by
    simp only [Sm]
    rw [Sm_congr (fun i hi => h i (by omega)), h n (by omega)]
theorem Sm_front (f : Nat → Int) : ∀ n : Nat, Sm f (n + 1) = f 0 + Sm (fun p => f (p + 1)) n
  | 0 => by simp [Sm]
  | n + 1 => by
    have ih := Sm_front f n
    simp only [Sm] at ih ⊢
    omega
theorem Sm_shift (f : Nat → Int) (n : Nat) (h : f n = f 0) : Sm (fun p => f (p + 1)) n = Sm f n := by
  have h1 := Sm_front f n
  simp only [Sm] at h1
  omega
theorem Sm_mul (c : Int) (f : Nat → Int) : ∀ n : Nat, Sm (fun p => c * f p) n = c * Sm f n
  | 0 => by simp [Sm]
  | n + 1 => by
    simp only [Sm]
    rw [Sm_mul c f n, Int.mul_add]
theorem pc_sum : ∀ (n x : Nat), Sm (fun p => sB (x.testBit p)) n = (n : Int) - 2 * (pc n x : Int)
  | 0, x => by simp [Sm, pc]
  | n + 1, x => by
    rw [Sm_front]
    simp only [Nat.testBit_add_one, Nat.testBit_zero]
    rw [pc_sum n (x / 2)]
    simp only [pc]
    rcases Nat.mod_two_eq_zero_or_one x with h | h <;> simp [h, sB] <;> omega
/-! the field's powers -/
theorem eN_mod (i : Nat) : eN (i % 255) = eN i := by simp only [eN, Nat.mod_mod]
theorem eN_cong {i j : Nat} (h : i % 255 = j % 255) : eN i = eN j := by rw [← eN_mod i, ← eN_mod j, h]
theorem eN_lt (i : Nat) : eN i < 256 := Nat.mod_lt _ (by omega)
def x2 (v : Nat) : Nat := (2 * v) ^^^ (285 * (v / 128))
theorem step255 : allLt (fun i => eN (i + 1) == x2 (eN i)) 255 = true := by decide +kernel
theorem eN_succ (i : Nat) : eN (i + 1) = x2 (eN i) := by
  have h := allLt_of step255 (i % 255) (Nat.mod_lt _ (by omega))
  rw [beq_iff_eq, eN_mod] at h
  rw [← h]
  exact eN_cong (by omega)
theorem mul285 {a b : Nat} (ha : a < 2) (hb : b < 2) : 285 * (a ^^^ b) = (285 * a) ^^^ (285 * b) := by
  have h1 : a = 0 ∨ a = 1 := by omega
  have h2 : b = 0 ∨ b = 1 := by omega
  rcases h1 with rfl | rfl <;> rcases h2 with rfl | rfl <;> decide
theorem x2_xor {v w : Nat} (hv : v < 256) (hw : w < 256) : x2 (v ^^^ w) = x2 v ^^^ x2 w := by
  have h1 : 2 * (v ^^^ w) = (2 * v) ^^^ (2 * w) := by
    have := @Nat.shiftLeft_xor_distrib 1 v w
    simp only [Nat.shiftLeft_eq, Nat.pow_one] at this
    rw [Nat.mul_comm 2, Nat.mul_comm 2, Nat.mul_comm 2]
    exact this
  have h2 : (v ^^^ w) / 128 = (v / 128) ^^^ (w / 128) := Nat.xor_div_two_pow (n := 7)
  unfold x2
  rw [h1, h2, mul285 (by omega) (by omega)]
  generalize 2 * v = a, 2 * w = b, 285 * (v / 128) = c, 285 * (w / 128) = d
  rw [Nat.xor_assoc, Nat.xor_assoc]
  congr 1
  rw [← Nat.xor_assoc, ← Nat.xor_assoc, Nat.xor_comm b c]
theorem eN_xor_add {i j k : Nat} (h : eN i ^^^ eN j = eN k) : ∀ n : Nat, eN (i + n) ^^^ eN (j + n) = eN (k + n)
  | 0 => h
  | n + 1 => by
    rw [← Nat.add_assoc, ← Nat.add_assoc, ← Nat.add_assoc, eN_succ, eN_succ, eN_succ, ← eN_xor_add h n, x2_xor (eN_lt _) (eN_lt _)]
theorem C_up {h l p : Nat} (c : C (h + 3) (l + 1) p) : C h l (p + 1) := by
  have c1 := eN_xor_add c 254
  unfold C
  rw [eN_cong (i := 128 * (h + (p + 1))) (j := 128 * (h + 3 + p) + 254) (by omega), eN_cong (i := h + 2 * (p + 1)) (j := h + 3 + 2 * p + 254) (by omega), c1]
  exact eN_cong (by omega)
theorem C_down {h l p : Nat} (c : C h l p) : C (h + 3) (l + 1) (p + 254) := by
  have c1 := eN_xor_add c 1
  unfold C
  rw [eN_cong (i := 128 * (h + 3 + (p + 254))) (j := 128 * (h + p) + 1) (by omega), eN_cong (i := h + 3 + 2 * (p + 254)) (j := h + 2 * p + 1) (by omega), c1]
theorem bN_cong {i j : Nat} (h : i % 255 = j % 255) : bN i = bN j := by
  unfold bN
  rw [eN_cong h]
theorem G_cong {h l p h' l' p' : Nat} (h1 : (h + 3 * p) % 255 = (h' + 3 * p') % 255) (h2 : (l + p) % 255 = (l' + p') % 255) : G h l p = G h' l' p' := by
  unfold G
  rw [bN_cong h1, bN_cong h2]
theorem T_up (h l : Nat) : T (h + 3) (l + 1) = T h l := by
  unfold T
  refine congrArg (fun z : Int => 1 + z) ?_
  refine Eq.trans (Sm_congr fun i _ => ?_) (Sm_shift (fun p => sB (G h l p)) 255 ?_)
  · show sB (G _ _ _) = sB (G _ _ _)
    rw [G_cong (h' := h) (l' := l) (p' := i + 1) (by omega) (by omega)]
  · show sB (G _ _ _) = sB (G _ _ _)
    rw [G_cong (h' := h) (l' := l) (p' := 0) (by omega) (by omega)]
theorem K_up (h : Nat) : K (h + 3) = K h := by
  unfold K
  rw [Nat.add_mod_right]
/-- what is asked of a pair -/
def Good (h l : Nat) : Prop := (∀ p, C h l p → T h l = sB (G h l p) * K h) ∧ ((∃ p, C h l p) ∨ T h l = 0)
theorem Good_up {h l : Nat} (g : Good h l) : Good (h + 3) (l + 1) := by
  refine ⟨fun p c => ?_, ?_⟩
  · rw [T_up, K_up, g.1 (p + 1) (C_up c), G_cong (h := h + 3) (l := l + 1) (p := p) (h' := h) (l' := l) (p' := p + 1) (by omega) (by omega)]
  · rw [T_up]
    rcases g.2 with ⟨p, c⟩ | g
    · exact .inl ⟨_, C_down c⟩
    · exact .inr g
theorem Good_ups {h l : Nat} (g : Good h l) : ∀ k : Nat, Good (h + 3 * k) (l + k)
  | 0 => g
  | k + 1 => Good_up (Good_ups g k)
theorem T_cong {h l l' : Nat} (e : l % 255 = l' % 255) : T h l = T h l' := by
  unfold T
  refine congrArg (fun z : Int => 1 + z) ?_
  exact Sm_congr fun i _ => by rw [G_cong (h := h) (l := l) (p := i) (h' := h) (l' := l') (p' := i) rfl (by omega)]
theorem C_cong {h l l' p : Nat} (e : l % 255 = l' % 255) (c : C h l p) : C h l' p := by
  unfold C at *
  rw [c]
  exact eN_cong e
theorem Good_cong {h l l' : Nat} (e : l % 255 = l' % 255) (g : Good h l) : Good h l' := by
  refine ⟨fun p c => ?_, ?_⟩
  · rw [← T_cong e, g.1 p (C_cong e.symm c), G_cong (h := h) (l := l) (p := p) (h' := h) (l' := l') (p' := p) rfl (by omega)]
  · rcases g.2 with ⟨p, c⟩ | g
    · exact .inl ⟨p, C_cong e c⟩
    · exact .inr (by rw [← T_cong e]; exact g)
/-! the three classes, looked through -/
theorem bitsTR : allLt (fun i => TR2.testBit i == bN i) 510 = true := by decide +kernel
theorem bitsCU0 : allLt (fun p => (CU 0).testBit p == bN (0 + 3 * p)) 255 = true := by decide +kernel
theorem bitsCU1 : allLt (fun p => (CU 1).testBit p == bN (1 + 3 * p)) 255 = true := by decide +kernel
theorem bitsCU2 : allLt (fun p => (CU 2).testBit p == bN (2 + 3 * p)) 255 = true := by decide +kernel
theorem bitsCU {h : Nat} (hh : h < 3) {p : Nat} (hp : p < 255) : (CU h).testBit p = bN (h + 3 * p) := by
  have h1 : h = 0 ∨ h = 1 ∨ h = 2 := by omega
  rcases h1 with rfl | rfl | rfl
  · exact beq_iff_eq.mp (allLt_of bitsCU0 p hp)
  · exact beq_iff_eq.mp (allLt_of bitsCU1 p hp)
  · exact beq_iff_eq.mp (allLt_of bitsCU2 p hp)
theorem pc_add (n : Nat) : ∀ (m x : Nat), pc (m + n) x = pc m x + pc n (x / 2 ^ m)
  | 0, x => by simp [pc]
  | m + 1, x => by
    rw [show m + 1 + n = (m + n) + 1 by omega]
    simp only [pc]
    rw [pc_add n m (x / 2), Nat.div_div_eq_div_mul, Nat.pow_succ, Nat.mul_comm 2]
    omega
theorem pc8_low (x : Nat) : pc 8 x = pc 8 (x % 256) := by
  simp only [pc]
  omega
theorem pcB_is : ∀ n x : Nat, pcB n x = pc (8 * n) x
  | 0, _ => rfl
  | n + 1, x => by
    rw [show 8 * (n + 1) = 8 + 8 * n by omega, pc_add, pc8_low, beq_iff_eq.mp (allLt_of pc8_all (x % 256) (Nat.mod_lt _ (by omega)))]
    simp only [pcB]
    rw [pcB_is n (x / 256)]
theorem topCU {h : Nat} (hh : h < 3) : (CU h).testBit 255 = false := by
  have h1 : h = 0 ∨ h = 1 ∨ h = 2 := by omega
  rcases h1 with rfl | rfl | rfl <;> decide +kernel
theorem chkC_all {h : Nat} (hh : h < 3) {l : Nat} (hl : l < 255) : chkC h l = true := by
  have h1 : h = 0 ∨ h = 1 ∨ h = 2 := by omega
  rcases h1 with rfl | rfl | rfl
  · exact allLt_of chkC0 l hl
  · exact allLt_of chkC1 l hl
  · exact allLt_of chkC2 l hl
theorem T_cnt {h l : Nat} (hh : h < 3) (hl : l < 255) : T h l = 256 - 2 * (cnt h l : Int) := by
  have e : Sm (fun p => sB (G h l p)) 255 = Sm (fun p => sB ((signs h l).testBit p)) 255 := Sm_congr fun p hp => by
    have hp' : decide (p < 255) = true := decide_eq_true hp
    unfold signs
    rw [Nat.testBit_xor, Nat.testBit_mod_two_pow, Nat.testBit_shiftRight, bitsCU hh hp, beq_iff_eq.mp (allLt_of bitsTR (l + p) (by omega)), hp', Bool.true_and]
    rfl
  have e2 : Sm (fun p => sB ((signs h l).testBit p)) 256 = Sm (fun p => sB ((signs h l).testBit p)) 255 + 1 := by
    have h5 : (signs h l).testBit 255 = false := by
      unfold signs
      rw [Nat.testBit_xor, Nat.testBit_mod_two_pow, topCU hh]
      rfl
    show Sm _ 255 + sB ((signs h l).testBit 255) = _
    rw [h5]
    rfl
  have e3 := pc_sum 256 (signs h l)
  have e4 : pcB 32 (signs h l) = cnt h l := beq_iff_eq.mp (chkC_all hh hl)
  rw [pcB_is] at e4
  rw [e2, show (256 : Nat) = 8 * 32 from rfl, e4] at e3
  unfold T
  rw [e]
  omega
theorem lgeN : allLt (fun l => lgN (eN l) == l) 255 = true := by decide +kernel
theorem eN_pos : allLt (fun l => eN l != 0) 255 = true := by decide +kernel
theorem chkA_all {h : Nat} (hh : h < 3) {p : Nat} (hp : p < 255) : chkA h p = true := by
  have h1 : h = 0 ∨ h = 1 ∨ h = 2 := by omega
  rcases h1 with rfl | rfl | rfl
  · exact allLt_of chkA0 p hp
  · exact allLt_of chkA1 p hp
  · exact allLt_of chkA2 p hp
theorem chkB_all {h : Nat} (hh : h < 3) {l : Nat} (hl : l < 255) : chkB h l = true := by
  have h1 : h = 0 ∨ h = 1 ∨ h = 2 := by omega
  rcases h1 with rfl | rfl | rfl
  · exact allLt_of chkB0 l hl
  · exact allLt_of chkB1 l hl
  · exact allLt_of chkB2 l hl
theorem want_is {h : Nat} (hh : h < 3) (g : Bool) : (256 : Int) - 2 * (want h g : Int) = sB g * K h := by
  have h1 : h = 0 ∨ h = 1 ∨ h = 2 := by omega
  rcases h1 with rfl | rfl | rfl <;> cases g <;> decide
theorem C_per {h l p : Nat} (c : C h l p) : C h l (p % 255) := by
  unfold C at *
  rw [eN_cong (i := 128 * (h + p % 255)) (j := 128 * (h + p)) (by omega), eN_cong (i := h + 2 * (p % 255)) (j := h + 2 * p) (by omega), c]
theorem Good_base {h l : Nat} (hh : h < 3) (hl : l < 255) : Good h l := by
  refine ⟨fun p c => ?_, ?_⟩
  · have hp : p % 255 < 255 := Nat.mod_lt _ (by omega)
    have c' : lhs h (p % 255) = eN l := C_per c
    have k := chkA_all hh hp
    have hz := allLt_of eN_pos l hl
    have hlg := beq_iff_eq.mp (allLt_of lgeN l hl)
    unfold chkA at k
    rw [c', hlg] at k
    rw [bne_iff_ne] at hz
    simp only [Bool.or_eq_true, beq_iff_eq, hz, false_or] at k
    rw [T_cnt hh hl, k, want_is hh, G_cong (h := h) (l := l) (p := p) (h' := h) (l' := l) (p' := p % 255) (by omega) (by omega)]
  · have k := chkB_all hh hl
    unfold chkB at k
    simp only [Bool.or_eq_true, beq_iff_eq] at k
    rcases k with k | k
    · right
      rw [T_cnt hh hl, k]
      omega
    · left
      exact ⟨_, k⟩
theorem good (h l : Nat) : Good h l := by
  have g := Good_ups (Good_base (h := h % 3) (l := (l + 254 * (h / 3)) % 255) (Nat.mod_lt _ (by omega)) (Nat.mod_lt _ (by omega))) (h / 3)
  have e : h % 3 + 3 * (h / 3) = h := by omega
  rw [e] at g
  exact Good_cong (by omega) g
/-! nought in the second place -/
def T0 (h : Nat) : Int := 1 + Sm (fun p => sB (bN (h + 3 * p))) 255
theorem T0_up (h : Nat) : T0 (h + 3) = T0 h := by
  unfold T0
  refine congrArg (fun z : Int => 1 + z) ?_
  refine Eq.trans (Sm_congr fun i _ => ?_) (Sm_shift (fun p => sB (bN (h + 3 * p))) 255 ?_)
  · show sB (bN _) = sB (bN _)
    rw [bN_cong (i := h + 3 + 3 * i) (j := h + 3 * (i + 1)) (by omega)]
  · show sB (bN _) = sB (bN _)
    rw [bN_cong (i := h + 3 * 255) (j := h + 3 * 0) (by omega)]
theorem T0_ups (h : Nat) : ∀ k : Nat, T0 (h + 3 * k) = T0 h
  | 0 => rfl
  | k + 1 => (T0_up (h + 3 * k)).trans (T0_ups h k)
theorem T0_0 : T0 0 = -32 := by decide +kernel
theorem T0_1 : T0 1 = 16 := by decide +kernel
theorem T0_2 : T0 2 = 16 := by decide +kernel
theorem T0_is (h : Nat) : T0 h = K h := by
  have e := T0_ups (h % 3) (h / 3)
  rw [Nat.mod_add_div] at e
  rw [e]
  have h1 : h % 3 = 0 ∨ h % 3 = 1 ∨ h % 3 = 2 := by omega
  unfold K
  rcases h1 with k | k | k <;> rw [k]
  · exact T0_0
  · exact T0_1
  · exact T0_2
theorem xor_sum : ∀ (n a b : Nat), a < 2 ^ n → b < 2 ^ n → (a ^^^ b) + 2 * (a &&& b) = a + b
  | 0, a, b, ha, hb => by
    have h1 : a = 0 := by simp at ha; exact ha
    have h2 : b = 0 := by simp at hb; exact hb
    subst h1 h2
    rfl
  | n + 1, a, b, ha, hb => by
    have ih := xor_sum n (a / 2) (b / 2) (by rw [Nat.pow_succ] at ha; omega) (by rw [Nat.pow_succ] at hb; omega)
    rw [← Nat.xor_div_two, ← Nat.and_div_two] at ih
    have h1 := @Nat.xor_mod_two_eq_one a b
    have h2 := @Nat.and_mod_two_eq_one a b
    generalize a ^^^ b = x at *
    generalize a &&& b = y at *
    omega
theorem bitXor_nat {a b : Nat} (ha : a < 256) (hb : b < 256) : Builtin.bitXor (a : Int) (b : Int) = ((a ^^^ b : Nat) : Int) := by
  have e := xor_sum 8 a b (by simpa using ha) (by simpa using hb)
  rw [bitXor_and]
  have e2 : Builtin.bitAnd (a : Int) (b : Int) = ((a &&& b : Nat) : Int) := by
    unfold Builtin.bitAnd
    simp
  rw [e2]
  omega
theorem sg_nat (v : Nat) : sg (v : Int) = sB (v.testBit 5) := by
  have e : ((v : Int).fdiv 32).fmod 2 = ((v / 32 % 2 : Nat) : Int) := by
    rw [Int.fdiv_eq_ediv_of_nonneg _ (by omega), Int.fmod_eq_emod_of_nonneg _ (by omega)]
    omega
  unfold sg
  rw [e, Nat.testBit_eq_decide_div_mod_eq]
  show _ = sB (decide (v / 32 % 2 = 1))
  rcases Nat.mod_two_eq_zero_or_one (v / 32) with k | k <;> rw [k] <;> rfl
theorem sB_xor (a b : Bool) : sB (Bool.xor a b) = sB a * sB b := by cases a <;> cases b <;> rfl
theorem sB_sq (a : Bool) : sB a * sB a = 1 := by cases a <;> rfl
theorem expL {i : Nat} (hi : i < 255) : EXPL.getD i 0 = (eN i : Int) := by
  unfold EXPL
  simp [List.getD_eq_getElem?_getD, Nat.lt_trans hi (by omega : 255 < 256)]
theorem logL {i : Nat} (hi : i < 256) : LOGL.getD i 0 = (lgN i : Int) := by
  unfold LOGL
  simp [List.getD_eq_getElem?_getD, hi]
theorem eNlg : allLt (fun i => eN (lgN (i + 1)) == i + 1) 255 = true := by decide +kernel
theorem lgLt : allLt (fun i => decide (lgN i < 255)) 256 = true := by decide +kernel
theorem gexp_nat (i : Nat) : gexpZ (i : Int) = (eN i : Int) := by
  have e : ((i : Int).fmod 255).toNat = i % 255 := by
    rw [Int.fmod_eq_emod_of_nonneg _ (by omega)]
    omega
  unfold gexpZ
  rw [e, expL (Nat.mod_lt _ (by omega)), eN_mod]
theorem glog_nat {u : Nat} (hu : u < 256) : glogZ (u : Int) = (lgN u : Int) := by
  unfold glogZ
  rw [Int.toNat_natCast, logL hu]
theorem eN_lg {u : Nat} (h0 : 1 ≤ u) (hu : u < 256) : eN (lgN u) = u := by
  have := beq_iff_eq.mp (allLt_of eNlg (u - 1) (by omega))
  rwa [show u - 1 + 1 = u by omega] at this
theorem perm_sum {l₁ l₂ : List Int} (p : l₁.Perm l₂) : l₁.sum = l₂.sum := by
  induction p with
  | nil => rfl
  | cons x _ ih => simp only [List.sum_cons, ih]
  | swap x y l => simp only [List.sum_cons]; omega
  | trans _ _ h1 h2 => exact h1.trans h2
theorem Sm_list (f : Nat → Int) : ∀ n : Nat, Sm f n = ((List.range n).map f).sum
  | 0 => rfl
  | n + 1 => by
    rw [List.range_succ, List.map_append, List.sum_append_int, ← Sm_list f n]
    simp [Sm]
theorem logs_perm : ((List.range 255).map (fun i => lgN (i + 1))).Perm (List.range 255) := by decide +kernel
theorem Sm_logs (F : Nat → Int) : Sm (fun i => F (lgN (i + 1))) 255 = Sm F 255 := by
  rw [Sm_list, Sm_list]
  have e : (List.range 255).map (fun i => F (lgN (i + 1))) = ((List.range 255).map (fun i => lgN (i + 1))).map F := by
    rw [List.map_map]
    rfl
  rw [e]
  exact perm_sum (logs_perm.map F)
theorem tot_range (h l b c : Int) : ∀ n : Nat, tot h l b c (rangeKs 1 n) = sg c + Sm (fun i => sg (valX h l b c ((i + 1 : Nat) : Int))) n
  | 0 => by simp [rangeKs, tot_nil, Sm]
  | n + 1 => by
    have e : rangeKs 1 (n + 1) = rangeKs 1 n ++ [((n + 1 : Nat) : Int)] := by
      unfold rangeKs
      rw [List.range_succ, List.map_append]
      simp
      omega
    rw [e, tot_step, tot_range h l b c n]
    simp only [Sm]
    omega
section
variable {h b c : Nat}
theorem xor_lt {a b : Nat} (ha : a < 256) (hb : b < 256) : a ^^^ b < 256 := Nat.xor_lt_two_pow (n := 8) ha hb
theorem val_pos (hb0 : 1 ≤ b) (hb1 : b < 256) (hc : c < 256) {u : Nat} (hu : u < 256) :
    sg (valX h (glogZ b) b c u) = sB (c.testBit 5) * sB (G h (lgN b) (lgN u)) := by
  unfold valX
  rw [if_pos (by omega), glog_nat hu, glog_nat hb1]
  have e1 : ((h : Int) + 3 * (lgN u : Int)) = ((h + 3 * lgN u : Nat) : Int) := by omega
  have e2 : ((lgN b : Int) + (lgN u : Int)) = ((lgN b + lgN u : Nat) : Int) := by omega
  rw [e1, e2, gexp_nat, gexp_nat, bitXor_nat (eN_lt _) hc, bitXor_nat (xor_lt (eN_lt _) hc) (eN_lt _), sg_nat, Nat.testBit_xor, Nat.testBit_xor]
  rw [sB_xor, sB_xor]
  unfold G
  rw [sB_xor]
  unfold bN
  rw [Int.mul_comm (sB ((eN (h + 3 * lgN u)).testBit 5)), Int.mul_assoc]
theorem val_due (hb1 : b < 256) (hc : c < 256) {u : Nat} (hu : u < 256) :
    sg (Builtin.bitXor (Builtin.bitXor (gexpZ (h + 3 * glogZ u)) (gexpZ (glogZ b + glogZ u))) c) = sB (c.testBit 5) * sB (G h (lgN b) (lgN u)) := by
  rw [glog_nat hu, glog_nat hb1]
  have e1 : ((h : Int) + 3 * (lgN u : Int)) = ((h + 3 * lgN u : Nat) : Int) := by omega
  have e2 : ((lgN b : Int) + (lgN u : Int)) = ((lgN b + lgN u : Nat) : Int) := by omega
  rw [e1, e2, gexp_nat, gexp_nat, bitXor_nat (eN_lt _) (eN_lt _), bitXor_nat (xor_lt (eN_lt _) (eN_lt _)) hc, sg_nat, Nat.testBit_xor, Nat.testBit_xor]
  rw [sB_xor]
  unfold G bN
  rw [Int.mul_comm]
theorem val_zero (hc : c < 256) {u : Nat} (hu : u < 256) (l : Int) :
    sg (valX h l 0 c u) = sB (c.testBit 5) * sB (bN (h + 3 * lgN u)) := by
  unfold valX
  rw [if_neg (by omega), glog_nat hu]
  have e1 : ((h : Int) + 3 * (lgN u : Int)) = ((h + 3 * lgN u : Nat) : Int) := by omega
  rw [e1, gexp_nat, bitXor_nat (eN_lt _) hc, sg_nat, Nat.testBit_xor, sB_xor, Int.mul_comm]
  rfl
theorem tot_pos (hb0 : 1 ≤ b) (hb1 : b < 256) (hc : c < 256) : tot h (glogZ b) b c (rangeKs 1 255) = sB (c.testBit 5) * T h (lgN b) := by
  rw [tot_range, Sm_congr (g := fun i => (fun p => sB (c.testBit 5) * sB (G h (lgN b) p)) (lgN (i + 1))) (fun i hi => val_pos hb0 hb1 hc (by omega)),
    Sm_logs (fun p => sB (c.testBit 5) * sB (G h (lgN b) p)), Sm_mul, sg_nat]
  unfold T
  rw [Int.mul_add, Int.mul_one]
theorem tot_zero (hc : c < 256) (l : Int) : tot h l 0 c (rangeKs 1 255) = sB (c.testBit 5) * T0 h := by
  rw [tot_range, Sm_congr (g := fun i => (fun p => sB (c.testBit 5) * sB (bN (h + 3 * p))) (lgN (i + 1))) (fun i hi => val_zero hc (by omega) l),
    Sm_logs (fun p => sB (c.testBit 5) * sB (bN (h + 3 * p))), Sm_mul, sg_nat]
  unfold T0
  rw [Int.mul_add, Int.mul_one]
theorem cond_nat (hb0 : 1 ≤ b) (hb1 : b < 256) {u : Nat} (hu : u < 256) : cond h b u ↔ C h (lgN b) (lgN u) := by
  unfold cond C
  rw [glog_nat hu, eN_lg hb0 hb1]
  have e1 : (128 * ((h : Int) + (lgN u : Int))) = ((128 * (h + lgN u) : Nat) : Int) := by omega
  have e2 : ((h : Int) + 2 * (lgN u : Int)) = ((h + 2 * lgN u : Nat) : Int) := by omega
  rw [e1, e2, gexp_nat, gexp_nat, bitXor_nat (eN_lt _) (eN_lt _)]
  omega
end
def KZ (h : Int) : Int := if h.fmod 3 = 0 then -32 else 16
theorem KZ_nat (h : Nat) : KZ (h : Int) = K h := by
  have e : (h : Int).fmod 3 = ((h % 3 : Nat) : Int) := by
    rw [Int.fmod_eq_emod_of_nonneg _ (by omega)]
    omega
  unfold KZ K
  rw [e]
  by_cases k : h % 3 = 0
  · simp [k]
  · rw [if_neg k, if_neg (by omega)]
/-! the law's three ends -/
theorem end_zero {h l b c : Int} (hh : 0 ≤ h) (hb : b = 0) (hc0 : 0 ≤ c) (hc1 : c ≤ 255) : tot h l b c (rangeKs 1 255) = sg c * KZ h := by
  obtain ⟨h, rfl⟩ := Int.eq_ofNat_of_zero_le hh
  obtain ⟨c, rfl⟩ := Int.eq_ofNat_of_zero_le hc0
  subst hb
  rw [tot_zero (by omega), T0_is, KZ_nat, sg_nat]
theorem end_found {h b c u : Int} (hh : 0 ≤ h) (hb0 : 0 < b) (hb1 : b ≤ 255) (hc0 : 0 ≤ c) (hc1 : c ≤ 255) (hu0 : 1 ≤ u) (hu1 : u ≤ 255) (k : cond h b u) :
    tot h (glogZ b) b c (rangeKs 1 255) = sg (Builtin.bitXor (Builtin.bitXor (gexpZ (h + 3 * glogZ u)) (gexpZ (glogZ b + glogZ u))) c) * KZ h := by
  obtain ⟨h, rfl⟩ := Int.eq_ofNat_of_zero_le hh
  obtain ⟨b, rfl⟩ := Int.eq_ofNat_of_zero_le (Int.le_of_lt hb0)
  obtain ⟨c, rfl⟩ := Int.eq_ofNat_of_zero_le hc0
  obtain ⟨u, rfl⟩ := Int.eq_ofNat_of_zero_le (by omega : 0 ≤ u)
  rw [tot_pos (by omega) (by omega) (by omega), val_due (by omega) (by omega) (by omega), KZ_nat, (good h (lgN b)).1 _ ((cond_nat (by omega) (by omega) (by omega)).mp k), Int.mul_assoc]
theorem end_none {h b c : Int} (hh : 0 ≤ h) (hb0 : 0 < b) (hb1 : b ≤ 255) (hc0 : 0 ≤ c) (hc1 : c ≤ 255) (k : ∀ u ∈ rangeKs 1 255, ¬ cond h b u) :
    tot h (glogZ b) b c (rangeKs 1 255) = 0 := by
  obtain ⟨h, rfl⟩ := Int.eq_ofNat_of_zero_le hh
  obtain ⟨b, rfl⟩ := Int.eq_ofNat_of_zero_le (Int.le_of_lt hb0)
  obtain ⟨c, rfl⟩ := Int.eq_ofNat_of_zero_le hc0
  rw [tot_pos (by omega) (by omega) (by omega)]
  rcases (good h (lgN b)).2 with ⟨p, cp⟩ | e
  · exfalso
    have hp : p % 255 < 255 := Nat.mod_lt _ (by omega)
    have c' := C_per cp
    have hz := allLt_of eN_pos (p % 255) hp
    rw [bne_iff_ne] at hz
    have hlt := eN_lt (p % 255)
    have hlg : lgN (eN (p % 255)) = p % 255 := beq_iff_eq.mp (allLt_of lgeN (p % 255) hp)
    rw [← hlg] at c'
    refine k ((eN (p % 255) : Nat) : Int) ?_ ((cond_nat (by omega) (by omega) hlt).mpr c')
    exact kre_mem (by omega) (by omega)
  · rw [e, Int.mul_zero]
/-- what is known of the letters -/
abbrev Bounds (h b c : Int) : Prop := 0 ≤ h ∧ h ≤ 254 ∧ 0 ≤ b ∧ b ≤ 255 ∧ 0 ≤ c ∧ c ≤ 255
/-- the first loop's word, closed up -/
structure TotIs (h l b c : Int) (pre : List Int) (t : Int) : Prop where
  bd : Bounds h b c
  out : t = tot h l b c pre
/-- the second loop's word, closed up -/
structure NoneYet (h b : Int) (pre : List Int) (d : Int) : Prop where
  nought : d = 0
  none : ∀ u ∈ pre, ¬ cond h b u
/-- the first loop's word, the letters' bounds beside it -/
abbrev TotW (h l b c : Int) (pre : List Int) (t : Int) : Prop := Bounds h b c ∧ TotIs h l b c pre t
theorem fmod_bd (x : Int) {m : Int} (hm : 0 < m) : 0 ≤ x.fmod m ∧ x.fmod m ≤ m - 1 := by
  have h1 := fmod_lo x hm
  have h2 := fmod_hi x hm
  omega
theorem TotW.start {x y z l : Int} : TotW (glogZ x) l (y.fmod 256) (z.fmod 256) [] (1 - 2 * (((z.fmod 256).fdiv 32).fmod 2)) := by
  have h1 := glogZ_bd x
  have h2 := fmod_bd y (m := 256) (by omega)
  have h3 := fmod_bd z (m := 256) (by omega)
  have h4 : Bounds (glogZ x) (y.fmod 256) (z.fmod 256) := by omega
  exact ⟨h4, ⟨h4, rfl⟩⟩
theorem TotW.turnP {h l b c t k : Int} {pre : List Int} (x : TotIs h l b c pre t) (hb : 0 < b) :
    TotW h l b c (pre ++ [k]) (t + (1 - 2 * (((Builtin.bitXor (Builtin.bitXor (gexpZ (h + 3 * glogZ k)) c) (gexpZ (l + glogZ k))).fdiv 32).fmod 2))) := by
  refine ⟨x.bd, ⟨x.bd, ?_⟩⟩
  rw [tot_step, x.out]
  unfold valX
  rw [if_pos hb]
  rfl
theorem TotW.turnZ {h l b c t k : Int} {pre : List Int} (x : TotIs h l b c pre t) (hb : ¬ 0 < b) :
    TotW h l b c (pre ++ [k]) (t + (1 - 2 * (((Builtin.bitXor (gexpZ (h + 3 * glogZ k)) c).fdiv 32).fmod 2))) := by
  refine ⟨x.bd, ⟨x.bd, ?_⟩⟩
  rw [tot_step, x.out]
  unfold valX
  rw [if_neg hb]
  rfl
theorem NoneYet.start {h b : Int} : NoneYet h b [] 0 := ⟨rfl, fun _ hu => nomatch hu⟩
theorem NoneYet.turn {h b k d : Int} {pre : List Int} (x : NoneYet h b pre d) (hk : ¬ Builtin.bitXor (gexpZ (128 * (h + glogZ k))) (gexpZ (h + 2 * glogZ k)) = b) : NoneYet h b (pre ++ [k]) d := by
  refine ⟨x.nought, fun u hu => ?_⟩
  rcases List.mem_append.mp hu with hu | hu
  · exact x.none u hu
  · rw [List.mem_singleton.mp hu]
    exact hk
theorem KZ_3 {h : Int} (k : h.fmod 3 = 0) : KZ h = -32 := by
  unfold KZ
  rw [if_pos k]
theorem KZ_n {h : Int} (k : ¬ h.fmod 3 = 0) : KZ h = 16 := by
  unfold KZ
  rw [if_neg k]
theorem yes_of {a b : Int} (e : a = b) : ((a == b) == true) = true := by
  rw [e]
  simp
theorem zero_ends {h l b c t : Int} {n : Nat} (x : TotIs h l b c (rangeKs 1 n) t) (hn : n = 255) (hb : b = 0) {v : Int} (k : KZ h = v) :
    ((t == (1 - 2 * ((c.fdiv 32).fmod 2)) * v) == true) = true := by
  subst hn
  rw [← k]
  exact yes_of (x.out.trans (end_zero x.bd.1 hb x.bd.2.2.2.2.1 x.bd.2.2.2.2.2))
theorem found_ends {h b c t u : Int} {n i : Nat} (x : TotIs h (glogZ b) b c (rangeKs 1 n) t) (hn : n = 255) (hb : 0 < b) (hu : u = 1 + (i : Int)) (hi : i < 255) (c' : Builtin.bitXor (gexpZ (128 * (h + glogZ u))) (gexpZ (h + 2 * glogZ u)) = b) {v : Int} (k : KZ h = v) :
    ((t == (1 - 2 * (((Builtin.bitXor (Builtin.bitXor (gexpZ (h + 3 * glogZ u)) (gexpZ (glogZ b + glogZ u))) c).fdiv 32).fmod 2)) * v) == true) = true := by
  subst hn
  rw [← k]
  exact yes_of (x.out.trans (end_found x.bd.1 hb x.bd.2.2.2.1 x.bd.2.2.2.2.1 x.bd.2.2.2.2.2 (by omega) (by omega) c'))
theorem none_ends {h b c t d v : Int} {n n' : Nat} (x : TotIs h (glogZ b) b c (rangeKs 1 n) t) (hn : n = 255) (hb : 0 < b) (y : NoneYet h b (rangeKs 1 n') d) (hn' : n' = 255) :
    ((t == d * v) == true) = true := by
  subst hn hn'
  rw [y.nought]
  exact yes_of (x.out.trans ((end_none x.bd.1 hb x.bd.2.2.2.1 x.bd.2.2.2.2.1 x.bd.2.2.2.2.2 y.none).trans (Int.zero_mul v).symm))
end Mine
open Mine
-- the walk's own lines: the tables' items; the slices' signs; the words first
local macro_rules | `(tactic| kmk_nums) => `(tactic| ((with_reducible refine' kmk_upto ?gi ?gx); (case gi => l_ints); (case gx => kmk_sign)))
local macro_rules | `(tactic| kmk_nums) => `(tactic| ((with_reducible refine' kmk_from ?gi ?gx); (case gi => l_ints); (case gx => kmk_sign)))
local macro_rules | `(tactic| walk_at "subscriptTail Name Name ref int") => `(tactic| (k_here; (with_reducible show wpAny _ _ (subscriptTail _ _ (Value.ref 16) (Value.int _ _)) _ _ _); (refine' tab_item LOGL ?kx ?kf ?ko ?ki ?kn ?k3 ?k4 ?_ ?k6; (case kx => k_asm); (case kf => k_asm); (case ko => k_is); (case ki => decide +kernel); (case kn => decide +kernel); (case k3 => l_idx); (case k4 => l_idx); (case k6 => with_unfolding_all rfl); k_whole); intro _))
local macro_rules | `(tactic| walk_at "subscriptTail Name BinOp ref int") => `(tactic| (k_here; (with_reducible show wpAny _ _ (subscriptTail _ _ (Value.ref 15) (Value.int _ _)) _ _ _); (refine' tab_item EXPL ?kx ?kf ?ko ?ki ?kn ?k3 ?k4 ?_ ?k6; (case kx => k_asm); (case kf => k_asm); (case ko => k_is); (case ki => decide +kernel); (case kn => decide +kernel); (case k3 => l_idx); (case k4 => l_idx); (case k6 => with_unfolding_all rfl); k_whole); intro _))
local macro_rules | `(tactic| walk_at "call ref") => `(tactic| k_extra "call ref")
local macro_rules | `(tactic| walk_at "pyIter ref") => `(tactic| k_extra "pyIter ref")
local macro_rules | `(tactic| walk_at "InvEndN") => `(tactic| k_dflt kst_close)
set_option maxRecDepth 100000 in
set_option maxHeartbeats 8000000 in
theorem PySem.Challenge.cw_bq0020_01_holds : PySem.Challenge.rw_bq0020_01.Holds := by
  k_with "tree" => first | exact gexpZ_eq _ | exact glogZ_eq _
  k_with "call ref" => k_call_by "gexp" gexpZ
  k_with "call ref" => k_call_by "glog" glogZ (fun n => 1 ≤ n ∧ n ≤ 255)
  k_with "fact gexp" => exact gexpZ_bd
  k_with "fact glog" => exact glogZ_bd
  k_with "state" => first | with_reducible exact TotW.start | with_reducible exact NoneYet.start | with_reducible exact NoneYet.turn (by assumption) (by assumption) | with_reducible exact TotW.turnP (by assumption) (by assumption) | with_reducible exact TotW.turnZ (by assumption) (by assumption)
  k_with "pyIter ref" => (k_of "x" => k_state_given ["high", "low", "b", "c"] (fun h l b c pre total => TotW h l b c pre total) "total")
  k_with "pyIter ref" => (k_of "u" => k_state_given ["high", "low", "b", "c"] (fun h l b c pre due => NoneYet h b pre due) "due")
  k_with "end" => first | with_reducible exact zero_ends (by assumption) (by decide) (by assumption) (by first | (refine KZ_3 ?_; assumption) | (refine KZ_n ?_; assumption)) | with_reducible exact found_ends (by assumption) (by decide) (by assumption) (by assumption) (by omega) (by assumption) (by first | (refine KZ_3 ?_; assumption) | (refine KZ_n ?_; assumption)) | with_reducible exact none_ends (by assumption) (by decide) (by assumption) (by assumption) (by decide)
  open_k
