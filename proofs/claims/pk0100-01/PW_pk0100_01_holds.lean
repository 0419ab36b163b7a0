import PyProof.Rows.All
import Wide.All
import OpenK.AllK
import Wide.FinOn
import PySem.Challenge.RW_pk0100_01
set_option Elab.async false
set_option compiler.extract_closed false
set_option maxRecDepth 100000
section
set_option Elab.async true
open PySem PySem.W PySem.W.X PyProof.Rows
set_option maxHeartbeats 0
theorem Mine.lawSaid : PySem.Challenge.rw_pk0100_01.wellSaid = true := by kernel_rfl
theorem Mine.rowSaid : PySem.Challenge.rw_pk0100_01.row.wellSaid = true := row_said Mine.lawSaid
theorem Mine.useBoth {L W G : Prop} (b : L ∧ W) (k : L → W → G) : G := k b.1 b.2
set_option hygiene false in
local macro_rules | `(tactic| k_head) => `(tactic| (
  have said := Mine.rowSaid
  apply Mine.useBoth
  rotate_left
  intro l0 w0
  refine (fun (_ : type_of% l0) (_ : type_of% w0) => ?m2) ?hl ?hc
  rotate_left
  exact l0
  exact w0
  rotate_right
  z_head
  ))
open_top hd for PySem.Challenge.rw_pk0100_01.row
abbrev Mine.secondOf {L W G : Prop} (_ : L ∧ W → G) : Prop := W
theorem Mine.top.tw9743097575036673082 : True := trivial
theorem Mine.top.tw13713866747541496747 : True := trivial
theorem Mine.top.tw6481263858077512209 : True := trivial
theorem Mine.top.tw11343431007274422695 : True := trivial
theorem Mine.top.tw3741470088853955239 : True := trivial
theorem Mine.top.tw15978476186099440628 : True := trivial
theorem Mine.top.tw10944031595159391725 : True := trivial
theorem Mine.top.tw8511147975818421384 : True := trivial
theorem Mine.top.tw9157123940461110360 : True := trivial
theorem Mine.top.tw5220169812098953321 : True := trivial
theorem Mine.top.tw10564173322060671111 : True := trivial
theorem Mine.top.tw11215447202461467011 : True := trivial
theorem Mine.top.tw3120133295221510679 : True := trivial
theorem Mine.top.tw2770239361232196585 : True := trivial
theorem Mine.top.tw5621928154837787683 : True := trivial
theorem Mine.top.tw2515962861023736851 : True := trivial
theorem Mine.top.tw8077455472083780634 : True := trivial
theorem Mine.top.tw7913636548009798097 : True := trivial
theorem Mine.top.tw12783364522390391256 : True := trivial
theorem Mine.top.tw7033079012710635876 : True := trivial
theorem Mine.top.tw4835499133494076262 : True := trivial
theorem Mine.top.tw13983857475226248213 : True := trivial
theorem Mine.top.tw16736118626332596326 : True := trivial
theorem Mine.top.tw6908635100366463001 : True := trivial
theorem Mine.top.tw14671331368771545958 : True := trivial
theorem Mine.top.tw2267912224990424062 : True := trivial
theorem Mine.top.tw4773702212245658779 : True := trivial
theorem Mine.top.tw3331421620988305804 : True := trivial
theorem Mine.top.tw10574840078274726829 : True := trivial
theorem Mine.top.tw14317375437502057738 : True := trivial
theorem Mine.top.tw10864713392326063847 : True := trivial
theorem Mine.top.tw3739144386018749749 : True := trivial
theorem Mine.top.tw6292954644110606532 : True := trivial
theorem Mine.top.tw3767615275625035234 : True := trivial
theorem Mine.top.tw13968125046926948103 : True := trivial
theorem Mine.top.tw4134505453457115739 : True := trivial
theorem Mine.top.tw4383139521930768336 : True := trivial
theorem Mine.top.tw14762295962024373759 : True := trivial
theorem Mine.top.tw10510093454237375763 : True := trivial
theorem Mine.top.tw17684087203159962825 : True := trivial
theorem Mine.top.tw1655259298481077034 : True := trivial
theorem Mine.top.tw1971433849790844608 : True := trivial
theorem Mine.top.tw8281120267493503204 : True := trivial
theorem Mine.top.tw7847352863974893604 : True := trivial
theorem Mine.top.tw6674990990233134667 : True := trivial
theorem Mine.top.tw12209182163369298222 : True := trivial
theorem Mine.top.tw8633578818532117116 : True := trivial
theorem Mine.top.tw17103585973383926153 : True := trivial
theorem Mine.top.tw11334203419191126389 : True := trivial
theorem Mine.top.tw14544212217232164504 : True := trivial
theorem Mine.top.tw7845129631348957993 : True := trivial
theorem Mine.top.tw12415523145999629524 : True := trivial
theorem Mine.top.tw15254643099363442306 : True := trivial
theorem Mine.top.tw13799840507378627052 : True := trivial
theorem Mine.top.tw11072019736110318841 : True := trivial
theorem Mine.top.tw7273676953221729872 : True := trivial
theorem Mine.top.tw5938664839603501006 : True := trivial
theorem Mine.top.tw17510129488543315350 : True := trivial
theorem Mine.top.tw2618192176157935123 : True := trivial
theorem Mine.top.tw15542334942015070624 : True := trivial
theorem Mine.top.tw3254097082911018636 : True := trivial
theorem Mine.top.tw14526540143163920134 : True := trivial
theorem Mine.top.tw92938602624917659 : True := trivial
theorem Mine.top.tw11381841672930427045 : True := trivial
theorem Mine.top.tw3301510868070163589 : True := trivial
theorem Mine.top.tw104434173382791472 : True := trivial
theorem Mine.top.tw8637452081102412489 : True := trivial
theorem Mine.top.tw16550210197400561554 : True := trivial
theorem Mine.top.tw13864677062968915208 : True := trivial
theorem Mine.top.tw17981982808018919739 : True := trivial
theorem Mine.top.tw8327351992414209593 : True := trivial
theorem Mine.top.tw1427617067697536731 : True := trivial
theorem Mine.top.tw5860347150701562758 : True := trivial
theorem Mine.top.tw18185382058313985135 : True := trivial
theorem Mine.top.tw196536941598035525 : True := trivial
theorem Mine.top.tw3140898538269762758 : True := trivial
theorem Mine.top.tw1833847959688406909 : True := trivial
theorem Mine.top.tw14138542843532098145 : True := trivial
theorem Mine.top.tw3548060758652744671 : True := trivial
theorem Mine.top.tw14983691940233647259 : True := trivial
theorem Mine.top.tw7600245330811189008 : True := trivial
theorem Mine.top.tw4010397242664982755 : True := trivial
theorem Mine.top.tw1108800333578037850 : True := trivial
theorem Mine.top.tw2596539476470345881 : True := trivial
theorem Mine.top.tw14747140909534839006 : True := trivial
theorem Mine.top.tw15638586536077026902 : True := trivial
theorem Mine.top.tw10562855833978642645 : True := trivial
theorem Mine.top.tw15095372191486117680 : True := trivial
theorem Mine.top.tw9152664641465651067 : True := trivial
theorem Mine.top.tw76412952228603488 : True := trivial
theorem Mine.top.tw11189890337720088615 : True := trivial
theorem Mine.top.tw8690613079922662544 : True := trivial
theorem Mine.top.tw17788931634197215145 : True := trivial
theorem Mine.top.tw10079171474624433434 : True := trivial
theorem Mine.top.tw4177254973167742082 : True := trivial
theorem Mine.top.tw7160873610591055699 : True := trivial
theorem Mine.top.tw10194810499950245846 : True := trivial
theorem Mine.top.tw16878204669230926818 : True := trivial
theorem Mine.top.tw15525995667512963556 : True := trivial
theorem Mine.top.tw9913501989792142831 : True := trivial
theorem Mine.top.tw1209819496270969543 : True := trivial
theorem Mine.top.tw5240762971458559404 : True := trivial
theorem Mine.top.tw17751904050632854050 : True := trivial
theorem Mine.top.tw7381879191629600215 : True := trivial
theorem Mine.top.tw15286249088069653756 : True := trivial
theorem Mine.top.tw9233335307524088747 : True := trivial
theorem Mine.top.tw5609151216138764652 : True := trivial
theorem Mine.top.tw12958664272152378060 : True := trivial
theorem Mine.top.tw4828031223510198475 : True := trivial
theorem Mine.top.tw17219337458794519322 : True := trivial
theorem Mine.top.tw7325726471975496349 : True := trivial
theorem Mine.top.tw14628585599826135755 : True := trivial
theorem Mine.top.tw11053662475850362967 : True := trivial
theorem Mine.top.tw7657828476027519975 : True := trivial
theorem Mine.top.tw5552270689369575618 : True := trivial
theorem Mine.top.tw5507162329139097715 : True := trivial
theorem Mine.top.tw11116745826364501430 : True := trivial
theorem Mine.top.tw15349318334595610263 : True := trivial
theorem Mine.top.tw2683898200743741643 : True := trivial
theorem Mine.top.tw9843447840031818808 : True := trivial
theorem Mine.top.tw8025738503920905074 : True := trivial
theorem Mine.top.tw4555866861457887817 : True := trivial
theorem Mine.top.tw3479634599624807885 : True := trivial
theorem Mine.top.tw13710211086531791108 : True := trivial
theorem Mine.top.tw3995942328266245912 : True := trivial
theorem Mine.top.tw12764151676501842404 : True := trivial
theorem Mine.top.tw12545222027267286695 : True := trivial
theorem Mine.top.tw9851269098105209369 : True := trivial
theorem Mine.top.tw17085176360113175178 : True := trivial
theorem Mine.top.tw11760055953109336660 : True := trivial
theorem Mine.top.tw1068965626710143233 : True := trivial
theorem Mine.top.tw956089473029861405 : True := trivial
theorem Mine.top.tw9589608677651300831 : True := trivial
theorem Mine.top.tw1291508964198565346 : True := trivial
theorem Mine.top.tw17542608870123051758 : True := trivial
theorem Mine.top.tw16800595933775061595 : True := trivial
theorem Mine.top.tw4916261283513009128 : True := trivial
theorem Mine.top.tw13307591127769906961 : True := trivial
theorem Mine.top.tw12256363837256957063 : True := trivial
theorem Mine.top.tw4058662728301269685 : True := trivial
theorem Mine.top.tw8874702517807110003 : True := trivial
theorem Mine.top.tw13994475860397038760 : True := trivial
theorem Mine.top.tw2544169868661182894 : True := trivial
theorem Mine.top.tw14537839394382259888 : True := trivial
theorem Mine.top.tw13500427573557490136 : True := trivial
theorem Mine.top.tw12904532413392791838 : True := trivial
theorem Mine.top.tw16034636559557993077 : True := trivial
theorem Mine.top.tw15212760480394562756 : True := trivial
theorem Mine.top.tw17576949682797635024 : True := trivial
theorem Mine.top.tw11025421835840567180 : True := trivial
theorem Mine.top.tw13223034962123697568 : True := trivial
theorem Mine.top.tw10001883323181062329 : True := trivial
theorem Mine.top.tw1297684725254868899 : True := trivial
theorem Mine.top.tw953821971998124167 : True := trivial
theorem Mine.top.tw2907113945770861938 : True := trivial
theorem Mine.top.tw11982747722937265360 : True := trivial
theorem Mine.top.tw10296497611174029103 : True := trivial
theorem Mine.top.tw9953747333497923681 : True := trivial
theorem Mine.top.tw411662067469150650 : True := trivial
theorem Mine.top.tw9165953624949470791 : True := trivial
theorem Mine.top.tw16866024460163772082 : True := trivial
theorem Mine.top.tw12427389293880184781 : True := trivial
theorem Mine.top.tw10987319290404115282 : True := trivial
theorem Mine.top.tw16719718919923625709 : True := trivial
theorem Mine.top.tw17103177528636943170 : True := trivial
theorem Mine.top.tw1584292188352093569 : True := trivial
theorem Mine.top.tw9227057690007400460 : True := trivial
theorem Mine.top.tw6973401727384321114 : True := trivial
theorem Mine.top.tw427420600052151026 : True := trivial
theorem Mine.top.tw14450715343900746980 : True := trivial
theorem Mine.top.tw17089494485692210459 : True := trivial
theorem Mine.top.tw10438016080984586364 : True := trivial
theorem Mine.top.tw3207569582813703071 : True := trivial
theorem Mine.top.tw4526881389914513428 : True := trivial
theorem Mine.top.tw8693662901424576113 : True := trivial
theorem Mine.top.tw3341965758768962148 : True := trivial
theorem Mine.top.tw4597200072644226624 : True := trivial
theorem Mine.top.tw16068562728529669930 : True := trivial
theorem Mine.top.tw6572447435987645144 : True := trivial
theorem Mine.top.tw2446451932059125521 : True := trivial
theorem Mine.top.tw13985988839938425345 : True := trivial
theorem Mine.top.tw13012589842206080548 : True := trivial
theorem Mine.top.tw10797620697341660853 : True := trivial
theorem Mine.top.tw2619622883677149074 : True := trivial
theorem Mine.top.tw13326734554550294991 : True := trivial
theorem Mine.top.tw11457754044182789617 : True := trivial
theorem Mine.top.tw995497684801637723 : True := trivial
theorem Mine.top.tw614353407589309747 : True := trivial
theorem Mine.top.tw1988063486488863061 : True := trivial
theorem Mine.top.tw4331257952254489624 : True := trivial
theorem Mine.top.tw2405475915293451298 : True := trivial
theorem Mine.top.tw9919435345466941130 : True := trivial
theorem Mine.top.tw9272544492142499777 : True := trivial
theorem Mine.top.tw47109162367338493 : True := trivial
theorem Mine.top.tw4699463449715708850 : True := trivial
theorem Mine.top.tw8043003576528973991 : True := trivial
theorem Mine.top.tw6265701101103706036 : True := trivial
theorem Mine.top.tw53344730913325255 : True := trivial
theorem Mine.top.tw18177719399980262173 : True := trivial
theorem Mine.top.tw15125931889511115149 : True := trivial
theorem Mine.top.tw14771320824794740959 : True := trivial
theorem Mine.top.tw10195997230039290492 : True := trivial
theorem Mine.top.tw7204998973626084599 : True := trivial
theorem Mine.top.tw10774637447528242797 : True := trivial
theorem Mine.top.tw7681529838311687354 : True := trivial
theorem Mine.top.tw18374746225686918389 : True := trivial
theorem Mine.top.tw8823455108540655025 : True := trivial
theorem Mine.top.tw8212240652046128837 : True := trivial
theorem Mine.top.tw6430265229019958763 : True := trivial
theorem Mine.top.tw4736427724481360342 : True := trivial
theorem Mine.top.tw9233715247699887402 : True := trivial
theorem Mine.top.tw9442318146202087700 : True := trivial
theorem Mine.top.tw3976154599441133093 : True := trivial
theorem Mine.top.tw16453443671601555132 : True := trivial
theorem Mine.top.tw17346259052997144950 : True := trivial
theorem Mine.top.tw12117888159696746259 : True := trivial
theorem Mine.top.tw13706816188851595723 : True := trivial
theorem Mine.top.tw6959630418841230328 : True := trivial
theorem Mine.top.tw2727672472851901052 : True := trivial
theorem Mine.top.tw2220570432770164149 : True := trivial
theorem Mine.top.tw18289109515434150305 : True := trivial
theorem Mine.top.tw11994683656316670133 : True := trivial
theorem Mine.top.tw10187724287525710026 : True := trivial
theorem Mine.top.tw6487610083215253720 : True := trivial
theorem Mine.top.tw4796303294375832693 : True := trivial
theorem Mine.top.tw2417791160451022400 : True := trivial
theorem Mine.top.tw1321871150748368714 : True := trivial
theorem Mine.top.tw11542710104232473196 : True := trivial
theorem Mine.top.tw11240886729373846589 : True := trivial
theorem Mine.top.tw1016984595167383106 : True := trivial
theorem Mine.top.tw9166809390415177425 : True := trivial
theorem Mine.top.tw11443710868159068359 : True := trivial
theorem Mine.top.tw9403446381161628825 : True := trivial
theorem Mine.top.tw6985940188763525644 : True := trivial
theorem Mine.top.tw5281040853351527523 : True := trivial
theorem Mine.top.tw2280948300289033865 : True := trivial
theorem Mine.top.tw16238753720851828768 : True := trivial
theorem Mine.top.tw13757294663428140603 : True := trivial
theorem Mine.top.tw13628324404522965827 : True := trivial
theorem Mine.top.tw11299342062639506936 : True := trivial
theorem Mine.top.tw15874363893724204672 : True := trivial
theorem Mine.top.tw5702910450625016506 : True := trivial
theorem Mine.top.tw3796891538752321733 : True := trivial
theorem Mine.top.tw3315250197877816394 : True := trivial
theorem Mine.top.tw17781115878593249900 : True := trivial
theorem Mine.top.tw9178861053002065721 : True := trivial
theorem Mine.top.tw672699306608606093 : True := trivial
theorem Mine.top.tw9590735534726013551 : True := trivial
theorem Mine.top.tw93012567124736588 : True := trivial
theorem Mine.top.tw5728218623943512802 : True := trivial
theorem Mine.top.tw5176459694589498394 : True := trivial
theorem Mine.top.tw3909029901177050473 : True := trivial
theorem Mine.top.tw16004416686337608138 : True := trivial
theorem Mine.top.tw1394568958698188020 : True := trivial
theorem Mine.top.tw11520865232209809239 : True := trivial
theorem Mine.top.tw11173010173815179391 : True := trivial
theorem Mine.top.tw9685713192446186341 : True := trivial
theorem Mine.top.tw9366391650621772374 : True := trivial
theorem Mine.top.tw9361663168868926718 : True := trivial
theorem Mine.top.tw9227541089923242437 : True := trivial
theorem Mine.top.tw9149571693438533347 : True := trivial
theorem Mine.top.tw8472579005086612782 : True := trivial
theorem Mine.top.tw84136930442132756 : True := trivial
theorem Mine.top.tw8054331753737935190 : True := trivial
theorem Mine.top.tw7671549972530922468 : True := trivial
theorem Mine.top.tw7386116660499605909 : True := trivial
theorem Mine.top.tw7213333562754528385 : True := trivial
theorem Mine.top.tw7204493036743257322 : True := trivial
theorem Mine.top.tw681777741448182936 : True := trivial
theorem Mine.top.tw6746510453823603384 : True := trivial
theorem Mine.top.tw6662652255960138227 : True := trivial
theorem Mine.top.tw6659320528611288953 : True := trivial
theorem Mine.top.tw6196800358849779857 : True := trivial
theorem Mine.top.tw6124053682588569230 : True := trivial
theorem Mine.top.tw6042063481754889096 : True := trivial
theorem Mine.top.tw5983031951866500094 : True := trivial
theorem Mine.top.tw5513142621748847562 : True := trivial
theorem Mine.top.tw5398424786039705171 : True := trivial
theorem Mine.top.tw5245862010334584759 : True := trivial
theorem Mine.top.tw4951766788466123468 : True := trivial
theorem Mine.top.tw4547018644641229820 : True := trivial
theorem Mine.top.tw3712731000106771831 : True := trivial
theorem Mine.top.tw3378803678994701225 : True := trivial
theorem Mine.top.tw3261557481417251176 : True := trivial
theorem Mine.top.tw2972514686349903234 : True := trivial
theorem Mine.top.tw2878843996050045342 : True := trivial
theorem Mine.top.tw2758071753971750899 : True := trivial
theorem Mine.top.tw2722852734226103192 : True := trivial
theorem Mine.top.tw2601905985415302144 : True := trivial
theorem Mine.top.tw2506305409684761478 : True := trivial
theorem Mine.top.tw2312856594315299383 : True := trivial
theorem Mine.top.tw1843344800811705456 : True := trivial
theorem Mine.top.tw17795014544551873601 : True := trivial
theorem Mine.top.tw1754339480302792767 : True := trivial
theorem Mine.top.tw17342085116792181814 : True := trivial
theorem Mine.top.tw16415559393655328363 : True := trivial
theorem Mine.top.tw1601500998369573665 : True := trivial
theorem Mine.top.tw15740088241188596515 : True := trivial
theorem Mine.top.tw15722756333993289495 : True := trivial
theorem Mine.top.tw15451780782824253742 : True := trivial
theorem Mine.top.tw15245507539482535896 : True := trivial
theorem Mine.top.tw1486479319815781832 : True := trivial
theorem Mine.top.tw14657780768301432306 : True := trivial
theorem Mine.top.tw14615657086365298920 : True := trivial
theorem Mine.top.tw14453841093610474573 : True := trivial
theorem Mine.top.tw13549259019975226677 : True := trivial
theorem Mine.top.tw13305523845174962083 : True := trivial
theorem Mine.top.tw1124271682379634556 : True := trivial
theorem Mine.top.tw11199710921928265848 : True := trivial
theorem Mine.top.tw10801874191123338550 : True := trivial
theorem Mine.top.tw10579768621468169598 : True := trivial
theorem Mine.top.tw10467260515200827399 : True := trivial
theorem Mine.top.tw10361075674979980167 : True := trivial
theorem Mine.top.tw9990226795618131978 : True := trivial
theorem Mine.top.tw8420165910927482534 : True := trivial
theorem Mine.top.tw6211089042160764376 : True := trivial
theorem Mine.top.tw16262243036561855896 : True := trivial
theorem Mine.top.tw14697636140705633519 : True := trivial
theorem Mine.top.tw13420762306968818387 : True := trivial
set_option Elab.async true in
theorem Mine.top (h : Mine.secondOf hd) : PySem.Challenge.rw_pk0100_01.row.Holds := by
  have said := Mine.rowSaid
  refine (fun (_ : Mine.secondOf hd) => ?m2) ?hc
  rotate_left
  exact h
  z_head
  case hw => w_witness2
end
namespace Mine
section
open PySem PySem.Sre
set_option maxHeartbeats 1000000
/- the matcher, step by step -/
structure Ma (code t : Array Nat) (m : M) (s pc pos : Nat) (fs : List Sre.Frame) (a : Option Bool) : Prop where
  code : m.code = code
  text : m.text = t
  lim : m.lim = t.size
  wt : m.wholeText = false
  ma : m.mustAdvance = false
  pc : m.pc = pc
  pos : m.pos = pos
  marks : m.marks = #[]
  lm : m.lastmark = -1
  li : m.lastindex = -1
  inn : m.inner = none
  fr : m.frames = fs
  we : m.weight = fs.length
  an : m.answer = a
  ou : m.outcome = none
  st : m.start = s
  ls : m.lastStart = t.size
theorem Ma.form {code t : Array Nat} {m : M} {s pc pos : Nat} {fs : List Sre.Frame} {a : Option Bool} (A : Ma code t m s pc pos fs a) : ∃ hd om lo se, m = ⟨code, t, t.size, s, t.size, false, false, pc, pos, hd, om, #[], -1, -1, lo, none, fs, fs.length, a, se, none⟩ := by
  obtain ⟨a1, a2, a3, a4, a5, a6, a7, a8, a9, a10, a11, a12, a13, a14, a15, a16, a17⟩ := A
  obtain ⟨c, tx, lm, st, ls, wt, ma, pc', pos', hd, om, mk, lmk, li, lo, inn, fr, we, an, se, ou⟩ := m
  simp only at a1 a2 a3 a4 a5 a6 a7 a8 a9 a10 a11 a12 a13 a14 a15 a16 a17
  subst a1 a2 a3 a4 a5 a6 a7 a8 a9 a10 a11 a12 a13 a14 a15 a16 a17
  exact ⟨_, _, _, _, rfl⟩
variable {code t : Array Nat} {m : M} {s pc pos : Nat} {fs : List Sre.Frame}
theorem ma_lit (A : Ma code t m s pc pos fs none) (hpc : pc < code.size) (hop : code.getD pc 0 = 16) (hlt : pos < t.size) (hc : t.getD pos 0 = code.getD (pc + 1) 0) : Ma code t m.step s (pc + 2) (pos + 1) fs none := by
  obtain ⟨hd, om, lo, se, rfl⟩ := A.form
  have hop' : ops[code.getD pc 0]? = some Op.LITERAL := by rw [hop]; rfl
  have hge : ¬ (t.size ≤ pos) := Nat.not_le.mpr hlt
  simp only [M.step, M.exec, M.word, Nat.add_zero, hpc, hop', if_true, if_false, Option.isSome_none, Bool.false_eq_true, ge_iff_le, hge, accepts, hc, itemWidth, beq_self_eq_true]
  exact ⟨rfl, rfl, rfl, rfl, rfl, rfl, rfl, rfl, rfl, rfl, rfl, rfl, rfl, rfl, rfl, rfl, rfl⟩
theorem ma_lit_no (A : Ma code t m s pc pos fs none) (hpc : pc < code.size) (hop : code.getD pc 0 = 16) (hc : pos < t.size → t.getD pos 0 ≠ code.getD (pc + 1) 0) : Ma code t m.step s pc pos fs (some false) := by
  obtain ⟨hd, om, lo, se, rfl⟩ := A.form
  have hop' : ops[code.getD pc 0]? = some Op.LITERAL := by rw [hop]; rfl
  by_cases hge : t.size ≤ pos
  · simp only [M.step, M.exec, M.word, Nat.add_zero, hpc, hop', if_true, if_false, Option.isSome_none, Bool.false_eq_true, ge_iff_le, hge, M.say]
    exact ⟨rfl, rfl, rfl, rfl, rfl, rfl, rfl, rfl, rfl, rfl, rfl, rfl, rfl, rfl, rfl, rfl, rfl⟩
  · have hcf : (t.getD pos 0 == code.getD (pc + 1) 0) = false := beq_false_of_ne (hc (Nat.not_le.mp hge))
    simp only [M.step, M.exec, M.word, Nat.add_zero, hpc, hop', if_true, if_false, Option.isSome_none, Bool.false_eq_true, ge_iff_le, hge, accepts, hcf, M.say]
    exact ⟨rfl, rfl, rfl, rfl, rfl, rfl, rfl, rfl, rfl, rfl, rfl, rfl, rfl, rfl, rfl, rfl, rfl⟩
theorem ma_jump (A : Ma code t m s pc pos fs none) (hpc : pc < code.size) (hop : code.getD pc 0 = 15) : Ma code t m.step s (pc + 1 + code.getD (pc + 1) 0) pos fs none := by
  obtain ⟨hd, om, lo, se, rfl⟩ := A.form
  have hop' : ops[code.getD pc 0]? = some Op.JUMP := by rw [hop]; rfl
  simp only [M.step, M.exec, M.word, Nat.add_zero, hpc, hop', if_true, if_false, Option.isSome_none, Bool.false_eq_true]
  exact ⟨rfl, rfl, rfl, rfl, rfl, rfl, rfl, rfl, rfl, rfl, rfl, rfl, rfl, rfl, rfl, rfl, rfl⟩
theorem ma_succ (A : Ma code t m s pc pos fs none) (hpc : pc < code.size) (hop : code.getD pc 0 = 1) : Ma code t m.step s pc pos fs (some true) ∧ m.step.handed = pos := by
  obtain ⟨hd, om, lo, se, rfl⟩ := A.form
  have hop' : ops[code.getD pc 0]? = some Op.SUCCESS := by rw [hop]; rfl
  simp only [M.step, M.exec, M.word, Nat.add_zero, hpc, hop', if_true, if_false, Option.isSome_none, Bool.false_eq_true, Bool.false_and, Bool.or_false, Bool.and_false, M.say]
  exact ⟨⟨rfl, rfl, rfl, rfl, rfl, rfl, rfl, rfl, rfl, rfl, rfl, rfl, rfl, rfl, rfl, rfl, rfl⟩, trivial⟩
noncomputable def nb (om : Bool) (pc pos : Nat) : Sre.Frame := { wait := .nextBranch, pc, pos, outermost := om }
noncomputable def ns (om : Bool) (pc pos : Nat) : Sre.Frame := { wait := .nextStart, pc, pos, outermost := om }
noncomputable def ln (om : Bool) (pc pos : Nat) : Sre.Frame := { wait := .lookNot, pc, pos, outermost := om }
theorem ma_branch (A : Ma code t m s pc pos fs none) (hpc : pc < code.size) (hop : code.getD pc 0 = 7) (h0 : code.getD (pc + 1) 0 ≠ 0) (hf : fs.length < 100) : ∃ om, Ma code t m.step s (pc + 1 + 1) pos (nb om (pc + 1) pos :: fs) none := by
  obtain ⟨hd, om, lo, se, rfl⟩ := A.form
  have hop' : ops[code.getD pc 0]? = some Op.BRANCH := by rw [hop]; rfl
  have h0' : (code.getD (pc + 1) 0 == 0) = false := beq_false_of_ne h0
  have hw : ¬ (fs.length + 1 + 0 > 16777216) := by (first | lia | omega)
  refine ⟨om, ?_⟩
  simp only [M.step, M.exec, M.word, Nat.add_zero, hpc, hop', if_true, if_false, Option.isSome_none, Bool.false_eq_true, M.alternative, h0', M.attempt, M.keep, M.frame, Array.size_empty, hw]
  exact ⟨rfl, rfl, rfl, rfl, rfl, rfl, rfl, rfl, rfl, rfl, rfl, rfl, rfl, rfl, rfl, rfl, rfl⟩
theorem ma_at (A : Ma code t m s pc pos fs none) (hpc : pc < code.size) (hop : code.getD pc 0 = 6) (h1 : code.getD (pc + 1) 0 = 1) (hy : pos = 0 ∨ t.getD (pos - 1) 0 = 10) : Ma code t m.step s (pc + 2) pos fs none := by
  obtain ⟨hd, om, lo, se, rfl⟩ := A.form
  have hop' : ops[code.getD pc 0]? = some Op.AT := by rw [hop]; rfl
  have hy' : (pos == 0 || t.getD (pos - 1) 0 == 10) = true := by simpa using hy
  simp only [M.step, M.exec, M.word, Nat.add_zero, hpc, hop', if_true, if_false, Option.isSome_none, Bool.false_eq_true, h1, M.isAt, hy']
  exact ⟨rfl, rfl, rfl, rfl, rfl, rfl, rfl, rfl, rfl, rfl, rfl, rfl, rfl, rfl, rfl, rfl, rfl⟩
theorem ma_at_no (A : Ma code t m s pc pos fs none) (hpc : pc < code.size) (hop : code.getD pc 0 = 6) (h1 : code.getD (pc + 1) 0 = 1) (hy : ¬ (pos = 0 ∨ t.getD (pos - 1) 0 = 10)) : Ma code t m.step s pc pos fs (some false) := by
  obtain ⟨hd, om, lo, se, rfl⟩ := A.form
  have hop' : ops[code.getD pc 0]? = some Op.AT := by rw [hop]; rfl
  have hy' : (pos == 0 || t.getD (pos - 1) 0 == 10) = false := by simpa using hy
  simp only [M.step, M.exec, M.word, Nat.add_zero, hpc, hop', if_true, if_false, Option.isSome_none, Bool.false_eq_true, h1, M.isAt, hy', M.say]
  exact ⟨rfl, rfl, rfl, rfl, rfl, rfl, rfl, rfl, rfl, rfl, rfl, rfl, rfl, rfl, rfl, rfl, rfl⟩
theorem ma_not (A : Ma code t m s pc pos fs none) (hpc : pc < code.size) (hop : code.getD pc 0 = 5) (h2 : code.getD (pc + 2) 0 = 0) (hf : fs.length < 100) : ∃ om, Ma code t m.step s (pc + 3) pos (ln om pc pos :: fs) none := by
  obtain ⟨hd, om, lo, se, rfl⟩ := A.form
  have hop' : ops[code.getD pc 0]? = some Op.ASSERT_NOT := by rw [hop]; rfl
  have hw : ¬ (fs.length + 1 + 0 > 16777216) := by (first | lia | omega)
  refine ⟨om, ?_⟩
  simp only [M.step, M.exec, M.word, Nat.add_zero, hpc, hop', if_true, if_false, Option.isSome_none, Bool.false_eq_true, h2, Nat.not_lt_zero, M.attempt, M.keep, M.frame, Array.size_empty, hw, Option.isSome_none, Bool.and_false, Nat.sub_zero, if_true]
  exact ⟨rfl, rfl, rfl, rfl, rfl, rfl, rfl, rfl, rfl, rfl, rfl, rfl, rfl, rfl, rfl, rfl, rfl⟩
variable {p0 q0 : Nat} {ob : Bool} {rest : List Sre.Frame}
theorem ma_nb_yes (A : Ma code t m s pc pos (nb ob p0 q0 :: rest) (some true)) : Ma code t m.step s p0 q0 rest (some true) ∧ m.step.handed = m.handed := by
  obtain ⟨hd, om, lo, se, rfl⟩ := A.form
  have hwe : (nb ob p0 q0 :: rest).length - (1 + 0) = rest.length := by simp
  simp only [M.step, M.resume, M.putBack, if_true, if_false, Option.isSome_none, Bool.false_eq_true, M.say, nb, Array.size_empty]
  exact ⟨⟨rfl, rfl, rfl, rfl, rfl, rfl, rfl, rfl, rfl, rfl, rfl, rfl, hwe, rfl, rfl, rfl, rfl⟩, trivial⟩
theorem ma_nb_no (A : Ma code t m s pc pos (nb ob p0 q0 :: rest) (some false)) (h0 : code.getD (p0 + code.getD p0 0) 0 ≠ 0) (hf : rest.length < 100) : ∃ om, Ma code t m.step s (p0 + code.getD p0 0 + 1) q0 (nb om (p0 + code.getD p0 0) q0 :: rest) none := by
  obtain ⟨hd, om, lo, se, rfl⟩ := A.form
  have hwe : (nb ob p0 q0 :: rest).length - (1 + 0) = rest.length := by simp
  have h0' : (code.getD (p0 + code.getD p0 0) 0 == 0) = false := beq_false_of_ne h0
  have hw : ¬ (rest.length + 1 + 0 > 16777216) := by (first | lia | omega)
  refine ⟨ob, ?_⟩
  simp only [M.step, M.resume, M.putBack, if_true, if_false, Option.isSome_none, Bool.false_eq_true, M.say, nb, Array.size_empty, M.alternative, h0', M.attempt, M.frame]
  simp only [nb, Array.size_empty] at hwe
  rw [hwe, if_neg hw]
  exact ⟨rfl, rfl, rfl, rfl, rfl, rfl, rfl, rfl, rfl, rfl, rfl, rfl, rfl, rfl, rfl, rfl, rfl⟩
theorem ma_ln_no (A : Ma code t m s pc pos (ln ob p0 q0 :: rest) (some false)) : Ma code t m.step s (p0 + 1 + code.getD (p0 + 1) 0) q0 rest none := by
  obtain ⟨hd, om, lo, se, rfl⟩ := A.form
  have hwe : (ln ob p0 q0 :: rest).length - (1 + 0) = rest.length := by simp
  simp only [M.step, M.resume, M.putBack, if_true, if_false, Option.isSome_none, Bool.false_eq_true, M.say, ln, Array.size_empty, M.word]
  exact ⟨rfl, rfl, rfl, rfl, rfl, rfl, rfl, rfl, rfl, rfl, rfl, rfl, hwe, rfl, rfl, rfl, rfl⟩
theorem ma_ns_yes (A : Ma code t m s pc pos (ns ob p0 q0 :: rest) (some true)) : Ma code t m.step s p0 q0 rest (some true) ∧ m.step.handed = m.handed := by
  obtain ⟨hd, om, lo, se, rfl⟩ := A.form
  have hwe : (ns ob p0 q0 :: rest).length - (1 + 0) = rest.length := by simp
  simp only [M.step, M.resume, M.putBack, if_true, if_false, Option.isSome_none, Bool.false_eq_true, M.say, ns, Array.size_empty]
  exact ⟨⟨rfl, rfl, rfl, rfl, rfl, rfl, rfl, rfl, rfl, rfl, rfl, rfl, hwe, rfl, rfl, rfl, rfl⟩, trivial⟩
theorem af_no (m : M) (h : m.hasFirstSet = false) (s : Nat) (first : Bool) : m.attemptFrom s first = m.attemptAt s first := by
  unfold M.attemptFrom; rw [h]; rfl
theorem att_ok (m : M) (f : Sre.Frame) (a b : Nat) (o : Bool) (h : ¬ (m.weight + 1 + f.kept.marks.size > 16777216)) : m.attempt f a b o = { m with frames := f :: m.frames, weight := m.weight + 1 + f.kept.marks.size, pc := a, pos := b, handed := b, outermost := o } := by
  unfold M.attempt; rw [if_neg h]
theorem ma_ns_no (A : Ma code t m s pc pos (ns ob p0 q0 :: rest) (some false)) (hfs : ∀ m' : M, m'.code = code → m'.hasFirstSet = false) (hlt : q0 < t.size) (hf : rest.length < 100) : Ma code t m.step (q0 + 1) p0 (q0 + 1) (ns false p0 (q0 + 1) :: rest) none := by
  obtain ⟨hd, om, lo, se, rfl⟩ := A.form
  have hwe : (ns ob p0 q0 :: rest).length - (1 + 0) = rest.length := by simp
  have hw : ¬ ((ns ob p0 q0 :: rest).length - (1 + 0) + 1 + 0 > 16777216) := by simp; (first | lia | omega)
  simp only [M.step, M.resume, if_false, Option.isSome_none, Bool.false_eq_true, ns, hlt, if_true]
  rw [af_no _ (hfs _ rfl)]
  unfold M.attemptAt
  rw [att_ok _ _ _ _ _ hw]
  exact ⟨rfl, rfl, rfl, rfl, rfl, rfl, rfl, rfl, rfl, rfl, rfl, rfl, by show (ns ob p0 q0 :: rest).length - (1 + 0) + 1 + 0 = rest.length + 1; rw [hwe], rfl, rfl, rfl, rfl⟩
theorem ma_ns_end (A : Ma code t m s pc pos (ns ob p0 q0 :: rest) (some false)) (hge : t.size ≤ q0) : Ma code t m.step s p0 q0 rest (some false) := by
  obtain ⟨hd, om, lo, se, rfl⟩ := A.form
  have hwe : (ns ob p0 q0 :: rest).length - (1 + 0) = rest.length := by simp
  have hlt : ¬ q0 < t.size := Nat.not_lt.mpr hge
  simp only [M.step, M.resume, M.putBack, if_true, if_false, Option.isSome_none, Bool.false_eq_true, M.say, ns, Array.size_empty, hlt]
  exact ⟨rfl, rfl, rfl, rfl, rfl, rfl, rfl, rfl, rfl, rfl, rfl, rfl, hwe, rfl, rfl, rfl, rfl⟩
theorem ma_done {a : Bool} (A : Ma code t m s pc pos [] (some a)) : m.step.outcome = some (if a = true then .matched else .failed) ∧ m.step.start = s ∧ m.step.handed = m.handed := by
  obtain ⟨hd, om, lo, se, rfl⟩ := A.form
  simp only [M.step, M.resume, M.putBack, if_true, if_false, Option.isSome_none, Bool.false_eq_true, M.say]
  exact ⟨trivial, trivial, trivial⟩
/- runs -/
inductive Steps : Nat → M → M → Prop
  | refl (m : M) : Steps 0 m m
  | step {n : Nat} {m m' : M} : m.outcome = none → Steps n m.step m' → Steps (n + 1) m m'
theorem Steps.trans {a b : Nat} {x y z : M} (h : Steps a x y) (k : Steps b y z) : Steps (a + b) x z := by
  induction h with
  | refl => simpa using k
  | @step n m m' ho _ ih => rw [show n + 1 + b = (n + b) + 1 by (first | lia | omega)]; exact .step ho (ih k)
theorem Steps.one {m : M} (ho : m.outcome = none) : Steps 1 m m.step := .step ho (.refl _)
theorem Steps.runFor {n : Nat} {m m' : M} (h : Steps n m m') : ∀ j, M.runFor (n + j) m = M.runFor j m' := by
  induction h with
  | refl => intro j; rw [Nat.zero_add]
  | @step n m m' ho _ ih =>
    intro j
    rw [show n + 1 + j = (n + j) + 1 by (first | lia | omega), M.runFor, if_neg (by rw [ho]; simp)]
    exact ih j
theorem runFor_stop {m : M} (h : m.outcome.isSome = true) : ∀ j, M.runFor j m = m
  | 0 => rfl
  | j + 1 => by rw [M.runFor, if_pos h]
/-- what a search answers, in at most N steps -/
noncomputable def Ans (m : M) (r : Option (Nat × Nat)) (N : Nat) : Prop := ∃ n, n ≤ N ∧ ∃ m', Steps n m m' ∧ match r with
  | some (s, e) => m'.outcome = some .matched ∧ m'.start = s ∧ m'.handed = e
  | none => m'.outcome = some .failed
noncomputable def code1 : Array Nat := #[14, 4, 0, 1, 1, 6, 1, 16, 46, 1]
noncomputable def code2 : Array Nat := #[14, 9, 4, 1, 2, 16, 10, 16, 13, 0, 7, 7, 16, 13, 16, 10, 15, 18, 5, 16, 10, 15, 13, 11, 16, 13, 5, 5, 0, 16, 10, 1, 15, 2, 0, 1]
theorem Ma.out (A : Ma code t m s pc pos fs a) : m.outcome = none := A.ou
/- the first: a dot at a row's begin -/
theorem m1_hit {f : Bool} (A : Ma code1 t m s 5 s [ns f 5 s] none) (h1 : s = 0 ∨ t.getD (s - 1) 0 = 10) (h2 : s < t.size) (h3 : t.getD s 0 = 46) : Ans m (some (s, s + 1)) 5 := by
  have A1 := ma_at A (by decide) rfl rfl h1
  have A2 := ma_lit A1 (by decide) rfl h2 (by rw [h3]; rfl)
  obtain ⟨A3, e3⟩ := ma_succ A2 (by decide) rfl
  obtain ⟨A4, e4⟩ := ma_ns_yes A3
  obtain ⟨o5, s5, e5⟩ := ma_done A4
  exact ⟨5, Nat.le_refl _, _, .step A.ou (.step A1.ou (.step A2.ou (.step A3.ou (.step A4.ou (.refl _))))), o5, s5, by rw [e5, e4, e3]⟩
theorem m1_miss {f : Bool} (A : Ma code1 t m s 5 s [ns f 5 s] none) (h : ¬ ((s = 0 ∨ t.getD (s - 1) 0 = 10) ∧ s < t.size ∧ t.getD s 0 = 46)) : ∃ n m', n ≤ 2 ∧ Steps n m m' ∧ ∃ p q, Ma code1 t m' s p q [ns f 5 s] (some false) := by
  by_cases h1 : s = 0 ∨ t.getD (s - 1) 0 = 10
  · have A1 := ma_at A (by decide) rfl rfl h1
    have A2 := ma_lit_no A1 (by decide) rfl (fun q => by rw [show code1.getD (5 + 2 + 1) 0 = 46 from rfl]; exact fun e => h ⟨h1, q, e⟩)
    exact ⟨2, _, Nat.le_refl _, .step A.ou (.step A1.ou (.refl _)), _, _, A2⟩
  · have A1 := ma_at_no A (by decide) rfl rfl h1
    exact ⟨1, _, by decide, .step A.ou (.refl _), _, _, A1⟩
theorem m1_run {f : Bool} : ∀ (k : Nat) {s : Nat} {m : M} {f : Bool} (A : Ma code1 t m s 5 s [ns f 5 s] none) (hs : s + k ≤ t.size) (hm : ∀ j, s ≤ j → j < s + k → ¬ ((j = 0 ∨ t.getD (j - 1) 0 = 10) ∧ j < t.size ∧ t.getD j 0 = 46)),
    ∃ n m' f', n ≤ 3 * k ∧ Steps n m m' ∧ Ma code1 t m' (s + k) 5 (s + k) [ns f' 5 (s + k)] none
  | 0, s, m, f, A, hs, hm => ⟨0, m, f, Nat.le_refl _, .refl _, A⟩
  | k + 1, s, m, f, A, hs, hm => by
    obtain ⟨n1, m1, hn1, S1, p, q, A1⟩ := m1_miss A (hm s (Nat.le_refl _) (by (first | lia | omega)))
    have A2 := ma_ns_no A1 (fun m' e => by unfold M.hasFirstSet; rw [e]; rfl) (by (first | lia | omega)) (by decide)
    obtain ⟨n3, m3, f3, hn3, S3, A3⟩ := m1_run (f := false) k A2 (by (first | lia | omega)) (fun j h1 h2 => hm j (by (first | lia | omega)) (by (first | lia | omega)))
    refine ⟨n1 + (1 + n3), m3, f3, by (first | lia | omega), S1.trans ((Steps.one A1.ou).trans S3), ?_⟩
    rw [show s + (k + 1) = s + 1 + k by (first | lia | omega)]; exact A3
theorem m1_some {f : Bool} {s' : Nat} (A : Ma code1 t m s 5 s [ns f 5 s] none) (hle : s ≤ s') (hm : ∀ j, s ≤ j → j < s' → ¬ ((j = 0 ∨ t.getD (j - 1) 0 = 10) ∧ j < t.size ∧ t.getD j 0 = 46)) (h1 : s' = 0 ∨ t.getD (s' - 1) 0 = 10) (h2 : s' < t.size) (h3 : t.getD s' 0 = 46) :
    Ans m (some (s', s' + 1)) (3 * t.size + 10) := by
  obtain ⟨n, m', f', hn, S, A'⟩ := m1_run (f := f) (s' - s) A (by (first | lia | omega)) (fun j a b => hm j a (by (first | lia | omega)))
  rw [show s + (s' - s) = s' by (first | lia | omega)] at A'
  obtain ⟨n2, hn2, m2, S2, r⟩ := m1_hit A' h1 h2 h3
  exact ⟨n + n2, by (first | lia | omega), m2, S.trans S2, r⟩
theorem m1_none {f : Bool} (A : Ma code1 t m s 5 s [ns f 5 s] none) (hle : s ≤ t.size) (hm : ∀ j, s ≤ j → j < t.size → ¬ ((j = 0 ∨ t.getD (j - 1) 0 = 10) ∧ j < t.size ∧ t.getD j 0 = 46)) :
    Ans m none (3 * t.size + 10) := by
  obtain ⟨n, m', f', hn, S, A'⟩ := m1_run (f := f) (t.size - s) A (by (first | lia | omega)) (fun j a b => hm j a (by (first | lia | omega)))
  rw [show s + (t.size - s) = t.size by (first | lia | omega)] at A'
  obtain ⟨n1, m1, hn1, S1, p, q, A1⟩ := m1_miss A' (fun q => Nat.lt_irrefl _ q.2.1)
  have A2 := ma_ns_end A1 (Nat.le_refl _)
  obtain ⟨o3, _, _⟩ := ma_done A2
  exact ⟨n + (n1 + (1 + 1)), by (first | lia | omega), _, S.trans (S1.trans ((Steps.one A1.ou).trans (Steps.one A2.ou))), o3⟩
/- the second: a line's end -/
theorem m2_end {om f : Bool} {e p : Nat} (A : Ma code2 t m s 35 e (nb om p s :: [ns f 10 s]) none) : Ans m (some (s, e)) 5 := by
  obtain ⟨A1, e1⟩ := ma_succ A (by decide) rfl
  obtain ⟨A2, e2⟩ := ma_nb_yes A1
  obtain ⟨A3, e3⟩ := ma_ns_yes A2
  obtain ⟨o4, s4, e4⟩ := ma_done A3
  exact ⟨4, by decide, _, .step A.ou (.step A1.ou (.step A2.ou (.step A3.ou (.refl _)))), o4, s4, by rw [e4, e3, e2, e1]⟩
theorem Ans.after {n N : Nat} {m m' : M} {r : Option (Nat × Nat)} (S : Steps n m m') (h : Ans m' r N) : Ans m r (n + N) := by
  obtain ⟨k, hk, m2, S2, r2⟩ := h
  exact ⟨n + k, by (first | lia | omega), m2, S.trans S2, r2⟩
theorem m2_crlf {f : Bool} (A : Ma code2 t m s 10 s [ns f 10 s] none) (h1 : s + 1 < t.size) (h2 : t.getD s 0 = 13) (h3 : t.getD (s + 1) 0 = 10) : Ans m (some (s, s + 2)) 30 := by
  obtain ⟨om, A1⟩ := ma_branch A (by decide) rfl (by decide) (by simp)
  have A2 := ma_lit A1 (by decide) rfl (by (first | lia | omega)) (by rw [h2]; rfl)
  have A3 := ma_lit A2 (by decide) rfl h1 (by rw [h3]; rfl)
  have A4 := ma_jump A3 (by decide) rfl
  obtain ⟨k, hk, r⟩ := m2_end A4
  exact ⟨4 + k, by (first | lia | omega), r.imp fun m' ⟨S, q⟩ => ⟨(Steps.step A.ou (.step A1.ou (.step A2.ou (.step A3.ou (.refl _))))).trans S, q⟩⟩
theorem m2_lf {f : Bool} (A : Ma code2 t m s 10 s [ns f 10 s] none) (h1 : s < t.size) (h2 : t.getD s 0 = 10) : Ans m (some (s, s + 1)) 30 := by
  obtain ⟨om, A1⟩ := ma_branch A (by decide) rfl (by decide) (by simp)
  have A2 := ma_lit_no A1 (by decide) rfl (fun _ => by rw [h2]; decide)
  obtain ⟨om2, A3⟩ := ma_nb_no A2 (by decide) (by simp)
  have A4 := ma_lit A3 (by decide) rfl h1 (by rw [h2]; rfl)
  have A5 := ma_jump A4 (by decide) rfl
  obtain ⟨k, hk, r⟩ := m2_end A5
  exact ⟨5 + k, by (first | lia | omega), r.imp fun m' ⟨S, q⟩ => ⟨(Steps.step A.ou (.step A1.ou (.step A2.ou (.step A3.ou (.step A4.ou (.refl _)))))).trans S, q⟩⟩
theorem m2_cr {f : Bool} (A : Ma code2 t m s 10 s [ns f 10 s] none) (h1 : s < t.size) (h2 : t.getD s 0 = 13) (h3 : s + 1 < t.size → t.getD (s + 1) 0 ≠ 10) : Ans m (some (s, s + 1)) 30 := by
  obtain ⟨om, A1⟩ := ma_branch A (by decide) rfl (by decide) (by simp)
  have A2 := ma_lit A1 (by decide) rfl h1 (by rw [h2]; rfl)
  have A3 := ma_lit_no A2 (by decide) rfl (fun q => h3 q)
  obtain ⟨om2, A4⟩ := ma_nb_no A3 (by decide) (by simp)
  have A5 := ma_lit_no A4 (by decide) rfl (fun _ => by rw [h2]; decide)
  obtain ⟨om3, A6⟩ := ma_nb_no A5 (by decide) (by simp)
  have A7 := ma_lit A6 (by decide) rfl h1 (by rw [h2]; rfl)
  obtain ⟨om4, A8⟩ := ma_not A7 (by decide) rfl rfl (by simp)
  have A9 := ma_lit_no A8 (by decide) rfl (fun q => h3 q)
  have A10 := ma_ln_no A9
  have A11 := ma_jump A10 (by decide) rfl
  obtain ⟨k, hk, r⟩ := m2_end A11
  exact ⟨11 + k, by (first | lia | omega), r.imp fun m' ⟨S, q⟩ => ⟨(Steps.step A.ou (.step A1.ou (.step A2.ou (.step A3.ou (.step A4.ou (.step A5.ou (.step A6.ou (.step A7.ou (.step A8.ou (.step A9.ou (.step A10.ou (.refl _)))))))))))).trans S, q⟩⟩
theorem inset2 (c : Nat) (se : Seen) : ∃ sn, inSet code2 c code2.size 5 true se = .ok (decide (c = 10) || decide (c = 13), sn) := by
  by_cases h1 : c = 10
  · subst h1; exact ⟨_, rfl⟩
  · by_cases h2 : c = 13
    · subst h2; exact ⟨_, rfl⟩
    · have e1 : (c == 10) = false := beq_false_of_ne h1
      have e2 : (c == 13) = false := beq_false_of_ne h2
      rw [decide_eq_false h1, decide_eq_false h2]
      refine ⟨((se.add 16).add 16).add 0, ?_⟩
      show (if (c == 10) = true then _ else if (c == 13) = true then _ else _) = _
      rw [e1, e2]
      rfl
theorem adm_some {m : M} (hc : m.code = code2) (hl : m.lim = m.text.size) {s' : Nat} (h2 : s' < m.text.size) (h3 : m.text.getD s' 0 = 10 ∨ m.text.getD s' 0 = 13) : ∀ (fuel s : Nat) (se : Seen), s ≤ s' → s' - s < fuel → (∀ j, s ≤ j → j < s' → m.text.getD j 0 ≠ 10 ∧ m.text.getD j 0 ≠ 13) →
    ∃ sn, M.admitted m fuel s se = .ok (some s', sn)
  | 0, s, se, h, hf, _ => absurd hf (by (first | lia | omega))
  | fuel + 1, s, se, h, hf, hm => by
    obtain ⟨sn, e⟩ := inset2 (m.text.getD s 0) se
    rw [M.admitted, if_neg (by rw [hl]; (first | lia | omega)), hc, e]
    by_cases q : s = s'
    · subst q
      rw [show (decide (m.text.getD s 0 = 10) || decide (m.text.getD s 0 = 13)) = true by rcases h3 with h3 | h3 <;> rw [h3] <;> rfl]
      exact ⟨_, rfl⟩
    · have := hm s (Nat.le_refl _) (by (first | lia | omega))
      rw [decide_eq_false this.1, decide_eq_false this.2]
      exact adm_some hc hl h2 h3 fuel (s + 1) sn (by (first | lia | omega)) (by (first | lia | omega)) (fun j a b => hm j (by (first | lia | omega)) b)
theorem adm_none {m : M} (hc : m.code = code2) (hl : m.lim = m.text.size) : ∀ (fuel s : Nat) (se : Seen), (∀ j, s ≤ j → j < m.text.size → m.text.getD j 0 ≠ 10 ∧ m.text.getD j 0 ≠ 13) →
    ∃ sn, M.admitted m fuel s se = .ok (none, sn)
  | 0, s, se, _ => ⟨_, rfl⟩
  | fuel + 1, s, se, hm => by
    by_cases q : s < m.text.size
    · obtain ⟨sn, e⟩ := inset2 (m.text.getD s 0) se
      rw [M.admitted, if_neg (by rw [hl]; (first | lia | omega)), hc, e]
      have := hm s (Nat.le_refl _) q
      rw [decide_eq_false this.1, decide_eq_false this.2]
      exact adm_none hc hl fuel (s + 1) sn (fun j a b => hm j (by (first | lia | omega)) b)
    · rw [M.admitted, if_pos (by rw [hl]; (first | lia | omega))]
      exact ⟨_, rfl⟩
theorem ans_no {m : M} (h : m.answer = some false) (hf : m.frames = []) (ho : m.outcome = none) : Ans m none 1 := by
  refine ⟨1, Nat.le_refl _, _, Steps.one ho, ?_⟩
  unfold M.step
  simp only [ho, h, hf, Option.isSome_none, Bool.false_eq_true, if_false]
/-- the machine that a search begins with -/
noncomputable def m0 (code t : Array Nat) (pc pos : Nat) (se : Seen) (ls : Nat) : M := { code, text := t, lim := t.size, start := pos, pc, pos, handed := pos, marks := #[], mustAdvance := false, seen := se, lastStart := ls }
theorem fs1 (t : Array Nat) (pos : Nat) : forSearch code1 t 0 pos t.size false = if (decide (pos > t.size) || decide (t.size - pos < 1)) = true then (m0 code1 t 5 pos (({} : Seen).add 14) 0).say false else (m0 code1 t 5 pos (({} : Seen).add 14) t.size).attemptFrom pos true := rfl
theorem fs2 (t : Array Nat) (pos : Nat) : forSearch code2 t 0 pos t.size false = if (decide (pos > t.size) || decide (t.size - pos < 1)) = true then (m0 code2 t 10 pos (({} : Seen).add 14) 0).say false else (m0 code2 t 10 pos (({} : Seen).add 14) t.size).attemptFrom pos true := rfl
theorem att0 (code t : Array Nat) (pc pos s : Nat) (se : Seen) : Ma code t ((m0 code t pc pos se t.size).attemptAt s true) s pc s [ns true pc s] none := by
  unfold M.attemptAt
  rw [att_ok _ _ _ _ _ (by show ¬ (0 + 1 + 0 > 16777216); decide)]
  exact ⟨rfl, rfl, rfl, rfl, rfl, rfl, rfl, rfl, rfl, rfl, rfl, rfl, rfl, rfl, rfl, rfl, rfl⟩
noncomputable def dotAt (t : Array Nat) (j : Nat) : Prop := (j = 0 ∨ t.getD (j - 1) 0 = 10) ∧ j < t.size ∧ t.getD j 0 = 46
theorem search1_some {t : Array Nat} {pos s' : Nat} (hle : pos ≤ s') (hm : ∀ j, pos ≤ j → j < s' → ¬ dotAt t j) (h : dotAt t s') : Ans (forSearch code1 t 0 pos t.size false) (some (s', s' + 1)) (3 * t.size + 10) := by
  rw [fs1, if_neg (by have := h.2.1; simp; (first | lia | omega)), af_no _ rfl]
  exact m1_some (att0 _ _ _ _ _ _) hle hm h.1 h.2.1 h.2.2
theorem search1_none {t : Array Nat} {pos : Nat} (hm : ∀ j, pos ≤ j → j < t.size → ¬ dotAt t j) : Ans (forSearch code1 t 0 pos t.size false) none (3 * t.size + 10) := by
  rw [fs1]
  split
  · obtain ⟨n, hn, r⟩ := ans_no (m := (m0 code1 t 5 pos (({} : Seen).add 14) 0).say false) rfl rfl rfl
    exact ⟨n, by (first | lia | omega), r⟩
  · rename_i h
    rw [af_no _ rfl]
    exact m1_none (att0 _ _ _ _ _ _) (by simp at h; (first | lia | omega)) hm
noncomputable def endAt (t : Array Nat) (j : Nat) : Prop := j < t.size ∧ (t.getD j 0 = 10 ∨ t.getD j 0 = 13)
noncomputable def endLen (t : Array Nat) (j : Nat) : Nat := if t.getD j 0 = 13 ∧ j + 1 < t.size ∧ t.getD (j + 1) 0 = 10 then 2 else 1
theorem search2_some {t : Array Nat} {pos s' : Nat} (hle : pos ≤ s') (hm : ∀ j, pos ≤ j → j < s' → ¬ endAt t j) (h : endAt t s') : Ans (forSearch code2 t 0 pos t.size false) (some (s', s' + endLen t s')) 30 := by
  have hlt := h.1
  rw [fs2, if_neg (by simp; (first | lia | omega))]
  obtain ⟨sn, e⟩ := adm_some (m := m0 code2 t 10 pos (({} : Seen).add 14) t.size) rfl rfl h.1 h.2 (t.size + 1 - pos) pos (({} : Seen).add 14) hle (by (first | lia | omega)) (fun j a b => by
    have := hm j a b
    refine ⟨fun q => this ⟨by (first | lia | omega), .inl q⟩, fun q => this ⟨by (first | lia | omega), .inr q⟩⟩)
  have ef : (m0 code2 t 10 pos (({} : Seen).add 14) t.size).attemptFrom pos true = (m0 code2 t 10 pos sn t.size).attemptAt s' true := by
    unfold M.attemptFrom
    rw [show (m0 code2 t 10 pos (({} : Seen).add 14) t.size).hasFirstSet = true from rfl]
    show (match M.admitted (m0 code2 t 10 pos (({} : Seen).add 14) t.size) (t.size + 1 - pos) pos (({} : Seen).add 14) with | .ok (some s, seen) => _ | .ok (none, seen) => _ | .error why => _) = _
    rw [e]
    rfl
  rw [ef]
  have A := att0 code2 t 10 pos s' sn
  unfold endLen
  rcases h.2 with h2 | h2
  · rw [if_neg (by rw [h2]; exact fun q => absurd q.1 (by decide))]
    exact m2_lf A h.1 h2
  · by_cases q : s' + 1 < t.size ∧ t.getD (s' + 1) 0 = 10
    · rw [if_pos ⟨h2, q⟩]
      exact m2_crlf A q.1 h2 q.2
    · rw [if_neg (fun r => q r.2)]
      exact m2_cr A h.1 h2 (fun r e => q ⟨r, e⟩)
theorem search2_none {t : Array Nat} {pos : Nat} (hm : ∀ j, pos ≤ j → j < t.size → ¬ endAt t j) : Ans (forSearch code2 t 0 pos t.size false) none 30 := by
  have key : ∀ m : M, m.answer = some false → m.frames = [] → m.outcome = none → Ans m none 30 := fun m a b c => by
    obtain ⟨n, hn, r⟩ := ans_no a b c
    exact ⟨n, by (first | lia | omega), r⟩
  rw [fs2]
  split
  · exact key _ rfl rfl rfl
  · obtain ⟨sn, e⟩ := adm_none (m := m0 code2 t 10 pos (({} : Seen).add 14) t.size) rfl rfl (t.size + 1 - pos) pos (({} : Seen).add 14) (fun j a b => ⟨fun q => hm j a b ⟨b, .inl q⟩, fun q => hm j a b ⟨b, .inr q⟩⟩)
    have ef : (m0 code2 t 10 pos (({} : Seen).add 14) t.size).attemptFrom pos true = (m0 code2 t 10 pos sn t.size).say false := by
      unfold M.attemptFrom
      rw [show (m0 code2 t 10 pos (({} : Seen).add 14) t.size).hasFirstSet = true from rfl]
      show (match M.admitted (m0 code2 t 10 pos (({} : Seen).add 14) t.size) (t.size + 1 - pos) pos (({} : Seen).add 14) with | .ok (some s, seen) => _ | .ok (none, seen) => _ | .error why => _) = _
      rw [e]
      rfl
    rw [ef]
    exact key _ rfl rfl rfl
end
section
open PySem PySem.W PyProof.Rows PySem.Calls PySem.Spec
set_option maxHeartbeats 1000000
theorem holdG {G : Prop} (h : ∀ P : Prop, (G → P) → P) : G := h G id
theorem fm_cons {α : Type} {P : α → Prop} {a : α} {l : List α} (h : P a) (t : ∀ p ∈ l, P p) : ∀ p ∈ a :: l, P p := List.forall_mem_cons.mpr ⟨h, t⟩
theorem fm_app {α : Type} {P : α → Prop} {k l : List α} (h : ∀ p ∈ k, P p) (t : ∀ p ∈ l, P p) : ∀ p ∈ k ++ l, P p := fun p q => (List.mem_append.mp q).elim (h p) (t p)
theorem mid_front {α : Type} {p x : α} (u : List α) {v : List α} (h : p ∈ u ++ x :: v) : p ∈ x :: (u ++ v) :=
  fm_app (fun _ q => .tail _ (List.mem_append_left _ q)) (fm_cons (.head _) fun _ q => .tail _ (List.mem_append_right _ q)) p h
theorem mid_back {α : Type} {p x : α} (u : List α) {v : List α} (h : p ∈ x :: (u ++ v)) : p ∈ u ++ x :: v :=
  fm_cons (P := (· ∈ u ++ x :: v)) (List.mem_append_right _ (.head _)) (fm_app (fun _ q => List.mem_append_left _ q) fun _ q => List.mem_append_right _ (.tail _ q)) p h
theorem app_mono {α : Type} {p : α} (u : List α) {v w : List α} (f : p ∈ v → p ∈ w) (h : p ∈ u ++ v) : p ∈ u ++ w :=
  (List.mem_append.mp h).elim (fun q => List.mem_append_left _ q) fun q => List.mem_append_right _ (f q)
theorem app_swap {α : Type} {p : α} {u v : List α} (h : p ∈ u ++ v) : p ∈ v ++ u := (List.mem_append.mp h).elim (fun q => List.mem_append_right _ q) fun q => List.mem_append_left _ q
theorem gN {α : Type} {x : Option α} (f : ∀ o, x = some o → False) : x = none := match x, f with | none, _ => rfl | some o, f => (f o rfl).elim
theorem gX {α : Type} {x : Option α} {o : α} {P : Prop} (a : x = none) (b : x = some o) : P := nomatch a.symm.trans b
/-- the top's objects that no run changes: all but the two code tables that grow -/
noncomputable def KN (P : Params) : Frag := (hd.heap_199 P).filter (fun p => p.1 != 226 && p.1 != 147)
noncomputable abbrev MM (w : World) : Model := model PySem.Challenge.rw_pk0100_01.row.prog w
noncomputable def Ext (h h' : Heap) : Prop := ∀ b o, h.get? b = some o → h'.get? b = some o
theorem Ext.refl (h : Heap) : Ext h h := fun _ _ e => e
theorem Ext.trans {a b c : Heap} (x : Ext a b) (y : Ext b c) : Ext a c := fun _ _ e => y _ _ (x _ _ e)
theorem Ext.push (h : Heap) (o : Obj) : Ext h (h.push o) := fun _ _ e => Heap.get?_push_of_some o e
structure Bs (w : World) (mg mb : Str → Option Value) (h : Heap) : Prop where
  X : (KN w.params).In h
  gl : h.Ns mainGlobals mg
  bl : h.Ns builtinsNs mb
  bi : ∀ x : Str, x ≠ "__name__" → mb x = bootBuiltins x
  lim : h.NoLimit
theorem Bs.ext {w : World} {mg mb : Str → Option Value} {h h' : Heap} (B : Bs w mg mb h) (x : Ext h h') : Bs w mg mb h' :=
  ⟨B.X.keeps x, B.gl.keeps x, B.bl.keeps x, B.bi, B.lim.keeps x⟩
theorem fr_ext {h₀ h h' : Heap} {L : Addr} {m : Str → Option Value} (F : Fr h₀ L h m) (x : Ext h h') : Fr h₀ L h' m := ⟨F.ns.keeps x, fun b o e => x b o (F.keep b o e), F.above⟩
theorem nw_ext {h₀ h h' : Heap} {L : Addr} {nw : List (Addr × Obj)} (N : News h₀ L h nw) (x : Ext h h') : News h₀ L h' nw := fun p hp => ⟨x _ _ (N p hp).1, (N p hp).2⟩
noncomputable def Upd (m : Str → Option Value) (x : Str) (v : Value) : Str → Option Value := fun y => if y = x then some v else m y
theorem upd_self {m : Str → Option Value} {x : Str} {v : Value} : Upd m x v x = some v := if_pos rfl
theorem upd_ne {m : Str → Option Value} {x y : Str} {v u : Value} (h : decide (x = y) = false) (hm : m x = some u) : Upd m y v x = some u := by
  unfold Upd; rw [if_neg (of_decide_eq_false h)]; exact hm
section
variable {prog : Program} {w : World} {A : Around} {E : Value → Shared → Prop} {h h₀ : Heap} {g : Array GenState} {d : Drawn} {tk : Nat} {os : OsState} {env : Env} {L : Addr} {m mg mb : Str → Option Value} {nw : List (Addr × Obj)}
theorem c_int {i k pos} {Q : Value → Shared → Prop} (hQ : ∀ t tk, Q (.int i t) ⟨h, g, d, tk, os⟩) : wpAny (model prog w) A (eval (.Constant (.int i) k pos) env) Q E ⟨h, g, d, tk, os⟩ := wpAny_Constant_int (hQ _ _)
theorem c_str {i k pos} {Q : Value → Shared → Prop} (hQ : ∀ t tk, Q (.str i t) ⟨h, g, d, tk, os⟩) : wpAny (model prog w) A (eval (.Constant (.str i) k pos) env) Q E ⟨h, g, d, tk, os⟩ := Calls.Constant_str (hQ _ _)
theorem c_bool {b k pos} {Q : Value → Shared → Prop} (hQ : Q (.bool b) ⟨h, g, d, tk, os⟩) : wpAny (model prog w) A (eval (.Constant (.bool b) k pos) env) Q E ⟨h, g, d, tk, os⟩ := wpAny_Constant_bool hQ
theorem c_none {k pos} {Q : Value → Shared → Prop} (hQ : Q .none ⟨h, g, d, tk, os⟩) : wpAny (model prog w) A (eval (.Constant .none k pos) env) Q E ⟨h, g, d, tk, os⟩ := wpAny_Constant_none hQ
theorem nm_loc {x : Str} {pos : Pos} {v : Value} {Q : Value → Shared → Prop} (F : Fr h₀ L h m) (hv : m x = some v) (hQ : Q v ⟨h, g, d, tk, os⟩)
    (hk : env.scope.kind = .function := by rfl) (hl : env.kindOf x = some .local := by rfl) (hL : env.locals = L := by rfl) (hd : (x == ("__debug__" : Str)) = false := by decide +kernel) :
    wpAny (model prog w) A (eval (.Name x pos) env) Q E ⟨h, g, d, tk, os⟩ := wpAny_Name (wpAny_loadName_local hk hl (hL ▸ F.ns) hv hQ) hd
theorem nm_glob {x : Str} {pos : Pos} {v : Value} {Q : Value → Shared → Prop} (F : Fr h₀ L h m) (B : Bs w mg mb h₀) (e : nsIn (KN w.params) mainGlobals x = some (some v)) (hQ : Q v ⟨h, g, d, tk, os⟩)
    (hk : env.scope.kind = .function := by rfl) (hl : env.kindOf x = some .globalImplicit := by rfl) (hL : env.globals = mainGlobals := by rfl) (hd : (x == ("__debug__" : Str)) = false := by decide +kernel) :
    wpAny (model prog w) A (eval (.Name x pos) env) Q E ⟨h, g, d, tk, os⟩ :=
  Name_function_global hk hl (loadGlobal_global (by rw [hL]; exact B.gl.keeps F.keep) (mg_of B.X B.gl e) hQ) hd
theorem nm_bi {x : Str} {pos : Pos} {v : Value} {Q : Value → Shared → Prop} (F : Fr h₀ L h m) (B : Bs w mg mb h₀) (e : nsIn (KN w.params) mainGlobals x = some none) (hv : bootBuiltins x = some v) (hn : decide (x = "__name__") = false) (hQ : Q v ⟨h, g, d, tk, os⟩)
    (hk : env.scope.kind = .function := by rfl) (hl : env.kindOf x = some .globalImplicit := by rfl) (hL : env.globals = mainGlobals := by rfl) (hB : env.builtins = builtinsNs := by rfl) (hd : (x == ("__debug__" : Str)) = false := by decide +kernel) :
    wpAny (model prog w) A (eval (.Name x pos) env) Q E ⟨h, g, d, tk, os⟩ :=
  Name_function_global hk hl (loadGlobal_builtin (by rw [hL]; exact B.gl.keeps F.keep) (mg_none_of B.X B.gl e) (by rw [hB]; exact B.bl.keeps F.keep) ((B.bi x (of_decide_eq_false hn)).trans hv) hQ) hd
theorem st_loc {x : Str} {v : Value} {Q : Unit → Shared → Prop} (F : Fr h₀ L h m) (N : News h₀ L h nw) (hQ : ∀ h' tk, Fr h₀ L h' (Upd m x v) → News h₀ L h' nw → Q () ⟨h', g, d, tk, os⟩)
    (hk : env.scope.kind = .function := by rfl) (hl : env.kindOf x = some .local := by rfl) (hL : env.locals = L := by rfl) : wpAny (model prog w) A (storeName env x v) Q E ⟨h, g, d, tk, os⟩ := by
  subst hL
  exact wpAny_storeName_local hl F.ns (fun h' hn hs => hQ h' _ (F.set hn hs) (N.set hs)) (by rw [hk]; rfl)
/- ints -/
theorem o_add {a b : Int} {t u : Tok} {Q : Value → Shared → Prop} (hQ : ∀ t tk, Q (.int (a + b) t) ⟨h, g, d, tk, os⟩) : wpAny (model prog w) A (binaryOp .Add (.int a t) (.int b u)) Q E ⟨h, g, d, tk, os⟩ := PyProof.Rows.add_int (hQ _ _)
theorem o_sub {a b : Int} {t u : Tok} {Q : Value → Shared → Prop} (hQ : ∀ t tk, Q (.int (a - b) t) ⟨h, g, d, tk, os⟩) : wpAny (model prog w) A (binaryOp .Sub (.int a t) (.int b u)) Q E ⟨h, g, d, tk, os⟩ := PyProof.Rows.sub_int (hQ _ _)
theorem o_lt {a b : Int} {t u : Tok} {Q : Value → Shared → Prop} (hQ : Q (.bool (decide (a < b))) ⟨h, g, d, tk, os⟩) : wpAny (model prog w) A (compareOp .Lt (.int a t) (.int b u)) Q E ⟨h, g, d, tk, os⟩ := PyProof.Rows.lt_int hQ
theorem o_le {a b : Int} {t u : Tok} {Q : Value → Shared → Prop} (hQ : Q (.bool (decide (a ≤ b))) ⟨h, g, d, tk, os⟩) : wpAny (model prog w) A (compareOp .LtE (.int a t) (.int b u)) Q E ⟨h, g, d, tk, os⟩ := PyProof.Rows.le_int hQ
theorem o_ge {a b : Int} {t u : Tok} {Q : Value → Shared → Prop} (hQ : Q (.bool (decide (b ≤ a))) ⟨h, g, d, tk, os⟩) : wpAny (model prog w) A (compareOp .GtE (.int a t) (.int b u)) Q E ⟨h, g, d, tk, os⟩ := PyProof.Rows.ge_int hQ
theorem o_ne {a b : Int} {t u : Tok} {Q : Value → Shared → Prop} (hQ : Q (.bool (a != b)) ⟨h, g, d, tk, os⟩) : wpAny (model prog w) A (compareOp .NotEq (.int a t) (.int b u)) Q E ⟨h, g, d, tk, os⟩ := PyProof.Rows.ne_int hQ
theorem o_eq {a b : Int} {t u : Tok} {Q : Value → Shared → Prop} (hQ : Q (.bool (a == b)) ⟨h, g, d, tk, os⟩) : wpAny (model prog w) A (compareOp .Eq (.int a t) (.int b u)) Q E ⟨h, g, d, tk, os⟩ := PyProof.Rows.eq_int hQ
theorem t_bool {b : Bool} {Q : Bool → Shared → Prop} (hQ : Q b ⟨h, g, d, tk, os⟩) : wpAny (model prog w) A (truthy (.bool b)) Q E ⟨h, g, d, tk, os⟩ := wpAny_truthy_bool hQ
end
end
section
open PySem PySem.W PyProof.Rows PySem.Calls PySem.Spec
set_option maxHeartbeats 1000000
noncomputable def fnIn? (o : Obj) : FuncData := match o.data with | .func fd => fd | _ => default
/- lookups in the locals -/
noncomputable def Lk (l : List (Str × Value)) : Str → Option Value := fun x => l.lookup x
theorem lk_self {l : List (Str × Value)} {x : Str} {v : Value} : Lk ((x, v) :: l) x = some v := by unfold Lk; rw [List.lookup_cons, beq_self_eq_true]
theorem lk_ne {l : List (Str × Value)} {x y : Str} {v u : Value} (hn : decide (x = y) = false) (hx : Lk l x = some u) : Lk ((y, v) :: l) x = some u := by
  unfold Lk at *; rw [List.lookup_cons]
  have : (x == y) = false := by simpa using hn
  rw [this]; exact hx
noncomputable def retOf : Flow → Value | .ret v => v | _ => .none
section
variable {w : World} {A : Around} {E : Value → Shared → Prop} {h : Heap} {g : Array GenState} {d : Drawn} {tk : Nat} {os : OsState} {mg mb : Str → Option Value}
theorem enter {f : Addr} {o : Obj} {fd : FuncData} {body : List Stmt} {pos : List Value} {kw : List (Str × Value)} {binds bindsR : List (Str × Value)} {Q : Value → Shared → Prop}
    (B : Bs w mg mb h) (hf : (KN w.params).lookup f = some o) (hd : o.data = .func fd) (hcd : codeIn (KN w.params) fd.code fd.qualname = true) (hbody : fd.body = .stmts body)
    (hbind : BindsTo ⟨h, g, d, tk, os⟩ fd ⟨pos, kw⟩ binds) (room : A.depth < recursionLimit)
    (hb : ∀ h₁ L tk E', Fr h L h₁ (Lk bindsR) →
      wpAny (MM w) (A.deeper (callEnv fd L f)) (execs body (callEnv fd L f)) (fun fl s' => Q (retOf fl) s') E' ⟨h₁, g, d, tk, os⟩)
    (hcell : fd.scope.names.all (fun x => x.2 != .cell) = true) (hloc : binds.all (fun x => fd.scope.names.lookup x.1 == some .local) = true)
    (hco : fd.scope.isCoroutine = false) (hgen : fd.scope.isGenerator = false) (hk : fd.scope.kind = .function) (hrev : binds.reverse = bindsR) :
    wpAny (MM w) A (call (.ref f) pos kw) Q E ⟨h, g, d, tk, os⟩ := by
  subst hrev
  refine wpAny_call (codeAny_call_def (binds := binds) room (B.X _ _ hf) hd B.lim (codeRec_of B.X hcd) hbody hbind (fun x hx => by simpa using List.all_eq_true.mp hcell x hx) (fun x hx => by simpa using List.all_eq_true.mp hloc x hx) (fun h₁ hns hkp => ?_) hco hgen hk)
  refine wpAny_mono (hb h₁ h.objs.size _ (fun e s' => wpAny (MM w) (A.deeper (callEnv fd h.objs.size f)) (leaving (callEnv fd h.objs.size f) e) (fun _ s'' => E e s'') (fun e' s'' => E e' s'') s') ⟨hns, hkp, Nat.le_refl _⟩) (fun fl s' q => ?_) (fun _ _ q => q)
  cases fl <;> exact q
end
/- sequencing -/
noncomputable def Sq (M : Model) (A : Around) (rest : List Stmt) (env : Env) (Q : Flow → Shared → Prop) (E : Value → Shared → Prop) : Flow → Shared → Prop :=
  fun f s' => match f with | .next => wpAny M A (execs rest env) Q E s' | f => Q f s'
section
variable {M : Model} {A : Around} {E : Value → Shared → Prop} {s : Shared} {env : Env} {Q : Flow → Shared → Prop}
theorem seq {st : Stmt} {rest : List Stmt} (hx : wpAny M A (exec st env) (Sq M A rest env Q E) E s) : wpAny M A (execs (st :: rest) env) Q E s :=
  wpAny_execs_cons (wpAny_mono hx (fun f _ q => by cases f <;> exact q) (fun _ _ q => q))
theorem sq_next {rest : List Stmt} (hx : wpAny M A (execs rest env) Q E s) : Sq M A rest env Q E .next s := hx
theorem sq_ret {rest : List Stmt} {v : Value} (hx : Q (.ret v) s) : Sq M A rest env Q E (.ret v) s := hx
theorem sq_brk {rest : List Stmt} (hx : Q .brk s) : Sq M A rest env Q E .brk s := hx
theorem sq_cont {rest : List Stmt} (hx : Q .cont s) : Sq M A rest env Q E .cont s := hx
end
theorem ifB {b : Bool} {P P' : Prop} (h1 : b = true → P) (h2 : b = false → P') : if b = true then P else P' := by cases b <;> simp_all
theorem ifT {b : Bool} {P P' : Prop} (hb : b = true) (h1 : P) : if b = true then P else P' := by rw [if_pos hb]; exact h1
theorem ifF {b : Bool} {P P' : Prop} (hb : b = false) (h1 : P') : if b = true then P else P' := by rw [hb]; exact h1
end
section
open PySem PySem.W PyProof.Rows PySem.Calls PySem.Spec
set_option maxHeartbeats 1000000
theorem news_sub {h₀ h : Heap} {L : Addr} {l l' : List (Addr × Obj)} (N : News h₀ L h l) (hs : ∀ p ∈ l', p ∈ l) : News h₀ L h l' := fun p hp => N p (hs p hp)
theorem news_app {h₀ h : Heap} {L : Addr} {l l' : List (Addr × Obj)} (N : News h₀ L h l) (N' : News h₀ L h l') : News h₀ L h (l ++ l') := fun p hp => (List.mem_append.mp hp).elim (N p) (N' p)
/-- what a loop's body must end in -/
noncomputable def Lp (P : Shared → Prop) (Q : Flow → Shared → Prop) : Flow → Shared → Prop := fun f s => match f with
  | .next | .cont => P s
  | .brk => Q .next s
  | .ret v => Q (.ret v) s
theorem lp_next {P : Shared → Prop} {Q : Flow → Shared → Prop} {s : Shared} (x : P s) : Lp P Q .next s := x
theorem lp_brk {P : Shared → Prop} {Q : Flow → Shared → Prop} {s : Shared} (x : Q .next s) : Lp P Q .brk s := x
theorem lp_ret {P : Shared → Prop} {Q : Flow → Shared → Prop} {s : Shared} {v : Value} (x : Q (.ret v) s) : Lp P Q (.ret v) s := x
section
variable {prog : Program} {w : World} {A : Around} {E : Value → Shared → Prop} {h h₀ : Heap} {g : Array GenState} {d : Drawn} {tk : Nat} {os : OsState} {env : Env} {L : Addr} {m : Str → Option Value} {nw : List (Addr × Obj)}
/-- a while, by what holds of the locals and the ledger, and a measure -/
inductive WInv (h₀ : Heap) (L : Addr) (d : Drawn) (os : OsState) (P : Nat → Array GenState → (Str → Option Value) → List (Addr × Obj) → Prop) (n : Nat) (s : Shared) : Prop
  | mk (h : _) (g : _) (tk : _) (m : _) (nw : _) (_ : s = ⟨h, g, d, tk, os⟩) (_ : Fr h₀ L h m) (_ : News h₀ L h nw) (_ : P n g m nw) : WInv h₀ L d os P n s
theorem while_ {test : Expr} {body : List Stmt} {pos : Pos} {Q : Flow → Shared → Prop} (P : Nat → Array GenState → (Str → Option Value) → List (Addr × Obj) → Prop) (n : Nat)
    (F : Fr h₀ L h m) (N : News h₀ L h nw) (p0 : P n g m nw)
    (turn : ∀ n g m nw h tk E', P n g m nw → Fr h₀ L h m → News h₀ L h nw → wpAny (model prog w) A (isTrue test env (eval test env)) (fun b s₂ =>
      if b = true then wpAny (model prog w) A (execs body env) (Lp (fun s => ∃ n', n' < n ∧ WInv h₀ L d os P n' s) Q) E' s₂ else Q .next s₂) E' ⟨h, g, d, tk, os⟩) :
    wpAny (model prog w) A (exec (.While test body [] pos) env) Q E ⟨h, g, d, tk, os⟩ := by
  refine wpAny_While (codeAny_whileLoop (fun n s => WInv h₀ L d os P n s) (fun n s hI => ?_) n ⟨h, g, tk, m, nw, rfl, F, N, p0⟩)
  refine holdG fun Pz kz => ?_
  obtain ⟨h, g, tk, m, nw, rfl, F, N, p⟩ := hI
  refine kz ?_
  clear kz Pz
  refine wpAny_mono (turn n g m nw h tk _ p F N) (fun b s₂ q => ?_) (fun _ _ q => q)
  cases b with
  | false => exact wpAny_execs_nil q
  | true => exact wpAny_mono q (fun f s₃ q => by cases f <;> exact q) (fun _ _ q => q)
/-- the end of a for's turn -/
inductive FInv (h₀ : Heap) (L : Addr) (d : Drawn) (os : OsState) (P : Nat → Array GenState → (Str → Option Value) → List (Addr × Obj) → Prop) (fo : List (Addr × Obj)) (wr : List Addr) (i : Nat) (s : Shared) : Prop
  | mk (h : _) (g : _) (tk : _) (m : _) (nw : _) (_ : s = ⟨h, g, d, tk, os⟩) (_ : Fr h₀ L h m) (_ : News h₀ L h (fo ++ nw)) (_ : (∀ p ∈ nw, p.1 ∉ wr)) (_ : P i g m nw) : FInv h₀ L d os P fo wr i s
theorem fo_of {h₀ h : Heap} {L : Addr} {fp : List Addr} (hL : L ∉ fp) : ∃ fo : List (Addr × Obj), News h₀ L h fo ∧ (∀ b ∈ fp, ∀ o, h.get? b = some o → h₀.get? b = none → (b, o) ∈ fo) ∧ ∀ p ∈ fo, p.1 ∈ fp := by
  refine ⟨(fp.filter fun b => (h₀.get? b).isNone).filterMap fun b => (h.get? b).map (fun o => (b, o)), fun p hp => ?_, fun b hb o ho hn => ?_, fun p hp => ?_⟩
  · refine holdG fun Pz kz => ?_
    obtain ⟨b, hb, e⟩ := List.mem_filterMap.mp hp
    obtain ⟨o, ho, rfl⟩ := Option.map_eq_some_iff.mp e
    refine kz ?_
    clear kz Pz
    have := List.mem_filter.mp hb
    exact ⟨ho, fun e => hL (e ▸ this.1), by simpa using this.2⟩
  · exact List.mem_filterMap.mpr ⟨b, List.mem_filter.mpr ⟨hb, by simp [hn]⟩, by simp [ho]⟩
  · refine holdG fun Pz kz => ?_
    obtain ⟨b, hb, e⟩ := List.mem_filterMap.mp hp
    obtain ⟨o, ho, rfl⟩ := Option.map_eq_some_iff.mp e
    refine kz ?_
    clear kz Pz
    exact (List.mem_filter.mp hb).1
theorem for_loop {x : Str} {px : Pos} {body : List Stmt} {Q : Flow → Shared → Prop} {Er : Value → Shared → Prop} {I : Addr} {fp wr : List Addr} {n : Nat} {Pi : Nat → Value → Prop} {St : Nat → Heap → Prop}
    (P : Nat → Array GenState → (Str → Option Value) → List (Addr × Obj) → Prop) (W : Walks prog w A I fp wr n Pi St) (hL : L ∉ fp) (hw0 : ∀ b ∈ wr, h₀.get? b = none) (hI : I ∈ wr) (hex : ∀ i h, St i h → ∀ b ∈ wr, ∃ o, h.get? b = some o)
    (st : St 0 h) (F : Fr h₀ L h m) (N : News h₀ L h nw) (hnw : ∀ p ∈ nw, p.1 ∉ wr) (p0 : P 0 g m nw)
    (turn : ∀ i v g m nw h tk E' fo, i < n → Pi i v → P i g m nw → (∀ p ∈ nw, p.1 ∉ wr) → Fr h₀ L h (Upd m x v) → News h₀ L h (fo ++ nw) → (∀ b ∈ wr, ∃ o, (b, o) ∈ fo) → (∀ p ∈ fo, p.1 ∈ fp) →
      wpAny (model prog w) A (execs body env) (Lp (FInv h₀ L d os P fo wr (i + 1)) Q) E' ⟨h, g, d, tk, os⟩)
    (done : ∀ g m nw h tk, P n g m nw → (∀ p ∈ nw, p.1 ∉ wr) → Fr h₀ L h m → News h₀ L h nw → Q .next ⟨h, g, d, tk, os⟩)
    (hk : env.scope.kind = .function := by rfl) (hl : env.kindOf x = some .local := by rfl) (hLe : env.locals = L := by rfl) :
    codeAny (model prog w) A (.forLoop (.Name x px) (.ref I) body [] env) (fun r s' => match r with | .ok f => Q f s' | .error e => Er e s') ⟨h, g, d, tk, os⟩ := by
  subst hLe
  have step : ∀ {h h' : Heap} {m : Str → Option Value}, Fr h₀ env.locals h m → (∀ b o, b ∉ wr → h.get? b = some o → h'.get? b = some o) → Fr h₀ env.locals h' m := fun {h h' m} F hk => by
    refine holdG fun Pz kz => ?_
    obtain ⟨oL, es, ep, e1, e2⟩ := F.ns
    refine kz ?_
    clear kz Pz
    exact ⟨⟨oL, es, ep, hk _ _ (fun q => hL (W.sub _ q)) e1, e2⟩, fun b o e => hk _ _ (fun q => by (first | exact gX e (hw0 b q) | exact gX (hw0 b q) e | (rw [hw0 b q] at e; cases e))) (F.keep b o e), F.above⟩
  have stepN : ∀ {h h' : Heap} {nw : List (Addr × Obj)}, News h₀ env.locals h nw → (∀ p ∈ nw, p.1 ∉ wr) → (∀ b o, b ∉ wr → h.get? b = some o → h'.get? b = some o) → News h₀ env.locals h' nw := fun N hn hk p hp =>
    ⟨hk _ _ (hn p hp) (N p hp).1, (N p hp).2⟩
  refine codeAny_forLoop (fun k s => ∃ i h g tk m nw, k + i = n ∧ s = ⟨h, g, d, tk, os⟩ ∧ St i h ∧ Fr h₀ env.locals h m ∧ News h₀ env.locals h nw ∧ (∀ p ∈ nw, p.1 ∉ wr) ∧ P i g m nw) (fun k s hI => ?_) n ⟨0, h, g, tk, m, nw, by (first | lia | omega), rfl, st, F, N, hnw, p0⟩
  refine holdG fun Pz kz => ?_
  obtain ⟨i, h, g, tk, m, nw, hki, rfl, st, F, N, hnw, p⟩ := hI
  refine kz ?_
  clear kz Pz
  by_cases hi : i < n
  · refine W.item i _ _ _ hi st (fun v h' tk' pv st' hk' => ?_)
    have F' := step F hk'
    have N' := stepN N hnw hk'
    refine wpAny_assign_Name (wpAny_storeName_local hl F'.ns (fun h'' hn hs => ?_) (by rw [hk]; rfl))
    have F'' : Fr h₀ env.locals h'' (Upd m x v) := F'.set hn hs
    have N'' := N'.set hs
    have hsame : ∀ b ∈ fp, ∀ o, h'.get? b = some o → h''.get? b = some o := fun b hb o ho => (hs.2 b (fun e => hL (e ▸ hb))).trans ho
    refine holdG fun Pz kz => ?_
    obtain ⟨fo, Nfo, hfo, hfk⟩ := fo_of (h₀ := h₀) (h := h'') hL
    refine kz ?_
    clear kz Pz
    refine wpAny_mono (turn i v g m nw h'' _ _ fo hi pv p hnw F'' (news_app Nfo N'') (fun b hb => ?_) hfk) (fun f s₃ q => ?_) (fun _ _ q => q)
    · obtain ⟨o, ho⟩ := hex _ _ st' b hb
      exact ⟨o, hfo b (W.sub b hb) o (hsame b (W.sub b hb) o ho) (hw0 b hb)⟩
    · have key : FInv h₀ env.locals d os P fo wr (i + 1) s₃ → ∃ m, m < k ∧ ∃ i h g tk m_1 nw, m + i = n ∧ s₃ = ⟨h, g, d, tk, os⟩ ∧ St i h ∧ Fr h₀ env.locals h m_1 ∧ News h₀ env.locals h nw ∧ (∀ p ∈ nw, p.1 ∉ wr) ∧ P i g m_1 nw := by
        rintro ⟨h3, g3, tk3, m3, nw3, rfl, F3, N3, hn3, p3⟩
        refine ⟨k - 1, by (first | lia | omega), i + 1, h3, g3, tk3, m3, nw3, by (first | lia | omega), rfl, W.frame _ _ _ st' (fun b hb o ho => ?_), F3, news_sub N3 (fun p hp => List.mem_append_right _ hp), hn3, p3⟩
        have h2 := hsame b hb o ho
        cases e : h₀.get? b with
        | some o' =>
          have := F''.keep b o' e
          (first | exact gX this h2 | exact gX h2 this | (rw [h2] at this; cases this))
          exact F3.keep b o e
        | none => exact (N3 _ (List.mem_append_left _ (hfo b hb o h2 e))).1
      cases f with
      | next => exact key q
      | cont => exact key q
      | brk => exact q
      | ret v => exact q
  · have hi' : i = n := by (first | lia | omega)
    subst hi'
    refine W.done _ _ _ st (fun h' tk' hk' => ?_)
    exact wpAny_execs_nil (done g m nw h' tk' p hnw (step F hk') (stepN N hnw hk'))
end
end
section
open PySem PySem.W PyProof.Rows PySem.Calls PySem.Spec
set_option maxHeartbeats 1000000
section
variable {prog : Program} {w : World} {A : Around} {E : Value → Shared → Prop} {h h₀ : Heap} {g : Array GenState} {d : Drawn} {tk : Nat} {os : OsState} {env : Env} {L : Addr} {m mg mb : Str → Option Value} {nw : List (Addr × Obj)}
theorem o_is_none {v : Value} {Q : Value → Shared → Prop} (hQ : Q (.bool (v == .none)) ⟨h, g, d, tk, os⟩) : wpAny (model prog w) A (compareOp .Is v .none) Q E ⟨h, g, d, tk, os⟩ := is_none_gen hQ
theorem o_lt_bool {p q : Bool} {Q : Value → Shared → Prop} (hQ : Q (.bool (!p && q)) ⟨h, g, d, tk, os⟩) : wpAny (model prog w) A (compareOp .Lt (.bool p) (.bool q)) Q E ⟨h, g, d, tk, os⟩ :=
  lt_bool (by have : decide (b2i p < b2i q) = (!p && q) := by cases p <;> cases q <;> rfl
              rw [this]; exact hQ)
theorem o_fdiv {a b : Int} {t u : Tok} {Q : Value → Shared → Prop} (hb : b ≠ 0) (hp : Builtin.divisionGoesByPylong a b = false ∨ PySem.PylongRoom (model prog w) A ⟨h, g, d, tk, os⟩) (hQ : ∀ t tk, Q (.int (a.fdiv b) t) ⟨h, g, d, tk, os⟩) :
    wpAny (model prog w) A (binaryOp .FloorDiv (.int a t) (.int b u)) Q E ⟨h, g, d, tk, os⟩ := floordiv_int hb (hQ _ _) hp
theorem o_mod {a b : Int} {t u : Tok} {Q : Value → Shared → Prop} (hb : b ≠ 0) (hQ : ∀ t tk, Q (.int (a.fmod b) t) ⟨h, g, d, tk, os⟩) :
    wpAny (model prog w) A (binaryOp .Mod (.int a t) (.int b u)) Q E ⟨h, g, d, tk, os⟩ := mod_int' hb (hQ _ _)
theorem b_len_list {l : Addr} {items : Array Value} {Q : Value → Shared → Prop} (hl : h.IsList l items) (hf : (items.size : Int) < 2 ^ 63) (hQ : ∀ t tk, Q (.int items.size t) ⟨h, g, d, tk, os⟩) :
    wpAny (model prog w) A (call (.builtin "len") [.ref l]) Q E ⟨h, g, d, tk, os⟩ := len_list (s := ⟨h, g, d, tk, os⟩) hl hf (hQ _ _)
theorem i_list {value slice : Expr} {l : Addr} {items : Array Value} {k : Int} {u : Tok} {x : Value} {Q : Value → Shared → Prop} (hl : h.IsList l items)
    (h0 : 0 ≤ k) (hfit : k < 2 ^ 63) (hx : items[k.toNat]? = some x) (hQ : Q x ⟨h, g, d, tk, os⟩)
    (hs : subscripted slice false (.ref l) (.int k u) = operate [.ref l, .int k u] (getItem (.ref l) (.int k u)) := by with_unfolding_all rfl) (hg : ∀ r, letTemporaryGo value (.ref l) r = pure () := by intro _; with_unfolding_all rfl) :
    wpAny (model prog w) A (subscriptTail value slice (.ref l) (.int k u)) Q E ⟨h, g, d, tk, os⟩ := item_list (s := ⟨h, g, d, tk, os⟩) hl h0 hfit hx hQ hs hg
theorem cw_fun {pos : Pos} {f : Addr} {o : Obj} {fd : FuncData} {e : Expr} {rest : List Expr} {Q : Value → Shared → Prop} (hdat : o.data = .func fd)
    (hx : wpAny (model prog w) A (spliced (backTo pos (starEach (e :: rest) env))) (fun vs s₁ => s₁.heap.get? f = some o ∧ wpAny (model prog w) A (call (.ref f) vs) Q E s₁) E ⟨h, g, d, tk, os⟩)
    (he : starEach (e :: rest) env = (false, eval e env) :: starEach rest env := by rfl) :
    wpAny (model prog w) A (callWith pos (.ref f) [] (backTo pos (starEach (e :: rest) env)) []) Q E ⟨h, g, d, tk, os⟩ := callWith_def hdat hx he
end
end
section
open PySem PySem.W PyProof.Rows PySem.Calls PySem.Spec
set_option maxHeartbeats 1000000
theorem bi_len : bootBuiltins ⟨⟨[108, 101, 110]⟩⟩ = some (.builtin "len") := by kernel_rfl
theorem bn_len (P : Params) : nsIn (KN P) mainGlobals ⟨⟨[108, 101, 110]⟩⟩ = some none := by kernel_rfl
theorem bi_max : bootBuiltins ⟨⟨[109, 97, 120]⟩⟩ = some (.builtin "max") := by kernel_rfl
theorem bn_max (P : Params) : nsIn (KN P) mainGlobals ⟨⟨[109, 97, 120]⟩⟩ = some none := by kernel_rfl
theorem bi_min : bootBuiltins ⟨⟨[109, 105, 110]⟩⟩ = some (.builtin "min") := by kernel_rfl
theorem bn_min (P : Params) : nsIn (KN P) mainGlobals ⟨⟨[109, 105, 110]⟩⟩ = some none := by kernel_rfl
theorem bi_range : bootBuiltins ⟨⟨[114, 97, 110, 103, 101]⟩⟩ = some (.type "range") := by kernel_rfl
theorem bn_range (P : Params) : nsIn (KN P) mainGlobals ⟨⟨[114, 97, 110, 103, 101]⟩⟩ = some none := by kernel_rfl
theorem bi_enumerate : bootBuiltins ⟨⟨[101, 110, 117, 109, 101, 114, 97, 116, 101]⟩⟩ = some (.type "enumerate") := by kernel_rfl
theorem bn_enumerate (P : Params) : nsIn (KN P) mainGlobals ⟨⟨[101, 110, 117, 109, 101, 114, 97, 116, 101]⟩⟩ = some none := by kernel_rfl
theorem bi_str : bootBuiltins ⟨⟨[115, 116, 114]⟩⟩ = some (.type "str") := by kernel_rfl
theorem bn_str (P : Params) : nsIn (KN P) mainGlobals ⟨⟨[115, 116, 114]⟩⟩ = some none := by kernel_rfl
theorem bi_tuple : bootBuiltins ⟨⟨[116, 117, 112, 108, 101]⟩⟩ = some (.type "tuple") := by kernel_rfl
theorem bn_tuple (P : Params) : nsIn (KN P) mainGlobals ⟨⟨[116, 117, 112, 108, 101]⟩⟩ = some none := by kernel_rfl
theorem bi_sum : bootBuiltins ⟨⟨[115, 117, 109]⟩⟩ = some (.builtin "sum") := by kernel_rfl
theorem bn_sum (P : Params) : nsIn (KN P) mainGlobals ⟨⟨[115, 117, 109]⟩⟩ = some none := by kernel_rfl
theorem bi_zip : bootBuiltins ⟨⟨[122, 105, 112]⟩⟩ = some (.type "zip") := by kernel_rfl
theorem bn_zip (P : Params) : nsIn (KN P) mainGlobals ⟨⟨[122, 105, 112]⟩⟩ = some none := by kernel_rfl
theorem gl_NannyNag (P : Params) : nsIn (KN P) mainGlobals ⟨⟨[78, 97, 110, 110, 121, 78, 97, 103]⟩⟩ = some (some (.ref 76)) := by kernel_rfl
theorem gl_Whitespace (P : Params) : nsIn (KN P) mainGlobals ⟨⟨[87, 104, 105, 116, 101, 115, 112, 97, 99, 101]⟩⟩ = some (some (.ref 141)) := by kernel_rfl
theorem gl_format_witnesses (P : Params) : nsIn (KN P) mainGlobals ⟨⟨[102, 111, 114, 109, 97, 116, 95, 119, 105, 116, 110, 101, 115, 115, 101, 115]⟩⟩ = some (some (.ref 152)) := by kernel_rfl
theorem gl_bisect_left (P : Params) : nsIn (KN P) mainGlobals ⟨⟨[98, 105, 115, 101, 99, 116, 95, 108, 101, 102, 116]⟩⟩ = some (some (.ref 161)) := by kernel_rfl
theorem gl_twin_re_1 (P : Params) : nsIn (KN P) mainGlobals ⟨⟨[95, 116, 119, 105, 110, 95, 114, 101, 95, 49]⟩⟩ = some (some (.ref 166)) := by kernel_rfl
theorem gl_twin_re_2 (P : Params) : nsIn (KN P) mainGlobals ⟨⟨[95, 116, 119, 105, 110, 95, 114, 101, 95, 50]⟩⟩ = some (some (.ref 171)) := by kernel_rfl
theorem gl_SMTPRecipientsRefused (P : Params) : nsIn (KN P) mainGlobals ⟨⟨[83, 77, 84, 80, 82, 101, 99, 105, 112, 105, 101, 110, 116, 115, 82, 101, 102, 117, 115, 101, 100]⟩⟩ = some (some (.ref 201)) := by kernel_rfl
theorem gl_quotedata (P : Params) : nsIn (KN P) mainGlobals ⟨⟨[113, 117, 111, 116, 101, 100, 97, 116, 97]⟩⟩ = some (some (.ref 210)) := by kernel_rfl
theorem gl_law_lead (P : Params) : nsIn (KN P) mainGlobals ⟨⟨[95, 108, 97, 119, 95, 108, 101, 97, 100]⟩⟩ = some (some (.ref 217)) := by kernel_rfl
theorem gl_law_column (P : Params) : nsIn (KN P) mainGlobals ⟨⟨[95, 108, 97, 119, 95, 99, 111, 108, 117, 109, 110]⟩⟩ = some (some (.ref 224)) := by kernel_rfl
theorem gl_law_laid (P : Params) : nsIn (KN P) mainGlobals ⟨⟨[95, 108, 97, 119, 95, 108, 97, 105, 100]⟩⟩ = some (some (.ref 231)) := by kernel_rfl
theorem gl_law_read (P : Params) : nsIn (KN P) mainGlobals ⟨⟨[95, 108, 97, 119, 95, 114, 101, 97, 100]⟩⟩ = some (some (.ref 238)) := by kernel_rfl
theorem gl_law_told (P : Params) : nsIn (KN P) mainGlobals ⟨⟨[95, 108, 97, 119, 95, 116, 111, 108, 100]⟩⟩ = some (some (.ref 245)) := by kernel_rfl
theorem gl_law_plain (P : Params) : nsIn (KN P) mainGlobals ⟨⟨[95, 108, 97, 119, 95, 112, 108, 97, 105, 110]⟩⟩ = some (some (.ref 250)) := by kernel_rfl
theorem gl_CRLF (P : Params) : nsIn (KN P) mainGlobals ⟨⟨[67, 82, 76, 70]⟩⟩ = some (some (.str ⟨⟨[13, 10]⟩⟩ 533)) := by kernel_rfl
theorem kp_76 (P : Params) : keepIn (KN P) (.ref 76) = true := by kernel_rfl
theorem kp_141 (P : Params) : keepIn (KN P) (.ref 141) = true := by kernel_rfl
theorem kp_152 (P : Params) : keepIn (KN P) (.ref 152) = true := by kernel_rfl
theorem kp_161 (P : Params) : keepIn (KN P) (.ref 161) = true := by kernel_rfl
theorem kp_201 (P : Params) : keepIn (KN P) (.ref 201) = true := by kernel_rfl
theorem kp_210 (P : Params) : keepIn (KN P) (.ref 210) = true := by kernel_rfl
theorem kp_217 (P : Params) : keepIn (KN P) (.ref 217) = true := by kernel_rfl
theorem kp_224 (P : Params) : keepIn (KN P) (.ref 224) = true := by kernel_rfl
theorem kp_231 (P : Params) : keepIn (KN P) (.ref 231) = true := by kernel_rfl
theorem kp_238 (P : Params) : keepIn (KN P) (.ref 238) = true := by kernel_rfl
theorem kp_245 (P : Params) : keepIn (KN P) (.ref 245) = true := by kernel_rfl
theorem kp_250 (P : Params) : keepIn (KN P) (.ref 250) = true := by kernel_rfl
theorem kp_103 (P : Params) : keepIn (KN P) (.ref 103) = true := by kernel_rfl
theorem kp_110 (P : Params) : keepIn (KN P) (.ref 110) = true := by kernel_rfl
theorem kp_117 (P : Params) : keepIn (KN P) (.ref 117) = true := by kernel_rfl
theorem kp_124 (P : Params) : keepIn (KN P) (.ref 124) = true := by kernel_rfl
theorem kp_131 (P : Params) : keepIn (KN P) (.ref 131) = true := by kernel_rfl
theorem kp_59 (P : Params) : keepIn (KN P) (.ref 59) = true := by kernel_rfl
theorem kp_66 (P : Params) : keepIn (KN P) (.ref 66) = true := by kernel_rfl
theorem kp_73 (P : Params) : keepIn (KN P) (.ref 73) = true := by kernel_rfl
end
section
open PySem PySem.W PyProof.Rows PySem.Calls PySem.Spec
set_option maxHeartbeats 1000000
structure Wt where
  cs : List Int
  b : Int
  n : Int
  nt : Int
noncomputable def wsEs (P : Params) (t1 t2 t3 t4 t5 t6 t7 : Tok) (raw : Value) (x : Wt) (nm : Addr) : List DictEntry :=
  [⟨PyData.keyHash P ⟨⟨[114, 97, 119]⟩⟩, .str ⟨⟨[114, 97, 119]⟩⟩ t1, raw⟩, ⟨PyData.keyHash P ⟨⟨[110]⟩⟩, .str ⟨⟨[110]⟩⟩ t2, .int x.n t6⟩, ⟨PyData.keyHash P ⟨⟨[110, 116]⟩⟩, .str ⟨⟨[110, 116]⟩⟩ t3, .int x.nt t7⟩,
   ⟨PyData.keyHash P ⟨⟨[110, 111, 114, 109]⟩⟩, .str ⟨⟨[110, 111, 114, 109]⟩⟩ t4, .ref nm⟩, ⟨PyData.keyHash P ⟨⟨[105, 115, 95, 115, 105, 109, 112, 108, 101]⟩⟩, .str ⟨⟨[105, 115, 95, 115, 105, 109, 112, 108, 101]⟩⟩ t5, .bool (decide (x.cs.length ≤ 1))⟩]
noncomputable abbrev instO (C D : Addr) : Obj := ⟨.ref C, some D, .plain, #[]⟩
noncomputable abbrev tupO (vs : List Value) : Obj := ⟨.type "tuple", none, .seq vs.toArray 0, #[]⟩
structure WsIs (P : Params) (h : Heap) (a : Addr) (x : Wt) (D nm ct : Addr) (t1 t2 t3 t4 t5 t6 t7 t8 : Tok) (raw : Value) (vs : List Value) : Prop where
  i : h.get? a = some (instO 141 D)
  d : h.get? D = some ⟨.type "dict", none, .dict (wsEs P t1 t2 t3 t4 t5 t6 t7 raw x nm).toArray 5, #[]⟩
  nm : h.get? nm = some (tupO [.ref ct, .int x.b t8])
  ct : h.get? ct = some (tupO vs)
  vs : IntsAre vs x.cs
inductive WsAt (P : Params) (h : Heap) (a : Addr) (x : Wt) : Prop
  | mk (D : _) (nm : _) (ct : _) (t1 : _) (t2 : _) (t3 : _) (t4 : _) (t5 : _) (t6 : _) (t7 : _) (t8 : _) (raw : _) (vs : _) (_ : WsIs P h a x D nm ct t1 t2 t3 t4 t5 t6 t7 t8 raw vs) : WsAt P h a x
theorem WsAt.ext {P : Params} {h h' : Heap} {a : Addr} {x : Wt} (W : WsAt P h a x) (e : Ext h h') : WsAt P h' a x := by
  refine holdG fun Pz kz => ?_
  obtain ⟨D, nm, ct, t1, t2, t3, t4, t5, t6, t7, t8, raw, vs, W⟩ := W
  refine kz ?_
  clear kz Pz
  exact ⟨D, nm, ct, t1, t2, t3, t4, t5, t6, t7, t8, raw, vs, e _ _ W.i, e _ _ W.d, e _ _ W.nm, e _ _ W.ct, W.vs⟩
section
variable {w : World} {A : Around} {E : Value → Shared → Prop} {h h₀ : Heap} {g : Array GenState} {d : Drawn} {tk : Nat} {os : OsState} {mg mb : Str → Option Value}
theorem ws_ga (P : Params) : findIn (KN P) (.ref 141) "__getattribute__" = some (some (.builtin "object.__getattribute__")) := by kernel_rfl
theorem ws_gt (P : Params) : findIn (KN P) (.ref 141) "__getattr__" = some none := by kernel_rfl
theorem ws_hd (P : Params) : hasDictIn (KN P) 141 = true := by kernel_rfl
theorem ws_get {a : Addr} {x : Wt} {D nm ct : Addr} {t1 t2 t3 t4 t5 t6 t7 t8 : Tok} {raw : Value} {vs : List Value} {name : Str} {v : Value} {Q : Value → Shared → Prop} (X : (KN w.params).In h) (W : WsIs w.params h a x D nm ct t1 t2 t3 t4 t5 t6 t7 t8 raw vs)
    (ha : findIn (KN w.params) (.ref 141) name = some none) (hl : getL name (wsEs w.params t1 t2 t3 t4 t5 t6 t7 raw x nm) = some (some v)) (hh : handedIn v = true) (hQ : ∀ tk, Q v ⟨h, g, d, tk, os⟩) :
    wpAny (MM w) A (getAttr (.ref a) name true) Q E ⟨h, g, d, tk, os⟩ :=
  get_value (s := ⟨h, g, d, tk, os⟩) X ⟨W.i, rfl, rfl, W.d⟩ (ws_ga _) (findObj_own (od := dictOf (wsEs w.params t1 t2 t3 t4 t5 t6 t7 raw x nm) 5) (ws_hd _) ha rfl hl) hh (hQ _)
theorem ws_n {a : Addr} {x : Wt} {Q : Value → Shared → Prop} (X : (KN w.params).In h) (W : WsAt w.params h a x) (hQ : ∀ t tk, Q (.int x.n t) ⟨h, g, d, tk, os⟩) : wpAny (MM w) A (getAttr (.ref a) ⟨⟨[110]⟩⟩ true) Q E ⟨h, g, d, tk, os⟩ := by
  refine holdG fun Pz kz => ?_
  obtain ⟨D, nm, ct, t1, t2, t3, t4, t5, t6, t7, t8, raw, vs, W⟩ := W
  refine kz ?_
  clear kz Pz
  exact ws_get X W (v := .int x.n t6) (by kernel_rfl) (by kernel_rfl) rfl (fun tk => hQ _ tk)
theorem ws_nt {a : Addr} {x : Wt} {Q : Value → Shared → Prop} (X : (KN w.params).In h) (W : WsAt w.params h a x) (hQ : ∀ t tk, Q (.int x.nt t) ⟨h, g, d, tk, os⟩) : wpAny (MM w) A (getAttr (.ref a) ⟨⟨[110, 116]⟩⟩ true) Q E ⟨h, g, d, tk, os⟩ := by
  refine holdG fun Pz kz => ?_
  obtain ⟨D, nm, ct, t1, t2, t3, t4, t5, t6, t7, t8, raw, vs, W⟩ := W
  refine kz ?_
  clear kz Pz
  exact ws_get X W (v := .int x.nt t7) (by kernel_rfl) (by kernel_rfl) rfl (fun tk => hQ _ tk)
theorem ws_simple {a : Addr} {x : Wt} {Q : Value → Shared → Prop} (X : (KN w.params).In h) (W : WsAt w.params h a x) (hQ : ∀ tk, Q (.bool (decide (x.cs.length ≤ 1))) ⟨h, g, d, tk, os⟩) : wpAny (MM w) A (getAttr (.ref a) ⟨⟨[105, 115, 95, 115, 105, 109, 112, 108, 101]⟩⟩ true) Q E ⟨h, g, d, tk, os⟩ := by
  refine holdG fun Pz kz => ?_
  obtain ⟨D, nm, ct, t1, t2, t3, t4, t5, t6, t7, t8, raw, vs, W⟩ := W
  refine kz ?_
  clear kz Pz
  exact ws_get X W (v := .bool (decide (x.cs.length ≤ 1))) (by kernel_rfl) (by kernel_rfl) rfl hQ
theorem ws_meth {a f : Addr} {x : Wt} {name : Str} {pl : Sem Bool} {Q : Value × List Value → Shared → Prop} (X : (KN w.params).In h) (W : WsAt w.params h a x)
    (hf : findIn (KN w.params) (.ref 141) name = some (some (.ref f))) (ht : typeIn (KN w.params) (.ref f) = some (.type "function")) (hs : ∀ P t1 t2 t3 t4 t5 t6 t7 raw x nm, getL name (wsEs P t1 t2 t3 t4 t5 t6 t7 raw x nm) = some none)
    (hQ : Q (.ref f, [.ref a]) ⟨h, g, d, tk, os⟩) : wpAny (MM w) A (getMethod (.ref a) name pl) Q E ⟨h, g, d, tk, os⟩ := by
  refine holdG fun Pz kz => ?_
  obtain ⟨D, nm, ct, t1, t2, t3, t4, t5, t6, t7, t8, raw, vs, W⟩ := W
  refine kz ?_
  clear kz Pz
  exact method_fn (s := ⟨h, g, d, tk, os⟩) (od := some (dictOf (wsEs w.params t1 t2 t3 t4 t5 t6 t7 raw x nm) 5)) X ⟨W.i, rfl, rfl, W.d⟩ (ws_ga _) (ws_gt _) hf ht (by show (lookIn name (dictOf _ _)).map _ = _; rw [lookIn_dict, hs]; rfl) hQ
theorem ws_longest {a : Addr} {x : Wt} {pl : Sem Bool} {Q : Value × List Value → Shared → Prop} (X : (KN w.params).In h) (W : WsAt w.params h a x) (hQ : Q (.ref 103, [.ref a]) ⟨h, g, d, tk, os⟩) : wpAny (MM w) A (getMethod (.ref a) ⟨⟨[108, 111, 110, 103, 101, 115, 116, 95, 114, 117, 110, 95, 111, 102, 95, 115, 112, 97, 99, 101, 115]⟩⟩ pl) Q E ⟨h, g, d, tk, os⟩ :=
  ws_meth X W (by kernel_rfl) (by kernel_rfl) (fun _ _ _ _ _ _ _ _ _ _ _ => by kernel_rfl) hQ
theorem ws_indent {a : Addr} {x : Wt} {pl : Sem Bool} {Q : Value × List Value → Shared → Prop} (X : (KN w.params).In h) (W : WsAt w.params h a x) (hQ : Q (.ref 110, [.ref a]) ⟨h, g, d, tk, os⟩) : wpAny (MM w) A (getMethod (.ref a) ⟨⟨[105, 110, 100, 101, 110, 116, 95, 108, 101, 118, 101, 108]⟩⟩ pl) Q E ⟨h, g, d, tk, os⟩ :=
  ws_meth X W (by kernel_rfl) (by kernel_rfl) (fun _ _ _ _ _ _ _ _ _ _ _ => by kernel_rfl) hQ
theorem ws_equal {a : Addr} {x : Wt} {pl : Sem Bool} {Q : Value × List Value → Shared → Prop} (X : (KN w.params).In h) (W : WsAt w.params h a x) (hQ : Q (.ref 117, [.ref a]) ⟨h, g, d, tk, os⟩) : wpAny (MM w) A (getMethod (.ref a) ⟨⟨[101, 113, 117, 97, 108]⟩⟩ pl) Q E ⟨h, g, d, tk, os⟩ :=
  ws_meth X W (by kernel_rfl) (by kernel_rfl) (fun _ _ _ _ _ _ _ _ _ _ _ => by kernel_rfl) hQ
theorem ws_witness {a : Addr} {x : Wt} {pl : Sem Bool} {Q : Value × List Value → Shared → Prop} (X : (KN w.params).In h) (W : WsAt w.params h a x) (hQ : Q (.ref 124, [.ref a]) ⟨h, g, d, tk, os⟩) : wpAny (MM w) A (getMethod (.ref a) ⟨⟨[110, 111, 116, 95, 101, 113, 117, 97, 108, 95, 119, 105, 116, 110, 101, 115, 115]⟩⟩ pl) Q E ⟨h, g, d, tk, os⟩ :=
  ws_meth X W (by kernel_rfl) (by kernel_rfl) (fun _ _ _ _ _ _ _ _ _ _ _ => by kernel_rfl) hQ
theorem ws_less {a : Addr} {x : Wt} {pl : Sem Bool} {Q : Value × List Value → Shared → Prop} (X : (KN w.params).In h) (W : WsAt w.params h a x) (hQ : Q (.ref 131, [.ref a]) ⟨h, g, d, tk, os⟩) : wpAny (MM w) A (getMethod (.ref a) ⟨⟨[108, 101, 115, 115]⟩⟩ pl) Q E ⟨h, g, d, tk, os⟩ :=
  ws_meth X W (by kernel_rfl) (by kernel_rfl) (fun _ _ _ _ _ _ _ _ _ _ _ => by kernel_rfl) hQ
end
end
section
open PySem PySem.W PyProof.Rows PySem.Calls PySem.Spec
set_option maxHeartbeats 1000000
/-- room around a call -/
structure Rm (A : Around) (k : Nat) : Prop where
  hd : A.handled = none
  dp : A.depth + k < recursionLimit
  un : A.units + 4 * k + 70 < cLine
theorem Rm.deeper {A : Around} {k : Nat} {env : Env} (r : Rm A (k + 1)) : Rm (A.deeper env) k := ⟨r.hd, by have := r.dp; show A.depth + 1 + k < _; (first | lia | omega), by have := r.un; show A.units + 3 + 4 * k + 70 < _; (first | lia | omega)⟩
theorem Rm.le {A : Around} {k j : Nat} (r : Rm A k) (h : j ≤ k) : Rm A j := ⟨r.hd, by have := r.dp; (first | lia | omega), by have := r.un; (first | lia | omega)⟩
theorem Rm.room {A : Around} {k : Nat} (r : Rm A k) : A.depth < recursionLimit := by have := r.dp; (first | lia | omega)
section
variable {prog : Program} {w : World} {A : Around} {E : Value → Shared → Prop} {h h₀ : Heap} {g : Array GenState} {d : Drawn} {tk : Nat} {os : OsState} {env : Env} {L : Addr} {m mg mb : Str → Option Value} {nw : List (Addr × Obj)}
theorem unpack2 {x y : Str} {p1 p2 : Pos} {k : Nat} {pos : Pos} {t : Addr} {a b : Value} {Q : Unit → Shared → Prop} (F : Fr h₀ L h m) (N : News h₀ L h nw) (hh : A.handled = none) (ht : IsTup h t #[a, b])
    (hQ : ∀ h' tk, Fr h₀ L h' (Upd (Upd m x a) y b) → News h₀ L h' nw → Q () ⟨h', g, d, tk, os⟩)
    (hk : env.scope.kind = .function := by rfl) (hx : env.kindOf x = some .local := by rfl) (hy : env.kindOf y = some .local := by rfl) (hL : env.locals = L := by rfl) :
    wpAny (model prog w) A (assign (.Tuple [.Name x p1, .Name y p2] k pos) env (.ref t)) Q E ⟨h, g, d, tk, os⟩ := by
  refine unpackN_ (s := ⟨h, g, d, tk, os⟩) F N ht hh rfl rfl (fun h1 F1 N1 => ?_)
  show wpAny (model prog w) A (assignInOrder [assign (.Name x p1) env, assign (.Name y p2) env] [a, b]) Q E ⟨h1, g, d, tk, os⟩
  unfold assignInOrder
  refine wpAny_bind (wpAny_holding (wpAny_assign_Name (st_loc F1 N1 (fun h2 tk2 F2 N2 => ?_) hk hx hL)))
  unfold assignInOrder
  refine wpAny_bind (wpAny_holding (wpAny_assign_Name (st_loc F2 N2 (fun h3 tk3 F3 N3 => ?_) hk hy hL)))
  unfold assignInOrder
  exact wpAny_pure (hQ h3 tk3 F3 N3)
theorem as_tuple {elts k tpos value pos} {Q : Flow → Shared → Prop}
    (hx : wpAny (model prog w) A (eval value env) (fun v s₁ => wpAny (model prog w) A (assign (.Tuple elts k tpos) env v) (fun _ => Q .next) E s₁) E ⟨h, g, d, tk, os⟩)
    (hs : swapsWithSole [.Tuple elts k tpos] value pos.line env = pure false := by rfl)
    (hw : swappedStores [.Tuple elts k tpos] value env = pure none := by rfl) :
    wpAny (model prog w) A (exec (.Assign [.Tuple elts k tpos] value pos) env) Q E ⟨h, g, d, tk, os⟩ := Assign_Tuple hx hs hw
theorem b_len_tup {t : Addr} {items : Array Value} {Q : Value → Shared → Prop} (ht : IsTup h t items) (hf : (items.size : Int) < 2 ^ 63) (hQ : ∀ t tk, Q (.int items.size t) ⟨h, g, d, tk, os⟩) :
    wpAny (model prog w) A (call (.builtin "len") [.ref t]) Q E ⟨h, g, d, tk, os⟩ := PyProof.Rows.len_tuple (s := ⟨h, g, d, tk, os⟩) ht hf (hQ _ _)
theorem b_max2 {a b : Int} {t u : Tok} {Q : Value → Shared → Prop} (hh : A.handled = none) (hQ : ∀ h' t tk, Ext h h' → Q (.int (max a b) t) ⟨h', g, d, tk, os⟩) :
    wpAny (model prog w) A (call (.builtin "max") [.int a t, .int b u]) Q E ⟨h, g, d, tk, os⟩ :=
  max_two_ints hh (fun h' tk x => by
    by_cases hb : b > a
    · rw [if_pos hb]; have := hQ h' u tk x; rw [show max a b = b by (first | lia | omega)] at this; exact this
    · rw [if_neg hb]; have := hQ h' t tk x; rw [show max a b = a by (first | lia | omega)] at this; exact this)
end
theorem isTup_of {h : Heap} {a : Addr} {vs : List Value} (e : h.get? a = some (tupO vs)) : IsTup h a vs.toArray := ⟨_, e, rfl, 0, rfl⟩
theorem IsTup.ext {h h' : Heap} {a : Addr} {vs : Array Value} (e : IsTup h a vs) (x : Ext h h') : IsTup h' a vs := let ⟨o, ho, r⟩ := e; ⟨o, x _ _ ho, r⟩
end
section
open PySem PySem.W PyProof.Rows PySem.Calls PySem.Spec
set_option maxHeartbeats 1000000
section
variable {prog : Program} {w : World} {A : Around} {E : Value → Shared → Prop} {h h₀ : Heap} {g : Array GenState} {d : Drawn} {tk : Nat} {os : OsState} {env : Env} {L : Addr} {m mg mb : Str → Option Value} {nw : List (Addr × Obj)}
theorem nw_lt (N : News h₀ L h nw) : ∀ p ∈ nw, @LT.lt Nat _ p.1 h.objs.size := fun p hp => Heap.lt_size (N p hp).1
theorem fr_lt (F : Fr h₀ L h m) : @LT.lt Nat _ L h.objs.size := F.ns.lt
theorem fr_new (F : Fr h₀ L h m) {a : Addr} (ha : h.objs.size ≤ a) : h₀.get? a = none := by
  refine gN fun o e => ?_
  exact absurd (Heap.lt_size (F.keep _ _ e)) (Nat.not_lt.mpr ha)
theorem for_range2 {x : Str} {px : Pos} {body : List Stmt} {Q : Flow → Shared → Prop} {Er : Value → Shared → Prop} {a b : Int} {t u : Tok}
    (P : Nat → Array GenState → (Str → Option Value) → List (Addr × Obj) → Prop) (hh : A.handled = none) (ha : -(2 ^ 62) ≤ a ∧ a < 2 ^ 62) (hb : -(2 ^ 62) ≤ b ∧ b < 2 ^ 62)
    (F : Fr h₀ L h m) (N : News h₀ L h nw) (p0 : P 0 g m nw)
    (turn : ∀ i t g m nw h tk E' fo I, i < (b - a).toNat → P i g m nw → Fr h₀ L h (Upd m x (.int (a + i) t)) → News h₀ L h (fo ++ nw) → (∀ p ∈ nw, p.1 ≠ I) → (∃ o, (I, o) ∈ fo) → (∀ p ∈ fo, p.1 = I) →
      wpAny (model prog w) A (execs body env) (Lp (FInv h₀ L d os P fo [I] (i + 1)) Q) E' ⟨h, g, d, tk, os⟩)
    (done : ∀ g m nw h tk, P (b - a).toNat g m nw → Fr h₀ L h m → News h₀ L h nw → Q .next ⟨h, g, d, tk, os⟩)
    (hk : env.scope.kind = .function := by rfl) (hl : env.kindOf x = some .local := by rfl) (hLe : env.locals = L := by rfl) :
    wpAny (model prog w) A (call (.type "range") [.int a t, .int b u]) (fun v s₁ => wpAny (model prog w) A (pyIter v) (fun it s₂ =>
      codeAny (model prog w) A (.forLoop (.Name x px) it body [] env) (fun r s' => match r with | .ok f => Q f s' | .error e => Er e s') s₂) E s₁) E ⟨h, g, d, tk, os⟩ := by
  refine call_range_2 ?_
  refine wpAny_pyIter_range (IsRange.new h a b 1 _ _ _) (small_one ha.1 ha.2 hb.1 hb.2) ?_
  dsimp only
  generalize hR : ({ cls := .type "range", data := .fields #[.int a t, .int b u, .int 1 tk] } : Obj) = oR
  generalize hI : ({ cls := .type "range_iterator", data := .fields #[rawInt a, rawInt (Builtin.Range.rangeSize a b 1), rawInt 1] } : Obj) = oI
  have F1 : Fr h₀ L ((h.push oR).push oI) m := (F.push oR).push oI
  have N1 : News h₀ L ((h.push oR).push oI) nw := nw_ext N ((Ext.push h oR).trans (Ext.push _ oI))
  have hsz : (h.push oR).objs.size = h.objs.size + 1 := Heap.size_push ..
  have hnL : L ∉ [(h.push oR).objs.size] := by rw [List.mem_singleton, hsz]; have := fr_lt F; exact Nat.ne_of_lt (Nat.lt_succ_of_lt this)
  have hn : ((b - a).toNat : Int) = Builtin.Range.rangeSize a b 1 := by rw [rangeSize_one]; split <;> (first | lia | omega)
  refine for_loop (fun i g m nw => P i g m nw) (Walks.range hh (h.push oR).objs.size a 1 (b - a).toNat) hnL (fun c hc => ?_) (by simp) (fun i h' st c hc => ?_) ?_ F1 N1 (fun p hp => ?_) p0 (fun i v g m nw h tk E' fo hi pv p hn' F N hfo hfk => ?_) (fun g m nw h tk p _ F N => done g m nw h tk p F N) hk hl hLe
  · rw [List.mem_singleton.mp hc]; exact fr_new F (by (first | lia | omega))
  · rw [List.mem_singleton.mp hc]; exact ⟨_, st⟩
  · show IsRangeIter _ _ _ _ _
    rw [show (a + ((0 : Nat) : Int) * 1) = a by (first | lia | omega), show (((b - a).toNat : Int) - ((0 : Nat) : Int)) = Builtin.Range.rangeSize a b 1 by (first | lia | omega)]
    subst hI
    exact Heap.get?_push_size _ rfl
  · have := nw_lt N p hp
    rw [List.mem_singleton, hsz]; exact Nat.ne_of_lt (Nat.lt_succ_of_lt this)
  · obtain ⟨t, rfl⟩ := pv
    rw [Int.mul_one] at F
    exact turn i t g m nw h tk E' fo _ hi p F N (fun p hp e => hn' p hp (by simp [e])) (hfo _ (by simp)) (fun p hp => by simpa using hfk p hp)
end
section
variable {prog : Program} {w : World} {A : Around} {E : Value → Shared → Prop} {h h₀ : Heap} {g : Array GenState} {d : Drawn} {tk : Nat} {os : OsState}
theorem and2 {env : Env} {e1 e2 : Expr} {pos : Pos} {whole : Sem Value} {p q : Bool} {Q : Bool → Shared → Prop}
    (h1 : ∀ Q' : Bool → Shared → Prop, (∀ tk, Q' p ⟨h, g, d, tk, os⟩) → wpAny (model prog w) A (isTrue e1 env (eval e1 env)) Q' E ⟨h, g, d, tk, os⟩)
    (h2 : ∀ (tk : Nat) (Q' : Bool → Shared → Prop), (∀ tk, Q' q ⟨h, g, d, tk, os⟩) → wpAny (model prog w) A (isTrue e2 env (eval e2 env)) Q' E ⟨h, g, d, tk, os⟩)
    (hQ : ∀ tk, Q (p && q) ⟨h, g, d, tk, os⟩) : wpAny (model prog w) A (isTrue (.BoolOp .And [e1, e2] pos) env whole) Q E ⟨h, g, d, tk, os⟩ := by
  refine isTrue_and (h1 _ fun tk1 => ?_)
  cases p with
  | false => exact ifF rfl (hQ tk1)
  | true =>
    refine ifT rfl (isTrue_and (h2 tk1 _ fun tk2 => ?_))
    cases q with
    | false => exact ifF rfl (hQ tk2)
    | true => exact ifT rfl (isTrue_and_nil (hQ tk2))
theorem o_mul {a b : Int} {t u : Tok} {Q : Value → Shared → Prop} (hm : IntMulOk a b) (hQ : ∀ t tk, Q (.int (a * b) t) ⟨h, g, d, tk, os⟩) : wpAny (model prog w) A (binaryOp .Mult (.int a t) (.int b u)) Q E ⟨h, g, d, tk, os⟩ := PyProof.Rows.mul_int (hQ _ _) hm
theorem mul_small {a b : Int} (h1 : -1000000 < a) (h2 : a < 1000000) : IntMulOk a b := IntMulOk.of_left (intBits_le_64 (by (first | lia | omega)) (by (first | lia | omega)))
theorem i_tup_ints {value slice : Expr} {l : Addr} {vs : List Value} {ns : List Int} {k : Int} {u : Tok} {Q : Value → Shared → Prop} (hl : IsTup h l vs.toArray) (hi : IntsAre vs ns)
    (h0 : 0 ≤ k) (h1 : k < ns.length) (hfit : k < 2 ^ 63) (hQ : ∀ t, Q (.int (ns.getD k.toNat 0) t) ⟨h, g, d, tk, os⟩)
    (hs : subscripted slice false (.ref l) (.int k u) = operate [.ref l, .int k u] (getItem (.ref l) (.int k u)) := by with_unfolding_all rfl) (hg : ∀ r, letTemporaryGo value (.ref l) r = pure () := by intro _; with_unfolding_all rfl) :
    wpAny (model prog w) A (subscriptTail value slice (.ref l) (.int k u)) Q E ⟨h, g, d, tk, os⟩ := item_tuple_ints (s := ⟨h, g, d, tk, os⟩) hl hi h0 h1 hfit hQ hs hg
end
section
variable {w : World} {A : Around} {E : Value → Shared → Prop} {h h₀ : Heap} {g : Array GenState} {d : Drawn} {tk : Nat} {os : OsState} {L : Addr} {m mg mb : Str → Option Value} {a : Addr} {x : Wt}
theorem f_n {Q : Value → Shared → Prop} (F : Fr h₀ L h m) (B : Bs w mg mb h₀) (W : WsAt w.params h₀ a x) (hQ : ∀ t tk, Q (.int x.n t) ⟨h, g, d, tk, os⟩) : wpAny (MM w) A (getAttr (.ref a) ⟨⟨[110]⟩⟩ true) Q E ⟨h, g, d, tk, os⟩ := ws_n (B.X.keeps F.keep) (W.ext F.keep) hQ
theorem f_nt {Q : Value → Shared → Prop} (F : Fr h₀ L h m) (B : Bs w mg mb h₀) (W : WsAt w.params h₀ a x) (hQ : ∀ t tk, Q (.int x.nt t) ⟨h, g, d, tk, os⟩) : wpAny (MM w) A (getAttr (.ref a) ⟨⟨[110, 116]⟩⟩ true) Q E ⟨h, g, d, tk, os⟩ := ws_nt (B.X.keeps F.keep) (W.ext F.keep) hQ
theorem f_simple {Q : Value → Shared → Prop} (F : Fr h₀ L h m) (B : Bs w mg mb h₀) (W : WsAt w.params h₀ a x) (hQ : ∀ tk, Q (.bool (decide (x.cs.length ≤ 1))) ⟨h, g, d, tk, os⟩) : wpAny (MM w) A (getAttr (.ref a) ⟨⟨[105, 115, 95, 115, 105, 109, 112, 108, 101]⟩⟩ true) Q E ⟨h, g, d, tk, os⟩ := ws_simple (B.X.keeps F.keep) (W.ext F.keep) hQ
theorem f_norm {Q : Value → Shared → Prop} (F : Fr h₀ L h m) (B : Bs w mg mb h₀) (W : WsAt w.params h₀ a x)
    (hQ : ∀ nm ct t8 vs tk, h₀.get? nm = some (tupO [.ref ct, .int x.b t8]) → h₀.get? ct = some (tupO vs) → IntsAre vs x.cs → Q (.ref nm) ⟨h, g, d, tk, os⟩) : wpAny (MM w) A (getAttr (.ref a) ⟨⟨[110, 111, 114, 109]⟩⟩ true) Q E ⟨h, g, d, tk, os⟩ := by
  refine holdG fun Pz kz => ?_
  obtain ⟨D, nm, ct, t1, t2, t3, t4, t5, t6, t7, t8, raw, vs, W⟩ := W
  refine kz ?_
  clear kz Pz
  exact ws_get (B.X.keeps F.keep) ⟨F.keep _ _ W.i, F.keep _ _ W.d, F.keep _ _ W.nm, F.keep _ _ W.ct, W.vs⟩ (v := .ref nm) (by kernel_rfl) (by kernel_rfl) rfl (fun tk => hQ _ _ _ _ tk W.nm W.ct W.vs)
theorem f_longest {pl : Sem Bool} {Q : Value × List Value → Shared → Prop} (F : Fr h₀ L h m) (B : Bs w mg mb h₀) (W : WsAt w.params h₀ a x) (hQ : Q (.ref 103, [.ref a]) ⟨h, g, d, tk, os⟩) : wpAny (MM w) A (getMethod (.ref a) ⟨⟨[108, 111, 110, 103, 101, 115, 116, 95, 114, 117, 110, 95, 111, 102, 95, 115, 112, 97, 99, 101, 115]⟩⟩ pl) Q E ⟨h, g, d, tk, os⟩ := ws_longest (B.X.keeps F.keep) (W.ext F.keep) hQ
theorem f_indent {pl : Sem Bool} {Q : Value × List Value → Shared → Prop} (F : Fr h₀ L h m) (B : Bs w mg mb h₀) (W : WsAt w.params h₀ a x) (hQ : Q (.ref 110, [.ref a]) ⟨h, g, d, tk, os⟩) : wpAny (MM w) A (getMethod (.ref a) ⟨⟨[105, 110, 100, 101, 110, 116, 95, 108, 101, 118, 101, 108]⟩⟩ pl) Q E ⟨h, g, d, tk, os⟩ := ws_indent (B.X.keeps F.keep) (W.ext F.keep) hQ
theorem f_equal {pl : Sem Bool} {Q : Value × List Value → Shared → Prop} (F : Fr h₀ L h m) (B : Bs w mg mb h₀) (W : WsAt w.params h₀ a x) (hQ : Q (.ref 117, [.ref a]) ⟨h, g, d, tk, os⟩) : wpAny (MM w) A (getMethod (.ref a) ⟨⟨[101, 113, 117, 97, 108]⟩⟩ pl) Q E ⟨h, g, d, tk, os⟩ := ws_equal (B.X.keeps F.keep) (W.ext F.keep) hQ
theorem f_witness {pl : Sem Bool} {Q : Value × List Value → Shared → Prop} (F : Fr h₀ L h m) (B : Bs w mg mb h₀) (W : WsAt w.params h₀ a x) (hQ : Q (.ref 124, [.ref a]) ⟨h, g, d, tk, os⟩) : wpAny (MM w) A (getMethod (.ref a) ⟨⟨[110, 111, 116, 95, 101, 113, 117, 97, 108, 95, 119, 105, 116, 110, 101, 115, 115]⟩⟩ pl) Q E ⟨h, g, d, tk, os⟩ := ws_witness (B.X.keeps F.keep) (W.ext F.keep) hQ
theorem f_less {pl : Sem Bool} {Q : Value × List Value → Shared → Prop} (F : Fr h₀ L h m) (B : Bs w mg mb h₀) (W : WsAt w.params h₀ a x) (hQ : Q (.ref 131, [.ref a]) ⟨h, g, d, tk, os⟩) : wpAny (MM w) A (getMethod (.ref a) ⟨⟨[108, 101, 115, 115]⟩⟩ pl) Q E ⟨h, g, d, tk, os⟩ := ws_less (B.X.keeps F.keep) (W.ext F.keep) hQ
theorem lookup_fn {P : Params} {f : Addr} {o : Obj} {fd : FuncData} (hf : (KN P).lookup f = some o) (hd : o.data = .func fd) : (KN P).lookup f = some o ∧ o.data = .func fd := ⟨hf, hd⟩
/-- a call of a text's def, of no or some plain arguments; what is held first (a method's self) -/
theorem cw_top {env : Env} {pos : Pos} {f : Addr} {first : List Value} {e : Expr} {rest : List Expr} {Q : Value → Shared → Prop} (B : Bs w mg mb h₀) (hk : keepIn (KN w.params) (.ref f) = true)
    (hx : wpAny (MM w) A (spliced (backTo pos (starEach (e :: rest) env))) (fun vs s₁ => (KN w.params).In s₁.heap ∧ wpAny (MM w) A (call (.ref f) (first ++ vs)) Q E s₁) E ⟨h, g, d, tk, os⟩)
    (he : starEach (e :: rest) env = (false, eval e env) :: starEach rest env := by rfl) (hplain : (backTo pos (starEach rest env)).any (·.1) = false := by rfl) :
    wpAny (MM w) A (callWith pos (.ref f) first (backTo pos (starEach (e :: rest) env)) []) Q E ⟨h, g, d, tk, os⟩ := callWith_K B.X hk hx he hplain
theorem cw_top0 {env : Env} {pos : Pos} {f : Addr} {first : List Value} {Q : Value → Shared → Prop} (F : Fr h₀ L h m) (B : Bs w mg mb h₀) (hk : keepIn (KN w.params) (.ref f) = true)
    (hx : wpAny (MM w) A (call (.ref f) (first ++ [])) Q E ⟨h, g, d, tk, os⟩) :
    wpAny (MM w) A (callWith pos (.ref f) first (backTo pos (starEach [] env)) []) Q E ⟨h, g, d, tk, os⟩ := callWith_K0 (s := ⟨h, g, d, tk, os⟩) (B.X.keeps F.keep) hk hx
theorem and_in {P : Prop} (F : Fr h₀ L h m) (B : Bs w mg mb h₀) (hp : P) : (KN w.params).In h ∧ P := ⟨B.X.keeps F.keep, hp⟩
end
end
section
open PySem PySem.W PyProof.Rows PySem.Calls PySem.Spec
set_option maxHeartbeats 1000000
noncomputable abbrev listO (vs : List Value) (n : Nat) : Obj := ⟨.type "list", none, .seq vs.toArray n, #[]⟩
section
variable {prog : Program} {w : World} {A : Around} {E : Value → Shared → Prop} {h h₀ : Heap} {g : Array GenState} {d : Drawn} {tk : Nat} {os : OsState} {env : Env} {L : Addr} {m mg mb : Str → Option Value} {nw rest : List (Addr × Obj)}
theorem al_tup {vs : List Value} {Q : Value → Shared → Prop} (F : Fr h₀ L h m) (N : News h₀ L h nw) (hs : vs.length ≤ 1000)
    (hQ : ∀ a h', Fr h₀ L h' m → News h₀ L h' ((a, tupO vs) :: nw) → (∀ p ∈ nw, @LT.lt Nat _ p.1 a) → Ext h h' → h.get? a = none → Q (.ref a) ⟨h', g, d, tk, os⟩) : wpAny (model prog w) A (newTuple vs) Q E ⟨h, g, d, tk, os⟩ := by
  refine wpAny_newObj_type (hQ h.objs.size _ (F.push _) (N.push F _) (nw_lt N) (Ext.push _ _) ?_) (by show vs.toArray.size ≤ sizeLine; rw [List.size_toArray, sizeLine_eq]; (first | lia | omega))
  refine gN fun o e => ?_
  exact absurd (Heap.lt_size e) (Nat.lt_irrefl _)
theorem al_list {vs : List Value} {Q : Value → Shared → Prop} (F : Fr h₀ L h m) (N : News h₀ L h nw) (hs : vs.length ≤ 1000)
    (hQ : ∀ a h', Fr h₀ L h' m → News h₀ L h' ((a, listO vs 0) :: nw) → (∀ p ∈ nw, @LT.lt Nat _ p.1 a) → Ext h h' → h.get? a = none → Q (.ref a) ⟨h', g, d, tk, os⟩) : wpAny (model prog w) A (newList vs) Q E ⟨h, g, d, tk, os⟩ := by
  refine wpAny_newObj_type (hQ h.objs.size _ (F.push _) (N.push F _) (nw_lt N) (Ext.push _ _) ?_) (by show vs.toArray.size ≤ sizeLine; rw [List.size_toArray, sizeLine_eq]; (first | lia | omega))
  refine gN fun o e => ?_
  exact absurd (Heap.lt_size e) (Nat.lt_irrefl _)
/-- one object of the ledger changed -/
theorem led_set {h' : Heap} {l : Addr} {o o' : Obj} (F : Fr h₀ L h m) (N : News h₀ L h nw) (hm : (l, o) ∈ nw) (hs : Heap.SameBut l h h') (ho : h'.get? l = some o') (hr : ∀ p ∈ rest, p ∈ nw ∧ p.1 ≠ l) :
    Fr h₀ L h' m ∧ News h₀ L h' ((l, o') :: rest) := by
  refine ⟨Fr.update F N hm hs, fun p hp => ?_⟩
  revert p hp
  refine fm_cons ?_ ?_
  · exact ⟨ho, (N _ hm).2⟩
  intro p hp
  · exact ⟨(hs.2 _ (hr p hp).2).trans (N p (hr p hp).1).1, (N p (hr p hp).1).2⟩
theorem m_append {l : Addr} {o : Obj} {pl : Sem Bool} {Q : Value × List Value → Shared → Prop} (N : News h₀ L h nw) (hm : (l, o) ∈ nw) (hc : o.cls = .type "list") (hd : o.dict = none) (hQ : Q (.builtin "list.append", [.ref l]) ⟨h, g, d, tk, os⟩) :
    wpAny (model prog w) A (getMethod (.ref l) ⟨⟨[97, 112, 112, 101, 110, 100]⟩⟩ pl) Q E ⟨h, g, d, tk, os⟩ := getMethod_list_append (s := ⟨h, g, d, tk, os⟩) (N _ hm).1 hc hd hQ
theorem l_append {l : Addr} {vs : List Value} {n : Nat} {x : Value} {Q : Value → Shared → Prop} (F : Fr h₀ L h m) (N : News h₀ L h nw) (hm : (l, listO vs n) ∈ nw) (hz : vs.length ≤ 1000) (hr : ∀ p ∈ rest, p ∈ nw ∧ p.1 ≠ l)
    (hQ : ∀ h' n', Fr h₀ L h' m → News h₀ L h' ((l, listO (vs ++ [x]) n') :: rest) → Heap.SameBut l h h' → Q .none ⟨h', g, d, tk, os⟩) : wpAny (model prog w) A (call (.builtin "list.append") [.ref l, x]) Q E ⟨h, g, d, tk, os⟩ := by
  refine wpAny_list_append_plain (s := ⟨h, g, d, tk, os⟩) ⟨n, (N _ hm).1⟩ (fun h' hl hs => ?_) (by rw [List.size_toArray, sizeLine_eq]; (first | lia | omega))
  obtain ⟨n', hl⟩ := hl
  rw [show vs.toArray.push x = (vs ++ [x]).toArray by simp] at hl
  obtain ⟨F', N'⟩ := led_set F N hm hs hl hr
  exact hQ h' n' F' N' hs
theorem ex_any {e : Expr} {pos : Pos} {Q : Flow → Shared → Prop} (hx : wpAny (model prog w) A (eval e env) (fun _ => Q .next) E ⟨h, g, d, tk, os⟩)
    (hi : interactive env = false := by rfl) (hs : swapsWith e none pos.line env = pure false := by rfl) : wpAny (model prog w) A (exec (.Expr e pos) env) Q E ⟨h, g, d, tk, os⟩ := wpAny_Expr_any hx hi hs
theorem cw_bm {pos : Pos} {id : String} {first : List Value} {e : Expr} {rest : List Expr} {Q : Value → Shared → Prop}
    (hx : wpAny (model prog w) A (spliced (backTo pos (starEach (e :: rest) env))) (fun vs s₁ => wpAny (model prog w) A (call (.builtin id) (first ++ vs)) Q E s₁) E ⟨h, g, d, tk, os⟩)
    (he : starEach (e :: rest) env = (false, eval e env) :: starEach rest env := by rfl) (hplain : (backTo pos (starEach rest env)).any (·.1) = false := by rfl) :
    wpAny (model prog w) A (callWith pos (.builtin id) first (backTo pos (starEach (e :: rest) env)) []) Q E ⟨h, g, d, tk, os⟩ := callWith_method1 hx he hplain
structure BiOk (P : Params) (x : Str) (v : Value) : Prop where
  a : nsIn (KN P) mainGlobals x = some none
  b : bootBuiltins x = some v
  c : decide (x = "__name__") = false
theorem bk_len (P : Params) : BiOk P ⟨⟨[108, 101, 110]⟩⟩ (.builtin "len") := ⟨bn_len P, bi_len, by decide +kernel⟩
theorem bk_max (P : Params) : BiOk P ⟨⟨[109, 97, 120]⟩⟩ (.builtin "max") := ⟨bn_max P, bi_max, by decide +kernel⟩
theorem bk_min (P : Params) : BiOk P ⟨⟨[109, 105, 110]⟩⟩ (.builtin "min") := ⟨bn_min P, bi_min, by decide +kernel⟩
theorem bk_range (P : Params) : BiOk P ⟨⟨[114, 97, 110, 103, 101]⟩⟩ (.type "range") := ⟨bn_range P, bi_range, by decide +kernel⟩
theorem bk_enumerate (P : Params) : BiOk P ⟨⟨[101, 110, 117, 109, 101, 114, 97, 116, 101]⟩⟩ (.type "enumerate") := ⟨bn_enumerate P, bi_enumerate, by decide +kernel⟩
theorem bk_str (P : Params) : BiOk P ⟨⟨[115, 116, 114]⟩⟩ (.type "str") := ⟨bn_str P, bi_str, by decide +kernel⟩
theorem bk_tuple (P : Params) : BiOk P ⟨⟨[116, 117, 112, 108, 101]⟩⟩ (.type "tuple") := ⟨bn_tuple P, bi_tuple, by decide +kernel⟩
theorem bk_sum (P : Params) : BiOk P ⟨⟨[115, 117, 109]⟩⟩ (.builtin "sum") := ⟨bn_sum P, bi_sum, by decide +kernel⟩
theorem bk_zip (P : Params) : BiOk P ⟨⟨[122, 105, 112]⟩⟩ (.type "zip") := ⟨bn_zip P, bi_zip, by decide +kernel⟩
theorem nm_bk {x : Str} {pos : Pos} {v : Value} {Q : Value → Shared → Prop} (F : Fr h₀ L h m) (B : Bs w mg mb h₀) (k : BiOk w.params x v) (hQ : Q v ⟨h, g, d, tk, os⟩)
    (hk : env.scope.kind = .function := by rfl) (hl : env.kindOf x = some .globalImplicit := by rfl) (hL : env.globals = mainGlobals := by rfl) (hB : env.builtins = builtinsNs := by rfl) (hd : (x == ("__debug__" : Str)) = false := by decide +kernel) :
    wpAny (model prog w) A (eval (.Name x pos) env) Q E ⟨h, g, d, tk, os⟩ := nm_bi F B k.a k.b k.c hQ hk hl hL hB hd
end
end
section
open PySem PySem.W PyProof.Rows PySem.Calls PySem.Spec
set_option maxHeartbeats 1000000
noncomputable def ListIs (o : Obj) (vs : List Value) : Prop := o.cls = .type "list" ∧ ∃ n, o.data = .seq vs.toArray n
theorem listIs_O (vs : List Value) (n : Nat) : ListIs (listO vs n) vs := ⟨rfl, n, rfl⟩
theorem isl {h h₀ : Heap} {L a : Addr} {nw : List (Addr × Obj)} {o : Obj} {vs : List Value} (N : News h₀ L h nw) (hm : (a, o) ∈ nw) (hl : ListIs o vs) : h.IsList a vs.toArray := ⟨o, (N _ hm).1, hl.1, hl.2⟩
section
variable {prog : Program} {w : World} {A : Around} {E : Value → Shared → Prop} {h h₀ : Heap} {g : Array GenState} {d : Drawn} {tk : Nat} {os : OsState} {env : Env} {L : Addr} {m mg mb : Str → Option Value} {nw rest : List (Addr × Obj)}
theorem l_set {l : Addr} {o : Obj} {vs : List Value} {k : Int} {t : Tok} {v : Value} {Q : Unit → Shared → Prop} (F : Fr h₀ L h m) (N : News h₀ L h nw) (hm : (l, o) ∈ nw) (hl : ListIs o vs) (h0 : 0 ≤ k) (h1 : k < vs.length) (hs : vs.length ≤ 1000) (hr : ∀ p ∈ rest, p ∈ nw ∧ p.1 ≠ l)
    (hQ : ∀ h' o', Fr h₀ L h' m → News h₀ L h' ((l, o') :: rest) → ListIs o' (vs.set k.toNat v) → Q () ⟨h', g, d, tk, os⟩) : wpAny (model prog w) A (setItem (.ref l) (.int k t) v) Q E ⟨h, g, d, tk, os⟩ := by
  refine wpAny_setItem_list (s := ⟨h, g, d, tk, os⟩) (isl N hm hl) h0 (by (first | lia | omega)) (by simpa using h1) (fun h' hl' hs' => ?_)
  refine holdG fun Pz kz => ?_
  obtain ⟨o', ho', hc', n', hd'⟩ := hl'
  obtain ⟨F', N'⟩ := led_set F N hm hs' ho' hr
  refine kz ?_
  clear kz Pz
  exact hQ h' o' F' N' ⟨hc', n', by rw [hd']; simp⟩
theorem l_add {a b : Addr} {vs us : List Value} {Q : Value → Shared → Prop} (F : Fr h₀ L h m) (N : News h₀ L h nw) (ha : h.IsList a vs.toArray) (hb : h.IsList b us.toArray) (hs : vs.length + us.length ≤ 1000)
    (hQ : ∀ c h', Fr h₀ L h' m → News h₀ L h' ((c, listO (vs ++ us) 0) :: nw) → (∀ p ∈ nw, @LT.lt Nat _ p.1 c) → Q (.ref c) ⟨h', g, d, tk, os⟩) : wpAny (model prog w) A (binaryOp .Add (.ref a) (.ref b)) Q E ⟨h, g, d, tk, os⟩ :=
  add_lists (s := ⟨h, g, d, tk, os⟩) F N ha hb (fun h' F' N' => hQ _ h' F' N' (nw_lt N)) (by rw [sizeLine_eq]; (first | lia | omega))
theorem l_mul1 {a : Addr} {v : Value} {n : Nat} {k : Int} {u : Tok} {dd : PyData} {Q : Value → Shared → Prop} (F : Fr h₀ L h m) (N : News h₀ L h nw) (hm : (a, listO [v] n) ∈ nw) (hc : Carried v dd) (h0 : 0 ≤ k) (h1 : k < 1000)
    (hQ : ∀ c o h', Fr h₀ L h' m → News h₀ L h' ((c, o) :: nw) → ListIs o (List.replicate k.toNat v) → (∀ p ∈ nw, @LT.lt Nat _ p.1 c) → Q (.ref c) ⟨h', g, d, tk, os⟩) : wpAny (model prog w) A (binaryOp .Mult (.ref a) (.int k u)) Q E ⟨h, g, d, tk, os⟩ := by
  refine mul_list_carried (s := ⟨h, g, d, tk, os⟩) (ds := [dd]) F N (N _ hm).1 rfl (.cons hc .nil) (by (first | lia | omega)) (by (first | lia | omega)) (by simp; (first | lia | omega)) (fun h' F' N' hn hl _ => ?_)
  refine holdG fun Pz kz => ?_
  obtain ⟨o, ho, hcl, n', hd⟩ := hl
  refine kz ?_
  clear kz Pz
  have hrep : (List.replicate k.toNat [v]).flatten = List.replicate k.toNat v := by simp
  refine hQ _ o h' F' (fun p hp => ?_) ⟨hcl, n', by rw [hd]; simp⟩ (nw_lt N)
  revert p hp
  refine fm_cons ?_ ?_
  · exact ⟨ho, Nat.ne_of_gt (fr_lt F), hn⟩
  intro p hp
  · exact N' p hp
theorem c_tuple {l : Addr} {vs : List Value} {Q : Value → Shared → Prop} (F : Fr h₀ L h m) (N : News h₀ L h nw) (hl : h.IsList l vs.toArray) (hs : vs.length ≤ 1000)
    (hQ : ∀ c h', Fr h₀ L h' m → News h₀ L h' ((c, tupO vs) :: nw) → (∀ p ∈ nw, @LT.lt Nat _ p.1 c) → Q (.ref c) ⟨h', g, d, tk, os⟩) : wpAny (model prog w) A (call (.type "tuple") [.ref l]) Q E ⟨h, g, d, tk, os⟩ :=
  call_tuple_list (s := ⟨h, g, d, tk, os⟩) hl (fun h' x => hQ _ _ ((fr_ext F x).push _) ((nw_ext N x).push (fr_ext F x) _) (nw_lt (nw_ext N x))) (by rw [List.size_toArray, sizeLine_eq]; (first | lia | omega))
theorem as_attr {o : Expr} {attr : Str} {pos' pos : Pos} {value : Expr} {Q : Flow → Shared → Prop}
    (hx : wpAny (model prog w) A (eval value env) (fun v s₁ => wpAny (model prog w) A (eval o env) (fun ov s₂ => wpAny (model prog w) A (setAttr ov attr v) (fun _ => Q .next) E s₂) E s₁) E ⟨h, g, d, tk, os⟩)
    (hs : swapsWith value (some (.Attribute o attr pos')) pos.line env = pure false := by rfl) : wpAny (model prog w) A (exec (.Assign [.Attribute o attr pos'] value pos) env) Q E ⟨h, g, d, tk, os⟩ := plainObj_wpAny_Assign_Attribute hx hs
theorem as_sub {o i value : Expr} {pos' pos : Pos} {Q : Flow → Shared → Prop}
    (hx : wpAny (model prog w) A (eval value env) (fun v s₁ => wpAny (model prog w) A (eval o env) (fun ov s₂ => wpAny (model prog w) A (eval i env) (fun iv s₃ =>
      wpAny (model prog w) A (setItem ov iv v) (fun _ => Q .next) E s₃) E s₂) E s₁) E ⟨h, g, d, tk, os⟩)
    (hs : swapsWith value (some (.Subscript o i pos')) pos.line env = pure false := by rfl) : wpAny (model prog w) A (exec (.Assign [.Subscript o i pos'] value pos) env) Q E ⟨h, g, d, tk, os⟩ := wpAny_Assign_Subscript hx hs
theorem as_three {t₁ t₂ t₃ value : Expr} {pos : Pos} {Q : Flow → Shared → Prop}
    (hx : wpAny (model prog w) A (eval value env) (fun v s₁ => wpAny (model prog w) A (assign t₁ env v) (fun _ s₂ => wpAny (model prog w) A (assign t₂ env v) (fun _ s₃ => wpAny (model prog w) A (assign t₃ env v) (fun _ => Q .next) E s₃) E s₂) E s₁) E ⟨h, g, d, tk, os⟩)
    (he : (assignEach [t₁, t₂, t₃] env).map (·.2) = [assign t₁ env, assign t₂ env, assign t₃ env] := by rfl)
    (hw : swappedStores [t₁, t₂, t₃] value env = pure none := by rfl) : wpAny (model prog w) A (exec (.Assign [t₁, t₂, t₃] value pos) env) Q E ⟨h, g, d, tk, os⟩ := wpAny_Assign_three hx he hw
theorem o_eq_str {x y : Str} {t u : Tok} {Q : Value → Shared → Prop} (hQ : Q (.bool (x == y)) ⟨h, g, d, tk, os⟩) : wpAny (model prog w) A (compareOp .Eq (.str x t) (.str y u)) Q E ⟨h, g, d, tk, os⟩ := PyProof.Rows.eq_str hQ
/-- the end of a loop that a break may leave -/
noncomputable def Bk (h₀ : Heap) (L : Addr) (d : Drawn) (os : OsState) (Fin : Array GenState → (Str → Option Value) → List (Addr × Obj) → Prop) (Q : Flow → Shared → Prop) : Flow → Shared → Prop := fun f s => match f with
  | .next => ∃ h g tk m nw, s = ⟨h, g, d, tk, os⟩ ∧ Fr h₀ L h m ∧ News h₀ L h nw ∧ Fin g m nw
  | f => Q f s
theorem for_str {x : Str} {px : Pos} {body : List Stmt} {Q : Flow → Shared → Prop} {Er : Value → Shared → Prop} {str : Str} {ts : Tok}
    (P : Nat → Array GenState → (Str → Option Value) → List (Addr × Obj) → Prop) (Fin : Array GenState → (Str → Option Value) → List (Addr × Obj) → Prop) (hh : A.handled = none)
    (F : Fr h₀ L h m) (N : News h₀ L h nw) (p0 : P 0 g m nw)
    (turn : ∀ i c t g m nw h tk E' fo I, str.cps[i]? = some c → P i g m nw → Fr h₀ L h (Upd m x (.str ⟨#[c]⟩ t)) → News h₀ L h (fo ++ nw) → (∀ p ∈ nw, p.1 ≠ I) → (∃ o, (I, o) ∈ fo) → (∀ p ∈ fo, p.1 = I) →
      wpAny (model prog w) A (execs body env) (Lp (FInv h₀ L d os P fo [I] (i + 1)) (Bk h₀ L d os Fin Q)) E' ⟨h, g, d, tk, os⟩)
    (last : ∀ g m nw, P str.cps.size g m nw → Fin g m nw)
    (done : ∀ g m nw h tk, Fin g m nw → Fr h₀ L h m → News h₀ L h nw → Q .next ⟨h, g, d, tk, os⟩)
    (hk : env.scope.kind = .function := by rfl) (hl : env.kindOf x = some .local := by rfl) (hLe : env.locals = L := by rfl) :
    wpAny (model prog w) A (pyIter (.str str ts)) (fun it s₂ =>
      codeAny (model prog w) A (.forLoop (.Name x px) it body [] env) (fun r s' => match r with | .ok f => Q f s' | .error e => Er e s') s₂) E ⟨h, g, d, tk, os⟩ := by
  have goal : ∀ (St : Nat → Heap → Prop) (o : Obj), Walks prog w A h.objs.size [h.objs.size] [h.objs.size] str.cps.size (SignAt str) St → (∀ i h', St i h' → ∃ o, h'.get? h.objs.size = some o) → St 0 (h.push o) →
      codeAny (model prog w) A (.forLoop (.Name x px) (.ref h.objs.size) body [] env) (fun r s' => match r with | .ok f => Q f s' | .error e => Er e s') ⟨h.push o, g, d, tk, os⟩ := by
    intro St o W hex st
    refine for_loop P W (by rw [List.mem_singleton]; exact Nat.ne_of_lt (fr_lt F)) (fun c hc => by rw [List.mem_singleton.mp hc]; exact fr_new F (Nat.le_refl _)) (by simp) (fun i h' st c hc => by rw [List.mem_singleton.mp hc]; exact hex i h' st) st (F.push o) (nw_ext N (Ext.push h o))
      (fun p hp => by rw [List.mem_singleton]; exact Nat.ne_of_lt (nw_lt N p hp)) p0 (fun i v g m nw h2 tk E' fo hi pv p hn' F N hfo hfk => ?_) (fun g m nw h tk p _ F N => done g m nw h tk (last g m nw p) F N) hk hl hLe
    refine holdG fun Pz kz => ?_
    obtain ⟨c, u, hc, rfl⟩ := pv
    refine kz ?_
    clear kz Pz
    refine wpAny_mono (turn i c u g m nw h2 tk E' fo h.objs.size hc p F N (fun p hp e => hn' p hp (by simp [e])) (hfo _ (by simp)) (fun p hp => by simpa using hfk p hp)) (fun f s q => ?_) (fun _ _ q => q)
    cases f with
    | next => exact q
    | cont => exact q
    | ret v => exact q
    | brk =>
      refine holdG fun Pz kz => ?_
      obtain ⟨h, g, tk, m, nw, rfl, F, N, p⟩ := q
      refine kz ?_
      clear kz Pz
      exact done g m nw h tk p F N
  cases ha : str.cps.all (· < 128)
  · exact wpAny_pyIter_wide ha (goal _ _ (Walks.strWide hh _ str ts) (fun i h' st => let ⟨o, ho, _⟩ := st; ⟨o, ho⟩) ⟨_, Heap.get?_push_size _ rfl, rfl, rfl⟩)
  · exact wpAny_pyIter_ascii ha (goal _ _ (Walks.strAscii hh _ str ts) (fun i h' st => let ⟨o, ho, _⟩ := st; ⟨o, ho⟩) ⟨_, Heap.get?_push_size _ rfl, rfl, rfl⟩)
end
section
variable {w : World} {A : Around} {E : Value → Shared → Prop} {h h₀ hb : Heap} {g : Array GenState} {d : Drawn} {tk : Nat} {os : OsState} {L : Addr} {m mg mb : Str → Option Value} {nw rest : List (Addr × Obj)}
theorem set_attr {C x dx : Addr} {es es' : List DictEntry} {n n' : Nat} {name : Str} {v : Value} {Q : Unit → Shared → Prop} (F : Fr h₀ L h m) (B : Bs w mg mb h₀) (N : News h₀ L h nw) (hm : (dx, dictOf es n) ∈ nw) (hi : (x, instO C dx) ∈ nw) (hr : ∀ p ∈ rest, p ∈ nw ∧ p.1 ≠ dx)
    (hs : findIn (KN w.params) (.ref C) "__setattr__" = some (some (.builtin "object.__setattr__"))) (hp : plainOver (KN w.params) C = true) (ht : takerIn (KN w.params) C name = some none) (hh : hasDictIn (KN w.params) C = true) (hl : (getL name es).isSome = true)
    (e : (putL name (PyData.keyHash w.params name) (.str name (tk + 1)) v es, putN name es n) = (es', n')) (hz : es'.length ≤ 1000)
    (hQ : ∀ h' tk, Fr h₀ L h' m → News h₀ L h' ((dx, dictOf es' n') :: rest) → Q () ⟨h', g, d, tk, os⟩) : wpAny (MM w) A (setAttr (.ref x) name v) Q E ⟨h, g, d, tk, os⟩ := by
  have N1 : News h₀ L h ((dx, dictOf es n) :: rest) := by
    refine fm_cons ?_ ?_
    · exact N _ hm
    intro p hq
    · exact N _ (hr p hq).1
  exact set_dict (s := ⟨h, g, d, tk, os⟩) F B.X N1 ⟨(N _ hi).1, rfl, rfl, (N _ hm).1⟩ rfl hs hp ht hh hl e (Upd.head fun p hq => (hr p hq).2) hz (fun h' F' N' => hQ h' _ F' N')
/-- a def entered with some objects of the caller's held in the ledger -/
theorem enterN {f : Addr} {o : Obj} {fd : FuncData} {body : List Stmt} {pos : List Value} {kw : List (Str × Value)} {binds bindsR : List (Str × Value)} {R : Result → Shared → Prop}
    (B : Bs w mg mb hb) (x : Ext hb h) (hnw : ∀ p ∈ nw, h.get? p.1 = some p.2 ∧ hb.get? p.1 = none) (hf : (KN w.params).lookup f = some o) (hd : o.data = .func fd) (hcd : codeIn (KN w.params) fd.code fd.qualname = true) (hbody : fd.body = .stmts body)
    (hbind : BindsTo ⟨h, g, d, tk, os⟩ fd ⟨pos, kw⟩ binds) (room : A.depth < recursionLimit)
    (hle : hb.objs.size ≤ h.objs.size)
    (hx : ∀ h₁ L tk E', Fr hb L h₁ (Lk bindsR) → News hb L h₁ nw → (∀ p ∈ nw, @LT.lt Nat _ p.1 L) → Ext h h₁ →
      wpAny (MM w) (A.deeper (callEnv fd L f)) (execs body (callEnv fd L f)) (fun fl s' => R (.ok (.ret (retOf fl))) s') E' ⟨h₁, g, d, tk, os⟩)
    (hcell : fd.scope.names.all (fun x => x.2 != .cell) = true) (hloc : binds.all (fun x => fd.scope.names.lookup x.1 == some .local) = true)
    (hco : fd.scope.isCoroutine = false) (hgen : fd.scope.isGenerator = false) (hk : fd.scope.kind = .function) (hrev : binds.reverse = bindsR) :
    codeAny (MM w) A (.call (.ref f) ⟨pos, kw⟩) R ⟨h, g, d, tk, os⟩ := by
  subst hrev
  have B' := B.ext x
  refine codeAny_call_def (binds := binds) room (B'.X _ _ hf) hd B'.lim (codeRec_of B'.X hcd) hbody hbind (fun x hx => by simpa using List.all_eq_true.mp hcell x hx) (fun x hx => by simpa using List.all_eq_true.mp hloc x hx) (fun h₁ hns hkp => ?_) hco hgen hk
  refine wpAny_mono (hx h₁ h.objs.size _ (fun e s' => wpAny (MM w) (A.deeper (callEnv fd h.objs.size f)) (leaving (callEnv fd h.objs.size f) e) (fun _ s'' => R (.error e) s'') (fun e' s'' => R (.error e') s'') s') ⟨hns, fun b o e => hkp _ _ (x _ _ e), hle⟩
    (fun p hp => ⟨hkp _ _ (hnw p hp).1, Nat.ne_of_lt (Heap.lt_size (hnw p hp).1), (hnw p hp).2⟩) (fun p hp => Heap.lt_size (hnw p hp).1) hkp) (fun fl s' q => ?_) (fun _ _ q => q)
  cases fl <;> exact q
end
section
variable {prog : Program} {w : World} {A : Around} {E : Value → Shared → Prop} {h h₀ : Heap} {g : Array GenState} {d : Drawn} {tk : Nat} {os : OsState} {env : Env} {L : Addr} {m mg mb : Str → Option Value} {nw : List (Addr × Obj)}
theorem sw2 {x y : Str} {t : Addr} {a b : Value} {Q : Flow → Shared → Prop} (F : Fr h₀ L h m) (N : News h₀ L h nw) (hh : A.handled = none) (ht : IsTup h t #[a, b])
    (hQ : ∀ h' tk, Fr h₀ L h' (Upd (Upd m y b) x a) → News h₀ L h' nw → Q .next ⟨h', g, d, tk, os⟩)
    (hk : env.scope.kind = .function := by rfl) (hx : env.kindOf x = some .local := by rfl) (hy : env.kindOf y = some .local := by rfl) (hL : env.locals = L := by rfl) :
    wpAny (model prog w) A (unpackItems (.ref t) [x, y].length none) (fun items s₂ => wpAny (model prog w) A (assignInOrder ([x, y].reverse.map fun n => bindName env n) items.reverse) (fun _ => Q .next) E s₂) E ⟨h, g, d, tk, os⟩ := by
  refine unpackItemsN_ (s := ⟨h, g, d, tk, os⟩) F N ht hh rfl (fun h1 F1 N1 => ?_)
  show wpAny (model prog w) A (assignInOrder [bindName env y, bindName env x] [b, a]) _ E ⟨h1, g, d, tk, os⟩
  unfold assignInOrder
  refine wpAny_bind (wpAny_holding (wpAny_bindName (st_loc F1 N1 (fun h2 tk2 F2 N2 => ?_) hk hy hL)))
  unfold assignInOrder
  refine wpAny_bind (wpAny_holding (wpAny_bindName (st_loc F2 N2 (fun h3 tk3 F3 N3 => ?_) hk hx hL)))
  unfold assignInOrder
  exact wpAny_pure (hQ h3 tk3 F3 N3)
theorem as_name {x : Str} {p : Pos} {v : Value} {Q : Unit → Shared → Prop} (F : Fr h₀ L h m) (N : News h₀ L h nw) (hQ : ∀ h' tk, Fr h₀ L h' (Upd m x v) → News h₀ L h' nw → Q () ⟨h', g, d, tk, os⟩)
    (hk : env.scope.kind = .function := by rfl) (hl : env.kindOf x = some .local := by rfl) (hL : env.locals = L := by rfl) : wpAny (model prog w) A (assign (.Name x p) env v) Q E ⟨h, g, d, tk, os⟩ := wpAny_assign_Name (st_loc F N hQ hk hl hL)
end
end
section
open PySem PySem.W PyProof.Rows PySem.Calls PySem.Spec
local macro_rules | `(tactic| k_memK) => `(tactic| with_reducible first | exact kp_76 _ | exact kp_141 _ | exact kp_152 _ | exact kp_161 _ | exact kp_201 _ | exact kp_210 _ | exact kp_217 _ | exact kp_224 _ | exact kp_231 _ | exact kp_238 _ | exact kp_245 _ | exact kp_250 _ | exact kp_103 _ | exact kp_110 _ | exact kp_117 _ | exact kp_124 _ | exact kp_131 _ | exact kp_59 _ | exact kp_66 _ | exact kp_73 _)
local macro_rules | `(tactic| tb_rel) => `(tactic| first | assumption | exact upd_self | exact lk_self | (refine' upd_ne ?hne ?hrest; (case hne => decide +kernel); (case hrest => tb_rel)) | (refine' lk_ne ?hne ?hrest; (case hne => decide +kernel); (case hrest => tb_rel)))
local macro_rules | `(tactic| tb_start) => `(tactic| with_reducible first | exact gl_NannyNag _ | exact gl_Whitespace _ | exact gl_format_witnesses _ | exact gl_bisect_left _ | exact gl_twin_re_1 _ | exact gl_twin_re_2 _ | exact gl_SMTPRecipientsRefused _ | exact gl_quotedata _ | exact gl_law_lead _ | exact gl_law_column _ | exact gl_law_laid _ | exact gl_law_read _ | exact gl_law_told _ | exact gl_law_plain _ | exact gl_CRLF _)
local macro_rules | `(tactic| kct_strs) => `(tactic| refine nm_bk (by assumption) (by assumption) (by with_reducible first | exact bk_len _ | exact bk_max _ | exact bk_min _ | exact bk_range _ | exact bk_enumerate _ | exact bk_str _ | exact bk_tuple _ | exact bk_sum _ | exact bk_zip _) ?_)
local macro_rules | `(tactic| kbo_bools) => `(tactic| first
  | ((with_reducible show wpAny _ _ (eval (Expr.Name _ _) _) _ _ _); first | (refine nm_loc (by assumption) (by tb_rel) ?_) | kct_strs | (refine nm_glob (by assumption) (by assumption) (by tb_start) ?_))
  | (with_reducible first
    | refine c_int (fun _ _ => ?_) | refine c_none ?_ | refine c_bool ?_ | refine c_str (fun _ _ => ?_)
    | refine wpAny_BinOp ?_ | refine wpAny_Compare1 ?_ | refine Subscript_ ?_ | refine Tuple_ ?_ | refine List_ ?_ | refine UnaryOp_ ?_
    | refine seq ?_ | refine wpAny_execs_nil ?_ | refine sq_next ?_ | refine sq_ret ?_
    | refine o_add (fun _ _ => ?_) | refine o_sub (fun _ _ => ?_) | refine o_lt ?_ | refine o_le ?_ | refine o_ge ?_ | refine PyProof.Rows.gt_int ?_ | refine o_ne ?_ | refine o_eq ?_
    | refine o_is_none ?_ | refine t_bool ?_ | refine o_lt_bool ?_
    | refine o_fdiv (by decide) (Or.inl (PyProof.noPylong_small (by decide))) (fun _ _ => ?_) | refine o_mod (by decide) (fun _ _ => ?_)
    | refine f_n (by assumption) (by assumption) (by assumption) (fun _ _ => ?_) | refine f_nt (by assumption) (by assumption) (by assumption) (fun _ _ => ?_) | refine f_simple (by assumption) (by assumption) (by assumption) (fun _ => ?_)
    | refine f_longest (by assumption) (by assumption) (by assumption) ?_ | refine f_indent (by assumption) (by assumption) (by assumption) ?_ | refine f_equal (by assumption) (by assumption) (by assumption) ?_ | refine f_witness (by assumption) (by assumption) (by assumption) ?_ | refine f_less (by assumption) (by assumption) (by assumption) ?_
    | refine cw_top0 (by assumption) (by assumption) (by k_memK) ?_
    | refine and_in (by assumption) (by assumption) ?_
    | refine args_nil ?_
    | refine wpAny_isTrue_Compare1 ?_
    | refine isTrue_not ?_
    | refine isTrue_and ?_
    | refine isTrue_and_nil ?_
    | refine wpAny_If ?_
    | refine o_eq_str ?_
    | refine wpAny_Return_some ?_)
  | ((with_reducible show wpAny _ _ (eval (Expr.Call (Expr.Attribute _ _ _) _ _ _) _) _ _ _); refine MethodCall_ ?_)
  | focus ((with_reducible first
    | refine Call_ ?_ ?_ | refine Attribute_Name_ ?_ ?_ | refine args_cons ?_ ?_ | refine as_attr ?_ ?_ | refine as_sub ?_ ?_ | refine wpAny_Assign_Name ?_ ?_ | refine isTrue_plain ?_ ?_); rotate_left; rfl)
  | focus ((with_reducible first
    | refine cw_top (by assumption) (by k_memK) ?_ ?_ ?_ | refine cw_bm ?_ ?_ ?_ | refine Pv.callWith_type1 ?_ ?_ ?_ | refine as_three ?_ ?_ ?_ | refine as_tuple ?_ ?_ ?_ | refine ex_any ?_ ?_ ?_); rotate_left; rfl; rfl)
  | focus ((with_reducible first
    | refine st_loc (by assumption) (by assumption) (fun _ _ _ _ => ?_) ?_ ?_ ?_ | refine as_name (by assumption) (by assumption) (fun _ _ _ _ => ?_) ?_ ?_ ?_); rotate_left; rfl; rfl; rfl)
  | focus ((with_reducible refine wpAny_For ?_ ?_); rotate_left; exact fun _ => rfl))
section
open PySem PySem.W PyProof.Rows PySem.Calls PySem.Spec
set_option maxHeartbeats 1000000
section
variable {w : World} {A : Around} {E : Value → Shared → Prop} {h : Heap} {g : Array GenState} {d : Drawn} {tk : Nat} {os : OsState} {mg mb : Str → Option Value}
theorem bis_at (P : Params) : (KN P).lookup 161 = some (hd.zo_126 P) := by kernel_rfl
theorem bis_dflt (P : Params) : (KN P).lookup 153 = some (hd.zo_118 P) := by kernel_rfl
noncomputable abbrev fBis (P : Params) : FuncData := fnIn? (hd.zo_126 P)
theorem bis_bind {bl : Addr} {kv : Value} (B : Bs w mg mb h) : BindsTo ⟨h, g, d, tk, os⟩ (fBis w.params) ⟨[.ref bl, .bool true], [(⟨⟨[107, 101, 121]⟩⟩, kv)]⟩ 
   [(⟨⟨[97]⟩⟩, .ref bl), (⟨⟨[120]⟩⟩, .bool true), (⟨⟨[108, 111]⟩⟩, .int 0 459), (⟨⟨[104, 105]⟩⟩, .none), (⟨⟨[107, 101, 121]⟩⟩, kv)] := 
  BindsTo.of_defaults (T := 153) (o := hd.zo_118 w.params) (n := 0) (items := #[.int 0 459, .none]) rfl (B.X _ _ (bis_dflt _)) (by kernel_rfl) (by rfl) (by rfl)
theorem bisect_ok {bl q : Addr} {bs : List Value} {fo : Obj} {ff : FuncData} {k : Nat → Bool} {dd : Nat} {Q : Value → Shared → Prop} (B : Bs w mg mb h) (R : Rm A 14)
    (hl : h.IsList bl bs.toArray) (hn : bs.length < 1000) (hq : h.get? q = some fo) (hfo : fo.data = .func ff) (hd : dd ≤ bs.length) (h1 : ∀ i < dd, k i = false) (h2 : ∀ i, dd ≤ i → i < bs.length → k i = true)
    (hkey : ∀ (i : Nat) (v : Value) (h' : Heap) (A' : Around) (tk : Nat) (E' : Value → Shared → Prop) (Q' : Value → Shared → Prop), bs[i]? = some v → Ext h h' → Rm A' 13 →
      (∀ h'' tk, Ext h' h'' → Q' (.bool (k i)) ⟨h'', g, d, tk, os⟩) → wpAny (MM w) A' (call (.ref q) [v]) Q' E' ⟨h', g, d, tk, os⟩)
    (hQ : ∀ h' t tk', Ext h h' → Q (.int dd t) ⟨h', g, d, tk', os⟩) :
    wpAny (MM w) A (call (.ref 161) [.ref bl, .bool true] [(⟨⟨[107, 101, 121]⟩⟩, .ref q)]) Q E ⟨h, g, d, tk, os⟩ := by
  refine enter (fd := fBis w.params) (body := _) B (bis_at _) rfl (by kernel_rfl) rfl (bis_bind B) R.room ?_ (by kernel_rfl) (by kernel_rfl) rfl rfl rfl rfl
  intro h₁ L tk E' F
  simp only [List.reverse_cons, List.reverse_nil, List.nil_append, List.cons_append] at F
  have N : News h L h₁ [] := News.nil
  repeat kbo_bools
  refine ifF rfl ?_
  repeat kbo_bools
  refine ifT rfl ?_
  repeat kbo_bools
  refine b_len_list (Fr.lst (by assumption) hl) (by simp; (first | lia | omega)) (fun t1 tk1 => ?_)
  repeat kbo_bools
  refine ifF rfl ?_
  repeat kbo_bools
  refine while_ (fun n g' m nw => g' = g ∧ ∃ (lo hi : Nat) (t t' : Tok), m ⟨⟨[108, 111]⟩⟩ = some (.int lo t) ∧ m ⟨⟨[104, 105]⟩⟩ = some (.int hi t') ∧ m ⟨⟨[97]⟩⟩ = some (.ref bl) ∧ m ⟨⟨[120]⟩⟩ = some (.bool true) ∧ m ⟨⟨[107, 101, 121]⟩⟩ = some (.ref q) ∧ lo ≤ dd ∧ dd ≤ hi ∧ hi ≤ bs.length ∧ n = hi - lo) bs.length (by assumption) (by assumption)
    ⟨rfl, 0, bs.length, _, _, by tb_rel, by simp only [List.size_toArray]; tb_rel, by tb_rel, by tb_rel, by tb_rel, by (first | lia | omega), hd, Nat.le_refl _, rfl⟩ ?_
  rintro n g' m nw hh2 tk2 E2 ⟨rfl, lo, hi, t, t', e1, e2, e3, e4, e5, le1, le2, le3, rfl⟩ F2 N2
  repeat kbo_bools
  refine ifB (fun hb => ?_) (fun hb => ?_)
  · have hlt : lo < hi := by simpa using hb
    have hmid : ((lo : Int) + hi).fdiv 2 = ((lo + hi) / 2 : Nat) := by rw [Int.fdiv_eq_ediv_of_nonneg _ (by decide)]; (first | lia | omega)
    repeat kbo_bools
    rename_i h3 tk3 F3 N3
    refine cw_fun hfo ?_
    repeat kbo_bools
    obtain ⟨v, hv⟩ : ∃ v, bs[(lo + hi) / 2]? = some v := ⟨_, List.getElem?_eq_getElem (by (first | lia | omega))⟩
    refine i_list (x := v) (Fr.lst (by assumption) hl) (by rw [hmid]; (first | lia | omega)) (by rw [hmid]; (first | lia | omega)) (by rw [hmid, Int.toNat_natCast, List.getElem?_toArray]; exact hv) ?_
    repeat kbo_bools
    refine ⟨F3.keep _ _ hq, hkey ((lo + hi) / 2) v _ _ _ _ _ hv F3.keep R.deeper (fun h4 tk4 x4 => ?_)⟩
    have F4 := fr_ext F3 x4
    have N4 := nw_ext N3 x4
    repeat kbo_bools
    refine ifB (fun hk => ?_) (fun hk => ?_)
    · have hk' : k ((lo + hi) / 2) = false := by simpa using hk
      have hlt2 : (lo + hi) / 2 < dd := Nat.lt_of_not_le fun hc => by (first | exact gX hk' (h2 _ hc (by (first | lia | omega))) | exact gX (h2 _ hc (by (first | lia | omega))) hk' | (rw [h2 _ hc (by (first | lia | omega))] at hk'; cases hk'))
      repeat kbo_bools
      rename_i h5 tk5 F5 N5
      refine lp_next ⟨_, ?_, h5, g', _, _, _, rfl, F5, N5, rfl, (lo + hi) / 2 + 1, hi, _, _, by rw [hmid]; exact upd_self, by tb_rel, by tb_rel, by tb_rel, by tb_rel, by (first | lia | omega), le2, le3, rfl⟩
      (first | lia | omega)
    · have hk' : k ((lo + hi) / 2) = true := by simpa using hk
      have hlt2 : dd ≤ (lo + hi) / 2 := Nat.le_of_not_lt fun hc => by (first | exact gX hk' (h1 _ hc) | exact gX (h1 _ hc) hk' | (rw [h1 _ hc] at hk'; cases hk'))
      repeat kbo_bools
      rename_i h5 tk5 F5 N5
      refine lp_next ⟨_, ?_, h5, g', _, _, _, rfl, F5, N5, rfl, lo, (lo + hi) / 2, _, _, by tb_rel, by rw [hmid]; exact upd_self, by tb_rel, by tb_rel, by tb_rel, le1, hlt2, by (first | lia | omega), rfl⟩
      (first | lia | omega)
  · have hge : lo = dd := by have : ¬ (lo < hi) := by simpa using hb
                             (first | lia | omega)
    subst hge
    repeat kbo_bools
    exact hQ _ _ _ (fun b o e => Fr.keep (by assumption) b o e)
end
end
section
open PySem PySem.W PyProof.Rows PySem.Calls PySem.Spec
set_option maxHeartbeats 1000000
section
variable {w : World} {A : Around} {E : Value → Shared → Prop} {h : Heap} {g : Array GenState} {d : Drawn} {tk : Nat} {os : OsState} {mg mb : Str → Option Value}
theorem ints_len {vs : List Value} {ns : List Int} (i : IntsAre vs ns) : vs.length = ns.length := i.length
noncomputable def Wt.longest (x : Wt) : Int := max ((x.cs.length : Int) - 1) x.b
theorem longest_at (P : Params) : (KN P).lookup 103 = some (hd.zo_70 P) := by kernel_rfl
noncomputable abbrev fLongest (P : Params) : FuncData := fnIn? (hd.zo_70 P)
theorem longest_ok {a : Addr} {x : Wt} {Q : Value → Shared → Prop} (B : Bs w mg mb h) (R : Rm A 5) (W : WsAt w.params h a x) (hs : x.cs.length < 1000)
    (hQ : ∀ h' t tk', Ext h h' → Q (.int x.longest t) ⟨h', g, d, tk', os⟩) :
    wpAny (MM w) A (call (.ref 103) [.ref a]) Q E ⟨h, g, d, tk, os⟩ := by
  refine enter (fd := fLongest w.params) (body := _) (binds := [(⟨⟨[115, 101, 108, 102]⟩⟩, .ref a)]) B (longest_at _) rfl (by kernel_rfl) rfl (BindsTo.of_eq (by kernel_rfl)) R.room ?_ (by kernel_rfl) (by kernel_rfl) rfl rfl rfl rfl
  intro h₁ L tk E' F
  simp only [List.reverse_cons, List.reverse_nil, List.nil_append, List.cons_append] at F
  have N : News h L h₁ [] := News.nil
  have hh : (A.deeper (callEnv (fLongest w.params) L 103)).handled = none := R.hd
  repeat kbo_bools
  refine f_norm F B W (fun nm ct t8 vs tk1 hnm hct hvs => ?_)
  refine unpack2 (by assumption) (by assumption) hh (isTup_of (F.keep _ _ hnm)) (fun h2 tk2 F2 N2 => ?_)
  repeat kbo_bools
  refine b_len_tup (isTup_of (F2.keep _ _ hct)) (by rw [List.size_toArray, hvs.length]; (first | lia | omega)) (fun _ _ => ?_)
  repeat kbo_bools
  refine b_max2 hh (fun h3 t3 tk3 X3 => ?_)
  rw [List.size_toArray, hvs.length]
  exact hQ _ _ _ (Ext.trans F2.keep X3)
/- indent_level -/
noncomputable def ilGo (ts : Nat) (cs : List Int) : Nat → Int
  | 0 => 0
  | k + 1 => ilGo ts cs k + (((ts + k) / ts : Nat) : Int) * cs.getD (ts + k) 0
noncomputable def Wt.il (x : Wt) (ts : Nat) : Int := x.b + ts * (ilGo ts x.cs (x.cs.length - ts) + x.nt)
theorem indent_at (P : Params) : (KN P).lookup 110 = some (hd.zo_77 P) := by kernel_rfl
noncomputable abbrev fIndent (P : Params) : FuncData := fnIn? (hd.zo_77 P)
theorem indent_ok {a : Addr} {x : Wt} {ts : Nat} {t : Tok} {Q : Value → Shared → Prop} (B : Bs w mg mb h) (R : Rm A 5) (W : WsAt w.params h a x) (hs : x.cs.length < 1000) (ht : 1 ≤ ts) (ht' : ts < 1000)
    (hQ : ∀ h' t tk', Ext h h' → Q (.int (x.il ts) t) ⟨h', g, d, tk', os⟩) :
    wpAny (MM w) A (call (.ref 110) [.ref a, .int ts t]) Q E ⟨h, g, d, tk, os⟩ := by
  refine enter (fd := fIndent w.params) (body := _) (binds := [(⟨⟨[115, 101, 108, 102]⟩⟩, .ref a), (⟨⟨[116, 97, 98, 115, 105, 122, 101]⟩⟩, .int ts t)]) B (indent_at _) rfl (by kernel_rfl) rfl (BindsTo.of_eq (by kernel_rfl)) R.room ?_ (by kernel_rfl) (by kernel_rfl) rfl rfl rfl rfl
  intro h₁ L tk E' F
  simp only [List.reverse_cons, List.reverse_nil, List.nil_append, List.cons_append] at F
  have N : News h L h₁ [] := News.nil
  have hh : (A.deeper (callEnv (fIndent w.params) L 110)).handled = none := R.hd
  repeat kbo_bools
  refine f_norm F B W (fun nm ct t8 vs tk1 hnm hct hvs => ?_)
  refine unpack2 (by assumption) (by assumption) hh (isTup_of (F.keep _ _ hnm)) (fun h2 tk2 F2 N2 => ?_)
  repeat kbo_bools
  refine b_len_tup (isTup_of (Fr.keep (by assumption) _ _ hct)) (by rw [List.size_toArray, hvs.length]; (first | lia | omega)) (fun _ _ => ?_)
  repeat kbo_bools
  rw [List.size_toArray, hvs.length]
  refine for_range2 (fun i g' m nw => g' = g ∧ (∃ t, m ⟨⟨[105, 108]⟩⟩ = some (.int (ilGo ts x.cs i) t)) ∧ m ⟨⟨[99, 111, 117, 110, 116]⟩⟩ = some (.ref ct) ∧ m ⟨⟨[115, 101, 108, 102]⟩⟩ = some (.ref a) ∧ (∃ t, m ⟨⟨[116, 97, 98, 115, 105, 122, 101]⟩⟩ = some (.int ts t)) ∧ (∃ t, m ⟨⟨[116, 114, 97, 105, 108, 105, 110, 103]⟩⟩ = some (.int x.b t)))
    hh (by (first | lia | omega)) (by (first | lia | omega)) (by assumption) (by assumption) ⟨rfl, ⟨_, by tb_rel⟩, by tb_rel, by tb_rel, ⟨_, by tb_rel⟩, ⟨_, by tb_rel⟩⟩ ?_ ?_
  · rintro i t1 g' m nw h3 tk3 E3 fo I hi ⟨rfl, ⟨t2, e1⟩, e2, e3, ⟨t4, e4⟩, ⟨t5, e5⟩⟩ F3 N3 hne ⟨oI, hoI⟩ hfk
    have hi' : ts + i < x.cs.length := by (first | lia | omega)
    repeat kbo_bools
    have hq : ((ts : Int) + i).fdiv ts = ((ts + i) / ts : Nat) := by rw [Int.fdiv_eq_ediv_of_nonneg _ (by (first | lia | omega))]; push_cast; rfl
    refine o_fdiv (by (first | lia | omega)) (Or.inl (PyProof.noPylong_small (by (first | lia | omega)))) (fun _ _ => ?_)
    rw [hq]
    repeat kbo_bools
    refine i_tup_ints (isTup_of (Fr.keep (by assumption) _ _ hct)) hvs (by (first | lia | omega)) (by (first | lia | omega)) (by (first | lia | omega)) (fun _ => ?_)
    have hq2 : (ts + i) / ts ≤ ts + i := Nat.div_le_self _ _
    have hq3 : (0 : Int) ≤ (((ts + i) / ts : Nat) : Int) := Int.natCast_nonneg _
    refine o_mul (mul_small (by (first | lia | omega)) (by (first | lia | omega))) (fun _ _ => ?_)
    repeat kbo_bools
    rename_i h4 tk4 F4 N4
    refine lp_next ⟨h4, g', _, _, nw, rfl, F4, N4, fun p hp e => hne p hp (by simpa using e), rfl, ⟨_, by rw [show ((ts : Int) + i).toNat = ts + i by (first | lia | omega)]; exact upd_self⟩, by tb_rel, by tb_rel, ⟨_, by tb_rel⟩, ⟨_, by tb_rel⟩⟩
  · rintro g' m nw h3 tk3 ⟨rfl, ⟨t2, e1⟩, e2, e3, ⟨t4, e4⟩, ⟨t5, e5⟩⟩ F3 N3
    repeat kbo_bools
    refine o_mul (mul_small (by (first | lia | omega)) (by (first | lia | omega))) (fun _ _ => ?_)
    repeat kbo_bools
    have e9 : ((x.cs.length : Int) - ts).toNat = x.cs.length - ts := by (first | lia | omega)
    rw [e9]
    exact hQ _ _ _ F3.keep
end
end
section
open PySem PySem.W PyProof.Rows PySem.Calls PySem.Spec
set_option maxHeartbeats 1000000
section
variable {w : World} {A : Around} {E : Value → Shared → Prop} {h : Heap} {g : Array GenState} {d : Drawn} {tk : Nat} {os : OsState} {mg mb : Str → Option Value}
structure Wok (x : Wt) : Prop where
  len : x.cs.length < 500
  b0 : 0 ≤ x.b
  b1 : x.b < 500
theorem Wok.lo {x : Wt} (k : Wok x) : 0 ≤ x.longest ∧ x.longest < 500 := by
  have := k.len; have := k.b0; have := k.b1
  unfold Wt.longest; (first | lia | omega)
/- less -/
noncomputable def lessB (x y : Wt) : Bool := !decide (y.n ≤ x.n) && (if (decide (x.cs.length ≤ 1) && decide (y.cs.length ≤ 1)) = true then decide (x.nt ≤ y.nt)
  else (List.range (max x.longest y.longest).toNat).all fun i => decide (x.il (2 + i) < y.il (2 + i)))
theorem less_at (P : Params) : (KN P).lookup 131 = some (hd.zo_98 P) := by kernel_rfl
noncomputable abbrev fLess (P : Params) : FuncData := fnIn? (hd.zo_98 P)
theorem less_ok {a b : Addr} {x y : Wt} {Q : Value → Shared → Prop} (B : Bs w mg mb h) (R : Rm A 8) (W : WsAt w.params h a x) (V : WsAt w.params h b y) (kx : Wok x) (ky : Wok y)
    (hQ : ∀ h' tk', Ext h h' → Q (.bool (lessB x y)) ⟨h', g, d, tk', os⟩) :
    wpAny (MM w) A (call (.ref 131) [.ref a, .ref b]) Q E ⟨h, g, d, tk, os⟩ := by
  refine enter (fd := fLess w.params) (body := _) (binds := [(⟨⟨[115, 101, 108, 102]⟩⟩, .ref a), (⟨⟨[111, 116, 104, 101, 114]⟩⟩, .ref b)]) B (less_at _) rfl (by kernel_rfl) rfl (BindsTo.of_eq (by kernel_rfl)) R.room ?_ (by kernel_rfl) (by kernel_rfl) rfl rfl rfl rfl
  intro h₁ L tk E' F
  simp only [List.reverse_cons, List.reverse_nil, List.nil_append, List.cons_append] at F
  have N : News h L h₁ [] := News.nil
  have R1 : Rm (A.deeper (callEnv (fLess w.params) L 131)) 7 := R.deeper
  have hh := R1.hd
  repeat kbo_bools
  refine ifB (fun hb => ?_) (fun hb => ?_)
  · repeat kbo_bools
    have e : lessB x y = false := by unfold lessB; rw [hb]; rfl
    exact e ▸ hQ _ _ F.keep
  have e0 : lessB x y = (if (decide (x.cs.length ≤ 1) && decide (y.cs.length ≤ 1)) = true then decide (x.nt ≤ y.nt)
  else (List.range (max x.longest y.longest).toNat).all fun i => decide (x.il (2 + i) < y.il (2 + i))) := by unfold lessB; rw [hb]; rfl
  repeat (first | (with_reducible refine sq_next ?_) | (with_reducible refine wpAny_execs_nil ?_))
  kbo_bools; kbo_bools
  refine and2 (p := decide (x.cs.length ≤ 1)) (q := decide (y.cs.length ≤ 1)) (fun Q' k => ?_) (fun tk Q' k => ?_) (fun tk2 => ?_)
  · repeat kbo_bools
    exact k _
  · repeat kbo_bools
    exact k _
  refine ifB (fun h1 => ?_) (fun h1 => ?_)
  · repeat kbo_bools
    rw [h1, if_pos rfl] at e0
    exact e0 ▸ hQ _ _ F.keep
  rw [h1, if_neg Bool.false_ne_true] at e0
  repeat kbo_bools
  show wpAny _ _ (call (.ref 103) [.ref a]) _ _ _
  refine longest_ok (B.ext F.keep) (R1.le (by decide)) (W.ext F.keep) (Nat.lt_trans kx.len (by decide)) (fun h2 t2 tk2 X2 => ?_)
  have F2 := fr_ext F X2
  have N2 := nw_ext N X2
  clear F N
  repeat kbo_bools
  show wpAny _ _ (call (.ref 103) [.ref b]) _ _ _
  refine longest_ok (B.ext F2.keep) (R1.le (by decide)) (V.ext F2.keep) (Nat.lt_trans ky.len (by decide)) (fun h3 t3 tk3 X3 => ?_)
  have F3 := fr_ext F2 X3
  have N3 := nw_ext N2 X3
  clear F2 N2
  repeat kbo_bools
  refine b_max2 hh (fun h4 t4 tk4 X4 => ?_)
  have F4 := fr_ext F3 X4
  have N4 := nw_ext N3 X4
  clear F3 N3
  have lx := kx.lo
  have ly := ky.lo
  repeat kbo_bools
  refine for_range2 (fun i g' m nw => g' = g ∧ m ⟨⟨[115, 101, 108, 102]⟩⟩ = some (.ref a) ∧ m ⟨⟨[111, 116, 104, 101, 114]⟩⟩ = some (.ref b) ∧ ∀ j < i, x.il (2 + j) < y.il (2 + j))
    hh (by (first | lia | omega)) (by (first | lia | omega)) (by assumption) (by assumption) ⟨rfl, by tb_rel, by tb_rel, fun j hj => absurd hj (Nat.not_lt_zero _)⟩ ?_ ?_
  · rintro i t1 g' m nw h5 tk5 E5 fo I hi ⟨rfl, e1, e2, e3⟩ F5 N5 hne ⟨oI, hoI⟩ hfk
    repeat kbo_bools
    rw [show ((2 : Int) + i) = ((2 + i : Nat) : Int) by (first | lia | omega)] at *
    show wpAny _ _ (call (.ref 110) [.ref a, .int (2 + i : Nat) _]) _ _ _
    refine indent_ok (B.ext F5.keep) (R1.le (by decide)) (W.ext F5.keep) (Nat.lt_trans kx.len (by decide)) (by (first | lia | omega)) (by (first | lia | omega)) (fun h6 t6 tk6 X6 => ?_)
    have F6 := fr_ext F5 X6
    have N6 := nw_ext N5 X6
    clear F5 N5
    repeat kbo_bools
    show wpAny _ _ (call (.ref 110) [.ref b, .int (2 + i : Nat) _]) _ _ _
    refine indent_ok (B.ext F6.keep) (R1.le (by decide)) (V.ext F6.keep) (Nat.lt_trans ky.len (by decide)) (by (first | lia | omega)) (by (first | lia | omega)) (fun h7 t7 tk7 X7 => ?_)
    have F7 := fr_ext F6 X7
    have N7 := nw_ext N6 X7
    clear F6 N6
    repeat kbo_bools
    refine ifB (fun hc => ?_) (fun hc => ?_)
    · repeat kbo_bools
      refine lp_ret ?_
      have e : lessB x y = false := by
        rw [e0]
        refine Bool.eq_false_iff.mpr fun q => ?_
        have := of_decide_eq_true (List.all_eq_true.mp q i (List.mem_range.mpr (by (first | lia | omega))))
        have := of_decide_eq_true hc
        (first | lia | omega)
      repeat kbo_bools
      exact e ▸ hQ _ _ F7.keep
    · repeat kbo_bools
      refine lp_next ⟨h7, g', _, _, nw, rfl, F7, N7, fun p hp e => hne p hp (by simpa using e), rfl, by tb_rel, by tb_rel, fun j hj => ?_⟩
      rcases Nat.lt_or_eq_of_le (Nat.le_of_lt_succ hj) with hj | rfl
      · exact e3 j hj
      · have := of_decide_eq_false hc; (first | lia | omega)
  · rintro g' m nw h5 tk5 ⟨rfl, e1, e2, e3⟩ F5 N5
    repeat kbo_bools
    have e : lessB x y = true := by
      rw [e0]; refine List.all_eq_true.mpr fun j hj => decide_eq_true (e3 j ?_)
      have := List.mem_range.mp hj; (first | lia | omega)
    exact e ▸ hQ _ _ F5.keep
end
end
section
open PySem PySem.W PyProof.Rows PySem.Calls PySem.Spec
set_option maxHeartbeats 1000000
section
variable {w : World} {A : Around} {E : Value → Shared → Prop} {h : Heap} {g : Array GenState} {d : Drawn} {tk : Nat} {os : OsState} {mg mb : Str → Option Value}
/- the witnesses' tuples -/
inductive Tups (nw : List (Addr × Obj)) : List Value → List Nat → Prop
  | nil : Tups nw [] []
  | snoc {vs : List Value} {tss : List Nat} {r : Addr} {ts : Nat} {t : Tok} {v v' : Value} : Tups nw vs tss → (r, tupO [.int ts t, v, v']) ∈ nw → Tups nw (vs ++ [.ref r]) (tss ++ [ts])
theorem Tups.mono {nw nw' : List (Addr × Obj)} {vs : List Value} {tss : List Nat} (x : Tups nw vs tss) (hs : ∀ p ∈ nw, p ∈ nw') : Tups nw' vs tss := by
  induction x with
  | nil => exact .nil
  | snoc _ hm ih => exact .snoc ih (hs _ hm)
noncomputable def witL (x y : Wt) (k : Nat) : List Nat := ((List.range k).map (· + 1)).filter fun ts => x.il ts != y.il ts
theorem witL_succ (x y : Wt) (k : Nat) : witL x y (k + 1) = if (x.il (k + 1) != y.il (k + 1)) = true then witL x y k ++ [k + 1] else witL x y k := by
  unfold witL
  rw [List.range_succ, List.map_append, List.filter_append, List.map_singleton, List.filter_cons, List.filter_nil]
  split <;> simp
theorem witL_len (x y : Wt) (k : Nat) : (witL x y k).length ≤ k := by
  unfold witL
  exact Nat.le_trans (List.length_filter_le _ _) (by simp)
noncomputable def witN (x y : Wt) : Nat := (max x.longest y.longest).toNat + 1
/-- a list of such tuples, as the heap bears it -/
inductive WitAt (h : Heap) (l : Addr) (tss : List Nat) : Prop
  | mk (vs : _) (tp : _) (n : _) (_ : h.get? l = some (listO vs n)) (_ : (∀ p ∈ tp, h.get? p.1 = some p.2)) (_ : Tups tp vs tss) : WitAt h l tss
theorem witness_at (P : Params) : (KN P).lookup 124 = some (hd.zo_91 P) := by kernel_rfl
noncomputable abbrev fWitness (P : Params) : FuncData := fnIn? (hd.zo_91 P)
theorem witness_ok {a b : Addr} {x y : Wt} {Q : Value → Shared → Prop} (B : Bs w mg mb h) (R : Rm A 8) (W : WsAt w.params h a x) (V : WsAt w.params h b y) (kx : Wok x) (ky : Wok y)
    (hQ : ∀ l h' tk', Ext h h' → WitAt h' l (witL x y (witN x y)) → h.get? l = none → Q (.ref l) ⟨h', g, d, tk', os⟩) :
    wpAny (MM w) A (call (.ref 124) [.ref a, .ref b]) Q E ⟨h, g, d, tk, os⟩ := by
  refine enter (fd := fWitness w.params) (body := _) (binds := [(⟨⟨[115, 101, 108, 102]⟩⟩, .ref a), (⟨⟨[111, 116, 104, 101, 114]⟩⟩, .ref b)]) B (witness_at _) rfl (by kernel_rfl) rfl (BindsTo.of_eq (by kernel_rfl)) R.room ?_ (by kernel_rfl) (by kernel_rfl) rfl rfl rfl rfl
  intro h₁ L tk E' F
  simp only [List.reverse_cons, List.reverse_nil, List.nil_append, List.cons_append] at F
  have N : News h L h₁ [] := News.nil
  have R1 : Rm (A.deeper (callEnv (fWitness w.params) L 124)) 7 := R.deeper
  have hh := R1.hd
  have lx := kx.lo
  have ly := ky.lo
  repeat kbo_bools
  show wpAny _ _ (call (.ref 103) [.ref a]) _ _ _
  refine longest_ok (B.ext F.keep) (R1.le (by decide)) (W.ext F.keep) (Nat.lt_trans kx.len (by decide)) (fun h2 t2 tk2 X2 => ?_)
  have F2 := fr_ext F X2
  have N2 := nw_ext N X2
  clear F N
  repeat kbo_bools
  show wpAny _ _ (call (.ref 103) [.ref b]) _ _ _
  refine longest_ok (B.ext F2.keep) (R1.le (by decide)) (V.ext F2.keep) (Nat.lt_trans ky.len (by decide)) (fun h3 t3 tk3 X3 => ?_)
  have F3 := fr_ext F2 X3
  have N3 := nw_ext N2 X3
  clear F2 N2
  repeat kbo_bools
  refine b_max2 hh (fun h4 t4 tk4 X4 => ?_)
  have F4 := fr_ext F3 X4
  have N4 := nw_ext N3 X4
  clear F3 N3
  repeat kbo_bools
  rename_i h5 tk5 F5 N5
  refine al_list F5 N5 (by decide) (fun l h6 F6 N6 hl6 X6 hn6 => ?_)
  have hnl : h.get? l = none := by
    refine gN fun o e => ?_
    (first | exact gX hn6 (F5.keep _ _ e) | exact gX (F5.keep _ _ e) hn6 | (rw [F5.keep _ _ e] at hn6; cases hn6))
  repeat kbo_bools
  refine for_range2 (fun i g' m nw => g' = g ∧ m ⟨⟨[115, 101, 108, 102]⟩⟩ = some (.ref a) ∧ m ⟨⟨[111, 116, 104, 101, 114]⟩⟩ = some (.ref b) ∧ m ⟨⟨[97]⟩⟩ = some (.ref l) ∧ ∃ vs tp n, nw = (l, listO vs n) :: tp ∧ Tups tp vs (witL x y i) ∧ vs.length ≤ i ∧ ∀ p ∈ tp, p.1 ≠ l)
    hh (by (first | lia | omega)) (by (first | lia | omega)) (by assumption) (by assumption) ⟨rfl, by tb_rel, by tb_rel, by tb_rel, [], [], 0, rfl, .nil, Nat.le_refl _, fun _ hp => nomatch hp⟩ ?_ ?_
  · rintro i t1 g' m nw h7 tk7 E7 fo I hi ⟨rfl, e1, e2, e3, vs, tp, n, rfl, e4, e5, e6⟩ F7 N7 hne ⟨oI, hoI⟩ hfk
    rw [show ((1 : Int) + i) = ((i + 1 : Nat) : Int) by (first | lia | omega)] at *
    repeat kbo_bools
    show wpAny _ _ (call (.ref 110) [.ref a, .int (i + 1 : Nat) _]) _ _ _
    refine indent_ok (B.ext F7.keep) (R1.le (by decide)) (W.ext F7.keep) (Nat.lt_trans kx.len (by decide)) (by (first | lia | omega)) (by (first | lia | omega)) (fun h8 t8 tk8 X8 => ?_)
    have F8 := fr_ext F7 X8
    have N8 := nw_ext N7 X8
    clear F7 N7
    repeat kbo_bools
    show wpAny _ _ (call (.ref 110) [.ref b, .int (i + 1 : Nat) _]) _ _ _
    refine indent_ok (B.ext F8.keep) (R1.le (by decide)) (V.ext F8.keep) (Nat.lt_trans ky.len (by decide)) (by (first | lia | omega)) (by (first | lia | omega)) (fun h9 t9 tk9 X9 => ?_)
    have F9 := fr_ext F8 X9
    have N9 := nw_ext N8 X9
    clear F8 N8
    repeat kbo_bools
    refine ifB (fun hc => ?_) (fun hc => ?_)
    · repeat kbo_bools
      refine m_append N9 (List.mem_append_right _ (.head _)) rfl rfl ?_
      repeat kbo_bools
      show wpAny _ _ (call (.ref 110) [.ref a, .int (i + 1 : Nat) _]) _ _ _
      refine indent_ok (B.ext F9.keep) (R1.le (by decide)) (W.ext F9.keep) (Nat.lt_trans kx.len (by decide)) (by (first | lia | omega)) (by (first | lia | omega)) (fun h10 t10 tk10 X10 => ?_)
      have F10 := fr_ext F9 X10
      have N10 := nw_ext N9 X10
      clear F9 N9
      repeat kbo_bools
      show wpAny _ _ (call (.ref 110) [.ref b, .int (i + 1 : Nat) _]) _ _ _
      refine indent_ok (B.ext F10.keep) (R1.le (by decide)) (V.ext F10.keep) (Nat.lt_trans ky.len (by decide)) (by (first | lia | omega)) (by (first | lia | omega)) (fun h11 t11 tk11 X11 => ?_)
      have F11 := fr_ext F10 X11
      have N11 := nw_ext N10 X11
      clear F10 N10
      repeat kbo_bools
      refine al_tup F11 N11 (by show 3 ≤ 1000; decide) (fun r h12 F12 N12 hl12 X12 hn12 => ?_)
      repeat kbo_bools
      have hrl : r ≠ l := fun e => by have := hl12 _ (List.mem_append_right _ (.head _)); rw [e] at this; exact Nat.lt_irrefl _ this
      refine l_append (rest := fo ++ (r, tupO [.int (i + 1 : Nat) t1, .int (x.il (i + 1)) t10, .int (y.il (i + 1)) t11]) :: tp) F12 N12 (.tail _ (List.mem_append_right _ (.head _))) (by (first | lia | omega)) (fun p hp => ?_) (fun h13 n13 F13 N13 S13 => ?_)
      · have hp0 := List.mem_append.mp hp
        clear hp
        rcases hp0 with hp | hp
        · exact ⟨.tail _ (List.mem_append_left _ hp), fun e => hne _ (.head _) (e.symm.trans (hfk p hp))⟩
        · revert p hp
          refine fm_cons ?_ ?_
          · exact ⟨.head _, hrl⟩
          intro p hp
          · exact ⟨.tail _ (List.mem_append_right _ (.tail _ hp)), e6 p hp⟩
      · repeat kbo_bools
        refine lp_next ⟨h13, g', _, _, (l, listO (vs ++ [.ref r]) n13) :: (r, tupO [.int (i + 1 : Nat) t1, .int (x.il (i + 1)) t10, .int (y.il (i + 1)) t11]) :: tp, rfl, F13, news_sub N13 (fun p hp => ?_), fun p hp e => ?_, rfl, by tb_rel, by tb_rel, by tb_rel, _, _, n13, rfl, ?_, by rw [List.length_append, List.length_singleton]; (first | lia | omega), fun p hp => ?_⟩
        · have hp0 := List.mem_append.mp hp
          clear hp
          rcases hp0 with hp | hp
          · exact .tail _ (List.mem_append_left _ hp)
          · revert p hp
            refine fm_cons ?_ ?_
            · exact .head _
            intro p hp
            · exact .tail _ (List.mem_append_right _ hp)
        · replace e : p.1 = I := by simpa using e
          revert e
          revert p hp
          refine (fm_cons ?_ (fm_cons ?_ ?_))
          · exact fun e => hne _ (.head _) e
          · intro e
            have := hl12 _ (List.mem_append_left _ hoI)
            rw [show r = I from e] at this; exact Nat.lt_irrefl _ this
          · exact fun p hp e => hne _ (.tail _ hp) e
        · rw [witL_succ, hc, if_pos rfl]
          exact .snoc (e4.mono fun p hp => .tail _ hp) (.head _)
        · revert p hp
          refine fm_cons ?_ ?_
          · exact hrl
          intro p hp
          · exact e6 p hp
    · repeat kbo_bools
      refine lp_next ⟨h9, g', _, _, _, rfl, F9, N9, fun p hp e => hne p hp (by simpa using e), rfl, by tb_rel, by tb_rel, by tb_rel, vs, tp, n, rfl, ?_, by (first | lia | omega), e6⟩
      rw [witL_succ, hc]; exact e4
  · rintro g' m nw h7 tk7 ⟨rfl, e1, e2, e3, vs, tp, n, rfl, e4, e5, e6⟩ F7 N7
    repeat kbo_bools
    refine hQ _ _ _ F7.keep ⟨vs, tp, n, (N7 _ (.head _)).1, fun p hp => (N7 _ (.tail _ hp)).1, ?_⟩ hnl
    rw [show (max x.longest y.longest + 1 + 1 - 1).toNat = witN x y by unfold witN; (first | lia | omega)] at e4
    exact e4
end
end
section
open PySem PySem.W PyProof.Rows PySem.Calls PySem.Spec
set_option maxHeartbeats 1000000
section
variable {w : World} {A : Around} {E : Value → Shared → Prop} {h : Heap} {g : Array GenState} {d : Drawn} {tk : Nat} {os : OsState} {mg mb : Str → Option Value}
theorem ints_reads (h : Heap) : ∀ {vs : List Value} {ns : List Int}, IntsAre vs ns → ReadsAll h vs (ns.map .int) []
  | _, _, .nil => .nil
  | _, _, .cons n t r => .cons (.int n t) (ints_reads h r)
theorem norm_reads {h : Heap} {nm ct : Addr} {t : Tok} {vs : List Value} {cs : List Int} {b : Int} (h1 : h.get? nm = some (tupO [.ref ct, .int b t])) (h2 : h.get? ct = some (tupO vs)) (hv : IntsAre vs cs) :
    Reads h (.ref nm) (.tuple [.tuple (cs.map .int), .int b]) [] :=
  .tuple h1 rfl rfl (.cons (.tuple h2 rfl rfl (by simpa using ints_reads h hv)) (.cons (.int b t) .nil))
theorem lay_ints : ∀ ns : List Int, PyData.canLayAll0 (ns.map .int) = true
  | [] => rfl
  | n :: ns => by simp [PyData.canLayAll0, PyData.canLay0, lay_ints ns]
theorem dep_ints : ∀ ns : List Int, PyData.depthAll (ns.map .int) ≤ 1
  | [] => by simp [PyData.depthAll]
  | n :: ns => by have := dep_ints ns; simp only [List.map_cons, PyData.depthAll, PyData.depth]; (first | lia | omega)
theorem eqv_ints : ∀ a b : List Int, PyData.eqvAll (a.map .int) (b.map .int) = decide (a = b)
  | [], [] => by simp [PyData.eqvAll]
  | [], _ :: _ => by simp [PyData.eqvAll]
  | _ :: _, [] => by simp [PyData.eqvAll]
  | a :: as, b :: bs => by
    simp only [List.map_cons, PyData.eqvAll, PyData.eqv, eqv_ints as bs]
    by_cases h1 : a = b <;> by_cases h2 : as = bs <;> simp [h1, h2]
noncomputable def eqW (x y : Wt) : Bool := decide (x.cs = y.cs) && decide (x.b = y.b)
theorem shaped_norm (cs : List Int) (b : Int) : PySem.SeqAt.shaped (.tuple [.tuple (cs.map .int), .int b]) = true := by
  unfold PySem.SeqAt.shaped
  have := dep_ints cs
  simp only [PyData.canLay0, PyData.canLayAll0, lay_ints, Bool.and_true, Bool.true_and, PyData.depth, PyData.depthAll]
  exact decide_eq_true (by (first | lia | omega))
theorem equal_at (P : Params) : (KN P).lookup 117 = some (hd.zo_84 P) := by kernel_rfl
noncomputable abbrev fEqual (P : Params) : FuncData := fnIn? (hd.zo_84 P)
theorem equal_ok {a b : Addr} {x y : Wt} {Q : Value → Shared → Prop} (B : Bs w mg mb h) (R : Rm A 8) (W : WsAt w.params h a x) (V : WsAt w.params h b y)
    (hQ : ∀ h' tk', Ext h h' → Q (.bool (eqW x y)) ⟨h', g, d, tk', os⟩) :
    wpAny (MM w) A (call (.ref 117) [.ref a, .ref b]) Q E ⟨h, g, d, tk, os⟩ := by
  refine enter (fd := fEqual w.params) (body := _) (binds := [(⟨⟨[115, 101, 108, 102]⟩⟩, .ref a), (⟨⟨[111, 116, 104, 101, 114]⟩⟩, .ref b)]) B (equal_at _) rfl (by kernel_rfl) rfl (BindsTo.of_eq (by kernel_rfl)) R.room ?_ (by kernel_rfl) (by kernel_rfl) rfl rfl rfl rfl
  intro h₁ L tk E' F
  simp only [List.reverse_cons, List.reverse_nil, List.nil_append, List.cons_append] at F
  have N : News h L h₁ [] := News.nil
  have R1 : Rm (A.deeper (callEnv (fEqual w.params) L 117)) 7 := R.deeper
  repeat kbo_bools
  refine f_norm F B W (fun nm ct t8 vs tk1 hnm hct hvs => ?_)
  repeat kbo_bools
  refine f_norm F B V (fun nm' ct' t8' vs' tk2 hnm' hct' hvs' => ?_)
  refine eq_dataH (norm_reads (F.keep _ _ hnm) (F.keep _ _ hct) hvs) (norm_reads (F.keep _ _ hnm') (F.keep _ _ hct') hvs') (shaped_norm _ _) (shaped_norm _ _) (by have := R1.un; (first | lia | omega)) ?_
  have e : PyData.eqv (.tuple [.tuple (x.cs.map .int), .int x.b]) (.tuple [.tuple (y.cs.map .int), .int y.b]) = eqW x y := by
    simp only [PyData.eqv, PyData.eqvAll, eqv_ints, eqW, Bool.and_true]
    by_cases h2 : x.b = y.b <;> simp [h2]
  rw [e]
  repeat kbo_bools
  exact hQ _ _ F.keep
end
end
section
open PySem PySem.W PyProof.Rows PySem.Calls PySem.Spec
set_option maxHeartbeats 1000000
/- what the loop reckons -/
noncomputable def grow (cs : List Int) (b : Nat) : List Int := if cs.length ≤ b then cs ++ List.replicate (b - cs.length + 1) 0 else cs
noncomputable def bump (cs : List Int) (b : Nat) : List Int := (grow cs b).set b ((grow cs b).getD b 0 + 1)
inductive WsFrom (P : Params) (h0 h : Heap) (a : Addr) (x : Wt) : Prop
  | mk (D : _) (nm : _) (ct : _) (t1 : _) (t2 : _) (t3 : _) (t4 : _) (t5 : _) (t6 : _) (t7 : _) (t8 : _) (raw : _) (vs : _) (_ : WsIs P h a x D nm ct t1 t2 t3 t4 t5 t6 t7 t8 raw vs) (_ : h0.get? a = none) (_ : h0.get? D = none) (_ : h0.get? nm = none) (_ : h0.get? ct = none) : WsFrom P h0 h a x
noncomputable def stepW (x : Wt) (c : Nat) : Wt := if c = 32 then ⟨x.cs, x.b + 1, x.n + 1, x.nt⟩ else ⟨bump x.cs x.b.toNat, 0, x.n + 1, x.nt + 1⟩
noncomputable def scanW : List Nat → Wt → Wt
  | [], x => x
  | c :: r, x => if c = 32 ∨ c = 9 then scanW r (stepW x c) else x
noncomputable def wtOf (s : Str) : Wt := scanW s.cps.toList ⟨[], 0, 0, 0⟩
theorem grow_len (cs : List Int) (b : Nat) : (grow cs b).length = max cs.length (b + 1) := by
  unfold grow
  split
  · rw [List.length_append, List.length_replicate]; (first | lia | omega)
  · (first | lia | omega)
theorem bump_len (cs : List Int) (b : Nat) : (bump cs b).length = max cs.length (b + 1) := by
  unfold bump
  rw [List.length_set, grow_len]
theorem scan_sp (r : List Nat) (y : Wt) : scanW (32 :: r) y = scanW r ⟨y.cs, y.b + 1, y.n + 1, y.nt⟩ := by simp [scanW, stepW]
theorem scan_tab (r : List Nat) (y : Wt) : scanW (9 :: r) y = scanW r ⟨bump y.cs y.b.toNat, 0, y.n + 1, y.nt + 1⟩ := by simp [scanW, stepW]
theorem scan_stop {c : Nat} (r : List Nat) (y : Wt) (h1 : ¬ c = 32) (h2 : ¬ c = 9) : scanW (c :: r) y = y := by simp [scanW, h1, h2]
theorem ints_rep (v : Int) (t : Tok) : ∀ k, IntsAre (List.replicate k (.int v t)) (List.replicate k v)
  | 0 => .nil
  | k + 1 => .cons _ _ (ints_rep v t k)
theorem ints_set {v : Int} {t : Tok} : ∀ {vs : List Value} {ns : List Int}, IntsAre vs ns → ∀ k, IntsAre (vs.set k (.int v t)) (ns.set k v)
  | _, _, .nil, _ => .nil
  | _, _, .cons n u r, 0 => .cons _ _ r
  | _, _, .cons n u r, k + 1 => .cons _ _ (ints_set r k)
theorem chr_eq (c k : Nat) : ((⟨#[c]⟩ : Str) == ⟨⟨[k]⟩⟩) = decide (c = k) := by
  by_cases hc : c = k
  · subst hc; simp
  · rw [decide_eq_false hc]
    refine beq_eq_false_iff_ne.mpr fun e => hc ?_
    have := congrArg (fun s : Str => s.cps.toList) e
    simpa using this
structure LoopSt (g₀ : Array GenState) (line : Str) (x dx : Addr) (es1 : List DictEntry) (y : Wt) (k : Nat) (g : Array GenState) (m : Str → Option Value) (nw : List (Addr × Obj)) (cl : Addr) (o : Obj) (vs : List Value) : Prop where
  g : g = g₀
  self : m ⟨⟨[115, 101, 108, 102]⟩⟩ = some (.ref x)
  s : m ⟨⟨[83]⟩⟩ = some (.str ⟨⟨[32]⟩⟩ 358)
  t : m ⟨⟨[84]⟩⟩ = some (.str ⟨⟨[9]⟩⟩ 359)
  cnt : m ⟨⟨[99, 111, 117, 110, 116]⟩⟩ = some (.ref cl)
  b : ∃ t, m ⟨⟨[98]⟩⟩ = some (.int y.b t)
  n : ∃ t, m ⟨⟨[110]⟩⟩ = some (.int y.n t)
  nt : ∃ t, m ⟨⟨[110, 116]⟩⟩ = some (.int y.nt t)
  nw : nw = [(cl, o), (dx, dictOf es1 1), (x, instO 141 dx)]
  o : ListIs o vs
  vs : IntsAre vs y.cs
  b0 : 0 ≤ y.b
  bk : y.b ≤ k
  lk : y.cs.length ≤ k + 1
  cd : cl ≠ dx
  cx : cl ≠ x
theorem drop_cons {l : List Nat} {i c : Nat} (hc : l[i]? = some c) : l.drop i = c :: l.drop (i + 1) := by
  obtain ⟨hl, e⟩ := List.getElem?_eq_some_iff.mp hc
  rw [List.drop_eq_getElem_cons hl, e]
section
variable {w : World} {A : Around} {E : Value → Shared → Prop} {h : Heap} {g : Array GenState} {d : Drawn} {tk : Nat} {os : OsState} {mg mb : Str → Option Value}
theorem cls_S {h₀ : Heap} {L : Addr} {m : Str → Option Value} {Q : Value → Shared → Prop} (F : Fr h₀ L h m) (B : Bs w mg mb h₀) (hQ : ∀ tk, Q (.str ⟨⟨[32]⟩⟩ 358) ⟨h, g, d, tk, os⟩) : wpAny (MM w) A (getAttr (.ref 141) ⟨⟨[83]⟩⟩ true) Q E ⟨h, g, d, tk, os⟩ :=
  cls_val (s := ⟨h, g, d, tk, os⟩) (mc := .type "type") F B.X (by kernel_rfl) (by kernel_rfl) (by kernel_rfl) rfl (hQ _)
theorem cls_T {h₀ : Heap} {L : Addr} {m : Str → Option Value} {Q : Value → Shared → Prop} (F : Fr h₀ L h m) (B : Bs w mg mb h₀) (hQ : ∀ tk, Q (.str ⟨⟨[9]⟩⟩ 359) ⟨h, g, d, tk, os⟩) : wpAny (MM w) A (getAttr (.ref 141) ⟨⟨[84]⟩⟩ true) Q E ⟨h, g, d, tk, os⟩ :=
  cls_val (s := ⟨h, g, d, tk, os⟩) (mc := .type "type") F B.X (by kernel_rfl) (by kernel_rfl) (by kernel_rfl) rfl (hQ _)
theorem own_get {h₀ : Heap} {L C x dx : Addr} {m : Str → Option Value} {nw : List (Addr × Obj)} {es : List DictEntry} {n : Nat} {name : Str} {v : Value} {Q : Value → Shared → Prop} (F : Fr h₀ L h m) (B : Bs w mg mb h₀) (N : News h₀ L h nw) (hi : (x, instO C dx) ∈ nw) (hm : (dx, dictOf es n) ∈ nw)
    (hg : findIn (KN w.params) (.ref C) "__getattribute__" = some (some (.builtin "object.__getattribute__"))) (hd : hasDictIn (KN w.params) C = true) (ha : findIn (KN w.params) (.ref C) name = some none) (hl : getL name es = some (some v)) (hh : handedIn v = true) (hQ : ∀ tk, Q v ⟨h, g, d, tk, os⟩) : wpAny (MM w) A (getAttr (.ref x) name true) Q E ⟨h, g, d, tk, os⟩ :=
  get_value (s := ⟨h, g, d, tk, os⟩) (B.X.keeps F.keep) ⟨(N _ hi).1, rfl, rfl, (N _ hm).1⟩ hg (findObj_own (od := dictOf es n) hd ha rfl hl) hh (hQ _)
theorem init_at (P : Params) : (KN P).lookup 96 = some (hd.zo_63 P) := by kernel_rfl
noncomputable abbrev fInit (P : Params) : FuncData := fnIn? (hd.zo_63 P)
theorem Rm.make {A : Around} {k : Nat} {C : Addr} {vals : List Value} (r : Rm A (k + 1)) : Rm (A.under (.builtin "type.__call__" ⟨.ref C :: vals, []⟩)) k :=
  ⟨r.hd, by have := r.dp; rw [depth_under_make]; (first | lia | omega), by have := r.un; show A.units + 1 + 4 * k + 70 < cLine; (first | lia | omega)⟩
theorem new_ok {line : Str} {t : Tok} {Q : Value → Shared → Prop} (B : Bs w mg mb h) (R : Rm A 8) (hs : line.cps.size < 100)
    (hQ : ∀ a h' tk', Ext h h' → WsFrom w.params h h' a (wtOf line) → h.get? a = none → Q (.ref a) ⟨h', g, d, tk', os⟩) :
    wpAny (MM w) A (call (.ref 141) [.str line t]) Q E ⟨h, g, d, tk, os⟩ := by
  refine wpAny_call (make_core (makes_of B.X (by kernel_rfl)) (looks_findIn B.X (r := some (.ref 96)) (by kernel_rfl)) (fun self => bind_fn B.X self (by kernel_rfl)) (.inl rfl) ?_)
  have hnone : ∀ k, h.objs.size ≤ k → h.get? k = none := fun k hk => by
    refine gN fun o e => ?_
    exact absurd (Heap.lt_size e) (Nat.not_lt.mpr hk)
  refine enterN (fd := fInit w.params) (body := _) (hb := h) (nw := [(h.objs.size + 1, instO 141 h.objs.size), (h.objs.size, dictOf [] 0)]) (binds := [(⟨⟨[115, 101, 108, 102]⟩⟩, .ref (h.objs.size + 1)), (⟨⟨[119, 115]⟩⟩, .str line t)]) B ((Ext.push h _).trans (Ext.push _ _)) ?_ (init_at _) rfl (by kernel_rfl) rfl (BindsTo.of_eq (by kernel_rfl)) (Rm.make (k := 7) R).room ?_ ?_ (by kernel_rfl) (by kernel_rfl) rfl rfl rfl rfl
  · intro p hp
    revert p hp
    refine fm_cons ?_ ?_
    · exact ⟨by rw [← Heap.size_push h emptyDict]; exact Heap.get?_push_size _ rfl, hnone _ (Nat.le_succ _)⟩
    intro p hp
    · rw [List.mem_singleton.mp hp]
      exact ⟨Heap.get?_push_of_some _ (Heap.get?_push_size _ rfl), hnone _ (Nat.le_refl _)⟩
  · rw [Heap.size_push, Heap.size_push]; (first | lia | omega)
  generalize hxe : h.objs.size + 1 = x
  generalize hde : h.objs.size = dx
  have hxd : x ≠ dx := by (first | lia | omega)
  intro h₁ L tk E' F N hlt X1
  simp only [List.reverse_cons, List.reverse_nil, List.nil_append, List.cons_append] at F
  have R1 := (Rm.make (C := 141) (vals := [.str line t]) (k := 7) R).deeper (env := callEnv (fInit w.params) L 96)
  have hh := R1.hd
  repeat kbo_bools
  refine set_attr (rest := [(x, instO 141 dx)]) F B N (.tail _ (.head _)) (.head _) (fun p hp => by rw [List.mem_singleton.mp hp]; exact ⟨.head _, hxd⟩) (by kernel_rfl) (by kernel_rfl) (by kernel_rfl) (by kernel_rfl) (by kernel_rfl)
    (es' := [⟨PyData.keyHash w.params ⟨⟨[114, 97, 119]⟩⟩, .str ⟨⟨[114, 97, 119]⟩⟩ (tk + 1), .str line t⟩]) (n' := 1) (by kernel_rfl) (by show 1 ≤ 1000; decide) (fun h2 tk2 F2 N2 => ?_)
  generalize hes : ([⟨PyData.keyHash w.params ⟨⟨[114, 97, 119]⟩⟩, .str ⟨⟨[114, 97, 119]⟩⟩ (tk + 1), .str line t⟩] : List DictEntry) = es1 at N2
  clear F N
  refine sq_next (seq ?_)
  refine Assign_Tuple_swapped (names := [⟨⟨[83]⟩⟩, ⟨⟨[84]⟩⟩]) ?_ (by rfl) (by kernel_rfl)
  repeat kbo_bools
  refine cls_S F2 B (fun tk3 => ?_)
  repeat kbo_bools
  refine cls_T F2 B (fun tk4 => ?_)
  repeat kbo_bools
  refine al_tup F2 N2 (by show 2 ≤ 1000; decide) (fun r h3 F3 N3 hl3 X3 hn3 => ?_)
  refine sw2 F3 N3 hh (isTup_of (N3 _ (.head _)).1) (fun h4 tk4 F4 N4 => ?_)
  have N4' : News h L h4 [(dx, dictOf es1 1), (x, instO 141 dx)] := fun p hp => N4 p (.tail _ hp)
  clear F2 N2 F3 N3 N4
  repeat kbo_bools
  refine al_list F4 N4' (by decide) (fun cl h5 F5 N5 hl5 X5 hn5 => ?_)
  clear F4 N4'
  repeat kbo_bools
  rename_i N6
  refine own_get (by assumption) B N6 (.tail _ (.tail _ (.head _))) (.tail _ (.head _)) (by kernel_rfl) (by kernel_rfl) (by kernel_rfl) (v := .str line t) (by rw [← hes]; kernel_rfl) rfl (fun tk7 => ?_)
  refine for_str (fun i g' m nw => ∃ cl o vs y, LoopSt g line x dx es1 y i g' m nw cl o vs ∧ scanW (line.cps.toList.drop i) y = wtOf line)
    (fun g' m nw => ∃ cl o vs k, k < 100 ∧ LoopSt g line x dx es1 (wtOf line) k g' m nw cl o vs) hh (by assumption) N6
    ⟨cl, listO [] 0, [], ⟨[], 0, 0, 0⟩, ⟨rfl, by tb_rel, by tb_rel, by tb_rel, by tb_rel, ⟨_, by tb_rel⟩, ⟨_, by tb_rel⟩, ⟨_, by tb_rel⟩, rfl, listIs_O _ _, .nil, Int.le_refl _, Int.le_refl _, by simp, fun e => Nat.lt_irrefl _ (e ▸ hl5 _ (.head _)), fun e => Nat.lt_irrefl _ (e ▸ hl5 _ (.tail _ (.head _)))⟩, rfl⟩ ?_ ?_ ?_
  · rintro i c t1 g' m nw h7 tk8 E7 fo I hc ⟨cl, o, vs, y, ⟨rfl, e1, e2, e3, e4, ⟨t5, e5⟩, ⟨t6, e6⟩, ⟨t7, e7⟩, rfl, e8, e9, e10, e11, e12, e13, e14⟩, e15⟩ F7 N7 hne ⟨oI, hoI⟩ hfk
    have hc' : line.cps.toList[i]? = some c := by simpa using hc
    have hi : i < line.cps.size := (Array.getElem?_eq_some_iff.mp hc).1
    rw [drop_cons hc'] at e15
    repeat kbo_bools
    rw [chr_eq]
    refine ifB (fun hb => ?_) (fun hb => ?_)
    · have hb := of_decide_eq_true hb
      subst hb
      repeat kbo_bools
      rename_i h8 tk9 F8 N8
      rw [scan_sp] at e15
      exact lp_next ⟨h8, g', tk9, _, _, rfl, F8, N8, fun p hp e => hne p hp (by simpa using e), cl, o, vs, ⟨y.cs, y.b + 1, y.n + 1, y.nt⟩, ⟨rfl, by tb_rel, by tb_rel, by tb_rel, by tb_rel, ⟨_, by tb_rel⟩, ⟨_, by tb_rel⟩, ⟨_, by tb_rel⟩, rfl, e8, e9, by show 0 ≤ y.b + 1; (first | lia | omega), by show y.b + 1 ≤ ((i + 1 : Nat) : Int); (first | lia | omega), by show y.cs.length ≤ _; (first | lia | omega), e13, e14⟩, e15⟩
    · have hb := of_decide_eq_false hb
      repeat kbo_bools
      rw [chr_eq]
      refine ifB (fun hc9 => ?_) (fun hc9 => ?_)
      · have hc9 := of_decide_eq_true hc9
        subst hc9
        rw [scan_tab] at e15
        have el := e9.length
        repeat ((fail_if_success (with_reducible show wpAny _ _ (exec (Stmt.If _ _ _ _) _) _ _ _)); kbo_bools)
        rename_i h8 tk9 F8 N8
        refine wpAny_mono (Q := fun f s => f = .next ∧ ∃ h9 tk9 m9 nw9 cl9 o9 vs9, s = ⟨h9, g', d, tk9, os⟩ ∧ Fr h L h9 m9 ∧ News h L h9 (fo ++ nw9) ∧ (∀ p ∈ nw9, p.1 ≠ I) ∧ LoopSt g' line x dx es1 ⟨grow y.cs y.b.toNat, y.b, y.n + 1, y.nt + 1⟩ (i + 1) g' m9 nw9 cl9 o9 vs9) ?_ ?_ (fun _ _ q => q)
        · repeat kbo_bools
          refine b_len_list (isl N8 (List.mem_append_right _ (.head _)) e8) (by simp; (first | lia | omega)) (fun t9 tk9 => ?_)
          rw [List.size_toArray]
          repeat kbo_bools
          refine ifB (fun hg => ?_) (fun hg => ?_)
          · have hg := of_decide_eq_true hg
            repeat kbo_bools
            refine al_list F8 N8 (by show 1 ≤ 1000; decide) (fun l1 h9 F9 N9 hl9 X9 hn9 => ?_)
            repeat kbo_bools
            refine b_len_list (isl N9 (.tail _ (List.mem_append_right _ (.head _))) e8) (by simp; (first | lia | omega)) (fun t9 tk9 => ?_)
            rw [List.size_toArray]
            repeat kbo_bools
            refine l_mul1 F9 N9 (.head _) (.int _ _) (by (first | lia | omega)) (by (first | lia | omega)) (fun l2 o2 h10 F10 N10 hl2 hlt2 => ?_)
            repeat kbo_bools
            refine l_add F10 N10 (isl N10 (.tail _ (.tail _ (List.mem_append_right _ (.head _)))) e8) (isl N10 (.head _) hl2) (by rw [List.length_replicate]; (first | lia | omega)) (fun l3 h11 F11 N11 hlt3 => ?_)
            have iv : ∀ tt, IntsAre (vs ++ List.replicate (y.b - vs.length + 1).toNat (.int 0 tt)) (grow y.cs y.b.toNat) := by
              intro tt
              unfold grow
              rw [if_pos (by (first | lia | omega)), show (y.b - vs.length + 1).toNat = y.b.toNat - y.cs.length + 1 by (first | lia | omega)]
              exact e9.append (ints_rep _ _ _)
            have hgl := grow_len y.cs y.b.toNat
            obtain ⟨v3, iv, N11⟩ : ∃ v3, IntsAre v3 (grow y.cs y.b.toNat) ∧ News h L h11 ((l3, listO v3 0) :: _) := ⟨_, iv _, N11⟩
            repeat kbo_bools
            rename_i h12 tk12 F12 N12
            have hl3 : ∀ p ∈ fo ++ [(cl, o), (dx, dictOf es1 1), (x, instO 141 dx)], @LT.lt Nat _ p.1 l3 := fun p hp => hlt3 p (.tail _ (.tail _ hp))
            refine ⟨rfl, h12, tk12, _, [(l3, listO v3 0), (dx, dictOf es1 1), (x, instO 141 dx)], l3, listO v3 0, v3, rfl, F12, news_sub N12 (fun p hp => ?_), fun p hp e => ?_, ⟨rfl, by tb_rel, by tb_rel, by tb_rel, by tb_rel, ⟨_, by tb_rel⟩, ⟨_, by tb_rel⟩, ⟨_, by tb_rel⟩, rfl, listIs_O _ _, iv, e10, by show y.b ≤ ((i + 1 : Nat) : Int); (first | lia | omega), by show (grow _ _).length ≤ _; (first | lia | omega), ?_, ?_⟩⟩
            · have hp0 := List.mem_append.mp hp
              clear hp
              rcases hp0 with hp | hp
              · exact .tail _ (.tail _ (.tail _ (List.mem_append_left _ hp)))
              · revert p hp
                refine fm_cons ?_ ?_
                · exact .head _
                intro p hp
                · exact .tail _ (.tail _ (.tail _ (List.mem_append_right _ (.tail _ hp))))
            · revert e
              revert p hp
              refine (fm_cons ?_ ?_)
              · exact fun e => Nat.lt_irrefl _ (e ▸ hl3 _ (List.mem_append_left _ hoI))
              · exact fun p hp e => hne _ (.tail _ hp) e
            · exact fun e => Nat.lt_irrefl _ (e ▸ hl3 _ (List.mem_append_right _ (.tail _ (.head _))))
            · exact fun e => Nat.lt_irrefl _ (e ▸ hl3 _ (List.mem_append_right _ (.tail _ (.tail _ (.head _)))))
          · have hg := of_decide_eq_false hg
            repeat kbo_bools
            have eg : grow y.cs y.b.toNat = y.cs := by unfold grow; rw [if_neg (by (first | lia | omega))]
            exact ⟨rfl, h8, _, _, _, cl, o, vs, rfl, F8, N8, hne, ⟨rfl, by tb_rel, by tb_rel, by tb_rel, by tb_rel, ⟨_, by tb_rel⟩, ⟨_, by tb_rel⟩, ⟨_, by tb_rel⟩, rfl, e8, by show IntsAre vs (grow _ _); rw [eg]; exact e9, e10, by show y.b ≤ ((i + 1 : Nat) : Int); (first | lia | omega), by show (grow _ _).length ≤ _; rw [eg]; (first | lia | omega), e13, e14⟩⟩
        · rintro f s ⟨rfl, h9, tk9, m9, nw9, cl9, o9, vs9, rfl, F9, N9, hne9, ⟨_, k1, k2, k3, k4, ⟨t5, k5⟩, ⟨t6, k6⟩, ⟨t7, k7⟩, rfl, k8, k9, k10, k11, k12, k13, k14⟩⟩
          have kl := k9.length
          have hgl := grow_len y.cs y.b.toNat
          have hat : ((grow y.cs y.b.toNat))[y.b.toNat]? = some ((grow y.cs y.b.toNat).getD y.b.toNat 0) := by
            rw [List.getD_eq_getElem?_getD, List.getElem?_eq_getElem (by (first | lia | omega))]; rfl
          obtain ⟨u9, hu9⟩ := k9.get _ _ hat
          clear e1 e2 e3 e4 e5 e6 e7
          repeat kbo_bools
          refine i_list (isl N9 (List.mem_append_right _ (.head _)) k8) k10 (by simp only at k11 ⊢; (first | lia | omega)) (by rw [List.getElem?_toArray]; exact hu9) ?_
          repeat kbo_bools
          refine l_set (rest := fo ++ [(dx, dictOf es1 1), (x, instO 141 dx)]) F9 N9 (List.mem_append_right _ (.head _)) k8 k10 (by show y.b < _; simp only at kl; (first | lia | omega)) (by simp only at kl; (first | lia | omega)) (fun p hp => ?_) (fun h10 o10 F10 N10 hl10 => ?_)
          · have hp0 := List.mem_append.mp hp
            clear hp
            rcases hp0 with hp | hp
            · exact ⟨List.mem_append_left _ hp, fun e => hne9 _ (.head _) (e.symm.trans (hfk p hp))⟩
            · refine ⟨List.mem_append_right _ (.tail _ hp), fun e => ?_⟩
              revert e
              revert p hp
              exact (fm_cons (fun e => k13 e.symm) (fm_cons (fun e => k14 e.symm) (fun p hp => nomatch hp)))
          · have iv : ∀ u10, IntsAre (vs9.set y.b.toNat (.int ((grow y.cs y.b.toNat).getD y.b.toNat 0 + 1) u10)) (bump y.cs y.b.toNat) := fun u10 => ints_set k9 _
            obtain ⟨v10, iv, hl10⟩ : ∃ v10, IntsAre v10 (bump y.cs y.b.toNat) ∧ ListIs o10 v10 := ⟨_, iv _, hl10⟩
            have hbl := bump_len y.cs y.b.toNat
            repeat kbo_bools
            rename_i h11 tk11 F11 N11
            refine lp_next ⟨h11, g', tk11, _, [(cl9, o10), (dx, dictOf es1 1), (x, instO 141 dx)], rfl, F11, news_sub N11 (fun p hp => ?_), fun p hp e => ?_, cl9, o10, v10, ⟨bump y.cs y.b.toNat, 0, y.n + 1, y.nt + 1⟩, ⟨rfl, by tb_rel, by tb_rel, by tb_rel, by tb_rel, ⟨_, by tb_rel⟩, ⟨_, by tb_rel⟩, ⟨_, by tb_rel⟩, rfl, hl10, iv, Int.le_refl _, by show (0 : Int) ≤ ((i + 1 : Nat) : Int); (first | lia | omega), by show (bump _ _).length ≤ _; (first | lia | omega), k13, k14⟩, e15⟩
            · have hp0 := List.mem_append.mp hp
              clear hp
              rcases hp0 with hp | hp
              · exact .tail _ (List.mem_append_left _ hp)
              · revert p hp
                refine fm_cons ?_ ?_
                · exact .head _
                intro p hp
                · exact .tail _ (List.mem_append_right _ hp)
            · replace e : p.1 = I := by simpa using e
              revert e
              revert p hp
              exact (fm_cons (fun e => hne9 _ (.head _) e) (fun p hp e => hne9 _ (.tail _ hp) e))
      · have hc9 := of_decide_eq_false hc9
        rw [scan_stop _ _ hb hc9] at e15
        repeat kbo_bools
        refine wpAny_Break ?_
        refine sq_brk (sq_brk (sq_brk (lp_brk ?_)))
        exact ⟨h7, g', _, _, _, rfl, F7, news_sub N7 (fun p hp => List.mem_append_right _ hp), cl, o, vs, i, by (first | lia | omega), e15 ▸ ⟨rfl, by tb_rel, by tb_rel, by tb_rel, by tb_rel, ⟨_, by tb_rel⟩, ⟨_, by tb_rel⟩, ⟨_, by tb_rel⟩, rfl, e8, e9, e10, e11, e12, e13, e14⟩⟩
  · rintro g' m nw ⟨cl, o, vs, y, S1, e⟩
    rw [List.drop_eq_nil_of_le (by simp)] at e
    exact ⟨cl, o, vs, line.cps.size, hs, e ▸ S1⟩
  · rintro g' m nw h7 tk8 ⟨cl, o, vs, k, hk, ⟨rfl, e1, e2, e3, e4, ⟨t5, e5⟩, ⟨t6, e6⟩, ⟨t7, e7⟩, rfl, e8, e9, e10, e11, e12, e13, e14⟩⟩ F7 N7
    have hbd : (wtOf line).b < 100 := by (first | lia | omega)
    have hcl : (wtOf line).cs.length ≤ 100 := by (first | lia | omega)
    have el := e9.length
    subst hes
    repeat kbo_bools
    refine set_attr (rest := [(cl, o), (x, instO 141 dx)]) F7 B N7 (.tail _ (.head _)) (.tail _ (.tail _ (.head _))) (fun p hp => ?_) (by kernel_rfl) (by kernel_rfl) (by kernel_rfl) (by kernel_rfl) (by kernel_rfl)
      (es' := [⟨PyData.keyHash w.params ⟨⟨[114, 97, 119]⟩⟩, .str ⟨⟨[114, 97, 119]⟩⟩ (tk + 1), .str line t⟩, ⟨PyData.keyHash w.params ⟨⟨[110]⟩⟩, .str ⟨⟨[110]⟩⟩ (tk8 + 1), .int (wtOf line).n t6⟩]) (n' := 2) (by kernel_rfl) (by show 2 ≤ 1000; decide) (fun h8 tk9 F8 N8 => ?_)
    · revert p hp
      refine fm_cons ?_ ?_
      · exact ⟨.head _, e13⟩
      intro p hp
      · rw [List.mem_singleton.mp hp]; exact ⟨.tail _ (.tail _ (.head _)), hxd⟩
    clear F7 N7
    repeat kbo_bools
    refine set_attr (rest := [(cl, o), (x, instO 141 dx)]) F8 B N8 (.head _) (.tail _ (.tail _ (.head _))) (fun p hp => ?_) (by kernel_rfl) (by kernel_rfl) (by kernel_rfl) (by kernel_rfl) (by kernel_rfl)
      (es' := [⟨PyData.keyHash w.params ⟨⟨[114, 97, 119]⟩⟩, .str ⟨⟨[114, 97, 119]⟩⟩ (tk + 1), .str line t⟩, ⟨PyData.keyHash w.params ⟨⟨[110]⟩⟩, .str ⟨⟨[110]⟩⟩ (tk8 + 1), .int (wtOf line).n t6⟩, ⟨PyData.keyHash w.params ⟨⟨[110, 116]⟩⟩, .str ⟨⟨[110, 116]⟩⟩ (tk9 + 1), .int (wtOf line).nt t7⟩]) (n' := 3) (by kernel_rfl) (by show 3 ≤ 1000; decide) (fun h9 tk10 F9 N9 => ?_)
    · revert p hp
      refine fm_cons ?_ ?_
      · exact ⟨.tail _ (.head _), e13⟩
      intro p hp
      · rw [List.mem_singleton.mp hp]; exact ⟨.tail _ (.tail _ (.head _)), hxd⟩
    clear F8 N8
    repeat kbo_bools
    refine c_tuple F9 N9 (isl N9 (.tail _ (.head _)) e8) (by (first | lia | omega)) (fun ct h10 F10 N10 hl10 => ?_)
    repeat kbo_bools
    refine al_tup F10 N10 (by show 2 ≤ 1000; decide) (fun nm h11 F11 N11 hl11 X11 hn11 => ?_)
    repeat kbo_bools
    refine set_attr (rest := [(nm, tupO [.ref ct, .int (wtOf line).b t5]), (ct, tupO vs), (cl, o), (x, instO 141 dx)]) F11 B N11 (.tail _ (.tail _ (.head _))) (.tail _ (.tail _ (.tail _ (.tail _ (.head _))))) (fun p hp => ?_) (by kernel_rfl) (by kernel_rfl) (by kernel_rfl) (by kernel_rfl) (by kernel_rfl)
      (es' := [⟨PyData.keyHash w.params ⟨⟨[114, 97, 119]⟩⟩, .str ⟨⟨[114, 97, 119]⟩⟩ (tk + 1), .str line t⟩, ⟨PyData.keyHash w.params ⟨⟨[110]⟩⟩, .str ⟨⟨[110]⟩⟩ (tk8 + 1), .int (wtOf line).n t6⟩, ⟨PyData.keyHash w.params ⟨⟨[110, 116]⟩⟩, .str ⟨⟨[110, 116]⟩⟩ (tk9 + 1), .int (wtOf line).nt t7⟩, ⟨PyData.keyHash w.params ⟨⟨[110, 111, 114, 109]⟩⟩, .str ⟨⟨[110, 111, 114, 109]⟩⟩ (tk10 + 1), .ref nm⟩]) (n' := 4) (by kernel_rfl) (by show 4 ≤ 1000; decide) (fun h12 tk12 F12 N12 => ?_)
    · revert p hp
      refine fm_cons ?_ ?_
      · exact ⟨.head _, fun e => Nat.lt_irrefl _ (e ▸ hl11 _ (.tail _ (.head _)))⟩
      refine fm_cons ?_ ?_
      · exact ⟨.tail _ (.head _), fun e => Nat.lt_irrefl _ (e ▸ hl10 _ (.head _))⟩
      refine fm_cons ?_ ?_
      · exact ⟨.tail _ (.tail _ (.tail _ (.head _))), e13⟩
      intro p hp
      · rw [List.mem_singleton.mp hp]; exact ⟨.tail _ (.tail _ (.tail _ (.tail _ (.head _)))), hxd⟩
    clear F9 N9 F10 N10 F11
    repeat kbo_bools
    refine b_len_list (isl N12 (.tail _ (.tail _ (.tail _ (.head _)))) e8) (by simp; (first | lia | omega)) (fun t9 tk13 => ?_)
    rw [List.size_toArray]
    repeat kbo_bools
    rw [show decide ((vs.length : Int) ≤ 1) = decide ((wtOf line).cs.length ≤ 1) by rw [decide_eq_decide]; (first | lia | omega)]
    rename_i tk14
    refine set_attr (rest := [(nm, tupO [.ref ct, .int (wtOf line).b t5]), (ct, tupO vs), (x, instO 141 dx)]) F12 B N12 (.head _) (.tail _ (.tail _ (.tail _ (.tail _ (.head _))))) (fun p hp => ?_) (by kernel_rfl) (by kernel_rfl) (by kernel_rfl) (by kernel_rfl) (by kernel_rfl)
      (es' := wsEs w.params (tk + 1) (tk8 + 1) (tk9 + 1) (tk10 + 1) (tk14 + 1) t6 t7 (.str line t) (wtOf line) nm) (n' := 5) (by kernel_rfl) (by show 5 ≤ 1000; decide) (fun h13 tk15 F13 N13 => ?_)
    · revert p hp
      refine fm_cons ?_ ?_
      · exact ⟨.tail _ (.head _), fun e => Nat.lt_irrefl _ (e ▸ hl11 _ (.tail _ (.head _)))⟩
      refine fm_cons ?_ ?_
      · exact ⟨.tail _ (.tail _ (.head _)), fun e => Nat.lt_irrefl _ (e ▸ hl10 _ (.head _))⟩
      intro p hp
      · rw [List.mem_singleton.mp hp]; exact ⟨.tail _ (.tail _ (.tail _ (.tail _ (.head _)))), hxd⟩
    repeat kbo_bools
    exact ⟨rfl, hQ _ _ _ F13.keep ⟨_, _, _, _, _, _, _, _, _, _, _, _, _, ⟨(N13 _ (.tail _ (.tail _ (.tail _ (.head _))))).1, (N13 _ (.head _)).1, (N13 _ (.tail _ (.head _))).1, (N13 _ (.tail _ (.tail _ (.head _)))).1, e9⟩, (N13 _ (.tail _ (.tail _ (.tail _ (.head _))))).2.2, (N13 _ (.head _)).2.2, (N13 _ (.tail _ (.head _))).2.2, (N13 _ (.tail _ (.tail _ (.head _)))).2.2⟩ (hnone x (by (first | lia | omega)))⟩
end
end
section
open PySem PySem.W PyProof.Rows PySem.Calls PySem.Spec
set_option maxHeartbeats 1000000
section
variable {prog : Program} {w : World} {A : Around} {E : Value → Shared → Prop} {h h₀ : Heap} {g : Array GenState} {d : Drawn} {tk : Nat} {os : OsState} {L : Addr} {m mg mb : Str → Option Value} {env : Env}
/-- a lambda entered -/
theorem enterE {f : Addr} {o : Obj} {fd : FuncData} {body : Expr} {pos : List Value} {kw : List (Str × Value)} {binds bindsR : List (Str × Value)} {Q : Value → Shared → Prop}
    (hlim : h.NoLimit) (hf : h.get? f = some o) (hd : o.data = .func fd) (hcd : h.CodeRec fd.code fd.qualname) (hbody : fd.body = .expr body)
    (hbind : BindsTo ⟨h, g, d, tk, os⟩ fd ⟨pos, kw⟩ binds) (room : A.depth < recursionLimit)
    (hb : ∀ h₁ L tk E', Fr h L h₁ (Lk bindsR) →
      wpAny (model prog w) (A.deeper (callEnv fd L f)) (eval body (callEnv fd L f)) (fun v s' => Q v s') E' ⟨h₁, g, d, tk, os⟩)
    (hcell : fd.scope.names.all (fun x => x.2 != .cell) = true) (hloc : binds.all (fun x => fd.scope.names.lookup x.1 == some .local) = true)
    (hco : fd.scope.isCoroutine = false) (hgen : fd.scope.isGenerator = false) (hk : fd.scope.kind = .function) (hrev : binds.reverse = bindsR) :
    wpAny (model prog w) A (call (.ref f) pos kw) Q E ⟨h, g, d, tk, os⟩ := by
  subst hrev
  refine wpAny_call (kla_callFunE room hf hd hco hgen hbody hcd (hbind _ _ _ _ ?_))
  refine wpAny_newFunctionEnv (fun x hx => by simpa using List.all_eq_true.mp hcell x hx) (fun x hx => by simpa using List.all_eq_true.mp hloc x hx) (fun h₁ hns hsb => ⟨hlim.fresh _ hsb, ?_⟩) hk
  have hkp : Ext h h₁ := fun b o e => hsb.extBut b o (Nat.ne_of_lt (Heap.lt_size e)) (Heap.get?_push_of_some _ e)
  exact kla_codeExpr (hb h₁ h.objs.size _ _ ⟨hns, hkp, Nat.le_refl _⟩)
theorem nm_free {x : Str} {pos : Pos} {c : Addr} {o : Obj} {v : Value} {Q : Value → Shared → Prop} (hc : env.cells.lookup x = some c) (ho : h.get? c = some o) (hd : o.data = .cell (some v)) (hQ : Q v ⟨h, g, d, tk, os⟩)
    (hk : env.scope.kind = .function := by rfl) (hx : env.kindOf x = some .free := by rfl) (hb : (x == ("__debug__" : Str)) = false := by decide +kernel) (hn : (x == ("__classdict__" : Str)) = false := by decide +kernel) :
    wpAny (model prog w) A (eval (.Name x pos) env) Q E ⟨h, g, d, tk, os⟩ := wpAny_Name (wpAny_loadName_free (s := ⟨h, g, d, tk, os⟩) hk hx hc ⟨o, ho, hd⟩ hQ hn) hb
theorem nm_cell {x : Str} {pos : Pos} {c : Addr} {o : Obj} {v : Value} {Q : Value → Shared → Prop} (hc : env.cells.lookup x = some c) (ho : h.get? c = some o) (hd : o.data = .cell (some v)) (hQ : Q v ⟨h, g, d, tk, os⟩)
    (hk : env.scope.kind = .function := by rfl) (hx : env.kindOf x = some .cell := by rfl) (hb : (x == ("__debug__" : Str)) = false := by decide +kernel) :
    wpAny (model prog w) A (eval (.Name x pos) env) Q E ⟨h, g, d, tk, os⟩ := wpAny_Name (wpAny_loadName_cell (s := ⟨h, g, d, tk, os⟩) hk hx hc ⟨o, ho, hd⟩ hQ) hb
end
/- the key of the bisection -/
noncomputable def lamOf : Expr → Arguments × Expr × Scope × Pos
  | .Lambda p b s q => (p, b, s, q)
  | _ => default
noncomputable abbrev fLaid (P : Params) : FuncData := fnIn? (hd.zo_174 P)
noncomputable def kwOf : List Stmt → Expr
  | _ :: .Assign _ (.Call _ _ [⟨_, v, _⟩] _) _ :: _ => v
  | _ => default
noncomputable def bodyOf (fd : FuncData) : List Stmt := match fd.body with | .stmts b => b | _ => []
noncomputable def lamKey (P : Params) : Arguments × Expr × Scope × Pos := lamOf (kwOf (bodyOf (fLaid P)))
noncomputable def lamQ : Str := ⟨⟨[95, 108, 97, 119, 95, 108, 97, 105, 100]⟩⟩ ++ ".<locals>." ++ "<lambda>"
noncomputable abbrev lamObj (P : Params) (cell : Addr) (pm : Value) (c' : Addr) (ctv : Value) : Obj := kla_obj "<lambda>" lamQ (lamKey P).1 (lamKey P).2.1 (lamKey P).2.2.1 [(⟨⟨[114, 111, 119]⟩⟩, cell)] pm c' ctv
section
variable {w : World} {A : Around} {E : Value → Shared → Prop} {h : Heap} {g : Array GenState} {d : Drawn} {tk : Nat} {os : OsState} {mg mb : Str → Option Value}
theorem key_ok {f cell c' : Addr} {co : Obj} {pm ctv : Value} {a r : Addr} {x y : Wt} {Q : Value → Shared → Prop} (B : Bs w mg mb h) (R : Rm A 10) (hf : h.get? f = some (lamObj w.params cell pm c' ctv)) (hc : h.CodeRec (.ref c') lamQ)
    (hco : h.get? cell = some co) (hcd : co.data = .cell (some (.ref r))) (W : WsAt w.params h a x) (V : WsAt w.params h r y) (kx : Wok x) (ky : Wok y)
    (hQ : ∀ h' tk', Ext h h' → Q (.bool (!lessB x y)) ⟨h', g, d, tk', os⟩) :
    wpAny (MM w) A (call (.ref f) [.ref a]) Q E ⟨h, g, d, tk, os⟩ := by
  refine enterE (binds := [(⟨⟨[111, 110, 101]⟩⟩, .ref a)]) B.lim hf rfl hc rfl (BindsTo.of_eq (by rfl)) R.room ?_ (by rfl) (by rfl) rfl rfl rfl rfl
  intro h₁ L tk E' F
  simp only [List.reverse_cons, List.reverse_nil, List.nil_append, List.cons_append] at F
  have N : News h L h₁ [] := News.nil
  have R1 := R.deeper (k := 9) (env := callEnv (kla_fn "<lambda>" lamQ (lamKey w.params).1 (lamKey w.params).2.1 (lamKey w.params).2.2.1 [(⟨⟨[114, 111, 119]⟩⟩, cell)] pm (.ref c') ctv) L f)
  show wpAny _ _ (eval (Expr.UnaryOp UnaryOp.Not (((Expr.Name ⟨⟨[111, 110, 101]⟩⟩ _).Attribute ⟨⟨[108, 101, 115, 115]⟩⟩ _).Call [Expr.Name ⟨⟨[114, 111, 119]⟩⟩ _] [] _) _) _) _ _ _
  repeat kbo_bools
  refine nm_free (c := cell) (by rfl) (F.keep _ _ hco) hcd ?_
  repeat kbo_bools
  show wpAny _ _ (call (.ref 131) [.ref a, .ref r]) _ _ _
  refine less_ok (B.ext F.keep) (R1.le (by decide)) (W.ext F.keep) (V.ext F.keep) kx ky (fun h2 tk2 X2 => ?_)
  repeat kbo_bools
  exact PyProof.Rows.not_of (t_bool (hQ _ _ (Ext.trans F.keep X2)))
end
end
section
open PySem PySem.W PyProof.Rows PySem.Calls PySem.Spec
set_option maxHeartbeats 1000000
/- the base with some objects hidden -/
theorem hide_ext {h0 h : Heap} {xs : List Addr} (e : Ext h0 h) (hx : ∀ a ∈ xs, h0.get? a = none) : Ext h0 (hideAll h xs) := fun b o q => hideAll_get _ (e _ _ q) fun hm => by (first | exact gX q (hx b hm) | exact gX (hx b hm) q | (rw [hx b hm] at q; cases q))
theorem Bs.hide {w : World} {mg mb : Str → Option Value} {h0 h : Heap} {xs : List Addr} (B : Bs w mg mb h0) (e : Ext h0 h) (hx : ∀ a ∈ xs, h0.get? a = none) : Bs w mg mb (hideAll h xs) := B.ext (hide_ext e hx)
theorem kn_226 (P : Params) : (KN P).lookup 226 = none := by kernel_rfl
theorem kn_147 (P : Params) : (KN P).lookup 147 = none := by kernel_rfl
theorem Bs.tabs {w : World} {mg mb : Str → Option Value} {h : Heap} (B : Bs w mg mb h) : Bs w mg mb (hideAll h [226, 147]) := by
  have key : ∀ b o, b ≠ 226 → b ≠ 147 → h.get? b = some o → (hideAll h [226, 147]).get? b = some o := fun b o h1 h2 e => hideAll_get _ e (by simp [h1, h2])
  refine ⟨fun a o e => key a o (fun q => ?_) (fun q => ?_) (B.X a o e), ?_, ?_, B.bi, ?_⟩
  · subst q; (first | exact gX e kn_226 | exact gX kn_226 e | (rw [kn_226] at e; cases e))
  · subst q; (first | exact gX e kn_147 | exact gX kn_147 e | (rw [kn_147] at e; cases e))
  · obtain ⟨o, es, ep, e, r⟩ := B.gl; exact ⟨o, es, ep, key _ _ (by decide) (by decide) e, r⟩
  · obtain ⟨o, es, ep, e, r⟩ := B.bl; exact ⟨o, es, ep, key _ _ (by decide) (by decide) e, r⟩
  · refine holdG fun Pz kz => ?_
    obtain ⟨m, ⟨o, es, ep, e, r⟩, hl⟩ := B.lim
    refine kz ?_
    clear kz Pz
    exact ⟨m, ⟨o, es, ep, key _ _ (by decide) (by decide) e, r⟩, hl⟩
theorem bi_ref (P : Params) : nsIn (KN P) mainGlobals ⟨⟨[95, 95, 98, 117, 105, 108, 116, 105, 110, 115, 95, 95]⟩⟩ = some (some (.ref 4)) := by kernel_rfl
theorem bi_at (P : Params) : (KN P).lookup 4 = some (hd.zo_5 P) := by kernel_rfl
theorem Bs.bm {w : World} {mg mb : Str → Option Value} {h : Heap} (B : Bs w mg mb h) : mg "__builtins__" = some (.ref 4) := mg_of B.X B.gl (bi_ref _)
section
variable {prog : Program} {w : World} {A : Around} {E : Value → Shared → Prop} {h h₀ : Heap} {g : Array GenState} {d : Drawn} {tk : Nat} {os : OsState} {env : Env} {L : Addr} {m mg mb : Str → Option Value} {nw rest : List (Addr × Obj)}
theorem bi_for {s : Shared} {running : Addr} {Q : Addr → Shared → Prop} {w : World} {M : Model} (B : Bs w mg mb s.heap) (hQ : Q builtinsNs s) : wpAny M A (builtinsFor mainGlobals running) Q E s :=
  wpAny_builtinsFor B.gl B.bm (by decide) (B.X _ _ (bi_at _)) (by kernel_rfl) (by kernel_rfl) (by kernel_rfl) hQ
theorem o_gt {a b : Int} {t u : Tok} {Q : Value → Shared → Prop} (hQ : Q (.bool (decide (b < a))) ⟨h, g, d, tk, os⟩) : wpAny (model prog w) A (compareOp .Gt (.int a t) (.int b u)) Q E ⟨h, g, d, tk, os⟩ := PyProof.Rows.gt_int hQ
theorem o_cat {x y : Str} {t u : Tok} {Q : Value → Shared → Prop} (hs : x.length + y.length ≤ 1000000) (hQ : ∀ t tk, Q (.str (x ++ y) t) ⟨h, g, d, tk, os⟩) : wpAny (model prog w) A (binaryOp .Add (.str x t) (.str y u)) Q E ⟨h, g, d, tk, os⟩ :=
  PyProof.Rows.add_str (s := ⟨h, g, d, tk, os⟩) (fun t' tk => hQ t' tk) (by rw [sizeLine_eq]; (first | lia | omega))
noncomputable def strOf (n : Int) : Str := Str.ofString (toString n)
theorem b_str {a : Int} {t : Tok} {Q : Value → Shared → Prop} (h1 : 0 ≤ a) (h2 : a < 1000) (hQ : ∀ t tk, Q (.str (strOf a) t) ⟨h, g, d, tk, os⟩) : wpAny (model prog w) A (call (.type "str") [.int a t]) Q E ⟨h, g, d, tk, os⟩ := by
  refine PySem.P.str_of_int (s := ⟨h, g, d, tk, os⟩) ?_ (hQ _ _)
  have : a.natAbs < 2 ^ 1920 := Nat.lt_of_lt_of_le (show a.natAbs < 1000 by (first | lia | omega)) (by decide)
  by_cases hz : a.natAbs = 0
  · rw [hz]; decide
  · exact (Nat.log2_lt hz).mpr this
theorem m_join {x : Str} {t : Tok} {pl : Sem Bool} {Q : Value × List Value → Shared → Prop} (hQ : Q (.builtin "str.join", [.str x t]) ⟨h, g, d, tk, os⟩) : wpAny (model prog w) A (getMethod (.str x t) ⟨⟨[106, 111, 105, 110]⟩⟩ pl) Q E ⟨h, g, d, tk, os⟩ := GM.join hQ
theorem fr_but {h' : Heap} {P : Addr} {o : Obj} (F : Fr h₀ L h m) (N : News h₀ L h nw) (hm : (P, o) ∈ nw) (hx : Heap.ExtBut P h h') : Fr h₀ L h' m :=
  ⟨F.ns.extBut hx (N _ hm).2.1.symm, fun b o e => hx b o (fun q => by (first | exact gX e ((congrArg _ q).trans (N _ hm).2.2) | exact gX (N _ hm).2.2 ((congrArg _ q).symm.trans e) | (rw [q, (N _ hm).2.2] at e; cases e))) (F.keep b o e), F.above⟩
theorem nw_but {h' : Heap} {P : Addr} {o o' : Obj} (N : News h₀ L h nw) (hm : (P, o) ∈ nw) (hx : Heap.ExtBut P h h') (ho : h'.get? P = some o') (hr : ∀ p ∈ rest, p ∈ nw ∧ p.1 ≠ P) : News h₀ L h' ((P, o') :: rest) := by
  refine fm_cons ?_ ?_
  · exact ⟨ho, (N _ hm).2⟩
  intro p hp
  · exact ⟨hx _ _ (hr p hp).2 (N p (hr p hp).1).1, (N p (hr p hp).1).2⟩
end
end
section
open PySem PySem.W PyProof.Rows PySem.Calls PySem.Spec
set_option maxHeartbeats 1000000
theorem Tups.len {nw : List (Addr × Obj)} {vs : List Value} {tss : List Nat} (x : Tups nw vs tss) : vs.length = tss.length := by
  induction x with
  | nil => rfl
  | snoc _ _ ih => simp [ih]
theorem Tups.at {nw : List (Addr × Obj)} {vs : List Value} {tss : List Nat} (x : Tups nw vs tss) : ∀ (i : Nat) (v : Value), vs[i]? = some v → ∃ r ts t a b, v = .ref r ∧ tss[i]? = some ts ∧ (r, tupO [.int ts t, a, b]) ∈ nw := by
  induction x with
  | nil => intro i v h; simp at h
  | @snoc vs tss r ts t a b x hm ih =>
    intro i v h
    rcases Nat.lt_or_ge i vs.length with hi | hi
    · rw [List.getElem?_append_left hi] at h
      refine holdG fun Pz kz => ?_
      obtain ⟨r, ts, t, a, b, e1, e2, e3⟩ := ih i v h
      refine kz ?_
      clear kz Pz
      exact ⟨r, ts, t, a, b, e1, by rw [List.getElem?_append_left (by rw [← x.len]; exact hi)]; exact e2, e3⟩
    · rw [List.getElem?_append_right hi] at h
      have hi' : i - vs.length = 0 := by
        cases hk : i - vs.length with
        | zero => rfl
        | succ k => rw [hk] at h; simp at h
      rw [hi'] at h
      simp at h
      exact ⟨r, ts, t, a, b, h.symm, by rw [List.getElem?_append_right (by rw [← x.len]; exact hi), ← x.len, hi']; rfl, hm⟩
noncomputable def wordsOf (tss : List Nat) : Str := (if 1 < tss.length then ⟨⟨[97, 116, 32, 116, 97, 98, 32, 115, 105, 122, 101, 115]⟩⟩ else ⟨⟨[97, 116, 32, 116, 97, 98, 32, 115, 105, 122, 101]⟩⟩) ++ ⟨⟨[32]⟩⟩ ++ Txt.join ⟨⟨[44, 32]⟩⟩ (tss.map fun n : Nat => strOf n)
theorem strOf_len : ∀ n : Nat, n < 10 → (strOf n).length ≤ 4 := by decide +kernel
noncomputable def genOf : List Stmt → Expr
  | .Assign _ v _ :: _ => v
  | _ => default
theorem i_tup {prog : Program} {w : World} {A : Around} {E : Value → Shared → Prop} {h : Heap} {g : Array GenState} {d : Drawn} {tk : Nat} {os : OsState} {value slice : Expr} {l : Addr} {items : Array Value} {k : Int} {u : Tok} {x : Value} {Q : Value → Shared → Prop} (hl : IsTup h l items)
    (h0 : 0 ≤ k) (hx : items[k.toNat]? = some x) (hs : items.size < 1000) (hQ : Q x ⟨h, g, d, tk, os⟩)
    (hsu : subscripted slice false (.ref l) (.int k u) = operate [.ref l, .int k u] (getItem (.ref l) (.int k u)) := by with_unfolding_all rfl) (hg : ∀ r, letTemporaryGo value (.ref l) r = pure () := by intro _; with_unfolding_all rfl) :
    wpAny (model prog w) A (subscriptTail value slice (.ref l) (.int k u)) Q E ⟨h, g, d, tk, os⟩ := by
  have hk : k.toNat < items.size := (Array.getElem?_eq_some_iff.mp hx).1
  refine item_tuple (s := ⟨h, g, d, tk, os⟩) (j := k.toNat) hl (by (first | lia | omega)) (by (first | lia | omega)) ?_ hx hQ hsu hg
  unfold seqIndex?
  rw [show (if k < 0 then k + (items.size : Int) else k) = k from if_neg (by (first | lia | omega))]
  exact if_pos (by simp; (first | lia | omega))
/-- a generator expression that is held in a name: what it reads is all but that frame -/
theorem gen_but {prog : Program} {w : World} {A : Around} {E : Value → Shared → Prop} {s : Shared} {env : Env} {elt iter : Expr} {x : Str} {px : Pos} {ifs : List Expr} {scope : Scope} {cl : List (Str × Addr)} {pos : Pos} {Q : Value → Shared → Prop} (X : Addr)
    (hh : A.handled = none) (hco : scope.isCoroutine = false) (hclos : closureFor scope env = pure cl) (hcell : ∀ y ∈ scope.names, y.2 ≠ .cell) (h0 : scope.names.lookup (".0" : Str) = some NameKind.local)
    (hx : scope.names.lookup x = some .local) (hkind : scope.kind = .function) (hroom : A.depth < recursionLimit)
    (h : wpAny (model prog w) A (eval iter env) (fun xv s₁ => wpAny (model prog w) A (pyIter xv) (fun it s₂ => s₂.heap.NoLimit ∧
      wpAny (model prog w) A (genexprCode env pos (env.qual ++ "<genexpr>") scope) (fun code s₃ => wpAny (model prog w) A (builtinsFor env.globals env.builtins) (fun bi s₄ =>
        ∃ I fp wr n₀ P St₀ pz F, it = .ref I ∧ (∀ A' : Around, A'.handled = none → Walks prog w A' I fp wr n₀ P St₀) ∧ St₀ 0 s₄.heap ∧ (∀ b ∈ fp, b < s₄.heap.objs.size ∧ b ≠ X) ∧ s₄.heap.NoLimit ∧ cStatics ∉ wr ∧ cStatics ≠ X ∧
          (∀ href : Heap, (∀ b o, s₄.heap.get? b = some o → href.get? b = some o) →
            QuietGen prog w (genEnv scope cl s₄.heap.objs.size code bi env) x ifs elt ((List.range s₄.heap.objs.size).filter (· != X)) wr P pz F href) ∧
          (∀ a h₅ tk gs, gs.bare = true → s₄.heap.objs.size < a → h₅.objs.size = a + 1 → (∀ b o, s₄.heap.get? b = some o → h₅.get? b = some o) →
            WalksS prog w A.in4 a (a :: s₄.heap.objs.size :: (List.range s₄.heap.objs.size).filter (· != X)) (s₄.heap.objs.size :: wr) (GenOnlyQ s₄.gens.size) (passing pz n₀ 0).length
              (fun j y => ∃ i, (passing pz n₀ 0)[j]? = some i ∧ F i y) (GenAt prog w A.in4 a s₄.gens.size s₄.heap.objs.size ((List.range s₄.heap.objs.size).filter (· != X)) wr pz n₀ F) →
            GenAt prog w A.in4 a s₄.gens.size s₄.heap.objs.size ((List.range s₄.heap.objs.size).filter (· != X)) wr pz n₀ F 0 { s₄ with gens := s₄.gens.push gs, toks := tk, heap := h₅ } →
            Q (.ref a) { s₄ with gens := s₄.gens.push gs, toks := tk, heap := h₅ })) E s₃) E s₂) E s₁) E s)
    (hs : ∀ x, genFold iter env x = pure x) :
    wpAny (model prog w) A (eval (.GeneratorExp elt [⟨.Name x px, iter, ifs, 0⟩] scope pos) env) Q E s := by
  refine wpAny_GeneratorExp_make hco hclos hcell h0 hkind hroom (wpAny_mono h (fun xv s₁ h₁ => wpAny_mono h₁ (fun it s₂ h₂ => ⟨h₂.1, wpAny_mono h₂.2 (fun code s₃ h₃ => wpAny_mono h₃ (fun bi s₄ h₄ => ?_)
    fun _ _ e => e) fun _ _ e => e⟩) fun _ _ e => e) fun _ _ e => e) hs
  refine holdG fun Pz kz => ?_
  obtain ⟨I, fp, wr, n₀, P, St₀, pz, F, rfl, W₀, hst, hfp, hl₄, hcw, hcX, hq, hQ⟩ := h₄
  refine kz ?_
  clear kz Pz
  have hclt : cStatics < s₄.heap.objs.size := let ⟨_, hn, _⟩ := hl₄; hn.lt
  have mem : ∀ b, b ∈ (List.range s₄.heap.objs.size).filter (· != X) ↔ b < s₄.heap.objs.size ∧ b ≠ X := fun b => by simp [List.mem_filter]
  intro h' hn' hs'
  have hsz : h'.objs.size = s₄.heap.objs.size + 1 := by rw [hs'.1, Heap.size_push]
  have keep' : ∀ b o, s₄.heap.get? b = some o → h'.get? b = some o := fun b o e => hs'.extBut b o (Nat.ne_of_lt (Heap.lt_size e)) (Heap.get?_push_of_some _ e)
  have hsub : ∀ b ∈ wr, b ∈ (List.range s₄.heap.objs.size).filter (· != X) := fun b hb => (mem b).mpr (hfp b ((W₀ A hh).sub b hb))
  have haC : h'.objs.size ≠ s₄.heap.objs.size := by rw [hsz]; exact Nat.succ_ne_self _
  have haf : h'.objs.size ∉ (List.range s₄.heap.objs.size).filter (· != X) := fun hm => by have h1 := ((mem _).mp hm).1; rw [hsz] at h1; exact absurd h1 (Nat.not_lt.mpr (Nat.le_succ _))
  have keep₅ : ∀ b o, s₄.heap.get? b = some o → (h'.push { cls := .type "generator", data := .fields #[.int s₄.gens.size 0, .str "<genexpr>" (s₄.toks + 1), .str (env.qual ++ "<genexpr>") (s₄.toks + 1 + 1)] }).get? b = some o :=
    fun b o e => Heap.get?_push_of_some _ (keep' b o e)
  refine hQ _ _ _ _ rfl (by (first | lia | omega)) (by rw [Heap.size_push]) keep₅ (WalksS.genexpQ (A := A.in4) hh _ _ _ _ wr pz n₀ F haC haf hsub hroom ((mem _).mpr ⟨hclt, hcX⟩) (Nat.ne_of_lt hclt) hcw) ?_
  refine GenAt.fresh (A := A.in4) (cenv := genEnv scope cl s₄.heap.objs.size code bi env) (m := fun y => if y = ".0" then some (.ref I) else none) hh
    (fun A' hA => (W₀ A' hA).mono_fp fun b hb => (mem b).mpr (hfp b hb)) pz F hx (by simp [genEnv, hkind]) hco
    (fun hm => Nat.lt_irrefl _ ((mem _).mp hm).1) (hq _ keep₅) ⟨_, _, _, Heap.get?_push_size _ rfl, rfl, rfl, rfl⟩ (Array.getElem?_push_size ..) ((W₀ A hh).frame _ _ _ hst fun b _ o e => keep₅ b o e) (hn'.push _) (hl₄.keeps keep₅)
section
variable {w : World} {A : Around} {E : Value → Shared → Prop} {h h0 : Heap} {g : Array GenState} {d : Drawn} {tk : Nat} {os : OsState} {mg mb : Str → Option Value}
theorem hd_151a (P : Params) : codeHdIn (KN P) 151 147 = true := by kernel_rfl
theorem gen_codeT {M : Model} {s : Shared} {env : Env} {c P : Addr} {ps : Array Value} {pos : Pos} {qualname : Str} {scope : Scope} {Q : Value → Shared → Prop} (hc : env.code = .ref c) (hok : s.heap.IsCode c P ps) (hh : CodeHd s.heap c P) (hT : s.heap.get? P = some (tabObj ps))
    (hQ : ∀ code h' tk ps', Heap.ExtBut P s.heap h' → h'.IsCode c P ps' → h'.get? P = some (tabObj ps') → Q code { s with heap := h', toks := tk }) :
    wpAny M A (genexprCode env pos qualname scope) Q E s := by
  cases hf : codeAmong pos ps.toList with
  | some c' => exact wpAny_genexprCode_hit hc hok hf (hQ c' s.heap s.toks ps (Heap.ExtBut.refl _ _) hok hT)
  | none => exact wpAny_genexprCodeX hc hok (hh.tab hT) hf (fun c' h' tk x _ _ k _ t _ => hQ _ h' tk _ x k t.2)
theorem fmt_at (P : Params) : (KN P).lookup 152 = some (hd.zo_117 P) := by kernel_rfl
noncomputable abbrev fFmt (P : Params) : FuncData := fnIn? (hd.zo_117 P)
theorem fmt_ok {l : Addr} {tss : List Nat} {ps : Array Value} {Q : Value → Shared → Prop} (B : Bs w mg mb h0) (e0 : Ext h0 h) (n0 : h0.get? 147 = none) (hle : h0.objs.size ≤ h.objs.size) (R : Rm A 8) (C : h.IsCode 151 147 ps) (hT : h.get? 147 = some (tabObj ps)) (G : AllBare g) (W : WitAt h l tss) (hb : ∀ t ∈ tss, t < 10) (hn : tss.length < 100)
    (hQ : ∀ h' g' t tk' ps', Heap.ExtBut 147 h h' → h'.IsCode 151 147 ps' → h'.get? 147 = some (tabObj ps') → AllBare g' → Q (.str (wordsOf tss) t) ⟨h', g', d, tk', os⟩) :
    wpAny (MM w) A (call (.ref 152) [.ref l]) Q E ⟨h, g, d, tk, os⟩ := by
  refine holdG fun Pz kz => ?_
  obtain ⟨vs, tp, n, hl, htp, T⟩ := W
  obtain ⟨oc, cvs, file, tf, flags, tg, inF, text, tt, op, c1, c2, c3, c4, c5, c6, c7, c8, c9, c10, c11⟩ := id C
  refine kz ?_
  clear kz Pz
  have nl : l ≠ 147 := fun e => by rw [e, c8] at hl; cases hl; cases c9
  refine wpAny_call ?_
  refine enterN (fd := fFmt w.params) (body := _) (hb := hideAll h [147]) (nw := [(147, op)]) (binds := [(⟨⟨[119]⟩⟩, .ref l)]) (B.hide e0 (fun a ha => by rw [List.mem_singleton.mp ha]; exact n0)) (fun b o e => of_hideAll _ e) ?_ (fmt_at _) rfl (by kernel_rfl) rfl (BindsTo.of_eq (by kernel_rfl)) R.room (Nat.le_of_eq (hideAll_size _ _)) ?_ (by kernel_rfl) (by kernel_rfl) rfl rfl rfl rfl
  · intro p hp
    rw [List.mem_singleton.mp hp]
    exact ⟨c8, hideAll_none _ (.head _)⟩
  have B1 : Bs w mg mb (hideAll h [147]) := B.hide e0 (fun a ha => by rw [List.mem_singleton.mp ha]; exact n0)
  have hl1 : (hideAll h [147]).get? l = some (listO vs n) := hideAll_get _ hl (by simp [nl])
  have htp1 : ∀ p ∈ tp, ∀ us, p.2 = tupO us → (hideAll h [147]).get? p.1 = some p.2 := fun p hp us hu => hideAll_get _ (htp p hp) (fun hm => by
    have e := htp p hp
    rw [List.mem_singleton.mp hm, c8] at e; cases e; (first | exact gX c9 hu | exact gX hu c9 | (rw [hu] at c9; cases c9)))
  generalize hbe : hideAll h [147] = hb0 at *
  intro h₁ L tk E' F N hlt X1
  simp only [List.reverse_cons, List.reverse_nil, List.nil_append, List.cons_append] at F
  have R1 : Rm (A.deeper (callEnv (fFmt w.params) L 152)) 7 := R.deeper
  have hh := R1.hd
  have hlt151 : @LT.lt Nat _ 151 L := by
    have : hb0.get? 151 = some oc := by rw [← hbe]; exact hideAll_get _ c1 (by decide)
    exact Nat.lt_of_lt_of_le (Heap.lt_size this) F.above
  refine seq (wpAny_Assign_Name ?_)
  refine gen_but (cl := []) L hh rfl rfl (by decide) (by decide) (by decide) rfl R1.room ?_ (by intro x; rfl)
  refine nm_loc F (by tb_rel) ?_
  have hl2 : h₁.IsList l vs.toArray := ⟨_, F.keep _ _ hl1, rfl, _, rfl⟩
  refine wpAny_pyIter_list (s := ⟨h₁, g, d, tk, os⟩) hl2 ?_
  refine ⟨(B1.ext F.keep).lim.push _, ?_⟩
  have C1 : h₁.IsCode 151 147 ps := C.keeps X1
  refine gen_codeT (s := ⟨h₁.push _, g, d, tk, os⟩) rfl (C1.push _) ((codeHd_of_K (B1.X.keeps F.keep) (hd_151a _)).keeps fun _ _ e => Heap.get?_push_of_some _ e) (Heap.get?_push_of_some _ (X1 _ _ hT)) (fun code h3 tk3 ps3 hx3 C3 hT3 => ?_)
  dsimp only at hx3 ⊢
  have C3' := C3
  refine holdG fun Pz kz => ?_
  obtain ⟨oc3, cvs3, file3, tf3, flags3, tg3, inF3, text3, tt3, op3, z1, z2, z3, z4, z5, z6, z7, z8, z9, z10, z11⟩ := C3'
  refine kz ?_
  clear kz Pz
  have F3 : Fr hb0 L h3 _ := fr_but (F.push _) (N.push F _) (.tail _ (.head _)) hx3
  have N3 : News hb0 L h3 [(147, op3), (h₁.objs.size, _)] := nw_but (N.push F _) (.tail _ (.head _)) hx3 z8 (fun p hp => by
    rw [List.mem_singleton.mp hp]
    exact ⟨.head _, fun e => Nat.lt_irrefl _ (Nat.lt_of_lt_of_le (Heap.lt_size (N _ (.head _)).1) (Nat.le_of_eq e))⟩)
  refine bi_for (B1.ext F3.keep) ?_
  have hIne : h₁.objs.size ≠ l := Nat.ne_of_gt (Heap.lt_size (F.keep _ _ hl1))
  have hIL : h₁.objs.size ≠ L := Nat.ne_of_gt (fr_lt F)
  have hlL : l ≠ L := fun e => by have := F.above; have h2 := Heap.lt_size hl1; rw [e] at h2; exact Nat.lt_irrefl _ (Nat.lt_of_lt_of_le h2 this)
  have hi3 := (N3 _ (.tail _ (.head _))).1
  have hl3 : h3.IsList l vs.toArray := ⟨_, F3.keep _ _ hl1, rfl, _, rfl⟩
  have hcs : @LT.lt Nat _ cStatics hb0.objs.size := let ⟨_, hn, _⟩ := B1.lim; hn.lt
  have hcL : @LT.lt Nat _ cStatics L := Nat.lt_of_lt_of_le hcs F.above
  refine ⟨h₁.objs.size, [h₁.objs.size, l], [h₁.objs.size], vs.toArray.size, _, _, fun _ => true, fun i y => ∃ ts t, tss[i]? = some ts ∧ y = .str (strOf (ts : Nat)) t, rfl, fun A' hA => Walks.list hA _ _ (Ne.symm hIne) _, ⟨⟨_, hi3, rfl, rfl⟩, hl3⟩, fun b hb => ?_, (B1.ext F3.keep).lim, fun hm => ?_, Nat.ne_of_lt hcL, fun href hhref => ?_, fun a h5 tk5 gs hgs hag hsz5 hk5 W5 st5 => ?_⟩
  · revert b hb
    refine fm_cons ?_ ?_
    · exact ⟨Heap.lt_size hi3, hIL⟩
    intro b hb
    · rw [List.mem_singleton.mp hb]
      exact ⟨Heap.lt_size (F3.keep _ _ hl1), hlL⟩
  · rw [List.mem_singleton] at hm
    exact Nat.lt_irrefl _ (Nat.lt_trans (hm ▸ hcL : @LT.lt Nat _ h₁.objs.size L) (fr_lt F))
  · refine ⟨fun A' E2 i v s₂ m₂ hA hP hns hm hkp => wpAny_pure ⟨rfl, s₂.heap, s₂.toks, rfl, fun _ _ e => e⟩, fun A' E2 i v s₂ m₂ hA hP hz hns hm hkp => ?_⟩
    refine holdG fun Pz kz => ?_
    obtain ⟨h6, g6, d6, tk6, os6⟩ := s₂
    obtain ⟨r, ts, t, va, vb, rfl, htss, hmem⟩ := T.at i v (by simpa using hP)
    refine kz ?_
    clear kz Pz
    have hr3 := F3.keep _ _ (htp1 _ hmem _ rfl)
    have hrI : r ≠ h₁.objs.size := fun e => by rw [e] at hr3; rw [hr3] at hi3; exact absurd (congrArg Obj.cls (Option.some.inj hi3)) (by simp)
    have hrL : r ≠ L := fun e => by have := F.above; have h2 := Heap.lt_size (htp1 _ hmem _ rfl); rw [show r = L from e] at h2; exact Nat.lt_irrefl _ (Nat.lt_of_lt_of_le h2 this)
    have keep : ∀ b o, b ≠ h₁.objs.size → b ≠ L → h3.get? b = some o → h6.get? b = some o := fun b o h1 h2 e => hkp b (List.mem_filter.mpr ⟨List.mem_range.mpr (Heap.lt_size e), by simpa using h2⟩) (by simpa using h1) o (hhref b o e)
    have Fq : Fr hb0 h3.objs.size h6 m₂ := ⟨hns, fun b o e => keep b o (fun q => by (first | exact gX e ((congrArg _ q).trans (N3 _ (.tail _ (.head _))).2.2) | exact gX (N3 _ (.tail _ (.head _))).2.2 ((congrArg _ q).symm.trans e) | (rw [q, (N3 _ (.tail _ (.head _))).2.2] at e; cases e))) (fun q => by have := F.above; have h2 := Heap.lt_size e; rw [q] at h2; exact Nat.lt_irrefl _ (Nat.lt_of_lt_of_le h2 this)) (F3.keep b o e), Nat.le_trans F.above (Nat.le_of_lt (fr_lt F3))⟩
    repeat kbo_bools
    refine i_tup (isTup_of (keep _ _ hrI hrL hr3)) (Int.le_refl _) (x := .int ts t) rfl (by show 3 < 1000; decide) ?_
    repeat kbo_bools
    refine b_str (by (first | lia | omega)) (by have := hb ts (List.mem_of_getElem? htss); (first | lia | omega)) (fun t7 tk7 => ?_)
    exact ⟨⟨ts, t7, htss, rfl⟩, h6, tk7, rfl, fun _ _ e => e⟩
  · dsimp only at hag hsz5 hk5 W5 st5 ⊢
    have F5 := fr_ext F3 hk5
    have hLC : @LT.lt Nat _ L h3.objs.size := fr_lt F3
    have hLfp : L ∉ a :: h3.objs.size :: (List.range h3.objs.size).filter (· != L) := fun hm => by
      rcases List.mem_cons.mp hm with e | hm
      · rw [← e] at hag; exact Nat.lt_asymm hag hLC
      rcases List.mem_cons.mp hm with e | hm
      · exact Nat.ne_of_lt hLC e
      · simpa using (List.mem_filter.mp hm).2
    refine holdG fun Pz kz => ?_
    obtain ⟨fo, N5, hfo, hfk⟩ := fo_of (h₀ := hb0) (h := h5) hLfp
    refine kz ?_
    clear kz Pz
    clear N3
    repeat ((fail_if_success (with_reducible show wpAny _ _ (exec (Stmt.If _ _ _ _) _) _ _ _)); kbo_bools)
    rename_i h6 tk6 F6 N6
    refine wpAny_mono (Q := fun f s => f = .next ∧ ∃ h7 tk7 m7 t7, s = ⟨h7, g.push gs, d, tk7, os⟩ ∧ Fr hb0 L h7 m7 ∧ News hb0 L h7 fo ∧ m7 ⟨⟨[102, 105, 114, 115, 116, 115]⟩⟩ = some (.ref a) ∧ m7 ⟨⟨[112, 114, 101, 102, 105, 120]⟩⟩ = some (.str (if 1 < tss.length then ⟨⟨[97, 116, 32, 116, 97, 98, 32, 115, 105, 122, 101, 115]⟩⟩ else ⟨⟨[97, 116, 32, 116, 97, 98, 32, 115, 105, 122, 101]⟩⟩) t7)) ?_ ?_ (fun _ _ q => q)
    · repeat kbo_bools
      refine b_len_list ⟨_, F6.keep _ _ hl1, rfl, _, rfl⟩ (by have := T.len; simp; (first | lia | omega)) (fun t9 tk9 => ?_)
      rw [List.size_toArray, T.len]
      repeat kbo_bools
      refine ifB (fun hc => ?_) (fun hc => ?_)
      · have hc : 1 < tss.length := by have := of_decide_eq_true hc; (first | lia | omega)
        repeat kbo_bools
        refine o_cat (by decide) (fun t10 tk10 => ?_)
        repeat kbo_bools
        rename_i h8 tk8 F8 N8
        exact ⟨rfl, h8, tk8, _, t10, rfl, F8, N8, by tb_rel, by rw [if_pos hc]; exact upd_self⟩
      · have hc : ¬ 1 < tss.length := by have := of_decide_eq_false hc; (first | lia | omega)
        repeat kbo_bools
        exact ⟨rfl, h6, _, _, _, rfl, F6, N6, by tb_rel, by rw [if_neg hc]; exact upd_self⟩
    · rintro f s ⟨rfl, h7, tk7, m7, t7, rfl, F7, N7, e1, e2⟩
      repeat kbo_bools
      refine o_cat (by split <;> decide) (fun t8 tk8 => ?_)
      repeat kbo_bools
      refine m_join ?_
      repeat kbo_bools
      have keep7 : ∀ b ∈ a :: h3.objs.size :: (List.range h3.objs.size).filter (· != L), ∀ o, h5.get? b = some o → h7.get? b = some o := fun b hb o e => by
        cases q : hb0.get? b with
        | some o' => have e' := F5.keep _ _ q; rw [e] at e'; cases e'; exact F7.keep _ _ q
        | none => exact (N7 _ (hfo b hb o e q)).1
      have ha7 : ∃ o, h7.get? a = some o := by
        refine holdG fun Pz kz => ?_
        obtain ⟨⟨x1, x2, x3, ho, r⟩, _⟩ := st5
        refine kz ?_
        clear kz Pz
        exact ⟨_, keep7 a (.head _) _ ho⟩
      have alt : @LT.lt Nat _ a h7.objs.size := let ⟨_, e⟩ := ha7; Heap.lt_size e
      have hpass : passing (fun _ => true) vs.toArray.size 0 = List.range tss.length := by
        unfold passing; simp [T.len]
      refine SC.joinGen W5.in4_2 (fun i s st => st.1.typeIs) ?_ (fun b hb => ?_) (.head _) (fun i v ⟨_, _, ts, t, _, e⟩ => ⟨_, t, e⟩) (fun s' lt hm hacc => ?_) (by rw [hpass, List.length_range, sizeLine_eq]; (first | lia | omega))
      · refine holdG fun Pz kz => ?_
        obtain ⟨⟨x1, x2, x3, ho, r⟩, hli, gs', hgs', go⟩ := st5
        refine kz ?_
        clear kz Pz
        exact ⟨⟨x1, x2, x3, keep7 a (.head _) _ ho, r⟩, (B1.ext F7.keep).lim, gs', hgs', fun s'' hal => go s'' (fun b hb o e => hal b hb o (keep7 b (.tail _ hb) o e))⟩
      · revert b hb
        refine fm_cons ?_ ?_
        · exact alt
        refine fm_cons ?_ ?_
        · exact Nat.lt_trans hag alt
        intro b hb
        · exact Nat.lt_trans (List.mem_range.mp (List.mem_filter.mp hb).1) (Nat.lt_trans hag alt)
      · rw [hpass] at hacc
        have hltm : lt.map (·.1) = tss.map fun n : Nat => strOf n := by
          apply List.ext_getElem?
          intro j
          have hsz : lt.length = tss.length := by simpa [strValues] using hacc.1
          by_cases hj : j < tss.length
          · have hj' : j < lt.length := hsz ▸ hj
            refine holdG fun Pz kz => ?_
            obtain ⟨i, hi, ts, t, e1, e2⟩ := hacc.2 j (.str lt[j].1 lt[j].2) (by simp [strValues, List.getElem?_eq_getElem hj'])
            refine kz ?_
            clear kz Pz
            injection e2 with e2 _
            have hij : i = j := by rw [List.getElem?_range hj] at hi; exact (Option.some.inj hi).symm
            subst hij
            rw [List.getElem?_map, List.getElem?_map, List.getElem?_eq_getElem hj', e1, Option.map_some, Option.map_some, e2]
          · rw [List.getElem?_eq_none (by simpa [hsz] using Nat.le_of_not_lt hj), List.getElem?_eq_none (by simpa using Nat.le_of_not_lt hj)]
        rw [hltm]
        have hB : ∀ y ∈ tss.map (fun n : Nat => strOf n), y.length ≤ 4 := fun y hy => by
          obtain ⟨n, hn, rfl⟩ := List.mem_map.mp hy
          exact strOf_len n (hb n hn)
        have hlen : (tss.map fun n : Nat => strOf n).length < 100 := by rw [List.length_map]; exact hn
        have hjl : (Txt.join ⟨⟨[44, 32]⟩⟩ (tss.map fun n : Nat => strOf n)).length ≤ 1000 := by
          have h1 := StrLaws.join_length_le ⟨⟨[44, 32]⟩⟩ (tss.map fun n : Nat => strOf n)
          have h2 := StrLaws.sumLen_le _ hB
          have h3 : (⟨⟨[44, 32]⟩⟩ : Str).length = 2 := rfl
          rw [h3] at h1
          rw [show Txt.join ⟨⟨[44, 32]⟩⟩ (tss.map fun n : Nat => strOf n) = Str.join ⟨⟨[44, 32]⟩⟩ (tss.map fun n : Nat => strOf n) from StrLaws.glued_eq_join _ _]
          (first | lia | omega)
        refine ⟨?_, fun t10 tk10 => ?_⟩
        · unfold JoinOk
          rw [StrLaws.joinFits hB (by show _ * 4 + _ * 2 ≤ _; (first | lia | omega))]
          rfl
        · refine holdG fun Pz kz => ?_
          obtain ⟨h8, g8, d8, tk8, os8⟩ := s'
          obtain ⟨q1, q2, q3, q4, q5⟩ := hm
          refine kz ?_
          clear kz Pz
          dsimp only at q1 q2 q3 q4
          subst q3 q4
          refine o_cat ?_ (fun t11 tk11 => ?_)
          · refine Nat.le_trans (Nat.add_le_add (show _ ≤ 1000 from ?_) hjl) (by decide)
            split <;> decide
          repeat kbo_bools
          have keep8 : ∀ b ∈ a :: h3.objs.size :: (List.range h3.objs.size).filter (· != L), b ≠ h3.objs.size → b ≠ h₁.objs.size → ∀ o, h5.get? b = some o → h8.get? b = some o := fun b hb h1 h2 o e => q1 b o (by simp [h1, h2]) (keep7 b hb o e)
          have low : ∀ b, @LT.lt Nat _ b L → b ∈ a :: h3.objs.size :: (List.range h3.objs.size).filter (· != L) ∧ b ≠ h3.objs.size ∧ b ≠ h₁.objs.size := fun b hb1 =>
            ⟨.tail _ (.tail _ (List.mem_filter.mpr ⟨List.mem_range.mpr (Nat.lt_trans hb1 hLC), by simpa using Nat.ne_of_lt hb1⟩)), Nat.ne_of_lt (Nat.lt_trans hb1 hLC), Nat.ne_of_lt (Nat.lt_trans hb1 (fr_lt F))⟩
          refine hQ h8 g8 _ _ ps3 (fun b o hb1 e => ?_) ?_ ?_ ?_
          · have e1 : hb0.get? b = some o := by rw [← hbe]; exact hideAll_get _ e (by simpa using hb1)
            have e2 : @LT.lt Nat _ b L := Nat.lt_of_lt_of_le (Heap.lt_size e1) F.above
            obtain ⟨m1, m2, m3⟩ := low b e2
            exact keep8 b m1 m2 m3 o (F5.keep _ _ e1)
          · have l1 : @LT.lt Nat _ 151 L := hlt151
            have l2 : @LT.lt Nat _ 147 L := hlt _ (.head _)
            refine holdG fun Pz kz => ?_
            obtain ⟨m1, m2, m3⟩ := low 151 l1
            obtain ⟨m4, m5, m6⟩ := low 147 l2
            refine kz ?_
            clear kz Pz
            exact ⟨oc3, cvs3, file3, tf3, flags3, tg3, inF3, text3, tt3, op3, keep8 _ m1 m2 m3 _ (hk5 _ _ z1), z2, z3, z4, z5, z6, z7, keep8 _ m4 m5 m6 _ (hk5 _ _ z8), z9, z10, z11⟩
          · have l2 : @LT.lt Nat _ 147 L := hlt _ (.head _)
            obtain ⟨m4, m5, m6⟩ := low 147 l2
            exact keep8 _ m4 m5 m6 _ (hk5 _ _ hT3)
          · exact (G.push hgs).moved q2
end
end
section
open PySem PySem.W PyProof.Rows PySem.Calls PySem.Spec
set_option maxHeartbeats 1000000
noncomputable def keepOf (start stop step : Int) (xs : Array Value) : Array Value := (xs.toList.zipIdx.filterMap fun (x, k) => if Builtin.Bytes.selects start stop step k then none else some x).toArray
theorem keep_take (k : Nat) : ∀ (l : List Value) (j : Nat), k + l.length ≤ 100000 → (l.zipIdx j).filterMap (fun (x, i) => if Builtin.Bytes.selects k (j + l.length : Nat) 1 i then none else some x) = l.take (k - j)
  | [], j, _ => by simp
  | x :: l, j, hl => by
    have ih := keep_take k l (j + 1) (by simp at hl; (first | lia | omega))
    have e : (j + (x :: l).length) = (j + 1 + l.length) := by simp; (first | lia | omega)
    rw [List.zipIdx_cons, List.filterMap_cons, e, ih]
    by_cases hk : k ≤ j
    · have hs : Builtin.Bytes.selects k (j + 1 + l.length : Nat) 1 j = true := by
        unfold Builtin.Bytes.selects
        simp [hk]; (first | lia | omega)
      simp only [hs, if_true]
      rw [show k - (j + 1) = 0 by (first | lia | omega), show k - j = 0 by (first | lia | omega)]; simp
    · have hs : Builtin.Bytes.selects k (j + 1 + l.length : Nat) 1 j = false := by
        unfold Builtin.Bytes.selects
        simp [hk]
      simp only [hs]
      rw [show k - j = (k - (j + 1)) + 1 by (first | lia | omega)]; simp
section
variable {prog : Program} {w : World} {A : Around} {E : Value → Shared → Prop} {h h₀ : Heap} {g : Array GenState} {d : Drawn} {tk : Nat} {os : OsState} {env : Env} {L : Addr} {m mg mb : Str → Option Value} {nw rest : List (Addr × Obj)}
theorem del_from {s : Shared} {l sl : Addr} {vs : List Value} {n k : Nat} {t : Tok} {Q : Unit → Shared → Prop} (ho : s.heap.get? l = some (listO vs n)) (hs : s.heap.IsSliceOf sl (.int k t) .none .none) (hk : k ≤ vs.length) (hz : vs.length ≤ 1000)
    (h : Q () { s with heap := s.heap.update l (Obj.mapSeq (keepOf k vs.length 1)) }) : wpAny (model prog w) A (delItem (.ref l) (.ref sl)) Q E s := by
  refine holdG fun Pz kz => ?_
  obtain ⟨os, hos, hcs, hds⟩ := id hs
  refine kz ?_
  clear kz Pz
  have hTs : s.TypeIs (.ref sl) "slice" := ⟨os, hos, hcs⟩
  have hT : s.TypeIs (.ref l) "list" := ⟨_, ho, rfl⟩
  refine wpAny_delItem_slot hT (by decide) F.slot_list_delitem ?_
  refine wpAny_call_entry F.slot_list_delitem hT F.entry_list_delitem ?_ (F.args_list_delitem_2 _ _)
  show wpAny _ _ (Builtin.List.listSubscript? (.ref sl) >>= _) _ _ s
  refine wpAny_bind ?_
  unfold Builtin.List.listSubscript?
  refine wpAny_bind (wpAny_specialOf hTs slice_no_index ?_)
  simp only [Option.isNone_none, if_true]
  refine wpAny_pure ?_
  show wpAny _ _ (typeOf (.ref sl) >>= _) _ _ s
  refine wpAny_bind (wpAny_typeOf hTs ?_)
  rw [if_neg (by decide)]
  rw [listSliceParts_eq]
  refine wpAny_bind (wpAny_bind (wpAny_field hos hds (x := .none) rfl (wpAny_bind (wpAny_listPart .none ?_))))
  rw [if_neg (by decide)]
  refine wpAny_bind (wpAny_field hos hds (x := .int k t) rfl (wpAny_bind (wpAny_listPart (.int _ _) ?_)))
  refine wpAny_bind (wpAny_field hos hds (x := .none) rfl (wpAny_bind (wpAny_listPart .none (wpAny_pure ?_))))
  refine wpAny_bind (m := Builtin.List.listItems (.ref l)) ?_
  unfold Builtin.List.listItems
  refine wpAny_bind (wpAny_seqItems ho rfl (wpAny_pure ?_))
  refine wpAny_bind (wpAny_of_eq (sliceIndices_raw (some (k : Int)) none none _ (by simp)) ?_)
  have hb : sliceBounds (some (k : Int)) none none vs.toArray.size = ((k : Int), (vs.length : Int), 1) := by
    simp [sliceBounds]; (first | lia | omega)
  rw [hb]
  refine wpAny_bind (wpAny_rule ?_)
  refine wpAny_bind (m := Builtin.List.listUpdate (.ref l) (keepOf k vs.length 1)) ?_
  unfold Builtin.List.listUpdate
  have hsz : (keepOf k vs.length 1 vs.toArray).size ≤ sizeLine + 1 := by
    unfold keepOf
    rw [List.size_toArray]
    refine Nat.le_trans (List.length_filterMap_le _ _) ?_
    rw [List.length_zipIdx, sizeLine_eq]; simp; (first | lia | omega)
  refine wpAny_updateSeq ho rfl ?_ (by rw [List.size_toArray, sizeLine_eq]; (first | lia | omega)) hsz
  refine wpAny_bind (wpAny_letGo ?_)
  exact wpAny_pure ⟨_, rfl, h⟩
/-- del xs[k:] -/
theorem l_del {l sl : Addr} {vs : List Value} {n k : Nat} {t : Tok} {Q : Unit → Shared → Prop} (F : Fr h₀ L h m) (N : News h₀ L h nw) (hm : (l, listO vs n) ∈ nw) (hs : h.IsSliceOf sl (.int k t) .none .none) (hk : k ≤ vs.length) (hz : vs.length ≤ 1000) (hr : ∀ p ∈ rest, p ∈ nw ∧ p.1 ≠ l)
    (hQ : ∀ h' n', Fr h₀ L h' m → News h₀ L h' ((l, listO (vs.take k) n') :: rest) → Heap.SameBut l h h' → Q () ⟨h', g, d, tk, os⟩) : wpAny (model prog w) A (delItem (.ref l) (.ref sl)) Q E ⟨h, g, d, tk, os⟩ := by
  refine del_from (s := ⟨h, g, d, tk, os⟩) (N _ hm).1 hs hk hz ?_
  have hsb : Heap.SameBut l h (h.update l (Obj.mapSeq (keepOf k vs.length 1))) := Heap.SameBut.update ..
  have ht : keepOf k vs.length 1 vs.toArray = (vs.take k).toArray := by
    unfold keepOf
    have := keep_take k vs 0 (by (first | lia | omega))
    simp only [Nat.zero_add, Nat.sub_zero] at this
    simp only [List.toList_toArray]
    rw [← this]
  obtain ⟨n', hg⟩ : ∃ n', (h.update l (Obj.mapSeq (keepOf k vs.length 1))).get? l = some (listO (vs.take k) n') := by
    refine ⟨if (keepOf k vs.length 1 vs.toArray).size == vs.toArray.size then n else n + 1, ?_⟩
    rw [Heap.get?_update_self _ (N _ hm).1 rfl]
    show some (⟨.type "list", none, .seq (keepOf k vs.length 1 vs.toArray) (if (keepOf k vs.length 1 vs.toArray).size == vs.toArray.size then n else n + 1), #[]⟩ : Obj) = _
    rw [ht]
  obtain ⟨F', N'⟩ := led_set F N hm hsb hg hr
  exact hQ _ _ F' N' hsb
end
end
section
open PySem PySem.W PyProof.Rows PySem.Calls PySem.Spec
set_option maxHeartbeats 1000000
/-- all but xs kept, the frames in S up to their slots -/
noncomputable def Mv (X S : List Addr) (h h' : Heap) : Prop := ∀ b o, b ∉ X → h.get? b = some o → (b ∉ S → h'.get? b = some o) ∧ (b ∈ S → ∃ sl, h'.get? b = some { o with slots := sl })
theorem Mv.refl (X S : List Addr) (h : Heap) : Mv X S h h := fun _ o _ e => ⟨fun _ => e, fun _ => ⟨o.slots, e⟩⟩
theorem Mv.of_ext {X S : List Addr} {h h' : Heap} (x : Ext h h') : Mv X S h h' := fun b o _ e => ⟨fun _ => x b o e, fun _ => ⟨o.slots, x b o e⟩⟩
theorem Mv.trans {X S : List Addr} {a b c : Heap} (x : Mv X S a b) (y : Mv X S b c) : Mv X S a c := fun k o hk e => by
  refine ⟨fun hs => (y k o hk ((x k o hk e).1 hs)).1 hs, fun hs => ?_⟩
  refine holdG fun Pz kz => ?_
  obtain ⟨sl, e1⟩ := (x k o hk e).2 hs
  obtain ⟨sl2, e2⟩ := (y k _ hk e1).2 hs
  refine kz ?_
  clear kz Pz
  exact ⟨sl2, e2⟩
theorem Mv.mono {X S X' S' : List Addr} {h h' : Heap} (x : Mv X S h h') (hX : ∀ a ∈ X, a ∈ X') (hS : ∀ a ∈ S, a ∈ S') : Mv X' S' h h' := fun b o hb e => by
  have hb' : b ∉ X := fun q => hb (hX b q)
  refine ⟨fun hs => (x b o hb' e).1 (fun q => hs (hS b q)), fun hs => ?_⟩
  by_cases q : b ∈ S
  · exact (x b o hb' e).2 q
  · exact ⟨o.slots, (x b o hb' e).1 q⟩
theorem Mv.new {X Y S S' : List Addr} {h h' h'' : Heap} (x : Mv X S h h') (y : Mv Y S' h' h'') (hY : ∀ a ∈ Y, a ∈ X ∨ h.objs.size ≤ a) (hS : ∀ a ∈ S', a ∈ S) : Mv X S h h'' := fun b o hb e => by
  have hlt := Heap.lt_size e
  have hy : b ∉ Y := fun q => (hY b q).elim hb fun q => absurd hlt (Nat.not_lt.mpr q)
  refine ⟨fun hs => (y b o hy ((x b o hb e).1 hs)).1 (fun q => hs (hS b q)), fun hs => ?_⟩
  obtain ⟨sl, e1⟩ := (x b o hb e).2 hs
  by_cases q : b ∈ S'
  · obtain ⟨sl2, e2⟩ := (y b _ hy e1).2 q
    exact ⟨sl2, e2⟩
  · exact ⟨sl, (y b _ hy e1).1 q⟩
noncomputable abbrev frs (l : List Env) : List Addr := l.filterMap (·.frame)
structure ExcR (h : Heap) (e T : Addr) (cls : Value) (D : Option Addr) (sl : Array (Option Value)) (fl : Value) : Prop where
  out : ∃ vs oT ts, h.get? e = some ⟨cls, D, .fields vs, sl⟩ ∧ vs[1]? = some (.ref T) ∧ T ≠ e ∧ h.get? T = some oT ∧ oT.data = .fields ts ∧ ts[3]? = some fl
section
variable {M : Model} {A : Around} {E : Value → Shared → Prop} {s : Shared} {base : Heap} {env : Env} {outer : List Env} {L e : Addr} {cls : Value} {D : Option Addr} {sl : Array (Option Value)}
/-- a new entry set at field 1 -/
theorem new_entry {vs : Array Value} {head : Value} {hadNext : Bool} {Q : Unit → Shared → Prop} (hfr : A.frames = some (env :: outer)) (hl : s.heap.FunFrames base (env :: outer)) (hf : env.frame = some L)
    (he : s.heap.get? e = some ⟨cls, D, .fields vs, sl⟩) (hsz : 1 < vs.size)
    (h : ∀ h' T, Mv [e] (frs (env :: outer)) s.heap h' → s.heap.objs.size ≤ T → s.heap.objs.size ≤ h'.objs.size → ExcR h' e T cls D sl (rawInt L) → Q () { s with heap := h' }) :
    wpAny M A (do let a ← frameOf env; let pl ← entryPlaceOf L hadNext; let b ← EntryCells.newEntry head a .none (rawInt L) .none pl; setField (.ref e) 1 b) Q E s := by
  have hene : e ∉ (env :: outer).filterMap (·.frame) := fun hm => by
    refine holdG fun Pz kz => ?_
    obtain ⟨_, o, ho, hnf⟩ := hl.mem hm
    refine kz ?_
    clear kz Pz
    rw [he] at ho; injection ho with ho; subst ho; exact hnf vs rfl
  refine wpAny_bind (wpAny_frameOf_fun hfr hl hf fun h₁ hs₁ => ?_)
  refine wpAny_bind (wpAny_entryPlaceOf fun pl hpl => ?_)
  unfold EntryCells.newEntry newFields
  refine wpAny_bind (wpAny_newObj_type ?_ (hpl.sizeOk5 _ _ _ _ _))
  have he₁ : h₁.get? e = some ⟨cls, D, .fields vs, sl⟩ := (hs₁.2.1 e hene).trans he
  have he₂ := Heap.get?_push_of_some (h := h₁) { cls := .type "traceback", dict := none, data := .fields ([head, .ref L, .none, rawInt L, .none] ++ (if pl.isEmpty then List.replicate 6 Value.none else pl)).toArray } he₁
  refine wpAny_setField he₂ rfl hsz ?_
  have hTe : h₁.objs.size ≠ e := Nat.ne_of_gt (Heap.lt_size he₁)
  have he₃ := Heap.get?_update_self (Obj.mapFields (·.setIfInBounds 1 (Value.ref h₁.objs.size))) he₂ rfl
  have hT₃ := (Heap.get?_update_other (h₁.push { cls := .type "traceback", dict := none, data := .fields ([head, .ref L, .none, rawInt L, .none] ++ (if pl.isEmpty then List.replicate 6 Value.none else pl)).toArray })
    (Obj.mapFields (·.setIfInBounds 1 (Value.ref h₁.objs.size))) (Ne.symm hTe)).trans (Heap.get?_push_size h₁ rfl)
  refine h _ h₁.objs.size (fun b o hb eb => ?_) (Nat.le_of_eq hs₁.1.symm) (by rw [Heap.size_after_update, Heap.size_push, hs₁.1]; exact Nat.le_succ _) ⟨_, _, _, he₃, by simp [hsz], hTe, hT₃, rfl, by simp⟩
  have hbe : b ≠ e := by simpa using hb
  have key : ∀ o', h₁.get? b = some o' → ((h₁.push { cls := .type "traceback", dict := none, data := .fields ([head, .ref L, .none, rawInt L, .none] ++ (if pl.isEmpty then List.replicate 6 Value.none else pl)).toArray }).update e (Obj.mapFields (·.setIfInBounds 1 (Value.ref h₁.objs.size)))).get? b = some o' := fun o' q =>
    (Heap.get?_update_other _ _ (Ne.symm hbe)).trans (Heap.get?_push_of_some _ q)
  refine ⟨fun hn => key o ((hs₁.2.1 b hn).trans eb), fun _ => ?_⟩
  obtain ⟨sl', q⟩ := hs₁.2.2 b o eb
  exact ⟨sl', key _ q⟩
theorem note_first {vs : Array Value} {Q : Unit → Shared → Prop} (hfr : A.frames = some (env :: outer)) (hl : s.heap.FunFrames base (env :: outer)) (hf : env.frame = some L)
    (he : s.heap.get? e = some ⟨cls, D, .fields vs, sl⟩) (h1 : vs[1]? = some .none)
    (h : ∀ h' T, Mv [e] (frs (env :: outer)) s.heap h' → s.heap.objs.size ≤ T → s.heap.objs.size ≤ h'.objs.size → ExcR h' e T cls D sl (rawInt L) → Q () { s with heap := h' }) : wpAny M A (noteFrame (.ref e) env) Q E s := by
  unfold noteFrame
  simp only [hf]
  refine wpAny_bind (wpAny_field he rfl h1 ?_)
  rw [if_neg (by decide)]
  exact new_entry hfr hl hf he (Array.getElem?_eq_some_iff.mp h1).1 h
theorem flight_none {T : Addr} {fl : Value} {Q : Unit → Shared → Prop} (hx : ExcR s.heap e T cls D sl fl)
    (h : ∀ h', Mv [T] [] s.heap h' → h'.objs.size = s.heap.objs.size → ExcR h' e T cls D sl .none → Q () { s with heap := h' }) : wpAny M A (setFlight (.ref e) none) Q E s := by
  refine holdG fun Pz kz => ?_
  obtain ⟨vs, oT, ts, he, h1, hTe, hT, hdT, h3⟩ := hx.out
  refine kz ?_
  clear kz Pz
  unfold setFlight
  refine wpAny_bind (wpAny_field he rfl h1 ?_)
  rw [if_pos (show (Value.ref T != Value.none) = true from by simp)]
  have hlt := (Array.getElem?_eq_some_iff.mp h3).1
  refine wpAny_setField hT hdT hlt (h _ (fun b o hb eb => ?_) (Heap.size_after_update ..) ⟨vs, _, _, (Heap.get?_update_other _ _ hTe).trans he, h1, hTe, Heap.get?_update_self _ hT (Obj.isFreed_of_fields (Obj.data_mapFields hdT _)), Obj.data_mapFields hdT _, by simp [hlt]⟩)
  have hbT : b ≠ T := by simpa using hb
  have q := (Heap.get?_update_other s.heap (Obj.mapFields (·.setIfInBounds 3 Value.none)) (Ne.symm hbT)).trans eb
  exact ⟨fun _ => q, fun _ => ⟨o.slots, q⟩⟩
theorem note_next {T : Addr} {Q : Unit → Shared → Prop} (hfr : A.frames = some (env :: outer)) (hl : s.heap.FunFrames base (env :: outer)) (hf : env.frame = some L) (hx : ExcR s.heap e T cls D sl .none)
    (h : ∀ h' T', Mv [e, T] (frs (env :: outer)) s.heap h' → s.heap.objs.size ≤ T' → s.heap.objs.size ≤ h'.objs.size → ExcR h' e T' cls D sl (rawInt L) → Q () { s with heap := h' }) : wpAny M A (noteFrame (.ref e) env) Q E s := by
  refine holdG fun Pz kz => ?_
  obtain ⟨vs, oT, ts, he, h1, hTe, hT, hdT, h3⟩ := hx.out
  refine kz ?_
  clear kz Pz
  unfold noteFrame
  simp only [hf]
  refine wpAny_bind (wpAny_field he rfl h1 ?_)
  rw [if_pos (show (Value.ref T != Value.none) = true from by simp)]
  refine wpAny_bind (wpAny_field hT hdT h3 ?_)
  rw [if_neg (show ¬ ((Value.none == rawInt L) = true) from by simp [rawInt])]
  refine wpAny_bind (wpAny_setField hT hdT (Array.getElem?_eq_some_iff.mp h3).1 ?_)
  have other : ∀ b, b ≠ T → (s.heap.update T (Obj.mapFields (·.setIfInBounds 3 Value.none))).get? b = s.heap.get? b := fun b hb => Heap.get?_update_other _ _ (Ne.symm hb)
  have noRecord : ∀ b o, s.heap.get? b = some o → (∀ vs, o.data ≠ .fields vs) → b ≠ T := fun b o hb hnf q => by
    rw [q, hT] at hb; injection hb with hb; subst hb; exact hnf ts hdT
  have hz : (s.heap.update T (Obj.mapFields (·.setIfInBounds 3 Value.none))).objs.size = s.heap.objs.size := Heap.size_after_update ..
  refine new_entry (base := base) hfr (hl.of_keeps fun b o hb hnf => ⟨o, (other b (noRecord b o hb hnf)).trans hb, rfl⟩) hf ((other e (Ne.symm hTe)).trans he) (Array.getElem?_eq_some_iff.mp h1).1
    fun h' T' x1 x2 x3 x4 => h h' T' (fun b o hb eb => ?_) (hz ▸ x2) (hz ▸ x3) x4
  have hb1 : b ≠ e := fun q => hb (by simp [q])
  have hb2 : b ≠ T := fun q => hb (by simp [q])
  exact x1 b o (by simpa using hb1) ((other b hb2).trans eb)
/-- a frame left by an exception that is raised in it -/
theorem leave_first {vs : Array Value} {Q : Unit → Shared → Prop} (hfr : A.frames = some (env :: outer)) (hl : s.heap.FunFrames base (env :: outer)) (hf : env.frame = some L)
    (he : s.heap.get? e = some ⟨cls, D, .fields vs, sl⟩) (h1 : vs[1]? = some .none)
    (h : ∀ h' T, Mv [e] (frs (env :: outer)) s.heap h' → s.heap.objs.size ≤ T → s.heap.objs.size ≤ h'.objs.size → ExcR h' e T cls D sl .none → Q () { s with heap := h' }) : wpAny M A (leaving env (.ref e)) Q E s := by
  unfold leaving
  refine wpAny_bind (note_first hfr hl hf he h1 fun h' T x1 x2 x3 x4 => ?_)
  refine flight_none (s := { s with heap := h' }) x4 fun h'' y1 y2 y3 => h h'' T (x1.new y1 (fun a ha => .inr (by rw [List.mem_singleton.mp ha]; exact x2)) (fun _ ha => nomatch ha)) x2 (by rw [y2]; exact x3) y3
end
end
section
open PySem PySem.W PyProof.Rows PySem.Calls PySem.Spec
set_option maxHeartbeats 1000000
section
variable {M : Model} {A : Around} {E : Value → Shared → Prop} {env : Env}
variable {nm q : Str} {C N : Addr} {bs bm : List Value} {hdct : Bool} {sn : List Str} {sub : List Value} {ab : Bool} {col : Option Bool} {dd : Option Addr} {k0 k1 k2 k3 k5 : Option Value} {newId : String}
end
section
variable {w : World} {A : Around} {E : Value → Shared → Prop} {s : Shared} {env : Env}
theorem nag_cls (P : Params) : ktsIn (KN P) 76 "Exception" = true := by kernel_rfl
theorem smtp_cls (P : Params) : ktsIn (KN P) 201 "Exception" = true := by kernel_rfl
end
end
section
open PySem PySem.W PyProof.Rows PySem.Calls PySem.Spec
set_option maxHeartbeats 1000000
noncomputable abbrev excO (C t : Addr) : Obj := { cls := .ref C, data := .fields #[.ref t, .none, .none, .none, .bool false, .none] }
section
variable {prog : Program} {w : World} {A : Around} {R : Result → Shared → Prop} {h : Heap} {g : Array GenState} {d : Drawn} {t : Nat} {os : OsState}
variable {nm q : Str} {C N : Addr} {bs bm : List Value} {hdct : Bool} {sn : List Str} {sub : List Value} {ab : Bool} {col : Option Bool} {dd : Option Addr} {k0 k1 k2 k3 k5 : Option Value} {B newId initId : String}
theorem exc_core (F : ExcBaseFacts B newId initId bm) {rest : List Value} {init : Value} (hC : h.get? C = some (excClassObj nm q C N bs bm hdct sn sub ab col dd k0 k1 k2 k3 k5 newId))
    (hi : Looks (model prog w) h (typeLookup (.ref C) "__init__") (some init)) (hb : ∀ self, Looks (model prog w) h (bindSpecial init self) (init, [self]))
    (hq : codeAny (model prog w) (A.under (.builtin "type.__call__" ⟨.ref C :: rest, []⟩)) (.call init ⟨.ref (h.objs.size + 1) :: rest, []⟩) (InitBack (h.objs.size + 1) R) ⟨(h.push { cls := .type "tuple", data := .seq rest.toArray }).push (excO C h.objs.size), g, d, t, os⟩)
    (hrest : rest.length ≤ sizeLine) :
    codeAny (model prog w) A (.call (.ref C) ⟨rest, []⟩) R ⟨h, g, d, t, os⟩ := by
  have f1 := tc_lookup
  have f2 := tc_bind (.ref C)
  have hT : (⟨h, g, d, t, os⟩ : Shared).TypeIs (.ref C) "type" := ⟨_, hC, rfl⟩
  refine codeAny_of_tree ?_
  show wpAny _ _ (callAny (.ref C) _) _ _ _
  repeat (any_goals (first | assumption | with_reducible refine wpAny_loadPart_at hC ?_ | wp_step))
  refine ⟨rfl, ?_⟩
  refine codeAny_call_builtin_at (Code.quiet_builtin _ (by decide +kernel)) entry_typeCall (wpAny_check_type_call_sub hC ?_)
  repeat (first | with_reducible refine wpAny_loadPart_at hC ?_ | with_reducible refine wpAny_madeBy_exc hC ?_ | wp_step)
  refine codeAny_call_builtin_code (Code.quiet_builtin _ F.quiet) (wpAny_check_new_sub F hC ?_)
  refine codeAny_exc_new_sub F hC ?_ hrest
  show wpAny _ (A.under (.builtin "type.__call__" ⟨.ref C :: rest, []⟩)) _ _ _ ⟨(h.push { cls := .type "tuple", data := .seq rest.toArray }).push { cls := .ref C, data := .fields #[.ref h.objs.size, .none, .none, .none, .bool false, .none] }, g, d, t, os⟩
  have k : ∀ b o, h.get? b = some o → ((h.push { cls := .type "tuple", data := .seq rest.toArray }).push (excO C h.objs.size)).get? b = some o := fun b o e => Heap.get?_push_of_some _ (Heap.get?_push_of_some _ e)
  have hC₁ := k _ _ hC
  have hget : ((h.push { cls := .type "tuple", data := .seq rest.toArray }).push (excO C h.objs.size)).get? (h.objs.size + 1) = some { cls := .ref C, data := .fields #[.ref h.objs.size, .none, .none, .none, .bool false, .none] } := by heap_get
  have hcC : (Value.ref C :: bm).contains (.ref C) = true := by simp
  have i1 := hi.keeps k
  have b1 := (hb (.ref (h.objs.size + 1))).keeps k
  unfold isInstance
  repeat (first | with_reducible refine wpAny_loadPart_at hget ?_ | (with_reducible refine wpAny_isSubtype_exc hC₁ ?_; rw [hcC]) | wp_step)
  show wpAny _ _ (typeLookup (.ref C) _) _ _ _
  refine i1.at ?_
  refine wpAny_holding (wpAny_bind (b1.at ?_))
  refine wpAny_bind (wpAny_call ?_)
  show codeAny _ _ (.call init ⟨.ref (h.objs.size + 1) :: rest, []⟩) _ _
  refine codeAny_mono hq fun r s' z => ?_
  rcases r with e | (v | _ | _ | _) <;> first | exact z | exact z.elim | skip
  obtain ⟨rfl, z⟩ := z
  exact wpAny_pure (wpAny_pure z)
end
end
section
open PySem PySem.W PyProof.Rows PySem.Calls PySem.Spec PySem.Builtin PySem.Builtin.ObjectAttr
set_option maxHeartbeats 1000000
/-- the classes passed by on the way of a store: an own exception class's -/
noncomputable def passesIn (K : Frag) (C : Addr) (l : List Value) : Prop := (clsIn K C).map (·.mro) = some l ∧ (∀ self, refuseLoop self "__setattr__" l = pure ()) ∧ l.contains (.type "object") = true
theorem pass_nag (P : Params) : passesIn (KN P) 76 [.ref 76, .type "Exception", .type "BaseException", .type "object"] := ⟨by kernel_rfl, fun self => by rw [refuseLoop_ref]; exact PySem.F.store_Exception.passes self, by decide +kernel⟩
theorem pass_os : ∀ self, refuseLoop self "__setattr__" [.type "OSError", .type "Exception", .type "BaseException", .type "object"] = pure () := fun _ => by kernel_rfl
theorem pass_smtp (P : Params) : passesIn (KN P) 201 [.ref 201, .ref 181, .type "OSError", .type "Exception", .type "BaseException", .type "object"] := ⟨by kernel_rfl, fun self => by rw [refuseLoop_ref, refuseLoop_ref]; exact pass_os self, by decide +kernel⟩
section
variable {prog : Program} {w : World} {A : Around} {R : Result → Shared → Prop} {s : Shared} {K : Frag} {C x : Addr} {l : List Value}
theorem osa_openX {ox : Obj} {od : Option Obj} {name : Str} {tk : Tok} {v : Value} {r : Option Value} (X : K.In s.heap) (I : InstAt s.heap x ox C od) (hp : passesIn K C l) (ht : takerIn K C name = some r)
    (h : ∀ b, wpAny (model prog w) A.in1 (match r with | some a => setByDescriptor a (.ref x) v | none => storeInOwnDict (.ref x) (.ref C) (.str name tk) name v b)
      (fun fin s' => match fin with | .done f => R (.ok f) s' | .again c' => c'.quiet = true ∧ codeAny (model prog w) A c' R s') (fun e s' => R (.error e) s') s) :
    codeAny (model prog w) A (.call (.builtin "object.__setattr__") ⟨[.ref x, .str name tk, v], []⟩) R s := by
  have SF := PySem.F.store_object
  refine holdG fun Pz kz => ?_
  obtain ⟨hm0, hpass, hob⟩ := hp
  obtain ⟨cd, hc, rfl⟩ := Option.map_eq_some_iff.mp hm0
  refine kz ?_
  clear kz Pz
  have ne : cd.mro.isEmpty = false := by cases q : cd.mro with | nil => (first | exact gX hob q | exact gX q hob | (rw [q] at hob; cases hob)) | cons _ _ => rfl
  have sub : Looks (model prog w) s.heap (isInstance (.ref x) (.type "object")) true := I.type.andThen (looks_mroIn X (by unfold mroIn; rw [hc, Option.bind_some, if_neg (by rw [ne]; decide), hob]))
  refine codeAny_call_builtin SF.slot.plain SF.entry (@check_slot (model prog w) _ _ s "object.__setattr__" "object" "__setattr__" (.ref x) [.str name tk, v] [] _ SF.kind SF.split sub (SF.args (.ref x) (.str name tk) v) ?_)
  obtain ⟨attr, ha, hr⟩ := Option.bind_eq_some_iff.mp ht
  have hm : Looks (model prog w) s.heap (mroOf (.ref C)) cd.mro := (looks_clsIn X hc).andThen .now
  have L3 : Looks (model prog w) s.heap (storeTaker? attr) r := by
    cases attr with
    | none => cases hr; exact .now
    | some a =>
      obtain ⟨b, hb, rfl⟩ := Option.map_eq_some_iff.mp hr
      refine (looks_takesIn X hb).andThen ?_
      cases b <;> exact .now
  rw [osa_eq, refuse_eq]
  refine wpAny_bind (wpAny_bind (I.type.here (wpAny_bind (hm.here ?_))))
  rw [hpass]
  refine wpAny_pure (wpAny_bind (I.type.here (wpAny_bind ((looks_findIn X ha).here (wpAny_bind (L3.here ?_))))))
  exact h _
end
section
variable {prog : Program} {w : World} {A : Around} {R : Result → Shared → Prop} {h h₀ : Heap} {g : Array GenState} {d : Drawn} {tk : Nat} {os : OsState} {K : Frag} {C x : Addr}
theorem osa_new {vs : Array Value} {sl : Array (Option Value)} {name : Str} {tn : Tok} {v : Value} (X : K.In h)
    (hx : h.get? x = some ⟨.ref C, none, .fields vs, sl⟩) {l : List Value} (hp : passesIn K C l) (ht : takerIn K C name = some none) (hh : (clsIn K C).any (·.hasDict) = true)
    (hR : ∀ h' tk' dx, Mv [x] [] h h' → h.objs.size ≤ dx → h'.get? x = some ⟨.ref C, some dx, .fields vs, sl⟩ → h'.get? dx = some (dictOf [⟨PyData.keyHash w.params name, .str name tk, v⟩] 1) → R (.ok (.ret .none)) ⟨h', g, d, tk', os⟩) :
    codeAny (model prog w) A (.call (.builtin "object.__setattr__") ⟨[.ref x, .str name tn, v], []⟩) R ⟨h, g, d, tk, os⟩ := by
  have I : InstAt h x ⟨.ref C, none, .fields vs, sl⟩ C none := ⟨hx, rfl, rfl, trivial⟩
  refine osa_openX (s := ⟨h, g, d, tk, os⟩) X I hp ht fun b => ?_
  obtain ⟨cd, hc, hd'⟩ := any_some hh
  refine wpAny_bind (wpAny_pure (wpAny_bind (wpAny_bind (wpAny_loadPart hx (wpAny_bind ((looks_clsIn X hc).here ?_))))))
  rw [hd']
  show wpAny _ _ (do
      let d ← alloc { cls := Value.type "dict", data := Data.dict #[] }
      update x fun o => { cls := o.cls, dict := some d, data := o.data, slots := o.slots }
      dictMade (.ref C) x d) _ _ _
  have hxd : x ≠ h.objs.size := Nat.ne_of_lt (Heap.lt_size hx)
  refine wpAny_bind (wpAny_alloc (wpAny_bind (wpAny_update (Heap.get?_push_of_some _ hx) ?_)))
  refine wpAny_pure (a := some h.objs.size) ?_
  have hx1 := Heap.get?_update_self (h := h.push emptyDict) (fun o => { cls := o.cls, dict := some h.objs.size, data := o.data, slots := o.slots }) (Heap.get?_push_of_some _ hx) rfl
  have D : ((h.push emptyDict).update x fun o => { cls := o.cls, dict := some h.objs.size, data := o.data, slots := o.slots }).get? h.objs.size = some emptyDict := (Heap.get?_update_other _ _ hxd).trans (Heap.get?_push_size _ rfl)
  dsimp only
  generalize hh1 : ((h.push emptyDict).update x fun o => { cls := o.cls, dict := some h.objs.size, data := o.data, slots := o.slots }) = h1 at hx1 D
  unfold Builtin.ObjectAttr.storeInDict
  refine wpAny_bind (wpAny_pure (wpAny_bind ?_))
  unfold nsSet
  refine wpAny_bind (wpAny_bind (wpAny_askSetting (wpAny_pure (wpAny_bind (wpAny_mkText (wpAny_bind (wpAny_loadPart D ?_)))))))
  dsimp only
  rw [aRefKeyMayBeTheName_at, show (!(#[] : Array DictEntry).any (·.key.isStr name) && (#[] : Array DictEntry).any (·.refKey)) = false by simp]
  refine wpAny_updatePart D ?_
  have D' := Heap.get?_update_self (h := h1) (Obj.putName name (PyData.keyHash w.params name) (.str name tk) v) D rfl
  have e1 : Obj.putName name (PyData.keyHash w.params name) (.str name tk) v emptyDict = dictOf [⟨PyData.keyHash w.params name, .str name tk, v⟩] 1 := rfl
  rw [e1] at D'
  show wpAny _ _ (do
      lookBehind h.objs.size (some (Value.str name 0))
      ret Value.none) _ _ ⟨h1.update h.objs.size (Obj.putName name (PyData.keyHash w.params name) (.str name tk) v), g, d, tk + 1, os⟩
  refine wpAny_bind (wpAny_lookBehind D' (pastItsLine_dict (by rw [List.size_toArray, sizeLine_eq]; show 1 ≤ _; (first | lia | omega))) ?_)
  refine wpAny_pure (hR _ _ h.objs.size (fun b o hb eb => ?_) (Nat.le_refl _) ((Heap.get?_update_other _ _ (Ne.symm hxd)).trans hx1) D')
  have hbx : b ≠ x := by simpa using hb
  have hbd : b ≠ h.objs.size := Nat.ne_of_lt (Heap.lt_size eb)
  have q : (h1.update h.objs.size (Obj.putName name (PyData.keyHash w.params name) (.str name tk) v)).get? b = some o := by
    rw [Heap.get?_update_other _ _ (Ne.symm hbd), ← hh1, Heap.get?_update_other _ _ (Ne.symm hbx)]
    exact Heap.get?_push_of_some _ eb
  exact ⟨fun _ => q, fun _ => ⟨o.slots, q⟩⟩
end
end
section
open PySem PySem.W PyProof.Rows PySem.Calls PySem.Spec PySem.Builtin PySem.Builtin.ObjectAttr
set_option maxHeartbeats 1000000
section
variable {prog : Program} {w : World} {A : Around} {R : Result → Shared → Prop} {h h₀ : Heap} {g : Array GenState} {d : Drawn} {tk : Nat} {os : OsState} {K : Frag} {C x dx : Addr}
theorem osa_more {vs : Array Value} {sl : Array (Option Value)} {es es' : List DictEntry} {n n' : Nat} {name : Str} {tn : Tok} {v : Value} {l : List Value} (X : K.In h)
    (hx : h.get? x = some ⟨.ref C, some dx, .fields vs, sl⟩) (hd : h.get? dx = some (dictOf es n)) (hp : passesIn K C l) (ht : takerIn K C name = some none) (hh : (clsIn K C).any (·.hasDict) = true)
    (hl : (getL name es).isSome = true) (e : (putL name (PyData.keyHash w.params name) (.str name tk) v es, putN name es n) = (es', n')) (hz : es'.length ≤ 1000)
    (hR : ∀ h', Heap.SameBut dx h h' → h'.get? dx = some (dictOf es' n') → R (.ok (.ret .none)) ⟨h', g, d, tk + 1, os⟩) :
    codeAny (model prog w) A (.call (.builtin "object.__setattr__") ⟨[.ref x, .str name tn, v], []⟩) R ⟨h, g, d, tk, os⟩ := by
  have I : InstAt h x ⟨.ref C, some dx, .fields vs, sl⟩ C (some (dictOf es n)) := ⟨hx, rfl, rfl, hd⟩
  refine osa_openX (s := ⟨h, g, d, tk, os⟩) X I hp ht fun b => ?_
  refine holdG fun Pz kz => ?_
  obtain ⟨cd, hc, hd'⟩ := any_some hh
  obtain ⟨e1, e2⟩ := Prod.mk.inj e
  refine kz ?_
  clear kz Pz
  refine wpAny_bind (wpAny_pure (wpAny_bind (wpAny_bind (wpAny_loadPart hx (wpAny_bind ((looks_clsIn X hc).here ?_))))))
  rw [hd']
  refine wpAny_pure (a := some dx) (wpAny_bind (wpAny_pure (wpAny_bind ?_)))
  unfold nsSet
  refine wpAny_bind (wpAny_bind (wpAny_askSetting (wpAny_pure (wpAny_bind (wpAny_mkText (wpAny_bind (wpAny_loadPart hd ?_)))))))
  dsimp only
  have c : (!es.toArray.any (·.key.isStr name) && es.toArray.any (·.refKey)) = false := by
    rw [← Array.any_toList, ← Array.any_toList, List.toList_toArray]
    unfold getL at hl
    split at hl
    · rename_i en he
      rw [List.any_eq_true.mpr ⟨en, List.mem_of_find?_eq_some he, List.find?_some he⟩]; rfl
    · split at hl
      · cases hl
      · rename_i z; rw [Bool.not_eq_true] at z; rw [z, Bool.and_false]
  rw [aRefKeyMayBeTheName_at, c]
  refine wpAny_updatePart hd ?_
  have D' := Heap.get?_update_self (h := h) (Obj.putName name (PyData.keyHash w.params name) (.str name tk) v) hd (by rw [putName_dict]; rfl)
  rw [putName_dict, e1, e2] at D'
  refine wpAny_bind (wpAny_lookBehind D' (pastItsLine_dict (by rw [List.size_toArray, sizeLine_eq]; (first | lia | omega))) ?_)
  exact wpAny_pure (hR _ (.update ..) D')
end
section
variable {w : World} {A : Around} {E : Value → Shared → Prop} {h h₀ : Heap} {g : Array GenState} {d : Drawn} {tk : Nat} {os : OsState} {env : Env} {L : Addr} {m mg mb : Str → Option Value} {nw rest : List (Addr × Obj)}
/-- a first attribute set on an exception: its dict is made -/
theorem set_new {C x : Addr} {vs : Array Value} {sl : Array (Option Value)} {name : Str} {v : Value} {Q : Unit → Shared → Prop} (F : Fr h₀ L h m) (B : Bs w mg mb h₀) (N : News h₀ L h nw) (hx : (x, (⟨.ref C, none, .fields vs, sl⟩ : Obj)) ∈ nw) (hr : ∀ p ∈ rest, p ∈ nw ∧ p.1 ≠ x)
    (hs : findIn (KN w.params) (.ref C) "__setattr__" = some (some (.builtin "object.__setattr__"))) {l : List Value} (hp : passesIn (KN w.params) C l) (ht : takerIn (KN w.params) C name = some none) (hh : hasDictIn (KN w.params) C = true)
    (hQ : ∀ h' tk' dx t, Fr h₀ L h' m → News h₀ L h' ((x, ⟨.ref C, some dx, .fields vs, sl⟩) :: (dx, dictOf [⟨PyData.keyHash w.params name, .str name t, v⟩] 1) :: rest) → (∀ p ∈ nw, @LT.lt Nat _ p.1 dx) → Q () ⟨h', g, d, tk', os⟩) :
    wpAny (MM w) A (setAttr (.ref x) name v) Q E ⟨h, g, d, tk, os⟩ := by
  have X := B.X.keeps F.keep
  refine set_plain (s := ⟨h, g, d, tk, os⟩) (od := none) X ⟨(N _ hx).1, rfl, rfl, trivial⟩ hs ?_
  refine osa_new X (N _ hx).1 hp ht hh fun h' tk' dx mv hd ex ed => ?_
  have ext : ∀ b o, b ≠ x → h.get? b = some o → h'.get? b = some o := fun b o hb e => (mv b o (by simpa using hb) e).1 (by simp)
  have lt : ∀ p ∈ nw, @LT.lt Nat _ p.1 dx := fun p hp => Nat.lt_of_lt_of_le (nw_lt N p hp) hd
  refine hQ h' tk' dx (tk + 1) ⟨F.ns.extBut ext (N _ hx).2.1.symm, fun b o e => ext b o (fun q => by (first | exact gX e ((congrArg _ q).trans (N _ hx).2.2) | exact gX (N _ hx).2.2 ((congrArg _ q).symm.trans e) | (rw [q, (N _ hx).2.2] at e; cases e))) (F.keep b o e), F.above⟩ (fun p hp => ?_) lt
  revert p hp
  refine fm_cons ?_ ?_
  · exact ⟨ex, (N _ hx).2⟩
  refine fm_cons ?_ ?_
  · exact ⟨ed, Nat.ne_of_gt (Nat.lt_of_lt_of_le (fr_lt F) hd), fr_new F hd⟩
  intro p hp
  · exact ⟨ext _ _ (hr p hp).2 (N p (hr p hp).1).1, (N p (hr p hp).1).2⟩
theorem set_more {C x dx : Addr} {vs : Array Value} {sl : Array (Option Value)} {es es' : List DictEntry} {n n' : Nat} {name : Str} {v : Value} {Q : Unit → Shared → Prop} (F : Fr h₀ L h m) (B : Bs w mg mb h₀) (N : News h₀ L h nw) (hm : (dx, dictOf es n) ∈ nw) (hi : (x, (⟨.ref C, some dx, .fields vs, sl⟩ : Obj)) ∈ nw) (hr : ∀ p ∈ rest, p ∈ nw ∧ p.1 ≠ dx)
    (hs : findIn (KN w.params) (.ref C) "__setattr__" = some (some (.builtin "object.__setattr__"))) {l : List Value} (hp : passesIn (KN w.params) C l) (ht : takerIn (KN w.params) C name = some none) (hh : hasDictIn (KN w.params) C = true) (hl : (getL name es).isSome = true)
    (e : (putL name (PyData.keyHash w.params name) (.str name (tk + 1)) v es, putN name es n) = (es', n')) (hz : es'.length ≤ 1000)
    (hQ : ∀ h' tk, Fr h₀ L h' m → News h₀ L h' ((dx, dictOf es' n') :: rest) → Q () ⟨h', g, d, tk, os⟩) : wpAny (MM w) A (setAttr (.ref x) name v) Q E ⟨h, g, d, tk, os⟩ := by
  have X := B.X.keeps F.keep
  refine set_plain (s := ⟨h, g, d, tk, os⟩) (od := some (dictOf es n)) X ⟨(N _ hi).1, rfl, rfl, (N _ hm).1⟩ hs ?_
  refine osa_more X (N _ hi).1 (N _ hm).1 hp ht hh hl e hz fun h' hsb hd' => ?_
  obtain ⟨F', N'⟩ := led_set F N hm hsb hd' hr
  exact hQ h' _ F' N'
end
end
section
open PySem PySem.W PyProof.Rows PySem.Calls PySem.Spec
set_option maxHeartbeats 1000000
noncomputable def nagEs (P : Params) (t1 t2 t3 : Tok) (n words line : Value) : List DictEntry :=
  [⟨PyData.keyHash P ⟨⟨[108, 105, 110, 101, 110, 111]⟩⟩, .str ⟨⟨[108, 105, 110, 101, 110, 111]⟩⟩ t1, n⟩, ⟨PyData.keyHash P ⟨⟨[109, 115, 103]⟩⟩, .str ⟨⟨[109, 115, 103]⟩⟩ t2, words⟩, ⟨PyData.keyHash P ⟨⟨[108, 105, 110, 101]⟩⟩, .str ⟨⟨[108, 105, 110, 101]⟩⟩ t3, line⟩]
structure NagIs (P : Params) (h : Heap) (e D tp : Addr) (t1 t2 t3 : Tok) (n words line : Value) : Prop where
  e : h.get? e = some ⟨.ref 76, some D, .fields #[.ref tp, .none, .none, .none, .bool false, .none], #[]⟩
  d : h.get? D = some (dictOf (nagEs P t1 t2 t3 n words line) 3)
section
variable {w : World} {A : Around} {E : Value → Shared → Prop} {h : Heap} {g : Array GenState} {d : Drawn} {tk : Nat} {os : OsState} {mg mb : Str → Option Value}
theorem nag_at (P : Params) : (KN P).lookup 76 = some (hd.zo_55 P) := by kernel_rfl
theorem nagi_at (P : Params) : (KN P).lookup 52 = some (hd.zo_31 P) := by kernel_rfl
noncomputable abbrev fNag (P : Params) : FuncData := fnIn? (hd.zo_31 P)
theorem nag_new {n : Value} {wd ln : Value} {Q : Value → Shared → Prop} (B : Bs w mg mb h) (R : Rm A 8)
    (hQ : ∀ e D tp h' tk' t1 t2 t3, Ext h h' → h.get? e = none → h.get? D = none → NagIs w.params h' e D tp t1 t2 t3 n wd ln → Q (.ref e) ⟨h', g, d, tk', os⟩) :
    wpAny (MM w) A (call (.ref 76) [n, wd, ln]) Q E ⟨h, g, d, tk, os⟩ := by
  refine wpAny_call (exc_core PySem.F.excBase_Exception (C := 76) (B.X _ _ (nag_at _)) (looks_findIn B.X (r := some (.ref 52)) (by kernel_rfl)) (fun self => bind_fn B.X self (by kernel_rfl)) ?_ (by rw [sizeLine_eq]; show 3 ≤ _; (first | lia | omega)))
  have hnone : ∀ k, h.objs.size ≤ k → h.get? k = none := fun k hk => by
    refine gN fun o e => ?_
    exact absurd (Heap.lt_size e) (Nat.not_lt.mpr hk)
  refine enterN (fd := fNag w.params) (body := _) (hb := h) (nw := [(h.objs.size + 1, excO 76 h.objs.size), (h.objs.size, tupO [n, wd, ln])]) (binds := [(⟨⟨[115, 101, 108, 102]⟩⟩, .ref (h.objs.size + 1)), (⟨⟨[108, 105, 110, 101, 110, 111]⟩⟩, n), (⟨⟨[109, 115, 103]⟩⟩, wd), (⟨⟨[108, 105, 110, 101]⟩⟩, ln)]) B ((Ext.push h _).trans (Ext.push _ _)) ?_ (nagi_at _) rfl (by kernel_rfl) rfl (BindsTo.of_eq (by kernel_rfl)) (Rm.make (k := 7) R).room ?_ ?_ (by kernel_rfl) (by kernel_rfl) rfl rfl rfl rfl
  · intro p hp
    revert p hp
    refine fm_cons ?_ ?_
    · exact ⟨by rw [← Heap.size_push h (tupO [n, wd, ln])]; exact Heap.get?_push_size _ rfl, hnone _ (Nat.le_succ _)⟩
    intro p hp
    · rw [List.mem_singleton.mp hp]
      exact ⟨Heap.get?_push_of_some _ (Heap.get?_push_size _ rfl), hnone _ (Nat.le_refl _)⟩
  · rw [Heap.size_push, Heap.size_push]; (first | lia | omega)
  generalize hxe : h.objs.size + 1 = x
  generalize hde : h.objs.size = tp
  have hxd : x ≠ tp := by (first | lia | omega)
  intro h₁ L tk E' F N hlt X1
  simp only [List.reverse_cons, List.reverse_nil, List.nil_append, List.cons_append] at F
  have R1 := (Rm.make (C := 76) (vals := [n, wd, ln]) (k := 7) R).deeper (env := callEnv (fNag w.params) L 52)
  have hh := R1.hd
  repeat kbo_bools
  refine al_tup F N (by show 3 ≤ 1000; decide) (fun r h2 F2 N2 hl2 X2 hn2 => ?_)
  refine unpackN_ (s := ⟨h2, g, d, tk, os⟩) F2 N2 (isTup_of (N2 _ (.head _)).1) hh rfl rfl (fun h3 F3 N3 => ?_)
  show wpAny _ _ (assignInOrder [assign (Expr.Attribute _ _ _) _, assign (Expr.Attribute _ _ _) _, assign (Expr.Attribute _ _ _) _] [n, wd, ln]) _ _ ⟨h3, g, d, tk, os⟩
  unfold assignInOrder
  refine wpAny_bind (wpAny_holding (kas_attr ?_))
  repeat kbo_bools
  refine set_new (rest := [(tp, tupO [n, wd, ln])]) F3 B N3 (.tail _ (.head _)) (fun p hp => by rw [List.mem_singleton.mp hp]; exact ⟨.tail _ (.tail _ (.head _)), Ne.symm hxd⟩) (by kernel_rfl) (pass_nag _) (by kernel_rfl) (by kernel_rfl) (fun h4 tk4 D t1 F4 N4 hl4 => ?_)
  have hDx : x ≠ D := Nat.ne_of_lt (hl4 _ (.tail _ (.head _)))
  have hDt : tp ≠ D := Nat.ne_of_lt (hl4 _ (.tail _ (.tail _ (.head _))))
  clear F F2 F3
  unfold assignInOrder
  refine wpAny_bind (wpAny_holding (kas_attr ?_))
  repeat kbo_bools
  refine set_more (rest := [(x, ⟨.ref 76, some D, .fields #[.ref tp, .none, .none, .none, .bool false, .none], #[]⟩), (tp, tupO [n, wd, ln])]) F4 B N4 (.tail _ (.head _)) (.head _) (fun p hp => ?_) (by kernel_rfl) (pass_nag _) (by kernel_rfl) (by kernel_rfl) (by kernel_rfl)
    (es' := [⟨PyData.keyHash w.params ⟨⟨[108, 105, 110, 101, 110, 111]⟩⟩, .str ⟨⟨[108, 105, 110, 101, 110, 111]⟩⟩ t1, n⟩, ⟨PyData.keyHash w.params ⟨⟨[109, 115, 103]⟩⟩, .str ⟨⟨[109, 115, 103]⟩⟩ (tk4 + 1), wd⟩]) (n' := 2) (by kernel_rfl) (by show 2 ≤ 1000; decide) (fun h5 tk5 F5 N5 => ?_)
  · revert p hp
    refine fm_cons ?_ ?_
    · exact ⟨.head _, hDx⟩
    intro p hp
    · rw [List.mem_singleton.mp hp]; exact ⟨.tail _ (.tail _ (.head _)), hDt⟩
  clear F4
  unfold assignInOrder
  refine wpAny_bind (wpAny_holding (kas_attr ?_))
  repeat kbo_bools
  refine set_more (rest := [(x, ⟨.ref 76, some D, .fields #[.ref tp, .none, .none, .none, .bool false, .none], #[]⟩), (tp, tupO [n, wd, ln])]) F5 B N5 (.head _) (.tail _ (.head _)) (fun p hp => ?_) (by kernel_rfl) (pass_nag _) (by kernel_rfl) (by kernel_rfl) (by kernel_rfl)
    (es' := nagEs w.params t1 (tk4 + 1) (tk5 + 1) n wd ln) (n' := 3) (by kernel_rfl) (by show 3 ≤ 1000; decide) (fun h6 tk6 F6 N6 => ?_)
  · revert p hp
    refine fm_cons ?_ ?_
    · exact ⟨.tail _ (.head _), hDx⟩
    intro p hp
    · rw [List.mem_singleton.mp hp]; exact ⟨.tail _ (.tail _ (.head _)), hDt⟩
  unfold assignInOrder
  refine wpAny_pure ?_
  repeat kbo_bools
  exact ⟨rfl, hQ x D tp h6 tk6 t1 (tk4 + 1) (tk5 + 1) F6.keep (hnone x (by (first | lia | omega))) (hnone D (by have h1 := hl4 _ (.tail _ (.head _)); have h2 : @LT.lt Nat _ x D := h1; (first | lia | omega))) ⟨(N6 _ (.tail _ (.head _))).1, (N6 _ (.head _)).1⟩⟩
end
end
section
open PySem PySem.W PyProof.Rows PySem.Calls PySem.Spec
set_option maxHeartbeats 1000000
theorem nag_ga (P : Params) : findIn (KN P) (.ref 76) "__getattribute__" = some (some (.builtin "BaseException.__getattribute__")) := by kernel_rfl
theorem nag_gt (P : Params) : findIn (KN P) (.ref 76) "__getattr__" = some none := by kernel_rfl
theorem nag_hd (P : Params) : hasDictIn (KN P) 76 = true := by kernel_rfl
theorem smtp_ga (P : Params) : findIn (KN P) (.ref 201) "__getattribute__" = some (some (.builtin "BaseException.__getattribute__")) := by kernel_rfl
theorem smtp_gt (P : Params) : findIn (KN P) (.ref 201) "__getattr__" = some none := by kernel_rfl
theorem smtp_hd (P : Params) : hasDictIn (KN P) 201 = true := by kernel_rfl
theorem smtp_rc (P : Params) : findIn (KN P) (.ref 201) ⟨⟨[114, 101, 99, 105, 112, 105, 101, 110, 116, 115]⟩⟩ = some none := by kernel_rfl
theorem nag_mro (P : Params) : mroIn (KN P) 76 (.type "BaseException") = some true := by kernel_rfl
theorem smtp_mro (P : Params) : mroIn (KN P) 201 (.type "BaseException") = some true := by kernel_rfl
theorem can_bexc : (Manifest.canonical "BaseException.__getattribute__" != "object.__getattribute__") = false := by decide +kernel
section
variable {w : World} {A : Around} {E : Value → Shared → Prop} {h h₀ : Heap} {g : Array GenState} {d : Drawn} {tk : Nat} {os : OsState} {mg mb : Str → Option Value} {env : Env} {L : Addr} {m : Str → Option Value}
/-- what an exception's class answers for reads -/
structure ExcK (P : Params) (C : Addr) : Prop where
  ga : findIn (KN P) (.ref C) "__getattribute__" = some (some (.builtin "BaseException.__getattribute__"))
  gt : findIn (KN P) (.ref C) "__getattr__" = some none
  hd : hasDictIn (KN P) C = true
  mro : mroIn (KN P) C (.type "BaseException") = some true
theorem nag_k (P : Params) : ExcK P 76 := ⟨nag_ga P, nag_gt P, nag_hd P, nag_mro P⟩
theorem smtp_k (P : Params) : ExcK P 201 := ⟨smtp_ga P, smtp_gt P, smtp_hd P, smtp_mro P⟩
theorem exc_get {C x dx : Addr} {fs : Array Value} {sl : Array (Option Value)} {es : List DictEntry} {n : Nat} {name : Str} {v : Value} {Q : Value → Shared → Prop} (X : (KN w.params).In h) (hx : h.get? x = some ⟨.ref C, some dx, .fields fs, sl⟩) (hd : h.get? dx = some (dictOf es n))
    (K : ExcK w.params C) (ha : findIn (KN w.params) (.ref C) name = some none) (hl : getL name es = some (some v)) (hh : handedIn v = true) (hQ : ∀ tk, Q v ⟨h, g, d, tk, os⟩) :
    wpAny (MM w) A (getAttr (.ref x) name true) Q E ⟨h, g, d, tk, os⟩ := by
  have I : InstAt h x ⟨.ref C, some dx, .fields fs, sl⟩ C (some (dictOf es n)) := ⟨hx, rfl, rfl, hd⟩
  have L0 := I.type (M := MM w)
  have L1 := looks_findIn (M := MM w) X K.ga
  have L2 := looks_findIn (M := MM w) X K.gt
  have L3 := looks_find (M := MM w) X I (findObj_own (od := dictOf es n) K.hd ha rfl hl)
  have sub : Looks (MM w) h (isInstance (.ref x) (.type "BaseException")) true := I.type.andThen (looks_mroIn X K.mro)
  unfold getAttr getAttrBy
  refine wpAny_bind (wpAny_mkText (wpAny_holding (wpAny_bind (L0.at (wpAny_bind (L1.at ?_))))))
  show wpAny _ _ (getAttrByItsOwn _ _ _ _ _ _) _ _ _
  unfold getAttrByItsOwn
  refine wpAny_bind (m := hookBefore (.ref C)) (L2.at ?_)
  refine wpAny_bind (wpAny_attempt (wpAny_holding ?_))
  show wpAny _ _ (boundAndCalled _ _ _) _ _ _
  unfold boundAndCalled
  rw [PySem.F.attr_Exception.ga.bind]
  refine wpAny_bind (wpAny_pure (wpAny_call ?_))
  refine codeAny_call_builtin PySem.F.attr_Exception.ga.plain PySem.F.entry_bexc_ga (@check_slot (MM w) _ _ _ "BaseException.__getattribute__" "BaseException" "__getattribute__" (.ref x) [.str name tk] [] _ (by decide +kernel) (by decide +kernel) sub (PySem.F.args_bexc_ga _ _) ?_)
  show wpAny _ _ (typeOf (.ref x) >>= _) _ _ _
  refine wpAny_bind (L0.at (wpAny_bind (L3.at ?_)))
  refine wpAny_pure ?_
  show wpAny _ _ (handedOut v) _ _ _
  rw [handedOut_of hh]
  exact wpAny_pure (hQ _)
theorem exc_meth {C x dx f : Addr} {fs : Array Value} {sl : Array (Option Value)} {es : List DictEntry} {n : Nat} {name : Str} {pl : Sem Bool} {Q : Value × List Value → Shared → Prop} (X : (KN w.params).In h) (hx : h.get? x = some ⟨.ref C, some dx, .fields fs, sl⟩) (hd : h.get? dx = some (dictOf es n))
    (K : ExcK w.params C)
    (hf : findIn (KN w.params) (.ref C) name = some (some (.ref f))) (ht : typeIn (KN w.params) (.ref f) = some (.type "function")) (hs : getL name es = some none)
    (hQ : Q (.ref f, [.ref x]) ⟨h, g, d, tk, os⟩) : wpAny (MM w) A (getMethod (.ref x) name pl) Q E ⟨h, g, d, tk, os⟩ := by
  have I : InstAt h x ⟨.ref C, some dx, .fields fs, sl⟩ C (some (dictOf es n)) := ⟨hx, rfl, rfl, hd⟩
  unfold getMethod specialOf
  refine wpAny_bind (wpAny_bind (I.type.here ((looks_findIn X K.ga).here ?_)))
  dsimp only
  rw [can_bexc, if_neg (by decide)]
  refine wpAny_bind (wpAny_bind (I.type.here ((looks_findIn X K.gt).here ?_)))
  refine wpAny_bind (wpAny_bind (I.type.here ((looks_findIn X hf).here (wpAny_bind ((looks_typeIn X ht).here ?_)))))
  rw [if_neg (by decide +kernel)]
  refine wpAny_bind (wpAny_loadPart hx ?_)
  refine wpAny_bind (wpAny_bind (wpAny_loadPart hd ?_))
  have hs' : (lookIn name (dictOf es n)) = some none := hs
  rw [nsLook_of hs']
  refine wpAny_pure ?_
  exact wpAny_bind (wpAny_rule (wpAny_pure hQ))
end
/-- a NannyNag as it stands, whatever its record of frames -/
structure NagAt (P : Params) (h : Heap) (e : Addr) (n words line : Value) : Prop where
  out : ∃ D fs sl t1 t2 t3, h.get? e = some ⟨.ref 76, some D, .fields fs, sl⟩ ∧ h.get? D = some (dictOf (nagEs P t1 t2 t3 n words line) 3)
section
variable {w : World} {A : Around} {E : Value → Shared → Prop} {h : Heap} {g : Array GenState} {d : Drawn} {tk : Nat} {os : OsState} {mg mb : Str → Option Value}
theorem gline_at (P : Params) : (KN P).lookup 59 = some (hd.zo_38 P) := by kernel_rfl
noncomputable abbrev fGl (P : Params) : FuncData := fnIn? (hd.zo_38 P)
theorem gmsg_at (P : Params) : (KN P).lookup 66 = some (hd.zo_45 P) := by kernel_rfl
noncomputable abbrev fGm (P : Params) : FuncData := fnIn? (hd.zo_45 P)
theorem glin_at (P : Params) : (KN P).lookup 73 = some (hd.zo_52 P) := by kernel_rfl
noncomputable abbrev fGi (P : Params) : FuncData := fnIn? (hd.zo_52 P)
theorem gline_ok {e : Addr} {n wd ln : Value} {Q : Value → Shared → Prop} (hn : handedIn n = true) (B : Bs w mg mb h) (R : A.depth < recursionLimit) (G : NagAt w.params h e n wd ln)
    (hQ : ∀ h' tk', Ext h h' → Q n ⟨h', g, d, tk', os⟩) : wpAny (MM w) A (call (.ref 59) [.ref e]) Q E ⟨h, g, d, tk, os⟩ := by
  refine holdG fun Pz kz => ?_
  obtain ⟨D, fs, sl, t1, t2, t3, h1, h2⟩ := G
  refine kz ?_
  clear kz Pz
  refine enter (fd := fGl w.params) (body := _) (binds := [(⟨⟨[115, 101, 108, 102]⟩⟩, .ref e)]) B (gline_at _) rfl (by kernel_rfl) rfl (BindsTo.of_eq (by kernel_rfl)) R ?_ (by kernel_rfl) (by kernel_rfl) rfl rfl rfl rfl
  intro h₁ L tk E' F
  simp only [List.reverse_cons, List.reverse_nil, List.nil_append, List.cons_append] at F
  have N : News h L h₁ [] := News.nil
  repeat kbo_bools
  refine exc_get (B.X.keeps F.keep) (F.keep _ _ h1) (F.keep _ _ h2) (nag_k _) (by kernel_rfl) (v := n) (by kernel_rfl) hn (fun tk => ?_)
  exact hQ _ _ F.keep
theorem gmsg_ok {e : Addr} {n wd ln : Value} {Q : Value → Shared → Prop} (hn : handedIn wd = true) (B : Bs w mg mb h) (R : A.depth < recursionLimit) (G : NagAt w.params h e n wd ln)
    (hQ : ∀ h' tk', Ext h h' → Q wd ⟨h', g, d, tk', os⟩) : wpAny (MM w) A (call (.ref 66) [.ref e]) Q E ⟨h, g, d, tk, os⟩ := by
  refine holdG fun Pz kz => ?_
  obtain ⟨D, fs, sl, t1, t2, t3, h1, h2⟩ := G
  refine kz ?_
  clear kz Pz
  refine enter (fd := fGm w.params) (body := _) (binds := [(⟨⟨[115, 101, 108, 102]⟩⟩, .ref e)]) B (gmsg_at _) rfl (by kernel_rfl) rfl (BindsTo.of_eq (by kernel_rfl)) R ?_ (by kernel_rfl) (by kernel_rfl) rfl rfl rfl rfl
  intro h₁ L tk E' F
  simp only [List.reverse_cons, List.reverse_nil, List.nil_append, List.cons_append] at F
  have N : News h L h₁ [] := News.nil
  repeat kbo_bools
  refine exc_get (B.X.keeps F.keep) (F.keep _ _ h1) (F.keep _ _ h2) (nag_k _) (by kernel_rfl) (v := wd) (by kernel_rfl) hn (fun tk => ?_)
  exact hQ _ _ F.keep
theorem glin_ok {e : Addr} {n wd ln : Value} {Q : Value → Shared → Prop} (hn : handedIn ln = true) (B : Bs w mg mb h) (R : A.depth < recursionLimit) (G : NagAt w.params h e n wd ln)
    (hQ : ∀ h' tk', Ext h h' → Q ln ⟨h', g, d, tk', os⟩) : wpAny (MM w) A (call (.ref 73) [.ref e]) Q E ⟨h, g, d, tk, os⟩ := by
  refine holdG fun Pz kz => ?_
  obtain ⟨D, fs, sl, t1, t2, t3, h1, h2⟩ := G
  refine kz ?_
  clear kz Pz
  refine enter (fd := fGi w.params) (body := _) (binds := [(⟨⟨[115, 101, 108, 102]⟩⟩, .ref e)]) B (glin_at _) rfl (by kernel_rfl) rfl (BindsTo.of_eq (by kernel_rfl)) R ?_ (by kernel_rfl) (by kernel_rfl) rfl rfl rfl rfl
  intro h₁ L tk E' F
  simp only [List.reverse_cons, List.reverse_nil, List.nil_append, List.cons_append] at F
  have N : News h L h₁ [] := News.nil
  repeat kbo_bools
  refine exc_get (B.X.keeps F.keep) (F.keep _ _ h1) (F.keep _ _ h2) (nag_k _) (by kernel_rfl) (v := ln) (by kernel_rfl) hn (fun tk => ?_)
  exact hQ _ _ F.keep
end
end
section
open PySem PySem.W PyProof.Rows PySem.Calls PySem.Spec PySem.Builtin PySem.Builtin.OSError PySem.Builtin.ObjectAttr PySem.Builtin.Getset_descriptor PySem.Builtin.BaseException
set_option maxHeartbeats 1000000
noncomputable abbrev osFs (t : Addr) : Array Value := #[.ref t, .none, .none, .none, .bool false, .none, osUnset, osUnset, osUnset, osUnset, rawInt (-1)]
noncomputable abbrev osO (C t : Addr) : Obj := { cls := .ref C, data := .fields (osFs t) }
theorem osn_kind : builtinKind "OSError.__new__" = some .builtinFn := by kernel_rfl
theorem osn_split : splitId "OSError.__new__" = some ("OSError", "__new__") := by kernel_rfl
theorem osn_row : (Manifest.signature? "OSError.__new__") = some ⟨.constructor, "*", "OSError", .cls, [⟨"args", .varPos, false⟩]⟩ := by kernel_rfl
theorem osn_entry : entryFor table "OSError.__new__" = some Builtin.«OSError.__new__» := entryFor_of_tree (by kernel_rfl)
theorem osn_canon : Manifest.canonical "OSError.__new__" = "OSError.__new__" := by kernel_rfl
theorem os_bm : ([.ref 181, .type "OSError", .type "Exception", .type "BaseException", .type "object"] : List Value).contains (.type "OSError") = true := by decide +kernel
section
variable {prog : Program} {w : World} {A : Around} {R : Result → Shared → Prop} {h : Heap} {g : Array GenState} {d : Drawn} {t : Nat} {os : OsState}
variable {nm q : Str} {C N : Addr} {bs bm : List Value} {hdct : Bool} {sn : List Str} {sub : List Value} {ab : Bool} {col : Option Bool} {dd : Option Addr} {k0 k1 k2 k3 k5 : Option Value}
theorem check_os_new {M : Model} {E : Value → Shared → Prop} {v : Value} {Q : Unit → Shared → Prop} (hC : h.get? C = some (excClassObj nm q C N bs bm hdct sn sub ab col dd k0 k1 k2 k3 k5 "OSError.__new__")) (hb : bm.contains (.type "OSError") = true)
    (hq : Q () ⟨h, g, d, t, os⟩) : wpAny M A (checkBuiltinCall "OSError.__new__" ⟨[.ref C, v], []⟩) Q E ⟨h, g, d, t, os⟩ := by
  have hcont : (Value.ref C :: bm).contains (.type "OSError") = true := by rw [List.contains_cons, hb, Bool.or_true]
  have hstar : ("OSError" != "*") = true := by decide
  simp only [checkBuiltinCall, osn_kind, osn_split, osn_row]
  repeat (first | refine wpAny_loadPart_at hC ?_ | (refine wpAny_isSubtype_exc hC ?_; rw [hcont]) | refine wpAny_staticBase_exc hC ?_ | refine wpAny_madeBy_exc hC ?_ | simp only [bne_self_eq_false, Bool.false_eq_true, if_false] | wp_step)
  exact hq
theorem os_new {rest : List Value} {f : Addr} (hC : h.get? C = some (excClassObj nm q C N bs bm hdct sn sub ab col dd k0 k1 k2 k3 k5 "OSError.__new__")) (hb : bm.contains (.type "OSError") = true)
    (hi : Looks (model prog w) h (typeLookup (.ref C) "__init__") (some (.ref f)))
    (hq : R (.ok (.ret (.ref (h.objs.size + 1)))) ⟨(h.push (tupO [])).push (osO C h.objs.size), g, d, t, os⟩) :
    codeAny (model prog w) A (.builtin "OSError.__new__" ⟨.ref C :: rest, []⟩) R ⟨h, g, d, t, os⟩ := by
  have hcont : (Value.ref C :: bm).contains (.type "OSError") = true := by rw [List.contains_cons, hb, Bool.or_true]
  refine codeAny_builtin osn_entry ?_
  unfold Builtin.«OSError.__new__» osReadsInInit
  repeat (first | with_reducible refine wpAny_loadPart_at hC ?_ | (with_reducible refine wpAny_isSubtype_exc hC ?_; rw [hcont]) | with_reducible refine wpAny_madeBy_exc hC ?_ | with_reducible refine hi.at ?_ | wp_step)
  show R _ _
  rw [Heap.size_push]
  exact hq
theorem os_core {v : Value} {f : Addr} (hC : h.get? C = some (excClassObj nm q C N bs bm hdct sn sub ab col dd k0 k1 k2 k3 k5 "OSError.__new__")) (hbm : bm.contains (.type "OSError") = true)
    (hi : Looks (model prog w) h (typeLookup (.ref C) "__init__") (some (.ref f))) (hb : ∀ self, Looks (model prog w) h (bindSpecial (.ref f) self) (.ref f, [self]))
    (hq : codeAny (model prog w) (A.under (.builtin "type.__call__" ⟨[.ref C, v], []⟩)) (.call (.ref f) ⟨[.ref (h.objs.size + 1), v], []⟩) (InitBack (h.objs.size + 1) R) ⟨(h.push (tupO [])).push (osO C h.objs.size), g, d, t, os⟩) :
    codeAny (model prog w) A (.call (.ref C) ⟨[v], []⟩) R ⟨h, g, d, t, os⟩ := by
  have f1 := tc_lookup
  have f2 := tc_bind (.ref C)
  have hT : (⟨h, g, d, t, os⟩ : Shared).TypeIs (.ref C) "type" := ⟨_, hC, rfl⟩
  refine codeAny_of_tree ?_
  show wpAny _ _ (callAny (.ref C) _) _ _ _
  repeat (any_goals (first | assumption | with_reducible refine wpAny_loadPart_at hC ?_ | wp_step))
  refine ⟨rfl, ?_⟩
  refine codeAny_call_builtin_at (Code.quiet_builtin _ (by decide +kernel)) entry_typeCall (wpAny_check_type_call_sub hC ?_)
  repeat (first | with_reducible refine wpAny_loadPart_at hC ?_ | with_reducible refine wpAny_madeBy_exc hC ?_ | wp_step)
  refine codeAny_call_builtin_code (Code.quiet_builtin _ (by decide +kernel)) (check_os_new hC hbm ?_)
  refine os_new hC hbm hi ?_
  show wpAny _ (A.under (.builtin "type.__call__" ⟨[.ref C, v], []⟩)) _ _ _ ⟨(h.push (tupO [])).push (osO C h.objs.size), g, d, t, os⟩
  have k : ∀ b o, h.get? b = some o → ((h.push (tupO [])).push (osO C h.objs.size)).get? b = some o := fun b o e => Heap.get?_push_of_some _ (Heap.get?_push_of_some _ e)
  have hC₁ := k _ _ hC
  have hget : ((h.push (tupO [])).push (osO C h.objs.size)).get? (h.objs.size + 1) = some (osO C h.objs.size) := by
    rw [← Heap.size_push h (tupO [])]; exact Heap.get?_push_size _ rfl
  have hcC : (Value.ref C :: bm).contains (.ref C) = true := by simp
  have i1 := hi.keeps k
  have b1 := (hb (.ref (h.objs.size + 1))).keeps k
  unfold isInstance
  repeat (first | with_reducible refine wpAny_loadPart_at hget ?_ | (with_reducible refine wpAny_isSubtype_exc hC₁ ?_; rw [hcC]) | wp_step)
  show wpAny _ _ (typeLookup (.ref C) _) _ _ _
  refine i1.at ?_
  refine wpAny_holding (wpAny_bind (b1.at ?_))
  refine wpAny_bind (wpAny_call ?_)
  show codeAny _ _ (.call (.ref f) ⟨[.ref (h.objs.size + 1), v], []⟩) _ _
  refine codeAny_mono hq fun r s' z => ?_
  rcases r with e | (v | _ | _ | _) <;> first | exact z | exact z.elim | skip
  obtain ⟨rfl, z⟩ := z
  exact wpAny_pure (wpAny_pure z)
end
theorem gs_args (a b c : Value) : argsOk "getset_descriptor.__set__" ⟨[a, b, c], []⟩ := by unfold argsOk; kernel_rfl
theorem gs_entry : entryFor table "getset_descriptor.__set__" = some Builtin.«getset_descriptor.__set__» := entryFor_of_tree (by kernel_rfl)
theorem as_entry : entryFor table "BaseException.args#set" = some Builtin.«BaseException.args#set» := entryFor_of_tree (by kernel_rfl)
theorem smtp_taker (P : Params) : takerIn (KN P) 201 "args" = some (some (.builtin "BaseException.args")) := by kernel_rfl
section
variable {prog : Program} {w : World} {A : Around} {R : Result → Shared → Prop} {h h₀ : Heap} {g : Array GenState} {d : Drawn} {tk : Nat} {os : OsState} {K : Frag} {C x : Addr}
/-- e.args = (.., ) of an own exception -/
theorem osa_args {D : Option Addr} {vs : Array Value} {sl : Array (Option Value)} {tn : Tok} {tp : Addr} {items : Array Value} {l : List Value} {old : Value} (X : K.In h)
    {od : Option Obj} (I : InstAt h x ⟨.ref C, D, .fields vs, sl⟩ C od) (h0 : vs[0]? = some old) (hp : passesIn K C l) (ht : takerIn K C "args" = some (some (.builtin "BaseException.args"))) (hm : mroIn K C (.type "BaseException") = some true) (htp : h.IsTuple tp items)
    (hR : ∀ h', Heap.SameBut x h h' → h'.get? x = some ⟨.ref C, D, .fields (vs.setIfInBounds 0 (.ref tp)), sl⟩ → R (.ok (.ret .none)) ⟨h', g, d, tk, os⟩) :
    codeAny (model prog w) A (.call (.builtin "object.__setattr__") ⟨[.ref x, .str "args" tn, .ref tp], []⟩) R ⟨h, g, d, tk, os⟩ := by
  have hx := I.at_
  have S := PySem.F.slot_gs_set
  refine osa_openX (s := ⟨h, g, d, tk, os⟩) X I hp ht fun b => ?_
  refine wpAny_bind (wpAny_rule (wpAny_bind (wpAny_holding (wpAny_bind (wpAny_bind ((Looks.of_pure PySem.F.typeOf_bexc_args).here ((Looks.of_pure S.lookup).here (wpAny_holding ?_))))))))
  rw [S.bind]
  refine wpAny_bind (wpAny_pure (wpAny_bind (wpAny_call ?_)))
  have hT5 : (⟨h, g, d, tk, os⟩ : Shared).TypeIs (.builtin "BaseException.args") "getset_descriptor" := PySem.F.typeOf_bexc_args
  refine codeAny_call_builtin S.plain gs_entry (S.check _ _ _ _ _ _ _ _ hT5 (gs_args _ _ _) ?_)
  have sub : Looks (model prog w) h (isInstance (.ref x) (.type "BaseException")) true := I.type.andThen (looks_mroIn X hm)
  unfold Builtin.«getset_descriptor.__set__» descrSet descrStoreThrough descrCheckInstance descrNameAndClass
  have L0 := I.type (M := model prog w)
  have sub' : Looks (model prog w) h (isSubtype (.ref C) (.type (".".intercalate ("BaseException.args".cutAt '.').dropLast))) true := by rw [PySem.F.owner_bexc_args]; exact looks_mroIn X hm
  clear sub
  repeat lk
  refine ⟨Code.quiet_builtin _ (by decide +kernel), codeAny_builtin as_entry ?_⟩
  unfold Builtin.«BaseException.args#set»
  dsimp only
  refine wpAny_bind (call_tuple_same (s := ⟨h, g, d, tk, os⟩) htp ?_)
  unfold bexcPut
  refine wpAny_bind (wpAny_bind (wpAny_field hx rfl h0 ?_))
  have hsz : 0 < vs.size := (Array.getElem?_eq_some_iff.mp h0).1
  have hs' : ∀ s', s' = (⟨h.update x (Obj.mapFields (·.setIfInBounds 0 (.ref tp))), g, d, tk, os⟩ : Shared) → R (.ok (.ret .none)) s' := by
    rintro s' rfl
    exact hR _ (.update ..) (Heap.get?_update_self _ hx rfl)
  refine wpAny_bind (wpAny_setField hx rfl hsz ?_)
  cases old <;> ((repeat (first | refine wpAny_letGo ?_ | refine wpAny_pure ?_)); exact hs' _ rfl)
end
end
section
open PySem PySem.W PyProof.Rows PySem.Calls PySem.Spec
set_option maxHeartbeats 1000000
noncomputable def refEs (P : Params) (t1 : Tok) (rc : Value) : List DictEntry := [⟨PyData.keyHash P ⟨⟨[114, 101, 99, 105, 112, 105, 101, 110, 116, 115]⟩⟩, .str ⟨⟨[114, 101, 99, 105, 112, 105, 101, 110, 116, 115]⟩⟩ t1, rc⟩]
section
variable {w : World} {A : Around} {E : Value → Shared → Prop} {h : Heap} {g : Array GenState} {d : Drawn} {tk : Nat} {os : OsState} {mg mb : Str → Option Value}
theorem smtp_at (P : Params) : (KN P).lookup 201 = some (hd.zo_146 P) := by kernel_rfl
theorem smtpi_at (P : Params) : (KN P).lookup 198 = some (hd.zo_143 P) := by kernel_rfl
noncomputable abbrev fSmtp (P : Params) : FuncData := fnIn? (hd.zo_143 P)
theorem smtp_new {rc : Value} {Q : Value → Shared → Prop} (B : Bs w mg mb h) (R : Rm A 8)
    (hQ : ∀ e D h' tk' t1 a0 a6 a7 a8 a9 a10, Ext h h' → h.get? e = none → h.get? D = none → h'.get? e = some ⟨.ref 201, some D, .fields #[a0, .none, .none, .none, .bool false, .none, a6, a7, a8, a9, a10], #[]⟩ → h'.get? D = some (dictOf (refEs w.params t1 rc) 1) → Q (.ref e) ⟨h', g, d, tk', os⟩) :
    wpAny (MM w) A (call (.ref 201) [rc]) Q E ⟨h, g, d, tk, os⟩ := by
  refine wpAny_call (os_core (C := 201) (B.X _ _ (smtp_at _)) (by decide +kernel) (looks_findIn B.X (r := some (.ref 198)) (by kernel_rfl)) (fun self => bind_fn B.X self (by kernel_rfl)) ?_)
  have hnone : ∀ k, h.objs.size ≤ k → h.get? k = none := fun k hk => by
    refine gN fun o e => ?_
    exact absurd (Heap.lt_size e) (Nat.not_lt.mpr hk)
  refine enterN (fd := fSmtp w.params) (body := _) (hb := h) (nw := [(h.objs.size + 1, osO 201 h.objs.size), (h.objs.size, tupO [])]) (binds := [(⟨⟨[115, 101, 108, 102]⟩⟩, .ref (h.objs.size + 1)), (⟨⟨[114, 101, 99, 105, 112, 105, 101, 110, 116, 115]⟩⟩, rc)]) B ((Ext.push h _).trans (Ext.push _ _)) ?_ (smtpi_at _) rfl (by kernel_rfl) rfl (BindsTo.of_eq (by kernel_rfl)) (Rm.make (k := 7) R).room ?_ ?_ (by kernel_rfl) (by kernel_rfl) rfl rfl rfl rfl
  · intro p hp
    revert p hp
    refine fm_cons ?_ ?_
    · exact ⟨by rw [← Heap.size_push h (tupO [])]; exact Heap.get?_push_size _ rfl, hnone _ (Nat.le_succ _)⟩
    intro p hp
    · rw [List.mem_singleton.mp hp]
      exact ⟨Heap.get?_push_of_some _ (Heap.get?_push_size _ rfl), hnone _ (Nat.le_refl _)⟩
  · rw [Heap.size_push, Heap.size_push]; (first | lia | omega)
  generalize hxe : h.objs.size + 1 = x
  generalize hde : h.objs.size = tp
  have hxd : x ≠ tp := by (first | lia | omega)
  intro h₁ L tk E' F N hlt X1
  simp only [List.reverse_cons, List.reverse_nil, List.nil_append, List.cons_append] at F
  have R1 := (Rm.make (C := 201) (vals := [rc]) (k := 7) R).deeper (env := callEnv (fSmtp w.params) L 198)
  have hh := R1.hd
  repeat kbo_bools
  refine set_new (rest := []) F B N (.head _) (fun p hp => nomatch hp) (by kernel_rfl) (pass_smtp _) (by kernel_rfl) (by kernel_rfl) (fun h4 tk4 D t1 F4 N4 hl4 => ?_)
  have hDx : x ≠ D := Nat.ne_of_lt (hl4 _ (.head _))
  clear F
  repeat kbo_bools
  refine al_tup F4 N4 (by show 1 ≤ 1000; decide) (fun r h5 F5 N5 hl5 X5 hn5 => ?_)
  repeat kbo_bools
  have hr5 := (N5 _ (.head _)).1
  refine set_plain (s := ⟨h5, g, d, _, os⟩) (od := some (dictOf _ 1)) (B.X.keeps F5.keep) ⟨(N5 _ (.tail _ (.head _))).1, rfl, rfl, (N5 _ (.tail _ (.tail _ (.head _)))).1⟩ (by kernel_rfl) ?_
  refine osa_args (B.X.keeps F5.keep) (od := some (dictOf _ 1)) ⟨(N5 _ (.tail _ (.head _))).1, rfl, rfl, (N5 _ (.tail _ (.tail _ (.head _)))).1⟩ rfl (pass_smtp _) (smtp_taker _) (smtp_mro _) ⟨_, hr5, rfl, _, rfl⟩ (fun h6 S6 hx6 => ?_)
  obtain ⟨F6, N6⟩ := led_set (rest := [(D, dictOf [⟨PyData.keyHash w.params ⟨⟨[114, 101, 99, 105, 112, 105, 101, 110, 116, 115]⟩⟩, .str ⟨⟨[114, 101, 99, 105, 112, 105, 101, 110, 116, 115]⟩⟩ t1, rc⟩] 1)]) F5 N5 (.tail _ (.head _)) S6 hx6 (fun p hp => by rw [List.mem_singleton.mp hp]; exact ⟨.tail _ (.tail _ (.head _)), Ne.symm hDx⟩)
  repeat kbo_bools
  exact ⟨rfl, hQ x D h6 _ t1 _ _ _ _ _ _ F6.keep (hnone x (by (first | lia | omega))) (hnone D (by have h1 : @LT.lt Nat _ x D := hl4 _ (.head _); (first | lia | omega))) (N6 _ (.head _)).1 (N6 _ (.tail _ (.head _))).1⟩
end
end
section
open PySem PySem.W PyProof.Rows PySem.Calls PySem.Spec
set_option maxHeartbeats 1000000
section
variable {M : Model} {A : Around} {E : Value → Shared → Prop} {env : Env}
variable {nm q : Str} {C N : Addr} {bs bm : List Value} {hdct : Bool} {sn : List Str} {sub : List Value} {ab : Bool} {col : Option Bool} {dd : Option Addr} {k0 k1 k2 k3 k5 : Option Value} {newId : String}
theorem raise_clsX {s : Shared} {x : Sem Value} {Q : Flow → Shared → Prop} (hbase : bm.contains (.type "BaseException") = true) (hh : A.handled = none)
    (h : wpAny M A x (fun v s₁ => ∃ e vs D sl, v = .ref e ∧ vs[1]? = some .none ∧ s₁.heap.get? C = some (excClassObj nm q C N bs bm hdct sn sub ab col dd k0 k1 k2 k3 k5 newId) ∧
      s₁.heap.get? e = some ⟨.ref C, D, .fields vs, sl⟩ ∧ E (.ref e) s₁) E s) :
    wpAny M A (raiseStmt env (some x) none) Q E s := by
  have hcB : (Value.ref C :: bm).contains (.type "BaseException") = true := by rw [List.contains_cons, hbase, Bool.or_true]
  unfold raiseStmt
  refine wpAny_bind (wpAny_mono h (fun v s₁ h₁ => ?_) fun _ _ x => x)
  refine holdG fun Pz kz => ?_
  obtain ⟨e, vs, D, sl, rfl, h1, hC, he, hE⟩ := h₁
  obtain ⟨hp, g, d, tk, os⟩ := s₁
  refine kz ?_
  clear kz Pz
  repeat (first | with_reducible refine wpAny_loadPart_at he ?_ | with_reducible refine wpAny_field he rfl h1 ?_ | with_reducible refine wpAny_loadPart_at hC ?_ | (with_reducible refine wpAny_isSubtype_exc hC ?_; rw [hcB]) | wp_step)
  exact wpAny_raiseNew_none hh hE
end
section
variable {w : World} {A : Around} {E : Value → Shared → Prop} {s : Shared} {env : Env}
theorem raise_ownX {C : Addr} {T : String} {ex : Expr} {pos : Pos} {Q : Flow → Shared → Prop} (hh : A.handled = none) (hC : ktsIn (KN w.params) C T = true)
    (h : wpAny (MM w) A (eval ex env) (fun v s₁ => ∃ e vs D sl, v = .ref e ∧ vs[1]? = some .none ∧ (KN w.params).In s₁.heap ∧ s₁.heap.get? e = some ⟨.ref C, D, .fields vs, sl⟩ ∧ E (.ref e) s₁) E s)
    (X : (KN w.params).In s.heap) : wpAny (MM w) A (exec (.Raise (some ex) none pos) env) Q E s := by
  refine holdG fun Pz kz => ?_
  obtain ⟨nm, qn, N, bs, bm, hdct, sn, sub, ab, col, dd, k0, k1, k2, k3, k5, newId, hc, hb, _⟩ := kts_cls X hC
  refine kz ?_
  clear kz Pz
  have hl : ∃ o, (KN w.params).lookup C = some o := by
    unfold ktsIn at hC
    split at hC
    · exact ⟨_, by assumption⟩
    · cases hC
  obtain ⟨o, ho⟩ := hl
  have hoc := X _ _ ho
  rw [hc] at hoc
  cases hoc
  show wpAny (MM w) A (do standAt pos; raiseStmt env (some (do let v ← eval ex env; standAt pos; pure v)) none) Q E s
  refine wpAny_bind (wpAny_standAt ?_)
  refine raise_clsX (C := C) (nm := nm) (q := qn) (N := N) (bs := bs) (bm := bm) (hdct := hdct) (sn := sn) (sub := sub) (ab := ab) (col := col) (dd := dd) (k0 := k0) (k1 := k1) (k2 := k2) (k3 := k3) (k5 := k5) (newId := newId) hb hh (wpAny_bind (wpAny_mono h (fun v s₁ h₁ => wpAny_bind (wpAny_standAt (wpAny_pure ?_))) fun _ _ x => x))
  refine holdG fun Pz kz => ?_
  obtain ⟨e, vs, D, sl, rfl, h1, X1, he, hE⟩ := h₁
  refine kz ?_
  clear kz Pz
  exact ⟨e, vs, D, sl, rfl, h1, X1 _ _ ho, he, hE⟩
theorem handle_own {C e : Addr} {T : String} {t : Expr} {n : Str} {b₀ : Stmt} {suite : List Stmt} {pos : Pos} {rest : List ExceptHandler} {Q : Flow → Shared → Prop} (hC : ktsIn (KN w.params) C T = true)
    (h : ∀ E1 : Value → Shared → Prop, wpAny (MM w) (A.mark (some (.ref e))) (eval t env) (fun c s₁ => c = .ref C ∧ (KN w.params).In s₁.heap ∧ (∃ oe, s₁.heap.get? e = some oe ∧ oe.cls = .ref C) ∧
      ∀ E1 : Value → Shared → Prop, wpAny (MM w) (A.mark (some (.ref e))) (setFlight (.ref e) none) (fun _ s₂ => ∀ E1 : Value → Shared → Prop, wpAny (MM w) (A.mark (some (.ref e))) (storeName env n (.ref e)) (fun _ s₃ => ∀ E1 : Value → Shared → Prop,
            wpAny (MM w) (A.mark (some (.ref e))) (execs (b₀ :: suite) env) (fun f s₄ => wpAny (MM w) A (do bindName env n .none; unbindBehindTheSuite env n pos) (fun _ s₅ => Q f s₅) E s₄) E1 s₃) E1 s₂) E1 s₁) E1 s) :
    wpAny (MM w) A (handleBy (.ref e) env (.ExceptHandler (some t) (some n) (b₀ :: suite) pos :: rest)) Q E s := by
  refine wpAny_handleBy_cons (codeAny_handlers_test (wpAny_mono (h _) (fun c s₁ h₁ => ?_) fun _ _ y => y)) (by intro q; cases q)
  refine holdG fun Pz kz => ?_
  obtain ⟨rfl, X, ⟨oe, he, hcls⟩, hk⟩ := h₁
  obtain ⟨nm, qn, N, bs, bm, hdct, sn, sub, ab, col, dd, k0, k1, k2, k3, k5, newId, hCo, hb, _⟩ := kts_cls X hC
  obtain ⟨hh, g, d, tk, os⟩ := s₁
  refine kz ?_
  clear kz Pz
  exact wpAny_excMatches_sub_self hCo he hcls hb (codeAny_handlers_suite_as (wpAny_mono (hk _) (fun _ s₂ h₂ => wpAny_mono (h₂ _) (fun _ s₃ h₃ => h₃ _) fun _ _ y => y) fun _ _ y => y))
end
section
variable {hp h h' : Heap} {L : Addr} {m : Str → Option Value} {X S : List Addr} {nw : List (Addr × Obj)}
theorem ns_mv (N : h.Ns L m) (M : Mv X S h h') (hL : L ∉ X) : h'.Ns L m := by
  refine holdG fun Pz kz => ?_
  obtain ⟨o, es, ep, ho, hd, r⟩ := N
  refine kz ?_
  clear kz Pz
  by_cases q : L ∈ S
  · obtain ⟨sl, hs⟩ := (M L o hL ho).2 q
    exact ⟨_, es, ep, hs, hd, r⟩
  · exact ⟨o, es, ep, (M L o hL ho).1 q, hd, r⟩
theorem fr_mv (F : Fr hp L h m) (M : Mv X S h h') (hX : ∀ a ∈ X, hp.get? a = none ∧ a ≠ L) (hS : ∀ a ∈ S, hp.get? a = none) : Fr hp L h' m :=
  ⟨ns_mv F.ns M (fun q => (hX L q).2 rfl), fun b o e => (M b o (fun q => by (first | exact gX e (hX b q).1 | exact gX (hX b q).1 e | (rw [(hX b q).1] at e; cases e))) (F.keep b o e)).1 (fun q => by (first | exact gX e (hS b q) | exact gX (hS b q) e | (rw [hS b q] at e; cases e))), F.above⟩
theorem nw_mv (N : News hp L h nw) (M : Mv X S h h') (hX : ∀ p ∈ nw, p.1 ∉ X ∧ p.1 ∉ S) : News hp L h' nw := fun p hq => ⟨(M _ _ (hX p hq).1 (N p hq).1).1 (hX p hq).2, (N p hq).2⟩
theorem ff_mv {base : Heap} {l : List Env} (Fl : h.FunFrames base l) (M : Mv X S h h') (hX : ∀ a ∈ X, a ∉ frs l) : h'.FunFrames base l := by
  induction l with
  | nil => trivial
  | cons env rest ih =>
    refine holdG fun Pz kz => ?_
    obtain ⟨hk, ⟨L, o, hf, hn, ho, hd⟩, hr⟩ := Fl
    refine kz ?_
    clear kz Pz
    have hLX : L ∉ X := fun q => hX L q (by simp [frs, List.filterMap_cons, hf])
    have hrest := ih hr (fun a ha q => hX a ha (by rw [show frs (env :: rest) = L :: frs rest by simp [frs, List.filterMap_cons, hf]]; exact .tail _ q))
    by_cases q : L ∈ S
    · obtain ⟨sl, hs⟩ := (M L o hLX ho).2 q
      exact ⟨hk, ⟨L, _, hf, hn, hs, hd⟩, hrest⟩
    · exact ⟨hk, ⟨L, o, hf, hn, (M L o hLX ho).1 q, hd⟩, hrest⟩
theorem ff_none {base : Heap} {l : List Env} (Fl : h.FunFrames base l) : ∀ a ∈ frs l, base.get? a = none := fun a ha => (Fl.mem ha).1
theorem ff_lt {base : Heap} {l : List Env} (Fl : h.FunFrames base l) : ∀ a ∈ frs l, @LT.lt Nat _ a h.objs.size := fun a ha => let ⟨_, o, e, _⟩ := Fl.mem ha; Heap.lt_size e
theorem ff_nf {base : Heap} {l : List Env} (Fl : h.FunFrames base l) {a : Addr} {o : Obj} {vs : Array Value} (e : h.get? a = some o) (hd : o.data = .fields vs) : a ∉ frs l := fun ha => by
  refine holdG fun Pz kz => ?_
  obtain ⟨_, o', e', hn⟩ := Fl.mem ha
  refine kz ?_
  clear kz Pz
  rw [e] at e'; cases e'; exact hn vs hd
end
section
variable {w : World} {A : Around} {E : Value → Shared → Prop} {hp h : Heap} {g : Array GenState} {d : Drawn} {tk : Nat} {os : OsState} {mg mb : Str → Option Value} {env : Env} {outer : List Env} {L : Addr} {m : Str → Option Value} {nw : List (Addr × Obj)}
/-- an own exception of a callee's, caught by its name -/
theorem caught {C D e T : Addr} {Tn : String} {sl : Array (Option Value)} {x n : Str} {np : Pos} {b₀ : Stmt} {suite : List Stmt} {pos : Pos} {rest : List ExceptHandler} {Q : Flow → Shared → Prop}
    (F : Fr hp L h m) (N : News hp L h nw) (B : Bs w mg mb hp) (hfr : A.frames = some (env :: outer)) (FF : h.FunFrames hp (env :: outer)) (hf : env.frame = some L) (hx : ExcR h e T (.ref C) (some D) sl .none)
    (he : hp.get? e = none) (hT : hp.get? T = none) (hne : ∀ p ∈ nw, p.1 ≠ e ∧ p.1 ≠ T ∧ p.1 ∉ frs (env :: outer))
    (hC : ktsIn (KN w.params) C Tn = true) (hnm : nsIn (KN w.params) mainGlobals x = some (some (.ref C)))
    (k : ∀ h' tk' fs (E1 : Value → Shared → Prop), Fr hp L h' (Upd m n (.ref e)) → News hp L h' nw → h'.get? e = some ⟨.ref C, some D, .fields fs, sl⟩ → Mv [e, T, L] (frs (env :: outer)) h h' → h.objs.size ≤ h'.objs.size →
      wpAny (MM w) (A.mark (some (.ref e))) (execs (b₀ :: suite) env) (fun f s₄ => wpAny (MM w) A (do bindName env n .none; unbindBehindTheSuite env n pos) (fun _ s₅ => Q f s₅) E s₄) E1 ⟨h', g, d, tk', os⟩)
    (hk : env.scope.kind = .function := by rfl) (hl : env.kindOf x = some .globalImplicit := by rfl) (hln : env.kindOf n = some .local := by rfl) (hL : env.globals = mainGlobals := by rfl) (hLL : env.locals = L := by rfl) (hd : (x == ("__debug__" : Str)) = false := by decide +kernel) :
    wpAny (MM w) A (noteFrame (.ref e) env) (fun _ s₂ => wpAny (MM w) A (setFlight (.ref e) none) (fun _ s₃ => wpAny (MM w) A (handleBy (.ref e) env (.ExceptHandler (some (.Name x np)) (some n) (b₀ :: suite) pos :: rest)) Q E s₃) E s₂) E ⟨h, g, d, tk, os⟩ := by
  have heo := hx.out
  refine holdG fun Pz kz => ?_
  obtain ⟨vs0, oT0, ts0, he0, h10, hTe0, hT0, hdT0, h30⟩ := heo
  refine kz ?_
  clear kz Pz
  have heL : e ≠ L := fun q => ff_nf FF he0 rfl (by rw [q]; simp [frs, List.filterMap_cons, hf])
  have hTL : T ≠ L := fun q => ff_nf FF hT0 hdT0 (by rw [q]; simp [frs, List.filterMap_cons, hf])
  refine note_next (s := ⟨h, g, d, tk, os⟩) hfr FF hf hx fun h1 T1 M1 z1 z2 X1 => ?_
  dsimp only at z1 z2 M1
  refine flight_none (s := ⟨h1, g, d, tk, os⟩) X1 fun h2 M2 z3 X2 => ?_
  dsimp only at z3 M2
  have M12 : Mv [e, T] (frs (env :: outer)) h h2 := M1.new M2 (fun a ha => .inr (by rw [List.mem_singleton.mp ha]; exact z1)) (fun _ q => nomatch q)
  have hX12 : ∀ a ∈ [e, T], hp.get? a = none ∧ a ≠ L := by
    refine fm_cons ?_ ?_
    · exact ⟨he, heL⟩
    intro a ha
    · rw [List.mem_singleton.mp ha]; exact ⟨hT, hTL⟩
  have F2 := fr_mv F M12 hX12 (ff_none FF)
  refine handle_own hC fun E1 => ?_
  refine nm_glob F2 B hnm ?_ hk hl hL hd
  refine holdG fun Pz kz => ?_
  obtain ⟨vs2, oT2, ts2, he2, h12, hTe2, hT2, hdT2, h32⟩ := X2.out
  refine kz ?_
  clear kz Pz
  refine ⟨rfl, B.X.keeps F2.keep, ⟨_, he2, rfl⟩, fun E1 => ?_⟩
  refine flight_none (s := ⟨h2, g, d, tk, os⟩) X2 fun h3 M3 z4 X3 => ?_
  dsimp only at z4 M3
  have M13 : Mv [e, T] (frs (env :: outer)) h h3 := M12.new M3 (fun a ha => .inr (by rw [List.mem_singleton.mp ha]; exact z1)) (fun _ q => nomatch q)
  have F3 := fr_mv F M13 hX12 (ff_none FF)
  have N3 : News hp L h3 nw := nw_mv N M13 (fun p hq => ⟨by simp [(hne p hq).1, (hne p hq).2.1], (hne p hq).2.2⟩)
  intro E1
  refine holdG fun Pz kz => ?_
  obtain ⟨vs3, oT3, ts3, he3, _⟩ := X3.out
  refine kz ?_
  clear kz Pz
  subst hLL
  refine wpAny_storeName_local hln F3.ns (fun h4 hn4 hs4 => ?_) (by rw [hk]; rfl)
  intro E1
  have M34 : Mv [env.locals] [] h3 h4 := fun b o hb eb => by
    have hb' : b ≠ env.locals := by simpa using hb
    have q := (hs4.2 b hb').trans eb
    exact ⟨fun _ => q, fun _ => ⟨o.slots, q⟩⟩
  refine k h4 _ vs3 E1 (F3.set hn4 hs4) (N3.set hs4) ((hs4.2 e heL).trans he3) (Mv.trans (M13.mono (fun a ha => ?_) (fun a ha => ha)) (M34.mono (fun a ha => ?_) (fun _ q => nomatch q))) ?_
  · revert a ha
    refine fm_cons ?_ ?_
    · exact .head _
    intro a ha
    · rw [List.mem_singleton.mp ha]; exact .tail _ (.head _)
  · rw [List.mem_singleton.mp ha]; exact .tail _ (.tail _ (.head _))
  · rw [hs4.1, z4, z3]; exact z2
end
end
section
open PySem PySem.W PyProof.Rows PySem.Calls PySem.Spec
set_option maxHeartbeats 1000000
theorem bindL_lk {k : Str → Option NameKind} : ∀ (binds : List (Str × Value)) (m : Str → Option Value), (∀ x ∈ binds, k x.1 = some .local) → bindL k binds m = fun y => (binds.reverse.lookup y).or (m y)
  | [], m, _ => by funext y; simp [bindL]
  | (n, v) :: r, m, h => by
    rw [bindL, if_pos (h _ (.head _)), bindL_lk r _ (fun x hx => h x (.tail _ hx))]
    funext y
    rw [List.reverse_cons, List.lookup_append]
    cases hr : r.reverse.lookup y with
    | some u => simp
    | none =>
      by_cases e : y = n
      · subst e; simp [List.lookup]
      · have : (y == n) = false := by simpa using e
        simp [List.lookup, this, e]
section
variable {w : World} {A : Around} {E : Value → Shared → Prop} {h hb : Heap} {g : Array GenState} {d : Drawn} {tk : Nat} {os : OsState} {mg mb : Str → Option Value} {nw : List (Addr × Obj)}
/-- a def with one cell of its own, entered -/
theorem enterC {f : Addr} {o : Obj} {fd : FuncData} {body : List Stmt} {pos : List Value} {binds bindsR : List (Str × Value)} {R : Result → Shared → Prop} {cn : Str}
    (B : Bs w mg mb hb) (x : Ext hb h) (hnw : ∀ p ∈ nw, h.get? p.1 = some p.2 ∧ hb.get? p.1 = none) (hf : (KN w.params).lookup f = some o) (hd : o.data = .func fd) (hcd : codeIn (KN w.params) fd.code fd.qualname = true) (hbody : fd.body = .stmts body)
    (hbind : bindArgs fd ⟨pos, []⟩ = pure binds) (room : A.depth < recursionLimit) (hle : hb.objs.size ≤ h.objs.size)
    (hcl : cellsFrom (h.objs.size + 1) fd.scope.names [] = [(cn, h.objs.size + 1)])
    (hx : ∀ h₁ L tk, Fr hb L h₁ (Lk bindsR) → (∃ oc, News hb L h₁ ((L + 1, oc) :: nw) ∧ oc.data = .cell none) → L = h.objs.size → Ext h h₁ →
      wpAny (MM w) (A.deeper (callEnvC fd L f)) (execs body (callEnvC fd L f)) (fun fl s' => R (.ok (.ret (retOf fl))) s')
        (fun e s' => wpAny (MM w) (A.deeper (callEnvC fd L f)) (leaving (callEnvC fd L f) e) (fun _ s'' => R (.error e) s'') (fun e' s'' => R (.error e') s'') s') ⟨h₁, g, d, tk, os⟩)
    (hclo : fd.closure = []) (hloc : binds.all (fun x => fd.scope.names.lookup x.1 == some .local) = true)
    (hco : fd.scope.isCoroutine = false) (hgen : fd.scope.isGenerator = false) (hk : fd.scope.kind = .function) (hrev : binds.reverse = bindsR) :
    codeAny (MM w) A (.call (.ref f) ⟨pos, []⟩) R ⟨h, g, d, tk, os⟩ := by
  subst hrev
  have B' := B.ext x
  have hloc' : ∀ x ∈ binds, fd.scope.names.lookup x.1 = some .local := fun x hx => by simpa using List.all_eq_true.mp hloc x hx
  refine codeAny_call_cells (binds := binds) room (B'.X _ _ hf) hd B'.lim (codeRec_of B'.X hcd) hbody hbind hclo (fun x hx => .inl (hloc' x hx)) (fun s₁ IC => ?_) hco hgen hk
  refine holdG fun Pz kz => ?_
  obtain ⟨⟨⟨h₁, tk₁, rfl⟩, hns, hkp, hfr⟩, hcell, _, _⟩ := IC
  refine kz ?_
  clear kz Pz
  dsimp only at hns hkp hfr hcell
  obtain ⟨oc, ho, hoc⟩ := hcell cn (h.objs.size + 1) (by show (cellsFrom (h.objs.size + 1) fd.scope.names []).lookup cn = _; rw [hcl]; simp [List.lookup])
  have hbc : bindC (callEnvC fd h.objs.size f).kindOf binds (fun _ => none) cn = none := by
    have : ∀ (l : List (Str × Value)) (m : Str → Option Value), (∀ x ∈ l, fd.scope.names.lookup x.1 = some .local) → bindC (callEnvC fd h.objs.size f).kindOf l m = m := by
      intro l
      induction l with
      | nil => intro m _; rfl
      | cons p r ih => intro m hm; rw [bindC, if_pos (show (callEnvC fd h.objs.size f).kindOf p.1 = some .local from hm _ (.head _)), ih _ (fun x hx => hm x (.tail _ hx))]
    rw [this _ _ hloc']
  rw [hbc] at hoc
  have hnone : ∀ k, h.objs.size ≤ k → hb.get? k = none := fun k hk' => by
    refine gN fun o e => ?_
    exact absurd (Heap.lt_size (x _ _ e)) (Nat.not_lt.mpr hk')
  have F : Fr hb h.objs.size h₁ (Lk binds.reverse) := by
    refine ⟨?_, fun b o e => hkp _ _ (x _ _ e), hle⟩
    have hq : h₁.Ns h.objs.size (bindL (callEnvC fd h.objs.size f).kindOf binds fun _ => none) := hns
    rw [bindL_lk binds _ hloc'] at hq
    have e : (fun y => (binds.reverse.lookup y).or none) = Lk binds.reverse := by funext y; simp [Lk]
    rw [e] at hq
    exact hq
  refine wpAny_mono (hx h₁ h.objs.size _ F ⟨oc, fun p hp => ?_, hoc⟩ rfl hkp) (fun fl s' q => ?_) (fun _ _ q => q)
  · revert p hp
    refine fm_cons ?_ ?_
    · exact ⟨ho, Nat.succ_ne_self _, hnone _ (Nat.le_succ _)⟩
    intro p hp
    · exact ⟨hkp _ _ (hnw p hp).1, Nat.ne_of_lt (Heap.lt_size (hnw p hp).1), (hnw p hp).2⟩
  · cases fl <;> exact q
end
section
variable {prog : Program} {w : World} {A : Around} {E : Value → Shared → Prop} {h h₀ : Heap} {g : Array GenState} {d : Drawn} {tk : Nat} {os : OsState} {env : Env} {L : Addr} {m mg mb : Str → Option Value} {nw rest : List (Addr × Obj)}
/-- a cell stored -/
theorem st_cell {x : Str} {c : Addr} {oc : Obj} {v₀ : Option Value} {v : Value} {Q : Unit → Shared → Prop} (F : Fr h₀ L h m) (N : News h₀ L h nw) (hm : (c, oc) ∈ nw) (hd : oc.data = .cell v₀) (hr : ∀ p ∈ rest, p ∈ nw ∧ p.1 ≠ c)
    (hQ : ∀ h' oc', Fr h₀ L h' m → News h₀ L h' ((c, oc') :: rest) → oc'.data = .cell (some v) → Heap.SameBut c h h' → Q () ⟨h', g, d, tk, os⟩)
    (hk : env.scope.kind = .function := by rfl) (hl : env.kindOf x = some .cell := by rfl) (hc : env.cells.lookup x = some c := by rfl) : wpAny (model prog w) A (storeName env x v) Q E ⟨h, g, d, tk, os⟩ := by
  refine wpAny_storeName_cell (s := ⟨h, g, d, tk, os⟩) hk hl hc ⟨oc, (N _ hm).1, hd⟩ (fun h' hv hs => ?_)
  refine holdG fun Pz kz => ?_
  obtain ⟨oc', ho', hd'⟩ := hv
  obtain ⟨F', N'⟩ := led_set F N hm hs ho' hr
  refine kz ?_
  clear kz Pz
  exact hQ h' oc' F' N' hd' hs
theorem del_sub {o i : Expr} {pos' pos : Pos} {Q : Flow → Shared → Prop}
    (hx : wpAny (model prog w) A (eval o env) (fun ov s₁ => wpAny (model prog w) A (eval i env) (fun iv s₂ => wpAny (model prog w) A (delItem ov iv) (fun _ => Q .next) E s₂) E s₁) E ⟨h, g, d, tk, os⟩) :
    wpAny (model prog w) A (exec (.Delete [.Subscript o i pos'] pos) env) Q E ⟨h, g, d, tk, os⟩ := by
  refine wpAny_Delete (wpAny_deleteEach_cons ?_)
  exact wpAny_delete_Subscript (wpAny_mono hx (fun ov s₁ h₁ => wpAny_mono h₁ (fun iv s₂ h₂ => wpAny_mono h₂ (fun _ s₃ h₃ => wpAny_deleteEach_nil h₃) fun _ _ x => x) fun _ _ x => x) fun _ _ x => x)
end
end
section
open PySem PySem.W PyProof.Rows PySem.Calls PySem.Spec
set_option maxHeartbeats 1000000
noncomputable abbrev lamPos (P : Params) : Pos := (lamKey P).2.2.2
noncomputable def TabOk (P : Params) (hb h : Heap) : Prop := ∃ ps, h.get? 226 = some (tabObj ps) ∧ TriplesOk ps.toList ∧ (codeAmong (lamPos P) ps.toList = none ∨ ∃ c', codeAmong (lamPos P) ps.toList = some (.ref c') ∧ hb.CodeRec (.ref c') lamQ)
theorem hd_230 (P : Params) : codeHdIn (KN P) 230 226 = true := by kernel_rfl
theorem ga_mod (P : Params) : (hd.zo_5 P).cls = .type "module" := by kernel_rfl
theorem ga_dict (P : Params) : (hd.zo_5 P).dict = some builtinsNs := by kernel_rfl
theorem ga_data (P : Params) : (hd.zo_5 P).data = .plain := by kernel_rfl
theorem Bs.bat {w : World} {mg mb : Str → Option Value} {h : Heap} (B : Bs w mg mb h) : h.BuiltinsAt mg 226 := ⟨4, hd.zo_5 w.params, B.bm, by decide, by decide, by decide, B.X _ _ (bi_at _), ga_mod _, ga_dict _, ga_data _⟩
section
variable {w : World} {A : Around} {E : Value → Shared → Prop} {h hb : Heap} {g : Array GenState} {d : Drawn} {tk : Nat} {os : OsState} {mg mb : Str → Option Value} {nw rest : List (Addr × Obj)} {L : Addr} {m : Str → Option Value}
noncomputable abbrev envLaid (P : Params) (L : Addr) : Env := callEnvC (fLaid P) L 231
theorem env_code (P : Params) (L : Addr) : (envLaid P L).code = .ref 230 := by kernel_rfl
theorem env_glob (P : Params) (L : Addr) : (envLaid P L).globals = mainGlobals := by kernel_rfl
theorem env_qual (P : Params) (L : Addr) : (envLaid P L).qual ++ "<lambda>" = lamQ := by kernel_rfl
theorem env_clos (P : Params) (L : Addr) : closureFor (lamKey P).2.2.1 (envLaid P L) = pure [(⟨⟨[114, 111, 119]⟩⟩, L + 1)] := by kernel_rfl
theorem lam_dflt (P : Params) (L : Addr) : defaultsOf (lamKey P).1 (envLaid P L) = ([], []) := by kernel_rfl
theorem mk_lam {ps : Array Value} {Q : Value → Shared → Prop} (F : Fr hb L h m) (B : Bs w mg mb hb) (N : News hb L h nw) (hm : (226, tabObj ps) ∈ nw) (hr : ∀ p ∈ rest, p ∈ nw ∧ p.1 ≠ 226)
    (ht : TriplesOk ps.toList) (hc : codeAmong (lamPos w.params) ps.toList = none ∨ ∃ c', codeAmong (lamPos w.params) ps.toList = some (.ref c') ∧ hb.CodeRec (.ref c') lamQ)
    (hQ : ∀ f c' ctv ps' h' tk', Fr hb L h' m → News hb L h' ((f, lamObj w.params (L + 1) ((mg "__name__").getD .none) c' ctv) :: (226, tabObj ps') :: rest) → (∀ p ∈ nw, @LT.lt Nat _ p.1 f) → h'.CodeRec (.ref c') lamQ → TriplesOk ps'.toList → codeAmong (lamPos w.params) ps'.toList = some (.ref c') →
      (codeAmong (lamPos w.params) ps.toList = some (.ref c') ∨ (h.get? c' = none ∧ c' ≠ f)) → Mv [226] [] h h' → h.get? f = none → Q (.ref f) ⟨h', g, d, tk', os⟩) :
    wpAny (MM w) A (eval (.Lambda (lamKey w.params).1 (lamKey w.params).2.1 (lamKey w.params).2.2.1 (lamPos w.params)) (envLaid w.params L)) Q E ⟨h, g, d, tk, os⟩ := by
  have Bh := B.ext F.keep
  have CH : CodeHd h 230 226 := codeHd_of_K Bh.X (hd_230 _)
  have nlt : ∀ (h' : Heap), h.objs.size ≤ h'.objs.size → ∀ p ∈ nw, @LT.lt Nat _ p.1 h'.objs.size := fun h' hle p hp => Nat.lt_of_lt_of_le (nw_lt N p hp) hle
  have hnone : ∀ k, h.objs.size ≤ k → h.get? k = none := fun k hk => by
    refine gN fun o e => ?_
    exact absurd (Heap.lt_size e) (Nat.not_lt.mpr hk)
  refine kla_eval (lam_dflt _ _) ?_
  rw [env_qual]
  rcases hc with hnf | ⟨c', hf, hrec⟩
  · refine kla_makeFunction (s := ⟨h, g, d, tk, os⟩) (env_clos _ _) (env_glob _ _) Bh.gl (env_code _ _) CH (N _ hm).1 ht hnf (by decide) Bh.bat (fun c' ctv h' tk' hx hge hlt hrec hP => ?_)
    dsimp only at hx hge hP ⊢
    have hle : h.objs.size ≤ h'.objs.size := Nat.le_of_lt (Nat.lt_of_le_of_lt hge hlt)
    have F1 : Fr hb L h' m := fr_but F N hm hx
    have N1 : News hb L h' ((226, tabObj _) :: rest) := nw_but N hm hx hP hr
    have N2 := N1.push F1 (kla_obj "<lambda>" lamQ (lamKey w.params).1 (lamKey w.params).2.1 (lamKey w.params).2.2.1 [(⟨⟨[114, 111, 119]⟩⟩, L + 1)] ((mg "__name__").getD .none) c' ctv)
    have hge' : @LT.lt Nat _ c' h'.objs.size := hlt
    refine hQ h'.objs.size c' ctv _ _ tk' (F1.push _) N2 (nlt h' hle) (hrec.push _) ?_ ?_ (.inr ⟨hnone _ hge, Nat.ne_of_lt hge'⟩) (fun b o hb' e => ?_) (hnone _ hle)
    · rw [Array.toList_append]; exact TriplesOk_snoc _ _ _ _ ht
    · rw [Array.toList_append]; exact codeAmong_snoc _ ht hnf
    · have q : (h'.push (kla_obj "<lambda>" lamQ (lamKey w.params).1 (lamKey w.params).2.1 (lamKey w.params).2.2.1 [(⟨⟨[114, 111, 119]⟩⟩, L + 1)] ((mg "__name__").getD .none) c' ctv)).get? b = some o := Heap.get?_push_of_some _ (hx b o (by simpa using hb') e)
      exact ⟨fun _ => q, fun _ => ⟨o.slots, q⟩⟩
  · refine kla_makeFunctionHit (s := ⟨h, g, d, tk, os⟩) (env_clos _ _) (env_glob _ _) Bh.gl (env_code _ _) CH (N _ hm).1 ht hf Bh.bat (fun ctv h' tk' hx hle => ?_)
    dsimp only at hx hle ⊢
    have N1 : News hb L h' nw := nw_ext N hx
    have F1 := fr_ext F hx
    have N2 := N1.push F1 (kla_obj "<lambda>" lamQ (lamKey w.params).1 (lamKey w.params).2.1 (lamKey w.params).2.2.1 [(⟨⟨[114, 111, 119]⟩⟩, L + 1)] ((mg "__name__").getD .none) c' ctv)
    refine hQ h'.objs.size c' ctv ps _ tk' (F1.push _) (news_sub N2 (fun p hp => ?_)) (nlt h' hle) ((hrec.keeps F1.keep).push _) ht hf (.inl hf) (fun b o _ e => ?_) (hnone _ hle)
    · revert p hp
      refine fm_cons ?_ ?_
      · exact .head _
      intro p hp
      · revert p hp
        refine fm_cons ?_ ?_
        · exact .tail _ hm
        intro p hp
        · exact .tail _ (hr p hp).1
    · have q : (h'.push (kla_obj "<lambda>" lamQ (lamKey w.params).1 (lamKey w.params).2.1 (lamKey w.params).2.2.1 [(⟨⟨[114, 111, 119]⟩⟩, L + 1)] ((mg "__name__").getD .none) c' ctv)).get? b = some o := Heap.get?_push_of_some _ (hx b o e)
      exact ⟨fun _ => q, fun _ => ⟨o.slots, q⟩⟩
end
end
section
open PySem PySem.W PyProof.Rows PySem.Calls PySem.Spec
set_option maxHeartbeats 1000000
theorem Mv.new2 {X Y S S' : List Addr} {h h' h'' : Heap} (x : Mv X S h h') (y : Mv Y S' h' h'') (hY : ∀ a ∈ Y, a ∈ X ∨ h.get? a = none) (hS : ∀ a ∈ S', a ∈ S ∨ h.get? a = none) : Mv X S h h'' := fun b o hb e => by
  have hy : b ∉ Y := fun q => (hY b q).elim hb fun q => by (first | exact gX e q | exact gX q e | (rw [q] at e; cases e))
  have hs' : b ∈ S' → b ∈ S := fun q => (hS b q).elim id fun q => by (first | exact gX e q | exact gX q e | (rw [q] at e; cases e))
  refine ⟨fun hs => (y b o hy ((x b o hb e).1 hs)).1 (fun q => hs (hs' q)), fun hs => ?_⟩
  obtain ⟨sl, e1⟩ := (x b o hb e).2 hs
  by_cases q : b ∈ S'
  · obtain ⟨sl2, e2⟩ := (y b _ hy e1).2 q
    exact ⟨sl2, e2⟩
  · exact ⟨sl, (y b _ hy e1).1 q⟩
theorem mv_hide {X S : List Addr} {h h' : Heap} (K : Ext (hideAll h (X ++ S)) h') (hS : ∀ b ∈ S, ∀ o, h.get? b = some o → ∃ sl, h'.get? b = some { o with slots := sl }) : Mv X S h h' := fun b o hb e =>
  ⟨fun hs => K b o (hideAll_get _ e (by simp [hb, hs])), fun hs => hS b hs o e⟩
theorem mv_hide0 {X S : List Addr} {h h' : Heap} (K : Ext (hideAll h (X ++ S)) h') (hS : ∀ b ∈ S, ∀ o, h.get? b = some o → h'.get? b = some o) : Mv X [] h h' := fun b o hb e => by
  have q : h'.get? b = some o := by
    by_cases hs : b ∈ S
    · exact hS b hs o e
    · exact K b o (hideAll_get _ e (by simp [hb, hs]))
  exact ⟨fun _ => q, fun _ => ⟨o.slots, q⟩⟩
/-- what stands at some places -/
noncomputable def objsAt (h : Heap) (xs : List Addr) : List (Addr × Obj) := xs.filterMap fun a => (h.get? a).map fun o => (a, o)
theorem objsAt_mem {h : Heap} {xs : List Addr} {p : Addr × Obj} : p ∈ objsAt h xs ↔ p.1 ∈ xs ∧ h.get? p.1 = some p.2 := by
  unfold objsAt
  rw [List.mem_filterMap]
  constructor
  · rintro ⟨a, ha, e⟩
    obtain ⟨o, ho, rfl⟩ := Option.map_eq_some_iff.mp e
    exact ⟨ha, ho⟩
  · rintro ⟨h1, h2⟩
    exact ⟨p.1, h1, by rw [h2]; rfl⟩
theorem nw_of_hide {X : List Addr} {h : Heap} {nw : List (Addr × Obj)} (hm : ∀ p ∈ nw, p.1 ∈ X ∧ h.get? p.1 = some p.2) : ∀ p ∈ nw, h.get? p.1 = some p.2 ∧ (hideAll h X).get? p.1 = none := fun p hp => ⟨(hm p hp).2, hideAll_none _ (hm p hp).1⟩
/- the blocks' rows in the ledger -/
inductive WsL (P : Params) (nw : List (Addr × Obj)) (a : Addr) (x : Wt) : Prop
  | mk (D : _) (nm : _) (ct : _) (t1 : _) (t2 : _) (t3 : _) (t4 : _) (t5 : _) (t6 : _) (t7 : _) (t8 : _) (raw : _) (vs : _) (_ : (a, instO 141 D) ∈ nw) (_ : (D, (⟨.type "dict", none, .dict (wsEs P t1 t2 t3 t4 t5 t6 t7 raw x nm).toArray 5, #[]⟩ : Obj)) ∈ nw) (_ : (nm, tupO [.ref ct, .int x.b t8]) ∈ nw) (_ : (ct, tupO vs) ∈ nw) (_ : IntsAre vs x.cs) : WsL P nw a x
theorem WsL.at {P : Params} {hb h : Heap} {L a : Addr} {nw : List (Addr × Obj)} {x : Wt} (W : WsL P nw a x) (N : News hb L h nw) : WsAt P h a x := by
  refine holdG fun Pz kz => ?_
  obtain ⟨D, nm, ct, t1, t2, t3, t4, t5, t6, t7, t8, raw, vs, m1, m2, m3, m4, v⟩ := W
  refine kz ?_
  clear kz Pz
  exact ⟨D, nm, ct, t1, t2, t3, t4, t5, t6, t7, t8, raw, vs, (N _ m1).1, (N _ m2).1, (N _ m3).1, (N _ m4).1, v⟩
theorem WsL.mono {P : Params} {a : Addr} {nw nw' : List (Addr × Obj)} {x : Wt} (W : WsL P nw a x) (hs : ∀ p ∈ nw, p ∈ nw') : WsL P nw' a x := by
  refine holdG fun Pz kz => ?_
  obtain ⟨D, nm, ct, t1, t2, t3, t4, t5, t6, t7, t8, raw, vs, m1, m2, m3, m4, v⟩ := W
  refine kz ?_
  clear kz Pz
  exact ⟨D, nm, ct, t1, t2, t3, t4, t5, t6, t7, t8, raw, vs, hs _ m1, hs _ m2, hs _ m3, hs _ m4, v⟩
theorem WsFrom.led {P : Params} {hb h1 h2 : Heap} {L a : Addr} {m : Str → Option Value} {x : Wt} (W : WsFrom P h1 h2 a x) (F : Fr hb L h1 m) : ∃ ws, News hb L h2 ws ∧ WsL P ws a x ∧ (∀ p ∈ ws, h1.get? p.1 = none) := by
  refine holdG fun Pz kz => ?_
  obtain ⟨D, nm, ct, t1, t2, t3, t4, t5, t6, t7, t8, raw, vs, W, n1, n2, n3, n4⟩ := W
  refine kz ?_
  clear kz Pz
  have hL : ∀ b, h1.get? b = none → b ≠ L := fun b n e => by
    refine holdG fun Pz kz => ?_
    obtain ⟨o, _, _, q, _⟩ := F.ns
    refine kz ?_
    clear kz Pz
    (first | exact gX n ((congrArg _ e).trans q) | exact gX q ((congrArg _ e).symm.trans n) | (rw [e, q] at n; cases n))
  have hB : ∀ b, h1.get? b = none → hb.get? b = none := fun b n => by
    refine gN fun o e => ?_
    (first | exact gX n (F.keep b o e) | exact gX (F.keep b o e) n | (rw [F.keep b o e] at n; cases n))
  refine ⟨[(a, instO 141 D), (D, _), (nm, tupO [.ref ct, .int x.b t8]), (ct, tupO vs)], fun p hp => ?_, ⟨D, nm, ct, t1, t2, t3, t4, t5, t6, t7, t8, raw, vs, .head _, .tail _ (.head _), .tail _ (.tail _ (.head _)), .tail _ (.tail _ (.tail _ (.head _))), W.vs⟩, fun p hp => ?_⟩
  · revert p hp
    refine fm_cons ?_ ?_
    · exact ⟨W.i, hL _ n1, hB _ n1⟩
    refine fm_cons ?_ ?_
    · exact ⟨W.d, hL _ n2, hB _ n2⟩
    refine fm_cons ?_ ?_
    · exact ⟨W.nm, hL _ n3, hB _ n3⟩
    intro p hp
    · rw [List.mem_singleton.mp hp]; exact ⟨W.ct, hL _ n4, hB _ n4⟩
  · revert p hp
    refine fm_cons ?_ ?_
    · exact n1
    refine fm_cons ?_ ?_
    · exact n2
    refine fm_cons ?_ ?_
    · exact n3
    intro p hp
    · rw [List.mem_singleton.mp hp]; exact n4
theorem WsL.from {P : Params} {h0 h : Heap} {a : Addr} {nw : List (Addr × Obj)} {x : Wt} (W : WsL P nw a x) (N : ∀ p ∈ nw, h.get? p.1 = some p.2 ∧ h0.get? p.1 = none) : WsFrom P h0 h a x := by
  refine holdG fun Pz kz => ?_
  obtain ⟨D, nm, ct, t1, t2, t3, t4, t5, t6, t7, t8, raw, vs, m1, m2, m3, m4, v⟩ := W
  refine kz ?_
  clear kz Pz
  exact ⟨D, nm, ct, t1, t2, t3, t4, t5, t6, t7, t8, raw, vs, ⟨(N _ m1).1, (N _ m2).1, (N _ m3).1, (N _ m4).1, v⟩, (N _ m1).2, (N _ m2).2, (N _ m3).2, (N _ m4).2⟩
/-- the blocks -/
structure Blk (P : Params) (hb : Heap) (vs : List Value) (xs : List Wt) : Prop where
  len : vs.length = xs.length
  row : ∀ (i : Nat) (x : Wt), xs[i]? = some x → ∃ a : Addr, vs[i]? = some (Value.ref a) ∧ WsAt P hb a x ∧ Wok x
noncomputable def keyAt (xs : List Wt) (r : Wt) (i : Nat) : Bool := match xs[i]? with | some x => !lessB x r | none => true
end
section
open PySem PySem.W PyProof.Rows PySem.Calls PySem.Spec
set_option maxHeartbeats 2000000
section
variable {w : World} {A : Around} {E : Value → Shared → Prop} {h : Heap} {g : Array GenState} {d : Drawn} {tk : Nat} {os : OsState} {mg mb : Str → Option Value}
theorem laid_at (P : Params) : (KN P).lookup 231 = some (hd.zo_174 P) := by kernel_rfl
inductive TabL (P : Params) (ps0 : Array Value) (h0 h : Heap) : Prop
  | mk (ps : _) (c' : _) (_ : h.get? 226 = some (tabObj ps)) (_ : TriplesOk ps.toList) (_ : codeAmong (lamPos P) ps.toList = some (.ref c')) (_ : h.CodeRec (.ref c') lamQ) (_ : (codeAmong (lamPos P) ps0.toList = some (.ref c') ∨ h0.get? c' = none)) : TabL P ps0 h0 h
theorem env_kind (P : Params) (L : Addr) : (envLaid P L).scope.kind ≠ .module := by
  rw [show (envLaid P L).scope.kind = .function by kernel_rfl]; decide
theorem laid_ok {l : Addr} {vs : List Value} {n0 : Nat} {xs : List Wt} {num : Value} {line : Str} {tl : Tok} {dd : Nat} {outer : List Env} {ps ps2 : Array Value} {Q : Value → Shared → Prop}
    (B : Bs w mg mb (hideAll h ([226, 147, l] ++ frs outer))) (R : Rm A 16) (hfr : A.frames = some outer) (FF : h.FunFrames (hideAll h ([226, 147, l] ++ frs outer)) outer)
    (hl : h.get? l = some (listO vs n0)) (hlf : l ∉ frs outer) (BK : Blk w.params (hideAll h ([226, 147, l] ++ frs outer)) vs xs) (hn : vs.length ≤ 10) (hs : line.cps.size < 50)
    (hP : h.get? 226 = some (tabObj ps)) (hT1 : TriplesOk ps.toList) (hT2 : codeAmong (lamPos w.params) ps.toList = none ∨ ∃ c', codeAmong (lamPos w.params) ps.toList = some (.ref c') ∧ (hideAll h ([226, 147, l] ++ frs outer)).CodeRec (.ref c') lamQ) (C : h.IsCode 151 147 ps2) (hT : h.get? 147 = some (tabObj ps2)) (G : AllBare g)
    (hdl : dd ≤ xs.length) (hk1 : ∀ i < dd, keyAt xs (wtOf line) i = false) (hk2 : ∀ i, dd ≤ i → i < xs.length → keyAt xs (wtOf line) i = true) (kw : Wok (wtOf line)) (hnum : handedIn num = true)
    (hok : (∀ x, xs[dd]? = some x → eqW x (wtOf line) = true) → ∀ a n' h' g' t tk' ps2', Mv [226, 147, l] [] h h' → h'.get? l = some (listO (vs.take dd ++ [.ref a]) n') → WsFrom w.params h h' a (wtOf line) → TabL w.params ps h h' → h'.IsCode 151 147 ps2' → h'.get? 147 = some (tabObj ps2') → AllBare g' → Q (.int dd t) ⟨h', g', d, tk', os⟩)
    (hw : ∀ x, xs[dd]? = some x → witN x (wtOf line) < 10)
    (hbad : ∀ x, xs[dd]? = some x → eqW x (wtOf line) = false → ∀ e D T' fs h' g' tk' t1 t2 t3 t4 ps2', Mv [226, 147] (frs outer) h h' → ExcR h' e T' (.ref 76) (some D) #[] .none → h'.get? D = some (dictOf (nagEs w.params t1 t2 t3 num (.str (wordsOf (witL x (wtOf line) (witN x (wtOf line)))) t4) (.str line tl)) 3) →
      h.get? e = none → h.get? D = none → h.get? T' = none → h'.get? e = some ⟨.ref 76, some D, .fields fs, #[]⟩ → (∀ qs c', h'.get? 226 = some (tabObj qs) → codeAmong (lamPos w.params) qs.toList = some (.ref c') → c' ≠ e ∧ c' ≠ T') → TabL w.params ps h h' → h'.IsCode 151 147 ps2' → h'.get? 147 = some (tabObj ps2') → AllBare g' → E (.ref e) ⟨h', g', d, tk', os⟩) :
    wpAny (MM w) A (call (.ref 231) [.ref l, num, .str line tl]) Q E ⟨h, g, d, tk, os⟩ := by
  refine holdG fun Pz kz => ?_
  obtain ⟨oc5, cvs, file, tf, flags, tg, inF, text, tt, op, c1, c2, c3, c4, c5, c6, c7, c8, c9, c10, c11⟩ := id C
  refine kz ?_
  clear kz Pz
  have eop : op = tabObj ps2 := Option.some.inj (c8.symm.trans hT)
  have n226 : (226 : Addr) ∉ frs outer := ff_nf FF hP rfl
  have n147 : (147 : Addr) ∉ frs outer := ff_nf FF c8 c9
  have l226 : l ≠ 226 := fun e => by (first | exact gX hl ((congrArg _ e).trans hP) | exact gX hP ((congrArg _ e).symm.trans hl) | (rw [e, hP] at hl; cases hl))
  have l147 : l ≠ 147 := fun e => by rw [e, c8] at hl; cases hl; cases c9
  refine wpAny_call ?_
  refine enterC (fd := fLaid w.params) (body := _) (hb := hideAll h ([226, 147, l] ++ frs outer)) (nw := (226, tabObj ps) :: (147, op) :: (l, listO vs n0) :: objsAt h (frs outer)) (binds := [(⟨⟨[98, 108, 111, 99, 107, 115]⟩⟩, .ref l), (⟨⟨[110, 117, 109, 98, 101, 114]⟩⟩, num), (⟨⟨[108, 105, 110, 101]⟩⟩, .str line tl)]) (cn := ⟨⟨[114, 111, 119]⟩⟩) B (fun b o e => of_hideAll _ e) ?_ (laid_at _) rfl (by kernel_rfl) rfl (by kernel_rfl) R.room (Nat.le_of_eq (hideAll_size _ _)) (by kernel_rfl) ?_ rfl (by kernel_rfl) rfl rfl rfl rfl
  · refine nw_of_hide fun p hp => ?_
    revert p hp
    refine fm_cons ?_ ?_
    · exact ⟨.head _, hP⟩
    refine fm_cons ?_ ?_
    · exact ⟨.tail _ (.head _), c8⟩
    refine fm_cons ?_ ?_
    · exact ⟨.tail _ (.tail _ (.head _)), hl⟩
    intro p hp
    · have := objsAt_mem.mp hp
      exact ⟨List.mem_append_right _ this.1, this.2⟩
  generalize hbe : hideAll h ([226, 147, l] ++ frs outer) = hb at *
  generalize hfo : objsAt h (frs outer) = fo at *
  rintro h₁ L tk F ⟨oc, N, hoc⟩ hL X1
  simp only [List.reverse_cons, List.reverse_nil, List.nil_append, List.cons_append] at F
  have R1 : Rm (A.deeper (callEnvC (fLaid w.params) L 231)) 15 := R.deeper
  have hh := R1.hd
  repeat kbo_bools
  show wpAny _ _ (call (.ref 141) [.str line tl]) _ _ _
  refine new_ok (B.ext F.keep) (R1.le (by decide)) (Nat.lt_trans hs (by decide)) (fun r h2 tk2 X2 W2 hn2 => ?_)
  refine holdG fun Pz kz => ?_
  obtain ⟨ws, Nw, Wl, hws⟩ := W2.led F
  refine kz ?_
  clear kz Pz
  have F2 := fr_ext F X2
  have N2 := nw_ext N X2
  have c226 : L + 1 ≠ 226 := fun e => by have := Heap.lt_size hP; rw [hL] at e; exact Nat.lt_irrefl _ (Nat.lt_of_lt_of_le (e ▸ this) (Nat.le_succ _))
  have wsne : ∀ p ∈ ws, ∀ q ∈ (L + 1, oc) :: (226, tabObj ps) :: (147, op) :: (l, listO vs n0) :: fo, p.1 ≠ q.1 := fun p hp q hq e => gX (hws p hp) ((congrArg _ e).trans (N q hq).1)
  have Nall := news_app N2 Nw
  refine st_cell (rest := ws ++ (226, tabObj ps) :: (147, op) :: (l, listO vs n0) :: fo) F2 Nall (List.mem_append_left _ (.head _)) hoc (fun p hp => ?_) (fun h3 oc3 F3 N3 hoc3 S3 => ?_)
  · rcases List.mem_append.mp hp with hp | hp
    · exact ⟨List.mem_append_right _ hp, wsne p hp _ (.head _)⟩
    · refine ⟨List.mem_append_left _ (.tail _ hp), fun e => ?_⟩
      have hlt : ∀ q ∈ (226, tabObj ps) :: (147, op) :: (l, listO vs n0) :: fo, @LT.lt Nat _ q.1 h.objs.size := by
        refine fm_cons ?_ ?_
        · exact Heap.lt_size hP
        refine fm_cons ?_ ?_
        · exact Heap.lt_size c8
        refine fm_cons ?_ ?_
        · exact Heap.lt_size hl
        intro q hq
        · rw [← hfo] at hq; exact Heap.lt_size (objsAt_mem.mp hq).2
      have := hlt p hp
      rw [e, hL] at this
      exact Nat.lt_irrefl _ (Nat.lt_trans (Nat.lt_succ_self _) this)
  clear F F2 N2 Nall Nw N
  refine sq_next (seq (wpAny_Assign_Name (wpAny_Call_Name_kw ?_)))
  repeat kbo_bools
  refine callWith_def_kw (o := hd.zo_126 w.params) (fd := fBis w.params) rfl (evalArgs_kw2 (by rfl) ?_)
  repeat kbo_bools
  refine kwAll_cons ?_
  have hfol : ∀ p ∈ fo, p.1 ∈ frs outer := fun p hp => by rw [← hfo] at hp; exact (objsAt_mem.mp hp).1
  refine mk_lam (rest := (L + 1, oc3) :: (147, op) :: (l, listO vs n0) :: (ws ++ fo)) F3 B N3 (.tail _ (List.mem_append_right _ (.head _))) (fun p hp => ?_) hT1 hT2 (fun f c' ctv ps' h4 tk4 F4 N4 hlt4 hrec hT1' hT2' hpl M4 hnf => ?_)
  · revert p hp
    refine fm_cons ?_ ?_
    · exact ⟨.head _, c226⟩
    refine fm_cons ?_ ?_
    · exact ⟨.tail _ (List.mem_append_right _ (.tail _ (.head _))), (by decide : (147 : Nat) ≠ 226)⟩
    refine fm_cons ?_ ?_
    · exact ⟨.tail _ (List.mem_append_right _ (.tail _ (.tail _ (.head _)))), l226⟩
    refine fm_app ?_ ?_
    · intro p hp
      exact ⟨.tail _ (List.mem_append_left _ hp), wsne p hp _ (.tail _ (.head _))⟩
    intro p hp
    · exact ⟨.tail _ (List.mem_append_right _ (.tail _ (.tail _ (.tail _ hp)))), fun e => n226 (e ▸ hfol p hp)⟩
  refine kwAll_nil ⟨(B.X.keeps F4.keep) _ _ (bis_at _), ?_⟩
  show wpAny _ _ (call (.ref 161) [.ref l, .bool true] [(⟨⟨[107, 101, 121]⟩⟩, .ref f)]) _ _ _
  have Wl4 : WsL w.params ((f, lamObj w.params (L + 1) ((mg "__name__").getD .none) c' ctv) :: (226, tabObj ps') :: (L + 1, oc3) :: (147, op) :: (l, listO vs n0) :: (ws ++ fo)) r (wtOf line) := Wl.mono fun p hp => .tail _ (.tail _ (.tail _ (.tail _ (.tail _ (List.mem_append_left _ hp)))))
  refine bisect_ok (k := keyAt xs (wtOf line)) (dd := dd) (B.ext F4.keep) (R1.le (by decide)) (isl N4 (.tail _ (.tail _ (.tail _ (.tail _ (.head _))))) (listIs_O _ _)) (by (first | lia | omega)) (N4 _ (.head _)).1 rfl (by rw [BK.len]; exact hdl) hk1 (fun i hi1 hi2 => hk2 i hi1 (by rw [← BK.len]; exact hi2)) (fun i v h' A' tk' E' Q' hv X' R' k' => ?_) (fun h5 t5 tk5 X5 => ?_)
  · have hi : i < xs.length := by rw [← BK.len]; exact (List.getElem?_eq_some_iff.mp hv).1
    refine holdG fun Pz kz => ?_
    obtain ⟨a, ha, W, ko⟩ := BK.row i _ (List.getElem?_eq_getElem hi)
    refine kz ?_
    clear kz Pz
    rw [hv] at ha
    cases ha
    have hk : keyAt xs (wtOf line) i = !lessB xs[i] (wtOf line) := by unfold keyAt; rw [List.getElem?_eq_getElem hi]
    refine key_ok (B.ext (Ext.trans F4.keep X')) (R'.le (by decide)) (X' _ _ (N4 _ (.head _)).1) (hrec.keeps X') (X' _ _ (N4 _ (.tail _ (.tail _ (.head _)))).1) hoc3 (W.ext (Ext.trans F4.keep X')) ((Wl4.at N4).ext X') ko kw (fun h'' tk X'' => ?_)
    rw [← hk]
    exact k' _ _ X''
  have F5 := fr_ext F4 X5
  obtain ⟨cl, Ncl, hcl, hclm, hcrec⟩ : ∃ cl, News hb L h4 cl ∧ (∀ p ∈ cl, h3.get? p.1 = none) ∧ (codeAmong (lamPos w.params) ps.toList = some (.ref c') ∨ ∃ oo, (c', oo) ∈ cl) ∧ ∀ h', Ext hb h' → (∀ p ∈ cl, h'.get? p.1 = some p.2) → h'.CodeRec (.ref c') lamQ := by
    rcases hpl with hr' | ⟨hn', hcf⟩
    · have hbr : hb.CodeRec (.ref c') lamQ := by
        rcases hT2 with q | ⟨c2, q, r⟩
        · (first | exact gX hr' q | exact gX q hr' | (rw [q] at hr'; cases hr'))
        · rw [q] at hr'; cases hr'; exact r
      exact ⟨[], News.nil, fun _ q => (nomatch q), .inl hr', fun h' e _ => hbr.keeps e⟩
    · refine holdG fun Pz kz => ?_
      obtain ⟨cc, oo, vv, tt', ee, gg, dd', rr⟩ := hrec
      refine kz ?_
      clear kz Pz
      cases ee
      have hcL : c' ≠ L := fun q => by obtain ⟨oL, _, _, qL, _⟩ := F3.ns; exact gX hn' ((congrArg _ q).trans qL)
      have hcb : hb.get? c' = none := gN fun o q => gX hn' (F3.keep _ _ q)
      refine ⟨[(c', oo)], fun p hp => ?_, fun p hp => ?_, .inr ⟨oo, .head _⟩, fun h' _ k => ⟨c', oo, vv, tt', rfl, k _ (.head _), dd', rr⟩⟩
      · rw [List.mem_singleton.mp hp]; exact ⟨gg, hcL, hcb⟩
      · rw [List.mem_singleton.mp hp]; exact hn'
  have N5 : News hb L h5 ((226, tabObj ps') :: (L + 1, oc3) :: (147, op) :: (l, listO vs n0) :: (ws ++ (cl ++ fo))) := fun p hp => by
    have key : p ∈ (226, tabObj ps') :: (L + 1, oc3) :: (147, op) :: (l, listO vs n0) :: (ws ++ fo) ∨ p ∈ cl := by
      revert p hp
      refine fm_cons ?_ ?_
      · exact .inl (.head _)
      refine fm_cons ?_ ?_
      · exact .inl (.tail _ (.head _))
      refine fm_cons ?_ ?_
      · exact .inl (.tail _ (.tail _ (.head _)))
      refine fm_cons ?_ ?_
      · exact .inl (.tail _ (.tail _ (.tail _ (.head _))))
      refine fm_app ?_ ?_
      · intro p hp
        exact .inl (.tail _ (.tail _ (.tail _ (.tail _ (List.mem_append_left _ hp)))))
      refine fm_app ?_ ?_
      · intro p hp
        exact .inr hp
      intro p hp
      · exact .inl (.tail _ (.tail _ (.tail _ (.tail _ (List.mem_append_right _ hp)))))
    rcases key with hp | hp
    · exact nw_ext N4 X5 p (.tail _ hp)
    · exact nw_ext Ncl X5 p hp
  have Wl5 : WsL w.params ((226, tabObj ps') :: (L + 1, oc3) :: (147, op) :: (l, listO vs n0) :: (ws ++ (cl ++ fo))) r (wtOf line) := Wl.mono fun p hp => .tail _ (.tail _ (.tail _ (.tail _ (List.mem_append_left _ hp))))
  clear F4 N4 Ncl
  repeat ((fail_if_success (with_reducible show wpAny _ _ (exec (Stmt.If _ _ _ _) _) _ _ _)); kbo_bools)
  rename_i h6 tk6 F6 N6
  have h151 : hb.get? 151 = some oc5 := by
    rw [← hbe]
    refine hideAll_get _ c1 (fun q => ?_)
    rcases List.mem_append.mp q with q | q
    · rcases List.mem_cons.mp q with q | q
      · exact absurd q (by decide)
      rcases List.mem_cons.mp q with q | q
      · exact absurd q (by decide)
      · rw [List.mem_singleton.mp q, hl] at c1; cases c1; cases c2
    · exact ff_nf FF c1 c2 q
  have hb147 : hb.get? 147 = none := (N6 _ (.tail _ (.tail _ (.head _)))).2.2
  have hb226 : hb.get? 226 = none := (N6 _ (.head _)).2.2
  have wold : ∀ p ∈ ws, h.get? p.1 = none := fun p hp => gN fun o e => gX (hws p hp) (X1 _ _ e)
  have cold : h.get? (L + 1) = none := gN fun o e => absurd (hL ▸ Heap.lt_size e) (Nat.not_lt.mpr (Nat.le_succ _))
  have clold : ∀ p ∈ cl, h.get? p.1 = none := fun p hp => gN fun o e => by
      have e3 := hcl p hp
      by_cases q : p.1 ∈ [226, 147, l] ++ frs outer
      · have : ∃ o', (p.1, o') ∈ (L + 1, oc3) :: (ws ++ (226, tabObj ps) :: (147, op) :: (l, listO vs n0) :: fo) := by
          rcases List.mem_append.mp q with q | q
          · rcases List.mem_cons.mp q with q | q
            · exact ⟨tabObj ps, by rw [q]; exact .tail _ (List.mem_append_right _ (.head _))⟩
            rcases List.mem_cons.mp q with q | q
            · exact ⟨op, by rw [q]; exact .tail _ (List.mem_append_right _ (.tail _ (.head _)))⟩
            · exact ⟨listO vs n0, by rw [List.mem_singleton.mp q]; exact .tail _ (List.mem_append_right _ (.tail _ (.tail _ (.head _))))⟩
          · exact ⟨o, .tail _ (List.mem_append_right _ (.tail _ (.tail _ (.tail _ (by rw [← hfo]; exact objsAt_mem.mpr ⟨q, e⟩)))))⟩
        obtain ⟨o', ho'⟩ := this
        exact gX e3 (N3 _ ho').1
      · have : hb.get? p.1 = some o := by rw [← hbe]; exact hideAll_get _ e q
        exact gX e3 (F3.keep _ _ this)
  have hcl2 : codeAmong (lamPos w.params) ps.toList = some (.ref c') ∨ h.get? c' = none := hclm.imp id fun ⟨oo, q⟩ => clold _ q
  have mvh : ∀ {h' : Heap} {m' : Str → Option Value}, Fr hb L h' m' → (∀ p ∈ fo, h'.get? p.1 = some p.2) → Mv [226, 147, l] [] h h' := fun F' k => mv_hide0 (by rw [hbe]; exact F'.keep) (fun b hb' o e => k (b, o) (by rw [← hfo]; exact objsAt_mem.mpr ⟨hb', e⟩))
  have dis : ∀ (a : Addr) (o : Obj), h.get? a = some o → a ∉ frs outer → ∀ p ∈ (L + 1, oc3) :: (ws ++ (cl ++ fo)), p.1 ≠ a := fun a o e hf => fm_cons (fun q => gX cold ((congrArg _ q).trans e)) (fm_app (fun p hp q => gX (wold p hp) ((congrArg _ q).trans e)) (fm_app (fun p hp q => gX (clold p hp) ((congrArg _ q).trans e)) (fun p hp q => hf (q ▸ hfol p hp))))
  refine wpAny_mono (Q := fun f s => f = .next ∧ (∀ x, xs[dd]? = some x → eqW x (wtOf line) = true) ∧ ∃ h9 tk9 m9 t9, s = ⟨h9, g, d, tk9, os⟩ ∧ Fr hb L h9 m9 ∧ m9 ⟨⟨[98, 108, 111, 99, 107, 115]⟩⟩ = some (.ref l) ∧ m9 ⟨⟨[100, 101, 112, 116, 104]⟩⟩ = some (.int dd t9) ∧ News hb L h9 ((226, tabObj ps') :: (L + 1, oc3) :: (147, op) :: (l, listO vs n0) :: (ws ++ (cl ++ fo)))) ?_ ?_ (fun _ _ q => q)
  · clear F3 N3
    repeat kbo_bools
    refine b_len_list (isl N6 (.tail _ (.tail _ (.tail _ (.head _)))) (listIs_O _ _)) (by simp; (first | lia | omega)) (fun t7 tk7 => ?_)
    repeat kbo_bools
    refine ifB (fun hc => ?_) (fun hc => ?_)
    · have hlt : dd < xs.length := by have := of_decide_eq_true hc; rw [List.size_toArray, BK.len] at this; (first | lia | omega)
      have hdv : dd < 10 := by have := BK.len; (first | lia | omega)
      refine holdG fun Pz kz => ?_
      obtain ⟨a, ha, W, ko⟩ := BK.row dd _ (List.getElem?_eq_getElem hlt)
      refine kz ?_
      clear kz Pz
      have hx := List.getElem?_eq_getElem hlt
      generalize xs[dd] = x at *
      repeat kbo_bools
      refine i_list (x := .ref a) (isl N6 (.tail _ (.tail _ (.tail _ (.head _)))) (listIs_O _ _)) (by (first | lia | omega)) (by (first | lia | omega)) (by rw [Int.toNat_natCast, List.getElem?_toArray]; exact ha) ?_
      repeat kbo_bools
      refine nm_cell (c := L + 1) (by rfl) (N6 _ (.tail _ (.head _))).1 hoc3 ?_
      repeat kbo_bools
      show wpAny _ _ (call (.ref 117) [.ref a, .ref r]) _ _ _
      refine equal_ok (B.ext F6.keep) (R1.le (by decide)) (W.ext F6.keep) (Wl5.at N6) (fun h7 tk8 X7 => ?_)
      have F7 := fr_ext F6 X7
      have N7 := nw_ext N6 X7
      clear F6 N6
      repeat kbo_bools
      refine ifB (fun hc2 => ?_) (fun hc2 => ?_)
      · have hne : eqW x (wtOf line) = false := by simpa using hc2
        repeat kbo_bools
        refine ifT rfl ?_
        repeat kbo_bools
        refine i_list (x := .ref a) (isl N7 (.tail _ (.tail _ (.tail _ (.head _)))) (listIs_O _ _)) (by (first | lia | omega)) (by (first | lia | omega)) (by rw [Int.toNat_natCast, List.getElem?_toArray]; exact ha) ?_
        repeat kbo_bools
        refine nm_cell (c := L + 1) (by rfl) (N7 _ (.tail _ (.head _))).1 hoc3 ?_
        repeat kbo_bools
        show wpAny _ _ (call (.ref 124) [.ref a, .ref r]) _ _ _
        refine witness_ok (B.ext F7.keep) (R1.le (by decide)) (W.ext F7.keep) (Wl5.at N7) ko kw (fun lw h8 tk9 X8 Wt8 hn8 => ?_)
        have F8 := fr_ext F7 X8
        have N8 := nw_ext N7 X8
        clear F7 N7
        repeat kbo_bools
        show wpAny _ _ (call (.ref 152) [.ref lw]) _ _ _
        have hw' := hw x hx
        have C8 : h8.IsCode 151 147 ps2 := ⟨oc5, cvs, file, tf, flags, tg, inF, text, tt, op, F8.keep _ _ h151, c2, c3, c4, c5, c6, c7, (N8 _ (.tail _ (.tail _ (.head _)))).1, c9, c10, c11⟩
        refine fmt_ok B F8.keep hb147 (Nat.le_trans F8.above (Nat.le_of_lt (fr_lt F8))) (R1.le (by decide)) C8 (eop ▸ (N8 _ (.tail _ (.tail _ (.head _)))).1) G Wt8 (fun t ht => ?_) (Nat.lt_of_le_of_lt (witL_len _ _ _) (by (first | lia | omega))) (fun h9 g9 t9 tk10 ps9 X9 C9 hT9 G9 => ?_)
        · unfold witL at ht
          obtain ⟨j, hj, rfl⟩ := List.mem_map.mp (List.mem_filter.mp ht).1
          have := List.mem_range.mp hj
          (first | lia | omega)
        have C9' := C9
        refine holdG fun Pz kz => ?_
        obtain ⟨oc9, cvs9, file9, tf9, flags9, tg9, inF9, text9, tt9, op9, z1, z2, z3, z4, z5, z6, z7, z8, z9, z10, z11⟩ := C9'
        refine kz ?_
        clear kz Pz
        have eop9 : op9 = tabObj ps9 := Option.some.inj (z8.symm.trans hT9)
        have F9 := fr_but F8 N8 (.tail _ (.tail _ (.head _))) X9
        have N9 : News hb L h9 ((147, op9) :: (226, tabObj ps') :: (L + 1, oc3) :: (l, listO vs n0) :: (ws ++ (cl ++ fo))) := nw_but N8 (.tail _ (.tail _ (.head _))) X9 z8 (by
          refine fm_cons ?_ ?_
          · exact ⟨.head _, (by decide : (226 : Nat) ≠ 147)⟩
          refine fm_cons ?_ ?_
          · exact ⟨.tail _ (.head _), dis _ _ c8 n147 _ (.head _)⟩
          refine fm_cons ?_ ?_
          · exact ⟨.tail _ (.tail _ (.tail _ (.head _))), l147⟩
          intro p hp
          · exact ⟨.tail _ (.tail _ (.tail _ (.tail _ hp))), dis _ _ c8 n147 _ (.tail _ hp)⟩)
        have F8k := F8.keep
        clear F8 N8
        repeat kbo_bools
        refine raise_ownX hh (nag_cls _) ?_ (B.X.keeps (by assumption : Fr hb L _ _).keep)
        repeat kbo_bools
        rename_i h10 tk10' F10 N10
        show wpAny _ _ (call (.ref 76) [num, .str (wordsOf (witL x (wtOf line) (witN x (wtOf line)))) t9, .str line tl]) _ _ _
        refine nag_new (B.ext F10.keep) (R1.le (by decide)) (fun e D tp h11 tk11 t1 t2 t3 X11 hne11 hnD NG => ?_)
        have F11 := fr_ext F10 X11
        have N11 := nw_ext N10 X11
        refine ⟨e, _, some D, #[], rfl, rfl, B.X.keeps F11.keep, NG.e, ?_⟩
        have old10 : ∀ b, h10.get? b = none → h.get? b = none := fun b hn => gN fun o q => by
            have := (mvh (h' := h10) F10 (fun p hp => (N10 _ (.tail _ (.tail _ (.tail _ (.tail _ (List.mem_append_right _ (List.mem_append_right _ hp))))))).1)) b o
            by_cases hq : b ∈ [226, 147, l]
            · rcases List.mem_cons.mp hq with rfl | hq
              · exact gX hn (N10 _ (.tail _ (.head _))).1
              rcases List.mem_cons.mp hq with rfl | hq
              · exact gX hn (N10 _ (.head _)).1
              · (first | exact gX hn ((congrArg _ (List.mem_singleton.mp hq)).trans (N10 _ (.tail _ (.tail _ (.tail _ (.head _))))).1) | exact gX (N10 _ (.tail _ (.tail _ (.tail _ (.head _))))).1 ((congrArg _ (List.mem_singleton.mp hq)).symm.trans hn) | (rw [List.mem_singleton.mp hq, (N10 _ (.tail _ (.tail _ (.tail _ (.head _))))).1] at hn; cases hn))
            · exact gX hn ((this hq q).1 (fun q => nomatch q))
        have M11' := mvh (h' := h11) F11 (fun p hp => (N11 _ (.tail _ (.tail _ (.tail _ (.tail _ (List.mem_append_right _ (List.mem_append_right _ hp))))))).1)
        have M11 : Mv [226, 147] [] h h11 := fun b o hb' eb => by
          by_cases q : b = l
          · subst q
            (first | exact gX eb hl | exact gX hl eb | (rw [hl] at eb; cases eb))
            have := (N11 _ (.tail _ (.tail _ (.tail _ (.head _))))).1
            exact ⟨fun _ => this, fun _ => ⟨_, this⟩⟩
          · exact M11' b o (fun hq => by
              rcases List.mem_cons.mp hq with rfl | hq
              · exact hb' (.head _)
              rcases List.mem_cons.mp hq with rfl | hq
              · exact hb' (.tail _ (.head _))
              · exact q (List.mem_singleton.mp hq)) eb
        have hLnone : h.get? L = none := gN fun o q => absurd (hL ▸ Heap.lt_size q) (Nat.lt_irrefl _)
        have hbL : hb.get? L = none := gN fun o q => gX hLnone (of_hideAll _ (hbe ▸ q))
        have FF11 : h11.FunFrames hb (envLaid w.params L :: outer) := by
          refine holdG fun Pz kz => ?_
          obtain ⟨oL, es, ep, ho, hd', _⟩ := F11.ns
          refine kz ?_
          clear kz Pz
          refine ⟨env_kind _ _, ⟨L, oL, rfl, hbL, ho, fun vs q => by (first | exact gX q hd' | exact gX hd' q | (rw [hd'] at q; cases q))⟩, ff_mv FF M11 (fun a ha => ?_)⟩
          revert a ha
          refine fm_cons ?_ ?_
          · exact n226
          intro a ha
          · rw [List.mem_singleton.mp ha]; exact n147
        have hfr11 : (A.deeper (envLaid w.params L)).frames = some (envLaid w.params L :: outer) := by
          show Option.map _ A.frames = _; rw [hfr]; rfl
        refine leave_first (s := ⟨h11, g9, d, tk11, os⟩) hfr11 FF11 rfl NG.e rfl (fun h12 T M12 s1 s2 X12 => ?_)
        dsimp only at M12 s1 s2
        show E (.ref e) ⟨h12, g9, d, tk11, os⟩
        have eF : frs (envLaid w.params L :: outer) = L :: frs outer := rfl
        have M12' : Mv [e] (L :: frs outer) h11 h12 := M12
        refine holdG fun Pz kz => ?_
        obtain ⟨fs, _, _, he12, _⟩ := X12.out
        refine kz ?_
        clear kz Pz
        have hold11 : @LE.le Nat _ h.objs.size h11.objs.size := by rw [← hL]; exact Nat.le_of_lt (fr_lt F11)
        have hTn : h.get? T = none := gN fun o q => absurd (Nat.lt_of_lt_of_le (Heap.lt_size q) (Nat.le_trans hold11 s1)) (Nat.lt_irrefl _)
        have hen := old10 e hne11
        have hDn := old10 D hnD
        have keepN : ∀ (b : Addr) (o : Obj), h11.get? b = some o → b ≠ e → b ≠ L → b ∉ frs outer → h12.get? b = some o := fun b o q1 q2 q3 q4 => (M12' b o (fun q => q2 (List.mem_singleton.mp q)) q1).1 (fun q => (List.mem_cons.mp q).elim q3 q4)
        have F12k : Ext hb h12 := fun b o q => keepN b o (F11.keep _ _ q) (fun q2 => gX hne11 (F10.keep _ _ (q2 ▸ q))) (fun q2 => gX hbL (q2 ▸ q)) (fun q2 => gX (ff_none FF b q2) q)
        have ne10 : ∀ (b : Addr) (o : Obj), h10.get? b = some o → b ≠ e := fun b o q q2 => gX hne11 (q2 ▸ q)
        have hDe : D ≠ e := fun q => by have := NG.d; (first | exact gX this ((congrArg _ q).trans NG.e) | exact gX NG.e ((congrArg _ q).symm.trans this) | (rw [q, NG.e] at this; cases this))
        have hDL : D ≠ L := fun q => by
          refine holdG fun Pz kz => ?_
          obtain ⟨oL, _, _, qL, _⟩ := F10.ns
          refine kz ?_
          clear kz Pz
          exact gX hnD ((congrArg _ q).trans qL)
        have clf : ∀ p ∈ cl, p.1 ∉ frs outer := fun p hp q => by
          have := clold p hp
          refine holdG fun Pz kz => ?_
          obtain ⟨_, o, qo, _⟩ := FF.mem q
          refine kz ?_
          clear kz Pz
          exact gX this qo
        have h226 : h12.get? 226 = some (tabObj ps') := keepN _ _ (N11 _ (.tail _ (.head _))).1 (ne10 _ _ (N10 _ (.tail _ (.head _))).1) (N11 _ (.tail _ (.head _))).2.1 n226
        have h147 : h12.get? 147 = some op9 := keepN _ _ (N11 _ (.head _)).1 (ne10 _ _ (N10 _ (.head _)).1) (N11 _ (.head _)).2.1 n147
        refine hbad x hx hne e D T fs h12 g9 tk11 t1 t2 t3 t9 ps9 ?_ X12 (keepN _ _ NG.d hDe hDL (fun q => by obtain ⟨_, o, qo, _⟩ := FF.mem q; exact gX hDn qo)) hen hDn hTn he12 (fun qs c2 hq hc2 => ?_) ⟨ps', c', h226, hT1', hT2', hcrec _ F12k (fun p hp => ?_), hcl2⟩ ⟨oc9, cvs9, file9, tf9, flags9, tg9, inF9, text9, tt9, op9, ?_, z2, z3, z4, z5, z6, z7, h147, z9, z10, z11⟩ (eop9 ▸ h147) G9
        rotate_left
        · rw [h226] at hq
          have hqs : ps' = qs := by injection hq with hq; injection hq with _ _ hq _; injection hq
          rw [← hqs, hT2'] at hc2
          cases hc2
          refine holdG fun Pz kz => ?_
          obtain ⟨cc, oo, vv, tt', ee, gg, _, _⟩ := hcrec h10 F10.keep (fun p hp => (N10 p (.tail _ (.tail _ (.tail _ (.tail _ (List.mem_append_right _ (List.mem_append_left _ hp))))))).1)
          refine kz ?_
          clear kz Pz
          cases ee
          exact ⟨ne10 _ _ gg, fun q => Nat.lt_irrefl _ (Nat.lt_of_lt_of_le (Heap.lt_size (X11 _ _ gg)) (q ▸ s1))⟩
        rotate_right
        · refine (M11.mono (fun a ha => ha) (fun _ q => nomatch q)).new2 M12' (fun a ha => .inr (by rw [List.mem_singleton.mp ha]; exact hen)) (fun a ha => ?_)
          revert a ha
          refine fm_cons ?_ ?_
          · exact .inr hLnone
          intro a ha
          · exact .inl ha
        · have hm11 := N11 p (.tail _ (.tail _ (.tail _ (.tail _ (List.mem_append_right _ (List.mem_append_left _ hp))))))
          have hm10 := N10 p (.tail _ (.tail _ (.tail _ (.tail _ (List.mem_append_right _ (List.mem_append_left _ hp))))))
          exact keepN _ _ hm11.1 (ne10 _ _ hm10.1) hm11.2.1 (clf p hp)
        · have q151 := F12k _ _ h151
          have e151 : h9.get? 151 = some oc5 := X9 _ _ (by decide) (F8k _ _ h151)
          (first | exact gX z1 e151 | exact gX e151 z1 | (rw [e151] at z1; cases z1))
          exact q151
      · have hne : eqW x (wtOf line) = true := by simpa using hc2
        refine ifF rfl ?_
        repeat kbo_bools
        exact ⟨rfl, fun x' hx' => by rw [hx] at hx'; cases hx'; exact hne, h7, _, _, t5, rfl, F7, by tb_rel, by tb_rel, N7⟩
    · refine ifF rfl ?_
      repeat kbo_bools
      refine ⟨rfl, fun x hx => ?_, h6, _, _, t5, rfl, F6, by tb_rel, by tb_rel, N6⟩
      have h1 := (List.getElem?_eq_some_iff.mp hx).1
      have h2 := of_decide_eq_false hc
      rw [List.size_toArray, BK.len] at h2
      (first | lia | omega)
  · rintro f s ⟨rfl, heq, h9, tk9, m9, t9, rfl, F9, e1, e2, N9⟩
    repeat kbo_bools
    refine del_sub ?_
    repeat kbo_bools
    refine wpAny_Slice ?_
    rw [evalPart_some]
    repeat kbo_bools
    rw [evalPart_none]
    refine wpAny_pure (wpAny_pure ?_)
    refine l_del (rest := (226, tabObj ps') :: (L + 1, oc3) :: (147, op) :: (ws ++ (cl ++ fo))) (F9.push _) (nw_ext N9 (Ext.push _ _)) (.tail _ (.tail _ (.tail _ (.head _)))) (Heap.IsSliceOf.new _ _ _ _) (by rw [BK.len]; exact hdl) (by (first | lia | omega)) (fun p hp => ?_) (fun h10 n10 F10 N10 S10 => ?_)
    · revert p hp
      refine fm_cons ?_ ?_
      · exact ⟨.head _, Ne.symm l226⟩
      refine fm_cons ?_ ?_
      · exact ⟨.tail _ (.head _), dis _ _ hl hlf _ (.head _)⟩
      refine fm_cons ?_ ?_
      · exact ⟨.tail _ (.tail _ (.head _)), Ne.symm l147⟩
      intro p hp
      · exact ⟨.tail _ (.tail _ (.tail _ (.tail _ hp))), dis _ _ hl hlf _ (.tail _ hp)⟩
    clear F9 N9
    repeat kbo_bools
    refine m_append N10 (.head _) rfl rfl ?_
    repeat kbo_bools
    refine nm_cell (c := L + 1) (by rfl) (N10 _ (.tail _ (.tail _ (.head _)))).1 hoc3 ?_
    repeat kbo_bools
    refine l_append (rest := (226, tabObj ps') :: (L + 1, oc3) :: (147, op) :: (ws ++ (cl ++ fo))) F10 N10 (.head _) (by simp; (first | lia | omega)) (fun p hp => ⟨.tail _ hp, ?_⟩) (fun h11 n11 F11 N11 S11 => ?_)
    · revert p hp
      refine fm_cons ?_ ?_
      · exact Ne.symm l226
      refine fm_cons ?_ ?_
      · exact dis _ _ hl hlf _ (.head _)
      refine fm_cons ?_ ?_
      · exact Ne.symm l147
      intro p hp
      · exact dis _ _ hl hlf _ (.tail _ hp)
    clear F10 N10
    repeat kbo_bools
    have C11' : h11.IsCode 151 147 ps2 := ⟨oc5, cvs, file, tf, flags, tg, inF, text, tt, op, F11.keep _ _ h151, c2, c3, c4, c5, c6, c7, (N11 _ (.tail _ (.tail _ (.tail _ (.head _))))).1, c9, c10, c11⟩
    refine hok heq r n11 h11 g t9 _ ps2 (mvh F11 (fun p hp => (N11 _ (.tail _ (.tail _ (.tail _ (.tail _ (List.mem_append_right _ (List.mem_append_right _ hp))))))).1)) (N11 _ (.head _)).1 (Wl.from (fun p hp => ⟨(N11 _ (.tail _ (.tail _ (.tail _ (.tail _ (List.mem_append_left _ hp)))))).1, wold p hp⟩)) ⟨ps', c', (N11 _ (.tail _ (.head _))).1, hT1', hT2', hcrec _ F11.keep (fun p hp => (N11 _ (.tail _ (.tail _ (.tail _ (.tail _ (List.mem_append_right _ (List.mem_append_left _ hp))))))).1), hcl2⟩ C11' (eop ▸ (N11 _ (.tail _ (.tail _ (.tail _ (.head _))))).1) G
end
end
section
open PySem PySem.W PyProof.Rows PySem.Calls PySem.Spec
set_option maxHeartbeats 1000000
section
variable {prog : Program} {w : World} {A : Around} {E : Value → Shared → Prop} {h h₀ : Heap} {g : Array GenState} {d : Drawn} {tk : Nat} {os : OsState} {env : Env} {L : Addr} {m : Str → Option Value} {nw : List (Addr × Obj)}
theorem for_pair {xi xv : Str} {pi pv pt : Pos} {x1 : Nat} {body : List Stmt} {Q : Flow → Shared → Prop} {Er : Value → Shared → Prop} {I : Addr} {fp wr : List Addr} {n : Nat} {Pt : Nat → Array Value → Prop} {St : Nat → Heap → Prop} {Mid : Nat → Addr → Heap → Prop} {P2 : Nat → Value → Value → Prop}
    (P : Nat → Array GenState → (Str → Option Value) → List (Addr × Obj) → Prop) (hh : A.handled = none) (W : WalksT prog w A I fp wr n Pt St Mid) (h2 : ∀ i vals, Pt i vals → ∃ v0 v1, vals = #[v0, v1] ∧ P2 i v0 v1) (hL : L ∉ fp) (hw0 : ∀ b ∈ wr, h₀.get? b = none) (hex : ∀ i h, St i h → ∀ b ∈ wr, ∃ o, h.get? b = some o)
    (st : St 0 h) (F : Fr h₀ L h m) (N : News h₀ L h nw) (hnw : ∀ p ∈ nw, p.1 ∉ wr) (p0 : P 0 g m nw)
    (turn : ∀ i v0 v1 g m nw h tk E' fo, i < n → P2 i v0 v1 → P i g m nw → (∀ p ∈ nw, p.1 ∉ wr) → Fr h₀ L h (Upd (Upd m xi v0) xv v1) → News h₀ L h (fo ++ nw) → (∀ b ∈ wr, ∃ o, (b, o) ∈ fo) → (∀ p ∈ fo, p.1 ∈ fp) →
      wpAny (model prog w) A (execs body env) (Lp (FInv h₀ L d os P fo wr (i + 1)) Q) E' ⟨h, g, d, tk, os⟩)
    (done : ∀ g m nw h tk, P n g m nw → (∀ p ∈ nw, p.1 ∉ wr) → Fr h₀ L h m → News h₀ L h nw → Q .next ⟨h, g, d, tk, os⟩)
    (hk : env.scope.kind = .function := by rfl) (hli : env.kindOf xi = some .local := by rfl) (hlv : env.kindOf xv = some .local := by rfl) (hLe : env.locals = L := by rfl) :
    codeAny (model prog w) A (.forLoop (.Tuple [.Name xi pi, .Name xv pv] x1 pt) (.ref I) body [] env) (fun r s' => match r with | .ok f => Q f s' | .error e => Er e s') ⟨h, g, d, tk, os⟩ := by
  subst hLe
  have step : ∀ {h h' : Heap} {m : Str → Option Value}, Fr h₀ env.locals h m → (∀ b o, b ∉ wr → h.get? b = some o → h'.get? b = some o) → Fr h₀ env.locals h' m := fun {h h' m} F hk => by
    refine holdG fun Pz kz => ?_
    obtain ⟨oL, es, ep, e1, e2⟩ := F.ns
    refine kz ?_
    clear kz Pz
    exact ⟨⟨oL, es, ep, hk _ _ (fun q => hL (W.sub _ q)) e1, e2⟩, fun b o e => hk _ _ (fun q => by (first | exact gX e (hw0 b q) | exact gX (hw0 b q) e | (rw [hw0 b q] at e; cases e))) (F.keep b o e), F.above⟩
  have stepN : ∀ {h h' : Heap} {nw : List (Addr × Obj)}, News h₀ env.locals h nw → (∀ p ∈ nw, p.1 ∉ wr) → (∀ b o, b ∉ wr → h.get? b = some o → h'.get? b = some o) → News h₀ env.locals h' nw := fun N hn hk p hp =>
    ⟨hk _ _ (hn p hp) (N p hp).1, (N p hp).2⟩
  refine codeAny_forLoop_any (fun k s => ∃ i h g tk m nw, k + i = n ∧ s = ⟨h, g, d, tk, os⟩ ∧ St i h ∧ Fr h₀ env.locals h m ∧ News h₀ env.locals h nw ∧ (∀ p ∈ nw, p.1 ∉ wr) ∧ P i g m nw) (fun k s hI => ?_) n ⟨0, h, g, tk, m, nw, by (first | lia | omega), rfl, st, F, N, hnw, p0⟩
  refine holdG fun Pz kz => ?_
  obtain ⟨i, h, g, tk, m, nw, hki, rfl, st, F, N, hnw, p⟩ := hI
  refine kz ?_
  clear kz Pz
  by_cases hi : i < n
  · refine W.item i _ _ _ hi st (fun T vals h1 tk1 pv hT0 ht mid hk1 => ?_)
    refine W.go _ _ _ i T _ _ _ mid (fun h2' st2 hk2 => ?_)
    dsimp only at hk2 hk1 ⊢
    refine holdG fun Pz kz => ?_
    obtain ⟨v0, v1, rfl, hP2⟩ := h2 i vals pv
    refine kz ?_
    clear kz Pz
    have F2 := step (step F hk1) hk2
    have N2 := stepN (stepN N hnw hk1) hnw hk2
    have ht2 : IsTup h2' T #[v0, v1] := by
      refine holdG fun Pz kz => ?_
      obtain ⟨o, ho, hc, k, hd⟩ := ht
      refine kz ?_
      clear kz Pz
      exact ⟨o, hk2 _ _ (W.apart _ _ _ mid) ho, hc, k, hd⟩
    refine holdG fun Pz kz => ?_
    obtain ⟨fo, Nfo, hfo, hfk⟩ := fo_of (h₀ := h₀) (h := h2') hL
    refine kz ?_
    clear kz Pz
    refine unpack2 F2 (news_app Nfo N2) hh ht2 (fun h3 tk3 F3 N3 => ?_) hk hli hlv rfl
    refine wpAny_mono (turn i v0 v1 g m nw h3 _ _ fo hi hP2 p hnw F3 N3 (fun b hb => ?_) hfk) (fun f s₃ q => ?_) (fun _ _ q => q)
    · obtain ⟨o, ho⟩ := hex _ _ st2 b hb
      exact ⟨o, hfo b (W.sub b hb) o ho (hw0 b hb)⟩
    · have key : FInv h₀ env.locals d os P fo wr (i + 1) s₃ → ∃ m, m < k ∧ ∃ i h g tk m_1 nw, m + i = n ∧ s₃ = ⟨h, g, d, tk, os⟩ ∧ St i h ∧ Fr h₀ env.locals h m_1 ∧ News h₀ env.locals h nw ∧ (∀ p ∈ nw, p.1 ∉ wr) ∧ P i g m_1 nw := by
        rintro ⟨h4, g4, tk4, m4, nw4, rfl, F4, N4, hn4, p4⟩
        refine ⟨k - 1, by (first | lia | omega), i + 1, h4, g4, tk4, m4, nw4, by (first | lia | omega), rfl, W.frame _ _ _ st2 (fun b hb o ho => ?_), F4, news_sub N4 (fun p hp => List.mem_append_right _ hp), hn4, p4⟩
        cases e : h₀.get? b with
        | some o' =>
          have := F2.keep b o' e
          (first | exact gX this ho | exact gX ho this | (rw [ho] at this; cases this))
          exact F4.keep b o e
        | none => exact (N4 _ (List.mem_append_left _ (hfo b hb o ho e))).1
      cases f with
      | next => exact key q
      | cont => exact key q
      | brk => exact q
      | ret v => exact q
  · have hi' : i = n := by (first | lia | omega)
    subst hi'
    refine W.done _ _ _ st (fun h' tk' hk' => ?_)
    exact wpAny_execs_nil (done g m nw h' tk' p hnw (step F hk') (stepN N hnw hk'))
/-- for i, x in enumerate(list) -/
theorem for_enum {xi xv : Str} {pi pv pt : Pos} {x1 : Nat} {body : List Stmt} {Q : Flow → Shared → Prop} {Er : Value → Shared → Prop} {l : Addr} {vs : List Value}
    (P : Nat → Array GenState → (Str → Option Value) → List (Addr × Obj) → Prop) (hh : A.handled = none) (hl : h.IsList l vs.toArray) (hlL : l ≠ L)
    (F : Fr h₀ L h m) (N : News h₀ L h nw) (p0 : P 0 g m nw)
    (turn : ∀ i v t g m nw h tk E' fo I, vs[i]? = some v → P i g m nw → (∀ p ∈ nw, p.1 ≠ I ∧ p.1 ≠ I + 1) → Fr h₀ L h (Upd (Upd m xi (.int i t)) xv v) → News h₀ L h (fo ++ nw) → (∃ o, (I, o) ∈ fo) → (∃ o, (I + 1, o) ∈ fo) → (∀ p ∈ fo, p.1 = I ∨ p.1 = I + 1 ∨ p.1 = l) → (∀ a ∈ [I, I + 1], h₀.get? a = none) →
      wpAny (model prog w) A (execs body env) (Lp (FInv h₀ L d os P fo [I + 1, I] (i + 1)) Q) E' ⟨h, g, d, tk, os⟩)
    (done : ∀ g m nw h tk, P vs.length g m nw → Fr h₀ L h m → News h₀ L h nw → Q .next ⟨h, g, d, tk, os⟩)
    (hk : env.scope.kind = .function := by rfl) (hli : env.kindOf xi = some .local := by rfl) (hlv : env.kindOf xv = some .local := by rfl) (hLe : env.locals = L := by rfl) :
    wpAny (model prog w) A (call (.type "enumerate") [.ref l]) (fun v s₁ => wpAny (model prog w) A (pyIter v) (fun it s₂ =>
      codeAny (model prog w) A (.forLoop (.Tuple [.Name xi pi, .Name xv pv] x1 pt) it body [] env) (fun r s' => match r with | .ok f => Q f s' | .error e => Er e s') s₂) E s₁) E ⟨h, g, d, tk, os⟩ := by
  have hlt : @LT.lt Nat _ l h.objs.size := let ⟨_, e, _⟩ := hl; Heap.lt_size e
  have hLt := fr_lt F
  refine call_enumerate_list (s := ⟨h, g, d, tk, os⟩) hl fun h' hE hI hsz hk' => ?_
  dsimp only at hE hI hsz hk' ⊢
  refine wpAny_pyIter_enum hE ?_
  generalize hIx : h.objs.size = I at *
  have W := WalksT.enumerate (prog := prog) (w := w) hh (I + 1) I l (Nat.succ_ne_self _) (Nat.ne_of_lt (Nat.lt_succ_of_lt hlt)) (Nat.ne_of_lt hlt) vs.toArray
  refine for_pair P hh W (P2 := fun i v0 v1 => ∃ t, v0 = .int i t ∧ vs[i]? = some v1) (fun i vals ⟨t, x, hx, e⟩ => ⟨_, _, e, t, rfl, by simpa using hx⟩) ?_ (fun b hb => ?_) (fun i h'' st b hb => ?_) ⟨⟨_, hE⟩, hI, (let ⟨o, e, r⟩ := hl; ⟨o, hk' _ _ e, r⟩)⟩ (fr_ext F hk') (nw_ext N hk') (fun p hp hq => ?_) p0 (fun i v0 v1 g m nw h'' tk'' E' fo hi hP p hn' F' N' hfo hfk => ?_) (fun g m nw h'' tk'' p _ F' N' => done g m nw h'' tk'' (by simpa using p) F' N') hk hli hlv hLe
  · intro hq
    rcases List.mem_cons.mp hq with e | hq
    · exact Nat.ne_of_lt (Nat.lt_succ_of_lt hLt) e
    rcases List.mem_cons.mp hq with e | hq
    · exact Nat.ne_of_lt hLt e
    · exact hlL (List.mem_singleton.mp hq).symm
  · refine fr_new F ?_
    rw [hIx]
    revert b hb
    refine fm_cons ?_ ?_
    · exact Nat.le_succ _
    intro b hb
    · rw [List.mem_singleton.mp hb]; exact Nat.le_refl _
  · refine holdG fun Pz kz => ?_
    obtain ⟨⟨old, he⟩, hit, _⟩ := st
    refine kz ?_
    clear kz Pz
    revert b hb
    refine fm_cons ?_ ?_
    · exact ⟨_, he⟩
    intro b hb
    · obtain ⟨o, ho, _⟩ := hit
      rw [List.mem_singleton.mp hb]; exact ⟨o, ho⟩
  · have h1 : @LT.lt Nat _ p.1 I := hIx ▸ nw_lt N p hp
    rcases List.mem_cons.mp hq with e | hq
    · rw [e] at h1; exact absurd h1 (Nat.not_lt.mpr (Nat.le_succ _))
    · rw [List.mem_singleton.mp hq] at h1; exact Nat.lt_irrefl _ h1
  · obtain ⟨t, rfl, hv⟩ := hP
    refine turn i v1 t g m nw h'' tk'' E' fo I hv p (fun p hp => ⟨fun e => hn' p hp (by simp [e]), fun e => hn' p hp (by simp [e])⟩) F' N' (hfo _ (by simp)) (hfo _ (by simp)) (fun p hp => ?_) (fun a ha => ?_)
    · have := hfk p hp
      rcases List.mem_cons.mp this with e | this
      · exact .inr (.inl e)
      rcases List.mem_cons.mp this with e | this
      · exact .inl e
      · exact .inr (.inr (List.mem_singleton.mp this))
    · refine fr_new F ?_
      rw [hIx]
      revert a ha
      refine fm_cons ?_ ?_
      · exact Nat.le_refl _
      intro a ha
      · rw [List.mem_singleton.mp ha]; exact Nat.le_succ _
end
end
section
open PySem PySem.W PyProof.Rows PySem.Calls PySem.Spec
set_option maxHeartbeats 1000000
/- the leads and the chain of blocks, with no program in sight -/
noncomputable def lead4 (a b c d : Nat) : Str := ⟨((([List.replicate b 32 ++ [9], List.replicate c 32 ++ [9]].take a).flatten) ++ List.replicate d 32).toArray⟩
noncomputable def LEADS : List Str := (List.range 3).map (lead4 0 0 0) ++ (List.range 9).map (fun k => lead4 1 (k / 3) 0 (k % 3)) ++ (List.range 27).map (fun k => lead4 2 (k / 9) (k / 3 % 3) (k % 3))
theorem lead_mem0 : (List.range 81).all (fun k => LEADS.contains (lead4 (k % 3) (k / 3 % 3) (k / 9 % 3) (k / 27))) = true := by decide +kernel
theorem lead_mem {a b c d : Nat} (ha : a < 3) (hb : b < 3) (hc : c < 3) (hd : d < 3) : lead4 a b c d ∈ LEADS := by
  have := List.all_eq_true.mp lead_mem0 (a + 3 * b + 9 * c + 27 * d) (List.mem_range.mpr (by (first | lia | omega)))
  rw [show (a + 3 * b + 9 * c + 27 * d) % 3 = a by (first | lia | omega), show (a + 3 * b + 9 * c + 27 * d) / 3 % 3 = b by (first | lia | omega), show (a + 3 * b + 9 * c + 27 * d) / 9 % 3 = c by (first | lia | omega), show (a + 3 * b + 9 * c + 27 * d) / 27 = d by (first | lia | omega)] at this
  simpa using this
noncomputable def rowT (l : Str) : Str := ⟨(if l.cps.size = 0 then #[46] else #[]) ++ l.cps ++ #[46, 9]⟩
theorem scan_app (r : List Nat) : ∀ (l : List Nat) (x : Wt), (∀ c ∈ l, c = 32 ∨ c = 9) → scanW (l ++ 46 :: r) x = scanW l x
  | [], x, _ => scan_stop _ _ (by decide) (by decide)
  | c :: l, x, h => by
    have hc := h c (.head _)
    rw [List.cons_append, scanW, scanW, if_pos hc, if_pos hc]
    exact scan_app r l _ (fun c hc => h c (.tail _ hc))
theorem leads_signs : LEADS.all (fun l => l.cps.toList.all fun c => c == 32 || c == 9) = true := by decide +kernel
theorem wt_row {l : Str} (h : l ∈ LEADS) : wtOf (rowT l) = wtOf l := by
  have hs : ∀ c ∈ l.cps.toList, c = 32 ∨ c = 9 := fun c hc => by simpa using List.all_eq_true.mp (List.all_eq_true.mp leads_signs l h) c hc
  unfold wtOf rowT
  by_cases e : l.cps.size = 0
  · have e' : l.cps.toList = [] := by simpa using e
    rw [if_pos e]
    simp only [Array.toList_append, e', List.append_nil]
    exact scan_stop _ _ (by decide) (by decide)
  · rw [if_neg e]
    simp only [Array.toList_append]
    exact scan_app [9] _ _ hs
theorem leads_short : LEADS.all (fun l => decide (l.cps.size < 20)) = true := by decide +kernel
theorem row_short {l : Str} (h : l ∈ LEADS) : (rowT l).cps.size < 50 := by
  have := of_decide_eq_true (List.all_eq_true.mp leads_short l h)
  unfold rowT
  split <;> simp <;> (first | lia | omega)
noncomputable def wokB (x : Wt) : Bool := decide (x.cs.length < 500) && decide (0 ≤ x.b) && decide (x.b < 500)
theorem leads_wok : LEADS.all (fun l => wokB (wtOf l)) = true := by decide +kernel
theorem wok {l : Str} (h : l ∈ LEADS) : Wok (wtOf l) := by
  have := List.all_eq_true.mp leads_wok l h
  simp only [wokB, Bool.and_eq_true, decide_eq_true_eq] at this
  exact ⟨this.1.1, this.1.2, this.2⟩
theorem leads_long : LEADS.all (fun l => decide ((wtOf l).longest ≤ 2)) = true := by decide +kernel
theorem wit_small {a b : Str} (ha : a ∈ LEADS) (hb : b ∈ LEADS) : witN (wtOf a) (wtOf b) < 10 := by
  have h1 := of_decide_eq_true (List.all_eq_true.mp leads_long a ha)
  have h2 := of_decide_eq_true (List.all_eq_true.mp leads_long b hb)
  unfold witN; (first | lia | omega)
noncomputable def lss (a b : Str) : Bool := lessB (wtOf a) (wtOf b)
noncomputable def eqq (a b : Str) : Bool := eqW (wtOf a) (wtOf b)
/-- for each lead, those that it is less than, as bits -/
noncomputable def LMASK : List Nat := [549755813886, 549755813876, 549755809696, 549755813296, 549755808032, 549736890368, 549755809184, 549753669888, 548658610176, 549736893440, 548625057792, 537677266944, 471219265536, 314146177024, 0, 471219257344, 314146160640, 0, 471105798144, 314070532096, 0, 471219257344, 314146160640, 0, 471214981120, 314137640960, 0, 468957790208, 309774516224, 0, 471105798144, 314070532096, 0, 468957790208, 309774516224, 0, 412316860416, 274877906944, 0]
noncomputable def lmAt (i : Nat) : Nat := LMASK.getD i 0
noncomputable def ldAt (i : Nat) : Str := LEADS.getD i (⟨#[]⟩ : Str)
theorem mask_tab : (List.range 39).all (fun i => (List.range 39).all fun j => lss (ldAt i) (ldAt j) == (lmAt i).testBit j) = true := by decide +kernel
theorem mask_sub : (List.range 39).all (fun i => (List.range 39).all fun j => !(lmAt i).testBit j || (lmAt j &&& lmAt i) == lmAt j) = true := by decide +kernel
theorem leads_len : LEADS.length = 39 := by decide +kernel
theorem ld_of {l : Str} (h : l ∈ LEADS) : ∃ i < 39, l = ldAt i := by
  obtain ⟨i, hi, rfl⟩ := List.getElem_of_mem h
  rw [leads_len] at hi
  refine ⟨i, hi, ?_⟩
  unfold ldAt
  rw [List.getD_eq_getElem?_getD, List.getElem?_eq_getElem]; rfl
theorem mask_eq {i j : Nat} (hi : i < 39) (hj : j < 39) : lss (ldAt i) (ldAt j) = (lmAt i).testBit j := by
  simpa using List.all_eq_true.mp (List.all_eq_true.mp mask_tab i (List.mem_range.mpr hi)) j (List.mem_range.mpr hj)
theorem lss_trans {a b c : Str} (ha : a ∈ LEADS) (hb : b ∈ LEADS) (hc : c ∈ LEADS) (h1 : lss a b = true) (h2 : lss b c = true) : lss a c = true := by
  obtain ⟨i, hi, rfl⟩ := ld_of ha
  obtain ⟨j, hj, rfl⟩ := ld_of hb
  obtain ⟨k, hk, rfl⟩ := ld_of hc
  rw [mask_eq hi hj] at h1
  rw [mask_eq hj hk] at h2
  rw [mask_eq hi hk]
  have := List.all_eq_true.mp (List.all_eq_true.mp mask_sub i (List.mem_range.mpr hi)) j (List.mem_range.mpr hj)
  rw [h1] at this
  have e : lmAt j &&& lmAt i = lmAt j := by simpa using this
  rw [← e, Nat.testBit_and, Bool.and_eq_true] at h2
  exact h2.2
/- the chain -/
structure Chain (ls : List Str) : Prop where
  mem : ∀ b ∈ ls, b ∈ LEADS
  asc : ls.Pairwise fun a b => lss a b = true
noncomputable def depthOf (ls : List Str) (l : Str) : Nat := (ls.takeWhile (fun b => lss b l)).length
theorem depth_le (ls : List Str) (l : Str) : depthOf ls l ≤ ls.length := (List.takeWhile_prefix _).length_le
theorem depth_lt : ∀ {ls : List Str} {l : Str} {i : Nat} {b : Str}, i < depthOf ls l → ls[i]? = some b → lss b l = true
  | [], l, i, b, h, e => by simp at e
  | a :: ls, l, i, b, h, e => by
    unfold depthOf at h
    rw [List.takeWhile_cons] at h
    split at h
    · rename_i ha
      cases i with
      | zero => simp at e; rw [← e]; exact ha
      | succ i => exact depth_lt (ls := ls) (i := i) (by unfold depthOf; simpa using h) (by simpa using e)
    · simp at h
theorem depth_at : ∀ {ls : List Str} {l : Str} {b : Str}, ls[depthOf ls l]? = some b → lss b l = false
  | [], l, b, e => by simp at e
  | a :: ls, l, b, e => by
    unfold depthOf at e
    rw [List.takeWhile_cons] at e
    split at e
    · exact depth_at (ls := ls) (l := l) (by unfold depthOf; simpa using e)
    · rename_i ha
      have e : a = b := by simpa using e
      rw [← e]; simpa using ha
theorem Chain.ge {ls : List Str} {l b : Str} {i : Nat} (C : Chain ls) (hl : l ∈ LEADS) (h : depthOf ls l ≤ i) (e : ls[i]? = some b) : lss b l = false := by
  rcases Nat.lt_or_eq_of_le h with h | h
  · have hi := (List.getElem?_eq_some_iff.mp e).1
    obtain ⟨c, hc⟩ : ∃ c, ls[depthOf ls l]? = some c := ⟨_, List.getElem?_eq_getElem (Nat.lt_trans h hi)⟩
    have hcb : lss c b = true := by
      obtain ⟨h1, e1⟩ := List.getElem?_eq_some_iff.mp hc
      obtain ⟨h2, e2⟩ := List.getElem?_eq_some_iff.mp e
      have := List.pairwise_iff_getElem.mp C.asc _ _ h1 h2 h
      rw [e1, e2] at this; exact this
    cases q : lss b l with
    | false => rfl
    | true =>
      have := lss_trans (C.mem c (List.mem_of_getElem? hc)) (C.mem b (List.mem_of_getElem? e)) hl hcb q
      rw [depth_at hc] at this; cases this
  · rw [← h] at e; exact depth_at e
theorem Chain.laid {ls : List Str} {l : Str} (C : Chain ls) (hl : l ∈ LEADS) : Chain (ls.take (depthOf ls l) ++ [l]) := by
  refine ⟨fun b hb => ?_, List.pairwise_append.mpr ⟨C.asc.sublist (List.take_sublist _ _), by simp, fun a ha b hb => ?_⟩⟩
  · rcases List.mem_append.mp hb with hb | hb
    · exact C.mem b (List.mem_of_mem_take hb)
    · rw [List.mem_singleton.mp hb]; exact hl
  · rw [List.mem_singleton.mp hb]
    obtain ⟨i, hi⟩ := List.mem_iff_getElem?.mp ha
    rw [List.getElem?_take] at hi
    split at hi
    · rename_i h; exact depth_lt h hi
    · cases hi
theorem Chain.key1 {ls : List Str} {l : Str} (i : Nat) (h : i < depthOf ls l) : keyAt (ls.map wtOf) (wtOf l) i = false := by
  have hi : i < ls.length := Nat.lt_of_lt_of_le h (depth_le _ _)
  have := depth_lt h (List.getElem?_eq_getElem hi)
  unfold keyAt
  rw [List.getElem?_map, List.getElem?_eq_getElem hi]
  simpa [lss] using this
theorem Chain.key2 {ls : List Str} {l : Str} (C : Chain ls) (hl : l ∈ LEADS) (i : Nat) (h : depthOf ls l ≤ i) (hi : i < (ls.map wtOf).length) : keyAt (ls.map wtOf) (wtOf l) i = true := by
  rw [List.length_map] at hi
  have := C.ge hl h (List.getElem?_eq_getElem hi)
  unfold keyAt
  rw [List.getElem?_map, List.getElem?_eq_getElem hi]
  simpa [lss] using this
noncomputable def msg (b l : Str) : Str := wordsOf (witL (wtOf b) (wtOf l) (witN (wtOf b) (wtOf l)))
/-- the reader, row by row -/
noncomputable def run : List Str → Nat → List Str → List Nat → List (Nat × Str × Str) → List Nat × List (Nat × Str × Str)
  | [], _, _, ds, rs => (ds, rs)
  | l :: r, i, ls, ds, rs => match ls[depthOf ls l]? with
    | some b => if eqq b l = true then run r (i + 1) (ls.take (depthOf ls l) ++ [l]) (ds ++ [depthOf ls l]) rs else run r (i + 1) ls ds (rs ++ [(i, msg b l, rowT l)])
    | none => run r (i + 1) (ls.take (depthOf ls l) ++ [l]) (ds ++ [depthOf ls l]) rs
end
section
open PySem PySem.W PyProof.Rows PySem.Calls PySem.Spec PyProof.V
set_option maxHeartbeats 1000000
section
variable {w : World} {A : Around} {E : Value → Shared → Prop} {h hb : Heap} {g : Array GenState} {d : Drawn} {tk : Nat} {os : OsState} {mg mb : Str → Option Value} {nw : List (Addr × Obj)}
/-- a def that may raise, entered -/
theorem enterX {f : Addr} {o : Obj} {fd : FuncData} {body : List Stmt} {pos : List Value} {kw : List (Str × Value)} {binds bindsR : List (Str × Value)} {R : Result → Shared → Prop}
    (B : Bs w mg mb hb) (x : Ext hb h) (hnw : ∀ p ∈ nw, h.get? p.1 = some p.2 ∧ hb.get? p.1 = none) (hf : (KN w.params).lookup f = some o) (hd : o.data = .func fd) (hcd : codeIn (KN w.params) fd.code fd.qualname = true) (hbody : fd.body = .stmts body)
    (hbind : BindsTo ⟨h, g, d, tk, os⟩ fd ⟨pos, kw⟩ binds) (room : A.depth < recursionLimit)
    (hle : hb.objs.size ≤ h.objs.size)
    (hx : ∀ h₁ L tk, Fr hb L h₁ (Lk bindsR) → News hb L h₁ nw → L = h.objs.size → Ext h h₁ →
      wpAny (MM w) (A.deeper (callEnv fd L f)) (execs body (callEnv fd L f)) (fun fl s' => R (.ok (.ret (retOf fl))) s')
        (fun e s' => wpAny (MM w) (A.deeper (callEnv fd L f)) (leaving (callEnv fd L f) e) (fun _ s'' => R (.error e) s'') (fun e' s'' => R (.error e') s'') s') ⟨h₁, g, d, tk, os⟩)
    (hcell : fd.scope.names.all (fun x => x.2 != .cell) = true) (hloc : binds.all (fun x => fd.scope.names.lookup x.1 == some .local) = true)
    (hco : fd.scope.isCoroutine = false) (hgen : fd.scope.isGenerator = false) (hk : fd.scope.kind = .function) (hrev : binds.reverse = bindsR) :
    codeAny (MM w) A (.call (.ref f) ⟨pos, kw⟩) R ⟨h, g, d, tk, os⟩ := by
  subst hrev
  have B' := B.ext x
  refine codeAny_call_def (binds := binds) room (B'.X _ _ hf) hd B'.lim (codeRec_of B'.X hcd) hbody hbind (fun x hx => by simpa using List.all_eq_true.mp hcell x hx) (fun x hx => by simpa using List.all_eq_true.mp hloc x hx) (fun h₁ hns hkp => ?_) hco hgen hk
  refine wpAny_mono (hx h₁ h.objs.size _ ⟨hns, fun b o e => hkp _ _ (x _ _ e), hle⟩
    (fun p hp => ⟨hkp _ _ (hnw p hp).1, Nat.ne_of_lt (Heap.lt_size (hnw p hp).1), (hnw p hp).2⟩) rfl hkp) (fun fl s' q => ?_) (fun _ _ q => q)
  cases fl <;> exact q
end
section
variable {M : Model} {A : Around} {E : Value → Shared → Prop} {h h₀ : Heap} {g : Array GenState} {d : Drawn} {tk : Nat} {os : OsState} {env : Env} {L : Addr} {m : Str → Option Value} {nw : List (Addr × Obj)}
theorem name_goes {n : Str} {pos : Pos} {Q : Unit → Shared → Prop} (F : Fr h₀ L h m) (N : News h₀ L h nw)
    (hQ : ∀ h' v tk, Fr h₀ L h' (fun x => if x = n then v else m x) → News h₀ L h' nw → Heap.SameBut L h h' → Q () ⟨h', g, d, tk, os⟩)
    (hk : env.scope.kind = .function := by rfl) (hl : env.kindOf n = some .local := by rfl) (hLL : env.locals = L := by rfl) :
    wpAny M A (do bindName env n .none; unbindBehindTheSuite env n pos) Q E ⟨h, g, d, tk, os⟩ := by
  subst hLL
  exact wpAny_nameGoes_keeps (s := ⟨h, g, d, tk, os⟩) hl F.ns (by rw [hk]; rfl) fun h' v hn hs => hQ h' v _ (F.set hn hs) (N.set hs) hs
end
/- what the reader holds -/
structure BlkL (P : Params) (ws : List (Addr × Obj)) (vs : List Value) (ls : List Str) : Prop where
  len : vs.length = ls.length
  row : ∀ (i : Nat) (l : Str), ls[i]? = some l → ∃ a : Addr, vs[i]? = some (Value.ref a) ∧ WsL P ws a (wtOf l)
theorem BlkL.mono {P : Params} {ws ws' : List (Addr × Obj)} {vs : List Value} {ls : List Str} (b : BlkL P ws vs ls) (hs : ∀ p ∈ ws, p ∈ ws') : BlkL P ws' vs ls :=
  ⟨b.len, fun i l e => let ⟨a, h1, h2⟩ := b.row i l e; ⟨a, h1, h2.mono hs⟩⟩
theorem BlkL.snoc {P : Params} {ws : List (Addr × Obj)} {vs : List Value} {ls : List Str} {a : Addr} {l : Str} {k : Nat} (b : BlkL P ws vs ls) (hk : k ≤ ls.length) (W : WsL P ws a (wtOf l)) : BlkL P ws (vs.take k ++ [.ref a]) (ls.take k ++ [l]) := by
  refine ⟨by simp [b.len], fun i x e => ?_⟩
  have hl : (vs.take k).length = (ls.take k).length := by simp [b.len]
  rcases Nat.lt_or_ge i (ls.take k).length with hi | hi
  · rw [List.getElem?_append_left hi, List.getElem?_take] at e
    split at e
    · rename_i hik
      obtain ⟨a', h1, h2⟩ := b.row i x e
      exact ⟨a', by rw [List.getElem?_append_left (hl ▸ hi), List.getElem?_take, if_pos hik]; exact h1, h2⟩
    · cases e
  · rw [List.getElem?_append_right hi] at e
    have h0 : i - (ls.take k).length = 0 := by
      cases q : i - (ls.take k).length with
      | zero => rfl
      | succ n => rw [q] at e; simp at e
    rw [h0] at e
    have e : l = x := by simpa using e
    subst e
    exact ⟨a, by rw [List.getElem?_append_right (hl ▸ hi), hl, h0]; rfl, W⟩
theorem WsL.hide {P : Params} {hb h : Heap} {L a : Addr} {nw : List (Addr × Obj)} {x : Wt} {X : List Addr} (W : WsL P nw a x) (N : News hb L h nw) (hX : ∀ p ∈ nw, p.1 ∉ X) : WsAt P (hideAll h X) a x := by
  refine holdG fun Pz kz => ?_
  obtain ⟨D, nm, ct, t1, t2, t3, t4, t5, t6, t7, t8, raw, vs, m1, m2, m3, m4, v⟩ := W
  refine kz ?_
  clear kz Pz
  exact ⟨D, nm, ct, t1, t2, t3, t4, t5, t6, t7, t8, raw, vs, hideAll_get _ (N _ m1).1 (hX _ m1), hideAll_get _ (N _ m2).1 (hX _ m2), hideAll_get _ (N _ m3).1 (hX _ m3), hideAll_get _ (N _ m4).1 (hX _ m4), v⟩
theorem BlkL.blk {P : Params} {hb h : Heap} {L : Addr} {ws : List (Addr × Obj)} {vs : List Value} {ls : List Str} {X : List Addr} (b : BlkL P ws vs ls) (N : News hb L h ws) (hX : ∀ p ∈ ws, p.1 ∉ X) (hm : ∀ l ∈ ls, l ∈ LEADS) : Blk P (hideAll h X) vs (ls.map wtOf) := by
  refine ⟨by rw [List.length_map]; exact b.len, fun i x e => ?_⟩
  rw [List.getElem?_map] at e
  refine holdG fun Pz kz => ?_
  obtain ⟨l, hl, rfl⟩ := Option.map_eq_some_iff.mp e
  obtain ⟨a, h1, h2⟩ := b.row i l hl
  refine kz ?_
  clear kz Pz
  exact ⟨a, h1, h2.hide N hX, wok (hm l (List.mem_of_getElem? hl))⟩
noncomputable def CodeL (cl : List (Addr × Obj)) (c' : Addr) : Prop := ∃ oo vv tt, (c', oo) ∈ cl ∧ oo.data = .fields vv ∧ vv[1]? = some (.str lamQ tt)
inductive RefL (tps : List (Addr × Obj)) : List (Int × Value) → List (Nat × Str × Str) → Prop
  | nil : RefL tps [] []
  | snoc {kvs : List (Int × Value)} {D : List (Nat × Str × Str)} {i : Nat} {a b : Str} {t u : Tok} {r : Addr} : RefL tps kvs D → (r, tupO [.str a t, .str b u]) ∈ tps → RefL tps (kvs ++ [((i : Int), .ref r)]) (D ++ [(i, a, b)])
theorem RefL.mono {tps tps' : List (Addr × Obj)} {kvs : List (Int × Value)} {D : List (Nat × Str × Str)} (x : RefL tps kvs D) (hs : ∀ p ∈ tps, p ∈ tps') : RefL tps' kvs D := by
  induction x with
  | nil => exact .nil
  | snoc _ hm ih => exact .snoc ih (hs _ hm)
theorem RefL.keys {tps : List (Addr × Obj)} {kvs : List (Int × Value)} {D : List (Nat × Str × Str)} (x : RefL tps kvs D) : kvs.map (·.1) = D.map fun p => (p.1 : Int) := by
  induction x with
  | nil => rfl
  | snoc _ _ ih => simp [ih]
theorem RefL.len {tps : List (Addr × Obj)} {kvs : List (Int × Value)} {D : List (Nat × Str × Str)} (x : RefL tps kvs D) : kvs.length = D.length := by
  have := congrArg List.length x.keys
  simpa using this
/-- the outer frames, up to their slots -/
structure SlOf (fo0 fo : List (Addr × Obj)) : Prop where
  to : ∀ p ∈ fo0, ∃ sl, (p.1, { p.2 with slots := sl }) ∈ fo
  back : ∀ q ∈ fo, ∃ p ∈ fo0, q.1 = p.1
theorem SlOf.refl (fo : List (Addr × Obj)) : SlOf fo fo := ⟨fun p hp => ⟨p.2.slots, hp⟩, fun q hq => ⟨q, hq, rfl⟩⟩
/-- frames that stand changed up to slots -/
noncomputable def slotted (h : Heap) (fo0 : List (Addr × Obj)) : List (Addr × Obj) := fo0.filterMap fun p => (h.get? p.1).map fun o => (p.1, o)
theorem ff_sl {h hE base base' : Heap} {l : List Env} (Fl : hE.FunFrames base l) (hb : ∀ a ∈ frs l, base'.get? a = none) (hs : ∀ a ∈ frs l, ∀ o, hE.get? a = some o → ∃ sl, h.get? a = some { o with slots := sl }) : h.FunFrames base' l := by
  induction l with
  | nil => trivial
  | cons env rest ih =>
    refine holdG fun Pz kz => ?_
    obtain ⟨hk, ⟨L, o, hf, hn, ho, hd⟩, hr⟩ := Fl
    refine kz ?_
    clear kz Pz
    have e : frs (env :: rest) = L :: frs rest := by simp [frs, hf]
    obtain ⟨sl, hsl⟩ := hs L (by rw [e]; exact .head _) o ho
    exact ⟨hk, ⟨L, _, hf, hb L (by rw [e]; exact .head _), hsl, hd⟩, ih hr (fun a ha => hb a (by rw [e]; exact .tail _ ha)) (fun a ha => hs a (by rw [e]; exact .tail _ ha))⟩
theorem hd_151 (P : Params) : codeHdIn (KN P) 151 147 = true := by kernel_rfl
end
section
open PySem PySem.W PyProof.Rows PySem.Calls PySem.Spec PyProof.V
set_option maxHeartbeats 4000000
noncomputable abbrev PG : Program := PySem.Challenge.rw_pk0100_01.row.prog
noncomputable abbrev fRead (P : Params) : FuncData := fnIn? (hd.zo_181 P)
noncomputable abbrev envRead (P : Params) (L : Addr) : Env := callEnv (fRead P) L 238
noncomputable def dsI (ds : List Nat) : List Int := ds.map fun n : Nat => (n : Int)
noncomputable def TT (h : Heap) : Prop := (∃ qs, h.get? 226 = some (tabObj qs)) ∧ ∃ qs, h.get? 147 = some (tabObj qs)
structure RdSt (w : World) (hp : Heap) (of : List Addr) (dp l rf : Addr) (fo0 : List (Addr × Obj)) (ld : List Str) (i : Nat) (g : Array GenState) (m : Str → Option Value) (nw : List (Addr × Obj))
    (vs : List Value) (n0 : Nat) (ls : List Str) (od : Obj) (kvs : List (Int × Value)) (rs : List (Nat × Str × Str)) (dvs : List Value) (n1 : Nat) (ds : List Nat) (ps : Array Value) (op : Obj) (ps2 : Array Value) (cl ws tps fo : List (Addr × Obj)) : Prop where
  G : AllBare g
  mb : m ⟨⟨[98, 108, 111, 99, 107, 115]⟩⟩ = some (.ref l)
  mr : m ⟨⟨[114, 101, 102, 117, 115, 101, 100]⟩⟩ = some (.ref rf)
  md : m ⟨⟨[100, 101, 112, 116, 104, 115]⟩⟩ = some (.ref dp)
  nw : nw = (l, listO vs n0) :: (rf, od) :: (dp, listO dvs n1) :: (226, tabObj ps) :: (147, op) :: (cl ++ (ws ++ (tps ++ fo)))
  bl : BlkL w.params ws vs ls
  ch : Chain ls
  hl : ls.length ≤ i + 1
  od : od.IsDictOf (intKind PG w) kvs
  rl : RefL tps kvs rs
  rk : ∀ p ∈ rs, p.1 < i
  rn : rs.length ≤ i
  dl : IntsAre dvs (dsI ds)
  dn : ds.length ≤ i
  t1 : TriplesOk ps.toList
  t2 : codeAmong (lamPos w.params) ps.toList = none ∨ ∃ c', codeAmong (lamPos w.params) ps.toList = some (.ref c') ∧ CodeL cl c'
  o0 : op = tabObj ps2
  o1 : op.data = .fields ps2
  o2 : TriplesOk ps2.toList
  sl : SlOf fo0 fo
  ot : ∀ p ∈ cl ++ (ws ++ (tps ++ fo)), p.1 ∉ [l, rf, dp, 226, 147]
  ow : ∀ p ∈ cl ++ (ws ++ tps), p.1 ∉ of
  go : run (ld.drop i) i ls ds rs = run ld 0 [⟨#[]⟩] [] []
section
variable {w : World} {A : Around} {E : Value → Shared → Prop} {h : Heap} {g : Array GenState} {d : Drawn} {tk : Nat} {os : OsState} {mg mb : Str → Option Value}
theorem read_at (P : Params) : (KN P).lookup 238 = some (hd.zo_181 P) := by kernel_rfl
noncomputable def turnOf : List Stmt → List Stmt
  | _ :: _ :: .For _ _ b _ _ :: _ => b
  | _ => []
noncomputable abbrev turnB (P : Params) : List Stmt := turnOf (bodyOf (fRead P))
/-- what stands around the reader's loop -/
structure RdCx (w : World) (A : Around) (hb hE base : Heap) (L : Addr) (outer : List Env) (dp l rf : Addr) (fo0 : List (Addr × Obj)) (ld : List Str) (mg mb : Str → Option Value) : Prop where
  B : Bs w mg mb hb
  R : Rm A 19
  fr : A.frames = some (envRead w.params L :: outer)
  FF : hE.FunFrames base outer
  fo : fo0 = objsAt hE (frs outer)
  hbn : ∀ a ∈ frs outer, hb.get? a = none
  hbL : hb.get? L = none
  Lf : L ∉ frs outer
  n1 : l ≠ rf
  n2 : l ≠ dp
  n3 : l ≠ 226
  n4 : l ≠ 147
  n5 : rf ≠ dp
  n6 : rf ≠ 226
  n7 : rf ≠ 147
  n8 : dp ≠ 226
  n9 : dp ≠ 147
  f1 : l ∉ frs outer
  f2 : rf ∉ frs outer
  f3 : dp ∉ frs outer
  f4 : (226 : Addr) ∉ frs outer
  f5 : (147 : Addr) ∉ frs outer
  md : (rf == sysModules) = false
  lm : ∀ l ∈ ld, l ∈ LEADS
  l6 : ld.length ≤ 6
inductive RdP (w : World) (hb : Heap) (of : List Addr) (dp l rf : Addr) (fo0 : List (Addr × Obj)) (ld : List Str) (i : Nat) (g : Array GenState) (m : Str → Option Value) (nw : List (Addr × Obj)) : Prop
  | mk (vs : _) (n0 : _) (ls : _) (od : _) (kvs : _) (rs : _) (dvs : _) (n1 : _) (ds : _) (ps : _) (op : _) (ps2 : _) (cl : _) (ws : _) (tps : _) (fo : _) (_ : RdSt w hb of dp l rf fo0 ld i g m nw vs n0 ls od kvs rs dvs n1 ds ps op ps2 cl ws tps fo) : RdP w hb of dp l rf fo0 ld i g m nw
theorem tab_next {hb h h' : Heap} {L : Addr} {m : Str → Option Value} {ps : Array Value} {cl : List (Addr × Obj)} {P : Params} (F : Fr hb L h m) (TL : TabL P ps h h') (t2 : codeAmong (lamPos P) ps.toList = none ∨ ∃ c', codeAmong (lamPos P) ps.toList = some (.ref c') ∧ CodeL cl c') :
    ∃ ps' cln c', h'.get? 226 = some (tabObj ps') ∧ TriplesOk ps'.toList ∧ codeAmong (lamPos P) ps'.toList = some (.ref c') ∧ CodeL (cl ++ cln) c' ∧ News hb L h' cln ∧ (∀ p ∈ cln, h.get? p.1 = none) ∧ ∀ p ∈ cln, p.1 = c' := by
  refine holdG fun Pz kz => ?_
  obtain ⟨ps', c', e1, e2, e3, e4, e5⟩ := TL
  refine kz ?_
  clear kz Pz
  rcases e5 with e5 | e5
  · refine ⟨ps', [], c', e1, e2, e3, ?_, News.nil, fun _ q => (nomatch q), fun _ q => (nomatch q)⟩
    rcases t2 with q | ⟨c2, q, oo, vv, tt, r⟩
    · (first | exact gX e5 q | exact gX q e5 | (rw [q] at e5; cases e5))
    · (first | exact gX e5 q | exact gX q e5 | (rw [q] at e5; cases e5))
      exact ⟨oo, vv, tt, List.mem_append_left _ r.1, r.2⟩
  · refine holdG fun Pz kz => ?_
    obtain ⟨cc, oo, vv, tt, ee, gg, dd, rr⟩ := e4
    refine kz ?_
    clear kz Pz
    cases ee
    have hcL : c' ≠ L := fun q => by obtain ⟨oL, _, _, qL, _⟩ := F.ns; (first | exact gX e5 ((congrArg _ q).trans qL) | exact gX qL ((congrArg _ q).symm.trans e5) | (rw [q, qL] at e5; cases e5))
    have hcb : hb.get? c' = none := by
      refine gN fun o q => ?_
      (first | exact gX e5 (F.keep _ _ q) | exact gX (F.keep _ _ q) e5 | (rw [F.keep _ _ q] at e5; cases e5))
    refine ⟨ps', [(c', oo)], c', e1, e2, e3, ⟨oo, vv, tt, List.mem_append_right _ (.head _), dd, rr⟩, fun p hp => ?_, fun p hp => ?_, fun p hp => ?_⟩
    · rw [List.mem_singleton.mp hp]; exact ⟨gg, hcL, hcb⟩
    · rw [List.mem_singleton.mp hp]; exact e5
    · rw [List.mem_singleton.mp hp]
theorem run_some {x : Str} {r : List Str} {i : Nat} {ls : List Str} {ds : List Nat} {rs : List (Nat × Str × Str)} (h : ∀ b, ls[depthOf ls x]? = some b → eqq b x = true) :
    run (x :: r) i ls ds rs = run r (i + 1) (ls.take (depthOf ls x) ++ [x]) (ds ++ [depthOf ls x]) rs := by
  rw [run]
  split
  · rename_i b e; rw [if_pos (h b e)]
  · rfl
theorem run_bad {x b : Str} {r : List Str} {i : Nat} {ls : List Str} {ds : List Nat} {rs : List (Nat × Str × Str)} (e : ls[depthOf ls x]? = some b) (h : eqq b x = false) :
    run (x :: r) i ls ds rs = run r (i + 1) ls ds (rs ++ [(i, msg b x, rowT x)]) := by
  rw [run, e]
  simp [h]
theorem drop_at {ld : List Str} {i : Nat} {x : Str} (hx : ld[i]? = some x) : ld.drop i = x :: ld.drop (i + 1) := by
  obtain ⟨hl, e⟩ := List.getElem?_eq_some_iff.mp hx
  rw [List.drop_eq_getElem_cons hl, e]
theorem perm1 {α : Type} {p a b c d e : α} {fo cl cln ws wsn tps fr : List α} (h : p ∈ fo ++ (a :: b :: c :: d :: e :: ((cl ++ cln) ++ ((ws ++ wsn) ++ (tps ++ fr))))) : p ∈ c :: (fo ++ (a :: b :: d :: e :: ((cl ++ (ws ++ (tps ++ fr))) ++ (cln ++ wsn)))) := by
  have key : ∀ q0, q0 ∈ fo ++ (a :: b :: c :: d :: e :: ((cl ++ cln) ++ ((ws ++ wsn) ++ (tps ++ fr)))) → q0 ∈ c :: (fo ++ (a :: b :: d :: e :: ((cl ++ (ws ++ (tps ++ fr))) ++ (cln ++ wsn)))) := by
    clear h
    refine fm_app ?_ ?_
    · exact fun p q => (.tail _ (List.mem_append_left _ q))
    refine fm_cons ?_ ?_
    · exact (.tail _ (List.mem_append_right _ (.head _)))
    refine fm_cons ?_ ?_
    · exact (.tail _ (List.mem_append_right _ (.tail _ (.head _))))
    refine fm_cons ?_ ?_
    · exact (.head _)
    refine fm_cons ?_ ?_
    · exact (.tail _ (List.mem_append_right _ (.tail _ (.tail _ (.head _)))))
    refine fm_cons ?_ ?_
    · exact (.tail _ (List.mem_append_right _ (.tail _ (.tail _ (.tail _ (.head _))))))
    refine fm_app ?_ ?_
    · refine fm_app ?_ ?_
      · exact fun p q => (.tail _ (List.mem_append_right _ (.tail _ (.tail _ (.tail _ (.tail _ (List.mem_append_left _ (List.mem_append_left _ q))))))))
      exact fun p q => (.tail _ (List.mem_append_right _ (.tail _ (.tail _ (.tail _ (.tail _ (List.mem_append_right _ (List.mem_append_left _ q))))))))
    refine fm_app ?_ ?_
    · refine fm_app ?_ ?_
      · exact fun p q => (.tail _ (List.mem_append_right _ (.tail _ (.tail _ (.tail _ (.tail _ (List.mem_append_left _ (List.mem_append_right _ (List.mem_append_left _ q)))))))))
      exact fun p q => (.tail _ (List.mem_append_right _ (.tail _ (.tail _ (.tail _ (.tail _ (List.mem_append_right _ (List.mem_append_right _ q))))))))
    refine fm_app ?_ ?_
    · exact fun p q => (.tail _ (List.mem_append_right _ (.tail _ (.tail _ (.tail _ (.tail _ (List.mem_append_left _ (List.mem_append_right _ (List.mem_append_right _ (List.mem_append_left _ q))))))))))
    exact fun p q => (.tail _ (List.mem_append_right _ (.tail _ (.tail _ (.tail _ (.tail _ (List.mem_append_left _ (List.mem_append_right _ (List.mem_append_right _ (List.mem_append_right _ q))))))))))
  exact key p h
theorem perm2 {α : Type} {p : α} {cl cln ws wsn tps fr : List α} (h : p ∈ (cl ++ cln) ++ ((ws ++ wsn) ++ (tps ++ fr))) : p ∈ cl ++ (ws ++ (tps ++ fr)) ∨ p ∈ cln ++ wsn := by grind
theorem perm3 {α : Type} {p : α} {cl cln ws wsn tps : List α} (h : p ∈ (cl ++ cln) ++ ((ws ++ wsn) ++ tps)) : p ∈ cl ++ (ws ++ tps) ∨ p ∈ cln ++ wsn := by grind
theorem perm4 {α : Type} {p D a b c d e : α} {fo cwt cln fr2 : List α} (h : p ∈ D :: (fo ++ (a :: b :: c :: d :: e :: (cwt ++ (cln ++ fr2))))) : p ∈ D :: (fo ++ (a :: b :: c :: d :: e :: (cwt ++ cln))) ∨ p ∈ fr2 := by
  have key : ∀ q0, q0 ∈ D :: (fo ++ (a :: b :: c :: d :: e :: (cwt ++ (cln ++ fr2)))) → q0 ∈ D :: (fo ++ (a :: b :: c :: d :: e :: (cwt ++ cln))) ∨ q0 ∈ fr2 := by
    clear h
    refine fm_cons ?_ ?_
    · exact .inl (.head _)
    refine fm_app ?_ ?_
    · exact fun p q => .inl (.tail _ (List.mem_append_left _ q))
    refine fm_app (k := [a, b, c, d, e]) ?_ ?_
    · exact fun p q => .inl (.tail _ (List.mem_append_right _ (List.mem_append_left _ q)))
    refine fm_app ?_ ?_
    · exact fun p q => .inl (.tail _ (List.mem_append_right _ (List.mem_append_right [a, b, c, d, e] (List.mem_append_left _ q))))
    refine fm_app ?_ ?_
    · exact fun p q => .inl (.tail _ (List.mem_append_right _ (List.mem_append_right [a, b, c, d, e] (List.mem_append_right _ q))))
    exact fun p q => .inr q
  exact key p h
theorem perm5 {α : Type} {p tp D a b c d e : α} {fo cwt cln fr2 : List α} (h : p ∈ tp :: (fo ++ (a :: c :: d :: e :: (cwt ++ (cln ++ fr2))))) : p ∈ tp :: D :: (fo ++ (a :: b :: c :: d :: e :: (cwt ++ (cln ++ fr2)))) := by grind
theorem perm6 {α : Type} {p tp a b c d e : α} {fo cl ws tps cln fr2 : List α} (h : p ∈ fo ++ (a :: b :: c :: d :: e :: ((cl ++ cln) ++ (ws ++ ((tps ++ [tp]) ++ fr2))))) : p ∈ b :: tp :: (fo ++ (a :: c :: d :: e :: ((cl ++ (ws ++ tps)) ++ (cln ++ fr2)))) := by
  have key : ∀ q0, q0 ∈ fo ++ (a :: b :: c :: d :: e :: ((cl ++ cln) ++ (ws ++ ((tps ++ [tp]) ++ fr2)))) → q0 ∈ b :: tp :: (fo ++ (a :: c :: d :: e :: ((cl ++ (ws ++ tps)) ++ (cln ++ fr2)))) := by
    clear h
    refine fm_app ?_ ?_
    · exact fun p q => (.tail _ (.tail _ (List.mem_append_left _ q)))
    refine fm_cons ?_ ?_
    · exact (.tail _ (.tail _ (List.mem_append_right _ (.head _))))
    refine fm_cons ?_ ?_
    · exact (.head _)
    refine fm_cons ?_ ?_
    · exact (.tail _ (.tail _ (List.mem_append_right _ (.tail _ (.head _)))))
    refine fm_cons ?_ ?_
    · exact (.tail _ (.tail _ (List.mem_append_right _ (.tail _ (.tail _ (.head _))))))
    refine fm_cons ?_ ?_
    · exact (.tail _ (.tail _ (List.mem_append_right _ (.tail _ (.tail _ (.tail _ (.head _)))))))
    refine fm_app ?_ ?_
    · refine fm_app ?_ ?_
      · exact fun p q => (.tail _ (.tail _ (List.mem_append_right _ (.tail _ (.tail _ (.tail _ (.tail _ (List.mem_append_left _ (List.mem_append_left _ q)))))))))
      exact fun p q => (.tail _ (.tail _ (List.mem_append_right _ (.tail _ (.tail _ (.tail _ (.tail _ (List.mem_append_right _ (List.mem_append_left _ q)))))))))
    refine fm_app ?_ ?_
    · exact fun p q => (.tail _ (.tail _ (List.mem_append_right _ (.tail _ (.tail _ (.tail _ (.tail _ (List.mem_append_left _ (List.mem_append_right _ (List.mem_append_left _ q))))))))))
    refine fm_app ?_ ?_
    · refine fm_app ?_ ?_
      · exact fun p q => (.tail _ (.tail _ (List.mem_append_right _ (.tail _ (.tail _ (.tail _ (.tail _ (List.mem_append_left _ (List.mem_append_right _ (List.mem_append_right _ q))))))))))
      refine fm_cons ?_ ?_
      · exact (.tail _ (.head _))
      exact fun p q => nomatch q
    exact fun p q => (.tail _ (.tail _ (List.mem_append_right _ (.tail _ (.tail _ (.tail _ (.tail _ (List.mem_append_right _ (List.mem_append_right _ q)))))))))
  exact key p h
theorem perm7 {α : Type} {p tp : α} {cl ws tps cln fr2 : List α} (h : p ∈ (cl ++ cln) ++ (ws ++ ((tps ++ [tp]) ++ fr2))) : p ∈ cl ++ (ws ++ tps) ∨ p ∈ cln ∨ p = tp ∨ p ∈ fr2 := by grind
theorem perm8 {α : Type} {p tp : α} {cl ws tps cln : List α} (h : p ∈ (cl ++ cln) ++ (ws ++ (tps ++ [tp]))) : p ∈ cl ++ (ws ++ tps) ∨ p ∈ cln ∨ p = tp := by grind
theorem read_turn {hb hE base : Heap} {L : Addr} {outer : List Env} {dp l rf ln : Addr} {fo0 : List (Addr × Obj)} {ld : List Str} {Q : Flow → Shared → Prop} (K : RdCx w A hb hE base L outer dp l rf fo0 ld mg mb)
    {i : Nat} {x : Str} {t u : Tok} {m : Str → Option Value} {nw fo : List (Addr × Obj)} {I : Addr} (hx : ld[i]? = some x) (S : RdP w hb (frs outer) dp l rf fo0 ld i g m nw) (hne : ∀ p ∈ nw, p.1 ≠ I ∧ p.1 ≠ I + 1)
    (F : Fr hb L h (Upd (Upd m ⟨⟨[110, 117, 109, 98, 101, 114]⟩⟩ (.int i t)) ⟨⟨[108, 105, 110, 101]⟩⟩ (.str (rowT x) u))) (N : News hb L h (fo ++ nw)) (hI : ∃ o, (I, o) ∈ fo) (hI1 : ∃ o, (I + 1, o) ∈ fo) (hfk : ∀ p ∈ fo, p.1 = I ∨ p.1 = I + 1) :
    wpAny (MM w) A (execs (turnB w.params) (envRead w.params L)) (Lp (FInv hb L d os (RdP w hb (frs outer) dp l rf fo0 ld) fo [I + 1, I] (i + 1)) Q) E ⟨h, g, d, tk, os⟩ := by
  refine holdG fun Pz kz => ?_
  obtain ⟨vs, n0, ls, od, kvs, rs, dvs, n1, ds, ps, op, ps2, cl, ws, tps, fr, S⟩ := S
  refine kz ?_
  clear kz Pz
  have hh := K.R.hd
  have B := K.B
  refine seq (wpAny_Try_except ?_)
  have hmb := S.mb
  have hmr := S.mr
  have hmd := S.md
  have enw := S.nw
  subst enw
  have mm : ∀ p, p ∈ (l, listO vs n0) :: (rf, od) :: (dp, listO dvs n1) :: (226, tabObj ps) :: (147, op) :: (cl ++ (ws ++ (tps ++ fr))) → p ∈ fo ++ ((l, listO vs n0) :: (rf, od) :: (dp, listO dvs n1) :: (226, tabObj ps) :: (147, op) :: (cl ++ (ws ++ (tps ++ fr)))) := fun p hp => List.mem_append_right _ hp
  repeat kbo_bools
  refine m_append N (mm _ (.tail _ (.tail _ (.head _)))) rfl rfl ?_
  repeat kbo_bools
  show wpAny _ _ (call (.ref 231) [.ref l, .int i t, .str (rowT x) u]) _ _ _
  have mcl : ∀ p ∈ cl, p ∈ (l, listO vs n0) :: (rf, od) :: (dp, listO dvs n1) :: (226, tabObj ps) :: (147, op) :: (cl ++ (ws ++ (tps ++ fr))) := fun p hp => .tail _ (.tail _ (.tail _ (.tail _ (.tail _ (List.mem_append_left _ hp)))))
  have mws : ∀ p ∈ ws, p ∈ (l, listO vs n0) :: (rf, od) :: (dp, listO dvs n1) :: (226, tabObj ps) :: (147, op) :: (cl ++ (ws ++ (tps ++ fr))) := fun p hp => .tail _ (.tail _ (.tail _ (.tail _ (.tail _ (List.mem_append_right _ (List.mem_append_left _ hp))))))
  have mtp : ∀ p ∈ tps, p ∈ (l, listO vs n0) :: (rf, od) :: (dp, listO dvs n1) :: (226, tabObj ps) :: (147, op) :: (cl ++ (ws ++ (tps ++ fr))) := fun p hp => .tail _ (.tail _ (.tail _ (.tail _ (.tail _ (List.mem_append_right _ (List.mem_append_right _ (List.mem_append_left _ hp)))))))
  have mfr : ∀ p ∈ fr, p ∈ (l, listO vs n0) :: (rf, od) :: (dp, listO dvs n1) :: (226, tabObj ps) :: (147, op) :: (cl ++ (ws ++ (tps ++ fr))) := fun p hp => .tail _ (.tail _ (.tail _ (.tail _ (.tail _ (List.mem_append_right _ (List.mem_append_right _ (List.mem_append_right _ hp)))))))
  have mcwt : ∀ p ∈ cl ++ (ws ++ tps), p ∈ cl ++ (ws ++ (tps ++ fr)) := by
    refine fm_app ?_ ?_
    · intro p hp
      exact List.mem_append_left _ hp
    refine fm_app ?_ ?_
    · intro p hp
      exact List.mem_append_right _ (List.mem_append_left _ hp)
    intro p hp
    · exact List.mem_append_right _ (List.mem_append_right _ (List.mem_append_left _ hp))
  have hxm : x ∈ LEADS := K.lm x (List.mem_of_getElem? hx)
  have hi6 : i < 6 := Nat.lt_of_lt_of_le (List.getElem?_eq_some_iff.mp hx).1 K.l6
  have N226 := N _ (mm _ (.tail _ (.tail _ (.tail _ (.head _)))))
  have N147 := N _ (mm _ (.tail _ (.tail _ (.tail _ (.tail _ (.head _))))))
  have Nl := N _ (mm _ (.head _))
  have Nrf := N _ (mm _ (.tail _ (.head _)))
  have Ndp := N _ (mm _ (.tail _ (.tail _ (.head _))))
  dsimp only at N226 N147 Nl Nrf Ndp
  have hXb : ∀ a ∈ [226, 147, l], hb.get? a = none ∧ a ≠ L := by
    refine fm_cons ?_ ?_
    · exact ⟨N226.2.2, N226.2.1⟩
    refine fm_cons ?_ ?_
    · exact ⟨N147.2.2, N147.2.1⟩
    intro a ha
    · rw [List.mem_singleton.mp ha]; exact ⟨Nl.2.2, Nl.2.1⟩
  have hX : ∀ a ∈ [226, 147, l] ++ frs (envRead w.params L :: outer), hb.get? a = none := by
    refine fm_app ?_ ?_
    · intro a ha
      exact (hXb a ha).1
    intro a ha
    · rcases List.mem_cons.mp (show a ∈ L :: frs outer from ha) with rfl | ha
      · exact K.hbL
      · exact K.hbn a ha
  have hsl : ∀ a ∈ frs outer, ∀ o, hE.get? a = some o → ∃ sl, h.get? a = some { o with slots := sl } := fun a ha o e => by
    obtain ⟨sl, q⟩ := S.sl.to (a, o) (by rw [K.fo]; exact objsAt_mem.mpr ⟨ha, e⟩)
    exact ⟨sl, (N _ (mm _ (mfr _ q))).1⟩
  have hkind : (envRead w.params L).scope.kind ≠ .module := by rw [show (envRead w.params L).scope.kind = .function by kernel_rfl]; decide
  have FFh : ∀ base' : Heap, (∀ a ∈ L :: frs outer, base'.get? a = none) → h.FunFrames base' (envRead w.params L :: outer) := fun base' hb' => by
    refine holdG fun Pz kz => ?_
    obtain ⟨oL, es, ep, ho, hd', _⟩ := F.ns
    refine kz ?_
    clear kz Pz
    exact ⟨hkind, ⟨L, oL, rfl, hb' L (.head _), ho, fun vs q => by (first | exact gX q hd' | exact gX hd' q | (rw [hd'] at q; cases q))⟩, ff_sl K.FF (fun a ha => hb' a (.tail _ ha)) hsl⟩
  have hXL : ∀ a ∈ L :: frs outer, (hideAll h ([226, 147, l] ++ frs (envRead w.params L :: outer))).get? a = none := fun a ha => hideAll_none _ (List.mem_append_right _ ha)
  have hlf : l ∉ frs (envRead w.params L :: outer) := fun q => by
    rcases List.mem_cons.mp (show l ∈ L :: frs outer from q) with q | q
    · exact Nl.2.1 q
    · exact K.f1 q
  have notX : ∀ p ∈ cl ++ (ws ++ tps), p.1 ∉ [226, 147, l] ++ frs (envRead w.params L :: outer) := fun p hp q => by
    have h1 := S.ot p (mcwt p hp)
    have h2 := S.ow p hp
    have h3 := (N p (mm _ (.tail _ (.tail _ (.tail _ (.tail _ (.tail _ (mcwt p hp)))))))).2.1
    rcases List.mem_append.mp q with q | q
    · refine h1 ?_
      rcases List.mem_cons.mp q with q | q
      · rw [q]; exact .tail _ (.tail _ (.tail _ (.head _)))
      rcases List.mem_cons.mp q with q | q
      · rw [q]; exact .tail _ (.tail _ (.tail _ (.tail _ (.head _))))
      · rw [List.mem_singleton.mp q]; exact .head _
    · rcases List.mem_cons.mp (show p.1 ∈ L :: frs outer from q) with q | q
      · exact h3 q
      · exact h2 q
  have Nws : News hb L h ws := news_sub N (fun p hp => mm _ (mws p hp))
  have hBK := S.bl.blk (h := h) Nws (X := [226, 147, l] ++ frs (envRead w.params L :: outer)) (fun p hp => notX p (List.mem_append_right _ (List.mem_append_left _ hp))) S.ch.mem
  have ewt := wt_row hxm
  have C0 : h.IsCode 151 147 ps2 := (codeHd_of_K (B.X.keeps F.keep) (hd_151 _)).code (S.o0 ▸ N147.1) S.o2
  have new_ne : ∀ p : Addr × Obj, h.get? p.1 = none → p.1 ∉ [l, rf, dp, 226, 147] ∧ p.1 ∉ frs outer ∧ p.1 ≠ I ∧ p.1 ≠ I + 1 := fun p hp => by
    refine ⟨fun q => ?_, fun q => ?_, fun q => ?_, fun q => ?_⟩
    · rcases List.mem_cons.mp q with q | q
      · (first | exact gX hp ((congrArg _ q).trans Nl.1) | exact gX Nl.1 ((congrArg _ q).symm.trans hp) | (rw [q, Nl.1] at hp; cases hp))
      rcases List.mem_cons.mp q with q | q
      · (first | exact gX hp ((congrArg _ q).trans Nrf.1) | exact gX Nrf.1 ((congrArg _ q).symm.trans hp) | (rw [q, Nrf.1] at hp; cases hp))
      rcases List.mem_cons.mp q with q | q
      · (first | exact gX hp ((congrArg _ q).trans Ndp.1) | exact gX Ndp.1 ((congrArg _ q).symm.trans hp) | (rw [q, Ndp.1] at hp; cases hp))
      rcases List.mem_cons.mp q with q | q
      · (first | exact gX hp ((congrArg _ q).trans N226.1) | exact gX N226.1 ((congrArg _ q).symm.trans hp) | (rw [q, N226.1] at hp; cases hp))
      · (first | exact gX hp ((congrArg _ (List.mem_singleton.mp q)).trans N147.1) | exact gX N147.1 ((congrArg _ (List.mem_singleton.mp q)).symm.trans hp) | (rw [List.mem_singleton.mp q, N147.1] at hp; cases hp))
    · refine holdG fun Pz kz => ?_
      obtain ⟨_, o, qo, _⟩ := K.FF.mem q
      obtain ⟨sl, qs⟩ := hsl _ q _ qo
      refine kz ?_
      clear kz Pz
      (first | exact gX hp qs | exact gX qs hp | (rw [qs] at hp; cases hp))
    · obtain ⟨o, ho⟩ := hI; (first | exact gX hp ((congrArg _ q).trans (N _ (List.mem_append_left _ ho)).1) | exact gX (N _ (List.mem_append_left _ ho)).1 ((congrArg _ q).symm.trans hp) | (rw [q, (N _ (List.mem_append_left _ ho)).1] at hp; cases hp))
    · obtain ⟨o, ho⟩ := hI1; (first | exact gX hp ((congrArg _ q).trans (N _ (List.mem_append_left _ ho)).1) | exact gX (N _ (List.mem_append_left _ ho)).1 ((congrArg _ q).symm.trans hp) | (rw [q, (N _ (List.mem_append_left _ ho)).1] at hp; cases hp))
  have fo_ne : ∀ p ∈ fo, ∀ q ∈ (l, listO vs n0) :: (rf, od) :: (dp, listO dvs n1) :: (226, tabObj ps) :: (147, op) :: (cl ++ (ws ++ (tps ++ fr))), p.1 ≠ q.1 := fun p hp q hq e => by
    rcases hfk p hp with r | r
    · exact (hne q hq).1 (e ▸ r)
    · exact (hne q hq).2 (e ▸ r)
  refine laid_ok (ps := ps) (ps2 := ps2) (xs := ls.map wtOf) (dd := depthOf ls x) (outer := envRead w.params L :: outer) (B.hide F.keep hX) (K.R.le (by decide)) K.fr (FFh _ hXL) Nl.1 hlf hBK (by rw [S.bl.len]; have := S.hl; (first | lia | omega)) (row_short hxm) N226.1 S.t1 (S.t2.imp id fun ⟨c', e, oo, vv, tt, q, q1, q2⟩ => ⟨c', e, c', oo, vv, tt, rfl, hideAll_get _ (N _ (mm _ (mcl _ q))).1 (notX _ (List.mem_append_left _ q)), q1, q2⟩)
    C0 (S.o0 ▸ N147.1) S.G (by rw [List.length_map]; exact depth_le _ _) (fun j hj => by rw [ewt]; exact Chain.key1 j hj) (fun j hj hj2 => by rw [ewt]; exact S.ch.key2 hxm j hj hj2) (by rw [ewt]; exact wok hxm) rfl (fun heq a n' h' g' t' tk' ps2' M hl' W TL C' hT' G' => ?_) (fun y hy => ?_) (fun y hy hneq e D T' fs h' g' tk' t1 t2 t3 t4 ps2' M X12 hD hen hDn hTn he' hcx TL C' hT' G' => ?_)
  · refine holdG fun Pz kz => ?_
    obtain ⟨ps', cln, c', hP', hT1', hT2', hCL, Ncl, hcln, _⟩ := tab_next F TL S.t2
    obtain ⟨wsn, Nwn, Wl, hwn⟩ := W.led F
    refine kz ?_
    clear kz Pz
    rw [ewt] at Wl
    refine holdG fun Pz kz => ?_
    obtain ⟨_, _, _, _, _, _, _, _, _, op', _, _, _, _, _, _, _, z8, z9, z10, _⟩ := id C'
    refine kz ?_
    clear kz Pz
    have eop' : op' = tabObj ps2' := Option.some.inj (z8.symm.trans hT')
    have F' := fr_mv F M hXb (fun _ q => nomatch q)
    have old_ne : ∀ p ∈ cl ++ (ws ++ (tps ++ fr)), p.1 ∉ [226, 147, l] := fun p hp q => S.ot p hp (by
      rcases List.mem_cons.mp q with q | q
      · rw [q]; exact .tail _ (.tail _ (.tail _ (.head _)))
      rcases List.mem_cons.mp q with q | q
      · rw [q]; exact .tail _ (.tail _ (.tail _ (.tail _ (.head _))))
      · rw [List.mem_singleton.mp q]; exact .head _)
    have Nfo : News hb L h' fo := nw_mv (news_sub N (fun p hp => List.mem_append_left _ hp)) M (fun p hp => ⟨fun q => by
      rcases List.mem_cons.mp q with q | q
      · exact fo_ne p hp _ (.tail _ (.tail _ (.tail _ (.head _)))) q
      rcases List.mem_cons.mp q with q | q
      · exact fo_ne p hp _ (.tail _ (.tail _ (.tail _ (.tail _ (.head _))))) q
      · exact fo_ne p hp _ (.head _) (List.mem_singleton.mp q), by simp⟩)
    have Nold : News hb L h' (cl ++ (ws ++ (tps ++ fr))) := nw_mv (news_sub N (fun p hp => mm _ (.tail _ (.tail _ (.tail _ (.tail _ (.tail _ hp))))))) M (fun p hp => ⟨old_ne p hp, by simp⟩)
    have Nrd : News hb L h' [(rf, od), (dp, listO dvs n1)] := nw_mv (news_sub N (by
      refine fm_cons ?_ ?_
      · exact mm _ (.tail _ (.head _))
      intro p hp
      · rw [List.mem_singleton.mp hp]; exact mm _ (.tail _ (.tail _ (.head _))))) M (fun p hp => ⟨fun q => by
        have n1' := K.n1; have n2' := K.n2; have n6' := K.n6; have n7' := K.n7; have n8' := K.n8; have n9' := K.n9
        revert q
        revert p hp
        refine fm_cons (fun q => ?_) (fm_cons (fun q => ?_) (fun p hp => nomatch hp))
        · rcases List.mem_cons.mp q with q | q
          · exact n6' q
          rcases List.mem_cons.mp q with q | q
          · exact n7' q
          · exact n1' (List.mem_singleton.mp q).symm
        · rcases List.mem_cons.mp q with q | q
          · exact n8' q
          rcases List.mem_cons.mp q with q | q
          · exact n9' q
          · exact n2' (List.mem_singleton.mp q).symm, fun q => nomatch q⟩)
    have Nn : News hb L h' ((dp, listO dvs n1) :: (fo ++ ((l, listO (vs.take (depthOf ls x) ++ [.ref a]) n') :: (rf, od) :: (226, tabObj ps') :: (147, op') :: ((cl ++ (ws ++ (tps ++ fr))) ++ (cln ++ wsn))))) := by
      refine fm_cons ?_ ?_
      · exact Nrd _ (.tail _ (.head _))
      refine fm_app ?_ ?_
      · intro p hp
        exact Nfo p hp
      refine fm_cons ?_ ?_
      · exact ⟨hl', Nl.2⟩
      refine fm_cons ?_ ?_
      · exact Nrd _ (.head _)
      refine fm_cons ?_ ?_
      · exact ⟨hP', N226.2⟩
      refine fm_cons ?_ ?_
      · exact ⟨z8, N147.2⟩
      refine fm_app ?_ ?_
      · intro p hp
        exact Nold p hp
      refine fm_app ?_ ?_
      · intro p hp
        exact Ncl p hp
      intro p hp
      · exact Nwn p hp
    have ndp : ∀ p ∈ fo ++ ((l, listO (vs.take (depthOf ls x) ++ [.ref a]) n') :: (rf, od) :: (226, tabObj ps') :: (147, op') :: ((cl ++ (ws ++ (tps ++ fr))) ++ (cln ++ wsn))), p.1 ≠ dp := by
      refine fm_app ?_ ?_
      · intro p hp
        exact fo_ne p hp _ (.tail _ (.tail _ (.head _)))
      refine fm_cons ?_ ?_
      · exact K.n2
      refine fm_cons ?_ ?_
      · exact K.n5
      refine fm_cons ?_ ?_
      · exact Ne.symm K.n8
      refine fm_cons ?_ ?_
      · exact Ne.symm K.n9
      refine fm_app ?_ ?_
      · intro p hp
        exact fun e => S.ot p hp (by rw [e]; exact .tail _ (.tail _ (.head _)))
      intro p hp
      · refine fun e => (new_ne p ?_).1 (by rw [e]; exact .tail _ (.tail _ (.head _)))
        rcases List.mem_append.mp hp with hp | hp
        · exact hcln p hp
        · exact hwn p hp
    repeat kbo_bools
    show wpAny _ _ (call (.builtin "list.append") [.ref dp, .int (depthOf ls x) t']) _ _ _
    have hdl := S.dl.length
    have hdn := S.dn
    refine l_append F' Nn (.head _) (by rw [hdl]; unfold dsI; rw [List.length_map]; (first | lia | omega)) (fun p hp => ⟨.tail _ hp, ndp p hp⟩) (fun h2 n2 F2 N2 S2 => ?_)
    repeat kbo_bools
    refine lp_next ⟨h2, g', _, _, (l, listO (vs.take (depthOf ls x) ++ [.ref a]) n') :: (rf, od) :: (dp, listO (dvs ++ [.int (depthOf ls x) t']) n2) :: (226, tabObj ps') :: (147, op') :: ((cl ++ cln) ++ ((ws ++ wsn) ++ (tps ++ fr))), rfl, F2, news_sub N2 (fun p hp => ?_), fun p hp => ?_, vs.take (depthOf ls x) ++ [.ref a], n', ls.take (depthOf ls x) ++ [x], od, kvs, rs, dvs ++ [.int (depthOf ls x) t'], n2, ds ++ [depthOf ls x], ps', op', ps2', cl ++ cln, ws ++ wsn, tps, fr,
      { G := G', mb := by tb_rel, mr := by tb_rel, md := by tb_rel, nw := rfl, bl := (S.bl.mono (fun p hp => List.mem_append_left _ hp)).snoc (depth_le _ _) (Wl.mono fun p hp => List.mem_append_right _ hp), ch := S.ch.laid hxm,
        hl := ?_, od := S.od, rl := S.rl, rk := fun p hp => Nat.lt_succ_of_lt (S.rk p hp), rn := Nat.le_succ_of_le S.rn, dl := ?_, dn := by rw [List.length_append]; exact Nat.succ_le_succ S.dn, t1 := hT1', t2 := .inr ⟨c', hT2', hCL⟩, o0 := eop', o1 := z9, o2 := z10, sl := S.sl,
        ot := fun p hp => ?_, ow := fun p hp => ?_, go := ?_ }⟩
    · exact perm1 hp
    · have hI12 : ∀ a, a ≠ I ∧ a ≠ I + 1 → a ∉ [I + 1, I] := fun a ha q => by
        rcases List.mem_cons.mp q with q | q
        · exact ha.2 q
        · exact ha.1 (List.mem_singleton.mp q)
      refine hI12 _ ?_
      revert p hp
      refine fm_cons ?_ ?_
      · exact hne (l, listO vs n0) (.head _)
      refine fm_cons ?_ ?_
      · exact hne (rf, od) (.tail _ (.head _))
      refine fm_cons ?_ ?_
      · exact hne (dp, listO dvs n1) (.tail _ (.tail _ (.head _)))
      refine fm_cons ?_ ?_
      · exact hne (226, tabObj ps) (.tail _ (.tail _ (.tail _ (.head _))))
      refine fm_cons ?_ ?_
      · exact hne (147, op) (.tail _ (.tail _ (.tail _ (.tail _ (.head _)))))
      intro p hp
      rcases perm2 hp with hp | hp
      · exact hne _ (.tail _ (.tail _ (.tail _ (.tail _ (.tail _ hp)))))
      · rcases List.mem_append.mp hp with hp | hp
        · exact (new_ne p (hcln p hp)).2.2
        · exact (new_ne p (hwn p hp)).2.2
    · have h1 := depth_le ls x
      have h2 := S.hl
      rw [List.length_append, List.length_take, List.length_singleton]; (first | lia | omega)
    · have e : dsI (ds ++ [depthOf ls x]) = dsI ds ++ [((depthOf ls x : Nat) : Int)] := by unfold dsI; simp
      rw [e]
      exact S.dl.append (.cons _ _ .nil)
    · rcases perm2 hp with hp | hp
      · exact S.ot p hp
      · rcases List.mem_append.mp hp with hp | hp
        · exact (new_ne p (hcln p hp)).1
        · exact (new_ne p (hwn p hp)).1
    · rcases perm3 hp with hp | hp
      · exact S.ow p hp
      · rcases List.mem_append.mp hp with hp | hp
        · exact (new_ne p (hcln p hp)).2.1
        · exact (new_ne p (hwn p hp)).2.1
    · rw [← S.go, drop_at hx, run_some]
      intro b hb'
      have := heq (wtOf b) (by rw [List.getElem?_map, hb']; rfl)
      rw [ewt] at this
      exact this
  · rw [ewt]
    rw [List.getElem?_map] at hy
    obtain ⟨b, hb', rfl⟩ := Option.map_eq_some_iff.mp hy
    exact wit_small (S.ch.mem b (List.mem_of_getElem? hb')) hxm
  · rw [ewt] at hneq
    rw [List.getElem?_map] at hy
    obtain ⟨b, hbx, rfl⟩ := Option.map_eq_some_iff.mp hy
    rw [ewt] at hD
    refine holdG fun Pz kz => ?_
    obtain ⟨ps', cln, c', hP', hT1', hT2', hCL, Ncl, hcln, hclc⟩ := tab_next F TL S.t2
    obtain ⟨hce1, hce2⟩ := hcx ps' c' hP' hT2'
    obtain ⟨_, _, _, _, _, _, _, _, _, op', _, _, _, _, _, _, _, z8, z9, z10, _⟩ := id C'
    refine kz ?_
    clear kz Pz
    have eop' : op' = tabObj ps2' := Option.some.inj (z8.symm.trans hT')
    have M' : Mv [226, 147] (L :: frs outer) h h' := M
    have hX2 : ∀ a ∈ [226, 147], hb.get? a = none ∧ a ≠ L := by
      refine fm_cons ?_ ?_
      · exact ⟨N226.2.2, N226.2.1⟩
      intro a ha
      · rw [List.mem_singleton.mp ha]; exact ⟨N147.2.2, N147.2.1⟩
    have hSn : ∀ a ∈ L :: frs outer, hb.get? a = none := by
      refine fm_cons ?_ ?_
      · exact K.hbL
      intro a ha
      · exact K.hbn a ha
    have F' := fr_mv F M' hX2 hSn
    have frm : ∀ a ∈ frs outer, ∃ o, (a, o) ∈ fr := fun a ha => by
      refine holdG fun Pz kz => ?_
      obtain ⟨_, o, qo, _⟩ := K.FF.mem ha
      refine kz ?_
      clear kz Pz
      obtain ⟨sl, q⟩ := S.sl.to (a, o) (by rw [K.fo]; exact objsAt_mem.mpr ⟨ha, qo⟩)
      exact ⟨_, q⟩
    have kp : ∀ p : Addr × Obj, p ∈ fo ++ ((l, listO vs n0) :: (rf, od) :: (dp, listO dvs n1) :: (226, tabObj ps) :: (147, op) :: (cl ++ (ws ++ (tps ++ fr)))) → p.1 ∉ [226, 147] → p.1 ∉ frs outer → h'.get? p.1 = some p.2 := fun p hp h1 h2 =>
      (M' p.1 p.2 h1 (N p hp).1).1 (fun q => by
        rcases List.mem_cons.mp q with q | q
        · exact (N p hp).2.1 q
        · exact h2 q)
    have fof : ∀ p ∈ fo, p.1 ∉ frs outer := fun p hp q => by
      obtain ⟨o, ho⟩ := frm _ q
      exact fo_ne p hp _ (mfr _ ho) rfl
    have fo2 : ∀ p ∈ fo, p.1 ∉ [226, 147] := fun p hp q => by
      rcases List.mem_cons.mp q with q | q
      · exact fo_ne p hp _ (.tail _ (.tail _ (.tail _ (.head _)))) q
      · exact fo_ne p hp _ (.tail _ (.tail _ (.tail _ (.tail _ (.head _))))) (List.mem_singleton.mp q)
    have cw2 : ∀ p ∈ cl ++ (ws ++ tps), p.1 ∉ [226, 147] := fun p hp q => S.ot p (mcwt p hp) (by
      rcases List.mem_cons.mp q with q | q
      · rw [q]; exact .tail _ (.tail _ (.tail _ (.head _)))
      · rw [List.mem_singleton.mp q]; exact .tail _ (.tail _ (.tail _ (.tail _ (.head _)))))
    have two : ∀ a : Addr, a ≠ 226 → a ≠ 147 → a ∉ [226, 147] := fun a h1 h2 q => by
      rcases List.mem_cons.mp q with q | q
      · exact h1 q
      · exact h2 (List.mem_singleton.mp q)
    have hDL : D ≠ L := fun q => by obtain ⟨oL, _, _, qL, _⟩ := F.ns; (first | exact gX hDn ((congrArg _ q).trans qL) | exact gX qL ((congrArg _ q).symm.trans hDn) | (rw [q, qL] at hDn; cases hDn))
    have hbD : hb.get? D = none := by
      refine gN fun o q => ?_
      (first | exact gX hDn (F.keep _ _ q) | exact gX (F.keep _ _ q) hDn | (rw [F.keep _ _ q] at hDn; cases hDn))
    have hbe : hb.get? e = none := by
      refine gN fun o q => ?_
      (first | exact gX hen (F.keep _ _ q) | exact gX (F.keep _ _ q) hen | (rw [F.keep _ _ q] at hen; cases hen))
    have hbT : hb.get? T' = none := by
      refine gN fun o q => ?_
      (first | exact gX hTn (F.keep _ _ q) | exact gX (F.keep _ _ q) hTn | (rw [F.keep _ _ q] at hTn; cases hTn))
    have Nc : News hb L h' ((D, dictOf (nagEs w.params t1 t2 t3 (.int i t) (.str (wordsOf (witL (wtOf b) (wtOf x) (witN (wtOf b) (wtOf x)))) t4) (.str (rowT x) u)) 3) :: (fo ++ ((l, listO vs n0) :: (rf, od) :: (dp, listO dvs n1) :: (226, tabObj ps') :: (147, op') :: ((cl ++ (ws ++ tps)) ++ cln)))) := by
      refine fm_cons ?_ ?_
      · exact ⟨hD, hDL, hbD⟩
      refine fm_app ?_ ?_
      · intro p hp
        exact ⟨kp p (List.mem_append_left _ hp) (fo2 p hp) (fof p hp), (N p (List.mem_append_left _ hp)).2⟩
      refine fm_cons ?_ ?_
      · exact ⟨kp _ (mm _ (.head _)) (two _ K.n3 K.n4) K.f1, Nl.2⟩
      refine fm_cons ?_ ?_
      · exact ⟨kp _ (mm _ (.tail _ (.head _))) (two _ K.n6 K.n7) K.f2, Nrf.2⟩
      refine fm_cons ?_ ?_
      · exact ⟨kp _ (mm _ (.tail _ (.tail _ (.head _)))) (two _ K.n8 K.n9) K.f3, Ndp.2⟩
      refine fm_cons ?_ ?_
      · exact ⟨hP', N226.2⟩
      refine fm_cons ?_ ?_
      · exact ⟨z8, N147.2⟩
      refine fm_app ?_ ?_
      · intro p hp
        have hm := mm _ (.tail _ (.tail _ (.tail _ (.tail _ (.tail _ (mcwt p hp))))))
        exact ⟨kp p hm (cw2 p hp) (S.ow p hp), (N p hm).2⟩
      intro p hp
      · exact Ncl p hp
    have hDe : D ≠ e := fun q => by (first | exact gX hD ((congrArg _ q).trans he') | exact gX he' ((congrArg _ q).symm.trans hD) | (rw [q, he'] at hD; cases hD))
    have hDT : D ≠ T' := fun q => by
      refine holdG fun Pz kz => ?_
      obtain ⟨_, oT, ts, _, _, _, qT, qd, _⟩ := X12.out
      refine kz ?_
      clear kz Pz
      rw [← q, hD] at qT; cases qT; cases qd
    have olde : ∀ p : Addr × Obj, p ∈ fo ++ ((l, listO vs n0) :: (rf, od) :: (dp, listO dvs n1) :: (226, tabObj ps) :: (147, op) :: (cl ++ (ws ++ (tps ++ fr)))) → p.1 ≠ e ∧ p.1 ≠ T' := fun p hp =>
      ⟨fun q => (by rw [← q, (N p hp).1] at hen; cases hen), fun q => (by rw [← q, (N p hp).1] at hTn; cases hTn)⟩
    have noL : ∀ a : Addr, a ≠ L → a ∉ frs outer → a ∉ frs (envRead w.params L :: outer) := fun a h1 h2 q => by
      rcases List.mem_cons.mp (show a ∈ L :: frs outer from q) with q | q
      · exact h1 q
      · exact h2 q
    have FF' : h'.FunFrames hb (envRead w.params L :: outer) := ff_mv (FFh hb hSn) M' (fun a ha q => by
      revert q
      revert a ha
      refine (fm_cons (fun q => ?_) (fm_cons (fun q => ?_) (fun p hp => nomatch hp)))
      · exact noL _ N226.2.1 K.f4 q
      · exact noL _ N147.2.1 K.f5 q)
    have hsl' : ∀ a ∈ frs outer, ∀ o, hE.get? a = some o → ∃ sl, h'.get? a = some { o with slots := sl } := fun a ha o eo => by
      obtain ⟨sl, q⟩ := hsl a ha o eo
      obtain ⟨sl2, q2⟩ := (M' a _ (fun q' => by
        rcases List.mem_cons.mp q' with rfl | q'
        · exact K.f4 ha
        · rw [List.mem_singleton.mp q'] at ha; exact K.f5 ha) q).2 (.tail _ ha)
      exact ⟨sl2, q2⟩
    refine caught (hp := hb) F' Nc B K.fr FF' rfl X12 hbe hbT (fun p hp => ?_) (nag_cls _) (gl_NannyNag _) (fun h2 tk2 fs2 E1 F2 N2 he2 M2 hsz => ?_)
    · revert p hp
      refine fm_cons ?_ ?_
      · have hDf : D ∉ frs outer := fun q => by
          refine holdG fun Pz kz => ?_
          obtain ⟨_, o, qo, _⟩ := K.FF.mem q
          obtain ⟨sl, q2⟩ := hsl _ q _ qo
          refine kz ?_
          clear kz Pz
          (first | exact gX hDn q2 | exact gX q2 hDn | (rw [q2] at hDn; cases hDn))
        exact ⟨hDe, hDT, noL _ hDL hDf⟩
      intro p hp
      have hL1 := (Nc p (.tail _ hp)).2.1
      revert hL1
      revert p hp
      refine fm_app ?_ ?_
      · intro p hp hL1
        exact ⟨(olde p (List.mem_append_left _ hp)).1, (olde p (List.mem_append_left _ hp)).2, noL _ hL1 (fof p hp)⟩
      refine fm_cons ?_ ?_
      · intro hL1; exact ⟨(olde _ (mm _ (.head _))).1, (olde _ (mm _ (.head _))).2, noL _ hL1 K.f1⟩
      refine fm_cons ?_ ?_
      · intro hL1; exact ⟨(olde _ (mm _ (.tail _ (.head _)))).1, (olde _ (mm _ (.tail _ (.head _)))).2, noL _ hL1 K.f2⟩
      refine fm_cons ?_ ?_
      · intro hL1; exact ⟨(olde _ (mm _ (.tail _ (.tail _ (.head _))))).1, (olde _ (mm _ (.tail _ (.tail _ (.head _))))).2, noL _ hL1 K.f3⟩
      refine fm_cons ?_ ?_
      · intro hL1; exact ⟨(olde (226, tabObj ps) (mm _ (.tail _ (.tail _ (.tail _ (.head _)))))).1, (olde (226, tabObj ps) (mm _ (.tail _ (.tail _ (.tail _ (.head _)))))).2, noL _ hL1 K.f4⟩
      refine fm_cons ?_ ?_
      · intro hL1; exact ⟨(olde (147, op) (mm _ (.tail _ (.tail _ (.tail _ (.tail _ (.head _))))))).1, (olde (147, op) (mm _ (.tail _ (.tail _ (.tail _ (.tail _ (.head _))))))).2, noL _ hL1 K.f5⟩
      refine fm_app ?_ ?_
      · intro p hp hL1
        have hm := mm _ (.tail _ (.tail _ (.tail _ (.tail _ (.tail _ (mcwt p hp))))))
        exact ⟨(olde p hm).1, (olde p hm).2, noL _ hL1 (S.ow p hp)⟩
      intro p hp hL1
      · rw [hclc p hp]
        exact ⟨hce1, hce2, noL _ (hclc p hp ▸ hL1) (hclc p hp ▸ (new_ne p (hcln p hp)).2.1)⟩
    · have hat : NagAt w.params h2 e (.int i t) (.str (wordsOf (witL (wtOf b) (wtOf x) (witN (wtOf b) (wtOf x)))) t4) (.str (rowT x) u) := ⟨D, fs2, #[], t1, t2, t3, he2, (N2 _ (.head _)).1⟩
      have room : (A.mark (some (.ref e))).depth < recursionLimit := K.R.room
      have frx : ∀ a ∈ frs outer, ∀ o, hE.get? a = some o → ∃ sl, h2.get? a = some { o with slots := sl } := fun a ha o eo => by
        refine holdG fun Pz kz => ?_
        obtain ⟨sl, q⟩ := hsl' a ha o eo
        obtain ⟨sl0, q0⟩ := hsl a ha o eo
        refine kz ?_
        clear kz Pz
        obtain ⟨sl2, q2⟩ := (M2 a _ (fun q' => by
          rcases List.mem_cons.mp q' with r | q'
          · (first | exact gX q0 ((congrArg _ r).trans hen) | exact gX hen ((congrArg _ r).symm.trans q0) | (rw [r, hen] at q0; cases q0))
          rcases List.mem_cons.mp q' with r | q'
          · (first | exact gX q0 ((congrArg _ r).trans hTn) | exact gX hTn ((congrArg _ r).symm.trans q0) | (rw [r, hTn] at q0; cases q0))
          · rw [List.mem_singleton.mp q'] at ha; exact K.Lf ha) q).2 (.tail _ ha)
        exact ⟨sl2, q2⟩
      have Nfr2 : News hb L h2 (objsAt h2 (frs outer)) := fun p hp => by
        obtain ⟨q1, q2⟩ := objsAt_mem.mp hp
        exact ⟨q2, fun e => K.Lf (e ▸ q1), K.hbn _ q1⟩
      have fr2m : ∀ a ∈ frs outer, ∃ o, (a, o) ∈ objsAt h2 (frs outer) := fun a ha => by
        refine holdG fun Pz kz => ?_
        obtain ⟨_, o, qo, _⟩ := K.FF.mem ha
        obtain ⟨sl, q⟩ := frx a ha o qo
        refine kz ?_
        clear kz Pz
        exact ⟨_, objsAt_mem.mpr ⟨ha, q⟩⟩
      have sl2 : SlOf fo0 (objsAt h2 (frs outer)) := by
        refine ⟨fun p hp => ?_, fun q hq => ?_⟩
        · rw [K.fo] at hp
          refine holdG fun Pz kz => ?_
          obtain ⟨q1, q2⟩ := objsAt_mem.mp hp
          obtain ⟨sl, q3⟩ := frx _ q1 _ q2
          refine kz ?_
          clear kz Pz
          exact ⟨sl, objsAt_mem.mpr ⟨q1, q3⟩⟩
        · refine holdG fun Pz kz => ?_
          obtain ⟨q1, _⟩ := objsAt_mem.mp hq
          obtain ⟨_, o, qo, _⟩ := K.FF.mem q1
          refine kz ?_
          clear kz Pz
          exact ⟨(q.1, o), by rw [K.fo]; exact objsAt_mem.mpr ⟨q1, qo⟩, rfl⟩
      replace N2 : News hb L h2 ((D, dictOf (nagEs w.params t1 t2 t3 (.int i t) (.str (wordsOf (witL (wtOf b) (wtOf x) (witN (wtOf b) (wtOf x)))) t4) (.str (rowT x) u)) 3) :: (fo ++ ((l, listO vs n0) :: (rf, od) :: (dp, listO dvs n1) :: (226, tabObj ps') :: (147, op') :: ((cl ++ (ws ++ tps)) ++ (cln ++ objsAt h2 (frs outer)))))) := fun p hp => (perm4 hp).elim (N2 p) (Nfr2 p)
      generalize hfr2 : objsAt h2 (frs outer) = fr2 at *
      have fr2f : ∀ p ∈ fr2, p.1 ∈ frs outer := fun p hp => by rw [← hfr2] at hp; exact (objsAt_mem.mp hp).1
      clear F F' N Nc
      repeat kbo_bools
      refine exc_meth (f := 66) (B.X.keeps F2.keep) he2 (N2 _ (.head _)).1 (nag_k _) (by kernel_rfl) (by kernel_rfl) (by kernel_rfl) ?_
      repeat kbo_bools
      show wpAny _ _ (call (.ref 66) [.ref e]) _ _ _
      refine gmsg_ok rfl (B.ext F2.keep) room hat (fun h3 tk3 X3 => ?_)
      have F3 := fr_ext F2 X3
      have N3 := nw_ext N2 X3
      have he3 := X3 _ _ he2
      clear F2 N2
      repeat kbo_bools
      refine exc_meth (f := 73) (B.X.keeps F3.keep) he3 (N3 _ (.head _)).1 (nag_k _) (by kernel_rfl) (by kernel_rfl) (by kernel_rfl) ?_
      repeat kbo_bools
      show wpAny _ _ (call (.ref 73) [.ref e]) _ _ _
      refine glin_ok rfl (B.ext F3.keep) room ⟨D, fs2, #[], t1, t2, t3, he3, (N3 _ (.head _)).1⟩ (fun h4 tk4 X4 => ?_)
      have F4 := fr_ext F3 X4
      have N4 := nw_ext N3 X4
      have he4 := X4 _ _ he3
      clear F3 N3
      repeat kbo_bools
      refine al_tup F4 N4 (by show 2 ≤ 1000; decide) (fun tp h5 F5 N5 hl5 X5 hn5 => ?_)
      have he5 := X5 _ _ he4
      clear F4 N4
      repeat kbo_bools
      refine exc_meth (f := 59) (B.X.keeps F5.keep) he5 (N5 _ (.tail _ (.head _))).1 (nag_k _) (by kernel_rfl) (by kernel_rfl) (by kernel_rfl) ?_
      repeat kbo_bools
      show wpAny _ _ (call (.ref 59) [.ref e]) _ _ _
      refine gline_ok rfl (B.ext F5.keep) room ⟨D, fs2, #[], t1, t2, t3, he5, (N5 _ (.tail _ (.head _))).1⟩ (fun h6 tk6 X6 => ?_)
      have F6 := fr_ext F5 X6
      have N6 := nw_ext N5 X6
      clear F5 N5
      have hnk : ((i : Int)) ∉ kvs.map (·.1) := fun q => by
        rw [S.rl.keys] at q
        obtain ⟨p, hp, e⟩ := List.mem_map.mp q
        have := S.rk p hp
        (first | lia | omega)
      have hst : stored kvs (i : Int) (.ref tp) = kvs ++ [((i : Int), .ref tp)] := by
        unfold stored
        rw [if_neg]
        intro q
        obtain ⟨p, hp, e⟩ := List.any_eq_true.mp q
        exact hnk (List.mem_map.mpr ⟨p, hp, of_decide_eq_true e⟩)
      have hrn := S.rn
      have mrf6 : (rf, od) ∈ (tp, tupO [.str (wordsOf (witL (wtOf b) (wtOf x) (witN (wtOf b) (wtOf x)))) t4, .str (rowT x) u]) :: (D, dictOf (nagEs w.params t1 t2 t3 (.int i t) (.str (wordsOf (witL (wtOf b) (wtOf x) (witN (wtOf b) (wtOf x)))) t4) (.str (rowT x) u)) 3) :: (fo ++ ((l, listO vs n0) :: (rf, od) :: (dp, listO dvs n1) :: (226, tabObj ps') :: (147, op') :: ((cl ++ (ws ++ tps)) ++ (cln ++ fr2)))) :=
        .tail _ (.tail _ (List.mem_append_right _ (.tail _ (.head _))))
      refine wpAny_setItem_pairs (s := ⟨h6, g', d, tk6, os⟩) (knd := intKind PG w) (k := (i : Int)) (intKind_is _ _ _ _) (Heap.dictOf_iff.mpr ⟨od, (N6 _ mrf6).1, S.od⟩) (fun h7 hd7 hs7 => ?_) (by rw [S.rl.len, sizeLine_eq]; (first | lia | omega))
      obtain ⟨od', ho7, hod'⟩ := Heap.dictOf_iff.mp hd7
      rw [hst] at hod'
      have nrf : ∀ p ∈ (tp, tupO [.str (wordsOf (witL (wtOf b) (wtOf x) (witN (wtOf b) (wtOf x)))) t4, .str (rowT x) u]) :: (fo ++ ((l, listO vs n0) :: (dp, listO dvs n1) :: (226, tabObj ps') :: (147, op') :: ((cl ++ (ws ++ tps)) ++ (cln ++ fr2)))), p ∈ (tp, tupO [.str (wordsOf (witL (wtOf b) (wtOf x) (witN (wtOf b) (wtOf x)))) t4, .str (rowT x) u]) :: (D, dictOf (nagEs w.params t1 t2 t3 (.int i t) (.str (wordsOf (witL (wtOf b) (wtOf x) (witN (wtOf b) (wtOf x)))) t4) (.str (rowT x) u)) 3) :: (fo ++ ((l, listO vs n0) :: (rf, od) :: (dp, listO dvs n1) :: (226, tabObj ps') :: (147, op') :: ((cl ++ (ws ++ tps)) ++ (cln ++ fr2)))) ∧ p.1 ≠ rf := fun p hp => by
        refine ⟨perm5 hp, ?_⟩
        have hlt : ∀ q ∈ fo ++ ((l, listO vs n0) :: (rf, od) :: (dp, listO dvs n1) :: (226, tabObj ps') :: (147, op') :: ((cl ++ (ws ++ tps)) ++ (cln ++ fr2))), @LT.lt Nat _ q.1 tp := fun q hq => hl5 q (.tail _ hq)
        revert p hp
        refine fm_cons ?_ ?_
        · exact Nat.ne_of_gt (hlt _ (List.mem_append_right _ (.tail _ (.head _))))
        refine fm_app ?_ ?_
        · intro p hp
          exact fo_ne p hp _ (.tail _ (.head _))
        refine fm_cons ?_ ?_
        · exact K.n1
        refine fm_cons ?_ ?_
        · exact Ne.symm K.n5
        refine fm_cons ?_ ?_
        · exact Ne.symm K.n6
        refine fm_cons ?_ ?_
        · exact Ne.symm K.n7
        refine fm_app ?_ ?_
        · intro p hp
          exact fun q => S.ot p (mcwt p hp) (by rw [q]; exact .tail _ (.head _))
        refine fm_app ?_ ?_
        · intro p hp
          exact fun q => (new_ne p (hcln p hp)).1 (by rw [q]; exact .tail _ (.head _))
        intro p hp
        · exact fun q => K.f2 (q ▸ fr2f p hp)
      obtain ⟨F7, N7⟩ := led_set F6 N6 mrf6 hs7 ho7 nrf
      clear F6 N6
      repeat kbo_bools
      refine name_goes F7 N7 (fun h8 v8 tk8 F8 N8 S8 => ?_)
      repeat kbo_bools
      have tlt : ∀ q ∈ fo ++ ((l, listO vs n0) :: (rf, od) :: (dp, listO dvs n1) :: (226, tabObj ps') :: (147, op') :: ((cl ++ (ws ++ tps)) ++ (cln ++ fr2))), q.1 ≠ tp := fun q hq => Nat.ne_of_lt (hl5 q (.tail _ hq))
      have tsp : tp ∉ [l, rf, dp, 226, 147] := fun q => by
        rcases List.mem_cons.mp q with q | q
        · exact tlt _ (List.mem_append_right _ (.head _)) q.symm
        rcases List.mem_cons.mp q with q | q
        · exact tlt _ (List.mem_append_right _ (.tail _ (.head _))) q.symm
        rcases List.mem_cons.mp q with q | q
        · exact tlt _ (List.mem_append_right _ (.tail _ (.tail _ (.head _)))) q.symm
        rcases List.mem_cons.mp q with q | q
        · exact tlt _ (List.mem_append_right _ (.tail _ (.tail _ (.tail _ (.head _))))) q.symm
        · exact tlt _ (List.mem_append_right _ (.tail _ (.tail _ (.tail _ (.tail _ (.head _)))))) (List.mem_singleton.mp q).symm
      have mb8 : ∀ y v, decide (y = ⟨⟨[110, 97, 103]⟩⟩) = false → Upd (Upd (Upd m ⟨⟨[110, 117, 109, 98, 101, 114]⟩⟩ (.int i t)) ⟨⟨[108, 105, 110, 101]⟩⟩ (.str (rowT x) u)) ⟨⟨[110, 97, 103]⟩⟩ (.ref e) y = some v → (fun y => if y = ⟨⟨[110, 97, 103]⟩⟩ then v8 else Upd (Upd (Upd m ⟨⟨[110, 117, 109, 98, 101, 114]⟩⟩ (.int i t)) ⟨⟨[108, 105, 110, 101]⟩⟩ (.str (rowT x) u)) ⟨⟨[110, 97, 103]⟩⟩ (.ref e) y) y = some v := fun y v h1 h2 => by
        show (if _ then _ else _) = _
        rw [if_neg (of_decide_eq_false h1)]; exact h2
      refine lp_next ⟨h8, g', tk8, _, (l, listO vs n0) :: (rf, od') :: (dp, listO dvs n1) :: (226, tabObj ps') :: (147, op') :: ((cl ++ cln) ++ (ws ++ ((tps ++ [(tp, tupO [.str (wordsOf (witL (wtOf b) (wtOf x) (witN (wtOf b) (wtOf x)))) t4, .str (rowT x) u])]) ++ fr2))), rfl, F8, news_sub N8 (fun p hp => perm6 hp), fun p hp => ?_,
        vs, n0, ls, od', kvs ++ [((i : Int), .ref tp)], rs ++ [(i, msg b x, rowT x)], dvs, n1, ds, ps', op', ps2', cl ++ cln, ws, tps ++ [(tp, tupO [.str (wordsOf (witL (wtOf b) (wtOf x) (witN (wtOf b) (wtOf x)))) t4, .str (rowT x) u])], fr2,
        { G := G', mb := mb8 _ _ (by decide +kernel) (by tb_rel), mr := mb8 _ _ (by decide +kernel) (by tb_rel), md := mb8 _ _ (by decide +kernel) (by tb_rel), nw := rfl, bl := S.bl, ch := S.ch, hl := Nat.le_succ_of_le S.hl, od := hod', rl := .snoc (S.rl.mono fun p hp => List.mem_append_left _ hp) (List.mem_append_right _ (.head _)),
          rk := fun p hp => ?_, rn := by rw [List.length_append]; exact Nat.succ_le_succ S.rn, dl := S.dl, dn := Nat.le_succ_of_le S.dn, t1 := hT1', t2 := .inr ⟨c', hT2', hCL⟩, o0 := eop', o1 := z9, o2 := z10, sl := sl2, ot := fun p hp => ?_, ow := fun p hp => ?_, go := ?_ }⟩
      · have hI12 : ∀ a, a ≠ I ∧ a ≠ I + 1 → a ∉ [I + 1, I] := fun a ha q => by
          rcases List.mem_cons.mp q with q | q
          · exact ha.2 q
          · exact ha.1 (List.mem_singleton.mp q)
        refine hI12 _ ?_
        revert p hp
        refine fm_cons ?_ ?_
        · exact hne (l, listO vs n0) (.head _)
        refine fm_cons ?_ ?_
        · exact hne (rf, od) (.tail _ (.head _))
        refine fm_cons ?_ ?_
        · exact hne (dp, listO dvs n1) (.tail _ (.tail _ (.head _)))
        refine fm_cons ?_ ?_
        · exact hne (226, tabObj ps) (.tail _ (.tail _ (.tail _ (.head _))))
        refine fm_cons ?_ ?_
        · exact hne (147, op) (.tail _ (.tail _ (.tail _ (.tail _ (.head _)))))
        intro p hp
        rcases perm7 hp with hp | hp | rfl | hp
        · exact hne _ (.tail _ (.tail _ (.tail _ (.tail _ (.tail _ (mcwt p hp))))))
        · exact (new_ne p (hcln p hp)).2.2
        · refine holdG fun Pz kz => ?_
          obtain ⟨o1, q1⟩ := hI
          obtain ⟨o2, q2⟩ := hI1
          refine kz ?_
          clear kz Pz
          exact ⟨fun q => tlt _ (List.mem_append_left _ q1) q.symm, fun q => tlt _ (List.mem_append_left _ q2) q.symm⟩
        · obtain ⟨o, ho⟩ := frm _ (fr2f p hp)
          exact hne (p.1, o) (mfr _ ho)
      · rcases List.mem_append.mp hp with hp | hp
        · exact Nat.lt_succ_of_lt (S.rk p hp)
        · rw [List.mem_singleton.mp hp]; exact Nat.lt_succ_self _
      · rcases perm7 hp with hp | hp | rfl | hp
        · exact S.ot p (mcwt p hp)
        · exact (new_ne p (hcln p hp)).1
        · exact tsp
        · have hf := fr2f p hp
          intro q
          rcases List.mem_cons.mp q with q | q
          · exact K.f1 (q ▸ hf)
          rcases List.mem_cons.mp q with q | q
          · exact K.f2 (q ▸ hf)
          rcases List.mem_cons.mp q with q | q
          · exact K.f3 (q ▸ hf)
          rcases List.mem_cons.mp q with q | q
          · exact K.f4 (q ▸ hf)
          · exact K.f5 (List.mem_singleton.mp q ▸ hf)
      · rcases perm8 hp with hp | hp | rfl
        · exact S.ow p hp
        · exact (new_ne p (hcln p hp)).2.1
        · intro q
          obtain ⟨o, ho⟩ := fr2m _ q
          exact tlt _ (List.mem_append_right _ (.tail _ (.tail _ (.tail _ (.tail _ (.tail _ (List.mem_append_right _ (List.mem_append_right _ ho)))))))) rfl
      · rw [← S.go, drop_at hx, run_bad hbx hneq]
end
end
section
open PySem PySem.W PyProof.Rows PySem.Calls PySem.Spec PyProof.V
set_option maxHeartbeats 4000000
section
variable {w : World} {A : Around} {E : Value → Shared → Prop} {h : Heap} {g : Array GenState} {d : Drawn} {tk : Nat} {os : OsState} {mg mb : Str → Option Value}
theorem lead_nil : (⟨#[]⟩ : Str) ∈ LEADS := lead_mem (a := 0) (b := 0) (c := 0) (d := 0) (by decide) (by decide) (by decide) (by decide)
theorem read_ok {ln dp : Addr} {ld : List Str} {lvs : List Value} {n0 : Nat} {outer : List Env} {ps ps2 : Array Value} {op : Obj} {Q : Value → Shared → Prop}
    (B : Bs w mg mb (hideAll h ([226, 147, dp] ++ frs outer))) (R : Rm A 20) (hfr : A.frames = some outer) (FF : h.FunFrames (hideAll h ([226, 147, dp] ++ frs outer)) outer)
    (hln : (hideAll h ([226, 147, dp] ++ frs outer)).IsList ln lvs.toArray) (hlv : ∀ (i : Nat) (v : Value), lvs[i]? = some v → ∃ l t, ld[i]? = some l ∧ v = .str (rowT l) t) (hll : lvs.length = ld.length) (hld : ∀ l ∈ ld, l ∈ LEADS) (hn6 : ld.length ≤ 6)
    (hdp : h.get? dp = some (listO [] n0)) (hdf : dp ∉ frs outer)
    (hP : h.get? 226 = some (tabObj ps)) (hT1 : TriplesOk ps.toList) (hT2 : codeAmong (lamPos w.params) ps.toList = none)
    (h147 : h.get? 147 = some op) (ho0 : op = tabObj ps2) (ho1 : op.data = .fields ps2) (ho2 : TriplesOk ps2.toList) (G : AllBare g)
    (hok : (run ld 0 [⟨#[]⟩] [] []).2 = [] → ∀ h' g' tk' dvs n', Mv [226, 147, dp] (frs outer) h h' → h'.get? dp = some (listO dvs n') → IntsAre dvs (dsI (run ld 0 [⟨#[]⟩] [] []).1) → TT h' → AllBare g' → Q .none ⟨h', g', d, tk', os⟩)
    (hbad : (run ld 0 [⟨#[]⟩] [] []).2 ≠ [] → ∀ e D T' fs rf od kvs tps dvs n' h' g' tk' t1, Mv [226, 147, dp] (frs outer) h h' → ExcR h' e T' (.ref 201) (some D) #[] .none → h'.get? e = some ⟨.ref 201, some D, .fields fs, #[]⟩ → h'.get? D = some (dictOf (refEs w.params t1 (.ref rf)) 1) →
      h'.get? rf = some od → od.IsDictOf (intKind PG w) kvs → RefL tps kvs (run ld 0 [⟨#[]⟩] [] []).2 → (∀ p ∈ tps, h'.get? p.1 = some p.2 ∧ h.get? p.1 = none) → h'.get? dp = some (listO dvs n') → IntsAre dvs (dsI (run ld 0 [⟨#[]⟩] [] []).1) →
      h.get? e = none → h.get? T' = none → h.get? D = none → h.get? rf = none → TT h' → AllBare g' → E (.ref e) ⟨h', g', d, tk', os⟩) :
    wpAny (MM w) A (call (.ref 238) [.ref ln, .ref dp]) Q E ⟨h, g, d, tk, os⟩ := by
  have n226 : (226 : Addr) ∉ frs outer := ff_nf FF hP rfl
  have n147 : (147 : Addr) ∉ frs outer := ff_nf FF h147 ho1
  have d226 : dp ≠ 226 := fun e => by (first | exact gX hdp ((congrArg _ e).trans hP) | exact gX hP ((congrArg _ e).symm.trans hdp) | (rw [e, hP] at hdp; cases hdp))
  have d147 : dp ≠ 147 := fun e => by rw [e, h147] at hdp; cases hdp; cases ho1
  refine wpAny_call ?_
  refine enterX (fd := fRead w.params) (body := _) (hb := hideAll h ([226, 147, dp] ++ frs outer)) (nw := (dp, listO [] n0) :: (226, tabObj ps) :: (147, op) :: objsAt h (frs outer)) (binds := [(⟨⟨[108, 105, 110, 101, 115]⟩⟩, .ref ln), (⟨⟨[100, 101, 112, 116, 104, 115]⟩⟩, .ref dp)]) B (fun b o e => of_hideAll _ e) ?_ (read_at _) rfl (by kernel_rfl) rfl (BindsTo.of_eq (by kernel_rfl)) R.room (Nat.le_of_eq (hideAll_size _ _)) ?_ (by kernel_rfl) (by kernel_rfl) rfl rfl rfl rfl
  · refine nw_of_hide fun p hp => ?_
    revert p hp
    refine fm_cons ?_ ?_
    · exact ⟨.tail _ (.tail _ (.head _)), hdp⟩
    refine fm_cons ?_ ?_
    · exact ⟨.head _, hP⟩
    refine fm_cons ?_ ?_
    · exact ⟨.tail _ (.head _), h147⟩
    intro p hp
    · have := objsAt_mem.mp hp
      exact ⟨List.mem_append_right _ this.1, this.2⟩
  generalize hbe : hideAll h ([226, 147, dp] ++ frs outer) = hb at *
  generalize hfo : objsAt h (frs outer) = fo0 at *
  rintro h₁ L tk F N hL X1
  simp only [List.reverse_cons, List.reverse_nil, List.nil_append, List.cons_append] at F
  have R1 : Rm (A.deeper (envRead w.params L)) 19 := R.deeper
  have hh := R1.hd
  repeat kbo_bools
  refine new_ok (line := ⟨#[]⟩) (B.ext F.keep) (R1.le (by decide)) (by decide) (fun r h2 tk2 X2 W2 hn2 => ?_)
  refine holdG fun Pz kz => ?_
  obtain ⟨ws0, Nw, Wl, hws⟩ := W2.led F
  refine kz ?_
  clear kz Pz
  have F2 := fr_ext F X2
  have N2 := news_app (nw_ext N X2) Nw
  have hb226 : hb.get? 226 = none := (N _ (.tail _ (.head _))).2.2
  have hb147 : hb.get? 147 = none := (N _ (.tail _ (.tail _ (.head _)))).2.2
  have hbdp : hb.get? dp = none := (N _ (.head _)).2.2
  have hbig : sysModules < hb.objs.size := Nat.lt_of_le_of_lt (by decide) (Heap.lt_size (B.X _ _ (read_at _)))
  have wold : ∀ p ∈ ws0, h.get? p.1 = none := fun p hp => by
    refine gN fun o e => ?_
    have := hws p hp; (first | exact gX this (X1 _ _ e) | exact gX (X1 _ _ e) this | (rw [X1 _ _ e] at this; cases this))
  clear F N Nw
  repeat kbo_bools
  refine al_list F2 N2 (by show 1 ≤ 1000; decide) (fun l h3 F3 N3 hl3 X3 hn3 => ?_)
  repeat kbo_bools
  rename_i h4 tk4 F4 N4
  refine wpAny_Dict_empty ?_
  have F5 := F4.push emptyDict
  have N5 := News.push F4 N4 emptyDict
  have hmods : (h4.objs.size == sysModules) = false := F4.notModules hbig
  have hlt4 := nw_lt N4
  have hod : (emptyDict : Obj).IsDictOf (intKind PG w) [] := by
    obtain ⟨o, ho, hd⟩ := Heap.dictOf_iff.mp (Heap.DictOf.new (knd := intKind PG w) h4)
    rw [Heap.get?_push_size _ rfl] at ho
    cases ho; exact hd
  generalize hrf : h4.objs.size = rf at *
  have hold : ∀ b, h₁.get? b = none → h.get? b = none := fun b hb' => by
    refine gN fun o e => ?_
    (first | exact gX hb' (X1 _ _ e) | exact gX (X1 _ _ e) hb' | (rw [X1 _ _ e] at hb'; cases hb'))
  repeat kbo_bools
  rename_i h5 tk5 F5' N5'
  have hbL : hb.get? L = none := by
    refine gN fun o e => ?_
    rw [← hbe] at e; have := Heap.lt_size (of_hideAll _ e); rw [hL] at this; exact absurd this (Nat.lt_irrefl _)
  have hbn : ∀ a ∈ frs outer, hb.get? a = none := ff_none FF
  have Lf : L ∉ frs outer := fun q => by have := ff_lt FF L q; rw [hL] at this; exact Nat.lt_irrefl _ this
  have frm : ∀ a ∈ frs outer, ∃ o, (a, o) ∈ fo0 := fun a ha => by
    refine holdG fun Pz kz => ?_
    obtain ⟨_, o, qo, _⟩ := FF.mem ha
    refine kz ?_
    clear kz Pz
    exact ⟨o, by rw [← hfo]; exact objsAt_mem.mpr ⟨ha, qo⟩⟩
  have fof : ∀ p ∈ fo0, p.1 ∈ frs outer ∧ h.get? p.1 = some p.2 := fun p hp => by rw [← hfo] at hp; exact objsAt_mem.mp hp
  have lf : l ∉ frs outer := fun q => by obtain ⟨o, ho⟩ := frm l q; exact Nat.lt_irrefl _ (hl3 _ (List.mem_append_left _ (.tail _ (.tail _ (.tail _ ho)))))
  have rff : rf ∉ frs outer := fun q => by obtain ⟨o, ho⟩ := frm rf q; exact Nat.lt_irrefl _ (hlt4 _ (.tail _ (List.mem_append_left _ (.tail _ (.tail _ (.tail _ ho))))))
  have K : RdCx w (A.deeper (envRead w.params L)) hb h hb L outer dp l rf fo0 ld mg mb :=
    { B := B, R := R1, fr := by show Option.map _ A.frames = _; rw [hfr]; rfl
      FF := FF, fo := hfo.symm, hbn := hbn, hbL := hbL, Lf := Lf
      n1 := Nat.ne_of_lt (hlt4 _ (.head _)), n2 := Nat.ne_of_gt (hl3 (dp, listO [] n0) (List.mem_append_left _ (.head _))), n3 := Nat.ne_of_gt (hl3 (226, tabObj ps) (List.mem_append_left _ (.tail _ (.head _)))), n4 := Nat.ne_of_gt (hl3 (147, op) (List.mem_append_left _ (.tail _ (.tail _ (.head _)))))
      n5 := Nat.ne_of_gt (hlt4 (dp, listO [] n0) (.tail _ (List.mem_append_left _ (.head _)))), n6 := Nat.ne_of_gt (hlt4 (226, tabObj ps) (.tail _ (List.mem_append_left _ (.tail _ (.head _))))), n7 := Nat.ne_of_gt (hlt4 (147, op) (.tail _ (List.mem_append_left _ (.tail _ (.tail _ (.head _))))))
      n8 := d226, n9 := d147, f1 := lf, f2 := rff, f3 := hdf, f4 := n226, f5 := n147, md := hmods, lm := hld, l6 := hn6 }
  have hot : ∀ p ∈ ([] : List (Addr × Obj)) ++ (ws0 ++ ([] ++ fo0)), p.1 ∉ [l, rf, dp, 226, 147] := fun p hp q => by
    rcases List.mem_append.mp hp with hp | hp
    · cases hp
    rcases List.mem_append.mp hp with hp | hp
    · have hw := wold p hp
      rcases List.mem_cons.mp q with q | q
      · exact Nat.ne_of_lt (hl3 p (List.mem_append_right _ hp)) q
      rcases List.mem_cons.mp q with q | q
      · exact Nat.ne_of_lt (hlt4 p (.tail _ (List.mem_append_right _ hp))) q
      rcases List.mem_cons.mp q with q | q
      · (first | exact gX hw ((congrArg _ q).trans hdp) | exact gX hdp ((congrArg _ q).symm.trans hw) | (rw [q, hdp] at hw; cases hw))
      rcases List.mem_cons.mp q with q | q
      · (first | exact gX hw ((congrArg _ q).trans hP) | exact gX hP ((congrArg _ q).symm.trans hw) | (rw [q, hP] at hw; cases hw))
      · (first | exact gX hw ((congrArg _ (List.mem_singleton.mp q)).trans h147) | exact gX h147 ((congrArg _ (List.mem_singleton.mp q)).symm.trans hw) | (rw [List.mem_singleton.mp q, h147] at hw; cases hw))
    · rcases List.mem_append.mp hp with hp | hp
      · cases hp
      have hf := (fof p hp).1
      rcases List.mem_cons.mp q with q | q
      · exact lf (q ▸ hf)
      rcases List.mem_cons.mp q with q | q
      · exact rff (q ▸ hf)
      rcases List.mem_cons.mp q with q | q
      · exact hdf (q ▸ hf)
      rcases List.mem_cons.mp q with q | q
      · exact n226 (q ▸ hf)
      · exact n147 (List.mem_singleton.mp q ▸ hf)
  have how : ∀ p ∈ ([] : List (Addr × Obj)) ++ (ws0 ++ []), p.1 ∉ frs outer := fun p hp q => by
    rcases List.mem_append.mp hp with hp | hp
    · cases hp
    rcases List.mem_append.mp hp with hp | hp
    · have hw := wold p hp
      refine holdG fun Pz kz => ?_
      obtain ⟨_, o, qo, _⟩ := FF.mem q
      refine kz ?_
      clear kz Pz
      (first | exact gX hw qo | exact gX qo hw | (rw [qo] at hw; cases hw))
    · cases hp
  have hch : Chain [⟨#[]⟩] := ⟨fun b hb' => by rw [List.mem_singleton.mp hb']; exact lead_nil, by simp⟩
  have hbl : BlkL w.params ws0 [.ref r] [⟨#[]⟩] := ⟨rfl, fun i x e => by
    cases i with
    | zero => have e : (⟨#[]⟩ : Str) = x := by simpa using e
              subst e; exact ⟨r, rfl, Wl⟩
    | succ i => simp at e⟩
  have hlnL : ln ≠ L := fun q => by obtain ⟨o, e, _⟩ := hln; (first | exact gX e ((congrArg _ q).trans hbL) | exact gX hbL ((congrArg _ q).symm.trans e) | (rw [q, hbL] at e; cases e))
  have hln5 : h5.IsList ln lvs.toArray := let ⟨o, e, r⟩ := hln; ⟨o, F5'.keep _ _ e, r⟩
  have hln0 : hb.get? ln ≠ none := let ⟨o, e, _⟩ := hln; fun q => by (first | exact gX e q | exact gX q e | (rw [q] at e; cases e))
  refine for_enum (P := RdP w hb (frs outer) dp l rf fo0 ld) hh hln5 hlnL F5' (news_sub N5' (l' := (l, listO [.ref r] 0) :: (rf, emptyDict) :: (dp, listO [] n0) :: (226, tabObj ps) :: (147, op) :: ([] ++ (ws0 ++ ([] ++ fo0)))) (fun p hp => ?_))
    ⟨[.ref r], 0, [⟨#[]⟩], emptyDict, [], [], [], n0, [], ps, op, ps2, [], ws0, [], fo0,
      { G := G, mb := by tb_rel, mr := by tb_rel, md := by tb_rel, nw := rfl, bl := hbl, ch := hch, hl := Nat.le_refl _, od := hod, rl := .nil, rk := fun _ q => (nomatch q), rn := Nat.le_refl _, dl := .nil, dn := Nat.le_refl _,
        t1 := hT1, t2 := .inl hT2, o0 := ho0, o1 := ho1, o2 := ho2, sl := .refl _, ot := hot, ow := how, go := rfl }⟩
    (fun i v t g6 m6 nw6 h6 tk6 E6 fo6 I hv P6 hne6 F6 N6 hI hI1 hfk hIn => ?_) (fun g7 m7 nw7 h7 tk7 P7 F7 N7 => ?_)
  · revert p hp
    refine fm_cons ?_ ?_
    · exact .tail _ (.head _)
    refine fm_cons ?_ ?_
    · exact .head _
    refine fm_cons ?_ ?_
    · exact .tail _ (.tail _ (List.mem_append_left _ (.head _)))
    refine fm_cons ?_ ?_
    · exact .tail _ (.tail _ (List.mem_append_left _ (.tail _ (.head _))))
    refine fm_cons ?_ ?_
    · exact .tail _ (.tail _ (List.mem_append_left _ (.tail _ (.tail _ (.head _)))))
    intro p hp
    rcases List.mem_append.mp (show p ∈ ws0 ++ fo0 from hp) with hp | hp
    · exact .tail _ (.tail _ (List.mem_append_right _ hp))
    · exact .tail _ (.tail _ (List.mem_append_left _ (.tail _ (.tail _ (.tail _ hp)))))
  · refine holdG fun Pz kz => ?_
    obtain ⟨x, u, hx, rfl⟩ := hlv i v hv
    refine kz ?_
    clear kz Pz
    exact read_turn (ln := ln) K hx P6 hne6 F6 N6 hI hI1 (fun p hp => by
      rcases hfk p hp with q | q | q
      · exact .inl q
      · exact .inr q
      · exact absurd (q ▸ (N6 p (List.mem_append_left _ hp)).2.2) hln0)
  · refine holdG fun Pz kz => ?_
    obtain ⟨vs7, n7, ls7, od7, kvs7, rs7, dvs7, m17, ds7, ps7, op7, ps27, cl7, ws7, tps7, fr7, S⟩ := P7
    refine kz ?_
    clear kz Pz
    have hgo := S.go
    rw [hll, List.drop_length, run] at hgo
    have egs : ds7 = (run ld 0 [⟨#[]⟩] [] []).1 := by rw [← hgo]
    have ers : rs7 = (run ld 0 [⟨#[]⟩] [] []).2 := by rw [← hgo]
    rw [← egs, ← ers] at hok hbad
    have hmr := S.mr
    have enw := S.nw
    subst enw
    have htps : ∀ p ∈ tps7, p ∈ (l, listO vs7 n7) :: (rf, od7) :: (dp, listO dvs7 m17) :: (226, tabObj ps7) :: (147, op7) :: (cl7 ++ (ws7 ++ (tps7 ++ fr7))) := fun p hp => .tail _ (.tail _ (.tail _ (.tail _ (.tail _ (List.mem_append_right _ (List.mem_append_right _ (List.mem_append_left _ hp)))))))
    have hfr7 : ∀ p ∈ fr7, p ∈ (l, listO vs7 n7) :: (rf, od7) :: (dp, listO dvs7 m17) :: (226, tabObj ps7) :: (147, op7) :: (cl7 ++ (ws7 ++ (tps7 ++ fr7))) := fun p hp => .tail _ (.tail _ (.tail _ (.tail _ (.tail _ (List.mem_append_right _ (List.mem_append_right _ (List.mem_append_right _ hp)))))))
    repeat kbo_bools
    refine wpAny_Dict_empty ?_
    have F8 := F7.push emptyDict
    have N8 := nw_ext N7 (Ext.push h7 emptyDict)
    have hmods8 : (h7.objs.size == sysModules) = false := F7.notModules hbig
    have hdn : (h7.push emptyDict).DictOf (intKind PG w) h7.objs.size [] := Heap.DictOf.new h7
    refine keq_ne (knd := intKind PG w) (ka := kvs7) (kb := []) (r := true) hmods hmods8 (Heap.dictOf_iff.mpr ⟨od7, (N8 _ (.tail _ (.head _))).1, S.od⟩) hdn (Nat.lt_of_le_of_lt (Nat.le_trans (Nat.le_add_right _ _) (Nat.le_add_right _ _)) R1.un) (fun hlen => ?_) ?_
    · have : kvs7 = [] := List.eq_nil_of_length_eq_zero hlen
      rw [this]; exact .nil
    refine t_bool ?_
    dsimp only
    generalize h7.push emptyDict = h8 at *
    have sl8 : ∀ {h' : Heap} {m' : Str → Option Value}, Fr hb L h' m' → News hb L h' ((l, listO vs7 n7) :: (rf, od7) :: (dp, listO dvs7 m17) :: (226, tabObj ps7) :: (147, op7) :: (cl7 ++ (ws7 ++ (tps7 ++ fr7)))) → Mv [226, 147, dp] (frs outer) h h' := fun F' N' =>
      mv_hide (by rw [hbe]; exact F'.keep) (fun b hb' o e => by
        obtain ⟨sl, q⟩ := S.sl.to (b, o) (by rw [← hfo]; exact objsAt_mem.mpr ⟨hb', e⟩)
        exact ⟨sl, (N' _ (hfr7 _ q)).1⟩)
    refine ifB (fun hc => ?_) (fun hc => ?_)
    · have hne : rs7 ≠ [] := fun q => by
        have := S.rl.len
        rw [q] at this
        have hk : kvs7.length = 0 := this
        rw [hk] at hc
        exact absurd hc (by decide)
      repeat kbo_bools
      refine raise_ownX hh (smtp_cls _) ?_ (B.X.keeps (by assumption : Fr hb L _ _).keep)
      repeat kbo_bools
      show wpAny _ _ (call (.ref 201) [.ref rf]) _ _ _
      refine smtp_new (B.ext F8.keep) (R1.le (by decide)) (fun e D h9 tk9 t1 a0 a6 a7 a8 a9 a10 X9 hen hDn he hD => ?_)
      have F9 := fr_ext F8 X9
      have N9 := nw_ext N8 X9
      refine ⟨e, _, some D, #[], rfl, rfl, B.X.keeps F9.keep, he, ?_⟩
      have old8 : ∀ b, h8.get? b = none → h.get? b = none := fun b hn => by
        refine gN fun o q => ?_
        have M8 := sl8 F8 N8
        by_cases hq : b ∈ [226, 147, dp]
        · rcases List.mem_cons.mp hq with rfl | hq
          · (first | exact gX hn (N8 _ (.tail _ (.tail _ (.tail _ (.head _))))).1 | exact gX (N8 _ (.tail _ (.tail _ (.tail _ (.head _))))).1 hn | (rw [(N8 _ (.tail _ (.tail _ (.tail _ (.head _))))).1] at hn; cases hn))
          rcases List.mem_cons.mp hq with rfl | hq
          · (first | exact gX hn (N8 _ (.tail _ (.tail _ (.tail _ (.tail _ (.head _)))))).1 | exact gX (N8 _ (.tail _ (.tail _ (.tail _ (.tail _ (.head _)))))).1 hn | (rw [(N8 _ (.tail _ (.tail _ (.tail _ (.tail _ (.head _)))))).1] at hn; cases hn))
          · (first | exact gX hn ((congrArg _ (List.mem_singleton.mp hq)).trans (N8 _ (.tail _ (.tail _ (.head _)))).1) | exact gX (N8 _ (.tail _ (.tail _ (.head _)))).1 ((congrArg _ (List.mem_singleton.mp hq)).symm.trans hn) | (rw [List.mem_singleton.mp hq, (N8 _ (.tail _ (.tail _ (.head _)))).1] at hn; cases hn))
        · by_cases hs : b ∈ frs outer
          · obtain ⟨sl, q2⟩ := (M8 b o hq q).2 hs
            (first | exact gX hn q2 | exact gX q2 hn | (rw [q2] at hn; cases hn))
          · (first | exact gX hn (M8 b o hq q).1 hs | exact gX (M8 b o hq q).1 hs hn | (rw [(M8 b o hq q).1 hs] at hn; cases hn))
      have hkind : (envRead w.params L).scope.kind ≠ .module := by rw [show (envRead w.params L).scope.kind = .function by kernel_rfl]; decide
      have FF9 : h9.FunFrames hb (envRead w.params L :: outer) := by
        refine holdG fun Pz kz => ?_
        obtain ⟨oL, es, ep, ho, hd', _⟩ := F9.ns
        refine kz ?_
        clear kz Pz
        exact ⟨hkind, ⟨L, oL, rfl, hbL, ho, fun vs q => by (first | exact gX q hd' | exact gX hd' q | (rw [hd'] at q; cases q))⟩, ff_sl FF hbn (fun a ha o eo => by
          obtain ⟨sl, q⟩ := S.sl.to (a, o) (by rw [← hfo]; exact objsAt_mem.mpr ⟨ha, eo⟩)
          exact ⟨sl, (N9 _ (hfr7 _ q)).1⟩)⟩
      refine leave_first (s := ⟨h9, g7, d, tk9, os⟩) K.fr FF9 rfl he rfl (fun h10 T M10 s1 s2 X10 => ?_)
      dsimp only at M10 s1 s2
      have M10' : Mv [e] (L :: frs outer) h9 h10 := M10
      show E (.ref e) ⟨h10, g7, d, tk9, os⟩
      refine holdG fun Pz kz => ?_
      obtain ⟨fs, _, _, he10, _⟩ := X10.out
      refine kz ?_
      clear kz Pz
      have hLnone : h.get? L = none := by
        refine gN fun o q => ?_
        have := Heap.lt_size q; rw [hL] at this; exact absurd this (Nat.lt_irrefl _)
      have hTn : h.get? T = none := by
        refine gN fun o q => ?_
        have h1 : @LE.le Nat _ h.objs.size h9.objs.size := by rw [← hL]; exact Nat.le_of_lt (fr_lt F9)
        exact absurd (Nat.lt_of_lt_of_le (Heap.lt_size q) (Nat.le_trans h1 s1)) (Nat.lt_irrefl _)
      have keepN : ∀ (b : Addr) (o : Obj), h9.get? b = some o → b ≠ e → b ≠ L → b ∉ frs outer → h10.get? b = some o := fun b o q1 q2 q3 q4 => (M10' b o (by simpa using q2) q1).1 (by simp [q3, q4])
      have ne8 : ∀ (b : Addr) (o : Obj), h8.get? b = some o → b ≠ e := fun b o q q2 => by rw [q2] at q; (first | exact gX hen q | exact gX q hen | (rw [q] at hen; cases hen))
      have hDe : D ≠ e := fun q => by (first | exact gX hD ((congrArg _ q).trans he) | exact gX he ((congrArg _ q).symm.trans hD) | (rw [q, he] at hD; cases hD))
      have hDL : D ≠ L := fun q => by
        refine holdG fun Pz kz => ?_
        obtain ⟨oL, _, _, qL, _⟩ := F8.ns
        refine kz ?_
        clear kz Pz
        (first | exact gX hDn ((congrArg _ q).trans qL) | exact gX qL ((congrArg _ q).symm.trans hDn) | (rw [q, qL] at hDn; cases hDn))
      have hDn' := old8 D hDn
      have tpn : ∀ p ∈ tps7, h.get? p.1 = none := fun p hp => by
        refine gN fun o q => ?_
        have h1 := (N8 _ (htps p hp)).2.2
        have h2 : p.1 ∉ [226, 147, dp] ++ frs outer := fun q2 => by
          rcases List.mem_append.mp q2 with q2 | q2
          · refine S.ot p (List.mem_append_right _ (List.mem_append_right _ (List.mem_append_left _ hp))) ?_
            rcases List.mem_cons.mp q2 with q2 | q2
            · rw [q2]; exact .tail _ (.tail _ (.tail _ (.head _)))
            rcases List.mem_cons.mp q2 with q2 | q2
            · rw [q2]; exact .tail _ (.tail _ (.tail _ (.tail _ (.head _))))
            · rw [List.mem_singleton.mp q2]; exact .tail _ (.tail _ (.head _))
          · exact S.ow p (List.mem_append_right _ (List.mem_append_right _ hp)) q2
        rw [← hbe, hideAll_get _ q h2] at h1; cases h1
      have rfn : h.get? rf = none := by
        refine gN fun o q => ?_
        have h1 := (N8 _ (.tail _ (.head _))).2.2
        have h2 : rf ∉ [226, 147, dp] ++ frs outer := fun q2 => by
          rcases List.mem_append.mp q2 with q2 | q2
          · rcases List.mem_cons.mp q2 with q2 | q2
            · exact K.n6 q2
            rcases List.mem_cons.mp q2 with q2 | q2
            · exact K.n7 q2
            · exact K.n5 (List.mem_singleton.mp q2)
          · exact rff q2
        rw [← hbe, hideAll_get _ q h2] at h1; cases h1
      have kN : ∀ p ∈ (l, listO vs7 n7) :: (rf, od7) :: (dp, listO dvs7 m17) :: (226, tabObj ps7) :: (147, op7) :: (cl7 ++ (ws7 ++ (tps7 ++ fr7))), p.1 ∉ frs outer → h10.get? p.1 = some p.2 := fun p hp hf => keepN _ _ (N9 p hp).1 (ne8 _ _ (N8 p hp).1) (N9 p hp).2.1 hf
      refine hbad hne e D T fs rf od7 kvs7 tps7 dvs7 m17 h10 g7 tk9 t1 ?_ X10 he10 (keepN _ _ hD hDe hDL (fun q => by obtain ⟨_, o, qo, _⟩ := FF.mem q; (first | exact gX hDn' qo | exact gX qo hDn' | (rw [qo] at hDn'; cases hDn')))) (kN _ (.tail _ (.head _)) rff) S.od S.rl (fun p hp => ⟨kN p (htps p hp) (S.ow p (List.mem_append_right _ (List.mem_append_right _ hp))), tpn p hp⟩) (kN _ (.tail _ (.tail _ (.head _))) hdf) S.dl (old8 e hen) hTn hDn' rfn ⟨⟨_, kN _ (.tail _ (.tail _ (.tail _ (.head _)))) n226⟩, ⟨_, S.o0 ▸ kN _ (.tail _ (.tail _ (.tail _ (.tail _ (.head _))))) n147⟩⟩ S.G
      refine (sl8 F9 N9).new2 M10' (fun a ha => .inr (by rw [List.mem_singleton.mp ha]; exact old8 e hen)) (fun a ha => ?_)
      revert a ha
      refine fm_cons ?_ ?_
      · exact .inr hLnone
      intro a ha
      · exact .inl ha
    · have hnil : rs7 = [] := by
        have h1 := S.rl.len
        have h2 : kvs7.length = 0 := by
          cases q : kvs7.length with
          | zero => rfl
          | succ n => rw [q] at hc; exact absurd hc (by simp)
        rw [h2] at h1
        exact List.eq_nil_of_length_eq_zero h1.symm
      repeat kbo_bools
      exact hok hnil h8 g7 _ dvs7 m17 (sl8 F8 N8) (N8 _ (.tail _ (.tail _ (.head _)))).1 S.dl ⟨⟨_, (N8 _ (.tail _ (.tail _ (.tail _ (.head _))))).1⟩, ⟨_, S.o0 ▸ (N8 _ (.tail _ (.tail _ (.tail _ (.tail _ (.head _)))))).1⟩⟩ S.G
end
end
section
open PySem PySem.W PyProof.Rows PySem.Calls PySem.Spec PyProof.V
set_option maxHeartbeats 4000000
noncomputable abbrev fTold (P : Params) : FuncData := fnIn? (hd.zo_188 P)
noncomputable abbrev envTold (P : Params) (L : Addr) : Env := callEnv (fTold P) L 245
section
variable {w : World} {A : Around} {E : Value → Shared → Prop} {h : Heap} {g : Array GenState} {d : Drawn} {tk : Nat} {os : OsState} {mg mb : Str → Option Value}
theorem RefL.tups {tps : List (Addr × Obj)} {kvs : List (Int × Value)} {D : List (Nat × Str × Str)} (x : RefL tps kvs D) : RefL (tps.filter fun p => match p.2.data with | .seq _ _ => true | _ => false) kvs D := by
  induction x with
  | nil => exact .nil
  | snoc _ hm ih => exact .snoc ih (List.mem_filter.mpr ⟨hm, rfl⟩)
theorem told_at (P : Params) : (KN P).lookup 245 = some (hd.zo_188 P) := by kernel_rfl
theorem told_ok {ln : Addr} {ld : List Str} {lvs : List Value} {outer : List Env} {ps ps2 : Array Value} {op : Obj} {Q : Value → Shared → Prop}
    (B : Bs w mg mb (hideAll h ([226, 147] ++ frs outer))) (R : Rm A 25) (hfr : A.frames = some outer) (FF : h.FunFrames (hideAll h ([226, 147] ++ frs outer)) outer)
    (hln : (hideAll h ([226, 147] ++ frs outer)).IsList ln lvs.toArray) (hlv : ∀ (i : Nat) (v : Value), lvs[i]? = some v → ∃ l t, ld[i]? = some l ∧ v = .str (rowT l) t) (hll : lvs.length = ld.length) (hld : ∀ l ∈ ld, l ∈ LEADS) (hn6 : ld.length ≤ 6)
    (hP : h.get? 226 = some (tabObj ps)) (hT1 : TriplesOk ps.toList) (hT2 : codeAmong (lamPos w.params) ps.toList = none)
    (h147 : h.get? 147 = some op) (ho0 : op = tabObj ps2) (ho1 : op.data = .fields ps2) (ho2 : TriplesOk ps2.toList) (G : AllBare g)
    (hQ : ∀ tp dp rf od kvs tps dvs n' h' g' tk', Mv [226, 147] (frs outer) h h' → h'.get? tp = some (tupO [.ref dp, .ref rf]) → h'.get? dp = some (listO dvs n') → IntsAre dvs (dsI (run ld 0 [⟨#[]⟩] [] []).1) → h'.get? rf = some od → od.IsDictOf (intKind PG w) kvs →
      RefL tps kvs (run ld 0 [⟨#[]⟩] [] []).2 → (∀ p ∈ tps, h'.get? p.1 = some p.2 ∧ h.get? p.1 = none) → h.get? tp = none → h.get? dp = none → h.get? rf = none → (rf == sysModules) = false → TT h' → AllBare g' → Q (.ref tp) ⟨h', g', d, tk', os⟩) :
    wpAny (MM w) A (call (.ref 245) [.ref ln]) Q E ⟨h, g, d, tk, os⟩ := by
  have n226 : (226 : Addr) ∉ frs outer := ff_nf FF hP rfl
  have n147 : (147 : Addr) ∉ frs outer := ff_nf FF h147 ho1
  refine wpAny_call ?_
  refine enterX (fd := fTold w.params) (body := _) (hb := hideAll h ([226, 147] ++ frs outer)) (nw := (226, tabObj ps) :: (147, op) :: objsAt h (frs outer)) (binds := [(⟨⟨[108, 105, 110, 101, 115]⟩⟩, .ref ln)]) B (fun b o e => of_hideAll _ e) ?_ (told_at _) rfl (by kernel_rfl) rfl (BindsTo.of_eq (by kernel_rfl)) R.room (Nat.le_of_eq (hideAll_size _ _)) ?_ (by kernel_rfl) (by kernel_rfl) rfl rfl rfl rfl
  · refine nw_of_hide fun p hp => ?_
    revert p hp
    refine fm_cons ?_ ?_
    · exact ⟨.head _, hP⟩
    refine fm_cons ?_ ?_
    · exact ⟨.tail _ (.head _), h147⟩
    intro p hp
    · have := objsAt_mem.mp hp
      exact ⟨List.mem_append_right _ this.1, this.2⟩
  generalize hbe : hideAll h ([226, 147] ++ frs outer) = hb at *
  generalize hfo : objsAt h (frs outer) = fo0 at *
  rintro h₁ L tk F N hL X1
  simp only [List.reverse_cons, List.reverse_nil, List.nil_append, List.cons_append] at F
  have R1 : Rm (A.deeper (envTold w.params L)) 24 := R.deeper
  have hh := R1.hd
  have hb226 : hb.get? 226 = none := (N _ (.head _)).2.2
  have hb147 : hb.get? 147 = none := (N _ (.tail _ (.head _))).2.2
  have hbig : sysModules < hb.objs.size := Nat.lt_of_le_of_lt (by decide) (Heap.lt_size (B.X _ _ (told_at _)))
  have hbL : hb.get? L = none := by
    refine gN fun o e => ?_
    rw [← hbe] at e; have := Heap.lt_size (of_hideAll _ e); rw [hL] at this; exact absurd this (Nat.lt_irrefl _)
  have hbn : ∀ a ∈ frs outer, hb.get? a = none := ff_none FF
  have Lf : L ∉ frs outer := fun q => by have := ff_lt FF L q; rw [hL] at this; exact Nat.lt_irrefl _ this
  have frm : ∀ a ∈ frs outer, ∃ o, (a, o) ∈ fo0 := fun a ha => by
    refine holdG fun Pz kz => ?_
    obtain ⟨_, o, qo, _⟩ := FF.mem ha
    refine kz ?_
    clear kz Pz
    exact ⟨o, by rw [← hfo]; exact objsAt_mem.mpr ⟨ha, qo⟩⟩
  have fof : ∀ p ∈ fo0, p.1 ∈ frs outer ∧ h.get? p.1 = some p.2 := fun p hp => by rw [← hfo] at hp; exact objsAt_mem.mp hp
  repeat kbo_bools
  refine al_list F N (by decide) (fun dp h2 F2 N2 hl2 X2 hn2 => ?_)
  have hold1 : ∀ b, h₁.get? b = none → h.get? b = none := fun b hb' => by
    refine gN fun o e => ?_
    (first | exact gX hb' (X1 _ _ e) | exact gX (X1 _ _ e) hb' | (rw [X1 _ _ e] at hb'; cases hb'))
  have hdpn := hold1 dp hn2
  clear F N
  repeat kbo_bools
  rename_i h3 tk3 F3 N3
  refine wpAny_Try_except ?_
  repeat kbo_bools
  show wpAny _ _ (call (.ref 238) [.ref ln, .ref dp]) _ _ _
  have N226 := N3 _ (.tail _ (.head _))
  have N147 := N3 _ (.tail _ (.tail _ (.head _)))
  have Ndp := N3 _ (.head _)
  dsimp only at N226 N147 Ndp
  have dpf : dp ∉ frs outer := fun q => by obtain ⟨o, ho⟩ := frm dp q; exact Nat.lt_irrefl _ (hl2 _ (.tail _ (.tail _ ho)))
  have d226 : dp ≠ 226 := Nat.ne_of_gt (hl2 _ (.head _))
  have d147 : dp ≠ 147 := Nat.ne_of_gt (hl2 _ (.tail _ (.head _)))
  have hXb : ∀ a ∈ [226, 147, dp], hb.get? a = none ∧ a ≠ L := by
    refine fm_cons ?_ ?_
    · exact ⟨N226.2.2, N226.2.1⟩
    refine fm_cons ?_ ?_
    · exact ⟨N147.2.2, N147.2.1⟩
    intro a ha
    · rw [List.mem_singleton.mp ha]; exact ⟨Ndp.2.2, Ndp.2.1⟩
  have hSn : ∀ a ∈ L :: frs outer, hb.get? a = none := by
    refine fm_cons ?_ ?_
    · exact hbL
    intro a ha
    · exact hbn a ha
  have hX : ∀ a ∈ [226, 147, dp] ++ frs (envTold w.params L :: outer), hb.get? a = none := by
    refine fm_app ?_ ?_
    · intro a ha
      exact (hXb a ha).1
    intro a ha
    · exact hSn a ha
  have hkind : (envTold w.params L).scope.kind ≠ .module := by rw [show (envTold w.params L).scope.kind = .function by kernel_rfl]; decide
  have FFh : ∀ base' : Heap, (∀ a ∈ L :: frs outer, base'.get? a = none) → h3.FunFrames base' (envTold w.params L :: outer) := fun base' hb' => by
    refine holdG fun Pz kz => ?_
    obtain ⟨oL, es, ep, ho, hd', _⟩ := F3.ns
    refine kz ?_
    clear kz Pz
    exact ⟨hkind, ⟨L, oL, rfl, hb' L (.head _), ho, fun vs q => by (first | exact gX q hd' | exact gX hd' q | (rw [hd'] at q; cases q))⟩, ff_sl FF (fun a ha => hb' a (.tail _ ha)) (fun a ha o eo => ⟨o.slots, (N3 (a, o) (.tail _ (.tail _ (.tail _ (by rw [← hfo]; exact objsAt_mem.mpr ⟨ha, eo⟩))))).1⟩)⟩
  have hXL : ∀ a ∈ L :: frs outer, (hideAll h3 ([226, 147, dp] ++ frs (envTold w.params L :: outer))).get? a = none := fun a ha => hideAll_none _ (List.mem_append_right _ ha)
  have noL : ∀ a : Addr, a ≠ L → a ∉ frs outer → a ∉ frs (envTold w.params L :: outer) := fun a h1 h2 q => by
    rcases List.mem_cons.mp (show a ∈ L :: frs outer from q) with q | q
    · exact h1 q
    · exact h2 q
  have hfr1 : (A.deeper (envTold w.params L)).frames = some (envTold w.params L :: outer) := by
    show Option.map _ A.frames = _; rw [hfr]; rfl
  have hln3 : (hideAll h3 ([226, 147, dp] ++ frs (envTold w.params L :: outer))).IsList ln lvs.toArray := let ⟨o, e, r⟩ := hln; ⟨o, hide_ext F3.keep hX _ _ e, r⟩
  have old3 : ∀ b, h3.get? b = none → h.get? b = none := fun b hn => by
    refine gN fun o q => ?_
    by_cases hq : b ∈ [226, 147] ++ frs outer
    · rcases List.mem_append.mp hq with hq | hq
      · rcases List.mem_cons.mp hq with rfl | hq
        · (first | exact gX hn N226.1 | exact gX N226.1 hn | (rw [N226.1] at hn; cases hn))
        · (first | exact gX hn ((congrArg _ (List.mem_singleton.mp hq)).trans N147.1) | exact gX N147.1 ((congrArg _ (List.mem_singleton.mp hq)).symm.trans hn) | (rw [List.mem_singleton.mp hq, N147.1] at hn; cases hn))
      · have := (N3 (b, o) (.tail _ (.tail _ (.tail _ (by rw [← hfo]; exact objsAt_mem.mpr ⟨hq, q⟩))))).1
        (first | exact gX hn this | exact gX this hn | (rw [this] at hn; cases hn))
    · have : hb.get? b = some o := by rw [← hbe]; exact hideAll_get _ q hq
      (first | exact gX hn (F3.keep _ _ this) | exact gX (F3.keep _ _ this) hn | (rw [F3.keep _ _ this] at hn; cases hn))
  have fr3 : ∀ a ∈ frs outer, ∀ o, h.get? a = some o → h3.get? a = some o := fun a ha o eo => (N3 (a, o) (.tail _ (.tail _ (.tail _ (by rw [← hfo]; exact objsAt_mem.mpr ⟨ha, eo⟩))))).1
  have hcov : ∀ a ∈ 226 :: 147 :: frs outer, a ≠ L ∧ hb.get? a = none := by
    refine fm_cons ?_ ?_
    · exact ⟨N226.2.1, N226.2.2⟩
    refine fm_cons ?_ ?_
    · exact ⟨N147.2.1, N147.2.2⟩
    intro a ha
    · exact ⟨fun e => Lf (e ▸ ha), hbn _ ha⟩
  refine read_ok (ps := ps) (ps2 := ps2) (op := op) (ld := ld) (lvs := lvs) (n0 := 0) (outer := envTold w.params L :: outer) (B.hide F3.keep hX) (R1.le (by decide)) hfr1 (FFh _ hXL) hln3 hlv hll hld hn6 Ndp.1 (noL _ Ndp.2.1 dpf) N226.1 hT1 hT2 N147.1 ho0 ho1 ho2 G
    (fun hnil h4 g4 tk4 dvs n4 M4 hdp4 hdv4 hTT G4 => ?_) (fun hne e D T' fs rf od kvs tps dvs n4 h4 g4 tk4 t1 M4 X4 he4 hD4 hrf4 hod hrl htp hdp4 hdv4 hen hTn hDn hrn hTT G4 => ?_)
  · have M4' : Mv [226, 147, dp] (L :: frs outer) h3 h4 := M4
    have F4 := fr_mv F3 M4' hXb hSn
    have fr4 : ∀ a ∈ frs outer, ∀ o, h.get? a = some o → ∃ sl, h4.get? a = some { o with slots := sl } := fun a ha o eo => (M4' a o (fun q => by
      clear eo
      revert ha
      revert a q
      exact (fm_cons n226 (fm_cons n147 (fm_cons dpf (fun p hp => nomatch hp))))) (fr3 a ha o eo)).2 (.tail _ ha)
    have N4 : News hb L h4 ((dp, listO dvs n4) :: objsAt h4 (226 :: 147 :: frs outer)) := by
      refine fm_cons ?_ ?_
      · exact ⟨hdp4, Ndp.2⟩
      intro p hp
      · obtain ⟨q1, q2⟩ := objsAt_mem.mp hp
        exact ⟨q2, hcov _ q1⟩
    generalize hfr4 : objsAt h4 (226 :: 147 :: frs outer) = fo4 at *
    clear F3 N3
    repeat kbo_bools
    refine wpAny_Dict_empty ?_
    have F5 := F4.push emptyDict
    have N5 := News.push F4 N4 emptyDict
    have hmods : (h4.objs.size == sysModules) = false := F4.notModules hbig
    have hlt4 := nw_lt N4
    have hod : (emptyDict : Obj).IsDictOf (intKind PG w) [] := by
      obtain ⟨o, ho, hd⟩ := Heap.dictOf_iff.mp (Heap.DictOf.new (knd := intKind PG w) h4)
      rw [Heap.get?_push_size _ rfl] at ho
      cases ho; exact hd
    have hrfn : h.get? h4.objs.size = none := by
      refine gN fun o q => ?_
      have h1 : @LE.le Nat _ h.objs.size h4.objs.size := by rw [← hL]; exact Nat.le_of_lt (fr_lt F4)
      exact absurd (Nat.lt_of_lt_of_le (Heap.lt_size q) h1) (Nat.lt_irrefl _)
    have hsz4 : @LE.le Nat _ h.objs.size h4.objs.size := by rw [← hL]; exact Nat.le_of_lt (fr_lt F4)
    generalize hrf : h4.objs.size = rf at *
    dsimp only
    repeat kbo_bools
    refine al_tup F5 N5 (by show 2 ≤ 1000; decide) (fun tp h6 F6 N6 hl6 X6 hn6 => ?_)
    repeat kbo_bools
    refine hQ tp dp rf emptyDict [] [] dvs n4 h6 g4 _ (mv_hide (by rw [hbe]; exact F6.keep) (fun b hb' o eo => ?_)) (N6 _ (.head _)).1 (N6 _ (.tail _ (.tail _ (.head _)))).1 hdv4 (N6 _ (.tail _ (.head _))).1 hod (by rw [hnil]; exact .nil) (fun _ q => (nomatch q)) ?_ hdpn hrfn hmods ?_ G4
    · obtain ⟨sl, q⟩ := fr4 b hb' o eo
      exact ⟨sl, (N6 (b, _) (.tail _ (.tail _ (.tail _ (by rw [← hfr4]; exact objsAt_mem.mpr ⟨.tail _ (.tail _ hb'), q⟩))))).1⟩
    · refine gN fun o q => ?_
      exact absurd (Nat.lt_of_lt_of_le (Heap.lt_size q) (Nat.le_trans hsz4 (Nat.le_of_lt (hl6 _ (.head _))))) (Nat.lt_irrefl _)
    · refine holdG fun Pz kz => ?_
      obtain ⟨⟨qs, e1⟩, qs2, e2⟩ := hTT
      refine kz ?_
      clear kz Pz
      exact ⟨⟨qs, (N6 (226, tabObj qs) (.tail _ (.tail _ (.tail _ (by rw [← hfr4]; exact objsAt_mem.mpr ⟨.head _, e1⟩))))).1⟩, qs2, (N6 (147, tabObj qs2) (.tail _ (.tail _ (.tail _ (by rw [← hfr4]; exact objsAt_mem.mpr ⟨.tail _ (.head _), e2⟩))))).1⟩
  · have M4' : Mv [226, 147, dp] (L :: frs outer) h3 h4 := M4
    have F4 := fr_mv F3 M4' hXb hSn
    have n3b : ∀ b, h3.get? b = none → hb.get? b = none := fun b hn => by
      refine gN fun o q => ?_
      (first | exact gX hn (F3.keep _ _ q) | exact gX (F3.keep _ _ q) hn | (rw [F3.keep _ _ q] at hn; cases hn))
    have n3L : ∀ b, h3.get? b = none → b ≠ L := fun b hn q => by obtain ⟨oL, _, _, qL, _⟩ := F3.ns; (first | exact gX hn ((congrArg _ q).trans qL) | exact gX qL ((congrArg _ q).symm.trans hn) | (rw [q, qL] at hn; cases hn))
    have n3f : ∀ b, h3.get? b = none → b ∉ frs outer := fun b hn q => by
      refine holdG fun Pz kz => ?_
      obtain ⟨_, o, qo, _⟩ := FF.mem q
      refine kz ?_
      clear kz Pz
      (first | exact gX hn (fr3 b q o qo) | exact gX (fr3 b q o qo) hn | (rw [fr3 b q o qo] at hn; cases hn))
    have hrl' := hrl.tups
    have htp' : ∀ p ∈ tps.filter (fun p => match p.2.data with | .seq _ _ => true | _ => false), h4.get? p.1 = some p.2 ∧ h3.get? p.1 = none ∧ ∃ a k, p.2.data = .seq a k := fun p hp => by
      obtain ⟨h1, h2⟩ := List.mem_filter.mp hp
      refine ⟨(htp p h1).1, (htp p h1).2, ?_⟩
      split at h2
      · rename_i a k e; exact ⟨a, k, e⟩
      · cases h2
    generalize tps.filter (fun p => match p.2.data with | .seq _ _ => true | _ => false) = tp2 at hrl' htp'
    have N4 : News hb L h4 ((D, dictOf (refEs w.params t1 (.ref rf)) 1) :: (rf, od) :: (dp, listO dvs n4) :: tp2) := by
      refine fm_cons ?_ ?_
      · exact ⟨hD4, n3L _ hDn, n3b _ hDn⟩
      refine fm_cons ?_ ?_
      · exact ⟨hrf4, n3L _ hrn, n3b _ hrn⟩
      refine fm_cons ?_ ?_
      · exact ⟨hdp4, Ndp.2⟩
      intro p hp
      · exact ⟨(htp' p hp).1, n3L _ (htp' p hp).2.1, n3b _ (htp' p hp).2.1⟩
    have FF4 : h4.FunFrames hb (envTold w.params L :: outer) := ff_mv (FFh hb hSn) M4' (fun a ha q => by
      revert q
      revert a ha
      refine (fm_cons (fun q => ?_) (fm_cons (fun q => ?_) (fm_cons (fun q => ?_) (fun p hp => nomatch hp))))
      · exact noL _ N226.2.1 n226 q
      · exact noL _ N147.2.1 n147 q
      · exact noL _ Ndp.2.1 dpf q)
    refine holdG fun Pz kz => ?_
    obtain ⟨es, ep, hod1, hod2, hod3⟩ := id hod
    obtain ⟨vsx, oTx, tsx, hex, hx1, hTex, hTx, hdTx, hx3⟩ := X4.out
    refine kz ?_
    clear kz Pz
    have nef : ∀ (b : Addr) (o : Obj), h4.get? b = some o → (∀ vs, o.data ≠ .fields vs) → b ≠ e ∧ b ≠ T' := fun b o q hn => ⟨fun r => by rw [r, he4] at q; cases q; exact hn _ rfl, fun r => by rw [r, hTx] at q; cases q; exact hn _ hdTx⟩
    have fr4 : ∀ a ∈ frs outer, ∀ o, h.get? a = some o → ∃ sl, h4.get? a = some { o with slots := sl } := fun a ha o eo => (M4' a o (fun q => by
      clear eo
      revert ha
      revert a q
      exact (fm_cons n226 (fm_cons n147 (fm_cons dpf (fun p hp => nomatch hp))))) (fr3 a ha o eo)).2 (.tail _ ha)
    have hsz4 : @LE.le Nat _ h.objs.size h4.objs.size := by rw [← hL]; exact Nat.le_of_lt (fr_lt F4)
    refine caught (hp := hb) F4 N4 B hfr1 FF4 rfl X4 (n3b _ hen) (n3b _ hTn) (fun p hp => ?_) (smtp_cls _) (gl_SMTPRecipientsRefused _) (fun h5 tk5 fs5 E1 F5 N5 he5 M5 hsz => ?_)
    · revert p hp
      refine fm_cons ?_ ?_
      · have := nef _ _ hD4 (fun vs q => nomatch q)
        exact ⟨this.1, this.2, noL _ (n3L _ hDn) (n3f _ hDn)⟩
      refine fm_cons ?_ ?_
      · have := nef _ _ hrf4 (fun vs q => by (first | exact gX q hod2 | exact gX hod2 q | (rw [hod2] at q; cases q)))
        exact ⟨this.1, this.2, noL _ (n3L _ hrn) (n3f _ hrn)⟩
      refine fm_cons ?_ ?_
      · have := nef _ _ hdp4 (fun vs q => nomatch q)
        exact ⟨this.1, this.2, noL _ Ndp.2.1 dpf⟩
      intro p hp
      · refine holdG fun Pz kz => ?_
        obtain ⟨q1, q2, a, k, q3⟩ := htp' p hp
        refine kz ?_
        clear kz Pz
        have := nef _ _ q1 (fun vs q => by (first | exact gX q q3 | exact gX q3 q | (rw [q3] at q; cases q)))
        exact ⟨this.1, this.2, noL _ (n3L _ q2) (n3f _ q2)⟩
    · have fr5 : ∀ a ∈ frs outer, ∀ o, h.get? a = some o → ∃ sl, h5.get? a = some { o with slots := sl } := fun a ha o eo => by
        obtain ⟨sl, q⟩ := fr4 a ha o eo
        obtain ⟨sl2, q2⟩ := (M5 a _ (fun q' => by
          rcases List.mem_cons.mp q' with r | q'
          · exact n3f _ hen (r ▸ ha)
          rcases List.mem_cons.mp q' with r | q'
          · exact n3f _ hTn (r ▸ ha)
          · rw [List.mem_singleton.mp q'] at ha; exact Lf ha) q).2 (.tail _ ha)
        exact ⟨sl2, q2⟩
      have hTT5 : TT h5 := by
        have k5 : ∀ (a : Addr) (qs : Array Value), h3.get? a ≠ none → a ≠ L → a ∉ frs outer → h4.get? a = some (tabObj qs) → h5.get? a = some (tabObj qs) := fun a qs h1 h2 h3' q => (M5 a _ (fun q' => by
          rcases List.mem_cons.mp q' with r | q'
          · exact h1 (r ▸ hen)
          rcases List.mem_cons.mp q' with r | q'
          · exact h1 (r ▸ hTn)
          · exact h2 (List.mem_singleton.mp q')) q).1 (noL _ h2 h3')
        refine holdG fun Pz kz => ?_
        obtain ⟨⟨qs, e1⟩, qs2, e2⟩ := hTT
        refine kz ?_
        clear kz Pz
        exact ⟨⟨qs, k5 _ _ (by rw [N226.1]; simp) N226.2.1 n226 e1⟩, qs2, k5 _ _ (by rw [N147.1]; simp) N147.2.1 n147 e2⟩
      replace N5 : News hb L h5 ((D, dictOf (refEs w.params t1 (.ref rf)) 1) :: (rf, od) :: (dp, listO dvs n4) :: (tp2 ++ objsAt h5 (226 :: 147 :: frs outer))) := fun p hp => by
        have key : p ∈ (D, dictOf (refEs w.params t1 (.ref rf)) 1) :: (rf, od) :: (dp, listO dvs n4) :: tp2 ∨ p ∈ objsAt h5 (226 :: 147 :: frs outer) := by
          revert p hp
          refine fm_cons ?_ ?_
          · exact .inl (.head _)
          refine fm_cons ?_ ?_
          · exact .inl (.tail _ (.head _))
          refine fm_cons ?_ ?_
          · exact .inl (.tail _ (.tail _ (.head _)))
          refine fm_app ?_ ?_
          · intro p hp
            exact .inl (.tail _ (.tail _ (.tail _ hp)))
          intro p hp
          · exact .inr hp
        rcases key with hp | hp
        · exact N5 p hp
        · obtain ⟨q1, q2⟩ := objsAt_mem.mp hp
          exact ⟨q2, hcov _ q1⟩
      generalize hfr5 : objsAt h5 (226 :: 147 :: frs outer) = fo5 at *
      have hrfm : (rf == sysModules) = false := by
        have hlt : ¬ rf = sysModules := fun q => by
          have h1 := n3b _ hrn
          rw [q] at h1
          rw [show hb.get? sysModules = some (hd.zo_2 w.params) from B.X _ _ (by kernel_rfl)] at h1
          cases h1
        exact beq_false_of_ne hlt
      clear F3 N3 F4 N4
      repeat kbo_bools
      refine exc_get (B.X.keeps F5.keep) he5 (N5 _ (.head _)).1 (smtp_k _) (smtp_rc _) (v := .ref rf) (by kernel_rfl) rfl (fun tk6 => ?_)
      repeat kbo_bools
      refine al_tup F5 N5 (by show 2 ≤ 1000; decide) (fun tp h6 F6 N6 hl6 X6 hn6 => ?_)
      repeat kbo_bools
      refine name_goes F6 N6 (fun h7 v7 tk7 F7 N7 S7 => ?_)
      repeat kbo_bools
      refine hQ tp dp rf od kvs tp2 dvs n4 h7 g4 _ (mv_hide (by rw [hbe]; exact F7.keep) (fun b hb' o eo => ?_)) (N7 _ (.head _)).1 (N7 _ (.tail _ (.tail _ (.tail _ (.head _))))).1 hdv4 (N7 _ (.tail _ (.tail _ (.head _)))).1 hod hrl' (fun p hp => ⟨(N7 p (.tail _ (.tail _ (.tail _ (.tail _ (List.mem_append_left _ hp)))))).1, old3 _ (htp' p hp).2.1⟩) ?_ hdpn (old3 _ hrn) hrfm ?_ G4
      · obtain ⟨sl, q⟩ := fr5 b hb' o eo
        exact ⟨sl, (N7 (b, _) (.tail _ (.tail _ (.tail _ (.tail _ (List.mem_append_right _ (by rw [← hfr5]; exact objsAt_mem.mpr ⟨.tail _ (.tail _ hb'), q⟩))))))).1⟩
      · refine gN fun o q => ?_
        have h6 : h5.get? tp = none := hn6
        have hdt : @LT.lt Nat _ dp tp := hl6 _ (.tail _ (.tail _ (.head _)))
        have q226 : @LT.lt Nat _ 226 dp := hl2 _ (.head _)
        have q147 : @LT.lt Nat _ 147 dp := hl2 _ (.tail _ (.head _))
        by_cases hq : tp ∈ [226, 147] ++ frs outer
        · rcases List.mem_append.mp hq with hq | hq
          · rcases List.mem_cons.mp hq with e | hq
            · rw [e] at hdt; exact absurd (Nat.lt_trans q226 hdt) (Nat.lt_irrefl _)
            · rw [List.mem_singleton.mp hq] at hdt; exact absurd (Nat.lt_trans q147 hdt) (Nat.lt_irrefl _)
          · obtain ⟨sl, q2⟩ := fr5 tp hq o q
            (first | exact gX h6 q2 | exact gX q2 h6 | (rw [q2] at h6; cases h6))
        · have : hb.get? tp = some o := by rw [← hbe]; exact hideAll_get _ q hq
          (first | exact gX h6 (F5.keep _ _ this) | exact gX (F5.keep _ _ this) h6 | (rw [F5.keep _ _ this] at h6; cases h6))
      · refine holdG fun Pz kz => ?_
        obtain ⟨⟨qs, e1⟩, qs2, e2⟩ := hTT5
        refine kz ?_
        clear kz Pz
        exact ⟨⟨qs, (N7 (226, tabObj qs) (.tail _ (.tail _ (.tail _ (.tail _ (List.mem_append_right _ (by rw [← hfr5]; exact objsAt_mem.mpr ⟨.head _, e1⟩))))))).1⟩, qs2, (N7 (147, tabObj qs2) (.tail _ (.tail _ (.tail _ (.tail _ (List.mem_append_right _ (by rw [← hfr5]; exact objsAt_mem.mpr ⟨.tail _ (.head _), e2⟩))))))).1⟩
end
end
section
open PySem PySem.W PyProof.Rows PySem.Calls PySem.Spec
set_option maxHeartbeats 2000000
/- the columns -/
noncomputable def colGo (size : Nat) : List Nat → Nat → Nat
  | [], c => c
  | s :: r, c => colGo size r (if s = 9 then c + (size - c % size) else c + 1)
noncomputable def col (l : Str) (size : Nat) : Nat := colGo size l.cps.toList 0
section
variable {prog : Program} {w : World} {A : Around} {E : Value → Shared → Prop} {h h₀ : Heap} {g : Array GenState} {d : Drawn} {tk : Nat} {os : OsState} {env : Env} {L : Addr} {m : Str → Option Value} {nw : List (Addr × Obj)}
theorem ld_loc {x : Str} {v : Value} {Q : Value → Shared → Prop} (F : Fr h₀ L h m) (hv : m x = some v) (hQ : Q v ⟨h, g, d, tk, os⟩)
    (hk : env.scope.kind = .function := by rfl) (hl : env.kindOf x = some .local := by rfl) (hL : env.locals = L := by rfl) : wpAny (model prog w) A (loadName env x) Q E ⟨h, g, d, tk, os⟩ := wpAny_loadName_local hk hl (hL ▸ F.ns) hv hQ
theorem o_iadd {a b : Int} {t u : Tok} {Q : Value → Shared → Prop} (hQ : ∀ t tk, Q (.int (a + b) t) ⟨h, g, d, tk, os⟩) : wpAny (model prog w) A (inplaceOp .Add (.int a t) (.int b u)) Q E ⟨h, g, d, tk, os⟩ := PyProof.Rows.iadd_int (hQ _ _)
end
section
variable {w : World} {A : Around} {E : Value → Shared → Prop} {h : Heap} {g : Array GenState} {d : Drawn} {tk : Nat} {os : OsState} {mg mb : Str → Option Value}
theorem col_at (P : Params) : (KN P).lookup 224 = some (hd.zo_167 P) := by kernel_rfl
noncomputable abbrev fCol (P : Params) : FuncData := fnIn? (hd.zo_167 P)
theorem col_ok {lead : Str} {tl : Tok} {size : Nat} {ts : Tok} {Q : Value → Shared → Prop} (B : Bs w mg mb h) (R : Rm A 5) (hs : lead.cps.size < 50) (h1 : 1 ≤ size)
    (hQ : ∀ h' t tk', Ext h h' → Q (.int (col lead size) t) ⟨h', g, d, tk', os⟩) :
    wpAny (MM w) A (call (.ref 224) [.str lead tl, .int size ts]) Q E ⟨h, g, d, tk, os⟩ := by
  refine enter (fd := fCol w.params) (body := _) (binds := [(⟨⟨[108, 101, 97, 100]⟩⟩, .str lead tl), (⟨⟨[115, 105, 122, 101]⟩⟩, .int size ts)]) B (col_at _) rfl (by kernel_rfl) rfl (BindsTo.of_eq (by kernel_rfl)) R.room ?_ (by kernel_rfl) (by kernel_rfl) rfl rfl rfl rfl
  intro h₁ L tk E' F
  simp only [List.reverse_cons, List.reverse_nil, List.nil_append, List.cons_append] at F
  have N : News h L h₁ [] := News.nil
  have hh : (A.deeper (callEnv (fCol w.params) L 224)).handled = none := R.hd
  repeat kbo_bools
  rename_i N2
  refine for_str (str := lead) (fun i g' m nw => g' = g ∧ nw = [] ∧ ∃ c t, m ⟨⟨[99, 111, 108, 117, 109, 110]⟩⟩ = some (.int (c : Nat) t) ∧ m ⟨⟨[115, 105, 122, 101]⟩⟩ = some (.int size ts) ∧ colGo size (lead.cps.toList.drop i) c = col lead size)
    (fun g' m nw => g' = g ∧ nw = [] ∧ ∃ t, m ⟨⟨[99, 111, 108, 117, 109, 110]⟩⟩ = some (.int (col lead size) t)) hh (by assumption) N2 ⟨rfl, rfl, 0, _, by tb_rel, by tb_rel, rfl⟩ ?_ ?_ ?_
  · rintro i c t1 g' m nw h3 tk3 E3 fo I hc ⟨rfl, rfl, cc, tc, e1, e2, e3⟩ F3 N3 hne ⟨oI, hoI⟩ hfk
    have hc' : lead.cps.toList[i]? = some c := by simpa using hc
    rw [drop_cons hc'] at e3
    repeat kbo_bools
    refine wpAny_AugAssign_Name ?_
    refine ld_loc F3 (by tb_rel) ?_
    refine IfExp_ ?_
    repeat kbo_bools
    rw [chr_eq]
    refine ifB (fun hb => ?_) (fun hb => ?_)
    · have hb := of_decide_eq_true hb
      subst hb
      repeat kbo_bools
      refine o_mod (by (first | lia | omega)) (fun _ _ => ?_)
      repeat kbo_bools
      refine o_iadd (fun _ _ => ?_)
      repeat kbo_bools
      rename_i h4 tk4 F4 N4
      have ev : (cc : Int) + ((size : Int) - (cc : Int).fmod size) = ((cc + (size - cc % size) : Nat) : Int) := by
        rw [Int.fmod_eq_emod_of_nonneg _ (by (first | lia | omega))]
        have h2 := Nat.mod_lt cc (show 0 < size by (first | lia | omega))
        (first | lia | omega)
      refine lp_next ⟨h4, g', _, _, [], rfl, F4, N4, fun p hp => (nomatch hp), rfl, rfl, cc + (size - cc % size), _, by rw [← ev]; exact upd_self, by tb_rel, ?_⟩
      rw [← e3, colGo, if_pos rfl]
    · have hb := of_decide_eq_false hb
      repeat kbo_bools
      refine o_iadd (fun _ _ => ?_)
      repeat kbo_bools
      rename_i h4 tk4 F4 N4
      refine lp_next ⟨h4, g', _, _, [], rfl, F4, N4, fun p hp => (nomatch hp), rfl, rfl, cc + 1, _, by exact upd_self, by tb_rel, ?_⟩
      rw [← e3, colGo, if_neg hb]
  · rintro g' m nw ⟨rfl, rfl, c, t, e1, e2, e3⟩
    rw [List.drop_eq_nil_of_le (by simp)] at e3
    exact ⟨rfl, rfl, t, by rw [← e3]; exact e1⟩
  · rintro g' m nw h3 tk3 ⟨rfl, rfl, t, e1⟩ F3 N3
    repeat kbo_bools
    exact hQ _ _ _ F3.keep
end
end
section
open PySem PySem.W PyProof.Rows PySem.Calls PySem.Spec
set_option maxHeartbeats 2000000
section
variable {prog : Program} {w : World} {A : Around} {E : Value → Shared → Prop} {h h₀ : Heap} {g : Array GenState} {d : Drawn} {tk : Nat} {os : OsState} {env : Env} {L : Addr} {m : Str → Option Value} {nw : List (Addr × Obj)}
/-- xs[i:j] : what is left at its end -/
noncomputable def SliceK (o vl vu : Value) (Q : Value → Shared → Prop) (s₃ : Shared) : Prop := ∃ l items lo hi, o = .ref l ∧ s₃.heap.IsList l items ∧ items.size ≤ sizeLine ∧ IsPart vl lo ∧ IsPart vu hi ∧
  Q (.ref (s₃.heap.objs.size + 1)) { s₃ with heap := (s₃.heap.push { cls := .type "slice", data := .fields #[vl, vu, .none] }).push { cls := .type "list", data := .seq (slicePick items lo hi none) } }
theorem sub_slice {value : Expr} {lower upper : Option Expr} {p pos : Pos} {s : Shared} {Q : Value → Shared → Prop}
    (h : wpAny (model prog w) A (eval value env) (fun o s₁ => wpAny (model prog w) A (evalPart lower env) (fun vl s₂ => wpAny (model prog w) A (evalPart upper env) (fun vu s₃ => SliceK o vl vu Q s₃) E s₂) E s₁) E s)
    (ht : ∀ o r, letTemporaryGo value o r = pure () := by intro _ _; rfl) :
    wpAny (model prog w) A (eval (.Subscript value (.Slice lower upper none p) pos) env) Q E s := wpAny_Subscript_list_slice h ht
theorem slice_end {l : Addr} {items : Array Value} {lo hi : Option Int} {vl vu : Value} {Q : Value → Shared → Prop} (F : Fr h₀ L h m) (N : News h₀ L h nw) (hl : h.IsList l items) (hsz : items.size ≤ 1000) (pl : IsPart vl lo) (pu : IsPart vu hi)
    (hQ : ∀ a h', Fr h₀ L h' m → News h₀ L h' ((a, listO (slicePick items lo hi none).toList 0) :: nw) → (∀ p ∈ nw, @LT.lt Nat _ p.1 a) → Ext h h' → Q (.ref a) ⟨h', g, d, tk, os⟩) :
    SliceK (.ref l) vl vu Q ⟨h, g, d, tk, os⟩ := by
  refine ⟨l, items, lo, hi, rfl, hl, Nat.le_trans hsz (by rw [sizeLine_eq]; decide), pl, pu, ?_⟩
  have F1 := F.push { cls := .type "slice", data := .fields #[vl, vu, .none] }
  have N1 := nw_ext N (Ext.push h { cls := .type "slice", data := .fields #[vl, vu, .none] })
  have N2 := News.push F1 N1 { cls := .type "list", data := .seq (slicePick items lo hi none) }
  rw [Heap.size_push] at N2
  exact hQ (h.objs.size + 1) _ (F1.push _) N2 (fun p hp => Nat.lt_succ_of_lt (nw_lt N p hp)) ((Ext.push _ _).trans (Ext.push _ _))
end
end
section
open PySem PySem.W PyProof.Rows PySem.Calls PySem.Spec
set_option maxHeartbeats 2000000
section
variable {prog : Program} {w : World} {A : Around} {E : Value → Shared → Prop} {h h₀ : Heap} {g : Array GenState} {d : Drawn} {tk : Nat} {os : OsState} {env : Env} {L : Addr} {m : Str → Option Value} {nw : List (Addr × Obj)}
theorem o_smul {x : Str} {t u : Tok} {n : Nat} {Q : Value → Shared → Prop} (hx : x.length = 1) (hn : n < 3) (hQ : ∀ t tk, Q (.str (Txt.mul x n) t) ⟨h, g, d, tk, os⟩) : wpAny (model prog w) A (binaryOp .Mult (.str x t) (.int n u)) Q E ⟨h, g, d, tk, os⟩ := by
  refine SB.mul (s := ⟨h, g, d, tk, os⟩) ⟨?_, fun h1 h2 => ?_, fun h1 h2 => ?_⟩ (fun t' k => hQ t' k)
  · simp; (first | lia | omega)
  · rw [hx]
    match n, hn with
    | 0, _ => exact absurd (by decide) h1
    | 1, _ => decide
    | 2, _ => decide
  · rw [hx]
    match n, hn with
    | 0, _ => decide +kernel
    | 1, _ => decide +kernel
    | 2, _ => decide +kernel
end
noncomputable def leadI (cell : Int) : Str := lead4 (cell.fmod 3).toNat ((cell.fdiv 3).fmod 3).toNat ((cell.fdiv 9).fmod 3).toNat ((cell.fdiv 27).fmod 3).toNat
theorem fm3 (a : Int) : ∃ k : Nat, a.fmod 3 = k ∧ k < 3 ∧ (a.fmod 3).toNat = k := by
  have h1 := Int.fmod_nonneg_of_pos a (show (0 : Int) < 3 by decide)
  have h2 := Int.fmod_lt_of_pos a (show (0 : Int) < 3 by decide)
  exact ⟨(a.fmod 3).toNat, by (first | lia | omega), by (first | lia | omega), rfl⟩
theorem leadI_mem (cell : Int) : leadI cell ∈ LEADS := by
  refine holdG fun Pz kz => ?_
  obtain ⟨_, _, h1, e1⟩ := fm3 cell
  obtain ⟨_, _, h2, e2⟩ := fm3 (cell.fdiv 3)
  obtain ⟨_, _, h3, e3⟩ := fm3 (cell.fdiv 9)
  obtain ⟨_, _, h4, e4⟩ := fm3 (cell.fdiv 27)
  refine kz ?_
  clear kz Pz
  unfold leadI
  rw [e1, e2, e3, e4]
  exact lead_mem h1 h2 h3 h4
theorem lead_text : ∀ a < 3, ∀ b < 3, ∀ c < 3, ∀ d < 3, Txt.join ⟨⟨[]⟩⟩ (List.take a [Txt.mul ⟨⟨[32]⟩⟩ (b : Nat) ++ ⟨⟨[9]⟩⟩, Txt.mul ⟨⟨[32]⟩⟩ (c : Nat) ++ ⟨⟨[9]⟩⟩]) ++ Txt.mul ⟨⟨[32]⟩⟩ (d : Nat) = lead4 a b c d := by decide +kernel
theorem mul_len : ∀ b < 3, (Txt.mul ⟨⟨[32]⟩⟩ (b : Nat)).length ≤ 2 := by decide +kernel
theorem join_len : ∀ a < 3, ∀ b < 3, ∀ c < 3, (Txt.join ⟨⟨[]⟩⟩ (List.take a [Txt.mul ⟨⟨[32]⟩⟩ (b : Nat) ++ ⟨⟨[9]⟩⟩, Txt.mul ⟨⟨[32]⟩⟩ (c : Nat) ++ ⟨⟨[9]⟩⟩])).length ≤ 10 := by decide +kernel
section
variable {w : World} {A : Around} {E : Value → Shared → Prop} {h : Heap} {g : Array GenState} {d : Drawn} {tk : Nat} {os : OsState} {mg mb : Str → Option Value}
theorem lead_at (P : Params) : (KN P).lookup 217 = some (hd.zo_160 P) := by kernel_rfl
noncomputable abbrev fLead (P : Params) : FuncData := fnIn? (hd.zo_160 P)
theorem lead_ok {cell : Int} {tc : Tok} {Q : Value → Shared → Prop} (B : Bs w mg mb h) (R : Rm A 5)
    (hQ : ∀ h' t tk', Ext h h' → Q (.str (leadI cell) t) ⟨h', g, d, tk', os⟩) :
    wpAny (MM w) A (call (.ref 217) [.int cell tc]) Q E ⟨h, g, d, tk, os⟩ := by
  refine holdG fun Pz kz => ?_
  obtain ⟨a, ea, ha, ea'⟩ := fm3 cell
  obtain ⟨b, eb, hb, eb'⟩ := fm3 (cell.fdiv 3)
  obtain ⟨c, ec, hc, ec'⟩ := fm3 (cell.fdiv 9)
  obtain ⟨dd, ed, hdd, ed'⟩ := fm3 (cell.fdiv 27)
  refine kz ?_
  clear kz Pz
  have hlead : leadI cell = lead4 a b c dd := by unfold leadI; rw [ea', eb', ec', ed']
  refine enter (fd := fLead w.params) (body := _) (binds := [(⟨⟨[99, 101, 108, 108]⟩⟩, .int cell tc)]) B (lead_at _) rfl (by kernel_rfl) rfl (BindsTo.of_eq (by kernel_rfl)) R.room ?_ (by kernel_rfl) (by kernel_rfl) rfl rfl rfl rfl
  intro h₁ L tk E' F
  simp only [List.reverse_cons, List.reverse_nil, List.nil_append, List.cons_append] at F
  have N : News h L h₁ [] := News.nil
  have hh : (A.deeper (callEnv (fLead w.params) L 217)).handled = none := R.hd
  repeat kbo_bools
  rw [eb]
  refine o_smul rfl hb (fun t1 tk1 => ?_)
  repeat kbo_bools
  have l1 := mul_len b hb
  have l2 := mul_len c hc
  have l3 := mul_len dd hdd
  refine o_cat (Nat.le_trans (Nat.add_le_add l1 (Nat.le_refl _)) (by decide)) (fun t2 tk2 => ?_)
  repeat kbo_bools
  rw [ec]
  refine o_smul rfl hc (fun t3 tk3 => ?_)
  repeat kbo_bools
  refine o_cat (Nat.le_trans (Nat.add_le_add l2 (Nat.le_refl _)) (by decide)) (fun t4 tk4 => ?_)
  repeat kbo_bools
  refine al_list F N (by show 2 ≤ 1000; decide) (fun l h2 F2 N2 hl2 X2 hn2 => ?_)
  repeat kbo_bools
  rename_i h3 tk3 F3 N3 t5 tk5
  refine m_join ?_
  repeat ((fail_if_success (with_reducible show wpAny _ _ (eval (Expr.Subscript _ _ _) _) _ _ _)); kbo_bools)
  refine sub_slice ?_
  repeat kbo_bools
  rw [evalPart_none]
  refine wpAny_pure ?_
  rw [evalPart_some]
  repeat kbo_bools
  rw [ea]
  have hli : h3.IsList l _ := isl N3 (.head _) (listIs_O _ _)
  refine slice_end F3 N3 hli (by decide : 2 ≤ 1000) .none (.int _ _) (fun rl h4 F4 N4 hl4 X4 => ?_)
  rw [slicePick_upto'] at N4
  repeat kbo_bools
  refine join_list (ys := List.take a [Txt.mul ⟨⟨[32]⟩⟩ (b : Nat) ++ ⟨⟨[9]⟩⟩, Txt.mul ⟨⟨[32]⟩⟩ (c : Nat) ++ ⟨⟨[9]⟩⟩]) (isl N4 (.head _) (listIs_O _ _)) ?_ ?_ (fun t6 k6 => ?_)
  · match a, ha with
    | 0, _ => exact .nil
    | 1, _ => exact .cons _ _ .nil
    | 2, _ => exact .cons _ _ (.cons _ _ .nil)
  · have lb : ∀ b < 3, (Txt.mul ⟨⟨[32]⟩⟩ (b : Nat) ++ (⟨⟨[9]⟩⟩ : Str)).length ≤ 3 := by decide +kernel
    have q1 := lb b hb
    have q2 := lb c hc
    have q3 : (⟨⟨[]⟩⟩ : Str).length = 0 := rfl
    match a, ha with
    | 0, _ => simp
    | 1, _ => simp; (first | lia | omega)
    | 2, _ => simp; (first | lia | omega)
  repeat kbo_bools
  rw [ed]
  refine o_smul rfl hdd (fun t7 tk7 => ?_)
  have jl := join_len a ha b hb c hc
  refine o_cat (Nat.le_trans (Nat.add_le_add jl l3) (by decide)) (fun t8 tk8 => ?_)
  rw [lead_text a ha b hb c hc dd hdd, ← hlead]
  repeat kbo_bools
  exact hQ _ _ _ F4.keep
end
end
section
open PySem PySem.W PyProof.Rows PySem.Calls PySem.Spec
open PySem.Builtin.Re
set_option maxHeartbeats 1000000
open Sre in
theorem Steps.cut {j : Nat} {m' : M} : ∀ (k : Nat) {m : M}, Steps (k + j) m m' → Steps j (M.runFor k m) m'
  | 0, m, S => by rw [Nat.zero_add] at S; exact S
  | k + 1, m, S => by
    rw [show k + 1 + j = (k + j) + 1 by (first | lia | omega)] at S
    cases S with
    | step ho S' => rw [M.runFor, if_neg (by rw [ho]; simp)]; exact Steps.cut k S'
open Sre in
theorem Steps.out {n : Nat} {m m' : M} (S : Steps (n + 1) m m') : m.outcome = none := by cases S with | step ho _ => exact ho
section
variable {M : Model} {A : Around} {E : Value → Shared → Prop} {s : Shared}
theorem drive_ok {m' : Sre.M} (ho : m'.outcome.isSome = true) {Q : Sre.M → Shared → Prop} (hQ : Q m' s) : ∀ (turns n : Nat) (m : Sre.M), Steps n m m' → n ≤ 4 * turns → wpAny M A (reDrive (turns + 1) m) Q E s
  | 0, n, m, S, hn => by
    have h0 : n = 0 := by (first | lia | omega)
    subst h0
    cases S with
    | refl =>
    unfold reDrive
    simp only [runFor_stop ho, ho, if_true]
    exact wpAny_pure hQ
  | turns + 1, n, m, S, hn => by
    unfold reDrive
    by_cases h4 : n ≤ 4
    · have e : Sre.M.runFor reTurnSteps m = m' := by
        have := S.runFor (4 - n)
        rw [show n + (4 - n) = 4 by (first | lia | omega), runFor_stop ho] at this
        exact this
      simp only [e, ho, if_true]
      exact wpAny_pure hQ
    · have S' : Steps (n - 4) (Sre.M.runFor reTurnSteps m) m' := Steps.cut 4 (by rw [show 4 + (n - 4) = n by (first | lia | omega)]; exact S)
      have ho' : (Sre.M.runFor reTurnSteps m).outcome = none := by
        rw [show n - 4 = (n - 5) + 1 by (first | lia | omega)] at S'
        exact S'.out
      simp only [ho', Option.isSome_none, Bool.false_eq_true, if_false]
      exact wpAny_bind (wpAny_rule (drive_ok ho hQ turns _ _ S' (by (first | lia | omega))))
theorem run_end {m m' : Sre.M} {n : Nat} (S : Steps n m m') (hn : n ≤ 1000000) {Q : Option Sre.M → Shared → Prop}
    (hQ : (m'.outcome = some .matched ∧ Q (some m') s) ∨ (m'.outcome = some .failed ∧ Q none s)) : wpAny M A (reRunToEnd m) Q E s := by
  have ho : m'.outcome.isSome = true := by rcases hQ with ⟨h, _⟩ | ⟨h, _⟩ <;> rw [h] <;> rfl
  unfold reRunToEnd
  obtain ⟨T, hT⟩ : ∃ T, 2 ^ 64 = T + 1 ∧ 1000000 ≤ 4 * T := ⟨2 ^ 64 - 1, by decide, by decide⟩
  rw [hT.1]
  refine wpAny_bind (drive_ok ho ?_ T n m S (by (first | lia | omega)))
  refine wpAny_bind (wpAny_forIn_list _ (fun _ _ s' => s' = s) _ ?_ ?_ _ _ rfl)
  · intro i rest b s' e
    subst e
    split
    · exact wpAny_bind (wpAny_rule (wpAny_pure rfl))
    · exact wpAny_pure rfl
  · intro b s' e
    subst e
    rcases hQ with ⟨h, q⟩ | ⟨h, q⟩ <;> rw [h] <;> exact wpAny_pure q
theorem re_some {m : Sre.M} {a b : Nat} (h : Ans m (some (a, b)) 1000000) {Q : Option Sre.M → Shared → Prop} (hQ : ∀ m' : Sre.M, m'.start = a → m'.handed = b → Q (some m') s) : wpAny M A (reRunToEnd m) Q E s := by
  refine holdG fun Pz kz => ?_
  obtain ⟨n, hn, m', S, ho, hs, he⟩ := h
  refine kz ?_
  clear kz Pz
  exact run_end S hn (.inl ⟨ho, hQ m' hs he⟩)
theorem re_none {m : Sre.M} (h : Ans m none 1000000) {Q : Option Sre.M → Shared → Prop} (hQ : Q none s) : wpAny M A (reRunToEnd m) Q E s := by
  refine holdG fun Pz kz => ?_
  obtain ⟨n, hn, m', S, ho⟩ := h
  refine kz ?_
  clear kz Pz
  exact run_end S hn (.inr ⟨ho, hQ⟩)
end
/- a pattern laid in the heap -/
noncomputable def PatAt (h : Heap) (pat ct : Addr) (code : Array Nat) : Prop := ∃ po vs co items n, h.get? pat = some po ∧ po.data = .fields vs ∧ vs.getD 5 .none = .ref ct ∧ vs.getD 6 .none = .int 0 0 ∧ vs.getD 2 .none = .int 0 0 ∧
  h.get? ct = some co ∧ co.data = .seq items n ∧ (items.map reRawOf).map (·.toNat) = code
theorem PatAt.but {h h' : Heap} {pat ct l : Addr} {code : Array Nat} (p : PatAt h pat ct code) (hs : Heap.SameBut l h h') (h1 : pat ≠ l) (h2 : ct ≠ l) : PatAt h' pat ct code := by
  refine holdG fun Pz kz => ?_
  obtain ⟨po, vs, co, items, n, a, b, c, d, e, f, r⟩ := p
  refine kz ?_
  clear kz Pz
  exact ⟨po, vs, co, items, n, (hs.2 _ h1).trans a, b, c, d, e, (hs.2 _ h2).trans f, r⟩
theorem PatAt.ext {h h' : Heap} {pat ct : Addr} {code : Array Nat} (p : PatAt h pat ct code) (x : Ext h h') : PatAt h' pat ct code := by
  refine holdG fun Pz kz => ?_
  obtain ⟨po, vs, co, items, n, a, b, c, d, e, f, r⟩ := p
  refine kz ?_
  clear kz Pz
  exact ⟨po, vs, co, items, n, x _ _ a, b, c, d, e, x _ _ f, r⟩
section
variable {M : Model} {A : Around} {E : Value → Shared → Prop} {s : Shared}
theorem target_ok {pat ct : Addr} {code : Array Nat} {x : Str} {tx : Tok} (p : PatAt s.heap pat ct code) {Q : ReTarget → Shared → Prop}
    (hQ : Q { pattern := .ref pat, string := .str x tx, code, text := x.cps, kind := 0, groups := 0, pos := 0, lim := x.cps.size } s) : wpAny M A (reWholeTarget (.ref pat) (.str x tx)) Q E s := by
  refine holdG fun Pz kz => ?_
  obtain ⟨po, vs, co, items, n, a, b, c, d, e, f, r, t⟩ := p
  refine kz ?_
  clear kz Pz
  unfold reWholeTarget
  refine wpAny_bind (wpAny_fieldsOf a b ?_)
  refine wpAny_bind (wpAny_pure (a := (x.cps, 0)) ?_)
  dsimp only
  rw [d]
  refine wpAny_bind (wpAny_pure ?_)
  rw [c]
  unfold reRawItems
  refine wpAny_bind (wpAny_bind (wpAny_seqItems f r (wpAny_pure ?_)))
  refine wpAny_pure ?_
  rw [e]
  subst t
  exact hQ
end
theorem plain_sub_loop : plainId "re.Pattern.sub.loop" = true := by decide +kernel
theorem entry_sub_loop : entryFor table "re.Pattern.sub.loop" = some Builtin.«re.Pattern.sub.loop» := entryFor_of_tree (by kernel_rfl)
theorem plain_sub : plainId "re.Pattern.sub" = true := by decide +kernel
theorem entry_sub : entryFor table "re.Pattern.sub" = some Builtin.«re.Pattern.sub» := entryFor_of_tree (by kernel_rfl)
theorem slot_re_sub : Slot "re.Pattern" "sub" "re.Pattern.sub" :=
  .of (owner := "re.Pattern") (n := "sub") (by rw [typeLookup_type, builtinLookup_eq_fast]; kernel_rfl) (by decide +kernel) (by decide +kernel) (by decide +kernel)
    (by first | exact .inl (by decide +kernel) | exact .inr (by decide +kernel)) (by rw [isSubtype_type]; kernel_rfl)
theorem type_re_sub : typeOf (.builtin "re.Pattern.sub") = pure (.type "method_descriptor") := by show builtinType _ = _; rw [builtinType_eq_fast]; kernel_rfl
theorem args_re_sub (a b c : Value) : argsOk "re.Pattern.sub" ⟨[a, b, c], []⟩ := by unfold argsOk; kernel_rfl
/-- the pieces that a substitution cuts -/
inductive Cut (code t : Array Nat) (rep : Str) : Nat → List Str → Prop
  | fin {pos : Nat} : Ans (Sre.forSearch code t 0 pos t.size false) none 1000000 → Cut code t rep pos (if pos < t.size then [⟨t.extract pos t.size⟩] else [])
  | hit {pos s e : Nat} {ys : List Str} : Ans (Sre.forSearch code t 0 pos t.size false) (some (s, e)) 1000000 → s < e → Cut code t rep e ys → Cut code t rep pos ((if pos < s then [⟨t.extract pos s⟩] else []) ++ rep :: ys)
theorem strs_snoc {vs : List Value} {ys : List Str} {y : Str} {t : Tok} (h : StrsAre vs ys) : StrsAre (vs ++ [.str y t]) (ys ++ [y]) := by
  induction h with
  | nil => exact .cons _ _ .nil
  | cons a b _ ih => exact .cons _ _ ih
section
variable {w : World} {prog : Program} {A : Around} {h : Heap} {g : Array GenState} {d : Drawn} {tk : Nat} {os : OsState} {E : Value → Shared → Prop}
theorem push_ok {l : Addr} {vs : List Value} {n : Nat} {x : Value} {Q : Unit → Shared → Prop} (hl : h.get? l = some (listO vs n)) (hz : vs.length ≤ 1000)
    (hQ : ∀ h' n', h'.get? l = some (listO (vs ++ [x]) n') → Heap.SameBut l h h' → Q () ⟨h', g, d, tk, os⟩) : wpAny (model prog w) A (updateSeq l (·.push x)) Q E ⟨h, g, d, tk, os⟩ := by
  refine wpAny_updateSeq (s := ⟨h, g, d, tk, os⟩) hl rfl (hQ _ (if (vs.toArray.push x).size == vs.toArray.size then n else n + 1) ?_ (Heap.SameBut.update ..)) (by rw [List.size_toArray, sizeLine_eq]; (first | lia | omega)) (by rw [Array.size_push, List.size_toArray, sizeLine_eq]; (first | lia | omega))
  rw [Heap.get?_update_self _ hl rfl]
  show some (⟨.type "list", none, .seq (vs.toArray.push x) (if (vs.toArray.push x).size == vs.toArray.size then n else n + 1), #[]⟩ : Obj) = _
  rw [show vs.toArray.push x = (vs ++ [x]).toArray by simp]
theorem slice_ok {t : Array Nat} {b e : Nat} (ht : t.size ≤ 100000) {Q : Value → Shared → Prop} (hQ : ∀ u tk', Q (.str ⟨t.extract b e⟩ u) ⟨h, g, d, tk', os⟩) : wpAny (model prog w) A (reSlice t 0 b e) Q E ⟨h, g, d, tk, os⟩ := by
  refine wpAny_mkStr (x := ⟨t.extract b e⟩) (hQ _ _) ?_
  show (t.extract b e).size ≤ _
  rw [Array.size_extract, sizeLine_eq]
  (first | lia | omega)
theorem sub_loop {pat ct l : Addr} {code : Array Nat} {x rep : Str} {tx tr : Tok} (hx : x.cps.size ≤ 100000) (hp : pat ≠ l) (hct : ct ≠ l) {R : Result → Shared → Prop} {pos : Nat} {ys : List Str} (C : Cut code x.cps rep pos ys) :
    ∀ {h : Heap} {tk : Nat} {n : Nat} {nn : Int} {vs : List Value} {acc : List Str}, PatAt h pat ct code → h.get? l = some (listO vs n) → StrsAre vs acc → (acc ++ ys).length ≤ 1000 → ((acc ++ ys).map (·.length)).sum ≤ 100000 →
    (∀ h' t' tk', Heap.SameBut l h h' → R (.ok (.ret (.str (Txt.join ⟨⟨[]⟩⟩ (acc ++ ys)) t'))) ⟨h', g, d, tk', os⟩) →
    codeAny (model prog w) A (.builtin "re.Pattern.sub.loop" ⟨[.ref pat, .str x tx, .str rep tr, rawInt 0, rawInt 0, rawInt nn, rawInt (pos : Nat), rawInt (pos : Nat), .bool false, .ref l, .bool false], []⟩) R ⟨h, g, d, tk, os⟩ := by
  induction C with
  | @fin pos hA =>
    intro h tk n nn vs acc P hl hs hz hw hR
    refine codeAny_builtin entry_sub_loop ?_
    rw [Around.under_plainId plain_sub_loop]
    show wpAny _ _ (reWholeTarget (.ref pat) (.str x tx) >>= _) _ _ _
    refine wpAny_bind (target_ok (s := ⟨h, g, d, tk, os⟩) P ?_)
    have tl : ∀ {Q : Unit → Shared → Prop}, Q () ⟨h, g, d, tk, os⟩ → wpAny (model prog w) A.in1 (reLiteralCannotBeTurned (.str rep tr)) Q (fun e s' => R (.error e) s') ⟨h, g, d, tk, os⟩ := fun q => wpAny_pure q
    show wpAny _ _ (reLiteralCannotBeTurned (.str rep tr) >>= _) _ _ _
    refine wpAny_bind (tl ?_)
    show wpAny _ _ (reRunToEnd (Sre.forSearch code x.cps 0 pos x.cps.size false) >>= _) _ _ _
    refine wpAny_bind (re_none hA ?_)
    have key : ∀ {h1 : Heap} {n1 : Nat} {vs1 : List Value} {tk1 : Nat}, h1.get? l = some (listO vs1 n1) → StrsAre vs1 (acc ++ if pos < x.cps.size then [⟨x.cps.extract pos⟩] else []) → Heap.SameBut l h h1 →
        wpAny (model prog w) A.in1 (do
          let joiner ← reSlice x.cps 0 0 0
          let text ← if ((← seqItems? (.ref l)).getD #[]).isEmpty then pure joiner else call (.builtin "str.join") [joiner, .ref l]
          ret text) (fun fin s' => match fin with | .done f => R (.ok f) s' | .again c' => c'.quiet = true ∧ codeAny (model prog w) A c' R s') (fun e s' => R (.error e) s') ⟨h1, g, d, tk1, os⟩ := by
      intro h1 n1 vs1 tk1 hl1 hs1 hb1
      refine wpAny_bind (slice_ok hx (fun u tk' => ?_))
      refine wpAny_bind (wpAny_seqItems hl1 rfl ?_)
      have e0 : (⟨x.cps.extract 0 0⟩ : Str) = ⟨⟨[]⟩⟩ := by
        rw [show x.cps.extract 0 0 = #[] by simp]
      rw [e0]
      cases vs1 with
      | nil =>
        have hnil : (acc ++ if pos < x.cps.size then [(⟨x.cps.extract pos⟩ : Str)] else []) = [] := List.length_eq_zero_iff.mp hs1.len_eq.symm
        refine wpAny_bind (wpAny_pure ?_)
        refine wpAny_pure ?_
        have := hR h1 u tk' hb1
        rw [hnil] at this
        exact this
      | cons v vs1 =>
        refine wpAny_bind (join_list (s := ⟨h1, g, d, tk', os⟩) (ys := acc ++ if pos < x.cps.size then [⟨x.cps.extract pos⟩] else []) ⟨_, hl1, listIs_O _ _⟩ hs1 ?_ (fun t' k => ?_))
        · show _ + _ * 0 ≤ _
          (first | lia | omega)
        · exact wpAny_pure (hR h1 t' k hb1)
    by_cases hlt : pos < x.cps.size
    · simp only [hlt, if_true] at key hz hw
      show wpAny _ _ (if pos < x.cps.size then _ else _) _ _ _
      rw [if_pos hlt]
      refine wpAny_bind (slice_ok hx (fun u tk' => ?_))
      have hlen := hs.len_eq
      refine wpAny_bind (push_ok hl (by simp at hz; (first | lia | omega)) (fun h1 n1 hl1 hb1 => ?_))
      exact key hl1 (strs_snoc hs) hb1
    · simp only [hlt, if_false, List.append_nil] at key hz hw
      show wpAny _ _ (if pos < x.cps.size then _ else _) _ _ _
      rw [if_neg hlt]
      exact key hl hs (Heap.SameBut.refl _ _)
  | @hit pos s e ys hA hse C ih =>
    intro h tk n nn vs acc P hl hs hz hw hR
    refine codeAny_builtin entry_sub_loop ?_
    rw [Around.under_plainId plain_sub_loop]
    show wpAny _ _ (reWholeTarget (.ref pat) (.str x tx) >>= _) _ _ _
    refine wpAny_bind (target_ok (s := ⟨h, g, d, tk, os⟩) P ?_)
    have tl : ∀ {Q : Unit → Shared → Prop}, Q () ⟨h, g, d, tk, os⟩ → wpAny (model prog w) A.in1 (reLiteralCannotBeTurned (.str rep tr)) Q (fun e s' => R (.error e) s') ⟨h, g, d, tk, os⟩ := fun q => wpAny_pure q
    show wpAny _ _ (reLiteralCannotBeTurned (.str rep tr) >>= _) _ _ _
    refine wpAny_bind (tl ?_)
    show wpAny _ _ (reRunToEnd (Sre.forSearch code x.cps 0 pos x.cps.size false) >>= _) _ _ _
    refine wpAny_bind (re_some hA (fun m' hs' he' => ?_))
    have key : ∀ {h1 : Heap} {n1 : Nat} {vs1 : List Value} {tk1 : Nat}, h1.get? l = some (listO vs1 n1) → StrsAre vs1 (acc ++ if pos < s then [⟨x.cps.extract pos s⟩] else []) → Heap.SameBut l h h1 →
        wpAny (model prog w) A.in1 (updateSeq l (·.push (.str rep tr)) >>= fun _ => again (.builtin "re.Pattern.sub.loop" ⟨[.ref pat, .str x tx, .str rep tr, rawInt 0, rawInt 0, rawInt (nn + 1), rawInt (m'.handed : Nat), rawInt (m'.handed : Nat), .bool (m'.handed == m'.start), .ref l, .bool false], []⟩)) (fun fin s' => match fin with | .done f => R (.ok f) s' | .again c' => c'.quiet = true ∧ codeAny (model prog w) A c' R s') (fun e s' => R (.error e) s') ⟨h1, g, d, tk1, os⟩ := by
      intro h1 n1 vs1 tk1 hl1 hs1 hb1
      have hlen := hs1.len_eq
      refine wpAny_bind (push_ok hl1 (by simp at hz hlen; (first | lia | omega)) (fun h2 n2 hl2 hb2 => ?_))
      refine wpAny_pure ⟨plainId_quiet plain_sub_loop _, ?_⟩
      rw [hs', he', show (e == s) = false from beq_false_of_ne (by (first | lia | omega))]
      have hb := hb1.trans hb2
      refine ih (P.but hb hp hct) hl2 (strs_snoc hs1) (by simpa using hz) (by simpa using hw) (fun h' t' tk' hb' => ?_)
      have := hR h' t' tk' (hb.trans hb')
      simpa using this
    by_cases hlt : pos < s
    · simp only [hlt, if_true] at key hz hw
      show wpAny _ _ (if pos < m'.start then _ else _) _ _ _
      rw [hs', if_pos hlt]
      refine wpAny_bind (slice_ok hx (fun u tk' => ?_))
      have hlen := hs.len_eq
      refine wpAny_bind (push_ok hl (by simp at hz; (first | lia | omega)) (fun h1 n1 hl1 hb1 => ?_))
      have := key (tk1 := tk') hl1 (strs_snoc hs) hb1
      rw [hs'] at this
      exact this
    · simp only [hlt, if_false, List.append_nil] at key hz hw
      show wpAny _ _ (if pos < m'.start then _ else _) _ _ _
      rw [hs', if_neg hlt]
      have := key (tk1 := tk) hl hs (Heap.SameBut.refl _ _)
      rw [hs'] at this
      exact this
theorem str_no_call : typeLookup (.type "str") "__call__" = pure none := by rw [typeLookup_type, builtinLookup_eq_fast]; kernel_rfl
theorem named_sub (a b : Value) : reNamed "re.Pattern.sub" "sub" ["repl", "string", "count"] 2 [a, b] [] = pure [some a, some b, none] := by kernel_rfl
theorem plainAttrs_re : PlainAttrs "re.Pattern" := ⟨⟨"object.__getattribute__", by rw [typeLookup_type, builtinLookup_eq_fast]; kernel_rfl, by decide +kernel⟩, by rw [typeLookup_type, builtinLookup_eq_fast]; kernel_rfl⟩
theorem sub_ok {pat ct : Addr} {po : Obj} {code : Array Nat} {x rep : Str} {tx tr : Tok} {ys : List Str} {Q : Value → Shared → Prop} (hpo : h.get? pat = some po) (hcl : po.cls = .type "re.Pattern") (P : PatAt h pat ct code) (hx : x.cps.size ≤ 100000) (hr : rep.cps.contains 92 = false)
    (C : Cut code x.cps rep 0 ys) (hz : ys.length ≤ 1000) (hw : (ys.map (·.length)).sum ≤ 100000)
    (hQ : ∀ h' t' tk', Ext h h' → Q (.str (Txt.join ⟨⟨[]⟩⟩ ys) t') ⟨h', g, d, tk', os⟩) :
    wpAny (model prog w) A (call (.builtin "re.Pattern.sub") [.ref pat, .str rep tr, .str x tx]) Q E ⟨h, g, d, tk, os⟩ := by
  have hT : Shared.TypeIs ⟨h, g, d, tk, os⟩ (.ref pat) "re.Pattern" := ⟨po, hpo, hcl⟩
  have hc : h.get? ct ≠ none := by
    refine holdG fun Pz kz => ?_
    obtain ⟨_, _, co, _, _, _, _, _, _, _, e, _⟩ := P
    refine kz ?_
    clear kz Pz
    rw [e]; exact fun q => nomatch q
  refine wpAny_call (codeAny_call_builtin plain_sub entry_sub (slot_re_sub.check _ _ _ _ _ _ _ _ hT (args_re_sub _ _ _) ?_))
  show wpAny _ _ (reNamed "re.Pattern.sub" "sub" ["repl", "string", "count"] 2 [.str rep tr, .str x tx] [] >>= _) _ _ _
  refine wpAny_bind (wpAny_of_eq (named_sub _ _) ?_)
  refine wpAny_bind (wpAny_pure (a := (0 : Int)) ?_)
  refine wpAny_bind (wpAny_specialOf (typeIs_str _ _ _) str_no_call ?_)
  show wpAny _ _ (asStr? (.str rep tr) >>= _) _ _ _
  refine wpAny_bind (wpAny_pure (a := some rep) ?_)
  dsimp only
  rw [hr]
  refine wpAny_bind (wpAny_pure ?_)
  refine wpAny_bind (wpAny_pure (a := (Value.str rep tr, (0 : Int))) ?_)
  refine wpAny_bind (wpAny_holding (target_ok (s := ⟨h, g, d, tk, os⟩) P ?_))
  show wpAny _ _ (newList [] >>= _) _ _ _
  refine wpAny_bind (wpAny_newList ?_)
  have hl : (h.push { cls := .type "list", data := .seq #[] }).get? h.objs.size = some (listO [] 0) := Heap.get?_push_size h rfl
  have hne : ∀ a, h.get? a ≠ none → a ≠ h.objs.size := fun a ha q => by
    cases e : h.get? a with
    | none => exact ha e
    | some o => exact absurd (Heap.lt_size e) (by rw [q]; exact Nat.lt_irrefl _)
  refine wpAny_pure ⟨plainId_quiet plain_sub_loop _, ?_⟩
  refine sub_loop (l := h.objs.size) (n := 0) (vs := []) (acc := []) (nn := 0) (pos := 0) hx (hne _ (by rw [hpo]; exact fun q => nomatch q)) (hne _ hc) C (P.ext (Ext.push _ _)) hl .nil hz hw (fun h' t' tk' hb => ?_)
  refine hQ h' t' tk' (fun b o e => ?_)
  exact (hb.2 b (hne b (by rw [e]; exact fun q => nomatch q))).trans (Ext.push _ _ _ _ e)
theorem m_sub {pat : Addr} {po : Obj} {pl : Sem Bool} {Q : Value × List Value → Shared → Prop} (hpo : h.get? pat = some po) (hcl : po.cls = .type "re.Pattern") (hd : po.dict = none) (hQ : Q (.builtin "re.Pattern.sub", [.ref pat]) ⟨h, g, d, tk, os⟩) :
    wpAny (model prog w) A (getMethod (.ref pat) ⟨⟨[115, 117, 98]⟩⟩ pl) Q E ⟨h, g, d, tk, os⟩ :=
  getMethod_builtin (s := ⟨h, g, d, tk, os⟩) ⟨po, hpo, hcl⟩ plainAttrs_re slot_re_sub type_re_sub (fun a e => by cases e; exact ⟨po, hpo, hd⟩) hQ
end
end
section
open PySem PySem.W PyProof.Rows PySem.Calls PySem.Spec
set_option maxHeartbeats 2000000
theorem quo_at (P : Params) : (KN P).lookup 210 = some (hd.zo_153 P) := by kernel_rfl
theorem pat1_at (P : Params) : (KN P).lookup 166 = some (hd.zo_128 P) := by kernel_rfl
theorem pat1_ct (P : Params) : (KN P).lookup 165 = some (hd.zo_127 P) := by kernel_rfl
theorem pat2_at (P : Params) : (KN P).lookup 171 = some (hd.zo_130 P) := by kernel_rfl
theorem pat2_ct (P : Params) : (KN P).lookup 170 = some (hd.zo_129 P) := by kernel_rfl
noncomputable abbrev fQuo (P : Params) : FuncData := fnIn? (hd.zo_153 P)
theorem Bs.p1 {w : World} {mg mb : Str → Option Value} {h : Heap} (B : Bs w mg mb h) : PatAt h 166 165 code1 :=
  ⟨_, _, _, _, _, B.X _ _ (pat1_at _), rfl, rfl, rfl, rfl, B.X _ _ (pat1_ct _), rfl, by decide +kernel⟩
theorem Bs.p2 {w : World} {mg mb : Str → Option Value} {h : Heap} (B : Bs w mg mb h) : PatAt h 171 170 code2 :=
  ⟨_, _, _, _, _, B.X _ _ (pat2_at _), rfl, rfl, rfl, rfl, B.X _ _ (pat2_ct _), rfl, by decide +kernel⟩
section
variable {w : World} {A : Around} {E : Value → Shared → Prop} {h : Heap} {g : Array GenState} {d : Drawn} {tk : Nat} {os : OsState} {mg mb : Str → Option Value}
theorem quo_ok {x : Str} {tx : Tok} {ys zs : List Str} {Q : Value → Shared → Prop} (B : Bs w mg mb h) (R : Rm A 5) (hx : x.cps.size ≤ 100000)
    (C2 : Cut code2 x.cps ⟨⟨[13, 10]⟩⟩ 0 ys) (hz : ys.length ≤ 1000) (hw : (ys.map (·.length)).sum ≤ 100000)
    (hx' : (Txt.join ⟨⟨[]⟩⟩ ys).cps.size ≤ 100000) (C1 : Cut code1 (Txt.join ⟨⟨[]⟩⟩ ys).cps ⟨⟨[46, 46]⟩⟩ 0 zs) (hz' : zs.length ≤ 1000) (hw' : (zs.map (·.length)).sum ≤ 100000)
    (hQ : ∀ h' t tk', Ext h h' → Q (.str (Txt.join ⟨⟨[]⟩⟩ zs) t) ⟨h', g, d, tk', os⟩) :
    wpAny (MM w) A (call (.ref 210) [.str x tx]) Q E ⟨h, g, d, tk, os⟩ := by
  refine enter (fd := fQuo w.params) (body := _) (binds := [(⟨⟨[100, 97, 116, 97]⟩⟩, .str x tx)]) B (quo_at _) rfl (by kernel_rfl) rfl (BindsTo.of_eq (by kernel_rfl)) R.room ?_ (by kernel_rfl) (by kernel_rfl) rfl rfl rfl rfl
  intro h₁ L tk E' F
  simp only [List.reverse_cons, List.reverse_nil, List.nil_append, List.cons_append] at F
  have N : News h L h₁ [] := News.nil
  have hh : (A.deeper (callEnv (fQuo w.params) L 210)).handled = none := R.hd
  have X1 : Ext h h₁ := F.keep
  have B1 := B.ext X1
  repeat kbo_bools
  refine m_sub (B1.X _ _ (pat1_at _)) rfl rfl ?_
  repeat kbo_bools
  refine m_sub (B1.X _ _ (pat2_at _)) rfl rfl ?_
  repeat kbo_bools
  refine sub_ok (B1.X _ _ (pat2_at _)) rfl B1.p2 hx (by decide +kernel) C2 hz hw (fun h2 t2 tk2 X2 => ?_)
  have B2 := B1.ext X2
  repeat kbo_bools
  refine sub_ok (B2.X _ _ (pat1_at _)) rfl B2.p1 hx' (by decide +kernel) C1 hz' hw' (fun h3 t3 tk3 X3 => ?_)
  repeat kbo_bools
  exact hQ _ _ _ (X1.trans (X2.trans X3))
end
end
section
open PySem PySem.W PyProof.Rows PySem.Calls PySem.Spec
set_option maxHeartbeats 1000000
/- what the two substitutions make of the rows -/
theorem Ans.mono {m : Sre.M} {r : Option (Nat × Nat)} {N K : Nat} (h : Ans m r N) (hn : N ≤ K) : Ans m r K := by
  obtain ⟨n, a, b⟩ := h
  exact ⟨n, Nat.le_trans a hn, b⟩
theorem ex_mid (A B C : List Nat) : (A ++ (B ++ C)).toArray.extract A.length (A.length + B.length) = B.toArray := by
  simp
theorem gD (l : List Nat) (j : Nat) : l.toArray.getD j 0 = l.getD j 0 := by simp [Array.getD_eq_getD_getElem?]
theorem gA {A B : List Nat} {j : Nat} (_ : j < B.length) : (A ++ B).getD (A.length + j) 0 = B.getD j 0 := by
  rw [List.getD_eq_getElem?_getD, List.getD_eq_getElem?_getD, List.getElem?_append_right (by (first | lia | omega)), Nat.add_sub_cancel_left]
theorem gL {A B : List Nat} {j : Nat} (h : j < A.length) : (A ++ B).getD j 0 = A.getD j 0 := by
  simp [List.getD_eq_getElem?_getD, List.getElem?_append_left h]
theorem g_mem {A : List Nat} {j : Nat} (h : j < A.length) : A.getD j 0 ∈ A := by
  rw [List.getD_eq_getElem?_getD, List.getElem?_eq_getElem h]
  exact List.getElem_mem h
noncomputable def crlf : Str := ⟨⟨[13, 10]⟩⟩
noncomputable def RowOk (r : List Nat × List Nat) : Prop := (∀ c ∈ r.1, c ≠ 10 ∧ c ≠ 13) ∧ r.1 ≠ [] ∧ (r.2 = [13, 10] ∨ r.2 = [10] ∨ r.2 = [13])
theorem cut2 : ∀ (rows : List (List Nat × List Nat)), (∀ r ∈ rows, RowOk r) → ∀ A : List Nat,
    Cut code2 (A ++ rows.flatMap fun r => r.1 ++ r.2).toArray crlf A.length (rows.flatMap fun r => [⟨r.1.toArray⟩, crlf])
  | [], _, A => by
    have := Cut.fin (code := code2) (t := (A ++ ([] : List (List Nat × List Nat)).flatMap fun r => r.1 ++ r.2).toArray) (rep := crlf) (pos := A.length) ((search2_none (fun j a b => by simp at b; (first | lia | omega))).mono (by decide))
    rw [if_neg (by simp)] at this
    exact this
  | r :: rows, hr, A => by
    obtain ⟨h1, h2, h3⟩ := hr r (.head _)
    have hlen : 0 < r.1.length := List.length_pos_iff.mpr h2
    have ih := cut2 rows (fun x hx => hr x (.tail _ hx)) (A ++ r.1 ++ r.2)
    have eT : A ++ (r :: rows).flatMap (fun r => r.1 ++ r.2) = A ++ (r.1 ++ (r.2 ++ rows.flatMap fun r => r.1 ++ r.2)) := by simp
    have eT' : A ++ r.1 ++ r.2 ++ rows.flatMap (fun r => r.1 ++ r.2) = A ++ (r.1 ++ (r.2 ++ rows.flatMap fun r => r.1 ++ r.2)) := by simp
    rw [eT'] at ih
    rw [eT]
    have hC : ∀ c, (rows.flatMap fun r => r.1 ++ r.2).getD 0 0 = c → 0 < (rows.flatMap fun r => r.1 ++ r.2).length → c ≠ 10 := by
      cases rows with
      | nil => intro c _ h; simp at h
      | cons q rows =>
        intro c e _ hc
        obtain ⟨q1, q2, q3⟩ := hr q (.tail _ (.head _))
        have : (q.1 ++ (q.2 ++ rows.flatMap fun r => r.1 ++ r.2)).getD 0 0 = q.1.getD 0 0 := gL (List.length_pos_iff.mpr q2)
        rw [List.flatMap_cons, List.append_assoc, this] at e
        exact (q1 _ (g_mem (List.length_pos_iff.mpr q2))).1 (e.trans hc)
    generalize (rows.flatMap fun r => r.1 ++ r.2) = C at ih hC ⊢
    have hl2 : 0 < r.2.length := by rcases h3 with h | h | h <;> rw [h] <;> decide
    have hno : ∀ j, A.length ≤ j → j < A.length + r.1.length → ¬ endAt (A ++ (r.1 ++ (r.2 ++ C))).toArray j := by
      intro j a b ⟨_, q⟩
      have e : (A ++ (r.1 ++ (r.2 ++ C))).toArray.getD j 0 = r.1.getD (j - A.length) 0 := by
        rw [gD, show j = A.length + (j - A.length) by (first | lia | omega), gA (by simp; (first | lia | omega)), gL (by (first | lia | omega))]
        congr 1; (first | lia | omega)
      have := h1 _ (g_mem (A := r.1) (j := j - A.length) (by (first | lia | omega)))
      rw [e] at q
      rcases q with q | q
      · exact this.1 q
      · exact this.2 q
    have eat : ∀ k, k < (r.2 ++ C).length → (A ++ (r.1 ++ (r.2 ++ C))).toArray.getD (A.length + r.1.length + k) 0 = (r.2 ++ C).getD k 0 := by
      intro k hk
      rw [gD, Nat.add_assoc, gA (by simp at hk ⊢; (first | lia | omega)), gA hk]
    have e0 := eat 0 (by simp; (first | lia | omega))
    rw [Nat.add_zero] at e0
    have hend : endAt (A ++ (r.1 ++ (r.2 ++ C))).toArray (A.length + r.1.length) := by
      refine ⟨by simp; (first | lia | omega), ?_⟩
      rw [e0]
      rcases h3 with h | h | h <;> rw [h] <;> simp
    have hel : endLen (A ++ (r.1 ++ (r.2 ++ C))).toArray (A.length + r.1.length) = r.2.length := by
      unfold endLen
      rw [e0]
      rcases h3 with h | h | h
      · have e1 := eat 1 (by rw [h]; simp)
        have hl : r.2.length = 2 := by rw [h]; rfl
        have hs : (A ++ (r.1 ++ (r.2 ++ C))).toArray.size = A.length + (r.1.length + (r.2.length + C.length)) := by simp
        have hlt : A.length + r.1.length + 1 < (A ++ (r.1 ++ (r.2 ++ C))).toArray.size := by (first | lia | omega)
        rw [if_pos ⟨by rw [h]; rfl, hlt, by rw [e1, h]; rfl⟩, h]; rfl
      · rw [if_neg (by rw [h]; intro q; exact absurd q.1 (by simp)), h]; rfl
      · rw [if_neg, h]; · rfl
        intro ⟨_, q1, q2⟩
        have hk : 1 < (r.2 ++ C).length := by simp at q1 ⊢; (first | lia | omega)
        rw [eat 1 hk] at q2
        have hc0 : 0 < C.length := by rw [h] at hk; simp at hk; (first | lia | omega)
        have e : (r.2 ++ C).getD 1 0 = C.getD 0 0 := by rw [h]; rfl
        exact hC _ rfl hc0 (by rw [← e]; exact q2)
    have hit := search2_some (pos := A.length) (by (first | lia | omega)) hno hend
    rw [hel] at hit
    have := Cut.hit (rep := crlf) (hit.mono (by decide)) (by (first | lia | omega)) (by rw [show A.length + r.1.length + r.2.length = (A ++ r.1 ++ r.2).length by simp; (first | lia | omega)]; exact ih)
    rw [if_pos (by (first | lia | omega)), ex_mid] at this
    rw [List.flatMap_cons]
    exact this
noncomputable def dd : Str := ⟨⟨[46, 46]⟩⟩
noncomputable def txt (ys : List Str) : List Nat := ys.flatMap fun y => y.cps.toList
noncomputable def quo (r : List Nat) : List Nat := (if r.getD 0 0 = 46 then [46] else []) ++ r ++ [13, 10]
theorem cut1 : ∀ (rows : List (List Nat)), (∀ r ∈ rows, r ≠ [] ∧ ∀ c ∈ r, c ≠ 10) → ∀ (A pend : List Nat),
    (A ++ (pend ++ rows.flatMap fun r => r ++ [13, 10])).length ≤ 100000 →
    (∀ j, A.length ≤ j → j < A.length + pend.length → ¬ dotAt (A ++ (pend ++ rows.flatMap fun r => r ++ [13, 10])).toArray j) →
    (A.length + pend.length = 0 ∨ (A ++ (pend ++ rows.flatMap fun r => r ++ [13, 10])).getD (A.length + pend.length - 1) 0 = 10) →
    ∃ ys, Cut code1 (A ++ (pend ++ rows.flatMap fun r => r ++ [13, 10])).toArray dd A.length ys ∧ txt ys = pend ++ rows.flatMap quo ∧ ys.length ≤ 2 * rows.length + 1
  | [], _, A, pend, hz, hno, _ => by
    refine ⟨_, Cut.fin ((search1_none (fun j a b => hno j a (by simpa using b))).mono (by simp at hz ⊢; (first | lia | omega))), ?_, ?_⟩
    · split
      · simp [txt]
      · rename_i h
        have : pend = [] := by
          simp at h
          exact h
        simp [txt, this]
    · split <;> simp
  | r :: rows, hr, A, pend, hz, hno, hprev => by
    obtain ⟨h1, h2⟩ := hr r (.head _)
    have ih := cut1 rows (fun x hx => hr x (.tail _ hx))
    obtain ⟨c, r', rfl⟩ : ∃ c r', r = c :: r' := by
      cases r with
      | nil => exact absurd rfl h1
      | cons c r' => exact ⟨c, r', rfl⟩
    have eT : A ++ (pend ++ ((c :: r') :: rows).flatMap fun r => r ++ [13, 10]) = A ++ (pend ++ ((c :: r') ++ ([13, 10] ++ rows.flatMap fun r => r ++ [13, 10]))) := by simp
    rw [eT] at hz hno hprev ⊢
    have e1 : ∀ C : List Nat, (A ++ pend ++ [c]) ++ ((r' ++ [13, 10]) ++ C) = A ++ (pend ++ ((c :: r') ++ ([13, 10] ++ C))) := fun C => by simp
    have e2 : ∀ C : List Nat, A ++ ((pend ++ (c :: r') ++ [13, 10]) ++ C) = A ++ (pend ++ ((c :: r') ++ ([13, 10] ++ C))) := fun C => by simp
    have ih1 := ih (A ++ pend ++ [c]) (r' ++ [13, 10])
    have ih2 := ih A (pend ++ (c :: r') ++ [13, 10])
    rw [e1] at ih1
    rw [e2] at ih2
    generalize (rows.flatMap fun r => r ++ [13, 10]) = C at ih1 ih2 hz hno hprev ⊢
    have eat : ∀ k, k < r'.length + 3 → (A ++ (pend ++ ((c :: r') ++ ([13, 10] ++ C)))).getD (A.length + pend.length + k) 0 = ((c :: r') ++ [13, 10]).getD k 0 := by
      intro k hk
      rw [show A ++ (pend ++ ((c :: r') ++ ([13, 10] ++ C))) = (A ++ pend) ++ (((c :: r') ++ [13, 10]) ++ C) by simp, show A.length + pend.length + k = (A ++ pend).length + k by simp, gA (by simp; (first | lia | omega)), gL (by simp; (first | lia | omega))]
    have hin : ∀ k, k < r'.length + 2 → (A ++ (pend ++ ((c :: r') ++ ([13, 10] ++ C)))).getD (A.length + pend.length + k) 0 ≠ 10 := by
      intro k hk
      rw [eat k (by (first | lia | omega))]
      by_cases q : k < (c :: r').length
      · rw [gL q]; exact h2 _ (g_mem q)
      · have q' : k = (c :: r').length + 0 := by simp at q ⊢; (first | lia | omega)
        rw [q', gA (by decide)]; decide
    have hlast : (A ++ (pend ++ ((c :: r') ++ ([13, 10] ++ C)))).getD (A.length + pend.length + (r'.length + 2)) 0 = 10 := by
      rw [eat _ (by (first | lia | omega)), show r'.length + 2 = (c :: r').length + 1 by simp, gA (by decide)]; decide
    have hmid : ∀ j, A.length + pend.length < j → j < A.length + pend.length + (r'.length + 3) → ¬ dotAt (A ++ (pend ++ ((c :: r') ++ ([13, 10] ++ C)))).toArray j := by
      intro j a b ⟨q, _⟩
      rcases q with q | q
      · (first | lia | omega)
      · rw [gD, show j - 1 = A.length + pend.length + (j - 1 - (A.length + pend.length)) by (first | lia | omega)] at q
        exact hin _ (by (first | lia | omega)) q
    have h0 : (A ++ (pend ++ ((c :: r') ++ ([13, 10] ++ C)))).getD (A.length + pend.length) 0 = c := eat 0 (by (first | lia | omega))
    have e5 : (A ++ pend ++ [c]).length + (r' ++ [13, 10]).length - 1 = A.length + pend.length + (r'.length + 2) := by simp; (first | lia | omega)
    have e6 : A.length + (pend ++ (c :: r') ++ [13, 10]).length - 1 = A.length + pend.length + (r'.length + 2) := by simp; (first | lia | omega)
    have hl1 : (A ++ (pend ++ ((c :: r') ++ ([13, 10] ++ C)))).getD ((A ++ pend ++ [c]).length + (r' ++ [13, 10]).length - 1) 0 = 10 := by rw [e5]; exact hlast
    have hl2 : (A ++ (pend ++ ((c :: r') ++ ([13, 10] ++ C)))).getD (A.length + (pend ++ (c :: r') ++ [13, 10]).length - 1) 0 = 10 := by rw [e6]; exact hlast
    by_cases hc : c = 46
    · have hd0 : dotAt (A ++ (pend ++ ((c :: r') ++ ([13, 10] ++ C)))).toArray (A.length + pend.length) := by
        refine ⟨?_, by simp, by rw [gD, h0]; exact hc⟩
        rcases hprev with q | q
        · exact .inl q
        · exact .inr (by rw [gD]; exact q)
      have hit := search1_some (pos := A.length) (by (first | lia | omega)) hno hd0
      obtain ⟨ys, C1, e, hl⟩ := ih1 hz (fun j a b => hmid j (by simp at a; (first | lia | omega)) (by simp at b; (first | lia | omega))) (.inr hl1)
      refine ⟨_, Cut.hit (hit.mono (by simp at hz ⊢; (first | lia | omega))) (by (first | lia | omega)) (by rw [show A.length + pend.length + 1 = (A ++ pend ++ [c]).length by simp; (first | lia | omega)]; exact C1), ?_, ?_⟩
      · have ep : txt (if A.length < A.length + pend.length then [⟨(A ++ (pend ++ ((c :: r') ++ ([13, 10] ++ C)))).toArray.extract A.length (A.length + pend.length)⟩] else []) = pend := by
          split
          · rw [ex_mid]; simp [txt]
          · rename_i q
            have : pend = [] := List.length_eq_zero_iff.mp (by (first | lia | omega))
            simp [txt, this]
        have es : ∀ a b : List Str, txt (a ++ b) = txt a ++ txt b := fun a b => by simp [txt]
        rw [es, ep]
        have : txt (dd :: ys) = [46, 46] ++ txt ys := rfl
        rw [this, e, List.flatMap_cons, hc]
        simp [quo]
      · split <;> simp <;> (first | lia | omega)
    · obtain ⟨ys, C1, e, hl⟩ := ih2 hz (fun j a b => by
        rcases Nat.lt_trichotomy j (A.length + pend.length) with q | q | q
        · exact hno j a q
        · rw [q]; exact fun w => hc (by rw [← h0, ← gD]; exact w.2.2)
        · exact hmid j q (by simp at b; (first | lia | omega))) (.inr hl2)
      refine ⟨ys, C1, ?_, by simp; (first | lia | omega)⟩
      rw [e, List.flatMap_cons]
      have : (c :: r').getD 0 0 ≠ 46 := hc
      simp [quo, hc]
end
section
open PySem PySem.W PyProof.Rows PySem.Calls PySem.Spec
set_option maxHeartbeats 1000000
theorem fold_txt : ∀ (ys : List Str) (a : Array Nat), (ys.foldl (fun acc p => acc ++ (⟨⟨[]⟩⟩ : Str).cps ++ p.cps) a).toList = a.toList ++ txt ys
  | [], a => by simp [txt]
  | y :: ys, a => by
    rw [List.foldl_cons, fold_txt ys]
    simp [txt]
theorem join_txt (ys : List Str) : (Txt.join ⟨⟨[]⟩⟩ ys).cps.toList = txt ys := by
  unfold Txt.join Builtin.Str.glued
  cases ys with
  | nil => rfl
  | cons y ys =>
    refine (fold_txt ys y.cps).trans ?_
    simp [txt]
theorem txt_len (ys : List Str) : (ys.map (·.length)).sum = (txt ys).length := by
  induction ys with
  | nil => rfl
  | cons y ys ih =>
    rw [List.map_cons, List.sum_cons, ih]
    simp only [txt, List.flatMap_cons, List.length_append, Array.length_toList]
    rfl
theorem txt_app (a b : List Str) : txt (a ++ b) = txt a ++ txt b := by simp [txt]
noncomputable def dotTab : Str := ⟨⟨[46, 9]⟩⟩
noncomputable def ENDS : List Str := [⟨⟨[13, 10]⟩⟩, ⟨⟨[10]⟩⟩, ⟨⟨[13]⟩⟩]
noncomputable def outRow (l : Str) : List Nat := (rowT l).cps.toList ++ [13, 10]
noncomputable def LE (p : Str × Str) : Prop := p.1 ∈ LEADS ∧ p.2 ∈ ENDS
theorem signs {l : Str} (h : l ∈ LEADS) : ∀ c ∈ l.cps.toList, c = 32 ∨ c = 9 := fun c hc => by simpa using List.all_eq_true.mp (List.all_eq_true.mp leads_signs l h) c hc
theorem short {l : Str} (h : l ∈ LEADS) : l.cps.size < 20 := of_decide_eq_true (List.all_eq_true.mp leads_short l h)
theorem quo_row {l : Str} (h : l ∈ LEADS) : quo (l.cps.toList ++ [46, 9]) = outRow l := by
  unfold quo outRow rowT
  have hs := signs h
  have hsz : l.cps.size = l.cps.toList.length := rfl
  cases e : l.cps.toList with
  | nil =>
    rw [hsz, e]
    simp [e]
  | cons c r =>
    have hc := hs c (by rw [e]; exact .head _)
    rw [hsz, e]
    have h46 : c ≠ 46 := by rcases hc with rfl | rfl <;> decide
    simp [e, h46]
theorem flat_len {α β : Type} (f : α → List β) (k : Nat) : ∀ (l : List α), (∀ x ∈ l, (f x).length ≤ k) → (l.flatMap f).length ≤ l.length * k
  | [], _ => by simp
  | x :: l, h => by
    have := flat_len f k l (fun y hy => h y (.tail _ hy))
    have := h x (.head _)
    rw [List.flatMap_cons, List.length_append, List.length_cons, Nat.add_mul]
    (first | lia | omega)
theorem end_ok {e : Str} (h : e ∈ ENDS) : e.cps.toList = [13, 10] ∨ e.cps.toList = [10] ∨ e.cps.toList = [13] := by
  simp only [ENDS, List.mem_cons, List.mem_nil_iff, or_false] at h
  rcases h with rfl | rfl | rfl
  · exact .inl rfl
  · exact .inr (.inl rfl)
  · exact .inr (.inr rfl)
section
variable {w : World} {A : Around} {E : Value → Shared → Prop} {h : Heap} {g : Array GenState} {d : Drawn} {tk : Nat} {os : OsState} {mg mb : Str → Option Value}
theorem quote_ok {x : Str} {tx : Tok} {les : List (Str × Str)} {Q : Value → Shared → Prop} (B : Bs w mg mb h) (R : Rm A 5) (hl : ∀ p ∈ les, LE p) (hn : les.length ≤ 10)
    (hx : x.cps.toList = les.flatMap fun p => p.1.cps.toList ++ [46, 9] ++ p.2.cps.toList)
    (hQ : ∀ h' t tk', Ext h h' → Q (.str ⟨(les.flatMap fun p => outRow p.1).toArray⟩ t) ⟨h', g, d, tk', os⟩) :
    wpAny (MM w) A (call (.ref 210) [.str x tx]) Q E ⟨h, g, d, tk, os⟩ := by
  have hx' : x.cps = ((les.map fun p => (p.1.cps.toList ++ [46, 9], p.2.cps.toList)).flatMap fun r => r.1 ++ r.2).toArray := by
    rw [List.flatMap_map, ← hx]
  have c2 := cut2 (les.map fun p => (p.1.cps.toList ++ [46, 9], p.2.cps.toList)) (fun r hr => by
    obtain ⟨p, hp, rfl⟩ := List.mem_map.mp hr
    refine ⟨fun c hc => ?_, by simp, end_ok (hl p hp).2⟩
    rcases List.mem_append.mp hc with q | q
    · rcases signs (hl p hp).1 c q with rfl | rfl <;> decide
    · rcases List.mem_cons.mp q with rfl | q
      · decide
      · rcases List.mem_cons.mp q with rfl | q
        · decide
        · cases q) []
  rw [List.nil_append, ← hx', List.flatMap_map] at c2
  have et : txt (les.flatMap fun p => [(⟨(p.1.cps.toList ++ [46, 9]).toArray⟩ : Str), crlf]) = (les.map fun p => p.1.cps.toList ++ [46, 9]).flatMap fun r => r ++ [13, 10] := by
    clear c2 hx hx' hn hl hQ
    induction les with
    | nil => rfl
    | cons p les ih =>
      rw [List.flatMap_cons, txt_app, ih]
      simp [txt, crlf]
  have hb : ∀ p ∈ les, (p.1.cps.toList ++ [46, 9] ++ [13, 10]).length ≤ 40 := fun p hp => by
    have := short (hl p hp).1
    simp; (first | lia | omega)
  have el : ((les.map fun p => p.1.cps.toList ++ [46, 9]).flatMap fun r => r ++ [13, 10]).length ≤ les.length * 40 := by
    rw [List.flatMap_map]; exact flat_len _ 40 _ hb
  obtain ⟨zs, c1, ez, lz⟩ := cut1 (les.map fun p => p.1.cps.toList ++ [46, 9]) (fun r hr => by
    obtain ⟨p, hp, rfl⟩ := List.mem_map.mp hr
    refine ⟨by simp, fun c hc => ?_⟩
    rcases List.mem_append.mp hc with q | q
    · rcases signs (hl p hp).1 c q with rfl | rfl <;> decide
    · rcases List.mem_cons.mp q with rfl | q
      · decide
      · rcases List.mem_cons.mp q with rfl | q
        · decide
        · cases q) [] [] (by simp only [List.nil_append]; (first | lia | omega)) (fun j a b => by simp at b) (.inl rfl)
  simp only [List.nil_append] at c1 ez
  have ezo : txt zs = les.flatMap fun p => outRow p.1 := by
    rw [ez, List.flatMap_map]
    clear c2 hx hx' hn hQ et hb el c1 ez lz
    induction les with
    | nil => rfl
    | cons p les ih =>
      rw [List.flatMap_cons, List.flatMap_cons, ih (fun q hq => hl q (.tail _ hq)), quo_row (hl p (.head _)).1]
  have ho : ∀ p ∈ les, (outRow p.1).length ≤ 60 := fun p hp => by
    have := row_short (hl p hp).1
    unfold outRow
    simp; (first | lia | omega)
  have eo : (les.flatMap fun p => outRow p.1).length ≤ les.length * 60 := flat_len _ 60 _ ho
  have ej : (Txt.join ⟨⟨[]⟩⟩ (les.flatMap fun p => [(⟨(p.1.cps.toList ++ [46, 9]).toArray⟩ : Str), crlf])).cps = ((les.map fun p => p.1.cps.toList ++ [46, 9]).flatMap fun r => r ++ [13, 10]).toArray := by
    rw [← et, ← join_txt]
  have hxs : x.cps.size ≤ 100000 := by
    show x.cps.toList.length ≤ _
    rw [hx]
    refine Nat.le_trans (flat_len _ 40 _ fun p hp => ?_) (by (first | lia | omega))
    have := short (hl p hp).1
    have he : p.2.cps.toList.length ≤ 2 := by rcases end_ok (hl p hp).2 with e | e | e <;> rw [e] <;> decide
    simp at he ⊢; (first | lia | omega)
  refine quo_ok B R hxs c2 (Nat.le_trans (flat_len _ 2 _ fun _ _ => Nat.le_refl _) (by (first | lia | omega))) (by rw [txt_len, et]; (first | lia | omega)) (by rw [ej]; show _ ≤ _; simp only [List.size_toArray]; (first | lia | omega)) (by rw [ej]; exact c1) (by rw [List.length_map] at lz; (first | lia | omega)) (by rw [txt_len, ezo]; (first | lia | omega)) (fun h' t tk' X => ?_)
  have : (Txt.join ⟨⟨[]⟩⟩ zs) = ⟨(les.flatMap fun p => outRow p.1).toArray⟩ := by
    rw [← ezo, ← join_txt]
  rw [this]
  exact hQ h' t tk' X
end
end
section
open PySem PySem.W PyProof.Rows PySem.Calls PySem.Spec
set_option maxHeartbeats 1000000
theorem mem_of_lookup {α : Type} {n : Str} {c : α} : ∀ {l : List (Str × α)}, l.lookup n = some c → (n, c) ∈ l
  | [], e => nomatch e
  | (k, v) :: l, e => by
    cases hq : n == k with
    | true =>
      rw [List.lookup_cons, hq] at e
      cases e
      have : n = k := by simpa using hq
      subst this
      exact .head _
    | false =>
      rw [List.lookup_cons, hq] at e
      exact .tail _ (mem_of_lookup e)
section
variable {prog : Program} {w : World} {A : Around} {E : Value → Shared → Prop} {h h₀ : Heap} {g : Array GenState} {d : Drawn} {tk : Nat} {os : OsState} {env : Env} {L : Addr} {m : Str → Option Value} {nw : List (Addr × Obj)}
theorem for_pairA {xi xv : Str} {pi pv pt : Pos} {x1 : Nat} {body : List Stmt} {Q : Flow → Shared → Prop} {Er : Value → Shared → Prop} {I : Addr} {fp wr : List Addr} {n : Nat} {Pt : Nat → Array Value → Prop} {St : Nat → Heap → Prop} {Mid : Nat → Addr → Heap → Prop} {P2 : Nat → Value → Value → Prop}
    (P : Nat → Array GenState → (Str → Option Value) → List (Addr × Obj) → Prop) (hh : A.handled = none) (W : WalksT prog w A I fp wr n Pt St Mid) (h2 : ∀ i vals, Pt i vals → ∃ v0 v1, vals = #[v0, v1] ∧ P2 i v0 v1) (hL : L ∉ fp) (hw0 : ∀ b ∈ wr, h₀.get? b = none) (hex : ∀ i h, St i h → ∀ b ∈ wr, ∃ o, h.get? b = some o)
    (st : St 0 h) (F : Fr h₀ L h m) (N : News h₀ L h nw) (hnw : ∀ p ∈ nw, p.1 ∉ wr) (p0 : P 0 g m nw)
    (turn : ∀ i v0 v1 g m nw h tk E' fo T, i < n → P2 i v0 v1 → P i g m nw → (∀ p ∈ nw, p.1 ∉ wr) → Fr h₀ L h m → News h₀ L h (fo ++ nw) → (∀ b ∈ wr, ∃ o, (b, o) ∈ fo) → (∀ p ∈ fo, p.1 ∈ fp) → IsTup h T #[v0, v1] →
      wpAny (model prog w) A (assign (.Tuple [.Name xi pi, .Name xv pv] x1 pt) env (.ref T)) (fun _ s' => wpAny (model prog w) A (execs body env) (Lp (FInv h₀ L d os P fo wr (i + 1)) Q) E' s') E' ⟨h, g, d, tk, os⟩)
    (done : ∀ g m nw h tk, P n g m nw → (∀ p ∈ nw, p.1 ∉ wr) → Fr h₀ L h m → News h₀ L h nw → Q .next ⟨h, g, d, tk, os⟩)
    (hLe : env.locals = L := by rfl) :
    codeAny (model prog w) A (.forLoop (.Tuple [.Name xi pi, .Name xv pv] x1 pt) (.ref I) body [] env) (fun r s' => match r with | .ok f => Q f s' | .error e => Er e s') ⟨h, g, d, tk, os⟩ := by
  subst hLe
  have step : ∀ {h h' : Heap} {m : Str → Option Value}, Fr h₀ env.locals h m → (∀ b o, b ∉ wr → h.get? b = some o → h'.get? b = some o) → Fr h₀ env.locals h' m := fun {h h' m} F hk => by
    refine holdG fun Pz kz => ?_
    obtain ⟨oL, es, ep, e1, e2⟩ := F.ns
    refine kz ?_
    clear kz Pz
    exact ⟨⟨oL, es, ep, hk _ _ (fun q => hL (W.sub _ q)) e1, e2⟩, fun b o e => hk _ _ (fun q => by (first | exact gX e (hw0 b q) | exact gX (hw0 b q) e | (rw [hw0 b q] at e; cases e))) (F.keep b o e), F.above⟩
  have stepN : ∀ {h h' : Heap} {nw : List (Addr × Obj)}, News h₀ env.locals h nw → (∀ p ∈ nw, p.1 ∉ wr) → (∀ b o, b ∉ wr → h.get? b = some o → h'.get? b = some o) → News h₀ env.locals h' nw := fun N hn hk p hp =>
    ⟨hk _ _ (hn p hp) (N p hp).1, (N p hp).2⟩
  refine codeAny_forLoop_any (fun k s => ∃ i h g tk m nw, k + i = n ∧ s = ⟨h, g, d, tk, os⟩ ∧ St i h ∧ Fr h₀ env.locals h m ∧ News h₀ env.locals h nw ∧ (∀ p ∈ nw, p.1 ∉ wr) ∧ P i g m nw) (fun k s hI => ?_) n ⟨0, h, g, tk, m, nw, by (first | lia | omega), rfl, st, F, N, hnw, p0⟩
  refine holdG fun Pz kz => ?_
  obtain ⟨i, h, g, tk, m, nw, hki, rfl, st, F, N, hnw, p⟩ := hI
  refine kz ?_
  clear kz Pz
  by_cases hi : i < n
  · refine W.item i _ _ _ hi st (fun T vals h1 tk1 pv hT0 ht mid hk1 => ?_)
    refine W.go _ _ _ i T _ _ _ mid (fun h2' st2 hk2 => ?_)
    dsimp only at hk2 hk1 ⊢
    refine holdG fun Pz kz => ?_
    obtain ⟨v0, v1, rfl, hP2⟩ := h2 i vals pv
    refine kz ?_
    clear kz Pz
    have F2 := step (step F hk1) hk2
    have N2 := stepN (stepN N hnw hk1) hnw hk2
    have ht2 : IsTup h2' T #[v0, v1] := by
      refine holdG fun Pz kz => ?_
      obtain ⟨o, ho, hc, k, hd⟩ := ht
      refine kz ?_
      clear kz Pz
      exact ⟨o, hk2 _ _ (W.apart _ _ _ mid) ho, hc, k, hd⟩
    refine holdG fun Pz kz => ?_
    obtain ⟨fo, Nfo, hfo, hfk⟩ := fo_of (h₀ := h₀) (h := h2') hL
    refine kz ?_
    clear kz Pz
    refine wpAny_mono (turn i v0 v1 g m nw h2' _ _ fo T hi hP2 p hnw F2 (news_app Nfo N2) (fun b hb => ?_) hfk ht2) (fun _ s₁ q₁ => wpAny_mono q₁ (fun f s₃ q => ?_) (fun _ _ q => q)) (fun _ _ q => q)
    · obtain ⟨o, ho⟩ := hex _ _ st2 b hb
      exact ⟨o, hfo b (W.sub b hb) o ho (hw0 b hb)⟩
    · have key : FInv h₀ env.locals d os P fo wr (i + 1) s₃ → ∃ m, m < k ∧ ∃ i h g tk m_1 nw, m + i = n ∧ s₃ = ⟨h, g, d, tk, os⟩ ∧ St i h ∧ Fr h₀ env.locals h m_1 ∧ News h₀ env.locals h nw ∧ (∀ p ∈ nw, p.1 ∉ wr) ∧ P i g m_1 nw := by
        rintro ⟨h4, g4, tk4, m4, nw4, rfl, F4, N4, hn4, p4⟩
        refine ⟨k - 1, by (first | lia | omega), i + 1, h4, g4, tk4, m4, nw4, by (first | lia | omega), rfl, W.frame _ _ _ st2 (fun b hb o ho => ?_), F4, news_sub N4 (fun p hp => List.mem_append_right _ hp), hn4, p4⟩
        cases e : h₀.get? b with
        | some o' =>
          have := F2.keep b o' e
          (first | exact gX this ho | exact gX ho this | (rw [ho] at this; cases this))
          exact F4.keep b o e
        | none => exact (N4 _ (List.mem_append_left _ (hfo b hb o ho e))).1
      cases f with
      | next => exact key q
      | cont => exact key q
      | brk => exact q
      | ret v => exact q
  · have hi' : i = n := by (first | lia | omega)
    subst hi'
    refine W.done _ _ _ st (fun h' tk' hk' => ?_)
    exact wpAny_execs_nil (done g m nw h' tk' p hnw (step F hk') (stepN N hnw hk'))
/-- for i, x in enumerate(list) -/
theorem for_enumA {xi xv : Str} {pi pv pt : Pos} {x1 : Nat} {body : List Stmt} {Q : Flow → Shared → Prop} {Er : Value → Shared → Prop} {l : Addr} {vs : List Value}
    (P : Nat → Array GenState → (Str → Option Value) → List (Addr × Obj) → Prop) (hh : A.handled = none) (hl : h.IsList l vs.toArray) (hlL : l ≠ L)
    (F : Fr h₀ L h m) (N : News h₀ L h nw) (p0 : P 0 g m nw)
    (turn : ∀ i v t g m nw h tk E' fo I T, vs[i]? = some v → P i g m nw → (∀ p ∈ nw, p.1 ≠ I ∧ p.1 ≠ I + 1) → Fr h₀ L h m → IsTup h T #[.int i t, v] → News h₀ L h (fo ++ nw) → (∃ o, (I, o) ∈ fo) → (∃ o, (I + 1, o) ∈ fo) → (∀ p ∈ fo, p.1 = I ∨ p.1 = I + 1 ∨ p.1 = l) → (∀ a ∈ [I, I + 1], h₀.get? a = none) →
      wpAny (model prog w) A (assign (.Tuple [.Name xi pi, .Name xv pv] x1 pt) env (.ref T)) (fun _ s' => wpAny (model prog w) A (execs body env) (Lp (FInv h₀ L d os P fo [I + 1, I] (i + 1)) Q) E' s') E' ⟨h, g, d, tk, os⟩)
    (done : ∀ g m nw h tk, P vs.length g m nw → Fr h₀ L h m → News h₀ L h nw → Q .next ⟨h, g, d, tk, os⟩)
    (hLe : env.locals = L := by rfl) :
    wpAny (model prog w) A (call (.type "enumerate") [.ref l]) (fun v s₁ => wpAny (model prog w) A (pyIter v) (fun it s₂ =>
      codeAny (model prog w) A (.forLoop (.Tuple [.Name xi pi, .Name xv pv] x1 pt) it body [] env) (fun r s' => match r with | .ok f => Q f s' | .error e => Er e s') s₂) E s₁) E ⟨h, g, d, tk, os⟩ := by
  have hlt : @LT.lt Nat _ l h.objs.size := let ⟨_, e, _⟩ := hl; Heap.lt_size e
  have hLt := fr_lt F
  refine call_enumerate_list (s := ⟨h, g, d, tk, os⟩) hl fun h' hE hI hsz hk' => ?_
  dsimp only at hE hI hsz hk' ⊢
  refine wpAny_pyIter_enum hE ?_
  generalize hIx : h.objs.size = I at *
  have W := WalksT.enumerate (prog := prog) (w := w) hh (I + 1) I l (Nat.succ_ne_self _) (Nat.ne_of_lt (Nat.lt_succ_of_lt hlt)) (Nat.ne_of_lt hlt) vs.toArray
  refine for_pairA P hh W (P2 := fun i v0 v1 => ∃ t, v0 = .int i t ∧ vs[i]? = some v1) (fun i vals ⟨t, x, hx, e⟩ => ⟨_, _, e, t, rfl, by simpa using hx⟩) ?_ (fun b hb => ?_) (fun i h'' st b hb => ?_) ⟨⟨_, hE⟩, hI, (let ⟨o, e, r⟩ := hl; ⟨o, hk' _ _ e, r⟩)⟩ (fr_ext F hk') (nw_ext N hk') (fun p hp hq => ?_) p0 (fun i v0 v1 g m nw h'' tk'' E' fo T hi hP p hn' F' N' hfo hfk hT => ?_) (fun g m nw h'' tk'' p _ F' N' => done g m nw h'' tk'' (by simpa using p) F' N') hLe
  · intro hq
    rcases List.mem_cons.mp hq with e | hq
    · exact Nat.ne_of_lt (Nat.lt_succ_of_lt hLt) e
    rcases List.mem_cons.mp hq with e | hq
    · exact Nat.ne_of_lt hLt e
    · exact hlL (List.mem_singleton.mp hq).symm
  · refine fr_new F ?_
    rw [hIx]
    revert b hb
    refine fm_cons ?_ ?_
    · exact Nat.le_succ _
    intro b hb
    · rw [List.mem_singleton.mp hb]; exact Nat.le_refl _
  · refine holdG fun Pz kz => ?_
    obtain ⟨⟨old, he⟩, hit, _⟩ := st
    refine kz ?_
    clear kz Pz
    revert b hb
    refine fm_cons ?_ ?_
    · exact ⟨_, he⟩
    intro b hb
    · obtain ⟨o, ho, _⟩ := hit
      rw [List.mem_singleton.mp hb]; exact ⟨o, ho⟩
  · have h1 : @LT.lt Nat _ p.1 I := hIx ▸ nw_lt N p hp
    rcases List.mem_cons.mp hq with e | hq
    · rw [e] at h1; exact absurd h1 (Nat.not_lt.mpr (Nat.le_succ _))
    · rw [List.mem_singleton.mp hq] at h1; exact Nat.lt_irrefl _ h1
  · obtain ⟨t, rfl, hv⟩ := hP
    refine turn i v1 t g m nw h'' tk'' E' fo I T hv p (fun p hp => ⟨fun e => hn' p hp (by simp [e]), fun e => hn' p hp (by simp [e])⟩) F' hT N' (hfo _ (by simp)) (hfo _ (by simp)) (fun p hp => ?_) (fun a ha => ?_)
    · have := hfk p hp
      rcases List.mem_cons.mp this with e | this
      · exact .inr (.inl e)
      rcases List.mem_cons.mp this with e | this
      · exact .inl e
      · exact .inr (.inr (List.mem_singleton.mp this))
    · refine fr_new F ?_
      rw [hIx]
      revert a ha
      refine fm_cons ?_ ?_
      · exact Nat.le_refl _
      intro a ha
      · rw [List.mem_singleton.mp ha]; exact Nat.le_succ _
theorem for_loopA {x : Str} {px : Pos} {body : List Stmt} {Q : Flow → Shared → Prop} {Er : Value → Shared → Prop} {I : Addr} {fp wr : List Addr} {n : Nat} {Pi : Nat → Value → Prop} {St : Nat → Heap → Prop}
    (P : Nat → Array GenState → (Str → Option Value) → List (Addr × Obj) → Prop) (W : Walks prog w A I fp wr n Pi St) (hL : L ∉ fp) (hw0 : ∀ b ∈ wr, h₀.get? b = none) (hI : I ∈ wr) (hex : ∀ i h, St i h → ∀ b ∈ wr, ∃ o, h.get? b = some o)
    (st : St 0 h) (F : Fr h₀ L h m) (N : News h₀ L h nw) (hnw : ∀ p ∈ nw, p.1 ∉ wr) (p0 : P 0 g m nw)
    (turn : ∀ i v g m nw h tk E' fo, i < n → Pi i v → P i g m nw → (∀ p ∈ nw, p.1 ∉ wr) → Fr h₀ L h m → News h₀ L h (fo ++ nw) → (∀ b ∈ wr, ∃ o, (b, o) ∈ fo) → (∀ p ∈ fo, p.1 ∈ fp) →
      wpAny (model prog w) A (assign (.Name x px) env v) (fun _ s' => wpAny (model prog w) A (execs body env) (Lp (FInv h₀ L d os P fo wr (i + 1)) Q) E' s') E' ⟨h, g, d, tk, os⟩)
    (done : ∀ g m nw h tk, P n g m nw → (∀ p ∈ nw, p.1 ∉ wr) → Fr h₀ L h m → News h₀ L h nw → Q .next ⟨h, g, d, tk, os⟩)
    (hLe : env.locals = L := by rfl) :
    codeAny (model prog w) A (.forLoop (.Name x px) (.ref I) body [] env) (fun r s' => match r with | .ok f => Q f s' | .error e => Er e s') ⟨h, g, d, tk, os⟩ := by
  subst hLe
  have step : ∀ {h h' : Heap} {m : Str → Option Value}, Fr h₀ env.locals h m → (∀ b o, b ∉ wr → h.get? b = some o → h'.get? b = some o) → Fr h₀ env.locals h' m := fun {h h' m} F hk => by
    refine holdG fun Pz kz => ?_
    obtain ⟨oL, es, ep, e1, e2⟩ := F.ns
    refine kz ?_
    clear kz Pz
    exact ⟨⟨oL, es, ep, hk _ _ (fun q => hL (W.sub _ q)) e1, e2⟩, fun b o e => hk _ _ (fun q => by (first | exact gX e (hw0 b q) | exact gX (hw0 b q) e | (rw [hw0 b q] at e; cases e))) (F.keep b o e), F.above⟩
  have stepN : ∀ {h h' : Heap} {nw : List (Addr × Obj)}, News h₀ env.locals h nw → (∀ p ∈ nw, p.1 ∉ wr) → (∀ b o, b ∉ wr → h.get? b = some o → h'.get? b = some o) → News h₀ env.locals h' nw := fun N hn hk p hp =>
    ⟨hk _ _ (hn p hp) (N p hp).1, (N p hp).2⟩
  refine codeAny_forLoop (fun k s => ∃ i h g tk m nw, k + i = n ∧ s = ⟨h, g, d, tk, os⟩ ∧ St i h ∧ Fr h₀ env.locals h m ∧ News h₀ env.locals h nw ∧ (∀ p ∈ nw, p.1 ∉ wr) ∧ P i g m nw) (fun k s hI => ?_) n ⟨0, h, g, tk, m, nw, by (first | lia | omega), rfl, st, F, N, hnw, p0⟩
  refine holdG fun Pz kz => ?_
  obtain ⟨i, h, g, tk, m, nw, hki, rfl, st, F, N, hnw, p⟩ := hI
  refine kz ?_
  clear kz Pz
  by_cases hi : i < n
  · refine W.item i _ _ _ hi st (fun v h' tk' pv st' hk' => ?_)
    have F' := step F hk'
    have N' := stepN N hnw hk'
    refine holdG fun Pz kz => ?_
    obtain ⟨fo, Nfo, hfo, hfk⟩ := fo_of (h₀ := h₀) (h := h') hL
    refine kz ?_
    clear kz Pz
    refine wpAny_mono (turn i v g m nw h' _ _ fo hi pv p hnw F' (news_app Nfo N') (fun b hb => ?_) hfk) (fun _ s₁ q₁ => wpAny_mono q₁ (fun f s₃ q => ?_) (fun _ _ q => q)) (fun _ _ q => q)
    · obtain ⟨o, ho⟩ := hex _ _ st' b hb
      exact ⟨o, hfo b (W.sub b hb) o ho (hw0 b hb)⟩
    · have key : FInv h₀ env.locals d os P fo wr (i + 1) s₃ → ∃ m, m < k ∧ ∃ i h g tk m_1 nw, m + i = n ∧ s₃ = ⟨h, g, d, tk, os⟩ ∧ St i h ∧ Fr h₀ env.locals h m_1 ∧ News h₀ env.locals h nw ∧ (∀ p ∈ nw, p.1 ∉ wr) ∧ P i g m_1 nw := by
        rintro ⟨h3, g3, tk3, m3, nw3, rfl, F3, N3, hn3, p3⟩
        refine ⟨k - 1, by (first | lia | omega), i + 1, h3, g3, tk3, m3, nw3, by (first | lia | omega), rfl, W.frame _ _ _ st' (fun b hb o ho => ?_), F3, news_sub N3 (fun p hp => List.mem_append_right _ hp), hn3, p3⟩
        cases e : h₀.get? b with
        | some o' =>
          have := F'.keep b o' e
          (first | exact gX this ho | exact gX ho this | (rw [ho] at this; cases this))
          exact F3.keep b o e
        | none => exact (N3 _ (List.mem_append_left _ (hfo b hb o ho e))).1
      cases f with
      | next => exact key q
      | cont => exact key q
      | brk => exact q
      | ret v => exact q
  · have hi' : i = n := by (first | lia | omega)
    subst hi'
    refine W.done _ _ _ st (fun h' tk' hk' => ?_)
    exact wpAny_execs_nil (done g m nw h' tk' p hnw (step F hk') (stepN N hnw hk'))
/-- for x in a tuple, any target -/
theorem for_tupA {x : Str} {px : Pos} {body : List Stmt} {Q : Flow → Shared → Prop} {Er : Value → Shared → Prop} {l : Addr} {vs : List Value}
    (P : Nat → Array GenState → (Str → Option Value) → List (Addr × Obj) → Prop) (hh : A.handled = none) (hl : IsTup h l vs.toArray) (hlL : l ≠ L)
    (F : Fr h₀ L h m) (N : News h₀ L h nw) (p0 : P 0 g m nw)
    (turn : ∀ i v g m nw h tk E' fo I, vs[i]? = some v → P i g m nw → (∀ p ∈ nw, p.1 ≠ I) → Fr h₀ L h m → News h₀ L h (fo ++ nw) → (∃ o, (I, o) ∈ fo) → (∀ p ∈ fo, p.1 = I ∨ p.1 = l) →
      wpAny (model prog w) A (assign (.Name x px) env v) (fun _ s' => wpAny (model prog w) A (execs body env) (Lp (FInv h₀ L d os P fo [I] (i + 1)) Q) E' s') E' ⟨h, g, d, tk, os⟩)
    (done : ∀ g m nw h tk, P vs.length g m nw → Fr h₀ L h m → News h₀ L h nw → Q .next ⟨h, g, d, tk, os⟩) (hLe : env.locals = L := by rfl) :
    wpAny (model prog w) A (pyIter (.ref l)) (fun it s₂ =>
      codeAny (model prog w) A (.forLoop (.Name x px) it body [] env) (fun r s' => match r with | .ok f => Q f s' | .error e => Er e s') s₂) E ⟨h, g, d, tk, os⟩ := by
  have hlt : @LT.lt Nat _ l h.objs.size := let ⟨_, e, _⟩ := hl; Heap.lt_size e
  have hLt := fr_lt F
  refine wpAny_pyIter_tuple (s := ⟨h, g, d, tk, os⟩) hl ?_
  dsimp only
  have X := Ext.push h { cls := .type "tuple_iterator", data := .fields #[.ref l, .int 0 0] }
  have W := Walks.tuple (prog := prog) (w := w) hh h.objs.size l (Nat.ne_of_lt hlt) vs.toArray
  refine for_loopA P W ?_ (fun b hb => ?_) (.head _) (fun i h'' st b hb => ?_) ⟨⟨_, Heap.get?_push_size _ rfl, rfl, rfl⟩, (let ⟨o, e, r⟩ := hl; ⟨o, X _ _ e, r⟩)⟩ (fr_ext F X) (nw_ext N X) (fun p hp hq => ?_) p0 (fun i v g m nw h'' tk'' E' fo hi hP p hn' F' N' hfo hfk => ?_) (fun g m nw h'' tk'' p _ F' N' => done g m nw h'' tk'' (by simpa using p) F' N') hLe
  · intro hq
    rcases List.mem_cons.mp hq with e | hq
    · exact Nat.ne_of_lt hLt e
    · exact hlL (List.mem_singleton.mp hq).symm
  · rw [List.mem_singleton.mp hb]; exact fr_new F (Nat.le_refl _)
  · refine holdG fun Pz kz => ?_
    obtain ⟨⟨o, ho, _⟩, _⟩ := st
    refine kz ?_
    clear kz Pz
    rw [List.mem_singleton.mp hb]; exact ⟨o, ho⟩
  · have h1 : @LT.lt Nat _ p.1 h.objs.size := nw_lt N p hp
    rw [List.mem_singleton.mp hq] at h1; exact Nat.lt_irrefl _ h1
  · refine turn i v g m nw h'' tk'' E' fo h.objs.size (by simpa using hP) p (fun p hp e => hn' p hp (by simp [e])) F' N' (hfo _ (.head _)) (fun p hp => ?_)
    have := hfk p hp
    rcases List.mem_cons.mp this with e | this
    · exact .inl e
    · exact .inr (List.mem_singleton.mp this)
/-- one cell of the ledger set -/
theorem st_c {x : Str} {c : Addr} {oc : Obj} {v₀ : Option Value} {v : Value} {pre post : List (Addr × Obj)} {Q : Unit → Shared → Prop} (F : Fr h₀ L h m) (N : News h₀ L h (pre ++ (c, oc) :: post)) (hd : oc.data = .cell v₀) (h1 : ∀ p ∈ pre, p.1 ≠ c) (h2 : ∀ p ∈ post, p.1 ≠ c)
    (hQ : ∀ h' oc', Fr h₀ L h' m → News h₀ L h' (pre ++ (c, oc') :: post) → oc'.data = .cell (some v) → Q () ⟨h', g, d, tk, os⟩)
    (hk : env.scope.kind = .function := by rfl) (hl : env.kindOf x = some .cell := by rfl) (hc : env.cells.lookup x = some c := by rfl) : wpAny (model prog w) A (storeName env x v) Q E ⟨h, g, d, tk, os⟩ := by
  refine st_cell (rest := pre ++ post) F N (by simp) hd (fun p hp => ?_) (fun h' oc' F' N' hd' _ => hQ h' oc' F' (news_sub N' (fun p hp => ?_)) hd') hk hl hc
  · rcases List.mem_append.mp hp with q | q
    · exact ⟨List.mem_append_left _ q, h1 p q⟩
    · exact ⟨List.mem_append_right _ (.tail _ q), h2 p q⟩
  · simp only [List.mem_append, List.mem_cons] at hp ⊢
    rcases hp with q | q | q
    · exact .inr (.inl q)
    · exact .inl q
    · exact .inr (.inr q)
end
section
variable {w : World} {A : Around} {E : Value → Shared → Prop} {h hb : Heap} {g : Array GenState} {d : Drawn} {tk : Nat} {os : OsState} {mg mb : Str → Option Value} {nw : List (Addr × Obj)}
/-- a def with cells, entered -/
theorem enterCs {f : Addr} {o : Obj} {fd : FuncData} {body : List Stmt} {pos : List Value} {binds : List (Str × Value)} {Q : Value → Shared → Prop}
    (B : Bs w mg mb h) (hf : (KN w.params).lookup f = some o) (hd : o.data = .func fd) (hcd : codeIn (KN w.params) fd.code fd.qualname = true) (hbody : fd.body = .stmts body)
    (hbind : bindArgs fd ⟨pos, []⟩ = pure binds) (room : A.depth < recursionLimit)
    (hkind : ∀ L, ∀ x ∈ binds, fd.scope.names.lookup x.1 = some .local ∨ (fd.scope.names.lookup x.1 = some .cell ∧ ((cellsFrom (L + 1) fd.scope.names []).lookup x.1).isSome = true))
    (hx : ∀ h₁ L tk E', Fr h L h₁ (bindL (callEnvC fd L f).kindOf binds fun _ => none) → (∀ n c, (cellsFrom (L + 1) fd.scope.names []).lookup n = some c → ∃ oc, News h L h₁ [(c, oc)] ∧ oc.data = .cell (bindC (callEnvC fd L f).kindOf binds (fun _ => none) n)) →
      wpAny (MM w) (A.deeper (callEnvC fd L f)) (execs body (callEnvC fd L f)) (fun fl s' => Q (retOf fl) s') E' ⟨h₁, g, d, tk, os⟩)
    (hclo : fd.closure = []) (hco : fd.scope.isCoroutine = false) (hgen : fd.scope.isGenerator = false) (hk : fd.scope.kind = .function) :
    wpAny (MM w) A (call (.ref f) pos) Q E ⟨h, g, d, tk, os⟩ := by
  refine wpAny_call (codeAny_call_cells (binds := binds) room (B.X _ _ hf) hd B.lim (codeRec_of B.X hcd) hbody hbind hclo (hkind _) (fun s₁ IC => ?_) hco hgen hk)
  refine holdG fun Pz kz => ?_
  obtain ⟨⟨⟨h₁, tk₁, rfl⟩, hns, hkp, hfr⟩, hcell, _, hab⟩ := IC
  refine kz ?_
  clear kz Pz
  dsimp only at hns hkp hfr hcell hab
  have F : Fr h h.objs.size h₁ (bindL (callEnvC fd h.objs.size f).kindOf binds fun _ => none) := ⟨hns, fun b o e => hkp _ _ e, Nat.le_refl _⟩
  refine wpAny_mono (hx h₁ h.objs.size _ _ F (fun n c hc => ?_)) (fun fl s' q => ?_) (fun _ _ q => q)
  · obtain ⟨oc, ho, hoc⟩ := hcell n c hc
    have hlt : h.objs.size < c := hab n c (mem_of_lookup hc)
    refine ⟨oc, fun p hp => ?_, hoc⟩
    rw [List.mem_singleton.mp hp]
    refine ⟨ho, (Nat.ne_of_lt hlt).symm, ?_⟩
    refine gN fun o e => ?_
    exact absurd (Heap.lt_size e) (Nat.not_lt.mpr (Nat.le_of_lt hlt))
  · cases fl <;> exact q
end
end
section
open PySem PySem.W PyProof.Rows PySem.Calls PySem.Spec
set_option maxHeartbeats 1000000
section
variable {prog : Program} {w : World} {A : Around} {E : Value → Shared → Prop} {h h₀ : Heap} {g : Array GenState} {d : Drawn} {tk : Nat} {os : OsState} {env : Env} {L : Addr} {m : Str → Option Value} {nw : List (Addr × Obj)}
noncomputable abbrev testsOf (ifs : List Expr) (cenv : Env) : Sem Bool := forIn ifs true fun c r => if r = true then do let ok ← isTrue c cenv (eval c cenv); pure (ForInStep.yield ok) else pure (ForInStep.yield r)
/- the two things a comprehension does to an item -/
noncomputable def TestC {α : Type} (prog : Program) (w : World) (A : Around) (K : ItemKind α) (env : Env) (scope : Scope) (cl : List (Str × Addr)) (x : Str) (ifs : List Expr) (pz : α → Bool) (as : List α) (h : Heap) : Prop :=
  ∀ C a v h2 g2 d2 tk2 os2 m₂ E', a ∈ as → K.is a v → Fr h C h2 m₂ → m₂ x = some v → wpAny (model prog w) A (testsOf ifs (compEnvC scope cl C env)) (fun ok s₃ => ok = pz a ∧ Keeps ⟨h2, g2, d2, tk2, os2⟩ s₃) E' ⟨h2, g2, d2, tk2, os2⟩
noncomputable def EltC {α : Type} (prog : Program) (w : World) (A : Around) (K : ItemKind α) (env : Env) (scope : Scope) (cl : List (Str × Addr)) (x : Str) (elt : Expr) (pz : α → Bool) (dd : α → PyData) (as : List α) (h : Heap) : Prop :=
  ∀ C a v h2 g2 d2 tk2 os2 m₂ E', a ∈ as → K.is a v → pz a = true → Fr h C h2 m₂ → m₂ x = some v → wpAny (model prog w) A (eval elt (compEnvC scope cl C env)) (fun y s₃ => Carried y (dd a) ∧ Keeps ⟨h2, g2, d2, tk2, os2⟩ s₃) E' ⟨h2, g2, d2, tk2, os2⟩
/-- what is left when the source of a comprehension stands -/
inductive CompP {α : Type} (prog : Program) (w : World) (A : Around) (K : ItemKind α) (h₀ : Heap) (L : Addr) (m : Str → Option Value) (env : Env) (scope : Scope) (cl : List (Str × Addr)) (x : Str) (ifs : List Expr) (elt : Expr) (pz : α → Bool) (dd : α → PyData) (m' : Addr → Str → Option Value) (Q : Value → Shared → Prop) (xv : Value) (s : Shared) : Prop
  | mk (nw : _) (ax : _) (vs : _) (as : _) (_ : xv = .ref ax) (_ : s.heap.IsList ax vs.toArray) (_ : AreOf K vs as) (_ : as.length ≤ 1000) (_ : Fr h₀ L s.heap m) (_ : News h₀ L s.heap nw) (_ : TestC prog w A K env scope cl x ifs pz as s.heap) (_ : EltC prog w A K env scope cl x elt pz dd as s.heap) (_ : ∀ D ys n h' tk, Fr h₀ L h' (m' D) → News h₀ L h' ((D, listO ys n) :: nw) → (∀ p ∈ nw, p.1 ≠ D) → CarriedAll ys ((as.filter pz).map dd) → Q (.ref D) { s with heap := h', toks := tk }) : CompP prog w A K h₀ L m env scope cl x ifs elt pz dd m' Q xv s
theorem fr_comp {α : Type} {K : ItemKind α} {scope : Scope} {cl : List (Str × Addr)} {x : Str} {ifs : List Expr} {pz : α → Bool} {as : List α} {s₁ : Shared} (ht : TestC prog w A K env scope cl x ifs pz as s₁.heap) :
    ∀ C a v s₂ m₂ E', s₁.heap.objs.size ≤ C → a ∈ as → K.is a v → s₂.heap.Ns (compEnvC scope cl C env).locals m₂ → m₂ x = some v → (∀ b o, s₁.heap.get? b = some o → s₂.heap.get? b = some o) →
        wpAny (model prog w) A (testsOf ifs (compEnvC scope cl C env)) (fun ok s₃ => ok = pz a ∧ Keeps s₂ s₃) E' s₂ :=
  fun C a v s₂ m₂ E' hC ha hv hn hm hk => ht C a v s₂.heap s₂.gens s₂.drawn s₂.toks s₂.os m₂ E' ha hv ⟨hn, hk, hC⟩ hm
theorem fr_elt {α : Type} {K : ItemKind α} {scope : Scope} {cl : List (Str × Addr)} {x : Str} {elt : Expr} {pz : α → Bool} {dd : α → PyData} {as : List α} {s₁ : Shared} (ht : EltC prog w A K env scope cl x elt pz dd as s₁.heap) :
    ∀ C a v s₂ m₂ E', s₁.heap.objs.size ≤ C → a ∈ as → K.is a v → pz a = true → s₂.heap.Ns (compEnvC scope cl C env).locals m₂ → m₂ x = some v → (∀ b o, s₁.heap.get? b = some o → s₂.heap.get? b = some o) →
        wpAny (model prog w) A (eval elt (compEnvC scope cl C env)) (fun y s₃ => Carried y (dd a) ∧ Keeps s₂ s₃) E' s₂ :=
  fun C a v s₂ m₂ E' hC ha hv hp hn hm hk => ht C a v s₂.heap s₂.gens s₂.drawn s₂.toks s₂.os m₂ E' ha hv hp ⟨hn, hk, hC⟩ hm
theorem news_comp {h' : Heap} {D : Addr} {ys : List Value} {m' : Str → Option Value} (F : Fr h₀ L h' m') (N : News h₀ L h' nw) (hD : h₀.get? D = none) (hp : NewPlain h' nw D ys.toArray) : ∃ n, News h₀ L h' ((D, listO ys n) :: nw) ∧ ∀ p ∈ nw, p.1 ≠ D := by
  have hne := hp.ne_locals F
  obtain ⟨⟨n, e⟩, hx⟩ := hp
  refine ⟨n, fun p hp => ?_, hx⟩
  revert p hp
  refine fm_cons ?_ ?_
  · exact ⟨e, hne, hD⟩
  intro p hp
  · exact N p hp
theorem comp_e {α : Type} {K : ItemKind α} {elt iter : Expr} {x : Str} {px : Pos} {ifs : List Expr} {scope : Scope} {cl : List (Str × Addr)} {pos : Pos} {Q : Value → Shared → Prop} {pz : α → Bool} {dd : α → PyData} {s : Shared}
    (hh : A.handled = none) (h : wpAny (model prog w) A (eval iter env) (CompP prog w A K h₀ L m env scope cl x ifs elt pz dd (fun _ => m) Q) E s)
    (hclos : closureFor scope env = pure cl := by rfl) (hcell : ∀ y ∈ scope.names, y.2 ≠ .cell := by decide) (hkind : scope.kind = .function := by rfl)
    (hnames : ∀ y ∈ scope.names, y.2 = .local → scope.names.lookup y.1 = some .local := by decide) (hx : scope.names.lookup x = some .local := by rfl) (hs : ∀ x, foldedSetIterable iter env x = pure x := by intro _; rfl) :
    wpAny (model prog w) A (eval (.ListComp elt [⟨.Name x px, iter, ifs, 0⟩] scope pos) env) Q E s := by
  refine ListComp_DCn (K := K) (pz := pz) (d := dd) (h₀ := h₀) (L := L) (m := m) hh hclos hcell hkind hnames hx (wpAny_mono h (fun xv s₁ h₁ => ?_) fun _ _ e => e) hs
  refine holdG fun Pz kz => ?_
  obtain ⟨nw, ax, vs, as, rfl, hl, hi, hsz, F, N, ht, he, hQ⟩ := h₁
  refine kz ?_
  clear kz Pz
  refine ⟨nw, ax, vs, as, rfl, hl, hi, Nat.le_trans hsz (by rw [sizeLine_eq]; decide), F, N, fr_comp ht, fr_elt he, fun D ys h' tk F' N' hD _ hp hc => ?_⟩
  obtain ⟨n, N2, hne⟩ := news_comp F' N' hD hp
  exact hQ D ys n h' tk F' N2 hne hc
theorem comp_a {α : Type} {K : ItemKind α} {elt iter : Expr} {x y : Str} {px py : Pos} {ifs : List Expr} {scope : Scope} {cl : List (Str × Addr)} {pos spos : Pos} {Q : Flow → Shared → Prop} {pz : α → Bool} {dd : α → PyData} {s : Shared}
    (hh : A.handled = none) (h : wpAny (model prog w) A (eval iter env) (CompP prog w A K h₀ L m env scope cl x ifs elt pz dd (fun D => Upd m y (.ref D)) (fun _ s' => Q .next s')) E s)
    (hsw : swapsWith (.ListComp elt [⟨.Name x px, iter, ifs, 0⟩] scope pos) (some (.Name y py)) spos.line env = pure true := by rfl) (hL : env.locals = L := by rfl)
    (hclos : closureFor scope env = pure cl := by rfl) (hcell : ∀ y ∈ scope.names, y.2 ≠ .cell := by decide) (hkind : scope.kind = .function := by rfl)
    (hnames : ∀ y ∈ scope.names, y.2 = .local → scope.names.lookup y.1 = some .local := by decide) (hx : scope.names.lookup x = some .local := by rfl)
    (hy : env.kindOf y = some .local := by rfl) (hp : (env.scope.kind == .class || (env.scope.kind == .module && env.locals != env.globals)) = false := by rfl) (hs : ∀ x, foldedSetIterable iter env x = pure x := by intro _; rfl) :
    wpAny (model prog w) A (exec (.Assign [.Name y py] (.ListComp elt [⟨.Name x px, iter, ifs, 0⟩] scope pos) spos) env) Q E s := by
  refine Assign_ListComp_DCn (K := K) (pz := pz) (d := dd) (h₀ := h₀) (L := L) (m := m) hsw hL hh hclos hcell hkind hnames hx hy hp (wpAny_mono h (fun xv s₁ h₁ => ?_) fun _ _ e => e) hs
  refine holdG fun Pz kz => ?_
  obtain ⟨nw, ax, vs, as, rfl, hl, hi, hsz, F, N, ht, he, hQ⟩ := h₁
  refine kz ?_
  clear kz Pz
  refine ⟨nw, ax, vs, as, rfl, hl, hi, Nat.le_trans hsz (by rw [sizeLine_eq]; decide), F, N, fr_comp ht, fr_elt he, fun D ys h' tk F' N' hD _ hp hc => ?_⟩
  obtain ⟨n, N2, hne⟩ := news_comp F' N' hD hp
  exact hQ D ys n h' tk F' N2 hne hc
theorem comp_end {α : Type} {K : ItemKind α} {elt : Expr} {x : Str} {ifs : List Expr} {scope : Scope} {cl : List (Str × Addr)} {Q : Value → Shared → Prop} {pz : α → Bool} {dd : α → PyData} {m' : Addr → Str → Option Value} {ax : Addr} {vs : List Value} {as : List α}
    (F : Fr h₀ L h m) (N : News h₀ L h nw) (hl : h.IsList ax vs.toArray) (hi : AreOf K vs as) (hsz : as.length ≤ 1000) (ht : TestC prog w A K env scope cl x ifs pz as h) (he : EltC prog w A K env scope cl x elt pz dd as h)
    (hQ : ∀ D ys n h' tk, Fr h₀ L h' (m' D) → News h₀ L h' ((D, listO ys n) :: nw) → (∀ p ∈ nw, p.1 ≠ D) → CarriedAll ys ((as.filter pz).map dd) → Q (.ref D) ⟨h', g, d, tk, os⟩) :
    CompP prog w A K h₀ L m env scope cl x ifs elt pz dd m' Q (.ref ax) ⟨h, g, d, tk, os⟩ := ⟨nw, ax, vs, as, rfl, hl, hi, hsz, F, N, ht, he, hQ⟩
theorem test_nil {α : Type} {K : ItemKind α} {scope : Scope} {cl : List (Str × Addr)} {x : Str} {as : List α} : TestC prog w A K env scope cl x [] (fun _ => true) as h :=
  fun C a v h2 g2 d2 tk2 os2 m₂ E' _ _ _ _ => wpAny_tests_nil ⟨rfl, h2, tk2, rfl, fun _ _ e => e⟩
theorem keeps_of {h2 h3 : Heap} {tk2 tk3 : Nat} (x : Ext h2 h3) : Keeps ⟨h2, g, d, tk2, os⟩ ⟨h3, g, d, tk3, os⟩ := ⟨h3, tk3, rfl, x⟩
/-- the same over a range -/
theorem comp_ar {elt iter : Expr} {x y : Str} {px py : Pos} {ifs : List Expr} {scope : Scope} {cl : List (Str × Addr)} {pos spos : Pos} {Q : Flow → Shared → Prop} {pz : Int → Bool} {dd : Int → PyData} {s : Shared}
    (hh : A.handled = none) (h : wpAny (model prog w) A (eval iter env) (fun xv s₁ => ∃ news : List (Addr × Obj), ∃ r a₀ b₀ c₀ t₀ u₀ v₀, ∃ n : Nat, xv = .ref r ∧ IsRange s₁.heap r a₀ b₀ c₀ t₀ u₀ v₀ ∧ Builtin.Range.small a₀ b₀ c₀ = true ∧ Builtin.Range.rangeSize a₀ b₀ c₀ = (n : Int) ∧ n ≤ 1000 ∧ Fr h₀ L s₁.heap m ∧ News h₀ L s₁.heap news ∧
      TestC prog w A .int env scope cl x ifs pz (rangeInts a₀ c₀ n) s₁.heap ∧ EltC prog w A .int env scope cl x elt pz dd (rangeInts a₀ c₀ n) s₁.heap ∧
      (∀ D ys k h' tk, Fr h₀ L h' (Upd m y (.ref D)) → News h₀ L h' ((D, listO ys k) :: news) → (∀ p ∈ news, p.1 ≠ D) → CarriedAll ys (((rangeInts a₀ c₀ n).filter pz).map dd) → Q .next { s₁ with heap := h', toks := tk })) E s)
    (hsw : swapsWith (.ListComp elt [⟨.Name x px, iter, ifs, 0⟩] scope pos) (some (.Name y py)) spos.line env = pure true := by rfl) (hL : env.locals = L := by rfl)
    (hclos : closureFor scope env = pure cl := by rfl) (hcell : ∀ y ∈ scope.names, y.2 ≠ .cell := by decide) (hkind : scope.kind = .function := by rfl)
    (hnames : ∀ y ∈ scope.names, y.2 = .local → scope.names.lookup y.1 = some .local := by decide) (hx : scope.names.lookup x = some .local := by rfl)
    (hy : env.kindOf y = some .local := by rfl) (hp : (env.scope.kind == .class || (env.scope.kind == .module && env.locals != env.globals)) = false := by rfl) (hs : ∀ x, foldedSetIterable iter env x = pure x := by intro _; rfl) :
    wpAny (model prog w) A (exec (.Assign [.Name y py] (.ListComp elt [⟨.Name x px, iter, ifs, 0⟩] scope pos) spos) env) Q E s := by
  refine Assign_ListComp_DCr (pz := pz) (d := dd) (h₀ := h₀) (L := L) (m := m) hsw hL hh hclos hcell hkind hnames hx hy hp (wpAny_mono h (fun xv s₁ h₁ => ?_) fun _ _ e => e) hs
  refine holdG fun Pz kz => ?_
  obtain ⟨nw, r, a₀, b₀, c₀, t₀, u₀, v₀, n, rfl, hr, h1, h2, hsz, F, N, ht, he, hQ⟩ := h₁
  refine kz ?_
  clear kz Pz
  refine ⟨nw, r, a₀, b₀, c₀, t₀, u₀, v₀, n, rfl, hr, h1, h2, Nat.le_trans hsz (by rw [sizeLine_eq]; decide), F, N, fr_comp ht, fr_elt he, fun D ys h' tk F' N' hD _ hp hc => ?_⟩
  obtain ⟨k, N2, hne⟩ := news_comp F' N' hD hp
  exact hQ D ys k h' tk F' N2 hne hc
end
end
theorem nget {h₀ h : Heap} {L a : Addr} {o : Obj} {nw : List (Addr × Obj)} (N : News h₀ L h nw) (hm : (a, o) ∈ nw) : h.get? a = some o := (N _ hm).1
local macro_rules | `(tactic| k_allIn) => `(tactic| first | exact List.Mem.head _ | (refine List.Mem.tail _ ?_; k_allIn))
local macro_rules | `(tactic| k_ownIn) => `(tactic| refine nm_cell rfl (nget (by assumption) (by k_allIn)) (by assumption) ?_)
section
open PySem PySem.W PyProof.Rows PySem.Calls PySem.Spec
set_option maxHeartbeats 2000000
noncomputable def cntS (bs : List Str) (l : Str) (s : Nat) : Nat := ((bs.map fun b => (col b s : Int)).filter fun c => decide (c < (col l s : Int))).length
noncomputable def fitS (bs : List Str) (l : Str) (s : Nat) : Bool := match (bs.map fun b => (col b s : Int))[cntS bs l s]? with
  | none => true
  | some c => decide (c = (col l s : Int))
theorem plain_at (P : Params) : (KN P).lookup 250 = some (hd.zo_193 P) := by kernel_rfl
noncomputable abbrev fPlain (P : Params) : FuncData := fnIn? (hd.zo_193 P)
noncomputable abbrev envPlain (P : Params) (L : Addr) : Env := callEnvC (fPlain P) L 250
noncomputable def outerOf : List Stmt → List Stmt
  | [_, _, _, .For _ _ b _ _, _] => b
  | _ => []
noncomputable def innerOf : List Stmt → List Stmt
  | _ :: _ :: .For _ _ b _ _ :: _ => b
  | _ => []
noncomputable abbrev outerB (P : Params) : List Stmt := outerOf (bodyOf (fPlain P))
noncomputable abbrev innerB (P : Params) : List Stmt := innerOf (outerB P)
noncomputable def AD (L bl cl : Addr) (ot : List (Addr × Obj)) : List Addr := (L + 1) :: (L + 2) :: (L + 3) :: (L + 4) :: (L + 5) :: bl :: cl :: ot.map (·.1)
noncomputable def Off (L : Addr) (ot : List (Addr × Obj)) : Prop := ∀ p ∈ ot, p.1 ≠ L + 1 ∧ p.1 ≠ L + 2 ∧ p.1 ≠ L + 3 ∧ p.1 ≠ L + 4 ∧ p.1 ≠ L + 5
theorem strs_are {vs : List Value} {ys : List Str} (h : StrsAre vs ys) : AreOf .str vs ys := by
  induction h with
  | nil => exact .nil
  | cons a t _ ih => exact .cons ⟨t, rfl⟩ ih
theorem ints_take : ∀ {vs : List Value} {as : List Int} (k : Nat), IntsAre vs as → IntsAre (vs.take k) (as.take k)
  | _, _, 0, _ => by simp; exact .nil
  | _, _, _ + 1, .nil => .nil
  | _, _, k + 1, .cons a t h => .cons a t (ints_take k h)
theorem ints_drop : ∀ {vs : List Value} {as : List Int} (k : Nat), IntsAre vs as → IntsAre (vs.drop k) (as.drop k)
  | _, _, 0, h => h
  | _, _, _ + 1, .nil => .nil
  | _, _, k + 1, .cons _ _ h => ints_drop k h
theorem permD {α : Type} {p a b c d e f k x y : α} {ot jk : List α} (h : p ∈ a :: b :: c :: d :: e :: f :: k :: (ot ++ (jk ++ [x, y]))) : p ∈ jk ++ (k :: x :: y :: a :: b :: c :: d :: e :: f :: ot) := by
  have key : ∀ q0, q0 ∈ a :: b :: c :: d :: e :: f :: k :: (ot ++ (jk ++ [x, y])) → q0 ∈ jk ++ (k :: x :: y :: a :: b :: c :: d :: e :: f :: ot) := by
    clear h
    refine fm_app (k := [a, b, c, d, e, f]) ?_ ?_
    · exact fun p q => (List.mem_append_right _ (.tail _ (.tail _ (.tail _ (List.mem_append_left _ q)))))
    refine fm_cons ?_ ?_
    · exact (List.mem_append_right _ (.head _))
    refine fm_app ?_ ?_
    · exact fun p q => (List.mem_append_right _ (.tail _ (.tail _ (.tail _ (List.mem_append_right [a, b, c, d, e, f] q)))))
    refine fm_app ?_ ?_
    · exact fun p q => (List.mem_append_left _ q)
    refine fm_cons ?_ ?_
    · exact (List.mem_append_right _ (.tail _ (.head _)))
    refine fm_cons ?_ ?_
    · exact (List.mem_append_right _ (.tail _ (.tail _ (.head _))))
    exact fun p q => nomatch q
  exact key p h
theorem slice_one (vs : List Value) (c : Nat) : (slicePick vs.toArray (some (c : Int)) (some ((c : Int) + 1)) none).toList = (vs.drop c).take 1 := by
  rw [show ((c : Int) + 1) = ((c + 1 : Nat) : Int) by (first | lia | omega), slicePick_plain]
  simp only [Option.elim, clipAt_nat, List.size_toArray]
  rcases Nat.lt_or_ge c vs.length with hc | hc
  · rw [Nat.min_eq_left (by (first | lia | omega)), Nat.min_eq_left (by (first | lia | omega)), Nat.add_sub_cancel_left]
  · rw [List.drop_eq_nil_of_le hc, Nat.min_eq_right (by (first | lia | omega)), Nat.min_eq_right (by (first | lia | omega))]
    simp
theorem permA {L bl cl D2 D q : Addr} {ot : List Addr} (h : q ∈ (L + 1) :: (L + 2) :: (L + 3) :: (L + 4) :: (L + 5) :: bl :: cl :: ot) : q ∈ cl :: D2 :: D :: (L + 1) :: (L + 2) :: (L + 3) :: (L + 4) :: (L + 5) :: bl :: ot := by
  have key : ∀ q0, q0 ∈ (L + 1) :: (L + 2) :: (L + 3) :: (L + 4) :: (L + 5) :: bl :: cl :: ot → q0 ∈ cl :: D2 :: D :: (L + 1) :: (L + 2) :: (L + 3) :: (L + 4) :: (L + 5) :: bl :: ot := by
    clear h
    refine fm_app (k := [L + 1, L + 2, L + 3, L + 4, L + 5, bl]) ?_ ?_
    · exact fun p q => (.tail _ (.tail _ (.tail _ (List.mem_append_left _ q))))
    refine fm_cons ?_ ?_
    · exact (.head _)
    exact fun p q => (.tail _ (.tail _ (.tail _ (List.mem_append_right [L + 1, L + 2, L + 3, L + 4, L + 5, bl] q))))
  exact key q h
theorem fit_eq (cols : List Int) (c : Nat) (x : Int) : (([PyData.list [], PyData.list [PyData.int x]] : List PyData).any fun y => PyData.eqv y (.list (((cols.drop c).take 1).map PyData.int))) = match cols[c]? with | none => true | some k => decide (k = x) := by
  cases e : cols[c]? with
  | none =>
    have : cols.drop c = [] := List.drop_eq_nil_of_le (List.getElem?_eq_none_iff.mp e)
    rw [this]
    rfl
  | some k =>
    obtain ⟨hl, e'⟩ := List.getElem?_eq_some_iff.mp e
    have : (cols.drop c).take 1 = [k] := by rw [List.drop_eq_getElem_cons hl, e']; rfl
    rw [this]
    simp [PyData.eqv, PyData.eqvAll]
    exact decide_eq_decide.mpr eq_comm
section
variable {w : World} {A : Around} {E : Value → Shared → Prop} {h : Heap} {g : Array GenState} {d : Drawn} {tk : Nat} {os : OsState} {mg mb : Str → Option Value}
theorem inner_turn {hb : Heap} {L bl cl : Addr} {bvs cvs : List Value} {bn cn : Nat} {bs : List Str} {l : Str} {tl tv : Tok} {s : Nat} {b0 : Bool} {m : Str → Option Value} {oB oL oS oH oM : Obj} {ot : List (Addr × Obj)} {vH : Option Value} {Q : Flow → Shared → Prop}
    (B : Bs w mg mb hb) (R : Rm A 8) (hs : 1 ≤ s) (hlm : l.cps.size < 50) (hbm : ∀ b ∈ bs, b.cps.size < 50) (hbl : bs.length ≤ 20)
    (F : Fr hb L h m) (N : News hb L h ((L + 1, oB) :: (L + 2, oL) :: (L + 3, oS) :: (L + 4, oH) :: (L + 5, oM) :: (bl, listO bvs bn) :: (cl, listO cvs cn) :: ot))
    (hB : oB.data = .cell (some (.ref bl))) (hL : oL.data = .cell (some (.str l tl))) (hS : oS.data = .cell (some (.int s tv))) (hH : oH.data = .cell vH)
    (hbs : StrsAre bvs bs) (hcl : cvs.length ≤ 20) (ho : Off L ((bl, listO bvs bn) :: (cl, listO cvs cn) :: ot)) (hcb : cl ≠ bl) (hct : ∀ p ∈ ot, p.1 ≠ cl)
    (hmc : m ⟨⟨[99, 111, 117, 110, 116, 115]⟩⟩ = some (.ref cl)) (hmf : m ⟨⟨[102, 105, 116, 115]⟩⟩ = some (.bool b0))
    (hQ : ∀ h' tk' m' oH' cn' t jk, Fr hb L h' m' → News hb L h' ((L + 1, oB) :: (L + 2, oL) :: (L + 3, oS) :: (L + 4, oH') :: (L + 5, oM) :: (bl, listO bvs bn) :: (cl, listO (cvs ++ [.int (cntS bs l s) t]) cn') :: (ot ++ jk)) → (∃ v, oH'.data = .cell v) →
      (∀ p ∈ jk, p.1 ∉ AD L bl cl ot) → (∀ x, x ≠ ⟨⟨[99, 111, 108, 117, 109, 110, 115]⟩⟩ → x ≠ ⟨⟨[99, 111, 117, 110, 116]⟩⟩ → x ≠ ⟨⟨[102, 105, 116, 115]⟩⟩ → m' x = m x) → m' ⟨⟨[102, 105, 116, 115]⟩⟩ = some (.bool (b0 && fitS bs l s)) → Q .next ⟨h', g, d, tk', os⟩) :
    wpAny (MM w) A (execs (innerB w.params) (envPlain w.params L)) Q E ⟨h, g, d, tk, os⟩ := by
  have hh := R.hd
  refine seq ?_
  refine comp_a (K := .str) (cl := [(⟨⟨[115, 105, 122, 101]⟩⟩, L + 3)]) (pz := fun _ => true) (dd := fun b => .int (col b s)) (h₀ := hb) (L := L) (m := m) hh ?_
  k_ownIn
  refine comp_end F N (isl N (by k_allIn : (bl, listO bvs bn) ∈ _) (listIs_O _ _)) (strs_are hbs) (by (first | lia | omega)) test_nil ?_ ?_
  · rintro C a v h2 g2 d2 tk2 os2 m₂ E' ha ⟨t, rfl⟩ _ F2 hm
    have B2 := B.ext F.keep
    have oS2 := F2.keep _ _ (nget N (by k_allIn : (L + 3, oS) ∈ _))
    repeat kbo_bools
    refine nm_cell rfl oS2 hS ?_
    repeat kbo_bools
    refine col_ok (B2.ext F2.keep) (R.le (by decide)) (hbm a ha) hs (fun h3 t3 tk3 X3 => ⟨.int _ _, keeps_of X3⟩)
  intro D ys n h1 tk1 F1 N1 hne1 hc1
  rw [List.filter_eq_self.mpr (fun _ _ => rfl)] at hc1
  have hi1 : IntsAre ys (bs.map fun b => (col b s : Int)) := hc1.intsOf
  have hl1 : ys.length = bs.length := by rw [ints_len hi1, List.length_map]
  have hD : D ≠ L + 1 ∧ D ≠ L + 2 ∧ D ≠ L + 3 ∧ D ≠ L + 4 ∧ D ≠ L + 5 ∧ D ≠ bl ∧ D ≠ cl :=
    ⟨(hne1 (L + 1, oB) (by k_allIn)).symm, (hne1 (L + 2, oL) (by k_allIn)).symm, (hne1 (L + 3, oS) (by k_allIn)).symm, (hne1 (L + 4, oH) (by k_allIn)).symm, (hne1 (L + 5, oM) (by k_allIn)).symm, (hne1 (bl, listO bvs bn) (by k_allIn)).symm, (hne1 (cl, listO cvs cn) (by k_allIn)).symm⟩
  repeat kbo_bools
  k_ownIn
  repeat kbo_bools
  k_ownIn
  repeat kbo_bools
  refine col_ok (B.ext F1.keep) (R.le (by decide)) hlm hs (fun h2 t2 tk2 X2 => ?_)
  have F2 := fr_ext F1 X2
  have N2 := nw_ext N1 X2
  repeat kbo_bools
  refine st_c (pre := [(D, listO ys n), (L + 1, oB), (L + 2, oL), (L + 3, oS)]) (post := (L + 5, oM) :: (bl, listO bvs bn) :: (cl, listO cvs cn) :: ot) F2 N2 hH (fun p hp => ?_) (fun p hp => ?_) (fun h3 oH' F3 N3 hH' => ?_)
  · simp only [List.mem_cons, List.mem_nil_iff, or_false] at hp
    rcases hp with rfl | rfl | rfl | rfl
    · exact hD.2.2.2.1
    · exact fun e => absurd (Nat.add_left_cancel (n := L) (m := 1) (k := 4) e) (by decide)
    · exact fun e => absurd (Nat.add_left_cancel (n := L) (m := 2) (k := 4) e) (by decide)
    · exact fun e => absurd (Nat.add_left_cancel (n := L) (m := 3) (k := 4) e) (by decide)
  · revert p hp
    refine fm_cons ?_ ?_
    · exact fun e => absurd (Nat.add_left_cancel (n := L) (m := 5) (k := 4) e) (by decide)
    intro p hp
    · exact (ho p hp).2.2.2.1
  replace N3 : News hb L h3 ((D, listO ys n) :: (L + 1, oB) :: (L + 2, oL) :: (L + 3, oS) :: (L + 4, oH') :: (L + 5, oM) :: (bl, listO bvs bn) :: (cl, listO cvs cn) :: ot) := N3
  repeat kbo_bools
  refine comp_e (K := .int) (cl := [(⟨⟨[104, 101, 114, 101]⟩⟩, L + 4)]) (pz := fun c => decide (c < (col l s : Int))) (dd := fun c => .int c) (h₀ := hb) (L := L) (m := Upd m ⟨⟨[99, 111, 108, 117, 109, 110, 115]⟩⟩ (.ref D)) hh ?_
  repeat kbo_bools
  refine comp_end F3 N3 (isl N3 (by k_allIn : (D, listO ys n) ∈ _) (listIs_O _ _)) hi1.areOf (by rw [List.length_map]; (first | lia | omega)) ?_ ?_ ?_
  · rintro C a v h4 g4 d4 tk4 os4 m₂ E' ha ⟨t, rfl⟩ F4 hm
    have B4 := B.ext F3.keep
    have oH4 := F4.keep _ _ (nget N3 (by k_allIn : (L + 4, oH') ∈ _))
    refine wpAny_tests_one ?_
    repeat kbo_bools
    refine nm_cell rfl oH4 hH' ?_
    repeat kbo_bools
    exact ⟨rfl, keeps_of fun _ _ e => e⟩
  · rintro C a v h4 g4 d4 tk4 os4 m₂ E' ha ⟨t, rfl⟩ _ F4 hm
    repeat kbo_bools
    exact ⟨.int _ _, keeps_of fun _ _ e => e⟩
  intro D2 ys2 n2 h4 tk4 F4 N4 hne4 hc4
  have hi4 : IntsAre ys2 (((bs.map fun b => (col b s : Int)).filter fun c => decide (c < (col l s : Int))).map fun c => c) := hc4.intsOf
  have hl4 : ys2.length = cntS bs l s := by rw [ints_len hi4, List.length_map]; rfl
  have hcle : cntS bs l s ≤ bs.length := by
    unfold cntS
    refine Nat.le_trans (List.length_filter_le _ _) (by rw [List.length_map]; exact Nat.le_refl _)
  repeat kbo_bools
  refine b_len_list (isl N4 (by k_allIn : (D2, listO ys2 n2) ∈ _) (listIs_O _ _)) (by rw [List.size_toArray]; (first | lia | omega)) (fun t5 tk5 => ?_)
  rw [show (ys2.toArray.size : Int) = (cntS bs l s : Int) by rw [List.size_toArray, hl4]]
  repeat kbo_bools
  rename_i h5 tk5 F5 N5
  refine m_append N5 (by k_allIn : (cl, listO cvs cn) ∈ _) rfl rfl ?_
  repeat kbo_bools
  have hD2 : D2 ≠ cl := (hne4 (cl, listO cvs cn) (by k_allIn)).symm
  refine l_append (rest := (D2, listO ys2 n2) :: (D, listO ys n) :: (L + 1, oB) :: (L + 2, oL) :: (L + 3, oS) :: (L + 4, oH') :: (L + 5, oM) :: (bl, listO bvs bn) :: ot) F5 N5 (by k_allIn : (cl, listO cvs cn) ∈ _) (by (first | lia | omega)) (fun p hp => ?_) (fun h6 cn' F6 N6 _ => ?_)
  · have hoc := ho (cl, listO cvs cn) (by k_allIn)
    simp only [List.mem_cons] at hp ⊢
    rcases hp with rfl | rfl | rfl | rfl | rfl | rfl | rfl | rfl | hp
    · exact ⟨.inl rfl, hD2⟩
    · exact ⟨.inr (.inl rfl), hD.2.2.2.2.2.2⟩
    · exact ⟨.inr (.inr (.inl rfl)), hoc.1.symm⟩
    · exact ⟨.inr (.inr (.inr (.inl rfl))), hoc.2.1.symm⟩
    · exact ⟨.inr (.inr (.inr (.inr (.inl rfl)))), hoc.2.2.1.symm⟩
    · exact ⟨.inr (.inr (.inr (.inr (.inr (.inl rfl))))), hoc.2.2.2.1.symm⟩
    · exact ⟨.inr (.inr (.inr (.inr (.inr (.inr (.inl rfl)))))), hoc.2.2.2.2.symm⟩
    · exact ⟨.inr (.inr (.inr (.inr (.inr (.inr (.inr (.inl rfl))))))), hcb.symm⟩
    · exact ⟨.inr (.inr (.inr (.inr (.inr (.inr (.inr (.inr (.inr hp)))))))), hct p hp⟩
  repeat kbo_bools
  have hfin : ∀ b : Bool, b = (b0 && fitS bs l s) → ∀ h7 tk7 jk, Fr hb L h7 (Upd (Upd m ⟨⟨[99, 111, 108, 117, 109, 110, 115]⟩⟩ (.ref D)) ⟨⟨[99, 111, 117, 110, 116]⟩⟩ (.int (cntS bs l s) t5)) → News hb L h7 (jk ++ ((cl, listO (cvs ++ [.int (cntS bs l s) t5]) cn') :: (D2, listO ys2 n2) :: (D, listO ys n) :: (L + 1, oB) :: (L + 2, oL) :: (L + 3, oS) :: (L + 4, oH') :: (L + 5, oM) :: (bl, listO bvs bn) :: ot)) →
      (∀ p ∈ jk, p.1 ∉ AD L bl cl ot) → wpAny (MM w) A (storeName (envPlain w.params L) ⟨⟨[102, 105, 116, 115]⟩⟩ (.bool b)) (fun _ => Sq (MM w) A [] (envPlain w.params L) Q E Flow.next) E ⟨h7, g, d, tk7, os⟩ := by
    intro b hb' h7 tk7 jk F7 N7 hj1
    repeat kbo_bools
    rename_i h8 tk8 F8 N8
    have hoD : ∀ p ∈ [(D2, listO ys2 n2), (D, listO ys n)], p.1 ∉ AD L bl cl ot := fun p hp hq => by
      rcases List.mem_cons.mp hp with rfl | hp
      · obtain ⟨p, hp, e⟩ := List.mem_map.mp (show D2 ∈ ((L + 1, oB) :: (L + 2, oL) :: (L + 3, oS) :: (L + 4, oH') :: (L + 5, oM) :: (bl, listO bvs bn) :: (cl, listO cvs cn) :: ot).map (·.1) from hq)
        exact hne4 p (.tail _ hp) e
      · rw [List.mem_singleton.mp hp] at hq
        obtain ⟨p, hp, e⟩ := List.mem_map.mp (show D ∈ ((L + 1, oB) :: (L + 2, oL) :: (L + 3, oS) :: (L + 4, oH) :: (L + 5, oM) :: (bl, listO bvs bn) :: (cl, listO cvs cn) :: ot).map (·.1) from hq)
        exact hne1 p hp e
    refine hQ h8 tk8 _ oH' cn' t5 (jk ++ [(D2, listO ys2 n2), (D, listO ys n)]) F8 (news_sub N8 (fun p hp => ?_)) ?_ (fun p hp => ?_) ?_ ?_
    · exact permD hp
    · exact ⟨_, hH'⟩
    · exact (List.mem_append.mp hp).elim (hj1 p) (hoD p)
    · intro x h1 h2 h3
      show (if x = _ then _ else if x = _ then _ else if x = _ then _ else m x) = m x
      rw [if_neg h3, if_neg h2, if_neg h1]
    · rw [← hb']; exact upd_self
  refine BoolOp_and ?_
  repeat kbo_bools
  refine ifB (fun hb1 => ?_) (fun hb1 => ?_)
  · refine BoolOp_one ?_
    refine wpAny_Compare1 ?_
    refine sub_slice ?_
    repeat kbo_bools
    rw [evalPart_some]
    repeat kbo_bools
    rw [evalPart_some]
    repeat kbo_bools
    refine slice_end F6 N6 (isl N6 (by k_allIn : (D, listO ys n) ∈ _) (listIs_O _ _)) (by rw [List.size_toArray]; (first | lia | omega)) (.int _ _) (.int _ _) (fun sl h7 F7 N7 hl7 X7 => ?_)
    repeat kbo_bools
    refine al_list F7 N7 (by decide) (fun e1 h8 F8 N8 hl8 X8 _ => ?_)
    repeat kbo_bools
    k_ownIn
    repeat kbo_bools
    refine al_list F8 N8 (by show 1 ≤ 1000; decide) (fun e2 h9 F9 N9 hl9 X9 _ => ?_)
    repeat kbo_bools
    refine al_tup F9 N9 (by show 2 ≤ 1000; decide) (fun T h10 F10 N10 hl10 X10 _ => ?_)
    repeat kbo_bools
    have hX9 : Ext h7 h10 := X8.trans (X9.trans X10)
    have eT := nget N10 (by k_allIn : (T, tupO [.ref e1, .ref e2]) ∈ _)
    have ee2 := nget N10 (by k_allIn : (e2, listO [.int (col l s) t2] 0) ∈ _)
    have ee1 := nget N10 (by k_allIn : (e1, listO [] 0) ∈ _)
    have esl := nget N10 (by k_allIn : (sl, _) ∈ _)
    have hsl : (slicePick ys.toArray (some (cntS bs l s : Int)) (some ((cntS bs l s : Int) + 1)) none).toList = (ys.drop (cntS bs l s)).take 1 := slice_one _ _
    rw [hsl] at esl
    have hia : IntsAre ((ys.drop (cntS bs l s)).take 1) (((bs.map fun b => (col b s : Int)).drop (cntS bs l s)).take 1) := ints_take 1 (ints_drop _ hi1)
    refine PySem.SeqAt.in_tuple_reads (s := ⟨h10, g, d, _, os⟩) (xs := [.list [], .list [.int (col l s)]]) (.tuple eT rfl rfl (.cons (.list ee1 rfl rfl .nil) (.cons (.list ee2 rfl rfl (.cons (.int _ _) .nil)) .nil))) (.list esl rfl rfl (ints_reads _ hia)) rfl (lay_ints _) ?_ ?_
    · have := R.un
      have hd : PyData.depthAll [.list [], .list [.int (col l s)]] ≤ 5 := by simp [PyData.depthAll, PyData.depth]
      (first | lia | omega)
    · rw [fit_eq]
      refine hfin _ (by rw [hb1]; rfl) h10 _ [(T, tupO [.ref e1, .ref e2]), (e2, listO [.int (col l s) t2] 0), (e1, listO [] 0), (sl, _)] F10 N10 (fun p hp hq => ?_)
      have hq2 : p.1 ∈ ((cl, listO (cvs ++ [.int (cntS bs l s) t5]) cn') :: (D2, listO ys2 n2) :: (D, listO ys n) :: (L + 1, oB) :: (L + 2, oL) :: (L + 3, oS) :: (L + 4, oH') :: (L + 5, oM) :: (bl, listO bvs bn) :: ot).map (·.1) := permA hq
      obtain ⟨q, hqm, hqe⟩ := List.mem_map.mp hq2
      simp only [List.mem_cons, List.mem_nil_iff, or_false] at hp
      rcases hp with rfl | rfl | rfl | rfl
      · exact Nat.ne_of_lt (hl10 q (.tail _ (.tail _ (.tail _ hqm)))) hqe
      · exact Nat.ne_of_lt (hl9 q (.tail _ (.tail _ hqm))) hqe
      · exact Nat.ne_of_lt (hl8 q (.tail _ hqm)) hqe
      · exact Nat.ne_of_lt (hl7 q hqm) hqe
  · exact hfin b0 (by rw [hb1]; rfl) _ _ [] F6 N6 (fun _ hp => (nomatch hp))
end
end
section
open PySem PySem.W PyProof.Rows PySem.Calls PySem.Spec
set_option maxHeartbeats 2000000
noncomputable def thirdOf : List Stmt → Stmt
  | _ :: _ :: s :: _ => s
  | _ => .Pass default
noncomputable abbrev innerF (P : Params) : Stmt := thirdOf (outerB P)
theorem ad_off {L bl cl : Addr} {ot jk : List (Addr × Obj)} (h : ∀ p ∈ jk, p.1 ∉ AD L bl cl ot) : Off L jk ∧ (∀ p ∈ jk, p.1 ≠ cl) ∧ ∀ p ∈ jk, p.1 ≠ bl := by
  refine ⟨fun p hp => ?_, fun p hp => ?_, fun p hp => ?_⟩
  · have := h p hp
    simp only [AD, List.mem_cons, not_or] at this
    exact ⟨this.1, this.2.1, this.2.2.1, this.2.2.2.1, this.2.2.2.2.1⟩
  · have := h p hp
    simp only [AD, List.mem_cons, not_or] at this
    exact this.2.2.2.2.2.2.1
  · have := h p hp
    simp only [AD, List.mem_cons, not_or] at this
    exact this.2.2.2.2.2.1
theorem perm2a {α : Type} {p a b c d e f k : α} {ot jk fo : List α} (h : p ∈ a :: b :: c :: d :: e :: f :: k :: ((ot ++ jk) ++ fo)) : p ∈ fo ++ (a :: b :: c :: d :: e :: f :: k :: (ot ++ jk)) := app_swap (u := a :: b :: c :: d :: e :: f :: k :: (ot ++ jk)) h
theorem perm2b {α : Type} {p a b c d e f k : α} {ot jk fo jk2 : List α} (h : p ∈ fo ++ (a :: b :: c :: d :: e :: f :: k :: (ot ++ (jk ++ jk2)))) : p ∈ a :: b :: c :: d :: e :: f :: k :: (((ot ++ jk) ++ fo) ++ jk2) := by
  have key : ∀ q0, q0 ∈ fo ++ (a :: b :: c :: d :: e :: f :: k :: (ot ++ (jk ++ jk2))) → q0 ∈ a :: b :: c :: d :: e :: f :: k :: (((ot ++ jk) ++ fo) ++ jk2) := by
    clear h
    refine fm_app ?_ ?_
    · exact fun p q => (List.mem_append_right [a, b, c, d, e, f, k] (List.mem_append_left _ (List.mem_append_right _ q)))
    refine fm_app (k := [a, b, c, d, e, f, k]) ?_ ?_
    · exact fun p q => (List.mem_append_left _ q)
    refine fm_app ?_ ?_
    · exact fun p q => (List.mem_append_right [a, b, c, d, e, f, k] (List.mem_append_left _ (List.mem_append_left _ (List.mem_append_left _ q))))
    refine fm_app ?_ ?_
    · exact fun p q => (List.mem_append_right [a, b, c, d, e, f, k] (List.mem_append_left _ (List.mem_append_left _ (List.mem_append_right _ q))))
    exact fun p q => (List.mem_append_right [a, b, c, d, e, f, k] (List.mem_append_right _ q))
  exact key p h
theorem perm2c {α : Type} {p a b c d e f k T : α} {ot : List α} (h : p ∈ a :: b :: c :: d :: e :: f :: k :: (ot ++ [T])) : p ∈ T :: (a :: b :: c :: d :: e :: f :: k :: ot) := by
  have key : ∀ q0, q0 ∈ a :: b :: c :: d :: e :: f :: k :: (ot ++ [T]) → q0 ∈ T :: (a :: b :: c :: d :: e :: f :: k :: ot) := by
    clear h
    refine fm_app (k := [a, b, c, d, e, f, k]) ?_ ?_
    · exact fun p q => (.tail _ (List.mem_append_left _ q))
    refine fm_app ?_ ?_
    · exact fun p q => (.tail _ (List.mem_append_right [a, b, c, d, e, f, k] q))
    refine fm_cons ?_ ?_
    · exact (.head _)
    exact fun p q => nomatch q
  exact key p h
theorem ad_app {L bl cl : Addr} {ot jk : List (Addr × Obj)} {a : Addr} (h : a ∉ AD L bl cl (ot ++ jk)) : a ∉ AD L bl cl ot := fun q => h (by
  simp only [AD, List.mem_cons, List.map_append, List.mem_append] at q ⊢
  grind)
theorem ad_fo {L bl cl : Addr} {ot jk : List (Addr × Obj)} {a : Addr} (h : a ∉ AD L bl cl (ot ++ jk)) : ∀ p ∈ jk, p.1 ≠ a := fun p hp e => h (by
  simp only [AD, List.mem_cons, List.map_append, List.mem_append]
  have : a ∈ jk.map (·.1) := List.mem_map.mpr ⟨p, hp, e⟩
  grind)
noncomputable def cntI (bs : List Str) (l : Str) (i : Nat) : List Int := (List.range i).map fun k => (cntS bs l (k + 1) : Int)
noncomputable def fitI (bs : List Str) (l : Str) (i : Nat) : Bool := (List.range i).all fun k => fitS bs l (k + 1)
theorem ints_snoc {vs : List Value} {as : List Int} {a : Int} {t : Tok} (h : IntsAre vs as) : IntsAre (vs ++ [.int a t]) (as ++ [a]) := by
  induction h with
  | nil => exact .cons _ _ .nil
  | cons a b _ ih => exact .cons _ _ ih
section
variable {w : World} {A : Around} {E : Value → Shared → Prop} {h : Heap} {g : Array GenState} {d : Drawn} {tk : Nat} {os : OsState} {mg mb : Str → Option Value}
/-- what the inner loop holds -/
noncomputable def InP (hb : Heap) (L bl cl : Addr) (bvs : List Value) (bn : Nat) (bs : List Str) (l : Str) (oB oL oM : Obj) (ot : List (Addr × Obj)) (m0 : Str → Option Value) (g0 : Array GenState) (i : Nat) (g : Array GenState) (m : Str → Option Value) (nw : List (Addr × Obj)) : Prop :=
  g = g0 ∧ ∃ oS oH cvs cn jk, nw = (L + 1, oB) :: (L + 2, oL) :: (L + 3, oS) :: (L + 4, oH) :: (L + 5, oM) :: (bl, listO bvs bn) :: (cl, listO cvs cn) :: (ot ++ jk) ∧ (∃ v, oS.data = .cell v) ∧ (∃ v, oH.data = .cell v) ∧ IntsAre cvs (cntI bs l i) ∧ (∀ p ∈ jk, p.1 ∉ AD L bl cl ot) ∧
    (∀ x, x ≠ ⟨⟨[99, 111, 108, 117, 109, 110, 115]⟩⟩ → x ≠ ⟨⟨[99, 111, 117, 110, 116]⟩⟩ → x ≠ ⟨⟨[102, 105, 116, 115]⟩⟩ → m x = m0 x) ∧ m ⟨⟨[102, 105, 116, 115]⟩⟩ = some (.bool (fitI bs l i))
theorem inner_for {hb : Heap} {L bl cl : Addr} {bvs : List Value} {bn cn : Nat} {bs : List Str} {l : Str} {tl : Tok} {m : Str → Option Value} {oB oL oS oH oM : Obj} {ot : List (Addr × Obj)} {vS vH : Option Value} {Q : Flow → Shared → Prop}
    (B : Bs w mg mb hb) (R : Rm A 8) (hlm : l.cps.size < 50) (hbm : ∀ b ∈ bs, b.cps.size < 50) (hbl : bs.length ≤ 20)
    (F : Fr hb L h m) (N : News hb L h ((L + 1, oB) :: (L + 2, oL) :: (L + 3, oS) :: (L + 4, oH) :: (L + 5, oM) :: (bl, listO bvs bn) :: (cl, listO [] cn) :: ot))
    (hB : oB.data = .cell (some (.ref bl))) (hL : oL.data = .cell (some (.str l tl))) (hS : oS.data = .cell vS) (hH : oH.data = .cell vH)
    (hbs : StrsAre bvs bs) (ho : Off L ((bl, listO bvs bn) :: (cl, listO [] cn) :: ot)) (hcb : cl ≠ bl) (hct : ∀ p ∈ ot, p.1 ≠ cl)
    (hmc : m ⟨⟨[99, 111, 117, 110, 116, 115]⟩⟩ = some (.ref cl)) (hmf : m ⟨⟨[102, 105, 116, 115]⟩⟩ = some (.bool true))
    (hQ : ∀ h' tk' m' nw', Fr hb L h' m' → News hb L h' nw' → InP hb L bl cl bvs bn bs l oB oL oM ot m g 3 g m' nw' → Q .next ⟨h', g, d, tk', os⟩) :
    wpAny (MM w) A (exec (innerF w.params) (envPlain w.params L)) Q E ⟨h, g, d, tk, os⟩ := by
  have hh := R.hd
  refine wpAny_For ?_
  repeat kbo_bools
  refine al_tup F N (by show 3 ≤ 1000; decide) (fun T h1 F1 N1 hl1 X1 _ => ?_)
  rename_i t1 _ t2 _ t3 tk1
  have hT := nget N1 (.head _)
  have hTne : ∀ q ∈ AD L bl cl ot, q ≠ T := fun q hq => by
    obtain ⟨p, hp, e⟩ := List.mem_map.mp (show q ∈ ((L + 1, oB) :: (L + 2, oL) :: (L + 3, oS) :: (L + 4, oH) :: (L + 5, oM) :: (bl, listO bvs bn) :: (cl, listO [] cn) :: ot).map (·.1) from hq)
    exact fun e' => Nat.ne_of_lt (hl1 p hp) (e.trans e')
  refine for_tupA (InP hb L bl cl bvs bn bs l oB oL oM ot m g) hh (isTup_of hT) (N1 _ (.head _)).2.1 F1 (news_sub N1 (l' := (L + 1, oB) :: (L + 2, oL) :: (L + 3, oS) :: (L + 4, oH) :: (L + 5, oM) :: (bl, listO bvs bn) :: (cl, listO [] cn) :: (ot ++ [(T, _)])) (fun p hp => perm2c hp)) ⟨rfl, oS, oH, [], cn, [(T, _)], rfl, ⟨_, hS⟩, ⟨_, hH⟩, .nil, ?_, fun _ _ _ _ => rfl, hmf⟩ ?_ ?_
  · intro p hp
    rw [List.mem_singleton.mp hp]
    exact fun q => hTne _ q rfl
  · rintro i v g' m' nw' h2 tk2 E2 fo I hv ⟨rfl, oS', oH', cvs, cn', jk, rfl, ⟨vS', hS'⟩, ⟨vH', hH'⟩, hi, hj, hk, hf⟩ hne F2 N2 ⟨oI, hoI⟩ hfk
    have hv' : i < 3 ∧ ∃ tv, v = .int ((i + 1 : Nat) : Int) tv := by
      match i, hv with
      | 0, hv => cases hv; exact ⟨by decide, _, rfl⟩
      | 1, hv => cases hv; exact ⟨by decide, _, rfl⟩
      | 2, hv => cases hv; exact ⟨by decide, _, rfl⟩
    obtain ⟨hi3, tv, rfl⟩ := hv'
    have N2' := news_sub N2 (l' := (L + 1, oB) :: (L + 2, oL) :: (L + 3, oS') :: (L + 4, oH') :: (L + 5, oM) :: (bl, listO bvs bn) :: (cl, listO cvs cn') :: ((ot ++ jk) ++ fo)) (fun p hp => perm2a hp)
    have hI : ∀ q ∈ AD L bl cl (ot ++ jk), q ≠ I := fun q hq => by
      obtain ⟨p, hp, e⟩ := List.mem_map.mp (show q ∈ ((L + 1, oB) :: (L + 2, oL) :: (L + 3, oS') :: (L + 4, oH') :: (L + 5, oM) :: (bl, listO bvs bn) :: (cl, listO cvs cn') :: (ot ++ jk)).map (·.1) from hq)
      exact fun e' => hne p hp (e.trans e')
    have hoj := ad_off hj
    have hfo : ∀ p ∈ fo, p.1 ∉ AD L bl cl ot := fun p hp hq => by
      rcases hfk p hp with e | e
      · exact hI p.1 (by simp only [AD, List.mem_cons, List.map_append, List.mem_append] at hq ⊢; grind) e
      · exact hTne _ hq e
    have hof := ad_off hfo
    have hoff : Off L ((bl, listO bvs bn) :: (cl, listO cvs cn') :: ((ot ++ jk) ++ fo)) := by
      refine fm_cons ?_ ?_
      · exact ho (bl, listO bvs bn) (.head _)
      refine fm_cons ?_ ?_
      · exact ho (cl, listO [] cn) (.tail _ (.head _))
      refine fm_app ?_ ?_
      · intro p hp
        rcases List.mem_append.mp hp with hp | hp
        · exact ho p (.tail _ (.tail _ hp))
        · exact hoj.1 p hp
      intro p hp
      · exact hof.1 p hp
    refine wpAny_assign_Name (st_c (pre := [(L + 1, oB), (L + 2, oL)]) (post := (L + 4, oH') :: (L + 5, oM) :: (bl, listO bvs bn) :: (cl, listO cvs cn') :: ((ot ++ jk) ++ fo)) F2 N2' hS' (fun p hp => ?_) (fun p hp => ?_) (fun h3 oS2 F3 N3 hS2 => ?_))
    · simp only [List.mem_cons, List.mem_nil_iff, or_false] at hp
      rcases hp with rfl | rfl
      · exact fun e => absurd (Nat.add_left_cancel (n := L) (m := 1) (k := 3) e) (by decide)
      · exact fun e => absurd (Nat.add_left_cancel (n := L) (m := 2) (k := 3) e) (by decide)
    · revert p hp
      refine fm_cons ?_ ?_
      · exact fun e => absurd (Nat.add_left_cancel (n := L) (m := 4) (k := 3) e) (by decide)
      refine fm_cons ?_ ?_
      · exact fun e => absurd (Nat.add_left_cancel (n := L) (m := 5) (k := 3) e) (by decide)
      intro p hp
      · exact (hoff p hp).2.2.1
    have hmc' : m' ⟨⟨[99, 111, 117, 110, 116, 115]⟩⟩ = some (.ref cl) := by rw [hk _ (by decide) (by decide) (by decide)]; exact hmc
    refine inner_turn (s := i + 1) B R (by (first | lia | omega)) hlm hbm hbl F3 N3 hB hL hS2 hH' hbs (by rw [ints_len hi]; simp [cntI]; (first | lia | omega)) hoff hcb (fun p hp => ?_) hmc' hf (fun h4 tk4 m4 oH4 cn4 t4 jk4 F4 N4 hH4 hj4 hk4 hf4 => ?_)
    · rcases List.mem_append.mp hp with hp | hp
      · rcases List.mem_append.mp hp with hp | hp
        · exact hct p hp
        · exact hoj.2.1 p hp
      · exact hof.2.1 p hp
    refine lp_next ⟨h4, g', tk4, m4, (L + 1, oB) :: (L + 2, oL) :: (L + 3, oS2) :: (L + 4, oH4) :: (L + 5, oM) :: (bl, listO bvs bn) :: (cl, listO (cvs ++ [.int (cntS bs l (i + 1)) t4]) cn4) :: (ot ++ (jk ++ jk4)), rfl, F4, news_sub N4 (fun p hp => perm2b hp), fun p hp hq => ?_, rfl, oS2, oH4, _, cn4, jk ++ jk4, rfl, ⟨_, hS2⟩, hH4, ?_, fun p hp => ?_, fun x h1 h2 h3 => (hk4 x h1 h2 h3).trans (hk x h1 h2 h3), ?_⟩
    · have hq' : p.1 = I := List.mem_singleton.mp hq
      have hpm : p.1 ∈ AD L bl cl (ot ++ (jk ++ jk4)) := List.mem_map.mpr ⟨p, hp, rfl⟩
      by_cases hj' : p.1 ∈ jk4.map (·.1)
      · obtain ⟨p4, hp4, e4⟩ := List.mem_map.mp hj'
        exact ad_fo (hj4 p4 hp4) (I, oI) hoI (hq'.symm.trans e4.symm)
      · refine hI p.1 ?_ hq'
        simp only [AD, List.mem_cons, List.map_append, List.mem_append] at hpm ⊢
        grind
    · unfold cntI
      rw [List.range_succ, List.map_append]
      exact ints_snoc hi
    · rcases List.mem_append.mp hp with q | q
      · exact hj p q
      · exact ad_app (ad_app (hj4 p q))
    · rw [hf4]
      unfold fitI
      rw [List.range_succ, List.all_append]
      simp
  · rintro g' m' nw' h2 tk2 ⟨rfl, hP⟩ F2 N2
    exact hQ h2 tk2 m' nw' F2 N2 ⟨rfl, hP⟩
end
end
section
open PySem PySem.W PyProof.Rows PySem.Calls PySem.Spec
set_option maxHeartbeats 2000000
noncomputable def goodOf : List Stmt → List Stmt
  | _ :: _ :: _ :: _ :: .If _ b _ _ :: _ => b
  | _ => []
noncomputable def badOf : List Stmt → List Stmt
  | _ :: _ :: _ :: _ :: .If _ _ b _ :: _ => b
  | _ => []
noncomputable abbrev goodB (P : Params) : List Stmt := goodOf (outerB P)
noncomputable abbrev badB (P : Params) : List Stmt := badOf (outerB P)
noncomputable def Ap (a : Addr) : Nat → List (Addr × Obj) → Prop
  | 0, l => a ∉ l.map (·.1)
  | _ + 1, [] => True
  | k + 1, p :: l => a ≠ p.1 ∧ Ap a k l
theorem ap_of {a : Addr} : ∀ (k : Nat) {l : List (Addr × Obj)}, a ∉ l.map (·.1) → Ap a k l
  | 0, _, h => h
  | _ + 1, [], _ => trivial
  | k + 1, p :: l, h => ⟨fun e => h (by rw [e]; exact .head _), ap_of k fun q => h (.tail _ q)⟩
noncomputable def Al (a : Addr) : Nat → List Addr → Prop
  | 0, l => a ∉ l
  | _ + 1, [] => True
  | k + 1, x :: l => a ≠ x ∧ Al a k l
theorem al_of {a : Addr} : ∀ (k : Nat) {l : List Addr}, a ∉ l → Al a k l
  | 0, _, h => h
  | _ + 1, [], _ => trivial
  | k + 1, x :: l, h => ⟨fun e => h (e ▸ .head _), al_of k fun q => h (.tail _ q)⟩
theorem ni_app {a : Addr} {k l : List (Addr × Obj)} (h : a ∉ (k ++ l).map (·.1)) : a ∉ k.map (·.1) ∧ a ∉ l.map (·.1) :=
  ⟨fun q => h (by rw [List.map_append]; exact List.mem_append_left _ q), fun q => h (by rw [List.map_append]; exact List.mem_append_right _ q)⟩
theorem nin {l : List (Addr × Obj)} {a : Addr} (h : ∀ p ∈ l, @LT.lt Nat _ p.1 a) : a ∉ l.map (·.1) := fun q => by
  obtain ⟨p, hp, e⟩ := List.mem_map.mp q
  exact Nat.ne_of_lt (h p hp) e
theorem perm3a {α : Type} {p a b c d e f k x y z : α} {ot : List α} (h : p ∈ a :: b :: c :: d :: e :: f :: k :: (ot ++ [x, y, z])) : p ∈ k :: f :: x :: y :: a :: b :: c :: d :: e :: z :: ot := by
  have key : ∀ q0, q0 ∈ a :: b :: c :: d :: e :: f :: k :: (ot ++ [x, y, z]) → q0 ∈ k :: f :: x :: y :: a :: b :: c :: d :: e :: z :: ot := by
    clear h
    refine fm_app (k := [a, b, c, d, e]) ?_ ?_
    · exact fun p q => (.tail _ (.tail _ (.tail _ (.tail _ (List.mem_append_left _ q)))))
    refine fm_cons ?_ ?_
    · exact (.tail _ (.head _))
    refine fm_cons ?_ ?_
    · exact (.head _)
    refine fm_app ?_ ?_
    · exact fun p q => (.tail _ (.tail _ (.tail _ (.tail _ (List.mem_append_right [a, b, c, d, e] (.tail _ q))))))
    refine fm_cons ?_ ?_
    · exact (.tail _ (.tail _ (.head _)))
    refine fm_cons ?_ ?_
    · exact (.tail _ (.tail _ (.tail _ (.head _))))
    refine fm_cons ?_ ?_
    · exact (.tail _ (.tail _ (.tail _ (.tail _ (List.mem_append_right [a, b, c, d, e] (.head _))))))
    exact fun p q => nomatch q
  exact key p h
theorem strs_take : ∀ {vs : List Value} {as : List Str} (k : Nat), StrsAre vs as → StrsAre (vs.take k) (as.take k)
  | _, _, 0, _ => by simp; exact .nil
  | _, _, _ + 1, .nil => .nil
  | _, _, k + 1, .cons a t h => .cons a t (strs_take k h)
section
variable {w : World} {A : Around} {E : Value → Shared → Prop} {h : Heap} {g : Array GenState} {d : Drawn} {tk : Nat} {os : OsState} {mg mb : Str → Option Value}
theorem plain_good {hb : Heap} {L bl dp : Addr} {bvs dvs : List Value} {bn dn k : Nat} {l : Str} {tl tv : Tok} {m : Str → Option Value} {oB oL oS oH oM : Obj} {ot : List (Addr × Obj)} {Q : Flow → Shared → Prop}
    (B : Bs w mg mb hb) (R : Rm A 8) (hbl : bvs.length ≤ 20) (hdl : dvs.length ≤ 20)
    (F : Fr hb L h m) (N : News hb L h ((L + 1, oB) :: (L + 2, oL) :: (L + 3, oS) :: (L + 4, oH) :: (L + 5, oM) :: (bl, listO bvs bn) :: (dp, listO dvs dn) :: ot))
    (hB : oB.data = .cell (some (.ref bl))) (hL : oL.data = .cell (some (.str l tl))) (hM : oM.data = .cell (some (.int k tv)))
    (ho : Off L ((bl, listO bvs bn) :: (dp, listO dvs dn) :: ot)) (hcb : dp ≠ bl) (hct : ∀ p ∈ ot, p.1 ≠ dp) (hcx : ∀ p ∈ ot, p.1 ≠ bl) (hmd : m ⟨⟨[100, 101, 112, 116, 104, 115]⟩⟩ = some (.ref dp))
    (hQ : ∀ h' tk' oB' bl' dn' jk, Fr hb L h' m → News hb L h' ((L + 1, oB') :: (L + 2, oL) :: (L + 3, oS) :: (L + 4, oH) :: (L + 5, oM) :: (bl', listO (bvs.take k ++ [.str l tl]) 0) :: (dp, listO (dvs ++ [.int k tv]) dn') :: (ot ++ jk)) → oB'.data = .cell (some (.ref bl')) →
      (bl' ∉ AD L bl dp ot) → (∀ p ∈ jk, p.1 ∉ AD L bl' dp ot) → Q .next ⟨h', g, d, tk', os⟩) :
    wpAny (MM w) A (execs (goodB w.params) (envPlain w.params L)) Q E ⟨h, g, d, tk, os⟩ := by
  have hh := R.hd
  refine seq ?_
  repeat ((fail_if_success (with_reducible show wpAny _ _ (eval (Expr.Subscript _ _ _) _) _ _ _)); kbo_bools)
  refine sub_slice ?_
  k_ownIn
  rw [evalPart_none]
  refine wpAny_pure ?_
  rw [evalPart_some]
  k_ownIn
  refine slice_end F N (isl N (by k_allIn : (bl, listO bvs bn) ∈ _) (listIs_O _ _)) (by rw [List.size_toArray]; (first | lia | omega)) .none (.int _ _) (fun sl h1 F1 N1 hl1 X1 => ?_)
  rw [slicePick_upto'] at N1
  repeat kbo_bools
  k_ownIn
  repeat kbo_bools
  refine al_list F1 N1 (by show 1 ≤ 1000; decide) (fun e1 h2 F2 N2 hl2 X2 _ => ?_)
  repeat kbo_bools
  refine l_add (vs := bvs.take k) (us := [.str l tl]) F2 N2 (isl N2 (by k_allIn : (sl, _) ∈ _) (listIs_O _ _)) (isl N2 (by k_allIn : (e1, _) ∈ _) (listIs_O _ _)) (by rw [List.length_take]; simp; (first | lia | omega)) (fun bl' h3 F3 N3 hl3 => ?_)
  repeat kbo_bools
  have n3 := ap_of 9 (nin hl3)
  have n2 := ap_of 8 (nin hl2)
  have n1 := ap_of 7 (nin hl1)
  refine st_c (pre := [(bl', _), (e1, listO [.str l tl] 0), (sl, _)]) (post := (L + 2, oL) :: (L + 3, oS) :: (L + 4, oH) :: (L + 5, oM) :: (bl, listO bvs bn) :: (dp, listO dvs dn) :: ot) F3 N3 hB (fun p hp => ?_) (fun p hp => ?_) (fun h4 oB' F4 N4 hB' => ?_)
  · simp only [List.mem_cons, List.mem_nil_iff, or_false] at hp
    rcases hp with rfl | rfl | rfl
    · exact n3.2.2.1
    · exact n2.2.1
    · exact n1.1
  · revert p hp
    refine fm_cons ?_ ?_
    · exact fun e => absurd (Nat.add_left_cancel (n := L) (m := 2) (k := 1) e) (by decide)
    refine fm_cons ?_ ?_
    · exact fun e => absurd (Nat.add_left_cancel (n := L) (m := 3) (k := 1) e) (by decide)
    refine fm_cons ?_ ?_
    · exact fun e => absurd (Nat.add_left_cancel (n := L) (m := 4) (k := 1) e) (by decide)
    refine fm_cons ?_ ?_
    · exact fun e => absurd (Nat.add_left_cancel (n := L) (m := 5) (k := 1) e) (by decide)
    intro p hp
    · exact (ho p hp).1
  replace N4 : News hb L h4 ((bl', listO (bvs.take k ++ [.str l tl]) 0) :: (e1, listO [.str l tl] 0) :: (sl, listO (bvs.take k) 0) :: (L + 1, oB') :: (L + 2, oL) :: (L + 3, oS) :: (L + 4, oH) :: (L + 5, oM) :: (bl, listO bvs bn) :: (dp, listO dvs dn) :: ot) := N4
  repeat kbo_bools
  refine m_append N4 (by k_allIn : (dp, listO dvs dn) ∈ _) rfl rfl ?_
  repeat kbo_bools
  k_ownIn
  repeat kbo_bools
  have hod := ho (dp, listO dvs dn) (.tail _ (.head _))
  refine l_append (rest := (bl', listO (bvs.take k ++ [.str l tl]) 0) :: (e1, listO [.str l tl] 0) :: (sl, listO (bvs.take k) 0) :: (L + 1, oB') :: (L + 2, oL) :: (L + 3, oS) :: (L + 4, oH) :: (L + 5, oM) :: (bl, listO bvs bn) :: ot) F4 N4 (by k_allIn : (dp, listO dvs dn) ∈ _) (by (first | lia | omega)) (fun p hp => ?_) (fun h5 dn' F5 N5 _ => ?_)
  · simp only [List.mem_cons] at hp ⊢
    rcases hp with rfl | rfl | rfl | rfl | rfl | rfl | rfl | rfl | rfl | hp
    · exact ⟨.inl rfl, n3.2.2.2.2.2.2.2.2.1⟩
    · exact ⟨.inr (.inl rfl), n2.2.2.2.2.2.2.2.1⟩
    · exact ⟨.inr (.inr (.inl rfl)), n1.2.2.2.2.2.2.1⟩
    · exact ⟨.inr (.inr (.inr (.inl rfl))), hod.1.symm⟩
    · exact ⟨.inr (.inr (.inr (.inr (.inl rfl)))), hod.2.1.symm⟩
    · exact ⟨.inr (.inr (.inr (.inr (.inr (.inl rfl))))), hod.2.2.1.symm⟩
    · exact ⟨.inr (.inr (.inr (.inr (.inr (.inr (.inl rfl)))))), hod.2.2.2.1.symm⟩
    · exact ⟨.inr (.inr (.inr (.inr (.inr (.inr (.inr (.inl rfl))))))), hod.2.2.2.2.symm⟩
    · exact ⟨.inr (.inr (.inr (.inr (.inr (.inr (.inr (.inr (.inl rfl)))))))), hcb.symm⟩
    · exact ⟨.inr (.inr (.inr (.inr (.inr (.inr (.inr (.inr (.inr (.inr hp))))))))), hct p hp⟩
  repeat kbo_bools
  refine hQ h5 _ oB' bl' dn' [(e1, listO [.str l tl] 0), (sl, listO (bvs.take k) 0), (bl, listO bvs bn)] F5 (news_sub N5 (fun p hp => perm3a hp)) hB' ?_ (fun p hp => ?_)
  · simp only [AD, List.mem_cons, not_or]
    exact ⟨n3.2.2.1, n3.2.2.2.1, n3.2.2.2.2.1, n3.2.2.2.2.2.1, n3.2.2.2.2.2.2.1, n3.2.2.2.2.2.2.2.1, n3.2.2.2.2.2.2.2.2.1, n3.2.2.2.2.2.2.2.2.2⟩
  · simp only [List.mem_cons, List.mem_nil_iff, or_false] at hp
    simp only [AD, List.mem_cons, not_or]
    rcases hp with rfl | rfl | rfl
    · exact ⟨n2.2.1, n2.2.2.1, n2.2.2.2.1, n2.2.2.2.2.1, n2.2.2.2.2.2.1, fun e => n3.1 e.symm, n2.2.2.2.2.2.2.2.1, n2.2.2.2.2.2.2.2.2⟩
    · exact ⟨n1.1, n1.2.1, n1.2.2.1, n1.2.2.2.1, n1.2.2.2.2.1, fun e => n3.2.1 e.symm, n1.2.2.2.2.2.2.1, n1.2.2.2.2.2.2.2⟩
    · have hob := ho (bl, listO bvs bn) (.head _)
      refine ⟨hob.1, hob.2.1, hob.2.2.1, hob.2.2.2.1, hob.2.2.2.2, fun e => n3.2.2.2.2.2.2.2.1 e.symm, fun e => hcb e.symm, fun e => ?_⟩
      obtain ⟨p, hp, e⟩ := List.mem_map.mp e
      exact hcx p hp e
end
end
section
open PySem PySem.W PyProof.Rows PySem.Calls PySem.Spec PyProof.V
set_option maxHeartbeats 2000000
noncomputable def tab : Str := ⟨⟨[9]⟩⟩
noncomputable def joinL (b l : Str) : Str := b ++ tab ++ l
noncomputable def longN (b l : Str) : Nat := ((Txt.split (joinL b l) tab).map (·.length)).foldl max 0
noncomputable def sizesOf (b l : Str) : List Int := (rangeInts 1 1 (longN b l + 1)).filter fun s => !decide ((col b s.toNat : Int) = (col l s.toNat : Int))
noncomputable def pmsg (b l : Str) : Str := ⟨⟨[97, 116, 32, 116, 97, 98, 32, 115, 105, 122, 101]⟩⟩ ++ (if (sizesOf b l).length > 1 then ⟨⟨[115, 32]⟩⟩ else ⟨⟨[32]⟩⟩) ++ Txt.join ⟨⟨[44, 32]⟩⟩ ((sizesOf b l).map strOf)
theorem max_is : ∀ (xs : List Nat) (k : Nat), k ≤ xs.foldl max k ∧ (∀ x ∈ xs, x ≤ xs.foldl max k) ∧ (xs.foldl max k = k ∨ xs.foldl max k ∈ xs)
  | [], k => ⟨Nat.le_refl _, fun _ h => (nomatch h), .inl rfl⟩
  | x :: xs, k => by
    obtain ⟨a, b, c⟩ := max_is xs (max k x)
    rw [List.foldl_cons]
    refine ⟨by (first | lia | omega), fun y hy => ?_, ?_⟩
    · revert y hy
      refine fm_cons ?_ ?_
      · (first | lia | omega)
      intro y hy
      · exact b y hy
    · rcases c with c | c
      · rw [c]
        by_cases h : k ≤ x
        · exact .inr (by rw [Nat.max_eq_right h]; exact .head _)
        · exact .inl (by (first | lia | omega))
      · exact .inr (.tail _ c)
theorem max_eq {xs : List Nat} {M : Int} (h1 : M ∈ xs.map fun (n : Nat) => (n : Int)) (h2 : ∀ a ∈ xs.map fun (n : Nat) => (n : Int), a ≤ M) : M = (xs.foldl max 0 : Nat) := by
  refine holdG fun Pz kz => ?_
  obtain ⟨a, b, c⟩ := max_is xs 0
  obtain ⟨n, hn, rfl⟩ := List.mem_map.mp h1
  refine kz ?_
  clear kz Pz
  have := b n hn
  rcases c with c | c
  · (first | lia | omega)
  · have := h2 _ (List.mem_map.mpr ⟨_, c, rfl⟩)
    (first | lia | omega)
theorem split_pos (x y : Str) : 0 < (Txt.split x y).length := by
  unfold Txt.split
  split
  · simp
  · split
    · simp
    · rw [StrLaws.partsBetween_eq]
      generalize Builtin.Str.occurrences x y 0 x.length (x.length + 1) = cuts
      cases cuts <;> simp [StrLaws.partsFrom]
section
variable {w : World} {A : Around} {E : Value → Shared → Prop} {h : Heap} {g : Array GenState} {d : Drawn} {tk : Nat} {os : OsState} {mg mb : Str → Option Value}
theorem nin' {l : List (Addr × Obj)} {a : Addr} (h : ∀ p ∈ l, p.1 ≠ a) : a ∉ l.map (·.1) := fun q => by
  obtain ⟨p, hp, e⟩ := List.mem_map.mp q
  exact h p hp e
theorem perm4a {α : Type} {p a b c d e f k r x y z : α} {ot : List α} (h : p ∈ a :: b :: c :: d :: e :: f :: k :: (ot ++ (r :: [x, y, z]))) : p ∈ k :: r :: x :: y :: z :: a :: b :: c :: d :: e :: f :: ot := by
  have key : ∀ q0, q0 ∈ a :: b :: c :: d :: e :: f :: k :: (ot ++ (r :: [x, y, z])) → q0 ∈ k :: r :: x :: y :: z :: a :: b :: c :: d :: e :: f :: ot := by
    clear h
    refine fm_app (k := [a, b, c, d, e, f]) ?_ ?_
    · exact fun p q => (.tail _ (.tail _ (.tail _ (.tail _ (.tail _ (List.mem_append_left _ q))))))
    refine fm_cons ?_ ?_
    · exact (.head _)
    refine fm_app ?_ ?_
    · exact fun p q => (.tail _ (.tail _ (.tail _ (.tail _ (.tail _ (List.mem_append_right [a, b, c, d, e, f] q))))))
    refine fm_cons ?_ ?_
    · exact (.tail _ (.head _))
    refine fm_cons ?_ ?_
    · exact (.tail _ (.tail _ (.head _)))
    refine fm_cons ?_ ?_
    · exact (.tail _ (.tail _ (.tail _ (.head _))))
    refine fm_cons ?_ ?_
    · exact (.tail _ (.tail _ (.tail _ (.tail _ (.head _)))))
    exact fun p q => nomatch q
  exact key p h
theorem app_len (x y : Str) : (x ++ y).length = x.length + y.length := by
  show (x.cps ++ y.cps).size = x.cps.size + y.cps.size
  exact Array.size_append
theorem ife_str {prog : Program} {env : Env} {c : Bool} {x y : Str} {k1 k2 : Tok} {p1 p2 : Pos} {Q : Value → Shared → Prop} (hQ : ∀ t tk, Q (.str (if c = true then x else y) t) ⟨h, g, d, tk, os⟩) :
    if c = true then wpAny (model prog w) A (eval (.Constant (.str x) k1 p1) env) Q E ⟨h, g, d, tk, os⟩ else wpAny (model prog w) A (eval (.Constant (.str y) k2 p2) env) Q E ⟨h, g, d, tk, os⟩ := by
  cases c
  · exact ifF rfl (c_str hQ)
  · exact ifT rfl (c_str hQ)
theorem sum_le' (f : Int → Nat) (k : Nat) : ∀ l : List Int, (∀ a ∈ l, f a ≤ k) → (l.map f).sum ≤ l.length * k
  | [], _ => by simp
  | a :: l, h => by
    have := sum_le' f k l (fun b hb => h b (.tail _ hb))
    have := h a (.head _)
    rw [List.map_cons, List.sum_cons, List.length_cons, Nat.add_mul]
    (first | lia | omega)
theorem plain_bad {hb : Heap} {L bl rf : Addr} {bvs : List Value} {bn k i : Nat} {bs : List Str} {b l : Str} {tl tv ti : Tok} {m : Str → Option Value} {oB oL oS oH oM od : Obj} {kvs : List (Int × Value)} {ot : List (Addr × Obj)} {Q : Flow → Shared → Prop}
    (B : Bs w mg mb hb) (R : Rm A 8) (hbl : bvs.length ≤ 20) (hbs : StrsAre bvs bs) (hk : bs[k]? = some b) (hlm : l.cps.size < 20) (hbm : b.cps.size < 20) (hkl : kvs.length ≤ 20)
    (F : Fr hb L h m) (N : News hb L h ((L + 1, oB) :: (L + 2, oL) :: (L + 3, oS) :: (L + 4, oH) :: (L + 5, oM) :: (bl, listO bvs bn) :: (rf, od) :: ot))
    (hB : oB.data = .cell (some (.ref bl))) (hL : oL.data = .cell (some (.str l tl))) (hM : oM.data = .cell (some (.int k tv)))
    (ho : Off L ((bl, listO bvs bn) :: (rf, od) :: ot)) (hcb : rf ≠ bl) (hct : ∀ p ∈ ot, p.1 ≠ rf) (hmr : m ⟨⟨[114, 101, 102, 117, 115, 101, 100]⟩⟩ = some (.ref rf)) (hmn : m ⟨⟨[110, 117, 109, 98, 101, 114]⟩⟩ = some (.int i ti))
    (hod : od.IsDictOf (intKind PG w) kvs) (hki : (i : Int) ∉ kvs.map (·.1)) (hsn : (Txt.split (joinL b l) tab).length ≤ 1000) (hsz : (sizesOf b l).length ≤ 60)
    (hQ : ∀ h' tk' m' od' r t u jk, Fr hb L h' m' → News hb L h' ((L + 1, oB) :: (L + 2, oL) :: (L + 3, oS) :: (L + 4, oH) :: (L + 5, oM) :: (bl, listO bvs bn) :: (rf, od') :: (ot ++ ((r, tupO [.str (pmsg b l) t, .str (l ++ dotTab) u]) :: jk))) →
      od'.IsDictOf (intKind PG w) (kvs ++ [((i : Int), .ref r)]) → (∀ p ∈ (r, tupO [.str (pmsg b l) t, .str (l ++ dotTab) u]) :: jk, p.1 ∉ AD L bl rf ot) → (∀ x, x ≠ ⟨⟨[108, 111, 110, 103, 101, 115, 116]⟩⟩ → x ≠ ⟨⟨[115, 105, 122, 101, 115]⟩⟩ → x ≠ ⟨⟨[119, 111, 114, 100, 115]⟩⟩ → m' x = m x) → Q .next ⟨h', g, d, tk', os⟩) :
    wpAny (MM w) A (execs (badB w.params) (envPlain w.params L)) Q E ⟨h, g, d, tk, os⟩ := by
  have hh := R.hd
  obtain ⟨tb, hbv⟩ := hbs.at hk
  refine seq ?_
  repeat kbo_bools
  refine comp_e (K := .str) (cl := []) (pz := fun _ => true) (dd := fun r => .int r.length) (h₀ := hb) (L := L) (m := m) hh ?_
  repeat kbo_bools
  k_ownIn
  repeat kbo_bools
  k_ownIn
  repeat kbo_bools
  refine i_list (isl N (by k_allIn : (bl, listO bvs bn) ∈ _) (listIs_O _ _)) (by (first | lia | omega)) (by have := (List.getElem?_eq_some_iff.mp hk).1; have := hbs.len_eq; (first | lia | omega)) (x := .str b tb) (by simpa using hbv) ?_
  repeat kbo_bools
  refine o_cat (by show b.cps.size + 1 ≤ _; (first | lia | omega)) (fun t1 tk1 => ?_)
  repeat kbo_bools
  k_ownIn
  repeat kbo_bools
  have hxl : (b ++ tab ++ l).length ≤ 60 := by
    show (b.cps ++ #[9] ++ l.cps).size ≤ 60
    simp; (first | lia | omega)
  refine o_cat (by show (b.cps ++ #[9]).size + l.cps.size ≤ _; simp; (first | lia | omega)) (fun t2 tk2 => ?_)
  repeat kbo_bools
  refine PySem.GM.split ?_
  repeat kbo_bools
  rename_i t3 tk3
  refine splitN1A (s := ⟨h, g, d, tk3, os⟩) F N rfl (fun sp h1 tk4 hsp hst hsl hil F1 N1 => ?_) (by rw [sizeLine_eq]; exact Nat.le_trans (Nat.add_le_add_right hxl 2) (by decide))
  rw [hsp] at hst hsl
  have B1 := B.ext F1.keep
  repeat kbo_bools
  refine comp_end F1 N1 hil (strs_are hst) hsn test_nil ?_ ?_
  · rintro C a v h2 g2 d2 tk2 os2 m₂ E' ha ⟨t, rfl⟩ _ F2 hm
    repeat kbo_bools
    have hal : a.length ≤ 60 := Nat.le_trans (hsl a ha) hxl
    refine len_str (s := ⟨h2, g2, d2, _, os2⟩) (by (first | lia | omega)) ?_
    repeat kbo_bools
    exact ⟨.int _ _, keeps_of fun _ _ e => e⟩
  intro D ys n h2 tk2 F2 N2 hne2 hc2
  rw [List.filter_eq_self.mpr (fun _ _ => rfl)] at hc2
  have hi2 : IntsAre ys ((Txt.split (joinL b l) tab).map fun r => (r.length : Int)) := hc2.intsOf
  repeat kbo_bools
  refine max_list_N (s := ⟨h2, g, d, tk2, os⟩) hh F2 N2 (isl N2 (by k_allIn : (D, listO ys n) ∈ _) (listIs_O _ _)) hi2 (by rw [List.length_map]; exact split_pos _ _) (fun h3 M t5 tk5 F3 N3 hM1 hM2 => ?_)
  have eM : M = (longN b l : Int) := max_eq (by rw [List.map_map]; exact hM1) (by rw [List.map_map]; exact hM2)
  subst eM
  repeat kbo_bools
  rename_i h4 tk4 F4 N4
  have hlong : longN b l ≤ 60 := by
    obtain ⟨r, hr, e⟩ := List.mem_map.mp hM1
    have := hsl r hr
    have := Nat.le_trans this hxl
    (first | lia | omega)
  refine comp_ar (cl := [(⟨⟨[108, 101, 97, 115, 116]⟩⟩, L + 5), (⟨⟨[108, 101, 97, 100]⟩⟩, L + 2), (⟨⟨[98, 108, 111, 99, 107, 115]⟩⟩, L + 1)]) (pz := fun s => !decide ((col b s.toNat : Int) = (col l s.toNat : Int))) (dd := fun s => .str (strOf s)) (h₀ := hb) (L := L) (m := Upd m ⟨⟨[108, 111, 110, 103, 101, 115, 116]⟩⟩ (.int (longN b l) t5)) hh ?_
  repeat kbo_bools
  rename_i t6 _ t7 _ t8 tk8
  refine call_range_2 (s := ⟨h4, g, d, tk8, os⟩) ?_
  have X5 := Ext.push h4 { cls := .type "range", data := .fields #[.int 1 t6, .int ((longN b l : Int) + 2) t8, .int 1 tk8] }
  have F5 := fr_ext F4 X5
  have N5 := nw_ext N4 X5
  have hR := IsRange.new h4 1 ((longN b l : Int) + 2) 1 t6 t8 tk8
  generalize h4.push { cls := .type "range", data := .fields #[.int 1 t6, .int ((longN b l : Int) + 2) t8, .int 1 tk8] } = h5 at *
  have B5 := B.ext F5.keep
  have eB5 := nget N5 (by k_allIn : (L + 1, oB) ∈ _)
  have eL5 := nget N5 (by k_allIn : (L + 2, oL) ∈ _)
  have eM5 := nget N5 (by k_allIn : (L + 5, oM) ∈ _)
  have ebl5 := nget N5 (by k_allIn : (bl, listO bvs bn) ∈ _)
  refine ⟨_, h4.objs.size, 1, (longN b l : Int) + 2, 1, t6, t8, tk8, longN b l + 1, rfl, hR, small_one (by decide) (by decide) (by (first | lia | omega)) (by (first | lia | omega)), by rw [rangeSize_one]; split <;> (first | lia | omega), by (first | lia | omega), F5, N5, ?_, ?_, ?_⟩
  · rintro C a v h6 g6 d6 tk6 os6 m₂ E' ha ⟨t, rfl⟩ F6 hm
    have hr := mem_rangeInts ha
    obtain ⟨s, rfl, hs1⟩ : ∃ s : Nat, a = s ∧ 1 ≤ s := ⟨a.toNat, by (first | lia | omega), by (first | lia | omega)⟩
    refine wpAny_tests_one ?_
    repeat kbo_bools
    refine nm_cell rfl (F6.keep _ _ eB5) hB ?_
    repeat kbo_bools
    refine nm_cell rfl (F6.keep _ _ eM5) hM ?_
    repeat kbo_bools
    refine i_list ⟨_, F6.keep _ _ ebl5, listIs_O _ _⟩ (by (first | lia | omega)) (by have := (List.getElem?_eq_some_iff.mp hk).1; have := hbs.len_eq; (first | lia | omega)) (x := .str b tb) (by simpa using hbv) ?_
    repeat kbo_bools
    refine col_ok (B5.ext F6.keep) (R.le (by decide)) (by (first | lia | omega)) hs1 (fun h7 t9 tk9 X7 => ?_)
    have F7 := fr_ext F6 X7
    repeat kbo_bools
    refine nm_cell rfl (F7.keep _ _ eL5) hL ?_
    repeat kbo_bools
    refine col_ok (B5.ext F7.keep) (R.le (by decide)) (by (first | lia | omega)) hs1 (fun h8 t10 tk10 X8 => ?_)
    repeat kbo_bools
    exact ⟨by simp only [Int.toNat_natCast]; rfl, keeps_of (X7.trans X8)⟩
  · rintro C a v h6 g6 d6 tk6 os6 m₂ E' ha ⟨t, rfl⟩ _ F6 hm
    have hr := mem_rangeInts ha
    repeat kbo_bools
    refine b_str (by (first | lia | omega)) (by (first | lia | omega)) (fun t9 tk9 => ⟨.str _ _, keeps_of fun _ _ e => e⟩)
  intro D2 ys2 n2 h6 tk6 F6 N6 hne6 hc6
  have hi6 : StrsAre ys2 ((sizesOf b l).map strOf) := hc6.strsOf
  have hl6 : ys2.length = (sizesOf b l).length := by rw [hi6.len_eq, List.length_map]
  repeat kbo_bools
  refine IfExp_ ?_
  repeat kbo_bools
  refine b_len_list (isl N6 (by k_allIn : (D2, listO ys2 n2) ∈ _) (listIs_O _ _)) (by rw [List.size_toArray]; (first | lia | omega)) (fun t11 tk11 => ?_)
  repeat kbo_bools
  have hsum : (((sizesOf b l).map strOf).map (·.length)).sum ≤ 60 * 70 := by
    rw [List.map_map]
    refine Nat.le_trans (sum_le' _ 70 _ fun a ha => ?_) (Nat.mul_le_mul hsz (Nat.le_refl _))
    have hr := mem_rangeInts (List.mem_filter.mp ha).1
    have hlen := len_str_of_int a
    show (strOf a).length ≤ 70
    unfold strOf
    (first | lia | omega)
  have hjl : (Txt.join (⟨⟨[44, 32]⟩⟩ : Str) ((sizesOf b l).map strOf)).length ≤ 5000 := by
    show (Builtin.Str.glued _ _).length ≤ _
    rw [size_glued, List.length_map]
    have : (⟨⟨[44, 32]⟩⟩ : Str).length = 2 := rfl
    rw [this]
    (first | lia | omega)
  have hcnd : decide ((1 : Int) < (ys2.toArray.size : Int)) = decide ((sizesOf b l).length > 1) := by
    rw [List.size_toArray, hl6]
    by_cases hq : (sizesOf b l).length > 1
    · rw [decide_eq_true hq, decide_eq_true (by (first | lia | omega))]
    · rw [decide_eq_false hq, decide_eq_false (by (first | lia | omega))]
  rw [hcnd]
  refine ife_str (fun t12 tk12 => ?_)
  have hsx : (if decide ((sizesOf b l).length > 1) = true then (⟨⟨[115, 32]⟩⟩ : Str) else ⟨⟨[32]⟩⟩).length ≤ 2 := by split <;> decide
  repeat kbo_bools
  refine o_cat (Nat.le_trans (Nat.add_le_add_left hsx _) (by decide)) (fun t13 tk13 => ?_)
  repeat kbo_bools
  refine m_join ?_
  repeat kbo_bools
  refine join_list (ys := (sizesOf b l).map strOf) (isl N6 (by k_allIn : (D2, listO ys2 n2) ∈ _) (listIs_O _ _)) hi6 (by rw [List.length_map]; show _ + _ * 2 ≤ _; (first | lia | omega)) (fun t14 k14 => ?_)
  repeat kbo_bools
  refine o_cat (Nat.le_trans (Nat.add_le_add (show _ ≤ 20 from Nat.le_trans (Nat.le_of_eq (app_len _ _)) (Nat.le_trans (Nat.add_le_add_left hsx _) (by decide))) hjl) (by decide)) (fun t15 tk15 => ?_)
  have hpm : (⟨⟨[97, 116, 32, 116, 97, 98, 32, 115, 105, 122, 101]⟩⟩ : Str) ++ (if decide ((sizesOf b l).length > 1) = true then (⟨⟨[115, 32]⟩⟩ : Str) else ⟨⟨[32]⟩⟩) ++ Txt.join (⟨⟨[44, 32]⟩⟩ : Str) ((sizesOf b l).map strOf) = pmsg b l := by
    unfold pmsg
    by_cases hq : (sizesOf b l).length > 1
    · rw [if_pos (decide_eq_true hq), if_pos hq]
    · rw [if_neg (by simpa using hq), if_neg hq]
  rw [hpm]
  repeat kbo_bools
  k_ownIn
  repeat kbo_bools
  refine o_cat (by show l.cps.size + 2 ≤ _; (first | lia | omega)) (fun t16 tk16 => ?_)
  repeat kbo_bools
  rename_i h7 tk7 F7 N7 t17 tk17
  refine al_tup F7 N7 (by show 2 ≤ 1000; decide) (fun r h8 F8 N8 hl8 X8 _ => ?_)
  repeat kbo_bools
  have nr := ap_of 10 (nin hl8)
  have n6 := ap_of 9 (nin' hne6)
  have q2 := ap_of 8 (nin' hne2)
  have ns := ap_of 7 (nin (nw_lt N))
  have hsp : (Shared.mk h g d tk3 os).heap.objs.size = h.objs.size := rfl
  have hst : stored kvs (i : Int) (.ref r) = kvs ++ [((i : Int), .ref r)] := by
    unfold stored
    rw [if_neg]
    intro q
    obtain ⟨p, hp, e⟩ := List.any_eq_true.mp q
    exact hki (List.mem_map.mpr ⟨p, hp, of_decide_eq_true e⟩)
  refine wpAny_setItem_pairs (s := ⟨h8, _, _, _, _⟩) (knd := intKind PG w) (k := (i : Int)) (intKind_is _ _ _ _) (Heap.dictOf_iff.mpr ⟨od, nget N8 (by k_allIn : (rf, od) ∈ _), hod⟩) (fun h9 hd9 hs9 => ?_) (by rw [sizeLine_eq]; (first | lia | omega))
  obtain ⟨od', ho9, hod'⟩ := Heap.dictOf_iff.mp hd9
  rw [hst] at hod'
  obtain ⟨F9, N9⟩ := led_set (rest := (r, tupO [.str (pmsg b l) t15, .str (l ++ ⟨⟨[46, 9]⟩⟩) t16]) :: (D2, listO ys2 n2) :: (D, listO ys n) :: (h.objs.size, listO (strValues sp) 0) :: (L + 1, oB) :: (L + 2, oL) :: (L + 3, oS) :: (L + 4, oH) :: (L + 5, oM) :: (bl, listO bvs bn) :: ot) F8 N8 (by k_allIn : (rf, od) ∈ _) hs9 ho9 (by
    have hor := ho (rf, od) (.tail _ (.head _))
    refine fm_cons ⟨.head _, nr.2.2.2.2.2.2.2.2.2.1⟩ ?_
    refine fm_cons ⟨.tail _ (.head _), n6.2.2.2.2.2.2.2.2.1⟩ ?_
    refine fm_cons ⟨.tail _ (.tail _ (.head _)), q2.2.2.2.2.2.2.2.1⟩ ?_
    refine fm_cons ⟨.tail _ (.tail _ (.tail _ (.head _))), ns.2.2.2.2.2.2.1⟩ ?_
    refine fm_cons ⟨.tail _ (.tail _ (.tail _ (.tail _ (.head _)))), hor.1.symm⟩ ?_
    refine fm_cons ⟨.tail _ (.tail _ (.tail _ (.tail _ (.tail _ (.head _))))), hor.2.1.symm⟩ ?_
    refine fm_cons ⟨.tail _ (.tail _ (.tail _ (.tail _ (.tail _ (.tail _ (.head _)))))), hor.2.2.1.symm⟩ ?_
    refine fm_cons ⟨.tail _ (.tail _ (.tail _ (.tail _ (.tail _ (.tail _ (.tail _ (.head _))))))), hor.2.2.2.1.symm⟩ ?_
    refine fm_cons ⟨.tail _ (.tail _ (.tail _ (.tail _ (.tail _ (.tail _ (.tail _ (.tail _ (.head _)))))))), hor.2.2.2.2.symm⟩ ?_
    refine fm_cons ⟨.tail _ (.tail _ (.tail _ (.tail _ (.tail _ (.tail _ (.tail _ (.tail _ (.tail _ (.head _))))))))), hcb.symm⟩ ?_
    exact fun p hp => ⟨.tail _ (.tail _ (.tail _ (.tail _ (.tail _ (.tail _ (.tail _ (.tail _ (.tail _ (.tail _ (.tail _ hp)))))))))), hct p hp⟩)
  repeat kbo_bools
  refine hQ h9 _ _ od' r t15 t16 [(D2, listO ys2 n2), (D, listO ys n), (h.objs.size, listO (strValues sp) 0)] F9 (news_sub N9 (fun p hp => perm4a hp)) hod' ?_ (fun x h1 h2 h3 => ?_)
  · refine fm_cons ?_ (fm_cons ?_ (fm_cons ?_ (fm_cons ?_ (fun p hp => nomatch hp))))
    · exact fun q => nin hl8 (.tail _ (.tail _ (.tail _ q)))
    · exact fun q => nin' hne6 (.tail _ (.tail _ q))
    · exact fun q => nin' hne2 (.tail _ q)
    · exact nin (nw_lt N)
  · show (if x = _ then _ else if x = _ then _ else if x = _ then _ else m x) = m x
    rw [if_neg h3, if_neg h2, if_neg h1]
end
end
section
open PySem PySem.W PyProof.Rows PySem.Calls PySem.Spec PyProof.V
set_option maxHeartbeats 2000000
noncomputable def leastOf (bs : List Str) (l : Str) : Nat := min (cntS bs l 1) (min (cntS bs l 2) (cntS bs l 3))
noncomputable def mostOf (bs : List Str) (l : Str) : Nat := max (cntS bs l 1) (max (cntS bs l 2) (cntS bs l 3))
noncomputable def fitB (bs : List Str) (l : Str) : Bool := fitI bs l 3 && decide (mostOf bs l = leastOf bs l)
noncomputable def nil' : Str := ⟨⟨[]⟩⟩
/-- the plain reader, row by row -/
noncomputable def plainRun : List Str → Nat → List Str → List Nat → List (Nat × Str × Str) → List Nat × List (Nat × Str × Str)
  | [], _, _, ds, rs => (ds, rs)
  | l :: r, i, bs, ds, rs => if fitB bs l = true then plainRun r (i + 1) (bs.take (leastOf bs l) ++ [l]) (ds ++ [leastOf bs l]) rs
    else plainRun r (i + 1) bs ds (rs ++ [(i, pmsg (bs.getD (leastOf bs l) nil') l, l ++ dotTab)])
theorem cnt_le (bs : List Str) (l : Str) (s : Nat) : cntS bs l s ≤ bs.length := by
  unfold cntS
  refine Nat.le_trans (List.length_filter_le _ _) (by rw [List.length_map]; exact Nat.le_refl _)
theorem fit_full {bs : List Str} {l : Str} {s : Nat} (h : bs.length ≤ cntS bs l s) : fitS bs l s = true := by
  unfold fitS
  rw [List.getElem?_eq_none_iff.mpr (by rw [List.length_map]; exact h)]
theorem least_lt {bs : List Str} {l : Str} (h : fitB bs l = false) : leastOf bs l < bs.length := by
  rcases Nat.lt_or_ge (leastOf bs l) bs.length with q | q
  · exact q
  · exfalso
    have a1 := cnt_le bs l 1
    have a2 := cnt_le bs l 2
    have a3 := cnt_le bs l 3
    have q1 : bs.length ≤ cntS bs l 1 := by unfold leastOf at q; (first | lia | omega)
    have q2 : bs.length ≤ cntS bs l 2 := by unfold leastOf at q; (first | lia | omega)
    have q3 : bs.length ≤ cntS bs l 3 := by unfold leastOf at q; (first | lia | omega)
    have : fitB bs l = true := by
      unfold fitB
      have e : fitI bs l 3 = true := by
        unfold fitI
        rw [show List.range 3 = [0, 1, 2] from rfl]
        simp [fit_full q1, fit_full q2, fit_full q3]
      rw [e, decide_eq_true (by unfold mostOf leastOf; (first | lia | omega))]
      rfl
    (first | exact gX h this | exact gX this h | (rw [this] at h; cases h))
section
variable {prog : Program} {w : World} {A : Around} {E : Value → Shared → Prop} {h h₀ : Heap} {g : Array GenState} {d : Drawn} {tk : Nat} {os : OsState} {env : Env} {L : Addr} {m : Str → Option Value}
theorem unpack2C {x y : Str} {p1 p2 : Pos} {k : Nat} {pos : Pos} {t : Addr} {a b : Value} {c : Addr} {oc : Obj} {v₀ : Option Value} {pre post : List (Addr × Obj)} {Q : Unit → Shared → Prop} (F : Fr h₀ L h m) (N : News h₀ L h (pre ++ (c, oc) :: post)) (hh : A.handled = none) (ht : IsTup h t #[a, b])
    (hd : oc.data = .cell v₀) (h1 : ∀ p ∈ pre, p.1 ≠ c) (h2 : ∀ p ∈ post, p.1 ≠ c)
    (hQ : ∀ h' tk oc', Fr h₀ L h' (Upd m x a) → News h₀ L h' (pre ++ (c, oc') :: post) → oc'.data = .cell (some b) → Q () ⟨h', g, d, tk, os⟩)
    (hk : env.scope.kind = .function := by rfl) (hx : env.kindOf x = some .local := by rfl) (hy : env.kindOf y = some .cell := by rfl) (hc : env.cells.lookup y = some c := by rfl) (hL : env.locals = L := by rfl) :
    wpAny (model prog w) A (assign (.Tuple [.Name x p1, .Name y p2] k pos) env (.ref t)) Q E ⟨h, g, d, tk, os⟩ := by
  refine unpackN_ (s := ⟨h, g, d, tk, os⟩) F N ht hh rfl rfl (fun h1' F1 N1 => ?_)
  show wpAny (model prog w) A (assignInOrder [assign (.Name x p1) env, assign (.Name y p2) env] [a, b]) Q E ⟨h1', g, d, tk, os⟩
  unfold assignInOrder
  refine wpAny_bind (wpAny_holding (wpAny_assign_Name (st_loc F1 N1 (fun h2' tk2 F2 N2 => ?_) hk hx hL)))
  unfold assignInOrder
  refine wpAny_bind (wpAny_holding (wpAny_assign_Name (st_c F2 N2 hd h1 h2 (fun h3 oc' F3 N3 hd3 => ?_) hk hy hc)))
  unfold assignInOrder
  exact wpAny_pure (hQ h3 _ oc' F3 N3 hd3)
end
theorem perm5a {α : Type} {p a b c d e f k r : α} {ot fo : List α} (h : p ∈ a :: b :: c :: d :: e :: f :: k :: r :: (ot ++ fo)) : p ∈ fo ++ (a :: b :: c :: d :: e :: f :: k :: r :: ot) :=
  (List.mem_append.mp (show p ∈ (a :: b :: c :: d :: e :: f :: k :: r :: ot) ++ fo from h)).elim (fun q => List.mem_append_right _ q) fun q => List.mem_append_left _ q
theorem perm5b {α : Type} {p a b c d e f k r x : α} {ot : List α} (h : p ∈ a :: b :: c :: d :: e :: f :: x :: k :: r :: ot) : p ∈ x :: a :: b :: c :: d :: e :: f :: k :: r :: ot :=
  mid_front [a, b, c, d, e, f] h
theorem perm5t {α : Type} {p y x : α} {fo U ot jk jk2 : List α} (h : p ∈ fo ++ (U ++ (y :: (ot ++ (x :: (jk ++ jk2)))))) : p ∈ U ++ ((x :: y :: ((ot ++ fo) ++ jk)) ++ jk2) := by
  have key : ∀ q0, q0 ∈ fo ++ (U ++ (y :: (ot ++ (x :: (jk ++ jk2))))) → q0 ∈ U ++ ((x :: y :: ((ot ++ fo) ++ jk)) ++ jk2) := by
    clear h
    refine fm_app (fun p q => ?_) (fm_app (fun p q => List.mem_append_left _ q) (fm_cons ?_ (fm_app (fun p q => ?_) (fm_cons ?_ (fm_app (fun p q => ?_) (fun p q => ?_))))))
    · exact List.mem_append_right _ (List.mem_append_left _ (.tail _ (.tail _ (List.mem_append_left _ (List.mem_append_right _ q)))))
    · exact List.mem_append_right _ (.tail _ (.head _))
    · exact List.mem_append_right _ (List.mem_append_left _ (.tail _ (.tail _ (List.mem_append_left _ (List.mem_append_left _ q)))))
    · exact List.mem_append_right _ (.head _)
    · exact List.mem_append_right _ (List.mem_append_left _ (.tail _ (.tail _ (List.mem_append_right _ q))))
    · exact List.mem_append_right _ (List.mem_append_right _ q)
  exact key p h
theorem perm5d {α : Type} {p a b c d e f k r x : α} {ot fo jk jk2 : List α} (h : p ∈ fo ++ (a :: b :: c :: d :: e :: f :: k :: r :: (ot ++ (x :: (jk ++ jk2))))) : p ∈ a :: b :: c :: d :: e :: f :: k :: ((x :: r :: ((ot ++ fo) ++ jk)) ++ jk2) :=
  perm5t (U := [a, b, c, d, e, f, k]) h
theorem perm5f {α : Type} {p a b c d e f k r x y : α} {ot fo jk jk2 : List α} (h : p ∈ fo ++ (a :: b :: c :: d :: e :: f :: k :: r :: ((ot ++ [y]) ++ (x :: (jk ++ jk2))))) : p ∈ a :: b :: c :: d :: e :: f :: r :: ((x :: k :: ((ot ++ fo) ++ jk)) ++ (y :: jk2)) := by
  have h1 : p ∈ (a :: b :: c :: d :: e :: f :: k :: ((x :: r :: (((ot ++ [y]) ++ fo) ++ jk)) ++ jk2)) := perm5t (U := [a, b, c, d, e, f, k]) h
  refine app_mono (w := r :: ((x :: k :: ((ot ++ fo) ++ jk)) ++ (y :: jk2))) [a, b, c, d, e, f] (fun q => ?_) h1
  clear h h1
  have key : ∀ q0, q0 ∈ k :: ((x :: r :: (((ot ++ [y]) ++ fo) ++ jk)) ++ jk2) → q0 ∈ r :: ((x :: k :: ((ot ++ fo) ++ jk)) ++ (y :: jk2)) := by
    clear q
    refine fm_cons (.tail _ (.tail _ (.head _))) (fm_cons (.tail _ (.head _)) (fm_cons (.head _) (fm_app (fm_app (fm_app (fm_app (fun p q => ?_) (fm_cons ?_ fun p q => nomatch q)) (fun p q => ?_)) (fun p q => ?_)) (fun p q => ?_))))
    · exact .tail _ (.tail _ (.tail _ (List.mem_append_left _ (List.mem_append_left _ (List.mem_append_left _ q)))))
    · exact List.mem_append_right (r :: x :: k :: ((ot ++ fo) ++ jk)) (.head _)
    · exact .tail _ (.tail _ (.tail _ (List.mem_append_left _ (List.mem_append_left _ (List.mem_append_right _ q)))))
    · exact .tail _ (.tail _ (.tail _ (List.mem_append_left _ (List.mem_append_right _ q))))
    · exact List.mem_append_right (r :: x :: k :: ((ot ++ fo) ++ jk)) (.tail _ q)
  exact key p q
theorem perm5g {α : Type} {p a b c d e f k r x : α} {ot jk : List α} (h : p ∈ a :: b :: c :: d :: e :: f :: k :: (x :: r :: (ot ++ jk))) : p ∈ a :: b :: c :: d :: e :: f :: x :: ((k :: r :: ot) ++ jk) :=
  app_mono [a, b, c, d, e, f] (mid_front [k]) h
theorem perm5h {α : Type} {p a b c d e f k r x : α} {ot jk : List α} (h : p ∈ a :: b :: c :: d :: e :: f :: r :: (x :: k :: (ot ++ jk))) : p ∈ a :: b :: c :: d :: e :: f :: x :: ((k :: r :: ot) ++ jk) :=
  app_mono [a, b, c, d, e, f] (mid_back [x, k]) h
theorem count_le (x : PyData) : ∀ l : List PyData, Spec.countIn x l ≤ l.length
  | [] => by simp [Spec.countIn]
  | a :: r => by
    have ih := count_le x r
    simp only [Spec.countIn, List.length_cons]
    split <;> (first | lia | omega)
theorem joinL_len {b l : Str} (hb : b ∈ LEADS) (hl : l ∈ LEADS) : (joinL b l).length ≤ 41 := by
  have h1 := short hb
  have h2 := short hl
  show (b.cps ++ #[9] ++ l.cps).size ≤ 41
  simp; (first | lia | omega)
theorem split_few {b l : Str} (hb : b ∈ LEADS) (hl : l ∈ LEADS) : (Txt.split (joinL b l) tab).length ≤ 1000 := by
  have h := split_len (joinL b l) 9
  have h2 := count_le (.str ⟨#[9]⟩) ((joinL b l).cps.toList.map fun n => PyData.str ⟨#[n]⟩)
  have h3 : (((joinL b l).cps.toList.map fun n => PyData.str ⟨#[n]⟩).length : Int) = ((joinL b l).length : Int) := by rw [List.length_map]; rfl
  have h4 := joinL_len hb hl
  rw [h3] at h2
  have h5 : cnt 9 (joinL b l).cps.toList = Spec.countIn (.str ⟨#[9]⟩) ((joinL b l).cps.toList.map fun n => PyData.str ⟨#[n]⟩) := rfl
  rw [h5] at h
  have h6 : ((Txt.split (joinL b l) tab).length : Int) = 1 + Spec.countIn (.str ⟨#[9]⟩) ((joinL b l).cps.toList.map fun n => PyData.str ⟨#[n]⟩) := h
  (first | lia | omega)
theorem sizes_few {b l : Str} (hb : b ∈ LEADS) (hl : l ∈ LEADS) : (sizesOf b l).length ≤ 60 := by
  have h4 := joinL_len hb hl
  have : longN b l ≤ 41 := by
    obtain ⟨_, _, c⟩ := max_is ((Txt.split (joinL b l) tab).map (·.length)) 0
    unfold longN
    rcases c with c | c
    · rw [c]; (first | lia | omega)
    · obtain ⟨r, hr, e⟩ := List.mem_map.mp c
      rw [← e]
      exact Nat.le_trans (part_short hr) h4
  unfold sizesOf
  refine Nat.le_trans (List.length_filter_le _ _) ?_
  rw [rangeInts_length]; (first | lia | omega)
/- what the plain reader holds -/
structure PlS (w : World) (L dp rf : Addr) (ld : List Str) (i : Nat) (m : Str → Option Value) (nw : List (Addr × Obj)) (oB oL oS oH oM : Obj) (bl : Addr) (bvs : List Value) (bn : Nat) (bs : List Str) (dvs : List Value) (dn : Nat) (ds : List Nat) (od : Obj) (kvs : List (Int × Value)) (rs : List (Nat × Str × Str)) (tps ot : List (Addr × Obj)) : Prop where
  nw : nw = (L + 1, oB) :: (L + 2, oL) :: (L + 3, oS) :: (L + 4, oH) :: (L + 5, oM) :: (bl, listO bvs bn) :: (dp, listO dvs dn) :: (rf, od) :: ot
  cB : oB.data = .cell (some (.ref bl))
  cL : ∃ v, oL.data = .cell v
  cS : ∃ v, oS.data = .cell v
  cH : ∃ v, oH.data = .cell v
  cM : ∃ v, oM.data = .cell v
  md : m ⟨⟨[100, 101, 112, 116, 104, 115]⟩⟩ = some (.ref dp)
  mr : m ⟨⟨[114, 101, 102, 117, 115, 101, 100]⟩⟩ = some (.ref rf)
  bv : StrsAre bvs bs
  bm : ∀ b ∈ bs, b ∈ LEADS
  bk : bs.length ≤ i + 1
  dv : IntsAre dvs (dsI ds)
  dk : ds.length ≤ i
  dic : od.IsDictOf (intKind PG w) kvs
  rl : RefL tps kvs rs
  rk : ∀ p ∈ rs, p.1 < i
  rc : rs.length ≤ i
  tp : ∀ p ∈ tps, p ∈ ot
  run : plainRun (ld.drop i) i bs ds rs = plainRun ld 0 [nil'] [] []
  of : Off L ((bl, listO bvs bn) :: (dp, listO dvs dn) :: (rf, od) :: ot)
  n1 : dp ≠ bl
  n2 : rf ≠ bl
  n3 : rf ≠ dp
  n4 : ∀ p ∈ ot, p.1 ≠ bl ∧ p.1 ≠ dp ∧ p.1 ≠ rf
inductive PlP (w : World) (L dp rf : Addr) (ld : List Str) (g0 : Array GenState) (i : Nat) (g : Array GenState) (m : Str → Option Value) (nw : List (Addr × Obj)) : Prop
  | mk (_ : g = g0) (oB : _) (oL : _) (oS : _) (oH : _) (oM : _) (bl : _) (bvs : _) (bn : _) (bs : _) (dvs : _) (dn : _) (ds : _) (od : _) (kvs : _) (rs : _) (tps : _) (ot : _) (_ : PlS w L dp rf ld i m nw oB oL oS oH oM bl bvs bn bs dvs dn ds od kvs rs tps ot) : PlP w L dp rf ld g0 i g m nw
section
variable {w : World} {A : Around} {E : Value → Shared → Prop} {h : Heap} {g : Array GenState} {d : Drawn} {tk : Nat} {os : OsState} {mg mb : Str → Option Value}
theorem outer_turn {hb : Heap} {L dp rf I T : Addr} {ld : List Str} {i : Nat} {l : Str} {t u : Tok} {g0 : Array GenState} {m : Str → Option Value} {nw fo : List (Addr × Obj)} {Q : Flow → Shared → Prop} {p1 p2 p3 : Pos} {k1 : Nat}
    (B : Bs w mg mb hb) (R : Rm A 8) (hld : ∀ l ∈ ld, l ∈ LEADS) (hl6 : ld.length ≤ 6) (hx : ld[i]? = some l) (S : PlP w L dp rf ld g0 i g m nw) (hne : ∀ p ∈ nw, p.1 ≠ I ∧ p.1 ≠ I + 1)
    (F : Fr hb L h m) (N : News hb L h (fo ++ nw)) (hT : IsTup h T #[.int i t, .str l u]) (hI : ∃ o, (I, o) ∈ fo) (hI1 : ∃ o, (I + 1, o) ∈ fo) (hfk : ∀ p ∈ fo, p.1 = I ∨ p.1 = I + 1) :
    wpAny (MM w) A (PySem.assign (.Tuple [.Name ⟨⟨[110, 117, 109, 98, 101, 114]⟩⟩ p1, .Name ⟨⟨[108, 101, 97, 100]⟩⟩ p2] k1 p3) (envPlain w.params L) (.ref T)) (fun _ s' => wpAny (MM w) A (execs (outerB w.params) (envPlain w.params L)) (Lp (FInv hb L d os (PlP w L dp rf ld g0) fo [I + 1, I] (i + 1)) Q) E s') E ⟨h, g, d, tk, os⟩ := by
  refine holdG fun Pz kz => ?_
  obtain ⟨rfl, oB, oL, oS, oH, oM, bl, bvs, bn, bs, dvs, dn, ds, od, kvs, rs, tps, ot, S⟩ := S
  refine kz ?_
  clear kz Pz
  have hh := R.hd
  have enw := S.nw
  subst enw
  refine holdG fun Pz kz => ?_
  obtain ⟨vL, hvL⟩ := S.cL
  obtain ⟨vS, hvS⟩ := S.cS
  obtain ⟨vH, hvH⟩ := S.cH
  obtain ⟨vM, hvM⟩ := S.cM
  refine kz ?_
  clear kz Pz
  have hbv := S.bv
  have hlm : l ∈ LEADS := hld l (List.mem_of_getElem? hx)
  have hi6 : i < 6 := by have := (List.getElem?_eq_some_iff.mp hx).1; (first | lia | omega)
  have hbk := S.bk
  have hfoC : ∀ p ∈ fo, ∀ q o, (q, o) ∈ (L + 1, oB) :: (L + 2, oL) :: (L + 3, oS) :: (L + 4, oH) :: (L + 5, oM) :: (bl, listO bvs bn) :: (dp, listO dvs dn) :: (rf, od) :: ot → p.1 ≠ q := fun p hp q o hq e => by
    rcases hfk p hp with e' | e'
    · exact (hne _ hq).1 (e.symm.trans e')
    · exact (hne _ hq).2 (e.symm.trans e')
  have hoff : Off L ((bl, listO bvs bn) :: (dp, listO dvs dn) :: (rf, od) :: (ot ++ fo)) := by
    refine fm_cons ?_ ?_
    · exact S.of _ (.head _)
    refine fm_cons ?_ ?_
    · exact S.of _ (.tail _ (.head _))
    refine fm_cons ?_ ?_
    · exact S.of _ (.tail _ (.tail _ (.head _)))
    refine fm_app ?_ ?_
    · intro p hp
      exact S.of p (.tail _ (.tail _ (.tail _ hp)))
    intro p hp
    · exact ⟨hfoC p hp _ oB (by k_allIn), hfoC p hp _ oL (by k_allIn), hfoC p hp _ oS (by k_allIn), hfoC p hp _ oH (by k_allIn), hfoC p hp _ oM (by k_allIn)⟩
  have N0 := news_sub N (l' := (L + 1, oB) :: (L + 2, oL) :: (L + 3, oS) :: (L + 4, oH) :: (L + 5, oM) :: (bl, listO bvs bn) :: (dp, listO dvs dn) :: (rf, od) :: (ot ++ fo)) (fun p hp => perm5a hp)
  refine unpack2C (pre := [(L + 1, oB)]) (post := (L + 3, oS) :: (L + 4, oH) :: (L + 5, oM) :: (bl, listO bvs bn) :: (dp, listO dvs dn) :: (rf, od) :: (ot ++ fo)) F N0 hh hT hvL (fun p hp => ?_) (fun p hp => ?_) (fun h1 tk1 oL1 F1 N1 hL1 => ?_)
  · rw [List.mem_singleton.mp hp]
    exact fun e => absurd (Nat.add_left_cancel (n := L) (m := 1) (k := 2) e) (by decide)
  · revert p hp
    refine fm_cons ?_ ?_
    · exact fun e => absurd (Nat.add_left_cancel (n := L) (m := 3) (k := 2) e) (by decide)
    refine fm_cons ?_ ?_
    · exact fun e => absurd (Nat.add_left_cancel (n := L) (m := 4) (k := 2) e) (by decide)
    refine fm_cons ?_ ?_
    · exact fun e => absurd (Nat.add_left_cancel (n := L) (m := 5) (k := 2) e) (by decide)
    intro p hp
    · exact (hoff p hp).2.1
  replace N1 : News hb L h1 ((L + 1, oB) :: (L + 2, oL1) :: (L + 3, oS) :: (L + 4, oH) :: (L + 5, oM) :: (bl, listO bvs bn) :: (dp, listO dvs dn) :: (rf, od) :: (ot ++ fo)) := N1
  clear N N0
  refine seq ?_
  repeat kbo_bools
  refine al_list F1 N1 (by decide) (fun cl h2 F2 N2 hl2 X2 _ => ?_)
  have hncl := ap_of 8 (nin hl2)
  have N2 := news_sub N2 (l' := (L + 1, oB) :: (L + 2, oL1) :: (L + 3, oS) :: (L + 4, oH) :: (L + 5, oM) :: (bl, listO bvs bn) :: (cl, listO [] 0) :: (dp, listO dvs dn) :: (rf, od) :: (ot ++ fo)) (fun p hp => perm5b hp)
  repeat ((fail_if_success (with_reducible show wpAny _ _ (exec (Stmt.For _ _ _ _ _) _) _ _ _)); kbo_bools)
  rename_i h3 tk3 F3 N3
  have hshort : ∀ b ∈ bs, b.cps.size < 50 := fun b hb => by have := short (S.bm b hb); (first | lia | omega)
  have hlsh := short hlm
  have ho3 : Off L ((bl, listO bvs bn) :: (cl, listO [] 0) :: (dp, listO dvs dn) :: (rf, od) :: (ot ++ fo)) := by
    refine fm_cons ?_ ?_
    · exact hoff _ (.head _)
    refine fm_cons ?_ ?_
    · exact ⟨hncl.1, hncl.2.1, hncl.2.2.1, hncl.2.2.2.1, hncl.2.2.2.2.1⟩
    intro p hp
    · exact hoff p (.tail _ hp)
  refine inner_for B R (by (first | lia | omega)) hshort (by (first | lia | omega)) F3 N3 S.cB hL1 hvS hvH hbv ho3 hncl.2.2.2.2.2.1 (fun p hp e => ?_) (by tb_rel) (by tb_rel) (fun h4 tk4 m4 nw4 F4 N4 hIn => ?_)
  · revert e
    revert p hp
    exact fm_cons (fun e => hncl.2.2.2.2.2.2.1 (Eq.symm e)) (fm_cons (fun e => hncl.2.2.2.2.2.2.2.1 (Eq.symm e)) (fun p hp e => hncl.2.2.2.2.2.2.2.2 (List.mem_map.mpr ⟨p, hp, e⟩)))
  refine holdG fun Pz kz => ?_
  obtain ⟨-, oS4, oH4, cvs, cn, jk, rfl, ⟨vS4, hS4⟩, ⟨vH4, hH4⟩, hci, hjk, hkm, hf4⟩ := hIn
  refine kz ?_
  clear kz Pz
  have hci' : IntsAre cvs [(cntS bs l 1 : Int), (cntS bs l 2 : Int), (cntS bs l 3 : Int)] := hci
  have hmc4 : m4 ⟨⟨[99, 111, 117, 110, 116, 115]⟩⟩ = some (.ref cl) := by rw [hkm _ (by decide) (by decide) (by decide)]; tb_rel
  have hmd4 : m4 ⟨⟨[100, 101, 112, 116, 104, 115]⟩⟩ = some (.ref dp) := by rw [hkm _ (by decide) (by decide) (by decide)]; have := S.md; tb_rel
  have hmr4 : m4 ⟨⟨[114, 101, 102, 117, 115, 101, 100]⟩⟩ = some (.ref rf) := by rw [hkm _ (by decide) (by decide) (by decide)]; have := S.mr; tb_rel
  have hmn4 : m4 ⟨⟨[110, 117, 109, 98, 101, 114]⟩⟩ = some (.int i t) := by rw [hkm _ (by decide) (by decide) (by decide)]; tb_rel
  clear N3 F3 N2 F2
  repeat kbo_bools
  refine min_list_N (s := ⟨h4, g, d, _, os⟩) hh F4 N4 (isl N4 (by k_allIn : (cl, listO cvs cn) ∈ _) (listIs_O _ _)) hci' (by simp) (fun h5 M t5 tk5 F5 N5 hM1 hM2 => ?_)
  have eM : M = (leastOf bs l : Int) := by
    have q1 := hM2 _ (.head _)
    have q2 := hM2 _ (.tail _ (.head _))
    have q3 := hM2 _ (.tail _ (.tail _ (.head _)))
    simp only [List.mem_cons, List.mem_nil_iff, or_false] at hM1
    unfold leastOf
    rcases hM1 with e | e | e <;> (first | lia | omega)
  subst eM
  repeat kbo_bools
  refine st_c (pre := [(L + 1, oB), (L + 2, oL1), (L + 3, oS4), (L + 4, oH4)]) (post := (bl, listO bvs bn) :: (cl, listO cvs cn) :: (((dp, listO dvs dn) :: (rf, od) :: (ot ++ fo)) ++ jk)) F5 N5 hvM (fun p hp => ?_) (fun p hp => ?_) (fun h6 oM6 F6 N6 hM6 => ?_)
  · revert p hp
    refine fm_cons ?_ (fm_cons ?_ (fm_cons ?_ (fm_cons ?_ (fun p hp => nomatch hp))))
    · exact fun e => absurd (Nat.add_left_cancel (n := L) (m := 1) (k := 5) e) (by decide)
    · exact fun e => absurd (Nat.add_left_cancel (n := L) (m := 2) (k := 5) e) (by decide)
    · exact fun e => absurd (Nat.add_left_cancel (n := L) (m := 3) (k := 5) e) (by decide)
    · exact fun e => absurd (Nat.add_left_cancel (n := L) (m := 4) (k := 5) e) (by decide)
  · revert p hp
    refine fm_cons ?_ ?_
    · exact (hoff _ (.head _)).2.2.2.2
    refine fm_cons ?_ ?_
    · exact hncl.2.2.2.2.1
    refine fm_app ?_ ?_
    · intro p hp
      exact (hoff p (.tail _ hp)).2.2.2.2
    intro p hp
    · exact ((ad_off hjk).1 p hp).2.2.2.2
  replace N6 : News hb L h6 ((L + 1, oB) :: (L + 2, oL1) :: (L + 3, oS4) :: (L + 4, oH4) :: (L + 5, oM6) :: (bl, listO bvs bn) :: (cl, listO cvs cn) :: (((dp, listO dvs dn) :: (rf, od) :: (ot ++ fo)) ++ jk)) := N6
  clear N5 F5 N4 F4
  have fof : ∀ p ∈ fo, p.1 ≠ bl ∧ p.1 ≠ dp ∧ p.1 ≠ rf := fun p hp => ⟨hfoC p hp _ (listO bvs bn) (by k_allIn), hfoC p hp _ (listO dvs dn) (by k_allIn), hfoC p hp _ od (by k_allIn)⟩
  have jkf : ∀ p ∈ jk, p.1 ≠ L + 1 ∧ p.1 ≠ L + 2 ∧ p.1 ≠ L + 3 ∧ p.1 ≠ L + 4 ∧ p.1 ≠ L + 5 ∧ p.1 ≠ bl ∧ p.1 ≠ cl ∧ p.1 ≠ dp ∧ p.1 ≠ rf ∧ p.1 ∉ (ot ++ fo).map (·.1) := fun p hp => al_of 9 (hjk p hp)
  have notI : ∀ a : Addr, a ∉ (ot ++ fo).map (·.1) → a ∉ [I + 1, I] := fun a ha hq => by
    refine holdG fun Pz kz => ?_
    obtain ⟨o1, h1⟩ := hI
    obtain ⟨o2, h2⟩ := hI1
    refine kz ?_
    clear kz Pz
    rcases List.mem_cons.mp hq with e | hq
    · exact ha (List.mem_map.mpr ⟨_, List.mem_append_right _ h2, e.symm⟩)
    · exact ha (List.mem_map.mpr ⟨_, List.mem_append_right _ h1, (List.mem_singleton.mp hq).symm⟩)
  have notI2 : ∀ (q : Addr) (o : Obj), (q, o) ∈ (L + 1, oB) :: (L + 2, oL) :: (L + 3, oS) :: (L + 4, oH) :: (L + 5, oM) :: (bl, listO bvs bn) :: (dp, listO dvs dn) :: (rf, od) :: ot → q ∉ [I + 1, I] := fun q o hq hq2 => by
    have := hne _ hq
    rcases List.mem_cons.mp hq2 with e | hq2
    · exact this.2 e
    · exact this.1 (List.mem_singleton.mp hq2)
  have hrun := S.run
  rw [drop_at hx, plainRun] at hrun
  have hdk := S.dk
  have hrs : rs.length ≤ 20 := Nat.le_trans S.rc (by (first | lia | omega))
  have hbad : fitB bs l = false → ∀ {h7 : Heap} {tk7 : Nat}, Fr hb L h7 m4 → News hb L h7 ((L + 1, oB) :: (L + 2, oL1) :: (L + 3, oS4) :: (L + 4, oH4) :: (L + 5, oM6) :: (bl, listO bvs bn) :: (cl, listO cvs cn) :: (((dp, listO dvs dn) :: (rf, od) :: (ot ++ fo)) ++ jk)) →
      wpAny (MM w) A (execs (badB w.params) (envPlain w.params L)) (Sq (MM w) A [] (envPlain w.params L) (Lp (FInv hb L d os (PlP w L dp rf ld g) fo [I + 1, I] (i + 1)) Q) E) E ⟨h7, g, d, tk7, os⟩ := by
    intro hfit h7 tk7 F7 N7
    rw [if_neg (by rw [hfit]; exact Bool.false_ne_true)] at hrun
    have hlt := least_lt hfit
    obtain ⟨b, hb⟩ : ∃ b, bs[leastOf bs l]? = some b := ⟨_, List.getElem?_eq_getElem hlt⟩
    have hbd : bs.getD (leastOf bs l) nil' = b := by rw [List.getD_eq_getElem?_getD, hb]; rfl
    rw [hbd] at hrun
    have hbL : b ∈ LEADS := S.bm b (List.mem_of_getElem? hb)
    have hrl := S.rl.len
    have hrk : rs.length ≤ 20 := hrs
    have N7' := news_sub N7 (l' := (L + 1, oB) :: (L + 2, oL1) :: (L + 3, oS4) :: (L + 4, oH4) :: (L + 5, oM6) :: (bl, listO bvs bn) :: (rf, od) :: ((cl, listO cvs cn) :: (dp, listO dvs dn) :: ((ot ++ fo) ++ jk))) (fun p hp => perm5h hp)
    have h3o : ∀ p ∈ (cl, listO cvs cn) :: (dp, listO dvs dn) :: ((ot ++ fo) ++ jk), (p.1 ≠ rf) ∧ p.1 ≠ L + 1 ∧ p.1 ≠ L + 2 ∧ p.1 ≠ L + 3 ∧ p.1 ≠ L + 4 ∧ p.1 ≠ L + 5 := by
      refine fm_cons ?_ ?_
      · exact ⟨hncl.2.2.2.2.2.2.2.1, hncl.1, hncl.2.1, hncl.2.2.1, hncl.2.2.2.1, hncl.2.2.2.2.1⟩
      refine fm_cons ?_ ?_
      · exact ⟨fun e => S.n3 e.symm, hoff _ (.tail _ (.head _))⟩
      refine fm_app ?_ ?_
      · intro p hp
        refine ⟨?_, hoff p (.tail _ (.tail _ (.tail _ hp)))⟩
        rcases List.mem_append.mp hp with hp | hp
        · exact (S.n4 p hp).2.2
        · exact (fof p hp).2.2
      intro p hp
      · have := jkf p hp
        exact ⟨this.2.2.2.2.2.2.2.2.1, this.1, this.2.1, this.2.2.1, this.2.2.2.1, this.2.2.2.2.1⟩
    have hki : (i : Int) ∉ kvs.map (·.1) := fun q => by
      rw [S.rl.keys] at q
      obtain ⟨p, hp, e⟩ := List.mem_map.mp q
      have := S.rk p hp
      (first | lia | omega)
    refine plain_bad (i := i) (b := b) B R (by rw [hbv.len_eq]; (first | lia | omega)) hbv hb hlsh (short hbL) (by rw [hrl]; exact hrk) F7 N7' S.cB hL1 hM6 (fun p hp => ?_) S.n2 (fun p hp => (h3o p hp).1) hmr4 hmn4 S.dic hki (split_few hbL hlm) (sizes_few hbL hlm) (fun h8 tk8 m8 od8 r t8 u8 jk2 F8 N8 hd8 hjk2 hk8 => ?_)
    · revert p hp
      refine fm_cons ?_ ?_
      · exact hoff _ (.head _)
      refine fm_cons ?_ ?_
      · exact hoff _ (.tail _ (.tail _ (.head _)))
      intro p hp
      · exact (h3o p hp).2
    have jk2f : ∀ p ∈ (r, tupO [.str (pmsg b l) t8, .str (l ++ dotTab) u8]) :: jk2, p.1 ≠ L + 1 ∧ p.1 ≠ L + 2 ∧ p.1 ≠ L + 3 ∧ p.1 ≠ L + 4 ∧ p.1 ≠ L + 5 ∧ p.1 ≠ bl ∧ p.1 ≠ rf ∧ p.1 ≠ cl ∧ p.1 ≠ dp ∧ p.1 ∉ ((ot ++ fo) ++ jk).map (·.1) := fun p hp => al_of 9 (hjk2 p hp)
    have hall : ∀ p ∈ (ot ++ [(r, tupO [.str (pmsg b l) t8, .str (l ++ dotTab) u8])]) ++ ((cl, listO cvs cn) :: (jk ++ jk2)), (p.1 ≠ L + 1 ∧ p.1 ≠ L + 2 ∧ p.1 ≠ L + 3 ∧ p.1 ≠ L + 4 ∧ p.1 ≠ L + 5) ∧ (p.1 ≠ bl ∧ p.1 ≠ dp ∧ p.1 ≠ rf) ∧ p.1 ∉ [I + 1, I] := by
      have h2 : ∀ p ∈ (r, tupO [.str (pmsg b l) t8, .str (l ++ dotTab) u8]) :: jk2, (p.1 ≠ L + 1 ∧ p.1 ≠ L + 2 ∧ p.1 ≠ L + 3 ∧ p.1 ≠ L + 4 ∧ p.1 ≠ L + 5) ∧ (p.1 ≠ bl ∧ p.1 ≠ dp ∧ p.1 ≠ rf) ∧ p.1 ∉ [I + 1, I] := fun p hp => by
        have := jk2f p hp
        exact ⟨⟨this.1, this.2.1, this.2.2.1, this.2.2.2.1, this.2.2.2.2.1⟩, ⟨this.2.2.2.2.2.1, this.2.2.2.2.2.2.2.2.1, this.2.2.2.2.2.2.1⟩, notI _ (ni_app this.2.2.2.2.2.2.2.2.2).1⟩
      refine fm_app (fm_app ?_ (fm_cons (h2 _ (.head _)) (fun p hp => nomatch hp))) (fm_cons ?_ (fm_app ?_ (fun p hp => h2 p (.tail _ hp))))
      · exact fun p hp => ⟨hoff p (.tail _ (.tail _ (.tail _ (List.mem_append_left _ hp)))), S.n4 p hp, notI2 p.1 p.2 (.tail _ (.tail _ (.tail _ (.tail _ (.tail _ (.tail _ (.tail _ (.tail _ hp))))))))⟩
      · exact ⟨⟨hncl.1, hncl.2.1, hncl.2.2.1, hncl.2.2.2.1, hncl.2.2.2.2.1⟩, ⟨hncl.2.2.2.2.2.1, hncl.2.2.2.2.2.2.1, hncl.2.2.2.2.2.2.2.1⟩, notI _ hncl.2.2.2.2.2.2.2.2⟩
      · intro p hp
        have := jkf p hp
        exact ⟨⟨this.1, this.2.1, this.2.2.1, this.2.2.2.1, this.2.2.2.2.1⟩, ⟨this.2.2.2.2.2.1, this.2.2.2.2.2.2.2.1, this.2.2.2.2.2.2.2.2.1⟩, notI _ this.2.2.2.2.2.2.2.2.2⟩
    repeat kbo_bools
    refine lp_next ⟨h8, g, tk8, m8, (L + 1, oB) :: (L + 2, oL1) :: (L + 3, oS4) :: (L + 4, oH4) :: (L + 5, oM6) :: (bl, listO bvs bn) :: (dp, listO dvs dn) :: (rf, od8) :: ((ot ++ [(r, tupO [.str (pmsg b l) t8, .str (l ++ dotTab) u8])]) ++ ((cl, listO cvs cn) :: (jk ++ jk2))), rfl, F8, news_sub N8 (fun p hp => perm5f hp), fun p hp => ?_, rfl, oB, oL1, oS4, oH4, oM6, bl, bvs, bn, bs, dvs, dn, ds, od8, kvs ++ [((i : Int), .ref r)], rs ++ [(i, pmsg b l, l ++ dotTab)], tps ++ [(r, tupO [.str (pmsg b l) t8, .str (l ++ dotTab) u8])], (ot ++ [(r, tupO [.str (pmsg b l) t8, .str (l ++ dotTab) u8])]) ++ ((cl, listO cvs cn) :: (jk ++ jk2)), ?_⟩
    · revert p hp
      refine fm_cons ?_ ?_
      · exact notI2 _ oB (by k_allIn)
      refine fm_cons ?_ ?_
      · exact notI2 _ oL (by k_allIn)
      refine fm_cons ?_ ?_
      · exact notI2 _ oS (by k_allIn)
      refine fm_cons ?_ ?_
      · exact notI2 _ oH (by k_allIn)
      refine fm_cons ?_ ?_
      · exact notI2 _ oM (by k_allIn)
      refine fm_cons ?_ ?_
      · exact notI2 _ (listO bvs bn) (by k_allIn)
      refine fm_cons ?_ ?_
      · exact notI2 _ (listO dvs dn) (by k_allIn)
      refine fm_cons ?_ ?_
      · exact notI2 _ od (by k_allIn)
      intro p hp
      · exact (hall p hp).2.2
    · refine { nw := rfl, cB := S.cB, cL := ⟨_, hL1⟩, cS := ⟨_, hS4⟩, cH := ⟨_, hH4⟩, cM := ⟨_, hM6⟩, md := (hk8 _ (by decide) (by decide) (by decide)).trans hmd4, mr := (hk8 _ (by decide) (by decide) (by decide)).trans hmr4, bv := hbv, bm := S.bm, bk := by (first | lia | omega), dv := S.dv, dk := by (first | lia | omega), dic := hd8, rl := .snoc (S.rl.mono fun p hp => List.mem_append_left _ hp) (List.mem_append_right _ (.head _)), rk := fun p hp => ?_, rc := by rw [List.length_append]; exact Nat.succ_le_succ S.rc, tp := fun p hp => ?_, run := hrun, of := fun p hp => ?_, n1 := S.n1, n2 := S.n2, n3 := S.n3, n4 := fun p hp => (hall p hp).2.1 }
      · rcases List.mem_append.mp hp with hp | hp
        · exact Nat.lt_succ_of_lt (S.rk p hp)
        · rw [List.mem_singleton.mp hp]; exact Nat.lt_succ_self _
      · rcases List.mem_append.mp hp with hp | hp
        · exact List.mem_append_left _ (List.mem_append_left _ (S.tp p hp))
        · exact List.mem_append_left _ (List.mem_append_right _ hp)
      · revert p hp
        refine fm_cons ?_ ?_
        · exact hoff _ (.head _)
        refine fm_cons ?_ ?_
        · exact hoff _ (.tail _ (.head _))
        refine fm_cons ?_ ?_
        · exact hoff (rf, od) (.tail _ (.tail _ (.head _)))
        intro p hp
        · exact (hall p hp).1
  have hgood : fitB bs l = true → ∀ {h7 : Heap} {tk7 : Nat}, Fr hb L h7 m4 → News hb L h7 ((L + 1, oB) :: (L + 2, oL1) :: (L + 3, oS4) :: (L + 4, oH4) :: (L + 5, oM6) :: (bl, listO bvs bn) :: (cl, listO cvs cn) :: (((dp, listO dvs dn) :: (rf, od) :: (ot ++ fo)) ++ jk)) →
      wpAny (MM w) A (execs (goodB w.params) (envPlain w.params L)) (Sq (MM w) A [] (envPlain w.params L) (Lp (FInv hb L d os (PlP w L dp rf ld g) fo [I + 1, I] (i + 1)) Q) E) E ⟨h7, g, d, tk7, os⟩ := by
    intro hfit h7 tk7 F7 N7
    rw [if_pos hfit] at hrun
    have N7' := news_sub N7 (l' := (L + 1, oB) :: (L + 2, oL1) :: (L + 3, oS4) :: (L + 4, oH4) :: (L + 5, oM6) :: (bl, listO bvs bn) :: (dp, listO dvs dn) :: ((cl, listO cvs cn) :: (rf, od) :: ((ot ++ fo) ++ jk))) (fun p hp => perm5g hp)
    have h3o : ∀ p ∈ (cl, listO cvs cn) :: (rf, od) :: ((ot ++ fo) ++ jk), (p.1 ≠ dp ∧ p.1 ≠ bl) ∧ p.1 ≠ L + 1 ∧ p.1 ≠ L + 2 ∧ p.1 ≠ L + 3 ∧ p.1 ≠ L + 4 ∧ p.1 ≠ L + 5 := by
      refine fm_cons ?_ ?_
      · exact ⟨⟨hncl.2.2.2.2.2.2.1, hncl.2.2.2.2.2.1⟩, hncl.1, hncl.2.1, hncl.2.2.1, hncl.2.2.2.1, hncl.2.2.2.2.1⟩
      refine fm_cons ?_ ?_
      · exact ⟨⟨S.n3, S.n2⟩, hoff _ (.tail _ (.tail _ (.head _)))⟩
      refine fm_app ?_ ?_
      · intro p hp
        refine ⟨?_, hoff p (.tail _ (.tail _ (.tail _ hp)))⟩
        rcases List.mem_append.mp hp with hp | hp
        · exact ⟨(S.n4 p hp).2.1, (S.n4 p hp).1⟩
        · exact ⟨(fof p hp).2.1, (fof p hp).1⟩
      intro p hp
      · have := jkf p hp
        exact ⟨⟨this.2.2.2.2.2.2.2.1, this.2.2.2.2.2.1⟩, this.1, this.2.1, this.2.2.1, this.2.2.2.1, this.2.2.2.2.1⟩
    refine plain_good B R (by rw [hbv.len_eq]; (first | lia | omega)) (by rw [ints_len S.dv]; simp [dsI]; (first | lia | omega)) F7 N7' S.cB hL1 hM6 (fun p hp => ?_) S.n1 (fun p hp => (h3o p hp).1.1) (fun p hp => (h3o p hp).1.2) hmd4 (fun h8 tk8 oB8 bl' dn' jk2 F8 N8 hB8 hbl' hjk2 => ?_)
    · revert p hp
      refine fm_cons ?_ ?_
      · exact hoff _ (.head _)
      refine fm_cons ?_ ?_
      · exact hoff _ (.tail _ (.head _))
      intro p hp
      · exact (h3o p hp).2
    replace hbl' := al_of 9 hbl'
    have jk2f : ∀ p ∈ jk2, p.1 ≠ L + 1 ∧ p.1 ≠ L + 2 ∧ p.1 ≠ L + 3 ∧ p.1 ≠ L + 4 ∧ p.1 ≠ L + 5 ∧ p.1 ≠ bl' ∧ p.1 ≠ dp ∧ p.1 ≠ cl ∧ p.1 ≠ rf ∧ p.1 ∉ ((ot ++ fo) ++ jk).map (·.1) := fun p hp => al_of 9 (hjk2 p hp)
    have nmem : ∀ {a : Addr} {q : List (Addr × Obj)}, a ∉ q.map (·.1) → ∀ p ∈ q, p.1 ≠ a := fun ha p hp e => ha (List.mem_map.mpr ⟨p, hp, e⟩)
    have hall : ∀ p ∈ ot ++ ((cl, listO cvs cn) :: (jk ++ jk2)), (p.1 ≠ L + 1 ∧ p.1 ≠ L + 2 ∧ p.1 ≠ L + 3 ∧ p.1 ≠ L + 4 ∧ p.1 ≠ L + 5) ∧ (p.1 ≠ bl' ∧ p.1 ≠ dp ∧ p.1 ≠ rf) ∧ p.1 ∉ [I + 1, I] := by
      refine fm_app ?_ ?_
      · intro p hp
        exact ⟨hoff p (.tail _ (.tail _ (.tail _ (List.mem_append_left _ hp)))), ⟨nmem (ni_app (ni_app hbl'.2.2.2.2.2.2.2.2.2).1).1 p hp, (S.n4 p hp).2.1, (S.n4 p hp).2.2⟩, notI2 p.1 p.2 (.tail _ (.tail _ (.tail _ (.tail _ (.tail _ (.tail _ (.tail _ (.tail _ hp))))))))⟩
      refine fm_cons ?_ ?_
      · exact ⟨⟨hncl.1, hncl.2.1, hncl.2.2.1, hncl.2.2.2.1, hncl.2.2.2.2.1⟩, ⟨fun e => hbl'.2.2.2.2.2.2.2.1 e.symm, hncl.2.2.2.2.2.2.1, hncl.2.2.2.2.2.2.2.1⟩, notI _ hncl.2.2.2.2.2.2.2.2⟩
      refine fm_app ?_ ?_
      · intro p hp
        have := jkf p hp
        exact ⟨⟨this.1, this.2.1, this.2.2.1, this.2.2.2.1, this.2.2.2.2.1⟩, ⟨nmem (ni_app hbl'.2.2.2.2.2.2.2.2.2).2 p hp, this.2.2.2.2.2.2.2.1, this.2.2.2.2.2.2.2.2.1⟩, notI _ this.2.2.2.2.2.2.2.2.2⟩
      intro p hp
      · have := jk2f p hp
        exact ⟨⟨this.1, this.2.1, this.2.2.1, this.2.2.2.1, this.2.2.2.2.1⟩, ⟨this.2.2.2.2.2.1, this.2.2.2.2.2.2.1, this.2.2.2.2.2.2.2.2.1⟩, notI _ (ni_app this.2.2.2.2.2.2.2.2.2).1⟩
    repeat kbo_bools
    refine lp_next ⟨h8, g, tk8, m4, (L + 1, oB8) :: (L + 2, oL1) :: (L + 3, oS4) :: (L + 4, oH4) :: (L + 5, oM6) :: (bl', listO (bvs.take (leastOf bs l) ++ [.str l u]) 0) :: (dp, listO (dvs ++ [.int (leastOf bs l) t5]) dn') :: (rf, od) :: (ot ++ ((cl, listO cvs cn) :: (jk ++ jk2))), rfl, F8, news_sub N8 (fun p hp => perm5d hp), fun p hp => ?_, rfl, oB8, oL1, oS4, oH4, oM6, bl', bvs.take (leastOf bs l) ++ [.str l u], 0, bs.take (leastOf bs l) ++ [l], dvs ++ [.int (leastOf bs l) t5], dn', ds ++ [leastOf bs l], od, kvs, rs, tps, ot ++ ((cl, listO cvs cn) :: (jk ++ jk2)), ?_⟩
    · revert p hp
      refine fm_cons ?_ ?_
      · exact notI2 _ oB (by k_allIn)
      refine fm_cons ?_ ?_
      · exact notI2 _ oL (by k_allIn)
      refine fm_cons ?_ ?_
      · exact notI2 _ oS (by k_allIn)
      refine fm_cons ?_ ?_
      · exact notI2 _ oH (by k_allIn)
      refine fm_cons ?_ ?_
      · exact notI2 _ oM (by k_allIn)
      refine fm_cons ?_ ?_
      · exact notI _ (ni_app hbl'.2.2.2.2.2.2.2.2.2).1
      refine fm_cons ?_ ?_
      · exact notI2 _ (listO dvs dn) (by k_allIn)
      refine fm_cons ?_ ?_
      · exact notI2 _ od (by k_allIn)
      intro p hp
      · exact (hall p hp).2.2
    · refine { nw := rfl, cB := hB8, cL := ⟨_, hL1⟩, cS := ⟨_, hS4⟩, cH := ⟨_, hH4⟩, cM := ⟨_, hM6⟩, md := hmd4, mr := hmr4, bv := strs_snoc (strs_take _ hbv), bm := fun b hb => ?_, bk := ?_, dv := ?_, dk := ?_, dic := S.dic, rl := S.rl, rk := fun p hp => Nat.lt_succ_of_lt (S.rk p hp), rc := Nat.le_succ_of_le S.rc, tp := fun p hp => List.mem_append_left _ (S.tp p hp), run := hrun, of := fun p hp => ?_, n1 := fun e => hbl'.2.2.2.2.2.2.1 e.symm, n2 := fun e => hbl'.2.2.2.2.2.2.2.2.1 e.symm, n3 := S.n3, n4 := fun p hp => (hall p hp).2.1 }
      · rcases List.mem_append.mp hb with hb | hb
        · exact S.bm b (List.mem_of_mem_take hb)
        · rw [List.mem_singleton.mp hb]; exact hlm
      · rw [List.length_append, List.length_take]; simp; (first | lia | omega)
      · rw [show dsI (ds ++ [leastOf bs l]) = dsI ds ++ [(leastOf bs l : Int)] by simp [dsI]]
        exact ints_snoc S.dv
      · simp; (first | lia | omega)
      · revert p hp
        refine fm_cons ?_ ?_
        · exact ⟨hbl'.1, hbl'.2.1, hbl'.2.2.1, hbl'.2.2.2.1, hbl'.2.2.2.2.1⟩
        refine fm_cons ?_ ?_
        · exact hoff (dp, listO dvs dn) (.tail _ (.head _))
        refine fm_cons ?_ ?_
        · exact hoff _ (.tail _ (.tail _ (.head _)))
        intro p hp
        · exact (hall p hp).1
  repeat kbo_bools
  refine ifB (fun hb1 => ?_) (fun hb1 => ?_)
  · repeat kbo_bools
    refine max_list_N (s := ⟨h6, g, d, _, os⟩) hh F6 N6 (isl N6 (by k_allIn : (cl, listO cvs cn) ∈ _) (listIs_O _ _)) hci' (by simp) (fun h7 M t7 tk7 F7 N7 hM1 hM2 => ?_)
    have eM : M = (mostOf bs l : Int) := by
      have q1 := hM2 _ (.head _)
      have q2 := hM2 _ (.tail _ (.head _))
      have q3 := hM2 _ (.tail _ (.tail _ (.head _)))
      simp only [List.mem_cons, List.mem_nil_iff, or_false] at hM1
      unfold mostOf
      rcases hM1 with e | e | e <;> (first | lia | omega)
    subst eM
    repeat kbo_bools
    k_ownIn
    repeat kbo_bools
    refine ifB (fun hb2 => ?_) (fun hb2 => ?_)
    · repeat kbo_bools
      refine ifT rfl ?_
      exact hgood (by unfold fitB; rw [hb1, decide_eq_true (by have := of_decide_eq_true hb2; (first | lia | omega))]; rfl) F7 N7
    · refine ifF rfl ?_
      exact hbad (by unfold fitB; rw [hb1, decide_eq_false (by intro e; rw [e] at hb2; simp at hb2)]; rfl) F7 N7
  · refine ifF rfl ?_
    exact hbad (by unfold fitB; rw [hb1]; rfl) F6 N6
end
end
section
open PySem PySem.W PyProof.Rows PySem.Calls PySem.Spec PyProof.V
set_option maxHeartbeats 2000000
section
variable {w : World} {A : Around} {E : Value → Shared → Prop} {h : Heap} {g : Array GenState} {d : Drawn} {tk : Nat} {os : OsState} {mg mb : Str → Option Value}
theorem perm6a {α : Type} {p a b c d e f k r : α} (h : p ∈ a :: b :: c :: d :: e :: f :: k :: r :: []) : p ∈ r :: k :: f :: a :: b :: c :: d :: e :: [] := by
  have key : ∀ q0, q0 ∈ a :: b :: c :: d :: e :: f :: k :: r :: [] → q0 ∈ r :: k :: f :: a :: b :: c :: d :: e :: [] := by
    clear h
    refine fm_app (k := [a, b, c, d, e]) ?_ ?_
    · exact fun p q => (.tail _ (.tail _ (.tail _ q)))
    refine fm_cons ?_ ?_
    · exact (.tail _ (.tail _ (.head _)))
    refine fm_cons ?_ ?_
    · exact (.tail _ (.head _))
    refine fm_cons ?_ ?_
    · exact (.head _)
    exact fun p q => nomatch q
  exact key p h
theorem nil_lead : nil' ∈ LEADS := lead_mem (a := 0) (b := 0) (c := 0) (d := 0) (by decide) (by decide) (by decide) (by decide)
theorem plain_ok {lds : Addr} {lvs : List Value} {ld : List Str} {Q : Value → Shared → Prop} (B : Bs w mg mb h) (R : Rm A 9) (hll : h.IsList lds lvs.toArray) (hlv : StrsAre lvs ld) (hld : ∀ l ∈ ld, l ∈ LEADS) (hl6 : ld.length ≤ 6)
    (hQ : ∀ h' tk' T dp rf od kvs tps dvs n', Ext h h' → h'.get? T = some (tupO [.ref dp, .ref rf]) → h'.get? dp = some (listO dvs n') → IntsAre dvs (dsI (plainRun ld 0 [nil'] [] []).1) → h'.get? rf = some od →
      od.IsDictOf (intKind PG w) kvs → RefL tps kvs (plainRun ld 0 [nil'] [] []).2 → (∀ p ∈ tps, h'.get? p.1 = some p.2) → (rf == sysModules) = false → Q (.ref T) ⟨h', g, d, tk', os⟩) :
    wpAny (MM w) A (call (.ref 250) [.ref lds]) Q E ⟨h, g, d, tk, os⟩ := by
  refine enterCs (fd := fPlain w.params) (body := _) (binds := [(⟨⟨[108, 101, 97, 100, 115]⟩⟩, .ref lds)]) B (plain_at _) rfl (by kernel_rfl) rfl (by kernel_rfl) R.room ?_ ?_ rfl rfl rfl rfl
  · intro L x hx
    rw [List.mem_singleton.mp hx]
    exact .inl rfl
  intro h1 L tk1 E' F HC
  rw [bindL_lk _ _ (fun x hx => by rw [List.mem_singleton.mp hx]; rfl)] at F
  have R' : Rm (A.deeper (callEnvC (fPlain w.params) L 250)) 8 := R.deeper
  refine holdG fun Pz kz => ?_
  obtain ⟨oB, NB, hB⟩ := HC ⟨⟨[98, 108, 111, 99, 107, 115]⟩⟩ (L + 1) rfl
  obtain ⟨oL, NL, hL⟩ := HC ⟨⟨[108, 101, 97, 100]⟩⟩ (L + 2) rfl
  obtain ⟨oS, NS, hS⟩ := HC ⟨⟨[115, 105, 122, 101]⟩⟩ (L + 3) rfl
  obtain ⟨oH, NH, hH⟩ := HC ⟨⟨[104, 101, 114, 101]⟩⟩ (L + 4) rfl
  obtain ⟨oM, NM, hM⟩ := HC ⟨⟨[108, 101, 97, 115, 116]⟩⟩ (L + 5) rfl
  refine kz ?_
  clear kz Pz
  have N : News h L h1 [(L + 1, oB), (L + 2, oL), (L + 3, oS), (L + 4, oH), (L + 5, oM)] := fun p hp => by
    simp only [List.mem_cons, List.mem_nil_iff, or_false] at hp
    rcases hp with rfl | rfl | rfl | rfl | rfl
    · exact NB _ (.head _)
    · exact NL _ (.head _)
    · exact NS _ (.head _)
    · exact NH _ (.head _)
    · exact NM _ (.head _)
  have hh := R'.hd
  obtain ⟨m1, F, hmL⟩ : ∃ m1 : Str → Option Value, Fr h L h1 m1 ∧ m1 ⟨⟨[108, 101, 97, 100, 115]⟩⟩ = some (.ref lds) := ⟨_, F, rfl⟩
  refine seq ?_
  repeat kbo_bools
  refine al_list F N (by show 1 ≤ 1000; decide) (fun bl h2 F2 N2 hl2 X2 _ => ?_)
  have n2 := ap_of 5 (nin hl2)
  repeat kbo_bools
  refine st_c (pre := [(bl, _)]) (post := [(L + 2, oL), (L + 3, oS), (L + 4, oH), (L + 5, oM)]) F2 N2 hB (fun p hp => ?_) (fun p hp => ?_) (fun h3 oB3 F3 N3 hB3 => ?_)
  · rw [List.mem_singleton.mp hp]; exact n2.1
  · simp only [List.mem_cons, List.mem_nil_iff, or_false] at hp
    rcases hp with rfl | rfl | rfl | rfl
    · exact fun e => absurd (Nat.add_left_cancel (n := L) (m := 2) (k := 1) e) (by decide)
    · exact fun e => absurd (Nat.add_left_cancel (n := L) (m := 3) (k := 1) e) (by decide)
    · exact fun e => absurd (Nat.add_left_cancel (n := L) (m := 4) (k := 1) e) (by decide)
    · exact fun e => absurd (Nat.add_left_cancel (n := L) (m := 5) (k := 1) e) (by decide)
  repeat kbo_bools
  refine al_list F3 N3 (by decide) (fun dp h4 F4 N4 hl4 X4 _ => ?_)
  have n4 := ap_of 6 (nin hl4)
  repeat kbo_bools
  refine wpAny_Dict_empty ?_
  rename_i h5 tk5 F5 N5
  have F6 := F5.push emptyDict
  have N6 := News.push F5 N5 emptyDict
  have n6 := ap_of 7 (nin (nw_lt N5))
  have hod : (emptyDict : Obj).IsDictOf (intKind PG w) [] := by
    obtain ⟨o, ho, hd⟩ := Heap.dictOf_iff.mp (Heap.DictOf.new (knd := intKind PG w) h5)
    rw [Heap.get?_push_size _ rfl] at ho
    cases ho; exact hd
  have hbig : sysModules < h.objs.size := Nat.lt_of_le_of_lt (by decide) (Heap.lt_size (B.X _ _ (plain_at _)))
  have hmods : (h5.objs.size == sysModules) = false := F5.notModules hbig
  generalize h5.objs.size = rf at *
  generalize h5.push emptyDict = h6 at *
  repeat ((fail_if_success (with_reducible show wpAny _ _ (exec (Stmt.For _ _ _ _ _) _) _ _ _)); kbo_bools)
  rename_i h7 tk7 F7 N7
  repeat kbo_bools
  have hllh : h7.IsList lds lvs.toArray := let ⟨o, e, r⟩ := hll; ⟨o, F7.keep _ _ e, r⟩
  have hlL : lds ≠ L := let ⟨_, e1, _⟩ := hll; Nat.ne_of_lt (Nat.lt_of_lt_of_le (Heap.lt_size e1) F7.above)
  refine for_enumA (PlP w L dp rf ld g) hh hllh hlL F7 (news_sub N7 (l' := (L + 1, oB3) :: (L + 2, oL) :: (L + 3, oS) :: (L + 4, oH) :: (L + 5, oM) :: (bl, listO [.str ⟨⟨[]⟩⟩ _] 0) :: (dp, listO [] 0) :: (rf, emptyDict) :: []) (fun p hp => perm6a hp))
    ⟨rfl, oB3, oL, oS, oH, oM, bl, [.str ⟨⟨[]⟩⟩ _], 0, [nil'], [], 0, [], emptyDict, [], [], [], [], { nw := rfl, cB := hB3, cL := ⟨_, hL⟩, cS := ⟨_, hS⟩, cH := ⟨_, hH⟩, cM := ⟨_, hM⟩, md := by tb_rel, mr := by tb_rel, bv := .cons _ _ .nil, bm := fun b hb => by rw [List.mem_singleton.mp hb]; exact nil_lead, bk := by decide, dv := .nil, dk := by decide, dic := hod, rl := .nil, rk := fun _ hp => (nomatch hp), rc := by decide, tp := fun _ hp => (nomatch hp), run := rfl, of := fun p hp => ?_, n1 := n4.1, n2 := n6.2.1, n3 := n6.1, n4 := fun _ hp => (nomatch hp) }⟩ ?_ ?_
  · simp only [List.mem_cons, List.mem_nil_iff, or_false] at hp
    rcases hp with rfl | rfl | rfl
    · exact ⟨n2.1, n2.2.1, n2.2.2.1, n2.2.2.2.1, n2.2.2.2.2.1⟩
    · exact ⟨n4.2.1, n4.2.2.1, n4.2.2.2.1, n4.2.2.2.2.1, n4.2.2.2.2.2.1⟩
    · exact ⟨n6.2.2.1, n6.2.2.2.1, n6.2.2.2.2.1, n6.2.2.2.2.2.1, n6.2.2.2.2.2.2.1⟩
  · rintro i v t g' m' nw' h8 tk8 E8 fo I T hv hP hne F8 hT N8 hI hI1 hfk hb
    have hil : i < ld.length := by rw [← hlv.len_eq]; exact (List.getElem?_eq_some_iff.mp hv).1
    obtain ⟨u, hu⟩ := hlv.at (List.getElem?_eq_getElem hil)
    rw [hv] at hu
    cases hu
    have hgg : g' = g := by obtain ⟨e, _⟩ := hP; exact e
    subst hgg
    refine outer_turn B R' hld hl6 (List.getElem?_eq_getElem hil) hP hne F8 N8 hT hI hI1 (fun p hp => ?_)
    rcases hfk p hp with e | e | e
    · exact .inl e
    · exact .inr e
    · exfalso
      obtain ⟨o, e1, _⟩ := hll
      have := (N8 p (List.mem_append_left _ hp)).2.2
      rw [e, e1] at this
      cases this
  · rintro g' m' nw' h8 tk8 ⟨rfl, oB, oL, oS, oH, oM, bl, bvs, bn, bs, dvs, dn, ds, od, kvs, rs, tps, ot, S⟩ F8 N8
    have enw := S.nw
    subst enw
    have hmd := S.md
    have hmr := S.mr
    have hrun := S.run
    rw [hlv.len_eq, List.drop_length] at hrun
    have hrun' : (ds, rs) = plainRun ld 0 [nil'] [] [] := hrun
    repeat kbo_bools
    refine al_tup F8 N8 (by show 2 ≤ 1000; decide) (fun T h9 F9 N9 hl9 X9 _ => ?_)
    repeat kbo_bools
    refine hQ h9 _ T dp rf od kvs tps dvs dn F9.keep (nget N9 (.head _)) (nget N9 (by k_allIn)) (by rw [← hrun']; exact S.dv) (nget N9 (by k_allIn)) S.dic (by rw [← hrun']; exact S.rl) (fun p hp => nget N9 ?_) hmods
    exact .tail _ (.tail _ (.tail _ (.tail _ (.tail _ (.tail _ (.tail _ (.tail _ (.tail _ (S.tp p hp)))))))))
end
end
section
open PySem PySem.W PyProof.Rows PySem.Calls PySem.Spec PyProof.V
set_option maxHeartbeats 2000000
/- the two readers agree -/
theorem tab_lss : LEADS.all (fun b => LEADS.all fun l => lss b l == (decide (col b 1 < col l 1) && decide (col b 2 < col l 2) && decide (col b 3 < col l 3))) = true := by decide +kernel
theorem tab_eqq : LEADS.all (fun b => LEADS.all fun l => eqq b l == (decide (col b 1 = col l 1) && decide (col b 2 = col l 2) && decide (col b 3 = col l 3))) = true := by decide +kernel
noncomputable def runsGo : List Nat → Nat → List Nat
  | [], n => [n]
  | a :: r, n => if a = 9 then n :: runsGo r 0 else runsGo r (n + 1)
theorem runs_free : ∀ (p r : List Nat) (n : Nat), 9 ∉ p → runsGo (p ++ r) n = runsGo r (n + p.length)
  | [], _, _, _ => rfl
  | a :: p, r, n, h => by
    have ha : ¬ a = 9 := fun e => h (e ▸ .head _)
    rw [List.cons_append, runsGo, if_neg ha, runs_free p r (n + 1) (fun q => h (.tail _ q)), List.length_cons, Nat.add_assoc, Nat.add_comm 1]
theorem runs_join : ∀ (ps : List Str) (p : Str), (∀ q ∈ p :: ps, 9 ∉ q.cps.toList) → runsGo (Str.join tab (p :: ps)).cps.toList 0 = (p :: ps).map (·.length)
  | [], p, h => by
    have := runs_free p.cps.toList [] 0 (h p (.head _))
    rw [List.append_nil, Nat.zero_add] at this
    exact this
  | q :: ps, p, h => by
    have e : (p ++ tab ++ Str.join tab (q :: ps)).cps.toList = p.cps.toList ++ 9 :: (Str.join tab (q :: ps)).cps.toList := by
      show (p.cps ++ #[9] ++ (Str.join tab (q :: ps)).cps).toList = _
      rw [Array.toList_append, Array.toList_append, List.append_assoc]; rfl
    show runsGo (p ++ tab ++ Str.join tab (q :: ps)).cps.toList 0 = _
    rw [e, runs_free _ _ _ (h p (.head _)), runsGo, if_pos rfl, runs_join ps q (fun z hz => h z (.tail _ hz)), Nat.zero_add]
    rfl
theorem long_runs (b l : Str) : longN b l = (runsGo (joinL b l).cps.toList 0).foldl max 0 := by
  have h1 := StrLaws.join_split (joinL b l) tab
  have h2 := StrLaws.split_free (joinL b l) 9
  have h3 := PyProof.Rows.split_pos (joinL b l) tab
  unfold longN
  change ∀ p ∈ Txt.split (joinL b l) tab, _ at h2
  revert h1 h2 h3
  generalize Txt.split (joinL b l) tab = ps
  intro h1 h3 h2
  cases ps with
  | nil => cases h3
  | cons p ps => rw [← h1, runs_join ps p h2]
noncomputable def sizesR (b l : Str) : List Int := (rangeInts 1 1 ((runsGo (joinL b l).cps.toList 0).foldl max 0 + 1)).filter fun s => !decide ((col b s.toNat : Int) = (col l s.toNat : Int))
theorem sizes_R (b l : Str) : sizesOf b l = sizesR b l := by unfold sizesOf sizesR; rw [long_runs]
theorem tab_msg : LEADS.all (fun b => LEADS.all fun l => lss b l || eqq b l || decide ((witL (wtOf b) (wtOf l) (witN (wtOf b) (wtOf l))).map (fun n : Nat => (n : Int)) = sizesR b l)) = true := by decide +kernel
theorem tab_nil : LEADS.all (fun l => !eqq nil' l || decide (l.cps.toList = [])) = true := by decide +kernel
theorem pair2 {p : Str → Str → Bool} (h : LEADS.all (fun b => LEADS.all fun l => p b l) = true) {b l : Str} (hb : b ∈ LEADS) (hl : l ∈ LEADS) : p b l = true := List.all_eq_true.mp (List.all_eq_true.mp h b hb) l hl
theorem lss_col {b l : Str} (hb : b ∈ LEADS) (hl : l ∈ LEADS) : lss b l = true ↔ col b 1 < col l 1 ∧ col b 2 < col l 2 ∧ col b 3 < col l 3 := by
  have := pair2 (p := fun b l => lss b l == (decide (col b 1 < col l 1) && decide (col b 2 < col l 2) && decide (col b 3 < col l 3))) tab_lss hb hl
  rw [beq_iff_eq] at this
  rw [this]; simp [and_assoc]
theorem eqq_col {b l : Str} (hb : b ∈ LEADS) (hl : l ∈ LEADS) : eqq b l = true ↔ col b 1 = col l 1 ∧ col b 2 = col l 2 ∧ col b 3 = col l 3 := by
  have := pair2 (p := fun b l => eqq b l == (decide (col b 1 = col l 1) && decide (col b 2 = col l 2) && decide (col b 3 = col l 3))) tab_eqq hb hl
  rw [beq_iff_eq] at this
  rw [this]; simp [and_assoc]
theorem msg_is {b l : Str} (hb : b ∈ LEADS) (hl : l ∈ LEADS) (h1 : lss b l = false) (h2 : eqq b l = false) : msg b l = pmsg b l := by
  have := pair2 (p := fun b l => lss b l || eqq b l || decide ((witL (wtOf b) (wtOf l) (witN (wtOf b) (wtOf l))).map (fun n : Nat => (n : Int)) = sizesR b l)) tab_msg hb hl
  simp only [h1, h2, Bool.false_or, decide_eq_true_eq] at this
  rw [← sizes_R] at this
  unfold msg pmsg wordsOf
  rw [← this, List.map_map, List.length_map]
  have e : (strOf ∘ fun n : Nat => (n : Int)) = fun n : Nat => strOf n := rfl
  rw [e]
  by_cases h : 1 < (witL (wtOf b) (wtOf l) (witN (wtOf b) (wtOf l))).length
  · rw [if_pos h, if_pos h]; try rfl
  · rw [if_neg h, if_neg h]; try rfl
theorem nil_eq {l : Str} (hl : l ∈ LEADS) (h : eqq nil' l = true) : l = nil' := by
  have := List.all_eq_true.mp tab_nil l hl
  simp only [h, Bool.not_true, Bool.false_or, decide_eq_true_eq] at this
  show l = ⟨⟨[]⟩⟩
  rw [← this]
end
section
open PySem PySem.W PyProof.Rows PySem.Calls PySem.Spec PyProof.V
set_option maxHeartbeats 2000000
theorem cnt_filter (bs : List Str) (l : Str) (s : Nat) : cntS bs l s = (bs.filter fun b => decide (col b s < col l s)).length := by
  unfold cntS
  rw [List.filter_map, List.length_map]
  congr 1
  apply List.filter_congr
  intro b _
  simp
theorem cnt_app (a b : List Str) (l : Str) (s : Nat) : cntS (a ++ b) l s = cntS a l s + cntS b l s := by
  rw [cnt_filter, cnt_filter, cnt_filter, List.filter_append, List.length_append]
theorem cnt_all {a : List Str} {l : Str} {s : Nat} (h : ∀ b ∈ a, col b s < col l s) : cntS a l s = a.length := by
  rw [cnt_filter, List.filter_eq_self.mpr (fun b hb => decide_eq_true (h b hb))]
theorem cnt_none {a : List Str} {l : Str} {s : Nat} (h : ∀ b ∈ a, ¬ col b s < col l s) : cntS a l s = 0 := by
  rw [cnt_filter, List.filter_eq_nil_iff.mpr (fun b hb => by simpa using h b hb)]
  rfl
theorem depth_split (ls : List Str) (l : Str) : ls = ls.take (depthOf ls l) ++ ls.drop (depthOf ls l) ∧ (∀ b ∈ ls.take (depthOf ls l), lss b l = true) ∧ (ls.take (depthOf ls l)).length = depthOf ls l := by
  refine ⟨(List.take_append_drop _ _).symm, fun b hb => ?_, ?_⟩
  · obtain ⟨i, hi, e⟩ := List.getElem_of_mem hb
    have hi' : i < depthOf ls l := by rw [List.length_take] at hi; (first | lia | omega)
    refine depth_lt hi' ?_
    rw [← e, List.getElem_take]
    exact List.getElem?_eq_getElem _
  · rw [List.length_take, Nat.min_eq_left (depth_le _ _)]
theorem not_less {ls : List Str} {l b : Str} (h : ls[depthOf ls l]? = some b) : lss b l = false := depth_at h
/-- what one row does, both ways -/
theorem row_agree {ls : List Str} {l : Str} (C : Chain ls) (hl : l ∈ LEADS) : leastOf ls l = depthOf ls l ∧ (∀ b, ls[depthOf ls l]? = some b → fitB ls l = eqq b l) ∧ (ls[depthOf ls l]? = none → fitB ls l = true) := by
  obtain ⟨h1, h2, h3⟩ := depth_split ls l
  have hcol : ∀ b ∈ ls.take (depthOf ls l), col b 1 < col l 1 ∧ col b 2 < col l 2 ∧ col b 3 < col l 3 := fun b hb => (lss_col (C.mem b (List.mem_of_mem_take hb)) hl).mp (h2 b hb)
  have hcnt : ∀ s, (s = 1 ∨ s = 2 ∨ s = 3) → cntS ls l s = depthOf ls l + cntS (ls.drop (depthOf ls l)) l s := fun s hs => by
    conv => lhs; rw [h1]
    rw [cnt_app, cnt_all (fun b hb => by rcases hs with rfl | rfl | rfl; exact (hcol b hb).1; exact (hcol b hb).2.1; exact (hcol b hb).2.2), h3]
  have c1 := hcnt 1 (.inl rfl)
  have c2 := hcnt 2 (.inr (.inl rfl))
  have c3 := hcnt 3 (.inr (.inr rfl))
  cases e : ls[depthOf ls l]? with
  | none =>
    have hd : ls.drop (depthOf ls l) = [] := List.drop_eq_nil_of_le (List.getElem?_eq_none_iff.mp e)
    have hlen : ls.length = depthOf ls l := Nat.le_antisymm (List.getElem?_eq_none_iff.mp e) (depth_le _ _)
    rw [hd] at c1 c2 c3
    have z : ∀ s, cntS [] l s = 0 := fun s => rfl
    rw [z] at c1 c2 c3
    refine ⟨by unfold leastOf; (first | lia | omega), fun b q => (nomatch q), fun _ => ?_⟩
    unfold fitB
    have e : fitI ls l 3 = true := by
      unfold fitI
      rw [show List.range 3 = [0, 1, 2] from rfl]
      simp [fit_full (s := 1) (show ls.length ≤ cntS ls l 1 by (first | lia | omega)), fit_full (s := 2) (show ls.length ≤ cntS ls l 2 by (first | lia | omega)), fit_full (s := 3) (show ls.length ≤ cntS ls l 3 by (first | lia | omega))]
    rw [e, decide_eq_true (by unfold mostOf leastOf; (first | lia | omega))]
    rfl
  | some b =>
    have hlt := (List.getElem?_eq_some_iff.mp e).1
    have hbm : b ∈ LEADS := C.mem b (List.mem_of_getElem? e)
    have hd : ls.drop (depthOf ls l) = b :: ls.drop (depthOf ls l + 1) := by
      rw [List.drop_eq_getElem_cons hlt, (List.getElem?_eq_some_iff.mp e).2]
    have hn := not_less e
    have hrest : ∀ r ∈ ls.drop (depthOf ls l + 1), col b 1 < col r 1 ∧ col b 2 < col r 2 ∧ col b 3 < col r 3 := fun r hr => by
      have hp := C.asc.sublist (List.drop_sublist (depthOf ls l) ls)
      rw [hd] at hp
      have hrm : r ∈ LEADS := C.mem r (List.mem_of_mem_drop hr)
      exact (lss_col hbm hrm).mp ((List.pairwise_cons.mp hp).1 r hr)
    have hz : ∀ s, (s = 1 ∨ s = 2 ∨ s = 3) → ¬ col b s < col l s → cntS (ls.drop (depthOf ls l)) l s = 0 := fun s hs hns => by
      rw [hd]
      refine cnt_none fun r hr => ?_
      revert r hr
      refine fm_cons ?_ ?_
      · exact hns
      intro r hr
      · have := hrest r hr
        rcases hs with rfl | rfl | rfl <;> (first | lia | omega)
    have hex : ¬ col b 1 < col l 1 ∨ ¬ col b 2 < col l 2 ∨ ¬ col b 3 < col l 3 := by
      rcases Nat.lt_or_ge (col b 1) (col l 1) with q1 | q1
      · rcases Nat.lt_or_ge (col b 2) (col l 2) with q2 | q2
        · rcases Nat.lt_or_ge (col b 3) (col l 3) with q3 | q3
          · rw [(lss_col hbm hl).mpr ⟨q1, q2, q3⟩] at hn; cases hn
          · exact .inr (.inr (by (first | lia | omega)))
        · exact .inr (.inl (by (first | lia | omega)))
      · exact .inl (by (first | lia | omega))
    have hk : leastOf ls l = depthOf ls l := by
      unfold leastOf
      rcases hex with q | q | q
      · have := hz 1 (.inl rfl) q; (first | lia | omega)
      · have := hz 2 (.inr (.inl rfl)) q; (first | lia | omega)
      · have := hz 3 (.inr (.inr rfl)) q; (first | lia | omega)
    refine ⟨hk, fun b' hb' => ?_, fun q => (nomatch q)⟩
    cases hb'
    have hfs : ∀ s, cntS ls l s = depthOf ls l → fitS ls l s = decide (col b s = col l s) := fun s hs => by
      unfold fitS
      rw [hs, List.getElem?_map, e]
      show decide ((col b s : Int) = (col l s : Int)) = _
      by_cases q : col b s = col l s
      · rw [decide_eq_true q, decide_eq_true (by (first | lia | omega))]
      · rw [decide_eq_false q, decide_eq_false (by (first | lia | omega))]
    rw [Bool.eq_iff_iff, eqq_col hbm hl]
    constructor
    · intro hf
      unfold fitB at hf
      rw [Bool.and_eq_true, decide_eq_true_eq, hk] at hf
      obtain ⟨hf1, hf2⟩ := hf
      have m1 : cntS ls l 1 = depthOf ls l := by unfold mostOf at hf2; (first | lia | omega)
      have m2 : cntS ls l 2 = depthOf ls l := by unfold mostOf at hf2; (first | lia | omega)
      have m3 : cntS ls l 3 = depthOf ls l := by unfold mostOf at hf2; (first | lia | omega)
      unfold fitI at hf1
      rw [show List.range 3 = [0, 1, 2] from rfl] at hf1
      simp only [List.all_cons, List.all_nil, Bool.and_true, Bool.and_eq_true] at hf1
      have f1 := hf1.1
      have f2 := hf1.2.1
      have f3 := hf1.2.2
      rw [hfs 1 m1] at f1
      rw [hfs 2 m2] at f2
      rw [hfs 3 m3] at f3
      exact ⟨of_decide_eq_true f1, of_decide_eq_true f2, of_decide_eq_true f3⟩
    · rintro ⟨q1, q2, q3⟩
      have z1 := hz 1 (.inl rfl) (by (first | lia | omega))
      have z2 := hz 2 (.inr (.inl rfl)) (by (first | lia | omega))
      have z3 := hz 3 (.inr (.inr rfl)) (by (first | lia | omega))
      have f1 : fitS ls l 1 = true := by rw [hfs 1 (by (first | lia | omega)), decide_eq_true q1]
      have f2 : fitS ls l 2 = true := by rw [hfs 2 (by (first | lia | omega)), decide_eq_true q2]
      have f3 : fitS ls l 3 = true := by rw [hfs 3 (by (first | lia | omega)), decide_eq_true q3]
      unfold fitB
      have e : fitI ls l 3 = true := by
        unfold fitI
        rw [show List.range 3 = [0, 1, 2] from rfl]
        simp [f1, f2, f3]
      rw [e, decide_eq_true (by unfold mostOf leastOf; (first | lia | omega))]
      rfl
theorem row_dot {l : Str} (h : l ≠ nil') : rowT l = l ++ dotTab := by
  unfold rowT
  have : l.cps.size ≠ 0 := fun e => h (by
    have : l.cps = #[] := by simpa using e
    show (⟨l.cps⟩ : Str) = ⟨⟨[]⟩⟩
    rw [this])
  rw [if_neg this]
  show (⟨#[] ++ l.cps ++ #[46, 9]⟩ : Str) = ⟨l.cps ++ #[46, 9]⟩
  rw [Array.empty_append]
theorem lss_nil {b : Str} (hb : b ∈ LEADS) (hn : nil' ∈ LEADS) : lss b nil' = false := by
  cases e : lss b nil' with
  | false => rfl
  | true =>
    have := ((lss_col hb hn).mp e).1
    have z : col nil' 1 = 0 := rfl
    (first | lia | omega)
/-- the two readers agree -/
theorem runs_agree (hn : nil' ∈ LEADS) : ∀ (ld : List Str) (i : Nat) (ls : List Str) (ds : List Nat) (rs : List (Nat × Str × Str)), (∀ l ∈ ld, l ∈ LEADS) → Chain ls → ls[0]? = some nil' → run ld i ls ds rs = plainRun ld i ls ds rs
  | [], _, _, _, _, _, _, _ => rfl
  | l :: r, i, ls, ds, rs, hld, C, h0 => by
    have hl := hld l (.head _)
    have hr := fun x hx => hld x (.tail _ hx)
    obtain ⟨a1, a2, a3⟩ := row_agree C hl
    have hne : l ≠ nil' → l ≠ nil' := id
    cases e : ls[depthOf ls l]? with
    | none =>
      have hlen : ls.length ≤ depthOf ls l := List.getElem?_eq_none_iff.mp e
      have hpos : 0 < ls.length := (List.getElem?_eq_some_iff.mp h0).1
      rw [run_some (fun b q => by rw [e] at q; cases q), plainRun, if_pos (a3 e), a1]
      refine runs_agree hn r (i + 1) _ _ _ hr (C.laid hl) ?_
      rw [List.getElem?_append_left (by rw [List.length_take]; (first | lia | omega)), List.getElem?_take, if_pos (by (first | lia | omega))]
      exact h0
    | some b =>
      have hbm : b ∈ LEADS := C.mem b (List.mem_of_getElem? e)
      cases q : eqq b l with
      | true =>
        rw [run_some (fun b' q' => by rw [e] at q'; cases q'; exact q), plainRun, if_pos (by rw [a2 b e]; exact q), a1]
        refine runs_agree hn r (i + 1) _ _ _ hr (C.laid hl) ?_
        cases hk : depthOf ls l with
        | zero =>
          rw [hk] at e
          rw [h0] at e
          cases e
          rw [List.take_zero, List.nil_append]
          show some l = some nil'
          rw [nil_eq hl q]
        | succ k =>
          have hlt := (List.getElem?_eq_some_iff.mp e).1
          rw [List.getElem?_append_left (by rw [List.length_take]; (first | lia | omega)), List.getElem?_take, if_pos (by (first | lia | omega))]
          exact h0
      | false =>
        rw [run_bad e q, plainRun, if_neg (by rw [a2 b e, q]; exact Bool.false_ne_true), a1]
        have hbd : ls.getD (depthOf ls l) nil' = b := by rw [List.getD_eq_getElem?_getD, e]; rfl
        have hln : l ≠ nil' := by
          rintro rfl
          have hk : depthOf ls nil' = 0 := by
            cases hk : depthOf ls nil' with
            | zero => rfl
            | succ k =>
              have h1 := depth_lt (ls := ls) (l := nil') (i := 0) (by (first | lia | omega)) h0
              rw [lss_nil hn hn] at h1; cases h1
          rw [hk, h0] at e
          cases e
          have : eqq nil' nil' = true := (eqq_col hn hn).mpr ⟨rfl, rfl, rfl⟩
          rw [this] at q; cases q
        rw [hbd, msg_is hbm hl (not_less e) q, row_dot hln]
        exact runs_agree hn r (i + 1) _ _ _ hr C h0
end
section
open PySem PySem.W PyProof.Rows PySem.Calls PySem.Spec
set_option maxHeartbeats 1000000
section
variable {prog : Program} {w : World} {A : Around} {R : Result → Shared → Prop} {s : Shared}
/-- a list comprehension's loop, any target, no test -/
theorem compLoop_any {elt target iter : Expr} {scope : Scope} {pos : Pos} {it acc : Value} {env : Env} (I : Nat → Shared → Prop)
    (turn : ∀ n s, I n s → wpAny (model prog w) A (pyNext it) (fun r s₁ => match r with
      | none => R (.ok .next) s₁
      | some v => wpAny (model prog w) A (letOwnedTupleGo target it v) (fun _ s₁' => wpAny (model prog w) A (assign target env v) (fun _ s₂ =>
          wpAny (model prog w) A (eval elt env) (fun x s₄ =>
              wpAny (model prog w) A (call (.builtin "list.append") [acc, x]) (fun _ s₅ => ∃ m, m < n ∧ I m s₅) (notedBy (model prog w) A env fun e s' => R (.error e) s') s₄) (notedBy (model prog w) A env fun e s' => R (.error e) s') s₂) (notedBy (model prog w) A env fun e s' => R (.error e) s') s₁') (notedBy (model prog w) A env fun e s' => R (.error e) s') s₁) (notedBy (model prog w) A env fun e s' => R (.error e) s') s)
    (n : Nat) (h : I n s) :
    codeAny (model prog w) A (.compLoop (.ListComp elt [⟨target, iter, [], 0⟩] scope pos) 0 it acc env) R s := by
  refine codeAny_loop rfl I (fun n s hI => ?_) n h
  show wpAny _ A ((compTurn (.ListComp elt [⟨target, iter, [], 0⟩] scope pos) 0 it acc env).onRaise (fun x => do noteFrame x env; theTreesLotGoes x)) _ _ s
  refine wpAny_noted ?_
  rw [compTurn_list]
  refine wpAny_bind (wpAny_standAt (wpAny_bind (wpAny_mono (turn n s hI) (fun r s₁ h₁ => ?_) fun _ _ h' => h')))
  cases r with
  | none => exact wpAny_pure h₁
  | some v =>
    refine wpAny_bind (wpAny_mono h₁ (fun _ s₁' h₁' => ?_) fun _ _ h' => h')
    refine wpAny_bind (wpAny_mono h₁' (fun _ s₂ h₂ => wpAny_bind (wpAny_tests_nil ?_)) fun _ _ h' => h')
    exact wpAny_bind (wpAny_bind (wpAny_mono h₂ (fun x s₄ h₄ => wpAny_bind (wpAny_mono h₄ (fun _ s₅ h₅ => wpAny_pure (wpAny_pure ⟨rfl, h₅⟩)) fun _ _ h' => h')) fun _ _ h' => h'))
end
end
section
open PySem PySem.W PyProof.Rows PySem.Calls PySem.Spec
set_option maxHeartbeats 1000000
section
variable {prog : Program} {w : World} {A : Around} {R : Result → Shared → Prop} {s : Shared}
/-- the same over pairs, the target two names -/
theorem compLoop_pair {elt iter : Expr} {x y : Str} {p1 p2 p3 : Pos} {k1 : Nat} {scope : Scope} {pos : Pos} {I D : Addr} {fp wr : List Addr} {n : Nat} {Pt : Nat → Array Value → Prop} {St : Nat → Heap → Prop} {Mid : Nat → Addr → Heap → Prop} {P2 : Nat → Value → Value → Prop} {F : Nat → Value → Prop}
    {cenv : Env} {m : Str → Option Value} (W : WalksT prog w A I fp wr n Pt St Mid) (hh : A.handled = none) (h2 : ∀ i vals, Pt i vals → ∃ v0 v1, vals = #[v0, v1] ∧ P2 i v0 v1)
    (hk : cenv.scope.kind = .function) (hx : cenv.kindOf x = some .local) (hy : cenv.kindOf y = some .local)
    (hDC : D ≠ cenv.locals) (hDf : D ∉ fp) (hCf : cenv.locals ∉ fp)
    (hst : St 0 s.heap) (hacc : s.heap.PlainList D #[]) (hn : s.heap.Ns cenv.locals m) (hn1 : n ≤ 1000)
    (helt : ∀ i v0 v1 s₂ m₂ E', P2 i v0 v1 → s₂.heap.Ns cenv.locals m₂ → m₂ x = some v0 → m₂ y = some v1 → (∀ b o, b ≠ cenv.locals → b ∉ wr → b ≠ D → s.heap.get? b = some o → s₂.heap.get? b = some o) →
      wpAny (model prog w) A (eval elt cenv) (fun z s₃ => F i z ∧ Keeps s₂ s₃) E' s₂)
    (hxy : x ≠ y)
    (hR : ∀ h' tk m' (ys : List Value), h'.Ns cenv.locals m' → h'.PlainList D ys.toArray → ys.length = n → (∀ j z, ys[j]? = some z → F j z) →
      (∀ b o, b ≠ cenv.locals → b ∉ wr → b ≠ D → s.heap.get? b = some o → h'.get? b = some o) → R (.ok .next) { s with heap := h', toks := tk }) :
    codeAny (model prog w) A (.compLoop (.ListComp elt [⟨.Tuple [.Name x p1, .Name y p2] k1 p3, iter, [], 0⟩] scope pos) 0 (.ref I) (.ref D) cenv) R s := by
  refine compLoop_any
    (fun k s' => ∃ h' tk m', ∃ ys : List Value, s' = { s with heap := h', toks := tk } ∧ St ys.length h' ∧ h'.PlainList D ys.toArray ∧ h'.Ns cenv.locals m' ∧ (∀ j z, ys[j]? = some z → F j z) ∧
      ys.length ≤ n ∧ k = n + 1 - ys.length ∧ (∀ b o, b ≠ cenv.locals → b ∉ wr → b ≠ D → s.heap.get? b = some o → h'.get? b = some o)) ?_ (n + 1)
    ⟨s.heap, s.toks, m, [], rfl, hst, hacc, hn, fun j z e => by simp at e, Nat.zero_le _, rfl, fun _ _ _ _ _ e => e⟩
  rintro k s' ⟨H, tk, m', ys, rfl, hst', hacc', hn', hF, hi, rfl, hkp⟩
  have hCw : cenv.locals ∉ wr := fun h => hCf (W.sub _ h)
  have hDw : D ∉ wr := fun h => hDf (W.sub _ h)
  by_cases hlt : ys.length < n
  · refine W.item ys.length _ _ _ hlt hst' (fun T vals h1 tk1 pv hT0 ht mid hk1 => ?_)
    refine W.go _ _ _ ys.length T _ _ _ mid (fun h2' st2 hk2 => ?_)
    dsimp only at hk2 hk1 ⊢
    refine holdG fun Pz kz => ?_
    obtain ⟨v0, v1, rfl, hP2⟩ := h2 ys.length vals pv
    refine kz ?_
    clear kz Pz
    have up : ∀ b o, b ∉ wr → H.get? b = some o → h2'.get? b = some o := fun b o hb e => hk2 b o hb (hk1 b o hb e)
    have ht2 : IsTup h2' T #[v0, v1] := by
      obtain ⟨o, ho, r⟩ := ht
      exact ⟨o, hk2 _ _ (W.apart _ _ _ mid) ho, r⟩
    refine assign_Tuple_tuple hh ht2 rfl rfl (fun h3 he => ?_)
    have up3 : ∀ b o, b ∉ wr → H.get? b = some o → h3.get? b = some o := fun b o hb e => he b o (Nat.ne_of_lt (Heap.lt_size (up b o hb e))) (up b o hb e)
    have st3 : St (ys.length + 1) h3 := W.frame _ _ _ st2 fun b _ o e => he b o (Nat.ne_of_lt (Heap.lt_size e)) e
    show wpAny (model prog w) A (assignInOrder [assign (.Name x p1) cenv, assign (.Name y p2) cenv] [v0, v1]) _ _ _
    unfold assignInOrder
    refine wpAny_bind (wpAny_holding (wpAny_assign_Name (wpAny_storeName_local hx (hn'.at' fun o e => up3 _ o hCw e) (fun h4 hn4 hs4 => ?_) (by rw [hk]; rfl))))
    unfold assignInOrder
    refine wpAny_bind (wpAny_holding (wpAny_assign_Name (wpAny_storeName_local hy hn4 (fun h5 hn5 hs5 => ?_) (by rw [hk]; rfl))))
    unfold assignInOrder
    refine wpAny_pure ?_
    have up5 : ∀ b o, b ≠ cenv.locals → b ∉ wr → H.get? b = some o → h5.get? b = some o := fun b o hbC hb e => hs5.extBut b o hbC (hs4.extBut b o hbC (up3 b o hb e))
    have st5 : St (ys.length + 1) h5 := W.frame _ _ _ st3 fun b hb o e => hs5.extBut b o (fun h => hCf (h ▸ hb)) (hs4.extBut b o (fun h => hCf (h ▸ hb)) e)
    refine wpAny_mono (helt ys.length v0 v1 _ _ _ hP2 hn5 (by rw [if_neg hxy, if_pos rfl]) (by rw [if_pos rfl]) (fun b o hbC hb hbD e => up5 b o hbC hb (hkp b o hbC hb hbD e))) (fun z s₄ h₄ => ?_) fun _ _ e => e
    refine holdG fun Pz kz => ?_
    obtain ⟨hFz, h6, tk6, rfl, hk6⟩ := h₄
    refine kz ?_
    clear kz Pz
    refine wpAny_list_append_plain (hsz := by rw [List.size_toArray, sizeLine_eq]; (first | lia | omega)) ((hacc'.at fun o e => up5 D o hDC hDw e).at fun o e => hk6 _ o e) fun h7 hl7 hs7 => ?_
    refine ⟨n + 1 - (ys.length + 1), by (first | lia | omega), h7, tk6, _, ys ++ [z], rfl, ?_, ?_, (hn5.keeps hk6).sameBut hs7 (Ne.symm hDC), fun j u hj => ?_, by rw [List.length_append, List.length_singleton]; exact hlt, by rw [List.length_append, List.length_singleton], fun b o hbC hbf hbD e => hs7.extBut b o hbD (hk6 b o (up5 b o hbC hbf (hkp b o hbC hbf hbD e)))⟩
    · have := W.frame _ _ h7 st5 fun b hb o e => hs7.extBut b o (fun h => hDf (h ▸ hb)) (hk6 b o e)
      simpa using this
    · have e : ys.toArray.push z = (ys ++ [z]).toArray := by simp
      rw [← e]; exact hl7
    · rcases Nat.lt_trichotomy j ys.length with h | h | h
      · exact hF j u (by rwa [List.getElem?_append_left h] at hj)
      · subst h; simp at hj; subst hj; exact hFz
      · have hnone : (ys ++ [z])[j]? = none := List.getElem?_eq_none (by rw [List.length_append, List.length_singleton]; (first | lia | omega))
        (first | exact gX hj hnone | exact gX hnone hj | (rw [hnone] at hj; cases hj))
  · have hin : ys.length = n := by (first | lia | omega)
    refine W.done _ _ _ (hin ▸ hst') fun h1 tk1 hk1 => ?_
    exact hR h1 tk1 m' ys (hn'.at' fun o e => hk1 _ o hCw e) (hacc'.at fun o e => hk1 _ o hDw e) hin hF fun b o hbC hbf hbD e => hk1 b o hbf (hkp b o hbC hbf hbD e)
end
end
section
open PySem PySem.W PyProof.Rows PySem.Calls PySem.Spec
set_option maxHeartbeats 1000000
section
variable {prog : Program} {w : World} {A : Around} {E : Value → Shared → Prop} {env : Env}
noncomputable def EltP (prog : Program) (w : World) (A : Around) (env : Env) (scope : Scope) (cl : List (Str × Addr)) (x y : Str) (elt : Expr) (P2 : Nat → Value → Value → Prop) (F : Nat → Value → Prop) (wr : List Addr) (s₂ : Shared) : Prop :=
  ∀ C i v0 v1 s₃ m₃ E', s₂.heap.objs.size ≤ C → P2 i v0 v1 → s₃.heap.Ns C m₃ → m₃ x = some v0 → m₃ y = some v1 → (∀ b o, b ∉ wr → s₂.heap.get? b = some o → s₃.heap.get? b = some o) →
    wpAny (model prog w) A (eval elt (compEnvC scope cl C env)) (fun z s₄ => F i z ∧ Keeps s₃ s₄) E' s₃
theorem comp_block_pair {elt iter : Expr} {x y : Str} {p1 p2 p3 : Pos} {k1 : Nat} {scope : Scope} {cl : List (Str × Addr)} {pos : Pos} {s₂ : Shared} {I : Addr} {fp wr : List Addr} {n : Nat} {Pt : Nat → Array Value → Prop}
    {St : Nat → Heap → Prop} {Mid : Nat → Addr → Heap → Prop} {P2 : Nat → Value → Value → Prop} {F : Nat → Value → Prop} (W : WalksT prog w A I fp wr n Pt St Mid) (hh : A.handled = none) (h2 : ∀ i vals, Pt i vals → ∃ v0 v1, vals = #[v0, v1] ∧ P2 i v0 v1) (hn1 : n ≤ 1000) {RR : Value → Addr → Result → Shared → Prop}
    (hcell : ∀ y ∈ scope.names, y.2 ≠ .cell) (hkind : scope.kind = .function) (hx : scope.names.lookup x = some .local) (hy : scope.names.lookup y = some .local) (hxy : x ≠ y) (hst : St 0 s₂.heap) (hfp : ∀ b ∈ fp, b < s₂.heap.objs.size)
    (hq : EltP prog w A env scope cl x y elt P2 F wr s₂)
    (hRR : ∀ D C h' tk m' (ys : List Value), s₂.heap.get? D = none → s₂.heap.get? C = none → D ≠ C → h'.Ns C m' → h'.PlainList D ys.toArray → ys.length = n → (∀ j z, ys[j]? = some z → F j z) →
      (∀ b o, b ∉ wr → s₂.heap.get? b = some o → h'.get? b = some o) → RR (.ref D) C (.ok .next) { s₂ with heap := h', toks := tk }) :
    wpAny (model prog w) A (newList []) (fun acc s₃ => wpAny (model prog w) A (newFunctionEnv scope env.globals cl [] env.qual none .none (some env)) (fun cenv s₄ =>
      codeAny (model prog w) A (.compStart (.ListComp elt [⟨.Tuple [.Name x p1, .Name y p2] k1 p3, iter, [], 0⟩] scope pos) 0 (.ref I) acc { cenv with scope := relabel scope env }) (RR acc cenv.locals) s₄) E s₃) E s₂ := by
  refine wpAny_newObj_type (wpAny_newFunctionEnv hcell (by intro y hy; simp at hy) (fun h₁ hns₁ hsb₁ => ?_) hkind)
  dsimp only at hns₁ hsb₁ ⊢
  generalize hH2 : s₂.heap.push { cls := .type "list", dict := none, data := .seq ([] : List Value).toArray } = H2 at hns₁ hsb₁ ⊢
  have hC : H2.objs.size = s₂.heap.objs.size + 1 := by rw [← hH2, Heap.size_push]
  have hDC : s₂.heap.objs.size ≠ H2.objs.size := by rw [hC]; exact Nat.ne_of_lt (Nat.lt_succ_self _)
  have hCle : s₂.heap.objs.size ≤ H2.objs.size := by rw [hC]; exact Nat.le_succ _
  have below : ∀ b, b < s₂.heap.objs.size → b ≠ H2.objs.size ∧ b ≠ s₂.heap.objs.size := fun b hb => ⟨by rw [hC]; exact Nat.ne_of_lt (Nat.lt_succ_of_lt hb), Nat.ne_of_lt hb⟩
  have hDf : s₂.heap.objs.size ∉ fp := fun hm => Nat.lt_irrefl _ (hfp _ hm)
  have hCf : H2.objs.size ∉ fp := fun hm => by have := hfp _ hm; rw [hC] at this; exact Nat.lt_irrefl _ (Nat.lt_of_succ_lt this)
  have old : ∀ b o, s₂.heap.get? b = some o → h₁.get? b = some o := fun b o e => hsb₁.extBut b o (below b (Heap.lt_size e)).1 (Heap.get?_push_of_some _ (hH2 ▸ Heap.get?_push_of_some _ e))
  have hacc : h₁.PlainList s₂.heap.objs.size #[] := ⟨_, hsb₁.extBut _ _ hDC (Heap.get?_push_of_some _ (hH2 ▸ Heap.get?_push_size _ rfl))⟩
  have hst₁ : St 0 h₁ := W.frame _ _ _ hst fun b _ o e => old b o e
  have fresh : ∀ a, s₂.heap.objs.size ≤ a → s₂.heap.get? a = none := fun a ha => by
    cases e : s₂.heap.get? a with
    | none => rfl
    | some o' => exact absurd (Heap.lt_size e) (Nat.not_lt.mpr ha)
  have loop : ∀ s₃ : Shared, s₃ = { s₂ with heap := h₁, toks := s₂.toks + ([] : List (Str × Value)).length } →
      codeAny (model prog w) A (.compLoop (.ListComp elt [⟨.Tuple [.Name x p1, .Name y p2] k1 p3, iter, [], 0⟩] scope pos) 0 (.ref I) (.ref s₂.heap.objs.size) (compEnvC scope cl H2.objs.size env))
        (RR (.ref s₂.heap.objs.size) H2.objs.size) s₃ := by
    rintro s₃ rfl
    refine compLoop_pair (cenv := compEnvC scope cl H2.objs.size env) (P2 := P2) (F := F) W hh h2 (by simp [compEnvC, relabel, hkind]) (lookup_relabel_local hx) (lookup_relabel_local hy) hDC hDf hCf hst₁ hacc hns₁ hn1
      (fun i v0 v1 s₃ m₃ E' hv hn hm0 hm1 hk => hq _ i v0 v1 s₃ m₃ E' hCle hv hn hm0 hm1 (fun b o hbf e => hk b o (below b (Heap.lt_size e)).1 hbf (below b (Heap.lt_size e)).2 (old b o e))) hxy fun h' tk m' ys hn hpl hlen hF hk => ?_
    exact hRR _ _ h' tk m' ys (fresh _ (Nat.le_refl _)) (fresh _ (by rw [hC]; exact Nat.le_succ _)) hDC hn hpl hlen hF fun b o hbf e =>
      hk b o (below b (Heap.lt_size e)).1 hbf (below b (Heap.lt_size e)).2 (old b o e)
  exact codeAny_compStart_list (loop _ rfl) (W.self 0 _ _ _ hst₁ (loop _ rfl))
theorem comp_pair_e {s : Shared} {elt iter : Expr} {x y : Str} {p1 p2 p3 : Pos} {k1 : Nat} {scope : Scope} {cl : List (Str × Addr)} {pos : Pos} {Q : Value → Shared → Prop} (hh : A.handled = none)
    (h : wpAny (model prog w) A (eval iter env) (fun xv s₁ => wpAny (model prog w) A (pyIter xv) (fun it s₂ => ∃ I fp wr n Pt St Mid P2 F, it = .ref I ∧ WalksT prog w A I fp wr n Pt St Mid ∧ (∀ i vals, Pt i vals → ∃ v0 v1, vals = #[v0, v1] ∧ P2 i v0 v1) ∧ n ≤ 1000 ∧ St 0 s₂.heap ∧ (∀ b ∈ fp, b < s₂.heap.objs.size) ∧
      EltP prog w A env scope cl x y elt P2 F wr s₂ ∧
      (∀ D h' tk (ys : List Value), s₂.heap.get? D = none → h'.PlainList D ys.toArray → ys.length = n → (∀ j z, ys[j]? = some z → F j z) →
        (∀ b o, b ∉ wr → s₂.heap.get? b = some o → h'.get? b = some o) → Q (.ref D) { s₂ with heap := h', toks := tk })) E s₁) E s)
    (hxy : x ≠ y := by decide) (hclos : closureFor scope env = pure cl := by rfl) (hcell : ∀ y ∈ scope.names, y.2 ≠ .cell := by decide) (hkind : scope.kind = .function := by rfl)
    (hnames : ∀ y ∈ scope.names, y.2 = .local → scope.names.lookup y.1 = some .local := by decide) (hx : scope.names.lookup x = some .local := by rfl) (hy : scope.names.lookup y = some .local := by rfl)
    (hs : ∀ x, foldedSetIterable iter env x = pure x := by intro _; rfl) :
    wpAny (model prog w) A (eval (.ListComp elt [⟨.Tuple [.Name x p1, .Name y p2] k1 p3, iter, [], 0⟩] scope pos) env) Q E s := by
  rw [eval_ListComp]
  refine wpAny_comprehension_free (use := none) rfl hs hclos hkind hnames (wpAny_mono h (fun xv s₁ h₁ => wpAny_mono h₁ (fun it s₂ h₂ => ?_) fun _ _ e => e) fun _ _ e => e)
  refine holdG fun Pz kz => ?_
  obtain ⟨I, fp, wr, n, Pt, St, Mid, P2, F, rfl, W, h2, hn1, hst, hfp, hq, hQ⟩ := h₂
  refine kz ?_
  clear kz Pz
  refine comp_block_pair (RR := fun acc C => compPost (model prog w) A E none Q acc C) W hh h2 hn1 hcell hkind hx hy hxy hst hfp hq ?_
  intro D C h' tk m' ys hD hC hDC hn hpl hlen hF hk
  exact ⟨m', hn, fun h'' hs'' => hQ D h'' tk ys hD (hpl.extBut hs''.extBut hDC) hlen hF fun b o hbf e => hs''.extBut b o (by rintro rfl; (first | exact gX e hC | exact gX hC e | (rw [hC] at e; cases e))) (hk b o hbf e)⟩
theorem comp_pair_a {s : Shared} {elt iter : Expr} {x y z : Str} {p1 p2 p3 pz : Pos} {k1 : Nat} {scope : Scope} {cl : List (Str × Addr)} {pos spos : Pos} {Q : Flow → Shared → Prop} (hh : A.handled = none)
    (h : wpAny (model prog w) A (eval iter env) (fun xv s₁ => wpAny (model prog w) A (pyIter xv) (fun it s₂ => ∃ I fp wr n Pt St Mid P2 F m, it = .ref I ∧ WalksT prog w A I fp wr n Pt St Mid ∧ (∀ i vals, Pt i vals → ∃ v0 v1, vals = #[v0, v1] ∧ P2 i v0 v1) ∧ n ≤ 1000 ∧ St 0 s₂.heap ∧ (∀ b ∈ fp, b < s₂.heap.objs.size) ∧
      env.locals ∉ wr ∧ s₂.heap.Ns env.locals m ∧ EltP prog w A env scope cl x y elt P2 F wr s₂ ∧
      (∀ D h' tk (ys : List Value), s₂.heap.get? D = none → h'.PlainList D ys.toArray → ys.length = n → (∀ j z, ys[j]? = some z → F j z) → h'.Ns env.locals (fun n => if n = z then some (.ref D) else m n) →
        (∀ b o, b ≠ env.locals → b ∉ wr → s₂.heap.get? b = some o → h'.get? b = some o) → Q .next { s₂ with heap := h', toks := tk })) E s₁) E s)
    (hsw : swapsWith (.ListComp elt [⟨.Tuple [.Name x p1, .Name y p2] k1 p3, iter, [], 0⟩] scope pos) (some (.Name z pz)) spos.line env = pure true := by rfl)
    (hxy : x ≠ y := by decide) (hclos : closureFor scope env = pure cl := by rfl) (hcell : ∀ y ∈ scope.names, y.2 ≠ .cell := by decide) (hkind : scope.kind = .function := by rfl)
    (hnames : ∀ y ∈ scope.names, y.2 = .local → scope.names.lookup y.1 = some .local := by decide) (hx : scope.names.lookup x = some .local := by rfl) (hy : scope.names.lookup y = some .local := by rfl)
    (hz : env.kindOf z = some .local := by rfl) (hp : (env.scope.kind == .class || (env.scope.kind == .module && env.locals != env.globals)) = false := by rfl)
    (hs : ∀ x, foldedSetIterable iter env x = pure x := by intro _; rfl) :
    wpAny (model prog w) A (exec (.Assign [.Name z pz] (.ListComp elt [⟨.Tuple [.Name x p1, .Name y p2] k1 p3, iter, [], 0⟩] scope pos) spos) env) Q E s := by
  rw [exec_Assign_Name_used _ _ _ _ hsw]
  refine wpAny_bind (wpAny_standAt (wpAny_bind ?_))
  show wpAny _ A (do let _ ← comprehension (.ListComp elt [⟨.Tuple [.Name x p1, .Name y p2] k1 p3, iter, [], 0⟩] scope pos) scope env _ (newList []) false (eval iter env) (some (assign (.Name z pz) env))) _ _ s
  refine wpAny_bind (wpAny_mono (wpAny_comprehension_free (use := some (assign (.Name z pz) env)) (Q := fun _ s' => Q .next s') rfl hs hclos hkind hnames
    (wpAny_mono h (fun xv s₁ h₁ => wpAny_mono h₁ (fun it s₂ h₂ => ?_) fun _ _ e => e) fun _ _ e => e)) (fun _ s' hq => wpAny_pure (wpAny_pure hq)) fun _ _ e => e)
  refine holdG fun Pz kz => ?_
  obtain ⟨I, fp, wr, n, Pt, St, Mid, P2, F, m, rfl, W, h2, hn1, hst, hfp, hLf, hn, hq, hQ⟩ := h₂
  refine kz ?_
  clear kz Pz
  refine comp_block_pair (RR := fun acc C => compPost (model prog w) A E (some (assign (.Name z pz) env)) (fun _ s' => Q .next s') acc C) W hh h2 hn1 hcell hkind hx hy hxy hst hfp hq ?_
  intro D C h' tk m' ys hD hC hDC hnC hplD hlen hF hk
  have hLC : env.locals ≠ C := by rintro rfl; obtain ⟨o, _, _, ho, _⟩ := hn; (first | exact gX ho hC | exact gX hC ho | (rw [hC] at ho; cases ho))
  have hLD : env.locals ≠ D := by rintro rfl; obtain ⟨o, _, _, ho, _⟩ := hn; (first | exact gX ho hD | exact gX hD ho | (rw [hD] at ho; cases ho))
  show wpAny _ A (assign (.Name z pz) env (.ref D)) _ _ _
  refine wpAny_assign_Name (wpAny_storeName_local hz (hn.at' fun o e => hk _ o hLf e) (fun h₂ hn₂ hs₂ => ?_) hp)
  refine ⟨m', hnC.sameBut hs₂ (Ne.symm hLC), fun h₃ hs₃ => ?_⟩
  exact hQ D h₃ _ ys hD ((hplD.extBut hs₂.extBut (Ne.symm hLD)).extBut hs₃.extBut hDC) hlen hF (hn₂.sameBut hs₃ hLC) fun b o hbL hbf e =>
    hs₃.extBut b o (by rintro rfl; (first | exact gX e hC | exact gX hC e | (rw [hC] at e; cases e))) (hs₂.extBut b o hbL (hk b o hbf e))
end
end
section
open PySem PySem.W PyProof.Rows PySem.Calls PySem.Spec
set_option maxHeartbeats 1000000
section
variable {prog : Program} {w : World} {A : Around} {E : Value → Shared → Prop} {h h₀ : Heap} {g : Array GenState} {d : Drawn} {tk : Nat} {os : OsState} {env : Env} {L : Addr} {m : Str → Option Value} {nw : List (Addr × Obj)}
/-- what is left when the source of pairs stands -/
inductive PairPA (prog : Program) (w : World) (A : Around) (h₀ : Heap) (L : Addr) (m : Str → Option Value) (env : Env) (scope : Scope) (cl : List (Str × Addr)) (x y : Str) (elt : Expr) (F : Nat → Value → Prop) (m' : Addr → Str → Option Value) (Q : Value → Shared → Prop) (it : Value) (s₂ : Shared) : Prop
  | mk (n : _) (nw : _) (I : _) (fp : _) (wr : _) (Pt : _) (St : _) (Mid : _) (P2 : _) (_ : it = .ref I) (_ : WalksT prog w A I fp wr n Pt St Mid) (_ : (∀ i vals, Pt i vals → ∃ v0 v1, vals = #[v0, v1] ∧ P2 i v0 v1)) (_ : n ≤ 1000) (_ : St 0 s₂.heap) (_ : (∀ b ∈ fp, b < s₂.heap.objs.size)) (_ : L ∉ wr) (_ : (∀ b ∈ wr, h₀.get? b = none)) (_ : (∀ p ∈ nw, p.1 ∉ wr)) (_ : Fr h₀ L s₂.heap m) (_ : News h₀ L s₂.heap nw) (_ : EltP prog w A env scope cl x y elt P2 F wr s₂) (_ : (∀ D h' tk (ys : List Value) k, Fr h₀ L h' (m' D) → News h₀ L h' ((D, listO ys k) :: nw) → (∀ p ∈ nw, p.1 ≠ D) → ys.length = n → (∀ j z, ys[j]? = some z → F j z) → Q (.ref D) { s₂ with heap := h', toks := tk })) : PairPA prog w A h₀ L m env scope cl x y elt F m' Q it s₂
theorem pair_a {s : Shared} {elt iter : Expr} {x y z : Str} {p1 p2 p3 pz : Pos} {k1 : Nat} {F : Nat → Value → Prop} {scope : Scope} {cl : List (Str × Addr)} {pos spos : Pos} {Q : Flow → Shared → Prop} (hh : A.handled = none)
    (h : wpAny (model prog w) A (eval iter env) (fun xv s₁ => wpAny (model prog w) A (pyIter xv) (PairPA prog w A h₀ L m env scope cl x y elt F (fun D => Upd m z (.ref D)) (fun _ s' => Q .next s')) E s₁) E s)
    (hL : env.locals = L := by rfl) (hsw : swapsWith (.ListComp elt [⟨.Tuple [.Name x p1, .Name y p2] k1 p3, iter, [], 0⟩] scope pos) (some (.Name z pz)) spos.line env = pure true := by rfl)
    (hxy : x ≠ y := by decide) (hclos : closureFor scope env = pure cl := by rfl) (hcell : ∀ y ∈ scope.names, y.2 ≠ .cell := by decide) (hkind : scope.kind = .function := by rfl)
    (hnames : ∀ y ∈ scope.names, y.2 = .local → scope.names.lookup y.1 = some .local := by decide) (hx : scope.names.lookup x = some .local := by rfl) (hy : scope.names.lookup y = some .local := by rfl)
    (hz : env.kindOf z = some .local := by rfl) (hp : (env.scope.kind == .class || (env.scope.kind == .module && env.locals != env.globals)) = false := by rfl)
    (hs : ∀ x, foldedSetIterable iter env x = pure x := by intro _; rfl) :
    wpAny (model prog w) A (exec (.Assign [.Name z pz] (.ListComp elt [⟨.Tuple [.Name x p1, .Name y p2] k1 p3, iter, [], 0⟩] scope pos) spos) env) Q E s := by
  subst hL
  refine comp_pair_a (cl := cl) hh (wpAny_mono h (fun xv s₁ h₁ => wpAny_mono h₁ (fun it s₂ h₂ => ?_) fun _ _ e => e) fun _ _ e => e) hsw hxy hclos hcell hkind hnames hx hy hz hp hs
  refine holdG fun Pz kz => ?_
  obtain ⟨n, nw, I, fp, wr, Pt, St, Mid, P2, rfl, W, h2, hn1, hst, hfp, hLw, hw0, hnw, F1, N1, hq, hQ⟩ := h₂
  refine kz ?_
  clear kz Pz
  refine ⟨I, fp, wr, n, Pt, St, Mid, P2, F, m, rfl, W, h2, hn1, hst, hfp, hLw, F1.ns, hq, fun D h' tk ys hD hpl hlen hF hns hk => ?_⟩
  have hDL : D ≠ env.locals := fun e => by obtain ⟨o, _, _, ho, _⟩ := F1.ns; (first | exact gX hD ((congrArg _ e).trans ho) | exact gX ho ((congrArg _ e).symm.trans hD) | (rw [e, ho] at hD; cases hD))
  obtain ⟨k, hk1⟩ := hpl
  have hne : ∀ p ∈ nw, p.1 ≠ D := fun p hp e => by have := (N1 p hp).1; (first | exact gX this ((congrArg _ e).trans hD) | exact gX hD ((congrArg _ e).symm.trans this) | (rw [e, hD] at this; cases this))
  refine hQ D h' tk ys k ⟨hns, fun b o e => hk b o (Nat.ne_of_lt (Nat.lt_of_lt_of_le (Heap.lt_size e) F1.above)) (fun q => by (first | exact gX e (hw0 b q) | exact gX (hw0 b q) e | (rw [hw0 b q] at e; cases e))) (F1.keep b o e), F1.above⟩ (fun p hp => ?_) hne hlen hF
  revert p hp
  refine fm_cons ?_ ?_
  · refine ⟨hk1, hDL, ?_⟩
    refine gN fun o e => ?_
    (first | exact gX hD (F1.keep _ _ e) | exact gX (F1.keep _ _ e) hD | (rw [F1.keep _ _ e] at hD; cases hD))
  intro p hp
  · exact ⟨hk _ _ (N1 p hp).2.1 (hnw p hp) (N1 p hp).1, (N1 p hp).2⟩
theorem pair_e {s : Shared} {elt iter : Expr} {x y : Str} {p1 p2 p3 : Pos} {k1 : Nat} {F : Nat → Value → Prop} {scope : Scope} {cl : List (Str × Addr)} {pos : Pos} {Q : Value → Shared → Prop} (hh : A.handled = none)
    (h : wpAny (model prog w) A (eval iter env) (fun xv s₁ => wpAny (model prog w) A (pyIter xv) (PairPA prog w A h₀ L m env scope cl x y elt F (fun _ => m) Q) E s₁) E s)
    (hxy : x ≠ y := by decide) (hclos : closureFor scope env = pure cl := by rfl) (hcell : ∀ y ∈ scope.names, y.2 ≠ .cell := by decide) (hkind : scope.kind = .function := by rfl)
    (hnames : ∀ y ∈ scope.names, y.2 = .local → scope.names.lookup y.1 = some .local := by decide) (hx : scope.names.lookup x = some .local := by rfl) (hy : scope.names.lookup y = some .local := by rfl)
    (hs : ∀ x, foldedSetIterable iter env x = pure x := by intro _; rfl) :
    wpAny (model prog w) A (eval (.ListComp elt [⟨.Tuple [.Name x p1, .Name y p2] k1 p3, iter, [], 0⟩] scope pos) env) Q E s := by
  refine comp_pair_e (cl := cl) hh (wpAny_mono h (fun xv s₁ h₁ => wpAny_mono h₁ (fun it s₂ h₂ => ?_) fun _ _ e => e) fun _ _ e => e) hxy hclos hcell hkind hnames hx hy hs
  refine holdG fun Pz kz => ?_
  obtain ⟨n, nw, I, fp, wr, Pt, St, Mid, P2, rfl, W, h2, hn1, hst, hfp, hLw, hw0, hnw, F1, N1, hq, hQ⟩ := h₂
  refine kz ?_
  clear kz Pz
  refine ⟨I, fp, wr, n, Pt, St, Mid, P2, F, rfl, W, h2, hn1, hst, hfp, hq, fun D h' tk ys hD hpl hlen hF hk => ?_⟩
  have hDL : D ≠ L := fun e => by obtain ⟨o, _, _, ho, _⟩ := F1.ns; (first | exact gX hD ((congrArg _ e).trans ho) | exact gX ho ((congrArg _ e).symm.trans hD) | (rw [e, ho] at hD; cases hD))
  obtain ⟨k, hk1⟩ := hpl
  have hne : ∀ p ∈ nw, p.1 ≠ D := fun p hp e => by have := (N1 p hp).1; (first | exact gX this ((congrArg _ e).trans hD) | exact gX hD ((congrArg _ e).symm.trans this) | (rw [e, hD] at this; cases this))
  refine hQ D h' tk ys k ⟨F1.ns.at' fun o e => hk _ o hLw e, fun b o e => hk b o (fun q => by (first | exact gX e (hw0 b q) | exact gX (hw0 b q) e | (rw [hw0 b q] at e; cases e))) (F1.keep b o e), F1.above⟩ (fun p hp => ?_) hne hlen hF
  revert p hp
  refine fm_cons ?_ ?_
  · refine ⟨hk1, hDL, ?_⟩
    refine gN fun o e => ?_
    (first | exact gX hD (F1.keep _ _ e) | exact gX (F1.keep _ _ e) hD | (rw [F1.keep _ _ e] at hD; cases hD))
  intro p hp
  · exact ⟨hk _ _ (hnw p hp) (N1 p hp).1, (N1 p hp).2⟩
end
end
section
open PySem PySem.W PyProof.Rows PySem.Calls PySem.Spec
set_option maxHeartbeats 1000000
section
variable {prog : Program} {w : World} {A : Around} {E : Value → Shared → Prop} {h h₀ : Heap} {g : Array GenState} {d : Drawn} {tk : Nat} {os : OsState} {env : Env} {L : Addr} {m : Str → Option Value} {nw : List (Addr × Obj)}
theorem enum_src {elt : Expr} {x y : Str} {F : Nat → Value → Prop} {scope : Scope} {cl : List (Str × Addr)} {m' : Addr → Str → Option Value} {Q : Value → Shared → Prop} {l : Addr} {vs : List Value} (hh : A.handled = none) (hl : h.IsList l vs.toArray) (hn : vs.length ≤ 1000)
    (F₀ : Fr h₀ L h m) (N : News h₀ L h nw)
    (he : ∀ C (i : Nat) v t h3 g3 d3 tk3 os3 m₃ E', vs[i]? = some v → Fr h C h3 m₃ → m₃ x = some (.int i t) → m₃ y = some v → wpAny (model prog w) A (eval elt (compEnvC scope cl C env)) (fun z s₄ => F i z ∧ Keeps ⟨h3, g3, d3, tk3, os3⟩ s₄) E' ⟨h3, g3, d3, tk3, os3⟩)
    (hQ : ∀ D h' tk (ys : List Value) k, Fr h₀ L h' (m' D) → News h₀ L h' ((D, listO ys k) :: nw) → (∀ p ∈ nw, p.1 ≠ D) → ys.length = vs.length → (∀ j z, ys[j]? = some z → F j z) → Q (.ref D) ⟨h', g, d, tk, os⟩) :
    wpAny (model prog w) A (call (.type "enumerate") [.ref l]) (fun xv s₁ => wpAny (model prog w) A (pyIter xv) (PairPA prog w A h₀ L m env scope cl x y elt F m' Q) E s₁) E ⟨h, g, d, tk, os⟩ := by
  have hlt : @LT.lt Nat _ l h.objs.size := let ⟨_, e, _⟩ := hl; Heap.lt_size e
  have hLt := fr_lt F₀
  refine call_enumerate_list (s := ⟨h, g, d, tk, os⟩) hl fun h' hE hI hsz hk' => ?_
  dsimp only at hE hI hsz hk' ⊢
  refine wpAny_pyIter_enum hE ?_
  generalize hIx : h.objs.size = I at *
  have W := WalksT.enumerate (prog := prog) (w := w) hh (I + 1) I l (Nat.succ_ne_self _) (Nat.ne_of_lt (Nat.lt_succ_of_lt hlt)) (Nat.ne_of_lt hlt) vs.toArray
  have hwr : ∀ b, b ∈ [I + 1, I] → @LE.le Nat _ I b := by
    refine fm_cons ?_ ?_
    · exact Nat.le_succ _
    intro b hb
    · rw [List.mem_singleton.mp hb]; exact Nat.le_refl _
  refine ⟨vs.length, nw, _, _, _, _, _, _, fun i v0 v1 => ∃ t, v0 = .int i t ∧ vs[i]? = some v1, rfl, W, fun i vals ⟨t, x, hx, e⟩ => ⟨_, _, e, t, rfl, by simpa using hx⟩, hn, ⟨⟨_, hE⟩, hI, (let ⟨o, e, r⟩ := hl; ⟨o, hk' _ _ e, r⟩)⟩, fun b hb => ?_, fun hq => ?_, fun b hb => fr_new F₀ (hIx ▸ hwr b hb), fun p hp hq => ?_, fr_ext F₀ hk', nw_ext N hk', ?_, ?_⟩
  · show b < h'.objs.size
    rw [hsz]
    revert b hb
    refine fm_cons ?_ ?_
    · exact Nat.lt_succ_self _
    refine fm_cons ?_ ?_
    · exact Nat.lt_succ_of_lt (Nat.lt_succ_self _)
    intro b hb
    · rw [List.mem_singleton.mp hb]; exact Nat.lt_succ_of_lt (Nat.lt_succ_of_lt hlt)
  · exact absurd (hwr L hq) (Nat.not_le.mpr hLt)
  · have h1 : @LT.lt Nat _ p.1 I := hIx ▸ nw_lt N p hp
    exact absurd (hwr p.1 hq) (Nat.not_le.mpr h1)
  · rintro C i v0 v1 s₃ m₃ E' hC ⟨t, rfl, hv⟩ hns hm0 hm1 hk
    refine he C i v1 t s₃.heap s₃.gens s₃.drawn s₃.toks s₃.os m₃ E' hv ⟨hns, fun b o e => hk b o (fun q => ?_) (hk' b o e), ?_⟩ hm0 hm1
    · have := Heap.lt_size e
      exact absurd (hwr b q) (Nat.not_le.mpr (hIx ▸ this))
    · rw [hIx]
      refine Nat.le_trans ?_ hC
      show I ≤ h'.objs.size
      rw [hsz]; exact Nat.le_succ_of_le (Nat.le_succ _)
  · exact fun D h2 tk2 ys k F2 N2 hne hlen hF => hQ D h2 tk2 ys k F2 N2 hne hlen hF
theorem zip_src {elt : Expr} {x y : Str} {F : Nat → Value → Prop} {scope : Scope} {cl : List (Str × Addr)} {m' : Addr → Str → Option Value} {Q : Value → Shared → Prop} {l1 l2 : Addr} {vs us : List Value} (hh : A.handled = none) (hl1 : h.IsList l1 vs.toArray) (hl2 : h.IsList l2 us.toArray) (hn : vs.length ≤ 1000) (hlen : us.length = vs.length)
    (F₀ : Fr h₀ L h m) (N : News h₀ L h nw)
    (he : ∀ C (i : Nat) v u h3 g3 d3 tk3 os3 m₃ E', vs[i]? = some v → us[i]? = some u → Fr h C h3 m₃ → m₃ x = some v → m₃ y = some u → wpAny (model prog w) A (eval elt (compEnvC scope cl C env)) (fun z s₄ => F i z ∧ Keeps ⟨h3, g3, d3, tk3, os3⟩ s₄) E' ⟨h3, g3, d3, tk3, os3⟩)
    (hQ : ∀ D h' tk (ys : List Value) k, Fr h₀ L h' (m' D) → News h₀ L h' ((D, listO ys k) :: nw) → (∀ p ∈ nw, p.1 ≠ D) → ys.length = vs.length → (∀ j z, ys[j]? = some z → F j z) → Q (.ref D) ⟨h', g, d, tk, os⟩) :
    wpAny (model prog w) A (call (.type "zip") [.ref l1, .ref l2]) (fun xv s₁ => wpAny (model prog w) A (pyIter xv) (PairPA prog w A h₀ L m env scope cl x y elt F m' Q) E s₁) E ⟨h, g, d, tk, os⟩ := by
  have a1 : @LT.lt Nat _ l1 h.objs.size := let ⟨_, e, _⟩ := hl1; Heap.lt_size e
  have a2 : @LT.lt Nat _ l2 h.objs.size := let ⟨_, e, _⟩ := hl2; Heap.lt_size e
  have hLt := fr_lt F₀
  refine call_zip_2 (s := ⟨h, g, d, tk, os⟩) hl1 hl2 fun h' hz hTI hTO hi1 hi2 hsz hk' => ?_
  dsimp only at hz hTI hTO hi1 hi2 hsz hk' ⊢
  have W := WalksT.zip2 (prog := prog) (w := w) hh (h.objs.size + 4) (h.objs.size + 2) (h.objs.size + 3) h.objs.size (h.objs.size + 1) l1 l2 (zipApart_new a1 a2) vs.toArray us.toArray
  have hst : IsZip h' (h.objs.size + 4) (h.objs.size + 2) (h.objs.size + 3) .none ∧ IsPair h' (h.objs.size + 2) (.ref h.objs.size) (.ref (h.objs.size + 1)) ∧ (∃ a b, IsPair h' (h.objs.size + 3) a b) ∧ h'.IsListIter h.objs.size l1 0 ∧ h'.IsListIter (h.objs.size + 1) l2 0 ∧ h'.IsList l1 vs.toArray ∧ h'.IsList l2 us.toArray :=
    ⟨hz, hTI, ⟨_, _, hTO⟩, hi1, hi2, Heap.IsList.at hl1 (fun o e => hk' _ o e), Heap.IsList.at hl2 (fun o e => hk' _ o e)⟩
  refine W.self 0 ⟨h', g, d, tk, os⟩ _ _ hst ?_
  have hmin : min vs.toArray.size us.toArray.size = vs.length := by rw [List.size_toArray, List.size_toArray, hlen, Nat.min_self]
  rw [hmin] at W
  have hwr : ∀ b : Addr, b ∈ [h.objs.size + 4, h.objs.size + 3, h.objs.size, h.objs.size + 1] → @LE.le Nat _ h.objs.size b := fun b hb => by
    simp only [List.mem_cons, List.mem_nil_iff, or_false] at hb
    rcases hb with rfl | rfl | rfl | rfl
    · exact Nat.le_add_right _ 4
    · exact Nat.le_add_right _ 3
    · exact Nat.le_refl _
    · exact Nat.le_add_right _ 1
  refine ⟨vs.length, nw, _, _, _, _, _, _, fun i v0 v1 => vs[i]? = some v0 ∧ us[i]? = some v1, rfl, W, fun i vals ⟨x, y, hx, hy, e⟩ => ⟨x, y, e, by simpa using hx, by simpa using hy⟩, hn, hst, fun b hb => ?_, fun hq => ?_, fun b hb => fr_new F₀ (hwr b hb), fun p hp hq => ?_, fr_ext F₀ hk', nw_ext N hk', ?_, ?_⟩
  · show b < h'.objs.size
    rw [hsz]
    simp only [List.mem_cons, List.mem_nil_iff, or_false] at hb
    rcases hb with rfl | rfl | rfl | rfl | rfl | rfl | rfl
    · exact Nat.lt_succ_self _
    · exact Nat.add_lt_add_left (by decide) _
    · exact Nat.add_lt_add_left (by decide) _
    · exact Nat.lt_add_of_pos_right (by decide)
    · exact Nat.add_lt_add_left (by decide) _
    · exact Nat.lt_of_lt_of_le a1 (Nat.le_add_right _ 5)
    · exact Nat.lt_of_lt_of_le a2 (Nat.le_add_right _ 5)
  · exact absurd (hwr L hq) (Nat.not_le.mpr hLt)
  · have h1 : @LT.lt Nat _ p.1 h.objs.size := nw_lt N p hp
    exact absurd (hwr p.1 hq) (Nat.not_le.mpr h1)
  · rintro C i v0 v1 s₃ m₃ E' hC ⟨hv, hu⟩ hns hm0 hm1 hk
    refine he C i v0 v1 s₃.heap s₃.gens s₃.drawn s₃.toks s₃.os m₃ E' hv hu ⟨hns, fun b o e => hk b o (fun q => ?_) (hk' b o e), ?_⟩ hm0 hm1
    · exact absurd (hwr b q) (Nat.not_le.mpr (Heap.lt_size e))
    · refine Nat.le_trans ?_ hC
      show h.objs.size ≤ h'.objs.size
      rw [hsz]; exact Nat.le_add_right _ 5
  · exact fun D h2 tk2 ys k F2 N2 hne hlen hF => hQ D h2 tk2 ys k F2 N2 hne hlen hF
end
end
section
open PySem PySem.W PyProof.Rows PySem.Calls PySem.Spec
set_option maxHeartbeats 1000000
section
variable {prog : Program} {w : World} {A : Around} {E : Value → Shared → Prop} {h h₀ : Heap} {g : Array GenState} {d : Drawn} {tk : Nat} {os : OsState} {env : Env} {L : Addr} {m : Str → Option Value} {nw : List (Addr × Obj)}
/-- xs[i:j:k] : what is left at its end -/
noncomputable def StepK (o vl vu vk : Value) (Q : Value → Shared → Prop) (s₃ : Shared) : Prop := ∃ l items lo hi st, o = .ref l ∧ s₃.heap.IsList l items ∧ items.size ≤ sizeLine ∧ IsPart vl lo ∧ IsPart vu hi ∧ IsPart vk st ∧ st ≠ some 0 ∧
  Q (.ref (s₃.heap.objs.size + 1)) { s₃ with heap := (s₃.heap.push { cls := .type "slice", data := .fields #[vl, vu, vk] }).push { cls := .type "list", data := .seq (slicePick items lo hi st) } }
theorem sub_step {value st : Expr} {lower upper : Option Expr} {p pos : Pos} {s : Shared} {Q : Value → Shared → Prop}
    (h : wpAny (model prog w) A (eval value env) (fun o s₁ => wpAny (model prog w) A (evalPart lower env) (fun vl s₂ => wpAny (model prog w) A (evalPart upper env) (fun vu s₃ => wpAny (model prog w) A (evalPart (some st) env) (fun vk s₄ => StepK o vl vu vk Q s₄) E s₃) E s₂) E s₁) E s)
    (ht : ∀ o r, letTemporaryGo value o r = pure () := by intro _ _; rfl) :
    wpAny (model prog w) A (eval (.Subscript value (.Slice lower upper (some st) p) pos) env) Q E s := by
  refine wpAny_Subscript_Slice_step (T := "list") list_getitem_lookup (wpAny_mono h (fun o s₁ h₁ => wpAny_Slice (wpAny_mono h₁ (fun vl s₂ h₂ => wpAny_mono h₂ (fun vu s₃ h₃ => wpAny_mono h₃ (fun vk s₄ h₄ => ?_) fun _ _ e => e) fun _ _ e => e) fun _ _ e => e)) fun _ _ e => e) ht
  refine holdG fun Pz kz => ?_
  obtain ⟨l, items, lo, hi, sv, rfl, hl, hsz, pl, pu, pk, h0, hQ⟩ := h₄
  refine kz ?_
  clear kz Pz
  refine ⟨(hl.push _).typeIs, wpAny_getItem_list_slice (hl.push _) (Heap.IsSliceOf.new ..) pl pu pk h0 ?_ hsz⟩
  rw [Heap.size_push]
  exact hQ
end
end
section
open PySem PySem.W PyProof.Rows PySem.Calls PySem.Spec PySem.Builtin PySem.Builtin.Str PySem.StrLaws
set_option maxHeartbeats 1000000
theorem str_of_list {a b : Str} (e : a.cps.toList = b.cps.toList) : a = b := by
  cases a; cases b; simp only [Str.mk.injEq]; exact Array.toList_inj.mp e
theorem kind_pos (x : Str) : 1 ≤ Str.strKind x := by
  unfold Str.strKind
  split
  · decide
  · split <;> decide
theorem at_list {x y : Str} {i : Nat} (h : At x y x.length i) : (x.cps.toList.drop i).take y.length = y.cps.toList := by
  have := h.2
  rw [subAt_eq] at this
  exact eq_of_beq this
theorem split_go (y : Str) (hy : y.cps.toList = [13, 10]) (x : Str) : ∀ (bs : List (List Nat)) (pre : List Nat) (cuts : List Nat) (f : Nat), (∀ b ∈ bs, 13 ∉ b) → x.cps.toList = pre ++ bs.flatMap (fun b => b ++ [13, 10]) →
    ChainG x y x.length pre.length cuts f → (∀ k, f ≤ k → ¬ At x y x.length k) → partsFrom x y.length pre.length cuts = bs.map (fun b => (⟨b.toArray⟩ : Str)) ++ [⟨⟨[]⟩⟩]
  | [], pre, cuts, f, _, hx, hc, hf => by
    have hyl : y.length = 2 := by show y.cps.toList.length = 2; rw [hy]; rfl
    have hn : x.length = pre.length := by show x.cps.toList.length = _; rw [hx]; simp
    cases cuts with
    | nil =>
      show [strSub x pre.length x.length] = _
      refine congrArg (fun s => [s]) (str_of_list ?_)
      rw [strSub_toList, hn, Nat.sub_self]
      simp
    | cons c r =>
      have h1 := hc.1
      have h2 := hc.2.1.1
      (first | lia | omega)
  | b :: bs, pre, cuts, f, hb, hx, hc, hf => by
    have hyl : y.length = 2 := by show y.cps.toList.length = 2; rw [hy]; rfl
    have hx1 : x.cps.toList = pre ++ (b ++ ([13, 10] ++ bs.flatMap (fun b => b ++ [13, 10]))) := by rw [hx]; simp
    have hx2 : x.cps.toList = (pre ++ b ++ [13, 10]) ++ bs.flatMap (fun b => b ++ [13, 10]) := by rw [hx]; simp
    have hn : x.length = pre.length + b.length + 2 + (bs.flatMap (fun b => b ++ [13, 10])).length := by show x.cps.toList.length = _; rw [hx2, List.length_append, List.length_append, List.length_append]; rfl
    have hk0 : At x y x.length (pre.length + b.length) := by
      refine ⟨by (first | lia | omega), ?_⟩
      rw [subAt_eq, hx1, hy, ← List.append_assoc, hyl, show pre.length + b.length = (pre ++ b).length by simp, List.drop_left]
      rfl
    cases cuts with
    | nil =>
      have e : f = pre.length := hc
      exact absurd hk0 (hf _ (by (first | lia | omega)))
    | cons c r =>
      have h1 := hc.1
      have hA := hc.2.1
      have hno := hc.2.2.1
      have ec : c = pre.length + b.length := by
        rcases Nat.lt_trichotomy c (pre.length + b.length) with h | h | h
        · have e := at_list hA
          rw [hy, hyl, hx1] at e
          have e1 : (pre ++ (b ++ ([13, 10] ++ bs.flatMap (fun b => b ++ [13, 10])))).drop c = b.drop (c - pre.length) ++ ([13, 10] ++ bs.flatMap (fun b => b ++ [13, 10])) := by
            rw [List.drop_append, List.drop_eq_nil_of_le h1, List.nil_append, List.drop_append, show c - pre.length - b.length = 0 by (first | lia | omega), List.drop_zero]
          rw [e1] at e
          have hne : b.drop (c - pre.length) ≠ [] := fun q => by
            have := List.drop_eq_nil_iff.mp q
            (first | lia | omega)
          cases e2 : b.drop (c - pre.length) with
          | nil => exact absurd e2 hne
          | cons z zs =>
            rw [e2] at e
            simp only [List.cons_append, List.take_succ_cons, List.cons.injEq] at e
            have : z ∈ b := List.mem_of_mem_drop (i := c - pre.length) (by rw [e2]; exact .head _)
            rw [e.1] at this
            exact absurd this (hb b (.head _))
        · exact h
        · exact absurd hk0 (hno _ (by (first | lia | omega)) h)
      subst ec
      have e3 : (pre ++ b ++ [13, 10]).length = pre.length + b.length + y.length := by rw [hyl, List.length_append, List.length_append]; rfl
      have ih := split_go y hy x bs (pre ++ b ++ [13, 10]) r f (fun d hd => hb d (.tail _ hd)) hx2 (by rw [e3]; exact hc.2.2.2) hf
      show strSub x pre.length (pre.length + b.length) :: partsFrom x y.length (pre.length + b.length + y.length) r = _
      rw [← e3, ih]
      refine congrArg (fun s => s :: _) (str_of_list ?_)
      rw [strSub_toList, hx1, List.drop_left, show pre.length + b.length - pre.length = b.length by (first | lia | omega), List.take_left]
theorem split_crlf (x y : Str) (hy : y.cps.toList = [13, 10]) (bs : List (List Nat)) (hb : ∀ b ∈ bs, 13 ∉ b) (hx : x.cps.toList = bs.flatMap (fun b => b ++ [13, 10])) :
    Txt.split x y = bs.map (fun b => (⟨b.toArray⟩ : Str)) ++ [⟨⟨[]⟩⟩] := by
  have hyl : y.length = 2 := by show y.cps.toList.length = 2; rw [hy]; rfl
  obtain ⟨f, hG, hn⟩ := occ_tight x y (by (first | lia | omega))
  have key := split_go y hy x bs [] _ f hb (by rw [List.nil_append]; exact hx) hG hn
  have hw : partsFrom x y.length 0 [] = [x] := congrArg (fun s => [s]) (sub_whole x)
  have hky : Str.strKind y = 1 := by
    have : y = ⟨⟨[13, 10]⟩⟩ := str_of_list hy
    rw [this]; decide +kernel
  unfold Txt.split
  split
  · rename_i hc
    cases bs with
    | nil =>
      refine congrArg (fun s => [s]) (str_of_list ?_)
      rw [hx]; rfl
    | cons b bs =>
      have hl : 2 ≤ x.length := by show 2 ≤ x.cps.toList.length; rw [hx]; simp; (first | lia | omega)
      have := kind_pos x
      rw [hky, hyl, Bool.or_eq_true, decide_eq_true_eq, decide_eq_true_eq] at hc
      (first | lia | omega)
  · split
    · rename_i he
      have he : occurrences x y 0 x.length (x.length + 1) = [] := by simpa using he
      rw [he] at key
      rw [← hw]; exact key
    · rw [partsBetween_eq]; exact key
theorem split_rows {ls : List Str} (h : ∀ l ∈ ls, l ∈ LEADS) : Txt.split ⟨(ls.flatMap outRow).toArray⟩ ⟨⟨[13, 10]⟩⟩ = ls.map rowT ++ [⟨⟨[]⟩⟩] := by
  rw [split_crlf _ _ rfl (ls.map fun l => (rowT l).cps.toList) (fun b hb => ?_) (by rw [List.flatMap_map]; rfl), List.map_map]
  · rfl
  · obtain ⟨l, hl, rfl⟩ := List.mem_map.mp hb
    intro hm
    have hs := signs (h l hl)
    unfold rowT at hm
    simp only [Array.toList_append, List.mem_append] at hm
    rcases hm with (hm | hm) | hm
    · split at hm <;> simp at hm
    · rcases hs 13 hm with q | q <;> cases q
    · simp at hm
end
section
open PySem PySem.W PyProof.Rows PySem.Calls PySem.Spec PyProof.V
set_option maxHeartbeats 1000000
section
variable {prog : Program} {w : World} {A : Around} {E : Value → Shared → Prop} {s : Shared}
noncomputable def EqB (prog : Program) (w : World) (A : Around) (s : Shared) (x y : Value) : Prop := ∀ (Q : Bool → Shared → Prop) (E : Value → Shared → Prop), Q true s → wpAny (model prog w) A (eqBool x y) Q E s
theorem two_tree {a b : Addr} {x1 x2 y1 y2 : Value} {P : Fin → Shared → Prop} (hx : IsTup s.heap a #[x1, y1]) (hy : IsTup s.heap b #[x2, y2]) (h1 : EqB prog w A s x1 x2) (h2 : EqB prog w A s y1 y2) (h : P (.done (.ret (.bool true))) s) :
    wpAny (model prog w) A (Builtin.«tuple.__eq__» ⟨[.ref a, .ref b], []⟩) P E s := by
  have hTb : s.TypeIs (.ref b) "tuple" := let ⟨o, e, c, _⟩ := hy; ⟨o, e, c⟩
  refine holdG fun Pz kz => ?_
  obtain ⟨oa, hoa, _, na, hda⟩ := hx
  obtain ⟨ob, hob, _, nb, hdb⟩ := hy
  refine kz ?_
  clear kz Pz
  show wpAny _ _ (isInstance (.ref b) (.type "tuple") >>= _) _ _ s
  refine wpAny_bind (wpAny_isInstance hTb isSubtype_tuple_tuple ?_)
  simp only [Bool.not_true, Bool.false_eq_true, if_false]
  refine wpAny_bind (wpAny_tupleItemsOf hoa hda ?_)
  refine wpAny_bind (wpAny_tupleItemsOf hob hdb ?_)
  refine wpAny_bind ?_
  refine wpAny_forIn_list _ (fun rest r s' => r.1 = none ∧ s' = s ∧ (rest = [(x1, x2), (y1, y2)] ∨ rest = [(y1, y2)] ∨ rest = [])) _ ?_ ?_ _ _ ⟨rfl, rfl, .inl rfl⟩
  · rintro ⟨u, v⟩ rest r s' ⟨hr, rfl, hz⟩
    rcases hz with hz | hz | hz
    · simp only [List.cons.injEq, Prod.mk.injEq] at hz
      obtain ⟨⟨rfl, rfl⟩, rfl⟩ := hz
      refine wpAny_bind (h1 _ _ ?_)
      simp only [Bool.not_true, Bool.false_eq_true, if_false]
      exact wpAny_pure ⟨rfl, rfl, by simp⟩
    · simp only [List.cons.injEq, Prod.mk.injEq] at hz
      obtain ⟨⟨rfl, rfl⟩, rfl⟩ := hz
      refine wpAny_bind (h2 _ _ ?_)
      simp only [Bool.not_true, Bool.false_eq_true, if_false]
      exact wpAny_pure ⟨rfl, rfl, by simp⟩
    · cases hz
  · rintro ⟨r1, r2⟩ s' ⟨hr, rfl, _⟩
    simp only at hr
    subst hr
    exact wpAny_pure h
theorem eq_two {a b : Addr} {x1 x2 y1 y2 : Value} {Q : Value → Shared → Prop} (hx : IsTup s.heap a #[x1, y1]) (hy : IsTup s.heap b #[x2, y2]) (hu : A.units < cLine) (h1 : EqB prog w A.in1 s x1 x2) (h2 : EqB prog w A.in1 s y1 y2) (h : Q (.bool true) s) :
    wpAny (model prog w) A (compareOp .Eq (.ref a) (.ref b)) Q E s := by
  have hTa : s.TypeIs (.ref a) "tuple" := let ⟨o, e, c, _⟩ := hx; ⟨o, e, c⟩
  have hTb : s.TypeIs (.ref b) "tuple" := let ⟨o, e, c, _⟩ := hy; ⟨o, e, c⟩
  exact wpAny_richCompare_same_room (op := .Eq) hTa hTb F.slot_tuple_eq
    (wpAny_call_entry F.slot_tuple_eq hTa F.entry_tuple_eq (two_tree hx hy h1 h2 ⟨_, rfl, (fun e => nomatch e), h⟩) (F.args_tuple_eq_2 _ _)) hu
theorem eqB_of {a b : Addr} (h : ∀ (Q : Value → Shared → Prop) (E : Value → Shared → Prop), Q (.bool true) s → wpAny (model prog w) A (compareOp .Eq (.ref a) (.ref b)) Q E s) : EqB prog w A s (.ref a) (.ref b) := fun Q E hQ => by
  unfold eqBool
  try with_reducible refine wpAny_holding ?_
  show wpAny _ _ (if (Value.ref a == Value.ref b) = true then _ else _) Q E s
  by_cases hab : (Value.ref a == Value.ref b) = true
  · rw [if_pos hab]
    exact wpAny_bind (wpAny_rule (wpAny_pure hQ))
  · rw [if_neg hab]
    exact wpAny_bind (h _ _ (wpAny_truthy_bool hQ))
theorem eqB_ints {a b : Addr} {vs us : List Value} {ns : List Int} (hl : s.heap.IsList a vs.toArray) (hi : IntsAre vs ns) (hl' : s.heap.IsList b us.toArray) (hi' : IntsAre us ns) (hu : A.units + 64 < cLine) : EqB prog w A s (.ref a) (.ref b) :=
  eqB_of fun Q E hQ => ke_eq_ints hl hl' hi hi' hu (by rw [decide_eq_true rfl]; exact hQ)
theorem eqAt_two {A : Around} {r1 r2 : Addr} {a b : Str} {t1 u1 t2 u2 : Tok} (h1 : s.heap.get? r1 = some (tupO [.str a t1, .str b u1])) (h2 : s.heap.get? r2 = some (tupO [.str a t2, .str b u2])) (hu : A.units < cLine) : SeqAt.EqAt A s (.ref r1) (.ref r2) true := by
  by_cases hne : r1 = r2
  · subst hne; exact SeqAt.EqAt.same _
  · have hl : s.heap.IsTuple r1 [.str a t1, .str b u1].toArray := ⟨_, h1, rfl, 0, rfl⟩
    have hb : s.heap.IsTuple r2 [.str a t2, .str b u2].toArray := ⟨_, h2, rfl, 0, rfl⟩
    have := SeqAt.RcAt.tuples (A := A) (e := fun _ => true) hl hb hu (fun j q1 q2 => by
      match j, q1 with
      | 0, _ => have := SeqAt.EqAt.str_str (A := A.in1) (s := s) a t1 a t2; rw [beq_self_eq_true] at this; exact this
      | 1, _ => have := SeqAt.EqAt.str_str (A := A.in1) (s := s) b u1 b u2; rw [beq_self_eq_true] at this; exact this)
    exact SeqAt.EqAt.of_refs hne this
theorem refL_len {tps : List (Addr × Obj)} {kvs : List (Int × Value)} {D : List (Nat × Str × Str)} (x : RefL tps kvs D) : kvs.length = D.length := by
  induction x with
  | nil => rfl
  | snoc _ _ ih => simp [ih]
theorem refL_at {tps : List (Addr × Obj)} {kvs : List (Int × Value)} {D : List (Nat × Str × Str)} (x : RefL tps kvs D) : ∀ (i n : Nat) (a b : Str), D[i]? = some (n, a, b) → ∃ t u r, kvs[i]? = some ((n : Int), .ref r) ∧ (r, tupO [.str a t, .str b u]) ∈ tps := by
  induction x with
  | nil => intro i n a b h; simp at h
  | @snoc kvs D i' a' b' t u r x hm ih =>
    intro i n a b h
    rcases Nat.lt_or_ge i D.length with hi | hi
    · rw [List.getElem?_append_left hi] at h
      refine holdG fun Pz kz => ?_
      obtain ⟨t, u, r, e1, e2⟩ := ih i n a b h
      refine kz ?_
      clear kz Pz
      exact ⟨t, u, r, by rw [List.getElem?_append_left (by rw [refL_len x]; exact hi)]; exact e1, e2⟩
    · rw [List.getElem?_append_right hi] at h
      have hi' : i - D.length = 0 := by
        cases hk : i - D.length with
        | zero => rfl
        | succ k => rw [hk] at h; simp at h
      rw [hi'] at h
      simp at h
      obtain ⟨rfl, rfl, rfl⟩ := h
      exact ⟨t, u, r, by rw [List.getElem?_append_right (by rw [refL_len x]; exact hi), refL_len x, hi']; rfl, hm⟩
theorem hits_of {A : Around} {kb : List (Int × Value)} : ∀ {ka : List (Int × Value)}, (∀ p ∈ ka, ∃ y, valueAt kb p.1 = some y ∧ SeqAt.EqAt A s p.2 y true) → KeqHits A s kb ka true
  | [], _ => .nil
  | (k, v) :: r, h => by
    obtain ⟨y, h1, h2⟩ := h (k, v) (.head _)
    exact KeqHits.hit (e := true) (b := true) h1 h2 (hits_of fun p hp => h p (.tail _ hp))
/-- the refused, told and plain, are alike -/
theorem refs_eq {a b : Addr} {o o' : Obj} {tps tps' : List (Addr × Obj)} {ka kb : List (Int × Value)} {D : List (Nat × Str × Str)} (ha : s.heap.get? a = some o) (hb : s.heap.get? b = some o') (na : (a == sysModules) = false) (nb : (b == sysModules) = false)
    (hod : o.IsDictOf (intKind prog w) ka) (hod' : o'.IsDictOf (intKind prog w) kb) (x : RefL tps ka D) (x' : RefL tps' kb D) (hm : ∀ p ∈ tps, s.heap.get? p.1 = some p.2) (hm' : ∀ p ∈ tps', s.heap.get? p.1 = some p.2) (hu : A.units + 2 < cLine) :
    EqB prog w A s (.ref a) (.ref b) := eqB_of fun Q E hQ => by
  have da : s.heap.DictOf (intKind prog w) a ka := Heap.dictOf_iff.mpr ⟨o, ha, hod⟩
  have db : s.heap.DictOf (intKind prog w) b kb := Heap.dictOf_iff.mpr ⟨o', hb, hod'⟩
  have hll : ka.length = kb.length := by rw [refL_len x, refL_len x']
  have hnb : (kb.map (·.1)).Nodup := by obtain ⟨_, _, _, _, _, _, hn⟩ := hod'; exact hn
  refine keq_eq na nb da db (by (first | lia | omega)) (r := true) (fun _ => hits_of fun p hp => ?_) (by rw [hll]; simpa using hQ)
  obtain ⟨i, hi, e⟩ := List.getElem_of_mem hp
  have hi' : i < D.length := by rw [← refL_len x]; exact hi
  have hD : D[i]? = some (D[i].1, D[i].2.1, D[i].2.2) := List.getElem?_eq_getElem hi'
  refine holdG fun Pz kz => ?_
  obtain ⟨t, u, r, e1, e2⟩ := refL_at x _ _ _ _ hD
  obtain ⟨t', u', r', e1', e2'⟩ := refL_at x' _ _ _ _ hD
  refine kz ?_
  clear kz Pz
  rw [List.getElem?_eq_getElem hi, e] at e1
  cases e1
  exact ⟨_, valueAt_of_get hnb e1', eqAt_two (hm _ e2) (hm' _ e2') (by show A.units + 1 < _; (first | lia | omega))⟩
theorem pick_init (vs : List Value) : (slicePick vs.toArray none (some (-1)) none).toList = vs.take (vs.length - 1) := by
  have e : sliceBounds none (some (-1)) none vs.toArray.size = (((0 : Nat) : Int), ((vs.toArray.size - 1 : Nat) : Int), 1) := by
    simp only [sliceBounds, Option.getD_none, show (1 : Int) > 0 by decide, if_true, if_pos (show (-1 : Int) < 0 by decide)]
    congr 1
    congr 1
    (first | lia | omega)
  rw [kmk_pick_nat _ e]
  show (vs.drop 0).take (vs.toArray.size - 1 - 0) = _
  rw [List.drop_zero, Nat.sub_zero, List.size_toArray]
end
end
section
open PySem PySem.W PyProof.Rows PySem.Calls PySem.Spec PyProof.V
set_option maxHeartbeats 2000000
theorem law_at (P : Params) : (KN P).lookup 255 = some (hd.zo_198 P) := by kernel_rfl
noncomputable abbrev fLaw (P : Params) : FuncData := fnIn? (hd.zo_198 P)
noncomputable abbrev envLaw (P : Params) (L : Addr) : Env := callEnvC (fLaw P) L 255
noncomputable def endI (c : Int) : Str := ENDS.getD ((c.fdiv 81).fmod 3).toNat ⟨⟨[13, 10]⟩⟩
theorem ints_of_all : ∀ (vs : List Value), (∀ v ∈ vs, ∃ n t, v = Value.int n t) → ∃ ns, IntsAre vs ns
  | [], _ => ⟨[], .nil⟩
  | v :: vs, h => by
    refine holdG fun Pz kz => ?_
    obtain ⟨ns, hn⟩ := ints_of_all vs (fun u hu => h u (.tail _ hu))
    obtain ⟨n, t, rfl⟩ := h v (.head _)
    refine kz ?_
    clear kz Pz
    exact ⟨n :: ns, .cons _ _ hn⟩
theorem all_of_ints : ∀ {vs : List Value} {ns : List Int}, IntsAre vs ns → ∀ v ∈ vs, ∃ n t, v = Value.int n t
  | _, _, .cons n t r, v, hv => by
    rcases List.mem_cons.mp hv with rfl | hv
    · exact ⟨n, t, rfl⟩
    · exact all_of_ints r v hv
theorem slice_mem {items : Array Value} {lo hi st : Option Int} {v : Value} (h : v ∈ (slicePick items lo hi st).toList) : v ∈ items.toList := by
  unfold slicePick at h
  simp only [List.toList_toArray, List.mem_filterMap] at h
  obtain ⟨i, _, e⟩ := h
  exact Array.mem_toList_iff.mpr (Array.mem_of_getElem? e)
theorem endI_mem (c : Int) : endI c ∈ ENDS := by
  refine holdG fun Pz kz => ?_
  obtain ⟨kk, ek, hk3, ek'⟩ := fm3 (c.fdiv 81)
  refine kz ?_
  clear kz Pz
  unfold endI
  rw [ek']
  rcases Nat.lt_or_ge kk 1 with hk | hk
  · obtain rfl : kk = 0 := by (first | lia | omega)
    exact .head _
  rcases Nat.lt_or_ge kk 2 with hk | hk
  · obtain rfl : kk = 1 := by (first | lia | omega)
    exact .tail _ (.head _)
  · obtain rfl : kk = 2 := by (first | lia | omega)
    exact .tail _ (.tail _ (.head _))
theorem ends_short {e : Str} (h : e ∈ ENDS) : e.cps.size ≤ 2 := by
  have : e.cps.toList.length ≤ 2 := by rcases end_ok h with e | e | e <;> rw [e] <;> decide
  simpa using this
theorem oldK_of {P : Params} {h h' : Heap} (X : (KN P).In h) (h1 : h.get? 226 = some (tabObj #[])) (h2 : h.get? 147 = some (tabObj #[])) (e : Ext (hideAll h [226, 147]) h') (T : TT h') : OldK h h' := by
  refine holdG fun Pz kz => ?_
  obtain ⟨⟨qs, e1⟩, qs2, e2⟩ := T
  refine kz ?_
  clear kz Pz
  have t1 : h.TableAt 230 226 #[] := (codeHd_of_K X (hd_230 _)).tab h1
  have t2 : h.TableAt 151 147 #[] := (codeHd_of_K X (hd_151 _)).tab h2
  have key : ∀ b o, b ≠ 226 → b ≠ 147 → h.get? b = some o → h'.get? b = some o := fun b o n1 n2 q => e b o (hideAll_get _ q (by simp [n1, n2]))
  refine ⟨fun b o q => ?_, fun b o q => ?_⟩
  · by_cases n1 : b = 226
    · subst n1
      (first | exact gX q h1 | exact gX h1 q | (rw [h1] at q; cases q))
      exact .inr (.inl ⟨t1.isCodeTable, rfl, #[], qs, rfl, by rw [Array.empty_append]; exact e1⟩)
    · by_cases n2 : b = 147
      · subst n2
        (first | exact gX q h2 | exact gX h2 q | (rw [h2] at q; cases q))
        exact .inr (.inl ⟨t2.isCodeTable, rfl, #[], qs2, rfl, by rw [Array.empty_append]; exact e2⟩)
      · exact .inl (key b o n1 n2 q)
  · by_cases n1 : b = 226
    · exact ⟨_, n1 ▸ e1⟩
    · by_cases n2 : b = 147
      · exact ⟨_, n2 ▸ e2⟩
      · exact ⟨_, key b o n1 n2 q⟩
theorem fr_val {h h₀ : Heap} {L : Addr} {m : Str → Option Value} {x : Str} {v : Value} (_ : Fr h₀ L h m) (hv : m x = some v) : m x = some v := hv
theorem strs_of : ∀ {ys : List Value} {xs : List Str}, ys.length = xs.length → (∀ (i : Nat) v, ys[i]? = some v → ∃ x t, xs[i]? = some x ∧ v = .str x t) → StrsAre ys xs
  | [], [], _, _ => .nil
  | v :: ys, x :: xs, hl, h => by
    refine holdG fun Pz kz => ?_
    obtain ⟨x', t, e, rfl⟩ := h 0 v rfl
    refine kz ?_
    clear kz Pz
    simp at e; subst e
    exact .cons _ _ (strs_of (by simpa using hl) fun i u hu => h (i + 1) u hu)
theorem strs_at {vs : List Value} {xs : List Str} (hs : StrsAre vs xs) {i : Nat} {v : Value} {x : Str} (hx : xs[i]? = some x) (hv : vs[i]? = some v) : ∃ t, v = .str x t := by
  induction hs generalizing i with
  | nil => simp at hx
  | cons y t r ih =>
    cases i with
    | zero => simp at hx hv; subst hx; exact ⟨t, hv.symm⟩
    | succ i => simp at hx hv; exact ih hx hv
section
variable {w : World} {A : Around} {E : Value → Shared → Prop} {h : Heap} {g : Array GenState} {d : Drawn} {tk : Nat} {os : OsState} {mg mb : Str → Option Value}
theorem law_ok {scr : Addr} {svs : List Value} {ns : List Int} {Q : Value → Shared → Prop} (B : Bs w mg mb h) (R : Rm A 30) (hfr : A.frames = some []) (hsl : h.IsList scr svs.toArray) (hsi : IntsAre svs ns) (hs63 : ns.length ≤ 63)
    (hP : h.get? 226 = some (tabObj #[])) (h147 : h.get? 147 = some (tabObj #[])) (G : AllBare g) (hQ : ∀ h' g' tk', OldK h h' → AllBare g' → Q (.bool true) ⟨h', g', d, tk', os⟩) :
    wpAny (MM w) A (call (.ref 255) [.ref scr]) Q E ⟨h, g, d, tk, os⟩ := by
  refine enterCs (fd := fLaw w.params) (body := _) (binds := [(⟨⟨[115, 99, 114, 105, 112, 116]⟩⟩, .ref scr)]) B (law_at _) rfl (by kernel_rfl) rfl (by kernel_rfl) R.room ?_ ?_ rfl rfl rfl rfl
  · intro L x hx
    rw [List.mem_singleton.mp hx]
    exact .inr ⟨rfl, rfl⟩
  intro h1 L tk1 E' F HC
  have R' : Rm (A.deeper (callEnvC (fLaw w.params) L 255)) 29 := R.deeper
  obtain ⟨oS, N, hS⟩ := HC ⟨⟨[115, 99, 114, 105, 112, 116]⟩⟩ (L + 1) rfl
  replace hS : oS.data = .cell (some (.ref scr)) := hS
  have hh := R'.hd
  generalize (bindL (callEnvC (fLaw w.params) L 255).kindOf _ fun _ => none) = m1 at F
  refine seq ?_
  refine pair_a (cl := [(⟨⟨[115, 99, 114, 105, 112, 116]⟩⟩, L + 1)]) (F := fun _ z => ∃ c t, z = .int c t) (h₀ := h) (L := L) (m := m1) hh ?_
  repeat kbo_bools
  refine al_list F N (by show 6 ≤ 1000; decide) (fun fl h2 F2 N2 hl2 X2 _ => ?_)
  repeat kbo_bools
  refine enum_src hh (isl N2 (.head _) (listIs_O _ _)) (by show 6 ≤ 1000; decide) F2 N2 (fun C i v t h3 g3 d3 tk3 os3 m₃ E3 hv F3 hm0 hm1 => ?_) (fun D h3 tk3 ys k F3 N3 hne3 hlen3 hF3 => ?_)
  · obtain ⟨c, tc, rfl⟩ : ∃ c tc, v = .int c tc := by
      have := List.mem_of_getElem? hv
      simp only [List.mem_cons, List.mem_nil_iff, or_false] at this
      rcases this with rfl | rfl | rfl | rfl | rfl | rfl <;> exact ⟨_, _, rfl⟩
    have B2 := B.ext F2.keep
    repeat ((fail_if_success (with_reducible show wpAny _ _ (eval (Expr.Subscript _ _ _) _) _ _ _)); kbo_bools)
    refine sub_step ?_
    refine nm_cell rfl (F3.keep _ _ (nget N2 (by k_allIn))) hS ?_
    repeat kbo_bools
    rw [evalPart_some]
    repeat kbo_bools
    rw [evalPart_none]
    refine wpAny_pure ?_
    rw [evalPart_some]
    repeat kbo_bools
    refine holdG fun Pz kz => ?_
    obtain ⟨o, eo, hcl, no, hdat⟩ := hsl
    refine kz ?_
    clear kz Pz
    have hl3 : h3.IsList scr svs.toArray := ⟨o, F3.keep _ _ (F2.keep _ _ eo), hcl, no, hdat⟩
    refine ⟨scr, svs.toArray, some i, none, some 6, rfl, hl3, ?_, .int _ _, .none, .int _ _, by decide, ?_⟩
    · rw [List.size_toArray, ints_len hsi, sizeLine_eq]; (first | lia | omega)
    obtain ⟨zs, hzs⟩ := ints_of_all (slicePick svs.toArray (some (i : Int)) none (some 6)).toList (fun v hv => all_of_ints hsi v (by simpa using slice_mem hv))
    repeat kbo_bools
    rename_i t6 _
    obtain ⟨xs, exs⟩ := hzs.allInts.items
    rw [Array.toArray_toList] at exs
    rw [exs]
    have hnew : ((h3.push { cls := .type "slice", data := .fields #[.int (i : Int) t, .none, .int 6 t6] }).push { cls := .type "list", data := .seq (intItems xs) }).IsList (h3.objs.size + 1) (intItems xs) := by
      rw [← Heap.size_push h3 ({ cls := .type "slice", data := .fields #[.int (i : Int) t, .none, .int 6 t6] } : Obj)]
      exact ⟨_, Heap.get?_push_size _ rfl, rfl, 0, rfl⟩
    refine PySem.sum_intListG (l := h3.objs.size + 1) (xs := xs) hh hnew (fun h4 tk4 t4 hk4 => ?_)
    repeat kbo_bools
    exact ⟨⟨_, _, rfl⟩, keeps_of (fun b o e => hk4 _ _ (Heap.get?_push_of_some _ (Heap.get?_push_of_some _ e)))⟩
  · obtain ⟨zs, hzs⟩ := ints_of_all ys (fun v hv => by
      obtain ⟨i, hi, e⟩ := List.getElem_of_mem hv
      exact hF3 i v (by rw [← e]; exact List.getElem?_eq_getElem hi))
    have hz6 : zs.length = 6 := by rw [← ints_len hzs]; exact hlen3
    have B3 := B.ext F3.keep
    repeat ((fail_if_success (with_reducible show wpAny _ _ (exec _ _) _ _ _)); kbo_bools)
    refine comp_a (K := .int) (cl := []) (pz := fun _ => true) (dd := fun c => .str (leadI c)) (h₀ := h) (L := L) (m := Upd m1 ⟨⟨[99, 101, 108, 108, 115]⟩⟩ (.ref D)) hh ?_
    repeat kbo_bools
    refine comp_end F3 N3 (isl N3 (.head _) (listIs_O _ _)) hzs.areOf (by (first | lia | omega)) test_nil ?_ ?_
    · rintro C a v h4 g4 d4 tk4 os4 m₂ E4 ha ⟨ta, rfl⟩ _ F4 hm
      repeat kbo_bools
      refine lead_ok (B3.ext F4.keep) (R'.le (by decide)) (fun h5 t5 tk5 X5 => ⟨.str _ _, keeps_of X5⟩)
    intro D2 lvs k2 h4 tk4 F4 N4 hne4 hc4
    rw [List.filter_eq_self.mpr (fun _ _ => rfl)] at hc4
    have hi4 : StrsAre lvs (zs.map leadI) := hc4.strsOf
    have B4 := B.ext F4.keep
    repeat ((fail_if_success (with_reducible show wpAny _ _ (exec _ _) _ _ _)); kbo_bools)
    refine comp_a (K := .int) (cl := []) (pz := fun _ => true) (dd := fun c => .str (endI c)) (h₀ := h) (L := L) (m := Upd (Upd m1 ⟨⟨[99, 101, 108, 108, 115]⟩⟩ (.ref D)) ⟨⟨[108, 101, 97, 100, 115]⟩⟩ (.ref D2)) hh ?_
    repeat kbo_bools
    refine comp_end F4 N4 (isl N4 (.tail _ (.head _)) (listIs_O _ _)) hzs.areOf (by (first | lia | omega)) test_nil ?_ ?_
    · rintro C a v h5 g5 d5 tk5 os5 m₂ E5 ha ⟨ta, rfl⟩ _ F5 hm
      have NN : News h4 C h5 [] := News.nil
      repeat kbo_bools
      refine al_tup F5 NN (by show 3 ≤ 1000; decide) (fun T h6 F6 N6 hl6 X6 _ => ?_)
      repeat kbo_bools
      refine kba_turn (value' := PySem.Expr.Name ⟨⟨[95]⟩⟩ ⟨0, 0, 0, 0⟩) (fun _ => rfl) ?_
      rename_i s1 _ s2 _ s3 _ _ _ _ _ _ _ _ _ _
      refine holdG fun Pz kz => ?_
      obtain ⟨kk, ek, hk3, ek'⟩ := fm3 (a.fdiv 81)
      refine kz ?_
      clear kz Pz
      obtain ⟨te, hte⟩ : ∃ te, ([Value.str ⟨⟨[13, 10]⟩⟩ s1, Value.str ⟨⟨[10]⟩⟩ s2, Value.str ⟨⟨[13]⟩⟩ s3].toArray)[((a.fdiv 81).fmod 3).toNat]? = some (.str (endI a) te) := by
        unfold endI ENDS
        rw [ek']
        rcases Nat.lt_or_ge kk 1 with hk | hk
        · obtain rfl : kk = 0 := by (first | lia | omega)
          exact ⟨s1, rfl⟩
        rcases Nat.lt_or_ge kk 2 with hk | hk
        · obtain rfl : kk = 1 := by (first | lia | omega)
          exact ⟨s2, rfl⟩
        · obtain rfl : kk = 2 := by (first | lia | omega)
          exact ⟨s3, rfl⟩
      refine i_tup (isTup_of (N6 _ (.head _)).1) (by (first | lia | omega)) hte (by show 3 < 1000; decide) ?_
      exact ⟨.str _ _, keeps_of X6⟩
    intro D3 evs k3 h5 tk5 F5 N5 hne5 hc5
    rw [List.filter_eq_self.mpr (fun _ _ => rfl)] at hc5
    have hi5 : StrsAre evs (zs.map endI) := hc5.strsOf
    have B5 := B.ext F5.keep
    have hlv : lvs.length = 6 := by rw [hi4.len_eq, List.length_map]; exact hz6
    have hev : evs.length = 6 := by rw [hi5.len_eq, List.length_map]; exact hz6
    repeat ((fail_if_success (with_reducible show wpAny _ _ (exec _ _) _ _ _)); kbo_bools)
    kbo_bools
    repeat kbo_bools
    refine m_join ?_
    repeat kbo_bools
    refine pair_e (cl := []) (F := fun i z => ∃ (c : Int) (t : Tok), zs[i]? = some c ∧ z = .str (leadI c ++ dotTab ++ endI c) t) (h₀ := h) (L := L) (m := Upd (Upd (Upd m1 ⟨⟨[99, 101, 108, 108, 115]⟩⟩ (.ref D)) ⟨⟨[108, 101, 97, 100, 115]⟩⟩ (.ref D2)) ⟨⟨[101, 110, 100, 115]⟩⟩ (.ref D3)) hh ?_
    repeat kbo_bools
    refine zip_src hh (isl N5 (.tail _ (.head _)) (listIs_O _ _)) (isl N5 (.head _) (listIs_O _ _)) (by (first | lia | omega)) (by (first | lia | omega)) F5 N5 (fun C i v u h6 g6 d6 tk6 os6 m₆ E6 hv hu F6 hm0 hm1 => ?_) (fun D4 h6 tk6 ys6 k6 F6 N6 hne6 hlen6 hF6 => ?_)
    · obtain ⟨c, hc⟩ : ∃ c, zs[i]? = some c := by
        have := (List.getElem?_eq_some_iff.mp hv).1
        exact ⟨_, List.getElem?_eq_getElem (by (first | lia | omega))⟩
      obtain ⟨tl, rfl⟩ := strs_at hi4 (i := i) (x := leadI c) (by rw [List.getElem?_map, hc]; rfl) hv
      obtain ⟨tv, rfl⟩ := strs_at hi5 (i := i) (x := endI c) (by rw [List.getElem?_map, hc]; rfl) hu
      have hls := short (leadI_mem c)
      have hes : (endI c).cps.size ≤ 2 := ends_short (endI_mem c)
      repeat kbo_bools
      refine o_cat (by show (leadI c).cps.size + 2 ≤ _; (first | lia | omega)) (fun t6 tk7 => ?_)
      repeat kbo_bools
      refine o_cat (by show ((leadI c).cps ++ #[46, 9]).size + (endI c).cps.size ≤ _; simp; (first | lia | omega)) (fun t7 tk8 => ?_)
      repeat kbo_bools
      exact ⟨⟨c, _, hc, rfl⟩, keeps_of fun _ _ e => e⟩
    have hj6 : StrsAre ys6 (zs.map fun c => leadI c ++ dotTab ++ endI c) := strs_of (by rw [List.length_map, hlen6]; (first | lia | omega)) fun i v hv => by
      refine holdG fun Pz kz => ?_
      obtain ⟨c, t, e, rfl⟩ := hF6 i v hv
      refine kz ?_
      clear kz Pz
      exact ⟨_, t, by rw [List.getElem?_map, e]; rfl, rfl⟩
    have hsum6 : ((zs.map fun c => leadI c ++ dotTab ++ endI c).map (·.length)).sum ≤ 6 * 40 := by
      rw [txt_len]
      unfold txt
      rw [List.flatMap_map]
      refine Nat.le_trans (flat_len _ 40 _ fun c _ => ?_) (by (first | lia | omega))
      have := short (leadI_mem c)
      have := ends_short (endI_mem c)
      show ((leadI c).cps ++ #[46, 9] ++ (endI c).cps).toList.length ≤ 40
      simp; (first | lia | omega)
    have B6 := B.ext F6.keep
    repeat kbo_bools
    refine join_list (ys := zs.map fun c => leadI c ++ dotTab ++ endI c) (isl N6 (.head _) (listIs_O _ _)) hj6 (by rw [List.length_map]; show _ + _ * 0 ≤ _; (first | lia | omega)) (fun t8 tk8 => ?_)
    repeat kbo_bools
    refine quote_ok (les := zs.map fun c => (leadI c, endI c)) B6 (R'.le (by decide)) (fun p hp => ?_) (by rw [List.length_map]; (first | lia | omega)) ?_ (fun h7 t9 tk9 X7 => ?_)
    · obtain ⟨c, _, rfl⟩ := List.mem_map.mp hp
      exact ⟨leadI_mem c, endI_mem c⟩
    · rw [join_txt]
      unfold txt
      rw [List.flatMap_map, List.flatMap_map]
      refine congrArg (fun f => List.flatMap f zs) (funext fun c => ?_)
      show ((leadI c).cps ++ #[46, 9] ++ (endI c).cps).toList = _
      simp
    have F7 := fr_ext F6 X7
    have N7 := nw_ext N6 X7
    repeat kbo_bools
    refine m_join ?_
    repeat kbo_bools
    rename_i h8 tk8' F8 N8 _ _
    have B8 := B.ext F8.keep
    have e8 := fr_val (x := ⟨⟨[108, 101, 97, 100, 115]⟩⟩) (v := .ref D2) F8 (by tb_rel)
    have e8s := fr_val (x := ⟨⟨[115, 101, 110, 116]⟩⟩) F8 upd_self
    generalize hm8 : Upd (Upd (Upd (Upd m1 ⟨⟨[99, 101, 108, 108, 115]⟩⟩ (.ref D)) ⟨⟨[108, 101, 97, 100, 115]⟩⟩ (.ref D2)) ⟨⟨[101, 110, 100, 115]⟩⟩ (.ref D3)) ⟨⟨[115, 101, 110, 116]⟩⟩ _ = m8 at *
    refine comp_e (K := .str) (cl := []) (pz := fun _ => true) (dd := fun l => .str (rowT l ++ ⟨⟨[13, 10]⟩⟩)) (h₀ := h) (L := L) (m := m8) hh ?_
    repeat kbo_bools
    refine comp_end F8 N8 (isl N8 (by k_allIn : (D2, listO lvs k2) ∈ _) (listIs_O _ _)) (strs_are hi4) (by rw [List.length_map]; (first | lia | omega)) test_nil ?_ ?_
    · rintro C a v h9 g9 d9 tk9 os9 m₉ E9 ha ⟨ta, rfl⟩ _ F9 hm
      have hls : a.cps.size < 20 := by
        obtain ⟨c, _, rfl⟩ := List.mem_map.mp ha
        exact short (leadI_mem c)
      repeat kbo_bools
      refine IfExp_ ?_
      repeat kbo_bools
      refine ifB (fun hb => ?_) (fun hb => ?_)
      · have hb : a = ⟨⟨[]⟩⟩ := by simpa using hb
        subst hb
        repeat kbo_bools
        refine o_cat (by decide) (fun t10 tk10 => ?_)
        repeat kbo_bools
        refine o_cat (by decide) (fun t11 tk11 => ?_)
        exact ⟨.str _ _, keeps_of fun _ _ e => e⟩
      · have hb : ¬ a.cps.size = 0 := fun q => by
          have : a = ⟨⟨[]⟩⟩ := by
            cases a with | mk c => cases c with | mk l => simp at q; subst q; rfl
          rw [this] at hb
          exact absurd hb (by decide)
        repeat kbo_bools
        refine o_cat (by show 0 + a.cps.size ≤ _; (first | lia | omega)) (fun t10 tk10 => ?_)
        repeat kbo_bools
        refine o_cat (by show (#[] ++ a.cps).size + 4 ≤ _; simp; (first | lia | omega)) (fun t11 tk11 => ?_)
        have e : (⟨⟨[]⟩⟩ : Str) ++ a ++ ⟨⟨[46, 9, 13, 10]⟩⟩ = rowT a ++ ⟨⟨[13, 10]⟩⟩ := by
          unfold rowT
          rw [if_neg hb]
          show (⟨#[] ++ a.cps ++ #[46, 9, 13, 10]⟩ : Str) = ⟨#[] ++ a.cps ++ #[46, 9] ++ #[13, 10]⟩
          simp
        rw [e]
        exact ⟨.str _ _, keeps_of fun _ _ e => e⟩
    intro D5 rvs k5' h9 tk9 F9 N9 hne9 hc9
    rw [List.filter_eq_self.mpr (fun _ _ => rfl)] at hc9
    have hi9 : StrsAre rvs ((zs.map leadI).map fun l => rowT l ++ ⟨⟨[13, 10]⟩⟩) := hc9.strsOf
    have hsum9 : (((zs.map leadI).map fun l => rowT l ++ (⟨⟨[13, 10]⟩⟩ : Str)).map (·.length)).sum ≤ 6 * 60 := by
      rw [txt_len]
      unfold txt
      rw [List.flatMap_map, List.flatMap_map]
      refine Nat.le_trans (flat_len _ 60 _ fun c _ => ?_) (by (first | lia | omega))
      have := row_short (leadI_mem c)
      show ((rowT (leadI c)).cps ++ #[13, 10]).toList.length ≤ 60
      simp; (first | lia | omega)
    repeat kbo_bools
    refine join_list (ys := (zs.map leadI).map fun l => rowT l ++ ⟨⟨[13, 10]⟩⟩) (isl N9 (.head _) (listIs_O _ _)) hi9 (by rw [List.length_map, List.length_map]; show _ + _ * 0 ≤ _; (first | lia | omega)) (fun t12 tk12 => ?_)
    have hsent : Txt.join ⟨⟨[]⟩⟩ ((zs.map leadI).map fun l => rowT l ++ (⟨⟨[13, 10]⟩⟩ : Str)) = ⟨((zs.map fun c => (leadI c, endI c)).flatMap fun p => outRow p.1).toArray⟩ := by
      have : ∀ a b : Str, a.cps.toList = b.cps.toList → a = b := fun a b e => by
        cases a; cases b; simp only [Str.mk.injEq]; exact Array.toList_inj.mp e
      refine this _ _ ?_
      rw [join_txt]
      unfold txt
      rw [List.flatMap_map, List.flatMap_map, List.flatMap_map]
      refine congrArg (fun f => List.flatMap f zs) (funext fun c => ?_)
      show ((rowT (leadI c)).cps ++ #[13, 10]).toList = _
      unfold outRow
      simp
    rw [hsent]
    generalize hse : (⟨((zs.map fun c => (leadI c, endI c)).flatMap fun p => outRow p.1).toArray⟩ : Str) = sent at *
    repeat kbo_bools
    refine ne_str ?_
    repeat kbo_bools
    rw [if_neg (by simp : ¬ (sent != sent) = true)]
    repeat kbo_bools
    refine PySem.GM.split ?_
    repeat kbo_bools
    have hlds : ∀ l ∈ zs.map leadI, l ∈ LEADS := fun l hl => by
      obtain ⟨c, _, rfl⟩ := List.mem_map.mp hl
      exact leadI_mem c
    have hsplit : Txt.split sent ⟨⟨[13, 10]⟩⟩ = (zs.map leadI).map rowT ++ [⟨⟨[]⟩⟩] := by
      have := split_rows hlds
      rw [List.flatMap_map] at this
      rw [← hse, List.flatMap_map]
      exact this
    have hsl : sent.length ≤ 6 * 60 := by
      rw [← hse]
      show ((zs.map fun c => (leadI c, endI c)).flatMap fun p => outRow p.1).length ≤ _
      rw [List.flatMap_map]
      refine Nat.le_trans (flat_len _ 60 _ fun c _ => ?_) (by (first | lia | omega))
      have := row_short (leadI_mem c)
      unfold outRow
      simp; (first | lia | omega)
    refine splitN1A F9 N9 rfl (fun sp h10 tk10 hsp hst _ hil F10 N10 => ?_) (by rw [sizeLine_eq]; (first | lia | omega))
    rw [hsp, hsplit] at hst
    generalize strValues sp = spv at hst hil N10
    refine wpAny_Slice ?_
    rw [evalPart_none]
    refine wpAny_pure ?_
    rw [evalPart_some]
    repeat kbo_bools
    refine PyProof.Rows.neg_int ?_
    refine wpAny_pure ?_
    refine kba_turn (value' := PySem.Expr.Name ⟨⟨[95]⟩⟩ ⟨0, 0, 0, 0⟩) (fun _ => rfl) ?_
    have hspl : spv.length = 7 := by rw [hst.len_eq, List.length_append, List.length_map, List.length_map]; show zs.length + 1 = 7; (first | lia | omega)
    refine kmk_slice_lit F10 N10 hil .none (.int _ _) (pick_init _) (fun ln h11 F11 N11 hlt11 => ?_) (by with_unfolding_all rfl) (fun _ => rfl) (by rw [List.size_toArray, sizeLine_eq]; (first | lia | omega))
    dsimp only at F11 N11 ⊢
    repeat kbo_bools
    show wpAny _ _ (call (.ref 245) [.ref ln]) _ _ _
    have B0 : Bs w mg mb (hideAll h [226, 147]) := B.tabs
    have hL0 : h.get? L = none := by
      refine gN fun o e => ?_
      exact absurd (Heap.lt_size e) (Nat.not_lt.mpr F11.above)
    have e0 : Ext (hideAll h [226, 147]) h11 := fun b o q => F11.keep b o (of_hideAll _ q)
    have hb0 : ∀ a, h.get? a = none → (hideAll h [226, 147]).get? a = none := fun a e => by
      refine gN fun o q => ?_
      (first | exact gX e (of_hideAll _ q) | exact gX (of_hideAll _ q) e | (rw [of_hideAll _ q] at e; cases e))
    have n226 : (226 : Addr) ≠ L := fun e => by rw [← e, hP] at hL0; cases hL0
    have n147 : (147 : Addr) ≠ L := fun e => by rw [← e, h147] at hL0; cases hL0
    have hX2 : ∀ a ∈ [226, 147], (hideAll h [226, 147]).get? a = none ∧ a ≠ L := fun a ha => ⟨hideAll_none _ ha, by
      revert a ha
      refine fm_cons ?_ ?_
      · exact n226
      intro a ha
      · rw [List.mem_singleton.mp ha]; exact n147⟩
    have hS0 : ∀ a ∈ frs [envLaw w.params L], (hideAll h [226, 147]).get? a = none := fun a ha => by
      rw [List.mem_singleton.mp (show a ∈ [L] from ha)]; exact hb0 L hL0
    have hX : ∀ a ∈ [226, 147] ++ frs [envLaw w.params L], (hideAll h [226, 147]).get? a = none := by
      refine fm_app ?_ ?_
      · intro a ha
        exact (hX2 a ha).1
      intro a ha
      · exact hS0 a ha
    have hkind : (envLaw w.params L).scope.kind ≠ .module := by rw [show (envLaw w.params L).scope.kind = .function by kernel_rfl]; decide
    have FF : h11.FunFrames (hideAll h11 ([226, 147] ++ frs [envLaw w.params L])) [envLaw w.params L] := by
      refine holdG fun Pz kz => ?_
      obtain ⟨oL, es, ep, ho, hd', _⟩ := F11.ns
      refine kz ?_
      clear kz Pz
      exact ⟨hkind, ⟨L, oL, rfl, hideAll_none _ (List.mem_append_right _ (List.mem_singleton.mpr rfl)), ho, fun vs q => by (first | exact gX q hd' | exact gX hd' q | (rw [hd'] at q; cases q))⟩, trivial⟩
    have hfr1 : (A.deeper (envLaw w.params L)).frames = some [envLaw w.params L] := by
      show Option.map _ A.frames = _; rw [hfr]; rfl
    have notIn : ∀ {a : Addr} {o : Obj}, (a, o) ∈ (ln, W.listOf (List.take (spv.length - 1) spv).toArray 0) :: (h9.objs.size, ({ cls := Value.type "list", data := Data.seq spv.toArray } : Obj)) :: (D5, listO rvs k5') :: (D4, listO ys6 k6) :: (D3, listO evs k3) :: (D2, listO lvs k2) :: [] → a ∉ [226, 147] ∧ a ∉ frs [envLaw w.params L] := fun {a o} ha => by
      obtain ⟨ho, hne, hn⟩ := N11 (a, o) (List.mem_append_left [_, _, _] ha)
      refine ⟨fun q => ?_, fun q => hne (List.mem_singleton.mp (show a ∈ [L] from q))⟩
      dsimp only at hn
      exact (List.mem_cons.mp q).elim (fun q => gX hn ((congrArg _ q).trans hP)) (fun q => gX hn ((congrArg _ (List.mem_singleton.mp q)).trans h147))
    have hlnI : (hideAll h11 ([226, 147] ++ frs [envLaw w.params L])).IsList ln (List.take (spv.length - 1) spv).toArray := by
      have q := notIn (.head _)
      exact ⟨_, hideAll_get _ (N11 _ (.head _)).1 (fun hm => by
        rcases List.mem_append.mp hm with hm | hm
        · exact q.1 hm
        · exact q.2 hm), rfl, 0, rfl⟩
    have hl6' : (zs.map leadI).length = 6 := by rw [List.length_map]; exact hz6
    refine told_ok (ld := zs.map leadI) (lvs := List.take (spv.length - 1) spv) (outer := [envLaw w.params L]) (ps := #[]) (ps2 := #[]) (op := tabObj #[]) (B0.hide e0 hX) (R'.le (by decide)) hfr1 FF hlnI (fun i v hv => ?_) (by rw [List.length_take]; (first | lia | omega)) hlds (by (first | lia | omega)) (F11.keep _ _ hP) trivial rfl (F11.keep _ _ h147) rfl rfl trivial G
      (fun tp dp rf od kvs tps dvs n' h12 g12 tk12 M12 etp edp hdv erf hod hrl htp ntp ndp nrf nsys hTT G12 => ?_)
    · have hi : i < 6 := by
        have := (List.getElem?_eq_some_iff.mp hv).1
        rw [List.length_take] at this; (first | lia | omega)
      rw [List.getElem?_take] at hv
      split at hv
      · obtain ⟨l, hl⟩ : ∃ l, (zs.map leadI)[i]? = some l := ⟨_, List.getElem?_eq_getElem (by (first | lia | omega))⟩
        obtain ⟨t, e⟩ := strs_at hst (x := rowT l) (by rw [List.getElem?_append_left (by rw [List.length_map]; (first | lia | omega)), List.getElem?_map, hl]; rfl) hv
        exact ⟨l, t, hl, e⟩
      · cases hv
    have F0 : Fr (hideAll h [226, 147]) L h11 m8 := ⟨F11.ns, e0, by rw [hideAll_size]; exact F11.above⟩
    have F12 := fr_mv F0 M12 hX2 hS0
    have B12 : Bs w mg mb h12 := B0.ext F12.keep
    have eD2 : h12.get? D2 = some (listO lvs k2) := by
      have q := notIn (a := D2) (o := listO lvs k2) (.tail _ (.tail _ (.tail _ (.tail _ (.tail _ (.head _))))))
      exact (M12 D2 _ q.1 (N11 (D2, listO lvs k2) (.tail _ (.tail _ (.tail _ (.tail _ (.tail _ (.head _)))))) ).1).1 q.2
    repeat kbo_bools
    show wpAny _ _ (call (.ref 250) [.ref D2]) _ _ _
    refine plain_ok B12 (R'.le (by decide)) ⟨_, eD2, listIs_O _ _⟩ hi4 hlds (by (first | lia | omega)) (fun h13 tk13 T dp' rf' od' kvs' tps' dvs' n'' X13 eT edp' hdv' erf' hod' hrl' htp' nsys' => ?_)
    have hn0 : nil' ∈ LEADS := by decide +kernel
    have hch : Chain [nil'] := ⟨fun b hb => by rw [List.mem_singleton.mp hb]; exact hn0, List.pairwise_singleton _ _⟩
    have hrun : run (zs.map leadI) 0 [⟨#[]⟩] [] [] = plainRun (zs.map leadI) 0 [nil'] [] [] := runs_agree hn0 _ _ _ _ _ hlds hch rfl
    rw [hrun] at hdv hrl
    have hu1 := R'.un
    refine eq_two (isTup_of (X13 _ _ etp)) (isTup_of eT) (by (first | lia | omega))
      (eqB_ints (vs := dvs) (us := dvs') ⟨_, X13 _ _ edp, listIs_O _ _⟩ hdv ⟨_, edp', listIs_O _ _⟩ hdv' (by show _ + 1 + 64 < _; (first | lia | omega)))
      (refs_eq (X13 _ _ erf) erf' nsys nsys' hod hod' hrl hrl' (fun p hp => X13 _ _ (htp p hp).1) htp' (by show _ + 1 + 2 < _; (first | lia | omega))) ?_
    exact hQ _ _ _ (oldK_of B.X hP h147 (Ext.trans F12.keep X13) (let ⟨⟨a, e1⟩, b, e2⟩ := hTT; ⟨⟨a, X13 _ _ e1⟩, b, X13 _ _ e2⟩)) G12
end
end
section
open PySem PySem.W PySem.W.X PyProof.Rows PySem.Calls PySem.Spec
set_option maxHeartbeats 4000000
theorem lookup_filter {q : Nat → Bool} : ∀ {K : Frag} {a : Addr} {o : Obj}, (K.filter (fun p => q p.1)).lookup a = some o → K.lookup a = some o
  | [], _, _, e => e
  | (b, o') :: K, a, o, e => by
    rw [List.filter_cons] at e
    by_cases hab : a = b
    · subst hab
      split at e
      · rw [List.lookup_cons, beq_self_eq_true] at e ⊢; exact e
      · rename_i hq
        exfalso
        have : ∀ {K : Frag}, (K.filter (fun p => q p.1)).lookup a = some o → False := fun {K} => by
          induction K with
          | nil => intro e; cases e
          | cons x K ih =>
            intro e
            rw [List.filter_cons] at e
            split at e
            · rename_i hx
              obtain ⟨c, oc⟩ := x
              rw [List.lookup_cons] at e
              cases hc : a == c with
              | true => have : a = c := by simpa using hc
                        subst this; exact hq hx
              | false => rw [hc] at e; exact ih e
            · exact ih e
        exact this e
    · have hb : (a == b) = false := by simpa using hab
      rw [List.lookup_cons, hb]
      split at e
      · rw [List.lookup_cons, hb] at e; exact lookup_filter e
      · exact lookup_filter e
theorem kn_in {P : Params} {h : Heap} (X : (hd.heap_199 P).In h) : (KN P).In h := fun a o e => X a o (lookup_filter (q := fun a => a != 226 && a != 147) e)
theorem tab_226 (P : Params) : (hd.heap_199 P).lookup 226 = some (tabObj #[]) := by kernel_rfl
theorem tab_147 (P : Params) : (hd.heap_199 P).lookup 147 = some (tabObj #[]) := by kernel_rfl
end
end
end Mine
open PySem PySem.W PySem.W.X PyProof.Rows PySem.Calls PySem.Spec
set_option maxRecDepth 100000 in
set_option maxHeartbeats 4000000 in
theorem PySem.Challenge.cw_pk0100_01_holds : PySem.Challenge.rw_pk0100_01.Holds := by
  refine holds_law Mine.lawSaid (fun _ => Mine.top ?_)
  intro w s₀ s₁ mg mb G y fa o pm cd doc dV kV ho hdo hcd hD hmg hg args vals as L hpre hlay hrd hwl hlo
  have keeps := Laid.keeps L
  have zf := z_facts (fun P => by kernel_rfl) y
  have KX : (hd.heap_199 w.params).In s₁.heap := InK.keeps _ _ _ zf.2.1 keeps
  refine Ground.open G ?_
  intro T B D TE TW
  wrow_args hpre hlay hrd hwl hlo
  x_fa T KX hmg
  clear y hdo hcd hD hmg
  rename_i ns hsv hlay0 hL1 hr1 hl2 w4 w3 scr svs w6 hsl ra w1 r0 hsi hr hc1 hc2
  have BB : Mine.Bs w mg mb s₁.heap := ⟨Mine.kn_in KX, T.g, T.b, T.builtins, T.nolimit⟩
  have RR : Mine.Rm callerA 30 := ⟨rfl, by decide, by decide⟩
  have hg0 : AllBare s₁.gens := by rw [hg]; exact AllBare.empty
  obtain ⟨hp, gg, dd, tk, os⟩ := s₁
  refine Mine.law_ok (ns := ns) BB RR rfl hsl hsi (by omega) (KX _ _ (Mine.tab_226 _)) (KX _ _ (Mine.tab_147 _)) hg0 (fun h' g' tk' hk hb => ?_)
  refine ⟨.inl ⟨_, _, [], rfl, fun _ => rfl, ReadsW.bool true, ?_, fun _ => ⟨List.nodup_nil, fun _ hm => (nomatch hm)⟩⟩, hk, rfl, hb⟩
  wrow_post
