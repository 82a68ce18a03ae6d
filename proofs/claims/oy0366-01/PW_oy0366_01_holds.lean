import PyProof.Rows.All
import Wide.All
import OpenK.AllK
import Wide.FinOn
import KE.KTryDeep
import OpenK.XEnd
import Lean
import PySem.Challenge.RW_oy0366_01
open PySem PySem.Spec PySem.Calls PySem.W PyProof.Rows
set_option Elab.async false
set_option maxRecDepth 100000
local macro_rules | `(tactic| walk_at $s:str) => `(tactic| k_extra $s)
local macro_rules | `(tactic| omega) => `(tactic| k_extra "omega")
local macro_rules | `(tactic| k_ne) => `(tactic| k_extra "k_ne")
local macro_rules | `(tactic| k_put) => `(tactic| k_extra "k_put")
local macro_rules | `(tactic| lcg_off) => `(tactic| k_extra "lcg_off")
local macro_rules | `(tactic| k_room) => `(tactic| k_extra "k_room")
namespace Mine
noncomputable def alive (o : Obj) : Bool := match o with
  | ⟨_, _, .freed, _⟩ => false
  | _ => true
noncomputable def pickL : List Obj → Nat → List Nat → List Obj
  | [], _, _ => []
  | o :: r, n, as => match as with
    | [] => []
    | a :: as => match Nat.beq n a with
      | true => (match alive o with
        | true => o :: pickL r (n + 1) as
        | false => [])
      | false => pickL r (n + 1) (a :: as)
theorem pick_get {K : Frag} : ∀ {l : List Obj} {n : Nat}, pickL l n (K.map (·.1)) = K.map (·.2) → ∀ p ∈ K, n ≤ p.1 ∧ l[p.1 - n]? = some p.2 ∧ alive p.2 = true := by
  intro l
  induction l generalizing K with
  | nil =>
    intro n h p hp
    cases K with
    | nil => cases hp
    | cons q r => exact absurd h (by simp [pickL])
  | cons o r ih =>
    intro n h p hp
    cases K with
    | nil => cases hp
    | cons q t =>
      rw [List.map_cons, List.map_cons] at h
      cases hb : Nat.beq n q.1 with
      | true =>
        cases ha : alive o with
        | false => simp [pickL, hb, ha] at h
        | true =>
          simp only [pickL, hb, ha, List.cons.injEq] at h
          have hq := Nat.eq_of_beq_eq_true hb
          rcases List.mem_cons.mp hp with e | hp
          · subst e
            refine ⟨Nat.le_of_eq hq, ?_, h.1 ▸ ha⟩
            rw [← hq, Nat.sub_self, h.1]; rfl
          · have := ih h.2 p hp
            refine ⟨Nat.le_of_succ_le this.1, ?_, this.2.2⟩
            rw [show p.1 - n = (p.1 - (n + 1)) + 1 from (Nat.succ_pred_eq_of_pos (Nat.sub_pos_of_lt this.1)).symm]
            exact this.2.1
      | false =>
        simp only [pickL, hb] at h
        have := ih (K := q :: t) (by rw [List.map_cons, List.map_cons]; exact h) p hp
        refine ⟨Nat.le_of_succ_le this.1, ?_, this.2.2⟩
        rw [show p.1 - n = (p.1 - (n + 1)) + 1 from (Nat.succ_pred_eq_of_pos (Nat.sub_pos_of_lt this.1)).symm]
        exact this.2.1
theorem lookup_in {K : Frag} {a : Addr} {o : Obj} (h : K.lookup a = some o) : (a, o) ∈ K := by
  induction K with
  | nil => cases h
  | cons q r ih =>
    obtain ⟨b, x⟩ := q
    simp only [List.lookup] at h
    split at h
    · rename_i e; cases h; rw [beq_iff_eq.mp e]; exact List.Mem.head _
    · exact List.Mem.tail _ (ih h)
noncomputable def fstL : Frag → List Nat
  | [] => []
  | p :: r => p.1 :: fstL r
noncomputable def sndL : Frag → List Obj
  | [] => []
  | p :: r => p.2 :: sndL r
theorem fst_map : ∀ K : Frag, fstL K = K.map (·.1)
  | [] => rfl
  | p :: r => by rw [fstL, fst_map r]; rfl
theorem snd_map : ∀ K : Frag, sndL K = K.map (·.2)
  | [] => rfl
  | p :: r => by rw [sndL, snd_map r]; rfl
theorem pick_in {K : Params → Frag} {as : List Addr} (e : ∀ P, as = fstL (K P)) (w : World) (s : Shared) (x : pickL s.heap.objs.toList 0 as = sndL (K w.params)) : InK K w s.heap := by
  rw [e w.params, fst_map, snd_map] at x
  intro a o h
  have := pick_get x (a, o) (lookup_in h)
  have g : s.heap.objs[a]? = some o := by rw [← Array.getElem?_toList]; exact this.2.1
  unfold Heap.get?
  rw [g]
  have ha := this.2.2
  unfold alive at ha
  split
  · rename_i q; cases q; cases ha
  · rfl
noncomputable def pickH (K : Params → Frag) (as : List Addr) (e : ∀ P, as = fstL (K P)) (_ : True) : Hook :=
  ⟨List Obj, fun s => pickL s.heap.objs.toList 0 as, fun w => sndL (K w.params), InK K, pick_in e, InK.keeps⟩
theorem kInP {K : Params → Frag} {w : World} {h : Heap} (Y : InK K w h) : (K w.params).In h := Y
end Mine
local macro_rules | `(tactic| o_head ($_:ident $K $A $_e)) => `(tactic| o_head (Mine.pickH $K $A (fun _ => by kernel_rfl) trivial))
namespace Mine
theorem hd.tw9012836324853574702 : True := trivial
theorem hd.tw12023040214023829324 : True := trivial
theorem hd.tw3429492842335990350 : True := trivial
theorem hd.tw14685462170515437407 : True := trivial
theorem hd.tw5486487638281291605 : True := trivial
theorem hd.tw6278647508926252785 : True := trivial
theorem hd.tw678209747344391502 : True := trivial
theorem hd.tw1439246655266547700 : True := trivial
theorem hd.tw578887228443019578 : True := trivial
theorem hd.tw10424393626065333798 : True := trivial
theorem hd.tw14440960662653809013 : True := trivial
theorem hd.tw16487816990975572028 : True := trivial
theorem hd.tw2708950531961675432 : True := trivial
theorem hd.tw7182994202766372144 : True := trivial
theorem hd.tw2252305205657439004 : True := trivial
theorem hd.tw11283319371284918911 : True := trivial
theorem hd.tw6305734824756694309 : True := trivial
theorem hd.tw17062030032774818151 : True := trivial
theorem hd.tw6181573660694698118 : True := trivial
theorem hd.tw6394381022753523788 : True := trivial
theorem hd.tw13562760996464443880 : True := trivial
theorem hd.tw6615107907471364465 : True := trivial
theorem hd.tw15618049606547972131 : True := trivial
theorem hd.tw10787125048147943196 : True := trivial
theorem hd.tw16064382804478563927 : True := trivial
theorem hd.tw6578402527460240241 : True := trivial
theorem hd.tw10879034167726328663 : True := trivial
theorem hd.tw1043307727769730188 : True := trivial
theorem hd.tw12832683148521936107 : True := trivial
theorem hd.tw8228950375871286339 : True := trivial
theorem hd.tw12565835363266740329 : True := trivial
theorem hd.tw10835030195340973342 : True := trivial
theorem hd.tw15697423400787487869 : True := trivial
theorem hd.tw12113243949977362033 : True := trivial
theorem hd.tw16826083622388986153 : True := trivial
theorem hd.tw17070941380808615275 : True := trivial
theorem hd.tw10264135568141901301 : True := trivial
theorem hd.tw4654797750381630734 : True := trivial
theorem hd.tw4355604671862981090 : True := trivial
theorem hd.tw16011055738799735888 : True := trivial
theorem hd.tw14246236162039180721 : True := trivial
theorem hd.tw3913528116038191188 : True := trivial
theorem hd.tw5405509625223553959 : True := trivial
theorem hd.tw7028611270464810887 : True := trivial
theorem hd.tw5605480435847508373 : True := trivial
theorem hd.tw5283464899586487735 : True := trivial
theorem hd.tw6755925336976613232 : True := trivial
theorem hd.tw12629568148972539762 : True := trivial
theorem hd.tw4297731678662094536 : True := trivial
theorem hd.tw10604169790165778682 : True := trivial
theorem hd.tw17902569758825723728 : True := trivial
theorem hd.tw15683763237869141255 : True := trivial
theorem hd.tw7252557286763528408 : True := trivial
theorem hd.tw8356816923877370021 : True := trivial
theorem hd.tw9476321141362543215 : True := trivial
theorem hd.tw14103535550066685397 : True := trivial
theorem hd.tw7372000682148998216 : True := trivial
theorem hd.tw15856727013471470956 : True := trivial
theorem hd.tw14492701947808656938 : True := trivial
theorem hd.tw17956543221229664512 : True := trivial
theorem hd.tw14439243815434019604 : True := trivial
theorem hd.tw5190246844813560578 : True := trivial
theorem hd.tw13532847315355080253 : True := trivial
theorem hd.tw2489000522355961661 : True := trivial
theorem hd.tw14060237666301923597 : True := trivial
theorem hd.tw2329189449893159454 : True := trivial
theorem hd.tw1241404454085649124 : True := trivial
theorem hd.tw2068664650715991707 : True := trivial
theorem hd.tw11905163887095721015 : True := trivial
theorem hd.tw9657781627882305391 : True := trivial
theorem hd.tw3608708970678896270 : True := trivial
theorem hd.tw10806950440038215891 : True := trivial
theorem hd.tw2887051446865420828 : True := trivial
theorem hd.tw11151547217846952531 : True := trivial
theorem hd.tw9449672872311958731 : True := trivial
theorem hd.tw10845626234925267891 : True := trivial
theorem hd.tw13051953538815563581 : True := trivial
theorem hd.tw8317466277049474617 : True := trivial
theorem hd.tw14980023328507725902 : True := trivial
theorem hd.tw15948780112781908787 : True := trivial
theorem hd.tw3229955645248102723 : True := trivial
theorem hd.tw10603584201595350602 : True := trivial
theorem hd.tw15615420239508185596 : True := trivial
theorem hd.tw7712595579559962911 : True := trivial
theorem hd.tw1379335367625716243 : True := trivial
theorem hd.tw6442067068224118133 : True := trivial
theorem hd.tw3496965988886986938 : True := trivial
theorem hd.tw5247051413645994129 : True := trivial
theorem hd.tw3704167492566942397 : True := trivial
theorem hd.tw7191455744419660376 : True := trivial
theorem hd.tw18293732401869909652 : True := trivial
theorem hd.tw11136197038861592535 : True := trivial
theorem hd.tw940617070666608080 : True := trivial
theorem hd.tw3386092968808520798 : True := trivial
theorem hd.tw2739504486584576224 : True := trivial
theorem hd.tw4702841417184801058 : True := trivial
theorem hd.tw18219297243305740317 : True := trivial
theorem hd.tw3660579746685279459 : True := trivial
theorem hd.tw6264232113106981867 : True := trivial
theorem hd.tw7578210074245671484 : True := trivial
theorem hd.tw3673020696563887462 : True := trivial
theorem hd.tw11162318198679636149 : True := trivial
theorem hd.tw2658526732547218105 : True := trivial
theorem hd.tw1147470481896660410 : True := trivial
theorem hd.tw3887682987991473952 : True := trivial
theorem hd.tw6320253292602491972 : True := trivial
theorem hd.tw2922222751358710265 : True := trivial
theorem hd.tw2323474266016966308 : True := trivial
theorem hd.tw12870888531099404533 : True := trivial
theorem hd.tw511748877826530558 : True := trivial
theorem hd.tw5343241284826551009 : True := trivial
theorem hd.tw8931695957890008076 : True := trivial
theorem hd.tw14457593812595234344 : True := trivial
theorem hd.tw6184460063843016694 : True := trivial
theorem hd.tw17876089906941426215 : True := trivial
theorem hd.tw2562236817408797766 : True := trivial
theorem hd.tw17001982702790524580 : True := trivial
theorem hd.tw12459740579856956213 : True := trivial
theorem hd.tw13164601040044201813 : True := trivial
theorem hd.tw17377529257436501650 : True := trivial
theorem hd.tw17252143746492648416 : True := trivial
theorem hd.tw14612060388864693735 : True := trivial
theorem hd.tw16698745307106531279 : True := trivial
theorem hd.tw17542962492245011380 : True := trivial
theorem hd.tw1792636949448641307 : True := trivial
theorem hd.tw7289634563603522867 : True := trivial
theorem hd.tw758273949599710562 : True := trivial
theorem hd.tw4916360252006170105 : True := trivial
theorem hd.tw6848782300941138395 : True := trivial
theorem hd.tw3646829019195819677 : True := trivial
theorem hd.tw15852365999677673905 : True := trivial
theorem hd.tw541196102884509978 : True := trivial
theorem hd.tw8381844023166312768 : True := trivial
theorem hd.tw5667655126489319660 : True := trivial
theorem hd.tw8179070454071193570 : True := trivial
theorem hd.tw9813410681712176819 : True := trivial
theorem hd.tw2608437505485318709 : True := trivial
theorem hd.tw14478148883734587675 : True := trivial
theorem hd.tw12727495553239364174 : True := trivial
theorem hd.tw11778180911958503814 : True := trivial
theorem hd.tw12268275109542032366 : True := trivial
theorem hd.tw10678649693572172417 : True := trivial
theorem hd.tw10601615944963115059 : True := trivial
theorem hd.tw6767318904944593275 : True := trivial
theorem hd.tw3694398316872202419 : True := trivial
theorem hd.tw7355570028127101125 : True := trivial
theorem hd.tw9533747618267967006 : True := trivial
theorem hd.tw18163647496604598072 : True := trivial
theorem hd.tw6547078798241139092 : True := trivial
theorem hd.tw2042874687063273074 : True := trivial
theorem hd.tw8683856772340465682 : True := trivial
theorem hd.tw1603739661141634737 : True := trivial
theorem hd.tw13365295217650922812 : True := trivial
theorem hd.tw11801993109049149486 : True := trivial
theorem hd.tw4581847759332874082 : True := trivial
theorem hd.tw7525542149764818722 : True := trivial
theorem hd.tw8881176148764397765 : True := trivial
theorem hd.tw16639802674150441104 : True := trivial
theorem hd.tw18268791191939849864 : True := trivial
theorem hd.tw18176940659606848779 : True := trivial
theorem hd.tw3795277891434052102 : True := trivial
theorem hd.tw15578025631644234493 : True := trivial
theorem hd.tw5850991567925798318 : True := trivial
theorem hd.tw13671756088133313087 : True := trivial
theorem hd.tw22551697357593593 : True := trivial
theorem hd.tw12211380539166087753 : True := trivial
theorem hd.tw956962677268122417 : True := trivial
theorem hd.tw2783992281797965187 : True := trivial
theorem hd.tw3241458686731973266 : True := trivial
theorem hd.tw12994019391074448376 : True := trivial
theorem hd.tw13753220567063992666 : True := trivial
theorem hd.tw18103420901670897651 : True := trivial
theorem hd.tw11754176132448286083 : True := trivial
theorem hd.tw10258225898301398825 : True := trivial
theorem hd.tw8273930003744585626 : True := trivial
theorem hd.tw11968265576560266318 : True := trivial
theorem hd.tw1197925565968671727 : True := trivial
theorem hd.tw5362516397382645915 : True := trivial
theorem hd.tw5378308252288859171 : True := trivial
theorem hd.tw18131696352309475102 : True := trivial
theorem hd.tw12647368939536790636 : True := trivial
theorem hd.tw15381450162410889989 : True := trivial
theorem hd.tw13181700845877081190 : True := trivial
theorem hd.tw15946388913382835224 : True := trivial
theorem hd.tw7489763959799892387 : True := trivial
theorem hd.tw4642405928176397000 : True := trivial
theorem hd.tw3571134770919094901 : True := trivial
theorem hd.tw14984183105004643987 : True := trivial
theorem hd.tw18421049791903953903 : True := trivial
theorem hd.tw9566141503761928105 : True := trivial
theorem hd.tw2799067240506288376 : True := trivial
theorem hd.tw8269573656231971908 : True := trivial
theorem hd.tw17088974140843591490 : True := trivial
theorem hd.tw6082411064634330575 : True := trivial
theorem hd.tw9673543361469618366 : True := trivial
theorem hd.tw10195207025132199040 : True := trivial
theorem hd.tw9228397985900620932 : True := trivial
theorem hd.tw16795040122137113940 : True := trivial
theorem hd.tw10102539355485613405 : True := trivial
theorem hd.tw4363365295628954845 : True := trivial
theorem hd.tw4159134105002834734 : True := trivial
theorem hd.tw3878383114103592795 : True := trivial
theorem hd.tw13132618709999183898 : True := trivial
theorem hd.tw8472141830624432390 : True := trivial
theorem hd.tw242841246431481386 : True := trivial
theorem hd.tw17429513623812275283 : True := trivial
theorem hd.tw2598446214317162929 : True := trivial
theorem hd.tw395138700845864316 : True := trivial
theorem hd.tw12521463284412890351 : True := trivial
theorem hd.tw12239354291974867115 : True := trivial
theorem hd.tw14446474709323646786 : True := trivial
theorem hd.tw15033227074091944939 : True := trivial
theorem hd.tw4086058157674990017 : True := trivial
theorem hd.tw15411387601460861337 : True := trivial
theorem hd.tw6213412439835118660 : True := trivial
theorem hd.tw8184699220007379433 : True := trivial
theorem hd.tw10955317050725887447 : True := trivial
theorem hd.tw6407587892757256292 : True := trivial
theorem hd.tw15759970867653108152 : True := trivial
theorem hd.tw14623610509376584727 : True := trivial
theorem hd.tw10738003575532504788 : True := trivial
theorem hd.tw6824622198901579176 : True := trivial
theorem hd.tw11319097763535126812 : True := trivial
theorem hd.tw5859118754885311737 : True := trivial
theorem hd.tw18291419657060728153 : True := trivial
theorem hd.tw12704988097186499811 : True := trivial
theorem hd.tw3451239065008710300 : True := trivial
theorem hd.tw12254263087357419629 : True := trivial
theorem hd.tw9459050058782445324 : True := trivial
theorem hd.tw13606922415975196911 : True := trivial
theorem hd.tw155142512498542641 : True := trivial
theorem hd.tw18358800413957953924 : True := trivial
theorem hd.tw17330132731328240911 : True := trivial
theorem hd.tw11465210709893060100 : True := trivial
theorem hd.tw13368278939475635651 : True := trivial
theorem hd.tw3196399650302076718 : True := trivial
theorem hd.tw1335065189686863947 : True := trivial
theorem hd.tw2051048951616859547 : True := trivial
theorem hd.tw7492773218913965947 : True := trivial
theorem hd.tw9555612238305686254 : True := trivial
theorem hd.tw14106227501169856981 : True := trivial
theorem hd.tw17606422857730326317 : True := trivial
theorem hd.tw833173182276230429 : True := trivial
theorem hd.tw15687388767607454252 : True := trivial
theorem hd.tw12611767792052310623 : True := trivial
theorem hd.tw13628142620392400109 : True := trivial
theorem hd.tw2042292140826266357 : True := trivial
theorem hd.tw3452082135128663414 : True := trivial
theorem hd.tw1643121930917553208 : True := trivial
theorem hd.tw10200926772931222457 : True := trivial
theorem hd.tw7289601568589263668 : True := trivial
theorem hd.tw11319892378374348655 : True := trivial
theorem hd.tw17739348878880393726 : True := trivial
theorem hd.tw13770079208771991547 : True := trivial
theorem hd.tw16858285156579221889 : True := trivial
theorem hd.tw16587392273704687506 : True := trivial
theorem hd.tw10778013660560245624 : True := trivial
theorem hd.tw8226494294326810461 : True := trivial
theorem hd.tw567884609423149705 : True := trivial
theorem hd.tw500953250457666378 : True := trivial
theorem hd.tw8458067239894703972 : True := trivial
theorem hd.tw15213948185873263833 : True := trivial
theorem hd.tw1600037746751723098 : True := trivial
theorem hd.tw6759412095888398321 : True := trivial
theorem hd.tw1848646778235469078 : True := trivial
theorem hd.tw17336936450418997793 : True := trivial
theorem hd.tw13122850982685727845 : True := trivial
theorem hd.tw8244733829118024811 : True := trivial
theorem hd.tw15946356160694317329 : True := trivial
theorem hd.tw13363553139645760527 : True := trivial
theorem hd.tw9184186324627900627 : True := trivial
theorem hd.tw13893168526513508166 : True := trivial
theorem hd.tw9330943631129107780 : True := trivial
theorem hd.tw16868993833207775613 : True := trivial
theorem hd.tw3536873572635521401 : True := trivial
theorem hd.tw4111692666942324129 : True := trivial
theorem hd.tw6804821044290156842 : True := trivial
theorem hd.tw2505046432360240130 : True := trivial
theorem hd.tw17975533764899295144 : True := trivial
theorem hd.tw12579596248316191183 : True := trivial
theorem hd.tw7829580234814923638 : True := trivial
theorem hd.tw10491609206876299696 : True := trivial
theorem hd.tw9617658007855726926 : True := trivial
theorem hd.tw519851828213033955 : True := trivial
theorem hd.tw16920754564084929960 : True := trivial
theorem hd.tw5927567313105069670 : True := trivial
theorem hd.tw3008623586974134963 : True := trivial
theorem hd.tw1760603350576429475 : True := trivial
theorem hd.tw4074112789689628901 : True := trivial
theorem hd.tw6877226645827823821 : True := trivial
theorem hd.tw14776966858535155947 : True := trivial
theorem hd.tw11389486352061984695 : True := trivial
theorem hd.tw5416991563250132298 : True := trivial
theorem hd.tw5118731587858937692 : True := trivial
theorem hd.tw12487542160262675636 : True := trivial
theorem hd.tw17948085552500728524 : True := trivial
theorem hd.tw6449127861642672459 : True := trivial
theorem hd.tw3919010098100093602 : True := trivial
theorem hd.tw2808349399557158395 : True := trivial
theorem hd.tw14462709497994964445 : True := trivial
theorem hd.tw9345929723534960622 : True := trivial
theorem hd.tw701333769924781912 : True := trivial
theorem hd.tw14151535006965253332 : True := trivial
theorem hd.tw10934634478434655930 : True := trivial
theorem hd.tw17903497710992402801 : True := trivial
theorem hd.tw2855845756224970109 : True := trivial
theorem hd.tw2139204274930982770 : True := trivial
theorem hd.tw4734902545126651661 : True := trivial
theorem hd.tw1728934660973012959 : True := trivial
theorem hd.tw4730091804998409952 : True := trivial
theorem hd.tw3044193314922437478 : True := trivial
theorem hd.tw845060206244984605 : True := trivial
theorem hd.tw8134915037123179040 : True := trivial
theorem hd.tw5036846961687405229 : True := trivial
theorem hd.tw10465514089279642386 : True := trivial
theorem hd.tw1097998534492414930 : True := trivial
theorem hd.tw13937860266046166849 : True := trivial
theorem hd.tw7153062008950511462 : True := trivial
theorem hd.tw4424954536736003961 : True := trivial
theorem hd.tw17679848547673146604 : True := trivial
theorem hd.tw13096558090100123544 : True := trivial
theorem hd.tw8990313861142287110 : True := trivial
theorem hd.tw9960721518486171458 : True := trivial
theorem hd.tw4310969922304039945 : True := trivial
theorem hd.tw1800889605409440832 : True := trivial
theorem hd.tw4021928978595405253 : True := trivial
theorem hd.tw14444963742821833902 : True := trivial
theorem hd.tw9850052858527491113 : True := trivial
theorem hd.tw10614716105012338702 : True := trivial
theorem hd.tw17066044127408595049 : True := trivial
theorem hd.tw16547865195752855329 : True := trivial
theorem hd.tw8789358453043137523 : True := trivial
theorem hd.tw5366084841770067474 : True := trivial
theorem hd.tw17714235663813219645 : True := trivial
theorem hd.tw17843490464661113860 : True := trivial
theorem hd.tw185848376630758926 : True := trivial
theorem hd.tw7369741819223213686 : True := trivial
theorem hd.tw8664936974563722654 : True := trivial
theorem hd.tw2999033326186475339 : True := trivial
theorem hd.tw14029546391885035639 : True := trivial
theorem hd.tw2603259988358896889 : True := trivial
theorem hd.tw2442259710966052079 : True := trivial
theorem hd.tw11587034568685482758 : True := trivial
theorem hd.tw546821695630378048 : True := trivial
theorem hd.tw7317836474542784337 : True := trivial
theorem hd.tw9990345226319884068 : True := trivial
theorem hd.tw6038821095411175016 : True := trivial
theorem hd.tw10376703724636587151 : True := trivial
theorem hd.tw7261450039545342454 : True := trivial
theorem hd.tw11232374478483605306 : True := trivial
theorem hd.tw3816877163431070358 : True := trivial
theorem hd.tw9499510787657705874 : True := trivial
theorem hd.tw16409295683739894939 : True := trivial
theorem hd.tw11256106856564762260 : True := trivial
theorem hd.tw12952509933414984302 : True := trivial
theorem hd.tw6199765714743212253 : True := trivial
theorem hd.tw6412770499399676944 : True := trivial
theorem hd.tw10117440562283002822 : True := trivial
theorem hd.tw3442329435671937591 : True := trivial
theorem hd.tw7927469264209771579 : True := trivial
theorem hd.tw12676414471582705871 : True := trivial
theorem hd.tw6308581086252854402 : True := trivial
theorem hd.tw15416985209724490359 : True := trivial
theorem hd.tw11663481321943121269 : True := trivial
theorem hd.tw17258206423299326598 : True := trivial
theorem hd.tw6785817131721698500 : True := trivial
theorem hd.tw16896567674234606475 : True := trivial
theorem hd.tw313027258313007627 : True := trivial
theorem hd.tw2391449824757734642 : True := trivial
theorem hd.tw16759147789766475008 : True := trivial
theorem hd.tw10792051664901133789 : True := trivial
theorem hd.tw2578790182627478330 : True := trivial
theorem hd.tw14168552714766633299 : True := trivial
theorem hd.tw922143313871775805 : True := trivial
theorem hd.tw3478764184967624034 : True := trivial
theorem hd.tw9131607905817354932 : True := trivial
theorem hd.tw8516288146210602744 : True := trivial
theorem hd.tw2001351230973187099 : True := trivial
theorem hd.tw6411954120941647267 : True := trivial
theorem hd.tw8977460988437922124 : True := trivial
theorem hd.tw16713699803418581334 : True := trivial
theorem hd.tw5608270528595127837 : True := trivial
theorem hd.tw11402939732021071671 : True := trivial
theorem hd.tw9406673726873002282 : True := trivial
theorem hd.tw3940546777539579641 : True := trivial
theorem hd.tw5535567543195554156 : True := trivial
theorem hd.tw16722109127936396110 : True := trivial
theorem hd.tw5976792059365374437 : True := trivial
theorem hd.tw10283529075043463162 : True := trivial
theorem hd.tw2480057099694739299 : True := trivial
theorem hd.tw11709330566771433103 : True := trivial
theorem hd.tw17696971302532935780 : True := trivial
theorem hd.tw16414904818172857274 : True := trivial
theorem hd.tw1976262728313527643 : True := trivial
theorem hd.tw8479784124755550697 : True := trivial
theorem hd.tw10949625832625181284 : True := trivial
theorem hd.tw17234923516513369237 : True := trivial
theorem hd.tw16661405048812198066 : True := trivial
theorem hd.tw14553816603554493358 : True := trivial
theorem hd.tw15992342658441690333 : True := trivial
theorem hd.tw9496365245306024149 : True := trivial
theorem hd.tw1820180628909398317 : True := trivial
theorem hd.tw11984409736253958808 : True := trivial
theorem hd.tw9741134391959003819 : True := trivial
theorem hd.tw6140570298594658328 : True := trivial
theorem hd.tw4210835263042620578 : True := trivial
theorem hd.tw12127338746724423809 : True := trivial
theorem hd.tw6079173187612997037 : True := trivial
theorem hd.tw9854592784775465947 : True := trivial
theorem hd.tw2729298822523640997 : True := trivial
theorem hd.tw12872897951434832890 : True := trivial
theorem hd.tw14706022693812145444 : True := trivial
theorem hd.tw12614811148066621264 : True := trivial
theorem hd.tw1386097877827089520 : True := trivial
theorem hd.tw3309697970292668127 : True := trivial
theorem hd.tw7270182246851987180 : True := trivial
theorem hd.tw16178712458983371728 : True := trivial
theorem hd.tw280609765759037681 : True := trivial
theorem hd.tw3484992998616243462 : True := trivial
theorem hd.tw15074197538484233485 : True := trivial
theorem hd.tw15220180469806662145 : True := trivial
theorem hd.tw12900700647772717614 : True := trivial
theorem hd.tw13783031573616600631 : True := trivial
theorem hd.tw13277076834127875243 : True := trivial
theorem hd.tw2040990291671593033 : True := trivial
theorem hd.tw9132557439983319658 : True := trivial
theorem hd.tw16156708551869547534 : True := trivial
theorem hd.tw10203026625882799534 : True := trivial
theorem hd.tw18152756486534528934 : True := trivial
theorem hd.tw17681399029576232318 : True := trivial
theorem hd.tw16694946328126371552 : True := trivial
theorem hd.tw18343703819029505601 : True := trivial
theorem hd.tw3452591251010201329 : True := trivial
theorem hd.tw8312999807965096350 : True := trivial
theorem hd.tw16640546478005224243 : True := trivial
theorem hd.tw257007361410690125 : True := trivial
theorem hd.tw15910714762333108613 : True := trivial
theorem hd.tw6931407450589930559 : True := trivial
theorem hd.tw15042006015671813226 : True := trivial
theorem hd.tw17893044597097874663 : True := trivial
theorem hd.tw1717729237380139383 : True := trivial
theorem hd.tw8735263284916673568 : True := trivial
theorem hd.tw12778418089203562962 : True := trivial
theorem hd.tw9155422001095189878 : True := trivial
theorem hd.tw17672654358674132775 : True := trivial
theorem hd.tw9763420282994701918 : True := trivial
theorem hd.tw5054737718236178183 : True := trivial
theorem hd.tw6769732088879122475 : True := trivial
theorem hd.tw13409441903868389331 : True := trivial
theorem hd.tw12399718760709695909 : True := trivial
theorem hd.tw18093812233618175256 : True := trivial
theorem hd.tw10834780440838970164 : True := trivial
theorem hd.tw6965799899956892507 : True := trivial
theorem hd.tw8609351116199087170 : True := trivial
theorem hd.tw1954109241102656831 : True := trivial
theorem hd.tw12659318050587179527 : True := trivial
theorem hd.tw7006195865600381663 : True := trivial
theorem hd.tw162610821266807592 : True := trivial
theorem hd.tw6683769817339685419 : True := trivial
theorem hd.tw4833718069199227053 : True := trivial
theorem hd.tw5899666649113621702 : True := trivial
theorem hd.tw5292301768408028288 : True := trivial
theorem hd.tw1666387254794493845 : True := trivial
theorem hd.tw8293946417935249925 : True := trivial
theorem hd.tw4870687313549177768 : True := trivial
theorem hd.tw16970440968685349367 : True := trivial
theorem hd.tw1409312971732116557 : True := trivial
theorem hd.tw14137390275340422267 : True := trivial
theorem hd.tw12861998865439983172 : True := trivial
theorem hd.tw17330945745186091897 : True := trivial
theorem hd.tw908340440784498289 : True := trivial
theorem hd.tw1836080755315867724 : True := trivial
theorem hd.tw1013155817946168525 : True := trivial
theorem hd.tw3350930974749635488 : True := trivial
theorem hd.tw15422856539912107476 : True := trivial
theorem hd.tw6184208073178115725 : True := trivial
theorem hd.tw12575139184659369484 : True := trivial
theorem hd.tw8025032847418708242 : True := trivial
theorem hd.tw6014424301940151174 : True := trivial
theorem hd.tw8934143017859847078 : True := trivial
theorem hd.tw15207398651663016943 : True := trivial
theorem hd.tw9976723597467198900 : True := trivial
theorem hd.tw4282359134580295075 : True := trivial
theorem hd.tw7598622570094877466 : True := trivial
theorem hd.tw6469175993241445255 : True := trivial
theorem hd.tw15199589371867527261 : True := trivial
theorem hd.tw15615537253650120727 : True := trivial
theorem hd.tw14438451200097066615 : True := trivial
theorem hd.tw16443024508289211202 : True := trivial
theorem hd.tw656455966557771466 : True := trivial
theorem hd.tw1870067075039425230 : True := trivial
theorem hd.tw10847404155465417027 : True := trivial
theorem hd.tw7240586211207864342 : True := trivial
theorem hd.tw2101469004524951375 : True := trivial
theorem hd.tw15637593595834871717 : True := trivial
theorem hd.tw2580477087445282633 : True := trivial
theorem hd.tw17919194246423945575 : True := trivial
theorem hd.tw10919297434634762262 : True := trivial
theorem hd.tw16744898341101239380 : True := trivial
theorem hd.tw18245042118932799458 : True := trivial
theorem hd.tw8770659054964912022 : True := trivial
theorem hd.tw6164396464334811476 : True := trivial
theorem hd.tw13790719812936386609 : True := trivial
theorem hd.tw5629675986466331604 : True := trivial
theorem hd.tw7174315439194531881 : True := trivial
theorem hd.tw15378359858306647822 : True := trivial
theorem hd.tw5388632664720090651 : True := trivial
theorem hd.tw7379015992945566340 : True := trivial
theorem hd.tw12976186185376257304 : True := trivial
theorem hd.tw9398405308114057262 : True := trivial
theorem hd.tw16634568088961857937 : True := trivial
theorem hd.tw6627881031435992008 : True := trivial
theorem hd.tw1809687716253123402 : True := trivial
theorem hd.tw10763509664835889504 : True := trivial
theorem hd.tw5480042469492414594 : True := trivial
theorem hd.tw100483095206116625 : True := trivial
theorem hd.tw2386827423013361158 : True := trivial
theorem hd.tw14560493823538711346 : True := trivial
theorem hd.tw2327210489368252092 : True := trivial
theorem hd.tw11054480109507316185 : True := trivial
theorem hd.tw37099724090138251 : True := trivial
theorem hd.tw11079593142295127227 : True := trivial
theorem hd.tw12744807935193187038 : True := trivial
theorem hd.tw1359830224848277088 : True := trivial
theorem hd.tw16299908979028503884 : True := trivial
theorem hd.tw212345690472687942 : True := trivial
theorem hd.tw11513968764499736323 : True := trivial
theorem hd.tw17895171251205151618 : True := trivial
theorem hd.tw11024222330075796079 : True := trivial
theorem hd.tw18166333605607142505 : True := trivial
theorem hd.tw10286656452748174568 : True := trivial
theorem hd.tw10292235466723388172 : True := trivial
theorem hd.tw6506366617586733335 : True := trivial
theorem hd.tw33583606019346890 : True := trivial
theorem hd.tw6879831473291441079 : True := trivial
theorem hd.tw15924899543223041283 : True := trivial
theorem hd.tw9748044761591592747 : True := trivial
theorem hd.tw7382370116671421104 : True := trivial
theorem hd.tw14683707025165767436 : True := trivial
theorem hd.tw12590977762386282803 : True := trivial
theorem hd.tw5206456813468324048 : True := trivial
theorem hd.tw4735155535324382492 : True := trivial
theorem hd.tw16259696140248634718 : True := trivial
theorem hd.tw7512474625130614241 : True := trivial
theorem hd.tw3533295568840377906 : True := trivial
theorem hd.tw5983496337302601536 : True := trivial
theorem hd.tw5505332120971382143 : True := trivial
theorem hd.tw11364443708160879001 : True := trivial
theorem hd.tw5130813555471234732 : True := trivial
theorem hd.tw5167245352685981253 : True := trivial
theorem hd.tw1744074299117110578 : True := trivial
theorem hd.tw12642813592246648485 : True := trivial
theorem hd.tw10246146449241189800 : True := trivial
theorem hd.tw7076163891533521732 : True := trivial
theorem hd.tw3941438180925939637 : True := trivial
theorem hd.tw2422473601153944625 : True := trivial
theorem hd.tw17347436560843906493 : True := trivial
theorem hd.tw3419581819265744254 : True := trivial
theorem hd.tw8242931771332617035 : True := trivial
theorem hd.tw1033889070964956483 : True := trivial
theorem hd.tw4432475053497693458 : True := trivial
theorem hd.tw13172843250190940813 : True := trivial
theorem hd.tw14955159897011116063 : True := trivial
theorem hd.tw18233516762306594366 : True := trivial
theorem hd.tw8268277133935991078 : True := trivial
theorem hd.tw250903467453971090 : True := trivial
theorem hd.tw9467313397243273497 : True := trivial
theorem hd.tw8879563391730754479 : True := trivial
theorem hd.tw12949589719889679912 : True := trivial
theorem hd.tw6957150274394394060 : True := trivial
theorem hd.tw2295870552580634182 : True := trivial
theorem hd.tw10583446816852156582 : True := trivial
theorem hd.tw14743440263598761229 : True := trivial
theorem hd.tw1580110805410547442 : True := trivial
theorem hd.tw9731375825926819010 : True := trivial
theorem hd.tw14205177575709318024 : True := trivial
theorem hd.tw17992873397187703194 : True := trivial
theorem hd.tw8428860471423672150 : True := trivial
theorem hd.tw10841399608879689956 : True := trivial
theorem hd.tw11713075325732132258 : True := trivial
theorem hd.tw825126770350376351 : True := trivial
theorem hd.tw17470177872615007328 : True := trivial
theorem hd.tw15271836975722400564 : True := trivial
theorem hd.tw102014493982917126 : True := trivial
theorem hd.tw11115866451450875312 : True := trivial
theorem hd.tw6295535725891239091 : True := trivial
theorem hd.tw442638132926106271 : True := trivial
theorem hd.tw9908193460736022307 : True := trivial
theorem hd.tw5902613922787404954 : True := trivial
theorem hd.tw663384727985864361 : True := trivial
theorem hd.tw15591429051563716170 : True := trivial
theorem hd.tw3173010612589774626 : True := trivial
theorem hd.tw13285133528070534704 : True := trivial
theorem hd.tw4367231431732253908 : True := trivial
theorem hd.tw7068711184596962023 : True := trivial
theorem hd.tw1247026723315081023 : True := trivial
theorem hd.tw6123773746684550334 : True := trivial
theorem hd.tw17387473266821786944 : True := trivial
theorem hd.tw11507959949525687343 : True := trivial
theorem hd.tw13220430256171166289 : True := trivial
theorem hd.tw189712035060473897 : True := trivial
theorem hd.tw1736311965527578767 : True := trivial
theorem hd.tw1699103778626983548 : True := trivial
theorem hd.tw432457690288141553 : True := trivial
theorem hd.tw16194383521188589630 : True := trivial
theorem hd.tw15967140613478806237 : True := trivial
theorem hd.tw6136932545381038964 : True := trivial
theorem hd.tw1535757262459896012 : True := trivial
theorem hd.tw18103342009636024947 : True := trivial
theorem hd.tw8169427731384031792 : True := trivial
theorem hd.tw4478177076189095293 : True := trivial
theorem hd.tw9170477692918782315 : True := trivial
theorem hd.tw1610171440888473627 : True := trivial
theorem hd.tw15675198926951892251 : True := trivial
theorem hd.tw10259988299927297344 : True := trivial
theorem hd.tw5174551420813472067 : True := trivial
theorem hd.tw13092906067662860646 : True := trivial
theorem hd.tw10210669037155785340 : True := trivial
theorem hd.tw11852641145169952659 : True := trivial
theorem hd.tw1781861727890032366 : True := trivial
theorem hd.tw5433107678231618845 : True := trivial
theorem hd.tw11749099774412794130 : True := trivial
theorem hd.tw13431754692932380062 : True := trivial
theorem hd.tw10781468475247234061 : True := trivial
theorem hd.tw15643275761693703936 : True := trivial
theorem hd.tw1589133516308662214 : True := trivial
theorem hd.tw15048261121198461528 : True := trivial
theorem hd.tw503842035214351869 : True := trivial
theorem hd.tw10788059911547816233 : True := trivial
theorem hd.tw9631708518359487223 : True := trivial
theorem hd.tw13466754112058979494 : True := trivial
theorem hd.tw1936894748134917147 : True := trivial
theorem hd.tw18293851220164018083 : True := trivial
theorem hd.tw6780557218761844654 : True := trivial
theorem hd.tw5505005885091257285 : True := trivial
theorem hd.tw17989097746536338734 : True := trivial
theorem hd.tw15279998641719260112 : True := trivial
theorem hd.tw11472165163037031739 : True := trivial
theorem hd.tw991583007596301734 : True := trivial
theorem hd.tw6276725880618359904 : True := trivial
theorem hd.tw2845679848157327705 : True := trivial
theorem hd.tw15642763164714097627 : True := trivial
theorem hd.tw6882427118574961969 : True := trivial
theorem hd.tw5138769234217329475 : True := trivial
theorem hd.tw7763873220885509757 : True := trivial
theorem hd.tw12364972598781006883 : True := trivial
theorem hd.tw7120233287515763914 : True := trivial
theorem hd.tw8960069828448710407 : True := trivial
theorem hd.tw8716120427605611371 : True := trivial
theorem hd.tw4946210868454251104 : True := trivial
theorem hd.tw2951005344575393816 : True := trivial
theorem hd.tw402640490398009360 : True := trivial
theorem hd.tw6820862383352777685 : True := trivial
theorem hd.tw2371736936440567457 : True := trivial
theorem hd.tw11434409384045074295 : True := trivial
theorem hd.tw13322179722446271537 : True := trivial
theorem hd.tw9013056391748086436 : True := trivial
theorem hd.tw1712922718373300912 : True := trivial
theorem hd.tw16904818350239718627 : True := trivial
theorem hd.tw10531373872144210542 : True := trivial
theorem hd.tw262745018181394680 : True := trivial
theorem hd.tw3530705653197291679 : True := trivial
theorem hd.tw13931416462566266981 : True := trivial
theorem hd.tw2781682124601125471 : True := trivial
theorem hd.tw5238241317806426387 : True := trivial
theorem hd.tw2616952524820836436 : True := trivial
theorem hd.tw16091413853298234908 : True := trivial
theorem hd.tw14333710738500927179 : True := trivial
theorem hd.tw17213754286329925777 : True := trivial
theorem hd.tw8945485805214734075 : True := trivial
theorem hd.tw12394076208661396346 : True := trivial
theorem hd.tw11898664097942606779 : True := trivial
theorem hd.tw15889433306838628275 : True := trivial
theorem hd.tw5715734110848049390 : True := trivial
theorem hd.tw11375277706881905925 : True := trivial
theorem hd.tw8589211134812392127 : True := trivial
theorem hd.tw12353913968525425643 : True := trivial
theorem hd.tw8044012406986999415 : True := trivial
theorem hd.tw4449123307109862055 : True := trivial
theorem hd.tw8887996145723391905 : True := trivial
theorem hd.tw13866372431405929976 : True := trivial
theorem hd.tw17183224562656869120 : True := trivial
theorem hd.tw3219085151875037572 : True := trivial
theorem hd.tw12685813987229840507 : True := trivial
theorem hd.tw16742648372681657963 : True := trivial
theorem hd.tw128412058910260475 : True := trivial
theorem hd.tw10458740792067480800 : True := trivial
theorem hd.tw6898005170327248138 : True := trivial
theorem hd.tw6679266806504041263 : True := trivial
theorem hd.tw7175568609137494628 : True := trivial
theorem hd.tw11415386828835887437 : True := trivial
theorem hd.tw16169374299450900766 : True := trivial
theorem hd.tw17950676927832955104 : True := trivial
theorem hd.tw6196171512934965099 : True := trivial
theorem hd.tw9390866547671247325 : True := trivial
theorem hd.tw15083628210047938546 : True := trivial
theorem hd.tw17737187407176874954 : True := trivial
theorem hd.tw15595854959937240912 : True := trivial
theorem hd.tw12453114486196615683 : True := trivial
theorem hd.tw8652628183442184457 : True := trivial
theorem hd.tw5135410709514514960 : True := trivial
theorem hd.tw16257038226119295666 : True := trivial
theorem hd.tw8803977449572941912 : True := trivial
theorem hd.tw4272726840584523970 : True := trivial
theorem hd.tw7898215921889874393 : True := trivial
theorem hd.tw17172931820748874959 : True := trivial
theorem hd.tw2304311442786299043 : True := trivial
theorem hd.tw4725425184044842548 : True := trivial
theorem hd.tw10944956837784636368 : True := trivial
theorem hd.tw3404104791013757517 : True := trivial
theorem hd.tw15508949281206285077 : True := trivial
theorem hd.tw14705683404202351889 : True := trivial
theorem hd.tw10784824025267889561 : True := trivial
theorem hd.tw16138627921320673191 : True := trivial
theorem hd.tw10743916045514856203 : True := trivial
theorem hd.tw14960593345356199642 : True := trivial
theorem hd.tw6186238094035137676 : True := trivial
theorem hd.tw16158619036321959407 : True := trivial
theorem hd.tw226724450230711188 : True := trivial
theorem hd.tw14817486215969520457 : True := trivial
theorem hd.tw4851647983119433812 : True := trivial
theorem hd.tw14859038896228082724 : True := trivial
theorem hd.tw16009884308244765898 : True := trivial
theorem hd.tw2000490053193787569 : True := trivial
theorem hd.tw10727248033764811480 : True := trivial
theorem hd.tw17588044629489971554 : True := trivial
theorem hd.tw13828106393651249627 : True := trivial
theorem hd.tw17986969038992634876 : True := trivial
theorem hd.tw10905181550472923540 : True := trivial
theorem hd.tw9420132969298855359 : True := trivial
theorem hd.tw9983995961361265002 : True := trivial
theorem hd.tw1511243299971373483 : True := trivial
theorem hd.tw13638418597567726942 : True := trivial
theorem hd.tw17002781174329755331 : True := trivial
theorem hd.tw15766875824913328220 : True := trivial
theorem hd.tw14768889098011018680 : True := trivial
theorem hd.tw4523669819894539328 : True := trivial
theorem hd.tw15527848837575444561 : True := trivial
theorem hd.tw13001811119718631651 : True := trivial
theorem hd.tw9325612240067072397 : True := trivial
theorem hd.tw18330183385023645277 : True := trivial
theorem hd.tw13217225542625558698 : True := trivial
theorem hd.tw6669269137521125552 : True := trivial
theorem hd.tw8898355551111435312 : True := trivial
theorem hd.tw16853341256802265648 : True := trivial
theorem hd.tw14040608126747316905 : True := trivial
theorem hd.tw17930870258028551510 : True := trivial
theorem hd.tw881544763273948857 : True := trivial
theorem hd.tw8004679753235328684 : True := trivial
theorem hd.tw15987713032478767096 : True := trivial
theorem hd.tw10098268173465320503 : True := trivial
theorem hd.tw17386561741084979693 : True := trivial
theorem hd.tw10754659402437467890 : True := trivial
theorem hd.tw9983964734214183352 : True := trivial
theorem hd.tw9430268157657104642 : True := trivial
theorem hd.tw3828038474966422129 : True := trivial
theorem hd.tw8311865607074365958 : True := trivial
theorem hd.tw1425423193147277237 : True := trivial
theorem hd.tw16945582573551092051 : True := trivial
theorem hd.tw12393119488966705847 : True := trivial
theorem hd.tw4015398097383911347 : True := trivial
theorem hd.tw9753359207989701909 : True := trivial
theorem hd.tw9557236495431379559 : True := trivial
theorem hd.tw1584506945513601688 : True := trivial
theorem hd.tw4225703048834024713 : True := trivial
theorem hd.tw10403243965636340961 : True := trivial
theorem hd.tw14914937398881237230 : True := trivial
theorem hd.tw16227762859984022837 : True := trivial
theorem hd.tw3434918251397683217 : True := trivial
theorem hd.tw7941745277869089046 : True := trivial
theorem hd.tw16412773359747925120 : True := trivial
theorem hd.tw11011131195910976488 : True := trivial
theorem hd.tw8351282476255451920 : True := trivial
theorem hd.tw15166520500009309586 : True := trivial
theorem hd.tw2284436838669742495 : True := trivial
theorem hd.tw10170382586518783626 : True := trivial
theorem hd.tw7541792107247259296 : True := trivial
theorem hd.tw5245234834050458271 : True := trivial
theorem hd.tw13855946660403688772 : True := trivial
theorem hd.tw6830512106363814048 : True := trivial
theorem hd.tw2336748640663733628 : True := trivial
theorem hd.tw7085514621470718492 : True := trivial
theorem hd.tw5716766192118558609 : True := trivial
theorem hd.tw7712819752767893495 : True := trivial
theorem hd.tw17628472586750557451 : True := trivial
theorem hd.tw13944508082162953488 : True := trivial
theorem hd.tw574300837803046910 : True := trivial
theorem hd.tw1129884963351977449 : True := trivial
theorem hd.tw5318216170032084099 : True := trivial
theorem hd.tw2134215046882385847 : True := trivial
theorem hd.tw8721321648031231958 : True := trivial
theorem hd.tw11729958736954745289 : True := trivial
theorem hd.tw4993660671451451078 : True := trivial
theorem hd.tw8538877666451538035 : True := trivial
theorem hd.tw6352655612330318208 : True := trivial
theorem hd.tw8531993380330477603 : True := trivial
theorem hd.tw5293500477943481205 : True := trivial
theorem hd.tw7654286748164834634 : True := trivial
theorem hd.tw17335414052712997756 : True := trivial
theorem hd.tw6372862494175223470 : True := trivial
theorem hd.tw8191903926673212241 : True := trivial
theorem hd.tw11109741339103130912 : True := trivial
theorem hd.tw14060154772996877548 : True := trivial
theorem hd.tw4706079058837389440 : True := trivial
theorem hd.tw17655025648336401564 : True := trivial
theorem hd.tw10012455494201318559 : True := trivial
theorem hd.tw8977307856219701671 : True := trivial
theorem hd.tw13483081372092288885 : True := trivial
theorem hd.tw16823583209533085739 : True := trivial
theorem hd.tw5635641802508607975 : True := trivial
theorem hd.tw9783614193127449063 : True := trivial
theorem hd.tw2263123870574935043 : True := trivial
theorem hd.tw1118553966540926140 : True := trivial
theorem hd.tw2457190517430149469 : True := trivial
theorem hd.tw5978321128707920903 : True := trivial
theorem hd.tw17420951861521290806 : True := trivial
theorem hd.tw17047115858639842297 : True := trivial
theorem hd.tw9048539425550374019 : True := trivial
theorem hd.tw15463257786427224491 : True := trivial
theorem hd.tw9277588360372424766 : True := trivial
theorem hd.tw920214292312260371 : True := trivial
theorem hd.tw11623594800819314181 : True := trivial
theorem hd.tw16056359734778111409 : True := trivial
theorem hd.tw190519026028168232 : True := trivial
theorem hd.tw10844753989422098599 : True := trivial
theorem hd.tw10737458330869947321 : True := trivial
theorem hd.tw11672842613191775419 : True := trivial
theorem hd.tw7657299143145469618 : True := trivial
theorem hd.tw4292457097857839397 : True := trivial
theorem hd.tw7676003278276379012 : True := trivial
theorem hd.tw13474097485772985973 : True := trivial
theorem hd.tw5360435025570183010 : True := trivial
theorem hd.tw6646985988748340704 : True := trivial
theorem hd.tw12050417470231563642 : True := trivial
theorem hd.tw7914949630228597729 : True := trivial
theorem hd.tw701787995468756871 : True := trivial
theorem hd.tw16053994301053490033 : True := trivial
theorem hd.tw4136554803537287180 : True := trivial
theorem hd.tw7292484366425897655 : True := trivial
theorem hd.tw1882180444382439491 : True := trivial
theorem hd.tw7610815399733428385 : True := trivial
theorem hd.tw4571360026077952820 : True := trivial
theorem hd.tw9421340871869096474 : True := trivial
theorem hd.tw17143746779515762356 : True := trivial
theorem hd.tw6903541053762270361 : True := trivial
theorem hd.tw9427301549700849589 : True := trivial
theorem hd.tw8117029840178788049 : True := trivial
theorem hd.tw11399449904127653305 : True := trivial
theorem hd.tw16155205043701107222 : True := trivial
theorem hd.tw5513025101015932971 : True := trivial
theorem hd.tw1865391376527767206 : True := trivial
theorem hd.tw1088296927520436173 : True := trivial
theorem hd.tw5873113503399164460 : True := trivial
theorem hd.tw8450674356893351874 : True := trivial
theorem hd.tw13218659294841961345 : True := trivial
theorem hd.tw3759623122121258479 : True := trivial
theorem hd.tw6598312636042714100 : True := trivial
theorem hd.tw16037735763661986305 : True := trivial
theorem hd.tw7628703163842673926 : True := trivial
theorem hd.tw1208734638264122097 : True := trivial
theorem hd.tw13225837485096350037 : True := trivial
theorem hd.tw4609310046291750870 : True := trivial
theorem hd.tw15228807520496212463 : True := trivial
theorem hd.tw2195365466389143174 : True := trivial
theorem hd.tw5987830557187376847 : True := trivial
theorem hd.tw1299046323782801668 : True := trivial
theorem hd.tw17273587926920868623 : True := trivial
theorem hd.tw12901994302517312135 : True := trivial
theorem hd.tw2502866573005156581 : True := trivial
theorem hd.tw6800881396052196260 : True := trivial
theorem hd.tw8493152586797012548 : True := trivial
theorem hd.tw7510230149288206974 : True := trivial
theorem hd.tw17217394356764393341 : True := trivial
theorem hd.tw10525666975642140466 : True := trivial
theorem hd.tw14294001040229213422 : True := trivial
theorem hd.tw7626941382939369770 : True := trivial
theorem hd.tw7792395482447073224 : True := trivial
theorem hd.tw17232729238497989147 : True := trivial
theorem hd.tw7721951785955056133 : True := trivial
theorem hd.tw5715356086224469760 : True := trivial
theorem hd.tw2871226400543044806 : True := trivial
theorem hd.tw17668637344460488510 : True := trivial
theorem hd.tw10031445930688152421 : True := trivial
theorem hd.tw17454471701868102899 : True := trivial
theorem hd.tw4768578896829404305 : True := trivial
theorem hd.tw6982297934935202809 : True := trivial
theorem hd.tw10273187271170590260 : True := trivial
theorem hd.tw6761669909254768831 : True := trivial
theorem hd.tw2960447077969926378 : True := trivial
theorem hd.tw13566260322249332789 : True := trivial
theorem hd.tw4115565904173853331 : True := trivial
theorem hd.tw4478964076566166474 : True := trivial
theorem hd.tw11631869004601391166 : True := trivial
theorem hd.tw7082855905992002993 : True := trivial
theorem hd.tw14031261019411111474 : True := trivial
theorem hd.tw3969467460574380271 : True := trivial
theorem hd.tw2799716289819351777 : True := trivial
theorem hd.tw6636792957720756321 : True := trivial
theorem hd.tw17994825080979385314 : True := trivial
theorem hd.tw7850187754069100156 : True := trivial
theorem hd.tw8081886968326746073 : True := trivial
theorem hd.tw9271970288684553227 : True := trivial
theorem hd.tw1448358952932078338 : True := trivial
theorem hd.tw11912922877643110818 : True := trivial
theorem hd.tw3649758429140192277 : True := trivial
theorem hd.tw16502264421070913907 : True := trivial
theorem hd.tw16635604280276938560 : True := trivial
theorem hd.tw14006173549557618073 : True := trivial
theorem hd.tw6482722132109649516 : True := trivial
theorem hd.tw7698358502638924378 : True := trivial
theorem hd.tw3890083515106143593 : True := trivial
theorem hd.tw6545403380812914513 : True := trivial
theorem hd.tw3915529967508079626 : True := trivial
theorem hd.tw18160293313031310949 : True := trivial
theorem hd.tw12131494931117144662 : True := trivial
theorem hd.tw18203504233945503714 : True := trivial
theorem hd.tw6423634429210846174 : True := trivial
theorem hd.tw15054049728407801353 : True := trivial
theorem hd.tw13903934854276604550 : True := trivial
theorem hd.tw5278057926702712004 : True := trivial
theorem hd.tw2167537188350426706 : True := trivial
theorem hd.tw7891253978561527248 : True := trivial
theorem hd.tw13919464512627920130 : True := trivial
theorem hd.tw17570734847185409352 : True := trivial
theorem hd.tw4218252797249083135 : True := trivial
theorem hd.tw13463106324228987060 : True := trivial
theorem hd.tw5562173858411828344 : True := trivial
theorem hd.tw5363564295841288755 : True := trivial
theorem hd.tw11249132867342737325 : True := trivial
theorem hd.tw9842699097658496709 : True := trivial
theorem hd.tw13342606739435360313 : True := trivial
theorem hd.tw13518370688599389936 : True := trivial
theorem hd.tw15368132723985388332 : True := trivial
theorem hd.tw18300207936620678264 : True := trivial
theorem hd.tw3182187488490625086 : True := trivial
theorem hd.tw4867443594122359892 : True := trivial
theorem hd.tw11953376511379268794 : True := trivial
theorem hd.tw11893437276241958245 : True := trivial
theorem hd.tw5282504435634884242 : True := trivial
theorem hd.tw12035623454917710897 : True := trivial
theorem hd.tw13064122474441708322 : True := trivial
theorem hd.tw12588582704262371052 : True := trivial
theorem hd.tw7746578258024575070 : True := trivial
theorem hd.tw8015326511298524721 : True := trivial
theorem hd.tw7354087734392854552 : True := trivial
theorem hd.tw7080932558258925280 : True := trivial
theorem hd.tw8912348807662434688 : True := trivial
theorem hd.tw4990156530697904881 : True := trivial
theorem hd.tw4014540891139286612 : True := trivial
theorem hd.tw6902198413751149823 : True := trivial
theorem hd.tw14353793391729792155 : True := trivial
theorem hd.tw7854228177987924090 : True := trivial
theorem hd.tw7540655947842036084 : True := trivial
theorem hd.tw8770205317985620760 : True := trivial
theorem hd.tw17447410573909459338 : True := trivial
theorem hd.tw5373601922739893978 : True := trivial
theorem hd.tw16357263729072622229 : True := trivial
theorem hd.tw9429285754427346401 : True := trivial
theorem hd.tw14598272352848978880 : True := trivial
theorem hd.tw16464424236575238572 : True := trivial
theorem hd.tw9073681462420916055 : True := trivial
theorem hd.tw5010264101278932077 : True := trivial
theorem hd.tw16957190012819468567 : True := trivial
theorem hd.tw2948098112476549844 : True := trivial
theorem hd.tw6528754448969337418 : True := trivial
theorem hd.tw8053944837975664402 : True := trivial
theorem hd.tw13129650132239662433 : True := trivial
theorem hd.tw732345407407602841 : True := trivial
theorem hd.tw7540741092611519060 : True := trivial
theorem hd.tw17650839729002327288 : True := trivial
theorem hd.tw17577478241444706838 : True := trivial
theorem hd.tw10012880186880212623 : True := trivial
theorem hd.tw2114630138375439770 : True := trivial
theorem hd.tw11915594877312485397 : True := trivial
theorem hd.tw14969688514271112891 : True := trivial
theorem hd.tw17599816209265215132 : True := trivial
theorem hd.tw18087722134493236510 : True := trivial
theorem hd.tw16301592386811335294 : True := trivial
theorem hd.tw12936449754285732098 : True := trivial
theorem hd.tw125302361856450738 : True := trivial
theorem hd.tw16772102934027710169 : True := trivial
theorem hd.tw9087110039335098043 : True := trivial
theorem hd.tw12509009523430927325 : True := trivial
theorem hd.tw8801323125487838256 : True := trivial
theorem hd.tw4724112764586752083 : True := trivial
theorem hd.tw6998783941825042932 : True := trivial
theorem hd.tw1445366717492459972 : True := trivial
theorem hd.tw8343274005884668182 : True := trivial
theorem hd.tw14896477498954680388 : True := trivial
theorem hd.tw8671608845466749128 : True := trivial
theorem hd.tw368366308016060594 : True := trivial
theorem hd.tw8047900516022102942 : True := trivial
theorem hd.tw17772917993097084435 : True := trivial
theorem hd.tw13066319289922817542 : True := trivial
theorem hd.tw1847840615245081061 : True := trivial
theorem hd.tw13994979335412520660 : True := trivial
theorem hd.tw10654345511274693656 : True := trivial
theorem hd.tw17471934795394947791 : True := trivial
theorem hd.tw9077708301081682751 : True := trivial
theorem hd.tw5592360268479517082 : True := trivial
theorem hd.tw18241275227582772068 : True := trivial
theorem hd.tw6838551448383532254 : True := trivial
theorem hd.tw461538923250603899 : True := trivial
theorem hd.tw10507497572311344420 : True := trivial
theorem hd.tw6709418730364537143 : True := trivial
theorem hd.tw15427206886491885616 : True := trivial
theorem hd.tw12769127236821124696 : True := trivial
theorem hd.tw7081294716157063915 : True := trivial
theorem hd.tw16605896050852369192 : True := trivial
theorem hd.tw10543509907540572799 : True := trivial
theorem hd.tw8684328023851190084 : True := trivial
theorem hd.tw6046454685291232161 : True := trivial
theorem hd.tw11117797201346649052 : True := trivial
theorem hd.tw3953601041324332601 : True := trivial
theorem hd.tw14454528878903484812 : True := trivial
theorem hd.tw307737655149646647 : True := trivial
theorem hd.tw4856431653887292112 : True := trivial
theorem hd.tw13372043803930879067 : True := trivial
theorem hd.tw2468469042602058204 : True := trivial
theorem hd.tw17312999752573914782 : True := trivial
theorem hd.tw15384028259256376558 : True := trivial
theorem hd.tw7793673504863384051 : True := trivial
theorem hd.tw697623264460660564 : True := trivial
theorem hd.tw960944832710211464 : True := trivial
theorem hd.tw3259873300814134281 : True := trivial
theorem hd.tw11224897151958998736 : True := trivial
theorem hd.tw11652457597714270106 : True := trivial
theorem hd.tw15103106377680225435 : True := trivial
theorem hd.tw16649331688326792143 : True := trivial
theorem hd.tw2867327485932766208 : True := trivial
theorem hd.tw10752148897807903841 : True := trivial
theorem hd.tw6990203504111849199 : True := trivial
theorem hd.tw15179676742415161110 : True := trivial
theorem hd.tw12995909851351757392 : True := trivial
theorem hd.tw15043168886218598503 : True := trivial
theorem hd.tw137786328141462057 : True := trivial
theorem hd.tw12631932088317031055 : True := trivial
theorem hd.tw5289708365253275695 : True := trivial
theorem hd.tw4126306136578151734 : True := trivial
theorem hd.tw16302227732802510677 : True := trivial
theorem hd.tw5732804406350252772 : True := trivial
theorem hd.tw17711083657039698284 : True := trivial
theorem hd.tw5781342201191254626 : True := trivial
theorem hd.tw18368451091360184599 : True := trivial
theorem hd.tw12414669353804360901 : True := trivial
theorem hd.tw5148922909946612681 : True := trivial
theorem hd.tw2839761810297210574 : True := trivial
theorem hd.tw4091639524402994376 : True := trivial
theorem hd.tw12480425521718506038 : True := trivial
theorem hd.tw10216474801634566288 : True := trivial
theorem hd.tw4367455430839740993 : True := trivial
theorem hd.tw9577689765879766989 : True := trivial
theorem hd.tw9215827820722605749 : True := trivial
theorem hd.tw469108185253701220 : True := trivial
theorem hd.tw8068729725432388964 : True := trivial
theorem hd.tw13478424178397462001 : True := trivial
theorem hd.tw4377701919642642989 : True := trivial
theorem hd.tw3722166409189360004 : True := trivial
theorem hd.tw11407884054146074569 : True := trivial
theorem hd.tw17076082267592564974 : True := trivial
theorem hd.tw4138081844389336918 : True := trivial
theorem hd.tw12591134339009171964 : True := trivial
theorem hd.tw11128854368766332075 : True := trivial
theorem hd.tw17325209927041812611 : True := trivial
theorem hd.tw18185175575083235020 : True := trivial
theorem hd.tw5961118342813265553 : True := trivial
theorem hd.tw6293948785866598258 : True := trivial
theorem hd.tw4065347644161347641 : True := trivial
theorem hd.tw7523672394736509286 : True := trivial
theorem hd.tw978945382295711627 : True := trivial
theorem hd.tw14892549342360969540 : True := trivial
theorem hd.tw7519716089354478335 : True := trivial
theorem hd.tw8587404781116728655 : True := trivial
theorem hd.tw15616948245753086127 : True := trivial
theorem hd.tw6924109203229866365 : True := trivial
theorem hd.tw17087091549796120035 : True := trivial
theorem hd.tw7399621439246259153 : True := trivial
theorem hd.tw2845207389951388047 : True := trivial
theorem hd.tw15424705756172794927 : True := trivial
theorem hd.tw1810128313956251070 : True := trivial
theorem hd.tw14143348200573808938 : True := trivial
theorem hd.tw6818987989461384207 : True := trivial
theorem hdA.tw10012455494201318559 : True := trivial
theorem hd.tw13047593935725612058 : True := trivial
theorem hd.tw2483235414948986876 : True := trivial
theorem hd.tw9641152695372364146 : True := trivial
theorem hd.tw12715402060735579648 : True := trivial
theorem hd.tw16224457164544064741 : True := trivial
theorem hd.tw9571657101598308349 : True := trivial
theorem hd.tw13468300074154594103 : True := trivial
theorem hd.tw16246848685605474055 : True := trivial
theorem hd.tw9258712216579463092 : True := trivial
theorem hd.tw8724965967928493813 : True := trivial
theorem hd.tw651126834518081296 : True := trivial
theorem hd.tw1362751533348561449 : True := trivial
theorem hd.tw1452849714261714991 : True := trivial
theorem hd.tw14176624398918483544 : True := trivial
theorem hd.tw14078009766183191694 : True := trivial
theorem hd.tw17808607793243039243 : True := trivial
theorem hd.tw2448417245163862455 : True := trivial
theorem hd.tw3513125359445811510 : True := trivial
theorem hd.tw406395832486461867 : True := trivial
theorem hd.tw17397052962432165270 : True := trivial
theorem hd.tw2216850387143573719 : True := trivial
theorem hd.tw8483739073223065780 : True := trivial
theorem hd.tw10212042714698138169 : True := trivial
theorem hd.tw17061077104543960549 : True := trivial
theorem hd.tw221497870779424605 : True := trivial
theorem hd.tw12629531694177875297 : True := trivial
theorem hd.tw8414420238210853183 : True := trivial
theorem hd.tw4845836938831722396 : True := trivial
theorem hd.tw16332348944364537037 : True := trivial
theorem hd.tw7752767780024739350 : True := trivial
theorem hd.tw17583924267553061668 : True := trivial
theorem hd.tw7185752278333246451 : True := trivial
theorem hd.tw3763122126050802206 : True := trivial
theorem hd.tw4299596416071116603 : True := trivial
theorem hd.tw17466564637892440618 : True := trivial
theorem hd.tw9600117475790353255 : True := trivial
theorem hd.tw10296555574160606952 : True := trivial
theorem hd.tw3504079246686126755 : True := trivial
theorem hd.tw13130339120466069327 : True := trivial
theorem hd.tw1382963296337349011 : True := trivial
theorem hd.tw7863002427124770423 : True := trivial
theorem hd.tw18406568778348887127 : True := trivial
theorem hd.tw10597953479707049108 : True := trivial
theorem hd.tw5189956158058943387 : True := trivial
theorem hd.tw3443669649825651883 : True := trivial
theorem hd.tw2394040479862359591 : True := trivial
theorem hd.tw526207354791536317 : True := trivial
theorem hd.tw5464967688985200232 : True := trivial
theorem hd.tw13609717118414637909 : True := trivial
theorem hd.tw13585648185636399713 : True := trivial
theorem hd.tw14400467628812073631 : True := trivial
theorem hd.tw7815354588672045779 : True := trivial
theorem hd.tw10111801491309104144 : True := trivial
theorem hd.tw16456969618363192440 : True := trivial
theorem hd.tw15931116738044738221 : True := trivial
theorem hd.tw13280443560766958183 : True := trivial
theorem hd.tw8832402302947667407 : True := trivial
theorem hd.tw6819123309680001836 : True := trivial
theorem hd.tw17901334829092211166 : True := trivial
theorem hd.tw12232750017996463310 : True := trivial
theorem hd.tw11705485924828162053 : True := trivial
theorem hd.tw8545014587354053640 : True := trivial
theorem hd.tw1969872588285084473 : True := trivial
theorem hd.tw18194447625416937593 : True := trivial
theorem hd.tw2886944701177904103 : True := trivial
theorem hd.tw11636924220087485885 : True := trivial
theorem hd.tw3922637787740509324 : True := trivial
theorem hd.tw2084507788549644732 : True := trivial
theorem hd.tw8654268224221117138 : True := trivial
theorem hd.tw8773699223549846113 : True := trivial
theorem hd.tw6060742912462422084 : True := trivial
theorem hd.tw5791856155091588825 : True := trivial
theorem hd.tw8965841893048198262 : True := trivial
theorem hd.tw14586822029978311858 : True := trivial
theorem hd.tw5363428345988834438 : True := trivial
theorem hd.tw9244321171653502345 : True := trivial
theorem hd.tw3085183777334472315 : True := trivial
theorem hd.tw17278324374586462682 : True := trivial
theorem hd.tw1563692795949630186 : True := trivial
theorem hd.tw10258999931320997221 : True := trivial
theorem hd.tw13534587687697041467 : True := trivial
theorem hd.tw15963624873386084050 : True := trivial
theorem hd.tw16794629799341752650 : True := trivial
theorem hd.tw10947331860392259696 : True := trivial
theorem hd.tw17673860158736603733 : True := trivial
theorem hd.tw10706170465244359388 : True := trivial
theorem hd.tw4172343393113369950 : True := trivial
theorem hd.tw7366208706002141716 : True := trivial
theorem hd.tw2037972409741389414 : True := trivial
theorem hd.tw15277330632498426303 : True := trivial
theorem hd.tw12963625248745546125 : True := trivial
theorem hd.tw12058812876911547015 : True := trivial
theorem hd.tw17130151131035750659 : True := trivial
theorem hd.tw9386895884608548742 : True := trivial
theorem hd.tw11213053971927718326 : True := trivial
theorem hd.tw13458954166980676860 : True := trivial
theorem hd.tw1588505670450824345 : True := trivial
theorem hd.tw14772383043592177042 : True := trivial
theorem hd.tw9627899436633539337 : True := trivial
theorem hd.tw16669246528665072411 : True := trivial
theorem hd.tw18203199878698669065 : True := trivial
theorem hd.tw13155780701260043360 : True := trivial
theorem hd.tw4182648748547736412 : True := trivial
theorem hd.tw13171141561276507362 : True := trivial
theorem hd.tw12487502673411948298 : True := trivial
theorem hd.tw3109861748172591687 : True := trivial
theorem hd.tw18439511094173506614 : True := trivial
theorem hd.tw17864922044353613605 : True := trivial
theorem hd.tw3405361230339686725 : True := trivial
theorem hd.tw4527685146903026889 : True := trivial
theorem hd.tw1421266605352829712 : True := trivial
theorem hd.tw7109450275434161582 : True := trivial
theorem hd.tw8377043916266704855 : True := trivial
theorem hd.tw9614397579173300960 : True := trivial
theorem hd.tw1506431575118746342 : True := trivial
theorem hd.tw12112201142124510154 : True := trivial
theorem hd.tw17640862679970642326 : True := trivial
theorem hd.tw13038990169509382042 : True := trivial
theorem hd.tw11099374497321128792 : True := trivial
theorem hd.tw9330823016148744750 : True := trivial
theorem hd.tw4282304852377368616 : True := trivial
theorem hd.tw16692772259055178886 : True := trivial
theorem hd.tw54727356038600574 : True := trivial
theorem hd.tw7345208892882624808 : True := trivial
theorem hd.tw1331487369976884630 : True := trivial
theorem hd.tw14991384322417631237 : True := trivial
theorem hd.tw15837987909243819085 : True := trivial
theorem hd.tw13840357560478945406 : True := trivial
theorem hd.tw8151903124980380684 : True := trivial
theorem hd.tw15102309248680683417 : True := trivial
theorem hd.tw617508947420966582 : True := trivial
theorem hd.tw3364418463632694928 : True := trivial
theorem hd.tw7691918140598264929 : True := trivial
theorem hd.tw16853252838358632063 : True := trivial
theorem hd.tw858883931015391567 : True := trivial
theorem hd.tw13915417613099795869 : True := trivial
theorem hd.tw714852897916480489 : True := trivial
theorem hd.tw4181196891559700729 : True := trivial
theorem hd.tw4469713195409530889 : True := trivial
theorem hd.tw18282886421538689439 : True := trivial
theorem hd.tw6855989369364132045 : True := trivial
theorem hd.tw7676995097530680077 : True := trivial
theorem hd.tw15040182064412255696 : True := trivial
theorem hd.tw5574845727924001799 : True := trivial
theorem hd.tw10933677585905718993 : True := trivial
theorem hd.tw1413172679324656950 : True := trivial
theorem hd.tw13160604113216922460 : True := trivial
theorem hd.tw14711139521213225765 : True := trivial
theorem hd.tw16919406825032445293 : True := trivial
theorem hd.tw8210421348078903774 : True := trivial
theorem hd.tw3920623390966001496 : True := trivial
theorem hd.tw4521580383011477154 : True := trivial
theorem hd.tw6228267209343822427 : True := trivial
theorem hd.tw2493985911018215709 : True := trivial
theorem hd.tw6154236146145331571 : True := trivial
theorem hd.tw10030107230732127627 : True := trivial
theorem hd.tw17889535695919446024 : True := trivial
theorem hd.tw15278966056882409248 : True := trivial
theorem hd.tw2900905267640511130 : True := trivial
theorem hd.tw10024716035694756283 : True := trivial
theorem hd.tw10404513684093684653 : True := trivial
theorem hd.tw2450686747263038406 : True := trivial
theorem hd.tw11052946933831473538 : True := trivial
theorem hd.tw11765965325757050006 : True := trivial
theorem hd.tw15089522573102190283 : True := trivial
theorem hd.tw11917015161858427179 : True := trivial
theorem hd.tw16154546982801380032 : True := trivial
theorem hd.tw15114108414909977919 : True := trivial
theorem hd.tw1174592851220664795 : True := trivial
theorem hd.tw12451258846644117672 : True := trivial
theorem hd.tw12418435599462062936 : True := trivial
theorem hd.tw11631947586910100387 : True := trivial
theorem hd.tw13825509269061658866 : True := trivial
theorem hd.tw5220083430330967483 : True := trivial
theorem hd.tw11595982170579460384 : True := trivial
theorem hd.tw2315301623876862497 : True := trivial
theorem hd.tw9702936160620672325 : True := trivial
theorem hd.tw7872162285098387286 : True := trivial
theorem hd.tw11814627755841444246 : True := trivial
theorem hd.tw14120982254508448379 : True := trivial
theorem hd.tw12350410155528471161 : True := trivial
theorem hd.tw1854534034470087089 : True := trivial
theorem hd.tw11387694631328260470 : True := trivial
theorem hd.tw1939978651307754801 : True := trivial
theorem hd.tw1222794163293265305 : True := trivial
theorem hd.tw5424843840111818010 : True := trivial
theorem hd.tw4725055828030668675 : True := trivial
theorem hd.tw11119798521548139033 : True := trivial
theorem hd.tw11715181796007767841 : True := trivial
theorem hd.tw13267510147771200024 : True := trivial
theorem hd.tw11032806212648032379 : True := trivial
theorem hd.tw8112040973832200146 : True := trivial
theorem hd.tw3559371740216917588 : True := trivial
theorem hd.tw8959176491354863721 : True := trivial
theorem hd.tw7640094616464845771 : True := trivial
theorem hd.tw12940713784782232206 : True := trivial
theorem hd.tw5559951931751713254 : True := trivial
theorem hd.tw3178231758103763310 : True := trivial
theorem hd.tw7023726343779634624 : True := trivial
theorem hd.tw1331086792558400476 : True := trivial
theorem hd.tw11302486800045377918 : True := trivial
theorem hd.tw7152984921513172624 : True := trivial
theorem hd.tw13315533130655954831 : True := trivial
theorem hd.tw1576590939096197512 : True := trivial
theorem hd.tw15153279154761372571 : True := trivial
theorem hd.tw13289513938125300765 : True := trivial
theorem hd.tw3418235910006150233 : True := trivial
theorem hd.tw13613514774524669350 : True := trivial
theorem hd.tw4383666589626881386 : True := trivial
theorem hd.tw38009068637776845 : True := trivial
theorem hd.tw12070654863422294720 : True := trivial
theorem hd.tw5657824000916062451 : True := trivial
theorem hd.tw867598499069673859 : True := trivial
theorem hd.tw6555240042291301478 : True := trivial
theorem hd.tw12516031205372710738 : True := trivial
theorem hd.tw17562767543260142214 : True := trivial
theorem hd.tw8484435306634848397 : True := trivial
theorem hd.tw10860895700388868024 : True := trivial
theorem hd.tw15689870831250920624 : True := trivial
theorem hd.tw9345676750909349944 : True := trivial
theorem hd.tw16052320808349706082 : True := trivial
theorem hd.tw9502734599358990315 : True := trivial
theorem hd.tw11959044307898795358 : True := trivial
theorem hd.tw14745743045033390146 : True := trivial
theorem hd.tw1256466517863071783 : True := trivial
theorem hd.tw4315991029959535628 : True := trivial
theorem hd.tw1005483496087919985 : True := trivial
theorem hd.tw16007149819294483003 : True := trivial
theorem hd.tw10365702040365258594 : True := trivial
theorem hd.tw13929354066492186541 : True := trivial
theorem hd.tw1997569388931296116 : True := trivial
theorem hd.tw7839823952615728111 : True := trivial
theorem hd.tw17054507655720011243 : True := trivial
theorem hd.tw561391293025646643 : True := trivial
theorem hd.tw2448992281723591503 : True := trivial
theorem hd.tw18321552122766947510 : True := trivial
theorem hd.tw4819202231147424091 : True := trivial
theorem hd.tw8364274539379898114 : True := trivial
theorem hd.tw4402725079659364252 : True := trivial
theorem hd.tw16781597205703756006 : True := trivial
theorem hd.tw15630680890609703042 : True := trivial
theorem hd.tw5482205457738058418 : True := trivial
theorem hd.tw9511267250126082249 : True := trivial
theorem hd.tw11251137523995926341 : True := trivial
theorem hd.tw10916031315239735265 : True := trivial
theorem hd.tw728884934406724761 : True := trivial
theorem hd.tw15886077535882638110 : True := trivial
theorem hd.tw16684818696116721337 : True := trivial
theorem hd.tw6418103052136555383 : True := trivial
theorem hd.tw16029623286316568529 : True := trivial
theorem hd.tw9341642984632610673 : True := trivial
theorem hd.tw15344866539931968096 : True := trivial
theorem hd.tw439843181053141970 : True := trivial
theorem hd.tw3333446698644548216 : True := trivial
theorem hd.tw10905682514733158466 : True := trivial
theorem hd.tw7494724483528729301 : True := trivial
theorem hd.tw7031273417212677730 : True := trivial
theorem hd.tw8457440626546761165 : True := trivial
theorem hd.tw16157073509204512506 : True := trivial
theorem hd.tw13531707123254989501 : True := trivial
theorem hd.tw57172981591744584 : True := trivial
theorem hd.tw15529170255622000948 : True := trivial
theorem hd.tw11112350418570565750 : True := trivial
theorem hd.tw13338143212406534295 : True := trivial
theorem hd.tw16345102440705955213 : True := trivial
theorem hd.tw9237616624170024493 : True := trivial
theorem hd.tw7754304195085646258 : True := trivial
theorem hd.tw7094405668315501649 : True := trivial
theorem hd.tw15673258824015622330 : True := trivial
theorem hd.tw17925215291927510665 : True := trivial
theorem hd.tw17388623853845723629 : True := trivial
theorem hd.tw8197050154876552520 : True := trivial
theorem hd.tw18350433093344046624 : True := trivial
theorem hd.tw13616292390063288746 : True := trivial
theorem hd.tw5549315172176941698 : True := trivial
theorem hd.tw7534799579077118603 : True := trivial
theorem hd.tw5606014014838825647 : True := trivial
theorem hd.tw13475242022060392486 : True := trivial
theorem hd.tw7296583596125217682 : True := trivial
theorem hd.tw5461583852855630226 : True := trivial
theorem hd.tw8086110750863094267 : True := trivial
theorem hd.tw12271959270614036898 : True := trivial
theorem hd.tw8811097733284410319 : True := trivial
theorem hd.tw4971549296188076032 : True := trivial
theorem hd.tw18264374347568628810 : True := trivial
theorem hd.tw4325921153153474475 : True := trivial
theorem hd.tw18252017834820373320 : True := trivial
theorem hd.tw14015909994521340511 : True := trivial
theorem hd.tw13217827037086042188 : True := trivial
theorem hd.tw13823883338254049932 : True := trivial
theorem hd.tw1860674893733999873 : True := trivial
theorem hd.tw15610959940260225430 : True := trivial
theorem hd.tw16376525773666504680 : True := trivial
theorem hd.tw12797040952259185971 : True := trivial
theorem hd.tw15367242080415987702 : True := trivial
theorem hd.tw4278124947684190350 : True := trivial
theorem hd.tw11660266114150955751 : True := trivial
theorem hd.tw12561155100871721849 : True := trivial
theorem hd.tw16477043939570097188 : True := trivial
theorem hd.tw16171809288044610508 : True := trivial
theorem hd.tw13262116225945230012 : True := trivial
theorem hd.tw6663896369628448293 : True := trivial
theorem hd.tw17992175057805443440 : True := trivial
theorem hd.tw12602439190401603521 : True := trivial
theorem hd.tw7890425638150203423 : True := trivial
theorem hd.tw17143205804819765802 : True := trivial
theorem hd.tw4788038989552484473 : True := trivial
theorem hd.tw2788664435532181463 : True := trivial
theorem hd.tw10778257442750969130 : True := trivial
theorem hd.tw9215163618515126356 : True := trivial
theorem hd.tw2646871970372073404 : True := trivial
theorem hd.tw16721140591421906129 : True := trivial
theorem hd.tw14852329139284432860 : True := trivial
theorem hd.tw8030812658769144569 : True := trivial
theorem hd.tw17318795884933167856 : True := trivial
theorem hd.tw7841482606195961801 : True := trivial
theorem hd.tw876933089483189297 : True := trivial
theorem hd.tw10643592516055977328 : True := trivial
theorem hd.tw1194904439430580092 : True := trivial
theorem hd.tw1689377841213677179 : True := trivial
theorem hd.tw9153386212771759811 : True := trivial
theorem hd.tw14667805832236412624 : True := trivial
theorem hd.tw18370931923303237609 : True := trivial
theorem hd.tw4068527845204499245 : True := trivial
theorem hd.tw12337632362937886050 : True := trivial
theorem hd.tw4494801613693538912 : True := trivial
theorem hd.tw7526368328331116154 : True := trivial
theorem hd.tw18095200977026478895 : True := trivial
theorem hd.tw1893913032611223051 : True := trivial
theorem hd.tw12678320250165599508 : True := trivial
structure HdWr (P : Prop) : Prop where
  out : P
def HdTag (_ : PySem.Challenge.rw_oy0366_01.row.Holds) : Prop := True
theorem hdTag {p : PySem.Challenge.rw_oy0366_01.row.Holds} (T : Prop) (_ : T = HdTag p) : HdWr PySem.Challenge.rw_oy0366_01.row.Holds := ⟨p⟩
set_option Elab.async true
set_option maxRecDepth 100000 in
set_option maxHeartbeats 0 in
theorem hdA (h : PySem.Challenge.rw_oy0366_01.row.wellSaid = true → PySem.Challenge.rw_oy0366_01.row.Holds) : PySem.Challenge.rw_oy0366_01.Holds := by
  w_on
  o_law
  exact h (by assumption)
set_option maxRecDepth 100000 in
set_option maxHeartbeats 0 in
theorem hd : True := by
  clear hd
  have h1 : True := (by exact fun _ _ _ => trivial : (W : Prop) → W → PySem.Challenge.rw_oy0366_01.row.Holds → True) _ ?walkHole ?rowHole
  refine (?f1 : PySem.Challenge.rw_oy0366_01.Holds → True) ?p1
  · exact fun _ => trivial
  · clear h1
    w_on
    refine hdA fun said => ?_
    refine (?f2 : (p : PySem.Challenge.rw_oy0366_01.row.Holds) → (HdTag p → PySem.Challenge.rw_oy0366_01.row.Holds) → PySem.Challenge.rw_oy0366_01.row.Holds) ?p2 ?r2
    · exact fun p _ => p
    · k_head
      (case hw => w_witness2)
      exact ?walkHole
    · intro h
      let rec top : type_of% ?walkHole → PySem.Challenge.rw_oy0366_01.row.Holds := fun walk => by
        refine HdWr.out ?_
        simp (disch := exact walk) only [(hdTag (type_of% h) rfl : HdWr PySem.Challenge.rw_oy0366_01.row.Holds)]
      exact ?rowHole
set_option Elab.async false
end Mine
section T_Ar
namespace Mine
theorem rm0 {a m c : Nat} (h : a + m < c) : a < c := by omega
theorem rm1 {a k m c : Nat} (h : a + m < c) (q : Nat.ble k m = true) : a + k < c := by have := Nat.le_of_ble_eq_true q; omega
theorem rm2 {a k l m c : Nat} (h : a + m < c) (q : Nat.ble (k + l) m = true) : a + k + l < c := by have := Nat.le_of_ble_eq_true q; omega
theorem rm3 {a k l j m c : Nat} (h : a + m < c) (q : Nat.ble (k + l + j) m = true) : a + k + l + j < c := by have := Nat.le_of_ble_eq_true q; omega
theorem bd1 {x m c : Nat} (h : x < m) (q : Nat.ble m c = true) : x < c := by have := Nat.le_of_ble_eq_true q; omega
theorem bd2 {x m c : Nat} (h : x < m) (q : Nat.ble m c = true) : x ≤ c := by have := Nat.le_of_ble_eq_true q; omega
theorem bd3 {x m c : Nat} (h : x ≤ m) (q : Nat.ble (m + 1) c = true) : x < c := by have := Nat.le_of_ble_eq_true q; omega
theorem bd4 {x m c : Nat} (h : x ≤ m) (q : Nat.ble m c = true) : x ≤ c := by have := Nat.le_of_ble_eq_true q; omega
theorem bd5 {x m k c : Nat} (h : x < m) (q : Nat.ble (m + k) c = true) : x + k < c := by have := Nat.le_of_ble_eq_true q; omega
theorem bd6 {x m k c : Nat} (h : x ≤ m) (q : Nat.ble (m + k + 1) c = true) : x + k < c := by have := Nat.le_of_ble_eq_true q; omega
theorem bd7 {x m k c : Nat} (h : x < m) (q : Nat.ble (m + k) (c + 1) = true) : x + k ≤ c := by have := Nat.le_of_ble_eq_true q; omega
theorem bd8 {x m k c : Nat} (h : x ≤ m) (q : Nat.ble (m + k) c = true) : x + k ≤ c := by have := Nat.le_of_ble_eq_true q; omega
theorem ci1 {x m : Nat} {c : Int} (h : x < m) (q : (m : Int) ≤ c) : (x : Int) < c := by omega
theorem ci2 {x m : Nat} {c : Int} (h : x ≤ m) (q : (m : Int) ≤ c) : (x : Int) ≤ c := by omega
theorem lp1 {i f n : Nat} (h : i + f = n) (q : i < n) : f - 1 < f := by omega
theorem lp2 {i f n : Nat} (h : i + f = n) (q : i < n) : i + 1 + (f - 1) = n := by omega
theorem lp3 {n p : Nat} (q : p < n) : n - (p + 1) < n - p := by omega
end Mine
end T_Ar
theorem Mine.linesAr : True := by
  k_with_none
  k_with "omega" => (first | (k_whole; with_reducible assumption) | (law_clear; first | with_reducible assumption | decide +kernel | ((with_reducible show List.length (_ :: _) ≤ _); exact Nat.le_of_ble_eq_true (Eq.refl true)) | ((first | refine Mine.rm2 (by with_reducible assumption) ?_ | refine Mine.rm3 (by with_reducible assumption) ?_ | refine Mine.rm1 (by with_reducible assumption) ?_ | refine Mine.bd1 (by with_reducible assumption) ?_ | refine Mine.bd3 (by with_reducible assumption) ?_ | refine Mine.bd2 (by with_reducible assumption) ?_ | refine Mine.bd4 (by with_reducible assumption) ?_ | refine Mine.bd5 (by with_reducible assumption) ?_ | refine Mine.bd6 (by with_reducible assumption) ?_ | refine Mine.bd7 (by with_reducible assumption) ?_ | refine Mine.bd8 (by with_reducible assumption) ?_); exact Eq.refl true) | ((first | refine Mine.ci1 (by with_reducible assumption) ?_ | refine Mine.ci2 (by with_reducible assumption) ?_); decide) | exact Mine.rm0 (by with_reducible assumption) | exact Mine.lp1 (by with_reducible assumption) (by with_reducible assumption) | exact Mine.lp2 (by with_reducible assumption) (by with_reducible assumption) | exact Mine.lp3 (by with_reducible assumption) | lia))
  trivial
section T_St
namespace Mine
theorem gentoks {M : Model} {A : Around} {α : Type} {c : Sem α} {Q : α → Shared → Prop} {E : Value → Shared → Prop} {h g d o} {a b : Nat} (H : ∀ tk, wpAny M A c Q E ⟨h, g, d, tk, o⟩) : wpAny M A c Q E ⟨h, g, d, a + b, o⟩ := H _
noncomputable def ATag (_ : Around) : Prop := True
noncomputable def deepM (A : Around) (env : Env) : Around := A.deeper env
theorem deepMark {A : Around} {env : Env} : A.deeper env = deepM A env := rfl
theorem foldB {M : Model} {A : Around} {α : Type} {c : Sem α} {Q : α → Shared → Prop} {E : Value → Shared → Prop} {s : Shared} (_ : ATag A) (h : let X := A; wpAny M X c Q E s) : wpAny M A c Q E s := h
end Mine
end T_St
section T_C0
namespace Mine
noncomputable abbrev PR : Program := Challenge.rw_oy0366_01.row.prog
noncomputable abbrev VW := Mine.hd.view_1_2
noncomputable abbrev KK (w : World) := Mine.hd.heap_1_1 w.params
noncomputable abbrev LO : List Str := looseW Mine.hd.view_1_2 [Str.ofString "_twin_re_1", Str.ofString "UnsupportedOperation", Str.ofString "IOBase", Str.ofString "BufferedIOBase", Str.ofString "TextIOBase", Str.ofString "BytesIO", Str.ofString "StringIO", Str.ofString "shlex", Str.ofString "split", Str.ofString "_find_unsafe"]

/-- what a call asks of the heap that it is made in, what it gives back; «act»: the objects that it may change -/
noncomputable def Calls (w : World) (mean : ExcName → Option Value) (mg mb : Str → Option Value) (f : Addr) (args : List Value) (need : Nat) (act : List (Addr × Obj)) (pre : Heap → Prop) (post : Heap → Value → Heap → Prop) : Prop :=
  ∀ (dp un : Nat) (gd : Option (List Code)) (cn : Str) (cs : Scope) (a : Addr) (ccd : Value) (cl : List (Str × Addr)) (outer : List Env) (A₀ : Around) (base h₀ : Heap) (L : Addr) (m : Str → Option Value) (s : Shared) (Q E : Value → Shared → Prop),
    Below A₀ base outer h₀ → Fr h₀ L s.heap m → (Mine.hd.heap_1_1 w.params).In h₀ → News h₀ L s.heap act → Top VW LO mean mg mb h₀ → cs.kind = .function → dp + need < recursionLimit → un + 8 * need < cLine → pre s.heap →
    (∀ (v : Value) (h' : Heap) (tk' : Nat), (∀ b o, s.heap.get? b = some o → b ∉ act.map (·.1) → h'.get? b = some o) → post s.heap v h' → Q v { s with heap := h', toks := tk' }) →
    wpAny (model PR w) (ktrTop dp un gd cn cs L a ccd cl outer) (call (.ref f) args) Q E s

theorem calls_use {w : World} {mean : ExcName → Option Value} {mg mb : Str → Option Value} {f : Addr} {args : List Value} {need : Nat} {act news rest : List (Addr × Obj)} {pre : Heap → Prop} {post : Heap → Value → Heap → Prop}
    {dp un : Nat} {gd : Option (List Code)} {cn : Str} {cs : Scope} {a : Addr} {ccd : Value} {cl : List (Str × Addr)} {outer : List Env} {A₀ : Around} {base h₀ : Heap} {L : Addr} {m : Str → Option Value} {s : Shared} {Q E : Value → Shared → Prop}
    (B : Below A₀ base outer h₀) (F : Fr h₀ L s.heap m) (X : (Mine.hd.heap_1_1 w.params).In h₀) (N : News h₀ L s.heap news) (T : Top VW LO mean mg mb h₀) (hk : cs.kind = .function)
    (C : Calls w mean mg mb f args need act pre post)
    (hact : ∀ p ∈ act, p ∈ news) (hrest : ∀ p ∈ rest, p ∈ news ∧ p.1 ∉ act.map (·.1)) (hd : dp + need < recursionLimit) (hu : un + 8 * need < cLine) (hp : pre s.heap)
    (ret : ∀ (v : Value) (h' : Heap) (tk' : Nat), Fr h₀ L h' m → News h₀ L h' rest → (∀ b o, s.heap.get? b = some o → b ∉ act.map (·.1) → h'.get? b = some o) → post s.heap v h' → Q v { s with heap := h', toks := tk' }) :
    wpAny (model PR w) (ktrTop dp un gd cn cs L a ccd cl outer) (call (.ref f) args) Q E s := by
  refine C _ _ _ _ _ _ _ _ _ _ _ _ _ _ _ _ _ B F X (fun p hp => N p (hact p hp)) T hk hd hu hp fun v h' tk' hkeep hpost => ret v h' tk' ?_ ?_ hkeep hpost
  · obtain ⟨oL, es, ep, hL, r⟩ := F.ns
    refine ⟨⟨oL, es, ep, hkeep L oL hL fun q => ?_, r⟩, fun b o e => hkeep b o (F.keep b o e) fun q => ?_, F.above⟩
    · obtain ⟨p, hp, e⟩ := List.mem_map.mp q
      exact (N p (hact p hp)).2.1 e
    · obtain ⟨p, hp, rfl⟩ := List.mem_map.mp q
      rw [(N p (hact p hp)).2.2] at e; cases e
  · intro p hp
    obtain ⟨hm, hn⟩ := hrest p hp
    exact ⟨hkeep _ _ (N p hm).1 hn, (N p hm).2⟩

/-- a def of the text is entered: its frame stands upon the whole heap but «act» -/
theorem enterC {w : World} {mean : ExcName → Option Value} {mg mb : Str → Option Value} {A₀ A : Around} {s : Shared} {base h₀ : Heap} {outer : List Env} {L : Addr} {m : Str → Option Value} {env : Env} {act : List (Addr × Obj)}
    {R : Result → Shared → Prop} {name qual : Str} {params : Arguments} {body : List Stmt} {scope : Scope} {dV kV doc pm cdv ct oc : Value} {an od : Option Addr} {osl : Array (Option Value)} {f : Addr} {args : Args} {binds : List (Str × Value)}
    (B : Below A₀ base outer h₀) (F : Fr h₀ L s.heap m) (X₀ : (Mine.hd.heap_1_1 w.params).In h₀) (N : News h₀ L s.heap act) (T : Top VW LO mean mg mb h₀) (hA : A.frames = some (env :: outer)) (hf : env.frame = some L) (hke : env.scope.kind = .function)
    (ho : (Mine.hd.heap_1_1 w.params).lookup f = some ⟨oc, od, .func (fnOf name qual params body scope dV kV doc pm an cdv ct), osl⟩) (hcd : codeIn (Mine.hd.heap_1_1 w.params) cdv qual = true) (hroom : A.depth < recursionLimit)
    (hbind : BindsTo s (fnOf name qual params body scope dV kV doc pm an cdv ct) args binds) (hloc : ∀ y ∈ binds, scope.names.lookup y.1 = some .local)
    (h : ∀ g L' h₁, g.StaysIn s.heap → (∀ b o, s.heap.get? b = some o → b ∉ act.map (·.1) → g.get? b = some o) → s.heap.objs.size = L' → Fr g L' h₁ (fun y => binds.reverse.lookup y) → News g L' h₁ act → (∀ p ∈ act, p.1 < L') → Below A base (env :: outer) g → (Mine.hd.heap_1_1 w.params).In g → Top VW LO mean mg mb g →
      wpAny (model PR w) (A.deeper (envOf qual scope L' f cdv)) (execs body (envOf qual scope L' f cdv))
        (fun fl s' => R (.ok (.ret (match fl with | .ret v => v | _ => .none))) s')
        (fun e s' => wpAny (model PR w) (A.deeper (envOf qual scope L' f cdv)) (leaving (envOf qual scope L' f cdv) e) (fun _ s'' => R (.error e) s'') (fun e' s'' => R (.error e') s'') s')
        { s with heap := h₁, toks := s.toks + binds.length })
    (hcell : ∀ x ∈ scope.names, x.2 ≠ .cell) (hco : scope.isCoroutine = false) (hgen : scope.isGenerator = false) (hk : scope.kind = .function) : codeAny (model PR w) A (.call (.ref f) args) R s := by
  obtain ⟨FG, BG, st, lv⟩ := groundX (R := R) B F N hA hf hke
  refine codeAny_call_def (fd := fnX name qual params body scope [] dV kV doc pm an cdv ct) (body := body) (binds := binds) hroom ((X₀.keeps F.keep) _ _ ho) rfl (T.nolimit.keeps F.keep) (codeRec_of (X₀.keeps F.keep) hcd) rfl hbind hcell hloc (fun h₁ hns hk₁ => ?_) hco hgen hk
  exact h _ s.heap.objs.size h₁ (fun b o e => of_hideAll _ e) (fun b o e q => hideAll_get _ e q) rfl ⟨hns, fun b o e => hk₁ b o (of_hideAll _ e), Nat.le_of_eq (hideAll_size _ _)⟩
    (fun p hp => ⟨hk₁ _ _ (N p hp).1, Nat.ne_of_lt (Heap.lt_size (N p hp).1), hideAll_none _ (List.mem_map_of_mem hp)⟩) (fun p hp => Heap.lt_size (N p hp).1) BG (X₀.keeps st) (T.keeps st)
end Mine
end T_C0
section T_Mac
namespace Mine
theorem new_none {g h h' : Heap} {L a : Addr} {o : Obj} {news : List (Addr × Obj)} (hk : ∀ b o, h.get? b = some o → b ∉ ([] : List (Addr × Obj)).map (·.1) → g.get? b = some o) (N : News g L h' ((a, o) :: news)) : h.get? a = none := by
  cases e : h.get? a with
  | none => rfl
  | some x => exact absurd ((hk a x e (by intro q; cases q)).symm.trans (N (a, o) (.head _)).2.2) (by intro q; cases q)
end Mine
end T_Mac
section T_E2
theorem Mine.linesE2 : True := by
  k_with_none
  k_with "omega" => (first | (k_whole; with_reducible assumption) | (law_clear; first | with_reducible assumption | decide +kernel | ((with_reducible show List.length (_ :: _) ≤ _); exact Nat.le_of_ble_eq_true (Eq.refl true)) | ((first | refine Mine.rm2 (by with_reducible assumption) ?_ | refine Mine.rm3 (by with_reducible assumption) ?_ | refine Mine.rm1 (by with_reducible assumption) ?_ | refine Mine.bd1 (by with_reducible assumption) ?_ | refine Mine.bd3 (by with_reducible assumption) ?_ | refine Mine.bd2 (by with_reducible assumption) ?_ | refine Mine.bd4 (by with_reducible assumption) ?_ | refine Mine.bd5 (by with_reducible assumption) ?_ | refine Mine.bd6 (by with_reducible assumption) ?_ | refine Mine.bd7 (by with_reducible assumption) ?_ | refine Mine.bd8 (by with_reducible assumption) ?_); exact Eq.refl true) | ((first | refine Mine.ci1 (by with_reducible assumption) ?_ | refine Mine.ci2 (by with_reducible assumption) ?_); decide) | exact Mine.rm0 (by with_reducible assumption) | exact Mine.lp1 (by with_reducible assumption) (by with_reducible assumption) | exact Mine.lp2 (by with_reducible assumption) (by with_reducible assumption) | exact Mine.lp3 (by with_reducible assumption) | lia))
  k_with "ite" => (first | (with_reducible refine PySem.W.ite_neg (by with_reducible assumption) ?_) | (with_reducible refine PySem.W.ite_pos (by with_reducible assumption) ?_))
  k_with "ite" => (k_closed; first | (with_reducible refine PySem.W.ite_neg (by decide +kernel) ?_) | (with_reducible refine PySem.W.ite_pos (by decide +kernel) ?_))
  k_with "getAttr ref" => (k_here; k_dflt (refine' PySem.W.get_own ?hzk1 ?hzk2 ?hzk3 ?hzk4 ?hzk5 ?hzk6 ?hzk7 ?hzk8 ?hzk9 ?_; (case hzk1 => k_asm); (case hzk2 => k_asm); (case hzk3 => k_inst); (case hzk8 => k_get); (case hzk4 => k_is); (case hzk5 => k_is); (case hzk6 => k_is); (case hzk7 => k_is); (case hzk9 => k_handed); k_whole))
  k_with "eval Name" => (k_here; (first | (with_reducible show wpAny _ _ (eval (PySem.Expr.Name _ _) (envOf _ _ _ _ _)) _ _ _) | (with_reducible show wpAny _ _ (eval (PySem.Expr.Name _ _) (envOfC _ _ _ _ _)) _ _ _)); name_kind "globalImplicit"; k_dflt (first | (refine' PySem.W.nameX_K ?hzF ?hzX ?hzT ?hze ?_ ?hza ?hzb ?hzd; (case hzF => k_asm); (case hzX => k_asm); (case hzT => k_asm); (case hze => k_is); (case hza => first | kernel_rfl | rfl); (case hzb => first | kernel_rfl | rfl); (case hzd => first | kernel_rfl | decide); k_whole) | (refine' PySem.W.nameX_B ?hzF ?hzX ?hzT ?hze ?hzv ?hzn ?_ ?hza ?hzb ?hzd; (case hzF => k_asm); (case hzX => k_asm); (case hzT => k_asm); (case hze => k_is); (case hzv => boot_fast); (case hzn => decide +kernel); (case hza => first | kernel_rfl | rfl); (case hzb => first | kernel_rfl | rfl); (case hzd => first | kernel_rfl | decide); k_whole)))
  k_with "eval Name" => (k_here; (first | (with_reducible show wpAny _ _ (eval (PySem.Expr.Name _ _) (envOf _ _ _ _ _)) _ _ _) | (with_reducible show wpAny _ _ (eval (PySem.Expr.Name _ _) (envOfC _ _ _ _ _)) _ _ _)); name_kind "local"; k_dflt (refine' PySem.W.nameX_L ?hzF ?hzv ?_ ?hza ?hzb ?hzd; (case hzF => k_asm); (case hzv => exact Eq.refl (some _)); (case hza => first | kernel_rfl | rfl); (case hzb => first | kernel_rfl | rfl); (case hzd => first | kernel_rfl | decide); k_whole))
  k_with "eval Name" => (k_here; (first | (with_reducible show wpAny _ _ (eval (PySem.Expr.Name _ _) (envOf _ _ _ _ _)) _ _ _) | (with_reducible show wpAny _ _ (eval (PySem.Expr.Name _ _) (envOfC _ _ _ _ _)) _ _ _)); name_kind "cell"; k_dflt (refine' PySem.W.nameX_C ?hzN ?hzc ?hzm ?hzd ?_ ?hza ?hzb ?hze; (case hzN => k_asm); (case hzc => exact Eq.refl (some _)); (case hzm => k_mem); (case hzd => k_asm); (case hza => first | kernel_rfl | rfl); (case hzb => first | kernel_rfl | rfl); (case hze => first | kernel_rfl | rfl); k_whole))
  k_with "eval Name" => (k_here; (with_reducible show wpAny _ _ (eval (PySem.Expr.Name _ _) (compEnvC _ _ _ _)) _ _ _); k_dflt (first | (refine' PySem.W.kcf_cell ?hzN ?hzc ?hzm ?hzd ?_ ?hza ?hzb ?hze; (case hzb => kernel_rfl); (case hzN => k_asm); (case hzc => exact Eq.refl (some _)); (case hzm => k_mem); (case hzd => k_asm); (case hza => first | kernel_rfl | rfl); (case hze => first | kernel_rfl | rfl); k_whole) | (refine' PySem.W.LCgL.ld_own ?hzN ?hzm ?hzd ?hzc ?_ ?hza ?hzb ?hze; (case hzb => kernel_rfl); (case hzN => k_asm); (case hzm => k_mem); (case hzd => assumption); (case hzc => assumption); (case hza => first | kernel_rfl | rfl); (case hze => first | kernel_rfl | rfl); k_whole)))
  k_with "execs cons" => (k_here; with_reducible refine Mine.gentoks ?_; intro _)
  k_with "execs nil" => (k_here; with_reducible refine Mine.gentoks ?_; intro _)
  k_with "execs cons" => (k_here; k_fold)
  k_with "execs cons" => (k_here; with_reducible refine Mine.foldB ?hzht ?_; (case hzht => ((fail_if_success (fail_if_success (rw [Mine.deepMark]))); k_dflt (exact trivial))); intro _)
  k_with "eval Call" => (k_here; k_fold)
  k_with "eval Subscript" => (k_here; k_fold)
  k_with "eval Compare" => (k_here; k_fold)
  k_with "eval BinOp" => (k_here; k_fold)
  k_with "subscriptTail Attribute" => (k_here; k_dflt (refine PySem.W.kba_turn (value' := PySem.Expr.Name (PySem.Str.ofString "_") ⟨0, 0, 0, 0⟩) (fun _ => rfl) ?_))
  k_with "k_room" => (first | ktr_room | ((simp +zetaDelta only [depth_under_make, depth_under_kw, depth_in1, depth_deeper, depth_caller]); ktr_room))
  trivial
namespace Mine
noncomputable def digitsF : Int → List Int → List Int
  | _, [] => []
  | n, x :: r => n.fdiv x :: digitsF (n.fmod x) r
noncomputable def remF : Int → List Int → Int
  | n, [] => n
  | n, x :: r => remF (n.fmod x) r
theorem digitsF_snoc (x : Int) : ∀ (ns : List Int) (n : Int), digitsF n (ns ++ [x]) = digitsF n ns ++ [(remF n ns).fdiv x]
  | [], _ => rfl
  | y :: r, n => by show _ :: digitsF _ (r ++ [x]) = _; rw [digitsF_snoc x r]; rfl
theorem remF_snoc (x : Int) : ∀ (ns : List Int) (n : Int), remF n (ns ++ [x]) = (remF n ns).fmod x
  | [], _ => rfl
  | y :: r, n => by show remF _ (r ++ [x]) = _; rw [remF_snoc x r]; rfl
theorem digitsF_length : ∀ (ns : List Int) (n : Int), (digitsF n ns).length = ns.length
  | [], _ => rfl
  | _ :: r, n => congrArg (· + 1) (digitsF_length r _)
theorem digits_st {n number x : Int} {pre ds : List Int} (h1 : number = remF n pre) (h2 : ds = digitsF n pre) (h3 : ds.length = pre.length) : number.fmod x = remF n (pre ++ [x]) ∧ ds ++ [number.fdiv x] = digitsF n (pre ++ [x]) ∧ (ds ++ [number.fdiv x]).length = (pre ++ [x]).length := by
  rw [digitsF_snoc, remF_snoc, h1]
  refine ⟨rfl, by rw [h2], by simp [h3]⟩
set_option maxRecDepth 100000 in
set_option maxHeartbeats 8000000 in
theorem digits_spec (w : World) (mg mb) (mean) (n : Int) (tn : Tok) (l : Addr) (vs : List Value) (ns : List Int) (hI : IntsAre vs ns) (hpos : ∀ x ∈ ns, 0 < x ∧ x < 100) (hsz : ns.length < 100) :
    Calls w mean mg mb 801 [.int n tn, .ref l] 2 [] (fun h => h.IsList l vs.toArray)
      (fun h v h' => ∃ a ws ep, v = .ref a ∧ h.get? a = none ∧ h'.get? a = some (W.listOf ws ep) ∧ IntsAre ws.toList (digitsF n ns)) := by
  w_on
  intro dp un gd cn cs a ccd cl outer A₀ base h₀ L m s Q E B F X N T hk hd hu hpre hret
  refine wpAny_call ?_
  k_dflt (refine' Mine.enterC ?k1 ?k2 ?k3 ?k4 ?k5 ?kA ?kF ?kK ?k6 ?k7 ?k8 ?k9 ?kB ?_ ?c2 ?c3 ?c4 ?c5; (case kA => exact rfl); (case kF => exact rfl); (case kK => assumption); (case k1 => k_asm); (case k2 => k_asm); (case k3 => k_asm); (case k4 => k_asm); (case k5 => k_asm); (case k6 => k_is); (case k7 => k_is); (case k8 => ktr_room); (case k9 => first | exact BindsTo.of_eq rfl | exact binds_K (by k_in) rfl (by k_is) rfl rfl rfl | fail "enter_c: the arguments"); (case kB => exact locs rfl); (case c2 => decide); (case c3 => exact rfl); (case c4 => exact rfl); (case c5 => exact rfl); k_whole)
  intro g L' h₁ hgs hkeep hLs F' N' hlt B' X' T'
  try dsimp only
  try k_fold
  try (with_reducible refine Mine.gentoks ?_; intro _)
  try (with_reducible refine Mine.foldB ?hzt ?_; (case hzt => ((fail_if_success (fail_if_success (rw [Mine.deepMark]))); k_dflt (exact trivial))); intro _)
  have hL := stays_list (fun b o e => hkeep b o e (by intro h; cases h)) hpre
  clear hpre B F X N T
  k_with "pyIter ref" => k_state (fun pre (number : Int) (digits : List Int) => number = remF n pre ∧ digits = digitsF n pre ∧ digits.length = pre.length) "number" "digits"
  k_with "binaryOp FloorDiv int int" => (refine floordiv_int (by have := hpos _ (by assumption); omega) ?_ (Or.inl (PyProof.noPylong_small (by have := hpos _ (by assumption); omega))); dsimp only)
  k_with "binaryOp Mod int int" => (refine mod_int' (by have := hpos _ (by assumption); omega) ?_; dsimp only)
  k_with "call builtin:list.append" => (refine append_K (by k_asm) (by k_asm) (by k_upd) ?_ (by size_fits); intro h' F' N'; (try k_sweep))
  k_with "state" => first | exact digits_st (by assumption) (by assumption) (by assumption) | exact ⟨rfl, rfl, rfl⟩
  k_steps
  refine hret _ _ _ (fun b o e q => Fr.keep (by assumption) b o (hkeep b o e q)) ⟨_, _, _, rfl, ?_, (News.get (by assumption) (.head _)), ?_⟩
  · exact new_none hkeep (by assumption)
  · have e := ‹_ = digitsF n ns›
    subst e
    assumption
end Mine
end T_E2
section T_E3
theorem Mine.linesE3 : True := by
  k_with_none
  k_with "omega" => (first | (k_whole; with_reducible assumption) | (law_clear; first | with_reducible assumption | decide +kernel | ((with_reducible show List.length (_ :: _) ≤ _); exact Nat.le_of_ble_eq_true (Eq.refl true)) | ((first | refine Mine.rm2 (by with_reducible assumption) ?_ | refine Mine.rm3 (by with_reducible assumption) ?_ | refine Mine.rm1 (by with_reducible assumption) ?_ | refine Mine.bd1 (by with_reducible assumption) ?_ | refine Mine.bd3 (by with_reducible assumption) ?_ | refine Mine.bd2 (by with_reducible assumption) ?_ | refine Mine.bd4 (by with_reducible assumption) ?_ | refine Mine.bd5 (by with_reducible assumption) ?_ | refine Mine.bd6 (by with_reducible assumption) ?_ | refine Mine.bd7 (by with_reducible assumption) ?_ | refine Mine.bd8 (by with_reducible assumption) ?_); exact Eq.refl true) | ((first | refine Mine.ci1 (by with_reducible assumption) ?_ | refine Mine.ci2 (by with_reducible assumption) ?_); decide) | exact Mine.rm0 (by with_reducible assumption) | exact Mine.lp1 (by with_reducible assumption) (by with_reducible assumption) | exact Mine.lp2 (by with_reducible assumption) (by with_reducible assumption) | exact Mine.lp3 (by with_reducible assumption) | lia))
  k_with "ite" => (first | (with_reducible refine PySem.W.ite_neg (by with_reducible assumption) ?_) | (with_reducible refine PySem.W.ite_pos (by with_reducible assumption) ?_))
  k_with "ite" => (k_closed; first | (with_reducible refine PySem.W.ite_neg (by decide +kernel) ?_) | (with_reducible refine PySem.W.ite_pos (by decide +kernel) ?_))
  k_with "getAttr ref" => (k_here; k_dflt (refine' PySem.W.get_own ?hzk1 ?hzk2 ?hzk3 ?hzk4 ?hzk5 ?hzk6 ?hzk7 ?hzk8 ?hzk9 ?_; (case hzk1 => k_asm); (case hzk2 => k_asm); (case hzk3 => k_inst); (case hzk8 => k_get); (case hzk4 => k_is); (case hzk5 => k_is); (case hzk6 => k_is); (case hzk7 => k_is); (case hzk9 => k_handed); k_whole))
  k_with "eval Name" => (k_here; (first | (with_reducible show wpAny _ _ (eval (PySem.Expr.Name _ _) (envOf _ _ _ _ _)) _ _ _) | (with_reducible show wpAny _ _ (eval (PySem.Expr.Name _ _) (envOfC _ _ _ _ _)) _ _ _)); name_kind "globalImplicit"; k_dflt (first | (refine' PySem.W.nameX_K ?hzF ?hzX ?hzT ?hze ?_ ?hza ?hzb ?hzd; (case hzF => k_asm); (case hzX => k_asm); (case hzT => k_asm); (case hze => k_is); (case hza => first | kernel_rfl | rfl); (case hzb => first | kernel_rfl | rfl); (case hzd => first | kernel_rfl | decide); k_whole) | (refine' PySem.W.nameX_B ?hzF ?hzX ?hzT ?hze ?hzv ?hzn ?_ ?hza ?hzb ?hzd; (case hzF => k_asm); (case hzX => k_asm); (case hzT => k_asm); (case hze => k_is); (case hzv => boot_fast); (case hzn => decide +kernel); (case hza => first | kernel_rfl | rfl); (case hzb => first | kernel_rfl | rfl); (case hzd => first | kernel_rfl | decide); k_whole)))
  k_with "eval Name" => (k_here; (first | (with_reducible show wpAny _ _ (eval (PySem.Expr.Name _ _) (envOf _ _ _ _ _)) _ _ _) | (with_reducible show wpAny _ _ (eval (PySem.Expr.Name _ _) (envOfC _ _ _ _ _)) _ _ _)); name_kind "local"; k_dflt (refine' PySem.W.nameX_L ?hzF ?hzv ?_ ?hza ?hzb ?hzd; (case hzF => k_asm); (case hzv => exact Eq.refl (some _)); (case hza => first | kernel_rfl | rfl); (case hzb => first | kernel_rfl | rfl); (case hzd => first | kernel_rfl | decide); k_whole))
  k_with "eval Name" => (k_here; (first | (with_reducible show wpAny _ _ (eval (PySem.Expr.Name _ _) (envOf _ _ _ _ _)) _ _ _) | (with_reducible show wpAny _ _ (eval (PySem.Expr.Name _ _) (envOfC _ _ _ _ _)) _ _ _)); name_kind "cell"; k_dflt (refine' PySem.W.nameX_C ?hzN ?hzc ?hzm ?hzd ?_ ?hza ?hzb ?hze; (case hzN => k_asm); (case hzc => exact Eq.refl (some _)); (case hzm => k_mem); (case hzd => k_asm); (case hza => first | kernel_rfl | rfl); (case hzb => first | kernel_rfl | rfl); (case hze => first | kernel_rfl | rfl); k_whole))
  k_with "eval Name" => (k_here; (with_reducible show wpAny _ _ (eval (PySem.Expr.Name _ _) (compEnvC _ _ _ _)) _ _ _); k_dflt (first | (refine' PySem.W.kcf_cell ?hzN ?hzc ?hzm ?hzd ?_ ?hza ?hzb ?hze; (case hzb => kernel_rfl); (case hzN => k_asm); (case hzc => exact Eq.refl (some _)); (case hzm => k_mem); (case hzd => k_asm); (case hza => first | kernel_rfl | rfl); (case hze => first | kernel_rfl | rfl); k_whole) | (refine' PySem.W.LCgL.ld_own ?hzN ?hzm ?hzd ?hzc ?_ ?hza ?hzb ?hze; (case hzb => kernel_rfl); (case hzN => k_asm); (case hzm => k_mem); (case hzd => assumption); (case hzc => assumption); (case hza => first | kernel_rfl | rfl); (case hze => first | kernel_rfl | rfl); k_whole)))
  k_with "execs cons" => (k_here; with_reducible refine Mine.gentoks ?_; intro _)
  k_with "execs nil" => (k_here; with_reducible refine Mine.gentoks ?_; intro _)
  k_with "execs cons" => (k_here; k_fold)
  k_with "execs cons" => (k_here; with_reducible refine Mine.foldB ?hzht ?_; (case hzht => ((fail_if_success (fail_if_success (rw [Mine.deepMark]))); k_dflt (exact trivial))); intro _)
  k_with "eval Call" => (k_here; k_fold)
  k_with "eval Subscript" => (k_here; k_fold)
  k_with "eval Compare" => (k_here; k_fold)
  k_with "eval BinOp" => (k_here; k_fold)
  k_with "subscriptTail Attribute" => (k_here; k_dflt (refine PySem.W.kba_turn (value' := PySem.Expr.Name (PySem.Str.ofString "_") ⟨0, 0, 0, 0⟩) (fun _ => rfl) ?_))
  k_with "k_room" => (first | ktr_room | ((simp +zetaDelta only [depth_under_make, depth_under_kw, depth_in1, depth_deeper, depth_caller]); ktr_room))
  trivial
namespace Mine
noncomputable abbrev streamD (e1 e2 e3 : Int × Tok) (buf : Str) (tb : Tok) (pos : Int) (tp : Tok) (nl : Value) : Obj :=
  dictOf [⟨e1.1, .str (Str.ofString "_StringIO__newline") e1.2, nl⟩, ⟨e2.1, .str (Str.ofString "_StringIO__buf") e2.2, .str buf tb⟩, ⟨e3.1, .str (Str.ofString "_StringIO__pos") e3.2, .int pos tp⟩] 3
/-- what stood in the heap and was not to change stands when a def's frame is kept -/
theorem kept_of {g h h' : Heap} {L : Addr} {m : Str → Option Value} {act : List (Addr × Obj)} (hk : ∀ b o, h.get? b = some o → b ∉ act.map (·.1) → g.get? b = some o) (F : Fr g L h' m) : ∀ b o, h.get? b = some o → b ∉ act.map (·.1) → h'.get? b = some o :=
  fun b o e q => F.keep b o (hk b o e q)
theorem read_end {g h' : Heap} {L : Addr} {x dx : Nat} {e1 e2 e3 : Int × Tok} {buf sl ch : Str} {tb tp t : Tok} {pos p : Int} {nl : Value} {more : List (Addr × Obj)} (N : News g L h' ((x, instObj 611 dx) :: (dx, streamD e1 e2 e3 buf tb p tp nl) :: more)) (hp : p = pos + 1) (hv : sl = ch) :
    ∃ t' tp', Value.str sl t = .str ch t' ∧ h'.get? x = some (instObj 611 dx) ∧ h'.get? dx = some (streamD e1 e2 e3 buf tb (pos + 1) tp' nl) := by
  subst hp hv
  exact ⟨_, _, rfl, N.get (.head _), N.get (.tail _ (.head _))⟩
set_option maxRecDepth 100000 in
set_option maxHeartbeats 8000000 in
theorem read_spec (w : World) (mg mb) (mean) (x dx : Nat) (e1 e2 e3 : Int × Tok) (buf : Str) (tb : Tok) (pos : Int) (tp : Tok) (nl : Value) (t1 : Tok) (ch : Str) (hx : dx < x) (h0 : 0 ≤ pos) (h1 : pos < buf.length) (h2 : buf.length < 1000) (hch : Txt.slice buf (some pos) (some (pos + 1)) = ch) :
    Calls w mean mg mb 557 [.ref x, .int 1 t1] 4 [(x, instObj 611 dx), (dx, streamD e1 e2 e3 buf tb pos tp nl)] (fun _ => True)
      (fun _ v h' => ∃ t tp', v = .str ch t ∧ h'.get? x = some (instObj 611 dx) ∧ h'.get? dx = some (streamD e1 e2 e3 buf tb (pos + 1) tp' nl)) := by
  w_on
  intro dp un gd cn cs a ccd cl outer A₀ base h₀ L m s Q E B F X N T hk hd hu hpre hret
  refine wpAny_call ?_
  k_dflt (refine' Mine.enterC ?k1 ?k2 ?k3 ?k4 ?k5 ?kA ?kF ?kK ?k6 ?k7 ?k8 ?k9 ?kB ?_ ?c2 ?c3 ?c4 ?c5; (case kA => exact rfl); (case kF => exact rfl); (case kK => assumption); (case k1 => k_asm); (case k2 => k_asm); (case k3 => k_asm); (case k4 => k_asm); (case k5 => k_asm); (case k6 => k_is); (case k7 => k_is); (case k8 => ktr_room); (case k9 => first | exact BindsTo.of_eq rfl | exact binds_K (by k_in) rfl (by k_is) rfl rfl rfl | fail "enter_c: the arguments"); (case kB => exact locs rfl); (case c2 => decide); (case c3 => exact rfl); (case c4 => exact rfl); (case c5 => exact rfl); k_whole)
  intro g L' h₁ hgs hkeep hLs F' N' hlt B' X' T'
  try dsimp only
  try k_fold
  try (with_reducible refine Mine.gentoks ?_; intro _)
  try (with_reducible refine Mine.foldB ?hzt ?_; (case hzt => ((fail_if_success (fail_if_success (rw [Mine.deepMark]))); k_dflt (exact trivial))); intro _)
  clear hpre B F X N T
  k_steps
  · exact hret _ _ _ (kept_of hkeep (by assumption)) (read_end (by assumption) rfl hch)
  · exact hret _ _ _ (kept_of hkeep (by assumption)) (read_end (by assumption) (by omega) (by rw [← hch]; congr 2; omega))
set_option maxRecDepth 100000 in
set_option maxHeartbeats 8000000 in
theorem read_eof (w : World) (mg mb) (mean) (x dx : Nat) (e1 e2 e3 : Int × Tok) (buf : Str) (tb : Tok) (pos : Int) (tp : Tok) (nl : Value) (t1 : Tok) (hx : dx < x) (h0 : 0 ≤ pos) (h1 : pos = buf.length) (h2 : buf.length < 1000) :
    Calls w mean mg mb 557 [.ref x, .int 1 t1] 4 [(x, instObj 611 dx), (dx, streamD e1 e2 e3 buf tb pos tp nl)] (fun _ => True)
      (fun _ v h' => ∃ t, v = .str (Str.ofString "") t ∧ h'.get? x = some (instObj 611 dx) ∧ h'.get? dx = some (streamD e1 e2 e3 buf tb pos tp nl)) := by
  w_on
  intro dp un gd cn cs a ccd cl outer A₀ base h₀ L m s Q E B F X N T hk hd hu hpre hret
  refine wpAny_call ?_
  k_dflt (refine' Mine.enterC ?k1 ?k2 ?k3 ?k4 ?k5 ?kA ?kF ?kK ?k6 ?k7 ?k8 ?k9 ?kB ?_ ?c2 ?c3 ?c4 ?c5; (case kA => exact rfl); (case kF => exact rfl); (case kK => assumption); (case k1 => k_asm); (case k2 => k_asm); (case k3 => k_asm); (case k4 => k_asm); (case k5 => k_asm); (case k6 => k_is); (case k7 => k_is); (case k8 => ktr_room); (case k9 => first | exact BindsTo.of_eq rfl | exact binds_K (by k_in) rfl (by k_is) rfl rfl rfl | fail "enter_c: the arguments"); (case kB => exact locs rfl); (case c2 => decide); (case c3 => exact rfl); (case c4 => exact rfl); (case c5 => exact rfl); k_whole)
  intro g L' h₁ hgs hkeep hLs F' N' hlt B' X' T'
  try dsimp only
  try k_fold
  try (with_reducible refine Mine.gentoks ?_; intro _)
  try (with_reducible refine Mine.foldB ?hzt ?_; (case hzt => ((fail_if_success (fail_if_success (rw [Mine.deepMark]))); k_dflt (exact trivial))); intro _)
  clear hpre B F X N T
  k_steps
  refine hret _ _ _ (kept_of hkeep (by assumption)) ⟨_, rfl, News.get (by assumption) (.head _), News.get (by assumption) (.tail _ (.head _))⟩
end Mine
end T_E3
section T_E5
set_option maxHeartbeats 4000000
namespace Mine
/-- an own __new__ came back -/
noncomputable def NewBack (K : Frag) (C : Addr) (R : Result → Shared → Prop) (k : Addr → Shared → Prop) (r : Result) (s' : Shared) : Prop := match r with
  | .ok (.ret (.ref xa)) => ∃ dxa, s'.heap.get? xa = some (instObj C dxa) ∧ K.In s'.heap ∧ k xa s'
  | .ok _ => False
  | .error e => R (.error e) s'
theorem tcall_bind' : bindSpecial (.builtin "type.__call__") (.ref C) = pure (.builtin "type.__call__", [.ref C]) := tc_bind _
theorem make_new {w : World} {K : Frag} {A : Around} {s : Shared} {C fN fI : Addr} {rest : List Value} {kw : List (Str × Value)} {R : Result → Shared → Prop} (X : K.In s.heap)
    (hm : ∃ oc od cd sl, K.lookup C = some ⟨oc, od, .cls cd, sl⟩ ∧ cd.mro.isEmpty = false)
    (call : specialIn K (.ref C) "__call__" = some (some (.builtin "type.__call__"))) (typ : instIn K (.ref C) (.type "type") = some true) (self : subIn K (.ref C) (.ref C) = some true)
    (made : ∀ S, peek K S (Bind.madeBy (.ref C)) = some none)
    (hi : findIn K (.ref C) "__init__" = some (some (.ref fI))) (hf : typeIn K (.ref fI) = some (.type "function"))
    (hnew : ∀ (A' : Around) (Q : Value → Shared → Prop) (E : Value → Shared → Prop), Q (.ref fN) { s with toks := s.toks + 1 } → wpAny (model PR w) A' (getAttr (.ref C) "__new__") Q E s)
    (h : codeAny (model PR w) (A.under (.builtin "type.__call__" ⟨.ref C :: rest, kw⟩)) (.call (.ref fN) ⟨.ref C :: rest, kw⟩)
      (NewBack K C R fun xa s' => codeAny (model PR w) (A.under (.builtin "type.__call__" ⟨.ref C :: rest, kw⟩)) (.call (.ref fI) ⟨.ref xa :: rest, kw⟩) (InitBack xa R) s') { s with toks := s.toks + 1 }) :
    codeAny (model PR w) A (.call (.ref C) ⟨rest, kw⟩) R s := by
  obtain ⟨oc, od, cd, sl, hC, e4⟩ := hm
  have hC' := X _ _ hC
  have call' := looks_specialIn (M := model PR w) X call
  have typ' := looks_instIn (M := model PR w) X typ
  have made' : Looks (model PR w) s.heap (Bind.madeBy (.ref C)) none := Looks.of_peek X (made _)
  refine codeAny_of_tree ?_
  show wpAny _ _ (callAny (.ref C) _) _ _ _
  refine nd_load hC' ?_
  show wpAny _ _ (callAny.viaDunder (.ref C) _) _ _ _
  unfold callAny.viaDunder
  obtain ⟨hh, g, d, t, os⟩ := s
  refine wpAny_bind (call'.at ?_)
  dsimp only
  rw [tc_bind]
  refine wpAny_bind (wpAny_pure (wpAny_bind (wpAny_pure ?_)))
  refine wpAny_pure (a := Fin.again (.call (.builtin "type.__call__") ⟨.ref C :: rest, kw⟩)) (And.intro rfl ?_)
  refine codeAny_call_builtin_at (Code.quiet_builtin _ (by decide +kernel)) entry_typeCall (check_slot tc_kind tc_split typ' (tc_args _ _ _) ?_)
  unfold Builtin.«type.__call__»
  have hm' : Looks (model PR w) hh (mroOf (.ref C)) cd.mro := ((Looks.ld (part := none) hC').andThen .now).andThen .now
  repeat (first | simp only [e4, Bool.false_eq_true, if_false] | (with_reducible refine wpAny_bind (hnew _ _ _ ?_)) | with_reducible refine wpAny_call ?_ | lk)
  refine codeAny_mono h fun r s' z => ?_
  rcases r with e | (v | _ | _ | _)
  · exact z
  · exact z.elim
  · exact z.elim
  · exact z.elim
  rename_i v
  cases v <;> first | exact z.elim | skip
  rename_i xa
  obtain ⟨dxa, hx, X', z⟩ := z
  obtain ⟨hh', g', d', t', os'⟩ := s'
  have t1 : Looks (model PR w) hh' (typeOf (.ref xa)) (.ref C) := (Looks.ld hx).andThen .now
  have s1 := looks_subIn (M := model PR w) X' self
  have i1 := looks_findIn (M := model PR w) X' hi
  have b1 := bind_fn (M := model PR w) X' (.ref xa) hf
  dsimp only at s1 i1 b1 ⊢
  unfold isInstance callSpecial? specialOf
  repeat (first | with_reducible refine wpAny_call ?_ | lk)
  refine codeAny_mono z fun r s' z => ?_
  rcases r with e | (v | _ | _ | _) <;> first | exact z | exact z.elim | skip
  obtain ⟨rfl, z⟩ := z
  exact wpAny_pure (wpAny_pure z)
end Mine
end T_E5
section T_E5b
open PySem PySem.Spec PySem.Calls PySem.W PyProof.Rows Builtin Builtin.ObjectAttr Builtin.Getset_descriptor
set_option maxHeartbeats 4000000
namespace Mine
theorem new_own {w : World} {K : Frag} {A : Around} {s : Shared} {h₀ : Heap} {L : Addr} {m : Str → Option Value} {news : List (Addr × Obj)} {C : Addr} {R : Result → Shared → Prop} (F : Fr h₀ L s.heap m) (N : News h₀ L s.heap news) (X : K.In s.heap)
    (hC : ∃ oc od cd sl, K.lookup C = some ⟨oc, od, .cls cd, sl⟩ ∧ cd.abstract = false ∧ cd.hasDel = false)
    (self : subIn K (.ref C) (.ref C) = some true) (top : subIn K (.ref C) (.type "object") = some true) (typ : instIn K (.ref C) (.type "type") = some true)
    (here : ∀ S, peek K S (Bind.staticBase (.ref C)) = some (.type "object")) (here2 : ∀ S, peek K S (Bind.madeBy (.type "object")) = some (some "object.__new__"))
    (h : ∀ x dx h', Fr h₀ L h' m → News h₀ L h' ((x, instObj C dx) :: (dx, emptyDict) :: news) → (∀ p ∈ news, p.1 < dx) → dx < x → R (.ok (.ret (.ref x))) { s with heap := h' }) :
    codeAny (model PR w) A (.call (.builtin "object.__new__") ⟨[.ref C], []⟩) R s := by
  obtain ⟨oc, od, cd, sl, hC, e1, e2⟩ := hC
  obtain ⟨hh, g, d, t, os⟩ := s
  replace X : K.In hh := X
  have hC : hh.get? C = some _ := X _ _ hC
  have self := looks_subIn (M := model PR w) X self
  have top := looks_subIn (M := model PR w) X top
  have typ := looks_instIn (M := model PR w) X typ
  have base : Looks (model PR w) hh (Bind.staticBase (.ref C)) (.type "object") := Looks.of_peek (M := model PR w) X (here _)
  have made : Looks (model PR w) hh (Bind.madeBy (.type "object")) (some "object.__new__") := Looks.of_peek (M := model PR w) X (here2 _)
  have here : Looks (model PR w) hh (Bind.madeHere "object.__new__" (.ref C)) () := base.andThen (made.andThen (Looks.of_pure (by simp only [Option.map_some, bne_self_eq_false, Bool.false_eq_true, if_false])))
  have hq : R (.ok (.ret (.ref (hh.objs.size + 1)))) ⟨(hh.push emptyDict).push (instObj C hh.objs.size), g, d, t, os⟩ := by
    refine h _ hh.objs.size _ ((F.push _).push _) ?_ (fun p hp => Heap.lt_size (N p hp).1) (Nat.lt_succ_self _)
    have := (N.push F emptyDict).push (F.push _) (instObj C hh.objs.size)
    rwa [Heap.size_push] at this
  have F := PySem.F.objNew
  refine codeAny_call_builtin_code (Code.quiet_builtin _ F.quiet) ?_
  simp only [checkBuiltinCall, F.kind, F.split, F.row]
  have args : Bind.checkArgs "object.__new__" ⟨.hand, "object.__new__", "__new__", .cls, []⟩ ⟨[.ref C], []⟩ = pure () := by kernel_rfl
  rw [args]
  repeat (first | simp only [bne_self_eq_false, Bool.false_eq_true, if_false] | lk)
  refine codeAny_builtin F.entry ?_
  unfold Builtin.«object.__new__»
  have fin : ∀ A', wpAny (model PR w) A' (do
      let d ← if typeHasDict (.ref C) then some <$> alloc { cls := .type "dict", data := .dict #[] } else pure none
      ret (← newObj (.ref C) .plain d)) (fun fin s' => match fin with | .done f => R (.ok f) s' | .again c' => c'.quiet = true ∧ codeAny (model PR w) A c' R s') (fun e s' => R (.error e) s') ⟨hh, g, d, t, os⟩ := by
    intro A'
    show wpAny _ _ ((alloc emptyDict >>= fun x => pure (some x)) >>= _) _ _ _
    refine wpAny_bind (wpAny_bind (wpAny_alloc (wpAny_pure (wpAny_bind ?_))))
    show wpAny _ _ (newObjAsIs _ _ _) _ _ _
    unfold newObjAsIs classHasDel
    refine wpAny_bind (wpAny_alloc (wpAny_bind (wpAny_bind (wpAny_load (Heap.get?_push_of_some _ (Heap.get?_push_of_some _ hC)) (wpAny_pure ?_)))))
    rw [e2]
    refine wpAny_pure (wpAny_pure ?_)
    show R _ _
    rw [Heap.size_push]
    exact hq
  repeat (first | simp only [e1, Bool.false_eq_true, if_false] | exact fin _ | lk)
end Mine
end T_E5b
section T_Mac2

end T_Mac2
section T_E7
set_option maxHeartbeats 4000000
namespace Mine
theorem mro_deque : mroOf (.type "collections.deque") = pure [.type "collections.deque", .type "object"] := by rw [mroOf_type]; kernel_rfl
theorem lookup_deque_new : typeLookup (.type "collections.deque") "__new__" = pure (some (.builtin "collections.deque.__new__")) := by rw [typeLookup_type, builtinLookup_eq_fast]; kernel_rfl
theorem lookup_deque_init : typeLookup (.type "collections.deque") "__init__" = pure (some (.builtin "collections.deque.__init__")) := by rw [typeLookup_type, builtinLookup_eq_fast]; kernel_rfl
theorem slot_deque_init : Slot "collections.deque" "__init__" "collections.deque.__init__" :=
  .of (owner := "collections.deque") (n := "__init__") lookup_deque_init (by decide +kernel) (by decide +kernel) (by decide +kernel)
    (by first | exact .inl (by decide +kernel) | exact .inr (by decide +kernel)) (by rw [isSubtype_type]; kernel_rfl)
theorem slot_deque_len : Slot "collections.deque" "__len__" "collections.deque.__len__" :=
  .of (owner := "collections.deque") (n := "__len__") (by rw [typeLookup_type, builtinLookup_eq_fast]; kernel_rfl) (by decide +kernel) (by decide +kernel) (by decide +kernel)
    (by first | exact .inl (by decide +kernel) | exact .inr (by decide +kernel)) (by rw [isSubtype_type]; kernel_rfl)
theorem called_deque : TypeCalled "collections.deque" "collections.deque.__new__" "collections.deque.__init__" :=
  ⟨by decide +kernel, by decide +kernel, ⟨_, _, mro_deque⟩, madeBy_type mro_deque lookup_deque_new (by decide +kernel), by decide +kernel, by rw [isSubtype_type]; kernel_rfl, slot_deque_init⟩
theorem typeCall_deque_0 : checkTypeCall "collections.deque" ⟨[], []⟩ = pure () := by kernel_rfl
theorem newCall_deque_0 : checkBuiltinCall "collections.deque.__new__" ⟨[.type "collections.deque"], []⟩ = pure () := by kernel_rfl
theorem entry_deque_new : entryFor table "collections.deque.__new__" = some Builtin.«collections.deque.__new__» := entryFor_of_tree (by kernel_rfl)
theorem entry_deque_init : entryFor table "collections.deque.__init__" = some Builtin.«collections.deque.__init__» := entryFor_of_tree (by kernel_rfl)
theorem entry_deque_len : entryFor table "collections.deque.__len__" = some Builtin.«collections.deque.__len__» := entryFor_of_tree (by kernel_rfl)
theorem plain_deque_new : plainId "collections.deque.__new__" = true := by decide +kernel
theorem args_deque_init (a : Value) : argsOk "collections.deque.__init__" ⟨[a], []⟩ := by unfold argsOk; kernel_rfl
theorem sub_deque_self : isSubtype (.type "collections.deque") (.type "collections.deque") = pure true := by rw [isSubtype_type]; kernel_rfl
noncomputable abbrev dequeObj (items : List Value) (e : Int) : Obj := { cls := .type "collections.deque", data := .fields (#[.none, rawInt e] ++ items.toArray) }
end Mine
end T_E7
section T_E7b
set_option maxHeartbeats 4000000
namespace Mine
section
variable {w : World} {A : Around} {E : Value → Shared → Prop} {s : Shared} {h₀ : Heap} {L : Addr} {m : Str → Option Value} {news : List (Addr × Obj)}
theorem code_deque_new {Q₁ : Value → Shared → Prop} (h : Q₁ (.ref s.heap.objs.size) { s with heap := s.heap.push (dequeObj [] 0) }) :
    codeAny (model PR w) A (.call (.builtin "collections.deque.__new__") ⟨[.type "collections.deque"], []⟩) (wants Q₁ E) s := by
  refine codeAny_of_tree ?_
  show wpAny _ A.in1 (do checkBuiltinCall "collections.deque.__new__" ⟨[.type "collections.deque"], []⟩; again (.builtin "collections.deque.__new__" ⟨[.type "collections.deque"], []⟩)) _ _ s
  refine wpAny_bind (wpAny_of_eq newCall_deque_0 (wpAny_pure ⟨plainId_quiet plain_deque_new _, codeAny_builtin entry_deque_new ?_⟩))
  rw [Around.under_plainId plain_deque_new _]
  unfold Builtin.«collections.deque.__new__» Builtin.Deque.newArgs
  have hsub := sub_deque_self
  obtain ⟨hp, g, d, tk, os⟩ := s
  have hl : Looks (model PR w) hp (isSubtype (.type "collections.deque") (.type Builtin.Deque.ty)) true := Looks.of_pure hsub
  unfold Builtin.Deque.new newObj
  repeat (first | exact h | lk)
theorem clear_deque {Q : Unit → Shared → Prop} {a : Addr} {e : Int} (ho : s.heap.get? a = some (dequeObj [] e)) (h : Q () s) : wpAny (model PR w) A (Builtin.Deque.clear (.ref a)) Q E s := by
  unfold Builtin.Deque.clear Builtin.Deque.items fieldsOf
  repeat (first | exact h | lk)
theorem size_deque {Q : Nat → Shared → Prop} {a : Addr} {e : Int} (ho : s.heap.get? a = some (dequeObj [] e)) (h : Q 0 s) : wpAny (model PR w) A (Builtin.Deque.size (.ref a)) Q E s := by
  unfold Builtin.Deque.size fieldsOf
  repeat (first | exact h | lk)
theorem call_deque {Q : Value → Shared → Prop} (F : Fr h₀ L s.heap m) (N : News h₀ L s.heap news)
    (h : ∀ a h', Fr h₀ L h' m → News h₀ L h' ((a, dequeObj [] 0) :: news) → (∀ p ∈ news, p.1 < a) → Q (.ref a) { s with heap := h' }) :
    wpAny (model PR w) A (call (.type "collections.deque") []) Q E s := by
  have F1 := F.push (dequeObj [] 0)
  have N1 := N.push F (dequeObj [] 0) rfl
  have ge : (s.heap.push (dequeObj [] 0)).get? s.heap.objs.size = some (dequeObj [] 0) := Heap.get?_push_size _ rfl
  refine callType_codes (Bi := Builtin.«collections.deque.__init__») called_deque typeCall_deque_0 entry_deque_init
    (Q₁ := fun obj s₁ => obj = .ref s.heap.objs.size ∧ s₁ = { s with heap := s.heap.push (dequeObj [] 0) }) (code_deque_new ⟨rfl, rfl⟩) ?_
  rintro obj s₁ ⟨rfl, rfl⟩
  refine ⟨⟨_, ge, rfl⟩, args_deque_init _, ?_⟩
  unfold Builtin.«collections.deque.__init__»
  repeat (first | with_reducible refine wpAny_bind (clear_deque (by assumption) ?_) | lk)
  have lt : ∀ p ∈ news, p.1 < s.heap.objs.size := fun p hp => Heap.lt_size (N p hp).1
  obtain ⟨F2, N2⟩ := news_upd (pre := []) (post := news) (o' := dequeObj [] 0) (f := Obj.mapFields fun x => x.setIfInBounds 0 Value.none) F1 N1 (fun _ hp => nomatch hp) (fun p hp => Nat.ne_of_lt (lt p hp)) rfl rfl
  refine wpAny_update ge ?_
  have ge2 := (N2 _ (.head _)).1
  refine wpAny_bind (clear_deque ge2 ?_)
  repeat (first | exact ⟨rfl, h _ _ F2 N2 lt⟩ | lk)
theorem args_deque_len (a : Value) : argsOk "collections.deque.__len__" ⟨[a] ++ [], []⟩ := by unfold argsOk; kernel_rfl
theorem truthy_deque {Q : Bool → Shared → Prop} {a : Addr} (N : News h₀ L s.heap news) (hm : (a, dequeObj [] 0) ∈ news) (h : ∀ tk, Q false { s with toks := tk }) : wpAny (model PR w) A (truthy (.ref a)) Q E s := by
  have ho : s.heap.get? a = some (dequeObj [] 0) := (N _ hm).1
  unfold truthy
  repeat (first | with_reducible refine wpAny_runValue ?_ | lk)
  refine codeAny_builtin PySem.entry_len ?_
  unfold Builtin.«len»
  have hli := slot_deque_len.lookup
  have hbi := slot_deque_len.bind (.ref a)
  repeat (first | with_reducible refine wpAny_call ?_ | lk)
  rw [show (toString "collections.deque" ++ toString "." ++ toString (Str.ofString "__len__").toString) = "collections.deque.__len__" from by kernel_rfl]
  refine codeAny_call_builtin slot_deque_len.plain entry_deque_len (slot_deque_len.check _ _ _ _ _ _ _ _ ⟨_, ho, rfl⟩ (args_deque_len _) ?_)
  unfold Builtin.«collections.deque.__len__»
  repeat (first | with_reducible refine wpAny_bind (size_deque (by assumption) ?_) | exact h _ | lk)


end
end Mine
end T_E7b
section T_Mac3

end T_Mac3
section T_Pl
open PySem PySem.Spec PySem.Calls PySem.W PyProof PyProof.Rows Builtin Builtin.Str
namespace Mine
theorem sl_idx (n k : Nat) (h : k < n) : strSliceIndices (some (k : Int)) (some ((k : Int) + 1)) 1 n = [k] := by
  unfold strSliceIndices sliceRange
  simp only [show (1 : Int) > 0 by decide, if_true]
  have h1 : ¬ ((k : Int) < 0) := by omega
  have h2 : ¬ ((k : Int) + 1 < 0) := by omega
  rw [if_neg h1, if_neg h2]
  have e1 : max 0 (min (k : Int) (n : Int)) = k := by omega
  have e2 : max 0 (min ((k : Int) + 1) (n : Int)) = k + 1 := by omega
  rw [e1, e2, if_pos (by omega)]
  have e3 : ((k : Int) + 1 - k + 1 - 1) / 1 = 1 := by omega
  rw [e3]
  simp
theorem slice_one {buf : Str} {pos c : Nat} {r : List Nat} (h : buf.cps.toList.drop pos = c :: r) : Txt.slice buf (some (pos : Int)) (some ((pos : Int) + 1)) = Str.mk #[c] ∧ pos < buf.length ∧ buf.cps.toList.drop (pos + 1) = r := by
  have hlt : pos < buf.cps.toList.length := by
    apply Nat.lt_of_not_le
    intro q
    rw [List.drop_eq_nil_of_le q] at h; cases h
  have hlen : buf.length = buf.cps.toList.length := by simp [Str.length]
  have hg : buf.cps.toList[pos]? = some c := by
    have := congrArg List.head? h
    rw [List.head?_drop] at this
    simpa using this
  refine ⟨?_, by omega, ?_⟩
  · unfold Txt.slice
    rw [sl_idx _ _ (by omega)]
    split
    · rename_i q
      have q1 : buf.length = 1 := by simp at q; omega
      have p0 : pos = 0 := by omega
      subst p0
      obtain ⟨cps⟩ := buf
      congr 1
      apply Array.ext'
      have e : cps.toList.drop 0 = c :: r := h
      rw [List.drop_zero] at e
      have l1 : cps.toList.length = 1 := by rw [← hlen]; exact q1
      rw [e] at l1 ⊢
      simp at l1
      simp [l1]
    · have : buf.cps[pos]? = some c := by rw [← Array.getElem?_toList]; exact hg
      simp [this]
  · rw [← List.drop_drop, h]; rfl
theorem drop_nil {buf : Str} {pos : Nat} (hp : pos ≤ buf.length) (h : buf.cps.toList.drop pos = []) : pos = buf.length := by
  have := List.drop_eq_nil_iff.mp h
  have hlen : buf.length = buf.cps.toList.length := by simp [Str.length]
  omega
end Mine
end T_Pl
section T_Rd
namespace Mine
inductive IsStream (o : Obj) (buf : Str) (pos : Nat) : Prop where
  | mk (e1 e2 e3 : Int × Tok) (tb tp : Tok) (nl : Value) (_ : o = streamD e1 e2 e3 buf tb (pos : Int) tp nl) : IsStream o buf pos
set_option genInjectivity false in
set_option genSizeOf false in
/-- the letters of a lexer's dict that no step asks for -/
structure LexL where
  (h0 h1 h2 h3 h4 h5 h6 h7 h8 h9 h10 h11 h12 h13 h14 h15 h16 h17 h18 : Int)
  (k0 k1 k2 k3 k4 k5 k6 k7 k8 k9 k10 k11 k12 k13 k14 k15 k16 k17 k18 t4 t5 t6 t8 t9 t10 t13 t14 t18 : Tok)
noncomputable def lexEs (l : LexL) (xs p1 p2 : Nat) (st tv : Value) : List DictEntry := [⟨l.h0, .str (Str.ofString "instream") l.k0, .ref xs⟩, ⟨l.h1, .str (Str.ofString "infile") l.k1, .none⟩, ⟨l.h2, .str (Str.ofString "posix") l.k2, .bool true⟩, ⟨l.h3, .str (Str.ofString "eof") l.k3, .none⟩, ⟨l.h4, .str (Str.ofString "commenters") l.k4, .str (Str.ofString "") l.t4⟩, ⟨l.h5, .str (Str.ofString "wordchars") l.k5, .str (Str.ofString "abcdfeghijklmnopqrstuvwxyzABCDEFGHIJKLMNOPQRSTUVWXYZ0123456789_ßàáâãäåæçèéêëìíîïðñòóôõöøùúûüýþÿÀÁÂÃÄÅÆÇÈÉÊËÌÍÎÏÐÑÒÓÔÕÖØÙÚÛÜÝÞ") l.t5⟩, ⟨l.h6, .str (Str.ofString "whitespace") l.k6, .str (Str.ofString " \t\r\n") l.t6⟩, ⟨l.h7, .str (Str.ofString "whitespace_split") l.k7, .bool true⟩, ⟨l.h8, .str (Str.ofString "quotes") l.k8, .str (Str.ofString "'\"") l.t8⟩, ⟨l.h9, .str (Str.ofString "escape") l.k9, .str (Str.ofString "\\") l.t9⟩, ⟨l.h10, .str (Str.ofString "escapedquotes") l.k10, .str (Str.ofString "\"") l.t10⟩, ⟨l.h11, .str (Str.ofString "state") l.k11, st⟩, ⟨l.h12, .str (Str.ofString "pushback") l.k12, .ref p1⟩, ⟨l.h13, .str (Str.ofString "lineno") l.k13, .int 1 l.t13⟩, ⟨l.h14, .str (Str.ofString "debug") l.k14, .int 0 l.t14⟩, ⟨l.h15, .str (Str.ofString "token") l.k15, tv⟩, ⟨l.h16, .str (Str.ofString "filestack") l.k16, .ref p2⟩, ⟨l.h17, .str (Str.ofString "source") l.k17, .none⟩, ⟨l.h18, .str (Str.ofString "_punctuation_chars") l.k18, .str (Str.ofString "") l.t18⟩]
inductive IsLex (o : Obj) (xs p1 p2 : Nat) (st : Value) (tok : Str) : Prop where
  | of (l : LexL) (t : Tok) (_ : o = dictOf (lexEs l xs p1 p2 st (.str tok t)) 19) : IsLex o xs p1 p2 st tok
theorem IsLex.open {o : Obj} {xs p1 p2 : Nat} {st : Value} {tok : Str} {P : Prop} (h : IsLex o xs p1 p2 st tok) (k : ∀ (l : LexL) (t : Tok), o = dictOf (lexEs l xs p1 p2 st (.str tok t)) 19 → P) : P := by
  obtain ⟨l, t, hq⟩ := h
  exact k l t hq
theorem IsLex.mk {l : LexL} {xs p1 p2 : Nat} {st : Value} {tok : Str} {t : Tok} : IsLex (dictOf (lexEs l xs p1 p2 st (.str tok t)) 19) xs p1 p2 st tok := ⟨l, t, rfl⟩
theorem lex_put_state {l : LexL} {xs p1 p2 : Nat} {st tv v k : Value} {h : Int} : (putL (Str.ofString "state") h k v (lexEs l xs p1 p2 st tv), putN (Str.ofString "state") (lexEs l xs p1 p2 st tv) 19) = (lexEs l xs p1 p2 v tv, 19) := by kernel_rfl
theorem lex_put_token {l : LexL} {xs p1 p2 : Nat} {st tv v k : Value} {h : Int} : (putL (Str.ofString "token") h k v (lexEs l xs p1 p2 st tv), putN (Str.ofString "token") (lexEs l xs p1 p2 st tv) 19) = (lexEs l xs p1 p2 st v, 19) := by kernel_rfl
theorem lex_ne1 {p2 p1 x dx lex dl : Nat} (ho : dl < lex ∧ lex < dx ∧ dx < x ∧ x < p1 ∧ p1 < p2) : p2 ≠ dl := by omega
theorem lex_ne2 {p2 p1 x dx lex dl : Nat} (ho : dl < lex ∧ lex < dx ∧ dx < x ∧ x < p1 ∧ p1 < p2) : p1 ≠ dl := by omega
theorem lex_ne3 {p2 p1 x dx lex dl : Nat} (ho : dl < lex ∧ lex < dx ∧ dx < x ∧ x < p1 ∧ p1 < p2) : x ≠ dl := by omega
theorem lex_ne4 {p2 p1 x dx lex dl : Nat} (ho : dl < lex ∧ lex < dx ∧ dx < x ∧ x < p1 ∧ p1 < p2) : dx ≠ dl := by omega
theorem lex_ne5 {p2 p1 x dx lex dl : Nat} (ho : dl < lex ∧ lex < dx ∧ dx < x ∧ x < p1 ∧ p1 < p2) : lex ≠ dl := by omega
/-- the six objects of a reader at work -/
noncomputable abbrev led6 (p2 p1 x dx lex dl : Nat) (od ol : Obj) : List (Addr × Obj) := [(p2, dequeObj [] 0), (p1, dequeObj [] 0), (x, instObj 611 dx), (dx, od), (lex, instObj 746 dl), (dl, ol)]
section
variable {w : World} {mean : ExcName → Option Value} {mg mb : Str → Option Value} {dp un : Nat} {gd : Option (List Code)} {cn : Str} {cs : Scope} {a : Addr} {ccd : Value} {cl : List (Str × Addr)} {outer : List Env} {A₀ : Around} {base h₀ : Heap} {L : Addr} {m : Str → Option Value} {s : Shared} {Q E : Value → Shared → Prop}
  {p2 p1 x dx lex dl : Nat} {od ol : Obj} {buf : Str} {pos : Nat} {t1 : Tok}
theorem rest4 {ox : Obj} {od : Obj} (o1 : dl < lex) (o2 : lex < dx) (o3 : dx < x) (o4 : x < p1) (o5 : p1 < p2) : ∀ p ∈ [((p2, dequeObj [] 0) : Addr × Obj), (p1, dequeObj [] 0), (lex, instObj 746 dl), (dl, ol)],
    p ∈ [((p2, dequeObj [] 0) : Addr × Obj), (p1, dequeObj [] 0), (x, ox), (dx, od), (lex, instObj 746 dl), (dl, ol)] ∧ p.1 ∉ [((x, ox) : Addr × Obj), (dx, od)].map (·.1) := by
  intro p hp
  simp only [List.mem_cons, List.not_mem_nil, or_false] at hp
  have key : ∀ y : Nat, y ≠ x → y ≠ dx → y ∉ [((x, ox) : Addr × Obj), (dx, od)].map (·.1) := fun y h1 h2 q => by
    simp only [List.map_cons, List.map_nil, List.mem_cons, List.not_mem_nil, or_false] at q
    exact q.elim h1 h2
  rcases hp with rfl | rfl | rfl | rfl
  · exact ⟨.head _, key p2 (by omega) (by omega)⟩
  · exact ⟨.tail _ (.head _), key p1 (by omega) (by omega)⟩
  · exact ⟨.tail _ (.tail _ (.tail _ (.tail _ (.head _)))), key lex (by omega) (by omega)⟩
  · exact ⟨.tail _ (.tail _ (.tail _ (.tail _ (.tail _ (.head _))))), key dl (by omega) (by omega)⟩
theorem read_use (ch : Str) (B : Below A₀ base outer h₀) (F : Fr h₀ L s.heap m) (X : (Mine.hd.heap_1_1 w.params).In h₀) (N : News h₀ L s.heap (led6 p2 p1 x dx lex dl od ol)) (T : Top VW LO mean mg mb h₀) (hk : cs.kind = .function)
    (ho : dl < lex ∧ lex < dx ∧ dx < x ∧ x < p1 ∧ p1 < p2) (hs : IsStream od buf pos) (h1 : pos < buf.length) (h2 : buf.length < 1000) (hch : Txt.slice buf (some (pos : Int)) (some ((pos : Int) + 1)) = ch) (hd : dp + 4 < recursionLimit) (hu : un + 8 * 4 < cLine)
    (ret : ∀ (t : Tok) (od' : Obj) (h' : Heap) (tk' : Nat), Fr h₀ L h' m → News h₀ L h' (led6 p2 p1 x dx lex dl od' ol) → IsStream od' buf (pos + 1) → Q (.str ch t) { s with heap := h', toks := tk' }) :
    wpAny (model PR w) (ktrTop dp un gd cn cs L a ccd cl outer) (call (.ref 557) [.ref x, .int 1 t1]) Q E s := by
  obtain ⟨e1, e2, e3, tb, tp, nl, rfl⟩ := hs
  obtain ⟨o1, o2, o3, o4, o5⟩ := ho
  refine calls_use (rest := [(p2, dequeObj [] 0), (p1, dequeObj [] 0), (lex, instObj 746 dl), (dl, ol)]) B F X N T hk
    (read_spec w mg mb mean x dx e1 e2 e3 buf tb (pos : Int) tp nl t1 ch o3 (by omega) (by omega) h2 hch) ?_ ?_ hd hu trivial ?_
  · intro p hp
    rcases List.mem_cons.mp hp with rfl | hp
    · exact .tail _ (.tail _ (.head _))
    · rw [List.mem_singleton.mp hp]; exact .tail _ (.tail _ (.tail _ (.head _)))
  · exact rest4 o1 o2 o3 o4 o5
  · rintro v h' tk' F' N' hkeep ⟨t, tp', rfl, hx, hdx⟩
    refine ret t (streamD e1 e2 e3 buf tb ((pos : Int) + 1) tp' nl) h' tk' F' ?_ ⟨e1, e2, e3, tb, tp', nl, rfl⟩
    intro p hp
    simp only [List.mem_cons, List.not_mem_nil, or_false] at hp
    rcases hp with rfl | rfl | rfl | rfl | rfl | rfl
    · exact N' _ (.head _)
    · exact N' _ (.tail _ (.head _))
    · exact ⟨hx, (N _ (.tail _ (.tail _ (.head _)))).2⟩
    · exact ⟨hdx, (N _ (.tail _ (.tail _ (.tail _ (.head _))))).2⟩
    · exact N' _ (.tail _ (.tail _ (.head _)))
    · exact N' _ (.tail _ (.tail _ (.tail _ (.head _))))
theorem read_eof_use (B : Below A₀ base outer h₀) (F : Fr h₀ L s.heap m) (X : (Mine.hd.heap_1_1 w.params).In h₀) (N : News h₀ L s.heap (led6 p2 p1 x dx lex dl od ol)) (T : Top VW LO mean mg mb h₀) (hk : cs.kind = .function)
    (ho : dl < lex ∧ lex < dx ∧ dx < x ∧ x < p1 ∧ p1 < p2) (hs : IsStream od buf pos) (h1 : pos = buf.length) (h2 : buf.length < 1000) (hd : dp + 4 < recursionLimit) (hu : un + 8 * 4 < cLine)
    (ret : ∀ (t : Tok) (h' : Heap) (tk' : Nat), Fr h₀ L h' m → News h₀ L h' (led6 p2 p1 x dx lex dl od ol) → IsStream od buf pos → Q (.str (Str.ofString "") t) { s with heap := h', toks := tk' }) :
    wpAny (model PR w) (ktrTop dp un gd cn cs L a ccd cl outer) (call (.ref 557) [.ref x, .int 1 t1]) Q E s := by
  have hs' := hs
  obtain ⟨e1, e2, e3, tb, tp, nl, rfl⟩ := hs
  obtain ⟨o1, o2, o3, o4, o5⟩ := ho
  refine calls_use (rest := [(p2, dequeObj [] 0), (p1, dequeObj [] 0), (lex, instObj 746 dl), (dl, ol)]) B F X N T hk
    (read_eof w mg mb mean x dx e1 e2 e3 buf tb (pos : Int) tp nl t1 o3 (by omega) (by omega) h2) ?_ ?_ hd hu trivial ?_
  · intro p hp
    rcases List.mem_cons.mp hp with rfl | hp
    · exact .tail _ (.tail _ (.head _))
    · rw [List.mem_singleton.mp hp]; exact .tail _ (.tail _ (.tail _ (.head _)))
  · exact rest4 o1 o2 o3 o4 o5
  · rintro v h' tk' F' N' hkeep ⟨t, rfl, hx, hdx⟩
    refine ret t h' tk' F' ?_ hs'
    intro p hp
    simp only [List.mem_cons, List.not_mem_nil, or_false] at hp
    rcases hp with rfl | rfl | rfl | rfl | rfl | rfl
    · exact N' _ (.head _)
    · exact N' _ (.tail _ (.head _))
    · exact ⟨hx, (N _ (.tail _ (.tail _ (.head _)))).2⟩
    · exact ⟨hdx, (N _ (.tail _ (.tail _ (.tail _ (.head _))))).2⟩
    · exact N' _ (.tail _ (.tail _ (.head _)))
    · exact N' _ (.tail _ (.tail _ (.tail _ (.head _))))
end
section
variable {prog : Program} {w : World} {A : Around} {E : Value → Shared → Prop} {s : Shared} {env : Env} {test : PySem.Expr} {body orelse : List Stmt} {Q : Flow → Shared → Prop}
noncomputable def Turn (P : Prop) : Prop := P
theorem Turn.open {P : Prop} (h : P) : Turn P := h
noncomputable def LoopPost {σ : Type} (I : σ → Shared → Prop) (μ : σ → Nat) (c : σ) (Q : Flow → Shared → Prop) (f : Flow) (s' : Shared) : Prop := match f with
  | .next => ∃ c', μ c' < μ c ∧ I c' s'
  | .cont => ∃ c', μ c' < μ c ∧ I c' s'
  | .brk => Q .next s'
  | .ret v => Q (.ret v) s'
theorem while_mu {σ : Type} (I : σ → Shared → Prop) (μ : σ → Nat) {pos : Pos} (c₀ : σ) (hE : PassesOwn (model prog w) A env E) (start : I c₀ s)
    (turn : Turn (∀ c s, I c s → wpAny (model prog w) A (isTrue test env (eval test env)) (fun b s₂ => WhlIf b (wpAny (model prog w) A (execs body env) (LoopPost I μ c Q) E s₂) (wpAny (model prog w) A (execs orelse env) Q E s₂)) E s)) :
    wpAny (model prog w) A (exec (.While test body orelse pos) env) Q E s := by
  refine whl_start 0 ?_
  have all : ∀ n c s, μ c < n → I c s → WhlRest prog w A E env test body orelse Q 0 s := by
    intro n
    induction n with
    | zero => intro c s h _; exact absurd h (Nat.not_lt_zero _)
    | succ n ih =>
      intro c s h hI
      refine whl_turn (k := 0) hE (wpAny_mono (turn c s hI) (fun b s₂ hb => ?_) fun _ _ e => e)
      unfold WhlIf at hb ⊢
      split at hb
      · rename_i hb'
        rw [if_pos hb']
        refine wpAny_mono hb (fun f s' hf => ?_) fun _ _ e => e
        cases f with
        | next => obtain ⟨c', hc, hI'⟩ := hf; exact ih c' s' (by omega) hI'
        | cont => obtain ⟨c', hc, hI'⟩ := hf; exact ih c' s' (by omega) hI'
        | brk => exact hf
        | ret v => exact hf
      · rename_i hb'
        rw [if_neg hb']
        exact hb
  exact all _ c₀ s (Nat.lt_succ_self _) start
theorem while_once {pos : Pos} (hE : PassesOwn (model prog w) A env E) (h : wpAny (model prog w) A (isTrue test env (eval test env)) (fun b s₂ => b = false ∧ wpAny (model prog w) A (execs orelse env) Q E s₂) E s) :
    wpAny (model prog w) A (exec (.While test body orelse pos) env) Q E s := by
  refine whl_start 0 (whl_turn (k := 0) hE (wpAny_mono h (fun b s₂ hb => ?_) fun _ _ e => e))
  obtain ⟨rfl, hb⟩ := hb
  exact hb
end
end Mine
end T_Rd
section T_Mac4
namespace Mine
theorem in_lit {w : World} {A : Around} {E : Value → Shared → Prop} {s : Shared} {x y : Str} {t u : Tok} {Q : Value → Shared → Prop} (b : Bool) (e : (!(Builtin.Str.occurrences x y 0 x.length 1).isEmpty) = b) (h : Q (.bool b) s) : wpAny (model PR w) A (compareOp .In (.str y u) (.str x t)) Q E s :=
  PyProof.Rows.in_str (by rw [e]; exact h)
end Mine
end T_Mac4
section T_RtAll
theorem Mine.linesRtAll : True := by
  k_with_none
  k_with "omega" => (first | (k_whole; with_reducible assumption) | (law_clear; first | with_reducible assumption | decide +kernel | ((with_reducible show List.length (_ :: _) ≤ _); exact Nat.le_of_ble_eq_true (Eq.refl true)) | ((first | refine Mine.rm2 (by with_reducible assumption) ?_ | refine Mine.rm3 (by with_reducible assumption) ?_ | refine Mine.rm1 (by with_reducible assumption) ?_ | refine Mine.bd1 (by with_reducible assumption) ?_ | refine Mine.bd3 (by with_reducible assumption) ?_ | refine Mine.bd2 (by with_reducible assumption) ?_ | refine Mine.bd4 (by with_reducible assumption) ?_ | refine Mine.bd5 (by with_reducible assumption) ?_ | refine Mine.bd6 (by with_reducible assumption) ?_ | refine Mine.bd7 (by with_reducible assumption) ?_ | refine Mine.bd8 (by with_reducible assumption) ?_); exact Eq.refl true) | ((first | refine Mine.ci1 (by with_reducible assumption) ?_ | refine Mine.ci2 (by with_reducible assumption) ?_); decide) | exact Mine.rm0 (by with_reducible assumption) | exact Mine.lp1 (by with_reducible assumption) (by with_reducible assumption) | exact Mine.lp2 (by with_reducible assumption) (by with_reducible assumption) | exact Mine.lp3 (by with_reducible assumption) | lia))
  k_with "ite" => (first | (with_reducible refine PySem.W.ite_neg (by with_reducible assumption) ?_) | (with_reducible refine PySem.W.ite_pos (by with_reducible assumption) ?_))
  k_with "ite" => (k_closed; first | (with_reducible refine PySem.W.ite_neg (by decide +kernel) ?_) | (with_reducible refine PySem.W.ite_pos (by decide +kernel) ?_))
  k_with "getAttr ref" => (k_here; k_dflt (refine' PySem.W.get_own ?hzk1 ?hzk2 ?hzk3 ?hzk4 ?hzk5 ?hzk6 ?hzk7 ?hzk8 ?hzk9 ?_; (case hzk1 => k_asm); (case hzk2 => k_asm); (case hzk3 => k_inst); (case hzk8 => k_get); (case hzk4 => k_is); (case hzk5 => k_is); (case hzk6 => k_is); (case hzk7 => k_is); (case hzk9 => k_handed); k_whole))
  k_with "eval Name" => (k_here; (first | (with_reducible show wpAny _ _ (eval (PySem.Expr.Name _ _) (envOf _ _ _ _ _)) _ _ _) | (with_reducible show wpAny _ _ (eval (PySem.Expr.Name _ _) (envOfC _ _ _ _ _)) _ _ _)); name_kind "globalImplicit"; k_dflt (first | (refine' PySem.W.nameX_K ?hzF ?hzX ?hzT ?hze ?_ ?hza ?hzb ?hzd; (case hzF => k_asm); (case hzX => k_asm); (case hzT => k_asm); (case hze => k_is); (case hza => first | kernel_rfl | rfl); (case hzb => first | kernel_rfl | rfl); (case hzd => first | kernel_rfl | decide); k_whole) | (refine' PySem.W.nameX_B ?hzF ?hzX ?hzT ?hze ?hzv ?hzn ?_ ?hza ?hzb ?hzd; (case hzF => k_asm); (case hzX => k_asm); (case hzT => k_asm); (case hze => k_is); (case hzv => boot_fast); (case hzn => decide +kernel); (case hza => first | kernel_rfl | rfl); (case hzb => first | kernel_rfl | rfl); (case hzd => first | kernel_rfl | decide); k_whole)))
  k_with "eval Name" => (k_here; (first | (with_reducible show wpAny _ _ (eval (PySem.Expr.Name _ _) (envOf _ _ _ _ _)) _ _ _) | (with_reducible show wpAny _ _ (eval (PySem.Expr.Name _ _) (envOfC _ _ _ _ _)) _ _ _)); name_kind "local"; k_dflt (refine' PySem.W.nameX_L ?hzF ?hzv ?_ ?hza ?hzb ?hzd; (case hzF => k_asm); (case hzv => exact Eq.refl (some _)); (case hza => first | kernel_rfl | rfl); (case hzb => first | kernel_rfl | rfl); (case hzd => first | kernel_rfl | decide); k_whole))
  k_with "eval Name" => (k_here; (first | (with_reducible show wpAny _ _ (eval (PySem.Expr.Name _ _) (envOf _ _ _ _ _)) _ _ _) | (with_reducible show wpAny _ _ (eval (PySem.Expr.Name _ _) (envOfC _ _ _ _ _)) _ _ _)); name_kind "cell"; k_dflt (refine' PySem.W.nameX_C ?hzN ?hzc ?hzm ?hzd ?_ ?hza ?hzb ?hze; (case hzN => k_asm); (case hzc => exact Eq.refl (some _)); (case hzm => k_mem); (case hzd => k_asm); (case hza => first | kernel_rfl | rfl); (case hzb => first | kernel_rfl | rfl); (case hze => first | kernel_rfl | rfl); k_whole))
  k_with "eval Name" => (k_here; (with_reducible show wpAny _ _ (eval (PySem.Expr.Name _ _) (compEnvC _ _ _ _)) _ _ _); k_dflt (first | (refine' PySem.W.kcf_cell ?hzN ?hzc ?hzm ?hzd ?_ ?hza ?hzb ?hze; (case hzb => kernel_rfl); (case hzN => k_asm); (case hzc => exact Eq.refl (some _)); (case hzm => k_mem); (case hzd => k_asm); (case hza => first | kernel_rfl | rfl); (case hze => first | kernel_rfl | rfl); k_whole) | (refine' PySem.W.LCgL.ld_own ?hzN ?hzm ?hzd ?hzc ?_ ?hza ?hzb ?hze; (case hzb => kernel_rfl); (case hzN => k_asm); (case hzm => k_mem); (case hzd => assumption); (case hzc => assumption); (case hza => first | kernel_rfl | rfl); (case hze => first | kernel_rfl | rfl); k_whole)))
  k_with "execs cons" => (k_here; with_reducible refine Mine.gentoks ?_; intro _)
  k_with "execs nil" => (k_here; with_reducible refine Mine.gentoks ?_; intro _)
  k_with "execs cons" => (k_here; k_fold)
  k_with "execs cons" => (k_here; with_reducible refine Mine.foldB ?hzht ?_; (case hzht => ((fail_if_success (fail_if_success (rw [Mine.deepMark]))); k_dflt (exact trivial))); intro _)
  k_with "eval Call" => (k_here; k_fold)
  k_with "eval Subscript" => (k_here; k_fold)
  k_with "eval Compare" => (k_here; k_fold)
  k_with "eval BinOp" => (k_here; k_fold)
  k_with "subscriptTail Attribute" => (k_here; k_dflt (refine PySem.W.kba_turn (value' := PySem.Expr.Name (PySem.Str.ofString "_") ⟨0, 0, 0, 0⟩) (fun _ => rfl) ?_))
  k_with "k_room" => (first | ktr_room | ((simp +zetaDelta only [depth_under_make, depth_under_kw, depth_in1, depth_deeper, depth_caller]); ktr_room))
  k_with "call ref" => (k_here; (with_reducible show wpAny _ _ (call (Value.ref 611) _ _) _ _ _); k_dflt (refine wpAny_call ?_; refine' Mine.make_new (fN := 104) (fI := 381) ?hzk1 ?hzk2 ?hzk3 ?hzk4 ?hzk5 ?hzk6 ?hzk7 ?hzk8 ?hzk9 ?_; (case hzk1 => k_in); (case hzk2 => exact ⟨_, _, _, _, by k_is, rfl⟩); (case hzk3 => k_is); (case hzk4 => k_is); (case hzk5 => k_is); (case hzk6 => exact fun _ => by kernel_rfl); (case hzk7 => k_is); (case hzk8 => k_is); (case hzk9 => (intro _ _ _ hqZ; walk1; exact hqZ)); k_enter))
  k_with "call builtin:object.__new__" => (k_here; k_dflt (refine wpAny_call ?_; refine' Mine.new_own (C := 611) ?hzk1 ?hzk2 ?hzk3 ?hzk4 ?hzk5 ?hzk6 ?hzk7 ?hzk8 ?hzk9 ?_; (case hzk1 => k_asm); (case hzk2 => k_asm); (case hzk3 => k_in); (case hzk4 => exact ⟨_, _, _, _, by k_is, rfl, rfl⟩); (case hzk5 => k_is); (case hzk6 => k_is); (case hzk7 => k_is); (case hzk8 => exact fun _ => by kernel_rfl); (case hzk9 => exact fun _ => by kernel_rfl); intro _ _ _ _ _ l1Z l2Z; (try k_lt l1Z); (try k_lt2 l2Z); (try k_sweep); (try dsimp only)))
  k_with "NewBack" => (k_here; k_dflt (refine ⟨_, News.get (by k_asm) (by k_mem), by k_in, ?_⟩; (try dsimp only); k_enter))
  k_with "call type:collections.deque" => (k_here; k_dflt (refine' Mine.call_deque ?hzk1 ?hzk2 ?_; (case hzk1 => k_asm); (case hzk2 => k_asm); k_whole; intro _ _ _ _ l1Z; (try k_lt l1Z); (try k_sweep)))
  k_with "truthy ref" => (k_here; k_dflt (refine' Mine.truthy_deque ?hzk1 ?hzk2 ?_; (case hzk1 => k_asm); (case hzk2 => k_mem); k_whole; intro _))
  k_with "call ref" => (k_here; (with_reducible show wpAny _ _ (call (Value.ref 557) _) _ _ _); k_dflt (first | (refine' Mine.read_use _ ?hzk1 ?hzk2 ?hzk3 ?hzk4 ?hzk5 ?hzkK ?hzko ?hzks ?hzk7 ?hzk8 ?hzkc ?hzkd ?hzku ?_; (case hzk1 => k_asm); (case hzk2 => k_asm); (case hzk3 => k_asm); (case hzk4 => k_asm); (case hzk5 => k_asm); (case hzkK => exact rfl); (case hzko => assumption); (case hzks => assumption); (case hzkc => assumption); (case hzk7 => assumption); (case hzk8 => assumption); (case hzkd => ktr_room); (case hzku => ktr_units); k_whole; intro t'Z _ h'Z tk'Z F'Z N'Z hs'Z; (try dsimp only)) | (refine' Mine.read_eof_use ?hzk1 ?hzk2 ?hzk3 ?hzk4 ?hzk5 ?hzkK ?hzko ?hzks ?hzk7 ?hzk8 ?hzkd ?hzku ?_; (case hzk1 => k_asm); (case hzk2 => k_asm); (case hzk3 => k_asm); (case hzk4 => k_asm); (case hzk5 => k_asm); (case hzkK => exact rfl); (case hzko => assumption); (case hzks => assumption); (case hzk7 => assumption); (case hzk8 => assumption); (case hzkd => ktr_room); (case hzku => ktr_units); k_whole; intro t'Z h'Z tk'Z F'Z N'Z hs'Z; (try dsimp only))))
  k_with "compareOp In str str" => (k_here; first | refine Mine.in_lit false (by kernel_rfl!) ?_ | refine Mine.in_lit true (by kernel_rfl!) ?_)
  k_with "LoopPost" => ((with_reducible show Mine.LoopPost _ _ _ _ Flow.brk _); dsimp only [Mine.LoopPost])
  k_with "exec If" => (with_reducible refine wpAny_If ?_)
  k_with "k_put" => (first | (with_reducible exact Mine.lex_put_state) | (with_reducible exact Mine.lex_put_token))
  trivial
namespace Mine
/-- the reader's state: 0 between words, 1 in quotes, 2 in a word, 3 at the end -/
structure RS where
  st : Nat
  tok : Str
  qd : Bool
  pos : Nat
noncomputable def one (c : Nat) : Str := Str.mk #[c]
noncomputable def inq (c : Nat) : Bool := c == 32 || c == 120 || c == 35 || c == 126 || c == 92 || c == 38
noncomputable def inw (c : Nat) : Bool := c == 97 || c == 98
noncomputable def okL : Nat → List Nat → Bool
  | 0, [] => true
  | 0, c :: r => if c = 39 then okL 1 r else inw c && okL 2 r
  | 1, [] => false
  | 1, c :: r => if c = 39 then okL 2 r else inq c && okL 1 r
  | 2, [] => true
  | 2, c :: r => if c = 39 then okL 1 r else inw c && okL 2 r
  | _, _ => false
noncomputable def tokL : Nat → Str → List Nat → Str
  | 0, t, [] => t
  | 0, t, c :: r => if c = 39 then tokL 1 t r else tokL 2 (t ++ one c) r
  | 1, t, [] => t
  | 1, t, c :: r => if c = 39 then tokL 2 t r else tokL 1 (t ++ one c) r
  | 2, t, [] => t
  | 2, t, c :: r => if c = 39 then tokL 1 t r else tokL 2 (t ++ one c) r
  | _, t, _ => t
noncomputable def stStr : Nat → Str
  | 0 => Str.ofString " "
  | 1 => Str.ofString "'"
  | _ => Str.ofString "a"
noncomputable abbrev frOf {g : Heap} {L : Addr} {h : Heap} {m : Str → Option Value} (_ : Fr g L h m) : Str → Option Value := m
inductive RI (s₀ : Shared) (g : Heap) (L' : Addr) (m₀ : Str → Option Value) (p2 p1 x dx lex dl : Nat) (buf fin : Str) (c : RS) (s' : Shared) : Prop where
  | mk {h' : Heap} {tk : Nat} {u : Str → Option Value} {te ts : Tok} {od ol : Obj} (_ : s' = { s₀ with heap := h', toks := tk }) (_ : Fr g L' h' (fun y => if y = Str.ofString "nextchar" then u y else if y = Str.ofString "escapedstate" then some (.str (Str.ofString " ") te) else if y = Str.ofString "quoted" then some (.bool c.qd) else m₀ y)) (_ : News g L' h' (led6 p2 p1 x dx lex dl od ol)) (_ : IsStream od buf c.pos) (_ : IsLex ol x p1 p2 (.str (stStr c.st) ts) c.tok) (_ : c.pos ≤ buf.length) (_ : c.st < 3) (_ : okL c.st (buf.cps.toList.drop c.pos) = true) (_ : tokL c.st c.tok (buf.cps.toList.drop c.pos) = fin) (_ : c.tok.length ≤ c.pos) (_ : (c.st = 0 → c.pos = 0 ∧ c.tok = Str.ofString "" ∧ c.qd = false)) (_ : (c.st = 2 → c.qd = true ∨ c.tok ≠ Str.ofString "")) (_ : (c.st ≠ 0 → 0 < c.pos)) : RI s₀ g L' m₀ p2 p1 x dx lex dl buf fin c s'
theorem fr_start {g h : Heap} {L : Addr} {m₀ : Str → Option Value} {q : Bool} {te : Tok} (F : Fr g L h m₀) (h1 : m₀ (Str.ofString "escapedstate") = some (.str (Str.ofString " ") te)) (h2 : m₀ (Str.ofString "quoted") = some (.bool q)) :
    Fr g L h (fun y => if y = Str.ofString "nextchar" then m₀ y else if y = Str.ofString "escapedstate" then some (.str (Str.ofString " ") te) else if y = Str.ofString "quoted" then some (.bool q) else m₀ y) := by
  have e : (fun y => if y = Str.ofString "nextchar" then m₀ y else if y = Str.ofString "escapedstate" then some (.str (Str.ofString " ") te) else if y = Str.ofString "quoted" then some (.bool q) else m₀ y) = m₀ := by
    funext y
    by_cases a1 : y = Str.ofString "nextchar"
    · rw [if_pos a1]
    · rw [if_neg a1]
      by_cases a2 : y = Str.ofString "escapedstate"
      · rw [if_pos a2, a2, h1]
      · rw [if_neg a2]
        by_cases a3 : y = Str.ofString "quoted"
        · rw [if_pos a3, a3, h2]
        · rw [if_neg a3]
  rw [e]; exact F
theorem ch39 : Str.mk #[39] = Str.ofString "'" := by decide +kernel
theorem ch97 : Str.mk #[97] = Str.ofString "a" := by decide +kernel
theorem ch98 : Str.mk #[98] = Str.ofString "b" := by decide +kernel
theorem ch32 : Str.mk #[32] = Str.ofString " " := by decide +kernel
theorem ch120 : Str.mk #[120] = Str.ofString "x" := by decide +kernel
theorem ch35 : Str.mk #[35] = Str.ofString "#" := by decide +kernel
theorem ch126 : Str.mk #[126] = Str.ofString "~" := by decide +kernel
theorem ch92 : Str.mk #[92] = Str.ofString "\\" := by decide +kernel
theorem ch38 : Str.mk #[38] = Str.ofString "&" := by decide +kernel
theorem str_nil_app (x : Str) : Str.ofString "" ++ x = x := by
  have : Str.ofString "" = Str.mk #[] := by decide +kernel
  rw [this]
  apply Str.ext'
  rw [Str.cps_append]; simp
theorem app_ne_nil (x : Str) (c : Nat) : x ++ Str.mk #[c] ≠ Str.ofString "" := by
  intro h
  have := congrArg Str.length h
  rw [Str.length_append] at this
  have e : (Str.ofString "").length = 0 := by decide +kernel
  rw [e] at this
  have e2 : (Str.mk #[c]).length = 1 := rfl
  omega
theorem app_len (x : Str) (c : Nat) : (x ++ Str.mk #[c]).length = x.length + 1 := by rw [Str.length_append]; rfl
theorem RI.intro {s₀ : Shared} {g h' : Heap} {L' : Addr} {m₀ mK : Str → Option Value} {p2 p1 x dx lex dl : Nat} {buf fin tok : Str} {st pos : Nat} {qd : Bool} {tk : Nat} {te : Tok} {od ol : Obj}
    (F : Fr g L' h' mK) (N : News g L' h' (led6 p2 p1 x dx lex dl od ol)) (hs : IsStream od buf pos) (hl : ∃ ts, IsLex ol x p1 p2 (.str (stStr st) ts) tok)
    (h1 : mK (Str.ofString "escapedstate") = some (.str (Str.ofString " ") te)) (h2 : mK (Str.ofString "quoted") = some (.bool qd))
    (h3 : ∀ y, y ≠ Str.ofString "nextchar" → y ≠ Str.ofString "escapedstate" → y ≠ Str.ofString "quoted" → mK y = m₀ y)
    (hpos : pos ≤ buf.length) (hst : st < 3) (hok : okL st (buf.cps.toList.drop pos) = true) (hfin : tokL st tok (buf.cps.toList.drop pos) = fin) (htl : tok.length ≤ pos)
    (hz : st ≠ 0) (hp0 : 0 < pos) (hw : st = 2 → qd = true ∨ tok ≠ Str.ofString "") :
    RI s₀ g L' m₀ p2 p1 x dx lex dl buf fin ⟨st, tok, qd, pos⟩ { s₀ with heap := h', toks := tk } := by
  obtain ⟨ts, hl⟩ := hl
  refine RI.mk (u := mK) (te := te) (ts := ts) rfl ?_ N hs hl hpos hst hok hfin htl (fun q => absurd q hz) hw (fun _ => hp0)
  have e : (fun y => if y = Str.ofString "nextchar" then mK y else if y = Str.ofString "escapedstate" then some (.str (Str.ofString " ") te) else if y = Str.ofString "quoted" then some (.bool qd) else m₀ y) = mK := by
    funext y
    by_cases a1 : y = Str.ofString "nextchar"
    · rw [if_pos a1]
    · rw [if_neg a1]
      by_cases a2 : y = Str.ofString "escapedstate"
      · rw [if_pos a2, a2, h1]
      · rw [if_neg a2]
        by_cases a3 : y = Str.ofString "quoted"
        · rw [if_pos a3, a3, h2]
        · rw [if_neg a3, h3 y a1 a2 a3]
  rw [e]; exact F
theorem stS0 : stStr 0 = Str.ofString " " := rfl
theorem stS1 : stStr 1 = Str.ofString "'" := rfl
theorem stS2 : stStr 2 = Str.ofString "a" := rfl
theorem news_tl {g h : Heap} {L : Addr} {p : Addr × Obj} {l : List (Addr × Obj)} (N : News g L h (p :: l)) : News g L h l := fun q hq => N q (.tail _ hq)
theorem beq_no {x y : Str} (h : x ≠ y) : ¬ ((x == y) = true) := fun q => h (beq_iff_eq.mp q)
theorem pos_down {n p : Nat} (h : p < n) : n - (p + 1) < n - p := by omega
/-- what a call of read_token leaves -/
inductive RtPost (p2 p1 x dx lex dl : Nat) (buf : Str) (v : Value) (h' : Heap) (due : Value → Prop) : Prop where
  | mk od' ol' (_ : (∀ p ∈ led6 p2 p1 x dx lex dl od' ol', h'.get? p.1 = some p.2)) (_ : IsStream od' buf buf.length) (_ : IsLex ol' x p1 p2 .none (Str.ofString "")) (_ : due v) : RtPost p2 p1 x dx lex dl buf v h' due
theorem rt_post {g h' : Heap} {L : Addr} {p2 p1 x dx lex dl : Nat} {od' ol' : Obj} {buf : Str} {v : Value} {due : Value → Prop} (N : News g L h' (led6 p2 p1 x dx lex dl od' ol')) (hs : IsStream od' buf buf.length) (hl : IsLex ol' x p1 p2 .none (Str.ofString "")) (hd : due v) : RtPost p2 p1 x dx lex dl buf v h' due :=
  ⟨od', ol', fun p hp => (N p hp).1, hs, hl, hd⟩
/-- what the walk asks of a sign read in quotes -/
structure InQ (ch : Str) : Prop where
  n1 : ¬ ((ch == Str.ofString "\n") = true)
  n2 : ch.length = 1
  n3 : ¬ ((ch == Str.ofString "'") = true)
noncomputable def esc (ch : Str) (b : Bool) : Prop := (!(Builtin.Str.occurrences (Str.ofString "\\") ch 0 (Str.ofString "\\").length 1).isEmpty) = b
/-- what the walk asks of a sign read in a word -/
structure InW (ch : Str) : Prop where
  n1 : ¬ ((ch == Str.ofString "\n") = true)
  n2 : ch.length = 1
  w1 : (!(Builtin.Str.occurrences (Str.ofString " \t\r\n") ch 0 (Str.ofString " \t\r\n").length 1).isEmpty) = false
  w2 : (!(Builtin.Str.occurrences (Str.ofString "") ch 0 (Str.ofString "").length 1).isEmpty) = false
  w3 : (!(Builtin.Str.occurrences (Str.ofString "\\") ch 0 (Str.ofString "\\").length 1).isEmpty) = false
  w4 : (!(Builtin.Str.occurrences (Str.ofString "'\"") ch 0 (Str.ofString "'\"").length 1).isEmpty) = false
  w5 : (!(Builtin.Str.occurrences (Str.ofString "abcdfeghijklmnopqrstuvwxyzABCDEFGHIJKLMNOPQRSTUVWXYZ0123456789_ßàáâãäåæçèéêëìíîïðñòóôõöøùúûüýþÿÀÁÂÃÄÅÆÇÈÉÊËÌÍÎÏÐÑÒÓÔÕÖØÙÚÛÜÝÞ") ch 0 (Str.ofString "abcdfeghijklmnopqrstuvwxyzABCDEFGHIJKLMNOPQRSTUVWXYZ0123456789_ßàáâãäåæçèéêëìíîïðñòóôõöøùúûüýþÿÀÁÂÃÄÅÆÇÈÉÊËÌÍÎÏÐÑÒÓÔÕÖØÙÚÛÜÝÞ").length 1).isEmpty) = true
theorem inQ_of {c : Nat} (h : inq c = true) : InQ (Str.mk #[c]) ∧ (esc (Str.mk #[c]) false ∨ esc (Str.mk #[c]) true) := by
  obtain rfl | rfl | rfl | rfl | rfl | rfl : c = 32 ∨ c = 120 ∨ c = 35 ∨ c = 126 ∨ c = 92 ∨ c = 38 := by simpa [inq, or_assoc] using h
  all_goals refine ⟨⟨by decide +kernel, by decide +kernel, by decide +kernel⟩, ?_⟩
  all_goals first | exact .inl (by unfold esc; decide +kernel) | exact .inr (by unfold esc; decide +kernel)
theorem inW_of {c : Nat} (h : inw c = true) : InW (Str.mk #[c]) := by
  obtain rfl | rfl : c = 97 ∨ c = 98 := by simpa [inw] using h
  all_goals exact ⟨by decide +kernel, by decide +kernel, by decide +kernel, by decide +kernel, by decide +kernel, by decide +kernel, by decide +kernel⟩
theorem truthy_one {w : World} {A : Around} {E : Value → Shared → Prop} {s : Shared} {x : Str} {t : Tok} {Q : Bool → Shared → Prop} (e : x.length = 1) (h : Q true { s with toks := s.toks + 1 + 1 }) : wpAny (model PR w) A (truthy (.str x t)) Q E s :=
  PySem.P.truthy_str (by rw [e]; decide) (by rw [e]; exact h)
/-- what one reading gives: a sign, or nothing at the end -/
noncomputable def RD (buf : Str) (pos : Nat) (ch : Str) (pos' : Nat) : Prop :=
  (pos < buf.length ∧ Txt.slice buf (some (pos : Int)) (some ((pos : Int) + 1)) = ch ∧ pos' = pos + 1) ∨ (pos = buf.length ∧ ch = Str.ofString "" ∧ pos' = pos)
theorem read_any_use {w : World} {mean : ExcName → Option Value} {mg mb : Str → Option Value} {dp un : Nat} {gd : Option (List Code)} {cn : Str} {cs : Scope} {a : Addr} {ccd : Value} {cl : List (Str × Addr)} {outer : List Env} {A₀ : Around} {base h₀ : Heap} {L : Addr} {m : Str → Option Value} {s : Shared} {Q E : Value → Shared → Prop}
    {p2 p1 x dx lex dl : Nat} {od ol : Obj} {buf : Str} {pos pos' : Nat} {t1 : Tok} {ch : Str} (B : Below A₀ base outer h₀) (F : Fr h₀ L s.heap m) (X : (Mine.hd.heap_1_1 w.params).In h₀) (N : News h₀ L s.heap (led6 p2 p1 x dx lex dl od ol)) (T : Top VW LO mean mg mb h₀) (hk : cs.kind = .function)
    (ho : dl < lex ∧ lex < dx ∧ dx < x ∧ x < p1 ∧ p1 < p2) (hs : IsStream od buf pos) (hr : RD buf pos ch pos') (h2 : buf.length < 1000) (hd : dp + 4 < recursionLimit) (hu : un + 8 * 4 < cLine)
    (ret : ∀ (t : Tok) (od' : Obj) (h' : Heap) (tk' : Nat), Fr h₀ L h' m → News h₀ L h' (led6 p2 p1 x dx lex dl od' ol) → IsStream od' buf pos' → Q (.str ch t) { s with heap := h', toks := tk' }) :
    wpAny (model PR w) (ktrTop dp un gd cn cs L a ccd cl outer) (call (.ref 557) [.ref x, .int 1 t1]) Q E s := by
  rcases hr with ⟨h1, hc, rfl⟩ | ⟨h1, rfl, rfl⟩
  · exact read_use ch B F X N T hk ho hs h1 h2 hc hd hu ret
  · exact read_eof_use B F X N T hk ho hs h1 h2 hd hu fun t h' tk' F' N' hs' => ret t od h' tk' F' N' hs'
/-- the sign read, as the cases below want it -/
noncomputable def Info (buf : Str) (pos : Nat) (ch : Str) (pos' : Nat) : Prop :=
  (buf.cps.toList.drop pos = [] ∧ pos = buf.length ∧ ch = Str.ofString "" ∧ pos' = pos) ∨ (∃ c r, buf.cps.toList.drop pos = c :: r ∧ ch = Str.mk #[c] ∧ pos' = pos + 1 ∧ buf.cps.toList.drop (pos + 1) = r ∧ pos < buf.length)
theorem okL_in {st : Nat} {c : Nat} {r : List Nat} (hst : st < 3) (h : okL st (c :: r) = true) : c = 39 ∨ inq c = true ∨ inw c = true := by
  obtain rfl | rfl | rfl : st = 0 ∨ st = 1 ∨ st = 2 := by omega
  all_goals
    by_cases hc : c = 39
    · exact .inl hc
    · simp only [okL, if_neg hc, Bool.and_eq_true] at h
      first | exact .inr (.inr h.1) | exact .inr (.inl h.1)
theorem read_info {buf : Str} {pos st : Nat} (hpos : pos ≤ buf.length) (hst : st < 3) (hok : okL st (buf.cps.toList.drop pos) = true) : ∃ ch pos', RD buf pos ch pos' ∧ (¬ ((ch == Str.ofString "\n") = true)) ∧ Info buf pos ch pos' := by
  rcases e : buf.cps.toList.drop pos with _ | ⟨c, r⟩
  · have hpe : pos = buf.length := drop_nil hpos e
    exact ⟨_, _, .inr ⟨hpe, rfl, rfl⟩, by decide +kernel, .inl ⟨e, hpe, rfl, rfl⟩⟩
  · obtain ⟨hch, hlt, hdr⟩ := slice_one e
    rw [e] at hok
    refine ⟨_, _, .inl ⟨hlt, hch, rfl⟩, ?_, .inr ⟨c, r, e, rfl, rfl, hdr, hlt⟩⟩
    rcases okL_in hst hok with rfl | h | h
    · decide +kernel
    · exact (inQ_of h).1.n1
    · exact (inW_of h).n1
/-- what the class says of a plain letter of the lexer -/
noncomputable def LexAttr (w : World) (name : Str) : Prop := ∃ attr, plainGet (Mine.hd.heap_1_1 w.params) 746 name = true ∧ hasDictIn (Mine.hd.heap_1_1 w.params) 746 = true ∧ findIn (Mine.hd.heap_1_1 w.params) (.ref 746) name = some attr ∧ noGet (Mine.hd.heap_1_1 w.params) attr = true
theorem self_attr {w : World} {A : Around} {E : Value → Shared → Prop} {s : Shared} {h₀ : Heap} {L a : Addr} {m : Str → Option Value} {cn : Str} {cs : Scope} {ccd : Value} {cl : List (Str × Addr)} {name : Str} {np pos : Pos} {p2 p1 x dx lex dl : Nat} {od : Obj} {es : List DictEntry} {n : Nat} {v : Value} {Q : Value → Shared → Prop}
    (F : Fr h₀ L s.heap m) (X : (Mine.hd.heap_1_1 w.params).In h₀) (N : News h₀ L s.heap [((p2 : Nat), dequeObj [] 0), ((p1 : Nat), dequeObj [] 0), ((x : Nat), instObj 611 dx), ((dx : Nat), od), ((lex : Nat), instObj 746 dl), ((dl : Nat), dictOf es n)])
    (hv : m (Str.ofString "self") = some (.ref lex)) (hg : LexAttr w name) (hl : getL name es = some (some v)) (hh : handedIn v = true) (h : Q v { s with toks := s.toks + 1 })
    (hk : cs.kind = .function) (hx : (envX cn cs L a ccd cl).kindOf (Str.ofString "self") = some .local) :
    wpAny (model PR w) A (eval (PySem.Expr.Attribute (PySem.Expr.Name (Str.ofString "self") np) name pos) (envX cn cs L a ccd cl)) Q E s := by
  obtain ⟨attr, g1, g2, g3, g4⟩ := hg
  refine PyProof.Rows.Attribute_name ?_
  refine nameX_L F hv ?_ hk hx (by decide)
  exact get_own F X (InstAt.of_news N (.tail _ (.tail _ (.tail _ (.tail _ (.head _))))) (.tail _ (.tail _ (.tail _ (.tail _ (.tail _ (.head _))))))) g1 g2 g3 g4 hl hh h
theorem lexAttr_state {w : World} : LexAttr w (Str.ofString "state") := by
  exact ⟨_, by k_is, by k_is, by k_is, by k_is⟩
theorem lexAttr_instream {w : World} : LexAttr w (Str.ofString "instream") := by
  exact ⟨_, by k_is, by k_is, by k_is, by k_is⟩
theorem lexAttr_debug {w : World} : LexAttr w (Str.ofString "debug") := by
  exact ⟨_, by k_is, by k_is, by k_is, by k_is⟩
theorem lexAttr_commenters {w : World} : LexAttr w (Str.ofString "commenters") := by
  exact ⟨_, by k_is, by k_is, by k_is, by k_is⟩
theorem lexAttr_whitespace {w : World} : LexAttr w (Str.ofString "whitespace") := by
  exact ⟨_, by k_is, by k_is, by k_is, by k_is⟩
theorem lexAttr_whitespace_split {w : World} : LexAttr w (Str.ofString "whitespace_split") := by
  exact ⟨_, by k_is, by k_is, by k_is, by k_is⟩
theorem lexAttr_posix {w : World} : LexAttr w (Str.ofString "posix") := by
  exact ⟨_, by k_is, by k_is, by k_is, by k_is⟩
theorem lexAttr_quotes {w : World} : LexAttr w (Str.ofString "quotes") := by
  exact ⟨_, by k_is, by k_is, by k_is, by k_is⟩
theorem lexAttr_escape {w : World} : LexAttr w (Str.ofString "escape") := by
  exact ⟨_, by k_is, by k_is, by k_is, by k_is⟩
theorem lexAttr_escapedquotes {w : World} : LexAttr w (Str.ofString "escapedquotes") := by
  exact ⟨_, by k_is, by k_is, by k_is, by k_is⟩
theorem lexAttr_wordchars {w : World} : LexAttr w (Str.ofString "wordchars") := by
  exact ⟨_, by k_is, by k_is, by k_is, by k_is⟩
theorem lexAttr_token {w : World} : LexAttr w (Str.ofString "token") := by
  exact ⟨_, by k_is, by k_is, by k_is, by k_is⟩
noncomputable def Hold9 (P : Prop) : Prop := P
theorem Hold9.to {P : Prop} (h : Hold9 P) : P := h
theorem Hold9.of {P : Prop} (h : P) : Hold9 P := h
theorem ln1 : True := by
  k_with "eval Attribute Name" => (k_here; k_dflt (refine' Mine.self_attr ?hzk1 ?hzk2 ?hzk3 ?hzk4 ?hzk5 ?hzk6 ?hzk7 ?_ ?hzk8 ?hzk9; (case hzk1 => k_asm); (case hzk2 => k_asm); (case hzk3 => k_asm); (case hzk4 => rfl); (case hzk5 => first | with_reducible exact Mine.lexAttr_state | with_reducible exact Mine.lexAttr_instream | with_reducible exact Mine.lexAttr_debug | with_reducible exact Mine.lexAttr_commenters | with_reducible exact Mine.lexAttr_whitespace | with_reducible exact Mine.lexAttr_whitespace_split | with_reducible exact Mine.lexAttr_posix | with_reducible exact Mine.lexAttr_quotes | with_reducible exact Mine.lexAttr_escape | with_reducible exact Mine.lexAttr_escapedquotes | with_reducible exact Mine.lexAttr_wordchars | with_reducible exact Mine.lexAttr_token); (case hzk6 => k_get); (case hzk7 => k_handed); (case hzk8 => first | kernel_rfl | rfl); (case hzk9 => first | kernel_rfl | rfl); k_whole))
  trivial
theorem ln2 : True := by
  k_with "truthy str" => (with_reducible refine Mine.truthy_one (by with_reducible assumption) ?_)
  trivial
theorem ln3 : True := by
  k_with "compareOp In str str" => (k_here; first | (with_reducible refine Mine.in_lit false (by with_reducible assumption) ?_) | (with_reducible refine Mine.in_lit true (by with_reducible assumption) ?_))
  trivial
theorem ln4 : True := by
  k_with "call ref" => (k_here; (with_reducible show wpAny _ _ (call (Value.ref 557) _) _ _ _); k_dflt (refine' Mine.read_any_use ?hzk1 ?hzk2 ?hzk3 ?hzk4 ?hzk5 ?hzkK ?hzko ?hzks ?hzkr ?hzk8 ?hzkd ?hzku ?_; (case hzk1 => k_asm); (case hzk2 => k_asm); (case hzk3 => k_asm); (case hzk4 => k_asm); (case hzk5 => k_asm); (case hzkK => exact rfl); (case hzko => assumption); (case hzks => assumption); (case hzkr => assumption); (case hzk8 => assumption); (case hzkd => ktr_room); (case hzku => ktr_units); k_whole; intro _ _ _ _ _ _ _; (try dsimp only)))
  trivial
theorem ln5 : True := by
  k_with "exec If Compare" => (k_here; (with_reducible show wpAny _ _ (exec (Stmt.If (PySem.Expr.Compare (PySem.Expr.Attribute _ _ _) [PySem.CmpOp.Is] _ _) _ _ _) _) _ _ _); (with_reducible refine wpAny_If ?_); apply Mine.Hold9.to)
  trivial
set_option maxHeartbeats 8000000 in
theorem read_token_spec (w : World) (mg mb) (mean) (p2 p1 x dx lex dl : Nat) (od ol : Obj) (buf fin : Str) (t0 : Tok) (ho : dl < lex ∧ lex < dx ∧ dx < x ∧ x < p1 ∧ p1 < p2) (hs0 : IsStream od buf 0) (hl0 : IsLex ol x p1 p2 (.str (Str.ofString " ") t0) (Str.ofString "")) (hlen : buf.length < 1000)
    (hok : okL 0 buf.cps.toList = true) (hfin : tokL 0 (Str.ofString "") buf.cps.toList = fin) :
    Calls w mean mg mb 714 [.ref lex] 6 (led6 p2 p1 x dx lex dl od ol) (fun _ => True) (fun _ v h' => RtPost p2 p1 x dx lex dl buf v h' (fun v => (buf.cps.toList = [] → v = .none) ∧ (buf.cps.toList ≠ [] → ∃ t, v = .str fin t))) := by
  w_on
  intro dp un gd cn cs a ccd cl outer A₀ base h₀ L m s Q E B F X N T hk hd hu hpre hret
  refine wpAny_call ?_
  k_dflt (refine' Mine.enterC ?k1 ?k2 ?k3 ?k4 ?k5 ?kA ?kF ?kK ?k6 ?k7 ?k8 ?k9 ?kB ?_ ?c2 ?c3 ?c4 ?c5; (case kA => exact rfl); (case kF => exact rfl); (case kK => assumption); (case k1 => k_asm); (case k2 => k_asm); (case k3 => k_asm); (case k4 => k_asm); (case k5 => k_asm); (case k6 => k_is); (case k7 => k_is); (case k8 => ktr_room); (case k9 => first | exact BindsTo.of_eq rfl | exact binds_K (by k_in) rfl (by k_is) rfl rfl rfl | fail "enter_c: the arguments"); (case kB => exact locs rfl); (case c2 => decide); (case c3 => exact rfl); (case c4 => exact rfl); (case c5 => exact rfl); k_whole)
  intro g L' h₁ hgs hkeep hLs F' N' hlt B' X' T'
  try dsimp only
  try k_fold
  try (with_reducible refine Mine.gentoks ?_; intro _)
  try (with_reducible refine Mine.foldB ?hzt ?_; (case hzt => ((fail_if_success (fail_if_success (rw [Mine.deepMark]))); k_dflt (exact trivial))); intro _)
  clear hpre B F X N T
  k_with "exec While Constant cons nil" => (rename Fr _ _ _ _ => F9; refine while_mu (RI s g L' (frOf F9) p2 p1 x dx lex dl buf fin) (fun c => buf.length - c.pos) ⟨0, Str.ofString "", false, 0⟩ ?_ ?_ ?_; all_goals (try dsimp only [frOf]))
  k_steps
  · exact RI.mk rfl (fr_start (by assumption) rfl rfl) (by assumption) hs0 hl0 (Nat.zero_le _) (by decide) hok hfin (Nat.zero_le _) (fun _ => ⟨rfl, rfl, rfl⟩) ((fun q => nomatch q)) ((fun q => absurd rfl q))
  refine Turn.open ?_
  rintro ⟨st, tok, qd, pos⟩ s' @⟨h', tk, u, te, ts, od, ol, rfl, F, N, hs, hl, hpos, hst, hok, hfin, htl, hz, hw, hp0⟩
  dsimp only at *
  clear hl0 hs0
  have z1 := lex_ne1 ho
  have z2 := lex_ne2 ho
  have z3 := lex_ne3 ho
  have z4 := lex_ne4 ho
  have z5 := lex_ne5 ho
  obtain ⟨o1, o2, o3, o4, o5⟩ := id ho
  have htl0 : tok.length ≤ pos + 1 := Nat.le_succ_of_le htl
  have hs' := hs
  obtain ⟨e1, e2, e3, tb, tp, nl, rfl⟩ := hs
  (refine Mine.IsLex.open hl ?_; intro l9 t9 hq; subst hq)
  dsimp only [led6] at N
  obtain ⟨ch, pos', hrd, n1, hinfo⟩ := read_info hpos hst hok
  k_steps
  refine Hold9.of ?_
  rename IsStream _ _ pos' => hs9
  clear hs' hrd
  rename News _ _ _ _ => N9
  obtain rfl | rfl | rfl : st = 0 ∨ st = 1 ∨ st = 2 := by omega
  all_goals (simp only [stS0, stS1, stS2] at N9)
  · obtain ⟨rfl, rfl, rfl⟩ := hz rfl
    rcases hinfo with ⟨e, hpe, rfl, rfl⟩ | ⟨c, r, e, hce, rfl, hdr, hlt⟩
    · rw [List.drop_zero] at e
      k_steps
      exact hret _ _ _ (kept_of hkeep (by assumption)) (rt_post (by first | assumption | exact news_tl (by assumption)) (hpe ▸ ‹IsStream _ buf 0›) (by (exact Mine.IsLex.mk)) ⟨fun _ => rfl, fun q => absurd e q⟩)
    · rw [e] at hok hfin
      by_cases hc : c = 39
      · subst hc
        rw [ch39] at hce
        subst hce
        k_steps
        (
  refine ⟨⟨1, (Str.ofString ""), false, _⟩, pos_down (by assumption), RI.intro (by assumption) (by first | assumption | exact news_tl (by assumption)) (by assumption) ?hl rfl rfl ?h3 (by assumption) (by decide) ?ok ?fin ?tl (by decide) (Nat.succ_pos _) ?hw⟩
  (case hl => (exact ⟨_, Mine.IsLex.mk⟩))
  (case h3 => (intro y a1 a2 a3; simp only [if_neg a1, if_neg a2, if_neg a3])))
        (case ok => rw [hdr]; simpa [okL] using hok)
        (case fin => rw [hdr]; simpa [tokL] using hfin)
        (case tl => exact Nat.zero_le _)
        (case hw => intro q; cases q)
      · simp only [okL, if_neg hc, Bool.and_eq_true] at hok
        simp only [tokL, if_neg hc] at hfin
        obtain ⟨hcw, hok⟩ := hok
        obtain ⟨-, n2, w1, w2, w3, w4, w5⟩ := inW_of hcw
        have hnn := app_ne_nil (Str.ofString "") c
        have htl1 := app_len (Str.ofString "") c
        rw [str_nil_app] at hnn htl1
        rw [str_nil_app, show one c = Str.mk #[c] from rfl] at hfin
        rw [← hce] at *
        k_steps
        (
  refine ⟨⟨2, ch, false, _⟩, pos_down (by assumption), RI.intro (by assumption) (by first | assumption | exact news_tl (by assumption)) (by assumption) ?hl rfl rfl ?h3 (by assumption) (by decide) ?ok ?fin ?tl (by decide) (Nat.succ_pos _) ?hw⟩
  (case hl => (exact ⟨_, Mine.IsLex.mk⟩))
  (case h3 => (intro y a1 a2 a3; simp only [if_neg a1, if_neg a2, if_neg a3])))
        (case ok => rw [hdr]; exact hok)
        (case fin => rw [hdr]; exact hfin)
        (case tl => rw [htl1]; decide +kernel)
        (case hw => intro _; right; exact hnn)
  · rcases hinfo with ⟨e, hpe, rfl, rfl⟩ | ⟨c, r, e, hce, rfl, hdr, hlt⟩
    · rw [e] at hok; cases hok
    · rw [e] at hok hfin
      by_cases hc : c = 39
      · subst hc
        rw [ch39] at hce
        subst hce
        k_steps
        (
  refine ⟨⟨2, tok, true, _⟩, pos_down (by assumption), RI.intro (by assumption) (by first | assumption | exact news_tl (by assumption)) (by assumption) ?hl rfl rfl ?h3 (by assumption) (by decide) ?ok ?fin ?tl (by decide) (Nat.succ_pos _) ?hw⟩
  (case hl => (exact ⟨_, Mine.IsLex.mk⟩))
  (case h3 => (intro y a1 a2 a3; simp only [if_neg a1, if_neg a2, if_neg a3])))
        (case ok => rw [hdr]; simpa [okL] using hok)
        (case fin => rw [hdr]; simpa [tokL] using hfin)
        (case tl => exact htl0)
        (case hw => intro _; left; rfl)
      · simp only [okL, if_neg hc, Bool.and_eq_true] at hok
        simp only [tokL, if_neg hc] at hfin
        obtain ⟨hcw, hok⟩ := hok
        have htl1 := app_len tok c
        obtain ⟨⟨-, n2, n3⟩, hes⟩ := inQ_of hcw
        rw [show one c = Str.mk #[c] from rfl] at hfin
        rw [← hce] at *
        unfold esc at hes
        rcases hes with hes | hes
        · k_steps
          (
  refine ⟨⟨1, (tok ++ ch), true, _⟩, pos_down (by assumption), RI.intro (by assumption) (by first | assumption | exact news_tl (by assumption)) (by assumption) ?hl rfl rfl ?h3 (by assumption) (by decide) ?ok ?fin ?tl (by decide) (Nat.succ_pos _) ?hw⟩
  (case hl => (exact ⟨_, Mine.IsLex.mk⟩))
  (case h3 => (intro y a1 a2 a3; simp only [if_neg a1, if_neg a2, if_neg a3])))
          (case ok => rw [hdr]; exact hok)
          (case fin => rw [hdr]; exact hfin)
          (case tl => rw [htl1]; exact Nat.succ_le_succ htl)
          (case hw => intro q; cases q)
        · k_steps
          (
  refine ⟨⟨1, (tok ++ ch), true, _⟩, pos_down (by assumption), RI.intro (by assumption) (by first | assumption | exact news_tl (by assumption)) (by assumption) ?hl rfl rfl ?h3 (by assumption) (by decide) ?ok ?fin ?tl (by decide) (Nat.succ_pos _) ?hw⟩
  (case hl => (exact ⟨_, Mine.IsLex.mk⟩))
  (case h3 => (intro y a1 a2 a3; simp only [if_neg a1, if_neg a2, if_neg a3])))
          (case ok => rw [hdr]; exact hok)
          (case fin => rw [hdr]; exact hfin)
          (case tl => rw [htl1]; exact Nat.succ_le_succ htl)
          (case hw => intro q; cases q)
  · rcases hinfo with ⟨e, hpe, rfl, rfl⟩ | ⟨c, r, e, hce, rfl, hdr, hlt⟩
    · rw [e] at hfin
      have hfin : tok = fin := hfin
      subst hfin
      have hne : buf.cps.toList ≠ [] := fun q => by
        have h1 := hp0 (by decide)
        have h2 : buf.length = buf.cps.toList.length := by simp [Str.length]
        rw [q] at h2
        simp at h2
        omega
      cases qd
      · have hnt : tok ≠ Str.ofString "" := (hw rfl).resolve_left (by decide)
        have hnb := beq_no hnt
        k_steps
        all_goals exact hret _ _ _ (kept_of hkeep (by assumption)) (rt_post (by first | assumption | exact news_tl (by assumption)) (hpe ▸ hs9) (by (exact Mine.IsLex.mk)) ⟨fun q => absurd q hne, fun _ => ⟨_, rfl⟩⟩)
      · k_steps
        exact hret _ _ _ (kept_of hkeep (by assumption)) (rt_post (by first | assumption | exact news_tl (by assumption)) (hpe ▸ hs9) (by (exact Mine.IsLex.mk)) ⟨fun q => absurd q hne, fun _ => ⟨_, rfl⟩⟩)
    · rw [e] at hok hfin
      by_cases hc : c = 39
      · subst hc
        rw [ch39] at hce
        subst hce
        k_steps
        (
  refine ⟨⟨1, tok, qd, _⟩, pos_down (by assumption), RI.intro (by assumption) (by first | assumption | exact news_tl (by assumption)) (by assumption) ?hl rfl rfl ?h3 (by assumption) (by decide) ?ok ?fin ?tl (by decide) (Nat.succ_pos _) ?hw⟩
  (case hl => (exact ⟨_, Mine.IsLex.mk⟩))
  (case h3 => (intro y a1 a2 a3; simp only [if_neg a1, if_neg a2, if_neg a3])))
        (case ok => rw [hdr]; simpa [okL] using hok)
        (case fin => rw [hdr]; simpa [tokL] using hfin)
        (case tl => exact htl0)
        (case hw => intro q; cases q)
      · simp only [okL, if_neg hc, Bool.and_eq_true] at hok
        simp only [tokL, if_neg hc] at hfin
        obtain ⟨hcw, hok⟩ := hok
        have htl1 := app_len tok c
        have hnn := app_ne_nil tok c
        obtain ⟨-, n2, w1, w2, w3, w4, w5⟩ := inW_of hcw
        rw [show one c = Str.mk #[c] from rfl] at hfin
        rw [← hce] at *
        k_steps
        (
  refine ⟨⟨2, (tok ++ ch), qd, _⟩, pos_down (by assumption), RI.intro (by assumption) (by first | assumption | exact news_tl (by assumption)) (by assumption) ?hl rfl rfl ?h3 (by assumption) (by decide) ?ok ?fin ?tl (by decide) (Nat.succ_pos _) ?hw⟩
  (case hl => (exact ⟨_, Mine.IsLex.mk⟩))
  (case h3 => (intro y a1 a2 a3; simp only [if_neg a1, if_neg a2, if_neg a3])))
        (case ok => rw [hdr]; exact hok)
        (case fin => rw [hdr]; exact hfin)
        (case tl => rw [htl1]; exact Nat.succ_le_succ htl)
        (case hw => intro _; right; exact hnn)
end Mine
end T_RtAll
section T_Wk0
namespace Mine
/-- all is kept but «act»; the frames «fs» up to their slots -/
noncomputable def KeepW (act fs : List Addr) (h h' : Heap) : Prop :=
  (∀ b o, h.get? b = some o → b ∉ act → b ∉ fs → h'.get? b = some o) ∧ (∀ b o, h.get? b = some o → b ∈ fs → ∃ sl, h'.get? b = some { o with slots := sl })
theorem KeepW.of {act fs : List Addr} {h h' : Heap} (k : ∀ b o, h.get? b = some o → b ∉ act → h'.get? b = some o) (hfr : ∀ b o, h.get? b = some o → b ∈ fs → b ∉ act) : KeepW act fs h h' :=
  ⟨fun b o e n _ => k b o e n, fun b o e m => ⟨o.slots, k b o e (hfr b o e m)⟩⟩
noncomputable def FrOk (act fs : List Addr) (h : Heap) : Prop := ∀ b o, h.get? b = some o → b ∈ fs → b ∉ act ∧ ∀ vs, o.data ≠ .fields vs
section
variable {act news rest : List (Addr × Obj)} {outer : List Env} {A₀ : Around} {base h₀ : Heap} {L : Addr} {m : Str → Option Value} {h h' g g' : Heap} {fs : List Addr}
theorem fr_ok (B : Below A₀ base outer h₀) (F : Fr h₀ L h m) (N : News h₀ L h act) : FrOk (act.map (·.1)) (L :: outer.filterMap (·.frame)) h := by
  intro b o e hm
  rcases List.mem_cons.mp hm with rfl | hm
  · refine ⟨fun q => ?_, fun vs q => ?_⟩
    · obtain ⟨p, hp, he⟩ := List.mem_map.mp q
      exact (N p hp).2.1 he
    · obtain ⟨o', es, ep, ho, hd, _⟩ := F.ns
      rw [e] at ho; cases ho
      rw [hd] at q; cases q
  · obtain ⟨_, o', ho', hd⟩ := B.frames.mem hm
    have z := F.keep _ _ ho'
    rw [e] at z; cases z
    refine ⟨fun q => ?_, hd⟩
    obtain ⟨p, hp, rfl⟩ := List.mem_map.mp q
    rw [(N p hp).2.2] at ho'; cases ho'
theorem raised_keep {l : List Env} {e t : Addr} {cls : Value} {vs : List Value} {ac : List Addr} (hfr : FrOk ac fs h) (hkeep : ∀ b o, h.get? b = some o → b ∉ ac → g.get? b = some o) (R : RaisedS base g l e cls t vs news h') (hl : l.filterMap (·.frame) = fs) (U : g.UpToSlots h') : KeepW ac fs h h' := by
  obtain ⟨⟨B, hB, hBG, hn, hfl, _⟩, _⟩ := R
  refine ⟨fun b o e n1 n2 => hfl.1 _ _ (hBG b o (hkeep b o e n1) (by rw [hl]; exact n2)), fun b o e m => U b o (hkeep b o e (hfr b o e m).1) (hfr b o e m).2⟩
theorem raised_news {l : List Env} {e t : Addr} {cls : Value} {vs : List Value} (R : RaisedS base g l e cls t vs news h') : ∀ q ∈ news, h'.get? q.1 = some q.2 := by
  obtain ⟨⟨B, hB, hBG, hn, hfl, _⟩, _⟩ := R
  exact fun q hq => hfl.1 _ _ (hn q hq).1
theorem raised_there {l : List Env} {e t : Addr} {cls : Value} {vs : List Value} (R : RaisedS base g l e cls t vs news h') : ∃ o, h'.get? e = some o ∧ o.cls = cls := by
  obtain ⟨⟨B, hB, hBG, hn, hfl, _⟩, _⟩ := R
  exact hfl.there
/-- after such a call: the ground is laid anew -/
theorem turn_use (B : Below A₀ base outer h₀) (F : Fr h₀ L h m) (N : News h₀ L h news) {ac : List Addr} (K : KeepW ac (L :: outer.filterMap (·.frame)) h h') (hact : ∀ a ∈ ac, ∃ o, (a, o) ∈ news) (hrest : ∀ p ∈ rest, p ∈ news ∧ p.1 ∉ ac) :
    ∃ g', KtsTurn (outer.filterMap (·.frame)) h₀ g' ∧ Fr g' L h' m ∧ News g' L h' rest ∧ Below A₀ base outer g' := by
  have hna : ∀ b o, h₀.get? b = some o → b ∉ ac := fun b o e q => by
    obtain ⟨o', hm⟩ := hact b q
    have := (N _ hm).2.2
    rw [e] at this; cases this
  have hnL : ∀ b o, h₀.get? b = some o → b ≠ L := fun b o e q => by
    rw [q, kts_self F] at e; cases e
  obtain ⟨T, S⟩ := kts_turn_at (h := h') (fs := outer.filterMap (·.frame)) (g := h₀)
    (fun b hb => by
      obtain ⟨_, o, ho, _⟩ := B.frames.mem hb
      exact ⟨o, ho⟩)
    (fun b o e nm => K.1 b o (F.keep b o e) (hna b o e) (fun hm => by
      rcases List.mem_cons.mp hm with z | z
      · exact hnL b o e z
      · exact nm z))
    (fun b o e hm => K.2 b o (F.keep b o e) (List.mem_cons_of_mem _ hm))
  refine ⟨_, T, ⟨?_, S, by rw [T.size]; exact F.above⟩, ?_, ⟨B.stack, fun b o e => T.other b o (B.stays b o e) (fun hm => by
    rw [(B.frames.mem hm).1] at e
    cases e), B.frames.of_keeps fun b o e _ => ?_⟩⟩
  · obtain ⟨o, es, ep, ho, hd, r⟩ := F.ns
    obtain ⟨sl, hs⟩ := K.2 L o ho (.head _)
    exact ⟨_, es, ep, hs, hd, r⟩
  · intro p hp
    obtain ⟨hm, hn⟩ := hrest p hp
    refine ⟨K.1 _ _ (N p hm).1 hn (fun q => ?_), (N p hm).2.1, T.none_ _ (N p hm).2.2⟩
    rcases List.mem_cons.mp q with z | z
    · exact (N p hm).2.1 z
    · obtain ⟨_, o, ho, _⟩ := B.frames.mem z
      rw [(N p hm).2.2] at ho; cases ho
  · obtain ⟨sl, hs⟩ := T.up e
    exact ⟨_, hs, rfl⟩
/-- what a body ends with: from its own ground, turned -/
theorem keepW_of {ac : List Addr} {g₁ : Heap} {L' : Addr} {m' : Str → Option Value} (hfr : FrOk ac fs h) (hkeep : ∀ b o, h.get? b = some o → b ∉ ac → g.get? b = some o) (T : KtsTurn fs g g₁) (F : Fr g₁ L' h' m') : KeepW ac fs h h' :=
  ⟨fun b o e n1 n2 => F.keep _ _ (T.other _ _ (hkeep b o e n1) n2), fun b o e m => by
    obtain ⟨sl, hs⟩ := T.up (hkeep b o e (hfr b o e m).1)
    exact ⟨sl, F.keep _ _ hs⟩⟩
end
end Mine
end T_Wk0
section T_Wk
namespace Mine
/-- the contract of a call in which exceptions fly: the frames' slots may change -/
noncomputable def CallsW (w : World) (mean : ExcName → Option Value) (mg mb : Str → Option Value) (f : Addr) (args : List Value) (need : Nat) (act : List (Addr × Obj)) (pre : Heap → Prop) (post : Heap → Value → Heap → Prop) : Prop :=
  ∀ (dp un : Nat) (gd : Option (List Code)) (cn : Str) (cs : Scope) (a : Addr) (ccd : Value) (cl : List (Str × Addr)) (outer : List Env) (A₀ : Around) (base h₀ : Heap) (L : Addr) (m : Str → Option Value) (s : Shared) (Q E : Value → Shared → Prop),
    Below A₀ base outer h₀ → Fr h₀ L s.heap m → (Mine.hd.heap_1_1 w.params).In base → News h₀ L s.heap act → Top VW LO mean mg mb base → cs.kind = .function → dp + need < recursionLimit → un + 8 * need < cLine → pre s.heap →
    (∀ (v : Value) (h' : Heap) (tk' : Nat), KeepW (act.map (·.1)) (L :: outer.filterMap (·.frame)) s.heap h' → post s.heap v h' → Q v { s with heap := h', toks := tk' }) →
    wpAny (model PR w) (ktrTop dp un gd cn cs L a ccd cl outer) (call (.ref f) args) Q E s
/-- a call that ends by StopIteration -/
noncomputable def CallsStop (w : World) (mean : ExcName → Option Value) (mg mb : Str → Option Value) (f : Addr) (args : List Value) (need : Nat) (act : List (Addr × Obj)) (post : Heap → Prop) : Prop :=
  ∀ (dp un : Nat) (gd : Option (List Code)) (cn : Str) (cs : Scope) (a : Addr) (ccd : Value) (cl : List (Str × Addr)) (outer : List Env) (A₀ : Around) (base h₀ : Heap) (L : Addr) (m : Str → Option Value) (s : Shared) (Q E : Value → Shared → Prop),
    Below A₀ base outer h₀ → Fr h₀ L s.heap m → (Mine.hd.heap_1_1 w.params).In h₀ → News h₀ L s.heap act → Top VW LO mean mg mb h₀ → cs.kind = .function → dp + need < recursionLimit → un + 8 * need < cLine →
    (∀ (e : Addr) (h' : Heap) (tk' : Nat), KeepW (act.map (·.1)) (L :: outer.filterMap (·.frame)) s.heap h' → (∃ o, h'.get? e = some o ∧ o.cls = .type "StopIteration") → post h' → E (.ref e) { s with heap := h', toks := tk' }) →
    wpAny (model PR w) (ktrTop dp un gd cn cs L a ccd cl outer) (call (.ref f) args) Q E s
section
variable {w : World} {mean : ExcName → Option Value} {mg mb : Str → Option Value} {f : Addr} {args : List Value} {need : Nat} {act news rest : List (Addr × Obj)} {pre : Heap → Prop} {post : Heap → Value → Heap → Prop}
    {dp un : Nat} {gd : Option (List Code)} {cn : Str} {cs : Scope} {a : Addr} {ccd : Value} {cl : List (Str × Addr)} {outer : List Env} {A₀ : Around} {base h₀ gT : Heap} {L : Addr} {m : Str → Option Value} {s : Shared} {Q E : Value → Shared → Prop}
theorem callsW_use (B : Below A₀ base outer h₀) (F : Fr h₀ L s.heap m) (XB : (Mine.hd.heap_1_1 w.params).In base) (N : News h₀ L s.heap news) (TB : Top VW LO mean mg mb base) (T0 : KtsTurn (outer.filterMap (·.frame)) gT h₀) (hk : cs.kind = .function)
    (C : CallsW w mean mg mb f args need act pre post)
    (hact : ∀ p ∈ act, p ∈ news) (hrest : ∀ p ∈ rest, p ∈ news ∧ p.1 ∉ act.map (·.1)) (hd : dp + need < recursionLimit) (hu : un + 8 * need < cLine) (hp : pre s.heap)
    (ret : ∀ (v : Value) (h' : Heap) (tk' : Nat) (g' : Heap), KtsTurn (outer.filterMap (·.frame)) gT g' → Fr g' L h' m → News g' L h' rest → Below A₀ base outer g' → (Mine.hd.heap_1_1 w.params).In g' → Top VW LO mean mg mb g' → KeepW (act.map (·.1)) (L :: outer.filterMap (·.frame)) s.heap h' → post s.heap v h' → Q v { s with heap := h', toks := tk' }) :
    wpAny (model PR w) (ktrTop dp un gd cn cs L a ccd cl outer) (call (.ref f) args) Q E s := by
  refine C _ _ _ _ _ _ _ _ _ _ _ _ _ _ _ _ _ B F XB (fun p hp => N p (hact p hp)) TB hk hd hu hp fun v h' tk' hkeep hpost => ?_
  obtain ⟨g', T, F', N', B'⟩ := turn_use B F N hkeep (fun a ha => by
    obtain ⟨p, hp, rfl⟩ := List.mem_map.mp ha
    exact ⟨p.2, hact p hp⟩) hrest
  exact ret v h' tk' g' (T0.trans T) F' N' B' (XB.keeps B'.stays) (TB.keeps B'.stays) hkeep hpost
end
end Mine
end T_Wk
section T_Gt
theorem Mine.linesGt : True := by
  k_with_none
  k_with "omega" => (first | (k_whole; with_reducible assumption) | (law_clear; first | with_reducible assumption | decide +kernel | ((with_reducible show List.length (_ :: _) ≤ _); exact Nat.le_of_ble_eq_true (Eq.refl true)) | ((first | refine Mine.rm2 (by with_reducible assumption) ?_ | refine Mine.rm3 (by with_reducible assumption) ?_ | refine Mine.rm1 (by with_reducible assumption) ?_ | refine Mine.bd1 (by with_reducible assumption) ?_ | refine Mine.bd3 (by with_reducible assumption) ?_ | refine Mine.bd2 (by with_reducible assumption) ?_ | refine Mine.bd4 (by with_reducible assumption) ?_ | refine Mine.bd5 (by with_reducible assumption) ?_ | refine Mine.bd6 (by with_reducible assumption) ?_ | refine Mine.bd7 (by with_reducible assumption) ?_ | refine Mine.bd8 (by with_reducible assumption) ?_); exact Eq.refl true) | ((first | refine Mine.ci1 (by with_reducible assumption) ?_ | refine Mine.ci2 (by with_reducible assumption) ?_); decide) | exact Mine.rm0 (by with_reducible assumption) | exact Mine.lp1 (by with_reducible assumption) (by with_reducible assumption) | exact Mine.lp2 (by with_reducible assumption) (by with_reducible assumption) | exact Mine.lp3 (by with_reducible assumption) | lia))
  k_with "ite" => (first | (with_reducible refine PySem.W.ite_neg (by with_reducible assumption) ?_) | (with_reducible refine PySem.W.ite_pos (by with_reducible assumption) ?_))
  k_with "ite" => (k_closed; first | (with_reducible refine PySem.W.ite_neg (by decide +kernel) ?_) | (with_reducible refine PySem.W.ite_pos (by decide +kernel) ?_))
  k_with "getAttr ref" => (k_here; k_dflt (refine' PySem.W.get_own ?hzk1 ?hzk2 ?hzk3 ?hzk4 ?hzk5 ?hzk6 ?hzk7 ?hzk8 ?hzk9 ?_; (case hzk1 => k_asm); (case hzk2 => k_asm); (case hzk3 => k_inst); (case hzk8 => k_get); (case hzk4 => k_is); (case hzk5 => k_is); (case hzk6 => k_is); (case hzk7 => k_is); (case hzk9 => k_handed); k_whole))
  k_with "eval Name" => (k_here; (first | (with_reducible show wpAny _ _ (eval (PySem.Expr.Name _ _) (envOf _ _ _ _ _)) _ _ _) | (with_reducible show wpAny _ _ (eval (PySem.Expr.Name _ _) (envOfC _ _ _ _ _)) _ _ _)); name_kind "globalImplicit"; k_dflt (first | (refine' PySem.W.nameX_K ?hzF ?hzX ?hzT ?hze ?_ ?hza ?hzb ?hzd; (case hzF => k_asm); (case hzX => k_asm); (case hzT => k_asm); (case hze => k_is); (case hza => first | kernel_rfl | rfl); (case hzb => first | kernel_rfl | rfl); (case hzd => first | kernel_rfl | decide); k_whole) | (refine' PySem.W.nameX_B ?hzF ?hzX ?hzT ?hze ?hzv ?hzn ?_ ?hza ?hzb ?hzd; (case hzF => k_asm); (case hzX => k_asm); (case hzT => k_asm); (case hze => k_is); (case hzv => boot_fast); (case hzn => decide +kernel); (case hza => first | kernel_rfl | rfl); (case hzb => first | kernel_rfl | rfl); (case hzd => first | kernel_rfl | decide); k_whole)))
  k_with "eval Name" => (k_here; (first | (with_reducible show wpAny _ _ (eval (PySem.Expr.Name _ _) (envOf _ _ _ _ _)) _ _ _) | (with_reducible show wpAny _ _ (eval (PySem.Expr.Name _ _) (envOfC _ _ _ _ _)) _ _ _)); name_kind "local"; k_dflt (refine' PySem.W.nameX_L ?hzF ?hzv ?_ ?hza ?hzb ?hzd; (case hzF => k_asm); (case hzv => exact Eq.refl (some _)); (case hza => first | kernel_rfl | rfl); (case hzb => first | kernel_rfl | rfl); (case hzd => first | kernel_rfl | decide); k_whole))
  k_with "eval Name" => (k_here; (first | (with_reducible show wpAny _ _ (eval (PySem.Expr.Name _ _) (envOf _ _ _ _ _)) _ _ _) | (with_reducible show wpAny _ _ (eval (PySem.Expr.Name _ _) (envOfC _ _ _ _ _)) _ _ _)); name_kind "cell"; k_dflt (refine' PySem.W.nameX_C ?hzN ?hzc ?hzm ?hzd ?_ ?hza ?hzb ?hze; (case hzN => k_asm); (case hzc => exact Eq.refl (some _)); (case hzm => k_mem); (case hzd => k_asm); (case hza => first | kernel_rfl | rfl); (case hzb => first | kernel_rfl | rfl); (case hze => first | kernel_rfl | rfl); k_whole))
  k_with "eval Name" => (k_here; (with_reducible show wpAny _ _ (eval (PySem.Expr.Name _ _) (compEnvC _ _ _ _)) _ _ _); k_dflt (first | (refine' PySem.W.kcf_cell ?hzN ?hzc ?hzm ?hzd ?_ ?hza ?hzb ?hze; (case hzb => kernel_rfl); (case hzN => k_asm); (case hzc => exact Eq.refl (some _)); (case hzm => k_mem); (case hzd => k_asm); (case hza => first | kernel_rfl | rfl); (case hze => first | kernel_rfl | rfl); k_whole) | (refine' PySem.W.LCgL.ld_own ?hzN ?hzm ?hzd ?hzc ?_ ?hza ?hzb ?hze; (case hzb => kernel_rfl); (case hzN => k_asm); (case hzm => k_mem); (case hzd => assumption); (case hzc => assumption); (case hza => first | kernel_rfl | rfl); (case hze => first | kernel_rfl | rfl); k_whole)))
  k_with "execs cons" => (k_here; with_reducible refine Mine.gentoks ?_; intro _)
  k_with "execs nil" => (k_here; with_reducible refine Mine.gentoks ?_; intro _)
  k_with "execs cons" => (k_here; k_fold)
  k_with "execs cons" => (k_here; with_reducible refine Mine.foldB ?hzht ?_; (case hzht => ((fail_if_success (fail_if_success (rw [Mine.deepMark]))); k_dflt (exact trivial))); intro _)
  k_with "eval Call" => (k_here; k_fold)
  k_with "eval Subscript" => (k_here; k_fold)
  k_with "eval Compare" => (k_here; k_fold)
  k_with "eval BinOp" => (k_here; k_fold)
  k_with "subscriptTail Attribute" => (k_here; k_dflt (refine PySem.W.kba_turn (value' := PySem.Expr.Name (PySem.Str.ofString "_") ⟨0, 0, 0, 0⟩) (fun _ => rfl) ?_))
  k_with "k_room" => (first | ktr_room | ((simp +zetaDelta only [depth_under_make, depth_under_kw, depth_in1, depth_deeper, depth_caller]); ktr_room))
  k_with "call ref" => (k_here; (with_reducible show wpAny _ _ (call (Value.ref 611) _ _) _ _ _); k_dflt (refine wpAny_call ?_; refine' Mine.make_new (fN := 104) (fI := 381) ?hzk1 ?hzk2 ?hzk3 ?hzk4 ?hzk5 ?hzk6 ?hzk7 ?hzk8 ?hzk9 ?_; (case hzk1 => k_in); (case hzk2 => exact ⟨_, _, _, _, by k_is, rfl⟩); (case hzk3 => k_is); (case hzk4 => k_is); (case hzk5 => k_is); (case hzk6 => exact fun _ => by kernel_rfl); (case hzk7 => k_is); (case hzk8 => k_is); (case hzk9 => (intro _ _ _ hqZ; walk1; exact hqZ)); k_enter))
  k_with "call builtin:object.__new__" => (k_here; k_dflt (refine wpAny_call ?_; refine' Mine.new_own (C := 611) ?hzk1 ?hzk2 ?hzk3 ?hzk4 ?hzk5 ?hzk6 ?hzk7 ?hzk8 ?hzk9 ?_; (case hzk1 => k_asm); (case hzk2 => k_asm); (case hzk3 => k_in); (case hzk4 => exact ⟨_, _, _, _, by k_is, rfl, rfl⟩); (case hzk5 => k_is); (case hzk6 => k_is); (case hzk7 => k_is); (case hzk8 => exact fun _ => by kernel_rfl); (case hzk9 => exact fun _ => by kernel_rfl); intro _ _ _ _ _ l1Z l2Z; (try k_lt l1Z); (try k_lt2 l2Z); (try k_sweep); (try dsimp only)))
  k_with "NewBack" => (k_here; k_dflt (refine ⟨_, News.get (by k_asm) (by k_mem), by k_in, ?_⟩; (try dsimp only); k_enter))
  k_with "call type:collections.deque" => (k_here; k_dflt (refine' Mine.call_deque ?hzk1 ?hzk2 ?_; (case hzk1 => k_asm); (case hzk2 => k_asm); k_whole; intro _ _ _ _ l1Z; (try k_lt l1Z); (try k_sweep)))
  k_with "truthy ref" => (k_here; k_dflt (refine' Mine.truthy_deque ?hzk1 ?hzk2 ?_; (case hzk1 => k_asm); (case hzk2 => k_mem); k_whole; intro _))
  k_with "call ref" => (k_here; (with_reducible show wpAny _ _ (call (Value.ref 557) _) _ _ _); k_dflt (first | (refine' Mine.read_use _ ?hzk1 ?hzk2 ?hzk3 ?hzk4 ?hzk5 ?hzkK ?hzko ?hzks ?hzk7 ?hzk8 ?hzkc ?hzkd ?hzku ?_; (case hzk1 => k_asm); (case hzk2 => k_asm); (case hzk3 => k_asm); (case hzk4 => k_asm); (case hzk5 => k_asm); (case hzkK => exact rfl); (case hzko => assumption); (case hzks => assumption); (case hzkc => assumption); (case hzk7 => assumption); (case hzk8 => assumption); (case hzkd => ktr_room); (case hzku => ktr_units); k_whole; intro t'Z _ h'Z tk'Z F'Z N'Z hs'Z; (try dsimp only)) | (refine' Mine.read_eof_use ?hzk1 ?hzk2 ?hzk3 ?hzk4 ?hzk5 ?hzkK ?hzko ?hzks ?hzk7 ?hzk8 ?hzkd ?hzku ?_; (case hzk1 => k_asm); (case hzk2 => k_asm); (case hzk3 => k_asm); (case hzk4 => k_asm); (case hzk5 => k_asm); (case hzkK => exact rfl); (case hzko => assumption); (case hzks => assumption); (case hzk7 => assumption); (case hzk8 => assumption); (case hzkd => ktr_room); (case hzku => ktr_units); k_whole; intro t'Z h'Z tk'Z F'Z N'Z hs'Z; (try dsimp only))))
  k_with "compareOp In str str" => (k_here; first | refine Mine.in_lit false (by kernel_rfl!) ?_ | refine Mine.in_lit true (by kernel_rfl!) ?_)
  k_with "LoopPost" => ((with_reducible show Mine.LoopPost _ _ _ _ Flow.brk _); dsimp only [Mine.LoopPost])
  k_with "exec If" => (with_reducible refine wpAny_If ?_)
  k_with "k_put" => (first | (with_reducible exact Mine.lex_put_state) | (with_reducible exact Mine.lex_put_token))
  k_with "call ref" => (k_here; (with_reducible show wpAny _ _ (call (Value.ref 714) _) _ _ _); k_dflt ( (refine' Mine.rt_use ?hzk1 ?hzk2 ?hzk3 ?hzk4 ?hzk5 ?hzkK ?hzkC ?hzkd ?hzku ?_; (case hzk1 => k_asm); (case hzk2 => k_asm); (case hzk3 => k_asm); (case hzk4 => k_asm); (case hzk5 => k_asm); (case hzkK => exact rfl); (case hzkC => assumption); (case hzkd => ktr_room); (case hzku => ktr_units); k_whole; intro _ _ _ _ _ _ N'Z _ hl'Z hd'Z; (first | subst hd'Z | (obtain ⟨_, hv'Z⟩ := hd'Z; subst hv'Z)); (try dsimp only); (refine Mine.IsLex.open hl'Z ?_; intro _ _ hqZ; subst hqZ); dsimp only [Mine.led6] at N'Z)))
  trivial
namespace Mine
theorem Calls.mono {w : World} {mean : ExcName → Option Value} {mg mb : Str → Option Value} {f : Addr} {args : List Value} {need : Nat} {act : List (Addr × Obj)} {pre : Heap → Prop} {post post' : Heap → Value → Heap → Prop}
    (C : Calls w mean mg mb f args need act pre post) (h : ∀ a v b, post a v b → post' a v b) : Calls w mean mg mb f args need act pre post' :=
  fun _ _ _ _ _ _ _ _ _ _ _ _ _ _ _ _ _ B F X N T hk hd hu hp ret => C _ _ _ _ _ _ _ _ _ _ _ _ _ _ _ _ _ B F X N T hk hd hu hp fun v h' tk' q r => ret v h' tk' q (h _ _ _ r)
section
variable {w : World} {mean : ExcName → Option Value} {mg mb : Str → Option Value} {dp un : Nat} {gd : Option (List Code)} {cn : Str} {cs : Scope} {a : Addr} {ccd : Value} {cl : List (Str × Addr)} {outer : List Env} {A₀ : Around} {base h₀ : Heap} {L : Addr} {m : Str → Option Value} {s : Shared} {Q E : Value → Shared → Prop}
  {p2 p1 x dx lex dl : Nat} {od ol : Obj} {buf : Str} {f : Addr} {need : Nat} {args : List Value} {due : Value → Prop}
theorem news6 {h' : Heap} {od' ol' : Obj} (N : News h₀ L s.heap (led6 p2 p1 x dx lex dl od ol)) (h : ∀ p ∈ led6 p2 p1 x dx lex dl od' ol', h'.get? p.1 = some p.2) : News h₀ L h' (led6 p2 p1 x dx lex dl od' ol') := by
  intro p hp
  refine ⟨h p hp, ?_⟩
  simp only [List.mem_cons, List.not_mem_nil, or_false] at hp
  rcases hp with rfl | rfl | rfl | rfl | rfl | rfl
  · exact (N _ (.head _)).2
  · exact (N _ (.tail _ (.head _))).2
  · exact (N _ (.tail _ (.tail _ (.head _)))).2
  · exact (N _ (.tail _ (.tail _ (.tail _ (.head _))))).2
  · exact (N _ (.tail _ (.tail _ (.tail _ (.tail _ (.head _)))))).2
  · exact (N _ (.tail _ (.tail _ (.tail _ (.tail _ (.tail _ (.head _))))))).2
theorem rt_use (B : Below A₀ base outer h₀) (F : Fr h₀ L s.heap m) (X : (Mine.hd.heap_1_1 w.params).In h₀) (N : News h₀ L s.heap (led6 p2 p1 x dx lex dl od ol)) (T : Top VW LO mean mg mb h₀) (hk : cs.kind = .function)
    (C : Calls w mean mg mb f args need (led6 p2 p1 x dx lex dl od ol) (fun _ => True) (fun _ v h' => RtPost p2 p1 x dx lex dl buf v h' due)) (hd : dp + need < recursionLimit) (hu : un + 8 * need < cLine)
    (ret : ∀ (v : Value) (od' ol' : Obj) (h' : Heap) (tk' : Nat), Fr h₀ L h' m → News h₀ L h' (led6 p2 p1 x dx lex dl od' ol') → IsStream od' buf buf.length → IsLex ol' x p1 p2 .none (Str.ofString "") → due v → Q v { s with heap := h', toks := tk' }) :
    wpAny (model PR w) (ktrTop dp un gd cn cs L a ccd cl outer) (call (.ref f) args) Q E s := by
  refine calls_use (rest := []) B F X N T hk C (fun _ h => h) (fun _ h => nomatch h) hd hu trivial ?_
  rintro v h' tk' F' - - ⟨od', ol', hg, hs, hl, hd⟩
  exact ret v od' ol' h' tk' F' (news6 N hg) hs hl hd
end
end Mine
namespace Mine
set_option maxHeartbeats 8000000 in
theorem read_token_none (w : World) (mg mb) (mean) (p2 p1 x dx lex dl : Nat) (od ol : Obj) (buf : Str) (ho : dl < lex ∧ lex < dx ∧ dx < x ∧ x < p1 ∧ p1 < p2) (hs0 : IsStream od buf buf.length) (hl0 : IsLex ol x p1 p2 .none (Str.ofString "")) (hlen : buf.length < 1000) :
    Calls w mean mg mb 714 [.ref lex] 6 (led6 p2 p1 x dx lex dl od ol) (fun _ => True) (fun _ v h' => RtPost p2 p1 x dx lex dl buf v h' (fun v => v = .none)) := by
  w_on
  intro dp un gd cn cs a ccd cl outer A₀ base h₀ L m s Q E B F X N T hk hd hu hpre hret
  refine wpAny_call ?_
  k_dflt (refine' Mine.enterC ?k1 ?k2 ?k3 ?k4 ?k5 ?kA ?kF ?kK ?k6 ?k7 ?k8 ?k9 ?kB ?_ ?c2 ?c3 ?c4 ?c5; (case kA => exact rfl); (case kF => exact rfl); (case kK => assumption); (case k1 => k_asm); (case k2 => k_asm); (case k3 => k_asm); (case k4 => k_asm); (case k5 => k_asm); (case k6 => k_is); (case k7 => k_is); (case k8 => ktr_room); (case k9 => first | exact BindsTo.of_eq rfl | exact binds_K (by k_in) rfl (by k_is) rfl rfl rfl | fail "enter_c: the arguments"); (case kB => exact locs rfl); (case c2 => decide); (case c3 => exact rfl); (case c4 => exact rfl); (case c5 => exact rfl); k_whole)
  intro g L' h₁ hgs hkeep hLs F' N' hlt B' X' T'
  try dsimp only
  try k_fold
  try (with_reducible refine Mine.gentoks ?_; intro _)
  try (with_reducible refine Mine.foldB ?hzt ?_; (case hzt => ((fail_if_success (fail_if_success (rw [Mine.deepMark]))); k_dflt (exact trivial))); intro _)
  clear hpre B F X N T
  have hpe : buf.length = buf.length := rfl
  obtain ⟨o1, o2, o3, o4, o5⟩ := id ho
  have hs' := hs0
  obtain ⟨e1, e2, e3, tb, tp, nl, rfl⟩ := hs0
  (refine Mine.IsLex.open hl0 ?_; intro l9 t9 hq; subst hq)
  dsimp only [led6] at N'
  k_steps
  exact hret _ _ _ (kept_of hkeep (by assumption)) (rt_post (by first | assumption | exact news_tl (by assumption)) (by assumption) (by (exact Mine.IsLex.mk)) rfl)
set_option maxHeartbeats 8000000 in
theorem iter_spec (w : World) (mg mb) (mean) (lex : Nat) : Calls w mean mg mb 736 [.ref lex] 2 [] (fun _ => True) (fun _ v _ => v = .ref lex) := by
  w_on
  intro dp un gd cn cs a ccd cl outer A₀ base h₀ L m s Q E B F X N T hk hd hu hpre hret
  refine wpAny_call ?_
  k_dflt (refine' Mine.enterC ?k1 ?k2 ?k3 ?k4 ?k5 ?kA ?kF ?kK ?k6 ?k7 ?k8 ?k9 ?kB ?_ ?c2 ?c3 ?c4 ?c5; (case kA => exact rfl); (case kF => exact rfl); (case kK => assumption); (case k1 => k_asm); (case k2 => k_asm); (case k3 => k_asm); (case k4 => k_asm); (case k5 => k_asm); (case k6 => k_is); (case k7 => k_is); (case k8 => ktr_room); (case k9 => first | exact BindsTo.of_eq rfl | exact binds_K (by k_in) rfl (by k_is) rfl rfl rfl | fail "enter_c: the arguments"); (case kB => exact locs rfl); (case c2 => decide); (case c3 => exact rfl); (case c4 => exact rfl); (case c5 => exact rfl); k_whole)
  intro g L' h₁ hgs hkeep hLs F' N' hlt B' X' T'
  try dsimp only
  try k_fold
  try (with_reducible refine Mine.gentoks ?_; intro _)
  try (with_reducible refine Mine.foldB ?hzt ?_; (case hzt => ((fail_if_success (fail_if_success (rw [Mine.deepMark]))); k_dflt (exact trivial))); intro _)
  clear hpre B F X N T
  k_steps
  exact hret _ _ _ (kept_of hkeep (by assumption)) rfl
end Mine
theorem Mine.ln6 : True := by
  k_with "exec While Compare" => (k_here; refine Mine.while_once ?hzhEw ?_; (case hzhEw => (first | assumption | exact kfy_passes | exact PassesOwn.looking | exact PassesOwn.leaving)))
  trivial
namespace Mine
set_option maxHeartbeats 8000000 in
theorem next_tok (w : World) (mg mb) (mean) (p2 p1 x dx lex dl : Nat) (od ol : Obj) (buf fin : Str) (st : Value) (tk0 : Str) (hrt : Calls w mean mg mb 714 [.ref lex] 6 (led6 p2 p1 x dx lex dl od ol) (fun _ => True) (fun _ v h' => RtPost p2 p1 x dx lex dl buf v h' (fun v => ∃ t, v = .str fin t)))
    (ho : dl < lex ∧ lex < dx ∧ dx < x ∧ x < p1 ∧ p1 < p2) (hl0 : IsLex ol x p1 p2 st tk0) :
    Calls w mean mg mb 743 [.ref lex] 9 (led6 p2 p1 x dx lex dl od ol) (fun _ => True) (fun _ v h' => RtPost p2 p1 x dx lex dl buf v h' (fun v => ∃ t, v = .str fin t)) := by
  w_on
  intro dp un gd cn cs a ccd cl outer A₀ base h₀ L m s Q E B F X N T hk hd hu hpre hret
  refine wpAny_call ?_
  k_dflt (refine' Mine.enterC ?k1 ?k2 ?k3 ?k4 ?k5 ?kA ?kF ?kK ?k6 ?k7 ?k8 ?k9 ?kB ?_ ?c2 ?c3 ?c4 ?c5; (case kA => exact rfl); (case kF => exact rfl); (case kK => assumption); (case k1 => k_asm); (case k2 => k_asm); (case k3 => k_asm); (case k4 => k_asm); (case k5 => k_asm); (case k6 => k_is); (case k7 => k_is); (case k8 => ktr_room); (case k9 => first | exact BindsTo.of_eq rfl | exact binds_K (by k_in) rfl (by k_is) rfl rfl rfl | fail "enter_c: the arguments"); (case kB => exact locs rfl); (case c2 => decide); (case c3 => exact rfl); (case c4 => exact rfl); (case c5 => exact rfl); k_whole)
  intro g L' h₁ hgs hkeep hLs F' N' hlt B' X' T'
  try dsimp only
  try k_fold
  try (with_reducible refine Mine.gentoks ?_; intro _)
  try (with_reducible refine Mine.foldB ?hzt ?_; (case hzt => ((fail_if_success (fail_if_success (rw [Mine.deepMark]))); k_dflt (exact trivial))); intro _)
  clear hpre B F X N T
  obtain ⟨o1, o2, o3, o4, o5⟩ := id ho
  (refine Mine.IsLex.open hl0 ?_; intro l9 t9 hq; subst hq)
  dsimp only [led6] at N'
  k_steps
  exact hret _ _ _ (kept_of hkeep (by assumption)) (rt_post (by assumption) (by assumption) (by (exact Mine.IsLex.mk)) ⟨_, rfl⟩)
end Mine
end T_Gt
section T_Gs
theorem Mine.linesGs : True := by
  k_with_none
  k_with "omega" => (first | (k_whole; with_reducible assumption) | (law_clear; first | with_reducible assumption | decide +kernel | ((with_reducible show List.length (_ :: _) ≤ _); exact Nat.le_of_ble_eq_true (Eq.refl true)) | ((first | refine Mine.rm2 (by with_reducible assumption) ?_ | refine Mine.rm3 (by with_reducible assumption) ?_ | refine Mine.rm1 (by with_reducible assumption) ?_ | refine Mine.bd1 (by with_reducible assumption) ?_ | refine Mine.bd3 (by with_reducible assumption) ?_ | refine Mine.bd2 (by with_reducible assumption) ?_ | refine Mine.bd4 (by with_reducible assumption) ?_ | refine Mine.bd5 (by with_reducible assumption) ?_ | refine Mine.bd6 (by with_reducible assumption) ?_ | refine Mine.bd7 (by with_reducible assumption) ?_ | refine Mine.bd8 (by with_reducible assumption) ?_); exact Eq.refl true) | ((first | refine Mine.ci1 (by with_reducible assumption) ?_ | refine Mine.ci2 (by with_reducible assumption) ?_); decide) | exact Mine.rm0 (by with_reducible assumption) | exact Mine.lp1 (by with_reducible assumption) (by with_reducible assumption) | exact Mine.lp2 (by with_reducible assumption) (by with_reducible assumption) | exact Mine.lp3 (by with_reducible assumption) | lia))
  k_with "ite" => (first | (with_reducible refine PySem.W.ite_neg (by with_reducible assumption) ?_) | (with_reducible refine PySem.W.ite_pos (by with_reducible assumption) ?_))
  k_with "ite" => (k_closed; first | (with_reducible refine PySem.W.ite_neg (by decide +kernel) ?_) | (with_reducible refine PySem.W.ite_pos (by decide +kernel) ?_))
  k_with "getAttr ref" => (k_here; k_dflt (refine' PySem.W.get_own ?hzk1 ?hzk2 ?hzk3 ?hzk4 ?hzk5 ?hzk6 ?hzk7 ?hzk8 ?hzk9 ?_; (case hzk1 => k_asm); (case hzk2 => k_asm); (case hzk3 => k_inst); (case hzk8 => k_get); (case hzk4 => k_is); (case hzk5 => k_is); (case hzk6 => k_is); (case hzk7 => k_is); (case hzk9 => k_handed); k_whole))
  k_with "eval Name" => (k_here; (first | (with_reducible show wpAny _ _ (eval (PySem.Expr.Name _ _) (envOf _ _ _ _ _)) _ _ _) | (with_reducible show wpAny _ _ (eval (PySem.Expr.Name _ _) (envOfC _ _ _ _ _)) _ _ _)); name_kind "globalImplicit"; k_dflt (first | (refine' PySem.W.nameX_K ?hzF ?hzX ?hzT ?hze ?_ ?hza ?hzb ?hzd; (case hzF => k_asm); (case hzX => k_asm); (case hzT => k_asm); (case hze => k_is); (case hza => first | kernel_rfl | rfl); (case hzb => first | kernel_rfl | rfl); (case hzd => first | kernel_rfl | decide); k_whole) | (refine' PySem.W.nameX_B ?hzF ?hzX ?hzT ?hze ?hzv ?hzn ?_ ?hza ?hzb ?hzd; (case hzF => k_asm); (case hzX => k_asm); (case hzT => k_asm); (case hze => k_is); (case hzv => boot_fast); (case hzn => decide +kernel); (case hza => first | kernel_rfl | rfl); (case hzb => first | kernel_rfl | rfl); (case hzd => first | kernel_rfl | decide); k_whole)))
  k_with "eval Name" => (k_here; (first | (with_reducible show wpAny _ _ (eval (PySem.Expr.Name _ _) (envOf _ _ _ _ _)) _ _ _) | (with_reducible show wpAny _ _ (eval (PySem.Expr.Name _ _) (envOfC _ _ _ _ _)) _ _ _)); name_kind "local"; k_dflt (refine' PySem.W.nameX_L ?hzF ?hzv ?_ ?hza ?hzb ?hzd; (case hzF => k_asm); (case hzv => exact Eq.refl (some _)); (case hza => first | kernel_rfl | rfl); (case hzb => first | kernel_rfl | rfl); (case hzd => first | kernel_rfl | decide); k_whole))
  k_with "eval Name" => (k_here; (first | (with_reducible show wpAny _ _ (eval (PySem.Expr.Name _ _) (envOf _ _ _ _ _)) _ _ _) | (with_reducible show wpAny _ _ (eval (PySem.Expr.Name _ _) (envOfC _ _ _ _ _)) _ _ _)); name_kind "cell"; k_dflt (refine' PySem.W.nameX_C ?hzN ?hzc ?hzm ?hzd ?_ ?hza ?hzb ?hze; (case hzN => k_asm); (case hzc => exact Eq.refl (some _)); (case hzm => k_mem); (case hzd => k_asm); (case hza => first | kernel_rfl | rfl); (case hzb => first | kernel_rfl | rfl); (case hze => first | kernel_rfl | rfl); k_whole))
  k_with "eval Name" => (k_here; (with_reducible show wpAny _ _ (eval (PySem.Expr.Name _ _) (compEnvC _ _ _ _)) _ _ _); k_dflt (first | (refine' PySem.W.kcf_cell ?hzN ?hzc ?hzm ?hzd ?_ ?hza ?hzb ?hze; (case hzb => kernel_rfl); (case hzN => k_asm); (case hzc => exact Eq.refl (some _)); (case hzm => k_mem); (case hzd => k_asm); (case hza => first | kernel_rfl | rfl); (case hze => first | kernel_rfl | rfl); k_whole) | (refine' PySem.W.LCgL.ld_own ?hzN ?hzm ?hzd ?hzc ?_ ?hza ?hzb ?hze; (case hzb => kernel_rfl); (case hzN => k_asm); (case hzm => k_mem); (case hzd => assumption); (case hzc => assumption); (case hza => first | kernel_rfl | rfl); (case hze => first | kernel_rfl | rfl); k_whole)))
  k_with "execs cons" => (k_here; with_reducible refine Mine.gentoks ?_; intro _)
  k_with "execs nil" => (k_here; with_reducible refine Mine.gentoks ?_; intro _)
  k_with "execs cons" => (k_here; k_fold)
  k_with "execs cons" => (k_here; with_reducible refine Mine.foldB ?hzht ?_; (case hzht => ((fail_if_success (fail_if_success (rw [Mine.deepMark]))); k_dflt (exact trivial))); intro _)
  k_with "eval Call" => (k_here; k_fold)
  k_with "eval Subscript" => (k_here; k_fold)
  k_with "eval Compare" => (k_here; k_fold)
  k_with "eval BinOp" => (k_here; k_fold)
  k_with "subscriptTail Attribute" => (k_here; k_dflt (refine PySem.W.kba_turn (value' := PySem.Expr.Name (PySem.Str.ofString "_") ⟨0, 0, 0, 0⟩) (fun _ => rfl) ?_))
  k_with "k_room" => (first | ktr_room | ((simp +zetaDelta only [depth_under_make, depth_under_kw, depth_in1, depth_deeper, depth_caller]); ktr_room))
  k_with "call ref" => (k_here; (with_reducible show wpAny _ _ (call (Value.ref 611) _ _) _ _ _); k_dflt (refine wpAny_call ?_; refine' Mine.make_new (fN := 104) (fI := 381) ?hzk1 ?hzk2 ?hzk3 ?hzk4 ?hzk5 ?hzk6 ?hzk7 ?hzk8 ?hzk9 ?_; (case hzk1 => k_in); (case hzk2 => exact ⟨_, _, _, _, by k_is, rfl⟩); (case hzk3 => k_is); (case hzk4 => k_is); (case hzk5 => k_is); (case hzk6 => exact fun _ => by kernel_rfl); (case hzk7 => k_is); (case hzk8 => k_is); (case hzk9 => (intro _ _ _ hqZ; walk1; exact hqZ)); k_enter))
  k_with "call builtin:object.__new__" => (k_here; k_dflt (refine wpAny_call ?_; refine' Mine.new_own (C := 611) ?hzk1 ?hzk2 ?hzk3 ?hzk4 ?hzk5 ?hzk6 ?hzk7 ?hzk8 ?hzk9 ?_; (case hzk1 => k_asm); (case hzk2 => k_asm); (case hzk3 => k_in); (case hzk4 => exact ⟨_, _, _, _, by k_is, rfl, rfl⟩); (case hzk5 => k_is); (case hzk6 => k_is); (case hzk7 => k_is); (case hzk8 => exact fun _ => by kernel_rfl); (case hzk9 => exact fun _ => by kernel_rfl); intro _ _ _ _ _ l1Z l2Z; (try k_lt l1Z); (try k_lt2 l2Z); (try k_sweep); (try dsimp only)))
  k_with "NewBack" => (k_here; k_dflt (refine ⟨_, News.get (by k_asm) (by k_mem), by k_in, ?_⟩; (try dsimp only); k_enter))
  k_with "call type:collections.deque" => (k_here; k_dflt (refine' Mine.call_deque ?hzk1 ?hzk2 ?_; (case hzk1 => k_asm); (case hzk2 => k_asm); k_whole; intro _ _ _ _ l1Z; (try k_lt l1Z); (try k_sweep)))
  k_with "truthy ref" => (k_here; k_dflt (refine' Mine.truthy_deque ?hzk1 ?hzk2 ?_; (case hzk1 => k_asm); (case hzk2 => k_mem); k_whole; intro _))
  k_with "call ref" => (k_here; (with_reducible show wpAny _ _ (call (Value.ref 557) _) _ _ _); k_dflt (first | (refine' Mine.read_use _ ?hzk1 ?hzk2 ?hzk3 ?hzk4 ?hzk5 ?hzkK ?hzko ?hzks ?hzk7 ?hzk8 ?hzkc ?hzkd ?hzku ?_; (case hzk1 => k_asm); (case hzk2 => k_asm); (case hzk3 => k_asm); (case hzk4 => k_asm); (case hzk5 => k_asm); (case hzkK => exact rfl); (case hzko => assumption); (case hzks => assumption); (case hzkc => assumption); (case hzk7 => assumption); (case hzk8 => assumption); (case hzkd => ktr_room); (case hzku => ktr_units); k_whole; intro t'Z _ h'Z tk'Z F'Z N'Z hs'Z; (try dsimp only)) | (refine' Mine.read_eof_use ?hzk1 ?hzk2 ?hzk3 ?hzk4 ?hzk5 ?hzkK ?hzko ?hzks ?hzk7 ?hzk8 ?hzkd ?hzku ?_; (case hzk1 => k_asm); (case hzk2 => k_asm); (case hzk3 => k_asm); (case hzk4 => k_asm); (case hzk5 => k_asm); (case hzkK => exact rfl); (case hzko => assumption); (case hzks => assumption); (case hzk7 => assumption); (case hzk8 => assumption); (case hzkd => ktr_room); (case hzku => ktr_units); k_whole; intro t'Z h'Z tk'Z F'Z N'Z hs'Z; (try dsimp only))))
  k_with "compareOp In str str" => (k_here; first | refine Mine.in_lit false (by kernel_rfl!) ?_ | refine Mine.in_lit true (by kernel_rfl!) ?_)
  k_with "LoopPost" => ((with_reducible show Mine.LoopPost _ _ _ _ Flow.brk _); dsimp only [Mine.LoopPost])
  k_with "exec If" => (with_reducible refine wpAny_If ?_)
  k_with "k_put" => (first | (with_reducible exact Mine.lex_put_state) | (with_reducible exact Mine.lex_put_token))
  k_with "call ref" => (k_here; (with_reducible show wpAny _ _ (call (Value.ref 714) _) _ _ _); k_dflt ( (refine' Mine.rt_use ?hzk1 ?hzk2 ?hzk3 ?hzk4 ?hzk5 ?hzkK ?hzkC ?hzkd ?hzku ?_; (case hzk1 => k_asm); (case hzk2 => k_asm); (case hzk3 => k_asm); (case hzk4 => k_asm); (case hzk5 => k_asm); (case hzkK => exact rfl); (case hzkC => assumption); (case hzkd => ktr_room); (case hzku => ktr_units); k_whole; intro _ _ _ _ _ _ N'Z _ hl'Z hd'Z; (first | subst hd'Z | (obtain ⟨_, hv'Z⟩ := hd'Z; subst hv'Z)); (try dsimp only); (refine Mine.IsLex.open hl'Z ?_; intro _ _ hqZ; subst hqZ); dsimp only [Mine.led6] at N'Z)))
  k_with "leaving ref" => (k_here; k_dflt ((refine' leave_raiseS ?hzk1 ?hzk0 ?hzk2 ?hzk3 ?_; (case hzk0 => first | assumption | exact Heap.MadeExc.of (by assumption)); (case hzk1 => assumption); (case hzk2 => assumption); (case hzk3 => k_asm); k_whole; intro _ _ RS'Z R'Z U'Z; (try dsimp only at RS'Z R'Z U'Z ⊢))))
  trivial
namespace Mine
set_option maxHeartbeats 8000000 in
theorem next_stop (w : World) (mg mb) (mean) (p2 p1 x dx lex dl : Nat) (od ol : Obj) (buf : Str) (st : Value) (tk0 : Str) (hrt : Calls w mean mg mb 714 [.ref lex] 6 (led6 p2 p1 x dx lex dl od ol) (fun _ => True) (fun _ v h' => RtPost p2 p1 x dx lex dl buf v h' (fun v => v = .none)))
    (ho : dl < lex ∧ lex < dx ∧ dx < x ∧ x < p1 ∧ p1 < p2) (hl0 : IsLex ol x p1 p2 st tk0) :
    CallsStop w mean mg mb 743 [.ref lex] 9 (led6 p2 p1 x dx lex dl od ol) (fun h' => RtPost p2 p1 x dx lex dl buf .none h' (fun _ => True)) := by
  w_on
  intro dp un gd cn cs a ccd cl outer A₀ base h₀ L m s Q E B F X N T hk hd hu hret
  have hfr := fr_ok B F N
  refine wpAny_call ?_
  k_dflt (refine' Mine.enterC ?k1 ?k2 ?k3 ?k4 ?k5 ?kA ?kF ?kK ?k6 ?k7 ?k8 ?k9 ?kB ?_ ?c2 ?c3 ?c4 ?c5; (case kA => exact rfl); (case kF => exact rfl); (case kK => assumption); (case k1 => k_asm); (case k2 => k_asm); (case k3 => k_asm); (case k4 => k_asm); (case k5 => k_asm); (case k6 => k_is); (case k7 => k_is); (case k8 => ktr_room); (case k9 => first | exact BindsTo.of_eq rfl | exact binds_K (by k_in) rfl (by k_is) rfl rfl rfl | fail "enter_c: the arguments"); (case kB => exact locs rfl); (case c2 => decide); (case c3 => exact rfl); (case c4 => exact rfl); (case c5 => exact rfl); k_whole)
  intro g L' h₁ hgs hkeep hLs F' N' hlt B' X' T'
  try dsimp only
  try k_fold
  try (with_reducible refine Mine.gentoks ?_; intro _)
  try (with_reducible refine Mine.foldB ?hzt ?_; (case hzt => ((fail_if_success (fail_if_success (rw [Mine.deepMark]))); k_dflt (exact trivial))); intro _)
  clear B F X N T
  obtain ⟨o1, o2, o3, o4, o5⟩ := id ho
  (refine Mine.IsLex.open hl0 ?_; intro l9 t9 hq; subst hq)
  dsimp only [led6] at N'
  k_steps
  rename RaisedS _ _ _ _ _ _ _ _ _ => RS
  rename Heap.UpToSlots _ _ => U
  have hn := raised_news RS
  refine hret _ _ _ (raised_keep hfr hkeep RS rfl U) (raised_there RS) ⟨_, _, hn, by assumption, ?_, trivial⟩
  (exact Mine.IsLex.mk)
end Mine
end T_Gs
section T_Ls
set_option maxHeartbeats 4000000
namespace Mine
theorem stop_sub : isSubtype (.type "StopIteration") (.type "StopIteration") = pure true := by rw [isSubtype_type]; kernel_rfl
section
variable {w : World} {mean : ExcName → Option Value} {mg mb : Str → Option Value} {dp un : Nat} {gd : Option (List Code)} {cn : Str} {cs : Scope} {a : Addr} {ccd : Value} {cl : List (Str × Addr)} {outer : List Env} {A₀ : Around} {base h₀ : Heap} {L : Addr} {m : Str → Option Value} {s : Shared} {Q E : Value → Shared → Prop}
  {p2 p1 x dx lex dl : Nat} {od ol : Obj} {buf fin : Str} {st : Value} {tk0 : Str}
noncomputable abbrev lst (items : Array Value) (c : Nat) : Obj := { cls := .type "list", data := .seq items c }
theorem upd_keep {h : Heap} {S : Addr} {f : Obj → Obj} {b : Addr} {o : Obj} (e : h.get? b = some o) (n : b ≠ S) : (h.update S f).get? b = some o := (Heap.get?_update_other _ _ (Ne.symm n)).trans e
theorem list_lex (B : Below A₀ base outer h₀) (F : Fr h₀ L s.heap m) (X : (Mine.hd.heap_1_1 w.params).In h₀) (N : News h₀ L s.heap (led6 p2 p1 x dx lex dl od ol)) (T : Top VW LO mean mg mb h₀) (hk : cs.kind = .function)
    (ho : dl < lex ∧ lex < dx ∧ dx < x ∧ x < p1 ∧ p1 < p2)
    (Ci : Calls w mean mg mb 736 [.ref lex] 2 [] (fun _ => True) (fun _ v _ => v = .ref lex))
    (C1 : Calls w mean mg mb 743 [.ref lex] 9 (led6 p2 p1 x dx lex dl od ol) (fun _ => True) (fun _ v h' => RtPost p2 p1 x dx lex dl buf v h' (fun v => ∃ t, v = .str fin t)))
    (C2 : ∀ od' ol', IsStream od' buf buf.length → IsLex ol' x p1 p2 .none (Str.ofString "") → CallsStop w mean mg mb 743 [.ref lex] 9 (led6 p2 p1 x dx lex dl od' ol') (fun _ => True))
    (hd : dp + 9 < recursionLimit) (hu : un + 80 < cLine)
    (ret : ∀ h' tk' c t, KeepW ((led6 p2 p1 x dx lex dl od ol).map (·.1)) (L :: outer.filterMap (·.frame)) s.heap h' → h'.get? s.heap.objs.size = some (lst #[.str fin t] c) → Q (.ref s.heap.objs.size) { s with heap := h', toks := tk' }) :
    wpAny (model PR w) (ktrTop dp un gd cn cs L a ccd cl outer) (call (.type "list") [.ref lex]) Q E s := by
  w_on
  have lt : ∀ p ∈ led6 p2 p1 x dx lex dl od ol, p.1 < s.heap.objs.size := fun p hp => Heap.lt_size (N p hp).1
  have F1 := F.push (lst #[] 0)
  have N1 := N.push F (lst #[] 0) rfl
  have ge : (s.heap.push (lst #[] 0)).get? s.heap.objs.size = some (lst #[] 0) := Heap.get?_push_size _ rfl
  have hfr := fr_ok B F N
  refine callType_codes (Q₁ := fun obj s₁ => obj = .ref s.heap.objs.size ∧ s₁ = { s with heap := s.heap.push (lst #[] 0) }) PySem.F.called_list (PySem.F.typeCall_list_1 _) PySem.F.entry_list_init
    (code_list_new _ ⟨rfl, rfl⟩) fun obj s₁ h₁ => ?_
  obtain ⟨rfl, rfl⟩ := h₁
  refine ⟨⟨_, ge, rfl⟩, PySem.F.args_list_init_2 _ _, ?_⟩
  show wpAny _ _ (do let old ← Builtin.List.listItems (.ref s.heap.objs.size); Builtin.List.listUpdate (.ref s.heap.objs.size) (fun _ => #[]); letGo old.toList.reverse; Builtin.List.listExtendWith (.ref s.heap.objs.size) (.ref lex) .none) _ _ _
  refine wpAny_bind ?_
  unfold Builtin.List.listItems
  refine wpAny_bind (wpAny_seqItems ge rfl (wpAny_pure ?_))
  show wpAny _ _ (updateSeq s.heap.objs.size (fun _ => #[]) >>= fun _ => letGo (#[] : Array Value).toList.reverse >>= fun _ => Builtin.List.listExtendWith (.ref s.heap.objs.size) (.ref lex) .none) _ _ _
  refine wpAny_bind (wpAny_updateSeq ge rfl ?_)
  obtain ⟨F2, N2⟩ := news_upd (pre := []) (post := led6 p2 p1 x dx lex dl od ol) (o' := lst #[] 0) (f := Obj.mapSeq fun _ => (#[] : Array Value)) F1 N1 (fun _ hp => nomatch hp) (fun p hp => Nat.ne_of_lt (lt p hp)) rfl rfl
  have k2 : ∀ b o, s.heap.get? b = some o → ((s.heap.push (lst #[] 0)).update s.heap.objs.size (Obj.mapSeq fun _ => (#[] : Array Value))).get? b = some o := fun b o e =>
    upd_keep (Heap.get?_push_of_some _ e) (Nat.ne_of_lt (Heap.lt_size e))
  clear N1 F1
  generalize (s.heap.push (lst #[] 0)).update s.heap.objs.size (Obj.mapSeq fun _ => (#[] : Array Value)) = h2 at *
  refine wpAny_bind (wpAny_letGo ?_)
  have I2 : InstAt h2 lex (instObj 746 dl) 746 (some ol) := ⟨(N2 _ (.tail _ (.tail _ (.tail _ (.tail _ (.tail _ (.head _))))))).1, rfl, rfl, (N2 _ (.tail _ (.tail _ (.tail _ (.tail _ (.tail _ (.tail _ (.head _)))))))).1⟩
  have hne : s.heap.objs.size ≠ lex := fun e => by
    have := lt (lex, instObj 746 dl) (.tail _ (.tail _ (.tail _ (.tail _ (.head _)))))
    exact absurd e (Nat.ne_of_gt this)
  have h1 : Builtin.List.listSameRef (.ref s.heap.objs.size) (.ref lex) = false := by simp [Builtin.List.listSameRef, hne]
  unfold Builtin.List.listExtendWith
  refine wpAny_bind (I2.type.here ?_)
  have e2 : (Value.ref 746 == Value.type "list") = false := by decide
  have e3 : (Value.ref 746 == Value.type "tuple") = false := by decide
  simp only [h1, e2, e3, Bool.or_false, Bool.false_eq_true, if_false]
  refine wpAny_bind ?_
  refine owit_iter (C := 746) F2 X I2 (by k_is) (by k_is) ?_
  refine calls_use (dp := dp) (un := un + 2) (rest := (s.heap.objs.size, lst #[] 0) :: led6 p2 p1 x dx lex dl od ol) B F2 X N2 T hk Ci (fun _ hp => nomatch hp) (fun p hp => ⟨hp, fun q => nomatch q⟩) (by omega) (by omega) trivial ?_
  rintro v h3 tk3 F3 N3 kp3 rfl
  have k3 : ∀ b o, s.heap.get? b = some o → h3.get? b = some o := fun b o e => kp3 b o (k2 b o e) (fun q => nomatch q)
  clear k2 kp3 N2 F2 I2
  have I3 : InstAt h3 lex (instObj 746 dl) 746 (some ol) := ⟨(N3 _ (.tail _ (.tail _ (.tail _ (.tail _ (.tail _ (.head _))))))).1, rfl, rfl, (N3 _ (.tail _ (.tail _ (.tail _ (.tail _ (.tail _ (.tail _ (.head _)))))))).1⟩
  refine owit_it (C := 746) F3 X I3 (by k_is) ?_
  refine wpAny_bind (wpAny_holding ?_)
  unfold Builtin.List.listLengthHint
  refine wpAny_bind (wpAny_bind (I3.type.here ((looks_findIn (X.keeps F3.keep) (show findIn (Mine.hd.heap_1_1 w.params) (.ref 746) "__len__" = some none by k_is)).here ?_)))
  show wpAny _ _ (specialOf (Value.ref lex) (Str.ofString "__length_hint__") >>= _) _ _ _
  refine wpAny_bind (wpAny_bind (I3.type.here ((looks_findIn (X.keeps F3.keep) (show findIn (Mine.hd.heap_1_1 w.params) (.ref 746) "__length_hint__" = some none by k_is)).here ?_)))
  dsimp only
  refine wpAny_pure ?_
  rw [if_pos (show (true || _) = true from Bool.true_or _)]
  show wpAny _ _ (rule "list.extend.makes-room" >>= fun _ => Builtin.List.listTouch (.ref s.heap.objs.size) >>= fun _ =>
    again (.builtin "list.extend.loop" ⟨[.ref s.heap.objs.size, .ref lex, .none], []⟩)) _ _ _
  refine wpAny_bind (wpAny_rule ?_)
  refine wpAny_bind ?_
  show wpAny _ _ (updateSeq s.heap.objs.size (·.push .none) >>= fun _ => updateSeq s.heap.objs.size (·.pop)) _ _ _
  refine wpAny_bind (wpAny_updateSeq (N3 _ (.head _)).1 rfl ?_)
  obtain ⟨F4, N4⟩ := news_upd (pre := []) (post := led6 p2 p1 x dx lex dl od ol) (o' := lst #[.none] 1) (f := Obj.mapSeq (·.push Value.none)) F3 N3 (fun _ hp => nomatch hp) (fun p hp => Nat.ne_of_lt (lt p hp)) rfl rfl
  have k4 : ∀ b o, s.heap.get? b = some o → (h3.update s.heap.objs.size (Obj.mapSeq (·.push Value.none))).get? b = some o := fun b o e => upd_keep (k3 b o e) (Nat.ne_of_lt (Heap.lt_size e))
  refine wpAny_updateSeq (hz := by seq_fits) (N4 _ (.head _)).1 rfl ?_
  obtain ⟨F5, N5⟩ := news_upd (pre := []) (post := led6 p2 p1 x dx lex dl od ol) (o' := lst #[] 2) (f := Obj.mapSeq (·.pop)) F4 N4 (fun _ hp => nomatch hp) (fun p hp => Nat.ne_of_lt (lt p hp)) rfl rfl
  have k5 : ∀ b o, s.heap.get? b = some o → ((h3.update s.heap.objs.size (Obj.mapSeq (·.push Value.none))).update s.heap.objs.size (Obj.mapSeq (·.pop))).get? b = some o := fun b o e => upd_keep (k4 b o e) (Nat.ne_of_lt (Heap.lt_size e))
  clear F4 N4 k4 F3 N3 k3 I3
  generalize (h3.update s.heap.objs.size (Obj.mapSeq (·.push Value.none))).update s.heap.objs.size (Obj.mapSeq (·.pop)) = h5 at *
  refine wpAny_pure ⟨plainId_quiet PySem.F.plain_extend_loop _, ?_⟩
  -- the first turn
  refine codeAny_builtin PySem.F.entry_extend_loop ?_
  rw [Around.under_plainId PySem.F.plain_extend_loop _]
  show wpAny _ _ (pyNext (.ref lex) >>= _) _ _ _
  refine wpAny_bind ?_
  have I5 : InstAt h5 lex (instObj 746 dl) 746 (some ol) := ⟨(N5 _ (.tail _ (.tail _ (.tail _ (.tail _ (.tail _ (.head _))))))).1, rfl, rfl, (N5 _ (.tail _ (.tail _ (.tail _ (.tail _ (.tail _ (.tail _ (.head _)))))))).1⟩
  have hS6 : ∀ p ∈ [((s.heap.objs.size, lst #[] 2) : Addr × Obj)], p ∈ (s.heap.objs.size, lst #[] 2) :: led6 p2 p1 x dx lex dl od ol ∧ p.1 ∉ (led6 p2 p1 x dx lex dl od ol).map (·.1) := fun p hp => by
    rw [List.mem_singleton.mp hp]
    refine ⟨.head _, fun q => ?_⟩
    obtain ⟨r, hr, e⟩ := List.mem_map.mp q
    exact absurd e (Nat.ne_of_lt (lt r hr))
  refine owit_next (C := 746) F5 X I5 (by k_is) (by k_is) ?_
  refine calls_use (dp := dp) (un := un + 2) (rest := [(s.heap.objs.size, lst #[] 2)]) B F5 X N5 T hk C1 (fun p hp => .tail _ hp) hS6 (by omega) (by omega) trivial ?_
  rintro v h6 tk6 F6 N6 kp6 ⟨od6, ol6, g6, s6, l6, t6, rfl⟩
  have k6 : ∀ b o, s.heap.get? b = some o → b ∉ (led6 p2 p1 x dx lex dl od ol).map (·.1) → h6.get? b = some o := fun b o e n => kp6 b o (k5 b o e) n
  have M6 : News h₀ L h6 ((s.heap.objs.size, lst #[] 2) :: led6 p2 p1 x dx lex dl od6 ol6) := fun p hp => by
    rcases List.mem_cons.mp hp with rfl | hp
    · exact N6 _ (.head _)
    · exact news6 (s := { s with heap := h5 }) (fun q hq => N5 q (.tail _ hq)) g6 p hp
  clear kp6 N6 N5 F5 k5 I5 hS6
  dsimp only
  show wpAny _ _ (updateSeq s.heap.objs.size (·.push (.str fin t6)) >>= _) _ _ _
  refine wpAny_bind (wpAny_updateSeq (M6 _ (.head _)).1 rfl ?_)
  have lt' : ∀ p ∈ led6 p2 p1 x dx lex dl od6 ol6, p.1 ≠ s.heap.objs.size := fun p hp => by
    have := List.mem_map_of_mem (f := (·.1)) hp
    obtain ⟨r, hr, e⟩ := List.mem_map.mp (show p.1 ∈ (led6 p2 p1 x dx lex dl od ol).map (·.1) from this)
    exact e ▸ Nat.ne_of_lt (lt r hr)
  obtain ⟨F7, N7⟩ := news_upd (pre := []) (post := led6 p2 p1 x dx lex dl od6 ol6) (o' := lst #[.str fin t6] 3) (f := Obj.mapSeq (·.push (Value.str fin t6))) F6 M6 (fun _ hp => nomatch hp) lt' rfl rfl
  have k7 : ∀ b o, s.heap.get? b = some o → b ∉ (led6 p2 p1 x dx lex dl od ol).map (·.1) → (h6.update s.heap.objs.size (Obj.mapSeq (·.push (Value.str fin t6)))).get? b = some o := fun b o e n => upd_keep (k6 b o e n) (Nat.ne_of_lt (Heap.lt_size e))
  clear F6 M6 k6 g6
  generalize h6.update s.heap.objs.size (Obj.mapSeq (·.push (Value.str fin t6))) = h7 at *
  refine wpAny_pure ⟨plainId_quiet PySem.F.plain_extend_loop _, ?_⟩
  refine codeAny_builtin PySem.F.entry_extend_loop ?_
  rw [Around.under_plainId PySem.F.plain_extend_loop _]
  show wpAny _ _ (pyNext (.ref lex) >>= _) _ _ _
  refine wpAny_bind ?_
  have I7 : InstAt h7 lex (instObj 746 dl) 746 (some ol6) := ⟨(N7 _ (.tail _ (.tail _ (.tail _ (.tail _ (.tail _ (.head _))))))).1, rfl, rfl, (N7 _ (.tail _ (.tail _ (.tail _ (.tail _ (.tail _ (.tail _ (.head _)))))))).1⟩
  refine owit_next (C := 746) F7 X I7 (by k_is) (by k_is) ?_
  refine C2 od6 ol6 s6 l6 dp (un + 2) gd cn cs a ccd cl outer A₀ base h₀ L m _ _ _ B F7 X (fun p hp => N7 p (.tail _ hp)) T hk (by omega) (by omega) fun e h9 tk9 kp9 hcls _ => ?_
  obtain ⟨oe, hoe, hoc⟩ := hcls
  unfold OwitStop
  refine wpAny_isInstance (T := "StopIteration") ⟨oe, hoe, hoc⟩ stop_sub ?_
  rw [if_pos rfl]
  dsimp only
  have nS : s.heap.objs.size ∉ (led6 p2 p1 x dx lex dl od6 ol6).map (·.1) := fun q => by
    obtain ⟨r, hr, e⟩ := List.mem_map.mp q
    exact lt' r hr e
  have nF : s.heap.objs.size ∉ L :: outer.filterMap (·.frame) := fun q => by
    rcases List.mem_cons.mp q with z | z
    · exact (N7 _ (.head _)).2.1 z
    · obtain ⟨_, o, ho', _⟩ := B.frames.mem z
      have := (N7 _ (.head _)).2.2
      rw [ho'] at this; cases this
  have fin9 : Q (.ref s.heap.objs.size) { s with heap := h9, toks := tk9 } := ret h9 tk9 3 t6 ⟨fun b o e n1 n2 => kp9.1 b o (k7 b o e n1) n1 n2, fun b o e m => kp9.2 b o (k7 b o e (hfr b o e m).1) m⟩ (kp9.1 _ _ (N7 _ (.head _)).1 nS nF)
  exact wpAny_pure ⟨rfl, fin9⟩
/-- the empty line: nothing is read -/
theorem list_lex0 (B : Below A₀ base outer h₀) (F : Fr h₀ L s.heap m) (X : (Mine.hd.heap_1_1 w.params).In h₀) (N : News h₀ L s.heap (led6 p2 p1 x dx lex dl od ol)) (T : Top VW LO mean mg mb h₀) (hk : cs.kind = .function)
    (ho : dl < lex ∧ lex < dx ∧ dx < x ∧ x < p1 ∧ p1 < p2)
    (Ci : Calls w mean mg mb 736 [.ref lex] 2 [] (fun _ => True) (fun _ v _ => v = .ref lex))
    (C2 : CallsStop w mean mg mb 743 [.ref lex] 9 (led6 p2 p1 x dx lex dl od ol) (fun _ => True))
    (hd : dp + 9 < recursionLimit) (hu : un + 80 < cLine)
    (ret : ∀ h' tk' c, KeepW ((led6 p2 p1 x dx lex dl od ol).map (·.1)) (L :: outer.filterMap (·.frame)) s.heap h' → h'.get? s.heap.objs.size = some (lst #[] c) → Q (.ref s.heap.objs.size) { s with heap := h', toks := tk' }) :
    wpAny (model PR w) (ktrTop dp un gd cn cs L a ccd cl outer) (call (.type "list") [.ref lex]) Q E s := by
  w_on
  have lt : ∀ p ∈ led6 p2 p1 x dx lex dl od ol, p.1 < s.heap.objs.size := fun p hp => Heap.lt_size (N p hp).1
  have F1 := F.push (lst #[] 0)
  have N1 := N.push F (lst #[] 0) rfl
  have ge : (s.heap.push (lst #[] 0)).get? s.heap.objs.size = some (lst #[] 0) := Heap.get?_push_size _ rfl
  have hfr := fr_ok B F N
  refine callType_codes (Q₁ := fun obj s₁ => obj = .ref s.heap.objs.size ∧ s₁ = { s with heap := s.heap.push (lst #[] 0) }) PySem.F.called_list (PySem.F.typeCall_list_1 _) PySem.F.entry_list_init
    (code_list_new _ ⟨rfl, rfl⟩) fun obj s₁ h₁ => ?_
  obtain ⟨rfl, rfl⟩ := h₁
  refine ⟨⟨_, ge, rfl⟩, PySem.F.args_list_init_2 _ _, ?_⟩
  show wpAny _ _ (do let old ← Builtin.List.listItems (.ref s.heap.objs.size); Builtin.List.listUpdate (.ref s.heap.objs.size) (fun _ => #[]); letGo old.toList.reverse; Builtin.List.listExtendWith (.ref s.heap.objs.size) (.ref lex) .none) _ _ _
  refine wpAny_bind ?_
  unfold Builtin.List.listItems
  refine wpAny_bind (wpAny_seqItems ge rfl (wpAny_pure ?_))
  show wpAny _ _ (updateSeq s.heap.objs.size (fun _ => #[]) >>= fun _ => letGo (#[] : Array Value).toList.reverse >>= fun _ => Builtin.List.listExtendWith (.ref s.heap.objs.size) (.ref lex) .none) _ _ _
  refine wpAny_bind (wpAny_updateSeq ge rfl ?_)
  obtain ⟨F2, N2⟩ := news_upd (pre := []) (post := led6 p2 p1 x dx lex dl od ol) (o' := lst #[] 0) (f := Obj.mapSeq fun _ => (#[] : Array Value)) F1 N1 (fun _ hp => nomatch hp) (fun p hp => Nat.ne_of_lt (lt p hp)) rfl rfl
  have k2 : ∀ b o, s.heap.get? b = some o → ((s.heap.push (lst #[] 0)).update s.heap.objs.size (Obj.mapSeq fun _ => (#[] : Array Value))).get? b = some o := fun b o e =>
    upd_keep (Heap.get?_push_of_some _ e) (Nat.ne_of_lt (Heap.lt_size e))
  clear N1 F1
  generalize (s.heap.push (lst #[] 0)).update s.heap.objs.size (Obj.mapSeq fun _ => (#[] : Array Value)) = h2 at *
  refine wpAny_bind (wpAny_letGo ?_)
  have I2 : InstAt h2 lex (instObj 746 dl) 746 (some ol) := ⟨(N2 _ (.tail _ (.tail _ (.tail _ (.tail _ (.tail _ (.head _))))))).1, rfl, rfl, (N2 _ (.tail _ (.tail _ (.tail _ (.tail _ (.tail _ (.tail _ (.head _)))))))).1⟩
  have hne : s.heap.objs.size ≠ lex := fun e => by
    have := lt (lex, instObj 746 dl) (.tail _ (.tail _ (.tail _ (.tail _ (.head _)))))
    exact absurd e (Nat.ne_of_gt this)
  have h1 : Builtin.List.listSameRef (.ref s.heap.objs.size) (.ref lex) = false := by simp [Builtin.List.listSameRef, hne]
  unfold Builtin.List.listExtendWith
  refine wpAny_bind (I2.type.here ?_)
  have e2 : (Value.ref 746 == Value.type "list") = false := by decide
  have e3 : (Value.ref 746 == Value.type "tuple") = false := by decide
  simp only [h1, e2, e3, Bool.or_false, Bool.false_eq_true, if_false]
  refine wpAny_bind ?_
  refine owit_iter (C := 746) F2 X I2 (by k_is) (by k_is) ?_
  refine calls_use (dp := dp) (un := un + 2) (rest := (s.heap.objs.size, lst #[] 0) :: led6 p2 p1 x dx lex dl od ol) B F2 X N2 T hk Ci (fun _ hp => nomatch hp) (fun p hp => ⟨hp, fun q => nomatch q⟩) (by omega) (by omega) trivial ?_
  rintro v h3 tk3 F3 N3 kp3 rfl
  have k3 : ∀ b o, s.heap.get? b = some o → h3.get? b = some o := fun b o e => kp3 b o (k2 b o e) (fun q => nomatch q)
  clear k2 kp3 N2 F2 I2
  have I3 : InstAt h3 lex (instObj 746 dl) 746 (some ol) := ⟨(N3 _ (.tail _ (.tail _ (.tail _ (.tail _ (.tail _ (.head _))))))).1, rfl, rfl, (N3 _ (.tail _ (.tail _ (.tail _ (.tail _ (.tail _ (.tail _ (.head _)))))))).1⟩
  refine owit_it (C := 746) F3 X I3 (by k_is) ?_
  refine wpAny_bind (wpAny_holding ?_)
  unfold Builtin.List.listLengthHint
  refine wpAny_bind (wpAny_bind (I3.type.here ((looks_findIn (X.keeps F3.keep) (show findIn (Mine.hd.heap_1_1 w.params) (.ref 746) "__len__" = some none by k_is)).here ?_)))
  show wpAny _ _ (specialOf (Value.ref lex) (Str.ofString "__length_hint__") >>= _) _ _ _
  refine wpAny_bind (wpAny_bind (I3.type.here ((looks_findIn (X.keeps F3.keep) (show findIn (Mine.hd.heap_1_1 w.params) (.ref 746) "__length_hint__" = some none by k_is)).here ?_)))
  dsimp only
  refine wpAny_pure ?_
  rw [if_pos (show (true || _) = true from Bool.true_or _)]
  show wpAny _ _ (rule "list.extend.makes-room" >>= fun _ => Builtin.List.listTouch (.ref s.heap.objs.size) >>= fun _ =>
    again (.builtin "list.extend.loop" ⟨[.ref s.heap.objs.size, .ref lex, .none], []⟩)) _ _ _
  refine wpAny_bind (wpAny_rule ?_)
  refine wpAny_bind ?_
  show wpAny _ _ (updateSeq s.heap.objs.size (·.push .none) >>= fun _ => updateSeq s.heap.objs.size (·.pop)) _ _ _
  refine wpAny_bind (wpAny_updateSeq (N3 _ (.head _)).1 rfl ?_)
  obtain ⟨F4, N4⟩ := news_upd (pre := []) (post := led6 p2 p1 x dx lex dl od ol) (o' := lst #[.none] 1) (f := Obj.mapSeq (·.push Value.none)) F3 N3 (fun _ hp => nomatch hp) (fun p hp => Nat.ne_of_lt (lt p hp)) rfl rfl
  have k4 : ∀ b o, s.heap.get? b = some o → (h3.update s.heap.objs.size (Obj.mapSeq (·.push Value.none))).get? b = some o := fun b o e => upd_keep (k3 b o e) (Nat.ne_of_lt (Heap.lt_size e))
  refine wpAny_updateSeq (hz := by seq_fits) (N4 _ (.head _)).1 rfl ?_
  obtain ⟨F5, N5⟩ := news_upd (pre := []) (post := led6 p2 p1 x dx lex dl od ol) (o' := lst #[] 2) (f := Obj.mapSeq (·.pop)) F4 N4 (fun _ hp => nomatch hp) (fun p hp => Nat.ne_of_lt (lt p hp)) rfl rfl
  have k5 : ∀ b o, s.heap.get? b = some o → ((h3.update s.heap.objs.size (Obj.mapSeq (·.push Value.none))).update s.heap.objs.size (Obj.mapSeq (·.pop))).get? b = some o := fun b o e => upd_keep (k4 b o e) (Nat.ne_of_lt (Heap.lt_size e))
  clear F4 N4 k4 F3 N3 k3 I3
  generalize (h3.update s.heap.objs.size (Obj.mapSeq (·.push Value.none))).update s.heap.objs.size (Obj.mapSeq (·.pop)) = h5 at *
  refine wpAny_pure ⟨plainId_quiet PySem.F.plain_extend_loop _, ?_⟩
  -- the first turn
  refine codeAny_builtin PySem.F.entry_extend_loop ?_
  rw [Around.under_plainId PySem.F.plain_extend_loop _]
  show wpAny _ _ (pyNext (.ref lex) >>= _) _ _ _
  refine wpAny_bind ?_
  have I5 : InstAt h5 lex (instObj 746 dl) 746 (some ol) := ⟨(N5 _ (.tail _ (.tail _ (.tail _ (.tail _ (.tail _ (.head _))))))).1, rfl, rfl, (N5 _ (.tail _ (.tail _ (.tail _ (.tail _ (.tail _ (.tail _ (.head _)))))))).1⟩
  refine owit_next (C := 746) F5 X I5 (by k_is) (by k_is) ?_
  refine C2 dp (un + 2) gd cn cs a ccd cl outer A₀ base h₀ L m _ _ _ B F5 X (fun p hp => N5 p (.tail _ hp)) T hk (by omega) (by omega) fun e h9 tk9 kp9 hcls _ => ?_
  obtain ⟨oe, hoe, hoc⟩ := hcls
  unfold OwitStop
  refine wpAny_isInstance (T := "StopIteration") ⟨oe, hoe, hoc⟩ stop_sub ?_
  rw [if_pos rfl]
  dsimp only
  have nS : s.heap.objs.size ∉ (led6 p2 p1 x dx lex dl od ol).map (·.1) := fun q => by
    obtain ⟨r, hr, e⟩ := List.mem_map.mp q
    exact absurd e (Nat.ne_of_lt (lt r hr))
  have nF : s.heap.objs.size ∉ L :: outer.filterMap (·.frame) := fun q => by
    rcases List.mem_cons.mp q with z | z
    · exact (N5 _ (.head _)).2.1 z
    · obtain ⟨_, o, ho', _⟩ := B.frames.mem z
      have := (N5 _ (.head _)).2.2
      rw [ho'] at this; cases this
  have fin9 : Q (.ref s.heap.objs.size) { s with heap := h9, toks := tk9 } := ret h9 tk9 2 ⟨fun b o e n1 n2 => kp9.1 b o (k5 b o e) n1 n2, fun b o e m => kp9.2 b o (k5 b o e) m⟩ (kp9.1 _ _ (N5 _ (.head _)).1 nS nF)
  exact wpAny_pure ⟨rfl, fin9⟩
end
end Mine
end T_Ls
section T_Sq
set_option maxHeartbeats 4000000
namespace Mine
theorem keepW_tail {ac ac' fs : List Addr} {h g h8 h' : Heap} {L' : Addr} {m' : Str → Option Value} {news : List (Addr × Obj)} (hfr : FrOk ac fs h) (hkeep : ∀ b o, h.get? b = some o → b ∉ ac → g.get? b = some o)
    (F : Fr g L' h8 m') (N : News g L' h8 news) (K : KeepW ac' (L' :: fs) h8 h') (hac : ∀ a ∈ ac', ∃ o, (a, o) ∈ news) : KeepW ac fs h h' := by
  have hna : ∀ b o, g.get? b = some o → b ∉ ac' := fun b o e q => by
    obtain ⟨o', hm⟩ := hac b q
    have := (N _ hm).2.2
    rw [e] at this; cases this
  refine ⟨fun b o e n1 n2 => ?_, fun b o e m => ?_⟩
  · have e1 := hkeep b o e n1
    refine K.1 b o (F.keep b o e1) (hna b o e1) fun q => ?_
    rcases List.mem_cons.mp q with z | z
    · rw [z, kts_self F] at e1; cases e1
    · exact n2 z
  · exact K.2 b o (F.keep b o (hkeep b o e (hfr b o e m).1)) (.tail _ m)
section
variable {w : World} {mean : ExcName → Option Value} {mg mb : Str → Option Value} {dp un : Nat} {gd : Option (List Code)} {cn : Str} {cs : Scope} {a : Addr} {ccd : Value} {cl : List (Str × Addr)} {outer : List Env} {A₀ : Around} {base h₀ : Heap} {L : Addr} {m : Str → Option Value} {s : Shared} {Q E : Value → Shared → Prop}
  {p2 p1 x dx lex dl D C : Nat} {od ol oD oC : Obj} {buf fin : Str} {t0 : Tok} {fs : List Addr} {h : Heap}
noncomputable abbrev led8 (p2 p1 x dx D C lex dl : Nat) (od oD oC ol : Obj) : List (Addr × Obj) := [(p2, dequeObj [] 0), (p1, dequeObj [] 0), (x, instObj 611 dx), (dx, od), (D, oD), (C, oC), (lex, instObj 746 dl), (dl, ol)]
theorem led8_6 : ∀ p ∈ led6 p2 p1 x dx lex dl od ol, p ∈ led8 p2 p1 x dx D C lex dl od oD oC ol := fun p hp => by
  simp only [List.mem_cons, List.not_mem_nil, or_false] at hp ⊢
  rcases hp with q | q | q | q | q | q
  · exact .inl q
  · exact .inr (.inl q)
  · exact .inr (.inr (.inl q))
  · exact .inr (.inr (.inr (.inl q)))
  · exact .inr (.inr (.inr (.inr (.inr (.inr (.inl q))))))
  · exact .inr (.inr (.inr (.inr (.inr (.inr (.inr q))))))
theorem CallsStop.mono {f : Addr} {args : List Value} {need : Nat} {act : List (Addr × Obj)} {post post' : Heap → Prop} (H : CallsStop w mean mg mb f args need act post) (h : ∀ b, post b → post' b) : CallsStop w mean mg mb f args need act post' :=
  fun _ _ _ _ _ _ _ _ _ _ _ _ _ _ _ _ _ B F X N T hk hd hu ret => H _ _ _ _ _ _ _ _ _ _ _ _ _ _ _ _ _ B F X N T hk hd hu fun e h' tk' k c q => ret e h' tk' k c (h _ q)
theorem split_end (B : Below A₀ base outer h₀) (F : Fr h₀ L s.heap m) (X : (Mine.hd.heap_1_1 w.params).In h₀) (N : News h₀ L s.heap (led8 p2 p1 x dx D C lex dl od oD oC ol)) (T : Top VW LO mean mg mb h₀) (hk : cs.kind = .function)
    (o1 : dl < lex) (o2 : lex < C) (o3 : C < D) (o4 : D < dx) (o5 : dx < x) (o6 : x < p1) (o7 : p1 < p2) (hs : IsStream od buf 0) (hl : IsLex ol x p1 p2 (.str (Str.ofString " ") t0) (Str.ofString "")) (hlen : buf.length < 1000)
    (hfr : FrOk [] (outer.filterMap (·.frame)) h) (hkeep : ∀ b o, h.get? b = some o → b ∉ ([] : List Addr) → h₀.get? b = some o)
    (hrt : ∀ (p2 p1 xs dx lex dl : Nat) (od ol : Obj) (t0 : Tok), dl < lex ∧ lex < dx ∧ dx < xs ∧ xs < p1 ∧ p1 < p2 → IsStream od buf 0 → IsLex ol xs p1 p2 (.str (Str.ofString " ") t0) (Str.ofString "") →
      Calls w mean mg mb 714 [.ref lex] 6 (led6 p2 p1 xs dx lex dl od ol) (fun _ => True) (fun _ v h' => RtPost p2 p1 xs dx lex dl buf v h' (fun v => ∃ t, v = .str fin t)))
    (hd : dp + 9 < recursionLimit) (hu : un + 80 < cLine)
    (ret : ∀ h' tk' c t Dn, KeepW [] (outer.filterMap (·.frame)) h h' → h.get? Dn = none → h'.get? Dn = some (lst #[.str fin t] c) → Q (.ref Dn) { s with heap := h', toks := tk' }) :
    wpAny (model PR w) (ktrTop dp un gd cn cs L a ccd cl outer) (call (.type "list") [.ref lex]) Q E s := by
  have ho : dl < lex ∧ lex < dx ∧ dx < x ∧ x < p1 ∧ p1 < p2 := ⟨o1, by omega, o5, o6, o7⟩
  refine list_lex B F X (fun p hp => N p (led8_6 p hp)) T hk ho (iter_spec w mg mb mean lex) (next_tok w mg mb mean p2 p1 x dx lex dl od ol buf fin _ _ (hrt p2 p1 x dx lex dl od ol t0 ho hs hl) ho hl)
    (fun od' ol' hs' hl' => (next_stop w mg mb mean p2 p1 x dx lex dl od' ol' buf _ _ (read_token_none w mg mb mean p2 p1 x dx lex dl od' ol' buf ho hs' hl' hlen) ho hl').mono fun _ _ => trivial) hd hu fun h' tk' c t K g => ?_
  refine ret h' tk' c t _ (keepW_tail hfr hkeep F N K fun a ha => ?_) ?_ g
  · obtain ⟨p, hp, rfl⟩ := List.mem_map.mp ha
    exact ⟨p.2, led8_6 p hp⟩
  · cases e : h.get? s.heap.objs.size with
    | none => rfl
    | some o => exact absurd (Heap.lt_size (F.keep _ _ (hkeep _ _ e (fun q => nomatch q)))) (Nat.lt_irrefl _)
theorem split_end0 (B : Below A₀ base outer h₀) (F : Fr h₀ L s.heap m) (X : (Mine.hd.heap_1_1 w.params).In h₀) (N : News h₀ L s.heap (led8 p2 p1 x dx D C lex dl od oD oC ol)) (T : Top VW LO mean mg mb h₀) (hk : cs.kind = .function)
    (o1 : dl < lex) (o2 : lex < C) (o3 : C < D) (o4 : D < dx) (o5 : dx < x) (o6 : x < p1) (o7 : p1 < p2) (hs : IsStream od buf 0) (hl : IsLex ol x p1 p2 (.str (Str.ofString " ") t0) (Str.ofString ""))
    (hfr : FrOk [] (outer.filterMap (·.frame)) h) (hkeep : ∀ b o, h.get? b = some o → b ∉ ([] : List Addr) → h₀.get? b = some o)
    (hrt : ∀ (p2 p1 xs dx lex dl : Nat) (od ol : Obj) (t0 : Tok), dl < lex ∧ lex < dx ∧ dx < xs ∧ xs < p1 ∧ p1 < p2 → IsStream od buf 0 → IsLex ol xs p1 p2 (.str (Str.ofString " ") t0) (Str.ofString "") →
      Calls w mean mg mb 714 [.ref lex] 6 (led6 p2 p1 xs dx lex dl od ol) (fun _ => True) (fun _ v h' => RtPost p2 p1 xs dx lex dl buf v h' (fun v => v = .none)))
    (hd : dp + 9 < recursionLimit) (hu : un + 80 < cLine)
    (ret : ∀ h' tk' c Dn, KeepW [] (outer.filterMap (·.frame)) h h' → h.get? Dn = none → h'.get? Dn = some (lst #[] c) → Q (.ref Dn) { s with heap := h', toks := tk' }) :
    wpAny (model PR w) (ktrTop dp un gd cn cs L a ccd cl outer) (call (.type "list") [.ref lex]) Q E s := by
  have ho : dl < lex ∧ lex < dx ∧ dx < x ∧ x < p1 ∧ p1 < p2 := ⟨o1, by omega, o5, o6, o7⟩
  refine list_lex0 B F X (fun p hp => N p (led8_6 p hp)) T hk ho (iter_spec w mg mb mean lex)
    ((next_stop w mg mb mean p2 p1 x dx lex dl od ol buf _ _ (hrt p2 p1 x dx lex dl od ol t0 ho hs hl) ho hl).mono fun _ _ => trivial) hd hu fun h' tk' c K g => ?_
  refine ret h' tk' c _ (keepW_tail hfr hkeep F N K fun a ha => ?_) ?_ g
  · obtain ⟨p, hp, rfl⟩ := List.mem_map.mp ha
    exact ⟨p.2, led8_6 p hp⟩
  · cases e : h.get? s.heap.objs.size with
    | none => rfl
    | some o => exact absurd (Heap.lt_size (F.keep _ _ (hkeep _ _ e (fun q => nomatch q)))) (Nat.lt_irrefl _)
/-- what split gives -/
inductive SplitPost (buf fin : Str) (h : Heap) (v : Value) (h' : Heap) : Prop where
  | mk (D : Addr) (items : Array Value) (c : Nat) (_ : v = .ref D) (_ : h.get? D = none) (_ : h'.get? D = some (lst items c)) (_ : (buf.cps.toList = [] → items = #[])) (_ : (buf.cps.toList ≠ [] → ∃ t, items = #[.str fin t])) : SplitPost buf fin h v h'
theorem split_endB (B : Below A₀ base outer h₀) (F : Fr h₀ L s.heap m) (X : (Mine.hd.heap_1_1 w.params).In h₀) (N : News h₀ L s.heap (led8 p2 p1 x dx D C lex dl od oD oC ol)) (T : Top VW LO mean mg mb h₀) (hk : cs.kind = .function)
    (o1 : dl < lex) (o2 : lex < C) (o3 : C < D) (o4 : D < dx) (o5 : dx < x) (o6 : x < p1) (o7 : p1 < p2) (hs : IsStream od buf 0) (hl : IsLex ol x p1 p2 (.str (Str.ofString " ") t0) (Str.ofString "")) (hlen : buf.length < 1000)
    (hfr : FrOk [] (outer.filterMap (·.frame)) h) (hkeep : ∀ b o, h.get? b = some o → b ∉ ([] : List Addr) → h₀.get? b = some o)
    (hrt : ∀ (p2 p1 xs dx lex dl : Nat) (od ol : Obj) (t0 : Tok), dl < lex ∧ lex < dx ∧ dx < xs ∧ xs < p1 ∧ p1 < p2 → IsStream od buf 0 → IsLex ol xs p1 p2 (.str (Str.ofString " ") t0) (Str.ofString "") →
      Calls w mean mg mb 714 [.ref lex] 6 (led6 p2 p1 xs dx lex dl od ol) (fun _ => True) (fun _ v h' => RtPost p2 p1 xs dx lex dl buf v h' (fun v => (buf.cps.toList = [] → v = .none) ∧ (buf.cps.toList ≠ [] → ∃ t, v = .str fin t))))
    (hd : dp + 9 < recursionLimit) (hu : un + 80 < cLine)
    (ret : ∀ v h' tk', KeepW [] (outer.filterMap (·.frame)) h h' → SplitPost buf fin h v h' → Q v { s with heap := h', toks := tk' }) :
    wpAny (model PR w) (ktrTop dp un gd cn cs L a ccd cl outer) (call (.type "list") [.ref lex]) Q E s := by
  by_cases hb : buf.cps.toList = []
  · refine split_end0 B F X N T hk o1 o2 o3 o4 o5 o6 o7 hs hl hfr hkeep (fun p2 p1 xs dx lex dl od ol t0 a b c => (hrt p2 p1 xs dx lex dl od ol t0 a b c).mono ?_) hd hu fun h' tk' c Dn k n g => ret _ h' tk' k ⟨Dn, #[], c, rfl, n, g, fun _ => rfl, fun q => absurd hb q⟩
    rintro _ v h' ⟨od', ol', h1, h2, h3, h4⟩
    exact ⟨od', ol', h1, h2, h3, h4.1 hb⟩
  · refine split_end (fin := fin) B F X N T hk o1 o2 o3 o4 o5 o6 o7 hs hl hlen hfr hkeep (fun p2 p1 xs dx lex dl od ol t0 a b c => (hrt p2 p1 xs dx lex dl od ol t0 a b c).mono ?_) hd hu fun h' tk' c t Dn k n g => ret _ h' tk' k ⟨Dn, _, c, rfl, n, g, fun q => absurd q hb, fun _ => ⟨t, rfl⟩⟩
    rintro _ v h' ⟨od', ol', h1, h2, h3, h4⟩
    exact ⟨od', ol', h1, h2, h3, h4.2 hb⟩
end
end Mine
end T_Sq
section T_Sp
theorem Mine.linesSp : True := by
  k_with_none
  k_with "omega" => (first | (k_whole; with_reducible assumption) | (law_clear; first | with_reducible assumption | decide +kernel | ((with_reducible show List.length (_ :: _) ≤ _); exact Nat.le_of_ble_eq_true (Eq.refl true)) | ((first | refine Mine.rm2 (by with_reducible assumption) ?_ | refine Mine.rm3 (by with_reducible assumption) ?_ | refine Mine.rm1 (by with_reducible assumption) ?_ | refine Mine.bd1 (by with_reducible assumption) ?_ | refine Mine.bd3 (by with_reducible assumption) ?_ | refine Mine.bd2 (by with_reducible assumption) ?_ | refine Mine.bd4 (by with_reducible assumption) ?_ | refine Mine.bd5 (by with_reducible assumption) ?_ | refine Mine.bd6 (by with_reducible assumption) ?_ | refine Mine.bd7 (by with_reducible assumption) ?_ | refine Mine.bd8 (by with_reducible assumption) ?_); exact Eq.refl true) | ((first | refine Mine.ci1 (by with_reducible assumption) ?_ | refine Mine.ci2 (by with_reducible assumption) ?_); decide) | exact Mine.rm0 (by with_reducible assumption) | exact Mine.lp1 (by with_reducible assumption) (by with_reducible assumption) | exact Mine.lp2 (by with_reducible assumption) (by with_reducible assumption) | exact Mine.lp3 (by with_reducible assumption) | lia))
  k_with "ite" => (first | (with_reducible refine PySem.W.ite_neg (by with_reducible assumption) ?_) | (with_reducible refine PySem.W.ite_pos (by with_reducible assumption) ?_))
  k_with "ite" => (k_closed; first | (with_reducible refine PySem.W.ite_neg (by decide +kernel) ?_) | (with_reducible refine PySem.W.ite_pos (by decide +kernel) ?_))
  k_with "getAttr ref" => (k_here; k_dflt (refine' PySem.W.get_own ?hzk1 ?hzk2 ?hzk3 ?hzk4 ?hzk5 ?hzk6 ?hzk7 ?hzk8 ?hzk9 ?_; (case hzk1 => k_asm); (case hzk2 => k_asm); (case hzk3 => k_inst); (case hzk8 => k_get); (case hzk4 => k_is); (case hzk5 => k_is); (case hzk6 => k_is); (case hzk7 => k_is); (case hzk9 => k_handed); k_whole))
  k_with "eval Name" => (k_here; (first | (with_reducible show wpAny _ _ (eval (PySem.Expr.Name _ _) (envOf _ _ _ _ _)) _ _ _) | (with_reducible show wpAny _ _ (eval (PySem.Expr.Name _ _) (envOfC _ _ _ _ _)) _ _ _)); name_kind "globalImplicit"; k_dflt (first | (refine' PySem.W.nameX_K ?hzF ?hzX ?hzT ?hze ?_ ?hza ?hzb ?hzd; (case hzF => k_asm); (case hzX => k_asm); (case hzT => k_asm); (case hze => k_is); (case hza => first | kernel_rfl | rfl); (case hzb => first | kernel_rfl | rfl); (case hzd => first | kernel_rfl | decide); k_whole) | (refine' PySem.W.nameX_B ?hzF ?hzX ?hzT ?hze ?hzv ?hzn ?_ ?hza ?hzb ?hzd; (case hzF => k_asm); (case hzX => k_asm); (case hzT => k_asm); (case hze => k_is); (case hzv => boot_fast); (case hzn => decide +kernel); (case hza => first | kernel_rfl | rfl); (case hzb => first | kernel_rfl | rfl); (case hzd => first | kernel_rfl | decide); k_whole)))
  k_with "eval Name" => (k_here; (first | (with_reducible show wpAny _ _ (eval (PySem.Expr.Name _ _) (envOf _ _ _ _ _)) _ _ _) | (with_reducible show wpAny _ _ (eval (PySem.Expr.Name _ _) (envOfC _ _ _ _ _)) _ _ _)); name_kind "local"; k_dflt (refine' PySem.W.nameX_L ?hzF ?hzv ?_ ?hza ?hzb ?hzd; (case hzF => k_asm); (case hzv => exact Eq.refl (some _)); (case hza => first | kernel_rfl | rfl); (case hzb => first | kernel_rfl | rfl); (case hzd => first | kernel_rfl | decide); k_whole))
  k_with "eval Name" => (k_here; (first | (with_reducible show wpAny _ _ (eval (PySem.Expr.Name _ _) (envOf _ _ _ _ _)) _ _ _) | (with_reducible show wpAny _ _ (eval (PySem.Expr.Name _ _) (envOfC _ _ _ _ _)) _ _ _)); name_kind "cell"; k_dflt (refine' PySem.W.nameX_C ?hzN ?hzc ?hzm ?hzd ?_ ?hza ?hzb ?hze; (case hzN => k_asm); (case hzc => exact Eq.refl (some _)); (case hzm => k_mem); (case hzd => k_asm); (case hza => first | kernel_rfl | rfl); (case hzb => first | kernel_rfl | rfl); (case hze => first | kernel_rfl | rfl); k_whole))
  k_with "eval Name" => (k_here; (with_reducible show wpAny _ _ (eval (PySem.Expr.Name _ _) (compEnvC _ _ _ _)) _ _ _); k_dflt (first | (refine' PySem.W.kcf_cell ?hzN ?hzc ?hzm ?hzd ?_ ?hza ?hzb ?hze; (case hzb => kernel_rfl); (case hzN => k_asm); (case hzc => exact Eq.refl (some _)); (case hzm => k_mem); (case hzd => k_asm); (case hza => first | kernel_rfl | rfl); (case hze => first | kernel_rfl | rfl); k_whole) | (refine' PySem.W.LCgL.ld_own ?hzN ?hzm ?hzd ?hzc ?_ ?hza ?hzb ?hze; (case hzb => kernel_rfl); (case hzN => k_asm); (case hzm => k_mem); (case hzd => assumption); (case hzc => assumption); (case hza => first | kernel_rfl | rfl); (case hze => first | kernel_rfl | rfl); k_whole)))
  k_with "execs cons" => (k_here; with_reducible refine Mine.gentoks ?_; intro _)
  k_with "execs nil" => (k_here; with_reducible refine Mine.gentoks ?_; intro _)
  k_with "execs cons" => (k_here; k_fold)
  k_with "execs cons" => (k_here; with_reducible refine Mine.foldB ?hzht ?_; (case hzht => ((fail_if_success (fail_if_success (rw [Mine.deepMark]))); k_dflt (exact trivial))); intro _)
  k_with "eval Call" => (k_here; k_fold)
  k_with "eval Subscript" => (k_here; k_fold)
  k_with "eval Compare" => (k_here; k_fold)
  k_with "eval BinOp" => (k_here; k_fold)
  k_with "subscriptTail Attribute" => (k_here; k_dflt (refine PySem.W.kba_turn (value' := PySem.Expr.Name (PySem.Str.ofString "_") ⟨0, 0, 0, 0⟩) (fun _ => rfl) ?_))
  k_with "k_room" => (first | ktr_room | ((simp +zetaDelta only [depth_under_make, depth_under_kw, depth_in1, depth_deeper, depth_caller]); ktr_room))
  k_with "call ref" => (k_here; (with_reducible show wpAny _ _ (call (Value.ref 611) _ _) _ _ _); k_dflt (refine wpAny_call ?_; refine' Mine.make_new (fN := 104) (fI := 381) ?hzk1 ?hzk2 ?hzk3 ?hzk4 ?hzk5 ?hzk6 ?hzk7 ?hzk8 ?hzk9 ?_; (case hzk1 => k_in); (case hzk2 => exact ⟨_, _, _, _, by k_is, rfl⟩); (case hzk3 => k_is); (case hzk4 => k_is); (case hzk5 => k_is); (case hzk6 => exact fun _ => by kernel_rfl); (case hzk7 => k_is); (case hzk8 => k_is); (case hzk9 => (intro _ _ _ hqZ; walk1; exact hqZ)); k_enter))
  k_with "call builtin:object.__new__" => (k_here; k_dflt (refine wpAny_call ?_; refine' Mine.new_own (C := 611) ?hzk1 ?hzk2 ?hzk3 ?hzk4 ?hzk5 ?hzk6 ?hzk7 ?hzk8 ?hzk9 ?_; (case hzk1 => k_asm); (case hzk2 => k_asm); (case hzk3 => k_in); (case hzk4 => exact ⟨_, _, _, _, by k_is, rfl, rfl⟩); (case hzk5 => k_is); (case hzk6 => k_is); (case hzk7 => k_is); (case hzk8 => exact fun _ => by kernel_rfl); (case hzk9 => exact fun _ => by kernel_rfl); intro _ _ _ _ _ l1Z l2Z; (try k_lt l1Z); (try k_lt2 l2Z); (try k_sweep); (try dsimp only)))
  k_with "NewBack" => (k_here; k_dflt (refine ⟨_, News.get (by k_asm) (by k_mem), by k_in, ?_⟩; (try dsimp only); k_enter))
  k_with "call type:collections.deque" => (k_here; k_dflt (refine' Mine.call_deque ?hzk1 ?hzk2 ?_; (case hzk1 => k_asm); (case hzk2 => k_asm); k_whole; intro _ _ _ _ l1Z; (try k_lt l1Z); (try k_sweep)))
  k_with "truthy ref" => (k_here; k_dflt (refine' Mine.truthy_deque ?hzk1 ?hzk2 ?_; (case hzk1 => k_asm); (case hzk2 => k_mem); k_whole; intro _))
  k_with "call ref" => (k_here; (with_reducible show wpAny _ _ (call (Value.ref 557) _) _ _ _); k_dflt (first | (refine' Mine.read_use _ ?hzk1 ?hzk2 ?hzk3 ?hzk4 ?hzk5 ?hzkK ?hzko ?hzks ?hzk7 ?hzk8 ?hzkc ?hzkd ?hzku ?_; (case hzk1 => k_asm); (case hzk2 => k_asm); (case hzk3 => k_asm); (case hzk4 => k_asm); (case hzk5 => k_asm); (case hzkK => exact rfl); (case hzko => assumption); (case hzks => assumption); (case hzkc => assumption); (case hzk7 => assumption); (case hzk8 => assumption); (case hzkd => ktr_room); (case hzku => ktr_units); k_whole; intro t'Z _ h'Z tk'Z F'Z N'Z hs'Z; (try dsimp only)) | (refine' Mine.read_eof_use ?hzk1 ?hzk2 ?hzk3 ?hzk4 ?hzk5 ?hzkK ?hzko ?hzks ?hzk7 ?hzk8 ?hzkd ?hzku ?_; (case hzk1 => k_asm); (case hzk2 => k_asm); (case hzk3 => k_asm); (case hzk4 => k_asm); (case hzk5 => k_asm); (case hzkK => exact rfl); (case hzko => assumption); (case hzks => assumption); (case hzk7 => assumption); (case hzk8 => assumption); (case hzkd => ktr_room); (case hzku => ktr_units); k_whole; intro t'Z h'Z tk'Z F'Z N'Z hs'Z; (try dsimp only))))
  k_with "compareOp In str str" => (k_here; first | refine Mine.in_lit false (by kernel_rfl!) ?_ | refine Mine.in_lit true (by kernel_rfl!) ?_)
  k_with "LoopPost" => ((with_reducible show Mine.LoopPost _ _ _ _ Flow.brk _); dsimp only [Mine.LoopPost])
  k_with "exec If" => (with_reducible refine wpAny_If ?_)
  k_with "k_put" => (first | (with_reducible exact Mine.lex_put_state) | (with_reducible exact Mine.lex_put_token))
  k_with "call ref" => (k_here; (with_reducible show wpAny _ _ (call (Value.ref 714) _) _ _ _); k_dflt ( (refine' Mine.rt_use ?hzk1 ?hzk2 ?hzk3 ?hzk4 ?hzk5 ?hzkK ?hzkC ?hzkd ?hzku ?_; (case hzk1 => k_asm); (case hzk2 => k_asm); (case hzk3 => k_asm); (case hzk4 => k_asm); (case hzk5 => k_asm); (case hzkK => exact rfl); (case hzkC => assumption); (case hzkd => ktr_room); (case hzku => ktr_units); k_whole; intro _ _ _ _ _ _ N'Z _ hl'Z hd'Z; (first | subst hd'Z | (obtain ⟨_, hv'Z⟩ := hd'Z; subst hv'Z)); (try dsimp only); (refine Mine.IsLex.open hl'Z ?_; intro _ _ hqZ; subst hqZ); dsimp only [Mine.led6] at N'Z)))
  k_with "leaving ref" => (k_here; k_dflt ((refine' leave_raiseS ?hzk1 ?hzk0 ?hzk2 ?hzk3 ?_; (case hzk0 => first | assumption | exact Heap.MadeExc.of (by assumption)); (case hzk1 => assumption); (case hzk2 => assumption); (case hzk3 => k_asm); k_whole; intro _ _ RS'Z R'Z U'Z; (try dsimp only at RS'Z R'Z U'Z ⊢))))
  trivial
namespace Mine
noncomputable abbrev FrRaw {α : Type} (g : Heap) (L : Addr) (h : Heap) (f : α → Option (Str × Value)) (l : List α) : Prop := Fr g L h (fun y => List.lookup y (List.reverse (List.filterMap f l)))
theorem fr_norm {g : Heap} {L : Addr} {h : Heap} {l l' : List (Str × Value)} (F : Fr g L h (fun y => List.lookup y l)) (e : l = l') : Fr g L h (fun y => List.lookup y l') := e ▸ F
end Mine
theorem Mine.ln7 : True := by
  k_with "execs cons" => (k_here; (with_reducible rename Mine.FrRaw _ _ _ _ _ => hF9Z); k_dflt (first | (have hF8Z := Mine.fr_norm hF9Z (l' := [(_, _), (_, _), (_, _), (_, _), (_, _)]) (Eq.refl _)) | (have hF8Z := Mine.fr_norm hF9Z (l' := [(_, _), (_, _), (_, _)]) (Eq.refl _)) | (have hF8Z := Mine.fr_norm hF9Z (l' := [(_, _), (_, _)]) (Eq.refl _)) | (have hF8Z := Mine.fr_norm hF9Z (l' := [(_, _), (_, _), (_, _), (_, _)]) (Eq.refl _)) | (have hF8Z := Mine.fr_norm hF9Z (l' := [(_, _)]) (Eq.refl _)) | (have hF8Z := Mine.fr_norm hF9Z (l' := [(_, _), (_, _), (_, _), (_, _), (_, _), (_, _)]) (Eq.refl _))); clear hF9Z; dsimp only at hF8Z)
  trivial
theorem Mine.ln8 : True := by
  k_with "setAttr ref" => (k_here; (with_reducible rename ((_ : Nat) < _) ∧ _ => hXZ); (have hYZ := And.left hXZ); (have hZZ := And.right hXZ); clear hXZ)
  trivial
theorem Mine.ln9 : True := by
  k_with "k_ne" => (refine neN ?_; (try dsimp only); first | exact Nat.ne_of_lt (by with_reducible assumption) | exact Nat.ne_of_gt (by with_reducible assumption))
  trivial
namespace Mine
set_option maxHeartbeats 8000000 in
theorem split_spec (w : World) (mg mb) (mean) (x fin : Str) (tx : Tok) (hlen : x.length < 1000)
    (hrt : ∀ (p2 p1 xs dx lex dl : Nat) (od ol : Obj) (t0 : Tok), dl < lex ∧ lex < dx ∧ dx < xs ∧ xs < p1 ∧ p1 < p2 → IsStream od x 0 → IsLex ol xs p1 p2 (.str (Str.ofString " ") t0) (Str.ofString "") →
      Calls w mean mg mb 714 [.ref lex] 6 (led6 p2 p1 xs dx lex dl od ol) (fun _ => True) (fun _ v h' => RtPost p2 p1 xs dx lex dl x v h' (fun v => (x.cps.toList = [] → v = .none) ∧ (x.cps.toList ≠ [] → ∃ t, v = .str fin t)))) :
    CallsW w mean mg mb 758 [.str x tx] 12 [] (fun _ => True) (SplitPost x fin) := by
  w_on
  intro dp un gd cn cs a ccd cl outer A₀ base h₀ L m s Q E B F XB N TB hk hd hu hpre hret
  have X := XB.keeps B.stays
  have T := TB.keeps B.stays
  have hfr := fr_ok B F N
  refine wpAny_call ?_
  k_dflt (refine' Mine.enterC ?k1 ?k2 ?k3 ?k4 ?k5 ?kA ?kF ?kK ?k6 ?k7 ?k8 ?k9 ?kB ?_ ?c2 ?c3 ?c4 ?c5; (case kA => exact rfl); (case kF => exact rfl); (case kK => assumption); (case k1 => k_asm); (case k2 => k_asm); (case k3 => k_asm); (case k4 => k_asm); (case k5 => k_asm); (case k6 => k_is); (case k7 => k_is); (case k8 => ktr_room); (case k9 => first | exact BindsTo.of_eq rfl | exact binds_K (by k_in) rfl (by k_is) rfl rfl rfl | fail "enter_c: the arguments"); (case kB => exact locs rfl); (case c2 => decide); (case c3 => exact rfl); (case c4 => exact rfl); (case c5 => exact rfl); k_whole)
  intro g L' h₁ hgs hkeep hLs F' N' hlt B' X' T'
  try dsimp only
  try k_fold
  try (with_reducible refine Mine.gentoks ?_; intro _)
  try (with_reducible refine Mine.foldB ?hzt ?_; (case hzt => ((fail_if_success (fail_if_success (rw [Mine.deepMark]))); k_dflt (exact trivial))); intro _)
  clear hpre B F X N T XB TB
  k_steps
  k_dflt (
  (refine' Mine.split_endB ?k1 ?k2 ?k3 ?k4 ?k5 ?kK ?o1 ?o2 ?o3 ?o4 ?o5 ?o6 ?o7 ?hs ?hl hlen hfr hkeep hrt ?kd ?ku ?_); (case k1 => k_asm); (case k2 => k_asm); (case k3 => k_asm); (case k4 => k_asm); (case k5 => k_asm); (case kK => exact rfl); k_whole)
  case o1 => omega
  case o2 => omega
  case o3 => omega
  case o4 => omega
  case o5 => omega
  case o6 => omega
  case o7 => omega
  case hs => exact ⟨(_, _), (_, _), (_, _), _, _, _, rfl⟩
  case hl => exact ⟨⟨_, _, _, _, _, _, _, _, _, _, _, _, _, _, _, _, _, _, _, _, _, _, _, _, _, _, _, _, _, _, _, _, _, _, _, _, _, _, _, _, _, _, _, _, _, _, _⟩, _, rfl⟩
  case kd => ktr_room
  case ku => ktr_units
  intro v' h' tk' K' P'
  try dsimp only
  exact hret _ _ _ K' P'
end Mine
end T_Sp
section T_Cc
namespace Mine
/-- a def with cells is entered -/
theorem enterCellC {w : World} {mean : ExcName → Option Value} {mg mb : Str → Option Value} {A₀ A : Around} {s : Shared} {base h₀ : Heap} {outer : List Env} {L : Addr} {m : Str → Option Value} {env : Env} {act : List (Addr × Obj)}
    {R : Result → Shared → Prop} {name qual : Str} {params : Arguments} {body : List Stmt} {scope : Scope} {dV kV doc pm cdv ct oc : Value} {an od : Option Addr} {osl : Array (Option Value)} {f : Addr} {args : Args} {binds : List (Str × Value)}
    (B : Below A₀ base outer h₀) (F : Fr h₀ L s.heap m) (X₀ : (Mine.hd.heap_1_1 w.params).In h₀) (N : News h₀ L s.heap act) (T : Top VW LO mean mg mb h₀) (hA : A.frames = some (env :: outer)) (hf : env.frame = some L) (hke : env.scope.kind = .function)
    (ho : (Mine.hd.heap_1_1 w.params).lookup f = some ⟨oc, od, .func (fnOf name qual params body scope dV kV doc pm an cdv ct), osl⟩) (hcd : codeIn (Mine.hd.heap_1_1 w.params) cdv qual = true) (hroom : A.depth < recursionLimit)
    (hbind : BindsTo s (fnOf name qual params body scope dV kV doc pm an cdv ct) args binds) (hkind : (binds.all fun y => scope.names.lookup y.1 == some .local || scope.names.lookup y.1 == some .cell) = true)
    (hnd : ((cellsFrom 0 scope.names []).map (·.1)).Nodup)
    (h : ∀ g L' h₁ tk cells, g.StaysIn s.heap → (∀ b o, s.heap.get? b = some o → b ∉ act.map (·.1) → g.get? b = some o) → s.heap.objs.size = L' → Fr g L' h₁ (bindL (envOfC qual scope L' f cdv).kindOf binds fun _ => none) → News g L' h₁ (cells ++ act) →
      CellsAre (bindC (envOfC qual scope L' f cdv).kindOf binds fun _ => none) (cellsFrom (L' + 1) scope.names []) cells → (∀ p ∈ act, p.1 < L') → Below A base (env :: outer) g → (Mine.hd.heap_1_1 w.params).In g → Top VW LO mean mg mb g →
      wpAny (model PR w) (A.deeper (envOfC qual scope L' f cdv)) (execs body (envOfC qual scope L' f cdv))
        (fun fl s' => R (.ok (.ret (match fl with | .ret v => v | _ => .none))) s')
        (fun e s' => wpAny (model PR w) (A.deeper (envOfC qual scope L' f cdv)) (leaving (envOfC qual scope L' f cdv) e) (fun _ s'' => R (.error e) s'') (fun e' s'' => R (.error e') s'') s')
        { s with heap := h₁, toks := tk })
    (hco : scope.isCoroutine = false) (hgen : scope.isGenerator = false) (hk : scope.kind = .function) : codeAny (model PR w) A (.call (.ref f) args) R s := by
  obtain ⟨FG, BG, st, lv⟩ := groundX (R := R) B F N hA hf hke
  refine codeAny_call_function hroom ((X₀.keeps F.keep) _ _ ho) rfl hco hgen rfl (codeRec_of (X₀.keeps F.keep) hcd) (hbind _ _ _ _ ?_)
  refine wpAny_newFunctionEnv_cells hk (kindsX hkind _) fun env' he s' x => ?_
  subst he
  refine ⟨(T.nolimit.keeps F.keep).keeps x.toInCall.keep, codeAny_func ?_⟩
  obtain ⟨h₁, tk, rfl, _⟩ := x.done
  have hk₁ := x.toInCall.keep
  obtain ⟨cells, NC, Y⟩ := Cl.news (h₀ := s.heap) (Nat.le_refl _) fun n c hm => ⟨x.cell n c (lookup_of_mem_nodup (cellsFrom_names scope.names 0 (s.heap.objs.size + 1) [] [] rfl ▸ hnd) hm), x.above n c hm⟩
  refine h _ s.heap.objs.size h₁ tk cells (fun b o e => of_hideAll _ e) (fun b o e q => hideAll_get _ e q) rfl ⟨x.toInCall.ns, fun b o e => hk₁ b o (of_hideAll _ e), Nat.le_of_eq (hideAll_size _ _)⟩ (fun p hp => ?_) Y (fun p hp => Heap.lt_size (N p hp).1) BG (X₀.keeps st) (T.keeps st)
  rcases List.mem_append.mp hp with hp | hp
  · refine ⟨(NC p hp).1, (NC p hp).2.1, ?_⟩
    cases q : (hideAll s.heap (act.map (·.1))).get? p.1 with
    | none => rfl
    | some o => have := of_hideAll _ q; rw [(NC p hp).2.2] at this; cases this
  · exact ⟨hk₁ _ _ (N p hp).1, Nat.ne_of_lt (Heap.lt_size (N p hp).1), hideAll_none _ (List.mem_map_of_mem hp)⟩
end Mine
end T_Cc
section T_Ev
theorem Mine.linesEv : True := by
  k_with_none
  k_with "omega" => (first | (k_whole; with_reducible assumption) | (law_clear; first | with_reducible assumption | decide +kernel | ((with_reducible show List.length (_ :: _) ≤ _); exact Nat.le_of_ble_eq_true (Eq.refl true)) | ((first | refine Mine.rm2 (by with_reducible assumption) ?_ | refine Mine.rm3 (by with_reducible assumption) ?_ | refine Mine.rm1 (by with_reducible assumption) ?_ | refine Mine.bd1 (by with_reducible assumption) ?_ | refine Mine.bd3 (by with_reducible assumption) ?_ | refine Mine.bd2 (by with_reducible assumption) ?_ | refine Mine.bd4 (by with_reducible assumption) ?_ | refine Mine.bd5 (by with_reducible assumption) ?_ | refine Mine.bd6 (by with_reducible assumption) ?_ | refine Mine.bd7 (by with_reducible assumption) ?_ | refine Mine.bd8 (by with_reducible assumption) ?_); exact Eq.refl true) | ((first | refine Mine.ci1 (by with_reducible assumption) ?_ | refine Mine.ci2 (by with_reducible assumption) ?_); decide) | exact Mine.rm0 (by with_reducible assumption) | exact Mine.lp1 (by with_reducible assumption) (by with_reducible assumption) | exact Mine.lp2 (by with_reducible assumption) (by with_reducible assumption) | exact Mine.lp3 (by with_reducible assumption) | lia))
  k_with "ite" => (first | (with_reducible refine PySem.W.ite_neg (by with_reducible assumption) ?_) | (with_reducible refine PySem.W.ite_pos (by with_reducible assumption) ?_))
  k_with "ite" => (k_closed; first | (with_reducible refine PySem.W.ite_neg (by decide +kernel) ?_) | (with_reducible refine PySem.W.ite_pos (by decide +kernel) ?_))
  k_with "getAttr ref" => (k_here; k_dflt (refine' PySem.W.get_own ?hzk1 ?hzk2 ?hzk3 ?hzk4 ?hzk5 ?hzk6 ?hzk7 ?hzk8 ?hzk9 ?_; (case hzk1 => k_asm); (case hzk2 => k_asm); (case hzk3 => k_inst); (case hzk8 => k_get); (case hzk4 => k_is); (case hzk5 => k_is); (case hzk6 => k_is); (case hzk7 => k_is); (case hzk9 => k_handed); k_whole))
  k_with "eval Name" => (k_here; (first | (with_reducible show wpAny _ _ (eval (PySem.Expr.Name _ _) (envOf _ _ _ _ _)) _ _ _) | (with_reducible show wpAny _ _ (eval (PySem.Expr.Name _ _) (envOfC _ _ _ _ _)) _ _ _)); name_kind "globalImplicit"; k_dflt (first | (refine' PySem.W.nameX_K ?hzF ?hzX ?hzT ?hze ?_ ?hza ?hzb ?hzd; (case hzF => k_asm); (case hzX => k_asm); (case hzT => k_asm); (case hze => k_is); (case hza => first | kernel_rfl | rfl); (case hzb => first | kernel_rfl | rfl); (case hzd => first | kernel_rfl | decide); k_whole) | (refine' PySem.W.nameX_B ?hzF ?hzX ?hzT ?hze ?hzv ?hzn ?_ ?hza ?hzb ?hzd; (case hzF => k_asm); (case hzX => k_asm); (case hzT => k_asm); (case hze => k_is); (case hzv => boot_fast); (case hzn => decide +kernel); (case hza => first | kernel_rfl | rfl); (case hzb => first | kernel_rfl | rfl); (case hzd => first | kernel_rfl | decide); k_whole)))
  k_with "eval Name" => (k_here; (first | (with_reducible show wpAny _ _ (eval (PySem.Expr.Name _ _) (envOf _ _ _ _ _)) _ _ _) | (with_reducible show wpAny _ _ (eval (PySem.Expr.Name _ _) (envOfC _ _ _ _ _)) _ _ _)); name_kind "local"; k_dflt (refine' PySem.W.nameX_L ?hzF ?hzv ?_ ?hza ?hzb ?hzd; (case hzF => k_asm); (case hzv => exact Eq.refl (some _)); (case hza => first | kernel_rfl | rfl); (case hzb => first | kernel_rfl | rfl); (case hzd => first | kernel_rfl | decide); k_whole))
  k_with "eval Name" => (k_here; (first | (with_reducible show wpAny _ _ (eval (PySem.Expr.Name _ _) (envOf _ _ _ _ _)) _ _ _) | (with_reducible show wpAny _ _ (eval (PySem.Expr.Name _ _) (envOfC _ _ _ _ _)) _ _ _)); name_kind "cell"; k_dflt (refine' PySem.W.nameX_C ?hzN ?hzc ?hzm ?hzd ?_ ?hza ?hzb ?hze; (case hzN => k_asm); (case hzc => exact Eq.refl (some _)); (case hzm => k_mem); (case hzd => k_asm); (case hza => first | kernel_rfl | rfl); (case hzb => first | kernel_rfl | rfl); (case hze => first | kernel_rfl | rfl); k_whole))
  k_with "eval Name" => (k_here; (with_reducible show wpAny _ _ (eval (PySem.Expr.Name _ _) (compEnvC _ _ _ _)) _ _ _); k_dflt (first | (refine' PySem.W.kcf_cell ?hzN ?hzc ?hzm ?hzd ?_ ?hza ?hzb ?hze; (case hzb => kernel_rfl); (case hzN => k_asm); (case hzc => exact Eq.refl (some _)); (case hzm => k_mem); (case hzd => k_asm); (case hza => first | kernel_rfl | rfl); (case hze => first | kernel_rfl | rfl); k_whole) | (refine' PySem.W.LCgL.ld_own ?hzN ?hzm ?hzd ?hzc ?_ ?hza ?hzb ?hze; (case hzb => kernel_rfl); (case hzN => k_asm); (case hzm => k_mem); (case hzd => assumption); (case hzc => assumption); (case hza => first | kernel_rfl | rfl); (case hze => first | kernel_rfl | rfl); k_whole)))
  k_with "execs cons" => (k_here; with_reducible refine Mine.gentoks ?_; intro _)
  k_with "execs nil" => (k_here; with_reducible refine Mine.gentoks ?_; intro _)
  k_with "execs cons" => (k_here; k_fold)
  k_with "execs cons" => (k_here; with_reducible refine Mine.foldB ?hzht ?_; (case hzht => ((fail_if_success (fail_if_success (rw [Mine.deepMark]))); k_dflt (exact trivial))); intro _)
  k_with "eval Call" => (k_here; k_fold)
  k_with "eval Subscript" => (k_here; k_fold)
  k_with "eval Compare" => (k_here; k_fold)
  k_with "eval BinOp" => (k_here; k_fold)
  k_with "subscriptTail Attribute" => (k_here; k_dflt (refine PySem.W.kba_turn (value' := PySem.Expr.Name (PySem.Str.ofString "_") ⟨0, 0, 0, 0⟩) (fun _ => rfl) ?_))
  k_with "k_room" => (first | ktr_room | ((simp +zetaDelta only [depth_under_make, depth_under_kw, depth_in1, depth_deeper, depth_caller]); ktr_room))
  k_with "CompSrc" => (k_here; (with_reducible rename Mine.EvenMark _ _ _ => evMZ); (k_dflt ( (refine LCg.CompSrc.range (by rfl) (by k_asm) (by k_asm) (by assumption) (by first | decide | exact small_one (by l_bnd) (by l_bnd) (by l_bnd) (by l_bnd)) (by first | exact rangeSize_nat _ _ | rfl) (by first | exact Nat.le_of_ble_eq_true rfl | (rw [PySem.sizeLine_eq]; first | omega | ((have hb9Z := len_ints_list (by lay_of)); omega)) | size_fits) ?_; intro _; (refine' Mine.even_range evMZ (fun _ _ _ _ _ _ _ _ _ _ _ _ _ _ _ _ _ _ off'Z _ => ?_) ?_); (all_goals (try (simp only [LCg.Off3, and_true] at off'Z))); (all_goals (try ((show KPfMark → _); intro _))); kcf_last))))
  trivial
namespace Mine
theorem even_idx (p q k : Int) (hp : 0 < p) (hq : p ≤ q) : 0 ≤ ((k + 1) * p).fdiv q - (k * p).fdiv q ∧ ((k + 1) * p).fdiv q - (k * p).fdiv q < 2 := by
  have q0 : 0 < q := by omega
  rw [Int.fdiv_eq_ediv_of_nonneg _ (by omega), Int.fdiv_eq_ediv_of_nonneg _ (by omega)]
  have e : (k + 1) * p = k * p + p := by rw [Int.add_mul, Int.one_mul]
  rw [e]
  generalize k * p = z
  have h1 : z / q ≤ (z + p) / q := Int.ediv_le_ediv q0 (by omega)
  have h2 : (z + p) / q ≤ (z + q) / q := Int.ediv_le_ediv q0 (by omega)
  have h3 : (z + q) / q = z / q + 1 := by
    have := Int.add_mul_ediv_right z 1 (show q ≠ 0 by omega)
    rwa [Int.one_mul] at this
  omega
/-- the sign at place k -/
noncomputable def evenG (p q : Int) (pr : Str) (k : Int) : Str := Txt.item pr (((k + 1) * p).fdiv q - (k * p).fdiv q)
noncomputable def EvenMark (_p _q : Int) (_pr : Str) : Prop := True
theorem even_range {prog : Program} {w : World} {A : Around} {h₀ : Heap} {L : Addr} {m : Str → Option Value} {env : Env} {elt : Expr} {x : Str} {scope : Scope} {cl : List (Str × Addr)} {s : Shared} {S : List (Addr × Obj) → Prop} {Fin : List Value → List (Addr × Obj) → Prop} {news : List (Addr × Obj)} {n : Nat} {a : Int}
   {p q : Int} {pr : Str} (_ : EvenMark p q pr)
    (turn : ∀ k t I oI C oC D m₂ ys h tk (E' : Value → Shared → Prop), a ≤ k → k < a + (n : Int) → LCg.NsObj oC m₂ → m₂ x = some (.int k t) → Fr h₀ L h m → News h₀ L h ((I, oI) :: (C, oC) :: (D, LCg.lst ys) :: news) → LCg.Off3 I C D news → ((@Ne Nat I C) ∧ (@Ne Nat I D) ∧ (@Ne Nat C D)) → KPfMark →
      wpAny (model prog w) A (eval elt (compEnvC scope cl C env)) (LCg.CompEnd h₀ L m { s with heap := h, toks := tk } I oI C oC D (LCg.lst ys) S (fun y news' => KCtEl news (evenG p q pr k) y news')) E' { s with heap := h, toks := tk })
    (fin : KPfDone (∀ ys, CarriedAll ys ((rangeKs a n).map fun k => PyData.str (evenG p q pr k)) → (rangeKs a n).length = n → Fin ys news)) : LCg.CompRest prog w A h₀ L m env elt x scope cl s S (fun i v => ∃ t, v = .int (a + (i : Int)) t) Fin n 0 [] news :=
  kct_range (evenG p q pr) turn fin
end Mine
theorem Mine.ln10 : True := by
  k_with "k_ne" => (refine neN ?_; (try dsimp only); (with_reducible rename ((_ : Nat) ≠ _ ∧ _ ≠ _ ∧ _ ≠ _) ∧ _ => hOffZ); first | with_reducible exact hOffZ.1.1 | with_reducible exact hOffZ.1.2.1 | with_reducible exact hOffZ.1.2.2 | with_reducible exact hOffZ.2.1.1 | with_reducible exact hOffZ.2.1.2.1 | with_reducible exact hOffZ.2.1.2.2 | with_reducible exact hOffZ.2.2.1 | with_reducible exact hOffZ.2.2.2.1 | with_reducible exact hOffZ.2.2.2.2)
  trivial
namespace Mine
theorem even_item {prog : Program} {w : World} {A : Around} {E : Value → Shared → Prop} {s : Shared} {value slice : PySem.Expr} {pr : Str} {t u : Tok} {p q k : Int} {Q : Value → Shared → Prop} (hp : 0 < p) (hq : p ≤ q) (hlen : pr.length = 2)
    (h : Q (.str (evenG p q pr k) s.toks) { s with toks := s.toks + 1 })
    (hs : ∀ i, subscripted slice false (.str pr t) (.int i u) = operate [.str pr t, .int i u] (getItem (.str pr t) (.int i u)))
    (ht : ∀ r, letTemporaryGo value (.str pr t) r = pure ()) :
    wpAny (model prog w) A (subscriptTail value slice (.str pr t) (.int (((k + 1) * p).fdiv q - (k * p).fdiv q) u)) Q E s := by
  obtain ⟨e1, e2⟩ := even_idx p q k hp hq
  exact item_str (fitsSsize_of (N := 9223372036854775808) (by omega) (by omega) (Int.le_refl _)) (by rw [hlen]; omega) (by rw [hlen]; omega) (fun _ => h) (hs _) ht
set_option maxHeartbeats 8000000 in
theorem even_spec (w : World) (mg mb) (mean) (p q n : Int) (tp tq tn : Tok) (pr : Str) (tr : Tok) (hn : 0 ≤ n ∧ n < 100) (hp : 0 < p ∧ p ≤ q ∧ q < 100) (hlen : pr.length = 2) :
    Calls w mean mg mb 806 [.int p tp, .int q tq, .int n tn, .str pr tr] 2 [] (fun _ => True)
      (fun h v h' => ∃ t, v = .str (Txt.join (Str.ofString "") ((rangeKs 1 n.toNat).map (evenG p q pr))) t) := by
  have hMk : EvenMark p q pr := True.intro
  w_on
  intro dp un gd cn cs a ccd cl outer A₀ base h₀ L m s Q E B F X N T hk hd hu hpre hret
  refine wpAny_call ?_
  k_dflt (refine' Mine.enterCellC ?k1 ?k2 ?k3 ?k4 ?k5 ?kA ?kF ?kK ?k6 ?k7 ?k8 ?k9 ?kB ?kD ?_ ?c2 ?c3 ?c4; (case kA => exact rfl); (case kF => exact rfl); (case kK => assumption); (case k1 => k_asm); (case k2 => k_asm); (case k3 => k_asm); (case k4 => k_asm); (case k5 => k_asm); (case k6 => k_is); (case k7 => k_is); (case k8 => ktr_room); (case k9 => first | exact BindsTo.of_eq rfl | exact binds_K (by k_in) rfl (by k_is) rfl rfl rfl | fail "enter_cc: the arguments"); (case kB => exact rfl); (case kD => decide +kernel); (case c2 => exact rfl); (case c3 => exact rfl); (case c4 => exact rfl); k_whole)
  intro g L' h₁ tk cells hgs hkeep hLs F' N' Y' hlt B' X' T'
  k_cells Y'
  try simp only [List.cons_append, List.nil_append] at N'
  try dsimp only
  try k_fold
  try (with_reducible refine Mine.gentoks ?_; intro _)
  try (with_reducible refine Mine.foldB ?hzt ?_; (case hzt => ((fail_if_success (fail_if_success (rw [Mine.deepMark]))); k_dflt (exact trivial))); intro _)
  clear hpre B F X N T
  have hnT : ((n + 1 - 1).toNat : Int) = n := by omega
  have hnT2 : (n + 1 - 1).toNat < 100 := by omega
  k_with "binaryOp FloorDiv int int" => (refine floordiv_int (by omega) ?_ (Or.inl (PyProof.noPylong_small (by omega))); dsimp only)
  k_with "subscriptTail" => ((refine even_item (by omega) (by omega) hlen ?_ (by intro _; with_unfolding_all rfl) (by intro _; with_unfolding_all rfl); dsimp only))
  k_with "call builtin:str.join" => (dsimp only [List.cons_append, List.nil_append]; refine KT.join_1 (by first | assumption | is_list | exact News.isList (by k_asm) (by k_mem)) (by assumption) (by intro ktA ktM; exact len_item _ _) (by rw [rangeKs_length]; omega) ?_; intro _ _ ktE)
  k_steps
  have en : (n + 1 - 1).toNat = n.toNat := by rw [Int.add_sub_cancel]
  rw [en]
  exact hret _ _ _ (fun b o e q => Fr.keep (by assumption) b o (hkeep b o e q)) ⟨_, rfl⟩
end Mine
end T_Ev
section T_Qs
set_option maxHeartbeats 4000000
namespace Mine
/-- the machine's turns, as a plain function -/
noncomputable def drv : Nat → Sre.M → Option Sre.M
  | 0, _ => none
  | n + 1, m => let m := m.runFor Builtin.Re.reTurnSteps; if m.outcome.isSome then some m else drv n m
theorem wpAny_drive {M : Model} {A : Around} {E : Value → Shared → Prop} {s : Shared} {Q : Sre.M → Shared → Prop} : ∀ (n k : Nat) (m m' : Sre.M), n ≤ k → drv n m = some m' → Q m' s → wpAny M A (Builtin.Re.reDrive k m) Q E s
  | 0, _, _, _, _, h, _ => by cases h
  | n + 1, 0, _, _, hk, _, _ => absurd hk (Nat.not_succ_le_zero n)
  | n + 1, k + 1, m, m', hk, h, hq => by
    unfold Builtin.Re.reDrive
    dsimp only
    unfold drv at h
    dsimp only at h
    by_cases e : (m.runFor Builtin.Re.reTurnSteps).outcome.isSome
    · rw [if_pos e] at h ⊢
      cases h
      exact wpAny_pure hq
    · rw [if_neg e] at h ⊢
      exact wpAny_bind (wpAny_rule (wpAny_drive n k _ m' (Nat.le_of_succ_le_succ hk) h hq))
theorem drv_out : ∀ (n : Nat) (m m' : Sre.M), drv n m = some m' → m'.outcome.isSome = true
  | 0, _, _, h => by cases h
  | n + 1, m, m', h => by
    unfold drv at h
    dsimp only at h
    by_cases e : (m.runFor Builtin.Re.reTurnSteps).outcome.isSome
    · rw [if_pos e] at h; cases h; exact e
    · rw [if_neg e] at h; exact drv_out n _ m' h
theorem wpAny_says {M : Model} {A : Around} {E : Value → Shared → Prop} {s : Shared} {Q : PUnit → Shared → Prop} (c : Nat → Bool) (nm : Nat → String) (h : Q PUnit.unit s) : ∀ l : List Nat, wpAny M A
    (forIn l PUnit.unit fun i (_ : PUnit) => if c i = true then (do rule (nm i); pure (ForInStep.yield PUnit.unit)) else pure (ForInStep.yield PUnit.unit)) Q E s
  | [] => wpAny_pure h
  | i :: r => by
    rw [List.forIn_cons]
    refine wpAny_bind ?_
    by_cases e : c i = true
    · rw [if_pos e]
      exact wpAny_bind (wpAny_rule (wpAny_pure (wpAny_says c nm h r)))
    · rw [if_neg e]
      exact wpAny_pure (wpAny_says c nm h r)
theorem wpAny_ends {M : Model} {A : Around} {E : Value → Shared → Prop} {s : Shared} {Q : Option Sre.M → Shared → Prop} (n : Nat) (m m' : Sre.M) (hn : n ≤ 2 ^ 64) (h : drv n m = some m')
    (h1 : m'.outcome = some .matched → Q (some m') s) (h2 : m'.outcome = some .failed → Q none s) (h3 : ∀ w, m'.outcome ≠ some (.stuck w)) : wpAny M A (Builtin.Re.reRunToEnd m) Q E s := by
  unfold Builtin.Re.reRunToEnd
  refine wpAny_bind (wpAny_drive n _ m m' hn h ?_)
  refine wpAny_bind ?_
  refine wpAny_says _ _ ?_ _
  have ho := drv_out n m m' h
  rcases e : m'.outcome with _ | o
  · rw [e] at ho; cases ho
  · cases o with
    | matched => exact wpAny_pure (h1 e)
    | failed => exact wpAny_pure (h2 e)
    | stuck w => exact absurd e (h3 w)
noncomputable def Ans (P : Prop) : Prop := P
theorem ans_of {M : Model} {A : Around} {E : Value → Shared → Prop} {s : Shared} {Q : Fin → Shared → Prop} {t : Builtin.Re.ReTarget} {m : Sre.M} (h : Ans (wpAny M A (Builtin.Re.reAnswer t m) Q E s)) : wpAny M A (Builtin.Re.reAnswer t m) Q E s := h
noncomputable def patCode : Array Nat := #[14, 17, 4, 1, 1, 21, 9, 0, 604043296, 1, 0, 0, 0, 0, 0, 8, 4, 0, 13, 14, 21, 9, 0, 604043296, 1, 0, 0, 0, 0, 0, 8, 4, 0, 1]
/-- what the search finds: some true, there is a sign to be quoted; some false, none -/
noncomputable def finds (x : Str) : Option Bool := match drv 200 (Sre.forSearch patCode x.cps 0 0 x.cps.size false) with
  | some m => (match m.outcome with | some .matched => some true | some .failed => some false | _ => none)
  | none => none
section
variable {w : World} {A : Around} {E : Value → Shared → Prop} {s : Shared} {h₀ : Heap} {L : Addr} {m : Str → Option Value} {news : List (Addr × Obj)}
theorem find_sig_some : (Manifest.signature? "re.Pattern.search").isSome = true := by kernel_rfl
theorem find_sig : ∃ sig, Manifest.signature? "re.Pattern.search" = some sig ∧ ∀ a, Bind.checkArgs "re.Pattern.search" { sig with full := s!"{Bind.lastOf "re.Pattern"}.{Bind.lastOf "re.Pattern.search"}" } ⟨[.ref 63, a], []⟩ = pure () := ⟨(Manifest.signature? "re.Pattern.search").get find_sig_some, (Option.some_get _).symm, fun a => by kernel_rfl⟩
theorem find_kind : builtinKind "re.Pattern.search" = some .method := by kernel_rfl
theorem find_va : Manifest.varargsMethods.contains "re.Pattern.search" = false := by decide +kernel
theorem find_mod : isSubtype (.type "re.Pattern") (.type "module") = pure false := by rw [isSubtype_type]; kernel_rfl
theorem find_typ : isSubtype (.type "re.Pattern") (.type "type") = pure false := by rw [isSubtype_type]; kernel_rfl
theorem entry_find : entryFor table "re.Pattern.search" = some Builtin.«re.Pattern.search» := entryFor_of_tree (by kernel_rfl)
theorem plain_find : plainId "re.Pattern.search" = true := by decide +kernel
theorem call_find {Q : Value → Shared → Prop} {x : Str} {tx : Tok} (F : Fr h₀ L s.heap m) (N : News h₀ L s.heap news) (X : (Mine.hd.heap_1_1 w.params).In h₀) (b : Bool) (hx : finds x = some b) (hsz : x.length < 1000)
    (h1 : b = true → ∀ a o h', Fr h₀ L h' m → News h₀ L h' ((a, o) :: news) → Q (.ref a) { s with heap := h' }) (h2 : b = false → Q .none s) : wpAny (model PR w) A (call (.ref 759) [.str x tx]) Q E s := by
  w_on
  have X' := X.keeps F.keep
  refine wpAny_call (codeAny_of_tree ?_)
  show wpAny _ _ (callAny (.ref 759) _) _ _ _
  unfold callAny
  refine wpAny_bind (wpAny_load (X' 759 _ (by k_is)) ?_)
  show wpAny _ _ (checkBoundCall "re.Pattern.search" ⟨[.ref 63, .str x tx], []⟩ >>= fun _ => again (.builtin "re.Pattern.search" ⟨[.ref 63, .str x tx], []⟩)) _ _ _
  have hT : s.TypeIs (.ref 63) "re.Pattern" := ⟨_, X' 63 _ (by k_is), rfl⟩
  obtain ⟨sig, hs1, hs2⟩ := find_sig
  refine wpAny_bind ?_
  unfold checkBoundCall
  rw [hs1, find_kind]
  dsimp only
  rw [if_neg (by decide)]
  refine wpAny_bind (wpAny_isInstance hT find_mod ?_)
  rw [find_va, if_neg (show ¬ ((false || false) = true) from Bool.false_ne_true)]
  refine wpAny_bind ?_
  unfold isType
  have h63 := X' 63 _ (by k_is)
  dsimp only
  refine wpAny_bind ((Looks.ld h63).here ?_)
  refine wpAny_pure ?_
  dsimp only
  rw [if_neg Bool.false_ne_true]
  refine wpAny_bind (wpAny_typeOf hT ?_)
  dsimp only
  refine wpAny_of_eq (hs2 _) ?_
  refine wpAny_pure ⟨plainId_quiet plain_find _, ?_⟩
  refine codeAny_builtin entry_find ?_
  rw [Around.under_plainId plain_find _]
  unfold Builtin.«re.Pattern.search» Builtin.Re.reTarget
  have h62 := X' 62 _ (by k_is)
  repeat (first | with_reducible refine ans_of ?_ | lk)
  have hl : min ((2 : Int) ^ 63 - 1).toNat x.cps.size = x.cps.size := by
    have : x.cps.size < 1000 := hsz
    omega
  have hc : Array.map (fun x => x.toNat) (Array.map Builtin.Re.reRawOf ((some #[Value.int 14 0, Value.int 17 0, Value.int 4 0, Value.int 1 0, Value.int 1 0, Value.int 21 0, Value.int 9 0, Value.int 0 0, Value.int 604043296 0, Value.int 1 0, Value.int 0 0, Value.int 0 0, Value.int 0 0, Value.int 0 0, Value.int 0 0, Value.int 8 0, Value.int 4 0, Value.int 0 0, Value.int 13 0, Value.int 14 0, Value.int 21 0, Value.int 9 0, Value.int 0 0, Value.int 604043296 0, Value.int 1 0, Value.int 0 0, Value.int 0 0, Value.int 0 0, Value.int 0 0, Value.int 0 0, Value.int 8 0, Value.int 4 0, Value.int 0 0, Value.int 1 0]).getD #[])) = patCode := by decide +kernel
  unfold Ans Builtin.Re.reAnswer
  dsimp only
  rw [hc, hl]
  have hg : Builtin.Re.reRawNat ((#[Value.str (Str.ofString "[^\\w@%+=:,./-]") 353, Value.int 256 390, Value.int 0 0, Value.none, Value.none, Value.ref 62, Value.int 0 0] : Array Value).getD 2 Value.none) = 0 := rfl
  have hp : min (Int.toNat 0) x.cps.size = 0 := Nat.zero_min _
  rw [hg, hp]
  unfold finds at hx
  generalize Sre.forSearch patCode x.cps 0 0 x.cps.size false = mm at hx ⊢
  rcases e : drv 200 mm with _ | m'
  · rw [e] at hx; cases hx
  rw [e] at hx
  dsimp only at hx
  refine wpAny_bind (wpAny_ends 200 mm m' (by decide) e (fun e1 => ?_) (fun e1 => ?_) (fun w e1 => ?_))
  · rw [e1] at hx
    have hb : b = true := (Option.some.inj hx).symm
    dsimp only
    refine wpAny_bind ?_
    unfold Builtin.Re.reNewMatch
    show wpAny _ _ (newTuple [rawInt m'.start, rawInt m'.handed] >>= fun tp => newFields "re.Match" [.str x tx, .ref 63, rawInt (0 : Nat), rawInt x.cps.size, rawInt m'.lastindex, tp]) _ _ _
    unfold newTuple newFields newObj
    repeat lk
    have F1 := F.push { cls := Value.type "tuple", data := Data.seq #[rawInt m'.start, rawInt m'.handed] }
    have N1 := N.push F { cls := Value.type "tuple", data := Data.seq #[rawInt m'.start, rawInt m'.handed] } rfl
    have F2 := F1.push { cls := Value.type "re.Match", data := Data.fields #[Value.str x tx, Value.ref 63, rawInt (0 : Nat), rawInt x.cps.size, rawInt m'.lastindex, Value.ref s.heap.objs.size] }
    have N2 := N1.push F1 { cls := Value.type "re.Match", data := Data.fields #[Value.str x tx, Value.ref 63, rawInt (0 : Nat), rawInt x.cps.size, rawInt m'.lastindex, Value.ref s.heap.objs.size] } rfl
    have N3 : News h₀ L _ ((_, _) :: news) := fun p hp => N2 p (by
      rcases List.mem_cons.mp hp with q | q
      · rw [q]; exact .head _
      · exact .tail _ (.tail _ q))
    exact h1 hb _ _ _ F2 N3
  · rw [e1] at hx
    have hb : b = false := (Option.some.inj hx).symm
    exact wpAny_pure (h2 hb)
  · rw [e1] at hx; cases hx
end
end Mine
end T_Qs
section T_Gn
set_option maxHeartbeats 4000000
namespace Mine
section
variable {prog : Program} {w : World} {A : Around} {R : GenEnd} {Y : Protocol} {n : Nat} {s₀ : Shared} {c : Code} {fs : List Frame} {s : Shared} {env : Env} {α β : Type} {gd : Bool → Bool} {lv : List Value → List Value}
theorem seg_wrapE {m : Sem α} {K : α → Sem Fin} {H : Value → Sem Fin} (h : wpAny (model prog w) (A.over c fs) m (fun a s' => Seg (model prog w) A R Y n s₀ c (K a) fs s') (fun _ _ => False) s) :
    Seg (model prog w) A R Y n s₀ c (m.wrap K H gd lv) fs s := seg_wrap (wpAny_mono h (fun _ _ q => q) fun _ _ q => q.elim)
theorem seg_bindE {m : Sem α} {f : α → Sem β} {K : β → Sem Fin} {H : Value → Sem Fin} (h : wpAny (model prog w) (A.over c fs) m (fun a s' => Seg (model prog w) A R Y n s₀ c ((f a).wrap K H gd lv) fs s') (fun _ _ => False) s) :
    Seg (model prog w) A R Y n s₀ c ((m >>= f).wrap K H gd lv) fs s := by
  rw [Sem.bind_eq_wrap', Sem.wrap_wrap]; exact seg_wrapE h
theorem seg_If {test : PySem.Expr} {body orelse : List Stmt} {pos : Pos} {K : Flow → Sem Fin} {H : Value → Sem Fin}
    (h : wpAny (model prog w) (A.over c fs) (isTrue test env (eval test env)) (fun b s' => Seg (model prog w) A R Y n s₀ c ((if b = true then execs body env else execs orelse env).wrap K H gd lv) fs s') (fun _ _ => False) s) :
    Seg (model prog w) A R Y n s₀ c ((exec (.If test body orelse pos) env).wrap K H gd lv) fs s := by
  show Seg _ _ _ _ _ _ _ (((standAt pos) >>= fun _ => isTrue test env (eval test env) >>= fun b => if b = true then execs body env else execs orelse env).wrap K H gd lv) _ _
  exact seg_bindE (wpAny_standAt (seg_bindE h))
theorem seg_For {target iter : PySem.Expr} {body orelse : List Stmt} {pos : Pos} {K : Flow → Sem Fin} {H : Value → Sem Fin}
    (h : wpAny (model prog w) (A.over c fs) (eval iter env) (fun xv s₁ => wpAny (model prog w) (A.over c fs) (pyIter xv) (fun it s₂ => ∀ p,
      Seg (model prog w) A R Y n s₀ (.forLoop target it body orelse env) ((model prog w).den (.forLoop target it body orelse env))
        (.ret (fun r => ((match r with | .ok f => (.pure f : Sem Flow) | .error e => .raise e).onRaise fun (x : Value) => do
          if (← field x 1) == Value.none then unsupported "frame.own-activation:exception-without-traceback"
          setFlight x env.frame).wrap K H gd lv) none (gd false) (lv []) c p [] :: fs) s₂) (fun _ _ => False) s₁) (fun _ _ => False) s)
    (hs : ∀ x, foldedSetIterable iter env x = pure x) :
    Seg (model prog w) A R Y n s₀ c ((exec (.For target iter body orelse pos) env).wrap K H gd lv) fs s := by
  rw [exec_For]
  refine seg_bindE (wpAny_standAt ?_)
  refine seg_bindE (wpAny_mono h (fun xv s₁ h₁ => ?_) fun _ _ z => z)
  refine seg_bindE (wpAny_of_eq (hs xv) ?_)
  refine seg_bindE (wpAny_standAt ?_)
  refine seg_bindE (wpAny_holding (wpAny_mono h₁ (fun it s₂ h₂ => ?_) fun _ _ z => z))
  exact seg_call h₂
noncomputable abbrev raisedOut (env : Env) : Value → Sem Fin := fun e => (do noteFrame e env; theTreesLotGoes e : Sem Unit).wrap (fun _ => .raise e) .raise id id
theorem seg_forLoop {x : Str} {px : Pos} {it : Value} {body : List Stmt}
    (h : wpAny (model prog w) (A.over (.forLoop (.Name x px) it body [] env) fs) (pyNext it) (fun r s' => match r with
      | none => Seg (model prog w) A R Y n s₀ (.forLoop (.Name x px) it body [] env) (.pure (.again (.block [] env))) fs s'
      | some v => wpAny (model prog w) (A.over (.forLoop (.Name x px) it body [] env) fs) (storeName env x v) (fun _ s'' =>
          Seg (model prog w) A R Y n s₀ (.forLoop (.Name x px) it body [] env) ((execs body env).wrap (fun f => match f with
            | .next | .cont => .pure (.again (.forLoop (.Name x px) it body [] env))
            | .brk => .pure (.done .next)
            | .ret v => .pure (.done (.ret v))) (raisedOut env) id id) fs s'') (fun _ _ => False) s') (fun _ _ => False) s) :
    Seg (model prog w) A R Y n s₀ (.forLoop (.Name x px) it body [] env) ((model prog w).den (.forLoop (.Name x px) it body [] env)) fs s := by
  show Seg _ A R Y n s₀ _ ((forTurn (.Name x px) it body [] env).onRaise (fun x => do noteFrame x env; theTreesLotGoes x)) fs s
  rw [Sem.onRaise_eq_wrap]
  unfold forTurn
  refine seg_bindE (wpAny_standAt ?_)
  refine seg_bindE (wpAny_onRaise (wpAny_mono h (fun r s' h' => ?_) fun _ _ z => z.elim))
  cases r with
  | none => exact h'
  | some v =>
    refine seg_bindE (wpAny_pure ?_)
    refine seg_bindE (wpAny_assign_Name (wpAny_mono h' (fun _ s'' h'' => ?_) fun _ _ z => z))
    show Seg _ A R Y n s₀ _ (Sem.wrap _ _ _ _ (execs body env >>= _)) fs s''
    rw [Sem.bind_eq_wrap', Sem.wrap_wrap]
    rw [Sem.wrap_congr (execs body env) _ _ (K' := fun f => match f with
            | .next | .cont => .pure (.again (.forLoop (.Name x px) it body [] env))
            | .brk => .pure (.done .next)
            | .ret v => .pure (.done (.ret v))) (H' := raisedOut env)
        (fun f => by cases f <;> rfl)
        (fun e => by first | exact Sem.bind_eq_wrap _ _ | (show (do noteFrame e env; theTreesLotGoes e : Sem Unit).bind (fun _ => .raise e) = _; rw [Sem.bind_eq_wrap]))]
    exact h''
theorem seg_block {K : Code} (hK : K = .block [] env) (h : Seg (model prog w) A R Y n s₀ (.block [] env) (leafOf (.ok .next)) fs s) : Seg (model prog w) A R Y n s₀ c (.pure (.again K)) fs s := by
  subst hK
  refine seg_again rfl ?_
  show Seg _ _ _ _ _ _ _ (((execs [] env).onRaise (fun x => do noteFrame x env; theTreesLotGoes x)) >>= fun r => pure (.done r)) _ _
  exact h
end
end Mine
end T_Gn
section T_Gn2
set_option maxHeartbeats 4000000
namespace Mine
noncomputable def grpS : List Int → Option Int → Nat → Option Int
  | [], _, _ => none
  | x :: r, last, j => if x = 127 then none else if x = 0 then last else match j with | 0 => some x | j + 1 => grpS r (some x) j
noncomputable def okR : List Int → Option Int → Bool
  | [], _ => true
  | x :: r, last => if x = 127 then true else if x = 0 then last.isSome else okR r (some x)
theorem grpS_end {x : Int} {r : List Int} {l : Option Int} (h : x = 127) (j : Nat) : grpS (x :: r) l j = none := by unfold grpS; rw [if_pos h]
theorem grpS_ever {x : Int} {r : List Int} {l : Option Int} (h : x ≠ 127) (h0 : x = 0) (j : Nat) : grpS (x :: r) l j = l := by unfold grpS; rw [if_neg h, if_pos h0]
theorem grpS_zero {x : Int} {r : List Int} {l : Option Int} (h : x ≠ 127) (h0 : x ≠ 0) : grpS (x :: r) l 0 = some x := by unfold grpS; rw [if_neg h, if_neg h0]
theorem grpS_succ {x : Int} {r : List Int} {l : Option Int} (h : x ≠ 127) (h0 : x ≠ 0) (j : Nat) : grpS (x :: r) l (j + 1) = grpS r (some x) j := by rw [grpS, if_neg h, if_neg h0]
noncomputable def Since (C I : Addr) (s₀ s : Shared) : Prop := ∃ h' tk, s = { s₀ with heap := h', toks := tk } ∧ ∀ b o, b ≠ C → b ≠ I → s₀.heap.get? b = some o → h'.get? b = some o
theorem Since.refl (C I : Addr) (s : Shared) : Since C I s s := ⟨s.heap, s.toks, rfl, fun _ _ _ _ e => e⟩
theorem Since.step {C I : Addr} {s₀ s : Shared} (x : Since C I s₀ s) {h' : Heap} {tk : Nat} (hk : ∀ b o, b ≠ C → b ≠ I → s.heap.get? b = some o → h'.get? b = some o) : Since C I s₀ { s with heap := h', toks := tk } := by
  obtain ⟨h₁, tk₁, rfl, hk₁⟩ := x
  exact ⟨h', tk, rfl, fun b o a c e => hk b o a c (hk₁ b o a c e)⟩
noncomputable def Base (h₀ h : Heap) : Prop := ∀ b o, h₀.get? b = some o → h.get? b = some o
noncomputable def GrpY (N : Nat) (strm : Nat → Option Int) (h₀ : Heap) (C I : Addr) : Protocol := fun m s₀ v s kap =>
  (∃ k t, strm (N - 1 - m) = some k ∧ v = .int k t) ∧ (∃ oC oI, s.heap.get? C = some oC ∧ s.heap.get? I = some oI ∧
    (m ≠ 0 → ∀ s'', Base h₀ s''.heap → s''.heap.get? C = some oC → s''.heap.get? I = some oI → kap (.send .none) s'')) ∧ Since C I s₀ s
noncomputable def GrpR (N : Nat) (strm : Nat → Option Int) (C I : Addr) : GenEnd := fun n s₀ r s => r = .ok (.ret .none) ∧ strm (N - n) = none ∧ Since C I s₀ s
section
variable {prog : Program} {w : World} {A : Around} {env : Env} {N : Nat} {strm : Nat → Option Int} {h₀ : Heap} {I : Addr} {fs : List Frame}
variable {x last : Str} {px py1 yp1 pe1 py2 yp2 pe2 pl2 pv2 pa2 : Pos} {t4 : PySem.Expr}
/-- the endless loop -/
theorem seg_forever (hco : env.scope.isCoroutine = false) (hi : interactive env = false) (hk : env.scope.kind = .function) (hl : env.kindOf last = some .local) (hd : (last == ("__debug__" : Str)) = false)
    (hfs : splitAtGen fs = none) (hfg : fs.any Frame.guarded = false)
    (T4 : ∀ (A' : Around) (s : Shared) (Q : Bool → Shared → Prop), Q true s → wpAny (model prog w) A' (isTrue t4 env (eval t4 env)) Q (fun _ _ => False) s) :
    ∀ (n : Nat) (s₀ s : Shared) (m : Str → Option Value) (v : Int) (t : Tok), (∀ j, strm (N - (n + 1) + j) = some v) → n + 1 ≤ N → s.heap.Ns env.locals m → m last = some (.int v t) → (∃ oI, s.heap.get? I = some oI) → Since env.locals I s₀ s →
      Seg (model prog w) A (GrpR N strm env.locals I) (GrpY N strm h₀ env.locals I) (n + 1) s₀ (.whileLoop t4 [.Expr (.Yield (some (.Name last py1)) yp1) pe1] [] env) ((model prog w).den (.whileLoop t4 [.Expr (.Yield (some (.Name last py1)) yp1) pe1] [] env)) fs s := by
  intro n
  induction n with
  | zero =>
    intro s₀ s m v t hs hN hns hm hI hS
    refine seg_whileLoop (wpAny_mono (T4 _ _ _ ?_) (fun _ _ q => q) fun _ _ q => q.elim)
    rw [if_pos rfl]
    refine seg_execs_cons (seg_Expr_Yield hfs rfl hfg (wpAny_Name (wpAny_loadName_local hk hl hns hm ?_) hd) hco hi)
    intro kap hkap
    obtain ⟨oI, hoI⟩ := hI
    obtain ⟨o, es, ep, ho, r⟩ := hns
    exact ⟨⟨v, t, by have := hs 0; rwa [show N - (0 + 1) + 0 = N - 1 - 0 by omega] at this, rfl⟩, ⟨o, oI, ho, hoI, fun q => absurd rfl q⟩, hS⟩
  | succ n ih =>
    intro s₀ s m v t hs hN hns hm hI hS
    refine seg_whileLoop (wpAny_mono (T4 _ _ _ ?_) (fun _ _ q => q) fun _ _ q => q.elim)
    rw [if_pos rfl]
    refine seg_execs_cons (seg_Expr_Yield hfs rfl hfg (wpAny_Name (wpAny_loadName_local hk hl hns hm ?_) hd) hco hi)
    intro kap hkap
    obtain ⟨oI, hoI⟩ := hI
    obtain ⟨o, es, ep, ho, r⟩ := hns
    refine ⟨⟨v, t, by have := hs 0; rwa [show N - (n + 1 + 1) + 0 = N - 1 - (n + 1) by omega] at this, rfl⟩, ⟨o, oI, ho, hoI, fun _ s'' hB hC hI' => hkap _ _ ?_⟩, hS⟩
    refine seg_execs_nil ?_
    refine seg_again rfl (ih s'' s'' m v t (fun j => ?_) (by omega) ⟨o, es, ep, hC, r⟩ hm ⟨oI, hI'⟩ (Since.refl _ _ _))
    have := hs (j + 1)
    rwa [show N - (n + 1 + 1) + (j + 1) = N - (n + 1) + j by omega] at this
end
end Mine
end T_Gn2
section T_Gn3
set_option maxHeartbeats 4000000
namespace Mine
theorem Base.same {h₀ h h' : Heap} {b : Addr} (x : Base h₀ h) (hs : Heap.SameBut b h h') (hb : h₀.get? b = none) : Base h₀ h' := fun a o e => by
  have ne : a ≠ b := fun q => by rw [q, hb] at e; cases e
  rw [hs.2 a ne]; exact x a o e
theorem Base.ext {h₀ h h' : Heap} {b : Addr} (x : Base h₀ h) (hs : Heap.ExtBut b h h') (hb : h₀.get? b = none) : Base h₀ h' := fun a o e => by
  have ne : a ≠ b := fun q => by rw [q, hb] at e; cases e
  exact hs a o ne (x a o e)
section
variable {prog : Program} {w : World} {A : Around} {env : Env} {N : Nat} {strm : Nat → Option Int} {h₀ : Heap} {I l : Addr} {fs : List Frame} {vs : List Value} {ns : List Int}
variable {x last : Str} {px p1 p2 p3 pr pw py1 yp1 pe1 py2 yp2 pe2 pl2 pv2 pa2 : Pos} {t1 t2 t3 t4 : PySem.Expr} {rs : List Stmt}
theorem seg_row (hco : env.scope.isCoroutine = false) (hi : interactive env = false) (hk : env.scope.kind = .function) (hl : env.kindOf last = some .local) (hd : (last == ("__debug__" : Str)) = false)
    (hx : env.kindOf x = some .local) (hdx : (x == ("__debug__" : Str)) = false) (hne : last ≠ x) (hp : (env.scope.kind == .class || (env.scope.kind == .module && env.locals != env.globals)) = false) (hh : ∀ c, (A.over c fs).handled = none)
    (hfs : splitAtGen fs = none) (hfg : fs.any Frame.guarded = false) (hC0 : h₀.get? env.locals = none) (hI0 : h₀.get? I = none) (hCI : env.locals ≠ I) (hL : h₀.IsList l vs.toArray) (hIn : IntsAre vs ns)
    (hsw : swapsWith (.Name x pv2) (some (.Name last pl2)) pa2.line env = pure false)
    (T1 : ∀ (A' : Around) (s : Shared) (m : Str → Option Value) (v : Int) (t : Tok) (Q : Bool → Shared → Prop), Base h₀ s.heap → s.heap.Ns env.locals m → m x = some (.int v t) → (∀ tk, Q (v == 127) { s with toks := tk }) → wpAny (model prog w) A' (isTrue t1 env (eval t1 env)) Q (fun _ _ => False) s)
    (T2 : ∀ (A' : Around) (s : Shared) (m : Str → Option Value) (v : Int) (t : Tok) (Q : Bool → Shared → Prop), Base h₀ s.heap → s.heap.Ns env.locals m → m x = some (.int v t) → (∀ tk, Q (v == 0) { s with toks := tk }) → wpAny (model prog w) A' (isTrue t2 env (eval t2 env)) Q (fun _ _ => False) s)
    (T3 : ∀ (A' : Around) (s : Shared) (m : Str → Option Value) (v : Int) (t : Tok) (Q : Bool → Shared → Prop), s.heap.Ns env.locals m → m last = some (.int v t) → (∀ tk, Q false { s with toks := tk }) → wpAny (model prog w) A' (isTrue t3 env (eval t3 env)) Q (fun _ _ => False) s)
    (T4 : ∀ (A' : Around) (s : Shared) (Q : Bool → Shared → Prop), Q true s → wpAny (model prog w) A' (isTrue t4 env (eval t4 env)) Q (fun _ _ => False) s)
    (hend : ∀ c' n s₀ s', strm (N - n) = none → Since env.locals I s₀ s' → Seg (model prog w) A (GrpR N strm env.locals I) (GrpY N strm h₀ env.locals I) n s₀ c' (leafOf (.ok .next)) fs s')
    (hendR : ∀ c' n s₀ s', strm (N - n) = none → Since env.locals I s₀ s' → Seg (model prog w) A (GrpR N strm env.locals I) (GrpY N strm h₀ env.locals I) n s₀ c' (leafOf (.ok (.ret .none))) fs s') :
    ∀ (r : List Int) (i n : Nat) (lst : Option Int) (s₀ s : Shared) (m : Str → Option Value), ns.drop i = r → 1 ≤ n → n ≤ N → (∀ j, strm (N - n + j) = grpS r lst j) → okR r lst = true → Base h₀ s.heap → s.heap.Ns env.locals m → (∀ k, lst = some k → ∃ t, m last = some (.int k t)) →
      s.heap.IsListIter I l i → Since env.locals I s₀ s →
      Seg (model prog w) A (GrpR N strm env.locals I) (GrpY N strm h₀ env.locals I) n s₀
        (.forLoop (.Name x px) (.ref I) [.If t1 [.Return none pr] [] p1, .If t2 [.If t3 rs [] p3, .While t4 [.Expr (.Yield (some (.Name last py1)) yp1) pe1] [] pw] [] p2, .Expr (.Yield (some (.Name x py2)) yp2) pe2, .Assign [.Name last pl2] (.Name x pv2) pa2] [] env)
        ((model prog w).den (.forLoop (.Name x px) (.ref I) [.If t1 [.Return none pr] [] p1, .If t2 [.If t3 rs [] p3, .While t4 [.Expr (.Yield (some (.Name last py1)) yp1) pe1] [] pw] [] p2, .Expr (.Yield (some (.Name x py2)) yp2) pe2, .Assign [.Name last pl2] (.Name x pv2) pa2] [] env)) fs s := by
  intro r
  induction r with
  | nil =>
    intro i n lst s₀ s m hr hn1 hnN hst hok hB hns hlst hit hS
    have hx0 : vs.toArray[i]? = none := by
      have := List.drop_eq_nil_iff.mp hr
      rw [Array.getElem?_eq_none_iff, List.size_toArray, hIn.length]; exact this
    refine seg_forLoop (wpAny_pyNext_list_end (hh _) hit (hL.at fun o e => hB _ o e) hx0 fun h' hs => ?_)
    refine seg_block rfl (hend _ _ _ _ (by have := hst 0; rwa [Nat.add_zero] at this) (hS.step fun b o _ b2 e => hs b o b2 e))
  | cons v r ih =>
    intro i n lst s₀ s m hr hn1 hnN hst hok hB hns hlst hit hS
    have hi0 : ns[i]? = some v := by
      have := congrArg List.head? hr
      rw [List.head?_drop] at this
      simpa using this
    have hr' : ns.drop (i + 1) = r := by rw [← List.drop_drop, hr]; rfl
    have hlen : i < vs.length := by
      rw [hIn.length]
      obtain ⟨q, _⟩ := List.getElem?_eq_some_iff.mp hi0
      exact q
    obtain ⟨k', t, e2, e1⟩ := IntsAre.at hIn i vs[i] (List.getElem?_eq_getElem hlen)
    rw [hi0] at e1
    cases e1
    have hv : vs.toArray[i]? = some (.int v t) := by
      rw [List.getElem?_toArray, List.getElem?_eq_getElem hlen, e2]
    refine seg_forLoop (wpAny_pyNext_list_item hit (hL.at fun o e => hB _ o e) hv fun h1 hit1 hs1 => ?_)
    have hns1 : h1.Ns env.locals m := hns.sameBut hs1 hCI
    refine wpAny_storeName_local hx hns1 (fun h2 hns2 hs2 => ?_) hp
    have hB1 := hB.same hs1 hI0
    have hB2 := hB1.same hs2 hC0
    have hit2 : h2.IsListIter I l (i + 1) := hit1.at fun o e => by rw [hs2.2 I (fun q => hCI q.symm)]; exact e
    have hS2 : Since env.locals I s₀ { s with heap := h2, toks := s.toks + 1 } := hS.step fun b o b1 b2 e => by rw [hs2.2 b b1, hs1.2 b b2]; exact e
    clear hns hns1 hs1 hs2 hit hit1 hB hB1 hS
    have hm2 : (fun y => if y = x then some (Value.int v t) else m y) x = some (.int v t) := if_pos rfl
    refine seg_execs_cons (seg_If (T1 _ _ _ v t _ hB2 hns2 hm2 fun tk1 => ?_))
    by_cases hv127 : v = 127
    · rw [if_pos (by simpa using hv127)]
      refine seg_execs_cons (seg_wrapE (wpAny_Return_none ?_))
      exact hendR _ _ _ _ (by have := hst 0; rwa [Nat.add_zero, grpS_end hv127] at this) (hS2.step (tk := tk1) fun _ _ _ _ e => e)
    rw [if_neg (by simpa using hv127)]
    refine seg_execs_nil ?_
    refine seg_execs_cons (seg_If (T2 _ _ _ v t _ hB2 hns2 hm2 fun tk2 => ?_))
    by_cases hv0 : v = 0
    · rw [if_pos (by simpa using hv0)]
      have hok' : lst.isSome = true := by rw [okR, if_neg hv127, if_pos hv0] at hok; exact hok
      obtain ⟨k, rfl⟩ := Option.isSome_iff_exists.mp hok'
      obtain ⟨tl, htl⟩ := hlst k rfl
      have hml : (fun y => if y = x then some (Value.int v t) else m y) last = some (.int k tl) := by rw [← htl]; exact if_neg hne
      refine seg_execs_cons (seg_If (T3 _ _ _ k tl _ hns2 hml fun tk3 => ?_))
      rw [if_neg Bool.false_ne_true]
      refine seg_execs_nil ?_
      refine seg_execs_cons (seg_While fun p => ?_)
      obtain ⟨n, rfl⟩ : ∃ n', n = n' + 1 := ⟨n - 1, by omega⟩
      refine seg_forever hco hi hk hl hd ?f ?g T4 n s₀ _ _ k tl ?j hnN hns2 hml ?I (hS2.step fun _ _ _ _ e => e)
      case f => simp [splitAtGen, hfs]
      case g => exact hfg
      case j => intro j; rw [hst j, grpS_ever hv127 hv0]
      case I => obtain ⟨o, ho, _⟩ := hit2; exact ⟨o, ho⟩
    rw [if_neg (by simpa using hv0)]
    refine seg_execs_nil ?_
    obtain ⟨n, rfl⟩ : ∃ n', n = n' + 1 := ⟨n - 1, by omega⟩
    refine seg_execs_cons (seg_Expr_Yield hfs rfl hfg (wpAny_Name (wpAny_loadName_local hk hx hns2 hm2 ?_) hdx) hco hi)
    intro kap hkap
    obtain ⟨oI, hoI, hoI2⟩ := hit2
    obtain ⟨o, es, ep, ho, hr2⟩ := hns2
    refine ⟨⟨v, t, by have := hst 0; rwa [grpS_zero hv127 hv0, show N - (n + 1) + 0 = N - 1 - n by omega] at this, rfl⟩, ⟨o, oI, ho, hoI, fun hn0 s'' hB hC hI' => hkap _ _ ?_⟩, hS2.step fun _ _ _ _ e => e⟩
    refine seg_execs_cons (seg_wrapE (wpAny_Assign_Name (wpAny_Name (wpAny_loadName_local hk hx ⟨o, es, ep, hC, hr2⟩ hm2 ?_) hdx) hsw))
    refine wpAny_storeName_local hl ⟨o, es, ep, hC, hr2⟩ (fun h3 hns3 hs3 => ?_) hp
    refine seg_execs_nil ?_
    refine seg_again rfl ?_
    refine ih (i + 1) n (some v) s'' _ _ hr' (by omega) (by omega) (fun j => ?_) (by rw [okR, if_neg hv127, if_neg hv0] at hok; exact hok) (hB.same hs3 hC0) hns3 (fun k e => ?_) ⟨oI, by show h3.get? I = _; rw [hs3.2 I (fun q => hCI q.symm)]; exact hI', hoI2⟩
      ((Since.refl _ _ s'').step fun b o b1 _ e => by rw [hs3.2 b b1]; exact e)
    · have := hst (j + 1)
      rwa [grpS_succ hv127 hv0, show N - (n + 1) + (j + 1) = N - n + j by omega] at this
    · cases e
      exact ⟨t, if_pos rfl⟩
end
end Mine
end T_Gn3
section T_Gn4
set_option maxHeartbeats 4000000
namespace Mine
/-- a generator function is called -/
theorem enterGenC {w : World} {mean : ExcName → Option Value} {mg mb : Str → Option Value} {A : Around} {s : Shared} {h₀ : Heap} {L : Addr} {m : Str → Option Value} {news : List (Addr × Obj)}
    {R : Result → Shared → Prop} {name qual : Str} {params : Arguments} {body : List Stmt} {scope : Scope} {dV kV doc pm cdv ct oc : Value} {an od : Option Addr} {osl : Array (Option Value)} {f : Addr} {args : Args} {binds : List (Str × Value)}
    (F : Fr h₀ L s.heap m) (X₀ : (Mine.hd.heap_1_1 w.params).In h₀) (N : News h₀ L s.heap news) (T : Top VW LO mean mg mb h₀)
    (ho : (Mine.hd.heap_1_1 w.params).lookup f = some ⟨oc, od, .func (fnOf name qual params body scope dV kV doc pm an cdv ct), osl⟩) (hcd : codeIn (Mine.hd.heap_1_1 w.params) cdv qual = true) (hroom : A.depth < recursionLimit)
    (hbind : BindsTo s (fnOf name qual params body scope dV kV doc pm an cdv ct) args binds) (hloc : ∀ y ∈ binds, scope.names.lookup y.1 = some .local)
    (h : ∀ (C : Addr) (H : Heap) (tk : Nat) (oC oG : Obj), s.heap.objs.size = C → H.objs.size = C + 2 → Fr h₀ L H m → News h₀ L H ((C + 1, oG) :: (C, oC) :: news) → H.Ns C (fun y => binds.reverse.lookup y) → H.IsGen (C + 1) s.gens.size → h₀.objs.size ≤ C →
      R (.ok (.ret (.ref (C + 1)))) { s with heap := H, gens := s.gens.push (.fresh (.func body (envOf qual scope C f cdv))), toks := tk })
    (hcell : ∀ x ∈ scope.names, x.2 ≠ .cell) (hco : scope.isCoroutine = false) (hgen : scope.isGenerator = true) (hk : scope.kind = .function) : codeAny (model PR w) A (.call (.ref f) args) R s := by
  have hh0 : h₀.objs.size ≤ s.heap.objs.size := by
    apply Nat.le_trans F.above
    obtain ⟨o, _, _, hL, _⟩ := F.ns
    exact Nat.le_of_lt (Heap.lt_size hL)
  refine codeAny_call_generator hroom ((X₀.keeps F.keep) _ _ ho) rfl hco hgen rfl (codeRec_of (X₀.keeps F.keep) hcd) (hbind _ _ _ _ ?_)
  refine wpAny_newFunctionEnv hcell hloc (fun h₁ hns hsb => ⟨(T.nolimit.keeps F.keep).fresh _ hsb, ?_⟩) hk
  have hsz : h₁.objs.size = s.heap.objs.size + 1 := by rw [hsb.1, Heap.size_push]
  have kp : ∀ b o, s.heap.get? b = some o → h₁.get? b = some o := fun b o e => hsb.extBut b o (Nat.ne_of_lt (Heap.lt_size e)) (Heap.get?_push_of_some _ e)
  obtain ⟨oC, es, ep, hoC, hr⟩ := id hns
  have no : ∀ a, s.heap.objs.size ≤ a → h₀.get? a = none := fun a ha => by
    cases e : h₀.get? a with
    | none => rfl
    | some o => exfalso; have q := Heap.lt_size e; revert q; have h2 : h₀.objs.size ≤ a := by first | exact ha | exact Nat.le_trans hh0 ha
                exact Nat.not_lt_of_le h2
  have hLlt : L < s.heap.objs.size := by
    obtain ⟨o, _, _, hL, _⟩ := F.ns
    exact Heap.lt_size hL
  have hH : ∀ (G : Obj) b o, h₁.get? b = some o → (h₁.push G).get? b = some o := fun G b o e => Heap.get?_push_of_some _ e
  obtain ⟨oL, esL, epL, hL, hrL⟩ := F.ns
  show R (.ok (.ret (.ref h₁.objs.size))) _
  rw [hsz]
  refine h s.heap.objs.size (h₁.push { cls := .type "generator", data := .fields #[.int s.gens.size 0, .str (fnOf name qual params body scope dV kV doc pm an cdv ct).name (s.toks + binds.length), .str (fnOf name qual params body scope dV kV doc pm an cdv ct).qualname (s.toks + binds.length + 1)] }) (s.toks + binds.length + 1 + 1) oC { cls := .type "generator", data := .fields #[.int s.gens.size 0, .str (fnOf name qual params body scope dV kV doc pm an cdv ct).name (s.toks + binds.length), .str (fnOf name qual params body scope dV kV doc pm an cdv ct).qualname (s.toks + binds.length + 1)] } rfl (by rw [Heap.size_push, hsz]) ⟨⟨oL, esL, epL, hH _ _ _ (kp _ _ hL), hrL⟩, fun b o e => hH _ _ _ (kp _ _ (F.keep b o e)), F.above⟩ ?_ ⟨oC, es, ep, hH _ _ _ hoC, hr⟩ ?_ hh0
  · intro p hp
    rcases List.mem_cons.mp hp with rfl | hp
    · exact ⟨by rw [← hsz]; exact Heap.get?_push_size _ rfl, fun q => by have q' : s.heap.objs.size + 1 = L := q; rw [← q'] at hLlt; exact absurd hLlt (Nat.not_lt_of_le (Nat.le_succ _)), no _ (Nat.le_succ _)⟩
    rcases List.mem_cons.mp hp with rfl | hp
    · exact ⟨hH _ _ _ hoC, fun q => by have q' : s.heap.objs.size = L := q; rw [← q'] at hLlt; exact Nat.lt_irrefl _ hLlt, no _ (Nat.le_refl _)⟩
    · exact ⟨hH _ _ _ (kp _ _ (N p hp).1), (N p hp).2⟩
  · refine ⟨_, _, _, by rw [← hsz]; exact Heap.get?_push_size _ rfl, rfl, rfl, rfl⟩
/-- the generator that _grouping_intervals gives stands ready -/
noncomputable def GenFresh (w : World) (A : Around) (N : Nat) (strm : Nat → Option Int) (h₀ : Heap) (C : Addr) (oC : Obj) (gs : GenState) : Prop :=
  ∀ s'', Base h₀ s''.heap → s''.heap.get? C = some oC → s''.heap.objs.size = C + 2 → gs.Goes (model PR w) A.in1 (GrpR N strm C (C + 2)) (GrpY N strm h₀ C (C + 2)) N (.send .none) s''
noncomputable def GenSleeps (w : World) (A : Around) (N n : Nat) (strm : Nat → Option Int) (h₀ : Heap) (C : Addr) (oC oI : Obj) (gs : GenState) : Prop :=
  ∀ s'', Base h₀ s''.heap → s''.heap.get? C = some oC → s''.heap.get? (C + 2) = some oI → gs.Goes (model PR w) A.in1 (GrpR N strm C (C + 2)) (GrpY N strm h₀ C (C + 2)) n (.send .none) s''
section
variable {w : World} {mean : ExcName → Option Value} {mg mb : Str → Option Value} {A : Around} {h₀ : Heap}
theorem gen_fresh {N : Nat} {C l : Addr} {oC : Obj} {vs : List Value} {ns : List Int} {name : Str} {scope : Scope} {f : Addr} {cd : Value} {m : Str → Option Value}
    {x last gname : Str} {k0 : Nat} {px pl0 p0 pA pg pF p1 p2 p3 pr pw py1 yp1 pe1 py2 yp2 pe2 pl2 pv2 pa2 : Pos} {t1 t2 t3 t4 : PySem.Expr} {rs : List Stmt} {body : List Stmt}
    (hb : body = [.Assign [.Name last pl0] (.Constant .none k0 p0) pA, .For (.Name x px) (.Name gname pg) [.If t1 [.Return none pr] [] p1, .If t2 [.If t3 rs [] p3, .While t4 [.Expr (.Yield (some (.Name last py1)) yp1) pe1] [] pw] [] p2, .Expr (.Yield (some (.Name x py2)) yp2) pe2, .Assign [.Name last pl2] (.Name x pv2) pa2] [] pF])
    (hA : A.handled = none) (hN : 1 ≤ N) (hL : h₀.IsList l vs.toArray) (hIn : IntsAre vs ns) (hok : okR ns none = true) (hC0 : h₀.objs.size ≤ C)
    (hco : scope.isCoroutine = false) (hi : interactive (envOf name scope C f cd) = false) (hk : scope.kind = .function) (hl : (envOf name scope C f cd).kindOf last = some .local) (hd : (last == ("__debug__" : Str)) = false)
    (hx : (envOf name scope C f cd).kindOf x = some .local) (hdx : (x == ("__debug__" : Str)) = false) (hne : last ≠ x) (hg : (envOf name scope C f cd).kindOf gname = some .local) (hgl : gname ≠ last) (hdg : (gname == ("__debug__" : Str)) = false) (hp : ((envOf name scope C f cd).scope.kind == .class || ((envOf name scope C f cd).scope.kind == .module && (envOf name scope C f cd).locals != (envOf name scope C f cd).globals)) = false)
    (hsw : swapsWith (.Name x pv2) (some (.Name last pl2)) pa2.line (envOf name scope C f cd) = pure false) (hsw0 : swapsWith (.Constant .none k0 p0) (some (.Name last pl0)) pA.line (envOf name scope C f cd) = pure false) (hfo : ∀ z, foldedSetIterable (.Name gname pg) (envOf name scope C f cd) z = pure z)
    (hns : ∀ s : Shared, s.heap.get? C = some oC → s.heap.Ns C m) (hm : m gname = some (.ref l))
    (T1 : ∀ (A' : Around) (s : Shared) (m : Str → Option Value) (v : Int) (t : Tok) (Q : Bool → Shared → Prop), Fr h₀ C s.heap m → m x = some (.int v t) → (∀ tk, Q (v == 127) { s with toks := tk }) → wpAny (model PR w) A' (isTrue t1 (envOf name scope C f cd) (eval t1 (envOf name scope C f cd))) Q (fun _ _ => False) s)
    (T2 : ∀ (A' : Around) (s : Shared) (m : Str → Option Value) (v : Int) (t : Tok) (Q : Bool → Shared → Prop), Fr h₀ C s.heap m → m x = some (.int v t) → (∀ tk, Q (v == 0) { s with toks := tk }) → wpAny (model PR w) A' (isTrue t2 (envOf name scope C f cd) (eval t2 (envOf name scope C f cd))) Q (fun _ _ => False) s)
    (T3 : ∀ (A' : Around) (s : Shared) (m : Str → Option Value) (v : Int) (t : Tok) (Q : Bool → Shared → Prop), s.heap.Ns C m → m last = some (.int v t) → (∀ tk, Q false { s with toks := tk }) → wpAny (model PR w) A' (isTrue t3 (envOf name scope C f cd) (eval t3 (envOf name scope C f cd))) Q (fun _ _ => False) s)
    (T4 : ∀ (A' : Around) (s : Shared) (Q : Bool → Shared → Prop), Q true s → wpAny (model PR w) A' (isTrue t4 (envOf name scope C f cd) (eval t4 (envOf name scope C f cd))) Q (fun _ _ => False) s) :
    GenFresh w A N (grpS ns none) h₀ C oC (.fresh (.func body (envOf name scope C f cd))) := by
  subst hb
  intro s hB hoC hsz
  refine ⟨rfl, ?_⟩
  have no : ∀ a, h₀.objs.size ≤ a → h₀.get? a = none := fun a ha => by
    cases e : h₀.get? a with
    | none => rfl
    | some o => exfalso; have q := Heap.lt_size e; revert q; have h2 : h₀.objs.size ≤ a := by first | exact ha | exact Nat.le_trans hh0 ha
                exact Nat.not_lt_of_le h2
  refine seg_func ?_
  have hns0 := hns s hoC
  refine seg_execs_cons (seg_wrapE (wpAny_Assign_Name (wpAny_Constant_none ?_) hsw0))
  refine wpAny_storeName_local hl hns0 (fun h1 hns1 hs1 => ?_) hp
  have hC0' : h₀.get? C = none := no C hC0
  have hB1 : Base h₀ h1 := hB.same hs1 hC0'
  have hm1 : (fun y => if y = last then some Value.none else m y) gname = some (.ref l) := by show (if gname = last then _ else _) = _; rw [if_neg hgl]; exact hm
  refine seg_execs_cons (seg_For (wpAny_Name (wpAny_loadName_local hk hg hns1 hm1 ?_) hdg) hfo)
  refine wpAny_pyIter_list (hL.at fun o e => hB1 _ o e) fun p => ?_
  have hsz1 : h1.objs.size = C + 2 := by rw [hs1.1]; exact hsz
  show Seg _ _ _ _ _ _ _ _ _ { s with heap := h1.push _, toks := s.toks + 1 }
  show Seg _ _ _ _ _ _ (.forLoop _ (.ref h1.objs.size) _ _ _) ((model PR w).den (.forLoop _ (.ref h1.objs.size) _ _ _)) _ _
  rw [hsz1]
  refine seg_row (prog := PR) (w := w) (A := A.in1) (env := envOf name scope C f cd) (N := N) (strm := grpS ns none) (h₀ := h₀) (I := C + 2) (l := l) (vs := vs) (ns := ns) hco hi hk hl hd hx hdx hne hp ?hh ?hfs ?hfg hC0' (no _ (by show h₀.objs.size ≤ C + 2; exact Nat.le_trans hC0 (Nat.le_add_right _ _))) (by show C ≠ C + 2; exact Nat.ne_of_lt (by omega)) hL hIn hsw ?T1 ?T2 T3 T4 ?hend ?hendR ns 0 N none s _ (fun y => if y = last then some Value.none else m y) rfl hN (Nat.le_refl _) ?st hok ?B ?ns (fun k e => nomatch e) ?it ?since
  case hh => intro c; exact hA
  case hfs => rfl
  case hfg => rfl
  case T1 => exact fun A' s' m' v t Q b n mm q => T1 A' s' m' v t Q ⟨n, b, hC0⟩ mm q
  case T2 => exact fun A' s' m' v t Q b n mm q => T2 A' s' m' v t Q ⟨n, b, hC0⟩ mm q
  case hend =>
    intro c' n s₀ s' hn hS
    refine seg_leaf (.ok .next) ?_
    show Seg _ _ _ _ _ _ _ (leafOf (.ok (.ret .none))) _ _
    exact seg_end _ ⟨rfl, hn, hS⟩
  case hendR =>
    intro c' n s₀ s' hn hS
    refine seg_leaf (.ok (.ret .none)) ?_
    show Seg _ _ _ _ _ _ _ (leafOf (.ok (.ret .none))) _ _
    exact seg_end _ ⟨rfl, hn, hS⟩
  case st => intro j; rw [Nat.sub_self, Nat.zero_add]
  case B => exact fun b o e => Heap.get?_push_of_some _ (hB1 b o e)
  case ns => obtain ⟨o, es, ep, ho, r⟩ := hns1; exact ⟨o, es, ep, Heap.get?_push_of_some _ ho, r⟩
  case it => exact ⟨_, by rw [← hsz1]; exact Heap.get?_push_size _ rfl, rfl, rfl⟩
  case since => exact ⟨_, _, rfl, fun b o b1 _ e => Heap.get?_push_of_some _ (by rw [hs1.2 b b1]; exact e)⟩
end
end Mine
end T_Gn4
section T_Gn5a
theorem Mine.linesGn5a : True := by
  k_with_none
  k_with "omega" => (first | (k_whole; with_reducible assumption) | (law_clear; first | with_reducible assumption | decide +kernel | ((with_reducible show List.length (_ :: _) ≤ _); exact Nat.le_of_ble_eq_true (Eq.refl true)) | ((first | refine Mine.rm2 (by with_reducible assumption) ?_ | refine Mine.rm3 (by with_reducible assumption) ?_ | refine Mine.rm1 (by with_reducible assumption) ?_ | refine Mine.bd1 (by with_reducible assumption) ?_ | refine Mine.bd3 (by with_reducible assumption) ?_ | refine Mine.bd2 (by with_reducible assumption) ?_ | refine Mine.bd4 (by with_reducible assumption) ?_ | refine Mine.bd5 (by with_reducible assumption) ?_ | refine Mine.bd6 (by with_reducible assumption) ?_ | refine Mine.bd7 (by with_reducible assumption) ?_ | refine Mine.bd8 (by with_reducible assumption) ?_); exact Eq.refl true) | ((first | refine Mine.ci1 (by with_reducible assumption) ?_ | refine Mine.ci2 (by with_reducible assumption) ?_); decide) | exact Mine.rm0 (by with_reducible assumption) | exact Mine.lp1 (by with_reducible assumption) (by with_reducible assumption) | exact Mine.lp2 (by with_reducible assumption) (by with_reducible assumption) | exact Mine.lp3 (by with_reducible assumption) | lia))
  k_with "ite" => (first | (with_reducible refine PySem.W.ite_neg (by with_reducible assumption) ?_) | (with_reducible refine PySem.W.ite_pos (by with_reducible assumption) ?_))
  k_with "ite" => (k_closed; first | (with_reducible refine PySem.W.ite_neg (by decide +kernel) ?_) | (with_reducible refine PySem.W.ite_pos (by decide +kernel) ?_))
  k_with "getAttr ref" => (k_here; k_dflt (refine' PySem.W.get_own ?hzk1 ?hzk2 ?hzk3 ?hzk4 ?hzk5 ?hzk6 ?hzk7 ?hzk8 ?hzk9 ?_; (case hzk1 => k_asm); (case hzk2 => k_asm); (case hzk3 => k_inst); (case hzk8 => k_get); (case hzk4 => k_is); (case hzk5 => k_is); (case hzk6 => k_is); (case hzk7 => k_is); (case hzk9 => k_handed); k_whole))
  k_with "eval Name" => (k_here; (first | (with_reducible show wpAny _ _ (eval (PySem.Expr.Name _ _) (envOf _ _ _ _ _)) _ _ _) | (with_reducible show wpAny _ _ (eval (PySem.Expr.Name _ _) (envOfC _ _ _ _ _)) _ _ _)); name_kind "globalImplicit"; k_dflt (first | (refine' PySem.W.nameX_K ?hzF ?hzX ?hzT ?hze ?_ ?hza ?hzb ?hzd; (case hzF => k_asm); (case hzX => k_asm); (case hzT => k_asm); (case hze => k_is); (case hza => first | kernel_rfl | rfl); (case hzb => first | kernel_rfl | rfl); (case hzd => first | kernel_rfl | decide); k_whole) | (refine' PySem.W.nameX_B ?hzF ?hzX ?hzT ?hze ?hzv ?hzn ?_ ?hza ?hzb ?hzd; (case hzF => k_asm); (case hzX => k_asm); (case hzT => k_asm); (case hze => k_is); (case hzv => boot_fast); (case hzn => decide +kernel); (case hza => first | kernel_rfl | rfl); (case hzb => first | kernel_rfl | rfl); (case hzd => first | kernel_rfl | decide); k_whole)))
  k_with "eval Name" => (k_here; (first | (with_reducible show wpAny _ _ (eval (PySem.Expr.Name _ _) (envOf _ _ _ _ _)) _ _ _) | (with_reducible show wpAny _ _ (eval (PySem.Expr.Name _ _) (envOfC _ _ _ _ _)) _ _ _)); name_kind "local"; k_dflt (refine' PySem.W.nameX_L ?hzF ?hzv ?_ ?hza ?hzb ?hzd; (case hzF => k_asm); (case hzv => exact Eq.refl (some _)); (case hza => first | kernel_rfl | rfl); (case hzb => first | kernel_rfl | rfl); (case hzd => first | kernel_rfl | decide); k_whole))
  k_with "eval Name" => (k_here; (first | (with_reducible show wpAny _ _ (eval (PySem.Expr.Name _ _) (envOf _ _ _ _ _)) _ _ _) | (with_reducible show wpAny _ _ (eval (PySem.Expr.Name _ _) (envOfC _ _ _ _ _)) _ _ _)); name_kind "cell"; k_dflt (refine' PySem.W.nameX_C ?hzN ?hzc ?hzm ?hzd ?_ ?hza ?hzb ?hze; (case hzN => k_asm); (case hzc => exact Eq.refl (some _)); (case hzm => k_mem); (case hzd => k_asm); (case hza => first | kernel_rfl | rfl); (case hzb => first | kernel_rfl | rfl); (case hze => first | kernel_rfl | rfl); k_whole))
  k_with "eval Name" => (k_here; (with_reducible show wpAny _ _ (eval (PySem.Expr.Name _ _) (compEnvC _ _ _ _)) _ _ _); k_dflt (first | (refine' PySem.W.kcf_cell ?hzN ?hzc ?hzm ?hzd ?_ ?hza ?hzb ?hze; (case hzb => kernel_rfl); (case hzN => k_asm); (case hzc => exact Eq.refl (some _)); (case hzm => k_mem); (case hzd => k_asm); (case hza => first | kernel_rfl | rfl); (case hze => first | kernel_rfl | rfl); k_whole) | (refine' PySem.W.LCgL.ld_own ?hzN ?hzm ?hzd ?hzc ?_ ?hza ?hzb ?hze; (case hzb => kernel_rfl); (case hzN => k_asm); (case hzm => k_mem); (case hzd => assumption); (case hzc => assumption); (case hza => first | kernel_rfl | rfl); (case hze => first | kernel_rfl | rfl); k_whole)))
  k_with "execs cons" => (k_here; with_reducible refine Mine.gentoks ?_; intro _)
  k_with "execs nil" => (k_here; with_reducible refine Mine.gentoks ?_; intro _)
  k_with "execs cons" => (k_here; k_fold)
  k_with "execs cons" => (k_here; with_reducible refine Mine.foldB ?hzht ?_; (case hzht => ((fail_if_success (fail_if_success (rw [Mine.deepMark]))); k_dflt (exact trivial))); intro _)
  k_with "eval Call" => (k_here; k_fold)
  k_with "eval Subscript" => (k_here; k_fold)
  k_with "eval Compare" => (k_here; k_fold)
  k_with "eval BinOp" => (k_here; k_fold)
  k_with "subscriptTail Attribute" => (k_here; k_dflt (refine PySem.W.kba_turn (value' := PySem.Expr.Name (PySem.Str.ofString "_") ⟨0, 0, 0, 0⟩) (fun _ => rfl) ?_))
  k_with "k_room" => (first | ktr_room | ((simp +zetaDelta only [depth_under_make, depth_under_kw, depth_in1, depth_deeper, depth_caller]); ktr_room))
  trivial
namespace Mine
theorem ns_of {h h' : Heap} {C : Addr} {m : Str → Option Value} {o : Obj} (hns : h.Ns C m) (e1 : h.get? C = some o) (e2 : h'.get? C = some o) : h'.Ns C m := by
  obtain ⟨o', es, ep, ho, r⟩ := hns
  rw [e1] at ho
  cases ho
  exact ⟨o, es, ep, e2, r⟩
set_option maxHeartbeats 8000000 in
theorem gen_call {w : World} {mean : ExcName → Option Value} {mg mb : Str → Option Value} {A : Around} {s : Shared} {h₀ : Heap} {L row : Addr} {m : Str → Option Value} {news : List (Addr × Obj)} {vs : List Value} {ns : List Int} {n : Nat} {Q E : Value → Shared → Prop}
    (F : Fr h₀ L s.heap m) (X : (Mine.hd.heap_1_1 w.params).In h₀) (N : News h₀ L s.heap news) (T : Top VW LO mean mg mb h₀) (hA : A.handled = none) (hroom : A.depth < recursionLimit)
    (hL : h₀.IsList row vs.toArray) (hI : IntsAre vs ns) (hok : okR ns none = true) (hn : 1 ≤ n)
    (h : ∀ (C : Addr) (H : Heap) (tk : Nat) (oC oG : Obj) (gs : GenState), (L : Nat) < C → (∀ p ∈ news, (p.1 : Nat) < C) → h₀.objs.size ≤ C → H.objs.size = C + 2 → Fr h₀ L H m → News h₀ L H ((C + 1, oG) :: (C, oC) :: news) → H.IsGen (C + 1) s.gens.size →
      GenFresh w A n (grpS ns none) h₀ C oC gs → gs.bare = true → Q (.ref (C + 1)) { s with heap := H, gens := s.gens.push gs, toks := tk }) :
    wpAny (model PR w) A (call (.ref 58) [.ref row]) Q E s := by
  w_on
  refine wpAny_call ?_
  refine' enterGenC F X N T ?k6 ?k7 hroom ?k9 ?kB ?_ ?c2 ?c3 ?c4 ?c5
  case k6 => k_is
  case k7 => k_is
  case k9 => exact BindsTo.of_eq rfl
  case kB => exact locs rfl
  case c2 => decide
  case c3 => exact rfl
  case c4 => exact rfl
  case c5 => exact rfl
  intro C H tk oC oG hC hH F' N' hns hG hC0
  have hLC : (L : Nat) < C := by
    obtain ⟨o, _, _, ho, _⟩ := F.ns
    rw [← hC]; exact Heap.lt_size ho
  refine h C H tk oC oG _ hLC (fun p hp => by rw [← hC]; exact Heap.lt_size (N p hp).1) hC0 hH F' N' hG ?_ rfl
  have hCg : H.get? C = some oC := (N' _ (.tail _ (.head _))).1
  refine gen_fresh (vs := vs) (ns := ns) (l := row) (gname := Str.ofString "grouping") (last := Str.ofString "last_interval") (x := Str.ofString "interval") rfl hA hn hL hI hok hC0 rfl rfl rfl rfl (by decide) rfl (by decide) (by decide) rfl (by decide) (by decide) rfl rfl rfl (by intro z; rfl)
    (fun s' e => ns_of hns hCg e) rfl ?T1 ?T2 ?T3 ?T4
  case T1 =>
    intro A' s' m' v t Q' F1 hm hq
    refine wpAny_isTrue_Compare1 (ld F1 hm (name_K F1 X (topRead_of T) (by k_is) ?_))
    refine PyProof.Rows.eq_int ?_
    repeat' walk1
    all_goals exact hq _
  case T2 =>
    intro A' s' m' v t Q' F1 hm hq
    refine wpAny_isTrue_Compare1 (ld F1 hm ?_)
    repeat' walk1
    all_goals exact hq _
  case T3 =>
    intro A' s' m' v t Q' F1 hm hq
    refine wpAny_isTrue_Compare1 (wpAny_Name (wpAny_loadName_local rfl rfl F1 hm ?_))
    repeat' walk1
    all_goals exact hq _
  case T4 =>
    intro A' s' Q' hq
    repeat' walk1
    all_goals exact hq
end Mine
end T_Gn5a
section T_Gn5b
set_option maxHeartbeats 4000000
namespace Mine
section
variable {prog : Program} {w : World} {A : Around} {E : Value → Shared → Prop} {s : Shared}
/-- the next item of a generator function's generator, with what its new state is -/
theorem next_bare {a : Addr} {g n : Nat} {gs : GenState} {P : Nat → Shared → Shared → Prop} {Y : Protocol} {Q : Option Value → Shared → Prop} (hh : A.handled = none) (hl : s.heap.NoLimit) (hroom : A.depth < recursionLimit)
    (hg : s.heap.IsGen a g) (hgs : s.gens[g]? = some gs)
    (hgo : gs.Goes (model prog w) A.in1 (fun n s₀ r s₁ => r = .ok (.ret .none) ∧ P n s₀ s₁) Y n (.send .none) (s.setGen g .running))
    (hY : ∀ v s₁ gs', gs'.bare = true → Y (n - 1) (s.setGen g .running) v s₁ (fun r' s'' => match n with
        | 0 => False
        | m + 1 => gs'.Goes (model prog w) A.in1 (fun n s₀ r s₁ => r = .ok (.ret .none) ∧ P n s₀ s₁) Y m r' s'') → Q (some v) (s₁.setGen g gs'))
    (hP : ∀ s₁, P n (s.setGen g .running) s₁ → ∀ h', (∀ b o, s₁.heap.get? b = some o → h'.get? b = some o) → Q none { s₁.setGen g .finished with heap := h' }) :
    wpAny (model prog w) A (pyNext (.ref a)) Q E s := by
  unfold pyNext
  refine wpAny_bind (wpAny_attempt (wpAny_callSpecial?_slot (name := Str.ofString "__next__") hg.typeIs slot_gen_next (wpAny_call_entry slot_gen_next hg.typeIs entry_gen_next ?_ (args_gen_next _))))
  show wpAny _ _ (Builtin.Generator.genWake (.ref a) (.send .none)) _ _ s
  unfold Builtin.Generator.genWake
  refine wpAny_bind (wpAny_holding (wpAny_genNumber hg (wpAny_bind (wpAny_genState hgs ?_))))
  cases gs with
  | running => exact hgo.elim
  | finished => exact hgo.elim
  | _ =>
    refine wpAny_bind (wpAny_roomToWake hl hroom ?_)
    show wpAny _ _ (.resume g (.send .none) [] _) _ _ s
    refine wpAny_resumeQ hgs hgo (fun x s₁ hx => ?_) (fun v s₁ gs' hb hv => wpAny_pure ⟨v, rfl, wpAny_pure (hY v s₁ gs' hb hv)⟩)
    obtain ⟨rfl, hp⟩ := hx
    show wpAny _ _ (newExc (.type "StopIteration") [] >>= _) _ _ _
    refine wpAny_bind ?_
    simp only [newExc, newTuple]
    refine wpAny_bind (wpAny_newObj_type ?_ (by size_fits))
    refine wpAny_bind (m := firstArgMember _ _) (wpAny_of_eq (a := Value.none) (by first | rfl | (simp only [firstArgMember]; rfl)) ?_)
    refine wpAny_newObj_type ?_ (by size_fits)
    simp only [raiseNew]
    refine wpAny_bind (wpAny_bind (wpAny_handled ?_))
    rw [show A.in1.handled = none from hh]
    refine wpAny_throw ?_
    refine wpAny_bind (wpAny_isInstance (T := "StopIteration") (b := true) ⟨_, Heap.get?_push_size _ rfl, rfl⟩ isSubtype_stop ?_)
    exact wpAny_pure (hP s₁ hp _ fun b o hb => Heap.get?_push_of_some _ (Heap.get?_push_of_some _ hb))
end
theorem allBare_set {a b : Array GenState} {g : Nat} (h : GenOnlyQ g a b) : AllBare a → AllBare b := fun ha => h.bare ha
/-- how the generator stands: not begun, or asleep behind its j-th yield -/
noncomputable def GenStands (w : World) (A : Around) (n j : Nat) (strm : Nat → Option Int) (h₀ : Heap) (L : Addr) (C : Addr) (oC oG : Obj) (rest : List (Addr × Obj)) (h : Heap) (gs : GenState) : Prop :=
  (j = 0 ∧ h.objs.size = C + 2 ∧ GenFresh w A n strm h₀ C oC gs) ∨ (∃ oI, h.get? (C + 2) = some oI ∧ GenSleeps w A n (n - j) strm h₀ C oC oI gs)
section
variable {w : World} {A : Around} {E : Value → Shared → Prop} {s : Shared} {h₀ : Heap} {L C : Addr} {m : Str → Option Value} {oC oG : Obj} {news : List (Addr × Obj)} {g n j : Nat} {gs : GenState} {strm : Nat → Option Int}
theorem next_any {Q : Option Value → Shared → Prop} (F : Fr h₀ L s.heap m) (N : News h₀ L s.heap ((C + 1, oG) :: (C, oC) :: news)) (hlt : ∀ p ∈ news, (p.1 : Nat) < C) (hL : (L : Nat) < C) (hC0 : h₀.objs.size ≤ C) (hh : A.handled = none) (hl : s.heap.NoLimit) (hroom : A.depth < recursionLimit)
    (hg : s.heap.IsGen (C + 1) g) (hgs : s.gens[g]? = some gs) (hj : j + 1 < n) (hst : GenStands w A n j strm h₀ L C oC oG news s.heap gs)
    (item : ∀ (k : Int) (t : Tok) (h' : Heap) (tk : Nat) (gn : Array GenState) (oC' oI' : Obj) (gs' : GenState), strm j = some k → Fr h₀ L h' m → News h₀ L h' ((C + 2, oI') :: (C + 1, oG) :: (C, oC') :: news) → h'.IsGen (C + 1) g → gn[g]? = some gs' → (AllBare s.gens → AllBare gn) →
      GenSleeps w A n (n - (j + 1)) strm h₀ C oC' oI' gs' → Q (some (.int k t)) { s with heap := h', toks := tk, gens := gn })
    (stop : ∀ (h' : Heap) (tk : Nat) (gn : Array GenState), strm j = none → Fr h₀ L h' m → News h₀ L h' news → (AllBare s.gens → AllBare gn) → Q none { s with heap := h', toks := tk, gens := gn }) :
    wpAny (model PR w) A (pyNext (.ref (C + 1))) Q E s := by
  have ho : s.heap.get? C = some oC := (N _ (.tail _ (.head _))).1
  have hgo : ∃ r, r = n - j ∧ gs.Goes (model PR w) A.in1 (GrpR n strm C (C + 2)) (GrpY n strm h₀ C (C + 2)) r (.send .none) (s.setGen g .running) := by
    rcases hst with ⟨rfl, hz, hf⟩ | ⟨oI, hI, hf⟩
    · exact ⟨n, rfl, hf _ F.keep ho hz⟩
    · exact ⟨_, rfl, hf _ F.keep ho hI⟩
  obtain ⟨r, hr, hgo⟩ := hgo
  have keeps : ∀ (h' : Heap), (∀ b o, b ≠ C → b ≠ C + 2 → s.heap.get? b = some o → h'.get? b = some o) → Fr h₀ L h' m ∧ News h₀ L h' news := by
    intro h' hk
    have no : ∀ b o, h₀.get? b = some o → (b : Nat) < C := fun b o e => Nat.lt_of_lt_of_le (Heap.lt_size e) hC0
    refine ⟨⟨?_, fun b o e => hk b o (Nat.ne_of_lt (no b o e)) (Nat.ne_of_lt (Nat.lt_of_lt_of_le (no b o e) (Nat.le_add_right _ _))) (F.keep b o e), F.above⟩, fun p hp => ⟨hk _ _ (Nat.ne_of_lt (hlt p hp)) (Nat.ne_of_lt (Nat.lt_of_lt_of_le (hlt p hp) (Nat.le_add_right _ _))) (N p (.tail _ (.tail _ hp))).1, (N p (.tail _ (.tail _ hp))).2⟩⟩
    obtain ⟨o, es, ep, hoL, hrL⟩ := F.ns
    exact ⟨o, es, ep, hk _ _ (Nat.ne_of_lt hL) (Nat.ne_of_lt (Nat.lt_of_lt_of_le hL (Nat.le_add_right _ _))) hoL, hrL⟩
  refine next_bare (n := r) (P := fun n' s₀ s₁ => strm (n - n') = none ∧ Since C (C + 2) s₀ s₁) hh hl hroom hg hgs hgo (fun v s₁ gs' hb hv => ?_) (fun s₁ hp h' hk' => ?_)
  · obtain ⟨⟨k, t, hk, rfl⟩, ⟨oC', oI', hC', hI', hgo'⟩, h1, tk1, rfl, hk1⟩ := hv
    have hjk : strm j = some k := by rw [← hk]; congr 1; omega
    obtain ⟨F', N'⟩ := keeps h1 hk1
    have hno2 : h₀.get? (C + 2) = none := by
      cases e : h₀.get? (C + 2) with
      | none => rfl
      | some o => exact absurd (Heap.lt_size e) (Nat.not_lt_of_le (Nat.le_trans hC0 (Nat.le_add_right _ _)))
    have hG' : h1.get? (C + 1) = some oG := hk1 _ _ (by show C + 1 ≠ C; exact Nat.succ_ne_self _) (by show C + 1 ≠ C + 2; exact Nat.ne_of_lt (Nat.lt_succ_self _)) (N _ (.head _)).1
    refine item k t h1 tk1 _ oC' oI' gs' hjk F' ?_ ?_ (setGen_self (gs := .running) (setGen_self hgs)) (allBare_set (GenOnlyQ.of ((GenOnly.setGen s g .running).trans (GenOnly.setGen _ g gs')) (setGen_self (gs := .running) (setGen_self hgs)) hb)) ?_
    · intro p hp
      rcases List.mem_cons.mp hp with rfl | hp
      · exact ⟨hI', fun q => by have q' : C + 2 = L := q; rw [← q'] at hL; exact absurd hL (Nat.not_lt_of_le (Nat.le_add_right _ _)), hno2⟩
      rcases List.mem_cons.mp hp with rfl | hp
      · exact ⟨hG', (N _ (.head _)).2⟩
      rcases List.mem_cons.mp hp with rfl | hp
      · exact ⟨hC', (N _ (.tail _ (.head _))).2⟩
      · exact N' p hp
    · obtain ⟨o, nm, qn, hoG, r1⟩ := hg
      exact ⟨o, nm, qn, hk1 _ _ (by show C + 1 ≠ C; exact Nat.succ_ne_self _) (by show C + 1 ≠ C + 2; exact Nat.ne_of_lt (Nat.lt_succ_self _)) hoG, r1⟩
    · intro s'' hB hC2 hI2
      have z := hgo' (by omega) s'' hB hC2 hI2
      obtain ⟨r', rfl⟩ : ∃ r', r = r' + 1 := ⟨r - 1, by omega⟩
      have e : n - (j + 1) = r' := by omega
      rw [e]
      exact z
  · obtain ⟨hs, h1, tk1, rfl, hk1⟩ := hp
    have hjn : strm j = none := by rw [← hs]; congr 1; omega
    obtain ⟨F', N'⟩ := keeps h' fun b o b1 b2 e => hk' b o (hk1 b o b1 b2 e)
    exact stop h' tk1 _ hjn F' N' (allBare_set (GenOnlyQ.of ((GenOnly.setGen s g .running).trans (GenOnly.setGen _ g .finished)) (setGen_self (gs := .running) (setGen_self hgs)) rfl))
end
end Mine
end T_Gn5b
section T_Gn5c
namespace Mine
/-- a contract of a call that may lay generators -/
noncomputable def CallsG (w : World) (mean : ExcName → Option Value) (mg mb : Str → Option Value) (f : Addr) (args : List Value) (need : Nat) (act : List (Addr × Obj)) (pre : Heap → Prop) (post : Heap → Value → Heap → Prop) : Prop :=
  ∀ (dp un : Nat) (gd : Option (List Code)) (cn : Str) (cs : Scope) (a : Addr) (ccd : Value) (cl : List (Str × Addr)) (outer : List Env) (A₀ : Around) (base h₀ : Heap) (L : Addr) (m : Str → Option Value) (s : Shared) (Q E : Value → Shared → Prop),
    Below A₀ base outer h₀ → Fr h₀ L s.heap m → (Mine.hd.heap_1_1 w.params).In h₀ → News h₀ L s.heap act → Top VW LO mean mg mb h₀ → cs.kind = .function → dp + need < recursionLimit → un + 8 * need < cLine → pre s.heap →
    (∀ (v : Value) (h' : Heap) (tk' : Nat) (gn : Array GenState), (∀ b o, s.heap.get? b = some o → b ∉ act.map (·.1) → h'.get? b = some o) → post s.heap v h' → (AllBare s.gens → AllBare gn) → Q v { s with heap := h', toks := tk', gens := gn }) →
    wpAny (model PR w) (ktrTop dp un gd cn cs L a ccd cl outer) (call (.ref f) args) Q E s
noncomputable def Hold (P : Prop) : Prop := P
theorem Hold.to {P : Prop} (h : Hold P) : P := h
theorem Hold.of {P : Prop} (h : P) : Hold P := h
noncomputable def growF (strm : Nat → Option Int) : Nat → Nat → List Str → Str → Str → Option (List Str)
  | 0, _, _, _, _ => none
  | f + 1, j, W, a, b => match strm j with
    | none => some (W ++ [a, b])
    | some k => if 0 < k ∧ k < 10 then (if (Txt.mul b k ++ a).length > 7 then some (W ++ [a, b, Txt.mul b k ++ a]) else growF strm f (j + 1) (W ++ [a]) b (Txt.mul b k ++ a)) else none
section
variable {prog : Program} {w : World} {A : Around} {E : Value → Shared → Prop} {env : Env}
theorem owit_fuel {v : Str} {body : List Stmt} {Q : Flow → Shared → Prop} {G : Addr} (Inv : Nat → Shared → Prop)
    (turn : ∀ f s, Inv f s → wpAny (model prog w) A (pyNext (.ref G)) (OwitTurn prog w A E env v body Q (fun s' => Hold (∃ f', f' < f ∧ Inv f' s'))) E s) : ∀ n f s, f < n → Inv f s → OwitRest prog w A E env v body Q G n s := by
  intro n
  induction n with
  | zero => intro f s h _; exact absurd h (Nat.not_lt_zero _)
  | succ n ih =>
    intro f s hf hI
    refine OwitRest.succ (wpAny_mono (turn f s hI) (fun r s₁ hr => ?_) fun _ _ e => e)
    cases r with
    | none => exact hr
    | some y =>
      refine wpAny_mono (hr : wpAny _ _ (storeName env v y) _ _ _) (fun _ s₂ h₂ => wpAny_mono h₂ (fun fl s₃ h₃ => ?_) fun _ _ e => e) fun _ _ e => e
      cases fl with
      | next => obtain ⟨f', h1, h2⟩ := h₃; exact ih f' s₃ (by omega) h2
      | cont => obtain ⟨f', h1, h2⟩ := h₃; exact ih f' s₃ (by omega) h2
      | brk => exact h₃
      | ret v => exact h₃
theorem owit_start {v : Str} {body : List Stmt} {Q : Flow → Shared → Prop} {G : Addr} {s : Shared} (Inv : Around → Nat → Shared → Prop)
    (turn : ∀ f s, Inv A f s → wpAny (model prog w) A (pyNext (.ref G)) (OwitTurn prog w A E env v body Q (fun s' => Hold (∃ f', f' < f ∧ Inv A f' s'))) E s) (f : Nat) (hf : f < 64) (start : Inv A f s) : OwitAt prog w A E env v body Q (.ref G) s :=
  OwitAt.intro (owit_fuel (Inv A) turn 64 f s hf start)
end
noncomputable abbrev frOf9 {g : Heap} {L : Addr} {h : Heap} {m : Str → Option Value} (_ : Fr g L h m) : Str → Option Value := m
theorem fr_id {g : Heap} {L : Addr} {h : Heap} {m : Str → Option Value} (x : Str) (F : Fr g L h m) : Fr g L h (fun y => if y = x then m y else m y) := by simpa only [ite_self] using F
theorem fr_again {g : Heap} {L : Addr} {h : Heap} {m u : Str → Option Value} {v : Option Value} {x : Str} (F : Fr g L h (fun y => if y = x then v else if y = x then u y else m y)) : Fr g L h (fun y => if y = x then (fun _ => v) y else m y) := by
  have e : (fun y => if y = x then v else if y = x then u y else m y) = (fun y => if y = x then (fun _ => v) y else m y) := by
    funext y
    by_cases q : y = x
    · rw [if_pos q, if_pos q]
    · rw [if_neg q, if_neg q, if_neg q]
  rw [← e]; exact F
theorem isGen_of {h h' : Heap} {a : Addr} {g : Nat} {o : Obj} (hG : h.IsGen a g) (e1 : h.get? a = some o) (e2 : h'.get? a = some o) : h'.IsGen a g := by
  obtain ⟨o', nm, qn, ho, r⟩ := hG
  rw [e1] at ho
  cases ho
  exact ⟨o, nm, qn, e2, r⟩
theorem new_none2 {g h h' : Heap} {L : Addr} {p : Addr × Obj} {news : List (Addr × Obj)} (hk : ∀ b o, h.get? b = some o → b ∉ ([] : List (Addr × Obj)).map (·.1) → g.get? b = some o) (N : News g L h' news) (hm : p ∈ news) : h.get? p.1 = none := by
  cases e : h.get? p.1 with
  | none => rfl
  | some x => exact absurd ((hk _ x e (by intro q; cases q)).symm.trans (N p hm).2.2) (by intro q; cases q)
inductive GInv (w : World) (A : Around) (n : Nat) (strm : Nat → Option Int) (g : Heap) (L' C gi : Nat) (m₀ : Str → Option Value) (s₀ : Shared) (res : List Str) (f : Nat) (s : Shared) : Prop where
  | mk {D j : Nat} {W : List Value} {Ws : List Str} {a b : Str} {ta tb : Tok} {oC oG : Obj} {u : Str → Option Value} {h : Heap} {tk : Nat} {gn : Array GenState} {gs : GenState} {ep : Nat} (_ : m₀ (Str.ofString "words") = some (.ref D)) (_ : D < C) (_ : s = { s₀ with heap := h, toks := tk, gens := gn }) (_ : Fr g L' h (fun y => if y = Str.ofString "size" then u y else m₀ y)) (_ : News g L' h [((C : Nat) + 1, oG), ((C : Nat), oC), (D, PySem.W.listOf (W ++ [Value.str a ta, Value.str b tb]).toArray ep)]) (_ : h.IsGen (C + 1) gi) (_ : gn[gi]? = some gs) (_ : GenStands w A n j strm g L' C oC oG [] h gs) (_ : StrsAre W Ws) (_ : growF strm f j Ws a b = some res) (_ : (AllBare s₀.gens → AllBare gn)) (_ : W.length = j) (_ : j + f = 9) (_ : a.length ≤ 7) (_ : b.length ≤ 7) : GInv w A n strm g L' C gi m₀ s₀ res f s
theorem strs_len {vs : List Value} {ss : List Str} (h : StrsAre vs ss) : vs.length = ss.length := by
  induction h with
  | nil => rfl
  | cons _ _ _ ih => simp [ih]
theorem strs_app {vs us : List Value} {ss ts : List Str} (h : StrsAre vs ss) (h2 : StrsAre us ts) : StrsAre (vs ++ us) (ss ++ ts) := by
  induction h with
  | nil => exact h2
  | cons y t _ ih => exact .cons y t ih
section
variable {prog : Program} {w : World} {A : Around} {E : Value → Shared → Prop} {s : Shared} {value slice : PySem.Expr} {l : Addr} {W : List Value} {x y : Value} {u : Tok} {Q : Value → Shared → Prop}
theorem item_last (hl : s.heap.IsList l (W ++ [x, y]).toArray) (hw : W.length < 100) (h : Q y s) {i : Int} (hi : i = -1) (hs : ∀ i, subscripted slice false (.ref l) (.int i u) = operate [.ref l, .int i u] (getItem (.ref l) (.int i u))) :
    wpAny (model prog w) A (subscriptTail value slice (.ref l) (.int i u)) Q E s := by
  subst hi
  exact tail_any hl.typeIs slot_list_getitem.lookup (wpAny_getItem_list_neg hl (by decide) (by simp; omega) (by decide) (by
    have e : ((-1 : Int) + ((W ++ [x, y]).toArray.size : Nat)).toNat = W.length + 1 := by simp; omega
    rw [e, List.getElem?_toArray, List.getElem?_append_right (by omega)]
    simp) h) (hs _)
theorem item_prev (hl : s.heap.IsList l (W ++ [x, y]).toArray) (hw : W.length < 100) (h : Q x s) {i : Int} (hi : i = -2) (hs : ∀ i, subscripted slice false (.ref l) (.int i u) = operate [.ref l, .int i u] (getItem (.ref l) (.int i u))) :
    wpAny (model prog w) A (subscriptTail value slice (.ref l) (.int i u)) Q E s := by
  subst hi
  exact tail_any hl.typeIs slot_list_getitem.lookup (wpAny_getItem_list_neg hl (by decide) (by simp; omega) (by decide) (by
    have e : ((-2 : Int) + ((W ++ [x, y]).toArray.size : Nat)).toNat = W.length := by simp; omega
    rw [e, List.getElem?_toArray, List.getElem?_append_right (by omega)]
    simp) h) (hs _)
theorem item_pushed (hl : s.heap.IsList l (W ++ [y]).toArray) (hw : W.length < 100) (h : Q y s) {i : Int} (hi : i = -1) (hs : ∀ i, subscripted slice false (.ref l) (.int i u) = operate [.ref l, .int i u] (getItem (.ref l) (.int i u))) :
    wpAny (model prog w) A (subscriptTail value slice (.ref l) (.int i u)) Q E s := by
  subst hi
  exact tail_any hl.typeIs slot_list_getitem.lookup (wpAny_getItem_list_neg hl (by decide) (by simp; omega) (by decide) (by
    have e : ((-1 : Int) + ((W ++ [y]).toArray.size : Nat)).toNat = W.length := by simp; omega
    rw [e, List.getElem?_toArray, List.getElem?_append_right (by omega)]
    simp) h) (hs _)
end
end Mine
end T_Gn5c
section T_Gn5
theorem Mine.linesGn5 : True := by
  k_with_none
  k_with "omega" => (first | (k_whole; with_reducible assumption) | (law_clear; first | with_reducible assumption | decide +kernel | ((with_reducible show List.length (_ :: _) ≤ _); exact Nat.le_of_ble_eq_true (Eq.refl true)) | ((first | refine Mine.rm2 (by with_reducible assumption) ?_ | refine Mine.rm3 (by with_reducible assumption) ?_ | refine Mine.rm1 (by with_reducible assumption) ?_ | refine Mine.bd1 (by with_reducible assumption) ?_ | refine Mine.bd3 (by with_reducible assumption) ?_ | refine Mine.bd2 (by with_reducible assumption) ?_ | refine Mine.bd4 (by with_reducible assumption) ?_ | refine Mine.bd5 (by with_reducible assumption) ?_ | refine Mine.bd6 (by with_reducible assumption) ?_ | refine Mine.bd7 (by with_reducible assumption) ?_ | refine Mine.bd8 (by with_reducible assumption) ?_); exact Eq.refl true) | ((first | refine Mine.ci1 (by with_reducible assumption) ?_ | refine Mine.ci2 (by with_reducible assumption) ?_); decide) | exact Mine.rm0 (by with_reducible assumption) | exact Mine.lp1 (by with_reducible assumption) (by with_reducible assumption) | exact Mine.lp2 (by with_reducible assumption) (by with_reducible assumption) | exact Mine.lp3 (by with_reducible assumption) | lia))
  k_with "ite" => (first | (with_reducible refine PySem.W.ite_neg (by with_reducible assumption) ?_) | (with_reducible refine PySem.W.ite_pos (by with_reducible assumption) ?_))
  k_with "ite" => (k_closed; first | (with_reducible refine PySem.W.ite_neg (by decide +kernel) ?_) | (with_reducible refine PySem.W.ite_pos (by decide +kernel) ?_))
  k_with "getAttr ref" => (k_here; k_dflt (refine' PySem.W.get_own ?hzk1 ?hzk2 ?hzk3 ?hzk4 ?hzk5 ?hzk6 ?hzk7 ?hzk8 ?hzk9 ?_; (case hzk1 => k_asm); (case hzk2 => k_asm); (case hzk3 => k_inst); (case hzk8 => k_get); (case hzk4 => k_is); (case hzk5 => k_is); (case hzk6 => k_is); (case hzk7 => k_is); (case hzk9 => k_handed); k_whole))
  k_with "eval Name" => (k_here; (first | (with_reducible show wpAny _ _ (eval (PySem.Expr.Name _ _) (envOf _ _ _ _ _)) _ _ _) | (with_reducible show wpAny _ _ (eval (PySem.Expr.Name _ _) (envOfC _ _ _ _ _)) _ _ _)); name_kind "globalImplicit"; k_dflt (first | (refine' PySem.W.nameX_K ?hzF ?hzX ?hzT ?hze ?_ ?hza ?hzb ?hzd; (case hzF => k_asm); (case hzX => k_asm); (case hzT => k_asm); (case hze => k_is); (case hza => first | kernel_rfl | rfl); (case hzb => first | kernel_rfl | rfl); (case hzd => first | kernel_rfl | decide); k_whole) | (refine' PySem.W.nameX_B ?hzF ?hzX ?hzT ?hze ?hzv ?hzn ?_ ?hza ?hzb ?hzd; (case hzF => k_asm); (case hzX => k_asm); (case hzT => k_asm); (case hze => k_is); (case hzv => boot_fast); (case hzn => decide +kernel); (case hza => first | kernel_rfl | rfl); (case hzb => first | kernel_rfl | rfl); (case hzd => first | kernel_rfl | decide); k_whole)))
  k_with "eval Name" => (k_here; (first | (with_reducible show wpAny _ _ (eval (PySem.Expr.Name _ _) (envOf _ _ _ _ _)) _ _ _) | (with_reducible show wpAny _ _ (eval (PySem.Expr.Name _ _) (envOfC _ _ _ _ _)) _ _ _)); name_kind "local"; k_dflt (refine' PySem.W.nameX_L ?hzF ?hzv ?_ ?hza ?hzb ?hzd; (case hzF => k_asm); (case hzv => exact Eq.refl (some _)); (case hza => first | kernel_rfl | rfl); (case hzb => first | kernel_rfl | rfl); (case hzd => first | kernel_rfl | decide); k_whole))
  k_with "eval Name" => (k_here; (first | (with_reducible show wpAny _ _ (eval (PySem.Expr.Name _ _) (envOf _ _ _ _ _)) _ _ _) | (with_reducible show wpAny _ _ (eval (PySem.Expr.Name _ _) (envOfC _ _ _ _ _)) _ _ _)); name_kind "cell"; k_dflt (refine' PySem.W.nameX_C ?hzN ?hzc ?hzm ?hzd ?_ ?hza ?hzb ?hze; (case hzN => k_asm); (case hzc => exact Eq.refl (some _)); (case hzm => k_mem); (case hzd => k_asm); (case hza => first | kernel_rfl | rfl); (case hzb => first | kernel_rfl | rfl); (case hze => first | kernel_rfl | rfl); k_whole))
  k_with "eval Name" => (k_here; (with_reducible show wpAny _ _ (eval (PySem.Expr.Name _ _) (compEnvC _ _ _ _)) _ _ _); k_dflt (first | (refine' PySem.W.kcf_cell ?hzN ?hzc ?hzm ?hzd ?_ ?hza ?hzb ?hze; (case hzb => kernel_rfl); (case hzN => k_asm); (case hzc => exact Eq.refl (some _)); (case hzm => k_mem); (case hzd => k_asm); (case hza => first | kernel_rfl | rfl); (case hze => first | kernel_rfl | rfl); k_whole) | (refine' PySem.W.LCgL.ld_own ?hzN ?hzm ?hzd ?hzc ?_ ?hza ?hzb ?hze; (case hzb => kernel_rfl); (case hzN => k_asm); (case hzm => k_mem); (case hzd => assumption); (case hzc => assumption); (case hza => first | kernel_rfl | rfl); (case hze => first | kernel_rfl | rfl); k_whole)))
  k_with "execs cons" => (k_here; with_reducible refine Mine.gentoks ?_; intro _)
  k_with "execs nil" => (k_here; with_reducible refine Mine.gentoks ?_; intro _)
  k_with "execs cons" => (k_here; k_fold)
  k_with "execs cons" => (k_here; with_reducible refine Mine.foldB ?hzht ?_; (case hzht => ((fail_if_success (fail_if_success (rw [Mine.deepMark]))); k_dflt (exact trivial))); intro _)
  k_with "eval Call" => (k_here; k_fold)
  k_with "eval Subscript" => (k_here; k_fold)
  k_with "eval Compare" => (k_here; k_fold)
  k_with "eval BinOp" => (k_here; k_fold)
  k_with "subscriptTail Attribute" => (k_here; k_dflt (refine PySem.W.kba_turn (value' := PySem.Expr.Name (PySem.Str.ofString "_") ⟨0, 0, 0, 0⟩) (fun _ => rfl) ?_))
  k_with "k_room" => (first | ktr_room | ((simp +zetaDelta only [depth_under_make, depth_under_kw, depth_in1, depth_deeper, depth_caller]); ktr_room))
  k_with "call ref" => (k_here; (with_reducible show wpAny _ _ (call (Value.ref 611) _ _) _ _ _); k_dflt (refine wpAny_call ?_; refine' Mine.make_new (fN := 104) (fI := 381) ?hzk1 ?hzk2 ?hzk3 ?hzk4 ?hzk5 ?hzk6 ?hzk7 ?hzk8 ?hzk9 ?_; (case hzk1 => k_in); (case hzk2 => exact ⟨_, _, _, _, by k_is, rfl⟩); (case hzk3 => k_is); (case hzk4 => k_is); (case hzk5 => k_is); (case hzk6 => exact fun _ => by kernel_rfl); (case hzk7 => k_is); (case hzk8 => k_is); (case hzk9 => (intro _ _ _ hqZ; walk1; exact hqZ)); k_enter))
  k_with "call builtin:object.__new__" => (k_here; k_dflt (refine wpAny_call ?_; refine' Mine.new_own (C := 611) ?hzk1 ?hzk2 ?hzk3 ?hzk4 ?hzk5 ?hzk6 ?hzk7 ?hzk8 ?hzk9 ?_; (case hzk1 => k_asm); (case hzk2 => k_asm); (case hzk3 => k_in); (case hzk4 => exact ⟨_, _, _, _, by k_is, rfl, rfl⟩); (case hzk5 => k_is); (case hzk6 => k_is); (case hzk7 => k_is); (case hzk8 => exact fun _ => by kernel_rfl); (case hzk9 => exact fun _ => by kernel_rfl); intro _ _ _ _ _ l1Z l2Z; (try k_lt l1Z); (try k_lt2 l2Z); (try k_sweep); (try dsimp only)))
  k_with "NewBack" => (k_here; k_dflt (refine ⟨_, News.get (by k_asm) (by k_mem), by k_in, ?_⟩; (try dsimp only); k_enter))
  k_with "call type:collections.deque" => (k_here; k_dflt (refine' Mine.call_deque ?hzk1 ?hzk2 ?_; (case hzk1 => k_asm); (case hzk2 => k_asm); k_whole; intro _ _ _ _ l1Z; (try k_lt l1Z); (try k_sweep)))
  k_with "truthy ref" => (k_here; k_dflt (refine' Mine.truthy_deque ?hzk1 ?hzk2 ?_; (case hzk1 => k_asm); (case hzk2 => k_mem); k_whole; intro _))
  k_with "call ref" => (k_here; (with_reducible show wpAny _ _ (call (Value.ref 557) _) _ _ _); k_dflt (first | (refine' Mine.read_use _ ?hzk1 ?hzk2 ?hzk3 ?hzk4 ?hzk5 ?hzkK ?hzko ?hzks ?hzk7 ?hzk8 ?hzkc ?hzkd ?hzku ?_; (case hzk1 => k_asm); (case hzk2 => k_asm); (case hzk3 => k_asm); (case hzk4 => k_asm); (case hzk5 => k_asm); (case hzkK => exact rfl); (case hzko => assumption); (case hzks => assumption); (case hzkc => assumption); (case hzk7 => assumption); (case hzk8 => assumption); (case hzkd => ktr_room); (case hzku => ktr_units); k_whole; intro t'Z _ h'Z tk'Z F'Z N'Z hs'Z; (try dsimp only)) | (refine' Mine.read_eof_use ?hzk1 ?hzk2 ?hzk3 ?hzk4 ?hzk5 ?hzkK ?hzko ?hzks ?hzk7 ?hzk8 ?hzkd ?hzku ?_; (case hzk1 => k_asm); (case hzk2 => k_asm); (case hzk3 => k_asm); (case hzk4 => k_asm); (case hzk5 => k_asm); (case hzkK => exact rfl); (case hzko => assumption); (case hzks => assumption); (case hzk7 => assumption); (case hzk8 => assumption); (case hzkd => ktr_room); (case hzku => ktr_units); k_whole; intro t'Z h'Z tk'Z F'Z N'Z hs'Z; (try dsimp only))))
  k_with "compareOp In str str" => (k_here; first | refine Mine.in_lit false (by kernel_rfl!) ?_ | refine Mine.in_lit true (by kernel_rfl!) ?_)
  k_with "LoopPost" => ((with_reducible show Mine.LoopPost _ _ _ _ Flow.brk _); dsimp only [Mine.LoopPost])
  k_with "exec If" => (with_reducible refine wpAny_If ?_)
  k_with "k_put" => (first | (with_reducible exact Mine.lex_put_state) | (with_reducible exact Mine.lex_put_token))
  k_with "leaving ref" => (k_here; k_dflt ((refine' leave_raiseS ?hzk1 ?hzk0 ?hzk2 ?hzk3 ?_; (case hzk0 => first | assumption | exact Heap.MadeExc.of (by assumption)); (case hzk1 => assumption); (case hzk2 => assumption); (case hzk3 => k_asm); k_whole; intro _ _ RS'Z R'Z U'Z; (try dsimp only at RS'Z R'Z U'Z ⊢))))
  trivial
theorem Mine.ln11 : True := by
  k_with "exec For Name Call cons nil" => (k_here; (with_reducible show wpAny _ _ (exec (Stmt.For (PySem.Expr.Name (Str.ofString "size") _) (PySem.Expr.Call (PySem.Expr.Name (Str.ofString "_grouping_intervals") _) _ _ _) _ _ _) _) _ _ _); (refine' owit_for ?_ ?hzhs; (case hzhs => (intro _; first | with_unfolding_all rfl | kernel_rfl)); k_whole))
  trivial
theorem Mine.ln12 : True := by
  k_with "pyIter ref" => ((with_reducible show wpAny _ _ (pyIter (Value.ref _)) (OwitAt _ _ _ _ _ _ _ _) _ _); refine wpAny_pyIter_gen (by assumption) ?_; apply Mine.Hold.to)
  trivial
namespace Mine
theorem news4 {h₀ h : Heap} {L a : Addr} {p1 p2 p3 : Addr × Obj} {items : Array Value} {n : Nat} {r : List (Addr × Obj)} (N : News h₀ L h (p1 :: p2 :: p3 :: (a, PySem.W.listOf items n) :: r)) : h.IsList a items := News.isList N (.tail _ (.tail _ (.tail _ (.head _))))
theorem news_turn {h₀ h : Heap} {L D : Addr} {p1 p2 p3 : Addr × Obj} {V : List Value} {x y c : Value} {ep : Nat} (N : News h₀ L h [p1, p2, p3, (D, PySem.W.listOf (V ++ [x, y] ++ [c]).toArray ep)]) : News h₀ L h [p2, p3, (D, PySem.W.listOf ((V ++ [x]) ++ [y, c]).toArray ep)] := by
  have e : (V ++ [x]) ++ [y, c] = V ++ [x, y] ++ [c] := by simp
  rw [e]
  exact fun p hp => N p (.tail _ hp)
theorem tok_last {h₀ h : Heap} {L D : Addr} {p1 p2 p3 : Addr × Obj} {V : List Value} {x y : Value} {c : Str} {t : Tok} {ep : Nat} (_ : News h₀ L h [p1, p2, p3, (D, PySem.W.listOf (V ++ [x, y] ++ [Value.str c t]).toArray ep)]) : ∃ tc, tc = t := ⟨_, rfl⟩
set_option maxHeartbeats 8000000 in
theorem grown_spec (w : World) (mg mb) (mean) (row : Addr) (vs : List Value) (ns : List Int) (pr : Str) (tr : Tok) (res : List Str) (hI : IntsAre vs ns) (hok : okR ns none = true) (hpr : pr.length = 2) (hres : growF (grpS ns none) 9 0 [] (Txt.item pr 1) (Txt.item pr 0) = some res) :
    CallsG w mean mg mb 787 [.ref row, .str pr tr] 4 [] (fun h => h.IsList row vs.toArray)
      (fun h v h' => ∃ (a : Addr) (ws : Array Value) (ep : Nat), v = .ref a ∧ h.get? a = none ∧ h'.get? a = some (PySem.W.listOf ws ep) ∧ StrsAre ws.toList res) := by
  w_on
  intro dp un gd cn cs a ccd cl outer A₀ base h₀ L m s Q E B F X N T hk hd hu hpre hret
  refine wpAny_call ?_
  k_dflt (refine' Mine.enterC ?k1 ?k2 ?k3 ?k4 ?k5 ?kA ?kF ?kK ?k6 ?k7 ?k8 ?k9 ?kB ?_ ?c2 ?c3 ?c4 ?c5; (case kA => exact rfl); (case kF => exact rfl); (case kK => assumption); (case k1 => k_asm); (case k2 => k_asm); (case k3 => k_asm); (case k4 => k_asm); (case k5 => k_asm); (case k6 => k_is); (case k7 => k_is); (case k8 => ktr_room); (case k9 => first | exact BindsTo.of_eq rfl | exact binds_K (by k_in) rfl (by k_is) rfl rfl rfl | fail "enter_c: the arguments"); (case kB => exact locs rfl); (case c2 => decide); (case c3 => exact rfl); (case c4 => exact rfl); (case c5 => exact rfl); k_whole)
  intro g L' h₁ hgs hkeep hLs F' N' hlt B' X' T'
  try dsimp only
  try k_fold
  try (with_reducible refine Mine.gentoks ?_; intro _)
  try (with_reducible refine Mine.foldB ?hzt ?_; (case hzt => ((fail_if_success (fail_if_success (rw [Mine.deepMark]))); k_dflt (exact trivial))); intro _)
  have hL := stays_list (fun b o e => hkeep b o e (by intro h; cases h)) hpre
  clear hpre B F X N T
  k_with "call ref" => (refine gen_call (row := row) (vs := vs) (ns := ns) (n := 12) (by k_asm) (by k_asm) (by k_asm) (by k_asm) ?hA ?hR hL hI hok (by decide) ?_; (case hA => exact rfl); (case hR => ktr_room); intro C H tk oC oG gs hLC hlC hCg hH F' N' hG hF hb; (try dsimp only))
  k_steps
  refine Hold.of ?_
  rename Fr _ _ _ _ => F9
  refine owit_start (fun A => GInv w A 12 (grpS ns none) g L' C s.gens.size (frOf9 F9) s res) ?turn 9 (by decide) ?start
  case start =>
    refine GInv.mk (j := 0) (W := []) (Ws := []) (a := Txt.item pr 1) (b := Txt.item pr 0) (oC := oC) (oG := oG) (u := frOf9 F9) (gs := gs) rfl (hlC _ (.head _)) rfl (fr_id _ (by assumption)) (by assumption) hG ?_ (.inl ⟨rfl, hH, hF⟩) .nil hres ?_ rfl rfl (by omega) (by omega)
    · simp
    · intro hb0 x hx
      rcases Array.mem_push.mp hx with hx | rfl
      · exact hb0 x hx
      · exact hb
  case turn =>
    rintro f s' @⟨D, j, W, Ws, x, y, tx, ty, oC1, oG1, u, h1, tk1, gn1, gs1, ep, hD, hDC, rfl, F1, N1, hG1, hgs1, hst1, hW, hgr, hb1, hWl, hjf, hx7, hy7⟩
    dsimp only [frOf9] at hD F1 ⊢
    cases hD
    obtain ⟨f, rfl⟩ : ∃ f', f = f' + 1 := by
      cases f with
      | zero => cases hgr
      | succ f => exact ⟨f, rfl⟩
    refine next_any F1 N1 ?hlt hLC hCg rfl (T'.nolimit.keeps F1.keep) ?room hG1 hgs1 (by omega) hst1 ?item ?stop
    case hlt => intro p hp; rw [List.mem_singleton.mp hp]; exact hDC
    case room => ktr_room
    case stop =>
      intro h2 tk2 gn2 hj F2 N2 hb2
      clear F9 F1 N1 hG1 hgs1 hst1
      dsimp only [OwitTurn]
      rw [growF, hj] at hgr
      cases hgr
      k_steps
      exact hret _ _ _ _ (fun b o e q => Fr.keep (by assumption) b o (hkeep b o e q)) ⟨_, _, _, rfl, new_none2 (p := (_, _)) hkeep (by assumption) (.head _), News.get (by assumption) (.head _), strs_app hW (.cons _ _ (.cons _ _ .nil))⟩ (fun z => hb2 (hb1 z))
    case item =>
      intro k t h2 tk2 gn2 oC2 oI2 gs2 hk F2 N2 hG2 hgs2 hb2 hsl
      clear F9 F1 N1 hG1 hgs1 hst1
      rw [growF, hk] at hgr
      dsimp only at hgr
      split at hgr
      case isFalse => cases hgr
      rename_i hk10
      dsimp only [OwitTurn]
      have hGo : h2.get? (C + 1) = some oG1 := (N2 _ (.tail _ (.head _))).1
      have hml : (Txt.mul y k).length ≤ 7 * 9 := len_mul_leN hy7 (by omega)
      have hl0 := News.isList N2 (.tail _ (.tail _ (.tail _ (.head _))))
      k_with "call builtin:list.append" => (refine append_K (by k_asm) (by k_asm) (by k_upd) ?_ (by size_fits); intro h' F' N'; (try k_sweep))
      k_with "subscriptTail" => (first | (refine item_last (by (with_reducible rename News _ _ _ _ => N9); with_reducible exact news4 N9) (by omega) ?_ rfl (by intro _; with_unfolding_all rfl)) | (refine item_prev (by (with_reducible rename News _ _ _ _ => N9); with_reducible exact news4 N9) (by omega) ?_ rfl (by intro _; with_unfolding_all rfl)) | ((refine item_pushed (by (with_reducible rename News _ _ _ _ => N9); with_reducible exact news4 N9) (by simp; omega) ?_ rfl (by intro _; with_unfolding_all rfl))))
      k_with "binaryOp Mult" => ((refine SB.mul (mulOk_of 16 16 (by omega) (by omega) (by omega) (by decide) (by decide)) ?_; intro _ _))
      k_with "binaryOp Add" => ((refine SBL.add ?_ (by rw [PySem.sizeLine_eq]; omega); intro _ _ _))
      k_steps
      · split at hgr
        · cases hgr
          refine hret _ _ _ _ (fun b o e q => Fr.keep (by assumption) b o (hkeep b o e q)) ⟨_, _, _, rfl, new_none2 (p := (_, _)) hkeep (by assumption) (.tail _ (.tail _ (.tail _ (.head _)))), News.get (by assumption) (.tail _ (.tail _ (.tail _ (.head _)))), ?_⟩ (fun z => hb2 (hb1 z))
          show StrsAre (W ++ [Value.str x tx, Value.str y ty] ++ [_]) _
          rw [List.append_assoc]
          exact strs_app hW (.cons _ _ (.cons _ _ (.cons _ _ .nil)))
        · omega
      · split at hgr
        · omega
        refine Hold.of ⟨f, Nat.lt_succ_self f, ?_⟩
        rename News _ _ _ _ => N3
        obtain ⟨tc, htc⟩ := tok_last N3
        refine GInv.mk (j := j + 1) (W := W ++ [Value.str x tx]) (Ws := Ws ++ [x]) (a := y) (b := Txt.mul y k ++ x) (ta := ty) (tb := tc) (oC := oC2) (oG := oG1) (u := fun _ => some (.int k t)) (gn := gn2) (gs := gs2) (ep := ep + 1) rfl hDC rfl (fr_again (by assumption)) ?N (isGen_of hG2 hGo (N3 _ (.tail _ (.head _))).1) hgs2 (.inr ⟨oI2, (N3 _ (.head _)).1, hsl⟩) (strs_app hW (.cons _ _ .nil)) hgr (fun z => hb2 (hb1 z)) (by simp [hWl]) (by omega) hy7 (by omega)
        case N => subst htc; exact news_turn N3
end Mine
end T_Gn5
section T_Lf
namespace Mine
section
variable {prog : Program} {w : World} {A : Around} {E : Value → Shared → Prop} {s : Shared} {h₀ : Heap} {L : Addr} {m : Str → Option Value} {news : List (Addr × Obj)} {l I : Addr} {vs : List Value}
theorem list_open {env : Env} {v : Str} {body : List Stmt} {Q : Flow → Shared → Prop} (F : Fr h₀ L s.heap m) (N : News h₀ L s.heap news) (hl : s.heap.IsList l vs.toArray)
    (h : ∀ (I : Nat) (oI : Obj) (h' : Heap), Fr h₀ L h' m → News h₀ L h' ((I, oI) :: news) → (∀ p ∈ news, (p.1 : Nat) < I) → (L : Nat) < I → h'.IsListIter I l 0 → OwitAt prog w A E env v body Q (.ref I) { s with heap := h' }) :
    wpAny (model prog w) A (pyIter (.ref l)) (OwitAt prog w A E env v body Q) E s := by
  refine wpAny_pyIter_list hl ?_
  refine h s.heap.objs.size _ _ (F.push _) (N.push F _) (fun p hp => Heap.lt_size (N p hp).1) ?_ ⟨_, Heap.get?_push_size _ rfl, rfl, rfl⟩
  obtain ⟨o, _, _, ho, _⟩ := F.ns
  exact Heap.lt_size ho
theorem list_next {Q : Option Value → Shared → Prop} {i : Nat} {oI : Obj} (F : Fr h₀ L s.heap m) (N : News h₀ L s.heap ((I, oI) :: news)) (hlt : ∀ p ∈ news, (p.1 : Nat) < I) (hL : (L : Nat) < I) (hh : A.handled = none) (hl : h₀.IsList l vs.toArray) (hit : s.heap.IsListIter I l i)
    (item : ∀ (v : Value) (oI' : Obj) (h' : Heap), vs[i]? = some v → Fr h₀ L h' m → News h₀ L h' ((I, oI') :: news) → h'.IsListIter I l (i + 1) → Q (some v) { s with heap := h' })
    (stop : ∀ (h' : Heap), vs[i]? = none → Fr h₀ L h' m → News h₀ L h' news → Q none { s with heap := h' }) : wpAny (model prog w) A (pyNext (.ref I)) Q E s := by
  have hl' : s.heap.IsList l vs.toArray := hl.at fun o e => F.keep _ o e
  have hI0 : h₀.get? I = none := (N _ (.head _)).2.2
  have keep : ∀ h' : Heap, Heap.ExtBut I s.heap h' → Fr h₀ L h' m ∧ News h₀ L h' news := fun h' hs => by
    obtain ⟨o, es, ep, ho, r⟩ := F.ns
    refine ⟨⟨⟨o, es, ep, hs _ _ (Nat.ne_of_lt hL) ho, r⟩, fun b o e => hs _ _ (fun q => by rw [q, hI0] at e; cases e) (F.keep b o e), F.above⟩, fun p hp => ⟨hs _ _ (Nat.ne_of_lt (hlt p hp)) (N p (.tail _ hp)).1, (N p (.tail _ hp)).2⟩⟩
  cases e : vs[i]? with
  | some v =>
    refine wpAny_pyNext_list_item hit hl' (by rw [List.getElem?_toArray]; exact e) fun h' hit' hs => ?_
    obtain ⟨F', N'⟩ := keep h' hs.extBut
    obtain ⟨o', ho', hr⟩ := id hit'
    refine item v o' h' e F' (fun p hp => ?_) hit'
    rcases List.mem_cons.mp hp with rfl | hp
    · exact ⟨ho', (N _ (.head _)).2⟩
    · exact N' p hp
  | none =>
    refine wpAny_pyNext_list_end hh hit hl' (by rw [List.getElem?_toArray]; exact e) fun h' hs => ?_
    obtain ⟨F', N'⟩ := keep h' hs
    exact stop h' e F' N'
noncomputable abbrev ritObj (x left : Int) : Obj := { cls := .type "range_iterator", dict := none, data := .fields #[rawInt x, rawInt left, rawInt 1], slots := #[] }
theorem range_open {env : Env} {v : Str} {body : List Stmt} {Q : Flow → Shared → Prop} {r : Addr} {n : Nat} {t u z : Tok} (F : Fr h₀ L s.heap m) (N : News h₀ L s.heap news) (hr : IsRange s.heap r 0 (n : Int) 1 t u z) (hn : n < 1000)
    (h : ∀ (I : Nat) (h' : Heap), Fr h₀ L h' m → News h₀ L h' ((I, ritObj 0 (n : Int)) :: news) → (∀ p ∈ news, (p.1 : Nat) < I) → (L : Nat) < I → OwitAt prog w A E env v body Q (.ref I) { s with heap := h' }) :
    wpAny (model prog w) A (pyIter (.ref r)) (OwitAt prog w A E env v body Q) E s := by
  refine wpAny_pyIter_range hr (small_one (by omega) (by omega) (by omega) (by omega)) ?_
  rw [rangeSize_nat, show ((n : Int) - 0).toNat = n by omega]
  refine h s.heap.objs.size _ (F.push _) (N.push F _) (fun p hp => Heap.lt_size (N p hp).1) ?_
  obtain ⟨o, _, _, ho, _⟩ := F.ns
  exact Heap.lt_size ho
theorem range_next {Q : Option Value → Shared → Prop} {i n : Nat} (F : Fr h₀ L s.heap m) (N : News h₀ L s.heap ((I, ritObj (i : Int) ((n - i : Nat) : Int)) :: news)) (hlt : ∀ p ∈ news, (p.1 : Nat) < I) (hL : (L : Nat) < I) (hh : A.handled = none) (hin : i ≤ n)
    (item : i < n → ∀ (t : Tok) (h' : Heap) (tk : Nat), Fr h₀ L h' m → News h₀ L h' ((I, ritObj ((i + 1 : Nat) : Int) ((n - (i + 1) : Nat) : Int)) :: news) → Q (some (.int (i : Int) t)) { s with heap := h', toks := tk })
    (stop : i = n → ∀ (h' : Heap), Fr h₀ L h' m → News h₀ L h' news → Q none { s with heap := h' }) : wpAny (model prog w) A (pyNext (.ref I)) Q E s := by
  have hI0 : h₀.get? I = none := (N _ (.head _)).2.2
  have keep : ∀ h' : Heap, Heap.ExtBut I s.heap h' → Fr h₀ L h' m ∧ News h₀ L h' news := fun h' hs => by
    obtain ⟨o, es, ep, ho, r⟩ := F.ns
    refine ⟨⟨⟨o, es, ep, hs _ _ (Nat.ne_of_lt hL) ho, r⟩, fun b o e => hs _ _ (fun q => by rw [q, hI0] at e; cases e) (F.keep b o e), F.above⟩, fun p hp => ⟨hs _ _ (Nat.ne_of_lt (hlt p hp)) (N p (.tail _ hp)).1, (N p (.tail _ hp)).2⟩⟩
  by_cases e : i < n
  · refine wpAny_pyNext_range_item (N _ (.head _)).1 (by omega) fun h' hit' hs => ?_
    obtain ⟨F', N'⟩ := keep h' hs.extBut
    refine item e _ _ _ F' (fun p hp => ?_)
    rcases List.mem_cons.mp hp with rfl | hp
    · refine ⟨?_, (N _ (.head _)).2⟩
      have e1 : ((i + 1 : Nat) : Int) = (i : Int) + 1 := by omega
      have e2 : ((n - (i + 1) : Nat) : Int) = ((n - i : Nat) : Int) - 1 := by omega
      rw [e1, e2]; exact hit'
    · exact N' p hp
  · refine wpAny_pyNext_range_end hh (N _ (.head _)).1 (by omega) fun h' hs => ?_
    obtain ⟨F', N'⟩ := keep h' hs
    exact stop (by omega) h' F' N'
theorem item_at {value slice : PySem.Expr} {x : Value} {i : Nat} {u : Tok} {Q : Value → Shared → Prop} (hl : s.heap.IsList l vs.toArray) (hx : vs[i]? = some x) (hi : i < 1000) (h : Q x s) (hs : ∀ i, subscripted slice false (.ref l) (.int i u) = operate [.ref l, .int i u] (getItem (.ref l) (.int i u))) :
    wpAny (model prog w) A (subscriptTail value slice (.ref l) (.int (i : Int) u)) Q E s :=
  tail_any hl.typeIs slot_list_getitem.lookup (wpAny_getItem_list hl (by omega) (by omega) (by simpa using hx) h) (hs _)
theorem fr3 {g h : Heap} {a b c : Str} {mK m₀ : Str → Option Value} (F : Fr g L h mK) (h3 : ∀ y, y ≠ a → y ≠ b → y ≠ c → mK y = m₀ y) : Fr g L h (fun y => if y = a then mK y else if y = b then mK y else if y = c then mK y else m₀ y) := by
  have e : (fun y => if y = a then mK y else if y = b then mK y else if y = c then mK y else m₀ y) = mK := by
    funext y
    by_cases a1 : y = a
    · rw [if_pos a1]
    by_cases a2 : y = b
    · rw [if_neg a1, if_pos a2]
    by_cases a3 : y = c
    · rw [if_neg a1, if_neg a2, if_pos a3]
    · rw [if_neg a1, if_neg a2, if_neg a3, h3 y a1 a2 a3]
  rw [e]; exact F
theorem fr3v {g h : Heap} {a b c : Str} {mK m₀ : Str → Option Value} {v : Option Value} (F : Fr g L h mK) (hc : mK c = v) (h3 : ∀ y, y ≠ a → y ≠ b → y ≠ c → mK y = m₀ y) : Fr g L h (fun y => if y = a then mK y else if y = b then mK y else if y = c then v else m₀ y) := by
  have e : (fun y => if y = a then mK y else if y = b then mK y else if y = c then v else m₀ y) = mK := by
    funext y
    by_cases a1 : y = a
    · rw [if_pos a1]
    by_cases a2 : y = b
    · rw [if_neg a1, if_pos a2]
    by_cases a3 : y = c
    · rw [if_neg a1, if_neg a2, if_pos a3, a3, hc]
    · rw [if_neg a1, if_neg a2, if_neg a3, h3 y a1 a2 a3]
  rw [e]; exact F
end
noncomputable def walkF : List Int → List Int → Int → Int → List Int → Int → Int → List Int × List Int
  | [], S, a, b, T, c, d => (S ++ [a, b], T ++ [c, d])
  | x :: r, S, a, b, T, c, d => if b ≤ 7 then walkF r (S ++ [a]) b (b * x + a) (T ++ [c]) d (d * x + c) else walkF r S a b T c d
inductive WInv (g : Heap) (L' I l : Nat) (m₀ : Str → Option Value) (s₀ : Shared) (ns : List Int) (res : List Int × List Int) (f : Nat) (s : Shared) : Prop where
  | mk {D1 D2 i : Nat} {S T : List Value} {Ss Ts : List Int} {a b c d : Int} {ta tb tc td : Tok} {oI : Obj} {u : Str → Option Value} {h : Heap} {tk e1 e2 : Nat} (_ : m₀ (Str.ofString "signs") = some (.ref D1)) (_ : m₀ (Str.ofString "seconds") = some (.ref D2)) (_ : D1 < D2) (_ : D2 < I) (_ : s = { s₀ with heap := h, toks := tk }) (_ : Fr g L' h (fun y => if y = Str.ofString "size" then u y else m₀ y)) (_ : News g L' h [((I : Nat), oI), ((D2 : Nat), PySem.W.listOf (T ++ [Value.int c tc, Value.int d td]).toArray e2), ((D1 : Nat), PySem.W.listOf (S ++ [Value.int a ta, Value.int b tb]).toArray e1)]) (_ : h.IsListIter I l i) (_ : IntsAre S Ss) (_ : IntsAre T Ts) (_ : walkF (ns.drop i) Ss a b Ts c d = res) (_ : S.length ≤ i) (_ : T.length ≤ i) (_ : i + f = ns.length) : WInv g L' I l m₀ s₀ ns res f s
theorem ints_app {vs us : List Value} {ss ts : List Int} (h : IntsAre vs ss) (h2 : IntsAre us ts) : IntsAre (vs ++ us) (ss ++ ts) := by
  induction h with
  | nil => exact h2
  | cons y t _ ih => exact .cons y t ih
end Mine
end T_Lf
section T_Wd2
theorem Mine.linesWd2 : True := by
  k_with_none
  k_with "omega" => (first | (k_whole; with_reducible assumption) | (law_clear; first | with_reducible assumption | decide +kernel | ((with_reducible show List.length (_ :: _) ≤ _); exact Nat.le_of_ble_eq_true (Eq.refl true)) | ((first | refine Mine.rm2 (by with_reducible assumption) ?_ | refine Mine.rm3 (by with_reducible assumption) ?_ | refine Mine.rm1 (by with_reducible assumption) ?_ | refine Mine.bd1 (by with_reducible assumption) ?_ | refine Mine.bd3 (by with_reducible assumption) ?_ | refine Mine.bd2 (by with_reducible assumption) ?_ | refine Mine.bd4 (by with_reducible assumption) ?_ | refine Mine.bd5 (by with_reducible assumption) ?_ | refine Mine.bd6 (by with_reducible assumption) ?_ | refine Mine.bd7 (by with_reducible assumption) ?_ | refine Mine.bd8 (by with_reducible assumption) ?_); exact Eq.refl true) | ((first | refine Mine.ci1 (by with_reducible assumption) ?_ | refine Mine.ci2 (by with_reducible assumption) ?_); decide) | exact Mine.rm0 (by with_reducible assumption) | exact Mine.lp1 (by with_reducible assumption) (by with_reducible assumption) | exact Mine.lp2 (by with_reducible assumption) (by with_reducible assumption) | exact Mine.lp3 (by with_reducible assumption) | lia))
  k_with "ite" => (first | (with_reducible refine PySem.W.ite_neg (by with_reducible assumption) ?_) | (with_reducible refine PySem.W.ite_pos (by with_reducible assumption) ?_))
  k_with "ite" => (k_closed; first | (with_reducible refine PySem.W.ite_neg (by decide +kernel) ?_) | (with_reducible refine PySem.W.ite_pos (by decide +kernel) ?_))
  k_with "getAttr ref" => (k_here; k_dflt (refine' PySem.W.get_own ?hzk1 ?hzk2 ?hzk3 ?hzk4 ?hzk5 ?hzk6 ?hzk7 ?hzk8 ?hzk9 ?_; (case hzk1 => k_asm); (case hzk2 => k_asm); (case hzk3 => k_inst); (case hzk8 => k_get); (case hzk4 => k_is); (case hzk5 => k_is); (case hzk6 => k_is); (case hzk7 => k_is); (case hzk9 => k_handed); k_whole))
  k_with "eval Name" => (k_here; (first | (with_reducible show wpAny _ _ (eval (PySem.Expr.Name _ _) (envOf _ _ _ _ _)) _ _ _) | (with_reducible show wpAny _ _ (eval (PySem.Expr.Name _ _) (envOfC _ _ _ _ _)) _ _ _)); name_kind "globalImplicit"; k_dflt (first | (refine' PySem.W.nameX_K ?hzF ?hzX ?hzT ?hze ?_ ?hza ?hzb ?hzd; (case hzF => k_asm); (case hzX => k_asm); (case hzT => k_asm); (case hze => k_is); (case hza => first | kernel_rfl | rfl); (case hzb => first | kernel_rfl | rfl); (case hzd => first | kernel_rfl | decide); k_whole) | (refine' PySem.W.nameX_B ?hzF ?hzX ?hzT ?hze ?hzv ?hzn ?_ ?hza ?hzb ?hzd; (case hzF => k_asm); (case hzX => k_asm); (case hzT => k_asm); (case hze => k_is); (case hzv => boot_fast); (case hzn => decide +kernel); (case hza => first | kernel_rfl | rfl); (case hzb => first | kernel_rfl | rfl); (case hzd => first | kernel_rfl | decide); k_whole)))
  k_with "eval Name" => (k_here; (first | (with_reducible show wpAny _ _ (eval (PySem.Expr.Name _ _) (envOf _ _ _ _ _)) _ _ _) | (with_reducible show wpAny _ _ (eval (PySem.Expr.Name _ _) (envOfC _ _ _ _ _)) _ _ _)); name_kind "local"; k_dflt (refine' PySem.W.nameX_L ?hzF ?hzv ?_ ?hza ?hzb ?hzd; (case hzF => k_asm); (case hzv => exact Eq.refl (some _)); (case hza => first | kernel_rfl | rfl); (case hzb => first | kernel_rfl | rfl); (case hzd => first | kernel_rfl | decide); k_whole))
  k_with "eval Name" => (k_here; (first | (with_reducible show wpAny _ _ (eval (PySem.Expr.Name _ _) (envOf _ _ _ _ _)) _ _ _) | (with_reducible show wpAny _ _ (eval (PySem.Expr.Name _ _) (envOfC _ _ _ _ _)) _ _ _)); name_kind "cell"; k_dflt (refine' PySem.W.nameX_C ?hzN ?hzc ?hzm ?hzd ?_ ?hza ?hzb ?hze; (case hzN => k_asm); (case hzc => exact Eq.refl (some _)); (case hzm => k_mem); (case hzd => k_asm); (case hza => first | kernel_rfl | rfl); (case hzb => first | kernel_rfl | rfl); (case hze => first | kernel_rfl | rfl); k_whole))
  k_with "eval Name" => (k_here; (with_reducible show wpAny _ _ (eval (PySem.Expr.Name _ _) (compEnvC _ _ _ _)) _ _ _); k_dflt (first | (refine' PySem.W.kcf_cell ?hzN ?hzc ?hzm ?hzd ?_ ?hza ?hzb ?hze; (case hzb => kernel_rfl); (case hzN => k_asm); (case hzc => exact Eq.refl (some _)); (case hzm => k_mem); (case hzd => k_asm); (case hza => first | kernel_rfl | rfl); (case hze => first | kernel_rfl | rfl); k_whole) | (refine' PySem.W.LCgL.ld_own ?hzN ?hzm ?hzd ?hzc ?_ ?hza ?hzb ?hze; (case hzb => kernel_rfl); (case hzN => k_asm); (case hzm => k_mem); (case hzd => assumption); (case hzc => assumption); (case hza => first | kernel_rfl | rfl); (case hze => first | kernel_rfl | rfl); k_whole)))
  k_with "execs cons" => (k_here; with_reducible refine Mine.gentoks ?_; intro _)
  k_with "execs nil" => (k_here; with_reducible refine Mine.gentoks ?_; intro _)
  k_with "execs cons" => (k_here; k_fold)
  k_with "execs cons" => (k_here; with_reducible refine Mine.foldB ?hzht ?_; (case hzht => ((fail_if_success (fail_if_success (rw [Mine.deepMark]))); k_dflt (exact trivial))); intro _)
  k_with "eval Call" => (k_here; k_fold)
  k_with "eval Subscript" => (k_here; k_fold)
  k_with "eval Compare" => (k_here; k_fold)
  k_with "eval BinOp" => (k_here; k_fold)
  k_with "subscriptTail Attribute" => (k_here; k_dflt (refine PySem.W.kba_turn (value' := PySem.Expr.Name (PySem.Str.ofString "_") ⟨0, 0, 0, 0⟩) (fun _ => rfl) ?_))
  k_with "k_room" => (first | ktr_room | ((simp +zetaDelta only [depth_under_make, depth_under_kw, depth_in1, depth_deeper, depth_caller]); ktr_room))
  k_with "call ref" => (k_here; (with_reducible show wpAny _ _ (call (Value.ref 611) _ _) _ _ _); k_dflt (refine wpAny_call ?_; refine' Mine.make_new (fN := 104) (fI := 381) ?hzk1 ?hzk2 ?hzk3 ?hzk4 ?hzk5 ?hzk6 ?hzk7 ?hzk8 ?hzk9 ?_; (case hzk1 => k_in); (case hzk2 => exact ⟨_, _, _, _, by k_is, rfl⟩); (case hzk3 => k_is); (case hzk4 => k_is); (case hzk5 => k_is); (case hzk6 => exact fun _ => by kernel_rfl); (case hzk7 => k_is); (case hzk8 => k_is); (case hzk9 => (intro _ _ _ hqZ; walk1; exact hqZ)); k_enter))
  k_with "call builtin:object.__new__" => (k_here; k_dflt (refine wpAny_call ?_; refine' Mine.new_own (C := 611) ?hzk1 ?hzk2 ?hzk3 ?hzk4 ?hzk5 ?hzk6 ?hzk7 ?hzk8 ?hzk9 ?_; (case hzk1 => k_asm); (case hzk2 => k_asm); (case hzk3 => k_in); (case hzk4 => exact ⟨_, _, _, _, by k_is, rfl, rfl⟩); (case hzk5 => k_is); (case hzk6 => k_is); (case hzk7 => k_is); (case hzk8 => exact fun _ => by kernel_rfl); (case hzk9 => exact fun _ => by kernel_rfl); intro _ _ _ _ _ l1Z l2Z; (try k_lt l1Z); (try k_lt2 l2Z); (try k_sweep); (try dsimp only)))
  k_with "NewBack" => (k_here; k_dflt (refine ⟨_, News.get (by k_asm) (by k_mem), by k_in, ?_⟩; (try dsimp only); k_enter))
  k_with "call type:collections.deque" => (k_here; k_dflt (refine' Mine.call_deque ?hzk1 ?hzk2 ?_; (case hzk1 => k_asm); (case hzk2 => k_asm); k_whole; intro _ _ _ _ l1Z; (try k_lt l1Z); (try k_sweep)))
  k_with "truthy ref" => (k_here; k_dflt (refine' Mine.truthy_deque ?hzk1 ?hzk2 ?_; (case hzk1 => k_asm); (case hzk2 => k_mem); k_whole; intro _))
  k_with "call ref" => (k_here; (with_reducible show wpAny _ _ (call (Value.ref 557) _) _ _ _); k_dflt (first | (refine' Mine.read_use _ ?hzk1 ?hzk2 ?hzk3 ?hzk4 ?hzk5 ?hzkK ?hzko ?hzks ?hzk7 ?hzk8 ?hzkc ?hzkd ?hzku ?_; (case hzk1 => k_asm); (case hzk2 => k_asm); (case hzk3 => k_asm); (case hzk4 => k_asm); (case hzk5 => k_asm); (case hzkK => exact rfl); (case hzko => assumption); (case hzks => assumption); (case hzkc => assumption); (case hzk7 => assumption); (case hzk8 => assumption); (case hzkd => ktr_room); (case hzku => ktr_units); k_whole; intro t'Z _ h'Z tk'Z F'Z N'Z hs'Z; (try dsimp only)) | (refine' Mine.read_eof_use ?hzk1 ?hzk2 ?hzk3 ?hzk4 ?hzk5 ?hzkK ?hzko ?hzks ?hzk7 ?hzk8 ?hzkd ?hzku ?_; (case hzk1 => k_asm); (case hzk2 => k_asm); (case hzk3 => k_asm); (case hzk4 => k_asm); (case hzk5 => k_asm); (case hzkK => exact rfl); (case hzko => assumption); (case hzks => assumption); (case hzk7 => assumption); (case hzk8 => assumption); (case hzkd => ktr_room); (case hzku => ktr_units); k_whole; intro t'Z h'Z tk'Z F'Z N'Z hs'Z; (try dsimp only))))
  k_with "compareOp In str str" => (k_here; first | refine Mine.in_lit false (by kernel_rfl!) ?_ | refine Mine.in_lit true (by kernel_rfl!) ?_)
  k_with "LoopPost" => ((with_reducible show Mine.LoopPost _ _ _ _ Flow.brk _); dsimp only [Mine.LoopPost])
  k_with "exec If" => (with_reducible refine wpAny_If ?_)
  k_with "k_put" => (first | (with_reducible exact Mine.lex_put_state) | (with_reducible exact Mine.lex_put_token))
  k_with "leaving ref" => (k_here; k_dflt ((refine' leave_raiseS ?hzk1 ?hzk0 ?hzk2 ?hzk3 ?_; (case hzk0 => first | assumption | exact Heap.MadeExc.of (by assumption)); (case hzk1 => assumption); (case hzk2 => assumption); (case hzk3 => k_asm); k_whole; intro _ _ RS'Z R'Z U'Z; (try dsimp only at RS'Z R'Z U'Z ⊢))))
  trivial
theorem Mine.ln13 : True := by
  k_with "exec For Name Name cons nil" => (k_here; (with_reducible show wpAny _ _ (exec (Stmt.For (PySem.Expr.Name (Str.ofString "size") _) (PySem.Expr.Name (Str.ofString "sizes") _) _ _ _) _) _ _ _); (refine' owit_for ?_ ?hzhs; (case hzhs => (intro _; first | with_unfolding_all rfl | kernel_rfl)); k_whole))
  trivial
theorem Mine.ln14 : True := by
  k_with "pyIter ref" => ((with_reducible show wpAny _ _ (pyIter (Value.ref _)) (OwitAt _ _ _ _ _ _ _ _) _ _); refine Mine.list_open (by k_asm) (by k_asm) (by is_list) ?_; intro _ _ _ _ _ _ _ _; apply Mine.Hold.to)
  trivial
namespace Mine
theorem news2 {h₀ h : Heap} {L a : Addr} {p1 : Addr × Obj} {items : Array Value} {n : Nat} {r : List (Addr × Obj)} (N : News h₀ L h (p1 :: (a, PySem.W.listOf items n) :: r)) : h.IsList a items := News.isList N (.tail _ (.head _))
theorem news3 {h₀ h : Heap} {L a : Addr} {p1 p2 : Addr × Obj} {items : Array Value} {n : Nat} {r : List (Addr × Obj)} (N : News h₀ L h (p1 :: p2 :: (a, PySem.W.listOf items n) :: r)) : h.IsList a items := News.isList N (.tail _ (.tail _ (.head _)))
theorem getD_last (S : List Int) (x y : Int) : (S ++ [x, y]).getD (-1 + (((S ++ [x, y]).length : Nat) : Int)).toNat 0 = y := by
  have e : (-1 + (((S ++ [x, y]).length : Nat) : Int)).toNat = S.length + 1 := by simp; omega
  rw [e, List.getD_eq_getElem?_getD, List.getElem?_append_right (by omega)]
  simp
theorem getD_prev (S : List Int) (x y : Int) : (S ++ [x, y]).getD (-2 + (((S ++ [x, y]).length : Nat) : Int)).toNat 0 = x := by
  have e : (-2 + (((S ++ [x, y]).length : Nat) : Int)).toNat = S.length := by simp; omega
  rw [e, List.getD_eq_getElem?_getD, List.getElem?_append_right (by omega)]
  simp
theorem walked_turn {h₀ h : Heap} {L D1 D2 : Addr} {p1 : Addr × Obj} {S T : List Value} {x y z t c d : Value} {e1 e2 : Nat} (N : News h₀ L h [p1, (D2, PySem.W.listOf ((T ++ [z, t]).toArray.push d) e2), (D1, PySem.W.listOf ((S ++ [x, y]).toArray.push c) e1)]) :
    News h₀ L h [p1, (D2, PySem.W.listOf ((T ++ [z]) ++ [t, d]).toArray e2), (D1, PySem.W.listOf ((S ++ [x]) ++ [y, c]).toArray e1)] := by
  have a1 : ((S ++ [x]) ++ [y, c]).toArray = (S ++ [x, y]).toArray.push c := by simp
  have a2 : ((T ++ [z]) ++ [t, d]).toArray = (T ++ [z, t]).toArray.push d := by simp
  rw [a1, a2]
  exact N
inductive WPost (ns : List Int) (h : Heap) (v : Value) (h' : Heap) : Prop where
  | mk (R D1 D2 : Addr) (ws1 ws2 : Array Value) (e1 e2 : Nat) (_ : v = .ref R) (_ : h.get? R = none) (_ : h.get? D1 = none) (_ : h.get? D2 = none) (_ : h'.get? R = some (PySem.W.listOf #[.ref D1, .ref D2] 0)) (_ : h'.get? D1 = some (PySem.W.listOf ws1 e1)) (_ : h'.get? D2 = some (PySem.W.listOf ws2 e2)) (_ : IntsAre ws1.toList (walkF ns [] 1 1 [] 1 0).1) (_ : IntsAre ws2.toList (walkF ns [] 1 1 [] 1 0).2) : WPost ns h v h'
set_option maxHeartbeats 8000000 in
theorem walked_spec (w : World) (mg mb) (mean) (l : Addr) (vs : List Value) (ns : List Int) (hI : IntsAre vs ns) (hpos : ∀ x ∈ ns, 0 < x ∧ x < 10) (hsz : ns.length < 60) :
    Calls w mean mg mb 794 [.ref l] 2 [] (fun h => h.IsList l vs.toArray)
      (WPost ns) := by
  w_on
  intro dp un gd cn cs a ccd cl outer A₀ base h₀ L m s Q E B F X N T hk hd hu hpre hret
  refine wpAny_call ?_
  k_dflt (refine' Mine.enterC ?k1 ?k2 ?k3 ?k4 ?k5 ?kA ?kF ?kK ?k6 ?k7 ?k8 ?k9 ?kB ?_ ?c2 ?c3 ?c4 ?c5; (case kA => exact rfl); (case kF => exact rfl); (case kK => assumption); (case k1 => k_asm); (case k2 => k_asm); (case k3 => k_asm); (case k4 => k_asm); (case k5 => k_asm); (case k6 => k_is); (case k7 => k_is); (case k8 => ktr_room); (case k9 => first | exact BindsTo.of_eq rfl | exact binds_K (by k_in) rfl (by k_is) rfl rfl rfl | fail "enter_c: the arguments"); (case kB => exact locs rfl); (case c2 => decide); (case c3 => exact rfl); (case c4 => exact rfl); (case c5 => exact rfl); k_whole)
  intro g L' h₁ hgs hkeep hLs F' N' hlt B' X' T'
  try dsimp only
  try k_fold
  try (with_reducible refine Mine.gentoks ?_; intro _)
  try (with_reducible refine Mine.foldB ?hzt ?_; (case hzt => ((fail_if_success (fail_if_success (rw [Mine.deepMark]))); k_dflt (exact trivial))); intro _)
  have hL := stays_list (fun b o e => hkeep b o e (by intro h; cases h)) hpre
  clear hpre B F X N T
  k_steps
  rename_i I oI hI1 FI NI hlI hLI hit
  refine Hold.of ?_
  refine owit_start (fun _ => WInv g L' I l (frOf9 FI) s ns (walkF ns [] 1 1 [] 1 0)) ?turn ns.length (by omega) ?start
  case start =>
    exact WInv.mk (i := 0) (S := []) (T := []) (Ss := []) (Ts := []) (a := 1) (b := 1) (c := 1) (d := 0) (oI := oI) (u := frOf9 FI) rfl rfl (by assumption) (hlI _ (.head _)) rfl (fr_id _ FI) NI hit .nil .nil rfl (Nat.le_refl _) (Nat.le_refl _) (Nat.zero_add _)
  case turn =>
    rintro f s' @⟨D1, D2, i, S, T2, Ss, Ts, x, y, z, t, tx, ty, tz, tt, oI1, u, h1, tk1, e1, e2, hD1, hD2, hD12, hD2I, rfl, F1, N1, hit1, hS, hT, hres, hSl, hTl, hif⟩
    dsimp only [frOf9] at hD1 hD2 F1 ⊢
    cases hD1
    cases hD2
    refine list_next F1 N1 ?hlt hLI rfl hL hit1 ?item ?stop
    case hlt =>
      intro p hp
      rcases List.mem_cons.mp hp with rfl | hp
      · exact hD2I
      · rw [List.mem_singleton.mp hp]; exact Nat.lt_trans hD12 hD2I
    case stop =>
      intro h2 hnone F2 N2
      have hd0 : ns.drop i = [] := by
        rw [List.drop_eq_nil_iff, ← hI.length]
        exact List.getElem?_eq_none_iff.mp hnone
      rw [hd0] at hres
      clear FI NI F1 N1 hit hit1
      dsimp only [OwitTurn]
      k_steps
      rename News _ _ _ _ => N3
      rw [walkF] at hres
      exact hret _ _ _ (fun b o e q => Fr.keep (by assumption) b o (hkeep b o e q)) ⟨_, _, _, _, _, _, _, rfl, new_none2 (p := (_, _)) hkeep N3 (.head _), new_none2 (p := (_, _)) hkeep N3 (.tail _ (.tail _ (.head _))), new_none2 (p := (_, _)) hkeep N3 (.tail _ (.head _)), N3.get (.head _), N3.get (.tail _ (.tail _ (.head _))), N3.get (.tail _ (.head _)),
        by rw [← hres]; exact ints_app hS (.cons _ _ (.cons _ _ .nil)), by rw [← hres]; exact ints_app hT (.cons _ _ (.cons _ _ .nil))⟩
    case item =>
      intro v oI2 h2 hv F2 N2 hit2
      obtain ⟨k, tv, rfl, hk⟩ := IntsAre.at hI i v hv
      have hkm := List.mem_of_getElem? hk
      have hkp := hpos k hkm
      have hd1 : ns.drop i = k :: ns.drop (i + 1) := by
        obtain ⟨hlt, e⟩ := List.getElem?_eq_some_iff.mp hk
        rw [← e]
        exact List.drop_eq_getElem_cons hlt
      have hil : i < ns.length := (List.getElem?_eq_some_iff.mp hk).1
      rw [hd1, walkF] at hres
      have hI2 := (N2 _ (.head _)).1
      clear FI NI F1 N1 hit hit1
      dsimp only [OwitTurn]
      k_with "call builtin:list.append" => (refine append_K (by k_asm) (by k_asm) (by k_upd) ?_ (by size_fits); intro h' F' N'; (try k_sweep))
      k_with "binaryOp Mult" => (refine mul_int ?_ (IntMulOk.of_right (intBits_le_64 (by omega) (by omega))))
      k_steps
      · rename News _ _ _ _ => N3
        rename Fr _ _ _ _ => F3
        rename _ ≤ (7 : Int) => hle
        simp only [getD_last, getD_prev] at N3 hle
        rw [if_pos hle] at hres
        refine Hold.of ⟨f - 1, by omega, ?_⟩
        exact WInv.mk (i := i + 1) (oI := oI2) (u := fun _ => some (.int k tv)) rfl rfl hD12 hD2I rfl (fr_again F3) (walked_turn N3) (hit2.at fun o e => by have a1 := (N3 _ (.head _)).1; have a2 := hI2; rw [a2] at e; cases e; exact a1) (ints_app hS (.cons _ _ .nil)) (ints_app hT (.cons _ _ .nil)) hres (by simp; omega) (by simp; omega) (by omega)
      · rename News _ _ _ _ => N3
        rename Fr _ _ _ _ => F3
        rename ¬ (_ ≤ (7 : Int)) => hle
        simp only [getD_last] at hle
        rw [if_neg hle] at hres
        refine Hold.of ⟨f - 1, by omega, ?_⟩
        exact WInv.mk (i := i + 1) (oI := oI2) (u := fun _ => some (.int k tv)) rfl rfl hD12 hD2I rfl (fr_again F3) N3 (hit2.at fun o e => by have a1 := (N3 _ (.head _)).1; have a2 := hI2; rw [a2] at e; cases e; exact a1) hS hT hres (by omega) (by omega) (by omega)
end Mine
end T_Wd2
section T_Qt
theorem Mine.linesQt : True := by
  k_with_none
  k_with "omega" => (first | (k_whole; with_reducible assumption) | (law_clear; first | with_reducible assumption | decide +kernel | ((with_reducible show List.length (_ :: _) ≤ _); exact Nat.le_of_ble_eq_true (Eq.refl true)) | ((first | refine Mine.rm2 (by with_reducible assumption) ?_ | refine Mine.rm3 (by with_reducible assumption) ?_ | refine Mine.rm1 (by with_reducible assumption) ?_ | refine Mine.bd1 (by with_reducible assumption) ?_ | refine Mine.bd3 (by with_reducible assumption) ?_ | refine Mine.bd2 (by with_reducible assumption) ?_ | refine Mine.bd4 (by with_reducible assumption) ?_ | refine Mine.bd5 (by with_reducible assumption) ?_ | refine Mine.bd6 (by with_reducible assumption) ?_ | refine Mine.bd7 (by with_reducible assumption) ?_ | refine Mine.bd8 (by with_reducible assumption) ?_); exact Eq.refl true) | ((first | refine Mine.ci1 (by with_reducible assumption) ?_ | refine Mine.ci2 (by with_reducible assumption) ?_); decide) | exact Mine.rm0 (by with_reducible assumption) | exact Mine.lp1 (by with_reducible assumption) (by with_reducible assumption) | exact Mine.lp2 (by with_reducible assumption) (by with_reducible assumption) | exact Mine.lp3 (by with_reducible assumption) | lia))
  k_with "ite" => (first | (with_reducible refine PySem.W.ite_neg (by with_reducible assumption) ?_) | (with_reducible refine PySem.W.ite_pos (by with_reducible assumption) ?_))
  k_with "ite" => (k_closed; first | (with_reducible refine PySem.W.ite_neg (by decide +kernel) ?_) | (with_reducible refine PySem.W.ite_pos (by decide +kernel) ?_))
  k_with "getAttr ref" => (k_here; k_dflt (refine' PySem.W.get_own ?hzk1 ?hzk2 ?hzk3 ?hzk4 ?hzk5 ?hzk6 ?hzk7 ?hzk8 ?hzk9 ?_; (case hzk1 => k_asm); (case hzk2 => k_asm); (case hzk3 => k_inst); (case hzk8 => k_get); (case hzk4 => k_is); (case hzk5 => k_is); (case hzk6 => k_is); (case hzk7 => k_is); (case hzk9 => k_handed); k_whole))
  k_with "eval Name" => (k_here; (first | (with_reducible show wpAny _ _ (eval (PySem.Expr.Name _ _) (envOf _ _ _ _ _)) _ _ _) | (with_reducible show wpAny _ _ (eval (PySem.Expr.Name _ _) (envOfC _ _ _ _ _)) _ _ _)); name_kind "globalImplicit"; k_dflt (first | (refine' PySem.W.nameX_K ?hzF ?hzX ?hzT ?hze ?_ ?hza ?hzb ?hzd; (case hzF => k_asm); (case hzX => k_asm); (case hzT => k_asm); (case hze => k_is); (case hza => first | kernel_rfl | rfl); (case hzb => first | kernel_rfl | rfl); (case hzd => first | kernel_rfl | decide); k_whole) | (refine' PySem.W.nameX_B ?hzF ?hzX ?hzT ?hze ?hzv ?hzn ?_ ?hza ?hzb ?hzd; (case hzF => k_asm); (case hzX => k_asm); (case hzT => k_asm); (case hze => k_is); (case hzv => boot_fast); (case hzn => decide +kernel); (case hza => first | kernel_rfl | rfl); (case hzb => first | kernel_rfl | rfl); (case hzd => first | kernel_rfl | decide); k_whole)))
  k_with "eval Name" => (k_here; (first | (with_reducible show wpAny _ _ (eval (PySem.Expr.Name _ _) (envOf _ _ _ _ _)) _ _ _) | (with_reducible show wpAny _ _ (eval (PySem.Expr.Name _ _) (envOfC _ _ _ _ _)) _ _ _)); name_kind "local"; k_dflt (refine' PySem.W.nameX_L ?hzF ?hzv ?_ ?hza ?hzb ?hzd; (case hzF => k_asm); (case hzv => exact Eq.refl (some _)); (case hza => first | kernel_rfl | rfl); (case hzb => first | kernel_rfl | rfl); (case hzd => first | kernel_rfl | decide); k_whole))
  k_with "eval Name" => (k_here; (first | (with_reducible show wpAny _ _ (eval (PySem.Expr.Name _ _) (envOf _ _ _ _ _)) _ _ _) | (with_reducible show wpAny _ _ (eval (PySem.Expr.Name _ _) (envOfC _ _ _ _ _)) _ _ _)); name_kind "cell"; k_dflt (refine' PySem.W.nameX_C ?hzN ?hzc ?hzm ?hzd ?_ ?hza ?hzb ?hze; (case hzN => k_asm); (case hzc => exact Eq.refl (some _)); (case hzm => k_mem); (case hzd => k_asm); (case hza => first | kernel_rfl | rfl); (case hzb => first | kernel_rfl | rfl); (case hze => first | kernel_rfl | rfl); k_whole))
  k_with "eval Name" => (k_here; (with_reducible show wpAny _ _ (eval (PySem.Expr.Name _ _) (compEnvC _ _ _ _)) _ _ _); k_dflt (first | (refine' PySem.W.kcf_cell ?hzN ?hzc ?hzm ?hzd ?_ ?hza ?hzb ?hze; (case hzb => kernel_rfl); (case hzN => k_asm); (case hzc => exact Eq.refl (some _)); (case hzm => k_mem); (case hzd => k_asm); (case hza => first | kernel_rfl | rfl); (case hze => first | kernel_rfl | rfl); k_whole) | (refine' PySem.W.LCgL.ld_own ?hzN ?hzm ?hzd ?hzc ?_ ?hza ?hzb ?hze; (case hzb => kernel_rfl); (case hzN => k_asm); (case hzm => k_mem); (case hzd => assumption); (case hzc => assumption); (case hza => first | kernel_rfl | rfl); (case hze => first | kernel_rfl | rfl); k_whole)))
  k_with "execs cons" => (k_here; with_reducible refine Mine.gentoks ?_; intro _)
  k_with "execs nil" => (k_here; with_reducible refine Mine.gentoks ?_; intro _)
  k_with "execs cons" => (k_here; k_fold)
  k_with "execs cons" => (k_here; with_reducible refine Mine.foldB ?hzht ?_; (case hzht => ((fail_if_success (fail_if_success (rw [Mine.deepMark]))); k_dflt (exact trivial))); intro _)
  k_with "eval Call" => (k_here; k_fold)
  k_with "eval Subscript" => (k_here; k_fold)
  k_with "eval Compare" => (k_here; k_fold)
  k_with "eval BinOp" => (k_here; k_fold)
  k_with "subscriptTail Attribute" => (k_here; k_dflt (refine PySem.W.kba_turn (value' := PySem.Expr.Name (PySem.Str.ofString "_") ⟨0, 0, 0, 0⟩) (fun _ => rfl) ?_))
  k_with "k_room" => (first | ktr_room | ((simp +zetaDelta only [depth_under_make, depth_under_kw, depth_in1, depth_deeper, depth_caller]); ktr_room))
  trivial
namespace Mine
/-- the search's bound object stands at its place -/
noncomputable def FindAt (h : Heap) : Prop := ∃ o vs, h.get? 759 = some o ∧ o.cls = .type "builtin_function_or_method" ∧ o.data = .fields vs
theorem findAt_of {w : World} {h₀ h : Heap} {L : Addr} {m : Str → Option Value} (F : Fr h₀ L h m) (X : (Mine.hd.heap_1_1 w.params).In h₀) : FindAt h := by
  w_on
  exact ⟨_, _, X.keeps F.keep 759 _ (by k_is), rfl, rfl⟩
section
variable {M : Model} {A : Around} {E : Value → Shared → Prop} {s : Shared}
theorem callWith_find0 {pos : Pos} {args : List (Bool × Sem Value)} {Q : Value → Shared → Prop} (hplain : args.any (·.1) = false)
    (h : wpAny M A (evalArgs (.ref 759) true args []) (fun x s₁ => FindAt s₁.heap ∧ wpAny M A (call (.ref 759) ([] ++ x.pos) x.kw) Q E s₁) E s) : wpAny M A (callWith pos (.ref 759) [] args []) Q E s := by
  unfold callWith
  refine wpAny_bind (wpAny_holding (wpAny_mono h (fun x s₁ h₁ => wpAny_bind (wpAny_standAt ?_)) fun _ _ x => x))
  obtain ⟨⟨o, vs, ho, hc, hd⟩, hcall⟩ := h₁
  simp only [hplain, List.any_nil, Bool.or_false]
  refine wpAny_bind (m := keeperOf (.ref 759)) ?_
  unfold keeperOf
  refine wpAny_bind (wpAny_load ho ?_)
  rw [hd, hc]
  simp only [show (Value.type "builtin_function_or_method" != Value.type "method") = true by decide, show (Value.type "builtin_function_or_method" == Value.type "builtin_function_or_method" || Value.type "builtin_function_or_method" == Value.type "method-wrapper") = true by decide, if_true]
  refine wpAny_pure ?_
  exact wpAny_bind (wpAny_mono hcall (fun r s₂ hr => wpAny_bind (wpAny_holding (wpAny_point (wpAny_pure hr)))) fun _ _ x => x)
theorem callWith_find {pos : Pos} {env : Env} {e : PySem.Expr} {rest : List PySem.Expr} {Q : Value → Shared → Prop}
    (h : wpAny M A (spliced (backTo pos (starEach (e :: rest) env))) (fun vs s₁ => FindAt s₁.heap ∧ wpAny M A (call (.ref 759) ([] ++ vs)) Q E s₁) E s)
    (he : starEach (e :: rest) env = (false, eval e env) :: starEach rest env) (hplain : (backTo pos (starEach rest env)).any (·.1) = false) :
    wpAny M A (callWith pos (.ref 759) [] (backTo pos (starEach (e :: rest) env)) []) Q E s := by
  rw [he] at h ⊢
  refine callWith_find0 (by show (false || (backTo pos (starEach rest env)).any (·.1)) = false; rw [hplain]; rfl) ?_
  exact evalArgs_plain h
end
end Mine
theorem Mine.ln15 : True := by
  k_with "callWith ref" => (k_here; (with_reducible show wpAny _ _ (callWith _ (Value.ref 759) _ (backTo _ (starEach (_ :: _) _)) []) _ _ _); k_dflt (refine' Mine.callWith_find ?_ (by rfl) (by rfl); k_whole))
  trivial
theorem Mine.ln16 : True := by
  k_with "And" => ((with_reducible show Mine.FindAt _ ∧ _); k_dflt (refine ⟨Mine.findAt_of (by k_asm) (by k_asm), ?_⟩); (try dsimp only [List.nil_append, List.cons_append]))
  trivial
namespace Mine
noncomputable def quoted (x : Str) (b : Bool) : Str := if b then Str.ofString "'" ++ x ++ Str.ofString "'" else x
set_option maxHeartbeats 8000000 in
theorem quote_spec (w : World) (mg mb) (mean) (x : Str) (tx : Tok) (b : Bool) (hlen : 0 < x.length ∧ x.length < 100) (hf : finds x = some b) (hr : Txt.replace x (Str.ofString "'") (Str.ofString "'\"'\"'") = x) :
    Calls w mean mg mb 766 [.str x tx] 4 [] (fun _ => True) (fun _ v _ => ∃ t, v = .str (quoted x b) t) := by
  w_on
  intro dp un gd cn cs a ccd cl outer A₀ base h₀ L m s Q E B F X N T hk hd hu hpre hret
  refine wpAny_call ?_
  k_dflt (refine' Mine.enterC ?k1 ?k2 ?k3 ?k4 ?k5 ?kA ?kF ?kK ?k6 ?k7 ?k8 ?k9 ?kB ?_ ?c2 ?c3 ?c4 ?c5; (case kA => exact rfl); (case kF => exact rfl); (case kK => assumption); (case k1 => k_asm); (case k2 => k_asm); (case k3 => k_asm); (case k4 => k_asm); (case k5 => k_asm); (case k6 => k_is); (case k7 => k_is); (case k8 => ktr_room); (case k9 => first | exact BindsTo.of_eq rfl | exact binds_K (by k_in) rfl (by k_is) rfl rfl rfl | fail "enter_c: the arguments"); (case kB => exact locs rfl); (case c2 => decide); (case c3 => exact rfl); (case c4 => exact rfl); (case c5 => exact rfl); k_whole)
  intro g L' h₁ hgs hkeep hLs F' N' hlt B' X' T'
  try dsimp only
  try k_fold
  try (with_reducible refine Mine.gentoks ?_; intro _)
  try (with_reducible refine Mine.foldB ?hzt ?_; (case hzt => ((fail_if_success (fail_if_success (rw [Mine.deepMark]))); k_dflt (exact trivial))); intro _)
  clear hpre B F X N T
  have hx100 : x.length < 1000 := by omega
  cases b
  · k_with "call ref" => (refine call_find (by k_asm) (by k_asm) (by k_asm) false hf hx100 (fun q => absurd q Bool.false_ne_true) (fun _ => ?_); (try dsimp only))
    k_steps
    · exact hret _ _ _ (fun b o e q => Fr.keep (by assumption) b o (hkeep b o e q)) ⟨_, rfl⟩
    all_goals (exfalso; omega)
  · k_with "call ref" => (refine call_find (by k_asm) (by k_asm) (by k_asm) true hf hx100 (fun _ a' o' h' F' N' => ?_) (fun q => absurd q.symm Bool.false_ne_true); (try dsimp only))
    k_with "binaryOp Add str str" => (first | rw [hr] | skip; refine SBL.add ?_ (by rw [PySem.sizeLine_eq, show (Str.ofString "'").length = 1 from by decide +kernel]; omega); intro _ _ _)
    k_steps
    · exact hret _ _ _ (fun b o e q => Fr.keep (by assumption) b o (hkeep b o e q)) ⟨_, rfl⟩
    all_goals (exfalso; omega)
end Mine
end T_Qt
section T_Or
theorem Mine.linesOr : True := by
  k_with_none
  k_with "omega" => (first | (k_whole; with_reducible assumption) | (law_clear; first | with_reducible assumption | decide +kernel | ((with_reducible show List.length (_ :: _) ≤ _); exact Nat.le_of_ble_eq_true (Eq.refl true)) | ((first | refine Mine.rm2 (by with_reducible assumption) ?_ | refine Mine.rm3 (by with_reducible assumption) ?_ | refine Mine.rm1 (by with_reducible assumption) ?_ | refine Mine.bd1 (by with_reducible assumption) ?_ | refine Mine.bd3 (by with_reducible assumption) ?_ | refine Mine.bd2 (by with_reducible assumption) ?_ | refine Mine.bd4 (by with_reducible assumption) ?_ | refine Mine.bd5 (by with_reducible assumption) ?_ | refine Mine.bd6 (by with_reducible assumption) ?_ | refine Mine.bd7 (by with_reducible assumption) ?_ | refine Mine.bd8 (by with_reducible assumption) ?_); exact Eq.refl true) | ((first | refine Mine.ci1 (by with_reducible assumption) ?_ | refine Mine.ci2 (by with_reducible assumption) ?_); decide) | exact Mine.rm0 (by with_reducible assumption) | exact Mine.lp1 (by with_reducible assumption) (by with_reducible assumption) | exact Mine.lp2 (by with_reducible assumption) (by with_reducible assumption) | exact Mine.lp3 (by with_reducible assumption) | lia))
  k_with "ite" => (first | (with_reducible refine PySem.W.ite_neg (by with_reducible assumption) ?_) | (with_reducible refine PySem.W.ite_pos (by with_reducible assumption) ?_))
  k_with "ite" => (k_closed; first | (with_reducible refine PySem.W.ite_neg (by decide +kernel) ?_) | (with_reducible refine PySem.W.ite_pos (by decide +kernel) ?_))
  k_with "getAttr ref" => (k_here; k_dflt (refine' PySem.W.get_own ?hzk1 ?hzk2 ?hzk3 ?hzk4 ?hzk5 ?hzk6 ?hzk7 ?hzk8 ?hzk9 ?_; (case hzk1 => k_asm); (case hzk2 => k_asm); (case hzk3 => k_inst); (case hzk8 => k_get); (case hzk4 => k_is); (case hzk5 => k_is); (case hzk6 => k_is); (case hzk7 => k_is); (case hzk9 => k_handed); k_whole))
  k_with "eval Name" => (k_here; (first | (with_reducible show wpAny _ _ (eval (PySem.Expr.Name _ _) (envOf _ _ _ _ _)) _ _ _) | (with_reducible show wpAny _ _ (eval (PySem.Expr.Name _ _) (envOfC _ _ _ _ _)) _ _ _)); name_kind "globalImplicit"; k_dflt (first | (refine' PySem.W.nameX_K ?hzF ?hzX ?hzT ?hze ?_ ?hza ?hzb ?hzd; (case hzF => k_asm); (case hzX => k_asm); (case hzT => k_asm); (case hze => k_is); (case hza => first | kernel_rfl | rfl); (case hzb => first | kernel_rfl | rfl); (case hzd => first | kernel_rfl | decide); k_whole) | (refine' PySem.W.nameX_B ?hzF ?hzX ?hzT ?hze ?hzv ?hzn ?_ ?hza ?hzb ?hzd; (case hzF => k_asm); (case hzX => k_asm); (case hzT => k_asm); (case hze => k_is); (case hzv => boot_fast); (case hzn => decide +kernel); (case hza => first | kernel_rfl | rfl); (case hzb => first | kernel_rfl | rfl); (case hzd => first | kernel_rfl | decide); k_whole)))
  k_with "eval Name" => (k_here; (first | (with_reducible show wpAny _ _ (eval (PySem.Expr.Name _ _) (envOf _ _ _ _ _)) _ _ _) | (with_reducible show wpAny _ _ (eval (PySem.Expr.Name _ _) (envOfC _ _ _ _ _)) _ _ _)); name_kind "local"; k_dflt (refine' PySem.W.nameX_L ?hzF ?hzv ?_ ?hza ?hzb ?hzd; (case hzF => k_asm); (case hzv => exact Eq.refl (some _)); (case hza => first | kernel_rfl | rfl); (case hzb => first | kernel_rfl | rfl); (case hzd => first | kernel_rfl | decide); k_whole))
  k_with "eval Name" => (k_here; (first | (with_reducible show wpAny _ _ (eval (PySem.Expr.Name _ _) (envOf _ _ _ _ _)) _ _ _) | (with_reducible show wpAny _ _ (eval (PySem.Expr.Name _ _) (envOfC _ _ _ _ _)) _ _ _)); name_kind "cell"; k_dflt (refine' PySem.W.nameX_C ?hzN ?hzc ?hzm ?hzd ?_ ?hza ?hzb ?hze; (case hzN => k_asm); (case hzc => exact Eq.refl (some _)); (case hzm => k_mem); (case hzd => k_asm); (case hza => first | kernel_rfl | rfl); (case hzb => first | kernel_rfl | rfl); (case hze => first | kernel_rfl | rfl); k_whole))
  k_with "eval Name" => (k_here; (with_reducible show wpAny _ _ (eval (PySem.Expr.Name _ _) (compEnvC _ _ _ _)) _ _ _); k_dflt (first | (refine' PySem.W.kcf_cell ?hzN ?hzc ?hzm ?hzd ?_ ?hza ?hzb ?hze; (case hzb => kernel_rfl); (case hzN => k_asm); (case hzc => exact Eq.refl (some _)); (case hzm => k_mem); (case hzd => k_asm); (case hza => first | kernel_rfl | rfl); (case hze => first | kernel_rfl | rfl); k_whole) | (refine' PySem.W.LCgL.ld_own ?hzN ?hzm ?hzd ?hzc ?_ ?hza ?hzb ?hze; (case hzb => kernel_rfl); (case hzN => k_asm); (case hzm => k_mem); (case hzd => assumption); (case hzc => assumption); (case hza => first | kernel_rfl | rfl); (case hze => first | kernel_rfl | rfl); k_whole)))
  k_with "execs cons" => (k_here; with_reducible refine Mine.gentoks ?_; intro _)
  k_with "execs nil" => (k_here; with_reducible refine Mine.gentoks ?_; intro _)
  k_with "execs cons" => (k_here; k_fold)
  k_with "execs cons" => (k_here; with_reducible refine Mine.foldB ?hzht ?_; (case hzht => ((fail_if_success (fail_if_success (rw [Mine.deepMark]))); k_dflt (exact trivial))); intro _)
  k_with "eval Call" => (k_here; k_fold)
  k_with "eval Subscript" => (k_here; k_fold)
  k_with "eval Compare" => (k_here; k_fold)
  k_with "eval BinOp" => (k_here; k_fold)
  k_with "subscriptTail Attribute" => (k_here; k_dflt (refine PySem.W.kba_turn (value' := PySem.Expr.Name (PySem.Str.ofString "_") ⟨0, 0, 0, 0⟩) (fun _ => rfl) ?_))
  k_with "k_room" => (first | ktr_room | ((simp +zetaDelta only [depth_under_make, depth_under_kw, depth_in1, depth_deeper, depth_caller]); ktr_room))
  k_with "call ref" => (k_here; (with_reducible show wpAny _ _ (call (Value.ref 611) _ _) _ _ _); k_dflt (refine wpAny_call ?_; refine' Mine.make_new (fN := 104) (fI := 381) ?hzk1 ?hzk2 ?hzk3 ?hzk4 ?hzk5 ?hzk6 ?hzk7 ?hzk8 ?hzk9 ?_; (case hzk1 => k_in); (case hzk2 => exact ⟨_, _, _, _, by k_is, rfl⟩); (case hzk3 => k_is); (case hzk4 => k_is); (case hzk5 => k_is); (case hzk6 => exact fun _ => by kernel_rfl); (case hzk7 => k_is); (case hzk8 => k_is); (case hzk9 => (intro _ _ _ hqZ; walk1; exact hqZ)); k_enter))
  k_with "call builtin:object.__new__" => (k_here; k_dflt (refine wpAny_call ?_; refine' Mine.new_own (C := 611) ?hzk1 ?hzk2 ?hzk3 ?hzk4 ?hzk5 ?hzk6 ?hzk7 ?hzk8 ?hzk9 ?_; (case hzk1 => k_asm); (case hzk2 => k_asm); (case hzk3 => k_in); (case hzk4 => exact ⟨_, _, _, _, by k_is, rfl, rfl⟩); (case hzk5 => k_is); (case hzk6 => k_is); (case hzk7 => k_is); (case hzk8 => exact fun _ => by kernel_rfl); (case hzk9 => exact fun _ => by kernel_rfl); intro _ _ _ _ _ l1Z l2Z; (try k_lt l1Z); (try k_lt2 l2Z); (try k_sweep); (try dsimp only)))
  k_with "NewBack" => (k_here; k_dflt (refine ⟨_, News.get (by k_asm) (by k_mem), by k_in, ?_⟩; (try dsimp only); k_enter))
  k_with "call type:collections.deque" => (k_here; k_dflt (refine' Mine.call_deque ?hzk1 ?hzk2 ?_; (case hzk1 => k_asm); (case hzk2 => k_asm); k_whole; intro _ _ _ _ l1Z; (try k_lt l1Z); (try k_sweep)))
  k_with "truthy ref" => (k_here; k_dflt (refine' Mine.truthy_deque ?hzk1 ?hzk2 ?_; (case hzk1 => k_asm); (case hzk2 => k_mem); k_whole; intro _))
  k_with "call ref" => (k_here; (with_reducible show wpAny _ _ (call (Value.ref 557) _) _ _ _); k_dflt (first | (refine' Mine.read_use _ ?hzk1 ?hzk2 ?hzk3 ?hzk4 ?hzk5 ?hzkK ?hzko ?hzks ?hzk7 ?hzk8 ?hzkc ?hzkd ?hzku ?_; (case hzk1 => k_asm); (case hzk2 => k_asm); (case hzk3 => k_asm); (case hzk4 => k_asm); (case hzk5 => k_asm); (case hzkK => exact rfl); (case hzko => assumption); (case hzks => assumption); (case hzkc => assumption); (case hzk7 => assumption); (case hzk8 => assumption); (case hzkd => ktr_room); (case hzku => ktr_units); k_whole; intro t'Z _ h'Z tk'Z F'Z N'Z hs'Z; (try dsimp only)) | (refine' Mine.read_eof_use ?hzk1 ?hzk2 ?hzk3 ?hzk4 ?hzk5 ?hzkK ?hzko ?hzks ?hzk7 ?hzk8 ?hzkd ?hzku ?_; (case hzk1 => k_asm); (case hzk2 => k_asm); (case hzk3 => k_asm); (case hzk4 => k_asm); (case hzk5 => k_asm); (case hzkK => exact rfl); (case hzko => assumption); (case hzks => assumption); (case hzk7 => assumption); (case hzk8 => assumption); (case hzkd => ktr_room); (case hzku => ktr_units); k_whole; intro t'Z h'Z tk'Z F'Z N'Z hs'Z; (try dsimp only))))
  k_with "compareOp In str str" => (k_here; first | refine Mine.in_lit false (by kernel_rfl!) ?_ | refine Mine.in_lit true (by kernel_rfl!) ?_)
  k_with "LoopPost" => ((with_reducible show Mine.LoopPost _ _ _ _ Flow.brk _); dsimp only [Mine.LoopPost])
  k_with "exec If" => (with_reducible refine wpAny_If ?_)
  k_with "k_put" => (first | (with_reducible exact Mine.lex_put_state) | (with_reducible exact Mine.lex_put_token))
  k_with "leaving ref" => (k_here; k_dflt ((refine' leave_raiseS ?hzk1 ?hzk0 ?hzk2 ?hzk3 ?_; (case hzk0 => first | assumption | exact Heap.MadeExc.of (by assumption)); (case hzk1 => assumption); (case hzk2 => assumption); (case hzk3 => k_asm); k_whole; intro _ _ RS'Z R'Z U'Z; (try dsimp only at RS'Z R'Z U'Z ⊢))))
  trivial
namespace Mine
noncomputable def collF (x y : Str) : Int := b2i (decide (y.cps.toList < x.cps.toList)) - b2i (decide (x.cps.toList < y.cps.toList))
noncomputable def cmpF (x y : Int) : Int := b2i (decide (y < x)) - b2i (decide (x < y))
set_option maxHeartbeats 8000000 in
theorem coll_spec (w : World) (mg mb) (mean) (x y : Str) (tx ty : Tok) :
    Calls w mean mg mb 51 [.str x tx, .str y ty] 2 [] (fun _ => True) (fun _ v _ => ∃ t, v = .int (collF x y) t) := by
  w_on
  intro dp un gd cn cs a ccd cl outer A₀ base h₀ L m s Q E B F X N T hk hd hu hpre hret
  refine wpAny_call ?_
  k_dflt (refine' Mine.enterC ?k1 ?k2 ?k3 ?k4 ?k5 ?kA ?kF ?kK ?k6 ?k7 ?k8 ?k9 ?kB ?_ ?c2 ?c3 ?c4 ?c5; (case kA => exact rfl); (case kF => exact rfl); (case kK => assumption); (case k1 => k_asm); (case k2 => k_asm); (case k3 => k_asm); (case k4 => k_asm); (case k5 => k_asm); (case k6 => k_is); (case k7 => k_is); (case k8 => ktr_room); (case k9 => first | exact BindsTo.of_eq rfl | exact binds_K (by k_in) rfl (by k_is) rfl rfl rfl | fail "enter_c: the arguments"); (case kB => exact locs rfl); (case c2 => decide); (case c3 => exact rfl); (case c4 => exact rfl); (case c5 => exact rfl); k_whole)
  intro g L' h₁ hgs hkeep hLs F' N' hlt B' X' T'
  try dsimp only
  try k_fold
  try (with_reducible refine Mine.gentoks ?_; intro _)
  try (with_reducible refine Mine.foldB ?hzt ?_; (case hzt => ((fail_if_success (fail_if_success (rw [Mine.deepMark]))); k_dflt (exact trivial))); intro _)
  clear hpre B F X N T
  k_steps
  exact hret _ _ _ (fun b o e q => Fr.keep (by assumption) b o (hkeep b o e q)) ⟨_, rfl⟩
set_option maxHeartbeats 8000000 in
theorem cmp_spec (w : World) (mg mb) (mean) (x y : Int) (tx ty : Tok) :
    Calls w mean mg mb 780 [.int x tx, .int y ty] 2 [] (fun _ => True) (fun _ v _ => ∃ t, v = .int (cmpF x y) t) := by
  w_on
  intro dp un gd cn cs a ccd cl outer A₀ base h₀ L m s Q E B F X N T hk hd hu hpre hret
  refine wpAny_call ?_
  k_dflt (refine' Mine.enterC ?k1 ?k2 ?k3 ?k4 ?k5 ?kA ?kF ?kK ?k6 ?k7 ?k8 ?k9 ?kB ?_ ?c2 ?c3 ?c4 ?c5; (case kA => exact rfl); (case kF => exact rfl); (case kK => assumption); (case k1 => k_asm); (case k2 => k_asm); (case k3 => k_asm); (case k4 => k_asm); (case k5 => k_asm); (case k6 => k_is); (case k7 => k_is); (case k8 => ktr_room); (case k9 => first | exact BindsTo.of_eq rfl | exact binds_K (by k_in) rfl (by k_is) rfl rfl rfl | fail "enter_c: the arguments"); (case kB => exact locs rfl); (case c2 => decide); (case c3 => exact rfl); (case c4 => exact rfl); (case c5 => exact rfl); k_whole)
  intro g L' h₁ hgs hkeep hLs F' N' hlt B' X' T'
  try dsimp only
  try k_fold
  try (with_reducible refine Mine.gentoks ?_; intro _)
  try (with_reducible refine Mine.foldB ?hzt ?_; (case hzt => ((fail_if_success (fail_if_success (rw [Mine.deepMark]))); k_dflt (exact trivial))); intro _)
  clear hpre B F X N T
  k_steps
  exact hret _ _ _ (fun b o e q => Fr.keep (by assumption) b o (hkeep b o e q)) ⟨_, rfl⟩
theorem calls_use0 {w : World} {mean : ExcName → Option Value} {mg mb : Str → Option Value} {f : Addr} {args : List Value} {need : Nat} {news : List (Addr × Obj)} {pre : Heap → Prop} {post : Heap → Value → Heap → Prop}
    {dp un : Nat} {gd : Option (List Code)} {cn : Str} {cs : Scope} {a : Addr} {ccd : Value} {cl : List (Str × Addr)} {outer : List Env} {A₀ : Around} {base h₀ : Heap} {L : Addr} {m : Str → Option Value} {s : Shared} {Q E : Value → Shared → Prop}
    (B : Below A₀ base outer h₀) (F : Fr h₀ L s.heap m) (X : (Mine.hd.heap_1_1 w.params).In h₀) (N : News h₀ L s.heap news) (T : Top VW LO mean mg mb h₀) (hk : cs.kind = .function)
    (C : Calls w mean mg mb f args need [] pre post) (hd : dp + need < recursionLimit) (hu : un + 8 * need < cLine) (hp : pre s.heap)
    (ret : ∀ (v : Value) (h' : Heap) (tk' : Nat), Fr h₀ L h' m → News h₀ L h' news → (∀ b o, s.heap.get? b = some o → h'.get? b = some o) → post s.heap v h' → Q v { s with heap := h', toks := tk' }) :
    wpAny (model PR w) (ktrTop dp un gd cn cs L a ccd cl outer) (call (.ref f) args) Q E s :=
  calls_use B F X N T hk C (fun _ h => nomatch h) (fun p hp => ⟨hp, fun q => nomatch q⟩) hd hu hp fun v h' tk' F' N' k hp => ret v h' tk' F' N' (fun b o e => k b o e fun q => nomatch q) hp
theorem ints_at {vs : List Value} {ns : List Int} (h : IntsAre vs ns) {i : Nat} (hi : i < ns.length) : ∃ x, ns[i]? = some x ∧ ∃ t, vs[i]? = some (Value.int x t) := by
  have h1 : i < vs.length := by rw [h.length]; exact hi
  obtain ⟨k, t, e, hk⟩ := IntsAre.at h i vs[i] (List.getElem?_eq_getElem h1)
  exact ⟨k, hk, t, by rw [List.getElem?_eq_getElem h1, e]⟩
theorem strs_at : ∀ {vs : List Value} {ss : List Str} (_ : StrsAre vs ss) {i : Nat} (_ : i < ss.length), ∃ x, ss[i]? = some x ∧ ∃ t, vs[i]? = some (Value.str x t)
  | _, _, .nil, _, h => absurd h (Nat.not_lt_zero _)
  | _, _, .cons y t _, 0, _ => ⟨y, rfl, t, rfl⟩
  | _, _, .cons _ _ r, i + 1, h => by
    obtain ⟨x, h1, t, h2⟩ := strs_at r (i := i) (by simpa using h)
    exact ⟨x, by simpa using h1, t, by simpa using h2⟩
noncomputable def dueF (a b : Int) : Int := if a = b then 0 else if b < a then 1 else -1
theorem cmp_due (a b : Int) : cmpF a b = dueF a b := by
  unfold cmpF dueF b2i
  by_cases h1 : a = b
  · subst h1; simp
  · by_cases h2 : b < a
    · have h3 : ¬ a < b := by omega
      simp [h1, h2, h3]
    · have h3 : a < b := by omega
      simp [h1, h2, h3]
theorem due_gt {a b : Int} (h : b < a) : dueF a b = 1 := by
  have h1 : ¬ a = b := by omega
  simp [dueF, h1, h]
theorem due_lt {a b : Int} (h : a ≠ b) (h2 : ¬ b < a) : dueF a b = -1 := by simp [dueF, h, h2]
theorem due_eq {a b : Int} (h : a = b) : dueF a b = 0 := by simp [dueF, h]
theorem mem2_of {p a b : Addr × Obj} {r : List (Addr × Obj)} (h : p ∈ [a, b]) : p ∈ a :: b :: r := by
  rcases List.mem_cons.mp h with q | q
  · rw [q]; exact .head _
  · rw [List.mem_singleton.mp q]; exact .tail _ (.head _)
inductive OInv (g : Heap) (L' I : Nat) (m₀ : Str → Option Value) (s₀ : Shared) (n f : Nat) (s : Shared) : Prop where
  | mk (i : Nat) (mK : Str → Option Value) (h : Heap) (tk : Nat) (_ : i + f = n) (_ : s = { s₀ with heap := h, toks := tk }) (_ : Fr g L' h (fun y => if y = Str.ofString "i" then mK y else if y = Str.ofString "k" then mK y else if y = Str.ofString "due" then mK y else m₀ y)) (_ : News g L' h [((I : Nat), ritObj (i : Int) ((n - i : Nat) : Int))]) : OInv g L' I m₀ s₀ n f s
inductive OInv2 (g : Heap) (L' K I i : Nat) (ti : Tok) (m₀ : Str → Option Value) (s₀ : Shared) (n f : Nat) (s : Shared) : Prop where
  | mk (k : Nat) (mK : Str → Option Value) (h : Heap) (tk : Nat) (_ : k + f = n) (_ : s = { s₀ with heap := h, toks := tk }) (_ : Fr g L' h (fun y => if y = Str.ofString "k" then mK y else if y = Str.ofString "due" then mK y else if y = Str.ofString "i" then some (.int (i : Int) ti) else m₀ y)) (_ : News g L' h [((K : Nat), ritObj (k : Int) ((n - k : Nat) : Int)), ((I : Nat), ritObj ((i + 1 : Nat) : Int) ((n - (i + 1) : Nat) : Int))]) : OInv2 g L' K I i ti m₀ s₀ n f s
end Mine
theorem Mine.ln17 : True := by
  k_with "exec For Name Call cons nil" => (k_here; (with_reducible show wpAny _ _ (exec (Stmt.For (PySem.Expr.Name _ _) (PySem.Expr.Call (PySem.Expr.Name (Str.ofString "range") _) [PySem.Expr.Call (PySem.Expr.Name (Str.ofString "len") _) [PySem.Expr.Name (Str.ofString "numbers") _] _ _] _ _) _ _ _) _) _ _ _); (refine' owit_for ?_ ?hzhs; (case hzhs => (intro _; first | with_unfolding_all rfl | kernel_rfl)); k_whole))
  trivial
theorem Mine.ln18 : True := by
  k_with "pyIter ref" => ((with_reducible show wpAny _ _ (pyIter (Value.ref _)) (OwitAt _ _ _ _ _ _ _ _) _ _); refine Mine.range_open (by k_asm) (by k_asm) (by assumption) (by omega) ?_; intro _ _ _ _ _ _; apply Mine.Hold.to)
  trivial
theorem Mine.ln19 : True := by
  k_with "call ref" => (k_here; (with_reducible show wpAny _ _ (call (Value.ref 51) _) _ _ _); k_dflt (refine' Mine.calls_use0 ?hzk1 ?hzk2 ?hzk3 ?hzk4 ?hzk5 ?hzkK (Mine.coll_spec _ _ _ _ _ _ _ _) ?hzkd ?hzku trivial ?_; (case hzk1 => k_asm); (case hzk2 => k_asm); (case hzk3 => k_asm); (case hzk4 => k_asm); (case hzk5 => k_asm); (case hzkK => exact rfl); (case hzkd => ktr_room); (case hzku => ktr_units); k_whole; rintro _ _ _ _ _ - ⟨_, hv'Z⟩; subst hv'Z; (try dsimp only)))
  trivial
theorem Mine.ln20 : True := by
  k_with "call ref" => (k_here; (with_reducible show wpAny _ _ (call (Value.ref 780) _) _ _ _); k_dflt (refine' Mine.calls_use0 ?hzk1 ?hzk2 ?hzk3 ?hzk4 ?hzk5 ?hzkK (Mine.cmp_spec _ _ _ _ _ _ _ _) ?hzkd ?hzku trivial ?_; (case hzk1 => k_asm); (case hzk2 => k_asm); (case hzk3 => k_asm); (case hzk4 => k_asm); (case hzk5 => k_asm); (case hzkK => exact rfl); (case hzkd => ktr_room); (case hzku => ktr_units); k_whole; rintro _ _ _ _ _ - ⟨_, hv'Z⟩; subst hv'Z; (try dsimp only)))
  trivial
namespace Mine
set_option maxHeartbeats 8000000 in
theorem ordered_spec (w : World) (mg mb) (mean) (ln lw : Addr) (vn vw : List Value) (ns : List Int) (ws : List Str) (hn : IntsAre vn ns) (hw : StrsAre vw ws) (hlen : ns.length = ws.length) (hsz : ns.length < 60)
    (hdue : ∀ (i k : Nat), i < ns.length → k < ns.length → collF (ws.getD i Str.empty) (ws.getD k Str.empty) = dueF (ns.getD i 0) (ns.getD k 0)) :
    Calls w mean mg mb 813 [.ref ln, .ref lw] 12 [] (fun h => h.IsList ln vn.toArray ∧ h.IsList lw vw.toArray) (fun _ v _ => ∃ b, v = .bool b ∧ b = true) := by
  w_on
  intro dp un gd cn cs a ccd cl outer A₀ base h₀ L m s Q E B F X N T hk hd hu hpre hret
  refine wpAny_call ?_
  k_dflt (refine' Mine.enterC ?k1 ?k2 ?k3 ?k4 ?k5 ?kA ?kF ?kK ?k6 ?k7 ?k8 ?k9 ?kB ?_ ?c2 ?c3 ?c4 ?c5; (case kA => exact rfl); (case kF => exact rfl); (case kK => assumption); (case k1 => k_asm); (case k2 => k_asm); (case k3 => k_asm); (case k4 => k_asm); (case k5 => k_asm); (case k6 => k_is); (case k7 => k_is); (case k8 => ktr_room); (case k9 => first | exact BindsTo.of_eq rfl | exact binds_K (by k_in) rfl (by k_is) rfl rfl rfl | fail "enter_c: the arguments"); (case kB => exact locs rfl); (case c2 => decide); (case c3 => exact rfl); (case c4 => exact rfl); (case c5 => exact rfl); k_whole)
  intro g L' h₁ hgs hkeep hLs F' N' hlt B' X' T'
  try dsimp only
  try k_fold
  try (with_reducible refine Mine.gentoks ?_; intro _)
  try (with_reducible refine Mine.foldB ?hzt ?_; (case hzt => ((fail_if_success (fail_if_success (rw [Mine.deepMark]))); k_dflt (exact trivial))); intro _)
  have hLn := stays_list (fun b o e => hkeep b o e (by intro h; cases h)) hpre.1
  have hLw := stays_list (fun b o e => hkeep b o e (by intro h; cases h)) hpre.2
  clear hpre B F X N T
  k_steps
  rename_i I h2 FI NI hlI hLI
  refine Hold.of ?_
  refine owit_start (fun _ => OInv g L' I (frOf9 FI) s ns.length) ?turn ns.length (by omega) ?start
  case start => exact ⟨0, frOf9 FI, _, _, Nat.zero_add _, rfl, fr3 FI (fun _ _ _ _ => rfl), NI⟩
  case turn =>
    rintro f s' ⟨i, mK, h1, tk1, hif, rfl, F1, N1⟩
    dsimp only [frOf9] at F1 ⊢
    refine range_next F1 N1 (fun p hp => nomatch hp) hLI rfl (by omega) ?item ?stop
    case stop =>
      intro hi h2 F2 N2
      clear FI NI F1 N1
      dsimp only [OwitTurn]
      k_steps
      exact hret _ _ _ (fun b o e q => Fr.keep (by assumption) b o (hkeep b o e q)) ⟨_, rfl, rfl⟩
    case item =>
      intro hi ti h2 tk2 F2 N2
      clear FI NI F1 N1
      dsimp only [OwitTurn]
      k_steps
      rename_i K h3 FK NK hlK hLK
      refine Hold.of ?_
      refine owit_start (fun _ => OInv2 g L' K I i ti (frOf9 FK) s ns.length) ?turn2 ns.length (by omega) ?start2
      case start2 => exact ⟨0, frOf9 FK, _, _, Nat.zero_add _, rfl, fr3v FK rfl (fun _ _ _ _ => rfl), NK⟩
      case turn2 =>
        rintro f2 s' ⟨k, mK2, h1, tk1, hif2, rfl, F1, N1⟩
        dsimp only [frOf9] at F1 ⊢
        refine range_next F1 N1 hlK hLK rfl (by omega) ?item2 ?stop2
        case stop2 =>
          intro hk2 h2 F2 N2
          clear FK NK F1 N1
          dsimp only [OwitTurn]
          k_steps
          rename Fr _ _ _ _ => F3
          rename News _ _ _ _ => N3
          refine Hold.of ⟨f - 1, by omega, i + 1, _, _, _, by omega, rfl, fr3 F3 (by intro y a1 a2 a3; simp only [if_neg a1, if_neg a2, if_neg a3]), N3⟩
        case item2 =>
          intro hk2 tk2 h2 tk3 F2 N2
          clear FK NK F1 N1
          have hc := hdue i k hi hk2
          have hc2 := cmp_due (ns.getD i 0) (ns.getD k 0)
          dsimp only [OwitTurn]
          k_with "compareOp NotEq" => ((with_unfolding_all refine' ne_intsK ?k1 ?k2 ?k3 ?k4 ?k5 ?_; (case k1 => is_list); (case k2 => exact .cons _ _ (.cons _ _ .nil)); (case k3 => is_list); (case k4 => exact .cons _ _ (.cons _ _ .nil)); (case k5 => units_room)))
          k_steps
          all_goals (rename Fr _ _ _ _ => F3; rename News _ _ _ _ => N3)
          · exact Hold.of ⟨f2 - 1, by omega, k + 1, _, _, _, by omega, rfl, fr3v F3 rfl (by intro y a1 a2 a3; simp only [if_neg a1, if_neg a2, if_neg a3]), fun p hp => N3 p (.tail _ (.tail _ hp))⟩
          · refine absurd ?_ (by assumption)
            show [collF (ws.getD i Str.empty) (ws.getD k Str.empty), cmpF (ns.getD i 0) (ns.getD k 0)] = _
            rw [hc, hc2, due_gt (by assumption)]
          · exact Hold.of ⟨f2 - 1, by omega, k + 1, _, _, _, by omega, rfl, fr3v F3 rfl (by intro y a1 a2 a3; simp only [if_neg a1, if_neg a2, if_neg a3]), fun p hp => N3 p (.tail _ (.tail _ hp))⟩
          · refine absurd ?_ (by assumption)
            show [collF (ws.getD i Str.empty) (ws.getD k Str.empty), cmpF (ns.getD i 0) (ns.getD k 0)] = _
            rw [hc, hc2, due_lt (by assumption) (by assumption)]
          · exact Hold.of ⟨f2 - 1, by omega, k + 1, _, _, _, by omega, rfl, fr3v F3 rfl (by intro y a1 a2 a3; simp only [if_neg a1, if_neg a2, if_neg a3]), fun p hp => N3 p (.tail _ (.tail _ hp))⟩
          · refine absurd ?_ (by assumption)
            show [collF (ws.getD i Str.empty) (ws.getD k Str.empty), cmpF (ns.getD i 0) (ns.getD k 0)] = _
            rw [hc, hc2, due_eq (by assumption)]
end Mine
end T_Or
section T_Us
namespace Mine
/-- a weak contract, the outer frames being dicts -/
noncomputable def CallsD (w : World) (mean : ExcName → Option Value) (mg mb : Str → Option Value) (f : Addr) (args : List Value) (need : Nat) (act : List (Addr × Obj)) (pre : Heap → Prop) (post : Heap → Value → Heap → Prop) : Prop :=
  ∀ (dp un : Nat) (gd : Option (List Code)) (cn : Str) (cs : Scope) (a : Addr) (ccd : Value) (cl : List (Str × Addr)) (outer : List Env) (A₀ : Around) (base h₀ : Heap) (L : Addr) (m : Str → Option Value) (s : Shared) (Q E : Value → Shared → Prop),
    Below A₀ base outer h₀ → Fr h₀ L s.heap m → (Mine.hd.heap_1_1 w.params).In base → News h₀ L s.heap act → Top VW LO mean mg mb base → KtsDicts (outer.filterMap (·.frame)) h₀ → cs.kind = .function → dp + need < recursionLimit → un + 8 * need < cLine → pre s.heap →
    (∀ (v : Value) (h' : Heap) (tk' : Nat), KeepW (act.map (·.1)) (L :: outer.filterMap (·.frame)) s.heap h' → post s.heap v h' → Q v { s with heap := h', toks := tk' }) →
    wpAny (model PR w) (ktrTop dp un gd cn cs L a ccd cl outer) (call (.ref f) args) Q E s
theorem CallsW.toD {w : World} {mean : ExcName → Option Value} {mg mb : Str → Option Value} {f : Addr} {args : List Value} {need : Nat} {act : List (Addr × Obj)} {pre : Heap → Prop} {post : Heap → Value → Heap → Prop} (C : CallsW w mean mg mb f args need act pre post) : CallsD w mean mg mb f args need act pre post :=
  fun _ _ _ _ _ _ _ _ _ _ _ _ _ _ _ _ _ B F XB N TB _ hk hd hu hp ret => C _ _ _ _ _ _ _ _ _ _ _ _ _ _ _ _ _ B F XB N TB hk hd hu hp ret
theorem dicts_in {h₀ h g : Heap} {L : Addr} {m : Str → Option Value} {fs : List Addr} {act : List (Addr × Obj)} (D : KtsDicts fs h₀) (F : Fr h₀ L h m) (N : News h₀ L h act) (hk : ∀ b o, h.get? b = some o → b ∉ act.map (·.1) → g.get? b = some o) : KtsDicts (L :: fs) g := by
  intro b hb
  rcases List.mem_cons.mp hb with rfl | hb
  · obtain ⟨o, es, ep, ho, hd, _⟩ := F.ns
    refine ⟨o, es, ep, hk _ _ ho fun q => ?_, hd⟩
    obtain ⟨p, hp, e⟩ := List.mem_map.mp q
    exact (N p hp).2.1 e
  · obtain ⟨o, es, n, ho, hd⟩ := D b hb
    refine ⟨o, es, n, hk _ _ (F.keep _ _ ho) fun q => ?_, hd⟩
    obtain ⟨p, hp, e⟩ := List.mem_map.mp q
    have := (N p hp).2.2
    rw [e, ho] at this; cases this
theorem keepW_turn {fs : List Addr} {g g' : Heap} (T : KtsTurn fs g g') : KeepW [] fs g g' := ⟨fun b o e _ n => T.other b o e n, fun b o e _ => T.up e⟩
theorem keepW_trans {fs : List Addr} {h g g' : Heap} (x : KeepW [] fs h g) (y : KeepW [] fs g g') : KeepW [] fs h g' :=
  ⟨fun b o e n1 n2 => y.1 b o (x.1 b o e n1 n2) n1 n2, fun b o e m => by
    obtain ⟨sl, hs⟩ := x.2 b o e m
    obtain ⟨sl', hs'⟩ := y.2 b _ hs m
    exact ⟨sl', hs'⟩⟩
theorem keepW_base {fs : List Addr} {h g h' : Heap} (x : KeepW [] fs h g) (k : ∀ b o, g.get? b = some o → h'.get? b = some o) : KeepW [] fs h h' :=
  ⟨fun b o e n1 n2 => k _ _ (x.1 b o e n1 n2), fun b o e m => by
    obtain ⟨sl, hs⟩ := x.2 b o e m
    exact ⟨sl, k _ _ hs⟩⟩
theorem keepW_list {fs : List Addr} {h h' : Heap} {a : Addr} {items : Array Value} (x : KeepW [] fs h h') (hl : h.IsList a items) : h'.IsList a items := by
  obtain ⟨o, ho, hc, n, hd⟩ := hl
  by_cases m : a ∈ fs
  · obtain ⟨sl, hs⟩ := x.2 a o ho m
    exact ⟨_, hs, hc, n, hd⟩
  · exact ⟨o, x.1 a o ho (fun q => nomatch q) m, hc, n, hd⟩
section
variable {w : World} {mean : ExcName → Option Value} {mg mb : Str → Option Value} {f : Addr} {args : List Value} {need : Nat} {news : List (Addr × Obj)} {pre : Heap → Prop} {post : Heap → Value → Heap → Prop}
    {dp un : Nat} {gd : Option (List Code)} {cn : Str} {cs : Scope} {a : Addr} {ccd : Value} {cl : List (Str × Addr)} {outer : List Env} {A₀ : Around} {base h₀ hh : Heap} {L : Addr} {m : Str → Option Value} {s : Shared} {Q E : Value → Shared → Prop}
/-- what a walk stands on: the ground, and what it keeps of the heap at its beginning -/
structure Gr (w : World) (mean : ExcName → Option Value) (mg mb : Str → Option Value) (A₀ : Around) (base hh : Heap) (outer : List Env) (g : Heap) : Prop where
  B : Below A₀ base outer g
  X : (Mine.hd.heap_1_1 w.params).In g
  T : Top VW LO mean mg mb g
  D : KtsDicts (outer.filterMap (·.frame)) g
  K : KeepW [] (outer.filterMap (·.frame)) hh g
theorem useD (F : Fr h₀ L s.heap m) (N : News h₀ L s.heap news) (G : Gr w mean mg mb A₀ base hh outer h₀) (XB : (Mine.hd.heap_1_1 w.params).In base) (TB : Top VW LO mean mg mb base) (hk : cs.kind = .function)
    (C : CallsD w mean mg mb f args need [] pre post) (hd : dp + need < recursionLimit) (hu : un + 8 * need < cLine) (hp : pre s.heap)
    (ret : ∀ (v : Value) (h' : Heap) (tk' : Nat) (g' : Heap), Fr g' L h' m → News g' L h' news → Gr w mean mg mb A₀ base hh outer g' → KeepW [] (outer.filterMap (·.frame)) h₀ g' →
      (∀ (b : Addr) (o : Obj), s.heap.get? b = none → h'.get? b = some o → (b ≠ L ∧ g'.get? b = none) ∧ ∀ p ∈ news, @Ne Nat p.1 b) → post s.heap v h' → Q v { s with heap := h', toks := tk' }) :
    wpAny (model PR w) (ktrTop dp un gd cn cs L a ccd cl outer) (call (.ref f) args) Q E s := by
  refine C _ _ _ _ _ _ _ _ _ _ _ _ _ _ _ _ _ G.B F XB (fun _ hp => nomatch hp) TB G.D hk hd hu hp fun v h' tk' hkeep hpost => ?_
  obtain ⟨g', T, F', N', B'⟩ := turn_use (rest := news) G.B F N hkeep (fun _ ha => nomatch ha) (fun p hp => ⟨hp, fun q => nomatch q⟩)
  refine ret v h' tk' g' F' N' ⟨B', XB.keeps B'.stays, TB.keeps B'.stays, G.D.turn T, keepW_trans G.K (keepW_turn T)⟩ (keepW_turn T) (fun b o e1 e2 => ?_) hpost
  obtain ⟨oL, _, _, hL, _⟩ := F.ns
  refine ⟨⟨fun q => (by rw [q, hL] at e1; cases e1), T.none_ _ ?_⟩, fun p hp q => by
    have q' : p.1 = b := q
    rw [← q', (N p hp).1] at e1; cases e1⟩
  cases q : h₀.get? b with
  | none => rfl
  | some o' => rw [F.keep _ _ q] at e1; cases e1
end
theorem news_more {h₀ h' : Heap} {L a : Addr} {o : Obj} {news : List (Addr × Obj)} (N : News h₀ L h' news) (hn : a ≠ L ∧ h₀.get? a = none) (hg : h'.get? a = some o) : News h₀ L h' ((a, o) :: news) := fun p hp => by
  rcases List.mem_cons.mp hp with rfl | hp
  · exact ⟨hg, hn.1, hn.2⟩
  · exact N p hp
end Mine
namespace Mine
/-- two addresses apart, hidden from omega -/
noncomputable def NeH (a b : Nat) : Prop := a ≠ b
theorem neH {a b : Nat} : @Ne Nat a b ↔ NeH a b := Iff.rfl
theorem NeH.out {a b : Nat} (h : NeH a b) : @Ne Nat a b := h
theorem NeH.back {a b : Nat} (h : NeH b a) : @Ne Nat a b := Ne.symm h
end Mine
end T_Us
section T_Cq
open PySem PySem.Spec PySem.Calls PySem.W PyProof.Rows PySem.SeqAt
namespace Mine
theorem readsAll_strs {h : Heap} : ∀ {vs : List Value} {ss : List Str}, StrsAre vs ss → ReadsAll h vs (ss.map PyData.str) []
  | _, _, .nil => .nil
  | _, _, .cons k t r => by
    have := ReadsAll.cons (Reads.str (h := h) k t) (readsAll_strs (h := h) r)
    simpa using this
theorem reads_strs {h : Heap} {a : Addr} {vs : List Value} {ss : List Str} (hl : h.IsList a vs.toArray) (hi : StrsAre vs ss) : Reads h (.ref a) (.list (ss.map PyData.str)) [a] := by
  obtain ⟨o, ho, hc, n, hd⟩ := hl
  exact Reads.list ho hc hd (by simpa using readsAll_strs hi)
theorem canLay_strs : ∀ ss : List Str, ss.all PyData.strOk = true → PyData.canLayAll0 (ss.map PyData.str) = true
  | [], _ => by simp [PyData.canLayAll0]
  | n :: r, h => by
    simp only [List.all_cons, Bool.and_eq_true] at h
    simp [PyData.canLayAll0, PyData.canLay0, canLay_strs r h.2, h.1]
theorem depth_strs : ∀ ss : List Str, PyData.depthAll (ss.map PyData.str) ≤ 1
  | [] => by simp [PyData.depthAll]
  | n :: r => by
    have := depth_strs r
    simp only [List.map_cons, PyData.depthAll, PyData.depth]
    omega
theorem shaped_strs (ss : List Str) (h : ss.all PyData.strOk = true) : shaped (.list (ss.map PyData.str)) = true := by
  have h1 := depth_strs ss
  have h2 : PyData.depth (.list (ss.map PyData.str)) ≤ 64 := by simp only [PyData.depth]; omega
  show (PyData.canLay0 (.list (ss.map PyData.str)) && decide (PyData.depth (.list (ss.map PyData.str)) ≤ 64)) = true
  rw [Bool.and_eq_true]
  exact ⟨by simp only [PyData.canLay0]; exact canLay_strs ss h, decide_eq_true h2⟩
theorem eqv_strs : ∀ ss : List Str, PyData.eqvAll (ss.map PyData.str) (ss.map PyData.str) = true
  | [] => by simp [PyData.eqvAll]
  | n :: r => by simp [PyData.eqvAll, PyData.eqv, eqv_strs r]
theorem eqv_ints : ∀ ss : List Int, PyData.eqvAll (ss.map PyData.int) (ss.map PyData.int) = true
  | [] => by simp [PyData.eqvAll]
  | n :: r => by simp [PyData.eqvAll, PyData.eqv, eqv_ints r]
section
variable {prog : Program} {w : World} {A : Around} {E : Value → Shared → Prop} {s : Shared} {a b : Addr} {vs us : List Value} {Q : Value → Shared → Prop}
theorem ne_strs {ss : List Str} (hl : s.heap.IsList a vs.toArray) (hi : StrsAre vs ss) (hl' : s.heap.IsList b us.toArray) (hi' : StrsAre us ss) (hok : ss.all PyData.strOk = true) (hu : A.units + 64 < cLine)
    (h : Q (.bool false) s) : wpAny (model prog w) A (compareOp .NotEq (.ref a) (.ref b)) Q E s :=
  ne_dataH (reads_strs hl hi) (reads_strs hl' hi') (shaped_strs ss hok) (shaped_strs ss hok) hu (by
    have e : PyData.eqv (.list (ss.map PyData.str)) (.list (ss.map PyData.str)) = true := by simp only [PyData.eqv]; exact eqv_strs ss
    rw [e]; exact h)
theorem ne_strsA {ss : List Str} {xs ys : Array Value} (hl : s.heap.IsList a xs) (hi : StrsAre xs.toList ss) (hl' : s.heap.IsList b ys) (hi' : StrsAre ys.toList ss) (hok : ss.all PyData.strOk = true) (hu : A.units + 64 < cLine)
    (h : Q (.bool false) s) : wpAny (model prog w) A (compareOp .NotEq (.ref a) (.ref b)) Q E s :=
  ne_strs (vs := xs.toList) (us := ys.toList) (by simpa using hl) hi (by simpa using hl') hi' hok hu h
/-- a tuple of two lists of ints -/
theorem reads_pair {h : Heap} {t : Addr} {o : Obj} {n : Nat} {p q : Addr} {l1 l2 : List Value} {n1 n2 : List Int} (ho : h.get? t = some o) (hc : o.cls = .type "tuple") (hd : o.data = .seq #[.ref p, .ref q] n) (h1 : h.IsList p l1.toArray) (i1 : IntsAre l1 n1) (h2 : h.IsList q l2.toArray) (i2 : IntsAre l2 n2) :
    Reads h (.ref t) (.tuple [.list (n1.map PyData.int), .list (n2.map PyData.int)]) ([p] ++ ([q] ++ [])) :=
  Reads.tuple ho hc hd (ReadsAll.cons (reads_of_ints h1 i1) (ReadsAll.cons (reads_of_ints h2 i2) .nil))
theorem reads_pairA {h : Heap} {t : Addr} {o : Obj} {n : Nat} {p q : Addr} {l1 l2 : Array Value} {n1 n2 : List Int} (ho : h.get? t = some o) (hc : o.cls = .type "tuple") (hd : o.data = .seq #[.ref p, .ref q] n) (h1 : h.IsList p l1) (i1 : IntsAre l1.toList n1) (h2 : h.IsList q l2) (i2 : IntsAre l2.toList n2) :
    Reads h (.ref t) (.tuple [.list (n1.map PyData.int), .list (n2.map PyData.int)]) ([p] ++ ([q] ++ [])) :=
  reads_pair ho hc hd (l1 := l1.toList) (l2 := l2.toList) (by simpa using h1) i1 (by simpa using h2) i2
theorem reads_two {h : Heap} {t : Addr} {o : Obj} {n : Nat} {p q : Addr} {l1 l2 : List Value} {n1 n2 : List Int} (ho : h.get? t = some o) (hc : o.cls = .type "list") (hd : o.data = .seq #[.ref p, .ref q] n) (h1 : h.IsList p l1.toArray) (i1 : IntsAre l1 n1) (h2 : h.IsList q l2.toArray) (i2 : IntsAre l2 n2) :
    Reads h (.ref t) (.list [.list (n1.map PyData.int), .list (n2.map PyData.int)]) (t :: ([p] ++ ([q] ++ []))) :=
  Reads.list ho hc hd (ReadsAll.cons (reads_of_ints h1 i1) (ReadsAll.cons (reads_of_ints h2 i2) .nil))
theorem shaped_two (n1 n2 : List Int) : shaped (.list [.list (n1.map PyData.int), .list (n2.map PyData.int)]) = true ∧ shaped (.tuple [.list (n1.map PyData.int), .list (n2.map PyData.int)]) = true := by
  have h1 := PySem.W.depthAll_ints n1
  have h2 := PySem.W.depthAll_ints n2
  have e : ∀ d : PyData, (d = .list [.list (n1.map PyData.int), .list (n2.map PyData.int)] ∨ d = .tuple [.list (n1.map PyData.int), .list (n2.map PyData.int)]) → shaped d = true := by
    intro d hd
    show (PyData.canLay0 d && decide (PyData.depth d ≤ 64)) = true
    rw [Bool.and_eq_true]
    refine ⟨?_, decide_eq_true ?_⟩
    · rcases hd with rfl | rfl <;> simp [PyData.canLay0, PyData.canLayAll0, canLayAll0_ints]
    · rcases hd with rfl | rfl <;> simp only [PyData.depth, PyData.depthAll] <;> omega
  exact ⟨e _ (.inl rfl), e _ (.inr rfl)⟩
theorem eqv_two (n1 n2 : List Int) : PyData.eqv (.list [.list (n1.map PyData.int), .list (n2.map PyData.int)]) (.list [.list (n1.map PyData.int), .list (n2.map PyData.int)]) = true ∧ PyData.eqv (.tuple [.list (n1.map PyData.int), .list (n2.map PyData.int)]) (.tuple [.list (n1.map PyData.int), .list (n2.map PyData.int)]) = true := by
  constructor <;> simp [PyData.eqv, PyData.eqvAll, eqv_ints]
end
theorem pick_take (x : Value) (n : Int) (hn : 0 ≤ n) : kms_pick [x] none (some n) = [x].take n.toNat := by
  obtain ⟨k, rfl⟩ : ∃ k : Nat, n = (k : Int) := ⟨n.toNat, by omega⟩
  cases k with
  | zero => rfl
  | succ k =>
    have e : kms_hi (some ((k + 1 : Nat) : Int)) 1 = 1 := by
      unfold kms_hi
      simp
      try omega
    show ([x].drop (kms_lo none 1)).take (kms_hi (some ((k + 1 : Nat) : Int)) 1 - kms_lo none 1) = _
    rw [e]
    simp [kms_lo]
theorem pick_strs (x : Str) (t : Tok) (n : Int) (hn : 0 ≤ n) : StrsAre (slicePick #[Value.str x t] none (some n) none).toList ([x].take n.toNat) := by
  rw [kms_pick_eq]
  show StrsAre (kms_pick [Value.str x t] none (some n)) _
  rw [pick_take _ _ hn]
  cases n.toNat with
  | zero => exact .nil
  | succ k => simp; exact .cons _ _ .nil
theorem strs_take {vs : List Value} {ss : List Str} (h : StrsAre vs ss) : ∀ n, StrsAre (vs.take n) (ss.take n) := by
  induction h with
  | nil => intro n; simp; exact .nil
  | cons y t _ ih =>
    intro n
    cases n with
    | zero => exact .nil
    | succ n => exact .cons y t (ih n)
end Mine
end T_Cq
section T_Cl
namespace Mine
section
variable {prog : Program} {w : World} {A : Around} {h₀ : Heap} {L : Addr} {m : Str → Option Value} {env : Env} {elt : Expr} {x : Str} {scope : Scope} {cl : List (Str × Addr)} {s : Shared} {S : List (Addr × Obj) → Prop} {P : Nat → Value → Prop} {Fin : List Value → List (Addr × Obj) → Prop} {news : List (Addr × Obj)}
/-- a comprehension's turns, each element by a relation, the ledger by Z -/
theorem zed_rest {α : Type} {n : Nat} {xs : List α} (Z : List α → List Value → List (Addr × Obj) → Prop) (R : α → Value → Prop) (hx : xs.length = n) (hP : ∀ i v, i < n → P i v → ∃ a, xs[i]? = some a ∧ R a v) (h0 : Z [] [] news)
    (turn : ∀ done a v ys nw I oI C oC D m₂ h tk (E' : Value → Shared → Prop), a ∈ xs → done.length < xs.length → ys.length < xs.length → Z done ys nw → R a v → LCg.NsObj oC m₂ → m₂ x = some v → Fr h₀ L h m → News h₀ L h ((I, oI) :: (C, oC) :: (D, LCg.lst ys) :: nw) → LCg.Off3 I C D nw → ((@Ne Nat I C) ∧ (@Ne Nat I D) ∧ (@Ne Nat C D)) → S nw →
      wpAny (model prog w) A (eval elt (compEnvC scope cl C env)) (LCg.CompEnd h₀ L m { s with heap := h, toks := tk } I oI C oC D (LCg.lst ys) S (fun y nw' => Z (done ++ [a]) (ys ++ [y]) nw')) E' { s with heap := h, toks := tk })
    (hS : S news) (fin : ∀ ys nw, Z xs ys nw → Fin ys nw) : LCg.CompRest prog w A h₀ L m env elt x scope cl s S P Fin n 0 [] news := by
  have key : ∀ (j i : Nat) (ys : List Value) (nw : List (Addr × Obj)), i + j = n → ys.length = i → S nw → Z (xs.take i) ys nw → LCg.CompRest prog w A h₀ L m env elt x scope cl s S P Fin j i ys nw := by
    intro j
    induction j with
    | zero =>
      intro i ys nw hi hl hs hy
      have e : i = xs.length := by omega
      rw [e, List.take_length] at hy
      exact LCg.CompRest.zero (fin ys nw hy)
    | succ j ih =>
      intro i ys nw hi hl hs hy
      refine LCg.CompRest.succ ?_
      intro v I oI C oC D m₂ h tk E' hv hC hxx F N off ne
      obtain ⟨k, hk, hr⟩ := hP i v (by omega) hv
      refine wpAny_mono (turn _ k v ys nw I oI C oC D m₂ h tk E' (List.mem_of_getElem? hk) (by rw [List.length_take]; omega) (by omega) hy hr hC hxx F N off ne hs) (fun y s₂ hq => ?_) fun _ _ e => e
      obtain ⟨h', tk', nw', e, F', N', off', hS', hz⟩ := hq
      refine ⟨h', tk', nw', e, F', N', off', hS', ?_⟩
      refine ih (i + 1) _ _ (by omega) (by rw [List.length_append, hl, List.length_singleton]) hS' ?_
      rw [List.take_add_one, hk]
      exact hz
  exact key n 0 [] news (by omega) rfl hS (by simpa using h0)
theorem strs_get {vs : List Value} {ss : List Str} (h : StrsAre vs ss) : ∀ (i : Nat) (v : Value), vs[i]? = some v → ∃ a, ss[i]? = some a ∧ ∃ t, v = .str a t := by
  induction h with
  | nil => intro i v e; simp at e
  | cons y t _ ih =>
    intro i v e
    cases i with
    | zero => simp at e; exact ⟨_, rfl, _, e.symm⟩
    | succ i => simp at e; simpa using ih i v e
theorem strs_lenC {vs : List Value} {ss : List Str} (h : StrsAre vs ss) : ss.length = vs.length := by
  induction h with
  | nil => rfl
  | cons y t _ ih => simp [ih]
/-- an int of each text -/
theorem kcs_int {its : Array Value} {ss : List Str} (g : Str → Int) (hi : StrsAre its.toList ss) (hS : S news)
    (turn : ∀ (a : Str) t I oI C oC D m₂ ys h tk (E' : Value → Shared → Prop), a ∈ ss → LCg.NsObj oC m₂ → m₂ x = some (.str a t) → Fr h₀ L h m → News h₀ L h ((I, oI) :: (C, oC) :: (D, LCg.lst ys) :: news) → LCg.Off3 I C D news → ((@Ne Nat I C) ∧ (@Ne Nat I D) ∧ (@Ne Nat C D)) →
      wpAny (model prog w) A (eval elt (compEnvC scope cl C env)) (LCg.CompEnd h₀ L m { s with heap := h, toks := tk } I oI C oC D (LCg.lst ys) S (fun y news' => KCfEl news (g a) y news')) E' { s with heap := h, toks := tk })
    (fin : ∀ ys, IntsAre ys (ss.map g) → Fin ys news) : LCg.CompRest prog w A h₀ L m env elt x scope cl s S (fun i v => its[i]? = some v) Fin its.size 0 [] news := by
  refine zed_rest (xs := ss) (fun done ys nw => nw = news ∧ IntsAre ys (done.map g)) (fun a v => ∃ t, v = .str a t) (by rw [strs_lenC hi]; simp) (fun i v _ hv => strs_get hi i v (by simpa using hv)) ⟨rfl, .nil⟩ ?_ hS ?_
  · rintro done a v ys nw I oI C oC D m₂ h tk E' ha - - ⟨rfl, hy⟩ ⟨t, rfl⟩ hC hx F N off ne -
    refine wpAny_mono (turn a t I oI C oC D m₂ ys h tk E' ha hC hx F N off ne) (fun y s₂ hq => ?_) fun _ _ e => e
    obtain ⟨h', tk', nw', e, F', N', off', hS', hn, t', hy'⟩ := hq
    refine ⟨h', tk', nw', e, F', N', off', hS', hn, ?_⟩
    rw [hy', List.map_append]
    exact IntsAre.append hy (.cons (g a) t' .nil)
  · rintro ys nw ⟨rfl, hy⟩
    exact fin ys hy
/-- lists of ints in the ledger's tail -/
noncomputable def ListsAre (ex : List (Addr × Obj)) : List Value → List (List Int) → Prop
  | [], [] => True
  | v :: vs, d :: ds => (∃ (D : Addr) (us : Array Value) (e : Nat), v = .ref D ∧ (D, PySem.W.listOf us e) ∈ ex ∧ IntsAre us.toList d) ∧ ListsAre ex vs ds
  | _, _ => False
theorem lists_more {ex ex' : List (Addr × Obj)} (hs : ∀ p ∈ ex, p ∈ ex') : ∀ {vs : List Value} {ds : List (List Int)}, ListsAre ex vs ds → ListsAre ex' vs ds
  | [], [], _ => True.intro
  | _ :: _, _ :: _, ⟨⟨D, us, e, h1, h2, h3⟩, r⟩ => ⟨⟨D, us, e, h1, hs _ h2, h3⟩, lists_more hs r⟩
  | [], _ :: _, h => h.elim
  | _ :: _, [], h => h.elim
theorem lists_snoc {ex : List (Addr × Obj)} {D : Addr} {us : Array Value} {e : Nat} {d : List Int} (h2 : (D, PySem.W.listOf us e) ∈ ex) (h3 : IntsAre us.toList d) : ∀ {vs : List Value} {ds : List (List Int)}, ListsAre ex vs ds → ListsAre ex (vs ++ [.ref D]) (ds ++ [d])
  | [], [], _ => ⟨⟨D, us, e, rfl, h2, h3⟩, True.intro⟩
  | _ :: _, _ :: _, ⟨a, r⟩ => ⟨a, lists_snoc h2 h3 r⟩
  | [], _ :: _, h => h.elim
  | _ :: _, [], h => h.elim
theorem lists_get {ex : List (Addr × Obj)} : ∀ {vs : List Value} {ds : List (List Int)}, ListsAre ex vs ds → ∀ (i : Nat) (v : Value), vs[i]? = some v → ∃ d, ds[i]? = some d ∧ ∃ (D : Addr) (us : Array Value) (e : Nat), v = .ref D ∧ (D, PySem.W.listOf us e) ∈ ex ∧ IntsAre us.toList d
  | [], [], _, i, v, e => by simp at e
  | v :: _, d :: _, ⟨a, r⟩, 0, v', e => by simp at e; subst e; exact ⟨d, rfl, a⟩
  | v :: _, d :: _, ⟨a, r⟩, i + 1, v', e => by simpa using lists_get r i v' (by simpa using e)
  | [], _ :: _, h, _, _, _ => h.elim
  | _ :: _, [], h, _, _, _ => h.elim
theorem lists_len {ex : List (Addr × Obj)} : ∀ {vs : List Value} {ds : List (List Int)}, ListsAre ex vs ds → ds.length = vs.length
  | [], [], _ => rfl
  | v :: _, d :: _, ⟨a, r⟩ => by simp [lists_len r]
  | [], _ :: _, h => h.elim
  | _ :: _, [], h => h.elim
/-- what an element that is a new list of ints ends with -/
inductive ListEnd (h₀ : Heap) (L : Addr) (m : Str → Option Value) (s : Shared) (I : Addr) (oI : Obj) (C : Addr) (oC : Obj) (D : Addr) (oD : Obj) (nw : List (Addr × Obj)) (ds : List Int) (y : Value) (s₂ : Shared) : Prop where
  | mk (h' : Heap) (tk' : Nat) (Dn : Addr) (us : Array Value) (e : Nat) (_ : s₂ = { s with heap := h', toks := tk' }) (_ : Fr h₀ L h' m) (_ : y = .ref Dn) (_ : News h₀ L h' ((I, oI) :: (C, oC) :: (D, oD) :: nw)) (_ : h'.get? Dn = some (PySem.W.listOf us e)) (_ : (Dn ≠ L ∧ h₀.get? Dn = none)) (_ : IntsAre us.toList ds) (_ : (@Ne Nat Dn I ∧ @Ne Nat Dn C ∧ @Ne Nat Dn D)) : ListEnd h₀ L m s I oI C oC D oD nw ds y s₂
theorem off3_ins {I C D Dn : Addr} {o : Obj} (h : @Ne Nat Dn I ∧ @Ne Nat Dn C ∧ @Ne Nat Dn D) : ∀ {news ex : List (Addr × Obj)}, LCg.Off3 I C D (news ++ ex) → LCg.Off3 I C D (news ++ (Dn, o) :: ex)
  | [], _, x => ⟨h, x⟩
  | _ :: r, _, ⟨a, x⟩ => ⟨a, off3_ins (news := r) h x⟩
/-- a list of ints of each int: the ledger grows at its tail -/
theorem kcd_list {its : Array Value} {ns : List Int} (g : Int → List Int) (hi : IntsAre its.toList ns) (hS : S news) (hSm : ∀ ex Dn o, S (news ++ ex) → S (news ++ (Dn, o) :: ex))
    (turn : ∀ (a : Int) t ex I oI C oC D m₂ ys h tk (E' : Value → Shared → Prop), a ∈ ns → LCg.NsObj oC m₂ → m₂ x = some (.int a t) → Fr h₀ L h m → News h₀ L h ((I, oI) :: (C, oC) :: (D, LCg.lst ys) :: (news ++ ex)) → ((@Ne Nat I C) ∧ (@Ne Nat I D) ∧ (@Ne Nat C D)) →
      wpAny (model prog w) A (eval elt (compEnvC scope cl C env)) (ListEnd h₀ L m { s with heap := h, toks := tk } I oI C oC D (LCg.lst ys) (news ++ ex) (g a)) E' { s with heap := h, toks := tk })
    (fin : ∀ ys ex, ListsAre ex ys (ns.map g) → Fin ys (news ++ ex)) : LCg.CompRest prog w A h₀ L m env elt x scope cl s S (fun i v => its[i]? = some v) Fin its.size 0 [] news := by
  refine zed_rest (xs := ns) (fun done ys nw => ∃ ex, nw = news ++ ex ∧ ListsAre ex ys (done.map g)) (fun a v => ∃ t, v = .int a t) (by rw [← hi.length]; simp) (fun i v _ hv => (by
      obtain ⟨k, t, e, hk⟩ := IntsAre.at hi i v (by simpa using hv)
      exact ⟨k, hk, t, e⟩)) ⟨[], by simp, True.intro⟩ ?_ hS ?_
  · rintro done a v ys nw I oI C oC D m₂ h tk E' ha - - ⟨ex, rfl, hy⟩ ⟨t, rfl⟩ hC hx F N off ne hS
    refine wpAny_mono (turn a t ex I oI C oC D m₂ ys h tk E' ha hC hx F N ne) (fun y s₂ hq => ?_) fun _ _ e => e
    obtain ⟨h', tk', Dn, us, e, rfl, F', rfl, N', hD, hDn, hi', hne⟩ := hq
    refine ⟨h', tk', news ++ ((Dn, PySem.W.listOf us e) :: ex), rfl, F', fun p hp => ?_, off3_ins hne off, hSm _ _ _ hS, (Dn, PySem.W.listOf us e) :: ex, rfl, ?_⟩
    · simp only [List.mem_cons, List.mem_append] at hp
      rcases hp with rfl | rfl | rfl | hp | rfl | hp
      · exact N' _ (.head _)
      · exact N' _ (.tail _ (.head _))
      · exact N' _ (.tail _ (.tail _ (.head _)))
      · exact N' _ (.tail _ (.tail _ (.tail _ (List.mem_append_left _ hp))))
      · exact ⟨hD, hDn⟩
      · exact N' _ (.tail _ (.tail _ (.tail _ (List.mem_append_right _ hp))))
    · rw [List.map_append]
      exact lists_snoc (.head _) hi' (lists_more (fun p hp => .tail _ hp) hy)
  · rintro ys nw ⟨ex, rfl, hy⟩
    exact fin ys ex hy
theorem srcAt_ins {h₀ : Heap} {ax : Addr} {its : Array Value} {news : List (Addr × Obj)} (ex : List (Addr × Obj)) (Dn : Addr) (o : Obj) (h : LCg.SrcAt h₀ ax its (news ++ ex)) : LCg.SrcAt h₀ ax its (news ++ (Dn, o) :: ex) := by
  rcases h with h | ⟨o', hm, r⟩
  · exact .inl h
  · refine .inr ⟨o', ?_, r⟩
    simp only [List.mem_append, List.mem_cons] at hm ⊢
    rcases hm with hm | hm
    · exact .inl hm
    · exact .inr (.inr hm)
/-- a text of each list of ints in the tail -/
theorem kct_lists {its : Array Value} {dss : List (List Int)} {ex : List (Addr × Obj)} (g : List Int → Str) (hi : ListsAre ex its.toList dss) (hS : S news)
    (turn : ∀ (d : List Int) (Dn : Addr) (us : Array Value) (e : Nat) I oI C oC D m₂ ys h tk (E' : Value → Shared → Prop), d ∈ dss → (Dn, PySem.W.listOf us e) ∈ ex → IntsAre us.toList d → LCg.NsObj oC m₂ → m₂ x = some (.ref Dn) → Fr h₀ L h m → News h₀ L h ((I, oI) :: (C, oC) :: (D, LCg.lst ys) :: news) → LCg.Off3 I C D news → ((@Ne Nat I C) ∧ (@Ne Nat I D) ∧ (@Ne Nat C D)) →
      wpAny (model prog w) A (eval elt (compEnvC scope cl C env)) (LCg.CompEnd h₀ L m { s with heap := h, toks := tk } I oI C oC D (LCg.lst ys) S (fun y news' => KCtEl news (g d) y news')) E' { s with heap := h, toks := tk })
    (fin : ∀ ys, StrsAre ys (dss.map g) → Fin ys news) : LCg.CompRest prog w A h₀ L m env elt x scope cl s S (fun i v => its[i]? = some v) Fin its.size 0 [] news := by
  refine zed_rest (xs := dss) (fun done ys nw => nw = news ∧ StrsAre ys (done.map g)) (fun d v => ∃ (D : Addr) (us : Array Value) (e : Nat), v = .ref D ∧ (D, PySem.W.listOf us e) ∈ ex ∧ IntsAre us.toList d) (by rw [lists_len hi]; simp) (fun i v _ hv => lists_get hi i v (by simpa using hv)) ⟨rfl, .nil⟩ ?_ hS ?_
  · rintro done d v ys nw I oI C oC D m₂ h tk E' ha - - ⟨rfl, hy⟩ ⟨Dn, us, e, rfl, hm, hd⟩ hC hx F N off ne -
    refine wpAny_mono (turn d Dn us e I oI C oC D m₂ ys h tk E' ha hm hd hC hx F N off ne) (fun y s₂ hq => ?_) fun _ _ e => e
    obtain ⟨h', tk', nw', e, F', N', off', hS', hn, t', hy'⟩ := hq
    refine ⟨h', tk', nw', e, F', N', off', hS', hn, ?_⟩
    rw [hy', List.map_append]
    exact kct_snoc hy
  · rintro ys nw ⟨rfl, hy⟩
    exact fin ys hy
end
end Mine
end T_Cl
section T_Cm
namespace Mine
/-- l[-2:0:-1] -/
noncomputable def midRev {α : Type} (l : List α) : List α := ((l.drop 1).take (l.length - 2)).reverse
theorem mid_range (n : Nat) : (List.range n).map (fun k : Nat => ((n : Int) - (k : Int)).toNat) = ((List.range n).map (1 + ·)).reverse := by
  apply List.ext_getElem
  · simp
  · intro i h1 h2
    simp at h1
    rw [List.getElem_map, List.getElem_reverse]
    simp
    omega
theorem mid_bounds (n : Nat) : sliceBounds (some (-2)) (some 0) (some (-1)) n = (if n < 2 then -1 else (n : Int) - 2, if n < 1 then -1 else 0, -1) := by
  have h1 : ¬ ((-1 : Int) > 0) := by decide
  refine Prod.ext ?_ (Prod.ext ?_ rfl)
  · simp only [sliceBounds, Option.getD_some, h1, if_false, show (-2 : Int) < 0 by decide, if_true]
    split <;> omega
  · simp only [sliceBounds, Option.getD_some, h1, if_false, show ¬ ((0 : Int) < 0) by decide]
    split <;> omega
theorem mid_pick (items : Array Value) : slicePick items (some (-2)) (some 0) (some (-1)) = (midRev items.toList).toArray := by
  unfold slicePick
  rw [mid_bounds]
  show ((sliceRange _ _ (-1)).filterMap (items[·]?)).toArray = _
  by_cases h2 : items.size < 3
  · have e : sliceRange (if items.size < 2 then -1 else (items.size : Int) - 2) (if items.size < 1 then -1 else 0) (-1) = [] := by
      unfold sliceRange
      have h1 : ¬ ((-1 : Int) > 0) := by decide
      have h3 : ¬ (if items.size < 2 then -1 else (items.size : Int) - 2) > (if items.size < 1 then -1 else 0) := by
        split <;> split <;> omega
      simp only [h1, if_false, h3, List.range_zero, List.map_nil, Int.toNat_zero]
    rw [e]
    unfold midRev
    rw [show items.toList.length - 2 = 0 by rw [Array.length_toList]; omega]
    simp
  · have e : sliceRange (if items.size < 2 then -1 else (items.size : Int) - 2) (if items.size < 1 then -1 else 0) (-1) = ((List.range (items.size - 2)).map (1 + ·)).reverse := by
      rw [if_neg (by omega), if_neg (by omega), ← mid_range]
      unfold sliceRange
      have h1 : ¬ ((-1 : Int) > 0) := by decide
      have h3 : (items.size : Int) - 2 > 0 := by omega
      have e5 : (((items.size : Int) - 2 - 0 - -1 - 1) / (- -1)).toNat = items.size - 2 := by
        rw [show (- -1 : Int) = 1 by decide, Int.ediv_one]
        omega
      simp only [h1, if_false, h3, if_true, e5]
      apply List.map_congr_left
      intro k hk
      have := List.mem_range.mp hk
      omega
    rw [e, List.filterMap_reverse, pick_run]
    unfold midRev
    rw [Array.length_toList]
theorem mid_ints {vs : List Value} {ns : List Int} (h : IntsAre vs ns) : IntsAre (midRev vs) (midRev ns) := by
  unfold midRev
  rw [h.length]
  exact ((h.drop 1).take _).reverse
theorem strs_reverse {vs : List Value} {ss : List Str} (h : StrsAre vs ss) : StrsAre vs.reverse ss.reverse := by
  induction h with
  | nil => exact .nil
  | cons y t _ ih => rw [List.reverse_cons, List.reverse_cons]; exact kct_snoc ih
theorem mid_strs {vs : List Value} {ns : List Str} (h : StrsAre vs ns) : StrsAre (midRev vs) (midRev ns) := by
  unfold midRev
  rw [strs_lenC h]
  exact strs_reverse ((h.drop' 1).take' _)
section
variable {prog : Program} {w : World} {A : Around} {E : Value → Shared → Prop} {s : Shared} {h₀ : Heap} {L l : Addr} {m : Str → Option Value} {news : List (Addr × Obj)} {value slice : PySem.Expr} {its : Array Value} {ops : List Value} {Q : Value → Shared → Prop}
theorem mid_slice {va vb vk : Value} (F : Fr h₀ L s.heap m) (N : News h₀ L s.heap news) (hl : s.heap.IsList l its) (pa : IsPart va (some (-2))) (pb : IsPart vb (some 0)) (pk : IsPart vk (some (-1)))
    (h : ∀ D h', Fr h₀ L h' m → News h₀ L h' ((D, listOf (midRev its.toList).toArray 0) :: news) → (∀ p ∈ news, p.1 < D) → Q (.ref D) { s with heap := h' })
    (hs : subscripted slice false (.ref l) (.ref s.heap.objs.size) = operate ops (getItem (.ref l) (.ref s.heap.objs.size))) (ht : ∀ r, letTemporaryGo value (.ref l) r = pure ()) (hz : its.size ≤ sizeLine) :
    wpAny (model prog w) A (subscriptTail value slice (.ref l) (.ref s.heap.objs.size)) Q E { s with heap := s.heap.push { cls := .type "slice", data := .fields #[va, vb, vk] } } := by
  refine slice_list3 F N hl pa pb pk (by decide) (fun h' F' N' => h _ h' F' ?_ fun p hp => Nat.lt_succ_of_lt (Heap.lt_size (N p hp).1)) hs ht hz
  rw [mid_pick] at N'
  exact N'
end
theorem ints_snoc {vs : List Value} {ns : List Int} {q : Int} (h : IntsAre vs (ns ++ [q])) : ∃ W t, vs = W ++ [Value.int q t] ∧ IntsAre W ns := by
  induction ns generalizing vs with
  | nil => cases h with | cons _ t r => cases r; exact ⟨[], t, rfl, .nil⟩
  | cons n ns ih =>
    cases h with
    | cons _ t r =>
      obtain ⟨W, t', e, hW⟩ := ih r
      exact ⟨.int n t :: W, t', by rw [e]; rfl, .cons _ _ hW⟩
end Mine
end T_Cm
section T_Sx
namespace Mine
noncomputable def missF : List Int → List Int → List Int
  | [], _ => []
  | e :: r, [] => e :: r
  | e :: r, a :: q => if e = a then missF r q else e :: missF r (a :: q)
noncomputable def okM : List Int → List Int → Bool
  | _, [] => true
  | [], _ :: _ => false
  | e :: r, a :: q => if e = a then okM r q else decide (e < a) && okM r (a :: q)
inductive SldPost (ens ans : List Int) (h : Heap) (v : Value) (h' : Heap) : Prop where
  | mk (T D1 D2 : Addr) (ws : Array Value) (e1 e2 : Nat) (_ : v = .ref T) (_ : h.get? T = none) (_ : h.get? D1 = none) (_ : h.get? D2 = none) (_ : h'.get? T = some { cls := .type "tuple", data := .seq #[.ref D1, .ref D2] }) (_ : h'.get? D1 = some (PySem.W.listOf ws e1)) (_ : h'.get? D2 = some (PySem.W.listOf #[] e2)) (_ : IntsAre ws.toList (missF ens ans)) : SldPost ens ans h v h'
end Mine
end T_Sx
section T_La
theorem Mine.linesLa : True := by
  k_with_none
  k_with "omega" => (first | (k_whole; with_reducible assumption) | (law_clear; first | with_reducible assumption | decide +kernel | ((with_reducible show List.length (_ :: _) ≤ _); exact Nat.le_of_ble_eq_true (Eq.refl true)) | ((first | refine Mine.rm2 (by with_reducible assumption) ?_ | refine Mine.rm3 (by with_reducible assumption) ?_ | refine Mine.rm1 (by with_reducible assumption) ?_ | refine Mine.bd1 (by with_reducible assumption) ?_ | refine Mine.bd3 (by with_reducible assumption) ?_ | refine Mine.bd2 (by with_reducible assumption) ?_ | refine Mine.bd4 (by with_reducible assumption) ?_ | refine Mine.bd5 (by with_reducible assumption) ?_ | refine Mine.bd6 (by with_reducible assumption) ?_ | refine Mine.bd7 (by with_reducible assumption) ?_ | refine Mine.bd8 (by with_reducible assumption) ?_); exact Eq.refl true) | ((first | refine Mine.ci1 (by with_reducible assumption) ?_ | refine Mine.ci2 (by with_reducible assumption) ?_); decide) | exact Mine.rm0 (by with_reducible assumption) | exact Mine.lp1 (by with_reducible assumption) (by with_reducible assumption) | exact Mine.lp2 (by with_reducible assumption) (by with_reducible assumption) | exact Mine.lp3 (by with_reducible assumption) | lia))
  k_with "ite" => (first | (with_reducible refine PySem.W.ite_neg (by with_reducible assumption) ?_) | (with_reducible refine PySem.W.ite_pos (by with_reducible assumption) ?_))
  k_with "ite" => (k_closed; first | (with_reducible refine PySem.W.ite_neg (by decide +kernel) ?_) | (with_reducible refine PySem.W.ite_pos (by decide +kernel) ?_))
  k_with "getAttr ref" => (k_here; k_dflt (refine' PySem.W.get_own ?hzk1 ?hzk2 ?hzk3 ?hzk4 ?hzk5 ?hzk6 ?hzk7 ?hzk8 ?hzk9 ?_; (case hzk1 => k_asm); (case hzk2 => k_asm); (case hzk3 => k_inst); (case hzk8 => k_get); (case hzk4 => k_is); (case hzk5 => k_is); (case hzk6 => k_is); (case hzk7 => k_is); (case hzk9 => k_handed); k_whole))
  k_with "eval Name" => (k_here; (first | (with_reducible show wpAny _ _ (eval (PySem.Expr.Name _ _) (envOf _ _ _ _ _)) _ _ _) | (with_reducible show wpAny _ _ (eval (PySem.Expr.Name _ _) (envOfC _ _ _ _ _)) _ _ _)); name_kind "globalImplicit"; k_dflt (first | (refine' PySem.W.nameX_K ?hzF ?hzX ?hzT ?hze ?_ ?hza ?hzb ?hzd; (case hzF => k_asm); (case hzX => k_asm); (case hzT => k_asm); (case hze => k_is); (case hza => first | kernel_rfl | rfl); (case hzb => first | kernel_rfl | rfl); (case hzd => first | kernel_rfl | decide); k_whole) | (refine' PySem.W.nameX_B ?hzF ?hzX ?hzT ?hze ?hzv ?hzn ?_ ?hza ?hzb ?hzd; (case hzF => k_asm); (case hzX => k_asm); (case hzT => k_asm); (case hze => k_is); (case hzv => boot_fast); (case hzn => decide +kernel); (case hza => first | kernel_rfl | rfl); (case hzb => first | kernel_rfl | rfl); (case hzd => first | kernel_rfl | decide); k_whole)))
  k_with "eval Name" => (k_here; (first | (with_reducible show wpAny _ _ (eval (PySem.Expr.Name _ _) (envOf _ _ _ _ _)) _ _ _) | (with_reducible show wpAny _ _ (eval (PySem.Expr.Name _ _) (envOfC _ _ _ _ _)) _ _ _)); name_kind "local"; k_dflt (refine' PySem.W.nameX_L ?hzF ?hzv ?_ ?hza ?hzb ?hzd; (case hzF => k_asm); (case hzv => exact Eq.refl (some _)); (case hza => first | kernel_rfl | rfl); (case hzb => first | kernel_rfl | rfl); (case hzd => first | kernel_rfl | decide); k_whole))
  k_with "eval Name" => (k_here; (first | (with_reducible show wpAny _ _ (eval (PySem.Expr.Name _ _) (envOf _ _ _ _ _)) _ _ _) | (with_reducible show wpAny _ _ (eval (PySem.Expr.Name _ _) (envOfC _ _ _ _ _)) _ _ _)); name_kind "cell"; k_dflt (refine' PySem.W.nameX_C ?hzN ?hzc ?hzm ?hzd ?_ ?hza ?hzb ?hze; (case hzN => k_asm); (case hzc => exact Eq.refl (some _)); (case hzm => k_mem); (case hzd => k_asm); (case hza => first | kernel_rfl | rfl); (case hzb => first | kernel_rfl | rfl); (case hze => first | kernel_rfl | rfl); k_whole))
  k_with "eval Name" => (k_here; (with_reducible show wpAny _ _ (eval (PySem.Expr.Name _ _) (compEnvC _ _ _ _)) _ _ _); k_dflt (first | (refine' PySem.W.kcf_cell ?hzN ?hzc ?hzm ?hzd ?_ ?hza ?hzb ?hze; (case hzb => kernel_rfl); (case hzN => k_asm); (case hzc => exact Eq.refl (some _)); (case hzm => k_mem); (case hzd => k_asm); (case hza => first | kernel_rfl | rfl); (case hze => first | kernel_rfl | rfl); k_whole) | (refine' PySem.W.LCgL.ld_own ?hzN ?hzm ?hzd ?hzc ?_ ?hza ?hzb ?hze; (case hzb => kernel_rfl); (case hzN => k_asm); (case hzm => k_mem); (case hzd => assumption); (case hzc => assumption); (case hza => first | kernel_rfl | rfl); (case hze => first | kernel_rfl | rfl); k_whole)))
  k_with "execs cons" => (k_here; with_reducible refine Mine.gentoks ?_; intro _)
  k_with "execs nil" => (k_here; with_reducible refine Mine.gentoks ?_; intro _)
  k_with "execs cons" => (k_here; k_fold)
  k_with "execs cons" => (k_here; with_reducible refine Mine.foldB ?hzht ?_; (case hzht => ((fail_if_success (fail_if_success (rw [Mine.deepMark]))); k_dflt (exact trivial))); intro _)
  k_with "eval Call" => (k_here; k_fold)
  k_with "eval Subscript" => (k_here; k_fold)
  k_with "eval Compare" => (k_here; k_fold)
  k_with "eval BinOp" => (k_here; k_fold)
  k_with "subscriptTail Attribute" => (k_here; k_dflt (refine PySem.W.kba_turn (value' := PySem.Expr.Name (PySem.Str.ofString "_") ⟨0, 0, 0, 0⟩) (fun _ => rfl) ?_))
  k_with "k_room" => (first | ktr_room | ((simp +zetaDelta only [depth_under_make, depth_under_kw, depth_in1, depth_deeper, depth_caller]); ktr_room))
  k_with "call ref" => (k_here; (with_reducible show wpAny _ _ (call (Value.ref 611) _ _) _ _ _); k_dflt (refine wpAny_call ?_; refine' Mine.make_new (fN := 104) (fI := 381) ?hzk1 ?hzk2 ?hzk3 ?hzk4 ?hzk5 ?hzk6 ?hzk7 ?hzk8 ?hzk9 ?_; (case hzk1 => k_in); (case hzk2 => exact ⟨_, _, _, _, by k_is, rfl⟩); (case hzk3 => k_is); (case hzk4 => k_is); (case hzk5 => k_is); (case hzk6 => exact fun _ => by kernel_rfl); (case hzk7 => k_is); (case hzk8 => k_is); (case hzk9 => (intro _ _ _ hqZ; walk1; exact hqZ)); k_enter))
  k_with "call builtin:object.__new__" => (k_here; k_dflt (refine wpAny_call ?_; refine' Mine.new_own (C := 611) ?hzk1 ?hzk2 ?hzk3 ?hzk4 ?hzk5 ?hzk6 ?hzk7 ?hzk8 ?hzk9 ?_; (case hzk1 => k_asm); (case hzk2 => k_asm); (case hzk3 => k_in); (case hzk4 => exact ⟨_, _, _, _, by k_is, rfl, rfl⟩); (case hzk5 => k_is); (case hzk6 => k_is); (case hzk7 => k_is); (case hzk8 => exact fun _ => by kernel_rfl); (case hzk9 => exact fun _ => by kernel_rfl); intro _ _ _ _ _ l1Z l2Z; (try k_lt l1Z); (try k_lt2 l2Z); (try k_sweep); (try dsimp only)))
  k_with "NewBack" => (k_here; k_dflt (refine ⟨_, News.get (by k_asm) (by k_mem), by k_in, ?_⟩; (try dsimp only); k_enter))
  k_with "call type:collections.deque" => (k_here; k_dflt (refine' Mine.call_deque ?hzk1 ?hzk2 ?_; (case hzk1 => k_asm); (case hzk2 => k_asm); k_whole; intro _ _ _ _ l1Z; (try k_lt l1Z); (try k_sweep)))
  k_with "truthy ref" => (k_here; k_dflt (refine' Mine.truthy_deque ?hzk1 ?hzk2 ?_; (case hzk1 => k_asm); (case hzk2 => k_mem); k_whole; intro _))
  k_with "call ref" => (k_here; (with_reducible show wpAny _ _ (call (Value.ref 557) _) _ _ _); k_dflt (first | (refine' Mine.read_use _ ?hzk1 ?hzk2 ?hzk3 ?hzk4 ?hzk5 ?hzkK ?hzko ?hzks ?hzk7 ?hzk8 ?hzkc ?hzkd ?hzku ?_; (case hzk1 => k_asm); (case hzk2 => k_asm); (case hzk3 => k_asm); (case hzk4 => k_asm); (case hzk5 => k_asm); (case hzkK => exact rfl); (case hzko => assumption); (case hzks => assumption); (case hzkc => assumption); (case hzk7 => assumption); (case hzk8 => assumption); (case hzkd => ktr_room); (case hzku => ktr_units); k_whole; intro t'Z _ h'Z tk'Z F'Z N'Z hs'Z; (try dsimp only)) | (refine' Mine.read_eof_use ?hzk1 ?hzk2 ?hzk3 ?hzk4 ?hzk5 ?hzkK ?hzko ?hzks ?hzk7 ?hzk8 ?hzkd ?hzku ?_; (case hzk1 => k_asm); (case hzk2 => k_asm); (case hzk3 => k_asm); (case hzk4 => k_asm); (case hzk5 => k_asm); (case hzkK => exact rfl); (case hzko => assumption); (case hzks => assumption); (case hzk7 => assumption); (case hzk8 => assumption); (case hzkd => ktr_room); (case hzku => ktr_units); k_whole; intro t'Z h'Z tk'Z F'Z N'Z hs'Z; (try dsimp only))))
  k_with "compareOp In str str" => (k_here; first | refine Mine.in_lit false (by kernel_rfl!) ?_ | refine Mine.in_lit true (by kernel_rfl!) ?_)
  k_with "LoopPost" => ((with_reducible show Mine.LoopPost _ _ _ _ Flow.brk _); dsimp only [Mine.LoopPost])
  k_with "exec If" => (with_reducible refine wpAny_If ?_)
  k_with "k_put" => (first | (with_reducible exact Mine.lex_put_state) | (with_reducible exact Mine.lex_put_token))
  k_with "leaving ref" => (k_here; k_dflt ((refine' leave_raiseS ?hzk1 ?hzk0 ?hzk2 ?hzk3 ?_; (case hzk0 => first | assumption | exact Heap.MadeExc.of (by assumption)); (case hzk1 => assumption); (case hzk2 => assumption); (case hzk3 => k_asm); k_whole; intro _ _ RS'Z R'Z U'Z; (try dsimp only at RS'Z R'Z U'Z ⊢))))
  k_with "call ref" => (k_here; (with_reducible show wpAny _ _ (call (Value.ref 714) _) _ _ _); k_dflt ( (refine' Mine.rt_use ?hzk1 ?hzk2 ?hzk3 ?hzk4 ?hzk5 ?hzkK ?hzkC ?hzkd ?hzku ?_; (case hzk1 => k_asm); (case hzk2 => k_asm); (case hzk3 => k_asm); (case hzk4 => k_asm); (case hzk5 => k_asm); (case hzkK => exact rfl); (case hzkC => assumption); (case hzkd => ktr_room); (case hzku => ktr_units); k_whole; intro _ _ _ _ _ _ N'Z _ hl'Z hd'Z; (first | subst hd'Z | (obtain ⟨_, hv'Z⟩ := hd'Z; subst hv'Z)); (try dsimp only); (refine Mine.IsLex.open hl'Z ?_; intro _ _ hqZ; subst hqZ); dsimp only [Mine.led6] at N'Z)))
  k_with "CompSrc" => (k_here; (with_reducible rename Mine.EvenMark _ _ _ => evMZ); (k_dflt ( (refine LCg.CompSrc.range (by rfl) (by k_asm) (by k_asm) (by assumption) (by first | decide | exact small_one (by l_bnd) (by l_bnd) (by l_bnd) (by l_bnd)) (by first | exact rangeSize_nat _ _ | rfl) (by first | exact Nat.le_of_ble_eq_true rfl | (rw [PySem.sizeLine_eq]; first | omega | ((have hb9Z := len_ints_list (by lay_of)); omega)) | size_fits) ?_; intro _; (refine' Mine.even_range evMZ (fun _ _ _ _ _ _ _ _ _ _ _ _ _ _ _ _ _ _ off'Z _ => ?_) ?_); (all_goals (try (simp only [LCg.Off3, and_true] at off'Z))); (all_goals (try ((show KPfMark → _); intro _))); kcf_last))))
  trivial
theorem Mine.ln21 : True := by
  k_with "call ref" => (k_here; (with_reducible show wpAny _ _ (call (Value.ref 758) _) _ _ _); apply Mine.Hold.to)
  trivial
theorem Mine.ln22 : True := by
  k_with "call ref" => (k_here; (with_reducible show wpAny _ _ (call (Value.ref 773) _) _ _ _); apply Mine.Hold.to)
  trivial
theorem Mine.ln23 : True := by
  k_with "call ref" => (k_here; (with_reducible show wpAny _ _ (call (Value.ref 806) _) _ _ _); k_dflt (refine' Mine.calls_use0 ?hzk1 ?hzk2 ?hzk3 ?hzk4 ?hzk5 ?hzkK (Mine.even_spec _ _ _ _ _ _ _ _ _ _ _ _ ?hze1 ?hze2 ?hze3) ?hzkd ?hzku trivial ?_; (case hze1 => exact ⟨by omega, by omega⟩); (case hze2 => exact ⟨by omega, by omega, by omega⟩); (case hze3 => assumption); (case hzk1 => k_asm); (case hzk2 => k_asm); (case hzk3 => k_asm); (case hzk4 => k_asm); (case hzk5 => k_asm); (case hzkK => exact rfl); (case hzkd => ktr_room); (case hzku => ktr_units); k_whole; rintro _ _ _ _ _ - ⟨_, hv'Z⟩; subst hv'Z; (try dsimp only)))
  trivial
namespace Mine
noncomputable def findsB (x : Str) : Bool := (finds x).getD false
noncomputable def quoteF (x : Str) : Str := quoted x (findsB x)
noncomputable def QOk (x : Str) : Prop := (0 < x.length ∧ x.length < 100) ∧ finds x = some (findsB x) ∧ Txt.replace x (Str.ofString "'") (Str.ofString "'\"'\"'") = x ∧ (quoteF x).length ≤ 40
noncomputable def QAll (ps : List Str) : Prop := ∀ k : Int, 0 ≤ k → k < (ps.length : Int) → QOk (ps.getD k.toNat Str.empty)
noncomputable def DAll (ds : List Int) : Prop := ∀ k : Int, 0 ≤ k → k < (ds.length : Int) → 0 ≤ ds.getD k.toNat 0 ∧ ds.getD k.toNat 0 ≤ 30
noncomputable def lineG (ps : List Str) (ds : List Int) (k : Int) : Str := Txt.mul (quoteF (ps.getD k.toNat Str.empty)) (ds.getD k.toNat 0)
noncomputable def lineF (ps : List Str) (ds : List Int) : Str := Txt.join (Str.ofString "") ((rangeKs 0 ps.length).map (lineG ps ds))
noncomputable def evenF (p q n : Int) (pr : Str) : Str := Txt.join (Str.ofString "") ((rangeKs 1 n.toNat).map (evenG p q pr))
noncomputable def revF (x : Str) : Str := Txt.sliceBy x none none (-1, 0)
noncomputable def toldF (x : Str) : List Str := if x.cps.toList = [] then [] else [tokL 0 (Str.ofString "") x.cps.toList]
theorem told_strs {x : Str} {items : Array Value} (h0 : x.cps.toList = [] → items = #[]) (h1 : x.cps.toList ≠ [] → ∃ t, items = #[.str (tokL 0 (Str.ofString "") x.cps.toList) t]) : StrsAre items.toList (toldF x) := by
  unfold toldF
  by_cases h : x.cps.toList = []
  · rw [if_pos h, h0 h]; exact .nil
  · rw [if_neg h]
    obtain ⟨t, e⟩ := h1 h
    rw [e]
    exact .cons _ _ .nil
theorem drop5 {h₀ h : Heap} {L : Addr} {a b c d e : Addr × Obj} {r : List (Addr × Obj)} (N : News h₀ L h (a :: b :: c :: d :: e :: r)) : News h₀ L h r := fun p hp => N p (.tail _ (.tail _ (.tail _ (.tail _ (.tail _ hp)))))
theorem drop2 {h₀ h : Heap} {L : Addr} {a b : Addr × Obj} {r : List (Addr × Obj)} (N : News h₀ L h (a :: b :: r)) : News h₀ L h r := fun p hp => N p (.tail _ (.tail _ hp))
theorem storeC_U {M : Model} {A : Around} {E : Value → Shared → Prop} {s : Shared} {h₀ : Heap} {L a : Addr} {m : Str → Option Value} {name : Str} {scope : Scope} {cd : Value} {x : Str} {v : Value} {news : List (Addr × Obj)} {g : Obj → List (Addr × Obj)} {c : Addr} {o : Obj} {v₀ : Option Value} {Q : Unit → Shared → Prop}
    (F : Fr h₀ L s.heap m) (N : News h₀ L s.heap news) (hc : (cellsFrom (L + 1) scope.names []).lookup x = some c) (U : UpdF c o news g) (hd : o.data = .cell v₀)
    (h : ∀ h' o', Fr h₀ L h' m → News h₀ L h' (g o') → o'.data = .cell (some v) → Q () { s with heap := h' })
    (hk : scope.kind = .function) (hl : (envOfC name scope L a cd).kindOf x = some .cell) : wpAny M A (storeName (envOfC name scope L a cd) x v) Q E s := by
  obtain ⟨own, rest, rfl, hg, h1, h2⟩ := U.split
  exact stCN F N hc hd h1 h2 (fun h' o' F' N' d' => h h' o' F' (hg o' ▸ N') d') hk hl
noncomputable def secG (pr X : Str) (n : Int) : List Int :=
  List.foldl (fun l' k' => if (1 ≤ (Txt.item pr 1).length ∧ (Txt.item pr 1).length ≤ 1) ∧ Txt.item X (k' - 1) = Txt.item pr 1 then l' ++ [k'] else if (1 ≤ (Txt.item pr 1).length ∧ (Txt.item pr 1).length ≤ 1) ∧ ¬ Txt.item X (k' - 1) = Txt.item pr 1 then l' else l') [] (rangeKs 1 (n + 1 - 1).toNat)
noncomputable def firG (p q n : Int) : List Int := List.foldl (fun l' k' => if (k' * q).fdiv (q - p) ≤ n then l' ++ [(k' * q).fdiv (q - p)] else l') [] (rangeKs 1 (n + 1 - 1).toNat)
noncomputable def LenIs (x : Str) (n : Int) : Prop := (x.length : Int) = n ∧ n < 1000
theorem item_text {prog : Program} {w : World} {A : Around} {E : Value → Shared → Prop} {s : Shared} {value slice : PySem.Expr} {x : Str} {t u : Tok} {n k : Int} {Q : Value → Shared → Prop} (hx : LenIs x n) (h0 : 0 ≤ k) (h1 : k < n)
    (h : Q (.str (Txt.item x k) s.toks) { s with toks := s.toks + 1 })
    (hs : ∀ i, subscripted slice false (.str x t) (.int i u) = operate [.str x t, .int i u] (getItem (.str x t) (.int i u)))
    (ht : ∀ r, letTemporaryGo value (.str x t) r = pure ()) :
    wpAny (model prog w) A (subscriptTail value slice (.str x t) (.int k u)) Q E s := by
  obtain ⟨e1, e2⟩ := hx
  exact item_str (fitsSsize_of (N := 9223372036854775808) (by omega) (by omega) (Int.le_refl _)) (by omega) (by omega) (fun _ => h) (hs _) ht
theorem quote_specQ (w : World) (mg mb) (mean) (x : Str) (tx : Tok) (h : QOk x) : Calls w mean mg mb 766 [.str x tx] 4 [] (fun _ => True) (fun _ v _ => ∃ t, v = .str (quoteF x) t) :=
  quote_spec w mg mb mean x tx (findsB x) h.1 h.2.1 h.2.2.1
theorem join_any {prog : Program} {w : World} {A : Around} {E : Value → Shared → Prop} {s : Shared} {t : Tok} {x : Str} {Q : Value → Shared → Prop} {α : Type} {D : Addr} {ys : List Value} {l : List α} {g : α → Str} (hc : CarriedAll ys (l.map fun a => PyData.str (g a))) (hl : s.heap.IsList D ys.toArray)
    (hok : ((l.map g).map (·.length)).sum + (l.map g).length * x.length ≤ 16777216) {X : Str} (hX : Txt.join x (l.map g) = X) (h : ∀ t' k, Q (.str X t') { s with toks := k }) : wpAny (model prog w) A (call (.builtin "str.join") [.str x t, .ref D]) Q E s := by
  subst hX
  exact join_list hl (StrsAre.of_carried (by rw [List.map_map]; exact hc)) hok h
noncomputable def CompG (_ : Int → Str) : Prop := True
theorem text_range {prog : Program} {w : World} {A : Around} {h₀ : Heap} {L : Addr} {m : Str → Option Value} {env : Env} {elt : Expr} {x : Str} {scope : Scope} {cl : List (Str × Addr)} {s : Shared} {S : List (Addr × Obj) → Prop} {Fin : List Value → List (Addr × Obj) → Prop} {news : List (Addr × Obj)} {n : Nat} {a : Int}
   {G : Int → Str} (_ : CompG G)
    (turn : ∀ k t I oI C oC D m₂ ys h tk (E' : Value → Shared → Prop), a ≤ k → k < a + (n : Int) → LCg.NsObj oC m₂ → m₂ x = some (.int k t) → Fr h₀ L h m → News h₀ L h ((I, oI) :: (C, oC) :: (D, LCg.lst ys) :: news) → LCg.Off3 I C D news → ((@Ne Nat I C) ∧ (@Ne Nat I D) ∧ (@Ne Nat C D)) → KPfMark →
      wpAny (model prog w) A (eval elt (compEnvC scope cl C env)) (LCg.CompEnd h₀ L m { s with heap := h, toks := tk } I oI C oC D (LCg.lst ys) S (fun y news' => KCtEl news (G k) y news')) E' { s with heap := h, toks := tk })
    (fin : KPfDone (∀ ys, CarriedAll ys ((rangeKs a n).map fun k => PyData.str (G k)) → (rangeKs a n).length = n → Fin ys news)) : LCg.CompRest prog w A h₀ L m env elt x scope cl s S (fun i v => ∃ t, v = .int (a + (i : Int)) t) Fin n 0 [] news :=
  kct_range G turn fin
end Mine
namespace Mine
noncomputable def MulOk (q : Int) : Prop := ∀ x : Int, IntMulOk x q
theorem conj_no {C : Prop} {A B : Str} (_ : C) (h : (A == B) = false) : ¬ (C ∧ A = B) := fun q => by rw [q.2] at h; simp at h
theorem MulOk.out {q : Int} (h : MulOk q) (x : Int) : IntMulOk x q := h x
end Mine
theorem Mine.ln24 : True := by
  k_with "storeName" => (k_here; dsimp only)
  trivial
theorem Mine.ln25 : True := by
  k_with "newList" => (k_here; dsimp only)
  trivial
theorem Mine.ln26 : True := by
  k_with "eval List" => (k_here; dsimp only)
  trivial
theorem Mine.ln27 : True := by
  k_with "binaryOp Add ref ref" => (k_here; dsimp only)
  trivial
theorem Mine.ln28 : True := by
  k_with "execs cons" => (k_here; dsimp only)
  trivial
theorem Mine.ln29 : True := by
  k_with "lcg_off" => (simp only [LCg.Off3, and_true]; with_reducible assumption)
  trivial
theorem Mine.ln30 : True := by
  k_with "k_ne" => (refine neN ?_; (try dsimp only); first | exact Mine.NeH.out (by with_reducible assumption) | exact Mine.NeH.back (by with_reducible assumption))
  trivial
theorem Mine.ln31 : True := by
  k_with "KCiNo" => (k_here; (with_reducible rename (((_ : Nat) ≠ _) ∧ _) ∧ _ => hneXZ; clear hneXZ))
  trivial
theorem Mine.ln32 : True := by
  k_with "KCiNo" => (k_here; (with_reducible rename ((_ : Nat) ≠ _) ∧ _ => hneXZ; clear hneXZ))
  trivial
theorem Mine.ln33 : True := by
  k_with "KCiNo" => (k_here; (fail_if_success (with_reducible rename ¬ (_ ∧ _) => hzqZ)); (with_reducible rename ((_ : Str) == _) = false => hbqZ); (with_reducible rename (1 ≤ Str.length _) ∧ _ => hcqZ); have hnqZ := Mine.conj_no hcqZ hbqZ)
  trivial
theorem Mine.ln34 : True := by
  k_with "binaryOp Mult int int" => ((with_reducible rename Mine.MulOk _ => hmXZ); with_reducible refine mul_int ?_ (Mine.MulOk.out hmXZ _))
  trivial
theorem Mine.ln35 : True := by
  k_with "CompSrc" => (k_here; (with_reducible rename Mine.CompG _ => evMZ); k_dflt ( (refine LCg.CompSrc.range (by rfl) (by k_asm) (by k_asm) (by assumption) (by first | decide | exact small_one (by l_bnd) (by l_bnd) (by l_bnd) (by l_bnd)) (by first | exact rangeSize_nat _ _ | rfl) (by first | exact Nat.le_of_ble_eq_true rfl | (rw [PySem.sizeLine_eq]; first | omega | ((have hb9Z := len_ints_list (by lay_of)); omega)) | size_fits) ?_; intro _; (refine' Mine.text_range evMZ (fun _ _ _ _ _ _ _ _ _ _ _ _ _ _ _ _ _ _ off'Z _ => ?_) ?_); (all_goals (try (simp only [LCg.Off3, and_true] at off'Z))); (all_goals (try ((show KPfMark → _); intro _))); kcf_last)))
  trivial
theorem Mine.ln36 : True := by
  k_with "call ref" => (k_here; (with_reducible show wpAny _ _ (call (Value.ref 766) _) _ _ _); k_dflt (refine' Mine.calls_use0 ?hzk1 ?hzk2 ?hzk3 ?hzk4 ?hzk5 ?hzkK (Mine.quote_specQ _ _ _ _ _ _ ?hzhq) ?hzkd ?hzku trivial ?_; (case hzhq => (with_reducible rename Mine.QAll _ => hqXZ); exact hqXZ _ (by omega) (by omega)); (case hzk1 => k_asm); (case hzk2 => k_asm); (case hzk3 => k_asm); (case hzk4 => k_asm); (case hzk5 => k_asm); (case hzkK => exact rfl); (case hzkd => ktr_room); (case hzku => ktr_units); k_whole; rintro _ _ _ _ _ - ⟨_, hv'Z⟩; subst hv'Z; (try dsimp only)))
  trivial
theorem Mine.ln37 : True := by
  k_with "subscriptTail List Slice ref ref" => (k_here; (with_reducible show wpAny _ _ (subscriptTail _ (PySem.Expr.Slice _ _ none _) (Value.ref _) (Value.ref _)) _ _ _); k_dflt (refine' kms_slice_lit ?hzF ?hzN ?hzl ?hzp ?hzq ?hze ?_ ?hzs ?hzt ?hzz; (case hzF => k_asm); (case hzN => k_asm); (case hzl => kmk_list); (case hzp => kmk_part); (case hzq => kmk_part); (case hze => exact rfl); (case hzs => with_unfolding_all rfl); (case hzt => kmk_pure); (case hzz => exact Nat.le_of_ble_eq_true rfl)); intro _ _ _ _ l1Z; (try k_lt l1Z); (try k_sweep))
  trivial
theorem Mine.ln38 : True := by
  k_with "subscriptTail Call Slice str ref" => (k_here; (with_reducible show wpAny _ _ (subscriptTail _ (PySem.Expr.Slice (some _) none none _) (Value.str _ _) (Value.ref _)) _ _ _); (with_reducible rename Fr _ _ _ _ => F'Z); (with_reducible rename News _ _ _ _ => N'Z); (refine slice_strN_sn (hsz := by rw [PySem.sizeLine_eq]; omega) (s := ⟨_, _, _, _, _⟩) F'Z N'Z ?_); intro _ _ _ _ _)
  trivial
theorem Mine.ln39 : True := by
  k_with "storeName" => (k_here; (with_reducible show wpAny _ _ (storeName (envOfC _ _ _ _ _) (Str.ofString "text") _) _ _ _); k_dflt (refine' Mine.storeC_U ?hzF ?hzN ?hzc ?hzU ?hzd ?_ (by rfl) (by rfl); (case hzF => k_asm); (case hzN => k_asm); (case hzc => rfl); (case hzU => k_updF); (case hzd => k_asm); k_whole); intro _ _ _ N'Z _; (try dsimp only at N'Z); (try k_sweep); apply Mine.Hold.to)
  trivial
theorem Mine.ln40 : True := by
  k_with "subscriptTail Name BinOp str int" => (k_here; (with_reducible show wpAny _ _ (subscriptTail _ _ (Value.str _ _) (Value.int _ _)) _ _ _); (with_reducible rename Mine.LenIs _ _ => hlXZ); refine Mine.item_text hlXZ (by omega) (by omega) ?_ (by intro _; with_unfolding_all rfl) (by intro _; with_unfolding_all rfl); (try dsimp only))
  trivial
theorem Mine.ln41 : True := by
  k_with "compareOp Eq ref ref" => (k_here; apply Mine.Hold.to)
  trivial
theorem Mine.ln42 : True := by
  k_with "compareOp NotEq ref ref" => (k_here; apply Mine.Hold.to)
  trivial
namespace Mine
set_option maxHeartbeats 8000000 in
theorem laid_spec (w : World) (mg mb) (mean) (n p q : Int) (tn tp tq : Tok) (ld lp : Addr) (vd vp : List Value) (ds : List Int) (ps : List Str) (pr : Str) (tr : Tok) (hds : IntsAre vd ds) (hps : StrsAre vp ps) (hn : 0 ≤ n ∧ n < 30) (hpq : 0 < p ∧ p < q ∧ q < 30) (hpr : pr.length = 2) (hlen : ps.length = ds.length) (hl10 : ps.length < 10) (hqa : QAll ps) (hda : DAll ds)
    (hsum : ((((rangeKs 0 ps.length).map (lineG ps ds)).map (·.length)).sum + ((rangeKs 0 ps.length).map (lineG ps ds)).length * (Str.ofString "").length ≤ 16777216))
    (hsp : ∀ (x : Str) (tx : Tok), x.length < 1000 → okL 0 x.cps.toList = true → CallsW w mean mg mb 758 [.str x tx] 12 [] (fun _ => True) (SplitPost x (tokL 0 (Str.ofString "") x.cps.toList)))
    (hline : (lineF ps ds).length < 1000 ∧ okL 0 (lineF ps ds).cps.toList = true)
    (hrev : (revF (lineF ps ds)).length < 1000 ∧ okL 0 (revF (lineF ps ds)).cps.toList = true)
    (hevl : (evenF p q (q - 2) pr).length ≤ 1048576) (hok2 : ([Txt.slice (evenF p q (q - 2) pr) (some (q - 2 - n)) none].take n.toNat).all PyData.strOk = true) (htold2 : toldF (revF (lineF ps ds)) = [Txt.slice (evenF p q (q - 2) pr) (some (q - 2 - n)) none].take n.toNat)
    (hsum2 : ((toldF (lineF ps ds)).map (·.length)).sum + (toldF (lineF ps ds)).length * (Str.ofString "").length ≤ 16777216)
    (htl : ((Txt.join (Str.ofString "") (toldF (lineF ps ds))).length : Int) = n)
    (hsld : ∀ (le la : Addr) (ve va : List Value) (ens ans : List Int), IntsAre ve ens → IntsAre va ans → okM ens ans = true → ens.Pairwise (· < ·) → ans.Pairwise (· < ·) → ens.length < 100 → ans.length < 100 → CallsD w mean mg mb 773 [.ref le, .ref la] 14 [] (fun h => h.IsList le ve.toArray ∧ h.IsList la va.toArray) (SldPost ens ans))
    (hsl : okM (rangeKs 1 (n + 1 - 1).toNat) (secG pr (Txt.join (Str.ofString "") (toldF (lineF ps ds))) n) = true ∧ (rangeKs 1 (n + 1 - 1).toNat).Pairwise (· < ·) ∧ (secG pr (Txt.join (Str.ofString "") (toldF (lineF ps ds))) n).Pairwise (· < ·) ∧ (rangeKs 1 (n + 1 - 1).toNat).length < 100 ∧ (secG pr (Txt.join (Str.ofString "") (toldF (lineF ps ds))) n).length < 100 ∧
      missF (rangeKs 1 (n + 1 - 1).toNat) (secG pr (Txt.join (Str.ofString "") (toldF (lineF ps ds))) n) = firG p q n)
    (hok1 : ([evenF p q n pr].take n.toNat).all PyData.strOk = true) (htold : toldF (lineF ps ds) = [evenF p q n pr].take n.toNat) :
    CallsD w mean mg mb 818 [.int n tn, .ref ld, .ref lp, .int p tp, .int q tq, .str pr tr] 30 [] (fun h => h.IsList ld vd.toArray ∧ h.IsList lp vp.toArray) (fun _ v _ => ∃ b, v = .bool b ∧ b = true) := by
  w_on
  intro dp un gd cn cs a ccd cl outer A₀ base h₀ L m s Q E B F XB N TB D hk hd hu hpre hret
  have X := XB.keeps B.stays
  have T := TB.keeps B.stays
  have hfr := fr_ok B F N
  refine wpAny_call ?_
  k_dflt (refine' Mine.enterCellC ?k1 ?k2 ?k3 ?k4 ?k5 ?kA ?kF ?kK ?k6 ?k7 ?k8 ?k9 ?kB ?kD ?_ ?c2 ?c3 ?c4; (case kA => exact rfl); (case kF => exact rfl); (case kK => assumption); (case k1 => k_asm); (case k2 => k_asm); (case k3 => k_asm); (case k4 => k_asm); (case k5 => k_asm); (case k6 => k_is); (case k7 => k_is); (case k8 => ktr_room); (case k9 => first | exact BindsTo.of_eq rfl | exact binds_K (by k_in) rfl (by k_is) rfl rfl rfl | fail "enter_cc: the arguments"); (case kB => exact rfl); (case kD => decide +kernel); (case c2 => exact rfl); (case c3 => exact rfl); (case c4 => exact rfl); k_whole)
  intro g L' h₁ tk cells hgs hkeep hLs F' N' Y' hlt B' X' T'
  have D' := dicts_in D F N hkeep
  have hLd := stays_list (fun b o e => hkeep b o e (by intro h; cases h)) hpre.1
  have hLp := stays_list (fun b o e => hkeep b o e (by intro h; cases h)) hpre.2
  k_cells Y'
  try simp only [List.cons_append, List.nil_append] at N'
  try dsimp only
  try k_fold
  try (with_reducible refine Mine.gentoks ?_; intro _)
  try (with_reducible refine Mine.foldB ?hzt ?_; (case hzt => ((fail_if_success (fail_if_success (rw [Mine.deepMark]))); k_dflt (exact trivial))); intro _)
  have K' : KeepW [] (L :: outer.filterMap (·.frame)) s.heap g := KeepW.of (fun b o e q => hkeep b o e q) (fun _ _ _ _ q => nomatch q)
  clear hpre B F X N T D
  have eN : ((ps.length : Int) - 0).toNat = ps.length := by omega
  have hnT : ((n + 1 - 1).toNat : Int) = n := by omega
  have hnT2 : (n + 1 - 1).toNat < 30 := by omega
  have hG : CompG (lineG ps ds) := True.intro
  have hmq : MulOk q := fun x => IntMulOk.of_right (intBits_le_64 (by omega) (by omega))
  have hqp0 : q - p ≠ 0 := by omega
  have hqps : (q - p).natAbs < 1073741824 := by omega
  have hmulL : ∀ k : Int, 0 ≤ k → k < 0 + (((ps.length : Int) - 0).toNat : Int) → PySem.MulOk (quoteF (ps.getD k.toNat Str.empty)) (ds.getD k.toNat 0) := fun k a b => by
    have hq1 := hqa k a (by omega)
    have hd1 := hda k a (by omega)
    exact mulOk_of 40 30 hq1.2.2.2 hd1.2 (by omega) (by decide) (by decide)
  k_with "binaryOp Mult str int" => (refine SB.mul (hmulL _ (by assumption) (by assumption)) ?_; intro _ _)
  k_with "binaryOp FloorDiv int int" => (refine floordiv_int hqp0 ?_ (Or.inl (PyProof.noPylong_small hqps)); dsimp only)
  k_with "newTuple" => (k_dflt (refine' kup_newTuple ?zF ?zN ?_ (Nat.le_of_ble_eq_true rfl); (case zF => k_asm); (case zN => k_asm)); intro D' h' F' N' l1; (try k_lt l1); (try k_sweep))
  k_with "KCtEl" => (exact kct_el rfl rfl rfl)
  k_with "call builtin:str.join" => ((dsimp only [List.cons_append, List.nil_append]; (with_reducible rename CarriedAll _ (List.map _ _) => ktC); refine join_any ktC (by first | assumption | is_list | exact News.isList (by k_asm) (by k_mem)) (by rw [eN]; exact hsum) (X := lineF ps ds) (by rw [eN]; rfl) ?_; intro _ _))
  k_steps
  rename_i t1
  refine Hold.of ?_
  refine' useD (hh := s.heap) ?k1 ?k2 ⟨B', X', T', D', K'⟩ XB TB ?kK (hsp (lineF ps ds) _ hline.1 hline.2).toD ?kd ?ku trivial ?_
  case k1 => assumption
  case k2 => assumption
  case kK => exact rfl
  case kd => ktr_room
  case ku => ktr_units
  rintro v2 h2 tk2 g2 F2 N2 ⟨B2, X2, T2, D2, K2⟩ KW2 fr2 ⟨Dt, items, ct, rfl, hn2, hg2, hs0, hs1⟩
  have ne2 := (fr2 _ _ hn2 hg2).2
  simp only [List.forall_mem_cons, List.not_mem_nil, false_implies, implies_true, and_true, neH] at ne2
  repeat (with_reducible rename (NeH _ _) ∧ _ => hneX; have hneY := And.left hneX; have hneZ := And.right hneX; clear hneX)
  replace N2 := news_more N2 (fr2 _ _ hn2 hg2).1 hg2
  replace hLd := keepW_list KW2 hLd
  replace hLp := keepW_list KW2 hLp
  with_reducible rename CompG _ => hG
  clear B' X' T' D' K' KW2 fr2 hG
  dsimp only
  k_steps
  rename News _ _ _ _ => N3
  refine Hold.of (ne_strsA (ss := [evenF p q n pr].take n.toNat) (News.isList N3 (.tail _ (.tail _ (.head _)))) ?s1 (News.isList N3 (.head _)) (pick_strs _ _ _ hn.1) hok1 ?room ?_)
  case s1 => rw [← htold]; exact told_strs hs0 hs1
  case room => units_room
  have hl1 : (lineF ps ds).length ≤ 1048576 := by omega
  have hT1 : StrsAre items.toList (toldF (lineF ps ds)) := told_strs hs0 hs1
  clear hs0 hs1
  k_with "subscriptTail Name Slice str ref" => ((with_reducible rename Fr _ _ _ _ => F'); (with_reducible rename News _ _ _ _ => N'); refine slice_strK_nn (hsz := by rw [PySem.sizeLine_eq]; omega) (s := ⟨_, _, _, _, _⟩) F' N' (by decide) ?_; intro _ _ _ _ _)
  k_steps
  refine Hold.of ?_
  refine' useD (hh := s.heap) ?k1 ?k2 ⟨B2, X2, T2, D2, K2⟩ XB TB ?kK (hsp (revF (lineF ps ds)) _ hrev.1 hrev.2).toD ?kd ?ku trivial ?_
  case k1 => assumption
  case k2 => assumption
  case kK => exact rfl
  case kd => ktr_room
  case ku => ktr_units
  rintro v3 h3 tk3 g3 F3 N3 ⟨B3, X3, T3, D3, K3⟩ KW3 fr3 ⟨Du, items2, cu, rfl, hn3, hg3, hs0, hs1⟩
  have ne3 := (fr3 _ _ hn3 hg3).2
  simp only [List.forall_mem_cons, List.not_mem_nil, false_implies, implies_true, and_true, neH] at ne3
  repeat (with_reducible rename (NeH _ _) ∧ _ => hneX; have hneY := And.left hneX; have hneZ := And.right hneX; clear hneX)
  replace N3 := news_more N3 (fr3 _ _ hn3 hg3).1 hg3
  replace hLd := keepW_list KW3 hLd
  replace hLp := keepW_list KW3 hLp
  clear B2 X2 T2 D2 K2 KW3 fr3
  dsimp only
  have hel : (Txt.join (Str.ofString "") (List.map (evenG p q pr) (rangeKs 1 (q - 2).toNat))).length ≤ 1048576 := hevl
  have hT2 : StrsAre items2.toList (toldF (revF (lineF ps ds))) := told_strs hs0 hs1
  clear hs0 hs1
  k_steps
  rename News _ _ _ _ => N4
  refine Hold.of (ne_strsA (ss := [Txt.slice (evenF p q (q - 2) pr) (some (q - 2 - n)) none].take n.toNat) (News.isList N4 (by k_mem)) ?s1 (News.isList N4 (by k_mem)) (pick_strs _ _ _ hn.1) hok2 ?room ?_)
  case s1 => rw [← htold2]; exact hT2
  case room => units_room
  have N5 := drop5 N4
  have hlen3 : LenIs (Txt.join (Str.ofString "") (toldF (lineF ps ds))) n := ⟨htl, by omega⟩
  clear N4 hT2
  k_with "call builtin:str.join" => ((dsimp only [List.cons_append, List.nil_append]; refine join_list (News.isList (by k_asm) (by k_mem)) hT1 hsum2 ?_; intro _ _))
  k_steps
  refine Hold.of ?_
  rename News _ _ _ _ => N6
  have N6 := drop2 N6
  repeat (with_reducible rename ((_ : Nat) ≠ _) ∧ _ => hneX; clear hneX)
  k_steps
  refine Hold.of ?_
  refine' useD (hh := s.heap) ?k1 ?k2 ⟨B3, X3, T3, D3, K3⟩ XB TB ?kK (hsld _ _ _ _ (rangeKs 1 (n + 1 - 1).toNat) (secG pr (Txt.join (Str.ofString "") (toldF (lineF ps ds))) n) ?i1 ?i2 hsl.1 hsl.2.1 hsl.2.2.1 hsl.2.2.2.1 hsl.2.2.2.2.1) ?kd ?ku ?pre ?_
  case k1 => assumption
  case k2 => assumption
  case i1 => assumption
  case i2 => assumption
  case kK => exact rfl
  case kd => ktr_room
  case ku => ktr_units
  case pre => exact ⟨News.isList (by assumption) (by k_mem), News.isList (by assumption) (by k_mem)⟩
  rintro v5 h5 tk5 g5 F5 N5 ⟨B5, X5, T5, D5, K5⟩ KW5 fr5 ⟨Tt, Da, Db, wsa, ea, eb, rfl, hnT, hnA, hnB, hgT, hgA, hgB, hia⟩
  replace N5 := news_more N5 (fr5 _ _ hnT hgT).1 hgT
  replace N5 := news_more N5 (fr5 _ _ hnA hgA).1 hgA
  replace N5 := news_more N5 (fr5 _ _ hnB hgB).1 hgB
  clear B3 X3 T3 D3 K3 KW5 fr5
  dsimp only
  k_steps
  rename News _ _ _ _ => N7
  refine Hold.of (eq_dataH (reads_pairA (N7.get (by k_mem)) rfl rfl (News.isList N7 (by k_mem)) (hsl.2.2.2.2.2 ▸ hia) (News.isList N7 (by k_mem)) .nil) (reads_pairA (N7.get (.head _)) rfl rfl (News.isList (items := List.toArray _) N7 (by k_mem)) (by show IntsAre _ (firG p q n); assumption) (News.isList N7 (by k_mem)) .nil) (shaped_two _ _).2 (shaped_two _ _).2 ?room ?_)
  case room => units_room
  rw [show PyData.eqv (.tuple [.list ((firG p q n).map PyData.int), .list ([].map PyData.int)]) (.tuple [.list ((firG p q n).map PyData.int), .list ([].map PyData.int)]) = true from (eqv_two _ _).2]
  k_steps
  exact hret _ _ _ (keepW_base K5 (Fr.keep (by assumption))) ⟨_, rfl, rfl⟩
end Mine
end T_La
section T_Rs
namespace Mine
/-- a new exception, its context told or not -/
structure Fresh2 (h h' : Heap) (e : Addr) (cls : String) (c : Value) : Prop where
  keeps : ∀ b o, h.get? b = some o → h'.get? b = some o
  new : h.get? e = none
  there : ∃ ob vs a0, h'.get? e = some ob ∧ ob.cls = .type cls ∧ ob.data = .fields vs ∧ vs[0]? = some a0 ∧ vs[1]? = some .none ∧ vs[2]? = some c
theorem Fresh2.of {h h' : Heap} {e : Addr} {cls : String} (x : Heap.NewExc h h' e cls) : Fresh2 h h' e cls .none :=
  ⟨x.keeps, x.new, by obtain ⟨ob, t, he, hc, hd⟩ := x.there; exact ⟨ob, _, t, he, hc, hd, rfl, rfl, rfl⟩⟩
theorem entry_unchain : entryFor table "proto.unchain" = some Builtin.«proto.unchain» := entryFor_of_fast (by kernel_rfl)
section
variable {prog : Program} {w : World} {A : Around} {E : Value → Shared → Prop} {s : Shared}
theorem unchain_none {A : Around} {e e1 : Addr} {o1 : Obj} {vs1 : Array Value} {Q : Value → Shared → Prop} (he1 : s.heap.get? e1 = some o1) (hd1 : o1.data = .fields vs1) (h2 : vs1[2]? = some .none) (h : Q .none s) :
    wpAny (model prog w) A (runValue (.builtin "proto.unchain" ⟨[.ref e, .ref e1, .ref e1, .bool false], []⟩)) Q E s := by
  refine wpAny_runValue (codeAny_builtin entry_unchain ?_)
  unfold Builtin.«proto.unchain»
  refine wpAny_bind (wpAny_field he1 hd1 h2 ?_)
  exact wpAny_pure h
/-- a raise while e1 is handled, whose own context is None -/
theorem raise_in {α : Type} {e1 : Addr} {o1 : Obj} {vs1 : Array Value} {cls msg : String} {Q : α → Shared → Prop} (hp : PlainExc cls) (hh : A.handled = some (.ref e1)) (he1 : s.heap.get? e1 = some o1) (hd1 : o1.data = .fields vs1) (h2 : vs1[2]? = some .none)
    (h : ∀ h' tk e, Fresh2 s.heap h' e cls (.ref e1) → E (.ref e) { s with heap := h', toks := tk }) :
    wpAny (model prog w) A (raiseErrorWords cls msg : Sem α) Q E s := by
  unfold raiseErrorWords
  refine wpAny_bind (wpAny_mkText (wpAny_bind ?_))
  refine wpAny_newExc_plain hp fun h' e hm => ?_
  unfold raiseNew
  refine wpAny_bind (wpAny_handled ?_)
  rw [hh]
  obtain ⟨t, hte, htn, hti⟩ := hm.there
  have ne : e1 ≠ e := fun q => by have := hm.new; rw [← q] at this; have z := he1.symm.trans this; cases z
  dsimp only
  rw [if_pos (by simp [ne])]
  refine wpAny_bind (wpAny_holding (unchain_none (hm.keeps _ _ he1) hd1 h2 ?_))
  refine wpAny_bind (show wpAny _ _ (setField (.ref e) 2 (.ref e1)) _ _ _ from wpAny_setField (i := 2) hte rfl (by simp) ?_)
  refine wpAny_throw (h _ _ _ ⟨fun b o hb => ?_, hm.new, ⟨_, _, .ref t, Heap.get?_update_self _ hte (Obj.isFreed_of_fields (Obj.data_mapFields rfl _)), rfl, rfl, rfl, rfl, rfl⟩⟩)
  have nb : e ≠ b := fun q => by have := hm.new; rw [q] at this; rw [hb] at this; cases this
  rw [Heap.get?_update_other _ _ nb]
  exact hm.keeps _ _ hb
theorem getItem_list_in {e1 : Addr} {o1 : Obj} {vs1 : Array Value} {l : Addr} {items : Array Value} {k : Int} {t : Tok} {Q : Value → Shared → Prop} (hh : A.handled = some (.ref e1)) (he1 : s.heap.get? e1 = some o1) (hd1 : o1.data = .fields vs1) (h2 : vs1[2]? = some .none) (hl : s.heap.IsList l items)
    (hout : (items.size : Int) ≤ k) (hhi : k < 2 ^ 63)
    (hE : ∀ h' tk e, Fresh2 s.heap h' e "IndexError" (.ref e1) → E (.ref e) { s with heap := h', toks := tk }) :
    wpAny (model prog w) A (getItem (.ref l) (.int k t)) Q E s := by
  obtain ⟨o, ho, hc, ne, hd⟩ := id hl
  unfold getItem
  try with_reducible refine wpAny_holding ?_
  first | refine wpAny_bind (wpAny_pure ?_) | skip
  refine wpAny_bind (wpAny_sequenceKey hl.typeIs (by decide) ?_)
  refine wpAny_bind (wpAny_callSpecial?_slot (name := Str.ofString "__getitem__") hl.typeIs slot_list_getitem
    (wpAny_call_entry slot_list_getitem hl.typeIs entry_list_getitem ?_ (args_list_getitem _ _)))
  show wpAny _ _ (Builtin.List.listSubscript? (.int k t) >>= _) _ _ s
  refine wpAny_bind (wpAny_listSubscript_int (fitsIndex_both (by omega) hhi) ?_)
  have h0 : (0 : Int) ≤ k := by omega
  clear hhi
  cases k with
  | ofNat j =>
    have hx : items[j]? = none := Array.getElem?_eq_none (by have : (items.size : Int) ≤ (j : Int) := hout; omega)
    show wpAny _ _ ((seqItemAt l j >>= fun r => pure (r.map (j, ·))) >>= _) _ _ s
    refine wpAny_bind (wpAny_bind (wpAny_seqItemAt ho hd (wpAny_pure ?_)))
    rw [hx]
    first
      | exact wpAny_bind (wpAny_rule (raise_in plainExc_IndexError hh he1 hd1 h2 hE))
      | exact wpAny_bind (wpAny_rule (wpAny_bind (raise_in plainExc_IndexError hh he1 hd1 h2 hE)))
      | exact wpAny_bind (wpAny_bind (wpAny_rule (raise_in plainExc_IndexError hh he1 hd1 h2 hE)))
      | exact wpAny_rule (raise_in plainExc_IndexError hh he1 hd1 h2 hE)
  | negSucc j => exact absurd h0 (by have := Int.negSucc_lt_zero j; omega)
theorem item_outH {e1 : Addr} {o1 : Obj} {vs1 : Array Value} {value slice : PySem.Expr} {l : Addr} {items : Array Value} {k : Int} {u : Tok} {Q : Value → Shared → Prop} (hh : A.handled = some (.ref e1)) (he1 : s.heap.get? e1 = some o1) (hd1 : o1.data = .fields vs1) (h2 : vs1[2]? = some .none) (hl : s.heap.IsList l items)
    (hout : (items.size : Int) ≤ k) (hhi : k < 2 ^ 63)
    (hE : ∀ h' tk e, Fresh2 s.heap h' e "IndexError" (.ref e1) → E (.ref e) { s with heap := h', toks := tk })
    (hs : subscripted slice false (.ref l) (.int k u) = operate [.ref l, .int k u] (getItem (.ref l) (.int k u))) :
    wpAny (model prog w) A (subscriptTail value slice (.ref l) (.int k u)) Q E s :=
  tail_any hl.typeIs slot_list_getitem.lookup (getItem_list_in hh he1 hd1 h2 hl hout hhi hE) hs
end
end Mine
end T_Rs
section T_Ex
namespace Mine
/-- an exception told of in a frame: itself, its traceback -/
structure Noted (e T : Addr) (cls : String) (c fl : Value) (oe oT : Obj) : Prop where
  cls : oe.cls = .type cls
  exc : ∃ vs, oe.data = .fields vs ∧ vs[1]? = some (.ref T) ∧ vs[2]? = some c
  tb : ∃ ts, oT.data = .fields ts ∧ ts[3]? = some fl
  ne : @Ne Nat e T
section
variable {prog : Program} {w : World} {M : Model} {A A₀ : Around} {E : Value → Shared → Prop} {s : Shared} {base g h : Heap} {outer : List Env} {L a e T : Addr} {m : Str → Option Value} {name : Str} {scope : Scope} {cd : Value} {news : List (Addr × Obj)} {cls : String} {c : Value}
/-- the first note of an exception, in the own frame -/
theorem note_own {Q : Unit → Shared → Prop} (B : Below A₀ base outer g) (F : Fr g L h m) (N : News g L h news) (x : Fresh2 h s.heap e cls c) (hA : A.frames = some (envOf name scope L a cd :: outer)) (hk : scope.kind = .function)
    (hQ : ∀ h' g' T oe oT, KtsTurn (outer.filterMap (·.frame)) g g' → Fr g' L h' m → News g' L h' ((e, oe) :: (T, oT) :: news) → Below A₀ base outer g' → Noted e T cls c (rawInt L) oe oT → (∀ p ∈ news, @Ne Nat p.1 T ∧ @Ne Nat p.1 e) → KeepW [] (L :: outer.filterMap (·.frame)) h h' → Q () { s with heap := h' }) :
    wpAny M A (noteFrame (.ref e) (envOf name scope L a cd)) Q E s := by
  obtain ⟨ob, vs, a0, he, hcls, hd, h0, h1, h2⟩ := x.there
  have K' := B.push (name := name) (a := a) (cd := cd) F hk
  have hl : s.heap.FunFrames base (envOf name scope L a cd :: outer) := K'.frames.of_keeps fun b o hb _ => ⟨o, x.keeps b o hb, rfl⟩
  have hen : e ∉ (envOf name scope L a cd :: outer).filterMap (·.frame) := fun hm => by
    obtain ⟨_, o, ho, hnf⟩ := hl.mem hm
    rw [he] at ho; injection ho with ho; subst ho; exact hnf vs hd
  unfold noteFrame
  simp only [show (envOf name scope L a cd).frame = some L from rfl]
  refine wpAny_bind (wpAny_field he hd h1 ?_)
  rw [if_neg (by decide)]
  refine wpAny_bind (wpAny_frameOf_fun hA hl rfl fun h₁ hs₁ => ?_)
  refine wpAny_bind (wpAny_entryPlaceOf fun pl hpl => ?_)
  unfold EntryCells.newEntry newFields
  refine wpAny_bind (wpAny_newObj_type ?_ (hpl.sizeOk5 _ _ _ _ _))
  have he₁ : h₁.get? e = some ob := (hs₁.2.1 e hen).trans he
  generalize hoT : ({ cls := .type "traceback", dict := none, data := .fields ([Value.none, .ref L, .none, rawInt L, .none] ++ (if pl.isEmpty then List.replicate 6 Value.none else pl)).toArray } : Obj) = oT
  have hdT : ∃ ts, oT.data = .fields ts ∧ ts[3]? = some (rawInt L) := ⟨_, by rw [← hoT], by first | (simp; done) | (rcases hpl with rfl | ⟨_, _, _, _, _, _, _, rfl⟩ <;> simp)⟩
  have he₂ := Heap.get?_push_of_some (h := h₁) oT he₁
  have hTe : h₁.objs.size ≠ e := Nat.ne_of_gt (Heap.lt_size he₁)
  have hsz : 1 < vs.size := (Array.getElem?_eq_some_iff.mp h1).1
  refine wpAny_setField he₂ hd hsz ?_
  have hd₃ := Obj.data_mapFields hd (·.setIfInBounds 1 (Value.ref h₁.objs.size))
  have he₃ := Heap.get?_update_self (Obj.mapFields (·.setIfInBounds 1 (Value.ref h₁.objs.size))) he₂ (Obj.isFreed_of_fields hd₃)
  have hT₃ : ((h₁.push oT).update e (Obj.mapFields (·.setIfInBounds 1 (Value.ref h₁.objs.size)))).get? h₁.objs.size = some oT := by
    obtain ⟨ts, hts, _⟩ := hdT
    exact (Heap.get?_update_other _ _ (Ne.symm hTe)).trans (Heap.get?_push_size h₁ (Obj.isFreed_of_fields hts))
  have keep : ∀ b o, b ≠ e → h₁.get? b = some o → ((h₁.push oT).update e (Obj.mapFields (·.setIfInBounds 1 (Value.ref h₁.objs.size)))).get? b = some o := fun b o hbe hb => by
    rw [Heap.get?_update_other _ _ (Ne.symm hbe)]
    exact Heap.get?_push_of_some _ hb
  have neE : ∀ b o, h.get? b = some o → b ≠ e := fun b o hb q => by have := x.new; rw [← q, hb] at this; cases this
  generalize hh' : (h₁.push oT).update e (Obj.mapFields (·.setIfInBounds 1 (Value.ref h₁.objs.size))) = h' at he₃ hT₃ keep ⊢
  have KW : KeepW [] (L :: outer.filterMap (·.frame)) h h' := by
    refine ⟨fun b o hb _ hn => keep b o (neE b o hb) ((hs₁.2.1 b fun hm => hn ?_).trans (x.keeps b o hb)), fun b o hb hm => ?_⟩
    · rcases kts_mem hm with z | z
      · exact z ▸ .head _
      · exact .tail _ z
    · obtain ⟨sl, hs⟩ := hs₁.2.2 b o (x.keeps b o hb)
      exact ⟨sl, keep b _ (neE b o hb) hs⟩
  have none_h : ∀ b, h.get? b = none → g.get? b = none := fun b hb => by
    cases q : g.get? b with
    | none => rfl
    | some o => have := F.keep b o q; rw [hb] at this; cases this
  have hTn : h.get? h₁.objs.size = none := by
    cases q : h.get? h₁.objs.size with
    | none => rfl
    | some o =>
      obtain ⟨sl, hs⟩ := hs₁.2.2 _ o (x.keeps _ o q)
      exact absurd (Heap.lt_size hs) (Nat.lt_irrefl _)
  obtain ⟨g', T', F', N', B'⟩ := turn_use (rest := news) B F N KW (fun a ha => nomatch ha) (fun p hp => ⟨hp, fun q => nomatch q⟩)
  obtain ⟨ts, hts, ht3⟩ := hdT
  refine hQ h' g' h₁.objs.size _ oT T' F' ?_ B' ⟨(Obj.cls_mapFields _ _).trans hcls, ⟨_, hd₃, by simp [hsz], by rw [Array.getElem?_setIfInBounds_ne (by decide)]; exact h2⟩, ⟨ts, hts, ht3⟩, fun q => hTe q.symm⟩ (fun p hp => ⟨fun q => ?_, fun q => ?_⟩) KW
  · refine News.more F' (News.more F' N' hT₃ (fun es n q => by rw [hts] at q; cases q) (T'.none_ _ (none_h _ hTn))) he₃ (fun es n q => by rw [hd₃] at q; cases q) (T'.none_ _ (none_h _ x.new))
  · have q' : p.1 = h₁.objs.size := q
    have := (N p hp).1; rw [q', hTn] at this; cases this
  · exact neE _ _ (N p hp).1 q
/-- the mark of the frame that it flies in -/
theorem set_flight {Q : Unit → Shared → Prop} {fl : Value} {oe oT : Obj} (fr : Option Addr) (F : Fr g L s.heap m) (N : News g L s.heap ((e, oe) :: (T, oT) :: news)) (H : Noted e T cls c fl oe oT) (hT : ∀ p ∈ news, @Ne Nat p.1 T ∧ @Ne Nat p.1 e)
    (hQ : ∀ h' oT', Fr g L h' m → News g L h' ((e, oe) :: (T, oT') :: news) → Noted e T cls c (fr.elim .none fun f => rawInt f) oe oT' → KeepW [T] [] s.heap h' → Q () { s with heap := h' }) :
    wpAny M A (setFlight (.ref e) fr) Q E s := by
  obtain ⟨vs, hd, h1, h2⟩ := H.exc
  obtain ⟨ts, hdT, h3⟩ := H.tb
  have he := (N _ (.head _)).1
  have hTT := (N _ (.tail _ (.head _))).1
  have hsz3 : 3 < ts.size := (Array.getElem?_eq_some_iff.mp h3).1
  unfold setFlight
  refine wpAny_bind (wpAny_field he hd h1 ?_)
  rw [if_pos (show (Value.ref T != Value.none) = true from by simp)]
  refine wpAny_setField hTT hdT hsz3 ?_
  have other : ∀ b, b ≠ T → (s.heap.update T (Obj.mapFields (·.setIfInBounds 3 (fr.elim Value.none fun f => rawInt f)))).get? b = s.heap.get? b := fun b hb => Heap.get?_update_other _ _ (Ne.symm hb)
  have self := Heap.get?_update_self (Obj.mapFields (·.setIfInBounds 3 (fr.elim Value.none fun f => rawInt f))) hTT (Obj.isFreed_of_fields (Obj.data_mapFields hdT _))
  have nL := (N _ (.tail _ (.head _))).2.1
  have ng := (N _ (.tail _ (.head _))).2.2
  generalize hfl : (fr.elim Value.none fun f => rawInt f) = fv at *
  have hts' : (ts.setIfInBounds 3 fv)[3]? = some fv := by rw [Array.getElem?_setIfInBounds, if_pos rfl, if_pos hsz3]
  refine hQ _ _ ⟨?_, fun b o e => (other b fun q => by rw [q, ng] at e; cases e).trans (F.keep b o e), F.above⟩ ?_ ⟨H.cls, ⟨vs, hd, h1, h2⟩, ⟨_, Obj.data_mapFields hdT (·.setIfInBounds 3 fv), hts'⟩, H.ne⟩ ⟨fun b o hb hn _ => (other b fun q => hn (by rw [q]; exact .head _)).trans hb, fun _ _ _ q => nomatch q⟩
  · obtain ⟨o, es, ep, ho, r⟩ := F.ns
    exact ⟨o, es, ep, (other L fun q => nL q.symm).trans ho, r⟩
  · intro p hp
    rcases List.mem_cons.mp hp with rfl | hp
    · exact ⟨(other _ H.ne).trans he, (N _ (.head _)).2⟩
    rcases List.mem_cons.mp hp with rfl | hp
    · exact ⟨self, nL, ng⟩
    · exact ⟨(other _ (hT p hp).1).trans (N _ (.tail _ (.tail _ hp))).1, (N _ (.tail _ (.tail _ hp))).2⟩
theorem note_again {Q : Unit → Shared → Prop} {oe oT : Obj} (N : News g L s.heap ((e, oe) :: (T, oT) :: news)) (H : Noted e T cls c (rawInt L) oe oT) (h : Q () s) : wpAny M A (noteFrame (.ref e) (envOf name scope L a cd)) Q E s := by
  obtain ⟨vs, hd, h1, h2⟩ := H.exc
  obtain ⟨ts, hdT, h3⟩ := H.tb
  exact wpAny_noteFrame_inFlight rfl (N _ (.head _)).1 hd h1 (N _ (.tail _ (.head _))).1 hdT h3 h
theorem pass_on {α : Type} {what : String} {Q : α → Shared → Prop} {fl : Value} {oe oT : Obj} (F : Fr g L s.heap m) (N : News g L s.heap ((e, oe) :: (T, oT) :: news)) (H : Noted e T cls c fl oe oT) (hT : ∀ p ∈ news, @Ne Nat p.1 T ∧ @Ne Nat p.1 e)
    (hE : ∀ h' oT', Fr g L h' m → News g L h' ((e, oe) :: (T, oT') :: news) → Noted e T cls c (rawInt L) oe oT' → KeepW [T] [] s.heap h' → E (.ref e) { s with heap := h' }) :
    wpAny M A (PySem.passOn what (.ref e) (envOf name scope L a cd) : Sem α) Q E s := by
  obtain ⟨vs, hd, h1, h2⟩ := H.exc
  unfold PySem.passOn
  refine wpAny_bind (wpAny_field (N _ (.head _)).1 hd h1 ?_)
  rw [if_neg (show ¬ ((Value.ref T == Value.none) = true) from by simp)]
  first
    | exact wpAny_bind (wpAny_pure (wpAny_bind (set_flight (some L) F N H hT fun h' oT' F' N' H' k' => wpAny_throw (hE h' oT' F' N' H' k'))))
    | exact wpAny_bind (set_flight (some L) F N H hT fun h' oT' F' N' H' k' => wpAny_throw (hE h' oT' F' N' H' k'))
theorem came_back {fl : Value} {oe oT : Obj} (F : Fr g L s.heap m) (N : News g L s.heap ((e, oe) :: (T, oT) :: news)) (H : Noted e T cls c fl oe oT) (hT : ∀ p ∈ news, @Ne Nat p.1 T ∧ @Ne Nat p.1 e)
    (hE : ∀ h' oT', Fr g L h' m → News g L h' ((e, oe) :: (T, oT') :: news) → Noted e T cls c (rawInt L) oe oT' → KeepW [T] [] s.heap h' → E (.ref e) { s with heap := h' }) :
    cameBackBy M A (envOf name scope L a cd) E (.ref e) s := by
  obtain ⟨vs, hd, h1, h2⟩ := H.exc
  unfold cameBackBy
  refine wpAny_bind (wpAny_field (N _ (.head _)).1 hd h1 ?_)
  rw [if_neg (show ¬ ((Value.ref T == Value.none) = true) from by simp)]
  first
    | exact wpAny_bind (wpAny_pure (set_flight (some L) F N H hT fun h' oT' F' N' H' k' => hE h' oT' F' N' H' k'))
    | exact set_flight (some L) F N H hT fun h' oT' F' N' H' k' => hE h' oT' F' N' H' k'
variable {p : Program} {loose : List Str} {mg mb : Str → Option Value} {x : Str} {X T' : String} {b₀ : Stmt} {suite : List Stmt} {pos np : Pos} {rest : List ExceptHandler} {KF : Frag}
/-- a noted exception is caught in the own frame -/
theorem catch_own {Q : Flow → Shared → Prop} {oe oT : Obj} {fl : Value} (F : Fr g L s.heap m) (N : News g L s.heap ((e, oe) :: (T, oT) :: news)) (H : Noted e T X c fl oe oT) (hT : ∀ p ∈ news, @Ne Nat p.1 T ∧ @Ne Nat p.1 e) (XB : KF.In g) (TB : TopRead p loose mg mb g)
    (ex : nsIn KF mainGlobals x = some none) (hv : bootBuiltins x = some (.type T')) (hn' : x ≠ "__name__")
    (hexc : isSubtype (.type T') (.type "BaseException") = pure true) (hnt : isSubtype (.type ((Manifest.find? T').elim "type" fun y => y.metatype)) (.type "tuple") = pure false) (hsub : isSubtype (.type X) (.type T') = pure true)
    (k : ∀ h' oT', Fr g L h' m → News g L h' ((e, oe) :: (T, oT') :: news) → KeepW [T] [] s.heap h' → wpAny (model prog w) (A.mark (some (.ref e))) (execs (b₀ :: suite) (envOf name scope L a cd)) Q E { s with heap := h' })
    (hk : scope.kind = .function) (hx : (envOf name scope L a cd).kindOf x = some .globalImplicit) (hd : (x == ("__debug__" : Str)) = false)
    (hE : PassesOwnAt (model prog w) (A.mark (some (.ref e))) A (envOf name scope L a cd) E) :
    wpAny (model prog w) A (setFlight (.ref e) none) (fun _ s₃ =>
        wpAny (model prog w) A (handleBy (.ref e) (envOf name scope L a cd) (.ExceptHandler (some (.Name x np)) none (b₀ :: suite) pos :: rest)) Q E s₃) E s := by
  refine set_flight none F N H hT fun h₁ oT₁ F₁ N₁ H₁ k₁ => ?_
  refine wpAny_handleBy_builtin (X := X) (T := T') (b := true) hexc hnt hsub (name_B F₁ XB TB ex hv hn' ⟨rfl, ⟨oe, (N₁ _ (.head _)).1, H.cls⟩, ?_⟩ hk hx hd)
  refine set_flight none F₁ N₁ H₁ hT fun h₂ oT₂ F₂ N₂ H₂ k₂ => ?_
  exact wpAny_passesOwnAt hE (k h₂ oT₂ F₂ N₂ ⟨fun b o hb n1 n2 => k₂.1 b o (k₁.1 b o hb n1 n2) n1 n2, fun _ _ _ q => nomatch q⟩)
/-- try, with one clause: the clause once, the body under a hidden word for its exceptions -/
theorem try_hand {J : (Str → Option Value) → List (Addr × Obj) → Prop} {body : List Stmt} {s₀ : Shared} {mean : ExcName → Option Value} {pos' : Pos} {Q : Flow → Shared → Prop} (hAf : A.frames = some (envOf name scope L a cd :: outer)) (B : Below A₀ base outer g) (XB : KF.In base) (TB : Top p loose mean mg mb base)
    (ex : nsIn KF mainGlobals x = some none) (hv : bootBuiltins x = some (.type T')) (hn' : x ≠ "__name__")
    (hexc : isSubtype (.type T') (.type "BaseException") = pure true) (hnt : isSubtype (.type ((Manifest.find? T').elim "type" fun y => y.metatype)) (.type "tuple") = pure false) (hsub : isSubtype (.type X) (.type T') = pure true)
    (hE : ∀ e, PassesOwnAt (model prog w) (A.mark (some (.ref e))) A (envOf name scope L a cd) E)
    (hand : ∀ e g2 h tk m' nj, KtsTurn (outer.filterMap (·.frame)) g g2 → Below A₀ base outer g2 → Fr g2 L h m' → News g2 L h nj → J m' nj → wpAny (model prog w) (A.mark (some (.ref e))) (execs (b₀ :: suite) (envOf name scope L a cd)) Q E { s₀ with heap := h, toks := tk })
    (tried : ∀ E' : Value → Shared → Prop, PassesOwn (model prog w) A (envOf name scope L a cd) E' →
      (∀ e h h' tk m' nj, Fr g L h m' → News g L h nj → J m' nj → Fresh2 h h' e X .none → E' (.ref e) { s₀ with heap := h', toks := tk }) →
      (∀ e T oe oT c g2 h tk m' nj nj', KtsTurn (outer.filterMap (·.frame)) g g2 → Below A₀ base outer g2 → Fr g2 L h m' → News g2 L h ((e, oe) :: (T, oT) :: nj') → Noted e T X c (rawInt L) oe oT → (∀ p ∈ nj', @Ne Nat p.1 T ∧ @Ne Nat p.1 e) → (∀ p ∈ nj, p ∈ nj') → J m' nj → E' (.ref e) { s₀ with heap := h, toks := tk }) →
      wpAny (model prog w) A (execs body (envOf name scope L a cd)) (fun f s₁ => match f with | .next => Q .next s₁ | f => Q f s₁) E' s)
    (hk : scope.kind = .function) (hx : (envOf name scope L a cd).kindOf x = some .globalImplicit) (hd : (x == ("__debug__" : Str)) = false) :
    wpAny (model prog w) A (exec (.Try body [.ExceptHandler (some (.Name x np)) none (b₀ :: suite) pos] [] [] pos') (envOf name scope L a cd)) Q E s := by
  have on : ∀ e T oe oT c g2 h tk m' nj nj', KtsTurn (outer.filterMap (·.frame)) g g2 → Below A₀ base outer g2 → Fr g2 L h m' → News g2 L h ((e, oe) :: (T, oT) :: nj') → Noted e T X c (rawInt L) oe oT → (∀ p ∈ nj', @Ne Nat p.1 T ∧ @Ne Nat p.1 e) → (∀ p ∈ nj, p ∈ nj') → J m' nj →
      wpAny (model prog w) A (setFlight (.ref e) none) (fun _ s₃ => wpAny (model prog w) A (handleBy (.ref e) (envOf name scope L a cd) [.ExceptHandler (some (.Name x np)) none (b₀ :: suite) pos]) Q E s₃) E { s₀ with heap := h, toks := tk } := by
    intro e T oe oT c g2 h tk m' nj nj' T2 B2 F2 N2 H2 hT hs hJ
    refine catch_own F2 N2 H2 hT (XB.keeps B2.stays) (topRead_of (TB.keeps B2.stays)) ex hv hn' hexc hnt hsub (fun h' oT' F' N' _ => ?_) hk hx hd (hE e)
    exact hand e g2 h' tk m' nj T2 B2 F' (fun q hq => N' q (.tail _ (.tail _ (hs q hq)))) hJ
  refine wpAny_Try_except (wpAny_mono (tried _ (by passes_own) ?_ ?_) (fun f s₁ hq => ?_) fun _ _ e => e)
  · intro e h h' tk m' nj F N hJ hx'
    refine note_own (s := { s₀ with heap := h', toks := tk }) B F N hx' hAf hk fun h2 g2 T oe oT T2 F2 N2 B2 H2 hT _ => ?_
    exact on e T oe oT _ g2 h2 tk m' nj nj T2 B2 F2 N2 H2 hT (fun _ h => h) hJ
  · intro e T oe oT c g2 h tk m' nj nj' T2 B2 F2 N2 H2 hT hs hJ
    exact note_again (s := { s₀ with heap := h, toks := tk }) N2 H2 (on e T oe oT c g2 h tk m' nj nj' T2 B2 F2 N2 H2 hT hs hJ)
  · cases f with
    | next => exact wpAny_execs_nil hq
    | _ => exact hq
end
end Mine
end T_Ex
section T_Sd
theorem Mine.linesSd : True := by
  k_with_none
  k_with "omega" => (first | (k_whole; with_reducible assumption) | (law_clear; first | with_reducible assumption | decide +kernel | ((with_reducible show List.length (_ :: _) ≤ _); exact Nat.le_of_ble_eq_true (Eq.refl true)) | ((first | refine Mine.rm2 (by with_reducible assumption) ?_ | refine Mine.rm3 (by with_reducible assumption) ?_ | refine Mine.rm1 (by with_reducible assumption) ?_ | refine Mine.bd1 (by with_reducible assumption) ?_ | refine Mine.bd3 (by with_reducible assumption) ?_ | refine Mine.bd2 (by with_reducible assumption) ?_ | refine Mine.bd4 (by with_reducible assumption) ?_ | refine Mine.bd5 (by with_reducible assumption) ?_ | refine Mine.bd6 (by with_reducible assumption) ?_ | refine Mine.bd7 (by with_reducible assumption) ?_ | refine Mine.bd8 (by with_reducible assumption) ?_); exact Eq.refl true) | ((first | refine Mine.ci1 (by with_reducible assumption) ?_ | refine Mine.ci2 (by with_reducible assumption) ?_); decide) | exact Mine.rm0 (by with_reducible assumption) | exact Mine.lp1 (by with_reducible assumption) (by with_reducible assumption) | exact Mine.lp2 (by with_reducible assumption) (by with_reducible assumption) | exact Mine.lp3 (by with_reducible assumption) | lia))
  k_with "ite" => (first | (with_reducible refine PySem.W.ite_neg (by with_reducible assumption) ?_) | (with_reducible refine PySem.W.ite_pos (by with_reducible assumption) ?_))
  k_with "ite" => (k_closed; first | (with_reducible refine PySem.W.ite_neg (by decide +kernel) ?_) | (with_reducible refine PySem.W.ite_pos (by decide +kernel) ?_))
  k_with "getAttr ref" => (k_here; k_dflt (refine' PySem.W.get_own ?hzk1 ?hzk2 ?hzk3 ?hzk4 ?hzk5 ?hzk6 ?hzk7 ?hzk8 ?hzk9 ?_; (case hzk1 => k_asm); (case hzk2 => k_asm); (case hzk3 => k_inst); (case hzk8 => k_get); (case hzk4 => k_is); (case hzk5 => k_is); (case hzk6 => k_is); (case hzk7 => k_is); (case hzk9 => k_handed); k_whole))
  k_with "eval Name" => (k_here; (first | (with_reducible show wpAny _ _ (eval (PySem.Expr.Name _ _) (envOf _ _ _ _ _)) _ _ _) | (with_reducible show wpAny _ _ (eval (PySem.Expr.Name _ _) (envOfC _ _ _ _ _)) _ _ _)); name_kind "globalImplicit"; k_dflt (first | (refine' PySem.W.nameX_K ?hzF ?hzX ?hzT ?hze ?_ ?hza ?hzb ?hzd; (case hzF => k_asm); (case hzX => k_asm); (case hzT => k_asm); (case hze => k_is); (case hza => first | kernel_rfl | rfl); (case hzb => first | kernel_rfl | rfl); (case hzd => first | kernel_rfl | decide); k_whole) | (refine' PySem.W.nameX_B ?hzF ?hzX ?hzT ?hze ?hzv ?hzn ?_ ?hza ?hzb ?hzd; (case hzF => k_asm); (case hzX => k_asm); (case hzT => k_asm); (case hze => k_is); (case hzv => boot_fast); (case hzn => decide +kernel); (case hza => first | kernel_rfl | rfl); (case hzb => first | kernel_rfl | rfl); (case hzd => first | kernel_rfl | decide); k_whole)))
  k_with "eval Name" => (k_here; (first | (with_reducible show wpAny _ _ (eval (PySem.Expr.Name _ _) (envOf _ _ _ _ _)) _ _ _) | (with_reducible show wpAny _ _ (eval (PySem.Expr.Name _ _) (envOfC _ _ _ _ _)) _ _ _)); name_kind "local"; k_dflt (refine' PySem.W.nameX_L ?hzF ?hzv ?_ ?hza ?hzb ?hzd; (case hzF => k_asm); (case hzv => exact Eq.refl (some _)); (case hza => first | kernel_rfl | rfl); (case hzb => first | kernel_rfl | rfl); (case hzd => first | kernel_rfl | decide); k_whole))
  k_with "eval Name" => (k_here; (first | (with_reducible show wpAny _ _ (eval (PySem.Expr.Name _ _) (envOf _ _ _ _ _)) _ _ _) | (with_reducible show wpAny _ _ (eval (PySem.Expr.Name _ _) (envOfC _ _ _ _ _)) _ _ _)); name_kind "cell"; k_dflt (refine' PySem.W.nameX_C ?hzN ?hzc ?hzm ?hzd ?_ ?hza ?hzb ?hze; (case hzN => k_asm); (case hzc => exact Eq.refl (some _)); (case hzm => k_mem); (case hzd => k_asm); (case hza => first | kernel_rfl | rfl); (case hzb => first | kernel_rfl | rfl); (case hze => first | kernel_rfl | rfl); k_whole))
  k_with "eval Name" => (k_here; (with_reducible show wpAny _ _ (eval (PySem.Expr.Name _ _) (compEnvC _ _ _ _)) _ _ _); k_dflt (first | (refine' PySem.W.kcf_cell ?hzN ?hzc ?hzm ?hzd ?_ ?hza ?hzb ?hze; (case hzb => kernel_rfl); (case hzN => k_asm); (case hzc => exact Eq.refl (some _)); (case hzm => k_mem); (case hzd => k_asm); (case hza => first | kernel_rfl | rfl); (case hze => first | kernel_rfl | rfl); k_whole) | (refine' PySem.W.LCgL.ld_own ?hzN ?hzm ?hzd ?hzc ?_ ?hza ?hzb ?hze; (case hzb => kernel_rfl); (case hzN => k_asm); (case hzm => k_mem); (case hzd => assumption); (case hzc => assumption); (case hza => first | kernel_rfl | rfl); (case hze => first | kernel_rfl | rfl); k_whole)))
  k_with "execs cons" => (k_here; with_reducible refine Mine.gentoks ?_; intro _)
  k_with "execs nil" => (k_here; with_reducible refine Mine.gentoks ?_; intro _)
  k_with "execs cons" => (k_here; k_fold)
  k_with "execs cons" => (k_here; with_reducible refine Mine.foldB ?hzht ?_; (case hzht => ((fail_if_success (fail_if_success (rw [Mine.deepMark]))); k_dflt (exact trivial))); intro _)
  k_with "eval Call" => (k_here; k_fold)
  k_with "eval Subscript" => (k_here; k_fold)
  k_with "eval Compare" => (k_here; k_fold)
  k_with "eval BinOp" => (k_here; k_fold)
  k_with "subscriptTail Attribute" => (k_here; k_dflt (refine PySem.W.kba_turn (value' := PySem.Expr.Name (PySem.Str.ofString "_") ⟨0, 0, 0, 0⟩) (fun _ => rfl) ?_))
  k_with "k_room" => (first | ktr_room | ((simp +zetaDelta only [depth_under_make, depth_under_kw, depth_in1, depth_deeper, depth_caller]); ktr_room))
  k_with "call ref" => (k_here; (with_reducible show wpAny _ _ (call (Value.ref 611) _ _) _ _ _); k_dflt (refine wpAny_call ?_; refine' Mine.make_new (fN := 104) (fI := 381) ?hzk1 ?hzk2 ?hzk3 ?hzk4 ?hzk5 ?hzk6 ?hzk7 ?hzk8 ?hzk9 ?_; (case hzk1 => k_in); (case hzk2 => exact ⟨_, _, _, _, by k_is, rfl⟩); (case hzk3 => k_is); (case hzk4 => k_is); (case hzk5 => k_is); (case hzk6 => exact fun _ => by kernel_rfl); (case hzk7 => k_is); (case hzk8 => k_is); (case hzk9 => (intro _ _ _ hqZ; walk1; exact hqZ)); k_enter))
  k_with "call builtin:object.__new__" => (k_here; k_dflt (refine wpAny_call ?_; refine' Mine.new_own (C := 611) ?hzk1 ?hzk2 ?hzk3 ?hzk4 ?hzk5 ?hzk6 ?hzk7 ?hzk8 ?hzk9 ?_; (case hzk1 => k_asm); (case hzk2 => k_asm); (case hzk3 => k_in); (case hzk4 => exact ⟨_, _, _, _, by k_is, rfl, rfl⟩); (case hzk5 => k_is); (case hzk6 => k_is); (case hzk7 => k_is); (case hzk8 => exact fun _ => by kernel_rfl); (case hzk9 => exact fun _ => by kernel_rfl); intro _ _ _ _ _ l1Z l2Z; (try k_lt l1Z); (try k_lt2 l2Z); (try k_sweep); (try dsimp only)))
  k_with "NewBack" => (k_here; k_dflt (refine ⟨_, News.get (by k_asm) (by k_mem), by k_in, ?_⟩; (try dsimp only); k_enter))
  k_with "call type:collections.deque" => (k_here; k_dflt (refine' Mine.call_deque ?hzk1 ?hzk2 ?_; (case hzk1 => k_asm); (case hzk2 => k_asm); k_whole; intro _ _ _ _ l1Z; (try k_lt l1Z); (try k_sweep)))
  k_with "truthy ref" => (k_here; k_dflt (refine' Mine.truthy_deque ?hzk1 ?hzk2 ?_; (case hzk1 => k_asm); (case hzk2 => k_mem); k_whole; intro _))
  k_with "call ref" => (k_here; (with_reducible show wpAny _ _ (call (Value.ref 557) _) _ _ _); k_dflt (first | (refine' Mine.read_use _ ?hzk1 ?hzk2 ?hzk3 ?hzk4 ?hzk5 ?hzkK ?hzko ?hzks ?hzk7 ?hzk8 ?hzkc ?hzkd ?hzku ?_; (case hzk1 => k_asm); (case hzk2 => k_asm); (case hzk3 => k_asm); (case hzk4 => k_asm); (case hzk5 => k_asm); (case hzkK => exact rfl); (case hzko => assumption); (case hzks => assumption); (case hzkc => assumption); (case hzk7 => assumption); (case hzk8 => assumption); (case hzkd => ktr_room); (case hzku => ktr_units); k_whole; intro t'Z _ h'Z tk'Z F'Z N'Z hs'Z; (try dsimp only)) | (refine' Mine.read_eof_use ?hzk1 ?hzk2 ?hzk3 ?hzk4 ?hzk5 ?hzkK ?hzko ?hzks ?hzk7 ?hzk8 ?hzkd ?hzku ?_; (case hzk1 => k_asm); (case hzk2 => k_asm); (case hzk3 => k_asm); (case hzk4 => k_asm); (case hzk5 => k_asm); (case hzkK => exact rfl); (case hzko => assumption); (case hzks => assumption); (case hzk7 => assumption); (case hzk8 => assumption); (case hzkd => ktr_room); (case hzku => ktr_units); k_whole; intro t'Z h'Z tk'Z F'Z N'Z hs'Z; (try dsimp only))))
  k_with "compareOp In str str" => (k_here; first | refine Mine.in_lit false (by kernel_rfl!) ?_ | refine Mine.in_lit true (by kernel_rfl!) ?_)
  k_with "LoopPost" => ((with_reducible show Mine.LoopPost _ _ _ _ Flow.brk _); dsimp only [Mine.LoopPost])
  k_with "exec If" => (with_reducible refine wpAny_If ?_)
  k_with "k_put" => (first | (with_reducible exact Mine.lex_put_state) | (with_reducible exact Mine.lex_put_token))
  k_with "leaving ref" => (k_here; k_dflt ((refine' leave_raiseS ?hzk1 ?hzk0 ?hzk2 ?hzk3 ?_; (case hzk0 => first | assumption | exact Heap.MadeExc.of (by assumption)); (case hzk1 => assumption); (case hzk2 => assumption); (case hzk3 => k_asm); k_whole; intro _ _ RS'Z R'Z U'Z; (try dsimp only at RS'Z R'Z U'Z ⊢))))
  trivial
namespace Mine
theorem drop_at {l r : List Int} {x : Int} {i : Nat} (h : l.drop i = x :: r) : l.getD ((i : Int)).toNat 0 = x ∧ i < l.length ∧ l.drop (i + 1) = r := by
  have h0 : l[i]? = some x := by
    have := congrArg List.head? h
    rw [List.head?_drop] at this
    simpa using this
  refine ⟨by rw [Int.toNat_natCast, List.getD_eq_getElem?_getD, h0]; rfl, (List.getElem?_eq_some_iff.mp h0).1, by rw [← List.drop_drop, h]; rfl⟩
theorem drop_at1 {l r : List Int} {x : Int} {i : Nat} (h : l.drop (i + 1) = x :: r) : l.getD ((i : Int) + 1).toNat 0 = x ∧ i + 1 < l.length := by
  obtain ⟨h1, h2, _⟩ := drop_at h
  exact ⟨by rw [← h1]; congr 1, h2⟩
theorem drop_no {l : List Int} {i : Nat} (h : l.drop i = []) (hi : i ≤ l.length) : i = l.length := by
  have := List.drop_eq_nil_iff.mp h
  omega
theorem drop_lt {l r : List Int} {x y : Int} {i : Nat} (hs : l.Pairwise (· < ·)) (h : l.drop i = x :: y :: r) : x < y := by
  have := hs.drop (i := i)
  rw [h] at this
  cases this with
  | cons h1 _ => exact h1 y (.head _)
theorem item_outZ {prog : Program} {w : World} {A : Around} {E : Value → Shared → Prop} {s : Shared} {value slice : PySem.Expr} {l : Addr} {vs : List Value} {ns : List Int} {k : Int} {u : Tok} {Q : Value → Shared → Prop} (hA : A.handled = none) (hl : s.heap.IsList l vs.toArray) (hi : IntsAre vs ns)
    (hout : (ns.length : Int) ≤ k) (hhi : k < 1000) (hE : ∀ h' tk e, Heap.NewExc s.heap h' e "IndexError" → E (.ref e) { s with heap := h', toks := tk })
    (hs : ∀ k, subscripted slice false (.ref l) (.int k u) = operate [.ref l, .int k u] (getItem (.ref l) (.int k u))) :
    wpAny (model prog w) A (subscriptTail value slice (.ref l) (.int k u)) Q E s :=
  item_outK hA hl (.inr (by rw [List.size_toArray, hi.length]; exact hout)) (by omega) (by omega) hE (hs _)
theorem item_outN {prog : Program} {w : World} {A : Around} {E : Value → Shared → Prop} {s : Shared} {value slice : PySem.Expr} {l : Addr} {vs : List Value} {ns : List Int} {k : Int} {u : Tok} {Q : Value → Shared → Prop} {g : Heap} {L e1 T : Addr} {oe oT : Obj} {cls : String} {fl : Value} {news : List (Addr × Obj)} (hh : A.handled = some (.ref e1)) (N : News g L s.heap ((e1, oe) :: (T, oT) :: news)) (H : Noted e1 T cls .none fl oe oT) (hl : s.heap.IsList l vs.toArray) (hi : IntsAre vs ns)
    (hout : (ns.length : Int) ≤ k) (hhi : k < 1000) (hE : ∀ h' tk e, Fresh2 s.heap h' e "IndexError" (.ref e1) → E (.ref e) { s with heap := h', toks := tk })
    (hs : ∀ k, subscripted slice false (.ref l) (.int k u) = operate [.ref l, .int k u] (getItem (.ref l) (.int k u))) :
    wpAny (model prog w) A (subscriptTail value slice (.ref l) (.int k u)) Q E s := by
  obtain ⟨ws, hd1, h1, h2⟩ := H.exc
  exact item_outH hh (N _ (.head _)).1 hd1 h2 hl (by rw [List.size_toArray, hi.length]; exact hout) (by omega) hE (hs _)
structure SS where
  i : Nat
  j : Nat
  ms : List Int
theorem fr4v {g h : Heap} {L : Addr} {a b c d : Str} {mK m₀ : Str → Option Value} {v u : Option Value} (F : Fr g L h mK) (hc : mK c = v) (hd : mK d = u) (h3 : ∀ y, y ≠ a → y ≠ b → y ≠ c → y ≠ d → mK y = m₀ y) : Fr g L h (fun y => if y = a then mK y else if y = b then mK y else if y = c then v else if y = d then u else m₀ y) := by
  have e : (fun y => if y = a then mK y else if y = b then mK y else if y = c then v else if y = d then u else m₀ y) = mK := by
    funext y
    by_cases a1 : y = a
    · rw [if_pos a1]
    by_cases a2 : y = b
    · rw [if_neg a1, if_pos a2]
    by_cases a3 : y = c
    · rw [if_neg a1, if_neg a2, if_pos a3, a3, hc]
    by_cases a4 : y = d
    · rw [if_neg a1, if_neg a2, if_neg a3, if_pos a4, a4, hd]
    · rw [if_neg a1, if_neg a2, if_neg a3, if_neg a4, h3 y a1 a2 a3 a4]
  rw [e]; exact F
inductive SInv (g : Heap) (L' : Nat) (m₀ : Str → Option Value) (s₀ : Shared) (ens ans fin : List Int) (c : SS) (s : Shared) : Prop where
  | mk {D1 D2 : Nat} {mv : List Value} {ti tj : Tok} {mK : Str → Option Value} {h : Heap} {tk e1 e2 : Nat} (_ : m₀ (Str.ofString "missing") = some (.ref D1)) (_ : m₀ (Str.ofString "unexpected") = some (.ref D2)) (_ : D1 < D2) (_ : True) (_ : s = { s₀ with heap := h, toks := tk }) (_ : Fr g L' h (fun y => if y = Str.ofString "e" then mK y else if y = Str.ofString "a" then mK y else if y = Str.ofString "i" then some (.int (c.i : Int) ti) else if y = Str.ofString "j" then some (.int (c.j : Int) tj) else m₀ y)) (_ : News g L' h [((D2 : Nat), PySem.W.listOf #[] e2), ((D1 : Nat), PySem.W.listOf mv.toArray e1)]) (_ : IntsAre mv c.ms) (_ : c.ms ++ missF (ens.drop c.i) (ans.drop c.j) = fin) (_ : okM (ens.drop c.i) (ans.drop c.j) = true) (_ : c.i ≤ ens.length) (_ : c.j ≤ ans.length) (_ : c.ms.length ≤ c.i) : SInv g L' m₀ s₀ ens ans fin c s
inductive SJ (ens ans fin : List Int) (le la L' : Nat) (m : Str → Option Value) (nj : List (Addr × Obj)) : Prop where
  | mk (D1 D2 i j : Nat) (iv jv : Int) (ti tj : Tok) (mv : List Value) (ms : List Int) (e1 e2 : Nat) (_ : (m (Str.ofString "i") = some (.int iv ti) ∧ iv = i)) (_ : (m (Str.ofString "j") = some (.int jv tj) ∧ jv = j)) (_ : m (Str.ofString "missing") = some (.ref D1)) (_ : m (Str.ofString "unexpected") = some (.ref D2)) (_ : m (Str.ofString "expected") = some (.ref le)) (_ : m (Str.ofString "actual") = some (.ref la)) (_ : nj = [((D2 : Nat), PySem.W.listOf #[] e2), ((D1 : Nat), PySem.W.listOf mv.toArray e1)]) (_ : IntsAre mv ms) (_ : ms ++ ens.drop i = fin) (_ : j = ans.length) (_ : i ≤ ens.length) (_ : ms.length ≤ i) (_ : True) (_ : D1 < D2) : SJ ens ans fin le la L' m nj
theorem fr_know {m m1 : Str → Option Value} {x : Str} {v : Option Value} (e : m x = v) (q : m1 = m) : (fun y => if y = x then v else m1 y) = m := by
  funext y
  by_cases q : y = x
  · rw [if_pos q, q, e]
  · rw [if_neg q, ‹m1 = m›]
theorem ext_any {prog : Program} {w : World} {A : Around} {E : Value → Shared → Prop} {s : Shared} {h₀ : Heap} {L D b : Addr} {m : Str → Option Value} {news : List (Addr × Obj)} {gn : Obj → List (Addr × Obj)} {its its2 : Array Value} {n n2 : Nat} {l1 l2 : List Int} {Q : Value → Shared → Prop} (F : Fr h₀ L s.heap m) (N : News h₀ L s.heap news) (hb : (b, PySem.W.listOf its2 n2) ∈ news)
    (U : UpdF D (PySem.W.listOf its n) news gn) (i1 : IntsAre its.toList l1) (i2 : IntsAre its2.toList l2) (hl : l1.length + l2.length < 1000)
    (h : ∀ h' n', Fr h₀ L h' m → News h₀ L h' (gn (PySem.W.listOf (its.toList ++ its2.toList).toArray n')) → IntsAre (its.toList ++ its2.toList) (l1 ++ l2) → Q .none { s with heap := h' }) : wpAny (model prog w) A (call (.builtin "list.extend") [.ref D, .ref b]) Q E s := by
  obtain ⟨pre, post, rfl, hg, a, c⟩ := U.split
  have z := N (D, PySem.W.listOf its n) (List.mem_append.mpr (.inr (.head _)))
  have e1 : its.size = l1.length := by rw [← i1.length]; simp
  have e2 : its2.size = l2.length := by rw [← i2.length]; simp
  have tl : Builtin.List.listTooLong (its.size + its2.size) = false := by
    unfold Builtin.List.listTooLong
    simp only [decide_eq_false_iff_not, PySem.sizeLine_eq]
    omega
  refine call_meets PySem.F.slot_list_extend ⟨_, z.1, rfl⟩ PySem.F.entry_list_extend (PySem.F.args_list_extend_2 _ _) (PySem.AutoSeq1.list_extend_list_list_0 D its n b its2 n2 (by simp [tl]) (by rw [PySem.sizeLine_eq]; omega) (by rw [PySem.sizeLine_eq]; omega)) ⟨z.1, (N _ hb).1, ?_⟩
  by_cases q : its2 = #[]
  · subst q
    refine h _ n (F.change (Heap.SameBut.update ..) z.2.1 z.2.2) (hg _ ▸ kl_turn0 (fun x => x ++ #[]) N a c (by simp) (by simp)) (i1.append i2)
  · refine h _ (n + 1) (F.change (Heap.SameBut.update ..) z.2.1 z.2.2) (hg _ ▸ kl_turn _ N a c (by apply Array.toList_inj.mp; simp) ?_) (i1.append i2)
    simp
    exact q
theorem fresh_back {fs : List Addr} {g g' h : Heap} {b : Addr} (T : KtsTurn fs g g') (hk : ∀ b o, h.get? b = some o → ¬ b ∈ ([] : List (Addr × Obj)).map (fun x => x.fst) → g.get? b = some o) (e : g'.get? b = none) : h.get? b = none := by
  cases q : h.get? b with
  | none => rfl
  | some o =>
    obtain ⟨sl, hs⟩ := T.up (hk b o q (fun z => nomatch z))
    rw [e] at hs; cases hs
theorem nil_of_ints {x : List Value} (h : IntsAre ([] ++ x) ([] ++ [])) : x = [] := by
  have := h.length
  simpa using this
theorem turn_list {fs : List Addr} {g g' : Heap} {a : Addr} {items : Array Value} (T : KtsTurn fs g g') (hl : g.IsList a items) : g'.IsList a items := by
  obtain ⟨o, ho, hc, n, hd⟩ := hl
  obtain ⟨sl, hs⟩ := T.up ho
  exact ⟨_, hs, hc, n, hd⟩
end Mine
theorem Mine.ln43 : True := by
  k_with "subscriptTail Name Name ref int" => (k_here; (with_reducible show wpAny _ _ (subscriptTail _ _ (Value.ref _) (Value.int _ _)) _ _ _); k_dflt (refine' Mine.item_outZ ?hzk0 ?hzk1 ?hzk2 ?hzk3 ?hzk4 ?_ (by intro _; with_unfolding_all rfl); (case hzk0 => exact rfl); (case hzk1 => is_list); (case hzk2 => assumption); (case hzk3 => omega); (case hzk4 => omega)); intro _ _ _ _)
  trivial
theorem Mine.ln44 : True := by
  k_with "subscriptTail Name Name ref int" => (k_here; (with_reducible show wpAny _ _ (subscriptTail _ _ (Value.ref _) (Value.int _ _)) _ _ _); k_dflt (refine' Mine.item_outN ?hzk0 ?hzkN ?hzkH ?hzk1 ?hzk2 ?hzk3 ?hzk4 ?_ (by intro _; with_unfolding_all rfl); (case hzk0 => exact rfl); (case hzkN => k_asm); (case hzkH => assumption); (case hzk1 => is_list); (case hzk2 => assumption); (case hzk3 => omega); (case hzk4 => omega)); intro _ _ _ _)
  trivial
theorem Mine.ln45 : True := by
  k_with "subscriptTail Name Slice ref ref" => (k_here; (with_reducible show wpAny _ _ (subscriptTail _ (PySem.Expr.Slice (some _) none none _) (Value.ref _) (Value.ref _)) _ _ _); k_dflt (refine' kmk_slice_ints ?hzF ?hzN ?hzl ?hzp ?hzq ?hzi ?hzm ?hzc ?_ ?hzs ?hzt ?hzz; (case hzF => k_asm); (case hzN => k_asm); (case hzl => kmk_list); (case hzp => kmk_part); (case hzq => kmk_part); (case hzi => assumption); (case hzm => exact kmk_from (by assumption) (Int.natCast_nonneg _)); (case hzc => exact List.length_drop ..); (case hzs => with_unfolding_all rfl); (case hzt => kmk_pure); (case hzz => (refine kmk_sz (by assumption) ?_; rw [PySem.sizeLine_eq]; omega)); k_whole); intro _ _ _ _ _ l1Z _ _ _; (try k_lt l1Z); (try k_sweep))
  trivial
theorem Mine.ln46 : True := by
  k_with "call builtin:list.extend" => (k_here; apply Mine.Hold.to)
  trivial
theorem Mine.ln47 : True := by
  k_with "exec While Compare cons nil" => (k_here; refine Mine.while_once ?hzhEw ?_; (case hzhEw => (first | assumption | exact kfy_passes | exact PassesOwn.looking)))
  trivial
theorem Mine.ln48 : True := by
  k_with "exec Try cons cons nil nil" => (k_here; apply Mine.Hold.to)
  trivial
namespace Mine
set_option maxHeartbeats 8000000 in
theorem sld_spec (w : World) (mg mb) (mean) (le la : Addr) (ve va : List Value) (ens ans : List Int) (hE : IntsAre ve ens) (hA : IntsAre va ans) (hok : okM ens ans = true) (hse : ens.Pairwise (· < ·)) (hsa : ans.Pairwise (· < ·)) (hl1 : ens.length < 100) (hl2 : ans.length < 100) :
    CallsD w mean mg mb 773 [.ref le, .ref la] 14 [] (fun h => h.IsList le ve.toArray ∧ h.IsList la va.toArray)
      (SldPost ens ans) := by
  w_on
  intro dp un gd cn cs a ccd cl outer A₀ base h₀ L m s Q E B F XB N TB D hk hd hu hpre hret
  have X := XB.keeps B.stays
  have T := TB.keeps B.stays
  have hfr := fr_ok B F N
  refine wpAny_call ?_
  k_dflt (refine' Mine.enterC ?k1 ?k2 ?k3 ?k4 ?k5 ?kA ?kF ?kK ?k6 ?k7 ?k8 ?k9 ?kB ?_ ?c2 ?c3 ?c4 ?c5; (case kA => exact rfl); (case kF => exact rfl); (case kK => assumption); (case k1 => k_asm); (case k2 => k_asm); (case k3 => k_asm); (case k4 => k_asm); (case k5 => k_asm); (case k6 => k_is); (case k7 => k_is); (case k8 => ktr_room); (case k9 => first | exact BindsTo.of_eq rfl | exact binds_K (by k_in) rfl (by k_is) rfl rfl rfl | fail "enter_c: the arguments"); (case kB => exact locs rfl); (case c2 => decide); (case c3 => exact rfl); (case c4 => exact rfl); (case c5 => exact rfl); k_whole)
  intro g L' h₁ hgs hkeep hLs F' N' hlt B' X' T'
  try dsimp only
  try k_fold
  try (with_reducible refine Mine.gentoks ?_; intro _)
  try (with_reducible refine Mine.foldB ?hzt ?_; (case hzt => ((fail_if_success (fail_if_success (rw [Mine.deepMark]))); k_dflt (exact trivial))); intro _)
  have D' : KtsDicts (L :: outer.filterMap (·.frame)) g := dicts_in D F N hkeep
  have hLe := stays_list (fun b o e => hkeep b o e (by intro h; cases h)) hpre.1
  have hLa := stays_list (fun b o e => hkeep b o e (by intro h; cases h)) hpre.2
  clear hpre B F X N T D
  k_with "exec While Constant cons nil" => (rename Fr _ _ _ _ => F9; apply Hold.to)
  k_steps
  refine Hold.of ?_
  refine while_mu (SInv g L' (frOf9 F9) s ens ans (missF ens ans)) (fun c => ens.length - c.i) ⟨0, 0, []⟩ ?pass ?start ?turn
  case pass => passes_own
  case start =>
    refine SInv.mk (mv := []) (mK := frOf9 F9) rfl rfl ?lt1 ?lt2 rfl (fr4v F9 rfl rfl (fun _ _ _ _ _ => rfl)) (by assumption) .nil rfl hok (Nat.zero_le _) (Nat.zero_le _) (Nat.zero_le _)
    case lt1 => assumption
    case lt2 => trivial
  case turn =>
    refine Turn.open ?_
    rintro ⟨i, j, ms⟩ s' @⟨D1, D2, mv, ti, tj, mK, h1, tk1, e1, e2, hD1, hD2, hD12, hLD, rfl, F1, N1, hms, hfin, hokc, hi, hj, hml⟩
    dsimp only [frOf9] at hD1 hD2 F1 hms hfin hokc hi hj hml ⊢
    cases hD1
    cases hD2
    clear F9
    k_steps
    refine Hold.of ?_
    refine try_hand (J := SJ ens ans (missF ens ans) le la L') (s₀ := s) (X := "IndexError") (T' := "IndexError") rfl B' XB TB (by k_is) PyProof.Rows.Boot.«IndexError» (by decide) PySem.F.isExc_IndexError PySem.F.notTuple_IndexError (by kts_sub) ?passes ?hand ?tried (by rfl) (by rfl) (by decide)
    case passes => intro e; passes_own
    case hand =>
      rintro ex g2 h2 tk2 m2 nj T2 B2 F2 N2 ⟨D1, D2, i2, j2, iv, jv, ti2, tj2, mv2, ms2, e12, e22, ⟨mi, hiv⟩, ⟨mj, hjv⟩, mm, mu, me, ma, rfl, hms2, hfin2, hj2, hi2, hml2, hLD2, hD122⟩
      have X2 := XB.keeps B2.stays
      have TT2 := TB.keeps B2.stays
      have D2' := D'.turn T2
      have hLe2 := turn_list T2 hLe
      have hLa2 := turn_list T2 hLa
      rw [← fr_know mi (fr_know mj (fr_know mm (fr_know mu (fr_know me (fr_know ma rfl)))))] at F2
      clear B' X' T' D' hLe hLa F1 N1 mi mj mm mu me ma
      subst hiv hjv
      k_steps
      refine Hold.of ?_
      dsimp only [List.cons_append, List.nil_append]
      refine' ext_any ?qF ?qN ?qb ?qU ?qi1 ?qi2 ?qz ?_
      case qF => k_asm
      case qN => k_asm
      case qb => k_mem
      case qU => k_updF
      case qi1 => exact hms2
      case qi2 => assumption
      case qz => omega
      intro h5 n5 F5 N5 I5
      dsimp only at N5
      k_steps
      refine Hold.of ?_
      dsimp only [List.cons_append, List.nil_append]
      refine' ext_any ?qF ?qN ?qb ?qU ?qi1 ?qi2 ?qz ?_
      case qF => k_asm
      case qN => k_asm
      case qb => k_mem
      case qU => k_updF
      case qi1 => exact .nil
      case qi2 => assumption
      case qz => simp only [List.length_nil]; omega
      intro h6 n6 F6 N6 I6
      dsimp only at N6
      k_steps
      rename News _ _ _ _ => N9
      have e0 : List.drop ((j2 : Int)).toNat ans = [] := by rw [hj2]; simp
      rw [e0] at I6
      obtain ⟨wsB, hwB⟩ : ∃ w, IntsAre w (List.drop ((j2 : Int)).toNat ans) ∧ True := ⟨_, by assumption, trivial⟩
      have e1 : missF ens ans = ms2 ++ List.drop ((i2 : Int)).toNat ens := by rw [← hfin2]; simp
      have ea := nil_of_ints I6
      dsimp only [List.nil_append] at ea N9
      rw [ea] at N9
      refine hret _ _ _ (keepW_of hfr hkeep T2 (by assumption)) ⟨_, D1, D2, _, _, _, rfl, fresh_back T2 hkeep (N9 _ (.head _)).2.2, fresh_back T2 hkeep (N9 _ (.tail _ (.tail _ (.tail _ (.tail _ (.head _)))))).2.2, fresh_back T2 hkeep (N9 _ (.tail _ (.tail _ (.tail _ (.head _))))).2.2, (N9 _ (.head _)).1, (N9 _ (.tail _ (.tail _ (.tail _ (.tail _ (.head _)))))).1, (N9 _ (.tail _ (.tail _ (.tail _ (.head _))))).1, by rw [e1]; exact I5⟩
    case tried =>
      intro E' hE' hF' hN'
      rcases hdi : ens.drop i with _ | ⟨e, r⟩
      · have hiN := drop_no hdi hi
        rcases hdj : ans.drop j with _ | ⟨a, q⟩
        · have hjN := drop_no hdj hj
          rw [hdi, hdj] at hfin
          k_steps
          exact hF' _ _ _ _ _ _ (by assumption) (by assumption) ⟨_, _, i, j, _, _, _, _, mv, ms, _, _, ⟨rfl, rfl⟩, ⟨rfl, rfl⟩, rfl, rfl, rfl, rfl, rfl, hms, by rw [hdi]; exact hfin, hjN, hi, hml, hLD, hD12⟩ (Fresh2.of (by assumption))
        · rw [hdi, hdj] at hokc; exact absurd hokc (by simp [okM])
      · obtain ⟨hxe, hie, hdr⟩ := drop_at hdi
        rcases hdj : ans.drop j with _ | ⟨a, q⟩
        · have hjN := drop_no hdj hj
          rw [hdi, hdj] at hfin
          k_steps
          exact hF' _ _ _ _ _ _ (by assumption) (by assumption) ⟨_, _, i, j, _, _, _, _, mv, ms, _, _, ⟨rfl, rfl⟩, ⟨rfl, rfl⟩, rfl, rfl, rfl, rfl, rfl, hms, by rw [hdi]; exact hfin, hjN, hi, hml, hLD, hD12⟩ (Fresh2.of (by assumption))
        · obtain ⟨hxa, hja, hdq⟩ := drop_at hdj
          rw [hdi, hdj] at hfin hokc
          by_cases heq : e = a
          · subst heq
            have hok2 : okM r q = true := by simpa [okM] using hokc
            have hfin2 : ms ++ missF r q = missF ens ans := by simpa [missF] using hfin
            rcases r with _ | ⟨e3, r⟩
            · rcases q with _ | ⟨a3, q⟩
              · have hiN := drop_no hdr (by omega)
                have hjN := drop_no hdq (by omega)
                k_steps
                refine note_own B' (by assumption) (by assumption) (Fresh2.of (by assumption)) rfl rfl fun h5 g5 T5 oe5 oT5 U5 F5 N5 B5 H5 ne5 K5 => ?_
                dsimp only
                refine ⟨ref_ne_byPass _, note_again N5 H5 (set_flight none F5 N5 H5 ne5 fun h6 oT6 F6 N6 H6 K6 => ?_)⟩
                have X5 := XB.keeps B5.stays
                have TT5 := TB.keeps B5.stays
                have hLe5 := turn_list U5 hLe
                have hLa5 := turn_list U5 hLa
                clear F5 N5 K5 K6
                k_steps
                refine note_own B5 (by assumption) (by assumption) (by assumption) rfl rfl fun h7 g7 T7 oe7 oT7 U7 F7 N7 B7 H7 ne7 K7 => ?_
                refine came_back F7 N7 H7 ne7 fun h8 oT8 F8 N8 H8 K8 => ?_
                exact hN' _ _ _ _ _ _ _ _ _ _ _ (U5.trans U7) B7 F8 N8 H8 ne7 (fun p hp => .tail _ (.tail _ hp)) ⟨_, _, i + 1, j + 1, _, _, _, _, mv, ms, _, _, ⟨rfl, rfl⟩, ⟨rfl, rfl⟩, rfl, rfl, rfl, rfl, rfl, hms, by rw [hdr]; exact hfin2, hjN, by omega, by omega, hLD, hD12⟩
              · exact absurd hok2 (by simp [okM])
            · obtain ⟨hx3, hi3⟩ := drop_at1 hdr
              have hlt3 := drop_lt hse hdi
              rcases q with _ | ⟨a3, q⟩
              · have hjN := drop_no hdq (by omega)
                k_steps
                · rw [hx3, hxe]; simp; omega
                refine note_own B' (by assumption) (by assumption) (Fresh2.of (by assumption)) rfl rfl fun h5 g5 T5 oe5 oT5 U5 F5 N5 B5 H5 ne5 K5 => ?_
                refine came_back F5 N5 H5 ne5 fun h6 oT6 F6 N6 H6 K6 => ?_
                exact hN' _ _ _ _ _ _ _ _ _ _ _ U5 B5 F6 N6 H6 ne5 (fun _ h => h) ⟨_, _, i + 1, j + 1, _, _, _, _, mv, ms, _, _, ⟨rfl, rfl⟩, ⟨rfl, rfl⟩, rfl, rfl, rfl, rfl, rfl, hms, by rw [hdr]; exact hfin2, hjN, by omega, by omega, hLD, hD12⟩
              · obtain ⟨hxa3, hja3⟩ := drop_at1 hdq
                have hlta3 := drop_lt hsa hdj
                k_steps
                · rw [hx3, hxe]; simp; omega
                · rw [hxa3, hxa]; simp; omega
                refine ⟨⟨i + 1, j + 1, ms⟩, by simp only []; omega, ?_⟩
                exact SInv.mk (mv := mv) rfl rfl hD12 hLD rfl (fr4v (by assumption) rfl rfl (fun y y1 y2 y3 y4 => by simp only [y1, y2, y3, y4, if_false])) (by assumption) hms (by show ms ++ missF (ens.drop (i + 1)) (ans.drop (j + 1)) = _; rw [hdr, hdq]; exact hfin2) (by show okM (ens.drop (i + 1)) (ans.drop (j + 1)) = true; rw [hdr, hdq]; exact hok2) (by show i + 1 ≤ _; omega) (by show j + 1 ≤ _; omega) (by show ms.length ≤ i + 1; omega)
          · have hok2 : e < a ∧ okM r (a :: q) = true := by
              simpa [okM, heq] using hokc
            rcases r with _ | ⟨e3, r⟩
            · exact absurd hok2.2 (by simp [okM])
            · obtain ⟨hx3, hi3⟩ := drop_at1 hdr
              have hlt3 := drop_lt hse hdi
              obtain ⟨hlt, hok3⟩ := hok2
              have hmvl : mv.length < 200 := by have := hms.length; omega
              k_with "call builtin:list.append" => (refine append_K (by k_asm) (by k_asm) (by k_upd) ?_ (by (rw [PySem.sizeLine_eq]; simp; omega)); intro h' F' N'; (try k_sweep))
              k_steps
              · rw [hx3, hxe]; simp; omega
              refine ⟨⟨i + 1, j, ms ++ [ens.getD ((i : Int)).toNat 0]⟩, by simp only []; omega, ?_⟩
              rename News _ _ _ _ => N9
              try rw [List.push_toArray] at N9
              refine SInv.mk (mv := mv ++ [_]) rfl rfl hD12 hLD rfl (fr4v (by assumption) rfl rfl (fun y y1 y2 y3 y4 => by simp only [y1, y2, y3, y4, if_false])) (by assumption) (hms.append (.cons _ _ .nil)) ?_ ?_ (by show i + 1 ≤ _; omega) (by show j ≤ _; omega) (by simp; omega)
              · rw [hxe]
                show (ms ++ [e]) ++ missF (ens.drop (i + 1)) (ans.drop j) = _
                rw [hdr, hdj, ← hfin]
                simp [missF, heq]
              · show okM (ens.drop (i + 1)) (ans.drop j) = true
                rw [hdr, hdj]; exact hok3
end Mine
end T_Sd
section T_He
theorem Mine.linesHe : True := by
  k_with_none
  k_with "omega" => (first | (k_whole; with_reducible assumption) | (law_clear; first | with_reducible assumption | decide +kernel | ((with_reducible show List.length (_ :: _) ≤ _); exact Nat.le_of_ble_eq_true (Eq.refl true)) | ((first | refine Mine.rm2 (by with_reducible assumption) ?_ | refine Mine.rm3 (by with_reducible assumption) ?_ | refine Mine.rm1 (by with_reducible assumption) ?_ | refine Mine.bd1 (by with_reducible assumption) ?_ | refine Mine.bd3 (by with_reducible assumption) ?_ | refine Mine.bd2 (by with_reducible assumption) ?_ | refine Mine.bd4 (by with_reducible assumption) ?_ | refine Mine.bd5 (by with_reducible assumption) ?_ | refine Mine.bd6 (by with_reducible assumption) ?_ | refine Mine.bd7 (by with_reducible assumption) ?_ | refine Mine.bd8 (by with_reducible assumption) ?_); exact Eq.refl true) | ((first | refine Mine.ci1 (by with_reducible assumption) ?_ | refine Mine.ci2 (by with_reducible assumption) ?_); decide) | exact Mine.rm0 (by with_reducible assumption) | exact Mine.lp1 (by with_reducible assumption) (by with_reducible assumption) | exact Mine.lp2 (by with_reducible assumption) (by with_reducible assumption) | exact Mine.lp3 (by with_reducible assumption) | lia))
  k_with "ite" => (first | (with_reducible refine PySem.W.ite_neg (by with_reducible assumption) ?_) | (with_reducible refine PySem.W.ite_pos (by with_reducible assumption) ?_))
  k_with "ite" => (k_closed; first | (with_reducible refine PySem.W.ite_neg (by decide +kernel) ?_) | (with_reducible refine PySem.W.ite_pos (by decide +kernel) ?_))
  k_with "getAttr ref" => (k_here; k_dflt (refine' PySem.W.get_own ?hzk1 ?hzk2 ?hzk3 ?hzk4 ?hzk5 ?hzk6 ?hzk7 ?hzk8 ?hzk9 ?_; (case hzk1 => k_asm); (case hzk2 => k_asm); (case hzk3 => k_inst); (case hzk8 => k_get); (case hzk4 => k_is); (case hzk5 => k_is); (case hzk6 => k_is); (case hzk7 => k_is); (case hzk9 => k_handed); k_whole))
  k_with "eval Name" => (k_here; (first | (with_reducible show wpAny _ _ (eval (PySem.Expr.Name _ _) (envOf _ _ _ _ _)) _ _ _) | (with_reducible show wpAny _ _ (eval (PySem.Expr.Name _ _) (envOfC _ _ _ _ _)) _ _ _)); name_kind "globalImplicit"; k_dflt (first | (refine' PySem.W.nameX_K ?hzF ?hzX ?hzT ?hze ?_ ?hza ?hzb ?hzd; (case hzF => k_asm); (case hzX => k_asm); (case hzT => k_asm); (case hze => k_is); (case hza => first | kernel_rfl | rfl); (case hzb => first | kernel_rfl | rfl); (case hzd => first | kernel_rfl | decide); k_whole) | (refine' PySem.W.nameX_B ?hzF ?hzX ?hzT ?hze ?hzv ?hzn ?_ ?hza ?hzb ?hzd; (case hzF => k_asm); (case hzX => k_asm); (case hzT => k_asm); (case hze => k_is); (case hzv => boot_fast); (case hzn => decide +kernel); (case hza => first | kernel_rfl | rfl); (case hzb => first | kernel_rfl | rfl); (case hzd => first | kernel_rfl | decide); k_whole)))
  k_with "eval Name" => (k_here; (first | (with_reducible show wpAny _ _ (eval (PySem.Expr.Name _ _) (envOf _ _ _ _ _)) _ _ _) | (with_reducible show wpAny _ _ (eval (PySem.Expr.Name _ _) (envOfC _ _ _ _ _)) _ _ _)); name_kind "local"; k_dflt (refine' PySem.W.nameX_L ?hzF ?hzv ?_ ?hza ?hzb ?hzd; (case hzF => k_asm); (case hzv => exact Eq.refl (some _)); (case hza => first | kernel_rfl | rfl); (case hzb => first | kernel_rfl | rfl); (case hzd => first | kernel_rfl | decide); k_whole))
  k_with "eval Name" => (k_here; (first | (with_reducible show wpAny _ _ (eval (PySem.Expr.Name _ _) (envOf _ _ _ _ _)) _ _ _) | (with_reducible show wpAny _ _ (eval (PySem.Expr.Name _ _) (envOfC _ _ _ _ _)) _ _ _)); name_kind "cell"; k_dflt (refine' PySem.W.nameX_C ?hzN ?hzc ?hzm ?hzd ?_ ?hza ?hzb ?hze; (case hzN => k_asm); (case hzc => exact Eq.refl (some _)); (case hzm => k_mem); (case hzd => k_asm); (case hza => first | kernel_rfl | rfl); (case hzb => first | kernel_rfl | rfl); (case hze => first | kernel_rfl | rfl); k_whole))
  k_with "eval Name" => (k_here; (with_reducible show wpAny _ _ (eval (PySem.Expr.Name _ _) (compEnvC _ _ _ _)) _ _ _); k_dflt (first | (refine' PySem.W.kcf_cell ?hzN ?hzc ?hzm ?hzd ?_ ?hza ?hzb ?hze; (case hzb => kernel_rfl); (case hzN => k_asm); (case hzc => exact Eq.refl (some _)); (case hzm => k_mem); (case hzd => k_asm); (case hza => first | kernel_rfl | rfl); (case hze => first | kernel_rfl | rfl); k_whole) | (refine' PySem.W.LCgL.ld_own ?hzN ?hzm ?hzd ?hzc ?_ ?hza ?hzb ?hze; (case hzb => kernel_rfl); (case hzN => k_asm); (case hzm => k_mem); (case hzd => assumption); (case hzc => assumption); (case hza => first | kernel_rfl | rfl); (case hze => first | kernel_rfl | rfl); k_whole)))
  k_with "execs cons" => (k_here; with_reducible refine Mine.gentoks ?_; intro _)
  k_with "execs nil" => (k_here; with_reducible refine Mine.gentoks ?_; intro _)
  k_with "execs cons" => (k_here; k_fold)
  k_with "execs cons" => (k_here; with_reducible refine Mine.foldB ?hzht ?_; (case hzht => ((fail_if_success (fail_if_success (rw [Mine.deepMark]))); k_dflt (exact trivial))); intro _)
  k_with "eval Call" => (k_here; k_fold)
  k_with "eval Subscript" => (k_here; k_fold)
  k_with "eval Compare" => (k_here; k_fold)
  k_with "eval BinOp" => (k_here; k_fold)
  k_with "subscriptTail Attribute" => (k_here; k_dflt (refine PySem.W.kba_turn (value' := PySem.Expr.Name (PySem.Str.ofString "_") ⟨0, 0, 0, 0⟩) (fun _ => rfl) ?_))
  k_with "k_room" => (first | ktr_room | ((simp +zetaDelta only [depth_under_make, depth_under_kw, depth_in1, depth_deeper, depth_caller]); ktr_room))
  k_with "call ref" => (k_here; (with_reducible show wpAny _ _ (call (Value.ref 611) _ _) _ _ _); k_dflt (refine wpAny_call ?_; refine' Mine.make_new (fN := 104) (fI := 381) ?hzk1 ?hzk2 ?hzk3 ?hzk4 ?hzk5 ?hzk6 ?hzk7 ?hzk8 ?hzk9 ?_; (case hzk1 => k_in); (case hzk2 => exact ⟨_, _, _, _, by k_is, rfl⟩); (case hzk3 => k_is); (case hzk4 => k_is); (case hzk5 => k_is); (case hzk6 => exact fun _ => by kernel_rfl); (case hzk7 => k_is); (case hzk8 => k_is); (case hzk9 => (intro _ _ _ hqZ; walk1; exact hqZ)); k_enter))
  k_with "call builtin:object.__new__" => (k_here; k_dflt (refine wpAny_call ?_; refine' Mine.new_own (C := 611) ?hzk1 ?hzk2 ?hzk3 ?hzk4 ?hzk5 ?hzk6 ?hzk7 ?hzk8 ?hzk9 ?_; (case hzk1 => k_asm); (case hzk2 => k_asm); (case hzk3 => k_in); (case hzk4 => exact ⟨_, _, _, _, by k_is, rfl, rfl⟩); (case hzk5 => k_is); (case hzk6 => k_is); (case hzk7 => k_is); (case hzk8 => exact fun _ => by kernel_rfl); (case hzk9 => exact fun _ => by kernel_rfl); intro _ _ _ _ _ l1Z l2Z; (try k_lt l1Z); (try k_lt2 l2Z); (try k_sweep); (try dsimp only)))
  k_with "NewBack" => (k_here; k_dflt (refine ⟨_, News.get (by k_asm) (by k_mem), by k_in, ?_⟩; (try dsimp only); k_enter))
  k_with "call type:collections.deque" => (k_here; k_dflt (refine' Mine.call_deque ?hzk1 ?hzk2 ?_; (case hzk1 => k_asm); (case hzk2 => k_asm); k_whole; intro _ _ _ _ l1Z; (try k_lt l1Z); (try k_sweep)))
  k_with "truthy ref" => (k_here; k_dflt (refine' Mine.truthy_deque ?hzk1 ?hzk2 ?_; (case hzk1 => k_asm); (case hzk2 => k_mem); k_whole; intro _))
  k_with "call ref" => (k_here; (with_reducible show wpAny _ _ (call (Value.ref 557) _) _ _ _); k_dflt (first | (refine' Mine.read_use _ ?hzk1 ?hzk2 ?hzk3 ?hzk4 ?hzk5 ?hzkK ?hzko ?hzks ?hzk7 ?hzk8 ?hzkc ?hzkd ?hzku ?_; (case hzk1 => k_asm); (case hzk2 => k_asm); (case hzk3 => k_asm); (case hzk4 => k_asm); (case hzk5 => k_asm); (case hzkK => exact rfl); (case hzko => assumption); (case hzks => assumption); (case hzkc => assumption); (case hzk7 => assumption); (case hzk8 => assumption); (case hzkd => ktr_room); (case hzku => ktr_units); k_whole; intro t'Z _ h'Z tk'Z F'Z N'Z hs'Z; (try dsimp only)) | (refine' Mine.read_eof_use ?hzk1 ?hzk2 ?hzk3 ?hzk4 ?hzk5 ?hzkK ?hzko ?hzks ?hzk7 ?hzk8 ?hzkd ?hzku ?_; (case hzk1 => k_asm); (case hzk2 => k_asm); (case hzk3 => k_asm); (case hzk4 => k_asm); (case hzk5 => k_asm); (case hzkK => exact rfl); (case hzko => assumption); (case hzks => assumption); (case hzk7 => assumption); (case hzk8 => assumption); (case hzkd => ktr_room); (case hzku => ktr_units); k_whole; intro t'Z h'Z tk'Z F'Z N'Z hs'Z; (try dsimp only))))
  k_with "compareOp In str str" => (k_here; first | refine Mine.in_lit false (by kernel_rfl!) ?_ | refine Mine.in_lit true (by kernel_rfl!) ?_)
  k_with "LoopPost" => ((with_reducible show Mine.LoopPost _ _ _ _ Flow.brk _); dsimp only [Mine.LoopPost])
  k_with "exec If" => (with_reducible refine wpAny_If ?_)
  k_with "k_put" => (first | (with_reducible exact Mine.lex_put_state) | (with_reducible exact Mine.lex_put_token))
  k_with "leaving ref" => (k_here; k_dflt ((refine' leave_raiseS ?hzk1 ?hzk0 ?hzk2 ?hzk3 ?_; (case hzk0 => first | assumption | exact Heap.MadeExc.of (by assumption)); (case hzk1 => assumption); (case hzk2 => assumption); (case hzk3 => k_asm); k_whole; intro _ _ RS'Z R'Z U'Z; (try dsimp only at RS'Z R'Z U'Z ⊢))))
  k_with "CompSrc" => (k_here; (with_reducible rename Mine.EvenMark _ _ _ => evMZ); (k_dflt ( (refine LCg.CompSrc.range (by rfl) (by k_asm) (by k_asm) (by assumption) (by first | decide | exact small_one (by l_bnd) (by l_bnd) (by l_bnd) (by l_bnd)) (by first | exact rangeSize_nat _ _ | rfl) (by first | exact Nat.le_of_ble_eq_true rfl | (rw [PySem.sizeLine_eq]; first | omega | ((have hb9Z := len_ints_list (by lay_of)); omega)) | size_fits) ?_; intro _; (refine' Mine.even_range evMZ (fun _ _ _ _ _ _ _ _ _ _ _ _ _ _ _ _ _ _ off'Z _ => ?_) ?_); (all_goals (try (simp only [LCg.Off3, and_true] at off'Z))); (all_goals (try ((show KPfMark → _); intro _))); kcf_last))))
  k_with "call ref" => (k_here; (with_reducible show wpAny _ _ (call (Value.ref 714) _) _ _ _); k_dflt ( (refine' Mine.rt_use ?hzk1 ?hzk2 ?hzk3 ?hzk4 ?hzk5 ?hzkK ?hzkC ?hzkd ?hzku ?_; (case hzk1 => k_asm); (case hzk2 => k_asm); (case hzk3 => k_asm); (case hzk4 => k_asm); (case hzk5 => k_asm); (case hzkK => exact rfl); (case hzkC => assumption); (case hzkd => ktr_room); (case hzku => ktr_units); k_whole; intro _ _ _ _ _ _ N'Z _ hl'Z hd'Z; (first | subst hd'Z | (obtain ⟨_, hv'Z⟩ := hd'Z; subst hv'Z)); (try dsimp only); (refine Mine.IsLex.open hl'Z ?_; intro _ _ hqZ; subst hqZ); dsimp only [Mine.led6] at N'Z)))
  trivial
namespace Mine
theorem item_ref0 {prog : Program} {w : World} {A : Around} {E : Value → Shared → Prop} {s : Shared} {value slice : PySem.Expr} {l : Addr} {us : Array Value} {x y : Value} {u : Tok} {Q : Value → Shared → Prop} (hl : s.heap.IsList l us) (hx : us = #[x, y]) (h : Q x s)
    (hs : ∀ i, subscripted slice false (.ref l) (.int i u) = operate [.ref l, .int i u] (getItem (.ref l) (.int i u))) :
    wpAny (model prog w) A (subscriptTail value slice (.ref l) (.int 0 u)) Q E s := by
  subst hx
  exact item_at (vs := [x, y]) (i := 0) hl rfl (by decide) h hs
theorem item_ref1 {prog : Program} {w : World} {A : Around} {E : Value → Shared → Prop} {s : Shared} {value slice : PySem.Expr} {l : Addr} {us : Array Value} {x y : Value} {u : Tok} {Q : Value → Shared → Prop} (hl : s.heap.IsList l us) (hx : us = #[x, y]) (h : Q y s)
    (hs : ∀ i, subscripted slice false (.ref l) (.int i u) = operate [.ref l, .int i u] (getItem (.ref l) (.int i u))) :
    wpAny (model prog w) A (subscriptTail value slice (.ref l) (.int 1 u)) Q E s := by
  subst hx
  exact item_at (vs := [x, y]) (i := 1) hl rfl (by decide) h hs
end Mine
theorem Mine.ln49 : True := by
  k_with "call ref" => (k_here; (with_reducible show wpAny _ _ (call (Value.ref 787) _) _ _ _); apply Mine.Hold.to)
  trivial
theorem Mine.ln50 : True := by
  k_with "call ref" => (k_here; (with_reducible show wpAny _ _ (call (Value.ref 794) _) _ _ _); apply Mine.Hold.to)
  trivial
theorem Mine.ln51 : True := by
  k_with "call ref" => (k_here; (with_reducible show wpAny _ _ (call (Value.ref 801) _) _ _ _); apply Mine.Hold.to)
  trivial
theorem Mine.ln52 : True := by
  k_with "call ref" => (k_here; (with_reducible show wpAny _ _ (call (Value.ref 813) _) _ _ _); apply Mine.Hold.to)
  trivial
theorem Mine.ln53 : True := by
  k_with "call ref" => (k_here; (with_reducible show wpAny _ _ (call (Value.ref 818) _) _ _ _); apply Mine.Hold.to)
  trivial
theorem Mine.ln54 : True := by
  k_with "compareOp NotEq ref ref" => (k_here; apply Mine.Hold.to)
  trivial
theorem Mine.ln55 : True := by
  k_with "CompSrc" => (k_here; apply Mine.Hold.to)
  trivial
theorem Mine.ln56 : True := by
  k_with "storeName" => (k_here; dsimp only)
  trivial
theorem Mine.ln57 : True := by
  k_with "newList" => (k_here; dsimp only)
  trivial
theorem Mine.ln58 : True := by
  k_with "eval List" => (k_here; dsimp only)
  trivial
theorem Mine.ln59 : True := by
  k_with "binaryOp Add ref ref" => (k_here; dsimp only)
  trivial
theorem Mine.ln60 : True := by
  k_with "subscriptTail Subscript" => (k_here; (with_reducible show wpAny _ _ (subscriptTail _ (PySem.Expr.Slice (some _) (some _) (some _) _) (Value.ref _) (Value.ref _)) _ _ _); k_dflt (refine' Mine.mid_slice ?hzF ?hzN ?hzl ?hzp ?hzq ?hze ?_ ?hzs ?hzt ?hzz; (case hzF => k_asm); (case hzN => k_asm); (case hzl => kmk_list); (case hzp => kmk_part); (case hzq => kmk_part); (case hze => kmk_part); (case hzs => with_unfolding_all rfl); (case hzt => kmk_pure); (case hzz => (simp; omega))); intro _ _ _ _ l1Z; (try k_lt l1Z); (try k_sweep))
  trivial
theorem Mine.ln61 : True := by
  k_with "subscriptTail Name Slice ref ref" => (k_here; (with_reducible show wpAny _ _ (subscriptTail _ (PySem.Expr.Slice (some _) (some _) (some _) _) (Value.ref _) (Value.ref _)) _ _ _); k_dflt (refine' Mine.mid_slice ?hzF ?hzN ?hzl ?hzp ?hzq ?hze ?_ ?hzs ?hzt ?hzz; (case hzF => k_asm); (case hzN => k_asm); (case hzl => kmk_list); (case hzp => kmk_part); (case hzq => kmk_part); (case hze => kmk_part); (case hzs => with_unfolding_all rfl); (case hzt => kmk_pure); (case hzz => (first | assumption | kmk_size))); intro _ _ _ _ l1Z; (try k_lt l1Z); (try k_sweep))
  trivial
theorem Mine.ln62 : True := by
  k_with "k_ne" => (refine neN ?_; (try dsimp only); first | exact Mine.NeH.out (by with_reducible assumption) | exact Mine.NeH.back (by with_reducible assumption))
  trivial
theorem Mine.ln63 : True := by
  k_with "subscriptTail Subscript Name Constant UnaryOp ref int" => (k_here; k_dflt (refine' Mine.item_pushed ?hzza ?hzzb ?_ ?hzzc (by intro _; with_unfolding_all rfl); (case hzzc => exact rfl); (case hzza => exact News.isList (by k_asm) (by k_mem)); (case hzzb => assumption)))
  trivial
theorem Mine.ln64 : True := by
  k_with "subscriptTail Name Constant ref int" => (k_here; (with_reducible show wpAny _ _ (subscriptTail (PySem.Expr.Name (Str.ofString "walked") _) _ (Value.ref _) (Value.int 0 _)) _ _ _); (try dsimp only); k_dflt (refine' Mine.item_ref0 ?hzza ?hzzb ?_ ?hzzc; (case hzza => exact News.isList (by k_asm) (by k_mem)); (case hzzb => exact Eq.refl #[_, _]); (case hzzc => (intro _; with_unfolding_all rfl)); k_whole))
  trivial
theorem Mine.ln65 : True := by
  k_with "subscriptTail Name Constant ref int" => (k_here; (with_reducible show wpAny _ _ (subscriptTail (PySem.Expr.Name (Str.ofString "walked") _) _ (Value.ref _) (Value.int 1 _)) _ _ _); (try dsimp only); k_dflt (refine' Mine.item_ref1 ?hzza ?hzzb ?_ ?hzzc; (case hzza => exact News.isList (by k_asm) (by k_mem)); (case hzzb => exact Eq.refl #[_, _]); (case hzzc => (intro _; with_unfolding_all rfl)); k_whole))
  trivial
theorem Mine.ln66 : True := by
  k_with "exec For Name Call cons nil" => (k_here; (with_reducible show wpAny _ _ (exec (Stmt.For (PySem.Expr.Name _ _) (PySem.Expr.Call (PySem.Expr.Name (Str.ofString "range") _) [PySem.Expr.Call (PySem.Expr.Name (Str.ofString "len") _) [PySem.Expr.Name (Str.ofString "numbers") _] _ _] _ _) _ _ _) _) _ _ _); (refine' owit_for ?_ ?hzhs; (case hzhs => (intro _; first | with_unfolding_all rfl | kernel_rfl)); k_whole))
  trivial
theorem Mine.ln67 : True := by
  k_with "pyIter ref" => ((with_reducible show wpAny _ _ (pyIter (Value.ref _)) (OwitAt _ _ _ _ _ _ _ _) _ _); refine Mine.range_open (by k_asm) (by k_asm) (by assumption) (by omega) ?_; intro _ _ _ _ _ _; apply Mine.Hold.to)
  trivial
theorem Mine.ln68 : True := by
  k_with "subscriptTail Name Name ref int" => (k_here; (with_reducible show wpAny _ _ (subscriptTail (PySem.Expr.Name (Str.ofString "digits") _) _ (Value.ref _) (Value.int _ _)) _ _ _); k_dflt (refine Mine.item_at (News.isList (by k_asm) (by k_mem)) (by assumption) (by omega) ?_ (by intro _; with_unfolding_all rfl)))
  trivial
namespace Mine
theorem drop3 {h₀ h : Heap} {L : Addr} {a b c : Addr × Obj} {r : List (Addr × Obj)} (N : News h₀ L h (a :: b :: c :: r)) : News h₀ L h r := fun p hp => N p (.tail _ (.tail _ (.tail _ hp)))
/-- the weak contract of a call that may lay generators -/
noncomputable def CallsX (w : World) (mean : ExcName → Option Value) (mg mb : Str → Option Value) (f : Addr) (args : List Value) (need : Nat) (pre : Heap → Prop) (post : Heap → Value → Heap → Prop) : Prop :=
  ∀ (dp un : Nat) (gd : Option (List Code)) (cn : Str) (cs : Scope) (a : Addr) (ccd : Value) (cl : List (Str × Addr)) (outer : List Env) (A₀ : Around) (base h₀ : Heap) (L : Addr) (m : Str → Option Value) (s : Shared) (Q E : Value → Shared → Prop),
    Below A₀ base outer h₀ → Fr h₀ L s.heap m → (Mine.hd.heap_1_1 w.params).In base → Top VW LO mean mg mb base → KtsDicts (outer.filterMap (·.frame)) h₀ → cs.kind = .function → dp + need < recursionLimit → un + 8 * need < cLine → pre s.heap →
    (∀ (v : Value) (h' : Heap) (tk' : Nat) (gn : Array GenState), KeepW [] (L :: outer.filterMap (·.frame)) s.heap h' → post s.heap v h' → (AllBare s.gens → AllBare gn) → Q v { s with heap := h', toks := tk', gens := gn }) →
    wpAny (model PR w) (ktrTop dp un gd cn cs L a ccd cl outer) (call (.ref f) args) Q E s
theorem useG {w : World} {mean : ExcName → Option Value} {mg mb : Str → Option Value} {f : Addr} {args : List Value} {need : Nat} {news : List (Addr × Obj)} {pre : Heap → Prop} {post : Heap → Value → Heap → Prop}
    {dp un : Nat} {gd : Option (List Code)} {cn : Str} {cs : Scope} {a : Addr} {ccd : Value} {cl : List (Str × Addr)} {outer : List Env} {A₀ : Around} {base h₀ : Heap} {L : Addr} {m : Str → Option Value} {s : Shared} {Q E : Value → Shared → Prop}
    (B : Below A₀ base outer h₀) (F : Fr h₀ L s.heap m) (X : (Mine.hd.heap_1_1 w.params).In h₀) (N : News h₀ L s.heap news) (T : Top VW LO mean mg mb h₀) (hk : cs.kind = .function)
    (C : CallsG w mean mg mb f args need [] pre post) (hd : dp + need < recursionLimit) (hu : un + 8 * need < cLine) (hp : pre s.heap)
    (ret : ∀ (v : Value) (h' : Heap) (tk' : Nat) (gn : Array GenState), Fr h₀ L h' m → News h₀ L h' news → (∀ (b : Addr) (o : Obj), s.heap.get? b = none → h'.get? b = some o → (b ≠ L ∧ h₀.get? b = none) ∧ ∀ p ∈ news, @Ne Nat p.1 b) → post s.heap v h' → (AllBare s.gens → AllBare gn) → Q v { s with heap := h', toks := tk', gens := gn }) :
    wpAny (model PR w) (ktrTop dp un gd cn cs L a ccd cl outer) (call (.ref f) args) Q E s := by
  refine C _ _ _ _ _ _ _ _ _ _ _ _ _ _ _ _ _ B F X (fun _ hp => nomatch hp) T hk hd hu hp fun v h' tk' gn hkeep hpost hb => ?_
  have kp : ∀ b o, s.heap.get? b = some o → h'.get? b = some o := fun b o e => hkeep b o e fun q => nomatch q
  obtain ⟨oL, es, ep, hL, hr⟩ := id F.ns
  refine ret v h' tk' gn ⟨⟨oL, es, ep, kp _ _ hL, hr⟩, fun b o e => kp b o (F.keep b o e), F.above⟩ (fun p hp => ⟨kp _ _ (N p hp).1, (N p hp).2⟩) (fun b o e1 e2 => ⟨⟨fun q => (by rw [q, hL] at e1; cases e1), ?_⟩, fun p hp q => by
    have q' : p.1 = b := q
    rw [← q', (N p hp).1] at e1; cases e1⟩) hpost hb
  cases q : h₀.get? b with
  | none => rfl
  | some o' => rw [F.keep _ _ q] at e1; cases e1
/-- a strong contract, told as the others -/
theorem useS {w : World} {mean : ExcName → Option Value} {mg mb : Str → Option Value} {f : Addr} {args : List Value} {need : Nat} {news : List (Addr × Obj)} {pre : Heap → Prop} {post : Heap → Value → Heap → Prop}
    {dp un : Nat} {gd : Option (List Code)} {cn : Str} {cs : Scope} {a : Addr} {ccd : Value} {cl : List (Str × Addr)} {outer : List Env} {A₀ : Around} {base h₀ : Heap} {L : Addr} {m : Str → Option Value} {s : Shared} {Q E : Value → Shared → Prop}
    (B : Below A₀ base outer h₀) (F : Fr h₀ L s.heap m) (X : (Mine.hd.heap_1_1 w.params).In h₀) (N : News h₀ L s.heap news) (T : Top VW LO mean mg mb h₀) (hk : cs.kind = .function)
    (C : Calls w mean mg mb f args need [] pre post) (hd : dp + need < recursionLimit) (hu : un + 8 * need < cLine) (hp : pre s.heap)
    (ret : ∀ (v : Value) (h' : Heap) (tk' : Nat), Fr h₀ L h' m → News h₀ L h' news → (∀ (b : Addr) (o : Obj), s.heap.get? b = none → h'.get? b = some o → (b ≠ L ∧ h₀.get? b = none) ∧ ∀ p ∈ news, @Ne Nat p.1 b) → post s.heap v h' → Q v { s with heap := h', toks := tk' }) :
    wpAny (model PR w) (ktrTop dp un gd cn cs L a ccd cl outer) (call (.ref f) args) Q E s := by
  refine calls_use0 B F X N T hk C hd hu hp fun v h' tk' F' N' kp hpost => ret v h' tk' F' N' (fun b o e1 e2 => ?_) hpost
  obtain ⟨oL, es, ep, hL, hr⟩ := id F.ns
  refine ⟨⟨fun q => (by rw [q, hL] at e1; cases e1), ?_⟩, fun p hp q => by
    have q' : p.1 = b := q
    rw [← q', (N p hp).1] at e1; cases e1⟩
  cases q : h₀.get? b with
  | none => rfl
  | some o' => rw [F.keep _ _ q] at e1; cases e1
theorem slen_ok {W : List Value} {lens : List Int} {q : Int} {t : Tok} {words : List Str} (hW : IntsAre W lens) (h : List.map (fun w : Str => (w.length : Int)) words = lens ++ [q]) (hl : words.length < 60) : (W ++ [Value.int q t]).toArray.size ≤ sizeLine := by
  have h1 := hW.length
  have h2 := congrArg List.length h
  simp only [List.length_map, List.length_append, List.length_cons, List.length_nil] at h2
  rw [PySem.sizeLine_eq, List.size_toArray, List.length_append]
  simp only [List.length_cons, List.length_nil]
  omega
inductive HInv (w : World) (mean : ExcName → Option Value) (mg mb : Str → Option Value) (A0 : Around) (base hh : Heap) (outer : List Env) (L' I : Nat) (m₀ : Str → Option Value) (s₀ : Shared) (led : List (Addr × Obj)) (n f : Nat) (s : Shared) : Prop where
  | mk (k : Nat) (mK : Str → Option Value) (g h : Heap) (tk : Nat) (_ : k + f = n) (_ : s = { s₀ with heap := h, toks := tk }) (_ : Gr w mean mg mb A0 base hh outer g) (_ : Fr g L' h (fun y => if y = Str.ofString "k" then mK y else m₀ y)) (_ : News g L' h (((I : Nat), ritObj (k : Int) ((n - k : Nat) : Int)) :: led)) : HInv w mean mg mb A0 base hh outer L' I m₀ s₀ led n f s
noncomputable def led9 {h₀ h : Heap} {L : Addr} {p : Addr × Obj} {led : List (Addr × Obj)} (_ : News h₀ L h (p :: led)) : List (Addr × Obj) := led
theorem fr1 {g h : Heap} {L : Addr} {a : Str} {mK m₀ : Str → Option Value} (F : Fr g L h mK) (h3 : ∀ y, y ≠ a → mK y = m₀ y) : Fr g L h (fun y => if y = a then mK y else m₀ y) := by
  have e : (fun y => if y = a then mK y else m₀ y) = mK := by
    funext y
    by_cases a1 : y = a
    · rw [if_pos a1]
    · rw [if_neg a1, h3 y a1]
  rw [e]; exact F
noncomputable def chrS (x : Int) : Str := ⟨#[(48 + x).toNat]⟩
noncomputable def writF (d : List Int) : Str := Txt.join (Str.ofString "") (d.map chrS)
theorem writ_sum {d : List Int} (h : d.length < 1000) : ((d.map chrS).map (·.length)).sum + (d.map chrS).length * (Str.ofString "").length ≤ 16777216 := by
  have e : (d.map chrS).map (·.length) = List.replicate d.length 1 := by
    rw [List.map_map]
    exact List.eq_replicate_iff.mpr ⟨by simp, fun b hb => by obtain ⟨a, _, rfl⟩ := List.mem_map.mp hb; rfl⟩
  rw [e, List.sum_replicate_nat, show (Str.ofString "").length = 0 from rfl]
  omega
theorem digits_len : ∀ (ns : List Int) (n : Int), (digitsF n ns).length = ns.length
  | [], _ => rfl
  | l :: r, n => by simp [digitsF, digits_len r]
set_option maxHeartbeats 8000000 in
theorem held_spec (w : World) (mg mb) (mean) (lr lz ldr : Addr) (vr vz vdr : List Value) (row sizes draws : List Int) (pr : Str) (tr : Tok) (hr : IntsAre vr row) (hz : IntsAre vz sizes) (hdr : IntsAre vdr draws) (hpr : pr.length = 2) (words : List Str)
    (hokr : okR row none = true) (hgrow : growF (grpS row none) 9 0 [] (Txt.item pr 1) (Txt.item pr 0) = some words) (hzp : ∀ x ∈ sizes, 0 < x ∧ x < 10) (hzl : sizes.length < 60) (hwl : words.length < 60) (hwb : ∀ x ∈ words, x.length < 1000) (lens cnts : List Int) (p q : Int) (hwk : walkF sizes [] 1 1 [] 1 0 = (lens ++ [q], cnts ++ [p])) (hpq : 0 < p ∧ p < q ∧ q < 30) (hlp : ∀ x ∈ midRev (lens ++ [q]), 0 < x ∧ x < 100) (hdg : ∀ x ∈ List.map (fun x => x.fmod (q - 1)) draws ++ [q - 2, Int.fmod 5 (q - 1), 1], ∀ d ∈ digitsF x (midRev (lens ++ [q])), 0 ≤ d ∧ d < 50) (hdue : ∀ (i k : Nat), i < (List.map (fun x => x.fmod (q - 1)) draws ++ [q - 2, Int.fmod 5 (q - 1), 1]).length → k < (List.map (fun x => x.fmod (q - 1)) draws ++ [q - 2, Int.fmod 5 (q - 1), 1]).length → collF ((List.map writF (List.map (fun x => digitsF x (midRev (lens ++ [q]))) (List.map (fun x => x.fmod (q - 1)) draws ++ [q - 2, Int.fmod 5 (q - 1), 1]))).getD i Str.empty) ((List.map writF (List.map (fun x => digitsF x (midRev (lens ++ [q]))) (List.map (fun x => x.fmod (q - 1)) draws ++ [q - 2, Int.fmod 5 (q - 1), 1]))).getD k Str.empty) = dueF ((List.map (fun x => x.fmod (q - 1)) draws ++ [q - 2, Int.fmod 5 (q - 1), 1]).getD i 0) ((List.map (fun x => x.fmod (q - 1)) draws ++ [q - 2, Int.fmod 5 (q - 1), 1]).getD k 0))
    (hlaid : ∀ x ∈ List.map (fun x => x.fmod (q - 1)) draws ++ [q - 2, Int.fmod 5 (q - 1), 1], ∀ (tn tp tq : Tok) (ld lp : Addr) (vd vp : List Value), IntsAre vd (digitsF x (midRev (lens ++ [q]))) → StrsAre vp (midRev words) → CallsD w mean mg mb 818 [.int x tn, .ref ld, .ref lp, .int p tp, .int q tq, .str pr tr] 30 [] (fun h => h.IsList ld vd.toArray ∧ h.IsList lp vp.toArray) (fun _ v _ => ∃ b, v = .bool b ∧ b = true))
    (hdl : draws.length ≤ 3) (hwl1 : words.map (fun w => (w.length : Int)) = lens ++ [q]) (hwl2 : words.map (fun w => (Txt.count w (Txt.item pr 1) : Int)) = cnts ++ [p]) :
    CallsX w mean mg mb 823 [.ref lr, .ref lz, .str pr tr, .ref ldr] 50 (fun h => h.IsList lr vr.toArray ∧ h.IsList lz vz.toArray ∧ h.IsList ldr vdr.toArray) (fun _ v _ => ∃ b, v = .bool b ∧ b = true) := by
  w_on
  intro dp un gd cn cs a ccd cl outer A₀ base h₀ L m s Q E B F XB TB D hk hd hu hpre hret
  have X := XB.keeps B.stays
  have T := TB.keeps B.stays
  have N : News h₀ L s.heap [] := fun _ hp => nomatch hp
  refine wpAny_call ?_
  k_dflt (refine' Mine.enterCellC ?k1 ?k2 ?k3 ?k4 ?k5 ?kA ?kF ?kK ?k6 ?k7 ?k8 ?k9 ?kB ?kD ?_ ?c2 ?c3 ?c4; (case kA => exact rfl); (case kF => exact rfl); (case kK => assumption); (case k1 => k_asm); (case k2 => k_asm); (case k3 => k_asm); (case k4 => k_asm); (case k5 => k_asm); (case k6 => k_is); (case k7 => k_is); (case k8 => ktr_room); (case k9 => first | exact BindsTo.of_eq rfl | exact binds_K (by k_in) rfl (by k_is) rfl rfl rfl | fail "enter_cc: the arguments"); (case kB => exact rfl); (case kD => decide +kernel); (case c2 => exact rfl); (case c3 => exact rfl); (case c4 => exact rfl); k_whole)
  intro g L' h₁ tk cells hgs hkeep hLs F' N' Y' hlt B' X' T'
  have D' := dicts_in D F N hkeep
  have hLr := stays_list (fun b o e => hkeep b o e (by intro h; cases h)) hpre.1
  have hLz := stays_list (fun b o e => hkeep b o e (by intro h; cases h)) hpre.2.1
  have hLdr := stays_list (fun b o e => hkeep b o e (by intro h; cases h)) hpre.2.2
  have K' : KeepW [] (L :: outer.filterMap (·.frame)) s.heap g := KeepW.of (fun b o e q => hkeep b o e q) (fun _ _ _ _ q => nomatch q)
  k_cells Y'
  try simp only [List.cons_append, List.nil_append] at N'
  try dsimp only
  try k_fold
  try (with_reducible refine Mine.gentoks ?_; intro _)
  try (with_reducible refine Mine.foldB ?hzt ?_; (case hzt => ((fail_if_success (fail_if_success (rw [Mine.deepMark]))); k_dflt (exact trivial))); intro _)
  clear hpre B F X N T D
  k_steps
  refine Hold.of ?_
  refine' useG ?k1 ?k2 ?k3 ?k4 ?k5 ?kK (grown_spec w mg mb mean lr vr row pr tr words hr hokr hpr hgrow) ?kd ?ku ?pre ?_
  case k1 => k_asm
  case k2 => k_asm
  case k3 => k_asm
  case k4 => k_asm
  case k5 => k_asm
  case kK => exact rfl
  case kd => ktr_room
  case ku => ktr_units
  case pre => is_list
  rintro v2 h2 tk2 gn F2 N2 fr2 ⟨Dw, vw, ew, rfl, hnW, hgW, hwv⟩ hbare
  have ne2 := (fr2 _ _ hnW hgW).2
  simp only [List.forall_mem_cons, List.not_mem_nil, false_implies, implies_true, and_true, neH] at ne2
  repeat (with_reducible rename (NeH _ _) ∧ _ => hneX; have hneY := And.left hneX; have hneZ := And.right hneX; clear hneX)
  replace N2 := news_more N2 (fr2 _ _ hnW hgW).1 hgW
  clear fr2
  dsimp only
  k_steps
  refine Hold.of ?_
  refine' useS ?k1 ?k2 ?k3 ?k4 ?k5 ?kK (walked_spec w mg mb mean lz vz sizes hz hzp hzl) ?kd ?ku ?pre ?_
  case k1 => k_asm
  case k2 => k_asm
  case k3 => k_asm
  case k4 => k_asm
  case k5 => k_asm
  case kK => exact rfl
  case kd => ktr_room
  case ku => ktr_units
  case pre => is_list
  rintro v3 h3 tk3 F3 N3 fr3 ⟨R, D1, D2, ws1, ws2, e1, e2, rfl, hnR, hn1, hn2, hgR, hg1, hg2, hi1, hi2⟩
  have ne3 := (fr3 _ _ hnR hgR).2
  have ne4 := (fr3 _ _ hn1 hg1).2
  have ne5 := (fr3 _ _ hn2 hg2).2
  simp only [List.forall_mem_cons, List.not_mem_nil, false_implies, implies_true, and_true, neH] at ne3 ne4 ne5
  repeat (with_reducible rename (NeH _ _) ∧ _ => hneX; have hneY := And.left hneX; have hneZ := And.right hneX; clear hneX)
  replace N3 := news_more (news_more (news_more N3 (fr3 _ _ hn2 hg2).1 hg2) (fr3 _ _ hn1 hg1).1 hg1) (fr3 _ _ hnR hgR).1 hgR
  clear fr3
  dsimp only
  k_steps
  refine Hold.of ?_
  have hszw : vw.size ≤ sizeLine := by
    rw [PySem.sizeLine_eq]
    have h9 : vw.size = words.length := by rw [strs_lenC hwv]; simp
    omega
  refine LCg.CompSrc.ledger (by rfl) (by k_asm) (by k_asm) (by k_mem) ?hsz ?_
  case hsz => exact hszw
  intro g'
  refine kcs_int (fun w => (w.length : Int)) hwv ?hS (fun w' tw' I' oI' C' oC' D' m' ys' h' tk' E' hk' hC' hx' F' N' off' ne' => ?turn) ?fin
  case hS => lcg_src
  case turn =>
    simp only [LCg.Off3, and_true] at off'
    have hwb1 := hwb _ hk'
    clear hk'
    k_with "call builtin:len" => (refine len_str (by omega) ?_)
    k_with "KCfEl" => (exact kcf_el rfl rfl rfl)
    k_steps
  case fin =>
    intro ys hys
    dsimp only
    k_steps
    refine Hold.of ?_
    refine LCg.CompSrc.ledger (by rfl) (by k_asm) (by k_asm) (by k_mem) ?hsz2 ?_
    case hsz2 => exact hszw
    intro g2
    refine kcs_int (fun w => (Txt.count w (Txt.item pr 1) : Int)) hwv ?hS2 (fun w' tw' I' oI' C' oC' D' m' ys' h' tk' E' hk' hC' hx' F' N' off' ne' => ?turn2) ?fin2
    case hS2 => lcg_src
    case turn2 =>
      simp only [LCg.Off3, and_true] at off'
      clear hk'
      k_with "call builtin:str.count" => (refine KXw.count rfl ?_; intro _ _)
      k_with "KCfEl" => (exact kcf_el rfl rfl rfl)
      k_steps
    case fin2 =>
      intro ys2 hys2
      dsimp only
      k_steps
      refine Hold.of ?_
      rw [hwk] at hi1 hi2
      rw [hwl1] at hys
      rw [hwl2] at hys2
      obtain ⟨W1, tq, eW1, hW1⟩ := ints_snoc hi1
      obtain ⟨W2, tp, eW2, hW2⟩ := ints_snoc hi2
      have hszW : (W1 ++ [Value.int q tq]).toArray.size ≤ sizeLine := slen_ok hW1 hwl1 hwl
      have eA1 : ws1 = (W1 ++ [Value.int q tq]).toArray := by rw [← eW1]
      have eA2 : ws2 = (W2 ++ [Value.int p tp]).toArray := by rw [← eW2]
      subst eA1 eA2
      rename News _ _ _ _ => N7
      refine ne_dataH (reads_two (N7.get (.head _)) rfl rfl (News.isList N7 (by k_mem)) hys (News.isList N7 (by k_mem)) hys2) (reads_two (N7.get (by k_mem)) rfl rfl (News.isList N7 (by k_mem)) hi1 (News.isList N7 (by k_mem)) hi2) (shaped_two _ _).1 (shaped_two _ _).1 ?room ?_
      case room => units_room
      rw [(eqv_two _ _).1]
      have N8 := drop3 N7
      clear N7
      have hWl1 : W1.length < 100 := by have e1 := hW1.length; have e2 := congrArg List.length hwl1; simp at e2; omega
      have hWl2 : W2.length < 100 := by have e1 := hW2.length; have e2 := congrArg List.length hwl2; simp at e2; omega
      clear eW1 eW2
      dsimp only
      k_steps
      refine Hold.of ?_
      refine LCg.CompSrc.base (by rfl) (by k_asm) (by k_asm) hLdr ?hsz3 ?_
      case hsz3 => rw [PySem.sizeLine_eq]; have := hdr.length; simp; omega
      intro g3
      refine kcf_list (fun x => Int.fmod x (q - 1)) hdr (fun k' t' I' oI' C' oC' D' m' ys' h' tk' E' hk' hC' hx' F' N' off' ne' hMark' => ?turn3) ?fin3
      case turn3 =>
        simp only [LCg.Off3, and_true] at off'
        k_steps
      case fin3 =>
        unfold KPfDone
        intro ys3 hys3
        dsimp only
        k_steps
        refine Hold.of ?_
        rename IntsAre _ (List.map (fun x => x.fmod (q - 1)) draws ++ [q - 2, Int.fmod 5 (q - 1), 1]) => hI4
        refine LCg.CompSrc.ledger (by rfl) (by k_asm) (by k_asm) (by k_mem) ?hsz4 ?_
        case hsz4 =>
          rw [PySem.sizeLine_eq]
          have := hI4.length
          simp at this ⊢
          omega
        have hml : (midRev (lens ++ [q])).length < 100 := by
          have e2 := congrArg List.length hwl1
          unfold midRev
          simp at e2 ⊢
          omega
        intro g4
        refine kcd_list (fun x => digitsF x (midRev (lens ++ [q]))) (by assumption) ?hS4 srcAt_ins (fun k' t' ex' I' oI' C' oC' D' m' ys' h' tk' E' hk' hC' hx' F' N' ne' => ?turn4) ?fin4
        case hS4 => lcg_src
        case turn4 =>
          simp only [List.cons_append, List.nil_append] at N' ⊢
          k_steps
          refine Hold.of ?_
          refine' useS ?k1 ?k2 ?k3 ?k4 ?k5 ?kK (digits_spec w mg mb mean k' t' _ _ _ (mid_ints hi1) hlp hml) ?kd ?ku ?pre ?_
          case k1 => k_asm
          case k2 => k_asm
          case k3 => k_asm
          case k4 => k_asm
          case k5 => k_asm
          case kK => exact rfl
          case kd => ktr_room
          case ku => ktr_units
          case pre => is_list
          rintro v4 h4 tk4 F4 N4 fr4 ⟨Dn, wsd, ed, rfl, hnD, hgD, hid⟩
          have q4 := (fr4 _ _ hnD hgD).2
          exact ⟨h4, tk4, Dn, wsd, ed, rfl, F4, rfl, fun p hp => N4 p (.tail _ hp), hgD, (fr4 _ _ hnD hgD).1, hid, Ne.symm (q4 _ (.tail _ (.head _))), Ne.symm (q4 _ (.tail _ (.tail _ (.head _)))), Ne.symm (q4 _ (.tail _ (.tail _ (.tail _ (.head _)))))⟩
        case fin4 =>
          intro ys4 ex hys4
          simp only [List.cons_append, List.nil_append]
          k_steps
          refine Hold.of ?_
          refine LCg.CompSrc.ledger (its := ys4.toArray) (by rfl) (by k_asm) (by k_asm) (by k_mem) ?hsz5 ?_
          case hsz5 =>
            rw [PySem.sizeLine_eq]
            have e1 := lists_len hys4
            have e2 := hdr.length
            simp at e1 ⊢
            omega
          intro g5
          refine kct_lists (ex := ex) writF hys4 ?hS5 (fun d' Dn' us' e' I' oI' C' oC' D' m' ys' h' tk' E' hk' hm' hd' hC' hx' F' N' off' ne' => ?turn5) ?fin5
          case hS5 => lcg_src
          case turn5 =>
            have hdb : ∀ x ∈ d', 0 ≤ x ∧ x < 50 := by
              obtain ⟨x, hx, rfl⟩ := List.mem_map.mp hk'
              exact hdg x hx
            have hdl' : d'.length < 100 := by
              obtain ⟨x, hx, rfl⟩ := List.mem_map.mp hk'
              rw [digits_len]; exact hml
            k_steps
            refine Hold.of ?_
            refine LCg.CompSrc.ledger (its := us') (by rfl) (by k_asm) (by k_asm) (by (repeat (first | exact hm' | refine List.mem_cons_of_mem _ ?_))) ?hsz6 ?_
            case hsz6 =>
              rw [PySem.sizeLine_eq]
              have := hd'.length
              simp at this
              omega
            intro g6
            refine kct_list (vs := us'.toList) chrS hd' (fun k'' t'' I'' oI'' C'' oC'' D'' m'' ys'' h'' tk'' E'' hk'' hC'' hx'' F'' N'' off'' ne'' hMark'' => ?turn6) ?fin6
            case turn6 =>
              obtain ⟨hb1, hb2⟩ := hdb _ hk''
              k_steps
              exact LCg.CompEnd.intro (by k_asm) N'' _ (fun p hp => hp) off'' (Or.inr ⟨_, by (repeat (first | exact hm' | refine List.mem_cons_of_mem _ ?_)), rfl, _, rfl⟩) (kct_el rfl rfl rfl)
            case fin6 =>
              unfold KPfDone
              intro ys6 hys6 _
              k_steps
              dsimp only [List.cons_append, List.nil_append]
              refine join_any hys6 (News.isList (by k_asm) (by k_mem)) (writ_sum (by omega)) (X := writF d') rfl ?_
              intro t6 k6
              rename News _ _ _ _ => N6
              exact LCg.CompEnd.intro (by k_asm) N6 _ (fun p hp => .tail _ hp) off' (by lcg_src) (kct_el rfl rfl rfl)
          case fin5 =>
            intro ys5 hys5
            k_steps
            refine Hold.of ?_
            have hnl : (List.map (fun x => x.fmod (q - 1)) draws ++ [q - 2, Int.fmod 5 (q - 1), 1]).length < 10 := by simp; omega
            refine' useS ?k1 ?k2 ?k3 ?k4 ?k5 ?kK (ordered_spec w mg mb mean _ _ _ _ _ _ hI4 hys5 (by simp) (by omega) hdue) ?kd ?ku ?pre ?_
            case k1 => k_asm
            case k2 => k_asm
            case k3 => k_asm
            case k4 => k_asm
            case k5 => k_asm
            case kK => exact rfl
            case kd => ktr_room
            case ku => ktr_units
            case pre => exact ⟨News.isList (by k_asm) (by k_mem), News.isList (by k_asm) (by k_mem)⟩
            rintro v5 h5 tk5 F5 N5 fr5 ⟨b5, rfl, rfl⟩
            clear fr5
            dsimp only
            have hnl3 : (List.map (fun x => x.fmod (q - 1)) draws).length < 10 := by simp; omega
            k_steps
            rename_i I h6 FI NI hlI hLI
            refine Hold.of ?_
            refine owit_start (fun _ => HInv w mean mg mb (ktrTop dp un gd cn cs L a ccd cl outer) base s.heap (envX cn cs L a ccd cl :: outer) L' I (frOf9 FI) { s with gens := gn } (led9 NI) ((List.map (fun x => x.fmod (q - 1)) draws).length + (1 + 1 + 1))) ?turn7 ((List.map (fun x => x.fmod (q - 1)) draws).length + (1 + 1 + 1)) (by omega) ?start7
            case start7 => exact ⟨0, frOf9 FI, g, _, _, Nat.zero_add _, rfl, ⟨B', X', T', D', K'⟩, fr1 FI (fun _ _ => rfl), NI⟩
            case turn7 =>
              rintro f7 s7 ⟨k, mK, g7, h7, tk7, hkf, rfl, G7, F7, N7⟩
              obtain ⟨B7, X7, T7, D7, K7⟩ := id G7
              dsimp only [frOf9, led9] at F7 N7 ⊢
              clear FI NI B' X' T' D' K'
              refine range_next F7 N7 hlI hLI rfl (by omega) ?item7 ?stop7
              case stop7 =>
                intro hi h8 F8 N8
                clear F7 N7
                dsimp only [OwitTurn]
                k_steps
                exact hret _ _ _ _ (keepW_base K7 (Fr.keep (by assumption))) ⟨_, rfl, rfl⟩ hbare
              case item7 =>
                intro hi t8 h8 tk8 F8 N8
                clear F7 N7
                dsimp only [OwitTurn]
                have hx8 : ∃ v8, ys4[k]? = some v8 := by
                  have e1 := lists_len hys4
                  simp only [List.length_map, List.length_append, List.length_cons, List.length_nil] at e1 hi
                  exact ⟨_, List.getElem?_eq_getElem (by omega)⟩
                obtain ⟨v8, hx8⟩ := hx8
                obtain ⟨d8, hd8, Dk, us8, e8, rfl, hm8, hI8⟩ := lists_get hys4 k _ hx8
                have hk8 : k < (List.map (fun x => x.fmod (q - 1)) draws ++ [q - 2, Int.fmod 5 (q - 1), 1]).length := by
                  simp only [List.length_map, List.length_append, List.length_cons, List.length_nil] at hi ⊢
                  omega
                have hg8 : (List.map (fun x => x.fmod (q - 1)) draws ++ [q - 2, Int.fmod 5 (q - 1), 1])[k]? = some ((List.map (fun x => x.fmod (q - 1)) draws ++ [q - 2, Int.fmod 5 (q - 1), 1]).getD ((k : Int)).toNat 0) := by
                  rw [Int.toNat_natCast, List.getD_eq_getElem?_getD, List.getElem?_eq_getElem hk8]; rfl
                rw [List.getElem?_map, hg8] at hd8
                k_steps
                refine Hold.of ?_
                refine' useD (hh := s.heap) ?k1 ?k2 G7 XB TB ?kK (hlaid _ (List.mem_of_getElem? hg8) _ _ _ _ _ us8.toList _ (by cases hd8; exact hI8) (mid_strs hwv)) ?kd ?ku ?pre ?_
                case k1 => k_asm
                case k2 => k_asm
                case kK => exact rfl
                case kd => ktr_room
                case ku => ktr_units
                case pre => exact ⟨News.isList (by k_asm) (by (repeat (first | exact hm8 | refine List.mem_cons_of_mem _ ?_))), News.isList (by k_asm) (by k_mem)⟩
                rintro v9 h9 tk9 g9 F9 N9 G9 KW9 fr9 ⟨b9, rfl, rfl⟩
                clear fr9 G7 B7 X7 T7 D7 K7
                obtain ⟨B7, X7, T7, D7, K7⟩ := id G9
                dsimp only
                k_steps
                exact Hold.of ⟨f7 - 1, by omega, k + 1, _, g9, _, _, by omega, rfl, G9, fr1 F9 (fun y a1 => by simp only [if_neg a1]), N9⟩
end Mine
end T_He
section T_Ck
namespace Mine
/-- a piece is read by quote as it stands -/
noncomputable def qokB (x : Str) : Bool := decide (0 < x.length ∧ x.length < 100) && (decide (finds x = some (findsB x)) && (decide (Txt.replace x (Str.ofString "'") (Str.ofString "'\"'\"'") = x) && decide ((quoteF x).length ≤ 40)))
theorem qok_of {x : Str} (h : qokB x = true) : QOk x := by
  unfold qokB at h
  simp only [Bool.and_eq_true, decide_eq_true_eq] at h
  exact ⟨h.1, h.2.1, h.2.2.1, h.2.2.2⟩
/-- what _law_laid answers of one number -/
noncomputable def lineB (line : Str) (n q : Int) (due dueR : Str) : Bool :=
  decide (line.length < 1000 ∧ okL 0 line.cps.toList = true) && (decide ((revF line).length < 1000 ∧ okL 0 (revF line).cps.toList = true) && (decide (toldF line = [due].take n.toNat) && decide (toldF (revF line) = [Txt.slice dueR (some (q - 2 - n)) none].take n.toNat)))
noncomputable def textB (pr text : Str) (p q n : Int) : Bool :=
  decide ((text.length : Int) = n) && (decide (okM (rangeKs 1 (n + 1 - 1).toNat) (secG pr text n) = true) && (decide ((secG pr text n).Pairwise (· < ·)) && (decide ((secG pr text n).length < 100) && decide (missF (rangeKs 1 (n + 1 - 1).toNat) (secG pr text n) = firG p q n))))
noncomputable def laidB (ps : List Str) (ls : List Int) (p q : Int) (pr : Str) (n : Int) : Bool :=
  decide ((((rangeKs 0 ps.length).map (lineG ps (digitsF n ls))).map (·.length)).sum ≤ 16777216) && ((digitsF n ls).all (fun d => decide (0 ≤ d ∧ d ≤ 30)) && (lineB (lineF ps (digitsF n ls)) n q (evenF p q n pr) (evenF p q (q - 2) pr) && textB pr (Txt.join (Str.ofString "") (toldF (lineF ps (digitsF n ls)))) p q n))
noncomputable def rowOf (told : List Int) (t : Nat) : List Int := told ++ [2, 1] ++ (match t with | 0 => ([0] : List Int) | 1 => [0, 5] | 2 => [] | _ => [127, 2])
noncomputable def sizesOf (told : List Int) (t : Nat) : List Int := if t < 2 then told ++ [2, 1] ++ List.replicate 8 1 else told ++ [2, 1]
noncomputable def pairOf (k : Nat) : Str := match k with | 0 => Str.ofString "ab" | 1 => Str.ofString " x" | 2 => Str.ofString "#~" | _ => Str.ofString "\\&"
noncomputable def wordsOf (told : List Int) (t k : Nat) : Option (List Str) := growF (grpS (rowOf told t) none) 9 0 [] (Txt.item (pairOf k) 1) (Txt.item (pairOf k) 0)
noncomputable def walkedOf (told : List Int) (t : Nat) : List Int × List Int := walkF (sizesOf told t) [] 1 1 [] 1 0
noncomputable def rowB (told : List Int) (t k : Nat) : Bool :=
  match wordsOf told t k with
  | none => false
  | some words => (walkedOf told t).1 == words.map (fun w => (w.length : Int)) && (walkedOf told t).2 == words.map (fun w => (Txt.count w (Txt.item (pairOf k) 1) : Int))
noncomputable def allToldAux : Nat → List (List Int)
  | 0 => [[]]
  | n + 1 => (allToldAux n).flatMap fun r => [1 :: r, 2 :: r, 3 :: r]
noncomputable def allTold : List (List Int) := allToldAux 0 ++ allToldAux 1 ++ allToldAux 2 ++ allToldAux 3
end Mine
end T_Ck
section T_Pa
namespace Mine
noncomputable abbrev tl (x : Str) : List Nat := x.cps.toList
theorem str_eq {x y : Str} (h : tl x = tl y) : x = y := by
  obtain ⟨⟨a⟩⟩ := x; obtain ⟨⟨b⟩⟩ := y
  simp [tl] at h; subst h; rfl
theorem tl_len (x : Str) : (tl x).length = x.length := by simp [tl, Str.length]
theorem tl_app (x y : Str) : tl (x ++ y) = tl x ++ tl y := by
  show (x.cps ++ y.cps).toList = _
  simp [tl]
theorem tl_empty : tl (Str.ofString "") = [] := by decide +kernel
theorem tl_join : ∀ l : List Str, tl (Txt.join (Str.ofString "") l) = l.flatMap tl := by
  intro l
  unfold Txt.join
  rw [StrLaws.glued_eq_join]
  induction l with
  | nil => rfl
  | cons x r ih =>
    cases r with
    | nil => simp [Str.join]
    | cons y r =>
      show tl (x ++ Str.ofString "" ++ Str.join (Str.ofString "") (y :: r)) = _
      rw [tl_app, tl_app, tl_empty, ih]
      simp
theorem tl_reps (c : Array Nat) : ∀ (k : Nat) (acc : Array Nat), ((List.replicate k c).foldl (· ++ ·) acc).toList = acc.toList ++ (List.replicate k c.toList).flatten
  | 0, acc => by simp
  | k + 1, acc => by
    rw [List.replicate_succ, List.foldl_cons, tl_reps c k]
    simp [List.replicate_succ]
theorem tl_mul (x : Str) (n : Int) : tl (Txt.mul x n) = (List.replicate n.toNat (tl x)).flatten := by
  unfold Txt.mul
  by_cases h1 : n < 1
  · rw [if_pos h1, show n.toNat = 0 by omega]; rfl
  · rw [if_neg h1]
    split
    · rename_i h
      simp only [Bool.or_eq_true, beq_iff_eq] at h
      rcases h with h | h
      · subst h; simp
      · have e : tl x = [] := List.eq_nil_of_length_eq_zero (by rw [tl_len]; exact h)
        rw [e]; simp
    · show ((List.replicate n.toNat x.cps).foldl (· ++ ·) #[]).toList = _
      rw [tl_reps]; rfl
theorem tl_quoted (x : Str) (b : Bool) : tl (quoted x b) = if b then 39 :: (tl x ++ [39]) else tl x := by
  unfold quoted
  cases b with
  | false => rfl
  | true =>
    rw [if_pos rfl, if_pos rfl, tl_app, tl_app]
    have e : tl (Str.ofString "'") = [39] := by decide +kernel
    rw [e]; rfl
theorem tl_rev (x : Str) : tl (revF x) = (tl x).reverse := by
  unfold revF
  refine (step_rev_list x 0).trans ?_
  apply List.ext_getElem
  · simp [tl, Str.length]
  · intro i h1 h2
    have h3 : i < x.length := by simpa using h1
    have h3' : i < x.cps.size := h3
    simp only [List.getElem_map, List.getElem_range, List.getElem_reverse, tl, Array.length_toList, Array.getElem_toList]
    rw [Array.getD, dif_pos (show x.length - 1 - i < x.cps.size by show x.cps.size - 1 - i < _; omega)]
    rfl
theorem tl_one (c : Nat) : tl (one c) = [c] := rfl
theorem tl_tok : ∀ (cs : List Nat) (st : Nat) (t : Str), okL st cs = true → tl (tokL st t cs) = tl t ++ cs.filter (fun c => decide (c ≠ 39))
  | [], 0, t, _ => by simp [tokL]
  | [], 1, t, _ => by simp [tokL]
  | [], 2, t, _ => by simp [tokL]
  | [], n + 3, t, h => by simp [okL] at h
  | c :: r, 0, t, h => by
    by_cases q : c = 39
    · simp only [okL, tokL, if_pos q] at h ⊢
      rw [tl_tok r 1 t h]; simp [q]
    · simp only [okL, tokL, if_neg q, Bool.and_eq_true] at h ⊢
      rw [tl_tok r 2 _ h.2, tl_app, tl_one]; simp [q]
  | c :: r, 1, t, h => by
    by_cases q : c = 39
    · simp only [okL, tokL, if_pos q] at h ⊢
      rw [tl_tok r 2 t h]; simp [q]
    · simp only [okL, tokL, if_neg q, Bool.and_eq_true] at h ⊢
      rw [tl_tok r 1 _ h.2, tl_app, tl_one]; simp [q]
  | c :: r, 2, t, h => by
    by_cases q : c = 39
    · simp only [okL, tokL, if_pos q] at h ⊢
      rw [tl_tok r 1 t h]; simp [q]
    · simp only [okL, tokL, if_neg q, Bool.and_eq_true] at h ⊢
      rw [tl_tok r 2 _ h.2, tl_app, tl_one]; simp [q]
  | _ :: _, n + 3, t, h => by simp [okL] at h
/-- the sign at i of a pair -/
noncomputable def itemL (c0 c1 : Nat) (i : Int) : Nat := if i = 0 ∨ i = -2 then c0 else if i = 1 ∨ i = -1 then c1 else 0
theorem tl_item {pr : Str} {c0 c1 : Nat} (h : tl pr = [c0, c1]) (i : Int) : tl (Txt.item pr i) = [itemL c0 c1 i] := by
  obtain ⟨⟨l⟩⟩ := pr
  simp only [tl] at h
  subst h
  unfold Txt.item Txt.charAt itemL
  show [_] = _
  congr 1
  show ((seqIndex? i 2).bind (fun j => (#[c0, c1] : Array Nat)[j]?)).getD 0 = _
  unfold seqIndex?
  by_cases a0 : i = 0
  · subst a0; simp
  by_cases a1 : i = 1
  · subst a1; simp
  by_cases a2 : i = -1
  · subst a2; simp
  by_cases a3 : i = -2
  · subst a3; simp
  have hn : ¬ (i = 0 ∨ i = -2) := by omega
  have hn2 : ¬ (i = 1 ∨ i = -1) := by omega
  rw [if_neg hn, if_neg hn2]
  dsimp only
  rw [if_neg]
  · rfl
  · simp only [Bool.and_eq_true, decide_eq_true_eq]
    split <;> omega
theorem flatMap_single {α : Type} (l : List α) (f : α → Nat) : l.flatMap (fun a => [f a]) = l.map f := by
  induction l with
  | nil => rfl
  | cons a r ih => simp [List.flatMap_cons, ih]
noncomputable def evL (c0 c1 : Nat) (p q : Int) (n : Nat) : List Nat := (rangeKs 1 n).map fun k => itemL c0 c1 (((k + 1) * p).fdiv q - (k * p).fdiv q)
theorem tl_even {pr : Str} {c0 c1 : Nat} (h : tl pr = [c0, c1]) (p q n : Int) : tl (evenF p q n pr) = evL c0 c1 p q n.toNat := by
  unfold evenF evL
  rw [tl_join, List.flatMap_map]
  rw [show (fun a => tl (evenG p q pr a)) = (fun k => [itemL c0 c1 (((k + 1) * p).fdiv q - (k * p).fdiv q)]) from funext fun k => tl_item h _]
  exact flatMap_single _ _
theorem evL_len (c0 c1 : Nat) (p q : Int) (n : Nat) : (evL c0 c1 p q n).length = n := by simp [evL, rangeKs_length]
theorem tl_slice {x : Str} {i : Int} (h0 : 0 ≤ i) (h2 : i ≤ x.length) : tl (Txt.slice x (some i) none) = (tl x).drop i.toNat := by
  rw [slice_from_eq h0 h2 rfl]
  show (((tl x).drop i.toNat).take _).toArray.toList = _
  simp only [List.toList_toArray]
  refine List.take_of_length_le ?_
  rw [List.length_drop, tl_len]; omega
end Mine
end T_Pa
section T_Pb
namespace Mine
noncomputable def effF (strm : Nat → Option Int) : Nat → Nat → Int → Int → Option (List Int)
  | 0, _, _, _ => none
  | f + 1, j, la, lb => match strm j with
    | none => some []
    | some k => if 0 < k ∧ k < 10 then (if k * lb + la > 7 then some [k] else (effF strm f (j + 1) lb (k * lb + la)).map (k :: ·)) else none
noncomputable def wordsW : List Int → Str → Str → List Str
  | [], a, b => [a, b]
  | k :: r, a, b => a :: wordsW r b (Txt.mul b k ++ a)
theorem grow_eff (strm : Nat → Option Int) : ∀ (f j : Nat) (W : List Str) (a b : Str) (ks : List Int), effF strm f j a.length b.length = some ks → growF strm f j W a b = some (W ++ wordsW ks a b)
  | 0, _, _, _, _, _, h => by simp [effF] at h
  | f + 1, j, W, a, b, ks, h => by
    unfold effF at h
    unfold growF
    cases hs : strm j with
    | none => rw [hs] at h; simp at h; subst h; rfl
    | some k =>
      rw [hs] at h
      dsimp only at h ⊢
      by_cases hk : 0 < k ∧ k < 10
      · rw [if_pos hk] at h ⊢
        have el : (((Txt.mul b k ++ a).length : Nat) : Int) = k * b.length + a.length := by
          rw [Str.length_append, Int.natCast_add, len_mul, if_neg (by simp; omega), Int.mul_comm]
        by_cases hl : k * (b.length : Int) + a.length > 7
        · rw [if_pos hl] at h
          have : (Txt.mul b k ++ a).length > 7 := by omega
          rw [if_pos this]
          cases h
          rfl
        · rw [if_neg hl] at h
          have : ¬ (Txt.mul b k ++ a).length > 7 := by omega
          rw [if_neg this]
          rw [← el] at h
          cases hr : effF strm f (j + 1) b.length (Txt.mul b k ++ a).length with
          | none => rw [hr] at h; simp at h
          | some r =>
            rw [hr] at h
            simp at h
            subst h
            rw [grow_eff strm f (j + 1) (W ++ [a]) b _ r hr]
            simp [wordsW]
      · rw [if_neg hk] at h; simp at h
noncomputable def wordsL : List Int → List Nat → List Nat → List (List Nat)
  | [], a, b => [a, b]
  | k :: r, a, b => a :: wordsL r b ((List.replicate k.toNat b).flatten ++ a)
theorem words_tl : ∀ (ks : List Int) (a b : Str), (wordsW ks a b).map tl = wordsL ks (tl a) (tl b)
  | [], a, b => rfl
  | k :: r, a, b => by
    simp only [wordsW, wordsL, List.map_cons]
    rw [words_tl r b _, tl_app, tl_mul]
theorem mid_map {α β : Type} (f : α → β) (l : List α) : (midRev l).map f = midRev (l.map f) := by
  simp [midRev, List.map_reverse, List.map_take, List.map_drop]
theorem range_zip {α : Type} (f : Str → Int → α) : ∀ (ps : List Str) (ds : List Int), ps.length = ds.length → (rangeKs 0 ps.length).map (fun k => f (ps.getD k.toNat Str.empty) (ds.getD k.toNat 0)) = List.zipWith f ps ds := by
  intro ps ds h
  apply List.ext_getElem
  · simp [rangeKs_length, h]
  · intro i h1 h2
    have a1 : i < ps.length := by simpa [rangeKs_length] using h1
    have a2 : i < ds.length := by omega
    simp only [rangeKs, List.getElem_map, List.getElem_range, List.getElem_zipWith, Int.zero_add, Int.toNat_natCast]
    rw [List.getD_eq_getElem?_getD, List.getD_eq_getElem?_getD, List.getElem?_eq_getElem a1, List.getElem?_eq_getElem a2]
    rfl
noncomputable def findL (k : Nat) (l : List Nat) : Bool := match k with | 0 => false | 1 => l.contains 32 | _ => true
noncomputable def quoteL (k : Nat) (l : List Nat) : List Nat := if findL k l then 39 :: (l ++ [39]) else l
noncomputable def lineL (k : Nat) (pl : List (List Nat)) (ds : List Int) : List Nat := (List.zipWith (fun l d => (List.replicate d.toNat (quoteL k l)).flatten) pl ds).flatten
theorem zip_tl {k : Nat} : ∀ (ps : List Str) (ds : List Int), (∀ w ∈ ps, findsB w = findL k (tl w)) → List.zipWith (fun w d => (List.replicate d.toNat (tl (quoteF w))).flatten) ps ds = List.zipWith (fun l d => (List.replicate d.toNat (quoteL k l)).flatten) (ps.map tl) ds
  | [], _, _ => by simp
  | _ :: _, [], _ => by simp
  | w :: r, d :: ds, h => by
    simp only [List.map_cons, List.zipWith_cons_cons]
    rw [zip_tl r ds fun x hx => h x (.tail _ hx)]
    congr 3
    show tl (quoted w (findsB w)) = _
    rw [tl_quoted, h w (.head _)]
    rfl
theorem tl_line {k : Nat} {ps : List Str} {ds : List Int} (hl : ps.length = ds.length) (h : ∀ w ∈ ps, findsB w = findL k (tl w)) : tl (lineF ps ds) = lineL k (ps.map tl) ds := by
  unfold lineF lineL
  rw [tl_join, ← zip_tl ps ds h, ← range_zip (fun w d => (List.replicate d.toNat (tl (quoteF w))).flatten) ps ds hl, List.flatMap_map, List.flatMap_def]
  congr 1
  refine List.map_congr_left fun a _ => ?_
  exact tl_mul _ _
theorem sec_fold {P : Int → Prop} [DecidablePred P] {c : Prop} [Decidable c] (hc : c) : ∀ (ks acc : List Int), List.foldl (fun l' k' => if c ∧ P k' then l' ++ [k'] else if c ∧ ¬ P k' then l' else l') acc ks = acc ++ ks.filter (fun k => decide (P k))
  | [], acc => by simp
  | k :: r, acc => by
    rw [List.foldl_cons, sec_fold hc r]
    by_cases h : P k
    · simp [hc, h]
    · simp [hc, h]
noncomputable def secL (c1 : Nat) (T : List Nat) (n : Nat) : List Int := (rangeKs 1 n).filter fun k => decide (T.getD (k - 1).toNat 0 = c1)
theorem item_eq {X : Str} {c : Nat} {i : Int} (h0 : 0 ≤ i) (h1 : i < X.length) : Txt.item X i = ⟨#[c]⟩ ↔ (tl X).getD i.toNat 0 = c := by
  unfold Txt.item Txt.charAt
  have e : seqIndex? i X.length = some i.toNat := by
    unfold seqIndex?
    have hn : ¬ i < 0 := by omega
    simp only [if_neg hn]
    rw [if_pos (by simp only [Bool.and_eq_true, decide_eq_true_eq]; omega)]
  rw [e]
  have e2 : (tl X).getD i.toNat 0 = (X.cps[i.toNat]?).getD 0 := by
    rw [List.getD_eq_getElem?_getD]; simp [tl]
  rw [e2]
  constructor
  · intro q; injection q with q; simpa using q
  · intro q; dsimp only [Option.bind_some]; rw [q]
theorem tl_sec {pr X : Str} {c0 c1 : Nat} (h : tl pr = [c0, c1]) {n : Int} (hX : (X.length : Int) = n) : secG pr X n = secL c1 (tl X) n.toNat := by
  have ep : Txt.item pr 1 = ⟨#[c1]⟩ := str_eq (tl_item h 1)
  unfold secG secL
  rw [show (n + 1 - 1).toNat = n.toNat by omega]
  rw [ep]
  refine (sec_fold (P := fun k' => Txt.item X (k' - 1) = ⟨#[c1]⟩) (c := (1 ≤ (⟨#[c1]⟩ : Str).length ∧ (⟨#[c1]⟩ : Str).length ≤ 1)) ⟨Nat.le_refl 1, Nat.le_refl 1⟩ _ []).trans ?_
  rw [List.nil_append]
  refine List.filter_congr fun k hk => ?_
  have := mem_rangeKs hk
  exact decide_eq_decide.mpr (item_eq (by omega) (by omega))
theorem range_pair (a : Int) (n : Nat) : (rangeKs a n).Pairwise (· < ·) := by
  unfold rangeKs
  rw [List.pairwise_map]
  exact List.pairwise_lt_range.imp fun h => by omega
end Mine
end T_Pb
section T_Pc
namespace Mine
noncomputable def chkN (k : Nat) (pl : List (List Nat)) (ls : List Int) (p q : Int) (c0 c1 : Nat) (n : Nat) : Bool :=
  (fun L T => decide (L.length < 1000) && (okL 0 L && (okL 0 L.reverse && (decide (L.filter (fun c => decide (c ≠ 39)) = T) && (decide (L.isEmpty = decide (n = 0)) && (decide (T.reverse = (evL c0 c1 p q (q - 2).toNat).drop ((q - 2).toNat - n)) && ((digitsF n ls).all (fun d => decide (0 ≤ d ∧ d ≤ 30)) && (okM (rangeKs 1 n) (secL c1 T n) && decide (missF (rangeKs 1 n) (secL c1 T n) = firG p q n))))))))) (lineL k pl (digitsF n ls)) (evL c0 c1 p q n)
structure RowOk (k : Nat) (ps : List Str) (ls : List Int) (p q : Int) (pr : Str) (c0 c1 : Nat) : Prop where
  pr2 : tl pr = [c0, c1]
  sg : c0 < 0x110000 ∧ c1 < 0x110000
  pq : 0 < p ∧ p < q ∧ q < 30
  len : ps.length = ls.length
  l10 : ps.length < 10
  qok : ∀ x ∈ ps, QOk x
  fnd : ∀ x ∈ ps, findsB x = findL k (tl x)
theorem getD_mem {α : Type} {l : List α} {i : Nat} (h : i < l.length) (d : α) : l.getD i d ∈ l := by
  rw [List.getD_eq_getElem?_getD, List.getElem?_eq_getElem h]
  exact List.getElem_mem h
theorem sum_join (l : List Str) : (l.map (·.length)).sum = (tl (Txt.join (Str.ofString "") l)).length := by
  rw [tl_join, List.length_flatMap]
  exact congrArg List.sum (List.map_congr_left fun x _ => (tl_len x).symm)
theorem ok_of {x : Str} (h : ∀ c ∈ tl x, c < 0x110000) : PyData.strOk x = true := by
  unfold PyData.strOk
  rw [← Array.all_toList, List.all_eq_true]
  exact fun c hc => decide_eq_true (h c hc)
theorem evL_lt {c0 c1 : Nat} (h : c0 < 0x110000 ∧ c1 < 0x110000) (p q : Int) (n : Nat) : ∀ c ∈ evL c0 c1 p q n, c < 0x110000 := by
  intro c hc
  obtain ⟨k, _, rfl⟩ := List.mem_map.mp hc
  unfold itemL
  split
  · exact h.1
  · split
    · exact h.2
    · decide
theorem told_is {x y : Str} {n : Nat} (ho : okL 0 (tl x) = true) (hf : (tl x).filter (fun c => decide (c ≠ 39)) = tl y) (hz : (tl x).isEmpty = decide (n = 0)) : toldF x = [y].take n := by
  unfold toldF
  by_cases h : tl x = []
  · rw [if_pos h]
    rw [h] at hz
    have : n = 0 := by simpa using hz
    rw [this]; rfl
  · rw [if_neg h]
    have hn : n ≠ 0 := by
      intro q
      rw [q] at hz
      exact h (List.isEmpty_iff.mp (by simpa using hz))
    obtain ⟨m, rfl⟩ := Nat.exists_eq_succ_of_ne_zero hn
    have : tokL 0 (Str.ofString "") (tl x) = y := str_eq (by rw [tl_tok _ _ _ ho, tl_empty, List.nil_append]; exact hf)
    show [tokL 0 (Str.ofString "") (tl x)] = _
    rw [this, List.take_succ_cons, List.take_nil]
theorem take_sum {y : Str} {n : Nat} (h : y.length < 1000) : (([y].take n).map (·.length)).sum + ([y].take n).length * (Str.ofString "").length ≤ 16777216 := by
  rw [show (Str.ofString "").length = 0 from rfl]
  cases n with
  | zero => simp
  | succ n => simp; omega
theorem take_tl {y : Str} {n : Nat} (h : (tl y).length = n) : tl (Txt.join (Str.ofString "") ([y].take n)) = tl y := by
  rw [tl_join]
  cases n with
  | zero => rw [List.eq_nil_of_length_eq_zero h]; rfl
  | succ n => simp
theorem take_all {y : Str} {n : Nat} (h : PyData.strOk y = true) : ([y].take n).all PyData.strOk = true := by
  cases n with
  | zero => rfl
  | succ n => simp [h]
theorem laid_use (w : World) (mg mb) (mean) {k : Nat} {ps : List Str} {ls : List Int} {p q : Int} {pr : Str} {c0 c1 : Nat} (R : RowOk k ps ls p q pr c0 c1) (n : Nat) (hn : (n : Int) ≤ q - 2) (hc : chkN k (ps.map tl) ls p q c0 c1 n = true)
    (hsp : ∀ (x : Str) (tx : Tok), x.length < 1000 → okL 0 x.cps.toList = true → CallsW w mean mg mb 758 [.str x tx] 12 [] (fun _ => True) (SplitPost x (tokL 0 (Str.ofString "") x.cps.toList)))
    (hsld : ∀ (le la : Addr) (ve va : List Value) (ens ans : List Int), IntsAre ve ens → IntsAre va ans → okM ens ans = true → ens.Pairwise (· < ·) → ans.Pairwise (· < ·) → ens.length < 100 → ans.length < 100 → CallsD w mean mg mb 773 [.ref le, .ref la] 14 [] (fun h => h.IsList le ve.toArray ∧ h.IsList la va.toArray) (SldPost ens ans))
    (tn tp tq tr : Tok) (ld lp : Addr) (vd vp : List Value) (hd : IntsAre vd (digitsF n ls)) (hp : StrsAre vp ps) :
    CallsD w mean mg mb 818 [.int n tn, .ref ld, .ref lp, .int p tp, .int q tq, .str pr tr] 30 [] (fun h => h.IsList ld vd.toArray ∧ h.IsList lp vp.toArray) (fun _ v _ => ∃ b, v = .bool b ∧ b = true) := by
  obtain ⟨hpr, hsg, hpq, hlen, hl10, hqok, hfnd⟩ := R
  unfold chkN at hc
  simp only [Bool.and_eq_true, decide_eq_true_eq] at hc
  obtain ⟨c1', c2, c3, c4, c5, c6, c7, c8, c9⟩ := hc
  have hdl : ps.length = (digitsF n ls).length := by rw [digits_len]; exact hlen
  have eL := tl_line hdl hfnd
  rw [← eL] at c1' c2 c3 c4 c5
  have eE : tl (evenF p q n pr) = evL c0 c1 p q n := tl_even hpr p q n
  have eQ : tl (evenF p q (q - 2) pr) = evL c0 c1 p q (q - 2).toNat := tl_even hpr p q (q - 2)
  have lE : (evenF p q n pr).length = n := by rw [← tl_len, eE, evL_len]
  have lQ : (evenF p q (q - 2) pr).length = (q - 2).toNat := by rw [← tl_len, eQ, evL_len]
  have eS : tl (Txt.slice (evenF p q (q - 2) pr) (some (q - 2 - n)) none) = (evL c0 c1 p q (q - 2).toNat).drop ((q - 2).toNat - n) := by
    rw [tl_slice (by omega) (by rw [lQ]; omega), eQ]
    congr 1; omega
  rw [← eE] at c4
  have htold : toldF (lineF ps (digitsF n ls)) = [evenF p q n pr].take ((n : Int)).toNat := told_is c2 c4 c5
  have hr : toldF (revF (lineF ps (digitsF n ls))) = [Txt.slice (evenF p q (q - 2) pr) (some (q - 2 - n)) none].take ((n : Int)).toNat := by
    refine told_is (by rw [tl_rev]; exact c3) ?_ (by rw [tl_rev, List.isEmpty_reverse]; exact c5)
    rw [tl_rev, List.filter_reverse, c4, eS, ← c6, eE]
  have eX : tl (Txt.join (Str.ofString "") (toldF (lineF ps (digitsF n ls)))) = evL c0 c1 p q n := by
    rw [htold, take_tl (by rw [tl_len]; exact lE), eE]
  have lX : ((Txt.join (Str.ofString "") (toldF (lineF ps (digitsF n ls)))).length : Int) = n := by rw [← tl_len, eX, evL_len]
  have eSec := tl_sec hpr lX
  rw [eX, Int.toNat_natCast] at eSec
  have er : ((n : Int) + 1 - 1).toNat = n := by omega
  refine laid_spec w mg mb mean n p q tn tp tq ld lp vd vp _ ps pr tr hd hp ⟨by omega, by omega⟩ hpq (by rw [← tl_len, hpr]; rfl) hdl hl10 (fun j j0 j1 => hqok _ (getD_mem (by omega) _)) (fun j j0 j1 => ?_) ?_ hsp ⟨by rw [← tl_len]; exact c1', c2⟩ ⟨by rw [← tl_len, tl_rev, List.length_reverse]; exact c1', by show okL 0 (tl _) = true; rw [tl_rev]; exact c3⟩
    (by rw [lQ]; omega) (take_all (ok_of (by rw [eS]; exact fun c hc => evL_lt hsg _ _ _ c (List.mem_of_mem_drop hc)))) hr (by rw [htold]; exact take_sum (by omega)) lX hsld ?_ (take_all (ok_of (by rw [eE]; exact evL_lt hsg _ _ _))) htold
  · exact decide_eq_true_eq.mp (List.all_eq_true.mp c7 _ (getD_mem (by omega) _))
  · rw [sum_join]
    have e0 : (Str.ofString "").length = 0 := rfl
    have : (tl (Txt.join (Str.ofString "") ((rangeKs 0 ps.length).map (lineG ps (digitsF n ls))))).length < 1000 := c1'
    rw [e0]; omega
  · rw [eSec, er]
    refine ⟨c8, range_pair _ _, List.Pairwise.filter _ (range_pair _ _), by rw [rangeKs_length]; omega, ?_, c9⟩
    refine Nat.lt_of_le_of_lt (List.length_filter_le _ _) ?_
    rw [rangeKs_length]; omega
end Mine
end T_Pc
section T_Pd
namespace Mine
noncomputable def walkS (ks : List Int) : List Int × List Int := walkF ks [] 1 1 [] 1 0
noncomputable def rowKs (told : List Int) (t : Nat) : Option (List Int) := effF (grpS (rowOf told t) none) 9 0 1 1
noncomputable def shapes : List (List Int) := [[2, 1, 1, 1], [2, 1], [1, 2, 1, 1], [1, 2, 1], [2, 2, 1], [3, 2], [1, 1, 2], [2, 1, 2], [3, 1, 2], [1, 2, 2], [2, 2, 2], [1, 3, 2], [2, 3], [3, 3], [1, 1, 1, 2], [2, 1, 1, 2], [3, 1, 1], [1, 2, 1, 2], [1, 3, 1], [1, 1, 3], [2, 1, 3], [3, 1, 3], [1, 2, 3], [2, 2, 3], [1, 3, 3]]
noncomputable def c0Of (k : Nat) : Nat := match k with | 0 => 97 | 1 => 32 | 2 => 35 | _ => 92
noncomputable def c1Of (k : Nat) : Nat := match k with | 0 => 98 | 1 => 120 | 2 => 126 | _ => 38
noncomputable def lexB : List Nat → List Nat → Bool
  | [], [] => false
  | [], _ :: _ => true
  | _ :: _, [] => false
  | a :: r, b :: s => decide (a < b) || (decide (a = b) && lexB r s)
noncomputable def dL (ls : List Int) (n : Nat) : List Nat := (digitsF n ls).map fun d => (48 + d).toNat
noncomputable def chkDue (ks : List Int) : Bool :=
  (fun (S : List Int × List Int) => (List.range ((S.1.getLastD 0) - 2).toNat).all fun n => lexB (dL (midRev S.1) n) (dL (midRev S.1) (n + 1))) (walkS ks)
noncomputable def chkInts (ks : List Int) : Bool :=
  (fun (S : List Int × List Int) => decide (S.1 = S.1.dropLast ++ [S.1.getLastD 0]) && (decide (S.2 = S.2.dropLast ++ [S.2.getLastD 0]) && (decide (0 < S.2.getLastD 0 ∧ S.2.getLastD 0 < S.1.getLastD 0 ∧ S.1.getLastD 0 < 30 ∧ 4 ≤ S.1.getLastD 0) && (decide ((midRev S.1).length < 10) && (midRev S.1).all fun x => decide (0 < x ∧ x < 100))))) (walkS ks)
noncomputable def chkWords (ks : List Int) (c0 c1 : Nat) : Bool :=
  (fun W => decide (W.map (fun w => (w.length : Int)) = (walkS ks).1) && (decide (W.length < 60) && W.all fun w => decide (w.length < 1000))) (wordsL ks [c1] [c0])
noncomputable def chkStr (ks : List Int) (k : Nat) : Bool :=
  (fun W => decide (W.map (fun w => (Txt.count w (Txt.item (pairOf k) 1) : Int)) = (walkS ks).2) && (midRev W).all fun x => qokB x && decide (findsB x = findL k (tl x))) (wordsW ks (Txt.item (pairOf k) 1) (Txt.item (pairOf k) 0))
noncomputable def dOk (p q : Int) (n : Nat) : Bool := (rangeKs 1 n).all fun k => (fun i => decide (i = 0 ∨ i = 1)) (((k + 1) * p).fdiv q - (k * p).fdiv q)
noncomputable def chkA (k : Nat) (pl : List (List Nat)) (ls : List Int) (p q : Int) (c0 c1 : Nat) (n : Nat) : Bool :=
  (fun L T => decide (L.length < 1000) && (okL 0 L && (okL 0 L.reverse && (decide (L.filter (fun c => decide (c ≠ 39)) = T) && (decide (L.isEmpty = decide (n = 0)) && decide (T.reverse = (evL c0 c1 p q (q - 2).toNat).drop ((q - 2).toNat - n))))))) (lineL k pl (digitsF n ls)) (evL c0 c1 p q n)
noncomputable def chkB (ls : List Int) (p q : Int) (n : Nat) : Bool :=
  (fun F => dOk p q n && ((digitsF n ls).all (fun d => decide (0 ≤ d ∧ d ≤ 30)) && (okM (rangeKs 1 n) F && decide (missF (rangeKs 1 n) F = firG p q n)))) (secL 1 (evL 0 1 p q n) n)
theorem evL_get {c0 c1 : Nat} {p q k : Int} {n : Nat} (h : 1 ≤ k ∧ k < 1 + (n : Int)) : (evL c0 c1 p q n).getD (k - 1).toNat 0 = itemL c0 c1 (((k + 1) * p).fdiv q - (k * p).fdiv q) := by
  obtain ⟨i, rfl⟩ : ∃ i : Nat, k = 1 + (i : Int) := ⟨(k - 1).toNat, by omega⟩
  have hi : i < n := by omega
  rw [show (1 + (i : Int) - 1).toNat = i by omega, List.getD_eq_getElem?_getD]
  unfold evL rangeKs
  rw [List.getElem?_map, List.getElem?_map, List.getElem?_range hi]
  rfl
theorem sec_same {c0 c1 : Nat} (hc : c0 ≠ c1) {p q : Int} {n : Nat} (h : dOk p q n = true) : secL c1 (evL c0 c1 p q n) n = secL 1 (evL 0 1 p q n) n := by
  unfold secL
  refine List.filter_congr fun k hk => ?_
  have hk' := mem_rangeKs hk
  rw [evL_get hk', evL_get hk']
  have hd := List.all_eq_true.mp h k hk
  dsimp only at hd
  rcases of_decide_eq_true hd with e | e
  · rw [e]
    exact decide_eq_decide.mpr ⟨fun z => absurd z hc, fun z => absurd z (by decide)⟩
  · rw [e]; simp [itemL]
theorem chkN_of {k : Nat} {pl : List (List Nat)} {ls : List Int} {p q : Int} {c0 c1 n : Nat} (hc : c0 ≠ c1) (ha : chkA k pl ls p q c0 c1 n = true) (hb : chkB ls p q n = true) : chkN k pl ls p q c0 c1 n = true := by
  unfold chkA at ha
  unfold chkB at hb
  unfold chkN
  dsimp only at ha hb ⊢
  simp only [Bool.and_eq_true] at ha hb ⊢
  rw [sec_same hc hb.1]
  exact ⟨ha.1, ha.2.1, ha.2.2.1, ha.2.2.2.1, ha.2.2.2.2.1, ha.2.2.2.2.2, hb.2.1, hb.2.2.1, hb.2.2.2⟩
noncomputable def chkNs (ks : List Int) (k : Nat) : Bool :=
  (fun (S : List Int × List Int) pl => (List.range (S.1.getLastD 0 - 1).toNat).all fun n => chkN k pl (midRev S.1) (S.2.getLastD 0) (S.1.getLastD 0) (c0Of k) (c1Of k) n) (walkS ks) (midRev (wordsL ks [c1Of k] [c0Of k]))
noncomputable def chkAs (ks : List Int) (k : Nat) : Bool :=
  (fun (S : List Int × List Int) pl => (List.range (S.1.getLastD 0 - 1).toNat).all fun n => chkA k pl (midRev S.1) (S.2.getLastD 0) (S.1.getLastD 0) (c0Of k) (c1Of k) n) (walkS ks) (midRev (wordsL ks [c1Of k] [c0Of k]))
noncomputable def chkBs (ks : List Int) : Bool :=
  (fun (S : List Int × List Int) => (List.range (S.1.getLastD 0 - 1).toNat).all fun n => chkB (midRev S.1) (S.2.getLastD 0) (S.1.getLastD 0) n) (walkS ks)
theorem chkNs_of {ks : List Int} {k : Nat} (hc : c0Of k ≠ c1Of k) (ha : chkAs ks k = true) (hb : chkBs ks = true) : chkNs ks k = true := by
  unfold chkAs at ha
  unfold chkBs at hb
  unfold chkNs
  dsimp only at ha hb ⊢
  rw [List.all_eq_true] at ha hb ⊢
  exact fun n hn => chkN_of hc (ha n hn) (hb n hn)
noncomputable def chkRow (told : List Int) (t : Nat) : Bool := match rowKs told t with
  | none => false
  | some ks => shapes.contains ks && (decide (walkedOf told t = walkS ks) && (okR (rowOf told t) none && ((sizesOf told t).all (fun x => decide (0 < x ∧ x < 10)) && decide ((sizesOf told t).length < 60))))
theorem rows_ok : (allTold.all fun told => (List.range 4).all fun t => chkRow told t) = true := by decide +kernel
theorem due_ok : shapes.all chkDue = true := by decide +kernel
theorem ints_ok : shapes.all chkInts = true := by decide +kernel
theorem words_ok : (shapes.all fun ks => (List.range 4).all fun k => chkWords ks (c0Of k) (c1Of k)) = true := by decide +kernel
theorem str_ok0 : (shapes.all fun ks => chkStr ks 0) = true := by decide +kernel
theorem str_ok1 : (shapes.all fun ks => chkStr ks 1) = true := by decide +kernel
theorem str_ok2 : (shapes.all fun ks => chkStr ks 2) = true := by decide +kernel
theorem str_ok3 : (shapes.all fun ks => chkStr ks 3) = true := by decide +kernel
theorem as_ok0 : (shapes.all fun ks => chkAs ks 0) = true := by decide +kernel
theorem as_ok1 : (shapes.all fun ks => chkAs ks 1) = true := by decide +kernel
theorem as_ok2 : (shapes.all fun ks => chkAs ks 2) = true := by decide +kernel
theorem as_ok3 : (shapes.all fun ks => chkAs ks 3) = true := by decide +kernel
theorem bs_ok : shapes.all chkBs = true := by decide +kernel
theorem ns_ok0 {ks : List Int} (h : ks ∈ shapes) : chkNs ks 0 = true := chkNs_of (by decide) (List.all_eq_true.mp as_ok0 ks h) (List.all_eq_true.mp bs_ok ks h)
theorem ns_ok1 {ks : List Int} (h : ks ∈ shapes) : chkNs ks 1 = true := chkNs_of (by decide) (List.all_eq_true.mp as_ok1 ks h) (List.all_eq_true.mp bs_ok ks h)
theorem ns_ok2 {ks : List Int} (h : ks ∈ shapes) : chkNs ks 2 = true := chkNs_of (by decide) (List.all_eq_true.mp as_ok2 ks h) (List.all_eq_true.mp bs_ok ks h)
theorem ns_ok3 {ks : List Int} (h : ks ∈ shapes) : chkNs ks 3 = true := chkNs_of (by decide) (List.all_eq_true.mp as_ok3 ks h) (List.all_eq_true.mp bs_ok ks h)
end Mine
end T_Pd
section T_Pe
namespace Mine
theorem lexB_lt : ∀ {a b : List Nat}, lexB a b = true → a < b
  | [], [], h => by simp [lexB] at h
  | [], _ :: _, _ => List.Lex.nil
  | _ :: _, [], h => by simp [lexB] at h
  | a :: r, b :: s, h => by
    simp only [lexB, Bool.or_eq_true, Bool.and_eq_true, decide_eq_true_eq] at h
    rcases h with h | ⟨rfl, h⟩
    · exact List.Lex.rel h
    · exact List.Lex.cons (lexB_lt h)
theorem tl_writ (d : List Int) : tl (writF d) = d.map fun x => (48 + x).toNat := by
  unfold writF
  rw [tl_join, List.flatMap_map]
  exact flatMap_single _ _
theorem mono_of {f : Nat → List Nat} {N : Nat} (h : ∀ n, n < N → f n < f (n + 1)) : ∀ (d a : Nat), a + d ≤ N → 0 < d → f a < f (a + d)
  | 0, _, _, h0 => absurd h0 (Nat.lt_irrefl 0)
  | 1, a, hd, _ => h a (by omega)
  | d + 2, a, hd, _ => List.lt_trans (mono_of h (d + 1) a (by omega) (by omega)) (h (a + (d + 1)) (by omega))
theorem coll_due {x y : Str} {a b : Int} (h1 : a < b → tl x < tl y) (h2 : b < a → tl y < tl x) (h3 : a = b → x = y) : collF x y = dueF a b := by
  unfold collF dueF
  by_cases e : a = b
  · rw [if_pos e, h3 e]; omega
  rw [if_neg e]
  by_cases l : b < a
  · rw [if_pos l]
    have q := h2 l
    have q' : ¬ tl x < tl y := fun z => List.lt_irrefl _ (List.lt_trans q z)
    rw [decide_eq_true (show y.cps.toList < x.cps.toList from q), decide_eq_false (show ¬ x.cps.toList < y.cps.toList from q')]
    rfl
  · rw [if_neg l]
    have q := h1 (by omega)
    have q' : ¬ tl y < tl x := fun z => List.lt_irrefl _ (List.lt_trans q z)
    rw [decide_eq_false (show ¬ y.cps.toList < x.cps.toList from q'), decide_eq_true (show x.cps.toList < y.cps.toList from q)]
    rfl
theorem nums_in {draws : List Int} {q : Int} (hq : 4 ≤ q) : ∀ x ∈ List.map (fun x => x.fmod (q - 1)) draws ++ [q - 2, Int.fmod 5 (q - 1), 1], ∃ n : Nat, x = (n : Int) ∧ n < (q - 1).toNat := by
  intro x hx
  have key : 0 ≤ x ∧ x < q - 1 := by
    simp only [List.mem_append, List.mem_map, List.mem_cons, List.not_mem_nil, or_false] at hx
    rcases hx with ⟨a, _, rfl⟩ | rfl | rfl | rfl
    · exact ⟨Int.fmod_nonneg_of_pos _ (by omega), Int.fmod_lt_of_pos _ (by omega)⟩
    · omega
    · exact ⟨Int.fmod_nonneg_of_pos _ (by omega), Int.fmod_lt_of_pos _ (by omega)⟩
    · omega
  exact ⟨x.toNat, by omega, by omega⟩
theorem pair_tl {k : Nat} (h : k < 4) : tl (pairOf k) = [c0Of k, c1Of k] := by
  match k, h with
  | 0, _ => decide +kernel
  | 1, _ => decide +kernel
  | 2, _ => decide +kernel
  | 3, _ => decide +kernel
theorem pair_sg (k : Nat) : c0Of k < 0x110000 ∧ c1Of k < 0x110000 := by
  unfold c0Of c1Of
  constructor <;> split <;> decide
theorem str_ok {ks : List Int} {k : Nat} (hk : k < 4) (h : ks ∈ shapes) : chkStr ks k = true := by
  match k, hk with
  | 0, _ => exact List.all_eq_true.mp str_ok0 ks h
  | 1, _ => exact List.all_eq_true.mp str_ok1 ks h
  | 2, _ => exact List.all_eq_true.mp str_ok2 ks h
  | 3, _ => exact List.all_eq_true.mp str_ok3 ks h
theorem ns_ok {ks : List Int} {k : Nat} (hk : k < 4) (h : ks ∈ shapes) : chkNs ks k = true := by
  match k, hk with
  | 0, _ => exact ns_ok0 h
  | 1, _ => exact ns_ok1 h
  | 2, _ => exact ns_ok2 h
  | 3, _ => exact ns_ok3 h
theorem mid_mem {α : Type} {l : List α} {x : α} (h : x ∈ midRev l) : x ∈ l := List.mem_of_mem_drop (List.mem_of_mem_take (List.mem_reverse.mp h))
theorem mid_len {α : Type} (l : List α) : (midRev l).length = min (l.length - 2) (l.length - 1) := by simp [midRev]
theorem held_use (w : World) (mg mb) (mean)
    (hsp : ∀ (x : Str) (tx : Tok), x.length < 1000 → okL 0 x.cps.toList = true → CallsW w mean mg mb 758 [.str x tx] 12 [] (fun _ => True) (SplitPost x (tokL 0 (Str.ofString "") x.cps.toList)))
    (hsld : ∀ (le la : Addr) (ve va : List Value) (ens ans : List Int), IntsAre ve ens → IntsAre va ans → okM ens ans = true → ens.Pairwise (· < ·) → ans.Pairwise (· < ·) → ens.length < 100 → ans.length < 100 → CallsD w mean mg mb 773 [.ref le, .ref la] 14 [] (fun h => h.IsList le ve.toArray ∧ h.IsList la va.toArray) (SldPost ens ans))
    (told : List Int) (htold : told ∈ allTold) (t k : Nat) (ht : t < 4) (hk : k < 4) (lr lz ldr : Addr) (vr vz vdr : List Value) (draws : List Int) (hdl : draws.length ≤ 3) (tr : Tok) (hr : IntsAre vr (rowOf told t)) (hz : IntsAre vz (sizesOf told t)) (hdr : IntsAre vdr draws) :
    CallsX w mean mg mb 823 [.ref lr, .ref lz, .str (pairOf k) tr, .ref ldr] 50 (fun h => h.IsList lr vr.toArray ∧ h.IsList lz vz.toArray ∧ h.IsList ldr vdr.toArray) (fun _ v _ => ∃ b, v = .bool b ∧ b = true) := by
  have hrow : chkRow told t = true := List.all_eq_true.mp (List.all_eq_true.mp rows_ok told htold) t (List.mem_range.mpr ht)
  unfold chkRow at hrow
  cases hks : rowKs told t with
  | none => rw [hks] at hrow; simp at hrow
  | some ks =>
    rw [hks] at hrow
    simp only [Bool.and_eq_true, decide_eq_true_eq, List.all_eq_true, List.contains_iff_mem] at hrow
    obtain ⟨hsh, hwk, hokr, hzp, hzl⟩ := hrow
    have hdue := List.all_eq_true.mp due_ok ks hsh
    have hint := List.all_eq_true.mp ints_ok ks hsh
    have hwrd := List.all_eq_true.mp (List.all_eq_true.mp words_ok ks hsh) k (List.mem_range.mpr hk)
    have hstr := str_ok hk hsh
    have hns := ns_ok hk hsh
    unfold chkDue at hdue
    unfold chkInts at hint
    unfold chkWords at hwrd
    unfold chkStr at hstr
    unfold chkNs at hns
    unfold walkedOf at hwk
    generalize hS : walkS ks = S at *
    obtain ⟨S1, S2⟩ := S
    dsimp only at hdue hint hwrd hstr hns
    generalize hq : S1.getLastD 0 = q at *
    generalize hp : S2.getLastD 0 = p at *
    simp only [Bool.and_eq_true, decide_eq_true_eq, List.all_eq_true, List.mem_range] at hdue hint hwrd hstr hns
    obtain ⟨i1, i2, i3, i4, i5⟩ := hint
    obtain ⟨w1, w2, w3⟩ := hwrd
    obtain ⟨s1, s2⟩ := hstr
    have hpt := pair_tl hk
    have eW : (wordsW ks (Txt.item (pairOf k) 1) (Txt.item (pairOf k) 0)).map tl = wordsL ks [c1Of k] [c0Of k] := by
      rw [words_tl, tl_item hpt, tl_item hpt]; rfl
    generalize hWd : wordsW ks (Txt.item (pairOf k) 1) (Txt.item (pairOf k) 0) = words at *
    have hgrow : growF (grpS (rowOf told t) none) 9 0 [] (Txt.item (pairOf k) 1) (Txt.item (pairOf k) 0) = some words := by
      rw [grow_eff _ 9 0 [] _ _ ks (by
        have l1 : (Txt.item (pairOf k) 1).length = 1 := rfl
        have l0 : (Txt.item (pairOf k) 0).length = 1 := rfl
        rw [l1, l0]; exact hks), List.nil_append, hWd]
    have eLen : words.map (fun w => (w.length : Int)) = S1 := by
      rw [← w1, ← eW, List.map_map]
      exact List.map_congr_left fun x _ => by show ((x.length : Nat) : Int) = ((tl x).length : Nat); rw [tl_len]
    have lW : words.length = (wordsL ks [c1Of k] [c0Of k]).length := by rw [← eW, List.length_map]
    have hS1 : S1.length = words.length := by rw [← eLen, List.length_map]
    have hnums := @nums_in draws q i3.2.2.2
    have hR : RowOk k (midRev words) (midRev S1) p q (pairOf k) (c0Of k) (c1Of k) := ⟨hpt, pair_sg k, ⟨i3.1, i3.2.1, i3.2.2.1⟩, by rw [mid_len, mid_len, hS1], by rw [mid_len, ← hS1, ← mid_len]; exact i4, fun x hx => qok_of (s2 x hx).1, fun x hx => (s2 x hx).2⟩
    have eP : (midRev words).map tl = midRev (wordsL ks [c1Of k] [c0Of k]) := by rw [mid_map, eW]
    have hchk : ∀ n, n < (q - 1).toNat → chkN k ((midRev words).map tl) (midRev S1) p q (c0Of k) (c1Of k) n = true := fun n hn => by rw [eP]; exact hns n hn
    have hmono : ∀ (d a : Nat), a + d ≤ (q - 2).toNat → 0 < d → dL (midRev S1) a < dL (midRev S1) (a + d) := mono_of fun n hn => lexB_lt (hdue n hn)
    have hdig : ∀ n, n < (q - 1).toNat → ∀ d ∈ digitsF (n : Int) (midRev S1), 0 ≤ d ∧ d < 50 := fun n hn d hd => by
      have := hchk n hn
      unfold chkN at this
      simp only [Bool.and_eq_true, decide_eq_true_eq, List.all_eq_true] at this
      have z := this.2.2.2.2.2.2.1 d hd
      omega
    refine held_spec w mg mb mean lr lz ldr vr vz vdr (rowOf told t) (sizesOf told t) draws (pairOf k) tr hr hz hdr (by rw [← tl_len, hpt]; rfl) words hokr hgrow hzp hzl (by rw [lW]; exact w2) (fun x hx => ?_) S1.dropLast S2.dropLast p q (by rw [← i1, ← i2]; exact hwk) ⟨i3.1, i3.2.1, i3.2.2.1⟩ ?_ ?_ ?_ ?_ hdl (by rw [← i1]; exact eLen) (by rw [← i2]; exact s1)
    · rw [← tl_len]
      exact w3 (tl x) (by rw [← eW]; exact List.mem_map_of_mem hx)
    · rw [← i1]; exact i5
    · rw [← i1]
      intro x hx
      obtain ⟨n, rfl, hn⟩ := hnums x hx
      exact hdig n hn
    · rw [← i1]
      intro i j hi hj
      have ex : ∀ m, m < (List.map (fun x => x.fmod (q - 1)) draws ++ [q - 2, Int.fmod 5 (q - 1), 1]).length → (List.map writF (List.map (fun x => digitsF x (midRev S1)) (List.map (fun x => x.fmod (q - 1)) draws ++ [q - 2, Int.fmod 5 (q - 1), 1]))).getD m Str.empty = writF (digitsF ((List.map (fun x => x.fmod (q - 1)) draws ++ [q - 2, Int.fmod 5 (q - 1), 1]).getD m 0) (midRev S1)) := fun m hm => by
        rw [List.getD_eq_getElem?_getD, List.getD_eq_getElem?_getD, List.getElem?_map, List.getElem?_map, List.getElem?_eq_getElem hm]; rfl
      rw [ex i hi, ex j hj]
      obtain ⟨a, ea, ha⟩ := hnums _ (getD_mem hi 0)
      obtain ⟨b, eb, hb⟩ := hnums _ (getD_mem hj 0)
      rw [ea, eb]
      refine coll_due (fun h => ?_) (fun h => ?_) (fun h => by rw [h])
      · rw [tl_writ, tl_writ]
        have := hmono (b - a) a (by omega) (by omega)
        rw [show a + (b - a) = b by omega] at this
        exact this
      · rw [tl_writ, tl_writ]
        have := hmono (a - b) b (by omega) (by omega)
        rw [show b + (a - b) = a by omega] at this
        exact this
    · rw [← i1]
      intro x hx tn tp tq ld lp vd vp hd hpv
      obtain ⟨n, rfl, hn⟩ := hnums x hx
      exact laid_use w mg mb mean hR n (by omega) (hchk n hn) hsp hsld tn tp tq tr ld lp vd vp hd hpv
end Mine
end T_Pe
section T_Po
namespace Mine
theorem post_ok (ns : List Int) : Challenge.rw_oy0366_01.row.claim.post [ofPy (PyData.list (List.map PyData.int ns))] (.bool true) [ofPy (PyData.list (List.map PyData.int ns))] = true := by wrow_post
end Mine
end T_Po
section T_Lx
namespace Mine
theorem told_in : ∀ ns : List Int, List.map (fun k' => 1 + Int.fmod k' 3) (List.take 3 ns) ∈ allTold := by
  have key : ∀ x : Int, 1 + Int.fmod x 3 = 1 ∨ 1 + Int.fmod x 3 = 2 ∨ 1 + Int.fmod x 3 = 3 := fun x => by
    have h1 := Int.fmod_nonneg_of_pos x (b := 3) (by decide)
    have h2 := Int.fmod_lt_of_pos x (b := 3) (by decide)
    omega
  intro ns
  match ns with
  | [] => decide
  | [a] =>
    show [1 + Int.fmod a 3] ∈ allTold
    rcases key a with h | h | h <;> (rw [h]; decide)
  | [a, b] =>
    show [1 + Int.fmod a 3, 1 + Int.fmod b 3] ∈ allTold
    rcases key a with h | h | h <;> rcases key b with h2 | h2 | h2 <;> (rw [h, h2]; decide)
  | a :: b :: c :: r =>
    show [1 + Int.fmod a 3, 1 + Int.fmod b 3, 1 + Int.fmod c 3] ∈ allTold
    rcases key a with h | h | h <;> rcases key b with h2 | h2 | h2 <;> rcases key c with h3 | h3 | h3 <;> (rw [h, h2, h3]; decide)
theorem draws_len (ns : List Int) : (List.map (fun k' => Int.fdiv k' 3) (List.take 3 ns)).length ≤ 3 := by
  rw [List.length_map, List.length_take]
  exact Nat.min_le_left _ _
theorem law_good {c : ClaimW} {cl : Str → Option Addr} {mean : ExcName → Option Value} {args : List WData} {s₁ s : Shared} {h' : Heap} {tk' : Nat} {gn : Array GenState} {v : Value} (hr : ∀ cls, c.raises args cls = false) (hp : c.post args (.bool true) args = true) (F : ∀ b o, s₁.heap.get? b = some o → s.heap.get? b = some o)
    (KW : KeepW [] [s₁.heap.objs.size] s.heap h') (hv : ∃ b, v = .bool b ∧ b = true) (hg : s₁.gens = #[]) (hb : AllBare s.gens → AllBare gn) (hs : s.gens = s₁.gens) (ho : s.os = s₁.os) : GoodWG c cl mean args s₁ (.ok (.ret v)) { s with heap := h', toks := tk', gens := gn } := by
  obtain ⟨b, rfl, rfl⟩ := hv
  exact ⟨.inl ⟨_, _, [], rfl, hr, ReadsW.bool true, hp, fun _ => ⟨List.nodup_nil, fun _ hm => (nomatch hm)⟩⟩, OldK.of_keep fun b o e => KW.1 b o (F b o e) (fun q => nomatch q) fun q => by
    have q' : b = s₁.heap.objs.size := List.mem_singleton.mp q
    exact absurd (Heap.lt_size e) (by rw [q']; exact Nat.lt_irrefl _), ho, hb (by rw [hs]; exact .of_eq hg)⟩
noncomputable def toldF3 (ns : List Int) : List Int := List.map (fun k' => 1 + Int.fmod k' 3) (List.take 3 ns)
theorem law_fin (w : World) (mg mb) {mean : ExcName → Option Value} {s₁ s : Shared} {cn : Str} {cs : Scope} {a : Addr} {ccd : Value} {m : Str → Option Value} {news : List (Addr × Obj)} {E : Value → Shared → Prop} {cl : Str → Option Addr} {ns : List Int}
    (T : Top VW LO mean mg mb s₁.heap) (KX : (Mine.hd.heap_1_1 w.params).In s₁.heap) (F : Fr s₁.heap s₁.heap.objs.size s.heap m) (N : News s₁.heap s₁.heap.objs.size s.heap news) (hk : cs.kind = .function) (hg : s₁.gens = #[]) (hs : s.gens = s₁.gens) (ho : s.os = s₁.os)
    (hsp : ∀ (x : Str) (tx : Tok), x.length < 1000 → okL 0 x.cps.toList = true → CallsW w mean mg mb 758 [.str x tx] 12 [] (fun _ => True) (SplitPost x (tokL 0 (Str.ofString "") x.cps.toList)))
    (t k : Nat) (ht : t < 4) (hk4 : k < 4) {lr lz ldr : Addr} {vr vz vdr : List Value} {tr : Tok} {er ez ed : Nat} (hr : IntsAre vr (rowOf (toldF3 ns) t)) (hz : IntsAre vz (sizesOf (toldF3 ns) t)) (hdr : IntsAre vdr (List.map (fun k' => Int.fdiv k' 3) (List.take 3 ns)))
    (mr : (lr, PySem.W.listOf vr.toArray er) ∈ news) (mz : (lz, PySem.W.listOf vz.toArray ez) ∈ news) (md : (ldr, PySem.W.listOf vdr.toArray ed) ∈ news) :
    wpAny (model PR w) (callerA.deeper (envOf cn cs s₁.heap.objs.size a ccd)) (call (.ref 823) [.ref lr, .ref lz, .str (pairOf k) tr, .ref ldr])
      (fun v s' => GoodWG Challenge.rw_oy0366_01.row.claim cl mean [ofPy (PyData.list (List.map PyData.int ns))] s₁ (.ok (.ret v)) s') E s := by
  have hsld : ∀ (le la : Addr) (ve va : List Value) (ens ans : List Int), IntsAre ve ens → IntsAre va ans → okM ens ans = true → ens.Pairwise (· < ·) → ans.Pairwise (· < ·) → ens.length < 100 → ans.length < 100 → CallsD w mean mg mb 773 [.ref le, .ref la] 14 [] (fun h => h.IsList le ve.toArray ∧ h.IsList la va.toArray) (SldPost ens ans) := fun le la ve va ens ans h1 h2 h3 h4 h5 h6 h7 => sld_spec w mg mb _ le la ve va ens ans h1 h2 h3 h4 h5 h6 h7
  have C := held_use w mg mb mean hsp hsld (toldF3 ns) (told_in ns) t k ht hk4 lr lz ldr vr vz vdr _ (draws_len ns) tr hr hz hdr
  refine C (callerA.depth + 1) (callerA.units + 3) callerA.guards cn cs a ccd [] [] callerA s₁.heap s₁.heap s₁.heap.objs.size m s _ E (below_caller s₁.heap) F KX T ktsDicts_nil hk (by decide) (by decide) ⟨News.isList N mr, News.isList N mz, News.isList N md⟩ (fun v h' tk' gn KW hv hb => ?_)
  exact law_good (fun _ => rfl) (post_ok ns) F.keep KW hv hg hb hs ho
end Mine
end T_Lx
section T_Lw2
theorem Mine.linesLw2 : True := by
  k_with_none
  k_with "omega" => (first | (k_whole; with_reducible assumption) | (law_clear; first | with_reducible assumption | decide +kernel | ((with_reducible show List.length (_ :: _) ≤ _); exact Nat.le_of_ble_eq_true (Eq.refl true)) | ((first | refine Mine.rm2 (by with_reducible assumption) ?_ | refine Mine.rm3 (by with_reducible assumption) ?_ | refine Mine.rm1 (by with_reducible assumption) ?_ | refine Mine.bd1 (by with_reducible assumption) ?_ | refine Mine.bd3 (by with_reducible assumption) ?_ | refine Mine.bd2 (by with_reducible assumption) ?_ | refine Mine.bd4 (by with_reducible assumption) ?_ | refine Mine.bd5 (by with_reducible assumption) ?_ | refine Mine.bd6 (by with_reducible assumption) ?_ | refine Mine.bd7 (by with_reducible assumption) ?_ | refine Mine.bd8 (by with_reducible assumption) ?_); exact Eq.refl true) | ((first | refine Mine.ci1 (by with_reducible assumption) ?_ | refine Mine.ci2 (by with_reducible assumption) ?_); decide) | exact Mine.rm0 (by with_reducible assumption) | exact Mine.lp1 (by with_reducible assumption) (by with_reducible assumption) | exact Mine.lp2 (by with_reducible assumption) (by with_reducible assumption) | exact Mine.lp3 (by with_reducible assumption) | lia))
  k_with "ite" => (first | (with_reducible refine PySem.W.ite_neg (by with_reducible assumption) ?_) | (with_reducible refine PySem.W.ite_pos (by with_reducible assumption) ?_))
  k_with "ite" => (k_closed; first | (with_reducible refine PySem.W.ite_neg (by decide +kernel) ?_) | (with_reducible refine PySem.W.ite_pos (by decide +kernel) ?_))
  k_with "getAttr ref" => (k_here; k_dflt (refine' PySem.W.get_own ?hzk1 ?hzk2 ?hzk3 ?hzk4 ?hzk5 ?hzk6 ?hzk7 ?hzk8 ?hzk9 ?_; (case hzk1 => k_asm); (case hzk2 => k_asm); (case hzk3 => k_inst); (case hzk8 => k_get); (case hzk4 => k_is); (case hzk5 => k_is); (case hzk6 => k_is); (case hzk7 => k_is); (case hzk9 => k_handed); k_whole))
  k_with "eval Name" => (k_here; (first | (with_reducible show wpAny _ _ (eval (PySem.Expr.Name _ _) (envOf _ _ _ _ _)) _ _ _) | (with_reducible show wpAny _ _ (eval (PySem.Expr.Name _ _) (envOfC _ _ _ _ _)) _ _ _)); name_kind "globalImplicit"; k_dflt (first | (refine' PySem.W.nameX_K ?hzF ?hzX ?hzT ?hze ?_ ?hza ?hzb ?hzd; (case hzF => k_asm); (case hzX => k_asm); (case hzT => k_asm); (case hze => k_is); (case hza => first | kernel_rfl | rfl); (case hzb => first | kernel_rfl | rfl); (case hzd => first | kernel_rfl | decide); k_whole) | (refine' PySem.W.nameX_B ?hzF ?hzX ?hzT ?hze ?hzv ?hzn ?_ ?hza ?hzb ?hzd; (case hzF => k_asm); (case hzX => k_asm); (case hzT => k_asm); (case hze => k_is); (case hzv => boot_fast); (case hzn => decide +kernel); (case hza => first | kernel_rfl | rfl); (case hzb => first | kernel_rfl | rfl); (case hzd => first | kernel_rfl | decide); k_whole)))
  k_with "eval Name" => (k_here; (first | (with_reducible show wpAny _ _ (eval (PySem.Expr.Name _ _) (envOf _ _ _ _ _)) _ _ _) | (with_reducible show wpAny _ _ (eval (PySem.Expr.Name _ _) (envOfC _ _ _ _ _)) _ _ _)); name_kind "local"; k_dflt (refine' PySem.W.nameX_L ?hzF ?hzv ?_ ?hza ?hzb ?hzd; (case hzF => k_asm); (case hzv => exact Eq.refl (some _)); (case hza => first | kernel_rfl | rfl); (case hzb => first | kernel_rfl | rfl); (case hzd => first | kernel_rfl | decide); k_whole))
  k_with "eval Name" => (k_here; (first | (with_reducible show wpAny _ _ (eval (PySem.Expr.Name _ _) (envOf _ _ _ _ _)) _ _ _) | (with_reducible show wpAny _ _ (eval (PySem.Expr.Name _ _) (envOfC _ _ _ _ _)) _ _ _)); name_kind "cell"; k_dflt (refine' PySem.W.nameX_C ?hzN ?hzc ?hzm ?hzd ?_ ?hza ?hzb ?hze; (case hzN => k_asm); (case hzc => exact Eq.refl (some _)); (case hzm => k_mem); (case hzd => k_asm); (case hza => first | kernel_rfl | rfl); (case hzb => first | kernel_rfl | rfl); (case hze => first | kernel_rfl | rfl); k_whole))
  k_with "eval Name" => (k_here; (with_reducible show wpAny _ _ (eval (PySem.Expr.Name _ _) (compEnvC _ _ _ _)) _ _ _); k_dflt (first | (refine' PySem.W.kcf_cell ?hzN ?hzc ?hzm ?hzd ?_ ?hza ?hzb ?hze; (case hzb => kernel_rfl); (case hzN => k_asm); (case hzc => exact Eq.refl (some _)); (case hzm => k_mem); (case hzd => k_asm); (case hza => first | kernel_rfl | rfl); (case hze => first | kernel_rfl | rfl); k_whole) | (refine' PySem.W.LCgL.ld_own ?hzN ?hzm ?hzd ?hzc ?_ ?hza ?hzb ?hze; (case hzb => kernel_rfl); (case hzN => k_asm); (case hzm => k_mem); (case hzd => assumption); (case hzc => assumption); (case hza => first | kernel_rfl | rfl); (case hze => first | kernel_rfl | rfl); k_whole)))
  k_with "execs cons" => (k_here; with_reducible refine Mine.gentoks ?_; intro _)
  k_with "execs nil" => (k_here; with_reducible refine Mine.gentoks ?_; intro _)
  k_with "execs cons" => (k_here; k_fold)
  k_with "execs cons" => (k_here; with_reducible refine Mine.foldB ?hzht ?_; (case hzht => ((fail_if_success (fail_if_success (rw [Mine.deepMark]))); k_dflt (exact trivial))); intro _)
  k_with "eval Call" => (k_here; k_fold)
  k_with "eval Subscript" => (k_here; k_fold)
  k_with "eval Compare" => (k_here; k_fold)
  k_with "eval BinOp" => (k_here; k_fold)
  k_with "subscriptTail Attribute" => (k_here; k_dflt (refine PySem.W.kba_turn (value' := PySem.Expr.Name (PySem.Str.ofString "_") ⟨0, 0, 0, 0⟩) (fun _ => rfl) ?_))
  k_with "k_room" => (first | ktr_room | ((simp +zetaDelta only [depth_under_make, depth_under_kw, depth_in1, depth_deeper, depth_caller]); ktr_room))
  k_with "call ref" => (k_here; (with_reducible show wpAny _ _ (call (Value.ref 611) _ _) _ _ _); k_dflt (refine wpAny_call ?_; refine' Mine.make_new (fN := 104) (fI := 381) ?hzk1 ?hzk2 ?hzk3 ?hzk4 ?hzk5 ?hzk6 ?hzk7 ?hzk8 ?hzk9 ?_; (case hzk1 => k_in); (case hzk2 => exact ⟨_, _, _, _, by k_is, rfl⟩); (case hzk3 => k_is); (case hzk4 => k_is); (case hzk5 => k_is); (case hzk6 => exact fun _ => by kernel_rfl); (case hzk7 => k_is); (case hzk8 => k_is); (case hzk9 => (intro _ _ _ hqZ; walk1; exact hqZ)); k_enter))
  k_with "call builtin:object.__new__" => (k_here; k_dflt (refine wpAny_call ?_; refine' Mine.new_own (C := 611) ?hzk1 ?hzk2 ?hzk3 ?hzk4 ?hzk5 ?hzk6 ?hzk7 ?hzk8 ?hzk9 ?_; (case hzk1 => k_asm); (case hzk2 => k_asm); (case hzk3 => k_in); (case hzk4 => exact ⟨_, _, _, _, by k_is, rfl, rfl⟩); (case hzk5 => k_is); (case hzk6 => k_is); (case hzk7 => k_is); (case hzk8 => exact fun _ => by kernel_rfl); (case hzk9 => exact fun _ => by kernel_rfl); intro _ _ _ _ _ l1Z l2Z; (try k_lt l1Z); (try k_lt2 l2Z); (try k_sweep); (try dsimp only)))
  k_with "NewBack" => (k_here; k_dflt (refine ⟨_, News.get (by k_asm) (by k_mem), by k_in, ?_⟩; (try dsimp only); k_enter))
  k_with "call type:collections.deque" => (k_here; k_dflt (refine' Mine.call_deque ?hzk1 ?hzk2 ?_; (case hzk1 => k_asm); (case hzk2 => k_asm); k_whole; intro _ _ _ _ l1Z; (try k_lt l1Z); (try k_sweep)))
  k_with "truthy ref" => (k_here; k_dflt (refine' Mine.truthy_deque ?hzk1 ?hzk2 ?_; (case hzk1 => k_asm); (case hzk2 => k_mem); k_whole; intro _))
  k_with "call ref" => (k_here; (with_reducible show wpAny _ _ (call (Value.ref 557) _) _ _ _); k_dflt (first | (refine' Mine.read_use _ ?hzk1 ?hzk2 ?hzk3 ?hzk4 ?hzk5 ?hzkK ?hzko ?hzks ?hzk7 ?hzk8 ?hzkc ?hzkd ?hzku ?_; (case hzk1 => k_asm); (case hzk2 => k_asm); (case hzk3 => k_asm); (case hzk4 => k_asm); (case hzk5 => k_asm); (case hzkK => exact rfl); (case hzko => assumption); (case hzks => assumption); (case hzkc => assumption); (case hzk7 => assumption); (case hzk8 => assumption); (case hzkd => ktr_room); (case hzku => ktr_units); k_whole; intro t'Z _ h'Z tk'Z F'Z N'Z hs'Z; (try dsimp only)) | (refine' Mine.read_eof_use ?hzk1 ?hzk2 ?hzk3 ?hzk4 ?hzk5 ?hzkK ?hzko ?hzks ?hzk7 ?hzk8 ?hzkd ?hzku ?_; (case hzk1 => k_asm); (case hzk2 => k_asm); (case hzk3 => k_asm); (case hzk4 => k_asm); (case hzk5 => k_asm); (case hzkK => exact rfl); (case hzko => assumption); (case hzks => assumption); (case hzk7 => assumption); (case hzk8 => assumption); (case hzkd => ktr_room); (case hzku => ktr_units); k_whole; intro t'Z h'Z tk'Z F'Z N'Z hs'Z; (try dsimp only))))
  k_with "compareOp In str str" => (k_here; first | refine Mine.in_lit false (by kernel_rfl!) ?_ | refine Mine.in_lit true (by kernel_rfl!) ?_)
  k_with "LoopPost" => ((with_reducible show Mine.LoopPost _ _ _ _ Flow.brk _); dsimp only [Mine.LoopPost])
  k_with "exec If" => (with_reducible refine wpAny_If ?_)
  k_with "k_put" => (first | (with_reducible exact Mine.lex_put_state) | (with_reducible exact Mine.lex_put_token))
  k_with "leaving ref" => (k_here; k_dflt ((refine' leave_raiseS ?hzk1 ?hzk0 ?hzk2 ?hzk3 ?_; (case hzk0 => first | assumption | exact Heap.MadeExc.of (by assumption)); (case hzk1 => assumption); (case hzk2 => assumption); (case hzk3 => k_asm); k_whole; intro _ _ RS'Z R'Z U'Z; (try dsimp only at RS'Z R'Z U'Z ⊢))))
  k_with "CompSrc" => (k_here; (with_reducible rename Mine.EvenMark _ _ _ => evMZ); (k_dflt ( (refine LCg.CompSrc.range (by rfl) (by k_asm) (by k_asm) (by assumption) (by first | decide | exact small_one (by l_bnd) (by l_bnd) (by l_bnd) (by l_bnd)) (by first | exact rangeSize_nat _ _ | rfl) (by first | exact Nat.le_of_ble_eq_true rfl | (rw [PySem.sizeLine_eq]; first | omega | ((have hb9Z := len_ints_list (by lay_of)); omega)) | size_fits) ?_; intro _; (refine' Mine.even_range evMZ (fun _ _ _ _ _ _ _ _ _ _ _ _ _ _ _ _ _ _ off'Z _ => ?_) ?_); (all_goals (try (simp only [LCg.Off3, and_true] at off'Z))); (all_goals (try ((show KPfMark → _); intro _))); kcf_last))))
  k_with "call ref" => (k_here; (with_reducible show wpAny _ _ (call (Value.ref 714) _) _ _ _); k_dflt ( (refine' Mine.rt_use ?hzk1 ?hzk2 ?hzk3 ?hzk4 ?hzk5 ?hzkK ?hzkC ?hzkd ?hzku ?_; (case hzk1 => k_asm); (case hzk2 => k_asm); (case hzk3 => k_asm); (case hzk4 => k_asm); (case hzk5 => k_asm); (case hzkK => exact rfl); (case hzkC => assumption); (case hzkd => ktr_room); (case hzku => ktr_units); k_whole; intro _ _ _ _ _ _ N'Z _ hl'Z hd'Z; (first | subst hd'Z | (obtain ⟨_, hv'Z⟩ := hd'Z; subst hv'Z)); (try dsimp only); (refine Mine.IsLex.open hl'Z ?_; intro _ _ hqZ; subst hqZ); dsimp only [Mine.led6] at N'Z)))
  trivial
theorem Mine.ln69 : True := by
  k_with "call ref" => (k_here; (with_reducible show wpAny _ _ (call (Value.ref 823) _) _ _ _); apply Mine.Hold.to)
  trivial
namespace Mine
theorem pick4 {w : World} {A : Around} {E : Value → Shared → Prop} {s : Shared} {value slice : PySem.Expr} {l : Addr} {x : Int} {u t0 t1 t2 t3 : Tok} {Q : Value → Shared → Prop} (hl : s.heap.IsList l [.str (Str.ofString "ab") t0, .str (Str.ofString " x") t1, .str (Str.ofString "#~") t2, .str (Str.ofString "\\&") t3].toArray)
    (h : ∀ k t, k < 4 → Q (.str (pairOf k) t) s) (hs : ∀ i, subscripted slice false (.ref l) (.int i u) = operate [.ref l, .int i u] (getItem (.ref l) (.int i u))) :
    wpAny (model PR w) A (subscriptTail value slice (.ref l) (.int (Int.fmod x 4) u)) Q E s := by
  have h1 := Int.fmod_nonneg_of_pos x (b := 4) (by decide)
  have h2 := Int.fmod_lt_of_pos x (b := 4) (by decide)
  obtain ⟨k, hk⟩ : ∃ k : Nat, Int.fmod x 4 = (k : Int) := ⟨(Int.fmod x 4).toNat, by omega⟩
  rw [hk] at h2 ⊢
  match k, h2 with
  | 0, _ => exact item_at hl rfl (by decide) (h 0 t0 (by decide)) hs
  | 1, _ => exact item_at hl rfl (by decide) (h 1 t1 (by decide)) hs
  | 2, _ => exact item_at hl rfl (by decide) (h 2 t2 (by decide)) hs
  | 3, _ => exact item_at hl rfl (by decide) (h 3 t3 (by decide)) hs
  | k + 4, q => omega
end Mine
theorem Mine.ln70 : True := by
  k_with "subscriptTail List" => (k_here; (with_reducible show wpAny _ _ (subscriptTail (PySem.Expr.List (PySem.Expr.Constant _ _ _ :: _) _) _ (Value.ref _) (Value.int _ _)) _ _ _); k_dflt (refine' Mine.pick4 ?hzhl ?_ (by intro _; with_unfolding_all rfl); (case hzhl => is_list)); intro _ _ _)
  trivial
namespace Mine
set_option maxHeartbeats 8000000 in
theorem law_walk : Challenge.rw_oy0366_01.Holds := by
  refine Mine.hdA fun said => Mine.hd.top said ?_
  clear said
  intro w s₀ s₁ mg mb G Y fa o pm cd doc dV kV ho hd hcd hD hmg hg args vals as hpre hlay hrd hwl hlo
  have KX := Mine.kInP Y
  have X := (Ground.X G).1
  have V := (Ground.X G).2
  try w_nolog (first | (have GL := glob_more (Ground.glob G (by first | k_qdec | decide +kernel) (by first | k_qdec | decide +kernel)) V) | (have GL := glob_more (Ground.glob G (by decide +kernel)) V))
  refine Ground.open G ?_
  intro T B D TE TW
  try (refine guard_noD D (by decide +kernel) ?_; clear D)
  obtain ⟨_, _, M⟩ := bmod_of_top T
  have TA := at_of_top T
  try (obtain ⟨_, _, he, B0⟩ := based_of_top T rfl hmg ho hd; have he' : cd = _ := he; subst he'; clear he)
  clear hmg
  wrow_args hpre hlay hrd hwl hlo
  all_goals (
    first | refine callC_kw (enter_call ?_) | refine enter_call ?_ | refine callC_kw (enter_callW ?_) | refine enter_callW ?_ | w_how
    w_top on
    have K0 := below_caller (Top.heap T)
    w_call any ho hd hcd hD T F
    clear hd TA
    k_drop
    skip)
  all_goals try k_fold
  have hsp : ∀ (x : Str) (tx : Tok), x.length < 1000 → okL 0 x.cps.toList = true → CallsW w (ExcName.means s₀.heap) mg mb 758 [.str x tx] 12 [] (fun _ => True) (SplitPost x (tokL 0 (Str.ofString "") x.cps.toList)) := fun x tx hl ho => split_spec w mg mb _ x _ tx hl (fun p2 p1 xs dx lex dl od ol t0 o s l => read_token_spec w mg mb _ p2 p1 xs dx lex dl od ol x _ t0 o s l hl ho rfl)
  k_steps
  · refine Hold.of ?_
    refine' law_fin w mg mb T KX ?F ?N ?hk hg ?hs ?ho hsp 0 _ (by decide) (by assumption) ?hr ?hz ?hdr ?mr ?mz ?md
    case hk => exact rfl
    case hs => exact rfl
    case ho => exact rfl
    case F => assumption
    case N => assumption
    case hr => assumption
    case hz => assumption
    case hdr => assumption
    case mr => k_mem
    case mz => k_mem
    case md => k_mem
  · refine Hold.of ?_
    refine' law_fin w mg mb T KX ?F ?N ?hk hg ?hs ?ho hsp 1 _ (by decide) (by assumption) ?hr ?hz ?hdr ?mr ?mz ?md
    case hk => exact rfl
    case hs => exact rfl
    case ho => exact rfl
    case F => assumption
    case N => assumption
    case hr => assumption
    case hz => assumption
    case hdr => assumption
    case mr => k_mem
    case mz => k_mem
    case md => k_mem
  · refine Hold.of ?_
    refine' law_fin w mg mb T KX ?F ?N ?hk hg ?hs ?ho hsp 2 _ (by decide) (by assumption) ?hr ?hz ?hdr ?mr ?mz ?md
    case hk => exact rfl
    case hs => exact rfl
    case ho => exact rfl
    case F => assumption
    case N => assumption
    case hr => assumption
    case hz => assumption
    case hdr => assumption
    case mr => k_mem
    case mz => k_mem
    case md => k_mem
  · refine Hold.of ?_
    refine' law_fin w mg mb T KX ?F ?N ?hk hg ?hs ?ho hsp 3 _ (by decide) (by assumption) ?hr ?hz ?hdr ?mr ?mz ?md
    case hk => exact rfl
    case hs => exact rfl
    case ho => exact rfl
    case F => assumption
    case N => assumption
    case hr => assumption
    case hz => assumption
    case hdr => assumption
    case mr => k_mem
    case mz => k_mem
    case md => k_mem
end Mine
end T_Lw2
set_option maxHeartbeats 8000000 in
theorem PySem.Challenge.cw_oy0366_01_holds : PySem.Challenge.rw_oy0366_01.Holds := by
  exact Mine.law_walk
