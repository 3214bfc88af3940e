import PyProof.Rows.All
import Wide.All
import OpenK.AllK
import Wide.FinOn
import KE.KTryDeepN
import Lean
import PySem.Challenge.RW_nq0317_01
set_option Elab.async false
set_option maxRecDepth 100000
set_option maxHeartbeats 0
set_option linter.unusedVariables false
namespace Mine
@[elab_as_elim] theorem rwR {α : Type u} {P : α → Prop} {a b : α} (h : a = b) (k : P b) : P a := h ▸ k
@[elab_as_elim] theorem rwL {α : Type u} {P : α → Prop} {a b : α} (h : b = a) (k : P b) : P a := h ▸ k
end Mine
local macro_rules | `(tactic| walk_at $s:str) => `(tactic| k_extra $s)
local macro_rules | `(tactic| k_all) => `(tactic| k_extra "k_all")
local macro_rules | `(tactic| k_enter) => `(tactic| k_extra "k_enter")
local macro_rules
  | `(tactic| rewrite [$e:term]) => `(tactic| ((fail_if_success (fail_if_success rewrite (config := {}) [$e:term])); first | refine Mine.rwR $e ?_ | refine Mine.rwR ($e _) ?_ | refine Mine.rwR ($e _ _) ?_ | refine Mine.rwR ($e _ _ _) ?_ | refine Mine.rwR (propext $e) ?_ | fail))
  | `(tactic| rewrite [← $e:term]) => `(tactic| ((fail_if_success (fail_if_success rewrite (config := {}) [← $e:term])); first | refine Mine.rwL $e ?_ | refine Mine.rwL ($e _) ?_ | refine Mine.rwL ($e _ _) ?_ | refine Mine.rwL ($e _ _ _) ?_ | fail))
  | `(tactic| rewrite [$r, $s,*]) => `(tactic| (rewrite [$r]; rewrite [$s,*]))
  | `(tactic| show $t:term) => `(tactic| first | refine (?_ : $t) | fail)
  | `(tactic| k_qdec) => `(tactic| decide +kernel)
  | `(tactic| size_fits) => `(tactic| exact Nat.le_of_ble_eq_true rfl)
open PySem PySem.W PyProof.Rows PySem.Calls PySem.Challenge
namespace Mine
theorem nls {a b : Nat} (h : a < b) : a < b + 1 := Nat.lt_succ_of_lt h
theorem ngt {a b : Nat} (h : b < a) : a ≠ b := Nat.ne_of_gt h
theorem nbl {a b : Nat} (h : Nat.ble a b = true) : a ≤ b := Nat.le_of_ble_eq_true h
theorem nlt {a b : Nat} (h : a < b) : a ≠ b := Nat.ne_of_lt h
theorem fn0 {α : Type} (p : α → Prop) : ∀ x, x ∈ ([] : List α) → p x := List.forall_mem_nil p
noncomputable def anyL (p : Nat → Bool) (l : List Nat) : Bool :=
 @List.rec Nat (fun _ => Bool) false (fun a _ ih => @Bool.rec (fun _ => Bool) ih true (p a)) l
theorem anyL_eq (p : Nat → Bool) : ∀ l : List Nat, anyL p l = l.any p
 | [] => rfl
 | a :: l => by
  show @Bool.rec (fun _ => Bool) (anyL p l) true (p a) = _
  rw [List.any_cons, anyL_eq p l]
  cases p a <;> rfl
noncomputable def anyF (as : Array Nat) (p : Nat → Bool) (start stop : Nat) : Bool :=
 @Bool.rec (fun _ => Bool) (Array.any as p start stop) (anyL p as.toList) (Nat.beq start 0 && Nat.beq stop as.toList.length)
theorem any_eq : @Array.any.{0} Nat = anyF := by
 funext as p start stop
 unfold anyF
 cases h : (Nat.beq start 0 && Nat.beq stop as.toList.length) with
 | false => rfl
 | true =>
  obtain ⟨h1, h2⟩ := Bool.and_eq_true_iff.mp h
  have e1 := Nat.eq_of_beq_eq_true h1
  have e2 := Nat.eq_of_beq_eq_true h2
  subst e1
  have e2 : stop = as.size := by rw [e2]; simp
  subst e2
  show _ = anyL p as.toList
  rw [anyL_eq, Array.any_toList]
inductive Box : Builtin → Type where
 | mk (b : Builtin) : Box b
noncomputable def newGen : (Array Nat → (Nat → Bool) → Nat → Nat → Bool) → Builtin := by
 refine (fun (f : (Array Nat → (Nat → Bool) → Nat → Nat → Bool) → Builtin) (_ : Box PySem.W.Fast.tw4202317264376624991 → Unit) => f) ?g ?u
 case u =>
  delta PySem.W.Fast.tw4202317264376624991
  generalize @Array.any.{0} Nat = a
  exact fun (_ : Box (?g @a)) => Unit.unit
theorem newGen_eq : newGen (@Array.any.{0} Nat) = PySem.W.Fast.tw4202317264376624991 := rfl
noncomputable def newFs : { f : Builtin // PySem.W.Fast.tw4202317264376624991 = f } := ⟨newGen anyF, newGen_eq.symm.trans (congrArg newGen any_eq)⟩
noncomputable def tableF : String → Option Builtin := fun id =>
 @Bool.rec (fun _ => Option Builtin) (PySem.W.Fast.tw1115789885857029328.find (PySem.W.Fast.tw13482112738370960269 id)) (some newFs.1) (Nat.beq (PySem.W.Fast.tw13482112738370960269 id) 29827186395103491166823348853)
theorem find_new : PySem.W.Fast.tw1115789885857029328.find 29827186395103491166823348853 = some PySem.W.Fast.tw4202317264376624991 := by kernel_rfl
theorem table_eq : treeTable = tableF := by
 rw [PySem.W.Fast.te14364793385576792824]
 funext id
 show PySem.W.Fast.tw1115789885857029328.find (PySem.W.Fast.tw13482112738370960269 id) = _
 unfold tableF
 cases h : Nat.beq (PySem.W.Fast.tw13482112738370960269 id) 29827186395103491166823348853 with
 | false => rfl
 | true =>
  rw [Nat.eq_of_beq_eq_true h, find_new]
  exact congrArg some newFs.2
noncomputable abbrev pw : Program := PySem.Challenge.pw_nq0317_01
noncomputable abbrev ann : Option Value := some (Value.ref 6)
noncomputable abbrev qPos : Pos := { line := 0, col := 0, endLine := 0, endCol := 0 }
noncomputable abbrev endPos : Pos := { line := 642, col := 0, endLine := 674, endCol := 48 }
noncomputable def decq : Nat → Nat → List Nat := fun k => @Nat.rec (fun _ => Nat → List Nat) (fun _ => []) (fun _ ih n => Nat.mod n 128 :: ih (Nat.div n 128)) k
noncomputable def docQ : Str := ⟨Array.mk (decq 3202 156581320928945387714645774169655187119893982497871887548302257575522923900106312629688267355420722261887069625482198880780562529177626681820517705974002931896586590800432161741749853198074767535863823133644202060035640549695428278381738655928929737509106332838515076556130758260843611368486964494733643064275663080958465259082605463599882269748415609233340871807008056497335955313994947772391906713924115125553681921971099081314849892648441803944958292074178952172880929864471714942481688871161091671150148340265266040877393592825595381987079531725988862307997873019409143339098433933361271101177684700994024206078970797340497689870035584176095337525219114406621409366648242296745519019906487908362800872443874417889125297943696229878543713091064756610301335620703530185044969772013330869959756958994687533457668267361441454816745487709255269105230396058058244107075195783379034434110303676608619559202592103239968465304286726404067253832310567065349500104194926311893788050853626477085250623351821143068342539466996673677182895477322932716756337330931339689033686794438086072212692278415677364892534384105710023700720781961461541055436859052435101969035696735663301390563427374497189557025154675905221546356819171057019782184634821389069361443132805362114455909126216676283385911301960713553065334005575212798589543158849676073110141346292300913317195569163432770012870985887685596968542172835876939808155500857141235219683489777243712430857893632387111364074007872713188612397026945965621757987477034795704856068509543331122560806803807101842186922367851626181249882515554628093843839180709592344021687676438962912059144742104015380955616421909666681390799658095118902476667189429637963828756220380188396100213913722170197829439149373286262919625948614733515403140168295278221712668529226151114965031518010262235441776589634320753244486912750697596883013431425125871667891864782625451447508928684621511564669168641369728140653186752794516630521198361169497906827486844136843265912422304100429967040531806196775098632995271674371858281023833972558567807300017696630157908951920915836187286806501356986167901335417214450838685322519442812605379196832687740228495656537124612277065706855433062960846332964406343424062398723354989121496922820403412264276751647803356228231915357279678442331513757587514026757129285314146212194589642471779156904471196171849381394683048153786778035289794750365760605562079021809510124320752783760965435582710662709850089100053188917639534623956209058020402327790126169301157435597539138750553980983348422785120479187973189442158740627520774243347069888590746169550894872506276832243453326910688677559185872092934104596312687292711643601470438171007102779223421416351703082992793766195510882188360213068604380226870244017742073502689141781598919786837987450221609175803466432480154898078377335573998031794443511441756435800740703655154969332753936513459640725216449275211453166334789334261719880635538128461943807434820128437392324050487651830687863883855724801524621764978161574652343210145033746919191425021411139729420448818842781679615561652315874896408745365543860143515934740024416921661775041248550570171959989758925977470249845107203299049071827541142961909136497978767575459064337792858500410197249115376796728420864793759419727722776388441522033881221357762507910245532583161563276376672225693480435291290296470692992903727776583975744509151418911279473153800224904864693535767179419561536565029407357671108690525684770632471775041668106724834416166014373807524440911415196899583578395728923674396977789391863561397194035595950456430672304811465176709246613193069135978488634099451843676928136791446485664483748344731436700284915808152853813699970522334878273146980310356870316096629392617452090987619796643683652328878177867427955045534679234953806055199271635598691951097243839714531121296889324943846440664574516886340406290326741459369483480187701263817103713323612065535971669796215017404379964666176899415775474600798000326650809932349858041546124716052379593956656464248766243292901781390259208526384867673744012652296951866938037034577682109529696189530451687069884340812840101531003111187088819276165017639614994510304877544537273115057443373798633610122286940439433623419927076353533757713252582472543983925325740926467567362961859792613325645902601547131016985019961261852781202826733443366397845911263879630651770151939079114709439966122790448736087301639818875096389256326460902858825193500897760826857602218381064885758352373819232392281526705137329621805868684793489713616082037171757364211426769183905798110075931245158914627986647115953891771689848871652640531563131348326039690362567284260255419672908073092156199504907953445520074305594320856311463157951808861118678491840008144807430180629320871432070646056503330158410010498315179132053330529763452718926789184425362936196031239628810753026421461746174728156378358098523844975728384610580775136421851001283937700910813773008353335146643901016913235109580231346476479139463903581302184260429019078693191433482849936693110578801957562643686272724571420612134839451556310249069490234971864866190308678957401869702369749971089493146339807415631035205698684427962119962522438731480560508675520664055334978696878623183230268954323234104913126266946782149143795820349461310377446343504562974766797126287332302589645896396668173893697771851255237583771156257005319773822876898717900272067537182920215929632973688446027602865066036488429498281799651393145985731360257331913176273549240130906572457640675467898642605084362624099064417236105301117996077289434463126940332511503978964073888931951164407353917977254221345924912669554999164678712008798740453814399801087348373669407328358951986322832988844771672159529022122210624415030755254780049753026733701169632685025928477664528514056614764546460797449469443238951763800846885664980360807847093446567023953674172272069203027620937460776251181604728399628195780472278631602040952745565861906162658522905392398708140801182606199076465526777841997876147833860369455178850387505701676083593837136997177069789895845064079022083621858229171311234544167392948483025040762931756520506725111719621342454238993078745647745835942925644351135764850759149430412397091851530235415578644667885437002599770181140648942313330449870478610913869719582410099466067459684695140478949036710972415588557048550359084901611287612551746056724401039637547317249293970076121509059898736388921095612387631183407799151595191203212877446366474816209181170331183884740468144178119789574421870327736778522609904802004926829771118686912666410002344099996105131554261062246957411421848370201972499876615127833967506088513715292389807015412758251108512460461923891036340237877108572332840690889635395730113106312761930689264839050)⟩
noncomputable def docQ2 : Str := ⟨Array.mk (decq 547 356641880447014034507754012244863745634158552745929642231130956628277837367450229522879416782544451499001796512998350634232288050115074646134750873549001526360147645678536728433443539983492933946098646730317607324938901937995970787810301074224246969185738808957692369912260078486299192011927440483731898534769346946499415950369895939993495967606439509649186123566544690753653418264464507947973652570008568845014467402321392292393062745353547960523736424520377392366467567086220321707389264683292398503201964677565534337653074291343537460221690048844446652983064009136884052507587128901925316342173735937674099404048068940496080507582317480874267733535832471317826630793088997953144047977298100428062249948849169768998885742738788815935494455114053862769931076385788389988627088470125997416835947257765289923976055120833143371997967986802561314384647006834139361848984841993508966745732119538503520117619852177386197000255306827567049482747589169647545368927557833412397683510213059072776209185281895572140951549894260081411119987241444091089165695931332190986328681239760760492424701773266888185126621400254830002728053676328581673013255081502424218323)⟩
noncomputable def at9 : List Stmt → Nat → Stmt
 | [], _ => .Pass qPos
 | a :: _, 0 => a
 | _ :: l, n + 1 => at9 l n
noncomputable def clsB : Stmt → List Stmt
 | .ClassDef _ _ _ b _ _ _ _ _ _ _ => b
 | _ => []
noncomputable def setDoc (D : Str) : Stmt → Stmt
 | .ClassDef n bs ks (.Expr (.Constant (.str _) k p) q :: b) ds tps sc ts bi po x => .ClassDef n bs ks (.Expr (.Constant (.str D) k p) q :: b) ds tps sc ts bi po x
 | s => s
noncomputable def docOf : Stmt → Str
 | .ClassDef _ _ _ (.Expr (.Constant (.str s) _ _) _ :: _) _ _ _ _ _ _ _ => s
 | _ => Str.empty
noncomputable def bodyD (D E : Str) : List Stmt := pw.main.body.take 5 ++ setDoc D (at9 pw.main.body 5) :: ((pw.main.body.drop 6).take 4 ++ setDoc E (at9 pw.main.body 10) :: pw.main.body.drop 11)
theorem body_raw : bodyD (docOf (at9 pw.main.body 5)) (docOf (at9 pw.main.body 10)) = pw.main.body := by kernel_rfl
theorem doc_str {s : String} (n N : Nat) (h : s = String.ofList ((decq n N).map Char.ofNat)) (h2 : ((decq n N).map Char.ofNat).map Char.toNat = decq n N) : Str.ofString s = ⟨Array.mk (decq n N)⟩ := by
 rw [h, PySem.W.Fast.ofString_ofList, h2]
theorem doc1 : docOf (at9 pw.main.body 5) = docQ := doc_str _ _ (by kernel_rfl) (by kernel_rfl)
theorem doc2 : docOf (at9 pw.main.body 10) = docQ2 := doc_str _ _ (by kernel_rfl) (by kernel_rfl)
theorem body_is : bodyD docQ docQ2 = pw.main.body := by rw [← doc1, ← doc2]; exact body_raw
noncomputable def t1 (P : Params) : Obj := { cls := Value.type "tuple", data := Data.seq #[] }
noncomputable def t2 (P : Params) : Obj := { cls := Value.none, data := Data.fields #[] }
noncomputable def t3 (P : Params) : Obj := { cls := Value.type "code", data := Data.fields #[Value.str (Str.ofString "<module>") 182, Value.str (Str.ofString "<module>") 183, Value.str (Str.ofString "/claim/cut.py") 184, Value.int 1 0, Value.int 0 0, Value.int 0 0, Value.int 0 0, Value.int 0 0, Value.ref 11, Value.bool false, Value.int 181 0, Value.ref 12, Value.none, Value.none, Value.none, Value.none, Value.int 185 0, Value.int 1 0, Value.str (Str.ofString "/claim/cut.py") 186] }
noncomputable def t4 (P : Params) : Obj := { cls := Value.type "frame", slots := #[some (Value.ref 13), some (Value.ref 3), some (Value.ref 3), none, some (Value.str (Str.ofString "__main__") 164), none, some (Value.ref 0)] }
noncomputable def env1 : Env := { scope := pw.main.scope, locals := mainNs, globals := mainNs, cells := [], code := Value.ref 13, frame := some 14 }
noncomputable def tree0 (P : Params) : BT := BT.node (boot_o_0 P)
  (BT.node (boot_o_1 P)
   (BT.node (boot_o_3 P) (BT.node (boot_o_7 P) BT.nil BT.nil) (BT.node (t1 P) BT.nil BT.nil))
   (BT.node (boot_o_5 P) (BT.node (boot_o_9 P) BT.nil BT.nil) (BT.node (t3 P) BT.nil BT.nil)))
  (BT.node (boot_o_2 P)
   (BT.node (boot_o_4 P) (BT.node (boot_o_8 P) BT.nil BT.nil) (BT.node (t2 P) BT.nil BT.nil))
   (BT.node (boot_o_6 P) (BT.node (boot_o_10 P) BT.nil BT.nil) (BT.node (t4 P) BT.nil BT.nil)))
noncomputable abbrev sB (w : World) (os : OsState) : SharedT := { tree := tree0 w.params, n := 15, life := { }, gens := { toList := [] }, drawn := { }, toks := 187, os := os }
noncomputable def ev (p : Program) (b : List Stmt) (w : World) (os : OsState) := PySem.W.Fast.tw10110043849684766642 tableF p w 11 ann 1 3300 (sB w os) (piecesOf (bodyD docQ docQ2) env1 (Code.body b env1) qPos [topFrame qPos])
noncomputable def treeE (P : Params) : BT := match ev pw [] ⟨fun _ _ => 0, P⟩ default with
 | some (_, s, _) => s.tree
 | none => .nil
noncomputable abbrev sE (w : World) (os : OsState) : SharedT := { tree := treeE w.params, n := 401, life := { }, gens := { toList := [] }, drawn := { }, toks := 811, os := os }
theorem runF (p : Program) (b : List Stmt) (w : World) (os : OsState) : ev p b w os = some (Flow.next, sE w os, Code.body b env1, endPos) := by kernel_rfl
noncomputable abbrev heapR (P : Params) : Heap := absHeap (treeE P) 401 { }
theorem run_all (p : Program) (b : List Stmt) (w : World) (os : OsState) : segRunT treeTable p w 11 ann 1 3300 (sB w os) (piecesOf pw.main.body env1 (Code.body b env1) qPos [topFrame qPos]) = some (Flow.next, sE w os, Code.body b env1, endPos) := by
 rw [PySem.W.Fast.te10110043849684766642, table_eq, ← body_is]
 exact runF p b w os
noncomputable abbrev cB : Code := Code.body (behindTheImports pw) env1
theorem pre (w : World) (os : OsState) : topGo treeTable pw w 11 ann 12 ⟨boot_heap w.params, Array.mk [], boot_drawn, boot_toks, os⟩ (topStub pw) =
  some ((sB w os).abs, ⟨denote treeTable cB, cB, qPos, [topFrame qPos]⟩) := by kernel_rfl
theorem block (w : World) (os : OsState) : segRun treeTable pw w 11 ann 1 1 (sB w os).abs (blockOf (behindTheImports pw) env1 cB qPos [topFrame qPos]) = some (.next, (sB w os).abs, cB, qPos) := by kernel_rfl
theorem fin (w : World) (os : OsState) : topRun treeTable pw w 11 ann 5 (sE w os).abs ⟨doneF .next, cB, endPos, [topFrame qPos]⟩ = some ⟨heapR w.params, Array.mk [], {}, 811, os⟩ := by kernel_rfl
theorem behind_is : behindTheImports pw = pw.main.body ++ [] := by kernel_rfl
theorem run (w : World) (os : OsState) : topRun treeTable pw w 11 ann (12 + (1 + (3300 + 5))) ⟨boot_heap w.params, Array.mk [], boot_drawn, boot_toks, os⟩ (topStub pw) = some ⟨heapR w.params, Array.mk [], {}, 811, os⟩ := by
 refine go_top (pre w os) (piece_block (block w os) ?_)
 have h := piece_app (q := qPos) (rest := []) (segRun_of (run_all pw (behindTheImports pw) w os)) (piece_nil (fin w os))
 rw [← behind_is] at h
 exact h
noncomputable def en (P : Params) (k : String) (t : Tok) (v : Value) : DictEntry := { hash := PyData.keyHash P (Str.ofString k), key := Value.str (Str.ofString k) t, val := v }
noncomputable def docE (s : Stmt) (t : Tok) : Value := match s with
 | .FunctionDef _ _ (.Expr (.Constant (.str d) _ _) _ :: _) _ _ _ _ _ _ _ => .str d t
 | _ => .none
noncomputable def fnO (s : Stmt) (q : String) (df doc pm : Value) (c : Addr) : Obj := match s with
 | .FunctionDef n a b _ _ _ sc _ _ _ => { cls := .type "function", data := .func { name := n, qualname := Str.ofString q, params := a, body := .stmts b, scope := sc, globals := 3, closure := [], defaults := df, kwdefaults := .none, doc := doc, pyModule := pm, code := .ref c } }
 | _ => { cls := .none }
noncomputable def o2 (P : Params) : Obj := boot_o_2 P
noncomputable def o3 (P : Params) : Obj := { cls := Value.type "dict", data := Data.dict #[en P "__name__" 165 (Value.str (Str.ofString "law_nq0317_01") 766), en P "__doc__" 166 Value.none, en P "__package__" 167 Value.none, en P "__loader__" 168 (Value.builtin "__main__.__loader__#opaque"), en P "__spec__" 169 Value.none, en P "__annotations__" 170 (Value.ref 6), en P "__builtins__" 171 (Value.ref 4), en P "__file__" 173 (Value.str (Str.ofString "/claim/cut.py") 172), en P "__cached__" 174 Value.none, en P "_wall" 193 (Value.ref 21), en P "_tuplegetter" 252 (Value.ref 60), en P "Match" 380 (Value.ref 135), en P "_calculate_ratio" 388 (Value.ref 145), en P "SequenceMatcher" 574 (Value.ref 242), en P "_NODE_OUT" 579 (Value.int (-1) 578), en P "_NODE_DONE" 582 (Value.int (-2) 581), en P "_NodeInfo" 619 (Value.ref 265), en P "CycleError" 639 (Value.ref 280), en P "TopologicalSorter" 765 (Value.ref 362), en P "_law_words" 773 (Value.ref 371), en P "_law_groups" 782 (Value.ref 378), en P "_law_chains" 788 (Value.ref 383), en P "_law_around" 794 (Value.ref 388), en P "_law_longest" 804 (Value.ref 395), en P "law" 810 (Value.ref 400)] 25 }
noncomputable def o65 (P : Params) : Obj := { cls := Value.type "tuple", data := Data.seq #[Value.type "tuple"] }
noncomputable def o81 (P : Params) : Obj := { cls := Value.type "code", data := Data.fields #[Value.str (Str.ofString "__new__") 274, Value.str (Str.ofString "Match.__new__") 275, Value.str (Str.ofString "/claim/cut.py") 276, Value.int 29 0, Value.int 4 0, Value.int 0 0, Value.int 0 0, Value.int 3 0, Value.ref 76, Value.bool true, Value.int 181 0, Value.ref 77, Value.none, Value.ref 78, Value.ref 79, Value.ref 80, Value.int 281 0, Value.int 29 0, Value.str (Str.ofString "/claim/cut.py") 282] }
noncomputable def o82 (P : Params) : Obj := fnO (at9 (clsB (at9 pw.main.body 3)) 4) "Match.__new__" (Value.none) (docE (at9 (clsB (at9 pw.main.body 3)) 4) 283) (.str (Str.ofString "cpy313.difflib") 194) 81
noncomputable def o134 (P : Params) : Obj := { cls := Value.type "dict", data := Data.dict #[en P "__module__" 260 (Value.str (Str.ofString "cpy313.difflib") 194), en P "__firstlineno__" 264 (Value.int 23 263), en P "__doc__" 266 (Value.str (Str.ofString "Match(a, b, size)") 265), en P "__slots__" 268 (Value.ref 73), en P "_fields" 272 (Value.ref 74), en P "_field_defaults" 273 (Value.ref 75), en P "__new__" 284 (Value.ref 136), en P "_make" 306 (Value.ref 91), en P "_replace" 317 (Value.ref 100), en P "__replace__" 318 (Value.ref 100), en P "__repr__" 326 (Value.ref 107), en P "_asdict" 333 (Value.ref 114), en P "__getnewargs__" 341 (Value.ref 121), en P "__match_args__" 345 (Value.ref 122), en P "a" 355 (Value.ref 124), en P "b" 365 (Value.ref 127), en P "size" 375 (Value.ref 130), en P "__static_attributes__" 376 (Value.ref 132)] 2 }
noncomputable def o135 (P : Params) : Obj := { cls := Value.type "type", data := Data.cls { name := Str.ofString "Match", bases := [Value.type "tuple"], mro := [Value.ref 135, Value.type "tuple", Value.type "object"], ns := 134, qualname := Str.ofString "Match", hasDict := false }, slots := #[some (Value.ref 65), none, some (Value.str (Str.ofString "Match") 253), some (Value.str (Str.ofString "Match") 261), some Value.none, some (Value.bool false)] }
noncomputable def o136 (P : Params) : Obj := { cls := Value.type "staticmethod", data := Data.fields #[Value.ref 82] }
noncomputable def o153 (P : Params) : Obj := { cls := Value.type "tuple", data := Data.seq #[Value.none, Value.str (Str.ofString "") 404, Value.str (Str.ofString "") 405, Value.bool true] }
noncomputable def o159 (P : Params) : Obj := { cls := Value.type "code", data := Data.fields #[Value.str (Str.ofString "__init__") 406, Value.str (Str.ofString "SequenceMatcher.__init__") 407, Value.str (Str.ofString "/claim/cut.py") 408, Value.int 145 0, Value.int 5 0, Value.int 0 0, Value.int 0 0, Value.int 3 0, Value.ref 154, Value.bool true, Value.int 181 0, Value.ref 155, Value.none, Value.ref 156, Value.ref 157, Value.ref 158, Value.int 414 0, Value.int 145 0, Value.str (Str.ofString "/claim/cut.py") 415] }
noncomputable def o160 (P : Params) : Obj := fnO (at9 (clsB (at9 pw.main.body 5)) 1) "SequenceMatcher.__init__" (Value.ref 153) (docE (at9 (clsB (at9 pw.main.body 5)) 1) 416) (.str (Str.ofString "cpy313.difflib") 194) 159
noncomputable def o166 (P : Params) : Obj := { cls := Value.type "code", data := Data.fields #[Value.str (Str.ofString "set_seqs") 418, Value.str (Str.ofString "SequenceMatcher.set_seqs") 419, Value.str (Str.ofString "/claim/cut.py") 420, Value.int 173 0, Value.int 3 0, Value.int 0 0, Value.int 0 0, Value.int 3 0, Value.ref 161, Value.bool true, Value.int 181 0, Value.ref 162, Value.none, Value.ref 163, Value.ref 164, Value.ref 165, Value.int 424 0, Value.int 173 0, Value.str (Str.ofString "/claim/cut.py") 425] }
noncomputable def o167 (P : Params) : Obj := fnO (at9 (clsB (at9 pw.main.body 5)) 2) "SequenceMatcher.set_seqs" (Value.none) (docE (at9 (clsB (at9 pw.main.body 5)) 2) 426) (.str (Str.ofString "cpy313.difflib") 194) 166
noncomputable def o173 (P : Params) : Obj := { cls := Value.type "code", data := Data.fields #[Value.str (Str.ofString "set_seq1") 428, Value.str (Str.ofString "SequenceMatcher.set_seq1") 429, Value.str (Str.ofString "/claim/cut.py") 430, Value.int 184 0, Value.int 2 0, Value.int 0 0, Value.int 0 0, Value.int 3 0, Value.ref 168, Value.bool true, Value.int 181 0, Value.ref 169, Value.none, Value.ref 170, Value.ref 171, Value.ref 172, Value.int 433 0, Value.int 184 0, Value.str (Str.ofString "/claim/cut.py") 434] }
noncomputable def o174 (P : Params) : Obj := fnO (at9 (clsB (at9 pw.main.body 5)) 3) "SequenceMatcher.set_seq1" (Value.none) (docE (at9 (clsB (at9 pw.main.body 5)) 3) 435) (.str (Str.ofString "cpy313.difflib") 194) 173
noncomputable def o180 (P : Params) : Obj := { cls := Value.type "code", data := Data.fields #[Value.str (Str.ofString "set_seq2") 437, Value.str (Str.ofString "SequenceMatcher.set_seq2") 438, Value.str (Str.ofString "/claim/cut.py") 439, Value.int 209 0, Value.int 2 0, Value.int 0 0, Value.int 0 0, Value.int 3 0, Value.ref 175, Value.bool true, Value.int 181 0, Value.ref 176, Value.none, Value.ref 177, Value.ref 178, Value.ref 179, Value.int 442 0, Value.int 209 0, Value.str (Str.ofString "/claim/cut.py") 443] }
noncomputable def o181 (P : Params) : Obj := fnO (at9 (clsB (at9 pw.main.body 5)) 4) "SequenceMatcher.set_seq2" (Value.none) (docE (at9 (clsB (at9 pw.main.body 5)) 4) 444) (.str (Str.ofString "cpy313.difflib") 194) 180
noncomputable def o187 (P : Params) : Obj := { cls := Value.type "code", data := Data.fields #[Value.str (Str.ofString "__chain_b") 446, Value.str (Str.ofString "SequenceMatcher.__chain_b") 447, Value.str (Str.ofString "/claim/cut.py") 448, Value.int 236 0, Value.int 1 0, Value.int 0 0, Value.int 0 0, Value.int 3 0, Value.ref 182, Value.bool true, Value.int 181 0, Value.ref 183, Value.none, Value.ref 184, Value.ref 185, Value.ref 186, Value.int 461 0, Value.int 236 0, Value.str (Str.ofString "/claim/cut.py") 462] }
noncomputable def o188 (P : Params) : Obj := fnO (at9 (clsB (at9 pw.main.body 5)) 5) "SequenceMatcher.__chain_b" (Value.none) .none (.str (Str.ofString "cpy313.difflib") 194) 187
noncomputable def o189 (P : Params) : Obj := { cls := Value.type "tuple", data := Data.seq #[Value.int 0 464, Value.none, Value.int 0 465, Value.none] }
noncomputable def o195 (P : Params) : Obj := { cls := Value.type "code", data := Data.fields #[Value.str (Str.ofString "find_longest_match") 466, Value.str (Str.ofString "SequenceMatcher.find_longest_match") 467, Value.str (Str.ofString "/claim/cut.py") 468, Value.int 260 0, Value.int 5 0, Value.int 0 0, Value.int 0 0, Value.int 3 0, Value.ref 190, Value.bool true, Value.int 181 0, Value.ref 191, Value.none, Value.ref 192, Value.ref 193, Value.ref 194, Value.int 488 0, Value.int 260 0, Value.str (Str.ofString "/claim/cut.py") 489] }
noncomputable def o196 (P : Params) : Obj := fnO (at9 (clsB (at9 pw.main.body 5)) 6) "SequenceMatcher.find_longest_match" (Value.ref 189) (docE (at9 (clsB (at9 pw.main.body 5)) 6) 490) (.str (Str.ofString "cpy313.difflib") 194) 195
noncomputable def o241 (P : Params) : Obj := { cls := Value.type "dict", data := Data.dict #[en P "__module__" 396 (Value.str (Str.ofString "cpy313.difflib") 194), en P "__firstlineno__" 400 (Value.int 70 399), en P "__doc__" 402 (Value.str docQ 401), en P "__init__" 417 (Value.ref 160), en P "set_seqs" 427 (Value.ref 167), en P "set_seq1" 436 (Value.ref 174), en P "set_seq2" 445 (Value.ref 181), en P "_SequenceMatcher__chain_b" 463 (Value.ref 188), en P "find_longest_match" 491 (Value.ref 196), en P "get_matching_blocks" 518 (Value.ref 203), en P "get_opcodes" 525 (Value.ref 210), en P "get_grouped_opcodes" 534 (Value.ref 218), en P "ratio" 543 (Value.ref 225), en P "quick_ratio" 550 (Value.ref 232), en P "real_quick_ratio" 557 (Value.ref 239), en P "__static_attributes__" 568 (Value.ref 240), en P "__dict__" 570 (Value.ref 243), en P "__weakref__" 572 (Value.ref 244)] 3 }
noncomputable def o242 (P : Params) : Obj := { cls := Value.type "type", data := Data.cls { name := Str.ofString "SequenceMatcher", bases := [Value.type "object"], mro := [Value.ref 242, Value.type "object"], ns := 241, qualname := Str.ofString "SequenceMatcher" }, slots := #[none, none, some (Value.str (Str.ofString "SequenceMatcher") 389), some (Value.str (Str.ofString "SequenceMatcher") 397), some (Value.builtin "object.__new__"), some (Value.bool true)] }
noncomputable def o260 (P : Params) : Obj := { cls := Value.type "code", data := Data.fields #[Value.str (Str.ofString "__init__") 599, Value.str (Str.ofString "_NodeInfo.__init__") 600, Value.str (Str.ofString "/claim/cut.py") 601, Value.int 424 0, Value.int 2 0, Value.int 0 0, Value.int 0 0, Value.int 3 0, Value.ref 255, Value.bool true, Value.int 181 0, Value.ref 256, Value.none, Value.ref 257, Value.ref 258, Value.ref 259, Value.int 604 0, Value.int 424 0, Value.str (Str.ofString "/claim/cut.py") 605] }
noncomputable def o261 (P : Params) : Obj := fnO (at9 (clsB (at9 pw.main.body 9)) 1) "_NodeInfo.__init__" (Value.none) .none (.str (Str.ofString "cpy313.graphlib") 575) 260
noncomputable def o262 (P : Params) : Obj := { cls := Value.type "tuple", data := Data.seq #[Value.str (Str.ofString "node") 607, Value.str (Str.ofString "npredecessors") 608, Value.str (Str.ofString "successors") 609] }
noncomputable def o264 (P : Params) : Obj := { cls := Value.type "dict", data := Data.dict #[en P "__module__" 590 (Value.str (Str.ofString "cpy313.graphlib") 575), en P "__firstlineno__" 594 (Value.int 421 593), en P "__slots__" 598 (Value.ref 254), en P "__init__" 606 (Value.ref 261), en P "__static_attributes__" 610 (Value.ref 262), en P "node" 612 (Value.ref 266), en P "npredecessors" 614 (Value.ref 267), en P "successors" 616 (Value.ref 268), en P "__doc__" 617 Value.none] 5 }
noncomputable def o265 (P : Params) : Obj := { cls := Value.type "type", data := Data.cls { name := Str.ofString "_NodeInfo", bases := [Value.type "object"], mro := [Value.ref 265, Value.type "object"], ns := 264, qualname := Str.ofString "_NodeInfo", hasDict := false, slotNames := [Str.ofString "node", Str.ofString "npredecessors", Str.ofString "successors"] }, slots := #[none, none, some (Value.str (Str.ofString "_NodeInfo") 583), some (Value.str (Str.ofString "_NodeInfo") 591), some (Value.builtin "object.__new__"), some (Value.bool false)] }
noncomputable def o266 (P : Params) : Obj := { cls := Value.type "member_descriptor", data := Data.fields #[Value.str (Str.ofString "node") 611, Value.ref 265, Value.builtin "proto.slot", Value.builtin "proto.slot#set", Value.int 2 0] }
noncomputable def o267 (P : Params) : Obj := { cls := Value.type "member_descriptor", data := Data.fields #[Value.str (Str.ofString "npredecessors") 613, Value.ref 265, Value.builtin "proto.slot", Value.builtin "proto.slot#set", Value.int 1 0] }
noncomputable def o268 (P : Params) : Obj := { cls := Value.type "member_descriptor", data := Data.fields #[Value.str (Str.ofString "successors") 615, Value.ref 265, Value.builtin "proto.slot", Value.builtin "proto.slot#set", Value.int 0 0] }
noncomputable def o279 (P : Params) : Obj := { cls := Value.type "dict", data := Data.dict #[en P "__module__" 627 (Value.str (Str.ofString "cpy313.graphlib") 575), en P "__firstlineno__" 631 (Value.int 428 630), en P "__doc__" 633 (Value.str docQ2 632), en P "__static_attributes__" 635 (Value.ref 278), en P "__weakref__" 637 (Value.ref 281)] 2 }
noncomputable def o280 (P : Params) : Obj := { cls := Value.type "type", data := Data.cls { name := Str.ofString "CycleError", bases := [Value.type "ValueError"], mro := [Value.ref 280, Value.type "ValueError", Value.type "Exception", Value.type "BaseException", Value.type "object"], ns := 279, qualname := Str.ofString "CycleError" }, slots := #[some (Value.ref 271), none, some (Value.str (Str.ofString "CycleError") 620), some (Value.str (Str.ofString "CycleError") 628), some (Value.builtin "ValueError.__new__"), some (Value.bool true)] }
noncomputable def o291 (P : Params) : Obj := { cls := Value.type "tuple", data := Data.seq #[Value.none] }
noncomputable def o297 (P : Params) : Obj := { cls := Value.type "code", data := Data.fields #[Value.str (Str.ofString "__init__") 655, Value.str (Str.ofString "TopologicalSorter.__init__") 656, Value.str (Str.ofString "/claim/cut.py") 657, Value.int 443 0, Value.int 2 0, Value.int 0 0, Value.int 0 0, Value.int 3 0, Value.ref 292, Value.bool true, Value.int 181 0, Value.ref 293, Value.none, Value.ref 294, Value.ref 295, Value.ref 296, Value.int 662 0, Value.int 443 0, Value.str (Str.ofString "/claim/cut.py") 663] }
noncomputable def o298 (P : Params) : Obj := fnO (at9 (clsB (at9 pw.main.body 11)) 1) "TopologicalSorter.__init__" (Value.ref 291) .none (.str (Str.ofString "cpy313.graphlib") 575) 297
noncomputable def o304 (P : Params) : Obj := { cls := Value.type "code", data := Data.fields #[Value.str (Str.ofString "_get_nodeinfo") 665, Value.str (Str.ofString "TopologicalSorter._get_nodeinfo") 666, Value.str (Str.ofString "/claim/cut.py") 667, Value.int 452 0, Value.int 2 0, Value.int 0 0, Value.int 0 0, Value.int 3 0, Value.ref 299, Value.bool true, Value.int 181 0, Value.ref 300, Value.none, Value.ref 301, Value.ref 302, Value.ref 303, Value.int 671 0, Value.int 452 0, Value.str (Str.ofString "/claim/cut.py") 672] }
noncomputable def o305 (P : Params) : Obj := fnO (at9 (clsB (at9 pw.main.body 11)) 2) "TopologicalSorter._get_nodeinfo" (Value.none) .none (.str (Str.ofString "cpy313.graphlib") 575) 304
noncomputable def o311 (P : Params) : Obj := { cls := Value.type "code", data := Data.fields #[Value.str (Str.ofString "add") 674, Value.str (Str.ofString "TopologicalSorter.add") 675, Value.str (Str.ofString "/claim/cut.py") 676, Value.int 457 0, Value.int 2 0, Value.int 0 0, Value.int 0 0, Value.int 7 0, Value.ref 306, Value.bool true, Value.int 181 0, Value.ref 307, Value.none, Value.ref 308, Value.ref 309, Value.ref 310, Value.int 683 0, Value.int 457 0, Value.str (Str.ofString "/claim/cut.py") 684] }
noncomputable def o312 (P : Params) : Obj := fnO (at9 (clsB (at9 pw.main.body 11)) 3) "TopologicalSorter.add" (Value.none) (docE (at9 (clsB (at9 pw.main.body 11)) 3) 685) (.str (Str.ofString "cpy313.graphlib") 575) 311
noncomputable def o316 (P : Params) : Obj := { cls := Value.type "code", data := Data.fields #[Value.str (Str.ofString "prepare") 687, Value.str (Str.ofString "TopologicalSorter.prepare") 688, Value.str (Str.ofString "/claim/cut.py") 689, Value.int 480 0, Value.int 1 0, Value.int 0 0, Value.int 0 0, Value.int 3 0, Value.ref 313, Value.bool true, Value.int 181 0, Value.ref 314, Value.none, Value.none, Value.none, Value.ref 315, Value.int 690 0, Value.int 480 0, Value.str (Str.ofString "/claim/cut.py") 691] }
noncomputable def o317 (P : Params) : Obj := fnO (at9 (clsB (at9 pw.main.body 11)) 4) "TopologicalSorter.prepare" (Value.none) (docE (at9 (clsB (at9 pw.main.body 11)) 4) 692) (.str (Str.ofString "cpy313.graphlib") 575) 316
noncomputable def o323 (P : Params) : Obj := { cls := Value.type "code", data := Data.fields #[Value.str (Str.ofString "get_ready") 694, Value.str (Str.ofString "TopologicalSorter.get_ready") 695, Value.str (Str.ofString "/claim/cut.py") 696, Value.int 495 0, Value.int 1 0, Value.int 0 0, Value.int 0 0, Value.int 3 0, Value.ref 318, Value.bool true, Value.int 181 0, Value.ref 319, Value.none, Value.ref 320, Value.ref 321, Value.ref 322, Value.int 701 0, Value.int 495 0, Value.str (Str.ofString "/claim/cut.py") 702] }
noncomputable def o324 (P : Params) : Obj := fnO (at9 (clsB (at9 pw.main.body 11)) 5) "TopologicalSorter.get_ready" (Value.none) (docE (at9 (clsB (at9 pw.main.body 11)) 5) 703) (.str (Str.ofString "cpy313.graphlib") 575) 323
noncomputable def o344 (P : Params) : Obj := { cls := Value.type "code", data := Data.fields #[Value.str (Str.ofString "done") 720, Value.str (Str.ofString "TopologicalSorter.done") 721, Value.str (Str.ofString "/claim/cut.py") 722, Value.int 532 0, Value.int 1 0, Value.int 0 0, Value.int 0 0, Value.int 7 0, Value.ref 339, Value.bool true, Value.int 181 0, Value.ref 340, Value.none, Value.ref 341, Value.ref 342, Value.ref 343, Value.int 731 0, Value.int 532 0, Value.str (Str.ofString "/claim/cut.py") 732] }
noncomputable def o345 (P : Params) : Obj := fnO (at9 (clsB (at9 pw.main.body 11)) 8) "TopologicalSorter.done" (Value.none) (docE (at9 (clsB (at9 pw.main.body 11)) 8) 733) (.str (Str.ofString "cpy313.graphlib") 575) 344
noncomputable def o351 (P : Params) : Obj := { cls := Value.type "code", data := Data.fields #[Value.str (Str.ofString "_find_cycle") 735, Value.str (Str.ofString "TopologicalSorter._find_cycle") 736, Value.str (Str.ofString "/claim/cut.py") 737, Value.int 565 0, Value.int 1 0, Value.int 0 0, Value.int 0 0, Value.int 3 0, Value.ref 346, Value.bool true, Value.int 181 0, Value.ref 347, Value.none, Value.ref 348, Value.ref 349, Value.ref 350, Value.int 745 0, Value.int 565 0, Value.str (Str.ofString "/claim/cut.py") 746] }
noncomputable def o352 (P : Params) : Obj := fnO (at9 (clsB (at9 pw.main.body 11)) 9) "TopologicalSorter._find_cycle" (Value.none) .none (.str (Str.ofString "cpy313.graphlib") 575) 351
noncomputable def o361 (P : Params) : Obj := { cls := Value.type "dict", data := Data.dict #[en P "__module__" 647 (Value.str (Str.ofString "cpy313.graphlib") 575), en P "__firstlineno__" 651 (Value.int 440 650), en P "__doc__" 653 (Value.str (Str.ofString "Provides functionality to topologically sort a graph of hashable nodes") 652), en P "__init__" 664 (Value.ref 298), en P "_get_nodeinfo" 673 (Value.ref 305), en P "add" 686 (Value.ref 312), en P "prepare" 693 (Value.ref 317), en P "get_ready" 704 (Value.ref 324), en P "is_active" 712 (Value.ref 331), en P "__bool__" 719 (Value.ref 338), en P "done" 734 (Value.ref 345), en P "_find_cycle" 747 (Value.ref 352), en P "static_order" 754 (Value.ref 359), en P "__static_attributes__" 759 (Value.ref 360), en P "__dict__" 761 (Value.ref 363), en P "__weakref__" 763 (Value.ref 364)] 3 }
noncomputable def o362 (P : Params) : Obj := { cls := Value.type "type", data := Data.cls { name := Str.ofString "TopologicalSorter", bases := [Value.type "object"], mro := [Value.ref 362, Value.type "object"], ns := 361, qualname := Str.ofString "TopologicalSorter" }, slots := #[none, none, some (Value.str (Str.ofString "TopologicalSorter") 640), some (Value.str (Str.ofString "TopologicalSorter") 648), some (Value.builtin "object.__new__"), some (Value.bool true)] }
noncomputable def o370 (P : Params) : Obj := { cls := Value.type "code", data := Data.fields #[Value.str (Str.ofString "_law_words") 768, Value.str (Str.ofString "_law_words") 769, Value.str (Str.ofString "/claim/cut.py") 770, Value.int 597 0, Value.int 1 0, Value.int 0 0, Value.int 0 0, Value.int 3 0, Value.ref 367, Value.bool true, Value.int 181 0, Value.ref 368, Value.none, Value.none, Value.none, Value.ref 369, Value.int 771 0, Value.int 597 0, Value.str (Str.ofString "/claim/cut.py") 772] }
noncomputable def o371 (P : Params) : Obj := fnO (at9 pw.main.body 13) "_law_words" (Value.none) .none (.str (Str.ofString "law_nq0317_01") 766) 370
noncomputable def o377 (P : Params) : Obj := { cls := Value.type "code", data := Data.fields #[Value.str (Str.ofString "_law_groups") 774, Value.str (Str.ofString "_law_groups") 775, Value.str (Str.ofString "/claim/cut.py") 776, Value.int 608 0, Value.int 1 0, Value.int 0 0, Value.int 0 0, Value.int 3 0, Value.ref 372, Value.bool true, Value.int 181 0, Value.ref 373, Value.none, Value.ref 374, Value.ref 375, Value.ref 376, Value.int 780 0, Value.int 608 0, Value.str (Str.ofString "/claim/cut.py") 781] }
noncomputable def o378 (P : Params) : Obj := fnO (at9 pw.main.body 14) "_law_groups" (Value.none) .none (.str (Str.ofString "law_nq0317_01") 766) 377
noncomputable def o382 (P : Params) : Obj := { cls := Value.type "code", data := Data.fields #[Value.str (Str.ofString "_law_chains") 783, Value.str (Str.ofString "_law_chains") 784, Value.str (Str.ofString "/claim/cut.py") 785, Value.int 616 0, Value.int 2 0, Value.int 0 0, Value.int 0 0, Value.int 3 0, Value.ref 379, Value.bool true, Value.int 181 0, Value.ref 380, Value.none, Value.none, Value.none, Value.ref 381, Value.int 786 0, Value.int 616 0, Value.str (Str.ofString "/claim/cut.py") 787] }
noncomputable def o383 (P : Params) : Obj := fnO (at9 pw.main.body 15) "_law_chains" (Value.none) .none (.str (Str.ofString "law_nq0317_01") 766) 382
noncomputable def o387 (P : Params) : Obj := { cls := Value.type "code", data := Data.fields #[Value.str (Str.ofString "_law_around") 789, Value.str (Str.ofString "_law_around") 790, Value.str (Str.ofString "/claim/cut.py") 791, Value.int 626 0, Value.int 2 0, Value.int 0 0, Value.int 0 0, Value.int 3 0, Value.ref 384, Value.bool true, Value.int 181 0, Value.ref 385, Value.none, Value.none, Value.none, Value.ref 386, Value.int 792 0, Value.int 626 0, Value.str (Str.ofString "/claim/cut.py") 793] }
noncomputable def o388 (P : Params) : Obj := fnO (at9 pw.main.body 16) "_law_around" (Value.none) .none (.str (Str.ofString "law_nq0317_01") 766) 387
noncomputable def o394 (P : Params) : Obj := { cls := Value.type "code", data := Data.fields #[Value.str (Str.ofString "_law_longest") 795, Value.str (Str.ofString "_law_longest") 796, Value.str (Str.ofString "/claim/cut.py") 797, Value.int 636 0, Value.int 2 0, Value.int 0 0, Value.int 0 0, Value.int 3 0, Value.ref 389, Value.bool true, Value.int 181 0, Value.ref 390, Value.none, Value.ref 391, Value.ref 392, Value.ref 393, Value.int 802 0, Value.int 636 0, Value.str (Str.ofString "/claim/cut.py") 803] }
noncomputable def o395 (P : Params) : Obj := fnO (at9 pw.main.body 17) "_law_longest" (Value.none) .none (.str (Str.ofString "law_nq0317_01") 766) 394
noncomputable def o399 (P : Params) : Obj := { cls := Value.type "code", data := Data.fields #[Value.str (Str.ofString "law") 805, Value.str (Str.ofString "law") 806, Value.str (Str.ofString "/claim/cut.py") 807, Value.int 642 0, Value.int 1 0, Value.int 0 0, Value.int 0 0, Value.int 3 0, Value.ref 396, Value.bool true, Value.int 181 0, Value.ref 397, Value.none, Value.none, Value.none, Value.ref 398, Value.int 808 0, Value.int 642 0, Value.str (Str.ofString "/claim/cut.py") 809] }
noncomputable def o400 (P : Params) : Obj := fnO (at9 pw.main.body 18) "law" (Value.none) .none (.str (Str.ofString "law_nq0317_01") 766) 399
noncomputable def K (P : Params) : Frag := by
 refine (fun (x2 x3 x65 x81 x82 x134 x135 x136 x153 x159 x160 x166 x167 x173 x174 x180 x181 x187 x188 x189 x195 x196 x241 x242 x260 x261 x262 x264 x265 x266 x267 x268 x279 x280 x291 x297 x298 x304 x305 x311 x312 x316 x317 x323 x324 x344 x345 x351 x352 x361 x362 x370 x371 x377 x378 x382 x383 x387 x388 x394 x395 x399 x400 : Obj) (_ : [o2 P, o3 P, o65 P, o81 P, o82 P, o134 P, o135 P, o136 P, o153 P, o159 P, o160 P, o166 P, o167 P, o173 P, o174 P, o180 P, o181 P, o187 P, o188 P, o189 P, o195 P, o196 P, o241 P, o242 P, o260 P, o261 P, o262 P, o264 P, o265 P, o266 P, o267 P, o268 P, o279 P, o280 P, o291 P, o297 P, o298 P, o304 P, o305 P, o311 P, o312 P, o316 P, o317 P, o323 P, o324 P, o344 P, o345 P, o351 P, o352 P, o361 P, o362 P, o370 P, o371 P, o377 P, o378 P, o382 P, o383 P, o387 P, o388 P, o394 P, o395 P, o399 P, o400 P] = [x2, x3, x65, x81, x82, x134, x135, x136, x153, x159, x160, x166, x167, x173, x174, x180, x181, x187, x188, x189, x195, x196, x241, x242, x260, x261, x262, x264, x265, x266, x267, x268, x279, x280, x291, x297, x298, x304, x305, x311, x312, x316, x317, x323, x324, x344, x345, x351, x352, x361, x362, x370, x371, x377, x378, x382, x383, x387, x388, x394, x395, x399, x400]) => (nat_lit 2, x2) :: (nat_lit 3, x3) :: (nat_lit 65, x65) :: (nat_lit 81, x81) :: (nat_lit 82, x82) :: (nat_lit 134, x134) :: (nat_lit 135, x135) :: (nat_lit 136, x136) :: (nat_lit 153, x153) :: (nat_lit 159, x159) :: (nat_lit 160, x160) :: (nat_lit 166, x166) :: (nat_lit 167, x167) :: (nat_lit 173, x173) :: (nat_lit 174, x174) :: (nat_lit 180, x180) :: (nat_lit 181, x181) :: (nat_lit 187, x187) :: (nat_lit 188, x188) :: (nat_lit 189, x189) :: (nat_lit 195, x195) :: (nat_lit 196, x196) :: (nat_lit 241, x241) :: (nat_lit 242, x242) :: (nat_lit 260, x260) :: (nat_lit 261, x261) :: (nat_lit 262, x262) :: (nat_lit 264, x264) :: (nat_lit 265, x265) :: (nat_lit 266, x266) :: (nat_lit 267, x267) :: (nat_lit 268, x268) :: (nat_lit 279, x279) :: (nat_lit 280, x280) :: (nat_lit 291, x291) :: (nat_lit 297, x297) :: (nat_lit 298, x298) :: (nat_lit 304, x304) :: (nat_lit 305, x305) :: (nat_lit 311, x311) :: (nat_lit 312, x312) :: (nat_lit 316, x316) :: (nat_lit 317, x317) :: (nat_lit 323, x323) :: (nat_lit 324, x324) :: (nat_lit 344, x344) :: (nat_lit 345, x345) :: (nat_lit 351, x351) :: (nat_lit 352, x352) :: (nat_lit 361, x361) :: (nat_lit 362, x362) :: (nat_lit 370, x370) :: (nat_lit 371, x371) :: (nat_lit 377, x377) :: (nat_lit 378, x378) :: (nat_lit 382, x382) :: (nat_lit 383, x383) :: (nat_lit 387, x387) :: (nat_lit 388, x388) :: (nat_lit 394, x394) :: (nat_lit 395, x395) :: (nat_lit 399, x399) :: (nat_lit 400, x400) :: []) ?x2 ?x3 ?x65 ?x81 ?x82 ?x134 ?x135 ?x136 ?x153 ?x159 ?x160 ?x166 ?x167 ?x173 ?x174 ?x180 ?x181 ?x187 ?x188 ?x189 ?x195 ?x196 ?x241 ?x242 ?x260 ?x261 ?x262 ?x264 ?x265 ?x266 ?x267 ?x268 ?x279 ?x280 ?x291 ?x297 ?x298 ?x304 ?x305 ?x311 ?x312 ?x316 ?x317 ?x323 ?x324 ?x344 ?x345 ?x351 ?x352 ?x361 ?x362 ?x370 ?x371 ?x377 ?x378 ?x382 ?x383 ?x387 ?x388 ?x394 ?x395 ?x399 ?x400 ?h
 case h =>
  delta o2 o3 o65 o81 o82 o134 o135 o136 o153 o159 o160 o166 o167 o173 o174 o180 o181 o187 o188 o189 o195 o196 o241 o242 o260 o261 o262 o264 o265 o266 o267 o268 o279 o280 o291 o297 o298 o304 o305 o311 o312 o316 o317 o323 o324 o344 o345 o351 o352 o361 o362 o370 o371 o377 o378 o382 o383 o387 o388 o394 o395 o399 o400 PySem.W.boot_o_2
  dsimp only [en, fnO, docE, pw, PySem.Challenge.pw_nq0317_01, at9, clsB]
  rfl
noncomputable def asK : List Addr := [2, 3, 65, 81, 82, 134, 135, 136, 153, 159, 160, 166, 167, 173, 174, 180, 181, 187, 188, 189, 195, 196, 241, 242, 260, 261, 262, 264, 265, 266, 267, 268, 279, 280, 291, 297, 298, 304, 305, 311, 312, 316, 317, 323, 324, 344, 345, 351, 352, 361, 362, 370, 371, 377, 378, 382, 383, 387, 388, 394, 395, 399, 400]
theorem asK_is (P : Params) : asK = (K P).map (·.1) := by kernel_rfl
noncomputable def q : Program := view PySem.Challenge.pw_nq0317_01 [0, 2, 3, 4, 5, 7, 8, 9, 10, 11, 13, 14, 15, 16, 17, 18]
noncomputable abbrev loose : List Str := [Str.ofString "_tuplegetter", Str.ofString "Match", Str.ofString "SequenceMatcher", Str.ofString "_NodeInfo"]
noncomputable abbrev sF (w : World) (os : OsState) : Shared := ⟨heapR w.params, Array.mk [], {}, 811, os⟩
noncomputable abbrev row : OpenRow := rw_nq0317_01.row
noncomputable abbrev Xt : Shared → Bool := fun s => xlAt q [] s && recOk (RowW.records row.toRowW) s
noncomputable abbrev H : Hook := kHook K asK asK_is
theorem looks (w : World) (os : OsState) : ((staticsOk (importedModules pw.main.body) (boot_heap w.params) (heapR w.params) && namesBound pw (heapR w.params) && gensDone (sF w os) && laidKept (boot_heap w.params) (heapR w.params)), openSeen q loose (importedModules pw.main.body) Xt true (sF w os), asK.map (sF w os).heap.get?) = (true, openGood q loose, (K w.params).map fun p => some p.2) := by kernel_rfl
theorem size (w : World) : ((boot_heap w.params).isNs mainGlobals && (Array.mk ([] : List GenState)).size == 0, (boot_heap w.params).objs.size, (boot_heap w.params).nsMap mainGlobals "__annotations__") = (true, 11, ann) := by kernel_rfl
theorem left : LeftO pw q loose Xt H.obs H.val 6700 :=
 LeftO.of_pieces (H₀ := boot_heap) (H₁ := heapR) (gs₀ := Array.mk []) (gs₁ := Array.mk []) (d₀ := boot_drawn) (d₁ := {}) (k₀ := boot_toks) (k₁ := 811) (m₀ := 11) (ann := ann) (M := 12 + (1 + (3300 + 5)))
  (boot_open (by kernel_rfl) (by decide) (fun s => by kernel_rfl)) size run (by decide)
  (fun w => funext (looks w))
structure Stop (p : Prop) : Prop where
 out : p
theorem stopped {p : Prop} (h : Stop p) : p := h.out
theorem nsub {h₀ h : Heap} {L : Addr} {news news' : List (Addr × Obj)} (N : News h₀ L h news) (hs : ∀ p ∈ news', p ∈ news) : News h₀ L h news' := fun p hp => N p (hs p hp)
theorem le_c {a b c : Nat} (h : a ≤ b) (e : Nat.ble b c = true) : a ≤ c := Nat.le_trans h (nbl e)
theorem z13 {z : Nat} (h : z ≤ 4) : z - 1 ≤ 3 := Nat.sub_le_sub_right h 1
theorem sub3 (a b c : Int) : a - (b - c) = a - b + c := by omega
theorem neg1 {n : Nat} (h : 0 < n) : ((-1 : Int) + (n : Int)).toNat = n - 1 := by
 cases n with
 | zero => cases h
 | succ n =>
  rw [Int.natCast_succ, Int.add_comm, Int.add_neg_cancel_right]
  rfl
theorem lt_z {z t : Nat} (h : 2 ≤ z) : t < 1 + (z - 1) ↔ t < z := by rw [Nat.add_sub_cancel' (Nat.le_trans (Nat.le_succ 1) h)]
theorem ip0 {z : Nat} : min (2 * z - 2) (z + z - 1) = 2 * z - 2 := Nat.min_eq_left (by rw [Nat.two_mul]; exact Nat.sub_le_sub_left (Nat.le_succ 1) _)
theorem mc1 {α : Type} {a b : α} {l : List α} (h : a ∈ b :: l) : a = b ∨ a ∈ l := List.mem_cons.mp h
theorem ms1 {α : Type} {a b : α} (h : a ∈ [b]) : a = b := List.mem_singleton.mp h
theorem mm1 {α β : Type} {b : β} {l : List α} {f : α → β} (h : b ∈ l.map f) : ∃ a, a ∈ l ∧ f a = b := List.mem_map.mp h
theorem mm2 {α β : Type} {b : β} {l : List α} {f : α → β} (h : ∃ a, a ∈ l ∧ f a = b) : b ∈ l.map f := List.mem_map.mpr h
theorem fc1 {α : Type} {p : α → Prop} {a : α} {l : List α} (h : p a ∧ ∀ x, x ∈ l → p x) : ∀ x, x ∈ a :: l → p x := List.forall_mem_cons.mpr h
theorem fs1 {α : Type} {p : α → Prop} {a : α} (h : p a) : ∀ x, x ∈ [a] → p x := List.forall_mem_singleton.mpr h
theorem nc1 {α : Type} {a : α} {l : List α} (h : (a :: l).Nodup) : ¬a ∈ l ∧ l.Nodup := List.nodup_cons.mp h
theorem maR {α : Type} {a : α} {bs : List α} (as : List α) (h : a ∈ bs) : a ∈ as ++ bs := List.mem_append_right as h
theorem maL {α : Type} {a : α} {as : List α} (bs : List α) (h : a ∈ as) : a ∈ as ++ bs := List.mem_append_left bs h
theorem mf1 {α : Type} {a : α} {l : List α} {p : α → Bool} (h : a ∈ l.filter p) : a ∈ l ∧ p a = true := List.mem_filter.mp h
theorem mH1 {α : Type} {x a : α} {l : List α} : x ∈ a :: x :: l := .tail _ (.head _)
theorem mT2 {α : Type} {x a b : α} {l : List α} (hm : x ∈ l) : x ∈ a :: b :: l := .tail _ (.tail _ hm)
theorem mH2 {α : Type} {x a b : α} {l : List α} : x ∈ a :: b :: x :: l := .tail _ (.tail _ (.head _))
theorem mT3 {α : Type} {x a b c : α} {l : List α} (hm : x ∈ l) : x ∈ a :: b :: c :: l := .tail _ (.tail _ (.tail _ hm))
theorem mH3 {α : Type} {x a b c : α} {l : List α} : x ∈ a :: b :: c :: x :: l := .tail _ (.tail _ (.tail _ (.head _)))
theorem mT4 {α : Type} {x a b c d : α} {l : List α} (hm : x ∈ l) : x ∈ a :: b :: c :: d :: l := .tail _ (.tail _ (.tail _ (.tail _ hm)))
theorem mH4 {α : Type} {x a b c d : α} {l : List α} : x ∈ a :: b :: c :: d :: x :: l := .tail _ (.tail _ (.tail _ (.tail _ (.head _))))
theorem mT5 {α : Type} {x a b c d e : α} {l : List α} (hm : x ∈ l) : x ∈ a :: b :: c :: d :: e :: l := .tail _ (.tail _ (.tail _ (.tail _ (.tail _ hm))))
theorem mH5 {α : Type} {x a b c d e : α} {l : List α} : x ∈ a :: b :: c :: d :: e :: x :: l := .tail _ (.tail _ (.tail _ (.tail _ (.tail _ (.head _)))))
theorem mT6 {α : Type} {x a b c d e f : α} {l : List α} (hm : x ∈ l) : x ∈ a :: b :: c :: d :: e :: f :: l := .tail _ (.tail _ (.tail _ (.tail _ (.tail _ (.tail _ hm)))))
theorem mH6 {α : Type} {x a b c d e f : α} {l : List α} : x ∈ a :: b :: c :: d :: e :: f :: x :: l := .tail _ (.tail _ (.tail _ (.tail _ (.tail _ (.tail _ (.head _))))))
theorem mT7 {α : Type} {x a b c d e f g : α} {l : List α} (hm : x ∈ l) : x ∈ a :: b :: c :: d :: e :: f :: g :: l := .tail _ (.tail _ (.tail _ (.tail _ (.tail _ (.tail _ (.tail _ hm))))))
theorem mH7 {α : Type} {x a b c d e f g : α} {l : List α} : x ∈ a :: b :: c :: d :: e :: f :: g :: x :: l := .tail _ (.tail _ (.tail _ (.tail _ (.tail _ (.tail _ (.tail _ (.head _)))))))
theorem mT8 {α : Type} {x a b c d e f g i : α} {l : List α} (hm : x ∈ l) : x ∈ a :: b :: c :: d :: e :: f :: g :: i :: l := .tail _ (.tail _ (.tail _ (.tail _ (.tail _ (.tail _ (.tail _ (.tail _ hm)))))))
theorem mH8 {α : Type} {x a b c d e f g i : α} {l : List α} : x ∈ a :: b :: c :: d :: e :: f :: g :: i :: x :: l := .tail _ (.tail _ (.tail _ (.tail _ (.tail _ (.tail _ (.tail _ (.tail _ (.head _))))))))
theorem mT9 {α : Type} {x a b c d e f g i j : α} {l : List α} (hm : x ∈ l) : x ∈ a :: b :: c :: d :: e :: f :: g :: i :: j :: l := .tail _ (.tail _ (.tail _ (.tail _ (.tail _ (.tail _ (.tail _ (.tail _ (.tail _ hm))))))))
theorem mH9 {α : Type} {x a b c d e f g i j : α} {l : List α} : x ∈ a :: b :: c :: d :: e :: f :: g :: i :: j :: x :: l := .tail _ (.tail _ (.tail _ (.tail _ (.tail _ (.tail _ (.tail _ (.tail _ (.tail _ (.head _)))))))))
theorem mT10 {α : Type} {x a b c d e f g i j k : α} {l : List α} (hm : x ∈ l) : x ∈ a :: b :: c :: d :: e :: f :: g :: i :: j :: k :: l := .tail _ (.tail _ (.tail _ (.tail _ (.tail _ (.tail _ (.tail _ (.tail _ (.tail _ (.tail _ hm)))))))))
theorem mH10 {α : Type} {x a b c d e f g i j k : α} {l : List α} : x ∈ a :: b :: c :: d :: e :: f :: g :: i :: j :: k :: x :: l := .tail _ (.tail _ (.tail _ (.tail _ (.tail _ (.tail _ (.tail _ (.tail _ (.tail _ (.tail _ (.head _))))))))))
theorem sbc {α : Type} {a : α} {l big : List α} (h : a ∈ big) (hl : ∀ q ∈ l, q ∈ big) : ∀ q ∈ a :: l, q ∈ big := List.forall_mem_cons.mpr ⟨h, hl⟩
theorem mst {α : Type} {q a : α} {l big : List α} (h : q ∈ a :: l) (ha : a ∈ big) (hl : q ∈ l → q ∈ big) : q ∈ big := (List.mem_cons.mp h).elim (fun e => e ▸ ha) hl
@[elab_as_elim] theorem asp {α : Type} {a : α} {l : List α} {P : α → Prop} {q : α} (h : q ∈ a :: l) (ha : P a) (hl : q ∈ l → P q) : P q := (List.mem_cons.mp h).elim (fun e => e ▸ ha) hl
theorem ast {α : Type} {q : α} {l r : List α} {G : Prop} (h : q ∈ l ++ r) (h1 : q ∈ l → G) (h2 : q ∈ r → G) : G := (List.mem_append.mp h).elim h1 h2
theorem or3 {α : Type} {q a b : α} {l big : List α} (h : q = a ∨ q = b ∨ q ∈ l) (ha : a ∈ big) (hb : b ∈ big) (hl : q ∈ l → q ∈ big) : q ∈ big := h.elim (fun e => e ▸ ha) fun h => h.elim (fun e => e ▸ hb) hl
theorem iff_subs {α : Type} {l t : List α} {a b : α} (h1 : ∀ q ∈ l, q ∈ a :: b :: t) (h2 : ∀ q ∈ a :: b :: t, q ∈ l) (q : α) : q ∈ l ↔ q = a ∨ q = b ∨ q ∈ t :=
 ⟨fun h => (List.mem_cons.mp (h1 q h)).elim .inl fun h => .inr (List.mem_cons.mp h), fun h => h2 q (h.elim (fun e => e ▸ .head _) fun h => h.elim (fun e => e ▸ .tail _ (.head _)) fun h => .tail _ (.tail _ h))⟩
theorem memI {α : Type} {l : List α} {a : α} (i : Nat) (h : l[i]? = some a) : a ∈ l := List.mem_of_getElem? h
theorem el0_2 {p0 p1 : Prop} {G : Prop} (h : p0 ∧ p1) (f : p0 → p1 → G) : G := by obtain ⟨h0, h1⟩ := h; exact f h0 h1
theorem el0_3 {p0 p1 p2 : Prop} {G : Prop} (h : p0 ∧ p1 ∧ p2) (f : p0 → p1 → p2 → G) : G := by obtain ⟨h0, h1, h2⟩ := h; exact f h0 h1 h2
theorem el0_4 {p0 p1 p2 p3 : Prop} {G : Prop} (h : p0 ∧ p1 ∧ p2 ∧ p3) (f : p0 → p1 → p2 → p3 → G) : G := by obtain ⟨h0, h1, h2, h3⟩ := h; exact f h0 h1 h2 h3
theorem el0_5 {p0 p1 p2 p3 p4 : Prop} {G : Prop} (h : p0 ∧ p1 ∧ p2 ∧ p3 ∧ p4) (f : p0 → p1 → p2 → p3 → p4 → G) : G := by obtain ⟨h0, h1, h2, h3, h4⟩ := h; exact f h0 h1 h2 h3 h4
theorem el0_6 {p0 p1 p2 p3 p4 p5 : Prop} {G : Prop} (h : p0 ∧ p1 ∧ p2 ∧ p3 ∧ p4 ∧ p5) (f : p0 → p1 → p2 → p3 → p4 → p5 → G) : G := by obtain ⟨h0, h1, h2, h3, h4, h5⟩ := h; exact f h0 h1 h2 h3 h4 h5
theorem el0_7 {p0 p1 p2 p3 p4 p5 p6 : Prop} {G : Prop} (h : p0 ∧ p1 ∧ p2 ∧ p3 ∧ p4 ∧ p5 ∧ p6) (f : p0 → p1 → p2 → p3 → p4 → p5 → p6 → G) : G := by obtain ⟨h0, h1, h2, h3, h4, h5, h6⟩ := h; exact f h0 h1 h2 h3 h4 h5 h6
theorem el0_8 {p0 p1 p2 p3 p4 p5 p6 p7 : Prop} {G : Prop} (h : p0 ∧ p1 ∧ p2 ∧ p3 ∧ p4 ∧ p5 ∧ p6 ∧ p7) (f : p0 → p1 → p2 → p3 → p4 → p5 → p6 → p7 → G) : G := by obtain ⟨h0, h1, h2, h3, h4, h5, h6, h7⟩ := h; exact f h0 h1 h2 h3 h4 h5 h6 h7
theorem el1_1 {α0 : Sort u0} {p0 : α0 → Prop} {G : Prop} (h : ∃ a0, p0 a0) (f : ∀ a0, p0 a0 → G) : G := by obtain ⟨a0, h0⟩ := h; exact f a0 h0
theorem el1_2 {α0 : Sort u0} {p0 p1 : α0 → Prop} {G : Prop} (h : ∃ a0, p0 a0 ∧ p1 a0) (f : ∀ a0, p0 a0 → p1 a0 → G) : G := by obtain ⟨a0, h0, h1⟩ := h; exact f a0 h0 h1
theorem el1_3 {α0 : Sort u0} {p0 p1 p2 : α0 → Prop} {G : Prop} (h : ∃ a0, p0 a0 ∧ p1 a0 ∧ p2 a0) (f : ∀ a0, p0 a0 → p1 a0 → p2 a0 → G) : G := by obtain ⟨a0, h0, h1, h2⟩ := h; exact f a0 h0 h1 h2
theorem el1_4 {α0 : Sort u0} {p0 p1 p2 p3 : α0 → Prop} {G : Prop} (h : ∃ a0, p0 a0 ∧ p1 a0 ∧ p2 a0 ∧ p3 a0) (f : ∀ a0, p0 a0 → p1 a0 → p2 a0 → p3 a0 → G) : G := by obtain ⟨a0, h0, h1, h2, h3⟩ := h; exact f a0 h0 h1 h2 h3
theorem el1_5 {α0 : Sort u0} {p0 p1 p2 p3 p4 : α0 → Prop} {G : Prop} (h : ∃ a0, p0 a0 ∧ p1 a0 ∧ p2 a0 ∧ p3 a0 ∧ p4 a0) (f : ∀ a0, p0 a0 → p1 a0 → p2 a0 → p3 a0 → p4 a0 → G) : G := by obtain ⟨a0, h0, h1, h2, h3, h4⟩ := h; exact f a0 h0 h1 h2 h3 h4
theorem el2_1 {α0 : Sort u0} {α1 : Sort u1} {p0 : α0 → α1 → Prop} {G : Prop} (h : ∃ a0 a1, p0 a0 a1) (f : ∀ a0 a1, p0 a0 a1 → G) : G := by obtain ⟨a0, a1, h0⟩ := h; exact f a0 a1 h0
theorem el2_2 {α0 : Sort u0} {α1 : Sort u1} {p0 p1 : α0 → α1 → Prop} {G : Prop} (h : ∃ a0 a1, p0 a0 a1 ∧ p1 a0 a1) (f : ∀ a0 a1, p0 a0 a1 → p1 a0 a1 → G) : G := by obtain ⟨a0, a1, h0, h1⟩ := h; exact f a0 a1 h0 h1
theorem el2_3 {α0 : Sort u0} {α1 : Sort u1} {p0 p1 p2 : α0 → α1 → Prop} {G : Prop} (h : ∃ a0 a1, p0 a0 a1 ∧ p1 a0 a1 ∧ p2 a0 a1) (f : ∀ a0 a1, p0 a0 a1 → p1 a0 a1 → p2 a0 a1 → G) : G := by obtain ⟨a0, a1, h0, h1, h2⟩ := h; exact f a0 a1 h0 h1 h2
theorem el2_5 {α0 : Sort u0} {α1 : Sort u1} {p0 p1 p2 p3 p4 : α0 → α1 → Prop} {G : Prop} (h : ∃ a0 a1, p0 a0 a1 ∧ p1 a0 a1 ∧ p2 a0 a1 ∧ p3 a0 a1 ∧ p4 a0 a1) (f : ∀ a0 a1, p0 a0 a1 → p1 a0 a1 → p2 a0 a1 → p3 a0 a1 → p4 a0 a1 → G) : G := by obtain ⟨a0, a1, h0, h1, h2, h3, h4⟩ := h; exact f a0 a1 h0 h1 h2 h3 h4
theorem el3_2 {α0 : Sort u0} {α1 : Sort u1} {α2 : Sort u2} {p0 p1 : α0 → α1 → α2 → Prop} {G : Prop} (h : ∃ a0 a1 a2, p0 a0 a1 a2 ∧ p1 a0 a1 a2) (f : ∀ a0 a1 a2, p0 a0 a1 a2 → p1 a0 a1 a2 → G) : G := by obtain ⟨a0, a1, a2, h0, h1⟩ := h; exact f a0 a1 a2 h0 h1
theorem el3_3 {α0 : Sort u0} {α1 : Sort u1} {α2 : Sort u2} {p0 p1 p2 : α0 → α1 → α2 → Prop} {G : Prop} (h : ∃ a0 a1 a2, p0 a0 a1 a2 ∧ p1 a0 a1 a2 ∧ p2 a0 a1 a2) (f : ∀ a0 a1 a2, p0 a0 a1 a2 → p1 a0 a1 a2 → p2 a0 a1 a2 → G) : G := by obtain ⟨a0, a1, a2, h0, h1, h2⟩ := h; exact f a0 a1 a2 h0 h1 h2
theorem el3_4 {α0 : Sort u0} {α1 : Sort u1} {α2 : Sort u2} {p0 p1 p2 p3 : α0 → α1 → α2 → Prop} {G : Prop} (h : ∃ a0 a1 a2, p0 a0 a1 a2 ∧ p1 a0 a1 a2 ∧ p2 a0 a1 a2 ∧ p3 a0 a1 a2) (f : ∀ a0 a1 a2, p0 a0 a1 a2 → p1 a0 a1 a2 → p2 a0 a1 a2 → p3 a0 a1 a2 → G) : G := by obtain ⟨a0, a1, a2, h0, h1, h2, h3⟩ := h; exact f a0 a1 a2 h0 h1 h2 h3
theorem el3_6 {α0 : Sort u0} {α1 : Sort u1} {α2 : Sort u2} {p0 p1 p2 p3 p4 p5 : α0 → α1 → α2 → Prop} {G : Prop} (h : ∃ a0 a1 a2, p0 a0 a1 a2 ∧ p1 a0 a1 a2 ∧ p2 a0 a1 a2 ∧ p3 a0 a1 a2 ∧ p4 a0 a1 a2 ∧ p5 a0 a1 a2) (f : ∀ a0 a1 a2, p0 a0 a1 a2 → p1 a0 a1 a2 → p2 a0 a1 a2 → p3 a0 a1 a2 → p4 a0 a1 a2 → p5 a0 a1 a2 → G) : G := by obtain ⟨a0, a1, a2, h0, h1, h2, h3, h4, h5⟩ := h; exact f a0 a1 a2 h0 h1 h2 h3 h4 h5
theorem el4_3 {α0 : Sort u0} {α1 : Sort u1} {α2 : Sort u2} {α3 : Sort u3} {p0 p1 p2 : α0 → α1 → α2 → α3 → Prop} {G : Prop} (h : ∃ a0 a1 a2 a3, p0 a0 a1 a2 a3 ∧ p1 a0 a1 a2 a3 ∧ p2 a0 a1 a2 a3) (f : ∀ a0 a1 a2 a3, p0 a0 a1 a2 a3 → p1 a0 a1 a2 a3 → p2 a0 a1 a2 a3 → G) : G := by obtain ⟨a0, a1, a2, a3, h0, h1, h2⟩ := h; exact f a0 a1 a2 a3 h0 h1 h2
theorem el4_4 {α0 : Sort u0} {α1 : Sort u1} {α2 : Sort u2} {α3 : Sort u3} {p0 p1 p2 p3 : α0 → α1 → α2 → α3 → Prop} {G : Prop} (h : ∃ a0 a1 a2 a3, p0 a0 a1 a2 a3 ∧ p1 a0 a1 a2 a3 ∧ p2 a0 a1 a2 a3 ∧ p3 a0 a1 a2 a3) (f : ∀ a0 a1 a2 a3, p0 a0 a1 a2 a3 → p1 a0 a1 a2 a3 → p2 a0 a1 a2 a3 → p3 a0 a1 a2 a3 → G) : G := by obtain ⟨a0, a1, a2, a3, h0, h1, h2, h3⟩ := h; exact f a0 a1 a2 a3 h0 h1 h2 h3
theorem el5_5 {α0 : Sort u0} {α1 : Sort u1} {α2 : Sort u2} {α3 : Sort u3} {α4 : Sort u4} {p0 p1 p2 p3 p4 : α0 → α1 → α2 → α3 → α4 → Prop} {G : Prop} (h : ∃ a0 a1 a2 a3 a4, p0 a0 a1 a2 a3 a4 ∧ p1 a0 a1 a2 a3 a4 ∧ p2 a0 a1 a2 a3 a4 ∧ p3 a0 a1 a2 a3 a4 ∧ p4 a0 a1 a2 a3 a4) (f : ∀ a0 a1 a2 a3 a4, p0 a0 a1 a2 a3 a4 → p1 a0 a1 a2 a3 a4 → p2 a0 a1 a2 a3 a4 → p3 a0 a1 a2 a3 a4 → p4 a0 a1 a2 a3 a4 → G) : G := by obtain ⟨a0, a1, a2, a3, a4, h0, h1, h2, h3, h4⟩ := h; exact f a0 a1 a2 a3 a4 h0 h1 h2 h3 h4
theorem el6_3 {α0 : Sort u0} {α1 : Sort u1} {α2 : Sort u2} {α3 : Sort u3} {α4 : Sort u4} {α5 : Sort u5} {p0 p1 p2 : α0 → α1 → α2 → α3 → α4 → α5 → Prop} {G : Prop} (h : ∃ a0 a1 a2 a3 a4 a5, p0 a0 a1 a2 a3 a4 a5 ∧ p1 a0 a1 a2 a3 a4 a5 ∧ p2 a0 a1 a2 a3 a4 a5) (f : ∀ a0 a1 a2 a3 a4 a5, p0 a0 a1 a2 a3 a4 a5 → p1 a0 a1 a2 a3 a4 a5 → p2 a0 a1 a2 a3 a4 a5 → G) : G := by obtain ⟨a0, a1, a2, a3, a4, a5, h0, h1, h2⟩ := h; exact f a0 a1 a2 a3 a4 a5 h0 h1 h2
theorem el7_7 {α0 : Sort u0} {α1 : Sort u1} {α2 : Sort u2} {α3 : Sort u3} {α4 : Sort u4} {α5 : Sort u5} {α6 : Sort u6} {p0 p1 p2 p3 p4 p5 p6 : α0 → α1 → α2 → α3 → α4 → α5 → α6 → Prop} {G : Prop} (h : ∃ a0 a1 a2 a3 a4 a5 a6, p0 a0 a1 a2 a3 a4 a5 a6 ∧ p1 a0 a1 a2 a3 a4 a5 a6 ∧ p2 a0 a1 a2 a3 a4 a5 a6 ∧ p3 a0 a1 a2 a3 a4 a5 a6 ∧ p4 a0 a1 a2 a3 a4 a5 a6 ∧ p5 a0 a1 a2 a3 a4 a5 a6 ∧ p6 a0 a1 a2 a3 a4 a5 a6) (f : ∀ a0 a1 a2 a3 a4 a5 a6, p0 a0 a1 a2 a3 a4 a5 a6 → p1 a0 a1 a2 a3 a4 a5 a6 → p2 a0 a1 a2 a3 a4 a5 a6 → p3 a0 a1 a2 a3 a4 a5 a6 → p4 a0 a1 a2 a3 a4 a5 a6 → p5 a0 a1 a2 a3 a4 a5 a6 → p6 a0 a1 a2 a3 a4 a5 a6 → G) : G := by obtain ⟨a0, a1, a2, a3, a4, a5, a6, h0, h1, h2, h3, h4, h5, h6⟩ := h; exact f a0 a1 a2 a3 a4 a5 a6 h0 h1 h2 h3 h4 h5 h6
theorem inv_end {σ : Type} {Led : σ → List (Addr × Obj)} {ps : σ → List (Str × Value)} {Facts : σ → Prop} {x : Str} {stored : List Str} {m₀ m' : Str → Option Value} {P : List Int → σ → Prop} {pre : List Int} {own news' : List (Addr × Obj)} {adr : List Addr} {h₀ h' : Heap} {L : Addr} {s : Shared} {tk' : Nat}
  (c : σ) (F : Fr h₀ L h' m') (N : News h₀ L h' news') (hnx : ∀ p ∈ Led c, p ∈ news') (hown : ∀ p ∈ own, p ∈ news') (hadr : (Led c).map (·.1) = adr) (hf : Facts c) (hps : ∀ p ∈ ps c, m' p.1 = some p.2)
  (hz : ∀ z, z ≠ x → (∀ p ∈ ps c, z ≠ p.1) → stored.contains z = false → m' z = m₀ z) (hp : P pre c) :
  InvEndN h₀ L (KstS Led ps Facts x stored m₀ P pre) own adr s { s with heap := h', toks := tk' } :=
 ⟨h', tk', m', news', Led c, rfl, F, N, hnx, hown, hadr, c, rfl, hf, hps, hz, hp⟩
theorem ne_rev {z x : Str} {l : List Str} (h : l.contains z = false) (n : l.contains x = true) : z ≠ x := fun e => by rw [e, n] at h; cases h
theorem gen_ {α : Sort u0} {P : Prop} (a : α) (k : ∀ x, x = a → P) : P := k a rfl
def TurnEnd (h₀ : Heap) (L : Addr) (wr : List Addr) (own : List (Addr × Obj)) (J : (Str → Option Value) → List (Addr × Obj) → Prop) (s₁ s₂ : Shared) : Prop :=
 ∃ h' tk m' news' nx, s₂ = { s₁ with heap := h', toks := tk } ∧ Fr h₀ L h' m' ∧ News h₀ L h' news' ∧ (∀ p ∈ nx, p ∈ news') ∧ (∀ p ∈ own, p ∈ news') ∧ (∀ p ∈ nx, p.1 ∉ wr) ∧ J m' nx
def TurnPost (h₀ : Heap) (L : Addr) (wr : List Addr) (own : List (Addr × Obj)) (J : (Str → Option Value) → List (Addr × Obj) → Prop) (s₁ : Shared) (Q : Flow → Shared → Prop) (f : Flow) (s₂ : Shared) : Prop :=
 match f with
 | .ret v => Q (.ret v) s₂
 | .brk => Q .next s₂
 | _ => TurnEnd h₀ L wr own J s₁ s₂
theorem turn_end {h₀ h' : Heap} {L : Addr} {wr : List Addr} {own news' : List (Addr × Obj)} {J : (Str → Option Value) → List (Addr × Obj) → Prop} {s₁ : Shared} {tk : Nat} {m' : Str → Option Value}
  (nx : List (Addr × Obj)) (F : Fr h₀ L h' m') (N : News h₀ L h' news') (h1 : ∀ p ∈ nx, p ∈ news') (h2 : ∀ p ∈ own, p ∈ news') (h3 : ∀ p ∈ nx, p.1 ∉ wr) (hJ : J m' nx) : TurnEnd h₀ L wr own J s₁ { s₁ with heap := h', toks := tk } :=
 ⟨h', tk, m', news', nx, rfl, F, N, h1, h2, h3, hJ⟩
section
variable {prog : Program} {w : World} {A : Around} {E : Value → Shared → Prop} {s : Shared} {env : Env} {h₀ : Heap} {Q : Flow → Shared → Prop} {body : List Stmt}
theorem loopV {x : Str} {I : Addr} {fp wr : List Addr} {n : Nat} {P : Nat → Value → Prop} {St : Nat → Heap → Prop} {m : Str → Option Value} {news : List (Addr × Obj)}
  (W : Walks prog w A I fp wr n P St) (hlive : ∀ i h, St i h → ∀ b ∈ wr, ∃ o, h.get? b = some o) (hLf : env.locals ∉ fp) (hwr : ∀ b ∈ wr, h₀.get? b = none) (hnw : ∀ p ∈ news, p.1 ∉ wr) (hst : St 0 s.heap)
  (F : Fr h₀ env.locals s.heap m) (N : News h₀ env.locals s.heap news) (J : Nat → (Str → Option Value) → List (Addr × Obj) → Prop) (h0 : J 0 m news)
  (turn : ∀ i v m₁ nx h tk own, i < n → P i v → J i m₁ nx → (∀ p ∈ nx, p.1 ∉ wr) → (∀ b ∈ wr, ∃ o, (b, o) ∈ own) → (∀ p ∈ own, p.1 ∈ fp) → Fr h₀ env.locals h (fun y => if y = x then some v else m₁ y) → News h₀ env.locals h (nx ++ own) →
   wpAny (model prog w) A (execs body env) (TurnPost h₀ env.locals wr own (J (i + 1)) { s with heap := h, toks := tk } Q) E { s with heap := h, toks := tk })
  (done : ∀ m₁ nx h tk, J n m₁ nx → Fr h₀ env.locals h m₁ → News h₀ env.locals h nx → Q .next { s with heap := h, toks := tk }) :
  LoopAtV prog w A h₀ env x body Q E (.ref I) s := by
 refine ⟨I, fp, wr, n, P, St, m, news, J, rfl, W, hLf, hwr, hnw, hst, F, N, h0, ?_, ?_⟩
 ·rintro i v m₁ nx s₁ own ⟨h, tk, rfl⟩ hi hP hJ hnx hfp hown hall hst' F' N'
  refine wpAny_mono (turn i v m₁ nx h tk own hi hP hJ hnx (fun b hb => ?_) hfp F' (nsub N' fun p hp => ?_)) (fun f s₂ hf => ?_) fun _ _ e => e
  ·refine el1_1 (hlive _ _ hst' b hb) ?_; intro o ho
   exact ⟨o, hall b (W.sub b hb) (hwr b hb) o ho⟩
  ·refine ast hp (fun hp => ?_) fun hp => ?_
   ·exact maR _ hp
   exact maL _ hp
  have key : TurnEnd h₀ env.locals wr own (J (i + 1)) { s with heap := h, toks := tk } s₂ → LoopStepU h₀ env.locals wr own (J (i + 1)) { s with heap := h, toks := tk } .next s₂ := by
   rintro ⟨h', tk', m', news', nx', rfl, F₂, N₂, a1, a2, a3, hJ'⟩
   refine ⟨rfl, h', tk', m', nx', rfl, F₂, nsub N₂ fun p hp => ?_, a3, hJ'⟩
   refine ast hp (fun hp => ?_) fun hp => ?_
   ·exact a2 p hp
   exact a1 p hp
  cases f with
  | ret v => exact hf
  | brk => exact hf
  | cont => exact key hf
  | next => exact key hf
 intro h' tk m' nx F' N' _ hJ
 exact done m' nx h' tk hJ F' N'
structure PLoop (prog : Program) (w : World) (A : Around) (env : Env) (t : PySem.Expr) (body : List Stmt) (Q : Flow → Shared → Prop) (E : Value → Shared → Prop) (it : Value) (s₂ : Shared) : Prop where
 out : codeAny (model prog w) A (.forLoop t it body [] env) (fun r s' => match r with | .ok f => Q f s' | .error e => cameBackBy (model prog w) A env E e s') s₂
theorem for_pair {xi xc : Str} {pk pv pt pos : Pos} {x1 : Nat} {iter : PySem.Expr} 
  (h : wpAny (model prog w) A (eval iter env) (fun xv s₁ => wpAny (model prog w) A (pyIter xv) (fun it s₂ => PLoop prog w A env (.Tuple [.Name xi pk, .Name xc pv] x1 pt) body Q E it s₂) E s₁) E s)
  (hs : ∀ x, foldedSetIterable iter env x = pure x) :
  wpAny (model prog w) A (exec (.For (.Tuple [.Name xi pk, .Name xc pv] x1 pt) iter body [] pos) env) Q E s :=
 wpAny_For (wpAny_mono h (fun xv s₁ h₁ => wpAny_mono h₁ (fun it s₂ h₂ => h₂.out) fun _ _ e => e) fun _ _ e => e) hs
theorem ploop {xi xc : Str} {pk pv pt : Pos} {x1 : Nat} {I : Addr} {fp wr : List Addr} {n : Nat} {Pt : Nat → Array Value → Prop} {St : Nat → Heap → Prop} {Mid : Nat → Addr → Heap → Prop}
  {P2 : Nat → Value → Value → Prop} {m : Str → Option Value} {news : List (Addr × Obj)} (hh : A.handled = none) (W : WalksT prog w A I fp wr n Pt St Mid) (h2 : ∀ i vals, Pt i vals → ∃ v0 v1, vals = #[v0, v1] ∧ P2 i v0 v1)
  (hlive : ∀ i h, St i h → ∀ b ∈ wr, ∃ o, h.get? b = some o) (hxi : env.kindOf xi = some .local) (hxc : env.kindOf xc = some .local)
  (hp : (env.scope.kind == .class || (env.scope.kind == .module && env.locals != env.globals)) = false) (hE : PassesOwn (model prog w) A env E)
  (hLf : env.locals ∉ fp) (hwr : ∀ b ∈ wr, h₀.get? b = none) (hnw : ∀ p ∈ news, p.1 ∉ wr) (hst : St 0 s.heap)
  (F : Fr h₀ env.locals s.heap m) (N : News h₀ env.locals s.heap news) (J : Nat → (Str → Option Value) → List (Addr × Obj) → Prop) (h0 : J 0 m news)
  (turn : ∀ i v0 v1 m₁ nx h tk own, i < n → P2 i v0 v1 → J i m₁ nx → (∀ p ∈ nx, p.1 ∉ wr) → (∀ b ∈ wr, ∃ o, (b, o) ∈ own) → (∀ p ∈ own, p.1 ∈ fp) → Fr h₀ env.locals h (fun y => if y = xc then some v1 else if y = xi then some v0 else m₁ y) → News h₀ env.locals h (nx ++ own) →
   wpAny (model prog w) A (execs body env) (TurnPost h₀ env.locals wr own (J (i + 1)) { s with heap := h, toks := tk } Q) E { s with heap := h, toks := tk })
  (done : ∀ m₁ nx h tk, J n m₁ nx → Fr h₀ env.locals h m₁ → News h₀ env.locals h nx → Q .next { s with heap := h, toks := tk }) :
  PLoop prog w A env (.Tuple [.Name xi pk, .Name xc pv] x1 pt) body Q E (.ref I) s := by
 refine ⟨?_⟩
 have hLw : env.locals ∉ wr := fun h => hLf (W.sub _ h)
 have old : ∀ b o, h₀.get? b = some o → b ∉ wr := fun b o e hb => by rw [hwr b hb] at e; cases e
 refine codeAny_forLoop_any
  (fun k s' => ∃ h' tk m' nx i, s' = { s with heap := h', toks := tk } ∧ St i h' ∧ Fr h₀ env.locals h' m' ∧ News h₀ env.locals h' nx ∧ (∀ p ∈ nx, p.1 ∉ wr) ∧ J i m' nx ∧ i ≤ n ∧ k = n + 1 - i) ?_ (n + 1)
  ⟨s.heap, s.toks, m, news, 0, rfl, hst, F, N, hnw, h0, Nat.zero_le _, rfl⟩
 rintro k s' ⟨H, tk, m', nx, i, rfl, hst', F', N', ha', hJ, hi, rfl⟩
 have next : ∀ h₁ : Heap, (∀ b o, b ∉ wr → H.get? b = some o → h₁.get? b = some o) → Fr h₀ env.locals h₁ m' ∧ News h₀ env.locals h₁ nx := fun h₁ hk₁ =>
  ⟨⟨F'.ns.at' fun o e => hk₁ _ o hLw e, fun b o e => hk₁ b o (old b o e) (F'.keep b o e), F'.above⟩, fun p hp => ⟨hk₁ _ _ (ha' p hp) (N' p hp).1, (N' p hp).2⟩⟩
 by_cases hlt : i < n
 ·refine W.item i _ _ _ hlt hst' fun T vals h₁ tk₁ hPt _ hT hMid hk₁ => ?_
  refine el2_2 (h2 i vals hPt) ?_; intro v0 v1 e92 hP2; subst e92
  refine W.go _ x1 pt i T _ _ _ hMid fun h₂ hst₂ hk₂ => ?_
  have ht₂ : h₂.IsTuple T #[v0, v1] := hT.at fun o e => hk₂ T o (W.apart i T h₁ hMid) e
  refine wpAny_assign_Tuple hh ht₂ rfl rfl fun h₃ hx₃ => ?_
  replace hx₃ : Heap.ExtBut h₂.objs.size h₂ h₃ := hx₃
  have up₃ : ∀ b o, h₂.get? b = some o → h₃.get? b = some o := fun b o x => hx₃ b o (nlt (Heap.lt_size x)) x
  refine el0_2 (next h₃ fun b o hb x => up₃ b o (hk₂ b o hb (hk₁ b o hb x))) ?_; intro F₃ N₃
  show wpAny _ A (do holding [v1] (assign (.Name xi pk) env v0); do holding [] (assign (.Name xc pv) env v1); pure ()) _ _ _
  refine wpAny_bind (wpAny_holding (wpAny_assign_Name (wpAny_storeName_local hxi F₃.ns (fun h₄ hn₄ hs₄ => ?_) hp)))
  replace hs₄ : Heap.SameBut env.locals h₃ h₄ := hs₄
  have F₄ := F₃.set hn₄ hs₄
  refine wpAny_bind (wpAny_holding (wpAny_assign_Name (wpAny_storeName_local hxc F₄.ns (fun h₅ hn₅ hs₅ => wpAny_pure ?_) hp)))
  replace hs₅ : Heap.SameBut env.locals h₄ h₅ := hs₅
  have F₅ := F₄.set hn₅ hs₅
  have N₅ : News h₀ env.locals h₅ nx := (N₃.set hs₄).set hs₅
  have hst₅ : St (i + 1) h₅ := W.frame _ _ _ hst₂ fun b hb o e => hs₅.extBut b o (fun q => hLf (q ▸ hb)) (hs₄.extBut b o (fun q => hLf (q ▸ hb)) (up₃ b o e))
  have Nown : News h₀ env.locals h₅ (ownOf h₀ fp h₅) := news_ownOf hLf
  refine wpAny_passesOwn hE (wpAny_mono (turn i v0 v1 m' nx h₅ _ (ownOf h₀ fp h₅) hlt hP2 hJ ha' (fun b hb => ?_) ownOf_sub F₅ (fun p hp => ?_)) (fun f s₃ h₆ => ?_) fun _ _ e => e)
  ·refine el1_1 (hlive _ _ hst₅ b hb) ?_; intro o ho
   exact ⟨o, mem_ownOf (W.sub b hb) (hwr b hb) ho⟩
  ·refine ast hp (fun hp => ?_) fun hp => ?_
   ·exact N₅ p hp
   exact Nown p hp
  have key : ∀ tkk, TurnEnd h₀ env.locals wr (ownOf h₀ fp h₅) (J (i + 1)) { s with heap := h₅, toks := tkk } s₃ → ∃ m, m < n + 1 - i ∧ ∃ h' tk m' nx j, s₃ = { s with heap := h', toks := tk } ∧ St j h' ∧ Fr h₀ env.locals h' m' ∧ News h₀ env.locals h' nx ∧ (∀ p ∈ nx, p.1 ∉ wr) ∧ J j m' nx ∧ j ≤ n ∧ m = n + 1 - j := by
   rintro tkk ⟨h₆', tk₆, m₂, news₂, nx₂, rfl, F₆, N₆, a1, a2, a3, hJ₆⟩
   refine ⟨n + 1 - (i + 1), Nat.sub_succ_lt_self _ _ (nls hlt), h₆', tk₆, m₂, nx₂, i + 1, rfl, ?_, F₆, nsub N₆ a1, a3, hJ₆, hlt, rfl⟩
   refine W.frame _ _ _ hst₅ fun b hb o e => ?_
   cases hn : h₀.get? b with
   | some o₀ =>
    have : o₀ = o := by have q := F₅.keep b o₀ hn; rw [e] at q; exact (Option.some.inj q).symm
    exact this ▸ F₆.keep b o₀ hn
   | none => exact (N₆ _ (a2 _ (mem_ownOf hb hn e))).1
  cases f with
  | ret v => exact h₆
  | brk => exact h₆
  | cont => exact key _ h₆
  | next => exact key _ h₆
 have hin : i = n := by lia
 subst hin
 refine W.done _ _ _ hst' fun h₁ tk₁ hk₁ => wpAny_execs_nil ?_
 refine el0_2 (next h₁ hk₁) ?_; intro F₁ N₁
 exact done m' nx h₁ tk₁ hJ F₁ N₁
end
noncomputable def setAt (a : Addr) (o : Obj) (l : List (Addr × Obj)) : List (Addr × Obj) := l.map fun p => if p.1 = a then (a, o) else p
theorem setAt_keys (a : Addr) (o : Obj) (l : List (Addr × Obj)) : (setAt a o l).map (·.1) = l.map (·.1) := by
 unfold setAt
 rw [List.map_map]
 apply List.map_congr_left
 intro p _
 show (if p.1 = a then (a, o) else p).1 = p.1
 split
 ·rename_i h; exact h.symm
 rfl
theorem mem_setAt_self {a : Addr} {o o' : Obj} {l : List (Addr × Obj)} (h : (a, o) ∈ l) : (a, o') ∈ setAt a o' l := mm2 ⟨(a, o), h, if_pos rfl⟩
theorem msN {a : Addr} {o' : Obj} {p : Addr × Obj} {l : List (Addr × Obj)} (h : p ∈ l) (hn : p.1 ≠ a) : p ∈ setAt a o' l := mm2 ⟨p, h, if_neg hn⟩
theorem mem_setAt {a : Addr} {o' : Obj} {p : Addr × Obj} {l : List (Addr × Obj)} (h : p ∈ setAt a o' l) : p = (a, o') ∧ (∃ o, (a, o) ∈ l) ∨ p.1 ≠ a ∧ p ∈ l := by
 refine el1_2 (mm1 h) ?_; intro q hq e
 by_cases hc : q.1 = a
 ·rw [if_pos hc] at e
  exact .inl ⟨e.symm, q.2, by rw [← hc]; exact hq⟩
 rw [if_neg hc] at e
 subst e
 exact .inr ⟨hc, hq⟩
theorem newsSetAt {h₀ h h' : Heap} {L a : Addr} {o o' : Obj} {news : List (Addr × Obj)} (N : News h₀ L h news) (hm : (a, o) ∈ news) (hs : Heap.SameBut a h h') (ho : h'.get? a = some o') : News h₀ L h' (setAt a o' news) := by
 intro p hp
 rcases mem_setAt hp with ⟨rfl, _⟩ | ⟨hn, hp⟩
 ·exact ⟨ho, (N _ hm).2⟩
 exact ⟨(hs.2 _ hn).trans (N p hp).1, (N p hp).2⟩
section
variable {prog : Program} {w : World} {A : Around} {E : Value → Shared → Prop} {s : Shared} {h₀ : Heap} {L : Addr} {m : Str → Option Value} {news : List (Addr × Obj)}
theorem append_S {l : Addr} {its : Array Value} {n : Nat} {x : Value} {Q : Value → Shared → Prop} (F : Fr h₀ L s.heap m) (N : News h₀ L s.heap news) (hm : (l, W.listOf its n) ∈ news) (hsz : its.size ≤ sizeLine)
  (h : ∀ h', Fr h₀ L h' m → News h₀ L h' (setAt l (W.listOf (its.push x) (n + 1)) news) → Q .none { s with heap := h' }) : wpAny (model prog w) A (call (.builtin "list.append") [.ref l, x]) Q E s :=
 append_at (hsz := hsz) (N _ hm).1 fun h' hs ho' => h h' (F.change hs (N _ hm).2.1 (N _ hm).2.2) (newsSetAt N hm hs ho')
variable {KK : Type} [DecidableEq KK] {knd : KeyKind prog w KK} {kvs : List (KK × Value)} {k : KK} {key : Value} {d : Addr} {o : Obj}
theorem setdefault_S {dflt : Value} {Q : Value → Shared → Prop} (F : Fr h₀ L s.heap m) (N : News h₀ L s.heap news) (hm : (d, o) ∈ news) (hd : o.IsDictOf knd kvs) (hkey : knd.is k key = true) (lo : (d == sysModules) = false)
  (hargs : argsOk "dict.setdefault" ⟨[.ref d, key, dflt], []⟩) (hsz : kvs.length ≤ sizeLine)
  (h1 : ∀ v, valueAt kvs k = some v → Q v { s with toks := s.toks + 1 })
  (h2 : valueAt kvs k = none → ∀ h' o', Fr h₀ L h' m → News h₀ L h' (setAt d o' news) → o'.IsDictOf knd (stored kvs k dflt) → Q dflt { s with heap := h', toks := s.toks + 1 }) :
  wpAny (model prog w) A (call (.builtin "dict.setdefault") [.ref d, key, dflt]) Q E s := by
 have z := N _ hm
 have hD : s.heap.DictOf knd d kvs := Heap.dictOf_iff.mpr ⟨o, z.1, hd⟩
 refine call_meetsIn PySem.F.slot_dict_setdefault hD.typeIs PySem.F.entry_dict_setdefault hargs (kt_meets_setdefault knd d hkey lo dflt) ⟨kvs, hD, hsz, fun v hv => h1 v hv, fun hn h' hmm hs => ?_⟩
 refine el1_2 (Heap.dictOf_iff.mp hmm) ?_; intro o' ho' hd'
 exact h2 hn h' o' (F.change hs z.2.1 z.2.2) (newsSetAt N hm hs ho') hd'
theorem setItem_S {v : Value} {Q : Unit → Shared → Prop} (F : Fr h₀ L s.heap m) (N : News h₀ L s.heap news) (hm : (d, o) ∈ news) (hd : o.IsDictOf knd kvs) (hkey : knd.is k key = true) (hsz : kvs.length ≤ sizeLine)
  (h : ∀ h' o', Fr h₀ L h' m → News h₀ L h' (setAt d o' news) → o'.IsDictOf knd (stored kvs k v) → Q () { s with heap := h', toks := s.toks + 1 }) : wpAny (model prog w) A (setItem (.ref d) key v) Q E s := by
 have z := N _ hm
 refine wpAny_setItem_pairs (hsz := hsz) hkey (Heap.dictOf_iff.mpr ⟨o, z.1, hd⟩) fun h' hmm hs => ?_
 refine el1_2 (Heap.dictOf_iff.mp hmm) ?_; intro o' ho' hd'
 exact h h' o' (F.change hs z.2.1 z.2.2) (newsSetAt N hm hs ho') hd'
end
section
variable {prog : Program} {w : World} {A : Around} {E : Value → Shared → Prop} {s : Shared} {env : Env} {h₀ : Heap} {Q : Flow → Shared → Prop} {body : List Stmt}
theorem enum_loop {xi xc : Str} {pk pv pt : Pos} {x1 : Nat} {x : Str} {t : Tok} {m : Str → Option Value} {news : List (Addr × Obj)} (hh : A.handled = none) 
  (hxi : env.kindOf xi = some .local) (hxc : env.kindOf xc = some .local)
  (hp : (env.scope.kind == .class || (env.scope.kind == .module && env.locals != env.globals)) = false) (hE : PassesOwn (model prog w) A env E)
  (F : Fr h₀ env.locals s.heap m) (N : News h₀ env.locals s.heap news) (J : Nat → (Str → Option Value) → List (Addr × Obj) → Prop) (h0 : J 0 m news)
  (turn : ∀ (i : Nat) (c : Nat) ti tc m₁ nx h tk own wr, x.cps[i]? = some c → J i m₁ nx → (∀ p ∈ nx, p.1 ∉ wr) → (∀ b ∈ wr, ∃ o, (b, o) ∈ own) → (∀ p ∈ own, p.1 ∈ wr) →
   Fr h₀ env.locals h (fun y => if y = xc then some (.str ⟨#[c]⟩ tc) else if y = xi then some (.int i ti) else m₁ y) → News h₀ env.locals h (nx ++ own) →
   wpAny (model prog w) A (execs body env) (TurnPost h₀ env.locals wr own (J (i + 1)) { s with heap := h, toks := tk } Q) E { s with heap := h, toks := tk })
  (done : ∀ m₁ nx h tk, J x.cps.size m₁ nx → Fr h₀ env.locals h m₁ → News h₀ env.locals h nx → Q .next { s with heap := h, toks := tk }) :
  wpAny (model prog w) A (call (.type "enumerate") [.str x t]) (fun xv s₁ => wpAny (model prog w) A (pyIter xv) (fun it s₂ => PLoop prog w A env (.Tuple [.Name xi pk, .Name xc pv] x1 pt) body Q E it s₂) E s₁) E s := by
 have hLs : env.locals < s.heap.objs.size := F.ns.lt
 have hab : h₀.objs.size ≤ env.locals := F.above
 refine call_enumerate_str fun h' he hit hsz hk => ?_
 have F' : Fr h₀ env.locals h' m := ⟨F.ns.keeps hk, fun b o e => hk b o (F.keep b o e), F.above⟩
 have N' : News h₀ env.locals h' news := fun p hp => ⟨hk _ _ (N p hp).1, (N p hp).2⟩
 refine wpAny_pyIter_enum he ?_
 have fin : ∀ (St : Nat → Heap → Prop), Draws prog w A.in1 s.heap.objs.size [s.heap.objs.size] x.cps.size (fun i v => ∃ c u, x.cps[i]? = some c ∧ v = .str ⟨#[c]⟩ u) St → (∀ i h, St i h → ∃ o, h.get? s.heap.objs.size = some o) → St 0 h' →
   PLoop prog w A env (.Tuple [.Name xi pk, .Name xc pv] x1 pt) body Q E (.ref (s.heap.objs.size + 1)) { s with heap := h' } := by
  intro St D hl hst
  refine ploop (P2 := fun i v0 v1 => ∃ ti c u, x.cps[i]? = some c ∧ v0 = .int i ti ∧ v1 = .str ⟨#[c]⟩ u) hh (WalksT.enumerateD D (s.heap.objs.size + 1) (Nat.succ_ne_self _) (fun hm => Nat.succ_ne_self _ (ms1 hm)) (by simp)) ?_ ?_ hxi hxc hp hE ?_ ?_ ?_ ⟨⟨_, by simpa using he⟩, hst⟩ F' N' J h0 ?_ ?_
  ·rintro i vals ⟨ti, v, ⟨c, u, hc, rfl⟩, rfl⟩
   exact ⟨_, _, rfl, ti, c, u, hc, rfl, rfl⟩
  ·rintro i h ⟨⟨old, he'⟩, hs'⟩ b hb
   refine asp hb ?_ fun hb => ?_
   ·exact ⟨_, he'⟩
   rw [ms1 hb]; exact hl i h hs'
  ·intro hm
   rcases mc1 hm with e | hm
   ·exact nlt (nls hLs) e
   exact nlt hLs (ms1 hm)
  ·intro b hb
   refine asp hb ?_ fun hb => ?_
   ·exact Heap.get?_none_of_le (Nat.le_trans hab (Nat.le_of_lt (nls hLs)))
   rw [ms1 hb]; exact Heap.get?_none_of_le (Nat.le_trans hab (Nat.le_of_lt hLs))
  ·intro p hp' hb
   have hq1 : p.1 < s.heap.objs.size := Heap.lt_size (N p hp').1
   rcases mc1 hb with e1 | hb
   ·exact nlt (nls hq1) e1
   exact nlt hq1 (ms1 hb)
  ·rintro i v0 v1 m₁ nx h tk own hi ⟨ti, c, u, hc, rfl, rfl⟩ hJ hn hw hf F₁ N₁
   exact turn i c ti u m₁ nx h tk own _ hc hJ hn hw hf F₁ N₁
  exact fun m₁ nx h tk hJ F₁ N₁ => done m₁ nx h tk hJ F₁ N₁
 cases ha : x.cps.all (· < 128)
 ·have hit' : h'.IsStrIter s.heap.objs.size "str_iterator" x t 0 := by simpa [strIterType, ha] using hit
  exact fin _ (Draws.strWide (A := A.in1) hh s.heap.objs.size x t) (fun _ _ ⟨o, ho, _⟩ => ⟨o, ho⟩) hit'
 have hit' : h'.IsStrIter s.heap.objs.size "str_ascii_iterator" x t 0 := by simpa [strIterType, ha] using hit
 exact fin _ (Draws.strAscii (A := A.in1) hh s.heap.objs.size x t) (fun _ _ ⟨o, ho, _⟩ => ⟨o, ho⟩) hit'
end
def SJ {σ : Type} (Led : σ → List (Addr × Obj)) (ps : σ → List (Str × Value)) (xs stored : List Str) (m₀ : Str → Option Value) (P : Nat → σ → Prop) (i : Nat) (m : Str → Option Value) (nx : List (Addr × Obj)) : Prop :=
 ∃ c : σ, nx = Led c ∧ P i c ∧ (∀ p ∈ ps c, m p.1 = some p.2) ∧ (∀ z, xs.contains z = false → (∀ p ∈ ps c, z ≠ p.1) → stored.contains z = false → m z = m₀ z)
theorem s_end {σ : Type} {Led : σ → List (Addr × Obj)} {ps : σ → List (Str × Value)} {xs stored : List Str} {m₀ m' : Str → Option Value} {P : Nat → σ → Prop} {i : Nat} {h₀ h' : Heap} {L : Addr} {wr : List Addr} {own news' : List (Addr × Obj)} {s₁ : Shared} {tk : Nat}
  (c : σ) (F : Fr h₀ L h' m') (N : News h₀ L h' news') (h1 : ∀ p ∈ Led c, p ∈ news') (h2 : ∀ p ∈ own, p ∈ news') (h3 : ∀ p ∈ Led c, p.1 ∉ wr) (hP : P i c) (hps : ∀ p ∈ ps c, m' p.1 = some p.2)
  (hz : ∀ z, xs.contains z = false → (∀ p ∈ ps c, z ≠ p.1) → stored.contains z = false → m' z = m₀ z) :
  TurnEnd h₀ L wr own (SJ Led ps xs stored m₀ P i) s₁ { s₁ with heap := h', toks := tk } := turn_end (Led c) F N h1 h2 h3 ⟨c, rfl, hP, hps, hz⟩
theorem sj_map1 {ps : List (Str × Value)} {stored : List Str} {x : Str} {m₀ m₁ : Str → Option Value} {v : Value} (h1 : ∀ p ∈ ps, m₁ p.1 = some p.2) (h2 : ∀ z, [x].contains z = false → (∀ p ∈ ps, z ≠ p.1) → stored.contains z = false → m₁ z = m₀ z) :
  (fun y => if y = x then some v else m₁ y) = fun y => if y = x then some v else kstB (fun z => if stored.contains z then m₁ z else m₀ z) ps y := by
 funext y
 by_cases e : y = x
 ·rw [if_pos e, if_pos e]
 rw [if_neg e, if_neg e]
 refine (kstB_eq h1 fun hr => ?_).symm
 by_cases hs : stored.contains y = true
 ·rw [if_pos hs]
 rw [if_neg hs]
 exact (h2 y (by simpa using e) hr (by simpa using hs)).symm
theorem sj_out1 {ps : List (Str × Value)} {stored : List Str} {x : Str} {m₀ m₁ : Str → Option Value} (h1 : ∀ p ∈ ps, m₁ p.1 = some p.2) (h2 : ∀ z, [x].contains z = false → (∀ p ∈ ps, z ≠ p.1) → stored.contains z = false → m₁ z = m₀ z) :
  m₁ = fun y => if y = x then m₁ y else kstB (fun z => if stored.contains z then m₁ z else m₀ z) ps y := by
 funext y
 by_cases e : y = x
 ·rw [if_pos e]
 rw [if_neg e]
 refine (kstB_eq h1 fun hr => ?_).symm
 by_cases hs : stored.contains y = true
 ·rw [if_pos hs]
 rw [if_neg hs]
 exact (h2 y (by simpa using e) hr (by simpa using hs)).symm
theorem sj_map2 {ps : List (Str × Value)} {stored : List Str} {xi xc : Str} {m₀ m₁ : Str → Option Value} {v0 v1 : Value} (h1 : ∀ p ∈ ps, m₁ p.1 = some p.2) (h2 : ∀ z, [xi, xc].contains z = false → (∀ p ∈ ps, z ≠ p.1) → stored.contains z = false → m₁ z = m₀ z) :
  (fun y => if y = xc then some v1 else if y = xi then some v0 else m₁ y) = fun y => if y = xc then some v1 else if y = xi then some v0 else kstB (fun z => if stored.contains z then m₁ z else m₀ z) ps y := by
 funext y
 by_cases e : y = xc
 ·rw [if_pos e, if_pos e]
 rw [if_neg e, if_neg e]
 by_cases e2 : y = xi
 ·rw [if_pos e2, if_pos e2]
 rw [if_neg e2, if_neg e2]
 refine (kstB_eq h1 fun hr => ?_).symm
 by_cases hs : stored.contains y = true
 ·rw [if_pos hs]
 rw [if_neg hs]
 exact (h2 y (by simp [e, e2]) hr (by simpa using hs)).symm
theorem sj_out2 {ps : List (Str × Value)} {stored : List Str} {xi xc : Str} {m₀ m₁ : Str → Option Value} (h1 : ∀ p ∈ ps, m₁ p.1 = some p.2) (h2 : ∀ z, [xi, xc].contains z = false → (∀ p ∈ ps, z ≠ p.1) → stored.contains z = false → m₁ z = m₀ z) :
  m₁ = fun y => if y = xc then m₁ y else if y = xi then m₁ y else kstB (fun z => if stored.contains z then m₁ z else m₀ z) ps y := by
 funext y
 by_cases e : y = xc
 ·rw [if_pos e]
 rw [if_neg e]
 by_cases e2 : y = xi
 ·rw [if_pos e2]
 rw [if_neg e2]
 refine (kstB_eq h1 fun hr => ?_).symm
 by_cases hs : stored.contains y = true
 ·rw [if_pos hs]
 rw [if_neg hs]
 exact (h2 y (by simp [e, e2]) hr (by simpa using hs)).symm
section
variable {prog : Program} {w : World} {A : Around} {E : Value → Shared → Prop} {s : Shared} {env : Env} {h₀ : Heap} {Q : Flow → Shared → Prop} {body : List Stmt}
theorem enum_s {σ : Type} {xi xc : Str} {pk pv pt : Pos} {x1 : Nat} {x : Str} {t : Tok} {m₀ : Str → Option Value} (Led : σ → List (Addr × Obj)) (ps : σ → List (Str × Value)) (stored : List Str) (P : Nat → σ → Prop) (c₀ : σ) (hh : A.handled = none) 
  (hxi : env.kindOf xi = some .local) (hxc : env.kindOf xc = some .local)
  (hp : (env.scope.kind == .class || (env.scope.kind == .module && env.locals != env.globals)) = false) (hE : PassesOwn (model prog w) A env E)
  (F : Fr h₀ env.locals s.heap m₀) (N : News h₀ env.locals s.heap (Led c₀)) (hP : P 0 c₀) (hk : ∀ p ∈ ps c₀, m₀ p.1 = some p.2)
  (turn : ∀ (i : Nat) (c : σ) (ch : Nat) ti tc (u : Str → Option Value) h tk own wr, x.cps[i]? = some ch → P i c → (∀ p ∈ Led c, p.1 ∉ wr) → (∀ b ∈ wr, ∃ o, (b, o) ∈ own) → (∀ p ∈ own, p.1 ∈ wr) →
   Fr h₀ env.locals h (fun y => if y = xc then some (.str ⟨#[ch]⟩ tc) else if y = xi then some (.int i ti) else kstB (fun z => if stored.contains z then u z else m₀ z) (ps c) y) → News h₀ env.locals h (Led c ++ own) →
   wpAny (model prog w) A (execs body env) (TurnPost h₀ env.locals wr own (SJ Led ps [xi, xc] stored m₀ P (i + 1)) { s with heap := h, toks := tk } Q) E { s with heap := h, toks := tk })
  (done : ∀ (c : σ) (u : Str → Option Value) h tk, P x.cps.size c → Fr h₀ env.locals h (fun y => if y = xc then u y else if y = xi then u y else kstB (fun z => if stored.contains z then u z else m₀ z) (ps c) y) → News h₀ env.locals h (Led c) → Q .next { s with heap := h, toks := tk }) :
  wpAny (model prog w) A (call (.type "enumerate") [.str x t]) (fun xv s₁ => wpAny (model prog w) A (pyIter xv) (fun it s₂ => PLoop prog w A env (.Tuple [.Name xi pk, .Name xc pv] x1 pt) body Q E it s₂) E s₁) E s := by
 refine enum_loop hh hxi hxc hp hE F N (SJ Led ps [xi, xc] stored m₀ P) ⟨c₀, rfl, hP, hk, fun _ _ _ _ => rfl⟩ ?_ ?_
 ·rintro i ch ti tc m₁ nx h tk own wr hc ⟨c, rfl, hPc, h1, h2⟩ hn hw hf F₁ N₁
  rw [sj_map2 h1 h2] at F₁
  exact turn i c ch ti tc m₁ h tk own wr hc hPc hn hw hf F₁ N₁
 rintro m₁ nx h tk ⟨c, rfl, hPc, h1, h2⟩ F₁ N₁
 rw [sj_out2 h1 h2] at F₁
 exact done c m₁ h tk hPc F₁ N₁
theorem sloop {σ : Type} {x : Str} {I : Addr} {fp wr : List Addr} {n : Nat} {Pv : Nat → Value → Prop} {St : Nat → Heap → Prop} {m₀ : Str → Option Value} (Led : σ → List (Addr × Obj)) (ps : σ → List (Str × Value)) (stored : List Str) (P : Nat → σ → Prop) (c₀ : σ)
  (W : Walks prog w A I fp wr n Pv St) (hlive : ∀ i h, St i h → ∀ b ∈ wr, ∃ o, h.get? b = some o) (hLf : env.locals ∉ fp) (hwr : ∀ b ∈ wr, h₀.get? b = none) (hnw : ∀ p ∈ Led c₀, p.1 ∉ wr) (hst : St 0 s.heap)
  (F : Fr h₀ env.locals s.heap m₀) (N : News h₀ env.locals s.heap (Led c₀)) (hP : P 0 c₀) (hk : ∀ p ∈ ps c₀, m₀ p.1 = some p.2)
  (turn : ∀ (i : Nat) (c : σ) v (u : Str → Option Value) h tk own, i < n → Pv i v → P i c → (∀ p ∈ Led c, p.1 ∉ wr) → (∀ b ∈ wr, ∃ o, (b, o) ∈ own) → (∀ p ∈ own, p.1 ∈ fp) →
   Fr h₀ env.locals h (fun y => if y = x then some v else kstB (fun z => if stored.contains z then u z else m₀ z) (ps c) y) → News h₀ env.locals h (Led c ++ own) →
   wpAny (model prog w) A (execs body env) (TurnPost h₀ env.locals wr own (SJ Led ps [x] stored m₀ P (i + 1)) { s with heap := h, toks := tk } Q) E { s with heap := h, toks := tk })
  (done : ∀ (c : σ) (u : Str → Option Value) h tk, P n c → Fr h₀ env.locals h (fun y => if y = x then u y else kstB (fun z => if stored.contains z then u z else m₀ z) (ps c) y) → News h₀ env.locals h (Led c) → Q .next { s with heap := h, toks := tk }) :
  LoopAtV prog w A h₀ env x body Q E (.ref I) s := by
 refine loopV W hlive hLf hwr hnw hst F N (SJ Led ps [x] stored m₀ P) ⟨c₀, rfl, hP, hk, fun _ _ _ _ => rfl⟩ ?_ ?_
 ·rintro i v m₁ nx h tk own hi hPv ⟨c, rfl, hPc, h1, h2⟩ hn hw hf F₁ N₁
  rw [sj_map1 h1 h2] at F₁
  exact turn i c v m₁ h tk own hi hPv hPc hn hw hf F₁ N₁
 rintro m₁ nx h tk ⟨c, rfl, hPc, h1, h2⟩ F₁ N₁
 rw [sj_out1 h1 h2] at F₁
 exact done c m₁ h tk hPc F₁ N₁
theorem list_s {σ : Type} {x : Str} {l : Addr} {items : Array Value} {m₀ : Str → Option Value} (Led : σ → List (Addr × Obj)) (ps : σ → List (Str × Value)) (stored : List Str) (P : Nat → σ → Prop) (c₀ : σ) (hh : A.handled = none) (hl : s.heap.IsList l items) (hL : l ≠ env.locals)
  (F : Fr h₀ env.locals s.heap m₀) (N : News h₀ env.locals s.heap (Led c₀)) (hP : P 0 c₀) (hk : ∀ p ∈ ps c₀, m₀ p.1 = some p.2)
  (turn : ∀ (i : Nat) (c : σ) v (u : Str → Option Value) h tk own wr, items[i]? = some v → P i c → (∀ p ∈ Led c, p.1 ∉ wr) → (∀ b ∈ wr, ∃ o, (b, o) ∈ own) → (∀ p ∈ own, p.1 ∈ wr ∨ p.1 = l) →
   Fr h₀ env.locals h (fun y => if y = x then some v else kstB (fun z => if stored.contains z then u z else m₀ z) (ps c) y) → News h₀ env.locals h (Led c ++ own) →
   wpAny (model prog w) A (execs body env) (TurnPost h₀ env.locals wr own (SJ Led ps [x] stored m₀ P (i + 1)) { s with heap := h, toks := tk } Q) E { s with heap := h, toks := tk })
  (done : ∀ (c : σ) (u : Str → Option Value) h tk, P items.size c → Fr h₀ env.locals h (fun y => if y = x then u y else kstB (fun z => if stored.contains z then u z else m₀ z) (ps c) y) → News h₀ env.locals h (Led c) → Q .next { s with heap := h, toks := tk }) :
  wpAny (model prog w) A (pyIter (.ref l)) (fun it s₂ => LoopAtV prog w A h₀ env x body Q E it s₂) E s := by
 refine el1_2 (id hl) ?_; intro ol hol hol2
 have hlt : l < s.heap.objs.size := Heap.lt_size hol
 have hLs : env.locals < s.heap.objs.size := F.ns.lt
 refine wpAny_pyIter_list hl ?_
 have hW := Walks.list (prog := prog) (w := w) (A := A) hh s.heap.objs.size l (nlt hlt) items
 refine sloop Led ps stored P c₀ hW ?_ ?_ ?_ ?_ ?_ (F.push _) (fun p hp => ⟨Heap.get?_push_of_some _ (N p hp).1, (N p hp).2⟩) hP hk ?_ done
 ·rintro i h ⟨⟨o, ho, _⟩, _⟩ b hb
  rw [ms1 hb]
  exact ⟨o, ho⟩
 ·intro hm
  rcases mc1 hm with e | hm
  ·exact nlt hLs e
  exact hL (ms1 hm).symm
 ·intro b hb
  rw [ms1 hb]
  exact next_is_new F
 ·intro p hp hb
  exact nlt (Heap.lt_size (N p hp).1) (ms1 hb)
 ·exact ⟨⟨_, Heap.get?_push_size _ rfl, rfl, rfl⟩, hl.at fun o e => Heap.get?_push_of_some _ e⟩
 intro i c v u h tk own hi hv hPc hn hw hf F₁ N₁
 exact turn i c v u h tk own _ hv hPc hn hw (fun p hp => by have := hf p hp; simp at this; simpa using this) F₁ N₁
end
structure BE where
 c : Nat
 a : Addr
 its : List (Int × Tok)
 ep : Nat
noncomputable def kvsB (B : List BE) : List (Str × Value) := B.map fun e => (⟨#[e.c]⟩, .ref e.a)
noncomputable def objB (e : BE) : Obj := W.listOf (e.its.map fun p => Value.int p.1 p.2).toArray e.ep
noncomputable def ledB (B : List BE) : List (Addr × Obj) := B.map fun e => (e.a, objB e)
noncomputable def idxs (y : Str) (i c : Nat) : List Int := ((List.range i).filter fun j => y.cps[j]? == some c).map Int.ofNat
structure BOk (y : Str) (i : Nat) (B : List BE) : Prop where
 keys : (B.map (·.c)).Nodup
 its : ∀ e ∈ B, e.its.map (·.1) = idxs y i e.c
 rest : ∀ c, c ∉ B.map (·.c) → idxs y i c = []
 len : B.length ≤ i
theorem idxs_zero (y : Str) (c : Nat) : idxs y 0 c = [] := rfl
theorem idxs_succ (y : Str) (i c : Nat) : idxs y (i + 1) c = idxs y i c ++ if y.cps[i]? == some c then [(i : Int)] else [] := by
 unfold idxs
 rw [List.range_succ, List.filter_append, List.map_append]
 congr 1
 by_cases h : (y.cps[i]? == some c) = true
 ·simp only [List.filter_cons, h, if_true, List.filter_nil, List.map_cons, List.map_nil]
  rfl
 simp [List.filter_cons, h]
theorem idxs_len (y : Str) (i c : Nat) : (idxs y i c).length ≤ i := by
 unfold idxs
 rw [List.length_map]
 exact Nat.le_trans (List.length_filter_le _ _) (by simp)
theorem one_inj {a b : Nat} : (⟨#[a]⟩ : Str) = ⟨#[b]⟩ ↔ a = b := by
 constructor
 ·intro h
  injection h with h
  simpa using h
 rintro rfl; rfl
theorem valueAt_some {B : List BE} {c : Nat} {v : Value} (h : valueAt (kvsB B) (⟨#[c]⟩ : Str) = some v) : ∃ e ∈ B, e.c = c ∧ v = .ref e.a := by
 unfold valueAt kvsB at h
 refine el1_2 (Option.map_eq_some_iff.mp h) ?_; intro kv hf e92; subst e92
 have hm := List.mem_of_find?_eq_some hf
 have hk := List.find?_some hf
 refine el1_2 (mm1 hm) ?_; intro e he e92; subst e92
 exact ⟨e, he, one_inj.mp (by simpa using hk), rfl⟩
theorem valueAt_none {B : List BE} {c : Nat} (h : valueAt (kvsB B) (⟨#[c]⟩ : Str) = none) : c ∉ B.map (·.c) := by
 unfold valueAt kvsB at h
 rw [Option.map_eq_none_iff, List.find?_eq_none] at h
 intro hm
 refine el1_2 (mm1 hm) ?_; intro e he e92; subst e92
 exact h _ (mm2 ⟨e, he, rfl⟩) (by simp)
theorem stored_new {B : List BE} {c : Nat} {v : Value} (h : valueAt (kvsB B) (⟨#[c]⟩ : Str) = none) : stored (kvsB B) (⟨#[c]⟩ : Str) v = kvsB B ++ [(⟨#[c]⟩, v)] := by
 unfold stored
 rw [if_neg]
 unfold valueAt at h
 rw [Option.map_eq_none_iff, List.find?_eq_none] at h
 intro ha
 refine el1_2 (List.any_eq_true.mp ha) ?_; intro kv hm hk
 exact h kv hm hk
noncomputable def bput (c : Nat) (i : Int) (t : Tok) (B : List BE) : List BE := B.map fun e => if e.c = c then { e with its := e.its ++ [(i, t)], ep := e.ep + 1 } else e
theorem bput_keys (c : Nat) (i : Int) (t : Tok) (B : List BE) : (bput c i t B).map (·.c) = B.map (·.c) := by
 unfold bput; rw [List.map_map]; apply List.map_congr_left; intro e _; show (if e.c = c then { e with its := e.its ++ [(i, t)], ep := e.ep + 1 } else e).c = e.c; split <;> rfl
theorem bput_as (c : Nat) (i : Int) (t : Tok) (B : List BE) : (bput c i t B).map (·.a) = B.map (·.a) := by
 unfold bput; rw [List.map_map]; apply List.map_congr_left; intro e _; show (if e.c = c then { e with its := e.its ++ [(i, t)], ep := e.ep + 1 } else e).a = e.a; split <;> rfl
theorem bput_kvs (c : Nat) (i : Int) (t : Tok) (B : List BE) : kvsB (bput c i t B) = kvsB B := by
 unfold kvsB bput; rw [List.map_map]; apply List.map_congr_left; intro e _
 show ((⟨#[(if e.c = c then { e with its := e.its ++ [(i, t)], ep := e.ep + 1 } else e).c]⟩ : Str), Value.ref (if e.c = c then { e with its := e.its ++ [(i, t)], ep := e.ep + 1 } else e).a) = _
 split <;> rfl
theorem BOk.put {y : Str} {i : Nat} {B : List BE} {c : Nat} (h : BOk y i B) (t : Tok) (hc : y.cps[i]? = some c) (hm : c ∈ B.map (·.c)) : BOk y (i + 1) (bput c i t B) := by
 refine ⟨by rw [bput_keys]; exact h.keys, ?_, ?_, by unfold bput; rw [List.length_map]; exact Nat.le_succ_of_le h.len⟩
 ·intro e he
  refine el1_2 (mm1 he) ?_; intro e₀ he₀ e92; subst e92
  by_cases hce : e₀.c = c
  ·rw [if_pos hce]
   show (e₀.its ++ [((i : Int), t)]).map (·.1) = idxs y (i + 1) e₀.c
   rw [List.map_append, h.its e₀ he₀, idxs_succ, hc, hce]
   simp
  rw [if_neg hce, idxs_succ, h.its e₀ he₀, hc]
  have : (some c == some e₀.c) = false := by simpa using fun e => hce e.symm
  rw [this]; simp
 intro c' hc'
 rw [bput_keys] at hc'
 rw [idxs_succ, h.rest c' hc', hc]
 have : (some c == some c') = false := by simpa using fun (e : c = c') => hc' (e ▸ hm)
 rw [this]; simp
theorem BOk.new {y : Str} {i : Nat} {B : List BE} {c : Nat} (h : BOk y i B) (t : Tok) (l : Addr) (ep : Nat) (hc : y.cps[i]? = some c) (hm : c ∉ B.map (·.c)) : BOk y (i + 1) (B ++ [⟨c, l, [((i : Int), t)], ep⟩]) := by
 refine ⟨?_, ?_, ?_, by rw [List.length_append]; exact Nat.succ_le_succ h.len⟩
 ·rw [List.map_append, List.nodup_append]
  refine ⟨h.keys, by simp, ?_⟩
  intro a ha b hb
  simp only [List.map_cons, List.map_nil, List.mem_singleton] at hb
  subst hb
  exact fun e => hm (e ▸ ha)
 ·intro e he
  refine ast he (fun he => ?_) fun he => ?_
  ·have hce : e.c ≠ c := fun q => hm (mm2 ⟨e, he, q⟩)
   rw [idxs_succ, h.its e he, hc]
   have : (some c == some e.c) = false := by simpa using fun q => hce q.symm
   rw [this]; simp
  rw [ms1 he]
  show [(i : Int)] = idxs y (i + 1) c
  rw [idxs_succ, h.rest c hm, hc]; simp
 intro c' hc'
 rw [List.map_append, List.mem_append, not_or] at hc'
 rw [idxs_succ, h.rest c' hc'.1, hc]
 have : (some c == some c') = false := by simpa using fun q => hc'.2 (by simp [q])
 rw [this]; simp
theorem BOk.zero (y : Str) : BOk y 0 [] := ⟨List.nodup_nil, (fun _ h => absurd h List.not_mem_nil), fun _ _ => rfl, Nat.le_refl _⟩
theorem nodup_inj {α β : Type} {f : α → β} : ∀ {l : List α}, (l.map f).Nodup → ∀ {a b : α}, a ∈ l → b ∈ l → f a = f b → a = b
 | [], _, _, _, h, _, _ => nomatch h
 | x :: l, hn, a, b, ha, hb, e => by
  rw [List.map_cons, List.nodup_cons] at hn
  cases mc1 ha with
  | inl h1 =>
   cases mc1 hb with
   | inl h2 => rw [h1, h2]
   | inr h2 => exact absurd (mm2 ⟨b, h2, by rw [← e, h1]⟩) hn.1
  | inr h1 =>
   cases mc1 hb with
   | inl h2 => exact absurd (mm2 ⟨a, h1, by rw [e, h2]⟩) hn.1
   | inr h2 => exact nodup_inj hn.2 h1 h2 e
theorem mem_ledB_put {B : List BE} {c : Nat} {i : Int} {t : Tok} {e : BE} (hk : (B.map (·.c)).Nodup) (ha : (B.map (·.a)).Nodup) (he : e ∈ B) (hc : e.c = c) {p : Addr × Obj} (hp : p ∈ ledB (bput c i t B)) :
  p = (e.a, W.listOf ((e.its.map fun p => Value.int p.1 p.2).toArray.push (.int i t)) (e.ep + 1)) ∨ (p.1 ≠ e.a ∧ p ∈ ledB B) := by
 unfold ledB bput at hp
 refine el1_2 (mm1 hp) ?_; intro e' he' e92; subst e92
 refine el1_2 (mm1 he') ?_; intro e₀ he₀ e92; subst e92
 by_cases hce : e₀.c = c
 ·have : e₀ = e := nodup_inj hk he₀ he (hce.trans hc.symm)
  subst this
  rw [if_pos hce]
  refine .inl ?_
  simp [objB]
 rw [if_neg hce]
 refine .inr ⟨?_, mm2 ⟨e₀, he₀, rfl⟩⟩
 intro q
 exact hce ((congrArg BE.c (nodup_inj ha he₀ he q)).trans hc)
noncomputable abbrev ent (w : World) (name : String) (t : Tok) (v : Value) : DictEntry := { hash := PyData.keyHash w.params (Str.ofString name), key := .str (Str.ofString name) t, val := v }
noncomputable abbrev setNew (led : Bool) : Obj := { cls := Value.type "set", data := Data.set #[] 0 (SetTable.fresh 0 0 led) }
inductive SM (w : World) (x y : Str) (xa : Addr) (G : List (Addr × Obj)) : Prop
 | mk (d b2 bj bp : Addr) (o2 : Obj) (BB : List BE) (tx ty t1 t2 t3 t4 t5 t6 t7 t8 t9 t10 : Tok) (l1 l2 : Bool)
  (hG : G = (bp, setNew l2) :: (bj, setNew l1) :: (xa, instObj 242 d) :: (d, dictOf [ent w "isjunk" t1 .none, ent w "a" t2 (.str x tx), ent w "b" t3 (.str y ty), ent w "autojunk" t4 (.bool false), ent w "matching_blocks" t5 .none, ent w "opcodes" t6 .none, ent w "fullbcount" t7 .none, ent w "b2j" t8 (.ref b2), ent w "bjunk" t9 (.ref bj), ent w "bpopular" t10 (.ref bp)] 10) :: (b2, o2) :: ledB BB)
  (hd : o2.IsDictOf (PySem.strKind rw_nq0317_01.prog w) (kvsB BB)) (hB : BOk y y.cps.size BB) (lo : (b2 == sysModules) = false)
theorem bput_mem {B : List BE} {c : Nat} {i : Int} {t : Tok} {e : BE} (h : e ∈ bput c i t B) : ∃ e₀ ∈ B, e.a = e₀.a := by
 refine el1_2 (mm1 h) ?_; intro e₀ he₀ e92; subst e92
 refine ⟨e₀, he₀, ?_⟩
 split <;> rfl
theorem kvsB_new (B : List BE) (c : Nat) (l : Addr) (its : List (Int × Tok)) (ep : Nat) : kvsB (B ++ [⟨c, l, its, ep⟩]) = kvsB B ++ [(⟨#[c]⟩, .ref l)] := by unfold kvsB; rw [List.map_append]; rfl
theorem ledB_append (B B' : List BE) : ledB (B ++ B') = ledB B ++ ledB B' := List.map_append
theorem newsTail {h₀ h : Heap} {L : Addr} {p : Addr × Obj} {r : List (Addr × Obj)} (N : News h₀ L h (p :: r)) : ∃ r', r' = r ∧ News h₀ L h (p :: r') := ⟨r, rfl, N⟩
theorem lmeth_S {prog : Program} {w : World} {A : Around} {E : Value → Shared → Prop} {s : Shared} {h₀ : Heap} {L l : Addr} {news : List (Addr × Obj)} {its : Array Value} {n : Nat} {name : Str} {id : String} {pl : Sem Bool} {Q : Value × List Value → Shared → Prop}
  (slot : Slot "list" name id) (hty : typeOf (.builtin id) = pure (.type "method_descriptor")) (N : News h₀ L s.heap news) (hp : (l, W.listOf its n) ∈ news) (h : Q (.builtin id, [.ref l]) s) : wpAny (model prog w) A (getMethod (.ref l) name pl) Q E s :=
 getMethod_builtin ⟨_, (N _ hp).1, rfl⟩ PySem.F.plainAttrs_list slot hty (fun a e => by cases e; exact ⟨_, (N _ hp).1, rfl⟩) h
theorem allLt_mem {d : Nat} : ∀ {l : List (Addr × Obj)}, AllLt d l → ∀ p ∈ l, p.1 < d
 | [], _, _, hp => nomatch hp
 | q :: l, h, p, hp => by
  cases mc1 hp with
  | inl e => rw [e]; exact h.1
  | inr e => exact allLt_mem h.2 p e
theorem kst_rest {u m₀ : Str → Option Value} {stored : List Str} {z : Str} (h : stored.contains z = false) : kstB (fun z => if stored.contains z then u z else m₀ z) [] z = m₀ z := by
 show (if stored.contains z = true then u z else m₀ z) = m₀ z
 rw [h]; rfl
theorem reord {h₀ h : Heap} {L : Addr} {a b c : Addr × Obj} {l n : List (Addr × Obj)} (N : News h₀ L h (a :: (l ++ b :: c :: n))) : ∃ tl, tl = a :: (l ++ n) ∧ News h₀ L h (b :: c :: tl) :=
 ⟨_, rfl, nsub N (sbc (.tail _ (maR _ (.head _))) (sbc (.tail _ (maR _ mH1)) (sbc (.head _) (fun q hq => by
  refine ast hq (fun hq => ?_) fun hq => ?_
  ·exact .tail _ (maL _ hq)
  exact .tail _ (maR _ (mT2 hq)))))) ⟩
theorem reordF {h₀ h : Heap} {L x d d2 : Addr} {o inst dd : Obj} {l n : List (Addr × Obj)} (N : News h₀ L h ((d2, o) :: (l ++ (x, inst) :: (d, dd) :: n))) (h1 : ∀ p ∈ n, p.1 < d) (h2 : d < x) (h3 : x < d2) (h3' : d < d2)
  (h4 : ∀ q ∈ l, ∀ p ∈ (x, inst) :: (d, dd) :: n, p.1 ≠ q.1) : ∃ tl, tl = (d2, o) :: (l ++ n) ∧ News h₀ L h ((x, inst) :: (d, dd) :: tl) ∧ (∀ p ∈ tl, p.1 ≠ d) ∧ (∀ p ∈ tl, p.1 ≠ x) := by
 refine el1_2 (reord N) ?_; intro tl e91 N'; subst e91
 refine ⟨_, rfl, N', ?_, ?_⟩
 ·intro p hp
  refine asp hp ?_ fun hp => ?_
  ·exact ngt h3'
  refine ast hp (fun hp => ?_) fun hp => ?_
  ·exact (h4 p hp _ mH1).symm
  exact nlt (h1 p hp)
 intro p hp
 refine asp hp ?_ fun hp => ?_
 ·exact ngt h3
 refine ast hp (fun hp => ?_) fun hp => ?_
 ·exact (h4 p hp _ (.head _)).symm
 exact nlt (Nat.lt_trans (h1 p hp) h2)
theorem size_le {n : Nat} (h : n ≤ 100000) : n ≤ sizeLine := by rw [sizeLine_eq]; lia
theorem wr_new {wr : List Addr} {own news : List (Addr × Obj)} {l : Addr} (hw : ∀ b ∈ wr, ∃ o, (b, o) ∈ own) (hsub : ∀ p ∈ own, p ∈ news) (hl : ∀ p ∈ news, p.1 < l) : l ∉ wr := fun h => by
 refine el1_1 (hw l h) ?_; intro o ho
 exact absurd (hl _ (hsub _ ho)) (Nat.lt_irrefl _)
theorem mk_c (w : World) (p : Program) (lo : List Str) (mean : ExcName → Option Value) (mg mb : Str → Option Value)
  (gd : Option (List Code)) (cn : Str) (cs : Scope) (a : Addr) (ccd : Value) (cl : List (Str × Addr)) (outer : List Env) (A₀ : Around) (base h₀ : Heap) (L : Addr) (m : Str → Option Value) (news : List (Addr × Obj)) (s : Shared)
  (x y : Str) (tx ty : Tok) (Q E : Value → Shared → Prop)
  (B : Below A₀ base outer h₀) (F : Fr h₀ L s.heap m) (X : (Mine.K w.params).In h₀) (N : News h₀ L s.heap news) (T : Top p lo mean mg mb h₀) (hk : cs.kind = .function)
  (hx : x.length ≤ 64) (hy : y.length ≤ 64)
  (hret : ∀ xa G h' tk', SM w x y xa G → Fr h₀ L h' m → News h₀ L h' (G ++ news) → Q (.ref xa) { s with heap := h', toks := tk' }) :
  wpAny (model (rw_nq0317_01.prog) w) (ktrTop 350 500 gd cn cs L a ccd cl outer) (call (.ref 242) [.none, .str x tx, .str y ty, .bool false]) Q E s := by
 k_with_none
 k_with "k_all" => assumption
 k_with "k_enter" => (refine' code_def ?k1 ?k2 ?k3 ?k4 ?k5 ?kA ?kF ?kK ?k6 ?k7 ?k8 ?k9 ?kB ?_ ?c2 ?c3 ?c4 ?c5; (case kA => exact rfl); (case kF => exact rfl); (case kK => assumption); (case k1 => k_asm); (case k2 => k_asm); (case k3 => k_asm); (case k4 => k_asm); (case k5 => k_asm); (case k6 => k_is); (case k7 => k_is); (case k8 => k_room); (case k9 => first | exact BindsTo.of_eq rfl | exact binds_K (by k_in) rfl (by k_is) rfl rfl rfl | fail "k_enter: no rule for these arguments"); (case c5 => decide); (case kB => exact locs rfl); (case c2 => exact rfl); (case c3 => exact rfl); (case c4 => exact rfl); k_whole; intro g' L' h' FG' F' N' B' X' T'; (try dsimp only); (try k_lift B'); (try k_fold))
 k_with "execs cons" => (k_here; first | k_made | ((fail_if_success (fail_if_success k_gentoks)); refine (let tk : Nat := _; (?_ : wpAny _ _ _ _ _ ⟨_, _, _, tk, _⟩))) | ((with_reducible refine wpAny_execs_cons ?_); (try dsimp only); refine (let qv : Flow → Shared → Prop := _; (?_ : wpAny _ _ _ qv _ _))))
 k_with "execs nil" => (k_here; (fail_if_success (fail_if_success k_gentoks)); refine (let tk : Nat := _; (?_ : wpAny _ _ _ _ _ ⟨_, _, _, tk, _⟩)))
 k_with "exec For Tuple Call" => k_dflt (refine for_pair ?_ (by intro _; with_unfolding_all rfl))
 k_with "call builtin:list.append" => refine stopped ?_
 k_with "pyIter ref" => (refine stopped ?_)
 k_with "call type:enumerate" => (refine stopped ?_)
 k_with "call builtin:dict.setdefault" => (refine stopped ?_)
 k_with "getMethod ref" => ((with_reducible refine (?_ : wpAny _ _ (getMethod (Value.ref _) (Str.ofString "append") _) _ _ _)); refine stopped ?_)
 revert X
 k_fill
 intro X
 k_steps
 refine ⟨?_⟩
 rename_i d2 h2 o2 lo2 hs2 fs2 hi2 fi2 l1 h3 h4 F4 N4
 refine el1_2 (newsTail N4) ?_; intro rest hrest N4
 have hr2 : ∀ q ∈ rest, q.1 ≠ d2 := by
  rw [hrest]
  intro q hq
  cases mc1 hq with
  | inl e => rw [e]; exact nlt l1.1
  | inr hq =>
   cases mc1 hq with
   | inl e => rw [e]; exact nlt l1.2.1
   | inr hq => exact nlt (allLt_mem l1.2.2 q hq)
 refine enum_s (σ := Obj × List BE) (fun c => (d2, c.1) :: (ledB c.2 ++ rest)) (fun _ => []) [Str.ofString "indices"]
  (fun i c => c.1.IsDictOf (PySem.strKind rw_nq0317_01.prog w) (kvsB c.2) ∧ BOk y i c.2 ∧ (∀ e ∈ c.2, e.a ≠ d2) ∧ (c.2.map (·.a)).Nodup ∧ (∀ e ∈ c.2, ∀ p ∈ rest, p.1 ≠ e.a)) (o2, []) ?a1 ?a2 ?a3 ?a4 ?hE F4 N4 ?hP (fn0 _) ?turn ?done
 case a1 => rfl
 case a2 => rfl
 case a3 => rfl
 case a4 => rfl
 case hE => passes_own
 case hP => exact ⟨hs2, BOk.zero y, by simp, by simp, by simp⟩
 case turn =>
  clear F4 N4
  intro i c ch ti tc u h tk own wr hch hPc hoff hw hf F' N'
  refine (let Qt1 : Flow → Shared → Prop := _; (?_ : wpAny _ _ _ Qt1 _ _))
  refine (let mt1 : Str → Option Value := _; have F9 : Fr _ _ _ mt1 := F'; ?_)
  clear F'
  have F' := F9
  clear F9
  simp only [List.cons_append] at N'
  refine el0_5 (hPc) ?_; (try clear hPc); intro hd hB ha1 ha2 ha3
  have hi : i < 64 := by
   have h1 : i < y.cps.size := by
    rcases Nat.lt_or_ge i y.cps.size with h | h
    ·exact h
    rw [Array.getElem?_eq_none h] at hch; cases hch
   exact Nat.lt_of_lt_of_le h1 hy
  k_steps
  refine ⟨?_⟩
  rename_i l' hh F' N' l1
  have hown : ∀ p ∈ own, p ∈ (d2, c.1) :: (ledB c.2 ++ rest ++ own) := fun p hp => .tail _ (maR _ hp)
  refine setdefault_S F' N' mH1 hd (strKind_is _ _ _ _) lo2 (PySem.F.args_dict_setdefault_3 _ _ _) ?hsz ?there ?anew
  case hsz => exact size_le (by unfold kvsB; rw [List.length_map]; have := hB.len; lia)
  case there =>
   intro v hv
   refine el1_3 (valueAt_some hv) ?_; intro e he hec e93; subst e93
   have hme : (e.a, objB e) ∈ ledB c.2 := mm2 ⟨e, he, rfl⟩
   k_steps
   rename_i F' N'
   have hmem : (e.a, objB e) ∈ (l', W.listOf #[] 0) :: (d2, c.1) :: (ledB c.2 ++ rest ++ own) := mT2 (maL _ (maL _ hme))
   refine ⟨?_⟩
   refine lmeth_S PySem.F.slot_list_append PySem.F.type_list_append N' hmem ?_
   k_steps
   refine ⟨?_⟩
   refine append_S F' N' hmem (size_le ?hz) fun h9 F9 N9 => ?_
   case hz =>
    rw [List.size_toArray, List.length_map, ← List.length_map (f := Prod.fst), hB.its e he]
    have := idxs_len y i e.c
    lia
   k_steps
   show TurnEnd _ _ _ _ _ _ _
   have hea : e.a ∉ wr := hoff (e.a, objB e) (.tail _ (maL _ hme))
   refine s_end (c.1, bput ch i ti c.2) F9 N9 ?h1 ?h2 ?h3 ?hP (fn0 _) ?hz
   case h1 =>
    intro q hq
    refine mst hq ?_ fun hq => ?_
    ·exact msN mH1 (ha1 e he).symm
    refine ast hq (fun hq => ?_) fun hq => ?_
    ·rcases mem_ledB_put hB.keys ha2 he hec hq with rfl | ⟨hn, hq⟩
     ·exact mem_setAt_self hmem
     exact msN (mT2 (maL _ (maL _ hq))) hn
    exact msN (mT2 (maL _ (maR _ hq))) (ha3 e he q hq)
   case h2 =>
    intro q hq
    exact msN (mT2 (maR _ hq)) fun q' => hea (q' ▸ hf q hq)
   case h3 =>
    intro q hq
    refine asp hq ?_ fun hq => ?_
    ·exact hoff (d2, c.1) (.head _)
    refine ast hq (fun hq => ?_) fun hq => ?_
    ·rcases mem_ledB_put hB.keys ha2 he hec hq with rfl | ⟨hn, hq⟩
     ·exact hea
     exact hoff q (.tail _ (maL _ hq))
    exact hoff q (.tail _ (maR _ hq))
   case hP =>
    refine ⟨by rw [bput_kvs]; exact hd, hB.put ti hch (mm2 ⟨e, he, hec⟩), ?_, by rw [bput_as]; exact ha2, ?_⟩
    ·intro e' he'
     refine el1_2 (bput_mem he') ?_; intro e₀ he₀ q
     rw [q]; exact ha1 e₀ he₀
    intro e' he'
    refine el1_2 (bput_mem he') ?_; intro e₀ he₀ q
    rw [q]; exact ha3 e₀ he₀
   case hz =>
    intro z h1 _ h2
    have e1 : z ≠ Str.ofString "indices" := ne_rev h2 (by decide)
    have e2 : z ≠ Str.ofString "elt" := ne_rev h1 (by decide)
    have e3 : z ≠ Str.ofString "i" := ne_rev h1 (by decide)
    dsimp only [mt1]; rw [if_neg e1, if_neg e2, if_neg e3]
    exact kst_rest h2
  case anew =>
   intro hv h5 o5 F5 N5 hd5
   k_steps
   rename_i F' N'
   have hne : l' ≠ d2 := ngt l1.1
   have hmem : (l', W.listOf #[] 0) ∈ setAt d2 o5 ((l', W.listOf #[] 0) :: (d2, c.1) :: (ledB c.2 ++ rest ++ own)) := msN (.head _) hne
   refine ⟨?_⟩
   refine lmeth_S PySem.F.slot_list_append PySem.F.type_list_append N' hmem ?_
   k_steps
   refine ⟨?_⟩
   refine append_S F' N' hmem (size_le (by simp)) fun h9 F9 N9 => ?_
   k_steps
   show TurnEnd _ _ _ _ _ _ _
   have hlo : ∀ q ∈ ledB c.2 ++ rest ++ own, q.1 ≠ l' := fun q hq => nlt (allLt_mem l1.2 q hq)
   have hl' : l' ∉ wr := fun hm => by
    refine el1_1 (hw l' hm) ?_; intro o ho
    exact hlo _ (maR _ ho) rfl
   have hd2 : d2 ∉ wr := hoff (d2, c.1) (.head _)
   refine s_end (o5, c.2 ++ [⟨ch, l', [((i : Int), ti)], 1⟩]) F9 N9 ?h1 ?h2 ?h3 ?hP (fn0 _) ?hz
   case h1 =>
    intro q hq
    refine mst hq ?_ fun hq => ?_
    ·exact msN (mem_setAt_self mH1) hne.symm
    refine ast hq (fun hq => ?_) fun hq => ?_
    ·rw [ledB_append] at hq
     refine ast hq (fun hq => ?_) fun hq => ?_
     ·have hn : q.1 ≠ d2 := by
       refine el1_2 (mm1 hq) ?_; intro e he e92; subst e92
       exact ha1 e he
      exact msN (msN (mT2 (maL _ (maL _ hq))) hn) (hlo q (maL _ (maL _ hq)))
     rw [ms1 hq]
     exact mem_setAt_self hmem
    exact msN (msN (mT2 (maL _ (maR _ hq))) (hr2 q hq)) (hlo q (maL _ (maR _ hq)))
   case h2 =>
    intro q hq
    exact msN (msN (mT2 (maR _ hq)) fun q' => hd2 (q' ▸ hf q hq)) (hlo q (maR _ hq))
   case h3 =>
    intro q hq
    refine asp hq ?_ fun hq => ?_
    ·exact hd2
    refine ast hq (fun hq => ?_) fun hq => ?_
    ·rw [ledB_append] at hq
     refine ast hq (fun hq => ?_) fun hq => ?_
     ·exact hoff q (.tail _ (maL _ hq))
     rw [ms1 hq]; exact hl'
    exact hoff q (.tail _ (maR _ hq))
   case hP =>
    refine ⟨by rw [kvsB_new]; rw [stored_new hv] at hd5; exact hd5, hB.new ti l' 1 hch (valueAt_none hv), ?_, ?_, ?_⟩
    ·intro e he
     refine ast he (fun he => ?_) fun he => ?_
     ·exact ha1 e he
     rw [ms1 he]; exact hne
    ·rw [List.map_append, List.nodup_append]
     refine ⟨ha2, by simp, ?_⟩
     intro a1 h1 b1 h2
     simp only [List.map_cons, List.map_nil, List.mem_singleton] at h2
     refine el1_2 (mm1 h1) ?_; intro e he e92; subst e92
     rw [h2]
     exact hlo (e.a, objB e) (maL _ (maL _ (mm2 ⟨e, he, rfl⟩)))
    intro e he
    refine ast he (fun he => ?_) fun he => ?_
    ·exact ha3 e he
    rw [ms1 he]
    exact fun q hq => hlo q (maL _ (maR _ hq))
   case hz =>
    intro z h1 _ h2
    have e1 : z ≠ Str.ofString "indices" := ne_rev h2 (by decide)
    have e2 : z ≠ Str.ofString "elt" := ne_rev h1 (by decide)
    have e3 : z ≠ Str.ofString "i" := ne_rev h1 (by decide)
    dsimp only [mt1]; rw [if_neg e1, if_neg e2, if_neg e3]
    exact kst_rest h2
 clear F4 N4
 intro c u h tk hPc F' N'
 refine el0_5 (hPc) ?_; (try clear hPc); intro hd hB ha1 ha2 ha3
 rw [hrest] at N' ha3
 refine (let G9 : Prop := _; (?_ : G9))
 obtain ⟨tl, htl, N', hA1, hA2⟩ := reordF N' (by assumption) (by assumption) l1.1 l1.2.1 (fun q hq p hp => by
  refine el1_2 (mm1 hq) ?_; intro e he e92; subst e92
  exact ha3 e he p hp)
 refine (?_ : wpAny _ _ _ _ _ _)
 k_steps
 rename_i kF kN _ _
 rw [htl] at kN
 exact hret _ _ _ _ ⟨_, _, _, _, _, _, _, _, _, _, _, _, _, _, _, _, _, _, _, _, rfl, hd, hB, lo2⟩ kF kN
section
open PySem.W.X
theorem getAttr_B {M : Model} {A : Around} {E : Value → Shared → Prop} {s : Shared} {T g : String} {v : Value} {name : Str} {Q : Value → Shared → Prop} (hT : s.TypeIs v T) (hga : typeLookup (.type T) "__getattribute__" = pure (some (.builtin g)))
  (hgt : typeOf (.builtin g) = pure (.type "wrapper_descriptor"))
  (h : wpAny M A (call (.builtin g) [v, .str name s.toks]) (fun r s' => wpAny M A (handedOut r) Q E s') (fun _ _ => False) { s with toks := s.toks + 1 }) : wpAny M A (getAttr v name true) Q E s := by
 unfold getAttr
 refine wpAny_bind (wpAny_mkText ?_)
 unfold getAttrBy
 refine wpAny_holding ?_
 refine wpAny_bind (wpAny_typeOf (T := T) ?_ ?_)
 ·cases v <;> exact hT
 rw [hga]
 refine wpAny_bind (wpAny_pure ?_)
 show wpAny M A (getAttrByItsOwn v _ (.type T) (.builtin g) true true) Q E _
 unfold getAttrByItsOwn
 refine wpAny_bind (wpAny_pure ?_)
 refine wpAny_bind (wpAny_attempt (wpAny_holding ?_))
 show wpAny M A (boundAndCalled (.builtin g) v _) _ _ _
 unfold boundAndCalled bindSpecial
 refine wpAny_bind ?_
 rw [hgt]
 refine wpAny_bind (wpAny_pure ?_)
 refine wpAny_pure ?_
 exact wpAny_mono h (fun _ _ x => x) fun _ _ x => x.elim
theorem toks_set : typeOf (.builtin "set.__getattribute__") = pure (.type "wrapper_descriptor") := by show builtinType _ = _; kernel_rfl
noncomputable abbrev bmObj (id : String) (self : Value) : Obj := ⟨.type "builtin_function_or_method", none, .fields #[.builtin id, self], #[]⟩
theorem toks_dict : typeOf (.builtin "dict.__getattribute__") = pure (.type "wrapper_descriptor") := by show builtinType _ = _; kernel_rfl
noncomputable abbrev XF (c : Code) : Sem Fin := PySem.W.XFast.xw11892475500146522536 PySem.W.XFast.tableX c
theorem den_q (c : Code) : denote table c = XF c := by
 show denote table c = PySem.W.XFast.xw11892475500146522536 PySem.W.XFast.tableX c
 rw [PySem.W.XFast.xe11892475500146522536, PySem.W.XFast.tableX_eq]
section
variable {α : Type}
noncomputable def ldV (t : Sem α) : Option { p : Addr × (Obj → Sem α) // ∃ q, t = .load p.1 q p.2 } := match t with | .load a q k => some ⟨(a, k), q, rfl⟩ | _ => none
noncomputable def clV (t : Sem α) : Option { p : Code × (Result → Sem α) // ∃ g l, t = .call p.1 none g l p.2 } := match t with | .call c none g l k => some ⟨(c, k), g, l, rfl⟩ | _ => none
noncomputable def alV (t : Sem α) : Option { p : Obj × (Addr → Sem α) // t = .alloc p.1 p.2 } := match t with | .alloc o k => some ⟨(o, k), rfl⟩ | _ => none
noncomputable def ldA (t : Sem α) : Option Addr := (ldV t).map (·.1.1)
noncomputable def ldK (t : Sem α) (o : Obj) : Sem α := (ldV t).elim t fun p => p.1.2 o
noncomputable def clC (t : Sem α) : Option Code := (clV t).map (·.1.1)
noncomputable def clK (t : Sem α) (r : Result) : Sem α := (clV t).elim t fun p => p.1.2 r
noncomputable def alO (t : Sem α) : Option Obj := (alV t).map (·.1.1)
noncomputable def alK (t : Sem α) (a : Addr) : Sem α := (alV t).elim t fun p => p.1.2 a
variable {prog : Program} {w : World} {A : Around} {c : Code} {Q : α → Shared → Prop} {E : Value → Shared → Prop} {s : Shared}
theorem y_ld {t : Sem α} {a : Addr} {o : Obj} (e : ldA t = some a) (ho : s.heap.get? a = some o) (x : wpOwn (model prog w) A c (ldK t o) Q E s) : wpOwn (model prog w) A c t Q E s := by
 unfold ldA at e
 unfold ldK at x
 generalize ldV t = v at e x
 cases v with
 | none => cases e
 | some p =>
  refine p.2.elim fun q hq => ?_
  cases e
  rw [hq]
  exact y_load _ prog w A c Q E s.heap s.gens s.drawn s.toks s.os _ q _ o ho x
theorem y_sk {t : Sem α} (x : wpOwn (model prog w) A c (skim ⟨prog, w.params⟩ 400 t) Q E s) : wpOwn (model prog w) A c t Q E s := y_skim _ prog w A c Q E s t 400 x
theorem y_cl {t : Sem α} {c2 : Code} (e : clC t = some c2) (x : codeAny (model prog w) ((A.under c).mark none) c2 (fun r s' => wpOwn (model prog w) A c (clK t r) Q E s') s) : wpOwn (model prog w) A c t Q E s := by
 unfold clC at e
 unfold clK at x
 generalize clV t = v at e x
 cases v with
 | none => cases e
 | some p =>
  refine p.2.elim fun g hg => hg.elim fun l hq => ?_
  cases e
  rw [hq]
  exact y_call _ prog w A c Q E s _ none g l _ (fun h => by cases h) x
theorem y_al {t : Sem α} {o : Obj} {h₀ : Heap} {chg news : List (Addr × Obj)} (e : alO t = some o) (D : Mem h₀ s.heap chg news) (hf : o.isFreed = false)
  (x : ∀ a h', Mem h₀ h' chg ((a, o) :: news) → wpOwn (model prog w) A c (alK t a) Q E { s with heap := h' }) : wpOwn (model prog w) A c t Q E s := by
 unfold alO at e
 unfold alK at x
 generalize alV t = v at e x
 cases v with
 | none => cases e
 | some p =>
  cases e
  rw [p.2]
  exact y_alloc _ prog w A c Q E h₀ chg news s.heap s.gens s.drawn s.toks s.os _ _ D hf x
end
section
variable {prog : Program} {w : World} {A : Around} {c : Code} {s : Shared} {R : Result → Shared → Prop}
theorem y_cd (x : wpOwn (model prog w) A c (XF c) (postC prog w A R) (postE R) s) : codeAny (model prog w) A c R s :=
 y_code prog w A R s c (den_q c ▸ x)
theorem y_ag {t : Sem Fin} {c2 : Code} (e : t = .pure (.again c2)) (hq : c2.quiet = true) (x : codeAny (model prog w) A c2 R s) : wpOwn (model prog w) A c t (postC prog w A R) (postE R) s := by
 rw [e]; exact y_pure _ prog w A c _ _ s _ (y_again prog w A R s c2 hq x)
theorem y_dn {t : Sem Fin} {v : Value} (e : t = .pure (.done (.ret v))) (x : R (.ok (.ret v)) s) : wpOwn (model prog w) A c t (postC prog w A R) (postE R) s := by
 rw [e]; exact y_pure _ prog w A c _ _ s _ (y_done prog w A R s _ x)
end
theorem txt_contains : Str.ofString "__contains__" = ⟨⟨[95, 95, 99, 111, 110, 116, 97, 105, 110, 115, 95, 95]⟩⟩ := PySem.W.Fast.ofString_ofList ['_', '_', 'c', 'o', 'n', 't', 'a', 'i', 'n', 's', '_', '_']
theorem contains_attr (w : World) (A : Around) (s : Shared) (bj : Addr) (l1 : Bool) (t : Tok) (Q E : Value → Shared → Prop)
  (hb : s.heap.get? bj = some ⟨Value.type "set", none, Data.set #[] 0 (SetTable.fresh 0 0 l1), #[]⟩)
  (hret : ∀ q h', Mem s.heap h' [] [(q, bmObj "set.__contains__" (.ref bj))] → Q (.ref q) { s with heap := h' }) :
  wpAny (model (rw_nq0317_01.prog) w) A (call (.builtin "set.__getattribute__") [.ref bj, .str (Str.ofString "__contains__") t]) Q E s := by
 rw [txt_contains]
 refine wpAny_call (y_cd ?_)
 with_reducible refine y_ld (a := bj) (by kernel_rfl) hb ?_
 with_reducible refine y_ag (c2 := .builtin "set.__getattribute__" ⟨[.ref bj, .str ⟨⟨[95, 95, 99, 111, 110, 116, 97, 105, 110, 115, 95, 95]⟩⟩ t], []⟩) (by kernel_rfl) (by kernel_rfl) (y_cd ?_)
 with_reducible refine y_ld (a := bj) (by kernel_rfl) hb ?_
 with_reducible refine y_ld (a := bj) (by kernel_rfl) hb ?_
 with_reducible refine y_ld (a := bj) (by kernel_rfl) hb ?_
 with_reducible refine y_sk ?_
 with_reducible refine y_cl (c2 := .call (.builtin "method_descriptor.__get__") ⟨[.builtin "set.__contains__", .ref bj, .type "set"], []⟩) (by kernel_rfl) (y_cd ?_)
 with_reducible refine y_ag (c2 := .builtin "method_descriptor.__get__" ⟨[.builtin "set.__contains__", .ref bj, .type "set"], []⟩) (by kernel_rfl) (by kernel_rfl) (y_cd ?_)
 with_reducible refine y_ld (a := bj) (by kernel_rfl) hb ?_
 with_reducible refine y_al (o := bmObj "set.__contains__" (.ref bj)) (by kernel_rfl) (Mem.start _) rfl fun a h' D => ?_
 with_reducible refine y_dn (v := .ref a) (by kernel_rfl) ?_
 with_reducible refine y_dn (v := .ref a) (by kernel_rfl) ?_
 exact hret a h' D
theorem txt_get : Str.ofString "get" = ⟨⟨[103, 101, 116]⟩⟩ := PySem.W.Fast.ofString_ofList ['g', 'e', 't']
theorem get_attr (w : World) (A : Around) (s : Shared) (bj : Addr) (es : Array DictEntry) (ep : Nat) (t : Tok) (Q E : Value → Shared → Prop)
  (hb : s.heap.get? bj = some ⟨Value.type "dict", none, Data.dict es ep, #[]⟩)
  (hret : ∀ q h', Mem s.heap h' [] [(q, bmObj "dict.get" (.ref bj))] → Q (.ref q) { s with heap := h' }) :
  wpAny (model (rw_nq0317_01.prog) w) A (call (.builtin "dict.__getattribute__") [.ref bj, .str (Str.ofString "get") t]) Q E s := by
 rw [txt_get]
 refine wpAny_call (y_cd ?_)
 with_reducible refine y_ld (a := bj) (by kernel_rfl) hb ?_
 with_reducible refine y_ag (c2 := .builtin "dict.__getattribute__" ⟨[.ref bj, .str ⟨⟨[103, 101, 116]⟩⟩ t], []⟩) (by kernel_rfl) (by kernel_rfl) (y_cd ?_)
 with_reducible refine y_ld (a := bj) (by kernel_rfl) hb ?_
 with_reducible refine y_ld (a := bj) (by kernel_rfl) hb ?_
 with_reducible refine y_ld (a := bj) (by kernel_rfl) hb ?_
 with_reducible refine y_sk ?_
 with_reducible refine y_cl (c2 := .call (.builtin "method_descriptor.__get__") ⟨[.builtin "dict.get", .ref bj, .type "dict"], []⟩) (by kernel_rfl) (y_cd ?_)
 with_reducible refine y_ag (c2 := .builtin "method_descriptor.__get__" ⟨[.builtin "dict.get", .ref bj, .type "dict"], []⟩) (by kernel_rfl) (by kernel_rfl) (y_cd ?_)
 with_reducible refine y_ld (a := bj) (by kernel_rfl) hb ?_
 with_reducible refine y_al (o := bmObj "dict.get" (.ref bj)) (by kernel_rfl) (Mem.start _) rfl fun a h' D => ?_
 with_reducible refine y_dn (v := .ref a) (by kernel_rfl) ?_
 with_reducible refine y_dn (v := .ref a) (by kernel_rfl) ?_
 exact hret a h' D
theorem mem_fr {h₀ h h' : Heap} {L : Addr} {m : Str → Option Value} {nw : List (Addr × Obj)} (D : X.Mem h h' [] nw) (F : Fr h₀ L h m) : Fr h₀ L h' m :=
 have hk : ∀ b o, h.get? b = some o → h'.get? b = some o := fun b o e => D.keep b o e (by rw [Bool.or_eq_true]; exact .inr rfl)
 ⟨F.ns.keeps hk, fun b o e => hk b o (F.keep b o e), F.above⟩
theorem mem_news {h₀ h h' : Heap} {L : Addr} {m : Str → Option Value} {nw news : List (Addr × Obj)} (D : X.Mem h h' [] nw) (F : Fr h₀ L h m) (N : News h₀ L h news) : News h₀ L h' (nw ++ news) := by
 have hk : ∀ b o, h.get? b = some o → h'.get? b = some o := fun b o e => D.keep b o e (by rw [Bool.or_eq_true]; exact .inr rfl)
 intro p hp
 refine ast hp (fun hp => ?_) fun hp => ?_
 ·have z := D.nw p hp
  refine ⟨z.1, ?_, ?_⟩
  ·intro e
   refine el3_2 (F.ns) ?_; intro oL _ _ hL _
   rw [← e, z.2] at hL
   cases hL
  cases hq : h₀.get? p.1 with
  | none => rfl
  | some o => have := F.keep _ _ hq; rw [z.2] at this; cases this
 exact ⟨hk _ _ (N p hp).1, (N p hp).2⟩
section
variable {w : World} {gd : Option (List Code)} {cn : Str} {cs : Scope} {L a : Addr} {ccd : Value} {cl : List (Str × Addr)} {outer : List Env} {env : Env} {s : Shared} {Q E : Value → Shared → Prop} {h₀ : Heap} {LL : Addr} {m : Str → Option Value} {news : List (Addr × Obj)}
theorem contains_S {bj : Addr} {l1 : Bool} (F : Fr h₀ LL s.heap m) (N : News h₀ LL s.heap news) (X : (Mine.K w.params).In h₀) (hm : (bj, setNew l1) ∈ news)
  (hret : ∀ q h' tk, Fr h₀ LL h' m → News h₀ LL h' ((q, bmObj "set.__contains__" (.ref bj)) :: news) → (∀ p ∈ news, p.1 ≠ q) → Q (.ref q) { s with heap := h', toks := tk }) :
  wpAny (model (rw_nq0317_01.prog) w) ((ktrTop 350 500 gd cn cs L a ccd cl outer).deeper env) (getAttr (.ref bj) (Str.ofString "__contains__") true) Q E s := by
 refine getAttr_B (T := "set") ⟨_, (N _ hm).1, rfl⟩ (by rw [typeLookup_type, builtinLookup_eq_fast]; kernel_rfl) toks_set ?_
 refine contains_attr w _ _ bj l1 _ _ _ (N _ hm).1 fun q h' D => ?_
 exact wpAny_pure (hret q h' _ (mem_fr D F) (mem_news D F N) fun p hp e => D.ne_old 0 q _ rfl p.1 p.2 (N p hp).1 e.symm)
theorem get_S {d : Addr} {o : Obj} {KK : Type} [DecidableEq KK] {knd : KeyKind rw_nq0317_01.prog w KK} {kvs : List (KK × Value)} (F : Fr h₀ LL s.heap m) (N : News h₀ LL s.heap news) (X : (Mine.K w.params).In h₀) (hm : (d, o) ∈ news) (hd : o.IsDictOf knd kvs)
  (hret : ∀ q h' tk, Fr h₀ LL h' m → News h₀ LL h' ((q, bmObj "dict.get" (.ref d)) :: news) → (∀ p ∈ news, p.1 ≠ q) → Q (.ref q) { s with heap := h', toks := tk }) :
  wpAny (model (rw_nq0317_01.prog) w) ((ktrTop 350 500 gd cn cs L a ccd cl outer).deeper env) (getAttr (.ref d) (Str.ofString "get") true) Q E s := by
 refine (let G9 : Prop := _; (?_ : G9))
 obtain ⟨es, ep, ⟨e1, e2, e3⟩, e4, _⟩ := hd
 refine (?_ : wpAny _ _ _ _ _ _)
 obtain ⟨oc, od, odt, osl⟩ := o
 simp only at e1 e2 e3 e4
 subst e1 e2 e3 e4
 refine getAttr_B (T := "dict") ⟨_, (N _ hm).1, rfl⟩ (by rw [typeLookup_type, builtinLookup_eq_fast]; kernel_rfl) toks_dict ?_
 refine get_attr w _ _ d es ep _ _ _ (N _ hm).1 fun q h' D => ?_
 exact wpAny_pure (hret q h' _ (mem_fr D F) (mem_news D F N) fun p hp e => D.ne_old 0 q _ rfl p.1 p.2 (N p hp).1 e.symm)
end
end
theorem bm_call {prog : Program} {w : World} {A : Around} {R : Result → Shared → Prop} {s : Shared} {q : Addr} {id : String} {self : Value} {pos : List Value} {b : Builtin} (ho : s.heap.get? q = some (bmObj id self))
  (hc : ∀ (A : Around) (Q : Unit → Shared → Prop) (E : Value → Shared → Prop), Q () s → wpAny (model prog w) A (checkBoundCall id ⟨self :: pos, []⟩) Q E s) (hp : plainId id = true) (hb : entryFor table id = some b) 
  (h : wpAny (model prog w) A.in1 (b ⟨self :: pos, []⟩) (fun fin s' => match fin with | .done f => R (.ok f) s' | .again c' => c'.quiet = true ∧ codeAny (model prog w) A c' R s') (fun e s' => R (.error e) s') s) : codeAny (model prog w) A (.call (.ref q) ⟨pos, []⟩) R s := by
 refine codeAny_of_tree ?_
 show wpAny _ _ (callAny (.ref q) _) _ _ _
 refine nd_load ho ?_
 show wpAny _ _ (checkBoundCall id ⟨self :: pos, []⟩ >>= _) _ _ _
 refine wpAny_bind (hc _ _ _ ?_)
 refine wpAny_pure ⟨plainId_quiet hp _, ?_⟩
 refine codeAny_of_tree ?_
 rw [Around.under_plainId hp]
 show wpAny _ _ (match entryFor table id with | some b => b ⟨self :: pos, []⟩ | none => _) _ _ _
 rw [hb]
 exact h
theorem checkB {M : Model} {A : Around} {E : Value → Shared → Prop} {s : Shared} {Q : Unit → Shared → Prop} {id T : String} {a : Addr} {o : Obj} {pos : List Value} {sig : Manifest.Signature} (hs : Manifest.signature? id = some sig) (hk : builtinKind id = some .method) (hv : Manifest.varargsMethods.contains id = false)
  (ho : s.heap.get? a = some o) (hc : o.cls = .type T) (hnc : ∀ c, o.data ≠ .cls c) (hm : isSubtype (.type T) (.type "module") = pure false)
  (hargs : Bind.checkArgs id { sig with full := toString (Bind.lastOf T) ++ toString "." ++ toString (Bind.lastOf id) } ⟨.ref a :: pos, []⟩ = pure ()) (h : Q () s) : wpAny M A (checkBoundCall id ⟨.ref a :: pos, []⟩) Q E s := by
 unfold checkBoundCall
 simp only [hs, hk]
 refine wpAny_bind (wpAny_isInstance (v := .ref a) (T := T) ⟨o, ho, hc⟩ hm ?_)
 simp only [hv]
 rw [if_neg (by decide)]
 refine wpAny_bind ?_
 unfold isType
 refine wpAny_bind (wpAny_loadPart ho (wpAny_pure ?_))
 rw [if_neg (by cases hh : o.data with
  | cls c => exact absurd hh (hnc c)
  | _ => exact Bool.false_ne_true)]
 refine wpAny_bind (wpAny_typeOf (v := .ref a) (T := T) ⟨o, ho, hc⟩ ?_)
 show wpAny M A (Bind.checkArgs id _ _) _ _ _
 rw [hargs]
 exact wpAny_pure h
theorem dict_no_module : isSubtype (.type "dict") (.type "module") = pure false := by rw [isSubtype_type]; kernel_rfl
noncomputable def sigGet : Manifest.Signature := (Manifest.signature? "dict.get").get (by decide +kernel)
theorem sigGet_is : Manifest.signature? "dict.get" = some sigGet := by kernel_rfl
section
variable {w : World} {A : Around} {s : Shared} {Q E : Value → Shared → Prop} {h₀ : Heap} {L : Addr} {news : List (Addr × Obj)}
theorem jget_S {prog : Program} {q d : Addr} {o : Obj} {KK : Type} [DecidableEq KK] {knd : KeyKind prog w KK} {kvs : List (KK × Value)} {k : KK} {key dflt : Value} (N : News h₀ L s.heap news) (hq : (q, bmObj "dict.get" (.ref d)) ∈ news) (hm : (d, o) ∈ news) (hd : o.IsDictOf knd kvs)
  (hkey : knd.is k key = true) (lo : (d == sysModules) = false) (h : Q ((valueAt kvs k).getD dflt) { s with toks := s.toks + 1 }) : wpAny (model prog w) A (call (.ref q) [key, dflt]) Q E s := by
 have hD := kda_dict N hm hd
 exact wpAny_call (bm_call (R := wants Q E) (N _ hq).1 (fun _ _ _ h => by
  refine (let G9 : Prop := _; (?_ : G9))
  obtain ⟨es, ep, ⟨e1, e2, e3⟩, e4, _⟩ := hd
  refine (?_ : wpAny _ _ _ _ _ _)
  have ho9 := (N _ hm).1
  with_reducible exact checkB sigGet_is (by decide +kernel) (by decide +kernel) ho9 e1 (fun c h => by rw [e4] at h; cases h) dict_no_module (by kernel_rfl) h) (by decide +kernel) PySem.F.entry_dict_get (meets_dict_get_default knd d hkey lo dflt A (wants Q E) s ⟨_, hD.mapOf, h⟩))
end
theorem set_no_module : isSubtype (.type "set") (.type "module") = pure false := by rw [isSubtype_type]; kernel_rfl
noncomputable def sigCon : Manifest.Signature := (Manifest.signature? "set.__contains__").get (by decide +kernel)
theorem sigCon_is : Manifest.signature? "set.__contains__" = some sigCon := by kernel_rfl
theorem contains_call (w : World) (A : Around) (s : Shared) (q bj : Addr) (l1 : Bool) (c : Str) (t : Tok) (Q E : Value → Shared → Prop)
  (hq : s.heap.get? q = some ⟨.type "builtin_function_or_method", none, .fields #[.builtin "set.__contains__", .ref bj], #[]⟩)
  (hb : s.heap.get? bj = some ⟨Value.type "set", none, Data.set #[] 0 (SetTable.fresh 0 0 l1), #[]⟩)
  (hret : ∀ tk, Q (.bool false) { s with toks := tk }) :
  wpAny (model (rw_nq0317_01.prog) w) A (call (.ref q) [.str c t]) Q E s := by
 have hS : s.heap.SetOf (PySem.strKind rw_nq0317_01.prog w) bj (fun _ => false) 0 := by
  obtain ⟨hex, es, ep, t, hd, hel, hmem, hn, hf⟩ := setObjOf_fresh (knd := PySem.strKind rw_nq0317_01.prog w) l1
  exact ⟨_, es, ep, t, hb, hex, hd, hel, hmem, by rw [hn]; decide, hf, hn⟩
 have hc : ∀ (A : Around) (Q : Unit → Shared → Prop) (E : Value → Shared → Prop), Q () s → wpAny (model (rw_nq0317_01.prog) w) A (checkBoundCall "set.__contains__" ⟨.ref bj :: [.str c t], []⟩) Q E s := fun _ _ _ h => checkB (T := "set") (id := "set.__contains__") sigCon_is (by decide +kernel) (by decide +kernel) hb rfl (fun c h => by cases h) set_no_module (by kernel_rfl) h
 refine wpAny_call ?_
 refine bm_call (R := wants Q E) (id := "set.__contains__") (self := .ref bj) (pos := [.str c t]) (b := Builtin.«frozenset.__contains__») hq hc (by decide +kernel) entry_set_contains ?_
 unfold Builtin.«frozenset.__contains__» Builtin.Frozenset.oneOther
 simp only [List.isEmpty_nil, bind_assoc]
 unfold Builtin.Frozenset.addrOf Builtin.Frozenset.withSetAsKey setContains
 refine wpAny_bind (wpAny_pure ?_)
 try dsimp only
 refine wpAny_bind (wpAny_pure ?_)
 try dsimp only
 refine wpAny_bind (wpAny_tryCatch ?_)
 refine wpAny_holding ?_
 refine wpAny_bind ((PySem.strKind rw_nq0317_01.prog w).pyHash (strKind_is _ _ c t) ?_)
 refine wpAny_bind (wpAny_setFind_of (s := { s with toks := s.toks + 1 }) (strKind_is _ _ c t) rfl hS fun r hr => ?_)
 refine wpAny_pure ?_
 show wpAny _ _ (ret (Value.bool r.isSome)) _ _ _
 rw [hr]
 exact wpAny_pure (hret _)
theorem keeps_B {M : Model} {q : Addr} {id : String} {self : Value} (h : Heap) (X : h.get? q = some (bmObj id self)) : ∃ k, (k = Keeper.frame ∨ k = Keeper.machine ∨ k = Keeper.boundFrame) ∧ Looks M h (keeperOf (.ref q)) k :=
 ⟨.machine, .inr (.inl rfl), (Looks.ld (part := none) X).andThen .now⟩
theorem callWith_B {M : Model} {A : Around} {E : Value → Shared → Prop} {s : Shared} {Q : Value → Shared → Prop} {env : Env} {q : Addr} {id : String} {self : Value} {pos : Pos} {first : List Value} {e : PySem.Expr} {rest : List PySem.Expr}
  (h : wpAny M A (spliced (backTo pos (starEach (e :: rest) env))) (fun vs s₁ => s₁.heap.get? q = some (bmObj id self) ∧ wpAny M A (call (.ref q) (first ++ vs)) Q E s₁) E s)
  (he : starEach (e :: rest) env = (false, eval e env) :: starEach rest env := by rfl) (hplain : (backTo pos (starEach rest env)).any (·.1) = false := by rfl) :
  wpAny M A (callWith pos (.ref q) first (backTo pos (starEach (e :: rest) env)) []) Q E s := by
 rw [he] at h ⊢
 exact callWith_of (by show ((false || (backTo pos (starEach rest env)).any (·.1)) || false) = false; rw [hplain]; rfl) keeps_B (evalArgs_plain h)
theorem kst_rest2 {u m₀ : Str → Option Value} {stored : List Str} {z : Str} (h : stored.contains z = false) : ∀ {ps : List (Str × Value)}, (∀ p ∈ ps, z ≠ p.1) → kstB (fun z => if stored.contains z then u z else m₀ z) ps z = m₀ z
 | [], _ => kst_rest h
 | p :: r, h2 => by
  show (if z = p.1 then some p.2 else kstB _ r z) = m₀ z
  rw [if_neg (h2 p (.head _))]
  exact kst_rest2 h fun q hq => h2 q (.tail _ hq)
theorem frTok {h₀ h : Heap} {L : Addr} {m : Str → Option Value} (F : Fr h₀ L h m) (x : Str) {k : Int} {t : Tok} (hx : m x = some (.int k t)) : ∃ t', m x = some (.int k t') := ⟨t, hx⟩
noncomputable def newsIn (K : Frag) (C : Addr) : Bool := match K.lookup C with
 | some ⟨_, _, .cls cd, sl⟩ => (sl.toList[4]?).join == some Value.none && !cd.mro.isEmpty && cd.mro.contains (.ref C) &&
   specialIn K (.ref C) "__call__" == some (some (.builtin "type.__call__")) && instIn K (.ref C) (.type "type") == some true && findIn K (.ref C) "__init__" == some (some (.builtin "object.__init__")) && cd.mro.contains (.type "object")
 | _ => false
structure NewsC (M : Model) (h : Heap) (C : Addr) : Prop where
 obj : ∃ oc od cd sl, h.get? C = some ⟨oc, od, .cls cd, sl⟩ ∧ cd.mro.isEmpty = false
 made : Looks M h (Bind.madeBy (.ref C)) none
 self : Looks M h (isSubtype (.ref C) (.ref C)) true
 top : Looks M h (isSubtype (.ref C) (.type "object")) true
 call : Looks M h (specialOf (.ref C) "__call__") (some (.builtin "type.__call__"))
 typ : Looks M h (isInstance (.ref C) (.type "type")) true
 ini : Looks M h (typeLookup (.ref C) "__init__") (some (.builtin "object.__init__"))
theorem newsC_of {K : Frag} {M : Model} {h : Heap} (X : K.In h) {C : Addr} (e : newsIn K C = true) : NewsC M h C := by
 unfold newsIn at e
 split at e
 ·rename_i oc od cd sl ho
  simp only [Bool.and_eq_true, Bool.not_eq_true', beq_iff_eq] at e
  obtain ⟨⟨⟨⟨⟨⟨e3, e4⟩, e5⟩, e7⟩, e8⟩, e9⟩, e6⟩ := e
  have hc : clsIn K C = some cd := by unfold clsIn; rw [ho]
  have hm : Looks M h (mroOf (.ref C)) cd.mro := (looks_clsIn X hc).andThen .now
  obtain ⟨c, l, hl⟩ : ∃ c l, cd.mro = c :: l := by cases q : cd.mro with | nil => rw [q] at e4; cases e4 | cons c l => exact ⟨c, l, rfl⟩
  have made : Looks M h (Bind.madeBy (.ref C)) none := by
   intro A Q E s k q
   unfold Bind.madeBy
   refine wpAny_bind (hm A _ E s k ?_)
   rw [hl, List.forIn_cons]
   refine wpAny_bind (wpAny_bind (wpAny_bind (wpAny_bind (wpAny_loadPart (k _ _ (X _ _ ho)) (wpAny_pure ?_)))))
   dsimp only
   rw [← Array.getElem?_toList, e3]
   exact wpAny_pure (wpAny_pure (wpAny_pure q))
  refine ⟨⟨oc, od, cd, sl, X _ _ ho, e4⟩, made, looks_mroIn X ?_, looks_mroIn X ?_, looks_specialIn X e7, looks_instIn X e8, looks_findIn X e9⟩
  ·unfold mroIn; rw [hc, Option.bind_some, if_neg (by rw [e4]; decide), e5]
  unfold mroIn; rw [hc, Option.bind_some, if_neg (by rw [e4]; decide), e6]
 cases e
def NewBack (M : Model) (C : Addr) (R : Result → Shared → Prop) (r : Result) (s' : Shared) : Prop := match r with
 | .ok (.ret v) => ∃ q o, v = .ref q ∧ s'.heap.get? q = some o ∧ o.cls = .ref C ∧ NewsC M s'.heap C ∧ R (.ok (.ret v)) s'
 | .ok _ => False
 | .error e => R (.error e) s'
theorem oi_run3 {M : Model} {A : Around} {E : Value → Shared → Prop} {s : Shared} {C q : Addr} {o : Obj} {a b c : Value} {Q : Fin → Shared → Prop} (Y : NewsC M s.heap C) (ho : s.heap.get? q = some o) (hc : o.cls = .ref C) (h : Q (.done (.ret .none)) s) :
  wpAny M A (Builtin.«object.__init__» ⟨[.ref q, a, b, c], []⟩) Q E s := by
 have t1 : Looks M s.heap (typeOf (.ref q)) (.ref C) := by
  rw [← hc]
  exact (Looks.ld (part := none) (M := M) ho).andThen .now
 have i1 := Y.ini
 have m1 := Y.made
 unfold Builtin.«object.__init__»
 repeat lk
 exact h
theorem oi_args3 (a b c d : Value) : argsOk "object.__init__" ⟨[a, b, c, d], []⟩ := by unfold argsOk; kernel_rfl
theorem own_new {prog : Program} {w : World} {A : Around} {R : Result → Shared → Prop} {s : Shared} {C fN : Addr} {a b c : Value} (Y : NewsC (model prog w) s.heap C)
  (hnew : ∀ (A : Around) (Q : Value → Shared → Prop) (E : Value → Shared → Prop), Q (.ref fN) { s with toks := s.toks + 1 } → wpAny (model prog w) A (getAttr (.ref C) "__new__") Q E s)
  (h : codeAny (model prog w) (A.under (.builtin "type.__call__" ⟨.ref C :: [a, b, c], []⟩)) (.call (.ref fN) ⟨[.ref C, a, b, c], []⟩) (NewBack (model prog w) C R) { s with toks := s.toks + 1 }) :
  codeAny (model prog w) A (.call (.ref C) ⟨[a, b, c], []⟩) R s := by
 obtain ⟨⟨oc, od, cd, sl, hC, e4⟩, made, self, top, call, typ, ini⟩ := Y
 refine codeAny_of_tree ?_
 show wpAny _ _ (callAny (.ref C) _) _ _ _
 refine nd_load hC ?_
 show wpAny _ _ (callAny.viaDunder (.ref C) _) _ _ _
 unfold callAny.viaDunder
 refine wpAny_bind (call.at ?_)
 dsimp only
 rw [tc_bind]
 refine wpAny_bind (wpAny_pure (wpAny_bind (wpAny_pure ?_)))
 refine wpAny_pure (a := Fin.again (.call (.builtin "type.__call__") ⟨.ref C :: [a, b, c], []⟩)) (And.intro rfl ?_)
 with_reducible refine codeAny_call_builtin_at (Code.quiet_builtin _ (by decide +kernel)) entry_typeCall ?_
 with_reducible refine check_slot tc_kind tc_split typ (tc_args _ _ _) ?_
 unfold Builtin.«type.__call__»
 have hm : Looks (model prog w) s.heap (mroOf (.ref C)) cd.mro := ((Looks.ld (part := none) hC).andThen .now).andThen .now
 repeat (first | simp only [e4, Bool.false_eq_true, if_false] | refine wpAny_bind (hnew _ _ _ ?_) | refine wpAny_bind (wpAny_holding (wpAny_call ?_)) | lk)
 refine codeAny_mono h fun r s' z => ?_
 rcases r with e | (v | _ | _ | _) <;> first | exact z | exact z.elim | skip
 refine el2_5 (z) ?_; (try clear z); intro q o e92 ho hc Y' z; subst e92
 have t1 : Looks (model prog w) s'.heap (typeOf (.ref q)) (.ref C) := by
  rw [← hc]
  exact (Looks.ld (part := none) ho).andThen .now
 have t2 : Looks (model prog w) s'.heap (isInstance (.ref q) (.type "object")) true := t1.andThen Y'.top
 have s1 := Y'.self
 have i1 := Y'.ini
 have b1 := oi_bind (.ref q)
 show wpAny _ _ _ _ _ _
 unfold isInstance callSpecial? specialOf
 repeat (first | rw [b1] | with_reducible refine wpAny_call ?_ | lk)
 refine codeAny_call_builtin oi_plain entry_oi (@check_slot (model prog w) _ _ _ "object.__init__" "object" "__init__" (.ref q) [a, b, c] [] _ oi_kind oi_split t2 (oi_args3 _ _ _ _) ?_)
 exact oi_run3 Y' ho hc (wpAny_pure (wpAny_pure z))
theorem wpAny_up {α : Type} {M : Model} {A : Around} {t : Sem α} {Q : α → Shared → Prop} {E : Value → Shared → Prop} {s : Shared} (A' : Around) (h1 : A'.handled = A.handled) (h2 : A.depth ≤ A'.depth) (h3 : A'.frames = A.frames) (h4 : A'.guards = A.guards) (h5 : A.units ≤ A'.units)
  (h : wpAny M A' t Q E s) : wpAny M A t Q E s := fun Γ p hΓ => h Γ p ⟨hΓ.1.trans h1.symm, Nat.le_trans hΓ.2.1 h2, fun l hl => hΓ.2.2.1 l (h3 ▸ hl), fun g hg => hΓ.2.2.2.1 g (h4 ▸ hg), Nat.le_trans hΓ.2.2.2.2 h5⟩
theorem getAttr_B2 {M : Model} {A : Around} {E : Value → Shared → Prop} {s : Shared} {T g : String} {v : Value} {name : Str} {pl : Bool} {Q : Value → Shared → Prop} (hT : typeOf v = pure (.type T)) (hga : typeLookup (.type T) "__getattribute__" = pure (some (.builtin g)))
  (hgt : typeOf (.builtin g) = pure (.type "wrapper_descriptor"))
  (h : wpAny M A (call (.builtin g) [v, .str name s.toks]) (fun r s' => wpAny M A (handedOut r) Q E s') (fun _ _ => False) { s with toks := s.toks + 1 }) : wpAny M A (getAttr v name pl) Q E s := by
 unfold getAttr
 refine wpAny_bind (wpAny_mkText ?_)
 unfold getAttrBy
 refine wpAny_holding ?_
 rw [hT]
 refine wpAny_bind (wpAny_pure ?_)
 rw [hga]
 refine wpAny_bind (wpAny_pure ?_)
 show wpAny M A (getAttrByItsOwn v _ (.type T) (.builtin g) true pl) Q E _
 unfold getAttrByItsOwn
 refine wpAny_bind (wpAny_pure ?_)
 refine wpAny_bind (wpAny_attempt (wpAny_holding ?_))
 unfold callGetattribute
 rw [show (pl && onTheHeap (Value.builtin g)) = false from Bool.and_false _, if_neg (by decide)]
 show wpAny M A (boundAndCalled (.builtin g) v _) _ _ _
 unfold boundAndCalled bindSpecial
 refine wpAny_bind ?_
 rw [hgt]
 refine wpAny_bind (wpAny_pure ?_)
 refine wpAny_pure ?_
 exact wpAny_mono h (fun _ _ x => x) fun _ _ x => x.elim
noncomputable abbrev matchObj (d : Addr) (i j k : Value) : Obj := ⟨.ref 135, some d, .seq #[i, j, k], #[]⟩
theorem matchNews (P : Params) : newsIn (Mine.K P) 135 = true := by kernel_rfl
section
open PySem.W.X
noncomputable def kO (w : World) (a : Addr) : Obj := ((Mine.K w.params).lookup a).getD default
theorem kO_at {w : World} {h : Heap} {a : Addr} (X : (Mine.K w.params).In h) (e : ((Mine.K w.params).lookup a).isSome = true) : h.get? a = some (kO w a) := by
 unfold kO
 cases h9 : (Mine.K w.params).lookup a with
 | none => rw [h9] at e; cases e
 | some o => exact X a o h9
theorem coll_c {prog : Program} {w : World} {A : Around} {R : Result → Shared → Prop} {s : Shared} {it : Addr} {o : Obj} {items : Array Value} {n : Nat} (ho : s.heap.get? it = some o) (hc : o.cls = .type "tuple") (hd : o.data = .seq items n) (hsz : items.size ≤ sizeLine)
  (hR : ∀ l h', (∀ b o, s.heap.get? b = some o → h'.get? b = some o) → h'.get? l = some (Obj.mapSeq (· ++ items) ⟨.type "list", none, .seq #[] 0, #[]⟩) → R (.ok (.ret (.ref l))) { s with heap := h' }) :
  codeAny (model prog w) A (.builtin "proto.collect" ⟨[.ref it], []⟩) R s := by
 refine codeAny_builtin PyProof.Rows.entry_proto_collect' ?_
 rw [Around.under_plainId F.plain_proto_collect _]
 show wpAny _ A.in1 (newList [] >>= fun l => again (.builtin "list.__iadd__" ⟨[l, .ref it], []⟩)) _ _ s
 refine wpAny_bind (wpAny_newObj_type ?_)
 refine wpAny_pure ⟨plainId_quiet F.plain_list_iadd _, codeAny_builtin F.entry_list_iadd ?_⟩
 rw [Around.under_plainId F.plain_list_iadd _]
 refine wpAny_extend_seq (T := "tuple") s.heap.objs.size it _ 0 (.inr rfl) (Heap.get?_push_size _ rfl) (Heap.get?_push_of_some _ ho) hc hd ?_ hsz
 refine hR _ _ (fun b o' hb => ?_) (Heap.get?_update_self (Obj.mapSeq (· ++ items)) (Heap.get?_push_size _ rfl) rfl)
 exact (Heap.get?_update_other _ _ (ngt (Heap.lt_size hb))).trans (Heap.get?_push_of_some _ hb)
theorem tnew_x (w : World) (A : Around) (s : Shared) (t : Addr) (i j k : Int) (n : Nat) (t1 t2 t3 : Tok) (Q E : Value → Shared → Prop)
  (X : (Mine.K w.params).In s.heap)
  (ht : s.heap.get? t = some ⟨.type "tuple", none, .seq #[.int i t1, .int j t2, .int k t3] n, #[]⟩)
  (hret : ∀ q d h1 h', (∀ b o, s.heap.get? b = some o → h1.get? b = some o) → Mem h1 h' [] [(q, matchObj d (.int i t1) (.int j t2) (.int k t3)), (d, ⟨.type "dict", none, .dict #[] 0, #[]⟩)] → Q (.ref q) { s with heap := h' }) :
  wpAny (model (rw_nq0317_01.prog) w) A (call (.builtin "tuple.__new__") [.ref 135, .ref t]) Q E s := by
 have x5 : s.heap.get? 135 = some (kO w 135) := kO_at X (by kernel_rfl)
 have x4 : s.heap.get? 134 = some (kO w 134) := kO_at X (by kernel_rfl)
 refine wpAny_call (y_cd ?_)
 with_reducible refine y_ld (a := 135) (by kernel_rfl) x5 ?_
 with_reducible refine y_ld (a := 135) (by kernel_rfl) x5 ?_
 with_reducible refine y_ld (a := 135) (by kernel_rfl) x5 ?_
 with_reducible refine y_ld (a := 135) (by kernel_rfl) x5 ?_
 with_reducible refine y_ld (a := 135) (by kernel_rfl) x5 ?_
 with_reducible refine y_ld (a := 135) (by kernel_rfl) x5 ?_
 with_reducible refine y_ag (c2 := .builtin "tuple.__new__" ⟨[.ref 135, .ref t], []⟩) (by kernel_rfl) (by kernel_rfl) (y_cd ?_)
 with_reducible refine y_ld (a := 135) (by kernel_rfl) x5 ?_
 with_reducible refine y_ld (a := 135) (by kernel_rfl) x5 ?_
 with_reducible refine y_ld (a := 135) (by kernel_rfl) x5 ?_
 with_reducible refine y_ld (a := 135) (by kernel_rfl) x5 ?_
 with_reducible refine y_ld (a := 135) (by kernel_rfl) x5 ?_
 with_reducible refine y_ld (a := 135) (by kernel_rfl) x5 ?_
 with_reducible refine y_ld (a := 135) (by kernel_rfl) x5 ?_
 with_reducible refine y_ld (a := 135) (by kernel_rfl) x5 ?_
 with_reducible refine y_ld (a := 134) (by kernel_rfl) x4 ?_
 refine y_cl (c2 := .builtin "proto.collect" ⟨[.ref t], []⟩) (by kernel_rfl) (coll_c ht rfl rfl (show 3 ≤ sizeLine by decide +kernel) fun l h1 k1 hl => ?_)
 with_reducible refine y_ld (a := l) (by kernel_rfl) hl ?_
 with_reducible refine y_al (o := ⟨.type "dict", none, .dict #[] 0, #[]⟩) (by kernel_rfl) (Mem.start h1) rfl fun d h2 D => ?_
 with_reducible refine y_al (o := matchObj d (.int i t1) (.int j t2) (.int k t3)) (by kernel_rfl) D rfl fun q h3 D => ?_
 with_reducible refine y_ld (a := 135) (o := kO w 135) (by kernel_rfl) (D.old 135 _ (k1 _ _ x5) rfl) ?_
 with_reducible refine y_dn (v := .ref q) (by kernel_rfl) ?_
 exact hret q d h1 h3 k1 D
end
theorem fr_keep {h₀ h h' : Heap} {L : Addr} {m : Str → Option Value} (hk : ∀ b o, h.get? b = some o → h'.get? b = some o) (F : Fr h₀ L h m) : Fr h₀ L h' m := ⟨F.ns.keeps hk, fun b o e => hk b o (F.keep b o e), F.above⟩
section
open PySem.W.X
theorem txt_new : Str.ofString "__new__" = ⟨⟨[95, 95, 110, 101, 119, 95, 95]⟩⟩ := PySem.W.Fast.ofString_ofList ['_', '_', 'n', 'e', 'w', '_', '_']
theorem tga_tuple_x (w : World) (A : Around) (s : Shared) (t : Tok) (Q E : Value → Shared → Prop) (hret : Q (.builtin "tuple.__new__") s) :
  wpAny (model (rw_nq0317_01.prog) w) A (call (.builtin "type.__getattribute__") [.type "tuple", .str (Str.ofString "__new__") t]) Q E s := by
 rw [txt_new]
 refine wpAny_call (y_cd ?_)
 with_reducible refine y_ag (c2 := .builtin "type.__getattribute__" ⟨[.type "tuple", .str ⟨⟨[95, 95, 110, 101, 119, 95, 95]⟩⟩ t], []⟩) (by kernel_rfl) (by kernel_rfl) (y_cd ?_)
 exact y_dn (v := .builtin "tuple.__new__") (by kernel_rfl) hret
end
theorem toks_type : typeOf (.builtin "type.__getattribute__") = pure (.type "wrapper_descriptor") := by show builtinType _ = _; kernel_rfl
theorem getm_tuple_new {w : World} {A : Around} {E : Value → Shared → Prop} {s : Shared} {pl : Sem Bool} {Q : Value × List Value → Shared → Prop} (X : (Mine.K w.params).In s.heap) (h : ∀ tk, Q (.builtin "tuple.__new__", []) { s with toks := tk }) :
  wpAny (model (rw_nq0317_01.prog) w) A (getMethod (.type "tuple") (Str.ofString "__new__") pl) Q E s := by
 have ht : typeOf (.type "tuple") = pure (.type "type") := by first | rfl | kernel_rfl
 have L0 : Looks (model (rw_nq0317_01.prog) w) s.heap (typeOf (.type "tuple")) (.type "type") := Looks.of_pure ht
 have hg : findIn (Mine.K w.params) (.type "type") "__getattribute__" = some (some (.builtin "type.__getattribute__")) := type_tga
 unfold getMethod specialOf
 refine wpAny_bind (wpAny_bind (L0.here ((looks_findIn X hg).here ?_)))
 dsimp only
 rw [if_pos canon_tga]
 refine wpAny_bind (wpAny_mono (Q := fun v => Q (v, [])) (E := E) ?_ (fun _ _ z => wpAny_pure z) fun _ _ z => z)
 refine getAttr_B2 (T := "type") ht (by rw [typeLookup_type, builtinLookup_eq_fast]; kernel_rfl) toks_type ?_
 exact tga_tuple_x w A _ _ _ _ (wpAny_pure (h _))
theorem match_c (w : World) (p : Program) (lo : List Str) (mean : ExcName → Option Value) (mg mb : Str → Option Value)
  (gd : Option (List Code)) (cn : Str) (cs : Scope) (a : Addr) (ccd : Value) (cl : List (Str × Addr)) (outer : List Env) (A₀ : Around) (base h₀ : Heap) (L : Addr) (m : Str → Option Value) (news : List (Addr × Obj)) (s : Shared)
  (i j k : Int) (t1 t2 t3 : Tok) (Q E : Value → Shared → Prop)
  (B : Below A₀ base outer h₀) (F : Fr h₀ L s.heap m) (X : (Mine.K w.params).In h₀) (N : News h₀ L s.heap news) (T : Top p lo mean mg mb h₀) (hk : cs.kind = .function)
  (hret : ∀ q d h' tk', Fr h₀ L h' m → News h₀ L h' ((q, matchObj d (.int i t1) (.int j t2) (.int k t3)) :: news) → (∀ p ∈ news, p.1 ≠ q) → Q (.ref q) { s with heap := h', toks := tk' }) :
  wpAny (model (rw_nq0317_01.prog) w) (ktrTop 360 600 gd cn cs L a ccd cl outer) (call (.ref 135) [.int i t1, .int j t2, .int k t3]) Q E s := by
 k_with_none
 k_with "execs cons" => (k_here; first | k_made | ((fail_if_success (fail_if_success k_gentoks)); refine (let tk : Nat := _; (?_ : wpAny _ _ _ _ _ ⟨_, _, _, tk, _⟩))) | ((with_reducible refine wpAny_execs_cons ?_); (try dsimp only); refine (let qv : Flow → Shared → Prop := _; (?_ : wpAny _ _ _ qv _ _))))
 k_with "execs nil" => (k_here; (fail_if_success (fail_if_success k_gentoks)); refine (let tk : Nat := _; (?_ : wpAny _ _ _ _ _ ⟨_, _, _, tk, _⟩)))
 k_with "call builtin:tuple.__new__" => refine stopped ?_
 revert X
 k_fill
 intro X
 refine wpAny_call (own_new (newsC_of (X.keeps F.keep) (matchNews _)) (fun A Q E hq => cls_sm (f := .ref 82) F X (by k_is) (by k_is) (by k_is) (by k_is) rfl hq) ?_)
 k_dflt (refine' code_def (binds := [(Str.ofString "_cls", .ref 135), (Str.ofString "a", .int i t1), (Str.ofString "b", .int j t2), (Str.ofString "size", .int k t3)]) ?k1 ?k2 ?k3 ?k4 ?k5 ?kA ?kF ?kK ?k6 ?k7 ?k8 ?k9 ?kB ?_ ?c2 ?c3 ?c4 ?c5; (case kA => exact rfl); (case kF => exact rfl); (case kK => assumption); (case k1 => k_asm); (case k2 => k_asm); (case k3 => k_asm); (case k4 => k_asm); (case k5 => k_asm); (case k6 => k_is); (case k7 => k_is); (case k8 => ktr_room); (case k9 => first | exact BindsTo.of_eq rfl | exact binds_K (by k_in) rfl (by k_is) rfl rfl rfl); (case c5 => decide); (case kB => exact locs rfl); (case c2 => exact rfl); (case c3 => exact rfl); (case c4 => exact rfl); k_whole; intro g' L' h' FG' F' N' B' X' T'; (try dsimp only); (try k_fold))
 k_steps
 refine getm_tuple_new (X'.keeps F'.keep) fun tk2 => ?_
 k_steps
 refine ⟨?_⟩
 rename Fr _ _ _ _ => F2
 rename News _ _ _ _ => N2
 refine tnew_x w _ _ _ i j k _ t1 t2 t3 _ _ (X'.keeps F2.keep) (N2 _ (.head _)).1 fun q d h8 h9 k8 D => ?_
 have F8 := fr_keep k8 F2
 have N8 : News g' L' h8 _ := fun p hp => ⟨k8 _ _ (N2 p hp).1, (N2 p hp).2⟩
 have F9 := mem_fr D F8
 have N9 : News g' L' h9 ((q, matchObj d (.int i t1) (.int j t2) (.int k t3)) :: news) := nsub (mem_news D F8 N8) (sbc (maL _ (.head _)) (fun p hp => maR _ (.tail _ hp)))
 have hq9 : ∀ p ∈ news, p.1 ≠ q := fun p hp e => D.ne_old 0 q _ rfl p.1 p.2 (N8 p (.tail _ hp)).1 e.symm
 clear N2 F2 N8 F8 D
 k_steps
 rename Fr _ _ _ _ => F3
 rename News _ _ _ _ => N3
 exact ⟨q, _, rfl, (N3 _ (.head _)).1, rfl, newsC_of (X.keeps F3.keep) (matchNews _), hret q d _ _ F3 N3 hq9⟩
structure NI where
 nm : Str
 tn : Tok
 a : Addr
 ad : Addr
 np : Int
 tp : Tok
 sl : Addr
 sc : List (Str × Tok)
 ep : Nat
noncomputable abbrev niRaw (ad : Addr) (nm : Str) (tn : Tok) (np : Int) (tp : Tok) (sl : Addr) : Obj := ⟨.ref 265, some ad, .plain, #[some (.str nm tn), some (.int np tp), some (.ref sl)]⟩
noncomputable def strVals (l : List (Str × Tok)) : Array Value := (l.map fun p => Value.str p.1 p.2).toArray
noncomputable def nodeL (e : NI) : List (Addr × Obj) := [(e.a, niRaw e.ad e.nm e.tn e.np e.tp e.sl), (e.ad, dictOf [] 0), (e.sl, W.listOf (strVals e.sc) e.ep)]
noncomputable def ledN (ns : List NI) : List (Addr × Obj) := ns.flatMap nodeL
noncomputable def kvsN (ns : List NI) : List (Str × Value) := ns.map fun e => (e.nm, .ref e.a)
theorem ledN_append (a b : List NI) : ledN (a ++ b) = ledN a ++ ledN b := List.flatMap_append
theorem kvsN_append (a b : List NI) : kvsN (a ++ b) = kvsN a ++ kvsN b := List.map_append
theorem mem_ledN {ns : List NI} {e : NI} (he : e ∈ ns) {p : Addr × Obj} (hp : p ∈ nodeL e) : p ∈ ledN ns := List.mem_flatMap.mpr ⟨e, he, hp⟩
theorem nvalueAt_some {ns : List NI} {x : Str} {v : Value} (h : valueAt (kvsN ns) x = some v) : ∃ e ∈ ns, e.nm = x ∧ v = .ref e.a := by
 unfold valueAt kvsN at h
 refine el1_2 (Option.map_eq_some_iff.mp h) ?_; intro kv hf e92; subst e92
 have hm := List.mem_of_find?_eq_some hf
 have hk := List.find?_some hf
 refine el1_2 (mm1 hm) ?_; intro e he e92; subst e92
 exact ⟨e, he, by simpa using hk, rfl⟩
theorem nvalueAt_none {ns : List NI} {x : Str} (h : valueAt (kvsN ns) x = none) : x ∉ ns.map (·.nm) := by
 unfold valueAt kvsN at h
 rw [Option.map_eq_none_iff, List.find?_eq_none] at h
 intro hm
 refine el1_2 (mm1 hm) ?_; intro e he e92; subst e92
 exact h _ (mm2 ⟨e, he, rfl⟩) (by simp)
theorem nvalueAt_mem {ns : List NI} (hn : (ns.map (·.nm)).Nodup) {e : NI} (he : e ∈ ns) : valueAt (kvsN ns) e.nm = some (.ref e.a) := by
 cases h : valueAt (kvsN ns) e.nm with
 | none => exact absurd (mm2 ⟨e, he, rfl⟩) (nvalueAt_none h)
 | some v =>
  refine el1_3 (nvalueAt_some h) ?_; intro e' he' h1 e93; subst e93
  rw [nodup_inj hn he' he h1]
theorem nstored_new {ns : List NI} {x : Str} {v : Value} (h : valueAt (kvsN ns) x = none) : stored (kvsN ns) x v = kvsN ns ++ [(x, v)] := by
 unfold stored
 rw [if_neg]
 unfold valueAt at h
 rw [Option.map_eq_none_iff, List.find?_eq_none] at h
 intro ha
 refine el1_2 (List.any_eq_true.mp ha) ?_; intro kv hm hk
 exact h kv hm hk
noncomputable def upN (a : Addr) (f : NI → NI) (ns : List NI) : List NI := ns.map fun e => if e.a = a then f e else e
noncomputable abbrev Keys (l : List (Addr × Obj)) : List Addr := l.map (·.1)
theorem nodup_mem {l : List (Addr × Obj)} (h : (Keys l).Nodup) {a : Addr} {o o' : Obj} (h1 : (a, o) ∈ l) (h2 : (a, o') ∈ l) : o = o' := by
 have := nodup_inj h h1 h2 rfl
 exact congrArg Prod.snd this
theorem nodup_sub_ne {pre post : List (Addr × Obj)} (h : (Keys (pre ++ post)).Nodup) {p q : Addr × Obj} (hp : p ∈ pre) (hq : q ∈ post) : p.1 ≠ q.1 := by
 unfold Keys at h
 rw [List.map_append, List.nodup_append] at h
 exact h.2.2 p.1 (mm2 ⟨p, hp, rfl⟩) q.1 (mm2 ⟨q, hq, rfl⟩)
section
variable {prog : Program} {w : World} {A : Around} {E : Value → Shared → Prop} {s : Shared} {h₀ : Heap} {L : Addr} {m : Str → Option Value} {news : List (Addr × Obj)}
theorem newsFront {h : Heap} {x : Addr} {o : Obj} (N : News h₀ L h news) (hm : (x, o) ∈ news) : News h₀ L h ([] ++ (x, o) :: news.filter fun p => decide (p.1 ≠ x)) := by
 intro p hp
 refine asp hp ?_ fun hp => ?_
 ·exact N _ hm
 exact N p (mf1 hp).1
theorem newsBack {h : Heap} {x : Addr} {o : Obj} (N : News h₀ L h ([] ++ (x, o) :: news.filter fun p => decide (p.1 ≠ x))) : News h₀ L h (setAt x o news) := by
 intro p hp
 rcases mem_setAt hp with ⟨rfl, _⟩ | ⟨hn, hp⟩
 ·exact N _ (.head _)
 exact N p (.tail _ (List.mem_filter.mpr ⟨hp, by simpa using hn⟩))
variable {K : Frag} {C dx x i p : Nat} {name : Str} {v : Value} {od : Obj} {sl : Array (Option Value)}
theorem slotset_S {sl' : Array (Option Value)} {Q : Unit → Shared → Prop} (F : Fr h₀ L s.heap m) (X₀ : K.In h₀) (N : News h₀ L s.heap news) (h1 : (x, (⟨.ref C, some dx, .plain, sl⟩ : Obj)) ∈ news) (h2 : (dx, od) ∈ news)
  (hs : findIn K (.ref C) "__setattr__" = some (some (.builtin "object.__setattr__"))) (hp : plainOver K C = true) (ht : takerIn K C name = some (some (.ref p))) (hT : typeIn K (.ref p) = some (.type "member_descriptor")) (hi : slotIn K p C = some i) (hz : i < 1000)
  (e : (sl ++ Array.replicate (i + 1 - sl.size) none).setIfInBounds i (some v) = sl')
  (h : ∀ h', Fr h₀ L h' m → News h₀ L h' (setAt x ⟨.ref C, some dx, .plain, sl'⟩ news) → Q () { s with heap := h', toks := s.toks + 1 }) : wpAny (model prog w) A (setAttr (.ref x) name v) Q E s := by
 subst e
 refine set_plain (X₀.keeps F.keep) (InstAt.of_news N h1 h2) hs (osa_descr (s := { s with toks := s.toks + 1 }) KF.slot_mset (X₀.keeps F.keep) (InstAt.of_news N h1 h2) hp ht hT ?_)
 refine slot_set (s := { s with toks := s.toks + 1 }) F (newsFront N h1) (X₀.keeps F.keep) (InstAt.of_news N h1 h2) hi hz (fun p hp => nomatch hp) (fun p hp => by simpa using (mf1 hp).2) rfl rfl fun h' F' N' => h h' F' (newsBack N')
end
section
variable {w : World} {A : Around} {E : Value → Shared → Prop} {s : Shared} {h₀ : Heap} {L : Addr} {m : Str → Option Value} {news : List (Addr × Obj)} {x dx sl : Addr} {nm : Str} {tn tp : Tok} {np : Int} {od : Obj}
theorem np_get {expr : Bool} {Q : Value → Shared → Prop} (F : Fr h₀ L s.heap m) (X : (Mine.K w.params).In h₀) (N : News h₀ L s.heap news) (h1 : (x, niRaw dx nm tn np tp sl) ∈ news) (h2 : (dx, od) ∈ news) (h : Q (.int np tp) { s with toks := s.toks + 1 }) :
  wpAny (model rw_nq0317_01.prog w) A (getAttr (.ref x) (Str.ofString "npredecessors") expr) Q E s := by
 revert X
 k_fill
 intro X
 refine' get_slot F X (InstAt.of_news N h1 h2) ?k4 ?k5 ?k6 ?k7 ?k8 ?k9 ?k10 ?k11 ?_; (case k4 => k_is); (case k5 => k_is); (case k6 => k_is); (case k7 => k_is); (case k8 => k_is); (case k9 => k_is); (case k10 => k_slotget); (case k11 => k_handed); exact h
theorem nm_get {expr : Bool} {Q : Value → Shared → Prop} (F : Fr h₀ L s.heap m) (X : (Mine.K w.params).In h₀) (N : News h₀ L s.heap news) (h1 : (x, niRaw dx nm tn np tp sl) ∈ news) (h2 : (dx, od) ∈ news) (h : Q (.str nm tn) { s with toks := s.toks + 1 }) :
  wpAny (model rw_nq0317_01.prog w) A (getAttr (.ref x) (Str.ofString "node") expr) Q E s := by
 revert X
 k_fill
 intro X
 refine' get_slot F X (InstAt.of_news N h1 h2) ?k4 ?k5 ?k6 ?k7 ?k8 ?k9 ?k10 ?k11 ?_; (case k4 => k_is); (case k5 => k_is); (case k6 => k_is); (case k7 => k_is); (case k8 => k_is); (case k9 => k_is); (case k10 => k_slotget); (case k11 => k_handed); exact h
theorem sc_get {expr : Bool} {Q : Value → Shared → Prop} (F : Fr h₀ L s.heap m) (X : (Mine.K w.params).In h₀) (N : News h₀ L s.heap news) (h1 : (x, niRaw dx nm tn np tp sl) ∈ news) (h2 : (dx, od) ∈ news) (h : Q (.ref sl) { s with toks := s.toks + 1 }) :
  wpAny (model rw_nq0317_01.prog w) A (getAttr (.ref x) (Str.ofString "successors") expr) Q E s := by
 revert X
 k_fill
 intro X
 refine' get_slot F X (InstAt.of_news N h1 h2) ?k4 ?k5 ?k6 ?k7 ?k8 ?k9 ?k10 ?k11 ?_; (case k4 => k_is); (case k5 => k_is); (case k6 => k_is); (case k7 => k_is); (case k8 => k_is); (case k9 => k_is); (case k10 => k_slotget); (case k11 => k_handed); exact h
theorem np_set {k : Int} {t : Tok} {Q : Unit → Shared → Prop} (F : Fr h₀ L s.heap m) (X : (Mine.K w.params).In h₀) (N : News h₀ L s.heap news) (h1 : (x, niRaw dx nm tn np tp sl) ∈ news) (h2 : (dx, od) ∈ news)
  (h : ∀ h', Fr h₀ L h' m → News h₀ L h' (setAt x (niRaw dx nm tn k t sl) news) → Q () { s with heap := h', toks := s.toks + 1 }) :
  wpAny (model rw_nq0317_01.prog w) A (setAttr (.ref x) (Str.ofString "npredecessors") (.int k t)) Q E s := by
 revert X
 k_fill
 intro X
 refine' slotset_S F X N h1 h2 ?k5 ?k6 ?k7 ?k8 ?k9 ?k10 ?k11 h; (case k5 => k_is); (case k6 => k_is); (case k7 => k_is); (case k8 => k_is); (case k9 => k_is); (case k10 => decide); (case k11 => rfl)
end
theorem allLt_mem2 {d : Nat} : ∀ {l : List (Addr × Obj)}, AllLt d l → ∀ p ∈ l, p.1 < d
 | [], _, _, hp => nomatch hp
 | q :: l, h, p, hp => by
  cases mc1 hp with
  | inl e => rw [e]; exact h.1
  | inr e => exact allLt_mem2 h.2 p e
section
variable {prog : Program} {w : World} {A : Around} {E : Value → Shared → Prop} {s : Shared} {h₀ : Heap} {L : Addr} {news : List (Addr × Obj)} {KK : Type} [DecidableEq KK] {knd : KeyKind prog w KK} {kvs : List (KK × Value)} {k : KK} {key v : Value} {d : Addr} {o : Obj} {Q : Value → Shared → Prop}
theorem get1_some (N : News h₀ L s.heap news) (hp : (d, o) ∈ news) (hd : o.IsDictOf knd kvs) (lo : (d == sysModules) = false) (hkey : knd.is k key = true) (hl : valueAt kvs k = some v) (h : Q v { s with toks := s.toks + 1 }) : wpAny (model prog w) A (call (.builtin "dict.get") [.ref d, key]) Q E s := kdg_get1 N hp hd lo hkey (some v) hl h
theorem get1_none (N : News h₀ L s.heap news) (hp : (d, o) ∈ news) (hd : o.IsDictOf knd kvs) (lo : (d == sysModules) = false) (hkey : knd.is k key = true) (hl : valueAt kvs k = none) (h : Q .none { s with toks := s.toks + 1 }) : wpAny (model prog w) A (call (.builtin "dict.get") [.ref d, key]) Q E s := kdg_get1 N hp hd lo hkey none hl h
end
noncomputable abbrev tsD (w : World) (t1 t2 t3 t4 t5 t6 : Tok) (n2 : Addr) : Obj := dictOf [ent w "_node2info" t1 (.ref n2), ent w "_ready_nodes" t2 .none, ent w "_npassedout" t3 (.int 0 t4), ent w "_nfinished" t5 (.int 0 t6)] 4
noncomputable def GK (xa d n2 : Addr) (ns : List NI) : List Addr := xa :: d :: n2 :: Keys (ledN ns)
theorem GK_append (xa d n2 : Addr) (ns : List NI) (e : NI) : GK xa d n2 (ns ++ [e]) = GK xa d n2 ns ++ [e.a, e.ad, e.sl] := by
 unfold GK Keys
 rw [ledN_append, List.map_append]
 rfl
theorem ni_fin {h₀ h : Heap} {L : Addr} {x : Str} {tx tp : Tok} {xv dv lv n2 xa d : Nat} {o2 o5 oxa D : Obj} {ns : List NI} {rest tl : List (Addr × Obj)} {P : Prop} (htl : tl = ledN ns ++ rest)
  (N : News h₀ L h (setAt n2 o5 ((lv, W.listOf #[] 0) :: (xv, niRaw dv x tx 0 tp lv) :: (dv, dictOf [] 0) :: (xa, oxa) :: (d, D) :: (n2, o2) :: tl))) (hnd : (GK xa d n2 ns).Nodup) (hoff : ∀ p ∈ rest, p.1 ∉ GK xa d n2 ns)
  (hA : xa < dv ∧ d < dv ∧ n2 < dv ∧ AllLt dv tl) (hB : dv < xv) (hC : xv < lv ∧ P) :
  News h₀ L h ((xa, oxa) :: (d, D) :: (n2, o5) :: (ledN (ns ++ [⟨x, tx, xv, dv, 0, tp, lv, [], 0⟩]) ++ rest)) ∧ (GK xa d n2 (ns ++ [⟨x, tx, xv, dv, 0, tp, lv, [], 0⟩])).Nodup ∧ ∀ p ∈ rest, p.1 ∉ GK xa d n2 (ns ++ [⟨x, tx, xv, dv, 0, tp, lv, [], 0⟩]) := by
 subst htl
 refine el0_4 (hA) ?_; (try clear hA); intro a1 a2 a3 a4
 have hlt := allLt_mem2 a4
 have hG : ∀ z ∈ GK xa d n2 ns, z < dv := by
  intro z hz
  refine asp hz ?_ fun hz => ?_
  ·exact a1
  refine asp hz ?_ fun hz => ?_
  ·exact a2
  refine asp hz ?_ fun hz => ?_
  ·exact a3
  refine el1_2 (mm1 hz) ?_; intro p hp e92; subst e92
  exact hlt p (maL _ hp)
 have hgk := hnd
 unfold GK at hgk
 have hxn : xa ≠ n2 := fun e => (nc1 hgk).1 (e ▸ mH1)
 have hdn : d ≠ n2 := fun e => (nc1 (nc1 hgk).2).1 (e ▸ .head _)
 have hn2 : ∀ p ∈ ledN ns ++ rest, p.1 ≠ n2 := by
  intro p hp e
  refine ast hp (fun hp => ?_) fun hp => ?_
  ·exact (nc1 (nc1 (nc1 hgk).2).2).1 (e ▸ mm2 ⟨p, hp, rfl⟩)
  exact hoff p hp (e ▸ mH2)
 have hz : ∀ z ∈ [xv, dv, lv], dv ≤ z := by
  intro z hz
  refine asp hz ?_ fun hz => ?_
  ·exact Nat.le_of_lt hB
  refine asp hz ?_ fun hz => ?_
  ·exact Nat.le_refl _
  rw [ms1 hz]; exact Nat.le_of_lt (Nat.lt_trans hB hC.1)
 refine ⟨nsub N fun p hp => ?_, ?_, ?_⟩
 ·refine mst hp ?_ fun hp => ?_
  ·exact msN mH3 hxn
  refine mst hp ?_ fun hp => ?_
  ·exact msN mH4 hdn
  refine mst hp ?_ fun hp => ?_
  ·exact mem_setAt_self mH5
  rw [ledN_append] at hp
  refine ast hp (fun hp => ?_) fun hp => ?_
  ·refine ast hp (fun hp => ?_) fun hp => ?_
   ·exact msN (mT6 (maL _ hp)) (hn2 p (maL _ hp))
   refine mst hp ?_ fun hp => ?_
   ·exact msN mH1 (ngt (Nat.lt_trans a3 hB))
   refine mst hp ?_ fun hp => ?_
   ·exact msN mH2 (ngt a3)
   refine mst hp ?_ fun hp => ?_
   ·exact msN (.head _) (ngt (Nat.lt_trans a3 (Nat.lt_trans hB hC.1)))
   cases hp
  exact msN (mT6 (maR _ hp)) (hn2 p (maR _ hp))
 ·rw [GK_append, List.nodup_append]
  refine ⟨hnd, by simp [ngt hB, nlt hC.1, nlt (Nat.lt_trans hB hC.1)], fun u hu v hv e => ?_⟩
  have h1 := hG u hu
  have h2 := hz v hv
  rw [e] at h1
  exact absurd (Nat.lt_of_lt_of_le h1 h2) (Nat.lt_irrefl _)
 intro p hp hm
 rw [GK_append] at hm
 refine ast hm (fun hm => ?_) fun hm => ?_
 ·exact hoff p hp hm
 have h2 := hz _ hm
 have h1 := hlt p (maR _ hp)
 exact absurd (Nat.lt_of_lt_of_le h1 h2) (Nat.lt_irrefl _)
theorem ni_c (w : World) (p : Program) (lo : List Str) (mean : ExcName → Option Value) (mg mb : Str → Option Value)
  (gd : Option (List Code)) (cn : Str) (cs : Scope) (a : Addr) (ccd : Value) (cl : List (Str × Addr)) (outer : List Env) (A₀ : Around) (base h₀ : Heap) (L : Addr) (m : Str → Option Value) (rest : List (Addr × Obj)) (s : Shared)
  (x : Str) (tx : Tok) (xa d n2 : Addr) (o2 : Obj) (ns : List NI) (t1 t2 t3 t4 t5 t6 : Tok) (Q E : Value → Shared → Prop)
  (B : Below A₀ base outer h₀) (F : Fr h₀ L s.heap m) (X : (Mine.K w.params).In h₀) (N : News h₀ L s.heap ((xa, instObj 362 d) :: (d, tsD w t1 t2 t3 t4 t5 t6 n2) :: (n2, o2) :: (ledN ns ++ rest))) (T : Top p lo mean mg mb h₀) (hk : cs.kind = .function)
  (hx : x.length ≤ 64) (hd : o2.IsDictOf (PySem.strKind rw_nq0317_01.prog w) (kvsN ns)) (lo2 : (n2 == sysModules) = false) (hnn : (ns.map (·.nm)).Nodup) (hl : ns.length ≤ 100)
  (hnd : (GK xa d n2 ns).Nodup) (hoff : ∀ p ∈ rest, p.1 ∉ GK xa d n2 ns)
  (hret : ∀ e ns' o2' h' tk', e ∈ ns' → e.nm = x → (ns' = ns ∨ (x ∉ ns.map (·.nm) ∧ ns' = ns ++ [e] ∧ e.np = 0 ∧ e.sc = [])) → o2'.IsDictOf (PySem.strKind rw_nq0317_01.prog w) (kvsN ns') → (ns'.map (·.nm)).Nodup →
   (GK xa d n2 ns').Nodup → (∀ p ∈ rest, p.1 ∉ GK xa d n2 ns') → ns'.length ≤ ns.length + 1 → Fr h₀ L h' m → News h₀ L h' ((xa, instObj 362 d) :: (d, tsD w t1 t2 t3 t4 t5 t6 n2) :: (n2, o2') :: (ledN ns' ++ rest)) → Q (.ref e.a) { s with heap := h', toks := tk' }) :
  wpAny (model (rw_nq0317_01.prog) w) (ktrTop 360 600 gd cn cs L a ccd cl outer) (call (.ref 305) [.ref xa, .str x tx]) Q E s := by
 k_with_none
 k_with "k_all" => first | assumption | (intro p9 hp9; (repeat (rename _ ∧ _ => hc9; obtain ⟨_, _⟩ := hc9)); have h9 := allLt_mem2 (by assumption) _ hp9; exact nlt (Nat.lt_of_lt_of_le h9 (by lia)))
 k_with "execs cons" => (k_here; first | k_made | ((fail_if_success (fail_if_success k_gentoks)); refine (let tk : Nat := _; (?_ : wpAny _ _ _ _ _ ⟨_, _, _, tk, _⟩))) | ((with_reducible refine wpAny_execs_cons ?_); (try dsimp only); refine (let qv : Flow → Shared → Prop := _; (?_ : wpAny _ _ _ qv _ _))))
 k_with "execs nil" => (k_here; (fail_if_success (fail_if_success k_gentoks)); refine (let tk : Nat := _; (?_ : wpAny _ _ _ _ _ ⟨_, _, _, tk, _⟩)))
 k_with "call builtin:dict.get" => refine stopped ?_
 k_with "setItem ref str" => refine stopped ?_
 refine gen_ (ledN ns ++ rest) ?_; intro tl htl
 rw [← htl] at N
 k_with_none
 k_with "k_all" => first | assumption | (intro p9 hp9; (repeat (rename _ ∧ _ => hc9; obtain ⟨_, _⟩ := hc9)); have h9 := allLt_mem2 (by assumption) _ hp9; exact nlt (Nat.lt_of_lt_of_le h9 (by lia)))
 k_with "execs cons" => (k_here; first | k_made | ((fail_if_success (fail_if_success k_gentoks)); refine (let tk : Nat := _; (?_ : wpAny _ _ _ _ _ ⟨_, _, _, tk, _⟩))) | ((with_reducible refine wpAny_execs_cons ?_); (try dsimp only); refine (let qv : Flow → Shared → Prop := _; (?_ : wpAny _ _ _ qv _ _))))
 k_with "execs nil" => (k_here; (fail_if_success (fail_if_success k_gentoks)); refine (let tk : Nat := _; (?_ : wpAny _ _ _ _ _ ⟨_, _, _, tk, _⟩)))
 k_with "call builtin:dict.get" => refine stopped ?_
 k_with "setItem ref str" => refine stopped ?_
 revert X
 k_fill
 intro X
 refine wpAny_call ?_
 k_dflt (refine' code_def (binds := [(Str.ofString "self", .ref xa), (Str.ofString "node", .str x tx)]) ?k1 ?k2 ?k3 ?k4 ?k5 ?kA ?kF ?kK ?k6 ?k7 ?k8 ?k9 ?kB ?_ ?c2 ?c3 ?c4 ?c5; (case kA => exact rfl); (case kF => exact rfl); (case kK => assumption); (case k1 => k_asm); (case k2 => k_asm); (case k3 => k_asm); (case k4 => k_asm); (case k5 => k_asm); (case k6 => k_is); (case k7 => k_is); (case k8 => ktr_room); (case k9 => first | exact BindsTo.of_eq rfl | exact binds_K (by k_in) rfl (by k_is) rfl rfl rfl); (case c5 => decide); (case kB => exact locs rfl); (case c2 => exact rfl); (case c3 => exact rfl); (case c4 => exact rfl); k_whole; intro g' L' h' FG' F' N' B' X' T'; (try dsimp only); (try k_fold))
 k_steps
 refine ⟨?_⟩
 cases hv : valueAt (kvsN ns) x with
 | some v =>
  refine el1_3 (nvalueAt_some hv) ?_; intro e he hex e93; subst e93
  refine get1_some N' mH2 hd lo2 (strKind_is _ _ _ _) hv ?_
  k_steps
  rename Fr _ _ _ _ => F9
  rename News _ _ _ _ => N9
  rw [htl] at N9
  exact hret e ns o2 _ _ he hex (.inl rfl) hd hnn hnd hoff (Nat.le_succ _) F9 N9
 | none =>
  refine get1_none N' mH2 hd lo2 (strKind_is _ _ _ _) hv ?_
  k_steps
  refine ⟨?_⟩
  rename Fr _ _ _ _ => F3
  rename News _ _ _ _ => N3
  refine setItem_S F3 N3 mH5 hd (strKind_is _ _ _ _) (size_le (by unfold kvsN; rw [List.length_map]; lia)) fun h5 o5 F5 N5 hd5 => ?_
  rw [nstored_new hv] at hd5
  clear F3 N3
  k_steps
  rename Fr _ _ _ _ => F9
  rename News _ _ _ _ => N9
  refine el0_3 (ni_fin htl N9 hnd hoff (by assumption) (by assumption) (by assumption)) ?_; intro N10 hnd10 hoff10
  refine hret _ _ o5 _ _ (maR _ (.head _)) rfl (.inr ⟨nvalueAt_none hv, rfl, rfl, rfl⟩) (by rw [kvsN_append]; exact hd5) ?_ hnd10 hoff10 (by rw [List.length_append]; exact Nat.le_refl _) F9 N10
  rw [List.map_append, List.nodup_append]
  exact ⟨hnn, List.nodup_cons.mpr ⟨List.not_mem_nil, List.nodup_nil⟩, fun y hy z hz e => by rw [ms1 hz] at e; have e2 : y = x := e; exact nvalueAt_none hv (e2 ▸ hy)⟩
structure GN where
 nm : Str
 np : Int
 sc : List Str
noncomputable abbrev Gr := List GN
noncomputable def projN (e : NI) : GN := ⟨e.nm, e.np, e.sc.map (·.1)⟩
noncomputable def proj2 (ns : List NI) : Gr := ns.map projN
noncomputable def gget (g : Gr) (x : Str) : Gr := if x ∈ g.map (·.nm) then g else g ++ [⟨x, 0, []⟩]
noncomputable def gup (g : Gr) (x : Str) (f : GN → GN) : Gr := g.map fun e => if e.nm = x then f e else e
noncomputable def gadd (g : Gr) (node pred : Str) : Gr := gup (gget (gup (gget g node) node fun e => { e with np := e.np + 1 }) pred) pred fun e => { e with sc := e.sc ++ [node] }
noncomputable def upX (ns : List NI) (x : Str) (f : NI → NI) : List NI := ns.map fun e => if e.nm = x then f e else e
theorem proj2_up {ns : List NI} {x : Str} {f : NI → NI} {f' : GN → GN} (h : ∀ e, projN (f e) = f' (projN e)) : proj2 (upX ns x f) = gup (proj2 ns) x f' := by
 unfold proj2 upX gup
 rw [List.map_map, List.map_map]
 apply List.map_congr_left
 intro e _
 show projN (if e.nm = x then f e else e) = if (projN e).nm = x then f' (projN e) else projN e
 have : (projN e).nm = e.nm := rfl
 rw [this]
 split
 ·exact h e
 rfl
theorem proj2_get {ns ns' : List NI} {x : Str} {e : NI} (h : ns' = ns ∨ (x ∉ ns.map (·.nm) ∧ ns' = ns ++ [e] ∧ e.np = 0 ∧ e.sc = [])) (he : e ∈ ns') (hx : e.nm = x) : proj2 ns' = gget (proj2 ns) x := by
 have hm : (proj2 ns).map (·.nm) = ns.map (·.nm) := by unfold proj2; rw [List.map_map]; rfl
 unfold gget
 rw [hm]
 rcases h with rfl | ⟨h1, rfl, h2, h3⟩
 ·rw [if_pos (mm2 ⟨e, he, hx⟩)]
 rw [if_neg h1]
 unfold proj2
 rw [List.map_append]
 show _ ++ [projN e] = _
 unfold projN
 rw [hx, h2, h3]
 rfl
theorem upX_nms {ns : List NI} {x : Str} {f : NI → NI} (h : ∀ e, (f e).nm = e.nm) : (upX ns x f).map (·.nm) = ns.map (·.nm) := by
 unfold upX; rw [List.map_map]; apply List.map_congr_left; intro e _
 show (if e.nm = x then f e else e).nm = e.nm
 split
 ·exact h e
 rfl
theorem upX_kvs {ns : List NI} {x : Str} {f : NI → NI} (h : ∀ e, (f e).nm = e.nm) (ha : ∀ e, (f e).a = e.a) : kvsN (upX ns x f) = kvsN ns := by
 unfold kvsN upX; rw [List.map_map]; apply List.map_congr_left; intro e _
 show ((if e.nm = x then f e else e).nm, Value.ref (if e.nm = x then f e else e).a) = _
 split
 ·rw [h, ha]
 rfl
theorem upX_keys {ns : List NI} {x : Str} {f : NI → NI} (h : ∀ e, Keys (nodeL (f e)) = Keys (nodeL e)) : Keys (ledN (upX ns x f)) = Keys (ledN ns) := by
 unfold Keys ledN upX
 rw [List.map_flatMap, List.map_flatMap, List.flatMap_map]
 congr 1
 funext e
 show Keys (nodeL (if e.nm = x then f e else e)) = Keys (nodeL e)
 split
 ·exact h e
 rfl
theorem upX_GK {xa d n2 : Addr} {ns : List NI} {x : Str} {f : NI → NI} (h : ∀ e, Keys (nodeL (f e)) = Keys (nodeL e)) : GK xa d n2 (upX ns x f) = GK xa d n2 ns := by
 unfold GK; rw [upX_keys h]
theorem setAt_node {ns : List NI} {x : Str} {f : NI → NI} {e : NI} {pre rest : List (Addr × Obj)} {xa d n2 ad : Addr} {o' : Obj} (hnn : (ns.map (·.nm)).Nodup) (hnd : (GK xa d n2 ns).Nodup) (hpre : ∀ p ∈ pre, p.1 ∉ Keys (ledN ns)) (hoff : ∀ p ∈ rest, p.1 ∉ GK xa d n2 ns) (he : e ∈ ns) (hx : e.nm = x)
  (hf : ∀ p ∈ nodeL (f e), p = (ad, o') ∨ (p.1 ≠ ad ∧ p ∈ nodeL e)) (had : ∃ o, (ad, o) ∈ nodeL e) : ∀ p ∈ pre ++ (ledN (upX ns x f) ++ rest), p ∈ setAt ad o' (pre ++ (ledN ns ++ rest)) := by
 refine el1_1 (had) ?_; (try clear had); intro o ho
 have hin : (ad, o) ∈ ledN ns := mem_ledN he ho
 have hinK : ad ∈ Keys (ledN ns) := mm2 ⟨_, hin, rfl⟩
 have hall : (ad, o) ∈ pre ++ (ledN ns ++ rest) := maR _ (maL _ hin)
 intro p hp
 refine ast hp (fun hp => ?_) fun hp => ?_
 ·exact msN (maL _ hp) (fun q => hpre p hp (q ▸ hinK))
 refine ast hp (fun hp => ?_) fun hp => ?_
 ·refine el1_2 (List.mem_flatMap.mp hp) ?_; intro e' he' hp'
  refine el1_2 (mm1 he') ?_; intro e₀ he₀ e92; subst e92
  by_cases hc : e₀.nm = x
  ·have : e₀ = e := nodup_inj hnn he₀ he (hc.trans hx.symm)
   subst this
   rw [if_pos hc] at hp'
   rcases hf p hp' with rfl | ⟨h1, h2⟩
   ·exact mem_setAt_self hall
   exact msN (maR _ (maL _ (mem_ledN he₀ h2))) h1
  rw [if_neg hc] at hp'
  refine msN (maR _ (maL _ (mem_ledN he₀ hp'))) ?_
  intro q
  have hnd2 : (Keys (ledN ns)).Nodup := by
   unfold GK at hnd
   exact (nc1 (nc1 (nc1 hnd).2).2).2
  have := nodup_flat hnd2 he₀ he hp' ho q
  exact hc (this ▸ hx)
 exact msN (maR _ (maR _ hp)) (fun q => hoff p hp (mT3 (q ▸ hinK)))
where
 nodup_flat : ∀ {ns : List NI}, (Keys (ledN ns)).Nodup → ∀ {e e' : NI}, e ∈ ns → e' ∈ ns → ∀ {p q : Addr × Obj}, p ∈ nodeL e → q ∈ nodeL e' → p.1 = q.1 → e = e'
  | [], _, _, _, h, _, _, _, _, _, _ => nomatch h
  | y :: ns, hn, e, e', he, he', p, q, hp, hq, hpq => by
   have hn' : (Keys (nodeL y ++ ledN ns)).Nodup := hn
   have hn2 : (Keys (ledN ns)).Nodup := by
    unfold Keys at hn' ⊢
    rw [List.map_append] at hn'
    exact (List.nodup_append.mp hn').2.1
   rcases mc1 he with h1 | h1 <;> rcases mc1 he' with h2 | h2
   ·exact h1.trans h2.symm
   ·subst h1; exact absurd hpq (nodup_sub_ne hn' hp (mem_ledN h2 hq))
   ·subst h2; exact absurd hpq.symm (nodup_sub_ne hn' hq (mem_ledN h1 hp))
   exact nodup_flat hn2 h1 h2 hp hq hpq
theorem node_nodup : ∀ {ns : List NI}, (Keys (ledN ns)).Nodup → ∀ {e : NI}, e ∈ ns → (Keys (nodeL e)).Nodup
 | [], _, _, h => nomatch h
 | y :: ns, hn, e, he => by
  have hn' : (Keys (nodeL y ++ ledN ns)).Nodup := hn
  unfold Keys at hn'
  rw [List.map_append, List.nodup_append] at hn'
  rcases mc1 he with h1 | h1
  ·subst h1; exact hn'.1
  exact node_nodup hn'.2.1 h1
theorem node_ne {xa d n2 : Addr} {ns : List NI} (hnd : (GK xa d n2 ns).Nodup) {e : NI} (he : e ∈ ns) : e.ad ≠ e.a ∧ e.sl ≠ e.a ∧ e.ad ≠ e.sl := by
 have h := node_nodup (by unfold GK at hnd; exact (nc1 (nc1 (nc1 hnd).2).2).2) he
 have h' : [e.a, e.ad, e.sl].Nodup := h
 simp only [List.nodup_cons, List.mem_cons, List.not_mem_nil, or_false, not_or] at h'
 exact ⟨fun q => h'.1.1 q.symm, fun q => h'.1.2 q.symm, h'.2.1⟩
theorem upX_len {ns : List NI} {x : Str} {f : NI → NI} : (upX ns x f).length = ns.length := by unfold upX; rw [List.length_map]
theorem setAt_np {ns : List NI} {e : NI} {pre rest : List (Addr × Obj)} {xa d n2 : Addr} {k : Int} {t : Tok} (hnn : (ns.map (·.nm)).Nodup) (hnd : (GK xa d n2 ns).Nodup) (hpre : ∀ p ∈ pre, p.1 ∉ Keys (ledN ns)) (hoff : ∀ p ∈ rest, p.1 ∉ GK xa d n2 ns) (he : e ∈ ns) :
  ∀ p ∈ pre ++ (ledN (upX ns e.nm fun e => { e with np := k, tp := t }) ++ rest), p ∈ setAt e.a (niRaw e.ad e.nm e.tn k t e.sl) (pre ++ (ledN ns ++ rest)) := by
 refine el0_3 (node_ne hnd he) ?_; intro h1 h2 h3
 refine setAt_node hnn hnd hpre hoff he rfl ?_ ⟨_, .head _⟩
 intro p hp
 refine asp hp ?_ fun hp => ?_
 ·exact .inl rfl
 refine asp hp ?_ fun hp => ?_
 ·exact .inr ⟨h1, mH1⟩
 refine asp hp ?_ fun hp => ?_
 ·exact .inr ⟨h2, mH2⟩
 cases hp
theorem setAt_sc {ns : List NI} {e : NI} {pre rest : List (Addr × Obj)} {xa d n2 : Addr} {y : Str} {t : Tok} (hnn : (ns.map (·.nm)).Nodup) (hnd : (GK xa d n2 ns).Nodup) (hpre : ∀ p ∈ pre, p.1 ∉ Keys (ledN ns)) (hoff : ∀ p ∈ rest, p.1 ∉ GK xa d n2 ns) (he : e ∈ ns) :
  ∀ p ∈ pre ++ (ledN (upX ns e.nm fun e => { e with sc := e.sc ++ [(y, t)], ep := e.ep + 1 }) ++ rest), p ∈ setAt e.sl (W.listOf ((strVals e.sc).push (.str y t)) (e.ep + 1)) (pre ++ (ledN ns ++ rest)) := by
 refine el0_3 (node_ne hnd he) ?_; intro h1 h2 h3
 refine setAt_node hnn hnd hpre hoff he rfl ?_ ⟨_, mH2⟩
 intro p hp
 refine asp hp ?_ fun hp => ?_
 ·exact .inr ⟨h2.symm, .head _⟩
 refine asp hp ?_ fun hp => ?_
 ·exact .inr ⟨h3, mH1⟩
 refine asp hp ?_ fun hp => ?_
 ·refine .inl ?_
  show (e.sl, W.listOf (strVals (e.sc ++ [(y, t)])) (e.ep + 1)) = _
  unfold strVals
  simp
 cases hp
theorem GK_off {xa d n2 : Addr} {ns : List NI} (hnd : (GK xa d n2 ns).Nodup) : xa ∉ Keys (ledN ns) ∧ d ∉ Keys (ledN ns) ∧ n2 ∉ Keys (ledN ns) := by
 unfold GK at hnd
 have q1 := nc1 hnd
 have q2 := nc1 q1.2
 have q3 := nc1 q2.2
 exact ⟨fun hm => q1.1 (mT2 hm), fun hm => q2.1 (.tail _ hm), q3.1⟩
theorem GK_sub {xa d n2 : Addr} {ns : List NI} {z : Addr} (hz : z ∈ Keys (ledN ns)) : z ∈ GK xa d n2 ns := mT3 hz
section
variable {prog : Program} {w : World} {A : Around} {E : Value → Shared → Prop} {s : Shared} {env : Env} {h₀ : Heap} {Q : Flow → Shared → Prop} {body : List Stmt}
theorem tuple_s {σ : Type} {x : Str} {l : Addr} {items : Array Value} {m₀ : Str → Option Value} (Led : σ → List (Addr × Obj)) (ps : σ → List (Str × Value)) (stored : List Str) (P : Nat → σ → Prop) (c₀ : σ) (hh : A.handled = none) (hl : s.heap.IsTuple l items) (hL : l ≠ env.locals)
  (F : Fr h₀ env.locals s.heap m₀) (N : News h₀ env.locals s.heap (Led c₀)) (hP : P 0 c₀) (hk : ∀ p ∈ ps c₀, m₀ p.1 = some p.2)
  (turn : ∀ (i : Nat) (c : σ) v (u : Str → Option Value) h tk own wr, items[i]? = some v → P i c → (∀ p ∈ Led c, p.1 ∉ wr) → (∀ b ∈ wr, ∃ o, (b, o) ∈ own) → (∀ p ∈ own, p.1 ∈ wr ∨ p.1 = l) →
   Fr h₀ env.locals h (fun y => if y = x then some v else kstB (fun z => if stored.contains z then u z else m₀ z) (ps c) y) → News h₀ env.locals h (Led c ++ own) →
   wpAny (model prog w) A (execs body env) (TurnPost h₀ env.locals wr own (SJ Led ps [x] stored m₀ P (i + 1)) { s with heap := h, toks := tk } Q) E { s with heap := h, toks := tk })
  (done : ∀ (c : σ) (u : Str → Option Value) h tk, P items.size c → Fr h₀ env.locals h (fun y => if y = x then u y else kstB (fun z => if stored.contains z then u z else m₀ z) (ps c) y) → News h₀ env.locals h (Led c) → Q .next { s with heap := h, toks := tk }) :
  wpAny (model prog w) A (pyIter (.ref l)) (fun it s₂ => LoopAtV prog w A h₀ env x body Q E it s₂) E s := by
 refine el1_2 (id hl) ?_; intro ol hol hol2
 have hlt : l < s.heap.objs.size := Heap.lt_size hol
 have hLs : env.locals < s.heap.objs.size := F.ns.lt
 refine wpAny_pyIter_tuple hl ?_
 have hW := Walks.tuple (prog := prog) (w := w) (A := A) hh s.heap.objs.size l (nlt hlt) items
 refine sloop Led ps stored P c₀ hW ?_ ?_ ?_ ?_ ?_ (F.push _) (fun p hp => ⟨Heap.get?_push_of_some _ (N p hp).1, (N p hp).2⟩) hP hk ?_ done
 ·rintro i h ⟨⟨o, ho, _⟩, _⟩ b hb
  rw [ms1 hb]
  exact ⟨o, ho⟩
 ·intro hm
  rcases mc1 hm with e | hm
  ·exact nlt hLs e
  exact hL (ms1 hm).symm
 ·intro b hb
  rw [ms1 hb]
  exact next_is_new F
 ·intro p hp hb
  exact nlt (Heap.lt_size (N p hp).1) (ms1 hb)
 ·exact ⟨⟨_, Heap.get?_push_size _ rfl, rfl, rfl⟩, hl.at fun o e => Heap.get?_push_of_some _ e⟩
 intro i c v u h tk own hi hv hPc hn hw hf F₁ N₁
 exact turn i c v u h tk own _ hv hPc hn hw (fun p hp => by have := hf p hp; simp at this; simpa using this) F₁ N₁
end
section
open PySem.Builtin
noncomputable abbrev mwObj (id : String) (self : Value) : Obj := ⟨.type "method-wrapper", none, .fields #[.builtin id, self], #[]⟩
noncomputable abbrev liObj (l : Addr) (k : Int) : Obj := ⟨.type "list_iterator", none, .fields #[.ref l, .int k 0], #[]⟩
section
open PySem.W.X
theorem txt_next : Str.ofString "__next__" = ⟨⟨[95, 95, 110, 101, 120, 116, 95, 95]⟩⟩ := PySem.W.Fast.ofString_ofList ['_', '_', 'n', 'e', 'x', 't', '_', '_']
theorem next_x (w : World) (A : Around) (s : Shared) (it l : Addr) (k : Int) (t : Tok) (Q E : Value → Shared → Prop)
  (hb : s.heap.get? it = some ⟨.type "list_iterator", none, .fields #[.ref l, .int k 0], #[]⟩)
  (hret : ∀ q h', Mem s.heap h' [] [(q, ⟨.type "method-wrapper", none, .fields #[.builtin "list_iterator.__next__", .ref it], #[]⟩)] → Q (.ref q) { s with heap := h' }) :
  wpAny (model (rw_nq0317_01.prog) w) A (call (.builtin "object.__getattribute__") [.ref it, .str (Str.ofString "__next__") t]) Q E s := by
 rw [txt_next]
 refine wpAny_call (y_cd ?_)
 with_reducible refine y_ld (a := it) (by kernel_rfl) hb ?_
 with_reducible refine y_ag (c2 := .builtin "object.__getattribute__" ⟨[.ref it, .str ⟨⟨[95, 95, 110, 101, 120, 116, 95, 95]⟩⟩ t], []⟩) (by kernel_rfl) (by kernel_rfl) (y_cd ?_)
 with_reducible refine y_ld (a := it) (by kernel_rfl) hb ?_
 with_reducible refine y_ld (a := it) (by kernel_rfl) hb ?_
 with_reducible refine y_ld (a := it) (by kernel_rfl) hb ?_
 with_reducible refine y_sk ?_
 with_reducible refine y_cl (c2 := .call (.builtin "wrapper_descriptor.__get__") ⟨[.builtin "list_iterator.__next__", .ref it, .type "list_iterator"], []⟩) (by kernel_rfl) (y_cd ?_)
 with_reducible refine y_ag (c2 := .builtin "wrapper_descriptor.__get__" ⟨[.builtin "list_iterator.__next__", .ref it, .type "list_iterator"], []⟩) (by kernel_rfl) (by kernel_rfl) (y_cd ?_)
 with_reducible refine y_ld (a := it) (by kernel_rfl) hb ?_
 with_reducible refine y_al (o := ⟨.type "method-wrapper", none, .fields #[.builtin "list_iterator.__next__", .ref it], #[]⟩) (by kernel_rfl) (Mem.start _) rfl fun a h' D => ?_
 with_reducible refine y_dn (v := .ref a) (by kernel_rfl) ?_
 with_reducible refine y_dn (v := .ref a) (by kernel_rfl) ?_
 exact hret a h' D
end
theorem hga_it : typeLookup (.type "list_iterator") "__getattribute__" = pure (some (.builtin "object.__getattribute__")) := by rw [typeLookup_type, builtinLookup_eq_fast]; kernel_rfl
theorem toks_oga : typeOf (.builtin "object.__getattribute__") = pure (.type "wrapper_descriptor") := by show builtinType _ = _; kernel_rfl
theorem check_next (a : Addr) : checkBoundCall "list_iterator.__next__" ⟨[.ref a], []⟩ = pure () := by kernel_rfl
theorem mw_call {prog : Program} {w : World} {A : Around} {R : Result → Shared → Prop} {s : Shared} {q : Addr} {id : String} {self : Value} {pos : List Value} {b : Builtin} (ho : s.heap.get? q = some (mwObj id self))
  (hc : checkBoundCall id ⟨self :: pos, []⟩ = pure ()) (hp : plainId id = true) (hb : entryFor table id = some b)
  (h : wpAny (model prog w) A.in1 (b ⟨self :: pos, []⟩) (fun fin s' => match fin with | .done f => R (.ok f) s' | .again c' => c'.quiet = true ∧ codeAny (model prog w) A c' R s') (fun e s' => R (.error e) s') s) : codeAny (model prog w) A (.call (.ref q) ⟨pos, []⟩) R s := by
 refine codeAny_of_tree ?_
 show wpAny _ _ (callAny (.ref q) _) _ _ _
 refine nd_load ho ?_
 show wpAny _ _ (checkBoundCall id ⟨self :: pos, []⟩ >>= _) _ _ _
 rw [hc]
 refine wpAny_bind (wpAny_pure ?_)
 refine wpAny_pure ⟨plainId_quiet hp _, ?_⟩
 refine codeAny_of_tree ?_
 rw [Around.under_plainId hp]
 show wpAny _ _ (match entryFor table id with | some b => b ⟨self :: pos, []⟩ | none => _) _ _ _
 rw [hb]
 exact h
section
variable {prog : Program} {w : World} {A : Around} {E : Value → Shared → Prop} {s : Shared} {h₀ : Heap} {L : Addr} {m : Str → Option Value} {news : List (Addr × Obj)} {q it l : Addr} {i : Nat} {items : Array Value} {ep : Nat} {Q : Value → Shared → Prop}
theorem next_item {x : Value} (F : Fr h₀ L s.heap m) (N : News h₀ L s.heap news) (hq : (q, mwObj "list_iterator.__next__" (.ref it)) ∈ news) (hi : (it, liObj l (i : Int)) ∈ news) (hl : (l, W.listOf items ep) ∈ news) (hx : items[i]? = some x)
  (h : ∀ h', Fr h₀ L h' m → News h₀ L h' (setAt it (liObj l ((i + 1 : Nat) : Int)) news) → Q x { s with heap := h' }) : wpAny (model prog w) A (call (.ref q) []) Q E s := by
 refine wpAny_call (mw_call (R := wants Q E) (N _ hq).1 (check_next it) (by decide +kernel) PySem.entry_listiter_next ?_)
 have ho := (N _ hi).1
 have hol := (N _ hl).1
 show wpAny _ _ (field (.ref it) 0 >>= _) _ _ s
 refine wpAny_bind (wpAny_field ho rfl (x := .ref l) rfl ?_)
 show wpAny _ _ (if (Value.ref l == Value.none) = true then _ else _) _ _ s
 rw [if_neg (show ¬ ((Value.ref l == Value.none) = true) from Bool.false_ne_true)]
 show wpAny _ _ (field (.ref it) 1 >>= _) _ _ s
 refine wpAny_bind (wpAny_field ho rfl (x := .int i 0) rfl ?_)
 show wpAny _ _ (seqItems? (.ref l) >>= _) _ _ s
 refine wpAny_bind (wpAny_seqItems hol rfl ?_)
 simp only [Int.toNat_natCast, hx]
 refine wpAny_bind (wpAny_setField ho rfl (by simp) (wpAny_pure ?_))
 have hs : Heap.SameBut it s.heap (s.heap.update it (Obj.mapFields (·.setIfInBounds 1 (rawInt ((i : Int) + 1))))) := Heap.SameBut.update ..
 refine h _ (F.change hs (N _ hi).2.1 (N _ hi).2.2) (newsSetAt N hi hs ?_)
 rw [Heap.get?_update_self _ ho rfl]
 rfl
theorem next_end (hh : A.handled = none) (F : Fr h₀ L s.heap m) (N : News h₀ L s.heap news) (hq : (q, mwObj "list_iterator.__next__" (.ref it)) ∈ news) (hi : (it, liObj l (i : Int)) ∈ news) (hl : (l, W.listOf items ep) ∈ news) (hx : items[i]? = none)
  (h : ∀ h1 h' e o', Fr h₀ L h1 m → News h₀ L h1 (setAt it o' news) → Heap.NewExc h1 h' e "StopIteration" → E (.ref e) { s with heap := h' }) : wpAny (model prog w) A (call (.ref q) []) Q E s := by
 refine wpAny_call (mw_call (R := wants Q E) (N _ hq).1 (check_next it) (by decide +kernel) PySem.entry_listiter_next ?_)
 have ho := (N _ hi).1
 have hol := (N _ hl).1
 show wpAny _ _ (field (.ref it) 0 >>= _) _ _ s
 refine wpAny_bind (wpAny_field ho rfl (x := .ref l) rfl ?_)
 show wpAny _ _ (if (Value.ref l == Value.none) = true then _ else _) _ _ s
 rw [if_neg (show ¬ ((Value.ref l == Value.none) = true) from Bool.false_ne_true)]
 show wpAny _ _ (field (.ref it) 1 >>= _) _ _ s
 refine wpAny_bind (wpAny_field ho rfl (x := .int i 0) rfl ?_)
 show wpAny _ _ (seqItems? (.ref l) >>= _) _ _ s
 refine wpAny_bind (wpAny_seqItems hol rfl ?_)
 simp only [Int.toNat_natCast, hx]
 have hs : Heap.SameBut it s.heap (s.heap.update it (Obj.mapFields (·.setIfInBounds 0 .none))) := Heap.SameBut.update ..
 have F1 := F.change hs (N _ hi).2.1 (N _ hi).2.2
 have N1 := newsSetAt N hi hs (Heap.get?_update_self _ ho rfl)
 refine wpAny_bind (wpAny_rule (wpAny_bind (wpAny_setField ho rfl (by simp) ?_)))
 show wpAny _ _ (newExc (.type "StopIteration") [] >>= _) _ _ _
 refine wpAny_bind ?_
 simp only [newExc, newTuple]
 refine wpAny_bind (wpAny_newObj_type ?_ (by size_fits))
 refine wpAny_bind (m := firstArgMember _ _) (wpAny_of_eq (a := Value.none) (by first | rfl | (simp only [firstArgMember]; rfl)) ?_)
 refine wpAny_newObj_type ?_ (by size_fits)
 simp only [raiseNew]
 refine wpAny_bind (wpAny_handled ?_)
 rw [show A.in1.handled = none from hh]
 refine wpAny_bind (wpAny_pure (wpAny_throw ?_))
 refine h _ _ _ _ F1 N1 ⟨fun b o e => Heap.get?_push_of_some _ (Heap.get?_push_of_some _ e), ?_, ?_⟩
 ·exact Heap.get?_none_of_le (by rw [Heap.size_push]; exact Nat.le_succ _)
 exact ⟨_, _, Heap.get?_push_size _ rfl, rfl, rfl⟩
end
end
section
open PySem.Spec
section
variable {prog : Program} {w : World} {A₀ : Around} {E : Value → Shared → Prop} {s' : Shared} {base g g₀ h : Heap} {outer : List Env} {L a e : Addr} {m : Str → Option Value} {name : Str} {scope : Scope} {cd : Value}
 {b₀ : Stmt} {suite : List Stmt} {pos np : Pos} {rest : List ExceptHandler} {Q : Flow → Shared → Prop} {news : List (Addr × Obj)} {KF : Frag}
 {p : Program} {loose : List Str} {mean : ExcName → Option Value} {mg mb : Str → Option Value} {x : Str} {X T' : String}
theorem caught_own (hx0 : Heap.NewExc h s'.heap e X) (F : Fr g L h m) (N : News g L h news) (K : Below A₀ base outer g) (XB : KF.In base) (TB : Top p loose mean mg mb base)
  (D : KtsDicts (outer.filterMap (·.frame)) g) (T0 : KtsTurn (outer.filterMap (·.frame)) g₀ g)
  (ex : nsIn KF mainGlobals x = some none) (hv : bootBuiltins x = some (.type T')) (hn' : x ≠ "__name__")
  (hexc : isSubtype (.type T') (.type "BaseException") = pure true) (hnt : isSubtype (.type ((Manifest.find? T').elim "type" fun y => y.metatype)) (.type "tuple") = pure false) (hsub : isSubtype (.type X) (.type T') = pure true)
  (k : ∀ h' g', KtsTurn (outer.filterMap (·.frame)) g₀ g' → Fr g' L h' m → News g' L h' news → Below A₀ base outer g' → KF.In g' → Top p loose mean mg mb g' → KtsDicts (outer.filterMap (·.frame)) g' →
   wpAny (model prog w) ((A₀.deeper (envOf name scope L a cd)).mark (some (.ref e))) (execs (b₀ :: suite) (envOf name scope L a cd)) Q E { s' with heap := h' })
  (hk : scope.kind = .function := by rfl) (hx : (envOf name scope L a cd).kindOf x = some .globalImplicit := by rfl) (hd : (x == ("__debug__" : Str)) = false := by decide)
  (hE : PassesOwnAt (model prog w) ((A₀.deeper (envOf name scope L a cd)).mark (some (.ref e))) (A₀.deeper (envOf name scope L a cd)) (envOf name scope L a cd) E := by passes_own) :
  wpAny (model prog w) (A₀.deeper (envOf name scope L a cd)) (noteFrame (.ref e) (envOf name scope L a cd))
   (fun _ s₂ => wpAny (model prog w) (A₀.deeper (envOf name scope L a cd)) (setFlight (.ref e) none) (fun _ s₃ =>
    wpAny (model prog w) (A₀.deeper (envOf name scope L a cd)) (handleBy (.ref e) (envOf name scope L a cd) (.ExceptHandler (some (.Name x np)) none (b₀ :: suite) pos :: rest)) Q E s₃) E s₂) E s' := by
 have K' := K.push (name := name) (a := a) (cd := cd) F hk
 have hin : ∀ env ∈ (envOf name scope L a cd :: outer), ∀ b, env.frame = some b → b ∈ (envOf name scope L a cd :: outer).filterMap (·.frame) := fun env he b hb => List.mem_filterMap.mpr ⟨env, he, hb⟩
 refine gen_ (hideAll h ((envOf name scope L a cd :: outer).filterMap (·.frame))) ?_; intro B hBdef
 have st : base.StaysIn B := fun b o q => by
  rw [hBdef]
  exact hideAll_get _ (K'.stays b o q) fun hm => by rw [(K'.frames.mem hm).1] at q; cases q
 have hBG : ∀ b o, h.get? b = some o → b ∉ (envOf name scope L a cd :: outer).filterMap (·.frame) → B.get? b = some o := fun b o q nm => by rw [hBdef]; exact hideAll_get _ q nm
 have hl : ∀ q ∈ news, B.get? q.1 = some q.2 := fun q hq => by
  rw [hBdef]
  refine hideAll_get _ (N q hq).1 fun hm => ?_
  refine el1_2 (List.mem_filterMap.mp hm) ?_; intro env he hf
  rcases mc1 he with rfl | he
  ·exact (N q hq).2.1 (Option.some.inj hf).symm
  refine el1_2 ((K.frames.mem (List.mem_filterMap.mpr ⟨env, he, hf⟩)).2) ?_; intro o ho _
  rw [(N q hq).2.2] at ho; cases ho
 refine el2_3 (hx0.there) ?_; intro ob tp he hcls hdd
 have hen : B.get? e = none := by
  cases q : B.get? e with
  | none => rfl
  | some o => rw [hBdef] at q; have := of_hideAll _ q; rw [hx0.new] at this; cases this
 have hFF : s'.heap.FunFrames B (envOf name scope L a cd :: outer) := by rw [hBdef]; exact (funFrames_hide K'.frames hin).of_keeps fun b o hb _ => ⟨o, hx0.keeps b o hb, rfl⟩
 have hkb : B.StaysIn s'.heap := fun b o hb => by rw [hBdef] at hb; exact hx0.keeps b o (of_hideAll _ hb)
 have hsm : h.UpToSlots s'.heap := Heap.UpToSlots.of_keeps hx0.keeps
 have hL : B.get? L = none := by
  refine el2_3 (hFF.2.1) ?_; intro L' _ hf hn' _
  obtain rfl : L = L' := Option.some.inj hf
  exact hn'
 unfold noteFrame
 simp only [show (envOf name scope L a cd).frame = some L from rfl]
 refine wpAny_bind (wpAny_field he hdd (x := .none) rfl ?_)
 rw [if_neg (by decide)]
 refine wpAny_entryW (Around.frames_deeper K.stack) hFF rfl he hkb hen hdd (by simp) (a0 := tp) rfl fun h₄ hN => ?_
 refine el0_4 (hN) ?_; (try clear hN); intro k1 k2 k3 k4
 rw [hcls] at k3
 have hheld₄ : Heap.HeldW B (envOf name scope L a cd :: outer) e (.type X) tp L h₄ := ⟨k1, hen, k2, k3⟩
 refine wpAny_landsW hheld₄ fun h₅ hheld hsm₅' => ?_
 have hsm₅ : s'.heap.UpToSlots h₅ := Heap.UpToSlots.trans k4 hsm₅'
 refine el1_3 (kts_ground K F hBG hheld.1 (hsm.trans hsm₅)) ?_; intro g₅ T₅ F₅ K₅
 have X₅ : KF.In g₅ := XB.keeps K₅.stays
 have P₅ : TopRead p loose mg mb g₅ := topRead_of (TB.keeps K₅.stays)
 refine el1_2 (hheld.there) ?_; intro ob5 hob hobc
 refine wpAny_handleBy_builtin (X := X) (T := T') (b := true) hexc hnt hsub (name_B F₅ X₅ P₅ ex hv hn' ⟨rfl, ⟨ob5, hob, hobc⟩, ?_⟩ hk hx hd)
 refine lands_againW hheld fun h₆ hfl₆ hsm₆ => ?_
 refine el1_3 (kts_ground K F hBG hfl₆.1 ((hsm.trans hsm₅).trans hsm₆)) ?_; intro g₆ T₆ F₆ K₆
 have Nl : News g₆ L h₆ news := fun q hq => ⟨hfl₆.1 _ _ (hl q hq), (fun z => by have := hl q hq; rw [z, hL] at this; cases this), T₆.none_ _ (N q hq).2.2⟩
 have X₆ : KF.In g₆ := XB.keeps K₆.stays
 have P₆ : Top p loose mean mg mb g₆ := TB.keeps K₆.stays
 have D₆ : KtsDicts (outer.filterMap (·.frame)) g₆ := D.turn T₆
 exact wpAny_passesOwnAt hE (k h₆ g₆ (T0.trans T₆) F₆ Nl K₆ X₆ P₆ D₆)
end
end
def WEnd (J : Nat → Shared → Prop) (n : Nat) (Q : Flow → Shared → Prop) (f : Flow) (s₃ : Shared) : Prop :=
 match f with
 | .ret v => Q (.ret v) s₃
 | .brk => Q .next s₃
 | _ => ∃ n', n' < n ∧ J n' s₃
def FEnd (J : Nat → Shared → Prop) (i : Nat) (Q : Flow → Shared → Prop) (f : Flow) (s₃ : Shared) : Prop :=
 match f with
 | .ret v => Q (.ret v) s₃
 | .brk => Q .next s₃
 | _ => J (i + 1) s₃
section
variable {prog : Program} {w : World} {A : Around} {E : Value → Shared → Prop} {s : Shared} {env : Env} {Q : Flow → Shared → Prop} {body orelse : List Stmt}
theorem while_w {test : PySem.Expr} {pos : Pos} (J : Nat → Shared → Prop) (n₀ : Nat) (hJ : J n₀ s)
  (turn : ∀ n s₁, J n s₁ → wpAny (model prog w) A (isTrue test env (eval test env)) (fun b s₂ => if b = true then wpAny (model prog w) A (execs body env) (WEnd J n Q) E s₂ else wpAny (model prog w) A (execs orelse env) Q E s₂) E s₁)
  (hE : PassesOwn (model prog w) A env E) : wpAny (model prog w) A (exec (.While test body orelse pos) env) Q E s := by
 refine wpAny_While (codeAny_whileLoop J ?_ n₀ hJ)
 intro n s₁ h1
 refine wpAny_mono (turn n s₁ h1) (fun b s₂ h₂ => ?_) hE
 cases b with
 | false =>
  simp only [Bool.false_eq_true, if_false] at h₂ ⊢
  exact wpAny_mono h₂ (fun f s₃ h₃ => h₃) hE
 | true =>
  simp only [if_true] at h₂ ⊢
  refine wpAny_mono h₂ (fun f s₃ h₃ => ?_) hE
  cases f with
  | ret v => exact h₃
  | brk => exact h₃
  | next => exact h₃
  | cont => exact h₃
structure FLoop (prog : Program) (w : World) (A : Around) (env : Env) (t : PySem.Expr) (body : List Stmt) (Q : Flow → Shared → Prop) (E : Value → Shared → Prop) (it : Value) (s₂ : Shared) : Prop where
 out : codeAny (model prog w) A (.forLoop t it body [] env) (fun r s' => match r with | .ok f => Q f s' | .error e => cameBackBy (model prog w) A env E e s') s₂
theorem for_one {t iter : PySem.Expr} {pos : Pos}
  (h : wpAny (model prog w) A (eval iter env) (fun xv s₁ => wpAny (model prog w) A (pyIter xv) (fun it s₂ => FLoop prog w A env t body Q E it s₂) E s₁) E s)
  (hs : ∀ x, foldedSetIterable iter env x = pure x) : wpAny (model prog w) A (exec (.For t iter body [] pos) env) Q E s :=
 wpAny_For (wpAny_mono h (fun xv s₁ h₁ => wpAny_mono h₁ (fun it s₂ h₂ => h₂.out) fun _ _ e => e) fun _ _ e => e) hs
theorem floop_w {x : Str} {px : Pos} {I : Addr} {fp wr : List Addr} {n : Nat} {Pv : Nat → Value → Prop} {St : Nat → Heap → Prop} (W : Walks prog w A I fp wr n Pv St)
  (hE : PassesOwn (model prog w) A env E) (J : Nat → Shared → Prop) (hst : ∀ i s, J i s → St i s.heap) (h0 : J 0 s)
  (turn : ∀ i v s₁ h₁ tk, i < n → Pv i v → J i s₁ → St (i + 1) h₁ → (∀ b o, b ∉ wr → s₁.heap.get? b = some o → h₁.get? b = some o) →
   wpAny (model prog w) A (assign (.Name x px) env v) (fun _ s₂ => wpAny (model prog w) A (execs body env) (FEnd J i Q) E s₂) E { s₁ with heap := h₁, toks := tk })
  (done : ∀ s₁ h₁ tk, J n s₁ → (∀ b o, b ∉ wr → s₁.heap.get? b = some o → h₁.get? b = some o) → Q .next { s₁ with heap := h₁, toks := tk }) :
  FLoop prog w A env (.Name x px) body Q E (.ref I) s := by
 refine ⟨?_⟩
 refine codeAny_forLoop (fun k s' => ∃ i, i ≤ n ∧ k = n - i ∧ J i s') ?_ n ⟨0, Nat.zero_le _, rfl, h0⟩
 rintro k s' ⟨i, hi, rfl, hJ⟩
 by_cases hlt : i < n
 ·refine W.item i _ _ _ hlt (hst _ _ hJ) fun v h₁ tk hPv hSt hk => ?_
  refine wpAny_mono (turn i v s' h₁ tk hlt hPv hJ hSt hk) (fun _ s₂ h₂ => wpAny_mono h₂ (fun f s₃ h₃ => ?_) hE) hE
  cases f with
  | ret v => exact h₃
  | brk => exact h₃
  | next => exact ⟨n - (i + 1), Nat.sub_succ_lt_self _ _ hlt, i + 1, hlt, rfl, h₃⟩
  | cont => exact ⟨n - (i + 1), Nat.sub_succ_lt_self _ _ hlt, i + 1, hlt, rfl, h₃⟩
 have hin : i = n := by omega
 subst hin
 refine W.done _ _ _ (hst _ _ hJ) fun h₁ tk hk => wpAny_execs_nil ?_
 exact done s' h₁ tk hJ hk
end
theorem acc_irrefl {α : Type} {R : α → α → Prop} {x : α} (h : Acc R x) : ¬ Relation.TransGen R x x := by
 induction h with
 | intro x _ ih =>
  intro ht
  cases ht with
  | single h => exact ih x h (.single h)
  | tail h1 h2 => exact ih _ h2 (Relation.TransGen.trans (.single h2) h1)
noncomputable def succs (ns : List NI) (a : Str) : List Str := match ns.find? fun e => e.nm = a with | some e => e.sc.map (·.1) | none => []
def SuccR (ns : List NI) (b a : Str) : Prop := b ∈ succs ns a
structure SE where
 nm : Str
 tk : Tok
 it : Addr
 bm : Addr
 p : Nat
 sl : Addr
noncomputable def Chain (ns : List NI) : List SE → Str → Prop
 | [], _ => True
 | t :: r, nx => 1 ≤ t.p ∧ (succs ns t.nm)[t.p - 1]? = some nx ∧ (∀ q, q < t.p - 1 → ∀ b, (succs ns t.nm)[q]? = some b → Acc (SuccR ns) b) ∧ Chain ns r t.nm
noncomputable def Done (ns : List NI) : List SE → Prop
 | [] => True
 | t :: r => (∀ q, q < t.p → ∀ b, (succs ns t.nm)[q]? = some b → Acc (SuccR ns) b) ∧ Chain ns r t.nm
structure SeenOk (ns : List NI) (S : List Str) (st : List SE) : Prop where
 fin : ∀ v ∈ S, v ∈ st.map (·.nm) ∨ Acc (SuccR ns) v
 inS : ∀ t ∈ st, t.nm ∈ S
 nodup : (st.map (·.nm)).Nodup
 named : ∀ t ∈ st, t.nm ∈ ns.map (·.nm)
theorem chain_reach {ns : List NI} : ∀ {st : List SE} {nx : Str}, Chain ns st nx → ∀ t ∈ st, Relation.TransGen (SuccR ns) nx t.nm
 | [], _, _, _, h => nomatch h
 | t :: r, nx, ⟨h1, h2, _, h4⟩, x, hx => by
  have hs : SuccR ns nx t.nm := List.mem_of_getElem? h2
  rcases mc1 hx with rfl | hx
  ·exact .single hs
  exact Relation.TransGen.trans (.single hs) (chain_reach h4 x hx)
theorem t1_cycle {ns : List NI} {st : List SE} {nx : Str} (h : Chain ns st nx) (hm : nx ∈ st.map (·.nm)) : ¬ Acc (SuccR ns) nx := by
 refine el1_2 (mm1 hm) ?_; intro t ht e
 intro ha
 have := chain_reach h t ht
 rw [e] at this
 exact acc_irrefl ha this
theorem t2_done {ns : List NI} {st : List SE} {nx : Str} (h : Chain ns st nx) (ha : Acc (SuccR ns) nx) : Done ns st := by
 cases st with
 | nil => trivial
 | cons t r =>
  refine el0_4 (h) ?_; (try clear h); intro h1 h2 h3 h4
  refine ⟨fun q hq b hb => ?_, h4⟩
  by_cases e : q = t.p - 1
  ·subst e
   rw [h2] at hb
   injection hb with hb
   exact hb ▸ ha
  exact h3 q (by lia) b hb
theorem t3_push {ns : List NI} {st : List SE} {S : List Str} {nx : Str} {tk : Tok} {it bm sl : Addr} (h : Chain ns st nx) (hs : SeenOk ns S st) (hn : nx ∉ S) (hm : nx ∈ ns.map (·.nm)) : Done ns (⟨nx, tk, it, bm, 0, sl⟩ :: st) ∧ SeenOk ns (nx :: S) (⟨nx, tk, it, bm, 0, sl⟩ :: st) := by
 refine ⟨⟨fun q hq => absurd hq (Nat.not_lt_zero _), h⟩, ?_, ?_, ?_, ?_⟩
 ·intro v hv
  rcases mc1 hv with rfl | hv
  ·exact .inl (.head _)
  exact (hs.fin v hv).imp (fun h => .tail _ h) id
 ·intro t ht
  rcases mc1 ht with rfl | ht
  ·exact .head _
  exact .tail _ (hs.inS t ht)
 ·refine List.nodup_cons.mpr ⟨fun hm => ?_, hs.nodup⟩
  refine el1_2 (mm1 hm) ?_; intro t ht e
  have e2 : t.nm = nx := e
  exact hn (e2 ▸ hs.inS t ht)
 intro t ht
 rcases mc1 ht with rfl | ht
 ·exact hm
 exact hs.named t ht
theorem t4_draw {ns : List NI} {t : SE} {r : List SE} {b : Str} (h : Done ns (t :: r)) (hb : (succs ns t.nm)[t.p]? = some b) : Chain ns ({ t with p := t.p + 1 } :: r) b := by
 refine ⟨Nat.succ_le_succ (Nat.zero_le _), hb, fun q hq => h.1 q (by simpa using hq), h.2⟩
theorem t4_seen {ns : List NI} {S : List Str} {t : SE} {r : List SE} (h : SeenOk ns S (t :: r)) : SeenOk ns S ({ t with p := t.p + 1 } :: r) :=
 ⟨h.fin, fun x hx => by
  rcases mc1 hx with rfl | hx
  ·exact h.inS t (.head _)
  ·exact h.inS x (.tail _ hx), h.nodup, fun x hx => by
  rcases mc1 hx with rfl | hx
  ·exact h.named t (.head _)
  exact h.named x (.tail _ hx)⟩
theorem t5_acc {ns : List NI} {t : SE} {r : List SE} (h : Done ns (t :: r)) (hb : (succs ns t.nm)[t.p]? = none) : Acc (SuccR ns) t.nm := by
 refine ⟨_, fun b hbm => ?_⟩
 refine el1_1 (List.getElem?_of_mem hbm) ?_; intro q hq
 refine h.1 q ?_ b hq
 rcases Nat.lt_or_ge q t.p with hlt | hge
 ·exact hlt
 rw [List.getElem?_eq_none_iff] at hb
 have : q < (succs ns t.nm).length := (List.getElem?_eq_some_iff.mp hq).1
 lia
theorem t5_pop {ns : List NI} {S : List Str} {t : SE} {r : List SE} (h : Done ns (t :: r)) (hs : SeenOk ns S (t :: r)) (hb : (succs ns t.nm)[t.p]? = none) : Done ns r ∧ SeenOk ns S r := by
 have ha := t5_acc h hb
 refine ⟨t2_done h.2 ha, ?_, fun x hx => hs.inS x (.tail _ hx), (nc1 hs.nodup).2, fun x hx => hs.named x (.tail _ hx)⟩
 intro v hv
 rcases hs.fin v hv with hv | hv
 ·rcases mc1 hv with rfl | hv
  ·exact .inr ha
  exact .inl hv
 exact .inr hv
theorem t6_end {ns : List NI} {S : List Str} (hs : SeenOk ns S []) : ∀ v ∈ S, Acc (SuccR ns) v := fun v hv => (hs.fin v hv).elim (fun h => nomatch h) id
noncomputable def deg (ns : List NI) (a : Str) : Nat := (succs ns a).length
noncomputable def unseen (ns : List NI) (S : List Str) : List Str → Nat
 | [] => 0
 | a :: l => (if a ∈ S then 0 else deg ns a + 1) + unseen ns S l
noncomputable def dleft (ns : List NI) : List SE → Nat
 | [] => 0
 | t :: r => (deg ns t.nm - t.p) + dleft ns r
noncomputable def dMeas (ns : List NI) (S : List Str) (st : List SE) : Nat := unseen ns S (ns.map (·.nm)) + dleft ns st
theorem unseen_push {ns : List NI} {S : List Str} {a : Str} (hn : a ∉ S) : ∀ {l : List Str}, l.Nodup → a ∈ l → unseen ns (a :: S) l + (deg ns a + 1) = unseen ns S l
 | [], _, h => nomatch h
 | b :: l, hl, hm => by
  rw [List.nodup_cons] at hl
  rw [unseen, unseen]
  by_cases e : b = a
  ·subst e
   rw [if_pos (.head _), if_neg hn]
   have : unseen ns (b :: S) l = unseen ns S l := unseen_same hl.1
   lia
  have hm' : a ∈ l := by
   rcases mc1 hm with h | h
   ·exact absurd h.symm e
   exact h
  have := unseen_push (ns := ns) hn hl.2 hm'
  by_cases hb : b ∈ S
  ·rw [if_pos (.tail _ hb), if_pos hb]; lia
  rw [if_neg (fun h => by rcases mc1 h with h | h; exact e h; exact hb h), if_neg hb]; lia
where
 unseen_same : ∀ {b : Str} {l : List Str}, b ∉ l → unseen ns (b :: S) l = unseen ns S l
  | _, [], _ => rfl
  | b, c :: l, h => by
   rw [unseen, unseen, unseen_same (fun hm => h (.tail _ hm))]
   have hc : c ≠ b := fun e => h (e ▸ .head _)
   by_cases hs : c ∈ S
   ·rw [if_pos (.tail _ hs), if_pos hs]
   rw [if_neg (fun hm => by rcases mc1 hm with hm | hm; exact hc hm; exact hs hm), if_neg hs]
theorem m3_push {ns : List NI} {S : List Str} {st : List SE} {nx : Str} {tk : Tok} {it bm sl : Addr} (hn : nx ∉ S) (hnn : (ns.map (·.nm)).Nodup) (hm : nx ∈ ns.map (·.nm)) : dMeas ns (nx :: S) (⟨nx, tk, it, bm, 0, sl⟩ :: st) + 1 = dMeas ns S st := by
 unfold dMeas
 have := unseen_push (ns := ns) hn hnn hm
 rw [dleft]
 show unseen ns (nx :: S) _ + (deg ns nx - 0 + dleft ns st) + 1 = _
 lia
theorem m4_draw {ns : List NI} {S : List Str} {t : SE} {r : List SE} {b : Str} (hb : (succs ns t.nm)[t.p]? = some b) : dMeas ns S ({ t with p := t.p + 1 } :: r) + 1 = dMeas ns S (t :: r) := by
 unfold dMeas
 rw [dleft, dleft]
 have : t.p < deg ns t.nm := (List.getElem?_eq_some_iff.mp hb).1
 show unseen ns S _ + (deg ns t.nm - (t.p + 1) + dleft ns r) + 1 = _
 lia
theorem m5_pop {ns : List NI} {S : List Str} {t : SE} {r : List SE} : dMeas ns S r ≤ dMeas ns S (t :: r) := by
 unfold dMeas
 rw [dleft]
 lia
section
variable {prog : Program} {w : World} {A : Around} {E : Value → Shared → Prop} {s : Shared} {h₀ : Heap} {L : Addr} {m : Str → Option Value} {news : List (Addr × Obj)}
variable {l sa d : Addr} {so o : Obj} {items : Array Value} {ep n : Nat}
variable {KK : Type} [DecidableEq KK] [BEq KK] [LawfulBEq KK] {knd : KeyKind prog w KK} {S : KK → Bool} {k : KK} {key : Value} {kvs : List (KK × Value)}
theorem in_set_S {Q : Value → Shared → Prop} (N : News h₀ L s.heap news) (hm : (sa, so) ∈ news) (hso : so.SetObjOf knd S n) (hb : n < scanBound) (hkey : knd.is k key = true) (hsc : key.scannable = true)
  (h : Q (.bool (S k)) { s with toks := s.toks + 1 }) : wpAny (model prog w) A (compareOp .In key (.ref sa)) Q E s := in_sl1 (newsFront N hm) hso hb hkey hsc h
theorem setmeth_S {pl : Sem Bool} {Q : Value × List Value → Shared → Prop} (N : News h₀ L s.heap news) (hm : (sa, so) ∈ news) (hso : so.SetObjOf knd S n) (hb : n < scanBound)
  (h : Q (.builtin "set.add", [.ref sa]) s) : wpAny (model prog w) A (getMethod (.ref sa) "add" pl) Q E s := getMethod_add_sl1 (newsFront N hm) hso hb h
theorem add_set_S {Q : Value → Shared → Prop} (F : Fr h₀ L s.heap m) (N : News h₀ L s.heap news) (hm : (sa, so) ∈ news) (hso : so.SetObjOf knd S n) (hb : n + 1 < scanBound) (hkey : knd.is k key = true) (hsc : key.scannable = true)
  (h : ∀ h' so', Fr h₀ L h' m → News h₀ L h' (setAt sa so' news) → so'.SetObjOf knd (fun k' => S k' || decide (k' = k)) (if S k then n else n + 1) → Q .none { s with heap := h', toks := s.toks + 1 }) :
  wpAny (model prog w) A (call (.builtin "set.add") [.ref sa, key]) Q E s :=
 add_sl1 F (newsFront N hm) (fun p hp => nomatch hp) (fun p hp => by simpa using (mf1 hp).2) hso hb hkey hsc fun h' so' F' N' x => h h' so' F' (newsBack N') x
theorem truthy_list_S {Q : Bool → Shared → Prop} (N : News h₀ L s.heap news) (hm : (l, W.listOf items ep) ∈ news) (hfit : items.size ≤ 100000)
  (h : Q (!items.isEmpty) { s with toks := s.toks + 1 + 1 }) : wpAny (model prog w) A (truthy (.ref l)) Q E s :=
 wpAny_truthy_list (News.isList N hm) (by lia) h
theorem last_S {t : Tok} {x : Value} {Q : Value → Shared → Prop} (N : News h₀ L s.heap news) (hm : (l, W.listOf items ep) ∈ news) (hne : 0 < items.size) (hx : items[items.size - 1]? = some x) (h : Q x s) :
  wpAny (model prog w) A (getItem (.ref l) (.int (-1) t)) Q E s :=
 wpAny_getItem_list_neg (News.isList N hm) (by decide) (by lia) (by decide) (by rw [neg1 hne]; exact hx) h
theorem kl_last_append (y : Value) : ∀ p : List Value, kl_last (p ++ [y]) = some (p, y)
 | [] => rfl
 | x :: p => by
  rw [List.cons_append]
  unfold kl_last
  rw [kl_last_append y p]
theorem pop_S {p : List Value} {y : Value} {Q : Value → Shared → Prop} (F : Fr h₀ L s.heap m) (N : News h₀ L s.heap news) (hm : (l, W.listOf (p ++ [y]).toArray ep) ∈ news) (hz : p.length ≤ 1000)
  (h : ∀ h', Fr h₀ L h' m → News h₀ L h' (setAt l (W.listOf p.toArray (ep + 1)) news) → Q y { s with heap := h' }) : wpAny (model prog w) A (call (.builtin "list.pop") [.ref l]) Q E s :=
 kl_pop F (newsFront N hm) (by simpa using kl_last_append y p) (Upd.head (fun p hp => by simpa using (mf1 hp).2)) (size_le (by simp; lia)) fun h' F' N' => h h' F' (newsBack N')
theorem del_S {v : Value} {Q : Unit → Shared → Prop} (F : Fr h₀ L s.heap m) (N : News h₀ L s.heap news) (hm : (d, o) ∈ news) (hd : o.IsDictOf knd kvs) (hkey : knd.is k key = true) (hv : valueAt kvs k = some v) (hsz : kvs.length ≤ sizeLine)
  (h : ∀ h' o', Fr h₀ L h' m → News h₀ L h' (setAt d o' news) → o'.IsDictOf knd (without kvs k) → Q () { s with heap := h', toks := s.toks + 1 }) : wpAny (model prog w) A (delItem (.ref d) key) Q E s := by
 have hmm0 := N (d, o) hm
 have hD : s.heap.DictOf knd d kvs := Heap.dictOf_iff.mpr ⟨o, hmm0.1, hd⟩
 unfold delItem
 try with_reducible refine wpAny_holding ?_
 refine wpAny_bind (wpAny_sequenceKey hD.typeIs (by decide) ?_)
 refine wpAny_bind (wpAny_callSpecial?_slot (name := Str.ofString "__delitem__") hD.typeIs PySem.F.slot_dict_delitem
  (call_meetsIn PySem.F.slot_dict_delitem hD.typeIs PySem.F.entry_dict_delitem (PySem.F.args_dict_delitem_2 _ _) (meets_dict_delitem_pairs knd d hkey) ⟨kvs, hD, hsz, by rw [hv]; rfl, fun h' hmm hs => ?_⟩))
 refine el1_2 (Heap.dictOf_iff.mp hmm) ?_; intro o' ho' hd'
 exact wpAny_pure (h h' o' (F.change hs hmm0.2.1 hmm0.2.2) (newsSetAt N hm hs ho') hd')
theorem len_list_S {Q : Value → Shared → Prop} (N : News h₀ L s.heap news) (hm : (l, W.listOf items ep) ∈ news) (hfit : items.size ≤ 100000) (h : ∀ t tk, Q (.int items.size t) { s with toks := tk }) :
  wpAny (model prog w) A (call (.builtin "len") [.ref l]) Q E s := by
 refine call_len_list (News.isList N hm) (by lia) ?_
 exact h _ _
end
theorem iter_x {prog : Program} (w : World) (A : Around) (s : Shared) (l : Addr) (items : Array Value) (Q E : Value → Shared → Prop)
  (hl : s.heap.IsList l items) (hret : Q (.ref s.heap.objs.size) { s with heap := s.heap.push (liObj l 0) }) :
  wpAny (model prog w) A (call (.builtin "iter") [.ref l]) Q E s := by
 refine call_function_entry (by decide +kernel) (by decide +kernel) kdk_entry_iter (kdk_args_iter _) ?_
 unfold Builtin.«iter»
 refine wpAny_bind (m := someArgs "iter" 1 2 _) (wpAny_of_eq (a := [Value.ref l]) (by first | rfl | kernel_rfl!) ?_)
 show wpAny _ _ (pyIter (.ref l) >>= _) _ _ _
 refine wpAny_bind (wpAny_pyIter_list hl ?_)
 exact wpAny_pure ⟨_, rfl, hret⟩
section
variable {w : World} {A : Around} {E : Value → Shared → Prop} {s : Shared} {h₀ : Heap} {L : Addr} {m : Str → Option Value} {news : List (Addr × Obj)} {l it : Addr} {items : Array Value} {ep : Nat} {k : Int} {Q : Value → Shared → Prop}
theorem iter_S (F : Fr h₀ L s.heap m) (N : News h₀ L s.heap news) (X : (Mine.K w.params).In h₀) (hm : (l, W.listOf items ep) ∈ news)
  (h : ∀ q h' tk, Fr h₀ L h' m → News h₀ L h' ((q, liObj l 0) :: news) → (∀ p ∈ news, p.1 ≠ q) → Q (.ref q) { s with heap := h', toks := tk }) :
  wpAny (model rw_nq0317_01.prog w) A (call (.builtin "iter") [.ref l]) Q E s :=
 iter_x w A s l items Q E (News.isList N hm) (h _ _ _ (F.push _) (News.push F N _ rfl) fun p hp => nlt (Heap.lt_size (N p hp).1))
theorem nextattr_S (F : Fr h₀ L s.heap m) (N : News h₀ L s.heap news) (X : (Mine.K w.params).In h₀) (hm : (it, liObj l k) ∈ news)
  (h : ∀ q h' tk, Fr h₀ L h' m → News h₀ L h' ((q, mwObj "list_iterator.__next__" (.ref it)) :: news) → (∀ p ∈ news, p.1 ≠ q) → Q (.ref q) { s with heap := h', toks := tk }) :
  wpAny (model rw_nq0317_01.prog w) A (getAttr (.ref it) (Str.ofString "__next__") true) Q E s := by
 refine getAttr_B (T := "list_iterator") ⟨_, (N _ hm).1, rfl⟩ hga_it toks_oga ?_
 refine next_x w A _ it l k _ _ _ (N _ hm).1 fun q h' D => ?_
 exact wpAny_pure (h q h' _ (mem_fr D F) (mem_news D F N) fun p hp e => D.ne_old 0 q _ rfl p.1 p.2 (N p hp).1 e.symm)
end
inductive FcE (w : World) (p : Program) (lo : List Str) (mean : ExcName → Option Value) (mg mb : Str → Option Value) (A₁ : Around) (base g₁ : Heap) (outer₁ : List Env) (L₁ : Addr) (fm : Str → Option Value) (Led : List (Addr × Obj)) (s₀ s₁ : Shared) : Prop
 | mk (g h : Heap) (tk : Nat) (e : s₁ = { s₀ with heap := h, toks := tk }) (h1 : KtsTurn (outer₁.filterMap (·.frame)) g₁ g) (h2 : Fr g L₁ h fm) (h3 : News g L₁ h Led) (h4 : Below A₁ base outer₁ g) (h5 : (Mine.K w.params).In g) (h6 : Top p lo mean mg mb g) (h7 : KtsDicts (outer₁.filterMap (·.frame)) g)
noncomputable def bmVals (st : List SE) : List Value := st.reverse.map fun t => Value.ref t.bm
noncomputable def skVals (st : List SE) : List Value := st.reverse.map fun t => Value.str t.nm t.tk
theorem bmVals_cons (t : SE) (r : List SE) : bmVals (t :: r) = bmVals r ++ [.ref t.bm] := by unfold bmVals; rw [List.reverse_cons, List.map_append]; rfl
theorem skVals_cons (t : SE) (r : List SE) : skVals (t :: r) = skVals r ++ [.str t.nm t.tk] := by unfold skVals; rw [List.reverse_cons, List.map_append]; rfl
noncomputable def stObjs (st : List SE) : List (Addr × Obj) := st.flatMap fun t => [(t.it, liObj t.sl (t.p : Int)), (t.bm, mwObj "list_iterator.__next__" (.ref t.it))]
noncomputable def stOwn (st : List SE) : List Addr := st.flatMap fun t => [t.it, t.bm]
theorem stObjs_keys (st : List SE) : Keys (stObjs st) = stOwn st := by
 unfold Keys stObjs stOwn
 rw [List.map_flatMap]
 rfl
noncomputable abbrev fcLed (nd se ik sk : Addr) (oN oS : Obj) (e1 e2 : Nat) (st : List SE) (R : List (Addr × Obj)) : List (Addr × Obj) :=
 (nd, oN) :: (se, oS) :: (ik, W.listOf (bmVals st).toArray e2) :: (sk, W.listOf (skVals st).toArray e1) :: (stObjs st ++ R)
noncomputable def fcOwn (nd se ik sk : Addr) (st : List SE) : List Addr := nd :: se :: ik :: sk :: stOwn st
structure FcSep (nd se ik sk : Addr) (st : List SE) (R : List (Addr × Obj)) : Prop where
 nodup : (fcOwn nd se ik sk st).Nodup
 off : ∀ p ∈ R, p.1 ∉ fcOwn nd se ik sk st
section
variable {nd se ik sk : Addr} {oN oS o' : Obj} {e1 e2 : Nat} {st r : List SE} {t : SE} {R : List (Addr × Obj)}
theorem stMem {p : Addr × Obj} (hp : p ∈ stObjs st) : p.1 ∈ stOwn st := by rw [← stObjs_keys]; exact mm2 ⟨p, hp, rfl⟩
theorem FcSep.nds (h : FcSep nd se ik sk st R) : (nd ≠ se ∧ nd ≠ ik ∧ nd ≠ sk) ∧ (se ≠ ik ∧ se ≠ sk) ∧ ik ≠ sk ∧ (∀ p ∈ stObjs st ++ R, p.1 ≠ nd ∧ p.1 ≠ se ∧ p.1 ≠ ik ∧ p.1 ≠ sk) := by
 have q := h.nodup
 unfold fcOwn at q
 simp only [List.nodup_cons, List.mem_cons, not_or] at q
 obtain ⟨⟨a1, a2, a3, a4⟩, ⟨b1, b2, b3⟩, ⟨c1, c2⟩, d1, _⟩ := q
 refine ⟨⟨a1, a2, a3⟩, ⟨b1, b2⟩, c1, fun p hp => ?_⟩
 refine ast hp (fun hp => ?_) fun hp => ?_
 ·have := stMem hp
  exact ⟨fun e => a4 (e ▸ this), fun e => b3 (e ▸ this), fun e => c2 (e ▸ this), fun e => d1 (e ▸ this)⟩
 have := h.off p hp
 unfold fcOwn at this
 simp only [List.mem_cons, not_or] at this
 exact ⟨this.1, this.2.1, this.2.2.1, this.2.2.2.1⟩
noncomputable abbrev fcLed2 (nd se ik sk : Addr) (oN oS oI oK : Obj) (st : List SE) (R : List (Addr × Obj)) : List (Addr × Obj) := (nd, oN) :: (se, oS) :: (ik, oI) :: (sk, oK) :: (stObjs st ++ R)
theorem set_nd {oI oK : Obj} (h : FcSep nd se ik sk st R) : ∀ p ∈ fcLed2 nd se ik sk o' oS oI oK st R, p ∈ setAt nd o' (fcLed2 nd se ik sk oN oS oI oK st R) := by
 obtain ⟨⟨a1, a2, a3⟩, ⟨b1, b2⟩, c1, d⟩ := h.nds
 intro p hp
 refine mst hp ?_ fun hp => ?_
 ·exact mem_setAt_self (.head _)
 refine mst hp ?_ fun hp => ?_
 ·exact msN mH1 a1.symm
 refine mst hp ?_ fun hp => ?_
 ·exact msN mH2 a2.symm
 refine mst hp ?_ fun hp => ?_
 ·exact msN mH3 a3.symm
 exact msN (mT4 hp) (d p hp).1
theorem set_se {oI oK : Obj} (h : FcSep nd se ik sk st R) : ∀ p ∈ fcLed2 nd se ik sk oN o' oI oK st R, p ∈ setAt se o' (fcLed2 nd se ik sk oN oS oI oK st R) := by
 obtain ⟨⟨a1, a2, a3⟩, ⟨b1, b2⟩, c1, d⟩ := h.nds
 intro p hp
 refine mst hp ?_ fun hp => ?_
 ·exact msN (.head _) a1
 refine mst hp ?_ fun hp => ?_
 ·exact mem_setAt_self mH1
 refine mst hp ?_ fun hp => ?_
 ·exact msN mH2 b1.symm
 refine mst hp ?_ fun hp => ?_
 ·exact msN mH3 b2.symm
 exact msN (mT4 hp) (d p hp).2.1
theorem set_ik {oI oK : Obj} (h : FcSep nd se ik sk st R) : ∀ p ∈ fcLed2 nd se ik sk oN oS o' oK st R, p ∈ setAt ik o' (fcLed2 nd se ik sk oN oS oI oK st R) := by
 obtain ⟨⟨a1, a2, a3⟩, ⟨b1, b2⟩, c1, d⟩ := h.nds
 intro p hp
 refine mst hp ?_ fun hp => ?_
 ·exact msN (.head _) a2
 refine mst hp ?_ fun hp => ?_
 ·exact msN mH1 b1
 refine mst hp ?_ fun hp => ?_
 ·exact mem_setAt_self mH2
 refine mst hp ?_ fun hp => ?_
 ·exact msN mH3 c1.symm
 exact msN (mT4 hp) (d p hp).2.2.1
theorem set_sk {oI oK : Obj} (h : FcSep nd se ik sk st R) : ∀ p ∈ fcLed2 nd se ik sk oN oS oI o' st R, p ∈ setAt sk o' (fcLed2 nd se ik sk oN oS oI oK st R) := by
 obtain ⟨⟨a1, a2, a3⟩, ⟨b1, b2⟩, c1, d⟩ := h.nds
 intro p hp
 refine mst hp ?_ fun hp => ?_
 ·exact msN (.head _) a3
 refine mst hp ?_ fun hp => ?_
 ·exact msN mH1 b2
 refine mst hp ?_ fun hp => ?_
 ·exact msN mH2 c1
 refine mst hp ?_ fun hp => ?_
 ·exact mem_setAt_self mH3
 exact msN (mT4 hp) (d p hp).2.2.2
theorem FcSep.top (h : FcSep nd se ik sk (t :: r) R) : t.it ∉ [nd, se, ik, sk] ∧ t.bm ≠ t.it ∧ t.it ∉ stOwn r ∧ (∀ p ∈ R, p.1 ≠ t.it) := by
 have q := h.nodup
 have e : stOwn (t :: r) = t.it :: t.bm :: stOwn r := rfl
 unfold fcOwn at q
 rw [e] at q
 simp only [List.nodup_cons, List.mem_cons, not_or] at q
 obtain ⟨⟨a1, a2, a3, a4, a5, a6⟩, ⟨b1, b2, b3, b4, b5⟩, ⟨c1, c2, c3, c4⟩, ⟨d1, d2, d3⟩, ⟨f1, f2⟩, _⟩ := q
 refine ⟨?_, Ne.symm f1, f2, fun p hp => ?_⟩
 ·simp only [List.mem_cons, List.not_mem_nil, or_false, not_or]
  exact ⟨Ne.symm a4, Ne.symm b3, Ne.symm c2, Ne.symm d1⟩
 have := h.off p hp
 unfold fcOwn at this
 rw [e] at this
 simp only [List.mem_cons, not_or] at this
 exact this.2.2.2.2.1
theorem set_it {oI oK : Obj} (h : FcSep nd se ik sk (t :: r) R) : ∀ p ∈ fcLed2 nd se ik sk oN oS oI oK ({ t with p := t.p + 1 } :: r) R, p ∈ setAt t.it (liObj t.sl ((t.p + 1 : Nat) : Int)) (fcLed2 nd se ik sk oN oS oI oK (t :: r) R) := by
 refine el0_4 (h.top) ?_; intro a b c d
 simp only [List.mem_cons, List.not_mem_nil, or_false, not_or] at a
 intro p hp
 refine mst hp ?_ fun hp => ?_
 ·exact msN (.head _) (Ne.symm a.1)
 refine mst hp ?_ fun hp => ?_
 ·exact msN mH1 (Ne.symm a.2.1)
 refine mst hp ?_ fun hp => ?_
 ·exact msN mH2 (Ne.symm a.2.2.1)
 refine mst hp ?_ fun hp => ?_
 ·exact msN mH3 (Ne.symm a.2.2.2)
 have hp' : p ∈ (t.it, liObj t.sl ((t.p + 1 : Nat) : Int)) :: (t.bm, mwObj "list_iterator.__next__" (.ref t.it)) :: (stObjs r ++ R) := hp
 first | refine mst hp' ?_ fun hp => ?_ | rcases mc1 hp' with rfl | hp
 ·exact mem_setAt_self mH4
 refine mst hp ?_ fun hp => ?_
 ·exact msN mH5 b
 refine msN (mT6 hp) ?_
 refine ast hp (fun hp => ?_) fun hp => ?_
 ·exact fun e => c (e ▸ stMem hp)
 exact d p hp
theorem FcSep.drawn (h : FcSep nd se ik sk (t :: r) R) : FcSep nd se ik sk ({ t with p := t.p + 1 } :: r) R := ⟨h.nodup, h.off⟩
theorem FcSep.pop (h : FcSep nd se ik sk (t :: r) R) : FcSep nd se ik sk r R := by
 refine ⟨?_, fun p hp hm => h.off p hp ?_⟩
 ·have q := h.nodup
  have e : stOwn (t :: r) = t.it :: t.bm :: stOwn r := rfl
  unfold fcOwn at q ⊢
  rw [e] at q
  refine List.Nodup.sublist ?_ q
  exact ((((List.Sublist.refl (stOwn r)).cons _).cons _).cons₂ _ |>.cons₂ _ |>.cons₂ _ |>.cons₂ _)
 unfold fcOwn at hm ⊢
 have e : stOwn (t :: r) = t.it :: t.bm :: stOwn r := rfl
 rw [e]
 simp only [List.mem_cons] at hm ⊢
 rcases hm with h | h | h | h | h
 ·exact .inl h
 ·exact .inr (.inl h)
 ·exact .inr (.inr (.inl h))
 ·exact .inr (.inr (.inr (.inl h)))
 exact .inr (.inr (.inr (.inr (.inr (.inr h)))))
theorem FcSep.push {it bm : Addr} {nx : Str} {tk : Tok} {sl : Addr} (h : FcSep nd se ik sk st R) (h1 : it ∉ fcOwn nd se ik sk st) (h2 : bm ∉ fcOwn nd se ik sk st) (h3 : it ≠ bm) (h4 : ∀ p ∈ R, p.1 ≠ it ∧ p.1 ≠ bm) : FcSep nd se ik sk (⟨nx, tk, it, bm, 0, sl⟩ :: st) R := by
 have e : stOwn (⟨nx, tk, it, bm, 0, sl⟩ :: st) = it :: bm :: stOwn st := rfl
 have q := h.nodup
 unfold fcOwn at q h1 h2
 simp only [List.nodup_cons, List.mem_cons, not_or] at q h1 h2
 obtain ⟨⟨a1, a2, a3, a4⟩, ⟨b1, b2, b3⟩, ⟨c1, c2⟩, d1, f⟩ := q
 refine ⟨?_, fun p hp hm => ?_⟩
 ·unfold fcOwn
  rw [e]
  simp only [List.nodup_cons, List.mem_cons, not_or]
  exact ⟨⟨a1, a2, a3, Ne.symm h1.1, Ne.symm h2.1, a4⟩, ⟨b1, b2, Ne.symm h1.2.1, Ne.symm h2.2.1, b3⟩, ⟨c1, Ne.symm h1.2.2.1, Ne.symm h2.2.2.1, c2⟩, ⟨Ne.symm h1.2.2.2.1, Ne.symm h2.2.2.2.1, d1⟩, ⟨h3, h1.2.2.2.2⟩, h2.2.2.2.2, f⟩
 unfold fcOwn at hm
 rw [e] at hm
 have ho := h.off p hp
 unfold fcOwn at ho
 simp only [List.mem_cons, not_or] at hm ho
 rcases hm with h | h | h | h | h | h | h
 ·exact ho.1 h
 ·exact ho.2.1 h
 ·exact ho.2.2.1 h
 ·exact ho.2.2.2.1 h
 ·exact (h4 p hp).1 h
 ·exact (h4 p hp).2 h
 exact ho.2.2.2.2 h
end
structure FcData (w : World) (ns : List NI) (oN oS : Obj) (S : List Str) (st : List SE) : Prop where
 set : oS.SetObjOf (PySem.strKind rw_nq0317_01.prog w) (fun k => decide (k ∈ S)) S.length
 nodup : S.Nodup
 named : ∀ v ∈ S, v ∈ ns.map (·.nm)
 dict : ∃ kv : List (Str × Value), oN.IsDictOf (PySem.strKind rw_nq0317_01.prog w) kv ∧ (∀ t ∈ st, ∃ j tok, valueAt kv t.nm = some (.int j tok)) ∧ (∀ x, x ∉ st.map (·.nm) → valueAt kv x = none) ∧ kv.length ≤ st.length
 list : ∀ t ∈ st, ∃ e ∈ ns, e.nm = t.nm ∧ e.sl = t.sl
theorem nodup_len {α : Type} [DecidableEq α] : ∀ {l m : List α}, l.Nodup → (∀ x ∈ l, x ∈ m) → l.length ≤ m.length
 | [], _, _, _ => Nat.zero_le _
 | a :: l, m, hn, hs => by
  rw [List.nodup_cons] at hn
  have h := nodup_len (m := m.erase a) hn.2 (fun x hx => (List.mem_erase_of_ne (fun (e : x = a) => hn.1 (e ▸ hx))).mpr (hs x (.tail _ hx)))
  have hm := List.length_erase_of_mem (hs a (.head _))
  have hp : 0 < m.length := List.length_pos_of_mem (hs a (.head _))
  rw [List.length_cons]
  lia
theorem FcData.len {w : World} {ns : List NI} {oN oS : Obj} {S : List Str} {st : List SE} (h : FcData w ns oN oS S st) : S.length ≤ ns.length := by
 have := nodup_len h.nodup h.named
 simpa using this
theorem set_conv (S : List Str) (k : Str) : (fun k' => decide (k' ∈ S) || decide (k' = k)) = fun k' => decide (k' ∈ k :: S) := by
 funext k'
 simp only [List.mem_cons]
 by_cases h1 : k' = k <;> by_cases h2 : k' ∈ S <;> simp [h1, h2]
theorem succs_of {ns : List NI} (hnn : (ns.map (·.nm)).Nodup) {e : NI} (he : e ∈ ns) : succs ns e.nm = e.sc.map (·.1) := by
 unfold succs
 cases hf : ns.find? fun e' => e'.nm = e.nm with
 | none => exact absurd (List.find?_eq_none.mp hf e he) (by simp)
 | some e' =>
  have h1 : e'.nm = e.nm := by simpa using List.find?_some hf
  rw [nodup_inj hnn (List.mem_of_find?_eq_some hf) he h1]
theorem valueAt_without {kvs : List (Str × Value)} {k x : Str} : valueAt (without kvs k) x = if x = k then none else valueAt kvs x := by
 unfold valueAt without
 rw [List.find?_filter]
 by_cases h : x = k
 ·subst h
  rw [if_pos rfl, Option.map_eq_none_iff, List.find?_eq_none]
  intro a _
  simp
 rw [if_neg h]
 congr 1
 congr 1
 funext a
 by_cases ha : a.1 = x
 ·simp [ha, h]
 simp [ha]
theorem without_len {kvs : List (Str × Value)} {k : Str} {v : Value} (h : valueAt kvs k = some v) : (without kvs k).length + 1 ≤ kvs.length := by
 unfold valueAt at h
 refine el1_2 (Option.map_eq_some_iff.mp h) ?_; intro kv hf _
 have hm := List.mem_of_find?_eq_some hf
 have hk := List.find?_some hf
 unfold without
 have := List.length_filter_lt_length_iff_exists (l := kvs) (p := fun kv => decide (kv.1 ≠ k)) |>.mpr ⟨kv, hm, by simpa using hk⟩
 lia
theorem FcData.pop {w : World} {ns : List NI} {oN oS oN' : Obj} {S : List Str} {t : SE} {r : List SE} {kv : List (Str × Value)} (h : FcData w ns oN oS S (t :: r)) (hn : ((t :: r).map (·.nm)).Nodup)
  (h1 : ∀ x ∈ t :: r, ∃ j tok, valueAt kv x.nm = some (.int j tok)) (h2 : ∀ x, x ∉ (t :: r).map (·.nm) → valueAt kv x = none) (h3 : kv.length ≤ (t :: r).length)
  (hd : oN'.IsDictOf (PySem.strKind rw_nq0317_01.prog w) (without kv t.nm)) : FcData w ns oN' oS S r := by
 rw [List.map_cons, List.nodup_cons] at hn
 refine ⟨h.set, h.nodup, h.named, ⟨_, hd, fun x hx => ?_, fun x hx => ?_, ?_⟩, fun x hx => h.list x (.tail _ hx)⟩
 ·rw [valueAt_without, if_neg (fun e => hn.1 (mm2 ⟨x, hx, e⟩))]
  exact h1 x (.tail _ hx)
 ·rw [valueAt_without]
  split
  ·rfl
  rename_i hne
  exact h2 x (fun hm => by
   rcases mc1 hm with e | hm
   ·exact hne e
   exact hx hm)
 refine el2_1 (h1 t (.head _)) ?_; intro j tok hj
 have := without_len hj
 rw [List.length_cons] at h3
 lia
theorem strVals_get {l : List (Str × Tok)} {i : Nat} {v : Value} (h : (strVals l)[i]? = some v) : ∃ b tb, v = .str b tb ∧ (l.map (·.1))[i]? = some b := by
 unfold strVals at h
 rw [List.getElem?_toArray, List.getElem?_map] at h
 refine el1_2 (Option.map_eq_some_iff.mp h) ?_; intro p hp e92; subst e92
 exact ⟨p.1, p.2, rfl, by rw [List.getElem?_map, hp]; rfl⟩
theorem strVals_none {l : List (Str × Tok)} {i : Nat} (h : (strVals l)[i]? = none) : (l.map (·.1))[i]? = none := by
 unfold strVals at h
 rw [List.getElem?_toArray, List.getElem?_map] at h
 rw [List.getElem?_map, Option.map_eq_none_iff.mp h]
 rfl
theorem ite_f {P Q : Prop} (h : Q) : if false = true then P else Q := by simpa using h
theorem ite_t {P Q : Prop} (h : P) : if true = true then P else Q := by simpa using h
theorem FcData.drawn {w : World} {ns : List NI} {oN oS : Obj} {S : List Str} {t : SE} {r : List SE} (h : FcData w ns oN oS S (t :: r)) : FcData w ns oN oS S ({ t with p := t.p + 1 } :: r) := by
 refine ⟨h.set, h.nodup, h.named, ?_, ?_⟩
 ·refine el1_4 (h.dict) ?_; intro kv k1 k2 k3 k4
  refine ⟨kv, k1, fun x hx => ?_, k3, k4⟩
  refine asp hx ?_ fun hx => ?_
  ·exact k2 t (.head _)
  exact k2 x (.tail _ hx)
 intro x hx
 refine asp hx ?_ fun hx => ?_
 ·exact h.list t (.head _)
 exact h.list x (.tail _ hx)
theorem drawn_led {nd se ik sk : Addr} {oN oS : Obj} {e1 e2 : Nat} {t : SE} {r : List SE} {R : List (Addr × Obj)} : fcLed nd se ik sk oN oS e1 e2 ({ t with p := t.p + 1 } :: r) R = fcLed2 nd se ik sk oN oS (W.listOf (bmVals (t :: r)).toArray e2) (W.listOf (skVals (t :: r)).toArray e1) ({ t with p := t.p + 1 } :: r) R := by
 have h1 : bmVals ({ t with p := t.p + 1 } :: r) = bmVals (t :: r) := by rw [bmVals_cons, bmVals_cons]
 have h2 : skVals ({ t with p := t.p + 1 } :: r) = skVals (t :: r) := by rw [skVals_cons, skVals_cons]
 unfold fcLed
 rw [h1, h2]
theorem stored_app {kv : List (Str × Value)} {k : Str} {v : Value} (h : valueAt kv k = none) : stored kv k v = kv ++ [(k, v)] := by
 unfold stored
 rw [if_neg]
 unfold valueAt at h
 rw [Option.map_eq_none_iff, List.find?_eq_none] at h
 intro ha
 refine el1_2 (List.any_eq_true.mp ha) ?_; intro a hm hk
 exact h a hm hk
theorem valueAt_app {kv : List (Str × Value)} {k x : Str} {v : Value} (h : valueAt kv k = none) : valueAt (kv ++ [(k, v)]) x = if x = k then some v else valueAt kv x := by
 unfold valueAt at h ⊢
 rw [List.find?_append]
 rw [Option.map_eq_none_iff] at h
 by_cases e : x = k
 ·subst e
  rw [h, if_pos rfl]
  simp
 rw [if_neg e]
 have : List.find? (fun a : Str × Value => decide (a.1 = x)) [(k, v)] = none := by
  rw [List.find?_eq_none]
  intro a ha
  rw [ms1 ha]
  simpa using fun q : k = x => e q.symm
 rw [this, Option.or_none]
theorem FcData.push {w : World} {ns : List NI} {oN oS oN' oS' : Obj} {S : List Str} {st : List SE} {t : SE} {kv : List (Str × Value)} {j : Int} {tok : Tok} (h : FcData w ns oN oS S st) (hn : t.nm ∉ S) (hm : t.nm ∈ ns.map (·.nm)) (hst : t.nm ∉ st.map (·.nm))
  (h1 : ∀ x ∈ st, ∃ j tok, valueAt kv x.nm = some (.int j tok)) (h2 : ∀ x, x ∉ st.map (·.nm) → valueAt kv x = none) (h3 : kv.length ≤ st.length)
  (hd : oN'.IsDictOf (PySem.strKind rw_nq0317_01.prog w) (stored kv t.nm (.int j tok)))
  (hs : oS'.SetObjOf (PySem.strKind rw_nq0317_01.prog w) (fun k' => decide (k' ∈ S) || decide (k' = t.nm)) (if decide (t.nm ∈ S) = true then S.length else S.length + 1))
  (hl : ∃ e ∈ ns, e.nm = t.nm ∧ e.sl = t.sl) : FcData w ns oN' oS' (t.nm :: S) (t :: st) := by
 have hv := h2 _ hst
 rw [stored_app hv] at hd
 rw [set_conv, decide_eq_false hn, if_neg Bool.false_ne_true] at hs
 refine ⟨hs, List.nodup_cons.mpr ⟨hn, h.nodup⟩, fc1 ⟨hm, h.named⟩, ⟨_, hd, fun x hx => ?_, fun x hx => ?_, ?_⟩, fc1 ⟨hl, h.list⟩⟩
 ·rw [valueAt_app hv]
  split
  ·exact ⟨_, _, rfl⟩
  rename_i hne
  rcases mc1 hx with rfl | hx
  ·exact absurd rfl hne
  exact h1 x hx
 ·rw [valueAt_app hv]
  rw [List.map_cons, List.mem_cons, not_or] at hx
  rw [if_neg hx.1]
  exact h2 x hx.2
 rw [List.length_append, List.length_cons]
 exact Nat.succ_le_succ h3
theorem setAt_cons_ne {a : Addr} {o' : Obj} {x : Addr × Obj} {l l' : List (Addr × Obj)} (hx : x.1 ≠ a) (h : ∀ p ∈ l', p ∈ setAt a o' l) : ∀ p ∈ x :: l', p ∈ setAt a o' (x :: l) := by
 intro p hp
 refine mst hp ?_ fun hp => ?_
 ·exact msN (.head _) hx
 refine el1_2 (mm1 (h p hp)) ?_; intro q hq e
 exact mm2 ⟨q, .tail _ hq, e⟩
theorem fcOwn_off {nd se ik sk : Addr} {oN oS : Obj} {e1 e2 : Nat} {st : List SE} {R : List (Addr × Obj)} {q : Addr} (hq : ∀ p ∈ fcLed nd se ik sk oN oS e1 e2 st R, p.1 ≠ q) : q ∉ fcOwn nd se ik sk st := by
 intro hm
 unfold fcOwn at hm
 rcases mc1 hm with e | hm
 ·exact hq (nd, oN) (.head _) e.symm
 rcases mc1 hm with e | hm
 ·exact hq (se, oS) mH1 e.symm
 rcases mc1 hm with e | hm
 ·exact hq (ik, _) mH2 e.symm
 rcases mc1 hm with e | hm
 ·exact hq (sk, _) mH3 e.symm
 rw [← stObjs_keys] at hm
 refine el1_2 (mm1 hm) ?_; intro p hp e92; subst e92
 exact hq p (mT4 (maL _ hp)) rfl
theorem push_led {nd se ik sk : Addr} {oN oS : Obj} {e1 e2 : Nat} {st : List SE} {R : List (Addr × Obj)} {nx : Str} {tk : Tok} {it bm sl : Addr} : ∀ p ∈ fcLed nd se ik sk oN oS (e1 + 1) (e2 + 1) (⟨nx, tk, it, bm, 0, sl⟩ :: st) R, p ∈ (bm, mwObj "list_iterator.__next__" (.ref it)) :: (it, liObj sl 0) :: fcLed2 nd se ik sk oN oS (W.listOf ((bmVals st).toArray.push (.ref bm)) (e2 + 1)) (W.listOf ((skVals st).toArray.push (.str nx tk)) (e1 + 1)) st R := by
 intro p hp
 unfold fcLed at hp
 rw [bmVals_cons, skVals_cons, ← List.push_toArray, ← List.push_toArray] at hp
 refine mst hp ?_ fun hp => ?_
 ·exact mH2
 refine mst hp ?_ fun hp => ?_
 ·exact mH3
 refine mst hp ?_ fun hp => ?_
 ·exact mH4
 refine mst hp ?_ fun hp => ?_
 ·exact mH5
 have hp' : p ∈ (it, liObj sl 0) :: (bm, mwObj "list_iterator.__next__" (.ref it)) :: (stObjs st ++ R) := hp
 first | refine mst hp' ?_ fun hp => ?_ | rcases mc1 hp' with rfl | hp
 ·exact mH1
 refine mst hp ?_ fun hp => ?_
 ·exact .head _
 exact mT6 hp
noncomputable abbrev FM (xa n2 sk ik se nd : Addr) (nv : Option Value) : Str → Option Value := fun y => if y = Str.ofString "node" then nv else if y = Str.ofString "node2stacki" then some (.ref nd) else if y = Str.ofString "seen" then some (.ref se) else if y = Str.ofString "itstack" then some (.ref ik) else if y = Str.ofString "stack" then some (.ref sk) else if y = Str.ofString "n2i" then some (.ref n2) else if y = Str.ofString "self" then some (.ref xa) else none
theorem FM_eq (xa n2 sk ik se nd : Addr) : (fun y => if y = Str.ofString "node2stacki" then some (Value.ref nd) else if y = Str.ofString "seen" then some (Value.ref se) else if y = Str.ofString "itstack" then some (Value.ref ik) else if y = Str.ofString "stack" then some (Value.ref sk) else if y = Str.ofString "n2i" then some (Value.ref n2) else List.lookup y [(Str.ofString "self", Value.ref xa)].reverse) = FM xa n2 sk ik se nd none := by
 funext y
 show _ = if y = Str.ofString "node" then none else _
 by_cases h : y = Str.ofString "node"
 ·subst h; rfl
 rw [if_neg h]
 by_cases h2 : y = Str.ofString "self"
 ·subst h2; rfl
 have e : List.lookup y [(Str.ofString "self", Value.ref xa)].reverse = none := by
  show (match y == Str.ofString "self" with | true => _ | false => none) = none
  have : (y == Str.ofString "self") = false := by simpa using h2
  rw [this]
 rw [e]
 simp only [if_neg h2]
noncomputable abbrev tsR (w : World) (t1 t2 t3 t4 t5 t6 : Tok) (n2 : Addr) (rd : Value) (po nf : Int) : Obj := dictOf [ent w "_node2info" t1 (.ref n2), ent w "_ready_nodes" t2 rd, ent w "_npassedout" t3 (.int po t4), ent w "_nfinished" t5 (.int nf t6)] 4
theorem FM_over (xa n2 sk ik se nd : Addr) (nv v : Option Value) : (fun y => if y = Str.ofString "node" then v else FM xa n2 sk ik se nd nv y) = FM xa n2 sk ik se nd v := by
 funext y
 show (if y = Str.ofString "node" then v else if y = Str.ofString "node" then nv else _) = if y = Str.ofString "node" then v else _
 by_cases h : y = Str.ofString "node"
 ·rw [if_pos h, if_pos h]
 rw [if_neg h, if_neg h, if_neg h]
theorem cut_first {M : Model} {A : Around} {E : Value → Shared → Prop} {s : Shared} {env : Env} {st : Stmt} {rest : List Stmt} {Q : Flow → Shared → Prop} (Mid : Shared → Prop) (h1 : wpAny M A (exec st env) (fun f s' => match f with | .next => Mid s' | f => Q f s') E s) (h2 : ∀ s', Mid s' → wpAny M A (execs rest env) Q E s') :
  wpAny M A (execs (st :: rest) env) Q E s := wpAny_execs_cons (wpAny_mono h1 (fun f s' h => by cases f with
  | next => exact h2 s' h
  | _ => exact h) fun _ _ e => e)
theorem keeps_MW {M : Model} {q : Addr} {id : String} {self : Value} (h : Heap) (X : h.get? q = some (mwObj id self)) : ∃ k, (k = Keeper.frame ∨ k = Keeper.machine ∨ k = Keeper.boundFrame) ∧ Looks M h (keeperOf (.ref q)) k :=
 ⟨.machine, .inr (.inl rfl), (Looks.ld (part := none) X).andThen .now⟩
theorem callWith_MW {M : Model} {A : Around} {E : Value → Shared → Prop} {s : Shared} {Q : Value → Shared → Prop} {env : Env} {q : Addr} {id : String} {self : Value} {pos : Pos} (ho : s.heap.get? q = some (mwObj id self)) (h : wpAny M A (call (.ref q) []) Q E s) :
  wpAny M A (callWith pos (.ref q) [] (backTo pos (starEach [] env)) []) Q E s := callWith_of rfl keeps_MW (evalArgs_nil3 ⟨ho, h⟩)
theorem isExc_stop : isSubtype (.type "StopIteration") (.type "BaseException") = pure true := by rw [isSubtype_type]; kernel_rfl
theorem notTuple_stop : isSubtype (.type ((Manifest.find? "StopIteration").elim "type" fun y => y.metatype)) (.type "tuple") = pure false := by rw [isSubtype_type]; kernel_rfl
theorem fr_but {g h h₁ : Heap} {L I : Addr} {m : Str → Option Value} (F : Fr g L h m) (hL : L ≠ I) (hI : g.get? I = none) (hk : ∀ b o, b ∉ [I] → h.get? b = some o → h₁.get? b = some o) : Fr g L h₁ m :=
 ⟨F.ns.at' fun o e => hk _ o (by simpa using hL) e, fun b o e => hk b o (fun hm => by rw [ms1 hm, hI] at e; cases e) (F.keep b o e), F.above⟩
theorem news_but {g h h₁ : Heap} {L I : Addr} {news : List (Addr × Obj)} (N : News g L h news) (hn : ∀ p ∈ news, p.1 ≠ I) (hk : ∀ b o, b ∉ [I] → h.get? b = some o → h₁.get? b = some o) : News g L h₁ news := fun p hp =>
 ⟨hk _ _ (by simpa using hn p hp) (N p hp).1, (N p hp).2⟩
theorem is_str {prog : Program} {w : World} {k : Str} {v : Value} (h : (PySem.strKind prog w).is k v = true) : ∃ t, v = .str k t := Value.isStrOf_shape h
inductive FcI (w : World) (p : Program) (lo : List Str) (mean : ExcName → Option Value) (mg mb : Str → Option Value) (A : Around) (base g : Heap) (out : List Env) (L xa n2 sk ik se nd : Addr) (s : Shared) (ns : List NI) (I epD : Nat) (R : List (Addr × Obj)) (i : Nat) (s₁ : Shared) : Prop
 | mk (nv : Option Value) (S : List Str) (oN oS oI : Obj) (e1 e2 : Nat) (h1 : FcE w p lo mean mg mb A base g out L (FM xa n2 sk ik se nd nv) (fcLed nd se ik sk oN oS e1 e2 [] ((I, oI) :: R)) s s₁)
   (h2 : oI.cls = .type "dict_keyiterator" ∧ oI.data = .fields #[.ref n2, .int i 0, .int (kvsN ns).length 0, .int epD 0]) (h3 : FcData w ns oN oS S []) (h4 : ∀ v ∈ S, Acc (SuccR ns) v) (h5 : ∀ j, j < i → ∀ e, ns[j]? = some e → e.nm ∈ S)
inductive FcJ (w : World) (p : Program) (lo : List Str) (mean : ExcName → Option Value) (mg mb : Str → Option Value) (A : Around) (base g : Heap) (out : List Env) (L xa n2 sk ik se nd : Addr) (s : Shared) (ns : List NI) (R : List (Addr × Obj)) (X : Str → List Str → List SE → Prop) (s₁ : Shared) : Prop
 | mk (node : Str) (tk : Tok) (S : List Str) (st : List SE) (oN oS : Obj) (e1 e2 : Nat) (h1 : FcE w p lo mean mg mb A base g out L (FM xa n2 sk ik se nd (some (.str node tk))) (fcLed nd se ik sk oN oS e1 e2 st R) s s₁)
   (h2 : FcSep nd se ik sk st R) (h3 : FcData w ns oN oS S st) (h4 : SeenOk ns S st) (h5 : X node S st)
inductive XJ (ns : List NI) (S₀ : List Str) (k0 : Str) (μ : Nat) (node : Str) (S : List Str) (st : List SE) : Prop
 | mk (h1 : Chain ns st node) (h2 : node ∈ ns.map (·.nm)) (h3 : dMeas ns S st = μ) (h4 : ∀ v ∈ S₀, v ∈ S) (h5 : k0 ∈ S ∨ node = k0)
inductive XM (ns : List NI) (S₀ : List Str) (k0 : Str) (μ : Nat) (c : List SE → Prop) (S : List Str) (st : List SE) : Prop
 | mk (h1 : Done ns st) (h2 : dMeas ns S st ≤ μ) (h3 : ∀ v ∈ S₀, v ∈ S) (h4 : k0 ∈ S) (h5 : c st)
theorem fc_c (w : World) (p : Program) (lo : List Str) (mean : ExcName → Option Value) (mg mb : Str → Option Value)
  (gd : Option (List Code)) (cn : Str) (cs : Scope) (a : Addr) (ccd : Value) (outer : List Env) (A₀ : Around) (base h₀ g₀ : Heap) (L : Addr) (m : Str → Option Value) (rest : List (Addr × Obj)) (s : Shared)
  (xa d n2 : Addr) (o2 : Obj) (ns : List NI) (t1 t2 t3 t4 t5 t6 : Tok) (rd : Value) (po nf : Int) (Q E : Value → Shared → Prop)
  (B : Below A₀ base outer h₀) (F : Fr h₀ L s.heap m) (X : (Mine.K w.params).In h₀) (N : News h₀ L s.heap ((xa, instObj 362 d) :: (d, tsR w t1 t2 t3 t4 t5 t6 n2 rd po nf) :: (n2, o2) :: (ledN ns ++ rest))) (T : Top p lo mean mg mb h₀) (hk : cs.kind = .function)
  (XB : (Mine.K w.params).In base) (TB : Top p lo mean mg mb base) (D : KtsDicts (outer.filterMap (·.frame)) h₀) (T0 : KtsTurn (outer.filterMap (·.frame)) g₀ h₀)
  (hd : o2.IsDictOf (PySem.strKind rw_nq0317_01.prog w) (kvsN ns)) (lo2 : (n2 == sysModules) = false) (hnn : (ns.map (·.nm)).Nodup) (hl : ns.length ≤ 100)
  (hcl : ∀ e ∈ ns, ∀ q ∈ e.sc, q.1 ∈ ns.map (·.nm)) (hln : ∀ e ∈ ns, e.nm.length ≤ 64)
  (hret : ∀ v h' tk' h₀', (v = .none ∧ ∀ e ∈ ns, Acc (SuccR ns) e.nm) → KtsTurn (outer.filterMap (·.frame)) g₀ h₀' → Fr h₀' L h' m → News h₀' L h' ((xa, instObj 362 d) :: (d, tsR w t1 t2 t3 t4 t5 t6 n2 rd po nf) :: (n2, o2) :: (ledN ns ++ rest)) → Below A₀ base outer h₀' → (Mine.K w.params).In h₀' → Top p lo mean mg mb h₀' → KtsDicts (outer.filterMap (·.frame)) h₀' → Q v { s with heap := h', toks := tk' })
  (hcyc : ∀ l its ep h' tk' h₀', (∃ e ∈ ns, ¬ Acc (SuccR ns) e.nm) → its.size ≠ 0 → its.size ≤ 200 → KtsTurn (outer.filterMap (·.frame)) g₀ h₀' → Fr h₀' L h' m → News h₀' L h' ((l, W.listOf its ep) :: (xa, instObj 362 d) :: (d, tsR w t1 t2 t3 t4 t5 t6 n2 rd po nf) :: (n2, o2) :: (ledN ns ++ rest)) → Below A₀ base outer h₀' → (Mine.K w.params).In h₀' → Top p lo mean mg mb h₀' → KtsDicts (outer.filterMap (·.frame)) h₀' → Q (.ref l) { s with heap := h', toks := tk' }) :
  wpAny (model (rw_nq0317_01.prog) w) (ktrTop 355 550 gd cn cs L a ccd [] outer) (call (.ref 352) [.ref xa]) Q E s := by
 k_with_none
 k_with "k_all" => first | assumption | (intro p9 hp9; (repeat (rename _ ∧ _ => hc9; obtain ⟨_, _⟩ := hc9)); have h9 := allLt_mem2 (by assumption) _ hp9; exact nlt (Nat.lt_of_lt_of_le h9 (by omega)))
 k_with "execs cons" => (k_here; (fail_if_success (rename Stop _ => h9)); first | k_made | ((fail_if_success (fail_if_success k_gentoks)); refine (let tk : Nat := _; (?_ : wpAny _ _ _ _ _ ⟨_, _, _, tk, _⟩))) | ((with_reducible refine wpAny_execs_cons ?_); (try dsimp only); refine (let qv : Flow → Shared → Prop := _; (?_ : wpAny _ _ _ qv _ _))))
 k_with "execs nil" => (k_here; (fail_if_success (fail_if_success k_gentoks)); refine (let tk : Nat := _; (?_ : wpAny _ _ _ _ _ ⟨_, _, _, tk, _⟩)))
 k_with "exec For Name Name cons nil" => refine stopped ?_
 k_with "exec For Name Name" => refine stopped ?_
 k_with "exec For Name" => refine stopped ?_
 k_with "exec While" => refine stopped ?_
 k_with "compareOp In str ref" => refine stopped ?_
 k_with "compareOp In" => refine stopped ?_
 k_with "getMethod ref" => refine stopped ?_
 k_with "call builtin:set.add" => refine stopped ?_
 k_with "call builtin:list.append" => refine stopped ?_
 k_with "call builtin:list.pop" => refine stopped ?_
 k_with "subscriptTail" => refine stopped ?_
 k_with "subscriptTail Name Slice ref ref" => refine stopped ?_
 k_with "subscriptTail Name UnaryOp ref int" => refine stopped ?_
 k_with "call builtin:iter" => refine stopped ?_
 k_with "call builtin:len" => refine stopped ?_
 k_with "setItem ref str" => refine stopped ?_
 k_with "delItem" => refine stopped ?_
 k_with "truthy ref" => refine stopped ?_
 k_with "exec Try" => refine stopped ?_
 k_with "callWith ref" => refine stopped ?_
 k_with "call ref" => refine stopped ?_
 k_with "WEnd" => refine stopped ?_
 k_with "FEnd" => refine stopped ?_
 k_with "getAttr ref" => ((first | with_reducible refine (?_ : wpAny _ _ (getAttr (Value.ref (NI.a _)) _ _) _ _ _) | with_reducible refine (?_ : wpAny _ _ (getAttr (Value.ref _) (Str.ofString "__next__") _) _ _ _)); refine stopped ?_)
 k_with "binaryOp Add ref ref" => refine stopped ?_
 k_with "pyIter ref" => refine stopped ?_
 refine gen_ (ledN ns ++ rest) ?_; intro tl htl
 rw [← htl] at N
 have XB' := XB
 have TB' := TB
 k_with_none
 k_with "k_all" => first | assumption | (intro p9 hp9; (repeat (rename _ ∧ _ => hc9; obtain ⟨_, _⟩ := hc9)); have h9 := allLt_mem2 (by assumption) _ hp9; exact nlt (Nat.lt_of_lt_of_le h9 (by omega)))
 k_with "execs cons" => (k_here; (fail_if_success (rename Stop _ => h9)); first | k_made | ((fail_if_success (fail_if_success k_gentoks)); refine (let tk : Nat := _; (?_ : wpAny _ _ _ _ _ ⟨_, _, _, tk, _⟩))) | ((with_reducible refine wpAny_execs_cons ?_); (try dsimp only); refine (let qv : Flow → Shared → Prop := _; (?_ : wpAny _ _ _ qv _ _))))
 k_with "execs nil" => (k_here; (fail_if_success (fail_if_success k_gentoks)); refine (let tk : Nat := _; (?_ : wpAny _ _ _ _ _ ⟨_, _, _, tk, _⟩)))
 k_with "exec For Name Name cons nil" => refine stopped ?_
 k_with "exec For Name Name" => refine stopped ?_
 k_with "exec For Name" => refine stopped ?_
 k_with "exec While" => refine stopped ?_
 k_with "compareOp In str ref" => refine stopped ?_
 k_with "compareOp In" => refine stopped ?_
 k_with "getMethod ref" => refine stopped ?_
 k_with "call builtin:set.add" => refine stopped ?_
 k_with "call builtin:list.append" => refine stopped ?_
 k_with "call builtin:list.pop" => refine stopped ?_
 k_with "subscriptTail" => refine stopped ?_
 k_with "subscriptTail Name Slice ref ref" => refine stopped ?_
 k_with "subscriptTail Name UnaryOp ref int" => refine stopped ?_
 k_with "call builtin:iter" => refine stopped ?_
 k_with "call builtin:len" => refine stopped ?_
 k_with "setItem ref str" => refine stopped ?_
 k_with "delItem" => refine stopped ?_
 k_with "truthy ref" => refine stopped ?_
 k_with "exec Try" => refine stopped ?_
 k_with "callWith ref" => refine stopped ?_
 k_with "call ref" => refine stopped ?_
 k_with "WEnd" => refine stopped ?_
 k_with "FEnd" => refine stopped ?_
 k_with "getAttr ref" => ((first | with_reducible refine (?_ : wpAny _ _ (getAttr (Value.ref (NI.a _)) _ _) _ _ _) | with_reducible refine (?_ : wpAny _ _ (getAttr (Value.ref _) (Str.ofString "__next__") _) _ _ _)); refine stopped ?_)
 k_with "binaryOp Add ref ref" => refine stopped ?_
 k_with "pyIter ref" => refine stopped ?_
 revert X
 k_fill
 intro X
 refine wpAny_call ?_
 k_dflt (refine' code_defS (g₀ := g₀) (binds := [(Str.ofString "self", .ref xa)]) ?k1 ?k2 ?k3 ?k4 ?k5 ?XB ?TB ?D ?T0 ?kA ?k6 ?k7 ?k8 ?k9 ?kB ?_ ?cK ?c2 ?c3 ?c4 ?c5; (case kA => exact rfl); (case k2 => k_asm); (case k1 => k_asm); (case XB => assumption); (case TB => assumption); (case D => assumption); (case T0 => assumption); (case k3 => k_asm); (case k4 => k_asm); (case k5 => k_asm); (case k6 => k_is); (case k7 => k_is); (case k8 => ktr_room); (case k9 => first | exact BindsTo.of_eq rfl | exact binds_K (by k_in) rfl (by k_is) rfl rfl rfl); (case kB => exact locs rfl); (case cK => assumption); (case c2 => exact rfl); (case c3 => exact rfl); (case c4 => exact rfl); (case c5 => decide); k_whole; intro g' L' h' FG' F' N' B' X' T' D'; (try dsimp only); (try k_fold))
 k_steps
 refine ⟨?_⟩
 rename_i sk _ l1s _ _ _ ik _ l1i _ _ _ se _ ledS hsI hsS l1e _ _ _ nd _ oN0 loN hdN _ _ _ l1n _ F1 N1
 rw [FM_eq] at F1
 refine for_one ?_ (by intro _; with_unfolding_all rfl)
 k_steps
 refine ⟨?_⟩
 refine el2_1 (id hd) ?_; intro esD epD hDD
 have hDat : ∀ h1 : Heap, h1.get? n2 = some o2 → h1.DictAt (PySem.strKind rw_nq0317_01.prog w) n2 (kvsN ns) epD := fun h1 e => ⟨o2, esD, e, hDD⟩
 refine gen_ ((xa, instObj 362 d) :: (d, tsR w t1 t2 t3 t4 t5 t6 n2 rd po nf) :: (n2, o2) :: tl) ?_; intro R hR
 have m2 : (n2, o2) ∈ R := by rw [hR]; exact mH2
 refine wpAny_pyIter_dict lo2 (hDat _ (N1 _ mH6).1) ?_
 have hlt : ∀ p ∈ (nd, oN0) :: (se, (⟨.type "set", none, .set #[] 0 (SetTable.fresh 0 0 ledS), #[]⟩ : Obj)) :: (ik, W.listOf #[] 0) :: (sk, W.listOf #[] 0) :: (xa, instObj 362 d) :: (d, tsR w t1 t2 t3 t4 t5 t6 n2 rd po nf) :: (n2, o2) :: tl, _ := fun p hp => Heap.lt_size (N1 p hp).1
 have F2 := F1.push { cls := .type "dict_keyiterator", data := .fields #[.ref n2, .int 0 0, .int (kvsN ns).length 0, .int epD 0] }
 have N2 := N1.push F1 { cls := .type "dict_keyiterator", data := .fields #[.ref n2, .int 0 0, .int (kvsN ns).length 0, .int epD 0] }
 have hIL : L' < _ := F1.ns.lt
 have hIg := next_is_new F1
 clear F1 N1
 dsimp only at F2 N2 hlt hIL hIg ⊢
 generalize hI : Array.size _ = I at F2 N2 hlt hIL hIg ⊢
 have a1 : sk < ik := l1i.1
 have a2 : ik < se ∧ sk < se := ⟨l1e.1, l1e.2.1⟩
 have a3 : se < nd ∧ ik < nd ∧ sk < nd := ⟨l1n.1, l1n.2.1, l1n.2.2.1⟩
 have hskR : ∀ p ∈ R, p.1 < sk := by
  rw [hR]
  intro p hp
  refine asp hp ?_ fun hp => ?_
  ·exact l1s.1
  refine asp hp ?_ fun hp => ?_
  ·exact l1s.2.1
  refine asp hp ?_ fun hp => ?_
  ·exact l1s.2.2.1
  exact allLt_mem2 l1s.2.2.2 p hp
 have hndI : nd < I := hlt _ (.head _)
 have hsep : ∀ oI, FcSep nd se ik sk [] ((I, oI) :: R) := by
  intro oI
  constructor
  ·show [nd, se, ik, sk].Nodup
   simp only [List.nodup_cons, List.mem_cons, List.not_mem_nil, or_false, not_or, List.nodup_nil, and_true, not_false_eq_true]
   exact ⟨⟨ngt a3.1, ngt a3.2.1, ngt a3.2.2⟩, ⟨ngt a2.1, ngt a2.2⟩, ngt a1⟩
  intro p hp hm
  have hm' : p.1 ∈ [nd, se, ik, sk] := hm
  have h1 : sk ≤ p.1 ∧ p.1 ≤ nd := by
   rcases mc1 hm' with e | hm'
   ·rw [e]; exact ⟨Nat.le_of_lt a3.2.2, Nat.le_refl _⟩
   rcases mc1 hm' with e | hm'
   ·rw [e]; exact ⟨Nat.le_of_lt a2.2, Nat.le_of_lt a3.1⟩
   rcases mc1 hm' with e | hm'
   ·rw [e]; exact ⟨Nat.le_of_lt a1, Nat.le_of_lt a3.2.1⟩
   rw [ms1 hm']; exact ⟨Nat.le_refl _, Nat.le_of_lt a3.2.2⟩
  rcases mc1 hp with rfl | hp
  ·exact absurd (Nat.lt_of_lt_of_le hndI h1.2) (Nat.lt_irrefl _)
  exact absurd (Nat.lt_of_lt_of_le (hskR p hp) h1.1) (Nat.lt_irrefl _)
 have hLI : L' ≠ I := nlt hIL
 have hn2I : n2 ≠ I := nlt (hlt (n2, o2) mH6)
 refine (let JI : Nat → Shared → Prop := FcI w p lo mean mg mb (ktrTop 355 550 gd cn cs L a ccd [] outer) base g' (envX cn cs L a ccd [] :: outer) L' xa n2 sk ik se nd s ns I epD R; ?_)
 refine floop_w (Walks.dictKeys (knd := PySem.strKind rw_nq0317_01.prog w) rfl I n2 hn2I (kvsN ns) epD) (by passes_own)
  JI ?hst ?h0 ?turn ?done
 case hst =>
  rintro i s₁ ⟨nv, S, oN, oS, oI, e1, e2, ⟨g, h, tk, rfl, _, F, N, _⟩, ⟨c1, c2⟩, _⟩
  exact ⟨⟨oI, (N _ mH4).1, c1, c2⟩, hDat _ (N _ (mT5 m2)).1⟩
 case h0 =>
  have hsub : ∀ q ∈ fcLed nd se ik sk oN0 (⟨.type "set", none, .set #[] 0 (SetTable.fresh 0 0 ledS), #[]⟩ : Obj) 0 0 [] ((I, (⟨.type "dict_keyiterator", none, .fields #[.ref n2, .int 0 0, .int (kvsN ns).length 0, .int epD 0], #[]⟩ : Obj)) :: R), q ∈ (I, (⟨.type "dict_keyiterator", none, .fields #[.ref n2, .int 0 0, .int (kvsN ns).length 0, .int epD 0], #[]⟩ : Obj)) :: (nd, oN0) :: (se, (⟨.type "set", none, .set #[] 0 (SetTable.fresh 0 0 ledS), #[]⟩ : Obj)) :: (ik, W.listOf #[] 0) :: (sk, W.listOf #[] 0) :: (xa, instObj 362 d) :: (d, tsR w t1 t2 t3 t4 t5 t6 n2 rd po nf) :: (n2, o2) :: tl := by
   intro q hq
   rw [hR] at hq
   refine mst hq ?_ fun hq => ?_
   ·exact mH1
   refine mst hq ?_ fun hq => ?_
   ·exact mH2
   refine mst hq ?_ fun hq => ?_
   ·exact mH3
   refine mst hq ?_ fun hq => ?_
   ·exact mH4
   have hq' : q ∈ (I, (⟨.type "dict_keyiterator", none, .fields #[.ref n2, .int 0 0, .int (kvsN ns).length 0, .int epD 0], #[]⟩ : Obj)) :: ((xa, instObj 362 d) :: (d, tsR w t1 t2 t3 t4 t5 t6 n2 rd po nf) :: (n2, o2) :: tl) := hq
   first | refine mst hq' ?_ fun hq => ?_ | rcases mc1 hq' with rfl | hq
   ·exact .head _
   exact mT5 hq
  refine ⟨none, [], oN0, _, _, 0, 0, ⟨g', _, _, rfl, KtsTurn.refl, F2, nsub N2 hsub, B', X', T', D'⟩, ⟨rfl, rfl⟩, ⟨?_, List.nodup_nil, fn0 _, ⟨[], hdN, fn0 _, fun _ _ => rfl, Nat.le_refl _⟩, fn0 _⟩, fn0 _, fun j hj => absurd hj (Nat.not_lt_zero _)⟩
  have e : (fun k : Str => decide (k ∈ ([] : List Str))) = fun _ => false := by funext k; simp
  rw [e]
  exact hsS
 case turn =>
  clear F2 N2
  rintro i v s₁ h₁ tk₁ hi ⟨k0, x0, hk0, hv⟩ ⟨nv, S₀, oN, oS, oI, e1, e2, ⟨g, h, tk, rfl, T1, F, N, B1, X1, P1, D1⟩, ⟨c1, c2⟩, hdat, hacc, hall⟩ ⟨⟨oI', hI1, hI2, hI3⟩, hD2⟩ hkeep
  refine el1_1 (is_str hv) ?_; intro tv e91; subst e91
  have hIg2 : g.get? I = none := T1.none_ _ hIg
  have F3 := fr_but F hLI hIg2 hkeep
  have N3 : News g L' h₁ (fcLed nd se ik sk oN oS e1 e2 [] ((I, oI') :: R)) := by
   have hne : ∀ p ∈ (nd, oN) :: (se, oS) :: (ik, W.listOf (bmVals []).toArray e2) :: (sk, W.listOf (skVals []).toArray e1) :: R, p.1 ≠ I := by
    refine fc1 ⟨nlt hndI, fc1 ⟨nlt (Nat.lt_trans a3.1 hndI), fc1 ⟨nlt (Nat.lt_trans a3.2.1 hndI), fc1 ⟨nlt (Nat.lt_trans a3.2.2 hndI), fun p hp => nlt (Nat.lt_trans (hskR p hp) (Nat.lt_trans a3.2.2 hndI))⟩⟩⟩⟩
   have N4 := news_but (nsub N (news' := (nd, oN) :: (se, oS) :: (ik, W.listOf (bmVals []).toArray e2) :: (sk, W.listOf (skVals []).toArray e1) :: R) (sbc (.head _) (sbc mH1 (sbc mH2 (sbc mH3 (fun q hq => mT5 hq)))))) hne hkeep
   intro q hq
   refine asp hq ?_ fun hq => ?_
   ·exact N4 _ (.head _)
   refine asp hq ?_ fun hq => ?_
   ·exact N4 _ mH1
   refine asp hq ?_ fun hq => ?_
   ·exact N4 _ mH2
   refine asp hq ?_ fun hq => ?_
   ·exact N4 _ mH3
   have hq' : q ∈ (I, oI') :: R := hq
   first | refine mst hq' ?_ fun hq => ?_ | rcases mc1 hq' with rfl | hq
   ·exact ⟨hI1, Ne.symm hLI, hIg2⟩
   exact N4 _ (mT4 hq)
  clear F N
  refine (let G9 : Prop := _; (?_ : G9))
  obtain ⟨e0, he0, hek0⟩ : ∃ e0, ns[i]? = some e0 ∧ e0.nm = k0 := by
   unfold kvsN at hk0
   rw [List.getElem?_map] at hk0
   refine el1_2 (Option.map_eq_some_iff.mp hk0) ?_; intro e0 h1 h2
   exact ⟨e0, h1, congrArg Prod.fst h2⟩
  refine (?_ : wpAny _ _ _ _ _ _)
  have hk0n : k0 ∈ ns.map (·.nm) := mm2 ⟨e0, List.mem_of_getElem? he0, hek0⟩
  k_steps
  refine ⟨?_⟩
  rename Fr _ _ _ _ => F4
  rename News _ _ _ _ => N4
  have F5 := F4
  rw [FM_over] at F5
  clear F4
  refine in_set_S N4 mH1 hdat.set (by have := hdat.len; unfold scanBound; lia) (strKind_is _ _ _ _) rfl ?_
  by_cases hS0 : k0 ∈ S₀
  ·rw [decide_eq_true hS0]
   k_steps
   refine ⟨?_⟩
   show JI _ _
   refine ⟨some (.str k0 tv), S₀, oN, oS, oI', e1, e2, ⟨g, _, _, rfl, T1, F5, N4, B1, X1, P1, D1⟩, ⟨hI2, hI3⟩, hdat, hacc, ?_⟩
   intro j hj e he
   by_cases hji : j = i
   ·subst hji
    rw [he0] at he
    injection he with he
    rw [← he, hek0]; exact hS0
   exact hall j (by lia) e he
  rw [decide_eq_false hS0]
  k_steps
  refine ⟨?_⟩
  refine gen_ ((I, oI') :: R) ?_; intro R2 hR2
  have hsep2 : FcSep nd se ik sk [] R2 := hR2 ▸ hsep oI'
  rw [← hR2] at N4
  rename Fr _ _ _ _ => F6
  refine (let JJ : (Str → List Str → List SE → Prop) → Shared → Prop := FcJ w p lo mean mg mb (ktrTop 355 550 gd cn cs L a ccd [] outer) base g' (envX cn cs L a ccd [] :: outer) L' xa n2 sk ik se nd s ns R2; ?_)
  refine (let Qw : Flow → Shared → Prop := _; (?_ : wpAny _ _ _ Qw _ _))
  refine while_w (fun μ => JJ (XJ ns S₀ k0 μ)) (dMeas ns S₀ [])
   ⟨k0, tv, S₀, [], oN, oS, e1, e2, ⟨g, _, _, rfl, T1, F6, N4, B1, X1, P1, D1⟩, hsep2, hdat, ⟨fun v hv => .inr (hacc v hv), fn0 _, List.nodup_nil, fn0 _⟩, trivial, hk0n, rfl, fun _ h => h, .inr rfl⟩ ?wturn (by passes_own)
  clear F6 N4
  rintro μ s₂ ⟨node, tkn, S, st, oN2, oS2, f1, f2, ⟨g2, h2, tk2, rfl, T2, F, N, B2, X2, P2, D2⟩, hsp, hda, hsn, hch, hnm, hμ, hS0S, hk0S⟩
  k_with "execs cons" => (refine stopped ?_)
  have hst9 : Stop True := ⟨trivial⟩
  k_steps
  clear hst9
  refine ⟨?_⟩
  k_with_none
  k_with "k_all" => first | assumption | (intro p9 hp9; (repeat (rename _ ∧ _ => hc9; obtain ⟨_, _⟩ := hc9)); have h9 := allLt_mem2 (by assumption) _ hp9; exact nlt (Nat.lt_of_lt_of_le h9 (by omega)))
  k_with "execs cons" => (k_here; (fail_if_success (rename Stop _ => h9)); first | k_made | ((fail_if_success (fail_if_success k_gentoks)); refine (let tk : Nat := _; (?_ : wpAny _ _ _ _ _ ⟨_, _, _, tk, _⟩))) | ((with_reducible refine wpAny_execs_cons ?_); (try dsimp only); refine (let qv : Flow → Shared → Prop := _; (?_ : wpAny _ _ _ qv _ _))))
  k_with "execs nil" => (k_here; (fail_if_success (fail_if_success k_gentoks)); refine (let tk : Nat := _; (?_ : wpAny _ _ _ _ _ ⟨_, _, _, tk, _⟩)))
  k_with "exec For Name Name cons nil" => refine stopped ?_
  k_with "exec For Name Name" => refine stopped ?_
  k_with "exec For Name" => refine stopped ?_
  k_with "exec While" => refine stopped ?_
  k_with "compareOp In str ref" => refine stopped ?_
  k_with "compareOp In" => refine stopped ?_
  k_with "getMethod ref" => refine stopped ?_
  k_with "call builtin:set.add" => refine stopped ?_
  k_with "call builtin:list.append" => refine stopped ?_
  k_with "call builtin:list.pop" => refine stopped ?_
  k_with "subscriptTail" => refine stopped ?_
  k_with "subscriptTail Name Slice ref ref" => refine stopped ?_
  k_with "subscriptTail Name UnaryOp ref int" => refine stopped ?_
  k_with "call builtin:iter" => refine stopped ?_
  k_with "call builtin:len" => refine stopped ?_
  k_with "setItem ref str" => refine stopped ?_
  k_with "delItem" => refine stopped ?_
  k_with "truthy ref" => refine stopped ?_
  k_with "exec Try" => refine stopped ?_
  k_with "callWith ref" => refine stopped ?_
  k_with "call ref" => refine stopped ?_
  k_with "WEnd" => refine stopped ?_
  k_with "FEnd" => refine stopped ?_
  k_with "getAttr ref" => ((first | with_reducible refine (?_ : wpAny _ _ (getAttr (Value.ref (NI.a _)) _ _) _ _ _) | with_reducible refine (?_ : wpAny _ _ (getAttr (Value.ref _) (Str.ofString "__next__") _) _ _ _)); refine stopped ?_)
  k_with "binaryOp Add ref ref" => refine stopped ?_
  k_with "pyIter ref" => refine stopped ?_
  refine (let MidP : Shared → Prop := JJ fun _ => XM ns S₀ k0 μ (fun _ => True); ?_)
  refine cut_first MidP ?first ?second
  case second =>
   clear F N hda hsn hch hsp hnm hk0S B2 X2 P2 D2 T2
   intro s₃ hm
   refine (let G9 : Prop := _; (?_ : G9))
   obtain ⟨node3, tkn3, S3, st3, oN3, oS3, e13, e23, ⟨g3, h3, tk3, rfl, T3, F, N, B3, X3, P3, D3⟩, hsp, hda, hsn, hdn, hms, hS0S3, hk0S3, _⟩ := hm
   refine (?_ : wpAny _ _ _ _ _ _)
   k_steps
   refine ⟨?_⟩
   refine (let Qi : Flow → Shared → Prop := _; (?_ : wpAny _ _ _ Qi _ _))
   refine while_w (fun m => JJ fun _ => XM ns S₀ k0 μ (fun st => st.length = m)) st3.length
    ⟨node3, tkn3, S3, st3, oN3, oS3, e13, e23, ⟨g3, h3, _, rfl, T3, F, N, B3, X3, P3, D3⟩, hsp, hda, hsn, hdn, hms, hS0S3, hk0S3, rfl⟩ ?iturn (by passes_own)
   clear F N hsp hda hsn hdn hms B3 X3 P3 D3 T3 hS0S3 hk0S3
   rintro m4 s₄ ⟨node4, tkn4, S4, st4, oN4, oS4, e14, e24, ⟨g4, h4, tk4, rfl, T4, F, N, B4, X4, P4, D4⟩, hsp, hda, hsn, hdn, hms, hS0S4, hk0S4, hm4⟩
   have hst4 : st4.length ≤ 100 := by
    have := nodup_len hsn.nodup (fun x hx => by
     refine el1_2 (mm1 hx) ?_; intro t ht e
     exact e ▸ hsn.named t ht)
    simp at this
    lia
   k_steps
   refine ⟨?_⟩
   refine truthy_list_S N mH3 (by unfold skVals; simp; lia) ?_
   cases st4 with
   | nil =>
    refine ite_f ?_
    k_steps
    refine ⟨?_⟩
    dsimp only [WEnd]
    k_steps
    refine ⟨?_⟩
    (try change Qw Flow.next _)
    k_steps
    refine ⟨?_⟩
    show JI _ _
    rw [hR2] at N
    refine ⟨some (.str node4 tkn4), S4, oN4, oS4, oI', e14, e24, ⟨g4, h4, _, rfl, T4, F, N, B4, X4, P4, D4⟩, ⟨hI2, hI3⟩, hda, t6_end hsn, ?_⟩
    intro j hj e he
    by_cases hji : j = i
    ·subst hji
     rw [he0] at he
     injection he with he
     rw [← he, hek0]; exact hk0S4
    exact hS0S4 _ (hall j (by lia) e he)
   | cons t r =>
    have e : (!(skVals (t :: r)).toArray.isEmpty) = true := by rw [skVals_cons]; simp
    rw [e]
    refine ite_t ?_
    k_steps
    refine ⟨?_⟩
    refine wpAny_Try_except ?_
    k_steps
    refine ⟨?_⟩
    have mik : (ik, W.listOf (bmVals (t :: r)).toArray e24) ∈ fcLed nd se ik sk oN4 oS4 e14 e24 (t :: r) R2 := mH2
    have msk : (sk, W.listOf (skVals (t :: r)).toArray e14) ∈ fcLed nd se ik sk oN4 oS4 e14 e24 (t :: r) R2 := mH3
    have mit : (t.it, liObj t.sl (t.p : Int)) ∈ fcLed nd se ik sk oN4 oS4 e14 e24 (t :: r) R2 := mH4
    have mbm : (t.bm, mwObj "list_iterator.__next__" (.ref t.it)) ∈ fcLed nd se ik sk oN4 oS4 e14 e24 (t :: r) R2 := mH5
    refine tail_any (News.isList N mik).typeIs slot_list_getitem.lookup (last_S N mik (by rw [bmVals_cons]; simp) (x := .ref t.bm) (by rw [bmVals_cons]; simp) ?_) (by with_unfolding_all rfl)
    k_steps
    refine ⟨?_⟩
    refine callWith_MW (N _ mbm).1 ?_
    refine el1_3 (hda.list t (.head _)) ?_; intro ee hee hen hesl
    have msl : (t.sl, W.listOf (strVals ee.sc) ee.ep) ∈ fcLed nd se ik sk oN4 oS4 e14 e24 (t :: r) R2 := by
     have q1 : (t.sl, W.listOf (strVals ee.sc) ee.ep) ∈ ledN ns := by rw [← hesl]; exact mem_ledN hee mH2
     have q2 : (t.sl, W.listOf (strVals ee.sc) ee.ep) ∈ tl := by rw [htl]; exact maL _ q1
     have q3 : (t.sl, W.listOf (strVals ee.sc) ee.ep) ∈ R := by rw [hR]; exact mT3 q2
     have q4 : (t.sl, W.listOf (strVals ee.sc) ee.ep) ∈ R2 := by rw [hR2]; exact .tail _ q3
     exact mT4 (maR _ q4)
    have hsu : succs ns t.nm = ee.sc.map (·.1) := by rw [← hen]; exact succs_of hnn hee
    cases hx : (strVals ee.sc)[t.p]? with
    | some v =>
     refine el2_2 (strVals_get hx) ?_; intro b tb e92 hb; subst e92
     rw [← hsu] at hb
     have hbn : b ∈ ns.map (·.nm) := by
      rw [hsu] at hb
      refine el1_2 (mm1 (List.mem_of_getElem? hb)) ?_; intro q hq e92; subst e92
      exact hcl ee hee q hq
     have hbl : b.length ≤ 64 := by
      refine el1_2 (mm1 hbn) ?_; intro e9 he9 e92; subst e92
      exact hln e9 he9
     refine next_item F N mbm mit msl hx fun h5 F5 N5 => ?_
     have N6 := nsub N5 (set_it hsp)
     clear N5 N F
     k_steps
     refine ⟨?_⟩
     dsimp only [WEnd]
     k_steps
     refine ⟨?_⟩
     dsimp only [WEnd]
     rename Fr _ _ _ _ => F7
     rename News _ _ _ _ => N7
     rw [FM_over] at F7
     rw [← drawn_led] at N7
     show ∃ n', n' < μ ∧ JJ _ _
     have hm5 := m4_draw (S := S4) (r := r) hb
     refine ⟨_, ?_, b, tb, S4, { t with p := t.p + 1 } :: r, oN4, oS4, e14, e24, ⟨g4, _, _, rfl, T4, F7, N7, B4, X4, P4, D4⟩, hsp.drawn, hda.drawn, t4_seen hsn, t4_draw hdn hb, hbn, rfl, hS0S4, .inl hk0S4⟩
     lia
    | none =>
     have hb := strVals_none hx
     rw [← hsu] at hb
     refine next_end rfl F N mbm mit msl hx fun h5 h6 ex o5 F5 N5 hex => ?_
     have N6 : News g4 L' h5 (fcLed2 nd se ik sk oN4 oS4 (W.listOf (bmVals (t :: r)).toArray e24) (W.listOf (skVals (t :: r)).toArray e14) r R2) := by
      refine el0_4 (hsp.top) ?_; intro u1 u2 u3 u4
      simp only [List.mem_cons, List.not_mem_nil, or_false, not_or] at u1
      refine nsub N5 (sbc (msN (.head _) (Ne.symm u1.1)) (sbc (msN mH1 (Ne.symm u1.2.1)) (sbc (msN mH2 (Ne.symm u1.2.2.1)) (sbc (msN mH3 (Ne.symm u1.2.2.2)) (fun q hq => ?_)))))
      refine msN (mT6 hq) ?_
      refine ast hq (fun hq => ?_) fun hq => ?_
      ·exact fun e => u3 (e ▸ stMem hq)
      exact u4 q hq
     clear N5 N F
     refine caught_own (KF := Mine.K w.params) hex F5 N6 B4 XB' TB' D4 T4 (by k_is) PyProof.Rows.Boot.«StopIteration» (by decide) isExc_stop notTuple_stop (by rw [isSubtype_type]; kernel_rfl) (fun h7 g7 T7 F7 N7 B7 X7 P7 D7 => ?_)
     have hsp2 := hsp.pop
     refine el1_4 (hda.dict) ?_; intro kv kd1 kd2 kd3 kd4
     refine el2_1 (kd2 t (.head _)) ?_; intro jj tok hjj
     have hr100 : r.length ≤ 100 := by rw [List.length_cons] at hst4; lia
     k_steps
     refine ⟨?_⟩
     refine lmeth_S PySem.F.slot_list_pop PySem.F.type_list_pop N7 mH3 ?_
     k_steps
     refine ⟨?_⟩
     have hsk8 : (sk, W.listOf (skVals r ++ [Value.str t.nm t.tk]).toArray e14) ∈ fcLed2 nd se ik sk oN4 oS4 (W.listOf (bmVals (t :: r)).toArray e24) (W.listOf (skVals (t :: r)).toArray e14) r R2 := by rw [← skVals_cons]; exact mH3
     refine pop_S F7 N7 hsk8 (by unfold skVals; simp; lia) fun h8 F8 N8 => ?_
     have N8b := nsub N8 (set_sk hsp2)
     clear N8 F7 N7
     k_steps
     refine ⟨?_⟩
     refine del_S F8 N8b (.head _) kd1 (strKind_is _ _ _ _) hjj (size_le (by rw [List.length_cons] at kd4; lia)) fun h9 o9 F9 N9 hd9 => ?_
     have N9b := nsub N9 (set_nd hsp2)
     clear N9 F8 N8b
     k_steps
     refine ⟨?_⟩
     refine lmeth_S PySem.F.slot_list_pop PySem.F.type_list_pop N9b mH2 ?_
     k_steps
     refine ⟨?_⟩
     have hik9 : (ik, W.listOf (bmVals r ++ [Value.ref t.bm]).toArray e24) ∈ fcLed2 nd se ik sk o9 oS4 (W.listOf (bmVals (t :: r)).toArray e24) (W.listOf (skVals r).toArray (e14 + 1)) r R2 := by rw [← bmVals_cons]; exact mH2
     refine pop_S F9 N9b hik9 (by unfold bmVals; simp; lia) fun h10 F10 N10 => ?_
     have N10b := nsub N10 (set_ik hsp2)
     clear N10 F9 N9b
     k_steps
     refine ⟨?_⟩
     dsimp only [WEnd]
     refine el0_2 (t5_pop hdn hsn hb) ?_; intro hdn5 hsn5
     have hm5 : dMeas ns S4 r ≤ dMeas ns S4 (t :: r) := m5_pop
     show ∃ n', n' < m4 ∧ JJ _ _
     refine ⟨r.length, by rw [← hm4]; exact Nat.lt_succ_self _, node4, tkn4, S4, r, o9, oS4, e14 + 1, e24 + 1, ⟨g7, _, _, rfl, T7, F10, N10b, B7, X7, P7, D7⟩, hsp2, hda.pop hsn.nodup kd2 kd3 kd4 hd9, hsn5, hdn5, by lia, hS0S4, hk0S4, rfl⟩
  k_steps
  refine ⟨?_⟩
  refine in_set_S N mH1 hda.set (by have := hda.len; unfold scanBound; lia) (strKind_is _ _ _ _) rfl ?_
  refine el1_4 (hda.dict) ?_; intro kv kd1 kd2 kd3 kd4
  by_cases hS : node ∈ S
  ·rw [decide_eq_true hS]
   k_steps
   refine ⟨?_⟩
   by_cases hst : node ∈ st.map (·.nm)
   ·refine el1_2 (mm1 hst) ?_; intro ts hts htn
    refine el2_1 (kd2 ts hts) ?_; intro jj tok hjj
    have htn2 : ts.nm = node := htn
    rw [htn2] at hjj
    refine kda_in N (.head _) kd1 loN (strKind_is _ _ _ _) true (by rw [hjj]; rfl) ?_
    k_steps
    refine ⟨?_⟩
    refine kdt_tail N (.head _) kd1 (kdt_getItem N (.head _) kd1 (strKind_is _ _ _ _) hjj ?_)
    k_steps
    refine ⟨?_⟩
    have msk : (sk, W.listOf (skVals st).toArray f1) ∈ fcLed nd se ik sk oN2 oS2 f1 f2 st R2 := mH3
    refine kmk_slice F N (News.isList N msk) (.int _ _) .none (fun D h3 F3 N3 l3 => ?_) (by with_unfolding_all rfl) (by intro _; with_unfolding_all rfl) (size_le (by have := hda.len; have := nodup_len hsn.nodup (fun x hx => by obtain ⟨t, ht, q⟩ := mm1 hx; exact q ▸ hsn.named t ht); unfold skVals; simp at this ⊢; lia))
    have hlen3 : (slicePick (skVals st).toArray (some jj) none none).size ≤ 100 := by
     have q0 := slicePick_size_le (skVals st).toArray (some jj) none none
     have := hda.len
     have := nodup_len hsn.nodup (fun x hx => by obtain ⟨t, ht, q⟩ := mm1 hx; exact q ▸ hsn.named t ht)
     unfold skVals at q0 ⊢
     simp at this q0 ⊢
     lia
    generalize hpk : slicePick (skVals st).toArray (some jj) none none = pk at N3 hlen3
    clear F N
    k_steps
    refine ⟨?_⟩
    rename Fr _ _ _ _ => F8
    rename News _ _ _ _ => N8
    refine add_arrays F8 N8 (News.isList N8 mH1) (News.isList N8 (.head _)) (fun h9 F9 N9 => ?_) (size_le (by simp; lia))
    clear F8 N8
    (try dsimp only [WEnd, Qw, FEnd])
    k_steps
    (try (refine ⟨?_⟩; dsimp only [WEnd, Qw, FEnd]; k_steps))
    rename KtsTurn _ g₀ _ => kT
    rename Fr _ L _ m => kF
    rename News _ L _ _ => kN
    refine el1_2 (mm1 hnm) ?_; intro e he hen
    refine hcyc _ (pk.toList ++ #[Value.str node tkn].toList).toArray 0 _ _ _ ⟨e, he, by rw [hen]; exact t1_cycle hch hst⟩ ?_ ?_ kT kF (nsub kN fun q hq => ?_) (by assumption) (by assumption) (by assumption) (by assumption)
    ·simp
    ·simp; lia
    refine mst hq ?_ fun hq => ?_
    ·exact .head _
    have q1 : q ∈ R := by rw [hR, htl]; exact hq
    have q2 : q ∈ R2 := by rw [hR2]; exact .tail _ q1
    exact mT7 (maR _ q2)
   refine kda_in N (.head _) kd1 loN (strKind_is _ _ _ _) false (by rw [kd3 node hst]; rfl) ?_
   k_steps
   show MidP _
   exact ⟨node, tkn, S, st, oN2, oS2, f1, f2, ⟨g2, h2, _, rfl, T2, F, N, B2, X2, P2, D2⟩, hsp, hda, hsn, t2_done hch ((hsn.fin node hS).resolve_left hst), Nat.le_of_eq hμ, hS0S, hk0S.elim id (fun e => e ▸ hS), trivial⟩
  rw [decide_eq_false hS]
  refine el1_2 (mm1 hnm) ?_; intro e he hen
  subst hen
  have hcn : e.nm ∉ st.map (·.nm) := fun hm => by
   refine el1_2 (mm1 hm) ?_; intro t ht q
   have q2 : t.nm = e.nm := q
   exact hS (q2 ▸ hsn.inS t ht)
  have hst100 : st.length ≤ 100 := by
   have := nodup_len hsn.nodup (fun x hx => by
    refine el1_2 (mm1 hx) ?_; intro t ht q
    exact q ▸ hsn.named t ht)
   simp at this
   lia
  have hlR : ∀ q ∈ ledN ns, q ∈ R2 := by
   intro q hq
   rw [hR2, hR, htl]
   exact mT4 (maL _ hq)
  k_steps
  refine ⟨?_⟩
  refine setmeth_S N mH1 hda.set (by have := hda.len; unfold scanBound; lia) ?_
  k_steps
  refine ⟨?_⟩
  refine add_set_S F N mH1 hda.set (by have := hda.len; unfold scanBound; lia) (strKind_is _ _ _ _) rfl fun h3 oS3 F3 N3 hs3 => ?_
  have N3b := nsub N3 (set_se hsp)
  clear N3 F N
  k_steps
  refine ⟨?_⟩
  refine lmeth_S PySem.F.slot_list_append PySem.F.type_list_append N3b mH2 ?_
  k_steps
  refine ⟨?_⟩
  have mn2 : (n2, o2) ∈ fcLed nd se ik sk oN2 oS3 f1 f2 st R2 := by rw [hR2]; exact mT4 (maR _ (.tail _ m2))
  have hin : ∀ q ∈ nodeL e, q ∈ fcLed nd se ik sk oN2 oS3 f1 f2 st R2 := fun q hq => mT4 (maR _ (hlR q (mem_ledN he hq)))
  refine kdt_tail N3b mn2 hd (kdt_getItem N3b mn2 hd (strKind_is _ _ _ _) (nvalueAt_mem hnn he) ?_)
  k_steps
  refine ⟨?_⟩
  refine sc_get F3 X2 N3b (hin _ (.head _)) (hin _ mH1) ?_
  k_steps
  refine ⟨?_⟩
  refine iter_S F3 N3b X2 (hin _ mH2) fun q1 h4 tk4 F4 N4 hq1 => ?_
  clear F3
  k_steps
  refine ⟨?_⟩
  refine nextattr_S F4 N4 X2 (.head _) fun q2 h5 tk5 F5 N5 hq2 => ?_
  clear F4 N4
  have hq2i : q2 ≠ ik := (hq2 (ik, _) mH3).symm
  have hq1i : q1 ≠ ik := (hq1 (ik, _) mH2).symm
  have hq2s : q2 ≠ sk := (hq2 (sk, _) mH4).symm
  have hq1s : q1 ≠ sk := (hq1 (sk, _) mH3).symm
  have hq2n : q2 ≠ nd := (hq2 (nd, _) mH1).symm
  have hq1n : q1 ≠ nd := (hq1 (nd, _) (.head _)).symm
  k_steps
  refine ⟨?_⟩
  refine append_S F5 N5 mH4 (size_le (by unfold bmVals; simp; lia)) fun h6 F6 N6 => ?_
  have N6b := nsub N6 (setAt_cons_ne hq2i (setAt_cons_ne hq1i (set_ik hsp)))
  clear N6 F5 N5
  k_steps
  refine ⟨?_⟩
  refine len_list_S N6b mH5 (by unfold skVals; simp; lia) fun tL tkL => ?_
  k_steps
  refine ⟨?_⟩
  refine setItem_S F6 N6b mH2 kd1 (strKind_is _ _ _ _) (size_le (by lia)) fun h7 o7 F7 N7 hd7 => ?_
  have N7b := nsub N7 (setAt_cons_ne hq2n (setAt_cons_ne hq1n (set_nd hsp)))
  clear N7 F6 N6b
  k_steps
  refine ⟨?_⟩
  refine lmeth_S PySem.F.slot_list_append PySem.F.type_list_append N7b mH5 ?_
  k_steps
  refine ⟨?_⟩
  refine append_S F7 N7b mH5 (size_le (by unfold skVals; simp; lia)) fun h8 F8 N8 => ?_
  have N8b := nsub N8 (setAt_cons_ne hq2s (setAt_cons_ne hq1s (set_sk hsp)))
  clear N8 F7 N7b
  k_steps
  show MidP _
  have hsp3 : FcSep nd se ik sk (⟨e.nm, tkn, q1, q2, 0, e.sl⟩ :: st) R2 := hsp.push (fcOwn_off hq1) (fcOwn_off fun p hp => hq2 p (.tail _ hp)) (hq2 (q1, _) (.head _)) fun p hp => ⟨hq1 p (mT4 (maR _ hp)), hq2 p (mT5 (maR _ hp))⟩
  refine el0_2 (t3_push (tk := tkn) (it := q1) (bm := q2) (sl := e.sl) hch hsn hS hnm) ?_; intro td ts
  refine ⟨e.nm, tkn, e.nm :: S, ⟨e.nm, tkn, q1, q2, 0, e.sl⟩ :: st, o7, oS3, f1 + 1, f2 + 1, ⟨g2, h8, _, rfl, T2, F8, nsub N8b ?_, B2, X2, P2, D2⟩, hsp3, FcData.push (t := ⟨e.nm, tkn, q1, q2, 0, e.sl⟩) hda hS hnm hcn kd2 kd3 kd4 hd7 hs3 ⟨e, he, rfl, rfl⟩, ts, td, ?_, fun v hv => .tail _ (hS0S v hv), ?_, trivial⟩
  ·exact push_led
  ·have := m3_push (tk := tkn) (it := q1) (bm := q2) (sl := e.sl) (st := st) hS hnn hnm
   lia
  rcases hk0S with h | h
  ·exact .tail _ h
  rw [h]; exact .head _
 clear F2 N2
 rintro s₁ h₁ tk₁ ⟨nv, S₀, oN, oS, oI, e1, e2, ⟨g, h, tk, rfl, T1, F, N, B1, X1, P1, D1⟩, ⟨c1, c2⟩, hdat, hacc, hall⟩ hkeep
 have hIg2 : g.get? I = none := T1.none_ _ hIg
 have F3 := fr_but F hLI hIg2 hkeep
 have hne : ∀ p ∈ R, p.1 ≠ I := fun p hp => nlt (Nat.lt_trans (hskR p hp) (Nat.lt_trans a3.2.2 hndI))
 have N3 : News g L' h₁ R := news_but (nsub N fun q hq => mT5 hq) hne hkeep
 clear F N
 k_steps
 rename KtsTurn _ g₀ _ => kT
 rename Fr _ L _ m => kF
 rename News _ L _ R => kN
 refine hret _ _ _ _ ⟨rfl, fun e he => ?_⟩ kT kF ?_ (by assumption) (by assumption) (by assumption) (by assumption)
 ·refine el1_1 (List.getElem?_of_mem he) ?_; intro j hj
  refine hacc _ (hall j ?_ e hj)
  have := (List.getElem?_eq_some_iff.mp hj).1
  unfold kvsN
  simpa using this
 rw [hR, htl] at kN
 exact kN
theorem walked_vals {K : Type} {kvs : List (K × Value)} {vs : List Value} (hlen : vs.length = kvs.length) (hP : ∀ (j : Nat) (v : Value), vs[j]? = some v → ∃ k, kvs[j]? = some (k, v)) : vs = kvs.map (·.2) := by
 apply List.ext_getElem?
 intro j
 rw [List.getElem?_map]
 cases e : vs[j]? with
 | some v =>
  refine el1_1 (hP j v e) ?_; intro k hk
  rw [hk]; rfl
 | none =>
  have h1 : vs.length ≤ j := List.getElem?_eq_none_iff.mp e
  have h2 : kvs[j]? = none := List.getElem?_eq_none_iff.mpr (by lia)
  rw [h2]; rfl
section
variable {prog : Program} {w : World} {A : Around} {E : Value → Shared → Prop} {s : Shared} {h₀ : Heap} {L : Addr} {m : Str → Option Value} {news : List (Addr × Obj)}
theorem comp_values {K : Type} [DecidableEq K] {knd : KeyKind prog w K} {env : Env} {elt : PySem.Expr} {x : Str} {ifs : List PySem.Expr} {scope : Scope} {Q : Value → Shared → Prop} {vw d : Addr} {od : Obj} {kvs : List (K × Value)} (p : Value → Bool) (G : Value → Value → Prop)
  (hh : A.handled = none) (hv : (vw, (⟨.type "dict_values", none, .fields #[.ref d], #[]⟩ : Obj)) ∈ news) (hd : (d, od) ∈ news) (hdd : od.IsDictOf knd kvs) (F : Fr h₀ L s.heap m) (N : News h₀ L s.heap news)
  (g1 : ∀ (C : Addr) (i : Nat) (k : K) (v : Value) s₃ m₃ E', kvs[i]? = some (k, v) → s₃.heap.Ns (compEnv scope C env).locals m₃ → m₃ x = some v → Fr h₀ L s₃.heap m → News h₀ L s₃.heap news →
    wpAny (model prog w) A (forIn ifs true fun c r => if r = true then do let ok ← isTrue c (compEnv scope C env) (eval c (compEnv scope C env)); pure (ForInStep.yield ok) else pure (ForInStep.yield r))
     (fun ok s₄ => ok = p v ∧ Keeps s₃ s₄) E' s₃)
  (g2 : ∀ (C : Addr) (i : Nat) (k : K) (v : Value) s₃ m₃ E', kvs[i]? = some (k, v) → p v = true → s₃.heap.Ns (compEnv scope C env).locals m₃ → m₃ x = some v → Fr h₀ L s₃.heap m → News h₀ L s₃.heap news →
    wpAny (model prog w) A (eval elt (compEnv scope C env)) (fun y s₄ => G v y ∧ Keeps s₃ s₄) E' s₃)
  (g3 : ∀ D h' tk ys ep, Fr h₀ L h' m → News h₀ L h' ((D, W.listOf ys ep) :: news) → (∀ q ∈ news, q.1 ≠ D) → Paired G ((kvs.map (·.2)).filter p) ys.toList → Q (.ref D) { s with heap := h', toks := tk })
  (hsz : kvs.length ≤ sizeLine := by size_fits) :
  wpAny (model prog w) A (pyIter (.ref vw)) (CompPost prog w A env scope x ifs elt Q) E s := by
 refine el2_1 (id hdd) ?_; intro es ep hdd'
 have hdA : ∀ h1 : Heap, h1.get? d = some od → h1.DictAt knd d kvs ep := fun h1 e => ⟨od, es, e, hdd'⟩
 refine wpAny_pyIter_values ⟨_, (N _ hv).1, rfl, rfl⟩ (hdA _ (N _ hd).1) ?_
 have hlt : d < s.heap.objs.size := Heap.lt_size (N _ hd).1
 have F2 := F.push { cls := .type "dict_valueiterator", data := .fields #[.ref d, .int 0 0, .int kvs.length 0, .int ep 0] }
 have up : ∀ (h' : Heap), (∀ b o', b ∉ [s.heap.objs.size] → (s.heap.push { cls := .type "dict_valueiterator", data := .fields #[.ref d, .int 0 0, .int kvs.length 0, .int ep 0] }).get? b = some o' → h'.get? b = some o') → ∀ b o', s.heap.get? b = some o' → h'.get? b = some o' :=
  fun h' hk b o' e => hk b o' (not_iter_of_old e) (Heap.get?_push_of_some _ e)
 refine ⟨p, G, s.heap.objs.size, [s.heap.objs.size, d], [s.heap.objs.size], kvs.length, _, _, rfl, Walks.dictValues (knd := knd) hh _ d (nlt hlt) kvs ep, hsz,
  ⟨⟨_, Heap.get?_push_size _ rfl, rfl, rfl⟩, hdA _ (Heap.get?_push_of_some _ (N _ hd).1)⟩, ?_, ⟨?_, ?_⟩, ?_⟩
 ·intro b hb
  show b < (s.heap.push _).objs.size
  rw [Heap.size_push]
  refine asp hb ?_ fun hb => ?_
  ·exact Nat.lt_succ_self _
  rw [ms1 hb]; exact nls hlt
 ·intro C i v s₃ m₃ E' hP hn hm hk _
  refine el1_1 (hP) ?_; (try clear hP); intro k hk2
  exact g1 C i k v s₃ m₃ E' hk2 hn hm (F.keeps (up _ hk)) (N.grown (up _ hk))
 ·intro C i v s₃ m₃ E' hP hp hn hm hk _
  refine el1_1 (hP) ?_; (try clear hP); intro k hk2
  exact g2 C i k v s₃ m₃ E' hk2 hp hn hm (F.keeps (up _ hk)) (N.grown (up _ hk))
 intro D h' tk ys vs hnew hlD hplD hlen hP hF hk
 have e' : vs = kvs.map (·.2) := walked_vals hlen hP
 subst e'
 refine el1_1 (hplD) ?_; (try clear hplD); intro ep' hD
 have hDs : s.heap.get? D = none := by
  cases e : s.heap.get? D with
  | none => rfl
  | some o' => rw [Heap.get?_push_of_some _ e] at hnew; cases hnew
 have hD0 : h₀.get? D = none := by
  cases e : h₀.get? D with
  | none => rfl
  | some o' => rw [F.keep _ _ e] at hDs; cases hDs
 have hDL : D ≠ L := by
  rintro rfl
  refine el3_2 (F.ns) ?_; intro o es ep ho _
  rw [ho] at hDs; cases hDs
 refine g3 D h' tk ys ep' (F.keeps (up h' hk)) (fun q hq => ?_) (fun q hq e => ?_) hF
 ·refine asp hq ?_ fun hq => ?_
  ·exact ⟨hD, hDL, hD0⟩
  exact N.grown (up h' hk) q hq
 rw [← e, (N q hq).1] at hDs; cases hDs
end
section
variable {prog : Program} {w : World} {A : Around} {E : Value → Shared → Prop} {s : Shared} {h₀ : Heap} {L : Addr} {m : Str → Option Value} {news : List (Addr × Obj)}
variable {K : Frag} {C dx x : Nat} {name : Str} {v : Value} {es es' : List DictEntry} {n n' : Nat}
theorem dictset_S {Q : Unit → Shared → Prop} (F : Fr h₀ L s.heap m) (X₀ : K.In h₀) (N : News h₀ L s.heap news) (h1 : (x, instObj C dx) ∈ news) (h2 : (dx, dictOf es n) ∈ news)
  (hs : findIn K (.ref C) "__setattr__" = some (some (.builtin "object.__setattr__"))) (hp : plainOver K C = true) (ht : takerIn K C name = some none) (hh : hasDictIn K C = true) (hl : (getL name es).isSome = true)
  (e : (putL name (PyData.keyHash w.params name) (.str name (s.toks + 1)) v es, putN name es n) = (es', n')) (hz : es'.length ≤ 1000)
  (h : ∀ h', Fr h₀ L h' m → News h₀ L h' (setAt dx (dictOf es' n') news) → Q () { s with heap := h', toks := s.toks + 2 }) : wpAny (model prog w) A (setAttr (.ref x) name v) Q E s := by
 refine el0_2 (Prod.mk.inj e) ?_; intro e1 e2
 exact set_plain (X₀.keeps F.keep) (InstAt.of_news N h1 h2) hs (osa_dict (s := { s with toks := s.toks + 1 }) F (newsFront N h2) (X₀.keeps F.keep) (InstAt.of_news N h1 h2) rfl hp ht hh hl (fun p hp => nomatch hp) (fun p hp => by simpa using (mf1 hp).2) (by rw [putName_dict, e1, e2]) rfl hz fun h' F' N' => h h' F' (newsBack N'))
end
theorem clear_S {prog : Program} {w : World} {A : Around} {E : Value → Shared → Prop} {s : Shared} {h₀ : Heap} {L l : Addr} {m : Str → Option Value} {news : List (Addr × Obj)} {its : Array Value} {ep : Nat} {Q : Value → Shared → Prop} (F : Fr h₀ L s.heap m) (N : News h₀ L s.heap news) (hm : (l, W.listOf its ep) ∈ news) (hz : its.size ≤ 100000)
  (h : ∀ h' ep', Fr h₀ L h' m → News h₀ L h' (setAt l (W.listOf #[] ep') news) → Q .none { s with heap := h' }) : wpAny (model prog w) A (call (.builtin "list.clear") [.ref l]) Q E s := by
 have z := N _ hm
 have q := PySem.IsL.update z.1 (fun _ => #[])
 refine call_meets PySem.F.slot_list_clear ⟨_, z.1, rfl⟩ PySem.F.entry_list_clear (PySem.F.args_list_clear_1 _) (PySem.AutoSeq1.list_clear_list_0 l its ep (size_le hz)) ⟨z.1, h _ _ (F.change (Heap.SameBut.update ..) z.2.1 z.2.2) (newsSetAt N hm (Heap.SameBut.update ..) q)⟩
section
variable {w : World} {A : Around} {E : Value → Shared → Prop} {s : Shared} {h₀ : Heap} {L : Addr} {m : Str → Option Value} {news : List (Addr × Obj)} {xa d n2 : Addr} {t1 t2 t3 t4 t5 t6 : Tok} {rd : Value} {po nf : Int}
theorem rn_set {v : Value} {Q : Unit → Shared → Prop} (F : Fr h₀ L s.heap m) (X : (Mine.K w.params).In h₀) (N : News h₀ L s.heap news) (h1 : (xa, instObj 362 d) ∈ news) (h2 : (d, tsR w t1 t2 t3 t4 t5 t6 n2 rd po nf) ∈ news)
  (h : ∀ h', Fr h₀ L h' m → News h₀ L h' (setAt d (tsR w t1 t2 t3 t4 t5 t6 n2 v po nf) news) → Q () { s with heap := h', toks := s.toks + 2 }) :
  wpAny (model rw_nq0317_01.prog w) A (setAttr (.ref xa) (Str.ofString "_ready_nodes") v) Q E s := by
 revert X
 k_fill
 intro X
 refine' dictset_S F X N h1 h2 ?k6 ?k7 ?k8 ?k9 ?k10 ?k11 ?k13 h; (case k6 => k_is); (case k7 => k_is); (case k8 => k_is); (case k9 => k_is); (case k10 => k_get); (case k11 => k_put); (case k13 => exact nbl rfl)
theorem po_set {k : Int} {t : Tok} {Q : Unit → Shared → Prop} (F : Fr h₀ L s.heap m) (X : (Mine.K w.params).In h₀) (N : News h₀ L s.heap news) (h1 : (xa, instObj 362 d) ∈ news) (h2 : (d, tsR w t1 t2 t3 t4 t5 t6 n2 rd po nf) ∈ news)
  (h : ∀ h', Fr h₀ L h' m → News h₀ L h' (setAt d (tsR w t1 t2 t3 t t5 t6 n2 rd k nf) news) → Q () { s with heap := h', toks := s.toks + 2 }) :
  wpAny (model rw_nq0317_01.prog w) A (setAttr (.ref xa) (Str.ofString "_npassedout") (.int k t)) Q E s := by
 revert X
 k_fill
 intro X
 refine' dictset_S F X N h1 h2 ?k6 ?k7 ?k8 ?k9 ?k10 ?k11 ?k13 h; (case k6 => k_is); (case k7 => k_is); (case k8 => k_is); (case k9 => k_is); (case k10 => k_get); (case k11 => k_put); (case k13 => exact nbl rfl)
theorem nf_set {k : Int} {t : Tok} {Q : Unit → Shared → Prop} (F : Fr h₀ L s.heap m) (X : (Mine.K w.params).In h₀) (N : News h₀ L s.heap news) (h1 : (xa, instObj 362 d) ∈ news) (h2 : (d, tsR w t1 t2 t3 t4 t5 t6 n2 rd po nf) ∈ news)
  (h : ∀ h', Fr h₀ L h' m → News h₀ L h' (setAt d (tsR w t1 t2 t3 t4 t5 t n2 rd po k) news) → Q () { s with heap := h', toks := s.toks + 2 }) :
  wpAny (model rw_nq0317_01.prog w) A (setAttr (.ref xa) (Str.ofString "_nfinished") (.int k t)) Q E s := by
 revert X
 k_fill
 intro X
 refine' dictset_S F X N h1 h2 ?k6 ?k7 ?k8 ?k9 ?k10 ?k11 ?k13 h; (case k6 => k_is); (case k7 => k_is); (case k8 => k_is); (case k9 => k_is); (case k10 => k_get); (case k11 => k_put); (case k13 => exact nbl rfl)
end
noncomputable def readyV (ns : List NI) : List Value := (ns.filter fun e => e.np == 0).map fun e => .str e.nm e.tn
noncomputable def readyP (ns : List NI) (v : Value) : Bool := match v with
 | .ref a => ns.any fun e => decide (e.a = a) && e.np == 0
 | _ => false
theorem keeps_toks {s : Shared} {t : Nat} : Keeps s { s with toks := t } := ⟨s.heap, t, rfl, fun _ _ e => e⟩
theorem na_inj {ns : List NI} (hnd : (Keys (ledN ns)).Nodup) : ∀ {e e' : NI}, e ∈ ns → e' ∈ ns → e.a = e'.a → e = e' := by
 induction ns with
 | nil => intro _ _ h; cases h
 | cons x r ih =>
  intro e e' he he' h
  have hc : Keys (ledN (x :: r)) = x.a :: x.ad :: x.sl :: Keys (ledN r) := rfl
  rw [hc] at hnd
  refine el0_2 (nc1 hnd) ?_; intro h1 h2
  have h3 := (nc1 (nc1 h2).2).2
  have hk : ∀ {z : NI}, z ∈ r → z.a ∈ Keys (ledN r) := fun hz => mm2 ⟨_, mem_ledN hz (.head _), rfl⟩
  rcases mc1 he with q1 | q1 <;> rcases mc1 he' with q2 | q2
  ·rw [q1, q2]
  ·rw [q1] at h
   exact absurd (mT2 (h ▸ hk q2)) h1
  ·rw [q2] at h
   exact absurd (mT2 (h ▸ hk q1)) h1
  exact ih h3 q1 q2 h
theorem readyP_of {ns : List NI} (hnd : (Keys (ledN ns)).Nodup) {e : NI} (he : e ∈ ns) : readyP ns (.ref e.a) = (e.np == 0) := by
 show (ns.any fun e' => decide (e'.a = e.a) && e'.np == 0) = _
 rw [Bool.eq_iff_iff, List.any_eq_true]
 constructor
 ·rintro ⟨e', he', h⟩
  rw [Bool.and_eq_true, decide_eq_true_eq] at h
  have := na_inj hnd he' he h.1
  subst this
  exact h.2
 intro h
 exact ⟨e, he, by rw [Bool.and_eq_true, decide_eq_true_eq]; exact ⟨rfl, h⟩⟩
theorem paired_map {α : Type} {G : Value → Value → Prop} {f g : α → Value} : ∀ {l : List α} {ys : List Value}, (∀ e ∈ l, ∀ y, G (f e) y → y = g e) → Paired G (l.map f) ys → ys = l.map g
 | [], _, _, .nil => rfl
 | a :: l, _, h, .cons h1 h2 => by
  rw [List.map_cons, h a (.head _) _ h1, paired_map (fun e he => h e (.tail _ he)) h2]
theorem ready_pair {ns : List NI} (hnd : (Keys (ledN ns)).Nodup) {ys : List Value} (h : Paired (fun v y => ∃ e ∈ ns, v = .ref e.a ∧ y = .str e.nm e.tn) (((kvsN ns).map (·.2)).filter (readyP ns)) ys) : ys = readyV ns := by
 have e1 : (kvsN ns).map (·.2) = ns.map fun e => Value.ref e.a := by unfold kvsN; rw [List.map_map]; rfl
 rw [e1, List.filter_map] at h
 have e2 : ns.filter ((readyP ns) ∘ fun e => Value.ref e.a) = ns.filter fun e => e.np == 0 := List.filter_congr fun e he => readyP_of hnd he
 rw [e2] at h
 refine paired_map (fun e he y hy => ?_) h
 refine el1_3 (hy) ?_; (try clear hy); intro e' he' h1 e93; subst e93
 injection h1 with h1
 rw [na_inj hnd (mf1 he).1 he' h1]
theorem fr_turn {g₀ g g' : Heap} {L : Addr} {m : Str → Option Value} {fs : List Addr} (F : Fr g₀ L g m) (hfs : ∀ b ∈ fs, b = L) (T : KtsTurn fs g g') : Fr g₀ L g' m := by
 refine el3_4 (F.ns) ?_; intro o es ep hL hLd hLk hLf
 refine el1_1 (T.up hL) ?_; intro sl hs
 exact ⟨⟨_, es, ep, hs, hLd, hLk, hLf⟩, fun b o e => T.other b o (F.keep b o e) (fun hm => by rw [hfs b hm, kts_self F] at e; cases e), F.above⟩
noncomputable def gout (g : Gr) (xs : List Str) : Gr := xs.foldl (fun g x => gup g x fun e => { e with np := -1 }) g
theorem get_ready_c (w : World) (p : Program) (lo : List Str) (mean : ExcName → Option Value) (mg mb : Str → Option Value)
  (gd : Option (List Code)) (cn : Str) (cs : Scope) (a : Addr) (ccd : Value) (cl : List (Str × Addr)) (outer : List Env) (A₀ : Around) (base h₀ : Heap) (L : Addr) (m : Str → Option Value) (rest : List (Addr × Obj)) (s : Shared)
  (xa d n2 D : Addr) (o2 : Obj) (ns : List NI) (rs : List (Str × Tok)) (ep : Nat) (t1 t2 t3 t4 t5 t6 : Tok) (po nf : Int) (Q E : Value → Shared → Prop)
  (B : Below A₀ base outer h₀) (F : Fr h₀ L s.heap m) (X : (Mine.K w.params).In h₀) (N : News h₀ L s.heap ((xa, instObj 362 d) :: (d, tsR w t1 t2 t3 t4 t5 t6 n2 (.ref D) po nf) :: (n2, o2) :: (D, W.listOf (strVals rs) ep) :: (ledN ns ++ rest))) (T : Top p lo mean mg mb h₀) (hk : cs.kind = .function)
  (hd : o2.IsDictOf (PySem.strKind rw_nq0317_01.prog w) (kvsN ns)) (lo2 : (n2 == sysModules) = false) (hnn : (ns.map (·.nm)).Nodup) (hl : ns.length ≤ 100) (hrl : rs.length ≤ 100) (hrn : ∀ q ∈ rs, q.1 ∈ ns.map (·.nm)) (hln : ∀ e ∈ ns, e.nm.length ≤ 64)
  (hnd : (GK xa d n2 ns).Nodup) (hoff : ∀ p ∈ rest, p.1 ∉ D :: GK xa d n2 ns) (hD : D ∉ GK xa d n2 ns)
  (hret : ∀ T0 c t4' po' ep8 h' tk', kvsN c = kvsN ns → c.map (·.nm) = ns.map (·.nm) → GK xa d n2 c = GK xa d n2 ns → proj2 c = gout (proj2 ns) (rs.map (·.1)) → T0 ∉ D :: GK xa d n2 ns → (∀ p ∈ rest, p.1 ≠ T0) → Fr h₀ L h' m →
   News h₀ L h' ((T0, (⟨.type "tuple", none, .seq (strVals rs) 0, #[]⟩ : Obj)) :: (xa, instObj 362 d) :: (d, tsR w t1 t2 t3 t4' t5 t6 n2 (.ref D) po' nf) :: (n2, o2) :: (D, W.listOf #[] ep8) :: (ledN c ++ rest)) → Q (.ref T0) { s with heap := h', toks := tk' }) :
  wpAny (model (rw_nq0317_01.prog) w) (ktrTop 350 500 gd cn cs L a ccd cl outer) (call (.ref 324) [.ref xa]) Q E s := by
 k_with_none
 k_with "k_all" => first | assumption | (intro p9 hp9; (repeat (rename _ ∧ _ => hc9; obtain ⟨_, _⟩ := hc9)); have h9 := allLt_mem2 (by assumption) _ hp9; exact nlt (Nat.lt_of_lt_of_le h9 (by omega)))
 k_with "execs cons" => (k_here; first | k_made | ((fail_if_success (fail_if_success k_gentoks)); refine (let tk : Nat := _; (?_ : wpAny _ _ _ _ _ ⟨_, _, _, tk, _⟩))) | ((with_reducible refine wpAny_execs_cons ?_); (try dsimp only); refine (let qv : Flow → Shared → Prop := _; (?_ : wpAny _ _ _ qv _ _))))
 k_with "execs nil" => (k_here; (fail_if_success (fail_if_success k_gentoks)); refine (let tk : Nat := _; (?_ : wpAny _ _ _ _ _ ⟨_, _, _, tk, _⟩)))
 k_with "exec For Name Name cons nil" => (k_here; (rename Fr _ _ _ _ => lF'); (with_unfolding_all refine' For_invVF lF' ?k1 ?k2 ?_; (case k1 => exact rfl); (case k2 => exact rfl); k_whole))
 k_with "exec For Name Name" => (k_here; (rename Fr _ _ _ _ => lF'); (with_unfolding_all refine' For_invVF lF' ?k1 ?k2 ?_; (case k1 => exact rfl); (case k2 => exact rfl); k_whole))
 k_with "exec For Name" => (k_here; (rename Fr _ _ _ _ => lF'); (with_unfolding_all refine' For_invVF lF' ?k1 ?k2 ?_; (case k1 => exact rfl); (case k2 => exact rfl); k_whole))
 k_with "getAttr ref" => ((with_reducible show wpAny _ _ (getAttr (Value.ref (NI.a _)) _ _) _ _ _); refine stopped ?_)
 k_with "setAttr ref" => refine stopped ?_
 k_with "subscriptTail" => refine stopped ?_
 k_with "call builtin:list.clear" => refine stopped ?_
 k_with "getMethod ref" => refine stopped ?_
 k_with "call type:tuple" => refine stopped ?_
 refine gen_ (ledN ns ++ rest) ?_; intro tl htl
 rw [← htl] at N
 k_with_none
 k_with "k_all" => first | assumption | (intro p9 hp9; (repeat (rename _ ∧ _ => hc9; obtain ⟨_, _⟩ := hc9)); have h9 := allLt_mem2 (by assumption) _ hp9; exact nlt (Nat.lt_of_lt_of_le h9 (by omega)))
 k_with "execs cons" => (k_here; first | k_made | ((fail_if_success (fail_if_success k_gentoks)); refine (let tk : Nat := _; (?_ : wpAny _ _ _ _ _ ⟨_, _, _, tk, _⟩))) | ((with_reducible refine wpAny_execs_cons ?_); (try dsimp only); refine (let qv : Flow → Shared → Prop := _; (?_ : wpAny _ _ _ qv _ _))))
 k_with "execs nil" => (k_here; (fail_if_success (fail_if_success k_gentoks)); refine (let tk : Nat := _; (?_ : wpAny _ _ _ _ _ ⟨_, _, _, tk, _⟩)))
 k_with "exec For Name Name cons nil" => (k_here; (rename Fr _ _ _ _ => lF'); (with_unfolding_all refine' For_invVF lF' ?k1 ?k2 ?_; (case k1 => exact rfl); (case k2 => exact rfl); k_whole))
 k_with "exec For Name Name" => (k_here; (rename Fr _ _ _ _ => lF'); (with_unfolding_all refine' For_invVF lF' ?k1 ?k2 ?_; (case k1 => exact rfl); (case k2 => exact rfl); k_whole))
 k_with "exec For Name" => (k_here; (rename Fr _ _ _ _ => lF'); (with_unfolding_all refine' For_invVF lF' ?k1 ?k2 ?_; (case k1 => exact rfl); (case k2 => exact rfl); k_whole))
 k_with "getAttr ref" => ((with_reducible show wpAny _ _ (getAttr (Value.ref (NI.a _)) _ _) _ _ _); refine stopped ?_)
 k_with "setAttr ref" => refine stopped ?_
 k_with "subscriptTail" => refine stopped ?_
 k_with "call builtin:list.clear" => refine stopped ?_
 k_with "getMethod ref" => refine stopped ?_
 k_with "call type:tuple" => refine stopped ?_
 k_with "pyIter ref" => (refine stopped ?_)
 revert X
 k_fill
 intro X
 refine wpAny_call ?_
 k_dflt (refine' code_def (binds := [(Str.ofString "self", .ref xa)]) ?k1 ?k2 ?k3 ?k4 ?k5 ?kA ?kF ?kK ?k6 ?k7 ?k8 ?k9 ?kB ?_ ?c2 ?c3 ?c4 ?c5; (case kA => exact rfl); (case kF => exact rfl); (case kK => assumption); (case k1 => k_asm); (case k2 => k_asm); (case k3 => k_asm); (case k4 => k_asm); (case k5 => k_asm); (case k6 => k_is); (case k7 => k_is); (case k8 => ktr_room); (case k9 => first | exact BindsTo.of_eq rfl | exact binds_K (by k_in) rfl (by k_is) rfl rfl rfl); (case kB => exact locs rfl); (case c2 => exact rfl); (case c3 => exact rfl); (case c4 => exact rfl); (case c5 => decide); k_whole; intro g' L' h' FG' F' N' B' X' T'; (try dsimp only); (try k_fold))
 k_steps
 refine ⟨?_⟩
 rename Fr _ _ _ _ => F1
 rename News _ _ _ _ => N1
 have hsz : (strVals rs).size ≤ 16384 := by unfold strVals; rw [List.size_toArray, List.length_map]; lia
 refine kde_tupleOf F1 N1 (News.isList N1 mH3) hsz rfl fun T0 h1 F2 N2 l1 => ?_
 clear F1 N1
 rw [Array.toArray_toList] at N2
 k_steps
 refine ⟨?_⟩
 rename Fr _ _ _ _ => F3
 rename News _ _ _ _ => N3
 rw [htl] at N3
 have hTG0 : ∀ b ∈ D :: GK xa d n2 ns, T0 ≠ b := by
  intro b hb
  have : b < T0 := by
   refine asp hb ?_ fun hb => ?_
   ·exact l1 _ mH3
   refine asp hb ?_ fun hb => ?_
   ·exact l1 _ (.head _)
   refine asp hb ?_ fun hb => ?_
   ·exact l1 _ mH1
   refine asp hb ?_ fun hb => ?_
   ·exact l1 _ mH2
   refine el1_2 (mm1 hb) ?_; intro p hp e92; subst e92
   exact l1 p (mT4 (by rw [htl]; exact maL _ hp))
  exact (nlt this).symm
 refine tuple_s (σ := List NI) (fun c => (T0, (⟨.type "tuple", none, .seq (strVals rs) 0, #[]⟩ : Obj)) :: (xa, instObj 362 d) :: (d, tsR w t1 t2 t3 t4 t5 t6 n2 (.ref D) po nf) :: (n2, o2) :: (D, W.listOf (strVals rs) ep) :: (ledN c ++ rest)) (fun _ => []) []
  (fun i c => kvsN c = kvsN ns ∧ c.map (·.nm) = ns.map (·.nm) ∧ GK xa d n2 c = GK xa d n2 ns ∧ proj2 c = gout (proj2 ns) ((rs.map (·.1)).take i))
  ns rfl ⟨_, (N3 _ (.head _)).1, rfl, _, rfl⟩ (N3 _ (.head _)).2.1 F3 N3 ?hP (fn0 _) ?turn ?done
 case hP => exact ⟨rfl, rfl, rfl, rfl⟩
 case turn =>
  clear N3 F3
  intro i c v u h tk own wr hv hP hoffw hw hf F' N'
  refine (let Qt1 : Flow → Shared → Prop := _; (?_ : wpAny _ _ _ Qt1 _ _))
  refine (let mt1 : Str → Option Value := _; have F9 : Fr _ _ _ mt1 := F'; ?_)
  clear F'
  have F' := F9
  clear F9
  refine el0_4 (hP) ?_; (try clear hP); intro p1 p2 p3 p4
  refine el2_2 (strVals_get hv) ?_; intro b tb e92 hb; subst e92
  have hnn2 : (c.map (·.nm)).Nodup := by rw [p2]; exact hnn
  have hnd2 : (GK xa d n2 c).Nodup := by rw [p3]; exact hnd
  have hd2 : o2.IsDictOf (PySem.strKind rw_nq0317_01.prog w) (kvsN c) := by rw [p1]; exact hd
  have hbn : b ∈ c.map (·.nm) := by
   rw [p2]
   refine el1_2 (mm1 (List.mem_of_getElem? hb)) ?_; intro q hq e
   exact e ▸ hrn q hq
  refine el1_2 (mm1 hbn) ?_; intro e he hen
  have hen2 : e.nm = b := hen
  subst hen2
  have hbl : e.nm.length ≤ 64 := by
   rw [p2] at hbn
   refine el1_2 (mm1 hbn) ?_; intro e9 he9 q9
   rw [← show e9.nm = e.nm from q9]
   exact hln e9 he9
  refine gen_ ((T0, (⟨.type "tuple", none, .seq (strVals rs) 0, #[]⟩ : Obj)) :: (xa, instObj 362 d) :: (d, tsR w t1 t2 t3 t4 t5 t6 n2 (.ref D) po nf) :: (n2, o2) :: (D, W.listOf (strVals rs) ep) :: (ledN c ++ rest)) ?_; intro Lc hLc
  k_steps
  refine ⟨?_⟩
  rename Fr _ _ _ _ => F4
  rename News _ _ _ _ => N4
  have N5 : News g' L' h (Lc ++ own) := by rw [hLc]; exact N4
  clear N4
  have mem : ∀ q, q ∈ Lc → q ∈ Lc ++ own := fun q hq => maL _ hq
  have mn2 : (n2, o2) ∈ Lc ++ own := mem _ (by rw [hLc]; exact mH3)
  have mnd : ∀ q ∈ nodeL e, q ∈ Lc ++ own := fun q hq => mem _ (by rw [hLc]; exact mT5 (maL _ (mem_ledN he hq)))
  refine kdt_tail N5 mn2 hd2 (kdt_getItem N5 mn2 hd2 (strKind_is _ _ _ _) (nvalueAt_mem hnn2 he) ?_)
  k_steps
  refine ⟨?_⟩
  rename Fr _ _ _ _ => F6
  rename News _ _ _ _ => N6
  refine np_set F6 X' N6 (mnd _ (.head _)) (mnd _ mH1) fun h7 F7 N7 => ?_
  clear F6 N6
  k_steps
  show TurnEnd _ _ _ _ _ _ _
  refine gen_ (upX c e.nm fun e => { e with np := -1, tp := 578 }) ?_; intro c2 hc2
  have hGK2 : GK xa d n2 c2 = GK xa d n2 c := by rw [hc2, upX_GK (f := fun e => { e with np := -1, tp := 578 }) (fun _ => rfl)]
  have hTc : T0 ∉ GK xa d n2 c := fun hm => hTG0 _ (.tail _ (p3 ▸ hm)) rfl
  have hown : ∀ q ∈ own, q.1 ∉ GK xa d n2 c := by
   intro q hq hm
   rcases hf q hq with hw1 | hw1
   ·have hin : ∃ o, (q.1, o) ∈ Lc := by
     rw [hLc]
     rcases mc1 hm with e | hm
     ·exact ⟨_, by rw [e]; exact mH1⟩
     rcases mc1 hm with e | hm
     ·exact ⟨_, by rw [e]; exact mH2⟩
     rcases mc1 hm with e | hm
     ·exact ⟨_, by rw [e]; exact mH3⟩
     refine el1_2 (mm1 hm) ?_; intro z hz1 hz2
     exact ⟨z.2, by rw [← hz2]; exact mT5 (maL _ hz1)⟩
    refine el1_1 (hin) ?_; (try clear hin); intro o ho
    rw [hLc] at ho
    exact hoffw _ ho hw1
   exact hTc (hw1 ▸ hm)
  have hwr : ∀ b ∈ wr, b ∉ GK xa d n2 c := by
   intro b hb
   refine el1_1 (hw b hb) ?_; intro o ho
   exact hown (b, o) ho
  have hE : Lc ++ own = [(T0, (⟨.type "tuple", none, .seq (strVals rs) 0, #[]⟩ : Obj)), (xa, instObj 362 d), (d, tsR w t1 t2 t3 t4 t5 t6 n2 (.ref D) po nf), (n2, o2), (D, W.listOf (strVals rs) ep)] ++ (ledN c ++ (rest ++ own)) := by
   rw [hLc]
   simp
  refine el0_3 (GK_off hnd2) ?_; intro f1 f2 f3
  have hset := setAt_np (k := -1) (t := 578) (pre := [(T0, (⟨.type "tuple", none, .seq (strVals rs) 0, #[]⟩ : Obj)), (xa, instObj 362 d), (d, tsR w t1 t2 t3 t4 t5 t6 n2 (.ref D) po nf), (n2, o2), (D, W.listOf (strVals rs) ep)]) (rest := rest ++ own) hnn2 hnd2
   (fc1 ⟨fun hm => hTc (GK_sub hm), fc1 ⟨f1, fc1 ⟨f2, fc1 ⟨f3, fc1 ⟨fun hm => hD (p3 ▸ GK_sub hm), fn0 _⟩⟩⟩⟩⟩)
   (fun q hq => by
    refine ast hq (fun hq => ?_) fun hq => ?_
    ·exact fun hm => hoff q hq (.tail _ (p3 ▸ hm))
    exact hown q hq) he
  rw [hE] at N7
  rw [← hc2] at hset
  refine s_end (σ := List NI) c2 F7 N7 ?h1 ?h2 ?h3 ?hP (fn0 _) ?hz
  case h1 =>
   intro q hq
   refine hset q ?_
   have hq' : q ∈ [(T0, (⟨.type "tuple", none, .seq (strVals rs) 0, #[]⟩ : Obj)), (xa, instObj 362 d), (d, tsR w t1 t2 t3 t4 t5 t6 n2 (.ref D) po nf), (n2, o2), (D, W.listOf (strVals rs) ep)] ++ (ledN c2 ++ rest) := hq
   refine ast hq' (fun hq => ?_) fun hq => ?_
   ·exact maL _ hq
   refine ast hq (fun hq => ?_) fun hq => ?_
   ·exact maR _ (maL _ hq)
   exact maR _ (maR _ (maL _ hq))
  case h2 =>
   intro q hq
   exact hset q (maR _ (maR _ (maR _ hq)))
  case h3 =>
   intro q hq
   refine asp hq ?_ fun hq => ?_
   ·exact hoffw _ (.head _)
   refine asp hq ?_ fun hq => ?_
   ·exact hoffw _ mH1
   refine asp hq ?_ fun hq => ?_
   ·exact hoffw _ mH2
   refine asp hq ?_ fun hq => ?_
   ·exact hoffw _ mH3
   refine asp hq ?_ fun hq => ?_
   ·exact hoffw _ mH4
   refine ast hq (fun hq => ?_) fun hq => ?_
   ·exact fun hm => hwr _ hm (hGK2 ▸ GK_sub (mm2 ⟨q, hq, rfl⟩))
   exact hoffw q (mT5 (maR _ hq))
  case hP =>
   refine ⟨?_, ?_, hGK2.trans p3, ?_⟩
   ·rw [hc2, upX_kvs (f := fun e => { e with np := -1, tp := 578 }) (fun _ => rfl) (fun _ => rfl)]; exact p1
   ·rw [hc2, upX_nms (f := fun e => { e with np := -1, tp := 578 }) (fun _ => rfl)]; exact p2
   rw [hc2, proj2_up (f' := fun e => { e with np := -1 }) (fun _ => rfl), p4, List.take_add_one, hb]
   unfold gout
   rw [List.foldl_append]
   rfl
  intro z h1 _ h2
  have e2 : z ≠ Str.ofString "node" := ne_rev h1 (by decide)
  dsimp only [mt1]
  rw [if_neg e2]
  exact kst_rest h2
 clear N3 F3
 intro c u h tk ⟨p1, p2, p3, p4⟩ F3 N3
 have hTG : ∀ p ∈ ledN c ++ rest, p.1 ≠ D := by
  intro p hp e
  refine ast hp (fun hp => ?_) fun hp => ?_
  ·exact hD (by rw [← p3]; exact GK_sub (mm2 ⟨p, hp, e⟩))
  exact hoff p hp (e ▸ .head _)
 k_steps
 refine ⟨?_⟩
 refine lmeth_S PySem.F.slot_list_clear PySem.F.type_list_clear N3 mH4 ?_
 k_steps
 refine ⟨?_⟩
 refine clear_S F3 N3 mH4 (by lia) fun h8 ep8 F8 N8 => ?_
 clear F3 N3
 have N9 : News g' L' h8 ((T0, (⟨.type "tuple", none, .seq (strVals rs) 0, #[]⟩ : Obj)) :: (xa, instObj 362 d) :: (d, tsR w t1 t2 t3 t4 t5 t6 n2 (.ref D) po nf) :: (n2, o2) :: (D, W.listOf #[] ep8) :: (ledN c ++ rest)) := nsub N8 (sbc (msN (.head _) (hTG0 _ (.head _))) (sbc (msN mH1 (fun e => hD (e ▸ .head _))) (sbc (msN mH2 (fun e => hD (e ▸ mH1))) (sbc (msN mH3 (fun e => hD (e ▸ mH2))) (sbc (mem_setAt_self mH4) (fun q hq => msN (mT5 hq) (hTG q hq)))))))
 clear N8
 k_steps
 refine ⟨?_⟩
 rename Fr _ _ _ _ => F10
 rename News _ _ _ _ => N10
 refine po_set F10 X' N10 mH1 mH2 fun h11 F11 N11 => ?_
 clear F10 N10
 refine (let G9 : Prop := _; (?_ : G9))
 obtain ⟨t4', po', N12⟩ : ∃ t4' po', News g' L' h11 (setAt d (tsR w t1 t2 t3 t4' t5 t6 n2 (.ref D) po' nf) ((T0, (⟨.type "tuple", none, .seq (strVals rs) 0, #[]⟩ : Obj)) :: (xa, instObj 362 d) :: (d, tsR w t1 t2 t3 t4 t5 t6 n2 (.ref D) po nf) :: (n2, o2) :: (D, W.listOf #[] ep8) :: (ledN c ++ rest))) := ⟨_, _, N11⟩
 refine (?_ : wpAny _ _ _ _ _ _)
 clear N11
 have hdG : ∀ q ∈ ledN c ++ rest, q.1 ≠ d := by
  intro q hq e
  refine ast hq (fun hq => ?_) fun hq => ?_
  ·exact (GK_off hnd).2.1 (by
    have h9 : GK xa d n2 c = GK xa d n2 ns := p3
    unfold GK at h9
    injection h9 with _ h9
    injection h9 with _ h9
    injection h9 with _ h9
    rw [← h9]
    exact mm2 ⟨q, hq, e⟩)
  exact hoff q hq (e ▸ mH2)
 have hdx : xa ≠ d ∧ n2 ≠ d := by
  have q1 := nc1 hnd
  have q2 := nc1 q1.2
  exact ⟨fun e => q1.1 (e ▸ .head _), fun e => q2.1 (e ▸ .head _)⟩
 have N13 : News g' L' h11 ((T0, (⟨.type "tuple", none, .seq (strVals rs) 0, #[]⟩ : Obj)) :: (xa, instObj 362 d) :: (d, tsR w t1 t2 t3 t4' t5 t6 n2 (.ref D) po' nf) :: (n2, o2) :: (D, W.listOf #[] ep8) :: (ledN c ++ rest)) := nsub N12 (sbc (msN (.head _) (hTG0 _ mH2)) (sbc (msN mH1 hdx.1) (sbc (mem_setAt_self mH2) (sbc (msN mH3 hdx.2) (sbc (msN mH4 (fun e => hD (e ▸ mH1))) (fun q hq => msN (mT5 hq) (hdG q hq)))))))
 clear N12
 k_steps
 rename Fr h₀ _ _ _ => kF
 rename News h₀ _ _ _ => kN
 refine hret T0 c t4' po' ep8 _ _ p1 p2 p3 ?_ (fun hm => hTG0 _ hm rfl) (fun q hq e => ?_) kF kN
 ·rw [p4, List.take_of_length_le]
  unfold strVals
  simp
 have := l1 q (mT4 (by rw [htl]; exact maR _ hq))
 rw [e] at this
 exact Nat.lt_irrefl _ this
noncomputable def gnp (g : Gr) (b : Str) : Int := match g.find? fun e => e.nm = b with | some e => e.np | none => 0
noncomputable def gsc (g : Gr) (b : Str) : List Str := match g.find? fun e => e.nm = b with | some e => e.sc | none => []
noncomputable def gdec (st : Gr × List Str) (b : Str) : Gr × List Str := (gup st.1 b fun e => { e with np := e.np - 1 }, if gnp st.1 b = 1 then st.2 ++ [b] else st.2)
noncomputable def gdone1 (st : Gr × List Str) (x : Str) : Gr × List Str := (gsc st.1 x).foldl gdec (gup st.1 x fun e => { e with np := -2 }, st.2)
noncomputable def gdone (st : Gr × List Str) (xs : List Str) : Gr × List Str := xs.foldl gdone1 st
theorem gfind_of {ns : List NI} (hnn : (ns.map (·.nm)).Nodup) {e : NI} (he : e ∈ ns) : (proj2 ns).find? (fun g => g.nm = e.nm) = some (projN e) := by
 unfold proj2
 rw [List.find?_map]
 cases hf : ns.find? ((fun e' : GN => decide (e'.nm = e.nm)) ∘ projN) with
 | none => exact absurd (List.find?_eq_none.mp hf e he) (by simp [projN])
 | some e' =>
  have h0 := List.find?_some hf
  have h00 : decide ((projN e').nm = e.nm) = true := h0
  have h1 : (projN e').nm = e.nm := of_decide_eq_true h00
  have h2 : e'.nm = e.nm := h1
  rw [nodup_inj hnn (List.mem_of_find?_eq_some hf) he h2]
  rfl
theorem gnp_of {ns : List NI} (hnn : (ns.map (·.nm)).Nodup) {e : NI} (he : e ∈ ns) : gnp (proj2 ns) e.nm = e.np := by
 unfold gnp
 rw [gfind_of hnn he]
 rfl
theorem gsc_of {ns : List NI} (hnn : (ns.map (·.nm)).Nodup) {e : NI} (he : e ∈ ns) : gsc (proj2 ns) e.nm = e.sc.map (·.1) := by
 unfold gsc
 rw [gfind_of hnn he]
 rfl
theorem gfind_up {g : Gr} {x : Str} {f : GN → GN} (h : ∀ e, (f e).nm = e.nm) (b : Str) : (gup g x f).find? (fun e => e.nm = b) = (g.find? fun e => e.nm = b).map fun e => if e.nm = x then f e else e := by
 unfold gup
 rw [List.find?_map]
 congr 1
 congr 1
 funext e
 show decide ((if e.nm = x then f e else e).nm = b) = decide (e.nm = b)
 split
 ·rw [h]
 rfl
theorem gsc_up {g : Gr} {x : Str} {f : GN → GN} (h : ∀ e, (f e).nm = e.nm) (h2 : ∀ e, (f e).sc = e.sc) (b : Str) : gsc (gup g x f) b = gsc g b := by
 unfold gsc
 rw [gfind_up h]
 cases g.find? fun e => e.nm = b with
 | none => rfl
 | some e =>
  show (if e.nm = x then f e else e).sc = e.sc
  split
  ·exact h2 e
  rfl
theorem gnp_up_ne {g : Gr} {x : Str} {f : GN → GN} (h : ∀ e, (f e).nm = e.nm) {b : Str} (hb : b ≠ x) : gnp (gup g x f) b = gnp g b := by
 unfold gnp
 rw [gfind_up h]
 cases hf : g.find? fun e => e.nm = b with
 | none => rfl
 | some e =>
  have h1 : e.nm = b := by simpa using List.find?_some hf
  show (if e.nm = x then f e else e).np = e.np
  rw [if_neg (by rw [h1]; exact hb)]
theorem gsc_dec (st : Gr × List Str) (c b : Str) : gsc (gdec st c).1 b = gsc st.1 b := gsc_up (f := fun e => { e with np := e.np - 1 }) (fun _ => rfl) (fun _ => rfl) b
theorem gsc_foldl : ∀ (l : List Str) (st : Gr × List Str) (b : Str), gsc (l.foldl gdec st).1 b = gsc st.1 b
 | [], _, _ => rfl
 | c :: l, st, b => by rw [List.foldl_cons, gsc_foldl l, gsc_dec]
theorem gnp_foldl : ∀ (l : List Str) (st : Gr × List Str) (b : Str), b ∉ l → gnp (l.foldl gdec st).1 b = gnp st.1 b
 | [], _, _, _ => rfl
 | c :: l, st, b, h => by
  rw [List.foldl_cons, gnp_foldl l _ _ (fun hm => h (.tail _ hm))]
  exact gnp_up_ne (f := fun e => { e with np := e.np - 1 }) (fun _ => rfl) (fun e => h (by rw [e]; exact .head _))
theorem gdone1_sc (st : Gr × List Str) (x b : Str) : gsc (gdone1 st x).1 b = gsc st.1 b := by
 unfold gdone1
 rw [gsc_foldl]
 exact gsc_up (f := fun e => { e with np := -2 }) (fun _ => rfl) (fun _ => rfl) b
theorem gdone1_np (st : Gr × List Str) {x b : Str} (h1 : b ≠ x) (h2 : b ∉ gsc st.1 x) : gnp (gdone1 st x).1 b = gnp st.1 b := by
 unfold gdone1
 rw [gnp_foldl _ _ _ h2]
 exact gnp_up_ne (f := fun e => { e with np := -2 }) (fun _ => rfl) h1
theorem upX_mem {ns : List NI} {x : Str} {f : NI → NI} {e : NI} (he : e ∈ ns) : (if e.nm = x then f e else e) ∈ upX ns x f := mm2 ⟨e, he, rfl⟩
theorem proj2_up_at {ns : List NI} {x : Str} {f : NI → NI} {f' : GN → GN} (h : ∀ e ∈ ns, e.nm = x → projN (f e) = f' (projN e)) : proj2 (upX ns x f) = gup (proj2 ns) x f' := by
 unfold proj2 upX gup
 rw [List.map_map, List.map_map]
 apply List.map_congr_left
 intro e he
 show projN (if e.nm = x then f e else e) = if (projN e).nm = x then f' (projN e) else projN e
 have : (projN e).nm = e.nm := rfl
 rw [this]
 split
 ·rename_i h1; exact h e he h1
 rfl
structure DS where
 ns : List NI
 rs : List (Str × Tok)
 ep : Nat
 t6 : Tok
 nf : Int
theorem done_k (w : World) (p : Program) (lo : List Str) (mean : ExcName → Option Value) (mg mb : Str → Option Value)
  (gd : Option (List Code)) (cn : Str) (cs : Scope) (a : Addr) (ccd : Value) (cl : List (Str × Addr)) (outer : List Env) (A₀ : Around) (base h₀ : Heap) (L : Addr) (m : Str → Option Value) (rest : List (Addr × Obj)) (s : Shared)
  (xa d n2 D : Addr) (o2 : Obj) (ns : List NI) (xs rs : List (Str × Tok)) (ep : Nat) (t1 t2 t3 t4 t5 t6 : Tok) (po nf : Int) (vs : List Value) (Q E : Value → Shared → Prop)
  (B : Below A₀ base outer h₀) (F : Fr h₀ L s.heap m) (X : (Mine.K w.params).In h₀) (N : News h₀ L s.heap ((xa, instObj 362 d) :: (d, tsR w t1 t2 t3 t4 t5 t6 n2 (.ref D) po nf) :: (n2, o2) :: (D, W.listOf (strVals rs) ep) :: (ledN ns ++ rest))) (T : Top p lo mean mg mb h₀) (hk : cs.kind = .function)
  (hd : o2.IsDictOf (PySem.strKind rw_nq0317_01.prog w) (kvsN ns)) (lo2 : (n2 == sysModules) = false) (hnn : (ns.map (·.nm)).Nodup) (hl : ns.length ≤ 100) (hxl : xs.length ≤ 100) (hxn : ∀ q ∈ xs, q.1 ∈ ns.map (·.nm)) (hln : ∀ e ∈ ns, e.nm.length ≤ 64)
  (hnd : (GK xa d n2 ns).Nodup) (hoff : ∀ p ∈ rest, p.1 ∉ D :: GK xa d n2 ns) (hD : D ∉ GK xa d n2 ns) (hvs : vs = xs.map fun q => Value.str q.1 q.2) (hvl : vs.length ≤ 18) (hout : ∀ q ∈ xs, gnp (proj2 ns) q.1 = -1) (hxd : (xs.map (·.1)).Nodup) (hns : ∀ q ∈ xs, ∀ r ∈ xs, r.1 ∉ gsc (proj2 ns) q.1) (hscl : ∀ e ∈ ns, e.sc.length ≤ 1000) (hcl : ∀ x b, b ∈ gsc (proj2 ns) x → b ∈ ns.map (·.nm)) (hrl : rs.length ≤ 100)
  (hret : ∀ T0 (c : DS) h' tk', kvsN c.ns = kvsN ns → c.ns.map (·.nm) = ns.map (·.nm) → GK xa d n2 c.ns = GK xa d n2 ns → (proj2 c.ns, c.rs.map (·.1)) = gdone (proj2 ns, rs.map (·.1)) (xs.map (·.1)) → T0 ∉ D :: GK xa d n2 ns → (∀ p ∈ rest, p.1 ≠ T0) → Fr h₀ L h' m →
   News h₀ L h' ((T0, (⟨.type "tuple", none, .seq vs.toArray 0, #[]⟩ : Obj)) :: (xa, instObj 362 d) :: (d, tsR w t1 t2 t3 t4 t5 c.t6 n2 (.ref D) po c.nf) :: (n2, o2) :: (D, W.listOf (strVals c.rs) c.ep) :: (ledN c.ns ++ rest)) → Q .none { s with heap := h', toks := tk' }) :
  codeAny (model (rw_nq0317_01.prog) w) (ktrTop 350 500 gd cn cs L a ccd cl outer) (.call (.ref 345) ⟨.ref xa :: vs, []⟩) (fun r s' => match r with | .ok (.ret v) => Q v s' | .ok _ => False | .error e => E e s') s := by
 k_with_none
 k_with "k_all" => first | assumption | (intro p9 hp9; (repeat (rename _ ∧ _ => hc9; obtain ⟨_, _⟩ := hc9)); have h9 := allLt_mem2 (by assumption) _ hp9; exact nlt (Nat.lt_of_lt_of_le h9 (by omega)))
 k_with "execs cons" => (k_here; first | k_made | ((fail_if_success (fail_if_success k_gentoks)); refine (let tk : Nat := _; (?_ : wpAny _ _ _ _ _ ⟨_, _, _, tk, _⟩))) | ((with_reducible refine wpAny_execs_cons ?_); (try dsimp only); refine (let qv : Flow → Shared → Prop := _; (?_ : wpAny _ _ _ qv _ _))))
 k_with "execs nil" => (k_here; (fail_if_success (fail_if_success k_gentoks)); refine (let tk : Nat := _; (?_ : wpAny _ _ _ _ _ ⟨_, _, _, tk, _⟩)))
 k_with "exec For Name Name cons nil" => (k_here; (rename Fr _ _ _ _ => lF'); (with_unfolding_all refine' For_invVF lF' ?k1 ?k2 ?_; (case k1 => exact rfl); (case k2 => exact rfl); k_whole))
 k_with "exec For Name Name" => (k_here; (rename Fr _ _ _ _ => lF'); (with_unfolding_all refine' For_invVF lF' ?k1 ?k2 ?_; (case k1 => exact rfl); (case k2 => exact rfl); k_whole))
 k_with "exec For Name" => (k_here; (rename Fr _ _ _ _ => lF'); (with_unfolding_all refine' For_invVF lF' ?k1 ?k2 ?_; (case k1 => exact rfl); (case k2 => exact rfl); k_whole))
 k_with "getAttr ref" => ((with_reducible show wpAny _ _ (getAttr (Value.ref (NI.a _)) _ _) _ _ _); refine stopped ?_)
 k_with "setAttr ref" => refine stopped ?_
 k_with "subscriptTail" => refine stopped ?_
 k_with "call builtin:dict.get" => refine stopped ?_
 k_with "call builtin:list.append" => refine stopped ?_
 k_with "getMethod ref" => ((with_reducible show wpAny _ _ (getMethod (Value.ref _) (Str.ofString "append") _) _ _ _); refine stopped ?_)
 refine gen_ (ledN ns ++ rest) ?_; intro tl htl
 rw [← htl] at N
 k_with_none
 k_with "k_all" => first | assumption | (intro p9 hp9; (repeat (rename _ ∧ _ => hc9; obtain ⟨_, _⟩ := hc9)); have h9 := allLt_mem2 (by assumption) _ hp9; exact nlt (Nat.lt_of_lt_of_le h9 (by omega)))
 k_with "execs cons" => (k_here; first | k_made | ((fail_if_success (fail_if_success k_gentoks)); refine (let tk : Nat := _; (?_ : wpAny _ _ _ _ _ ⟨_, _, _, tk, _⟩))) | ((with_reducible refine wpAny_execs_cons ?_); (try dsimp only); refine (let qv : Flow → Shared → Prop := _; (?_ : wpAny _ _ _ qv _ _))))
 k_with "execs nil" => (k_here; (fail_if_success (fail_if_success k_gentoks)); refine (let tk : Nat := _; (?_ : wpAny _ _ _ _ _ ⟨_, _, _, tk, _⟩)))
 k_with "exec For Name Name cons nil" => (k_here; (rename Fr _ _ _ _ => lF'); (with_unfolding_all refine' For_invVF lF' ?k1 ?k2 ?_; (case k1 => exact rfl); (case k2 => exact rfl); k_whole))
 k_with "exec For Name Name" => (k_here; (rename Fr _ _ _ _ => lF'); (with_unfolding_all refine' For_invVF lF' ?k1 ?k2 ?_; (case k1 => exact rfl); (case k2 => exact rfl); k_whole))
 k_with "exec For Name" => (k_here; (rename Fr _ _ _ _ => lF'); (with_unfolding_all refine' For_invVF lF' ?k1 ?k2 ?_; (case k1 => exact rfl); (case k2 => exact rfl); k_whole))
 k_with "getAttr ref" => ((with_reducible show wpAny _ _ (getAttr (Value.ref (NI.a _)) _ _) _ _ _); refine stopped ?_)
 k_with "setAttr ref" => refine stopped ?_
 k_with "subscriptTail" => refine stopped ?_
 k_with "call builtin:dict.get" => refine stopped ?_
 k_with "call builtin:list.append" => refine stopped ?_
 k_with "getMethod ref" => ((with_reducible show wpAny _ _ (getMethod (Value.ref _) (Str.ofString "append") _) _ _ _); refine stopped ?_)
 k_with "pyIter ref" => (refine stopped ?_)
 revert X
 k_fill
 intro X
 k_dflt (refine' kp_rest (vs := vs) (g₁ := fun D => some [(Str.ofString "self", Value.ref xa), (Str.ofString "nodes", Value.ref D)]) (binds := fun D => [(Str.ofString "self", Value.ref xa), (Str.ofString "nodes", Value.ref D)]) ?k1 ?k2 ?k3 ?k4 ?k5 ?kA ?kF ?kK ?k6 ?k7 ?k8 ?kV ?kP ?kG ?kB ?_ ?c2 ?c3 ?c4 ?c5; (case kA => exact rfl); (case kF => exact rfl); (case kK => assumption); (case k1 => k_asm); (case k2 => k_asm); (case k3 => k_asm); (case k4 => k_asm); (case k5 => k_asm); (case k6 => k_is); (case k7 => k_is); (case k8 => ktr_room); (case kV => exact rfl); (case kP => (clear hvs; (iterate 18 (rcases vs with _ | ⟨_, vs⟩; exact rfl)); rcases vs with _ | ⟨_, vs⟩; exact rfl; (simp at hvl))); (case kG => exact fun _ => rfl); (case kB => exact fun _ => locs rfl); (case c5 => decide); (case c2 => exact rfl); (case c3 => exact rfl); (case c4 => exact rfl); k_whole; intro D' g' L' h' l1 FG' F' N' B' X' T'; (try dsimp only); (try k_fold))
 k_steps
 refine ⟨?_⟩
 rename Fr _ _ _ _ => F3
 rename News _ _ _ _ => N3
 rw [htl] at N3
 have hTG0 : ∀ b ∈ D :: GK xa d n2 ns, D' ≠ b := by
  intro b hb
  have : b < D' := by
   refine asp hb ?_ fun hb => ?_
   ·exact l1 _ mH3
   refine asp hb ?_ fun hb => ?_
   ·exact l1 _ (.head _)
   refine asp hb ?_ fun hb => ?_
   ·exact l1 _ mH1
   refine asp hb ?_ fun hb => ?_
   ·exact l1 _ mH2
   refine el1_2 (mm1 hb) ?_; intro p hp e92; subst e92
   exact l1 p (mT4 (by rw [htl]; exact maL _ hp))
  exact (nlt this).symm
 refine tuple_s (σ := DS) (fun c => (D', (⟨.type "tuple", none, .seq vs.toArray 0, #[]⟩ : Obj)) :: (xa, instObj 362 d) :: (d, tsR w t1 t2 t3 t4 t5 c.t6 n2 (.ref D) po c.nf) :: (n2, o2) :: (D, W.listOf (strVals c.rs) c.ep) :: (ledN c.ns ++ rest)) (fun _ => [])
  [Str.ofString "nodeinfo", Str.ofString "stat", Str.ofString "successor", Str.ofString "successor_info"]
  (fun i c => kvsN c.ns = kvsN ns ∧ c.ns.map (·.nm) = ns.map (·.nm) ∧ GK xa d n2 c.ns = GK xa d n2 ns ∧ (proj2 c.ns, c.rs.map (·.1)) = gdone (proj2 ns, rs.map (·.1)) ((xs.map (·.1)).take i) ∧
   (∀ x, gsc (proj2 c.ns) x = gsc (proj2 ns) x) ∧ (∀ j q, i ≤ j → xs[j]? = some q → gnp (proj2 c.ns) q.1 = -1) ∧ c.rs.length ≤ rs.length + i * 1000)
  ⟨ns, rs, ep, t6, nf⟩ rfl ⟨_, (N3 _ (.head _)).1, rfl, _, rfl⟩ (N3 _ (.head _)).2.1 F3 N3 ?hP (fn0 _) ?turn ?done
 case hP => exact ⟨rfl, rfl, rfl, rfl, fun _ => rfl, fun j q _ hq => hout q (List.mem_of_getElem? hq), Nat.le_add_right _ _⟩
 case turn =>
  clear N3 F3
  intro i c v u h tk own wr hv hP hoffw hw hf F' N'
  refine (let Qt1 : Flow → Shared → Prop := _; (?_ : wpAny _ _ _ Qt1 _ _))
  refine (let mt1 : Str → Option Value := _; have F9 : Fr _ _ _ mt1 := F'; ?_)
  clear F'
  have F' := F9
  clear F9
  refine el0_7 (hP) ?_; (try clear hP); intro p1 p2 p3 p4 p5 p6 p7
  refine (let G9 : Prop := _; (?_ : G9))
  obtain ⟨x, hx, rfl⟩ : ∃ x, xs[i]? = some x ∧ v = .str x.1 x.2 := by
   rw [hvs, List.getElem?_toArray, List.getElem?_map] at hv
   refine el1_2 (Option.map_eq_some_iff.mp hv) ?_; intro x hx e92; subst e92
   exact ⟨x, hx, rfl⟩
  refine (?_ : wpAny _ _ _ _ _ _)
  have hnn2 : (c.ns.map (·.nm)).Nodup := by rw [p2]; exact hnn
  have hnd2 : (GK xa d n2 c.ns).Nodup := by rw [p3]; exact hnd
  have hd2 : o2.IsDictOf (PySem.strKind rw_nq0317_01.prog w) (kvsN c.ns) := by rw [p1]; exact hd
  have hbn : x.1 ∈ c.ns.map (·.nm) := by rw [p2]; exact hxn x (List.mem_of_getElem? hx)
  refine el1_2 (mm1 hbn) ?_; intro e he hen
  have hen2 : e.nm = x.1 := hen
  obtain ⟨xnm, xtk⟩ := x
  have hen3 : e.nm = xnm := hen2
  subst hen3
  have hnp : e.np = -1 := by
   have h9 := p6 i _ (Nat.le_refl _) hx
   rw [← h9]
   exact (gnp_of hnn2 he).symm
  refine gen_ ((D', (⟨.type "tuple", none, .seq vs.toArray 0, #[]⟩ : Obj)) :: (xa, instObj 362 d) :: (d, tsR w t1 t2 t3 t4 t5 c.t6 n2 (.ref D) po c.nf) :: (n2, o2) :: (D, W.listOf (strVals c.rs) c.ep) :: (ledN c.ns ++ rest)) ?_; intro Lc hLc
  k_steps
  refine ⟨?_⟩
  rename Fr _ _ _ _ => F4
  rename News _ _ _ _ => N4
  have N5 : News g' L' h (Lc ++ own) := by rw [hLc]; exact N4
  clear N4
  have mem : ∀ q, q ∈ Lc → q ∈ Lc ++ own := fun q hq => maL _ hq
  have mn2 : (n2, o2) ∈ Lc ++ own := mem _ (by rw [hLc]; exact mH3)
  have mnd : ∀ q ∈ nodeL e, q ∈ Lc ++ own := fun q hq => mem _ (by rw [hLc]; exact mT5 (maL _ (mem_ledN he hq)))
  refine get1_some N5 mn2 hd2 lo2 (strKind_is _ _ _ _) (nvalueAt_mem hnn2 he) ?_
  k_steps
  refine ⟨?_⟩
  rename Fr _ _ _ _ => F6
  rename News _ _ _ _ => N6
  refine np_get F6 X' N6 (mnd _ (.head _)) (mnd _ mH1) ?_
  rw [hnp]
  k_steps
  refine ⟨?_⟩
  rename Fr _ _ _ _ => F7
  rename News _ _ _ _ => N7
  refine np_set F7 X' N7 (mnd _ (.head _)) (mnd _ mH1) fun h8 F8 N8 => ?_
  clear F7 N7
  refine (let G9 : Prop := _; (?_ : G9))
  obtain ⟨t8, N8'⟩ : ∃ t8, News g' L' h8 (setAt e.a (niRaw e.ad e.nm e.tn (-2) t8 e.sl) (Lc ++ own)) := ⟨_, N8⟩
  refine (?_ : wpAny _ _ _ _ _ _)
  clear N8
  refine gen_ (upX c.ns e.nm fun e => { e with np := -2, tp := t8 }) ?_; intro c2 hc2
  have hGK2 : GK xa d n2 c2 = GK xa d n2 c.ns := by rw [hc2, upX_GK (f := fun e => { e with np := -2, tp := t8 }) (fun _ => rfl)]
  have hTc : D' ∉ GK xa d n2 c.ns := fun hm => hTG0 _ (.tail _ (p3 ▸ hm)) rfl
  have hown : ∀ q ∈ own, q.1 ∉ GK xa d n2 c.ns := by
   intro q hq hm
   rcases hf q hq with hw1 | hw1
   ·have hin : ∃ o, (q.1, o) ∈ Lc := by
     rw [hLc]
     rcases mc1 hm with e | hm
     ·exact ⟨_, by rw [e]; exact mH1⟩
     rcases mc1 hm with e | hm
     ·exact ⟨_, by rw [e]; exact mH2⟩
     rcases mc1 hm with e | hm
     ·exact ⟨_, by rw [e]; exact mH3⟩
     refine el1_2 (mm1 hm) ?_; intro z hz1 hz2
     exact ⟨z.2, by rw [← hz2]; exact mT5 (maL _ hz1)⟩
    refine el1_1 (hin) ?_; (try clear hin); intro o ho
    rw [hLc] at ho
    exact hoffw _ ho hw1
   exact hTc (hw1 ▸ hm)
  have hE : Lc ++ own = [(D', (⟨.type "tuple", none, .seq vs.toArray 0, #[]⟩ : Obj)), (xa, instObj 362 d), (d, tsR w t1 t2 t3 t4 t5 c.t6 n2 (.ref D) po c.nf), (n2, o2), (D, W.listOf (strVals c.rs) c.ep)] ++ (ledN c.ns ++ (rest ++ own)) := by
   rw [hLc]
   simp
  refine el0_3 (GK_off hnd2) ?_; intro f1 f2 f3
  have hset := setAt_np (k := -2) (t := t8) (pre := [(D', (⟨.type "tuple", none, .seq vs.toArray 0, #[]⟩ : Obj)), (xa, instObj 362 d), (d, tsR w t1 t2 t3 t4 t5 c.t6 n2 (.ref D) po c.nf), (n2, o2), (D, W.listOf (strVals c.rs) c.ep)]) (rest := rest ++ own) hnn2 hnd2
   (fc1 ⟨fun hm => hTc (GK_sub hm), fc1 ⟨f1, fc1 ⟨f2, fc1 ⟨f3, fc1 ⟨fun hm => hD (p3 ▸ GK_sub hm), fn0 _⟩⟩⟩⟩⟩)
   (fun q hq => by
    refine ast hq (fun hq => ?_) fun hq => ?_
    ·exact fun hm => hoff q hq (.tail _ (p3 ▸ hm))
    exact hown q hq) he
  rw [hE] at N8'
  rw [← hc2] at hset
  have N9 := nsub N8' hset
  clear N8'
  simp only [List.cons_append, List.nil_append] at N9
  have hec2 : ∃ e2 ∈ c2, e2.nm = e.nm ∧ e2.a = e.a ∧ e2.ad = e.ad ∧ e2.tn = e.tn ∧ e2.sl = e.sl ∧ e2.sc = e.sc ∧ e2.ep = e.ep ∧ e2.np = -2 ∧ e2.tp = t8 := by
   refine ⟨{ e with np := -2, tp := t8 }, ?_, rfl, rfl, rfl, rfl, rfl, rfl, rfl, rfl, rfl⟩
   rw [hc2]
   exact mm2 ⟨e, he, if_pos rfl⟩
  refine (let G9 : Prop := _; (?_ : G9))
  obtain ⟨e2, he2, q1, q2, q3, q4, q5, q6, q7, q8, q9⟩ := hec2
  refine (?_ : wpAny _ _ _ _ _ _)
  have mnd2 : ∀ q ∈ nodeL e2, q ∈ (D', (⟨.type "tuple", none, .seq vs.toArray 0, #[]⟩ : Obj)) :: (xa, instObj 362 d) :: (d, tsR w t1 t2 t3 t4 t5 c.t6 n2 (.ref D) po c.nf) :: (n2, o2) :: (D, W.listOf (strVals c.rs) c.ep) :: (ledN c2 ++ (rest ++ own)) := fun q hq => mT5 (maL _ (mem_ledN he2 hq))
  k_steps
  refine ⟨?_⟩
  rename Fr _ _ _ _ => F10
  rename News _ _ _ _ => N10
  rw [← q2]
  refine sc_get F10 X' N10 (mnd2 _ (.head _)) (mnd2 _ mH1) ?_
  k_steps
  refine ⟨?_⟩
  rename Fr _ _ _ _ => F11
  rename News _ _ _ _ => N11
  have hscb : ∀ e ∈ c.ns, e.sc.length ≤ 1000 := by
   intro e he
   have hm : e.nm ∈ ns.map (·.nm) := p2 ▸ mm2 ⟨e, he, rfl⟩
   refine el1_2 (mm1 hm) ?_; intro e0 he0 h0
   have h1 := gsc_of hnn he0
   have h2 := gsc_of hnn2 he
   have h0' : e0.nm = e.nm := h0
   rw [h0'] at h1
   rw [p5, h1] at h2
   have h3 := congrArg List.length h2
   simp at h3
   have := hscl e0 he0
   lia
  have hg1 : gdone1 (proj2 c.ns, c.rs.map (·.1)) e.nm = (e.sc.map (·.1)).foldl gdec (gup (proj2 c.ns) e.nm fun e => { e with np := -2 }, c.rs.map (·.1)) := by
   unfold gdone1
   rw [gsc_of hnn2 he]
  refine list_s (σ := DS) (fun c' => (D', (⟨.type "tuple", none, .seq vs.toArray 0, #[]⟩ : Obj)) :: (xa, instObj 362 d) :: (d, tsR w t1 t2 t3 t4 t5 c.t6 n2 (.ref D) po c.nf) :: (n2, o2) :: (D, W.listOf (strVals c'.rs) c'.ep) :: (ledN c'.ns ++ (rest ++ own))) (fun _ => [])
   [Str.ofString "successor_info"]
   (fun i' c' => kvsN c'.ns = kvsN ns ∧ c'.ns.map (·.nm) = ns.map (·.nm) ∧ GK xa d n2 c'.ns = GK xa d n2 ns ∧ (proj2 c'.ns, c'.rs.map (·.1)) = ((e.sc.map (·.1)).take i').foldl gdec (gup (proj2 c.ns) e.nm fun e => { e with np := -2 }, c.rs.map (·.1)) ∧
    (∀ x, gsc (proj2 c'.ns) x = gsc (proj2 ns) x) ∧ c'.rs.length ≤ c.rs.length + i' ∧ (∃ e' ∈ c'.ns, e'.sl = e2.sl ∧ e'.sc = e2.sc ∧ e'.ep = e2.ep))
   ⟨c2, c.rs, c.ep, c.t6, c.nf⟩ rfl (News.isList N11 (mnd2 _ mH2)) (N11 _ (mnd2 _ mH2)).2.1 F11 N11 ?hPi (fn0 _) ?turni ?donei
  case hPi =>
   refine ⟨?_, ?_, hGK2.trans p3, ?_, ?_, Nat.le_refl _, ⟨e2, he2, rfl, rfl, rfl⟩⟩
   ·rw [hc2, upX_kvs (f := fun e => { e with np := -2, tp := t8 }) (fun _ => rfl) (fun _ => rfl)]; exact p1
   ·rw [hc2, upX_nms (f := fun e => { e with np := -2, tp := t8 }) (fun _ => rfl)]; exact p2
   ·rw [hc2, proj2_up (f' := fun e => { e with np := -2 }) (fun _ => rfl)]
    rfl
   intro x
   rw [hc2, proj2_up (f' := fun e => { e with np := -2 }) (fun _ => rfl), gsc_up (f := fun e => { e with np := -2 }) (fun _ => rfl) (fun _ => rfl)]
   exact p5 x
  case turni =>
   clear N11 F11
   intro i' c' v' u' h' tk' own' wr' hv' hP' hoffw' hw' hf' F'' N''
   refine el2_2 (strVals_get hv') ?_; intro b tb e92 hb; subst e92
   refine (let G9 : Prop := _; (?_ : G9))
   obtain ⟨r1, r2, r3, r4, r5, r6, es, hes, s1, s2, s3⟩ := hP'
   refine (?_ : wpAny _ _ _ _ _ _)
   have hb2 : b ∈ e.sc.map (·.1) := by rw [← q6]; exact List.mem_of_getElem? hb
   have hbn4 : b ∈ c'.ns.map (·.nm) := by
    rw [r2]
    refine hcl e.nm b ?_
    rw [← p5, gsc_of hnn2 he]
    exact hb2
   refine el1_2 (mm1 hbn4) ?_; intro f hfm hfn
   have hfn2 : f.nm = b := hfn
   subst hfn2
   have hnn4 : (c'.ns.map (·.nm)).Nodup := by rw [r2]; exact hnn
   have hd4 : o2.IsDictOf (PySem.strKind rw_nq0317_01.prog w) (kvsN c'.ns) := by rw [r1]; exact hd
   have hfl : f.nm.length ≤ 64 := by
    rw [r2] at hbn4
    refine el1_2 (mm1 hbn4) ?_; intro e9 he9 q9
    rw [← show e9.nm = f.nm from q9]
    exact hln e9 he9
   refine gen_ ((D', (⟨.type "tuple", none, .seq vs.toArray 0, #[]⟩ : Obj)) :: (xa, instObj 362 d) :: (d, tsR w t1 t2 t3 t4 t5 c.t6 n2 (.ref D) po c.nf) :: (n2, o2) :: (D, W.listOf (strVals c'.rs) c'.ep) :: (ledN c'.ns ++ (rest ++ own))) ?_; intro Ld hLd
   k_steps
   refine ⟨?_⟩
   rename Fr _ _ _ _ => F14
   rename News _ _ _ _ => N14
   have N15 : News g' L' h' (Ld ++ own') := by rw [hLd]; exact N14
   clear N14
   have memd : ∀ q, q ∈ Ld → q ∈ Ld ++ own' := fun q hq => maL _ hq
   have mn4 : (n2, o2) ∈ Ld ++ own' := memd _ (by rw [hLd]; exact mH3)
   have mnd4 : ∀ q ∈ nodeL f, q ∈ Ld ++ own' := fun q hq => memd _ (by rw [hLd]; exact mT5 (maL _ (mem_ledN hfm hq)))
   refine kdt_tail N15 mn4 hd4 (kdt_getItem N15 mn4 hd4 (strKind_is _ _ _ _) (nvalueAt_mem hnn4 hfm) ?_)
   k_steps
   refine ⟨?_⟩
   rename Fr _ _ _ _ => F16
   rename News _ _ _ _ => N16
   refine np_get F16 X' N16 (mnd4 _ (.head _)) (mnd4 _ mH1) ?_
   k_steps
   refine ⟨?_⟩
   rename Fr _ _ _ _ => F17
   rename News _ _ _ _ => N17
   refine np_set F17 X' N17 (mnd4 _ (.head _)) (mnd4 _ mH1) fun h18 F18 N18 => ?_
   clear F17 N17
   refine (let G9 : Prop := _; (?_ : G9))
   obtain ⟨t18, N19⟩ : ∃ t18, News g' L' h18 (setAt f.a (niRaw f.ad f.nm f.tn (f.np - 1) t18 f.sl) (Ld ++ own')) := ⟨_, N18⟩
   refine (?_ : wpAny _ _ _ _ _ _)
   clear N18
   have hnd4 : (GK xa d n2 c'.ns).Nodup := by rw [r3]; exact hnd
   refine gen_ (upX c'.ns f.nm fun e => { e with np := f.np - 1, tp := t18 }) ?_; intro c3 hc3
   have hE4 : Ld ++ own' = [(D', (⟨.type "tuple", none, .seq vs.toArray 0, #[]⟩ : Obj)), (xa, instObj 362 d), (d, tsR w t1 t2 t3 t4 t5 c.t6 n2 (.ref D) po c.nf), (n2, o2), (D, W.listOf (strVals c'.rs) c'.ep)] ++ (ledN c'.ns ++ ((rest ++ own) ++ own')) := by
    rw [hLd]
    simp
   have hGc : GK xa d n2 c'.ns = GK xa d n2 c.ns := r3.trans p3.symm
   refine el0_3 (GK_off hnd4) ?_; intro m1 m2 m3
   have hesne : es.sl ≠ f.a := by
    intro q
    by_cases hef : es = f
    ·subst hef
     exact (node_ne hnd4 hfm).2.1 q
    have hK : (Keys (ledN c'.ns)).Nodup := by
     unfold GK at hnd4
     exact (nc1 (nc1 (nc1 hnd4).2).2).2
    exact hef (setAt_node.nodup_flat hK hes hfm (p := (es.sl, W.listOf (strVals es.sc) es.ep)) (q := (f.a, niRaw f.ad f.nm f.tn f.np f.tp f.sl)) mH2 (.head _) q)
   have hesD : es.sl ≠ D := by
    intro q
    exact hD (by rw [← r3, ← q]; exact GK_sub (mm2 ⟨_, mem_ledN hes mH2, rfl⟩))
   have hofff : ∀ q ∈ own', q.1 ≠ f.a := by
    intro q hq e
    rcases hf' q hq with h1 | h1
    ·exact hoffw' _ (maR _ (maL _ (mem_ledN hfm (.head _))) : (f.a, _) ∈ [(D', (⟨.type "tuple", none, .seq vs.toArray 0, #[]⟩ : Obj)), (xa, instObj 362 d), (d, tsR w t1 t2 t3 t4 t5 c.t6 n2 (.ref D) po c.nf), (n2, o2), (D, W.listOf (strVals c'.rs) c'.ep)] ++ (ledN c'.ns ++ (rest ++ own))) (e ▸ h1)
    exact hesne (s1.trans (h1.symm.trans e))
   have hoffD : ∀ q ∈ own', q.1 ≠ D := by
    intro q hq e
    rcases hf' q hq with h1 | h1
    ·exact hoffw' (D, W.listOf (strVals c'.rs) c'.ep) mH4 (e ▸ h1)
    exact hesD (s1.trans (h1.symm.trans e))
   have hTd : D' ∉ GK xa d n2 c'.ns := fun hm => hTc (hGc ▸ hm)
   have hset4 := setAt_np (k := f.np - 1) (t := t18) (pre := [(D', (⟨.type "tuple", none, .seq vs.toArray 0, #[]⟩ : Obj)), (xa, instObj 362 d), (d, tsR w t1 t2 t3 t4 t5 c.t6 n2 (.ref D) po c.nf), (n2, o2), (D, W.listOf (strVals c'.rs) c'.ep)]) (rest := rest ++ own) hnn4 hnd4
    (fc1 ⟨fun hm => hTd (GK_sub hm), fc1 ⟨m1, fc1 ⟨m2, fc1 ⟨m3, fc1 ⟨fun hm => hD (r3 ▸ GK_sub hm), fn0 _⟩⟩⟩⟩⟩)
    (fun q hq => by
     refine ast hq (fun hq => ?_) fun hq => ?_
     ·exact fun hm => hoff q hq (.tail _ (r3 ▸ hm))
     exact fun hm => hown q hq (hGc ▸ hm)) hfm
   rw [← hc3] at hset4
   have hGK3 : GK xa d n2 c3 = GK xa d n2 c'.ns := by rw [hc3, upX_GK (f := fun e => { e with np := f.np - 1, tp := t18 }) (fun _ => rfl)]
   refine gen_ ([(D', (⟨.type "tuple", none, .seq vs.toArray 0, #[]⟩ : Obj)), (xa, instObj 362 d), (d, tsR w t1 t2 t3 t4 t5 c.t6 n2 (.ref D) po c.nf), (n2, o2)]) ?_; intro pre4 hpre4
   refine gen_ (ledN c3 ++ (rest ++ own)) ?_; intro tl3 htl3
   have N20 : News g' L' h18 ((D', (⟨.type "tuple", none, .seq vs.toArray 0, #[]⟩ : Obj)) :: (xa, instObj 362 d) :: (d, tsR w t1 t2 t3 t4 t5 c.t6 n2 (.ref D) po c.nf) :: (n2, o2) :: (D, W.listOf (strVals c'.rs) c'.ep) :: (tl3 ++ own')) := nsub N19 fun q hq => by
    rw [htl3] at hq
    have hq' : q ∈ ([(D', (⟨.type "tuple", none, .seq vs.toArray 0, #[]⟩ : Obj)), (xa, instObj 362 d), (d, tsR w t1 t2 t3 t4 t5 c.t6 n2 (.ref D) po c.nf), (n2, o2), (D, W.listOf (strVals c'.rs) c'.ep)] ++ (ledN c3 ++ (rest ++ own))) ++ own' := by
     simpa using hq
    unfold setAt
    rw [List.map_append]
    refine ast hq' (fun hq => ?_) fun hq => ?_
    ·refine maL _ ?_
     have := hset4 q hq
     rw [hLd]
     exact this
    exact maR _ (msN hq (hofff q hq))
   clear N19
   have hf3 : ∃ f3 ∈ c3, f3.nm = f.nm ∧ f3.a = f.a ∧ f3.ad = f.ad ∧ f3.np = f.np - 1 := by
    refine ⟨{ f with np := f.np - 1, tp := t18 }, ?_, rfl, rfl, rfl, rfl⟩
    rw [hc3]
    exact mm2 ⟨f, hfm, if_pos rfl⟩
   refine el1_5 (hf3) ?_; (try clear hf3); intro f3 hf3m z1 z2 z3 z4
   have mnd5 : ∀ q ∈ nodeL f3, q ∈ (D', (⟨.type "tuple", none, .seq vs.toArray 0, #[]⟩ : Obj)) :: (xa, instObj 362 d) :: (d, tsR w t1 t2 t3 t4 t5 c.t6 n2 (.ref D) po c.nf) :: (n2, o2) :: (D, W.listOf (strVals c'.rs) c'.ep) :: (tl3 ++ own') := fun q hq => mT5 (maL _ (htl3 ▸ maL _ (mem_ledN hf3m hq)))
   k_steps
   refine ⟨?_⟩
   rename Fr _ _ _ _ => F21
   rename News _ _ _ _ => N21
   rw [← z2]
   refine np_get F21 X' N21 (mnd5 _ (.head _)) (mnd5 _ mH1) ?_
   have hbs : (e.sc.map (·.1))[i']? = some f.nm := by rw [← q6]; exact hb
   have hp3 : proj2 c3 = gup (proj2 c'.ns) f.nm fun e => { e with np := e.np - 1 } := by
    rw [hc3]
    refine proj2_up_at fun e₀ he₀ hx₀ => ?_
    rw [nodup_inj hnn4 he₀ hfm hx₀]
    rfl
   have hr4 : ((e.sc.map (·.1)).take (i' + 1)).foldl gdec (gup (proj2 c.ns) e.nm fun e => { e with np := -2 }, c.rs.map (·.1)) = (proj2 c3, if f.np = 1 then c'.rs.map (·.1) ++ [f.nm] else c'.rs.map (·.1)) := by
    rw [List.take_add_one, hbs, List.foldl_append, ← r4]
    show gdec (proj2 c'.ns, c'.rs.map (·.1)) f.nm = _
    unfold gdec
    rw [← hp3]
    show (proj2 c3, if gnp (proj2 c'.ns) f.nm = 1 then _ else _) = _
    rw [gnp_of hnn4 hfm]
   have hkeys : ∀ q ∈ ledN c3, ∃ o, (q.1, o) ∈ ledN c'.ns := by
    intro q hq
    have : q.1 ∈ Keys (ledN c'.ns) := by
     rw [← upX_keys (x := f.nm) (f := fun e => { e with np := f.np - 1, tp := t18 }) (fun _ => rfl), ← hc3]
     exact mm2 ⟨q, hq, rfl⟩
    refine el1_2 (mm1 this) ?_; intro z hz1 hz2
    exact ⟨z.2, by rw [← hz2]; exact hz1⟩
   have hPk : ∀ rs' ep', (rs'.map (·.1) = if f.np = 1 then c'.rs.map (·.1) ++ [f.nm] else c'.rs.map (·.1)) → rs'.length ≤ c.rs.length + (i' + 1) → (fun (i' : Nat) (c' : DS) => kvsN c'.ns = kvsN ns ∧ c'.ns.map (·.nm) = ns.map (·.nm) ∧ GK xa d n2 c'.ns = GK xa d n2 ns ∧ (proj2 c'.ns, c'.rs.map (·.1)) = ((e.sc.map (·.1)).take i').foldl gdec (gup (proj2 c.ns) e.nm fun e => { e with np := -2 }, c.rs.map (·.1)) ∧
    (∀ x, gsc (proj2 c'.ns) x = gsc (proj2 ns) x) ∧ c'.rs.length ≤ c.rs.length + i' ∧ (∃ e' ∈ c'.ns, e'.sl = e2.sl ∧ e'.sc = e2.sc ∧ e'.ep = e2.ep)) (i' + 1) ⟨c3, rs', ep', c.t6, c.nf⟩ := by
    intro rs' ep' hrs' hlen'
    refine ⟨?_, ?_, hGK3.trans r3, ?_, ?_, hlen', ?_⟩
    ·show kvsN c3 = _
     rw [hc3, upX_kvs (f := fun e => { e with np := f.np - 1, tp := t18 }) (fun _ => rfl) (fun _ => rfl)]; exact r1
    ·show c3.map (·.nm) = _
     rw [hc3, upX_nms (f := fun e => { e with np := f.np - 1, tp := t18 }) (fun _ => rfl)]; exact r2
    ·show (proj2 c3, rs'.map (·.1)) = _
     rw [hr4, hrs']
    ·intro x
     show gsc (proj2 c3) x = _
     rw [hp3, gsc_up (f := fun e => { e with np := e.np - 1 }) (fun _ => rfl) (fun _ => rfl)]
     exact r5 x
    refine ⟨_, by show _ ∈ c3; rw [hc3]; exact upX_mem hes, ?_⟩
    split
    ·exact ⟨s1, s2, s3⟩
    exact ⟨s1, s2, s3⟩
   have hoff3 : ∀ (q : Addr × Obj), q ∈ tl3 → q.1 ∉ wr' := by
    intro q hq
    rw [htl3] at hq
    refine ast hq (fun hq => ?_) fun hq => ?_
    ·refine el1_1 (hkeys q hq) ?_; intro o ho
     exact hoffw' (q.1, o) (mT5 (maL _ ho))
    exact hoffw' q (mT5 (maR _ hq))
   have hoffall : ∀ rs' ep', ∀ q ∈ (D', (⟨.type "tuple", none, .seq vs.toArray 0, #[]⟩ : Obj)) :: (xa, instObj 362 d) :: (d, tsR w t1 t2 t3 t4 t5 c.t6 n2 (.ref D) po c.nf) :: (n2, o2) :: (D, W.listOf (strVals rs') ep') :: (ledN c3 ++ (rest ++ own)), q.1 ∉ wr' := by
    intro rs' ep' q hq
    refine asp hq ?_ fun hq => ?_
    ·exact hoffw' _ (.head _)
    refine asp hq ?_ fun hq => ?_
    ·exact hoffw' _ mH1
    refine asp hq ?_ fun hq => ?_
    ·exact hoffw' _ mH2
    refine asp hq ?_ fun hq => ?_
    ·exact hoffw' _ mH3
    refine asp hq ?_ fun hq => ?_
    ·exact hoffw' (D, W.listOf (strVals c'.rs) c'.ep) mH4
    exact hoff3 q (htl3 ▸ hq)
   have htlD : ∀ q ∈ tl3 ++ own', q.1 ≠ D := by
    intro q hq e
    refine ast hq (fun hq => ?_) fun hq => ?_
    ·rw [htl3] at hq
     refine ast hq (fun hq => ?_) fun hq => ?_
     ·refine el1_1 (hkeys q hq) ?_; intro o ho
      exact hD (by rw [← r3, ← e]; exact GK_sub (mm2 ⟨_, ho, rfl⟩))
     refine ast hq (fun hq => ?_) fun hq => ?_
     ·exact hoff q hq (e ▸ .head _)
     rcases hf q hq with hw1 | hw1
     ·exact hoffw (D, W.listOf (strVals c.rs) c.ep) mH4 (e ▸ hw1)
     exact hTG0 D (.head _) (hw1.symm.trans e)
    exact hoffD q hq e
   k_steps
   ·refine ⟨?_⟩
    rename f3.np = 0 => hz3
    refine lmeth_S PySem.F.slot_list_append PySem.F.type_list_append N21 mH4 ?_
    k_steps
    refine ⟨?_⟩
    rename Fr _ _ _ _ => F24
    refine append_S F24 N21 mH4 (size_le (by
     have : (strVals c'.rs).size = c'.rs.length := by unfold strVals; simp
     rw [this]
     have hi' : i' < e2.sc.length := by
      have := (List.getElem?_eq_some_iff.mp hb).1
      simpa using this
     have hi2 : i < xs.length := (List.getElem?_eq_some_iff.mp hx).1
     have hxv : xs.length ≤ 18 := by rw [hvs] at hvl; simpa using hvl
     have h5 : e.sc.length ≤ 1000 := hscb e he
     rw [q6] at hi'
     lia)) fun h25 F25 N25 => ?_
    clear F24
    k_steps
    show TurnEnd _ _ _ _ _ _ _
    refine s_end (σ := DS) ⟨c3, c'.rs ++ [(f.nm, tb)], c'.ep + 1, c.t6, c.nf⟩ F25 N25 ?a1 ?a2 (hoffall _ _) (hPk _ _ ?aP ?aL) (fn0 _) ?az
    case a1 =>
     intro q hq
     refine mst hq ?_ fun hq => ?_
     ·exact msN (.head _) (hTG0 _ (.head _))
     refine mst hq ?_ fun hq => ?_
     ·exact msN mH1 (fun e => hD (e ▸ .head _))
     refine mst hq ?_ fun hq => ?_
     ·exact msN mH2 (fun e => hD (e ▸ mH1))
     refine mst hq ?_ fun hq => ?_
     ·exact msN mH3 (fun e => hD (e ▸ mH2))
     refine mst hq ?_ fun hq => ?_
     ·have hpu : strVals (c'.rs ++ [(f.nm, tb)]) = (strVals c'.rs).push (.str f.nm tb) := by unfold strVals; simp
      show (D, W.listOf (strVals (c'.rs ++ [(f.nm, tb)])) (c'.ep + 1)) ∈ _
      rw [hpu]
      exact mem_setAt_self mH4
     have hq' : q ∈ tl3 ++ own' := maL _ (htl3 ▸ hq)
     exact msN (mT5 hq') (htlD q hq')
    case a2 =>
     intro q hq
     have hq' : q ∈ tl3 ++ own' := maR _ hq
     exact msN (mT5 hq') (htlD q hq')
    case aP =>
     rw [if_pos (by lia)]
     simp
    case aL =>
     simp
     lia
    case az =>
     intro z h1 _ h2
     have e2 : z ≠ Str.ofString "successor" := ne_rev h1 (by decide)
     have e3 : z ≠ Str.ofString "successor_info" := ne_rev h2 (by decide)
     rw [if_neg e3, if_neg e2]
     exact kst_rest h2
   ·rename f3.np ≠ 0 => hz3
    rename Fr _ _ _ _ => F24
    show TurnEnd _ _ _ _ _ _ _
    refine s_end (σ := DS) ⟨c3, c'.rs, c'.ep, c.t6, c.nf⟩ F24 N21 ?a1 ?a2 (hoffall _ _) (hPk _ _ ?aP ?aL) (fn0 _) ?az
    case a1 =>
     intro q hq
     refine mst hq ?_ fun hq => ?_
     ·exact .head _
     refine mst hq ?_ fun hq => ?_
     ·exact mH1
     refine mst hq ?_ fun hq => ?_
     ·exact mH2
     refine mst hq ?_ fun hq => ?_
     ·exact mH3
     refine mst hq ?_ fun hq => ?_
     ·exact mH4
     exact mT5 (maL _ (htl3 ▸ hq))
    case a2 =>
     intro q hq
     exact mT5 (maR _ hq)
    case aP =>
     rw [if_neg (by lia)]
    case aL =>
     show c'.rs.length ≤ _
     lia
    case az =>
     intro z h1 _ h2
     have e2 : z ≠ Str.ofString "successor" := ne_rev h1 (by decide)
     have e3 : z ≠ Str.ofString "successor_info" := ne_rev h2 (by decide)
     rw [if_neg e3, if_neg e2]
     exact kst_rest h2
  clear N11 F11
  intro c' u' h' tk' hP' F11 N11
  refine el0_7 (hP') ?_; (try clear hP'); intro r1 r2 r3 r4 r5 r6 r7
  k_steps
  refine ⟨?_⟩
  rename Fr _ _ _ _ => F12
  rename News _ _ _ _ => N12
  refine nf_set F12 X' N12 mH1 mH2 fun h13 F13 N13 => ?_
  clear F12 N12
  refine (let G9 : Prop := _; (?_ : G9))
  obtain ⟨t6', nf', N14⟩ : ∃ t6' nf', News g' L' h13 (setAt d (tsR w t1 t2 t3 t4 t5 t6' n2 (.ref D) po nf') ((D', (⟨.type "tuple", none, .seq vs.toArray 0, #[]⟩ : Obj)) :: (xa, instObj 362 d) :: (d, tsR w t1 t2 t3 t4 t5 c.t6 n2 (.ref D) po c.nf) :: (n2, o2) :: (D, W.listOf (strVals c'.rs) c'.ep) :: (ledN c'.ns ++ (rest ++ own)))) := ⟨_, _, N13⟩
  refine (?_ : wpAny _ _ _ _ _ _)
  clear N13
  k_steps
  show TurnEnd _ _ _ _ _ _ _
  have hnd3 : (GK xa d n2 c'.ns).Nodup := by rw [r3]; exact hnd
  have hdG : ∀ q ∈ ledN c'.ns ++ (rest ++ own), q.1 ≠ d := by
   intro q hq e
   refine ast hq (fun hq => ?_) fun hq => ?_
   ·exact (GK_off hnd3).2.1 (mm2 ⟨q, hq, e⟩)
   refine ast hq (fun hq => ?_) fun hq => ?_
   ·exact hoff q hq (e ▸ mH2)
   exact hown q hq (e ▸ mH1)
  have hdx : xa ≠ d ∧ n2 ≠ d := by
   have q1 := nc1 hnd
   have q2 := nc1 q1.2
   exact ⟨fun e => q1.1 (e ▸ .head _), fun e => q2.1 (e ▸ .head _)⟩
  have hset2 : ∀ q ∈ (D', (⟨.type "tuple", none, .seq vs.toArray 0, #[]⟩ : Obj)) :: (xa, instObj 362 d) :: (d, tsR w t1 t2 t3 t4 t5 t6' n2 (.ref D) po nf') :: (n2, o2) :: (D, W.listOf (strVals c'.rs) c'.ep) :: (ledN c'.ns ++ (rest ++ own)), q ∈ setAt d (tsR w t1 t2 t3 t4 t5 t6' n2 (.ref D) po nf') ((D', (⟨.type "tuple", none, .seq vs.toArray 0, #[]⟩ : Obj)) :: (xa, instObj 362 d) :: (d, tsR w t1 t2 t3 t4 t5 c.t6 n2 (.ref D) po c.nf) :: (n2, o2) :: (D, W.listOf (strVals c'.rs) c'.ep) :: (ledN c'.ns ++ (rest ++ own))) := (sbc (msN (.head _) (hTG0 _ mH2)) (sbc (msN mH1 hdx.1) (sbc (mem_setAt_self mH2) (sbc (msN mH3 hdx.2) (sbc (msN mH4 (fun e => hD (e ▸ mH1))) (fun q hq => msN (mT5 hq) (hdG q hq)))))))
  have hwr : ∀ b ∈ wr, b ∉ GK xa d n2 c.ns := by
   intro b hb
   refine el1_1 (hw b hb) ?_; intro o ho
   exact hown (b, o) ho
  have hpr : (proj2 c'.ns, c'.rs.map (·.1)) = gdone1 (proj2 c.ns, c.rs.map (·.1)) e.nm := by
   rw [hg1, r4, List.take_of_length_le]
   rw [q6]
   unfold strVals
   simp
  refine s_end (σ := DS) ⟨c'.ns, c'.rs, c'.ep, t6', nf'⟩ F13 N14 ?o1 ?o2 ?o3 ?oP (fn0 _) ?oz
  case o1 =>
   intro q hq
   refine hset2 q ?_
   have hq' : q ∈ [(D', (⟨.type "tuple", none, .seq vs.toArray 0, #[]⟩ : Obj)), (xa, instObj 362 d), (d, tsR w t1 t2 t3 t4 t5 t6' n2 (.ref D) po nf'), (n2, o2), (D, W.listOf (strVals c'.rs) c'.ep)] ++ (ledN c'.ns ++ rest) := hq
   show q ∈ [(D', (⟨.type "tuple", none, .seq vs.toArray 0, #[]⟩ : Obj)), (xa, instObj 362 d), (d, tsR w t1 t2 t3 t4 t5 t6' n2 (.ref D) po nf'), (n2, o2), (D, W.listOf (strVals c'.rs) c'.ep)] ++ (ledN c'.ns ++ (rest ++ own))
   refine ast hq' (fun hq => ?_) fun hq => ?_
   ·exact maL _ hq
   refine ast hq (fun hq => ?_) fun hq => ?_
   ·exact maR _ (maL _ hq)
   exact maR _ (maR _ (maL _ hq))
  case o2 =>
   intro q hq
   exact hset2 q (mT5 (maR _ (maR _ hq)))
  case o3 =>
   intro q hq
   refine asp hq ?_ fun hq => ?_
   ·exact hoffw _ (.head _)
   refine asp hq ?_ fun hq => ?_
   ·exact hoffw _ mH1
   refine asp hq ?_ fun hq => ?_
   ·exact fun hm => hwr _ hm mH1
   refine asp hq ?_ fun hq => ?_
   ·exact fun hm => hwr _ hm mH2
   refine asp hq ?_ fun hq => ?_
   ·exact fun hm => hoffw (D, W.listOf (strVals c.rs) c.ep) mH4 hm
   refine ast hq (fun hq => ?_) fun hq => ?_
   ·exact fun hm => hwr _ hm ((r3.trans p3.symm) ▸ GK_sub (mm2 ⟨q, hq, rfl⟩))
   exact hoffw q (mT5 (maR _ hq))
  case oP =>
   refine ⟨r1, r2, r3, ?_, r5, ?_, ?_⟩
   ·show (proj2 c'.ns, c'.rs.map (·.1)) = _
    rw [hpr, p4, List.take_add_one, List.getElem?_map, hx]
    unfold gdone
    rw [List.foldl_append]
    rfl
   ·intro j q hj hq
    show gnp (proj2 c'.ns) q.1 = -1
    have h1 : proj2 c'.ns = (gdone1 (proj2 c.ns, c.rs.map (·.1)) e.nm).1 := congrArg Prod.fst hpr
    rw [h1, gdone1_np]
    ·exact p6 j q (by lia) hq
    ·intro hqe
     have h2 : (xs.map (·.1))[j]? = some e.nm := by rw [List.getElem?_map, hq]; exact congrArg some hqe
     have h3 : (xs.map (·.1))[i]? = some e.nm := by rw [List.getElem?_map, hx]; rfl
     have := (List.getElem?_inj (List.getElem?_eq_some_iff.mp h3).1 hxd).mp (h3.trans h2.symm)
     lia
    show q.1 ∉ gsc (proj2 c.ns) e.nm
    rw [p5]
    exact hns _ (List.mem_of_getElem? hx) q (List.mem_of_getElem? hq)
   show c'.rs.length ≤ rs.length + (i + 1) * 1000
   have h5 : e.sc.length ≤ 1000 := by
    have hm : e.nm ∈ ns.map (·.nm) := p2 ▸ hbn
    refine el1_2 (mm1 hm) ?_; intro e0 he0 h0
    have h1 := gsc_of hnn he0
    have h2 := gsc_of hnn2 he
    have h0' : e0.nm = e.nm := h0
    rw [h0'] at h1
    rw [p5, h1] at h2
    have h3 := congrArg List.length h2
    simp at h3
    have := hscl e0 he0
    lia
   have h6 : c'.rs.length ≤ c.rs.length + (strVals e2.sc).size := r6
   have h7 : (strVals e2.sc).size = e.sc.length := by rw [q6]; unfold strVals; simp
   lia
  intro z h1 _ h2
  have e1 : z ≠ Str.ofString "node" := ne_rev h1 (by decide)
  have e2 : z ≠ Str.ofString "nodeinfo" := ne_rev h2 (by decide)
  have e3 : z ≠ Str.ofString "stat" := ne_rev h2 (by decide)
  have e4 : z ≠ Str.ofString "successor" := ne_rev h2 (by decide)
  have e5 : ([Str.ofString "successor_info"] : List Str).contains z = false := by
   rw [Bool.eq_false_iff]
   intro h
   simp only [List.contains_cons, List.contains_nil, Bool.or_false, beq_iff_eq] at h
   subst h
   revert h2; decide
  dsimp only [mt1]
  rw [if_neg e4, kst_rest e5, if_neg e3, if_neg e2, if_neg e1]
  exact kst_rest h2
 clear N3 F3
 intro c u h tk ⟨p1, p2, p3, p4, p5, p6, p7⟩ F3 N3
 k_steps
 rename Fr h₀ _ _ _ => kF
 rename News h₀ _ _ _ => kN
 refine hret D' c _ _ p1 p2 p3 ?_ (fun hm => hTG0 _ hm rfl) (fun q hq e => ?_) kF kN
 ·rw [p4, List.take_of_length_le]
  rw [hvs]
  simp
 have := l1 q (mT4 (by rw [htl]; exact maR _ hq))
 rw [e] at this
 exact Nat.lt_irrefl _ this
def SetS (prog : Program) (w : World) (o : Obj) (ks : List Str) : Prop :=
 o.ExactSet ∧ ks.Nodup ∧ ∃ es ep t, o.data = .set es ep t ∧ StrsAre (es.toList.map (·.2)) ks ∧ ElemsOf (PySem.strKind prog w) es.toList ∧ t.fits es.size = true ∧
  (w.params.followText "set-order" = false → t.led = true) ∧ (es.size ≠ 0 → t.plain = false)
theorem layNew_led (t : SetTable) (es : Array (Int × Value)) (h : Int) (x : Value) : (layNew t es h x).2.1.led = t.led := by
 unfold layNew
 split
 ·rename_i slot wd _
  show (SetTable.orStandIn (t.put slot).1 _).led = t.led
  unfold SetTable.orStandIn SetTable.standIn
  split <;> rfl
 rfl
theorem layNew_plain (t : SetTable) (es : Array (Int × Value)) (h : Int) (x : Value) (hp : t.plain = false) : (layNew t es h x).2.1.plain = false := by
 unfold layNew
 split
 ·rename_i slot wd _
  show (SetTable.orStandIn (t.put slot).1 _).plain = false
  unfold SetTable.orStandIn SetTable.standIn
  split
  ·exact hp
  rfl
 rfl
theorem relaid_led {t t' : SetTable} {hs : Array Int} {n : Nat} {ord : Array Nat} (h : t.relaid hs n = some (t', ord)) : t'.led = t.led ∧ t'.plain = t.plain := by
 unfold SetTable.relaid SetTable.laid at h
 cases ho : SetTable.layClean (SetTable.sizeAbove n - 1) hs with
 | none => rw [ho] at h; cases h
 | some ow =>
  rw [ho] at h
  have h2 := Option.some.inj h
  have h3 := congrArg Prod.fst h2
  have h4 : _ = t' := h3
  exact ⟨by rw [← h4], by rw [← h4]⟩
theorem relayAll_led (t : SetTable) (es : Array (Int × Value)) (n : Nat) : (relayAll t es n).2.1.led = t.led := by
 unfold relayAll
 split
 ·rename_i t' ord h
  have := relaid_led h
  dsimp only
  split
  ·exact this.1
  rfl
 rfl
theorem relayAll_plain (t : SetTable) (es : Array (Int × Value)) (n : Nat) (hp : t.plain = false) : (relayAll t es n).2.1.plain = false := by
 unfold relayAll
 split
 ·rename_i t' ord h
  have := relaid_led h
  dsimp only
  split
  ·exact this.2.trans hp
  rfl
 rfl
section
variable {prog : Program} {w : World} {A : Around} {E : Value → Shared → Prop} {s : Shared}
theorem strsAre_mem_iff {vs : List Value} {ks : List Str} (h : StrsAre vs ks) (k : Str) : k ∈ ks ↔ ∃ v ∈ vs, (PySem.strKind prog w).is k v = true := by
 induction h with
 | nil => simp
 | cons x t h ih =>
  rw [List.mem_cons, ih]
  constructor
  ·rintro (rfl | ⟨v, hv, hk⟩)
   ·exact ⟨_, .head _, strKind_is _ _ _ _⟩
   exact ⟨v, .tail _ hv, hk⟩
  rintro ⟨v, hv, hk⟩
  rcases mc1 hv with rfl | hv
  ·have := (PySem.strKind prog w).inj _ _ _ hk (strKind_is prog w x t)
   exact .inl this
  exact .inr ⟨v, hv, hk⟩
theorem SetS.obj {o : Obj} {ks : List Str} (h : SetS prog w o ks) : o.SetObjOf (PySem.strKind prog w) (fun k => decide (k ∈ ks)) ks.length := by
 obtain ⟨h1, _, es, ep, t, h2, h3, h4, h5, _⟩ := h
 refine ⟨h1, es, ep, t, h2, h4, fun k => ?_, ?_, h5⟩
 ·rw [decide_eq_true_eq, strsAre_mem_iff (prog := prog) (w := w) h3 k]
  constructor
  ·rintro ⟨v, hv, hk⟩
   refine el1_2 (mm1 hv) ?_; intro e he e92; subst e92
   exact ⟨e, he, hk⟩
  rintro ⟨e, he, hk⟩
  exact ⟨e.2, mm2 ⟨e, he, rfl⟩, hk⟩
 have := h3.length
 simpa using this
theorem setS_fresh (led : Bool) (hl : w.params.followText "set-order" = false → led = true) : SetS prog w { cls := .type "set", dict := none, data := .set #[] 0 (.fresh 0 0 led) } [] :=
 ⟨⟨rfl, rfl, rfl⟩, List.nodup_nil, #[], 0, _, rfl, .nil, fun e he => by simp at he, by rfl, hl, fun h => absurd rfl h⟩
theorem newSet_S {Q : Value → Shared → Prop}
  (h : ∀ o, SetS prog w o [] → o.isFreed = false → Q (.ref s.heap.objs.size) { s with heap := s.heap.push o }) : wpAny (model prog w) A (newSet (.type "set")) Q E s := by
 unfold newSet setsByText
 refine wpAny_bind (wpAny_bind (wpAny_askSetting (wpAny_pure ?_)))
 dsimp only
 simp only [newObj]
 exact wpAny_bind (wpAny_alloc (wpAny_pure (h _ (setS_fresh _ fun e => by show (!w.params.followText "set-order") = true; rw [e]; rfl) rfl)))
theorem storeS {a : Addr} {o : Obj} {es es1 : Array (Int × Value)} {ep : Nat} {t t1 : SetTable} {ks : List Str} {Q : Unit → Shared → Prop} (ho : s.heap.get? a = some o) (hex : o.ExactSet) (hd : o.data = .set es ep t) (hz : es1.size ≤ sizeLine)
  (h : ∀ h' o', Heap.SameBut a s.heap h' → h'.get? a = some o' → o'.ExactSet → o'.data = .set es1 (ep + 1) t1 → Q () { s with heap := h' }) : wpAny (model prog w) A (storeSet a es1 t1) Q E s := by
 refine wpAny_storeSet_of ho hd ?_ hz
 have hg : (s.heap.update a (Obj.putSet es1 t1)).get? a = some { o with data := .set es1 (ep + 1) t1 } := by
  have := Heap.get?_update_self (Obj.putSet es1 t1) ho (by rw [putSet_of es1 t1 hd]; rfl)
  rw [putSet_of es1 t1 hd] at this; exact this
 exact h _ _ (Heap.SameBut.update ..) hg hex rfl
theorem setAddH_S {a : Addr} {o : Obj} {ks : List Str} {x : Str} {tx : Tok} {Q : Bool → Shared → Prop} (ho : s.heap.get? a = some o) (hS : SetS prog w o ks) (hroom : ks.length + 1 < scanBound)
  (h : ∀ h' o' ks', Heap.SameBut a s.heap h' → h'.get? a = some o' → SetS prog w o' ks' → (x ∈ ks ∧ ks' = ks ∨ x ∉ ks ∧ ks'.Perm (ks ++ [x])) → Q (!decide (x ∈ ks)) { s with heap := h' }) :
  wpAny (model prog w) A (setAddHashed a (.str x tx) ((PySem.strKind prog w).hash x)) Q E s := by
 refine (let G9 : Prop := _; (?_ : G9))
 obtain ⟨hex, hnd, es, ep, t, hd, hst, hel, hf, hled, hpl⟩ := id hS
 refine (?_ : wpAny _ _ _ _ _ _)
 have hsz : es.size = ks.length := by have := hst.length; simpa using this
 have hkey : (PySem.strKind prog w).is x (.str x tx) = true := strKind_is _ _ _ _
 have hsc : (Value.str x tx).scannable = true := rfl
 unfold setAddHashed setAddHashedIn
 refine wpAny_holding (wpAny_bind (wpAny_setState_of ho hd hf ?_))
 dsimp only
 rw [byScan_of hsc (by lia) hel]
 simp only [↓reduceIte]
 unfold setAddByScan
 refine wpAny_bind ?_
 refine wpAny_bind (wpAny_rule ?_)
 refine wpAny_bind (wpAny_setScan_of hkey ho hd hf hel ?_)
 cases hr : List.findIdx? (fun e => (PySem.strKind prog w).is x e.2) es.toList with
 | some j =>
  dsimp only
  refine el1_2 (List.findIdx?_eq_some_iff_getElem.mp hr) ?_; intro hj hpj _
  have hm : x ∈ ks := (strsAre_mem_iff (prog := prog) (w := w) hst x).mpr ⟨es.toList[j].2, mm2 ⟨_, List.getElem_mem hj, rfl⟩, hpj⟩
  have e : s = { s with heap := s.heap } := by cases s; rfl
  have h9 := h s.heap o ks (Heap.SameBut.refl a s.heap) ho hS (.inl ⟨hm, rfl⟩)
  rw [decide_eq_true hm] at h9
  exact wpAny_pure (wpAny_pure (e ▸ h9))
 | none =>
  dsimp only
  have hm : x ∉ ks := by
   intro hm
   refine el1_2 ((strsAre_mem_iff (prog := prog) (w := w) hst x).mp hm) ?_; intro v hv hk
   refine el1_2 (mm1 hv) ?_; intro e he e92; subst e92
   have := List.findIdx?_eq_none_iff.mp hr e he
   rw [hk] at this; cases this
  have hgw : ∀ (b : Bool) {s₁ : Shared} {Q' : Unit → Shared → Prop}, Q' () s₁ → wpAny (model prog w) A (match b with | true => rule "set.scan.the-table-gave-way" | false => pure ()) Q' E s₁ :=
   fun b s₁ Q' hq => by cases b <;> first | exact wpAny_pure hq | exact wpAny_rule hq
  have hperm := layNew_perm t es ((PySem.strKind prog w).hash x) (.str x tx)
  have hfits := layNew_fits t es ((PySem.strKind prog w).hash x) (.str x tx)
  have hled1 := layNew_led t es ((PySem.strKind prog w).hash x) (.str x tx)
  have hpl1 := layNew_plain t es ((PySem.strKind prog w).hash x) (.str x tx)
  generalize hL : layNew t es ((PySem.strKind prog w).hash x) (.str x tx) = L at hperm hfits hled1 hpl1 ⊢
  obtain ⟨es1, t1, wasDummy, gave⟩ := L
  dsimp only at hperm hfits hled1 hpl1 ⊢
  rw [Array.toList_push] at hperm
  have hel1 : ElemsOf (PySem.strKind prog w) es1.toList := (hel.push hkey hsc).perm hperm
  have hz1 : es1.size = es.size + 1 := by rw [← Array.length_toList, hperm.length_eq, List.length_append, Array.length_toList]; rfl
  refine wpAny_bind (hgw _ ?_)
  have fin : ∀ (t2 : SetTable), t2.fits es1.size = true → t2.led = t.led → t2.plain = false → ∀ (h' : Heap) (o' : Obj) (es2 : Array (Int × Value)) (ep2 : Nat), Heap.SameBut a s.heap h' → h'.get? a = some o' → o'.ExactSet → o'.data = .set es2 ep2 t2 → es2.toList.Perm es1.toList → Q true { s with heap := h' } := by
   intro t2 hf2 hl2 hp2 h' o' es2 ep2 hsb ho' hex' hd' hpm
   have hpm2 : es2.toList.Perm (es.toList ++ [((PySem.strKind prog w).hash x, Value.str x tx)]) := hpm.trans hperm
   obtain ⟨ks', hk1, hk2⟩ : ∃ ks', StrsAre (es2.toList.map (·.2)) ks' ∧ ks'.Perm (ks ++ [x]) := by
    have hall : ∀ v, v ∈ es2.toList.map (·.2) → ∃ x t, v = Value.str x t := by
     intro v hv
     have hv2 : v ∈ (es.toList ++ [((PySem.strKind prog w).hash x, Value.str x tx)]).map (·.2) := (hpm2.map (·.2)).mem_iff.mp hv
     rw [List.map_append] at hv2
     refine ast hv2 (fun hv2 => ?_) fun hv2 => ?_
     ·exact hst.all v hv2
     rw [ms1 hv2]; exact ⟨_, _, rfl⟩
    refine ⟨_, strsAre_map _ hall, ?_⟩
    have := (hpm2.map (·.2)).map strOf
    rw [List.map_append, List.map_append, hst.strs] at this
    exact this
   have hnd' : ks'.Nodup := by
    rw [hk2.nodup_iff, List.nodup_append]
    exact ⟨hnd, by simp, fun a ha b hb e => hm (by rw [← ms1 hb, ← e]; exact ha)⟩
   have hz2 : es2.size = es1.size := by rw [← Array.length_toList, hpm.length_eq, Array.length_toList]
   have h9 := h h' o' ks' hsb ho' ⟨hex', hnd', es2, ep2, t2, hd', hk1, hel1.perm hpm, by rw [hz2]; exact hf2, fun e => hl2.trans (hled e), fun _ => hp2⟩ (.inr ⟨hm, hk2⟩)
   rw [decide_eq_false hm] at h9
   exact h9
  have rest : ∀ (t2 : SetTable), t2.fits es1.size = true → t2.led = t.led → t2.plain = false → wpAny (model prog w) A (do
    storeSet a es1 t2
    if (!wasDummy && t2.tooFull) = true then do
      (match (relayAll t2 es1 (SetTable.grown es1.size)).2.2 with | true => rule "set.scan.the-table-gave-way" | false => pure ())
      storeSet a (relayAll t2 es1 (SetTable.grown es1.size)).1 (relayAll t2 es1 (SetTable.grown es1.size)).2.1
      pure (some true)
     else pure (some true)) (fun r s' => wpAny (model prog w) A (match r with | some added => pure added | none => setAddHashedIn a (.str x tx) ((PySem.strKind prog w).hash x) 99999) Q E s') E s := by
   intro t2 hf2 hl2 hp2
   refine wpAny_bind (storeS (ks := ks) ho hex hd (by rw [sizeLine_eq]; have := hroom; rw [show scanBound = 4096 from rfl] at this; lia) fun h1 o1 hs1 ho1 hex1 hd1 => ?_)
   split
   ·have hp := relayAll_perm t2 es1 (SetTable.grown es1.size)
    have hfr := relayAll_fits t2 es1 (SetTable.grown es1.size)
    have hlr := relayAll_led t2 es1 (SetTable.grown es1.size)
    have hpr := relayAll_plain t2 es1 (SetTable.grown es1.size) hp2
    generalize hRl : relayAll t2 es1 (SetTable.grown es1.size) = Rl at hp hfr hlr hpr ⊢
    obtain ⟨es2, t3, gave2⟩ := Rl
    dsimp only at hp hfr hlr hpr ⊢
    have hz3 : es2.size = es1.size := by rw [← Array.length_toList, hp.length_eq, Array.length_toList]
    refine wpAny_bind (hgw _ ?_)
    refine wpAny_bind (storeS (s := { s with heap := h1 }) (ks := ks) ho1 hex1 hd1 (by rw [sizeLine_eq, hz3]; have := hroom; rw [show scanBound = 4096 from rfl] at this; lia) fun h2 o2 hs2 ho2 hex2 hd2 => ?_)
    exact wpAny_pure (wpAny_pure (fin t3 (by rw [← hz3]; exact hfr) (hlr.trans hl2) hpr h2 o2 es2 _ (hs1.trans hs2) ho2 hex2 hd2 hp))
   exact wpAny_pure (wpAny_pure (fin t2 hf2 hl2 hp2 h1 o1 es1 _ hs1 ho1 hex1 hd1 .rfl))
  cases hpt : t1.plain with
  | true =>
   simp only [if_true]
   refine wpAny_bind ?_
   rw [hashByValue_scannable 8 hsc]
   refine wpAny_pure ?_
   simp only [plainKind, Bool.false_eq_true, if_false]
   exact rest _ (SetTable.fits_plain_off hfits) hled1 rfl
  | false =>
   simp only [Bool.false_eq_true, if_false]
   refine wpAny_bind (wpAny_pure ?_)
   simp only [if_true]
   exact rest _ hfits hled1 hpt
theorem SetS.typeIs {a : Addr} {o : Obj} {ks : List Str} (h : SetS prog w o ks) (ho : s.heap.get? a = some o) : s.TypeIs (.ref a) "set" := ⟨o, ho, h.1.1⟩
theorem setAdd_S {a : Addr} {o : Obj} {ks : List Str} {x : Str} {tx : Tok} {Q : Value → Shared → Prop} (ho : s.heap.get? a = some o) (hS : SetS prog w o ks) (hroom : ks.length + 1 < scanBound)
  (h : ∀ h' o' ks', Heap.SameBut a s.heap h' → h'.get? a = some o' → SetS prog w o' ks' → (x ∈ ks ∧ ks' = ks ∨ x ∉ ks ∧ ks'.Perm (ks ++ [x])) → Q .none { s with heap := h', toks := s.toks + 1 }) :
  wpAny (model prog w) A (call (.builtin "set.add") [.ref a, .str x tx]) Q E s := by
 refine wpAny_call_entry F.slot_set_add (hS.typeIs ho) F.entry_set_add ?_ (F.args_set_add_2 _ _)
 unfold Builtin.«set.add» Builtin.Frozenset.oneOther
 simp only [List.isEmpty_nil, bind_assoc]
 unfold Builtin.Frozenset.addrOf setAdd
 refine wpAny_bind (wpAny_pure ?_)
 try dsimp only
 refine wpAny_bind (wpAny_pure ?_)
 try dsimp only
 refine wpAny_bind ?_
 refine wpAny_holding ?_
 refine wpAny_bind ((PySem.strKind prog w).pyHash (strKind_is prog w x tx) ?_)
 refine setAddH_S (s := { s with toks := s.toks + 1 }) ho hS hroom fun h' o' ks' hsb ho' hS' hk => ?_
 show wpAny _ _ (ret Value.none) _ _ _
 exact wpAny_pure ⟨_, rfl, h h' o' ks' hsb ho' hS' hk⟩
end
theorem si_owner : Manifest.owners.lookup (String.ofList ['r', 'o', 't', 'a', 'r', 'e', 't', 'i', '_', 't', 'e', 's'].reverse) = some Manifest.sig_set_iterator := by kernel_rfl
theorem si_next : Slot "set_iterator" "__next__" "set_iterator.__next__" :=
 .of (owner := "set_iterator") (n := "__next__") (by rw [typeLookup_type, builtinLookup_eq_fast]; kernel_rfl) (by decide +kernel) (by decide +kernel) (by decide +kernel)
  (by first | exact .inl (by decide +kernel) | exact .inr (by decide +kernel)) (by rw [isSubtype_type]; kernel_rfl)
theorem si_next_entry : entryFor table "set_iterator.__next__" = some Builtin.«set_iterator.__next__» := entryFor_of_tree (by kernel_rfl)
theorem si_next_args (a : Value) : argsOk "set_iterator.__next__" ⟨[a], []⟩ := by
 unfold argsOk; rw [signature?_of (id := "set_iterator.__next__") (n := ['_', '_', 't', 'x', 'e', 'n', '_', '_']) (o := ['r', 'o', 't', 'a', 'r', 'e', 't', 'i', '_', 't', 'e', 's']) (by kernel_rfl) si_owner]; kernel_rfl
theorem si_iter : Slot "set_iterator" "__iter__" "set_iterator.__iter__" :=
 .of (owner := "set_iterator") (n := "__iter__") (by rw [typeLookup_type, builtinLookup_eq_fast]; kernel_rfl) (by decide +kernel) (by decide +kernel) (by decide +kernel)
  (by first | exact .inl (by decide +kernel) | exact .inr (by decide +kernel)) (by rw [isSubtype_type]; kernel_rfl)
theorem si_iter_entry : entryFor table "set_iterator.__iter__" = some Builtin.«dict_keyiterator.__iter__» :=
 entryFor_alias (id' := "dict_keyiterator.__iter__") (by rw [fastTable_eq_tree]; kernel_rfl) rfl (by decide +kernel) (by rw [fastTable_eq_tree]; kernel_rfl)
theorem si_iter_args (a : Value) : argsOk "set_iterator.__iter__" ⟨[a], []⟩ := by
 unfold argsOk; rw [signature?_of (id := "set_iterator.__iter__") (n := ['_', '_', 'r', 'e', 't', 'i', '_', '_']) (o := ['r', 'o', 't', 'a', 'r', 'e', 't', 'i', '_', 't', 'e', 's']) (by kernel_rfl) si_owner]; kernel_rfl
theorem set_iter_entry : entryFor table "set.__iter__" = some Builtin.«frozenset.__iter__» :=
 entryFor_alias (id' := "frozenset.__iter__") (by rw [fastTable_eq_tree]; kernel_rfl) rfl (by decide +kernel) (by rw [fastTable_eq_tree]; kernel_rfl)
section
variable {prog : Program} {w : World} {A : Around} {E : Value → Shared → Prop} {s : Shared}
theorem perm_eraseIdx_cons {α : Type} {x : α} : ∀ {l : List α} {i : Nat}, l[i]? = some x → (x :: l.eraseIdx i).Perm l
 | [], _, h => by simp at h
 | y :: l, 0, h => by
  simp at h
  subst h
  exact .rfl
 | y :: l, i + 1, h => by
  rw [List.getElem?_cons_succ] at h
  rw [List.eraseIdx_cons_succ]
  exact (List.Perm.swap y x _).trans ((perm_eraseIdx_cons h).cons y)
theorem choose_S {n : Nat} {src : Source} {Q : Nat → Shared → Prop} (hn : n ≠ 0) (h : ∀ j d, j < n → Q j { s with drawn := d }) : wpAny (model prog w) A (choose src n) Q E s :=
 fun Γ p hΓ => ⟨hn, h _ _ (Nat.mod_lt _ (Nat.pos_of_ne_zero hn))⟩
theorem drawOrder_S {α : Type} : ∀ (n : Nat) (l : List α) (s : Shared) {Q : List α → Shared → Prop}, l.length = n → (∀ (l' : List α) (d : Drawn), l'.Perm l → Q l' { s with drawn := d }) → wpAny (model prog w) A (drawOrder n l) Q E s
 | 0, l, s, Q, hn, h => by
  have : l = [] := List.eq_nil_of_length_eq_zero hn
  subst this
  unfold drawOrder
  exact wpAny_pure (h [] s.drawn .rfl)
 | n + 1, [], s, Q, hn, h => nomatch hn
 | n + 1, x :: l, s, Q, hn, h => by
  unfold drawOrder
  refine wpAny_bind (choose_S (by simp) fun j d hlt => ?_)
  have hx : (x :: l)[j]? = some (x :: l)[j] := List.getElem?_eq_getElem hlt
  rw [hx]
  refine wpAny_bind (drawOrder_S n ((x :: l).eraseIdx j) { s with drawn := d } (by rw [List.length_eraseIdx_of_lt hlt, hn]; rfl) fun l' d' hp => wpAny_pure ?_)
  exact h _ d' (((hp.cons _)).trans (perm_eraseIdx_cons hx))
theorem pick_go {α : Type} (next : Nat → Nat) : ∀ (fuel k : Nat) (left : List α) (out : Array α), left.length ≤ fuel → (pickOrder.go next fuel k left out).toList.Perm (out.toList ++ left)
 | 0, k, left, out, h => by
  have : left = [] := List.eq_nil_of_length_eq_zero (by lia)
  subst this
  unfold pickOrder.go
  simp
 | fuel + 1, k, left, out, h => by
  unfold pickOrder.go
  split
  ·rename_i x hx
   have hlt := (List.getElem?_eq_some_iff.mp hx).1
   refine (pick_go next fuel (k + 1) _ _ (by rw [List.length_eraseIdx_of_lt hlt]; lia)).trans ?_
   rw [Array.toList_push, List.append_assoc]
   exact (List.Perm.refl _).append (perm_eraseIdx_cons hx)
  rename_i hx
  cases left with
  | nil => simp
  | cons y l =>
   have := List.getElem?_eq_none_iff.mp hx
   have h2 : next k % (y :: l).length < (y :: l).length := Nat.mod_lt _ (by simp)
   lia
theorem pick_perm {α : Type} (next : Nat → Nat) (xs : Array α) : (pickOrder next xs).toList.Perm xs.toList := by
 have := pick_go next xs.size 0 xs.toList #[] (by simp)
 simpa [pickOrder] using this
end
noncomputable abbrev siObj (first : Value) (i : Int) (sv : Value) (n ep : Nat) : Obj := { cls := .type "set_iterator", data := .fields #[first, .int i 0, sv, .int n 0, .int ep 0] }
inductive SRoad (w : World) (a : Addr) (es : Array (Int × Value)) (ep : Nat) (t : SetTable) (T : Addr) (vs : List Value) (h : Heap) : Nat → Value → Prop
 | text (i : Nat) : w.params.followText "set-order" = true → vs = (pickOrder (w.params.setOrder a ep) es).toList.map (·.2) → SRoad w a es ep t T vs h i (.int 0 0)
 | drawn (i : Nat) (js : List Nat) : h.get? T = some ⟨.type "tuple", none, .seq (js.map fun (j : Nat) => Value.int (j : Int) 0).toArray 0, #[]⟩ → js.Perm (List.range es.size) → js.length = vs.length → (∀ (k j : Nat) (e : Int × Value), js[k]? = some j → es[j]? = some e → vs[k]? = some e.2) → SRoad w a es ep t T vs h i (.ref T)
 | one (i : Nat) (first : Nat) : w.params.followText "set-order" = false → es.size ≤ 1 → t.led = true → vs = es.toList.map (·.2) → (i = 0 ∧ first = 0 ∨ i = 1 ∧ ∃ j, t.place[0]? = some j ∧ first = j + 1) → SRoad w a es ep t T vs h i (.int first 0)
def SSt (w : World) (I a : Addr) (o : Obj) (es : Array (Int × Value)) (ep : Nat) (t : SetTable) (T : Addr) (vs : List Value) (i : Nat) (h : Heap) : Prop :=
 h.get? a = some o ∧ ∃ first, h.get? I = some (siObj first i (.ref a) es.size ep) ∧ SRoad w a es ep t T vs h i first
theorem below_one0 {pl : Array Nat} (h : pl.size = 1) : SetTable.below pl 0 = 0 := by
 obtain ⟨l⟩ := pl
 match l, h with
 | [x], _ => unfold SetTable.below SetTable.below.go; simp [SetTable.below.go]
theorem below_one1 {pl : Array Nat} {j : Nat} (h : pl.size = 1) (hj : pl[0]? = some j) : SetTable.below pl (j + 1) = 1 := by
 obtain ⟨l⟩ := pl
 match l, h with
 | [x], _ =>
  have : x = j := by simpa using hj
  subst this
  unfold SetTable.below SetTable.below.go
  simp [SetTable.below.go]
theorem below_zero {pl : Array Nat} (h : pl.size = 0) (j : Nat) : SetTable.below pl j = 0 := by
 unfold SetTable.below
 rw [h]
 rfl
section
variable {prog : Program} {w : World} {A : Around} {E : Value → Shared → Prop} {s : Shared}
theorem si_typeIs {I : Addr} {first sv : Value} {i : Int} {n ep : Nat} (h : s.heap.get? I = some (siObj first i sv n ep)) : s.TypeIs (.ref I) "set_iterator" := ⟨_, h, rfl⟩
theorem fits_size {t : SetTable} {n : Nat} (h : t.fits n = true) : t.place.size = n := by
 unfold SetTable.fits at h
 simp only [Bool.and_eq_true, beq_iff_eq] at h
 exact h.1
theorem si_upd {I : Addr} {first sv : Value} {i : Int} {n ep : Nat} {k : Nat} {x : Value} {h : Heap} (ho : h.get? I = some (siObj first i sv n ep)) :
  (h.update I (Obj.mapFields (·.setIfInBounds k x))).get? I = some { cls := .type "set_iterator", data := .fields ((#[first, .int i 0, sv, .int n 0, .int ep 0] : Array Value).setIfInBounds k x) } :=
 Heap.get?_update_self _ ho rfl
theorem next_int {I a : Addr} {o : Obj} {es : Array (Int × Value)} {ep : Nat} {t : SetTable} {slot : Nat} {i : Nat} {Q : Option Value → Shared → Prop}
  (hI : s.heap.get? I = some (siObj (.int (slot : Int) 0) i (.ref a) es.size ep)) (ho : s.heap.get? a = some o) (hd : o.data = .set es ep t) (hf : t.fits es.size = true)
  (h : wpAny (model prog w) A.in1 (do
    match ← setNext a (slot : Int).toNat (i : Int).toNat (ep : Int).toNat with
    | some (x, next) =>
     setField (.ref I) 0 (rawInt next)
     setField (.ref I) 1 (rawInt ((i : Int) + 1))
     ret x
    | none => setField (.ref I) 2 .none; raiseNew (← newExc (.type "StopIteration") []))
   (fun fin s' => ∃ r, fin = .done (.ret r) ∧ Q (some r) s') (fun e s' => wpAny (model prog w) A (isInstance e (.type "StopIteration")) (fun b s'' => b = true ∧ Q none s'') E s') s) :
  wpAny (model prog w) A (pyNext (.ref I)) Q E s := by
 unfold pyNext
 refine wpAny_bind (wpAny_attempt (wpAny_callSpecial?_slot (name := Str.ofString "__next__") (si_typeIs hI) si_next (wpAny_call_entry si_next (si_typeIs hI) si_next_entry ?_ (si_next_args _))))
 unfold Builtin.«set_iterator.__next__»
 refine wpAny_bind (m := slotArgs _ _ _) (wpAny_pure ?_)
 refine wpAny_bind (wpAny_fieldsOf hI rfl ?_)
 dsimp only
 refine wpAny_bind (wpAny_setEntries_of ho hd hf ?_)
 rw [if_neg (by simp)]
 refine wpAny_mono h (fun fin s' hq => ?_) (fun e s' hq => ?_)
 ·refine el1_2 (hq) ?_; (try clear hq); intro r e91 hr; subst e91
  exact ⟨r, rfl, wpAny_pure hr⟩
 refine wpAny_bind (wpAny_mono hq (fun b s'' hb => ?_) fun _ _ e => e)
 refine el0_2 (hb) ?_; (try clear hb); intro e90 hb; subst e90
 exact wpAny_pure hb
theorem next_ref {I a : Addr} {o : Obj} {es : Array (Int × Value)} {ep : Nat} {t : SetTable} {T : Addr} {i : Nat} {Q : Option Value → Shared → Prop}
  (hI : s.heap.get? I = some (siObj (.ref T) i (.ref a) es.size ep)) (ho : s.heap.get? a = some o) (hd : o.data = .set es ep t) (hf : t.fits es.size = true)
  (h : wpAny (model prog w) A.in1 (do
    let some places ← seqItems? (.ref T) | unsupported "internal:set_iterator"
    match places[(i : Int).toNat]? with
    | some (.int place _) =>
     let x ← setNextDrawn a place.toNat (ep : Int).toNat
     setField (.ref I) 1 (rawInt ((i : Int) + 1))
     ret x
    | some _ => unsupported "internal:set_iterator"
    | none => setField (.ref I) 0 (rawInt 0); setField (.ref I) 2 .none; raiseNew (← newExc (.type "StopIteration") []))
   (fun fin s' => ∃ r, fin = .done (.ret r) ∧ Q (some r) s') (fun e s' => wpAny (model prog w) A (isInstance e (.type "StopIteration")) (fun b s'' => b = true ∧ Q none s'') E s') s) :
  wpAny (model prog w) A (pyNext (.ref I)) Q E s := by
 unfold pyNext
 refine wpAny_bind (wpAny_attempt (wpAny_callSpecial?_slot (name := Str.ofString "__next__") (si_typeIs hI) si_next (wpAny_call_entry si_next (si_typeIs hI) si_next_entry ?_ (si_next_args _))))
 unfold Builtin.«set_iterator.__next__»
 refine wpAny_bind (m := slotArgs _ _ _) (wpAny_pure ?_)
 refine wpAny_bind (wpAny_fieldsOf hI rfl ?_)
 dsimp only
 refine wpAny_bind (wpAny_setEntries_of ho hd hf ?_)
 rw [if_neg (by simp)]
 refine wpAny_mono h (fun fin s' hq => ?_) (fun e s' hq => ?_)
 ·refine el1_2 (hq) ?_; (try clear hq); intro r e91 hr; subst e91
  exact ⟨r, rfl, wpAny_pure hr⟩
 refine wpAny_bind (wpAny_mono hq (fun b s'' hb => ?_) fun _ _ e => e)
 refine el0_2 (hb) ?_; (try clear hb); intro e90 hb; subst e90
 exact wpAny_pure hb
theorem si_stop {Q : Option Value → Shared → Prop} {P : Fin → Shared → Prop} (hh : A.handled = none) (hQ : ∀ h', (∀ b o, s.heap.get? b = some o → h'.get? b = some o) → Q none { s with heap := h' }) :
  wpAny (model prog w) A.in1 (do raiseNew (← newExc (.type "StopIteration") [])) P (fun e s' => wpAny (model prog w) A (isInstance e (.type "StopIteration")) (fun b s'' => b = true ∧ Q none s'') E s') s := by
 refine wpAny_bind ?_
 simp only [newExc, newTuple]
 refine wpAny_bind (wpAny_newObj_type ?_ (by size_fits))
 refine wpAny_bind (m := firstArgMember _ _) (wpAny_of_eq (a := Value.none) (by first | rfl | (simp only [firstArgMember]; rfl)) ?_)
 refine wpAny_newObj_type ?_ (by size_fits)
 simp only [raiseNew]
 refine wpAny_bind (wpAny_handled ?_)
 rw [show A.in1.handled = none from hh]
 refine wpAny_bind (wpAny_pure (wpAny_throw ?_))
 refine wpAny_isInstance (T := "StopIteration") (b := true) ⟨_, Heap.get?_push_size _ rfl, rfl⟩ isSubtype_stop ⟨rfl, ?_⟩
 exact hQ _ fun b o e => Heap.get?_push_of_some _ (Heap.get?_push_of_some _ e)
theorem setNext_text {a : Addr} {o : Obj} {es : Array (Int × Value)} {ep : Nat} {t : SetTable} {slot i : Nat} {Q : Option (Value × Nat) → Shared → Prop} (ho : s.heap.get? a = some o) (hd : o.data = .set es ep t) (hf : t.fits es.size = true)
  (ht : w.params.followText "set-order" = true) (h : Q (((pickOrder (w.params.setOrder a ep) es)[i]?).map fun e => (e.2, slot)) s) : wpAny (model prog w) A (setNext a slot i ep) Q E s := by
 unfold setNext
 refine wpAny_bind (wpAny_setState_of ho hd hf ?_)
 dsimp only
 unfold setsByText
 refine wpAny_bind (wpAny_bind (wpAny_askSetting (wpAny_pure ?_)))
 rw [show (model prog w).w.params.followText "set-order" = true from ht]
 simp only [if_true, bne_self_eq_false, Bool.false_eq_true, if_false]
 refine wpAny_bind ?_
 unfold setWalk
 refine wpAny_bind (wpAny_setState_of ho hd hf ?_)
 dsimp only
 unfold setsByText
 refine wpAny_bind (wpAny_bind (wpAny_askSetting (wpAny_pure ?_)))
 rw [show (model prog w).w.params.followText "set-order" = true from ht]
 simp only [if_true]
 refine wpAny_bind (wpAny_askSetting (wpAny_pure ?_))
 exact wpAny_pure h
theorem setNext_one {a : Addr} {o : Obj} {es : Array (Int × Value)} {ep : Nat} {t : SetTable} {slot i : Nat} {Q : Option (Value × Nat) → Shared → Prop} (ho : s.heap.get? a = some o) (hd : o.data = .set es ep t) (hf : t.fits es.size = true)
  (ht : w.params.followText "set-order" = false) (hz : es.size ≤ 1) (hl : t.led = true)
  (h : Q (match es[SetTable.below t.place slot]?, t.place[SetTable.below t.place slot]? with | some (_, x), some j => some (x, j + 1) | _, _ => none) s) : wpAny (model prog w) A (setNext a slot i ep) Q E s := by
 unfold setNext
 refine wpAny_bind (wpAny_setState_of ho hd hf ?_)
 dsimp only
 unfold setsByText
 refine wpAny_bind (wpAny_bind (wpAny_askSetting (wpAny_pure ?_)))
 rw [show (model prog w).w.params.followText "set-order" = false from ht]
 simp only [Bool.false_eq_true, if_false]
 show wpAny (model prog w) A (if (!t.plain && decide (es.size > 1)) = true then _ else _) Q E s
 rw [if_neg (by simp; lia)]
 refine wpAny_bind ?_
 show wpAny (model prog w) A (if (!t.led && !es.isEmpty) = true then unsupported "set:maker-not-led" else pure ()) _ E s
 rw [hl]
 exact wpAny_pure (wpAny_pure h)
theorem setNextDrawn_S {a : Addr} {o : Obj} {es : Array (Int × Value)} {ep : Nat} {t : SetTable} {place : Nat} {e : Int × Value} {Q : Value → Shared → Prop} (ho : s.heap.get? a = some o) (hd : o.data = .set es ep t) (hf : t.fits es.size = true)
  (he : es[place]? = some e) (h : Q e.2 s) : wpAny (model prog w) A (setNextDrawn a place ep) Q E s := by
 unfold setNextDrawn
 refine wpAny_bind (wpAny_setState_of ho hd hf ?_)
 dsimp only
 simp only [bne_self_eq_false, Bool.false_eq_true, if_false]
 rw [he]
 exact wpAny_pure h
theorem si_item {I a T : Addr} {o : Obj} {es : Array (Int × Value)} {ep : Nat} {t : SetTable} {vs : List Value} {i : Nat} {v : Value} {Q : Option Value → Shared → Prop} (hd : o.data = .set es ep t) (hf : t.fits es.size = true) (hIa : I ≠ a) (hIT : I ≠ T) (hlen : vs.length = es.size)
  (st : SSt w I a o es ep t T vs i s.heap) (hv : vs[i]? = some v) (hQ : ∀ h', SSt w I a o es ep t T vs (i + 1) h' → (∀ b o, b ≠ I → s.heap.get? b = some o → h'.get? b = some o) → Q (some v) { s with heap := h' }) :
  wpAny (model prog w) A (pyNext (.ref I)) Q E s := by
 obtain ⟨ho, first, hI, hr⟩ := st
 cases hr with
 | text ht hvs =>
  refine next_int (slot := 0) hI ho hd hf ?_
  refine wpAny_bind (setNext_text ho hd hf ht ?_)
  refine (let G9 : Prop := _; (?_ : G9))
  obtain ⟨e, he, hev⟩ : ∃ e, (pickOrder (w.params.setOrder a ep) es)[((i : Int)).toNat]? = some e ∧ e.2 = v := by
   rw [hvs, List.getElem?_map] at hv
   refine el1_2 (Option.map_eq_some_iff.mp hv) ?_; intro e he hev
   exact ⟨e, by simpa using he, hev⟩
  refine (?_ : wpAny _ _ _ _ _ _)
  rw [show ((ep : Int)).toNat = ep from Int.toNat_natCast ep] at *
  rw [he]
  dsimp only [Option.map]
  refine wpAny_bind (wpAny_setField hI rfl (by simp) ?_)
  have h1 := si_upd (k := 0) (x := rawInt (((0 : Int).toNat : Nat) : Int)) hI
  refine wpAny_bind (wpAny_setField h1 rfl (by simp) ?_)
  have h2 := Heap.get?_update_self (Obj.mapFields (·.setIfInBounds 1 (rawInt ((i : Int) + 1)))) h1 rfl
  refine wpAny_pure ⟨_, rfl, ?_⟩
  rw [hev]
  refine hQ _ ⟨?_, _, h2, .text _ ht hvs⟩ fun b o' hb e' => ?_
  ·exact (Heap.get?_update_other _ _ hIa).trans ((Heap.get?_update_other _ _ hIa).trans ho)
  exact (Heap.get?_update_other _ _ (Ne.symm hb)).trans ((Heap.get?_update_other _ _ (Ne.symm hb)).trans e')
 | drawn js hT hjs hjl hjv =>
  refine next_ref hI ho hd hf ?_
  refine wpAny_bind (wpAny_seqItems hT rfl ?_)
  dsimp only
  refine (let G9 : Prop := _; (?_ : G9))
  obtain ⟨j, hj⟩ : ∃ j, js[i]? = some j := by
   have := (List.getElem?_eq_some_iff.mp hv).1
   exact ⟨js[i]'(by lia), List.getElem?_eq_getElem _⟩
  refine (?_ : wpAny _ _ _ _ _ _)
  have hjm : j < es.size := by
   have := hjs.mem_iff.mp (List.mem_of_getElem? hj)
   exact List.mem_range.mp this
  have he : es[j]? = some es[j] := Array.getElem?_eq_getElem hjm
  have hev : es[j].2 = v := by
   have := hjv i j _ hj he
   rw [hv] at this
   exact (Option.some.inj this).symm
  have hpl : (js.map fun (j : Nat) => Value.int (j : Int) 0).toArray[((i : Int)).toNat]? = some (.int (j : Int) 0) := by
   simp [hj]
  rw [hpl]
  dsimp only
  refine wpAny_bind (setNextDrawn_S (e := es[j]) ho hd hf (by simpa using he) ?_)
  refine wpAny_bind (wpAny_setField hI rfl (by simp) ?_)
  have h1 := si_upd (k := 1) (x := rawInt ((i : Int) + 1)) hI
  refine wpAny_pure ⟨_, rfl, ?_⟩
  rw [hev]
  refine hQ _ ⟨?_, _, h1, .drawn _ js ?_ hjs hjl hjv⟩ fun b o' hb e' => ?_
  ·exact (Heap.get?_update_other _ _ hIa).trans ho
  ·exact (Heap.get?_update_other _ _ hIT).trans hT
  exact (Heap.get?_update_other _ _ (Ne.symm hb)).trans e'
 | one first ht hz hl hvs hi =>
  have hlt := (List.getElem?_eq_some_iff.mp hv).1
  have hi0 : i = 0 := by lia
  have hf0 : first = 0 := by
   rcases hi with ⟨_, h⟩ | ⟨h, _⟩
   ·exact h
   lia
  subst hi0
  subst hf0
  refine next_int (slot := 0) hI ho hd hf ?_
  refine wpAny_bind (setNext_one ho hd hf ht hz hl ?_)
  have hes1 : es.size = 1 := by lia
  have hps : t.place.size = 1 := (fits_size hf).trans hes1
  rw [show (((0 : Nat) : Int)).toNat = 0 from rfl, below_one0 hps]
  have hp0 : t.place[0]? = some (t.place[0]'(by lia)) := Array.getElem?_eq_getElem _
  have he0 : es[0]? = some (es[0]'(by lia)) := Array.getElem?_eq_getElem _
  have hev : (es[0]'(by lia)).2 = v := by
   rw [hvs] at hv
   simp at hv
   refine el1_1 (hv) ?_; (try clear hv); intro q1 q2
   rw [he0] at q2
   exact congrArg Prod.snd (Option.some.inj q2)
  rw [hp0, he0]
  dsimp only
  refine wpAny_bind (wpAny_setField hI rfl (by simp) ?_)
  have h1 := si_upd (k := 0) (x := rawInt (((t.place[0]'(by lia)) + 1 : Nat) : Int)) hI
  refine wpAny_bind (wpAny_setField h1 rfl (by simp) ?_)
  have h2 := Heap.get?_update_self (Obj.mapFields (·.setIfInBounds 1 (rawInt (((0 : Nat) : Int) + 1)))) h1 rfl
  refine wpAny_pure ⟨_, rfl, ?_⟩
  rw [hev]
  refine hQ _ ⟨?_, _, h2, .one 1 (t.place[0]'(by lia) + 1) ht hz hl hvs (.inr ⟨rfl, _, hp0, rfl⟩)⟩ fun b o' hb e' => ?_
  ·exact (Heap.get?_update_other _ _ hIa).trans ((Heap.get?_update_other _ _ hIa).trans ho)
  exact (Heap.get?_update_other _ _ (Ne.symm hb)).trans ((Heap.get?_update_other _ _ (Ne.symm hb)).trans e')
theorem si_done {I a T : Addr} {o : Obj} {es : Array (Int × Value)} {ep : Nat} {t : SetTable} {vs : List Value} {i : Nat} {Q : Option Value → Shared → Prop} (hh : A.handled = none) (hd : o.data = .set es ep t) (hf : t.fits es.size = true) (hIa : I ≠ a) (hIT : I ≠ T) (hlen : vs.length = es.size)
  (hin : i = vs.length) (st : SSt w I a o es ep t T vs i s.heap) (hQ : ∀ h', (∀ b o, b ≠ I → s.heap.get? b = some o → h'.get? b = some o) → Q none { s with heap := h' }) :
  wpAny (model prog w) A (pyNext (.ref I)) Q E s := by
 obtain ⟨ho, first, hI, hr⟩ := st
 have hoff : ∀ {h1 : Heap} {k : Nat} {x : Value} b o', b ≠ I → h1.get? b = some o' → (h1.update I (Obj.mapFields (·.setIfInBounds k x))).get? b = some o' := fun b o' hb e' => (Heap.get?_update_other _ _ (Ne.symm hb)).trans e'
 cases hr with
 | text ht hvs =>
  refine next_int (slot := 0) hI ho hd hf ?_
  refine wpAny_bind (setNext_text ho hd hf ht ?_)
  have he : (pickOrder (w.params.setOrder a ep) es)[((i : Int)).toNat]? = none := by
   rw [Int.toNat_natCast, hin]
   apply Array.getElem?_eq_none
   rw [hvs]
   simp
  rw [show ((ep : Int)).toNat = ep from Int.toNat_natCast ep] at *
  rw [he]
  dsimp only [Option.map]
  refine wpAny_bind (wpAny_setField hI rfl (by simp) ?_)
  exact si_stop hh fun h' hk => hQ h' fun b o' hb e' => hk b o' (hoff b o' hb e')
 | drawn js hT hjs hjl hjv =>
  refine next_ref hI ho hd hf ?_
  refine wpAny_bind (wpAny_seqItems hT rfl ?_)
  dsimp only
  have hpl : (js.map fun (j : Nat) => Value.int (j : Int) 0).toArray[((i : Int)).toNat]? = none := by
   rw [Int.toNat_natCast, hin]
   apply Array.getElem?_eq_none
   simp [hjl]
  rw [hpl]
  dsimp only
  refine wpAny_bind (wpAny_setField hI rfl (by simp) ?_)
  have h1 := si_upd (k := 0) (x := rawInt 0) hI
  refine wpAny_bind (wpAny_setField h1 rfl (by simp) ?_)
  exact si_stop hh fun h' hk => hQ h' fun b o' hb e' => hk b o' (hoff b o' hb (hoff b o' hb e'))
 | one first ht hz hl hvs hi =>
  refine next_int hI ho hd hf ?_
  refine wpAny_bind (setNext_one ho hd hf ht hz hl ?_)
  have hn : (match es[SetTable.below t.place ((first : Int)).toNat]?, t.place[SetTable.below t.place ((first : Int)).toNat]? with | some (_, x), some j => some (x, j + 1) | _, _ => none) = (none : Option (Value × Nat)) := by
   have hps := fits_size hf
   rcases hi with ⟨h1, h2⟩ | ⟨h1, j, h2, h3⟩
   ·have : t.place.size = 0 := by lia
    rw [below_zero this]
    have : es[0]? = none := Array.getElem?_eq_none (by lia)
    rw [this]
   have h4 : t.place.size = 1 := by lia
   rw [h3, Int.toNat_natCast, below_one1 h4 h2]
   have : es[1]? = none := Array.getElem?_eq_none (by lia)
   rw [this]
  rw [hn]
  dsimp only
  refine wpAny_bind (wpAny_setField hI rfl (by simp) ?_)
  exact si_stop hh fun h' hk => hQ h' fun b o' hb e' => hk b o' (hoff b o' hb e')
end
section
variable {prog : Program} {w : World} {A : Around} {E : Value → Shared → Prop} {s : Shared}
theorem srd_at {a : Addr} {es : Array (Int × Value)} {ep : Nat} {t : SetTable} {T : Addr} {vs : List Value} {h h' : Heap} {i : Nat} {first : Value} (hT : ∀ o, h.get? T = some o → h'.get? T = some o) (x : SRoad w a es ep t T vs h i first) : SRoad w a es ep t T vs h' i first := by
 cases x with
 | text h1 h2 => exact .text _ h1 h2
 | drawn js h1 h2 h3 h4 => exact .drawn _ js (hT _ h1) h2 h3 h4
 | one first h1 h2 h3 h4 h5 => exact .one _ first h1 h2 h3 h4 h5
theorem setWalks {I a T : Addr} {o : Obj} {es : Array (Int × Value)} {ep : Nat} {t : SetTable} {vs : List Value} (hh : A.handled = none) (hd : o.data = .set es ep t) (hf : t.fits es.size = true) (hIa : I ≠ a) (hIT : I ≠ T) (hlen : vs.length = es.size) :
  Walks prog w A I [I, a, T] [I] vs.length (fun i v => vs[i]? = some v) (SSt w I a o es ep t T vs) where
 sub := fun b hb => by simp at hb; simp [hb]
 frame := fun i h h' st hk => by
  obtain ⟨ho, first, hI, hr⟩ := st
  exact ⟨hk a (by simp) _ ho, first, hk I (by simp) _ hI, srd_at (fun o e => hk T (by simp) o e) hr⟩
 item := fun i s Q E hi st hQ => by
  have hv : vs[i]? = some vs[i] := List.getElem?_eq_getElem hi
  refine si_item hd hf hIa hIT hlen st hv fun h' st' hk => ?_
  exact hQ _ h' s.toks hv st' fun b o hb e => hk b o (fun q => hb (by simp [q])) e
 done := fun s Q E st hQ => si_done hh hd hf hIa hIT hlen rfl st fun h' hk => hQ h' s.toks fun b o hb e => hk b o (fun q => hb (by simp [q])) e
 self := fun i s Q E st hQ => by
  obtain ⟨ho, first, hI, hr⟩ := st
  refine wpAny_pyIter_slot (si_typeIs hI) si_iter (wpAny_call_entry si_iter (si_typeIs hI) si_iter_entry ?_ (si_iter_args _))
  show wpAny _ _ (ret (.ref I)) _ _ s
  exact wpAny_pure ⟨_, rfl, "set_iterator", _, si_typeIs hI, si_next.lookup, hQ⟩
theorem strsAre_perm {vs vs' : List Value} {ks : List Str} (h : StrsAre vs ks) (hp : vs'.Perm vs) : ∃ ks', StrsAre vs' ks' ∧ ks'.Perm ks := by
 refine ⟨_, strsAre_map _ fun v hv => h.all v (hp.mem_iff.mp hv), ?_⟩
 have := hp.map strOf
 rw [h.strs] at this
 exact this
theorem map_range_get (es : Array (Int × Value)) : (List.range es.size).map (fun j => (es[j]?.map (·.2)).getD .none) = es.toList.map (·.2) := by
 apply List.ext_getElem?
 intro j
 rw [List.getElem?_map, List.getElem?_map]
 by_cases hj : j < es.size
 ·rw [List.getElem?_range hj, Array.getElem?_toList, Array.getElem?_eq_getElem hj]
  simp [Array.getElem?_eq_getElem hj]
 rw [List.getElem?_eq_none (by simpa using hj), List.getElem?_eq_none (by simpa using hj)]
 rfl
theorem iterSet {a : Addr} {o : Obj} {ks : List Str} {Q : Value → Shared → Prop} (ho : s.heap.get? a = some o) (hS : SetS prog w o ks) (hz : ks.length ≤ 1000)
  (hQ : ∀ es ep t I T vs ks' h' d, o.data = .set es ep t → t.fits es.size = true → (∀ b o, s.heap.get? b = some o → h'.get? b = some o) → s.heap.objs.size ≤ I → I < h'.objs.size → T < h'.objs.size → I ≠ T → I ≠ a → (T = a ∨ s.heap.objs.size ≤ T) → SSt w I a o es ep t T vs 0 h' → StrsAre vs ks' → ks'.Perm ks → vs.length = es.size →
   Q (.ref I) { s with heap := h', drawn := d }) :
  wpAny (model prog w) A (pyIter (.ref a)) Q E s := by
 refine (let G9 : Prop := _; (?_ : G9))
 obtain ⟨hex, hnd, es, ep, t, hd, hst, hel, hf, hled, hpl⟩ := id hS
 refine (?_ : wpAny _ _ _ _ _ _)
 have hT := hS.typeIs ho
 have ha := Heap.lt_size ho
 have hsz : es.size = ks.length := by have := hst.length; simpa using this
 refine wpAny_pyIter_slot hT F.slot_set_iter (wpAny_call_entry F.slot_set_iter hT set_iter_entry ?_ (F.args_set_iter_1 _))
 unfold Builtin.«frozenset.__iter__»
 refine wpAny_bind (m := Builtin.Frozenset.slot0 _ _) (wpAny_pure ?_)
 unfold Builtin.Frozenset.sizeOf
 refine wpAny_bind (wpAny_bind (wpAny_setEntries_of ho hd hf (wpAny_pure ?_)))
 refine wpAny_bind ?_
 unfold setDrawn
 refine wpAny_bind (wpAny_setState_of ho hd hf ?_)
 dsimp only
 unfold setsByText
 refine wpAny_bind (wpAny_bind (wpAny_askSetting (wpAny_pure ?_)))
 refine wpAny_pure ?_
 dsimp only
 have fin : ∀ (first : Value) (s1 : Shared) (T : Addr) (vs : List Value), (∃ d h1, s1 = { s with heap := h1, drawn := d }) → (∀ b o, s.heap.get? b = some o → s1.heap.get? b = some o) → s.heap.objs.size ≤ s1.heap.objs.size → T < s1.heap.objs.size → (T = a ∨ s.heap.objs.size ≤ T) → SRoad w a es ep t T vs s1.heap 0 first → vs.Perm (es.toList.map (·.2)) →
   wpAny (model prog w) A.in1 (do
       let e ← setEpoch a
       let r ← newFields "set_iterator" [first, rawInt 0, Value.ref a, rawInt (es.size : Int), rawInt (e : Int)]
       ret r) (fun fin s' => ∃ v, fin = Fin.done (Flow.ret v) ∧ ∃ T' r, s'.TypeIs v T' ∧ typeLookup (Value.type T') (Str.ofString "__next__") = pure (some r) ∧ Q v s') E s1 := by
  rintro first s1 T vs ⟨d, h1, rfl⟩ hk hle hTl hTa hr hpm
  refine wpAny_bind (wpAny_setEpoch_of (hk _ _ ho) hd hf ?_)
  refine wpAny_bind (wpAny_newObj_type ?_)
  have hI : (h1.push (siObj first (0 : Nat) (.ref a) es.size ep)).get? h1.objs.size = some (siObj first (0 : Nat) (.ref a) es.size ep) := Heap.get?_push_size _ rfl
  have up : ∀ b o, h1.get? b = some o → (h1.push (siObj first (0 : Nat) (.ref a) es.size ep)).get? b = some o := fun b o e => Heap.get?_push_of_some _ e
  refine el1_2 (strsAre_perm hst hpm) ?_; intro ks' hk1 hk2
  refine wpAny_pure ⟨_, rfl, "set_iterator", _, si_typeIs (s := { s with heap := h1.push (siObj first (0 : Nat) (.ref a) es.size ep), drawn := d }) hI, si_next.lookup, ?_⟩
  refine hQ es ep t h1.objs.size T vs ks' _ d hd hf (fun b o e => up b o (hk b o e)) hle (by rw [Heap.size_push]; exact Nat.lt_succ_self _) (by rw [Heap.size_push]; exact nls hTl) (ngt hTl) (ngt (Nat.lt_of_lt_of_le ha hle)) hTa ⟨up _ _ (hk _ _ ho), first, hI, srd_at (fun o e => up T o e) hr⟩ hk1 hk2 ?_
  have := hpm.length_eq
  simpa using this
 have key : ∀ c : Bool, c = (!t.plain && decide (es.size > 1)) → wpAny (model prog w) A.in1 (if (!(model prog w).w.params.followText "set-order" && c) = true then do
   let js ← drawOrder es.size (List.range es.size)
   let first ← newTuple (js.map fun (i : Nat) => rawInt (i : Int))
   let e ← setEpoch a
   let r ← newFields "set_iterator" [first, rawInt 0, Value.ref a, rawInt (es.size : Int), rawInt (e : Int)]
   ret r
  else do
   let first ← pure (rawInt 0)
   let e ← setEpoch a
   let r ← newFields "set_iterator" [first, rawInt 0, Value.ref a, rawInt (es.size : Int), rawInt (e : Int)]
   ret r) (fun fin s' => ∃ v, fin = Fin.done (Flow.ret v) ∧ ∃ T' r, s'.TypeIs v T' ∧ typeLookup (Value.type T') (Str.ofString "__next__") = pure (some r) ∧ Q v s') E s := by
  intro c hc0
  cases hb : w.params.followText "set-order" with
  | true =>
   rw [show (model prog w).w.params.followText "set-order" = true from hb, if_neg (by simp)]
   refine wpAny_bind (wpAny_pure ?_)
   exact fin _ s a _ ⟨s.drawn, s.heap, rfl⟩ (fun _ _ e => e) (Nat.le_refl _) ha (.inl rfl) (.text 0 hb rfl) ((pick_perm _ _).map _)
  | false =>
   rw [show (model prog w).w.params.followText "set-order" = false from hb]
   cases hc : c with
   | true =>
    rw [if_pos (by rfl)]
    refine wpAny_bind (drawOrder_S es.size (List.range es.size) s (by simp) fun js d hjs => ?_)
    have hjl : js.length = es.size := by rw [hjs.length_eq]; simp
    refine wpAny_bind (wpAny_newTuple ?_ )
    refine fin _ _ s.heap.objs.size (js.map fun j => (es[j]?.map (·.2)).getD .none) ⟨d, _, rfl⟩ (fun _ _ e => Heap.get?_push_of_some _ e) (by rw [Heap.size_push]; exact Nat.le_succ _) (by rw [Heap.size_push]; exact Nat.lt_succ_self _) (.inr (Nat.le_refl _)) (.drawn 0 js ?_ hjs (by simp) ?_) ?_
    ·exact Heap.get?_push_size _ rfl
    ·intro k j e hk he
     rw [List.getElem?_map, hk]
     simp [he]
    rw [← map_range_get es]
    exact hjs.map _
   | false =>
    rw [if_neg (by simp)]
    refine wpAny_bind (wpAny_pure ?_)
    have hz1 : es.size ≤ 1 := by
     by_cases h0 : es.size = 0
     ·omega
     have := hpl h0
     rw [this, hc] at hc0
     simp at hc0
     omega
    exact fin _ s a _ ⟨s.drawn, s.heap, rfl⟩ (fun _ _ e => e) (Nat.le_refl _) ha (.inl rfl) (.one 0 0 hb hz1 (hled hb) rfl (.inl ⟨rfl, rfl⟩)) (List.Perm.refl _)
 exact key _ rfl
end
section
variable {prog : Program} {w : World} {A : Around} {E : Value → Shared → Prop} {s : Shared}
theorem w_pos {α : Type} {M : Model} {c : Prop} [Decidable c] {x y : Sem α} {Q : α → Shared → Prop} (hc : c) (h : wpAny M A x Q E s) : wpAny M A (if c then x else y) Q E s := by rw [if_pos hc]; exact h
theorem w_neg {α : Type} {M : Model} {c : Prop} [Decidable c] {x y : Sem α} {Q : α → Shared → Prop} (hc : ¬c) (h : wpAny M A y Q E s) : wpAny M A (if c then x else y) Q E s := by rw [if_neg hc]; exact h
theorem collectSet {a : Addr} {o : Obj} {ks : List Str} {Q : List Value → Shared → Prop} (hh : A.handled = none) (ho : s.heap.get? a = some o) (hS : SetS prog w o ks) (hz : ks.length ≤ 1000)
  (hQ : ∀ vs ks' h' d tk, (∀ b o, s.heap.get? b = some o → h'.get? b = some o) → StrsAre vs ks' → ks'.Perm ks → Q vs { s with heap := h', drawn := d, toks := tk }) :
  wpAny (model prog w) A (collect (.ref a)) Q E s := by
 have ha := Heap.lt_size ho
 have hSa : s.heap.objs.size ≠ a := ngt ha
 unfold collect
 refine wpAny_bind (wpAny_runValue (codeAny_builtin F.entry_proto_collect ?_))
 rw [Around.under_plainId F.plain_proto_collect _]
 show wpAny _ A.in1 (newList [] >>= fun l => again (.builtin "list.__iadd__" ⟨[l, .ref a], []⟩)) _ _ s
 refine wpAny_bind (wpAny_newObj_type ?_)
 refine wpAny_pure ⟨plainId_quiet F.plain_list_iadd _, codeAny_builtin F.entry_list_iadd ?_⟩
 rw [Around.under_plainId F.plain_list_iadd _]
 have hS₁ : (s.heap.push { cls := .type "list", data := .seq ([] : List Value).toArray }).get? s.heap.objs.size = some { cls := .type "list", data := .seq ([] : List Value).toArray } := Heap.get?_push_size _ rfl
 have ho₁ : (s.heap.push { cls := .type "list", data := .seq ([] : List Value).toArray }).get? a = some o := Heap.get?_push_of_some _ ho
 show wpAny _ A.in1 (Builtin.List.listExtendWith (.ref s.heap.objs.size) (.ref a) (.ref s.heap.objs.size)) _ _ _
 unfold Builtin.List.listExtendWith
 refine wpAny_bind (wpAny_typeOf (hS.typeIs (s := { s with heap := s.heap.push { cls := .type "list", data := .seq ([] : List Value).toArray } }) ho₁) ?_)
 have h1 : Builtin.List.listSameRef (.ref s.heap.objs.size) (.ref a) = false := by simp [Builtin.List.listSameRef, hSa]
 rw [if_neg (by rw [h1]; decide)]
 refine wpAny_bind (iterSet (s := { s with heap := s.heap.push { cls := .type "list", data := .seq ([] : List Value).toArray } }) ho₁ hS hz fun es ep t I T vs ks' h' d hd hf hk hle hIl hTl hIT hIa hTa hst hvs hks hvl => ?_)
 have ho₂ : h'.get? a = some o := hk _ _ ho₁
 have hS₂ := hk _ _ hS₁
 refine wpAny_bind (wpAny_holding ?_)
 unfold Builtin.List.listLengthHint
 have hT₂ : ({ s with heap := h', drawn := d } : Shared).TypeIs (.ref a) "set" := ⟨o, ho₂, hS.1.1⟩
 refine wpAny_bind (wpAny_specialOf hT₂ F.slot_set_len.lookup ?_)
 (generalize hid : ("set.__len__" : String) = id0; wp_delta; rw [show splitId id0 = some ("set", "__len__") from by subst hid; decide +kernel]; subst hid)
 refine wpAny_bind (wpAny_isInstance (b := true) hT₂ (by rw [isSubtype_type]; kernel_rfl) ?_)
 refine w_neg (by decide) ?_
 refine w_pos (by decide +kernel) ?_
 refine wpAny_bind (wpAny_typeOf hT₂ ?_)
 refine wpAny_pure ?_
 refine w_pos (by decide +kernel) ?_
 refine wpAny_bind (wpAny_rule ?_)
 refine wpAny_bind ?_
 show wpAny _ A.in1 (updateSeq s.heap.objs.size (·.push .none) >>= fun _ => updateSeq s.heap.objs.size (·.pop)) _ _ _
 refine wpAny_bind (wpAny_updateSeq hS₂ rfl ?_)
 have hS₃ := Heap.get?_update_self (Obj.mapSeq (·.push Value.none)) hS₂ rfl
 refine wpAny_updateSeq hS₃ rfl ?_
 have hS₄ := Heap.get?_update_self (Obj.mapSeq (·.pop)) hS₃ rfl
 have oth : ∀ b o, b ≠ s.heap.objs.size → h'.get? b = some o → ((h'.update s.heap.objs.size (Obj.mapSeq (·.push Value.none))).update s.heap.objs.size (Obj.mapSeq (·.pop))).get? b = some o :=
  fun b o hb e => (Heap.get?_update_other _ _ (Ne.symm hb)).trans ((Heap.get?_update_other _ _ (Ne.symm hb)).trans e)
 have hle' : s.heap.objs.size < I := by
  have : (s.heap.push { cls := Value.type "list", data := Data.seq ([] : List Value).toArray }).objs.size ≤ I := hle
  rw [Heap.size_push] at this
  exact this
 have hSf : s.heap.objs.size ∉ [I, a, T] := by
  intro hm
  simp only [List.mem_cons, List.not_mem_nil, or_false] at hm
  rcases hm with e | e | e
  ·exact nlt hle' e
  ·exact hSa e
  rcases hTa with h9 | h9
  ·exact hSa (e.trans h9)
  have h9' : (s.heap.push { cls := Value.type "list", data := Data.seq ([] : List Value).toArray }).objs.size ≤ T := h9
  rw [Heap.size_push, ← e] at h9'
  exact Nat.not_succ_le_self _ h9'
 have W := (setWalks (prog := prog) (A := A.in1) (w := w) (I := I) (a := a) (T := T) (o := o) (es := es) (ep := ep) (t := t) (vs := vs) hh hd hf hIa hIT hvl)
 have hvlen : vs.length ≤ sizeLine := by
  have := hvs.length
  have h2 := hks.length_eq
  rw [sizeLine_eq]
  lia
 refine wpAny_pure ⟨plainId_quiet F.plain_extend_loop _, codeAny_extend_loopS W.toS hvlen _ hSf _ vs.length 0 _ _ _ rfl (Nat.zero_le _) (W.frame 0 _ _ hst fun b hb o e => oth b o (fun q => hSf (q ▸ hb)) e) hS₄ (ItemsOf.nil _) fun s' acc' c' hm hS' hacc => ?_⟩
 show wpAny _ A (load s.heap.objs.size >>= _) _ _ s'
 refine wpAny_bind (wpAny_load hS' ?_)
 refine wpAny_pure ?_
 have hacc2 : acc'.toList = vs := by
  apply List.ext_getElem?
  intro j
  cases e : acc'[j]? with
  | some v =>
   rw [Array.getElem?_toList, e]
   exact (hacc.2 j v e).symm
  | none =>
   rw [Array.getElem?_toList, e]
   have h3 := hacc.1
   have h4 : acc'.size ≤ j := by simpa using e
   exact (List.getElem?_eq_none (by lia)).symm
 have es' : s' = { s with heap := s'.heap, drawn := d, toks := s'.toks } := by
  have h1 := hm.gens
  have h2 := hm.drawn
  have h3 := hm.os
  obtain ⟨hp9, gn9, dr9, tk9, os9⟩ := s'
  dsimp only at h1 h2 h3 ⊢
  subst h1 h2 h3
  rfl
 rw [es']
 show Q acc'.toList _
 rw [hacc2]
 refine hQ vs ks' s'.heap d s'.toks (fun b o' e => ?_) hvs hks
 have hbS : b ≠ s.heap.objs.size := nlt (Heap.lt_size e)
 have e2 := hk b o' (Heap.get?_push_of_some _ e)
 refine hm.heap b o' ?_ (oth b o' hbS e2)
 intro hmm
 rcases mc1 hmm with q | q
 ·exact hbS q
 rw [List.mem_singleton] at q
 rw [q] at e
 exact absurd (Heap.lt_size e) (Nat.not_lt.mpr (Nat.le_of_lt hle'))
end
section
variable {prog : Program} {w : World} {A : Around} {E : Value → Shared → Prop} {s : Shared}
theorem sorted_any {v : Value} {G : List Value → Shared → Prop} {Q : Value → Shared → Prop}
  (hcol : ∀ (Q' : List Value → Shared → Prop) (E' : Value → Shared → Prop), (∀ vs s', G vs s' → Q' vs s') → wpAny (model prog w) A.in1 (collect v) Q' E' s)
  (hG : ∀ vs s', G vs s' → (∃ ks', StrsAre vs ks') ∧ vs.length < 64)
  (h : ∀ vs s₁ ks' (out : Array Value) ss h' e, G vs s₁ → StrsAre vs ks' → StrsAre out.toList ss → ss.Perm ks' → sortedS ss = true → (∀ b o, s₁.heap.get? b = some o → h'.get? b = some o) → h'.get? s₁.heap.objs.size = some (seqObj "list" out e) → Q (.ref s₁.heap.objs.size) { s₁ with heap := h' }) :
  wpAny (model prog w) A (call (.builtin "sorted") [v]) Q E s := by
 refine Calls.call_function_entry kind_sorted plain_sorted entry_sorted (args_sorted1 _) ?_
 unfold Builtin.«sorted»
 refine wpAny_bind (m := checkCount "sorted" 1 1 _) (wpAny_pure ?_)
 refine wpAny_bind (hcol _ _ fun vs s₁ hg => ?_)
 refine (let G9 : Prop := _; (?_ : G9))
 obtain ⟨⟨ks', hS⟩, h64⟩ := hG vs s₁ hg
 refine (?_ : wpAny _ _ _ _ _ _)
 refine wpAny_bind (wpAny_newList ?_)
 have hoL : (s₁.heap.push (seqObj "list" vs.toArray 0)).get? s₁.heap.objs.size = some (seqObj "list" vs.toArray 0) := Heap.get?_push_size _ rfl
 show wpAny _ _ _ _ _ { s₁ with heap := s₁.heap.push (seqObj "list" vs.toArray 0) }
 refine wpAny_bind (wpAny_holding (wpAny_call_entry slot_list_sort ⟨_, hoL, rfl⟩ entry_list_sort (list_sort_treeK strKind_oneLt (s := { s₁ with heap := s₁.heap.push (seqObj "list" vs.toArray 0) }) hoL hS.keysOf (fun v₁ v₂ rest e => keyKind_strs (by rw [← e]; exact hS)) h64 fun st' hp hs => ⟨_, rfl, ?_⟩) (args_list_sort _)))
 refine el1_3 (sorted_out_str hS hp hs) ?_; intro ss' h1 h2 h3
 refine el1_1 (sortedHeap_at (out := (arrOf st').map (·.2)) hoL) ?_; intro e he
 refine wpAny_pure ⟨_, rfl, h vs s₁ ks' _ ss' _ e hg hS h1 h2 h3 (fun b o eb => ?_) he⟩
 have hb := Heap.lt_size eb
 rw [sortedHeap_old (nlt hb) (by rw [size_push']; exact nls hb)]
 exact Heap.get?_push_of_some _ eb
variable {h₀ : Heap} {L : Addr} {m : Str → Option Value} {news : List (Addr × Obj)}
theorem sorted_set_S {a : Addr} {o : Obj} {ks : List Str} {Q : Value → Shared → Prop} (hh : A.handled = none) (F : Fr h₀ L s.heap m) (N : News h₀ L s.heap news) (hm : (a, o) ∈ news) (hS : SetS prog w o ks) (hz : ks.length < 64)
  (h : ∀ l h' tk d vs ss ep, Fr h₀ L h' m → News h₀ L h' ((l, W.listOf vs ep) :: news) → (∀ p ∈ news, p.1 < l) → StrsAre vs.toList ss → ss.Perm ks → sortedS ss = true → Q (.ref l) { s with heap := h', toks := tk, drawn := d }) :
  wpAny (model prog w) A (call (.builtin "sorted") [.ref a]) Q E s := by
 refine sorted_any (G := fun vs s' => ∃ ks' h' d tk, s' = { s with heap := h', drawn := d, toks := tk } ∧ (∀ b o, s.heap.get? b = some o → h'.get? b = some o) ∧ StrsAre vs ks' ∧ ks'.Perm ks) (fun Q' E' hq => ?_) ?_ ?_
 ·exact collectSet hh (N _ hm).1 hS (by omega) fun vs ks' h' d tk hk h1 h2 => hq vs _ ⟨ks', h', d, tk, rfl, hk, h1, h2⟩
 ·rintro vs s' ⟨ks', h', d, tk, rfl, hk, h1, h2⟩
  exact ⟨⟨ks', h1⟩, by have := h1.length; have := h2.length_eq; omega⟩
 rintro vs s₁ ks₁ out ss h₂ e ⟨ks', h', d, tk, rfl, hk, h1, h2⟩ hv ho hp hs hk₂ hat
 have hks : ks₁.Perm ks := by
  have : ks₁ = ks' := by rw [← hv.strs, ← h1.strs]
  rw [this]; exact h2
 have up : ∀ b o, s.heap.get? b = some o → h₂.get? b = some o := fun b o e => hk₂ b o (hk b o e)
 refine h h'.objs.size h₂ tk d out ss e (F.keeps up) (fun p hp => ?_) (fun p hp => ?_) ho (hp.trans hks) hs
 ·refine asp hp ?_ fun hp => ?_
  ·refine ⟨hat, ?_, ?_⟩
   ·intro q
    have q' : h'.objs.size = L := q
    exact Nat.lt_irrefl _ (q' ▸ (F.keeps hk).ns.lt)
   exact Heap.get?_none_of_le (Nat.le_trans (F.keeps hk).above (Nat.le_of_lt (F.keeps hk).ns.lt))
  exact ⟨up _ _ (N p hp).1, (N p hp).2⟩
 exact Heap.lt_size (hk _ _ (N p hp).1)
theorem sorted_tuple_S {a : Addr} {its : List Value} {ks : List Str} {ep : Nat} {Q : Value → Shared → Prop} (F : Fr h₀ L s.heap m) (N : News h₀ L s.heap news) (hm : (a, (⟨.type "tuple", none, .seq its.toArray ep, #[]⟩ : Obj)) ∈ news) (hS : StrsAre its ks) (hz : ks.length < 64)
  (h : ∀ l h' vs ss ep, Fr h₀ L h' m → News h₀ L h' ((l, W.listOf vs ep) :: news) → (∀ p ∈ news, p.1 < l) → StrsAre vs.toList ss → ss.Perm ks → sortedS ss = true → Q (.ref l) { s with heap := h' }) :
  wpAny (model prog w) A (call (.builtin "sorted") [.ref a]) Q E s := by
 refine sorted_any (G := fun vs s' => vs = its ∧ ∃ h', s' = { s with heap := h' } ∧ (∀ b o, s.heap.get? b = some o → h'.get? b = some o)) (fun Q' E' hq => ?_) ?_ ?_
 ·refine wpAny_collect_seq a (.inr rfl) (N _ hm).1 rfl rfl (fun h' hk => hq _ _ ⟨by simp, h', rfl, hk⟩) ?_
  have := hS.length
  rw [List.size_toArray, sizeLine_eq]
  omega
 ·rintro vs s' ⟨rfl, h', rfl, hk⟩
  exact ⟨⟨ks, hS⟩, by have := hS.length; omega⟩
 rintro vs s₁ ks₁ out ss h₂ e ⟨rfl, h', rfl, hk⟩ hv ho hp hs hk₂ hat
 have hks : ks₁ = ks := by rw [← hv.strs, ← hS.strs]
 have up : ∀ b o, s.heap.get? b = some o → h₂.get? b = some o := fun b o e => hk₂ b o (hk b o e)
 refine h h'.objs.size h₂ out ss e (F.keeps up) (fun p hp => ?_) (fun p hp => ?_) ho (hks ▸ hp) hs
 ·refine asp hp ?_ fun hp => ?_
  ·refine ⟨hat, ?_, ?_⟩
   ·intro q
    have q' : h'.objs.size = L := q
    exact Nat.lt_irrefl _ (q' ▸ (F.keeps hk).ns.lt)
   exact Heap.get?_none_of_le (Nat.le_trans (F.keeps hk).above (Nat.le_of_lt (F.keeps hk).ns.lt))
  exact ⟨up _ _ (N p hp).1, (N p hp).2⟩
 exact Heap.lt_size (hk _ _ (N p hp).1)
end
theorem codeAny_up {M : Model} {A : Around} {c : Code} {R : Result → Shared → Prop} {s : Shared} (A' : Around) (h1 : A'.handled = A.handled) (h2 : A.depth ≤ A'.depth) (h3 : A'.frames = A.frames) (h4 : A'.guards = A.guards) (h5 : A.units ≤ A'.units)
  (h : codeAny M A' c R s) : codeAny M A c R s := fun Γ p hc hΓ => h Γ p hc ⟨hΓ.1.trans h1.symm, Nat.le_trans hΓ.2.1 h2, fun l hl => hΓ.2.2.1 l (h3 ▸ hl), fun g hg => hΓ.2.2.2.1 g (h4 ▸ hg), Nat.le_trans hΓ.2.2.2.2 h5⟩
theorem methStar {M : Model} {A : Around} {E : Value → Shared → Prop} {s : Shared} {env : Env} {o e : Expr} {name : Str} {apos pos p : Pos} {Q : Value → Shared → Prop}
  (h : wpAny M A (eval o env) (fun ov s₁ => wpAny M A (getAttr ov name true) (fun f s₂ => wpAny M A (callWith pos f [] (backTo pos (starEach [.Starred e p] env)) []) Q E s₂) E s₁) E s)
  (he : eval (.Call (.Attribute o name apos) [.Starred e p] [] pos) env = (do
   let ov ← eval o env
   standAt apos.atName
   let (f, first) ← holding [ov] (do pure (← getAttr ov name true, []))
   let cp ← pure pos
   callWith cp f first (backTo pos (starEach [.Starred e p] env)) []) := by rfl) :
  wpAny M A (eval (.Call (.Attribute o name apos) [.Starred e p] [] pos) env) Q E s := by
 rw [he]
 refine wpAny_bind (wpAny_mono h (fun ov s₁ h₁ => wpAny_bind (wpAny_standAt (wpAny_bind (wpAny_holding (wpAny_bind (wpAny_mono h₁ (fun f s₂ h₂ => wpAny_pure (wpAny_bind (wpAny_pure h₂))) fun _ _ x => x)))))) fun _ _ x => x)
theorem callWith_SM {M : Model} {A : Around} {E : Value → Shared → Prop} {s : Shared} {K : Frag} {env : Env} {pos p : Pos} {q f : Addr} {self : Value} {first : List Value} {Q : Value → Shared → Prop} {e : Expr} (hf : fnIn K f = true)
  (h : wpAny M A (eval e env) (fun v s₁ => StarOf M A E v (fun vs s₂ => MethP K q f self s₂.heap ∧ wpAny M A (call (.ref q) (first ++ vs)) Q E s₂) s₁) E s)
  (he : starEach [.Starred e p] env = [(true, eval e env)] := by rfl) :
  wpAny M A (callWith pos (.ref q) first (backTo pos (starEach [.Starred e p] env)) []) Q E s := by
 rw [he]
 exact ks_call (P := MethP K q f self) rfl (fun h X => keeps_M hf h X) (ks_lone h)
inductive GRun : Gr → List Str → List (List Str) → Prop
 | nil (g : Gr) : GRun g [] []
 | cons {g : Gr} {rs : List Str} {gs : List (List Str)} : rs ≠ [] → rs.length ≤ 18 → rs.Nodup → (∀ x ∈ rs, x ∈ g.map (·.nm)) → (∀ q ∈ rs, ∀ r ∈ rs, r ∉ gsc g q) → GRun (gdone (gout g rs, []) rs).1 (gdone (gout g rs, []) rs).2 gs → GRun g rs (rs :: gs)
theorem gout_sc : ∀ (xs : List Str) (g : Gr) (x : Str), gsc (gout g xs) x = gsc g x
 | [], g, x => rfl
 | y :: xs, g, x => by
  show gsc (gout (gup g y fun e => { e with np := -1 }) xs) x = _
  rw [gout_sc xs]
  exact gsc_up (f := fun e => { e with np := -1 }) (fun _ => rfl) (fun _ => rfl) x
theorem gup_nms (g : Gr) (x : Str) (f : GN → GN) (h : ∀ e, (f e).nm = e.nm) : (gup g x f).map (·.nm) = g.map (·.nm) := by
 unfold gup
 rw [List.map_map]
 apply List.map_congr_left
 intro e _
 show (if e.nm = x then f e else e).nm = e.nm
 split
 ·exact h e
 rfl
theorem gout_keep : ∀ (xs : List Str) (g : Gr) (x : Str), gnp g x = -1 → x ∈ g.map (·.nm) → gnp (gout g xs) x = -1
 | [], g, x, h, _ => h
 | y :: xs, g, x, h, hm => by
  show gnp (gout (gup g y fun e => { e with np := -1 }) xs) x = _
  refine gout_keep xs _ x ?_ (by rw [gup_nms _ _ (fun e => { e with np := -1 }) fun _ => rfl]; exact hm)
  unfold gnp
  rw [gfind_up (f := fun e => { e with np := -1 }) (fun _ => rfl)]
  unfold gnp at h
  cases hf : g.find? fun e => e.nm = x with
  | none =>
   rw [hf] at h
   exact h
  | some e =>
   rw [hf] at h
   show (if e.nm = y then { e with np := -1 } else e).np = -1
   split
   ·rfl
   exact h
theorem gout_np : ∀ (xs : List Str) (g : Gr) (x : Str), x ∈ xs → x ∈ g.map (·.nm) → gnp (gout g xs) x = -1
 | [], _, _, h, _ => nomatch h
 | y :: xs, g, x, h, hm => by
  show gnp (gout (gup g y fun e => { e with np := -1 }) xs) x = _
  have hm2 : x ∈ (gup g y fun e => { e with np := -1 }).map (·.nm) := by rw [gup_nms _ _ (fun e => { e with np := -1 }) fun _ => rfl]; exact hm
  by_cases hxy : x = y
  ·refine gout_keep xs _ x ?_ hm2
   subst hxy
   unfold gnp
   rw [gfind_up (f := fun e => { e with np := -1 }) (fun _ => rfl)]
   cases hf : g.find? fun e => e.nm = x with
   | none =>
    refine el1_2 (mm1 hm) ?_; intro e he hx
    have := List.find?_eq_none.mp hf e he
    simp at this
    exact absurd hx this
   | some e =>
    have hx : e.nm = x := by simpa using List.find?_some hf
    show (if e.nm = x then { e with np := -1 } else e).np = -1
    rw [if_pos hx]
  rcases mc1 h with h | h
  ·exact absurd h hxy
  exact gout_np xs _ x h hm2
noncomputable abbrev LGm (xa G T0 : Addr) : Str → Option Value := fun y => if y = Str.ofString "fresh" then some (.ref T0) else if y = Str.ofString "groups" then some (.ref G) else List.lookup y [(Str.ofString "sorter", Value.ref xa)].reverse
theorem LGm_over (xa G T0 T1 : Addr) : (fun y => if y = Str.ofString "fresh" then some (.ref T1) else LGm xa G T0 y) = LGm xa G T1 := by
 funext y
 show (if y = Str.ofString "fresh" then _ else if y = Str.ofString "fresh" then _ else _) = if y = Str.ofString "fresh" then _ else _
 by_cases h : y = Str.ofString "fresh"
 ·rw [if_pos h, if_pos h]
 rw [if_neg h, if_neg h, if_neg h]
noncomputable abbrev tupS (xs : List (Str × Tok)) : Obj := ⟨.type "tuple", none, .seq (strVals xs) 0, #[]⟩
abbrev SortedOf (l l' : List Str) : Prop := l'.Perm l ∧ sortedS l' = true
theorem strVals_are : ∀ xs : List (Str × Tok), StrsAre (strVals xs).toList (xs.map (·.1))
 | [] => .nil
 | x :: xs => by
  have := strVals_are xs
  unfold strVals at this ⊢
  exact .cons x.1 x.2 (by simpa using this)
theorem shaped_strs {xs : List Str} (h : ∀ x ∈ xs, PyData.strOk x = true) : SeqAt.shaped (.tuple (xs.map .str)) = true := by
 simp only [SeqAt.shaped, PyData.canLay0, PyData.depth, canLayAll_strs', depthAll_strs', Bool.and_eq_true, decide_eq_true_eq]
 exact ⟨List.all_eq_true.mpr h, by decide⟩
theorem ne_empty_S {prog : Program} {w : World} {A : Around} {E : Value → Shared → Prop} {s : Shared} {h₀ : Heap} {L x y : Addr} {news : List (Addr × Obj)} {xs : List (Str × Tok)} {Q : Value → Shared → Prop} (N : News h₀ L s.heap news) (hx : (x, tupS xs) ∈ news) (hy : (y, (⟨.type "tuple", none, .seq #[] 0, #[]⟩ : Obj)) ∈ news)
  (hso : ∀ q ∈ xs, PyData.strOk q.1 = true) (hu : A.units + 64 < cLine) (b : Bool) (hb : (!xs.isEmpty) = b) (h : Q (.bool b) s) : wpAny (model prog w) A (compareOp .NotEq (.ref x) (.ref y)) Q E s := by
 subst hb
 refine ne_dataH (reads_tuple_at (N.get hx) rfl rfl ((strVals_are xs).reads _)) (reads_tuple_at (N.get hy) rfl rfl .nil) (shaped_strs fun z hz => ?_) (by decide) hu ?_
 ·refine el1_2 (mm1 hz) ?_; intro q hq e92; subst e92
  exact hso q hq
 cases xs with
 | nil => simpa [PyData.eqv, PyData.eqvAll] using h
 | cons a r => simpa [PyData.eqv, PyData.eqvAll] using h
theorem datStrs {news : List (Addr × Obj)} : ∀ {vs : List Value} {ss : List Str}, StrsAre vs ss → DatAll news vs (ss.map Dat.str)
 | _, _, .nil => .nil
 | _, _, .cons x t h => .cons (.str x t) (datStrs h)
inductive LgJ (w : World) (s : Shared) (g' : Heap) (L' xa G d n2 D : Addr) (t1 t2 t3 t5 : Tok) (o2 : Obj) (ns : List NI) (rest : List (Addr × Obj)) (gs : List (List Str)) (n : Nat) (s₁ : Shared) : Prop
 | mk (c : List NI) (xs : List (Str × Tok)) (T0 : Addr) (garr : Array Value) (eG : Nat) (own : List (Addr × Obj)) (g : Gr) (gs1 gsd gsd' : List (List Str)) (t4 t6 : Tok) (po nf : Int) (ep : Nat) (h : Heap) (tk : Nat)
   (e : s₁ = { s with heap := h, toks := tk }) (F : Fr g' L' h (LGm xa G T0)) (N : News g' L' h ((G, W.listOf garr eG) :: (T0, tupS xs) :: (xa, instObj 362 d) :: (d, tsR w t1 t2 t3 t4 t5 t6 n2 (.ref D) po nf) :: (n2, o2) :: (D, W.listOf #[] ep) :: (ledN c ++ (own ++ rest))))
   (p1 : kvsN c = kvsN ns ∧ c.map (·.nm) = ns.map (·.nm) ∧ GK xa d n2 c = GK xa d n2 ns ∧ (∀ x, gsc (proj2 c) x = gsc (proj2 ns) x)) (p4 : proj2 c = gout g (xs.map (·.1))) (hr : GRun g (xs.map (·.1)) gs1)
   (hda : DatAll own garr.toList (gsd'.map fun l => Dat.list (l.map Dat.str))) (hpa : Paired SortedOf gsd gsd') (hgs : gsd ++ gs1 = gs) (hn : n = gs1.length)
   (hs : T0 ∉ D :: GK xa d n2 ns ∧ T0 ≠ G ∧ (∀ p ∈ own, p.1 ∉ G :: D :: GK xa d n2 ns)) : LgJ w s g' L' xa G d n2 D t1 t2 t3 t5 o2 ns rest gs n s₁
theorem groups_c (w : World) (p : Program) (lo : List Str) (mean : ExcName → Option Value) (mg mb : Str → Option Value)
  (gd : Option (List Code)) (cn : Str) (cs : Scope) (a : Addr) (ccd : Value) (cl : List (Str × Addr)) (outer : List Env) (A₀ : Around) (base h₀ : Heap) (L : Addr) (m : Str → Option Value) (rest : List (Addr × Obj)) (s : Shared)
  (xa d n2 D : Addr) (o2 : Obj) (ns : List NI) (rs : List (Str × Tok)) (gs : List (List Str)) (ep : Nat) (t1 t2 t3 t4 t5 t6 : Tok) (po nf : Int) (Q E : Value → Shared → Prop)
  (B : Below A₀ base outer h₀) (F : Fr h₀ L s.heap m) (X : (Mine.K w.params).In h₀) (N : News h₀ L s.heap ((xa, instObj 362 d) :: (d, tsR w t1 t2 t3 t4 t5 t6 n2 (.ref D) po nf) :: (n2, o2) :: (D, W.listOf (strVals rs) ep) :: (ledN ns ++ rest))) (T : Top p lo mean mg mb h₀) (hk : cs.kind = .function)
  (hd : o2.IsDictOf (PySem.strKind rw_nq0317_01.prog w) (kvsN ns)) (lo2 : (n2 == sysModules) = false) (hnn : (ns.map (·.nm)).Nodup) (hl : ns.length ≤ 100) (hln : ∀ e ∈ ns, e.nm.length ≤ 64)
  (hnd : (GK xa d n2 ns).Nodup) (hoff : ∀ p ∈ rest, p.1 ∉ D :: GK xa d n2 ns) (hD : D ∉ GK xa d n2 ns) (hscl : ∀ e ∈ ns, e.sc.length ≤ 1000) (hcl : ∀ x b, b ∈ gsc (proj2 ns) x → b ∈ ns.map (·.nm)) (hrun : GRun (proj2 ns) (rs.map (·.1)) gs) (hgl : gs.length ≤ 1000) (hrl : rs.length ≤ 100) (hrn : ∀ q ∈ rs, q.1 ∈ ns.map (·.nm)) (hso : ∀ e ∈ ns, PyData.strOk e.nm = true)
  (hret : ∀ G garr eG own gs' h' tk', DatAll own garr.toList (gs'.map fun l => Dat.list (l.map Dat.str)) → Paired SortedOf gs gs' → (∀ p ∈ own, p.1 ≠ G) → Fr h₀ L h' m → News h₀ L h' ((G, W.listOf garr eG) :: (own ++ rest)) → Q (.ref G) { s with heap := h', toks := tk' }) :
  wpAny (model (rw_nq0317_01.prog) w) (ktrTop 340 400 gd cn cs L a ccd cl outer) (call (.ref 378) [.ref xa]) Q E s := by
 k_with_none
 k_with "k_all" => first | assumption | (intro p9 hp9; (repeat (rename _ ∧ _ => hc9; obtain ⟨_, _⟩ := hc9)); have h9 := allLt_mem2 (by assumption) _ hp9; exact nlt (Nat.lt_of_lt_of_le h9 (by omega)))
 k_with "execs cons" => (k_here; first | k_made | ((fail_if_success (fail_if_success k_gentoks)); refine (let tk : Nat := _; (?_ : wpAny _ _ _ _ _ ⟨_, _, _, tk, _⟩))) | ((with_reducible refine wpAny_execs_cons ?_); (try dsimp only); refine (let qv : Flow → Shared → Prop := _; (?_ : wpAny _ _ _ qv _ _))))
 k_with "execs nil" => (k_here; (fail_if_success (fail_if_success k_gentoks)); refine (let tk : Nat := _; (?_ : wpAny _ _ _ _ _ ⟨_, _, _, tk, _⟩)))
 k_with "exec While Compare cons nil" => refine stopped ?_
 k_with "exec While" => refine stopped ?_
 k_with "WEnd" => refine stopped ?_
 k_with "call ref" => refine stopped ?_
 k_with "call builtin:sorted" => refine stopped ?_
 k_with "compareOp NotEq ref ref" => refine stopped ?_
 refine gen_ (ledN ns ++ rest) ?_; intro tl htl
 rw [← htl] at N
 k_with_none
 k_with "k_all" => first | assumption | (intro p9 hp9; (repeat (rename _ ∧ _ => hc9; obtain ⟨_, _⟩ := hc9)); have h9 := allLt_mem2 (by assumption) _ hp9; exact nlt (Nat.lt_of_lt_of_le h9 (by omega)))
 k_with "execs cons" => (k_here; first | k_made | ((fail_if_success (fail_if_success k_gentoks)); refine (let tk : Nat := _; (?_ : wpAny _ _ _ _ _ ⟨_, _, _, tk, _⟩))) | ((with_reducible refine wpAny_execs_cons ?_); (try dsimp only); refine (let qv : Flow → Shared → Prop := _; (?_ : wpAny _ _ _ qv _ _))))
 k_with "execs nil" => (k_here; (fail_if_success (fail_if_success k_gentoks)); refine (let tk : Nat := _; (?_ : wpAny _ _ _ _ _ ⟨_, _, _, tk, _⟩)))
 k_with "exec While Compare cons nil" => refine stopped ?_
 k_with "exec While" => refine stopped ?_
 k_with "WEnd" => refine stopped ?_
 k_with "call ref" => refine stopped ?_
 k_with "call builtin:sorted" => refine stopped ?_
 k_with "compareOp NotEq ref ref" => refine stopped ?_
 revert X
 k_fill
 intro X
 refine wpAny_call ?_
 k_dflt (refine' code_def (binds := [(Str.ofString "sorter", .ref xa)]) ?k1 ?k2 ?k3 ?k4 ?k5 ?kA ?kF ?kK ?k6 ?k7 ?k8 ?k9 ?kB ?_ ?c2 ?c3 ?c4 ?c5; (case kA => exact rfl); (case kF => exact rfl); (case kK => assumption); (case k1 => k_asm); (case k2 => k_asm); (case k3 => k_asm); (case k4 => k_asm); (case k5 => k_asm); (case k6 => k_is); (case k7 => k_is); (case k8 => ktr_room); (case k9 => exact BindsTo.of_eq rfl); (case c5 => decide); (case kB => exact locs rfl); (case c2 => exact rfl); (case c3 => exact rfl); (case c4 => exact rfl); k_whole; intro g' L' h' FG' F' N' B' X' T'; (try dsimp only); (try k_fold))
 k_steps
 refine ⟨?_⟩
 rename_i G _ l1 h1 F1 N1
 show wpAny _ _ (call (.ref 324) [.ref xa]) _ _ _
 have hG : ∀ b ∈ D :: GK xa d n2 ns, G ≠ b := by
  refine el0_5 (l1) ?_; (try clear l1); intro q1 q2 q3 q4 q5
  intro b hb
  have : b < G := by
   refine asp hb ?_ fun hb => ?_
   ·exact q4
   refine asp hb ?_ fun hb => ?_
   ·exact q1
   refine asp hb ?_ fun hb => ?_
   ·exact q2
   refine asp hb ?_ fun hb => ?_
   ·exact q3
   refine el1_2 (mm1 hb) ?_; intro p hp e92; subst e92
   exact allLt_mem q5 p (by rw [htl]; exact maL _ hp)
  exact (nlt this).symm
 have hGr : ∀ p ∈ rest, p.1 ≠ G := fun p hp => by
  refine el0_5 (l1) ?_; (try clear l1); intro q1 q2 q3 q4 q5
  exact nlt (allLt_mem q5 p (by rw [htl]; exact maR _ hp))
 have N2 : News g' L' h1 ((xa, instObj 362 d) :: (d, tsR w t1 t2 t3 t4 t5 t6 n2 (.ref D) po nf) :: (n2, o2) :: (D, W.listOf (strVals rs) ep) :: (ledN ns ++ ((G, W.listOf #[] 0) :: rest))) := nsub N1 (sbc mH1 (sbc mH2 (sbc mH3 (sbc mH4 (fun q hq => by
  refine ast hq (fun hq => ?_) fun hq => ?_
  ·exact mT5 (by rw [htl]; exact maL _ hq)
  refine mst hq ?_ fun hq => ?_
  ·exact .head _
  exact mT5 (by rw [htl]; exact maR _ hq))))))
 have hoff2 : ∀ p ∈ (G, W.listOf #[] 0) :: rest, p.1 ∉ D :: GK xa d n2 ns := by
  intro p hp hm
  rcases mc1 hp with rfl | hp
  ·exact hG _ hm rfl
  exact hoff p hp hm
 refine wpAny_up (ktrTop 350 500 gd (Str.ofString "_law_groups") _ L' 378 (.ref 377) [] (envX cn cs L a ccd cl :: outer)) rfl (show 341 ≤ 350 by decide) rfl rfl (show 403 ≤ 500 by decide) ?_
 refine get_ready_c w p lo mean mg mb gd _ _ 378 (.ref 377) _ _ _ _ _ _ _ _ _ xa d n2 D o2 ns rs ep t1 t2 t3 t4 t5 t6 po nf _ _ B' F1 X' N2 T' rfl hd lo2 hnn hl hrl hrn hln hnd hoff2 hD fun T0 c t4' po' ep8 h2 tk2 p1 p2 p3 p4 hT0 hT0r F2 N3 => ?_
 clear N N1 N2 F1 l1
 refine (let J : Nat → Shared → Prop := LgJ w s g' L' xa G d n2 D t1 t2 t3 t5 o2 ns rest gs; ?_)
 k_steps
 refine ⟨?_⟩
 rename Fr _ _ _ _ => F4
 rename News _ _ _ _ => N4
 refine while_w J gs.length ?j0 ?turn (by passes_own)
 case j0 =>
  refine ⟨c, rs, T0, #[], 0, [], proj2 ns, gs, [], [], t4', t6, po', nf, ep8, _, _, rfl, F4, ?_, ⟨p1, p2, p3, fun x => by rw [p4, gout_sc]⟩, p4, hrun, .nil, .nil, rfl, rfl, hT0, fun e => hT0r _ (.head _) e.symm, fn0 _⟩
  refine nsub N4 fun y hy => ?_
  have hy' : y ∈ [(G, W.listOf #[] 0), (T0, tupS rs), (xa, instObj 362 d), (d, tsR w t1 t2 t3 t4' t5 t6 n2 (.ref D) po' nf), (n2, o2), (D, W.listOf #[] ep8)] ++ (ledN c ++ ([] ++ rest)) := hy
  refine ast hy' (fun hy => ?_) fun hy => ?_
  ·refine mst hy ?_ fun hy => ?_
   ·exact mT5 (maR _ (.head _))
   refine mst hy ?_ fun hy => ?_
   ·exact .head _
   refine mst hy ?_ fun hy => ?_
   ·exact mH1
   refine mst hy ?_ fun hy => ?_
   ·exact mH2
   refine mst hy ?_ fun hy => ?_
   ·exact mH3
   refine mst hy ?_ fun hy => ?_
   ·exact mH4
   cases hy
  refine mT4 (.tail _ ?_)
  refine ast hy (fun hy => ?_) fun hy => ?_
  ·exact maL _ hy
  exact maR _ (.tail _ hy)
 clear F4 N4 p1 p2 p3 p4 hT0 hT0r
 intro n s₁ h1
 obtain ⟨c, xs, T0, garr, eG, own, g, gs1, gsd, gsd', t4, t6, po, nf, ep, h, tk, rfl, F4, N4, ⟨p1, p2, p3, p5⟩, p4, hr, hda, hpa, hgs, hn, hs1, hs2, hs3⟩ := h1
 have hgn : g.map (·.nm) = ns.map (·.nm) := by
  have h9 : (proj2 c).map (·.nm) = c.map (·.nm) := by unfold proj2; rw [List.map_map]; rfl
  have h8 : ∀ (l : List Str) (g : Gr), (gout g l).map (·.nm) = g.map (·.nm) := by
   intro l
   induction l with
   | nil => intro g; rfl
   | cons y l ih => intro g; show (gout (gup g y _) l).map (·.nm) = _; rw [ih, gup_nms _ _ (fun e => { e with np := -1 }) fun _ => rfl]
  rw [← p2, ← h9, p4, h8]
 have hxn : ∀ q ∈ xs, q.1 ∈ ns.map (·.nm) := by
  intro q hq
  generalize hxe : xs.map (·.1) = xe at hr
  cases hr with
  | nil =>
   have : xs = [] := by simpa using hxe
   rw [this] at hq; cases hq
  | cons _ _ _ h4 _ _ =>
   rw [← hgn]
   exact h4 _ (hxe ▸ mm2 ⟨q, hq, rfl⟩)
 have hxs : ∀ q ∈ xs, PyData.strOk q.1 = true := by
  intro q hq
  refine el1_2 (mm1 (hxn q hq)) ?_; intro e he h9
  have h9' : e.nm = q.1 := h9
  rw [← h9']
  exact hso e he
 refine gen_ (ledN c ++ (own ++ rest)) ?_; intro tl4 htl4
 rw [← htl4] at N4
 k_steps
 refine ⟨?_⟩
 rename Fr _ _ _ _ => F5
 rename News _ _ _ _ => N5
 cases xs with
 | nil =>
  refine ne_empty_S N5 mH2 (.head _) hxs (by ke_room) false rfl ?_
  k_steps
  rename Fr h₀ _ _ _ => kF
  rename News h₀ _ _ _ => kN
  cases hr with
  | nil =>
   rw [List.append_nil] at hgs
   subst hgs
   refine hret G garr eG own gsd' _ _ hda hpa ?_ kF (nsub kN fun q hq => ?_)
   ·intro p hp hm
    exact hs3 p hp (by rw [hm]; exact .head _)
   refine mst hq ?_ fun hq => ?_
   ·exact mH1
   refine mT6 (.tail _ ?_)
   rw [htl4]
   exact maR _ hq
  | cons h9 _ _ _ _ _ => exact absurd rfl h9
 | cons x0 xs =>
  refine ne_empty_S N5 mH2 (.head _) hxs (by ke_room) true rfl ?_
  k_steps
  refine ⟨?_⟩
  generalize hxe : (x0 :: xs).map (·.1) = xe at hr p4
  cases hr with
  | nil => cases hxe
  | @cons _ _ gs2 r1 r2 r3 r4 r5 r6 =>
   have hlen : (x0 :: xs).length ≤ 18 := by
    have := congrArg List.length hxe
    rw [List.length_map] at this
    lia
   refine sorted_tuple_S (its := (x0 :: xs).map fun q => Value.str q.1 q.2) (ks := xe) F5 N5 mH2 (by rw [← hxe]; simpa [strVals] using strVals_are (x0 :: xs)) (by lia) fun l7 h7 vs7 ss7 ep7 F7 N7 hl7 hv7 hp7 hs7 => ?_
   clear F5 N5
   k_steps
   have hgsz : garr.size ≤ 100000 := by
    have e1 := hda.length
    have e2 := hpa.length
    have e3 := congrArg List.length hgs
    simp at e1 e3
    lia
   refine append_S F7 N7 mH2 (size_le hgsz) fun h8 F8 N8 => ?_
   have htlG : ∀ q ∈ tl4, q.1 ≠ G := by
    intro q hq e
    rw [htl4] at hq
    refine ast hq (fun hq => ?_) fun hq => ?_
    ·exact hG _ (.tail _ (p3 ▸ GK_sub (mm2 ⟨q, hq, rfl⟩))) e.symm
    refine ast hq (fun hq => ?_) fun hq => ?_
    ·exact hs3 q hq (e ▸ .head _)
    exact hGr q hq e
   have N9 : News g' L' h8 ((l7, W.listOf vs7 ep7) :: (G, W.listOf (garr.push (.ref l7)) (eG + 1)) :: (T0, tupS (x0 :: xs)) :: (xa, instObj 362 d) :: (d, tsR w t1 t2 t3 t4 t5 t6 n2 (.ref D) po nf) :: (n2, o2) :: (D, W.listOf #[] ep) :: tl4) := nsub N8 (sbc (msN (.head _) (ngt (hl7 _ mH1))) (sbc (mem_setAt_self mH2) (sbc (msN mH3 hs2) (sbc (msN mH4 (hG _ mH1).symm) (sbc (msN mH5 (hG _ mH2).symm) (sbc (msN mH6 (hG _ mH3).symm) (sbc (msN mH7 (hG _ (.head _)).symm) (fun q hq => msN (mT8 hq) (htlG q hq)))))))))
   clear F7 N7 N8
   k_steps
   refine methStar ?_
   k_steps
   rename News _ _ _ _ => N10
   rename Fr _ _ _ _ => F10
   rename_i q _ l2
   refine el0_8 (l2) ?_; (try clear l2); intro z1 z2 z3 z4 z5 z6 z7 z8
   refine callWith_SM (K := Mine.K w.params) (q := q) (f := 345) (self := .ref xa) (by revert X'; k_fill; intro X'; k_is) ?_
   k_steps
   refine star_seq (ws := (x0 :: xs).map fun q => Value.str q.1 q.2) F10 N10 mH3 rfl rfl (.inr rfl) (by unfold strVals; rfl) (by rw [sizeLine_eq]; unfold strVals; have := hlen; simp at this ⊢; lia) fun h11 F11 N11 => ?_
   clear F10 N10
   refine ⟨methP N11 (.head _) (X'.keeps F11.keep), ?_⟩
   refine call_meth N11 (.head _) ?_
   have N12 : News g' L' h11 ((xa, instObj 362 d) :: (d, tsR w t1 t2 t3 t4 t5 t6 n2 (.ref D) po nf) :: (n2, o2) :: (D, W.listOf (strVals []) ep) :: (ledN c ++ ((q, methodObj (.ref 345) (.ref xa)) :: (l7, W.listOf vs7 ep7) :: (G, W.listOf (garr.push (.ref l7)) (eG + 1)) :: (T0, tupS (x0 :: xs)) :: (own ++ rest)))) := nsub N11 (sbc mH4 (sbc mH5 (sbc mH6 (sbc mH7 (fun y hy => by
    refine ast hy (fun hy => ?_) fun hy => ?_
    ·exact mT8 (htl4 ▸ maL _ hy)
    refine mst hy ?_ fun hy => ?_
    ·exact .head _
    refine mst hy ?_ fun hy => ?_
    ·exact mH1
    refine mst hy ?_ fun hy => ?_
    ·exact mH2
    refine mst hy ?_ fun hy => ?_
    ·exact mH3
    exact mT8 (htl4 ▸ maR _ hy))))))
   have hcn : (c.map (·.nm)).Nodup := by rw [p2]; exact hnn
   have hmono : ∀ (z : Addr), xa < z → d < z → n2 < z → D < z → AllLt z tl4 → z ∉ D :: GK xa d n2 ns := by
    intro z q1 q2 q3 q4 q5 hm
    rcases mc1 hm with e | hm
    ·exact Nat.lt_irrefl _ (e ▸ q4)
    rcases mc1 hm with e | hm
    ·exact Nat.lt_irrefl _ (e ▸ q1)
    rcases mc1 hm with e | hm
    ·exact Nat.lt_irrefl _ (e ▸ q2)
    rcases mc1 hm with e | hm
    ·exact Nat.lt_irrefl _ (e ▸ q3)
    have hm' : z ∈ GK xa d n2 c := p3 ▸ GK_sub hm
    have hm2 : z ∈ Keys (ledN c) := by
     have h9 : GK xa d n2 c = GK xa d n2 ns := p3
     unfold GK at h9
     injection h9 with _ h9
     injection h9 with _ h9
     injection h9 with _ h9
     rw [h9]; exact hm
    refine el1_2 (mm1 hm2) ?_; intro y hy e
    have := allLt_mem q5 y (htl4 ▸ maL _ hy)
    rw [e] at this
    exact Nat.lt_irrefl _ this
   have hl7n : l7 ∉ D :: GK xa d n2 ns := hmono l7 (hl7 _ mH3) (hl7 _ mH4) (hl7 _ mH5) (hl7 _ mH6) (allLt_of fun y hy => hl7 y (mT7 hy))
   have hl7G : l7 ≠ G := ngt (hl7 _ mH1)
   have hoffd : ∀ y ∈ (q, methodObj (.ref 345) (.ref xa)) :: (l7, W.listOf vs7 ep7) :: (G, W.listOf (garr.push (.ref l7)) (eG + 1)) :: (T0, tupS (x0 :: xs)) :: (own ++ rest), y.1 ∉ D :: GK xa d n2 ns := by
    intro y hy
    refine asp hy ?_ fun hy => ?_
    ·exact hmono q z4 z5 z6 z7 z8
    refine asp hy ?_ fun hy => ?_
    ·exact hl7n
    refine asp hy ?_ fun hy => ?_
    ·exact fun hm => hG _ hm rfl
    refine asp hy ?_ fun hy => ?_
    ·exact hs1
    refine ast hy (fun hy => ?_) fun hy => ?_
    ·exact fun hm => hs3 y hy (.tail _ hm)
    exact hoff y hy
   have hcsc : ∀ e ∈ c, e.sc.length ≤ 1000 := by
    intro e he
    have hm : e.nm ∈ ns.map (·.nm) := p2 ▸ mm2 ⟨e, he, rfl⟩
    refine el1_2 (mm1 hm) ?_; intro e0 he0 h0
    have h1 := gsc_of hnn he0
    have h2 := gsc_of hcn he
    have h0' : e0.nm = e.nm := h0
    rw [h0'] at h1
    rw [p5, h1] at h2
    have h3 := congrArg List.length h2
    simp at h3
    have := hscl e0 he0
    lia
   have hcl2 : c.length ≤ 100 := by
    have := congrArg List.length p2
    simp at this
    lia
   have hcln : ∀ e ∈ c, e.nm.length ≤ 64 := by
    intro e he
    have hm : e.nm ∈ ns.map (·.nm) := p2 ▸ mm2 ⟨e, he, rfl⟩
    refine el1_2 (mm1 hm) ?_; intro e0 he0 h0
    rw [← show e0.nm = e.nm from h0]
    exact hln e0 he0
   refine codeAny_up (ktrTop 350 500 gd (Str.ofString "_law_groups") _ L' 378 (.ref 377) [] (envX cn cs L a ccd cl :: outer)) rfl (show 341 ≤ 350 by decide) rfl rfl (show 403 ≤ 500 by decide) ?_
   refine done_k w p lo mean mg mb gd _ _ 378 (.ref 377) _ _ _ _ _ _ _ _ _ xa d n2 D o2 c (x0 :: xs) [] ep t1 t2 t3 t4 t5 t6 po nf _ _ _ B' F11 X' N12 T' rfl (by rw [p1]; exact hd) lo2 hcn hcl2 (by lia) (fun y hy => by rw [p2]; exact hxn y hy) hcln (by rw [p3]; exact hnd)
    (fun y hy hm => hoffd y hy (p3 ▸ hm)) (by rw [p3]; exact hD) rfl (by simp; simp at hlen; lia) (fun y hy => by rw [p4]; exact gout_np _ _ _ (hxe ▸ mm2 ⟨y, hy, rfl⟩) (by rw [hgn]; exact hxn y hy)) (by rw [hxe]; exact r3)
    (fun y hy z hz => by rw [p4, gout_sc]; exact r5 _ (hxe ▸ mm2 ⟨y, hy, rfl⟩) _ (hxe ▸ mm2 ⟨z, hz, rfl⟩)) hcsc (fun x b hb => by rw [p2]; exact hcl x b (p5 x ▸ hb)) (by simp)
    fun T2 c2 h12 tk12 k1 k2 k3 k4 hT2 hT2r F12 N13 => ?_
   clear F11 N11 N12
   obtain ⟨c2n, c2r, c2e, c2t, c2f⟩ := c2
   dsimp only at k1 k2 k3 k4 N13
   rw [hxe, p4] at k4
   have k5 : proj2 c2n = (gdone (gout g xe, []) xe).1 := congrArg Prod.fst k4
   have k6 : c2r.map (·.1) = (gdone (gout g xe, []) xe).2 := congrArg Prod.snd k4
   rw [← k5, ← k6] at r6
   clear k4
   refine gen_ (ledN c2n ++ ((q, methodObj (.ref 345) (.ref xa)) :: (l7, W.listOf vs7 ep7) :: (G, W.listOf (garr.push (.ref l7)) (eG + 1)) :: (T0, tupS (x0 :: xs)) :: (own ++ rest))) ?_; intro tl13 htl13
   rw [← htl13] at N13
   k_steps
   refine ⟨?_⟩
   rename Fr _ _ _ _ => F14
   rename News _ _ _ _ => N14
   have N15 : News g' L' h12 ((xa, instObj 362 d) :: (d, tsR w t1 t2 t3 t4 t5 c2t n2 (.ref D) po c2f) :: (n2, o2) :: (D, W.listOf (strVals c2r) c2e) :: (ledN c2n ++ ((q, methodObj (.ref 345) (.ref xa)) :: (l7, W.listOf vs7 ep7) :: (G, W.listOf (garr.push (.ref l7)) (eG + 1)) :: (T0, tupS (x0 :: xs)) :: (own ++ rest)))) := nsub N14 fun y hy => by
    rw [← htl13] at hy
    exact .tail _ hy
   have k2' : c2n.map (·.nm) = ns.map (·.nm) := k2.trans p2
   have k3' : GK xa d n2 c2n = GK xa d n2 ns := k3.trans p3
   have hrl2 : c2r.length ≤ 100 ∧ ∀ y ∈ c2r, y.1 ∈ c2n.map (·.nm) := by
    have h9 : (proj2 c2n).map (·.nm) = c2n.map (·.nm) := by unfold proj2; rw [List.map_map]; rfl
    generalize hce : c2r.map (·.1) = ce at r6
    have hcl3 : c2r.length = ce.length := by rw [← hce, List.length_map]
    cases r6 with
    | nil =>
     have : c2r = [] := by simpa using hce
     rw [this]
     exact ⟨Nat.zero_le _, fun y hy => nomatch hy⟩
    | cons _ u2 _ u4 _ _ =>
     exact ⟨by lia, fun y hy => by rw [← h9]; exact u4 _ (hce ▸ mm2 ⟨y, hy, rfl⟩)⟩
   show wpAny _ _ (call (.ref 324) [.ref xa]) _ _ _
   refine wpAny_up (ktrTop 350 500 gd (Str.ofString "_law_groups") _ L' 378 (.ref 377) [] (envX cn cs L a ccd cl :: outer)) rfl (show 341 ≤ 350 by decide) rfl rfl (show 403 ≤ 500 by decide) ?_
   refine get_ready_c w p lo mean mg mb gd _ _ 378 (.ref 377) _ _ _ _ _ _ _ _ _ xa d n2 D o2 c2n c2r c2e t1 t2 t3 t4 t5 c2t po c2f _ _ B' F14 X' N15 T' rfl (by rw [k1, p1]; exact hd) lo2 (by rw [k2']; exact hnn) (by have := congrArg List.length k2'; simp at this; lia) hrl2.1 hrl2.2
    (fun e he => by
     have hm : e.nm ∈ ns.map (·.nm) := k2' ▸ mm2 ⟨e, he, rfl⟩
     refine el1_2 (mm1 hm) ?_; intro e0 he0 h0
     rw [← show e0.nm = e.nm from h0]
     exact hln e0 he0) (by rw [k3']; exact hnd) (fun y hy hm => hoffd y hy (k3' ▸ hm)) (by rw [k3']; exact hD) fun T3 c4 t4'' po'' ep9 h15 tk15 j1 j2 j3 j4 hT3 hT3r F16 N16 => ?_
   clear F14 N14 N15
   refine gen_ (ledN c4 ++ ((q, methodObj (.ref 345) (.ref xa)) :: (l7, W.listOf vs7 ep7) :: (G, W.listOf (garr.push (.ref l7)) (eG + 1)) :: (T0, tupS (x0 :: xs)) :: (own ++ rest))) ?_; intro tl16 htl16
   rw [← htl16] at N16
   k_steps
   refine ⟨?_⟩
   rename Fr _ _ _ _ => F17
   rename News _ _ _ _ => N17
   rw [LGm_over] at F17
   dsimp only [WEnd]
   refine ⟨gs2.length, by rw [hn]; simp, c4, c2r, T3, garr.push (.ref l7), eG + 1, (l7, W.listOf vs7 ep7) :: own, proj2 c2n, gs2, gsd ++ [xe], gsd' ++ [ss7], t4'', c2t, po'', c2f, ep9, _, _, rfl, F17, ?_, ⟨?_, ?_, ?_, ?_⟩, j4, r6, ?_, ?_, ?_, rfl, ?_, ?_, ?_⟩
   ·refine nsub N17 fun y hy => ?_
    have hy' : y ∈ [(G, W.listOf (garr.push (.ref l7)) (eG + 1)), (T3, tupS c2r), (xa, instObj 362 d), (d, tsR w t1 t2 t3 t4'' t5 c2t n2 (.ref D) po'' c2f), (n2, o2), (D, W.listOf #[] ep9)] ++ (ledN c4 ++ ((l7, W.listOf vs7 ep7) :: own ++ rest)) := hy
    refine ast hy' (fun hy => ?_) fun hy => ?_
    ·refine mst hy ?_ fun hy => ?_
     ·exact mT5 (htl16 ▸ maR _ (.tail _ (.tail _ (.head _))))
     refine mst hy ?_ fun hy => ?_
     ·exact .head _
     refine mst hy ?_ fun hy => ?_
     ·exact mH1
     refine mst hy ?_ fun hy => ?_
     ·exact mH2
     refine mst hy ?_ fun hy => ?_
     ·exact mH3
     refine mst hy ?_ fun hy => ?_
     ·exact mH4
     cases hy
    refine mT4 (.tail _ ?_)
    rw [htl16]
    refine ast hy (fun hy => ?_) fun hy => ?_
    ·exact maL _ hy
    refine maR _ ?_
    refine mst hy ?_ fun hy => ?_
    ·exact mH1
    exact mT4 hy
   ·rw [j1, k1, p1]
   ·rw [j2, k2']
   ·rw [j3, k3']
   ·intro x
    have hgd : ∀ (l : List Str) (st : Gr × List Str) (x : Str), gsc (gdone st l).1 x = gsc st.1 x := by
     intro l
     induction l with
     | nil => intro st x; rfl
     | cons y l ih => intro st x; show gsc (gdone (gdone1 st y) l).1 x = _; rw [ih, gdone1_sc]
    rw [j4, gout_sc, k5, hgd, ← p4]
    exact p5 x
   ·rw [Array.toList_push, List.map_append]
    refine (hda.mono fun y hy => .tail _ hy).append (.one (.list (vs := vs7.toList) (n := ep7) ?_ ?_))
    ·rw [Array.toArray_toList]; exact .head _
    exact datStrs hv7
   ·exact hpa.snoc ⟨hp7, hs7⟩
   ·rw [List.append_assoc]; exact hgs
   ·exact fun hm => hT3 (by rw [k3']; exact hm)
   ·intro e
    exact hT3r (G, W.listOf (garr.push (.ref l7)) (eG + 1)) mH2 e.symm
   intro y hy
   refine asp hy ?_ fun hy => ?_
   ·intro hm
    rcases mc1 hm with e | hm
    ·exact hl7G e
    exact hl7n hm
   exact hs3 y hy
noncomputable def cturn (target iter : PySem.Expr) (ifs : List PySem.Expr) (emit : Sem Unit) (e : PySem.Expr) (depth : Nat) (it acc : Value) (env : Env) : Sem Fin := do
 standAt iter.pos
 match ← pyNext it with
 | none => pure (.done .next)
 | some v =>
  letOwnedTupleGo target it v
  assign target env v
  let mut ok := true
  for c in ifs do
   if ok then ok ← isTrue c env (eval c env)
  if ok then emit
  again (.compLoop e depth it acc env)
noncomputable def cemitL (elt : PySem.Expr) (acc : Value) (env : Env) : Sem Unit := do let _ ← call (.builtin "list.append") [acc, ← eval elt env]
noncomputable def cemitS (elt : PySem.Expr) (acc : Value) (env : Env) : Sem Unit := do
 let v ← eval elt env
 standAt elt.pos
 let _ ← call (.builtin "set.add") [acc, v]
noncomputable def cinner (e iter : PySem.Expr) (depth : Nat) (acc : Value) (env : Env) : Sem Unit := do
 let x ← eval iter env
 standAt iter.pos
 let x ← foldedSetIterable iter env x
 let _ ← runOwn (.compStart e depth (← holding [x] (pyIter x)) acc env) env
noncomputable abbrev ctests (ifs : List PySem.Expr) (env : Env) : Sem Bool := forIn ifs true fun c r => if r = true then do let ok ← isTrue c env (eval c env); pure (ForInStep.yield ok) else pure (ForInStep.yield r)
inductive CKind : PySem.Expr → Prop
 | list (elt gens scope pos) : CKind (.ListComp elt gens scope pos)
 | set (elt gens scope pos) : CKind (.SetComp elt gens scope pos)
section
variable {prog : Program} {w : World} {A : Around} {E : Value → Shared → Prop} {s : Shared} {R : Result → Shared → Prop}
theorem code_cloop {e target iter : PySem.Expr} {ifs : List PySem.Expr} {emit : Sem Unit} {depth : Nat} {it acc : Value} {env : Env} (ck : CKind e) (ht : compTurn e depth it acc env = cturn target iter ifs emit e depth it acc env) (J : Nat → Shared → Prop)
  (turn : ∀ n s, J n s → wpAny (model prog w) A (pyNext it) (fun r s₁ => match r with
   | none => R (.ok .next) s₁
   | some v => wpAny (model prog w) A (letOwnedTupleGo target it v) (fun _ s₂ => wpAny (model prog w) A (assign target env v) (fun _ s₃ => wpAny (model prog w) A (ctests ifs env) (fun ok s₄ =>
     if ok = true then wpAny (model prog w) A emit (fun _ s₅ => ∃ m, m < n ∧ J m s₅) (notedBy (model prog w) A env fun e s' => R (.error e) s') s₄ else ∃ m, m < n ∧ J m s₄)
     (notedBy (model prog w) A env fun e s' => R (.error e) s') s₃) (notedBy (model prog w) A env fun e s' => R (.error e) s') s₂) (notedBy (model prog w) A env fun e s' => R (.error e) s') s₁) (notedBy (model prog w) A env fun e s' => R (.error e) s') s)
  (n : Nat) (h : J n s) : codeAny (model prog w) A (.compLoop e depth it acc env) R s := by
 have key : ∀ n s, J n s → wpAny (model prog w) A ((compTurn e depth it acc env).onRaise (fun x => do noteFrame x env; theTreesLotGoes x)) (fun fin s' => match fin with | .done f => R (.ok f) s' | .again c' => c' = .compLoop e depth it acc env ∧ ∃ m, m < n ∧ J m s') (fun e s' => R (.error e) s') s := by
  intro n s hI
  refine wpAny_noted ?_
  rw [ht]
  unfold cturn
  refine wpAny_bind (wpAny_standAt (wpAny_bind (wpAny_mono (turn n s hI) (fun r s₁ h₁ => ?_) fun _ _ h' => h')))
  cases r with
  | none => exact wpAny_pure h₁
  | some v =>
   refine wpAny_bind (wpAny_mono h₁ (fun _ s₂ h₂ => wpAny_bind (wpAny_mono h₂ (fun _ s₃ h₃ => wpAny_bind (wpAny_mono h₃ (fun ok s₄ h₄ => ?_) fun _ _ h' => h')) fun _ _ h' => h')) fun _ _ h' => h')
   cases ok with
   | false => exact wpAny_pure ⟨rfl, h₄⟩
   | true => exact wpAny_bind (wpAny_mono h₄ (fun _ s₅ h₅ => wpAny_pure ⟨rfl, h₅⟩) fun _ _ h' => h')
 cases ck with
 | list elt gens scope pos => exact codeAny_loop rfl J (fun n s hI => key n s hI) n h
 | set elt gens scope pos => exact codeAny_loop rfl J (fun n s hI => key n s hI) n h
theorem code_cstart {e : PySem.Expr} {g : Comprehension} {depth : Nat} {it acc : Value} {env : Env} (ck : CKind e) (hg : (clausesOf e)[depth]? = some g) (ha : g.is_async = 0)
  (h0 : codeAny (model prog w) A (.compLoop e depth it acc env) R s)
  (h : wpAny (model prog w) A (pyIter it) (fun it' s' => codeAny (model prog w) A (.compLoop e depth it' acc env) R s') (notedBy (model prog w) A env fun x s' => R (.error x) s') s) :
  codeAny (model prog w) A (.compStart e depth it acc env) R s := by
 have q : ∀ it', (Code.compLoop e depth it' acc env).quiet = true := by intro it'; cases ck <;> rfl
 have key : wpAny (model prog w) A ((compStart e depth it acc env).onRaise (fun x => do noteFrame x env; standAt theWindowsPlace)) (fun fin s' => match fin with | .done f => R (.ok f) s' | .again c' => c'.quiet = true ∧ codeAny (model prog w) A c' R s') (fun e s' => R (.error e) s') s := by
  refine wpAny_notedAt ?_
  unfold compStart
  rw [hg]
  have ha' : (Option.elim (some g) false fun x => x.is_async != 0) = false := by show (g.is_async != 0) = false; rw [ha]; rfl
  rw [ha']
  refine wpAny_bind (wpAny_askSetting ?_)
  cases hb : (model prog w).w.params.followText "comprehension-iter-twice" with
  | true =>
   rw [if_pos rfl]
   first
    | exact wpAny_pure ⟨q _, h0⟩
    | exact wpAny_bind (wpAny_pure (wpAny_pure ⟨q _, h0⟩))
  | false =>
   rw [if_neg (by decide)]
   refine wpAny_bind (wpAny_rule ?_)
   dsimp only
   refine wpAny_bind (wpAny_standAt (wpAny_bind (wpAny_mono h (fun it' s' h' => wpAny_pure ⟨q _, h'⟩) fun _ _ x => x)))
 cases ck with
 | list elt gens scope pos => exact codeAny_of_tree key
 | set elt gens scope pos => exact codeAny_of_tree key
end
def CEnd {σ : Type} (h₀ : Heap) (L : Addr) (m : Str → Option Value) (C : Addr) (wr : List Addr) (own : List (Addr × Obj)) (Led : σ → List (Addr × Obj)) (P : Nat → σ → (Str → Option Value) → Prop) (i : Nat) (s₁ s₂ : Shared) : Prop :=
 ∃ h' tk c oC m', s₂ = { s₁ with heap := h', toks := tk } ∧ Fr h₀ L h' m ∧ News h₀ L h' ((C, oC) :: (Led c ++ own)) ∧ LCg.NsObj oC m' ∧ (∀ p ∈ Led c, p.1 ∉ C :: wr) ∧ P i c m'
theorem c_end {σ : Type} {h₀ : Heap} {L : Addr} {m : Str → Option Value} {C : Addr} {wr : List Addr} {own news : List (Addr × Obj)} {Led : σ → List (Addr × Obj)} {P : Nat → σ → (Str → Option Value) → Prop} {i : Nat} {s₁ : Shared} {h' : Heap} {tk : Nat} {oC : Obj} {m' : Str → Option Value}
  (c : σ) (F : Fr h₀ L h' m) (N : News h₀ L h' news) (hC : (C, oC) ∈ news) (hn : LCg.NsObj oC m') (h1 : ∀ p ∈ Led c, p ∈ news) (h2 : ∀ p ∈ own, p ∈ news) (h3 : ∀ p ∈ Led c, p.1 ∉ C :: wr) (hP : P i c m') : CEnd h₀ L m C wr own Led P i s₁ { s₁ with heap := h', toks := tk } :=
 ⟨h', tk, c, oC, m', rfl, F, nsub N (sbc (hC) (fun p hp => by
  refine ast hp (fun hp => ?_) fun hp => ?_
  ·exact h1 p hp
  exact h2 p hp)), hn, h3, hP⟩
section
variable {prog : Program} {w : World} {A : Around} {E : Value → Shared → Prop} {s : Shared} {R : Result → Shared → Prop} {h₀ : Heap} {L C : Addr} {m : Str → Option Value}
theorem cl_loop {σ : Type} {e iter : PySem.Expr} {x : Str} {px : Pos} {ifs : List PySem.Expr} {emit : Sem Unit} {depth : Nat} {acc : Value} {env : Env} {I : Addr} {fp wr : List Addr} {n : Nat} {Pv : Nat → Value → Prop} {St : Nat → Heap → Prop}
  (ck : CKind e) (ht : compTurn e depth (.ref I) acc env = cturn (.Name x px) iter ifs emit e depth (.ref I) acc env)
  (W : Walks prog w A I fp wr n Pv St) (hlive : ∀ i h, St i h → ∀ b ∈ wr, ∃ o, h.get? b = some o) (hEC : env.locals = C) (hx : env.kindOf x = some .local) (hp : (env.scope.kind == .class || (env.scope.kind == .module && env.locals != env.globals)) = false)
  (hCL : C ≠ L) (hC₀ : h₀.get? C = none) (hLf : L ∉ fp) (hCf : C ∉ fp) (hwr : ∀ b ∈ wr, h₀.get? b = none)
  (Led : σ → List (Addr × Obj)) (P : Nat → σ → (Str → Option Value) → Prop) (c₀ : σ) {oC₀ : Obj} {m₀ : Str → Option Value}
  (hst : St 0 s.heap) (F : Fr h₀ L s.heap m) (N : News h₀ L s.heap ((C, oC₀) :: Led c₀)) (hn : LCg.NsObj oC₀ m₀) (hnw : ∀ p ∈ Led c₀, p.1 ∉ C :: wr) (hP : P 0 c₀ m₀)
  (turn : ∀ i v c oC m₁ h tk own E', i < n → Pv i v → P i c m₁ → (∀ p ∈ Led c, p.1 ∉ C :: wr) → (∀ b ∈ wr, ∃ o, (b, o) ∈ own) → (∀ p ∈ own, p.1 ∈ fp) → LCg.NsObj oC (fun y => if y = x then some v else m₁ y) → Fr h₀ L h m → News h₀ L h ((C, oC) :: (Led c ++ own)) →
   wpAny (model prog w) A (ctests ifs env) (fun ok s₃ => if ok = true then wpAny (model prog w) A emit (fun _ s₄ => CEnd h₀ L m C wr own Led P (i + 1) { s with heap := h, toks := tk } s₄) E' s₃ else CEnd h₀ L m C wr own Led P (i + 1) { s with heap := h, toks := tk } s₃) E' { s with heap := h, toks := tk })
  (done : ∀ c oC m' h tk, P n c m' → Fr h₀ L h m → News h₀ L h ((C, oC) :: Led c) → LCg.NsObj oC m' → (∀ p ∈ Led c, p.1 ∉ C :: wr) → R (.ok .next) { s with heap := h, toks := tk }) :
  codeAny (model prog w) A (.compLoop e depth (.ref I) acc env) R s := by
 have hLw : L ∉ wr := fun h => hLf (W.sub _ h)
 have hCw : C ∉ wr := fun h => hCf (W.sub _ h)
 have old : ∀ b o, h₀.get? b = some o → b ∉ wr := fun b o e hb => by rw [hwr b hb] at e; cases e
 refine code_cloop ck ht
  (fun k s' => ∃ h' tk c oC m' i, s' = { s with heap := h', toks := tk } ∧ St i h' ∧ Fr h₀ L h' m ∧ News h₀ L h' ((C, oC) :: Led c) ∧ LCg.NsObj oC m' ∧ (∀ p ∈ Led c, p.1 ∉ C :: wr) ∧ P i c m' ∧ i ≤ n ∧ k = n + 1 - i) ?_ (n + 1)
  ⟨s.heap, s.toks, c₀, oC₀, m₀, 0, rfl, hst, F, N, hn, hnw, hP, Nat.zero_le _, rfl⟩
 rintro k s' ⟨h', tk, c, oC, m', i, rfl, hst', F', N', hn', hnw', hP', hi, rfl⟩
 have hoffw : ∀ p ∈ (C, oC) :: Led c, p.1 ∉ wr := by
  intro p hp
  refine asp hp ?_ fun hp => ?_
  ·exact hCw
  exact fun h => hnw' p hp (.tail _ h)
 have next : ∀ h₁ : Heap, (∀ b o, b ∉ wr → h'.get? b = some o → h₁.get? b = some o) → Fr h₀ L h₁ m ∧ News h₀ L h₁ ((C, oC) :: Led c) := fun h₁ hk₁ =>
  ⟨⟨F'.ns.at' fun o e => hk₁ _ o hLw e, fun b o e => hk₁ b o (old b o e) (F'.keep b o e), F'.above⟩, fun p hp => ⟨hk₁ _ _ (hoffw p hp) (N' p hp).1, (N' p hp).2⟩⟩
 by_cases hlt : i < n
 ·refine W.item i _ _ _ hlt hst' fun v h₁ tk₁ hPv hst₁ hk₁ => ?_
  refine el0_2 (next h₁ hk₁) ?_; intro F₁ N₁
  refine wpAny_pure ?_
  refine wpAny_assign_Name (wpAny_storeName_local hx (hEC ▸ hn'.ns (N₁ _ (.head _)).1) (fun h₂ hn₂ hs₂ => ?_) hp)
  rw [hEC] at hn₂ hs₂
  have F₂ : Fr h₀ L h₂ m := F₁.change hs₂ hCL hC₀
  refine el1_2 (LCg.ns_obj hn₂) ?_; intro oC₂ hoC₂ hnC₂
  have Nown : News h₀ L h₂ (ownOf h₀ fp h₂) := news_ownOf hLf
  have hst₂ : St (i + 1) h₂ := W.frame _ _ _ hst₁ fun b hb o e => (hs₂.2 b fun q => hCf (q ▸ hb)).trans e
  have N₂ : News h₀ L h₂ ((C, oC₂) :: (Led c ++ ownOf h₀ fp h₂)) := by
   intro p hp
   refine asp hp ?_ fun hp => ?_
   ·exact ⟨hoC₂, hCL, hC₀⟩
   refine ast hp (fun hp => ?_) fun hp => ?_
   ·exact ⟨(hs₂.2 _ fun q => hnw' p hp (q ▸ .head _)).trans (N₁ p (.tail _ hp)).1, (N₁ p (.tail _ hp)).2⟩
   exact Nown p hp
  have hown : ∀ b ∈ wr, ∃ o, (b, o) ∈ ownOf h₀ fp h₂ := fun b hb => by
   refine el1_1 (hlive _ _ hst₂ b hb) ?_; intro o ho
   exact ⟨o, mem_ownOf (W.sub b hb) (hwr b hb) ho⟩
  have key : ∀ s₄, CEnd h₀ L m C wr (ownOf h₀ fp h₂) Led P (i + 1) { s with heap := h₂, toks := tk₁ + 1 } s₄ → ∃ mm, mm < n + 1 - i ∧ ∃ h' tk c oC m' i, s₄ = { s with heap := h', toks := tk } ∧ St i h' ∧ Fr h₀ L h' m ∧ News h₀ L h' ((C, oC) :: Led c) ∧ LCg.NsObj oC m' ∧ (∀ p ∈ Led c, p.1 ∉ C :: wr) ∧ P i c m' ∧ i ≤ n ∧ mm = n + 1 - i := by
   rintro s₄ ⟨h₄, tk₄, c₄, oC₄, m₄, rfl, F₄, N₄, hn₄, hnw₄, hP₄⟩
   refine ⟨n + 1 - (i + 1), by lia, h₄, tk₄, c₄, oC₄, m₄, i + 1, rfl, ?_, F₄, nsub N₄ (fun p hp => ?_), hn₄, hnw₄, hP₄, hlt, rfl⟩
   ·refine W.frame _ _ _ hst₂ fun b hb o e => ?_
    cases hn : h₀.get? b with
    | some o₀ =>
     have : o₀ = o := by have := F₂.keep b o₀ hn; rw [e] at this; exact (Option.some.inj this).symm
     exact this ▸ F₄.keep b o₀ hn
    | none => exact (N₄ _ (.tail _ (maR _ (mem_ownOf hb hn e)))).1
   refine mst hp ?_ fun hp => ?_
   ·exact .head _
   exact .tail _ (maL _ hp)
  refine wpAny_mono (turn i v c oC₂ m' h₂ _ (ownOf h₀ fp h₂) _ hlt hPv hP' hnw' hown ownOf_sub hnC₂ F₂ N₂) (fun ok s₃ h₃ => ?_) fun _ _ e => e
  cases ok with
  | false =>
   simp only [Bool.false_eq_true, if_false] at h₃ ⊢
   exact key _ h₃
  | true =>
   simp only [if_true] at h₃ ⊢
   exact wpAny_mono h₃ (fun _ s₄ h₄ => key _ h₄) fun _ _ e => e
 have hin : i = n := by lia
 subst hin
 refine W.done _ _ _ hst' fun h₁ tk₁ hk₁ => ?_
 refine el0_2 (next h₁ hk₁) ?_; intro F₁ N₁
 exact done c oC m' h₁ tk₁ hP' F₁ N₁ hn' hnw'
end
def CGo (prog : Program) (w : World) (A : Around) (E : Value → Shared → Prop) (h₀ : Heap) (L : Addr) (m : Str → Option Value) (env : Env) (e : PySem.Expr) (scope : Scope) (cl : List (Str × Addr)) (mk : Obj → Prop) (RR : Value → Addr → Result → Shared → Prop) (it : Value) (s₂ : Shared) : Prop :=
 ∃ I fp wr n Pv St news, it = .ref I ∧ Walks prog w A I fp wr n Pv St ∧ St 0 s₂.heap ∧ (∀ b ∈ fp, b < s₂.heap.objs.size) ∧ Fr h₀ L s₂.heap m ∧ News h₀ L s₂.heap news ∧
  ∀ C D oC oD h tk, mk oD → (∀ p ∈ news, p.1 ≠ C ∧ p.1 ≠ D) → C ∉ fp → D ∉ fp → D ≠ C → C ≠ L → D ≠ L → h₀.get? C = none → h₀.get? D = none → St 0 h → Fr h₀ L h m → News h₀ L h ((C, oC) :: (D, oD) :: news) → LCg.NsObj oC (fun _ => none) →
   codeAny (model prog w) A (.compLoop e 0 (.ref I) (.ref D) (compEnvC scope cl C env)) (RR (.ref D) C) { s₂ with heap := h, toks := tk }
section
variable {prog : Program} {w : World} {A : Around} {E : Value → Shared → Prop} {s : Shared} {h₀ : Heap} {L : Addr} {m : Str → Option Value} {env : Env}
theorem cq_block {e : PySem.Expr} {g : Comprehension} {gs : List Comprehension} {scope : Scope} {cl : List (Str × Addr)} {mk : Obj → Prop} {newAcc : Sem Value} {RR : Value → Addr → Result → Shared → Prop} {it : Value} (ck : CKind e) (hcl : clausesOf e = g :: gs) (ha : g.is_async = 0)
  (hacc : ∀ (s : Shared) (Q : Value → Shared → Prop), (∀ o, mk o → o.isFreed = false → Q (.ref s.heap.objs.size) { s with heap := s.heap.push o }) → wpAny (model prog w) A newAcc Q E s)
  (hcell : ∀ y ∈ scope.names, y.2 ≠ .cell) (hkind : scope.kind = .function) (h : CGo prog w A E h₀ L m env e scope cl mk RR it s) :
  wpAny (model prog w) A newAcc (fun acc s₃ => wpAny (model prog w) A (newFunctionEnv scope env.globals cl [] env.qual none .none (some env)) (fun cenv s₄ =>
   codeAny (model prog w) A (.compStart e 0 it acc { cenv with scope := relabel scope env }) (RR acc cenv.locals) s₄) E s₃) E s := by
 refine el7_7 (h) ?_; (try clear h); intro I fp wr n Pv St news e97 W hst hfp F N go; subst e97
 refine hacc s _ fun o ho hof => ?_
 refine wpAny_newFunctionEnv hcell (by intro y hy; simp at hy) (fun h₁ hns₁ hsb₁ => ?_) hkind
 dsimp only at hns₁ hsb₁ ⊢
 generalize hH2 : s.heap.push o = H2 at hns₁ hsb₁ ⊢
 have hC : H2.objs.size = s.heap.objs.size + 1 := by rw [← hH2, Heap.size_push]
 have hDC : s.heap.objs.size ≠ H2.objs.size := by rw [hC]; exact nlt (Nat.lt_succ_self _)
 have below : ∀ b, b < s.heap.objs.size → b ≠ H2.objs.size ∧ b ≠ s.heap.objs.size := fun b hb => ⟨by rw [hC]; exact nlt (nls hb), nlt hb⟩
 have hDf : s.heap.objs.size ∉ fp := fun hm => Nat.lt_irrefl _ (hfp _ hm)
 have hCf : H2.objs.size ∉ fp := fun hm => by have := hfp _ hm; rw [hC] at this; exact Nat.lt_irrefl _ (Nat.lt_of_succ_lt this)
 have old : ∀ b o', s.heap.get? b = some o' → h₁.get? b = some o' := fun b o' e => hsb₁.extBut b o' (below b (Heap.lt_size e)).1 (Heap.get?_push_of_some _ (hH2 ▸ Heap.get?_push_of_some _ e))
 have haccAt : h₁.get? s.heap.objs.size = some o := hsb₁.extBut _ _ hDC (Heap.get?_push_of_some _ (hH2 ▸ Heap.get?_push_size _ hof))
 have hst₁ : St 0 h₁ := W.frame _ _ _ hst fun b _ o e => old b o e
 have fresh₀ : ∀ a, s.heap.objs.size ≤ a → h₀.get? a = none := fun a ha => by
  cases e : h₀.get? a with
  | none => rfl
  | some o' => exact absurd (Heap.lt_size (F.keep a o' e)) (Nat.not_lt.mpr ha)
 have hLlt : L < s.heap.objs.size := F.ns.lt
 have hDL : s.heap.objs.size ≠ L := Ne.symm (below L hLlt).2
 have hCL : H2.objs.size ≠ L := Ne.symm (below L hLlt).1
 have hC₀ : h₀.get? H2.objs.size = none := fresh₀ _ (by rw [hC]; exact Nat.le_succ _)
 have hD₀ : h₀.get? s.heap.objs.size = none := fresh₀ _ (Nat.le_refl _)
 refine el1_2 (LCg.ns_obj hns₁) ?_; intro oC hoC hnC
 have N₁ : News h₀ L h₁ ((H2.objs.size, oC) :: (s.heap.objs.size, o) :: news) := by
  intro p hp
  refine asp hp ?_ fun hp => ?_
  ·exact ⟨hoC, hCL, hC₀⟩
  refine asp hp ?_ fun hp => ?_
  ·exact ⟨haccAt, hDL, hD₀⟩
  exact ⟨old _ _ (N p hp).1, (N p hp).2⟩
 have loop := go H2.objs.size s.heap.objs.size oC o h₁ (s.toks + ([] : List (Str × Value)).length) ho (fun p hp => below _ (Heap.lt_size (N p hp).1)) hCf hDf hDC hCL hDL hC₀ hD₀ hst₁ (F.keeps old) N₁ hnC
 exact code_cstart (g := g) ck (by rw [hcl]; rfl) ha loop (W.self 0 _ _ _ hst₁ loop)
theorem newList_mk (s : Shared) (Q : Value → Shared → Prop) (h : ∀ o, o = W.listOf #[] 0 → o.isFreed = false → Q (.ref s.heap.objs.size) { s with heap := s.heap.push o }) : wpAny (model prog w) A (newList []) Q E s :=
 wpAny_newObj_type (h _ rfl rfl)
theorem cq_list {elt target iter : PySem.Expr} {ifs : List PySem.Expr} {rest : List Comprehension} {scope : Scope} {cl : List (Str × Addr)} {pos : Pos} {Q : Value → Shared → Prop}
  (hclos : closureFor scope env = pure cl) (hcell : ∀ y ∈ scope.names, y.2 ≠ .cell) (hkind : scope.kind = .function) (hnames : ∀ y ∈ scope.names, y.2 = .local → scope.names.lookup y.1 = some .local)
  (h : wpAny (model prog w) A (eval iter env) (fun xv s₁ => wpAny (model prog w) A (pyIter xv) (CGo prog w A E h₀ L m env (.ListComp elt (⟨target, iter, ifs, 0⟩ :: rest) scope pos) scope cl (fun o => o = W.listOf #[] 0) (fun acc C => compPost (model prog w) A E none Q acc C)) E s₁) E s)
  (hs : ∀ x, foldedSetIterable iter env x = pure x := by intro _; rfl) :
  wpAny (model prog w) A (eval (.ListComp elt (⟨target, iter, ifs, 0⟩ :: rest) scope pos) env) Q E s := by
 rw [eval_ListComp]
 refine wpAny_comprehension_free (use := none) rfl hs hclos hkind hnames (wpAny_mono h (fun xv s₁ h₁ => wpAny_mono h₁ (fun it s₂ h₂ => ?_) fun _ _ e => e) fun _ _ e => e)
 exact cq_block (.list _ _ _ _) rfl rfl newList_mk hcell hkind h₂
theorem cq_set {elt target iter : PySem.Expr} {ifs : List PySem.Expr} {rest : List Comprehension} {scope : Scope} {cl : List (Str × Addr)} {pos : Pos} {Q : Value → Shared → Prop}
  (hclos : closureFor scope env = pure cl) (hcell : ∀ y ∈ scope.names, y.2 ≠ .cell) (hkind : scope.kind = .function) (hnames : ∀ y ∈ scope.names, y.2 = .local → scope.names.lookup y.1 = some .local)
  (h : wpAny (model prog w) A (eval iter env) (fun xv s₁ => wpAny (model prog w) A (pyIter xv) (CGo prog w A E h₀ L m env (.SetComp elt (⟨target, iter, ifs, 0⟩ :: rest) scope pos) scope cl (fun o => SetS prog w o []) (fun acc C => compPost (model prog w) A E none Q acc C)) E s₁) E s)
  (hs : ∀ x, foldedSetIterable iter env x = pure x := by intro _; rfl) :
  wpAny (model prog w) A (eval (.SetComp elt (⟨target, iter, ifs, 0⟩ :: rest) scope pos) env) Q E s := by
 rw [show eval (.SetComp elt (⟨target, iter, ifs, 0⟩ :: rest) scope pos) env = comprehension (.SetComp elt (⟨target, iter, ifs, 0⟩ :: rest) scope pos) scope env (firstIterPos (⟨target, iter, ifs, 0⟩ :: rest) pos) (newSet (.type "set")) (firstAsync (⟨target, iter, ifs, 0⟩ :: rest)) (firstIter (⟨target, iter, ifs, 0⟩ :: rest) env) from rfl]
 refine wpAny_comprehension_free (use := none) rfl hs hclos hkind hnames (wpAny_mono h (fun xv s₁ h₁ => wpAny_mono h₁ (fun it s₂ h₂ => ?_) fun _ _ e => e) fun _ _ e => e)
 exact cq_block (.set _ _ _ _) rfl rfl (fun s Q hq => newSet_S hq) hcell hkind h₂
theorem cq_assign {elt target iter : PySem.Expr} {y : Str} {py : Pos} {ifs : List PySem.Expr} {rest : List Comprehension} {scope : Scope} {cl : List (Str × Addr)} {pos spos : Pos} {Q : Flow → Shared → Prop}
  (hsw : swapsWith (.ListComp elt (⟨target, iter, ifs, 0⟩ :: rest) scope pos) (some (.Name y py)) spos.line env = pure true)
  (hclos : closureFor scope env = pure cl) (hcell : ∀ y ∈ scope.names, y.2 ≠ .cell) (hkind : scope.kind = .function) (hnames : ∀ y ∈ scope.names, y.2 = .local → scope.names.lookup y.1 = some .local)
  (h : wpAny (model prog w) A (eval iter env) (fun xv s₁ => wpAny (model prog w) A (pyIter xv) (CGo prog w A E h₀ L m env (.ListComp elt (⟨target, iter, ifs, 0⟩ :: rest) scope pos) scope cl (fun o => o = W.listOf #[] 0) (fun acc C => compPost (model prog w) A E (some (assign (.Name y py) env)) (fun _ s' => Q .next s') acc C)) E s₁) E s)
  (hs : ∀ x, foldedSetIterable iter env x = pure x := by intro _; rfl) :
  wpAny (model prog w) A (exec (.Assign [.Name y py] (.ListComp elt (⟨target, iter, ifs, 0⟩ :: rest) scope pos) spos) env) Q E s := by
 rw [exec_Assign_Name_used _ _ _ _ hsw]
 refine wpAny_bind (wpAny_standAt (wpAny_bind ?_))
 show wpAny _ A (do let _ ← comprehension (.ListComp elt (⟨target, iter, ifs, 0⟩ :: rest) scope pos) scope env _ (newList []) false (eval iter env) (some (assign (.Name y py) env))) _ _ s
 refine wpAny_bind (wpAny_mono (wpAny_comprehension_free (use := some (assign (.Name y py) env)) (Q := fun _ s' => Q .next s') rfl hs hclos hkind hnames
  (wpAny_mono h (fun xv s₁ h₁ => wpAny_mono h₁ (fun it s₂ h₂ => ?_) fun _ _ e => e) fun _ _ e => e)) (fun _ s' hq => wpAny_pure (wpAny_pure hq)) fun _ _ e => e)
 exact cq_block (.list _ _ _ _) rfl rfl newList_mk hcell hkind h₂
theorem post_none {C : Addr} {acc : Value} {oC : Obj} {m' : Str → Option Value} {news : List (Addr × Obj)} {Q : Value → Shared → Prop} {f : Flow} {hh : Heap} (F : Fr h₀ L hh m) (N : News h₀ L hh ((C, oC) :: news)) (hn : LCg.NsObj oC m') (hoff : ∀ p ∈ news, p.1 ≠ C) (h : ∀ h', Fr h₀ L h' m → News h₀ L h' news → Q acc { s with heap := h' }) (es : s.heap = hh := by rfl) :
  compPost (model prog w) A E none Q acc C (.ok f) s := by
 subst es
 exact ⟨m', hn.ns (N _ (.head _)).1, fun h' hs => h h' (F.change hs (N _ (.head _)).2.1 (N _ (.head _)).2.2) fun p hp => ⟨(hs.2 _ (hoff p hp)).trans (N p (.tail _ hp)).1, (N p (.tail _ hp)).2⟩⟩
theorem post_assign {C : Addr} {y : Str} {py : Pos} {acc : Value} {oC : Obj} {m' : Str → Option Value} {news : List (Addr × Obj)} {Q : Shared → Prop} {f : Flow} (hLe : env.locals = L) (hy : env.kindOf y = some .local) (hp : (env.scope.kind == .class || (env.scope.kind == .module && env.locals != env.globals)) = false)
  {hh : Heap} (F : Fr h₀ L hh m) (N : News h₀ L hh ((C, oC) :: news)) (hn : LCg.NsObj oC m') (hoff : ∀ p ∈ news, p.1 ≠ C) (h : ∀ h' tk', Fr h₀ L h' (fun z => if z = y then some acc else m z) → News h₀ L h' news → Q { s with heap := h', toks := tk' }) (es : s.heap = hh := by rfl) :
  compPost (model prog w) A E (some (assign (.Name y py) env)) (fun _ s' => Q s') acc C (.ok f) s := by
 subst hLe es
 show wpAny _ A (assign (.Name y py) env acc) _ _ _
 refine wpAny_assign_Name (wpAny_storeName_local hy F.ns (fun h₂ hn₂ hs₂ => ?_) hp)
 have hL₀ : h₀.get? env.locals = none := Heap.get?_none_of_le F.above
 have F₂ : Fr h₀ env.locals h₂ (fun z => if z = y then some acc else m z) := ⟨hn₂, fun b o e => hs₂.extBut b o (fun q => by rw [q, hL₀] at e; cases e) (F.keep b o e), F.above⟩
 have hCL := (N _ (.head _)).2.1
 refine ⟨m', (hn.ns (N _ (.head _)).1).sameBut hs₂ hCL, fun h'' hs'' => h h'' _ (F₂.change hs'' hCL (N _ (.head _)).2.2) fun p hp => ⟨(hs''.2 _ (hoff p hp)).trans ((hs₂.2 _ (N p (.tail _ hp)).2.1).trans (N p (.tail _ hp)).1), (N p (.tail _ hp)).2⟩⟩
end
def SrcW (prog : Program) (w : World) (A : Around) (v : Value) (s : Shared) (n : Nat) (Pv : Nat → Value → Prop) (fpx : List Addr) : Prop :=
 ∃ (o : Obj) (St : Nat → Heap → Prop), (∀ (Q : Value → Shared → Prop) (E : Value → Shared → Prop), Q (.ref s.heap.objs.size) { s with heap := s.heap.push o } → wpAny (model prog w) A (pyIter v) Q E s) ∧
  Walks prog w A s.heap.objs.size (s.heap.objs.size :: fpx) [s.heap.objs.size] n Pv St ∧ St 0 (s.heap.push o) ∧ (∀ i h, St i h → ∃ o, h.get? s.heap.objs.size = some o) ∧ (∀ b ∈ fpx, b < s.heap.objs.size)
section
variable {prog : Program} {w : World} {A : Around} {E : Value → Shared → Prop} {s : Shared} {h₀ : Heap} {L : Addr} {m : Str → Option Value} {env : Env}
theorem src_list {l : Addr} {items : Array Value} (hh : A.handled = none) (hl : s.heap.IsList l items) : SrcW prog w A (.ref l) s items.size (fun i v => items[i]? = some v) [l] := by
 refine el1_2 (id hl) ?_; intro ol hol hol2
 have hlt := Heap.lt_size hol
 exact ⟨_, _, fun Q E hq => wpAny_pyIter_list hl hq, Walks.list hh s.heap.objs.size l (nlt hlt) items, ⟨⟨_, Heap.get?_push_size _ rfl, rfl, rfl⟩, hl.at fun o e => Heap.get?_push_of_some _ e⟩,
  fun i h st => by obtain ⟨⟨o, ho, _⟩, _⟩ := st; exact ⟨o, ho⟩, fun b hb => by rw [ms1 hb]; exact hlt⟩
theorem src_tuple {l : Addr} {items : Array Value} (hh : A.handled = none) (hl : s.heap.IsTuple l items) : SrcW prog w A (.ref l) s items.size (fun i v => items[i]? = some v) [l] := by
 refine el1_2 (id hl) ?_; intro ol hol hol2
 have hlt := Heap.lt_size hol
 exact ⟨_, _, fun Q E hq => wpAny_pyIter_tuple hl hq, Walks.tuple hh s.heap.objs.size l (nlt hlt) items, ⟨⟨_, Heap.get?_push_size _ rfl, rfl, rfl⟩, hl.at fun o e => Heap.get?_push_of_some _ e⟩,
  fun i h st => by obtain ⟨⟨o, ho, _⟩, _⟩ := st; exact ⟨o, ho⟩, fun b hb => by rw [ms1 hb]; exact hlt⟩
theorem src_range {r : Addr} {a b c : Int} {t u v : Tok} {n : Nat} (hh : A.handled = none) (hr : IsRange s.heap r a b c t u v) (hsmall : Builtin.Range.small a b c = true) (hn : Builtin.Range.rangeSize a b c = (n : Int)) :
  SrcW prog w A (.ref r) s n (fun i v => i < n ∧ ∃ t, v = .int (a + i * c) t) [] :=
 ⟨_, _, fun Q E hq => wpAny_pyIter_range hr hsmall hq, (Walks.range hh s.heap.objs.size a c n).bound, by
  show IsRangeIter _ _ _ _ _
  rw [hn]
  simpa using Heap.get?_push_size _ rfl, fun i h st => ⟨_, st⟩, fun b hb => nomatch hb⟩
theorem cgo_src {σ : Type} {e iter : PySem.Expr} {x : Str} {px : Pos} {ifs : List PySem.Expr} {emit : Addr → Addr → Sem Unit} {scope : Scope} {cl : List (Str × Addr)} {mk : Obj → Prop} {RR : Value → Addr → Result → Shared → Prop} {v : Value} {n : Nat} {Pv : Nat → Value → Prop} {fpx : List Addr} {news : List (Addr × Obj)}
  (ck : CKind e) (ht : ∀ I D C, compTurn e 0 (.ref I) (.ref D) (compEnvC scope cl C env) = cturn (.Name x px) iter ifs (emit D C) e 0 (.ref I) (.ref D) (compEnvC scope cl C env)) (hkind : scope.kind = .function) (hx : scope.names.lookup x = some .local)
  (S : SrcW prog w A v s n Pv fpx) (F : Fr h₀ L s.heap m) (N : News h₀ L s.heap news) (hLf : L ∉ fpx)
  (Led : Addr → σ → List (Addr × Obj)) (P : Addr → Nat → σ → (Str → Option Value) → Prop) (c₀ : Addr → Obj → σ) (hLed : ∀ D oD, mk oD → Led D (c₀ D oD) = (D, oD) :: news) (hP : ∀ D oD, mk oD → P D 0 (c₀ D oD) (fun _ => none))
  (turn : ∀ C D I i v c oC m₁ h tk own E', D ≠ C → I ≠ C → I ≠ D → (∀ p ∈ news, p.1 ≠ C ∧ p.1 ≠ D ∧ p.1 ≠ I) → i < n → Pv i v → P D i c m₁ → (∀ p ∈ Led D c, p.1 ∉ [C, I]) → (∃ o, (I, o) ∈ own) → (∀ p ∈ own, p.1 = I ∨ p.1 ∈ fpx) → LCg.NsObj oC (fun y => if y = x then some v else m₁ y) → Fr h₀ L h m → News h₀ L h ((C, oC) :: (Led D c ++ own)) →
   wpAny (model prog w) A (ctests ifs (compEnvC scope cl C env)) (fun ok s₃ => if ok = true then wpAny (model prog w) A (emit D C) (fun _ s₄ => CEnd h₀ L m C [I] own (Led D) (P D) (i + 1) { s with heap := h, toks := tk } s₄) E' s₃ else CEnd h₀ L m C [I] own (Led D) (P D) (i + 1) { s with heap := h, toks := tk } s₃) E' { s with heap := h, toks := tk })
  (done : ∀ C D c oC m' h tk, D ≠ C → (∀ p ∈ news, p.1 ≠ C ∧ p.1 ≠ D) → P D n c m' → Fr h₀ L h m → News h₀ L h ((C, oC) :: Led D c) → LCg.NsObj oC m' → (∀ p ∈ Led D c, p.1 ≠ C) → RR (.ref D) C (.ok .next) { s with heap := h, toks := tk }) :
  wpAny (model prog w) A (pyIter v) (CGo prog w A E h₀ L m env e scope cl mk RR) E s := by
 refine el2_5 (S) ?_; (try clear S); intro o St hit W hst hlive hfpx
 have hLlt : L < s.heap.objs.size := F.ns.lt
 refine hit _ _ ⟨s.heap.objs.size, s.heap.objs.size :: fpx, [s.heap.objs.size], n, Pv, St, news, rfl, W, hst, ?_, F.push o, fun p hp => ⟨Heap.get?_push_of_some _ (N p hp).1, (N p hp).2⟩, ?_⟩
 ·intro b hb
  show b < (s.heap.push o).objs.size
  rw [Heap.size_push]
  refine asp hb ?_ fun hb => ?_
  ·exact Nat.lt_succ_self _
  exact nls (hfpx b hb)
 intro C D oC oD h tk ho hoff hCf hDf hDC hCL hDL hC₀ hD₀ hst' F' N' hnC
 have hCI : s.heap.objs.size ≠ C := fun q => hCf (q ▸ .head _)
 have hDI : s.heap.objs.size ≠ D := fun q => hDf (q ▸ .head _)
 have hnI : ∀ p ∈ news, p.1 ≠ s.heap.objs.size := fun p hp => nlt (Heap.lt_size (N p hp).1)
 refine cl_loop ck (ht _ _ _) W (fun i h st b hb => by rw [ms1 hb]; exact hlive i h st) rfl (lookup_relabel_local hx) (by simp [compEnvC, relabel, hkind]) hCL hC₀ (fun hm => ?_) hCf ?_ (Led D) (P D) (c₀ D oD) hst' F' (by rw [hLed D oD ho]; exact N') hnC ?_ (hP D oD ho) ?_ ?_
 ·rcases mc1 hm with q | hm
  ·exact nlt hLlt q
  exact hLf hm
 ·intro b hb
  rw [ms1 hb]
  exact next_is_new F
 ·intro p hp hm
  rw [hLed D oD ho] at hp
  first | refine mst hp ?_ fun hp => ?_ | rcases mc1 hp with rfl | hp
  ·rcases mc1 hm with q | hm
   ·exact hDC q
   exact hDI (ms1 hm).symm
  rcases mc1 hm with q | hm
  ·exact (hoff p hp).1 q
  exact hnI p hp (ms1 hm)
 ·intro i v c oC₁ m₁ h₁ tk₁ own E' hi hPv hPc hnw hown hof hn F₁ N₁
  exact turn C D _ i v c oC₁ m₁ h₁ tk₁ own E' hDC hCI hDI (fun p hp => ⟨(hoff p hp).1, (hoff p hp).2, hnI p hp⟩) hi hPv hPc hnw (hown _ (.head _)) (fun p hp => mc1 (hof p hp)) hn F₁ N₁
 intro c oC₁ m₁ h₁ tk₁ hPc F₁ N₁ hn hnw
 exact done C D c oC₁ m₁ h₁ tk₁ hDC hoff hPc F₁ N₁ hn fun p hp q => hnw p hp (q ▸ .head _)
theorem inner_go {e iter : PySem.Expr} {depth : Nat} {acc : Value} {Q : Unit → Shared → Prop} (hs : ∀ x, foldedSetIterable iter env x = pure x)
  (h : wpAny (model prog w) A (eval iter env) (fun xv s₁ => wpAny (model prog w) A (pyIter xv) (fun it s₂ => codeAny (model prog w) A (.compStart e depth it acc env) (fun r s' => match r with | .ok _ => Q () s' | .error x => cameBackBy (model prog w) A env E x s') s₂) E s₁) E s) :
  wpAny (model prog w) A (cinner e iter depth acc env) Q E s := by
 unfold cinner
 refine wpAny_bind (wpAny_mono h (fun xv s₁ h₁ => wpAny_bind (wpAny_standAt (wpAny_bind (wpAny_of_eq (hs xv) (wpAny_bind (wpAny_holding (wpAny_mono h₁ (fun it s₂ h₂ => wpAny_bind (wpAny_runOwn (codeAny_mono h₂ fun r s' hr => ?_))) fun _ _ x => x))))))) fun _ _ x => x)
 cases r with
 | ok f => exact wpAny_pure hr
 | error x => exact hr
theorem cin_src {σ : Type} {e iter : PySem.Expr} {x : Str} {px : Pos} {ifs : List PySem.Expr} {emit : Sem Unit} {scope : Scope} {cl : List (Str × Addr)} {depth : Nat} {g : Comprehension} {C : Addr} {acc v : Value} {R : Result → Shared → Prop} {n : Nat} {Pv : Nat → Value → Prop} {fpx : List Addr}
  (ck : CKind e) (hg : (clausesOf e)[depth]? = some g) (ha : g.is_async = 0)
  (ht : ∀ I, compTurn e depth (.ref I) acc (compEnvC scope cl C env) = cturn (.Name x px) iter ifs emit e depth (.ref I) acc (compEnvC scope cl C env)) (hkind : scope.kind = .function) (hx : scope.names.lookup x = some .local)
  (S : SrcW prog w A v s n Pv fpx) (hLf : L ∉ fpx) (hCf : C ∉ fpx)
  (Led : σ → List (Addr × Obj)) (P : Nat → σ → (Str → Option Value) → Prop) (c₀ : σ) {oC₀ : Obj} {m₀ : Str → Option Value}
  (F : Fr h₀ L s.heap m) (N : News h₀ L s.heap ((C, oC₀) :: Led c₀)) (hn : LCg.NsObj oC₀ m₀) (hnw : ∀ p ∈ Led c₀, p.1 ≠ C) (hP : P 0 c₀ m₀)
  (turn : ∀ I i v c oC m₁ h tk own E', I ≠ C → (∀ p ∈ Led c₀, p.1 ≠ I) → i < n → Pv i v → P i c m₁ → (∀ p ∈ Led c, p.1 ∉ [C, I]) → (∃ o, (I, o) ∈ own) → (∀ p ∈ own, p.1 = I ∨ p.1 ∈ fpx) → LCg.NsObj oC (fun y => if y = x then some v else m₁ y) → Fr h₀ L h m → News h₀ L h ((C, oC) :: (Led c ++ own)) →
   wpAny (model prog w) A (ctests ifs (compEnvC scope cl C env)) (fun ok s₃ => if ok = true then wpAny (model prog w) A emit (fun _ s₄ => CEnd h₀ L m C [I] own Led P (i + 1) { s with heap := h, toks := tk } s₄) E' s₃ else CEnd h₀ L m C [I] own Led P (i + 1) { s with heap := h, toks := tk } s₃) E' { s with heap := h, toks := tk })
  (done : ∀ c oC m' h tk, P n c m' → Fr h₀ L h m → News h₀ L h ((C, oC) :: Led c) → LCg.NsObj oC m' → (∀ p ∈ Led c, p.1 ≠ C) → R (.ok .next) { s with heap := h, toks := tk }) :
  wpAny (model prog w) A (pyIter v) (fun it s₂ => codeAny (model prog w) A (.compStart e depth it acc (compEnvC scope cl C env)) R s₂) E s := by
 refine el2_5 (S) ?_; (try clear S); intro o St hit W hst hlive hfpx
 have hLlt : L < s.heap.objs.size := F.ns.lt
 have hC := N _ (.head _)
 have hClt : C < s.heap.objs.size := Heap.lt_size hC.1
 have loop : codeAny (model prog w) A (.compLoop e depth (.ref s.heap.objs.size) acc (compEnvC scope cl C env)) R { s with heap := s.heap.push o } := by
  refine cl_loop ck (ht _) W (fun i h st b hb => by rw [ms1 hb]; exact hlive i h st) rfl (lookup_relabel_local hx) (by simp [compEnvC, relabel, hkind]) hC.2.1 hC.2.2 (fun hm => ?_) (fun hm => ?_) ?_ Led P c₀ hst (F.push o) (fun p hp => ⟨Heap.get?_push_of_some _ (N p hp).1, (N p hp).2⟩) hn ?_ hP ?_ ?_
  ·rcases mc1 hm with q | hm
   ·exact nlt hLlt q
   exact hLf hm
  ·rcases mc1 hm with q | hm
   ·exact nlt hClt q
   exact hCf hm
  ·intro b hb
   rw [ms1 hb]
   exact next_is_new F
  ·intro p hp hm
   rcases mc1 hm with q | hm
   ·exact hnw p hp q
   exact nlt (Heap.lt_size (N p (.tail _ hp)).1) (ms1 hm)
  ·intro i v c oC₁ m₁ h₁ tk₁ own E' hi hPv hPc hnw' hown hof hn F₁ N₁
   exact turn _ i v c oC₁ m₁ h₁ tk₁ own E' (ngt hClt) (fun p hp => nlt (Heap.lt_size (N p (.tail _ hp)).1)) hi hPv hPc hnw' (hown _ (.head _)) (fun p hp => mc1 (hof p hp)) hn F₁ N₁
  intro c oC₁ m₁ h₁ tk₁ hPc F₁ N₁ hn hnw'
  exact done c oC₁ m₁ h₁ tk₁ hPc F₁ N₁ hn fun p hp q => hnw' p hp (q ▸ .head _)
 exact hit _ _ (code_cstart ck hg ha loop (W.self 0 _ _ _ hst loop))
end
section
variable {prog : Program} {w : World} {A : Around} {E : Value → Shared → Prop} {s : Shared} {R : Result → Shared → Prop} {h₀ : Heap} {L C : Addr} {m : Str → Option Value}
theorem cl_pair {σ : Type} {e iter : PySem.Expr} {x x2 : Str} {px px2 tp : Pos} {tk₀ : Nat} {ifs : List PySem.Expr} {emit : Sem Unit} {depth : Nat} {acc : Value} {env : Env} {I : Addr} {fp wr : List Addr} {n : Nat} {Pv : Nat → Value → Prop} {P2 : Nat → Value → Value → Prop} {St : Nat → Heap → Prop}
  (hh : A.handled = none) (ck : CKind e) (ht : compTurn e depth (.ref I) acc env = cturn (.Tuple [.Name x px, .Name x2 px2] tk₀ tp) iter ifs emit e depth (.ref I) acc env)
  (W : Walks prog w A I fp wr n Pv St) (hlive : ∀ i h, St i h → ∀ b ∈ wr, ∃ o, h.get? b = some o) (hLI : ∀ i h, St i h → ∃ l j, h.IsListIter I l j) (hEC : env.locals = C) (hx : env.kindOf x = some .local) (hx2 : env.kindOf x2 = some .local) (hp : (env.scope.kind == .class || (env.scope.kind == .module && env.locals != env.globals)) = false)
  (hCL : C ≠ L) (hC₀ : h₀.get? C = none) (hLf : L ∉ fp) (hCf : C ∉ fp) (hwr : ∀ b ∈ wr, h₀.get? b = none)
  (Led : σ → List (Addr × Obj)) (P : Nat → σ → (Str → Option Value) → Prop) (c₀ : σ) {oC₀ : Obj} {m₀ : Str → Option Value}
  (hpair : ∀ i v c m₁, Pv i v → P i c m₁ → ∃ (t : Addr) (ot : Obj) (v1 v2 : Value) (nt : Nat), v = .ref t ∧ (t, ot) ∈ Led c ∧ ot.cls = .type "tuple" ∧ ot.data = .seq #[v1, v2] nt ∧ P2 i v1 v2)
  (hst : St 0 s.heap) (F : Fr h₀ L s.heap m) (N : News h₀ L s.heap ((C, oC₀) :: Led c₀)) (hn : LCg.NsObj oC₀ m₀) (hnw : ∀ p ∈ Led c₀, p.1 ∉ C :: wr) (hP : P 0 c₀ m₀)
  (turn : ∀ i v1 v2 c oC m₁ h tk own E', i < n → P2 i v1 v2 → P i c m₁ → (∀ p ∈ Led c, p.1 ∉ C :: wr) → (∀ b ∈ wr, ∃ o, (b, o) ∈ own) → (∀ p ∈ own, p.1 ∈ fp) → LCg.NsObj oC (fun y => if y = x2 then some v2 else if y = x then some v1 else m₁ y) → Fr h₀ L h m → News h₀ L h ((C, oC) :: (Led c ++ own)) →
   wpAny (model prog w) A (ctests ifs env) (fun ok s₃ => if ok = true then wpAny (model prog w) A emit (fun _ s₄ => CEnd h₀ L m C wr own Led P (i + 1) { s with heap := h, toks := tk } s₄) E' s₃ else CEnd h₀ L m C wr own Led P (i + 1) { s with heap := h, toks := tk } s₃) E' { s with heap := h, toks := tk })
  (done : ∀ c oC m' h tk, P n c m' → Fr h₀ L h m → News h₀ L h ((C, oC) :: Led c) → LCg.NsObj oC m' → (∀ p ∈ Led c, p.1 ∉ C :: wr) → R (.ok .next) { s with heap := h, toks := tk }) :
  codeAny (model prog w) A (.compLoop e depth (.ref I) acc env) R s := by
 have hLw : L ∉ wr := fun h => hLf (W.sub _ h)
 have hCw : C ∉ wr := fun h => hCf (W.sub _ h)
 have old : ∀ b o, h₀.get? b = some o → b ∉ wr := fun b o e hb => by rw [hwr b hb] at e; cases e
 refine code_cloop ck ht
  (fun k s' => ∃ h' tk c oC m' i, s' = { s with heap := h', toks := tk } ∧ St i h' ∧ Fr h₀ L h' m ∧ News h₀ L h' ((C, oC) :: Led c) ∧ LCg.NsObj oC m' ∧ (∀ p ∈ Led c, p.1 ∉ C :: wr) ∧ P i c m' ∧ i ≤ n ∧ k = n + 1 - i) ?_ (n + 1)
  ⟨s.heap, s.toks, c₀, oC₀, m₀, 0, rfl, hst, F, N, hn, hnw, hP, Nat.zero_le _, rfl⟩
 rintro k s' ⟨h', tk, c, oC, m', i, rfl, hst', F', N', hn', hnw', hP', hi, rfl⟩
 have hoffw : ∀ p ∈ (C, oC) :: Led c, p.1 ∉ wr := by
  intro p hp
  refine asp hp ?_ fun hp => ?_
  ·exact hCw
  exact fun h => hnw' p hp (.tail _ h)
 have next : ∀ h₁ : Heap, (∀ b o, b ∉ wr → h'.get? b = some o → h₁.get? b = some o) → Fr h₀ L h₁ m ∧ News h₀ L h₁ ((C, oC) :: Led c) := fun h₁ hk₁ =>
  ⟨⟨F'.ns.at' fun o e => hk₁ _ o hLw e, fun b o e => hk₁ b o (old b o e) (F'.keep b o e), F'.above⟩, fun p hp => ⟨hk₁ _ _ (hoffw p hp) (N' p hp).1, (N' p hp).2⟩⟩
 by_cases hlt : i < n
 ·refine W.item i _ _ _ hlt hst' fun v h₁ tk₁ hPv hst₁ hk₁ => ?_
  refine el0_2 (next h₁ hk₁) ?_; intro F₁ N₁
  refine el5_5 (hpair i v c m' hPv hP') ?_; intro t ot v1 v2 nt e95 hmt hct hdt hP2; subst e95
  have htup : IsTup h₁ t #[v1, v2] := ⟨ot, (N₁ _ (.tail _ hmt)).1, hct, nt, hdt⟩
  refine el2_1 (hLI _ _ hst₁) ?_; intro lI jI hLi
  refine wpAny_letOwnedTupleGo_listiter hLi ?_
  refine assign_Tuple_tuple hh htup rfl rfl fun h₅ he => ?_
  have he' : ∀ b o, h₁.get? b = some o → h₅.get? b = some o := fun b o e => he b o (nlt (Heap.lt_size e)) e
  refine assignInOrder_cons (wpAny_assign_Name (wpAny_storeName_local hx (hEC ▸ (hn'.ns (N₁ _ (.head _)).1).at' fun o e => he' _ o e) (fun h₆ hn₆ hs₆ => ?_) hp))
  refine assignInOrder_cons (wpAny_assign_Name (wpAny_storeName_local hx2 hn₆ (fun h₂ hn₂ hs₂ => ?_) hp))
  refine assignInOrder_nil ?_
  rw [hEC] at hn₂ hs₂ hs₆
  have F₂ : Fr h₀ L h₂ m := ((F₁.keeps he').change hs₆ hCL hC₀).change hs₂ hCL hC₀
  refine el1_2 (LCg.ns_obj hn₂) ?_; intro oC₂ hoC₂ hnC₂
  have Nown : News h₀ L h₂ (ownOf h₀ fp h₂) := news_ownOf hLf
  have up2 : ∀ b o, b ≠ C → h₁.get? b = some o → h₂.get? b = some o := fun b o hb e => (hs₂.2 b hb).trans ((hs₆.2 b hb).trans (he' b o e))
  have hst₂ : St (i + 1) h₂ := W.frame _ _ _ hst₁ fun b hb o e => up2 b o (fun q => hCf (q ▸ hb)) e
  have N₂ : News h₀ L h₂ ((C, oC₂) :: (Led c ++ ownOf h₀ fp h₂)) := by
   intro p hp
   refine asp hp ?_ fun hp => ?_
   ·exact ⟨hoC₂, hCL, hC₀⟩
   refine ast hp (fun hp => ?_) fun hp => ?_
   ·exact ⟨up2 _ _ (fun q => hnw' p hp (q ▸ .head _)) (N₁ p (.tail _ hp)).1, (N₁ p (.tail _ hp)).2⟩
   exact Nown p hp
  have hown : ∀ b ∈ wr, ∃ o, (b, o) ∈ ownOf h₀ fp h₂ := fun b hb => by
   refine el1_1 (hlive _ _ hst₂ b hb) ?_; intro o ho
   exact ⟨o, mem_ownOf (W.sub b hb) (hwr b hb) ho⟩
  have key : ∀ tk₉ s₄, CEnd h₀ L m C wr (ownOf h₀ fp h₂) Led P (i + 1) { s with heap := h₂, toks := tk₉ } s₄ → ∃ mm, mm < n + 1 - i ∧ ∃ h' tk c oC m' i, s₄ = { s with heap := h', toks := tk } ∧ St i h' ∧ Fr h₀ L h' m ∧ News h₀ L h' ((C, oC) :: Led c) ∧ LCg.NsObj oC m' ∧ (∀ p ∈ Led c, p.1 ∉ C :: wr) ∧ P i c m' ∧ i ≤ n ∧ mm = n + 1 - i := by
   rintro tk₉ s₄ ⟨h₄, tk₄, c₄, oC₄, m₄, rfl, F₄, N₄, hn₄, hnw₄, hP₄⟩
   refine ⟨n + 1 - (i + 1), by lia, h₄, tk₄, c₄, oC₄, m₄, i + 1, rfl, ?_, F₄, nsub N₄ (fun p hp => ?_), hn₄, hnw₄, hP₄, hlt, rfl⟩
   ·refine W.frame _ _ _ hst₂ fun b hb o e => ?_
    cases hn : h₀.get? b with
    | some o₀ =>
     have : o₀ = o := by have := F₂.keep b o₀ hn; rw [e] at this; exact (Option.some.inj this).symm
     exact this ▸ F₄.keep b o₀ hn
    | none => exact (N₄ _ (.tail _ (maR _ (mem_ownOf hb hn e)))).1
   refine mst hp ?_ fun hp => ?_
   ·exact .head _
   exact .tail _ (maL _ hp)
  refine wpAny_mono (turn i v1 v2 c oC₂ m' h₂ _ (ownOf h₀ fp h₂) _ hlt hP2 hP' hnw' hown ownOf_sub hnC₂ F₂ N₂) (fun ok s₃ h₃ => ?_) fun _ _ e => e
  cases ok with
  | false =>
   simp only [Bool.false_eq_true, if_false] at h₃ ⊢
   exact key _ _ h₃
  | true =>
   simp only [if_true] at h₃ ⊢
   exact wpAny_mono h₃ (fun _ s₄ h₄ => key _ _ h₄) fun _ _ e => e
 have hin : i = n := by lia
 subst hin
 refine W.done _ _ _ hst' fun h₁ tk₁ hk₁ => ?_
 refine el0_2 (next h₁ hk₁) ?_; intro F₁ N₁
 exact done c oC m' h₁ tk₁ hP' F₁ N₁ hn' hnw'
end
section
variable {prog : Program} {w : World} {A : Around} {E : Value → Shared → Prop} {s : Shared} {h₀ : Heap} {L : Addr} {m : Str → Option Value} {env : Env}
theorem cgo_pair {σ : Type} {e iter : PySem.Expr} {x x2 : Str} {px px2 tp : Pos} {tk₀ : Nat} {ifs : List PySem.Expr} {emit : Addr → Addr → Sem Unit} {scope : Scope} {cl : List (Str × Addr)} {mk : Obj → Prop} {RR : Value → Addr → Result → Shared → Prop} {l : Addr} {items : Array Value} {P2 : Nat → Value → Value → Prop} {news : List (Addr × Obj)}
  (hh : A.handled = none) (ck : CKind e) (ht : ∀ I D C, compTurn e 0 (.ref I) (.ref D) (compEnvC scope cl C env) = cturn (.Tuple [.Name x px, .Name x2 px2] tk₀ tp) iter ifs (emit D C) e 0 (.ref I) (.ref D) (compEnvC scope cl C env)) (hkind : scope.kind = .function) (hx : scope.names.lookup x = some .local) (hx2 : scope.names.lookup x2 = some .local)
  (hl : s.heap.IsList l items) (F : Fr h₀ L s.heap m) (N : News h₀ L s.heap news) (hLf : L ≠ l)
  (Led : Addr → σ → List (Addr × Obj)) (P : Addr → Nat → σ → (Str → Option Value) → Prop) (c₀ : Addr → Obj → σ) (hLed : ∀ D oD, mk oD → Led D (c₀ D oD) = (D, oD) :: news) (hP : ∀ D oD, mk oD → P D 0 (c₀ D oD) (fun _ => none))
  (hpair : ∀ D i v c m₁, items[i]? = some v → P D i c m₁ → ∃ (t : Addr) (ot : Obj) (v1 v2 : Value) (nt : Nat), v = .ref t ∧ (t, ot) ∈ Led D c ∧ ot.cls = .type "tuple" ∧ ot.data = .seq #[v1, v2] nt ∧ P2 i v1 v2)
  (turn : ∀ C D I i v1 v2 c oC m₁ h tk own E', D ≠ C → I ≠ C → I ≠ D → (∀ p ∈ news, p.1 ≠ C ∧ p.1 ≠ D ∧ p.1 ≠ I) → i < items.size → P2 i v1 v2 → P D i c m₁ → (∀ p ∈ Led D c, p.1 ∉ [C, I]) → (∃ o, (I, o) ∈ own) → (∀ p ∈ own, p.1 = I ∨ p.1 = l) → LCg.NsObj oC (fun y => if y = x2 then some v2 else if y = x then some v1 else m₁ y) → Fr h₀ L h m → News h₀ L h ((C, oC) :: (Led D c ++ own)) →
   wpAny (model prog w) A (ctests ifs (compEnvC scope cl C env)) (fun ok s₃ => if ok = true then wpAny (model prog w) A (emit D C) (fun _ s₄ => CEnd h₀ L m C [I] own (Led D) (P D) (i + 1) { s with heap := h, toks := tk } s₄) E' s₃ else CEnd h₀ L m C [I] own (Led D) (P D) (i + 1) { s with heap := h, toks := tk } s₃) E' { s with heap := h, toks := tk })
  (done : ∀ C D c oC m' h tk, D ≠ C → (∀ p ∈ news, p.1 ≠ C ∧ p.1 ≠ D) → P D items.size c m' → Fr h₀ L h m → News h₀ L h ((C, oC) :: Led D c) → LCg.NsObj oC m' → (∀ p ∈ Led D c, p.1 ≠ C) → RR (.ref D) C (.ok .next) { s with heap := h, toks := tk }) :
  wpAny (model prog w) A (pyIter (.ref l)) (CGo prog w A E h₀ L m env e scope cl mk RR) E s := by
 refine el1_2 (id hl) ?_; intro ol hol hol2
 have hlt : l < s.heap.objs.size := Heap.lt_size hol
 have hLlt : L < s.heap.objs.size := F.ns.lt
 refine wpAny_pyIter_list hl ?_
 have W := Walks.list (prog := prog) (w := w) (A := A) hh s.heap.objs.size l (nlt hlt) items
 refine ⟨s.heap.objs.size, _, _, items.size, _, _, news, rfl, W, ⟨⟨_, Heap.get?_push_size _ rfl, rfl, rfl⟩, hl.at fun o e => Heap.get?_push_of_some _ e⟩, ?_, F.push _, fun p hp => ⟨Heap.get?_push_of_some _ (N p hp).1, (N p hp).2⟩, ?_⟩
 ·intro b hb
  show b < (s.heap.push _).objs.size
  rw [Heap.size_push]
  refine asp hb ?_ fun hb => ?_
  ·exact Nat.lt_succ_self _
  rw [ms1 hb]; exact nls hlt
 intro C D oC oD h tk ho hoff hCf hDf hDC hCL hDL hC₀ hD₀ hst' F' N' hnC
 have hCI : s.heap.objs.size ≠ C := fun q => hCf (q ▸ .head _)
 have hDI : s.heap.objs.size ≠ D := fun q => hDf (q ▸ .head _)
 have hnI : ∀ p ∈ news, p.1 ≠ s.heap.objs.size := fun p hp => nlt (Heap.lt_size (N p hp).1)
 refine cl_pair (P2 := P2) hh ck (ht _ _ _) W (fun i h st b hb => by rw [ms1 hb]; obtain ⟨⟨o, ho, _⟩, _⟩ := st; exact ⟨o, ho⟩) (fun i h st => ⟨_, _, st.1⟩) rfl (lookup_relabel_local hx) (lookup_relabel_local hx2) (by simp [compEnvC, relabel, hkind]) hCL hC₀ (fun hm => ?_) hCf ?_ (Led D) (P D) (c₀ D oD) (fun i v c m₁ hv hp => hpair D i v c m₁ hv hp) hst' F' (by rw [hLed D oD ho]; exact N') hnC ?_ (hP D oD ho) ?_ ?_
 ·rcases mc1 hm with q | hm
  ·exact nlt hLlt q
  exact hLf (ms1 hm)
 ·intro b hb
  rw [ms1 hb]
  exact next_is_new F
 ·intro p hp hm
  rw [hLed D oD ho] at hp
  first | refine mst hp ?_ fun hp => ?_ | rcases mc1 hp with rfl | hp
  ·rcases mc1 hm with q | hm
   ·exact hDC q
   exact hDI (ms1 hm).symm
  rcases mc1 hm with q | hm
  ·exact (hoff p hp).1 q
  exact hnI p hp (ms1 hm)
 ·intro i v1 v2 c oC₁ m₁ h₁ tk₁ own E' hi hP2 hPc hnw hown hof hn F₁ N₁
  exact turn C D _ i v1 v2 c oC₁ m₁ h₁ tk₁ own E' hDC hCI hDI (fun p hp => ⟨(hoff p hp).1, (hoff p hp).2, hnI p hp⟩) hi hP2 hPc hnw (hown _ (.head _)) (fun p hp => (mc1 (hof p hp)).imp id ms1) hn F₁ N₁
 intro c oC₁ m₁ h₁ tk₁ hPc F₁ N₁ hn hnw
 exact done C D c oC₁ m₁ h₁ tk₁ hDC hoff hPc F₁ N₁ hn fun p hp q => hnw p hp (q ▸ .head _)
end
section
variable {elt t0 i0 t1 i1 : PySem.Expr} {f0 f1 : List PySem.Expr} {scope : Scope} {pos : Pos} {it acc : Value} {env : Env}
theorem ct_list1 : compTurn (.ListComp elt [⟨t0, i0, f0, 0⟩] scope pos) 0 it acc env = cturn t0 i0 f0 (cemitL elt acc env) (.ListComp elt [⟨t0, i0, f0, 0⟩] scope pos) 0 it acc env := by rfl
theorem ct_set1 : compTurn (.SetComp elt [⟨t0, i0, f0, 0⟩] scope pos) 0 it acc env = cturn t0 i0 f0 (cemitS elt acc env) (.SetComp elt [⟨t0, i0, f0, 0⟩] scope pos) 0 it acc env := by rfl
theorem ct_list2 : compTurn (.ListComp elt [⟨t0, i0, f0, 0⟩, ⟨t1, i1, f1, 0⟩] scope pos) 0 it acc env = cturn t0 i0 f0 (cinner (.ListComp elt [⟨t0, i0, f0, 0⟩, ⟨t1, i1, f1, 0⟩] scope pos) i1 1 acc env) (.ListComp elt [⟨t0, i0, f0, 0⟩, ⟨t1, i1, f1, 0⟩] scope pos) 0 it acc env := by
 unfold compTurn cturn cinner
 simp only [List.getElem?_cons_zero, List.getElem?_cons_succ, bind_assoc]
 rfl
theorem ct_set2 : compTurn (.SetComp elt [⟨t0, i0, f0, 0⟩, ⟨t1, i1, f1, 0⟩] scope pos) 0 it acc env = cturn t0 i0 f0 (cinner (.SetComp elt [⟨t0, i0, f0, 0⟩, ⟨t1, i1, f1, 0⟩] scope pos) i1 1 acc env) (.SetComp elt [⟨t0, i0, f0, 0⟩, ⟨t1, i1, f1, 0⟩] scope pos) 0 it acc env := by
 unfold compTurn cturn cinner
 simp only [List.getElem?_cons_zero, List.getElem?_cons_succ, bind_assoc]
 rfl
theorem ct_list2i : compTurn (.ListComp elt [⟨t0, i0, f0, 0⟩, ⟨t1, i1, f1, 0⟩] scope pos) 1 it acc env = cturn t1 i1 f1 (cemitL elt acc env) (.ListComp elt [⟨t0, i0, f0, 0⟩, ⟨t1, i1, f1, 0⟩] scope pos) 1 it acc env := by rfl
theorem ct_set2i : compTurn (.SetComp elt [⟨t0, i0, f0, 0⟩, ⟨t1, i1, f1, 0⟩] scope pos) 1 it acc env = cturn t1 i1 f1 (cemitS elt acc env) (.SetComp elt [⟨t0, i0, f0, 0⟩, ⟨t1, i1, f1, 0⟩] scope pos) 1 it acc env := by rfl
end
section
variable {prog : Program} {w : World} {A : Around} {E : Value → Shared → Prop} {s : Shared} {env : Env}
theorem emitL_go {elt : PySem.Expr} {acc : Value} {Q : Unit → Shared → Prop} (h : wpAny (model prog w) A (eval elt env) (fun v s₁ => wpAny (model prog w) A (call (.builtin "list.append") [acc, v]) (fun _ s₂ => Q () s₂) E s₁) E s) : wpAny (model prog w) A (cemitL elt acc env) Q E s := by
 unfold cemitL
 exact wpAny_bind (wpAny_mono h (fun v s₁ h₁ => wpAny_bind (wpAny_mono h₁ (fun _ s₂ h₂ => wpAny_pure h₂) fun _ _ x => x)) fun _ _ x => x)
theorem emitS_go {elt : PySem.Expr} {acc : Value} {Q : Unit → Shared → Prop} (h : wpAny (model prog w) A (eval elt env) (fun v s₁ => wpAny (model prog w) A (call (.builtin "set.add") [acc, v]) (fun _ s₂ => Q () s₂) E s₁) E s) : wpAny (model prog w) A (cemitS elt acc env) Q E s := by
 unfold cemitS
 exact wpAny_bind (wpAny_mono h (fun v s₁ h₁ => wpAny_bind (wpAny_standAt (wpAny_bind (wpAny_mono h₁ (fun _ s₂ h₂ => wpAny_pure h₂) fun _ _ x => x)))) fun _ _ x => x)
end
section
open PySem.Spec
noncomputable def cutsOf (x : Str) (k : Nat) : List (Str × Str) := (List.range k).map fun (i : Nat) => (Txt.slice x none (some (1 + (i : Int) * 1)), Txt.slice x (some (1 + (i : Int) * 1)) none)
noncomputable def stepsOf (ws : List Str) (k : Nat) : List (Str × Str) := ws.flatMap fun x => cutsOf x k
theorem cutsOf_succ (x : Str) (k : Nat) : cutsOf x (k + 1) = cutsOf x k ++ [(Txt.slice x none (some (1 + (k : Int) * 1)), Txt.slice x (some (1 + (k : Int) * 1)) none)] := by
 unfold cutsOf
 rw [List.range_succ, List.map_append]
 rfl
theorem cutsOf_len (x : Str) (k : Nat) : (cutsOf x k).length = k := by unfold cutsOf; simp
theorem stepsOf_len : ∀ (ws : List Str) (k : Nat), (stepsOf ws k).length = ws.length * k
 | [], k => by simp [stepsOf]
 | x :: ws, k => by
  have := stepsOf_len ws k
  unfold stepsOf at this ⊢
  rw [List.flatMap_cons, List.length_append, cutsOf_len, this, List.length_cons, Nat.add_mul]
  lia
theorem stepsOf_take {ws : List Str} {i : Nat} {x : Str} {k : Nat} (h : ws[i]? = some x) : stepsOf (ws.take (i + 1)) k = stepsOf (ws.take i) k ++ cutsOf x k := by
 unfold stepsOf
 rw [List.take_add_one, h, List.flatMap_append]
 simp
noncomputable abbrev datP (p : Str × Str) : Dat := Dat.tuple [Dat.str p.1, Dat.str p.2]
theorem dat_cons {own : List (Addr × Obj)} {vs : List Value} {d : Dat} {ds : List Dat} (h : DatAll own vs (d :: ds)) : ∃ v r, vs = v :: r ∧ DatIn own v d ∧ DatAll own r ds := by
 cases h with
 | cons a b => exact ⟨_, _, rfl, a, b⟩
theorem dat_nil {own : List (Addr × Obj)} {vs : List Value} (h : DatAll own vs []) : vs = [] := by
 cases h
 rfl
theorem dat_str {own : List (Addr × Obj)} {v : Value} {x : Str} (h : DatIn own v (Dat.str x)) : ∃ t, v = .str x t := by
 cases h
 exact ⟨_, rfl⟩
theorem dat_tup {own : List (Addr × Obj)} {v : Value} {ds : List Dat} (h : DatIn own v (Dat.tuple ds)) :
  ∃ a vs n, v = .ref a ∧ (a, ({ cls := .type "tuple", data := .seq vs.toArray n } : Obj)) ∈ own ∧ DatAll own vs ds := by
 cases h with
 | tuple a b => exact ⟨_, _, _, rfl, a, b⟩
theorem datP_get {own : List (Addr × Obj)} : ∀ {vs : List Value} {es : List (Str × Str)} {i : Nat} {v : Value}, DatAll own vs (es.map datP) → vs[i]? = some v →
  ∃ a b ta tb t n, es[i]? = some (a, b) ∧ v = .ref t ∧ (t, ({ cls := .type "tuple", data := .seq #[.str a ta, .str b tb] n } : Obj)) ∈ own := by
 intro vs es
 induction es generalizing vs with
 | nil =>
  intro i v h hv
  cases dat_nil h
  cases hv
 | cons e es ih =>
  intro i v h hv
  obtain ⟨v0, r, rfl, h1, h2⟩ := dat_cons (d := datP e) (ds := es.map datP) h
  cases i with
  | succ i => exact ih (i := i) h2 hv
  | zero =>
   cases Option.some.inj hv
   obtain ⟨t, us, n, rfl, hm, h3⟩ := dat_tup h1
   obtain ⟨v1, r1, rfl, h4, h3⟩ := dat_cons h3
   obtain ⟨v2, r2, rfl, h5, h3⟩ := dat_cons h3
   cases dat_nil h3
   obtain ⟨ta, rfl⟩ := dat_str h4
   obtain ⟨tb, rfl⟩ := dat_str h5
   exact ⟨e.1, e.2, ta, tb, t, n, rfl, rfl, hm⟩
section
variable {prog : Program} {w : World} {A : Around} {E : Value → Shared → Prop} {s : Shared} {h₀ : Heap} {L a b : Addr} {news : List (Addr × Obj)} {vs us : Array Value} {ss ts : List Str} {e1 e2 : Nat} {Q : Value → Shared → Prop}
theorem strs_ok {ss : List Str} (h : ∀ x ∈ ss, PyData.strOk x = true) : ∀ d ∈ ss.map Dat.str, kqdOk 8 d = true := by
 intro d hd
 refine el1_2 (mm1 hd) ?_; intro x hx e92; subst e92
 exact h x hx
theorem datStr_inj {ss ts : List Str} : ss.map Dat.str = ts.map Dat.str ↔ ss = ts := by
 constructor
 ·intro h
  have := congrArg (List.map fun d => match d with | Dat.str x => x | _ => (⟨#[]⟩ : Str)) h
  simpa [List.map_map, Function.comp_def] using this
 rintro rfl; rfl
theorem eq_strs_S (N : News h₀ L s.heap news) (ma : (a, W.listOf vs e1) ∈ news) (mb : (b, W.listOf us e2) ∈ news) (ha : StrsAre vs.toList ss) (hb : StrsAre us.toList ts) (oa : ∀ x ∈ ss, PyData.strOk x = true) (ob : ∀ x ∈ ts, PyData.strOk x = true) (hu : A.units + 64 < cLine)
  (h : Q (.bool (decide (ss = ts))) s) : wpAny (model prog w) A (compareOp .Eq (.ref a) (.ref b)) Q E s := by
 refine kqd_eq N ma rfl (xs := vs.toList) (ka := e1) (by rw [Array.toArray_toList]) (datStrs (news := []) ha) (fn0 _) mb rfl (ys := us.toList) (kb := e2) (by rw [Array.toArray_toList]) (datStrs (news := []) hb) (fn0 _) (strs_ok oa) (strs_ok ob) hu ?_
 simpa only [datStr_inj] using h
theorem in_strs_S {x : Str} {tx : Tok} (N : News h₀ L s.heap news) (ma : (a, W.listOf vs e1) ∈ news) (ha : StrsAre vs.toList ss) (oa : ∀ x ∈ ss, PyData.strOk x = true) (ox : PyData.strOk x = true) (hu : A.units + 64 < cLine)
  (h : Q (.bool (decide (x ∈ ss))) s) : wpAny (model prog w) A (compareOp .In (.str x tx) (.ref a)) Q E s := by
 refine kqd_isIn N ma rfl (xs := vs.toList) (ka := e1) (by rw [Array.toArray_toList]) (datStrs (news := []) ha) (fn0 _) (DatIn.str (news := []) x tx) (fn0 _) (strs_ok oa) ox hu ?_
 have hi : Dat.str x ∈ ss.map Dat.str ↔ x ∈ ss := by
  constructor
  ·intro hm
   refine el1_2 (mm1 hm) ?_; intro y hy e
   cases e; exact hy
  exact fun hm => mm2 ⟨x, hm, rfl⟩
 simpa only [hi] using h
theorem notin_strs_S {x : Str} {tx : Tok} (N : News h₀ L s.heap news) (ma : (a, W.listOf vs e1) ∈ news) (ha : StrsAre vs.toList ss) (oa : ∀ x ∈ ss, PyData.strOk x = true) (ox : PyData.strOk x = true) (hu : A.units + 64 < cLine)
  (h : Q (.bool (!decide (x ∈ ss))) s) : wpAny (model prog w) A (compareOp .NotIn (.str x tx) (.ref a)) Q E s := by
 refine kqd_notIn N ma rfl (xs := vs.toList) (ka := e1) (by rw [Array.toArray_toList]) (datStrs (news := []) ha) (fn0 _) (DatIn.str (news := []) x tx) (fn0 _) (strs_ok oa) ox hu ?_
 have hi : Dat.str x ∈ ss.map Dat.str ↔ x ∈ ss := by
  constructor
  ·intro hm
   refine el1_2 (mm1 hm) ?_; intro y hy e
   cases e; exact hy
  exact fun hm => mm2 ⟨x, hm, rfl⟩
 simpa only [hi] using h
end
theorem cell_set {M : Model} {A : Around} {E : Value → Shared → Prop} {s : Shared} {h₀ : Heap} {L a : Addr} {m : Str → Option Value} {cn : Str} {cs : Scope} {ccd : Value} {cl : List (Str × Addr)} {x : Str} {v : Value} {Q : Unit → Shared → Prop} {news : List (Addr × Obj)} {c : Addr} {o : Obj} {v₀ : Option Value}
  (F : Fr h₀ L s.heap m) (N : News h₀ L s.heap news) (hm : (c, o) ∈ news) (hd : o.data = .cell v₀) (hc : cl.lookup x = some c)
  (h : ∀ h' o', Fr h₀ L h' m → News h₀ L h' (setAt c o' news) → o'.data = .cell (some v) → Q () { s with heap := h' })
  (hk : cs.kind = .function := by rfl) (hx : (envX cn cs L a ccd cl).kindOf x = some .cell := by rfl) : wpAny M A (storeName (envX cn cs L a ccd cl) x v) Q E s :=
 storeX_C F (newsFront N hm) hc (UpdF.head (fun p hp => by simpa using (mf1 hp).2)) hd (fun h' o' F' N' hd' => h h' o' F' (newsBack N') hd') hk hx
theorem setAdd_N {prog : Program} {w : World} {A : Around} {E : Value → Shared → Prop} {s : Shared} {h₀ : Heap} {L a : Addr} {m : Str → Option Value} {news : List (Addr × Obj)} {o : Obj} {ks : List Str} {x : Str} {tx : Tok} {Q : Value → Shared → Prop}
  (F : Fr h₀ L s.heap m) (N : News h₀ L s.heap news) (hm : (a, o) ∈ news) (hS : SetS prog w o ks) (hroom : ks.length ≤ 1000)
  (h : ∀ h' o' ks', Fr h₀ L h' m → News h₀ L h' (setAt a o' news) → SetS prog w o' ks' → (∀ y, y ∈ ks' ↔ y ∈ ks ∨ y = x) → ks'.length ≤ ks.length + 1 → Q .none { s with heap := h', toks := s.toks + 1 }) :
  wpAny (model prog w) A (call (.builtin "set.add") [.ref a, .str x tx]) Q E s := by
 refine setAdd_S (N _ hm).1 hS (by rw [show scanBound = 4096 from rfl]; lia) fun h' o' ks' hs ho' hS' hk => ?_
 refine h h' o' ks' (F.change hs (N _ hm).2.1 (N _ hm).2.2) (newsSetAt N hm hs ho') hS' (fun y => ?_) ?_
 ·rcases hk with ⟨h1, rfl⟩ | ⟨_, h2⟩
  ·exact ⟨.inl, fun q => q.elim id fun e => e ▸ h1⟩
  rw [h2.mem_iff, List.mem_append, List.mem_singleton]
 rcases hk with ⟨_, rfl⟩ | ⟨_, h2⟩
 ·lia
 rw [h2.length_eq]; simp
def IsImg (es : List (Str × Str)) (ends longer : List Str) : Prop := sortedS longer = true ∧ longer.Nodup ∧ ∀ b, b ∈ longer ↔ ∃ f, (f, b) ∈ es ∧ f ∈ ends
inductive CRun (es : List (Str × Str)) : List Str → List (List Str) → Prop
 | stop {ends : List Str} : IsImg es ends ends → CRun es ends []
 | step {ends longer : List Str} {gs : List (List Str)} : IsImg es ends longer → longer ≠ ends → CRun es longer gs → CRun es ends ((ends.filter fun p => !decide (p ∈ longer)) :: gs)
theorem ltCps_irrefl (x : List Nat) : ltCps x x = false := by
 rw [ltCps_eq]
 simpa using List.lt_irrefl x
theorem risingS_pair : ∀ (p : Str) (l : List Str), risingS p l = true → (p :: l).Pairwise fun a b => ltCps b.cps.toList a.cps.toList = false
 | p, [], _ => by simp
 | p, x :: r, h => by
  have h' : (!ltCps x.cps.toList p.cps.toList && risingS x r) = true := h
  rw [Bool.and_eq_true, Bool.not_eq_true'] at h'
  have ih := risingS_pair x r h'.2
  refine List.pairwise_cons.mpr ⟨?_, ih⟩
  intro y hy
  refine asp hy ?_ fun hy => ?_
  ·exact h'.1
  have h2 := List.rel_of_pairwise_cons ih hy
  have h1 := h'.1
  rw [ltCps_eq] at h1 h2 ⊢
  simp only [decide_eq_false_iff_not] at h1 h2 ⊢
  exact fun h3 => (List.not_lt.mp h2 |> fun q => h1 (List.lt_of_le_of_lt q h3))
theorem sortedS_pair : ∀ {l : List Str}, sortedS l = true → l.Pairwise fun a b => ltCps b.cps.toList a.cps.toList = false
 | [], _ => .nil
 | x :: r, h => risingS_pair x r h
theorem str_eq {x y : Str} (h : x.cps.toList = y.cps.toList) : x = y := by
 obtain ⟨⟨a⟩⟩ := x
 obtain ⟨⟨b⟩⟩ := y
 have : a = b := h
 rw [this]
theorem sorted_unique : ∀ {l l' : List Str}, l.Pairwise (fun a b => ltCps b.cps.toList a.cps.toList = false) → l'.Pairwise (fun a b => ltCps b.cps.toList a.cps.toList = false) → l.Nodup → l'.Nodup → (∀ x, x ∈ l ↔ x ∈ l') → l = l'
 | [], [], _, _, _, _, _ => rfl
 | [], y :: r, _, _, _, _, h => absurd ((h y).mpr (.head _)) List.not_mem_nil
 | x :: l, [], _, _, _, _, h => absurd ((h x).mp (.head _)) List.not_mem_nil
 | x :: l, y :: l', h1, h2, n1, n2, h => by
  have hxy : x = y := by
   by_cases hc : x = y
   ·exact hc
   have hx : x ∈ l' := (mc1 ((h x).mp (.head _))).resolve_left hc
   have hy : y ∈ l := (mc1 ((h y).mpr (.head _))).resolve_left fun q => hc q.symm
   have q1 := List.rel_of_pairwise_cons h1 hy
   have q2 := List.rel_of_pairwise_cons h2 hx
   rw [ltCps_eq] at q1 q2
   simp only [decide_eq_false_iff_not] at q1 q2
   exact str_eq (List.le_antisymm (List.not_lt.mp q1) (List.not_lt.mp q2))
  subst hxy
  congr 1
  refine sorted_unique (List.pairwise_cons.mp h1).2 (List.pairwise_cons.mp h2).2 (nc1 n1).2 (nc1 n2).2 fun z => ?_
  constructor
  ·intro hz
   rcases mc1 ((h z).mp (.tail _ hz)) with rfl | hz'
   ·exact absurd hz (nc1 n1).1
   exact hz'
  intro hz
  rcases mc1 ((h z).mpr (.tail _ hz)) with rfl | hz'
  ·exact absurd hz (nc1 n2).1
  exact hz'
end
structure CL where
 its : Array Value
 ep : Nat
 own : List (Addr × Obj)
theorem nsobj_at {o : Obj} {x : Str} {v : Value} {m m' : Str → Option Value} (h : LCg.NsObj o m') (e : m' = m) : LCg.NsObj o m := e ▸ h
theorem strsAre_get : ∀ {vs : List Value} {ss : List Str} {i : Nat} {v : Value}, StrsAre vs ss → vs[i]? = some v → ∃ x t, v = .str x t ∧ ss[i]? = some x
 | _, _, i, v, .nil, h => by simp at h
 | _, _, 0, v, .cons x t _, h => ⟨x, t, (Option.some.inj (by simpa using h)).symm, by simp⟩
 | _, _, i + 1, v, .cons x t hs, h => by
  refine el2_2 (strsAre_get hs (by simpa using h)) ?_; intro y ty e1 e2
  exact ⟨y, ty, e1, by simpa using e2⟩
theorem strsAre_snoc : ∀ {vs : List Value} {ss : List Str} {x : Str} {t : Tok}, StrsAre vs ss → StrsAre (vs ++ [.str x t]) (ss ++ [x])
 | _, _, x, t, .nil => .cons x t .nil
 | _, _, x, t, .cons y ty hs => .cons y ty (strsAre_snoc hs)
theorem nodup_sub_le : ∀ {l l' : List Str}, l.Nodup → (∀ x ∈ l, x ∈ l') → l.length ≤ l'.length
 | [], _, _, _ => Nat.zero_le _
 | x :: l, l', h1, h2 => by
  have hx : x ∈ l' := h2 x (.head _)
  have h3 := nodup_sub_le (l := l) (l' := l'.erase x) (nc1 h1).2 fun y hy => (List.mem_erase_of_ne (fun (e : y = x) => (nc1 h1).1 (e ▸ hy))).mpr (h2 y (.tail _ hy))
  rw [List.length_erase_of_mem hx] at h3
  have := List.length_pos_of_mem hx
  simp
  lia
theorem nodup_sub_lt {l l' : List Str} (h1 : l.Nodup) (h2 : ∀ x ∈ l, x ∈ l') {y : Str} (hy : y ∈ l') (hn : y ∉ l) : l.length < l'.length :=
 nodup_sub_le (l := y :: l) (List.nodup_cons.mpr ⟨hn, h1⟩) fun x hx => (mc1 hx).elim (fun e => e ▸ hy) (h2 x)
structure CS where
 o : Obj
 ks : List Str
inductive LcJ (s : Shared) (g' : Heap) (L' G lS : Addr) (oS : Obj) (Mw : Str → Option Value) (its : Array Value) (ep : Nat) (tl : List (Addr × Obj)) (es : List (Str × Str)) (ess0 : List Str) (n : Nat) (s₁ : Shared) : Prop
 | mk (lE : Addr) (evs : Array Value) (ess : List Str) (eep : Nat) (oL oE : Obj) (vL : Option Value) (own : List (Addr × Obj)) (garr : Array Value) (eG : Nat) (gsd : List (List Str)) (h : Heap) (tk : Nat) (d : Drawn)
   (e : s₁ = { s with heap := h, toks := tk, drawn := d }) (F : Fr g' L' h Mw) (N : News g' L' h ((G, W.listOf garr eG) :: (lE, W.listOf evs eep) :: (L' + 1 + 1 + 1, oL) :: (L' + 1 + 1, oE) :: (L' + 1, oS) :: (lS, W.listOf its ep) :: (own ++ tl)))
   (hE : oE.data = Data.cell (some (.ref lE))) (hL : oL.data = Data.cell vL) (hv : StrsAre evs.toList ess ∧ sortedS ess = true ∧ ess.Nodup ∧ (∀ x ∈ ess, ∃ p ∈ es, x = p.1 ∨ x = p.2) ∧ (∀ f b, (f, b) ∈ es → f ∈ ess → b ∈ ess))
   (hrun : ∀ gs, CRun es ess gs → CRun es ess0 (gsd ++ gs)) (hdg : DatAll own garr.toList (gsd.map fun l => Dat.list (l.map Dat.str))) (hnl : n = ess.length) (hlen : gsd.length + ess.length ≤ 18)
   (hsep : ∀ q ∈ (lE, W.listOf evs eep) :: own, q.1 ≠ G ∧ (q.1 ≠ L' + 1 + 1 + 1 ∧ q.1 ≠ L' + 1 + 1) ∧ q.1 ≠ lS) : LcJ s g' L' G lS oS Mw its ep tl es ess0 n s₁
theorem chains_c (w : World) (p : Program) (lo : List Str) (mean : ExcName → Option Value) (mg mb : Str → Option Value)
  (gd : Option (List Code)) (cn : Str) (cs : Scope) (a : Addr) (ccd : Value) (cl : List (Str × Addr)) (outer : List Env) (A₀ : Around) (base h₀ : Heap) (L : Addr) (m : Str → Option Value) (rest : List (Addr × Obj)) (s : Shared)
  (lw : Addr) (ws : List (Str × Tok)) (ew : Nat) (z : Nat) (tz : Tok) (Q E : Value → Shared → Prop)
  (B : Below A₀ base outer h₀) (F : Fr h₀ L s.heap m) (X : (Mine.K w.params).In h₀) (N : News h₀ L s.heap ((lw, W.listOf (strVals ws) ew) :: rest)) (T : Top p lo mean mg mb h₀) (hk : cs.kind = .function)
  (hw3 : ws.length ≤ 3) (hz1 : 2 ≤ z) (hz2 : z ≤ 4) (hwz : ∀ q ∈ ws, q.1.cps.size = z) (hso : ∀ p ∈ stepsOf (ws.map (·.1)) (z - 1), PyData.strOk p.1 = true ∧ PyData.strOk p.2 = true)
  (hret : ∀ G garr eG own gs ess h' tk' d', sortedS ess = true → ess.Nodup → (∀ x, x ∈ ess ↔ ∃ p ∈ stepsOf (ws.map (·.1)) (z - 1), x = p.1 ∨ x = p.2) → CRun (stepsOf (ws.map (·.1)) (z - 1)) ess gs → DatAll own garr.toList (gs.map fun l => Dat.list (l.map Dat.str)) → Fr h₀ L h' m →
   News h₀ L h' ((G, W.listOf garr eG) :: (own ++ (lw, W.listOf (strVals ws) ew) :: rest)) → Q (.ref G) { s with heap := h', toks := tk', drawn := d' }) :
  wpAny (model (rw_nq0317_01.prog) w) (ktrTop 340 400 gd cn cs L a ccd cl outer) (call (.ref 383) [.ref lw, .int (z : Int) tz]) Q E s := by
 k_with_none
 k_with "k_all" => first | assumption | (intro p9 hp9; (repeat (rename _ ∧ _ => hc9; obtain ⟨_, _⟩ := hc9)); have h9 := allLt_mem2 (by assumption) _ hp9; exact nlt (Nat.lt_of_lt_of_le h9 (by omega)))
 k_with "execs cons" => (k_here; first | k_made | ((fail_if_success (fail_if_success k_gentoks)); refine (let tk : Nat := _; (?_ : wpAny _ _ _ _ _ ⟨_, _, _, tk, _⟩))) | ((with_reducible refine wpAny_execs_cons ?_); (try dsimp only); refine (let qv : Flow → Shared → Prop := _; (?_ : wpAny _ _ _ qv _ _))))
 k_with "execs nil" => (k_here; (fail_if_success (fail_if_success k_gentoks)); refine (let tk : Nat := _; (?_ : wpAny _ _ _ _ _ ⟨_, _, _, tk, _⟩)))
 k_with "exec While" => refine stopped ?_
 k_with "WEnd" => refine stopped ?_
 k_with "call ref" => refine stopped ?_
 k_with "call builtin:sorted" => refine stopped ?_
 k_with "compareOp Eq ref ref" => refine stopped ?_
 k_with "compareOp In str ref" => refine stopped ?_
 k_with "compareOp NotIn str ref" => refine stopped ?_
 k_with "exec Assign cons ListComp" => refine stopped ?_
 k_with "compareOp In" => refine stopped ?_
 k_with "eval SetComp" => refine stopped ?_
 k_with "eval ListComp" => refine stopped ?_
 k_with "pyIter ref" => refine stopped ?_
 revert X
 k_fill
 intro X
 refine wpAny_call ?_
 k_dflt (refine' code_defC (binds := [(Str.ofString "words", .ref lw), (Str.ofString "size", .int z tz)]) ?k1 ?k2 ?k3 ?k4 ?k5 ?kA ?kF ?kK ?k6 ?k7 ?k8 ?k9 ?kB ?kD ?_ ?c2 ?c3 ?c4; (case kA => exact rfl); (case kF => exact rfl); (case kK => assumption); (case k1 => k_asm); (case k2 => k_asm); (case k3 => k_asm); (case k4 => k_asm); (case k5 => k_asm); (case k6 => k_is); (case k7 => k_is); (case k8 => ktr_room); (case k9 => exact BindsTo.of_eq rfl); (case kB => exact rfl); (case kD => decide +kernel); (case c2 => exact rfl); (case c3 => exact rfl); (case c4 => exact rfl); k_whole; intro g' L' h' tk' cells' FG' F' N' Y' B' X' T' l1; k_cells Y'; (try simp only [List.cons_append, List.nil_append] at N'); (try dsimp only); (try k_fold))
 rename_i oL oE oS dL dE dS
 have dS' : oS.data = Data.cell (some (.int (z : Int) tz)) := dS
 have dE' : oE.data = Data.cell none := dE
 have dL' : oL.data = Data.cell none := dL
 clear dS dE dL
 have F1 : Fr g' L' h' (fun y => if y = Str.ofString "words" then some (.ref lw) else none) := F'
 clear F'
 rename News g' L' _ _ => N1
 k_steps
 refine ⟨?_⟩
 refine cq_assign (h₀ := g') (L := L') (m := fun y => if y = Str.ofString "words" then some (.ref lw) else none) (by rfl) (by with_unfolding_all rfl) (by decide) (by rfl) (by decide) ?_
 k_steps
 refine ⟨?_⟩
 refine cgo_src (σ := CL) (.list _ _ _ _) (fun I D C => ct_list2) rfl rfl (src_list rfl (News.isList N1 mH3)) F1 N1 ?hLf
  (fun D c => (D, W.listOf c.its c.ep) :: (c.own ++ ((L' + 1 + 1 + 1, oL) :: (L' + 1 + 1, oE) :: (L' + 1, oS) :: (lw, W.listOf (strVals ws) ew) :: rest)))
  (fun D i c m₁ => DatAll c.own c.its.toList ((stepsOf ((ws.map (·.1)).take i) (z - 1)).map datP) ∧ ∀ p ∈ c.own, p.1 ≠ D ∧ L' + 1 + 1 + 1 < p.1) (fun D oD => ⟨#[], 0, []⟩) ?hLed ?hP ?turn ?done
 case hLf =>
  intro hm
  have h9 := l1 _ (.head _)
  rw [List.mem_singleton] at hm
  have h9' : lw < L' := h9
  rw [hm] at h9'
  exact Nat.lt_irrefl _ h9'
 case hLed => intro D oD ho; subst ho; rfl
 case hP => intro D oD ho; exact ⟨.nil, fun p hp => nomatch hp⟩
 case turn =>
  intro C D I i v c oC m₁ h tk own E' hDC hCI hDI hoff hi hv hP hnw hown hof hn F2 N2
  refine wpAny_tests_nil ?_
  rw [if_pos rfl]
  refine el2_2 (strVals_get hv) ?_; intro x tx e92 hx; subst e92
  refine gen_ (c.own ++ (rest ++ own)) ?_; intro tl htl
  have N3 : News g' L' h ((C, oC) :: (D, W.listOf c.its c.ep) :: (L' + 1 + 1 + 1, oL) :: (L' + 1 + 1, oE) :: (L' + 1, oS) :: (lw, W.listOf (strVals ws) ew) :: tl) := nsub N2 (sbc (.head _) (sbc mH1 (fun q hq => by
   have hq' : q ∈ [(L' + 1 + 1 + 1, oL), (L' + 1 + 1, oE), (L' + 1, oS), (lw, W.listOf (strVals ws) ew)] ++ (c.own ++ (rest ++ own)) := htl ▸ hq
   refine .tail _ (.tail _ ?_)
   refine ast hq' (fun hq => ?_) fun hq => ?_
   ·refine maL _ (maR _ ?_)
    exact maL (bs := rest) hq
   refine ast hq (fun hq => ?_) fun hq => ?_
   ·exact maL _ (maL _ hq)
   refine ast hq (fun hq => ?_) fun hq => ?_
   ·exact maL _ (maR _ (mT4 hq))
   exact maR _ hq)))
  clear N2 N1 F1 N F
  have hxw : x.length ≤ 64 ∧ x.cps.size = z := by
   refine el1_2 (mm1 (List.mem_of_getElem? hx)) ?_; intro q hq hqx
   have := hwz q hq
   rw [← show q.1 = x from hqx]
   refine ⟨?_, this⟩
   show q.1.cps.size ≤ 64
   lia
  refine inner_go (by intro _; rfl) ?_
  k_steps
  refine ⟨?_⟩
  rename IsRange _ _ _ _ _ _ _ _ => hR
  rename_i F4 N4 _
  refine gen_ ((L' + 1 + 1 + 1, oL) :: (L' + 1 + 1, oE) :: (L' + 1, oS) :: (lw, W.listOf (strVals ws) ew) :: (rest ++ own)) ?_; intro tlo htlo
  refine cin_src (σ := CL) (.list _ _ _ _) rfl rfl (fun I => ct_list2i) rfl rfl (src_range rfl hR (small_one (by lia) (by lia) (by lia) (by lia)) (rangeSize_nat _ _)) (fun hm => nomatch hm) (fun hm => nomatch hm)
   (fun c => (D, W.listOf c.its c.ep) :: (c.own ++ tlo))
   (fun j c m₁ => DatAll c.own c.its.toList ((stepsOf ((ws.map (·.1)).take i) (z - 1) ++ cutsOf x j).map datP) ∧ (∀ p ∈ c.own, p.1 ≠ D ∧ p.1 ≠ I ∧ L' + 1 + 1 + 1 < p.1) ∧ m₁ (Str.ofString "word") = some (.str x tx)) c F4 ?iN hn ?inw ?iP ?iturn ?idone
  case iN =>
   refine nsub N4 (sbc (.head _) (sbc mH1 (fun q hq => ?_)))
   refine .tail _ (.tail _ ?_)
   rw [htlo] at hq
   refine ast hq (fun hq => ?_) fun hq => ?_
   ·exact mT4 (htl ▸ maL _ hq)
   have hq' : q ∈ [(L' + 1 + 1 + 1, oL), (L' + 1 + 1, oE), (L' + 1, oS), (lw, W.listOf (strVals ws) ew)] ++ (rest ++ own) := hq
   refine ast hq' (fun hq => ?_) fun hq => ?_
   ·exact maL _ hq
   exact mT4 (htl ▸ maR _ hq)
  case inw =>
   intro q hq e
   have hq' : q ∈ ((D, W.listOf c.its c.ep) :: (c.own ++ ((L' + 1 + 1 + 1, oL) :: (L' + 1 + 1, oE) :: (L' + 1, oS) :: (lw, W.listOf (strVals ws) ew) :: rest))) ++ own := by
    rw [htlo] at hq
    simpa using hq
   refine ast hq' (fun hq => ?_) fun hq => ?_
   ·exact hnw q hq (e ▸ .head _)
   rcases hof q hq with e2 | e2
   ·refine el1_1 (hown) ?_; (try clear hown); intro o ho
    exact hCI (e2.symm.trans e)
   exact (hoff _ mH3).1 ((ms1 e2).symm.trans e)
  case iP =>
   refine ⟨?_, fun q hq => ⟨(hP.2 q hq).1, fun e => hnw q (.tail _ (maL _ hq)) (e ▸ mH1), (hP.2 q hq).2⟩, by rfl⟩
   rw [show cutsOf x 0 = [] from rfl, List.append_nil]
   exact hP.1
  case idone =>
   intro c2 oC2 m2 h2 tk2 hP2 F5 N5 hn2 hnw2
   show CEnd _ _ _ _ _ _ _ _ _ _ _
   have hjz : ((z : Int) - 1).toNat = z - 1 := by lia
   rw [hjz] at hP2
   refine c_end c2 F5 N5 (.head _) hn2 (fun q hq => ?_) (fun q hq => ?_) (fun q hq hm => ?_) ⟨?_, fun q hq => ⟨(hP2.2.1 q hq).1, (hP2.2.1 q hq).2.2⟩⟩
   ·refine mst hq ?_ fun hq => ?_
    ·exact mH1
    refine .tail _ (.tail _ ?_)
    refine ast hq (fun hq => ?_) fun hq => ?_
    ·exact maL _ hq
    refine maR _ ?_
    rw [htlo]
    exact maL (as := [(L' + 1 + 1 + 1, oL), (L' + 1 + 1, oE), (L' + 1, oS), (lw, W.listOf (strVals ws) ew)] ++ rest) own (by simpa using hq) |> fun h => by simpa using h
   ·refine mT2 (maR _ ?_)
    rw [htlo]
    exact mT4 (maR _ hq)
   ·rcases mc1 hm with e | hm
    ·refine hnw2 q ?_ e
     refine mst hq ?_ fun hq => ?_
     ·exact .head _
     refine .tail _ ?_
     refine ast hq (fun hq => ?_) fun hq => ?_
     ·exact maL _ hq
     refine maR _ ?_
     rw [htlo]
     have : q ∈ [(L' + 1 + 1 + 1, oL), (L' + 1 + 1, oE), (L' + 1, oS), (lw, W.listOf (strVals ws) ew)] ++ rest := hq
     refine ast this (fun hq => ?_) fun hq => ?_
     ·exact maL (bs := rest ++ own) hq
     exact mT4 (maL _ hq)
    have e := ms1 hm
    rcases mc1 hq with rfl | hq
    ·exact hDI e.symm
    refine ast hq (fun hq => ?_) fun hq => ?_
    ·exact (hP2.2.1 q hq).2.1 e
    exact (hoff q hq).2.2 e
   rw [stepsOf_take hx]
   exact hP2.1
  case iturn =>
   clear F4 N4 hR hn hnw
   intro I2 j v2 c2 oC2 m₂ h2 tk2 own2 E2 hI2C hIoff hj hv2 hP2 hnw2 hown2 hof2 hn2 F5 N5
   obtain ⟨_, tv2, rfl⟩ := hv2
   refine el0_3 (hP2) ?_; (try clear hP2); intro q1 q2 q3
   refine wpAny_tests_nil ?_
   rw [if_pos rfl]
   refine emitL_go ?_
   refine gen_ (α := Str → Option Value) (fun y => if y = Str.ofString "cut" then some (Value.int (1 + (j : Int) * 1) tv2) else m₂ y) ?_; intro m₃ hm₃
   have hcut : m₃ (Str.ofString "cut") = some (Value.int (1 + (j : Int) * 1) tv2) := by rw [hm₃]; rfl
   have hword : m₃ (Str.ofString "word") = some (Value.str x tx) := by rw [hm₃]; exact q3
   rw [← hm₃] at hn2
   refine gen_ (c2.own ++ (tlo ++ own2)) ?_; intro tl2 htl2
   have N6 : News g' L' h2 ((C, oC2) :: (D, W.listOf c2.its c2.ep) :: tl2) := nsub N5 (sbc (.head _) (sbc mH1 (fun q hq => by
    refine .tail _ (.tail _ ?_)
    rw [htl2, ← List.append_assoc] at hq
    exact hq)))
   clear N5
   have hj2 : (j : Int) < (z : Int) - 1 := by lia
   k_steps
   rename News _ _ _ _ => N7
   rename Fr _ _ _ _ => F7
   rename_i h71 t71 k71 b71 h72 t72 k72 b72 T _ l7
   refine el0_3 (l7) ?_; (try clear l7); intro y1 y2 y3
   have hits : c2.its.size ≤ 100000 := by
    have e1 := q1.length
    rw [List.length_map, List.length_append, stepsOf_len, cutsOf_len, List.length_take] at e1
    have e2 : c2.its.toList.length = c2.its.size := Array.length_toList
    have e3 : (min i (ws.map (·.1)).length) * (z - 1) ≤ 3 * 3 := Nat.mul_le_mul (by simp; lia) (by lia)
    lia
   refine append_S F7 N7 mH2 (size_le hits) fun h8 F8 N8 => ?_
   show CEnd _ _ _ _ _ _ _ _ _ _ _
   have hT2 : ∀ q ∈ tl2, q.1 ≠ T := fun q hq => nlt (allLt_mem y3 q hq)
   have hTo : ∀ q ∈ c2.own ++ (tlo ++ own2), q.1 ≠ T := fun q hq => hT2 q (htl2 ▸ hq)
   have hD2 : ∀ q ∈ c2.own ++ (tlo ++ own2), q.1 ≠ D := by
    intro q hq
    refine ast hq (fun hq => ?_) fun hq => ?_
    ·exact (q2 q hq).1
    refine ast hq (fun hq => ?_) fun hq => ?_
    ·rw [htlo] at hq
     have hq' : q ∈ ((L' + 1 + 1 + 1, oL) :: (L' + 1 + 1, oE) :: (L' + 1, oS) :: (lw, W.listOf (strVals ws) ew) :: rest) ++ own := hq
     refine ast hq' (fun hq => ?_) fun hq => ?_
     ·exact (hoff q hq).2.1
     rcases hof q hq with e | e
     ·rw [e]; exact hDI
     rw [ms1 e]; exact (hoff _ mH3).2.1
    rcases hof2 q hq with e | e
    ·rw [e]; exact (hIoff _ (.head _)).symm
    cases e
   have hIown : ∀ q ∈ own, q.1 ≠ T := fun q hq => hTo q (maR _ (maL _ (by rw [htlo]; exact mT4 (maR _ hq))))
   refine c_end ⟨c2.its.push (.ref T), c2.ep + 1, (T, ({ cls := .type "tuple", data := .seq #[.str (Txt.slice x none (some (1 + (j : Int) * 1))) t71, .str (Txt.slice x (some (1 + (j : Int) * 1)) none) t72] } : Obj)) :: c2.own⟩ F8 N8 (oC := oC2) (m' := m₃) ?e1 hn2 (fun q hq => ?e2) (fun q hq => ?e3) (fun q hq hm => ?e4) ⟨?e5, ?e6, hword⟩
   case e1 => exact msN mH1 hDC.symm
   case e2 =>
    refine mst hq ?_ fun hq => ?_
    ·exact mem_setAt_self mH2
    refine mst hq ?_ fun hq => ?_
    ·exact msN (.head _) (ngt y2)
    have hq' : q ∈ c2.own ++ (tlo ++ own2) := by
     rw [← List.append_assoc]
     exact maL _ hq
    exact msN (mT3 (htl2 ▸ hq')) (hD2 q hq')
   case e3 =>
    have hq' : q ∈ c2.own ++ (tlo ++ own2) := maR _ (maR _ hq)
    exact msN (mT3 (htl2 ▸ hq')) (hD2 q hq')
   case e4 =>
    rcases mc1 hq with rfl | hq
    ·exact hnw2 _ (.head _) hm
    first | refine mst hq ?_ fun hq => ?_ | rcases mc1 hq with rfl | hq
    ·rcases mc1 hm with e | hm
     ·exact absurd e (ngt y1)
     refine el1_1 (hown2) ?_; (try clear hown2); intro o ho
     exact hTo _ (maR _ (maR _ ho)) (ms1 hm).symm
    exact hnw2 q (.tail _ hq) hm
   case e5 =>
    rw [Array.toList_push, cutsOf_succ, ← List.append_assoc, List.map_append]
    exact (q1.mono fun q hq => .tail _ hq).append (.one (.tuple (vs := [.str _ t71, .str _ t72]) (n := 0) (.head _) (.cons (.str _ _) (.cons (.str _ _) .nil))))
   intro q hq
   refine asp hq ?_ fun hq => ?_
   ·refine el1_1 (hown) ?_; (try clear hown); intro o ho
    refine ⟨ngt y2, fun e => hIown _ ho e.symm, allLt_mem y3 (L' + 1 + 1 + 1, oL) ?_⟩
    rw [htl2, htlo]
    exact maR _ (.head _)
   exact q2 q hq
 case done =>
  intro C D c oC m' h2 tk2 hDC hoff hP F2 N2 hn2 hnw2
  show compPost _ _ _ _ _ _ _ _ _
  refine post_assign (L := L') rfl rfl rfl F2 N2 hn2 hnw2 fun h3 tk3 F3 N3 => ?_
  clear F2 N2 F1 N1
  refine gen_ (stepsOf (ws.map (·.1)) (z - 1)) ?_; intro es hes
  have hda : DatAll c.own c.its.toList (es.map datP) := by
   have h9 := hP.1
   rw [List.take_of_length_le (by unfold strVals; simp), ← hes] at h9
   exact h9
  have hel : es.length ≤ 9 := by
   rw [hes, stepsOf_len]
   rw [List.length_map]
   exact Nat.mul_le_mul (show ws.length ≤ 3 from hw3) (show z - 1 ≤ 3 by lia)
  have hil : c.its.size = es.length := by
   have := hda.length
   simpa using this
  have hownD : ∀ p ∈ c.own, p.1 ≠ D ∧ L' + 1 + 1 + 1 < p.1 := hP.2
  have hDcell : ∀ q ∈ (L' + 1 + 1 + 1, oL) :: (L' + 1 + 1, oE) :: (L' + 1, oS) :: (lw, W.listOf (strVals ws) ew) :: rest, q.1 ≠ D := fun q hq => (hoff q hq).2
  obtain ⟨its, ep, sow⟩ := c
  dsimp only at hda hil hownD N3
  refine gen_ (D) ?_; intro lS hlS
  subst hlS
  refine gen_ (sow ++ ((lw, W.listOf (strVals ws) ew) :: rest)) ?_; intro tl htl
  have N4 : News g' L' h3 ((L' + 1 + 1 + 1, oL) :: (L' + 1 + 1, oE) :: (L' + 1, oS) :: (lS, W.listOf its ep) :: tl) := nsub N3 (sbc (.tail _ (maR _ (.head _))) (sbc (.tail _ (maR _ mH1)) (sbc (.tail _ (maR _ mH2)) (sbc (.head _) (fun q hq => by
   rw [htl] at hq
   refine ast hq (fun hq => ?_) fun hq => ?_
   ·exact .tail _ (maL _ hq)
   exact .tail _ (maR _ (mT3 hq)))))))
  have hsow : ∀ q ∈ sow, q ∈ tl := fun q hq => htl ▸ maL _ hq
  clear N3 hnw2 hn2 hP hDC hoff
  have hS3 : lS ≠ L' + 1 + 1 + 1 := (hDcell _ (.head _)).symm
  have hS2 : lS ≠ L' + 1 + 1 := (hDcell _ mH1).symm
  have hS1 : lS ≠ L' + 1 := (hDcell _ mH2).symm
  have htlc : ∀ q ∈ tl, q.1 ≠ L' + 1 + 1 + 1 ∧ q.1 ≠ L' + 1 + 1 ∧ q.1 ≠ L' + 1 ∧ q.1 ≠ lS := by
   intro q hq
   rw [htl] at hq
   refine ast hq (fun hq => ?_) fun hq => ?_
   ·refine el0_2 (hownD q hq) ?_; intro e1 e2
    exact ⟨ngt e2, ngt (Nat.lt_of_succ_lt e2), ngt (Nat.lt_of_succ_lt (Nat.lt_of_succ_lt e2)), e1⟩
   have h9 : q.1 < L' := l1 q hq
   exact ⟨nlt (nls (nls (nls h9))), nlt (nls (nls h9)), nlt (nls h9), hDcell q (mT3 hq)⟩
  have htl1 : ∀ q ∈ tl, q.1 ≠ L' + 1 + 1 + 1 := fun q hq => (htlc q hq).1
  have htl2 : ∀ q ∈ tl, q.1 ≠ L' + 1 + 1 := fun q hq => (htlc q hq).2.1
  have htl3 : ∀ q ∈ tl, q.1 ≠ L' + 1 := fun q hq => (htlc q hq).2.2.1
  dsimp only
  k_steps
  refine ⟨?_⟩
  refine cq_set (h₀ := g') (L := L') (m := fun z => if z = Str.ofString "steps" then some (.ref lS) else if z = Str.ofString "words" then some (.ref lw) else none) (by with_unfolding_all rfl) (by decide) (by rfl) (by decide) ?_
  k_steps
  refine ⟨?_⟩
  rename Fr _ _ _ _ => F5
  rename News _ _ _ _ => N5
  have hLS : L' ≠ lS := fun e => (N5 _ mH3).2.1 e.symm
  refine gen_ ((L' + 1 + 1 + 1, oL) :: (L' + 1 + 1, oE) :: (L' + 1, oS) :: (lS, W.listOf its ep) :: tl) ?_; intro nw hnw
  refine cgo_src (σ := CS) (.set _ _ _ _) (fun I D C => ct_set2) rfl rfl (src_list rfl (News.isList N5 mH3)) F5 (hnw ▸ N5) (fun hm => hLS (ms1 hm))
   (fun D c => (D, c.o) :: nw) (fun D i c m₁ => SetS rw_nq0317_01.prog w c.o c.ks ∧ (∀ x, x ∈ c.ks ↔ ∃ p ∈ es.take i, x = p.1 ∨ x = p.2) ∧ c.ks.length ≤ 2 * i) (fun D oD => ⟨oD, []⟩) (fun D oD _ => rfl) (fun D oD ho => ⟨ho, fun x => by simp, Nat.le_refl _⟩) ?turn2 ?done2
  case turn2 =>
   intro C2 D2 I i v c oC m₁ h tk own E' hDC hCI hDI hoff hi hv hP hnw2 hown hof hn F2 N2
   refine el6_3 (datP_get (vs := its.toList) hda (by simpa using hv)) ?_; intro xa xb ta tb t nt hei e97 hmt; subst e97
   refine wpAny_tests_nil ?_
   rw [if_pos rfl]
   refine inner_go (by intro _; rfl) ?_
   refine gen_ (α := Str → Option Value) (fun y => if y = Str.ofString "step" then some (Value.ref t) else m₁ y) ?_; intro m₃ hm₃
   have hstep : m₃ (Str.ofString "step") = some (Value.ref t) := by rw [hm₃]; rfl
   rw [← hm₃] at hn
   refine gen_ (nw ++ own) ?_; intro tlx htlx
   have N6 : News g' L' h ((C2, oC) :: (D2, c.o) :: tlx) := htlx ▸ N2
   clear N2
   k_steps
   refine ⟨?_⟩
   rename Fr _ _ _ _ => F7
   rename News _ _ _ _ => N7
   have hmt2 : (t, ({ cls := .type "tuple", data := .seq #[.str xa ta, .str xb tb] nt } : Obj)) ∈ tlx := by
    rw [htlx, hnw]
    exact maL _ (mT4 (hsow _ hmt))
   refine cin_src (σ := CS) (.set _ _ _ _) rfl rfl (fun I => ct_set2i) rfl rfl (src_tuple (items := #[.str xa ta, .str xb tb]) rfl ⟨_, (N7 _ (mT2 hmt2)).1, rfl, _, rfl⟩) (fun hm => ?hx1) (fun hm => ?hx2)
    (fun c => (D2, c.o) :: tlx)
    (fun j c m₁ => SetS rw_nq0317_01.prog w c.o c.ks ∧ (∀ x, x ∈ c.ks ↔ (∃ p ∈ es.take i, x = p.1 ∨ x = p.2) ∨ x ∈ [xa, xb].take j) ∧ c.ks.length ≤ 2 * i + j) c F7 N7 hn ?inw ?iP ?iturn ?idone
   case hx1 =>
    rw [List.mem_singleton] at hm
    exact (N7 _ (mT2 hmt2)).2.1 hm.symm
   case hx2 =>
    rw [List.mem_singleton] at hm
    have hmt3 : (t, ({ cls := .type "tuple", data := .seq #[.str xa ta, .str xb tb] nt } : Obj)) ∈ nw := by
     rw [hnw]
     exact mT4 (hsow _ hmt)
    exact (hoff _ hmt3).1 hm.symm
   case inw =>
    intro q hq e
    rcases mc1 hq with rfl | hq
    ·exact hDC e
    rw [htlx] at hq
    refine ast hq (fun hq => ?_) fun hq => ?_
    ·exact (hoff q hq).1 e
    rcases hof q hq with e2 | e2
    ·exact hCI (e2.symm.trans e)
    rw [ms1 e2] at e
    exact (hoff (lS, W.listOf its ep) (by rw [hnw]; exact mH3)).1 e
   case iP => exact ⟨hP.1, fun x => by rw [hP.2.1 x]; simp, hP.2.2⟩
   case iturn =>
    clear F7 N7 hn
    intro I2 j v2 c2 oC2 m₂ h2 tk2 own2 E2 hI2C hIoff hj hv2 hP2 hnw3 hown2 hof2 hn2 F5' N5'
    refine el0_3 (hP2) ?_; (try clear hP2); intro q1 q2 q3
    refine (let G9 : Prop := _; (?_ : G9))
    obtain ⟨y, ty, rfl, hy⟩ : ∃ y ty, v2 = .str y ty ∧ [xa, xb][j]? = some y := by
     have hj2 : j < 2 := hj
     match j, hj2, hv2 with
     | 0, _, hv2 => exact ⟨xa, ta, by simpa using hv2.symm, rfl⟩
     | 1, _, hv2 => exact ⟨xb, tb, by simpa using hv2.symm, rfl⟩
    refine (?_ : wpAny _ _ _ _ _ _)
    refine wpAny_tests_nil ?_
    rw [if_pos rfl]
    refine emitS_go ?_
    refine gen_ (α := Str → Option Value) (fun z => if z = Str.ofString "part" then some (Value.str y ty) else m₂ z) ?_; intro m₄ hm₄
    have hpart : m₄ (Str.ofString "part") = some (Value.str y ty) := by rw [hm₄]; rfl
    rw [← hm₄] at hn2
    refine gen_ (tlx ++ own2) ?_; intro tl2 htl2
    have N8 : News g' L' h2 ((C2, oC2) :: (D2, c2.o) :: tl2) := htl2 ▸ N5'
    clear N5'
    k_steps
    rename Fr _ _ _ _ => F9
    rename News _ _ _ _ => N9
    refine setAdd_N F9 N9 mH1 q1 (by have := (List.getElem?_eq_some_iff.mp hei).1; have : j < 2 := hj; lia) fun h10 o10 ks10 F10 N10 hS10 hk10 hl10 => ?_
    show CEnd _ _ _ _ _ _ _ _ _ _ _
    have hD2t : ∀ q ∈ tl2, q.1 ≠ D2 := by
     intro q hq
     rw [htl2] at hq
     refine ast hq (fun hq => ?_) fun hq => ?_
     ·rw [htlx] at hq
      refine ast hq (fun hq => ?_) fun hq => ?_
      ·exact (hoff q hq).2.1
      rcases hof q hq with e2 | e2
      ·rw [e2]; exact hDI
      rw [ms1 e2]
      exact (hoff (lS, W.listOf its ep) (by rw [hnw]; exact mH3)).2.1
     rcases hof2 q hq with e2 | e2
     ·rw [e2]; exact (hIoff _ (.head _)).symm
     rw [ms1 e2]
     have hmt3 : (t, ({ cls := .type "tuple", data := .seq #[.str xa ta, .str xb tb] nt } : Obj)) ∈ nw := by
      rw [hnw]
      exact mT4 (hsow _ hmt)
     exact (hoff _ hmt3).2.1
    refine c_end (⟨o10, ks10⟩ : CS) F10 N10 (oC := oC2) (m' := m₄) (msN (.head _) hDC.symm) hn2 (fun q hq => ?_) (fun q hq => ?_) (fun q hq hm => ?_) ⟨hS10, fun x => ?_, by show ks10.length ≤ _; lia⟩
    ·refine mst hq ?_ fun hq => ?_
     ·exact mem_setAt_self mH1
     have hq' : q ∈ tl2 := htl2 ▸ maL _ hq
     exact msN (mT2 hq') (hD2t q hq')
    ·have hq' : q ∈ tl2 := htl2 ▸ maR _ hq
     exact msN (mT2 hq') (hD2t q hq')
    ·rcases mc1 hq with rfl | hq
     ·exact hnw3 _ (.head _) hm
     exact hnw3 q (.tail _ hq) hm
    rw [hk10 x, q2 x, List.take_add_one, hy]
    simp only [Option.toList_some, List.mem_append, List.mem_singleton]
    constructor
    ·rintro ((h | h) | h)
     ·exact .inl h
     ·exact .inr (.inl h)
     exact .inr (.inr h)
    rintro (h | h | h)
    ·exact .inl (.inl h)
    ·exact .inl (.inr h)
    exact .inr h
   case idone =>
    intro c2 oC2 m2 h2 tk2 hP2 F5' N5' hn2 hnw3
    show CEnd _ _ _ _ _ _ _ _ _ _ _
    refine el0_3 (hP2) ?_; (try clear hP2); intro q1 q2 q3
    refine c_end c2 F5' N5' (.head _) hn2 (fun q hq => ?_) (fun q hq => ?_) (fun q hq hm => ?_) ⟨q1, fun x => ?_, by have : c2.ks.length ≤ 2 * i + 2 := q3; lia⟩
    ·refine mst hq ?_ fun hq => ?_
     ·exact mH1
     exact mT2 (htlx ▸ maL _ hq)
    ·exact mT2 (htlx ▸ maR _ hq)
    ·rcases mc1 hq with rfl | hq
     ·exact hnw2 _ (.head _) hm
     exact hnw2 q (.tail _ hq) hm
    rw [q2 x, List.take_add_one, hei]
    rw [show ([xa, xb] : List Str).take (#[Value.str xa ta, Value.str xb tb] : Array Value).size = [xa, xb] from rfl]
    simp only [Option.toList_some, List.mem_append, List.mem_singleton, List.mem_cons, List.not_mem_nil, or_false]
    constructor
    ·rintro (⟨p, hp, h⟩ | h | h)
     ·exact ⟨p, .inl hp, h⟩
     ·exact ⟨_, .inr rfl, .inl h⟩
     exact ⟨_, .inr rfl, .inr h⟩
    rintro ⟨p, hp | rfl, h⟩
    ·exact .inl ⟨p, hp, h⟩
    exact .inr h
  case done2 =>
   intro C2 D2 c oC m' h2 tk2 hDC hoff hP F2 N2 hn2 hnw2
   show compPost _ _ _ _ _ _ _ _ _
   refine post_none F2 N2 hn2 hnw2 fun h3 F3 N3 => ?_
   clear F2 N2 F5 N5
   refine el0_3 (hP) ?_; (try clear hP); intro q1 q2 q3
   obtain ⟨oS2, ks⟩ := c
   dsimp only at q1 q2 q3 N3
   rw [hnw] at N3
   k_steps
   refine ⟨?_⟩
   rename Fr _ _ _ _ => F6
   rename News _ _ _ _ => N6
   refine sorted_set_S rfl F6 N6 (.head _) q1 (by lia) fun lE h7 tk7 d7 evs ess eep F7 N7 hl7 hv7 hp7 hs7 => ?_
   clear F6 N6
   have hE0 : ∀ x, x ∈ ess ↔ ∃ p ∈ es, x = p.1 ∨ x = p.2 := fun x => by
    rw [hp7.mem_iff, q2 x, List.take_of_length_le (by lia)]
   have hEn : ess.Nodup := hp7.nodup_iff.mpr q1.2.1
   have N8 : News g' L' h7 ((lE, W.listOf evs eep) :: (L' + 1 + 1 + 1, oL) :: (L' + 1 + 1, oE) :: (L' + 1, oS) :: (lS, W.listOf its ep) :: tl) := nsub N7 (sbc (.head _) (fun q hq => mT2 hq))
   have htl8 : AllLt lE tl := allLt_of fun q hq => hl7 q (mT5 hq)
   have hlc1 : L' + 1 + 1 + 1 < lE := hl7 _ mH1
   have hlc2 : L' + 1 + 1 < lE := hl7 _ mH2
   have hlc3 : L' + 1 < lE := hl7 _ mH3
   have hlc4 : lS < lE := hl7 _ mH4
   clear N7
   k_steps
   refine cell_set (c := L' + 1 + 1) F7 N8 mH2 dE' rfl fun h9 oE2 F9 N9 hE9 => ?_
   have N10 : News g' L' h9 ((lE, W.listOf evs eep) :: (L' + 1 + 1 + 1, oL) :: (L' + 1 + 1, oE2) :: (L' + 1, oS) :: (lS, W.listOf its ep) :: tl) := nsub N9 (sbc (msN (.head _) (ngt hlc2)) (sbc (msN mH1 (Nat.succ_ne_self _)) (sbc (mem_setAt_self mH2) (sbc (msN mH3 (nlt (Nat.lt_succ_self _))) (sbc (msN mH4 hS2) (fun q hq => msN (mT5 hq) (htl2 q hq)))))))
   clear F7 N8 N9
   k_steps
   refine ⟨?_⟩
   rename Fr _ _ _ _ => F11
   rename News _ _ _ _ => N11
   rename_i G _ lG _
   refine el0_6 (lG) ?_; (try clear lG); intro g1 g2 g3 g4 g5 g6
   have htlG : ∀ q ∈ tl, q.1 ≠ G := fun q hq => nlt (allLt_mem g6 q hq)
   have hso2 : ∀ p ∈ es, PyData.strOk p.1 = true ∧ PyData.strOk p.2 = true := hes ▸ hso
   refine gen_ (ess) ?_; intro ess0 hess0
   have hs0 : sortedS ess0 = true := hess0 ▸ hs7
   have hn0 : ess0.Nodup := hess0 ▸ hEn
   have hm0 : ∀ x, x ∈ ess0 ↔ ∃ p ∈ es, x = p.1 ∨ x = p.2 := hess0 ▸ hE0
   refine gen_ (α := Str → Option Value) (fun y => if y = Str.ofString "groups" then some (Value.ref G) else if y = Str.ofString "steps" then some (Value.ref lS) else if y = Str.ofString "words" then some (Value.ref lw) else none) ?_; intro Mw hMw
   refine (let J : Nat → Shared → Prop := LcJ s g' L' G lS oS Mw its ep tl es ess0; ?_)
   refine while_w J ess.length ?j0 ?turn (by passes_own)
   case j0 =>
    refine ⟨lE, evs, ess, eep, oL, oE2, none, [], #[], 0, [], _, _, d7, rfl, hMw ▸ F11, N11, hE9, dL', ⟨hv7, hs7, hEn, fun x hx => (hE0 x).mp hx, fun f b hfb _ => (hE0 b).mpr ⟨_, hfb, .inr rfl⟩⟩, fun gs hg => by rw [hess0]; exact hg, .nil, rfl, ?_, ?_⟩
    ·have : ess.length = ks.length := hp7.length_eq
     simp
     lia
    intro q hq
    refine asp hq ?_ fun hq => ?_
    ·exact ⟨nlt g1, ⟨ngt hlc1, ngt hlc2⟩, ngt hlc4⟩
    cases hq
   case turn =>
    clear F11 N11 hv7 hs7 hl7 htl8 hlc1 hlc2 hlc3 hlc4 g1 hE9 hp7 q1 q2 q3 hnw2 hoff
    intro n s₁ hj
    obtain ⟨lE, evs, ess, eep, oL, oE, vL, own, garr, eG, gsd, h, tk, d, rfl, F12, N12, hoE, hoL, ⟨hv, hs, hn, hin, hclo⟩, hrun, hdg, hnl, hlen, hsep⟩ := hj
    rw [hMw] at F12
    refine gen_ (own ++ tl) ?_; intro tlw htlw
    rw [← htlw] at N12
    k_steps
    refine ⟨?_⟩
    refine cq_set (h₀ := g') (L := L') (m := fun y => if y = Str.ofString "groups" then some (Value.ref G) else if y = Str.ofString "steps" then some (Value.ref lS) else if y = Str.ofString "words" then some (Value.ref lw) else none) (by with_unfolding_all rfl) (by decide) (by rfl) (by decide) ?_
    k_steps
    refine ⟨?_⟩
    rename Fr _ _ _ _ => F13
    rename News _ _ _ _ => N13
    refine gen_ ((G, W.listOf garr eG) :: (lE, W.listOf evs eep) :: (L' + 1 + 1 + 1, oL) :: (L' + 1 + 1, oE) :: (L' + 1, oS) :: (lS, W.listOf its ep) :: tlw) ?_; intro nw2 hnw2
    have hsub : ∀ q ∈ sow, q ∈ nw2 := fun q hq => by
     rw [hnw2, htlw]
     exact mT6 (maR _ (hsow q hq))
    have heso : ∀ x ∈ ess, PyData.strOk x = true := fun x hx => by
     refine el1_2 (hin x hx) ?_; intro p hp e
     rcases e with rfl | rfl
     ·exact (hso2 p hp).1
     exact (hso2 p hp).2
    refine cgo_pair (σ := CS) (P2 := fun i v1 v2 => ∃ a b ta tb, es[i]? = some (a, b) ∧ v1 = .str a ta ∧ v2 = .str b tb) rfl (.set _ _ _ _) (fun I D C => ct_set1) rfl rfl rfl (News.isList N13 mH5) F13 (hnw2 ▸ N13) hLS
     (fun D c => (D, c.o) :: nw2) (fun D i c m₁ => SetS rw_nq0317_01.prog w c.o c.ks ∧ (∀ x, x ∈ c.ks ↔ ∃ f, (f, x) ∈ es.take i ∧ f ∈ ess) ∧ c.ks.length ≤ i) (fun D oD => ⟨oD, []⟩) (fun D oD _ => rfl) (fun D oD ho => ⟨ho, fun x => by simp, Nat.le_refl _⟩) ?hpair ?turn3 ?done3
    case hpair =>
     intro D i v c m₁ hv hP
     refine el6_3 (datP_get (vs := its.toList) hda (by simpa using hv)) ?_; intro xa xb ta tb t nt hei e97 hmt; subst e97
     exact ⟨t, _, _, _, nt, rfl, .tail _ (hsub _ hmt), rfl, rfl, _, _, _, _, hei, rfl, rfl⟩
    case turn3 =>
     intro C2 D2 I i v1 v2 c oC m₁ h t own2 E' hDC hCI hDI hoff hi hP2 hP hnw3 hown hof hn F2 N2
     refine (let Qt1 := _; (?_ : wpAny _ _ _ Qt1 _ _))
     refine (let mt1 : Str → Option Value := _; have F9 : Fr _ _ _ mt1 := F2; ?_)
     clear F2
     have F2 := F9
     clear F9
     refine el4_3 (hP2) ?_; (try clear hP2); intro xa xb ta tb hei e95 e96; subst e95; subst e96
     refine gen_ (α := Str → Option Value) (fun y => if y = Str.ofString "back" then some (Value.str xb tb) else if y = Str.ofString "front" then some (Value.str xa ta) else m₁ y) ?_; intro m₃ hm₃
     have hback : m₃ (Str.ofString "back") = some (Value.str xb tb) := by rw [hm₃]; rfl
     have hfront : m₃ (Str.ofString "front") = some (Value.str xa ta) := by rw [hm₃]; rfl
     rw [← hm₃] at hn
     refine gen_ ((L' + 1 + 1 + 1, oL) :: (L' + 1, oS) :: (lS, W.listOf its ep) :: (G, W.listOf garr eG) :: (tlw ++ own2)) ?_; intro tlx htlx
     have hmx : ∀ q, q ∈ nw2 ++ own2 ↔ q = (lE, W.listOf evs eep) ∨ q = (L' + 1 + 1, oE) ∨ q ∈ tlx := by
      rw [hnw2, htlx]
      exact iff_subs (sbc (memI 5 rfl) (sbc (memI 0 rfl) (sbc (memI 2 rfl) (sbc (memI 1 rfl) (sbc (memI 3 rfl) (sbc (memI 4 rfl) fun q hq => mT6 hq))))))
       (sbc (memI 1 rfl) (sbc (memI 3 rfl) (sbc (memI 2 rfl) (sbc (memI 4 rfl) (sbc (memI 5 rfl) (sbc (memI 0 rfl) fun q hq => mT6 hq))))))
     have N6 : News g' L' h ((C2, oC) :: (D2, c.o) :: (lE, W.listOf evs eep) :: (L' + 1 + 1, oE) :: tlx) := nsub N2 (sbc (.head _) (sbc mH1 (fun q hq => by
      refine mT2 ((hmx q).mpr ?_)
      refine asp hq ?_ fun hq => ?_
      ·exact .inl rfl
      refine asp hq ?_ fun hq => ?_
      ·exact .inr (.inl rfl)
      exact .inr (.inr hq))))
     have hD2 : ∀ q ∈ nw2 ++ own2, q.1 ≠ D2 := by
      intro q hq
      refine ast hq (fun hq => ?_) fun hq => ?_
      ·exact (hoff q hq).2.1
      rcases hof q hq with e2 | e2
      ·rw [e2]; exact hDI
      rw [e2]
      exact (hoff (lS, W.listOf its ep) (by rw [hnw2]; exact mH5)).2.1
     clear N2 N13 F13
     refine wpAny_tests_one ?_
     k_steps
     refine ⟨?_⟩
     rename Fr _ _ _ _ => F7
     rename News _ _ _ _ => N7
     have hxo : PyData.strOk xa = true := (hso2 _ (List.mem_of_getElem? hei)).1
     refine in_strs_S (ss := ess) N7 mH2 hv heso hxo (by ke_room) ?_
     by_cases hf : xa ∈ ess
     ·rw [decide_eq_true hf]
      k_steps
      refine emitS_go ?_
      k_steps
      refine setAdd_N F7 N7 mH1 hP.1 (by have := hP.2.2; have := (List.getElem?_eq_some_iff.mp hei).1; lia) fun h10 o10 ks10 F10 N10 hS10 hk10 hl10 => ?_
      show CEnd _ _ _ _ _ _ _ _ _ _ _
      refine c_end (⟨o10, ks10⟩ : CS) F10 N10 (oC := oC) (m' := m₃) (msN (.head _) hDC.symm) hn (fun q hq => ?_) (fun q hq => ?_) (fun q hq hm => ?_) ⟨hS10, fun x => ?_, by show ks10.length ≤ _; have := hP.2.2; lia⟩
      ·refine mst hq ?_ fun hq => ?_
       ·exact mem_setAt_self mH1
       have hq' : q ∈ nw2 ++ own2 := maL _ hq
       refine msN (.tail _ (.tail _ ?_)) (hD2 q hq')
       refine or3 ((hmx q).mp hq') ?_ ?_ fun h => ?_
       ·exact .head _
       ·exact mH1
       exact mT2 h
      ·have hq' : q ∈ nw2 ++ own2 := maR _ hq
       refine msN (.tail _ (.tail _ ?_)) (hD2 q hq')
       refine or3 ((hmx q).mp hq') ?_ ?_ fun h => ?_
       ·exact .head _
       ·exact mH1
       exact mT2 h
      ·rcases mc1 hq with rfl | hq
       ·exact hnw3 _ (.head _) hm
       exact hnw3 q (.tail _ hq) hm
      rw [hk10 x, hP.2.1 x, List.take_add_one, hei]
      simp only [Option.toList_some, List.mem_append, List.mem_singleton]
      constructor
      ·rintro (⟨f, h1, h2⟩ | rfl)
       ·exact ⟨f, .inl h1, h2⟩
       exact ⟨xa, .inr rfl, hf⟩
      rintro ⟨f, h1 | h1, h2⟩
      ·exact .inl ⟨f, h1, h2⟩
      exact .inr (Prod.mk.inj h1).2
     rw [decide_eq_false hf]
     k_steps
     show CEnd _ _ _ _ _ _ _ _ _ _ _
     refine c_end c F7 N7 (oC := oC) (m' := m₃) (.head _) hn (fun q hq => ?_) (fun q hq => ?_) hnw3 ⟨hP.1, fun x => ?_, Nat.le_succ_of_le hP.2.2⟩
     ·refine mst hq ?_ fun hq => ?_
      ·exact mH1
      have hq' : q ∈ nw2 ++ own2 := maL _ hq
      refine or3 ((hmx q).mp hq') ?_ ?_ fun h => ?_
      ·exact mH2
      ·exact mH3
      exact mT4 h
     ·have hq' : q ∈ nw2 ++ own2 := maR _ hq
      refine or3 ((hmx q).mp hq') ?_ ?_ fun h => ?_
      ·exact mH2
      ·exact mH3
      exact mT4 h
     rw [hP.2.1 x, List.take_add_one, hei]
     simp only [Option.toList_some, List.mem_append, List.mem_singleton]
     constructor
     ·rintro ⟨f, h1, h2⟩
      exact ⟨f, .inl h1, h2⟩
     rintro ⟨f, h1 | h1, h2⟩
     ·exact ⟨f, h1, h2⟩
     exact absurd ((Prod.mk.inj h1).1 ▸ h2) hf
    intro C2 D2 c oC m' h2 tk2 hDC hoff hP F2 N2 hn2 hnw3
    show compPost _ _ _ _ _ _ _ _ _
    refine post_none (L := L') F2 N2 hn2 hnw3 fun h3 F3 N3 => ?_
    clear F2 N2 N13 F13
    refine el0_3 (hP) ?_; (try clear hP); intro q1 q2 q3
    obtain ⟨oS2, ks⟩ := c
    dsimp only at q1 q2 q3 N3
    rw [hnw2] at N3
    k_steps
    refine ⟨?_⟩
    rename Fr _ _ _ _ => F6
    rename News _ _ _ _ => N6
    refine sorted_set_S rfl F6 N6 (.head _) q1 (by lia) fun lM h7 tk7 d7 mvs mss mep F7 N7 hl7 hv7 hp7 hs7 => ?_
    clear F6 N6
    have hMi : ∀ x, x ∈ mss ↔ ∃ f, (f, x) ∈ es ∧ f ∈ ess := fun x => by
     rw [hp7.mem_iff, q2 x, List.take_of_length_le (by lia)]
    have hMn : mss.Nodup := hp7.nodup_iff.mpr q1.2.1
    have hMl : ∀ q ∈ nw2, q.1 < lM := fun q hq => hl7 q (.tail _ (hnw2 ▸ hq))
    have htw : ∀ q ∈ tlw, q.1 ≠ L' + 1 + 1 + 1 ∧ q.1 ≠ L' + 1 + 1 ∧ q.1 ≠ G := by
     intro q hq
     rw [htlw] at hq
     refine ast hq (fun hq => ?_) fun hq => ?_
     ·refine el0_3 (hsep q (.tail _ hq)) ?_; intro e1 e2 e3
      exact ⟨e2.1, e2.2, e1⟩
     exact ⟨htl1 q hq, htl2 q hq, htlG q hq⟩
    have hM1 : L' + 1 + 1 + 1 < lM := hMl (L' + 1 + 1 + 1, oL) (by rw [hnw2]; exact mH2)
    have hM2 : lS < lM := hMl (lS, W.listOf its ep) (by rw [hnw2]; exact mH5)
    have hMG : G < lM := hMl (G, W.listOf garr eG) (by rw [hnw2]; exact .head _)
    have hME : lE < lM := hMl (lE, W.listOf evs eep) (by rw [hnw2]; exact mH1)
    have hMt : ∀ q ∈ tlw, q.1 < lM := fun q hq => hMl q (by rw [hnw2]; exact mT6 hq)
    refine el0_3 (hsep _ (.head _)) ?_; intro hE1 hE2 hE3
    have hE1 : lE ≠ G := hE1
    have hE2 : lE ≠ L' + 1 + 1 + 1 := hE2.1
    have hE3 : lE ≠ lS := hE3
    have N8 : News g' L' h7 ((lM, W.listOf mvs mep) :: (G, W.listOf garr eG) :: (lE, W.listOf evs eep) :: (L' + 1 + 1 + 1, oL) :: (L' + 1 + 1, oE) :: (L' + 1, oS) :: (lS, W.listOf its ep) :: tlw) := nsub N7 (sbc (.head _) (fun q hq => mT2 hq))
    clear N7 hl7
    k_steps
    refine cell_set (c := L' + 1 + 1 + 1) F7 N8 mH3 hoL rfl fun h9 oL2 F9 N9 hL9 => ?_
    have N10 : News g' L' h9 ((lM, W.listOf mvs mep) :: (G, W.listOf garr eG) :: (lE, W.listOf evs eep) :: (L' + 1 + 1 + 1, oL2) :: (L' + 1 + 1, oE) :: (L' + 1, oS) :: (lS, W.listOf its ep) :: tlw) := nsub N9 (sbc (msN (.head _) (ngt hM1)) (sbc (msN mH1 (ngt g2)) (sbc (msN mH2 hE2) (sbc (mem_setAt_self mH3) (sbc (msN mH4 (nlt (Nat.lt_succ_self _))) (sbc (msN mH5 (nlt (nls (Nat.lt_succ_self _)))) (sbc (msN mH6 hS3) (fun q hq => msN (mT7 hq) (htw q hq).1))))))))
    clear F7 N8 N9
    k_steps
    refine ⟨?_⟩
    rename Fr _ _ _ _ => F11
    rename News _ _ _ _ => N11
    have hmso : ∀ x ∈ mss, PyData.strOk x = true := fun x hx => by
     refine el1_2 ((hMi x).mp hx) ?_; intro f hf _
     exact (hso2 _ hf).2
    refine eq_strs_S (ss := mss) (ts := ess) N11 (.head _) mH2 hv7 hv hmso heso (by ke_room) ?_
    by_cases heq : mss = ess
    ·rw [decide_eq_true heq]
     k_steps
     refine ⟨?_⟩
     dsimp only [WEnd]
     k_steps
     rename Fr h₀ _ _ _ => F12
     rename News h₀ _ _ _ => N12
     refine hret G garr eG own gsd ess0 _ _ _ hs0 hn0 (hes ▸ hm0) ?_ hdg F12 (nsub N12 fun q hq => ?_)
     ·have h9 := hrun [] (.stop ⟨hs, hn, fun b => by rw [← heq, hMi b, heq]⟩)
      rw [List.append_nil] at h9
      exact hes ▸ h9
     refine mst hq ?_ fun hq => ?_
     ·exact mH1
     refine mT6 (.tail _ ?_)
     rw [htlw]
     refine ast hq (fun hq => ?_) fun hq => ?_
     ·exact maL _ hq
     rw [htl]
     exact maR _ (maR _ hq)
    rw [decide_eq_false heq]
    k_steps
    refine ⟨?_⟩
    refine cq_list (h₀ := g') (L := L') (m := fun y => if y = Str.ofString "groups" then some (Value.ref G) else if y = Str.ofString "steps" then some (Value.ref lS) else if y = Str.ofString "words" then some (Value.ref lw) else none) (by with_unfolding_all rfl) (by decide) (by rfl) (by decide) ?_
    k_steps
    refine ⟨?_⟩
    rename Fr _ _ _ _ => F13
    rename News _ _ _ _ => N13
    have hLE : L' ≠ lE := fun e => (N13 _ mH2).2.1 e.symm
    refine gen_ ((lM, W.listOf mvs mep) :: (G, W.listOf garr eG) :: (lE, W.listOf evs eep) :: (L' + 1 + 1 + 1, oL2) :: (L' + 1 + 1, oE) :: (L' + 1, oS) :: (lS, W.listOf its ep) :: tlw) ?_; intro nw3 hnw3'
    refine cgo_src (σ := CL) (.list _ _ _ _) (fun I D C => ct_list1) rfl rfl (src_list rfl (News.isList N13 mH2)) F13 (hnw3' ▸ N13) (fun hm => hLE (ms1 hm))
     (fun D c => (D, W.listOf c.its c.ep) :: nw3) (fun D i c m₁ => StrsAre c.its.toList ((ess.take i).filter fun p => !decide (p ∈ mss)) ∧ c.its.size ≤ i) (fun D oD => ⟨#[], 0, []⟩) (fun D oD ho => by subst ho; rfl) (fun D oD ho => ⟨by simpa using StrsAre.nil, Nat.le_refl _⟩) ?turn4 ?done4
    case turn4 =>
     intro C2 D2 I i v c oC m₁ h t own2 E' hDC hCI hDI hoff hi hv1 hP hnw4 hown hof hn F2 N2
     refine (let Qt2 := _; (?_ : wpAny _ _ _ Qt2 _ _))
     refine (let mt2 : Str → Option Value := _; have F9 : Fr _ _ _ mt2 := F2; ?_)
     clear F2
     have F2 := F9
     clear F9
     refine el2_2 (strsAre_get (i := i) (v := v) hv (by simpa using hv1)) ?_; intro x tx e92 hx; subst e92
     have hxe : x ∈ ess := List.mem_of_getElem? hx
     refine gen_ (α := Str → Option Value) (fun y => if y = Str.ofString "part" then some (Value.str x tx) else m₁ y) ?_; intro m₃ hm₃
     have hpart : m₃ (Str.ofString "part") = some (Value.str x tx) := by rw [hm₃]; rfl
     rw [← hm₃] at hn
     refine gen_ ((L' + 1 + 1, oE) :: (L' + 1, oS) :: (lS, W.listOf its ep) :: (G, W.listOf garr eG) :: (lE, W.listOf evs eep) :: (tlw ++ own2)) ?_; intro tlx htlx
     have hmx : ∀ q, q ∈ nw3 ++ own2 ↔ q = (lM, W.listOf mvs mep) ∨ q = (L' + 1 + 1 + 1, oL2) ∨ q ∈ tlx := by
      rw [hnw3', htlx]
      exact iff_subs (sbc (memI 0 rfl) (sbc (memI 5 rfl) (sbc (memI 6 rfl) (sbc (memI 1 rfl) (sbc (memI 2 rfl) (sbc (memI 3 rfl) (sbc (memI 4 rfl) fun q hq => mT7 hq)))))))
       (sbc (memI 0 rfl) (sbc (memI 3 rfl) (sbc (memI 4 rfl) (sbc (memI 5 rfl) (sbc (memI 6 rfl) (sbc (memI 1 rfl) (sbc (memI 2 rfl) fun q hq => mT7 hq)))))))
     have N6 : News g' L' h ((C2, oC) :: (D2, W.listOf c.its c.ep) :: (lM, W.listOf mvs mep) :: (L' + 1 + 1 + 1, oL2) :: tlx) := nsub N2 (sbc (.head _) (sbc mH1 (fun q hq => by
      refine mT2 ((hmx q).mpr ?_)
      refine asp hq ?_ fun hq => ?_
      ·exact .inl rfl
      refine asp hq ?_ fun hq => ?_
      ·exact .inr (.inl rfl)
      exact .inr (.inr hq))))
     have hD2 : ∀ q ∈ nw3 ++ own2, q.1 ≠ D2 := by
      intro q hq
      refine ast hq (fun hq => ?_) fun hq => ?_
      ·exact (hoff q hq).2.1
      rcases hof q hq with e2 | e2
      ·rw [e2]; exact hDI
      rw [ms1 e2]
      exact (hoff (lE, W.listOf evs eep) (by rw [hnw3']; exact mH2)).2.1
     clear N2 N13 F13
     refine wpAny_tests_one ?_
     k_steps
     refine ⟨?_⟩
     rename Fr _ _ _ _ => F7
     rename News _ _ _ _ => N7
     refine notin_strs_S (ss := mss) N7 mH2 hv7 hmso (heso _ hxe) (by ke_room) ?_
     by_cases hf : x ∈ mss
     ·rw [decide_eq_true hf]
      k_steps
      show CEnd _ _ _ _ _ _ _ _ _ _ _
      refine c_end c F7 N7 (oC := oC) (m' := m₃) (.head _) hn (fun q hq => ?_) (fun q hq => ?_) hnw4 ⟨?_, Nat.le_succ_of_le hP.2⟩
      ·refine mst hq ?_ fun hq => ?_
       ·exact mH1
       have hq' : q ∈ nw3 ++ own2 := maL _ hq
       refine or3 ((hmx q).mp hq') ?_ ?_ fun h => ?_
       ·exact mH2
       ·exact mH3
       exact mT4 h
      ·have hq' : q ∈ nw3 ++ own2 := maR _ hq
       refine or3 ((hmx q).mp hq') ?_ ?_ fun h => ?_
       ·exact mH2
       ·exact mH3
       exact mT4 h
      rw [List.take_add_one, hx, List.filter_append]
      simpa [hf] using hP.1
     rw [decide_eq_false hf]
     k_steps
     refine emitL_go ?_
     k_steps
     refine append_S F7 N7 mH1 (size_le (by have := hv.length; have : evs.toList.length = evs.size := Array.length_toList; have := hP.2; lia)) fun h8 F8 N8 => ?_
     show CEnd _ _ _ _ _ _ _ _ _ _ _
     refine c_end (⟨c.its.push (.str x tx), c.ep + 1, []⟩ : CL) F8 N8 (oC := oC) (m' := m₃) (msN (.head _) hDC.symm) hn (fun q hq => ?_) (fun q hq => ?_) (fun q hq hm => ?_) ⟨?_, by show (c.its.push (.str x tx)).size ≤ _; have := hP.2; simp; lia⟩
     ·refine mst hq ?_ fun hq => ?_
      ·exact mem_setAt_self mH1
      have hq' : q ∈ nw3 ++ own2 := maL _ hq
      refine msN (.tail _ (.tail _ ?_)) (hD2 q hq')
      refine or3 ((hmx q).mp hq') ?_ ?_ fun h => ?_
      ·exact .head _
      ·exact mH1
      exact mT2 h
     ·have hq' : q ∈ nw3 ++ own2 := maR _ hq
      refine msN (.tail _ (.tail _ ?_)) (hD2 q hq')
      refine or3 ((hmx q).mp hq') ?_ ?_ fun h => ?_
      ·exact .head _
      ·exact mH1
      exact mT2 h
     ·rcases mc1 hq with rfl | hq
      ·exact hnw4 _ (.head _) hm
      exact hnw4 q (.tail _ hq) hm
     rw [List.take_add_one, hx, List.filter_append]
     have h9 := strsAre_snoc (x := x) (t := tx) hP.1
     simpa [hf] using h9
    intro C2 D2 c oC m' h2 tk2 hDC hoff hP F2 N2 hn2 hnw4
    show compPost _ _ _ _ _ _ _ _ _
    refine post_none (L := L') F2 N2 hn2 hnw4 fun h3 F3 N3 => ?_
    clear F2 N2 N13 F13
    refine el0_2 (hP) ?_; (try clear hP); intro r1 r2
    obtain ⟨cvs, cep, cow⟩ := c
    dsimp only at r1 r2 N3
    rw [hnw3'] at N3
    k_steps
    have hgsz : garr.size ≤ 100000 := by
     have e1 := hdg.length
     rw [List.length_map] at e1
     have e2 : garr.toList.length = garr.size := Array.length_toList
     lia
    have hDn : ∀ q ∈ nw3, q.1 ≠ D2 := fun q hq => (hoff q hq).2
    have hDG : G ≠ D2 := hDn (G, W.listOf garr eG) (by rw [hnw3']; exact mH1)
    have hDc : L' + 1 + 1 ≠ D2 := hDn (L' + 1 + 1, oE) (by rw [hnw3']; exact mH4)
    have hDc1 : L' + 1 + 1 + 1 ≠ D2 := hDn (L' + 1 + 1 + 1, oL2) (by rw [hnw3']; exact mH3)
    have hDS : lS ≠ D2 := hDn (lS, W.listOf its ep) (by rw [hnw3']; exact mH6)
    refine append_S F3 N3 mH2 (size_le hgsz) fun h8 F8 N8 => ?_
    have N9 : News g' L' h8 ((D2, W.listOf cvs cep) :: (lM, W.listOf mvs mep) :: (G, W.listOf (garr.push (.ref D2)) (eG + 1)) :: (lE, W.listOf evs eep) :: (L' + 1 + 1 + 1, oL2) :: (L' + 1 + 1, oE) :: (L' + 1, oS) :: (lS, W.listOf its ep) :: tlw) := nsub N8 (sbc (msN (.head _) hDG.symm) (sbc (msN mH1 (ngt hMG)) (sbc (mem_setAt_self mH2) (sbc (msN mH3 hE1) (sbc (msN mH4 (nlt g2)) (sbc (msN mH5 (nlt g3)) (sbc (msN mH6 (nlt g4)) (sbc (msN mH7 (nlt g5)) (fun q hq => msN (mT8 hq) (htw q hq).2.2)))))))))
    clear F3 N3 N8
    k_steps
    refine cell_set (c := L' + 1 + 1) F8 N9 mH5 hoE rfl fun h9 oE3 F10 N10 hE9 => ?_
    k_steps
    refine ⟨?_⟩
    dsimp only [WEnd]
    have hlt : mss.length < ess.length := by
     have hsubM : ∀ x ∈ mss, x ∈ ess := fun x hx => by
      refine el1_2 ((hMi x).mp hx) ?_; intro f hf hfe
      exact hclo f x hf hfe
     by_cases hall : ∀ x ∈ ess, x ∈ mss
     ·exact absurd (sorted_unique (sortedS_pair hs7) (sortedS_pair hs) hMn hn fun x => ⟨hsubM x, hall x⟩) heq
     refine el1_1 (Classical.not_forall.mp hall) ?_; intro y hy
     refine el0_2 (Classical.not_imp.mp hy) ?_; intro hy1 hy2
     exact nodup_sub_lt hMn hsubM hy1 hy2
    refine ⟨mss.length, by rw [hnl]; exact hlt, lM, mvs, mss, mep, oL2, oE3, some (.ref lM), (D2, W.listOf cvs cep) :: own, garr.push (.ref D2), eG + 1, gsd ++ [ess.filter fun p => !decide (p ∈ mss)], h9, tk2, d7, rfl, hMw ▸ F10, ?_, hE9, hL9, ⟨hv7, hs7, hMn, fun x hx => ?_, fun f b hfb hf => ?_⟩, fun gs hg => ?_, ?_, rfl, ?_, ?_⟩
    ·refine nsub N10 fun q hq => ?_
     refine mst hq ?_ fun hq => ?_
     ·exact msN mH2 (ngt g3)
     refine mst hq ?_ fun hq => ?_
     ·exact msN mH1 (ngt (Nat.lt_of_succ_lt hM1))
     refine mst hq ?_ fun hq => ?_
     ·exact msN mH4 (Nat.succ_ne_self _)
     refine mst hq ?_ fun hq => ?_
     ·exact mem_setAt_self mH5
     refine mst hq ?_ fun hq => ?_
     ·exact msN mH6 (nlt (Nat.lt_succ_self _))
     refine mst hq ?_ fun hq => ?_
     ·exact msN mH7 hS2
     refine mst hq ?_ fun hq => ?_
     ·exact msN (.head _) hDc.symm
     have hq' : q ∈ tlw := htlw ▸ hq
     exact msN (mT8 hq') (htw q hq').2.1
    ·refine el1_2 ((hMi x).mp hx) ?_; intro f hf _
     exact ⟨_, hf, .inr rfl⟩
    ·refine el1_2 ((hMi f).mp hf) ?_; intro f' hf' hfe
     exact (hMi b).mpr ⟨f, hfb, hclo f' f hf' hfe⟩
    ·rw [List.append_assoc]
     exact hrun _ (.step ⟨hs7, hMn, hMi⟩ heq hg)
    ·rw [Array.toList_push, List.map_append]
     refine (hdg.mono fun y hy => .tail _ hy).append (.one (.list (vs := cvs.toList) (n := cep) ?_ ?_))
     ·rw [Array.toArray_toList]; exact .head _
     have he : List.take evs.size ess = ess := List.take_of_length_le (by have := hv.length; have e2 : evs.toList.length = evs.size := Array.length_toList; lia)
     rw [he] at r1
     exact datStrs r1
    ·rw [List.length_append]
     simp
     lia
    intro q hq
    refine asp hq ?_ fun hq => ?_
    ·exact ⟨ngt hMG, ⟨ngt hM1, ngt (Nat.lt_of_succ_lt hM1)⟩, ngt hM2⟩
    refine asp hq ?_ fun hq => ?_
    ·exact ⟨hDG.symm, ⟨hDc1.symm, hDc.symm⟩, hDS.symm⟩
    exact hsep q (.tail _ hq)
section
variable {prog : Program} {w : World} {A : Around} {E : Value → Shared → Prop} {s : Shared} {env : Env} {h₀ : Heap} {Q : Flow → Shared → Prop} {body : List Stmt}
theorem range_s {σ : Type} {x : Str} {r : Addr} {a₀ b₀ : Int} {t₀ u₀ v₀ : Tok} {n : Nat} {m₀ : Str → Option Value} (Led : σ → List (Addr × Obj)) (ps : σ → List (Str × Value)) (stored : List Str) (P : Nat → σ → Prop) (c₀ : σ) (hh : A.handled = none)
  (hr : IsRange s.heap r a₀ b₀ 1 t₀ u₀ v₀) (hsmall : Builtin.Range.small a₀ b₀ 1 = true) (hn : Builtin.Range.rangeSize a₀ b₀ 1 = (n : Int))
  (F : Fr h₀ env.locals s.heap m₀) (N : News h₀ env.locals s.heap (Led c₀)) (hP : P 0 c₀) (hk : ∀ p ∈ ps c₀, m₀ p.1 = some p.2)
  (turn : ∀ (i : Nat) (c : σ) t (u : Str → Option Value) h tk own wr, i < n → P i c → (∀ p ∈ Led c, p.1 ∉ wr) → (∀ b ∈ wr, ∃ o, (b, o) ∈ own) → (∀ p ∈ own, p.1 ∈ wr) →
   Fr h₀ env.locals h (fun y => if y = x then some (.int (a₀ + (i : Int)) t) else kstB (fun z => if stored.contains z then u z else m₀ z) (ps c) y) → News h₀ env.locals h (Led c ++ own) →
   wpAny (model prog w) A (execs body env) (TurnPost h₀ env.locals wr own (SJ Led ps [x] stored m₀ P (i + 1)) { s with heap := h, toks := tk } Q) E { s with heap := h, toks := tk })
  (done : ∀ (c : σ) (u : Str → Option Value) h tk, P n c → Fr h₀ env.locals h (fun y => if y = x then u y else kstB (fun z => if stored.contains z then u z else m₀ z) (ps c) y) → News h₀ env.locals h (Led c) → Q .next { s with heap := h, toks := tk }) :
  wpAny (model prog w) A (pyIter (.ref r)) (fun it s₂ => LoopAtV prog w A h₀ env x body Q E it s₂) E s := by
 have hLs : env.locals < s.heap.objs.size := F.ns.lt
 refine wpAny_pyIter_range hr hsmall ?_
 have W : Walks prog w A s.heap.objs.size [s.heap.objs.size] [s.heap.objs.size] n (fun i v => i < n ∧ ∃ t, v = .int (a₀ + i * 1) t)
   (fun i h => IsRangeIter h s.heap.objs.size (a₀ + (i : Nat) * 1) ((n : Int) - (i : Nat)) 1) := (Walks.range hh _ a₀ 1 n).bound
 refine sloop Led ps stored P c₀ W ?_ ?_ ?_ ?_ ?_ (F.push _) (fun p hp => ⟨Heap.get?_push_of_some _ (N p hp).1, (N p hp).2⟩) hP hk ?_ done
 ·intro i h hs b hb
  rw [ms1 hb]
  exact ⟨_, hs⟩
 ·intro hm
  exact nlt hLs (ms1 hm)
 ·intro b hb
  rw [ms1 hb]
  exact next_is_new F
 ·intro p hp hb
  exact nlt (Heap.lt_size (N p hp).1) (ms1 hb)
 ·show IsRangeIter _ _ _ _ _
  rw [hn]
  simpa using Heap.get?_push_size _ rfl
 rintro i c v u h tk own hi ⟨_, t, rfl⟩ hPc hn' hw hf F₁ N₁
 rw [Int.mul_one] at F₁
 exact turn i c t u h tk own _ hi hPc hn' hw hf F₁ N₁
end
noncomputable abbrev JL := List (Int × Int × Tok)
noncomputable def kvsJ (l : JL) : List (Int × Value) := l.map fun e => (e.1, .int e.2.1 e.2.2)
noncomputable def jput (l : JL) (j k : Int) (t : Tok) : JL := if l.any (fun e => e.1 = j) then l.map (fun e => if e.1 = j then (e.1, k, t) else e) else l ++ [(j, k, t)]
theorem stored_kvsJ (l : JL) (j k : Int) (t : Tok) : stored (kvsJ l) j (.int k t) = kvsJ (jput l j k t) := by
 unfold stored jput kvsJ
 rw [List.any_map]
 have e : ((fun kv : Int × Value => decide (kv.1 = j)) ∘ fun e : Int × Int × Tok => (e.1, Value.int e.2.1 e.2.2)) = fun e => decide (e.1 = j) := rfl
 rw [e]
 split
 ·rw [List.map_map, List.map_map]
  apply List.map_congr_left
  intro a _
  show (if a.1 = j then (a.1, Value.int k t) else (a.1, Value.int a.2.1 a.2.2)) = ((if a.1 = j then (a.1, k, t) else a).1, Value.int (if a.1 = j then (a.1, k, t) else a).2.1 (if a.1 = j then (a.1, k, t) else a).2.2)
  split <;> rfl
 rw [List.map_append]; rfl
noncomputable def plook (l : List (Int × Int)) (j : Int) : Int := ((l.find? fun e => e.1 = j).map (·.2)).getD 0
noncomputable def pput (l : List (Int × Int)) (j k : Int) : List (Int × Int) := if l.any (fun e => e.1 = j) then l.map (fun e => if e.1 = j then (e.1, k) else e) else l ++ [(j, k)]
noncomputable def proj (l : JL) : List (Int × Int) := l.map fun e => (e.1, e.2.1)
theorem proj_put (l : JL) (j k : Int) (t : Tok) : proj (jput l j k t) = pput (proj l) j k := by
 unfold jput pput proj
 rw [List.any_map]
 have e : ((fun kv : Int × Int => decide (kv.1 = j)) ∘ fun e : Int × Int × Tok => (e.1, e.2.1)) = fun e => decide (e.1 = j) := rfl
 rw [e]
 split
 ·rw [List.map_map, List.map_map]
  apply List.map_congr_left
  intro a _
  show ((if a.1 = j then (a.1, k, t) else a).1, (if a.1 = j then (a.1, k, t) else a).2.1) = if a.1 = j then (a.1, k) else (a.1, a.2.1)
  split <;> rfl
 rw [List.map_append]; rfl
theorem valueAt_kvsJ (l : JL) (j : Int) (t : Tok) : ∃ t', (valueAt (kvsJ l) j).getD (.int 0 t) = .int (plook (proj l) j) t' := by
 unfold valueAt kvsJ plook proj
 rw [List.find?_map, List.find?_map]
 have e1 : ((fun kv : Int × Value => decide (kv.1 = j)) ∘ fun e : Int × Int × Tok => (e.1, Value.int e.2.1 e.2.2)) = fun e => decide (e.1 = j) := rfl
 have e2 : ((fun kv : Int × Int => decide (kv.1 = j)) ∘ fun e : Int × Int × Tok => (e.1, e.2.1)) = fun e => decide (e.1 = j) := rfl
 rw [e1, e2]
 cases List.find? (fun e : Int × Int × Tok => decide (e.1 = j)) l with
 | none => exact ⟨t, rfl⟩
 | some a => exact ⟨a.2.2, rfl⟩
structure PB3 where
 bi : Int
 bj : Int
 bs : Int
noncomputable def istep (i : Int) (old : List (Int × Int)) (b : PB3) (j : Int) : PB3 := if plook old (j - 1) + 1 > b.bs then ⟨i - (plook old (j - 1) + 1) + 1, j - (plook old (j - 1) + 1) + 1, plook old (j - 1) + 1⟩ else b
noncomputable def inner (i blo bhi : Int) (old : List (Int × Int)) : List Int → PB3 → List (Int × Int) → PB3 × List (Int × Int)
 | [], b, new => (b, new)
 | j :: js, b, new => if j < blo then inner i blo bhi old js b new else if bhi ≤ j then (b, new) else inner i blo bhi old js (istep i old b j) (pput new j (plook old (j - 1) + 1))
noncomputable def jsOf (x y : Str) (i : Int) : List Int := match x.cps[i.toNat]? with | some c => idxs y y.cps.size c | none => []
noncomputable def outerR (x y : Str) (blo bhi : Int) : List Int → PB3 → List (Int × Int) → PB3
 | [], b, _ => b
 | i :: is, b, old => outerR x y blo bhi is (inner i blo bhi old (jsOf x y i) b []).1 (inner i blo bhi old (jsOf x y i) b []).2
noncomputable def rangeL (a b : Int) : List Int := (List.range (b - a).toNat).map fun (i : Nat) => a + (i : Int)
noncomputable def flm (x y : Str) (alo ahi blo bhi : Int) : PB3 := outerR x y blo bhi (rangeL alo ahi) ⟨alo, blo, 0⟩ []
theorem idxs_mem {y : Str} {n c : Nat} {j : Int} (h : j ∈ idxs y n c) : 0 ≤ j ∧ j < (n : Int) := by
 unfold idxs at h
 refine el1_2 (mm1 h) ?_; intro k hk e92; subst e92
 have := List.mem_range.mp (mf1 hk).1
 exact ⟨Int.natCast_nonneg k, Int.ofNat_lt.mpr this⟩
theorem its_get {its : List (Int × Tok)} {n : Nat} {v : Value} (h : (its.map fun p => Value.int p.1 p.2).toArray[n]? = some v) : ∃ p, its[n]? = some p ∧ v = .int p.1 p.2 := by
 rw [List.getElem?_toArray, List.getElem?_map] at h
 refine el1_2 (Option.map_eq_some_iff.mp h) ?_; intro p hp e92; subst e92
 exact ⟨p, hp, rfl⟩
theorem its_drop {its : List (Int × Tok)} {js : List Int} {n : Nat} {p : Int × Tok} (hj : its.map (·.1) = js) (h : its[n]? = some p) : js.drop n = p.1 :: js.drop (n + 1) := by
 have : js[n]? = some p.1 := by rw [← hj, List.getElem?_map, h]; rfl
 refine el1_1 (List.getElem?_eq_some_iff.mp this) ?_; intro hl he
 rw [List.drop_eq_getElem_cons hl, he]
noncomputable abbrev frMap {h₀ : Heap} {L : Addr} {h : Heap} {m : Str → Option Value} (_ : Fr h₀ L h m) : Str → Option Value := m
noncomputable def catS (x y : Str) : Str := x ++ y
noncomputable def rowsOf (wl : List Str) : Nat → List Str
 | 0 => [Str.ofString ""]
 | n + 1 => (rowsOf wl n).flatMap fun r => wl.map fun x => catS r x
theorem ok_append {x y : Str} (hx : PyData.strOk x = true) (hy : PyData.strOk y = true) : PyData.strOk (x ++ y) = true := by
 unfold PyData.strOk at *
 rw [PySem.Str.cps_append, ← Array.all_toList, Array.toList_append, List.all_append, Array.all_toList, Array.all_toList, hx, hy]
 rfl
theorem ok_slice {x : Str} {l u : Option Int} (h : PyData.strOk x = true) : PyData.strOk (Txt.slice x l u) = true := by
 unfold Txt.slice
 split
 ·exact h
 unfold PyData.strOk at *
 rw [Array.all_eq_true'] at h ⊢
 intro c hc
 rw [List.mem_toArray] at hc
 refine el1_2 (List.mem_filterMap.mp hc) ?_; intro i _ hi
 exact h c (Array.mem_of_getElem? hi)
theorem rng_size {i z : Nat} (hi : i < 3) (h1 : 2 ≤ z) (h2 : z ≤ 4) : Builtin.Range.small 0 (((i + 1) * z : Nat) : Int) (z : Int) = true ∧ Builtin.Range.rangeSize 0 (((i + 1) * z : Nat) : Int) (z : Int) = ((i + 1 : Nat) : Int) := by
 have a : i = 0 ∨ i = 1 ∨ i = 2 := by lia
 have b : z = 2 ∨ z = 3 ∨ z = 4 := by lia
 rcases a with rfl | rfl | rfl <;> rcases b with rfl | rfl | rfl <;> exact ⟨rfl, rfl⟩
theorem rowsOf_fact {wl : List Str} {z : Nat} (hl : ∀ x ∈ wl, x.cps.size = z) (ho : ∀ x ∈ wl, PyData.strOk x = true) : ∀ n r, r ∈ rowsOf wl n → r.cps.size = n * z ∧ PyData.strOk r = true
 | 0, r, h => by
  rw [ms1 h]
  exact ⟨(Nat.zero_mul z).symm, by decide +kernel⟩
 | n + 1, r, h => by
  refine el1_2 (List.mem_flatMap.mp h) ?_; intro r0 h0 h1
  refine el1_2 (mm1 h1) ?_; intro x hx e92; subst e92
  refine el0_2 (rowsOf_fact hl ho n r0 h0) ?_; intro e1 e2
  refine ⟨?_, ok_append e2 (ho x hx)⟩
  show (r0 ++ x).cps.size = _
  rw [PySem.Str.cps_append, Array.size_append, e1, hl x hx, Nat.succ_mul]
theorem rowsOf_len {wl : List Str} (h3 : wl.length ≤ 3) : ∀ n, (rowsOf wl n).length ≤ 3 ^ n
 | 0 => Nat.le_refl _
 | n + 1 => by
  have ih := rowsOf_len h3 n
  have e : (rowsOf wl (n + 1)).length = (rowsOf wl n).length * wl.length := by
   show ((rowsOf wl n).flatMap fun r => wl.map fun x => catS r x).length = _
   generalize rowsOf wl n = l
   induction l with
   | nil => simp
   | cons a l ihl => rw [List.flatMap_cons, List.length_append, ihl, List.length_map, List.length_cons, Nat.succ_mul]; lia
  rw [e, Nat.pow_succ]
  exact Nat.mul_le_mul ih h3
def TurnIn (wl : List Str) (z n : Nat) (row : Str) (c : Nat) : Prop := ∀ j, j < n → Txt.slice (catS (Txt.slice row (some (1 + (c : Int))) none) (Txt.slice row none (some (1 + (c : Int))))) (some (0 + (j : Int) * z)) (some (0 + (j : Int) * z + z)) ∈ wl
def RowTurns (wl : List Str) (z n : Nat) (row : Str) : Prop := ∃ c, c < z - 1 ∧ TurnIn wl z n row c
structure AR where
 lr : Addr
 vs : Array Value
 ss : List Str
 ep : Nat
 oT : Obj
 vT : Option Value
def AroundP (wl : List Str) (z : Nat) : Prop := ∃ j, j < 3 ∧ ∃ row ∈ rowsOf wl (j + 1), RowTurns wl z (j + 1) row
structure CD where
 its : Array Value
 ep : Nat
 ds : List Dat
structure AT where
 oT : Obj
 vT : Option Value
theorem around_c (w : World) (p : Program) (lo : List Str) (mean : ExcName → Option Value) (mg mb : Str → Option Value)
  (gd : Option (List Code)) (cn : Str) (cs : Scope) (a : Addr) (ccd : Value) (cl : List (Str × Addr)) (outer : List Env) (A₀ : Around) (base h₀ : Heap) (L : Addr) (m : Str → Option Value) (rest : List (Addr × Obj)) (s : Shared)
  (lw : Addr) (ws : List (Str × Tok)) (ew : Nat) (z : Nat) (tz : Tok) (Q E : Value → Shared → Prop)
  (B : Below A₀ base outer h₀) (F : Fr h₀ L s.heap m) (X : (Mine.K w.params).In h₀) (N : News h₀ L s.heap ((lw, W.listOf (strVals ws) ew) :: rest)) (T : Top p lo mean mg mb h₀) (hk : cs.kind = .function)
  (hw3 : ws.length ≤ 3) (hz1 : 2 ≤ z) (hz2 : z ≤ 4) (hwz : ∀ q ∈ ws, q.1.cps.size = z) (hso : ∀ q ∈ ws, PyData.strOk q.1 = true)
  (hret : ∀ b h' tk', (b = true ↔ AroundP (ws.map (·.1)) z) → Fr h₀ L h' m → News h₀ L h' ((lw, W.listOf (strVals ws) ew) :: rest) → Q (.bool b) { s with heap := h', toks := tk' }) :
  wpAny (model (rw_nq0317_01.prog) w) (ktrTop 340 400 gd cn cs L a ccd cl outer) (call (.ref 388) [.ref lw, .int (z : Int) tz]) Q E s := by
 k_with_none
 k_with "k_all" => first | assumption | (intro p9 hp9; (repeat (rename _ ∧ _ => hc9; obtain ⟨_, _⟩ := hc9)); have h9 := allLt_mem2 (by assumption) _ hp9; exact nlt (Nat.lt_of_lt_of_le h9 (by omega)))
 k_with "execs cons" => (k_here; (fail_if_success (rename Stop _ => h9)); first | k_made | ((fail_if_success (fail_if_success k_gentoks)); refine (let tk : Nat := _; (?_ : wpAny _ _ _ _ _ ⟨_, _, _, tk, _⟩))) | ((with_reducible refine wpAny_execs_cons ?_); (try dsimp only); refine (let qv : Flow → Shared → Prop := _; (?_ : wpAny _ _ _ qv _ _))))
 k_with "execs nil" => (k_here; (fail_if_success (fail_if_success k_gentoks)); refine (let tk : Nat := _; (?_ : wpAny _ _ _ _ _ ⟨_, _, _, tk, _⟩)))
 k_with "exec For Name Name cons nil" => (k_here; (rename Fr _ _ _ _ => lF'); (with_unfolding_all refine' For_invVF lF' ?k1 ?k2 ?_; (case k1 => exact rfl); (case k2 => exact rfl); k_whole))
 k_with "exec For Name Name" => (k_here; (rename Fr _ _ _ _ => lF'); (with_unfolding_all refine' For_invVF lF' ?k1 ?k2 ?_; (case k1 => exact rfl); (case k2 => exact rfl); k_whole))
 k_with "exec For Name" => (k_here; (rename Fr _ _ _ _ => lF'); (with_unfolding_all refine' For_invVF lF' ?k1 ?k2 ?_; (case k1 => exact rfl); (case k2 => exact rfl); k_whole))
 k_with "compareOp Eq ref ref" => refine stopped ?_
 k_with "compareOp NotIn str ref" => refine stopped ?_
 k_with "exec Assign cons ListComp" => refine stopped ?_
 k_with "eval ListComp" => refine stopped ?_
 k_with "pyIter ref" => refine stopped ?_
 k_with "TurnPost" => refine stopped ?_
 revert X
 k_fill
 intro X
 refine wpAny_call ?_
 k_dflt (refine' code_defC (binds := [(Str.ofString "words", .ref lw), (Str.ofString "size", .int z tz)]) ?k1 ?k2 ?k3 ?k4 ?k5 ?kA ?kF ?kK ?k6 ?k7 ?k8 ?k9 ?kB ?kD ?_ ?c2 ?c3 ?c4; (case kA => exact rfl); (case kF => exact rfl); (case kK => assumption); (case k1 => k_asm); (case k2 => k_asm); (case k3 => k_asm); (case k4 => k_asm); (case k5 => k_asm); (case k6 => k_is); (case k7 => k_is); (case k8 => ktr_room); (case k9 => exact BindsTo.of_eq rfl); (case kB => exact rfl); (case kD => decide +kernel); (case c2 => exact rfl); (case c3 => exact rfl); (case c4 => exact rfl); k_whole; intro g' L' h' tk' cells' FG' F' N' Y' B' X' T' l1; k_cells Y'; (try simp only [List.cons_append, List.nil_append] at N'); (try dsimp only); (try k_fold))
 rename_i oT oZ oW dT dZ dW
 have dT' : oT.data = Data.cell none := dT
 have dZ' : oZ.data = Data.cell (some (.int (z : Int) tz)) := dZ
 have dW' : oW.data = Data.cell (some (.ref lw)) := dW
 clear dT dZ dW
 have F1 : Fr g' L' h' (fun _ => none) := F'
 clear F'
 rename News g' L' _ _ => N1
 k_steps
 refine ⟨?_⟩
 rename Fr _ _ _ _ => F2
 rename News _ _ _ _ => N2
 rename IsRange _ _ _ _ _ _ _ _ => hR
 rename_i lr0 _ lf _ _ _ _ _ _ _ _ _
 refine el0_5 (lf) ?_; (try clear lf); intro f1 f2 f3 f4 f5
 have hdef : ∃ wl, wl = ws.map (·.1) := ⟨_, rfl⟩
 refine el1_1 (hdef) ?_; (try clear hdef); intro wl hwl
 refine range_s (σ := AR) (n := 3) (fun c => (c.lr, W.listOf c.vs c.ep) :: (L' + 1 + 1 + 1, c.oT) :: (L' + 1 + 1, oZ) :: (L' + 1, oW) :: (lw, W.listOf (strVals ws) ew) :: rest) (fun c => [(Str.ofString "rows", Value.ref c.lr)]) [Str.ofString "row", Str.ofString "cut"]
  (fun i c => StrsAre c.vs.toList c.ss ∧ c.ss = rowsOf wl i ∧ c.oT.data = .cell c.vT ∧ c.lr ≠ L' + 1 + 1 + 1 ∧ ∀ j, j < i → ∀ row ∈ rowsOf wl (j + 1), ¬ RowTurns wl z (j + 1) row)
  ⟨lr0, #[Value.str (Str.ofString "") tk'], [Str.ofString ""], 0, oT, none⟩ rfl hR rfl rfl F2 N2 ⟨.cons _ _ .nil, rfl, dT', ngt f1, fun j hj => absurd hj (Nat.not_lt_zero j)⟩ (fs1 rfl) ?turn ?done
 case turn =>
  clear F2 N2 hR
  intro i c t u h tk own wr hi hP hoffw hw hf F3 N3
  obtain ⟨lr, vs, ss, ep, oT, vT⟩ := c
  refine el0_5 (hP) ?_; (try clear hP); intro p1 p2 p3 p4 p5
  dsimp only at p1 p2 p3 p4 N3 F3 hoffw
  refine gen_ (rest ++ own) ?_; intro tl htl
  have N4 : News g' L' h ((lr, W.listOf vs ep) :: (L' + 1 + 1 + 1, oT) :: (L' + 1 + 1, oZ) :: (L' + 1, oW) :: (lw, W.listOf (strVals ws) ew) :: tl) := by rw [htl]; exact N3
  clear N3
  have hlrL : L' ≠ lr := fun e => (N4 _ (.head _)).2.1 e.symm
  k_steps
  refine ⟨?_⟩
  rename Fr _ _ _ _ => F5
  refine cq_assign (h₀ := g') (L := L') (m := frMap F5) (by rfl) (by with_unfolding_all rfl) (by decide) (by rfl) (by decide) ?_
  k_steps
  refine ⟨?_⟩
  rename Fr _ _ _ _ => F6
  rename News _ _ _ _ => N6
  refine gen_ ((lr, W.listOf vs ep) :: (L' + 1 + 1 + 1, oT) :: (L' + 1 + 1, oZ) :: (L' + 1, oW) :: (lw, W.listOf (strVals ws) ew) :: tl) ?_; intro nw hnw
  have hwl1 : ∀ x ∈ wl, x.cps.size = z := by
   intro x hx
   rw [hwl] at hx
   refine el1_2 (mm1 hx) ?_; intro q hq e92; subst e92
   exact hwz q hq
  have hwl2 : ∀ x ∈ wl, PyData.strOk x = true := by
   intro x hx
   rw [hwl] at hx
   refine el1_2 (mm1 hx) ?_; intro q hq e92; subst e92
   exact hso q hq
  have hwl3 : wl.length ≤ 3 := by rw [hwl, List.length_map]; exact hw3
  have hss : ss.length ≤ 27 := by
   rw [p2]
   refine Nat.le_trans (rowsOf_len hwl3 i) ?_
   exact Nat.le_trans (Nat.pow_le_pow_right (by decide) (Nat.le_of_lt hi)) (by decide)
  have hsl : ∀ x ∈ ss, x.length ≤ 8 := by
   intro x hx
   rw [p2] at hx
   show x.cps.size ≤ 8
   rw [(rowsOf_fact hwl1 hwl2 i x hx).1]
   exact Nat.mul_le_mul (show i ≤ 2 by lia) hz2
  have hvl : vs.size = ss.length := by rw [← p1.length]; exact Array.length_toList.symm
  refine cgo_src (σ := CL) (.list _ _ _ _) (fun I D C => ct_list2) rfl rfl (src_list rfl (News.isList N6 (.head _))) F6 (hnw ▸ N6) (fun hm => hlrL (ms1 hm))
   (fun D c => (D, W.listOf c.its c.ep) :: nw) (fun D i c m₁ => StrsAre c.its.toList ((ss.take i).flatMap fun r => wl.map fun x => catS r x) ∧ c.its.size = i * ws.length) (fun D oD => ⟨#[], 0, []⟩) (fun D oD ho => by subst ho; rfl) (fun D oD ho => ⟨by simpa using StrsAre.nil, by simp⟩) ?turn1 ?done1
  case turn1 =>
   intro C2 D2 I i v c oC m₁ h t own2 E' hDC hCI hDI hoff hi hv1 hP hnw4 hown hof hn F2 N2
   refine el2_2 (strsAre_get (i := i) (v := v) p1 (by simpa using hv1)) ?_; intro x tx e92 hx; subst e92
   refine wpAny_tests_nil ?_
   rw [if_pos rfl]
   refine inner_go (by intro _; rfl) ?_
   refine gen_ (α := Str → Option Value) (fun y => if y = Str.ofString "row" then some (Value.str x tx) else m₁ y) ?_; intro m₃ hm₃
   have hrow : m₃ (Str.ofString "row") = some (Value.str x tx) := by rw [hm₃]; rfl
   rw [← hm₃] at hn
   refine gen_ ((lr, W.listOf vs ep) :: (L' + 1 + 1 + 1, oT) :: (L' + 1 + 1, oZ) :: (tl ++ own2)) ?_; intro tlx htlx
   have hmx : ∀ q, q ∈ nw ++ own2 ↔ q = (L' + 1, oW) ∨ q = (lw, W.listOf (strVals ws) ew) ∨ q ∈ tlx := by
    intro q
    rw [hnw, htlx]
    simp only [List.mem_append, List.mem_cons]
    constructor
    ·rintro ((h | h | h | h | h | h) | h) <;> simp [h]
    rintro (h | h | h | h | h | h | h) <;> simp [h]
   have N7 : News g' L' h ((C2, oC) :: (D2, W.listOf c.its c.ep) :: (L' + 1, oW) :: (lw, W.listOf (strVals ws) ew) :: tlx) := nsub N2 (sbc (.head _) (sbc mH1 (fun q hq => by
    refine mT2 ((hmx q).mpr ?_)
    refine asp hq ?_ fun hq => ?_
    ·exact .inl rfl
    refine asp hq ?_ fun hq => ?_
    ·exact .inr (.inl rfl)
    exact .inr (.inr hq))))
   have hD2 : ∀ q ∈ nw ++ own2, q.1 ≠ D2 := by
    intro q hq
    refine ast hq (fun hq => ?_) fun hq => ?_
    ·exact (hoff q hq).2.1
    rcases hof q hq with e2 | e2
    ·rw [e2]; exact hDI
    rw [ms1 e2]
    exact (hoff (lr, W.listOf vs ep) (by rw [hnw]; exact .head _)).2.1
   dsimp only [frMap] at F2 ⊢
   clear N2 N6 F6
   k_steps
   refine ⟨?_⟩
   rename Fr _ _ _ _ => F8
   rename News _ _ _ _ => N8
   refine gen_ ((L' + 1, oW) :: (lw, W.listOf (strVals ws) ew) :: tlx) ?_; intro tz htz
   have htzm : ∀ q, q ∈ nw ++ own2 ↔ q ∈ tz := by
    intro q
    rw [hmx q, htz]
    simp only [List.mem_cons]
   have hwz0 : ∀ q ∈ tz, q.1 ≠ C2 ∧ q.1 ≠ D2 := by
    intro q hq
    have hq' := (htzm q).mpr hq
    refine ⟨?_, hD2 q hq'⟩
    refine ast hq' (fun hq => ?_) fun hq => ?_
    ·exact (hoff q hq).1
    rcases hof q hq with e2 | e2
    ·rw [e2]; exact hCI
    rw [ms1 e2]
    exact (hoff (lr, W.listOf vs ep) (by rw [hnw]; exact .head _)).1
   have hlwz : (lw, W.listOf (strVals ws) ew) ∈ tz := by rw [htz]; exact mH1
   refine cin_src (σ := CL) (.list _ _ _ _) rfl rfl (fun I => ct_list2i) rfl rfl (src_list rfl (News.isList N8 mH3)) (fun hm => (N8 _ mH3).2.1 (ms1 hm).symm) (fun hm => (hwz0 _ hlwz).1 (ms1 hm).symm)
    (fun c => (D2, W.listOf c.its c.ep) :: tz)
    (fun j c m₁ => StrsAre c.its.toList (((ss.take i).flatMap fun r => wl.map fun x => catS r x) ++ (wl.take j).map fun y => catS x y) ∧ c.its.size = i * ws.length + j ∧ m₁ (Str.ofString "row") = some (.str x tx)) c F8 (htz ▸ N8) hn ?inw ?iP ?iturn ?idone
   case inw =>
    intro q hq e
    rcases mc1 hq with rfl | hq
    ·exact hDC e
    exact (hwz0 q hq).1 e
   case iP => exact ⟨by simpa using hP.1, hP.2, hrow⟩
   case iturn =>
    clear N8 hn
    intro I2 j v2 c2 oC2 m₂ h2 tk2 own3 E2 hI2C hIoff hj hv2 hP2 hnw5 hown2 hof2 hn2 F9 N9
    refine el0_3 (hP2) ?_; (try clear hP2); intro q1 q2 q3
    refine el2_2 (strVals_get hv2) ?_; intro y ty e92 hy; subst e92
    refine wpAny_tests_nil ?_
    rw [if_pos rfl]
    refine emitL_go ?_
    refine gen_ (α := Str → Option Value) (fun z => if z = Str.ofString "word" then some (Value.str y ty) else m₂ z) ?_; intro m₄ hm₄
    have hword : m₄ (Str.ofString "word") = some (Value.str y ty) := by rw [hm₄]; rfl
    have hrow2 : m₄ (Str.ofString "row") = some (Value.str x tx) := by rw [hm₄]; exact q3
    rw [← hm₄] at hn2
    refine gen_ (tz ++ own3) ?_; intro tlz htlz
    have N10 : News g' L' h2 ((C2, oC2) :: (D2, W.listOf c2.its c2.ep) :: tlz) := htlz ▸ N9
    clear N9
    have hxl : x.length ≤ 8 := hsl x (List.mem_of_getElem? hx)
    have hyl : y.length ≤ 4 := by
     have := hwl1 y (by rw [hwl]; exact List.mem_of_getElem? hy)
     show y.cps.size ≤ 4
     lia
    k_steps
    rename Fr _ _ _ _ => F11
    rename News _ _ _ _ => N11
    rename_i t9 _ _
    refine append_S F11 N11 mH1 (size_le (by
     have e1 : i * ws.length ≤ 27 * 3 := Nat.mul_le_mul (by lia) hw3
     have e2 : (strVals ws).size = ws.length := by unfold strVals; simp
     lia)) fun h8 F12 N12 => ?_
    show CEnd _ _ _ _ _ _ _ _ _ _ _
    have hD3 : ∀ q ∈ tz ++ own3, q.1 ≠ D2 := by
     intro q hq
     refine ast hq (fun hq => ?_) fun hq => ?_
     ·exact (hwz0 q hq).2
     rcases hof2 q hq with e2 | e2
     ·rw [e2]; exact (hIoff _ (.head _)).symm
     rw [ms1 e2]; exact (hwz0 _ hlwz).2
    refine c_end (⟨c2.its.push (.str (x ++ y) t9), c2.ep + 1, []⟩ : CL) F12 N12 (oC := oC2) (m' := m₄) (msN (.head _) hDC.symm) hn2 (fun q hq => ?_) (fun q hq => ?_) (fun q hq hm => ?_) ⟨?_, by show (c2.its.push _).size = _; rw [Array.size_push, q2]; rfl, hrow2⟩
    ·refine mst hq ?_ fun hq => ?_
     ·exact mem_setAt_self mH1
     have hq' : q ∈ tz ++ own3 := maL _ hq
     exact msN (mT2 (htlz ▸ hq')) (hD3 q hq')
    ·have hq' : q ∈ tz ++ own3 := maR _ hq
     exact msN (mT2 (htlz ▸ hq')) (hD3 q hq')
    ·rcases mc1 hq with rfl | hq
     ·exact hnw5 _ (.head _) hm
     exact hnw5 q (.tail _ hq) hm
    have hy' : wl[j]? = some y := by rw [hwl]; exact hy
    rw [List.take_add_one, hy', List.map_append, ← List.append_assoc, Array.toList_push]
    exact strsAre_snoc q1
   case idone =>
    intro c2 oC2 m2 h2 tk2 hP2 F9 N9 hn2 hnw5
    show CEnd _ _ _ _ _ _ _ _ _ _ _
    refine el0_3 (hP2) ?_; (try clear hP2); intro q1 q2 q3
    have hsz : (strVals ws).size = ws.length := by unfold strVals; simp
    refine c_end c2 F9 N9 (.head _) hn2 (fun q hq => ?_) (fun q hq => ?_) (fun q hq hm => ?_) ⟨?_, ?_⟩
    ·refine mst hq ?_ fun hq => ?_
     ·exact mH1
     exact mT2 ((htzm q).mp (maL _ hq))
    ·exact mT2 ((htzm q).mp (maR _ hq))
    ·rcases mc1 hq with rfl | hq
     ·exact hnw4 _ (.head _) hm
     exact hnw4 q (.tail _ hq) hm
    ·rw [List.take_add_one, hx, List.flatMap_append]
     have e9 : List.take (strVals ws).size wl = wl := List.take_of_length_le (by rw [hsz, hwl, List.length_map]; exact Nat.le_refl _)
     rw [e9] at q1
     simpa using q1
    rw [q2, hsz, Nat.succ_mul]
  case done1 =>
   intro C2 D2 c oC m' h2 tk2 hDC hoff hP F2 N2 hn2 hnw4
   show compPost _ _ _ _ _ _ _ _ _
   refine post_assign (L := L') rfl rfl rfl F2 N2 hn2 hnw4 fun h3 tk3 F3 N3 => ?_
   clear F2 N2 N6
   refine el0_2 (hP) ?_; (try clear hP); intro r1 r2
   obtain ⟨rvs, rep, row0⟩ := c
   dsimp only [frMap] at r1 r2 N3 F3
   rw [hnw] at N3
   rw [List.take_of_length_le (by rw [hvl]; exact Nat.le_refl _), p2] at r1
   have r1 : StrsAre rvs.toList (rowsOf wl (i + 1)) := r1
   have hD2 : ∀ q ∈ nw, q.1 ≠ D2 := fun q hq => (hoff q hq).2
   k_steps
   refine ⟨?_⟩
   rename Fr _ _ _ _ => F4
   rename News _ _ _ _ => N4
   have hrl : rvs.size = (rowsOf wl (i + 1)).length := by rw [← r1.length]; exact Array.length_toList.symm
   refine list_s (σ := AT) (fun c => (L' + 1 + 1 + 1, c.oT) :: (L' + 1 + 1, oZ) :: (L' + 1, oW) :: (lw, W.listOf (strVals ws) ew) :: (D2, W.listOf rvs rep) :: tl) (fun _ => []) [Str.ofString "cut"]
    (fun j c => c.oT.data = .cell c.vT ∧ ∀ row ∈ (rowsOf wl (i + 1)).take j, ¬ RowTurns wl z (i + 1) row)
    ⟨oT, vT⟩ rfl (News.isList N4 (.head _)) (N4 _ (.head _)).2.1 F4 ?mN ⟨p3, fun row hr => by simp at hr⟩ (fn0 _) ?mturn ?mdone
   case mN =>
    refine nsub N4 fun q hq => ?_
    have hq' : q ∈ [(L' + 1 + 1 + 1, oT), (L' + 1 + 1, oZ), (L' + 1, oW), (lw, W.listOf (strVals ws) ew)] ++ ((D2, W.listOf rvs rep) :: tl) := hq
    refine ast hq' (fun hq => ?_) fun hq => ?_
    ·exact mT2 (maL (bs := tl) hq)
    refine mst hq ?_ fun hq => ?_
    ·exact .head _
    exact mT6 hq
   case mturn =>
    clear F4 N4
    intro j c v u2 h4 tk4 own4 wr4 hv4 hP4 hoffw4 hw4 hf4 F4 N4
    refine el2_2 (strsAre_get (i := j) (v := v) r1 (by simpa using hv4)) ?_; intro x tx e92 hx; subst e92
    obtain ⟨oT2, vT2⟩ := c
    refine el0_2 (hP4) ?_; (try clear hP4); intro s1 s2
    dsimp only at s1 s2 N4 F4 hoffw4
    refine gen_ ((D2, W.listOf rvs rep) :: (tl ++ own4)) ?_; intro tl4 htl4
    have N5 : News g' L' h4 ((L' + 1 + 1 + 1, oT2) :: (L' + 1 + 1, oZ) :: (L' + 1, oW) :: (lw, W.listOf (strVals ws) ew) :: tl4) := by rw [htl4]; exact N4
    clear N4
    have hxm : x ∈ rowsOf wl (i + 1) := List.mem_of_getElem? hx
    refine el0_2 (rowsOf_fact hwl1 hwl2 (i + 1) x hxm) ?_; intro hx1 hx2
    have hxl : x.length ≤ 12 := by
     show x.cps.size ≤ 12
     rw [hx1]
     exact Nat.mul_le_mul (show i + 1 ≤ 3 by lia) hz2
    k_steps
    refine ⟨?_⟩
    rename Fr _ _ _ _ => F6
    rename News _ _ _ _ => N6
    rename IsRange _ _ _ _ _ _ _ _ => hR
    refine range_s (σ := AT) (n := ((z : Int) - 1).toNat) (fun c => (L' + 1 + 1 + 1, c.oT) :: (L' + 1 + 1, oZ) :: (L' + 1, oW) :: (lw, W.listOf (strVals ws) ew) :: tl4) (fun _ => []) []
     (fun k c => c.oT.data = .cell c.vT ∧ ∀ c', c' < k → ¬ TurnIn wl z (i + 1) x c')
     ⟨oT2, vT2⟩ rfl hR (small_one (by lia) (by lia) (by lia) (by lia)) (rangeSize_nat _ _) F6 N6 ⟨s1, fun c' hc' => absurd hc' (Nat.not_lt_zero _)⟩ (fn0 _) ?iturn ?idone
    case iturn =>
     clear F6 N6 hR
     intro k c t5 u5 h5 tk5 own5 wr5 hk hP5 hoffw5 hw5 hf5 F5 N5
     obtain ⟨oT3, vT3⟩ := c
     refine el0_2 (hP5) ?_; (try clear hP5); intro s3 s4
     dsimp only at s3 s4 N5 F5 hoffw5
     refine gen_ (tl4 ++ own5) ?_; intro tl5 htl5
     have N6 : News g' L' h5 ((L' + 1 + 1 + 1, oT3) :: (L' + 1 + 1, oZ) :: (L' + 1, oW) :: (lw, W.listOf (strVals ws) ew) :: tl5) := by rw [htl5]; exact N5
     clear N5
     have hk2 : (k : Int) < (z : Int) - 1 := by lia
     have F5' : Fr g' L' h5 (frMap F5) := F5
     dsimp only [frMap] at F5'
     clear F5
     k_steps
     rename Fr _ _ _ _ => F7
     rename News _ _ _ _ => N7
     rename_i t9 _ _
     refine gen_ (Txt.slice x (some (1 + (k : Int))) none ++ Txt.slice x none (some (1 + (k : Int)))) ?_; intro tr htr
     rw [← htr]
     have htrl : tr.length ≤ 24 := by
      have e1 : (Txt.slice x (some (1 + (k : Int))) none).length ≤ x.length := by assumption
      have e2 : (Txt.slice x none (some (1 + (k : Int)))).length ≤ x.length := by assumption
      rw [htr, PySem.Str.length_append]
      lia
     have htro : PyData.strOk tr = true := by rw [htr]; exact ok_append (ok_slice hx2) (ok_slice hx2)
     refine cell_set (c := L' + 1 + 1 + 1) (m := frMap F7) F7 N7 (.head _) s3 rfl fun h9 oT4 F9 N9 hT9 => ?_
     have htlc : ∀ q ∈ tl5, q.1 ≠ L' + 1 + 1 + 1 := by
      intro q hq e
      rw [htl5, htl4, htl] at hq
      refine ast hq (fun hq => ?_) fun hq => ?_
      ·rcases mc1 hq with rfl | hq
       ·exact hD2 (L' + 1 + 1 + 1, oT) (by rw [hnw]; exact mH1) e.symm
       refine ast hq (fun hq => ?_) fun hq => ?_
       ·refine ast hq (fun hq => ?_) fun hq => ?_
        ·have h9 : q.1 < L' := l1 q (.tail _ hq)
         rw [e] at h9
         exact absurd h9 (Nat.not_lt.mpr (Nat.le_succ_of_le (Nat.le_succ_of_le (Nat.le_succ L'))))
        exact hoffw (L' + 1 + 1 + 1, oT) mH1 (e ▸ hf q hq)
       rcases hf4 q hq with h | h
       ·exact hoffw4 (L' + 1 + 1 + 1, oT2) (.head _) (e ▸ h)
       exact hD2 (L' + 1 + 1 + 1, oT) (by rw [hnw]; exact mH1) (e.symm.trans h)
      exact hoffw5 (L' + 1 + 1 + 1, oT3) (.head _) (e ▸ hf5 q hq)
     have N10 : News g' L' h9 ((L' + 1 + 1 + 1, oT4) :: (L' + 1 + 1, oZ) :: (L' + 1, oW) :: (lw, W.listOf (strVals ws) ew) :: tl5) := nsub N9 (sbc (mem_setAt_self (.head _)) (sbc (msN mH1 (nlt (Nat.lt_succ_self _))) (sbc (msN mH2 (nlt (nls (Nat.lt_succ_self _)))) (sbc (msN mH3 (nlt (nls (nls (nls (l1 _ (.head _))))))) (fun q hq => msN (mT4 hq) (htlc q hq))))))
     dsimp only [frMap] at F9
     clear F7 N7 N9
     k_steps
     refine ⟨?_⟩
     refine cq_list (h₀ := g') (L := L') (m := frMap F9) (by with_unfolding_all rfl) (by decide) (by rfl) (by decide) ?_
     k_steps
     refine ⟨?_⟩
     rename Fr _ _ _ _ => F13
     rename News _ _ _ _ => N13
     rename IsRange _ _ _ _ _ _ _ _ => hR
     dsimp only [frMap]
     refine gen_ ((L' + 1 + 1 + 1, oT4) :: (L' + 1 + 1, oZ) :: (L' + 1, oW) :: (lw, W.listOf (strVals ws) ew) :: tl5) ?_; intro nw5 hnw5
     have hxlen : (x.length : Int) = (((i + 1) * z : Nat) : Int) := congrArg Int.ofNat hx1
     rw [hxlen] at hR
     refine cgo_src (σ := CD) (.list _ _ _ _) (fun I D C => ct_list1) rfl rfl (src_range rfl hR (rng_size hi hz1 hz2).1 (rng_size hi hz1 hz2).2) F13 (hnw5 ▸ N13) (fun hm => nomatch hm)
      (fun D c => (D, W.listOf c.its c.ep) :: nw5) (fun D j c m₁ => DatAll [] c.its.toList c.ds ∧ (∀ d ∈ c.ds, kqdOk 8 d = true) ∧ (c.ds = [] ↔ ∀ j', j' < j → Txt.slice tr (some (0 + (j' : Int) * z)) (some (0 + (j' : Int) * z + z)) ∈ wl) ∧ c.its.size ≤ j) (fun D oD => ⟨#[], 0, []⟩) (fun D oD ho => by subst ho; rfl) (fun D oD ho => ⟨.nil, fn0 _, by simp, Nat.le_refl _⟩) ?cturn ?cdone
     case cturn =>
      intro C2 D3 I j v c oC m₁ h t7 own2 E' hDC hCI hDI hoff hi6 hv1 hP hnw4 hown hof hn F2 N2
      obtain ⟨_, tv2, rfl⟩ := hv1
      refine el0_4 (hP) ?_; (try clear hP); intro p6 p7 p8 p9
      refine gen_ (α := Str → Option Value) (fun y => if y = Str.ofString "k" then some (Value.int (0 + (j : Int) * z) tv2) else m₁ y) ?_; intro m₃ hm₃
      have hkk : m₃ (Str.ofString "k") = some (Value.int (0 + (j : Int) * z) tv2) := by rw [hm₃]; rfl
      rw [← hm₃] at hn
      refine gen_ (tl5 ++ own2) ?_; intro tlx htlx
      have N6 : News g' L' h ((C2, oC) :: (D3, W.listOf c.its c.ep) :: (L' + 1 + 1 + 1, oT4) :: (L' + 1 + 1, oZ) :: (L' + 1, oW) :: (lw, W.listOf (strVals ws) ew) :: tlx) := by
       rw [htlx]
       rw [hnw5] at N2
       exact N2
      have hD3 : ∀ q ∈ nw5 ++ own2, q.1 ≠ D3 := by
       intro q hq
       refine ast hq (fun hq => ?_) fun hq => ?_
       ·exact (hoff q hq).2.1
       rcases hof q hq with e2 | e2
       ·rw [e2]; exact hDI
       cases e2
      have hjz : 0 ≤ (j : Int) * z := Int.mul_nonneg (Int.natCast_nonneg j) (Int.natCast_nonneg z)
      clear N2 N13 F13
      refine wpAny_tests_one ?_
      k_steps
      refine ⟨?_⟩
      rename Fr _ _ _ _ => F7
      rename News _ _ _ _ => N7
      have hls : StrsAre (strVals ws).toList wl := hwl ▸ strVals_are ws
      refine notin_strs_S (ss := wl) N7 mH5 hls hwl2 (ok_slice htro) (by ke_room) ?_
      have hall : (∀ j', j' < j + 1 → Txt.slice tr (some (0 + (j' : Int) * z)) (some (0 + (j' : Int) * z + z)) ∈ wl) ↔ (∀ j', j' < j → Txt.slice tr (some (0 + (j' : Int) * z)) (some (0 + (j' : Int) * z + z)) ∈ wl) ∧ Txt.slice tr (some (0 + (j : Int) * z)) (some (0 + (j : Int) * z + z)) ∈ wl := by
       constructor
       ·exact fun h => ⟨fun j' hj' => h j' (nls hj'), h j (Nat.lt_succ_self j)⟩
       rintro ⟨h1, h2⟩ j' hj'
       rcases Nat.lt_succ_iff_lt_or_eq.mp hj' with h | rfl
       ·exact h1 j' h
       exact h2
      have hmx : ∀ q ∈ nw5 ++ own2, q ∈ (L' + 1 + 1 + 1, oT4) :: (L' + 1 + 1, oZ) :: (L' + 1, oW) :: (lw, W.listOf (strVals ws) ew) :: tlx := by
       intro q hq
       rw [htlx]
       rw [hnw5] at hq
       exact hq
      by_cases hf : Txt.slice tr (some (0 + (j : Int) * z)) (some (0 + (j : Int) * z + z)) ∈ wl
      ·rw [decide_eq_true hf]
       k_steps
       show CEnd _ _ _ _ _ _ _ _ _ _ _
       refine c_end c F7 N7 (oC := oC) (m' := m₃) (.head _) hn (fun q hq => ?_) (fun q hq => ?_) hnw4 ⟨p6, p7, ?_, Nat.le_succ_of_le p9⟩
       ·refine mst hq ?_ fun hq => ?_
        ·exact mH1
        exact mT2 (hmx q (maL _ hq))
       ·exact mT2 (hmx q (maR _ hq))
       rw [hall, p8]
       exact ⟨fun h => ⟨h, hf⟩, fun h => h.1⟩
      rw [decide_eq_false hf]
      k_steps
      refine emitL_go ?_
      k_steps
      refine append_S F7 N7 mH1 (size_le (by lia)) fun h8 F8 N8 => ?_
      show CEnd _ _ _ _ _ _ _ _ _ _ _
      refine c_end (⟨c.its.push (.int (0 + (j : Int) * z) tv2), c.ep + 1, c.ds ++ [Dat.int (0 + (j : Int) * z)]⟩ : CD) F8 N8 (oC := oC) (m' := m₃) (msN (.head _) hDC.symm) hn (fun q hq => ?_) (fun q hq => ?_) (fun q hq hm => ?_) ⟨?_, ?_, ?_, by show (c.its.push _).size ≤ _; rw [Array.size_push]; lia⟩
      ·refine mst hq ?_ fun hq => ?_
       ·exact mem_setAt_self mH1
       have hq' : q ∈ nw5 ++ own2 := maL _ hq
       exact msN (mT2 (hmx q hq')) (hD3 q hq')
      ·have hq' : q ∈ nw5 ++ own2 := maR _ hq
       exact msN (mT2 (hmx q hq')) (hD3 q hq')
      ·rcases mc1 hq with rfl | hq
       ·exact hnw4 _ (.head _) hm
       exact hnw4 q (.tail _ hq) hm
      ·rw [Array.toList_push]
       exact p6.append (.one (.int _ _))
      ·intro d hd
       refine ast hd (fun hd => ?_) fun hd => ?_
       ·exact p7 d hd
       rw [ms1 hd]; rfl
      rw [hall]
      exact ⟨fun h => absurd h (by simp), fun h => absurd h.2 hf⟩
     intro C2 D3 c oC m' h2 tk2 hDC hoff hP F2 N2 hn2 hnw4
     show compPost _ _ _ _ _ _ _ _ _
     refine post_none (L := L') F2 N2 hn2 hnw4 fun h3 F3 N3 => ?_
     clear F2 N2 N13 F13
     refine el0_4 (hP) ?_; (try clear hP); intro p6 p7 p8 p9
     obtain ⟨cits, cep, cds⟩ := c
     dsimp only at p6 p7 p8 N3
     rw [hnw5] at N3
     k_steps
     refine ⟨?_⟩
     rename Fr _ _ _ _ => F7
     rename News _ _ _ _ => N7
     refine kqd_eq N7 mH1 rfl (xs := cits.toList) (ka := cep) (by rw [Array.toArray_toList]) p6 (fn0 _) (.head _) rfl (ys := []) (kb := 0) rfl (.nil (news := [])) (fn0 _) p7 (fn0 _) (by ke_room) ?_
     by_cases hf : cds = []
     ·rw [decide_eq_true hf]
      k_steps
      dsimp only [TurnPost]
      k_steps
      refine ⟨?_⟩
      repeat (first | (dsimp only [TurnPost]; k_steps; refine ⟨?_⟩) | (k_unfold; (try dsimp only); k_steps; refine ⟨?_⟩))
      dsimp only [TurnPost]
      repeat (k_unfold; (try dsimp only))
      refine leaveK_ F7 N7 fun F8 N8 => ?_
      refine hret true _ _ ⟨fun _ => ⟨i, hi, x, hwl ▸ hxm, k, by lia, fun j' hj' => ?_⟩, fun _ => rfl⟩ F8 (nsub N8 fun q hq => ?_)
      ·rw [← hwl]
       have h8 := p8.mp hf j' hj'
       rw [htr] at h8
       exact h8
      refine mst hq ?_ fun hq => ?_
      ·exact mH5
      refine mT5 (.tail _ ?_)
      rw [htl5, htl4, htl]
      exact maL _ (.tail _ (maL _ (maL _ hq)))
     rw [decide_eq_false hf]
     k_steps
     refine ⟨?_⟩
     dsimp only [TurnPost]
     refine s_end (⟨oT4, some (.str tr t9)⟩ : AT) F7 N7 (fun q hq => ?_) (fun q hq => ?_) (fun q hq => ?_) ⟨hT9, fun c' hc' => ?_⟩ (fn0 _) (fun y h1 _ h2 => ?_)
     ·have hq' : q ∈ [(L' + 1 + 1 + 1, oT4), (L' + 1 + 1, oZ), (L' + 1, oW), (lw, W.listOf (strVals ws) ew)] ++ tl4 := hq
      refine .tail _ (.tail _ ?_)
      rw [htl5]
      have := maL own5 hq'
      rwa [List.append_assoc] at this
     ·refine mT5 (.tail _ ?_)
      rw [htl5]
      exact maR _ hq
     ·refine asp hq ?_ fun hq => ?_
      ·exact hoffw5 (L' + 1 + 1 + 1, oT3) (.head _)
      exact hoffw5 q (.tail _ hq)
     ·rcases Nat.lt_succ_iff_lt_or_eq.mp hc' with h | rfl
      ·exact s4 c' h
      intro ht
      refine hf (p8.mpr fun j' hj' => ?_)
      rw [htr]
      exact ht j' hj'
     have e1 : y ≠ Str.ofString "cut" := ne_rev h1 (by decide)
     rw [if_neg e1]
     exact kst_rest h2
    case idone =>
     intro c u9 h9 tk9 hP9 F9 N9
     k_steps
     refine ⟨?_⟩
     dsimp only [TurnPost]
     rename Fr _ _ _ _ => F10
     rename News _ _ _ _ => N10
     refine s_end c F10 N10 (fun q hq => ?_) (fun q hq => ?_) (fun q hq => ?_) ⟨hP9.1, fun row hrow => ?_⟩ (fn0 _) (fun y h1 _ h2 => ?_)
     ·have hq' : q ∈ [(L' + 1 + 1 + 1, c.oT), (L' + 1 + 1, oZ), (L' + 1, oW), (lw, W.listOf (strVals ws) ew)] ++ ((D2, W.listOf rvs rep) :: tl) := hq
      rw [htl4]
      have := maL own4 hq'
      rwa [List.append_assoc] at this
     ·refine mT3 (.tail _ ?_)
      rw [htl4]
      exact .tail _ (maR _ hq)
     ·refine asp hq ?_ fun hq => ?_
      ·exact hoffw4 (L' + 1 + 1 + 1, oT2) (.head _)
      exact hoffw4 q (.tail _ hq)
     ·rw [List.take_add_one, hx] at hrow
      refine ast hrow (fun hrow => ?_) fun hrow => ?_
      ·exact s2 row hrow
      have hrow' : row = x := by simpa using hrow
      rw [hrow']
      rintro ⟨c', hc', ht⟩
      exact hP9.2 c' (by lia) ht
     have e1 : y ≠ Str.ofString "row" := ne_rev h1 (by decide)
     have e2 : y ≠ Str.ofString "cut" := ne_rev h2 (by decide)
     rw [if_neg e2]
     refine (kst_rest rfl).trans ?_
     rw [if_neg e1]
     exact kst_rest h2
   intro c u9 h9 tk9 hP9 F9 N9
   k_steps
   refine ⟨?_⟩
   dsimp only [TurnPost]
   rename Fr _ _ _ _ => F10
   rename News _ _ _ _ => N10
   have hoD : ∀ b ∈ wr, b ≠ D2 := by
    intro b hb e
    refine el1_1 (hw b hb) ?_; intro o ho
    exact hD2 (b, o) (by rw [hnw, htl]; exact mT5 (maR _ ho)) e
   refine s_end (⟨D2, rvs, rowsOf wl (i + 1), rep, c.oT, c.vT⟩ : AR) F10 N10 (fun q hq => ?_) (fun q hq => ?_) (fun q hq => ?_) ⟨r1, rfl, hP9.1, fun e => hD2 (L' + 1 + 1 + 1, oT) (by rw [hnw]; exact mH1) e.symm, fun j hj row hrow => ?_⟩ (fs1 ?_) (fun y h1 h3 h2 => ?_)
   ·refine mst hq ?_ fun hq => ?_
    ·exact mH4
    have hq' : q ∈ [(L' + 1 + 1 + 1, c.oT), (L' + 1 + 1, oZ), (L' + 1, oW), (lw, W.listOf (strVals ws) ew)] ++ rest := hq
    refine ast hq' (fun hq => ?_) fun hq => ?_
    ·exact maL (bs := (D2, W.listOf rvs rep) :: tl) hq
    refine mT4 (.tail _ ?_)
    rw [htl]
    exact maL _ hq
   ·refine mT4 (.tail _ ?_)
    rw [htl]
    exact maR _ hq
   ·refine asp hq ?_ fun hq => ?_
    ·exact fun hm => hoD _ hm rfl
    refine asp hq ?_ fun hq => ?_
    ·exact hoffw (L' + 1 + 1 + 1, oT) mH1
    exact hoffw q (mT2 hq)
   ·rcases Nat.lt_succ_iff_lt_or_eq.mp hj with h | rfl
    ·exact p5 j h row hrow
    exact hP9.2 row (by rw [List.take_of_length_le (by rw [hrl]; exact Nat.le_refl _)]; exact hrow)
   ·rfl
   have e1 : y ≠ Str.ofString "again" := ne_rev h1 (by decide)
   have e2 : y ≠ Str.ofString "row" := ne_rev h2 (by decide)
   have e3 : y ≠ Str.ofString "rows" := h3 _ (.head _)
   have e4 : ([Str.ofString "cut"] : List Str).contains y = false := by
    rw [Bool.eq_false_iff]
    intro h
    simp only [List.contains_cons, List.contains_nil, Bool.or_false, beq_iff_eq] at h
    subst h
    revert h2; decide
   rw [if_neg e2]
   refine (kst_rest e4).trans ?_
   rw [if_neg e3, if_neg e1]
   show (if y = Str.ofString "rows" then _ else _) = _
   rw [if_neg e3]
   exact (kst_rest h2)
 intro c u9 h9 tk9 hP9 F9 N9
 k_steps
 rename Fr h₀ _ _ _ => kF
 rename News h₀ _ _ _ => kN
 refine hret false _ _ ⟨fun h => absurd h (by decide), fun ⟨j, hj, row, hr, ht⟩ => absurd ht (hwl ▸ hP9.2.2.2.2 j hj row (hwl ▸ hr))⟩ kF (nsub kN fun q hq => ?_)
 exact mT4 hq
section
variable {prog : Program} {w : World} {A : Around} {E : Value → Shared → Prop} {s : Shared} {env : Env} {h₀ : Heap} {Q : Flow → Shared → Prop} {body : List Stmt}
theorem enumL_loop {xi xc : Str} {pk pv pt : Pos} {x1 : Nat} {l : Addr} {items : Array Value} {m : Str → Option Value} {news : List (Addr × Obj)} (hh : A.handled = none) 
  (hxi : env.kindOf xi = some .local) (hxc : env.kindOf xc = some .local)
  (hp : (env.scope.kind == .class || (env.scope.kind == .module && env.locals != env.globals)) = false) (hE : PassesOwn (model prog w) A env E)
  (hl : s.heap.IsList l items) (hlL : l ≠ env.locals)
  (F : Fr h₀ env.locals s.heap m) (N : News h₀ env.locals s.heap news) (J : Nat → (Str → Option Value) → List (Addr × Obj) → Prop) (h0 : J 0 m news)
  (turn : ∀ (i : Nat) (v : Value) ti m₁ nx h tk own wr, items[i]? = some v → J i m₁ nx → (∀ p ∈ nx, p.1 ∉ wr) → (∀ b ∈ wr, ∃ o, (b, o) ∈ own) → (∀ p ∈ own, p.1 ∈ wr ∨ p.1 = l) →
   Fr h₀ env.locals h (fun y => if y = xc then some v else if y = xi then some (.int i ti) else m₁ y) → News h₀ env.locals h (nx ++ own) →
   wpAny (model prog w) A (execs body env) (TurnPost h₀ env.locals wr own (J (i + 1)) { s with heap := h, toks := tk } Q) E { s with heap := h, toks := tk })
  (done : ∀ m₁ nx h tk, J items.size m₁ nx → Fr h₀ env.locals h m₁ → News h₀ env.locals h nx → Q .next { s with heap := h, toks := tk }) :
  wpAny (model prog w) A (call (.type "enumerate") [.ref l]) (fun xv s₁ => wpAny (model prog w) A (pyIter xv) (fun it s₂ => PLoop prog w A env (.Tuple [.Name xi pk, .Name xc pv] x1 pt) body Q E it s₂) E s₁) E s := by
 have hLs : env.locals < s.heap.objs.size := F.ns.lt
 have hab : h₀.objs.size ≤ env.locals := F.above
 refine el1_2 (id hl) ?_; intro ol hol _
 have hlt : l < s.heap.objs.size := Heap.lt_size hol
 refine call_enumerate_list hl fun h' he hit hsz hk => ?_
 have F' : Fr h₀ env.locals h' m := ⟨F.ns.keeps hk, fun b o e => hk b o (F.keep b o e), F.above⟩
 have N' : News h₀ env.locals h' news := fun p hp => ⟨hk _ _ (N p hp).1, (N p hp).2⟩
 refine wpAny_pyIter_enum he ?_
 refine ploop (P2 := fun i v0 v1 => ∃ ti, items[i]? = some v1 ∧ v0 = .int i ti) hh (WalksT.enumerateD (Draws.list (A := A.in1) hh s.heap.objs.size l (nlt hlt) items) (s.heap.objs.size + 1) (Nat.succ_ne_self _) (fun hm => ?_) (by simp)) ?_ ?_ hxi hxc hp hE ?_ ?_ ?_ ⟨⟨_, by simpa using he⟩, hit, hl.at fun o e => hk l o e⟩ F' N' J h0 ?_ ?_
 ·rcases mc1 hm with e | hm
  ·exact Nat.succ_ne_self _ e
  have h9 := ms1 hm
  rw [← h9] at hlt
  exact Nat.not_lt.mpr (Nat.le_succ _) hlt
 ·rintro i vals ⟨ti, v, hc, rfl⟩
  exact ⟨_, _, rfl, ti, hc, rfl⟩
 ·rintro i h ⟨⟨old, he'⟩, hs'⟩ b hb
  refine asp hb ?_ fun hb => ?_
  ·exact ⟨_, he'⟩
  rw [ms1 hb]
  refine el1_2 (hs'.1) ?_; intro o ho _
  exact ⟨o, ho⟩
 ·intro hm
  rcases mc1 hm with e | hm
  ·exact nlt (nls hLs) e
  rcases mc1 hm with e | hm
  ·exact nlt hLs e
  exact hlL (ms1 hm).symm
 ·intro b hb
  refine asp hb ?_ fun hb => ?_
  ·exact Heap.get?_none_of_le (Nat.le_trans hab (Nat.le_of_lt (nls hLs)))
  rw [ms1 hb]; exact Heap.get?_none_of_le (Nat.le_trans hab (Nat.le_of_lt hLs))
 ·intro p hp' hb
  have hq1 : p.1 < s.heap.objs.size := Heap.lt_size (N p hp').1
  rcases mc1 hb with e1 | hb
  ·exact nlt (nls hq1) e1
  exact nlt hq1 (ms1 hb)
 ·rintro i v0 v1 m₁ nx h tk own hi ⟨ti, hc, rfl⟩ hJ hn hw hf F₁ N₁
  refine turn i v1 ti m₁ nx h tk own _ hc hJ hn hw (fun p hp => ?_) F₁ N₁
  have hm := hf p hp
  rcases mc1 hm with e | hm
  ·exact .inl (e ▸ .head _)
  rcases mc1 hm with e | hm
  ·exact .inl (e ▸ mH1)
  exact .inr (ms1 hm)
 exact fun m₁ nx h tk hJ F₁ N₁ => done m₁ nx h tk hJ F₁ N₁
theorem enumL_s {σ : Type} {xi xc : Str} {pk pv pt : Pos} {x1 : Nat} {l : Addr} {items : Array Value} {m₀ : Str → Option Value} (Led : σ → List (Addr × Obj)) (ps : σ → List (Str × Value)) (stored : List Str) (P : Nat → σ → Prop) (c₀ : σ) (hh : A.handled = none) 
  (hxi : env.kindOf xi = some .local) (hxc : env.kindOf xc = some .local)
  (hp : (env.scope.kind == .class || (env.scope.kind == .module && env.locals != env.globals)) = false) (hE : PassesOwn (model prog w) A env E)
  (hl : s.heap.IsList l items) (hlL : l ≠ env.locals)
  (F : Fr h₀ env.locals s.heap m₀) (N : News h₀ env.locals s.heap (Led c₀)) (hP : P 0 c₀) (hk : ∀ p ∈ ps c₀, m₀ p.1 = some p.2)
  (turn : ∀ (i : Nat) (c : σ) (v : Value) ti (u : Str → Option Value) h tk own wr, items[i]? = some v → P i c → (∀ p ∈ Led c, p.1 ∉ wr) → (∀ b ∈ wr, ∃ o, (b, o) ∈ own) → (∀ p ∈ own, p.1 ∈ wr ∨ p.1 = l) →
   Fr h₀ env.locals h (fun y => if y = xc then some v else if y = xi then some (.int i ti) else kstB (fun z => if stored.contains z then u z else m₀ z) (ps c) y) → News h₀ env.locals h (Led c ++ own) →
   wpAny (model prog w) A (execs body env) (TurnPost h₀ env.locals wr own (SJ Led ps [xi, xc] stored m₀ P (i + 1)) { s with heap := h, toks := tk } Q) E { s with heap := h, toks := tk })
  (done : ∀ (c : σ) (u : Str → Option Value) h tk, P items.size c → Fr h₀ env.locals h (fun y => if y = xc then u y else if y = xi then u y else kstB (fun z => if stored.contains z then u z else m₀ z) (ps c) y) → News h₀ env.locals h (Led c) → Q .next { s with heap := h, toks := tk }) :
  wpAny (model prog w) A (call (.type "enumerate") [.ref l]) (fun xv s₁ => wpAny (model prog w) A (pyIter xv) (fun it s₂ => PLoop prog w A env (.Tuple [.Name xi pk, .Name xc pv] x1 pt) body Q E it s₂) E s₁) E s := by
 refine enumL_loop hh hxi hxc hp hE hl hlL F N (SJ Led ps [xi, xc] stored m₀ P) ⟨c₀, rfl, hP, hk, fun _ _ _ _ => rfl⟩ ?_ ?_
 ·rintro i v ti m₁ nx h tk own wr hc ⟨c, rfl, hPc, h1, h2⟩ hn hw hf F₁ N₁
  rw [sj_map2 h1 h2] at F₁
  exact turn i c v ti m₁ h tk own wr hc hPc hn hw hf F₁ N₁
 rintro m₁ nx h tk ⟨c, rfl, hPc, h1, h2⟩ F₁ N₁
 rw [sj_out2 h1 h2] at F₁
 exact done c m₁ h tk hPc F₁ N₁
end
def EEnd {σ : Type} (h₀ : Heap) (L : Addr) (mm : σ → Str → Option Value) (c I : Addr) (own : List (Addr × Obj)) (Led : σ → List (Addr × Obj)) (P : Nat → σ → Prop) (i : Nat) (s : Shared) (Q : Flow → Shared → Prop) (f : Flow) (s₃ : Shared) : Prop :=
 match f with
 | .ret v => Q (.ret v) s₃
 | .brk => Q .next s₃
 | _ => ∃ h' tk' cst oX vX, s₃ = { s with heap := h', toks := tk' } ∧ Fr h₀ L h' (mm cst) ∧ News h₀ L h' ((c, oX) :: (Led cst ++ own)) ∧ oX.data = .cell vX ∧ (∀ p ∈ Led cst, p.1 ≠ I ∧ p.1 ≠ c) ∧ P i cst
section
variable {prog : Program} {w : World} {A : Around} {E : Value → Shared → Prop} {s : Shared} {h₀ : Heap} {L : Addr} {Q : Flow → Shared → Prop} {body : List Stmt}
theorem list_cell {σ : Type} {cn : Str} {cs : Scope} {a : Addr} {ccd : Value} {cl : List (Str × Addr)} {x : Str} {px : Pos} {c l : Addr} {items : Array Value} (Led : σ → List (Addr × Obj)) (mm : σ → Str → Option Value) (P : Nat → σ → Prop) (c₀ : σ) {oX₀ : Obj} {vX₀ : Option Value} (hh : A.handled = none)
  (hl : s.heap.IsList l items) (hlL : l ≠ L) (hlc : l ≠ c) (F : Fr h₀ L s.heap (mm c₀)) (N : News h₀ L s.heap ((c, oX₀) :: Led c₀)) (hX₀ : oX₀.data = .cell vX₀) (hLc : ∀ p ∈ Led c₀, p.1 ≠ c) (hP : P 0 c₀)
  (hE : PassesOwn (model prog w) A (envX cn cs L a ccd cl) E) (hc : cl.lookup x = some c)
  (turn : ∀ I i v (cst : σ) oX h tk own, items[i]? = some v → P i cst → (∀ p ∈ Led cst, p.1 ≠ I ∧ p.1 ≠ c) → I ≠ c → (∃ o, (I, o) ∈ own) → (∀ p ∈ own, p.1 = I ∨ p.1 = l) → oX.data = .cell (some v) → Fr h₀ L h (mm cst) → News h₀ L h ((c, oX) :: (Led cst ++ own)) →
   wpAny (model prog w) A (execs body (envX cn cs L a ccd cl)) (EEnd h₀ L mm c I own Led P (i + 1) { s with heap := h, toks := tk } Q) E { s with heap := h, toks := tk })
  (done : ∀ (cst : σ) oX vX h tk, P items.size cst → oX.data = .cell vX → (∀ p ∈ Led cst, p.1 ≠ c) → Fr h₀ L h (mm cst) → News h₀ L h ((c, oX) :: Led cst) → Q .next { s with heap := h, toks := tk })
  (hk : cs.kind = .function := by rfl) (hx : (envX cn cs L a ccd cl).kindOf x = some .cell := by rfl) :
  wpAny (model prog w) A (pyIter (.ref l)) (fun it s₂ => FLoop prog w A (envX cn cs L a ccd cl) (.Name x px) body Q E it s₂) E s := by
 refine el1_2 (id hl) ?_; intro ol hol hol2
 have hlt : l < s.heap.objs.size := Heap.lt_size hol
 have hLlt : L < s.heap.objs.size := F.ns.lt
 have hclt : c < s.heap.objs.size := Heap.lt_size (N _ (.head _)).1
 refine wpAny_pyIter_list hl ?_
 have W := Walks.list (prog := prog) (w := w) (A := A) hh s.heap.objs.size l (nlt hlt) items
 have hI0 : h₀.get? s.heap.objs.size = none := next_is_new F
 have hIc : s.heap.objs.size ≠ c := ngt hclt
 have hLf : L ∉ [s.heap.objs.size, l] := fun hm => by
  rcases mc1 hm with e | hm
  ·exact nlt hLlt e
  exact hlL (ms1 hm).symm
 refine floop_w W hE (fun i s' => ∃ h tk cst oX vX, s' = { s with heap := h, toks := tk } ∧ (h.IsListIter s.heap.objs.size l i ∧ h.IsList l items) ∧ Fr h₀ L h (mm cst) ∧ News h₀ L h ((c, oX) :: Led cst) ∧ oX.data = .cell vX ∧ (∀ p ∈ Led cst, p.1 ≠ s.heap.objs.size ∧ p.1 ≠ c) ∧ P i cst) ?_ ?_ ?_ ?_
 ·rintro i s' ⟨h, tk, cst, oX, vX, rfl, hst, _⟩
  exact hst
 ·refine ⟨_, _, c₀, oX₀, vX₀, rfl, ⟨⟨_, Heap.get?_push_size _ rfl, rfl, rfl⟩, hl.at fun o e => Heap.get?_push_of_some _ e⟩, F.push _, fun p hp => ⟨Heap.get?_push_of_some _ (N p hp).1, (N p hp).2⟩, hX₀, fun p hp => ⟨nlt (Heap.lt_size (N p (.tail _ hp)).1), hLc p hp⟩, hP⟩
 ·rintro i v s₁ h₁ tk hi hv ⟨h, tk', cst, oX, vX, rfl, hst, F₁, N₁, hX, hoff, hP₁⟩ hst₁ hk₁
  have up : ∀ b o, b ≠ s.heap.objs.size → h.get? b = some o → h₁.get? b = some o := fun b o hb e => hk₁ b o (fun hm => hb (ms1 hm)) e
  have F₂ : Fr h₀ L h₁ (mm cst) := ⟨F₁.ns.at' fun o e => up _ o (nlt hLlt) e, fun b o e => up b o (fun q => by rw [q, hI0] at e; cases e) (F₁.keep b o e), F₁.above⟩
  have N₂ : News h₀ L h₁ ((c, oX) :: Led cst) := by
   intro p hp
   refine ⟨up _ _ ?_ (N₁ p hp).1, (N₁ p hp).2⟩
   refine asp hp ?_ fun hp => ?_
   ·exact hIc.symm
   exact (hoff p hp).1
  have N₅ : News h₀ L h₁ ((c, oX) :: (Led cst ++ ownOf h₀ [s.heap.objs.size, l] h₁)) := by
   intro p hp
   refine asp hp ?_ fun hp => ?_
   ·exact N₂ _ (.head _)
   refine ast hp (fun hp => ?_) fun hp => ?_
   ·exact N₂ _ (.tail _ hp)
   exact news_ownOf hLf p hp
  refine wpAny_assign_Name (cell_set (m := mm cst) F₂ N₅ (.head _) hX hc (fun h₃ oX₃ F₃ N₃ hX₃ => ?_) hk hx)
  have hst₃ : h₃.IsListIter s.heap.objs.size l (i + 1) ∧ h₃.IsList l items := by
   refine W.frame _ _ _ hst₁ fun b hb o e => ?_
   cases hn : h₀.get? b with
   | some o₀ =>
    have : o₀ = o := by have := F₂.keep b o₀ hn; rw [e] at this; exact (Option.some.inj this).symm
    exact this ▸ F₃.keep b o₀ hn
   | none =>
    refine (N₃ _ (msN (.tail _ (maR _ (mem_ownOf hb hn e))) ?_)).1
    show b ≠ c
    refine asp hb ?_ fun hb => ?_
    ·exact hIc
    rw [ms1 hb]; exact hlc
  have N₄ : News h₀ L h₃ ((c, oX₃) :: (Led cst ++ ownOf h₀ [s.heap.objs.size, l] h₃)) := by
   intro p hp
   refine asp hp ?_ fun hp => ?_
   ·exact N₃ _ (mem_setAt_self (.head _))
   refine ast hp (fun hp => ?_) fun hp => ?_
   ·exact N₃ _ (msN (.tail _ (maL _ hp)) (hoff p hp).2)
   exact news_ownOf hLf p hp
  have hown : ∃ o, (s.heap.objs.size, o) ∈ ownOf h₀ [s.heap.objs.size, l] h₃ := by
   refine el1_2 (hst₃.1) ?_; intro o ho _
   exact ⟨o, mem_ownOf (.head _) hI0 ho⟩
  have hof : ∀ p ∈ ownOf h₀ [s.heap.objs.size, l] h₃, p.1 = s.heap.objs.size ∨ p.1 = l := fun p hp => (mc1 (ownOf_sub p hp)).imp id ms1
  refine wpAny_mono (turn _ i v cst oX₃ h₃ _ _ hv hP₁ hoff hIc hown hof hX₃ F₃ N₄) (fun f s₃ hf => ?_) fun _ _ e => e
  have key : (∃ h' tk' cst' oX' vX', s₃ = { { s with heap := h₃, toks := tk } with heap := h', toks := tk' } ∧ Fr h₀ L h' (mm cst') ∧ News h₀ L h' ((c, oX') :: (Led cst' ++ ownOf h₀ [s.heap.objs.size, l] h₃)) ∧ oX'.data = .cell vX' ∧ (∀ p ∈ Led cst', p.1 ≠ s.heap.objs.size ∧ p.1 ≠ c) ∧ P (i + 1) cst') →
    ∃ h tk cst oX vX, s₃ = { s with heap := h, toks := tk } ∧ (h.IsListIter s.heap.objs.size l (i + 1) ∧ h.IsList l items) ∧ Fr h₀ L h (mm cst) ∧ News h₀ L h ((c, oX) :: Led cst) ∧ oX.data = .cell vX ∧ (∀ p ∈ Led cst, p.1 ≠ s.heap.objs.size ∧ p.1 ≠ c) ∧ P (i + 1) cst := by
   rintro ⟨h', tk', cst', oX', vX', rfl, F', N', hX', hoff', hP'⟩
   refine ⟨h', tk', cst', oX', vX', rfl, ?_, F', nsub N' fun p hp => ?_, hX', hoff', hP'⟩
   ·refine W.frame _ _ _ hst₃ fun b hb o e => ?_
    cases hn : h₀.get? b with
    | some o₀ =>
     have : o₀ = o := by have := F₃.keep b o₀ hn; rw [e] at this; exact (Option.some.inj this).symm
     exact this ▸ F'.keep b o₀ hn
    | none => exact (N' _ (.tail _ (maR _ (mem_ownOf hb hn e)))).1
   refine mst hp ?_ fun hp => ?_
   ·exact .head _
   exact .tail _ (maL _ hp)
  cases f with
  | ret v => exact hf
  | brk => exact hf
  | next => exact key hf
  | cont => exact key hf
 rintro s₁ h₁ tk ⟨h, tk', cst, oX, vX, rfl, hst, F₁, N₁, hX, hoff, hP₁⟩ hk₁
 have up : ∀ b o, b ≠ s.heap.objs.size → h.get? b = some o → h₁.get? b = some o := fun b o hb e => hk₁ b o (fun hm => hb (ms1 hm)) e
 refine done cst oX vX h₁ tk hP₁ hX (fun p hp => (hoff p hp).2) ⟨F₁.ns.at' fun o e => up _ o (nlt hLlt) e, fun b o e => up b o (fun q => by rw [q, hI0] at e; cases e) (F₁.keep b o e), F₁.above⟩ fun p hp => ⟨up _ _ ?_ (N₁ p hp).1, (N₁ p hp).2⟩
 refine asp hp ?_ fun hp => ?_
 ·exact hIc.symm
 exact (hoff p hp).1
end
theorem setItem_N {prog : Program} {w : World} {A : Around} {E : Value → Shared → Prop} {s : Shared} {h₀ : Heap} {L l : Addr} {m : Str → Option Value} {news : List (Addr × Obj)} {its : Array Value} {n : Nat} {k : Int} {t : Tok} {v : Value} {Q : Unit → Shared → Prop}
  (F : Fr h₀ L s.heap m) (N : News h₀ L s.heap news) (hm : (l, W.listOf its n) ∈ news) (h0 : 0 ≤ k) (h1 : k < its.size) (hz : its.size ≤ 64)
  (h : ∀ h' n' v', v' = v → Fr h₀ L h' m → News h₀ L h' (setAt l (W.listOf (its.setIfInBounds k.toNat v') n') news) → Q () { s with heap := h' }) : wpAny (model prog w) A (setItem (.ref l) (.int k t) v) Q E s := by
 refine ki_setAt (N _ hm).1 h0 (by lia) h1 ?_
 have hs : Heap.SameBut l s.heap (s.heap.update l (Obj.mapSeq (·.setIfInBounds k.toNat v))) := Heap.SameBut.update ..
 obtain ⟨n', hn'⟩ : ∃ n', Obj.mapSeq (·.setIfInBounds k.toNat v) (W.listOf its n) = W.listOf (its.setIfInBounds k.toNat v) n' := ⟨_, rfl⟩
 exact h _ n' v rfl (F.change hs (N _ hm).2.1 (N _ hm).2.2) (newsSetAt N hm hs (by rw [← hn']; exact Heap.get?_update_self _ (N _ hm).1 rfl))
theorem intsAre_get : ∀ {vs : List Value} {xs : List Int} {i : Nat} {v : Value}, IntsAre vs xs → vs[i]? = some v → ∃ x t, v = .int x t ∧ xs[i]? = some x
 | _, _, i, v, .nil, h => by simp at h
 | _, _, 0, v, .cons x t _, h => ⟨x, t, (Option.some.inj (by simpa using h)).symm, by simp⟩
 | _, _, i + 1, v, .cons x t hs, h => by
  refine el2_2 (intsAre_get hs (by simpa using h)) ?_; intro y ty e1 e2
  exact ⟨y, ty, e1, by simpa using e2⟩
theorem intsAre_set : ∀ {vs : List Value} {xs : List Int} (i : Nat) (y : Int) (t : Tok), IntsAre vs xs → IntsAre (vs.set i (.int y t)) (xs.set i y)
 | _, _, _, _, _, .nil => .nil
 | _, _, 0, y, t, .cons _ _ hs => .cons y t hs
 | _, _, i + 1, y, t, .cons x u hs => .cons x u (intsAre_set i y t hs)
theorem ints4 {vs : List Value} {as : List Int} (h : IntsAre vs as) (hl : as.length = 4) : ∃ a0 a1 a2 a3 t0 t1 t2 t3, vs = [.int a0 t0, .int a1 t1, .int a2 t2, .int a3 t3] ∧ as = [a0, a1, a2, a3] := by
 cases h with
 | nil => cases hl
 | cons a0 t0 h =>
  cases h with
  | nil => cases hl
  | cons a1 t1 h =>
   cases h with
   | nil => cases hl
   | cons a2 t2 h =>
    cases h with
    | nil => cases hl
    | cons a3 t3 h =>
     cases h with
     | nil => exact ⟨a0, a1, a2, a3, t0, t1, t2, t3, rfl, rfl⟩
     | cons a4 t4 h => simp at hl
theorem sub_N {prog : Program} {w : World} {A : Around} {E : Value → Shared → Prop} {s : Shared} {h₀ : Heap} {L l : Addr} {news : List (Addr × Obj)} {its : Array Value} {n : Nat} {k : Int} {t : Tok} {x : Value} {value slice : PySem.Expr} {Q : Value → Shared → Prop}
  (N : News h₀ L s.heap news) (hm : (l, W.listOf its n) ∈ news) (h0 : 0 ≤ k) (h1 : k < 2 ^ 63) (hx : its[k.toNat]? = some x) (h : Q x s)
  (hb : subscripted slice false (.ref l) (.int k t) = operate [.ref l, .int k t] (getItem (.ref l) (.int k t)) := by with_unfolding_all rfl) :
  wpAny (model prog w) A (subscriptTail value slice (.ref l) (.int k t)) Q E s :=
 tail_any (News.isList N hm).typeIs slot_list_getitem.lookup (wpAny_getItem_list (News.isList N hm) h0 h1 hx h) hb
structure WW where
 ws : List (Str × Tok)
 ew : Nat
 wv : Option Value
noncomputable def okW (x : Str) : Bool := x.cps.all fun c => decide (c < 124)
theorem okW_append {x y : Str} (hx : okW x = true) (hy : okW y = true) : okW (x ++ y) = true := by
 unfold okW at *
 rw [PySem.Str.cps_append, ← Array.all_toList, Array.toList_append, List.all_append, Array.all_toList, Array.all_toList, hx, hy]
 rfl
theorem okW_ok {x : Str} (h : okW x = true) : PyData.strOk x = true := by
 unfold okW at h
 unfold PyData.strOk
 rw [Array.all_eq_true'] at h ⊢
 intro c hc
 have := of_decide_eq_true (h c hc)
 exact decide_eq_true (by lia)
theorem ok_glued {g : Str} (hg : okW g = true) : ∀ (r : List Str) (acc : Array Nat), okW ⟨acc⟩ = true → (∀ x ∈ r, okW x = true) → okW ⟨r.foldl (fun acc p => acc ++ g.cps ++ p.cps) acc⟩ = true
 | [], _, h, _ => h
 | p :: r, acc, h, hr => ok_glued hg r _ (okW_append (x := (⟨acc⟩ : Str) ++ g) (okW_append h hg) (hr p (.head _))) fun x hx => hr x (.tail _ hx)
theorem ok_join {l : List Str} (h : ∀ x ∈ l, okW x = true) : okW (PySem.Txt.join (PySem.Str.ofString "") l) = true := by
 show okW (Builtin.Str.glued (PySem.Str.ofString "") l) = true
 cases l with
 | nil => decide +kernel
 | cons a r => exact ok_glued (by decide +kernel) r a.cps (h a (.head _)) fun x hx => h x (.tail _ hx)
theorem fr_over {h₀ h : Heap} {L : Addr} {x : Str} {a b : Option Value} {f : Str → Option Value} (F : Fr h₀ L h (fun y => if y = x then a else if y = x then b else f y)) : Fr h₀ L h (fun y => if y = x then a else f y) := by
 have e : (fun y => if y = x then a else if y = x then b else f y) = fun y => if y = x then a else f y := by
  funext y
  by_cases h : y = x
  ·rw [if_pos h, if_pos h]
  rw [if_neg h, if_neg h, if_neg h]
 rw [e] at F
 exact F
theorem strVals_snoc (ws : List (Str × Tok)) (x : Str) (t : Tok) : (strVals ws).push (.str x t) = strVals (ws ++ [(x, t)]) := by
 unfold strVals
 simp
theorem append_V {prog : Program} {w : World} {A : Around} {E : Value → Shared → Prop} {s : Shared} {h₀ : Heap} {L l : Addr} {m : Str → Option Value} {news : List (Addr × Obj)} {its : Array Value} {n : Nat} {x : Value} {Q : Value → Shared → Prop} (F : Fr h₀ L s.heap m) (N : News h₀ L s.heap news) (hm : (l, W.listOf its n) ∈ news) (hsz : its.size ≤ sizeLine)
  (h : ∀ h' v, v = x → Fr h₀ L h' m → News h₀ L h' (setAt l (W.listOf (its.push v) (n + 1)) news) → Q .none { s with heap := h' }) : wpAny (model prog w) A (call (.builtin "list.append") [.ref l, x]) Q E s :=
 append_S F N hm hsz fun h' F' N' => h h' x rfl F' N'
theorem ok_item {x : Str} {i : Int} (h : okW x = true) : okW (Txt.item x i) = true := by
 unfold Txt.item
 have key : ∀ c, Txt.charAt x i = some c → c < 124 := by
  intro c hc
  unfold okW at h
  rw [Array.all_eq_true'] at h
  have hm : c ∈ x.cps := by
   unfold Txt.charAt at hc
   refine el1_2 (Option.bind_eq_some_iff.mp hc) ?_; intro j _ hj
   exact Array.mem_of_getElem? hj
  exact of_decide_eq_true (h c hm)
 cases e : Txt.charAt x i with
 | none => exact (by decide +kernel : okW ⟨#[0]⟩ = true)
 | some c =>
  show okW ⟨#[c]⟩ = true
  unfold okW
  simpa using key c e
theorem strsAre_carried : ∀ {vs : List Value} {ss : List Str}, StrsAre vs ss → CarriedAll vs (ss.map fun a => PyData.str a)
 | _, _, .nil => .nil
 | _, _, .cons x t h => .cons (.str x t) (strsAre_carried h)
structure CX where
 its : Array Value
 ep : Nat
 ss : List Str
structure WC where
 vs : List Value
 as : List Int
 ep : Nat
theorem words_c (w : World) (p : Program) (lo : List Str) (mean : ExcName → Option Value) (mg mb : Str → Option Value)
  (gd : Option (List Code)) (cn : Str) (cs : Scope) (a : Addr) (ccd : Value) (cl : List (Str × Addr)) (outer : List Env) (A₀ : Around) (base h₀ : Heap) (L : Addr) (m : Str → Option Value) (rest : List (Addr × Obj)) (s : Shared)
  (lx : Addr) (vs : List Value) (xs : List Int) (Q E : Value → Shared → Prop)
  (B : Below A₀ base outer h₀) (F : Fr h₀ L s.heap m) (X : (Mine.K w.params).In h₀) (N : News h₀ L s.heap rest) (T : Top p lo mean mg mb h₀) (hk : cs.kind = .function)
  (hL : h₀.IsList lx vs.toArray) (hI : IntsAre vs xs) (hlen : xs.length ≤ 63)
  (hret : ∀ D lw ws ew (z : Nat) tz et h' tk', ws.length ≤ 3 → 2 ≤ z → z ≤ 4 → (∀ q ∈ ws, q.1.cps.size = z ∧ okW q.1 = true) → (ws.map (·.1)).Nodup → Fr h₀ L h' m → News h₀ L h' ((D, (⟨.type "tuple", none, .seq #[.ref lw, .int (z : Int) tz] et, #[]⟩ : Obj)) :: (lw, W.listOf (strVals ws) ew) :: rest) → Q (.ref D) { s with heap := h', toks := tk' }) :
  wpAny (model (rw_nq0317_01.prog) w) (ktrTop 340 400 gd cn cs L a ccd cl outer) (call (.ref 371) [.ref lx]) Q E s := by
 k_with_none
 k_with "k_all" => first | assumption | (intro p9 hp9; (repeat (rename _ ∧ _ => hc9; obtain ⟨_, _⟩ := hc9)); have h9 := allLt_mem2 (by assumption) _ hp9; exact nlt (Nat.lt_of_lt_of_le h9 (by omega)))
 k_with "execs cons" => (k_here; (fail_if_success (rename Stop _ => h9)); first | k_made | ((fail_if_success (fail_if_success k_gentoks)); refine (let tk : Nat := _; (?_ : wpAny _ _ _ _ _ ⟨_, _, _, tk, _⟩))) | ((with_reducible refine wpAny_execs_cons ?_); (try dsimp only); refine (let qv : Flow → Shared → Prop := _; (?_ : wpAny _ _ _ qv _ _))))
 k_with "execs nil" => (k_here; (fail_if_success (fail_if_success k_gentoks)); refine (let tk : Nat := _; (?_ : wpAny _ _ _ _ _ ⟨_, _, _, tk, _⟩)))
 k_with "exec For Tuple Call" => k_dflt (refine for_pair ?_ (by intro _; with_unfolding_all rfl))
 k_with "exec For Name" => refine stopped ?_
 k_with "call type:enumerate" => refine stopped ?_
 k_with "compareOp NotIn str ref" => refine stopped ?_
 k_with "eval ListComp" => refine stopped ?_
 k_with "pyIter ref" => refine stopped ?_
 k_with "TurnPost" => refine stopped ?_
 k_with "setItem ref int" => refine stopped ?_
 revert X
 k_fill
 intro X
 refine wpAny_call ?_
 k_dflt (refine' code_defC (binds := [(Str.ofString "script", .ref lx)]) ?k1 ?k2 ?k3 ?k4 ?k5 ?kA ?kF ?kK ?k6 ?k7 ?k8 ?k9 ?kB ?kD ?_ ?c2 ?c3 ?c4; (case kA => exact rfl); (case kF => exact rfl); (case kK => assumption); (case k1 => k_asm); (case k2 => k_asm); (case k3 => k_asm); (case k4 => k_asm); (case k5 => k_asm); (case k6 => k_is); (case k7 => k_is); (case k8 => ktr_room); (case k9 => exact BindsTo.of_eq rfl); (case kB => exact rfl); (case kD => decide +kernel); (case c2 => exact rfl); (case c3 => exact rfl); (case c4 => exact rfl); k_whole; intro g' L' h' tk' cells' FG' F' N' Y' B' X' T' l1; k_cells Y'; (try simp only [List.cons_append, List.nil_append] at N'); (try dsimp only); (try k_fold))
 have hL' : g'.IsList lx vs.toArray := hL.at fun o e => FG'.keep lx o e
 k_steps
 refine ⟨?_⟩
 rename Fr _ _ _ _ => F2
 rename News _ _ _ _ => N2
 rename IntsAre _ (List.take 60 xs) => hI2
 rename_i oC oL dC dL _ lc _ lc1 _ D2 vs2 _ hC2 _ lD
 have dC' : oC.data = Data.cell none := dC
 have dL' : oL.data = Data.cell none := dL
 clear dC dL
 have F2' : Fr g' L' _ (fun y => if y = Str.ofString "cells" then some (Value.ref lc) else if y = Str.ofString "script" then some (.ref lx) else none) := F2
 clear F2
 have hDl : D2 ≠ L' := (N2 _ (.head _)).2.1
 refine enumL_s (σ := WC) (fun c => (lc, W.listOf c.vs.toArray c.ep) :: (D2, W.listOf vs2.toArray 0) :: (L' + 1 + 1, oC) :: (L' + 1, oL) :: rest) (fun _ => []) []
  (fun i c => IntsAre c.vs c.as ∧ c.as.length = 4 ∧ ∀ a ∈ c.as, 0 ≤ a ∧ a ≤ 22 + 431 * i)
  ⟨[Value.int 0 tk', Value.int 9 (tk' + 1), Value.int 12 (tk' + 1 + 1), Value.int 22 (tk' + 1 + 1 + 1)], [0, 9, 12, 22], 0⟩ rfl rfl rfl rfl (by passes_own) (News.isList N2 (.head _)) hDl F2' ?hN ⟨?hP1, rfl, ?hP2⟩ (fn0 _) ?turn ?done
 case hN =>
  refine nsub N2 (sbc mH1 (sbc (.head _) (fun q hq => mT2 hq)))
 case hP1 => exact .cons _ _ (.cons _ _ (.cons _ _ (.cons _ _ .nil)))
 case hP2 => intro a ha; simp at ha; lia
 case turn =>
  clear F2' N2
  intro i c v ti u h tk own wr hv hP hoffw hw hf F3 N3
  refine (let Qt1 := _; (?_ : wpAny _ _ _ Qt1 _ _))
  refine el0_3 (hP) ?_; (try clear hP); intro p1 p2 p3
  obtain ⟨cvs, cas, cep⟩ := c
  dsimp only at p1 p2 p3 N3 F3 hoffw
  have F4 : Fr g' L' h (frMap F3) := F3
  dsimp only [frMap] at F4
  refine (let mt1 : Str → Option Value := _; have F9 : Fr _ _ _ mt1 := F4; ?_)
  clear F4
  have F4 := F9
  clear F9
  clear F3
  refine gen_ (rest ++ own) ?_; intro tl htl
  have N4 : News g' L' h ((lc, W.listOf cvs.toArray cep) :: (D2, W.listOf vs2.toArray 0) :: (L' + 1 + 1, oC) :: (L' + 1, oL) :: tl) := by rw [htl]; exact N3
  clear N3
  refine (let G9 : Prop := _; (?_ : G9))
  obtain ⟨xv, tv, rfl, hx⟩ : ∃ xv tv, v = .int xv tv ∧ (xs.take 60)[i]? = some xv := by
   refine el2_2 (intsAre_get (i := i) (v := v) hI2 (by simpa using hv)) ?_; intro x t e1 e2
   exact ⟨x, t, e1, e2⟩
  refine (?_ : wpAny _ _ _ _ _ _)
  have hi60 : i < 60 := by
   have := (List.getElem?_eq_some_iff.mp hx).1
   lia
  k_steps
  refine ⟨?_⟩
  refine setItem_N F4 N4 (.head _) (Int.fmod_nonneg (by lia) (by decide)) ?_ ?_ fun h8 n8 v8 hv8 F8 N8 => ?_
  ·rw [List.size_toArray, p1.length, p2]
   exact Int.fmod_lt_of_pos _ (by decide)
  ·rw [List.size_toArray, p1.length, p2]
   decide
  refine (let G9 : Prop := _; (?_ : G9))
  obtain ⟨y, ty, rfl, hy⟩ : ∃ y ty, v8 = .int y ty ∧ y = cas.getD ((i : Int).fmod 4).toNat 0 + xv.fmod 432 := ⟨_, _, hv8, rfl⟩
  refine (?_ : wpAny _ _ _ _ _ _)
  clear hv8
  refine gen_ (((i : Int).fmod 4).toNat) ?_; intro kk hkk
  rw [← hkk] at hy N8
  have e9 : ∀ v, cvs.toArray.setIfInBounds kk v = (cvs.set kk v).toArray := fun v => by simp
  rw [e9] at N8
  have hx0 : 0 ≤ xv.fmod 432 := Int.fmod_nonneg_of_pos _ (by decide)
  have hx1 : xv.fmod 432 < 432 := Int.fmod_lt_of_pos _ (by decide)
  have hg : 0 ≤ cas.getD kk 0 ∧ cas.getD kk 0 ≤ 22 + 431 * (i : Int) := by
   by_cases hk9 : kk < cas.length
   ·have e : cas.getD kk 0 = cas[kk] := by simp [List.getD, hk9]
    rw [e]
    exact p3 _ (List.getElem_mem hk9)
   have e : cas.getD kk 0 = 0 := by simp [List.getD, Nat.not_lt.mp hk9]
   rw [e]
   lia
  k_steps
  refine ⟨?_⟩
  dsimp only [TurnPost]
  rename Fr _ _ _ _ => F10
  rename News _ _ _ _ => N10
  refine s_end (⟨cvs.set kk (.int y ty), cas.set kk y, n8⟩ : WC) F10 N10 (fun q hq => ?_) (fun q hq => ?_) (fun q hq => ?_) ⟨intsAre_set _ _ _ p1, by rw [List.length_set]; exact p2, fun a ha => ?_⟩ (fn0 _) (fun z h1 _ h2 => ?_)
  ·refine mst hq ?_ fun hq => ?_
   ·exact mem_setAt_self (.head _)
   refine mst hq ?_ fun hq => ?_
   ·exact msN mH1 (ngt lD.1)
   refine mst hq ?_ fun hq => ?_
   ·exact msN mH2 (nlt lc1.1)
   refine mst hq ?_ fun hq => ?_
   ·exact msN mH3 (nlt lc1.2.1)
   refine msN (mT3 (.tail _ ?_)) (nlt (allLt_mem lc1.2.2 q hq))
   rw [htl]
   exact maL _ hq
  ·refine msN (mT3 (.tail _ ?_)) ?_
   ·rw [htl]
    exact maR _ hq
   intro e
   rcases hf q hq with h | h
   ·exact hoffw (lc, W.listOf cvs.toArray cep) (.head _) (e ▸ h)
   exact nlt lD.1 (e.symm.trans h)
  ·refine asp hq ?_ fun hq => ?_
   ·exact hoffw (lc, W.listOf cvs.toArray cep) (.head _)
   exact hoffw q (.tail _ hq)
  ·rcases List.mem_or_eq_of_mem_set ha with h | rfl
   ·have := p3 a h
    lia
   lia
  have e1 : z ≠ Str.ofString "k" := ne_rev h1 (by decide)
  have e2 : z ≠ Str.ofString "x" := ne_rev h1 (by decide)
  dsimp only [mt1]; rw [if_neg e2, if_neg e1]
  exact kst_rest h2
 case done =>
  clear F2' N2
  intro c u h tk hP F3 N3
  with_reducible refine el0_3 (hP) ?_; (try clear hP); intro p1 p2 p3
  obtain ⟨cvs, cas, cep⟩ := c
  dsimp only at p1 p2 p3 N3 F3
  have F4 : Fr g' L' h (frMap F3) := F3
  dsimp only [frMap] at F4
  clear F3
  refine (let G9 : Prop := _; (?_ : G9))
  obtain ⟨a0, a1, a2, a3, t0, t1, t2, t3, rfl, rfl⟩ := ints4 p1 p2
  refine (?_ : wpAny _ _ _ _ _ _)
  have hsz : vs2.toArray.size ≤ 60 := by
   rw [List.size_toArray, hI2.length]
   lia
  with_reducible refine el0_2 (p3 a0 List.mem_cons_self) ?_; intro ha00 ha01
  with_reducible refine el0_2 (p3 a1 mH1) ?_; intro ha10 ha11
  with_reducible refine el0_2 (p3 a2 mH2) ?_; intro ha20 ha21
  with_reducible refine el0_2 (p3 a3 mH3) ?_; intro ha30 ha31
  with_reducible refine el0_3 (lc1) ?_; (try clear lc1); intro u1 u2 u3
  clear lD
  have N4 : News g' L' h ((lc, W.listOf #[Value.int a0 t0, Value.int a1 t1, Value.int a2 t2, Value.int a3 t3] cep) :: (L' + 1 + 1, oC) :: (L' + 1, oL) :: rest) := nsub N3 (sbc (.head _) (fun q hq => mT2 hq))
  clear N3
  k_steps
  rename Fr _ _ _ _ => F5
  rename News _ _ _ _ => N5
  rename_i Da _ la Db _ lb Dc _ lcc l0 _ ll0 _
  refine gen_ (a0.fmod 3) ?_; intro rr hrr
  have hr0 : 0 ≤ rr := hrr ▸ Int.fmod_nonneg_of_pos _ (by decide)
  have hr3 : rr < 3 := hrr ▸ Int.fmod_lt_of_pos _ (by decide)
  refine (let G9 : Prop := _; (?_ : G9))
  obtain ⟨Dx, lt, z, tl1, tz1, hDx, hDm, ⟨hlt1, hlt2⟩, ⟨hz1, hz2⟩, hlo⟩ : ∃ Dx lt, ∃ z : Nat, ∃ tl1 tz1, (#[Value.ref Da, Value.ref Db, Value.ref Dc] : Array Value)[rr.toNat]? = some (.ref Dx) ∧
    (∀ h, News g' L' h ((l0, W.listOf #[Value.ref Da, Value.ref Db, Value.ref Dc] 0) :: (Dc, ({ cls := .type "tuple", data := .seq #[.str (Str.ofString "ab") (tk + 1 + 1 + 1 + 1), .int 4 (tk + 1 + 1 + 1 + 1 + 1)] } : Obj)) :: (Db, ({ cls := .type "tuple", data := .seq #[.str (Str.ofString "abcd") (tk + 1 + 1), .int 2 (tk + 1 + 1 + 1)] } : Obj)) :: (Da, ({ cls := .type "tuple", data := .seq #[.str (Str.ofString "abc") tk, .int 3 (tk + 1)] } : Obj)) ::
     (lc, W.listOf #[Value.int a0 t0, Value.int a1 t1, Value.int a2 t2, Value.int a3 t3] cep) :: (L' + 1 + 1, oC) :: (L' + 1, oL) :: rest) → News g' L' h ((Dx, ({ cls := .type "tuple", data := .seq #[.str lt tl1, .int (z : Int) tz1] } : Obj)) :: (lc, W.listOf #[Value.int a0 t0, Value.int a1 t1, Value.int a2 t2, Value.int a3 t3] cep) :: (L' + 1 + 1, oC) :: (L' + 1, oL) :: rest)) ∧
    (2 ≤ lt.cps.size ∧ lt.cps.size ≤ 4) ∧ (2 ≤ z ∧ z ≤ 4) ∧ okW lt = true := by
   have h3 : rr = 0 ∨ rr = 1 ∨ rr = 2 := by lia
   rcases h3 with rfl | rfl | rfl
   ·refine ⟨Da, Str.ofString "abc", 3, tk, tk + 1, rfl, fun h N => nsub N fun q hq => ?_, by decide +kernel, by decide, by decide +kernel⟩
    exact mT3 hq
   ·refine ⟨Db, Str.ofString "abcd", 2, tk + 1 + 1, tk + 1 + 1 + 1, rfl, fun h N => nsub N fun q hq => ?_, by decide +kernel, by decide, by decide +kernel⟩
    refine mst hq ?_ fun hq => ?_
    ·exact mH2
    exact mT4 hq
   refine ⟨Dc, Str.ofString "ab", 4, tk + 1 + 1 + 1 + 1, tk + 1 + 1 + 1 + 1 + 1, rfl, fun h N => nsub N fun q hq => ?_, by decide +kernel, by decide, by decide +kernel⟩
   refine mst hq ?_ fun hq => ?_
   ·exact mH1
   exact mT4 hq
  refine (?_ : wpAny _ _ _ _ _ _)
  refine sub_N N5 (.head _) (k := ([a0, a1, a2, a3].getD (Int.toNat 0) 0).fmod 3) (x := .ref Dx) ?_ ?_ ?_ ?_
  ·exact hrr ▸ hr0
  ·exact Int.lt_trans (show a0.fmod 3 < 3 from hrr ▸ hr3) (by decide)
  ·show _[(a0.fmod 3).toNat]? = _
   rw [← hrr]
   exact hDx
  have N6 := hDm _ N5
  clear N5 hDm
  k_steps
  rename Fr _ _ _ _ => F7
  rename News _ _ _ _ => N7
  have hDxl : ∀ q ∈ (lc, W.listOf #[Value.int a0 t0, Value.int a1 t1, Value.int a2 t2, Value.int a3 t3] cep) :: (L' + 1 + 1, oC) :: (L' + 1, oL) :: rest, q.1 ≠ L' + 1 ∨ q = (L' + 1, oL) := by
   intro q hq
   refine asp hq ?_ fun hq => ?_
   ·exact .inl (ngt u2)
   refine asp hq ?_ fun hq => ?_
   ·exact .inl (Nat.succ_ne_self _)
   refine asp hq ?_ fun hq => ?_
   ·exact .inr rfl
   have h9 : q.1 < L' := l1 q hq
   exact .inl (nlt (nls h9))
  refine cell_set (c := L' + 1) (m := frMap F7) F7 N7 mH3 dL' rfl fun h9 oL2 F9 N9 hL9 => ?_
  dsimp only [frMap] at F9
  have N10 : News g' L' h9 ((lc, W.listOf #[Value.int a0 t0, Value.int a1 t1, Value.int a2 t2, Value.int a3 t3] cep) :: (L' + 1 + 1, oC) :: (L' + 1, oL2) :: rest) := nsub N9 fun q hq => by
   refine mst hq ?_ fun hq => ?_
   ·exact msN mH1 (ngt u2)
   refine mst hq ?_ fun hq => ?_
   ·exact msN mH2 (Nat.succ_ne_self _)
   refine mst hq ?_ fun hq => ?_
   ·exact mem_setAt_self mH3
   have h9 : q.1 < L' := l1 q hq
   exact msN (mT4 hq) (nlt (nls h9))
  clear F7 N7 N9 la lb lcc ll0 hDx hrr hr0 hr3 p3 p2 hDxl
  k_steps
  refine ⟨?_⟩
  refine for_one ?_ (by intro _; rfl)
  k_steps
  refine ⟨?_⟩
  rename Fr _ _ _ _ => F11
  rename News _ _ _ _ => N11
  rename_i lW _ lw1 _ D3 _ lD3
  refine list_cell (σ := WW) (h₀ := g') (L := L') (c := L' + 1 + 1) (Led := fun c => (lW, W.listOf (strVals c.ws) c.ew) :: (L' + 1, oL2) :: rest) (mm := fun c y => if y = Str.ofString "word" then c.wv else frMap F11 y)
   (P := fun i c => c.ws.length ≤ i ∧ (∀ q ∈ c.ws, q.1.cps.size = z ∧ okW q.1 = true) ∧ (c.ws.map (·.1)).Nodup) ⟨[], 0, none⟩ (oX₀ := oC) (vX₀ := none) rfl (News.isList N11 (.head _)) (N11 _ (.head _)).2.1 (ngt lD3.2.2.1) ?hF ?hN dC' ?hLc ⟨Nat.le_refl _, fn0 _, .nil⟩ (by passes_own) rfl ?wturn ?wdone
  case hF =>
   have e : (fun y => if y = Str.ofString "word" then (none : Option Value) else frMap F11 y) = frMap F11 := by
    funext y
    by_cases e : y = Str.ofString "word"
    ·rw [if_pos e, e]
     rfl
    rw [if_neg e]
   show Fr g' L' _ (fun y => if y = Str.ofString "word" then (none : Option Value) else frMap F11 y)
   rw [e]
   exact F11
  case hN =>
   refine nsub N11 (sbc mH3 (sbc mH1 (fun q hq => mT4 hq)))
  case hLc =>
   intro q hq
   refine asp hq ?_ fun hq => ?_
   ·exact ngt lw1.2.1
   refine asp hq ?_ fun hq => ?_
   ·exact nlt (Nat.lt_succ_self _)
   have h9 : q.1 < L' := l1 q hq
   exact nlt (nls (nls h9))
  case wturn =>
   dsimp only [frMap]
   clear F11 N11
   intro I i v cst oX h tk own hv hP hoffw hIc hown hof hX F12 N12
   refine (let G9 : Prop := _; (?_ : G9))
   obtain ⟨cell, tc, rfl, hc0, hc1⟩ : ∃ cell tc, v = .int cell tc ∧ 0 ≤ cell ∧ cell ≤ 100000 := by
    have h9 := List.mem_of_getElem? (l := [Value.int a1 t1, Value.int a2 t2, Value.int a3 t3]) (i := i) (a := v) (by simpa using hv)
    refine asp h9 ?_ fun h9 => ?_
    ·exact ⟨a1, t1, rfl, ha10, by lia⟩
    refine asp h9 ?_ fun h9 => ?_
    ·exact ⟨a2, t2, rfl, ha20, by lia⟩
    rw [ms1 h9]
    exact ⟨a3, t3, rfl, ha30, by lia⟩
   refine (?_ : wpAny _ _ _ _ _ _)
   obtain ⟨ws, ew, wv⟩ := cst
   refine el0_3 (hP) ?_; (try clear hP); intro p1 p2 p3
   dsimp only at p1 p2 p3 N12 F12 hoffw
   refine gen_ (rest ++ own) ?_; intro tl htl
   have N13 : News g' L' h ((L' + 1 + 1, oX) :: (lW, W.listOf (strVals ws) ew) :: (L' + 1, oL2) :: tl) := by rw [htl]; exact N12
   clear N12
   k_steps
   refine ⟨?_⟩
   refine cq_list (h₀ := g') (L := L') (m := frMap F12) (by with_unfolding_all rfl) (by decide) (by rfl) (by decide) ?_
   k_steps
   refine ⟨?_⟩
   rename Fr _ _ _ _ => F15
   rename News _ _ _ _ => N15
   rename IsRange _ _ _ _ _ _ _ _ => hR
   dsimp only [frMap]
   refine gen_ ((L' + 1 + 1, oX) :: (lW, W.listOf (strVals ws) ew) :: (L' + 1, oL2) :: tl) ?_; intro nw hnw
   refine cgo_src (σ := CX) (.list _ _ _ _) (fun I D C => ct_list1) rfl rfl (src_range rfl hR (small_one (by lia) (by lia) (by lia) (by lia)) (rangeSize_nat _ _)) F15 (hnw ▸ N15) (fun hm => nomatch hm)
    (fun D c => (D, W.listOf c.its c.ep) :: nw) (fun D j c m₁ => StrsAre c.its.toList c.ss ∧ c.ss.length = j ∧ ∀ x ∈ c.ss, x.cps.size = 1 ∧ okW x = true) (fun D oD => ⟨#[], 0, []⟩) (fun D oD ho => by subst ho; rfl) (fun D oD ho => ⟨.nil, rfl, fn0 _⟩) ?cturn ?cdone
   case cturn =>
    intro C2 D5 I2 j v2 c oC2 m₁ h7 t7 own2 E' hDC hCI hDI hoff hi6 hv1 hP hnw4 hown2 hof2 hn F2 N2
    obtain ⟨hj6, tv2, rfl⟩ := hv1
    refine el0_3 (hP) ?_; (try clear hP); intro p6 p7 p8
    refine gen_ (α := Str → Option Value) (fun y => if y = Str.ofString "k" then some (Value.int (0 + (j : Int) * 1) tv2) else m₁ y) ?_; intro m₃ hm₃
    have hkk : m₃ (Str.ofString "k") = some (Value.int (0 + (j : Int) * 1) tv2) := by rw [hm₃]; rfl
    rw [← hm₃] at hn
    refine gen_ ((lW, W.listOf (strVals ws) ew) :: (tl ++ own2)) ?_; intro tlx htlx
    have N6 : News g' L' h7 ((C2, oC2) :: (D5, W.listOf c.its c.ep) :: (L' + 1 + 1, oX) :: (L' + 1, oL2) :: tlx) := nsub N2 fun q hq => by
     rw [hnw]
     refine mst hq ?_ fun hq => ?_
     ·exact .head _
     refine mst hq ?_ fun hq => ?_
     ·exact mH1
     refine mst hq ?_ fun hq => ?_
     ·exact mH2
     refine mst hq ?_ fun hq => ?_
     ·exact mH4
     rw [htlx] at hq
     refine mst hq ?_ fun hq => ?_
     ·exact mH3
     exact mT5 hq
    have hltl : lt.length ≤ 4 := hlt2
    have hltl0 : 2 ≤ lt.length := hlt1
    have hj4 : j < 4 := by lia
    clear N2 N15 F15
    refine wpAny_tests_nil ?_
    rw [if_pos rfl]
    refine emitL_go ?_
    have hpw : 0 < (lt.length : Int) ^ (0 + (j : Int) * 1).toNat := Int.pow_pos (by lia)
    have hpn : (lt.length : Int) ^ (0 + (j : Int) * 1).toNat ≠ 0 := Int.ne_of_gt hpw
    have hpe : (0 + (j : Int) * 1).toNat = j := by lia
    have hpu : (lt.length : Int) ^ (0 + (j : Int) * 1).toNat ≤ 256 := by
     rw [hpe]
     have h1 : lt.length ^ j ≤ 256 := Nat.le_trans (Nat.pow_le_pow_left hltl j) (Nat.le_trans (Nat.pow_le_pow_right (by decide) (Nat.le_of_lt hj4)) (by decide))
     exact_mod_cast h1
    have hln : (lt.length : Int) ≠ 0 := by lia
    have hq0 : 0 ≤ (cell.fdiv ((lt.length : Int) ^ (0 + (j : Int) * 1).toNat)).fmod (lt.length : Int) := Int.fmod_nonneg_of_pos _ (by lia)
    have hq1 : (cell.fdiv ((lt.length : Int) ^ (0 + (j : Int) * 1).toNat)).fmod (lt.length : Int) < lt.length := Int.fmod_lt_of_pos _ (by lia)
    k_steps
    rename Fr _ _ _ _ => F20
    rename News _ _ _ _ => N20
    rename_i hit
    refine append_V F20 N20 mH1 (size_le (by
     have e1 := p6.length
     have e2 : c.its.toList.length = c.its.size := Array.length_toList
     lia)) fun h8 v8 hv8 F8 N8 => ?_
    obtain ⟨y, ty, rfl, hy⟩ : ∃ y ty, v8 = .str y ty ∧ y = Txt.item lt ((cell.fdiv ((lt.length : Int) ^ (0 + (j : Int) * 1).toNat)).fmod (lt.length : Int)) := ⟨_, _, hv8, rfl⟩
    rw [← hy] at hit
    have hyo : okW y = true := by
     rw [hy]
     exact ok_item hlo
    have hy1 : y.cps.size = 1 := Nat.le_antisymm hit.2 hit.1
    have hD5 : ∀ q ∈ nw ++ own2, q.1 ≠ D5 := by
     intro q hq
     refine ast hq (fun hq => ?_) fun hq => ?_
     ·exact (hoff q hq).2.1
     rcases hof2 q hq with e2 | e2
     ·rw [e2]; exact hDI
     cases e2
    have hmx : ∀ q ∈ nw ++ own2, q ∈ (L' + 1 + 1, oX) :: (L' + 1, oL2) :: tlx := by
     intro q hq
     rw [hnw] at hq
     rw [htlx]
     refine mst hq ?_ fun hq => ?_
     ·exact .head _
     refine mst hq ?_ fun hq => ?_
     ·exact mH2
     refine mst hq ?_ fun hq => ?_
     ·exact mH1
     exact mT3 hq
    show CEnd _ _ _ _ _ _ _ _ _ _ _
    refine c_end (⟨c.its.push (.str y ty), c.ep + 1, c.ss ++ [y]⟩ : CX) F8 N8 (oC := oC2) (m' := m₃) (msN (.head _) hDC.symm) hn (fun q hq => ?_) (fun q hq => ?_) (fun q hq hm => ?_) ⟨?_, ?_, fun x hx => ?_⟩
    ·refine mst hq ?_ fun hq => ?_
     ·exact mem_setAt_self mH1
     have hq' : q ∈ nw ++ own2 := maL _ hq
     exact msN (mT2 (hmx q hq')) (hD5 q hq')
    ·have hq' : q ∈ nw ++ own2 := maR _ hq
     exact msN (mT2 (hmx q hq')) (hD5 q hq')
    ·rcases mc1 hq with rfl | hq
     ·exact hnw4 _ (.head _) hm
     exact hnw4 q (.tail _ hq) hm
    ·rw [Array.toList_push]
     exact strsAre_snoc p6
    ·show (c.ss ++ [y]).length = j + 1
     rw [List.length_append, p7]
     rfl
    refine ast hx (fun hx => ?_) fun hx => ?_
    ·exact p8 x hx
    rw [ms1 hx]; exact ⟨hy1, hyo⟩
   intro C2 D5 c oC m' h2 tk2 hDC hoff hP F2 N2 hn2 hnw4
   show compPost _ _ _ _ _ _ _ _ _
   refine post_none (L := L') F2 N2 hn2 hnw4 fun h3 F3 N3 => ?_
   clear F2 N2 N15 F15
   refine el0_3 (hP) ?_; (try clear hP); intro p6 p7 p8
   obtain ⟨cits, cep, css⟩ := c
   dsimp only at p6 p7 p8 N3
   rw [hnw] at N3
   k_steps
   have hjl : css.length ≤ 4 := by lia
   refine KT.join_1 (ys := cits.toList) (l := css) (g := fun a => a) (by rw [Array.toArray_toList]; exact News.isList N3 (.head _)) (strsAre_carried p6) (fun a ha => (p8 a ha).1) (by lia) fun t8 k8 hlen8 => ?_
   refine gen_ (PySem.Txt.join (PySem.Str.ofString "") (css.map fun a => a)) ?_; intro wd hwd
   rw [← hwd] at hlen8 ⊢
   have hwz : wd.cps.size = z := by
    have h9 : wd.cps.size = css.length := hlen8
    lia
   have hwo : okW wd = true := by
    rw [hwd, List.map_id']
    exact ok_join fun x hx => (p8 x hx).2
   k_steps
   refine ⟨?_⟩
   rename Fr _ _ _ _ => F16
   rename News _ _ _ _ => N16
   have hwso : ∀ x ∈ ws.map (·.1), PyData.strOk x = true := by
    intro x hx
    refine el1_2 (mm1 hx) ?_; intro q hq e92; subst e92
    exact okW_ok (p2 q hq).2
   have hil : i < 3 := by
    have := (List.getElem?_eq_some_iff.mp (by simpa using hv : [Value.int a1 t1, Value.int a2 t2, Value.int a3 t3][i]? = some (Value.int cell tc))).1
    simpa using this
   refine notin_strs_S (ss := ws.map (·.1)) N16 mH2 (strVals_are ws) hwso (okW_ok hwo) (by ke_room) ?_
   by_cases hf : wd ∈ ws.map (·.1)
   ·rw [decide_eq_true hf]
    k_steps
    show EEnd _ _ _ _ _ _ _ _ _ _ _ _ _
    refine ⟨_, _, (⟨ws, ew, some (.str wd t8)⟩ : WW), oX, _, rfl, fr_over F16, nsub N16 fun q hq => ?_, hX, hoffw, Nat.le_succ_of_le p1, p2, p3⟩
    refine mst hq ?_ fun hq => ?_
    ·exact mH1
    refine mst hq ?_ fun hq => ?_
    ·exact mH2
    refine mst hq ?_ fun hq => ?_
    ·exact mH3
    exact mT4 (htl ▸ hq)
   rw [decide_eq_false hf]
   k_steps
   have hID : I ≠ lW := fun e => (hoffw (lW, W.listOf (strVals ws) ew) (.head _)).1 e.symm
   have hDn : ∀ q ∈ nw, q.1 ≠ D5 := fun q hq => (hoff q hq).2
   refine append_S F16 N16 mH2 (size_le (by unfold strVals; simp; lia)) fun h8 F18 N18 => ?_
   rw [strVals_snoc] at N18
   k_steps
   show EEnd _ _ _ _ _ _ _ _ _ _ _ _ _
   refine ⟨_, _, (⟨ws ++ [(wd, t8)], ew + 1, some (.str wd t8)⟩ : WW), oX, _, rfl, fr_over F18, nsub N18 fun q hq => ?_, hX, fun q hq => ?_, ?_, fun q hq => ?_, ?_⟩
   ·refine mst hq ?_ fun hq => ?_
    ·exact msN mH1 (nlt lw1.2.1)
    refine mst hq ?_ fun hq => ?_
    ·exact mem_setAt_self mH2
    refine mst hq ?_ fun hq => ?_
    ·exact msN mH3 (nlt lw1.2.2.1)
    have hq' : q ∈ rest ++ own := hq
    refine msN (mT4 (htl ▸ hq')) ?_
    refine ast hq' (fun hq => ?_) fun hq => ?_
    ·exact nlt (allLt_mem lw1.2.2.2 q hq)
    rcases hof q hq with e | e
    ·rw [e]; exact hID
    rw [e]; exact ngt lD3.1
   ·refine asp hq ?_ fun hq => ?_
    ·exact hoffw (lW, W.listOf (strVals ws) ew) (.head _)
    exact hoffw q (.tail _ hq)
   ·show (ws ++ [(wd, t8)]).length ≤ i + 1
    rw [List.length_append]
    simp
    lia
   ·refine ast hq (fun hq => ?_) fun hq => ?_
    ·exact p2 q hq
    rw [ms1 hq]; exact ⟨hwz, hwo⟩
   show ((ws ++ [(wd, t8)]).map (·.1)).Nodup
   rw [List.map_append]
   refine List.nodup_append.mpr ⟨p3, List.nodup_cons.mpr ⟨List.not_mem_nil, .nil⟩, fun a ha b hb e => ?_⟩
   have hb' : b = wd := by simpa using hb
   rw [hb'] at e
   exact hf (e ▸ ha)
  dsimp only [frMap]
  intro cst oX vX h tk hP hX hoff F12 N12
  obtain ⟨ws, ew, wv⟩ := cst
  refine el0_3 (hP) ?_; (try clear hP); intro p1 p2 p3
  dsimp only at p1 p2 p3 N12 F12 hoff
  clear F11 N11
  k_steps
  rename Fr h₀ _ _ _ => kF
  rename News h₀ _ _ _ => kN
  refine hret _ lW ws ew z tz1 0 _ _ (show ws.length ≤ 3 from p1) hz1 hz2 p2 p3 kF (nsub kN fun q hq => ?_)
  refine mst hq ?_ fun hq => ?_
  ·exact .head _
  refine mst hq ?_ fun hq => ?_
  ·exact mH2
  exact mT4 hq
structure AS where
 ns : List NI
 o : Obj
theorem add_c (w : World) (p : Program) (lo : List Str) (mean : ExcName → Option Value) (mg mb : Str → Option Value)
  (gd : Option (List Code)) (cn : Str) (cs : Scope) (a : Addr) (ccd : Value) (cl : List (Str × Addr)) (outer : List Env) (A₀ : Around) (base h₀ : Heap) (L : Addr) (m : Str → Option Value) (rest : List (Addr × Obj)) (s : Shared)
  (x y : Str) (tx ty : Tok) (xa d n2 : Addr) (o2 : Obj) (ns : List NI) (t1 t2 t3 t4 t5 t6 : Tok) (Q E : Value → Shared → Prop)
  (B : Below A₀ base outer h₀) (F : Fr h₀ L s.heap m) (X : (Mine.K w.params).In h₀) (N : News h₀ L s.heap ((xa, instObj 362 d) :: (d, tsD w t1 t2 t3 t4 t5 t6 n2) :: (n2, o2) :: (ledN ns ++ rest))) (T : Top p lo mean mg mb h₀) (hk : cs.kind = .function)
  (hx : x.length ≤ 64) (hy : y.length ≤ 64) (hd : o2.IsDictOf (PySem.strKind rw_nq0317_01.prog w) (kvsN ns)) (lo2 : (n2 == sysModules) = false) (hnn : (ns.map (·.nm)).Nodup) (hl : ns.length ≤ 98) (bd : Nat) (hbd : bd ≤ 1000) (hsc : ∀ e ∈ ns, e.sc.length ≤ bd)
  (hnd : (GK xa d n2 ns).Nodup) (hoff : ∀ p ∈ rest, p.1 ∉ GK xa d n2 ns)
  (hret : ∀ ns' o2' h' tk', proj2 ns' = gadd (proj2 ns) x y → o2'.IsDictOf (PySem.strKind rw_nq0317_01.prog w) (kvsN ns') → (ns'.map (·.nm)).Nodup →
   (GK xa d n2 ns').Nodup → (∀ p ∈ rest, p.1 ∉ GK xa d n2 ns') → ns'.length ≤ ns.length + 2 → (∀ e ∈ ns', e.sc.length ≤ bd + 1) → Fr h₀ L h' m → News h₀ L h' ((xa, instObj 362 d) :: (d, tsD w t1 t2 t3 t4 t5 t6 n2) :: (n2, o2') :: (ledN ns' ++ rest)) → Q .none { s with heap := h', toks := tk' }) :
  wpAny (model (rw_nq0317_01.prog) w) (ktrTop 350 500 gd cn cs L a ccd cl outer) (call (.ref 312) [.ref xa, .str x tx, .str y ty]) Q E s := by
 k_with_none
 k_with "k_all" => first | assumption | (intro p9 hp9; (repeat (rename _ ∧ _ => hc9; obtain ⟨_, _⟩ := hc9)); have h9 := allLt_mem2 (by assumption) _ hp9; exact nlt (Nat.lt_of_lt_of_le h9 (by omega)))
 k_with "execs cons" => (k_here; first | k_made | ((fail_if_success (fail_if_success k_gentoks)); refine (let tk : Nat := _; (?_ : wpAny _ _ _ _ _ ⟨_, _, _, tk, _⟩))) | ((with_reducible refine wpAny_execs_cons ?_); (try dsimp only); refine (let qv : Flow → Shared → Prop := _; (?_ : wpAny _ _ _ qv _ _))))
 k_with "execs nil" => (k_here; (fail_if_success (fail_if_success k_gentoks)); refine (let tk : Nat := _; (?_ : wpAny _ _ _ _ _ ⟨_, _, _, tk, _⟩)))
 k_with "exec For Name Name cons nil" => (k_here; (rename Fr _ _ _ _ => lF'); (with_unfolding_all refine' For_invVF lF' ?k1 ?k2 ?_; (case k1 => exact rfl); (case k2 => exact rfl); k_whole))
 k_with "exec For Name Name" => (k_here; (rename Fr _ _ _ _ => lF'); (with_unfolding_all refine' For_invVF lF' ?k1 ?k2 ?_; (case k1 => exact rfl); (case k2 => exact rfl); k_whole))
 k_with "exec For Name" => (k_here; (rename Fr _ _ _ _ => lF'); (with_unfolding_all refine' For_invVF lF' ?k1 ?k2 ?_; (case k1 => exact rfl); (case k2 => exact rfl); k_whole))
 k_with "call ref" => ((with_unfolding_all show wpAny _ _ (call (Value.ref 305) _) _ _ _); refine stopped ?_)
 k_with "getAttr ref" => ((with_reducible show wpAny _ _ (getAttr (Value.ref (NI.a _)) _ _) _ _ _); refine stopped ?_)
 k_with "setAttr ref" => ((with_reducible show wpAny _ _ (setAttr (Value.ref (NI.a _)) _ _) _ _ _); refine stopped ?_)
 k_with "getMethod ref" => ((with_reducible show wpAny _ _ (getMethod (Value.ref (NI.sl _)) _ _) _ _ _); refine stopped ?_)
 k_with "call builtin:list.append" => refine stopped ?_
 refine gen_ (ledN ns ++ rest) ?_; intro tl htl
 rw [← htl] at N
 k_with_none
 k_with "k_all" => first | assumption | (intro p9 hp9; (repeat (rename _ ∧ _ => hc9; obtain ⟨_, _⟩ := hc9)); have h9 := allLt_mem2 (by assumption) _ hp9; exact nlt (Nat.lt_of_lt_of_le h9 (by omega)))
 k_with "execs cons" => (k_here; first | k_made | ((fail_if_success (fail_if_success k_gentoks)); refine (let tk : Nat := _; (?_ : wpAny _ _ _ _ _ ⟨_, _, _, tk, _⟩))) | ((with_reducible refine wpAny_execs_cons ?_); (try dsimp only); refine (let qv : Flow → Shared → Prop := _; (?_ : wpAny _ _ _ qv _ _))))
 k_with "execs nil" => (k_here; (fail_if_success (fail_if_success k_gentoks)); refine (let tk : Nat := _; (?_ : wpAny _ _ _ _ _ ⟨_, _, _, tk, _⟩)))
 k_with "exec For Name Name cons nil" => (k_here; (rename Fr _ _ _ _ => lF'); (with_unfolding_all refine' For_invVF lF' ?k1 ?k2 ?_; (case k1 => exact rfl); (case k2 => exact rfl); k_whole))
 k_with "exec For Name Name" => (k_here; (rename Fr _ _ _ _ => lF'); (with_unfolding_all refine' For_invVF lF' ?k1 ?k2 ?_; (case k1 => exact rfl); (case k2 => exact rfl); k_whole))
 k_with "exec For Name" => (k_here; (rename Fr _ _ _ _ => lF'); (with_unfolding_all refine' For_invVF lF' ?k1 ?k2 ?_; (case k1 => exact rfl); (case k2 => exact rfl); k_whole))
 k_with "call ref" => ((with_unfolding_all show wpAny _ _ (call (Value.ref 305) _) _ _ _); refine stopped ?_)
 k_with "getAttr ref" => ((with_reducible show wpAny _ _ (getAttr (Value.ref (NI.a _)) _ _) _ _ _); refine stopped ?_)
 k_with "setAttr ref" => ((with_reducible show wpAny _ _ (setAttr (Value.ref (NI.a _)) _ _) _ _ _); refine stopped ?_)
 k_with "getMethod ref" => ((with_reducible show wpAny _ _ (getMethod (Value.ref (NI.sl _)) _ _) _ _ _); refine stopped ?_)
 k_with "call builtin:list.append" => refine stopped ?_
 k_with "pyIter ref" => (refine stopped ?_)
 revert X
 k_fill
 intro X
 refine wpAny_call ?_
 k_dflt (refine' kp_rest ?k1 ?k2 ?k3 ?k4 ?k5 ?kA ?kF ?kK ?k6 ?k7 ?k8 ?kV ?kP ?kG ?kB ?_ ?c2 ?c3 ?c4 ?c5; (case kA => exact rfl); (case kF => exact rfl); (case kK => assumption); (case k1 => k_asm); (case k2 => k_asm); (case k3 => k_asm); (case k4 => k_asm); (case k5 => k_asm); (case k6 => k_is); (case k7 => k_is); (case k8 => ktr_room); (case kV => kl_lit); (case kP => exact rfl); (case kG => exact fun _ => rfl); (case kB => exact fun _ => locs rfl); (case c5 => decide); (case c2 => exact rfl); (case c3 => exact rfl); (case c4 => exact rfl); k_whole; intro D' g' L' h' l1 FG' F' N' B' X' T'; (try dsimp only); (try k_fold))
 k_steps
 refine ⟨?_⟩
 rw [htl] at N' l1
 have hG : ∀ z ∈ GK xa d n2 ns, z < D' := by
  intro z hz
  refine asp hz ?_ fun hz => ?_
  ·exact l1 _ (.head _)
  refine asp hz ?_ fun hz => ?_
  ·exact l1 _ mH1
  refine asp hz ?_ fun hz => ?_
  ·exact l1 _ mH2
  refine el1_2 (mm1 hz) ?_; intro p hp e92; subst e92
  exact l1 p (mT3 (maL _ hp))
 have hoff1 : ∀ p ∈ (D', (⟨.type "tuple", none, .seq #[.str y ty] 0, #[]⟩ : Obj)) :: rest, p.1 ∉ GK xa d n2 ns := by
  intro p hp hm
  rcases mc1 hp with rfl | hp
  ·exact absurd (hG _ hm) (Nat.lt_irrefl _)
  exact hoff p hp hm
 have N2 : News g' L' h' ((xa, instObj 362 d) :: (d, tsD w t1 t2 t3 t4 t5 t6 n2) :: (n2, o2) :: (ledN ns ++ (D', (⟨.type "tuple", none, .seq #[.str y ty] 0, #[]⟩ : Obj)) :: rest)) := nsub N' (sbc mH1 (sbc mH2 (sbc mH3 (fun p hp => by
  refine ast hp (fun hp => ?_) fun hp => ?_
  ·exact mT4 (maL _ hp)
  refine mst hp ?_ fun hp => ?_
  ·exact .head _
  exact mT4 (maR _ hp)))))
 refine wpAny_up (ktrTop 360 600 gd (Str.ofString "TopologicalSorter.add") _ L' 312 (.ref 311) [] (envX cn cs L a ccd cl :: outer)) rfl (show 351 ≤ 360 by decide) rfl rfl (show 503 ≤ 600 by decide) ?_
 refine ni_c w _ _ _ _ _ _ _ _ _ _ _ _ _ _ _ _ _ _ _ _ _ _ _ _ _ ns _ _ _ _ _ _ _ _ B' F' X' N2 T' rfl hx hd lo2 hnn (by lia) hnd hoff1 (fun e1 ns1 o1 h1 tk1 he1 hx1 hc1 hd1 hnn1 hnd1 hoff1 hl1 F1 N1 => ?_)
 clear F' N' N2
 refine el0_3 (GK_off hnd1) ?_; intro f1 f2 f3
 have hpre1 : ∀ p ∈ [(D', (⟨.type "tuple", none, .seq #[.str y ty] 0, #[]⟩ : Obj)), (xa, instObj 362 d), (d, tsD w t1 t2 t3 t4 t5 t6 n2), (n2, o1)], p.1 ∉ Keys (ledN ns1) :=
  fc1 ⟨fun hm => hoff1 _ (.head _) (GK_sub hm), fc1 ⟨f1, fc1 ⟨f2, fc1 ⟨f3, fn0 _⟩⟩⟩⟩
 refine gen_ (ledN ns1 ++ rest) ?_; intro tl1 htl1
 have N3 : News g' L' h1 ((D', (⟨.type "tuple", none, .seq #[.str y ty] 0, #[]⟩ : Obj)) :: (xa, instObj 362 d) :: (d, tsD w t1 t2 t3 t4 t5 t6 n2) :: (n2, o1) :: tl1) := nsub N1 fun p hp => by
  rw [htl1] at hp
  refine mst hp ?_ fun hp => ?_
  ·exact mT3 (maR _ (.head _))
  refine mst hp ?_ fun hp => ?_
  ·exact .head _
  refine mst hp ?_ fun hp => ?_
  ·exact mH1
  refine mst hp ?_ fun hp => ?_
  ·exact mH2
  refine ast hp (fun hp => ?_) fun hp => ?_
  ·exact mT3 (maL _ hp)
  exact mT3 (maR _ (.tail _ hp))
 clear N1
 k_steps
 refine ⟨?_⟩
 have m1 : (e1.a, niRaw e1.ad e1.nm e1.tn e1.np e1.tp e1.sl) ∈ (D', (⟨.type "tuple", none, .seq #[.str y ty] 0, #[]⟩ : Obj)) :: (xa, instObj 362 d) :: (d, tsD w t1 t2 t3 t4 t5 t6 n2) :: (n2, o1) :: tl1 := by
  rw [htl1]; exact mT4 (maL _ (mem_ledN he1 (.head _)))
 have m2 : (e1.ad, dictOf [] 0) ∈ (D', (⟨.type "tuple", none, .seq #[.str y ty] 0, #[]⟩ : Obj)) :: (xa, instObj 362 d) :: (d, tsD w t1 t2 t3 t4 t5 t6 n2) :: (n2, o1) :: tl1 := by
  rw [htl1]; exact mT4 (maL _ (mem_ledN he1 (.tail _ (.head _))))
 rename Fr _ _ _ _ => F4
 rename News _ _ _ _ => N4
 refine np_get F4 X' N4 m1 m2 ?_
 k_steps
 refine ⟨?_⟩
 rename Fr _ _ _ _ => F5
 rename News _ _ _ _ => N5
 refine np_set F5 X' N5 m1 m2 fun h2 F6 N6a => ?_
 clear F5 N5
 refine (let G9 : Prop := _; (?_ : G9))
 obtain ⟨tt, N6⟩ : ∃ tt, News g' L' h2 (setAt e1.a (niRaw e1.ad e1.nm e1.tn (e1.np + 1) tt e1.sl) ((D', (⟨.type "tuple", none, .seq #[.str y ty] 0, #[]⟩ : Obj)) :: (xa, instObj 362 d) :: (d, tsD w t1 t2 t3 t4 t5 t6 n2) :: (n2, o1) :: tl1)) := ⟨_, N6a⟩
 refine (?_ : wpAny _ _ _ _ _ _)
 rw [htl1] at N6
 have N7 := nsub N6 (setAt_np (pre := [(D', (⟨.type "tuple", none, .seq #[.str y ty] 0, #[]⟩ : Obj)), (xa, instObj 362 d), (d, tsD w t1 t2 t3 t4 t5 t6 n2), (n2, o1)]) hnn1 hnd1 hpre1 (fun p hp => hoff1 p (.tail _ hp)) he1)
 refine gen_ (upX ns1 e1.nm fun e => { e with np := e1.np + 1, tp := tt }) ?_; intro ns2 hns2
 rw [← hns2] at N7
 simp only [List.cons_append, List.nil_append] at N7
 clear N6 N6a m1 m2
 have hP0 : proj2 ns2 = gup (gget (proj2 ns) x) x fun e => { e with np := e.np + 1 } := by
  rw [hns2, ← proj2_get hc1 he1 hx1, hx1]
  unfold proj2 upX gup
  rw [List.map_map, List.map_map]
  apply List.map_congr_left
  intro e he
  show projN (if e.nm = x then { e with np := e1.np + 1, tp := tt } else e) = if (projN e).nm = x then { projN e with np := (projN e).np + 1 } else projN e
  have e5 : (projN e).nm = e.nm := rfl
  rw [e5]
  split
  ·rename_i hc
   have : e = e1 := nodup_inj hnn1 he he1 (hc.trans hx1.symm)
   subst this
   rfl
  rfl
 have hnd2 : (GK xa d n2 ns2).Nodup := by rw [hns2, upX_GK (f := fun e => { e with np := e1.np + 1, tp := tt }) (fun _ => rfl)]; exact hnd1
 have hoff2 : ∀ p ∈ (D', (⟨.type "tuple", none, .seq #[.str y ty] 0, #[]⟩ : Obj)) :: rest, p.1 ∉ GK xa d n2 ns2 := by rw [hns2, upX_GK (f := fun e => { e with np := e1.np + 1, tp := tt }) (fun _ => rfl)]; exact hoff1
 have hnn2 : (ns2.map (·.nm)).Nodup := by rw [hns2, upX_nms (f := fun e => { e with np := e1.np + 1, tp := tt }) (fun _ => rfl)]; exact hnn1
 have hd2 : o1.IsDictOf (PySem.strKind rw_nq0317_01.prog w) (kvsN ns2) := by rw [hns2, upX_kvs (f := fun e => { e with np := e1.np + 1, tp := tt }) (fun _ => rfl) (fun _ => rfl)]; exact hd1
 have hsc1 : ∀ e ∈ ns1, e.sc.length ≤ bd := by
  intro e he
  rcases hc1 with rfl | ⟨_, rfl, _, hs0⟩
  ·exact hsc e he
  refine ast he (fun he => ?_) fun he => ?_
  ·exact hsc e he
  rw [ms1 he, hs0]; exact Nat.zero_le _
 have hsc2 : ∀ e ∈ ns2, e.sc.length ≤ bd + 0 := by
  intro e he
  rw [hns2] at he
  refine el1_2 (mm1 he) ?_; intro e0 he0 e92; subst e92
  have := hsc1 e0 he0
  split <;> exact this
 have hl2 : ns2.length ≤ ns.length + 1 := by rw [hns2, upX_len]; exact hl1
 k_steps
 refine ⟨?_⟩
 rename Fr _ _ _ _ => F8
 rename News _ _ _ _ => N8
 refine tuple_s (σ := AS) (fun c => (D', (⟨.type "tuple", none, .seq #[.str y ty] 0, #[]⟩ : Obj)) :: (xa, instObj 362 d) :: (d, tsD w t1 t2 t3 t4 t5 t6 n2) :: (n2, c.o) :: (ledN c.ns ++ rest)) (fun _ => []) [Str.ofString "pred_info"]
  (fun i c => c.o.IsDictOf (PySem.strKind rw_nq0317_01.prog w) (kvsN c.ns) ∧ (c.ns.map (·.nm)).Nodup ∧ (GK xa d n2 c.ns).Nodup ∧ (∀ p ∈ (D', (⟨.type "tuple", none, .seq #[.str y ty] 0, #[]⟩ : Obj)) :: rest, p.1 ∉ GK xa d n2 c.ns) ∧ c.ns.length ≤ ns.length + 1 + i ∧ (∀ e ∈ c.ns, e.sc.length ≤ bd + i) ∧ (i = 0 → proj2 c.ns = gup (gget (proj2 ns) x) x fun e => { e with np := e.np + 1 }) ∧ (0 < i → proj2 c.ns = gadd (proj2 ns) x y))
  ⟨ns2, o1⟩ rfl ⟨_, (N8 _ (.head _)).1, rfl, _, rfl⟩ (N8 _ (.head _)).2.1 F8 N8 ?hP (fn0 _) ?turn ?done
 case hP => exact ⟨hd2, hnn2, hnd2, hoff2, hl2, hsc2, fun _ => hP0, fun h => absurd h (Nat.lt_irrefl _)⟩
 case turn =>
  clear N8 F8
  intro i c v u h tk own wr hv hP hoffw hw hf F' N'
  refine el0_8 (hP) ?_; (try clear hP); intro p1 p2 p3 p4 p5 p8 p6 p7
  have hi : i = 0 ∧ v = .str y ty := by
   rcases Nat.eq_zero_or_pos i with rfl | hi
   ·exact ⟨rfl, by simpa using hv.symm⟩
   rw [Array.getElem?_eq_none (by show 1 ≤ i; exact hi)] at hv; cases hv
  refine el0_2 (hi) ?_; (try clear hi); intro e90 e91; subst e90; subst e91
  k_steps
  refine ⟨?_⟩
  have hown : ∀ p ∈ own, p.1 ∉ GK xa d n2 c.ns := by
   intro p hp hm
   rcases hf p hp with hq | hq
   ·have hin : ∃ o, (p.1, o) ∈ (D', (⟨.type "tuple", none, .seq #[.str y ty] 0, #[]⟩ : Obj)) :: (xa, instObj 362 d) :: (d, tsD w t1 t2 t3 t4 t5 t6 n2) :: (n2, c.o) :: (ledN c.ns ++ rest) := by
     rcases mc1 hm with e | hm
     ·exact ⟨_, by rw [e]; exact mH1⟩
     rcases mc1 hm with e | hm
     ·exact ⟨_, by rw [e]; exact mH2⟩
     rcases mc1 hm with e | hm
     ·exact ⟨_, by rw [e]; exact mH3⟩
     refine el1_2 (mm1 hm) ?_; intro q hq1 hq2
     exact ⟨q.2, by rw [← hq2]; exact mT4 (maL _ hq1)⟩
    refine el1_1 (hin) ?_; (try clear hin); intro o ho
    exact hoffw _ ho hq
   rw [hq] at hm; exact p4 _ (.head _) hm
  have hoff3 : ∀ p ∈ (D', (⟨.type "tuple", none, .seq #[.str y ty] 0, #[]⟩ : Obj)) :: (rest ++ own), p.1 ∉ GK xa d n2 c.ns := by
   intro p hp
   refine asp hp ?_ fun hp => ?_
   ·exact p4 _ (.head _)
   refine ast hp (fun hp => ?_) fun hp => ?_
   ·exact p4 p (.tail _ hp)
   exact hown p hp
  rename Fr _ _ _ _ => F9
  rename News _ _ _ _ => N9
  have N10 : News g' L' h ((xa, instObj 362 d) :: (d, tsD w t1 t2 t3 t4 t5 t6 n2) :: (n2, c.o) :: (ledN c.ns ++ (D', (⟨.type "tuple", none, .seq #[.str y ty] 0, #[]⟩ : Obj)) :: (rest ++ own))) := nsub N9 (sbc mH1 (sbc mH2 (sbc mH3 (fun p hp => by
   refine ast hp (fun hp => ?_) fun hp => ?_
   ·exact mT4 (maL _ (maL _ hp))
   refine mst hp ?_ fun hp => ?_
   ·exact .head _
   refine ast hp (fun hp => ?_) fun hp => ?_
   ·exact mT4 (maL _ (maR _ hp))
   exact mT4 (maR _ hp)))))
  refine wpAny_up (ktrTop 360 600 gd (Str.ofString "TopologicalSorter.add") _ L' 312 (.ref 311) [] (envX cn cs L a ccd cl :: outer)) rfl (show 351 ≤ 360 by decide) rfl rfl (show 503 ≤ 600 by decide) ?_
  refine ni_c w _ _ _ _ _ _ _ _ _ _ _ _ _ _ _ _ _ _ _ _ _ _ _ _ _ c.ns _ _ _ _ _ _ _ _ B' F9 X' N10 T' rfl hy p1 lo2 p2 (by lia) p3 hoff3 (fun e3 ns3 o3 h3 tk3 he3 hx3 hc3 hd3 hnn3 hnd3 hoff3 hl3 F3 N3 => ?_)
  clear N9 N10 F9
  k_steps
  refine ⟨?_⟩
  rename Fr _ _ _ _ => F4
  rename News _ _ _ _ => N4
  have m1 : (e3.a, niRaw e3.ad e3.nm e3.tn e3.np e3.tp e3.sl) ∈ (xa, instObj 362 d) :: (d, tsD w t1 t2 t3 t4 t5 t6 n2) :: (n2, o3) :: (ledN ns3 ++ (D', (⟨.type "tuple", none, .seq #[.str y ty] 0, #[]⟩ : Obj)) :: (rest ++ own)) := mT3 (maL _ (mem_ledN he3 (.head _)))
  have m2 : (e3.ad, dictOf [] 0) ∈ (xa, instObj 362 d) :: (d, tsD w t1 t2 t3 t4 t5 t6 n2) :: (n2, o3) :: (ledN ns3 ++ (D', (⟨.type "tuple", none, .seq #[.str y ty] 0, #[]⟩ : Obj)) :: (rest ++ own)) := mT3 (maL _ (mem_ledN he3 (.tail _ (.head _))))
  have m3 : (e3.sl, W.listOf (strVals e3.sc) e3.ep) ∈ (xa, instObj 362 d) :: (d, tsD w t1 t2 t3 t4 t5 t6 n2) :: (n2, o3) :: (ledN ns3 ++ (D', (⟨.type "tuple", none, .seq #[.str y ty] 0, #[]⟩ : Obj)) :: (rest ++ own)) := mT3 (maL _ (mem_ledN he3 (.tail _ (.tail _ (.head _)))))
  refine sc_get F4 X' N4 m1 m2 ?_
  k_steps
  refine ⟨?_⟩
  refine lmeth_S PySem.F.slot_list_append PySem.F.type_list_append N4 m3 ?_
  have hsc3 : ∀ e ∈ ns3, e.sc.length ≤ bd := by
   intro e he
   rcases hc3 with rfl | ⟨_, rfl, _, hs0⟩
   ·exact p8 e he
   refine ast he (fun he => ?_) fun he => ?_
   ·exact p8 e he
   rw [ms1 he, hs0]; exact Nat.zero_le _
  k_steps
  refine ⟨?_⟩
  rename Fr _ _ _ _ => F5
  rename News _ _ _ _ => N5
  refine append_S F5 N5 m3 (size_le (by unfold strVals; rw [List.size_toArray, List.length_map]; have := hsc3 e3 he3; lia)) fun h9 F9 N9 => ?_
  clear F5 N5
  k_steps
  show TurnEnd _ _ _ _ _ _ _
  refine el0_3 (GK_off hnd3) ?_; intro f1 f2 f3
  have hset := setAt_sc (y := x) (t := tx) (pre := [(xa, instObj 362 d), (d, tsD w t1 t2 t3 t4 t5 t6 n2), (n2, o3)]) hnn3 hnd3 (fc1 ⟨f1, fc1 ⟨f2, fc1 ⟨f3, fn0 _⟩⟩⟩) hoff3 he3
  refine gen_ (upX ns3 e3.nm fun e => { e with sc := e.sc ++ [(x, tx)], ep := e.ep + 1 }) ?_; intro ns4 hns4
  have hset2 : ∀ p ∈ (xa, instObj 362 d) :: (d, tsD w t1 t2 t3 t4 t5 t6 n2) :: (n2, o3) :: (ledN ns4 ++ (D', (⟨.type "tuple", none, .seq #[.str y ty] 0, #[]⟩ : Obj)) :: (rest ++ own)), p ∈ setAt e3.sl (W.listOf ((strVals e3.sc).push (.str x tx)) (e3.ep + 1)) ((xa, instObj 362 d) :: (d, tsD w t1 t2 t3 t4 t5 t6 n2) :: (n2, o3) :: (ledN ns3 ++ (D', (⟨.type "tuple", none, .seq #[.str y ty] 0, #[]⟩ : Obj)) :: (rest ++ own))) := by
   rw [hns4]; exact hset
  clear hset
  have hGK : GK xa d n2 ns4 = GK xa d n2 ns3 := by rw [hns4, upX_GK (f := fun e => { e with sc := e.sc ++ [(x, tx)], ep := e.ep + 1 }) (fun _ => rfl)]
  have hwr : ∀ b ∈ wr, b ∉ GK xa d n2 ns4 := by
   intro b hb
   refine el1_1 (hw b hb) ?_; intro o ho
   rw [hGK]
   exact hoff3 (b, o) (.tail _ (maR _ ho))
  refine s_end (σ := AS) ⟨ns4, o3⟩ F9 N9 ?h1 ?h2 ?h3 ?hP (fn0 _) ?hz
  case h1 =>
   intro p hp
   refine hset2 p ?_
   refine mst hp ?_ fun hp => ?_
   ·exact mT3 (maR _ (.head _))
   refine mst hp ?_ fun hp => ?_
   ·exact .head _
   refine mst hp ?_ fun hp => ?_
   ·exact mH1
   refine mst hp ?_ fun hp => ?_
   ·exact mH2
   refine ast hp (fun hp => ?_) fun hp => ?_
   ·exact mT3 (maL _ hp)
   exact mT3 (maR _ (.tail _ (maL _ hp)))
  case h2 =>
   intro p hp
   exact hset2 p (mT3 (maR _ (.tail _ (maR _ hp))))
  case h3 =>
   intro p hp
   refine asp hp ?_ fun hp => ?_
   ·exact hoffw _ (.head _)
   refine asp hp ?_ fun hp => ?_
   ·exact fun hm => hwr _ hm (.head _)
   refine asp hp ?_ fun hp => ?_
   ·exact fun hm => hwr _ hm mH1
   refine asp hp ?_ fun hp => ?_
   ·exact fun hm => hwr _ hm mH2
   refine ast hp (fun hp => ?_) fun hp => ?_
   ·exact fun hm => hwr _ hm (mT3 (mm2 ⟨p, hp, rfl⟩))
   exact hoffw p (mT4 (maR _ hp))
  case hP =>
   refine ⟨by rw [hns4, upX_kvs (f := fun e => { e with sc := e.sc ++ [(x, tx)], ep := e.ep + 1 }) (fun _ => rfl) (fun _ => rfl)]; exact hd3, by rw [hns4, upX_nms (f := fun e => { e with sc := e.sc ++ [(x, tx)], ep := e.ep + 1 }) (fun _ => rfl)]; exact hnn3, by rw [hGK]; exact hnd3, ?_, ?_, ?_, (fun h => by lia), fun _ => ?_⟩
   ·intro p hp
    rw [hGK]
    refine asp hp ?_ fun hp => ?_
    ·exact hoff3 _ (.head _)
    exact hoff3 p (.tail _ (maL _ hp))
   ·show ns4.length ≤ ns.length + 1 + 1
    rw [hns4, upX_len]; have : c.ns.length ≤ ns.length + 1 + 0 := p5; lia
   ·intro e he
    have he' : e ∈ ns4 := he
    rw [hns4] at he'
    refine el1_2 (mm1 he') ?_; intro e0 he0 e92; subst e92
    have := hsc3 e0 he0
    split
    ·show (e0.sc ++ [(x, tx)]).length ≤ _
     rw [List.length_append]
     simp; lia
    lia
   show proj2 ns4 = _
   unfold gadd
   rw [← p6 rfl, ← proj2_get hc3 he3 hx3, hns4, ← hx3]
   unfold proj2 upX gup
   rw [List.map_map, List.map_map]
   apply List.map_congr_left
   intro e he
   show projN (if e.nm = e3.nm then { e with sc := e.sc ++ [(x, tx)], ep := e.ep + 1 } else e) = if (projN e).nm = e3.nm then { projN e with sc := (projN e).sc ++ [x] } else projN e
   have e5 : (projN e).nm = e.nm := rfl
   rw [e5]
   split
   ·rename_i hc
    have : e = e3 := nodup_inj hnn3 he he3 hc
    subst this
    unfold projN
    simp
   rfl
  intro z h1 _ h2
  have e1 : z ≠ Str.ofString "pred_info" := ne_rev h2 (by decide)
  have e2 : z ≠ Str.ofString "pred" := ne_rev h1 (by decide)
  rw [if_neg e1, if_neg e2]
  exact kst_rest h2
 clear N8 F8
 intro c u h tk hP F' N'
 refine el0_8 (hP) ?_; (try clear hP); intro p1 p2 p3 p4 p5 p8 p6 p7
 k_steps
 rename Fr _ _ _ _ => F9
 rename News _ _ _ _ => N9
 exact hret c.ns c.o _ _ (p7 (Nat.zero_lt_one)) p1 p2 p3 (fun p hp => p4 p (.tail _ hp)) (by have : c.ns.length ≤ ns.length + 1 + 1 := p5; lia) p8 F9 (nsub N9 fun p hp => .tail _ hp)
theorem gnp_none {g : Gr} {b : Str} (h : b ∉ g.map (·.nm)) : gnp g b = 0 := by
 unfold gnp
 rw [List.find?_eq_none.mpr]
 intro e he hc
 exact h (mm2 ⟨e, he, of_decide_eq_true hc⟩)
theorem gfind_some {g : Gr} {b : Str} (h : b ∈ g.map (·.nm)) : ∃ e, g.find? (fun e => e.nm = b) = some e ∧ e.nm = b := by
 cases hf : g.find? (fun e => decide (e.nm = b)) with
 | some e => exact ⟨e, rfl, by simpa using List.find?_some hf⟩
 | none =>
  refine el1_2 (mm1 h) ?_; intro e he e92; subst e92
  exact absurd (List.find?_eq_none.mp hf e he) (by simp)
theorem plup_nms {g : Gr} {x : Str} {f : GN → GN} (h : ∀ e, (f e).nm = e.nm) : (gup g x f).map (·.nm) = g.map (·.nm) := by
 unfold gup
 rw [List.map_map]
 apply List.map_congr_left
 intro e _
 show (if e.nm = x then f e else e).nm = e.nm
 split
 ·exact h e
 rfl
theorem gnp_up_self {g : Gr} {x : Str} {f : GN → GN} {k : Int → Int} (h : ∀ e, (f e).nm = e.nm) (hk : ∀ e, (f e).np = k e.np) (hx : x ∈ g.map (·.nm)) : gnp (gup g x f) x = k (gnp g x) := by
 refine el1_2 (gfind_some hx) ?_; intro e he hn
 unfold gnp
 rw [gfind_up h, he]
 show (if e.nm = x then f e else e).np = k e.np
 rw [if_pos hn, hk]
theorem gnp_up_np {g : Gr} {x b : Str} {f : GN → GN} (h : ∀ e, (f e).nm = e.nm) (hk : ∀ e, (f e).np = e.np) : gnp (gup g x f) b = gnp g b := by
 unfold gnp
 rw [gfind_up h]
 cases hf : g.find? fun e => e.nm = b with
 | none => rfl
 | some e =>
  show (if e.nm = x then f e else e).np = e.np
  split
  ·exact hk e
  rfl
theorem gsc_up_ne {g : Gr} {x : Str} {f : GN → GN} (h : ∀ e, (f e).nm = e.nm) {b : Str} (hb : b ≠ x) : gsc (gup g x f) b = gsc g b := by
 unfold gsc
 rw [gfind_up h]
 cases hf : g.find? fun e => e.nm = b with
 | none => rfl
 | some e =>
  have h1 : e.nm = b := by simpa using List.find?_some hf
  show (if e.nm = x then f e else e).sc = e.sc
  rw [if_neg (by rw [h1]; exact hb)]
theorem gsc_up_self {g : Gr} {x : Str} {f : GN → GN} {k : List Str → List Str} (h : ∀ e, (f e).nm = e.nm) (hk : ∀ e, (f e).sc = k e.sc) (hx : x ∈ g.map (·.nm)) : gsc (gup g x f) x = k (gsc g x) := by
 refine el1_2 (gfind_some hx) ?_; intro e he hn
 unfold gsc
 rw [gfind_up h, he]
 show (if e.nm = x then f e else e).sc = k e.sc
 rw [if_pos hn, hk]
theorem gget_mem (g : Gr) (x b : Str) : b ∈ (gget g x).map (·.nm) ↔ b ∈ g.map (·.nm) ∨ b = x := by
 unfold gget
 split
 ·rename_i h
  exact ⟨Or.inl, fun q => q.elim id fun e => e ▸ h⟩
 rw [List.map_append, List.mem_append]
 exact or_congr Iff.rfl List.mem_singleton
theorem gget_nodup {g : Gr} (x : Str) (h : (g.map (·.nm)).Nodup) : ((gget g x).map (·.nm)).Nodup := by
 unfold gget
 split
 ·exact h
 rename_i hx
 rw [List.map_append, List.nodup_append]
 refine ⟨h, by simp, ?_⟩
 intro a ha b hb e
 have e' : a = x := by rw [ms1 hb] at e; exact e
 exact hx (e' ▸ ha)
theorem gnp_get (g : Gr) (x b : Str) : gnp (gget g x) b = gnp g b := by
 unfold gget
 split
 ·rfl
 unfold gnp
 rw [List.find?_append]
 cases hf : g.find? fun e => e.nm = b with
 | some e => rfl
 | none =>
  show (match List.find? (fun e : GN => decide (e.nm = b)) [⟨x, 0, []⟩] with | some e => e.np | none => 0) = 0
  rw [List.find?_singleton]
  split <;> rename_i h
  ·split at h
   ·cases h; rfl
   cases h
  rfl
theorem gsc_get (g : Gr) (x b : Str) : gsc (gget g x) b = gsc g b := by
 unfold gget
 split
 ·rfl
 unfold gsc
 rw [List.find?_append]
 cases hf : g.find? fun e => e.nm = b with
 | some e => rfl
 | none =>
  show (match List.find? (fun e : GN => decide (e.nm = b)) [⟨x, 0, []⟩] with | some e => e.sc | none => []) = []
  rw [List.find?_singleton]
  split <;> rename_i h
  ·split at h
   ·cases h; rfl
   cases h
  rfl
noncomputable abbrev upNp (k : Int → Int) (e : GN) : GN := { e with np := k e.np }
noncomputable abbrev upSc (n : Str) (e : GN) : GN := { e with sc := e.sc ++ [n] }
theorem gadd_mem (g : Gr) (n p b : Str) : b ∈ (gadd g n p).map (·.nm) ↔ b ∈ g.map (·.nm) ∨ b = n ∨ b = p := by
 unfold gadd
 rw [plup_nms (f := upSc n) (fun _ => rfl), gget_mem, plup_nms (f := upNp fun z => z + 1) (fun _ => rfl), gget_mem, or_assoc]
theorem gadd_nodup {g : Gr} (n p : Str) (h : (g.map (·.nm)).Nodup) : ((gadd g n p).map (·.nm)).Nodup := by
 unfold gadd
 rw [plup_nms (f := upSc n) (fun _ => rfl)]
 refine gget_nodup _ ?_
 rw [plup_nms (f := upNp fun z => z + 1) (fun _ => rfl)]
 exact gget_nodup _ h
theorem gadd_np (g : Gr) (n p b : Str) : gnp (gadd g n p) b = gnp g b + if n = b then 1 else 0 := by
 unfold gadd
 rw [gnp_up_np (f := upSc n) (fun _ => rfl) (fun _ => rfl), gnp_get]
 by_cases hc : n = b
 ·subst hc
  rw [if_pos rfl, gnp_up_self (f := upNp fun z => z + 1) (k := fun z => z + 1) (fun _ => rfl) (fun _ => rfl) ((gget_mem _ _ _).mpr (.inr rfl)), gnp_get]
 rw [if_neg hc, gnp_up_ne (f := upNp fun z => z + 1) (fun _ => rfl) (fun q => hc q.symm), gnp_get, Int.add_zero]
theorem gadd_sc (g : Gr) (n p b : Str) : gsc (gadd g n p) b = gsc g b ++ if p = b then [n] else [] := by
 unfold gadd
 by_cases hc : p = b
 ·subst hc
  rw [if_pos rfl, gsc_up_self (f := upSc n) (k := fun z => z ++ [n]) (fun _ => rfl) (fun _ => rfl) ((gget_mem _ _ _).mpr (.inr rfl)), gsc_get, gsc_up (f := upNp fun z => z + 1) (fun _ => rfl) (fun _ => rfl), gsc_get]
 rw [if_neg hc, gsc_up_ne (f := upSc n) (fun _ => rfl) (fun q => hc q.symm), gsc_get, gsc_up (f := upNp fun z => z + 1) (fun _ => rfl) (fun _ => rfl), gsc_get, List.append_nil]
noncomputable def gAll (g : Gr) (es : List (Str × Str)) : Gr := es.foldl (fun g q => gadd g q.2 q.1) g
noncomputable abbrev gOf (es : List (Str × Str)) : Gr := gAll [] es
theorem gAll_np : ∀ (es : List (Str × Str)) (g : Gr) (b : Str), gnp (gAll g es) b = gnp g b + ((es.countP fun q => decide (q.2 = b) : Nat) : Int)
 | [], g, b => (Int.add_zero _).symm
 | q :: es, g, b => by
  show gnp (gAll (gadd g q.2 q.1) es) b = _
  rw [gAll_np es, gadd_np, List.countP_cons]
  split <;> simp_all <;> lia
theorem gAll_sc : ∀ (es : List (Str × Str)) (g : Gr) (b : Str), gsc (gAll g es) b = gsc g b ++ (es.filter fun q => decide (q.1 = b)).map (·.2)
 | [], g, b => (List.append_nil _).symm
 | q :: es, g, b => by
  show gsc (gAll (gadd g q.2 q.1) es) b = _
  rw [gAll_sc es, gadd_sc, List.filter_cons, List.append_assoc]
  congr 1
  by_cases hc : q.1 = b <;> simp [hc]
theorem gAll_mem : ∀ (es : List (Str × Str)) (g : Gr) (b : Str), b ∈ (gAll g es).map (·.nm) ↔ b ∈ g.map (·.nm) ∨ ∃ q ∈ es, b = q.1 ∨ b = q.2
 | [], g, b => by simp [gAll]
 | q :: es, g, b => by
  show b ∈ (gAll (gadd g q.2 q.1) es).map (·.nm) ↔ _
  rw [gAll_mem es, gadd_mem]
  simp only [List.mem_cons, exists_eq_or_imp]
  constructor
  ·rintro ((h | h | h) | h)
   ·exact .inl h
   ·exact .inr (.inl (.inr h))
   ·exact .inr (.inl (.inl h))
   exact .inr (.inr h)
  rintro (h | (h | h) | h)
  ·exact .inl (.inl h)
  ·exact .inl (.inr (.inr h))
  ·exact .inl (.inr (.inl h))
  exact .inr h
theorem gAll_nodup : ∀ (es : List (Str × Str)) (g : Gr), (g.map (·.nm)).Nodup → ((gAll g es).map (·.nm)).Nodup
 | [], g, h => h
 | q :: es, g, h => gAll_nodup es (gadd g q.2 q.1) (gadd_nodup _ _ h)
theorem gOf_np (es : List (Str × Str)) (b : Str) : gnp (gOf es) b = ((es.countP fun q => decide (q.2 = b) : Nat) : Int) := by
 rw [gAll_np]
 exact Int.zero_add _
theorem gOf_sc (es : List (Str × Str)) (b : Str) : gsc (gOf es) b = (es.filter fun q => decide (q.1 = b)).map (·.2) := by
 rw [gAll_sc]; rfl
theorem gOf_sc_mem {es : List (Str × Str)} {f b : Str} : b ∈ gsc (gOf es) f ↔ (f, b) ∈ es := by
 rw [gOf_sc]
 constructor
 ·intro h
  refine el1_2 (mm1 h) ?_; intro q hq e92; subst e92
  refine el0_2 (mf1 hq) ?_; intro h1 h2
  have : q.1 = f := of_decide_eq_true h2
  subst this
  exact h1
 intro h
 exact mm2 ⟨(f, b), List.mem_filter.mpr ⟨h, decide_eq_true rfl⟩, rfl⟩
noncomputable def lv (es : List (Str × Str)) : Nat → List Str
 | 0 => (gOf es).map (·.nm)
 | k + 1 => (lv es k).filter fun b => es.any fun q => decide (q.2 = b) && decide (q.1 ∈ lv es k)
theorem lv_sub {es : List (Str × Str)} {k : Nat} {b : Str} (h : b ∈ lv es (k + 1)) : b ∈ lv es k := (mf1 h).1
theorem lv_pred {es : List (Str × Str)} {k : Nat} {b : Str} (h : b ∈ lv es (k + 1)) : ∃ f, (f, b) ∈ es ∧ f ∈ lv es k := by
 have h2 := (mf1 h).2
 refine el1_2 (List.any_eq_true.mp h2) ?_; intro q hq hc
 simp only [Bool.and_eq_true, decide_eq_true_eq] at hc
 refine el0_2 (hc) ?_; (try clear hc); intro h3 h4
 subst h3
 exact ⟨q.1, hq, h4⟩
theorem lv_step {es : List (Str × Str)} : ∀ {k : Nat} {f b : Str}, (f, b) ∈ es → f ∈ lv es k → b ∈ lv es (k + 1) := by
 intro k
 induction k with
 | zero =>
  intro f b he hf
  refine List.mem_filter.mpr ⟨(gAll_mem es [] b).mpr (.inr ⟨_, he, .inr rfl⟩), List.any_eq_true.mpr ⟨_, he, ?_⟩⟩
  exact Bool.and_eq_true_iff.mpr ⟨decide_eq_true rfl, decide_eq_true hf⟩
 | succ k ih =>
  intro f b he hf
  refine List.mem_filter.mpr ⟨ih he (lv_sub hf), List.any_eq_true.mpr ⟨_, he, ?_⟩⟩
  exact Bool.and_eq_true_iff.mpr ⟨decide_eq_true rfl, decide_eq_true hf⟩
theorem lv_succ {es : List (Str × Str)} {k : Nat} {b : Str} : b ∈ lv es (k + 1) ↔ ∃ f, (f, b) ∈ es ∧ f ∈ lv es k :=
 ⟨lv_pred, fun ⟨f, h1, h2⟩ => lv_step h1 h2⟩
theorem lv_mono {es : List (Str × Str)} {b : Str} : ∀ {k j : Nat}, k ≤ j → b ∈ lv es j → b ∈ lv es k := by
 intro k j h hb
 induction h with
 | refl => exact hb
 | step _ ih => exact ih (lv_sub hb)
theorem lv_nodup (es : List (Str × Str)) : ∀ k, (lv es k).Nodup
 | 0 => gAll_nodup es [] .nil
 | k + 1 => (lv_nodup es k).filter _
theorem pldec_nms (st : Gr × List Str) (c : Str) : (gdec st c).1.map (·.nm) = st.1.map (·.nm) := plup_nms (f := upNp fun z => z - 1) (fun _ => rfl)
theorem pldecs_nms : ∀ (l : List Str) (st : Gr × List Str), (l.foldl gdec st).1.map (·.nm) = st.1.map (·.nm)
 | [], _ => rfl
 | c :: l, st => by rw [List.foldl_cons, pldecs_nms l, pldec_nms]
theorem pldone1_nms (st : Gr × List Str) (x : Str) : (gdone1 st x).1.map (·.nm) = st.1.map (·.nm) := by
 unfold gdone1
 rw [pldecs_nms]
 exact plup_nms (f := upNp fun _ => -2) (fun _ => rfl)
theorem pldone_nms : ∀ (xs : List Str) (st : Gr × List Str), (gdone st xs).1.map (·.nm) = st.1.map (·.nm)
 | [], _ => rfl
 | x :: xs, st => by
  show (gdone (gdone1 st x) xs).1.map (·.nm) = _
  rw [pldone_nms xs, pldone1_nms]
theorem pldone_sc : ∀ (xs : List Str) (st : Gr × List Str) (b : Str), gsc (gdone st xs).1 b = gsc st.1 b
 | [], _, _ => rfl
 | x :: xs, st, b => by
  show gsc (gdone (gdone1 st x) xs).1 b = _
  rw [pldone_sc xs, gdone1_sc]
theorem ite_iff {p q : Prop} [Decidable p] [Decidable q] {a b : Nat} (h : p ↔ q) : (if p then a else b) = if q then a else b := by
 by_cases k : p
 ·rw [if_pos k, if_pos (h.mp k)]
 rw [if_neg k, if_neg fun q => k (h.mpr q)]
theorem ifsum2 (n : Int) (k m a : Nat) : a + (if 1 ≤ n ∧ n ≤ (k : Int) then 1 else 0) + (if 1 ≤ n - (k : Int) ∧ n - (k : Int) ≤ (m : Int) then 1 else 0) = a + if 1 ≤ n ∧ n ≤ ((k + m : Nat) : Int) then 1 else 0 := by
 have e : ((k + m : Nat) : Int) = (k : Int) + m := rfl
 rw [e]
 by_cases h1 : 1 ≤ n
 ·by_cases h2 : n ≤ k
  ·rw [if_pos ⟨h1, h2⟩, if_neg (fun h => by lia), if_pos ⟨h1, by lia⟩]
  rw [if_neg (fun h => h2 h.2)]
  refine congrArg (a + ·) (ite_iff ⟨fun h => ⟨h1, by lia⟩, fun h => ⟨by lia, by lia⟩⟩)
 rw [if_neg (fun h => h1 h.1), if_neg (fun h => h1 (by lia)), if_neg (fun h => h1 h.1)]
theorem dec_fold : ∀ (l : List Str) (st : Gr × List Str) (b : Str), b ∈ st.1.map (·.nm) →
  gnp (l.foldl gdec st).1 b = gnp st.1 b - (l.count b : Int) ∧ (l.foldl gdec st).2.count b = st.2.count b + if 1 ≤ gnp st.1 b ∧ gnp st.1 b ≤ (l.count b : Int) then 1 else 0
 | [], st, b, hb => by
  refine ⟨(Int.sub_zero _).symm, ?_⟩
  rw [if_neg]
  ·rfl
  exact fun h => absurd (show (1 : Int) ≤ 0 from Int.le_trans h.1 h.2) (by decide)
 | c :: l, st, b, hb => by
  obtain ⟨h1, h2⟩ := dec_fold l (gdec st c) b (by rw [pldec_nms]; exact hb)
  rw [List.foldl_cons, h1, h2, List.count_cons]
  by_cases hc : c = b
  ·subst hc
   have e1 : gnp (gdec st c).1 c = gnp st.1 c - 1 := gnp_up_self (f := upNp fun z => z - 1) (k := fun z => z - 1) (fun _ => rfl) (fun _ => rfl) hb
   have e2 : (gdec st c).2.count c = st.2.count c + if gnp st.1 c = 1 then 1 else 0 := by
    show (if gnp st.1 c = 1 then st.2 ++ [c] else st.2).count c = _
    split
    ·rw [List.count_append]; simp
    rfl
   rw [e1, e2]
   simp only [beq_self_eq_true, if_true]
   refine ⟨by rw [Int.sub_sub, Int.add_comm]; rfl, ?_⟩
   rw [Nat.add_comm (List.count c l) 1, ← ifsum2]
   congr 2
   exact ite_iff (Iff.intro (fun h => ⟨Int.le_of_eq h.symm, Int.le_of_eq h⟩) fun h => Int.le_antisymm h.2 h.1)
  have e1 : gnp (gdec st c).1 b = gnp st.1 b := gnp_up_ne (f := upNp fun z => z - 1) (fun _ => rfl) (fun q => hc q.symm)
  have e2 : (gdec st c).2.count b = st.2.count b := by
   show (if gnp st.1 c = 1 then st.2 ++ [c] else st.2).count b = _
   split
   ·rw [List.count_append, List.count_cons_of_ne hc]; simp
   rfl
  rw [e1, e2]
  have e3 : (c == b) = false := by simpa using hc
  rw [e3]
  exact ⟨rfl, rfl⟩
theorem dec_out : ∀ (l : List Str) (st : Gr × List Str) (b : Str), b ∈ (l.foldl gdec st).2 → b ∈ st.2 ∨ b ∈ l
 | [], st, b, h => .inl h
 | c :: l, st, b, h => by
  rcases dec_out l (gdec st c) b h with h | h
  ·have h' : b ∈ (if gnp st.1 c = 1 then st.2 ++ [c] else st.2) := h
   split at h'
   ·refine ast h' (fun h' => ?_) fun h' => ?_
    ·exact .inl h'
    exact .inr (by rw [ms1 h']; exact .head _)
   exact .inl h'
  exact .inr (.tail _ h)
theorem done_fold : ∀ (xs : List Str) (st : Gr × List Str) (b : Str), b ∈ st.1.map (·.nm) → b ∉ xs →
  gnp (gdone st xs).1 b = gnp st.1 b - ((xs.flatMap (gsc st.1)).count b : Int) ∧ (gdone st xs).2.count b = st.2.count b + if 1 ≤ gnp st.1 b ∧ gnp st.1 b ≤ ((xs.flatMap (gsc st.1)).count b : Int) then 1 else 0
 | [], st, b, hb, hn => by
  refine ⟨(Int.sub_zero _).symm, ?_⟩
  rw [if_neg]
  ·rfl
  exact fun h => absurd (show (1 : Int) ≤ 0 from Int.le_trans h.1 h.2) (by decide)
 | x :: xs, st, b, hb, hn => by
  obtain ⟨h1, h2⟩ := done_fold xs (gdone1 st x) b (by rw [pldone1_nms]; exact hb) (fun q => hn (.tail _ q))
  have hbx : b ≠ x := fun e => hn (e ▸ .head _)
  have e0 : gnp (gup st.1 x fun e => { e with np := -2 }) b = gnp st.1 b := gnp_up_ne (f := upNp fun _ => -2) (fun _ => rfl) hbx
  obtain ⟨h3, h4⟩ := dec_fold (gsc st.1 x) (gup st.1 x fun e => { e with np := -2 }, st.2) b (by show b ∈ (gup st.1 x _).map (·.nm); rw [plup_nms (f := upNp fun _ => -2) (fun _ => rfl)]; exact hb)
  have e1 : (gdone1 st x) = (gsc st.1 x).foldl gdec (gup st.1 x fun e => { e with np := -2 }, st.2) := rfl
  rw [← e1] at h3 h4
  have e2 : xs.flatMap (gsc (gdone1 st x).1) = xs.flatMap (gsc st.1) := by
   congr 1
   funext q
   exact gdone1_sc st x q
  rw [e2] at h1 h2
  rw [show (gdone st (x :: xs)) = gdone (gdone1 st x) xs from rfl, h1, h2, h4, h3, List.flatMap_cons, List.count_append]
  dsimp only
  rw [e0]
  exact ⟨Int.sub_sub _ _ _, ifsum2 _ _ _ _⟩
theorem done_out : ∀ (xs : List Str) (st : Gr × List Str) (b : Str), b ∈ (gdone st xs).2 → b ∈ st.2 ∨ b ∈ xs.flatMap (gsc st.1)
 | [], st, b, h => .inl h
 | x :: xs, st, b, h => by
  have e2 : xs.flatMap (gsc (gdone1 st x).1) = xs.flatMap (gsc st.1) := by
   congr 1
   funext q
   exact gdone1_sc st x q
  rw [List.flatMap_cons, List.mem_append]
  rcases done_out xs (gdone1 st x) b h with h | h
  ·rcases dec_out _ _ _ h with h | h
   ·exact .inl h
   exact .inr (.inl h)
  rw [e2] at h
  exact .inr (.inr h)
theorem plout_nms : ∀ (xs : List Str) (g : Gr), (gout g xs).map (·.nm) = g.map (·.nm)
 | [], _ => rfl
 | x :: xs, g => by
  show (gout (gup g x _) xs).map (·.nm) = _
  rw [plout_nms xs, plup_nms (f := upNp fun _ => -1) (fun _ => rfl)]
theorem plout_np : ∀ (xs : List Str) (g : Gr) (b : Str), b ∉ xs → gnp (gout g xs) b = gnp g b
 | [], _, _, _ => rfl
 | x :: xs, g, b, h => by
  show gnp (gout (gup g x _) xs) b = _
  have hb : b ≠ x := fun e => h (by rw [e]; exact .head _)
  rw [plout_np xs _ b (fun q => h (.tail _ q)), gnp_up_ne (f := upNp fun _ => -1) (fun _ => rfl) hb]
theorem countP_split {α : Type} {p q r : α → Bool} : ∀ (l : List α), (∀ x ∈ l, (p x = true ↔ (q x = true ∨ r x = true)) ∧ ¬ (q x = true ∧ r x = true)) → l.countP p = l.countP q + l.countP r
 | [], _ => rfl
 | x :: l, h => by
  have ih := countP_split (p := p) (q := q) (r := r) l fun y hy => h y (.tail _ hy)
  refine el0_2 (h x (.head _)) ?_; intro h1 h2
  rw [List.countP_cons, List.countP_cons, List.countP_cons, ih]
  cases hq : q x with
  | true =>
   have hr : r x = false := Bool.eq_false_iff.mpr fun hr => h2 ⟨hq, hr⟩
   rw [h1.mpr (.inl hq), hr]
   exact Nat.add_right_comm _ _ 1
  | false =>
   cases hr : r x with
   | true =>
    rw [h1.mpr (.inr hr)]
    rfl
   | false =>
    have hp : p x = false := Bool.eq_false_iff.mpr fun hp => (h1.mp hp).elim (fun h => absurd (hq.symm.trans h) (by decide)) fun h => absurd (hr.symm.trans h) (by decide)
    rw [hp]
    rfl
theorem count_succs (es : List (Str × Str)) (b : Str) : ∀ (rs : List Str), rs.Nodup → (rs.flatMap (gsc (gOf es))).count b = es.countP fun q => decide (q.2 = b) && decide (q.1 ∈ rs)
 | [], _ => by
  rw [List.flatMap_nil, List.count_nil]
  symm
  rw [List.countP_eq_zero]
  intro q _
  simp
 | x :: rs, hn => by
  refine el0_2 (nc1 hn) ?_; intro n1 n2
  rw [List.flatMap_cons, List.count_append, count_succs es b rs n2, gOf_sc]
  have e1 : ((es.filter fun q => decide (q.1 = x)).map (·.2)).count b = es.countP fun q => decide (q.2 = b) && decide (q.1 = x) := by
   rw [List.count, List.countP_map, List.countP_filter]
   congr 1
  rw [e1]
  symm
  refine countP_split es fun q _ => ?_
  simp only [Bool.and_eq_true, decide_eq_true_eq, List.mem_cons]
  constructor
  ·constructor
   ·rintro ⟨h1, h2 | h2⟩
    ·exact .inl ⟨h1, h2⟩
    exact .inr ⟨h1, h2⟩
   rintro (⟨h1, h2⟩ | ⟨h1, h2⟩)
   ·exact ⟨h1, .inl h2⟩
   exact ⟨h1, .inr h2⟩
  rintro ⟨⟨_, h1⟩, ⟨_, h2⟩⟩
  exact n1 (h1 ▸ h2)
structure Kst (es : List (Str × Str)) (k : Nat) (g : Gr) (rs : List Str) : Prop where
 nms : g.map (·.nm) = (gOf es).map (·.nm)
 sc : ∀ x, gsc g x = gsc (gOf es) x
 np : ∀ b ∈ lv es k, gnp g b = ((es.countP fun q => decide (q.2 = b) && decide (q.1 ∈ lv es k) : Nat) : Int)
 nd : rs.Nodup
 mem : ∀ b, b ∈ rs ↔ b ∈ lv es k ∧ b ∉ lv es (k + 1)
theorem cnt_pos {es : List (Str × Str)} {k : Nat} {b : Str} : 1 ≤ (es.countP fun q => decide (q.2 = b) && decide (q.1 ∈ lv es k)) ↔ b ∈ lv es (k + 1) := by
 show 0 < _ ↔ _
 rw [List.countP_pos_iff, lv_succ]
 constructor
 ·rintro ⟨q, hq, hc⟩
  simp only [Bool.and_eq_true, decide_eq_true_eq] at hc
  refine el0_2 (hc) ?_; (try clear hc); intro h1 h2
  subst h1
  exact ⟨q.1, hq, h2⟩
 rintro ⟨f, h1, h2⟩
 exact ⟨_, h1, Bool.and_eq_true_iff.mpr ⟨decide_eq_true rfl, decide_eq_true h2⟩⟩
theorem kst_own {es : List (Str × Str)} {k : Nat} {g : Gr} {rs : List Str} (K : Kst es k g rs) : ∀ q ∈ rs, ∀ r ∈ rs, r ∉ gsc g q := by
 intro q hq r hr hc
 rw [K.sc, gOf_sc_mem] at hc
 exact ((K.mem r).mp hr).2 (lv_step hc ((K.mem q).mp hq).1)
theorem kst_next {es : List (Str × Str)} {k : Nat} {g : Gr} {rs : List Str} (K : Kst es k g rs) : Kst es (k + 1) (gdone (gout g rs, []) rs).1 (gdone (gout g rs, []) rs).2 := by
 have hsc : rs.flatMap (gsc (gout g rs)) = rs.flatMap (gsc (gOf es)) := by
  congr 1
  funext q
  rw [gout_sc, K.sc]
 have hnm : ∀ b ∈ lv es (k + 1), b ∈ (gout g rs).map (·.nm) ∧ b ∉ rs := fun b hb => ⟨by rw [plout_nms, K.nms]; exact lv_mono (Nat.zero_le _) hb, fun hr => ((K.mem b).mp hr).2 hb⟩
 have hfold : ∀ b ∈ lv es (k + 1), gnp (gdone (gout g rs, []) rs).1 b = ((es.countP fun q => decide (q.2 = b) && decide (q.1 ∈ lv es (k + 1)) : Nat) : Int) ∧ (gdone (gout g rs, []) rs).2.count b = if b ∈ lv es (k + 2) then 0 else 1 := by
  intro b hb
  refine el0_2 (hnm b hb) ?_; intro b1 b2
  refine el0_2 (done_fold rs (gout g rs, []) b b1 b2) ?_; intro h1 h2
  dsimp only at h1 h2
  rw [hsc, count_succs es b rs K.nd, plout_np _ _ _ b2, K.np b (lv_sub hb)] at h1 h2
  have hs : (es.countP fun q => decide (q.2 = b) && decide (q.1 ∈ lv es k)) = (es.countP fun q => decide (q.2 = b) && decide (q.1 ∈ rs)) + es.countP fun q => decide (q.2 = b) && decide (q.1 ∈ lv es (k + 1)) := by
   refine countP_split es fun q _ => ?_
   simp only [Bool.and_eq_true, decide_eq_true_eq]
   refine ⟨⟨?_, ?_⟩, ?_⟩
   ·rintro ⟨h1, h2⟩
    by_cases hc : q.1 ∈ lv es (k + 1)
    ·exact .inr ⟨h1, hc⟩
    exact .inl ⟨h1, (K.mem _).mpr ⟨h2, hc⟩⟩
   ·rintro (⟨h1, h2⟩ | ⟨h1, h2⟩)
    ·exact ⟨h1, ((K.mem _).mp h2).1⟩
    exact ⟨h1, lv_sub h2⟩
   rintro ⟨⟨_, h1⟩, ⟨_, h2⟩⟩
   exact ((K.mem _).mp h1).2 h2
  have p1 := cnt_pos.mpr hb
  have p2 : 1 ≤ (es.countP fun q => decide (q.2 = b) && decide (q.1 ∈ lv es (k + 1))) ↔ b ∈ lv es (k + 2) := cnt_pos
  rw [hs] at h1 h2 p1
  generalize (es.countP fun q => decide (q.2 = b) && decide (q.1 ∈ rs)) = n1 at *
  generalize (es.countP fun q => decide (q.2 = b) && decide (q.1 ∈ lv es (k + 1))) = n2 at *
  refine ⟨by rw [h1]; omega, ?_⟩
  rw [h2, List.count_nil]
  by_cases hc : b ∈ lv es (k + 2)
  ·rw [if_pos hc, if_neg]
   have := p2.mpr hc
   omega
  rw [if_neg hc, if_pos]
  have : ¬ 1 ≤ n2 := fun q => hc (p2.mp q)
  omega
 have hout : ∀ b, b ∈ (gdone (gout g rs, []) rs).2 → b ∈ lv es (k + 1) := by
  intro b hb
  rcases done_out _ _ _ hb with h | h
  ·exact absurd h List.not_mem_nil
  rw [show rs.flatMap (gsc (gout g rs, ([] : List Str)).1) = rs.flatMap (gsc (gout g rs)) from rfl, hsc] at h
  refine el1_2 (List.mem_flatMap.mp h) ?_; intro f hf hb2
  exact lv_step (gOf_sc_mem.mp hb2) ((K.mem f).mp hf).1
 refine ⟨by rw [pldone_nms, plout_nms, K.nms], fun x => by rw [pldone_sc, gout_sc, K.sc], fun b hb => (hfold b hb).1, ?_, fun b => ?_⟩
 ·rw [List.nodup_iff_count]
  intro b
  by_cases hb : b ∈ (gdone (gout g rs, []) rs).2
  ·rw [(hfold b (hout b hb)).2]
   split <;> omega
  rw [List.count_eq_zero_of_not_mem hb]; omega
 constructor
 ·intro hb
  have h1 := hout b hb
  refine ⟨h1, fun hc => ?_⟩
  have h2 := (hfold b h1).2
  rw [if_pos hc] at h2
  exact absurd (List.count_pos_iff.mpr hb) (by omega)
 rintro ⟨h1, h2⟩
 have h3 := (hfold b h1).2
 rw [if_neg h2] at h3
 exact List.count_pos_iff.mp (by omega)
theorem kst_first {es : List (Str × Str)} {rs : List Str} (hn : rs.Nodup) (hm : ∀ b, b ∈ rs ↔ b ∈ (gOf es).map (·.nm) ∧ gnp (gOf es) b = 0) : Kst es 0 (gOf es) rs := by
 have hc : ∀ b, (es.countP fun q => decide (q.2 = b)) = es.countP fun q => decide (q.2 = b) && decide (q.1 ∈ lv es 0) := by
  intro b
  refine List.countP_congr fun q hq => ?_
  have : q.1 ∈ lv es 0 := (gAll_mem es [] _).mpr (.inr ⟨q, hq, .inl rfl⟩)
  simp [this]
 refine ⟨rfl, fun _ => rfl, fun b _ => ?_, hn, fun b => ?_⟩
 ·rw [gOf_np, hc]
 rw [hm, gOf_np, hc]
 refine and_congr Iff.rfl ?_
 have p2 : 1 ≤ (es.countP fun q => decide (q.2 = b) && decide (q.1 ∈ lv es 0)) ↔ b ∈ lv es 1 := cnt_pos
 rw [← p2]
 omega
theorem filter_lt {α : Type} {p : α → Bool} : ∀ {l : List α} {x : α}, x ∈ l → p x = false → (l.filter p).length < l.length
 | y :: l, x, h, hp => by
  rw [List.filter_cons]
  rcases mc1 h with rfl | h
  ·rw [if_neg (by rw [hp]; decide)]
   exact Nat.lt_succ_of_le (List.length_filter_le _ _)
  have ih := filter_lt h hp
  split
  ·exact Nat.succ_lt_succ ih
  exact nls ih
theorem lv_lt {es : List (Str × Str)} {k : Nat} {b : Str} (h1 : b ∈ lv es k) (h2 : b ∉ lv es (k + 1)) : (lv es (k + 1)).length < (lv es k).length := by
 refine filter_lt h1 ?_
 rw [Bool.eq_false_iff]
 intro hc
 exact h2 (List.mem_filter.mpr ⟨h1, hc⟩)
theorem crun_stop {es : List (Str × Str)} {ends : List Str} {gc : List (List Str)} {k : Nat} (hc : CRun es ends gc) (hs : sortedS ends = true) (hd : ends.Nodup) (hm : ∀ b, b ∈ ends ↔ b ∈ lv es k) (h : ∀ b, b ∈ lv es k → b ∈ lv es (k + 1)) : [] = gc := by
 cases hc with
 | stop _ => rfl
 | step hi hne hc =>
  refine absurd (sorted_unique (sortedS_pair hi.1) (sortedS_pair hs) hi.2.1 hd fun x => ?_) hne
  rw [hi.2.2 x, hm]
  constructor
  ·rintro ⟨f, h1, h2⟩
   exact lv_sub (lv_step h1 ((hm f).mp h2))
  intro hx
  refine el1_2 (lv_pred (h x hx)) ?_; intro f h1 h2
  exact ⟨f, h1, (hm f).mpr h2⟩
theorem grun_ex {es : List (Str × Str)} (h18 : (lv es 0).length ≤ 18) : ∀ (n k : Nat) (g : Gr) (rs : List Str), (lv es k).length ≤ n → Kst es k g rs →
  ∃ gs, GRun g rs gs ∧ gs.length ≤ n ∧ (∀ b, b ∈ lv es (k + gs.length) → b ∈ lv es (k + gs.length + 1)) ∧ (∀ j, j < gs.length → ∃ b, b ∈ lv es (k + j) ∧ b ∉ lv es (k + j + 1)) ∧
   ∀ ends gc, CRun es ends gc → sortedS ends = true → ends.Nodup → (∀ b, b ∈ ends ↔ b ∈ lv es k) → ∀ gs', Paired SortedOf gs gs' → gs' = gc := by
 intro n
 induction n with
 | zero =>
  intro k g rs hn K
  have h0 : lv es k = [] := List.length_eq_zero_iff.mp (Nat.le_zero.mp hn)
  have hr : rs = [] := List.eq_nil_iff_forall_not_mem.mpr fun b hb => by
   have := ((K.mem b).mp hb).1
   rw [h0] at this
   exact absurd this List.not_mem_nil
  subst hr
  refine ⟨[], .nil g, Nat.le_refl _, fun b hb => ?_, fun j hj => absurd hj (Nat.not_lt_zero j), ?_⟩
  ·have hb' : b ∈ lv es k := hb
   rw [h0] at hb'
   exact absurd hb' List.not_mem_nil
  intro ends gc hc hs hd hm gs' hp
  cases hp
  exact crun_stop hc hs hd hm fun b hb => by rw [h0] at hb; exact absurd hb List.not_mem_nil
 | succ n ih =>
  intro k g rs hn K
  by_cases hr : rs = []
  ·subst hr
   have hst : ∀ b, b ∈ lv es k → b ∈ lv es (k + 1) := fun b hb => by
    by_cases hc : b ∈ lv es (k + 1)
    ·exact hc
    exact absurd ((K.mem b).mpr ⟨hb, hc⟩) List.not_mem_nil
   refine ⟨[], .nil g, Nat.zero_le _, hst, fun j hj => absurd hj (Nat.not_lt_zero j), ?_⟩
   intro ends gc hc hs hd hm gs' hp
   cases hp
   exact crun_stop hc hs hd hm hst
  refine el1_1 (List.exists_mem_of_ne_nil rs hr) ?_; intro b0 hb0
  refine el0_2 ((K.mem b0).mp hb0) ?_; intro c1 c2
  have hlt := lv_lt c1 c2
  refine el1_5 (ih (k + 1) _ _ (by omega) (kst_next K)) ?_; intro gs q1 q2 q3 q4 q5
  have hl : rs.length ≤ 18 := by
   have h1 : ∀ j, (lv es j).length ≤ (lv es 0).length := fun j => by
    induction j with
    | zero => exact Nat.le_refl _
    | succ j ihj => exact Nat.le_trans (List.length_filter_le _ _) ihj
   have h2 : rs.length ≤ (lv es k).length := nodup_len K.nd fun b hb => ((K.mem b).mp hb).1
   exact Nat.le_trans h2 (Nat.le_trans (h1 k) h18)
  refine ⟨rs :: gs, .cons hr hl K.nd (fun x hx => by rw [K.nms]; exact lv_mono (Nat.zero_le _) ((K.mem x).mp hx).1) (kst_own K) q1, Nat.succ_le_succ q2, ?_, ?_, ?_⟩
  ·intro b hb
   rw [List.length_cons] at hb ⊢
   rw [← Nat.succ_add_eq_add_succ k gs.length] at hb ⊢
   exact q3 b hb
  ·intro j hj
   cases j with
   | zero => exact ⟨b0, c1, c2⟩
   | succ j =>
    obtain ⟨b, e1, e2⟩ := q4 j (Nat.lt_of_succ_lt_succ hj)
    refine ⟨b, ?_, ?_⟩
    ·rw [← Nat.succ_add_eq_add_succ k j]; exact e1
    rw [← Nat.succ_add_eq_add_succ k j]; exact e2
  intro ends gc hc hs hd hm gs' hp
  cases hp with
  | cons hxy hp =>
   cases hc with
   | stop hi =>
    exfalso
    have := (hi.2.2 b0).mp ((hm b0).mpr c1)
    refine el1_2 (this) ?_; (try clear this); intro f e1 e2
    exact c2 (lv_step e1 ((hm f).mp e2))
   | step hi hne hc =>
    rename_i longer gc'
    have hm2 : ∀ b, b ∈ longer ↔ b ∈ lv es (k + 1) := fun b => by
     rw [hi.2.2 b, lv_succ]
     exact exists_congr fun f => and_congr Iff.rfl (hm f)
    have e1 := q5 _ _ hc hi.1 hi.2.1 hm2 _ hp
    rw [e1]
    congr 1
    refine sorted_unique (sortedS_pair hxy.2) (List.Pairwise.filter _ (sortedS_pair hs)) (hxy.1.nodup_iff.mpr K.nd) (hd.filter _) fun x => ?_
    rw [hxy.1.mem_iff, K.mem, List.mem_filter, hm]
    refine and_congr Iff.rfl ?_
    rw [← hm2]
    simp
section
open PySem.StrLaws
noncomputable abbrev cl (x : Str) : List Nat := x.cps.toList
noncomputable def ofL (l : List Nat) : Str := ⟨l.toArray⟩
theorem cl_ofL (l : List Nat) : cl (ofL l) = l := rfl
theorem cl_len (x : Str) : (cl x).length = x.length := by simp [Str.length]
theorem cl_size (x : Str) : (cl x).length = x.cps.size := by simp
theorem cl_cat (x y : Str) : cl (x ++ y) = cl x ++ cl y := by
 show (x ++ y).cps.toList = _
 rw [PySem.Str.cps_append, Array.toList_append]
theorem slice_take {x : Str} {c : Nat} (h : c ≤ x.length) : cl (Txt.slice x none (some (c : Int))) = (cl x).take c := by
 have e : Txt.slice x none (some (c : Int)) = sliceText x (some ((0 : Nat) : Int)) (some (c : Int)) := by
  show sliceText x none (some (c : Int)) = _
  unfold sliceText
  rewrite [sliceIdx_none_lo]
  rfl
 rw [e, sliceText_nat x (Nat.zero_le _) h]
 simp
theorem slice_drop {x : Str} {c : Nat} (h : c ≤ x.length) : cl (Txt.slice x (some (c : Int)) none) = (cl x).drop c := by
 have e : Txt.slice x (some (c : Int)) none = sliceText x (some (c : Int)) (some ((x.length : Nat) : Int)) := by
  show sliceText x (some (c : Int)) none = _
  unfold sliceText
  rw [sliceIdx_none_hi]
 rw [e, sliceText_nat x h (Nat.le_refl _)]
 show ((x.cps.toList.drop c).take (x.length - c)) = x.cps.toList.drop c
 apply List.take_of_length_le
 rw [List.length_drop, cl_len]
 exact Nat.le_refl _
theorem slice_mid {x : Str} {a b : Nat} (hab : a ≤ b) (h : b ≤ x.length) : cl (Txt.slice x (some (a : Int)) (some (b : Int))) = ((cl x).drop a).take (b - a) := by
 show cl (sliceText x (some (a : Int)) (some (b : Int))) = _
 rw [sliceText_nat x hab h]
theorem slice_inner {x : Str} (h : 2 ≤ x.length) : cl (Txt.slice x (some 1) (some (-1))) = ((cl x).drop 1).take (x.length - 2) := by
 have e : Txt.slice x (some 1) (some (-1)) = sliceText x (some ((1 : Nat) : Int)) (some ((x.length - 1 : Nat) : Int)) := by
  show sliceText x (some 1) (some (-1)) = _
  unfold sliceText
  have e2 : Builtin.Str.strSliceIndices (some 1) (some (-1)) 1 x.length = Builtin.Str.strSliceIndices (some ((1 : Nat) : Int)) (some ((x.length - 1 : Nat) : Int)) 1 x.length := by
   have a1 : ¬ (((x.length - 1 : Nat) : Int) < 0) := by lia
   have a2 : max (0 : Int) (min (-1 + (x.length : Int)) (x.length : Int)) = max (0 : Int) (min (((x.length - 1 : Nat) : Int)) (x.length : Int)) := by lia
   simp [Builtin.Str.strSliceIndices, a1, a2]
  rw [e2]
 rw [e, sliceText_nat x (by lia) (by lia)]
 show ((x.cps.toList.drop 1).take (x.length - 1 - 1)) = _
 rfl
theorem mem_cuts {x : Str} {k : Nat} {f b : Str} : (f, b) ∈ cutsOf x k ↔ ∃ i, i < k ∧ f = Txt.slice x none (some ((1 + i : Nat) : Int)) ∧ b = Txt.slice x (some ((1 + i : Nat) : Int)) none := by
 unfold cutsOf
 rw [List.mem_map]
 have e : ∀ i : Nat, (1 + (i : Int) * 1) = ((1 + i : Nat) : Int) := fun i => by lia
 constructor
 ·rintro ⟨i, hi, h⟩
  rw [e] at h
  cases h
  exact ⟨i, List.mem_range.mp hi, rfl, rfl⟩
 rintro ⟨i, hi, rfl, rfl⟩
 refine ⟨i, List.mem_range.mpr hi, ?_⟩
 rw [e]
def StepW (wl : List Str) (z : Nat) (f b : Str) : Prop := ∃ x ∈ wl, cl x = cl f ++ cl b ∧ 1 ≤ (cl f).length ∧ (cl f).length < z
theorem mem_steps {wl : List Str} {z : Nat} (hz : ∀ x ∈ wl, x.cps.size = z) {f b : Str} : (f, b) ∈ stepsOf wl (z - 1) ↔ StepW wl z f b := by
 unfold stepsOf
 rw [List.mem_flatMap]
 constructor
 ·rintro ⟨x, hx, h⟩
  refine el1_3 (mem_cuts.mp h) ?_; intro i hi e92 e93; subst e92; subst e93
  have hl : x.length = z := hz x hx
  refine ⟨x, hx, ?_, ?_, ?_⟩
  ·rw [slice_take (by lia), slice_drop (by lia), List.take_append_drop]
  ·rw [slice_take (by lia), List.length_take, cl_len]; lia
  rw [slice_take (by lia), List.length_take, cl_len]; lia
 rintro ⟨x, hx, h1, h2, h3⟩
 have hl : x.length = z := hz x hx
 refine ⟨x, hx, mem_cuts.mpr ⟨(cl f).length - 1, by lia, str_eq ?_, str_eq ?_⟩⟩
 ·show cl f = cl _
  rw [show 1 + ((cl f).length - 1) = (cl f).length by lia, slice_take (by lia), h1]
  simp
 show cl b = cl _
 rw [show 1 + ((cl f).length - 1) = (cl f).length by lia, slice_drop (by lia), h1]
 simp
theorem lv_chain {es : List (Str × Str)} : ∀ {k : Nat} {b : Str}, b ∈ lv es k → ∃ x : Nat → Str, x k = b ∧ ∀ i, i < k → (x i, x (i + 1)) ∈ es := by
 intro k
 induction k with
 | zero => intro b _; exact ⟨fun _ => b, rfl, fun i hi => absurd hi (Nat.not_lt_zero i)⟩
 | succ k ih =>
  intro b hb
  refine el1_2 (lv_pred hb) ?_; intro f h1 h2
  refine el1_2 (ih h2) ?_; intro x h3 h4
  refine ⟨fun i => if i ≤ k then x i else b, by show (if k + 1 ≤ k then _ else b) = b; rw [if_neg (by lia)], fun i hi => ?_⟩
  show (if i ≤ k then x i else b, if i + 1 ≤ k then x (i + 1) else b) ∈ es
  by_cases hc : i + 1 ≤ k
  ·rw [if_pos (by lia), if_pos hc]; exact h4 i (by lia)
  have : i = k := by lia
  subst this
  rw [if_pos (Nat.le_refl _), if_neg hc, h3]
  exact h1
theorem chain_lv {es : List (Str × Str)} {x : Nat → Str} : ∀ {k : Nat}, (∀ i, i < k + 1 → (x i, x (i + 1)) ∈ es) → x (k + 1) ∈ lv es (k + 1) := by
 intro k
 induction k with
 | zero =>
  intro h
  exact lv_step (h 0 (by lia)) ((gAll_mem es [] _).mpr (.inr ⟨_, h 0 (by lia), .inl rfl⟩))
 | succ k ih => intro h; exact lv_step (h (k + 1) (by lia)) (ih fun i hi => h i (by lia))
theorem chain_len {wl : List Str} {z : Nat} (hz : ∀ x ∈ wl, x.cps.size = z) {a b : Str} (h : StepW wl z a b) : (cl a).length + (cl b).length = z := by
 refine el1_4 (h) ?_; (try clear h); intro x hx h1 _ _
 have : (cl x).length = z := by rw [cl_size]; exact hz x hx
 rw [h1, List.length_append] at this
 exact this
theorem not_acc_up {α : Type} {R : α → α → Prop} {a : α} (h : ¬ Acc R a) : ∃ b, R b a ∧ ¬ Acc R b := by
 apply Classical.byContradiction
 intro hc
 refine h (Acc.intro a fun b hb => Classical.byContradiction fun hn => hc ⟨b, hb, hn⟩)
theorem not_acc_lv {es : List (Str × Str)} {R : Str → Str → Prop} (hR : ∀ a b, R b a ↔ (a, b) ∈ es) {a : Str} (ha : a ∈ lv es 0) (h : ¬ Acc R a) : ∀ k, ∃ b, b ∈ lv es k ∧ ¬ Acc R b := by
 intro k
 induction k with
 | zero => exact ⟨a, ha, h⟩
 | succ k ih =>
  refine el1_2 (ih) ?_; (try clear ih); intro b h1 h2
  refine el1_2 (not_acc_up h2) ?_; intro c h3 h4
  exact ⟨c, lv_step ((hR b c).mp h3) h1, h4⟩
theorem acc_round {es : List (Str × Str)} {R : Str → Str → Prop} (hR : ∀ a b, R b a ↔ (a, b) ∈ es) {P : Str → Prop} (hP : ∀ a, P a → ∃ b, P b ∧ (a, b) ∈ es) {a : Str} (ha : P a) (h : Acc R a) : False := by
 induction h with
 | intro a _ ih =>
  refine el1_2 (hP a ha) ?_; intro b h1 h2
  exact ih b ((hR a b).mpr h2) h1
end
section
open PySem.StrLaws
theorem rows_mem {wl : List Str} : ∀ {n : Nat} {r : Str}, r ∈ rowsOf wl n ↔ ∃ us : List Str, us.length = n ∧ (∀ u ∈ us, u ∈ wl) ∧ cl r = us.flatMap cl
 | 0, r => by
  show r ∈ [Str.ofString ""] ↔ _
  rw [List.mem_singleton]
  constructor
  ·rintro rfl
   exact ⟨[], rfl, fn0 _, by decide +kernel⟩
  rintro ⟨us, h1, h2, h3⟩
  rw [List.length_eq_zero_iff.mp h1] at h3
  exact str_eq h3
 | n + 1, r => by
  show r ∈ ((rowsOf wl n).flatMap fun r => wl.map fun x => catS r x) ↔ _
  rw [List.mem_flatMap]
  constructor
  ·rintro ⟨r0, h0, h1⟩
   refine el1_2 (mm1 h1) ?_; intro x hx e92; subst e92
   refine el1_3 (rows_mem.mp h0) ?_; intro us e1 e2 e3
   refine ⟨us ++ [x], by rw [List.length_append, e1]; rfl, fun u hu => ?_, ?_⟩
   ·refine ast hu (fun hu => ?_) fun hu => ?_
    ·exact e2 u hu
    rw [ms1 hu]; exact hx
   show cl (r0 ++ x) = _
   rw [cl_cat, e3, List.flatMap_append]
   simp
  rintro ⟨us, h1, h2, h3⟩
  have hne : us ≠ [] := fun e => by rw [e] at h1; cases h1
  have hd : us.dropLast ++ [us.getLast hne] = us := List.dropLast_concat_getLast hne
  refine ⟨ofL (us.dropLast.flatMap cl), rows_mem.mpr ⟨us.dropLast, by rw [List.length_dropLast, h1]; rfl, fun u hu => h2 u (List.dropLast_subset _ hu), rfl⟩, mm2 ⟨us.getLast hne, h2 _ (List.getLast_mem hne), str_eq ?_⟩⟩
  show cl (ofL (us.dropLast.flatMap cl) ++ us.getLast hne) = cl r
  rw [cl_cat, cl_ofL, h3]
  conv => rhs; rw [← hd]
  rw [List.flatMap_append]
  simp
noncomputable def nxt (us : List Str) (v : List Nat) : List Nat := match us with | [] => v | u :: _ => cl u
noncomputable def blk (c : Nat) : List Str → List Nat → List (List Nat)
 | [], _ => []
 | u :: us, v => ((cl u).drop c ++ (nxt us v).take c) :: blk c us v
theorem blk_len (c : Nat) : ∀ (us : List Str) (v : List Nat), (blk c us v).length = us.length
 | [], _ => rfl
 | u :: us, v => congrArg (· + 1) (blk_len c us v)
theorem blk_flat {z c : Nat} (hc : c ≤ z) {v : List Nat} : ∀ {us : List Str}, us ≠ [] → (∀ u ∈ us, (cl u).length = z) → (us.flatMap cl).drop c ++ v.take c = (blk c us v).flatten
 | [], h, _ => absurd rfl h
 | [u], _, _ => by simp [blk, nxt]
 | u :: u' :: r, _, hz => by
  have ih := blk_flat hc (v := v) (us := u' :: r) (by simp) fun y hy => hz y (.tail _ hy)
  have hu := hz u (.head _)
  have hu' := hz u' mH1
  show ((cl u ++ (u' :: r).flatMap cl).drop c) ++ v.take c = ((cl u).drop c ++ (cl u').take c) ++ (blk c (u' :: r) v).flatten
  rw [← ih, List.drop_append_of_le_length (by rw [hu]; exact hc)]
  have e : ((u' :: r).flatMap cl).take c = (cl u').take c := by
   rw [List.flatMap_cons, List.take_append_of_le_length (by rw [hu']; exact hc)]
  rw [← e]
  simp only [List.append_assoc]
  rw [← List.append_assoc (((u' :: r).flatMap cl).take c), List.take_append_drop]
theorem blk_all {z c : Nat} (hc : c ≤ z) {v : List Nat} (hv : v.length = z) : ∀ {us : List Str}, (∀ u ∈ us, (cl u).length = z) → ∀ b ∈ blk c us v, b.length = z
 | [], _, _, h => absurd h List.not_mem_nil
 | u :: us, hz, b, h => by
  refine asp h ?_ fun h => ?_
  ·have hn : (nxt us v).length = z := by
    cases us with
    | nil => exact hv
    | cons u' r => exact hz u' mH1
   have hu := hz u (.head _)
   rw [List.length_append, List.length_drop, List.length_take, hu, hn, Nat.min_eq_left hc, Nat.sub_add_cancel hc]
  exact blk_all hc hv (fun y hy => hz y (.tail _ hy)) b h
theorem chunk_at {z : Nat} : ∀ {bs : List (List Nat)}, (∀ b ∈ bs, b.length = z) → ∀ {j : Nat} (hj : j < bs.length), (bs.flatten.drop (j * z)).take z = bs[j]
 | [], _, j, hj => absurd hj (Nat.not_lt_zero j)
 | b :: bs, h, j, hj => by
  have hb := h b (.head _)
  cases j with
  | zero => simp [List.take_append_of_le_length, hb]
  | succ j =>
   have e : (j + 1) * z = b.length + j * z := by rw [hb, Nat.succ_mul, Nat.add_comm]
   rw [List.flatten_cons, e, List.drop_length_add_append]
   exact chunk_at (fun x hx => h x (.tail _ hx)) (Nat.lt_of_succ_lt_succ hj)
theorem flat_len {z : Nat} : ∀ {us : List Str}, (∀ u ∈ us, (cl u).length = z) → (us.flatMap cl).length = us.length * z
 | [], _ => (Nat.zero_mul z).symm
 | u :: us, h => by
  rw [List.flatMap_cons, List.length_append, flat_len fun y hy => h y (.tail _ hy), h u (.head _), List.length_cons, Nat.succ_mul, Nat.add_comm]
theorem turn_iff {wl : List Str} {z c : Nat} (hz : ∀ x ∈ wl, x.cps.size = z) (hc : c < z - 1) {row u0 : Str} {r : List Str} (hu : ∀ u ∈ u0 :: r, u ∈ wl) (hrow : cl row = (u0 :: r).flatMap cl) :
  TurnIn wl z (r.length + 1) row c ↔ ∀ b ∈ blk (1 + c) (u0 :: r) (cl u0), ∃ x ∈ wl, cl x = b := by
 have huz : ∀ u ∈ u0 :: r, (cl u).length = z := fun u h => by rw [cl_size]; exact hz u (hu u h)
 have hlen : row.length = (r.length + 1) * z := by
  rw [← cl_len, hrow, flat_len huz]; rfl
 have hz1 : z ≤ (r.length + 1) * z := Nat.le_mul_of_pos_left z (Nat.succ_pos _)
 have hc1 : 1 + c ≤ z := by rw [Nat.add_comm]; exact Nat.le_of_lt (Nat.add_lt_of_lt_sub hc)
 have hc2 : 1 + c ≤ row.length := by rw [hlen]; exact Nat.le_trans hc1 hz1
 have hturn : cl (catS (Txt.slice row (some (1 + (c : Int))) none) (Txt.slice row none (some (1 + (c : Int))))) = (blk (1 + c) (u0 :: r) (cl u0)).flatten := by
  show cl (_ ++ _) = _
  rw [show (1 + (c : Int)) = ((1 + c : Nat) : Int) from rfl, cl_cat, slice_drop hc2, slice_take hc2, ← blk_flat (z := z) hc1 (by simp) huz, hrow]
  congr 1
  rw [List.flatMap_cons, List.take_append_of_le_length (by rw [huz u0 (.head _)]; exact hc1)]
 have hbl := blk_all (c := 1 + c) (z := z) hc1 (huz u0 (.head _)) huz
 have hbn := blk_len (1 + c) (u0 :: r) (cl u0)
 have htl : (catS (Txt.slice row (some (1 + (c : Int))) none) (Txt.slice row none (some (1 + (c : Int))))).length = (r.length + 1) * z := by
  rw [← cl_len, hturn, ← blk_flat (z := z) hc1 (by simp) huz]
  rw [List.length_append, List.length_drop, List.length_take, flat_len huz, huz u0 (.head _), List.length_cons, Nat.min_eq_left hc1, Nat.sub_add_cancel (Nat.le_trans hc1 hz1)]
 have hchunk : ∀ (j : Nat) (hj : j < r.length + 1), cl (Txt.slice (catS (Txt.slice row (some (1 + (c : Int))) none) (Txt.slice row none (some (1 + (c : Int))))) (some (0 + (j : Int) * z)) (some (0 + (j : Int) * z + z))) = (blk (1 + c) (u0 :: r) (cl u0))[j]'(by rw [hbn]; exact hj) := by
  intro j hj
  have hle : j * z + z ≤ (r.length + 1) * z := by
   rw [← Nat.succ_mul]
   exact Nat.mul_le_mul_right z hj
  rw [show (0 + (j : Int) * z) = ((j * z : Nat) : Int) by simp, show ((j * z : Nat) : Int) + (z : Int) = ((j * z + z : Nat) : Int) by simp, slice_mid (Nat.le_add_right _ _) (by rw [htl]; exact hle), hturn, Nat.add_sub_cancel_left]
  exact chunk_at hbl (by rw [hbn]; exact hj)
 constructor
 ·intro h b hb
  obtain ⟨j, hj, e⟩ := List.mem_iff_getElem.mp hb
  have hj' : j < r.length + 1 := by rw [hbn] at hj; exact hj
  exact ⟨_, h j hj', by rw [hchunk j hj', e]⟩
 intro h j hj
 obtain ⟨x, hx, e⟩ := h _ (List.getElem_mem (l := blk (1 + c) (u0 :: r) (cl u0)) (n := j) (by rw [hbn]; exact hj))
 have : Txt.slice (catS (Txt.slice row (some (1 + (c : Int))) none) (Txt.slice row none (some (1 + (c : Int))))) (some (0 + (j : Int) * z)) (some (0 + (j : Int) * z + z)) = x := str_eq ((hchunk j hj).trans e.symm)
 rw [this]
 exact hx
theorem blk_next {c : Nat} {v0 : Str} : ∀ {us : List Str} {u : Str}, u ∈ us → ∃ v, (v ∈ us ∨ v = v0) ∧ (cl u).drop c ++ (cl v).take c ∈ blk c us (cl v0)
 | [], u, h => absurd h List.not_mem_nil
 | y :: us, u, h => by
  refine asp h ?_ fun h => ?_
  ·cases us with
   | nil => exact ⟨v0, .inr rfl, .head _⟩
   | cons u' r => exact ⟨u', .inl mH1, .head _⟩
  refine el1_2 (blk_next (c := c) (v0 := v0) h) ?_; intro v h1 h2
  exact ⟨v, h1.imp (.tail _) id, .tail _ h2⟩
theorem around_ring {wl : List Str} {z : Nat} (hz : ∀ x ∈ wl, x.cps.size = z) (h : AroundP wl z) : ∃ (us : List Str) (c : Nat), us ≠ [] ∧ (∀ u ∈ us, u ∈ wl) ∧ 1 ≤ c ∧ c < z ∧ ∀ u ∈ us, ∃ v ∈ us, ∃ x ∈ wl, cl x = (cl u).drop c ++ (cl v).take c := by
 obtain ⟨j, hj, row, hrow, c, hc, ht⟩ := h
 refine el1_3 (rows_mem.mp hrow) ?_; intro us h1 h2 h3
 cases us with
 | nil => cases h1
 | cons u0 r =>
  have hl : r.length + 1 = j + 1 := h1
  rw [← hl] at ht
  have hb := (turn_iff hz hc h2 h3).mp ht
  refine ⟨u0 :: r, 1 + c, by simp, h2, Nat.le_add_right 1 c, by rw [Nat.add_comm]; exact Nat.add_lt_of_lt_sub hc, fun u hu => ?_⟩
  refine el1_2 (blk_next (c := 1 + c) (v0 := u0) hu) ?_; intro v hv hm
  exact ⟨v, hv.elim id fun e => e ▸ .head _, hb _ hm⟩
theorem blk_chain {c : Nat} {X : Nat → List Nat} {U : Nat → Str} (hU : ∀ i, cl (U i) = X (2 * i) ++ X (2 * i + 1)) (hX : ∀ i, (X (2 * i)).length = c) {v : List Nat} : ∀ (n a : Nat), ∀ b ∈ blk c ((List.range' a (n + 1)).map U) v, (∃ i, a ≤ i ∧ i < a + n ∧ b = X (2 * i + 1) ++ X (2 * i + 2)) ∨ b = X (2 * (a + n) + 1) ++ v.take c
 | 0, a, b, h => by
  have h' : b ∈ [(cl (U a)).drop c ++ v.take c] := h
  rw [ms1 h', hU, List.drop_left' (hX a)]
  exact .inr rfl
 | n + 1, a, b, h => by
  have h' : b ∈ ((cl (U a)).drop c ++ (cl (U (a + 1))).take c) :: blk c ((List.range' (a + 1) (n + 1)).map U) v := h
  first | refine mst h' ?_ fun h' => ?_ | rcases mc1 h' with rfl | h'
  ·refine .inl ⟨a, Nat.le_refl _, Nat.lt_add_of_pos_right (Nat.succ_pos n), ?_⟩
   rw [hU, hU, List.drop_left' (hX a), List.take_left' (hX (a + 1))]
   rfl
  rcases blk_chain hU hX n (a + 1) b h' with ⟨i, h1, h2, h3⟩ | h3
  ·exact .inl ⟨i, Nat.le_of_succ_le h1, by rw [← Nat.succ_add_eq_add_succ]; exact h2, h3⟩
  exact .inr (by rw [h3, show a + 1 + n = a + (n + 1) from Nat.succ_add_eq_add_succ a n])
theorem pigeon4 {wl : List Str} (h3 : wl.length ≤ 3) {U : Nat → Str} (h : ∀ i, i < 4 → U i ∈ wl) : ∃ a b, a < b ∧ b < 4 ∧ U a = U b := by
 apply Classical.byContradiction
 intro hc
 have hne : ∀ a b, a < b → b < 4 → U a ≠ U b := fun a b h1 h2 e => hc ⟨a, b, h1, h2, e⟩
 have hn : [U 0, U 1, U 2, U 3].Nodup := by
  have a1 := hne 0 1 (by decide) (by decide)
  have a2 := hne 0 2 (by decide) (by decide)
  have a3 := hne 0 3 (by decide) (by decide)
  have a4 := hne 1 2 (by decide) (by decide)
  have a5 := hne 1 3 (by decide) (by decide)
  have a6 := hne 2 3 (by decide) (by decide)
  simp [a1, a2, a3, a4, a5, a6]
 have := nodup_len hn (m := wl) fun x hx => by
  simp at hx
  rcases hx with rfl | rfl | rfl | rfl
  ·exact h 0 (by decide)
  ·exact h 1 (by decide)
  ·exact h 2 (by decide)
  exact h 3 (by decide)
 simp at this
 exact absurd (Nat.le_trans this h3) (by decide)
theorem tw7 {i : Nat} (h : i < 4) : 2 * i < 7 := Nat.lt_of_le_of_lt (Nat.mul_le_mul_left 2 (Nat.le_of_lt_succ h)) (by decide)
theorem tw8 {i : Nat} (h : i < 4) : 2 * i < 8 := nls (tw7 h)
theorem wt8 {i : Nat} (h : 2 * i < 8) : i < 4 := by lia
theorem od7 {i : Nat} (h : i < 3) : 2 * i + 1 < 7 := Nat.succ_lt_succ (Nat.lt_of_le_of_lt (Nat.mul_le_mul_left 2 (Nat.le_of_lt_succ h)) (by decide))
theorem lt4 : ∀ {i : Nat}, i < 4 → i = 0 ∨ i = 1 ∨ i = 2 ∨ i = 3 := by decide
theorem chain_around {wl : List Str} {z : Nat} (hz : ∀ x ∈ wl, x.cps.size = z) (h3 : wl.length ≤ 3) {x : Nat → Str} (h : ∀ i, i < 7 → StepW wl z (x i) (x (i + 1))) : AroundP wl z := by
 refine gen_ ((cl (x 0)).length) ?_; intro c hc
 have hl : ∀ i, i < 7 → (cl (x i)).length + (cl (x (i + 1))).length = z := fun i hi => chain_len hz (h i hi)
 have e0 : (cl (x 0)).length + (cl (x 1)).length = z := hl 0 (by decide)
 have e1 : (cl (x 1)).length + (cl (x 2)).length = z := hl 1 (by decide)
 have e2 : (cl (x 2)).length + (cl (x 3)).length = z := hl 2 (by decide)
 have e3 : (cl (x 3)).length + (cl (x 4)).length = z := hl 3 (by decide)
 have e4 : (cl (x 4)).length + (cl (x 5)).length = z := hl 4 (by decide)
 have e5 : (cl (x 5)).length + (cl (x 6)).length = z := hl 5 (by decide)
 have c2 : (cl (x 2)).length = (cl (x 0)).length := Nat.add_left_cancel (e1.trans (e0.symm.trans (Nat.add_comm _ _)))
 have c4 : (cl (x 4)).length = (cl (x 0)).length := (Nat.add_left_cancel (e3.trans (e2.symm.trans (Nat.add_comm _ _)))).trans c2
 have c6 : (cl (x 6)).length = (cl (x 0)).length := (Nat.add_left_cancel (e5.trans (e4.symm.trans (Nat.add_comm _ _)))).trans c4
 have hc0 : 1 ≤ c ∧ c < z := by
  refine el1_4 (h 0 (by decide)) ?_; intro _ _ _ h1 h2
  rw [hc]; exact ⟨h1, h2⟩
 let U : Nat → Str := fun i => ofL (cl (x (2 * i)) ++ cl (x (2 * i + 1)))
 have hw : ∀ i, i < 4 → U i ∈ wl := by
  intro i hi
  refine el1_4 (h (2 * i) (tw7 hi)) ?_; intro y hy q1 _ _
  have : U i = y := str_eq (by show cl (x (2 * i)) ++ cl (x (2 * i + 1)) = cl y; exact q1.symm)
  rw [this]; exact hy
 have hlen2 : ∀ i, i < 4 → (cl (x (2 * i))).length = c := by
  intro i hi
  have : i = 0 ∨ i = 1 ∨ i = 2 ∨ i = 3 := lt4 hi
  rcases this with rfl | rfl | rfl | rfl
  ·exact hc.symm
  ·exact c2.trans hc.symm
  ·exact c4.trans hc.symm
  exact c6.trans hc.symm
 refine el2_3 (pigeon4 h3 hw) ?_; intro a b hab hb hU
 have hxab : cl (x (2 * a)) = cl (x (2 * b)) := by
  have q : cl (x (2 * a)) ++ cl (x (2 * a + 1)) = cl (x (2 * b)) ++ cl (x (2 * b + 1)) := congrArg cl hU
  have := congrArg (List.take c) q
  rw [List.take_left' (hlen2 a (Nat.lt_trans hab hb)), List.take_left' (hlen2 b hb)] at this
  exact this
 let X : Nat → List Nat := fun i => if i < 8 then cl (x i) else if i % 2 = 0 then List.replicate c 0 else []
 have hX : ∀ i, (X (2 * i)).length = c := by
  intro i
  show (if 2 * i < 8 then _ else if 2 * i % 2 = 0 then _ else _ : List Nat).length = c
  by_cases hi : i < 4
  ·rw [if_pos (tw8 hi)]; exact hlen2 i hi
  rw [if_neg (fun h => hi (wt8 h)), if_pos (Nat.mul_mod_right 2 i), List.length_replicate]
 let V : Nat → Str := fun i => ofL (X (2 * i) ++ X (2 * i + 1))
 have hV : ∀ i, i < 4 → V i = U i := by
  intro i hi
  refine str_eq ?_
  show (if 2 * i < 8 then cl (x (2 * i)) else _) ++ (if 2 * i + 1 < 8 then cl (x (2 * i + 1)) else _) = cl (x (2 * i)) ++ cl (x (2 * i + 1))
  rw [if_pos (tw8 hi), if_pos (Nat.succ_lt_succ (tw7 hi))]
 obtain ⟨n, hn⟩ := Nat.exists_eq_add_of_lt hab
 have hi4 : ∀ i, a ≤ i ∧ i < a + (n + 1) → i < 4 := fun i hi => Nat.lt_trans (by rw [hn]; exact hi.2) hb
 have han : a + n < 3 := Nat.lt_of_succ_lt_succ (show a + n + 1 < 4 from hn ▸ hb)
 refine ⟨n, Nat.lt_of_succ_lt_succ (Nat.lt_of_le_of_lt (by rw [hn]; exact Nat.succ_le_succ (Nat.le_add_left n a)) hb), ofL (((List.range' a (n + 1)).map V).flatMap cl), rows_mem.mpr ⟨(List.range' a (n + 1)).map V, by simp, fun u hu => ?_, rfl⟩, c - 1, Nat.sub_lt_sub_right hc0.1 hc0.2, ?_⟩
 ·refine el1_2 (mm1 hu) ?_; intro i hi e92; subst e92
  rw [List.mem_range'_1] at hi
  rw [hV i (hi4 i hi)]
  exact hw i (hi4 i hi)
 have hus : (List.range' a (n + 1)).map V = V a :: (List.range' (a + 1) n).map V := rfl
 have hrl : ((List.range' (a + 1) n).map V).length = n := by simp
 have key := turn_iff (wl := wl) (z := z) (c := c - 1) hz (Nat.sub_lt_sub_right hc0.1 hc0.2) (row := ofL (((List.range' a (n + 1)).map V).flatMap cl)) (u0 := V a) (r := (List.range' (a + 1) n).map V) (fun u hu => by
  rw [← hus] at hu
  refine el1_2 (mm1 hu) ?_; intro i hi e92; subst e92
  rw [List.mem_range'_1] at hi
  rw [hV i (hi4 i hi)]
  exact hw i (hi4 i hi)) rfl
 rw [hrl] at key
 refine key.mpr fun q hq => ?_
 rw [← hus, show 1 + (c - 1) = c from Nat.add_sub_cancel' hc0.1] at hq
 have hstep : ∀ i, i < 7 → ∃ y ∈ wl, cl y = cl (x i) ++ cl (x (i + 1)) := fun i hi => by
  refine el1_4 (h i hi) ?_; intro y hy q1 _ _
  exact ⟨y, hy, q1⟩
 rcases blk_chain (U := V) (fun i => rfl) hX n a q hq with ⟨i, i1, i2, rfl⟩ | rfl
 ·refine el1_2 (hstep (2 * i + 1) (od7 (Nat.lt_trans i2 han))) ?_; intro y hy q1
  refine ⟨y, hy, q1.trans ?_⟩
  show _ = (if 2 * i + 1 < 8 then cl (x (2 * i + 1)) else _) ++ (if 2 * i + 2 < 8 then cl (x (2 * i + 2)) else _)
  rw [if_pos (nls (od7 (Nat.lt_trans i2 han))), if_pos (Nat.succ_lt_succ (od7 (Nat.lt_trans i2 han)))]
 refine el1_2 (hstep (2 * (a + n) + 1) (od7 han)) ?_; intro y hy q1
 refine ⟨y, hy, q1.trans ?_⟩
 have eX : X (2 * (a + n) + 1) = cl (x (2 * (a + n) + 1)) := by
  show (if 2 * (a + n) + 1 < 8 then _ else _) = _
  rw [if_pos (nls (od7 han))]
 have eV : (cl (V a)).take c = cl (x (2 * a)) := by
  show (X (2 * a) ++ X (2 * a + 1)).take c = _
  rw [List.take_left' (hX a)]
  show (if 2 * a < 8 then _ else _) = _
  rw [if_pos (tw8 (Nat.lt_trans hab hb))]
 rw [eX, eV, hxab, show 2 * (a + n) + 1 + 1 = 2 * b by rw [hn]; rfl]
end
section
open PySem.Spec
section
variable {prog : Program} {w : World} {A₀ A : Around} {s : Shared} {base h₀ g₀ : Heap} {L a : Addr} {m : Str → Option Value} {cn : Str} {cs : Scope} {ccd : Value} {cl : List (Str × Addr)} {news : List (Addr × Obj)} {K : Frag} {p : Program} {loose : List Str} {mean : ExcName → Option Value} {mg mb : Str → Option Value}
  {R : Result → Shared → Prop} {name qual : Str} {params : Arguments} {body : List Stmt} {scope : Scope} {dV kV doc pm cdv ct oc : Value} {an od : Option Addr} {osl : Array (Option Value)} {f : Addr} {args : Args} {binds : List (Str × Value)}
theorem code_defSX (B : Below A₀ base [] h₀) (F : Fr h₀ L s.heap m) (X₀ : K.In h₀) (N : News h₀ L s.heap news) (T : Top p loose mean mg mb h₀) (hA : A.frames = some [envX cn cs L a ccd cl])
  (ho : K.lookup f = some ⟨oc, od, .func (fnOf name qual params body scope dV kV doc pm an cdv ct), osl⟩) (hcd : codeIn K cdv qual = true) (hroom : A.depth < recursionLimit)
  (hbind : BindsTo s (fnOf name qual params body scope dV kV doc pm an cdv ct) args binds) (hloc : ∀ y ∈ binds, scope.names.lookup y.1 = some .local)
  (h : ∀ g L' h₁, Fr h₀ L g m → Fr g L' h₁ (fun y => binds.reverse.lookup y) → News g L' h₁ news → Below A base [envX cn cs L a ccd cl] g → K.In g → Top p loose mean mg mb g → KtsDicts ([envX cn cs L a ccd cl].filterMap (·.frame)) g →
   wpAny (model prog w) (A.deeper (envOf qual scope L' f cdv)) (execs body (envOf qual scope L' f cdv))
    (fun fl s' => LeaveS0 ([envX cn cs L a ccd cl].filterMap (·.frame)) h₀ L m g R (match fl with | .ret v => v | _ => .none) s')
    (fun e s' => wpAny (model prog w) (A.deeper (envOf qual scope L' f cdv)) («leaving» (envOf qual scope L' f cdv) e) (fun _ s'' => R (.error e) s'') (fun e' s'' => R (.error e') s'') s')
    { s with heap := h₁, toks := s.toks + binds.length })
  (hck : cs.kind = .function) (hco : scope.isCoroutine = false) (hgen : scope.isGenerator = false) (hk : scope.kind = .function)
  (hcell : ∀ x ∈ scope.names, x.2 ≠ .cell) : codeAny (model prog w) A (.call (.ref f) args) R s := by
 have Xs := X₀.keeps F.keep
 have hself := kts_self F
 refine codeAny_call_def (fd := fnOf name qual params body scope dV kV doc pm an cdv ct) (body := body) (binds := binds) hroom (Xs _ _ ho) rfl (T.nolimit.keeps F.keep) (codeRec_of Xs hcd) rfl hbind hcell hloc (fun h₁ hns hup => ?_) hco hgen hk
 refine el3_6 (kts_enter (A := A₀.deeper (envOf cn cs L a ccd)) B F N (Around.frames_deeper B.stack) hck) ?_; intro oL es ep gL dL nsL nsSlots stay low
 have low' : Below A base [envX cn cs L a ccd cl] (hideAll s.heap (news.map (·.1))) := ⟨hA, low.stays, low.frames⟩
 have hD : KtsDicts ([envX cn cs L a ccd cl].filterMap (·.frame)) (hideAll s.heap (news.map (·.1))) := by
  intro b hb
  have hb' : b ∈ [L] := hb
  rw [ms1 hb']
  exact ⟨oL, es, ep, gL, dL⟩
 have hN : News (hideAll s.heap (news.map (·.1))) s.heap.objs.size h₁ news := fun q hq =>
  ⟨hup _ _ (N q hq).1, nlt (Heap.lt_size (N q hq).1), hideAll_none _ (List.mem_map_of_mem hq)⟩
 have hF1 : Fr h₀ L (hideAll s.heap (news.map (·.1))) m := ⟨nsL _ gL, stay, F.above⟩
 have hF2 : Fr (hideAll s.heap (news.map (·.1))) s.heap.objs.size h₁ (fun y => binds.reverse.lookup y) := ⟨hns, fun b o e => hup b o (of_hideAll _ e), Nat.le_of_eq (hideAll_size _ _)⟩
 refine wpAny_mono (h _ _ h₁ hF1 hF2 hN low' (X₀.keeps stay) (T.keeps stay) hD) (fun fl s' hl => ?_) fun _ _ y => y
 refine el4_4 (hl) ?_; (try clear hl); intro g' L₂ m₂ news₂ turn F₂ N₂ fin
 refine el1_1 (turn.up gL) ?_; intro sl hsl
 refine fin ⟨nsSlots sl _ (F₂.keep _ _ hsl), fun b o e => ?_, F.above⟩ fun q hq => ⟨(N₂ q hq).1, fun e => ?_, ?_⟩
 ·refine F₂.keep b o (turn.other b o (stay b o e) fun hm => ?_)
  have hm' : b ∈ [L] := hm
  rw [ms1 hm', hself] at e
  cases e
 ·have h9 := (N₂ q hq).2.2
  rw [e, hsl] at h9
  cases h9
 cases h8 : h₀.get? q.1 with
 | none => rfl
 | some o =>
  refine el1_1 (turn.up (stay _ _ h8)) ?_; intro sl' hsl'
  have h9 := (N₂ q hq).2.2
  rw [hsl'] at h9
  cases h9
end
section
variable {prog : Program} {w : World} {A₀ : Around} {E : Value → Shared → Prop} {s' : Shared} {base g G : Heap} {L a e t C : Addr} {m : Str → Option Value} {name : Str} {scope : Scope} {cd : Value} {cl : List (Str × Addr)}
 {vs : List Value} {b₀ : Stmt} {suite : List Stmt} {pos np : Pos} {rest : List ExceptHandler} {Q : Flow → Shared → Prop} {news : List (Addr × Obj)} {KF : Frag}
 {p : Program} {loose : List Str} {mean : ExcName → Option Value} {mg mb : Str → Option Value} {x : Str}
theorem ground0 {B h₅ : Heap} (F : Fr g L G m) (hBG : ∀ b o, G.get? b = some o → b ∉ [L] → B.get? b = some o) (hBh : B.StaysIn h₅) (hsm : G.UpToSlots h₅) : Fr g L h₅ m := by
 have hself := kts_self F
 refine ⟨hsm.ns F.ns, fun b o e => hBh b o (hBG b o (F.keep b o e) fun hm => ?_), F.above⟩
 rw [ms1 hm, hself] at e
 cases e
theorem caught_bottom (R : RaisedS base G [envX name scope L a cd cl] e (.ref C) t vs news s'.heap) (F : Fr g L G m) (K : Below A₀ base [] g) (hsm : G.UpToSlots s'.heap) (XB : KF.In g) (TB : Top p loose mean mg mb g)
  (ex : nsIn KF mainGlobals x = some (some (.ref C))) (q : ktsIn KF C "BaseException" = true)
  (k : ∀ h', Fr g L h' m → News g L h' news → wpAny (model prog w) ((A₀.deeper (envX name scope L a cd cl)).mark (some (.ref e))) (execs (b₀ :: suite) (envX name scope L a cd cl)) Q E { s' with heap := h' })
  (hk : scope.kind = .function := by rfl) (hx : (envX name scope L a cd cl).kindOf x = some .globalImplicit := by rfl) (hd : (x == ("__debug__" : Str)) = false := by decide)
  (hE : PassesOwnAt (model prog w) ((A₀.deeper (envX name scope L a cd cl)).mark (some (.ref e))) (A₀.deeper (envX name scope L a cd cl)) (envX name scope L a cd cl) E := by passes_own) :
  wpAny (model prog w) (A₀.deeper (envX name scope L a cd cl)) (noteFrame (.ref e) (envX name scope L a cd cl))
   (fun _ s₂ => wpAny (model prog w) (A₀.deeper (envX name scope L a cd cl)) (setFlight (.ref e) none) (fun _ s₃ =>
    wpAny (model prog w) (A₀.deeper (envX name scope L a cd cl)) (handleBy (.ref e) (envX name scope L a cd cl) (.ExceptHandler (some (.Name x np)) none (b₀ :: suite) pos :: rest)) Q E s₃) E s₂) E s' := by
 refine (let G9 : Prop := _; (?_ : G9))
 obtain ⟨⟨B, hB, hBG, hl, hfl, hnew⟩, htup⟩ := R
 refine (?_ : wpAny _ _ _ _ _ _)
 have hBG' : ∀ b o, G.get? b = some o → b ∉ [L] → B.get? b = some o := hBG
 have hself : B.get? L = none := by
  obtain ⟨_, ⟨L₁, _, hf, hn, _⟩, _⟩ := hfl.2.2.1
  rw [Option.some.inj hf]
  exact hn
 refine wpAny_looks_onW (Around.frames_deeper K.stack) rfl hfl fun h₄ held₄ sm₄ => ?_
 refine wpAny_landsW held₄ fun h₅ held₅ sm₅ => ?_
 have up₅ := hsm.trans (sm₄.trans sm₅)
 have F₅ := ground0 F hBG' held₅.1 up₅
 have X₅ : KF.In h₅ := XB.keeps F₅.keep
 refine el1_2 (held₅.there) ?_; intro ob hob hcls
 refine (let G9 : Prop := _; (?_ : G9))
 obtain ⟨_, _, _, _, _, _, _, _, _, _, _, _, _, _, _, _, _, hC, hbase, _⟩ := kts_cls X₅ q
 refine (?_ : wpAny _ _ _ _ _ _)
 refine wpAny_handleBy_cons (codeAny_handlers_test (nameX_K F₅ XB (topRead_of TB) ex ?_ hk hx hd)) (by intro z; cases z)
 refine wpAny_excMatches_sub_self hC hob hcls hbase (codeAny_handlers_suite ?_)
 refine lands_againW held₅ fun h₆ fl₆ sm₆ => ?_
 have F₆ := ground0 F hBG' fl₆.1 (up₅.trans sm₆)
 exact wpAny_passesOwnAt hE (k h₆ F₆ fun y hy => ⟨fl₆.1 _ _ (hl y hy).1, (fun z => by have h9 := (hl y hy).1; rw [z, hself] at h9; cases h9), kts_none F.keep (hl y hy).2.1⟩)
end
end
theorem prepare_c (w : World) (p : Program) (lo : List Str) (mean : ExcName → Option Value) (mg mb : Str → Option Value)
  (gd : Option (List Code)) (cn : Str) (cs : Scope) (a : Addr) (ccd : Value) (cl : List (Str × Addr)) (A₀ : Around) (base h₀ : Heap) (L : Addr) (m : Str → Option Value) (rest : List (Addr × Obj)) (s : Shared)
  (xa d n2 : Addr) (o2 : Obj) (ns : List NI) (t1 t2 t3 t4 t5 t6 : Tok) (Q E : Value → Shared → Prop)
  (B : Below A₀ base [] h₀) (F : Fr h₀ L s.heap m) (X : (Mine.K w.params).In h₀) (N : News h₀ L s.heap ((xa, instObj 362 d) :: (d, tsD w t1 t2 t3 t4 t5 t6 n2) :: (n2, o2) :: (ledN ns ++ rest))) (T : Top p lo mean mg mb h₀) (hk : cs.kind = .function)
  (XB : (Mine.K w.params).In base) (TB : Top p lo mean mg mb base)
  (hd : o2.IsDictOf (PySem.strKind rw_nq0317_01.prog w) (kvsN ns)) (lo2 : (n2 == sysModules) = false) (hnn : (ns.map (·.nm)).Nodup) (hl : ns.length ≤ 100)
  (hcl : ∀ e ∈ ns, ∀ q ∈ e.sc, q.1 ∈ ns.map (·.nm)) (hln : ∀ e ∈ ns, e.nm.length ≤ 64) (hnd : (GK xa d n2 ns).Nodup) (tl0 : List (Addr × Obj)) (htl0 : tl0 = ledN ns ++ rest) (hoff : ∀ p ∈ rest, p.1 ∉ GK xa d n2 ns)
  (hret : ∀ h' tk' D ys ep, ys.toList = readyV ns → (∀ e ∈ ns, Acc (SuccR ns) e.nm) → Fr h₀ L h' m → News h₀ L h' ((xa, instObj 362 d) :: (d, tsR w t1 t2 t3 t4 t5 t6 n2 (.ref D) 0 0) :: (n2, o2) :: (ledN ns ++ (D, W.listOf ys ep) :: rest)) →
   (∀ p ∈ (xa, instObj 362 d) :: (d, tsD w t1 t2 t3 t4 t5 t6 n2) :: (n2, o2) :: tl0, p.1 ≠ D) → Q .none { s with heap := h', toks := tk' })
  (hraise : ∀ G e t vs l its el h' tk' D ys ep, ys.toList = readyV ns → (∃ e ∈ ns, ¬ Acc (SuccR ns) e.nm) → Fr h₀ L G m →
   RaisedS base G [envX cn cs L a ccd cl] e (.ref 280) t vs ((l, W.listOf its el) :: (xa, instObj 362 d) :: (d, tsR w t1 t2 t3 t4 t5 t6 n2 (.ref D) 0 0) :: (n2, o2) :: (ledN ns ++ (D, W.listOf ys ep) :: rest)) h' → G.UpToSlots h' →
   (∀ p ∈ (xa, instObj 362 d) :: (d, tsD w t1 t2 t3 t4 t5 t6 n2) :: (n2, o2) :: tl0, p.1 ≠ D) → E (.ref e) { s with heap := h', toks := tk' }) :
  wpAny (model (rw_nq0317_01.prog) w) (ktrTop 350 500 gd cn cs L a ccd cl []) (call (.ref 317) [.ref xa]) Q E s := by
 k_with_none
 k_with "k_all" => first | assumption | (intro p9 hp9; (repeat (rename _ ∧ _ => hc9; obtain ⟨_, _⟩ := hc9)); have h9 := allLt_mem2 (by assumption) _ hp9; exact nlt (Nat.lt_of_lt_of_le h9 (by omega)))
 k_with "execs cons" => (k_here; first | k_made | ((fail_if_success (fail_if_success k_gentoks)); refine (let tk : Nat := _; (?_ : wpAny _ _ _ _ _ ⟨_, _, _, tk, _⟩))) | ((with_reducible refine wpAny_execs_cons ?_); (try dsimp only); refine (let qv : Flow → Shared → Prop := _; (?_ : wpAny _ _ _ qv _ _))))
 k_with "execs nil" => (k_here; (fail_if_success (fail_if_success k_gentoks)); refine (let tk : Nat := _; (?_ : wpAny _ _ _ _ _ ⟨_, _, _, tk, _⟩)))
 k_with "call ref" => ((with_unfolding_all show wpAny _ _ (call (Value.ref 352) _) _ _ _); refine stopped ?_)
 k_with "getAttr ref" => ((with_reducible show wpAny _ _ (getAttr (Value.ref (NI.a _)) _ _) _ _ _); refine stopped ?_)
 k_with "setAttr ref" => refine stopped ?_
 k_with "truthy ref" => refine stopped ?_
 k_with "truthy" => ((with_reducible show wpAny _ _ (truthy _) _ _ _); refine stopped ?_)
 refine gen_ (ledN ns ++ rest) ?_; intro tl htl
 rw [show tl0 = tl from htl0.trans htl.symm] at hret hraise
 rw [← htl] at N
 have XB' := XB
 have TB' := TB
 k_with_none
 k_with "k_all" => first | assumption | (intro p9 hp9; (repeat (rename _ ∧ _ => hc9; obtain ⟨_, _⟩ := hc9)); have h9 := allLt_mem2 (by assumption) _ hp9; exact nlt (Nat.lt_of_lt_of_le h9 (by omega)))
 k_with "execs cons" => (k_here; first | k_made | ((fail_if_success (fail_if_success k_gentoks)); refine (let tk : Nat := _; (?_ : wpAny _ _ _ _ _ ⟨_, _, _, tk, _⟩))) | ((with_reducible refine wpAny_execs_cons ?_); (try dsimp only); refine (let qv : Flow → Shared → Prop := _; (?_ : wpAny _ _ _ qv _ _))))
 k_with "execs nil" => (k_here; (fail_if_success (fail_if_success k_gentoks)); refine (let tk : Nat := _; (?_ : wpAny _ _ _ _ _ ⟨_, _, _, tk, _⟩)))
 k_with "call ref" => ((with_unfolding_all show wpAny _ _ (call (Value.ref 352) _) _ _ _); refine stopped ?_)
 k_with "getAttr ref" => ((with_reducible show wpAny _ _ (getAttr (Value.ref (NI.a _)) _ _) _ _ _); refine stopped ?_)
 k_with "setAttr ref" => refine stopped ?_
 k_with "truthy ref" => refine stopped ?_
 k_with "truthy" => ((with_reducible show wpAny _ _ (truthy _) _ _ _); refine stopped ?_)
 revert X
 k_fill
 intro X
 refine wpAny_call ?_
 k_dflt (refine' code_defSX (binds := [(Str.ofString "self", .ref xa)]) ?k1 ?k2 ?k3 ?k4 ?k5 ?kA ?k6 ?k7 ?k8 ?k9 ?kB ?_ ?cK ?c2 ?c3 ?c4 ?c5; (case kA => exact rfl); (case k2 => k_asm); (case k1 => k_asm); (case k3 => k_asm); (case k4 => k_asm); (case k5 => k_asm); (case k6 => k_is); (case k7 => k_is); (case k8 => ktr_room); (case k9 => first | exact BindsTo.of_eq rfl | exact binds_K (by k_in) rfl (by k_is) rfl rfl rfl); (case kB => exact locs rfl); (case cK => assumption); (case c2 => exact rfl); (case c3 => exact rfl); (case c4 => exact rfl); (case c5 => decide); k_whole; intro g' L' h' FG' F' N' B' X' T' D'; (try dsimp only); (try k_fold))
 k_steps
 rename News _ _ _ _ => N1
 rename Fr _ L' _ _ => F1
 have m2 : (n2, o2) ∈ (n2, o2) :: tl := .head _
 refine comp_values (knd := PySem.strKind rw_nq0317_01.prog w) (readyP ns) (fun v y => ∃ e ∈ ns, v = .ref e.a ∧ y = .str e.nm e.tn) rfl (.head _) mH3 hd F1 N1 ?g1 ?g2 ?g3 (size_le (by unfold kvsN; simp; lia))
 case g1 =>
  intro C i k v s₃ m₃ E' hi hn hm F3 N3
  refine (let G9 : Prop := _; (?_ : G9))
  obtain ⟨e, he, rfl⟩ : ∃ e ∈ ns, v = .ref e.a := by
   unfold kvsN at hi
   rw [List.getElem?_map] at hi
   refine el1_2 (Option.map_eq_some_iff.mp hi) ?_; intro e he h
   exact ⟨e, List.mem_of_getElem? he, (congrArg Prod.snd h).symm⟩
  refine (?_ : wpAny _ _ _ _ _ _)
  have hmt : ∀ q ∈ nodeL e, q ∈ tl := by
   intro q hq
   rw [htl]
   exact maL _ (mem_ledN he hq)
  refine wpAny_tests_one ?_
  k_steps
  refine ⟨?_⟩
  refine np_get F3 X' N3 (mT4 (hmt _ (.head _))) (mT4 (hmt _ (.tail _ (.head _)))) ?_
  k_steps
  ·exact (readyP_of (nc1 (nc1 (nc1 hnd).2).2).2 he).symm
  skip
  exact keeps_toks
 case g2 =>
  intro C i k v s₃ m₃ E' hi hp hn hm F3 N3
  refine (let G9 : Prop := _; (?_ : G9))
  obtain ⟨e, he, rfl⟩ : ∃ e ∈ ns, v = .ref e.a := by
   unfold kvsN at hi
   rw [List.getElem?_map] at hi
   refine el1_2 (Option.map_eq_some_iff.mp hi) ?_; intro e he h
   exact ⟨e, List.mem_of_getElem? he, (congrArg Prod.snd h).symm⟩
  refine (?_ : wpAny _ _ _ _ _ _)
  have hmt : ∀ q ∈ nodeL e, q ∈ tl := by
   intro q hq
   rw [htl]
   exact maL _ (mem_ledN he hq)
  k_steps
  refine ⟨?_⟩
  refine nm_get F3 X' N3 (mT4 (hmt _ (.head _))) (mT4 (hmt _ (.tail _ (.head _)))) ?_
  exact ⟨⟨e, he, rfl, rfl⟩, keeps_toks⟩
 intro D h3 tk3 ys ep F3 N3 hne hpr
 clear F1 N1
 k_steps
 refine ⟨?_⟩
 refine rn_set F3 X' N3 mH2 mH3 fun h4 F4 N4 => ?_
 clear F3 N3
 have hys := ready_pair (nc1 (nc1 (nc1 hnd).2).2).2 hpr
 have hdd : d ≠ xa ∧ d ≠ n2 ∧ ∀ p ∈ tl, p.1 ≠ d := by
  have q1 := nc1 hnd
  have q2 := nc1 q1.2
  refine ⟨fun e => q1.1 (e ▸ .head _), fun e => q2.1 (e ▸ .head _), fun p hp e => ?_⟩
  rw [htl] at hp
  refine ast hp (fun hp => ?_) fun hp => ?_
  ·exact (GK_off hnd).2.1 (mm2 ⟨p, hp, e⟩)
  exact hoff p hp (e ▸ mH1)
 have N5 : News g' L' h4 ((D, W.listOf ys ep) :: (xa, instObj 362 d) :: (d, tsR w t1 t2 t3 t4 t5 t6 n2 (.ref D) 0 0) :: (n2, o2) :: tl) := nsub N4 (sbc (msN (.head _) (hne (d, _) mH2).symm) (sbc (msN mH2 hdd.1.symm) (sbc (mem_setAt_self mH3) (sbc (msN mH4 hdd.2.1.symm) (fun q hq => msN (mT5 hq) (hdd.2.2 q hq))))))
 clear N4
 k_steps
 refine ⟨?_⟩
 rename News _ _ _ _ => N6
 rename Fr _ L' _ _ => F6
 have N7 := nsub N6 (news' := (xa, instObj 362 d) :: (d, tsR w t1 t2 t3 t4 t5 t6 n2 (.ref D) 0 0) :: (n2, o2) :: (ledN ns ++ (D, W.listOf ys ep) :: rest)) (fun q hq => by
  refine mst hq ?_ fun hq => ?_
  ·exact mH1
  refine mst hq ?_ fun hq => ?_
  ·exact mH2
  refine mst hq ?_ fun hq => ?_
  ·exact mH3
  refine ast hq (fun hq => ?_) fun hq => ?_
  ·exact mT4 (by rw [htl]; exact maL _ hq)
  refine mst hq ?_ fun hq => ?_
  ·exact .head _
  exact mT4 (by rw [htl]; exact maR _ hq))
 clear N6
 refine wpAny_up (ktrTop 355 550 gd (Str.ofString "TopologicalSorter.prepare") _ L' 317 (.ref 316) [] (envX cn cs L a ccd cl :: [])) rfl (show 351 ≤ 355 by decide) rfl rfl (show 503 ≤ 550 by decide) ?_
 refine fc_c w p lo mean mg mb gd _ _ 317 (.ref 316) _ _ base g' g' L' _ _ _ xa d n2 o2 ns t1 t2 t3 t4 t5 t6 (.ref D) 0 0 _ _ B' F6 X' N7 T' rfl XB' TB' D' KtsTurn.refl hd lo2 hnn hl hcl hln ?hret ?hcyc
 case hret =>
  rintro v h7 tk7 g7 ⟨rfl, hacc⟩ kT kF kN kB kX kP kD
  clear F6 N7 B' X' T' D'
  k_steps
  rename News h₀ _ _ _ => kN9
  rename Fr h₀ _ _ _ => kF9
  refine hret _ _ D ys ep hys hacc kF9 (nsub kN9 fun q hq => ?_) ?_
  ·exact hq
  intro p hp
  exact hne p (.tail _ hp)
 rintro l its el h7 tk7 g7 hcy hn0 hsz kT kF kN kB kX kP kD
 clear F6 N7 B' X' T' D'
 k_steps
 refine ⟨?_⟩
 rename News _ _ _ _ => kN
 have hz9 : its.size ≤ 100000 := Nat.le_trans hsz (by decide)
 refine truthy_list_S kN (.head _) hz9 ?_
 rw [show (!its.isEmpty) = true by cases hq : its.isEmpty with | false => rfl | true => exact absurd (by simpa using hq) hn0]
 k_steps
 rename RaisedS _ _ _ _ _ _ _ _ _ => kS
 refine hraise _ _ _ _ l its el _ _ D ys ep hys hcy (fr_turn FG' ?_ kT) kS (by assumption) fun p hp => hne p (.tail _ hp)
 intro b hb
 exact ms1 hb
structure SS where
 ns : List NI
 o2 : Obj
structure SOk (w : World) (es : List (Str × Str)) (xa d n2 : Addr) (R : List (Addr × Obj)) (c : SS) : Prop where
 pr : proj2 c.ns = gAll [] es
 dic : c.o2.IsDictOf (PySem.strKind rw_nq0317_01.prog w) (kvsN c.ns)
 nn : (c.ns.map (·.nm)).Nodup
 nd : (GK xa d n2 c.ns).Nodup
 off : ∀ p ∈ R, p.1 ∉ GK xa d n2 c.ns
 len : c.ns.length ≤ 2 * es.length
 scl : ∀ e ∈ c.ns, e.sc.length ≤ es.length
theorem gAll_snoc (g : Gr) (es : List (Str × Str)) (f b : Str) : gAll g (es ++ [(f, b)]) = gadd (gAll g es) b f := by
 unfold gAll
 rw [List.foldl_append]
 rfl
theorem SOk.next {w : World} {es : List (Str × Str)} {xa d n2 : Addr} {R R' : List (Addr × Obj)} {c : SS} (S : SOk w es xa d n2 R c) {ns' : List NI} {o' : Obj} {f b : Str} (h1 : proj2 ns' = gadd (proj2 c.ns) b f)
  (h2 : o'.IsDictOf (PySem.strKind rw_nq0317_01.prog w) (kvsN ns')) (h3 : (ns'.map (·.nm)).Nodup) (h4 : (GK xa d n2 ns').Nodup) (h5 : ∀ p ∈ R', p.1 ∉ GK xa d n2 ns') (hR : ∀ p ∈ R, p ∈ R') (h6 : ns'.length ≤ c.ns.length + 2) (h7 : ∀ e ∈ ns', e.sc.length ≤ es.length + 1) : SOk w (es ++ [(f, b)]) xa d n2 R ⟨ns', o'⟩ := by
 have hl : (es ++ [(f, b)]).length = es.length + 1 := by simp
 refine ⟨?_, h2, h3, h4, fun p hp => h5 p (hR p hp), ?_, ?_⟩
 ·show proj2 ns' = _
  rw [gAll_snoc, h1, S.pr]
 ·have := S.len
  rw [hl]
  show ns'.length ≤ _
  lia
 rw [hl]; exact h7
theorem SOk.sub {w : World} {es : List (Str × Str)} {xa d n2 : Addr} {R R' : List (Addr × Obj)} {c : SS} (S : SOk w es xa d n2 R c) (hR : ∀ p ∈ R', p.1 ∉ GK xa d n2 c.ns) : SOk w es xa d n2 R' c :=
 ⟨S.pr, S.dic, S.nn, S.nd, hR, S.len, S.scl⟩
theorem cutsOf_zero (x : Str) : cutsOf x 0 = [] := rfl
theorem rng1 {z : Nat} (h1 : 2 ≤ z) (h2 : z ≤ 4) : Builtin.Range.small 1 (z : Int) 1 = true ∧ Builtin.Range.rangeSize 1 (z : Int) 1 = ((z - 1 : Nat) : Int) := by
 have b : z = 2 ∨ z = 3 ∨ z = 4 := by lia
 rcases b with rfl | rfl | rfl <;> exact ⟨rfl, rfl⟩
theorem led3 {α : Type} {a b c : α} {r l : List α} (ha : a ∈ l) (hb : b ∈ l) (hc : c ∈ l) (hr : ∀ q ∈ r, q ∈ l) : ∀ q ∈ a :: b :: c :: r, q ∈ l := by
 intro q hq
 refine mst hq ?_ fun hq => ?_
 ·exact ha
 refine mst hq ?_ fun hq => ?_
 ·exact hb
 refine mst hq ?_ fun hq => ?_
 ·exact hc
 exact hr q hq
theorem own_off {xa d n2 : Addr} {o1 od o2 : Obj} {ns : List NI} {R own : List (Addr × Obj)} {wr : List Addr} {P : Addr → Prop} (hoffw : ∀ p ∈ (xa, o1) :: (d, od) :: (n2, o2) :: (ledN ns ++ R), p.1 ∉ wr) (hf : ∀ p ∈ own, p.1 ∈ wr ∨ P p.1) (hP : ∀ a, P a → a ∉ GK xa d n2 ns) (hR : ∀ p ∈ R, p.1 ∉ GK xa d n2 ns) : ∀ p ∈ R ++ own, p.1 ∉ GK xa d n2 ns := by
 intro p hp
 refine ast hp (fun hp => ?_) fun hp => ?_
 ·exact hR p hp
 rcases hf p hp with h | h
 ·intro hg
  rcases mc1 hg with e | hg
  ·exact hoffw _ (.head _) (e ▸ h)
  rcases mc1 hg with e | hg
  ·exact hoffw _ mH1 (e ▸ h)
  rcases mc1 hg with e | hg
  ·exact hoffw _ mH2 (e ▸ h)
  refine el1_2 (mm1 hg) ?_; intro q hq e
  exact hoffw q (mT3 (maL _ hq)) (e ▸ h)
 exact hP _ h
theorem led_app {α : Type} {a b c : α} {l r o : List α} : ∀ q ∈ a :: b :: c :: (l ++ r), q ∈ a :: b :: c :: (l ++ (r ++ o)) := by
 intro q hq
 rw [← List.append_assoc]
 exact maL (as := a :: b :: c :: (l ++ r)) o hq
theorem led_own {α : Type} {a b c : α} {l r o : List α} : ∀ q ∈ o, q ∈ a :: b :: c :: (l ++ (r ++ o)) := fun q hq => mT3 (maR _ (maR _ hq))
theorem led_wr {xa d n2 : Addr} {o1 od o2 : Obj} {ns' : List NI} {R own : List (Addr × Obj)} {wr : List Addr} (hw : ∀ b ∈ wr, ∃ o, (b, o) ∈ own) (h5 : ∀ p ∈ R ++ own, p.1 ∉ GK xa d n2 ns') (hR : ∀ p ∈ R, p.1 ∉ wr) : ∀ p ∈ (xa, o1) :: (d, od) :: (n2, o2) :: (ledN ns' ++ R), p.1 ∉ wr := by
 have key : ∀ a ∈ GK xa d n2 ns', a ∉ wr := fun a ha hm => by
  refine el1_1 (hw a hm) ?_; intro o ho
  exact h5 _ (maR _ ho) ha
 intro p hp
 refine asp hp ?_ fun hp => ?_
 ·exact key _ (.head _)
 refine asp hp ?_ fun hp => ?_
 ·exact key _ mH1
 refine asp hp ?_ fun hp => ?_
 ·exact key _ mH2
 refine ast hp (fun hp => ?_) fun hp => ?_
 ·exact key _ (mT3 (mm2 ⟨p, hp, rfl⟩))
 exact hR p hp
theorem map_two {x c : Str} {u m₀ : Str → Option Value} : (fun y => if y = x then u y else kstB (fun z => if [c].contains z then u z else m₀ z) [] y) = fun y => if y = x then u x else if y = c then u c else m₀ y := by
 funext y
 by_cases h1 : y = x
 ·rw [if_pos h1, if_pos h1, h1]
 rw [if_neg h1, if_neg h1]
 show (if [c].contains y then u y else m₀ y) = _
 by_cases h2 : y = c
 ·rw [if_pos h2, h2]; simp
 rw [if_neg h2, if_neg (by simpa using h2)]
theorem fr_eq {h₀ h : Heap} {L : Addr} {m m' : Str → Option Value} (F : Fr h₀ L h m) (e : m = m') : Fr h₀ L h m' := e ▸ F
theorem SOk.names {w : World} {es : List (Str × Str)} {xa d n2 : Addr} {R : List (Addr × Obj)} {c : SS} (S : SOk w es xa d n2 R c) (b : Str) : b ∈ c.ns.map (·.nm) ↔ ∃ q ∈ es, b = q.1 ∨ b = q.2 := by
 have e : c.ns.map (·.nm) = (gAll [] es).map (·.nm) := by
  rw [← S.pr]
  unfold proj2
  rw [List.map_map]
  rfl
 rw [e, gAll_mem]
 simp
theorem succs_gsc (ns : List NI) (a : Str) : succs ns a = gsc (proj2 ns) a := by
 unfold succs gsc proj2
 rw [List.find?_map]
 have e : ((fun e : GN => decide (e.nm = a)) ∘ projN) = fun e : NI => decide (e.nm = a) := rfl
 rw [e]
 cases ns.find? fun e => decide (e.nm = a) <;> rfl
theorem SOk.succ {w : World} {es : List (Str × Str)} {xa d n2 : Addr} {R : List (Addr × Obj)} {c : SS} (S : SOk w es xa d n2 R c) (a b : Str) : SuccR c.ns b a ↔ (a, b) ∈ es := by
 unfold SuccR
 rw [succs_gsc, S.pr]
 exact gOf_sc_mem
theorem SOk.closed {w : World} {es : List (Str × Str)} {xa d n2 : Addr} {R : List (Addr × Obj)} {c : SS} (S : SOk w es xa d n2 R c) : ∀ e ∈ c.ns, ∀ q ∈ e.sc, q.1 ∈ c.ns.map (·.nm) := by
 intro e he q hq
 have h1 : q.1 ∈ gsc (proj2 c.ns) e.nm := by
  rw [gsc_of S.nn he]
  exact mm2 ⟨q, hq, rfl⟩
 rw [S.pr] at h1
 exact (S.names q.1).mpr ⟨_, gOf_sc_mem.mp h1, .inr rfl⟩
theorem part_facts {wl : List Str} {z : Nat} (hz : ∀ x ∈ wl, x.cps.size = z) (ho : ∀ x ∈ wl, PyData.strOk x = true) {f b : Str} (h : (f, b) ∈ stepsOf wl (z - 1)) : (f.length ≤ z ∧ PyData.strOk f = true) ∧ b.length ≤ z ∧ PyData.strOk b = true := by
 have h1 := (mem_steps hz).mp h
 have h2 := chain_len hz h1
 rw [cl_len, cl_len] at h2
 have h3 := h
 unfold stepsOf at h3
 refine el1_2 (List.mem_flatMap.mp h3) ?_; intro x hx h4
 refine el1_3 (mem_cuts.mp h4) ?_; intro i hi e92 e93; subst e92; subst e93
 exact ⟨⟨by lia, ok_slice (ho x hx)⟩, by lia, ok_slice (ho x hx)⟩
theorem SOk.facts {w : World} {wl : List Str} {z : Nat} {xa d n2 : Addr} {R : List (Addr × Obj)} {c : SS} (S : SOk w (stepsOf wl (z - 1)) xa d n2 R c) (hz : ∀ x ∈ wl, x.cps.size = z) (ho : ∀ x ∈ wl, PyData.strOk x = true) : ∀ e ∈ c.ns, e.nm.length ≤ z ∧ PyData.strOk e.nm = true := by
 intro e he
 obtain ⟨⟨f, b⟩, hq, h⟩ := (S.names e.nm).mp (mm2 ⟨e, he, rfl⟩)
 have h2 := part_facts hz ho hq
 rcases h with h | h
 ·rw [h]; exact h2.1
 rw [h]; exact h2.2
noncomputable def readyL (ns : List NI) : List (Str × Tok) := (ns.filter fun e => e.np == 0).map fun e => (e.nm, e.tn)
theorem readyL_vals {ns : List NI} {ys : Array Value} (h : ys.toList = readyV ns) : ys = strVals (readyL ns) := by
 have e : readyV ns = (strVals (readyL ns)).toList := by
  unfold readyV strVals readyL
  rw [List.map_map]
  rfl
 rw [e] at h
 exact Array.toList_inj.mp h
theorem readyL_names (ns : List NI) : (readyL ns).map (·.1) = (ns.filter fun e => e.np == 0).map (·.nm) := by
 unfold readyL
 rw [List.map_map]
 rfl
theorem SOk.kst {w : World} {es : List (Str × Str)} {xa d n2 : Addr} {R : List (Addr × Obj)} {c : SS} (S : SOk w es xa d n2 R c) : Kst es 0 (proj2 c.ns) ((readyL c.ns).map (·.1)) := by
 have e : (gOf es) = proj2 c.ns := S.pr.symm
 have hm : ∀ b, b ∈ (proj2 c.ns).map (·.nm) ↔ b ∈ c.ns.map (·.nm) := fun b => by
  unfold proj2; rw [List.map_map]; exact Iff.rfl
 rw [readyL_names, ← e]
 refine kst_first (List.Nodup.sublist (List.Sublist.map _ List.filter_sublist) S.nn) fun b => ?_
 rw [e, hm]
 constructor
 ·intro hb
  refine el1_2 (mm1 hb) ?_; intro x hx e92; subst e92
  refine el0_2 (mf1 hx) ?_; intro h1 h2
  refine ⟨mm2 ⟨x, h1, rfl⟩, ?_⟩
  rw [gnp_of S.nn h1]
  exact eq_of_beq h2
 rintro ⟨hb, h0⟩
 refine el1_2 (mm1 hb) ?_; intro x hx e92; subst e92
 rw [gnp_of S.nn hx] at h0
 exact mm2 ⟨x, List.mem_filter.mpr ⟨hx, by rw [h0]; rfl⟩, rfl⟩
theorem SOk.lv0 {w : World} {es : List (Str × Str)} {xa d n2 : Addr} {R : List (Addr × Obj)} {c : SS} (S : SOk w es xa d n2 R c) : lv es 0 = c.ns.map (·.nm) := by
 show (gOf es).map (·.nm) = _
 rw [show gOf es = proj2 c.ns from S.pr.symm]
 unfold proj2
 rw [List.map_map]
 rfl
theorem grun_names : ∀ {g : Gr} {rs : List Str} {gs : List (List Str)}, GRun g rs gs → ∀ l ∈ gs, ∀ x ∈ l, x ∈ g.map (·.nm) := by
 intro g rs gs h
 induction h with
 | nil => exact fun l h => absurd h List.not_mem_nil
 | cons h1 h2 h3 h4 h5 h6 ih =>
  intro l hl x hx
  rcases mc1 hl with rfl | hl
  ·exact h4 x hx
  have := ih l hl x hx
  rw [pldone_nms, plout_nms] at this
  exact this
theorem paired_mem {gs gs' : List (List Str)} (h : Paired SortedOf gs gs') : ∀ l' ∈ gs', ∃ l ∈ gs, ∀ x ∈ l', x ∈ l := by
 induction h with
 | nil => exact fun l h => absurd h List.not_mem_nil
 | cons hxy _ ih =>
  intro l' hl
  refine asp hl ?_ fun hl => ?_
  ·exact ⟨_, .head _, fun x hx => hxy.1.mem_iff.mp hx⟩
  refine el1_2 (ih l' hl) ?_; intro l h1 h2
  exact ⟨l, .tail _ h1, h2⟩
theorem groups_ok {gs : List (List Str)} (h : ∀ l ∈ gs, ∀ x ∈ l, PyData.strOk x = true) : ∀ d ∈ gs.map fun l => Dat.list (l.map Dat.str), kqdOk 8 d = true := by
 intro d hd
 refine el1_2 (mm1 hd) ?_; intro l hl e92; subst e92
 show (l.map Dat.str).all (kqdOk 7) = true
 rw [List.all_eq_true]
 intro x hx
 refine el1_2 (mm1 hx) ?_; intro y hy e92; subst e92
 exact h l hl y hy
theorem kqd_ne_same {prog : Program} {w : World} {A : Around} {E : Value → Shared → Prop} {s : Shared} {h₀ : Heap} {L a b : Addr} {news n₁ n₂ : List (Addr × Obj)} {oa ob : Obj} {xs ys : List Value} {ka kb : Nat} {ds : List Dat} {Q : Value → Shared → Prop}
  (N : News h₀ L s.heap news) (ma : (a, oa) ∈ news) (ca : oa.cls = .type "list") (da : oa.data = .seq xs.toArray ka) (Da : DatAll n₁ xs ds) (sa : ∀ p ∈ n₁, p ∈ news)
  (mb : (b, ob) ∈ news) (cb : ob.cls = .type "list") (db : ob.data = .seq ys.toArray kb) (Db : DatAll n₂ ys ds) (sb : ∀ p ∈ n₂, p ∈ news)
  (ha : ∀ d ∈ ds, kqdOk 8 d = true) (hu : A.units + 64 < cLine) (h : Q (.bool false) s) : wpAny (model prog w) A (compareOp .NotEq (.ref a) (.ref b)) Q E s := by
 refine kqd_ne N ma ca da Da sa mb cb db Db sb ha ha hu ?_
 simpa using h
theorem paired_len {α β : Type} {F : α → β → Prop} {l : List α} {l' : List β} (h : Paired F l l') : l.length = l'.length := by
 induction h with
 | nil => rfl
 | cons _ _ ih => rw [List.length_cons, List.length_cons, ih]
noncomputable def pcS (a b : Str) : Str := Txt.slice (a ++ b) (some 1) (some (-1))
noncomputable def pieces (wl : List Str) : List Str := wl.flatMap fun a => wl.map fun b => pcS a b
theorem pieces_len (wl : List Str) : (pieces wl).length = wl.length * wl.length := by
 unfold pieces
 generalize hk : wl.length = k
 have : ∀ l : List Str, (l.flatMap fun a => wl.map fun b => pcS a b).length = l.length * k := by
  intro l
  induction l with
  | nil => simp
  | cons a l ih => rw [List.flatMap_cons, List.length_append, ih, List.length_map, hk, List.length_cons, Nat.succ_mul, Nat.add_comm]
 rw [this, hk]
theorem pcS_cl {z : Nat} {a b : Str} (ha : a.cps.size = z) (hb : b.cps.size = z) (hz : 2 ≤ z) : cl (pcS a b) = ((cl a ++ cl b).drop 1).take (2 * z - 2) := by
 have hl : (a ++ b).length = 2 * z := by
  rw [← cl_len, cl_cat, List.length_append, cl_size, cl_size, ha, hb, Nat.two_mul]
 show cl (Txt.slice (a ++ b) (some 1) (some (-1))) = _
 rw [slice_inner (by lia), cl_cat, hl]
theorem pcS_len {z : Nat} {a b : Str} (ha : a.cps.size = z) (hb : b.cps.size = z) (hz : 2 ≤ z) : (pcS a b).length = 2 * z - 2 := by
 rw [← cl_len, pcS_cl ha hb hz, List.length_take, List.length_drop, List.length_append, cl_size, cl_size, ha, hb, ip0]
theorem ints_ok3 (a b c : Int) : ∀ d ∈ [Dat.int a, Dat.int b, Dat.int c], kqdOk 8 d = true := by
 intro d hd
 refine asp hd ?_ fun hd => ?_
 ·rfl
 refine asp hd ?_ fun hd => ?_
 ·rfl
 refine asp hd ?_ fun hd => ?_
 ·rfl
 exact absurd hd List.not_mem_nil
theorem datInts3 {news : List (Addr × Obj)} (a b c : Int) (t u v : Tok) : DatAll news [.int a t, .int b u, .int c v] [Dat.int a, Dat.int b, Dat.int c] := .cons (.int _ _) (.cons (.int _ _) (.cons (.int _ _) .nil))
theorem cutsOf_snoc (x : Str) (k : Nat) : cutsOf x (k + 1) = cutsOf x k ++ [(Txt.slice x none (some (1 + (k : Int))), Txt.slice x (some (1 + (k : Int))) none)] := by
 rw [cutsOf_succ, Int.mul_one]
theorem plook_pput (l : List (Int × Int)) (j k j' : Int) : plook (pput l j k) j' = if j' = j then k else plook l j' := by
 unfold pput
 by_cases ha : (l.any fun e => e.1 = j) = true
 ·rw [if_pos ha]
  unfold plook
  rw [List.find?_map]
  have e : ((fun e : Int × Int => decide (e.1 = j')) ∘ fun e : Int × Int => if e.1 = j then (e.1, k) else e) = fun e => decide (e.1 = j') := by
   funext a
   show decide ((if a.1 = j then (a.1, k) else a).1 = j') = _
   split <;> rfl
  rw [e]
  by_cases hj : j' = j
  ·subst hj
   rw [if_pos rfl]
   refine el1_2 (List.any_eq_true.mp ha) ?_; intro a ha1 ha2
   cases hf : List.find? (fun e : Int × Int => decide (e.1 = j')) l with
   | none => exact absurd ha2 (by simpa using List.find?_eq_none.mp hf a ha1)
   | some b =>
    have hb : b.1 = j' := by simpa using List.find?_some hf
    show (if b.1 = j' then (b.1, k) else b).2 = k
    rw [if_pos hb]
  rw [if_neg hj]
  cases hf : List.find? (fun e : Int × Int => decide (e.1 = j')) l with
  | none => rfl
  | some b =>
   have hb : b.1 = j' := by simpa using List.find?_some hf
   show (if b.1 = j then (b.1, k) else b).2 = b.2
   rw [if_neg (by lia)]
 rw [if_neg ha]
 unfold plook
 rw [List.find?_append]
 by_cases hj : j' = j
 ·subst hj
  rw [if_pos rfl]
  have hn : List.find? (fun e : Int × Int => decide (e.1 = j')) l = none := by
   rw [List.find?_eq_none]
   intro a ham hae
   exact ha (List.any_eq_true.mpr ⟨a, ham, hae⟩)
  rw [hn]
  simp
 rw [if_neg hj]
 have : List.find? (fun e : Int × Int => decide (e.1 = j')) [(j, k)] = none := by
  simp [List.find?_cons, show ¬ j = j' from fun e => hj e.symm]
 rw [this, Option.or_none]
noncomputable def inB (blo bhi : Int) (js : List Int) : List Int := js.filter fun j => decide (blo ≤ j) && decide (j < bhi)
theorem inner_eq (i blo bhi : Int) (old : List (Int × Int)) : ∀ (js : List Int) (b : PB3) (new : List (Int × Int)), js.Pairwise (· < ·) →
  inner i blo bhi old js b new = ((inB blo bhi js).foldl (istep i old) b, (inB blo bhi js).foldl (fun n j => pput n j (plook old (j - 1) + 1)) new)
 | [], b, new, _ => rfl
 | j :: js, b, new, h => by
  rw [List.pairwise_cons] at h
  rw [inner]
  by_cases h1 : j < blo
  ·rw [if_pos h1, inner_eq i blo bhi old js b new h.2]
   unfold inB
   rw [List.filter_cons, if_neg (by simp; lia)]
  rw [if_neg h1]
  by_cases h2 : bhi ≤ j
  ·rw [if_pos h2]
   have : inB blo bhi (j :: js) = [] := by
    unfold inB
    rw [List.filter_eq_nil_iff]
    intro a ha
    refine asp ha ?_ fun ha => ?_
    ·simp; lia
    have := h.1 a ha
    simp; lia
   rw [this]; rfl
  rw [if_neg h2, inner_eq i blo bhi old js _ _ h.2]
  unfold inB
  rw [List.filter_cons, if_pos (by simp; lia)]
  rfl
theorem foldl_pput (f : Int → Int) : ∀ (js : List Int) (new : List (Int × Int)) (j : Int), plook (js.foldl (fun n j => pput n j (f j)) new) j = if j ∈ js then f j else plook new j
 | [], new, j => by simp
 | a :: js, new, j => by
  rw [List.foldl_cons, foldl_pput f js]
  by_cases h : j ∈ js
  ·rw [if_pos h, if_pos (.tail _ h)]
  rw [if_neg h, plook_pput]
  by_cases ha : j = a
  ·subst ha; simp
  rw [if_neg ha, if_neg (by simp [ha, h])]
theorem idxs_asc (y : Str) (n c : Nat) : (idxs y n c).Pairwise (· < ·) := by
 unfold idxs
 refine List.Pairwise.map (R := fun a b : Nat => a < b) _ (fun a b h => Int.ofNat_lt.mpr h) ?_
 exact List.Pairwise.filter _ List.pairwise_lt_range
theorem mem_idxs {y : Str} {c : Nat} {j : Int} : j ∈ idxs y y.cps.size c ↔ 0 ≤ j ∧ y.cps[j.toNat]? = some c := by
 unfold idxs
 rw [List.mem_map]
 constructor
 ·rintro ⟨k, hk, rfl⟩
  have := mf1 hk
  exact ⟨Int.natCast_nonneg k, by simpa using this.2⟩
 rintro ⟨h0, hc⟩
 refine ⟨j.toNat, List.mem_filter.mpr ⟨List.mem_range.mpr ?_, by simpa using hc⟩, Int.toNat_of_nonneg h0⟩
 rcases Nat.lt_or_ge j.toNat y.cps.size with h | h
 ·exact h
 rw [Array.getElem?_eq_none h] at hc; cases hc
theorem jsOf_asc (x y : Str) (i : Int) : (jsOf x y i).Pairwise (· < ·) := by
 unfold jsOf
 split
 ·exact idxs_asc _ _ _
 exact List.Pairwise.nil
theorem mem_jsOf {x y : Str} {i j : Int} : j ∈ jsOf x y i ↔ 0 ≤ j ∧ ∃ c, x.cps[i.toNat]? = some c ∧ y.cps[j.toNat]? = some c := by
 unfold jsOf
 cases hc : x.cps[i.toNat]? with
 | some c =>
  show j ∈ idxs y y.cps.size c ↔ _
  rw [mem_idxs]
  constructor
  ·exact fun h => ⟨h.1, c, rfl, h.2⟩
  rintro ⟨h, c', e, h'⟩
  injection e with e
  subst e
  exact ⟨h, h'⟩
 | none =>
  show j ∈ [] ↔ _
  constructor
  ·intro h; cases h
  rintro ⟨_, c, e, _⟩
  injection e
noncomputable def sufL (x y : Str) (alo blo bhi : Int) : Nat → Int → Int
 | 0, _ => 0
 | r + 1, j => if blo ≤ j ∧ j < bhi ∧ j ∈ jsOf x y (alo + (r : Int)) then sufL x y alo blo bhi r (j - 1) + 1 else 0
section
variable {x y : Str} {alo blo bhi : Int}
theorem sufL_nonneg : ∀ (r : Nat) (j : Int), 0 ≤ sufL x y alo blo bhi r j
 | 0, _ => Int.le_refl _
 | r + 1, j => by
  rw [sufL]
  split
  ·have := sufL_nonneg r (j - 1)
   lia
  exact Int.le_refl _
theorem mem_inB {js : List Int} {j : Int} : j ∈ inB blo bhi js ↔ j ∈ js ∧ blo ≤ j ∧ j < bhi := by
 unfold inB
 rw [List.mem_filter]
 simp
def BestOn (x y : Str) (alo blo bhi : Int) (D : Nat → Int → Prop) (b : PB3) : Prop :=
 0 ≤ b.bs ∧ (∀ r j, D r j → sufL x y alo blo bhi r j ≤ b.bs) ∧
 ((b.bs = 0 ∧ b.bi = alo ∧ b.bj = blo) ∨
  (∃ r j, D r j ∧ sufL x y alo blo bhi r j = b.bs ∧ 0 < b.bs ∧ b.bi = alo + (r : Int) - b.bs ∧ b.bj = j - b.bs + 1 ∧ ∀ r' j', D r' j' → (r' < r ∨ (r' = r ∧ j' < j)) → sufL x y alo blo bhi r' j' < b.bs))
theorem best_fold {R : Nat} {old : List (Int × Int)} (hold : ∀ j, plook old j = sufL x y alo blo bhi R j) : ∀ (js ds : List Int) (b : PB3), (∀ j ∈ js, blo ≤ j ∧ j < bhi ∧ j ∈ jsOf x y (alo + (R : Int))) → js.Pairwise (· < ·) → (∀ d ∈ ds, ∀ j ∈ js, d < j) →
  BestOn x y alo blo bhi (fun r j => r ≤ R ∨ (r = R + 1 ∧ j ∈ ds)) b → BestOn x y alo blo bhi (fun r j => r ≤ R ∨ (r = R + 1 ∧ (j ∈ ds ∨ j ∈ js))) (js.foldl (istep (alo + (R : Int)) old) b)
 | [], ds, b, _, _, _, hb => by simpa using hb
 | j :: js, ds, b, hm, hp, hd, hb => by
  rw [List.pairwise_cons] at hp
  have hS : sufL x y alo blo bhi (R + 1) j = plook old (j - 1) + 1 := by
   rw [sufL, if_pos (hm j (.head _)), hold]
  have hstep : BestOn x y alo blo bhi (fun r j' => r ≤ R ∨ (r = R + 1 ∧ j' ∈ ds ++ [j])) (istep (alo + (R : Int)) old b j) := by
   refine el0_3 (hb) ?_; (try clear hb); intro h0 h1 h2
   unfold istep
   rw [← hS]
   by_cases hgt : sufL x y alo blo bhi (R + 1) j > b.bs
   ·rw [if_pos hgt]
    refine ⟨Int.le_of_lt (Int.lt_of_le_of_lt h0 hgt), ?_, .inr ⟨R + 1, j, .inr ⟨rfl, by simp⟩, rfl, Int.lt_of_le_of_lt h0 hgt, by show alo + (R : Int) - sufL x y alo blo bhi (R + 1) j + 1 = alo + ((R + 1 : Nat) : Int) - sufL x y alo blo bhi (R + 1) j; lia, rfl, ?_⟩⟩
    ·intro r j' hD
     show _ ≤ sufL x y alo blo bhi (R + 1) j
     rcases hD with hD | ⟨rfl, hD⟩
     ·exact Int.le_trans (h1 r j' (.inl hD)) (Int.le_of_lt hgt)
     refine ast hD (fun hD => ?_) fun hD => ?_
     ·exact Int.le_trans (h1 (R + 1) j' (.inr ⟨rfl, hD⟩)) (Int.le_of_lt hgt)
     rw [ms1 hD]; exact Int.le_refl _
    intro r' j' hD hl
    show _ < sufL x y alo blo bhi (R + 1) j
    rcases hD with hD | ⟨rfl, hD⟩
    ·exact Int.lt_of_le_of_lt (h1 r' j' (.inl hD)) hgt
    refine ast hD (fun hD => ?_) fun hD => ?_
    ·exact Int.lt_of_le_of_lt (h1 (R + 1) j' (.inr ⟨rfl, hD⟩)) hgt
    rw [ms1 hD] at hl; exact hl.elim (fun h => absurd h (Nat.lt_irrefl _)) fun h => absurd h.2 (Int.lt_irrefl _)
   rw [if_neg hgt]
   refine ⟨h0, ?_, ?_⟩
   ·intro r j' hD
    rcases hD with hD | ⟨rfl, hD⟩
    ·exact h1 r j' (.inl hD)
    refine ast hD (fun hD => ?_) fun hD => ?_
    ·exact h1 (R + 1) j' (.inr ⟨rfl, hD⟩)
    rw [ms1 hD]; exact Int.not_lt.mp hgt
   rcases h2 with h2 | ⟨r, jw, hD, he, hpos, hbi, hbj, hall⟩
   ·exact .inl h2
   refine .inr ⟨r, jw, ?_, he, hpos, hbi, hbj, ?_⟩
   ·rcases hD with hD | ⟨e, hD⟩
    ·exact .inl hD
    exact .inr ⟨e, maL _ hD⟩
   intro r' j' hD' hl
   rcases hD' with hD' | ⟨rfl, hD'⟩
   ·exact hall r' j' (.inl hD') hl
   refine ast hD' (fun hD' => ?_) fun hD' => ?_
   ·exact hall (R + 1) j' (.inr ⟨rfl, hD'⟩) hl
   rw [ms1 hD'] at hl
   rcases hD with hD | ⟨rfl, hD⟩
   ·exact hl.elim (fun h => absurd (Nat.lt_trans (Nat.lt_succ_self R) h) (Nat.not_lt.mpr hD)) fun h => absurd hD (h.1 ▸ Nat.not_succ_le_self R)
   exact hl.elim (fun h => absurd h (Nat.lt_irrefl _)) fun h => absurd h.2 (Int.not_lt.mpr (Int.le_of_lt (hd jw hD j (.head _))))
  have hrec := best_fold hold js (ds ++ [j]) _ (fun a ha => hm a (.tail _ ha)) hp.2 (fun d hdm a ha => by
   refine ast hdm (fun hdm => ?_) fun hdm => ?_
   ·exact hd d hdm a (.tail _ ha)
   rw [ms1 hdm]; exact hp.1 a ha) hstep
  have eD : (fun (r : Nat) (j' : Int) => r ≤ R ∨ (r = R + 1 ∧ (j' ∈ ds ++ [j] ∨ j' ∈ js))) = fun r j' => r ≤ R ∨ (r = R + 1 ∧ (j' ∈ ds ∨ j' ∈ j :: js)) := by
   funext r j'
   apply propext
   simp only [List.mem_append, List.mem_singleton, List.mem_cons, List.not_mem_nil, or_false, or_assoc]
  rw [eD] at hrec
  exact hrec
theorem BestOn.all {R : Nat} {ds : List Int} {b : PB3} (h : BestOn x y alo blo bhi (fun r j => r ≤ R ∨ (r = R + 1 ∧ j ∈ ds)) b) (hds : ∀ j, j ∉ ds → sufL x y alo blo bhi (R + 1) j = 0) : BestOn x y alo blo bhi (fun r _ => r ≤ R + 1) b := by
 refine el0_3 (h) ?_; (try clear h); intro h0 h1 h2
 refine ⟨h0, ?_, ?_⟩
 ·intro r j hr
  rcases Nat.lt_or_ge R r with h | h
  ·have e : r = R + 1 := Nat.le_antisymm hr h
   subst e
   by_cases hj : j ∈ ds
   ·exact h1 _ j (.inr ⟨rfl, hj⟩)
   rw [hds j hj]; exact h0
  exact h1 r j (.inl h)
 rcases h2 with h2 | ⟨r, jw, hD, he, hpos, hbi, hbj, hall⟩
 ·exact .inl h2
 refine .inr ⟨r, jw, ?_, he, hpos, hbi, hbj, ?_⟩
 ·rcases hD with h | ⟨h, _⟩ <;> lia
 intro r' j' hr' hl
 rcases Nat.lt_or_ge R r' with h | h
 ·have e : r' = R + 1 := Nat.le_antisymm hr' h
  subst e
  by_cases hj : j' ∈ ds
  ·exact hall _ j' (.inr ⟨rfl, hj⟩) hl
  rw [hds j' hj]; exact hpos
 exact hall r' j' (.inl h) hl
theorem outerR_best : ∀ (n R : Nat) (b : PB3) (old : List (Int × Int)), (∀ j, plook old j = sufL x y alo blo bhi R j) → BestOn x y alo blo bhi (fun r _ => r ≤ R) b →
  BestOn x y alo blo bhi (fun r _ => r ≤ R + n) (outerR x y blo bhi ((List.range' R n).map fun (i : Nat) => alo + (i : Int)) b old)
 | 0, R, b, old, _, hb => hb
 | n + 1, R, b, old, hold, hb => by
  rw [List.range'_succ, List.map_cons, outerR, inner_eq _ _ _ _ _ _ _ (jsOf_asc x y _)]
  have hm : ∀ j ∈ inB blo bhi (jsOf x y (alo + (R : Int))), blo ≤ j ∧ j < bhi ∧ j ∈ jsOf x y (alo + (R : Int)) := fun j hj => by
   have := mem_inB.mp hj
   exact ⟨this.2.1, this.2.2, this.1⟩
  have hz : ∀ j, j ∉ inB blo bhi (jsOf x y (alo + (R : Int))) → sufL x y alo blo bhi (R + 1) j = 0 := fun j hj => by
   rw [sufL, if_neg]
   rintro ⟨h1, h2, h3⟩
   exact hj (mem_inB.mpr ⟨h3, h1, h2⟩)
  have e0 : BestOn x y alo blo bhi (fun r j => r ≤ R ∨ (r = R + 1 ∧ j ∈ ([] : List Int))) b := by
   have : (fun (r : Nat) (j : Int) => r ≤ R ∨ (r = R + 1 ∧ j ∈ ([] : List Int))) = fun r _ => r ≤ R := by
    funext r j; simp
   rw [this]; exact hb
  have h1 := best_fold hold _ [] b hm (List.Pairwise.filter _ (jsOf_asc x y _)) (by simp) e0
  have h2 : BestOn x y alo blo bhi (fun r _ => r ≤ R + 1) ((inB blo bhi (jsOf x y (alo + (R : Int)))).foldl (istep (alo + (R : Int)) old) b) := by
   refine BestOn.all (ds := inB blo bhi (jsOf x y (alo + (R : Int)))) ?_ hz
   simpa using h1
  have h3 := outerR_best n (R + 1) _ ((inB blo bhi (jsOf x y (alo + (R : Int)))).foldl (fun n j => pput n j (plook old (j - 1) + 1)) []) (fun j => by
   rw [foldl_pput (fun j => plook old (j - 1) + 1)]
   by_cases hj : j ∈ inB blo bhi (jsOf x y (alo + (R : Int)))
   ·rw [if_pos hj, sufL, if_pos (hm j hj), hold]
   rw [if_neg hj, hz j hj]; rfl) h2
  have e : R + 1 + n = R + (n + 1) := by lia
  rw [e] at h3
  exact h3
theorem flm_best (ahi : Int) : BestOn x y alo blo bhi (fun r _ => r ≤ (ahi - alo).toNat) (flm x y alo ahi blo bhi) := by
 have h := outerR_best (x := x) (y := y) (alo := alo) (blo := blo) (bhi := bhi) (ahi - alo).toNat 0 ⟨alo, blo, 0⟩ [] (fun j => rfl) ⟨Int.le_refl _, fun r j hr => by
  have : r = 0 := by lia
  subst this; exact Int.le_refl _, .inl ⟨rfl, rfl, rfl⟩⟩
 rw [Nat.zero_add] at h
 unfold flm rangeL
 rw [List.range_eq_range']
 exact h
def RunAt (x y : Str) (i j n : Int) : Prop := ∀ t, 0 ≤ t → t < n → ∃ c, x.cps[(i + t).toNat]? = some c ∧ y.cps[(j + t).toNat]? = some c
theorem sufL_ge (halo : 0 ≤ alo) (hblo : 0 ≤ blo) : ∀ (n r : Nat) (j : Int), 1 ≤ n → ((n : Int) ≤ sufL x y alo blo bhi r j ↔ n ≤ r ∧ blo ≤ j - n + 1 ∧ j < bhi ∧ RunAt x y (alo + (r : Int) - n) (j - n + 1) n)
 | 0, _, _, h => absurd h (by lia)
 | n + 1, 0, j, _ => by
  rw [sufL]
  constructor
  ·intro h; lia
  rintro ⟨h, _⟩; lia
 | n + 1, r + 1, j, _ => by
  rw [sufL]
  by_cases hc : blo ≤ j ∧ j < bhi ∧ j ∈ jsOf x y (alo + (r : Int))
  ·rw [if_pos hc]
   refine el0_3 (hc) ?_; (try clear hc); intro c1 c2 c3
   obtain ⟨c3, c, c4, c5⟩ := mem_jsOf.mp c3
   rcases Nat.eq_zero_or_pos n with rfl | hn
   ·have := sufL_nonneg (x := x) (y := y) (alo := alo) (blo := blo) (bhi := bhi) r (j - 1)
    constructor
    ·intro _
     refine ⟨by lia, by lia, c2, ?_⟩
     intro t h0 h1
     have : t = 0 := by lia
     subst this
     exact ⟨c, by rw [show alo + ((r + 1 : Nat) : Int) - ((0 + 1 : Nat) : Int) + 0 = alo + (r : Int) by lia]; exact c4, by rw [show j - ((0 + 1 : Nat) : Int) + 1 + 0 = j by lia]; exact c5⟩
    intro _
    lia
   have ih := sufL_ge halo hblo n r (j - 1) hn
   constructor
   ·intro h
    refine el0_4 (ih.mp (by lia)) ?_; intro a1 a2 a3 a4
    refine ⟨by lia, by lia, c2, ?_⟩
    intro t h0 h1
    by_cases ht : t < (n : Int)
    ·refine el1_2 (a4 t h0 ht) ?_; intro c' b1 b2
     exact ⟨c', by rw [show alo + ((r + 1 : Nat) : Int) - ((n + 1 : Nat) : Int) + t = alo + (r : Int) - (n : Int) + t by lia]; exact b1, by rw [show j - ((n + 1 : Nat) : Int) + 1 + t = j - 1 - (n : Int) + 1 + t by lia]; exact b2⟩
    have : t = (n : Int) := by lia
    subst this
    exact ⟨c, by rw [show alo + ((r + 1 : Nat) : Int) - ((n + 1 : Nat) : Int) + (n : Int) = alo + (r : Int) by lia]; exact c4, by rw [show j - ((n + 1 : Nat) : Int) + 1 + (n : Int) = j by lia]; exact c5⟩
   rintro ⟨a1, a2, a3, a4⟩
   have := ih.mpr ⟨by lia, by lia, by lia, fun t h0 h1 => by
    refine el1_2 (a4 t h0 (by lia)) ?_; intro c' b1 b2
    exact ⟨c', by rw [show alo + (r : Int) - (n : Int) + t = alo + ((r + 1 : Nat) : Int) - ((n + 1 : Nat) : Int) + t by lia]; exact b1, by rw [show j - 1 - (n : Int) + 1 + t = j - ((n + 1 : Nat) : Int) + 1 + t by lia]; exact b2⟩⟩
   lia
  rw [if_neg hc]
  constructor
  ·intro h; lia
  rintro ⟨a1, a2, a3, a4⟩
  exfalso
  apply hc
  refine el1_2 (a4 (n : Int) (by lia) (by lia)) ?_; intro c' b1 b2
  refine ⟨by lia, a3, mem_jsOf.mpr ⟨by lia, c', ?_, ?_⟩⟩
  ·rw [show alo + (r : Int) = alo + ((r + 1 : Nat) : Int) - ((n + 1 : Nat) : Int) + (n : Int) by lia]; exact b1
  rw [show j = j - ((n + 1 : Nat) : Int) + 1 + (n : Int) by lia]; exact b2
structure FlmOk (x y : Str) (alo ahi blo bhi : Int) (b : PB3) : Prop where
 s0 : 0 ≤ b.bs
 i0 : alo ≤ b.bi
 i1 : b.bi + b.bs ≤ ahi
 j0 : blo ≤ b.bj
 j1 : b.bj + b.bs ≤ bhi
 run : RunAt x y b.bi b.bj b.bs
 none : b.bs = 0 → b.bi = alo ∧ b.bj = blo
 most : ∀ i j n, alo ≤ i → blo ≤ j → 1 ≤ n → i + n ≤ ahi → j + n ≤ bhi → RunAt x y i j n → n ≤ b.bs
 first : ∀ i j, alo ≤ i → blo ≤ j → 1 ≤ b.bs → i + b.bs ≤ ahi → j + b.bs ≤ bhi → RunAt x y i j b.bs → b.bi < i ∨ (b.bi = i ∧ b.bj ≤ j)
theorem jn_sub (j n : Int) : j + n - 1 - n + 1 = j := by lia
theorem al_sub (a i n : Int) : a + (i + n - a) - n = i := by lia
theorem flm_ok {ahi : Int} (halo : 0 ≤ alo) (hblo : 0 ≤ blo) (ha : alo ≤ ahi) (hb : blo ≤ bhi) : FlmOk x y alo ahi blo bhi (flm x y alo ahi blo bhi) := by
 refine el0_3 (flm_best (x := x) (y := y) (alo := alo) (blo := blo) (bhi := bhi) ahi) ?_; intro h0 h1 h2
 generalize flm x y alo ahi blo bhi = b at h0 h1 h2
 have hge : ∀ (i j : Int) (n : Nat), alo ≤ i → blo ≤ j → 1 ≤ n → i + n ≤ ahi → j + n ≤ bhi → RunAt x y i j n → ∃ r : Nat, i + n - alo = r ∧ (n : Int) ≤ sufL x y alo blo bhi r (j + n - 1) ∧ sufL x y alo blo bhi r (j + n - 1) ≤ b.bs := by
  clear h2
  intro i j n a1 a2 a3 a4 a5 a6
  obtain ⟨r, hr⟩ := Int.eq_ofNat_of_zero_le (a := i + n - alo) (Int.sub_nonneg_of_le (Int.le_trans a1 (Int.le_add_of_nonneg_right (Int.natCast_nonneg n))))
  have h9 : r ≤ (ahi - alo).toNat := (Int.le_toNat (Int.sub_nonneg_of_le ha)).mpr (by rw [← hr]; exact Int.sub_le_sub_right a4 alo)
  refine ⟨r, hr, (sufL_ge (x := x) (y := y) (alo := alo) (blo := blo) (bhi := bhi) halo hblo n r (j + n - 1) a3).mpr ⟨by lia, ?_, Int.lt_of_lt_of_le (Int.sub_one_lt_of_le (Int.le_refl _)) a5, ?_⟩, h1 r (j + n - 1) h9⟩
  ·rw [jn_sub]; exact a2
  rw [jn_sub, ← hr, al_sub]; exact a6
 have most : ∀ i j n, alo ≤ i → blo ≤ j → 1 ≤ n → i + n ≤ ahi → j + n ≤ bhi → RunAt x y i j n → n ≤ b.bs := by
  clear h2
  intro i j n a1 a2 a3 a4 a5 a6
  obtain ⟨n, rfl⟩ := Int.eq_ofNat_of_zero_le (Int.le_trans (by decide) a3)
  obtain ⟨r, _, g1, g2⟩ := hge i j n a1 a2 (Int.ofNat_le.mp a3) a4 a5 a6
  exact Int.le_trans g1 g2
 rcases h2 with ⟨e1, e2, e3⟩ | ⟨r, j, hr, he, hpos, hbi, hbj, hall⟩
 ·exact ⟨h0, Int.le_of_eq e2.symm, by rw [e1, e2, Int.add_zero]; exact ha, Int.le_of_eq e3.symm, by rw [e1, e3, Int.add_zero]; exact hb, fun t t0 h => absurd (Int.lt_of_le_of_lt t0 h) (by rw [e1]; exact Int.lt_irrefl 0), fun _ => ⟨e2, e3⟩, most, fun i j _ _ h => absurd h (by rw [e1]; exact Int.lt_irrefl 0)⟩
 obtain ⟨S, hS⟩ := Int.eq_ofNat_of_zero_le h0
 have hr' : (r : Int) ≤ ahi - alo := (Int.le_toNat (Int.sub_nonneg_of_le ha)).mp hr
 rw [hS] at hbi hbj he hpos
 refine el0_4 ((sufL_ge (x := x) (y := y) (alo := alo) (blo := blo) (bhi := bhi) halo hblo S r j (Int.ofNat_lt.mp hpos)).mp (Int.le_of_eq he.symm)) ?_; intro a1 a2 a3 a4
 have hrun : RunAt x y b.bi b.bj b.bs := by
  rw [hbi, hbj, hS]
  exact a4
 refine ⟨h0, by clear hall most hge h1; lia, by clear hall most hge h1; lia, by rw [hbj]; exact a2, by clear hall most hge h1; lia, hrun, fun e => absurd hpos (by rw [← hS, e]; exact Int.lt_irrefl 0), most, ?_⟩
 intro i j' b1 b2 b3 b4 b5 b6
 rw [hS] at b3 b4 b5 b6
 obtain ⟨r', q0, q1, q2⟩ := hge i j' S b1 b2 (Int.ofNat_lt.mp hpos) b4 b5 b6
 rw [hS] at q2
 have q3 := Int.le_antisymm q2 q1
 have q4 : r' ≤ (ahi - alo).toNat := (Int.le_toNat (Int.sub_nonneg_of_le ha)).mpr (by rw [← q0]; exact Int.sub_le_sub_right b4 alo)
 have no : ¬(r' < r ∨ r' = r ∧ j' + (S : Int) - 1 < j) := fun h => by
  have := hall r' (j' + S - 1) q4 h
  rw [q3, hS] at this
  exact Int.lt_irrefl _ this
 clear hall most hge h1 hrun b6 a4 q1 q2 q3 q4
 rcases Int.lt_trichotomy b.bi i with h | h | h
 ·exact .inl h
 ·refine .inr ⟨h, ?_⟩
  rcases Int.lt_or_le j' b.bj with hj | hj
  ·exact absurd (.inr ⟨by lia, by lia⟩) no
  exact hj
 exact absurd (.inl (by lia)) no
theorem FlmOk.left {ahi : Int} {b : PB3} (h : FlmOk x y alo ahi blo bhi b) (halo : 0 ≤ alo) (hblo : 0 ≤ blo) (h1 : alo < b.bi) (h2 : blo < b.bj) {c : Nat} (hx : x.cps[(b.bi - 1).toNat]? = some c) (hy : y.cps[(b.bj - 1).toNat]? = some c) : False := by
 have := h.most (b.bi - 1) (b.bj - 1) (b.bs + 1) (by lia) (by lia) (by have := h.s0; lia) (by have := h.i1; lia) (by have := h.j1; lia) (by
  intro t t0 t1
  by_cases e : t = 0
  ·subst e; exact ⟨c, by rw [Int.add_zero]; exact hx, by rw [Int.add_zero]; exact hy⟩
  refine el1_2 (h.run (t - 1) (by lia) (by lia)) ?_; intro c' b1 b2
  exact ⟨c', by rw [show b.bi - 1 + t = b.bi + (t - 1) by lia]; exact b1, by rw [show b.bj - 1 + t = b.bj + (t - 1) by lia]; exact b2⟩)
 lia
theorem FlmOk.right {ahi : Int} {b : PB3} (h : FlmOk x y alo ahi blo bhi b) (halo : 0 ≤ alo) (hblo : 0 ≤ blo) (h1 : b.bi + b.bs < ahi) (h2 : b.bj + b.bs < bhi) {c : Nat} (hx : x.cps[(b.bi + b.bs).toNat]? = some c) (hy : y.cps[(b.bj + b.bs).toNat]? = some c) : False := by
 have := h.most b.bi b.bj (b.bs + 1) h.i0 h.j0 (by have := h.s0; lia) (by lia) (by lia) (by
  intro t t0 t1
  by_cases e : t = b.bs
  ·subst e; exact ⟨c, hx, hy⟩
  exact h.run t t0 (by lia))
 lia
end
noncomputable def occ (x y : Str) (k run : Int) : Bool := !(Builtin.Str.occurrences y (Txt.slice x (some k) (some (k + run))) 0 y.length 1).isEmpty
def NoRun (x y : Str) (r : Int) : Prop := ∀ k, 0 ≤ k → k < (x.length : Int) - r + 1 → occ x y k r = false
def LongRel (x y : Str) (k pl rn : Int) : Prop :=
 (k = 0 ∧ pl = 0 ∧ rn = 0 ∧ ∀ r, 1 ≤ r → r ≤ (x.length : Int) → NoRun x y r) ∨
 (1 ≤ rn ∧ rn ≤ (x.length : Int) ∧ 0 ≤ k ∧ k < (x.length : Int) - rn + 1 ∧ occ x y k rn = true ∧ pl = Txt.find y (Txt.slice x (some k) (some (k + rn))) ∧
  (∀ k', 0 ≤ k' → k' < k → occ x y k' rn = false) ∧ ∀ r, rn < r → r ≤ (x.length : Int) → NoRun x y r)
theorem longest_c (w : World) (p : Program) (lo : List Str) (mean : ExcName → Option Value) (mg mb : Str → Option Value)
  (gd : Option (List Code)) (cn : Str) (cs : Scope) (a : Addr) (ccd : Value) (cl : List (Str × Addr)) (outer : List Env) (A₀ : Around) (base h₀ : Heap) (L : Addr) (m : Str → Option Value) (news : List (Addr × Obj)) (s : Shared)
  (x y : Str) (tx ty : Tok) (Q E : Value → Shared → Prop)
  (B : Below A₀ base outer h₀) (F : Fr h₀ L s.heap m) (X : (Mine.K w.params).In h₀) (N : News h₀ L s.heap news) (T : Top p lo mean mg mb h₀) (hk : cs.kind = .function)
  (hx : x.length ≤ 64) (hy : y.length ≤ 64)
  (hret : ∀ l k pl rn t1 t2 t3 h' tk', LongRel x y k pl rn → Fr h₀ L h' m → News h₀ L h' ((l, W.listOf #[.int k t1, .int pl t2, .int rn t3] 0) :: news) → (∀ p ∈ news, p.1 < l) → Q (.ref l) { s with heap := h', toks := tk' }) :
  wpAny (model (rw_nq0317_01.prog) w) (ktrTop 350 500 gd cn cs L a ccd cl outer) (call (.ref 395) [.str x tx, .str y ty]) Q E s := by
 k_with_none
 k_with "execs cons" => (k_here; first | k_made | ((fail_if_success (fail_if_success k_gentoks)); refine (let tk : Nat := _; (?_ : wpAny _ _ _ _ _ ⟨_, _, _, tk, _⟩))) | ((with_reducible refine wpAny_execs_cons ?_); (try dsimp only); refine (let qv : Flow → Shared → Prop := _; (?_ : wpAny _ _ _ qv _ _))))
 k_with "execs nil" => (k_here; (fail_if_success (fail_if_success k_gentoks)); refine (let tk : Nat := _; (?_ : wpAny _ _ _ _ _ ⟨_, _, _, tk, _⟩)))
 k_with "pyIter ref" => (refine stopped ?_)
 revert X
 k_fill
 intro X
 refine wpAny_call ?_
 k_dflt (refine' code_def (binds := [(Str.ofString "one", .str x tx), (Str.ofString "two", .str y ty)]) ?k1 ?k2 ?k3 ?k4 ?k5 ?kA ?kF ?kK ?k6 ?k7 ?k8 ?k9 ?kB ?_ ?c2 ?c3 ?c4 ?c5; (case kA => exact rfl); (case kF => exact rfl); (case kK => assumption); (case k1 => k_asm); (case k2 => k_asm); (case k3 => k_asm); (case k4 => k_asm); (case k5 => k_asm); (case k6 => k_is); (case k7 => k_is); (case k8 => ktr_room); (case k9 => exact BindsTo.of_eq rfl); (case c5 => decide); (case kB => exact locs rfl); (case c2 => exact rfl); (case c3 => exact rfl); (case c4 => exact rfl); k_whole; intro g' L' h' FG' F' N' B' X' T'; (try dsimp only); (try k_fold))
 k_steps
 refine ⟨?_⟩
 rename_i hR hF hN _
 refine kst_rangeD (σ := Unit) (fun _ => news) (fun _ => []) (fun _ => True) [Str.ofString "k"] (fun (pre : List Int) _ => ∀ r, (x.length : Int) - (pre.length : Int) < r → r ≤ (x.length : Int) → NoRun x y r) () rfl hR (small_down (by lia) (by lia) (by lia) (by lia)) (rangeSize_downNat _ _) hF hN trivial (fn0 _) (fun r h1 h2 => absurd h1 (by simp; lia)) ?turn ?done
 case turn =>
  clear hR hF hN
  intro c pre run tr u h tk own hrun hlen hoff hf hP F' N'
  k_steps
  refine ⟨?_⟩
  rename_i hR hF hN _
  refine kst_range (σ := Unit) (fun _ => news ++ own) (fun _ => []) (fun _ => True) [] (fun (pre2 : List Int) _ => ∀ k, 0 ≤ k → k < (pre2.length : Int) → occ x y k run = false) () rfl hR (small_one (by lia) (by lia) (by lia) (by lia)) (rangeSize_nat _ _) hF hN trivial (fn0 _) (fun r h1 h2 => absurd h2 (by simp; lia)) ?turn2 ?done2
  case turn2 =>
   clear hR hF hN
   intro c2 pre2 k t2 u2 h2 tk2 own2 hk2 hlen2 hoff2 hf2 hP2 F' N'
   k_steps
   ·rename_i hF hN _ hc
    refine inv_end () hF hN (fun p hp => maL _ hp) (fun p hp => maR _ hp) rfl trivial (fn0 _) (fun z hz _ _ => by rw [if_neg hz]; rfl) ?_
    intro k' h1 h3
    by_cases he : k' = k
    ·subst he; unfold occ; rw [hc]; rfl
    exact hP2 k' h1 (by simp at h3; lia)
   rename_i hc _ _ _ _ l' _ _ _ hl kF kN _ _
   refine hret l' _ _ _ _ _ _ _ _ ?_ kF (nsub kN (fc1 ⟨.head _, fun p hp => .tail _ (maL _ (maL _ hp))⟩)) (fun p hp => hl p (maL _ (maL _ hp)))
   refine .inr ⟨by lia, by lia, by lia, by lia, by unfold occ; rw [hc]; rfl, rfl, fun k' h1 h2 => hP2 k' h1 (by lia), fun r h1 h2 => hP r (by lia) h2⟩
  clear hR hF hN
  intro c2 u2 h2 tk2 hf2 hP2 F' N'
  k_steps
  refine inv_end () F' N' (fun p hp => maL _ hp) (fun p hp => maR _ hp) rfl trivial (fn0 _) (fun z hz _ hs => ?_) ?_
  ·have hk' : z ≠ Str.ofString "k" := ne_rev hs (by decide)
   simp only [kstB, List.contains_nil, Bool.false_eq_true, if_false, if_neg hk', if_neg hz, hs]
  intro r h1 h2
  by_cases he : r = run
  ·subst he
   intro k h3 h4
   exact hP2 k h3 (by rw [rangeKs_length]; lia)
  exact hP r (by simp at h1; lia) h2
 clear hR hF hN
 intro c u h tk hf hP F' N'
 k_steps
 rename_i l' _ _ _ hl kF kN _ _
 exact hret l' _ _ _ _ _ _ _ _ (.inl ⟨rfl, rfl, rfl, fun r h1 h2 => hP r (by rw [downKs_length]; lia) h2⟩) kF kN hl
section
open PySem.StrLaws
theorem take_drop_iff {l m : List Nat} : ∀ {n p k : Nat}, p + n ≤ l.length → k + n ≤ m.length → ((l.drop p).take n = (m.drop k).take n ↔ ∀ t, t < n → l[p + t]? = m[k + t]?) := by
 intro n p k h1 h2
 constructor
 ·intro h t ht
  have := congrArg (fun z => z[t]?) h
  simp only [List.getElem?_take, if_pos ht, List.getElem?_drop] at this
  exact this
 intro h
 apply List.ext_getElem?
 intro t
 rw [List.getElem?_take, List.getElem?_take]
 by_cases ht : t < n
 ·rw [if_pos ht, if_pos ht, List.getElem?_drop, List.getElem?_drop]; exact h t ht
 rw [if_neg ht, if_neg ht]
theorem slice_list {x : Str} {k run : Int} (h0 : 0 ≤ k) (h1 : 0 ≤ run) (h2 : k + run ≤ x.length) : Txt.slice x (some k) (some (k + run)) = ⟨((x.cps.toList.drop k.toNat).take run.toNat).toArray⟩ := by
 have : Txt.slice x (some k) (some (k + run)) = sliceText x (some k) (some (k + run)) := rfl
 rw [this, sliceText_plain ⟨h0, Int.le_add_of_nonneg_right h1, h2⟩, show k + run - k = run by rw [Int.add_comm]; exact Int.add_sub_cancel run k]
theorem at_iff {x y : Str} {k run : Int} (h0 : 0 ≤ k) (h1 : 0 ≤ run) (h2 : k + run ≤ x.length) (p : Nat) : At y (Txt.slice x (some k) (some (k + run))) y.length p ↔ (p : Int) + run ≤ y.length ∧ RunAt x y k p run := by
 obtain ⟨k, rfl⟩ := Int.eq_ofNat_of_zero_le h0
 obtain ⟨run, rfl⟩ := Int.eq_ofNat_of_zero_le h1
 have h3 : k + run ≤ x.cps.toList.length := Int.ofNat_le.mp h2
 have hlen : (Txt.slice x (some (k : Int)) (some ((k : Int) + (run : Int)))).length = run := by
  rw [slice_list h0 h1 h2]
  show (List.toArray _).size = _
  rw [List.size_toArray, List.length_take, List.length_drop]
  exact Nat.min_eq_left (Nat.le_sub_of_add_le (by rw [Nat.add_comm]; exact h3))
 unfold At
 rw [subAt_eq, hlen, slice_list h0 h1 h2, beq_iff_eq]
 show p + run ≤ y.cps.toList.length ∧ _ = (x.cps.toList.drop k).take run ↔ _
 constructor
 ·rintro ⟨a, b⟩
  refine ⟨Int.ofNat_le.mpr a, ?_⟩
  rw [take_drop_iff a h3] at b
  intro t t0 t1
  obtain ⟨t, rfl⟩ := Int.eq_ofNat_of_zero_le t0
  have t2 : t < run := Int.ofNat_lt.mp t1
  have := b t t2
  have hlt : k + t < x.cps.size := Nat.lt_of_lt_of_le (Nat.add_lt_add_left t2 k) h3
  refine ⟨x.cps[k + t], Array.getElem?_eq_getElem hlt, ?_⟩
  simp only [Array.getElem?_toList] at this
  exact this.trans (Array.getElem?_eq_getElem hlt)
 rintro ⟨a, b⟩
 have a : p + run ≤ y.cps.toList.length := Int.ofNat_le.mp a
 refine ⟨a, ?_⟩
 rw [take_drop_iff a h3]
 intro t ht
 refine el1_2 (b t (Int.natCast_nonneg t) (Int.ofNat_lt.mpr ht)) ?_; intro c c1 c2
 simp only [Array.getElem?_toList]
 exact c2.trans c1.symm
theorem occ_iff {x y : Str} {k run : Int} (h0 : 0 ≤ k) (h1 : 0 ≤ run) (h2 : k + run ≤ x.length) : occ x y k run = true ↔ ∃ p : Nat, (p : Int) + run ≤ y.length ∧ RunAt x y k p run := by
 unfold occ
 rw [found_iff]
 constructor
 ·rintro ⟨p, hp⟩
  exact ⟨p, (at_iff h0 h1 h2 p).mp hp⟩
 rintro ⟨p, hp⟩
 exact ⟨p, (at_iff h0 h1 h2 p).mpr hp⟩
theorem find_first {x y : Str} {k run : Int} (h0 : 0 ≤ k) (h1 : 0 ≤ run) (h2 : k + run ≤ x.length) {p : Nat} (hp : (p : Int) + run ≤ y.length) (hr : RunAt x y k p run) (hmin : ∀ q : Nat, (q : Int) + run ≤ y.length → RunAt x y k q run → p ≤ q) : Txt.find y (Txt.slice x (some k) (some (k + run))) = p := by
 unfold Txt.find
 rcases occ_head y (Txt.slice x (some k) (some (k + run))) 1 (Nat.le_refl _) with ⟨_, hn⟩ | ⟨i, r, e, hi, hlt⟩
 ·exact absurd ((at_iff h0 h1 h2 p).mpr ⟨hp, hr⟩) (hn p)
 rw [e]
 show (i : Int) = p
 have a1 := (at_iff h0 h1 h2 i).mp hi
 have a2 := hmin i a1.1 a1.2
 rcases Nat.lt_or_ge p i with h | h
 ·exact absurd ((at_iff h0 h1 h2 p).mpr ⟨hp, hr⟩) (hlt p h)
 lia
theorem runAt_nonneg {x y : Str} {i j n : Int} (h : RunAt x y i j n) : RunAt x y i j n := h
theorem flmOk_long {x y : Str} {b : PB3} (h : FlmOk x y 0 x.length 0 y.length b) : LongRel x y b.bi b.bj b.bs := by
 have s0 := h.s0
 have i0 := h.i0
 have i1 := h.i1
 have j0 := h.j0
 have j1 := h.j1
 have no : ∀ r, b.bs < r → r ≤ (x.length : Int) → NoRun x y r := by
  intro r hr hl k k0 k1
  cases ho : occ x y k r with
  | false => rfl
  | true =>
   refine el1_2 ((occ_iff k0 (by lia) (by lia)).mp ho) ?_; intro p p1 p2
   have := h.most k p r k0 (by lia) (by lia) (by lia) p1 p2
   lia
 by_cases e : b.bs = 0
 ·refine el0_2 (h.none e) ?_; intro e1 e2
  exact .inl ⟨e1, e2, e, fun r h1 h2 => no r (by lia) h2⟩
 refine .inr ⟨by lia, by lia, i0, by lia, ?_, ?_, ?_, no⟩
 ·exact (occ_iff i0 s0 i1).mpr ⟨b.bj.toNat, by lia, by rw [show ((b.bj.toNat : Nat) : Int) = b.bj by lia]; exact h.run⟩
 ·refine ((find_first i0 s0 i1 (p := b.bj.toNat) (by lia) (by rw [show ((b.bj.toNat : Nat) : Int) = b.bj by lia]; exact h.run) ?_).trans (by lia)).symm
  intro q q1 q2
  have := h.first b.bi q i0 (by lia) (by lia) i1 q1 q2
  lia
 intro k' k0 k1
 cases ho : occ x y k' b.bs with
 | false => rfl
 | true =>
  refine el1_2 ((occ_iff k0 s0 (by lia)).mp ho) ?_; intro p p1 p2
  have := h.first k' p k0 (by lia) (by lia) (by lia) p1 p2
  lia
theorem flmOk_cut {x y xs ys : Str} {alo ahi blo bhi : Int} {b : PB3} (h : FlmOk x y alo ahi blo bhi b) (halo : 0 ≤ alo) (hblo : 0 ≤ blo) (hx : (xs.length : Int) = ahi - alo) (hy : (ys.length : Int) = bhi - blo)
  (hxs : ∀ t, 0 ≤ t → t < ahi - alo → xs.cps[t.toNat]? = x.cps[(alo + t).toNat]?) (hys : ∀ t, 0 ≤ t → t < bhi - blo → ys.cps[t.toNat]? = y.cps[(blo + t).toNat]?) :
  FlmOk xs ys 0 xs.length 0 ys.length ⟨b.bi - alo, b.bj - blo, b.bs⟩ := by
 have s0 := h.s0
 have i0 := h.i0
 have i1 := h.i1
 have j0 := h.j0
 have j1 := h.j1
 have conv : ∀ i j n, 0 ≤ i → 0 ≤ j → i + n ≤ ahi - alo → j + n ≤ bhi - blo → (RunAt xs ys i j n ↔ RunAt x y (alo + i) (blo + j) n) := by
  intro i j n a1 a2 a3 a4
  constructor
  ·intro hr t t0 t1
   refine el1_2 (hr t t0 t1) ?_; intro c c1 c2
   rw [hxs _ (by lia) (by lia)] at c1
   rw [hys _ (by lia) (by lia)] at c2
   exact ⟨c, by rw [show alo + i + t = alo + (i + t) by lia]; exact c1, by rw [show blo + j + t = blo + (j + t) by lia]; exact c2⟩
  intro hr t t0 t1
  refine el1_2 (hr t t0 t1) ?_; intro c c1 c2
  refine ⟨c, ?_, ?_⟩
  ·rw [hxs _ (by lia) (by lia), show alo + (i + t) = alo + i + t by lia]; exact c1
  rw [hys _ (by lia) (by lia), show blo + (j + t) = blo + j + t by lia]; exact c2
 refine ⟨s0, by show 0 ≤ b.bi - alo; lia, by show b.bi - alo + b.bs ≤ _; lia, by show 0 ≤ b.bj - blo; lia, by show b.bj - blo + b.bs ≤ _; lia, ?_, ?_, ?_, ?_⟩
 ·refine (conv _ _ _ (by show 0 ≤ b.bi - alo; lia) (by show 0 ≤ b.bj - blo; lia) (by show b.bi - alo + b.bs ≤ _; lia) (by show b.bj - blo + b.bs ≤ _; lia)).mpr ?_
  show RunAt x y (alo + (b.bi - alo)) (blo + (b.bj - blo)) b.bs
  rw [show alo + (b.bi - alo) = b.bi by lia, show blo + (b.bj - blo) = b.bj by lia]
  exact h.run
 ·intro e
  refine el0_2 (h.none e) ?_; intro e1 e2
  exact ⟨by show b.bi - alo = 0; lia, by show b.bj - blo = 0; lia⟩
 ·intro i j n a1 a2 a3 a4 a5 hr
  exact h.most (alo + i) (blo + j) n (by lia) (by lia) a3 (by lia) (by lia) ((conv i j n a1 a2 (by lia) (by lia)).mp hr)
 intro i j a1 a2 a3 a4 a5 hr
 have a4' : i + b.bs ≤ xs.length := a4
 have a5' : j + b.bs ≤ ys.length := a5
 have := h.first (alo + i) (blo + j) (by lia) (by lia) a3 (by lia) (by lia) ((conv i j b.bs a1 a2 (by lia) (by lia)).mp hr)
 show b.bi - alo < i ∨ (b.bi - alo = i ∧ b.bj - blo ≤ j)
 lia
theorem LongRel.uniq {x y : Str} {k pl rn k' pl' rn' : Int} (h : LongRel x y k pl rn) (h' : LongRel x y k' pl' rn') : k = k' ∧ pl = pl' ∧ rn = rn' := by
 rcases h with ⟨a1, a2, a3, a4⟩ | ⟨a1, a2, a3, a4, a5, a6, a7, a8⟩ <;> rcases h' with ⟨b1, b2, b3, b4⟩ | ⟨b1, b2, b3, b4, b5, b6, b7, b8⟩
 ·exact ⟨by lia, by lia, by lia⟩
 ·have := a4 rn' b1 b2 k' b3 b4
  rw [b5] at this; cases this
 ·have := b4 rn a1 a2 k a3 a4
  rw [a5] at this; cases this
 have e : rn = rn' := by
  rcases Int.lt_trichotomy rn rn' with h | h | h
  ·have := a8 rn' h b2 k' b3 b4
   rw [b5] at this; cases this
  ·exact h
  have := b8 rn h a2 k a3 a4
  rw [a5] at this; cases this
 subst e
 have e : k = k' := by
  rcases Int.lt_trichotomy k k' with h | h | h
  ·have := b7 k a3 h
   rw [a5] at this; cases this
  ·exact h
  have := a7 k' b3 h
  rw [b5] at this; cases this
 subst e
 exact ⟨rfl, a6.trans b6.symm, rfl⟩
end
section
open PySem.StrLaws
theorem cl_take_drop (x : Str) (c : Nat) : cl (ofL ((cl x).take c)) ++ cl (ofL ((cl x).drop c)) = cl x := List.take_append_drop c (cl x)
theorem step_cut {wl : List Str} {z c : Nat} (hz : ∀ x ∈ wl, x.cps.size = z) {x : Str} (hx : x ∈ wl) (h1 : 1 ≤ c) (h2 : c < z) : StepW wl z (ofL ((cl x).take c)) (ofL ((cl x).drop c)) := by
 have hl : (cl x).length = z := by rw [cl_size]; exact hz x hx
 refine ⟨x, hx, (cl_take_drop x c).symm, ?_, ?_⟩
 ·rw [cl_ofL, List.length_take]; exact Nat.le_min.mpr ⟨h1, by rw [hl]; exact Nat.le_trans h1 (Nat.le_of_lt h2)⟩
 rw [cl_ofL, List.length_take]; exact Nat.lt_of_le_of_lt (Nat.min_le_left _ _) h2
theorem step_join {wl : List Str} {z c : Nat} (hz : ∀ x ∈ wl, x.cps.size = z) {u v x : Str} (hu : u ∈ wl) (hx : x ∈ wl) (h1 : 1 ≤ c) (h2 : c < z) (h : cl x = (cl u).drop c ++ (cl v).take c) : StepW wl z (ofL ((cl u).drop c)) (ofL ((cl v).take c)) := by
 have hl : (cl u).length = z := by rw [cl_size]; exact hz u hu
 refine ⟨x, hx, h, ?_, ?_⟩
 ·rw [cl_ofL, List.length_drop, hl]; exact Nat.sub_pos_of_lt h2
 rw [cl_ofL, List.length_drop, hl]; exact Nat.sub_lt (Nat.lt_of_le_of_lt (Nat.zero_le c) h2) h1
theorem around_not {w : World} {wl : List Str} {z : Nat} {xa d n2 : Addr} {R : List (Addr × Obj)} {c : SS} (S : SOk w (stepsOf wl (z - 1)) xa d n2 R c) (hz : ∀ x ∈ wl, x.cps.size = z) (ha : AroundP wl z) : ∃ e ∈ c.ns, ¬ Acc (SuccR c.ns) e.nm := by
 refine el2_5 (around_ring hz ha) ?_; intro us k hne hus k1 k2 hnx
 refine el1_1 (List.exists_mem_of_ne_nil us hne) ?_; intro u0 hu0
 have hmem : ofL ((cl u0).take k) ∈ c.ns.map (·.nm) := (S.names _).mpr ⟨_, (mem_steps hz).mpr (step_cut hz (hus u0 hu0) k1 k2), .inl rfl⟩
 refine el1_2 (mm1 hmem) ?_; intro e he hn
 refine ⟨e, he, fun hacc => ?_⟩
 refine acc_round (es := stepsOf wl (z - 1)) (R := SuccR c.ns) (fun a b => S.succ a b) (P := fun p => ∃ u ∈ us, p = ofL ((cl u).take k) ∨ p = ofL ((cl u).drop k)) ?_ (a := e.nm) ⟨u0, hu0, .inl hn⟩ hacc
 rintro a ⟨u, hu, rfl | rfl⟩
 ·exact ⟨_, ⟨u, hu, .inr rfl⟩, (mem_steps hz).mpr (step_cut hz (hus u hu) k1 k2)⟩
 obtain ⟨v, hv, x, hx, hj⟩ := hnx u hu
 exact ⟨_, ⟨v, hv, .inl rfl⟩, (mem_steps hz).mpr (step_join hz (hus u hu) hx k1 k2 hj)⟩
theorem not_around {w : World} {wl : List Str} {z : Nat} {xa d n2 : Addr} {R : List (Addr × Obj)} {c : SS} (S : SOk w (stepsOf wl (z - 1)) xa d n2 R c) {e : NI} (he : e ∈ c.ns) (hn : ¬ Acc (SuccR c.ns) e.nm) (k : Nat) : ∃ b, b ∈ lv (stepsOf wl (z - 1)) k := by
 obtain ⟨b, hb, _⟩ := not_acc_lv (es := stepsOf wl (z - 1)) (R := SuccR c.ns) (fun a b => S.succ a b) (a := e.nm) (by rw [S.lv0]; exact mm2 ⟨e, he, rfl⟩) hn k
 exact ⟨b, hb⟩
theorem lv_around {wl : List Str} {z : Nat} (hz : ∀ x ∈ wl, x.cps.size = z) (h3 : wl.length ≤ 3) {b : Str} (hb : b ∈ lv (stepsOf wl (z - 1)) 7) : AroundP wl z := by
 refine el1_2 (lv_chain hb) ?_; intro x _ hx
 exact chain_around hz h3 fun i hi => (mem_steps hz).mp (hx i hi)
theorem smooth_around {w : World} {wl : List Str} {z : Nat} {xa d n2 : Addr} {R : List (Addr × Obj)} {c : SS} (S : SOk w (stepsOf wl (z - 1)) xa d n2 R c) (hz : ∀ x ∈ wl, x.cps.size = z) (h3 : wl.length ≤ 3) {sm b : Bool}
  (h1 : sm = true → ∀ e ∈ c.ns, Acc (SuccR c.ns) e.nm) (h2 : sm = false → ∃ e ∈ c.ns, ¬ Acc (SuccR c.ns) e.nm) (hb : b = true ↔ AroundP wl z) : b = !sm := by
 cases sm with
 | true =>
  cases b with
  | false => rfl
  | true =>
   refine el1_2 (around_not S hz (hb.mp rfl)) ?_; intro e he hn
   exact absurd (h1 rfl e he) hn
 | false =>
  refine el1_2 (h2 rfl) ?_; intro e he hn
  refine el1_1 (not_around S he hn 7) ?_; intro x hx
  exact hb.mpr (lv_around hz h3 hx)
theorem lv_stable {es : List (Str × Str)} {m : Nat} (h : ∀ b, b ∈ lv es m → b ∈ lv es (m + 1)) : ∀ (j : Nat) b, b ∈ lv es m → b ∈ lv es (m + j) := by
 have up : ∀ j, ∀ b, b ∈ lv es (m + j) → b ∈ lv es (m + j + 1) := by
  intro j
  induction j with
  | zero => exact h
  | succ j ih =>
   intro b hb
   refine el1_2 (lv_pred hb) ?_; intro f h1 h2
   exact lv_step h1 (ih f h2)
 intro j
 induction j with
 | zero => exact fun b hb => hb
 | succ j ih => exact fun b hb => up j b (ih b hb)
theorem groups_lv {w : World} {wl : List Str} {z : Nat} {xa d n2 : Addr} {R : List (Addr × Obj)} {c : SS} (S : SOk w (stepsOf wl (z - 1)) xa d n2 R c) (hz : ∀ x ∈ wl, x.cps.size = z) (h3 : wl.length ≤ 3) {sm : Bool}
  (h1 : sm = true → ∀ e ∈ c.ns, Acc (SuccR c.ns) e.nm) (h2 : sm = false → ∃ e ∈ c.ns, ¬ Acc (SuccR c.ns) e.nm) {m : Nat} (hst : ∀ b, b ∈ lv (stepsOf wl (z - 1)) (0 + m) → b ∈ lv (stepsOf wl (z - 1)) (0 + m + 1))
  (hlt : ∀ j, j < m → ∃ b, b ∈ lv (stepsOf wl (z - 1)) (0 + j) ∧ b ∉ lv (stepsOf wl (z - 1)) (0 + j + 1)) (n : Nat) : (sm = true ∧ m < n + 1) ↔ ¬ ∃ b, b ∈ lv (stepsOf wl (z - 1)) n := by
 rw [Nat.zero_add] at hst
 constructor
 ·rintro ⟨hs, hm⟩ ⟨b, hb⟩
  have hb2 := lv_stable hst 7 b (lv_mono (Nat.le_of_lt_succ hm) hb)
  have hb7 : b ∈ lv (stepsOf wl (z - 1)) 7 := lv_mono (Nat.le_add_left 7 m) hb2
  refine el1_2 (around_not S hz (lv_around hz h3 hb7)) ?_; intro e he hn
  exact hn (h1 hs e he)
 intro hno
 constructor
 ·cases sm with
  | true => rfl
  | false =>
   refine el1_2 (h2 rfl) ?_; intro e he hn
   exact absurd (not_around S he hn n) hno
 apply Classical.byContradiction
 intro hc
 refine el1_2 (hlt n (Nat.not_lt.mp hc)) ?_; intro b hb _
 rw [Nat.zero_add] at hb
 exact hno ⟨b, hb⟩
theorem lv3_iff {wl : List Str} {z : Nat} (hz : ∀ x ∈ wl, x.cps.size = z) : (∃ b, b ∈ lv (stepsOf wl (z - 1)) 3) ↔ ∃ x ∈ wl, ∃ one ∈ wl, ∃ two ∈ wl, ∃ c, 1 ≤ c ∧ c < z ∧ cl x = (cl one).drop c ++ (cl two).take c := by
 constructor
 ·rintro ⟨b, hb⟩
  refine el1_2 (lv_chain hb) ?_; intro x _ hx
  have e0 := (mem_steps hz).mp (hx 0 (by decide))
  have e1 := (mem_steps hz).mp (hx 1 (by decide))
  have e2 := (mem_steps hz).mp (hx 2 (by decide))
  have l0 := chain_len hz e0
  have l1 := chain_len hz e1
  refine el1_4 (e0) ?_; (try clear e0); intro one ho q1 q2 q3
  refine el1_4 (e1) ?_; (try clear e1); intro y hy r1 r2 r3
  refine el1_4 (e2) ?_; (try clear e2); intro two ht s1 s2 s3
  refine ⟨y, hy, one, ho, two, ht, (cl (x 0)).length, q2, q3, ?_⟩
  have l2 : (cl (x (1 + 1))).length = (cl (x 0)).length := by
   have l0' : (cl (x 0)).length + (cl (x 1)).length = z := l0
   exact Nat.add_left_cancel (l1.trans (l0'.symm.trans (Nat.add_comm _ _)))
  rw [r1, q1, List.drop_left, s1, ← l2, List.take_left' rfl]
 rintro ⟨y, hy, one, ho, two, ht, c, c1, c2, h⟩
 have h0 : ofL ((cl one).take c) ∈ lv (stepsOf wl (z - 1)) 0 := (gAll_mem _ [] _).mpr (.inr ⟨_, (mem_steps hz).mpr (step_cut hz ho c1 c2), .inl rfl⟩)
 exact ⟨_, lv_step ((mem_steps hz).mpr (step_cut hz ht c1 c2)) (lv_step ((mem_steps hz).mpr (step_join hz ho hy c1 c2 h)) (lv_step ((mem_steps hz).mpr (step_cut hz ho c1 c2)) h0))⟩
theorem lv2_iff {wl : List Str} {z : Nat} (hz : ∀ x ∈ wl, x.cps.size = z) : (∃ b, b ∈ lv (stepsOf wl (z - 1)) 2) ↔ ∃ one ∈ wl, ∃ two ∈ wl, ∃ c, 1 ≤ c ∧ c < z ∧ (cl one).drop (z - c) = (cl two).take c := by
 constructor
 ·rintro ⟨b, hb⟩
  refine el1_2 (lv_chain hb) ?_; intro x _ hx
  have e0 := (mem_steps hz).mp (hx 0 (by decide))
  have e1 := (mem_steps hz).mp (hx 1 (by decide))
  have l0 : (cl (x 0)).length + (cl (x 1)).length = z := chain_len hz e0
  refine el1_4 (e0) ?_; (try clear e0); intro one ho q1 q2 q3
  refine el1_4 (e1) ?_; (try clear e1); intro two ht r1 r2 r3
  have r1' : cl two = cl (x 1) ++ cl (x 2) := r1
  refine ⟨one, ho, two, ht, (cl (x 1)).length, by rw [← l0] at q3; exact Nat.pos_of_lt_add_right q3, by rw [← l0]; exact Nat.lt_add_of_pos_left q2, ?_⟩
  have q1' : cl one = cl (x 0) ++ cl (x 1) := q1
  rw [q1', r1', List.take_left' rfl, show z - (cl (x 1)).length = (cl (x 0)).length by rw [← l0]; exact Nat.add_sub_cancel _ _, List.drop_left]
 rintro ⟨one, ho, two, ht, c, c1, c2, h⟩
 have s1 := step_cut hz ho (Nat.sub_pos_of_lt c2) (Nat.sub_lt (Nat.lt_of_le_of_lt (Nat.zero_le c) c2) c1)
 have h0 : ofL ((cl one).take (z - c)) ∈ lv (stepsOf wl (z - 1)) 0 := (gAll_mem _ [] _).mpr (.inr ⟨_, (mem_steps hz).mpr s1, .inl rfl⟩)
 rw [h] at s1
 exact ⟨_, lv_step ((mem_steps hz).mpr (step_cut hz ht c1 c2)) (lv_step ((mem_steps hz).mpr s1) h0)⟩
theorem run_list {x y : Str} {i j n : Nat} (hi : i + n ≤ x.length) (hj : j + n ≤ y.length) : RunAt x y i j n ↔ ((cl x).drop i).take n = ((cl y).drop j).take n := by
 constructor
 ·intro h
  apply List.ext_getElem?
  intro t
  rw [List.getElem?_take, List.getElem?_take]
  by_cases ht : t < n
  ·rw [if_pos ht, if_pos ht, List.getElem?_drop, List.getElem?_drop]
   refine el1_2 (h (t : Int) (Int.natCast_nonneg t) (Int.ofNat_lt.mpr ht)) ?_; intro ch h1 h2
   have h1 : x.cps[i + t]? = some ch := h1
   have h2 : y.cps[j + t]? = some ch := h2
   rw [← Array.getElem?_toList] at h1 h2
   exact h1.trans h2.symm
  rw [if_neg ht, if_neg ht]
 intro h t t0 t1
 obtain ⟨t, rfl⟩ := Int.eq_ofNat_of_zero_le t0
 have t2 : t < n := Int.ofNat_lt.mp t1
 have h9 := congrArg (fun l => l[t]?) h
 simp only [List.getElem?_take, List.getElem?_drop] at h9
 rw [if_pos t2, if_pos t2] at h9
 have hlt : i + t < (cl x).length := by rw [cl_len]; exact Nat.lt_of_lt_of_le (Nat.add_lt_add_left t2 i) hi
 refine ⟨(cl x)[i + t], ?_, ?_⟩
 ·show x.cps[i + t]? = _
  rw [← Array.getElem?_toList]
  exact List.getElem?_eq_getElem hlt
 show y.cps[j + t]? = _
 rw [← Array.getElem?_toList]
 exact h9.symm.trans (List.getElem?_eq_getElem hlt)
theorem le0_of {a b : Int} (h : a + b ≤ b) : a ≤ 0 := Int.le_of_add_le_add_right (by rw [Int.zero_add]; exact h)
theorem flm_full {x y : Str} {b : PB3} (h : FlmOk x y 0 x.length 0 y.length b) (h1 : 1 ≤ x.length) : b.bs = x.length ↔ cl x <:+: cl y := by
 have i1 := h.i1
 have j1 := h.j1
 constructor
 ·intro e
  rw [e] at i1 j1
  have hr := h.run
  obtain ⟨J, hJ⟩ := Int.eq_ofNat_of_zero_le h.j0
  rw [Int.le_antisymm (le0_of i1) h.i0, hJ, e] at hr
  rw [hJ] at j1
  have h9 := (run_list (i := 0) (j := J) (n := x.length) (Nat.le_of_eq (Nat.zero_add _)) (Int.ofNat_le.mp j1)).mp hr
  rw [List.drop_zero, List.take_of_length_le (by rw [cl_len]; exact Nat.le_refl _)] at h9
  refine ⟨(cl y).take J, ((cl y).drop J).drop x.length, ?_⟩
  rw [h9, List.append_assoc, List.take_append_drop, List.take_append_drop]
 rintro ⟨s, t, e⟩
 have hl : s.length + x.length ≤ y.length := by
  rw [← cl_len x, ← cl_len y, ← e, List.length_append, List.length_append]
  exact Nat.le_add_right _ _
 have hr : RunAt x y ((0 : Nat) : Int) ((s.length : Nat) : Int) ((x.length : Nat) : Int) := by
  refine (run_list (Nat.le_of_eq (Nat.zero_add _)) hl).mpr ?_
  rw [← e, List.append_assoc, List.drop_left, List.drop_zero, ← cl_len x, List.take_left' rfl, List.take_length]
 have := h.most 0 s.length x.length (Int.le_refl 0) (Int.natCast_nonneg _) (Int.ofNat_le.mpr h1) (Int.le_of_eq (Int.zero_add _)) (Int.ofNat_le.mpr hl) hr
 exact Int.le_antisymm (Int.le_trans (Int.le_add_of_nonneg_left h.i0) i1) this
theorem flm_part {x y : Str} {z c : Nat} {b : PB3} (hx : x.length = z) (hy : y.length = z) (c1 : 1 ≤ c) (c2 : c < z) (h : FlmOk x y ((z : Int) - c) z 0 c b) : b.bs = c ↔ (cl x).drop (z - c) = (cl y).take c := by
 have c3 := Nat.le_of_lt c2
 have ez : ((z - c : Nat) : Int) = (z : Int) - c := Int.ofNat_sub c3
 have i1 := h.i1
 have j1 := h.j1
 have key : RunAt x y ((z - c : Nat) : Int) ((0 : Nat) : Int) (c : Int) ↔ (cl x).drop (z - c) = (cl y).take c := by
  rewrite [run_list (by rw [Nat.sub_add_cancel c3]; exact Nat.le_of_eq hx.symm) (by rw [Nat.zero_add, hy]; exact c3), List.take_of_length_le (by rw [List.length_drop, cl_len, hx, Nat.sub_sub_self c3]; exact Nat.le_refl _)]
  exact Iff.rfl
 constructor
 ·intro e
  have hr := h.run
  rw [e] at i1 j1 hr
  rw [Int.le_antisymm (Int.le_sub_right_of_add_le i1) h.i0, Int.le_antisymm (le0_of j1) h.j0, ← ez] at hr
  exact key.mp hr
 intro e
 have := h.most ((z - c : Nat) : Int) ((0 : Nat) : Int) c (Int.le_of_eq ez.symm) (Int.le_refl 0) (Int.ofNat_le.mpr c1) (Int.le_of_eq (by rw [ez]; exact Int.sub_add_cancel _ _)) (Int.le_of_eq (Int.zero_add _)) (key.mpr e)
 exact Int.le_antisymm (Int.le_trans (Int.le_add_of_nonneg_left h.j0) j1) this
theorem cut_long {x y : Str} {z c : Nat} {b : PB3} (hx : x.length = z) (hy : y.length = z) (c1 : 1 ≤ c) (c2 : c < z) (h : FlmOk x y ((z : Int) - c) z 0 c b) :
  LongRel (Txt.slice x (some ((z : Int) - c)) none) (Txt.slice y none (some (c : Int))) (b.bi - ((z : Int) - c)) b.bj b.bs := by
 have c3 := Nat.le_of_lt c2
 have ez : (z : Int) - c = ((z - c : Nat) : Int) := (Int.ofNat_sub c3).symm
 have l1 : cl (Txt.slice x (some ((z : Int) - c)) none) = (cl x).drop (z - c) := by rw [ez, slice_drop (by rw [hx]; exact Nat.sub_le _ _)]
 have l2 : cl (Txt.slice y none (some (c : Int))) = (cl y).take c := slice_take (by rw [hy]; exact c3)
 have n1 : ((Txt.slice x (some ((z : Int) - c)) none).length : Int) = z - ((z : Int) - c) := by
  rw [← cl_len, l1, List.length_drop, cl_len, hx, Nat.sub_sub_self c3, Int.sub_sub_self]
 have n2 : ((Txt.slice y none (some (c : Int))).length : Int) = c - 0 := by
  rw [← cl_len, l2, List.length_take, cl_len, hy, Nat.min_eq_left c3, Int.sub_zero]
 have h9 := flmOk_long (flmOk_cut h (Int.sub_nonneg_of_le (Int.ofNat_le.mpr c3)) (Int.le_refl 0) n1 n2 (fun t t0 t1 => ?_) (fun t t0 t1 => ?_))
 ·dsimp only at h9
  rw [Int.sub_zero] at h9
  exact h9
 ·obtain ⟨t, rfl⟩ := Int.eq_ofNat_of_zero_le t0
  have e2 : ((z : Int) - c + (t : Int)).toNat = z - c + t := by rw [ez]; rfl
  rw [← Array.getElem?_toList, ← Array.getElem?_toList, e2]
  show (cl _)[t]? = (cl x)[_]?
  rw [l1, List.getElem?_drop]
 obtain ⟨t, rfl⟩ := Int.eq_ofNat_of_zero_le t0
 have e2 : ((0 : Int) + (t : Int)).toNat = t := by rw [Int.zero_add]; rfl
 rw [Int.sub_zero] at t1
 rw [← Array.getElem?_toList, ← Array.getElem?_toList, e2]
 show (cl _)[t]? = (cl y)[_]?
 rw [l2, List.getElem?_take, if_pos (Int.ofNat_lt.mp t1)]
theorem ex_take {P : Str → Prop} {wl : List Str} {i : Nat} {x : Str} (hx : wl[i]? = some x) : (∃ y ∈ wl.take (i + 1), P y) ↔ (∃ y ∈ wl.take i, P y) ∨ P x := by
 rw [List.take_add_one, hx]
 constructor
 ·rintro ⟨y, hy, h⟩
  refine ast hy (fun hy => ?_) fun hy => ?_
  ·exact .inl ⟨y, hy, h⟩
  have : y = x := by simpa using hy
  exact .inr (this ▸ h)
 rintro (⟨y, hy, h⟩ | h)
 ·exact ⟨y, maL _ hy, h⟩
 exact ⟨x, maR _ (by simp), h⟩
def MeetAt (z : Nat) (a b : Str) (t : Nat) : Prop := (cl a).drop (z - t) = (cl b).take t
def MeetP (z : Nat) (a b : Str) : Prop := ∃ t, 1 ≤ t ∧ t < z ∧ MeetAt z a b t
theorem infix_bar {w p T : List Nat} (hw : 124 ∉ w) (h : w <:+: p ++ 124 :: T) : w <:+: p ∨ w <:+: T := by
 refine el2_1 (h) ?_; (try clear h); intro s t e
 rcases List.append_eq_append_iff.mp e with ⟨a, h1, h2⟩ | ⟨a, h1, h2⟩
 ·exact .inl ⟨s, a, h1.symm⟩
 cases a with
 | nil =>
  rw [List.append_nil] at h1
  exact .inl ⟨s, [], by rw [List.append_nil]; exact h1⟩
 | cons a0 a =>
  rw [List.cons_append] at h2
  refine el0_2 (List.cons.inj h2) ?_; intro e90 h2'; subst e90
  rcases List.append_eq_append_iff.mp h1 with ⟨b, g1, g2⟩ | ⟨b, g1, g2⟩
  ·exact absurd (show (124 : Nat) ∈ w by rw [g2]; exact maR _ (.head _)) hw
  cases b with
  | nil => exact absurd (show (124 : Nat) ∈ w by rw [← List.nil_append w, ← g2]; exact .head _) hw
  | cons b0 b =>
   rw [List.cons_append] at g2
   refine el0_2 (List.cons.inj g2) ?_; intro _ g2'
   exact .inr ⟨b, t, by rw [h2', g2', List.append_assoc]⟩
theorem infix_bars {w : List Nat} (hw : 124 ∉ w) : ∀ (r : List Str) (p : List Nat), w <:+: p ++ r.flatMap (fun q => 124 :: cl q) → w <:+: p ∨ ∃ q ∈ r, w <:+: cl q
 | [], p, h => by simpa using h
 | q :: r, p, h => by
  rw [List.flatMap_cons, List.cons_append] at h
  rcases infix_bar hw h with h | h
  ·exact .inl h
  rcases infix_bars hw r (cl q) h with h | ⟨q', h1, h2⟩
  ·exact .inr ⟨q, .head _, h⟩
  exact .inr ⟨q', .tail _ h1, h2⟩
theorem bars_infix : ∀ (r : List Str) (p : List Nat) {q : Str}, q ∈ r → cl q <:+: p ++ r.flatMap (fun q => 124 :: cl q)
 | q0 :: r, p, q, h => by
  rw [List.flatMap_cons]
  refine asp h ?_ fun h => ?_
  ·exact ⟨p ++ [124], r.flatMap (fun q => 124 :: cl q), by simp⟩
  have ih := bars_infix r (124 :: cl q0) h
  refine el2_1 (ih) ?_; (try clear ih); intro s t e
  exact ⟨p ++ s, t, by rw [List.append_assoc, List.append_assoc, ← List.append_assoc s, e]⟩
theorem glued_cl (p : Str) : ∀ (r : List Str) (acc : Array Nat), cl ⟨r.foldl (fun acc q => acc ++ (Str.ofString "|").cps ++ q.cps) acc⟩ = acc.toList ++ r.flatMap (fun q => 124 :: cl q)
 | [], acc => (List.append_nil _).symm
 | q :: r, acc => by
  rw [List.foldl_cons, glued_cl p r]
  have e : (Str.ofString "|").cps.toList = [124] := by decide +kernel
  rw [Array.toList_append, Array.toList_append, e, List.flatMap_cons]
  simp
theorem infix_join {w : List Nat} (hw : 124 ∉ w) (hne : w ≠ []) (l : List Str) : w <:+: cl (PySem.Txt.join (Str.ofString "|") l) ↔ ∃ q ∈ l, w <:+: cl q := by
 cases l with
 | nil =>
  show w <:+: [] ↔ _
  constructor
  ·intro h
   exact absurd (List.infix_nil.mp h) hne
  rintro ⟨q, hq, _⟩
  exact absurd hq List.not_mem_nil
 | cons p r =>
  have e : cl (PySem.Txt.join (Str.ofString "|") (p :: r)) = cl p ++ r.flatMap (fun q => 124 :: cl q) := by
   show cl ⟨r.foldl (fun acc q => acc ++ (Str.ofString "|").cps ++ q.cps) p.cps⟩ = _
   rw [glued_cl p r]
  rw [e]
  constructor
  ·intro h
   rcases infix_bars hw r _ h with h | ⟨q, h1, h2⟩
   ·exact ⟨p, .head _, h⟩
   exact ⟨q, .tail _ h1, h2⟩
  rintro ⟨q, hq, h⟩
  rcases mc1 hq with rfl | hq
  ·exact h.trans ⟨[], r.flatMap (fun q => 124 :: cl q), by simp⟩
  exact h.trans (bars_infix r _ hq)
theorem join_bar_len {B : Nat} {l : List Str} (h : ∀ x ∈ l, x.length ≤ B) : (PySem.Txt.join (Str.ofString "|") l).length ≤ l.length * (B + 1) := by
 cases l with
 | nil => exact Nat.zero_le _
 | cons p r =>
  have e : cl (PySem.Txt.join (Str.ofString "|") (p :: r)) = cl p ++ r.flatMap (fun q => 124 :: cl q) := by
   show cl ⟨r.foldl (fun acc q => acc ++ (Str.ofString "|").cps ++ q.cps) p.cps⟩ = _
   rw [glued_cl p r]
  have hr : ∀ l : List Str, (∀ x ∈ l, x.length ≤ B) → (l.flatMap (fun q => 124 :: cl q)).length ≤ l.length * (B + 1) := by
   intro l
   induction l with
   | nil => intro _; exact Nat.zero_le _
   | cons a l ih =>
    intro hl
    have h1 := hl a (.head _)
    have h2 := ih fun x hx => hl x (.tail _ hx)
    rw [List.flatMap_cons, List.length_append, List.length_cons, cl_len, List.length_cons, Nat.succ_mul, Nat.add_comm]
    exact Nat.add_le_add h2 (Nat.succ_le_succ h1)
  have h1 := h p (.head _)
  have h2 := hr r fun x hx => h x (.tail _ hx)
  rw [← cl_len, e, List.length_append, cl_len, List.length_cons, Nat.succ_mul, Nat.add_comm]
  exact Nat.add_le_add h2 (Nat.le_succ_of_le h1)
theorem ip1 {s z t : Nat} (hz : 2 ≤ z) (h : s + z + t = 2 * z - 2) : s + 1 < z := by
 have h3 := Nat.add_le_of_le_sub (Nat.le_trans hz (Nat.le_mul_of_pos_left z (by decide))) (h ▸ Nat.le_add_right (s + z) t : s + z ≤ 2 * z - 2)
 rw [Nat.two_mul, Nat.add_right_comm] at h3
 exact Nat.le_of_add_le_add_right h3
theorem ip2 {c z : Nat} (h1 : 1 ≤ c) (h2 : c < z) : c - 1 + z ≤ 2 * z - 2 := by
 cases c with
 | zero => cases h1
 | succ a =>
  show a + z ≤ _
  rw [Nat.two_mul, Nat.add_comm a z]
  exact Nat.le_sub_of_add_le (Nat.add_le_add_left h2 z)
theorem ip3 {c z : Nat} (h1 : 1 ≤ c) : 2 * z - 2 - (c - 1 + z) = z - c - 1 := by
 cases c with
 | zero => cases h1
 | succ a =>
  show 2 * z - 2 - (a + z) = _
  rw [Nat.sub_sub, Nat.sub_sub, Nat.two_mul, show 2 + (a + z) = z + (a + 1 + 1) by rw [Nat.add_comm 2, Nat.add_comm a z]; rfl, Nat.add_sub_add_left]
theorem inner_piece {z : Nat} {w one two : List Nat} (h1 : one.length = z) (h2 : two.length = z) (hw : w.length = z) (hz : 2 ≤ z) : w <:+: ((one ++ two).drop 1).take (2 * z - 2) ↔ ∃ c, 1 ≤ c ∧ c < z ∧ w = one.drop c ++ two.take c := by
 constructor
 ·rintro ⟨s, t, e⟩
  have hl : s.length + z + t.length = 2 * z - 2 := by
   have := congrArg List.length e
   rw [List.length_append, List.length_append, List.length_take, List.length_drop, List.length_append, hw, h1, h2, ip0] at this
   exact this
  have hs := ip1 hz hl
  refine ⟨s.length + 1, Nat.le_add_left 1 _, hs, ?_⟩
  have e2 := congrArg (fun l => (l.drop s.length).take z) e
  rw [List.append_assoc, List.drop_left, List.take_left' hw, List.drop_take, List.drop_drop, List.take_take, Nat.min_eq_left (Nat.le_sub_of_add_le (by rw [← hl, Nat.add_comm z]; exact Nat.le_add_right _ _)), Nat.add_comm 1 s.length, List.drop_append_of_le_length (by rw [h1]; exact Nat.le_of_lt hs), List.take_append, List.take_of_length_le (by rw [List.length_drop, h1]; exact Nat.sub_le _ _)] at e2
  rw [e2]
  congr 1
  rw [List.length_drop, h1, Nat.sub_sub_self (Nat.le_of_lt hs)]
 rintro ⟨c, c1, c2, rfl⟩
 refine ⟨(one.take c).drop 1, (two.drop c).take (z - c - 1), ?_⟩
 have e1 : (one ++ two).drop 1 = (one.take c).drop 1 ++ (one.drop c ++ two.take c) ++ two.drop c := by
  conv => lhs; rw [← List.take_append_drop c one, ← List.take_append_drop c two]
  rw [List.append_assoc, List.drop_append_of_le_length (by rw [List.length_take, h1, Nat.min_eq_left (Nat.le_of_lt c2)]; exact c1)]
  simp only [List.append_assoc]
 have hl : ((one.take c).drop 1 ++ (one.drop c ++ two.take c)).length = c - 1 + z := by
  rw [List.length_append, List.length_append, List.length_drop, List.length_take, List.length_drop, List.length_take, h1, h2, Nat.min_eq_left (Nat.le_of_lt c2), Nat.sub_add_cancel (Nat.le_of_lt c2)]
 rw [e1, List.take_append, List.take_of_length_le (l := (one.take c).drop 1 ++ (one.drop c ++ two.take c)) (by rw [hl]; exact ip2 c1 c2), hl, ip3 c1]
end
section
open PySem.StrLaws
theorem okW_bar {x : Str} (h : okW x = true) : 124 ∉ cl x := by
 intro hm
 unfold okW at h
 rw [Array.all_eq_true'] at h
 exact absurd (of_decide_eq_true (h 124 (Array.mem_toList_iff.mp hm))) (Nat.lt_irrefl _)
theorem across_iff {wl : List Str} {z : Nat} (hz : ∀ x ∈ wl, x.cps.size = z) (z2 : 2 ≤ z) (hw : ∀ x ∈ wl, okW x = true) : (∃ x, x ∈ wl ∧ cl x <:+: cl (PySem.Txt.join (Str.ofString "|") (pieces wl))) ↔ ∃ b, b ∈ lv (stepsOf wl (z - 1)) 3 := by
 rw [lv3_iff hz]
 refine exists_congr fun x => and_congr_right fun hx => ?_
 have hl : (cl x).length = z := by rw [cl_size]; exact hz x hx
 rw [infix_join (okW_bar (hw x hx)) (by intro e; rw [e] at hl; simp at hl; omega)]
 constructor
 ·rintro ⟨q, hq, h⟩
  refine el1_2 (List.mem_flatMap.mp hq) ?_; intro a ha hq
  refine el1_2 (mm1 hq) ?_; intro b hb e92; subst e92
  rw [pcS_cl (hz a ha) (hz b hb) z2, inner_piece (by rw [cl_size]; exact hz a ha) (by rw [cl_size]; exact hz b hb) hl z2] at h
  exact ⟨a, ha, b, hb, h⟩
 rintro ⟨a, ha, b, hb, h⟩
 refine ⟨pcS a b, List.mem_flatMap.mpr ⟨a, ha, mm2 ⟨b, hb, rfl⟩⟩, ?_⟩
 rw [pcS_cl (hz a ha) (hz b hb) z2, inner_piece (by rw [cl_size]; exact hz a ha) (by rw [cl_size]; exact hz b hb) hl z2]
 exact h
theorem meets_iff {wl : List Str} {z : Nat} (hz : ∀ x ∈ wl, x.cps.size = z) : (∃ a, a ∈ wl ∧ ∃ b, b ∈ wl ∧ MeetP z a b) ↔ ∃ b, b ∈ lv (stepsOf wl (z - 1)) 2 := (lv2_iff hz).symm
theorem bool_join {sm c : Bool} {m n : Nat} {P : Prop} (h1 : c = true ↔ P) (h2 : (sm = true ∧ m < n) ↔ ¬ P) : c = !(sm && decide (m < n)) := by
 cases c with
 | true =>
  have hp := h1.mp rfl
  cases sm with
  | false => rfl
  | true =>
   have : ¬ m < n := fun h => h2.mp ⟨rfl, h⟩ hp
   rw [decide_eq_false this]; rfl
 | false =>
  refine el0_2 (h2.mpr fun hp => nomatch h1.mpr hp) ?_; intro e hm
  rw [e, decide_eq_true hm]; rfl
end
structure OS where
 b : PB3
 t1 : Tok
 t2 : Tok
 t3 : Tok
 jd : Addr
 jo : Obj
 jl : JL
structure IS where
 b : PB3
 t1 : Tok
 t2 : Tok
 t3 : Tok
 no : Obj
 nl : JL
theorem rangeL_drop {a b : Int} {i : Nat} (h : i < (b - a).toNat) : (rangeL a b).drop i = (a + (i : Int)) :: (rangeL a b).drop (i + 1) := by
 have e : (rangeL a b)[i]? = some (a + (i : Int)) := by
  unfold rangeL
  rw [List.getElem?_map, List.getElem?_range h]
  rfl
 refine el1_1 (List.getElem?_eq_some_iff.mp e) ?_; intro hl he
 rw [List.drop_eq_getElem_cons hl, he]
theorem tp_brk {h₀ : Heap} {L : Addr} {wr : List Addr} {own : List (Addr × Obj)} {J : (Str → Option Value) → List (Addr × Obj) → Prop} {s₁ s₂ : Shared} {Q : Flow → Shared → Prop} (h : Q .next s₂) : TurnPost h₀ L wr own J s₁ Q .brk s₂ := h
theorem item_same {x y : Str} {i j : Int} (i0 : 0 ≤ i) (i1 : i < x.length) (j0 : 0 ≤ j) (j1 : j < y.length) (h : (Txt.item x i == Txt.item y j) = true) : ∃ c, x.cps[i.toNat]? = some c ∧ y.cps[j.toNat]? = some c := by
 have e1 : x.cps[i.toNat]? = some (x.cps[i.toNat]'(by have : x.length = x.cps.size := rfl; lia)) := Array.getElem?_eq_getElem _
 have e2 : y.cps[j.toNat]? = some (y.cps[j.toNat]'(by have : y.length = y.cps.size := rfl; lia)) := Array.getElem?_eq_getElem _
 rw [item_meets i0 e1, item_meets j0 e2] at h
 have := one_inj.mp (eq_of_beq h)
 exact ⟨_, e1, by rw [this]; exact e2⟩
def TestNo (s : Shared) (b : Bool) (s₂ : Shared) : Prop := b = false ∧ ∃ tk, s₂ = { s with toks := tk }
theorem while_no {prog : Program} {w : World} {A : Around} {E : Value → Shared → Prop} {s : Shared} {env : Env} {test : PySem.Expr} {body : List Stmt} {pos : Pos} {Q : Flow → Shared → Prop} (hE : PassesOwn (model prog w) A env E)
  (h : wpAny (model prog w) A (isTrue test env (eval test env)) (TestNo s) E s) (hn : ∀ tk, Q .next { s with toks := tk }) : wpAny (model prog w) A (exec (.While test body [] pos) env) Q E s := by
 refine whl_start 1 (whl_turn hE (wpAny_mono h (fun b s₂ hb => ?_) (fun _ _ e => e)))
 obtain ⟨rfl, tk, rfl⟩ := hb
 exact WhlIf.no rfl (wpAny_execs_nil (hn tk))
theorem fr_same {g h : Heap} {L : Addr} {m : Str → Option Value} {nm : Str} {v : Value} (F : Fr g L h m) (e : m nm = some v) : Fr g L h (fun y => if y = nm then some v else m y) := by
 have : (fun y => if y = nm then some v else m y) = m := by
  funext y
  by_cases h : y = nm
  ·rw [if_pos h, h, e]
  rw [if_neg h]
 rw [this]; exact F
def IfQ (g : Heap) (L : Addr) (nm : Str) (n : Int) (m : Str → Option Value) (led : List (Addr × Obj)) (s : Shared) (fl : Flow) (s' : Shared) : Prop := fl = .next ∧ ∃ h' tk' t, s' = { s with heap := h', toks := tk' } ∧ Fr g L h' (fun y => if y = nm then some (.int n t) else m y) ∧ News g L h' led
theorem if_mid {M : Model} {A : Around} {E : Value → Shared → Prop} {s : Shared} {env : Env} {st : Stmt} {Q : Flow → Shared → Prop} {g : Heap} {L : Addr} {m : Str → Option Value} {led : List (Addr × Obj)} (nm : Str) (n : Int) (F : Fr g L s.heap m) (N : News g L s.heap led)
  (h1 : wpAny M A (exec st env) (IfQ g L nm n m led s) E s)
  (h2 : ∀ h' tk' t, Fr g L h' (fun y => if y = nm then some (.int n t) else m y) → News g L h' led → Q .next { s with heap := h', toks := tk' }) : wpAny M A (exec st env) Q E s :=
 wpAny_mono h1 (fun fl s' h => by
  obtain ⟨rfl, h', tk', t, rfl, F', N'⟩ := h
  exact h2 h' tk' t F' N') fun _ _ e => e
theorem flmG (w : World) (p : Program) (lo : List Str) (mean : ExcName → Option Value) (mg mb : Str → Option Value)
  (gd : Option (List Code)) (cn : Str) (cs : Scope) (a : Addr) (ccd : Value) (cl : List (Str × Addr)) (outer : List Env) (A₀ : Around) (base h₀ : Heap) (L : Addr) (m : Str → Option Value) (G news : List (Addr × Obj)) (s : Shared)
  (x y : Str) (xa : Addr) (alo ahi blo bhi : Int) (q1 q2 q3 q4 : Tok) (Q E : Value → Shared → Prop)
  (B : Below A₀ base outer h₀) (F : Fr h₀ L s.heap m) (X : (Mine.K w.params).In h₀) (N : News h₀ L s.heap (G ++ news)) (T : Top p lo mean mg mb h₀) (hk : cs.kind = .function)
  (hS : SM w x y xa G) (hx : x.length ≤ 64) (hy : y.length ≤ 64) (h1 : 0 ≤ alo) (h2 : alo ≤ ahi) (h3 : ahi ≤ x.length) (h4 : 0 ≤ blo) (h5 : blo ≤ bhi) (h6 : bhi ≤ y.length)
  (args : List Value) (va vb : Value) (hva : va = .int ahi q2 ∨ va = .none ∧ ahi = (x.length : Int)) (hvb : vb = .int bhi q4 ∨ vb = .none ∧ bhi = (y.length : Int))
  (hb : ∀ (f : FuncData) oc od osl, (Mine.K w.params).lookup 196 = some ⟨oc, od, .func f, osl⟩ → BindsTo s f ⟨args, []⟩ [(Str.ofString "self", .ref xa), (Str.ofString "alo", .int alo q1), (Str.ofString "ahi", va), (Str.ofString "blo", .int blo q3), (Str.ofString "bhi", vb)])
  (hret : ∀ q d t1 t2 t3 h' tk', Fr h₀ L h' m → News h₀ L h' ((q, matchObj d (.int (flm x y alo ahi blo bhi).bi t1) (.int (flm x y alo ahi blo bhi).bj t2) (.int (flm x y alo ahi blo bhi).bs t3)) :: (G ++ news)) → (∀ p ∈ G ++ news, p.1 ≠ q) → Q (.ref q) { s with heap := h', toks := tk' }) :
  wpAny (model (rw_nq0317_01.prog) w) (ktrTop 350 500 gd cn cs L a ccd cl outer) (call (.ref 196) args) Q E s := by
 k_with_none
 k_with "execs cons" => (k_here; first | k_made | ((fail_if_success (fail_if_success k_gentoks)); refine (let tk : Nat := _; (?_ : wpAny _ _ _ _ _ ⟨_, _, _, tk, _⟩))) | ((with_reducible refine wpAny_execs_cons ?_); (try dsimp only); refine (let qv : Flow → Shared → Prop := _; (?_ : wpAny _ _ _ qv _ _))))
 k_with "execs nil" => (k_here; (fail_if_success (fail_if_success k_gentoks)); refine (let tk : Nat := _; (?_ : wpAny _ _ _ _ _ ⟨_, _, _, tk, _⟩)))
 k_with "exec While BoolOp cons nil" => refine stopped ?_
 k_with "exec While BoolOp cons" => refine stopped ?_
 k_with "exec While BoolOp" => refine stopped ?_
 k_with "exec While" => refine stopped ?_
 k_with "call builtin:dict.get" => refine stopped ?_
 k_with "setItem ref int" => refine stopped ?_
 k_with "callWith ref" => ((fail_if_success (with_reducible refine (?_ : wpAny _ _ (callWith _ (Value.ref 135) _ _ _) _ _ _))); refine stopped ?_)
 k_with "getAttr ref" => ((first | with_reducible refine (?_ : wpAny _ _ (getAttr (Value.ref _) (Str.ofString "__contains__") _) _ _ _) | with_reducible refine (?_ : wpAny _ _ (getAttr (Value.ref _) (Str.ofString "get") _) _ _ _)); refine stopped ?_)
 k_with "storeName" => (k_here; k_dflt (refine' storeX_L ?F ?N ?_ ?a ?b; (case F => k_asm); (case N => k_asm); (case a => rfl); (case b => rfl); k_whole; intro h' F0; (refine (let __m : Str → Option Value := _; have F' : Fr _ _ _ __m := F0; ?_)); clear F0; intro N'; (try k_sweep)))
 refine (let G9 : Prop := _; (?_ : G9))
 obtain ⟨d, b2, bj, bp, o2, BB, tx, ty, t1, t2, t3, t4, t5, t6, t7, t8, t9, t10, l1, l2, rfl, hd, hB, lo2⟩ := hS
 refine (?_ : wpAny _ _ _ _ _ _)
 simp only [List.cons_append] at N
 refine gen_ (ledB BB ++ news) ?_; intro tl htl
 rw [← htl] at N
 revert X
 k_fill
 intro X
 refine wpAny_call ?_
 k_dflt (refine' code_def (binds := [(Str.ofString "self", .ref xa), (Str.ofString "alo", .int alo q1), (Str.ofString "ahi", va), (Str.ofString "blo", .int blo q3), (Str.ofString "bhi", vb)]) ?k1 ?k2 ?k3 ?k4 ?k5 ?kA ?kF ?kK ?k6 ?k7 ?k8 ?k9 ?kB ?_ ?c2 ?c3 ?c4 ?c5; (case kA => exact rfl); (case kF => exact rfl); (case kK => assumption); (case k1 => k_asm); (case k2 => k_asm); (case k3 => k_asm); (case k4 => k_asm); (case k5 => k_asm); (case k6 => k_is); (case k7 => k_is); (case k8 => ktr_room); (case k9 => exact hb _ _ _ _ (by k_is)); (case c5 => decide); (case kB => exact locs rfl); (case c2 => exact rfl); (case c3 => exact rfl); (case c4 => exact rfl); k_whole; intro g' L' h' FG' F' N' B' X' T'; (try dsimp only); (try k_fold))
 k_with "exec If" => (refine stopped ?_)
 k_steps
 refine ⟨?_⟩
 refine contains_S F' N' X' mH1 fun q h7 tk7 F7 N7 hq7 => ?_
 k_steps
 refine ⟨?_⟩
 rename Fr _ _ _ _ => F'
 rename News _ _ _ _ => N'
 refine if_mid (Str.ofString "ahi") ahi F' N' ?i1 ?i2
 case i1 =>
  rcases hva with hv | ⟨hv, hn⟩
  ·subst hv
   k_with_none
   k_with "execs cons" => (k_here; first | k_made | ((fail_if_success (fail_if_success k_gentoks)); refine (let tk : Nat := _; (?_ : wpAny _ _ _ _ _ ⟨_, _, _, tk, _⟩))) | ((with_reducible refine wpAny_execs_cons ?_); (try dsimp only); refine (let qv : Flow → Shared → Prop := _; (?_ : wpAny _ _ _ qv _ _))))
   k_with "execs nil" => (k_here; (fail_if_success (fail_if_success k_gentoks)); refine (let tk : Nat := _; (?_ : wpAny _ _ _ _ _ ⟨_, _, _, tk, _⟩)))
   k_with "exec While BoolOp cons nil" => refine stopped ?_
   k_with "exec While BoolOp cons" => refine stopped ?_
   k_with "exec While BoolOp" => refine stopped ?_
   k_with "exec While" => refine stopped ?_
   k_with "call builtin:dict.get" => refine stopped ?_
   k_with "setItem ref int" => refine stopped ?_
   k_with "callWith ref" => ((fail_if_success (with_reducible refine (?_ : wpAny _ _ (callWith _ (Value.ref 135) _ _ _) _ _ _))); refine stopped ?_)
   k_with "getAttr ref" => ((first | with_reducible refine (?_ : wpAny _ _ (getAttr (Value.ref _) (Str.ofString "__contains__") _) _ _ _) | with_reducible refine (?_ : wpAny _ _ (getAttr (Value.ref _) (Str.ofString "get") _) _ _ _)); refine stopped ?_)
   k_with "storeName" => (k_here; k_dflt (refine' storeX_L ?F ?N ?_ ?a ?b; (case F => k_asm); (case N => k_asm); (case a => rfl); (case b => rfl); k_whole; intro h' F0; (refine (let __m : Str → Option Value := _; have F' : Fr _ _ _ __m := F0; ?_)); clear F0; intro N'; (try k_sweep)))
   k_steps
   exact ⟨rfl, _, _, _, rfl, fr_same F' rfl, N'⟩
  subst hv
  k_with_none
  k_with "execs cons" => (k_here; first | k_made | ((fail_if_success (fail_if_success k_gentoks)); refine (let tk : Nat := _; (?_ : wpAny _ _ _ _ _ ⟨_, _, _, tk, _⟩))) | ((with_reducible refine wpAny_execs_cons ?_); (try dsimp only); refine (let qv : Flow → Shared → Prop := _; (?_ : wpAny _ _ _ qv _ _))))
  k_with "execs nil" => (k_here; (fail_if_success (fail_if_success k_gentoks)); refine (let tk : Nat := _; (?_ : wpAny _ _ _ _ _ ⟨_, _, _, tk, _⟩)))
  k_with "exec While BoolOp cons nil" => refine stopped ?_
  k_with "exec While BoolOp cons" => refine stopped ?_
  k_with "exec While BoolOp" => refine stopped ?_
  k_with "exec While" => refine stopped ?_
  k_with "call builtin:dict.get" => refine stopped ?_
  k_with "setItem ref int" => refine stopped ?_
  k_with "callWith ref" => ((fail_if_success (with_reducible refine (?_ : wpAny _ _ (callWith _ (Value.ref 135) _ _ _) _ _ _))); refine stopped ?_)
  k_with "getAttr ref" => ((first | with_reducible refine (?_ : wpAny _ _ (getAttr (Value.ref _) (Str.ofString "__contains__") _) _ _ _) | with_reducible refine (?_ : wpAny _ _ (getAttr (Value.ref _) (Str.ofString "get") _) _ _ _)); refine stopped ?_)
  k_with "storeName" => (k_here; k_dflt (refine' storeX_L ?F ?N ?_ ?a ?b; (case F => k_asm); (case N => k_asm); (case a => rfl); (case b => rfl); k_whole; intro h' F0; (refine (let __m : Str → Option Value := _; have F' : Fr _ _ _ __m := F0; ?_)); clear F0; intro N'; (try k_sweep)))
  k_steps
  rename Fr _ _ _ _ => F9
  rename News _ _ _ _ => N9
  rw [hn]
  exact ⟨rfl, _, _, _, rfl, F9, N9⟩
 case i2 =>
 clear F' N'
 intro _ _ _ F' N'
 k_with "exec If" => (refine stopped ?_)
 k_steps
 refine ⟨?_⟩
 rename Fr _ _ _ _ => F'
 rename News _ _ _ _ => N'
 refine if_mid (Str.ofString "bhi") bhi F' N' ?i1 ?i2
 case i1 =>
  rcases hvb with hv | ⟨hv, hn⟩
  ·subst hv
   k_with_none
   k_with "execs cons" => (k_here; first | k_made | ((fail_if_success (fail_if_success k_gentoks)); refine (let tk : Nat := _; (?_ : wpAny _ _ _ _ _ ⟨_, _, _, tk, _⟩))) | ((with_reducible refine wpAny_execs_cons ?_); (try dsimp only); refine (let qv : Flow → Shared → Prop := _; (?_ : wpAny _ _ _ qv _ _))))
   k_with "execs nil" => (k_here; (fail_if_success (fail_if_success k_gentoks)); refine (let tk : Nat := _; (?_ : wpAny _ _ _ _ _ ⟨_, _, _, tk, _⟩)))
   k_with "exec While BoolOp cons nil" => refine stopped ?_
   k_with "exec While BoolOp cons" => refine stopped ?_
   k_with "exec While BoolOp" => refine stopped ?_
   k_with "exec While" => refine stopped ?_
   k_with "call builtin:dict.get" => refine stopped ?_
   k_with "setItem ref int" => refine stopped ?_
   k_with "callWith ref" => ((fail_if_success (with_reducible refine (?_ : wpAny _ _ (callWith _ (Value.ref 135) _ _ _) _ _ _))); refine stopped ?_)
   k_with "getAttr ref" => ((first | with_reducible refine (?_ : wpAny _ _ (getAttr (Value.ref _) (Str.ofString "__contains__") _) _ _ _) | with_reducible refine (?_ : wpAny _ _ (getAttr (Value.ref _) (Str.ofString "get") _) _ _ _)); refine stopped ?_)
   k_with "storeName" => (k_here; k_dflt (refine' storeX_L ?F ?N ?_ ?a ?b; (case F => k_asm); (case N => k_asm); (case a => rfl); (case b => rfl); k_whole; intro h' F0; (refine (let __m : Str → Option Value := _; have F' : Fr _ _ _ __m := F0; ?_)); clear F0; intro N'; (try k_sweep)))
   k_steps
   exact ⟨rfl, _, _, _, rfl, fr_same F' rfl, N'⟩
  subst hv
  k_with_none
  k_with "execs cons" => (k_here; first | k_made | ((fail_if_success (fail_if_success k_gentoks)); refine (let tk : Nat := _; (?_ : wpAny _ _ _ _ _ ⟨_, _, _, tk, _⟩))) | ((with_reducible refine wpAny_execs_cons ?_); (try dsimp only); refine (let qv : Flow → Shared → Prop := _; (?_ : wpAny _ _ _ qv _ _))))
  k_with "execs nil" => (k_here; (fail_if_success (fail_if_success k_gentoks)); refine (let tk : Nat := _; (?_ : wpAny _ _ _ _ _ ⟨_, _, _, tk, _⟩)))
  k_with "exec While BoolOp cons nil" => refine stopped ?_
  k_with "exec While BoolOp cons" => refine stopped ?_
  k_with "exec While BoolOp" => refine stopped ?_
  k_with "exec While" => refine stopped ?_
  k_with "call builtin:dict.get" => refine stopped ?_
  k_with "setItem ref int" => refine stopped ?_
  k_with "callWith ref" => ((fail_if_success (with_reducible refine (?_ : wpAny _ _ (callWith _ (Value.ref 135) _ _ _) _ _ _))); refine stopped ?_)
  k_with "getAttr ref" => ((first | with_reducible refine (?_ : wpAny _ _ (getAttr (Value.ref _) (Str.ofString "__contains__") _) _ _ _) | with_reducible refine (?_ : wpAny _ _ (getAttr (Value.ref _) (Str.ofString "get") _) _ _ _)); refine stopped ?_)
  k_with "storeName" => (k_here; k_dflt (refine' storeX_L ?F ?N ?_ ?a ?b; (case F => k_asm); (case N => k_asm); (case a => rfl); (case b => rfl); k_whole; intro h' F0; (refine (let __m : Str → Option Value := _; have F' : Fr _ _ _ __m := F0; ?_)); clear F0; intro N'; (try k_sweep)))
  k_steps
  rename Fr _ _ _ _ => F9
  rename News _ _ _ _ => N9
  rw [hn]
  exact ⟨rfl, _, _, _, rfl, F9, N9⟩
 case i2 =>
 clear F' N'
 intro _ _ _ F' N'
 k_with_none
 k_with "execs cons" => (k_here; first | k_made | ((fail_if_success (fail_if_success k_gentoks)); refine (let tk : Nat := _; (?_ : wpAny _ _ _ _ _ ⟨_, _, _, tk, _⟩))) | ((with_reducible refine wpAny_execs_cons ?_); (try dsimp only); refine (let qv : Flow → Shared → Prop := _; (?_ : wpAny _ _ _ qv _ _))))
 k_with "execs nil" => (k_here; (fail_if_success (fail_if_success k_gentoks)); refine (let tk : Nat := _; (?_ : wpAny _ _ _ _ _ ⟨_, _, _, tk, _⟩)))
 k_with "exec While BoolOp cons nil" => refine stopped ?_
 k_with "exec While BoolOp cons" => refine stopped ?_
 k_with "exec While BoolOp" => refine stopped ?_
 k_with "exec While" => refine stopped ?_
 k_with "call builtin:dict.get" => refine stopped ?_
 k_with "setItem ref int" => refine stopped ?_
 k_with "callWith ref" => ((fail_if_success (with_reducible refine (?_ : wpAny _ _ (callWith _ (Value.ref 135) _ _ _) _ _ _))); refine stopped ?_)
 k_with "getAttr ref" => ((first | with_reducible refine (?_ : wpAny _ _ (getAttr (Value.ref _) (Str.ofString "__contains__") _) _ _ _) | with_reducible refine (?_ : wpAny _ _ (getAttr (Value.ref _) (Str.ofString "get") _) _ _ _)); refine stopped ?_)
 k_with "storeName" => (k_here; k_dflt (refine' storeX_L ?F ?N ?_ ?a ?b; (case F => k_asm); (case N => k_asm); (case a => rfl); (case b => rfl); k_whole; intro h' F0; (refine (let __m : Str → Option Value := _; have F' : Fr _ _ _ __m := F0; ?_)); clear F0; intro N'; (try k_sweep)))
 k_with "pyIter ref" => (refine stopped ?_)
 k_steps
 refine ⟨?_⟩
 rename_i t0 _ _ _ _ _ _ _ _ _ _ _ jd _ jo lo2j hsj fsj hij fij l1j _ _ _ l' _ l1l _ _ _ _ _ _ _ hR hF hN _
 refine gen_ ((bp, setNew l2) :: (xa, instObj 242 d) :: (d, dictOf [ent w "isjunk" t1 .none, ent w "a" t2 (.str x tx), ent w "b" t3 (.str y ty), ent w "autojunk" t4 (.bool false), ent w "matching_blocks" t5 .none, ent w "opcodes" t6 .none, ent w "fullbcount" t7 .none, ent w "b2j" t8 (.ref b2), ent w "bjunk" t9 (.ref bj), ent w "bpopular" t10 (.ref bp)] 10) :: tl) ?_; intro tl2 htl2
 have hN2 : News _ _ _ ((jd, jo) :: (l', W.listOf #[] 0) :: (b2, o2) :: (q, bmObj "set.__contains__" (.ref bj)) :: (bj, setNew l1) :: tl2) := nsub hN (sbc mH1 (sbc (.head _) (sbc mH9 (sbc mH4 (sbc mH6 (fun p hp => by
  rw [htl2] at hp
  refine mst hp ?_ fun hp => ?_
  ·exact mH5
  refine mst hp ?_ fun hp => ?_
  ·exact mH7
  refine mst hp ?_ fun hp => ?_
  ·exact mH8
  exact mT10 hp))))))
 refine range_s (σ := OS) (fun c => (c.jd, c.jo) :: (l', W.listOf #[] 0) :: (b2, o2) :: (q, bmObj "set.__contains__" (.ref bj)) :: (bj, setNew l1) :: tl2)
  (fun c => [(Str.ofString "besti", .int c.b.bi c.t1), (Str.ofString "bestj", .int c.b.bj c.t2), (Str.ofString "bestsize", .int c.b.bs c.t3), (Str.ofString "j2len", .ref c.jd)])
  [Str.ofString "j2lenget", Str.ofString "newj2len", Str.ofString "j", Str.ofString "k"]
  (fun i c => c.jo.IsDictOf (intKind rw_nq0317_01.prog w) (kvsJ c.jl) ∧ (c.jd == sysModules) = false ∧ outerR x y blo bhi ((rangeL alo ahi).drop i) c.b (proj c.jl) = flm x y alo ahi blo bhi)
  ⟨⟨alo, blo, 0⟩, q1, q3, t0, jd, jo, []⟩ rfl hR (small_one (by lia) (by lia) (by lia) (by lia)) (rangeSize_nat _ _) hF hN2 ?hP ?hk ?turn ?done
 case hP => exact ⟨hij, lo2j, rfl⟩
 case hk => exact fc1 ⟨rfl, fc1 ⟨rfl, fc1 ⟨rfl, fc1 ⟨rfl, fn0 _⟩⟩⟩⟩
 case turn =>
  clear hR hF hN hN2
  intro i c ti u h tk own wr hi hPc hoff hw hf F' N'
  refine (let At1 : Around := _; let Qt1 : Flow → Shared → Prop := _; (?_ : wpAny _ At1 _ Qt1 _ _))
  refine (let mt1 : Str → Option Value := _; have F9 : Fr _ _ _ mt1 := F'; ?_)
  clear F'
  have F' := F9
  clear F9
  refine el0_3 (hPc) ?_; (try clear hPc); intro hjd hlo hres
  simp only [List.cons_append] at N'
  k_steps
  refine ⟨?_⟩
  refine get_S F' N' X' (.head _) hjd fun jq h8 tk8 F8 N8 hq8 => ?_
  k_steps
  refine ⟨?_⟩
  rename_i nd _ no lon hsn fsn hin fin l1n F9 hit
  rename News _ _ _ _ => N9
  have hxi : ∃ ch, x.cps[(alo + (i : Int)).toNat]? = some ch := by
   have hlt : (alo + (i : Int)).toNat < x.cps.size := by
    have : x.length = x.cps.size := rfl
    lia
   exact ⟨_, Array.getElem?_eq_getElem hlt⟩
  refine el1_1 (hxi) ?_; (try clear hxi); intro ch hch
  rw [item_meets (by lia) hch]
  have hAll : AllLt nd ((jq, bmObj "dict.get" (Value.ref c.jd)) :: (c.jd, c.jo) :: (l', W.listOf #[] 0) :: (b2, o2) :: (q, bmObj "set.__contains__" (Value.ref bj)) :: (bj, setNew l1) :: (tl2 ++ own)) := l1n
  refine el1_2 (newsTail N9) ?_; intro R hRdef N9
  have hRn : ∀ p ∈ R, p.1 ≠ nd := by rw [hRdef]; exact fun p hp => nlt (allLt_mem hAll p hp)
  have hjs : jsOf x y (alo + (i : Int)) = idxs y y.cps.size ch := by unfold jsOf; rw [hch]
  have hlist : ∃ (la : Addr) (its : List (Int × Tok)) (ep : Nat), (valueAt (kvsB BB) (⟨#[ch]⟩ : Str)).getD (.ref l') = .ref la ∧ (la, W.listOf (its.map fun p : Int × Tok => Value.int p.1 p.2).toArray ep) ∈ R ∧ its.map (·.1) = jsOf x y (alo + (i : Int)) := by
   rw [hjs]
   cases hv : valueAt (kvsB BB) (⟨#[ch]⟩ : Str) with
   | some v =>
    refine el1_3 (valueAt_some hv) ?_; intro e he e92 e93; subst e92; subst e93
    refine ⟨e.a, e.its, e.ep, rfl, ?_, hB.its e he⟩
    rw [hRdef, htl2, htl]
    exact mT6 (maL _ (.tail _ (.tail _ (.tail _ (maL _ (mm2 ⟨e, he, rfl⟩))))))
   | none =>
    refine ⟨l', [], 0, rfl, ?_, (hB.rest ch (valueAt_none hv)).symm⟩
    rw [hRdef]
    exact mH2
  refine el3_3 (hlist) ?_; (try clear hlist); intro la its ep hla hlm hits
  have hownR : ∀ q ∈ own, q ∈ R := by rw [hRdef]; exact fun q hq => mT6 (maR _ hq)
  refine kdg_get2 N9 (by rw [hRdef]; exact mH4) hd lo2 (strKind_is _ _ _ _) _ rfl ?_
  rw [hla]
  refine list_s (σ := IS) (fun c2 => (nd, c2.no) :: R)
   (fun c2 => [(Str.ofString "besti", .int c2.b.bi c2.t1), (Str.ofString "bestj", .int c2.b.bj c2.t2), (Str.ofString "bestsize", .int c2.b.bs c2.t3)])
   [Str.ofString "k"]
   (fun n c2 => c2.no.IsDictOf (intKind rw_nq0317_01.prog w) (kvsJ c2.nl) ∧ inner (alo + (i : Int)) blo bhi (proj c.jl) ((jsOf x y (alo + (i : Int))).drop n) c2.b (proj c2.nl) = inner (alo + (i : Int)) blo bhi (proj c.jl) (jsOf x y (alo + (i : Int))) c.b [] ∧ c2.nl.length ≤ n)
   ⟨c.b, c.t1, c.t2, c.t3, no, []⟩ rfl (News.isList N9 (.tail _ hlm)) ?hLne F9 N9 ?hP2 ?hk2 ?turn2 ?done2
  case hLne => exact (N9 _ (.tail _ hlm)).2.1
  case hP2 => exact ⟨hin, rfl, Nat.le_refl _⟩
  case hk2 => exact fc1 ⟨rfl, fc1 ⟨rfl, fc1 ⟨rfl, fn0 _⟩⟩⟩
  case turn2 =>
   intro n c2 v u2 h9 tk9 own2 wr2 hv hP2 hoff2 hw2 hf2 F' N'
   refine (let At2 : Around := _; let Qt2 : Flow → Shared → Prop := _; (?_ : wpAny _ At2 _ Qt2 _ _))
   refine (let mt2 : Str → Option Value := _; have F9 : Fr _ _ _ mt2 := F'; ?_)
   clear F'
   have F' := F9
   clear F9
   refine (let G9 : Prop := _; (?_ : G9))
   obtain ⟨⟨j, tj⟩, hp, rfl⟩ := its_get hv
   refine (?_ : wpAny _ _ _ _ _ _)
   have hdrop := its_drop hits hp
   refine el0_3 (hP2) ?_; (try clear hP2); intro hn2 hin2 hln2
   simp only [List.cons_append] at N'
   k_steps
   ·rename_i hlt
    show TurnEnd _ _ _ _ _ _ _
    refine s_end c2 F' N' ?_ ?_ hoff2 ⟨hn2, ?_, Nat.le_succ_of_le hln2⟩ ?_ ?_
    ·intro q hq
     refine mst hq ?_ fun hq => ?_
     ·exact .head _
     exact .tail _ (maL _ hq)
    ·exact fun q hq => .tail _ (maR _ hq)
    ·rw [hdrop] at hin2
     rw [← hin2]
     show _ = inner _ _ _ _ (j :: _) _ _
     rw [inner, if_pos hlt]
    ·exact fc1 ⟨rfl, fc1 ⟨rfl, fc1 ⟨rfl, fn0 _⟩⟩⟩
    intro z h1 h2 h3
    have e1 : z ≠ Str.ofString "j" := ne_rev h1 (by decide)
    dsimp only [mt2, mt1]
    rw [if_neg e1]
    exact kst_rest2 h3 h2
   ·rename_i hj1 _ hj2
    refine tp_brk ?_
    k_steps
    have hfin : (c2.b, proj c2.nl) = inner (alo + (i : Int)) blo bhi (proj c.jl) (jsOf x y (alo + (i : Int))) c.b [] := by
     rw [← hin2, hdrop]
     show _ = inner _ _ _ _ (j :: _) _ _
     rw [inner, if_neg hj1, if_pos hj2]
    rename Fr _ _ _ _ => F7
    rename News _ _ _ _ => N7
    show TurnEnd _ _ _ _ _ _ _
    refine s_end (σ := OS) ⟨c2.b, c2.t1, c2.t2, c2.t3, nd, c2.no, c2.nl⟩ F7 N7 ?h1 ?h2 ?h3 ⟨hn2, lon, ?_⟩ ?hps ?hz
    case h1 =>
     intro q hq
     refine mst hq ?_ fun hq => ?_
     ·exact .head _
     refine .tail _ (maL _ ?_)
     rw [hRdef]
     refine mst hq ?_ fun hq => ?_
     ·exact mH2
     refine mst hq ?_ fun hq => ?_
     ·exact mH3
     refine mst hq ?_ fun hq => ?_
     ·exact mH4
     refine mst hq ?_ fun hq => ?_
     ·exact mH5
     exact mT6 (maL _ hq)
    case h2 => exact fun q hq => .tail _ (maL _ (hownR q hq))
    case h3 =>
     intro q hq
     refine asp hq ?_ fun hq => ?_
     ·intro hm
      refine el1_1 (hw _ hm) ?_; intro o ho
      exact hRn _ (hownR _ ho) rfl
     exact hoff q (.tail _ hq)
    case hps => exact fc1 ⟨rfl, fc1 ⟨rfl, fc1 ⟨rfl, fc1 ⟨rfl, fn0 _⟩⟩⟩⟩
    case hz =>
     intro z h1 h2 h3
     have e1 : z ≠ Str.ofString "j" := ne_rev h3 (by decide)
     have e2 : z ≠ Str.ofString "k" := ne_rev h3 (by decide)
     have e3 : z ≠ Str.ofString "newj2len" := ne_rev h3 (by decide)
     have e4 : z ≠ Str.ofString "j2lenget" := ne_rev h3 (by decide)
     have e5 : z ≠ Str.ofString "i" := ne_rev h1 (by decide)
     have e6 : z ≠ Str.ofString "besti" := h2 _ (.head _)
     have e7 : z ≠ Str.ofString "bestj" := h2 _ mH1
     have e8 : z ≠ Str.ofString "bestsize" := h2 _ mH2
     have e9 : z ≠ Str.ofString "j2len" := h2 _ mH3
     dsimp only [mt2, mt1]
     rw [if_neg e9, if_neg e1]
     refine (kst_rest2 (show [Str.ofString "k"].contains z = false by simpa using e2) (fc1 ⟨e6, fc1 ⟨e7, fc1 ⟨e8, fn0 _⟩⟩⟩)).trans ?_
     simp only [if_neg e3, if_neg e4, if_neg e5]
     exact kst_rest2 h3 (fc1 ⟨e6, fc1 ⟨e7, fc1 ⟨e8, fc1 ⟨e9, fn0 _⟩⟩⟩⟩)
    rw [← hres, rangeL_drop hi, outerR, ← hfin]
   rename_i hj1 _ hj2
   refine ⟨?_⟩
   refine callWith_B (id := "dict.get") (self := .ref c.jd) ?_
   have hmq : (jq, bmObj "dict.get" (Value.ref c.jd)) ∈ (nd, c2.no) :: (R ++ own2) := by rw [hRdef]; exact mH1
   have hmd : (c.jd, c.jo) ∈ (nd, c2.no) :: (R ++ own2) := by rw [hRdef]; exact mH2
   k_steps
   ·exact (N' _ hmq).1
   refine jget_S N' hmq hmd hjd (intKind_is _ _ _ _) hlo ?_
   refine el1_1 (valueAt_kvsJ c.jl (j - 1) (tk9 + 1 + 1)) ?_; intro tg hg
   k_steps
   rw [hg]
   k_steps
   refine ⟨?_⟩
   rename Fr _ _ _ _ => F5; rename News _ _ _ _ => N5
   refine setItem_S F5 N5 (.head _) hn2 (intKind_is _ _ _ _) (size_le ?hz5) fun h5 o5 F6 N6 hd6 => ?_
   case hz5 =>
    have h64 : n < y.cps.size := by
     have h1 : n < its.length := by
      rcases Nat.lt_or_ge n its.length with h | h
      ·exact h
      rw [List.getElem?_eq_none h] at hp; cases hp
     have h2 : its.length = (jsOf x y (alo + (i : Int))).length := by rw [← hits, List.length_map]
     have h3 := idxs_len y y.cps.size ch
     rw [← hjs] at h3
     lia
    have h65 : y.cps.size ≤ 64 := hy
    unfold kvsJ
    rw [List.length_map]
    lia
   rw [stored_kvsJ] at hd6
   refine (let G9 : Prop := _; (?_ : G9))
   obtain ⟨tn, hd6⟩ : ∃ tn, o5.IsDictOf (intKind rw_nq0317_01.prog w) (kvsJ (jput c2.nl j (plook (proj c.jl) (j - 1) + 1) tn)) := ⟨_, hd6⟩
   refine (?_ : wpAny _ _ _ _ _ _)
   have hla' : la ≠ nd := hRn _ hlm
   have hmem6 : ∀ p ∈ (nd, o5) :: R, p ∈ setAt nd o5 ((nd, c2.no) :: (R ++ own2)) := by
    intro p hp
    refine mst hp ?_ fun hp => ?_
    ·exact mem_setAt_self (.head _)
    exact msN (.tail _ (maL _ hp)) (hRn p hp)
   have hown6 : ∀ p ∈ own2, p ∈ setAt nd o5 ((nd, c2.no) :: (R ++ own2)) := by
    intro p hp
    refine msN (.tail _ (maR _ hp)) ?_
    rcases hf2 p hp with h | h
    ·exact fun e => hoff2 (nd, c2.no) (.head _) (e ▸ h)
    rw [h]; exact hla'
   have hoff6 : ∀ p ∈ (nd, o5) :: R, p.1 ∉ wr2 := by
    intro p hp
    refine asp hp ?_ fun hp => ?_
    ·exact hoff2 (nd, c2.no) (.head _)
    exact hoff2 p (.tail _ hp)
   have hres6 : inner (alo + (i : Int)) blo bhi (proj c.jl) ((jsOf x y (alo + (i : Int))).drop (n + 1)) (istep (alo + (i : Int)) (proj c.jl) c2.b j) (proj (jput c2.nl j (plook (proj c.jl) (j - 1) + 1) tn)) = inner (alo + (i : Int)) blo bhi (proj c.jl) (jsOf x y (alo + (i : Int))) c.b [] := by
    rw [hdrop] at hin2
    rw [← hin2, proj_put]
    show _ = inner _ _ _ _ (j :: _) _ _
    rw [inner, if_neg hj1, if_neg hj2]
   have hlen6 : (jput c2.nl j (plook (proj c.jl) (j - 1) + 1) tn).length ≤ n + 1 := by
    unfold jput
    split
    ·rw [List.length_map]; lia
    rw [List.length_append]; simp; lia
   k_steps
   ·rename c2.b.bs < _ => hgt
    rename Fr _ _ _ _ => F7
    rename News _ _ _ _ => N7
    have hst : istep (alo + (i : Int)) (proj c.jl) c2.b j = ⟨alo + (i : Int) - (plook (proj c.jl) (j - 1) + 1) + 1, j - (plook (proj c.jl) (j - 1) + 1) + 1, plook (proj c.jl) (j - 1) + 1⟩ := if_pos hgt
    rw [hst] at hres6
    refine el1_1 (frTok F7 (Str.ofString "besti") rfl) ?_; intro t1 e1
    refine el1_1 (frTok F7 (Str.ofString "bestj") rfl) ?_; intro t2 e2
    refine el1_1 (frTok F7 (Str.ofString "bestsize") rfl) ?_; intro t3 e3
    show TurnEnd _ _ _ _ _ _ _
    refine s_end (σ := IS) ⟨⟨_, _, _⟩, t1, t2, t3, o5, jput c2.nl j (plook (proj c.jl) (j - 1) + 1) tn⟩ F7 N7 (fun p hp => .tail _ (hmem6 p hp)) (fun p hp => .tail _ (hown6 p hp)) hoff6 ⟨hd6, hres6, hlen6⟩ (fc1 ⟨e1, fc1 ⟨e2, fc1 ⟨e3, fn0 _⟩⟩⟩) ?_
    intro z h1 h2 h3
    have e1 : z ≠ Str.ofString "j" := ne_rev h1 (by decide)
    have e4 : z ≠ Str.ofString "k" := ne_rev h3 (by decide)
    have e5 : z ≠ Str.ofString "besti" := h2 _ (.head _)
    have e6 : z ≠ Str.ofString "bestj" := h2 _ mH1
    have e7 : z ≠ Str.ofString "bestsize" := h2 _ mH2
    dsimp only [mt2, mt1]
    refine (if_neg e5).trans ((if_neg e6).trans ((if_neg e7).trans ((if_neg e4).trans ((if_neg e1).trans ?_))))
    exact kst_rest2 h3 (fc1 ⟨e5, fc1 ⟨e6, fc1 ⟨e7, fn0 _⟩⟩⟩)
   rename ¬ (c2.b.bs < _) => hgt
   have hst : istep (alo + (i : Int)) (proj c.jl) c2.b j = c2.b := if_neg hgt
   rw [hst] at hres6
   show TurnEnd _ _ _ _ _ _ _
   refine s_end (σ := IS) ⟨c2.b, c2.t1, c2.t2, c2.t3, o5, jput c2.nl j (plook (proj c.jl) (j - 1) + 1) tn⟩ F6 N6 hmem6 hown6 hoff6 ⟨hd6, hres6, hlen6⟩ (fc1 ⟨rfl, fc1 ⟨rfl, fc1 ⟨rfl, fn0 _⟩⟩⟩) ?_
   intro z h1 h2 h3
   have e1 : z ≠ Str.ofString "j" := ne_rev h1 (by decide)
   have e4 : z ≠ Str.ofString "k" := ne_rev h3 (by decide)
   dsimp only [mt2, mt1]
   rw [if_neg e4, if_neg e1]
   exact kst_rest2 h3 h2
  case done2 =>
   intro c2 u2 h9 tk9 hP2 F' N'
   refine (let mt3 : Str → Option Value := _; have F9 : Fr _ _ _ mt3 := F'; ?_)
   clear F'
   have F' := F9
   clear F9
   refine el0_3 (hP2) ?_; (try clear hP2); intro hn2 hin2 hln2
   k_steps
   have hfin : (c2.b, proj c2.nl) = inner (alo + (i : Int)) blo bhi (proj c.jl) (jsOf x y (alo + (i : Int))) c.b [] := by
    rw [← hin2, List.drop_eq_nil_of_le (by rw [← hits, List.size_toArray, List.length_map, List.length_map]; exact Nat.le_refl _)]
    rfl
   rename Fr _ _ _ _ => F7
   rename News _ _ _ _ => N7
   show TurnEnd _ _ _ _ _ _ _
   refine s_end (σ := OS) ⟨c2.b, c2.t1, c2.t2, c2.t3, nd, c2.no, c2.nl⟩ F7 N7 ?h1 ?h2 ?h3 ⟨hn2, lon, ?_⟩ ?hps ?hz
   case h1 =>
    intro q hq
    refine mst hq ?_ fun hq => ?_
    ·exact .head _
    refine .tail _ ?_
    rw [hRdef]
    refine mst hq ?_ fun hq => ?_
    ·exact mH2
    refine mst hq ?_ fun hq => ?_
    ·exact mH3
    refine mst hq ?_ fun hq => ?_
    ·exact mH4
    refine mst hq ?_ fun hq => ?_
    ·exact mH5
    exact mT6 (maL _ hq)
   case h2 => exact fun q hq => .tail _ (hownR q hq)
   case h3 =>
    intro q hq
    refine asp hq ?_ fun hq => ?_
    ·intro hm
     refine el1_1 (hw _ hm) ?_; intro o ho
     exact hRn _ (hownR _ ho) rfl
    exact hoff q (.tail _ hq)
   case hps => exact fc1 ⟨rfl, fc1 ⟨rfl, fc1 ⟨rfl, fc1 ⟨rfl, fn0 _⟩⟩⟩⟩
   case hz =>
    intro z h1 h2 h3
    have e1 : z ≠ Str.ofString "j" := ne_rev h3 (by decide)
    have e2 : z ≠ Str.ofString "k" := ne_rev h3 (by decide)
    have e3 : z ≠ Str.ofString "newj2len" := ne_rev h3 (by decide)
    have e4 : z ≠ Str.ofString "j2lenget" := ne_rev h3 (by decide)
    have e5 : z ≠ Str.ofString "i" := ne_rev h1 (by decide)
    have e6 : z ≠ Str.ofString "besti" := h2 _ (.head _)
    have e7 : z ≠ Str.ofString "bestj" := h2 _ mH1
    have e8 : z ≠ Str.ofString "bestsize" := h2 _ mH2
    have e9 : z ≠ Str.ofString "j2len" := h2 _ mH3
    dsimp only [mt3, mt1]
    rw [if_neg e9, if_neg e1]
    refine (kst_rest2 (show [Str.ofString "k"].contains z = false by simpa using e2) (fc1 ⟨e6, fc1 ⟨e7, fc1 ⟨e8, fn0 _⟩⟩⟩)).trans ?_
    simp only [if_neg e3, if_neg e4, if_neg e5]
    exact kst_rest2 h3 (fc1 ⟨e6, fc1 ⟨e7, fc1 ⟨e8, fc1 ⟨e9, fn0 _⟩⟩⟩⟩)
   rw [← hres, rangeL_drop hi, outerR, ← hfin]
 clear hR hF hN hN2
 intro c u h tk hPc F' N'
 refine (let mt4 : Str → Option Value := _; have F9 : Fr _ _ _ mt4 := F'; ?_)
 clear F'
 have F' := F9
 clear F9
 refine el0_3 (hPc) ?_; (try clear hPc); intro hjd hlo hres
 have hfl : c.b = flm x y alo ahi blo bhi := by
  rw [← hres, List.drop_eq_nil_of_le (by unfold rangeL; simp)]
  rfl
 clear hres
 have hok := flm_ok (x := x) (y := y) h1 h4 h2 h5
 rw [← hfl] at hok
 have z1 := hok.s0
 have z2 := hok.i0
 have z3 := hok.i1
 have z4 := hok.j0
 have z5 := hok.j1
 k_steps
 refine ⟨?_⟩
 have hmq : (q, bmObj "set.__contains__" (.ref bj)) ∈ (c.jd, c.jo) :: (l', W.listOf #[] 0) :: (b2, o2) :: (q, bmObj "set.__contains__" (.ref bj)) :: (bj, setNew l1) :: tl2 := mH3
 have hmb : (bj, setNew l1) ∈ (c.jd, c.jo) :: (l', W.listOf #[] 0) :: (b2, o2) :: (q, bmObj "set.__contains__" (.ref bj)) :: (bj, setNew l1) :: tl2 := mH4
 refine while_no (by passes_own) ?t1 fun tk11 => ?_
 case t1 =>
  k_steps
  ·refine ⟨?_⟩
   refine callWith_B (id := "set.__contains__") (self := .ref bj) ?_
   k_steps
   ·exact (N' _ hmq).1
   refine contains_call w _ _ q bj l1 _ _ _ _ (N' _ hmq).1 (N' _ hmb).1 fun tk2 => ?_
   k_steps
   ·rename (Txt.item _ _ == Txt.item _ _) = true => he
    refine el1_2 (item_same (by lia) (by lia) (by lia) (by lia) he) ?_; intro c0 c1 c2
    exact (hok.left h1 h4 (by assumption) (by assumption) c1 c2).elim
   exact ⟨rfl, _, rfl⟩
  ·exact ⟨rfl, _, rfl⟩
  exact ⟨rfl, _, rfl⟩
 k_steps
 refine ⟨?_⟩
 refine while_no (by passes_own) ?t2 fun tk21 => ?_
 case t2 =>
  k_steps
  ·refine ⟨?_⟩
   refine callWith_B (id := "set.__contains__") (self := .ref bj) ?_
   k_steps
   ·exact (N' _ hmq).1
   refine contains_call w _ _ q bj l1 _ _ _ _ (N' _ hmq).1 (N' _ hmb).1 fun tk2 => ?_
   k_steps
   ·rename (Txt.item _ _ == Txt.item _ _) = true => he
    refine el1_2 (item_same (by lia) (by lia) (by lia) (by lia) he) ?_; intro c0 c1 c2
    exact (hok.right h1 h4 (by assumption) (by assumption) c1 c2).elim
   exact ⟨rfl, _, rfl⟩
  ·exact ⟨rfl, _, rfl⟩
  exact ⟨rfl, _, rfl⟩
 k_steps
 refine ⟨?_⟩
 refine while_no (by passes_own) ?t3 fun tk31 => ?_
 case t3 =>
  k_steps
  ·refine ⟨?_⟩
   refine callWith_B (id := "set.__contains__") (self := .ref bj) ?_
   k_steps
   ·exact (N' _ hmq).1
   refine contains_call w _ _ q bj l1 _ _ _ _ (N' _ hmq).1 (N' _ hmb).1 fun tk2 => ?_
   k_steps
   exact ⟨rfl, _, rfl⟩
  ·exact ⟨rfl, _, rfl⟩
  exact ⟨rfl, _, rfl⟩
 k_steps
 refine ⟨?_⟩
 refine while_no (by passes_own) ?t4 fun tk41 => ?_
 case t4 =>
  k_steps
  ·refine ⟨?_⟩
   refine callWith_B (id := "set.__contains__") (self := .ref bj) ?_
   k_steps
   ·exact (N' _ hmq).1
   refine contains_call w _ _ q bj l1 _ _ _ _ (N' _ hmq).1 (N' _ hmb).1 fun tk2 => ?_
   k_steps
   exact ⟨rfl, _, rfl⟩
  ·exact ⟨rfl, _, rfl⟩
  exact ⟨rfl, _, rfl⟩
 k_steps
 refine wpAny_up (ktrTop 360 600 gd (Str.ofString "SequenceMatcher.find_longest_match") _ L' 196 (.ref 195) [] (envX cn cs L a ccd cl :: outer)) rfl (show 351 ≤ 360 by decide) rfl rfl (show 503 ≤ 600 by decide) ?_
 refine match_c w _ _ _ _ _ _ _ _ _ _ _ _ _ _ _ _ _ _ _ _ _ _ _ _ _ _ _ B' F' X' N' T' rfl (fun qq dd h1 tk1 F1 N1 hq1 => ?_)
 clear F' N'
 k_steps
 rename Fr _ _ _ _ => F9
 rename News _ _ _ _ => N9
 rw [hfl] at N9
 have hsub : ∀ p ∈ ((bp, setNew l2) :: (bj, setNew l1) :: (xa, instObj 242 d) :: (d, dictOf [ent w "isjunk" t1 .none, ent w "a" t2 (.str x tx), ent w "b" t3 (.str y ty), ent w "autojunk" t4 (.bool false), ent w "matching_blocks" t5 .none, ent w "opcodes" t6 .none, ent w "fullbcount" t7 .none, ent w "b2j" t8 (.ref b2), ent w "bjunk" t9 (.ref bj), ent w "bpopular" t10 (.ref bp)] 10) :: (b2, o2) :: ledB BB) ++ news, p ∈ (c.jd, c.jo) :: (l', W.listOf #[] 0) :: (b2, o2) :: (q, bmObj "set.__contains__" (.ref bj)) :: (bj, setNew l1) :: tl2 := by
  intro p hp
  rw [htl2, htl]
  refine ast hp (fun hp => ?_) fun hp => ?_
  ·refine mst hp ?_ fun hp => ?_
   ·exact mH5
   refine mst hp ?_ fun hp => ?_
   ·exact mH4
   refine mst hp ?_ fun hp => ?_
   ·exact mH6
   refine mst hp ?_ fun hp => ?_
   ·exact mH7
   refine mst hp ?_ fun hp => ?_
   ·exact mH2
   exact mT8 (maL _ hp)
  exact mT8 (maR _ hp)
 refine hret qq dd c.t1 c.t2 c.t3 _ _ F9 (nsub N9 fun p hp => ?_) (fun p hp => hq1 p (hsub p hp))
 refine mst hp ?_ fun hp => ?_
 ·exact .head _
 exact .tail _ (hsub p hp)
theorem fn_of {K : Frag} {a : Addr} {f f' : FuncData} {oc oc' : Value} {od od' : Option Addr} {osl osl' : Array (Option Value)} (h : K.lookup a = some ⟨oc, od, .func f, osl⟩) (h' : K.lookup a = some ⟨oc', od', .func f', osl'⟩) : f = f' := by
 rw [h] at h'
 simp only [Option.some.injEq, Obj.mk.injEq, Data.func.injEq] at h'
 exact h'.2.2.1
theorem flm_c (w : World) (p : Program) (lo : List Str) (mean : ExcName → Option Value) (mg mb : Str → Option Value)
  (gd : Option (List Code)) (cn : Str) (cs : Scope) (a : Addr) (ccd : Value) (cl : List (Str × Addr)) (outer : List Env) (A₀ : Around) (base h₀ : Heap) (L : Addr) (m : Str → Option Value) (G news : List (Addr × Obj)) (s : Shared)
  (x y : Str) (xa : Addr) (alo ahi blo bhi : Int) (q1 q2 q3 q4 : Tok) (Q E : Value → Shared → Prop)
  (B : Below A₀ base outer h₀) (F : Fr h₀ L s.heap m) (X : (Mine.K w.params).In h₀) (N : News h₀ L s.heap (G ++ news)) (T : Top p lo mean mg mb h₀) (hk : cs.kind = .function)
  (hS : SM w x y xa G) (hx : x.length ≤ 64) (hy : y.length ≤ 64) (h1 : 0 ≤ alo) (h2 : alo ≤ ahi) (h3 : ahi ≤ x.length) (h4 : 0 ≤ blo) (h5 : blo ≤ bhi) (h6 : bhi ≤ y.length)
  (hret : ∀ q d t1 t2 t3 h' tk', Fr h₀ L h' m → News h₀ L h' ((q, matchObj d (.int (flm x y alo ahi blo bhi).bi t1) (.int (flm x y alo ahi blo bhi).bj t2) (.int (flm x y alo ahi blo bhi).bs t3)) :: (G ++ news)) → (∀ p ∈ G ++ news, p.1 ≠ q) → Q (.ref q) { s with heap := h', toks := tk' }) :
  wpAny (model (rw_nq0317_01.prog) w) (ktrTop 350 500 gd cn cs L a ccd cl outer) (call (.ref 196) [.ref xa, .int alo q1, .int ahi q2, .int blo q3, .int bhi q4]) Q E s := by
 refine flmG w p lo mean mg mb gd cn cs a ccd cl outer A₀ base h₀ L m G news s x y xa alo ahi blo bhi q1 q2 q3 q4 Q E B F X N T hk hS hx hy h1 h2 h3 h4 h5 h6 _ _ _ (.inl rfl) (.inl rfl) (fun f oc od osl h => ?_) hret
 have e := fn_of h (show (Mine.K w.params).lookup 196 = some ⟨_, _, .func _, _⟩ by k_is)
 rw [e]
 have X' := X.keeps F.keep
 exact binds_K (by k_in) rfl (by k_is) rfl rfl rfl
theorem flm0_c (w : World) (p : Program) (lo : List Str) (mean : ExcName → Option Value) (mg mb : Str → Option Value)
  (gd : Option (List Code)) (cn : Str) (cs : Scope) (a : Addr) (ccd : Value) (cl : List (Str × Addr)) (outer : List Env) (A₀ : Around) (base h₀ : Heap) (L : Addr) (m : Str → Option Value) (G news : List (Addr × Obj)) (s : Shared)
  (x y : Str) (xa : Addr) (Q E : Value → Shared → Prop)
  (B : Below A₀ base outer h₀) (F : Fr h₀ L s.heap m) (X : (Mine.K w.params).In h₀) (N : News h₀ L s.heap (G ++ news)) (T : Top p lo mean mg mb h₀) (hk : cs.kind = .function)
  (hS : SM w x y xa G) (hx : x.length ≤ 64) (hy : y.length ≤ 64)
  (hret : ∀ q d t1 t2 t3 h' tk', Fr h₀ L h' m → News h₀ L h' ((q, matchObj d (.int (flm x y (0 : Int) (x.length : Int) (0 : Int) (y.length : Int)).bi t1) (.int (flm x y (0 : Int) (x.length : Int) (0 : Int) (y.length : Int)).bj t2) (.int (flm x y (0 : Int) (x.length : Int) (0 : Int) (y.length : Int)).bs t3)) :: (G ++ news)) → (∀ p ∈ G ++ news, p.1 ≠ q) → Q (.ref q) { s with heap := h', toks := tk' }) :
  wpAny (model (rw_nq0317_01.prog) w) (ktrTop 350 500 gd cn cs L a ccd cl outer) (call (.ref 196) [.ref xa]) Q E s := by
 refine flmG w p lo mean mg mb gd cn cs a ccd cl outer A₀ base h₀ L m G news s x y xa 0 x.length 0 y.length 464 0 465 0 Q E B F X N T hk hS hx hy (Int.le_refl _) (Int.natCast_nonneg _) (Int.le_refl _) (Int.le_refl _) (Int.natCast_nonneg _) (Int.le_refl _) _ _ _ (.inr ⟨rfl, rfl⟩) (.inr ⟨rfl, rfl⟩) (fun f oc od osl h => ?_) hret
 have e := fn_of h (show (Mine.K w.params).lookup 196 = some ⟨_, _, .func _, _⟩ by k_is)
 rw [e]
 have X' := X.keeps F.keep
 exact binds_K (by k_in) rfl (by k_is) rfl rfl rfl
noncomputable abbrev tiObj (q : Addr) (k : Int) : Obj := ⟨.type "tuple_iterator", none, .fields #[.ref q, .int k 0], #[]⟩
section
open PySem.W.X
theorem iter_match (w : World) (A : Around) (s : Shared) (q d : Addr) (a b c : Value) (Q E : Value → Shared → Prop)
  (hb : s.heap.get? q = some ⟨.ref 135, some d, .seq #[a, b, c], #[]⟩) (X : (Mine.K w.params).In s.heap)
  (hret : ∀ l h', Mem s.heap h' [] [(l, ⟨.type "tuple_iterator", none, .fields #[.ref q, .int 0 0], #[]⟩)] → Q (.ref l) { s with heap := h' }) :
  wpAny (model (rw_nq0317_01.prog) w) A (call (.builtin "tuple.__iter__") [.ref q]) Q E s := by
 have x5 : s.heap.get? 135 = some (kO w 135) := kO_at X (by kernel_rfl)
 refine wpAny_call (y_cd ?_)
 with_reducible refine y_ld (a := q) (by kernel_rfl) hb ?_
 with_reducible refine y_ld (a := 135) (by kernel_rfl) x5 ?_
 with_reducible refine y_ag (c2 := .builtin "tuple.__iter__" ⟨[.ref q], []⟩) (by kernel_rfl) (by kernel_rfl) (y_cd ?_)
 with_reducible refine y_al (o := ⟨.type "tuple_iterator", none, .fields #[.ref q, .int 0 0], #[]⟩) (by kernel_rfl) (Mem.start _) rfl fun l h' D => ?_
 exact y_dn (v := .ref l) (by kernel_rfl) (hret l h' D)
end
section
variable {prog : Program} {w : World} {A : Around} {E : Value → Shared → Prop} {s : Shared} {h₀ : Heap} {L : Addr} {m : Str → Option Value} {news : List (Addr × Obj)} {q it : Addr} {oq : Obj} {i : Nat} {items : Array Value} {n : Nat} {Q : Option Value → Shared → Prop}
theorem tnext_item {x : Value} (F : Fr h₀ L s.heap m) (N : News h₀ L s.heap ((it, tiObj q (i : Int)) :: news)) (hq : (q, oq) ∈ news) (hd : oq.data = .seq items n) (hx : items[i]? = some x) (hne : ∀ p ∈ news, p.1 ≠ it)
  (h : ∀ h', Fr h₀ L h' m → News h₀ L h' ((it, tiObj q ((i + 1 : Nat) : Int)) :: news) → Q (some x) { s with heap := h' }) : wpAny (model prog w) A (pyNext (.ref it)) Q E s := by
 have ho := (N _ (.head _)).1
 have hol := (N _ (.tail _ hq)).1
 have hT : s.TypeIs (.ref it) "tuple_iterator" := ⟨_, ho, rfl⟩
 unfold pyNext
 refine wpAny_bind (wpAny_attempt (wpAny_callSpecial?_slot (name := Str.ofString "__next__") hT slot_tupleiter_next (wpAny_call_entry slot_tupleiter_next hT entry_tupleiter_next ?_ (args_tupleiter_next _))))
 show wpAny _ _ (field (.ref it) 0 >>= _) _ _ s
 refine wpAny_bind (wpAny_field ho rfl (x := .ref q) rfl ?_)
 show wpAny _ _ (if (Value.ref q == Value.none) = true then _ else _) _ _ s
 rw [if_neg (show ¬ ((Value.ref q == Value.none) = true) from Bool.false_ne_true)]
 show wpAny _ _ (field (.ref it) 1 >>= _) _ _ s
 refine wpAny_bind (wpAny_field ho rfl (x := .int i 0) rfl ?_)
 show wpAny _ _ (seqItems? (.ref q) >>= _) _ _ s
 refine wpAny_bind (wpAny_seqItems hol hd ?_)
 simp only [Int.toNat_natCast, hx]
 have hs : Heap.SameBut it s.heap (s.heap.update it (Obj.mapFields (·.setIfInBounds 1 (rawInt ((i : Int) + 1))))) := Heap.SameBut.update ..
 have hN := newsSetAt N (.head _) hs (Heap.get?_update_self _ ho rfl)
 refine wpAny_bind (wpAny_setField ho rfl (by simp) (wpAny_pure ⟨_, rfl, wpAny_pure ?_⟩))
 refine h _ (F.change hs (N _ (.head _)).2.1 (N _ (.head _)).2.2) fun p hp => hN p ?_
 refine mst hp ?_ fun hp => ?_
 ·exact mem_setAt_self (.head _)
 exact msN (.tail _ hp) (hne p hp)
theorem tnext_end (hh : A.handled = none) (F : Fr h₀ L s.heap m) (N : News h₀ L s.heap ((it, tiObj q (i : Int)) :: news)) (hq : (q, oq) ∈ news) (hd : oq.data = .seq items n) (hx : items[i]? = none) (hne : ∀ p ∈ news, p.1 ≠ it)
  (h : ∀ h', Fr h₀ L h' m → News h₀ L h' news → Q none { s with heap := h' }) : wpAny (model prog w) A (pyNext (.ref it)) Q E s := by
 have ho := (N _ (.head _)).1
 have hol := (N _ (.tail _ hq)).1
 have hT : s.TypeIs (.ref it) "tuple_iterator" := ⟨_, ho, rfl⟩
 unfold pyNext
 refine wpAny_bind (wpAny_attempt (wpAny_callSpecial?_slot (name := Str.ofString "__next__") hT slot_tupleiter_next (wpAny_call_entry slot_tupleiter_next hT entry_tupleiter_next ?_ (args_tupleiter_next _))))
 show wpAny _ _ (field (.ref it) 0 >>= _) _ _ s
 refine wpAny_bind (wpAny_field ho rfl (x := .ref q) rfl ?_)
 show wpAny _ _ (if (Value.ref q == Value.none) = true then _ else _) _ _ s
 rw [if_neg (show ¬ ((Value.ref q == Value.none) = true) from Bool.false_ne_true)]
 show wpAny _ _ (field (.ref it) 1 >>= _) _ _ s
 refine wpAny_bind (wpAny_field ho rfl (x := .int i 0) rfl ?_)
 show wpAny _ _ (seqItems? (.ref q) >>= _) _ _ s
 refine wpAny_bind (wpAny_seqItems hol hd ?_)
 simp only [Int.toNat_natCast, hx]
 have hs : Heap.SameBut it s.heap (s.heap.update it (Obj.mapFields (·.setIfInBounds 0 .none))) := Heap.SameBut.update ..
 have F1 := F.change hs (N _ (.head _)).2.1 (N _ (.head _)).2.2
 have hN := newsSetAt N (.head _) hs (Heap.get?_update_self _ ho rfl)
 have N1 : News h₀ L _ news := fun p hp => hN p (msN (.tail _ hp) (hne p hp))
 refine wpAny_bind (wpAny_rule (wpAny_bind (wpAny_setField ho rfl (by simp) ?_)))
 show wpAny _ _ (newExc (.type "StopIteration") [] >>= _) _ _ _
 refine wpAny_bind ?_
 simp only [newExc, newTuple]
 refine wpAny_bind (wpAny_newObj_type ?_ (by size_fits))
 refine wpAny_bind (m := firstArgMember _ _) (wpAny_of_eq (a := Value.none) (by first | rfl | (simp only [firstArgMember]; rfl)) ?_)
 refine wpAny_newObj_type ?_ (by size_fits)
 simp only [raiseNew]
 refine wpAny_bind (wpAny_handled ?_)
 rw [show A.in1.handled = none from hh]
 refine wpAny_bind (wpAny_pure (wpAny_throw ?_))
 refine wpAny_bind (wpAny_isInstance (T := "StopIteration") (b := true) ⟨_, Heap.get?_push_size _ rfl, rfl⟩ isSubtype_stop ?_)
 refine wpAny_pure (h _ ⟨F1.ns.keeps fun b o e => Heap.get?_push_of_some _ (Heap.get?_push_of_some _ e), fun b o e => Heap.get?_push_of_some _ (Heap.get?_push_of_some _ (F1.keep b o e)), F1.above⟩ fun p hp => ⟨Heap.get?_push_of_some _ (Heap.get?_push_of_some _ (N1 p hp).1), (N1 p hp).2⟩)
end
section
variable {w : World} {A : Around} {E : Value → Shared → Prop} {s : Shared} {h₀ : Heap} {L : Addr} {m : Str → Option Value} {news : List (Addr × Obj)} {q d : Addr} {a b c : Value}
theorem looks_match {M : Model} {h : Heap} {r : Option Value} {name : Str} (ho : h.get? q = some ⟨.ref 135, some d, .seq #[a, b, c] 0, #[]⟩) (X : (Mine.K w.params).In h) (e : findIn (Mine.K w.params) (.ref 135) name = some r) : Looks M h (specialOf (.ref q) name) r :=
 ((Looks.ld ho).andThen .now).andThen (looks_findIn X e)
theorem find_iter (w : World) : findIn (Mine.K w.params) (.ref 135) "__iter__" = some (some (.builtin "tuple.__iter__")) := by kernel_rfl
theorem pyIter_match {Q : Value → Shared → Prop} (F : Fr h₀ L s.heap m) (N : News h₀ L s.heap news) (X : (Mine.K w.params).In h₀) (hq : (q, matchObj d a b c) ∈ news)
  (h : ∀ it h' tk, Fr h₀ L h' m → News h₀ L h' ((it, tiObj q 0) :: news) → (∀ p ∈ news, p.1 ≠ it) → Q (.ref it) { s with heap := h', toks := tk }) : wpAny (model (rw_nq0317_01.prog) w) A (pyIter (.ref q)) Q E s := by
 have ho := (N _ hq).1
 have X' := X.keeps F.keep
 have hl : Looks (model (rw_nq0317_01.prog) w) s.heap (specialOf (.ref q) "__iter__") (some (.builtin "tuple.__iter__")) := looks_match ho X' (find_iter w)
 have hgo : wpAny (model (rw_nq0317_01.prog) w) A (call (.builtin "tuple.__iter__") [.ref q]) (fun it s' => ∃ T' r, s'.TypeIs it T' ∧ typeLookup (.type T') "__next__" = pure (some r) ∧ Q it s') E s := by
  refine iter_match w A s q d a b c _ _ ho X' fun it h' D => ?_
  have N' := mem_news D F N
  refine ⟨"tuple_iterator", _, ⟨_, (N' _ (.head _)).1, rfl⟩, slot_tupleiter_next.lookup, h it h' _ (mem_fr D F) N' fun p hp e => D.ne_old 0 it _ rfl p.1 p.2 (N p hp).1 e.symm⟩
 have key : ∀ refuse : Sem Value, wpAny (model (rw_nq0317_01.prog) w) A (callSpecialIfBoundUnlessNone? (.ref q) "__iter__" refuse) (fun r s' => ∃ it T' x, r = some it ∧ s'.TypeIs it T' ∧ typeLookup (.type T') "__next__" = pure (some x) ∧ Q it s') E s := by
  intro refuse
  have fin : wpAny (model (rw_nq0317_01.prog) w) A (if (Value.builtin "tuple.__iter__" == Value.none) = true then (refuse >>= fun v => pure (some v)) else (call (.builtin "tuple.__iter__") [.ref q] >>= fun v => pure (some v))) (fun r s' => ∃ it T' x, r = some it ∧ s'.TypeIs it T' ∧ typeLookup (.type T') "__next__" = pure (some x) ∧ Q it s') E s := by
   rw [if_neg (by rw [builtin_beq_none]; decide)]
   exact wpAny_bind (wpAny_mono hgo (fun v s' ⟨T', r, h1, h2, h3⟩ => wpAny_pure ⟨v, T', r, rfl, h1, h2, h3⟩) fun _ _ e => e)
  simp only [callSpecialIfBoundUnlessNone?, bindSpecialIfBound?]
  refine wpAny_holding (wpAny_bind (wpAny_bind (Looks.at hl ?_)))
  simp only [slot_tuple_iter.bind]
  refine wpAny_bind (wpAny_askSetting (wpAny_ite ?_))
  split
  ·exact wpAny_bind (wpAny_pure (wpAny_pure fin))
  exact wpAny_tryCatch (wpAny_bind (wpAny_pure (wpAny_pure fin)))
 unfold pyIter
 refine wpAny_bind (Looks.at hl ?_)
 show wpAny _ _ (callSpecialIfBoundUnlessNone? (.ref q) "__iter__" _ >>= _) _ _ _
 refine wpAny_bind (wpAny_mono (key _) ?_ fun _ _ e => e)
 rintro r s' ⟨it, T', x, rfl, hT, hl2, hQ⟩
 exact wpAny_bind (wpAny_specialOf hT hl2 (wpAny_pure hQ))
theorem unpack_match {elts : List Expr} {k} {pos : Pos} {env : Env} {Q : Unit → Shared → Prop} (hh : A.handled = none) (F : Fr h₀ L s.heap m) (N : News h₀ L s.heap news) (X : (Mine.K w.params).In h₀) (hq : (q, matchObj d a b c) ∈ news)
  (hn : (assignEach elts env).length = 3) (hstar : (assignEach elts env).findIdx? (·.1) = none)
  (h : ∀ h' tk, Fr h₀ L h' m → News h₀ L h' news → wpAny (model (rw_nq0317_01.prog) w) A (assignInOrder ((assignEach elts env).map (·.2)) [a, b, c]) Q E { s with heap := h', toks := tk }) :
  wpAny (model (rw_nq0317_01.prog) w) A (assign (.Tuple elts k pos) env (.ref q)) Q E s := by
 have hl : Looks (model (rw_nq0317_01.prog) w) s.heap (specialOf (.ref q) "__iter__") (some (.builtin "tuple.__iter__")) := looks_match (N _ hq).1 (X.keeps F.keep) (find_iter w)
 rw [assign_Tuple]
 refine wpAny_bind (wpAny_standAt ?_)
 unfold unpack
 rw [hn, hstar]
 refine wpAny_bind (wpAny_holding ?_)
 unfold unpackItems
 refine wpAny_bind ?_
 unfold notIterableAtAll
 refine wpAny_bind (Looks.at hl ?_)
 refine wpAny_pure ?_
 simp only [Bool.false_eq_true, if_false]
 refine wpAny_bind (wpAny_holding (pyIter_match F N X hq fun it h1 tk F1 N1 hne => ?_))
 refine wpAny_bind (wpAny_holding ?_)
 show wpAny _ _ (pyNext (.ref it) >>= _) _ _ _
 refine wpAny_bind (tnext_item (i := 0) (items := #[a, b, c]) F1 N1 hq rfl rfl hne fun h2 F2 N2 => ?_)
 refine wpAny_bind (wpAny_holding ?_)
 show wpAny _ _ (pyNext (.ref it) >>= _) _ _ _
 refine wpAny_bind (tnext_item (i := 1) (items := #[a, b, c]) F2 N2 hq rfl rfl hne fun h3 F3 N3 => ?_)
 refine wpAny_bind (wpAny_holding ?_)
 show wpAny _ _ (pyNext (.ref it) >>= _) _ _ _
 refine wpAny_bind (tnext_item (i := 2) (items := #[a, b, c]) F3 N3 hq rfl rfl hne fun h4 F4 N4 => ?_)
 refine wpAny_bind (wpAny_holding (wpAny_pure ?_))
 refine wpAny_pure (wpAny_pure (wpAny_pure ?_))
 dsimp only [List.length_cons, List.length_nil]
 rw [if_neg (by decide)]
 refine wpAny_bind (wpAny_holding (tnext_end (i := 3) (items := #[a, b, c]) hh F4 N4 hq rfl rfl hne fun h5 F5 N5 => ?_))
 simp only [Option.isSome_none, Bool.false_eq_true, if_false]
 exact wpAny_pure (h h5 _ F5 N5)
end
section
local macro_rules | `(tactic| k_in) => `(tactic| assumption)
theorem hdWalk (said : rw_nq0317_01.row.wellSaid = true) : rw_nq0317_01.row.Holds := by
 k_with_none
 k_with "exec For Name Name cons nil" => (k_here; (rename Fr _ _ _ _ => lF'); (with_unfolding_all refine' For_invVF lF' ?k1 ?k2 ?_; (case k1 => exact rfl); (case k2 => exact rfl); k_whole))
 k_with "exec For Name Name" => (k_here; (rename Fr _ _ _ _ => lF'); (with_unfolding_all refine' For_invVF lF' ?k1 ?k2 ?_; (case k1 => exact rfl); (case k2 => exact rfl); k_whole))
 k_with "exec For Name" => (k_here; (rename Fr _ _ _ _ => lF'); (with_unfolding_all refine' For_invVF lF' ?k1 ?k2 ?_; (case k1 => exact rfl); (case k2 => exact rfl); k_whole))
 k_with "call ref" => first | ((with_unfolding_all show wpAny _ _ (call (Value.ref 371) _) _ _ _); refine stopped ?_) | ((with_unfolding_all show wpAny _ _ (call (Value.ref 312) _) _ _ _); refine stopped ?_) | ((with_unfolding_all show wpAny _ _ (call (Value.ref 317) _) _ _ _); refine stopped ?_) | ((with_unfolding_all show wpAny _ _ (call (Value.ref 378) _) _ _ _); refine stopped ?_) | ((with_unfolding_all show wpAny _ _ (call (Value.ref 388) _) _ _ _); refine stopped ?_) | ((with_unfolding_all show wpAny _ _ (call (Value.ref 383) _) _ _ _); refine stopped ?_) | ((with_unfolding_all show wpAny _ _ (call (Value.ref 242) _) _ _ _); refine stopped ?_) | ((with_unfolding_all show wpAny _ _ (call (Value.ref 196) _) _ _ _); refine stopped ?_) | ((with_unfolding_all show wpAny _ _ (call (Value.ref 395) _) _ _ _); refine stopped ?_)
 k_with "call type:range" => ((rename Fr _ _ _ _ => F'); (rename News _ _ _ _ => N'); with_unfolding_all refine range2_rows F' N' ?_; intro _ _ _ _ _ _ _ _ _; clear F' N')
 k_with "compareOp NotEq ref ref" => refine stopped ?_
 k_with "eval ListComp" => refine stopped ?_
 k_with "pyIter ref" => refine stopped ?_
 k_with "execs cons" => (k_here; (fail_if_success (rename Stop _ => h9)); first | k_made | ((fail_if_success (fail_if_success k_gentoks)); refine (let tk : Nat := _; (?_ : wpAny _ _ _ _ _ ⟨_, _, _, tk, _⟩))) | ((with_reducible refine wpAny_execs_cons ?_); (try dsimp only); refine (let qv : Flow → Shared → Prop := _; (?_ : wpAny _ _ _ qv _ _))))
 k_with "execs nil" => (k_here; (fail_if_success (fail_if_success k_gentoks)); refine (let tk : Nat := _; (?_ : wpAny _ _ _ _ _ ⟨_, _, _, tk, _⟩)))
 refine holds_open (d := ?d) (kwd := ?kwd) (q := Mine.q) (loose := loose) (Xt := Xt) (XP := XL Mine.q []) (Yf := Hook.obs (kHook Mine.K asK asK_is)) (Ya := Hook.val (kHook Mine.K asK asK_is)) (YP := Hook.says (kHook Mine.K asK asK_is)) (N := 6700) Mine.left (Hook.of (kHook Mine.K asK asK_is)) (Hook.keeps (kHook Mine.K asK asK_is)) (fun s e => xl_of s (Bool.and_eq_true_iff.mp e).1) XL.keeps ?h1 ?h2 ?h3 (fun s e => recFacts_of (Bool.and_eq_true_iff.mp e).2) ?h4 ?h5 ?h6 ?h7 ?hw ?hc
 case h1 => rfl
 case h2 => rfl
 case h3 => rfl
 case h4 => rfl
 case h5 => exact said
 case h6 => decide +kernel
 case h7 => exact ⟨rfl, rfl, rfl, rfl, rfl, by decide +kernel⟩
 case hw => w_witness2
 clear said
 k_go0
 all_goals try k_fold
 rename Shared => s1
 rename World => Wd
 k_steps
 refine ⟨?_⟩
 rename Fr _ _ _ _ => F1
 rename News _ _ _ _ => N1
 rename Top _ _ _ _ _ _ => T1
 rename Below _ _ _ _ => B1
 rename Frag.In (Mine.K _) _ => X1
 rename IntsAre _ _ => I1
 rename Heap.IsList _ _ _ => L1
 refine wpAny_up (ktrTop 340 400 _ (Str.ofString "law") _ _ _ _ _ []) rfl (nbl rfl) rfl rfl (nbl rfl) ?_
 refine words_c _ _ _ _ _ _ _ _ _ _ _ _ _ _ _ _ _ ?mm ?rr _ _ ?vv ?xx _ _ B1 ?hF X1 ?hN T1 ?hk ?hL ?hI ?hl ?hr
 case hF => exact F1
 case hN => exact N1
 case hk => rfl
 case hL => exact L1
 case hI => exact I1
 case hl => exact Int.ofNat_le.mp (Int.not_lt.mp (by assumption))
 clear F1 N1
 intro D lw ws ew z tz et h' tk' w3 z2 z4 hwz hwn F1 N1
 k_steps
 refine ⟨?_⟩
 rename_i oW dW _ _ _ xa d _ l1a l2a _ _ _ JB JX JT J1 J2 J3 _ _ n2 _ o2 lo2 hs2 _ _ _ l1b _ _ _ _ _ _ _ _ _ _ JF JN _ _ _ _ h2 N2
 rename Fr _ _ _ _ => F2
 clear JF JN JB JX JT J1 J2 J3 lifted
 refine gen_ ([(D, (⟨.type "tuple", none, .seq #[.ref lw, .int (z : Int) tz] et, #[]⟩ : Obj)), (lw, W.listOf (strVals ws) ew), (s1.heap.objs.size + 1, oW)]) ?_; intro R hR
 refine (let G9 : Prop := _; (?_ : G9))
 obtain ⟨t1, t2, t3, t4, t5, t6, N3⟩ : ∃ t1 t2 t3 t4 t5 t6, News T1.heap s1.heap.objs.size h2 ((xa, instObj 362 d) :: (d, tsD Wd t1 t2 t3 t4 t5 t6 n2) :: (n2, o2) :: (ledN [] ++ R)) := by
  refine ⟨_, _, _, _, _, _, nsub N2 (led3 mH1 mH2 (.head _) fun q hq => ?_)⟩
  rw [hR] at hq
  exact mT3 hq
 refine (?_ : wpAny _ _ _ _ _ _)
 refine (let G9 : Prop := _; (?_ : G9))
 obtain ⟨us, F3⟩ : ∃ us, Fr T1.heap s1.heap.objs.size h2 (fun y => if y = Str.ofString "sorter" then some (.ref xa) else if y = Str.ofString "size" then some (.int z tz) else if y = Str.ofString "script" then us else none) := ⟨_, F2⟩
 refine (?_ : wpAny _ _ _ _ _ _)
 clear F2 N2
 have hS0 : SOk Wd [] xa d n2 R ⟨[], o2⟩ := by
  refine ⟨rfl, hs2, .nil, ?_, ?_, Nat.le_refl _, fun e he => nomatch he⟩
  ·have a1 := l1b.1
   have a2 := l1b.2.1
   show [xa, d, n2].Nodup
   simp only [List.nodup_cons, List.mem_cons, List.not_mem_nil, or_false, not_or, List.nodup_nil, and_true, not_false_eq_true]
   exact ⟨⟨ngt l2a, nlt a1⟩, nlt a2⟩
  intro p hp hg
  have h9 : p.1 < d := l1a p (by rw [hR] at hp; exact hp)
  have a2 := l1b.2.1
  have hg' : p.1 ∈ [xa, d, n2] := hg
  simp only [List.mem_cons, List.not_mem_nil, or_false] at hg'
  rcases hg' with e | e | e
  ·rw [e] at h9; exact Nat.lt_asymm h9 l2a
  ·rw [e] at h9; exact Nat.lt_irrefl _ h9
  rw [e] at h9; exact Nat.lt_asymm h9 a2
 have hwz' : ∀ x ∈ ws.map (·.1), x.cps.size = z := fun x hx => by
  refine el1_2 (mm1 hx) ?_; intro q hq e92; subst e92
  exact (hwz q hq).1
 have hlwR : (lw, W.listOf (strVals ws) ew) ∈ R := by rw [hR]; exact mH1
 have hlwN : News T1.heap s1.heap.objs.size h2 R := nsub N3 fun q hq => mT3 hq
 refine list_s (σ := Mine.SS) (fun c => (xa, instObj 362 d) :: (d, tsD Wd t1 t2 t3 t4 t5 t6 n2) :: (n2, c.o2) :: (ledN c.ns ++ R)) (fun _ => []) [Str.ofString "cut"]
  (fun i c => SOk Wd (stepsOf ((ws.map (·.1)).take i) (z - 1)) xa d n2 R c) ⟨[], o2⟩ rfl (News.isList hlwN hlwR) (hlwN _ hlwR).2.1 F3 N3 hS0 (fn0 _) ?turn ?done
 case turn =>
  clear F3 N3 hlwN
  intro i c v u h tk own wr hv hP hoffw hw hf F4 N4
  refine (let Qt1 := _; (?_ : wpAny _ _ _ Qt1 _ _))
  refine (let mt1 : Str → Option Value := _; have F9 : Fr _ _ _ mt1 := F4; ?_)
  clear F4
  have F4 := F9
  clear F9
  obtain ⟨ns, oo⟩ := c
  refine el2_2 (strVals_get hv) ?_; intro x tx e92 hx; subst e92
  dsimp only at hP hoffw F4 N4
  have hxz : x.cps.size = z := hwz' x (List.mem_of_getElem? hx)
  have N5 : News T1.heap s1.heap.objs.size h ((xa, instObj 362 d) :: (d, tsD Wd t1 t2 t3 t4 t5 t6 n2) :: (n2, oo) :: (ledN ns ++ (R ++ own))) := by
   rw [← List.append_assoc]; exact N4
  have hoff2 : ∀ p ∈ R ++ own, p.1 ∉ GK xa d n2 ns := own_off hoffw (P := fun a => a = lw) hf (fun a e => e ▸ hP.off _ hlwR) hP.off
  refine gen_ (ledN ns ++ (R ++ own)) ?_; intro tl htl
  rw [← htl] at N5
  clear N4
  k_steps
  refine ⟨?_⟩
  rename_i h3 tk3 _ _ _ hRg F5 N5 _
  rw [htl] at N5
  have F6 : Fr T1.heap s1.heap.objs.size h3 (frMap F5) := F5
  dsimp only [frMap] at F6
  clear F5
  refine range_s (σ := Mine.SS) (n := z - 1) (fun c => (xa, instObj 362 d) :: (d, tsD Wd t1 t2 t3 t4 t5 t6 n2) :: (n2, c.o2) :: (ledN c.ns ++ (R ++ own))) (fun _ => []) []
   (fun j c => SOk Wd (stepsOf ((ws.map (·.1)).take i) (z - 1) ++ cutsOf x j) xa d n2 (R ++ own) c) ⟨ns, oo⟩ rfl hRg (rng1 z2 z4).1 (rng1 z2 z4).2 F6 N5 ?hP1 (fn0 _) ?turn1 ?done1
  case hP1 => rw [cutsOf_zero, List.append_nil]; exact hP.sub hoff2
  case turn1 =>
   clear F6 N5 hRg hP hoffw hw hf hoff2
   intro j c t u h tk own2 wr2 hj hP hoffw hw hf F4 N4
   refine (let Qt2 := _; (?_ : wpAny _ _ _ Qt2 _ _))
   obtain ⟨ns, oo⟩ := c
   dsimp only at hP hoffw F4 N4
   have N5 : News T1.heap s1.heap.objs.size h ((xa, instObj 362 d) :: (d, tsD Wd t1 t2 t3 t4 t5 t6 n2) :: (n2, oo) :: (ledN ns ++ ((R ++ own) ++ own2))) := by
    rw [← List.append_assoc]; exact N4
   have hoff2 : ∀ p ∈ (R ++ own) ++ own2, p.1 ∉ GK xa d n2 ns := own_off hoffw (P := fun a => False) (fun p hp => .inl (hf p hp)) (fun a e => e.elim) hP.off
   refine gen_ (ledN ns ++ ((R ++ own) ++ own2)) ?_; intro tl htl
   rw [← htl] at N5
   clear N4
   have F6 : Fr T1.heap s1.heap.objs.size h (frMap F4) := F4
   dsimp only [frMap] at F6
   refine (let mt2 : Str → Option Value := _; have F9 : Fr _ _ _ mt2 := F6; ?_)
   clear F6
   have F6 := F9
   clear F9
   clear F4
   k_steps
   refine ⟨?_⟩
   rename Fr _ _ _ _ => F8
   rename News _ _ _ _ => N8
   have hxl : x.length ≤ 4 := Nat.le_trans (Nat.le_of_eq hxz) z4
   have hle : (stepsOf ((ws.map (·.1)).take i) (z - 1) ++ cutsOf x j).length ≤ 12 := by
    rw [List.length_append, stepsOf_len, cutsOf_len, List.length_take, List.length_map]
    have : min i ws.length * (z - 1) ≤ 3 * 3 := Nat.mul_le_mul (Nat.le_trans (Nat.min_le_right _ _) w3) (z13 z4)
    exact Nat.add_le_add this (Nat.le_trans (Nat.le_of_lt hj) (z13 z4))
   refine wpAny_up (ktrTop 350 500 _ (Str.ofString "law") _ _ _ _ _ []) rfl (nbl rfl) rfl rfl (nbl rfl) ?_
   refine add_c _ _ _ _ _ _ _ _ _ _ _ _ _ _ _ _ _ ?mmA ((R ++ own) ++ own2) _ _ _ _ _ xa d n2 oo ns t1 t2 t3 t4 t5 t6 _ _ B1 ?hFA X1 ?hNA T1 ?hkA ?hxA ?hyA hP.dic lo2 hP.nn ?hlA _ ?hbdA hP.scl hP.nd hoff2 ?hrA
   case hFA => exact F8
   case hNA => rw [htl] at N8; exact N8
   case hkA => rfl
   case hxA => exact le_c (Nat.le_trans (by assumption) hxl) rfl
   case hyA => exact le_c (Nat.le_trans (by assumption) hxl) rfl
   case hlA =>
    have hq9 : ns.length ≤ 2 * _ := hP.len
    exact le_c (Nat.le_trans hq9 (Nat.mul_le_mul_left 2 hle)) rfl
   case hbdA => exact le_c hle rfl
   intro ns' o2' h' tk' q1 q2 q3 q4 q5 q6 q7 F9 N9
   k_steps
   show TurnEnd _ _ _ _ _ _ _
   refine s_end (⟨ns', o2'⟩ : Mine.SS) F9 N9 led_app led_own (led_wr hw q5 fun p hp => hoffw p (mT3 (maR _ hp))) ?_ (fn0 _) (fun y g1 _ g2 => ?_)
   ·show SOk Wd (_ ++ cutsOf x (j + 1)) _ _ _ _ _
    rw [cutsOf_snoc, ← List.append_assoc]
    exact hP.next q1 q2 q3 q4 q5 (fun p hp => maL _ hp) q6 q7
   exact (if_neg (ne_rev g1 (by decide))).trans (kst_rest g2)
  clear F6 N5 hRg hP
  intro c u h tk hP F4 N4
  obtain ⟨ns, oo⟩ := c
  dsimp only at hP F4 N4 ⊢
  k_steps
  show TurnEnd _ _ _ _ _ _ _
  rename Fr _ _ _ _ => F9
  rename News _ _ _ _ => N9
  refine s_end (⟨ns, oo⟩ : Mine.SS) F9 N9 led_app led_own (led_wr hw hP.off fun p hp => hoffw p (mT3 (maR _ hp))) ?_ (fn0 _) (fun y g1 _ g2 => ?_)
  ·show SOk Wd (stepsOf ((ws.map (·.1)).take (i + 1)) (z - 1)) _ _ _ _ _
   rw [stepsOf_take hx]
   exact hP.sub fun p hp => hP.off p (maL _ hp)
  exact (if_neg (ne_rev g2 (by decide))).trans ((kst_rest (by rfl)).trans ((if_neg (ne_rev g1 (by decide))).trans (kst_rest g2)))
 clear F3 N3 hlwN hS0
 intro c u h tk hP F4 N4
 obtain ⟨ns, oo⟩ := c
 dsimp only at hP N4
 have hall : (ws.map (·.1)).take (strVals ws).size = ws.map (·.1) := List.take_of_length_le (by unfold strVals; simp)
 rw [hall] at hP
 refine gen_ (u (Str.ofString "word")) ?_; intro uw huw
 refine gen_ (u (Str.ofString "cut")) ?_; intro uc huc
 have F5 : Fr T1.heap s1.heap.objs.size h (fun y => if y = Str.ofString "word" then uw else if y = Str.ofString "cut" then uc else if y = Str.ofString "sorter" then some (.ref xa) else if y = Str.ofString "size" then some (.int z tz) else if y = Str.ofString "script" then us else none) := by
  rw [huw, huc]
  exact fr_eq F4 map_two
 have N5 : News T1.heap s1.heap.objs.size h ((xa, instObj 362 d) :: (d, tsD Wd t1 t2 t3 t4 t5 t6 n2) :: (n2, oo) :: (ledN ns ++ R)) := N4
 clear F4 N4
 refine gen_ (ledN ns ++ R) ?_; intro tl htl
 rw [← htl] at N5
 k_with "exec Try" => (refine stopped ?_)
 k_steps
 k_with_none
 k_with "exec For Name Name cons nil" => (k_here; (rename Fr _ _ _ _ => lF'); (with_unfolding_all refine' For_invVF lF' ?k1 ?k2 ?_; (case k1 => exact rfl); (case k2 => exact rfl); k_whole))
 k_with "exec For Name Name" => (k_here; (rename Fr _ _ _ _ => lF'); (with_unfolding_all refine' For_invVF lF' ?k1 ?k2 ?_; (case k1 => exact rfl); (case k2 => exact rfl); k_whole))
 k_with "exec For Name" => (k_here; (rename Fr _ _ _ _ => lF'); (with_unfolding_all refine' For_invVF lF' ?k1 ?k2 ?_; (case k1 => exact rfl); (case k2 => exact rfl); k_whole))
 k_with "call ref" => first | ((with_unfolding_all show wpAny _ _ (call (Value.ref 371) _) _ _ _); refine stopped ?_) | ((with_unfolding_all show wpAny _ _ (call (Value.ref 312) _) _ _ _); refine stopped ?_) | ((with_unfolding_all show wpAny _ _ (call (Value.ref 317) _) _ _ _); refine stopped ?_) | ((with_unfolding_all show wpAny _ _ (call (Value.ref 378) _) _ _ _); refine stopped ?_) | ((with_unfolding_all show wpAny _ _ (call (Value.ref 388) _) _ _ _); refine stopped ?_) | ((with_unfolding_all show wpAny _ _ (call (Value.ref 383) _) _ _ _); refine stopped ?_) | ((with_unfolding_all show wpAny _ _ (call (Value.ref 242) _) _ _ _); refine stopped ?_) | ((with_unfolding_all show wpAny _ _ (call (Value.ref 196) _) _ _ _); refine stopped ?_) | ((with_unfolding_all show wpAny _ _ (call (Value.ref 395) _) _ _ _); refine stopped ?_)
 k_with "call type:range" => ((rename Fr _ _ _ _ => F'); (rename News _ _ _ _ => N'); with_unfolding_all refine range2_rows F' N' ?_; intro _ _ _ _ _ _ _ _ _; clear F' N')
 k_with "compareOp NotEq ref ref" => refine stopped ?_
 k_with "eval ListComp" => refine stopped ?_
 k_with "pyIter ref" => refine stopped ?_
 k_with "execs cons" => (k_here; (fail_if_success (rename Stop _ => h9)); first | k_made | ((fail_if_success (fail_if_success k_gentoks)); refine (let tk : Nat := _; (?_ : wpAny _ _ _ _ _ ⟨_, _, _, tk, _⟩))) | ((with_reducible refine wpAny_execs_cons ?_); (try dsimp only); refine (let qv : Flow → Shared → Prop := _; (?_ : wpAny _ _ _ qv _ _))))
 k_with "execs nil" => (k_here; (fail_if_success (fail_if_success k_gentoks)); refine (let tk : Nat := _; (?_ : wpAny _ _ _ _ _ ⟨_, _, _, tk, _⟩)))
 refine ⟨?_⟩
 rename Fr _ _ _ _ => F6
 rename News _ _ _ _ => N6
 have hwo' : ∀ x ∈ ws.map (·.1), PyData.strOk x = true := fun x hx => by
  refine el1_2 (mm1 hx) ?_; intro q hq e92; subst e92
  exact okW_ok (hwz q hq).2
 have hfacts := hP.facts hwz' hwo'
 have hnl : ns.length ≤ 18 := by
  have h9 : ns.length ≤ 2 * _ := hP.len
  rw [stepsOf_len, List.length_map] at h9
  have : ws.length * (z - 1) ≤ 3 * 3 := Nat.mul_le_mul w3 (z13 z4)
  exact Nat.le_trans h9 (Nat.mul_le_mul_left 2 this)
 refine wpAny_mono (Q := fun fl s' => Stop (∃ sm h' tk' Dq ys ep, fl = Flow.next ∧ s' = { s1 with heap := h', toks := tk' } ∧ ys.toList = readyV ns ∧ (sm = true → ∀ e ∈ ns, Acc (SuccR ns) e.nm) ∧ (sm = false → ∃ e ∈ ns, ¬ Acc (SuccR ns) e.nm) ∧
  Fr T1.heap s1.heap.objs.size h' (fun y => if y = Str.ofString "smooth" then some (.bool sm) else if y = Str.ofString "word" then uw else if y = Str.ofString "cut" then uc else if y = Str.ofString "sorter" then some (.ref xa) else if y = Str.ofString "size" then some (.int z tz) else if y = Str.ofString "script" then us else none) ∧
  News T1.heap s1.heap.objs.size h' ((xa, instObj 362 d) :: (d, tsR Wd t1 t2 t3 t4 t5 t6 n2 (.ref Dq) 0 0) :: (n2, oo) :: (ledN ns ++ (Dq, W.listOf ys ep) :: R)) ∧
  (∀ p ∈ (xa, instObj 362 d) :: (d, tsD Wd t1 t2 t3 t4 t5 t6 n2) :: (n2, oo) :: tl, p.1 ≠ Dq))) ?htry ?hrest (fun _ _ y => y)
 case htry =>
  refine wpAny_Try_except ?_
  k_steps
  refine ⟨?_⟩
  rename Fr _ _ _ _ => F7
  rename News _ _ _ _ => N7
  refine wpAny_up (ktrTop 350 500 _ (Str.ofString "law") _ _ _ _ _ []) rfl (nbl rfl) rfl rfl (nbl rfl) ?_
  refine prepare_c _ _ _ _ _ _ _ _ _ _ _ _ _ _ _ _ ?mmP R _ xa d n2 oo ns t1 t2 t3 t4 t5 t6 _ _ B1 ?hFP X1 ?hNP T1 ?hkP X1 T1 hP.dic lo2 hP.nn ?hlP hP.closed ?hlnP hP.nd tl htl hP.off ?hrP ?heP
  case hFP => exact F7
  case hNP => rw [htl] at N7; exact N7
  case hkP => rfl
  case hlP => exact le_c hnl rfl
  case hlnP => intro e he; have := (hfacts e he).1; exact le_c (Nat.le_trans this z4) rfl
  case hrP =>
   intro h8 tk8 Dq ys ep q1 q2 F8 N8 q3
   clear F7 N7
   k_steps
   exact ⟨true, _, _, Dq, ys, ep, rfl, rfl, q1, fun _ => q2, (fun e => nomatch e), F8, N8, q3⟩
  intro G e t vs l its el h8 tk8 Dq ys ep q1 q2 F8 R8 q4 q5
  clear F7 N7
  k_steps
  refine caught_bottom (KF := Mine.K Wd.params) R8 F8 B1 q4 X1 T1 ?exC ?qC (fun h9 F9 N9 => ?kC)
  case exC => k_is
  case qC => kts_isx
  clear F8 R8
  k_steps
  rename Fr _ _ _ _ => F10
  rename News _ _ _ _ => N10
  exact ⟨false, _, _, Dq, ys, ep, rfl, rfl, q1, (fun e => nomatch e), fun _ => q2, fr_over F10, nsub N10 (fun q hq => .tail _ hq), q5⟩
 rintro fl s' ⟨sm, h8, tk8, Dq, ys, ep, rfl, rfl, q1, q2, q3, F8, N8, q4⟩
 clear F6 N6
 have hys := readyL_vals q1
 subst hys
 refine (let G9 : Prop := _; (?_ : G9))
 obtain ⟨gs, hg1, hg2, hg3, hg4, hg5⟩ := grun_ex (es := stepsOf (ws.map (·.1)) (z - 1)) (by rw [hP.lv0, List.length_map]; exact hnl) 18 0 (proj2 ns) _ (by rw [hP.lv0, List.length_map]; exact hnl) hP.kst
 refine (?_ : wpAny _ _ _ _ _ _)
 have hgn := grun_names hg1
 have N9 : News T1.heap s1.heap.objs.size h8 ((xa, instObj 362 d) :: (d, tsR Wd t1 t2 t3 t4 t5 t6 n2 (.ref Dq) 0 0) :: (n2, oo) :: (Dq, W.listOf (strVals (readyL ns)) ep) :: tl) := nsub N8 (sbc (.head _) (sbc mH1 (sbc mH2 (fun q hq => by
  refine mT2 (.tail _ ?_)
  refine mst hq ?_ fun hq => ?_
  ·exact maR _ (.head _)
  rw [htl] at hq
  refine ast hq (fun hq => ?_) fun hq => ?_
  ·exact maL _ hq
  exact maR _ (.tail _ hq)))))
 clear N8
 (try dsimp only)
 k_steps
 refine ⟨?_⟩
 rename Fr _ _ _ _ => F10
 rename News _ _ _ _ => N10
 rw [htl] at N10
 have hDG : Dq ∉ GK xa d n2 ns := by
  intro hm
  rcases mc1 hm with e | hm
  ·exact q4 _ (.head _) e.symm
  rcases mc1 hm with e | hm
  ·exact q4 _ mH1 e.symm
  rcases mc1 hm with e | hm
  ·exact q4 _ mH2 e.symm
  refine el1_2 (mm1 hm) ?_; intro q hq e
  exact q4 q (mT3 (by rw [htl]; exact maL _ hq)) e
 have hoffG : ∀ p ∈ R, p.1 ∉ Dq :: GK xa d n2 ns := by
  intro p hp hm
  rcases mc1 hm with e | hm
  ·exact q4 p (mT3 (by rw [htl]; exact maR _ hp)) e
  exact hP.off p hp hm
 refine wpAny_up (ktrTop 340 400 _ (Str.ofString "law") _ _ _ _ _ []) rfl (nbl rfl) rfl rfl (nbl rfl) ?_
 refine groups_c _ _ _ _ _ _ _ _ _ _ _ _ _ _ _ _ _ ?mmG R _ xa d n2 Dq oo ns (readyL ns) gs ep t1 t2 t3 t4 t5 t6 0 0 _ _ B1 ?hFG X1 ?hNG T1 ?hkG hP.dic lo2 hP.nn ?hlG ?hlnG hP.nd hoffG hDG ?hsclG ?hclG hg1 ?hglG ?hrlG ?hrnG ?hsoG ?hrG
 case hFG => exact F10
 case hNG => exact N10
 case hkG => rfl
 case hlG => exact le_c hnl rfl
 case hlnG => intro e he; have := (hfacts e he).1; exact le_c (Nat.le_trans this z4) rfl
 case hsclG =>
  intro e he
  have h9 := hP.scl e he
  rw [stepsOf_len, List.length_map] at h9
  have : ws.length * (z - 1) ≤ 3 * 3 := Nat.mul_le_mul w3 (z13 z4)
  exact le_c (Nat.le_trans h9 this) rfl
 case hclG =>
  intro x b hb
  rw [hP.pr] at hb
  exact (hP.names b).mpr ⟨_, gOf_sc_mem.mp hb, .inr rfl⟩
 case hglG => exact le_c hg2 rfl
 case hrlG =>
  have : (readyL ns).length ≤ ns.length := by
   unfold readyL
   rw [List.length_map]
   exact List.length_filter_le _ _
  exact le_c (Nat.le_trans this hnl) rfl
 case hrnG =>
  intro q hq
  refine el1_2 (mm1 hq) ?_; intro e he e92; subst e92
  exact mm2 ⟨e, (mf1 he).1, rfl⟩
 case hsoG => exact fun e he => (hfacts e he).2
 intro Gd garr eG own gs' h9 tk9 r1 r2 r3 F11 N11
 clear F10 N10 hDG hoffG q4
 refine gen_ ((D, (⟨.type "tuple", none, .seq #[.ref lw, .int (z : Int) tz] et, #[]⟩ : Obj)) :: own) ?_; intro tlo htlo
 have N12 : News T1.heap s1.heap.objs.size h9 ((Gd, W.listOf garr eG) :: (lw, W.listOf (strVals ws) ew) :: (s1.heap.objs.size + 1, oW) :: tlo) := nsub N11 fun q hq => by
  rw [hR]
  refine mst hq ?_ fun hq => ?_
  ·exact .head _
  refine mst hq ?_ fun hq => ?_
  ·exact .tail _ (maR _ mH1)
  refine mst hq ?_ fun hq => ?_
  ·exact .tail _ (maR _ mH2)
  rw [htlo] at hq
  refine mst hq ?_ fun hq => ?_
  ·exact .tail _ (maR _ (.head _))
  exact .tail _ (maL _ hq)
 clear N11
 k_steps
 refine ⟨?_⟩
 rename Fr _ _ _ _ => F13
 rename News _ _ _ _ => N13
 refine wpAny_up (ktrTop 340 400 _ (Str.ofString "law") _ _ _ _ _ []) rfl (nbl rfl) rfl rfl (nbl rfl) ?_
 refine around_c _ _ _ _ _ _ _ _ _ _ _ _ _ _ _ _ _ ?mmR ((Gd, W.listOf garr eG) :: (s1.heap.objs.size + 1, oW) :: tlo) _ lw ws ew z tz _ _ B1 ?hFR X1 ?hNR T1 ?hkR w3 z2 z4 (fun q hq => (hwz q hq).1) (fun q hq => okW_ok (hwz q hq).2) ?hrR
 case hFR => exact F13
 case hNR =>
  refine nsub N13 (sbc mH1 (sbc (.head _) (fun q hq => mT2 hq)))
 case hkR => rfl
 intro b h11 tk11 hb F14 N14
 have hsb := smooth_around hP hwz' (by rw [List.length_map]; exact w3) q2 q3 hb
 subst hsb
 clear F13 N13 hb
 have hsm : (sm == !sm) = false := by cases sm <;> rfl
 k_steps
 refine ⟨?_⟩
 rename Fr _ _ _ _ => F15
 rename News _ _ _ _ => N15
 refine wpAny_up (ktrTop 340 400 _ (Str.ofString "law") _ _ _ _ _ []) rfl (nbl rfl) rfl rfl (nbl rfl) ?_
 refine chains_c _ _ _ _ _ _ _ _ _ _ _ _ _ _ _ _ _ ?mmK ((Gd, W.listOf garr eG) :: (s1.heap.objs.size + 1, oW) :: tlo) _ lw ws ew z tz _ _ B1 ?hFK X1 ?hNK T1 ?hkK w3 z2 z4 (fun q hq => (hwz q hq).1) ?hsoK ?hrK
 case hFK => exact F15
 case hNK => exact N15
 case hkK => rfl
 case hsoK =>
  rintro ⟨f, b⟩ hq
  have h9 := part_facts hwz' hwo' hq
  exact ⟨h9.1.2, h9.2.2⟩
 intro Gc carr eC ownC gc ess h12 tk12 d12 c1 c2 c3 c4 c5 F16 N16
 clear F15 N15
 have hgeq : gs' = gc := hg5 ess gc c4 c1 c2 (fun b => by rw [c3, hP.lv0]; exact (hP.names b).symm) gs' r2
 refine gen_ (ownC ++ tlo) ?_; intro tl2 htl2
 have N17 : News T1.heap s1.heap.objs.size h12 ((Gc, W.listOf carr eC) :: (Gd, W.listOf garr eG) :: (lw, W.listOf (strVals ws) ew) :: (s1.heap.objs.size + 1, oW) :: tl2) := nsub N16 (sbc (.head _) (sbc (.tail _ (maR _ mH1)) (sbc (.tail _ (maR _ (.head _))) (sbc (.tail _ (maR _ mH2)) (fun q hq => by
  rw [htl2] at hq
  refine ast hq (fun hq => ?_) fun hq => ?_
  ·exact .tail _ (maL _ hq)
  exact .tail _ (maR _ (mT3 hq)))))))
 clear N16
 have hok1 : ∀ l ∈ gs', ∀ x ∈ l, PyData.strOk x = true := by
  intro l hl x hx
  refine el1_2 (paired_mem r2 l hl) ?_; intro l0 hl0 hsub
  have h9 := hgn l0 hl0 x (hsub x hx)
  unfold proj2 at h9
  rw [List.map_map] at h9
  refine el1_2 (mm1 h9) ?_; intro e he e92; subst e92
  exact (hfacts e he).2
 k_steps
 refine ⟨?_⟩
 rename Fr _ _ _ _ => F18
 rename News _ _ _ _ => N18
 rw [hgeq] at r1 hok1
 refine kqd_ne_same N18 mH1 rfl (xs := garr.toList) (ka := eG) (by rw [Array.toArray_toList]) r1 (fun p hp => ?_) (.head _) rfl (ys := carr.toList) (kb := eC) (by rw [Array.toArray_toList]) c5 (fun p hp => ?_) (groups_ok hok1) ?_ ?_
 ·rw [htl2, htlo]
  exact mT4 (maR _ (.tail _ hp))
 ·rw [htl2]
  exact mT4 (maL _ hp)
 ·ke_room
 have hgl : garr.size = gs.length := by
  have h9 := r1.length
  rw [List.length_map, Array.length_toList] at h9
  rw [h9, ← hgeq, paired_len r2]
 clear r1 r2 r3 c1 c2 c3 c4 c5 hgeq hok1 hsm hg1 hgn htl2 htlo q1 hg5
 have N19 : News T1.heap s1.heap.objs.size h12 ((lw, W.listOf (strVals ws) ew) :: (Gd, W.listOf garr eG) :: (s1.heap.objs.size + 1, oW) :: tl2) := nsub N18 (sbc mH2 (sbc mH1 (fun q hq => mT3 hq)))
 clear N18
 k_steps
 refine ⟨?_⟩
 rename Fr _ _ _ _ => F20
 rename News _ _ _ _ => N20
 refine gen_ (ws.map (·.1)) ?_; intro wl hwl
 have hwlen : wl.length = ws.length := by rw [hwl, List.length_map]
 have hszw : (strVals ws).size = ws.length := by unfold strVals; simp
 have hwl1 : ∀ x ∈ wl, x.cps.size = z := by rw [hwl]; exact hwz'
 refine cq_list (h₀ := T1.heap) (L := s1.heap.objs.size) (m := frMap F20) (by with_unfolding_all rfl) (by decide) (by rfl) (by decide) ?_
 k_steps
 refine ⟨?_⟩
 rename Fr _ _ _ _ => F21
 rename News _ _ _ _ => N21
 dsimp only [frMap]
 refine gen_ ((lw, W.listOf (strVals ws) ew) :: (Gd, W.listOf garr eG) :: (s1.heap.objs.size + 1, oW) :: tl2) ?_; intro nw hnw
 refine cgo_src (σ := Mine.CL) (.list _ _ _ _) (fun I D C => ct_list2) rfl rfl (src_list rfl (News.isList N21 (.head _))) F21 (hnw ▸ N21) (fun hm => (N21 _ (.head _)).2.1 (ms1 hm).symm)
  (fun D c => (D, W.listOf c.its c.ep) :: nw) (fun D i c m₁ => StrsAre c.its.toList ((wl.take i).flatMap fun a => wl.map fun b => pcS a b) ∧ c.its.size = i * ws.length) (fun D oD => ⟨#[], 0, []⟩) (fun D oD ho => by subst ho; rfl) (fun D oD ho => ⟨by simpa using StrsAre.nil, by simp⟩) ?cturn1 ?cdone1
 case cturn1 =>
  intro C2 D2 I i v c oC m₁ h t own2 E' hDC hCI hDI hoff hi hv1 hP hnw4 hown hof hn F2 N2
  refine el2_2 (strVals_get hv1) ?_; intro x tx e92 hx0; subst e92
  have hx : wl[i]? = some x := by rw [hwl]; exact hx0
  refine wpAny_tests_nil ?_
  rw [if_pos rfl]
  refine inner_go (by intro _; rfl) ?_
  refine gen_ (α := Str → Option Value) (fun y => if y = Str.ofString "one" then some (Value.str x tx) else m₁ y) ?_; intro m₃ hm₃
  have hrow : m₃ (Str.ofString "one") = some (Value.str x tx) := by rw [hm₃]; rfl
  rw [← hm₃] at hn
  refine gen_ ((Gd, W.listOf garr eG) :: (tl2 ++ own2)) ?_; intro tlx htlx
  have hmx : ∀ q, q ∈ nw ++ own2 ↔ q = (s1.heap.objs.size + 1, oW) ∨ q = (lw, W.listOf (strVals ws) ew) ∨ q ∈ tlx := by
   intro q
   rw [hnw, htlx]
   simp only [List.mem_append, List.mem_cons]
   constructor
   ·rintro ((h | h | h | h) | h) <;> simp [h]
   rintro (h | h | h | h | h) <;> simp [h]
  have N7 : News T1.heap s1.heap.objs.size h ((C2, oC) :: (D2, W.listOf c.its c.ep) :: (s1.heap.objs.size + 1, oW) :: (lw, W.listOf (strVals ws) ew) :: tlx) := nsub N2 (sbc (.head _) (sbc mH1 (fun q hq => by
   refine mT2 ((hmx q).mpr ?_)
   refine asp hq ?_ fun hq => ?_
   ·exact .inl rfl
   refine asp hq ?_ fun hq => ?_
   ·exact .inr (.inl rfl)
   exact .inr (.inr hq))))
  have hlwn : (lw, W.listOf (strVals ws) ew) ∈ nw := by rw [hnw]; exact .head _
  have hD2 : ∀ q ∈ nw ++ own2, q.1 ≠ D2 ∧ q.1 ≠ C2 := by
   intro q hq
   refine ast hq (fun hq => ?_) fun hq => ?_
   ·exact ⟨(hoff q hq).2.1, (hoff q hq).1⟩
   rcases hof q hq with e2 | e2
   ·rw [e2]; exact ⟨hDI, hCI⟩
   rw [ms1 e2]
   exact ⟨(hoff _ hlwn).2.1, (hoff _ hlwn).1⟩
  have F7 : Fr T1.heap s1.heap.objs.size h (frMap F2) := F2
  dsimp only [frMap] at F7
  clear N2 N21 F21 F2
  k_steps
  refine ⟨?_⟩
  rename Fr _ _ _ _ => F8
  rename News _ _ _ _ => N8
  refine gen_ ((s1.heap.objs.size + 1, oW) :: (lw, W.listOf (strVals ws) ew) :: tlx) ?_; intro tq htq
  have htqm : ∀ q, q ∈ nw ++ own2 ↔ q ∈ tq := by
   intro q
   rw [hmx q, htq]
   simp only [List.mem_cons]
  have hwz0 : ∀ q ∈ tq, q.1 ≠ C2 ∧ q.1 ≠ D2 := fun q hq => ⟨(hD2 q ((htqm q).mpr hq)).2, (hD2 q ((htqm q).mpr hq)).1⟩
  have hlwz : (lw, W.listOf (strVals ws) ew) ∈ tq := by rw [htq]; exact mH1
  refine cin_src (σ := Mine.CL) (.list _ _ _ _) rfl rfl (fun I => ct_list2i) rfl rfl (src_list rfl (News.isList N8 mH3)) (fun hm => (N8 _ mH3).2.1 (ms1 hm).symm) (fun hm => (hwz0 _ hlwz).1 (ms1 hm).symm)
   (fun c => (D2, W.listOf c.its c.ep) :: tq)
   (fun j c m₁ => StrsAre c.its.toList (((wl.take i).flatMap fun a => wl.map fun b => pcS a b) ++ (wl.take j).map fun b => pcS x b) ∧ c.its.size = i * ws.length + j ∧ m₁ (Str.ofString "one") = some (.str x tx)) c F8 (htq ▸ N8) hn ?inw ?iP ?iturn ?idone
  case inw =>
   intro q hq e
   rcases mc1 hq with rfl | hq
   ·exact hDC e
   exact (hwz0 q hq).1 e
  case iP => exact ⟨by simpa using hP.1, hP.2, hrow⟩
  case iturn =>
   clear N8 hn
   intro I2 j v2 c2 oC2 m₂ h2 tk2 own3 E2 hI2C hIoff hj hv2 hP2 hnw5 hown2 hof2 hn2 F9 N9
   refine el0_3 (hP2) ?_; (try clear hP2); intro q1 q2 q3
   refine el2_2 (strVals_get hv2) ?_; intro y ty e92 hy0; subst e92
   have hy : wl[j]? = some y := by rw [hwl]; exact hy0
   refine wpAny_tests_nil ?_
   rw [if_pos rfl]
   refine emitL_go ?_
   refine gen_ (α := Str → Option Value) (fun z => if z = Str.ofString "two" then some (Value.str y ty) else m₂ z) ?_; intro m₄ hm₄
   have hword : m₄ (Str.ofString "two") = some (Value.str y ty) := by rw [hm₄]; rfl
   have hrow2 : m₄ (Str.ofString "one") = some (Value.str x tx) := by rw [hm₄]; exact q3
   rw [← hm₄] at hn2
   refine gen_ (tq ++ own3) ?_; intro tlz htlz
   have N10 : News T1.heap s1.heap.objs.size h2 ((C2, oC2) :: (D2, W.listOf c2.its c2.ep) :: tlz) := htlz ▸ N9
   clear N9
   have hxl : x.length ≤ 4 := by
    have := hwl1 x (List.mem_of_getElem? hx)
    show x.cps.size ≤ 4
    exact Nat.le_trans (Nat.le_of_eq this) z4
   have hyl : y.length ≤ 4 := by
    have := hwl1 y (List.mem_of_getElem? hy)
    show y.cps.size ≤ 4
    exact Nat.le_trans (Nat.le_of_eq this) z4
   have F10 : Fr T1.heap s1.heap.objs.size h2 (frMap F9) := F9
   dsimp only [frMap] at F10
   clear F9
   k_steps
   rename Fr _ _ _ _ => F11
   rename News _ _ _ _ => N11
   have hiw : i < ws.length := by rw [← hszw]; exact hi
   have hjw : j < ws.length := by rw [← hszw]; exact hj
   refine append_V F11 N11 mH1 (size_le (by
    have e1 : i * ws.length ≤ 3 * 3 := Nat.mul_le_mul (Nat.le_trans (Nat.le_of_lt hiw) w3) w3
    exact le_c (Nat.le_trans (Nat.le_of_eq q2) (Nat.add_le_add e1 (Nat.le_trans (Nat.le_of_lt hjw) w3))) rfl)) fun h8 v8 hv8 F12 N12 => ?_
   obtain ⟨t9, rfl⟩ : ∃ t9, v8 = .str (pcS x y) t9 := ⟨_, hv8⟩
   have hD3 : ∀ q ∈ tq ++ own3, q.1 ≠ D2 := by
    intro q hq
    refine ast hq (fun hq => ?_) fun hq => ?_
    ·exact (hwz0 q hq).2
    rcases hof2 q hq with e2 | e2
    ·rw [e2]; exact (hIoff _ (.head _)).symm
    rw [ms1 e2]; exact (hwz0 _ hlwz).2
   show CEnd _ _ _ _ _ _ _ _ _ _ _
   refine c_end (⟨c2.its.push (.str (pcS x y) t9), c2.ep + 1, []⟩ : Mine.CL) F12 N12 (oC := oC2) (m' := m₄) (msN (.head _) hDC.symm) hn2 (fun q hq => ?_) (fun q hq => ?_) (fun q hq hm => ?_) ⟨?_, by show (c2.its.push _).size = _; rw [Array.size_push, q2]; rfl, hrow2⟩
   ·refine mst hq ?_ fun hq => ?_
    ·exact mem_setAt_self mH1
    have hq' : q ∈ tq ++ own3 := maL _ hq
    exact msN (mT2 (htlz ▸ hq')) (hD3 q hq')
   ·have hq' : q ∈ tq ++ own3 := maR _ hq
    exact msN (mT2 (htlz ▸ hq')) (hD3 q hq')
   ·rcases mc1 hq with rfl | hq
    ·exact hnw5 _ (.head _) hm
    exact hnw5 q (.tail _ hq) hm
   rw [List.take_add_one, hy, List.map_append, ← List.append_assoc, Array.toList_push]
   exact strsAre_snoc q1
  intro c2 oC2 m2 h2 tk2 hP2 F9 N9 hn2 hnw5
  show CEnd _ _ _ _ _ _ _ _ _ _ _
  refine el0_3 (hP2) ?_; (try clear hP2); intro q1 q2 q3
  refine c_end c2 F9 N9 (.head _) hn2 (fun q hq => ?_) (fun q hq => ?_) (fun q hq hm => ?_) ⟨?_, ?_⟩
  ·refine mst hq ?_ fun hq => ?_
   ·exact mH1
   exact mT2 ((htqm q).mp (maL _ hq))
  ·exact mT2 ((htqm q).mp (maR _ hq))
  ·rcases mc1 hq with rfl | hq
   ·exact hnw4 _ (.head _) hm
   exact hnw4 q (.tail _ hq) hm
  ·rw [List.take_add_one, hx, List.flatMap_append]
   have e9 : List.take (strVals ws).size wl = wl := List.take_of_length_le (by rw [hszw, hwlen]; exact Nat.le_refl _)
   rw [e9] at q1
   simpa using q1
  rw [q2, hszw, Nat.succ_mul]
 intro C2 D2 c oC m' h2 tk2 hDC hoff hP F2 N2 hn2 hnw4
 show compPost _ _ _ _ _ _ _ _ _
 refine post_none (L := s1.heap.objs.size) F2 N2 hn2 hnw4 fun h3 F3 N3 => ?_
 refine el0_2 (hP) ?_; (try clear hP); intro p1 p2
 obtain ⟨cits, cep, css⟩ := c
 dsimp only [frMap] at p1 p2 F3 N3
 rw [hnw] at N3
 rw [List.take_of_length_le (by rw [hszw, hwlen]; exact Nat.le_refl _)] at p1
 have p1 : StrsAre cits.toList (pieces wl) := p1
 have hpl : (pieces wl).length ≤ 9 := by
  rw [pieces_len, hwlen]
  exact Nat.mul_le_mul w3 w3
 have hpc : ∀ x ∈ pieces wl, x.length ≤ 6 := by
  intro x hx
  refine el1_2 (List.mem_flatMap.mp hx) ?_; intro a ha hx
  refine el1_2 (mm1 hx) ?_; intro b hb e92; subst e92
  rw [pcS_len (hwl1 a ha) (hwl1 b hb) z2]
  exact Nat.sub_le_sub_right (Nat.mul_le_mul_left 2 z4) 2
 clear F2 N2 hoff hnw4 hDC hn2 N21
 k_steps
 refine KT.join_B (ys := cits.toList) (l := pieces wl) (g := fun a => a) 6 (by rw [Array.toArray_toList]; exact News.isList N3 (.head _)) (strsAre_carried p1) hpc (le_c hpl rfl) (by decide +kernel) fun t8 k8 => ?_
 have hjoin : (PySem.Txt.join (Str.ofString "|") ((pieces wl).map fun a => a)).length ≤ 64 := by
  rw [List.map_id']
  exact Nat.le_trans (join_bar_len hpc) (le_c (Nat.mul_le_mul_right 7 hpl) rfl)
 refine gen_ (PySem.Txt.join (Str.ofString "|") ((pieces wl).map fun a => a)) ?_; intro inn hinn
 rw [← hinn] at hjoin ⊢
 rw [List.map_id'] at hinn
 have N4 : News T1.heap s1.heap.objs.size h3 ((lw, W.listOf (strVals ws) ew) :: (Gd, W.listOf garr eG) :: (s1.heap.objs.size + 1, oW) :: tl2) := nsub N3 fun q hq => .tail _ hq
 clear N3 p1 p2 hpl hpc hnw
 k_steps
 refine ⟨?_⟩
 rename Fr _ _ _ _ => F30
 rename News _ _ _ _ => N30
 refine list_s (σ := Bool) (fun c => (lw, W.listOf (strVals ws) ew) :: (Gd, W.listOf garr eG) :: (s1.heap.objs.size + 1, oW) :: tl2) (fun c => [(Str.ofString "across", .bool c)]) [Str.ofString "k", Str.ofString "place", Str.ofString "run"]
  (fun i c => (c = true ↔ ∃ x ∈ wl.take i, Mine.cl x <:+: Mine.cl inn)) false rfl (News.isList N30 (.head _)) (N30 _ (.head _)).2.1 F30 N30 (by simp) (fs1 rfl) ?aturn ?adone
 case aturn =>
  clear F30 N30
  intro i c v u h tk own wr hv hP hoffw hw hf F4 N4
  refine (let Qt3 := _; (?_ : wpAny _ _ _ Qt3 _ _))
  refine el2_2 (strVals_get hv) ?_; intro x tx e92 hx0; subst e92
  have hx : wl[i]? = some x := by rw [hwl]; exact hx0
  have hxz : x.cps.size = z := hwl1 x (List.mem_of_getElem? hx)
  refine gen_ (tl2 ++ own) ?_; intro tl3 htl3
  have N5 : News T1.heap s1.heap.objs.size h ((lw, W.listOf (strVals ws) ew) :: (Gd, W.listOf garr eG) :: (s1.heap.objs.size + 1, oW) :: tl3) := by rw [htl3]; exact N4
  clear N4
  have F5 : Fr T1.heap s1.heap.objs.size h (frMap F4) := F4
  dsimp only [frMap] at F5
  refine (let mt3 : Str → Option Value := _; have F9 : Fr _ _ _ mt3 := F5; ?_)
  clear F5
  have F5 := F9
  clear F9
  clear F4
  k_steps
  refine ⟨?_⟩
  rename Fr _ _ _ _ => F6
  rename News _ _ _ _ => N6
  have hxl : x.length ≤ 64 := Nat.le_trans (Nat.le_of_eq hxz) (le_c z4 rfl)
  refine wpAny_up (ktrTop 350 500 _ (Str.ofString "law") _ _ _ _ _ []) rfl (nbl rfl) rfl rfl (nbl rfl) ?_
  refine mk_c _ _ _ _ _ _ _ _ _ _ _ _ _ _ _ _ _ ?mmS ((lw, W.listOf (strVals ws) ew) :: (Gd, W.listOf garr eG) :: (s1.heap.objs.size + 1, oW) :: tl3) _ x inn tx t8 _ _ B1 ?hFS X1 ?hNS T1 ?hkS hxl hjoin ?hrS
  case hFS => exact F6
  case hNS => exact N6
  case hkS => rfl
  intro sx G h8 tk8 hS F7 N7
  clear F6 N6
  have JX9 := Frag.In.keeps X1 F7.keep
  refine (let G9 : Prop := _; (?_ : G9))
  obtain ⟨dd, b2, bj, bp, o9, BB, u1, u2, v1, v2, v3, v4, v5, v6, v7, v8, v9, v10, lb1, lb2, hG, hq1, hq2, hq3⟩ := id hS
  refine (?_ : wpAny _ _ _ _ _ _)
  have N8 := N7
  rw [hG] at N8
  simp only [List.cons_append] at N8
  refine gen_ (ledB BB ++ ((lw, W.listOf (strVals ws) ew) :: (Gd, W.listOf garr eG) :: (s1.heap.objs.size + 1, oW) :: tl3)) ?_; intro tl4 htl4
  rw [← htl4] at N8
  have hGs : Stop (G = _) := ⟨hG⟩
  have htls : Stop (tl4 = _) := ⟨htl4⟩
  clear N7 hq1 hq2 hG htl4
  k_steps
  refine ⟨?_⟩
  rename Fr _ _ _ _ => F8
  rename News _ _ _ _ => N9
  have N10 : News T1.heap s1.heap.objs.size h8 (G ++ ((lw, W.listOf (strVals ws) ew) :: (Gd, W.listOf garr eG) :: (s1.heap.objs.size + 1, oW) :: tl3)) := by
   rw [hGs.out]
   simp only [List.cons_append]
   rw [← htls.out]
   exact N9
  refine wpAny_up (ktrTop 350 500 _ (Str.ofString "law") _ _ _ _ _ []) rfl (nbl rfl) rfl rfl (nbl rfl) ?_
  refine flm0_c _ _ _ _ _ _ _ _ _ _ _ _ _ _ _ _ _ ?mmL G ((lw, W.listOf (strVals ws) ew) :: (Gd, W.listOf garr eG) :: (s1.heap.objs.size + 1, oW) :: tl3) _ x inn sx _ _ B1 ?hFL X1 ?hNL T1 ?hkL hS hxl hjoin ?hrL
  case hFL => exact F8
  case hNL => exact N10
  case hkL => rfl
  intro mq dm m1 m2 m3 h9 tk9 F9 N11 hmq
  clear F8 N9 N10 htls hGs
  have N12 : News T1.heap s1.heap.objs.size h9 ((mq, matchObj dm (.int (flm x inn (0 : Int) (x.length : Int) (0 : Int) (inn.length : Int)).bi m1) (.int (flm x inn (0 : Int) (x.length : Int) (0 : Int) (inn.length : Int)).bj m2) (.int (flm x inn (0 : Int) (x.length : Int) (0 : Int) (inn.length : Int)).bs m3)) :: (lw, W.listOf (strVals ws) ew) :: (Gd, W.listOf garr eG) :: (s1.heap.objs.size + 1, oW) :: tl3) := nsub N11 (sbc (.head _) (fun q hq => .tail _ (maR _ hq)))
  clear N11
  have hflm := flm_ok (x := x) (y := inn) (alo := 0) (ahi := (x.length : Int)) (blo := 0) (bhi := (inn.length : Int)) (by decide) (by decide) (Int.natCast_nonneg _) (Int.natCast_nonneg _)
  refine gen_ (flm x inn (0 : Int) (x.length : Int) (0 : Int) (inn.length : Int)) ?_; intro bb hbb
  rw [← hbb] at N12 hflm
  have hlong := flmOk_long hflm
  have hful := flm_full hflm (Nat.le_trans (Nat.le_trans (Nat.le_succ 1) z2) (Nat.le_of_eq hxz.symm))
  clear hmq hflm hbb hS
  k_steps
  rename Fr _ _ _ _ => F13
  rename News _ _ _ _ => N13
  refine unpack_match rfl F13 N13 X1 (.head _) rfl rfl fun h10 tk10 F14 N14 => ?_
  clear F13 N13
  have N15 : News T1.heap s1.heap.objs.size h10 ((lw, W.listOf (strVals ws) ew) :: (Gd, W.listOf garr eG) :: (s1.heap.objs.size + 1, oW) :: tl3) := nsub N14 fun q hq => .tail _ hq
  clear N14
  k_steps
  refine ⟨?_⟩
  rename Fr _ _ _ _ => F15
  rename News _ _ _ _ => N16
  rename_i lk _ llk
  refine wpAny_up (ktrTop 350 500 _ (Str.ofString "law") _ _ _ _ _ []) rfl (nbl rfl) rfl rfl (nbl rfl) ?_
  refine longest_c _ _ _ _ _ _ _ _ _ _ _ _ _ _ _ _ _ ?mmT ((lk, W.listOf #[Value.int bb.bi m1, Value.int bb.bj m2, Value.int bb.bs m3] 0) :: (lw, W.listOf (strVals ws) ew) :: (Gd, W.listOf garr eG) :: (s1.heap.objs.size + 1, oW) :: tl3) _ x inn tx t8 _ _ B1 ?hFT X1 ?hNT T1 ?hkT hxl hjoin ?hrT
  case hFT => exact F15
  case hNT => exact N16
  case hkT => rfl
  intro l2 k2 pl2 r2 u4 u5 u6 h16 tk16 hrel F17 N17 hlt
  refine el0_3 (hlong.uniq hrel) ?_; intro e1 e2 e3
  subst e1 e2 e3
  clear F15 N16 hrel hlong
  k_steps
  refine ⟨?_⟩
  rename Fr _ _ _ _ => F18
  rename News _ _ _ _ => N18
  refine kqd_ne_same N18 mH1 rfl (xs := [Value.int bb.bi m1, Value.int bb.bj m2, Value.int bb.bs m3]) (ka := 0) rfl (datInts3 (news := []) _ _ _ _ _ _) (fn0 _) (.head _) rfl (ys := [Value.int bb.bi u4, Value.int bb.bj u5, Value.int bb.bs u6]) (kb := 0) rfl (datInts3 (news := []) _ _ _ _ _ _) (fn0 _) (ints_ok3 _ _ _) (by ke_room) ?_
  have N19 : News T1.heap s1.heap.objs.size h16 ((lw, W.listOf (strVals ws) ew) :: (Gd, W.listOf garr eG) :: (s1.heap.objs.size + 1, oW) :: tl3) := nsub N18 fun q hq => mT2 hq
  clear N18
  cases c with
  | true =>
   k_steps
   rename Fr _ _ _ _ => F20
   rename News _ _ _ _ => N20
   show TurnEnd _ _ _ _ _ _ _
   refine s_end true F20 N20 (fun q hq => ?_) (fun q hq => ?_) hoffw ?_ (fs1 rfl) (fun y g1 g3 g2 => ?_)
   ·rw [htl3]
    exact maL (as := (lw, W.listOf (strVals ws) ew) :: (Gd, W.listOf garr eG) :: (s1.heap.objs.size + 1, oW) :: tl2) own hq
   ·exact mT3 (by rw [htl3]; exact maR _ hq)
   ·rw [ex_take hx, ← hP]
    simp [← hful, show x.length = z from hxz]
   refine (if_neg (g3 _ (.head _))).trans ?_
   refine (if_neg (ne_rev g2 (by decide))).trans ?_
   refine (if_neg (ne_rev g2 (by decide))).trans ?_
   refine (if_neg (ne_rev g2 (by decide))).trans ?_
   refine (if_neg (ne_rev g1 (by decide))).trans ?_
   exact kst_rest2 g2 (fs1 (g3 _ (.head _)))
  | false =>
   k_steps
   rename Fr _ _ _ _ => F20
   rename News _ _ _ _ => N20
   show TurnEnd _ _ _ _ _ _ _
   refine s_end (bb.bs == (z : Int)) F20 N20 (fun q hq => ?_) (fun q hq => ?_) hoffw ?_ (fs1 rfl) (fun y g1 g3 g2 => ?_)
   ·rw [htl3]
    exact maL (as := (lw, W.listOf (strVals ws) ew) :: (Gd, W.listOf garr eG) :: (s1.heap.objs.size + 1, oW) :: tl2) own hq
   ·exact mT3 (by rw [htl3]; exact maR _ hq)
   ·rw [ex_take hx, ← hP]
    simp [← hful, show x.length = z from hxz]
   refine (if_neg (g3 _ (.head _))).trans ?_
   refine (if_neg (ne_rev g2 (by decide))).trans ?_
   refine (if_neg (ne_rev g2 (by decide))).trans ?_
   refine (if_neg (ne_rev g2 (by decide))).trans ?_
   refine (if_neg (ne_rev g1 (by decide))).trans ?_
   exact kst_rest2 g2 (fs1 (show y ≠ Str.ofString "across" from g3 (Str.ofString "across", _) (.head _)))
 clear F30 N30
 intro ca u h tk hPa F4 N4
 refine gen_ (u (Str.ofString "word")) ?_; intro uw2 huw2
 have F5 : Fr T1.heap s1.heap.objs.size h (frMap F4) := F4
 dsimp only [frMap] at F5
 have N5 : News T1.heap s1.heap.objs.size h ((lw, W.listOf (strVals ws) ew) :: (Gd, W.listOf garr eG) :: (s1.heap.objs.size + 1, oW) :: tl2) := N4
 clear F4 N4
 dsimp only
 k_steps
 refine ⟨?_⟩
 rename Fr _ _ _ _ => F40
 rename News _ _ _ _ => N40
 refine list_s (σ := Bool) (fun _ => ((lw, W.listOf (strVals ws) ew) :: (Gd, W.listOf garr eG) :: (s1.heap.objs.size + 1, oW) :: tl2)) (fun c => [(Str.ofString "meets", .bool c)]) [Str.ofString "two", Str.ofString "matcher", Str.ofString "cut", Str.ofString "k", Str.ofString "place", Str.ofString "run"]
  (fun i c => (c = true ↔ ∃ a ∈ wl.take i, ∃ b ∈ wl, MeetP z a b)) false rfl (News.isList N40 (.head _)) (N40 _ (.head _)).2.1 F40 N40 (by simp) (fs1 rfl) ?mturn ?mdone
 case mturn =>
  clear F40 N40
  intro i c v u h tk own wr hv hP2 hoffw hw hf F4 N4
  refine (let Qt4 := _; (?_ : wpAny _ _ _ Qt4 _ _))
  refine el2_2 (strVals_get hv) ?_; intro x tx e92 hx0; subst e92
  have hx : wl[i]? = some x := by rw [hwl]; exact hx0
  have hxz : x.cps.size = z := hwl1 x (List.mem_of_getElem? hx)
  refine gen_ (tl2 ++ own) ?_; intro tl3 htl3
  have N5 : News T1.heap s1.heap.objs.size h ((lw, W.listOf (strVals ws) ew) :: (Gd, W.listOf garr eG) :: (s1.heap.objs.size + 1, oW) :: tl3) := by rw [htl3]; exact N4
  clear N4
  have F5 : Fr T1.heap s1.heap.objs.size h (frMap F4) := F4
  dsimp only [frMap] at F5
  refine (let mt4 : Str → Option Value := _; have F9 : Fr _ _ _ mt4 := F5; ?_)
  clear F5
  have F5 := F9
  clear F9
  clear F4
  k_steps
  refine ⟨?_⟩
  rename Fr _ _ _ _ => F41
  rename News _ _ _ _ => N41
  refine list_s (σ := Bool) (fun _ => ((lw, W.listOf (strVals ws) ew) :: (Gd, W.listOf garr eG) :: (s1.heap.objs.size + 1, oW) :: tl3)) (fun c => [(Str.ofString "meets", .bool c)]) [Str.ofString "matcher", Str.ofString "cut", Str.ofString "k", Str.ofString "place", Str.ofString "run"]
   (fun j e => (e = true ↔ c = true ∨ ∃ b ∈ wl.take j, MeetP z x b)) c rfl (News.isList N41 (.head _)) (N41 _ (.head _)).2.1 F41 N41 (by simp) (fs1 rfl) ?mturn2 ?mdone2
  case mturn2 =>
   clear F41 N41
   intro j c2 v2 u2 h2 tk2 own2 wr2 hv2 hP3 hoffw2 hw2 hf2 F4 N4
   refine (let Qt5 := _; (?_ : wpAny _ _ _ Qt5 _ _))
   refine el2_2 (strVals_get hv2) ?_; intro y ty e92 hy0; subst e92
   have hy : wl[j]? = some y := by rw [hwl]; exact hy0
   have hyz : y.cps.size = z := hwl1 y (List.mem_of_getElem? hy)
   refine gen_ (tl3 ++ own2) ?_; intro tl4 htl4
   have N5 : News T1.heap s1.heap.objs.size h2 ((lw, W.listOf (strVals ws) ew) :: (Gd, W.listOf garr eG) :: (s1.heap.objs.size + 1, oW) :: tl4) := by rw [htl4]; exact N4
   clear N4
   have F5 : Fr T1.heap s1.heap.objs.size h2 (frMap F4) := F4
   dsimp only [frMap] at F5
   refine (let mt5 : Str → Option Value := _; have F9 : Fr _ _ _ mt5 := F5; ?_)
   clear F5
   have F5 := F9
   clear F9
   clear F4
   have hxl : x.length ≤ 64 := Nat.le_trans (Nat.le_of_eq hxz) (le_c z4 rfl)
   have hyl : y.length ≤ 64 := Nat.le_trans (Nat.le_of_eq hyz) (le_c z4 rfl)
   k_steps
   refine ⟨?_⟩
   rename Fr _ _ _ _ => F42
   rename News _ _ _ _ => N42
   refine wpAny_up (ktrTop 350 500 _ (Str.ofString "law") _ _ _ _ _ []) rfl (nbl rfl) rfl rfl (nbl rfl) ?_
   refine mk_c _ _ _ _ _ _ _ _ _ _ _ _ _ _ _ _ _ ?mmS2 ((lw, W.listOf (strVals ws) ew) :: (Gd, W.listOf garr eG) :: (s1.heap.objs.size + 1, oW) :: tl4) _ x y tx ty _ _ B1 ?hFS2 X1 ?hNS2 T1 ?hkS2 hxl hyl ?hrS2
   case hFS2 => exact F42
   case hNS2 => exact N42
   case hkS2 => rfl
   intro sx G h8 tk8 hS F7 N7
   clear F42 N42
   refine (let G9 : Prop := _; (?_ : G9))
   obtain ⟨dd, b2, bj, bp, o9, BB, u1, u2', v1, v2, v3, v4, v5, v6, v7, v8, v9, v10, lb1, lb2, hG, hq1, hq2, hq3⟩ := id hS
   refine (?_ : wpAny _ _ _ _ _ _)
   refine gen_ (((lw, W.listOf (strVals ws) ew) :: (Gd, W.listOf garr eG) :: (s1.heap.objs.size + 1, oW) :: tl4)) ?_; intro nw4 hnw4
   have N8 := N7
   rw [← hnw4, hG] at N8
   simp only [List.cons_append] at N8
   refine gen_ (ledB BB ++ nw4) ?_; intro tl5 htl5
   rw [← htl5] at N8
   have hGs : Stop (G = _) := ⟨hG⟩
   have htls : Stop (tl5 = _) := ⟨htl5⟩
   clear N7 hq1 hq2 hG htl5
   k_steps
   refine ⟨?_⟩
   rename Fr _ _ _ _ => F43
   rename News _ _ _ _ => N43
   rename IsRange _ _ _ _ _ _ _ _ => hRg
   have N44 : Stop (News T1.heap s1.heap.objs.size _ (G ++ nw4)) := ⟨nsub N43 (fun q hq => by
    rw [hGs.out] at hq
    simp only [List.cons_append] at hq
    rw [← htls.out] at hq
    exact hq)⟩
   refine range_s (σ := Bool) (n := z - 1) (fun _ => G ++ nw4) (fun c => [(Str.ofString "meets", .bool c)]) [Str.ofString "k", Str.ofString "place", Str.ofString "run"]
    (fun l e => (e = true ↔ c2 = true ∨ ∃ t, 1 ≤ t ∧ t < 1 + l ∧ MeetAt z x y t)) c2 rfl hRg (rng1 z2 z4).1 (rng1 z2 z4).2 F43 N44.out ?rP0 (fs1 rfl) ?rturn ?rdone
   case rP0 =>
    constructor
    ·exact .inl
    rintro (g | ⟨t, g1, g2, _⟩)
    ·exact g
    exact absurd g1 (Nat.not_le.mpr g2)
   case rturn =>
    clear F43 N43 N44 hRg htls
    intro l e tt u3 h3 tk3 own3 wr3 hl hP4 hoffw3 hw3 hf3 F4 N4
    refine (let Qt6 := _; (?_ : wpAny _ _ _ Qt6 _ _))
    refine gen_ (α := Nat) (1 + l) ?_; intro cn hcn
    have cn1 : 1 ≤ cn := by rw [hcn]; exact Nat.le_add_right 1 l
    have cn2 : cn < z := by rw [hcn, Nat.add_comm]; exact Nat.add_lt_of_lt_sub hl
    have ec : (1 + (l : Int)) = (cn : Int) := by rw [hcn]; rfl
    have F5 : Fr T1.heap s1.heap.objs.size h3 (frMap F4) := F4
    dsimp only [frMap] at F5
    rw [ec] at F5
    refine (let mt6 : Str → Option Value := _; have F9 : Fr _ _ _ mt6 := F5; ?_)
    clear F5
    have F5 := F9
    clear F9
    have N5 := N4
    rw [hGs.out] at N5
    simp only [List.cons_append] at N5
    refine gen_ ((ledB BB ++ nw4) ++ own3) ?_; intro tl6 htl6
    rw [← htl6] at N5
    have htls6 : Stop (tl6 = _) := ⟨htl6⟩
    have hN4 : Stop (News T1.heap s1.heap.objs.size h3 ((G ++ nw4) ++ own3)) := ⟨N4⟩
    clear F4 N4 htl6 ec
    k_steps
    refine ⟨?_⟩
    rename Fr _ _ _ _ => F44
    clear N5
    have hxL : (x.length : Int) = z := congrArg (Nat.cast (R := Int)) hxz
    have hyL : (y.length : Int) = z := congrArg (Nat.cast (R := Int)) hyz
    refine gen_ (nw4 ++ own3) ?_; intro nt hnt
    have N46 : News T1.heap s1.heap.objs.size h3 (G ++ nt) := by
     rw [hnt, ← List.append_assoc]
     exact hN4.out
    refine wpAny_up (ktrTop 350 500 _ (Str.ofString "law") _ _ _ _ _ []) rfl (nbl rfl) rfl rfl (nbl rfl) ?_
    refine flm_c _ _ _ _ _ _ _ _ _ _ _ _ _ _ _ _ _ ?mmM G nt _ x y sx ((z : Int) - (cn : Int)) (z : Int) (0 : Int) (cn : Int) _ _ _ _ _ _ B1 ?hFM X1 ?hNM T1 ?hkM hS hxl hyl (Int.sub_nonneg_of_le (Int.ofNat_le.mpr (Nat.le_of_lt cn2))) (Int.sub_le_self _ (Int.natCast_nonneg _)) (Int.le_of_eq hxL.symm) (Int.le_refl 0) (Int.natCast_nonneg _) (Int.le_trans (Int.ofNat_le.mpr (Nat.le_of_lt cn2)) (Int.le_of_eq hyL.symm)) ?hrM
    case hFM => exact F44
    case hNM => exact N46
    case hkM => rfl
    intro mq dm m1 m2 m3 h9 tk9 F9 N11 hmq
    clear F44 N46 htls6 hN4
    refine gen_ (G ++ nt) ?_; intro tl7 htl7
    have hm7 : ∀ q ∈ (G ++ nw4) ++ own3, q ∈ tl7 := fun q hq => by rw [htl7, hnt, ← List.append_assoc]; exact hq
    rw [← htl7] at N11
    have hflm : FlmOk x y ((z : Int) - (cn : Int)) (z : Int) (0 : Int) (cn : Int) (flm x y ((z : Int) - (cn : Int)) (z : Int) (0 : Int) (cn : Int)) := flm_ok (Int.sub_nonneg_of_le (Int.ofNat_le.mpr (Nat.le_of_lt cn2))) (Int.le_refl 0) (Int.sub_le_self _ (Int.natCast_nonneg _)) (Int.natCast_nonneg _)
    refine gen_ ((flm x y ((z : Int) - (cn : Int)) (z : Int) (0 : Int) (cn : Int))) ?_; intro bb hbb
    rw [← hbb] at N11 hflm
    have hlong := cut_long hxz hyz cn1 cn2 hflm
    have hpart : bb.bs = (cn : Int) ↔ MeetAt z x y cn := flm_part hxz hyz cn1 cn2 hflm
    have hcut : (∃ t, 1 ≤ t ∧ t < 1 + (l + 1) ∧ MeetAt z x y t) ↔ (∃ t, 1 ≤ t ∧ t < 1 + l ∧ MeetAt z x y t) ∨ MeetAt z x y cn := by
     constructor
     ·rintro ⟨t, g1, g2, g3⟩
      rcases Nat.lt_or_ge t (1 + l) with g | g
      ·exact .inl ⟨t, g1, g, g3⟩
      have : t = cn := (Nat.le_antisymm (Nat.le_of_lt_succ g2) g).trans hcn.symm
      exact .inr (this ▸ g3)
     rintro (⟨t, g1, g2, g3⟩ | g)
     ·exact ⟨t, g1, nls g2, g3⟩
     exact ⟨cn, cn1, by rw [hcn]; exact Nat.lt_succ_self _, g⟩
    have hs1 : (Txt.slice x (some ((z : Int) - (cn : Int))) none).length ≤ 64 := by
     rw [← cl_len, show (z : Int) - (cn : Int) = ((z - cn : Nat) : Int) from (Int.ofNat_sub (Nat.le_of_lt cn2)).symm, slice_drop (Nat.le_trans (Nat.sub_le _ _) (Nat.le_of_eq hxz.symm)), List.length_drop, cl_len]
     exact Nat.le_trans (Nat.sub_le _ _) hxl
    have hs2 : (Txt.slice y none (some (cn : Int))).length ≤ 64 := by
     rw [← cl_len, slice_take (Nat.le_trans (Nat.le_of_lt cn2) (Nat.le_of_eq hyz.symm)), List.length_take, cl_len]
     exact Nat.le_trans (Nat.min_le_right _ _) hyl
    clear hmq hflm hbb hS htl7 hcn
    k_steps
    rename Fr _ _ _ _ => F13
    rename News _ _ _ _ => N13
    refine unpack_match rfl F13 N13 X1 (.head _) rfl rfl fun h10 tk10 F14 N14 => ?_
    clear F13 N13
    have N15 : News T1.heap s1.heap.objs.size h10 tl7 := nsub N14 fun q hq => .tail _ hq
    clear N14
    k_steps
    refine ⟨?_⟩
    rename Fr _ _ _ _ => F15
    rename News _ _ _ _ => N16
    rename_i lk _ _ _ l17 _ _ _ _ _ _ h17 t17 k17 _
    have N17 : ∃ t9, News T1.heap s1.heap.objs.size h17 ((lk, W.listOf #[Value.int (bb.bi - (z : Int) + (cn : Int)) t9, Value.int bb.bj m2, Value.int bb.bs m3] 0) :: tl7) := ⟨_, N16⟩
    refine el1_1 (N17) ?_; intro t9 N17
    clear N16
    refine wpAny_up (ktrTop 350 500 _ (Str.ofString "law") _ _ _ _ _ []) rfl (nbl rfl) rfl rfl (nbl rfl) ?_
    refine longest_c _ _ _ _ _ _ _ _ _ _ _ _ _ _ _ _ _ ?mmW ((lk, W.listOf #[Value.int (bb.bi - (z : Int) + (cn : Int)) t9, Value.int bb.bj m2, Value.int bb.bs m3] 0) :: tl7) _ (Txt.slice x (some ((z : Int) - (cn : Int))) none) (Txt.slice y none (some (cn : Int))) _ _ _ _ B1 ?hFW X1 ?hNW T1 ?hkW hs1 hs2 ?hrW
    case hFW => exact F15
    case hNW => exact N17
    case hkW => rfl
    intro l2 k2 pl2 r2 u4 u5 u6 h18 tk18 hrel F17 N18 hlt
    refine el0_3 (hlong.uniq hrel) ?_; intro e1 e2 e3
    have e1 : k2 = bb.bi - (z : Int) + (cn : Int) := e1.symm.trans (sub3 _ _ _)
    subst e1 e2 e3
    clear F15 N17 hrel hlong
    k_steps
    refine ⟨?_⟩
    rename Fr _ _ _ _ => F18
    rename News _ _ _ _ => N19
    refine kqd_ne_same N19 mH1 rfl (xs := [Value.int (bb.bi - (z : Int) + (cn : Int)) t9, Value.int bb.bj m2, Value.int bb.bs m3]) (ka := 0) rfl (datInts3 (news := []) _ _ _ _ _ _) (fn0 _) (.head _) rfl (ys := [Value.int (bb.bi - (z : Int) + (cn : Int)) u4, Value.int bb.bj u5, Value.int bb.bs u6]) (kb := 0) rfl (datInts3 (news := []) _ _ _ _ _ _) (fn0 _) (ints_ok3 _ _ _) (by ke_room) ?_
    have N20 : News T1.heap s1.heap.objs.size h18 tl7 := nsub N19 fun q hq => mT2 hq
    clear N19
    cases e with
    | true =>
     k_steps
     rename Fr _ _ _ _ => F50
     rename News _ _ _ _ => N50
     show TurnEnd _ _ _ _ _ _ _
     refine s_end true F50 N50 (fun q hq => hm7 q (maL _ hq)) (fun q hq => hm7 q (maR _ hq)) hoffw3 ?_ (fs1 rfl) (fun v g1 g3 g2 => ?_)
     ·rw [hcut, ← or_assoc, ← hP4, ← hpart]
      simp
     have n1 : v ≠ Str.ofString "meets" := g3 (Str.ofString "meets", _) (.head _)
     refine (if_neg n1).trans ?_
     refine (if_neg (ne_rev g2 (by decide))).trans ?_
     refine (if_neg (ne_rev g2 (by decide))).trans ?_
     refine (if_neg (ne_rev g2 (by decide))).trans ?_
     refine (if_neg (ne_rev g1 (by decide))).trans ?_
     exact kst_rest2 g2 (fs1 n1)
    | false =>
     k_steps
     rename Fr _ _ _ _ => F50
     rename News _ _ _ _ => N50
     show TurnEnd _ _ _ _ _ _ _
     refine s_end (bb.bs == (cn : Int)) F50 N50 (fun q hq => hm7 q (maL _ hq)) (fun q hq => hm7 q (maR _ hq)) hoffw3 ?_ (fs1 rfl) (fun v g1 g3 g2 => ?_)
     ·rw [hcut, ← or_assoc, ← hP4, ← hpart]
      simp
     have n1 : v ≠ Str.ofString "meets" := g3 (Str.ofString "meets", _) (.head _)
     refine (if_neg n1).trans ?_
     refine (if_neg (ne_rev g2 (by decide))).trans ?_
     refine (if_neg (ne_rev g2 (by decide))).trans ?_
     refine (if_neg (ne_rev g2 (by decide))).trans ?_
     refine (if_neg (ne_rev g1 (by decide))).trans ?_
     exact kst_rest2 g2 (fs1 n1)
   clear F43 N43 N44 hRg htls
   intro e u3 h3 tk3 hP4 F4 N4
   have F5 : Fr T1.heap s1.heap.objs.size h3 (frMap F4) := F4
   dsimp only [frMap] at F5
   refine gen_ (tl4 ++ G) ?_; intro tl6 htl6
   have N5 : News T1.heap s1.heap.objs.size h3 ((lw, W.listOf (strVals ws) ew) :: (Gd, W.listOf garr eG) :: (s1.heap.objs.size + 1, oW) :: tl6) := nsub N4 fun q hq => by
    rw [hnw4]
    refine mst hq ?_ fun hq => ?_
    ·exact maR _ (.head _)
    refine mst hq ?_ fun hq => ?_
    ·exact maR _ mH1
    refine mst hq ?_ fun hq => ?_
    ·exact maR _ mH2
    rw [htl6] at hq
    refine ast hq (fun hq => ?_) fun hq => ?_
    ·exact maR _ (mT3 hq)
    exact maL _ hq
   clear F4 N4
   dsimp only
   k_steps
   rename Fr _ _ _ _ => F50
   rename News _ _ _ _ => N50
   show TurnEnd _ _ _ _ _ _ _
   refine s_end e F50 N50 (fun q hq => ?_) (fun q hq => ?_) hoffw2 ?_ (fs1 rfl) (fun y g1 g3 g2 => ?_)
   ·rw [htl6, htl4, List.append_assoc]
    exact maL (as := (lw, W.listOf (strVals ws) ew) :: (Gd, W.listOf garr eG) :: (s1.heap.objs.size + 1, oW) :: tl3) (own2 ++ G) hq
   ·rw [htl6, htl4]
    exact mT3 (maL _ (maR _ hq))
   ·rw [ex_take hy, ← or_assoc, ← hP3, hP4]
    refine or_congr Iff.rfl (exists_congr fun t => and_congr Iff.rfl (and_congr ?_ Iff.rfl))
    exact lt_z z2
   have n1 : y ≠ Str.ofString "meets" := g3 (Str.ofString "meets", _) (.head _)
   have n3 : [Str.ofString "k", Str.ofString "place", Str.ofString "run"].contains y = false := by
    rw [List.contains_cons, Bool.or_eq_false_iff, List.contains_cons, Bool.or_eq_false_iff] at g2
    exact g2.2.2
   refine (if_neg (ne_rev g2 (by decide))).trans ?_
   refine (kst_rest2 n3 (fs1 n1)).trans ?_
   refine (if_neg (ne_rev g2 (by decide))).trans ?_
   refine (if_neg (ne_rev g1 (by decide))).trans ?_
   exact kst_rest2 g2 (fs1 n1)
  clear F41 N41
  intro e u2 h2 tk2 hP3 F4 N4
  have F5 : Fr T1.heap s1.heap.objs.size h2 (frMap F4) := F4
  dsimp only [frMap] at F5
  have N5 : News T1.heap s1.heap.objs.size h2 ((lw, W.listOf (strVals ws) ew) :: (Gd, W.listOf garr eG) :: (s1.heap.objs.size + 1, oW) :: tl3) := N4
  clear F4 N4
  dsimp only
  k_steps
  rename Fr _ _ _ _ => F50
  rename News _ _ _ _ => N50
  show TurnEnd _ _ _ _ _ _ _
  refine s_end e F50 N50 (fun q hq => ?_) (fun q hq => ?_) hoffw ?_ (fs1 rfl) (fun y g1 g3 g2 => ?_)
  ·rw [htl3]
   exact maL (as := (lw, W.listOf (strVals ws) ew) :: (Gd, W.listOf garr eG) :: (s1.heap.objs.size + 1, oW) :: tl2) own hq
  ·exact mT3 (by rw [htl3]; exact maR _ hq)
  ·rw [ex_take hx, ← hP2, hP3, List.take_of_length_le (by rw [hszw, hwlen]; exact Nat.le_refl _)]
  have n1 : y ≠ Str.ofString "meets" := g3 (Str.ofString "meets", _) (.head _)
  have n2 : [Str.ofString "matcher", Str.ofString "cut", Str.ofString "k", Str.ofString "place", Str.ofString "run"].contains y = false := by
   rw [List.contains_cons, Bool.or_eq_false_iff] at g2
   exact g2.2
  refine (if_neg (ne_rev g2 (by decide))).trans ?_
  refine (kst_rest2 n2 (fs1 n1)).trans ?_
  refine (if_neg (ne_rev g1 (by decide))).trans ?_
  exact kst_rest2 g2 (fs1 n1)
 clear F40 N40
 intro cm u h tk hPm F4 N4
 have F5 : Fr T1.heap s1.heap.objs.size h (frMap F4) := F4
 dsimp only [frMap] at F5
 have N5 : News T1.heap s1.heap.objs.size h ((lw, W.listOf (strVals ws) ew) :: (Gd, W.listOf garr eG) :: (s1.heap.objs.size + 1, oW) :: tl2) := N4
 clear F4 N4
 dsimp only
 have hG : ∀ n, (sm = true ∧ garr.size < n + 1) ↔ ¬ ∃ b, b ∈ Mine.lv (stepsOf wl (z - 1)) n := by
  intro n
  rw [hgl, hwl]
  exact groups_lv hP hwz' (by rw [List.length_map]; exact w3) q2 q3 hg3 hg4 n
 have htake : wl.take (strVals ws).size = wl := List.take_of_length_le (by rw [hszw, hwlen]; exact Nat.le_refl _)
 have hokw : ∀ x ∈ wl, okW x = true := by
  intro x hx
  rw [hwl] at hx
  refine el1_2 (mm1 hx) ?_; intro q hq e92; subst e92
  exact (hwz q hq).2
 rw [htake] at hPa hPm
 rw [hinn] at hPa
 have hA : ca = (!(sm && decide (garr.size < 4))) := bool_join (hPa.trans (across_iff hwl1 z2 hokw)) (hG 3)
 have hM : cm = (!(sm && decide (garr.size < 3))) := bool_join (hPm.trans (meets_iff hwl1)) (hG 2)
 clear hG htake hokw
 clear hPa hPm
 cases sm with
 | false =>
  have hA : ca = true := hA
  have hM : cm = true := hM
  subst hA hM
  k_steps
 | true =>
  by_cases hg4 : garr.size < 4
  ·have hA : ca = false := by rw [hA, decide_eq_true hg4]; rfl
   subst hA
   by_cases hg3 : garr.size < 3
   ·have hM : cm = false := by rw [hM, decide_eq_true hg3]; rfl
    subst hM
    k_steps
   have hM : cm = true := by rw [hM, decide_eq_false hg3]; rfl
   subst hM
   k_steps
  have hA : ca = true := by rw [hA, decide_eq_false hg4]; rfl
  subst hA
  have hM : cm = true := by rw [hM, decide_eq_false (fun h => hg4 (nls h))]; rfl
  subst hM
  k_steps
end
end Mine
theorem PySem.Challenge.cw_nq0317_01_holds : PySem.Challenge.rw_nq0317_01.Holds := by
 exact holds_law (by decide +kernel) Mine.hdWalk
