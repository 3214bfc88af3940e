import PyProof.Rows.All
import Wide.All
import OpenK.AllK
import Wide.FinOn
import KE.KTryDeepN
import Lean
import PySem.Challenge.RW_nq0317_02
set_option Elab.async false
set_option bootstrap.genMatcherCode false
set_option genInjectivity false
set_option genSizeOf false
set_option genSizeOfSpec false
set_option genCtorIdx false
set_option compiler.extract_closed false
set_option maxRecDepth 100000
set_option maxHeartbeats 0
set_option linter.unusedVariables false
set_option tactic.hygienic false
namespace Mine
@[elab_as_elim] theorem rwR {α:Type u}{P:α→Prop}{a b:α}(h:a=b)(k:P b):P a:=h▸k
@[elab_as_elim] theorem rwL {α:Type u}{P:α→Prop}{a b:α}(h:b=a)(k:P b):P a:=h▸k
structure Mk:Prop
abbrev Thr (A G:Prop):Prop:=(Mk→A→G)→A→G
end Mine
set_option hygiene false in
local macro_rules | `(tactic| walk_at $s:str) => `(tactic| k_extra $s)
set_option hygiene false in
local macro_rules
  | `(tactic| rewrite [$e:term]) => `(tactic| ((fail_if_success (fail_if_success rewrite (config := {}) [$e:term])); first | refine Mine.rwR ($e ..) ?_ | refine Mine.rwR (propext ($e ..)) ?_ | fail))
  | `(tactic| rewrite [$r, $s,*]) => `(tactic| (rewrite [$r]; rewrite [$s,*]))
  | `(tactic| show $t:term) => `(tactic| first | refine (?_ : $t) | fail)
  | `(tactic| k_qdec) => `(tactic| k_extra "Q")
  | `(tactic| omega) => `(tactic| lia)
  | `(tactic| dsimp only) => `(tactic| k_extra "D")
  | `(tactic| k_unfold) => `(tactic| k_extra "U")
  | `(tactic| k_room) => `(tactic| k_extra "R")
  | `(tactic| size_fits) => `(tactic| exact Nat.le_of_ble_eq_true rfl)
  | `(tactic| k_steps) => `(tactic| k_extra "K")
open PySem PySem.W PyProof.Rows PySem.Calls PySem.Challenge
namespace Mine
open _root_.PySem.Str renaming ofString → A0, empty → OD
open _root_.PySem.W renaming listOf → A1, instObj → AT, ktrTop → Bi, methodObj → Eu, KtsDicts → FV, KtsTurn → FY, dictOf → Fk, kda_item → GH, kas_sort → HI, code_def → HJ, boot_heap → IJ, kms_lo → Iv, behindTheImports → LS, binds_K → Q1
open _root_.PySem renaming wpAny_bind → A2, Shared → A4, wpAny_pure → AC, intKind → AM, Around → AO, Expr → AW, Program → AY, wpAny_mono → Ac, wpAny_holding → Ak, Params → As, intKind_is → BH, wpAny_call → BN, valueAt → BR, sysModules → BV, wpAny_assign_Name → Ba, builtinLookup_eq_fast → Bc, codeAny → Bt, wpAny_call_entry → Bz, wpAny_callSpecial?_slot → C0, isSubtype_type → C1, stored → C7, ExcName → CG, typeLookup_type → CH, codeAny_builtin → CI, compEnvC → CM, SetTable → CN, pyIter → CR, wpAny_setField → Cg, foldedSetIterable → Ch, wpAny_updateSeq → Cm, wpAny_tests_nil → Cn, codeAny_of_tree → Co, plainId_quiet → Ct, starEach → Cx, wpAny_pyIter_list → DB, pyNext → DL, assign → DM, Result → DN, sizeLine_eq → DP, wpAny_askSetting → DQ, PassesOwn → DR, wpAny_newObj_type → Db, getAttr → Dc, typeLookup → Df, wpAny_letOwnedTupleGo_listiter → Do, scanBound → Dp, rawInt → Dr, isSubtype → Ds, compTurn → Dt, checkBoundCall → Du, OsState → EA, letOwnedTupleGo → EF, wpAny_attempt → EJ, Comprehension → EL, wpAny_storeName_local → EP, wpAny_setState_of → ET, fastTable_eq_tree → EU, wpAny_seqItems → Eb, compPost → Ec, wpAny_isInstance → Eo, wpAny_standAt → FC, sizeLine → FD, wpAny_of_eq → FW, updateSeq → FX, strKind → Ft, backTo → Fv, wpAny_rule → GW, wpAny_execs_cons → GX, specialOf → GY, isInstance → Ga, getMethod → Gb, checkBuiltinCall → Gc, entryFor → Gp, wpAny_specialOf → HG, typeOf → HH, wpAny_typeOf → Hd, slot_listiter_next → I6, GenState → IC, wpAny_field → J3, wpAny_comprehension_free → JS, argsOk → JU, treeTable → KV, setField → KW, relayAll → KX, callWith → KY, holding → LR, wpAny_ite_split → Lb, wpAny_execs_nil → Le, getAttrByItsOwn → Lf, codeAny_call_builtin → O0, boundAndCalled → O1, standAt → OA, setAttr → OB, pickOrder → OC, IsRange → OE, wpAny_setEntries_of → Pp, wpAny_pyIter_range → RQ, wpAny_pyIter_slot → Ti, wpAny_pyIter_dict → Tj, spliced → Tk, codeAny_mono → Tl
open _root_.PySem.Value renaming ref → A3, int → A5, str → AD, none → AG, type → AL, bool → B6, builtin → CS
open _root_.Nat renaming ne_of_lt → A7, ne_of_gt → AN, lt_succ_of_lt → AU, le_of_ble_eq_true → Ad, lt_succ_self → Al, le_trans → Am, le_refl → Ap, lt_irrefl → Av, lt_trans → Ay, zero_le → B0, lt_of_lt_of_le → B5, le_of_lt → Be, le_antisymm → Cd, lt_of_le_of_lt → DG, le_succ → Dh, add_le_add → EG, succ_ne_self → EQ, lt_or_ge → ER, not_lt_zero → Ed, lt_succ_of_le → FF, le_of_lt_succ → FG, succ_le_succ → Fl, le_of_not_lt → Fm, sub_succ_lt_self → Fx, succ_pos → Iw, lt_asymm → Ix, le_add_left → J4, eq_of_beq_eq_true → JV, not_succ_le_self → Ka, pos_of_ne_zero → MN, lt_of_le_of_ne → MO, le_of_eq → O2, le_add_right → Pq, beq → SA, sub_add_eq → Tq
open _root_.List renaming forall_mem_nil → AA, length_map → AB, map_append → AI, mem_of_getElem? → AK, getElem?_map → AX, size_toArray → Ae, length_append → Ai, map_map → Ao, not_mem_nil → Au, getElem?_eq_getElem → Ax, map_congr_left → Az, take_of_length_le → BA, mem_cons → BD, cons_append → BJ, getD_eq_getElem?_getD → BO, append_assoc → BP, nil_append → BS, getElem?_toArray → Bj, length → Bk, length_take → Bm, map_cons → Bx, append_nil → C5, take_succ → CB, length_cons → CF, find?_some → CO, nodup_nil → CY, nodup_append → CZ, nodup_cons → Ce, mem_append → Cf, mem_singleton → Cj, find?_eq_none → Ck, flatMap_append → Cy, range → DH, length_filter_le → DI, getElem?_eq_none → DJ, mem_of_find?_eq_some → DT, eq_nil_of_length_eq_zero → Di, countP_eq_length_filter → Dx, length_singleton → E0, take_add_one → E4, find? → EH, map_nil → ES, drop_eq_getElem_cons → EX, foldl_cons → Ee, getElem?_take → Ep, getElem?_drop → Er, filter_append → Es, length_range → FH, foldl_append → FI, find?_map → FJ, ext_getElem? → FK, length_drop → Fn, getElem_mem → Fo, filter_cons → Fp, toArray → Ge, flatten_cons → HL, flatMap_cons → HM, find?_append → HN, count_append → HO, pairwise_singleton → I8, filter_cons_of_pos → IA, filter_cons_of_neg → IB, range_succ → J5, forIn_cons → J6, perm_append_comm → JW, mem_append_left → Kb, getElem_of_mem → LW, getElem?_range → LX, flatten_append → LY, map_flatMap → Pr, countP_cons → Ps, map → Tr, length_eraseIdx_of_lt → Ts
open _root_.PySem.Heap renaming get?_push_of_some → AE, lt_size → AZ, get?_push_size → Aa, get?_update_self → Aw, get?_update_other → BF, size_push → Bq, get?_none_of_le → Cz, SameBut → EB, NewExc → O6
open _root_.Int renaming le_trans → AP, lt_of_lt_of_le → AR, sub_nonneg_of_le → Ab, natCast_nonneg → Ag, lt_of_le_of_lt → Ah, le_add_of_nonneg_right → Aj, le_of_lt → BC, lt_add_of_pos_right → BK, add_nonneg → BQ, le_refl → BX, toNat_of_nonneg → Bl, add_assoc → CC, eq_ofNat_of_zero_le → CT, le_of_eq → Ca, add_lt_add_left → Cb, lt_add_one_of_le → Cr, sub_le_sub_right → DU, add_zero → DV, lt_irrefl → DY, toNat_natCast → E5, add_sub_assoc → E6, le_antisymm → Ef, add_comm → FL, sub_nonpos_of_le → Fy, le_of_sub_nonpos → Fz, le_of_lt_add_one → G0, sub_zero → Gf, sub_add_cancel → Gq, add_sub_cancel → Gs, lt_trichotomy → HP, toNat_lt → Iz, ne_of_lt → J0, sub_lt_self → J7, le_of_sub_nonneg → Kc, fmod_lt_of_pos → MP, zero_add → O3, ne_of_gt → O4, le_toNat → O5, mul_add_emod_self_left → Tt, fmod_eq_emod_of_nonneg → Tu
open _root_.PySem.Obj renaming mapSeq → Ar, mapFields → Q2
open _root_.PySem.Data renaming fields → BG, seq → FO, dict → Hw
open _root_.PyProof.Rows.News renaming isList → BI
open _root_.PySem.Heap.SameBut renaming update → BL
open _root_.Option.some renaming inj → BM
open _root_.Array renaming getElem?_eq_getElem → BU, length_toList → Bb, getElem?_toList → C9, getElem?_eq_none → DA, mk → FP, toList_push → O8, getD → Tv
open _root_.PySem.Around renaming under_plainId → BY
open _root_.PySem.SetTable renaming below → Bg, grown → Dv, fresh → Fw, orStandIn → I7, insertAt → To
open _root_.PySem.Txt renaming slice → Bh, find → KZ, item → Tm
open _root_.Bool renaming false_ne_true → Bn, and_eq_true → C8, false_eq_true → MQ, or_eq_true → RT
open _root_.PyProof.Rows.LCg renaming NsObj → Bu
open _root_.PySem.Builtin.List renaming listExtendWith → Bv, listSameRef → Cw, listLengthHint → DO, listItems → G4
open _root_.PySem.F renaming plain_extend_loop → C4, type_list_append → Cp, slot_list_append → Cq, entry_extend_loop → EW, plain_list_iadd → J9
open _root_.PySem.BindsTo renaming of_eq → CA
open _root_.PyProof.Rows renaming IntsAre → CJ, assignInOrder_cons → Dd, seqObj → EK, next_is_new → GZ, slot_tupleiter_next → JT, assignInOrder_nil → MM
open _root_.PySem.W.Fast renaming tw4202317264376624991 → CQ, ofString_ofList → Cu, tw13482112738370960269 → DC
open _root_.Option renaming map_eq_none_iff → CX
open _root_.Prod renaming fst → Ci, snd → Dw
open _root_.PySem.Challenge renaming pw_nq0317_02 → Cv
open _root_.LawfulMonad renaming bind_assoc → Dk
open _root_.PySem.Manifest renaming signature? → Dm, Signature → RS
open _root_.PySem.W.InstAt renaming of_news → E3
open _root_.PySem.SetTable.below renaming go → EV
open _root_.PySem.Builtin.SmallTypes renaming nextOf → Et
open _root_.PySem.W.BT renaming node → Ev, nil → GJ
open _root_.PySem.defNames renaming match_1 → FE
open _root_.PySem.Expr renaming Name → GI
open _root_.PySem.pickOrder renaming go → He
open _root_.PySem.W.Looks renaming ld → Iy
open _root_.ForInStep renaming yield → J8
open _root_.List.Pairwise renaming sublist → JX
open _root_.PySem.Builtin.Str renaming occurrences → Kd
open _root_.PySem.Builtin.Range renaming rangeSize → Ke, small → Pu
open _root_.PySem.Walks renaming list → LU
open _root_.PySem.W.XFast renaming xw11892475500146522536 → LV
open _root_.PySem.Bind renaming checkArgs → O7
open _root_.PyProof.Rows.F renaming plain_set_update_loop → OF
open _root_.PySem.SetTable.probe renaming go → Tn
open _root_.PySem.SeqAt renaming shaped → Tp
theorem w0:True:=by
 k_with "Q" =>decide +kernel
 k_with "D" =>((fail_if_success (rename Mk=>x9));focus (refine' (_:Thr _ _) _ _;rotate_left;(next=>intro m9 k9;dsimp only;exact k9);rotate_left;(next=>with_reducible exact fun _ x=>x)))
 k_with "U" =>((fail_if_success (rename Mk=>x9));focus (refine' (_:Thr _ _) _ _;rotate_left;(next=>intro m9 k9;k_unfold;(try dsimp only);exact k9);rotate_left;(next=>with_reducible exact fun _ x=>x)))
 k_with "R" =>exact Ad rfl
 k_with "K" =>repeat' (first | (k_unfold;(try dsimp only)) | (k_end;kc_close) | (walk1<;>(try ((fail_if_success k_extra "noK");dsimp only))) | (dsimp only;walk1) | (leave1;walk_say "STEP leave1";(try dsimp only)) | fail "no step")
 k_with "eval Constant int" =>(with_reducible refine W2 ?_)
 k_with "execs nil" =>(k_here;(try dsimp only);(fail_if_success (fail_if_success k_gentoks));refine (let tk:Nat:=_;(?_:wpAny _ _ _ _ _ ⟨_,_,_,tk,_⟩)))
 k_with "execs cons" =>(k_extra "a";(k_here;(try dsimp only);first | k_made | ((fail_if_success (fail_if_success k_gentoks));refine (let tk:Nat:=_;(?_:wpAny _ _ _ _ _ ⟨_,_,_,tk,_⟩))) | ((with_reducible refine GX ?_);(try dsimp only);(try (rename News _ _ _ _=>nQ;(try dsimp only at nQ);first | (refine (let oS:Obj:=_;have N9:News _ _ _ ((_,AT _ _)::(_,oS)::_):=nQ;?_);clear nQ) | (refine (let oS:Obj:=_;have N9:News _ _ _ (_::(_,AT _ _)::(_,oS)::_):=nQ;?_);clear nQ) | (refine (let oS:Obj:=_;have N9:News _ _ _ (_::_::(_,AT _ _)::(_,oS)::_):=nQ;?_);clear nQ) | (refine (let oS:Obj:=_;have N9:News _ _ _ (_::_::_::(_,AT _ _)::(_,oS)::_):=nQ;?_);clear nQ)));refine (let qv:Flow→A4→Prop:=_;(?_:wpAny _ _ _ qv _ _)))))
 k_with "spliced" =>(k_extra "b";(k_here;(with_reducible show wpAny _ _ (Tk (Fv _ (Cx (GI _ _::_) _))) _ _ _);k_dflt (refine' Tb ?F ?v ?_ ?a ?b ?c;(case F=>k_asm);(case a=>rfl);(case b=>rfl);(case v=>rfl);(case c=>decide);k_whole)))
 k_with "spliced" =>(k_extra "c";(k_here;(with_reducible show wpAny _ _ (Tk (Fv _ (Cx (AW.Constant (PySem.Const.int _) _ _::_) _))) _ _ _);k_dflt (refine Tc ?_)))
 k_with "eval Subscript" =>(k_extra "d";(k_here;(with_reducible show wpAny _ _ (eval (AW.Subscript (GI _ _) _ _) _) _ _ _);k_dflt (refine' SO ?F ?v ?_ ?a ?b ?c;(case F=>k_asm);(case a=>rfl);(case b=>rfl);(case v=>rfl);(case c=>decide);k_whole)))
 k_with "eval BinOp" =>(k_extra "e";(k_here;(with_reducible show wpAny _ _ (eval (AW.BinOp (GI _ _) _ _ _) _) _ _ _);k_dflt (refine' V3 ?F ?v ?_ ?a ?b ?c;(case F=>k_asm);(case a=>rfl);(case b=>rfl);(case v=>rfl);(case c=>decide);k_whole)))
 k_with "eval Attribute Name" =>(k_extra "f";(k_here;(with_reducible show wpAny _ _ (eval (AW.Attribute (GI _ _) _ _) _) _ _ _);k_dflt (refine' Ta ?F ?v ?_ ?a ?b ?c;(case F=>k_asm);(case a=>rfl);(case b=>rfl);(case v=>rfl);(case c=>decide);k_whole)))
 k_with "eval Call Attribute" =>(k_extra "g";(k_here;(with_reducible show wpAny _ _ (eval (AW.Call (AW.Attribute (GI _ _) _ _) _ _ _) _) _ _ _);k_dflt (refine' Sp ?F ?v ?_ ?a ?b ?c ?d;(case F=>k_asm);(case a=>rfl);(case b=>rfl);(case v=>rfl);(case c=>decide);(case d=>rfl);k_whole)))
 k_with "exec For Tuple Call" =>(k_extra "h";k_dflt (refine Qz ?_ (by intro _;with_unfolding_all rfl)))
 k_with "call builtin:list.append" =>(k_extra "i";refine Af ?_)
 k_with "pyIter ref" =>(k_extra "j";(refine Af ?_))
 k_with "execs cons" =>(k_extra "k";(k_here;(try dsimp only);first | k_made | ((fail_if_success (fail_if_success k_gentoks));refine (let tk:Nat:=_;(?_:wpAny _ _ _ _ _ ⟨_,_,_,tk,_⟩))) | ((with_reducible refine GX ?_);(try dsimp only);refine (let qv:Flow→A4→Prop:=_;(?_:wpAny _ _ _ qv _ _)))))
 k_with "call builtin:tuple.__new__" =>(k_extra "l";refine Af ?_)
 k_with "k_all" =>(k_extra "m";first | assumption | (intro p9 hp9;(repeat (rename _∧_=>hc9;obtain ⟨_,_⟩:=hc9));have h9:=Ha (by assumption) _ hp9;exact A7 (B5 h9 (by lia))))
 k_with "call builtin:dict.get" =>(k_extra "n";refine Af ?_)
 k_with "setItem ref int" =>(k_extra "o";refine Af ?_)
 k_with "noK" =>(k_extra "p";skip)
 k_with "execs cons" =>(k_extra "q";(k_here;(fail_if_success (rename V9 _=>h9));first | k_made | ((fail_if_success (fail_if_success k_gentoks));refine (let tk:Nat:=_;(?_:wpAny _ _ _ _ _ ⟨_,_,_,tk,_⟩))) | ((with_reducible refine GX ?_);(try dsimp only);refine (let qv:Flow→A4→Prop:=_;(?_:wpAny _ _ _ qv _ _)))))
 k_with "exec For Name Name cons nil" =>(k_extra "r";refine Af ?_)
 k_with "exec For Name Name" =>(k_extra "s";refine Af ?_)
 k_with "exec For Name" =>(k_extra "t";refine Af ?_)
 k_with "exec While" =>(k_extra "u";refine Af ?_)
 k_with "compareOp In int ref" =>(k_extra "v";refine Af ?_)
 k_with "compareOp In" =>(k_extra "w";refine Af ?_)
 k_with "getMethod ref" =>(k_extra "x";refine Af ?_)
 k_with "call builtin:set.add" =>(k_extra "y";refine Af ?_)
 k_with "call builtin:list.pop" =>(k_extra "z";refine Af ?_)
 k_with "subscriptTail" =>(k_extra "aa";refine Af ?_)
 k_with "subscriptTail Name Slice ref ref" =>(k_extra "ab";refine Af ?_)
 k_with "subscriptTail Name UnaryOp ref int" =>(k_extra "ac";refine Af ?_)
 k_with "call builtin:iter" =>(k_extra "ad";refine Af ?_)
 k_with "call builtin:len" =>(k_extra "ae";refine Af ?_)
 k_with "delItem" =>(k_extra "af";refine Af ?_)
 k_with "truthy ref" =>(k_extra "ag";refine Af ?_)
 k_with "exec Try" =>(k_extra "ah";refine Af ?_)
 k_with "callWith ref" =>(k_extra "ai";refine Af ?_)
 k_with "call ref" =>(k_extra "aj";refine Af ?_)
 k_with "WEnd" =>(k_extra "ak";refine Af ?_)
 k_with "FEnd" =>(k_extra "al";refine Af ?_)
 k_with "getAttr ref" =>(k_extra "am";((first | with_reducible refine (?_:wpAny _ _ (Dc (A3 (NI.a _)) _ _) _ _ _) | with_reducible refine (?_:wpAny _ _ (Dc (A3 _) (A0 "__next__") _) _ _ _));refine Af ?_))
 k_with "binaryOp Add ref ref" =>(k_extra "an";refine Af ?_)
 k_with "pyIter ref" =>(k_extra "ao";refine Af ?_)
 k_with "storeName" =>(k_extra "ap";(k_here;k_dflt (refine' SS ?F ?N ?_ ?a ?b;(case F=>k_asm);(case N=>k_asm);(case a=>rfl);(case b=>rfl);k_whole;intro _ F0;(refine (let __m:Str→Option Value:=_;have F9:Fr _ _ _ __m:=F0;?_));clear F0;revert F9;intro _ _;(try k_sweep))))
 k_with "exec For Name Name cons nil" =>(k_extra "aq";(k_here;(rename Fr _ _ _ _=>lF');(with_unfolding_all refine' For_invVF lF' ?k1 ?k2 ?_;(case k1=>exact rfl);(case k2=>exact rfl);k_whole)))
 k_with "exec For Name Name" =>(k_extra "ar";(k_here;(rename Fr _ _ _ _=>lF');(with_unfolding_all refine' For_invVF lF' ?k1 ?k2 ?_;(case k1=>exact rfl);(case k2=>exact rfl);k_whole)))
 k_with "exec For Name" =>(k_extra "as";(k_here;(rename Fr _ _ _ _=>lF');(with_unfolding_all refine' For_invVF lF' ?k1 ?k2 ?_;(case k1=>exact rfl);(case k2=>exact rfl);k_whole)))
 k_with "getAttr ref" =>(k_extra "at";((with_reducible show wpAny _ _ (Dc (A3 (NI.a _)) _ _) _ _ _);refine Af ?_))
 k_with "setAttr ref" =>(k_extra "au";refine Af ?_)
 k_with "call builtin:list.clear" =>(k_extra "av";refine Af ?_)
 k_with "call type:tuple" =>(k_extra "aw";refine Af ?_)
 k_with "getMethod ref" =>(k_extra "ax";((with_reducible show wpAny _ _ (Gb (A3 _) (A0 "append") _) _ _ _);refine Af ?_))
 k_with "call ref" =>(k_extra "ay";((with_unfolding_all show wpAny _ _ (call (A3 305) _) _ _ _);refine Af ?_))
 k_with "setAttr ref" =>(k_extra "az";((with_reducible show wpAny _ _ (OB (A3 (NI.a _)) _ _) _ _ _);refine Af ?_))
 k_with "getMethod ref" =>(k_extra "ba";((with_reducible show wpAny _ _ (Gb (A3 (NI.sl _)) _ _) _ _ _);refine Af ?_))
 k_with "call ref" =>(k_extra "bb";((with_unfolding_all show wpAny _ _ (call (A3 352) _) _ _ _);refine Af ?_))
 k_with "truthy" =>(k_extra "bc";((with_reducible show wpAny _ _ (truthy _) _ _ _);refine Af ?_))
 k_with "exec For" =>(k_extra "bd";refine Af ?_)
 k_with "exec For Tuple" =>(k_extra "be";refine Af ?_)
 k_with "LEnd" =>(k_extra "bf";refine Af ?_)
 k_with "exec For Name Call cons nil" =>(k_extra "bg";refine Af ?_)
 k_with "exec For Name Call" =>(k_extra "bh";refine Af ?_)
 k_with "exec Assign cons ListComp" =>(k_extra "bi";refine Af ?_)
 k_with "eval ListComp" =>(k_extra "bj";refine Af ?_)
 k_with "exec While BoolOp cons nil" =>(k_extra "bk";refine Af ?_)
 k_with "exec While BoolOp cons" =>(k_extra "bl";refine Af ?_)
 k_with "exec While BoolOp" =>(k_extra "bm";refine Af ?_)
 k_with "callWith ref" =>(k_extra "bn";((fail_if_success (with_reducible refine (?_:wpAny _ _ (KY _ (A3 135) _ _ _) _ _ _)));refine Af ?_))
 k_with "getAttr ref" =>(k_extra "bo";((first | with_reducible refine (?_:wpAny _ _ (Dc (A3 _) (A0 "__contains__") _) _ _ _) | with_reducible refine (?_:wpAny _ _ (Dc (A3 _) (A0 "get") _) _ _ _));refine Af ?_))
 k_with "storeName" =>(k_extra "bp";(k_here;k_dflt (refine' SR ?F ?N ?_ ?a ?b;(case F=>k_asm);(case N=>k_asm);(case a=>rfl);(case b=>rfl);k_whole;intro h' F0;(refine (let __m:Str→Option Value:=_;have F':Fr _ _ _ __m:=F0;?_));clear F0;intro N';(try k_sweep))))
 k_with "exec If" =>(k_extra "bq";(refine Af ?_))
 k_with "exec While Name" =>(k_extra "br";refine Af ?_)
 k_with "exec While Name cons nil" =>(k_extra "bs";refine Af ?_)
 k_with "call builtin:list.sort" =>(k_extra "bt";refine Af ?_)
 k_with "exec For Tuple Name" =>(k_extra "bu";refine Af ?_)
 k_with "exec If" =>(k_extra "bv";((with_reducible refine (?_:wpAny _ _ (exec (Stmt.If (AW.BoolOp _ _ _) _ _ _) _) _ _ _));refine Af ?_))
 k_with "call type:list" =>(k_extra "bw";refine Af ?_)
 k_with "compareOp NotEq ref ref" =>(k_extra "bx";refine Af ?_)
 k_with "subscriptTail Name Name ref int" =>(k_extra "by";refine Af ?_)
 k_with "wq" =>(k_extra "bz";first | (with_reducible first | refine AC ?_ | refine A2 ?_ | refine Ak ?_ | refine FW (by assumption) ?_ | refine Hd (by assumption) ?_ | refine HG (by assumption) (by assumption) ?_ | refine Eo (by assumption) (by assumption) ?_ | refine BN ?_) | ((with_reducible apply wpAny_load');focus (heap_get;done)) | ((with_reducible apply wpAny_loadPart');focus (heap_get;done)) | ((with_reducible apply wpAny_ite_false);focus (rfl;done)) | ((with_reducible apply wpAny_ite_true);focus (rfl;done)) | wp_delta)
 k_with "dictSet" =>(k_extra "ca";refine Af ?_)
 k_with "subscriptTail Name BinOp ref int" =>(k_extra "cb";refine Af ?_)
 trivial
noncomputable def VF (p:Nat→Bool)(l:List Nat):Bool:=
 @List.rec Nat (fun _=>Bool) false (fun a _ ih=>@Bool.rec (fun _=>Bool) ih true (p a)) l
theorem Pi (p:Nat→Bool):∀l:List Nat,VF p l=l.any p
 | []=>rfl
 | a::l=>by
  show @Bool.rec (fun _=>Bool) (VF p l) true (p a)=_;rw [List.any_cons,Pi p l];cases p a<;>rfl
noncomputable def anyF (as:Array Nat)(p:Nat→Bool)(start stop:Nat):Bool:=
 @Bool.rec (fun _=>Bool) (Array.any as p start stop) (VF p as.toList) (SA start 0&&SA stop as.toList.length)
theorem V5:@Array.any.{0} Nat=anyF:=by
 funext as p start stop
 unfold anyF
 cases h:(SA start 0&&SA stop as.toList.length) with
 | false=>rfl
 | true=>
  obtain ⟨h1,h2⟩:=Bool.and_eq_true_iff.mp h;have e1:=JV h1;have e2:=JV h2;subst e1;have e2:stop=as.size:=by rw [e2];simp
  subst e2;show _=VF p as.toList;rw [Pi,Array.any_toList]
inductive Box:Builtin→Type where
 | mk (b:Builtin):Box b
noncomputable def Oq:(Array Nat→(Nat→Bool)→Nat→Nat→Bool)→Builtin:=by
 refine (fun (f:(Array Nat→(Nat→Bool)→Nat→Nat→Bool)→Builtin) (_:Box CQ→Unit)=>f) ?g ?u
 case u=>
  delta CQ;generalize @Array.any.{0} Nat=a;exact fun (_:Box (?g @a))=>Unit.unit
theorem newGen_eq:Oq (@Array.any.{0} Nat)=CQ:=rfl
noncomputable def Uc:{ f:Builtin // CQ=f }:=⟨Oq anyF,newGen_eq.symm.trans (congrArg Oq V5)⟩
noncomputable def tableF:String→Option Builtin:=fun id=>
 @Bool.rec (fun _=>Option Builtin) (PySem.W.Fast.tw1115789885857029328.find (DC id)) (some Uc.1) (SA (DC id) 29827186395103491166823348853)
theorem R4:PySem.W.Fast.tw1115789885857029328.find 29827186395103491166823348853=some CQ:=by kernel_rfl
theorem Q9:KV=tableF:=by
 rw [PySem.W.Fast.te14364793385576792824]
 funext id
 show PySem.W.Fast.tw1115789885857029328.find (DC id)=_;unfold tableF
 cases h:SA (DC id) 29827186395103491166823348853 with
 | false=>rfl
 | true=>
  rw [JV h,R4];exact congrArg some Uc.2
noncomputable abbrev pw:AY:=Cv
noncomputable abbrev ann:Option Value:=some (A3 6)
noncomputable abbrev Kx:Pos:={ line:=0,col:=0,endLine:=0,endCol:=0 }
noncomputable abbrev PN:Pos:={ line:=656,col:=0,endLine:=674,endCol:=15 }
noncomputable def U1:Nat→Nat→List Nat:=fun k=>@Nat.rec (fun _=>Nat→List Nat) (fun _=>[]) (fun _ ih n=>Nat.mod n 128::ih (Nat.div n 128)) k
noncomputable def docQ:Str:=⟨FP (U1 3202 156581320928945387714645774169655187119893982497871887548302257575522923900106312629688267355420722261887069625482198880780562529177626681820517705974002931896586590800432161741749853198074767535863823133644202060035640549695428278381738655928929737509106332838515076556130758260843611368486964494733643064275663080958465259082605463599882269748415609233340871807008056497335955313994947772391906713924115125553681921971099081314849892648441803944958292074178952172880929864471714942481688871161091671150148340265266040877393592825595381987079531725988862307997873019409143339098433933361271101177684700994024206078970797340497689870035584176095337525219114406621409366648242296745519019906487908362800872443874417889125297943696229878543713091064756610301335620703530185044969772013330869959756958994687533457668267361441454816745487709255269105230396058058244107075195783379034434110303676608619559202592103239968465304286726404067253832310567065349500104194926311893788050853626477085250623351821143068342539466996673677182895477322932716756337330931339689033686794438086072212692278415677364892534384105710023700720781961461541055436859052435101969035696735663301390563427374497189557025154675905221546356819171057019782184634821389069361443132805362114455909126216676283385911301960713553065334005575212798589543158849676073110141346292300913317195569163432770012870985887685596968542172835876939808155500857141235219683489777243712430857893632387111364074007872713188612397026945965621757987477034795704856068509543331122560806803807101842186922367851626181249882515554628093843839180709592344021687676438962912059144742104015380955616421909666681390799658095118902476667189429637963828756220380188396100213913722170197829439149373286262919625948614733515403140168295278221712668529226151114965031518010262235441776589634320753244486912750697596883013431425125871667891864782625451447508928684621511564669168641369728140653186752794516630521198361169497906827486844136843265912422304100429967040531806196775098632995271674371858281023833972558567807300017696630157908951920915836187286806501356986167901335417214450838685322519442812605379196832687740228495656537124612277065706855433062960846332964406343424062398723354989121496922820403412264276751647803356228231915357279678442331513757587514026757129285314146212194589642471779156904471196171849381394683048153786778035289794750365760605562079021809510124320752783760965435582710662709850089100053188917639534623956209058020402327790126169301157435597539138750553980983348422785120479187973189442158740627520774243347069888590746169550894872506276832243453326910688677559185872092934104596312687292711643601470438171007102779223421416351703082992793766195510882188360213068604380226870244017742073502689141781598919786837987450221609175803466432480154898078377335573998031794443511441756435800740703655154969332753936513459640725216449275211453166334789334261719880635538128461943807434820128437392324050487651830687863883855724801524621764978161574652343210145033746919191425021411139729420448818842781679615561652315874896408745365543860143515934740024416921661775041248550570171959989758925977470249845107203299049071827541142961909136497978767575459064337792858500410197249115376796728420864793759419727722776388441522033881221357762507910245532583161563276376672225693480435291290296470692992903727776583975744509151418911279473153800224904864693535767179419561536565029407357671108690525684770632471775041668106724834416166014373807524440911415196899583578395728923674396977789391863561397194035595950456430672304811465176709246613193069135978488634099451843676928136791446485664483748344731436700284915808152853813699970522334878273146980310356870316096629392617452090987619796643683652328878177867427955045534679234953806055199271635598691951097243839714531121296889324943846440664574516886340406290326741459369483480187701263817103713323612065535971669796215017404379964666176899415775474600798000326650809932349858041546124716052379593956656464248766243292901781390259208526384867673744012652296951866938037034577682109529696189530451687069884340812840101531003111187088819276165017639614994510304877544537273115057443373798633610122286940439433623419927076353533757713252582472543983925325740926467567362961859792613325645902601547131016985019961261852781202826733443366397845911263879630651770151939079114709439966122790448736087301639818875096389256326460902858825193500897760826857602218381064885758352373819232392281526705137329621805868684793489713616082037171757364211426769183905798110075931245158914627986647115953891771689848871652640531563131348326039690362567284260255419672908073092156199504907953445520074305594320856311463157951808861118678491840008144807430180629320871432070646056503330158410010498315179132053330529763452718926789184425362936196031239628810753026421461746174728156378358098523844975728384610580775136421851001283937700910813773008353335146643901016913235109580231346476479139463903581302184260429019078693191433482849936693110578801957562643686272724571420612134839451556310249069490234971864866190308678957401869702369749971089493146339807415631035205698684427962119962522438731480560508675520664055334978696878623183230268954323234104913126266946782149143795820349461310377446343504562974766797126287332302589645896396668173893697771851255237583771156257005319773822876898717900272067537182920215929632973688446027602865066036488429498281799651393145985731360257331913176273549240130906572457640675467898642605084362624099064417236105301117996077289434463126940332511503978964073888931951164407353917977254221345924912669554999164678712008798740453814399801087348373669407328358951986322832988844771672159529022122210624415030755254780049753026733701169632685025928477664528514056614764546460797449469443238951763800846885664980360807847093446567023953674172272069203027620937460776251181604728399628195780472278631602040952745565861906162658522905392398708140801182606199076465526777841997876147833860369455178850387505701676083593837136997177069789895845064079022083621858229171311234544167392948483025040762931756520506725111719621342454238993078745647745835942925644351135764850759149430412397091851530235415578644667885437002599770181140648942313330449870478610913869719582410099466067459684695140478949036710972415588557048550359084901611287612551746056724401039637547317249293970076121509059898736388921095612387631183407799151595191203212877446366474816209181170331183884740468144178119789574421870327736778522609904802004926829771118686912666410002344099996105131554261062246957411421848370201972499876615127833967506088513715292389807015412758251108512460461923891036340237877108572332840690889635395730113106312761930689264839050)⟩
noncomputable def docQ2:Str:=⟨FP (U1 547 356641880447014034507754012244863745634158552745929642231130956628277837367450229522879416782544451499001796512998350634232288050115074646134750873549001526360147645678536728433443539983492933946098646730317607324938901937995970787810301074224246969185738808957692369912260078486299192011927440483731898534769346946499415950369895939993495967606439509649186123566544690753653418264464507947973652570008568845014467402321392292393062745353547960523736424520377392366467567086220321707389264683292398503201964677565534337653074291343537460221690048844446652983064009136884052507587128901925316342173735937674099404048068940496080507582317480874267733535832471317826630793088997953144047977298100428062249948849169768998885742738788815935494455114053862769931076385788389988627088470125997416835947257765289923976055120833143371997967986802561314384647006834139361848984841993508966745732119538503520117619852177386197000255306827567049482747589169647545368927557833412397683510213059072776209185281895572140951549894260081411119987241444091089165695931332190986328681239760760492424701773266888185126621400254830002728053676328581673013255081502424218323)⟩
noncomputable def at9:List Stmt→Nat→Stmt
 | [],_=>.Pass Kx
 | a::_,0=>a
 | _::l,n+1=>at9 l n
noncomputable def Gn (s:Stmt):List Stmt:=PySem.W.theClassW.match_1 (fun _=>List Stmt) s (fun _ _ _ b _ _ _ _ _ _ _=>b) (fun _=>[])
noncomputable def Rh (D:Str)(s:Stmt):Stmt:=PySem.W.theClassW.match_1 (fun _=>Stmt) s (fun n bs ks b ds tps sc ts bi po x=>PyProof.Rows.plain0.match_1 (fun _=>Stmt) (at9 b 0) (fun v q=>PySem.foldedSetIterable.match_1 (fun _=>Stmt) v (fun _ k p=>.ClassDef n bs ks (.Expr (.Constant (.str D) k p) q::b.tail) ds tps sc ts bi po x) fun _=>s) fun _=>s) fun _=>s
noncomputable def VE (s:Stmt):Str:=(PySem.docOf (Gn s)).getD OD
noncomputable def TY (D E:Str):List Stmt:=pw.main.body.take 5++Rh D (at9 pw.main.body 5)::((pw.main.body.drop 6).take 4++Rh E (at9 pw.main.body 10)::pw.main.body.drop 11)
theorem RK:TY (VE (at9 pw.main.body 5)) (VE (at9 pw.main.body 10))=pw.main.body:=by kernel_rfl
theorem PS {s:String}(n N:Nat)(h:s=String.ofList ((U1 n N).map Char.ofNat))(h2:((U1 n N).map Char.ofNat).map Char.toNat=U1 n N):A0 s=⟨FP (U1 n N)⟩:=by
 rw [h,Cu,h2]
theorem Xe:VE (at9 pw.main.body 5)=docQ:=PS _ _ (by kernel_rfl) (by kernel_rfl)
theorem Xd:VE (at9 pw.main.body 10)=docQ2:=PS _ _ (by kernel_rfl) (by kernel_rfl)
theorem TX:TY docQ docQ2=pw.main.body:=by rw [←Xe,←Xd];exact RK
noncomputable def t1 (P:As):Obj:={ cls:=AL "tuple",data:=FO #[] }
noncomputable def t2 (P:As):Obj:={ cls:=AG,data:=BG #[] }
noncomputable def t3 (P:As):Obj:={ cls:=AL "code",data:=BG #[AD (A0 "<module>") 182,AD (A0 "<module>") 183,AD (A0 "/claim/cut.py") 184,A5 1 0,A5 0 0,A5 0 0,A5 0 0,A5 0 0,A3 11,B6 false,A5 181 0,A3 12,AG,AG,AG,AG,A5 185 0,A5 1 0,AD (A0 "/claim/cut.py") 186] }
noncomputable def t4 (P:As):Obj:={ cls:=AL "frame",slots:=#[some (A3 13),some (A3 3),some (A3 3),none,some (AD (A0 "__main__") 164),none,some (A3 0)] }
noncomputable def S1:Env:={ scope:=pw.main.scope,locals:=mainNs,globals:=mainNs,cells:=[],code:=A3 13,frame:=some 14 }
noncomputable def VJ (P:As):BT:=Ev (boot_o_0 P)
  (Ev (boot_o_1 P)
   (Ev (boot_o_3 P) (Ev (boot_o_7 P) GJ GJ) (Ev (t1 P) GJ GJ))
   (Ev (boot_o_5 P) (Ev (boot_o_9 P) GJ GJ) (Ev (t3 P) GJ GJ)))
  (Ev (boot_o_2 P)
   (Ev (boot_o_4 P) (Ev (boot_o_8 P) GJ GJ) (Ev (t2 P) GJ GJ))
   (Ev (boot_o_6 P) (Ev (boot_o_10 P) GJ GJ) (Ev (t4 P) GJ GJ)))
noncomputable abbrev sB (w:World)(os:EA):SharedT:={ tree:=VJ w.params,n:=15,life:={ },gens:={ toList:=[] },drawn:={ },toks:=187,os:=os }
noncomputable def ev (p:AY)(b:List Stmt)(w:World)(os:EA):=PySem.W.Fast.tw10110043849684766642 tableF p w 11 ann 1 3400 (sB w os) (piecesOf (TY docQ docQ2) S1 (Code.body b S1) Kx [topFrame Kx])
noncomputable def U6 (P:As):BT:=match ev pw [] ⟨fun _ _=>0,P⟩ default with
 | some (_,s,_)=>s.tree
 | none=>.nil
noncomputable abbrev sE (w:World)(os:EA):SharedT:={ tree:=U6 w.params,n:=413,life:={ },gens:={ toList:=[] },drawn:={ },toks:=828,os:=os }
theorem XX (p:AY)(b:List Stmt)(w:World)(os:EA):ev p b w os=some (Flow.next,sE w os,Code.body b S1,PN):=by kernel_rfl
noncomputable abbrev M6 (P:As):Heap:=absHeap (U6 P) 413 { }
theorem Sf (p:AY)(b:List Stmt)(w:World)(os:EA):segRunT KV p w 11 ann 1 3400 (sB w os) (piecesOf pw.main.body S1 (Code.body b S1) Kx [topFrame Kx])=some (Flow.next,sE w os,Code.body b S1,PN):=by
 rw [PySem.W.Fast.te10110043849684766642,Q9,←TX];exact XX p b w os
noncomputable abbrev cB:Code:=Code.body (LS pw) S1
theorem pre (w:World)(os:EA):topGo KV pw w 11 ann 12 ⟨IJ w.params,FP [],boot_drawn,boot_toks,os⟩ (topStub pw) =
  some ((sB w os).abs,⟨denote KV cB,cB,Kx,[topFrame Kx]⟩):=by kernel_rfl
theorem block (w:World)(os:EA):segRun KV pw w 11 ann 1 1 (sB w os).abs (blockOf (LS pw) S1 cB Kx [topFrame Kx])=some (.next,(sB w os).abs,cB,Kx):=by kernel_rfl
theorem fin (w:World)(os:EA):topRun KV pw w 11 ann 5 (sE w os).abs ⟨doneF .next,cB,PN,[topFrame Kx]⟩=some ⟨M6 w.params,FP [],{},828,os⟩:=by kernel_rfl
theorem Ph:LS pw=pw.main.body++[]:=by kernel_rfl
theorem run (w:World)(os:EA):topRun KV pw w 11 ann (12+(1+(3400+5))) ⟨IJ w.params,FP [],boot_drawn,boot_toks,os⟩ (topStub pw)=some ⟨M6 w.params,FP [],{},828,os⟩:=by
 refine go_top (pre w os) (piece_block (block w os) ?_);have h:=piece_app (q:=Kx) (rest:=[]) (segRun_of (Sf pw (LS pw) w os)) (piece_nil (fin w os));rw [←Ph] at h;exact h
noncomputable def en (P:As)(k:String)(t:Tok)(v:Value):DictEntry:={ hash:=PyData.keyHash P (A0 k),key:=AD (A0 k) t,val:=v }
noncomputable def No (s:Stmt)(t:Tok):Value:=FE (fun _=>Value) s (fun _ _ b _ _ _ _ _ _ _=>(PySem.docOf b).elim .none fun d=>.str d t) fun _=>.none
noncomputable def fnA (s:Stmt)(q:String)(df doc pm:Value)(c:Addr)(an:Option Addr):Obj:=FE (fun _=>Obj) s (fun n a b _ _ _ sc _ _ _=>{ cls:=.type "function",data:=.func { name:=n,qualname:=A0 q,params:=a,body:=.stmts b,scope:=sc,globals:=3,closure:=[],defaults:=df,kwdefaults:=.none,doc:=doc,pyModule:=pm,annotations:=an,code:=.ref c } }) fun _=>{ cls:=.none }
noncomputable def fnO (s:Stmt)(q:String)(df doc pm:Value)(c:Addr):Obj:=fnA s q df doc pm c none
noncomputable def o2 (P:As):Obj:=boot_o_2 P
noncomputable def o3 (P:As):Obj:={ cls:=AL "dict",data:=Hw #[en P "__name__" 165 (AD (A0 "law_nq0317_02") 766),en P "__doc__" 166 AG,en P "__package__" 167 AG,en P "__loader__" 168 (CS "__main__.__loader__#opaque"),en P "__spec__" 169 AG,en P "__annotations__" 170 (A3 6),en P "__builtins__" 171 (A3 4),en P "__file__" 173 (AD (A0 "/claim/cut.py") 172),en P "__cached__" 174 AG,en P "_wall" 193 (A3 21),en P "_tuplegetter" 252 (A3 60),en P "Match" 380 (A3 135),en P "_calculate_ratio" 388 (A3 145),en P "SequenceMatcher" 574 (A3 242),en P "_NODE_OUT" 579 (A5 (-1) 578),en P "_NODE_DONE" 582 (A5 (-2) 581),en P "_NodeInfo" 619 (A3 265),en P "CycleError" 639 (A3 280),en P "TopologicalSorter" 765 (A3 362),en P "_law_words" 773 (A3 371),en P "_law_cut" 779 (A3 376),en P "_law_lead_round" 793 (A3 383),en P "_law_columns" 799 (A3 388),en P "_law_sorter" 808 (A3 395),en P "_law_smooth" 815 (A3 402),en P "_law_shortest" 821 (A3 407),en P "law" 827 (A3 412)] 27 }
noncomputable def o65 (P:As):Obj:={ cls:=AL "tuple",data:=FO #[AL "tuple"] }
noncomputable def o81 (P:As):Obj:={ cls:=AL "code",data:=BG #[AD (A0 "__new__") 274,AD (A0 "Match.__new__") 275,AD (A0 "/claim/cut.py") 276,A5 29 0,A5 4 0,A5 0 0,A5 0 0,A5 3 0,A3 76,B6 true,A5 181 0,A3 77,AG,A3 78,A3 79,A3 80,A5 281 0,A5 29 0,AD (A0 "/claim/cut.py") 282] }
noncomputable def o82 (P:As):Obj:=fnO (at9 (Gn (at9 pw.main.body 3)) 4) "Match.__new__" (AG) (No (at9 (Gn (at9 pw.main.body 3)) 4) 283) (.str (A0 "cpy313.difflib") 194) 81
noncomputable def o88 (P:As):Obj:={ cls:=AL "code",data:=BG #[AD (A0 "_make") 285,AD (A0 "Match._make") 286,AD (A0 "/claim/cut.py") 287,A5 33 0,A5 2 0,A5 0 0,A5 0 0,A5 3 0,A3 83,B6 true,A5 181 0,A3 84,AG,A3 85,A3 86,A3 87,A5 291 0,A5 33 0,AD (A0 "/claim/cut.py") 292] }
noncomputable def o89 (P:As):Obj:=fnA (at9 (Gn (at9 pw.main.body 3)) 5) "Match._make" (AG) (No (at9 (Gn (at9 pw.main.body 3)) 5) 293) (.str (A0 "cpy313.difflib") 194) 88 (some 92)
noncomputable def o90 (P:As):Obj:={ cls:=AL "dict",data:=Hw #[en P "__module__" 295 (AD (A0 "cpy313.difflib") 194),en P "__name__" 298 (AD (A0 "_make") 297),en P "__qualname__" 301 (AD (A0 "Match._make") 300),en P "__doc__" 303 (AD (A0 "Make a new Match object from a sequence or iterable") 293),en P "__annotations__" 305 (A3 92)] 5 }
noncomputable def o91 (P:As):Obj:={ cls:=AL "classmethod",dict:=some 90,data:=BG #[A3 89,B6 false] }
noncomputable def XR (P:As):Obj:={ cls:=AL "dict",data:=Hw #[en P "__module__" 260 (AD (A0 "cpy313.difflib") 194),en P "__firstlineno__" 264 (A5 23 263),en P "__doc__" 266 (AD (A0 "Match(a, b, size)") 265),en P "__slots__" 268 (A3 73),en P "_fields" 272 (A3 74),en P "_field_defaults" 273 (A3 75),en P "__new__" 284 (A3 136),en P "_make" 306 (A3 91),en P "_replace" 317 (A3 100),en P "__replace__" 318 (A3 100),en P "__repr__" 326 (A3 107),en P "_asdict" 333 (A3 114),en P "__getnewargs__" 341 (A3 121),en P "__match_args__" 345 (A3 122),en P "a" 355 (A3 124),en P "b" 365 (A3 127),en P "size" 375 (A3 130),en P "__static_attributes__" 376 (A3 132)] 2 }
noncomputable def XQ (P:As):Obj:={ cls:=AL "type",data:=Data.cls { name:=A0 "Match",bases:=[AL "tuple"],mro:=[A3 135,AL "tuple",AL "object"],ns:=134,qualname:=A0 "Match",hasDict:=false },slots:=#[some (A3 65),none,some (AD (A0 "Match") 253),some (AD (A0 "Match") 261),some AG,some (B6 false)] }
noncomputable def XO (P:As):Obj:={ cls:=AL "staticmethod",data:=BG #[A3 82] }
noncomputable def XN (P:As):Obj:={ cls:=AL "tuple",data:=FO #[AG,AD (A0 "") 404,AD (A0 "") 405,B6 true] }
noncomputable def XK (P:As):Obj:={ cls:=AL "code",data:=BG #[AD (A0 "__init__") 406,AD (A0 "SequenceMatcher.__init__") 407,AD (A0 "/claim/cut.py") 408,A5 145 0,A5 5 0,A5 0 0,A5 0 0,A5 3 0,A3 154,B6 true,A5 181 0,A3 155,AG,A3 156,A3 157,A3 158,A5 414 0,A5 145 0,AD (A0 "/claim/cut.py") 415] }
noncomputable def XI (P:As):Obj:=fnO (at9 (Gn (at9 pw.main.body 5)) 1) "SequenceMatcher.__init__" (A3 153) (No (at9 (Gn (at9 pw.main.body 5)) 1) 416) (.str (A0 "cpy313.difflib") 194) 159
noncomputable def XH (P:As):Obj:={ cls:=AL "code",data:=BG #[AD (A0 "set_seqs") 418,AD (A0 "SequenceMatcher.set_seqs") 419,AD (A0 "/claim/cut.py") 420,A5 173 0,A5 3 0,A5 0 0,A5 0 0,A5 3 0,A3 161,B6 true,A5 181 0,A3 162,AG,A3 163,A3 164,A3 165,A5 424 0,A5 173 0,AD (A0 "/claim/cut.py") 425] }
noncomputable def XG (P:As):Obj:=fnO (at9 (Gn (at9 pw.main.body 5)) 2) "SequenceMatcher.set_seqs" (AG) (No (at9 (Gn (at9 pw.main.body 5)) 2) 426) (.str (A0 "cpy313.difflib") 194) 166
noncomputable def XE (P:As):Obj:={ cls:=AL "code",data:=BG #[AD (A0 "set_seq1") 428,AD (A0 "SequenceMatcher.set_seq1") 429,AD (A0 "/claim/cut.py") 430,A5 184 0,A5 2 0,A5 0 0,A5 0 0,A5 3 0,A3 168,B6 true,A5 181 0,A3 169,AG,A3 170,A3 171,A3 172,A5 433 0,A5 184 0,AD (A0 "/claim/cut.py") 434] }
noncomputable def XD (P:As):Obj:=fnO (at9 (Gn (at9 pw.main.body 5)) 3) "SequenceMatcher.set_seq1" (AG) (No (at9 (Gn (at9 pw.main.body 5)) 3) 435) (.str (A0 "cpy313.difflib") 194) 173
noncomputable def XC (P:As):Obj:={ cls:=AL "code",data:=BG #[AD (A0 "set_seq2") 437,AD (A0 "SequenceMatcher.set_seq2") 438,AD (A0 "/claim/cut.py") 439,A5 209 0,A5 2 0,A5 0 0,A5 0 0,A5 3 0,A3 175,B6 true,A5 181 0,A3 176,AG,A3 177,A3 178,A3 179,A5 442 0,A5 209 0,AD (A0 "/claim/cut.py") 443] }
noncomputable def XA (P:As):Obj:=fnO (at9 (Gn (at9 pw.main.body 5)) 4) "SequenceMatcher.set_seq2" (AG) (No (at9 (Gn (at9 pw.main.body 5)) 4) 444) (.str (A0 "cpy313.difflib") 194) 180
noncomputable def X6 (P:As):Obj:={ cls:=AL "code",data:=BG #[AD (A0 "__chain_b") 446,AD (A0 "SequenceMatcher.__chain_b") 447,AD (A0 "/claim/cut.py") 448,A5 236 0,A5 1 0,A5 0 0,A5 0 0,A5 3 0,A3 182,B6 true,A5 181 0,A3 183,AG,A3 184,A3 185,A3 186,A5 461 0,A5 236 0,AD (A0 "/claim/cut.py") 462] }
noncomputable def X5 (P:As):Obj:=fnO (at9 (Gn (at9 pw.main.body 5)) 5) "SequenceMatcher.__chain_b" (AG) .none (.str (A0 "cpy313.difflib") 194) 187
noncomputable def X0 (P:As):Obj:={ cls:=AL "tuple",data:=FO #[A5 0 464,AG,A5 0 465,AG] }
noncomputable def Wz (P:As):Obj:={ cls:=AL "code",data:=BG #[AD (A0 "find_longest_match") 466,AD (A0 "SequenceMatcher.find_longest_match") 467,AD (A0 "/claim/cut.py") 468,A5 260 0,A5 5 0,A5 0 0,A5 0 0,A5 3 0,A3 190,B6 true,A5 181 0,A3 191,AG,A3 192,A3 193,A3 194,A5 488 0,A5 260 0,AD (A0 "/claim/cut.py") 489] }
noncomputable def Wy (P:As):Obj:=fnO (at9 (Gn (at9 pw.main.body 5)) 6) "SequenceMatcher.find_longest_match" (A3 189) (No (at9 (Gn (at9 pw.main.body 5)) 6) 490) (.str (A0 "cpy313.difflib") 194) 195
noncomputable def Wx (P:As):Obj:={ cls:=AL "code",data:=BG #[AD (A0 "get_matching_blocks") 492,AD (A0 "SequenceMatcher.get_matching_blocks") 493,AD (A0 "/claim/cut.py") 494,A5 335 0,A5 1 0,A5 0 0,A5 0 0,A5 3 0,A3 197,B6 true,A5 181 0,A3 198,AG,A3 199,A3 200,A3 201,A5 515 0,A5 335 0,AD (A0 "/claim/cut.py") 516] }
noncomputable def Ww (P:As):Obj:=fnO (at9 (Gn (at9 pw.main.body 5)) 7) "SequenceMatcher.get_matching_blocks" (AG) (No (at9 (Gn (at9 pw.main.body 5)) 7) 517) (.str (A0 "cpy313.difflib") 194) 202
noncomputable def Wv (P:As):Obj:={ cls:=AL "dict",data:=Hw #[en P "__module__" 396 (AD (A0 "cpy313.difflib") 194),en P "__firstlineno__" 400 (A5 70 399),en P "__doc__" 402 (AD docQ 401),en P "__init__" 417 (A3 160),en P "set_seqs" 427 (A3 167),en P "set_seq1" 436 (A3 174),en P "set_seq2" 445 (A3 181),en P "_SequenceMatcher__chain_b" 463 (A3 188),en P "find_longest_match" 491 (A3 196),en P "get_matching_blocks" 518 (A3 203),en P "get_opcodes" 525 (A3 210),en P "get_grouped_opcodes" 534 (A3 218),en P "ratio" 543 (A3 225),en P "quick_ratio" 550 (A3 232),en P "real_quick_ratio" 557 (A3 239),en P "__static_attributes__" 568 (A3 240),en P "__dict__" 570 (A3 243),en P "__weakref__" 572 (A3 244)] 3 }
noncomputable def Wu (P:As):Obj:={ cls:=AL "type",data:=Data.cls { name:=A0 "SequenceMatcher",bases:=[AL "object"],mro:=[A3 242,AL "object"],ns:=241,qualname:=A0 "SequenceMatcher" },slots:=#[none,none,some (AD (A0 "SequenceMatcher") 389),some (AD (A0 "SequenceMatcher") 397),some (CS "object.__new__"),some (B6 true)] }
noncomputable def Wt (P:As):Obj:={ cls:=AL "code",data:=BG #[AD (A0 "__init__") 599,AD (A0 "_NodeInfo.__init__") 600,AD (A0 "/claim/cut.py") 601,A5 424 0,A5 2 0,A5 0 0,A5 0 0,A5 3 0,A3 255,B6 true,A5 181 0,A3 256,AG,A3 257,A3 258,A3 259,A5 604 0,A5 424 0,AD (A0 "/claim/cut.py") 605] }
noncomputable def Ws (P:As):Obj:=fnO (at9 (Gn (at9 pw.main.body 9)) 1) "_NodeInfo.__init__" (AG) .none (.str (A0 "cpy313.graphlib") 575) 260
noncomputable def Wr (P:As):Obj:={ cls:=AL "tuple",data:=FO #[AD (A0 "node") 607,AD (A0 "npredecessors") 608,AD (A0 "successors") 609] }
noncomputable def Wq (P:As):Obj:={ cls:=AL "dict",data:=Hw #[en P "__module__" 590 (AD (A0 "cpy313.graphlib") 575),en P "__firstlineno__" 594 (A5 421 593),en P "__slots__" 598 (A3 254),en P "__init__" 606 (A3 261),en P "__static_attributes__" 610 (A3 262),en P "node" 612 (A3 266),en P "npredecessors" 614 (A3 267),en P "successors" 616 (A3 268),en P "__doc__" 617 AG] 5 }
noncomputable def Wp (P:As):Obj:={ cls:=AL "type",data:=Data.cls { name:=A0 "_NodeInfo",bases:=[AL "object"],mro:=[A3 265,AL "object"],ns:=264,qualname:=A0 "_NodeInfo",hasDict:=false,slotNames:=[A0 "node",A0 "npredecessors",A0 "successors"] },slots:=#[none,none,some (AD (A0 "_NodeInfo") 583),some (AD (A0 "_NodeInfo") 591),some (CS "object.__new__"),some (B6 false)] }
noncomputable def Wo (P:As):Obj:={ cls:=AL "member_descriptor",data:=BG #[AD (A0 "node") 611,A3 265,CS "proto.slot",CS "proto.slot#set",A5 2 0] }
noncomputable def Wn (P:As):Obj:={ cls:=AL "member_descriptor",data:=BG #[AD (A0 "npredecessors") 613,A3 265,CS "proto.slot",CS "proto.slot#set",A5 1 0] }
noncomputable def Wm (P:As):Obj:={ cls:=AL "member_descriptor",data:=BG #[AD (A0 "successors") 615,A3 265,CS "proto.slot",CS "proto.slot#set",A5 0 0] }
noncomputable def Wl (P:As):Obj:={ cls:=AL "dict",data:=Hw #[en P "__module__" 627 (AD (A0 "cpy313.graphlib") 575),en P "__firstlineno__" 631 (A5 428 630),en P "__doc__" 633 (AD docQ2 632),en P "__static_attributes__" 635 (A3 278),en P "__weakref__" 637 (A3 281)] 2 }
noncomputable def Wj (P:As):Obj:={ cls:=AL "type",data:=Data.cls { name:=A0 "CycleError",bases:=[AL "ValueError"],mro:=[A3 280,AL "ValueError",AL "Exception",AL "BaseException",AL "object"],ns:=279,qualname:=A0 "CycleError" },slots:=#[some (A3 271),none,some (AD (A0 "CycleError") 620),some (AD (A0 "CycleError") 628),some (CS "ValueError.__new__"),some (B6 true)] }
noncomputable def Wi (P:As):Obj:={ cls:=AL "tuple",data:=FO #[AG] }
noncomputable def Wh (P:As):Obj:={ cls:=AL "code",data:=BG #[AD (A0 "__init__") 655,AD (A0 "TopologicalSorter.__init__") 656,AD (A0 "/claim/cut.py") 657,A5 443 0,A5 2 0,A5 0 0,A5 0 0,A5 3 0,A3 292,B6 true,A5 181 0,A3 293,AG,A3 294,A3 295,A3 296,A5 662 0,A5 443 0,AD (A0 "/claim/cut.py") 663] }
noncomputable def Wg (P:As):Obj:=fnO (at9 (Gn (at9 pw.main.body 11)) 1) "TopologicalSorter.__init__" (A3 291) .none (.str (A0 "cpy313.graphlib") 575) 297
noncomputable def Wf (P:As):Obj:={ cls:=AL "code",data:=BG #[AD (A0 "_get_nodeinfo") 665,AD (A0 "TopologicalSorter._get_nodeinfo") 666,AD (A0 "/claim/cut.py") 667,A5 452 0,A5 2 0,A5 0 0,A5 0 0,A5 3 0,A3 299,B6 true,A5 181 0,A3 300,AG,A3 301,A3 302,A3 303,A5 671 0,A5 452 0,AD (A0 "/claim/cut.py") 672] }
noncomputable def We (P:As):Obj:=fnO (at9 (Gn (at9 pw.main.body 11)) 2) "TopologicalSorter._get_nodeinfo" (AG) .none (.str (A0 "cpy313.graphlib") 575) 304
noncomputable def Wc (P:As):Obj:={ cls:=AL "code",data:=BG #[AD (A0 "add") 674,AD (A0 "TopologicalSorter.add") 675,AD (A0 "/claim/cut.py") 676,A5 457 0,A5 2 0,A5 0 0,A5 0 0,A5 7 0,A3 306,B6 true,A5 181 0,A3 307,AG,A3 308,A3 309,A3 310,A5 683 0,A5 457 0,AD (A0 "/claim/cut.py") 684] }
noncomputable def Wb (P:As):Obj:=fnO (at9 (Gn (at9 pw.main.body 11)) 3) "TopologicalSorter.add" (AG) (No (at9 (Gn (at9 pw.main.body 11)) 3) 685) (.str (A0 "cpy313.graphlib") 575) 311
noncomputable def Wa (P:As):Obj:={ cls:=AL "code",data:=BG #[AD (A0 "prepare") 687,AD (A0 "TopologicalSorter.prepare") 688,AD (A0 "/claim/cut.py") 689,A5 480 0,A5 1 0,A5 0 0,A5 0 0,A5 3 0,A3 313,B6 true,A5 181 0,A3 314,AG,AG,AG,A3 315,A5 690 0,A5 480 0,AD (A0 "/claim/cut.py") 691] }
noncomputable def WZ (P:As):Obj:=fnO (at9 (Gn (at9 pw.main.body 11)) 4) "TopologicalSorter.prepare" (AG) (No (at9 (Gn (at9 pw.main.body 11)) 4) 692) (.str (A0 "cpy313.graphlib") 575) 316
noncomputable def WY (P:As):Obj:={ cls:=AL "code",data:=BG #[AD (A0 "get_ready") 694,AD (A0 "TopologicalSorter.get_ready") 695,AD (A0 "/claim/cut.py") 696,A5 495 0,A5 1 0,A5 0 0,A5 0 0,A5 3 0,A3 318,B6 true,A5 181 0,A3 319,AG,A3 320,A3 321,A3 322,A5 701 0,A5 495 0,AD (A0 "/claim/cut.py") 702] }
noncomputable def WX (P:As):Obj:=fnO (at9 (Gn (at9 pw.main.body 11)) 5) "TopologicalSorter.get_ready" (AG) (No (at9 (Gn (at9 pw.main.body 11)) 5) 703) (.str (A0 "cpy313.graphlib") 575) 323
noncomputable def WW (P:As):Obj:={ cls:=AL "code",data:=BG #[AD (A0 "done") 720,AD (A0 "TopologicalSorter.done") 721,AD (A0 "/claim/cut.py") 722,A5 532 0,A5 1 0,A5 0 0,A5 0 0,A5 7 0,A3 339,B6 true,A5 181 0,A3 340,AG,A3 341,A3 342,A3 343,A5 731 0,A5 532 0,AD (A0 "/claim/cut.py") 732] }
noncomputable def WV (P:As):Obj:=fnO (at9 (Gn (at9 pw.main.body 11)) 8) "TopologicalSorter.done" (AG) (No (at9 (Gn (at9 pw.main.body 11)) 8) 733) (.str (A0 "cpy313.graphlib") 575) 344
noncomputable def WU (P:As):Obj:={ cls:=AL "code",data:=BG #[AD (A0 "_find_cycle") 735,AD (A0 "TopologicalSorter._find_cycle") 736,AD (A0 "/claim/cut.py") 737,A5 565 0,A5 1 0,A5 0 0,A5 0 0,A5 3 0,A3 346,B6 true,A5 181 0,A3 347,AG,A3 348,A3 349,A3 350,A5 745 0,A5 565 0,AD (A0 "/claim/cut.py") 746] }
noncomputable def WT (P:As):Obj:=fnO (at9 (Gn (at9 pw.main.body 11)) 9) "TopologicalSorter._find_cycle" (AG) .none (.str (A0 "cpy313.graphlib") 575) 351
noncomputable def WR (P:As):Obj:={ cls:=AL "dict",data:=Hw #[en P "__module__" 647 (AD (A0 "cpy313.graphlib") 575),en P "__firstlineno__" 651 (A5 440 650),en P "__doc__" 653 (AD (A0 "Provides functionality to topologically sort a graph of hashable nodes") 652),en P "__init__" 664 (A3 298),en P "_get_nodeinfo" 673 (A3 305),en P "add" 686 (A3 312),en P "prepare" 693 (A3 317),en P "get_ready" 704 (A3 324),en P "is_active" 712 (A3 331),en P "__bool__" 719 (A3 338),en P "done" 734 (A3 345),en P "_find_cycle" 747 (A3 352),en P "static_order" 754 (A3 359),en P "__static_attributes__" 759 (A3 360),en P "__dict__" 761 (A3 363),en P "__weakref__" 763 (A3 364)] 3 }
noncomputable def WQ (P:As):Obj:={ cls:=AL "type",data:=Data.cls { name:=A0 "TopologicalSorter",bases:=[AL "object"],mro:=[A3 362,AL "object"],ns:=361,qualname:=A0 "TopologicalSorter" },slots:=#[none,none,some (AD (A0 "TopologicalSorter") 640),some (AD (A0 "TopologicalSorter") 648),some (CS "object.__new__"),some (B6 true)] }
noncomputable def WP (P:As):Obj:={ cls:=AL "code",data:=BG #[AD (A0 "_law_words") 768,AD (A0 "_law_words") 769,AD (A0 "/claim/cut.py") 770,A5 597 0,A5 1 0,A5 0 0,A5 0 0,A5 3 0,A3 367,B6 true,A5 181 0,A3 368,AG,AG,AG,A3 369,A5 771 0,A5 597 0,AD (A0 "/claim/cut.py") 772] }
noncomputable def WO (P:As):Obj:=fnO (at9 pw.main.body 13) "_law_words" (AG) .none (.str (A0 "law_nq0317_02") 766) 370
noncomputable def WN (P:As):Obj:={ cls:=AL "code",data:=BG #[AD (A0 "_law_cut") 774,AD (A0 "_law_cut") 775,AD (A0 "/claim/cut.py") 776,A5 603 0,A5 2 0,A5 0 0,A5 0 0,A5 3 0,A3 372,B6 true,A5 181 0,A3 373,AG,AG,AG,A3 374,A5 777 0,A5 603 0,AD (A0 "/claim/cut.py") 778] }
noncomputable def WM (P:As):Obj:=fnO (at9 pw.main.body 14) "_law_cut" (AG) .none (.str (A0 "law_nq0317_02") 766) 375
noncomputable def WL (P:As):Obj:={ cls:=AL "code",data:=BG #[AD (A0 "_law_lead_round") 780,AD (A0 "_law_lead_round") 781,AD (A0 "/claim/cut.py") 782,A5 612 0,A5 1 0,A5 0 0,A5 0 0,A5 3 0,A3 377,B6 true,A5 181 0,A3 378,AG,A3 379,A3 380,A3 381,A5 791 0,A5 612 0,AD (A0 "/claim/cut.py") 792] }
noncomputable def WK (P:As):Obj:=fnO (at9 pw.main.body 15) "_law_lead_round" (AG) .none (.str (A0 "law_nq0317_02") 766) 382
noncomputable def WJ (P:As):Obj:={ cls:=AL "code",data:=BG #[AD (A0 "_law_columns") 794,AD (A0 "_law_columns") 795,AD (A0 "/claim/cut.py") 796,A5 620 0,A5 2 0,A5 0 0,A5 0 0,A5 3 0,A3 384,B6 true,A5 181 0,A3 385,AG,AG,AG,A3 386,A5 797 0,A5 620 0,AD (A0 "/claim/cut.py") 798] }
noncomputable def WI (P:As):Obj:=fnO (at9 pw.main.body 16) "_law_columns" (AG) .none (.str (A0 "law_nq0317_02") 766) 387
noncomputable def WH (P:As):Obj:={ cls:=AL "code",data:=BG #[AD (A0 "_law_sorter") 800,AD (A0 "_law_sorter") 801,AD (A0 "/claim/cut.py") 802,A5 625 0,A5 1 0,A5 0 0,A5 0 0,A5 3 0,A3 389,B6 true,A5 181 0,A3 390,AG,A3 391,A3 392,A3 393,A5 806 0,A5 625 0,AD (A0 "/claim/cut.py") 807] }
noncomputable def WG (P:As):Obj:=fnO (at9 pw.main.body 17) "_law_sorter" (AG) .none (.str (A0 "law_nq0317_02") 766) 394
noncomputable def WF (P:As):Obj:={ cls:=AL "code",data:=BG #[AD (A0 "_law_smooth") 809,AD (A0 "_law_smooth") 810,AD (A0 "/claim/cut.py") 811,A5 633 0,A5 1 0,A5 0 0,A5 0 0,A5 3 0,A3 396,B6 true,A5 181 0,A3 397,AG,A3 398,A3 399,A3 400,A5 813 0,A5 633 0,AD (A0 "/claim/cut.py") 814] }
noncomputable def WE (P:As):Obj:=fnO (at9 pw.main.body 18) "_law_smooth" (AG) .none (.str (A0 "law_nq0317_02") 766) 401
noncomputable def WD (P:As):Obj:={ cls:=AL "code",data:=BG #[AD (A0 "_law_shortest") 816,AD (A0 "_law_shortest") 817,AD (A0 "/claim/cut.py") 818,A5 639 0,A5 2 0,A5 0 0,A5 0 0,A5 3 0,A3 403,B6 true,A5 181 0,A3 404,AG,AG,AG,A3 405,A5 819 0,A5 639 0,AD (A0 "/claim/cut.py") 820] }
noncomputable def WB (P:As):Obj:=fnO (at9 pw.main.body 19) "_law_shortest" (AG) .none (.str (A0 "law_nq0317_02") 766) 406
noncomputable def WA (P:As):Obj:={ cls:=AL "code",data:=BG #[AD (A0 "law") 822,AD (A0 "law") 823,AD (A0 "/claim/cut.py") 824,A5 656 0,A5 1 0,A5 0 0,A5 0 0,A5 3 0,A3 408,B6 true,A5 181 0,A3 409,AG,AG,AG,A3 410,A5 825 0,A5 656 0,AD (A0 "/claim/cut.py") 826] }
noncomputable def W9 (P:As):Obj:=fnO (at9 pw.main.body 20) "law" (AG) .none (.str (A0 "law_nq0317_02") 766) 411
noncomputable def K (P:As):Frag:=by
 refine (fun (x2 x3 x65 x81 x82 x88 x89 x90 x91 x134 x135 x136 x153 x159 x160 x166 x167 x173 x174 x180 x181 x187 x188 x189 x195 x196 x202 x203 x241 x242 x260 x261 x262 x264 x265 x266 x267 x268 x279 x280 x291 x297 x298 x304 x305 x311 x312 x316 x317 x323 x324 x344 x345 x351 x352 x361 x362 x370 x371 x375 x376 x382 x383 x387 x388 x394 x395 x401 x402 x406 x407 x411 x412:Obj) (_:[o2 P,o3 P,o65 P,o81 P,o82 P,o88 P,o89 P,o90 P,o91 P,XR P,XQ P,XO P,XN P,XK P,XI P,XH P,XG P,XE P,XD P,XC P,XA P,X6 P,X5 P,X0 P,Wz P,Wy P,Wx P,Ww P,Wv P,Wu P,Wt P,Ws P,Wr P,Wq P,Wp P,Wo P,Wn P,Wm P,Wl P,Wj P,Wi P,Wh P,Wg P,Wf P,We P,Wc P,Wb P,Wa P,WZ P,WY P,WX P,WW P,WV P,WU P,WT P,WR P,WQ P,WP P,WO P,WN P,WM P,WL P,WK P,WJ P,WI P,WH P,WG P,WF P,WE P,WD P,WB P,WA P,W9 P]=[x2,x3,x65,x81,x82,x88,x89,x90,x91,x134,x135,x136,x153,x159,x160,x166,x167,x173,x174,x180,x181,x187,x188,x189,x195,x196,x202,x203,x241,x242,x260,x261,x262,x264,x265,x266,x267,x268,x279,x280,x291,x297,x298,x304,x305,x311,x312,x316,x317,x323,x324,x344,x345,x351,x352,x361,x362,x370,x371,x375,x376,x382,x383,x387,x388,x394,x395,x401,x402,x406,x407,x411,x412])=>(nat_lit 2,x2)::(nat_lit 3,x3)::(nat_lit 65,x65)::(nat_lit 81,x81)::(nat_lit 82,x82)::(nat_lit 88,x88)::(nat_lit 89,x89)::(nat_lit 90,x90)::(nat_lit 91,x91)::(nat_lit 134,x134)::(nat_lit 135,x135)::(nat_lit 136,x136)::(nat_lit 153,x153)::(nat_lit 159,x159)::(nat_lit 160,x160)::(nat_lit 166,x166)::(nat_lit 167,x167)::(nat_lit 173,x173)::(nat_lit 174,x174)::(nat_lit 180,x180)::(nat_lit 181,x181)::(nat_lit 187,x187)::(nat_lit 188,x188)::(nat_lit 189,x189)::(nat_lit 195,x195)::(nat_lit 196,x196)::(nat_lit 202,x202)::(nat_lit 203,x203)::(nat_lit 241,x241)::(nat_lit 242,x242)::(nat_lit 260,x260)::(nat_lit 261,x261)::(nat_lit 262,x262)::(nat_lit 264,x264)::(nat_lit 265,x265)::(nat_lit 266,x266)::(nat_lit 267,x267)::(nat_lit 268,x268)::(nat_lit 279,x279)::(nat_lit 280,x280)::(nat_lit 291,x291)::(nat_lit 297,x297)::(nat_lit 298,x298)::(nat_lit 304,x304)::(nat_lit 305,x305)::(nat_lit 311,x311)::(nat_lit 312,x312)::(nat_lit 316,x316)::(nat_lit 317,x317)::(nat_lit 323,x323)::(nat_lit 324,x324)::(nat_lit 344,x344)::(nat_lit 345,x345)::(nat_lit 351,x351)::(nat_lit 352,x352)::(nat_lit 361,x361)::(nat_lit 362,x362)::(nat_lit 370,x370)::(nat_lit 371,x371)::(nat_lit 375,x375)::(nat_lit 376,x376)::(nat_lit 382,x382)::(nat_lit 383,x383)::(nat_lit 387,x387)::(nat_lit 388,x388)::(nat_lit 394,x394)::(nat_lit 395,x395)::(nat_lit 401,x401)::(nat_lit 402,x402)::(nat_lit 406,x406)::(nat_lit 407,x407)::(nat_lit 411,x411)::(nat_lit 412,x412)::[]) ?x2 ?x3 ?x65 ?x81 ?x82 ?x88 ?x89 ?x90 ?x91 ?x134 ?x135 ?x136 ?x153 ?x159 ?x160 ?x166 ?x167 ?x173 ?x174 ?x180 ?x181 ?x187 ?x188 ?x189 ?x195 ?x196 ?x202 ?x203 ?x241 ?x242 ?x260 ?x261 ?x262 ?x264 ?x265 ?x266 ?x267 ?x268 ?x279 ?x280 ?x291 ?x297 ?x298 ?x304 ?x305 ?x311 ?x312 ?x316 ?x317 ?x323 ?x324 ?x344 ?x345 ?x351 ?x352 ?x361 ?x362 ?x370 ?x371 ?x375 ?x376 ?x382 ?x383 ?x387 ?x388 ?x394 ?x395 ?x401 ?x402 ?x406 ?x407 ?x411 ?x412 ?h
 case h=>
  delta o2 o3 o65 o81 o82 o88 o89 o90 o91 XR XQ XO XN XK XI XH XG XE XD XC XA X6 X5 X0 Wz Wy Wx Ww Wv Wu Wt Ws Wr Wq Wp Wo Wn Wm Wl Wj Wi Wh Wg Wf We Wc Wb Wa WZ WY WX WW WV WU WT WR WQ WP WO WN WM WL WK WJ WI WH WG WF WE WD WB WA W9 PySem.W.boot_o_2;dsimp only [en,fnO,fnA,No,pw,Cv,at9,Gn,PySem.docOf,Option.elim];rfl
noncomputable def asK:List Addr:=[2,3,65,81,82,88,89,90,91,134,135,136,153,159,160,166,167,173,174,180,181,187,188,189,195,196,202,203,241,242,260,261,262,264,265,266,267,268,279,280,291,297,298,304,305,311,312,316,317,323,324,344,345,351,352,361,362,370,371,375,376,382,383,387,388,394,395,401,402,406,407,411,412]
theorem Jt (P:As):asK=(K P).map (·.1):=by kernel_rfl
noncomputable def q:AY:=view Cv [0,2,3,4,5,7,8,9,10,11,13,14,15,16,17,18,19,20]
noncomputable abbrev loose:List Str:=[A0 "_tuplegetter",A0 "Match",A0 "SequenceMatcher",A0 "_NodeInfo"]
noncomputable abbrev sF (w:World)(os:EA):A4:=⟨M6 w.params,FP [],{},828,os⟩
noncomputable abbrev row:OpenRow:=rw_nq0317_02.row
noncomputable abbrev Xt:A4→Bool:=fun s=>xlAt q [] s&&recOk (RowW.records row.toRowW) s
noncomputable abbrev H:Hook:=kHook K asK Jt
theorem Va (w:World)(os:EA):((staticsOk (importedModules pw.main.body) (IJ w.params) (M6 w.params)&&namesBound pw (M6 w.params)&&gensDone (sF w os)&&laidKept (IJ w.params) (M6 w.params)),openSeen q loose (importedModules pw.main.body) Xt true (sF w os),asK.map (sF w os).heap.get?)=(true,openGood q loose,(K w.params).map fun p=>some p.2):=by kernel_rfl
theorem size (w:World):((IJ w.params).isNs mainGlobals&&(FP ([]:List IC)).size==0,(IJ w.params).objs.size,(IJ w.params).nsMap mainGlobals "__annotations__")=(true,11,ann):=by kernel_rfl
theorem left:LeftO pw q loose Xt H.obs H.val 6900:=
 LeftO.of_pieces (H₀:=IJ) (H₁:=M6) (gs₀:=FP []) (gs₁:=FP []) (d₀:=boot_drawn) (d₁:={}) (k₀:=boot_toks) (k₁:=828) (m₀:=11) (ann:=ann) (M:=12+(1+(3400+5)))
  (boot_open (by kernel_rfl) (by decide) (fun s=>by kernel_rfl)) size run (by decide)
  (fun w=>funext (Va w))
structure V9 (p:Prop):Prop where
 out:p
theorem Af {p:Prop}(h:V9 p):p:=h.out
theorem Bo {h₀ h:Heap}{L:Addr}{news news':List (Addr×Obj)}(N:News h₀ L h news)(hs:∀p∈news',p∈news):News h₀ L h news':=fun p hp=>N p (hs p hp)
theorem XY {n:Nat}(h:0<n):((-1:Int)+(n:Int)).toNat=n-1:=by
 cases n with
 | zero=>cases h
 | succ n=>
  rw [Int.natCast_succ,FL,Int.add_neg_cancel_right];rfl
theorem mc1 {α:Type}{a b:α}{l:List α}(h:a∈b::l):a=b∨a∈l:=BD.mp h
theorem ms1 {α:Type}{a b:α}(h:a∈[b]):a=b:=Cj.mp h
theorem mm1 {α β:Type}{b:β}{l:List α}{f:α→β}(h:b∈l.map f):∃a,a∈l∧f a=b:=List.mem_map.mp h
theorem mm2 {α β:Type}{b:β}{l:List α}{f:α→β}(h:∃a,a∈l∧f a=b):b∈l.map f:=List.mem_map.mpr h
theorem fc1 {α:Type}{p:α→Prop}{a:α}{l:List α}(h:p a∧∀x,x∈l→p x):∀x,x∈a::l→p x:=List.forall_mem_cons.mpr h
theorem fs1 {α:Type}{p:α→Prop}{a:α}(h:p a):∀x,x∈[a]→p x:=List.forall_mem_singleton.mpr h
theorem nc1 {α:Type}{a:α}{l:List α}(h:(a::l).Nodup):¬a∈l∧l.Nodup:=Ce.mp h
theorem maR {α:Type}{a:α}{bs:List α}(as:List α)(h:a∈bs):a∈as++bs:=List.mem_append_right as h
theorem maL {α:Type}{a:α}{as:List α}(bs:List α)(h:a∈as):a∈as++bs:=Kb bs h
theorem mf1 {α:Type}{a:α}{l:List α}{p:α→Bool}(h:a∈l.filter p):a∈l∧p a=true:=List.mem_filter.mp h
theorem mH1 {α:Type}{x a:α}{l:List α}:x∈a::x::l:=.tail _ (.head _)
theorem mT2 {α:Type}{x a b:α}{l:List α}(hm:x∈l):x∈a::b::l:=.tail _ (.tail _ hm)
theorem mH2 {α:Type}{x a b:α}{l:List α}:x∈a::b::x::l:=.tail _ (.tail _ (.head _))
theorem mT3 {α:Type}{x a b c:α}{l:List α}(hm:x∈l):x∈a::b::c::l:=.tail _ (.tail _ (.tail _ hm))
theorem mH3 {α:Type}{x a b c:α}{l:List α}:x∈a::b::c::x::l:=.tail _ (.tail _ (.tail _ (.head _)))
theorem mT4 {α:Type}{x a b c d:α}{l:List α}(hm:x∈l):x∈a::b::c::d::l:=.tail _ (.tail _ (.tail _ (.tail _ hm)))
theorem mH4 {α:Type}{x a b c d:α}{l:List α}:x∈a::b::c::d::x::l:=.tail _ (.tail _ (.tail _ (.tail _ (.head _))))
theorem mT5 {α:Type}{x a b c d e:α}{l:List α}(hm:x∈l):x∈a::b::c::d::e::l:=.tail _ (.tail _ (.tail _ (.tail _ (.tail _ hm))))
theorem mH5 {α:Type}{x a b c d e:α}{l:List α}:x∈a::b::c::d::e::x::l:=.tail _ (.tail _ (.tail _ (.tail _ (.tail _ (.head _)))))
theorem mT6 {α:Type}{x a b c d e f:α}{l:List α}(hm:x∈l):x∈a::b::c::d::e::f::l:=.tail _ (.tail _ (.tail _ (.tail _ (.tail _ (.tail _ hm)))))
theorem mH6 {α:Type}{x a b c d e f:α}{l:List α}:x∈a::b::c::d::e::f::x::l:=.tail _ (.tail _ (.tail _ (.tail _ (.tail _ (.tail _ (.head _))))))
theorem mT7 {α:Type}{x a b c d e f g:α}{l:List α}(hm:x∈l):x∈a::b::c::d::e::f::g::l:=.tail _ (.tail _ (.tail _ (.tail _ (.tail _ (.tail _ (.tail _ hm))))))
theorem mH7 {α:Type}{x a b c d e f g:α}{l:List α}:x∈a::b::c::d::e::f::g::x::l:=.tail _ (.tail _ (.tail _ (.tail _ (.tail _ (.tail _ (.tail _ (.head _)))))))
theorem mT8 {α:Type}{x a b c d e f g i:α}{l:List α}(hm:x∈l):x∈a::b::c::d::e::f::g::i::l:=.tail _ (.tail _ (.tail _ (.tail _ (.tail _ (.tail _ (.tail _ (.tail _ hm)))))))
theorem mH8 {α:Type}{x a b c d e f g i:α}{l:List α}:x∈a::b::c::d::e::f::g::i::x::l:=.tail _ (.tail _ (.tail _ (.tail _ (.tail _ (.tail _ (.tail _ (.tail _ (.head _))))))))
theorem mT9 {α:Type}{x a b c d e f g i j:α}{l:List α}(hm:x∈l):x∈a::b::c::d::e::f::g::i::j::l:=.tail _ (.tail _ (.tail _ (.tail _ (.tail _ (.tail _ (.tail _ (.tail _ (.tail _ hm))))))))
theorem mH9 {α:Type}{x a b c d e f g i j:α}{l:List α}:x∈a::b::c::d::e::f::g::i::j::x::l:=.tail _ (.tail _ (.tail _ (.tail _ (.tail _ (.tail _ (.tail _ (.tail _ (.tail _ (.head _)))))))))
theorem Xi {α:Type}{x a b c d e f g i j k:α}{l:List α}(hm:x∈l):x∈a::b::c::d::e::f::g::i::j::k::l:=.tail _ (.tail _ (.tail _ (.tail _ (.tail _ (.tail _ (.tail _ (.tail _ (.tail _ (.tail _ hm)))))))))
theorem A6 {α:Type}{a:α}{l big:List α}(h:a∈big)(hl:∀q∈l,q∈big):∀q∈a::l,q∈big:=List.forall_mem_cons.mpr ⟨h,hl⟩
theorem AH {α:Type}{q a:α}{l big:List α}(h:q∈a::l)(ha:a∈big)(hl:q∈l→q∈big):q∈big:=(BD.mp h).elim (fun e=>e▸ha) hl
@[elab_as_elim] theorem AQ {α:Type}{a:α}{l:List α}{P:α→Prop}{q:α}(h:q∈a::l)(ha:P a)(hl:q∈l→P q):P q:=(BD.mp h).elim (fun e=>e▸ha) hl
theorem AF {α:Type}{q:α}{l r:List α}{G:Prop}(h:q∈l++r)(h1:q∈l→G)(h2:q∈r→G):G:=(Cf.mp h).elim h1 h2
theorem Vu {p0 p1 p2 p3 p4 p5 p6 p7 p8:Prop}{G:Prop}(h:p0∧p1∧p2∧p3∧p4∧p5∧p6∧p7∧p8)(f:p0→p1→p2→p3→p4→p5→p6→p7→p8→G):G:=by obtain ⟨h0,h1,h2,h3,h4,h5,h6,h7,h8⟩:=h;exact f h0 h1 h2 h3 h4 h5 h6 h7 h8
theorem Vs {α0:Sort u0}{α1:Sort u1}{p0 p1 p2 p3:α0→α1→Prop}{G:Prop}(h:∃a0 a1,p0 a0 a1∧p1 a0 a1∧p2 a0 a1∧p3 a0 a1)(f:∀a0 a1,p0 a0 a1→p1 a0 a1→p2 a0 a1→p3 a0 a1→G):G:=by obtain ⟨a0,a1,h0,h1,h2,h3⟩:=h;exact f a0 a1 h0 h1 h2 h3
theorem Vr {α0:Sort u0}{α1:Sort u1}{p0 p1 p2 p3 p4 p5 p6 p7 p8:α0→α1→Prop}{G:Prop}(h:∃a0 a1,p0 a0 a1∧p1 a0 a1∧p2 a0 a1∧p3 a0 a1∧p4 a0 a1∧p5 a0 a1∧p6 a0 a1∧p7 a0 a1∧p8 a0 a1)(f:∀a0 a1,p0 a0 a1→p1 a0 a1→p2 a0 a1→p3 a0 a1→p4 a0 a1→p5 a0 a1→p6 a0 a1→p7 a0 a1→p8 a0 a1→G):G:=by obtain ⟨a0,a1,h0,h1,h2,h3,h4,h5,h6,h7,h8⟩:=h;exact f a0 a1 h0 h1 h2 h3 h4 h5 h6 h7 h8
theorem CL {p0 p1:Prop}{G:Prop}(h:p0∧p1)(f:p0→p1→G):G:=by obtain ⟨h0,h1⟩:=h;exact f h0 h1
theorem Dj {p0 p1 p2:Prop}{G:Prop}(h:p0∧p1∧p2)(f:p0→p1→p2→G):G:=by obtain ⟨h0,h1,h2⟩:=h;exact f h0 h1 h2
theorem Fi {p0 p1 p2 p3:Prop}{G:Prop}(h:p0∧p1∧p2∧p3)(f:p0→p1→p2→p3→G):G:=by obtain ⟨h0,h1,h2,h3⟩:=h;exact f h0 h1 h2 h3
theorem R7 {p0 p1 p2 p3 p4:Prop}{G:Prop}(h:p0∧p1∧p2∧p3∧p4)(f:p0→p1→p2→p3→p4→G):G:=by obtain ⟨h0,h1,h2,h3,h4⟩:=h;exact f h0 h1 h2 h3 h4
theorem TQ {p0 p1 p2 p3 p4 p5:Prop}{G:Prop}(h:p0∧p1∧p2∧p3∧p4∧p5)(f:p0→p1→p2→p3→p4→p5→G):G:=by obtain ⟨h0,h1,h2,h3,h4,h5⟩:=h;exact f h0 h1 h2 h3 h4 h5
theorem Nn {p0 p1 p2 p3 p4 p5 p6:Prop}{G:Prop}(h:p0∧p1∧p2∧p3∧p4∧p5∧p6)(f:p0→p1→p2→p3→p4→p5→p6→G):G:=by obtain ⟨h0,h1,h2,h3,h4,h5,h6⟩:=h;exact f h0 h1 h2 h3 h4 h5 h6
theorem TP {p0 p1 p2 p3 p4 p5 p6 p7:Prop}{G:Prop}(h:p0∧p1∧p2∧p3∧p4∧p5∧p6∧p7)(f:p0→p1→p2→p3→p4→p5→p6→p7→G):G:=by obtain ⟨h0,h1,h2,h3,h4,h5,h6,h7⟩:=h;exact f h0 h1 h2 h3 h4 h5 h6 h7
theorem Bp {α0:Sort u0}{p0:α0→Prop}{G:Prop}(h:∃a0,p0 a0)(f:∀a0,p0 a0→G):G:=by obtain ⟨a0,h0⟩:=h;exact f a0 h0
theorem Aq {α0:Sort u0}{p0 p1:α0→Prop}{G:Prop}(h:∃a0,p0 a0∧p1 a0)(f:∀a0,p0 a0→p1 a0→G):G:=by obtain ⟨a0,h0,h1⟩:=h;exact f a0 h0 h1
theorem Dn {α0:Sort u0}{p0 p1 p2:α0→Prop}{G:Prop}(h:∃a0,p0 a0∧p1 a0∧p2 a0)(f:∀a0,p0 a0→p1 a0→p2 a0→G):G:=by obtain ⟨a0,h0,h1,h2⟩:=h;exact f a0 h0 h1 h2
theorem MA {α0:Sort u0}{p0 p1 p2 p3:α0→Prop}{G:Prop}(h:∃a0,p0 a0∧p1 a0∧p2 a0∧p3 a0)(f:∀a0,p0 a0→p1 a0→p2 a0→p3 a0→G):G:=by obtain ⟨a0,h0,h1,h2,h3⟩:=h;exact f a0 h0 h1 h2 h3
theorem Vt {α0:Sort u0}{p0 p1 p2 p3 p4:α0→Prop}{G:Prop}(h:∃a0,p0 a0∧p1 a0∧p2 a0∧p3 a0∧p4 a0)(f:∀a0,p0 a0→p1 a0→p2 a0→p3 a0→p4 a0→G):G:=by obtain ⟨a0,h0,h1,h2,h3,h4⟩:=h;exact f a0 h0 h1 h2 h3 h4
theorem I0 {α0:Sort u0}{α1:Sort u1}{p0:α0→α1→Prop}{G:Prop}(h:∃a0 a1,p0 a0 a1)(f:∀a0 a1,p0 a0 a1→G):G:=by obtain ⟨a0,a1,h0⟩:=h;exact f a0 a1 h0
theorem HA {α0:Sort u0}{α1:Sort u1}{p0 p1:α0→α1→Prop}{G:Prop}(h:∃a0 a1,p0 a0 a1∧p1 a0 a1)(f:∀a0 a1,p0 a0 a1→p1 a0 a1→G):G:=by obtain ⟨a0,a1,h0,h1⟩:=h;exact f a0 a1 h0 h1
theorem PO {α0:Sort u0}{α1:Sort u1}{p0 p1 p2:α0→α1→Prop}{G:Prop}(h:∃a0 a1,p0 a0 a1∧p1 a0 a1∧p2 a0 a1)(f:∀a0 a1,p0 a0 a1→p1 a0 a1→p2 a0 a1→G):G:=by obtain ⟨a0,a1,h0,h1,h2⟩:=h;exact f a0 a1 h0 h1 h2
theorem R6 {α0:Sort u0}{α1:Sort u1}{p0 p1 p2 p3 p4:α0→α1→Prop}{G:Prop}(h:∃a0 a1,p0 a0 a1∧p1 a0 a1∧p2 a0 a1∧p3 a0 a1∧p4 a0 a1)(f:∀a0 a1,p0 a0 a1→p1 a0 a1→p2 a0 a1→p3 a0 a1→p4 a0 a1→G):G:=by obtain ⟨a0,a1,h0,h1,h2,h3,h4⟩:=h;exact f a0 a1 h0 h1 h2 h3 h4
theorem Uw {α0:Sort u0}{α1:Sort u1}{α2:Sort u2}{p0 p1:α0→α1→α2→Prop}{G:Prop}(h:∃a0 a1 a2,p0 a0 a1 a2∧p1 a0 a1 a2)(f:∀a0 a1 a2,p0 a0 a1 a2→p1 a0 a1 a2→G):G:=by obtain ⟨a0,a1,a2,h0,h1⟩:=h;exact f a0 a1 a2 h0 h1
theorem Vp {α0:Sort u0}{α1:Sort u1}{α2:Sort u2}{p0 p1 p2:α0→α1→α2→Prop}{G:Prop}(h:∃a0 a1 a2,p0 a0 a1 a2∧p1 a0 a1 a2∧p2 a0 a1 a2)(f:∀a0 a1 a2,p0 a0 a1 a2→p1 a0 a1 a2→p2 a0 a1 a2→G):G:=by obtain ⟨a0,a1,a2,h0,h1,h2⟩:=h;exact f a0 a1 a2 h0 h1 h2
theorem Vo {α0:Sort u0}{α1:Sort u1}{α2:Sort u2}{p0 p1 p2 p3:α0→α1→α2→Prop}{G:Prop}(h:∃a0 a1 a2,p0 a0 a1 a2∧p1 a0 a1 a2∧p2 a0 a1 a2∧p3 a0 a1 a2)(f:∀a0 a1 a2,p0 a0 a1 a2→p1 a0 a1 a2→p2 a0 a1 a2→p3 a0 a1 a2→G):G:=by obtain ⟨a0,a1,a2,h0,h1,h2,h3⟩:=h;exact f a0 a1 a2 h0 h1 h2 h3
theorem Vn {α0:Sort u0}{α1:Sort u1}{α2:Sort u2}{p0 p1 p2 p3 p4 p5:α0→α1→α2→Prop}{G:Prop}(h:∃a0 a1 a2,p0 a0 a1 a2∧p1 a0 a1 a2∧p2 a0 a1 a2∧p3 a0 a1 a2∧p4 a0 a1 a2∧p5 a0 a1 a2)(f:∀a0 a1 a2,p0 a0 a1 a2→p1 a0 a1 a2→p2 a0 a1 a2→p3 a0 a1 a2→p4 a0 a1 a2→p5 a0 a1 a2→G):G:=by obtain ⟨a0,a1,a2,h0,h1,h2,h3,h4,h5⟩:=h;exact f a0 a1 a2 h0 h1 h2 h3 h4 h5
theorem Uv {α0:Sort u0}{α1:Sort u1}{α2:Sort u2}{α3:Sort u3}{p0 p1 p2 p3:α0→α1→α2→α3→Prop}{G:Prop}(h:∃a0 a1 a2 a3,p0 a0 a1 a2 a3∧p1 a0 a1 a2 a3∧p2 a0 a1 a2 a3∧p3 a0 a1 a2 a3)(f:∀a0 a1 a2 a3,p0 a0 a1 a2 a3→p1 a0 a1 a2 a3→p2 a0 a1 a2 a3→p3 a0 a1 a2 a3→G):G:=by obtain ⟨a0,a1,a2,a3,h0,h1,h2,h3⟩:=h;exact f a0 a1 a2 a3 h0 h1 h2 h3
theorem Vm {α0:Sort u0}{α1:Sort u1}{α2:Sort u2}{α3:Sort u3}{α4:Sort u4}{α5:Sort u5}{α6:Sort u6}{p0 p1 p2 p3 p4 p5 p6:α0→α1→α2→α3→α4→α5→α6→Prop}{G:Prop}(h:∃a0 a1 a2 a3 a4 a5 a6,p0 a0 a1 a2 a3 a4 a5 a6∧p1 a0 a1 a2 a3 a4 a5 a6∧p2 a0 a1 a2 a3 a4 a5 a6∧p3 a0 a1 a2 a3 a4 a5 a6∧p4 a0 a1 a2 a3 a4 a5 a6∧p5 a0 a1 a2 a3 a4 a5 a6∧p6 a0 a1 a2 a3 a4 a5 a6)(f:∀a0 a1 a2 a3 a4 a5 a6,p0 a0 a1 a2 a3 a4 a5 a6→p1 a0 a1 a2 a3 a4 a5 a6→p2 a0 a1 a2 a3 a4 a5 a6→p3 a0 a1 a2 a3 a4 a5 a6→p4 a0 a1 a2 a3 a4 a5 a6→p5 a0 a1 a2 a3 a4 a5 a6→p6 a0 a1 a2 a3 a4 a5 a6→G):G:=by obtain ⟨a0,a1,a2,a3,a4,a5,a6,h0,h1,h2,h3,h4,h5,h6⟩:=h;exact f a0 a1 a2 a3 a4 a5 a6 h0 h1 h2 h3 h4 h5 h6
theorem CU {z x:Str}{l:List Str}(h:l.contains z=false)(n:l.contains x=true):z≠x:=fun e=>by rw [e,n] at h;cases h
theorem iln {a b:Int}(h:a≤b)(n:a≠b):a<b:=Int.lt_iff_le_and_ne.mpr ⟨h,n⟩
theorem sb0 {n i:Nat}(h:n-i=0)(g:i≤n):i=n:=Cd g (Nat.sub_eq_zero_iff_le.mp h)
theorem sb1 {n i k:Nat}(h:n-i=k+1):i<n:=Nat.lt_of_sub_pos (h▸Iw k)
theorem sb2 {n i k:Nat}(h:n-i=k+1):n-(i+1)=k:=by rw [Tq,h];rfl
theorem LG {α:Type}{p:α→Bool}:∀{l:List α}{x:α},x∈l→p x=false→(l.filter p).length<l.length:=by
 intro xX
 induction xX with
 | nil=>intro x h _;cases h
 | cons y l iH=>
  intro x h hp;rw [Fp];rcases mc1 h with rfl | h
  ·rw [if_neg (by rw [hp];decide)];exact FF (DI _ _)
  have ih:=iH h hp;split
  ·exact Nat.succ_lt_succ ih
  exact AU ih
@[elab_as_elim] theorem mmE {α β:Type}{f:α→β}{l:List α}{P:β→Prop}{b:β}(h:b∈l.map f)(k:∀a,a∈l→P (f a)):P b:=by
 obtain ⟨a,ha,rfl⟩:=List.mem_map.mp h;exact k a ha
theorem CV {α:Sort u0}{P:Prop}(a:α)(k:∀x,x=a→P):P:=k a rfl
@[reducible] def up (m:Str→Option Value)(x:Str)(v:Value):Str→Option Value:=fun y=>if y=x then some v else m y
theorem W2 {M:Model}{A:AO}{E:Value→A4→Prop}{env:Env}{i:Int}{k:Nat}{pos:Pos}{Q:Value→A4→Prop}{h:Heap}{g:Array IC}{d:Drawn}{tk:Nat}{o:EA}(q:Q (.int i tk) ⟨h,g,d,tk+1,o⟩):wpAny M A (eval (.Constant (.int i) k pos) env) Q E ⟨h,g,d,tk,o⟩:=wpAny_Constant_int q
theorem SR {M:Model}{A:AO}{E:Value→A4→Prop}{h₀:Heap}{L a:Addr}{m:Str→Option Value}{cn:Str}{cs:Scope}{ccd:Value}{cl:List (Str×Addr)}{x:Str}{v:Value}{Q:Unit→A4→Prop}{news:List (Addr×Obj)}{h:Heap}{g:Array IC}{d:Drawn}{tk:Nat}{o:EA}(F:Fr h₀ L h m)(N:News h₀ L h news)
  (q:∀h',Fr h₀ L h' (fun y=>if y=x then some v else m y)→News h₀ L h' news→Q () ⟨h',g,d,tk+1,o⟩)
  (hk:cs.kind = .function) (hx:(envX cn cs L a ccd cl).kindOf x=some .local):wpAny M A (storeName (envX cn cs L a ccd cl) x v) Q E ⟨h,g,d,tk,o⟩:=storeX_L F N q hk hx
theorem SS {M:Model}{A:AO}{E:Value→A4→Prop}{h₀:Heap}{L a:Addr}{m:Str→Option Value}{cn:Str}{cs:Scope}{ccd:Value}{cl:List (Str×Addr)}{x:Str}{v:Value}{Q:Unit→A4→Prop}{news:List (Addr×Obj)}{h:Heap}{g:Array IC}{d:Drawn}{tk:Nat}{o:EA}(F:Fr h₀ L h m)(N:News h₀ L h news)
  (q:∀h',Fr h₀ L h' (up m x v)→News h₀ L h' news→Q () ⟨h',g,d,tk+1,o⟩)
  (hk:cs.kind = .function) (hx:(envX cn cs L a ccd cl).kindOf x=some .local):wpAny M A (storeName (envX cn cs L a ccd cl) x v) Q E ⟨h,g,d,tk,o⟩:=storeX_L F N q hk hx
theorem W8 {M:Model}{A:AO}{E:Value→A4→Prop}{s:A4}{h₀:Heap}{L a:Addr}{m:Str→Option Value}{cn:Str}{cs:Scope}{ccd:Value}{cl:List (Str×Addr)}{x:Str}{v:Value}{Q:Unit→A4→Prop}{news:List (Addr×Obj)}(F:Fr h₀ L s.heap m)(N:News h₀ L s.heap news)
  (h:∀h',Fr h₀ L h' (up m x v)→News h₀ L h' news→Q () { s with heap:=h',toks:=s.toks+1 })
  (hk:cs.kind = .function) (hx:(envX cn cs L a ccd cl).kindOf x=some .local):wpAny M A (storeName (envX cn cs L a ccd cl) x v) Q E s:=storeX_L F N h hk hx
section
variable {M:Model}{A:AO}{E:Value→A4→Prop}{s:A4}{h₀:Heap}{L a:Addr}{cn:Str}{cs:Scope}{ccd:Value}{cl:List (Str×Addr)}{m:Str→Option Value}{x:Str}{p pos:Pos}{v:Value}
theorem Tb {rest:List AW}{Q:List Value→A4→Prop}(F:Fr h₀ L s.heap m)(hv:some v=m x)(h:wpAny M A (Tk (Fv pos (Cx rest (envX cn cs L a ccd cl)))) (fun vs s₂=>Q (v::vs) s₂) E s)
  (hk:cs.kind = .function) (hx:(envX cn cs L a ccd cl).kindOf x=some .local) (hd:(x==("__debug__" : Str))=false):wpAny M A (Tk (Fv pos (Cx (.Name x p::rest) (envX cn cs L a ccd cl)))) Q E s:=args_cons (nameX_L F hv.symm h hk hx hd)
theorem Tc {i:Int}{k:Nat}{env:Env}{rest:List AW}{Q:List Value→A4→Prop}{h:Heap}{g:Array IC}{d:Drawn}{tk:Nat}{o:EA}(q:wpAny M A (Tk (Fv pos (Cx rest env))) (fun vs s₂=>Q (.int i tk::vs) s₂) E ⟨h,g,d,tk+1,o⟩):wpAny M A (Tk (Fv pos (Cx (.Constant (.int i) k p::rest) env))) Q E ⟨h,g,d,tk,o⟩:=args_cons (wpAny_Constant_int q)
theorem SO {e:AW}{Q:Value→A4→Prop}(F:Fr h₀ L s.heap m)(hv:some v=m x)(h:wpAny M A (eval e (envX cn cs L a ccd cl)) (fun i s₂=>wpAny M A (subscriptTail (.Name x p) e v i) Q E s₂) E s)
  (hk:cs.kind = .function) (hx:(envX cn cs L a ccd cl).kindOf x=some .local) (hd:(x==("__debug__" : Str))=false):wpAny M A (eval (.Subscript (.Name x p) e pos) (envX cn cs L a ccd cl)) Q E s:=Subscript_ (nameX_L F hv.symm h hk hx hd)
theorem V3 {o:Operator}{r:AW}{Q:Value→A4→Prop}(F:Fr h₀ L s.heap m)(hv:some v=m x)(h:wpAny M A (eval r (envX cn cs L a ccd cl)) (fun b s₂=>wpAny M A (binaryOp o v b) Q E s₂) E s)
  (hk:cs.kind = .function) (hx:(envX cn cs L a ccd cl).kindOf x=some .local) (hd:(x==("__debug__" : Str))=false):wpAny M A (eval (.BinOp (.Name x p) o r pos) (envX cn cs L a ccd cl)) Q E s:=wpAny_BinOp (nameX_L F hv.symm h hk hx hd)
theorem Ta {y:Str}{Q:Value→A4→Prop}(F:Fr h₀ L s.heap m)(hv:some v=m x)(h:wpAny M A (Dc v y true) Q E s)
  (hk:cs.kind = .function) (hx:(envX cn cs L a ccd cl).kindOf x=some .local) (hd:(x==("__debug__" : Str))=false):wpAny M A (eval (.Attribute (.Name x p) y pos) (envX cn cs L a ccd cl)) Q E s:=Attribute_Name_ (nameX_L F hv.symm h hk hx hd)
theorem Sp {y:Str}{ap:Pos}{args:List AW}{pl:Sem Bool}{Q:Value→A4→Prop}(F:Fr h₀ L s.heap m)(hv:some v=m x)(h:wpAny M A (Gb v y pl) (fun fx s₂=>wpAny M A (KY pos fx.1 fx.2 (Fv pos (Cx args (envX cn cs L a ccd cl))) []) Q E s₂) E s)
  (hk:cs.kind = .function) (hx:(envX cn cs L a ccd cl).kindOf x=some .local) (hd:(x==("__debug__" : Str))=false)
  (he:eval (.Call (.Attribute (.Name x p) y ap) args [] pos) (envX cn cs L a ccd cl)=(do
   let ov ←eval (.Name x p) (envX cn cs L a ccd cl)
   OA ap.atName
   let (f,first) ←LR [ov] (Gb ov y pl)
   KY pos f first (Fv pos (Cx args (envX cn cs L a ccd cl))) [])):wpAny M A (eval (.Call (.Attribute (.Name x p) y ap) args [] pos) (envX cn cs L a ccd cl)) Q E s:=MethodCall_ (nameX_L F hv.symm h hk hx hd) he
end
inductive S8 (h₀:Heap)(L:Addr)(wr:List Addr)(own:List (Addr×Obj))(J:(Str→Option Value)→List (Addr×Obj)→Prop)(g:Array IC)(d:Drawn)(os:EA)(s₂:A4):Prop
 | mk (h':Heap) (tk:Nat) (m':Str→Option Value) (news' nx:List (Addr×Obj)) (e:s₂=⟨h',g,d,tk,os⟩) (F:Fr h₀ L h' m') (N:News h₀ L h' news') (h1:∀p∈nx,p∈news') (h2:∀p∈own,p∈news') (h3:∀p∈nx,p.1∉wr) (hJ:J m' nx):S8 h₀ L wr own J g d os s₂
def DX (h₀:Heap)(L:Addr)(wr:List Addr)(own:List (Addr×Obj))(J:(Str→Option Value)→List (Addr×Obj)→Prop)(s₁ s₂:A4):Prop:=S8 h₀ L wr own J s₁.gens s₁.drawn s₁.os s₂
def TurnPost (h₀:Heap)(L:Addr)(wr:List Addr)(own:List (Addr×Obj))(J:(Str→Option Value)→List (Addr×Obj)→Prop)(s₁:A4)(Q:Flow→A4→Prop)(f:Flow)(s₂:A4):Prop:=
 match f with
 | .ret v=>Q (.ret v) s₂
 | .brk=>Q .next s₂
 | _=>DX h₀ L wr own J s₁ s₂
theorem Q4 {h₀ h':Heap}{L:Addr}{wr:List Addr}{own news':List (Addr×Obj)}{J:(Str→Option Value)→List (Addr×Obj)→Prop}{s₁:A4}{tk:Nat}{m':Str→Option Value}
  (nx:List (Addr×Obj)) (F:Fr h₀ L h' m') (N:News h₀ L h' news') (h1:∀p∈nx,p∈news') (h2:∀p∈own,p∈news') (h3:∀p∈nx,p.1∉wr) (hJ:J m' nx):DX h₀ L wr own J s₁ { s₁ with heap:=h',toks:=tk }:=
 ⟨h',tk,m',news',nx,rfl,F,N,h1,h2,h3,hJ⟩
section
variable {prog:AY}{w:World}{A:AO}{E:Value→A4→Prop}{s:A4}{env:Env}{h₀:Heap}{Q:Flow→A4→Prop}{body:List Stmt}
theorem VZ {x:Str}{I:Addr}{fp wr:List Addr}{n:Nat}{P:Nat→Value→Prop}{St:Nat→Heap→Prop}{m:Str→Option Value}{news:List (Addr×Obj)}
  (W:Walks prog w A I fp wr n P St) (hlive:∀i h,St i h→∀b∈wr,∃o,h.get? b=some o) (hLf:env.locals∉fp) (hwr:∀b∈wr,h₀.get? b=none) (hnw:∀p∈news,p.1∉wr) (hst:St 0 s.heap)
  (F:Fr h₀ env.locals s.heap m) (N:News h₀ env.locals s.heap news) (J:Nat→(Str→Option Value)→List (Addr×Obj)→Prop) (h0:J 0 m news)
  (turn:∀i v m₁ nx h tk own,i<n→P i v→J i m₁ nx→(∀p∈nx,p.1∉wr)→(∀b∈wr,∃o,(b,o)∈own)→(∀p∈own,p.1∈fp)→Fr h₀ env.locals h (fun y=>if y=x then some v else m₁ y)→News h₀ env.locals h (nx++own)→
   wpAny (model prog w) A (execs body env) (TurnPost h₀ env.locals wr own (J (i+1)) { s with heap:=h,toks:=tk } Q) E { s with heap:=h,toks:=tk })
  (done:∀m₁ nx h tk,J n m₁ nx→Fr h₀ env.locals h m₁→News h₀ env.locals h nx→Q .next { s with heap:=h,toks:=tk }) :
  LoopAtV prog w A h₀ env x body Q E (.ref I) s:=by
 refine ⟨I,fp,wr,n,P,St,m,news,J,rfl,W,hLf,hwr,hnw,hst,F,N,h0,?_,?_⟩
 ·rintro i v m₁ nx s₁ own ⟨h,tk,rfl⟩ hi hP hJ hnx hfp hown hall hst' F' N';refine Ac (turn i v m₁ nx h tk own hi hP hJ hnx (fun b hb=>?_) hfp F' (Bo N' fun p hp=>?_)) (fun f s₂ hf=>?_) fun _ _ e=>e
  ·refine Bp (hlive _ _ hst' b hb) ?_;intro o ho;exact ⟨o,hall b (W.sub b hb) (hwr b hb) o ho⟩
  ·refine AF hp (fun hp=>?_) fun hp=>?_
   ·exact maR _ hp
   exact maL _ hp
  have key:DX h₀ env.locals wr own (J (i+1)) { s with heap:=h,toks:=tk } s₂→LoopStepU h₀ env.locals wr own (J (i+1)) { s with heap:=h,toks:=tk } .next s₂:=by
   rintro ⟨h',tk',m',news',nx',rfl,F₂,N₂,a1,a2,a3,hJ'⟩;refine ⟨rfl,h',tk',m',nx',rfl,F₂,Bo N₂ fun p hp=>?_,a3,hJ'⟩;refine AF hp (fun hp=>?_) fun hp=>?_
   ·exact a2 p hp
   exact a1 p hp
  cases f with
  | ret v=>exact hf
  | brk=>exact hf
  | cont=>exact key hf
  | next=>exact key hf
 intro h' tk m' nx F' N' _ hJ;exact done m' nx h' tk hJ F' N'
structure ML (prog:AY)(w:World)(A:AO)(env:Env)(t:AW)(body:List Stmt)(Q:Flow→A4→Prop)(E:Value→A4→Prop)(it:Value)(s₂:A4):Prop where
 out:Bt (model prog w) A (.forLoop t it body [] env) (fun r s'=>match r with | .ok f=>Q f s' | .error e=>cameBackBy (model prog w) A env E e s') s₂
theorem Qz {xi xc:Str}{pk pv pt pos:Pos}{x1:Nat}{iter:AW}
  (h:wpAny (model prog w) A (eval iter env) (fun xv s₁=>wpAny (model prog w) A (CR xv) (fun it s₂=>ML prog w A env (.Tuple [.Name xi pk,.Name xc pv] x1 pt) body Q E it s₂) E s₁) E s)
  (hs:∀x,Ch iter env x=pure x) :
  wpAny (model prog w) A (exec (.For (.Tuple [.Name xi pk,.Name xc pv] x1 pt) iter body [] pos) env) Q E s:=
 wpAny_For (Ac h (fun xv s₁ h₁=>Ac h₁ (fun it s₂ h₂=>h₂.out) fun _ _ e=>e) fun _ _ e=>e) hs
inductive PLs (h₀:Heap)(L:Addr)(wr:List Addr)(J:Nat→(Str→Option Value)→List (Addr×Obj)→Prop)(St:Nat→Heap→Prop)(n:Nat)(s:A4)(k:Nat)(s':A4):Prop
 | mk (h':Heap) (tk:Nat) (m':Str→Option Value) (nx:List (Addr×Obj)) (i:Nat) (e:s' = { s with heap:=h',toks:=tk }) (hst:St i h') (F:Fr h₀ L h' m') (N:News h₀ L h' nx) (ha:∀p∈nx,p.1∉wr) (hJ:J i m' nx) (hi:i≤n) (hk:k=n+1-i):PLs h₀ L wr J St n s k s'
theorem UU {xi xc : Str} {pk pv pt : Pos} {x1 : Nat} {I : Addr} {fp wr : List Addr} {n : Nat} {Pt : Nat → Array Value → Prop} {St : Nat → Heap → Prop} {Mid : Nat → Addr → Heap → Prop}
  {P2 : Nat → Value → Value → Prop} {m : Str → Option Value} {news : List (Addr × Obj)} (hh : A.handled = none) (W : WalksT prog w A I fp wr n Pt St Mid) (h2 : ∀ i vals, Pt i vals → ∃ v0 v1, vals = #[v0, v1] ∧ P2 i v0 v1)
  (hlive : ∀ i h, St i h → ∀ b ∈ wr, ∃ o, h.get? b = some o) (hxi : env.kindOf xi = some .local) (hxc : env.kindOf xc = some .local)
  (hp : (env.scope.kind == .class || (env.scope.kind == .module && env.locals != env.globals)) = false) (hE : DR (model prog w) A env E)
  (hLf : env.locals ∉ fp) (hwr : ∀ b ∈ wr, h₀.get? b = none) (hnw : ∀ p ∈ news, p.1 ∉ wr) (hst : St 0 s.heap)
  (F : Fr h₀ env.locals s.heap m) (N : News h₀ env.locals s.heap news) (J : Nat → (Str → Option Value) → List (Addr × Obj) → Prop) (h0 : J 0 m news)
  (turn : ∀ i v0 v1 m₁ nx h tk own, i < n → P2 i v0 v1 → J i m₁ nx → (∀ p ∈ nx, p.1 ∉ wr) → (∀ b ∈ wr, ∃ o, (b, o) ∈ own) → (∀ p ∈ own, p.1 ∈ fp) → Fr h₀ env.locals h (fun y => if y = xc then some v1 else if y = xi then some v0 else m₁ y) → News h₀ env.locals h (nx ++ own) →
   wpAny (model prog w) A (execs body env) (TurnPost h₀ env.locals wr own (J (i + 1)) { s with heap := h, toks := tk } Q) E { s with heap := h, toks := tk })
  (done : ∀ m₁ nx h tk, J n m₁ nx → Fr h₀ env.locals h m₁ → News h₀ env.locals h nx → Q .next { s with heap := h, toks := tk }) :
  ML prog w A env (.Tuple [.Name xi pk, .Name xc pv] x1 pt) body Q E (.ref I) s := by
 refine ⟨?_⟩;have hLw : env.locals ∉ wr := fun h => hLf (W.sub _ h);have old : ∀ b o, h₀.get? b = some o → b ∉ wr := fun b o e hb => by rw [hwr b hb] at e; cases e
 refine codeAny_forLoop_any
  (PLs h₀ env.locals wr J St n s) ?_ (n + 1)
  ⟨s.heap, s.toks, m, news, 0, rfl, hst, F, N, hnw, h0, B0 _, rfl⟩
 clear hst F N hnw h0;rintro k s' ⟨H, tk, m', nx, i, rfl, hst', F', N', ha', hJ, hi, rfl⟩;have next : ∀ h₁ : Heap, (∀ b o, b ∉ wr → H.get? b = some o → h₁.get? b = some o) → Fr h₀ env.locals h₁ m' ∧ News h₀ env.locals h₁ nx := fun h₁ hk₁ =>
  ⟨⟨F'.ns.at' fun o e => hk₁ _ o hLw e, fun b o e => hk₁ b o (old b o e) (F'.keep b o e), F'.above⟩, fun p hp => ⟨hk₁ _ _ (ha' p hp) (N' p hp).1, (N' p hp).2⟩⟩
 by_cases hlt : i < n
 ·refine W.item i _ _ _ hlt hst' fun T vals h₁ tk₁ hPt _ hT hMid hk₁ => ?_;refine HA (h2 i vals hPt) ?_; intro v0 v1 e92 hP2; subst e92;refine W.go _ x1 pt i T _ _ _ hMid fun h₂ hst₂ hk₂ => ?_;have ht₂ : h₂.IsTuple T #[v0, v1] := hT.at fun o e => hk₂ T o (W.apart i T h₁ hMid) e;refine wpAny_assign_Tuple hh ht₂ rfl rfl fun h₃ hx₃ => ?_
  replace hx₃ : Heap.ExtBut h₂.objs.size h₂ h₃ := hx₃
  have up₃ : ∀ b o, h₂.get? b = some o → h₃.get? b = some o := fun b o x => hx₃ b o (A7 (AZ x)) x;refine CL (next h₃ fun b o hb x => up₃ b o (hk₂ b o hb (hk₁ b o hb x))) ?_; intro F₃ N₃;show wpAny _ A (do LR [v1] (DM (.Name xi pk) env v0); do LR [] (DM (.Name xc pv) env v1); pure ()) _ _ _;refine A2 (Ak (Ba (EP hxi F₃.ns (fun h₄ hn₄ hs₄ => ?_) hp)))
  replace hs₄ : EB env.locals h₃ h₄ := hs₄
  have F₄ := F₃.set hn₄ hs₄;refine A2 (Ak (Ba (EP hxc F₄.ns (fun h₅ hn₅ hs₅ => AC ?_) hp)))
  replace hs₅ : EB env.locals h₄ h₅ := hs₅
  have F₅ := F₄.set hn₅ hs₅;have N₅ : News h₀ env.locals h₅ nx := (N₃.set hs₄).set hs₅;have hst₅ : St (i + 1) h₅ := W.frame _ _ _ hst₂ fun b hb o e => hs₅.extBut b o (fun q => hLf (q ▸ hb)) (hs₄.extBut b o (fun q => hLf (q ▸ hb)) (up₃ b o e));have Nown : News h₀ env.locals h₅ (ownOf h₀ fp h₅) := news_ownOf hLf;refine wpAny_passesOwn hE (Ac (turn i v0 v1 m' nx h₅ _ (ownOf h₀ fp h₅) hlt hP2 hJ ha' (fun b hb => ?_) ownOf_sub F₅ (fun p hp => ?_)) (fun f s₃ h₆ => ?_) fun _ _ e => e)
  ·refine Bp (hlive _ _ hst₅ b hb) ?_; intro o ho;exact ⟨o, mem_ownOf (W.sub b hb) (hwr b hb) ho⟩
  ·refine AF hp (fun hp => ?_) fun hp => ?_
   ·exact N₅ p hp
   exact Nown p hp
  have key : ∀ tkk, DX h₀ env.locals wr (ownOf h₀ fp h₅) (J (i + 1)) { s with heap := h₅, toks := tkk } s₃ → ∃ m, m < n + 1 - i ∧ PLs h₀ env.locals wr J St n s m s₃ := by
   clear next hst₂ hk₂ hx₃ up₃ hst' F' N' N₅ Nown F₃ N₃ F₄ hs₄ hs₅ hMid;rintro tkk ⟨h₆', tk₆, m₂, news₂, nx₂, e₆, F₆, N₆, a1, a2, a3, hJ₆⟩;refine ⟨n + 1 - (i + 1), Fx _ _ (AU hlt), h₆', tk₆, m₂, nx₂, i + 1, e₆, ?_, F₆, Bo N₆ a1, a3, hJ₆, hlt, rfl⟩;refine W.frame _ _ _ hst₅ fun b hb o e => ?_
   cases hn : h₀.get? b with
   | some o₀ =>
    have q := F₅.keep b o₀ hn;rw [e] at q; rw [q]; exact F₆.keep b o₀ hn
   | none => exact (N₆ _ (a2 _ (mem_ownOf hb hn e))).1
  cases f with
  | ret v => exact h₆
  | brk => exact h₆
  | cont => exact key _ h₆
  | next => exact key _ h₆
 have hin : i = n := Cd hi (Fm hlt);subst hin;refine W.done _ _ _ hst' fun h₁ tk₁ hk₁ => Le ?_;exact done m' nx h₁ tk₁ hJ (next h₁ hk₁).1 (next h₁ hk₁).2
end
noncomputable def CD (a:Addr)(o:Obj)(l:List (Addr×Obj)):List (Addr×Obj):=l.map fun p=>if p.1=a then (a,o) else p
theorem AV {a:Addr}{o o':Obj}{l:List (Addr×Obj)}(h:(a,o)∈l):(a,o')∈CD a o' l:=mm2 ⟨(a,o),h,if_pos rfl⟩
theorem A8 {a:Addr}{o':Obj}{p:Addr×Obj}{l:List (Addr×Obj)}(h:p∈l)(hn:p.1≠a):p∈CD a o' l:=mm2 ⟨p,h,if_neg hn⟩
theorem Ie {a:Addr}{o':Obj}{p:Addr×Obj}{l:List (Addr×Obj)}(h:p∈CD a o' l):p=(a,o')∧(∃o,(a,o)∈l)∨p.1≠a∧p∈l:=by
 refine Aq (mm1 h) ?_;intro q hq e
 by_cases hc:q.1=a
 ·rw [if_pos hc] at e;exact .inl ⟨e.symm,q.2,by rw [←hc];exact hq⟩
 rw [if_neg hc] at e;subst e;exact .inr ⟨hc,hq⟩
theorem C6 {h₀ h h':Heap}{L a:Addr}{o o':Obj}{news:List (Addr×Obj)}(N:News h₀ L h news)(hm:(a,o)∈news)(hs:EB a h h')(ho:h'.get? a=some o'):News h₀ L h' (CD a o' news):=by
 intro p hp;rcases Ie hp with ⟨rfl,_⟩ | ⟨hn,hp⟩
 ·exact ⟨ho,(N _ hm).2⟩
 exact ⟨(hs.2 _ hn).trans (N p hp).1,(N p hp).2⟩
section
variable {prog:AY}{w:World}{A:AO}{E:Value→A4→Prop}{s:A4}{h₀:Heap}{L:Addr}{m:Str→Option Value}{news:List (Addr×Obj)}
theorem CW {l:Addr}{its:Array Value}{n:Nat}{x:Value}{Q:Value→A4→Prop}(F:Fr h₀ L s.heap m)(N:News h₀ L s.heap news)(hm:(l,A1 its n)∈news)(hsz:its.size≤FD)
  (h:∀h',Fr h₀ L h' m→News h₀ L h' (CD l (A1 (its.push x) (n+1)) news)→Q .none { s with heap:=h' }):wpAny (model prog w) A (call (.builtin "list.append") [.ref l,x]) Q E s:=
 append_at (hsz:=hsz) (N _ hm).1 fun h' hs ho'=>h h' (F.change hs (N _ hm).2.1 (N _ hm).2.2) (C6 N hm hs ho')
variable {KK:Type} [DecidableEq KK] {knd:KeyKind prog w KK}{kvs:List (KK×Value)}{k:KK}{key:Value}{d:Addr}{o:Obj}
theorem Kr {dflt:Value}{Q:Value→A4→Prop}(F:Fr h₀ L s.heap m)(N:News h₀ L s.heap news)(hm:(d,o)∈news)(hd:o.IsDictOf knd kvs)(hkey:knd.is k key=true)(lo:(d==BV)=false)
  (hargs:JU "dict.setdefault" ⟨[.ref d,key,dflt],[]⟩) (hsz:kvs.length≤FD)
  (h1:∀v,BR kvs k=some v→Q v { s with toks:=s.toks+1 })
  (h2:BR kvs k=none→∀h' o',Fr h₀ L h' m→News h₀ L h' (CD d o' news)→o'.IsDictOf knd (C7 kvs k dflt)→Q dflt { s with heap:=h',toks:=s.toks+1 }) :
  wpAny (model prog w) A (call (.builtin "dict.setdefault") [.ref d,key,dflt]) Q E s:=by
 have z:=N _ hm;have hD:s.heap.DictOf knd d kvs:=Heap.dictOf_iff.mpr ⟨o,z.1,hd⟩;refine call_meetsIn PySem.F.slot_dict_setdefault hD.typeIs PySem.F.entry_dict_setdefault hargs (kt_meets_setdefault knd d hkey lo dflt) ⟨kvs,hD,hsz,fun v hv=>h1 v hv,fun hn h' hmm hs=>?_⟩;refine Aq (Heap.dictOf_iff.mp hmm) ?_;intro o' ho' hd';exact h2 hn h' o' (F.change hs z.2.1 z.2.2) (C6 N hm hs ho') hd'
theorem Gx {v:Value}{Q:Unit→A4→Prop}(F:Fr h₀ L s.heap m)(N:News h₀ L s.heap news)(hm:(d,o)∈news)(hd:o.IsDictOf knd kvs)(hkey:knd.is k key=true)(hsz:kvs.length≤FD)
  (h:∀h' o',Fr h₀ L h' m→News h₀ L h' (CD d o' news)→o'.IsDictOf knd (C7 kvs k v)→Q () { s with heap:=h',toks:=s.toks+1 }):wpAny (model prog w) A (setItem (.ref d) key v) Q E s:=by
 have z:=N _ hm;refine wpAny_setItem_pairs (hsz:=hsz) hkey (Heap.dictOf_iff.mpr ⟨o,z.1,hd⟩) fun h' hmm hs=>?_;refine Aq (Heap.dictOf_iff.mp hmm) ?_;intro o' ho' hd';exact h h' o' (F.change hs z.2.1 z.2.2) (C6 N hm hs ho') hd'
end
section
variable {prog:AY}{w:World}{A:AO}{E:Value→A4→Prop}{s:A4}{env:Env}{h₀:Heap}{Q:Flow→A4→Prop}{body:List Stmt}
theorem PM {xi xc : Str} {pk pv pt : Pos} {x1 : Nat} {x : Str} {t : Tok} {m : Str → Option Value} {news : List (Addr × Obj)} (hh : A.handled = none) 
  (hxi : env.kindOf xi = some .local) (hxc : env.kindOf xc = some .local)
  (hp : (env.scope.kind == .class || (env.scope.kind == .module && env.locals != env.globals)) = false) (hE : DR (model prog w) A env E)
  (F : Fr h₀ env.locals s.heap m) (N : News h₀ env.locals s.heap news) (J : Nat → (Str → Option Value) → List (Addr × Obj) → Prop) (h0 : J 0 m news)
  (turn : ∀ (i : Nat) (c : Nat) ti tc m₁ nx h tk own wr, x.cps[i]? = some c → J i m₁ nx → (∀ p ∈ nx, p.1 ∉ wr) → (∀ b ∈ wr, ∃ o, (b, o) ∈ own) → (∀ p ∈ own, p.1 ∈ wr) →
   Fr h₀ env.locals h (fun y => if y = xc then some (.str ⟨#[c]⟩ tc) else if y = xi then some (.int i ti) else m₁ y) → News h₀ env.locals h (nx ++ own) →
   wpAny (model prog w) A (execs body env) (TurnPost h₀ env.locals wr own (J (i + 1)) { s with heap := h, toks := tk } Q) E { s with heap := h, toks := tk })
  (done : ∀ m₁ nx h tk, J x.cps.size m₁ nx → Fr h₀ env.locals h m₁ → News h₀ env.locals h nx → Q .next { s with heap := h, toks := tk }) :
  wpAny (model prog w) A (call (.type "enumerate") [.str x t]) (fun xv s₁ => wpAny (model prog w) A (CR xv) (fun it s₂ => ML prog w A env (.Tuple [.Name xi pk, .Name xc pv] x1 pt) body Q E it s₂) E s₁) E s := by
 have hLs : env.locals < s.heap.objs.size := F.ns.lt;have hab : h₀.objs.size ≤ env.locals := F.above;refine call_enumerate_str fun h' he hit hsz hk => ?_;have F' : Fr h₀ env.locals h' m := ⟨F.ns.keeps hk, fun b o e => hk b o (F.keep b o e), F.above⟩;have N' : News h₀ env.locals h' news := fun p hp => ⟨hk _ _ (N p hp).1, (N p hp).2⟩;refine wpAny_pyIter_enum he ?_;have fin : ∀ (St : Nat → Heap → Prop), Draws prog w A.in1 s.heap.objs.size [s.heap.objs.size] x.cps.size (fun i v => ∃ c u, x.cps[i]? = some c ∧ v = .str ⟨#[c]⟩ u) St → (∀ i h, St i h → ∃ o, h.get? s.heap.objs.size = some o) → St 0 h' →
   ML prog w A env (.Tuple [.Name xi pk, .Name xc pv] x1 pt) body Q E (.ref (s.heap.objs.size + 1)) { s with heap := h' } := by
  intro St D hl hst;refine UU (P2 := fun i v0 v1 => ∃ ti c u, x.cps[i]? = some c ∧ v0 = .int i ti ∧ v1 = .str ⟨#[c]⟩ u) hh (WalksT.enumerateD D (s.heap.objs.size + 1) (EQ _) (fun hm => EQ _ (ms1 hm)) (by simp)) ?_ ?_ hxi hxc hp hE ?_ ?_ ?_ ⟨⟨_, by simpa using he⟩, hst⟩ F' N' J h0 ?_ ?_
  ·rintro i vals ⟨ti, v, ⟨c, u, hc, rfl⟩, rfl⟩;exact ⟨_, _, rfl, ti, c, u, hc, rfl, rfl⟩
  ·rintro i h ⟨⟨old, he'⟩, hs'⟩ b hb;refine AQ hb ?_ fun hb => ?_
   ·exact ⟨_, he'⟩
   rw [ms1 hb]; exact hl i h hs'
  ·intro hm;rcases mc1 hm with e | hm
   ·exact A7 (AU hLs) e
   exact A7 hLs (ms1 hm)
  ·intro b hb;refine AQ hb ?_ fun hb => ?_
   ·exact Cz (Am hab (Be (AU hLs)))
   rw [ms1 hb]; exact Cz (Am hab (Be hLs))
  ·intro p hp' hb;have hq1 : p.1 < s.heap.objs.size := AZ (N p hp').1;rcases mc1 hb with e1 | hb
   ·exact A7 (AU hq1) e1
   exact A7 hq1 (ms1 hb)
  ·rintro i v0 v1 m₁ nx h tk own hi ⟨ti, c, u, hc, rfl, rfl⟩ hJ hn hw hf F₁ N₁;exact turn i c ti u m₁ nx h tk own _ hc hJ hn hw hf F₁ N₁
  exact fun m₁ nx h tk hJ F₁ N₁ => done m₁ nx h tk hJ F₁ N₁
 cases ha : x.cps.all (· < 128)
 ·have hit' : h'.IsStrIter s.heap.objs.size "str_iterator" x t 0 := by simpa [strIterType, ha] using hit
  exact fin _ (Draws.strWide (A := A.in1) hh s.heap.objs.size x t) (fun _ _ ⟨o, ho, _⟩ => ⟨o, ho⟩) hit'
 have hit' : h'.IsStrIter s.heap.objs.size "str_ascii_iterator" x t 0 := by simpa [strIterType, ha] using hit
 exact fin _ (Draws.strAscii (A := A.in1) hh s.heap.objs.size x t) (fun _ _ ⟨o, ho, _⟩ => ⟨o, ho⟩) hit'
end
def SJ {σ:Type}(Led:σ→List (Addr×Obj))(ps:σ→List (Str×Value))(xs C7:List Str)(m₀:Str→Option Value)(P:Nat→σ→Prop)(i:Nat)(m:Str→Option Value)(nx:List (Addr×Obj)):Prop:=
 ∃c:σ,nx=Led c∧P i c∧(∀p∈ps c,m p.1=some p.2)∧(∀z,xs.contains z=false→(∀p∈ps c,z≠p.1)→C7.contains z=false→m z=m₀ z)
theorem HT {σ:Type}{Led:σ→List (Addr×Obj)}{ps:σ→List (Str×Value)}{xs C7:List Str}{m₀ m':Str→Option Value}{P:Nat→σ→Prop}{i:Nat}{h₀ h':Heap}{L:Addr}{wr:List Addr}{own news':List (Addr×Obj)}{s₁:A4}{tk:Nat}
  (c:σ) (F:Fr h₀ L h' m') (N:News h₀ L h' news') (h1:∀p∈Led c,p∈news') (h2:∀p∈own,p∈news') (h3:∀p∈Led c,p.1∉wr) (hP:P i c) (hps:∀p∈ps c,m' p.1=some p.2)
  (hz:∀z,xs.contains z=false→(∀p∈ps c,z≠p.1)→C7.contains z=false→m' z=m₀ z) :
  DX h₀ L wr own (SJ Led ps xs C7 m₀ P i) s₁ { s₁ with heap:=h',toks:=tk }:=Q4 (Led c) F N h1 h2 h3 ⟨c,rfl,hP,hps,hz⟩
theorem Sa {ps:List (Str×Value)}{C7:List Str}{x:Str}{m₀ m₁:Str→Option Value}{v:Value}(h1:∀p∈ps,m₁ p.1=some p.2)(h2:∀z,[x].contains z=false→(∀p∈ps,z≠p.1)→C7.contains z=false→m₁ z=m₀ z) :
  (fun y=>if y=x then some v else m₁ y)=fun y=>if y=x then some v else kstB (fun z=>if C7.contains z then m₁ z else m₀ z) ps y:=by
 funext y
 by_cases e:y=x
 ·rw [if_pos e,if_pos e]
 rw [if_neg e,if_neg e];refine (kstB_eq h1 fun hr=>?_).symm
 by_cases hs:C7.contains y=true
 ·rw [if_pos hs]
 rw [if_neg hs];exact (h2 y (by simpa using e) hr (by simpa using hs)).symm
theorem SZ {ps:List (Str×Value)}{C7:List Str}{x:Str}{m₀ m₁:Str→Option Value}(h1:∀p∈ps,m₁ p.1=some p.2)(h2:∀z,[x].contains z=false→(∀p∈ps,z≠p.1)→C7.contains z=false→m₁ z=m₀ z) :
  m₁=fun y=>if y=x then m₁ y else kstB (fun z=>if C7.contains z then m₁ z else m₀ z) ps y:=by
 funext y
 by_cases e:y=x
 ·rw [if_pos e]
 rw [if_neg e];refine (kstB_eq h1 fun hr=>?_).symm
 by_cases hs:C7.contains y=true
 ·rw [if_pos hs]
 rw [if_neg hs];exact (h2 y (by simpa using e) hr (by simpa using hs)).symm
theorem OR {ps:List (Str×Value)}{C7:List Str}{xi xc:Str}{m₀ m₁:Str→Option Value}{v0 v1:Value}(h1:∀p∈ps,m₁ p.1=some p.2)(h2:∀z,[xi,xc].contains z=false→(∀p∈ps,z≠p.1)→C7.contains z=false→m₁ z=m₀ z) :
  (fun y=>if y=xc then some v1 else if y=xi then some v0 else m₁ y)=fun y=>if y=xc then some v1 else if y=xi then some v0 else kstB (fun z=>if C7.contains z then m₁ z else m₀ z) ps y:=by
 funext y
 by_cases e:y=xc
 ·rw [if_pos e,if_pos e]
 rw [if_neg e,if_neg e]
 by_cases e2:y=xi
 ·rw [if_pos e2,if_pos e2]
 rw [if_neg e2,if_neg e2];refine (kstB_eq h1 fun hr=>?_).symm
 by_cases hs:C7.contains y=true
 ·rw [if_pos hs]
 rw [if_neg hs];exact (h2 y (by simp [e,e2]) hr (by simpa using hs)).symm
theorem OQ {ps:List (Str×Value)}{C7:List Str}{xi xc:Str}{m₀ m₁:Str→Option Value}(h1:∀p∈ps,m₁ p.1=some p.2)(h2:∀z,[xi,xc].contains z=false→(∀p∈ps,z≠p.1)→C7.contains z=false→m₁ z=m₀ z) :
  m₁=fun y=>if y=xc then m₁ y else if y=xi then m₁ y else kstB (fun z=>if C7.contains z then m₁ z else m₀ z) ps y:=by
 funext y
 by_cases e:y=xc
 ·rw [if_pos e]
 rw [if_neg e]
 by_cases e2:y=xi
 ·rw [if_pos e2]
 rw [if_neg e2];refine (kstB_eq h1 fun hr=>?_).symm
 by_cases hs:C7.contains y=true
 ·rw [if_pos hs]
 rw [if_neg hs];exact (h2 y (by simp [e,e2]) hr (by simpa using hs)).symm
section
variable {prog:AY}{w:World}{A:AO}{E:Value→A4→Prop}{s:A4}{env:Env}{h₀:Heap}{Q:Flow→A4→Prop}{body:List Stmt}
theorem Uu {σ : Type} {xi xc : Str} {pk pv pt : Pos} {x1 : Nat} {x : Str} {t : Tok} {m₀ : Str → Option Value} (Led : σ → List (Addr × Obj)) (ps : σ → List (Str × Value)) (C7 : List Str) (P : Nat → σ → Prop) (c₀ : σ) (hh : A.handled = none) 
  (hxi : env.kindOf xi = some .local) (hxc : env.kindOf xc = some .local)
  (hp : (env.scope.kind == .class || (env.scope.kind == .module && env.locals != env.globals)) = false) (hE : DR (model prog w) A env E)
  (F : Fr h₀ env.locals s.heap m₀) (N : News h₀ env.locals s.heap (Led c₀)) (hP : P 0 c₀) (hk : ∀ p ∈ ps c₀, m₀ p.1 = some p.2)
  (turn : ∀ (i : Nat) (c : σ) (ch : Nat) ti tc (u : Str → Option Value) h tk own wr, x.cps[i]? = some ch → P i c → (∀ p ∈ Led c, p.1 ∉ wr) → (∀ b ∈ wr, ∃ o, (b, o) ∈ own) → (∀ p ∈ own, p.1 ∈ wr) →
   Fr h₀ env.locals h (fun y => if y = xc then some (.str ⟨#[ch]⟩ tc) else if y = xi then some (.int i ti) else kstB (fun z => if C7.contains z then u z else m₀ z) (ps c) y) → News h₀ env.locals h (Led c ++ own) →
   wpAny (model prog w) A (execs body env) (TurnPost h₀ env.locals wr own (SJ Led ps [xi, xc] C7 m₀ P (i + 1)) { s with heap := h, toks := tk } Q) E { s with heap := h, toks := tk })
  (done : ∀ (c : σ) (u : Str → Option Value) h tk, P x.cps.size c → Fr h₀ env.locals h (fun y => if y = xc then u y else if y = xi then u y else kstB (fun z => if C7.contains z then u z else m₀ z) (ps c) y) → News h₀ env.locals h (Led c) → Q .next { s with heap := h, toks := tk }) :
  wpAny (model prog w) A (call (.type "enumerate") [.str x t]) (fun xv s₁ => wpAny (model prog w) A (CR xv) (fun it s₂ => ML prog w A env (.Tuple [.Name xi pk, .Name xc pv] x1 pt) body Q E it s₂) E s₁) E s := by
 refine PM hh hxi hxc hp hE F N (SJ Led ps [xi, xc] C7 m₀ P) ⟨c₀, rfl, hP, hk, fun _ _ _ _ => rfl⟩ ?_ ?_
 ·rintro i ch ti tc m₁ nx h tk own wr hc ⟨c, rfl, hPc, h1, h2⟩ hn hw hf F₁ N₁;rw [OR h1 h2] at F₁;exact turn i c ch ti tc m₁ h tk own wr hc hPc hn hw hf F₁ N₁
 rintro m₁ nx h tk ⟨c, rfl, hPc, h1, h2⟩ F₁ N₁;rw [OQ h1 h2] at F₁;exact done c m₁ h tk hPc F₁ N₁
theorem SY {σ:Type}{x:Str}{I:Addr}{fp wr:List Addr}{n:Nat}{Pv:Nat→Value→Prop}{St:Nat→Heap→Prop}{m₀:Str→Option Value}(Led:σ→List (Addr×Obj))(ps:σ→List (Str×Value))(C7:List Str)(P:Nat→σ→Prop)(c₀:σ)
  (W:Walks prog w A I fp wr n Pv St) (hlive:∀i h,St i h→∀b∈wr,∃o,h.get? b=some o) (hLf:env.locals∉fp) (hwr:∀b∈wr,h₀.get? b=none) (hnw:∀p∈Led c₀,p.1∉wr) (hst:St 0 s.heap)
  (F:Fr h₀ env.locals s.heap m₀) (N:News h₀ env.locals s.heap (Led c₀)) (hP:P 0 c₀) (hk:∀p∈ps c₀,m₀ p.1=some p.2)
  (turn:∀(i:Nat) (c:σ) v (u:Str→Option Value) h tk own,i<n→Pv i v→P i c→(∀p∈Led c,p.1∉wr)→(∀b∈wr,∃o,(b,o)∈own)→(∀p∈own,p.1∈fp)→
   Fr h₀ env.locals h (fun y=>if y=x then some v else kstB (fun z=>if C7.contains z then u z else m₀ z) (ps c) y)→News h₀ env.locals h (Led c++own)→
   wpAny (model prog w) A (execs body env) (TurnPost h₀ env.locals wr own (SJ Led ps [x] C7 m₀ P (i+1)) { s with heap:=h,toks:=tk } Q) E { s with heap:=h,toks:=tk })
  (done:∀(c:σ) (u:Str→Option Value) h tk,P n c→Fr h₀ env.locals h (fun y=>if y=x then u y else kstB (fun z=>if C7.contains z then u z else m₀ z) (ps c) y)→News h₀ env.locals h (Led c)→Q .next { s with heap:=h,toks:=tk }) :
  LoopAtV prog w A h₀ env x body Q E (.ref I) s:=by
 refine VZ W hlive hLf hwr hnw hst F N (SJ Led ps [x] C7 m₀ P) ⟨c₀,rfl,hP,hk,fun _ _ _ _=>rfl⟩ ?_ ?_
 ·rintro i v m₁ nx h tk own hi hPv ⟨c,rfl,hPc,h1,h2⟩ hn hw hf F₁ N₁;rw [Sa h1 h2] at F₁;exact turn i c v m₁ h tk own hi hPv hPc hn hw hf F₁ N₁
 rintro m₁ nx h tk ⟨c,rfl,hPc,h1,h2⟩ F₁ N₁;rw [SZ h1 h2] at F₁;exact done c m₁ h tk hPc F₁ N₁
theorem Rq {σ:Type}{x:Str}{l:Addr}{items:Array Value}{m₀:Str→Option Value}(Led:σ→List (Addr×Obj))(ps:σ→List (Str×Value))(C7:List Str)(P:Nat→σ→Prop)(c₀:σ)(hh:A.handled=none)(hl:s.heap.IsList l items)(hL:l≠env.locals)
  (F:Fr h₀ env.locals s.heap m₀) (N:News h₀ env.locals s.heap (Led c₀)) (hP:P 0 c₀) (hk:∀p∈ps c₀,m₀ p.1=some p.2)
  (turn:∀(i:Nat) (c:σ) v (u:Str→Option Value) h tk own wr,items[i]? = some v→P i c→(∀p∈Led c,p.1∉wr)→(∀b∈wr,∃o,(b,o)∈own)→(∀p∈own,p.1∈wr∨p.1=l)→
   Fr h₀ env.locals h (fun y=>if y=x then some v else kstB (fun z=>if C7.contains z then u z else m₀ z) (ps c) y)→News h₀ env.locals h (Led c++own)→
   wpAny (model prog w) A (execs body env) (TurnPost h₀ env.locals wr own (SJ Led ps [x] C7 m₀ P (i+1)) { s with heap:=h,toks:=tk } Q) E { s with heap:=h,toks:=tk })
  (done:∀(c:σ) (u:Str→Option Value) h tk,P items.size c→Fr h₀ env.locals h (fun y=>if y=x then u y else kstB (fun z=>if C7.contains z then u z else m₀ z) (ps c) y)→News h₀ env.locals h (Led c)→Q .next { s with heap:=h,toks:=tk }) :
  wpAny (model prog w) A (CR (.ref l)) (fun it s₂=>LoopAtV prog w A h₀ env x body Q E it s₂) E s:=by
 refine Aq (id hl) ?_;intro ol hol hol2;have hlt:l<s.heap.objs.size:=AZ hol;have hLs:env.locals<s.heap.objs.size:=F.ns.lt;refine DB hl ?_;have hW:=LU (prog:=prog) (w:=w) (A:=A) hh s.heap.objs.size l (A7 hlt) items;refine SY Led ps C7 P c₀ hW ?_ ?_ ?_ ?_ ?_ (F.push _) (fun p hp=>⟨AE _ (N p hp).1,(N p hp).2⟩) hP hk ?_ done
 ·rintro i h ⟨⟨o,ho,_⟩,_⟩ b hb;rw [ms1 hb];exact ⟨o,ho⟩
 ·intro hm;rcases mc1 hm with e | hm
  ·exact A7 hLs e
  exact hL (ms1 hm).symm
 ·intro b hb;rw [ms1 hb];exact GZ F
 ·intro p hp hb;exact A7 (AZ (N p hp).1) (ms1 hb)
 ·exact ⟨⟨_,Aa _ rfl,rfl,rfl⟩,hl.at fun o e=>AE _ e⟩
 intro i c v u h tk own hi hv hPc hn hw hf F₁ N₁;exact turn i c v u h tk own _ hv hPc hn hw (fun p hp=>by have:=hf p hp;simp at this;simpa using this) F₁ N₁
end
structure BE where
 c:Nat
 a:Addr
 its:List (Int×Tok)
 ep:Nat
noncomputable def Kf (B:List BE):List (Str×Value):=B.map fun e=>(⟨#[e.c]⟩,.ref e.a)
noncomputable def Tx (e:BE):Obj:=A1 (e.its.map fun p=>A5 p.1 p.2).toArray e.ep
noncomputable def LZ (B:List BE):List (Addr×Obj):=B.map fun e=>(e.a,Tx e)
noncomputable def La (y:Str)(i c:Nat):List Int:=((DH i).filter fun j=>y.cps[j]? == some c).map Int.ofNat
structure BOk (y:Str)(i:Nat)(B:List BE):Prop where
 keys:(B.map (·.c)).Nodup
 its:∀e∈B,e.its.map (·.1)=La y i e.c
 rest:∀c,c∉B.map (·.c)→La y i c=[]
 len:B.length≤i
theorem FR (y:Str)(i c:Nat):La y (i+1) c=La y i c++if y.cps[i]? == some c then [(i:Int)] else []:=by
 unfold La;rw [J5,Es,AI]
 congr 1
 by_cases h:(y.cps[i]? == some c)=true
 ·simp only [Fp,h,if_true,List.filter_nil,Bx,ES];rfl
 simp [Fp,h]
theorem Mn (y:Str)(i c:Nat):(La y i c).length≤i:=by
 unfold La;rw [AB];exact Am (DI _ _) (by simp)
theorem one_inj {a b:Nat}:(⟨#[a]⟩:Str)=⟨#[b]⟩↔a=b:=by
 constructor
 ·intro h;injection h with h;simpa using h
 rintro rfl;rfl
theorem Hf {B:List BE}{c:Nat}{v:Value}(h:BR (Kf B) (⟨#[c]⟩:Str)=some v):∃e∈B,e.c=c∧v = .ref e.a:=by
 unfold BR Kf at h;refine Aq (Option.map_eq_some_iff.mp h) ?_;intro kv hf e92;subst e92;have hm:=DT hf;have hk:=CO hf;refine Aq (mm1 hm) ?_;intro e he e92;subst e92;exact ⟨e,he,one_inj.mp (by simpa using hk),rfl⟩
theorem Hg {B:List BE}{c:Nat}(h:BR (Kf B) (⟨#[c]⟩:Str)=none):c∉B.map (·.c):=by
 unfold BR Kf at h;rw [CX,Ck] at h;intro hm;refine Aq (mm1 hm) ?_;intro e he e92;subst e92;exact h _ (mm2 ⟨e,he,rfl⟩) (by simp)
theorem Mz {B:List BE}{c:Nat}{v:Value}(h:BR (Kf B) (⟨#[c]⟩:Str)=none):C7 (Kf B) (⟨#[c]⟩:Str) v=Kf B++[(⟨#[c]⟩,v)]:=by
 unfold C7;rw [if_neg];unfold BR at h;rw [CX,Ck] at h;intro ha;refine Aq (List.any_eq_true.mp ha) ?_;intro kv hm hk;exact h kv hm hk
noncomputable def O9 (c:Nat)(i:Int)(t:Tok)(B:List BE):List BE:=B.map fun e=>if e.c=c then { e with its:=e.its++[(i,t)],ep:=e.ep+1 } else e
theorem LN (c:Nat)(i:Int)(t:Tok)(B:List BE):(O9 c i t B).map (·.c)=B.map (·.c):=by
 unfold O9;rw [Ao];apply Az;intro e _;show (if e.c=c then { e with its:=e.its++[(i,t)],ep:=e.ep+1 } else e).c=e.c;split<;>rfl
theorem TW (c:Nat)(i:Int)(t:Tok)(B:List BE):(O9 c i t B).map (·.a)=B.map (·.a):=by
 unfold O9;rw [Ao];apply Az;intro e _;show (if e.c=c then { e with its:=e.its++[(i,t)],ep:=e.ep+1 } else e).a=e.a;split<;>rfl
theorem RJ (c:Nat)(i:Int)(t:Tok)(B:List BE):Kf (O9 c i t B)=Kf B:=by
 unfold Kf O9;rw [Ao];apply Az;intro e _;show ((⟨#[(if e.c=c then { e with its:=e.its++[(i,t)],ep:=e.ep+1 } else e).c]⟩:Str),A3 (if e.c=c then { e with its:=e.its++[(i,t)],ep:=e.ep+1 } else e).a)=_;split<;>rfl
theorem BOk.put {y:Str}{i:Nat}{B:List BE}{c:Nat}(h:BOk y i B)(t:Tok)(hc:y.cps[i]? = some c)(hm:c∈B.map (·.c)):BOk y (i+1) (O9 c i t B):=by
 refine ⟨by rw [LN];exact h.keys,?_,?_,by unfold O9;rw [AB];exact Nat.le_succ_of_le h.len⟩
 ·intro e he;refine Aq (mm1 he) ?_;intro e₀ he₀ e92;subst e92
  by_cases hce:e₀.c=c
  ·rw [if_pos hce];show (e₀.its++[((i:Int),t)]).map (·.1)=La y (i+1) e₀.c;rw [AI,h.its e₀ he₀,FR,hc,hce];simp
  rw [if_neg hce,FR,h.its e₀ he₀,hc];have:(some c==some e₀.c)=false:=by simpa using fun e=>hce e.symm
  rw [this];simp
 intro c' hc';rw [LN] at hc';rw [FR,h.rest c' hc',hc];have:(some c==some c')=false:=by simpa using fun (e:c=c')=>hc' (e▸hm)
 rw [this];simp
theorem BOk.new {y:Str}{i:Nat}{B:List BE}{c:Nat}(h:BOk y i B)(t:Tok)(l:Addr)(ep:Nat)(hc:y.cps[i]? = some c)(hm:c∉B.map (·.c)):BOk y (i+1) (B++[⟨c,l,[((i:Int),t)],ep⟩]):=by
 refine ⟨?_,?_,?_,by rw [Ai];exact Fl h.len⟩
 ·rw [AI,CZ];refine ⟨h.keys,by simp,?_⟩;intro a ha b hb;simp only [Bx,ES,Cj] at hb;subst hb;exact fun e=>hm (e▸ha)
 ·intro e he;refine AF he (fun he=>?_) fun he=>?_
  ·have hce:e.c≠c:=fun q=>hm (mm2 ⟨e,he,q⟩);rw [FR,h.its e he,hc];have:(some c==some e.c)=false:=by simpa using fun q=>hce q.symm
   rw [this];simp
  rw [ms1 he];show [(i:Int)]=La y (i+1) c;rw [FR,h.rest c hm,hc];simp
 intro c' hc';rw [AI,Cf,not_or] at hc';rw [FR,h.rest c' hc'.1,hc];have:(some c==some c')=false:=by simpa using fun q=>hc'.2 (by simp [q])
 rw [this];simp
theorem BOk.zero (y:Str):BOk y 0 []:=⟨CY,(fun _ h=>absurd h Au),fun _ _=>rfl,Ap _⟩
theorem De {α β:Type}{f:α→β}:∀{l:List α},(l.map f).Nodup→∀{a b:α},a∈l→b∈l→f a=f b→a=b:=by
 intro xX
 induction xX with
 | nil=>
  intro _ _ _ h _ _;exact nomatch h
 | cons x l iH=>
  intro hn a b ha hb e;rw [Bx,Ce] at hn
  cases mc1 ha with
  | inl h1=>
   cases mc1 hb with
   | inl h2=>rw [h1,h2]
   | inr h2=>exact absurd (mm2 ⟨b,h2,by rw [←e,h1]⟩) hn.1
  | inr h1=>
   cases mc1 hb with
   | inl h2=>exact absurd (mm2 ⟨a,h1,by rw [e,h2]⟩) hn.1
   | inr h2=>exact iH hn.2 h1 h2 e
theorem Ho {B:List BE}{c:Nat}{i:Int}{t:Tok}{e:BE}(hk:(B.map (·.c)).Nodup)(ha:(B.map (·.a)).Nodup)(he:e∈B)(hc:e.c=c){p:Addr×Obj}(hp:p∈LZ (O9 c i t B)) :
  p=(e.a,A1 ((e.its.map fun p=>A5 p.1 p.2).toArray.push (.int i t)) (e.ep+1))∨(p.1≠e.a∧p∈LZ B):=by
 unfold LZ O9 at hp;refine Aq (mm1 hp) ?_;intro e' he' e92;subst e92;refine Aq (mm1 he') ?_;intro e₀ he₀ e92;subst e92
 by_cases hce:e₀.c=c
 ·have:e₀=e:=De hk he₀ he (hce.trans hc.symm);subst this;rw [if_pos hce];refine .inl ?_;simp [Tx]
 rw [if_neg hce];refine .inr ⟨?_,mm2 ⟨e₀,he₀,rfl⟩⟩;intro q;exact hce ((congrArg BE.c (De ha he₀ he q)).trans hc)
noncomputable abbrev ent (w:World)(name:String)(t:Tok)(v:Value):DictEntry:={ hash:=PyData.keyHash w.params (A0 name),key:=.str (A0 name) t,val:=v }
noncomputable abbrev Eh (led:Bool):Obj:={ cls:=AL "set",data:=Data.set #[] 0 (Fw 0 0 led) }
inductive SM (w:World)(x y:Str)(xa:Addr)(G:List (Addr×Obj)):Prop
 | mk (d b2 bj bp:Addr) (o2:Obj) (BB:List BE) (tx ty t1 t2 t3 t4 t5 t6 t7 t8 t9 t10:Tok) (l1 l2:Bool)
  (hG:G=(bp,Eh l2)::(bj,Eh l1)::(xa,AT 242 d)::(d,Fk [ent w "isjunk" t1 .none,ent w "a" t2 (.str x tx),ent w "b" t3 (.str y ty),ent w "autojunk" t4 (.bool false),ent w "matching_blocks" t5 .none,ent w "opcodes" t6 .none,ent w "fullbcount" t7 .none,ent w "b2j" t8 (.ref b2),ent w "bjunk" t9 (.ref bj),ent w "bpopular" t10 (.ref bp)] 10)::(b2,o2)::LZ BB)
  (hd:o2.IsDictOf (Ft rw_nq0317_02.prog w) (Kf BB)) (hB:BOk y y.cps.size BB) (lo:(b2==BV)=false)
theorem Mv {B:List BE}{c:Nat}{i:Int}{t:Tok}{e:BE}(h:e∈O9 c i t B):∃e₀∈B,e.a=e₀.a:=by
 refine Aq (mm1 h) ?_;intro e₀ he₀ e92;subst e92;refine ⟨e₀,he₀,?_⟩;split<;>rfl
theorem Qh (B:List BE)(c:Nat)(l:Addr)(its:List (Int×Tok))(ep:Nat):Kf (B++[⟨c,l,its,ep⟩])=Kf B++[(⟨#[c]⟩,.ref l)]:=by unfold Kf;rw [AI];rfl
theorem Ii (B B':List BE):LZ (B++B')=LZ B++LZ B':=AI
section
local macro_rules | `(tactic| k_all) => `(tactic| k_extra "k_all")
local macro_rules | `(tactic| k_enter) => `(tactic| k_extra "k_enter")
theorem Mj {h₀ h:Heap}{L:Addr}{p:Addr×Obj}{r:List (Addr×Obj)}(N:News h₀ L h (p::r)):∃r',r'=r∧News h₀ L h (p::r'):=⟨r,rfl,N⟩
theorem Fe {prog:AY}{w:World}{A:AO}{E:Value→A4→Prop}{s:A4}{h₀:Heap}{L l:Addr}{news:List (Addr×Obj)}{its:Array Value}{n:Nat}{name:Str}{id:String}{pl:Sem Bool}{Q:Value×List Value→A4→Prop}
  (slot:Slot "list" name id) (hty:HH (.builtin id)=pure (.type "method_descriptor")) (N:News h₀ L s.heap news) (hp:(l,A1 its n)∈news) (h:Q (.builtin id,[.ref l]) s):wpAny (model prog w) A (Gb (.ref l) name pl) Q E s:=
 getMethod_builtin ⟨_,(N _ hp).1,rfl⟩ PySem.F.plainAttrs_list slot hty (fun a e=>by cases e;exact ⟨_,(N _ hp).1,rfl⟩) h
theorem Cs {d:Nat}:∀{l:List (Addr×Obj)},AllLt d l→∀p∈l,p.1<d:=by
 intro xX
 induction xX with
 | nil=>
  intro _ _ hp;exact nomatch hp
 | cons q l iH=>
  intro h p hp
  cases mc1 hp with
  | inl e=>rw [e];exact h.1
  | inr e=>exact iH h.2 p e
theorem EI {u m₀:Str→Option Value}{C7:List Str}{z:Str}(h:C7.contains z=false):kstB (fun z=>if C7.contains z then u z else m₀ z) [] z=m₀ z:=by
 show (if C7.contains z=true then u z else m₀ z)=m₀ z;rw [h];rfl
theorem VM {h₀ h:Heap}{L:Addr}{a b c:Addr×Obj}{l n:List (Addr×Obj)}(N:News h₀ L h (a::(l++b::c::n))):∃tl,tl=a::(l++n)∧News h₀ L h (b::c::tl):=
 ⟨_,rfl,Bo N (A6 (.tail _ (maR _ (.head _))) (A6 (.tail _ (maR _ mH1)) (A6 (.head _) (fun q hq=>by
  refine AF hq (fun hq=>?_) fun hq=>?_
  ·exact .tail _ (maL _ hq)
  exact .tail _ (maR _ (mT2 hq))))))⟩
theorem UQ {h₀ h:Heap}{L x d d2:Addr}{o inst dd:Obj}{l n:List (Addr×Obj)}(N:News h₀ L h ((d2,o)::(l++(x,inst)::(d,dd)::n)))(h1:∀p∈n,p.1<d)(h2:d<x)(h3:x<d2)(h3':d<d2)
  (h4:∀q∈l,∀p∈(x,inst)::(d,dd)::n,p.1≠q.1):∃tl,tl=(d2,o)::(l++n)∧News h₀ L h ((x,inst)::(d,dd)::tl)∧(∀p∈tl,p.1≠d)∧(∀p∈tl,p.1≠x):=by
 refine Aq (VM N) ?_;intro tl e91 N';subst e91;refine ⟨_,rfl,N',?_,?_⟩
 ·intro p hp;refine AQ hp ?_ fun hp=>?_
  ·exact AN h3'
  refine AF hp (fun hp=>?_) fun hp=>?_
  ·exact (h4 p hp _ mH1).symm
  exact A7 (h1 p hp)
 intro p hp;refine AQ hp ?_ fun hp=>?_
 ·exact AN h3
 refine AF hp (fun hp=>?_) fun hp=>?_
 ·exact (h4 p hp _ (.head _)).symm
 exact A7 (Ay (h1 p hp) h2)
theorem Bw {n:Nat}(h:n≤100000):n≤FD:=by rw [DP];lia
set_option tactic.hygienic true in
theorem XZ (w:World)(p:AY)(lo:List Str)(mean:CG→Option Value)(mg mb:Str→Option Value)
  (gd:Option (List Code)) (cn:Str) (cs:Scope) (a:Addr) (ccd:Value) (cl:List (Str×Addr)) (outer:List Env) (A₀:AO) (base h₀:Heap) (L:Addr) (m:Str→Option Value) (news:List (Addr×Obj)) (s:A4)
  (x y:Str) (tx ty:Tok) (Q E:Value→A4→Prop)
  (B:Below A₀ base outer h₀) (F:Fr h₀ L s.heap m) (X:(Mine.K w.params).In h₀) (N:News h₀ L s.heap news) (T:Top p lo mean mg mb h₀) (hk:cs.kind = .function)
  (hx:x.length≤64) (hy:y.length≤64)
  (hret:∀xa G h' tk',SM w x y xa G→Fr h₀ L h' m→News h₀ L h' (G++news)→Q (.ref xa) { s with heap:=h',toks:=tk' }) :
  wpAny (model (rw_nq0317_02.prog) w) (Bi 350 500 gd cn cs L a ccd cl outer) (call (.ref 242) [.none,.str x tx,.str y ty,.bool false]) Q E s:=by
 k_with "+1" =>skip
 k_with "1" =>(fail_if_success k_extra "+2")
 k_with "k_all" =>(k_extra "1";assumption)
 k_with "k_enter" =>(k_extra "1";(refine' HJ ?k1 ?k2 ?k3 ?k4 ?k5 ?kA ?kF ?kK ?k6 ?k7 ?k8 ?k9 ?kB ?_ ?c2 ?c3 ?c4 ?c5;(case kA=>exact rfl);(case kF=>exact rfl);(case kK=>assumption);(case k1=>k_asm);(case k2=>k_asm);(case k3=>k_asm);(case k4=>k_asm);(case k5=>k_asm);(case k6=>k_is);(case k7=>k_is);(case k8=>k_room);(case k9=>first | exact CA rfl | exact Q1 (by k_in) rfl (by k_is) rfl rfl rfl | fail "k_enter: no rule for these arguments");(case c5=>decide);(case kB=>exact locs rfl);(case c2=>exact rfl);(case c3=>exact rfl);(case c4=>exact rfl);k_whole;intro g' L' h' FG' F' N' B' X' T';(try dsimp only);(try k_lift B');(try k_fold);refine (let A9:AO:=_;(?_:wpAny _ A9 _ _ _ _))))
 k_with "a" =>k_extra "1"
 k_with "b" =>k_extra "1"
 k_with "c" =>k_extra "1"
 k_with "d" =>k_extra "1"
 k_with "e" =>k_extra "1"
 k_with "f" =>k_extra "1"
 k_with "g" =>k_extra "1"
 k_with "h" =>k_extra "1"
 k_with "i" =>k_extra "1"
 k_with "j" =>k_extra "1"
 k_with "call type:enumerate" =>(k_extra "1";(refine Af ?_))
 k_with "call builtin:dict.setdefault" =>(k_extra "1";(refine Af ?_))
 k_with "getMethod ref" =>(k_extra "1";((with_reducible refine (?_:wpAny _ _ (Gb (A3 _) (A0 "append") _) _ _ _));refine Af ?_))
 revert X
 k_fill
 intro X;k_steps;refine ⟨?_⟩;rename_i d2 h2 o2 lo2 hs2 fs2 hi2 fi2 l1 h3 h4 F4;rename News _ _ _ _=>N4;refine Aq (Mj N4) ?_;intro rest hrest N4;have hr2:∀q∈rest,q.1≠d2:=by
  rw [hrest];intro q hq
  cases mc1 hq with
  | inl e=>rw [e];exact A7 l1.1
  | inr hq=>
   cases mc1 hq with
   | inl e=>rw [e];exact A7 l1.2.1
   | inr hq=>exact A7 (Cs l1.2.2 q hq)
 refine Uu (σ:=Obj×List BE) (fun c=>(d2,c.1)::(LZ c.2++rest)) (fun _=>[]) [A0 "indices"]
  (fun i c=>c.1.IsDictOf (Ft rw_nq0317_02.prog w) (Kf c.2)∧BOk y i c.2∧(∀e∈c.2,e.a≠d2)∧(c.2.map (·.a)).Nodup∧(∀e∈c.2,∀p∈rest,p.1≠e.a)) (o2,[]) ?a1 ?a2 ?a3 ?a4 ?hE F4 N4 ?hP (AA _) ?turn ?done
 case a1=>rfl
 case a2=>rfl
 case a3=>rfl
 case a4=>rfl
 case hE=>passes_own
 case hP=>exact ⟨hs2,BOk.zero y,by simp,by simp,by simp⟩
 case turn=>
  clear F4 N4;intro i c ch ti tc u h tk own wr hch hPc hoff hw hf F' N';refine (let Qt1:Flow→A4→Prop:=_;(?_:wpAny _ _ _ Qt1 _ _));refine (let mt1:Str→Option Value:=_;have F9:Fr _ _ _ mt1:=F';?_);clear F';have F':=F9;clear F9;simp only [BJ] at N';refine R7 (hPc) ?_;(try clear hPc);intro hd hB ha1 ha2 ha3;have hi:i<64:=by
   have h1:i<y.cps.size:=by
    rcases ER i y.cps.size with h | h
    ·exact h
    rw [DA h] at hch;cases hch
   exact B5 h1 hy
  k_steps;refine ⟨?_⟩;rename_i l' hh F' N' l1;have hown:∀p∈own,p∈(d2,c.1)::(LZ c.2++rest++own):=fun p hp=>.tail _ (maR _ hp);refine Kr F' N' mH1 hd (strKind_is _ _ _ _) lo2 (PySem.F.args_dict_setdefault_3 _ _ _) ?hsz ?there ?anew
  case hsz=>exact Bw (by unfold Kf;rw [AB];have:=hB.len;lia)
  case there=>
   intro v hv;refine Dn (Hf hv) ?_;intro e he hec e93;subst e93;have hme:(e.a,Tx e)∈LZ c.2:=mm2 ⟨e,he,rfl⟩;k_steps;rename_i F' N';have hmem:(e.a,Tx e)∈(l',A1 #[] 0)::(d2,c.1)::(LZ c.2++rest++own):=mT2 (maL _ (maL _ hme));refine ⟨?_⟩;refine Fe Cq Cp N' hmem ?_;k_steps;refine ⟨?_⟩;refine CW F' N' hmem (Bw ?hz) fun h9 F9 N9=>?_
   case hz=>
    rw [Ae,AB,←AB (f:=Ci),hB.its e he];have:=Mn y i e.c;lia
   k_steps;show DX _ _ _ _ _ _ _;have hea:e.a∉wr:=hoff (e.a,Tx e) (.tail _ (maL _ hme));refine HT (c.1,O9 ch i ti c.2) F9 N9 ?h1 ?h2 ?h3 ?hP (AA _) ?hz
   case h1=>
    intro q hq;refine AH hq ?_ fun hq=>?_
    ·exact A8 mH1 (ha1 e he).symm
    refine AF hq (fun hq=>?_) fun hq=>?_
    ·rcases Ho hB.keys ha2 he hec hq with rfl | ⟨hn,hq⟩
     ·exact AV hmem
     exact A8 (mT2 (maL _ (maL _ hq))) hn
    exact A8 (mT2 (maL _ (maR _ hq))) (ha3 e he q hq)
   case h2=>
    intro q hq;exact A8 (mT2 (maR _ hq)) fun q'=>hea (q'▸hf q hq)
   case h3=>
    intro q hq;refine AQ hq ?_ fun hq=>?_
    ·exact hoff (d2,c.1) (.head _)
    refine AF hq (fun hq=>?_) fun hq=>?_
    ·rcases Ho hB.keys ha2 he hec hq with rfl | ⟨hn,hq⟩
     ·exact hea
     exact hoff q (.tail _ (maL _ hq))
    exact hoff q (.tail _ (maR _ hq))
   case hP=>
    refine ⟨by rw [RJ];exact hd,hB.put ti hch (mm2 ⟨e,he,hec⟩),?_,by rw [TW];exact ha2,?_⟩
    ·intro e' he';refine Aq (Mv he') ?_;intro e₀ he₀ q;rw [q];exact ha1 e₀ he₀
    intro e' he';refine Aq (Mv he') ?_;intro e₀ he₀ q;rw [q];exact ha3 e₀ he₀
   case hz=>
    intro z h1 _ h2;have e1:z≠A0 "indices" :=CU h2 (by decide);have e2:z≠A0 "elt" :=CU h1 (by decide);have e3:z≠A0 "i" :=CU h1 (by decide);dsimp only [mt1];rw [if_neg e1,if_neg e2,if_neg e3];exact EI h2
  case anew=>
   intro hv h5 o5 F5 N5 hd5;k_steps;rename_i F' N';have hne:l'≠d2:=AN l1.1;have hmem:(l',A1 #[] 0)∈CD d2 o5 ((l',A1 #[] 0)::(d2,c.1)::(LZ c.2++rest++own)):=A8 (.head _) hne;refine ⟨?_⟩;refine Fe Cq Cp N' hmem ?_;k_steps;refine ⟨?_⟩;refine CW F' N' hmem (Bw (by simp)) fun h9 F9 N9=>?_;k_steps;show DX _ _ _ _ _ _ _;have hlo:∀q∈LZ c.2++rest++own,q.1≠l':=fun q hq=>A7 (Cs l1.2 q hq);have hl':l'∉wr:=fun hm=>by
    refine Bp (hw l' hm) ?_;intro o ho;exact hlo _ (maR _ ho) rfl
   have hd2:d2∉wr:=hoff (d2,c.1) (.head _);refine HT (o5,c.2++[⟨ch,l',[((i:Int),ti)],1⟩]) F9 N9 ?h1 ?h2 ?h3 ?hP (AA _) ?hz
   case h1=>
    intro q hq;refine AH hq ?_ fun hq=>?_
    ·exact A8 (AV mH1) hne.symm
    refine AF hq (fun hq=>?_) fun hq=>?_
    ·rw [Ii] at hq;refine AF hq (fun hq=>?_) fun hq=>?_
     ·have hn:q.1≠d2:=by
       refine mmE hq ?_;intro e he;exact ha1 e he
      exact A8 (A8 (mT2 (maL _ (maL _ hq))) hn) (hlo q (maL _ (maL _ hq)))
     rw [ms1 hq];exact AV hmem
    exact A8 (A8 (mT2 (maL _ (maR _ hq))) (hr2 q hq)) (hlo q (maL _ (maR _ hq)))
   case h2=>
    intro q hq;exact A8 (A8 (mT2 (maR _ hq)) fun q'=>hd2 (q'▸hf q hq)) (hlo q (maR _ hq))
   case h3=>
    intro q hq;refine AQ hq ?_ fun hq=>?_
    ·exact hd2
    refine AF hq (fun hq=>?_) fun hq=>?_
    ·rw [Ii] at hq;refine AF hq (fun hq=>?_) fun hq=>?_
     ·exact hoff q (.tail _ (maL _ hq))
     rw [ms1 hq];exact hl'
    exact hoff q (.tail _ (maR _ hq))
   case hP=>
    refine ⟨by rw [Qh];rw [Mz hv] at hd5;exact hd5,hB.new ti l' 1 hch (Hg hv),?_,?_,?_⟩
    ·intro e he;refine AF he (fun he=>?_) fun he=>?_
     ·exact ha1 e he
     rw [ms1 he];exact hne
    ·rw [AI,CZ];refine ⟨ha2,by simp,?_⟩;intro a1 h1 b1 h2;simp only [Bx,ES,Cj] at h2;refine mmE h1 ?_;intro e he;rw [h2];exact hlo (e.a,Tx e) (maL _ (maL _ (mm2 ⟨e,he,rfl⟩)))
    intro e he;refine AF he (fun he=>?_) fun he=>?_
    ·exact ha3 e he
    rw [ms1 he];exact fun q hq=>hlo q (maL _ (maR _ hq))
   case hz=>
    intro z h1 _ h2;have e1:z≠A0 "indices" :=CU h2 (by decide);have e2:z≠A0 "elt" :=CU h1 (by decide);have e3:z≠A0 "i" :=CU h1 (by decide);dsimp only [mt1];rw [if_neg e1,if_neg e2,if_neg e3];exact EI h2
 clear F4 N4;intro c u h tk hPc F' N';refine R7 (hPc) ?_;(try clear hPc);intro hd hB ha1 ha2 ha3;rw [hrest] at N' ha3;refine (let G9:Prop:=_;(?_:G9));obtain ⟨tl,htl,N',hA1,hA2⟩:=UQ N' (by assumption) (by assumption) l1.1 l1.2.1 (fun q hq p hp=>by
  refine mmE hq ?_;intro e he;exact ha3 e he p hp)
 refine (?_:wpAny _ _ _ _ _ _);k_steps;rename_i kF kN _ _;rw [htl] at kN;exact hret _ _ _ _ ⟨_,_,_,_,_,_,_,_,_,_,_,_,_,_,_,_,_,_,_,_,rfl,hd,hB,lo2⟩ kF kN
end
section
open PySem.W.X
theorem Iq {M:Model}{A:AO}{E:Value→A4→Prop}{s:A4}{T g:String}{v:Value}{name:Str}{Q:Value→A4→Prop}(hT:s.TypeIs v T)(hga:Df (.type T) "__getattribute__" = pure (some (.builtin g)))
  (hgt:HH (.builtin g)=pure (.type "wrapper_descriptor"))
  (h:wpAny M A (call (.builtin g) [v,.str name s.toks]) (fun r s'=>wpAny M A (handedOut r) Q E s') (fun _ _=>False) { s with toks:=s.toks+1 }):wpAny M A (Dc v name true) Q E s:=by
 unfold Dc;refine A2 (wpAny_mkText ?_);unfold getAttrBy;refine Ak ?_;refine A2 (Hd (T:=T) ?_ ?_)
 ·cases v<;>exact hT
 rw [hga];refine A2 (AC ?_);show wpAny M A (Lf v _ (.type T) (.builtin g) true true) Q E _;unfold Lf;refine A2 (AC ?_);refine A2 (EJ (Ak ?_));show wpAny M A (O1 (.builtin g) v _) _ _ _;unfold O1 bindSpecial;refine A2 ?_;rw [hgt];refine A2 (AC ?_);refine AC ?_;exact Ac h (fun _ _ x=>x) fun _ _ x=>x.elim
theorem Q5:HH (.builtin "set.__getattribute__")=pure (.type "wrapper_descriptor"):=by show builtinType _=_;kernel_rfl
noncomputable abbrev Fj (id:String)(self:Value):Obj:=⟨.type "builtin_function_or_method",none,.fields #[.builtin id,self],#[]⟩
theorem OI:HH (.builtin "dict.__getattribute__")=pure (.type "wrapper_descriptor"):=by show builtinType _=_;kernel_rfl
noncomputable abbrev XF (c:Code):Sem Fin:=LV PySem.W.XFast.tableX c
theorem Vv (c:Code):denote table c=XF c:=by
 show denote table c=LV PySem.W.XFast.tableX c;rw [PySem.W.XFast.xe11892475500146522536,PySem.W.XFast.tableX_eq]
section
variable {α:Type}
noncomputable def sm {M:Sem α→Type}(t:Sem α)(d:∀t,M t)(l:∀a q k,M (.load a q k))(al:∀o k,M (.alloc o k))(fr:∀k,M (.fresh k))(c:∀c h g lv k,M (.call c h g lv k)):M t:=
 Sem.casesOn t (fun _=>d _) (fun _=>d _) (fun _=>d _) (fun _=>d _) (fun _ _=>d _) (fun _ _=>d _) l (fun _ _ _ _=>d _) al (fun _ _=>d _) (fun _ _=>d _) (fun _ _=>d _) fr (fun _=>d _) (fun _ _ _=>d _) (fun _ _ _=>d _) c (fun _ _=>d _) (fun _ _=>d _) (fun _ _=>d _) (fun _ _ _ _=>d _) (fun _ _ _ _=>d _) (fun _=>d _) (fun _ _=>d _) (fun _=>d _) (fun _ _ _ _ _=>d _)
noncomputable def ldV (t:Sem α):Option { p:Addr×(Obj→Sem α) // ∃q,t = .load p.1 q p.2 }:=sm (M:=fun t=>Option { p:Addr×(Obj→Sem α) // ∃q,t = .load p.1 q p.2 }) t (fun _=>none) (fun a q k=>some ⟨(a,k),q,rfl⟩) (fun _ _=>none) (fun _=>none) fun _ _ _ _ _=>none
noncomputable def clV (t:Sem α):Option { p:Code×(DN→Sem α) // ∃g l,t = .call p.1 none g l p.2 }:=sm (M:=fun t=>Option { p:Code×(DN→Sem α) // ∃g l,t = .call p.1 none g l p.2 }) t (fun _=>none) (fun _ _ _=>none) (fun _ _=>none) (fun _=>none) fun c h g l k=>Option.casesOn (motive:=fun h=>Option { p:Code×(DN→Sem α) // ∃g' l',Sem.call c h g l k = .call p.1 none g' l' p.2 }) h (some ⟨(c,k),g,l,rfl⟩) fun _=>none
noncomputable def alV (t:Sem α):Option { p:Obj×(Addr→Sem α) // t = .alloc p.1 p.2 }:=sm (M:=fun t=>Option { p:Obj×(Addr→Sem α) // t = .alloc p.1 p.2 }) t (fun _=>none) (fun _ _ _=>none) (fun o k=>some ⟨(o,k),rfl⟩) (fun _=>none) fun _ _ _ _ _=>none
noncomputable def ldA (t:Sem α):Option Addr:=(ldV t).map (·.1.1)
noncomputable def ldK (t:Sem α)(o:Obj):Sem α:=(ldV t).elim t fun p=>p.1.2 o
noncomputable def clC (t:Sem α):Option Code:=(clV t).map (·.1.1)
noncomputable def clK (t:Sem α)(r:DN):Sem α:=(clV t).elim t fun p=>p.1.2 r
noncomputable def alO (t:Sem α):Option Obj:=(alV t).map (·.1.1)
noncomputable def alK (t:Sem α)(a:Addr):Sem α:=(alV t).elim t fun p=>p.1.2 a
variable {prog:AY}{w:World}{A:AO}{c:Code}{Q:α→A4→Prop}{E:Value→A4→Prop}{s:A4}
theorem Fu {t:Sem α}{a:Addr}{o:Obj}(e:ldA t=some a)(ho:s.heap.get? a=some o)(x:wpOwn (model prog w) A c (ldK t o) Q E s):wpOwn (model prog w) A c t Q E s:=by
 unfold ldA at e;unfold ldK at x;generalize ldV t=v at e x
 cases v with
 | none=>cases e
 | some p=>
  refine p.2.elim fun q hq=>?_;cases e;rw [hq];exact y_load _ prog w A c Q E s.heap s.gens s.drawn s.toks s.os _ q _ o ho x
theorem VG {t:Sem α}(x:wpOwn (model prog w) A c (skim ⟨prog,w.params⟩ 400 t) Q E s):wpOwn (model prog w) A c t Q E s:=y_skim _ prog w A c Q E s t 400 x
theorem VC {t:Sem α}{c2:Code}(e:clC t=some c2)(x:Bt (model prog w) ((A.under c).mark none) c2 (fun r s'=>wpOwn (model prog w) A c (clK t r) Q E s') s):wpOwn (model prog w) A c t Q E s:=by
 unfold clC at e;unfold clK at x;generalize clV t=v at e x
 cases v with
 | none=>cases e
 | some p=>
  refine p.2.elim fun g hg=>hg.elim fun l hq=>?_;cases e;rw [hq];exact y_call _ prog w A c Q E s _ none g l _ (fun h=>by cases h) x
theorem Tw {t:Sem α}{o:Obj}{h₀:Heap}{chg news:List (Addr×Obj)}(e:alO t=some o)(D:Mem h₀ s.heap chg news)(hf:o.isFreed=false)
  (x:∀a h',Mem h₀ h' chg ((a,o)::news)→wpOwn (model prog w) A c (alK t a) Q E { s with heap:=h' }):wpOwn (model prog w) A c t Q E s:=by
 unfold alO at e;unfold alK at x;generalize alV t=v at e x
 cases v with
 | none=>cases e
 | some p=>
  cases e;rw [p.2];exact y_alloc _ prog w A c Q E h₀ chg news s.heap s.gens s.drawn s.toks s.os _ _ D hf x
end
section
variable {prog:AY}{w:World}{A:AO}{c:Code}{s:A4}{R:DN→A4→Prop}
theorem JY (x:wpOwn (model prog w) A c (XF c) (postC prog w A R) (postE R) s):Bt (model prog w) A c R s:=
 y_code prog w A R s c (Vv c▸x)
theorem Px {t:Sem Fin}{c2:Code}(e:t = .pure (.again c2))(hq:c2.quiet=true)(x:Bt (model prog w) A c2 R s):wpOwn (model prog w) A c t (postC prog w A R) (postE R) s:=by
 rw [e];exact y_pure _ prog w A c _ _ s _ (y_again prog w A R s c2 hq x)
theorem Pw {t:Sem Fin}{v:Value}(e:t = .pure (.done (.ret v)))(x:R (.ok (.ret v)) s):wpOwn (model prog w) A c t (postC prog w A R) (postE R) s:=by
 rw [e];exact y_pure _ prog w A c _ _ s _ (y_done prog w A R s _ x)
end
theorem Kj:A0 "__contains__" = ⟨⟨[95,95,99,111,110,116,97,105,110,115,95,95]⟩⟩:=Cu ['_','_','c','o','n','t','a','i','n','s','_','_']
theorem KQ (w:World)(A:AO)(s:A4)(bj:Addr)(l1:Bool)(t:Tok)(Q E:Value→A4→Prop)
  (hb:s.heap.get? bj=some ⟨AL "set",none,Data.set #[] 0 (Fw 0 0 l1),#[]⟩)
  (hret:∀q h',Mem s.heap h' [] [(q,Fj "set.__contains__" (.ref bj))]→Q (.ref q) { s with heap:=h' }) :
  wpAny (model (rw_nq0317_02.prog) w) A (call (.builtin "set.__getattribute__") [.ref bj,.str (A0 "__contains__") t]) Q E s:=by
 rw [Kj];refine BN (JY ?_)
 with_reducible refine Fu (a:=bj) (by kernel_rfl) hb ?_
 with_reducible refine Px (c2:=.builtin "set.__getattribute__" ⟨[.ref bj,.str ⟨⟨[95,95,99,111,110,116,97,105,110,115,95,95]⟩⟩ t],[]⟩) (by kernel_rfl) (by kernel_rfl) (JY ?_)
 with_reducible refine Fu (a:=bj) (by kernel_rfl) hb ?_
 with_reducible refine Fu (a:=bj) (by kernel_rfl) hb ?_
 with_reducible refine Fu (a:=bj) (by kernel_rfl) hb ?_
 with_reducible refine VG ?_
 with_reducible refine VC (c2:=.call (.builtin "method_descriptor.__get__") ⟨[.builtin "set.__contains__",.ref bj,.type "set"],[]⟩) (by kernel_rfl) (JY ?_)
 with_reducible refine Px (c2:=.builtin "method_descriptor.__get__" ⟨[.builtin "set.__contains__",.ref bj,.type "set"],[]⟩) (by kernel_rfl) (by kernel_rfl) (JY ?_)
 with_reducible refine Fu (a:=bj) (by kernel_rfl) hb ?_
 with_reducible refine Tw (o:=Fj "set.__contains__" (.ref bj)) (by kernel_rfl) (Mem.start _) rfl fun a h' D=>?_
 with_reducible refine Pw (v:=.ref a) (by kernel_rfl) ?_
 with_reducible refine Pw (v:=.ref a) (by kernel_rfl) ?_
 exact hret a h' D
theorem SG:A0 "get" = ⟨⟨[103,101,116]⟩⟩:=Cu ['g','e','t']
theorem Qt (w:World)(A:AO)(s:A4)(bj:Addr)(es:Array DictEntry)(ep:Nat)(t:Tok)(Q E:Value→A4→Prop)
  (hb:s.heap.get? bj=some ⟨AL "dict",none,Hw es ep,#[]⟩)
  (hret:∀q h',Mem s.heap h' [] [(q,Fj "dict.get" (.ref bj))]→Q (.ref q) { s with heap:=h' }) :
  wpAny (model (rw_nq0317_02.prog) w) A (call (.builtin "dict.__getattribute__") [.ref bj,.str (A0 "get") t]) Q E s:=by
 rw [SG];refine BN (JY ?_)
 with_reducible refine Fu (a:=bj) (by kernel_rfl) hb ?_
 with_reducible refine Px (c2:=.builtin "dict.__getattribute__" ⟨[.ref bj,.str ⟨⟨[103,101,116]⟩⟩ t],[]⟩) (by kernel_rfl) (by kernel_rfl) (JY ?_)
 with_reducible refine Fu (a:=bj) (by kernel_rfl) hb ?_
 with_reducible refine Fu (a:=bj) (by kernel_rfl) hb ?_
 with_reducible refine Fu (a:=bj) (by kernel_rfl) hb ?_
 with_reducible refine VG ?_
 with_reducible refine VC (c2:=.call (.builtin "method_descriptor.__get__") ⟨[.builtin "dict.get",.ref bj,.type "dict"],[]⟩) (by kernel_rfl) (JY ?_)
 with_reducible refine Px (c2:=.builtin "method_descriptor.__get__" ⟨[.builtin "dict.get",.ref bj,.type "dict"],[]⟩) (by kernel_rfl) (by kernel_rfl) (JY ?_)
 with_reducible refine Fu (a:=bj) (by kernel_rfl) hb ?_
 with_reducible refine Tw (o:=Fj "dict.get" (.ref bj)) (by kernel_rfl) (Mem.start _) rfl fun a h' D=>?_
 with_reducible refine Pw (v:=.ref a) (by kernel_rfl) ?_
 with_reducible refine Pw (v:=.ref a) (by kernel_rfl) ?_
 exact hret a h' D
theorem Jk {h₀ h h':Heap}{L:Addr}{m:Str→Option Value}{nw:List (Addr×Obj)}(D:X.Mem h h' [] nw)(F:Fr h₀ L h m):Fr h₀ L h' m:=
 have hk:∀b o,h.get? b=some o→h'.get? b=some o:=fun b o e=>D.keep b o e (by rw [RT];exact .inr rfl)
 ⟨F.ns.keeps hk,fun b o e=>hk b o (F.keep b o e),F.above⟩
theorem GQ {h₀ h h':Heap}{L:Addr}{m:Str→Option Value}{nw news:List (Addr×Obj)}(D:X.Mem h h' [] nw)(F:Fr h₀ L h m)(N:News h₀ L h news):News h₀ L h' (nw++news):=by
 have hk:∀b o,h.get? b=some o→h'.get? b=some o:=fun b o e=>D.keep b o e (by rw [RT];exact .inr rfl);intro p hp;refine AF hp (fun hp=>?_) fun hp=>?_
 ·have z:=D.nw p hp;refine ⟨z.1,?_,?_⟩
  ·intro e;refine Uw (F.ns) ?_;intro oL _ _ hL _;rw [←e,z.2] at hL;cases hL
  cases hq:h₀.get? p.1 with
  | none=>rfl
  | some o=>have:=F.keep _ _ hq;rw [z.2] at this;cases this
 exact ⟨hk _ _ (N p hp).1,(N p hp).2⟩
section
variable {w:World}{gd:Option (List Code)}{cn:Str}{cs:Scope}{L a:Addr}{ccd:Value}{cl:List (Str×Addr)}{outer:List Env}{env:Env}{s:A4}{Q E:Value→A4→Prop}{h₀:Heap}{LL:Addr}{m:Str→Option Value}{news:List (Addr×Obj)}
theorem Nq {bj:Addr}{l1:Bool}(F:Fr h₀ LL s.heap m)(N:News h₀ LL s.heap news)(X:(Mine.K w.params).In h₀)(hm:(bj,Eh l1)∈news)
  (hret:∀q h' tk,Fr h₀ LL h' m→News h₀ LL h' ((q,Fj "set.__contains__" (.ref bj))::news)→(∀p∈news,p.1≠q)→Q (.ref q) { s with heap:=h',toks:=tk }) :
  wpAny (model (rw_nq0317_02.prog) w) ((Bi 350 500 gd cn cs L a ccd cl outer).deeper env) (Dc (.ref bj) (A0 "__contains__") true) Q E s:=by
 refine Iq (T:= "set") ⟨_,(N _ hm).1,rfl⟩ (by rw [CH,Bc];kernel_rfl) Q5 ?_;refine KQ w _ _ bj l1 _ _ _ (N _ hm).1 fun q h' D=>?_;exact AC (hret q h' _ (Jk D F) (GQ D F N) fun p hp e=>D.ne_old 0 q _ rfl p.1 p.2 (N p hp).1 e.symm)
theorem Vh {d:Addr}{o:Obj}{KK:Type} [DecidableEq KK] {knd:KeyKind rw_nq0317_02.prog w KK}{kvs:List (KK×Value)}(F:Fr h₀ LL s.heap m)(N:News h₀ LL s.heap news)(X:(Mine.K w.params).In h₀)(hm:(d,o)∈news)(hd:o.IsDictOf knd kvs)
  (hret:∀q h' tk,Fr h₀ LL h' m→News h₀ LL h' ((q,Fj "dict.get" (.ref d))::news)→(∀p∈news,p.1≠q)→Q (.ref q) { s with heap:=h',toks:=tk }) :
  wpAny (model (rw_nq0317_02.prog) w) ((Bi 350 500 gd cn cs L a ccd cl outer).deeper env) (Dc (.ref d) (A0 "get") true) Q E s:=by
 refine (let G9:Prop:=_;(?_:G9));obtain ⟨es,ep,⟨e1,e2,e3⟩,e4,_⟩:=hd;refine (?_:wpAny _ _ _ _ _ _);obtain ⟨oc,od,odt,osl⟩:=o;simp only at e1 e2 e3 e4;subst e1 e2 e3 e4;refine Iq (T:= "dict") ⟨_,(N _ hm).1,rfl⟩ (by rw [CH,Bc];kernel_rfl) OI ?_;refine Qt w _ _ d es ep _ _ _ (N _ hm).1 fun q h' D=>?_;exact AC (hret q h' _ (Jk D F) (GQ D F N) fun p hp e=>D.ne_old 0 q _ rfl p.1 p.2 (N p hp).1 e.symm)
end
end
theorem Pe {prog:AY}{w:World}{A:AO}{R:DN→A4→Prop}{s:A4}{q:Addr}{id:String}{self:Value}{pos:List Value}{b:Builtin}(ho:s.heap.get? q=some (Fj id self))
  (hc:∀(A:AO) (Q:Unit→A4→Prop) (E:Value→A4→Prop),Q () s→wpAny (model prog w) A (Du id ⟨self::pos,[]⟩) Q E s) (hp:plainId id=true) (hb:Gp table id=some b)
  (h:wpAny (model prog w) A.in1 (b ⟨self::pos,[]⟩) (fun fin s'=>match fin with | .done f=>R (.ok f) s' | .again c'=>c'.quiet=true∧Bt (model prog w) A c' R s') (fun e s'=>R (.error e) s') s):Bt (model prog w) A (.call (.ref q) ⟨pos,[]⟩) R s:=by
 refine Co ?_;show wpAny _ _ (callAny (.ref q) _) _ _ _;refine nd_load ho ?_;show wpAny _ _ (Du id ⟨self::pos,[]⟩ >>= _) _ _ _;refine A2 (hc _ _ _ ?_);refine AC ⟨Ct hp _,?_⟩;refine Co ?_;rw [BY hp];show wpAny _ _ (match Gp table id with | some b=>b ⟨self::pos,[]⟩ | none=>_) _ _ _;rw [hb];exact h
theorem S7 {M:Model}{A:AO}{E:Value→A4→Prop}{s:A4}{Q:Unit→A4→Prop}{id T:String}{a:Addr}{o:Obj}{pos:List Value}{sig:RS}(hs:Dm id=some sig)(hk:builtinKind id=some .method)(hv:Manifest.varargsMethods.contains id=false)
  (ho:s.heap.get? a=some o) (hc:o.cls = .type T) (hnc:∀c,o.data≠.cls c) (hm:Ds (.type T) (.type "module")=pure false)
  (hargs:O7 id { sig with full:=toString (Bind.lastOf T)++toString "." ++ toString (Bind.lastOf id) } ⟨.ref a::pos,[]⟩=pure ()) (h:Q () s):wpAny M A (Du id ⟨.ref a::pos,[]⟩) Q E s:=by
 unfold Du;rw [hs];dsimp only;rw [hk];dsimp only;refine A2 (Eo (v:=.ref a) (T:=T) ⟨o,ho,hc⟩ hm ?_);rw [hv];rw [if_neg (by decide)];refine A2 ?_;unfold isType;refine A2 (wpAny_loadPart ho (AC ?_));rw [if_neg (by cases hh:o.data with
  | cls c=>exact absurd hh (hnc c)
  | _=>exact Bn)]
 refine A2 (Hd (v:=.ref a) (T:=T) ⟨o,ho,hc⟩ ?_);show wpAny M A (O7 id _ _) _ _ _;rw [hargs];exact AC h
theorem JQ:Ds (.type "dict") (.type "module")=pure false:=by rw [C1];kernel_rfl
noncomputable def sigGet:RS:=(Dm "dict.get").get (by decide +kernel)
theorem OT:Dm "dict.get" = some sigGet:=by kernel_rfl
section
variable {w:World}{A:AO}{s:A4}{Q E:Value→A4→Prop}{h₀:Heap}{L:Addr}{news:List (Addr×Obj)}
theorem Uk {prog:AY}{q d:Addr}{o:Obj}{KK:Type} [DecidableEq KK] {knd:KeyKind prog w KK}{kvs:List (KK×Value)}{k:KK}{key dflt:Value}(N:News h₀ L s.heap news)(hq:(q,Fj "dict.get" (.ref d))∈news)(hm:(d,o)∈news)(hd:o.IsDictOf knd kvs)
  (hkey:knd.is k key=true) (lo:(d==BV)=false) (h:Q ((BR kvs k).getD dflt) { s with toks:=s.toks+1 }):wpAny (model prog w) A (call (.ref q) [key,dflt]) Q E s:=by
 have hD:=kda_dict N hm hd;exact BN (Pe (R:=wants Q E) (N _ hq).1 (fun _ _ _ h=>by
  refine (let G9:Prop:=_;(?_:G9));obtain ⟨es,ep,⟨e1,e2,e3⟩,e4,_⟩:=hd;refine (?_:wpAny _ _ _ _ _ _);have ho9:=(N _ hm).1
  with_reducible exact S7 OT (by decide +kernel) (by decide +kernel) ho9 e1 (fun c h=>by rw [e4] at h;cases h) JQ (by kernel_rfl) h) (by decide +kernel) PySem.F.entry_dict_get (meets_dict_get_default knd d hkey lo dflt A (wants Q E) s ⟨_,hD.mapOf,h⟩))
end
theorem K2:Ds (.type "set") (.type "module")=pure false:=by rw [C1];kernel_rfl
noncomputable def sigCon:RS:=(Dm "set.__contains__").get (by decide +kernel)
theorem OU:Dm "set.__contains__" = some sigCon:=by kernel_rfl
theorem Ea (w:World)(A:AO)(s:A4)(q bj:Addr)(l1:Bool)(c:Str)(t:Tok)(Q E:Value→A4→Prop)
  (hq:s.heap.get? q=some ⟨.type "builtin_function_or_method",none,.fields #[.builtin "set.__contains__",.ref bj],#[]⟩)
  (hb:s.heap.get? bj=some ⟨AL "set",none,Data.set #[] 0 (Fw 0 0 l1),#[]⟩)
  (hret:∀tk,Q (.bool false) { s with toks:=tk }) :
  wpAny (model (rw_nq0317_02.prog) w) A (call (.ref q) [.str c t]) Q E s:=by
 have hS:s.heap.SetOf (Ft rw_nq0317_02.prog w) bj (fun _=>false) 0:=by
  obtain ⟨hex,es,ep,t,hd,hel,hmem,hn,hf⟩:=setObjOf_fresh (knd:=Ft rw_nq0317_02.prog w) l1;exact ⟨_,es,ep,t,hb,hex,hd,hel,hmem,by rw [hn];decide,hf,hn⟩
 have hc:∀(A:AO) (Q:Unit→A4→Prop) (E:Value→A4→Prop),Q () s→wpAny (model (rw_nq0317_02.prog) w) A (Du "set.__contains__" ⟨.ref bj::[.str c t],[]⟩) Q E s:=fun _ _ _ h=>S7 (T:= "set") (id:= "set.__contains__") OU (by decide +kernel) (by decide +kernel) hb rfl (fun c h=>by cases h) K2 (by kernel_rfl) h;refine BN ?_;refine Pe (R:=wants Q E) (id:= "set.__contains__") (self:=.ref bj) (pos:=[.str c t]) (b:=Builtin.«frozenset.__contains__») hq hc (by decide +kernel) entry_set_contains ?_;refine (?_:wpAny _ _ (Builtin.Frozenset.withSetAsKey "frozenset.__contains__" (.str c t) (setContains bj) >>= fun b=>ret (.bool b)) _ _ _);refine A2 (wpAny_tryCatch ?_);refine Ak ?_;refine A2 ((Ft rw_nq0317_02.prog w).pyHash (strKind_is _ _ c t) ?_);refine A2 (wpAny_setFind_of (s:={ s with toks:=s.toks+1 }) (strKind_is _ _ c t) rfl hS fun r hr=>?_);refine AC ?_;show wpAny _ _ (ret (B6 r.isSome)) _ _ _;rw [hr];exact AC (hret _)
theorem Sz {M:Model}{q:Addr}{id:String}{self:Value}(h:Heap)(X:h.get? q=some (Fj id self)):∃k,(k=Keeper.frame∨k=Keeper.machine∨k=Keeper.boundFrame)∧Looks M h (keeperOf (.ref q)) k:=
 ⟨.machine,.inr (.inl rfl),(Iy (part:=none) X).andThen .now⟩
theorem FT {M:Model}{A:AO}{E:Value→A4→Prop}{s:A4}{Q:Value→A4→Prop}{env:Env}{q:Addr}{id:String}{self:Value}{pos:Pos}{first:List Value}{e:AW}{rest:List AW}
  (h:wpAny M A (Tk (Fv pos (Cx (e::rest) env))) (fun vs s₁=>s₁.heap.get? q=some (Fj id self)∧wpAny M A (call (.ref q) (first++vs)) Q E s₁) E s)
  (he:Cx (e::rest) env=(false,eval e env)::Cx rest env:=by rfl) (hplain:(Fv pos (Cx rest env)).any (·.1)=false:=by rfl) :
  wpAny M A (KY pos (.ref q) first (Fv pos (Cx (e::rest) env)) []) Q E s:=by
 rw [he] at h ⊢;exact callWith_of (by show ((false||(Fv pos (Cx rest env)).any (·.1))||false)=false;rw [hplain];rfl) Sz (evalArgs_plain h)
theorem Ek {u m₀:Str→Option Value}{C7:List Str}{z:Str}(h:C7.contains z=false):∀{ps:List (Str×Value)},(∀p∈ps,z≠p.1)→kstB (fun z=>if C7.contains z then u z else m₀ z) ps z=m₀ z:=by
 intro xX
 induction xX with
 | nil=>
  intro _;exact EI h
 | cons p r iH=>
  intro h2;show (if z=p.1 then some p.2 else kstB _ r z)=m₀ z;rw [if_neg (h2 p (.head _))];exact iH fun q hq=>h2 q (.tail _ hq)
theorem TJ {h₀ h:Heap}{L:Addr}{m:Str→Option Value}(F:Fr h₀ L h m)(x:Str){k:Int}{t:Tok}(hx:m x=some (.int k t)):∃t',m x=some (.int k t'):=⟨t,hx⟩
structure Pm (M:Model)(h:Heap)(C:Addr):Prop where
 obj:∃oc od cd sl,h.get? C=some ⟨oc,od,.cls cd,sl⟩∧cd.mro.isEmpty=false
 made:Looks M h (Bind.madeBy (.ref C)) none
 self:Looks M h (Ds (.ref C) (.ref C)) true
 top:Looks M h (Ds (.ref C) (.type "object")) true
 call:Looks M h (GY (.ref C) "__call__") (some (.builtin "type.__call__"))
 typ:Looks M h (Ga (.ref C) (.type "type")) true
 ini:Looks M h (Df (.ref C) "__init__") (some (.builtin "object.__init__"))
theorem QV {K:Frag}{M:Model}{h:Heap}(X:K.In h){C:Addr}{oc c:Value}{od:Option Addr}{cd:ClassData}{sl:Array (Option Value)}{l:List Value}(ho:h.get? C=some ⟨oc,od,.cls cd,sl⟩)(hc:clsIn K C=some cd)(hl:cd.mro=c::l)(e3:(sl.toList[4]?).join=some AG)
  (e5:mroIn K C (.ref C)=some true) (e6:mroIn K C (.type "object")=some true) (e7:specialIn K (.ref C) "__call__" = some (some (.builtin "type.__call__"))) (e8:instIn K (.ref C) (.type "type")=some true) (e9:findIn K (.ref C) "__init__" = some (some (.builtin "object.__init__"))):Pm M h C:=by
 have hm:Looks M h (mroOf (.ref C)) cd.mro:=(looks_clsIn X hc).andThen .now;refine ⟨⟨oc,od,cd,sl,ho,by rw [hl];rfl⟩,?_,looks_mroIn X e5,looks_mroIn X e6,looks_specialIn X e7,looks_instIn X e8,looks_findIn X e9⟩;intro A Q E s k q;unfold Bind.madeBy;refine A2 (hm A _ E s k ?_);rw [hl,J6];refine A2 (A2 (A2 (A2 (wpAny_loadPart (k _ _ ho) (AC ?_)))));dsimp only;rw [←C9,e3];exact AC (AC (AC q))
def Tf (M:Model)(C:Addr)(R:DN→A4→Prop)(r:DN)(s':A4):Prop:=match r with
 | .ok (.ret v)=>∃q o,v = .ref q∧s'.heap.get? q=some o∧o.cls = .ref C∧Pm M s'.heap C∧R (.ok (.ret v)) s'
 | .ok _=>False
 | .error e=>R (.error e) s'
theorem Sn {M:Model}{A:AO}{E:Value→A4→Prop}{s:A4}{C q:Addr}{o:Obj}{a b c:Value}{Q:Fin→A4→Prop}(Y:Pm M s.heap C)(ho:s.heap.get? q=some o)(hc:o.cls = .ref C)(h:Q (.done (.ret .none)) s) :
  wpAny M A (Builtin.«object.__init__» ⟨[.ref q,a,b,c],[]⟩) Q E s:=by
 have t1:Looks M s.heap (HH (.ref q)) (.ref C):=by
  rw [←hc];exact (Iy (part:=none) (M:=M) ho).andThen .now
 have i1:=Y.ini;have m1:=Y.made;unfold Builtin.«object.__init__»
 repeat lk
 exact h
theorem QT (a b c d:Value):JU "object.__init__" ⟨[a,b,c,d],[]⟩:=by unfold JU;kernel_rfl
theorem Sm {prog:AY}{w:World}{A:AO}{R:DN→A4→Prop}{s:A4}{C fN:Addr}{a b c:Value}(Y:Pm (model prog w) s.heap C)
  (hnew:∀(A:AO) (Q:Value→A4→Prop) (E:Value→A4→Prop),Q (.ref fN) { s with toks:=s.toks+1 }→wpAny (model prog w) A (Dc (.ref C) "__new__") Q E s)
  (h:Bt (model prog w) (A.under (.builtin "type.__call__" ⟨.ref C::[a,b,c],[]⟩)) (.call (.ref fN) ⟨[.ref C,a,b,c],[]⟩) (Tf (model prog w) C R) { s with toks:=s.toks+1 }) :
  Bt (model prog w) A (.call (.ref C) ⟨[a,b,c],[]⟩) R s:=by
 obtain ⟨⟨oc,od,cd,sl,hC,e4⟩,made,self,top,call,typ,ini⟩:=Y;refine Co ?_;show wpAny _ _ (callAny (.ref C) _) _ _ _;refine nd_load hC ?_;show wpAny _ _ (callAny.viaDunder (.ref C) _) _ _ _;unfold callAny.viaDunder;refine A2 (call.at ?_);dsimp only;rw [tc_bind];refine A2 (AC (A2 (AC ?_)));refine AC (a:=Fin.again (.call (.builtin "type.__call__") ⟨.ref C::[a,b,c],[]⟩)) (And.intro rfl ?_)
 with_reducible refine codeAny_call_builtin_at (Code.quiet_builtin _ (by decide +kernel)) entry_typeCall ?_
 with_reducible refine check_slot tc_kind tc_split typ (tc_args _ _ _) ?_
 unfold Builtin.«type.__call__»;have hm:Looks (model prog w) s.heap (mroOf (.ref C)) cd.mro:=((Iy (part:=none) hC).andThen .now).andThen .now
 repeat (first | rw [e4] | rw [if_neg Bn] | refine A2 (hnew _ _ _ ?_) | refine A2 (Ak (BN ?_)) | lk)
 refine Tl h fun r s' z=>?_;rcases r with e | (v | _ | _ | _)<;>first | exact z | exact z.elim | skip
 refine R6 (z) ?_;(try clear z);intro q o e92 ho hc Y' z;subst e92;have t1:Looks (model prog w) s'.heap (HH (.ref q)) (.ref C):=by
  rw [←hc];exact (Iy (part:=none) ho).andThen .now
 have t2:Looks (model prog w) s'.heap (Ga (.ref q) (.type "object")) true:=t1.andThen Y'.top;have s1:=Y'.self;have i1:=Y'.ini;have b1:=oi_bind (.ref q);show wpAny _ _ _ _ _ _;unfold Ga callSpecial? GY
 repeat (first | rw [b1] | with_reducible refine BN ?_ | lk)
 refine O0 oi_plain entry_oi (@check_slot (model prog w) _ _ _ "object.__init__" "object" "__init__" (.ref q) [a,b,c] [] _ oi_kind oi_split t2 (QT _ _ _ _) ?_);exact Sn Y' ho hc (AC (AC z))
theorem CK {α:Type}{M:Model}{A:AO}{t:Sem α}{Q:α→A4→Prop}{E:Value→A4→Prop}{s:A4}(A':AO)(h1:A'.handled=A.handled)(h2:A.depth≤A'.depth)(h3:A'.frames=A.frames)(h4:A'.guards=A.guards)(h5:A.units≤A'.units)
  (h:wpAny M A' t Q E s):wpAny M A t Q E s:=fun Γ p hΓ=>h Γ p ⟨hΓ.1.trans h1.symm,Am hΓ.2.1 h2,fun l hl=>hΓ.2.2.1 l (h3▸hl),fun g hg=>hΓ.2.2.2.1 g (h4▸hg),Am hΓ.2.2.2.2 h5⟩
theorem Nf {M:Model}{A:AO}{E:Value→A4→Prop}{s:A4}{T g:String}{v:Value}{name:Str}{pl:Bool}{Q:Value→A4→Prop}(hT:HH v=pure (.type T))(hga:Df (.type T) "__getattribute__" = pure (some (.builtin g)))
  (hgt:HH (.builtin g)=pure (.type "wrapper_descriptor"))
  (h:wpAny M A (call (.builtin g) [v,.str name s.toks]) (fun r s'=>wpAny M A (handedOut r) Q E s') (fun _ _=>False) { s with toks:=s.toks+1 }):wpAny M A (Dc v name pl) Q E s:=by
 unfold Dc;refine A2 (wpAny_mkText ?_);unfold getAttrBy;refine Ak ?_;rw [hT];refine A2 (AC ?_);rw [hga];refine A2 (AC ?_);show wpAny M A (Lf v _ (.type T) (.builtin g) true pl) Q E _;unfold Lf;refine A2 (AC ?_);refine A2 (EJ (Ak ?_));unfold callGetattribute;rw [show (pl&&onTheHeap (CS g))=false from Bool.and_false _,if_neg (by decide)];show wpAny M A (O1 (.builtin g) v _) _ _ _;unfold O1 bindSpecial;refine A2 ?_;rw [hgt];refine A2 (AC ?_);refine AC ?_;exact Ac h (fun _ _ x=>x) fun _ _ x=>x.elim
noncomputable abbrev Bs (d:Addr)(i j k:Value):Obj:=⟨.ref 135,some d,.seq #[i,j,k],#[]⟩
section
open PySem.W.X
noncomputable def kO (w:World)(a:Addr):Obj:=((Mine.K w.params).lookup a).getD default
theorem P5 {w:World}{h:Heap}{a:Addr}(X:(Mine.K w.params).In h)(e:((Mine.K w.params).lookup a).isSome=true):h.get? a=some (kO w a):=by
 unfold kO
 cases h9:(Mine.K w.params).lookup a with
 | none=>rw [h9] at e;cases e
 | some o=>exact X a o h9
noncomputable def mcd (w:World):ClassData:=(clsIn (Mine.K w.params) 135).get (by kernel_rfl)
theorem QZ (w:World):some (kO w 135)=some ⟨(kO w 135).cls,(kO w 135).dict,.cls (mcd w),(kO w 135).slots⟩:=by kernel_rfl
theorem Jl {w:World}{M:Model}{h:Heap}(X:(Mine.K w.params).In h):Pm M h 135:=
 QV (cd:=mcd w) (c:=(mcd w).mro.headD .none) (l:=(mcd w).mro.tail) X ((P5 X (by kernel_rfl)).trans (QZ w)) (by kernel_rfl) (by kernel_rfl) (by kernel_rfl) (by kernel_rfl) (by kernel_rfl) (by kernel_rfl) (by kernel_rfl) (by kernel_rfl)
theorem V0 {prog:AY}{w:World}{A:AO}{R:DN→A4→Prop}{s:A4}{it:Addr}{o:Obj}{items:Array Value}{n:Nat}(ho:s.heap.get? it=some o)(hc:o.cls = .type "tuple")(hd:o.data = .seq items n)(hsz:items.size≤FD)
  (hR:∀l h',(∀b o,s.heap.get? b=some o→h'.get? b=some o)→h'.get? l=some (Ar (· ++ items) ⟨.type "list",none,.seq #[] 0,#[]⟩)→R (.ok (.ret (.ref l))) { s with heap:=h' }) :
  Bt (model prog w) A (.builtin "proto.collect" ⟨[.ref it],[]⟩) R s:=by
 refine CI PyProof.Rows.entry_proto_collect' ?_;rw [BY F.plain_proto_collect _];show wpAny _ A.in1 (newList [] >>= fun l=>again (.builtin "list.__iadd__" ⟨[l,.ref it],[]⟩)) _ _ s;refine A2 (Db ?_);refine AC ⟨Ct J9 _,CI F.entry_list_iadd ?_⟩;rw [BY J9 _];refine wpAny_extend_seq (T:= "tuple") s.heap.objs.size it _ 0 (.inr rfl) (Aa _ rfl) (AE _ ho) hc hd ?_ hsz;refine hR _ _ (fun b o' hb=>?_) (Aw (Ar (· ++ items)) (Aa _ rfl) rfl);exact (BF _ _ (AN (AZ hb))).trans (AE _ hb)
theorem RX (w:World)(A:AO)(s:A4)(t:Addr)(i j k:Int)(n:Nat)(t1 t2 t3:Tok)(Q E:Value→A4→Prop)
  (X:(Mine.K w.params).In s.heap)
  (ht:s.heap.get? t=some ⟨.type "tuple",none,.seq #[.int i t1,.int j t2,.int k t3] n,#[]⟩)
  (hret:∀q d h1 h',(∀b o,s.heap.get? b=some o→h1.get? b=some o)→Mem h1 h' [] [(q,Bs d (.int i t1) (.int j t2) (.int k t3)),(d,⟨.type "dict",none,.dict #[] 0,#[]⟩)]→Q (.ref q) { s with heap:=h' }) :
  wpAny (model (rw_nq0317_02.prog) w) A (call (.builtin "tuple.__new__") [.ref 135,.ref t]) Q E s:=by
 have x5:s.heap.get? 135=some (kO w 135):=P5 X (by kernel_rfl);have x4:s.heap.get? 134=some (kO w 134):=P5 X (by kernel_rfl);refine BN (JY ?_)
 with_reducible refine Fu (a:=135) (by kernel_rfl) x5 ?_
 with_reducible refine Fu (a:=135) (by kernel_rfl) x5 ?_
 with_reducible refine Fu (a:=135) (by kernel_rfl) x5 ?_
 with_reducible refine Fu (a:=135) (by kernel_rfl) x5 ?_
 with_reducible refine Fu (a:=135) (by kernel_rfl) x5 ?_
 with_reducible refine Fu (a:=135) (by kernel_rfl) x5 ?_
 with_reducible refine Px (c2:=.builtin "tuple.__new__" ⟨[.ref 135,.ref t],[]⟩) (by kernel_rfl) (by kernel_rfl) (JY ?_)
 with_reducible refine Fu (a:=135) (by kernel_rfl) x5 ?_
 with_reducible refine Fu (a:=135) (by kernel_rfl) x5 ?_
 with_reducible refine Fu (a:=135) (by kernel_rfl) x5 ?_
 with_reducible refine Fu (a:=135) (by kernel_rfl) x5 ?_
 with_reducible refine Fu (a:=135) (by kernel_rfl) x5 ?_
 with_reducible refine Fu (a:=135) (by kernel_rfl) x5 ?_
 with_reducible refine Fu (a:=135) (by kernel_rfl) x5 ?_
 with_reducible refine Fu (a:=135) (by kernel_rfl) x5 ?_
 with_reducible refine Fu (a:=134) (by kernel_rfl) x4 ?_
 refine VC (c2:=.builtin "proto.collect" ⟨[.ref t],[]⟩) (by kernel_rfl) (V0 ht rfl rfl (show 3≤FD by decide +kernel) fun l h1 k1 hl=>?_)
 with_reducible refine Fu (a:=l) (by kernel_rfl) hl ?_
 with_reducible refine Tw (o:=⟨.type "dict",none,.dict #[] 0,#[]⟩) (by kernel_rfl) (Mem.start h1) rfl fun d h2 D=>?_
 with_reducible refine Tw (o:=Bs d (.int i t1) (.int j t2) (.int k t3)) (by kernel_rfl) D rfl fun q h3 D=>?_
 with_reducible refine Fu (a:=135) (o:=kO w 135) (by kernel_rfl) (D.old 135 _ (k1 _ _ x5) rfl) ?_
 with_reducible refine Pw (v:=.ref q) (by kernel_rfl) ?_
 exact hret q d h1 h3 k1 D
end
theorem PK {h₀ h h':Heap}{L:Addr}{m:Str→Option Value}(hk:∀b o,h.get? b=some o→h'.get? b=some o)(F:Fr h₀ L h m):Fr h₀ L h' m:=⟨F.ns.keeps hk,fun b o e=>hk b o (F.keep b o e),F.above⟩
section
open PySem.W.X
theorem SF:A0 "__new__" = ⟨⟨[95,95,110,101,119,95,95]⟩⟩:=Cu ['_','_','n','e','w','_','_']
theorem Ll (w:World)(A:AO)(s:A4)(t:Tok)(Q E:Value→A4→Prop)(hret:Q (.builtin "tuple.__new__") s) :
  wpAny (model (rw_nq0317_02.prog) w) A (call (.builtin "type.__getattribute__") [.type "tuple",.str (A0 "__new__") t]) Q E s:=by
 rw [SF];refine BN (JY ?_)
 with_reducible refine Px (c2:=.builtin "type.__getattribute__" ⟨[.type "tuple",.str ⟨⟨[95,95,110,101,119,95,95]⟩⟩ t],[]⟩) (by kernel_rfl) (by kernel_rfl) (JY ?_)
 exact Pw (v:=.builtin "tuple.__new__") (by kernel_rfl) hret
end
theorem OH:HH (.builtin "type.__getattribute__")=pure (.type "wrapper_descriptor"):=by show builtinType _=_;kernel_rfl
theorem Gh {w:World}{A:AO}{E:Value→A4→Prop}{s:A4}{pl:Sem Bool}{Q:Value×List Value→A4→Prop}(X:(Mine.K w.params).In s.heap)(h:∀tk,Q (.builtin "tuple.__new__",[]) { s with toks:=tk }) :
  wpAny (model (rw_nq0317_02.prog) w) A (Gb (.type "tuple") (A0 "__new__") pl) Q E s:=by
 have ht:HH (.type "tuple")=pure (.type "type"):=by first | rfl | kernel_rfl
 have L0:Looks (model (rw_nq0317_02.prog) w) s.heap (HH (.type "tuple")) (.type "type"):=Looks.of_pure ht;have hg:findIn (Mine.K w.params) (.type "type") "__getattribute__" = some (some (.builtin "type.__getattribute__")):=type_tga;unfold Gb GY;refine A2 (A2 (L0.here ((looks_findIn X hg).here ?_)));dsimp only;rw [if_pos canon_tga];refine A2 (Ac (Q:=fun v=>Q (v,[])) (E:=E) ?_ (fun _ _ z=>AC z) fun _ _ z=>z)
 with_reducible refine Nf (T:= "type") ht (by rw [CH,Bc];kernel_rfl) OH ?_
 exact Ll w A _ _ _ _ (AC (h _))
theorem Sq (w:World)(p:AY)(lo:List Str)(mean:CG→Option Value)(mg mb:Str→Option Value)
  (gd:Option (List Code)) (cn:Str) (cs:Scope) (a:Addr) (ccd:Value) (cl:List (Str×Addr)) (outer:List Env) (A₀:AO) (base h₀:Heap) (L:Addr) (m:Str→Option Value) (news:List (Addr×Obj)) (s:A4)
  (i j k:Int) (t1 t2 t3:Tok) (Q E:Value→A4→Prop)
  (B:Below A₀ base outer h₀) (F:Fr h₀ L s.heap m) (X:(Mine.K w.params).In h₀) (N:News h₀ L s.heap news) (T:Top p lo mean mg mb h₀) (hk:cs.kind = .function)
  (hret:∀q d h' tk',Fr h₀ L h' m→News h₀ L h' ((q,Bs d (.int i t1) (.int j t2) (.int k t3))::news)→(∀p∈news,p.1≠q)→Q (.ref q) { s with heap:=h',toks:=tk' }) :
  wpAny (model (rw_nq0317_02.prog) w) (Bi 360 600 gd cn cs L a ccd cl outer) (call (.ref 135) [.int i t1,.int j t2,.int k t3]) Q E s:=by
 k_with "+2" =>skip
 k_with "2" =>(fail_if_success k_extra "+3")
 k_with "k" =>k_extra "2"
 k_with "l" =>k_extra "2"
 revert X
 k_fill
 intro X;refine BN (Sm (Jl (X.keeps F.keep)) (fun A Q E hq=>cls_sm (f:=.ref 82) F X (by k_is) (by k_is) (by k_is) (by k_is) rfl hq) ?_)
 k_dflt (refine' HJ (binds:=[(A0 "_cls",.ref 135),(A0 "a",.int i t1),(A0 "b",.int j t2),(A0 "size",.int k t3)]) ?k1 ?k2 ?k3 ?k4 ?k5 ?kA ?kF ?kK ?k6 ?k7 ?k8 ?k9 ?kB ?_ ?c2 ?c3 ?c4 ?c5;(case kA=>exact rfl);(case kF=>exact rfl);(case kK=>assumption);(case k1=>k_asm);(case k2=>k_asm);(case k3=>k_asm);(case k4=>k_asm);(case k5=>k_asm);(case k6=>k_is);(case k7=>k_is);(case k8=>ktr_room);(case k9=>first | exact CA rfl | exact Q1 (by k_in) rfl (by k_is) rfl rfl rfl);(case c5=>decide);(case kB=>exact locs rfl);(case c2=>exact rfl);(case c3=>exact rfl);(case c4=>exact rfl);k_whole;intro g' L' h' FG' F' N' B' X' T';(try dsimp only);(try k_fold))
 refine (let A9:AO:=_;(?_:wpAny _ A9 _ _ _ _));k_steps;refine Gh (X'.keeps F'.keep) fun tk2=>?_;k_steps;refine ⟨?_⟩;rename Fr _ _ _ _=>F2;rename News _ _ _ _=>N2;refine RX w _ _ _ i j k _ t1 t2 t3 _ _ (X'.keeps F2.keep) (N2 _ (.head _)).1 fun q d h8 h9 k8 D=>?_;have F8:=PK k8 F2;have N8:News g' L' h8 _:=fun p hp=>⟨k8 _ _ (N2 p hp).1,(N2 p hp).2⟩;have F9:=Jk D F8;have N9:News g' L' h9 ((q,Bs d (.int i t1) (.int j t2) (.int k t3))::news):=Bo (GQ D F8 N8) (A6 (maL _ (.head _)) (fun p hp=>maR _ (.tail _ hp)));have hq9:∀p∈news,p.1≠q:=fun p hp e=>D.ne_old 0 q _ rfl p.1 p.2 (N8 p (.tail _ hp)).1 e.symm;clear N2 F2 N8 F8 D;k_steps;rename Fr _ _ _ _=>F3;rename News _ _ _ _=>N3;exact ⟨q,_,rfl,(N3 _ (.head _)).1,rfl,Jl (X.keeps F3.keep),hret q d _ _ F3 N3 hq9⟩
structure NI where
 nm:Int
 tn:Tok
 a:Addr
 ad:Addr
 np:Int
 tp:Tok
 sl:Addr
 sc:List (Int×Tok)
 ep:Nat
noncomputable abbrev GV (ad:Addr)(nm:Int)(tn:Tok)(np:Int)(tp:Tok)(sl:Addr):Obj:=⟨.ref 265,some ad,.plain,#[some (.int nm tn),some (.int np tp),some (.ref sl)]⟩
noncomputable def An (l:List (Int×Tok)):Array Value:=(l.map fun p=>A5 p.1 p.2).toArray
noncomputable def EZ (e:NI):List (Addr×Obj):=[(e.a,GV e.ad e.nm e.tn e.np e.tp e.sl),(e.ad,Fk [] 0),(e.sl,A1 (An e.sc) e.ep)]
noncomputable def C3 (ns:List NI):List (Addr×Obj):=ns.flatMap EZ
noncomputable def Da (ns:List NI):List (Int×Value):=ns.map fun e=>(e.nm,.ref e.a)
theorem Ih (a b:List NI):C3 (a++b)=C3 a++C3 b:=Cy
theorem M4 (a b:List NI):Da (a++b)=Da a++Da b:=AI
theorem CE {ns:List NI}{e:NI}(he:e∈ns){p:Addr×Obj}(hp:p∈EZ e):p∈C3 ns:=List.mem_flatMap.mpr ⟨e,he,hp⟩
theorem H0 {ns:List NI}{x:Int}{v:Value}(h:BR (Da ns) x=some v):∃e∈ns,e.nm=x∧v = .ref e.a:=by
 unfold BR Da at h;refine Aq (Option.map_eq_some_iff.mp h) ?_;intro kv hf e92;subst e92;have hm:=DT hf;have hk:=CO hf;refine Aq (mm1 hm) ?_;intro e he e92;subst e92;exact ⟨e,he,by simpa using hk,rfl⟩
theorem Fd {ns:List NI}{x:Int}(h:BR (Da ns) x=none):x∉ns.map (·.nm):=by
 unfold BR Da at h;rw [CX,Ck] at h;intro hm;refine Aq (mm1 hm) ?_;intro e he e92;subst e92;exact h _ (mm2 ⟨e,he,rfl⟩) (by simp)
theorem Ey {ns:List NI}(hn:(ns.map (·.nm)).Nodup){e:NI}(he:e∈ns):BR (Da ns) e.nm=some (.ref e.a):=by
 cases h:BR (Da ns) e.nm with
 | none=>exact absurd (mm2 ⟨e,he,rfl⟩) (Fd h)
 | some v=>
  refine Dn (H0 h) ?_;intro e' he' h1 e93;subst e93;rw [De hn he' he h1]
theorem Lx {ns:List NI}{x:Int}{v:Value}(h:BR (Da ns) x=none):C7 (Da ns) x v=Da ns++[(x,v)]:=by
 unfold C7;rw [if_neg];unfold BR at h;rw [CX,Ck] at h;intro ha;refine Aq (List.any_eq_true.mp ha) ?_;intro kv hm hk;exact h kv hm hk
noncomputable abbrev FB (l:List (Addr×Obj)):List Addr:=l.map (·.1)
theorem Hn {pre post:List (Addr×Obj)}(h:(FB (pre++post)).Nodup){p q:Addr×Obj}(hp:p∈pre)(hq:q∈post):p.1≠q.1:=by
 unfold FB at h;rw [AI,CZ] at h;exact h.2.2 p.1 (mm2 ⟨p,hp,rfl⟩) q.1 (mm2 ⟨q,hq,rfl⟩)
section
variable {prog:AY}{w:World}{A:AO}{E:Value→A4→Prop}{s:A4}{h₀:Heap}{L:Addr}{m:Str→Option Value}{news:List (Addr×Obj)}
theorem EN {h:Heap}{x:Addr}{o:Obj}(N:News h₀ L h news)(hm:(x,o)∈news):News h₀ L h ([]++(x,o)::news.filter fun p=>decide (p.1≠x)):=by
 intro p hp;refine AQ hp ?_ fun hp=>?_
 ·exact N _ hm
 exact N p (mf1 hp).1
theorem GP {h:Heap}{x:Addr}{o:Obj}(N:News h₀ L h ([]++(x,o)::news.filter fun p=>decide (p.1≠x))):News h₀ L h (CD x o news):=by
 intro p hp;rcases Ie hp with ⟨rfl,_⟩ | ⟨hn,hp⟩
 ·exact N _ (.head _)
 exact N p (.tail _ (List.mem_filter.mpr ⟨hp,by simpa using hn⟩))
variable {K:Frag}{C dx x i p:Nat}{name:Str}{v:Value}{od:Obj}{sl:Array (Option Value)}
theorem OO {sl':Array (Option Value)}{Q:Unit→A4→Prop}(F:Fr h₀ L s.heap m)(X₀:K.In h₀)(N:News h₀ L s.heap news)(h1:(x,(⟨.ref C,some dx,.plain,sl⟩:Obj))∈news)(h2:(dx,od)∈news)
  (hs:findIn K (.ref C) "__setattr__" = some (some (.builtin "object.__setattr__"))) (hp:plainOver K C=true) (ht:takerIn K C name=some (some (.ref p))) (hT:typeIn K (.ref p)=some (.type "member_descriptor")) (hi:slotIn K p C=some i) (hz:i<1000)
  (e:(sl++Array.replicate (i+1-sl.size) none).setIfInBounds i (some v)=sl')
  (h:∀h',Fr h₀ L h' m→News h₀ L h' (CD x ⟨.ref C,some dx,.plain,sl'⟩ news)→Q () { s with heap:=h',toks:=s.toks+1 }):wpAny (model prog w) A (OB (.ref x) name v) Q E s:=by
 subst e;refine set_plain (X₀.keeps F.keep) (E3 N h1 h2) hs (osa_descr (s:={ s with toks:=s.toks+1 }) KF.slot_mset (X₀.keeps F.keep) (E3 N h1 h2) hp ht hT ?_);refine slot_set (s:={ s with toks:=s.toks+1 }) F (EN N h1) (X₀.keeps F.keep) (E3 N h1 h2) hi hz (fun p hp=>nomatch hp) (fun p hp=>by simpa using (mf1 hp).2) rfl rfl fun h' F' N'=>h h' F' (GP N')
end
section
variable {w:World}{A:AO}{E:Value→A4→Prop}{s:A4}{h₀:Heap}{L:Addr}{m:Str→Option Value}{news:List (Addr×Obj)}{x dx sl:Addr}{nm:Int}{tn tp:Tok}{np:Int}{od:Obj}
theorem Jg {expr:Bool}{Q:Value→A4→Prop}(F:Fr h₀ L s.heap m)(X:(Mine.K w.params).In h₀)(N:News h₀ L s.heap news)(h1:(x,GV dx nm tn np tp sl)∈news)(h2:(dx,od)∈news)(h:Q (.int np tp) { s with toks:=s.toks+1 }) :
  wpAny (model rw_nq0317_02.prog w) A (Dc (.ref x) (A0 "npredecessors") expr) Q E s:=by
 revert X
 k_fill
 intro X;refine' get_slot F X (E3 N h1 h2) ?k4 ?k5 ?k6 ?k7 ?k8 ?k9 ?k10 ?k11 ?_;(case k4=>k_is);(case k5=>k_is);(case k6=>k_is);(case k7=>k_is);(case k8=>k_is);(case k9=>k_is);(case k10=>k_slotget);(case k11=>k_handed);exact h
theorem UY {expr:Bool}{Q:Value→A4→Prop}(F:Fr h₀ L s.heap m)(X:(Mine.K w.params).In h₀)(N:News h₀ L s.heap news)(h1:(x,GV dx nm tn np tp sl)∈news)(h2:(dx,od)∈news)(h:Q (.int nm tn) { s with toks:=s.toks+1 }) :
  wpAny (model rw_nq0317_02.prog w) A (Dc (.ref x) (A0 "node") expr) Q E s:=by
 revert X
 k_fill
 intro X;refine' get_slot F X (E3 N h1 h2) ?k4 ?k5 ?k6 ?k7 ?k8 ?k9 ?k10 ?k11 ?_;(case k4=>k_is);(case k5=>k_is);(case k6=>k_is);(case k7=>k_is);(case k8=>k_is);(case k9=>k_is);(case k10=>k_slotget);(case k11=>k_handed);exact h
theorem Oa {expr:Bool}{Q:Value→A4→Prop}(F:Fr h₀ L s.heap m)(X:(Mine.K w.params).In h₀)(N:News h₀ L s.heap news)(h1:(x,GV dx nm tn np tp sl)∈news)(h2:(dx,od)∈news)(h:Q (.ref sl) { s with toks:=s.toks+1 }) :
  wpAny (model rw_nq0317_02.prog w) A (Dc (.ref x) (A0 "successors") expr) Q E s:=by
 revert X
 k_fill
 intro X;refine' get_slot F X (E3 N h1 h2) ?k4 ?k5 ?k6 ?k7 ?k8 ?k9 ?k10 ?k11 ?_;(case k4=>k_is);(case k5=>k_is);(case k6=>k_is);(case k7=>k_is);(case k8=>k_is);(case k9=>k_is);(case k10=>k_slotget);(case k11=>k_handed);exact h
theorem L2 {k:Int}{t:Tok}{Q:Unit→A4→Prop}(F:Fr h₀ L s.heap m)(X:(Mine.K w.params).In h₀)(N:News h₀ L s.heap news)(h1:(x,GV dx nm tn np tp sl)∈news)(h2:(dx,od)∈news)
  (h:∀h',Fr h₀ L h' m→News h₀ L h' (CD x (GV dx nm tn k t sl) news)→Q () { s with heap:=h',toks:=s.toks+1 }) :
  wpAny (model rw_nq0317_02.prog w) A (OB (.ref x) (A0 "npredecessors") (.int k t)) Q E s:=by
 revert X
 k_fill
 intro X;refine' OO F X N h1 h2 ?k5 ?k6 ?k7 ?k8 ?k9 ?k10 ?k11 h;(case k5=>k_is);(case k6=>k_is);(case k7=>k_is);(case k8=>k_is);(case k9=>k_is);(case k10=>decide);(case k11=>rfl)
end
section
local macro_rules | `(tactic| k_all) => `(tactic| k_extra "k_all")
theorem Ha {d:Nat}:∀{l:List (Addr×Obj)},AllLt d l→∀p∈l,p.1<d:=by
 intro xX
 induction xX with
 | nil=>
  intro _ _ hp;exact nomatch hp
 | cons q l iH=>
  intro h p hp
  cases mc1 hp with
  | inl e=>rw [e];exact h.1
  | inr e=>exact iH h.2 p e
section
variable {prog:AY}{w:World}{A:AO}{E:Value→A4→Prop}{s:A4}{h₀:Heap}{L:Addr}{news:List (Addr×Obj)}{KK:Type} [DecidableEq KK] {knd:KeyKind prog w KK}{kvs:List (KK×Value)}{k:KK}{key v:Value}{d:Addr}{o:Obj}{Q:Value→A4→Prop}
theorem LC (N:News h₀ L s.heap news)(hp:(d,o)∈news)(hd:o.IsDictOf knd kvs)(lo:(d==BV)=false)(hkey:knd.is k key=true)(hl:BR kvs k=some v)(h:Q v { s with toks:=s.toks+1 }):wpAny (model prog w) A (call (.builtin "dict.get") [.ref d,key]) Q E s:=kdg_get1 N hp hd lo hkey (some v) hl h
theorem PF (N:News h₀ L s.heap news)(hp:(d,o)∈news)(hd:o.IsDictOf knd kvs)(lo:(d==BV)=false)(hkey:knd.is k key=true)(hl:BR kvs k=none)(h:Q .none { s with toks:=s.toks+1 }):wpAny (model prog w) A (call (.builtin "dict.get") [.ref d,key]) Q E s:=kdg_get1 N hp hd lo hkey none hl h
end
noncomputable abbrev tsD (w:World)(t1 t2 t3 t4 t5 t6:Tok)(n2:Addr):Obj:=Fk [ent w "_node2info" t1 (.ref n2),ent w "_ready_nodes" t2 .none,ent w "_npassedout" t3 (.int 0 t4),ent w "_nfinished" t5 (.int 0 t6)] 4
noncomputable def GK (xa d n2:Addr)(ns:List NI):List Addr:=xa::d::n2::FB (C3 ns)
theorem LP (xa d n2:Addr)(ns:List NI)(e:NI):GK xa d n2 (ns++[e])=GK xa d n2 ns++[e.a,e.ad,e.sl]:=by
 unfold GK FB;rw [Ih,AI];rfl
theorem UZ {h₀ h:Heap}{L:Addr}{x:Int}{tx tp:Tok}{xv dv lv n2 xa d:Nat}{o2 o5 oxa D:Obj}{ns:List NI}{rest tl:List (Addr×Obj)}{P:Prop}(htl:tl=C3 ns++rest)
  (N:News h₀ L h (CD n2 o5 ((lv,A1 #[] 0)::(xv,GV dv x tx 0 tp lv)::(dv,Fk [] 0)::(xa,oxa)::(d,D)::(n2,o2)::tl))) (hnd:(GK xa d n2 ns).Nodup) (hoff:∀p∈rest,p.1∉GK xa d n2 ns)
  (hA:xa<dv∧d<dv∧n2<dv∧AllLt dv tl) (hB:dv<xv) (hC:xv<lv∧P) :
  News h₀ L h ((xa,oxa)::(d,D)::(n2,o5)::(C3 (ns++[⟨x,tx,xv,dv,0,tp,lv,[],0⟩])++rest))∧(GK xa d n2 (ns++[⟨x,tx,xv,dv,0,tp,lv,[],0⟩])).Nodup∧∀p∈rest,p.1∉GK xa d n2 (ns++[⟨x,tx,xv,dv,0,tp,lv,[],0⟩]):=by
 subst htl;refine Fi (hA) ?_;(try clear hA);intro a1 a2 a3 a4;have hlt:=Ha a4;have hG:∀z∈GK xa d n2 ns,z<dv:=by
  intro z hz;refine AQ hz ?_ fun hz=>?_
  ·exact a1
  refine AQ hz ?_ fun hz=>?_
  ·exact a2
  refine AQ hz ?_ fun hz=>?_
  ·exact a3
  refine mmE hz ?_;intro p hp;exact hlt p (maL _ hp)
 have hgk:=hnd;unfold GK at hgk;have hxn:xa≠n2:=fun e=>(nc1 hgk).1 (e▸mH1);have hdn:d≠n2:=fun e=>(nc1 (nc1 hgk).2).1 (e▸.head _);have hn2:∀p∈C3 ns++rest,p.1≠n2:=by
  intro p hp e;refine AF hp (fun hp=>?_) fun hp=>?_
  ·exact (nc1 (nc1 (nc1 hgk).2).2).1 (e▸mm2 ⟨p,hp,rfl⟩)
  exact hoff p hp (e▸mH2)
 have hz:∀z∈[xv,dv,lv],dv≤z:=by
  intro z hz;refine AQ hz ?_ fun hz=>?_
  ·exact Be hB
  refine AQ hz ?_ fun hz=>?_
  ·exact Ap _
  rw [ms1 hz];exact Be (Ay hB hC.1)
 refine ⟨Bo N fun p hp=>?_,?_,?_⟩
 ·refine AH hp ?_ fun hp=>?_
  ·exact A8 mH3 hxn
  refine AH hp ?_ fun hp=>?_
  ·exact A8 mH4 hdn
  refine AH hp ?_ fun hp=>?_
  ·exact AV mH5
  rw [Ih] at hp;refine AF hp (fun hp=>?_) fun hp=>?_
  ·refine AF hp (fun hp=>?_) fun hp=>?_
   ·exact A8 (mT6 (maL _ hp)) (hn2 p (maL _ hp))
   refine AH hp ?_ fun hp=>?_
   ·exact A8 mH1 (AN (Ay a3 hB))
   refine AH hp ?_ fun hp=>?_
   ·exact A8 mH2 (AN a3)
   refine AH hp ?_ fun hp=>?_
   ·exact A8 (.head _) (AN (Ay a3 (Ay hB hC.1)))
   cases hp
  exact A8 (mT6 (maR _ hp)) (hn2 p (maR _ hp))
 ·rw [LP,CZ];refine ⟨hnd,by simp [AN hB,A7 hC.1,A7 (Ay hB hC.1)],fun u hu v hv e=>?_⟩;have h1:=hG u hu;have h2:=hz v hv;rw [e] at h1;exact absurd (B5 h1 h2) (Av _)
 intro p hp hm;rw [LP] at hm;refine AF hm (fun hm=>?_) fun hm=>?_
 ·exact hoff p hp hm
 have h2:=hz _ hm;have h1:=hlt p (maR _ hp);exact absurd (B5 h1 h2) (Av _)
theorem VR (w:World)(p:AY)(lo:List Str)(mean:CG→Option Value)(mg mb:Str→Option Value)
  (gd:Option (List Code)) (cn:Str) (cs:Scope) (a:Addr) (ccd:Value) (cl:List (Str×Addr)) (outer:List Env) (A₀:AO) (base h₀:Heap) (L:Addr) (m:Str→Option Value) (rest:List (Addr×Obj)) (s:A4)
  (x:Int) (tx:Tok) (xa d n2:Addr) (o2:Obj) (ns:List NI) (t1 t2 t3 t4 t5 t6:Tok) (Q E:Value→A4→Prop)
  (B:Below A₀ base outer h₀) (F:Fr h₀ L s.heap m) (X:(Mine.K w.params).In h₀) (N:News h₀ L s.heap ((xa,AT 362 d)::(d,tsD w t1 t2 t3 t4 t5 t6 n2)::(n2,o2)::(C3 ns++rest))) (T:Top p lo mean mg mb h₀) (hk:cs.kind = .function)
  (hx:True) (hd:o2.IsDictOf (AM rw_nq0317_02.prog w) (Da ns)) (lo2:(n2==BV)=false) (hnn:(ns.map (·.nm)).Nodup) (hl:ns.length≤100)
  (hnd:(GK xa d n2 ns).Nodup) (hoff:∀p∈rest,p.1∉GK xa d n2 ns)
  (hret:∀e ns' o2' h' tk',e∈ns'→e.nm=x→(ns'=ns∨(x∉ns.map (·.nm)∧ns'=ns++[e]∧e.np=0∧e.sc=[]))→o2'.IsDictOf (AM rw_nq0317_02.prog w) (Da ns')→(ns'.map (·.nm)).Nodup→
   (GK xa d n2 ns').Nodup→(∀p∈rest,p.1∉GK xa d n2 ns')→ns'.length≤ns.length+1→Fr h₀ L h' m→News h₀ L h' ((xa,AT 362 d)::(d,tsD w t1 t2 t3 t4 t5 t6 n2)::(n2,o2')::(C3 ns'++rest))→Q (.ref e.a) { s with heap:=h',toks:=tk' }) :
  wpAny (model (rw_nq0317_02.prog) w) (Bi 360 600 gd cn cs L a ccd cl outer) (call (.ref 305) [.ref xa,.int x tx]) Q E s:=by
 refine (let oT:Obj:=tsD w t1 t2 t3 t4 t5 t6 n2;have N9:News _ _ _ (_::(_,oT)::_):=N;?_);clear N;have N:=N9;clear N9;k_with "+3" =>skip
 k_with "3" =>(fail_if_success k_extra "+4")
 k_with "m" =>k_extra "3"
 k_with "k" =>k_extra "3"
 k_with "n" =>k_extra "3"
 k_with "o" =>k_extra "3"
 refine CV (C3 ns++rest) ?_;intro tl htl;rw [←htl] at N;k_with "+4" =>skip
 k_with "4" =>(fail_if_success k_extra "+5")
 k_with "m" =>k_extra "4"
 k_with "k" =>k_extra "4"
 k_with "n" =>k_extra "4"
 k_with "o" =>k_extra "4"
 revert X
 k_fill
 intro X;refine BN ?_
 k_dflt (refine' HJ (binds:=[(A0 "self",.ref xa),(A0 "node",.int x tx)]) ?k1 ?k2 ?k3 ?k4 ?k5 ?kA ?kF ?kK ?k6 ?k7 ?k8 ?k9 ?kB ?_ ?c2 ?c3 ?c4 ?c5;(case kA=>exact rfl);(case kF=>exact rfl);(case kK=>assumption);(case k1=>k_asm);(case k2=>k_asm);(case k3=>k_asm);(case k4=>k_asm);(case k5=>k_asm);(case k6=>k_is);(case k7=>k_is);(case k8=>ktr_room);(case k9=>first | exact CA rfl | exact Q1 (by k_in) rfl (by k_is) rfl rfl rfl);(case c5=>decide);(case kB=>exact locs rfl);(case c2=>exact rfl);(case c3=>exact rfl);(case c4=>exact rfl);k_whole;intro g' L' h' FG' F' N' B' X' T';(try dsimp only);(try k_fold))
 refine (let A9:AO:=_;(?_:wpAny _ A9 _ _ _ _));k_steps;refine ⟨?_⟩
 cases hv:BR (Da ns) x with
 | some v=>
  refine Dn (H0 hv) ?_;intro e he hex e93;subst e93;refine LC N' mH2 hd lo2 (BH _ _ _ _) hv ?_;k_steps;rename Fr _ _ _ _=>F9;rename News _ _ _ _=>N9;rw [htl] at N9;exact hret e ns o2 _ _ he hex (.inl rfl) hd hnn hnd hoff (Dh _) F9 N9
 | none=>
  refine PF N' mH2 hd lo2 (BH _ _ _ _) hv ?_;k_steps;refine ⟨?_⟩;rename Fr _ _ _ _=>F3;rename News _ _ _ _=>N3;refine Gx F3 N3 mH5 hd (BH _ _ _ _) (Bw (by unfold Da;rw [AB];lia)) fun h5 o5 F5 N5 hd5=>?_;rw [Lx hv] at hd5;clear F3 N3;k_steps;rename Fr _ _ _ _=>F9;rename News _ _ _ _=>N9;refine Dj (UZ htl N9 hnd hoff (by assumption) (by assumption) (by assumption)) ?_;intro N10 hnd10 hoff10;refine hret _ _ o5 _ _ (maR _ (.head _)) rfl (.inr ⟨Fd hv,rfl,rfl,rfl⟩) (by rw [M4];exact hd5) ?_ hnd10 hoff10 (by rw [Ai];exact Ap _) F9 N10;rw [AI,CZ];exact ⟨hnn,Ce.mpr ⟨Au,CY⟩,fun y hy z hz e=>by rw [ms1 hz] at e;have e2:y=x:=e;exact Fd hv (e2▸hy)⟩
structure GN where
 nm:Int
 np:Int
 sc:List Int
noncomputable abbrev Gr:=List GN
noncomputable def DF (e:NI):GN:=⟨e.nm,e.np,e.sc.map (·.1)⟩
noncomputable def BW (ns:List NI):Gr:=ns.map DF
noncomputable def KI (g:Gr)(x:Int):Gr:=if x∈g.map (·.nm) then g else g++[⟨x,0,[]⟩]
noncomputable def gup (g:Gr)(x:Int)(f:GN→GN):Gr:=g.map fun e=>if e.nm=x then f e else e
noncomputable def Ni (g:Gr)(node pred:Int):Gr:=gup (KI (gup (KI g node) node fun e=>{ e with np:=e.np+1 }) pred) pred fun e=>{ e with sc:=e.sc++[node] }
noncomputable def upX (ns:List NI)(x:Int)(f:NI→NI):List NI:=ns.map fun e=>if e.nm=x then f e else e
theorem K3 {ns:List NI}{x:Int}{f:NI→NI}{f':GN→GN}(h:∀e,DF (f e)=f' (DF e)):BW (upX ns x f)=gup (BW ns) x f':=by
 unfold BW upX gup;rw [Ao,Ao];apply Az;intro e _;show DF (if e.nm=x then f e else e)=if (DF e).nm=x then f' (DF e) else DF e
 have:(DF e).nm=e.nm:=rfl;rw [this];split
 ·exact h e
 rfl
theorem IX {ns ns':List NI}{x:Int}{e:NI}(h:ns'=ns∨(x∉ns.map (·.nm)∧ns'=ns++[e]∧e.np=0∧e.sc=[]))(he:e∈ns')(hx:e.nm=x):BW ns'=KI (BW ns) x:=by
 have hm:(BW ns).map (·.nm)=ns.map (·.nm):=by unfold BW;rw [Ao];rfl
 unfold KI;rw [hm];rcases h with rfl | ⟨h1,rfl,h2,h3⟩
 ·rw [if_pos (mm2 ⟨e,he,hx⟩)]
 rw [if_neg h1];unfold BW;rw [AI];show _++[DF e]=_;unfold DF;rw [hx,h2,h3];rfl
theorem HQ {ns:List NI}{x:Int}{f:NI→NI}(h:∀e,(f e).nm=e.nm):(upX ns x f).map (·.nm)=ns.map (·.nm):=by
 unfold upX;rw [Ao];apply Az;intro e _;show (if e.nm=x then f e else e).nm=e.nm;split
 ·exact h e
 rfl
theorem HR {ns:List NI}{x:Int}{f:NI→NI}(h:∀e,(f e).nm=e.nm)(ha:∀e,(f e).a=e.a):Da (upX ns x f)=Da ns:=by
 unfold Da upX;rw [Ao];apply Az;intro e _;show ((if e.nm=x then f e else e).nm,A3 (if e.nm=x then f e else e).a)=_;split
 ·rw [h,ha]
 rfl
theorem MV {ns:List NI}{x:Int}{f:NI→NI}(h:∀e,FB (EZ (f e))=FB (EZ e)):FB (C3 (upX ns x f))=FB (C3 ns):=by
 unfold FB C3 upX;rw [Pr,Pr,List.flatMap_map]
 congr 1
 funext e
 show FB (EZ (if e.nm=x then f e else e))=FB (EZ e);split
 ·exact h e
 rfl
theorem Hh {xa d n2:Addr}{ns:List NI}{x:Int}{f:NI→NI}(h:∀e,FB (EZ (f e))=FB (EZ e)):GK xa d n2 (upX ns x f)=GK xa d n2 ns:=by
 unfold GK;rw [MV h]
theorem Jh:∀{ns:List NI},(FB (C3 ns)).Nodup→∀{e e':NI},e∈ns→e'∈ns→∀{p q:Addr×Obj},p∈EZ e→q∈EZ e'→p.1=q.1→e=e':=by
 intro xX
 induction xX with
 | nil=>intro _ _ _ h;cases h
 | cons y ns iH=>
  intro hn e e' he he' p q hp hq hpq;have hn':(FB (EZ y++C3 ns)).Nodup:=hn;have hn2:(FB (C3 ns)).Nodup:=by
   unfold FB at hn' ⊢;rw [AI] at hn';exact (CZ.mp hn').2.1
  rcases mc1 he with h1 | h1<;>rcases mc1 he' with h2 | h2
  ·exact h1.trans h2.symm
  ·subst h1;exact absurd hpq (Hn hn' hp (CE h2 hq))
  ·subst h2;exact absurd hpq.symm (Hn hn' hq (CE h1 hp))
  exact iH hn2 h1 h2 hp hq hpq
theorem Jb {ns:List NI}{x:Int}{f:NI→NI}{e:NI}{pre rest:List (Addr×Obj)}{xa d n2 ad:Addr}{o':Obj}(hnn:(ns.map (·.nm)).Nodup)(hnd:(GK xa d n2 ns).Nodup)(hpre:∀p∈pre,p.1∉FB (C3 ns))(hoff:∀p∈rest,p.1∉GK xa d n2 ns)(he:e∈ns)(hx:e.nm=x)
  (hf:∀p∈EZ (f e),p=(ad,o')∨(p.1≠ad∧p∈EZ e)) (had:∃o,(ad,o)∈EZ e):∀p∈pre++(C3 (upX ns x f)++rest),p∈CD ad o' (pre++(C3 ns++rest)):=by
 refine Bp (had) ?_;(try clear had);intro o ho;have hin:(ad,o)∈C3 ns:=CE he ho;have hinK:ad∈FB (C3 ns):=mm2 ⟨_,hin,rfl⟩;have hall:(ad,o)∈pre++(C3 ns++rest):=maR _ (maL _ hin);intro p hp;refine AF hp (fun hp=>?_) fun hp=>?_
 ·exact A8 (maL _ hp) (fun q=>hpre p hp (q▸hinK))
 refine AF hp (fun hp=>?_) fun hp=>?_
 ·refine Aq (List.mem_flatMap.mp hp) ?_;intro e' he' hp';refine Aq (mm1 he') ?_;intro e₀ he₀ e92;subst e92
  by_cases hc:e₀.nm=x
  ·have:e₀=e:=De hnn he₀ he (hc.trans hx.symm);subst this;rw [if_pos hc] at hp';rcases hf p hp' with rfl | ⟨h1,h2⟩
   ·exact AV hall
   exact A8 (maR _ (maL _ (CE he₀ h2))) h1
  rw [if_neg hc] at hp';refine A8 (maR _ (maL _ (CE he₀ hp'))) ?_;intro q;have hnd2:(FB (C3 ns)).Nodup:=by
   unfold GK at hnd;exact (nc1 (nc1 (nc1 hnd).2).2).2
  have:=Jh hnd2 he₀ he hp' ho q;exact hc (this▸hx)
 exact A8 (maR _ (maR _ hp)) (fun q=>hoff p hp (mT3 (q▸hinK)))
theorem NO:∀{ns:List NI},(FB (C3 ns)).Nodup→∀{e:NI},e∈ns→(FB (EZ e)).Nodup:=by
 intro xX
 induction xX with
 | nil=>
  intro _ _ h;exact nomatch h
 | cons y ns iH=>
  intro hn e he;have hn':(FB (EZ y++C3 ns)).Nodup:=hn;unfold FB at hn';rw [AI,CZ] at hn';rcases mc1 he with h1 | h1
  ·subst h1;exact hn'.1
  exact iH hn'.2.1 h1
theorem Ly {xa d n2:Addr}{ns:List NI}(hnd:(GK xa d n2 ns).Nodup){e:NI}(he:e∈ns):e.ad≠e.a∧e.sl≠e.a∧e.ad≠e.sl:=by
 have h:=NO (by unfold GK at hnd;exact (nc1 (nc1 (nc1 hnd).2).2).2) he;have h':[e.a,e.ad,e.sl].Nodup:=h;simp only [Ce,BD,Au,or_false,not_or] at h';exact ⟨fun q=>h'.1.1 q.symm,fun q=>h'.1.2 q.symm,h'.2.1⟩
theorem Li {ns:List NI}{x:Int}{f:NI→NI}:(upX ns x f).length=ns.length:=by unfold upX;rw [AB]
theorem Gy {ns:List NI}{e:NI}{pre rest:List (Addr×Obj)}{xa d n2:Addr}{k:Int}{t:Tok}(hnn:(ns.map (·.nm)).Nodup)(hnd:(GK xa d n2 ns).Nodup)(hpre:∀p∈pre,p.1∉FB (C3 ns))(hoff:∀p∈rest,p.1∉GK xa d n2 ns)(he:e∈ns) :
  ∀p∈pre++(C3 (upX ns e.nm fun e=>{ e with np:=k,tp:=t })++rest),p∈CD e.a (GV e.ad e.nm e.tn k t e.sl) (pre++(C3 ns++rest)):=by
 refine Dj (Ly hnd he) ?_;intro h1 h2 h3;refine Jb hnn hnd hpre hoff he rfl ?_ ⟨_,.head _⟩;intro p hp;refine AQ hp ?_ fun hp=>?_
 ·exact .inl rfl
 refine AQ hp ?_ fun hp=>?_
 ·exact .inr ⟨h1,mH1⟩
 refine AQ hp ?_ fun hp=>?_
 ·exact .inr ⟨h2,mH2⟩
 cases hp
theorem QM {ns:List NI}{e:NI}{pre rest:List (Addr×Obj)}{xa d n2:Addr}{y:Int}{t:Tok}(hnn:(ns.map (·.nm)).Nodup)(hnd:(GK xa d n2 ns).Nodup)(hpre:∀p∈pre,p.1∉FB (C3 ns))(hoff:∀p∈rest,p.1∉GK xa d n2 ns)(he:e∈ns) :
  ∀p∈pre++(C3 (upX ns e.nm fun e=>{ e with sc:=e.sc++[(y,t)],ep:=e.ep+1 })++rest),p∈CD e.sl (A1 ((An e.sc).push (.int y t)) (e.ep+1)) (pre++(C3 ns++rest)):=by
 refine Dj (Ly hnd he) ?_;intro h1 h2 h3;refine Jb hnn hnd hpre hoff he rfl ?_ ⟨_,mH2⟩;intro p hp;refine AQ hp ?_ fun hp=>?_
 ·exact .inr ⟨h2.symm,.head _⟩
 refine AQ hp ?_ fun hp=>?_
 ·exact .inr ⟨h3,mH1⟩
 refine AQ hp ?_ fun hp=>?_
 ·refine .inl ?_;show (e.sl,A1 (An (e.sc++[(y,t)])) (e.ep+1))=_;unfold An;simp
 cases hp
theorem HE {xa d n2:Addr}{ns:List NI}(hnd:(GK xa d n2 ns).Nodup):xa∉FB (C3 ns)∧d∉FB (C3 ns)∧n2∉FB (C3 ns):=by
 unfold GK at hnd;have q1:=nc1 hnd;have q2:=nc1 q1.2;have q3:=nc1 q2.2;exact ⟨fun hm=>q1.1 (mT2 hm),fun hm=>q2.1 (.tail _ hm),q3.1⟩
theorem En {xa d n2:Addr}{ns:List NI}{z:Addr}(hz:z∈FB (C3 ns)):z∈GK xa d n2 ns:=mT3 hz
section
variable {prog:AY}{w:World}{A:AO}{E:Value→A4→Prop}{s:A4}{env:Env}{h₀:Heap}{Q:Flow→A4→Prop}{body:List Stmt}
theorem Jv {σ:Type}{x:Str}{l:Addr}{items:Array Value}{m₀:Str→Option Value}(Led:σ→List (Addr×Obj))(ps:σ→List (Str×Value))(C7:List Str)(P:Nat→σ→Prop)(c₀:σ)(hh:A.handled=none)(hl:s.heap.IsTuple l items)(hL:l≠env.locals)
  (F:Fr h₀ env.locals s.heap m₀) (N:News h₀ env.locals s.heap (Led c₀)) (hP:P 0 c₀) (hk:∀p∈ps c₀,m₀ p.1=some p.2)
  (turn:∀(i:Nat) (c:σ) v (u:Str→Option Value) h tk own wr,items[i]? = some v→P i c→(∀p∈Led c,p.1∉wr)→(∀b∈wr,∃o,(b,o)∈own)→(∀p∈own,p.1∈wr∨p.1=l)→
   Fr h₀ env.locals h (fun y=>if y=x then some v else kstB (fun z=>if C7.contains z then u z else m₀ z) (ps c) y)→News h₀ env.locals h (Led c++own)→
   wpAny (model prog w) A (execs body env) (TurnPost h₀ env.locals wr own (SJ Led ps [x] C7 m₀ P (i+1)) { s with heap:=h,toks:=tk } Q) E { s with heap:=h,toks:=tk })
  (done:∀(c:σ) (u:Str→Option Value) h tk,P items.size c→Fr h₀ env.locals h (fun y=>if y=x then u y else kstB (fun z=>if C7.contains z then u z else m₀ z) (ps c) y)→News h₀ env.locals h (Led c)→Q .next { s with heap:=h,toks:=tk }) :
  wpAny (model prog w) A (CR (.ref l)) (fun it s₂=>LoopAtV prog w A h₀ env x body Q E it s₂) E s:=by
 refine Aq (id hl) ?_;intro ol hol hol2;have hlt:l<s.heap.objs.size:=AZ hol;have hLs:env.locals<s.heap.objs.size:=F.ns.lt;refine wpAny_pyIter_tuple hl ?_;have hW:=Walks.tuple (prog:=prog) (w:=w) (A:=A) hh s.heap.objs.size l (A7 hlt) items;refine SY Led ps C7 P c₀ hW ?_ ?_ ?_ ?_ ?_ (F.push _) (fun p hp=>⟨AE _ (N p hp).1,(N p hp).2⟩) hP hk ?_ done
 ·rintro i h ⟨⟨o,ho,_⟩,_⟩ b hb;rw [ms1 hb];exact ⟨o,ho⟩
 ·intro hm;rcases mc1 hm with e | hm
  ·exact A7 hLs e
  exact hL (ms1 hm).symm
 ·intro b hb;rw [ms1 hb];exact GZ F
 ·intro p hp hb;exact A7 (AZ (N p hp).1) (ms1 hb)
 ·exact ⟨⟨_,Aa _ rfl,rfl,rfl⟩,hl.at fun o e=>AE _ e⟩
 intro i c v u h tk own hi hv hPc hn hw hf F₁ N₁;exact turn i c v u h tk own _ hv hPc hn hw (fun p hp=>by have:=hf p hp;simp at this;simpa using this) F₁ N₁
end
section
open PySem.Builtin
noncomputable abbrev Ib (id:String)(self:Value):Obj:=⟨.type "method-wrapper",none,.fields #[.builtin id,self],#[]⟩
noncomputable abbrev E8 (l:Addr)(k:Int):Obj:=⟨.type "list_iterator",none,.fields #[.ref l,.int k 0],#[]⟩
section
open PySem.W.X
theorem Q3:A0 "__next__" = ⟨⟨[95,95,110,101,120,116,95,95]⟩⟩:=Cu ['_','_','n','e','x','t','_','_']
theorem Ub (w:World)(A:AO)(s:A4)(it l:Addr)(k:Int)(t:Tok)(Q E:Value→A4→Prop)
  (hb:s.heap.get? it=some ⟨.type "list_iterator",none,.fields #[.ref l,.int k 0],#[]⟩)
  (hret:∀q h',Mem s.heap h' [] [(q,⟨.type "method-wrapper",none,.fields #[.builtin "list_iterator.__next__",.ref it],#[]⟩)]→Q (.ref q) { s with heap:=h' }) :
  wpAny (model (rw_nq0317_02.prog) w) A (call (.builtin "object.__getattribute__") [.ref it,.str (A0 "__next__") t]) Q E s:=by
 rw [Q3];refine BN (JY ?_)
 with_reducible refine Fu (a:=it) (by kernel_rfl) hb ?_
 with_reducible refine Px (c2:=.builtin "object.__getattribute__" ⟨[.ref it,.str ⟨⟨[95,95,110,101,120,116,95,95]⟩⟩ t],[]⟩) (by kernel_rfl) (by kernel_rfl) (JY ?_)
 with_reducible refine Fu (a:=it) (by kernel_rfl) hb ?_
 with_reducible refine Fu (a:=it) (by kernel_rfl) hb ?_
 with_reducible refine Fu (a:=it) (by kernel_rfl) hb ?_
 with_reducible refine VG ?_
 with_reducible refine VC (c2:=.call (.builtin "wrapper_descriptor.__get__") ⟨[.builtin "list_iterator.__next__",.ref it,.type "list_iterator"],[]⟩) (by kernel_rfl) (JY ?_)
 with_reducible refine Px (c2:=.builtin "wrapper_descriptor.__get__" ⟨[.builtin "list_iterator.__next__",.ref it,.type "list_iterator"],[]⟩) (by kernel_rfl) (by kernel_rfl) (JY ?_)
 with_reducible refine Fu (a:=it) (by kernel_rfl) hb ?_
 with_reducible refine Tw (o:=⟨.type "method-wrapper",none,.fields #[.builtin "list_iterator.__next__",.ref it],#[]⟩) (by kernel_rfl) (Mem.start _) rfl fun a h' D=>?_
 with_reducible refine Pw (v:=.ref a) (by kernel_rfl) ?_
 with_reducible refine Pw (v:=.ref a) (by kernel_rfl) ?_
 exact hret a h' D
end
theorem Uq:Df (.type "list_iterator") "__getattribute__" = pure (some (.builtin "object.__getattribute__")):=by rw [CH,Bc];kernel_rfl
theorem Q6:HH (.builtin "object.__getattribute__")=pure (.type "wrapper_descriptor"):=by show builtinType _=_;kernel_rfl
theorem Js (a:Addr):Du "list_iterator.__next__" ⟨[.ref a],[]⟩=pure ():=by kernel_rfl
theorem Ot {prog:AY}{w:World}{A:AO}{R:DN→A4→Prop}{s:A4}{q:Addr}{id:String}{self:Value}{pos:List Value}{b:Builtin}(ho:s.heap.get? q=some (Ib id self))
  (hc:Du id ⟨self::pos,[]⟩=pure ()) (hp:plainId id=true) (hb:Gp table id=some b)
  (h:wpAny (model prog w) A.in1 (b ⟨self::pos,[]⟩) (fun fin s'=>match fin with | .done f=>R (.ok f) s' | .again c'=>c'.quiet=true∧Bt (model prog w) A c' R s') (fun e s'=>R (.error e) s') s):Bt (model prog w) A (.call (.ref q) ⟨pos,[]⟩) R s:=by
 refine Co ?_;show wpAny _ _ (callAny (.ref q) _) _ _ _;refine nd_load ho ?_;show wpAny _ _ (Du id ⟨self::pos,[]⟩ >>= _) _ _ _;rw [hc];refine A2 (AC ?_);refine AC ⟨Ct hp _,?_⟩;refine Co ?_;rw [BY hp];show wpAny _ _ (match Gp table id with | some b=>b ⟨self::pos,[]⟩ | none=>_) _ _ _;rw [hb];exact h
section
variable {prog:AY}{w:World}{A:AO}{E:Value→A4→Prop}{s:A4}{h₀:Heap}{L:Addr}{m:Str→Option Value}{news:List (Addr×Obj)}{q it l:Addr}{i:Nat}{items:Array Value}{ep:Nat}{Q:Value→A4→Prop}
noncomputable def rnF:String→Builtin:=(fun (f:String→Builtin)(_:f "list_iterator.__next__" = Builtin.«list_iterator.__next__»)=>f) _ rfl
theorem UF {α:Type}{P:α→A4→Prop}(hh:A.handled=none)(h:∀h' e,O6 s.heap h' e "StopIteration" →E (.ref e) { s with heap:=h' }):wpAny (model prog w) A (newExc (.type "StopIteration") [] >>= fun x=>raiseNew x) P E s:=by
 refine A2 ?_;simp only [newExc,newTuple];refine A2 (Db ?_ (by size_fits));refine A2 (m:=firstArgMember _ _) (FW (a:=AG) (by first | rfl | (simp only [firstArgMember];rfl)) ?_);refine Db ?_ (by size_fits);refine A2 (wpAny_handled ?_);rw [hh];refine A2 (AC (wpAny_throw ?_));exact h _ _ ⟨fun b o e=>AE _ (AE _ e),Cz (by rw [Bq];exact Dh _),⟨_,_,Aa _ rfl,rfl,rfl⟩⟩
theorem UP {id:String}{T:Value}{oq:Obj}{n:Nat}{P:PySem.Fin→A4→Prop}(ho:s.heap.get? it=some ⟨T,none,.fields #[.ref q,.int i 0],#[]⟩)(hol:s.heap.get? q=some oq)(hd:oq.data = .seq items n)
  (h:wpAny (model prog w) A (match items[i]? with | some x=>KW (.ref it) 1 (Dr ((i:Int)+1)) >>= fun _=>ret x | none=>rule s!"{id}.end" >>= fun _=>KW (.ref it) 0 .none >>= fun _=>newExc (.type "StopIteration") [] >>= fun x=>raiseNew x) P E s):wpAny (model prog w) A (rnF id ⟨[.ref it],[]⟩) P E s:=by
 show wpAny _ _ (field (.ref it) 0 >>= _) _ _ s;refine A2 (J3 ho rfl (x:=.ref q) rfl ?_);show wpAny _ _ (if (A3 q==AG)=true then _ else _) _ _ s;rw [if_neg (show ¬((A3 q==AG)=true) from Bn)];show wpAny _ _ (field (.ref it) 1 >>= _) _ _ s;refine A2 (J3 ho rfl (x:=.int i 0) rfl ?_);show wpAny _ _ (seqItems? (.ref q) >>= _) _ _ s;exact A2 (Eb hol hd h)
theorem Lo {id:String}{T x:Value}{oq:Obj}{n:Nat}{P:PySem.Fin→A4→Prop}(ho:s.heap.get? it=some ⟨T,none,.fields #[.ref q,.int i 0],#[]⟩)(hol:s.heap.get? q=some oq)(hd:oq.data = .seq items n)(hx:items[i]? = some x)
  (h:∀h',EB it s.heap h'→h'.get? it=some ⟨T,none,.fields #[.ref q,.int ((i+1:Nat):Int) 0],#[]⟩→P (.done (.ret x)) { s with heap:=h' }):wpAny (model prog w) A (rnF id ⟨[.ref it],[]⟩) P E s:=by
 refine UP ho hol hd ?_;rw [hx];refine A2 (Cg ho rfl (Ap 2) (AC (h _ (BL ..) (Aw _ ho rfl))))
theorem Ob {id:String}{T:Value}{oq:Obj}{n:Nat}{P:PySem.Fin→A4→Prop}(hh:A.handled=none)(ho:s.heap.get? it=some ⟨T,none,.fields #[.ref q,.int i 0],#[]⟩)(hol:s.heap.get? q=some oq)(hd:oq.data = .seq items n)(hx:items[i]? = none)
  (h:∀h1 h' e o',EB it s.heap h1→h1.get? it=some o'→O6 h1 h' e "StopIteration" →E (.ref e) { s with heap:=h' }):wpAny (model prog w) A (rnF id ⟨[.ref it],[]⟩) P E s:=by
 refine UP ho hol hd ?_;rw [hx];refine A2 (GW (A2 (Cg ho rfl (Dh 1) ?_)));exact UF hh fun h' e hx=>h _ h' e _ (BL ..) (Aw _ ho rfl) hx
theorem Op {x:Value}(F:Fr h₀ L s.heap m)(N:News h₀ L s.heap news)(hq:(q,Ib "list_iterator.__next__" (.ref it))∈news)(hi:(it,E8 l (i:Int))∈news)(hl:(l,A1 items ep)∈news)(hx:items[i]? = some x)
  (h:∀h',Fr h₀ L h' m→News h₀ L h' (CD it (E8 l ((i+1:Nat):Int)) news)→Q x { s with heap:=h' }):wpAny (model prog w) A (call (.ref q) []) Q E s:=by
 refine BN (Ot (R:=wants Q E) (N _ hq).1 (Js it) (by decide +kernel) PySem.entry_listiter_next ?_);exact Lo (id:= "list_iterator.__next__") (N _ hi).1 (N _ hl).1 rfl hx fun h' hs hg=>h _ (F.change hs (N _ hi).2.1 (N _ hi).2.2) (C6 N hi hs hg)
theorem QU (hh:A.handled=none)(F:Fr h₀ L s.heap m)(N:News h₀ L s.heap news)(hq:(q,Ib "list_iterator.__next__" (.ref it))∈news)(hi:(it,E8 l (i:Int))∈news)(hl:(l,A1 items ep)∈news)(hx:items[i]? = none)
  (h:∀h1 h' e o',Fr h₀ L h1 m→News h₀ L h1 (CD it o' news)→O6 h1 h' e "StopIteration" →E (.ref e) { s with heap:=h' }):wpAny (model prog w) A (call (.ref q) []) Q E s:=by
 refine BN (Ot (R:=wants Q E) (N _ hq).1 (Js it) (by decide +kernel) PySem.entry_listiter_next ?_);exact Ob (id:= "list_iterator.__next__") hh (N _ hi).1 (N _ hl).1 rfl hx fun h1 h' e o' hs hg hx2=>h h1 h' e o' (F.change hs (N _ hi).2.1 (N _ hi).2.2) (C6 N hi hs hg) hx2
end
end
section
open PySem.Spec
section
variable {prog:AY}{w:World}{A₀:AO}{E:Value→A4→Prop}{s':A4}{base g g₀ h:Heap}{outer:List Env}{L a e:Addr}{m:Str→Option Value}{name:Str}{scope:Scope}{cd:Value}
 {b₀:Stmt} {suite:List Stmt} {pos np:Pos} {rest:List ExceptHandler} {Q:Flow→A4→Prop} {news:List (Addr×Obj)} {KF:Frag}
 {p:AY} {loose:List Str} {mean:CG→Option Value} {mg mb:Str→Option Value} {x:Str} {X T':String}
theorem Nw (hx0:O6 h s'.heap e X)(F:Fr g L h m)(N:News g L h news)(K:Below A₀ base outer g)(XB:KF.In base)(TB:Top p loose mean mg mb base)
  (D:FV (outer.filterMap (·.frame)) g) (T0:FY (outer.filterMap (·.frame)) g₀ g)
  (ex:nsIn KF mainGlobals x=some none) (hv:bootBuiltins x=some (.type T')) (hn':x≠ "__name__")
  (hexc:Ds (.type T') (.type "BaseException")=pure true) (hnt:Ds (.type ((Manifest.find? T').elim "type" fun y=>y.metatype)) (.type "tuple")=pure false) (hsub:Ds (.type X) (.type T')=pure true)
  (k:∀h' g',FY (outer.filterMap (·.frame)) g₀ g'→Fr g' L h' m→News g' L h' news→Below A₀ base outer g'→KF.In g'→Top p loose mean mg mb g'→FV (outer.filterMap (·.frame)) g'→
   wpAny (model prog w) ((A₀.deeper (envOf name scope L a cd)).mark (some (.ref e))) (execs (b₀::suite) (envOf name scope L a cd)) Q E { s' with heap:=h' })
  (hk:scope.kind = .function:=by rfl) (hx:(envOf name scope L a cd).kindOf x=some .globalImplicit:=by rfl) (hd:(x==("__debug__" : Str))=false:=by decide)
  (hE:PassesOwnAt (model prog w) ((A₀.deeper (envOf name scope L a cd)).mark (some (.ref e))) (A₀.deeper (envOf name scope L a cd)) (envOf name scope L a cd) E:=by passes_own) :
  wpAny (model prog w) (A₀.deeper (envOf name scope L a cd)) (noteFrame (.ref e) (envOf name scope L a cd))
   (fun _ s₂=>wpAny (model prog w) (A₀.deeper (envOf name scope L a cd)) (setFlight (.ref e) none) (fun _ s₃=>
    wpAny (model prog w) (A₀.deeper (envOf name scope L a cd)) (handleBy (.ref e) (envOf name scope L a cd) (.ExceptHandler (some (.Name x np)) none (b₀::suite) pos::rest)) Q E s₃) E s₂) E s':=by
 have K':=K.push (name:=name) (a:=a) (cd:=cd) F hk;have hin:∀env∈(envOf name scope L a cd::outer),∀b,env.frame=some b→b∈(envOf name scope L a cd::outer).filterMap (·.frame):=fun env he b hb=>List.mem_filterMap.mpr ⟨env,he,hb⟩;refine CV (hideAll h ((envOf name scope L a cd::outer).filterMap (·.frame))) ?_;intro B hBdef;have st:base.StaysIn B:=fun b o q=>by
  rw [hBdef];exact hideAll_get _ (K'.stays b o q) fun hm=>by rw [(K'.frames.mem hm).1] at q;cases q
 have hBG:∀b o,h.get? b=some o→b∉(envOf name scope L a cd::outer).filterMap (·.frame)→B.get? b=some o:=fun b o q nm=>by rw [hBdef];exact hideAll_get _ q nm
 have hl:∀q∈news,B.get? q.1=some q.2:=fun q hq=>by
  rw [hBdef];refine hideAll_get _ (N q hq).1 fun hm=>?_;refine Aq (List.mem_filterMap.mp hm) ?_;intro env he hf;rcases mc1 he with rfl | he
  ·exact (N q hq).2.1 (BM hf).symm
  refine Aq ((K.frames.mem (List.mem_filterMap.mpr ⟨env,he,hf⟩)).2) ?_;intro o ho _;rw [(N q hq).2.2] at ho;cases ho
 refine PO (hx0.there) ?_;intro ob tp he hcls hdd;have hen:B.get? e=none:=by
  cases q:B.get? e with
  | none=>rfl
  | some o=>rw [hBdef] at q;have:=of_hideAll _ q;rw [hx0.new] at this;cases this
 have hFF:s'.heap.FunFrames B (envOf name scope L a cd::outer):=by rw [hBdef];exact (funFrames_hide K'.frames hin).of_keeps fun b o hb _=>⟨o,hx0.keeps b o hb,rfl⟩
 have hkb:B.StaysIn s'.heap:=fun b o hb=>by rw [hBdef] at hb;exact hx0.keeps b o (of_hideAll _ hb)
 have hsm:h.UpToSlots s'.heap:=Heap.UpToSlots.of_keeps hx0.keeps;have hL:B.get? L=none:=by
  refine PO (hFF.2.1) ?_;intro L' _ hf hn' _;obtain rfl:L=L':=BM hf;exact hn'
 unfold noteFrame;simp only [show (envOf name scope L a cd).frame=some L from rfl];refine A2 (J3 he hdd (x:=.none) rfl ?_);rw [if_neg (by decide)];refine wpAny_entryW (AO.frames_deeper K.stack) hFF rfl he hkb hen hdd (by simp) (a0:=tp) rfl fun h₄ hN=>?_;refine Fi (hN) ?_;(try clear hN);intro k1 k2 k3 k4;rw [hcls] at k3;have hheld₄:Heap.HeldW B (envOf name scope L a cd::outer) e (.type X) tp L h₄:=⟨k1,hen,k2,k3⟩;refine wpAny_landsW hheld₄ fun h₅ hheld hsm₅'=>?_;have hsm₅:s'.heap.UpToSlots h₅:=Heap.UpToSlots.trans k4 hsm₅';refine Dn (kts_ground K F hBG hheld.1 (hsm.trans hsm₅)) ?_;intro g₅ T₅ F₅ K₅;have X₅:KF.In g₅:=XB.keeps K₅.stays;have P₅:TopRead p loose mg mb g₅:=topRead_of (TB.keeps K₅.stays);refine Aq (hheld.there) ?_;intro ob5 hob hobc;refine wpAny_handleBy_builtin (X:=X) (T:=T') (b:=true) hexc hnt hsub (name_B F₅ X₅ P₅ ex hv hn' ⟨rfl,⟨ob5,hob,hobc⟩,?_⟩ hk hx hd);refine lands_againW hheld fun h₆ hfl₆ hsm₆=>?_;refine Dn (kts_ground K F hBG hfl₆.1 ((hsm.trans hsm₅).trans hsm₆)) ?_;intro g₆ T₆ F₆ K₆;have Nl:News g₆ L h₆ news:=fun q hq=>⟨hfl₆.1 _ _ (hl q hq),(fun z=>by have:=hl q hq;rw [z,hL] at this;cases this),T₆.none_ _ (N q hq).2.2⟩;have X₆:KF.In g₆:=XB.keeps K₆.stays;have P₆:Top p loose mean mg mb g₆:=TB.keeps K₆.stays;have D₆:FV (outer.filterMap (·.frame)) g₆:=D.turn T₆;exact wpAny_passesOwnAt hE (k h₆ g₆ (T0.trans T₆) F₆ Nl K₆ X₆ P₆ D₆)
end
end
def WEnd (J:Nat→A4→Prop)(n:Nat)(Q:Flow→A4→Prop)(f:Flow)(s₃:A4):Prop:=
 match f with
 | .ret v=>Q (.ret v) s₃
 | .brk=>Q .next s₃
 | _=>∃n',n'<n∧J n' s₃
def FEnd (J:Nat→A4→Prop)(i:Nat)(Q:Flow→A4→Prop)(f:Flow)(s₃:A4):Prop:=
 match f with
 | .ret v=>Q (.ret v) s₃
 | .brk=>Q .next s₃
 | _=>J (i+1) s₃
section
variable {prog:AY}{w:World}{A:AO}{E:Value→A4→Prop}{s:A4}{env:Env}{Q:Flow→A4→Prop}{body orelse:List Stmt}
theorem Ju {test:AW}{pos:Pos}(J:Nat→A4→Prop)(n₀:Nat)(hJ:J n₀ s)
  (turn:∀n s₁,J n s₁→wpAny (model prog w) A (isTrue test env (eval test env)) (fun b s₂=>if b=true then wpAny (model prog w) A (execs body env) (WEnd J n Q) E s₂ else wpAny (model prog w) A (execs orelse env) Q E s₂) E s₁)
  (hE:DR (model prog w) A env E):wpAny (model prog w) A (exec (.While test body orelse pos) env) Q E s:=by
 refine wpAny_While (codeAny_whileLoop J ?_ n₀ hJ);intro n s₁ h1;refine Ac (turn n s₁ h1) (fun b s₂ h₂=>?_) hE
 cases b with
 | false=>
  simp only [MQ,if_false] at h₂ ⊢;exact Ac h₂ (fun f s₃ h₃=>h₃) hE
 | true=>
  simp only [if_true] at h₂ ⊢;refine Ac h₂ (fun f s₃ h₃=>?_) hE
  cases f with
  | ret v=>exact h₃
  | brk=>exact h₃
  | next=>exact h₃
  | cont=>exact h₃
structure KU (prog:AY)(w:World)(A:AO)(env:Env)(t:AW)(body:List Stmt)(Q:Flow→A4→Prop)(E:Value→A4→Prop)(it:Value)(s₂:A4):Prop where
 out:Bt (model prog w) A (.forLoop t it body [] env) (fun r s'=>match r with | .ok f=>Q f s' | .error e=>cameBackBy (model prog w) A env E e s') s₂
theorem ED {t iter:AW}{pos:Pos}
  (h:wpAny (model prog w) A (eval iter env) (fun xv s₁=>wpAny (model prog w) A (CR xv) (fun it s₂=>KU prog w A env t body Q E it s₂) E s₁) E s)
  (hs:∀x,Ch iter env x=pure x):wpAny (model prog w) A (exec (.For t iter body [] pos) env) Q E s:=
 wpAny_For (Ac h (fun xv s₁ h₁=>Ac h₁ (fun it s₂ h₂=>h₂.out) fun _ _ e=>e) fun _ _ e=>e) hs
theorem TL {x:Str}{px:Pos}{I:Addr}{fp wr:List Addr}{n:Nat}{Pv:Nat→Value→Prop}{St:Nat→Heap→Prop}(W:Walks prog w A I fp wr n Pv St)
  (hE:DR (model prog w) A env E) (J:Nat→A4→Prop) (hst:∀i s,J i s→St i s.heap) (h0:J 0 s)
  (turn:∀i v s₁ h₁ tk,i<n→Pv i v→J i s₁→St (i+1) h₁→(∀b o,b∉wr→s₁.heap.get? b=some o→h₁.get? b=some o)→
   wpAny (model prog w) A (DM (.Name x px) env v) (fun _ s₂=>wpAny (model prog w) A (execs body env) (FEnd J i Q) E s₂) E { s₁ with heap:=h₁,toks:=tk })
  (done:∀s₁ h₁ tk,J n s₁→(∀b o,b∉wr→s₁.heap.get? b=some o→h₁.get? b=some o)→Q .next { s₁ with heap:=h₁,toks:=tk }) :
  KU prog w A env (.Name x px) body Q E (.ref I) s:=by
 refine ⟨?_⟩;refine codeAny_forLoop (fun k s'=>∃i,i≤n∧k=n-i∧J i s') ?_ n ⟨0,B0 _,rfl,h0⟩;rintro k s' ⟨i,hi,rfl,hJ⟩
 by_cases hlt:i<n
 ·refine W.item i _ _ _ hlt (hst _ _ hJ) fun v h₁ tk hPv hSt hk=>?_;refine Ac (turn i v s' h₁ tk hlt hPv hJ hSt hk) (fun _ s₂ h₂=>Ac h₂ (fun f s₃ h₃=>?_) hE) hE
  cases f with
  | ret v=>exact h₃
  | brk=>exact h₃
  | next=>exact ⟨n-(i+1),Fx _ _ hlt,i+1,hlt,rfl,h₃⟩
  | cont=>exact ⟨n-(i+1),Fx _ _ hlt,i+1,hlt,rfl,h₃⟩
 have hin:i=n:=by lia
 subst hin;refine W.done _ _ _ (hst _ _ hJ) fun h₁ tk hk=>Le ?_;exact done s' h₁ tk hJ hk
end
theorem Nz {α:Type}{R:α→α→Prop}{x:α}(h:Acc R x):¬Relation.TransGen R x x:=by
 induction h with
 | intro x _ ih=>
  intro ht
  cases ht with
  | single h=>exact ih x h (.single h)
  | tail h1 h2=>exact ih _ h2 (Relation.TransGen.trans (.single h2) h1)
noncomputable def GT (ns:List NI)(a:Int):List Int:=match ns.find? fun e=>e.nm=a with | some e=>e.sc.map (·.1) | none=>[]
def FU (ns:List NI)(b a:Int):Prop:=b∈GT ns a
structure SE where
 nm:Int
 tk:Tok
 it:Addr
 bm:Addr
 p:Nat
 sl:Addr
noncomputable def LQ (ns:List NI):List SE→Int→Prop
 | [],_=>True
 | t::r,nx=>1≤t.p∧(GT ns t.nm)[t.p-1]? = some nx∧(∀q,q<t.p-1→∀b,(GT ns t.nm)[q]? = some b→Acc (FU ns) b)∧LQ ns r t.nm
noncomputable def Th (ns:List NI):List SE→Prop
 | []=>True
 | t::r=>(∀q,q<t.p→∀b,(GT ns t.nm)[q]? = some b→Acc (FU ns) b)∧LQ ns r t.nm
structure Hv (ns:List NI)(S:List Int)(st:List SE):Prop where
 fin:∀v∈S,v∈st.map (·.nm)∨Acc (FU ns) v
 inS:∀t∈st,t.nm∈S
 nodup:(st.map (·.nm)).Nodup
 named:∀t∈st,t.nm∈ns.map (·.nm)
theorem MG {ns:List NI}:∀{st:List SE}{nx:Int},LQ ns st nx→∀t∈st,Relation.TransGen (FU ns) nx t.nm:=by
 intro xX
 induction xX with
 | nil=>
  intro _ _ _ h;exact nomatch h
 | cons t r iH=>
  rintro nx ⟨h1,h2,_,h4⟩ x hx;have hs:FU ns nx t.nm:=AK h2;rcases mc1 hx with rfl | hx
  ·exact .single hs
  exact Relation.TransGen.trans (.single hs) (iH h4 x hx)
theorem QA {ns:List NI}{st:List SE}{nx:Int}(h:LQ ns st nx)(hm:nx∈st.map (·.nm)):¬Acc (FU ns) nx:=by
 refine Aq (mm1 hm) ?_;intro t ht e;intro ha;have:=MG h t ht;rw [e] at this;exact Nz ha this
theorem OK {ns:List NI}{st:List SE}{nx:Int}(h:LQ ns st nx)(ha:Acc (FU ns) nx):Th ns st:=by
 cases st with
 | nil=>trivial
 | cons t r=>
  refine Fi (h) ?_;(try clear h);intro h1 h2 h3 h4;refine ⟨fun q hq b hb=>?_,h4⟩
  by_cases e:q=t.p-1
  ·subst e;rw [h2] at hb;injection hb with hb;exact hb▸ha
  exact h3 q (MO (Nat.le_sub_one_of_lt hq) e) b hb
theorem SN {ns:List NI}{st:List SE}{S:List Int}{nx:Int}{tk:Tok}{it bm sl:Addr}(h:LQ ns st nx)(hs:Hv ns S st)(hn:nx∉S)(hm:nx∈ns.map (·.nm)):Th ns (⟨nx,tk,it,bm,0,sl⟩::st)∧Hv ns (nx::S) (⟨nx,tk,it,bm,0,sl⟩::st):=by
 refine ⟨⟨fun q hq=>absurd hq (Ed _),h⟩,?_,?_,?_,?_⟩
 ·intro v hv;rcases mc1 hv with rfl | hv
  ·exact .inl (.head _)
  exact (hs.fin v hv).imp (fun h=>.tail _ h) id
 ·intro t ht;rcases mc1 ht with rfl | ht
  ·exact .head _
  exact .tail _ (hs.inS t ht)
 ·refine Ce.mpr ⟨fun hm=>?_,hs.nodup⟩;refine Aq (mm1 hm) ?_;intro t ht e;have e2:t.nm=nx:=e;exact hn (e2▸hs.inS t ht)
 intro t ht;rcases mc1 ht with rfl | ht
 ·exact hm
 exact hs.named t ht
theorem SL {ns:List NI}{t:SE}{r:List SE}{b:Int}(h:Th ns (t::r))(hb:(GT ns t.nm)[t.p]? = some b):LQ ns ({ t with p:=t.p+1 }::r) b:=by
 refine ⟨Fl (B0 _),hb,fun q hq=>h.1 q (by simpa using hq),h.2⟩
theorem SK {ns:List NI}{S:List Int}{t:SE}{r:List SE}(h:Hv ns S (t::r)):Hv ns S ({ t with p:=t.p+1 }::r):=
 ⟨h.fin,fun x hx=>by
  rcases mc1 hx with rfl | hx
  ·exact h.inS t (.head _)
  ·exact h.inS x (.tail _ hx),h.nodup,fun x hx=>by
  rcases mc1 hx with rfl | hx
  ·exact h.named t (.head _)
  exact h.named x (.tail _ hx)⟩
theorem UD {ns:List NI}{t:SE}{r:List SE}(h:Th ns (t::r))(hb:(GT ns t.nm)[t.p]? = none):Acc (FU ns) t.nm:=by
 refine ⟨_,fun b hbm=>?_⟩;refine Bp (List.getElem?_of_mem hbm) ?_;intro q hq;refine h.1 q ?_ b hq;rcases ER q t.p with hlt | hge
 ·exact hlt
 rw [List.getElem?_eq_none_iff] at hb;have:q<(GT ns t.nm).length:=(List.getElem?_eq_some_iff.mp hq).1;lia
theorem UC {ns:List NI}{S:List Int}{t:SE}{r:List SE}(h:Th ns (t::r))(hs:Hv ns S (t::r))(hb:(GT ns t.nm)[t.p]? = none):Th ns r∧Hv ns S r:=by
 have ha:=UD h hb;refine ⟨OK h.2 ha,?_,fun x hx=>hs.inS x (.tail _ hx),(nc1 hs.nodup).2,fun x hx=>hs.named x (.tail _ hx)⟩;intro v hv;rcases hs.fin v hv with hv | hv
 ·rcases mc1 hv with rfl | hv
  ·exact .inr ha
  exact .inl hv
 exact .inr hv
theorem UB {ns:List NI}{S:List Int}(hs:Hv ns S []):∀v∈S,Acc (FU ns) v:=fun v hv=>(hs.fin v hv).elim (fun h=>nomatch h) id
noncomputable def deg (ns:List NI)(a:Int):Nat:=(GT ns a).length
noncomputable def Fq (ns:List NI)(S:List Int):List Int→Nat
 | []=>0
 | a::l=>(if a∈S then 0 else deg ns a+1)+Fq ns S l
noncomputable def Np (ns:List NI):List SE→Nat
 | []=>0
 | t::r=>(deg ns t.nm-t.p)+Np ns r
noncomputable def HC (ns:List NI)(S:List Int)(st:List SE):Nat:=Fq ns S (ns.map (·.nm))+Np ns st
theorem IG {ns:List NI}{S:List Int}{a:Int}{l:List Int}:Fq ns S (a::l)=(if a∈S then 0 else deg ns a+1)+Fq ns S l:=rfl
theorem KN {ns:List NI}{t:SE}{r:List SE}:Np ns (t::r)=(deg ns t.nm-t.p)+Np ns r:=rfl
theorem Lj {ns:List NI}{S:List Int}{b:Int}{l:List Int}(h:b∉l):Fq ns (b::S) l=Fq ns S l:=by
 induction l with
 | nil=>rfl
 | cons c l iH=>
  rw [IG,IG,iH (fun hm=>h (.tail _ hm))];have hc:c≠b:=fun e=>h (e▸.head _)
  by_cases hs:c∈S
  ·rw [if_pos (.tail _ hs),if_pos hs]
  rw [if_neg (fun hm=>by rcases mc1 hm with hm | hm;exact hc hm;exact hs hm),if_neg hs]
theorem Lk {ns:List NI}{S:List Int}{a:Int}(hn:a∉S):∀{l:List Int},l.Nodup→a∈l→Fq ns (a::S) l+(deg ns a+1)=Fq ns S l:=by
 intro xX
 induction xX with
 | nil=>intro _ h;cases h
 | cons b l iH=>
  intro hl hm;rw [Ce] at hl;rw [IG,IG]
  by_cases e:b=a
  ·subst e;rw [if_pos (.head _),if_neg hn];have:Fq ns (b::S) l=Fq ns S l:=Lj hl.1;lia
  have hm':a∈l:=by
   rcases mc1 hm with h | h
   ·exact absurd h.symm e
   exact h
  have:=iH hl.2 hm'
  by_cases hb:b∈S
  ·rw [if_pos (.tail _ hb),if_pos hb];lia
  rw [if_neg (fun h=>by rcases mc1 h with h | h;exact e h;exact hb h),if_neg hb];lia
theorem Ss {ns:List NI}{S:List Int}{st:List SE}{nx:Int}{tk:Tok}{it bm sl:Addr}(hn:nx∉S)(hnn:(ns.map (·.nm)).Nodup)(hm:nx∈ns.map (·.nm)):HC ns (nx::S) (⟨nx,tk,it,bm,0,sl⟩::st)+1=HC ns S st:=by
 unfold HC;have:=Lk (ns:=ns) hn hnn hm;rw [KN];show Fq ns (nx::S) _+(deg ns nx-0+Np ns st)+1=_;lia
theorem Sr {ns:List NI}{S:List Int}{t:SE}{r:List SE}{b:Int}(hb:(GT ns t.nm)[t.p]? = some b):HC ns S ({ t with p:=t.p+1 }::r)+1=HC ns S (t::r):=by
 unfold HC;rw [KN,KN];have:t.p<deg ns t.nm:=(List.getElem?_eq_some_iff.mp hb).1;show Fq ns S _+(deg ns t.nm-(t.p+1)+Np ns r)+1=_;rw [show deg ns t.nm-t.p=deg ns t.nm-(t.p+1)+1 from by rw [Tq];exact (Nat.sub_add_cancel (Nat.sub_pos_of_lt this)).symm];generalize deg ns t.nm-(t.p+1)=d;lia
theorem Uf {ns:List NI}{S:List Int}{t:SE}{r:List SE}:HC ns S r≤HC ns S (t::r):=by
 unfold HC;rw [KN];lia
section
variable {prog:AY}{w:World}{A:AO}{E:Value→A4→Prop}{s:A4}{h₀:Heap}{L:Addr}{m:Str→Option Value}{news:List (Addr×Obj)}
variable {l sa d:Addr}{so o:Obj}{items:Array Value}{ep n:Nat}
variable {KK:Type} [DecidableEq KK] [BEq KK] [LawfulBEq KK] {knd:KeyKind prog w KK}{S:KK→Bool}{k:KK}{key:Value}{kvs:List (KK×Value)}
theorem Mm {Q:Value→A4→Prop}(N:News h₀ L s.heap news)(hm:(sa,so)∈news)(hso:so.SetObjOf knd S n)(hb:n<Dp)(hkey:knd.is k key=true)(hsc:key.scannable=true)
  (h:Q (.bool (S k)) { s with toks:=s.toks+1 }):wpAny (model prog w) A (compareOp .In key (.ref sa)) Q E s:=in_sl1 (EN N hm) hso hb hkey hsc h
theorem OX {pl:Sem Bool}{Q:Value×List Value→A4→Prop}(N:News h₀ L s.heap news)(hm:(sa,so)∈news)(hso:so.SetObjOf knd S n)(hb:n<Dp)
  (h:Q (.builtin "set.add",[.ref sa]) s):wpAny (model prog w) A (Gb (.ref sa) "add" pl) Q E s:=getMethod_add_sl1 (EN N hm) hso hb h
theorem Pk {Q:Value→A4→Prop}(F:Fr h₀ L s.heap m)(N:News h₀ L s.heap news)(hm:(sa,so)∈news)(hso:so.SetObjOf knd S n)(hb:n+1<Dp)(hkey:knd.is k key=true)(hsc:key.scannable=true)
  (h:∀h' so',Fr h₀ L h' m→News h₀ L h' (CD sa so' news)→so'.SetObjOf knd (fun k'=>S k'||decide (k'=k)) (if S k then n else n+1)→Q .none { s with heap:=h',toks:=s.toks+1 }) :
  wpAny (model prog w) A (call (.builtin "set.add") [.ref sa,key]) Q E s:=
 add_sl1 F (EN N hm) (fun p hp=>nomatch hp) (fun p hp=>by simpa using (mf1 hp).2) hso hb hkey hsc fun h' so' F' N' x=>h h' so' F' (GP N') x
theorem FZ {Q:Bool→A4→Prop}(N:News h₀ L s.heap news)(hm:(l,A1 items ep)∈news)(hfit:items.size≤100000)
  (h:Q (!items.isEmpty) { s with toks:=s.toks+1+1 }):wpAny (model prog w) A (truthy (.ref l)) Q E s:=
 wpAny_truthy_list (BI N hm) (by lia) h
theorem Ui {t:Tok}{x:Value}{Q:Value→A4→Prop}(N:News h₀ L s.heap news)(hm:(l,A1 items ep)∈news)(hne:0<items.size)(hx:items[items.size-1]? = some x)(h:Q x s) :
  wpAny (model prog w) A (getItem (.ref l) (.int (-1) t)) Q E s:=
 wpAny_getItem_list_neg (BI N hm) (by decide) (by lia) (by decide) (by rw [XY hne];exact hx) h
theorem JK (y:Value):∀p:List Value,kl_last (p++[y])=some (p,y):=by
 intro xX
 induction xX with
 | nil=>
  exact rfl
 | cons x p iH=>
  rw [BJ];unfold kl_last;rw [iH]
theorem Sj {p:List Value}{y:Value}{Q:Value→A4→Prop}(F:Fr h₀ L s.heap m)(N:News h₀ L s.heap news)(hm:(l,A1 (p++[y]).toArray ep)∈news)(hz:p.length≤1000)
  (h:∀h',Fr h₀ L h' m→News h₀ L h' (CD l (A1 p.toArray (ep+1)) news)→Q y { s with heap:=h' }):wpAny (model prog w) A (call (.builtin "list.pop") [.ref l]) Q E s:=
 kl_pop F (EN N hm) (by simpa using JK y p) (Upd.head (fun p hp=>by simpa using (mf1 hp).2)) (Bw (by simp;lia)) fun h' F' N'=>h h' F' (GP N')
theorem Vw {v:Value}{Q:Unit→A4→Prop}(F:Fr h₀ L s.heap m)(N:News h₀ L s.heap news)(hm:(d,o)∈news)(hd:o.IsDictOf knd kvs)(hkey:knd.is k key=true)(hv:BR kvs k=some v)(hsz:kvs.length≤FD)
  (h:∀h' o',Fr h₀ L h' m→News h₀ L h' (CD d o' news)→o'.IsDictOf knd (without kvs k)→Q () { s with heap:=h',toks:=s.toks+1 }):wpAny (model prog w) A (delItem (.ref d) key) Q E s:=by
 have hmm0:=N (d,o) hm;have hD:s.heap.DictOf knd d kvs:=Heap.dictOf_iff.mpr ⟨o,hmm0.1,hd⟩;unfold delItem
 try with_reducible refine Ak ?_
 refine A2 (wpAny_sequenceKey hD.typeIs (by decide) ?_);refine A2 (C0 (name:=A0 "__delitem__") hD.typeIs PySem.F.slot_dict_delitem
  (call_meetsIn PySem.F.slot_dict_delitem hD.typeIs PySem.F.entry_dict_delitem (PySem.F.args_dict_delitem_2 _ _) (meets_dict_delitem_pairs knd d hkey) ⟨kvs,hD,hsz,by rw [hv];rfl,fun h' hmm hs=>?_⟩))
 refine Aq (Heap.dictOf_iff.mp hmm) ?_;intro o' ho' hd';exact AC (h h' o' (F.change hs hmm0.2.1 hmm0.2.2) (C6 N hm hs ho') hd')
theorem NW {Q:Value→A4→Prop}(N:News h₀ L s.heap news)(hm:(l,A1 items ep)∈news)(hfit:items.size≤100000)(h:∀t tk,Q (.int items.size t) { s with toks:=tk }) :
  wpAny (model prog w) A (call (.builtin "len") [.ref l]) Q E s:=by
 refine call_len_list (BI N hm) (by lia) ?_;exact h _ _
end
theorem Ul {prog:AY}(w:World)(A:AO)(s:A4)(l:Addr)(items:Array Value)(Q E:Value→A4→Prop)
  (hl:s.heap.IsList l items) (hret:Q (.ref s.heap.objs.size) { s with heap:=s.heap.push (E8 l 0) }) :
  wpAny (model prog w) A (call (.builtin "iter") [.ref l]) Q E s:=by
 refine call_function_entry (by decide +kernel) (by decide +kernel) kdk_entry_iter (kdk_args_iter _) ?_;unfold Builtin.«iter»;refine A2 (m:=someArgs "iter" 1 2 _) (FW (a:=[A3 l]) (by first | rfl | kernel_rfl!) ?_);show wpAny _ _ (CR (.ref l) >>= _) _ _ _;refine A2 (DB hl ?_);exact AC ⟨_,rfl,hret⟩
section
variable {w:World}{A:AO}{E:Value→A4→Prop}{s:A4}{h₀:Heap}{L:Addr}{m:Str→Option Value}{news:List (Addr×Obj)}{l it:Addr}{items:Array Value}{ep:Nat}{k:Int}{Q:Value→A4→Prop}
theorem Um (F:Fr h₀ L s.heap m)(N:News h₀ L s.heap news)(X:(Mine.K w.params).In h₀)(hm:(l,A1 items ep)∈news)
  (h:∀q h' tk,Fr h₀ L h' m→News h₀ L h' ((q,E8 l 0)::news)→(∀p∈news,p.1≠q)→Q (.ref q) { s with heap:=h',toks:=tk }) :
  wpAny (model rw_nq0317_02.prog w) A (call (.builtin "iter") [.ref l]) Q E s:=
 Ul w A s l items Q E (BI N hm) (h _ _ _ (F.push _) (News.push F N _ rfl) fun p hp=>A7 (AZ (N p hp).1))
theorem NQ (F:Fr h₀ L s.heap m)(N:News h₀ L s.heap news)(X:(Mine.K w.params).In h₀)(hm:(it,E8 l k)∈news)
  (h:∀q h' tk,Fr h₀ L h' m→News h₀ L h' ((q,Ib "list_iterator.__next__" (.ref it))::news)→(∀p∈news,p.1≠q)→Q (.ref q) { s with heap:=h',toks:=tk }) :
  wpAny (model rw_nq0317_02.prog w) A (Dc (.ref it) (A0 "__next__") true) Q E s:=by
 refine Iq (T:= "list_iterator") ⟨_,(N _ hm).1,rfl⟩ Uq Q6 ?_;refine Ub w A _ it l k _ _ _ (N _ hm).1 fun q h' D=>?_;exact AC (h q h' _ (Jk D F) (GQ D F N) fun p hp e=>D.ne_old 0 q _ rfl p.1 p.2 (N p hp).1 e.symm)
end
inductive FcE (w:World)(p:AY)(lo:List Str)(mean:CG→Option Value)(mg mb:Str→Option Value)(A₁:AO)(base g₁:Heap)(outer₁:List Env)(L₁:Addr)(fm:Str→Option Value)(Led:List (Addr×Obj))(s₀ s₁:A4):Prop
 | mk (g h:Heap) (tk:Nat) (e:s₁ = { s₀ with heap:=h,toks:=tk }) (h1:FY (outer₁.filterMap (·.frame)) g₁ g) (h2:Fr g L₁ h fm) (h3:News g L₁ h Led) (h4:Below A₁ base outer₁ g) (h5:(Mine.K w.params).In g) (h6:Top p lo mean mg mb g) (h7:FV (outer₁.filterMap (·.frame)) g)
noncomputable def EO (st:List SE):List Value:=st.reverse.map fun t=>A3 t.bm
noncomputable def DD (st:List SE):List Value:=st.reverse.map fun t=>A5 t.nm t.tk
theorem EE (t:SE)(r:List SE):EO (t::r)=EO r++[.ref t.bm]:=by unfold EO;rw [List.reverse_cons,AI];rfl
theorem Eg (t:SE)(r:List SE):DD (t::r)=DD r++[.int t.nm t.tk]:=by unfold DD;rw [List.reverse_cons,AI];rfl
noncomputable def Hi (st:List SE):List (Addr×Obj):=st.flatMap fun t=>[(t.it,E8 t.sl (t.p:Int)),(t.bm,Ib "list_iterator.__next__" (.ref t.it))]
noncomputable def HS (st:List SE):List Addr:=st.flatMap fun t=>[t.it,t.bm]
theorem IQ (st:List SE):FB (Hi st)=HS st:=by
 unfold FB Hi HS;rw [Pr];rfl
noncomputable abbrev GD (nd se ik sk:Addr)(oN oS:Obj)(e1 e2:Nat)(st:List SE)(R:List (Addr×Obj)):List (Addr×Obj):=
 (nd,oN)::(se,oS)::(ik,A1 (EO st).toArray e2)::(sk,A1 (DD st).toArray e1)::(Hi st++R)
noncomputable def H9 (nd se ik sk:Addr)(st:List SE):List Addr:=nd::se::ik::sk::HS st
structure FcSep (nd se ik sk:Addr)(st:List SE)(R:List (Addr×Obj)):Prop where
 nodup:(H9 nd se ik sk st).Nodup
 off:∀p∈R,p.1∉H9 nd se ik sk st
section
variable {nd se ik sk:Addr}{oN oS o':Obj}{e1 e2:Nat}{st r:List SE}{t:SE}{R:List (Addr×Obj)}
theorem SW {p:Addr×Obj}(hp:p∈Hi st):p.1∈HS st:=by rw [←IQ];exact mm2 ⟨p,hp,rfl⟩
theorem FcSep.nds (h:FcSep nd se ik sk st R):(nd≠se∧nd≠ik∧nd≠sk)∧(se≠ik∧se≠sk)∧ik≠sk∧(∀p∈Hi st++R,p.1≠nd∧p.1≠se∧p.1≠ik∧p.1≠sk):=by
 have q:=h.nodup;unfold H9 at q;simp only [Ce,BD,not_or] at q;obtain ⟨⟨a1,a2,a3,a4⟩,⟨b1,b2,b3⟩,⟨c1,c2⟩,d1,_⟩:=q;refine ⟨⟨a1,a2,a3⟩,⟨b1,b2⟩,c1,fun p hp=>?_⟩;refine AF hp (fun hp=>?_) fun hp=>?_
 ·have:=SW hp;exact ⟨fun e=>a4 (e▸this),fun e=>b3 (e▸this),fun e=>c2 (e▸this),fun e=>d1 (e▸this)⟩
 have:=h.off p hp;unfold H9 at this;simp only [BD,not_or] at this;exact ⟨this.1,this.2.1,this.2.2.1,this.2.2.2.1⟩
noncomputable abbrev El (nd se ik sk:Addr)(oN oS oI oK:Obj)(st:List SE)(R:List (Addr×Obj)):List (Addr×Obj):=(nd,oN)::(se,oS)::(ik,oI)::(sk,oK)::(Hi st++R)
theorem Rf {oI oK:Obj}(h:FcSep nd se ik sk st R):∀p∈El nd se ik sk o' oS oI oK st R,p∈CD nd o' (El nd se ik sk oN oS oI oK st R):=by
 obtain ⟨⟨a1,a2,a3⟩,⟨b1,b2⟩,c1,d⟩:=h.nds;intro p hp;refine AH hp ?_ fun hp=>?_
 ·exact AV (.head _)
 refine AH hp ?_ fun hp=>?_
 ·exact A8 mH1 a1.symm
 refine AH hp ?_ fun hp=>?_
 ·exact A8 mH2 a2.symm
 refine AH hp ?_ fun hp=>?_
 ·exact A8 mH3 a3.symm
 exact A8 (mT4 hp) (d p hp).1
theorem UL {oI oK:Obj}(h:FcSep nd se ik sk st R):∀p∈El nd se ik sk oN o' oI oK st R,p∈CD se o' (El nd se ik sk oN oS oI oK st R):=by
 obtain ⟨⟨a1,a2,a3⟩,⟨b1,b2⟩,c1,d⟩:=h.nds;intro p hp;refine AH hp ?_ fun hp=>?_
 ·exact A8 (.head _) a1
 refine AH hp ?_ fun hp=>?_
 ·exact AV mH1
 refine AH hp ?_ fun hp=>?_
 ·exact A8 mH2 b1.symm
 refine AH hp ?_ fun hp=>?_
 ·exact A8 mH3 b2.symm
 exact A8 (mT4 hp) (d p hp).2.1
theorem Rg {oI oK:Obj}(h:FcSep nd se ik sk st R):∀p∈El nd se ik sk oN oS o' oK st R,p∈CD ik o' (El nd se ik sk oN oS oI oK st R):=by
 obtain ⟨⟨a1,a2,a3⟩,⟨b1,b2⟩,c1,d⟩:=h.nds;intro p hp;refine AH hp ?_ fun hp=>?_
 ·exact A8 (.head _) a2
 refine AH hp ?_ fun hp=>?_
 ·exact A8 mH1 b1
 refine AH hp ?_ fun hp=>?_
 ·exact AV mH2
 refine AH hp ?_ fun hp=>?_
 ·exact A8 mH3 c1.symm
 exact A8 (mT4 hp) (d p hp).2.2.1
theorem Re {oI oK:Obj}(h:FcSep nd se ik sk st R):∀p∈El nd se ik sk oN oS oI o' st R,p∈CD sk o' (El nd se ik sk oN oS oI oK st R):=by
 obtain ⟨⟨a1,a2,a3⟩,⟨b1,b2⟩,c1,d⟩:=h.nds;intro p hp;refine AH hp ?_ fun hp=>?_
 ·exact A8 (.head _) a3
 refine AH hp ?_ fun hp=>?_
 ·exact A8 mH1 b2
 refine AH hp ?_ fun hp=>?_
 ·exact A8 mH2 c1
 refine AH hp ?_ fun hp=>?_
 ·exact AV mH3
 exact A8 (mT4 hp) (d p hp).2.2.2
theorem FcSep.top (h:FcSep nd se ik sk (t::r) R):t.it∉[nd,se,ik,sk]∧t.bm≠t.it∧t.it∉HS r∧(∀p∈R,p.1≠t.it):=by
 have P:(H9 nd se ik sk (t::r)).Perm (t.it::t.bm::H9 nd se ik sk r):=(JW (l₁:=[nd,se,ik,sk]) (l₂:=[t.it,t.bm])).append_right (HS r);have n:=(Ce.mp (P.nodup_iff.mp h.nodup)).1;exact ⟨fun hm=>n (.tail _ (maL (HS r) hm)),fun e=>n (e▸.head _),fun hm=>n (.tail _ (mT4 hm)),fun p hp e=>h.off p hp (P.mem_iff.mpr (e▸.head _))⟩
theorem UM {oI oK:Obj}(h:FcSep nd se ik sk (t::r) R):∀p∈El nd se ik sk oN oS oI oK ({ t with p:=t.p+1 }::r) R,p∈CD t.it (E8 t.sl ((t.p+1:Nat):Int)) (El nd se ik sk oN oS oI oK (t::r) R):=by
 refine Fi (h.top) ?_;intro a b c d;simp only [BD,Au,or_false,not_or] at a;intro p hp;refine AH hp ?_ fun hp=>?_
 ·exact A8 (.head _) (Ne.symm a.1)
 refine AH hp ?_ fun hp=>?_
 ·exact A8 mH1 (Ne.symm a.2.1)
 refine AH hp ?_ fun hp=>?_
 ·exact A8 mH2 (Ne.symm a.2.2.1)
 refine AH hp ?_ fun hp=>?_
 ·exact A8 mH3 (Ne.symm a.2.2.2)
 have hp':p∈(t.it,E8 t.sl ((t.p+1:Nat):Int))::(t.bm,Ib "list_iterator.__next__" (.ref t.it))::(Hi r++R):=hp
 first | refine AH hp' ?_ fun hp=>?_ | rcases mc1 hp' with rfl | hp
 ·exact AV mH4
 refine AH hp ?_ fun hp=>?_
 ·exact A8 mH5 b
 refine A8 (mT6 hp) ?_;refine AF hp (fun hp=>?_) fun hp=>?_
 ·exact fun e=>c (e▸SW hp)
 exact d p hp
theorem FcSep.drawn (h:FcSep nd se ik sk (t::r) R):FcSep nd se ik sk ({ t with p:=t.p+1 }::r) R:=⟨h.nodup,h.off⟩
theorem FcSep.pop (h:FcSep nd se ik sk (t::r) R):FcSep nd se ik sk r R:=by
 refine ⟨?_,fun p hp hm=>h.off p hp ?_⟩
 ·have q:=h.nodup;have e:HS (t::r)=t.it::t.bm::HS r:=rfl;unfold H9 at q ⊢;rw [e] at q;refine List.Nodup.sublist ?_ q;exact ((((List.Sublist.refl (HS r)).cons _).cons _).cons₂ _ |>.cons₂ _ |>.cons₂ _ |>.cons₂ _)
 unfold H9 at hm ⊢;have e:HS (t::r)=t.it::t.bm::HS r:=rfl;rw [e];simp only [BD] at hm ⊢;rcases hm with h | h | h | h | h
 ·exact .inl h
 ·exact .inr (.inl h)
 ·exact .inr (.inr (.inl h))
 ·exact .inr (.inr (.inr (.inl h)))
 exact .inr (.inr (.inr (.inr (.inr (.inr h)))))
theorem FcSep.push {it bm:Addr}{nx:Int}{tk:Tok}{sl:Addr}(h:FcSep nd se ik sk st R)(h1:it∉H9 nd se ik sk st)(h2:bm∉H9 nd se ik sk st)(h3:it≠bm)(h4:∀p∈R,p.1≠it∧p.1≠bm):FcSep nd se ik sk (⟨nx,tk,it,bm,0,sl⟩::st) R:=by
 have P:(H9 nd se ik sk (⟨nx,tk,it,bm,0,sl⟩::st)).Perm (it::bm::H9 nd se ik sk st):=(JW (l₁:=[nd,se,ik,sk]) (l₂:=[it,bm])).append_right (HS st);refine ⟨P.nodup_iff.mpr (Ce.mpr ⟨fun hm=>?_,Ce.mpr ⟨h2,h.nodup⟩⟩),fun p hp hm=>?_⟩
 ·rcases mc1 hm with hm | hm
  ·exact h3 hm
  exact h1 hm
 rcases mc1 (P.mem_iff.mp hm) with e | hm
 ·exact (h4 p hp).1 e
 rcases mc1 hm with e | hm
 ·exact (h4 p hp).2 e
 exact h.off p hp hm
end
structure FcData (w:World)(ns:List NI)(oN oS:Obj)(S:List Int)(st:List SE):Prop where
 set:oS.SetObjOf (AM rw_nq0317_02.prog w) (fun k=>decide (k∈S)) S.length
 nodup:S.Nodup
 named:∀v∈S,v∈ns.map (·.nm)
 dict:∃kv:List (Int×Value),oN.IsDictOf (AM rw_nq0317_02.prog w) kv∧(∀t∈st,∃j tok,BR kv t.nm=some (.int j tok))∧(∀x,x∉st.map (·.nm)→BR kv x=none)∧kv.length≤st.length
 list:∀t∈st,∃e∈ns,e.nm=t.nm∧e.sl=t.sl
theorem G8 {α:Type} [DecidableEq α]:∀{l m:List α},l.Nodup→(∀x∈l,x∈m)→l.length≤m.length:=by
 intro xX
 induction xX with
 | nil=>
  intro _ _ _;exact B0 _
 | cons a l iH=>
  intro m hn hs;rw [Ce] at hn;have h:=iH (m:=m.erase a) hn.2 (fun x hx=>(List.mem_erase_of_ne (fun (e:x=a)=>hn.1 (e▸hx))).mpr (hs x (.tail _ hx)));have hm:=List.length_erase_of_mem (hs a (.head _));have hp:0<m.length:=List.length_pos_of_mem (hs a (.head _));rw [CF];lia
theorem FcData.len {w:World}{ns:List NI}{oN oS:Obj}{S:List Int}{st:List SE}(h:FcData w ns oN oS S st):S.length≤ns.length:=by
 have:=G8 h.nodup h.named;simpa using this
theorem QI (S:List Int)(k:Int):(fun k'=>decide (k'∈S)||decide (k'=k))=fun k'=>decide (k'∈k::S):=by
 funext k'
 simp only [BD]
 by_cases h1:k'=k<;>by_cases h2:k'∈S<;>simp [h1,h2]
theorem QB {ns:List NI}(hnn:(ns.map (·.nm)).Nodup){e:NI}(he:e∈ns):GT ns e.nm=e.sc.map (·.1):=by
 unfold GT
 cases hf:ns.find? fun e'=>e'.nm=e.nm with
 | none=>exact absurd (Ck.mp hf e he) (by simp)
 | some e'=>
  have h1:e'.nm=e.nm:=by simpa using CO hf
  rw [De hnn (DT hf) he h1]
theorem G5 {kvs:List (Int×Value)}{k x:Int}:BR (without kvs k) x=if x=k then none else BR kvs x:=by
 unfold BR without;rw [List.find?_filter]
 by_cases h:x=k
 ·subst h;rw [if_pos rfl,CX,Ck];intro a _;simp
 rw [if_neg h]
 congr 1
 congr 1
 funext a
 by_cases ha:a.1=x
 ·simp [ha,h]
 simp [ha]
theorem Lg {kvs:List (Int×Value)}{k:Int}{v:Value}(h:BR kvs k=some v):(without kvs k).length+1≤kvs.length:=by
 unfold BR at h;refine Aq (Option.map_eq_some_iff.mp h) ?_;intro kv hf _;have hm:=DT hf;have hk:=CO hf;unfold without;have:=List.length_filter_lt_length_iff_exists (l:=kvs) (p:=fun kv=>decide (kv.1≠k)) |>.mpr ⟨kv,hm,by simpa using hk⟩;lia
set_option tactic.hygienic true in
theorem FcData.pop {w:World}{ns:List NI}{oN oS oN':Obj}{S:List Int}{t:SE}{r:List SE}{kv:List (Int×Value)}(h:FcData w ns oN oS S (t::r))(hn:((t::r).map (·.nm)).Nodup)
  (h1:∀x∈t::r,∃j tok,BR kv x.nm=some (.int j tok)) (h2:∀x,x∉(t::r).map (·.nm)→BR kv x=none) (h3:kv.length≤(t::r).length)
  (hd:oN'.IsDictOf (AM rw_nq0317_02.prog w) (without kv t.nm)):FcData w ns oN' oS S r:=by
 rw [Bx,Ce] at hn;refine ⟨h.set,h.nodup,h.named,⟨_,hd,fun x hx=>?_,fun x hx=>?_,?_⟩,fun x hx=>h.list x (.tail _ hx)⟩
 ·rw [G5,if_neg (fun e=>hn.1 (mm2 ⟨x,hx,e⟩))];exact h1 x (.tail _ hx)
 ·rw [G5];split
  ·rfl
  rename_i hne;exact h2 x (fun hm=>by
   rcases mc1 hm with e | hm
   ·exact hne e
   exact hx hm)
 refine I0 (h1 t (.head _)) ?_;intro j tok hj;have:=Lg hj;rw [CF] at h3;lia
theorem Gj {l:List (Int×Tok)}{i:Nat}{v:Value}(h:(An l)[i]? = some v):∃b tb,v = .int b tb∧(l.map (·.1))[i]? = some b:=by
 unfold An at h;rw [Bj,AX] at h;refine Aq (Option.map_eq_some_iff.mp h) ?_;intro p hp e92;subst e92;exact ⟨p.1,p.2,rfl,by rw [AX,hp];rfl⟩
theorem Kn {l:List (Int×Tok)}{i:Nat}(h:(An l)[i]? = none):(l.map (·.1))[i]? = none:=by
 unfold An at h;rw [Bj,AX] at h;rw [AX,CX.mp h];rfl
theorem Uo {P Q:Prop}(h:Q):if false=true then P else Q:=by simpa using h
theorem Un {P Q:Prop}(h:P):if true=true then P else Q:=by simpa using h
theorem FcData.drawn {w:World}{ns:List NI}{oN oS:Obj}{S:List Int}{t:SE}{r:List SE}(h:FcData w ns oN oS S (t::r)):FcData w ns oN oS S ({ t with p:=t.p+1 }::r):=by
 refine ⟨h.set,h.nodup,h.named,?_,?_⟩
 ·refine MA (h.dict) ?_;intro kv k1 k2 k3 k4;refine ⟨kv,k1,fun x hx=>?_,k3,k4⟩;refine AQ hx ?_ fun hx=>?_
  ·exact k2 t (.head _)
  exact k2 x (.tail _ hx)
 intro x hx;refine AQ hx ?_ fun hx=>?_
 ·exact h.list t (.head _)
 exact h.list x (.tail _ hx)
theorem PQ {nd se ik sk:Addr}{oN oS:Obj}{e1 e2:Nat}{t:SE}{r:List SE}{R:List (Addr×Obj)}:GD nd se ik sk oN oS e1 e2 ({ t with p:=t.p+1 }::r) R=El nd se ik sk oN oS (A1 (EO (t::r)).toArray e2) (A1 (DD (t::r)).toArray e1) ({ t with p:=t.p+1 }::r) R:=by
 have h1:EO ({ t with p:=t.p+1 }::r)=EO (t::r):=by rw [EE,EE]
 have h2:DD ({ t with p:=t.p+1 }::r)=DD (t::r):=by rw [Eg,Eg]
 unfold GD;rw [h1,h2]
theorem NA {kv:List (Int×Value)}{k:Int}{v:Value}(h:BR kv k=none):C7 kv k v=kv++[(k,v)]:=by
 unfold C7;rw [if_neg];unfold BR at h;rw [CX,Ck] at h;intro ha;refine Aq (List.any_eq_true.mp ha) ?_;intro a hm hk;exact h a hm hk
theorem IK {kv:List (Int×Value)}{k x:Int}{v:Value}(h:BR kv k=none):BR (kv++[(k,v)]) x=if x=k then some v else BR kv x:=by
 unfold BR at h ⊢;rw [HN];rw [CX] at h
 by_cases e:x=k
 ·subst e;rw [h,if_pos rfl];simp
 rw [if_neg e];have:EH (fun a:Int×Value=>decide (a.1=x)) [(k,v)]=none:=by
  rw [Ck];intro a ha;rw [ms1 ha];simpa using fun q:k=x=>e q.symm
 rw [this,Option.or_none]
set_option tactic.hygienic true in
theorem FcData.push {w:World}{ns:List NI}{oN oS oN' oS':Obj}{S:List Int}{st:List SE}{t:SE}{kv:List (Int×Value)}{j:Int}{tok:Tok}(h:FcData w ns oN oS S st)(hn:t.nm∉S)(hm:t.nm∈ns.map (·.nm))(hst:t.nm∉st.map (·.nm))
  (h1:∀x∈st,∃j tok,BR kv x.nm=some (.int j tok)) (h2:∀x,x∉st.map (·.nm)→BR kv x=none) (h3:kv.length≤st.length)
  (hd:oN'.IsDictOf (AM rw_nq0317_02.prog w) (C7 kv t.nm (.int j tok)))
  (hs:oS'.SetObjOf (AM rw_nq0317_02.prog w) (fun k'=>decide (k'∈S)||decide (k'=t.nm)) (if decide (t.nm∈S)=true then S.length else S.length+1))
  (hl:∃e∈ns,e.nm=t.nm∧e.sl=t.sl):FcData w ns oN' oS' (t.nm::S) (t::st):=by
 have hv:=h2 _ hst;rw [NA hv] at hd;rw [QI,decide_eq_false hn,if_neg Bn] at hs;refine ⟨hs,Ce.mpr ⟨hn,h.nodup⟩,fc1 ⟨hm,h.named⟩,⟨_,hd,fun x hx=>?_,fun x hx=>?_,?_⟩,fc1 ⟨hl,h.list⟩⟩
 ·rw [IK hv];split
  ·exact ⟨_,_,rfl⟩
  rename_i hne;rcases mc1 hx with rfl | hx
  ·exact absurd rfl hne
  exact h1 x hx
 ·rw [IK hv];rw [Bx,BD,not_or] at hx;rw [if_neg hx.1];exact h2 x hx.2
 rw [Ai,CF];exact Fl h3
theorem DZ {a:Addr}{o':Obj}{x:Addr×Obj}{l l':List (Addr×Obj)}(hx:x.1≠a)(h:∀p∈l',p∈CD a o' l):∀p∈x::l',p∈CD a o' (x::l):=by
 intro p hp;refine AH hp ?_ fun hp=>?_
 ·exact A8 (.head _) hx
 refine Aq (mm1 (h p hp)) ?_;intro q hq e;exact mm2 ⟨q,.tail _ hq,e⟩
theorem LH {nd se ik sk:Addr}{oN oS:Obj}{e1 e2:Nat}{st:List SE}{R:List (Addr×Obj)}{q:Addr}(hq:∀p∈GD nd se ik sk oN oS e1 e2 st R,p.1≠q):q∉H9 nd se ik sk st:=by
 intro hm;unfold H9 at hm;rcases mc1 hm with e | hm
 ·exact hq (nd,oN) (.head _) e.symm
 rcases mc1 hm with e | hm
 ·exact hq (se,oS) mH1 e.symm
 rcases mc1 hm with e | hm
 ·exact hq (ik,_) mH2 e.symm
 rcases mc1 hm with e | hm
 ·exact hq (sk,_) mH3 e.symm
 rw [←IQ] at hm;refine Aq (mm1 hm) ?_;intro p hp e92;subst e92;exact hq p (mT4 (maL _ hp)) rfl
theorem QP {nd se ik sk:Addr}{oN oS:Obj}{e1 e2:Nat}{st:List SE}{R:List (Addr×Obj)}{nx:Int}{tk:Tok}{it bm sl:Addr}:∀p∈GD nd se ik sk oN oS (e1+1) (e2+1) (⟨nx,tk,it,bm,0,sl⟩::st) R,p∈(bm,Ib "list_iterator.__next__" (.ref it))::(it,E8 sl 0)::El nd se ik sk oN oS (A1 ((EO st).toArray.push (.ref bm)) (e2+1)) (A1 ((DD st).toArray.push (.int nx tk)) (e1+1)) st R:=by
 intro p hp;unfold GD at hp;rw [EE,Eg,←List.push_toArray,←List.push_toArray] at hp;refine AH hp ?_ fun hp=>?_
 ·exact mH2
 refine AH hp ?_ fun hp=>?_
 ·exact mH3
 refine AH hp ?_ fun hp=>?_
 ·exact mH4
 refine AH hp ?_ fun hp=>?_
 ·exact mH5
 have hp':p∈(it,E8 sl 0)::(bm,Ib "list_iterator.__next__" (.ref it))::(Hi st++R):=hp
 first | refine AH hp' ?_ fun hp=>?_ | rcases mc1 hp' with rfl | hp
 ·exact mH1
 refine AH hp ?_ fun hp=>?_
 ·exact .head _
 exact mT6 hp
noncomputable abbrev FM (xa n2 sk ik se nd:Addr)(nv:Option Value):Str→Option Value:=fun y=>if y=A0 "node" then nv else if y=A0 "node2stacki" then some (.ref nd) else if y=A0 "seen" then some (.ref se) else if y=A0 "itstack" then some (.ref ik) else if y=A0 "stack" then some (.ref sk) else if y=A0 "n2i" then some (.ref n2) else if y=A0 "self" then some (.ref xa) else none
theorem W6 (xa n2 sk ik se nd:Addr):(fun y=>if y=A0 "node2stacki" then some (A3 nd) else if y=A0 "seen" then some (A3 se) else if y=A0 "itstack" then some (A3 ik) else if y=A0 "stack" then some (A3 sk) else if y=A0 "n2i" then some (A3 n2) else List.lookup y [(A0 "self",A3 xa)].reverse)=FM xa n2 sk ik se nd none:=by
 funext y
 show _=if y=A0 "node" then none else _
 by_cases h:y=A0 "node"
 ·subst h;rfl
 rw [if_neg h]
 by_cases h2:y=A0 "self"
 ·subst h2;rfl
 have e:List.lookup y [(A0 "self",A3 xa)].reverse=none:=by
  show (match y==A0 "self" with | true=>_ | false=>none)=none;have:(y==A0 "self")=false:=by simpa using h2
  rw [this]
 rw [e];simp only [if_neg h2]
noncomputable abbrev tsR (w:World)(t1 t2 t3 t4 t5 t6:Tok)(n2:Addr)(rd:Value)(po nf:Int):Obj:=Fk [ent w "_node2info" t1 (.ref n2),ent w "_ready_nodes" t2 rd,ent w "_npassedout" t3 (.int po t4),ent w "_nfinished" t5 (.int nf t6)] 4
theorem Po (xa n2 sk ik se nd:Addr)(nv v:Option Value):(fun y=>if y=A0 "node" then v else FM xa n2 sk ik se nd nv y)=FM xa n2 sk ik se nd v:=by
 funext y
 show (if y=A0 "node" then v else if y=A0 "node" then nv else _)=if y=A0 "node" then v else _
 by_cases h:y=A0 "node"
 ·rw [if_pos h,if_pos h]
 rw [if_neg h,if_neg h,if_neg h]
theorem PW {M:Model}{A:AO}{E:Value→A4→Prop}{s:A4}{env:Env}{st:Stmt}{rest:List Stmt}{Q:Flow→A4→Prop}(Mid:A4→Prop)(h1:wpAny M A (exec st env) (fun f s'=>match f with | .next=>Mid s' | f=>Q f s') E s)(h2:∀s',Mid s'→wpAny M A (execs rest env) Q E s') :
  wpAny M A (execs (st::rest) env) Q E s:=GX (Ac h1 (fun f s' h=>by cases f with
  | next=>exact h2 s' h
  | _=>exact h) fun _ _ e=>e)
theorem Qm {M:Model}{q:Addr}{id:String}{self:Value}(h:Heap)(X:h.get? q=some (Ib id self)):∃k,(k=Keeper.frame∨k=Keeper.machine∨k=Keeper.boundFrame)∧Looks M h (keeperOf (.ref q)) k:=
 ⟨.machine,.inr (.inl rfl),(Iy (part:=none) X).andThen .now⟩
theorem MI {M:Model}{A:AO}{E:Value→A4→Prop}{s:A4}{Q:Value→A4→Prop}{env:Env}{q:Addr}{id:String}{self:Value}{pos:Pos}(ho:s.heap.get? q=some (Ib id self))(h:wpAny M A (call (.ref q) []) Q E s) :
  wpAny M A (KY pos (.ref q) [] (Fv pos (Cx [] env)) []) Q E s:=callWith_of rfl Qm (evalArgs_nil3 ⟨ho,h⟩)
theorem Nb:Ds (.type "StopIteration") (.type "BaseException")=pure true:=by rw [C1];kernel_rfl
theorem K6:Ds (.type ((Manifest.find? "StopIteration").elim "type" fun y=>y.metatype)) (.type "tuple")=pure false:=by rw [C1];kernel_rfl
theorem S0 {g h h₁:Heap}{L I:Addr}{m:Str→Option Value}(F:Fr g L h m)(hL:L≠I)(hI:g.get? I=none)(hk:∀b o,b∉[I]→h.get? b=some o→h₁.get? b=some o):Fr g L h₁ m:=
 ⟨F.ns.at' fun o e=>hk _ o (by simpa using hL) e,fun b o e=>hk b o (fun hm=>by rw [ms1 hm,hI] at e;cases e) (F.keep b o e),F.above⟩
theorem Mi {g h h₁:Heap}{L I:Addr}{news:List (Addr×Obj)}(N:News g L h news)(hn:∀p∈news,p.1≠I)(hk:∀b o,b∉[I]→h.get? b=some o→h₁.get? b=some o):News g L h₁ news:=fun p hp=>
 ⟨hk _ _ (by simpa using hn p hp) (N p hp).1,(N p hp).2⟩
theorem RB {prog:AY}{w:World}{o:Obj}(h:o.IsDictOf (Ft prog w) []):o.IsDictOf (AM prog w) []:=by
 refine R6 h ?_;(try clear h);intro es ep h1 h2 h3 h4 h5;have e:es = #[]:=by
  cases es with
  | mk l=>cases l with
   | nil=>rfl
   | cons a l=>cases h4
 subst e;exact ⟨#[],ep,h1,h2,fun e he=>absurd he (Array.not_mem_empty e),.nil,CY⟩
theorem Up {prog:AY}{w:World}{k:Int}{v:Value}(h:(AM prog w).is k v=true):∃t,v = .int k t:=Value.isInt_shape h
inductive FcI (w:World)(p:AY)(lo:List Str)(mean:CG→Option Value)(mg mb:Str→Option Value)(A:AO)(base g:Heap)(out:List Env)(L xa n2 sk ik se nd:Addr)(s:A4)(ns:List NI)(I epD:Nat)(R:List (Addr×Obj))(i:Nat)(s₁:A4):Prop
 | mk (nv:Option Value) (S:List Int) (oN oS oI:Obj) (e1 e2:Nat) (h1:FcE w p lo mean mg mb A base g out L (FM xa n2 sk ik se nd nv) (GD nd se ik sk oN oS e1 e2 [] ((I,oI)::R)) s s₁)
   (h2:oI.cls = .type "dict_keyiterator" ∧oI.data = .fields #[.ref n2,.int i 0,.int (Da ns).length 0,.int epD 0]) (h3:FcData w ns oN oS S []) (h4:∀v∈S,Acc (FU ns) v) (h5:∀j,j<i→∀e,ns[j]? = some e→e.nm∈S)
inductive FcJ (w:World)(p:AY)(lo:List Str)(mean:CG→Option Value)(mg mb:Str→Option Value)(A:AO)(base g:Heap)(out:List Env)(L xa n2 sk ik se nd:Addr)(s:A4)(ns:List NI)(R:List (Addr×Obj))(X:Int→List Int→List SE→Prop)(s₁:A4):Prop
 | mk (node:Int) (tk:Tok) (S:List Int) (st:List SE) (oN oS:Obj) (e1 e2:Nat) (h1:FcE w p lo mean mg mb A base g out L (FM xa n2 sk ik se nd (some (.int node tk))) (GD nd se ik sk oN oS e1 e2 st R) s s₁)
   (h2:FcSep nd se ik sk st R) (h3:FcData w ns oN oS S st) (h4:Hv ns S st) (h5:X node S st)
inductive XJ (ns:List NI)(S₀:List Int)(k0:Int)(μ:Nat)(node:Int)(S:List Int)(st:List SE):Prop
 | mk (h1:LQ ns st node) (h2:node∈ns.map (·.nm)) (h3:HC ns S st=μ) (h4:∀v∈S₀,v∈S) (h5:k0∈S∨node=k0)
inductive XM (ns:List NI)(S₀:List Int)(k0:Int)(μ:Nat)(c:List SE→Prop)(S:List Int)(st:List SE):Prop
 | mk (h1:Th ns st) (h2:HC ns S st≤μ) (h3:∀v∈S₀,v∈S) (h4:k0∈S) (h5:c st)
set_option tactic.hygienic true in
theorem Xc (w:World)(p:AY)(lo:List Str)(mean:CG→Option Value)(mg mb:Str→Option Value)
  (gd:Option (List Code)) (cn:Str) (cs:Scope) (a:Addr) (ccd:Value) (outer:List Env) (A₀:AO) (base h₀ g₀:Heap) (L:Addr) (m:Str→Option Value) (rest:List (Addr×Obj)) (s:A4)
  (xa d n2:Addr) (o2:Obj) (ns:List NI) (t1 t2 t3 t4 t5 t6:Tok) (rd:Value) (po nf:Int) (Q E:Value→A4→Prop)
  (B:Below A₀ base outer h₀) (F:Fr h₀ L s.heap m) (X:(Mine.K w.params).In h₀) (N:News h₀ L s.heap ((xa,AT 362 d)::(d,tsR w t1 t2 t3 t4 t5 t6 n2 rd po nf)::(n2,o2)::(C3 ns++rest))) (T:Top p lo mean mg mb h₀) (hk:cs.kind = .function)
  (XB:(Mine.K w.params).In base) (TB:Top p lo mean mg mb base) (D:FV (outer.filterMap (·.frame)) h₀) (T0:FY (outer.filterMap (·.frame)) g₀ h₀)
  (hd:o2.IsDictOf (AM rw_nq0317_02.prog w) (Da ns)) (lo2:(n2==BV)=false) (hnn:(ns.map (·.nm)).Nodup) (hl:ns.length≤100)
  (hcl:∀e∈ns,∀q∈e.sc,q.1∈ns.map (·.nm)) (hln:∀e∈ns,True)
  (hret:∀v h' tk' h₀',(v = .none∧∀e∈ns,Acc (FU ns) e.nm)→FY (outer.filterMap (·.frame)) g₀ h₀'→Fr h₀' L h' m→News h₀' L h' ((xa,AT 362 d)::(d,tsR w t1 t2 t3 t4 t5 t6 n2 rd po nf)::(n2,o2)::(C3 ns++rest))→Below A₀ base outer h₀'→(Mine.K w.params).In h₀'→Top p lo mean mg mb h₀'→FV (outer.filterMap (·.frame)) h₀'→Q v { s with heap:=h',toks:=tk' })
  (hcyc:∀l its ep h' tk' h₀',(∃e∈ns,¬Acc (FU ns) e.nm)→its.size≠0→its.size≤200→FY (outer.filterMap (·.frame)) g₀ h₀'→Fr h₀' L h' m→News h₀' L h' ((l,A1 its ep)::(xa,AT 362 d)::(d,tsR w t1 t2 t3 t4 t5 t6 n2 rd po nf)::(n2,o2)::(C3 ns++rest))→Below A₀ base outer h₀'→(Mine.K w.params).In h₀'→Top p lo mean mg mb h₀'→FV (outer.filterMap (·.frame)) h₀'→Q (.ref l) { s with heap:=h',toks:=tk' }) :
  wpAny (model (rw_nq0317_02.prog) w) (Bi 355 550 gd cn cs L a ccd [] outer) (call (.ref 352) [.ref xa]) Q E s:=by
 refine (let oT:Obj:=tsR w t1 t2 t3 t4 t5 t6 n2 rd po nf;have N9:News _ _ _ (_::(_,oT)::_):=N;?_);clear N;have N:=N9;clear N9;k_with "+5" =>skip
 k_with "5" =>(fail_if_success k_extra "+6")
 k_with "p" =>k_extra "5"
 k_with "m" =>k_extra "5"
 k_with "q" =>k_extra "5"
 k_with "r" =>k_extra "5"
 k_with "s" =>k_extra "5"
 k_with "t" =>k_extra "5"
 k_with "u" =>k_extra "5"
 k_with "v" =>k_extra "5"
 k_with "w" =>k_extra "5"
 k_with "x" =>k_extra "5"
 k_with "y" =>k_extra "5"
 k_with "i" =>k_extra "5"
 k_with "z" =>k_extra "5"
 k_with "aa" =>k_extra "5"
 k_with "ab" =>k_extra "5"
 k_with "ac" =>k_extra "5"
 k_with "ad" =>k_extra "5"
 k_with "ae" =>k_extra "5"
 k_with "o" =>k_extra "5"
 k_with "af" =>k_extra "5"
 k_with "ag" =>k_extra "5"
 k_with "ah" =>k_extra "5"
 k_with "ai" =>k_extra "5"
 k_with "aj" =>k_extra "5"
 k_with "ak" =>k_extra "5"
 k_with "al" =>k_extra "5"
 k_with "am" =>k_extra "5"
 k_with "an" =>k_extra "5"
 k_with "ao" =>k_extra "5"
 refine CV (C3 ns++rest) ?_;intro tl htl;rw [←htl] at N;have XB':=XB;have TB':=TB;k_with "+6" =>skip
 k_with "6" =>(fail_if_success k_extra "+7")
 k_with "p" =>k_extra "6"
 k_with "m" =>k_extra "6"
 k_with "q" =>k_extra "6"
 k_with "r" =>k_extra "6"
 k_with "s" =>k_extra "6"
 k_with "t" =>k_extra "6"
 k_with "u" =>k_extra "6"
 k_with "v" =>k_extra "6"
 k_with "w" =>k_extra "6"
 k_with "x" =>k_extra "6"
 k_with "y" =>k_extra "6"
 k_with "i" =>k_extra "6"
 k_with "z" =>k_extra "6"
 k_with "aa" =>k_extra "6"
 k_with "ab" =>k_extra "6"
 k_with "ac" =>k_extra "6"
 k_with "ad" =>k_extra "6"
 k_with "ae" =>k_extra "6"
 k_with "o" =>k_extra "6"
 k_with "af" =>k_extra "6"
 k_with "ag" =>k_extra "6"
 k_with "ah" =>k_extra "6"
 k_with "ai" =>k_extra "6"
 k_with "aj" =>k_extra "6"
 k_with "ak" =>k_extra "6"
 k_with "al" =>k_extra "6"
 k_with "am" =>k_extra "6"
 k_with "an" =>k_extra "6"
 k_with "ao" =>k_extra "6"
 revert X
 k_fill
 intro X;refine BN ?_
 k_dflt (refine' code_defS (g₀:=g₀) (binds:=[(A0 "self",.ref xa)]) ?k1 ?k2 ?k3 ?k4 ?k5 ?XB ?TB ?D ?T0 ?kA ?k6 ?k7 ?k8 ?k9 ?kB ?_ ?cK ?c2 ?c3 ?c4 ?c5;(case kA=>exact rfl);(case k2=>k_asm);(case k1=>k_asm);(case XB=>assumption);(case TB=>assumption);(case D=>assumption);(case T0=>assumption);(case k3=>k_asm);(case k4=>k_asm);(case k5=>k_asm);(case k6=>k_is);(case k7=>k_is);(case k8=>ktr_room);(case k9=>first | exact CA rfl | exact Q1 (by k_in) rfl (by k_is) rfl rfl rfl);(case kB=>exact locs rfl);(case cK=>assumption);(case c2=>exact rfl);(case c3=>exact rfl);(case c4=>exact rfl);(case c5=>decide);k_whole;intro g' L' h' FG' F' N' B' X' T' D';(try dsimp only);(try k_fold))
 refine (let A9:AO:=_;(?_:wpAny _ A9 _ _ _ _));k_steps;refine ⟨?_⟩;rename_i sk _ l1s _ _ _ ik _ l1i _ _ _ se _ ledS hsI hsS l1e _ _ _ nd _ oN0 loN hdN _ _ _ l1n _ F1 N1;rw [W6] at F1;refine ED ?_ (by intro _;with_unfolding_all rfl);k_steps;refine ⟨?_⟩;refine I0 (id hd) ?_;intro esD epD hDD;have hDat:∀h1:Heap,h1.get? n2=some o2→h1.DictAt (AM rw_nq0317_02.prog w) n2 (Da ns) epD:=fun h1 e=>⟨o2,esD,e,hDD⟩;refine CV ((xa,AT 362 d)::(d,oT)::(n2,o2)::tl) ?_;intro R hR;have m2:(n2,o2)∈R:=by rw [hR];exact mH2
 refine Tj lo2 (hDat _ (N1 _ mH6).1) ?_;have hlt:∀p∈(nd,oN0)::(se,(⟨.type "set",none,.set #[] 0 (Fw 0 0 ledS),#[]⟩:Obj))::(ik,A1 #[] 0)::(sk,A1 #[] 0)::(xa,AT 362 d)::(d,oT)::(n2,o2)::tl,_:=fun p hp=>AZ (N1 p hp).1;have F2:=F1.push { cls:=.type "dict_keyiterator",data:=.fields #[.ref n2,.int 0 0,.int (Da ns).length 0,.int epD 0] };have N2:=N1.push F1 { cls:=.type "dict_keyiterator",data:=.fields #[.ref n2,.int 0 0,.int (Da ns).length 0,.int epD 0] };have hIL:L'<_:=F1.ns.lt;have hIg:=GZ F1;clear F1 N1;dsimp only at F2 N2 hlt hIL hIg ⊢;generalize hI:Array.size _=I at F2 N2 hlt hIL hIg ⊢;have a1:sk<ik:=l1i.1;have a2:ik<se∧sk<se:=⟨l1e.1,l1e.2.1⟩;have a3:se<nd∧ik<nd∧sk<nd:=⟨l1n.1,l1n.2.1,l1n.2.2.1⟩;have hskR:∀p∈R,p.1<sk:=by
  rw [hR];intro p hp;refine AQ hp ?_ fun hp=>?_
  ·exact l1s.1
  refine AQ hp ?_ fun hp=>?_
  ·exact l1s.2.1
  refine AQ hp ?_ fun hp=>?_
  ·exact l1s.2.2.1
  exact Ha l1s.2.2.2 p hp
 have hndI:nd<I:=hlt _ (.head _);have hsep:∀oI,FcSep nd se ik sk [] ((I,oI)::R):=by
  intro oI
  constructor
  ·show [nd,se,ik,sk].Nodup;simp only [Ce,BD,Au,or_false,not_or,CY,and_true,not_false_eq_true];exact ⟨⟨AN a3.1,AN a3.2.1,AN a3.2.2⟩,⟨AN a2.1,AN a2.2⟩,AN a1⟩
  intro p hp hm;have hm':p.1∈[nd,se,ik,sk]:=hm;have h1:sk≤p.1∧p.1≤nd:=by
   rcases mc1 hm' with e | hm'
   ·rw [e];exact ⟨Be a3.2.2,Ap _⟩
   rcases mc1 hm' with e | hm'
   ·rw [e];exact ⟨Be a2.2,Be a3.1⟩
   rcases mc1 hm' with e | hm'
   ·rw [e];exact ⟨Be a1,Be a3.2.1⟩
   rw [ms1 hm'];exact ⟨Ap _,Be a3.2.2⟩
  rcases mc1 hp with rfl | hp
  ·exact absurd (B5 hndI h1.2) (Av _)
  exact absurd (B5 (hskR p hp) h1.1) (Av _)
 have hLI:L'≠I:=A7 hIL;have hn2I:n2≠I:=A7 (hlt (n2,o2) mH6);refine (let JI:Nat→A4→Prop:=FcI w p lo mean mg mb (Bi 355 550 gd cn cs L a ccd [] outer) base g' (envX cn cs L a ccd []::outer) L' xa n2 sk ik se nd s ns I epD R;?_);refine TL (Walks.dictKeys (knd:=AM rw_nq0317_02.prog w) rfl I n2 hn2I (Da ns) epD) (by passes_own)
  JI ?hst ?h0 ?turn ?done
 case hst=>
  rintro i s₁ ⟨nv,S,oN,oS,oI,e1,e2,⟨g,h,tk,rfl,_,F,N,_⟩,⟨c1,c2⟩,_⟩;exact ⟨⟨oI,(N _ mH4).1,c1,c2⟩,hDat _ (N _ (mT5 m2)).1⟩
 case h0=>
  have hsub:∀q∈GD nd se ik sk oN0 (⟨.type "set",none,.set #[] 0 (Fw 0 0 ledS),#[]⟩:Obj) 0 0 [] ((I,(⟨.type "dict_keyiterator",none,.fields #[.ref n2,.int 0 0,.int (Da ns).length 0,.int epD 0],#[]⟩:Obj))::R),q∈(I,(⟨.type "dict_keyiterator",none,.fields #[.ref n2,.int 0 0,.int (Da ns).length 0,.int epD 0],#[]⟩:Obj))::(nd,oN0)::(se,(⟨.type "set",none,.set #[] 0 (Fw 0 0 ledS),#[]⟩:Obj))::(ik,A1 #[] 0)::(sk,A1 #[] 0)::(xa,AT 362 d)::(d,oT)::(n2,o2)::tl:=by
   intro q hq;rw [hR] at hq;refine AH hq ?_ fun hq=>?_
   ·exact mH1
   refine AH hq ?_ fun hq=>?_
   ·exact mH2
   refine AH hq ?_ fun hq=>?_
   ·exact mH3
   refine AH hq ?_ fun hq=>?_
   ·exact mH4
   have hq':q∈(I,(⟨.type "dict_keyiterator",none,.fields #[.ref n2,.int 0 0,.int (Da ns).length 0,.int epD 0],#[]⟩:Obj))::((xa,AT 362 d)::(d,oT)::(n2,o2)::tl):=hq
   first | refine AH hq' ?_ fun hq=>?_ | rcases mc1 hq' with rfl | hq
   ·exact .head _
   exact mT5 hq
  refine ⟨none,[],oN0,_,_,0,0,⟨g',_,_,rfl,FY.refl,F2,Bo N2 hsub,B',X',T',D'⟩,⟨rfl,rfl⟩,⟨?_,CY,AA _,⟨[],RB hdN,AA _,fun _ _=>rfl,Ap _⟩,AA _⟩,AA _,fun j hj=>absurd hj (Ed _)⟩;have e:(fun k:Int=>decide (k∈([]:List Int)))=fun _=>false:=by funext k;simp
  rw [e];exact setObjOf_fresh _
 case turn=>
  clear F2 N2;rintro i v s₁ h₁ tk₁ hi ⟨k0,x0,hk0,hv⟩ ⟨nv,S₀,oN,oS,oI,e1,e2,⟨g,h,tk,rfl,T1,F,N,B1,X1,P1,D1⟩,⟨c1,c2⟩,hdat,hacc,hall⟩ ⟨⟨oI',hI1,hI2,hI3⟩,hD2⟩ hkeep;refine Bp (Up hv) ?_;intro tv e91;subst e91;have hIg2:g.get? I=none:=T1.none_ _ hIg;have F3:=S0 F hLI hIg2 hkeep;have N3:News g L' h₁ (GD nd se ik sk oN oS e1 e2 [] ((I,oI')::R)):=by
   have hne:∀p∈(nd,oN)::(se,oS)::(ik,A1 (EO []).toArray e2)::(sk,A1 (DD []).toArray e1)::R,p.1≠I:=by
    refine fc1 ⟨A7 hndI,fc1 ⟨A7 (Ay a3.1 hndI),fc1 ⟨A7 (Ay a3.2.1 hndI),fc1 ⟨A7 (Ay a3.2.2 hndI),fun p hp=>A7 (Ay (hskR p hp) (Ay a3.2.2 hndI))⟩⟩⟩⟩
   have N4:=Mi (Bo N (news':=(nd,oN)::(se,oS)::(ik,A1 (EO []).toArray e2)::(sk,A1 (DD []).toArray e1)::R) (A6 (.head _) (A6 mH1 (A6 mH2 (A6 mH3 (fun q hq=>mT5 hq)))))) hne hkeep;intro q hq;refine AQ hq ?_ fun hq=>?_
   ·exact N4 _ (.head _)
   refine AQ hq ?_ fun hq=>?_
   ·exact N4 _ mH1
   refine AQ hq ?_ fun hq=>?_
   ·exact N4 _ mH2
   refine AQ hq ?_ fun hq=>?_
   ·exact N4 _ mH3
   have hq':q∈(I,oI')::R:=hq
   first | refine AH hq' ?_ fun hq=>?_ | rcases mc1 hq' with rfl | hq
   ·exact ⟨hI1,Ne.symm hLI,hIg2⟩
   exact N4 _ (mT4 hq)
  clear F N;refine (let G9:Prop:=_;(?_:G9));obtain ⟨e0,he0,hek0⟩:∃e0,ns[i]? = some e0∧e0.nm=k0:=by
   unfold Da at hk0;rw [AX] at hk0;refine Aq (Option.map_eq_some_iff.mp hk0) ?_;intro e0 h1 h2;exact ⟨e0,h1,congrArg Ci h2⟩
  refine (?_:wpAny _ _ _ _ _ _);have hk0n:k0∈ns.map (·.nm):=mm2 ⟨e0,AK he0,hek0⟩;k_steps;refine ⟨?_⟩;rename Fr _ _ _ _=>F4;rename News _ _ _ _=>N4;have F5:=F4;rw [Po] at F5;clear F4;refine Mm N4 mH1 hdat.set (by have:=hdat.len;unfold Dp;lia) (BH _ _ _ _) rfl ?_
  by_cases hS0:k0∈S₀
  ·rw [decide_eq_true hS0];k_steps;refine ⟨?_⟩;show JI _ _;refine ⟨some (.int k0 tv),S₀,oN,oS,oI',e1,e2,⟨g,_,_,rfl,T1,F5,N4,B1,X1,P1,D1⟩,⟨hI2,hI3⟩,hdat,hacc,?_⟩;intro j hj e he
   by_cases hji:j=i
   ·subst hji;rw [he0] at he;injection he with he;rw [←he,hek0];exact hS0
   exact hall j (by lia) e he
  rw [decide_eq_false hS0];k_steps;refine ⟨?_⟩;refine CV ((I,oI')::R) ?_;intro R2 hR2;have hsep2:FcSep nd se ik sk [] R2:=hR2▸hsep oI';rw [←hR2] at N4;rename Fr _ _ _ _=>F6;refine (let JJ:(Int→List Int→List SE→Prop)→A4→Prop:=FcJ w p lo mean mg mb (Bi 355 550 gd cn cs L a ccd [] outer) base g' (envX cn cs L a ccd []::outer) L' xa n2 sk ik se nd s ns R2;?_);refine (let Qw:Flow→A4→Prop:=_;(?_:wpAny _ _ _ Qw _ _));refine Ju (fun μ=>JJ (XJ ns S₀ k0 μ)) (HC ns S₀ [])
   ⟨k0,tv,S₀,[],oN,oS,e1,e2,⟨g,_,_,rfl,T1,F6,N4,B1,X1,P1,D1⟩,hsep2,hdat,⟨fun v hv=>.inr (hacc v hv),AA _,CY,AA _⟩,trivial,hk0n,rfl,fun _ h=>h,.inr rfl⟩ ?wturn (by passes_own)
  clear F6 N4;rintro μ s₂ ⟨node,tkn,S,st,oN2,oS2,f1,f2,⟨g2,h2,tk2,rfl,T2,F,N,B2,X2,P2,D2⟩,hsp,hda,hsn,hch,hnm,hμ,hS0S,hk0S⟩;k_with "execs cons" =>(k_extra "6";(refine Af ?_))
  have hst9:V9 True:=⟨trivial⟩;k_steps;clear hst9;refine ⟨?_⟩;k_with "+7" =>skip
  k_with "7" =>(fail_if_success k_extra "+8")
  k_with "p" =>k_extra "7"
  k_with "m" =>k_extra "7"
  k_with "q" =>k_extra "7"
  k_with "r" =>k_extra "7"
  k_with "s" =>k_extra "7"
  k_with "t" =>k_extra "7"
  k_with "u" =>k_extra "7"
  k_with "v" =>k_extra "7"
  k_with "w" =>k_extra "7"
  k_with "x" =>k_extra "7"
  k_with "y" =>k_extra "7"
  k_with "i" =>k_extra "7"
  k_with "z" =>k_extra "7"
  k_with "aa" =>k_extra "7"
  k_with "ab" =>k_extra "7"
  k_with "ac" =>k_extra "7"
  k_with "ad" =>k_extra "7"
  k_with "ae" =>k_extra "7"
  k_with "o" =>k_extra "7"
  k_with "af" =>k_extra "7"
  k_with "ag" =>k_extra "7"
  k_with "ah" =>k_extra "7"
  k_with "ai" =>k_extra "7"
  k_with "aj" =>k_extra "7"
  k_with "ak" =>k_extra "7"
  k_with "al" =>k_extra "7"
  k_with "am" =>k_extra "7"
  k_with "an" =>k_extra "7"
  k_with "ao" =>k_extra "7"
  refine (let MidP:A4→Prop:=JJ fun _=>XM ns S₀ k0 μ (fun _=>True);?_);refine PW MidP ?first ?second
  case second=>
   clear F N hda hsn hch hsp hnm hk0S B2 X2 P2 D2 T2;intro s₃ hm;refine (let G9:Prop:=_;(?_:G9));obtain ⟨node3,tkn3,S3,st3,oN3,oS3,e13,e23,⟨g3,h3,tk3,rfl,T3,F,N,B3,X3,P3,D3⟩,hsp,hda,hsn,hdn,hms,hS0S3,hk0S3,_⟩:=hm;refine (?_:wpAny _ _ _ _ _ _);k_steps;refine ⟨?_⟩;refine (let Qi:Flow→A4→Prop:=_;(?_:wpAny _ _ _ Qi _ _));refine Ju (fun m=>JJ fun _=>XM ns S₀ k0 μ (fun st=>st.length=m)) st3.length
    ⟨node3,tkn3,S3,st3,oN3,oS3,e13,e23,⟨g3,h3,_,rfl,T3,F,N,B3,X3,P3,D3⟩,hsp,hda,hsn,hdn,hms,hS0S3,hk0S3,rfl⟩ ?iturn (by passes_own)
   clear F N hsp hda hsn hdn hms B3 X3 P3 D3 T3 hS0S3 hk0S3;rintro m4 s₄ ⟨node4,tkn4,S4,st4,oN4,oS4,e14,e24,⟨g4,h4,tk4,rfl,T4,F,N,B4,X4,P4,D4⟩,hsp,hda,hsn,hdn,hms,hS0S4,hk0S4,hm4⟩;have hst4:st4.length≤100:=by
    have:=G8 hsn.nodup (fun x hx=>by
     refine Aq (mm1 hx) ?_;intro t ht e;exact e▸hsn.named t ht)
    simp at this;lia
   k_steps;refine ⟨?_⟩;refine FZ N mH3 (by unfold DD;simp;lia) ?_
   cases st4 with
   | nil=>
    refine Uo ?_;k_steps;refine ⟨?_⟩;dsimp only [WEnd];k_steps;refine ⟨?_⟩
    (try change Qw Flow.next _)
    k_steps;refine ⟨?_⟩;show JI _ _;rw [hR2] at N;refine ⟨some (.int node4 tkn4),S4,oN4,oS4,oI',e14,e24,⟨g4,h4,_,rfl,T4,F,N,B4,X4,P4,D4⟩,⟨hI2,hI3⟩,hda,UB hsn,?_⟩;intro j hj e he
    by_cases hji:j=i
    ·subst hji;rw [he0] at he;injection he with he;rw [←he,hek0];exact hk0S4
    exact hS0S4 _ (hall j (by lia) e he)
   | cons t r=>
    have e:(!(DD (t::r)).toArray.isEmpty)=true:=by rw [Eg];simp
    rw [e];refine Un ?_;k_steps;refine ⟨?_⟩;refine wpAny_Try_except ?_;k_steps;refine ⟨?_⟩;have mik:(ik,A1 (EO (t::r)).toArray e24)∈GD nd se ik sk oN4 oS4 e14 e24 (t::r) R2:=mH2;have msk:(sk,A1 (DD (t::r)).toArray e14)∈GD nd se ik sk oN4 oS4 e14 e24 (t::r) R2:=mH3;have mit:(t.it,E8 t.sl (t.p:Int))∈GD nd se ik sk oN4 oS4 e14 e24 (t::r) R2:=mH4;have mbm:(t.bm,Ib "list_iterator.__next__" (.ref t.it))∈GD nd se ik sk oN4 oS4 e14 e24 (t::r) R2:=mH5;refine tail_any (BI N mik).typeIs slot_list_getitem.lookup (Ui N mik (by rw [EE];simp) (x:=.ref t.bm) (by rw [EE];simp) ?_) (by with_unfolding_all rfl);k_steps;refine ⟨?_⟩;refine MI (N _ mbm).1 ?_;refine Dn (hda.list t (.head _)) ?_;intro ee hee hen hesl;have msl:(t.sl,A1 (An ee.sc) ee.ep)∈GD nd se ik sk oN4 oS4 e14 e24 (t::r) R2:=by
     have q1:(t.sl,A1 (An ee.sc) ee.ep)∈C3 ns:=by rw [←hesl];exact CE hee mH2
     have q2:(t.sl,A1 (An ee.sc) ee.ep)∈tl:=by rw [htl];exact maL _ q1
     have q3:(t.sl,A1 (An ee.sc) ee.ep)∈R:=by rw [hR];exact mT3 q2
     have q4:(t.sl,A1 (An ee.sc) ee.ep)∈R2:=by rw [hR2];exact .tail _ q3
     exact mT4 (maR _ q4)
    have hsu:GT ns t.nm=ee.sc.map (·.1):=by rw [←hen];exact QB hnn hee
    cases hx:(An ee.sc)[t.p]? with
    | some v=>
     refine HA (Gj hx) ?_;intro b tb e92 hb;subst e92;rw [←hsu] at hb;have hbn:b∈ns.map (·.nm):=by
      rw [hsu] at hb;refine Aq (mm1 (AK hb)) ?_;intro q hq e92;subst e92;exact hcl ee hee q hq
     refine Op F N mbm mit msl hx fun h5 F5 N5=>?_;have N6:=Bo N5 (UM hsp);clear N5 N F;k_steps;refine ⟨?_⟩;dsimp only [WEnd];k_steps;refine ⟨?_⟩;dsimp only [WEnd];rename Fr _ _ _ _=>F7;rename News _ _ _ _=>N7;rw [Po] at F7;rw [←PQ] at N7;show ∃n',n'<μ∧JJ _ _;have hm5:=Sr (S:=S4) (r:=r) hb;refine ⟨_,?_,b,tb,S4,{ t with p:=t.p+1 }::r,oN4,oS4,e14,e24,⟨g4,_,_,rfl,T4,F7,N7,B4,X4,P4,D4⟩,hsp.drawn,hda.drawn,SK hsn,SL hdn hb,hbn,rfl,hS0S4,.inl hk0S4⟩;lia
    | none=>
     have hb:=Kn hx;rw [←hsu] at hb;refine QU rfl F N mbm mit msl hx fun h5 h6 ex o5 F5 N5 hex=>?_;have N6:News g4 L' h5 (El nd se ik sk oN4 oS4 (A1 (EO (t::r)).toArray e24) (A1 (DD (t::r)).toArray e14) r R2):=by
      refine Fi (hsp.top) ?_;intro u1 u2 u3 u4;simp only [BD,Au,or_false,not_or] at u1;refine Bo N5 (A6 (A8 (.head _) (Ne.symm u1.1)) (A6 (A8 mH1 (Ne.symm u1.2.1)) (A6 (A8 mH2 (Ne.symm u1.2.2.1)) (A6 (A8 mH3 (Ne.symm u1.2.2.2)) (fun q hq=>?_)))));refine A8 (mT6 hq) ?_;refine AF hq (fun hq=>?_) fun hq=>?_
      ·exact fun e=>u3 (e▸SW hq)
      exact u4 q hq
     clear N5 N F;refine Nw (KF:=Mine.K w.params) hex F5 N6 B4 XB' TB' D4 T4 (by k_is) PyProof.Rows.Boot.«StopIteration» (by decide) Nb K6 (by rw [C1];kernel_rfl) (fun h7 g7 T7 F7 N7 B7 X7 P7 D7=>?_);have hsp2:=hsp.pop;refine MA (hda.dict) ?_;intro kv kd1 kd2 kd3 kd4;refine I0 (kd2 t (.head _)) ?_;intro jj tok hjj;have hr100:r.length≤100:=by rw [CF] at hst4;lia
     k_steps;refine ⟨?_⟩;refine Fe PySem.F.slot_list_pop PySem.F.type_list_pop N7 mH3 ?_;k_steps;refine ⟨?_⟩;have hsk8:(sk,A1 (DD r++[A5 t.nm t.tk]).toArray e14)∈El nd se ik sk oN4 oS4 (A1 (EO (t::r)).toArray e24) (A1 (DD (t::r)).toArray e14) r R2:=by rw [←Eg];exact mH3
     refine Sj F7 N7 hsk8 (by unfold DD;simp;lia) fun h8 F8 N8=>?_;have N8b:=Bo N8 (Re hsp2);clear N8 F7 N7;k_steps;refine ⟨?_⟩;refine Vw F8 N8b (.head _) kd1 (BH _ _ _ _) hjj (Bw (by rw [CF] at kd4;lia)) fun h9 o9 F9 N9 hd9=>?_;have N9b:=Bo N9 (Rf hsp2);clear N9 F8 N8b;k_steps;refine ⟨?_⟩;refine Fe PySem.F.slot_list_pop PySem.F.type_list_pop N9b mH2 ?_;k_steps;refine ⟨?_⟩;have hik9:(ik,A1 (EO r++[A3 t.bm]).toArray e24)∈El nd se ik sk o9 oS4 (A1 (EO (t::r)).toArray e24) (A1 (DD r).toArray (e14+1)) r R2:=by rw [←EE];exact mH2
     refine Sj F9 N9b hik9 (by unfold EO;simp;lia) fun h10 F10 N10=>?_;have N10b:=Bo N10 (Rg hsp2);clear N10 F9 N9b;k_steps;refine ⟨?_⟩;dsimp only [WEnd];refine CL (UC hdn hsn hb) ?_;intro hdn5 hsn5;have hm5:HC ns S4 r≤HC ns S4 (t::r):=Uf;show ∃n',n'<m4∧JJ _ _;refine ⟨r.length,by rw [←hm4];exact Al _,node4,tkn4,S4,r,o9,oS4,e14+1,e24+1,⟨g7,_,_,rfl,T7,F10,N10b,B7,X7,P7,D7⟩,hsp2,hda.pop hsn.nodup kd2 kd3 kd4 hd9,hsn5,hdn5,by lia,hS0S4,hk0S4,rfl⟩
  k_steps;refine ⟨?_⟩;refine Mm N mH1 hda.set (by have:=hda.len;unfold Dp;lia) (BH _ _ _ _) rfl ?_;refine MA (hda.dict) ?_;intro kv kd1 kd2 kd3 kd4
  by_cases hS:node∈S
  ·rw [decide_eq_true hS];k_steps;refine ⟨?_⟩
   by_cases hst:node∈st.map (·.nm)
   ·refine Aq (mm1 hst) ?_;intro ts hts htn;refine I0 (kd2 ts hts) ?_;intro jj tok hjj;have htn2:ts.nm=node:=htn;rw [htn2] at hjj;refine kda_in N (.head _) kd1 loN (BH _ _ _ _) true (by rw [hjj];rfl) ?_;k_steps;refine ⟨?_⟩;refine kdt_tail N (.head _) kd1 (kdt_getItem N (.head _) kd1 (BH _ _ _ _) hjj ?_);k_steps;refine ⟨?_⟩;have msk:(sk,A1 (DD st).toArray f1)∈GD nd se ik sk oN2 oS2 f1 f2 st R2:=mH3;refine kmk_slice F N (BI N msk) (.int _ _) .none (fun D h3 F3 N3 l3=>?_) (by with_unfolding_all rfl) (by intro _;with_unfolding_all rfl) (Bw (by have:=hda.len;have:=G8 hsn.nodup (fun x hx=>by obtain ⟨t,ht,q⟩:=mm1 hx;exact q▸hsn.named t ht);unfold DD;simp at this ⊢;lia));have hlen3:(slicePick (DD st).toArray (some jj) none none).size≤100:=by
     have q0:=slicePick_size_le (DD st).toArray (some jj) none none;have:=hda.len;have:=G8 hsn.nodup (fun x hx=>by obtain ⟨t,ht,q⟩:=mm1 hx;exact q▸hsn.named t ht);unfold DD at q0 ⊢;simp at this q0 ⊢;lia
    generalize hpk:slicePick (DD st).toArray (some jj) none none=pk at N3 hlen3;clear F N;k_steps;refine ⟨?_⟩;rename Fr _ _ _ _=>F8;rename News _ _ _ _=>N8;refine add_arrays F8 N8 (BI N8 mH1) (BI N8 (.head _)) (fun h9 F9 N9=>?_) (Bw (by simp;lia));clear F8 N8
    (try dsimp only [WEnd,Qw,FEnd])
    k_steps
    (try (refine ⟨?_⟩;dsimp only [WEnd,Qw,FEnd];k_steps))
    rename FY _ g₀ _=>kT;rename Fr _ L _ m=>kF;rename News _ L _ _=>kN;refine Aq (mm1 hnm) ?_;intro e he hen;refine hcyc _ (pk.toList ++ #[A5 node tkn].toList).toArray 0 _ _ _ ⟨e,he,by rw [hen];exact QA hch hst⟩ ?_ ?_ kT kF (Bo kN fun q hq=>?_) (by assumption) (by assumption) (by assumption) (by assumption)
    ·simp
    ·simp;lia
    refine AH hq ?_ fun hq=>?_
    ·exact .head _
    have q1:q∈R:=by rw [hR,htl];exact hq
    have q2:q∈R2:=by rw [hR2];exact .tail _ q1
    exact mT7 (maR _ q2)
   refine kda_in N (.head _) kd1 loN (BH _ _ _ _) false (by rw [kd3 node hst];rfl) ?_;k_steps;show MidP _;exact ⟨node,tkn,S,st,oN2,oS2,f1,f2,⟨g2,h2,_,rfl,T2,F,N,B2,X2,P2,D2⟩,hsp,hda,hsn,OK hch ((hsn.fin node hS).resolve_left hst),O2 hμ,hS0S,hk0S.elim id (fun e=>e▸hS),trivial⟩
  rw [decide_eq_false hS];refine Aq (mm1 hnm) ?_;intro e he hen;subst hen;have hcn:e.nm∉st.map (·.nm):=fun hm=>by
   refine Aq (mm1 hm) ?_;intro t ht q;have q2:t.nm=e.nm:=q;exact hS (q2▸hsn.inS t ht)
  have hst100:st.length≤100:=by
   have:=G8 hsn.nodup (fun x hx=>by
    refine Aq (mm1 hx) ?_;intro t ht q;exact q▸hsn.named t ht)
   simp at this;lia
  have hlR:∀q∈C3 ns,q∈R2:=by
   intro q hq;rw [hR2,hR,htl];exact mT4 (maL _ hq)
  k_steps;refine ⟨?_⟩;refine OX N mH1 hda.set (by have:=hda.len;unfold Dp;lia) ?_;k_steps;refine ⟨?_⟩;refine Pk F N mH1 hda.set (by have:=hda.len;unfold Dp;lia) (BH _ _ _ _) rfl fun h3 oS3 F3 N3 hs3=>?_;have N3b:=Bo N3 (UL hsp);clear N3 F N;k_steps;refine ⟨?_⟩;refine Fe Cq Cp N3b mH2 ?_;k_steps;refine ⟨?_⟩;have mn2:(n2,o2)∈GD nd se ik sk oN2 oS3 f1 f2 st R2:=by rw [hR2];exact mT4 (maR _ (.tail _ m2))
  have hin:∀q∈EZ e,q∈GD nd se ik sk oN2 oS3 f1 f2 st R2:=fun q hq=>mT4 (maR _ (hlR q (CE he hq)));refine kdt_tail N3b mn2 hd (kdt_getItem N3b mn2 hd (BH _ _ _ _) (Ey hnn he) ?_);k_steps;refine ⟨?_⟩;refine Oa F3 X2 N3b (hin _ (.head _)) (hin _ mH1) ?_;k_steps;refine ⟨?_⟩;refine Um F3 N3b X2 (hin _ mH2) fun q1 h4 tk4 F4 N4 hq1=>?_;clear F3;k_steps;refine ⟨?_⟩;refine NQ F4 N4 X2 (.head _) fun q2 h5 tk5 F5 N5 hq2=>?_;clear F4 N4;have hq2i:q2≠ik:=(hq2 (ik,_) mH3).symm;have hq1i:q1≠ik:=(hq1 (ik,_) mH2).symm;have hq2s:q2≠sk:=(hq2 (sk,_) mH4).symm;have hq1s:q1≠sk:=(hq1 (sk,_) mH3).symm;have hq2n:q2≠nd:=(hq2 (nd,_) mH1).symm;have hq1n:q1≠nd:=(hq1 (nd,_) (.head _)).symm;k_steps;refine ⟨?_⟩;refine CW F5 N5 mH4 (Bw (by unfold EO;simp;lia)) fun h6 F6 N6=>?_;have N6b:=Bo N6 (DZ hq2i (DZ hq1i (Rg hsp)));clear N6 F5 N5;k_steps;refine ⟨?_⟩;refine NW N6b mH5 (by unfold DD;simp;lia) fun tL tkL=>?_;k_steps;refine ⟨?_⟩;refine Gx F6 N6b mH2 kd1 (BH _ _ _ _) (Bw (by lia)) fun h7 o7 F7 N7 hd7=>?_;have N7b:=Bo N7 (DZ hq2n (DZ hq1n (Rf hsp)));clear N7 F6 N6b;k_steps;refine ⟨?_⟩;refine Fe Cq Cp N7b mH5 ?_;k_steps;refine ⟨?_⟩;refine CW F7 N7b mH5 (Bw (by unfold DD;simp;lia)) fun h8 F8 N8=>?_;have N8b:=Bo N8 (DZ hq2s (DZ hq1s (Re hsp)));clear N8 F7 N7b;k_steps;show MidP _;have hsp3:FcSep nd se ik sk (⟨e.nm,tkn,q1,q2,0,e.sl⟩::st) R2:=hsp.push (LH hq1) (LH fun p hp=>hq2 p (.tail _ hp)) (hq2 (q1,_) (.head _)) fun p hp=>⟨hq1 p (mT4 (maR _ hp)),hq2 p (mT5 (maR _ hp))⟩;refine CL (SN (tk:=tkn) (it:=q1) (bm:=q2) (sl:=e.sl) hch hsn hS hnm) ?_;intro td ts;refine ⟨e.nm,tkn,e.nm::S,⟨e.nm,tkn,q1,q2,0,e.sl⟩::st,o7,oS3,f1+1,f2+1,⟨g2,h8,_,rfl,T2,F8,Bo N8b ?_,B2,X2,P2,D2⟩,hsp3,FcData.push (t:=⟨e.nm,tkn,q1,q2,0,e.sl⟩) hda hS hnm hcn kd2 kd3 kd4 hd7 hs3 ⟨e,he,rfl,rfl⟩,ts,td,?_,fun v hv=>.tail _ (hS0S v hv),?_,trivial⟩
  ·exact QP
  ·have:=Ss (tk:=tkn) (it:=q1) (bm:=q2) (sl:=e.sl) (st:=st) hS hnn hnm;lia
  rcases hk0S with h | h
  ·exact .tail _ h
  rw [h];exact .head _
 clear F2 N2;rintro s₁ h₁ tk₁ ⟨nv,S₀,oN,oS,oI,e1,e2,⟨g,h,tk,rfl,T1,F,N,B1,X1,P1,D1⟩,⟨c1,c2⟩,hdat,hacc,hall⟩ hkeep;have hIg2:g.get? I=none:=T1.none_ _ hIg;have F3:=S0 F hLI hIg2 hkeep;have hne:∀p∈R,p.1≠I:=fun p hp=>A7 (Ay (hskR p hp) (Ay a3.2.2 hndI));have N3:News g L' h₁ R:=Mi (Bo N fun q hq=>mT5 hq) hne hkeep;clear F N;k_steps;rename FY _ g₀ _=>kT;rename Fr _ L _ m=>kF;rename News _ L _ R=>kN;refine hret _ _ _ _ ⟨rfl,fun e he=>?_⟩ kT kF ?_ (by assumption) (by assumption) (by assumption) (by assumption)
 ·refine Bp (List.getElem?_of_mem he) ?_;intro j hj;refine hacc _ (hall j ?_ e hj);have:=(List.getElem?_eq_some_iff.mp hj).1;unfold Da;simpa using this
 rw [hR,htl] at kN;exact kN
theorem Lh {K:Type}{kvs:List (K×Value)}{vs:List Value}(hlen:vs.length=kvs.length)(hP:∀(j:Nat)(v:Value),vs[j]? = some v→∃k,kvs[j]? = some (k,v)):vs=kvs.map (·.2):=by
 apply FK;intro j;rw [AX]
 cases e:vs[j]? with
 | some v=>
  refine Bp (hP j v e) ?_;intro k hk;rw [hk];rfl
 | none=>
  have h1:vs.length≤j:=List.getElem?_eq_none_iff.mp e;have h2:kvs[j]? = none:=List.getElem?_eq_none_iff.mpr (by lia);rw [h2];rfl
section
variable {prog:AY}{w:World}{A:AO}{E:Value→A4→Prop}{s:A4}{h₀:Heap}{L:Addr}{m:Str→Option Value}{news:List (Addr×Obj)}
theorem ME {K:Type} [DecidableEq K] {knd:KeyKind prog w K}{env:Env}{elt:AW}{x:Str}{ifs:List AW}{scope:Scope}{Q:Value→A4→Prop}{vw d:Addr}{od:Obj}{kvs:List (K×Value)}(p:Value→Bool)(G:Value→Value→Prop)
  (hh:A.handled=none) (hv:(vw,(⟨.type "dict_values",none,.fields #[.ref d],#[]⟩:Obj))∈news) (hd:(d,od)∈news) (hdd:od.IsDictOf knd kvs) (F:Fr h₀ L s.heap m) (N:News h₀ L s.heap news)
  (g1:∀(C:Addr) (i:Nat) (k:K) (v:Value) s₃ m₃ E',kvs[i]? = some (k,v)→s₃.heap.Ns (compEnv scope C env).locals m₃→m₃ x=some v→Fr h₀ L s₃.heap m→News h₀ L s₃.heap news→
    wpAny (model prog w) A (forIn ifs true fun c r=>if r=true then do let ok ←isTrue c (compEnv scope C env) (eval c (compEnv scope C env));pure (J8 ok) else pure (J8 r))
     (fun ok s₄=>ok=p v∧Keeps s₃ s₄) E' s₃)
  (g2:∀(C:Addr) (i:Nat) (k:K) (v:Value) s₃ m₃ E',kvs[i]? = some (k,v)→p v=true→s₃.heap.Ns (compEnv scope C env).locals m₃→m₃ x=some v→Fr h₀ L s₃.heap m→News h₀ L s₃.heap news→
    wpAny (model prog w) A (eval elt (compEnv scope C env)) (fun y s₄=>G v y∧Keeps s₃ s₄) E' s₃)
  (g3:∀D h' tk ys ep,Fr h₀ L h' m→News h₀ L h' ((D,A1 ys ep)::news)→(∀q∈news,q.1≠D)→Paired G ((kvs.map (·.2)).filter p) ys.toList→Q (.ref D) { s with heap:=h',toks:=tk })
  (hsz:kvs.length≤FD:=by size_fits) :
  wpAny (model prog w) A (CR (.ref vw)) (CompPost prog w A env scope x ifs elt Q) E s:=by
 refine I0 (id hdd) ?_;intro es ep hdd';have hdA:∀h1:Heap,h1.get? d=some od→h1.DictAt knd d kvs ep:=fun h1 e=>⟨od,es,e,hdd'⟩;refine wpAny_pyIter_values ⟨_,(N _ hv).1,rfl,rfl⟩ (hdA _ (N _ hd).1) ?_;have hlt:d<s.heap.objs.size:=AZ (N _ hd).1;have F2:=F.push { cls:=.type "dict_valueiterator",data:=.fields #[.ref d,.int 0 0,.int kvs.length 0,.int ep 0] };have up:∀(h':Heap),(∀b o',b∉[s.heap.objs.size]→(s.heap.push { cls:=.type "dict_valueiterator",data:=.fields #[.ref d,.int 0 0,.int kvs.length 0,.int ep 0] }).get? b=some o'→h'.get? b=some o')→∀b o',s.heap.get? b=some o'→h'.get? b=some o':=
  fun h' hk b o' e=>hk b o' (not_iter_of_old e) (AE _ e)
 refine ⟨p,G,s.heap.objs.size,[s.heap.objs.size,d],[s.heap.objs.size],kvs.length,_,_,rfl,Walks.dictValues (knd:=knd) hh _ d (A7 hlt) kvs ep,hsz,
  ⟨⟨_,Aa _ rfl,rfl,rfl⟩,hdA _ (AE _ (N _ hd).1)⟩,?_,⟨?_,?_⟩,?_⟩
 ·intro b hb;show b<(s.heap.push _).objs.size;rw [Bq];refine AQ hb ?_ fun hb=>?_
  ·exact Al _
  rw [ms1 hb];exact AU hlt
 ·intro C i v s₃ m₃ E' hP hn hm hk _;refine Bp (hP) ?_;(try clear hP);intro k hk2;exact g1 C i k v s₃ m₃ E' hk2 hn hm (F.keeps (up _ hk)) (N.grown (up _ hk))
 ·intro C i v s₃ m₃ E' hP hp hn hm hk _;refine Bp (hP) ?_;(try clear hP);intro k hk2;exact g2 C i k v s₃ m₃ E' hk2 hp hn hm (F.keeps (up _ hk)) (N.grown (up _ hk))
 intro D h' tk ys vs hnew hlD hplD hlen hP hF hk;have e':vs=kvs.map (·.2):=Lh hlen hP;subst e';refine Bp (hplD) ?_;(try clear hplD);intro ep' hD;have hDs:s.heap.get? D=none:=by
  cases e:s.heap.get? D with
  | none=>rfl
  | some o'=>rw [AE _ e] at hnew;cases hnew
 have hD0:h₀.get? D=none:=by
  cases e:h₀.get? D with
  | none=>rfl
  | some o'=>rw [F.keep _ _ e] at hDs;cases hDs
 have hDL:D≠L:=by
  rintro rfl;refine Uw (F.ns) ?_;intro o es ep ho _;rw [ho] at hDs;cases hDs
 refine g3 D h' tk ys ep' (F.keeps (up h' hk)) (fun q hq=>?_) (fun q hq e=>?_) hF
 ·refine AQ hq ?_ fun hq=>?_
  ·exact ⟨hD,hDL,hD0⟩
  exact N.grown (up h' hk) q hq
 rw [←e,(N q hq).1] at hDs;cases hDs
end
section
variable {prog:AY}{w:World}{A:AO}{E:Value→A4→Prop}{s:A4}{h₀:Heap}{L:Addr}{m:Str→Option Value}{news:List (Addr×Obj)}
variable {K:Frag}{C dx x:Nat}{name:Str}{v:Value}{es es':List DictEntry}{n n':Nat}
theorem HB {Q:Unit→A4→Prop}(F:Fr h₀ L s.heap m)(X₀:K.In h₀)(N:News h₀ L s.heap news)(h1:(x,AT C dx)∈news)(h2:(dx,Fk es n)∈news)
  (hs:findIn K (.ref C) "__setattr__" = some (some (.builtin "object.__setattr__"))) (hp:plainOver K C=true) (ht:takerIn K C name=some none) (hh:hasDictIn K C=true) (hl:(getL name es).isSome=true)
  (e:(putL name (PyData.keyHash w.params name) (.str name (s.toks+1)) v es,putN name es n)=(es',n')) (hz:es'.length≤1000)
  (h:∀h',Fr h₀ L h' m→News h₀ L h' (CD dx (Fk es' n') news)→Q () { s with heap:=h',toks:=s.toks+2 }):wpAny (model prog w) A (OB (.ref x) name v) Q E s:=by
 refine CL (Prod.mk.inj e) ?_;intro e1 e2;exact set_plain (X₀.keeps F.keep) (E3 N h1 h2) hs (osa_dict (s:={ s with toks:=s.toks+1 }) F (EN N h2) (X₀.keeps F.keep) (E3 N h1 h2) rfl hp ht hh hl (fun p hp=>nomatch hp) (fun p hp=>by simpa using (mf1 hp).2) (by rw [putName_dict,e1,e2]) rfl hz fun h' F' N'=>h h' F' (GP N'))
end
theorem TV {prog:AY}{w:World}{A:AO}{E:Value→A4→Prop}{s:A4}{h₀:Heap}{L l:Addr}{m:Str→Option Value}{news:List (Addr×Obj)}{its:Array Value}{ep:Nat}{Q:Value→A4→Prop}(F:Fr h₀ L s.heap m)(N:News h₀ L s.heap news)(hm:(l,A1 its ep)∈news)(hz:its.size≤100000)
  (h:∀h' ep',Fr h₀ L h' m→News h₀ L h' (CD l (A1 #[] ep') news)→Q .none { s with heap:=h' }):wpAny (model prog w) A (call (.builtin "list.clear") [.ref l]) Q E s:=by
 have z:=N _ hm;have q:=PySem.IsL.update z.1 (fun _=>#[]);refine call_meets PySem.F.slot_list_clear ⟨_,z.1,rfl⟩ PySem.F.entry_list_clear (PySem.F.args_list_clear_1 _) (PySem.AutoSeq1.list_clear_list_0 l its ep (Bw hz)) ⟨z.1,h _ _ (F.change (BL ..) z.2.1 z.2.2) (C6 N hm (BL ..) q)⟩
section
variable {w:World}{A:AO}{E:Value→A4→Prop}{s:A4}{h₀:Heap}{L:Addr}{m:Str→Option Value}{news:List (Addr×Obj)}{xa d n2:Addr}{t1 t2 t3 t4 t5 t6:Tok}{rd:Value}{po nf:Int}
theorem UO {v:Value}{Q:Unit→A4→Prop}(F:Fr h₀ L s.heap m)(X:(Mine.K w.params).In h₀)(N:News h₀ L s.heap news)(h1:(xa,AT 362 d)∈news)(h2:(d,tsR w t1 t2 t3 t4 t5 t6 n2 rd po nf)∈news)
  (h:∀h',Fr h₀ L h' m→News h₀ L h' (CD d (tsR w t1 t2 t3 t4 t5 t6 n2 v po nf) news)→Q () { s with heap:=h',toks:=s.toks+2 }) :
  wpAny (model rw_nq0317_02.prog w) A (OB (.ref xa) (A0 "_ready_nodes") v) Q E s:=by
 revert X
 k_fill
 intro X;refine' HB F X N h1 h2 ?k6 ?k7 ?k8 ?k9 ?k10 ?k11 ?k13 h;(case k6=>k_is);(case k7=>k_is);(case k8=>k_is);(case k9=>k_is);(case k10=>k_get);(case k11=>k_put);(case k13=>exact Ad rfl)
theorem UT {k:Int}{t:Tok}{Q:Unit→A4→Prop}(F:Fr h₀ L s.heap m)(X:(Mine.K w.params).In h₀)(N:News h₀ L s.heap news)(h1:(xa,AT 362 d)∈news)(h2:(d,tsR w t1 t2 t3 t4 t5 t6 n2 rd po nf)∈news)
  (h:∀h',Fr h₀ L h' m→News h₀ L h' (CD d (tsR w t1 t2 t3 t t5 t6 n2 rd k nf) news)→Q () { s with heap:=h',toks:=s.toks+2 }) :
  wpAny (model rw_nq0317_02.prog w) A (OB (.ref xa) (A0 "_npassedout") (.int k t)) Q E s:=by
 revert X
 k_fill
 intro X;refine' HB F X N h1 h2 ?k6 ?k7 ?k8 ?k9 ?k10 ?k11 ?k13 h;(case k6=>k_is);(case k7=>k_is);(case k8=>k_is);(case k9=>k_is);(case k10=>k_get);(case k11=>k_put);(case k13=>exact Ad rfl)
theorem Ua {k:Int}{t:Tok}{Q:Unit→A4→Prop}(F:Fr h₀ L s.heap m)(X:(Mine.K w.params).In h₀)(N:News h₀ L s.heap news)(h1:(xa,AT 362 d)∈news)(h2:(d,tsR w t1 t2 t3 t4 t5 t6 n2 rd po nf)∈news)
  (h:∀h',Fr h₀ L h' m→News h₀ L h' (CD d (tsR w t1 t2 t3 t4 t5 t n2 rd po k) news)→Q () { s with heap:=h',toks:=s.toks+2 }) :
  wpAny (model rw_nq0317_02.prog w) A (OB (.ref xa) (A0 "_nfinished") (.int k t)) Q E s:=by
 revert X
 k_fill
 intro X;refine' HB F X N h1 h2 ?k6 ?k7 ?k8 ?k9 ?k10 ?k11 ?k13 h;(case k6=>k_is);(case k7=>k_is);(case k8=>k_is);(case k9=>k_is);(case k10=>k_get);(case k11=>k_put);(case k13=>exact Ad rfl)
end
noncomputable def IV (ns:List NI):List Value:=(ns.filter fun e=>e.np==0).map fun e=>.int e.nm e.tn
noncomputable def Me (ns:List NI)(v:Value):Bool:=match v with
 | .ref a=>ns.any fun e=>decide (e.a=a)&&e.np==0
 | _=>false
theorem Jo {s:A4}{t:Nat}:Keeps s { s with toks:=t }:=⟨s.heap,t,rfl,fun _ _ e=>e⟩
theorem Rn {ns:List NI}(hnd:(FB (C3 ns)).Nodup):∀{e e':NI},e∈ns→e'∈ns→e.a=e'.a→e=e':=by
 induction ns with
 | nil=>intro _ _ h;cases h
 | cons x r ih=>
  intro e e' he he' h;have hc:FB (C3 (x::r))=x.a::x.ad::x.sl::FB (C3 r):=rfl;rw [hc] at hnd;refine CL (nc1 hnd) ?_;intro h1 h2;have h3:=(nc1 (nc1 h2).2).2;have hk:∀{z:NI},z∈r→z.a∈FB (C3 r):=fun hz=>mm2 ⟨_,CE hz (.head _),rfl⟩;rcases mc1 he with q1 | q1<;>rcases mc1 he' with q2 | q2
  ·rw [q1,q2]
  ·rw [q1] at h;exact absurd (mT2 (h▸hk q2)) h1
  ·rw [q2] at h;exact absurd (mT2 (h▸hk q1)) h1
  exact ih h3 q1 q2 h
theorem Kv {ns:List NI}(hnd:(FB (C3 ns)).Nodup){e:NI}(he:e∈ns):Me ns (.ref e.a)=(e.np==0):=by
 show (ns.any fun e'=>decide (e'.a=e.a)&&e'.np==0)=_;rw [Bool.eq_iff_iff,List.any_eq_true]
 constructor
 ·rintro ⟨e',he',h⟩;rw [C8,decide_eq_true_eq] at h;have:=Rn hnd he' he h.1;subst this;exact h.2
 intro h;exact ⟨e,he,by rw [C8,decide_eq_true_eq];exact ⟨rfl,h⟩⟩
theorem NN {α:Type}{G:Value→Value→Prop}{f g:α→Value}{l:List α}{ys:List Value}(h:∀e∈l,∀y,G (f e) y→y=g e)(p:Paired G (l.map f) ys):ys=l.map g:=by
 induction l generalizing ys with
 | nil=>cases p;rfl
 | cons a l ih=>
  cases p with
  | cons h1 h2=>rw [Bx,h a (.head _) _ h1,ih (fun e he=>h e (.tail _ he)) h2]
theorem NH {ns:List NI}(hnd:(FB (C3 ns)).Nodup){ys:List Value}(h:Paired (fun v y=>∃e∈ns,v = .ref e.a∧y = .int e.nm e.tn) (((Da ns).map (·.2)).filter (Me ns)) ys):ys=IV ns:=by
 have e1:(Da ns).map (·.2)=ns.map fun e=>A3 e.a:=by unfold Da;rw [Ao];rfl
 rw [e1,List.filter_map] at h;have e2:ns.filter ((Me ns)∘fun e=>A3 e.a)=ns.filter fun e=>e.np==0:=List.filter_congr fun e he=>Kv hnd he;rw [e2] at h;refine NN (fun e he y hy=>?_) h;refine Dn (hy) ?_;(try clear hy);intro e' he' h1 e93;subst e93;injection h1 with h1;rw [Rn hnd (mf1 he).1 he' h1]
noncomputable def Gl (g:Gr)(xs:List Int):Gr:=xs.foldl (fun g x=>gup g x fun e=>{ e with np:=-1 }) g
theorem Ip (w:World)(p:AY)(lo:List Str)(mean:CG→Option Value)(mg mb:Str→Option Value)
  (gd:Option (List Code)) (cn:Str) (cs:Scope) (a:Addr) (ccd:Value) (cl:List (Str×Addr)) (outer:List Env) (A₀:AO) (base h₀:Heap) (L:Addr) (m:Str→Option Value) (rest:List (Addr×Obj)) (s:A4)
  (xa d n2 D:Addr) (o2:Obj) (ns:List NI) (rs:List (Int×Tok)) (ep:Nat) (t1 t2 t3 t4 t5 t6:Tok) (po nf:Int) (Q E:Value→A4→Prop)
  (B:Below A₀ base outer h₀) (F:Fr h₀ L s.heap m) (X:(Mine.K w.params).In h₀) (N:News h₀ L s.heap ((xa,AT 362 d)::(d,tsR w t1 t2 t3 t4 t5 t6 n2 (.ref D) po nf)::(n2,o2)::(D,A1 (An rs) ep)::(C3 ns++rest))) (T:Top p lo mean mg mb h₀) (hk:cs.kind = .function)
  (hd:o2.IsDictOf (AM rw_nq0317_02.prog w) (Da ns)) (lo2:(n2==BV)=false) (hnn:(ns.map (·.nm)).Nodup) (hl:ns.length≤100) (hrl:rs.length≤100) (hrn:∀q∈rs,q.1∈ns.map (·.nm)) (hln:∀e∈ns,True)
  (hnd:(GK xa d n2 ns).Nodup) (hoff:∀p∈rest,p.1∉D::GK xa d n2 ns) (hD:D∉GK xa d n2 ns)
  (hret:∀T0 c t4' po' ep8 h' tk',Da c=Da ns→c.map (·.nm)=ns.map (·.nm)→GK xa d n2 c=GK xa d n2 ns→BW c=Gl (BW ns) (rs.map (·.1))→T0∉D::GK xa d n2 ns→(∀p∈rest,p.1≠T0)→Fr h₀ L h' m→
   News h₀ L h' ((T0,(⟨.type "tuple",none,.seq (An rs) 0,#[]⟩:Obj))::(xa,AT 362 d)::(d,tsR w t1 t2 t3 t4' t5 t6 n2 (.ref D) po' nf)::(n2,o2)::(D,A1 #[] ep8)::(C3 c++rest))→Q (.ref T0) { s with heap:=h',toks:=tk' }) :
  wpAny (model (rw_nq0317_02.prog) w) (Bi 350 500 gd cn cs L a ccd cl outer) (call (.ref 324) [.ref xa]) Q E s:=by
 refine (let oT:Obj:=tsR w t1 t2 t3 t4 t5 t6 n2 (.ref D) po nf;have N9:News _ _ _ (_::(_,oT)::_):=N;?_);clear N;have N:=N9;clear N9;refine (let oV:Obj:=(⟨.type "tuple",none,.seq (An rs) 0,#[]⟩:Obj);?_);k_with "+8" =>skip
 k_with "8" =>(fail_if_success k_extra "+9")
 k_with "m" =>k_extra "8"
 k_with "k" =>k_extra "8"
 k_with "ap" =>k_extra "8"
 k_with "aq" =>k_extra "8"
 k_with "ar" =>k_extra "8"
 k_with "as" =>k_extra "8"
 k_with "at" =>k_extra "8"
 k_with "au" =>k_extra "8"
 k_with "aa" =>k_extra "8"
 k_with "av" =>k_extra "8"
 k_with "x" =>k_extra "8"
 k_with "aw" =>k_extra "8"
 refine CV (C3 ns++rest) ?_;intro tl htl;rw [←htl] at N;k_with "+9" =>skip
 k_with "9" =>(fail_if_success k_extra "+10")
 k_with "m" =>k_extra "9"
 k_with "k" =>k_extra "9"
 k_with "ap" =>k_extra "9"
 k_with "aq" =>k_extra "9"
 k_with "ar" =>k_extra "9"
 k_with "as" =>k_extra "9"
 k_with "at" =>k_extra "9"
 k_with "au" =>k_extra "9"
 k_with "aa" =>k_extra "9"
 k_with "av" =>k_extra "9"
 k_with "x" =>k_extra "9"
 k_with "aw" =>k_extra "9"
 k_with "j" =>k_extra "9"
 revert X
 k_fill
 intro X;refine BN ?_
 k_dflt (refine' HJ (binds:=[(A0 "self",.ref xa)]) ?k1 ?k2 ?k3 ?k4 ?k5 ?kA ?kF ?kK ?k6 ?k7 ?k8 ?k9 ?kB ?_ ?c2 ?c3 ?c4 ?c5;(case kA=>exact rfl);(case kF=>exact rfl);(case kK=>assumption);(case k1=>k_asm);(case k2=>k_asm);(case k3=>k_asm);(case k4=>k_asm);(case k5=>k_asm);(case k6=>k_is);(case k7=>k_is);(case k8=>ktr_room);(case k9=>first | exact CA rfl | exact Q1 (by k_in) rfl (by k_is) rfl rfl rfl);(case kB=>exact locs rfl);(case c2=>exact rfl);(case c3=>exact rfl);(case c4=>exact rfl);(case c5=>decide);k_whole;intro g' L' h' FG' F' N' B' X' T';(try dsimp only);(try k_fold))
 refine (let A9:AO:=_;(?_:wpAny _ A9 _ _ _ _));k_steps;refine ⟨?_⟩;rename Fr _ _ _ _=>F1;rename News _ _ _ _=>N1;have hsz:(An rs).size≤16384:=by unfold An;rw [Ae,AB];lia
 refine kde_tupleOf F1 N1 (BI N1 mH3) hsz rfl fun T0 h1 F2 N2 l1=>?_;clear F1 N1;rw [Array.toArray_toList] at N2;k_steps;refine ⟨?_⟩;rename Fr _ _ _ _=>F3;rename News _ _ _ _=>N3;rw [htl] at N3;have hTG0:∀b∈D::GK xa d n2 ns,T0≠b:=by
  intro b hb;have:b<T0:=by
   refine AQ hb ?_ fun hb=>?_
   ·exact l1 _ mH3
   refine AQ hb ?_ fun hb=>?_
   ·exact l1 _ (.head _)
   refine AQ hb ?_ fun hb=>?_
   ·exact l1 _ mH1
   refine AQ hb ?_ fun hb=>?_
   ·exact l1 _ mH2
   refine mmE hb ?_;intro p hp;exact l1 p (mT4 (by rw [htl];exact maL _ hp))
  exact (A7 this).symm
 refine Jv (σ:=List NI) (fun c=>(T0,oV)::(xa,AT 362 d)::(d,oT)::(n2,o2)::(D,A1 (An rs) ep)::(C3 c++rest)) (fun _=>[]) []
  (fun i c=>Da c=Da ns∧c.map (·.nm)=ns.map (·.nm)∧GK xa d n2 c=GK xa d n2 ns∧BW c=Gl (BW ns) ((rs.map (·.1)).take i))
  ns rfl ⟨_,(N3 _ (.head _)).1,rfl,_,rfl⟩ (N3 _ (.head _)).2.1 F3 N3 ?hP (AA _) ?turn ?done
 case hP=>exact ⟨rfl,rfl,rfl,rfl⟩
 case turn=>
  clear N3 F3;intro i c v u h tk own wr hv hP hoffw hw hf F' N';refine (let Qt1:Flow→A4→Prop:=_;(?_:wpAny _ _ _ Qt1 _ _));refine (let mt1:Str→Option Value:=_;have F9:Fr _ _ _ mt1:=F';?_);clear F';have F':=F9;clear F9;refine Fi (hP) ?_;(try clear hP);intro p1 p2 p3 p4;refine HA (Gj hv) ?_;intro b tb e92 hb;subst e92;have hnn2:(c.map (·.nm)).Nodup:=by rw [p2];exact hnn
  have hnd2:(GK xa d n2 c).Nodup:=by rw [p3];exact hnd
  have hd2:o2.IsDictOf (AM rw_nq0317_02.prog w) (Da c):=by rw [p1];exact hd
  have hbn:b∈c.map (·.nm):=by
   rw [p2];refine Aq (mm1 (AK hb)) ?_;intro q hq e;exact e▸hrn q hq
  refine Aq (mm1 hbn) ?_;intro e he hen;have hen2:e.nm=b:=hen;subst hen2;refine CV ((T0,oV)::(xa,AT 362 d)::(d,oT)::(n2,o2)::(D,A1 (An rs) ep)::(C3 c++rest)) ?_;intro Lc hLc;k_steps;refine ⟨?_⟩;rename Fr _ _ _ _=>F4;rename News _ _ _ _=>N4;have N5:News g' L' h (Lc++own):=by rw [hLc];exact N4
  clear N4;have mem:∀q,q∈Lc→q∈Lc++own:=fun q hq=>maL _ hq;have mn2:(n2,o2)∈Lc++own:=mem _ (by rw [hLc];exact mH3);have mnd:∀q∈EZ e,q∈Lc++own:=fun q hq=>mem _ (by rw [hLc];exact mT5 (maL _ (CE he hq)));refine kdt_tail N5 mn2 hd2 (kdt_getItem N5 mn2 hd2 (BH _ _ _ _) (Ey hnn2 he) ?_);k_steps;refine ⟨?_⟩;rename Fr _ _ _ _=>F6;rename News _ _ _ _=>N6;refine L2 F6 X' N6 (mnd _ (.head _)) (mnd _ mH1) fun h7 F7 N7=>?_;clear F6 N6;k_steps;show DX _ _ _ _ _ _ _;refine CV (upX c e.nm fun e=>{ e with np:=-1,tp:=578 }) ?_;intro c2 hc2;have hGK2:GK xa d n2 c2=GK xa d n2 c:=by rw [hc2,Hh (f:=fun e=>{ e with np:=-1,tp:=578 }) (fun _=>rfl)]
  have hTc:T0∉GK xa d n2 c:=fun hm=>hTG0 _ (.tail _ (p3▸hm)) rfl;have hown:∀q∈own,q.1∉GK xa d n2 c:=by
   intro q hq hm;rcases hf q hq with hw1 | hw1
   ·have hin:∃o,(q.1,o)∈Lc:=by
     rw [hLc];rcases mc1 hm with e | hm
     ·exact ⟨_,by rw [e];exact mH1⟩
     rcases mc1 hm with e | hm
     ·exact ⟨_,by rw [e];exact mH2⟩
     rcases mc1 hm with e | hm
     ·exact ⟨_,by rw [e];exact mH3⟩
     refine Aq (mm1 hm) ?_;intro z hz1 hz2;exact ⟨z.2,by rw [←hz2];exact mT5 (maL _ hz1)⟩
    refine Bp (hin) ?_;(try clear hin);intro o ho;rw [hLc] at ho;exact hoffw _ ho hw1
   exact hTc (hw1▸hm)
  have hwr:∀b∈wr,b∉GK xa d n2 c:=by
   intro b hb;refine Bp (hw b hb) ?_;intro o ho;exact hown (b,o) ho
  have hE:Lc++own=[(T0,oV),(xa,AT 362 d),(d,oT),(n2,o2),(D,A1 (An rs) ep)]++(C3 c++(rest++own)):=by
   rw [hLc];simp
  refine Dj (HE hnd2) ?_;intro f1 f2 f3;have hset:=Gy (k:=-1) (t:=578) (pre:=[(T0,oV),(xa,AT 362 d),(d,oT),(n2,o2),(D,A1 (An rs) ep)]) (rest:=rest++own) hnn2 hnd2
   (fc1 ⟨fun hm=>hTc (En hm),fc1 ⟨f1,fc1 ⟨f2,fc1 ⟨f3,fc1 ⟨fun hm=>hD (p3▸En hm),AA _⟩⟩⟩⟩⟩)
   (fun q hq=>by
    refine AF hq (fun hq=>?_) fun hq=>?_
    ·exact fun hm=>hoff q hq (.tail _ (p3▸hm))
    exact hown q hq) he
  rw [hE] at N7;rw [←hc2] at hset;refine HT (σ:=List NI) c2 F7 N7 ?h1 ?h2 ?h3 ?hP (AA _) ?hz
  case h1=>
   intro q hq;refine hset q ?_;have hq':q∈[(T0,oV),(xa,AT 362 d),(d,oT),(n2,o2),(D,A1 (An rs) ep)]++(C3 c2++rest):=hq;refine AF hq' (fun hq=>?_) fun hq=>?_
   ·exact maL _ hq
   refine AF hq (fun hq=>?_) fun hq=>?_
   ·exact maR _ (maL _ hq)
   exact maR _ (maR _ (maL _ hq))
  case h2=>
   intro q hq;exact hset q (maR _ (maR _ (maR _ hq)))
  case h3=>
   intro q hq;refine AQ hq ?_ fun hq=>?_
   ·exact hoffw _ (.head _)
   refine AQ hq ?_ fun hq=>?_
   ·exact hoffw _ mH1
   refine AQ hq ?_ fun hq=>?_
   ·exact hoffw _ mH2
   refine AQ hq ?_ fun hq=>?_
   ·exact hoffw _ mH3
   refine AQ hq ?_ fun hq=>?_
   ·exact hoffw _ mH4
   refine AF hq (fun hq=>?_) fun hq=>?_
   ·exact fun hm=>hwr _ hm (hGK2▸En (mm2 ⟨q,hq,rfl⟩))
   exact hoffw q (mT5 (maR _ hq))
  case hP=>
   refine ⟨?_,?_,hGK2.trans p3,?_⟩
   ·rw [hc2,HR (f:=fun e=>{ e with np:=-1,tp:=578 }) (fun _=>rfl) (fun _=>rfl)];exact p1
   ·rw [hc2,HQ (f:=fun e=>{ e with np:=-1,tp:=578 }) (fun _=>rfl)];exact p2
   rw [hc2,K3 (f':=fun e=>{ e with np:=-1 }) (fun _=>rfl),p4,E4,hb];unfold Gl;rw [FI];rfl
  intro z h1 _ h2;have e2:z≠A0 "node" :=CU h1 (by decide);dsimp only [mt1];rw [if_neg e2];exact EI h2
 clear N3 F3;intro c u h tk p9 F3 N3;refine Fi p9 ?_;(try clear p9);intro p1 p2 p3 p4;have hTG:∀p∈C3 c++rest,p.1≠D:=by
  intro p hp e;refine AF hp (fun hp=>?_) fun hp=>?_
  ·exact hD (by rw [←p3];exact En (mm2 ⟨p,hp,e⟩))
  exact hoff p hp (e▸.head _)
 k_steps;refine ⟨?_⟩;refine Fe PySem.F.slot_list_clear PySem.F.type_list_clear N3 mH4 ?_;k_steps;refine ⟨?_⟩;refine TV F3 N3 mH4 (by lia) fun h8 ep8 F8 N8=>?_;clear F3 N3;have N9:News g' L' h8 ((T0,oV)::(xa,AT 362 d)::(d,oT)::(n2,o2)::(D,A1 #[] ep8)::(C3 c++rest)):=Bo N8 (A6 (A8 (.head _) (hTG0 _ (.head _))) (A6 (A8 mH1 (fun e=>hD (e▸.head _))) (A6 (A8 mH2 (fun e=>hD (e▸mH1))) (A6 (A8 mH3 (fun e=>hD (e▸mH2))) (A6 (AV mH4) (fun q hq=>A8 (mT5 hq) (hTG q hq)))))));clear N8;k_steps;refine ⟨?_⟩;rename Fr _ _ _ _=>F10;rename News _ _ _ _=>N10;refine UT F10 X' N10 mH1 mH2 fun h11 F11 N11=>?_;clear F10 N10;refine (let G9:Prop:=_;(?_:G9));refine I0 (⟨_,_,N11⟩:∃t4' po',News g' L' h11 (CD d (tsR w t1 t2 t3 t4' t5 t6 n2 (.ref D) po' nf) ((T0,oV)::(xa,AT 362 d)::(d,oT)::(n2,o2)::(D,A1 #[] ep8)::(C3 c++rest)))) ?_;intro t4' po' N12;refine (?_:wpAny _ _ _ _ _ _);clear N11;have hdG:∀q∈C3 c++rest,q.1≠d:=by
  intro q hq e;refine AF hq (fun hq=>?_) fun hq=>?_
  ·exact (HE hnd).2.1 (by
    have h9:GK xa d n2 c=GK xa d n2 ns:=p3;unfold GK at h9;injection h9 with _ h9;injection h9 with _ h9;injection h9 with _ h9;rw [←h9];exact mm2 ⟨q,hq,e⟩)
  exact hoff q hq (e▸mH2)
 have hdx:xa≠d∧n2≠d:=by
  have q1:=nc1 hnd;have q2:=nc1 q1.2;exact ⟨fun e=>q1.1 (e▸.head _),fun e=>q2.1 (e▸.head _)⟩
 have N13:News g' L' h11 ((T0,oV)::(xa,AT 362 d)::(d,tsR w t1 t2 t3 t4' t5 t6 n2 (.ref D) po' nf)::(n2,o2)::(D,A1 #[] ep8)::(C3 c++rest)):=Bo N12 (A6 (A8 (.head _) (hTG0 _ mH2)) (A6 (A8 mH1 hdx.1) (A6 (AV mH2) (A6 (A8 mH3 hdx.2) (A6 (A8 mH4 (fun e=>hD (e▸mH1))) (fun q hq=>A8 (mT5 hq) (hdG q hq)))))));clear N12;k_steps;rename Fr h₀ _ _ _=>kF;rename News h₀ _ _ _=>kN;refine hret T0 c t4' po' ep8 _ _ p1 p2 p3 ?_ (fun hm=>hTG0 _ hm rfl) (fun q hq e=>?_) kF kN
 ·rw [p4,BA];unfold An;simp
 have:=l1 q (mT4 (by rw [htl];exact maR _ hq));rw [e] at this;exact Av _ this
noncomputable def gnp (g:Gr)(b:Int):Int:=match g.find? fun e=>e.nm=b with | some e=>e.np | none=>0
noncomputable def gsc (g:Gr)(b:Int):List Int:=match g.find? fun e=>e.nm=b with | some e=>e.sc | none=>[]
noncomputable def J2 (st:Gr×List Int)(b:Int):Gr×List Int:=(gup st.1 b fun e=>{ e with np:=e.np-1 },if gnp st.1 b=1 then st.2++[b] else st.2)
noncomputable def Dl (st:Gr×List Int)(x:Int):Gr×List Int:=(gsc st.1 x).foldl J2 (gup st.1 x fun e=>{ e with np:=-2 },st.2)
noncomputable def EY (st:Gr×List Int)(xs:List Int):Gr×List Int:=xs.foldl Dl st
theorem KL {ns:List NI}(hnn:(ns.map (·.nm)).Nodup){e:NI}(he:e∈ns):(BW ns).find? (fun g=>g.nm=e.nm)=some (DF e):=by
 unfold BW;rw [FJ]
 cases hf:ns.find? ((fun e':GN=>decide (e'.nm=e.nm))∘DF) with
 | none=>exact absurd (Ck.mp hf e he) (by simp [DF])
 | some e'=>
  have h0:=CO hf;have h00:decide ((DF e').nm=e.nm)=true:=h0;have h1:(DF e').nm=e.nm:=of_decide_eq_true h00;have h2:e'.nm=e.nm:=h1;rw [De hnn (DT hf) he h2];rfl
theorem Rz {ns:List NI}(hnn:(ns.map (·.nm)).Nodup){e:NI}(he:e∈ns):gnp (BW ns) e.nm=e.np:=by
 unfold gnp;rw [KL hnn he];rfl
theorem H6 {ns:List NI}(hnn:(ns.map (·.nm)).Nodup){e:NI}(he:e∈ns):gsc (BW ns) e.nm=e.sc.map (·.1):=by
 unfold gsc;rw [KL hnn he];rfl
theorem FA {g:Gr}{x:Int}{f:GN→GN}(h:∀e,(f e).nm=e.nm)(b:Int):(gup g x f).find? (fun e=>e.nm=b)=(g.find? fun e=>e.nm=b).map fun e=>if e.nm=x then f e else e:=by
 unfold gup;rw [FJ]
 congr 1
 congr 1
 funext e
 show decide ((if e.nm=x then f e else e).nm=b)=decide (e.nm=b);split
 ·rw [h]
 rfl
theorem Il {g:Gr}{x:Int}{f:GN→GN}(h:∀e,(f e).nm=e.nm)(h2:∀e,(f e).sc=e.sc)(b:Int):gsc (gup g x f) b=gsc g b:=by
 unfold gsc;rw [FA h]
 cases g.find? fun e=>e.nm=b with
 | none=>rfl
 | some e=>
  show (if e.nm=x then f e else e).sc=e.sc;split
  ·exact h2 e
  rfl
theorem FS {g:Gr}{x:Int}{f:GN→GN}(h:∀e,(f e).nm=e.nm){b:Int}(hb:b≠x):gnp (gup g x f) b=gnp g b:=by
 unfold gnp;rw [FA h]
 cases hf:g.find? fun e=>e.nm=b with
 | none=>rfl
 | some e=>
  have h1:e.nm=b:=by simpa using CO hf
  show (if e.nm=x then f e else e).np=e.np;rw [if_neg (by rw [h1];exact hb)]
theorem TC (st:Gr×List Int)(c b:Int):gsc (J2 st c).1 b=gsc st.1 b:=Il (f:=fun e=>{ e with np:=e.np-1 }) (fun _=>rfl) (fun _=>rfl) b
theorem LA:∀(l:List Int)(st:Gr×List Int)(b:Int),gsc (l.foldl J2 st).1 b=gsc st.1 b
 | [],_,_=>rfl
 | c::l,st,b=>by rw [Ee,LA l,TC]
theorem LB:∀(l:List Int)(st:Gr×List Int)(b:Int),b∉l→gnp (l.foldl J2 st).1 b=gnp st.1 b
 | [],_,_,_=>rfl
 | c::l,st,b,h=>by
  rw [Ee,LB l _ _ (fun hm=>h (.tail _ hm))];exact FS (f:=fun e=>{ e with np:=e.np-1 }) (fun _=>rfl) (fun e=>h (by rw [e];exact .head _))
theorem H7 (st:Gr×List Int)(x b:Int):gsc (Dl st x).1 b=gsc st.1 b:=by
 unfold Dl;rw [LA];exact Il (f:=fun e=>{ e with np:=-2 }) (fun _=>rfl) (fun _=>rfl) b
theorem PG (st:Gr×List Int){x b:Int}(h1:b≠x)(h2:b∉gsc st.1 x):gnp (Dl st x).1 b=gnp st.1 b:=by
 unfold Dl;rw [LB _ _ _ h2];exact FS (f:=fun e=>{ e with np:=-2 }) (fun _=>rfl) h1
theorem SD {ns:List NI}{x:Int}{f:NI→NI}{e:NI}(he:e∈ns):(if e.nm=x then f e else e)∈upX ns x f:=mm2 ⟨e,he,rfl⟩
set_option tactic.hygienic true in
theorem Lr {ns:List NI}{x:Int}{f:NI→NI}{f':GN→GN}(h:∀e∈ns,e.nm=x→DF (f e)=f' (DF e)):BW (upX ns x f)=gup (BW ns) x f':=by
 unfold BW upX gup;rw [Ao,Ao];apply Az;intro e he;show DF (if e.nm=x then f e else e)=if (DF e).nm=x then f' (DF e) else DF e
 have:(DF e).nm=e.nm:=rfl;rw [this];split
 ·rename_i h1;exact h e he h1
 rfl
structure DS where
 ns:List NI
 rs:List (Int×Tok)
 ep:Nat
 t6:Tok
 nf:Int
theorem Ux (w:World)(p:AY)(lo:List Str)(mean:CG→Option Value)(mg mb:Str→Option Value)
  (gd:Option (List Code)) (cn:Str) (cs:Scope) (a:Addr) (ccd:Value) (cl:List (Str×Addr)) (outer:List Env) (A₀:AO) (base h₀:Heap) (L:Addr) (m:Str→Option Value) (rest:List (Addr×Obj)) (s:A4)
  (xa d n2 D:Addr) (o2:Obj) (ns:List NI) (xs rs:List (Int×Tok)) (ep:Nat) (t1 t2 t3 t4 t5 t6:Tok) (po nf:Int) (vs:List Value) (Q E:Value→A4→Prop)
  (B:Below A₀ base outer h₀) (F:Fr h₀ L s.heap m) (X:(Mine.K w.params).In h₀) (N:News h₀ L s.heap ((xa,AT 362 d)::(d,tsR w t1 t2 t3 t4 t5 t6 n2 (.ref D) po nf)::(n2,o2)::(D,A1 (An rs) ep)::(C3 ns++rest))) (T:Top p lo mean mg mb h₀) (hk:cs.kind = .function)
  (hd:o2.IsDictOf (AM rw_nq0317_02.prog w) (Da ns)) (lo2:(n2==BV)=false) (hnn:(ns.map (·.nm)).Nodup) (hl:ns.length≤100) (hxl:xs.length≤100) (hxn:∀q∈xs,q.1∈ns.map (·.nm)) (hln:∀e∈ns,True)
  (hnd:(GK xa d n2 ns).Nodup) (hoff:∀p∈rest,p.1∉D::GK xa d n2 ns) (hD:D∉GK xa d n2 ns) (hvs:vs=xs.map fun q=>A5 q.1 q.2) (hvl:vs.length≤12) (hout:∀q∈xs,gnp (BW ns) q.1 = -1) (hxd:(xs.map (·.1)).Nodup) (hns:∀q∈xs,∀r∈xs,r.1∉gsc (BW ns) q.1) (hscl:∀e∈ns,e.sc.length≤1000) (hcl:∀x b,b∈gsc (BW ns) x→b∈ns.map (·.nm)) (hrl:rs.length≤100)
  (hret:∀T0 (c:DS) h' tk',Da c.ns=Da ns→c.ns.map (·.nm)=ns.map (·.nm)→GK xa d n2 c.ns=GK xa d n2 ns→(BW c.ns,c.rs.map (·.1))=EY (BW ns,rs.map (·.1)) (xs.map (·.1))→T0∉D::GK xa d n2 ns→(∀p∈rest,p.1≠T0)→Fr h₀ L h' m→
   News h₀ L h' ((T0,(⟨.type "tuple",none,.seq vs.toArray 0,#[]⟩:Obj))::(xa,AT 362 d)::(d,tsR w t1 t2 t3 t4 t5 c.t6 n2 (.ref D) po c.nf)::(n2,o2)::(D,A1 (An c.rs) c.ep)::(C3 c.ns++rest))→Q .none { s with heap:=h',toks:=tk' }) :
  Bt (model (rw_nq0317_02.prog) w) (Bi 350 500 gd cn cs L a ccd cl outer) (.call (.ref 345) ⟨.ref xa::vs,[]⟩) (fun r s'=>match r with | .ok (.ret v)=>Q v s' | .ok _=>False | .error e=>E e s') s:=by
 k_with "+10" =>skip
 k_with "10" =>(fail_if_success k_extra "+11")
 k_with "m" =>k_extra "10"
 k_with "k" =>k_extra "10"
 k_with "aq" =>k_extra "10"
 k_with "ar" =>k_extra "10"
 k_with "as" =>k_extra "10"
 k_with "at" =>k_extra "10"
 k_with "au" =>k_extra "10"
 k_with "aa" =>k_extra "10"
 k_with "n" =>k_extra "10"
 k_with "i" =>k_extra "10"
 k_with "ax" =>k_extra "10"
 refine CV (C3 ns++rest) ?_;intro tl htl;rw [←htl] at N;k_with "+11" =>skip
 k_with "11" =>(fail_if_success k_extra "+12")
 k_with "m" =>k_extra "11"
 k_with "k" =>k_extra "11"
 k_with "aq" =>k_extra "11"
 k_with "ar" =>k_extra "11"
 k_with "as" =>k_extra "11"
 k_with "at" =>k_extra "11"
 k_with "au" =>k_extra "11"
 k_with "aa" =>k_extra "11"
 k_with "n" =>k_extra "11"
 k_with "i" =>k_extra "11"
 k_with "ax" =>k_extra "11"
 k_with "j" =>k_extra "11"
 revert X
 k_fill
 intro X
 k_dflt (refine' kp_rest (vs:=vs) (g₁:=fun D=>some [(A0 "self",A3 xa),(A0 "nodes",A3 D)]) (binds:=fun D=>[(A0 "self",A3 xa),(A0 "nodes",A3 D)]) ?k1 ?k2 ?k3 ?k4 ?k5 ?kA ?kF ?kK ?k6 ?k7 ?k8 ?kV ?kP ?kG ?kB ?_ ?c2 ?c3 ?c4 ?c5;(case kA=>exact rfl);(case kF=>exact rfl);(case kK=>assumption);(case k1=>k_asm);(case k2=>k_asm);(case k3=>k_asm);(case k4=>k_asm);(case k5=>k_asm);(case k6=>k_is);(case k7=>k_is);(case k8=>ktr_room);(case kV=>exact rfl);(case kP=>(clear hvs;(iterate 12 (rcases vs with _ | ⟨_,vs⟩;exact rfl));rcases vs with _ | ⟨_,vs⟩;exact rfl;(simp at hvl)));(case kG=>exact fun _=>rfl);(case kB=>exact fun _=>locs rfl);(case c5=>decide);(case c2=>exact rfl);(case c3=>exact rfl);(case c4=>exact rfl);k_whole;intro D' g' L' h' l1 FG' F' N' B' X' T';(try dsimp only);(try k_fold))
 refine (let A9:AO:=_;(?_:wpAny _ A9 _ _ _ _));k_steps;refine ⟨?_⟩;rename Fr _ _ _ _=>F3;rename News _ _ _ _=>N3;rw [htl] at N3;have hTG0:∀b∈D::GK xa d n2 ns,D'≠b:=by
  intro b hb;have:b<D':=by
   refine AQ hb ?_ fun hb=>?_
   ·exact l1 _ mH3
   refine AQ hb ?_ fun hb=>?_
   ·exact l1 _ (.head _)
   refine AQ hb ?_ fun hb=>?_
   ·exact l1 _ mH1
   refine AQ hb ?_ fun hb=>?_
   ·exact l1 _ mH2
   refine mmE hb ?_;intro p hp;exact l1 p (mT4 (by rw [htl];exact maL _ hp))
  exact (A7 this).symm
 refine (let oV:Obj:=⟨.type "tuple",none,.seq vs.toArray 0,#[]⟩;?_);refine Jv (σ:=DS) (fun c=>(D',oV)::(xa,AT 362 d)::(d,tsR w t1 t2 t3 t4 t5 c.t6 n2 (.ref D) po c.nf)::(n2,o2)::(D,A1 (An c.rs) c.ep)::(C3 c.ns++rest)) (fun _=>[])
  [A0 "nodeinfo",A0 "stat",A0 "successor",A0 "successor_info"]
  (fun i c=>Da c.ns=Da ns∧c.ns.map (·.nm)=ns.map (·.nm)∧GK xa d n2 c.ns=GK xa d n2 ns∧(BW c.ns,c.rs.map (·.1))=EY (BW ns,rs.map (·.1)) ((xs.map (·.1)).take i)∧
   (∀x,gsc (BW c.ns) x=gsc (BW ns) x)∧(∀j q,i≤j→xs[j]? = some q→gnp (BW c.ns) q.1 = -1)∧c.rs.length≤rs.length+i*1000)
  ⟨ns,rs,ep,t6,nf⟩ rfl ⟨_,(N3 _ (.head _)).1,rfl,_,rfl⟩ (N3 _ (.head _)).2.1 F3 N3 ?hP (AA _) ?turn ?done
 case hP=>exact ⟨rfl,rfl,rfl,rfl,fun _=>rfl,fun j q _ hq=>hout q (AK hq),Pq _ _⟩
 case turn=>
  clear N3 F3;intro i c v u h tk own wr hv hP hoffw hw hf F' N';refine (let Qt1:Flow→A4→Prop:=_;(?_:wpAny _ _ _ Qt1 _ _));refine (let mt1:Str→Option Value:=_;have F9:Fr _ _ _ mt1:=F';?_);clear F';have F':=F9;clear F9;refine (let oT:Obj:=tsR w t1 t2 t3 t4 t5 c.t6 n2 (.ref D) po c.nf;?_);refine Nn (hP) ?_;(try clear hP);intro p1 p2 p3 p4 p5 p6 p7;refine (let G9:Prop:=_;(?_:G9));obtain ⟨x,hx,rfl⟩:∃x,xs[i]? = some x∧v = .int x.1 x.2:=by
   rw [hvs,Bj,AX] at hv;refine Aq (Option.map_eq_some_iff.mp hv) ?_;intro x hx e92;subst e92;exact ⟨x,hx,rfl⟩
  refine (?_:wpAny _ _ _ _ _ _);have hnn2:(c.ns.map (·.nm)).Nodup:=by rw [p2];exact hnn
  have hnd2:(GK xa d n2 c.ns).Nodup:=by rw [p3];exact hnd
  have hd2:o2.IsDictOf (AM rw_nq0317_02.prog w) (Da c.ns):=by rw [p1];exact hd
  have hbn:x.1∈c.ns.map (·.nm):=by rw [p2];exact hxn x (AK hx)
  refine Aq (mm1 hbn) ?_;intro e he hen;have hen2:e.nm=x.1:=hen;obtain ⟨xnm,xtk⟩:=x;have hen3:e.nm=xnm:=hen2;subst hen3;have hnp:e.np = -1:=by
   have h9:=p6 i _ (Ap _) hx;rw [←h9];exact (Rz hnn2 he).symm
  refine CV ((D',oV)::(xa,AT 362 d)::(d,oT)::(n2,o2)::(D,A1 (An c.rs) c.ep)::(C3 c.ns++rest)) ?_;intro Lc hLc;k_steps;refine ⟨?_⟩;rename Fr _ _ _ _=>F4;rename News _ _ _ _=>N4;have N5:News g' L' h (Lc++own):=by rw [hLc];exact N4
  clear N4;have mem:∀q,q∈Lc→q∈Lc++own:=fun q hq=>maL _ hq;have mn2:(n2,o2)∈Lc++own:=mem _ (by rw [hLc];exact mH3);have mnd:∀q∈EZ e,q∈Lc++own:=fun q hq=>mem _ (by rw [hLc];exact mT5 (maL _ (CE he hq)));refine LC N5 mn2 hd2 lo2 (BH _ _ _ _) (Ey hnn2 he) ?_;k_steps;refine ⟨?_⟩;rename Fr _ _ _ _=>F6;rename News _ _ _ _=>N6;refine Jg F6 X' N6 (mnd _ (.head _)) (mnd _ mH1) ?_;rw [hnp];k_steps;refine ⟨?_⟩;rename Fr _ _ _ _=>F7;rename News _ _ _ _=>N7;refine L2 F7 X' N7 (mnd _ (.head _)) (mnd _ mH1) fun h8 F8 N8=>?_;clear F7 N7;refine (let G9:Prop:=_;(?_:G9));refine Bp (⟨_,N8⟩:∃t8,News g' L' h8 (CD e.a (GV e.ad e.nm e.tn (-2) t8 e.sl) (Lc++own))) ?_;intro t8 N8';refine (?_:wpAny _ _ _ _ _ _);clear N8;refine CV (upX c.ns e.nm fun e=>{ e with np:=-2,tp:=t8 }) ?_;intro c2 hc2;have hGK2:GK xa d n2 c2=GK xa d n2 c.ns:=by rw [hc2,Hh (f:=fun e=>{ e with np:=-2,tp:=t8 }) (fun _=>rfl)]
  have hTc:D'∉GK xa d n2 c.ns:=fun hm=>hTG0 _ (.tail _ (p3▸hm)) rfl;have hown:∀q∈own,q.1∉GK xa d n2 c.ns:=by
   intro q hq hm;rcases hf q hq with hw1 | hw1
   ·have hin:∃o,(q.1,o)∈Lc:=by
     rw [hLc];rcases mc1 hm with e | hm
     ·exact ⟨_,by rw [e];exact mH1⟩
     rcases mc1 hm with e | hm
     ·exact ⟨_,by rw [e];exact mH2⟩
     rcases mc1 hm with e | hm
     ·exact ⟨_,by rw [e];exact mH3⟩
     refine Aq (mm1 hm) ?_;intro z hz1 hz2;exact ⟨z.2,by rw [←hz2];exact mT5 (maL _ hz1)⟩
    refine Bp (hin) ?_;(try clear hin);intro o ho;rw [hLc] at ho;exact hoffw _ ho hw1
   exact hTc (hw1▸hm)
  have hE:Lc++own=[(D',oV),(xa,AT 362 d),(d,oT),(n2,o2),(D,A1 (An c.rs) c.ep)]++(C3 c.ns++(rest++own)):=by
   rw [hLc];simp
  refine Dj (HE hnd2) ?_;intro f1 f2 f3;have hset:=Gy (k:=-2) (t:=t8) (pre:=[(D',oV),(xa,AT 362 d),(d,oT),(n2,o2),(D,A1 (An c.rs) c.ep)]) (rest:=rest++own) hnn2 hnd2
   (fc1 ⟨fun hm=>hTc (En hm),fc1 ⟨f1,fc1 ⟨f2,fc1 ⟨f3,fc1 ⟨fun hm=>hD (p3▸En hm),AA _⟩⟩⟩⟩⟩)
   (fun q hq=>by
    refine AF hq (fun hq=>?_) fun hq=>?_
    ·exact fun hm=>hoff q hq (.tail _ (p3▸hm))
    exact hown q hq) he
  rw [hE] at N8';rw [←hc2] at hset;have N9:=Bo N8' hset;clear N8';simp only [BJ,BS] at N9;have hec2:∃e2∈c2,e2.nm=e.nm∧e2.a=e.a∧e2.ad=e.ad∧e2.tn=e.tn∧e2.sl=e.sl∧e2.sc=e.sc∧e2.ep=e.ep∧e2.np = -2∧e2.tp=t8:=by
   refine ⟨{ e with np:=-2,tp:=t8 },?_,rfl,rfl,rfl,rfl,rfl,rfl,rfl,rfl,rfl⟩;rw [hc2];exact mm2 ⟨e,he,if_pos rfl⟩
  refine (let G9:Prop:=_;(?_:G9));obtain ⟨e2,he2,q1,q2,q3,q4,q5,q6,q7,q8,q9⟩:=hec2;refine (?_:wpAny _ _ _ _ _ _);have mnd2:∀q∈EZ e2,q∈(D',oV)::(xa,AT 362 d)::(d,oT)::(n2,o2)::(D,A1 (An c.rs) c.ep)::(C3 c2++(rest++own)):=fun q hq=>mT5 (maL _ (CE he2 hq));k_steps;refine ⟨?_⟩;rename Fr _ _ _ _=>F10;rename News _ _ _ _=>N10;rw [←q2];refine Oa F10 X' N10 (mnd2 _ (.head _)) (mnd2 _ mH1) ?_;k_steps;refine ⟨?_⟩;rename Fr _ _ _ _=>F11;rename News _ _ _ _=>N11;have hscb:∀e∈c.ns,e.sc.length≤1000:=by
   intro e he;have hm:e.nm∈ns.map (·.nm):=p2▸mm2 ⟨e,he,rfl⟩;refine Aq (mm1 hm) ?_;intro e0 he0 h0;have h1:=H6 hnn he0;have h2:=H6 hnn2 he;have h0':e0.nm=e.nm:=h0;rw [h0'] at h1;rw [p5,h1] at h2;have h3:=congrArg Bk h2;simp at h3;have:=hscl e0 he0;lia
  have hg1:Dl (BW c.ns,c.rs.map (·.1)) e.nm=(e.sc.map (·.1)).foldl J2 (gup (BW c.ns) e.nm fun e=>{ e with np:=-2 },c.rs.map (·.1)):=by
   unfold Dl;rw [H6 hnn2 he]
  refine Rq (σ:=DS) (fun c'=>(D',oV)::(xa,AT 362 d)::(d,oT)::(n2,o2)::(D,A1 (An c'.rs) c'.ep)::(C3 c'.ns++(rest++own))) (fun _=>[])
   [A0 "successor_info"]
   (fun i' c'=>Da c'.ns=Da ns∧c'.ns.map (·.nm)=ns.map (·.nm)∧GK xa d n2 c'.ns=GK xa d n2 ns∧(BW c'.ns,c'.rs.map (·.1))=((e.sc.map (·.1)).take i').foldl J2 (gup (BW c.ns) e.nm fun e=>{ e with np:=-2 },c.rs.map (·.1))∧
    (∀x,gsc (BW c'.ns) x=gsc (BW ns) x)∧c'.rs.length≤c.rs.length+i'∧(∃e'∈c'.ns,e'.sl=e2.sl∧e'.sc=e2.sc∧e'.ep=e2.ep))
   ⟨c2,c.rs,c.ep,c.t6,c.nf⟩ rfl (BI N11 (mnd2 _ mH2)) (N11 _ (mnd2 _ mH2)).2.1 F11 N11 ?hPi (AA _) ?turni ?donei
  case hPi=>
   refine ⟨?_,?_,hGK2.trans p3,?_,?_,Ap _,⟨e2,he2,rfl,rfl,rfl⟩⟩
   ·rw [hc2,HR (f:=fun e=>{ e with np:=-2,tp:=t8 }) (fun _=>rfl) (fun _=>rfl)];exact p1
   ·rw [hc2,HQ (f:=fun e=>{ e with np:=-2,tp:=t8 }) (fun _=>rfl)];exact p2
   ·rw [hc2,K3 (f':=fun e=>{ e with np:=-2 }) (fun _=>rfl)];rfl
   intro x;rw [hc2,K3 (f':=fun e=>{ e with np:=-2 }) (fun _=>rfl),Il (f:=fun e=>{ e with np:=-2 }) (fun _=>rfl) (fun _=>rfl)];exact p5 x
  case turni=>
   clear N11 F11;intro i' c' v' u' h' tk' own' wr' hv' hP' hoffw' hw' hf' F'' N'';refine HA (Gj hv') ?_;intro b tb e92 hb;subst e92;refine (let G9:Prop:=_;(?_:G9));obtain ⟨r1,r2,r3,r4,r5,r6,es,hes,s1,s2,s3⟩:=hP';refine (?_:wpAny _ _ _ _ _ _);have hb2:b∈e.sc.map (·.1):=by rw [←q6];exact AK hb
   have hbn4:b∈c'.ns.map (·.nm):=by
    rw [r2];refine hcl e.nm b ?_;rw [←p5,H6 hnn2 he];exact hb2
   refine Aq (mm1 hbn4) ?_;intro f hfm hfn;have hfn2:f.nm=b:=hfn;subst hfn2;have hnn4:(c'.ns.map (·.nm)).Nodup:=by rw [r2];exact hnn
   have hd4:o2.IsDictOf (AM rw_nq0317_02.prog w) (Da c'.ns):=by rw [r1];exact hd
   refine CV ((D',oV)::(xa,AT 362 d)::(d,oT)::(n2,o2)::(D,A1 (An c'.rs) c'.ep)::(C3 c'.ns++(rest++own))) ?_;intro Ld hLd;k_steps;refine ⟨?_⟩;rename Fr _ _ _ _=>F14;rename News _ _ _ _=>N14;have N15:News g' L' h' (Ld++own'):=by rw [hLd];exact N14
   clear N14;have memd:∀q,q∈Ld→q∈Ld++own':=fun q hq=>maL _ hq;have mn4:(n2,o2)∈Ld++own':=memd _ (by rw [hLd];exact mH3);have mnd4:∀q∈EZ f,q∈Ld++own':=fun q hq=>memd _ (by rw [hLd];exact mT5 (maL _ (CE hfm hq)));refine kdt_tail N15 mn4 hd4 (kdt_getItem N15 mn4 hd4 (BH _ _ _ _) (Ey hnn4 hfm) ?_);k_steps;refine ⟨?_⟩;rename Fr _ _ _ _=>F16;rename News _ _ _ _=>N16;refine Jg F16 X' N16 (mnd4 _ (.head _)) (mnd4 _ mH1) ?_;k_steps;refine ⟨?_⟩;rename Fr _ _ _ _=>F17;rename News _ _ _ _=>N17;refine L2 F17 X' N17 (mnd4 _ (.head _)) (mnd4 _ mH1) fun h18 F18 N18=>?_;clear F17 N17;refine (let G9:Prop:=_;(?_:G9));refine Bp (⟨_,N18⟩:∃t18,News g' L' h18 (CD f.a (GV f.ad f.nm f.tn (f.np-1) t18 f.sl) (Ld++own'))) ?_;intro t18 N19;refine (?_:wpAny _ _ _ _ _ _);clear N18;have hnd4:(GK xa d n2 c'.ns).Nodup:=by rw [r3];exact hnd
   refine CV (upX c'.ns f.nm fun e=>{ e with np:=f.np-1,tp:=t18 }) ?_;intro c3 hc3;have hE4:Ld++own'=[(D',oV),(xa,AT 362 d),(d,oT),(n2,o2),(D,A1 (An c'.rs) c'.ep)]++(C3 c'.ns++((rest++own)++own')):=by
    rw [hLd];simp
   have hGc:GK xa d n2 c'.ns=GK xa d n2 c.ns:=r3.trans p3.symm;refine Dj (HE hnd4) ?_;intro m1 m2 m3;have hesne:es.sl≠f.a:=by
    intro q
    by_cases hef:es=f
    ·subst hef;exact (Ly hnd4 hfm).2.1 q
    have hK:(FB (C3 c'.ns)).Nodup:=by
     unfold GK at hnd4;exact (nc1 (nc1 (nc1 hnd4).2).2).2
    exact hef (Jh hK hes hfm (p:=(es.sl,A1 (An es.sc) es.ep)) (q:=(f.a,GV f.ad f.nm f.tn f.np f.tp f.sl)) mH2 (.head _) q)
   have hesD:es.sl≠D:=by
    intro q;exact hD (by rw [←r3,←q];exact En (mm2 ⟨_,CE hes mH2,rfl⟩))
   have hofff:∀q∈own',q.1≠f.a:=by
    intro q hq e;rcases hf' q hq with h1 | h1
    ·exact hoffw' _ (maR _ (maL _ (CE hfm (.head _))):(f.a,_)∈[(D',oV),(xa,AT 362 d),(d,oT),(n2,o2),(D,A1 (An c'.rs) c'.ep)]++(C3 c'.ns++(rest++own))) (e▸h1)
    exact hesne (s1.trans (h1.symm.trans e))
   have hoffD:∀q∈own',q.1≠D:=by
    intro q hq e;rcases hf' q hq with h1 | h1
    ·exact hoffw' (D,A1 (An c'.rs) c'.ep) mH4 (e▸h1)
    exact hesD (s1.trans (h1.symm.trans e))
   have hTd:D'∉GK xa d n2 c'.ns:=fun hm=>hTc (hGc▸hm);have hset4:=Gy (k:=f.np-1) (t:=t18) (pre:=[(D',oV),(xa,AT 362 d),(d,oT),(n2,o2),(D,A1 (An c'.rs) c'.ep)]) (rest:=rest++own) hnn4 hnd4
    (fc1 ⟨fun hm=>hTd (En hm),fc1 ⟨m1,fc1 ⟨m2,fc1 ⟨m3,fc1 ⟨fun hm=>hD (r3▸En hm),AA _⟩⟩⟩⟩⟩)
    (fun q hq=>by
     refine AF hq (fun hq=>?_) fun hq=>?_
     ·exact fun hm=>hoff q hq (.tail _ (r3▸hm))
     exact fun hm=>hown q hq (hGc▸hm)) hfm
   rw [←hc3] at hset4;have hGK3:GK xa d n2 c3=GK xa d n2 c'.ns:=by rw [hc3,Hh (f:=fun e=>{ e with np:=f.np-1,tp:=t18 }) (fun _=>rfl)]
   refine CV ([(D',oV),(xa,AT 362 d),(d,oT),(n2,o2)]) ?_;intro pre4 hpre4;refine CV (C3 c3++(rest++own)) ?_;intro tl3 htl3;have N20:News g' L' h18 ((D',oV)::(xa,AT 362 d)::(d,oT)::(n2,o2)::(D,A1 (An c'.rs) c'.ep)::(tl3++own')):=Bo N19 fun q hq=>by
    rw [htl3] at hq;have hq':q∈([(D',oV),(xa,AT 362 d),(d,oT),(n2,o2),(D,A1 (An c'.rs) c'.ep)]++(C3 c3++(rest++own)))++own':=by
     simpa using hq
    unfold CD;rw [AI];refine AF hq' (fun hq=>?_) fun hq=>?_
    ·refine maL _ ?_;have:=hset4 q hq;rw [hLd];exact this
    exact maR _ (A8 hq (hofff q hq))
   clear N19;have hf3:∃f3∈c3,f3.nm=f.nm∧f3.a=f.a∧f3.ad=f.ad∧f3.np=f.np-1:=by
    refine ⟨{ f with np:=f.np-1,tp:=t18 },?_,rfl,rfl,rfl,rfl⟩;rw [hc3];exact mm2 ⟨f,hfm,if_pos rfl⟩
   refine Vt (hf3) ?_;(try clear hf3);intro f3 hf3m z1 z2 z3 z4;have mnd5:∀q∈EZ f3,q∈(D',oV)::(xa,AT 362 d)::(d,oT)::(n2,o2)::(D,A1 (An c'.rs) c'.ep)::(tl3++own'):=fun q hq=>mT5 (maL _ (htl3▸maL _ (CE hf3m hq)));k_steps;refine ⟨?_⟩;rename Fr _ _ _ _=>F21;rename News _ _ _ _=>N21;rw [←z2];refine Jg F21 X' N21 (mnd5 _ (.head _)) (mnd5 _ mH1) ?_;have hbs:(e.sc.map (·.1))[i']? = some f.nm:=by rw [←q6];exact hb
   have hp3:BW c3=gup (BW c'.ns) f.nm fun e=>{ e with np:=e.np-1 }:=by
    rw [hc3];refine Lr fun e₀ he₀ hx₀=>?_;rw [De hnn4 he₀ hfm hx₀];rfl
   have hr4:((e.sc.map (·.1)).take (i'+1)).foldl J2 (gup (BW c.ns) e.nm fun e=>{ e with np:=-2 },c.rs.map (·.1))=(BW c3,if f.np=1 then c'.rs.map (·.1)++[f.nm] else c'.rs.map (·.1)):=by
    rw [E4,hbs,FI,←r4];show J2 (BW c'.ns,c'.rs.map (·.1)) f.nm=_;unfold J2;rw [←hp3];show (BW c3,if gnp (BW c'.ns) f.nm=1 then _ else _)=_;rw [Rz hnn4 hfm]
   have hkeys:∀q∈C3 c3,∃o,(q.1,o)∈C3 c'.ns:=by
    intro q hq;have:q.1∈FB (C3 c'.ns):=by
     rw [←MV (x:=f.nm) (f:=fun e=>{ e with np:=f.np-1,tp:=t18 }) (fun _=>rfl),←hc3];exact mm2 ⟨q,hq,rfl⟩
    refine Aq (mm1 this) ?_;intro z hz1 hz2;exact ⟨z.2,by rw [←hz2];exact hz1⟩
   have hPk:∀rs' ep',(rs'.map (·.1)=if f.np=1 then c'.rs.map (·.1)++[f.nm] else c'.rs.map (·.1))→rs'.length≤c.rs.length+(i'+1)→(fun (i':Nat) (c':DS)=>Da c'.ns=Da ns∧c'.ns.map (·.nm)=ns.map (·.nm)∧GK xa d n2 c'.ns=GK xa d n2 ns∧(BW c'.ns,c'.rs.map (·.1))=((e.sc.map (·.1)).take i').foldl J2 (gup (BW c.ns) e.nm fun e=>{ e with np:=-2 },c.rs.map (·.1))∧
    (∀x,gsc (BW c'.ns) x=gsc (BW ns) x)∧c'.rs.length≤c.rs.length+i'∧(∃e'∈c'.ns,e'.sl=e2.sl∧e'.sc=e2.sc∧e'.ep=e2.ep)) (i'+1) ⟨c3,rs',ep',c.t6,c.nf⟩:=by
    intro rs' ep' hrs' hlen';refine ⟨?_,?_,hGK3.trans r3,?_,?_,hlen',?_⟩
    ·show Da c3=_;rw [hc3,HR (f:=fun e=>{ e with np:=f.np-1,tp:=t18 }) (fun _=>rfl) (fun _=>rfl)];exact r1
    ·show c3.map (·.nm)=_;rw [hc3,HQ (f:=fun e=>{ e with np:=f.np-1,tp:=t18 }) (fun _=>rfl)];exact r2
    ·show (BW c3,rs'.map (·.1))=_;rw [hr4,hrs']
    ·intro x;show gsc (BW c3) x=_;rw [hp3,Il (f:=fun e=>{ e with np:=e.np-1 }) (fun _=>rfl) (fun _=>rfl)];exact r5 x
    refine ⟨_,by show _∈c3;rw [hc3];exact SD hes,?_⟩;split
    ·exact ⟨s1,s2,s3⟩
    exact ⟨s1,s2,s3⟩
   have hoff3:∀(q:Addr×Obj),q∈tl3→q.1∉wr':=by
    intro q hq;rw [htl3] at hq;refine AF hq (fun hq=>?_) fun hq=>?_
    ·refine Bp (hkeys q hq) ?_;intro o ho;exact hoffw' (q.1,o) (mT5 (maL _ ho))
    exact hoffw' q (mT5 (maR _ hq))
   have hoffall:∀rs' ep',∀q∈(D',oV)::(xa,AT 362 d)::(d,oT)::(n2,o2)::(D,A1 (An rs') ep')::(C3 c3++(rest++own)),q.1∉wr':=by
    intro rs' ep' q hq;refine AQ hq ?_ fun hq=>?_
    ·exact hoffw' _ (.head _)
    refine AQ hq ?_ fun hq=>?_
    ·exact hoffw' _ mH1
    refine AQ hq ?_ fun hq=>?_
    ·exact hoffw' _ mH2
    refine AQ hq ?_ fun hq=>?_
    ·exact hoffw' _ mH3
    refine AQ hq ?_ fun hq=>?_
    ·exact hoffw' (D,A1 (An c'.rs) c'.ep) mH4
    exact hoff3 q (htl3▸hq)
   have htlD:∀q∈tl3++own',q.1≠D:=by
    intro q hq e;refine AF hq (fun hq=>?_) fun hq=>?_
    ·rw [htl3] at hq;refine AF hq (fun hq=>?_) fun hq=>?_
     ·refine Bp (hkeys q hq) ?_;intro o ho;exact hD (by rw [←r3,←e];exact En (mm2 ⟨_,ho,rfl⟩))
     refine AF hq (fun hq=>?_) fun hq=>?_
     ·exact hoff q hq (e▸.head _)
     rcases hf q hq with hw1 | hw1
     ·exact hoffw (D,A1 (An c.rs) c.ep) mH4 (e▸hw1)
     exact hTG0 D (.head _) (hw1.symm.trans e)
    exact hoffD q hq e
   k_steps
   ·refine ⟨?_⟩;rename f3.np=0=>hz3;refine Fe Cq Cp N21 mH4 ?_;k_steps;refine ⟨?_⟩;rename Fr _ _ _ _=>F24;refine CW F24 N21 mH4 (Bw (by
     have:(An c'.rs).size=c'.rs.length:=by unfold An;simp
     rw [this];have hi':i'<e2.sc.length:=by
      have:=(List.getElem?_eq_some_iff.mp hb).1;simpa using this
     have hi2:i<xs.length:=(List.getElem?_eq_some_iff.mp hx).1;have hxv:xs.length≤12:=by rw [hvs] at hvl;simpa using hvl
     have h5:e.sc.length≤1000:=hscb e he;rw [q6] at hi';exact Am r6 (Am (EG (Am p7 (EG hrl (Nat.mul_le_mul_right 1000 (Am (Be hi2) hxv)))) (Am (Be hi') h5)) (by decide)))) fun h25 F25 N25=>?_
    clear F24;k_steps;show DX _ _ _ _ _ _ _;refine HT (σ:=DS) ⟨c3,c'.rs++[(f.nm,tb)],c'.ep+1,c.t6,c.nf⟩ F25 N25 ?a1 ?a2 (hoffall _ _) (hPk _ _ ?aP ?aL) (AA _) ?az
    case a1=>
     intro q hq;refine AH hq ?_ fun hq=>?_
     ·exact A8 (.head _) (hTG0 _ (.head _))
     refine AH hq ?_ fun hq=>?_
     ·exact A8 mH1 (fun e=>hD (e▸.head _))
     refine AH hq ?_ fun hq=>?_
     ·exact A8 mH2 (fun e=>hD (e▸mH1))
     refine AH hq ?_ fun hq=>?_
     ·exact A8 mH3 (fun e=>hD (e▸mH2))
     refine AH hq ?_ fun hq=>?_
     ·have hpu:An (c'.rs++[(f.nm,tb)])=(An c'.rs).push (.int f.nm tb):=by unfold An;simp
      show (D,A1 (An (c'.rs++[(f.nm,tb)])) (c'.ep+1))∈_;rw [hpu];exact AV mH4
     have hq':q∈tl3++own':=maL _ (htl3▸hq);exact A8 (mT5 hq') (htlD q hq')
    case a2=>
     intro q hq;have hq':q∈tl3++own':=maR _ hq;exact A8 (mT5 hq') (htlD q hq')
    case aP=>
     rw [if_pos (by lia)];simp
    case aL=>
     simp;lia
    case az=>
     intro z h1 _ h2;have e2:z≠A0 "successor" :=CU h1 (by decide);have e3:z≠A0 "successor_info" :=CU h2 (by decide);rw [if_neg e3,if_neg e2];exact EI h2
   ·rename f3.np≠0=>hz3;rename Fr _ _ _ _=>F24;show DX _ _ _ _ _ _ _;refine HT (σ:=DS) ⟨c3,c'.rs,c'.ep,c.t6,c.nf⟩ F24 N21 ?a1 ?a2 (hoffall _ _) (hPk _ _ ?aP ?aL) (AA _) ?az
    case a1=>
     intro q hq;refine AH hq ?_ fun hq=>?_
     ·exact .head _
     refine AH hq ?_ fun hq=>?_
     ·exact mH1
     refine AH hq ?_ fun hq=>?_
     ·exact mH2
     refine AH hq ?_ fun hq=>?_
     ·exact mH3
     refine AH hq ?_ fun hq=>?_
     ·exact mH4
     exact mT5 (maL _ (htl3▸hq))
    case a2=>
     intro q hq;exact mT5 (maR _ hq)
    case aP=>
     rw [if_neg (by lia)]
    case aL=>
     show c'.rs.length≤_;lia
    case az=>
     intro z h1 _ h2;have e2:z≠A0 "successor" :=CU h1 (by decide);have e3:z≠A0 "successor_info" :=CU h2 (by decide);rw [if_neg e3,if_neg e2];exact EI h2
  clear N11 F11;intro c' u' h' tk' hP' F11 N11;refine Nn (hP') ?_;(try clear hP');intro r1 r2 r3 r4 r5 r6 r7;k_steps;refine ⟨?_⟩;rename Fr _ _ _ _=>F12;rename News _ _ _ _=>N12;refine Ua F12 X' N12 mH1 mH2 fun h13 F13 N13=>?_;clear F12 N12;refine (let G9:Prop:=_;(?_:G9));refine I0 (⟨_,_,N13⟩:∃t6' nf',News g' L' h13 (CD d (tsR w t1 t2 t3 t4 t5 t6' n2 (.ref D) po nf') ((D',oV)::(xa,AT 362 d)::(d,oT)::(n2,o2)::(D,A1 (An c'.rs) c'.ep)::(C3 c'.ns++(rest++own))))) ?_;intro t6' nf' N14;refine (?_:wpAny _ _ _ _ _ _);clear N13;k_steps;show DX _ _ _ _ _ _ _;have hnd3:(GK xa d n2 c'.ns).Nodup:=by rw [r3];exact hnd
  have hdG:∀q∈C3 c'.ns++(rest++own),q.1≠d:=by
   intro q hq e;refine AF hq (fun hq=>?_) fun hq=>?_
   ·exact (HE hnd3).2.1 (mm2 ⟨q,hq,e⟩)
   refine AF hq (fun hq=>?_) fun hq=>?_
   ·exact hoff q hq (e▸mH2)
   exact hown q hq (e▸mH1)
  have hdx:xa≠d∧n2≠d:=by
   have q1:=nc1 hnd;have q2:=nc1 q1.2;exact ⟨fun e=>q1.1 (e▸.head _),fun e=>q2.1 (e▸.head _)⟩
  have hset2:∀q∈(D',oV)::(xa,AT 362 d)::(d,tsR w t1 t2 t3 t4 t5 t6' n2 (.ref D) po nf')::(n2,o2)::(D,A1 (An c'.rs) c'.ep)::(C3 c'.ns++(rest++own)),q∈CD d (tsR w t1 t2 t3 t4 t5 t6' n2 (.ref D) po nf') ((D',oV)::(xa,AT 362 d)::(d,oT)::(n2,o2)::(D,A1 (An c'.rs) c'.ep)::(C3 c'.ns++(rest++own))):=(A6 (A8 (.head _) (hTG0 _ mH2)) (A6 (A8 mH1 hdx.1) (A6 (AV mH2) (A6 (A8 mH3 hdx.2) (A6 (A8 mH4 (fun e=>hD (e▸mH1))) (fun q hq=>A8 (mT5 hq) (hdG q hq)))))));have hwr:∀b∈wr,b∉GK xa d n2 c.ns:=by
   intro b hb;refine Bp (hw b hb) ?_;intro o ho;exact hown (b,o) ho
  have hpr:(BW c'.ns,c'.rs.map (·.1))=Dl (BW c.ns,c.rs.map (·.1)) e.nm:=by
   rw [hg1,r4,BA];rw [q6];unfold An;simp
  refine HT (σ:=DS) ⟨c'.ns,c'.rs,c'.ep,t6',nf'⟩ F13 N14 ?o1 ?o2 ?o3 ?oP (AA _) ?oz
  case o1=>
   intro q hq;refine hset2 q ?_;have hq':q∈[(D',oV),(xa,AT 362 d),(d,tsR w t1 t2 t3 t4 t5 t6' n2 (.ref D) po nf'),(n2,o2),(D,A1 (An c'.rs) c'.ep)]++(C3 c'.ns++rest):=hq;show q∈[(D',oV),(xa,AT 362 d),(d,tsR w t1 t2 t3 t4 t5 t6' n2 (.ref D) po nf'),(n2,o2),(D,A1 (An c'.rs) c'.ep)]++(C3 c'.ns++(rest++own));refine AF hq' (fun hq=>?_) fun hq=>?_
   ·exact maL _ hq
   refine AF hq (fun hq=>?_) fun hq=>?_
   ·exact maR _ (maL _ hq)
   exact maR _ (maR _ (maL _ hq))
  case o2=>
   intro q hq;exact hset2 q (mT5 (maR _ (maR _ hq)))
  case o3=>
   intro q hq;refine AQ hq ?_ fun hq=>?_
   ·exact hoffw _ (.head _)
   refine AQ hq ?_ fun hq=>?_
   ·exact hoffw _ mH1
   refine AQ hq ?_ fun hq=>?_
   ·exact fun hm=>hwr _ hm mH1
   refine AQ hq ?_ fun hq=>?_
   ·exact fun hm=>hwr _ hm mH2
   refine AQ hq ?_ fun hq=>?_
   ·exact fun hm=>hoffw (D,A1 (An c.rs) c.ep) mH4 hm
   refine AF hq (fun hq=>?_) fun hq=>?_
   ·exact fun hm=>hwr _ hm ((r3.trans p3.symm)▸En (mm2 ⟨q,hq,rfl⟩))
   exact hoffw q (mT5 (maR _ hq))
  case oP=>
   refine ⟨r1,r2,r3,?_,r5,?_,?_⟩
   ·show (BW c'.ns,c'.rs.map (·.1))=_;rw [hpr,p4,E4,AX,hx];unfold EY;rw [FI];rfl
   ·intro j q hj hq;show gnp (BW c'.ns) q.1 = -1;have h1:BW c'.ns=(Dl (BW c.ns,c.rs.map (·.1)) e.nm).1:=congrArg Ci hpr;rw [h1,PG]
    ·exact p6 j q (by lia) hq
    ·intro hqe;have h2:(xs.map (·.1))[j]? = some e.nm:=by rw [AX,hq];exact congrArg some hqe
     have h3:(xs.map (·.1))[i]? = some e.nm:=by rw [AX,hx];rfl
     have:=(List.getElem?_inj (List.getElem?_eq_some_iff.mp h3).1 hxd).mp (h3.trans h2.symm);lia
    show q.1∉gsc (BW c.ns) e.nm;rw [p5];exact hns _ (AK hx) q (AK hq)
   show c'.rs.length≤rs.length+(i+1)*1000;have h5:e.sc.length≤1000:=by
    have hm:e.nm∈ns.map (·.nm):=p2▸hbn;refine Aq (mm1 hm) ?_;intro e0 he0 h0;have h1:=H6 hnn he0;have h2:=H6 hnn2 he;have h0':e0.nm=e.nm:=h0;rw [h0'] at h1;rw [p5,h1] at h2;have h3:=congrArg Bk h2;simp at h3;have:=hscl e0 he0;lia
   have h6:c'.rs.length≤c.rs.length+(An e2.sc).size:=r6;have h7:(An e2.sc).size=e.sc.length:=by rw [q6];unfold An;simp
   rw [h7] at h6;rw [Nat.succ_mul,←Nat.add_assoc];exact Am h6 (EG p7 h5)
  intro z h1 _ h2;have e1:z≠A0 "node" :=CU h1 (by decide);have e2:z≠A0 "nodeinfo" :=CU h2 (by decide);have e3:z≠A0 "stat" :=CU h2 (by decide);have e4:z≠A0 "successor" :=CU h2 (by decide);have e5:([A0 "successor_info"]:List Str).contains z=false:=by
   rw [Bool.eq_false_iff];intro h;simp only [List.contains_cons,List.contains_nil,Bool.or_false,beq_iff_eq] at h;subst h;revert h2;decide
  dsimp only [mt1];rw [if_neg e4,EI e5,if_neg e3,if_neg e2,if_neg e1];exact EI h2
 clear N3 F3;intro c u h tk p9 F3 N3;refine Nn p9 ?_;(try clear p9);intro p1 p2 p3 p4 p5 p6 p7;k_steps;rename Fr h₀ _ _ _=>kF;rename News h₀ _ _ _=>kN;refine hret D' c _ _ p1 p2 p3 ?_ (fun hm=>hTG0 _ hm rfl) (fun q hq e=>?_) kF kN
 ·rw [p4,BA];rw [hvs];simp
 have:=l1 q (mT4 (by rw [htl];exact maR _ hq));rw [e] at this;exact Av _ this
structure AS where
 ns:List NI
 o:Obj
set_option tactic.hygienic true in
theorem W3 (w:World)(p:AY)(lo:List Str)(mean:CG→Option Value)(mg mb:Str→Option Value)
  (gd:Option (List Code)) (cn:Str) (cs:Scope) (a:Addr) (ccd:Value) (cl:List (Str×Addr)) (outer:List Env) (A₀:AO) (base h₀:Heap) (L:Addr) (m:Str→Option Value) (rest:List (Addr×Obj)) (s:A4)
  (x y:Int) (tx ty:Tok) (xa d n2:Addr) (o2:Obj) (ns:List NI) (t1 t2 t3 t4 t5 t6:Tok) (Q E:Value→A4→Prop)
  (B:Below A₀ base outer h₀) (F:Fr h₀ L s.heap m) (X:(Mine.K w.params).In h₀) (N:News h₀ L s.heap ((xa,AT 362 d)::(d,tsD w t1 t2 t3 t4 t5 t6 n2)::(n2,o2)::(C3 ns++rest))) (T:Top p lo mean mg mb h₀) (hk:cs.kind = .function)
  (hx:True) (hy:True) (hd:o2.IsDictOf (AM rw_nq0317_02.prog w) (Da ns)) (lo2:(n2==BV)=false) (hnn:(ns.map (·.nm)).Nodup) (hl:ns.length≤98) (bd:Nat) (hbd:bd≤1000) (hsc:∀e∈ns,e.sc.length≤bd)
  (hnd:(GK xa d n2 ns).Nodup) (hoff:∀p∈rest,p.1∉GK xa d n2 ns)
  (hret:∀ns' o2' h' tk',BW ns'=Ni (BW ns) x y→o2'.IsDictOf (AM rw_nq0317_02.prog w) (Da ns')→(ns'.map (·.nm)).Nodup→
   (GK xa d n2 ns').Nodup→(∀p∈rest,p.1∉GK xa d n2 ns')→ns'.length≤ns.length+2→(∀e∈ns',e.sc.length≤bd+1)→Fr h₀ L h' m→News h₀ L h' ((xa,AT 362 d)::(d,tsD w t1 t2 t3 t4 t5 t6 n2)::(n2,o2')::(C3 ns'++rest))→Q .none { s with heap:=h',toks:=tk' }) :
  wpAny (model (rw_nq0317_02.prog) w) (Bi 350 500 gd cn cs L a ccd cl outer) (call (.ref 312) [.ref xa,.int x tx,.int y ty]) Q E s:=by
 refine (let oT:Obj:=tsD w t1 t2 t3 t4 t5 t6 n2;have N9:News _ _ _ (_::(_,oT)::_):=N;?_);clear N;have N:=N9;clear N9;refine (let oV:Obj:=(⟨.type "tuple",none,.seq #[.int y ty] 0,#[]⟩:Obj);?_);k_with "+12" =>skip
 k_with "12" =>(fail_if_success k_extra "+13")
 k_with "m" =>k_extra "12"
 k_with "k" =>k_extra "12"
 k_with "aq" =>k_extra "12"
 k_with "ar" =>k_extra "12"
 k_with "as" =>k_extra "12"
 k_with "ay" =>k_extra "12"
 k_with "at" =>k_extra "12"
 k_with "az" =>k_extra "12"
 k_with "ba" =>k_extra "12"
 k_with "i" =>k_extra "12"
 refine CV (C3 ns++rest) ?_;intro tl htl;rw [←htl] at N;k_with "+13" =>skip
 k_with "13" =>(fail_if_success k_extra "+14")
 k_with "m" =>k_extra "13"
 k_with "k" =>k_extra "13"
 k_with "aq" =>k_extra "13"
 k_with "ar" =>k_extra "13"
 k_with "as" =>k_extra "13"
 k_with "ay" =>k_extra "13"
 k_with "at" =>k_extra "13"
 k_with "az" =>k_extra "13"
 k_with "ba" =>k_extra "13"
 k_with "i" =>k_extra "13"
 k_with "j" =>k_extra "13"
 revert X
 k_fill
 intro X;refine BN ?_
 k_dflt (refine' kp_rest ?k1 ?k2 ?k3 ?k4 ?k5 ?kA ?kF ?kK ?k6 ?k7 ?k8 ?kV ?kP ?kG ?kB ?_ ?c2 ?c3 ?c4 ?c5;(case kA=>exact rfl);(case kF=>exact rfl);(case kK=>assumption);(case k1=>k_asm);(case k2=>k_asm);(case k3=>k_asm);(case k4=>k_asm);(case k5=>k_asm);(case k6=>k_is);(case k7=>k_is);(case k8=>ktr_room);(case kV=>kl_lit);(case kP=>exact rfl);(case kG=>exact fun _=>rfl);(case kB=>exact fun _=>locs rfl);(case c5=>decide);(case c2=>exact rfl);(case c3=>exact rfl);(case c4=>exact rfl);k_whole;intro D' g' L' h' l1 FG' F' N' B' X' T';(try dsimp only);(try k_fold))
 refine (let A9:AO:=_;(?_:wpAny _ A9 _ _ _ _));k_steps;refine ⟨?_⟩;rw [htl] at N' l1;have hG:∀z∈GK xa d n2 ns,z<D':=by
  intro z hz;refine AQ hz ?_ fun hz=>?_
  ·exact l1 _ (.head _)
  refine AQ hz ?_ fun hz=>?_
  ·exact l1 _ mH1
  refine AQ hz ?_ fun hz=>?_
  ·exact l1 _ mH2
  refine mmE hz ?_;intro p hp;exact l1 p (mT3 (maL _ hp))
 have hoff1:∀p∈(D',oV)::rest,p.1∉GK xa d n2 ns:=by
  intro p hp hm;rcases mc1 hp with rfl | hp
  ·exact absurd (hG _ hm) (Av _)
  exact hoff p hp hm
 have N2:News g' L' h' ((xa,AT 362 d)::(d,oT)::(n2,o2)::(C3 ns++(D',oV)::rest)):=Bo N' (A6 mH1 (A6 mH2 (A6 mH3 (fun p hp=>by
  refine AF hp (fun hp=>?_) fun hp=>?_
  ·exact mT4 (maL _ hp)
  refine AH hp ?_ fun hp=>?_
  ·exact .head _
  exact mT4 (maR _ hp)))))
 refine CK (Bi 360 600 gd (A0 "TopologicalSorter.add") _ L' 312 (.ref 311) [] (envX cn cs L a ccd cl::outer)) rfl (show 351≤360 by decide) rfl rfl (show 503≤600 by decide) ?_;refine VR w _ _ _ _ _ _ _ _ _ _ _ _ _ _ _ _ _ _ _ _ _ _ _ _ _ ns _ _ _ _ _ _ _ _ B' F' X' N2 T' rfl hx hd lo2 hnn (by lia) hnd hoff1 (fun e1 ns1 o1 h1 tk1 he1 hx1 hc1 hd1 hnn1 hnd1 hoff1 hl1 F1 N1=>?_);clear F' N' N2;refine Dj (HE hnd1) ?_;intro f1 f2 f3;have hpre1:∀p∈[(D',oV),(xa,AT 362 d),(d,oT),(n2,o1)],p.1∉FB (C3 ns1):=
  fc1 ⟨fun hm=>hoff1 _ (.head _) (En hm),fc1 ⟨f1,fc1 ⟨f2,fc1 ⟨f3,AA _⟩⟩⟩⟩
 refine CV (C3 ns1++rest) ?_;intro tl1 htl1;have N3:News g' L' h1 ((D',oV)::(xa,AT 362 d)::(d,oT)::(n2,o1)::tl1):=Bo N1 fun p hp=>by
  rw [htl1] at hp;refine AH hp ?_ fun hp=>?_
  ·exact mT3 (maR _ (.head _))
  refine AH hp ?_ fun hp=>?_
  ·exact .head _
  refine AH hp ?_ fun hp=>?_
  ·exact mH1
  refine AH hp ?_ fun hp=>?_
  ·exact mH2
  refine AF hp (fun hp=>?_) fun hp=>?_
  ·exact mT3 (maL _ hp)
  exact mT3 (maR _ (.tail _ hp))
 clear N1;k_steps;refine ⟨?_⟩;have m1:(e1.a,GV e1.ad e1.nm e1.tn e1.np e1.tp e1.sl)∈(D',oV)::(xa,AT 362 d)::(d,oT)::(n2,o1)::tl1:=by
  rw [htl1];exact mT4 (maL _ (CE he1 (.head _)))
 have m2:(e1.ad,Fk [] 0)∈(D',oV)::(xa,AT 362 d)::(d,oT)::(n2,o1)::tl1:=by
  rw [htl1];exact mT4 (maL _ (CE he1 (.tail _ (.head _))))
 rename Fr _ _ _ _=>F4;rename News _ _ _ _=>N4;refine Jg F4 X' N4 m1 m2 ?_;k_steps;refine ⟨?_⟩;rename Fr _ _ _ _=>F5;rename News _ _ _ _=>N5;refine L2 F5 X' N5 m1 m2 fun h2 F6 N6a=>?_;clear F5 N5;refine (let G9:Prop:=_;(?_:G9));refine Bp (⟨_,N6a⟩:∃tt,News g' L' h2 (CD e1.a (GV e1.ad e1.nm e1.tn (e1.np+1) tt e1.sl) ((D',oV)::(xa,AT 362 d)::(d,oT)::(n2,o1)::tl1))) ?_;intro tt N6;refine (?_:wpAny _ _ _ _ _ _);rw [htl1] at N6;have N7:=Bo N6 (Gy (pre:=[(D',oV),(xa,AT 362 d),(d,oT),(n2,o1)]) hnn1 hnd1 hpre1 (fun p hp=>hoff1 p (.tail _ hp)) he1);refine CV (upX ns1 e1.nm fun e=>{ e with np:=e1.np+1,tp:=tt }) ?_;intro ns2 hns2;rw [←hns2] at N7;simp only [BJ,BS] at N7;clear N6 N6a m1 m2;have hP0:BW ns2=gup (KI (BW ns) x) x fun e=>{ e with np:=e.np+1 }:=by
  rw [hns2,←IX hc1 he1 hx1,hx1];unfold BW upX gup;rw [Ao,Ao];apply Az;intro e he;show DF (if e.nm=x then { e with np:=e1.np+1,tp:=tt } else e)=if (DF e).nm=x then { DF e with np:=(DF e).np+1 } else DF e
  have e5:(DF e).nm=e.nm:=rfl;rw [e5];split
  ·rename_i hc;rw [show e=e1 from De hnn1 he he1 (hc.trans hx1.symm)];rfl
  rfl
 have hnd2:(GK xa d n2 ns2).Nodup:=by rw [hns2,Hh (f:=fun e=>{ e with np:=e1.np+1,tp:=tt }) (fun _=>rfl)];exact hnd1
 have hoff2:∀p∈(D',oV)::rest,p.1∉GK xa d n2 ns2:=by rw [hns2,Hh (f:=fun e=>{ e with np:=e1.np+1,tp:=tt }) (fun _=>rfl)];exact hoff1
 have hnn2:(ns2.map (·.nm)).Nodup:=by rw [hns2,HQ (f:=fun e=>{ e with np:=e1.np+1,tp:=tt }) (fun _=>rfl)];exact hnn1
 have hd2:o1.IsDictOf (AM rw_nq0317_02.prog w) (Da ns2):=by rw [hns2,HR (f:=fun e=>{ e with np:=e1.np+1,tp:=tt }) (fun _=>rfl) (fun _=>rfl)];exact hd1
 have hsc1:∀e∈ns1,e.sc.length≤bd:=by
  intro e he;rcases hc1 with h9 | ⟨_,h9,_,hs0⟩<;>rw [h9] at he
  ·exact hsc e he
  refine AF he (fun he=>?_) fun he=>?_
  ·exact hsc e he
  rw [ms1 he,hs0];exact B0 _
 have hsc2:∀e∈ns2,e.sc.length≤bd+0:=by
  intro e he;rw [hns2] at he;refine mmE he ?_;intro e0 he0;have:=hsc1 e0 he0;split<;>exact this
 have hl2:ns2.length≤ns.length+1:=by rw [hns2,Li];exact hl1
 k_steps;refine ⟨?_⟩;rename Fr _ _ _ _=>F8;rename News _ _ _ _=>N8;refine Jv (σ:=AS) (fun c=>(D',oV)::(xa,AT 362 d)::(d,oT)::(n2,c.o)::(C3 c.ns++rest)) (fun _=>[]) [A0 "pred_info"]
  (fun i c=>c.o.IsDictOf (AM rw_nq0317_02.prog w) (Da c.ns)∧(c.ns.map (·.nm)).Nodup∧(GK xa d n2 c.ns).Nodup∧(∀p∈(D',oV)::rest,p.1∉GK xa d n2 c.ns)∧c.ns.length≤ns.length+1+i∧(∀e∈c.ns,e.sc.length≤bd+i)∧(i=0→BW c.ns=gup (KI (BW ns) x) x fun e=>{ e with np:=e.np+1 })∧(0<i→BW c.ns=Ni (BW ns) x y))
  ⟨ns2,o1⟩ rfl ⟨_,(N8 _ (.head _)).1,rfl,_,rfl⟩ (N8 _ (.head _)).2.1 F8 N8 ?hP (AA _) ?turn ?done
 case hP=>exact ⟨hd2,hnn2,hnd2,hoff2,hl2,hsc2,fun _=>hP0,fun h=>absurd h (Av _)⟩
 case turn=>
  clear N8 F8;intro i c v u h tk own wr hv hP hoffw hw hf F' N';refine TP (hP) ?_;(try clear hP);intro p1 p2 p3 p4 p5 p8 p6 p7;have hi:i=0∧v = .int y ty:=by
   rcases Nat.eq_zero_or_pos i with rfl | hi
   ·exact ⟨rfl,by simpa using hv.symm⟩
   rw [DA (by show 1≤i;exact hi)] at hv;cases hv
  refine CL (hi) ?_;(try clear hi);intro e90 e91;subst e90;subst e91;k_steps;refine ⟨?_⟩;have hown:∀p∈own,p.1∉GK xa d n2 c.ns:=by
   intro p hp hm;rcases hf p hp with hq | hq
   ·have hin:∃o,(p.1,o)∈(D',oV)::(xa,AT 362 d)::(d,oT)::(n2,c.o)::(C3 c.ns++rest):=by
     rcases mc1 hm with e | hm
     ·exact ⟨_,by rw [e];exact mH1⟩
     rcases mc1 hm with e | hm
     ·exact ⟨_,by rw [e];exact mH2⟩
     rcases mc1 hm with e | hm
     ·exact ⟨_,by rw [e];exact mH3⟩
     refine Aq (mm1 hm) ?_;intro q hq1 hq2;exact ⟨q.2,by rw [←hq2];exact mT4 (maL _ hq1)⟩
    refine Bp (hin) ?_;(try clear hin);intro o ho;exact hoffw _ ho hq
   rw [hq] at hm;exact p4 _ (.head _) hm
  have hoff3:∀p∈(D',oV)::(rest++own),p.1∉GK xa d n2 c.ns:=by
   intro p hp;refine AQ hp ?_ fun hp=>?_
   ·exact p4 _ (.head _)
   refine AF hp (fun hp=>?_) fun hp=>?_
   ·exact p4 p (.tail _ hp)
   exact hown p hp
  rename Fr _ _ _ _=>F9;rename News _ _ _ _=>N9;have N10:News g' L' h ((xa,AT 362 d)::(d,oT)::(n2,c.o)::(C3 c.ns++(D',oV)::(rest++own))):=Bo N9 (A6 mH1 (A6 mH2 (A6 mH3 (fun p hp=>by
   refine AF hp (fun hp=>?_) fun hp=>?_
   ·exact mT4 (maL _ (maL _ hp))
   refine AH hp ?_ fun hp=>?_
   ·exact .head _
   refine AF hp (fun hp=>?_) fun hp=>?_
   ·exact mT4 (maL _ (maR _ hp))
   exact mT4 (maR _ hp)))))
  refine CK (Bi 360 600 gd (A0 "TopologicalSorter.add") _ L' 312 (.ref 311) [] (envX cn cs L a ccd cl::outer)) rfl (show 351≤360 by decide) rfl rfl (show 503≤600 by decide) ?_;refine VR w _ _ _ _ _ _ _ _ _ _ _ _ _ _ _ _ _ _ _ _ _ _ _ _ _ c.ns _ _ _ _ _ _ _ _ B' F9 X' N10 T' rfl hy p1 lo2 p2 (by lia) p3 hoff3 (fun e3 ns3 o3 h3 tk3 he3 hx3 hc3 hd3 hnn3 hnd3 hoff3 hl3 F3 N3=>?_);clear N9 N10 F9;k_steps;refine ⟨?_⟩;rename Fr _ _ _ _=>F4;rename News _ _ _ _=>N4;have m1:(e3.a,GV e3.ad e3.nm e3.tn e3.np e3.tp e3.sl)∈(xa,AT 362 d)::(d,oT)::(n2,o3)::(C3 ns3++(D',oV)::(rest++own)):=mT3 (maL _ (CE he3 (.head _)));have m2:(e3.ad,Fk [] 0)∈(xa,AT 362 d)::(d,oT)::(n2,o3)::(C3 ns3++(D',oV)::(rest++own)):=mT3 (maL _ (CE he3 (.tail _ (.head _))));have m3:(e3.sl,A1 (An e3.sc) e3.ep)∈(xa,AT 362 d)::(d,oT)::(n2,o3)::(C3 ns3++(D',oV)::(rest++own)):=mT3 (maL _ (CE he3 (.tail _ (.tail _ (.head _)))));refine Oa F4 X' N4 m1 m2 ?_;k_steps;refine ⟨?_⟩;refine Fe Cq Cp N4 m3 ?_;have hsc3:∀e∈ns3,e.sc.length≤bd:=by
   intro e he;rcases hc3 with h9 | ⟨_,h9,_,hs0⟩<;>rw [h9] at he
   ·exact p8 e he
   refine AF he (fun he=>?_) fun he=>?_
   ·exact p8 e he
   rw [ms1 he,hs0];exact B0 _
  k_steps;refine ⟨?_⟩;rename Fr _ _ _ _=>F5;rename News _ _ _ _=>N5;refine CW F5 N5 m3 (Bw (by unfold An;rw [Ae,AB];have:=hsc3 e3 he3;lia)) fun h9 F9 N9=>?_;clear F5 N5;k_steps;show DX _ _ _ _ _ _ _;refine Dj (HE hnd3) ?_;intro f1 f2 f3;have hset:=QM (y:=x) (t:=tx) (pre:=[(xa,AT 362 d),(d,oT),(n2,o3)]) hnn3 hnd3 (fc1 ⟨f1,fc1 ⟨f2,fc1 ⟨f3,AA _⟩⟩⟩) hoff3 he3;refine CV (upX ns3 e3.nm fun e=>{ e with sc:=e.sc++[(x,tx)],ep:=e.ep+1 }) ?_;intro ns4 hns4;have hset2:∀p∈(xa,AT 362 d)::(d,oT)::(n2,o3)::(C3 ns4++(D',oV)::(rest++own)),p∈CD e3.sl (A1 ((An e3.sc).push (.int x tx)) (e3.ep+1)) ((xa,AT 362 d)::(d,oT)::(n2,o3)::(C3 ns3++(D',oV)::(rest++own))):=by
   rw [hns4];exact hset
  clear hset;have hGK:GK xa d n2 ns4=GK xa d n2 ns3:=by rw [hns4,Hh (f:=fun e=>{ e with sc:=e.sc++[(x,tx)],ep:=e.ep+1 }) (fun _=>rfl)]
  have hwr:∀b∈wr,b∉GK xa d n2 ns4:=by
   intro b hb;refine Bp (hw b hb) ?_;intro o ho;rw [hGK];exact hoff3 (b,o) (.tail _ (maR _ ho))
  refine HT (σ:=AS) ⟨ns4,o3⟩ F9 N9 ?h1 ?h2 ?h3 ?hP (AA _) ?hz
  case h1=>
   intro p hp;refine hset2 p ?_;refine AH hp ?_ fun hp=>?_
   ·exact mT3 (maR _ (.head _))
   refine AH hp ?_ fun hp=>?_
   ·exact .head _
   refine AH hp ?_ fun hp=>?_
   ·exact mH1
   refine AH hp ?_ fun hp=>?_
   ·exact mH2
   refine AF hp (fun hp=>?_) fun hp=>?_
   ·exact mT3 (maL _ hp)
   exact mT3 (maR _ (.tail _ (maL _ hp)))
  case h2=>
   intro p hp;exact hset2 p (mT3 (maR _ (.tail _ (maR _ hp))))
  case h3=>
   intro p hp;refine AQ hp ?_ fun hp=>?_
   ·exact hoffw _ (.head _)
   refine AQ hp ?_ fun hp=>?_
   ·exact fun hm=>hwr _ hm (.head _)
   refine AQ hp ?_ fun hp=>?_
   ·exact fun hm=>hwr _ hm mH1
   refine AQ hp ?_ fun hp=>?_
   ·exact fun hm=>hwr _ hm mH2
   refine AF hp (fun hp=>?_) fun hp=>?_
   ·exact fun hm=>hwr _ hm (mT3 (mm2 ⟨p,hp,rfl⟩))
   exact hoffw p (mT4 (maR _ hp))
  case hP=>
   refine ⟨by rw [hns4,HR (f:=fun e=>{ e with sc:=e.sc++[(x,tx)],ep:=e.ep+1 }) (fun _=>rfl) (fun _=>rfl)];exact hd3,by rw [hns4,HQ (f:=fun e=>{ e with sc:=e.sc++[(x,tx)],ep:=e.ep+1 }) (fun _=>rfl)];exact hnn3,by rw [hGK];exact hnd3,?_,?_,?_,(fun h=>by lia),fun _=>?_⟩
   ·intro p hp;rw [hGK];refine AQ hp ?_ fun hp=>?_
    ·exact hoff3 _ (.head _)
    exact hoff3 p (.tail _ (maL _ hp))
   ·show ns4.length≤ns.length+1+1;rw [hns4,Li];have:c.ns.length≤ns.length+1+0:=p5;lia
   ·intro e he;have he':e∈ns4:=he;rw [hns4] at he';refine mmE he' ?_;intro e0 he0;have:=hsc3 e0 he0;split
    ·show (e0.sc++[(x,tx)]).length≤_;rw [Ai];simp;lia
    lia
   show BW ns4=_;unfold Ni;rw [←p6 rfl,←IX hc3 he3 hx3,hns4,←hx3];unfold BW upX gup;rw [Ao,Ao];apply Az;intro e he;show DF (if e.nm=e3.nm then { e with sc:=e.sc++[(x,tx)],ep:=e.ep+1 } else e)=if (DF e).nm=e3.nm then { DF e with sc:=(DF e).sc++[x] } else DF e
   have e5:(DF e).nm=e.nm:=rfl;rw [e5];split
   ·rename_i hc;have:e=e3:=De hnn3 he he3 hc;rw [this];unfold DF;simp
   rfl
  intro z h1 _ h2;have e1:z≠A0 "pred_info" :=CU h2 (by decide);have e2:z≠A0 "pred" :=CU h1 (by decide);rw [if_neg e1,if_neg e2];exact EI h2
 clear N8 F8;intro c u h tk hP F' N';refine TP (hP) ?_;(try clear hP);intro p1 p2 p3 p4 p5 p8 p6 p7;k_steps;rename Fr _ _ _ _=>F9;rename News _ _ _ _=>N9;exact hret c.ns c.o _ _ (p7 (Nat.zero_lt_one)) p1 p2 p3 (fun p hp=>p4 p (.tail _ hp)) (by have:c.ns.length≤ns.length+1+1:=p5;lia) p8 F9 (Bo N9 fun p hp=>.tail _ hp)
set_option tactic.hygienic true in
theorem V7 (w:World)(p:AY)(lo:List Str)(mean:CG→Option Value)(mg mb:Str→Option Value)
  (gd:Option (List Code)) (cn:Str) (cs:Scope) (a:Addr) (ccd:Value) (cl:List (Str×Addr)) (outer:List Env) (A₀:AO) (base h₀:Heap) (L:Addr) (m:Str→Option Value) (rest:List (Addr×Obj)) (s:A4)
  (x:Int) (tx:Tok) (xa d n2:Addr) (o2:Obj) (ns:List NI) (t1 t2 t3 t4 t5 t6:Tok) (Q E:Value→A4→Prop)
  (B:Below A₀ base outer h₀) (F:Fr h₀ L s.heap m) (X:(Mine.K w.params).In h₀) (N:News h₀ L s.heap ((xa,AT 362 d)::(d,tsD w t1 t2 t3 t4 t5 t6 n2)::(n2,o2)::(C3 ns++rest))) (T:Top p lo mean mg mb h₀) (hk:cs.kind = .function)
  (hx:True) (hd:o2.IsDictOf (AM rw_nq0317_02.prog w) (Da ns)) (lo2:(n2==BV)=false) (hnn:(ns.map (·.nm)).Nodup) (hl:ns.length≤98) (bd:Nat) (hbd:bd≤1000) (hsc:∀e∈ns,e.sc.length≤bd)
  (hnd:(GK xa d n2 ns).Nodup) (hoff:∀p∈rest,p.1∉GK xa d n2 ns)
  (hret:∀ns' o2' h' tk',BW ns'=KI (BW ns) x→o2'.IsDictOf (AM rw_nq0317_02.prog w) (Da ns')→(ns'.map (·.nm)).Nodup→
   (GK xa d n2 ns').Nodup→(∀p∈rest,p.1∉GK xa d n2 ns')→ns'.length≤ns.length+1→(∀e∈ns',e.sc.length≤bd)→Fr h₀ L h' m→News h₀ L h' ((xa,AT 362 d)::(d,tsD w t1 t2 t3 t4 t5 t6 n2)::(n2,o2')::(C3 ns'++rest))→Q .none { s with heap:=h',toks:=tk' }) :
  wpAny (model (rw_nq0317_02.prog) w) (Bi 350 500 gd cn cs L a ccd cl outer) (call (.ref 312) [.ref xa,.int x tx]) Q E s:=by
 refine (let oT:Obj:=tsD w t1 t2 t3 t4 t5 t6 n2;have N9:News _ _ _ (_::(_,oT)::_):=N;?_);clear N;have N:=N9;clear N9;k_with "+14" =>skip
 k_with "14" =>(fail_if_success k_extra "+15")
 k_with "m" =>k_extra "14"
 k_with "k" =>k_extra "14"
 k_with "aq" =>k_extra "14"
 k_with "ar" =>k_extra "14"
 k_with "as" =>k_extra "14"
 k_with "ay" =>k_extra "14"
 k_with "at" =>k_extra "14"
 k_with "az" =>k_extra "14"
 k_with "ba" =>k_extra "14"
 k_with "i" =>k_extra "14"
 refine CV (C3 ns++rest) ?_;intro tl htl;rw [←htl] at N;k_with "+15" =>skip
 k_with "15" =>(fail_if_success k_extra "+16")
 k_with "m" =>k_extra "15"
 k_with "k" =>k_extra "15"
 k_with "aq" =>k_extra "15"
 k_with "ar" =>k_extra "15"
 k_with "as" =>k_extra "15"
 k_with "ay" =>k_extra "15"
 k_with "at" =>k_extra "15"
 k_with "az" =>k_extra "15"
 k_with "ba" =>k_extra "15"
 k_with "i" =>k_extra "15"
 k_with "j" =>k_extra "15"
 revert X
 k_fill
 intro X;refine BN ?_
 k_dflt (refine' kp_rest ?k1 ?k2 ?k3 ?k4 ?k5 ?kA ?kF ?kK ?k6 ?k7 ?k8 ?kV ?kP ?kG ?kB ?_ ?c2 ?c3 ?c4 ?c5;(case kA=>exact rfl);(case kF=>exact rfl);(case kK=>assumption);(case k1=>k_asm);(case k2=>k_asm);(case k3=>k_asm);(case k4=>k_asm);(case k5=>k_asm);(case k6=>k_is);(case k7=>k_is);(case k8=>ktr_room);(case kV=>kl_lit);(case kP=>exact rfl);(case kG=>exact fun _=>rfl);(case kB=>exact fun _=>locs rfl);(case c5=>decide);(case c2=>exact rfl);(case c3=>exact rfl);(case c4=>exact rfl);k_whole;intro D' g' L' h' l1 FG' F' N' B' X' T';(try dsimp only);(try k_fold))
 refine (let A9:AO:=_;(?_:wpAny _ A9 _ _ _ _));k_steps;refine ⟨?_⟩;rw [htl] at N' l1;have hG:∀z∈GK xa d n2 ns,z<D':=by
  intro z hz;refine AQ hz ?_ fun hz=>?_
  ·exact l1 _ (.head _)
  refine AQ hz ?_ fun hz=>?_
  ·exact l1 _ mH1
  refine AQ hz ?_ fun hz=>?_
  ·exact l1 _ mH2
  refine mmE hz ?_;intro p hp;exact l1 p (mT3 (maL _ hp))
 have hoff1:∀p∈(D',(⟨.type "tuple",none,.seq #[] 0,#[]⟩:Obj))::rest,p.1∉GK xa d n2 ns:=by
  intro p hp hm;rcases mc1 hp with rfl | hp
  ·exact absurd (hG _ hm) (Av _)
  exact hoff p hp hm
 have N2:News g' L' h' ((xa,AT 362 d)::(d,oT)::(n2,o2)::(C3 ns++(D',(⟨.type "tuple",none,.seq #[] 0,#[]⟩:Obj))::rest)):=Bo N' (A6 mH1 (A6 mH2 (A6 mH3 (fun p hp=>by
  refine AF hp (fun hp=>?_) fun hp=>?_
  ·exact mT4 (maL _ hp)
  refine AH hp ?_ fun hp=>?_
  ·exact .head _
  exact mT4 (maR _ hp)))))
 refine CK (Bi 360 600 gd (A0 "TopologicalSorter.add") _ L' 312 (.ref 311) [] (envX cn cs L a ccd cl::outer)) rfl (show 351≤360 by decide) rfl rfl (show 503≤600 by decide) ?_;refine VR w _ _ _ _ _ _ _ _ _ _ _ _ _ _ _ _ _ _ _ _ _ _ _ _ _ ns _ _ _ _ _ _ _ _ B' F' X' N2 T' rfl hx hd lo2 hnn (by lia) hnd hoff1 (fun e1 ns1 o1 h1 tk1 he1 hx1 hc1 hd1 hnn1 hnd1 hoff1 hl1 F1 N1=>?_);clear F' N' N2;refine Dj (HE hnd1) ?_;intro f1 f2 f3;have hpre1:∀p∈[(D',(⟨.type "tuple",none,.seq #[] 0,#[]⟩:Obj)),(xa,AT 362 d),(d,oT),(n2,o1)],p.1∉FB (C3 ns1):=
  fc1 ⟨fun hm=>hoff1 _ (.head _) (En hm),fc1 ⟨f1,fc1 ⟨f2,fc1 ⟨f3,AA _⟩⟩⟩⟩
 refine CV (C3 ns1++rest) ?_;intro tl1 htl1;have N3:News g' L' h1 ((D',(⟨.type "tuple",none,.seq #[] 0,#[]⟩:Obj))::(xa,AT 362 d)::(d,oT)::(n2,o1)::tl1):=Bo N1 fun p hp=>by
  rw [htl1] at hp;refine AH hp ?_ fun hp=>?_
  ·exact mT3 (maR _ (.head _))
  refine AH hp ?_ fun hp=>?_
  ·exact .head _
  refine AH hp ?_ fun hp=>?_
  ·exact mH1
  refine AH hp ?_ fun hp=>?_
  ·exact mH2
  refine AF hp (fun hp=>?_) fun hp=>?_
  ·exact mT3 (maL _ hp)
  exact mT3 (maR _ (.tail _ hp))
 clear N1;k_steps;refine ⟨?_⟩;have m1:(e1.a,GV e1.ad e1.nm e1.tn e1.np e1.tp e1.sl)∈(D',(⟨.type "tuple",none,.seq #[] 0,#[]⟩:Obj))::(xa,AT 362 d)::(d,oT)::(n2,o1)::tl1:=by
  rw [htl1];exact mT4 (maL _ (CE he1 (.head _)))
 have m2:(e1.ad,Fk [] 0)∈(D',(⟨.type "tuple",none,.seq #[] 0,#[]⟩:Obj))::(xa,AT 362 d)::(d,oT)::(n2,o1)::tl1:=by
  rw [htl1];exact mT4 (maL _ (CE he1 (.tail _ (.head _))))
 rename Fr _ _ _ _=>F4;rename News _ _ _ _=>N4;refine Jg F4 X' N4 m1 m2 ?_;k_steps;refine ⟨?_⟩;rename Fr _ _ _ _=>F5;rename News _ _ _ _=>N5;refine L2 F5 X' N5 m1 m2 fun h2 F6 N6a=>?_;clear F5 N5;refine (let G9:Prop:=_;(?_:G9));refine Bp (⟨_,N6a⟩:∃tt,News g' L' h2 (CD e1.a (GV e1.ad e1.nm e1.tn (e1.np+0) tt e1.sl) ((D',(⟨.type "tuple",none,.seq #[] 0,#[]⟩:Obj))::(xa,AT 362 d)::(d,oT)::(n2,o1)::tl1))) ?_;intro tt N6;refine (?_:wpAny _ _ _ _ _ _);rw [htl1] at N6;have N7:=Bo N6 (Gy (pre:=[(D',(⟨.type "tuple",none,.seq #[] 0,#[]⟩:Obj)),(xa,AT 362 d),(d,oT),(n2,o1)]) hnn1 hnd1 hpre1 (fun p hp=>hoff1 p (.tail _ hp)) he1);refine CV (upX ns1 e1.nm fun e=>{ e with np:=e1.np+0,tp:=tt }) ?_;intro ns2 hns2;rw [←hns2] at N7;simp only [BJ,BS] at N7;clear N6 N6a m1 m2;have hP0:BW ns2=KI (BW ns) x:=by
  rw [hns2,←IX hc1 he1 hx1];unfold BW upX;rw [Ao];apply Az;intro e he;show DF (if e.nm=e1.nm then { e with np:=e1.np+0,tp:=tt } else e)=DF e;split
  ·rename_i hc;have:e=e1:=De hnn1 he he1 hc;subst this;unfold DF;rw [DV]
  rfl
 have hnd2:(GK xa d n2 ns2).Nodup:=by rw [hns2,Hh (f:=fun e=>{ e with np:=e1.np+0,tp:=tt }) (fun _=>rfl)];exact hnd1
 have hoff2:∀p∈(D',(⟨.type "tuple",none,.seq #[] 0,#[]⟩:Obj))::rest,p.1∉GK xa d n2 ns2:=by rw [hns2,Hh (f:=fun e=>{ e with np:=e1.np+0,tp:=tt }) (fun _=>rfl)];exact hoff1
 have hnn2:(ns2.map (·.nm)).Nodup:=by rw [hns2,HQ (f:=fun e=>{ e with np:=e1.np+0,tp:=tt }) (fun _=>rfl)];exact hnn1
 have hd2:o1.IsDictOf (AM rw_nq0317_02.prog w) (Da ns2):=by rw [hns2,HR (f:=fun e=>{ e with np:=e1.np+0,tp:=tt }) (fun _=>rfl) (fun _=>rfl)];exact hd1
 have hsc1:∀e∈ns1,e.sc.length≤bd:=by
  intro e he;rcases hc1 with rfl | ⟨_,rfl,_,hs0⟩
  ·exact hsc e he
  refine AF he (fun he=>?_) fun he=>?_
  ·exact hsc e he
  rw [ms1 he,hs0];exact B0 _
 have hsc2:∀e∈ns2,e.sc.length≤bd+0:=by
  intro e he;rw [hns2] at he;refine mmE he ?_;intro e0 he0;have:=hsc1 e0 he0;split<;>exact this
 have hl2:ns2.length≤ns.length+1:=by rw [hns2,Li];exact hl1
 k_steps;refine ⟨?_⟩;rename Fr _ _ _ _=>F8;rename News _ _ _ _=>N8;refine Jv (σ:=AS) (fun c=>(D',(⟨.type "tuple",none,.seq #[] 0,#[]⟩:Obj))::(xa,AT 362 d)::(d,oT)::(n2,c.o)::(C3 c.ns++rest)) (fun _=>[]) [A0 "pred_info"]
  (fun i c=>c.o.IsDictOf (AM rw_nq0317_02.prog w) (Da c.ns)∧(c.ns.map (·.nm)).Nodup∧(GK xa d n2 c.ns).Nodup∧(∀p∈(D',(⟨.type "tuple",none,.seq #[] 0,#[]⟩:Obj))::rest,p.1∉GK xa d n2 c.ns)∧c.ns.length≤ns.length+1∧(∀e∈c.ns,e.sc.length≤bd+0)∧BW c.ns=KI (BW ns) x)
  ⟨ns2,o1⟩ rfl ⟨_,(N8 _ (.head _)).1,rfl,_,rfl⟩ (N8 _ (.head _)).2.1 F8 N8 ?hP (AA _) ?turn ?done
 case hP=>exact ⟨hd2,hnn2,hnd2,hoff2,hl2,hsc2,hP0⟩
 case turn=>
  clear N8 F8;intro i c v u h tk own wr hv hP hoffw hw hf F' N';cases hv
 clear N8 F8;intro c u h tk hP F' N';refine Nn hP ?_;(try clear hP);intro p1 p2 p3 p4 p5 p8 p6;k_steps;rename Fr _ _ _ _=>F9;rename News _ _ _ _=>N9;exact hret c.ns c.o _ _ p6 p1 p2 p3 (fun p hp=>p4 p (.tail _ hp)) p5 p8 F9 (Bo N9 fun p hp=>.tail _ hp)
section
open PySem.Spec
section
variable {prog:AY}{w:World}{A₀ A:AO}{s:A4}{base h₀ g₀:Heap}{L a:Addr}{m:Str→Option Value}{cn:Str}{cs:Scope}{ccd:Value}{cl:List (Str×Addr)}{news:List (Addr×Obj)}{K:Frag}{p:AY}{loose:List Str}{mean:CG→Option Value}{mg mb:Str→Option Value}
  {R:DN→A4→Prop} {name qual:Str} {params:Arguments} {body:List Stmt} {scope:Scope} {dV kV doc pm cdv ct oc:Value} {an od:Option Addr} {osl:Array (Option Value)} {f:Addr} {args:Args} {binds:List (Str×Value)}
theorem Nt (B:Below A₀ base [] h₀)(F:Fr h₀ L s.heap m)(X₀:K.In h₀)(N:News h₀ L s.heap news)(T:Top p loose mean mg mb h₀)(hA:A.frames=some [envX cn cs L a ccd cl])
  (ho:K.lookup f=some ⟨oc,od,.func (fnOf name qual params body scope dV kV doc pm an cdv ct),osl⟩) (hcd:codeIn K cdv qual=true) (hroom:A.depth<recursionLimit)
  (hbind:BindsTo s (fnOf name qual params body scope dV kV doc pm an cdv ct) args binds) (hloc:∀y∈binds,scope.names.lookup y.1=some .local)
  (h:∀g L' h₁,Fr h₀ L g m→Fr g L' h₁ (fun y=>binds.reverse.lookup y)→News g L' h₁ news→Below A base [envX cn cs L a ccd cl] g→K.In g→Top p loose mean mg mb g→FV ([envX cn cs L a ccd cl].filterMap (·.frame)) g→
   wpAny (model prog w) (A.deeper (envOf qual scope L' f cdv)) (execs body (envOf qual scope L' f cdv))
    (fun fl s'=>LeaveS0 ([envX cn cs L a ccd cl].filterMap (·.frame)) h₀ L m g R (match fl with | .ret v=>v | _=>.none) s')
    (fun e s'=>wpAny (model prog w) (A.deeper (envOf qual scope L' f cdv)) («leaving» (envOf qual scope L' f cdv) e) (fun _ s''=>R (.error e) s'') (fun e' s''=>R (.error e') s'') s')
    { s with heap:=h₁,toks:=s.toks+binds.length })
  (hck:cs.kind = .function) (hco:scope.isCoroutine=false) (hgen:scope.isGenerator=false) (hk:scope.kind = .function)
  (hcell:∀x∈scope.names,x.2≠.cell):Bt (model prog w) A (.call (.ref f) args) R s:=by
 have Xs:=X₀.keeps F.keep;have hself:=kts_self F;refine codeAny_call_def (fd:=fnOf name qual params body scope dV kV doc pm an cdv ct) (body:=body) (binds:=binds) hroom (Xs _ _ ho) rfl (T.nolimit.keeps F.keep) (codeRec_of Xs hcd) rfl hbind hcell hloc (fun h₁ hns hup=>?_) hco hgen hk;refine Vn (kts_enter (A:=A₀.deeper (envOf cn cs L a ccd)) B F N (AO.frames_deeper B.stack) hck) ?_;intro oL es ep gL dL nsL nsSlots stay low;have low':Below A base [envX cn cs L a ccd cl] (hideAll s.heap (news.map (·.1))):=⟨hA,low.stays,low.frames⟩;have hD:FV ([envX cn cs L a ccd cl].filterMap (·.frame)) (hideAll s.heap (news.map (·.1))):=by
  intro b hb;have hb':b∈[L]:=hb;rw [ms1 hb'];exact ⟨oL,es,ep,gL,dL⟩
 have hN:News (hideAll s.heap (news.map (·.1))) s.heap.objs.size h₁ news:=fun q hq=>
  ⟨hup _ _ (N q hq).1,A7 (AZ (N q hq).1),hideAll_none _ (List.mem_map_of_mem hq)⟩
 have hF1:Fr h₀ L (hideAll s.heap (news.map (·.1))) m:=⟨nsL _ gL,stay,F.above⟩;have hF2:Fr (hideAll s.heap (news.map (·.1))) s.heap.objs.size h₁ (fun y=>binds.reverse.lookup y):=⟨hns,fun b o e=>hup b o (of_hideAll _ e),O2 (hideAll_size _ _)⟩;refine Ac (h _ _ h₁ hF1 hF2 hN low' (X₀.keeps stay) (T.keeps stay) hD) (fun fl s' hl=>?_) fun _ _ y=>y;refine Uv (hl) ?_;(try clear hl);intro g' L₂ m₂ news₂ turn F₂ N₂ fin;refine Bp (turn.up gL) ?_;intro sl hsl;refine fin ⟨nsSlots sl _ (F₂.keep _ _ hsl),fun b o e=>?_,F.above⟩ fun q hq=>⟨(N₂ q hq).1,fun e=>?_,?_⟩
 ·refine F₂.keep b o (turn.other b o (stay b o e) fun hm=>?_);have hm':b∈[L]:=hm;rw [ms1 hm',hself] at e;cases e
 ·have h9:=(N₂ q hq).2.2;rw [e,hsl] at h9;cases h9
 cases h8:h₀.get? q.1 with
 | none=>rfl
 | some o=>
  refine Bp (turn.up (stay _ _ h8)) ?_;intro sl' hsl';have h9:=(N₂ q hq).2.2;rw [hsl'] at h9;cases h9
end
section
variable {prog:AY}{w:World}{A₀:AO}{E:Value→A4→Prop}{s':A4}{base g G:Heap}{L a e t C:Addr}{m:Str→Option Value}{name:Str}{scope:Scope}{cd:Value}{cl:List (Str×Addr)}
 {vs:List Value} {b₀:Stmt} {suite:List Stmt} {pos np:Pos} {rest:List ExceptHandler} {Q:Flow→A4→Prop} {news:List (Addr×Obj)} {KF:Frag}
 {p:AY} {loose:List Str} {mean:CG→Option Value} {mg mb:Str→Option Value} {x:Str}
end
end
theorem Qy {A₀:AO}{base h₀ g g':Heap}{outer:List Env}{L:Addr}{m:Str→Option Value}{fs:List Addr}(B:Below A₀ base outer h₀)(F:Fr h₀ L g m)(hfs:∀b∈fs,b=L∨b∈outer.filterMap (·.frame))(T:FY fs g g') :
  ∃h₀',FY (outer.filterMap (·.frame)) h₀ h₀'∧Fr h₀' L g' m∧Below A₀ base outer h₀':=by
 have nL₀:h₀.get? L=none:=kts_self F;obtain ⟨T₁,S₁⟩:=kts_turn_at (h:=g') (fs:=outer.filterMap (·.frame)) (g:=h₀)
  (fun b hb=>by
   obtain ⟨_,o,ho',_⟩:=B.frames.mem hb;exact ⟨o,ho'⟩)
  (fun b o e nmem=>T.other b o (F.keep b o e) (fun q=>by
   rcases hfs b q with z | z
   ·rw [z,nL₀] at e;cases e
   exact nmem z))
  (fun b o e hm=>by
   refine Bp (T.up (F.keep b o e)) ?_;intro sl' hs';exact ⟨sl',hs'⟩)
 refine Vo (F.ns) ?_;intro o es ep hL hLd hLk hLf;refine Bp (T.up hL) ?_;intro sl hs;exact ⟨_,T₁,⟨⟨_,es,ep,hs,hLd,hLk,hLf⟩,S₁,by rw [T₁.size];exact F.above⟩,⟨B.stack,fun b o e=>T₁.other b o (B.stays b o e) (fun hm=>by
  rw [(B.frames.mem hm).1] at e;cases e),B.frames.of_keeps fun b o e _=>by
  refine Bp (T₁.up e) ?_;intro sl' hs';exact ⟨_,hs',rfl⟩⟩⟩
theorem Oh (w:World)(p:AY)(lo:List Str)(mean:CG→Option Value)(mg mb:Str→Option Value)
  (gd:Option (List Code)) (cn:Str) (cs:Scope) (a:Addr) (ccd:Value) (outer:List Env) (A₀:AO) (base h₀ g₀:Heap) (L:Addr) (m:Str→Option Value) (rest:List (Addr×Obj)) (s:A4)
  (xa d n2:Addr) (o2:Obj) (ns:List NI) (t1 t2 t3 t4 t5 t6:Tok) (Q E:Value→A4→Prop)
  (B:Below A₀ base outer h₀) (F:Fr h₀ L s.heap m) (X:(Mine.K w.params).In h₀) (N:News h₀ L s.heap ((xa,AT 362 d)::(d,tsD w t1 t2 t3 t4 t5 t6 n2)::(n2,o2)::(C3 ns++rest))) (T:Top p lo mean mg mb h₀) (hk:cs.kind = .function)
  (XB:(Mine.K w.params).In base) (TB:Top p lo mean mg mb base) (D:FV (outer.filterMap (·.frame)) h₀) (T0:FY (outer.filterMap (·.frame)) g₀ h₀)
  (hd:o2.IsDictOf (AM rw_nq0317_02.prog w) (Da ns)) (lo2:(n2==BV)=false) (hnn:(ns.map (·.nm)).Nodup) (hl:ns.length≤100)
  (hcl:∀e∈ns,∀q∈e.sc,q.1∈ns.map (·.nm)) (hln:∀e∈ns,True) (hnd:(GK xa d n2 ns).Nodup) (tl0:List (Addr×Obj)) (htl0:tl0=C3 ns++rest) (hoff:∀p∈rest,p.1∉GK xa d n2 ns)
  (hret:∀h' tk' h₀' D ys ep,ys.toList=IV ns→(∀e∈ns,Acc (FU ns) e.nm)→FY (outer.filterMap (·.frame)) g₀ h₀'→Fr h₀' L h' m→News h₀' L h' ((xa,AT 362 d)::(d,tsR w t1 t2 t3 t4 t5 t6 n2 (.ref D) 0 0)::(n2,o2)::(C3 ns++(D,A1 ys ep)::rest))→
   (∀p∈(xa,AT 362 d)::(d,tsD w t1 t2 t3 t4 t5 t6 n2)::(n2,o2)::tl0,p.1≠D)→Below A₀ base outer h₀'→(Mine.K w.params).In h₀'→Top p lo mean mg mb h₀'→FV (outer.filterMap (·.frame)) h₀'→Q .none { s with heap:=h',toks:=tk' })
  (hraise:∀G h₀' e t vs l its el h' tk' D ys ep,ys.toList=IV ns→(∃e∈ns,¬Acc (FU ns) e.nm)→FY (outer.filterMap (·.frame)) g₀ h₀'→Below A₀ base outer h₀'→Fr h₀' L G m→
   RaisedS base G (envOf cn cs L a ccd::outer) e (.ref 280) t vs ((l,A1 its el)::(xa,AT 362 d)::(d,tsR w t1 t2 t3 t4 t5 t6 n2 (.ref D) 0 0)::(n2,o2)::(C3 ns++(D,A1 ys ep)::rest)) h'→G.UpToSlots h'→
   (∀p∈(xa,AT 362 d)::(d,tsD w t1 t2 t3 t4 t5 t6 n2)::(n2,o2)::tl0,p.1≠D)→E (.ref e) { s with heap:=h',toks:=tk' }) :
  wpAny (model (rw_nq0317_02.prog) w) (Bi 350 500 gd cn cs L a ccd [] outer) (call (.ref 317) [.ref xa]) Q E s:=by
 k_with "+16" =>skip
 k_with "16" =>(fail_if_success k_extra "+17")
 k_with "m" =>k_extra "16"
 k_with "k" =>k_extra "16"
 k_with "bb" =>k_extra "16"
 k_with "at" =>k_extra "16"
 k_with "au" =>k_extra "16"
 k_with "ag" =>k_extra "16"
 k_with "bc" =>k_extra "16"
 refine CV (C3 ns++rest) ?_;intro tl htl;rw [show tl0=tl from htl0.trans htl.symm] at hret hraise;rw [←htl] at N;have XB':=XB;have TB':=TB;k_with "+17" =>skip
 k_with "17" =>(fail_if_success k_extra "+18")
 k_with "m" =>k_extra "17"
 k_with "k" =>k_extra "17"
 k_with "bb" =>k_extra "17"
 k_with "at" =>k_extra "17"
 k_with "au" =>k_extra "17"
 k_with "ag" =>k_extra "17"
 k_with "bc" =>k_extra "17"
 revert X
 k_fill
 intro X;refine BN ?_
 k_dflt (refine' code_defS (g₀:=g₀) (binds:=[(A0 "self",.ref xa)]) ?k1 ?k2 ?k3 ?k4 ?k5 ?XB ?TB ?D ?T0 ?kA ?k6 ?k7 ?k8 ?k9 ?kB ?_ ?cK ?c2 ?c3 ?c4 ?c5;(case kA=>exact rfl);(case k2=>k_asm);(case k1=>k_asm);(case XB=>assumption);(case TB=>assumption);(case D=>assumption);(case T0=>assumption);(case k3=>k_asm);(case k4=>k_asm);(case k5=>k_asm);(case k6=>k_is);(case k7=>k_is);(case k8=>ktr_room);(case k9=>first | exact CA rfl | exact Q1 (by k_in) rfl (by k_is) rfl rfl rfl);(case kB=>exact locs rfl);(case cK=>assumption);(case c2=>exact rfl);(case c3=>exact rfl);(case c4=>exact rfl);(case c5=>decide);k_whole;intro g' L' h' FG' F' N' B' X' T' D';(try dsimp only);(try k_fold))
 refine (let A9:AO:=_;(?_:wpAny _ A9 _ _ _ _));k_steps;rename News _ _ _ _=>N1;rename Fr _ L' _ _=>F1;have m2:(n2,o2)∈(n2,o2)::tl:=.head _;refine ME (knd:=AM rw_nq0317_02.prog w) (Me ns) (fun v y=>∃e∈ns,v = .ref e.a∧y = .int e.nm e.tn) rfl (.head _) mH3 hd F1 N1 ?g1 ?g2 ?g3 (Bw (by unfold Da;simp;lia))
 case g1=>
  intro C i k v s₃ m₃ E' hi hn hm F3 N3;refine (let G9:Prop:=_;(?_:G9));obtain ⟨e,he,rfl⟩:∃e∈ns,v = .ref e.a:=by
   unfold Da at hi;rw [AX] at hi;refine Aq (Option.map_eq_some_iff.mp hi) ?_;intro e he h;exact ⟨e,AK he,(congrArg Dw h).symm⟩
  refine (?_:wpAny _ _ _ _ _ _);have hmt:∀q∈EZ e,q∈tl:=by
   intro q hq;rw [htl];exact maL _ (CE he hq)
  refine wpAny_tests_one ?_;k_steps;refine ⟨?_⟩;refine Jg F3 X' N3 (mT4 (hmt _ (.head _))) (mT4 (hmt _ (.tail _ (.head _)))) ?_;k_steps
  ·exact (Kv (nc1 (nc1 (nc1 hnd).2).2).2 he).symm
  skip
  exact Jo
 case g2=>
  intro C i k v s₃ m₃ E' hi hp hn hm F3 N3;refine (let G9:Prop:=_;(?_:G9));obtain ⟨e,he,rfl⟩:∃e∈ns,v = .ref e.a:=by
   unfold Da at hi;rw [AX] at hi;refine Aq (Option.map_eq_some_iff.mp hi) ?_;intro e he h;exact ⟨e,AK he,(congrArg Dw h).symm⟩
  refine (?_:wpAny _ _ _ _ _ _);have hmt:∀q∈EZ e,q∈tl:=by
   intro q hq;rw [htl];exact maL _ (CE he hq)
  k_steps;refine ⟨?_⟩;refine UY F3 X' N3 (mT4 (hmt _ (.head _))) (mT4 (hmt _ (.tail _ (.head _)))) ?_;exact ⟨⟨e,he,rfl,rfl⟩,Jo⟩
 intro D h3 tk3 ys ep F3 N3 hne hpr;clear F1 N1;k_steps;refine ⟨?_⟩;refine UO F3 X' N3 mH2 mH3 fun h4 F4 N4=>?_;clear F3 N3;have hys:=NH (nc1 (nc1 (nc1 hnd).2).2).2 hpr;have hdd:d≠xa∧d≠n2∧∀p∈tl,p.1≠d:=by
  have q1:=nc1 hnd;have q2:=nc1 q1.2;refine ⟨fun e=>q1.1 (e▸.head _),fun e=>q2.1 (e▸.head _),fun p hp e=>?_⟩;rw [htl] at hp;refine AF hp (fun hp=>?_) fun hp=>?_
  ·exact (HE hnd).2.1 (mm2 ⟨p,hp,e⟩)
  exact hoff p hp (e▸mH1)
 have N5:News g' L' h4 ((D,A1 ys ep)::(xa,AT 362 d)::(d,tsR w t1 t2 t3 t4 t5 t6 n2 (.ref D) 0 0)::(n2,o2)::tl):=Bo N4 (A6 (A8 (.head _) (hne (d,_) mH2).symm) (A6 (A8 mH2 hdd.1.symm) (A6 (AV mH3) (A6 (A8 mH4 hdd.2.1.symm) (fun q hq=>A8 (mT5 hq) (hdd.2.2 q hq))))));clear N4;k_steps;refine ⟨?_⟩;rename News _ _ _ _=>N6;rename Fr _ L' _ _=>F6;have N7:=Bo N6 (news':=(xa,AT 362 d)::(d,tsR w t1 t2 t3 t4 t5 t6 n2 (.ref D) 0 0)::(n2,o2)::(C3 ns++(D,A1 ys ep)::rest)) (fun q hq=>by
  refine AH hq ?_ fun hq=>?_
  ·exact mH1
  refine AH hq ?_ fun hq=>?_
  ·exact mH2
  refine AH hq ?_ fun hq=>?_
  ·exact mH3
  refine AF hq (fun hq=>?_) fun hq=>?_
  ·exact mT4 (by rw [htl];exact maL _ hq)
  refine AH hq ?_ fun hq=>?_
  ·exact .head _
  exact mT4 (by rw [htl];exact maR _ hq))
 clear N6;refine CK (Bi 355 550 gd (A0 "TopologicalSorter.prepare") _ L' 317 (.ref 316) [] (envOf cn cs L a ccd::outer)) rfl (show 351≤355 by decide) rfl rfl (show 503≤550 by decide) ?_;refine Xc w p lo mean mg mb gd _ _ 317 (.ref 316) _ _ base g' g' L' _ _ _ xa d n2 o2 ns t1 t2 t3 t4 t5 t6 (.ref D) 0 0 _ _ B' F6 X' N7 T' rfl XB' TB' D' FY.refl hd lo2 hnn hl hcl hln ?hret ?hcyc
 case hret=>
  rintro v h7 tk7 g7 ⟨rfl,hacc⟩ kT kF kN kB kX kP kD;clear F6 N7 B' X' T' D';k_steps;rename News _ L _ _=>kN9;rename Fr _ L _ m=>kF9;rename FY (List.filterMap _ outer) g₀ _=>kT9;rename Below A₀ base outer _=>kB9;rename Frag.In _ _=>kX9;rename Top _ _ _ _ _ _=>kP9;rename FV _ _=>kD9;exact hret _ _ _ D ys ep hys hacc kT9 kF9 kN9 (fun p hp=>hne p (.tail _ hp)) kB9 kX9 kP9 kD9
 rintro l its el h7 tk7 g7 hcy hn0 hsz kT kF kN kB kX kP kD;clear F6 N7 B' X' T' D';k_steps;refine ⟨?_⟩;rename News _ _ _ _=>kN;have hz9:its.size≤100000:=Am hsz (by decide);refine FZ kN (.head _) hz9 ?_;rw [show (!its.isEmpty)=true by cases hq:its.isEmpty with | false=>rfl | true=>exact absurd (by simpa using hq) hn0];k_steps;rename RaisedS _ _ _ _ _ _ _ _ _=>kS;refine Dn (Qy B FG' (fun b hb=>kts_mem hb) kT) ?_;intro h9 T9 F9 B9;exact hraise _ h9 _ _ _ l its el _ _ D ys ep hys hcy (T0.trans T9) B9 F9 kS (by assumption) fun p hp=>hne p (.tail _ hp)
end
noncomputable abbrev JP:=Nat→(Str→Option Value)→List (Addr×Obj)→Prop
inductive LEi (h₀:Heap)(L I:Addr)(oI:Obj)(s:A4)(J:JP)(i:Nat)(s₃:A4):Prop
 | mk (h:Heap) (tk:Nat) (m:Str→Option Value) (nx:List (Addr×Obj)) (e:s₃ = { s with heap:=h,toks:=tk }) (F:Fr h₀ L h m) (N:News h₀ L h ((I,oI)::nx)) (hn:∀p∈nx,p.1≠I) (hJ:J i m nx):LEi h₀ L I oI s J i s₃
def LEnd (h₀:Heap)(L I:Addr)(oI:Obj)(s:A4)(J:JP)(i:Nat)(Q:Flow→A4→Prop)(f:Flow)(s₃:A4):Prop:=
 match f with
 | .ret v=>Q (.ret v) s₃
 | .brk=>Q .next s₃
 | _=>LEi h₀ L I oI s J i s₃
inductive WPg (h₀:Heap)(L I:Addr)(oI:Obj)(s:A4)(dp:Drawn→Prop)(J:JP)(i:Nat)(s₃:A4):Prop
 | mk (h:Heap) (tk:Nat) (d:Drawn) (m:Str→Option Value) (nx:List (Addr×Obj)) (e:s₃ = { s with heap:=h,toks:=tk,drawn:=d }) (hd:dp d) (F:Fr h₀ L h m) (N:News h₀ L h ((I,oI)::nx)) (hn:∀p∈nx,p.1≠I) (hJ:J i m nx):WPg h₀ L I oI s dp J i s₃
inductive WSg (h₀:Heap)(L I:Addr)(s:A4)(dp:Drawn→Prop)(J:JP)(St:Nat→Heap→Prop)(n k:Nat)(s':A4):Prop
 | mk (i:Nat) (h:Heap) (tk:Nat) (d:Drawn) (m:Str→Option Value) (nx:List (Addr×Obj)) (e:s' = { s with heap:=h,toks:=tk,drawn:=d }) (hi:i≤n) (hk:k=n-i) (hS:St i h) (hd:dp d) (F:Fr h₀ L h m) (N:News h₀ L h nx) (hn:∀p∈nx,p.1≠I) (hJ:J i m nx):WSg h₀ L I s dp J St n k s'
def WEd (h₀:Heap)(L I:Addr)(oI:Obj)(s:A4)(dp:Drawn→Prop)(J:JP)(i:Nat)(Q:Flow→A4→Prop)(f:Flow)(s₃:A4):Prop:=
 match f with
 | .ret v=>Q (.ret v) s₃
 | .brk=>Q .next s₃
 | _=>WPg h₀ L I oI s dp J i s₃
section
variable {prog:AY}{w:World}{A:AO}{E:Value→A4→Prop}{s:A4}{env:Env}{Q:Flow→A4→Prop}{body:List Stmt}{h₀:Heap}{m:Str→Option Value}{news:List (Addr×Obj)}
theorem RW {t:AW}{io:Obj}{fp:List Addr}{n:Nat}{Pv:Nat→Value→Prop}{St:Nat→Heap→Prop}{dp:Drawn→Prop}(W:Walks prog w A s.heap.objs.size fp [s.heap.objs.size] n Pv St)
  (hE:DR (model prog w) A env E) (hSI:∀i h,St i h→∃o,h.get? s.heap.objs.size=some o)
  (hgo:∀i v (s':A4) (Q':Unit→A4→Prop) (E':Value→A4→Prop),Pv i v→St (i+1) s'.heap→Q' () s'→wpAny (model prog w) A (EF t (.ref s.heap.objs.size) v) Q' E' s') (J:JP) (hl:∀b∈fp,b≠s.heap.objs.size→∃o,∀i m nx,J i m nx→(b,o)∈nx) (hst:St 0 (s.heap.push io)) (hd:dp s.drawn)
  (F:Fr h₀ env.locals s.heap m) (N:News h₀ env.locals s.heap news) (h0:J 0 m news)
  (turn:∀i v m₁ nx oI h tk d,i<n→Pv i v→St (i+1) h→dp d→J i m₁ nx→(∀p∈nx,p.1≠s.heap.objs.size)→Fr h₀ env.locals h m₁→News h₀ env.locals h ((s.heap.objs.size,oI)::nx)→
   wpAny (model prog w) A (DM t env v) (fun _ s₂=>wpAny (model prog w) A (execs body env) (WEd h₀ env.locals s.heap.objs.size oI s dp J (i+1) Q) E s₂) E { s with heap:=h,toks:=tk,drawn:=d })
  (done:∀m₁ nx h tk d,dp d→J n m₁ nx→Fr h₀ env.locals h m₁→News h₀ env.locals h nx→Q .next { s with heap:=h,toks:=tk,drawn:=d }) :
  KU prog w A env t body Q E (.ref s.heap.objs.size) { s with heap:=s.heap.push io }:=by
 have hI:h₀.get? s.heap.objs.size=none:=by
  cases e:h₀.get? s.heap.objs.size with
  | none=>rfl
  | some o=>exact absurd (AZ (F.keep _ _ e)) (Av _)
 have hL:env.locals≠s.heap.objs.size:=A7 F.ns.lt;have hn:∀p∈news,p.1≠s.heap.objs.size:=fun p hp=>A7 (AZ (N p hp).1);have N2:News h₀ env.locals (s.heap.push io) news:=fun p hp=>⟨AE _ (N p hp).1,(N p hp).2⟩;have F2:=F.push io;clear F N;refine ⟨?_⟩;generalize s.heap.objs.size=I at *;refine codeAny_forLoop_any (WSg h₀ env.locals I s dp J St n) ?_ n ⟨0,s.heap.push io,s.toks,s.drawn,m,news,rfl,B0 _,rfl,hst,hd,F2,N2,hn,h0⟩;clear hn N2 F2 hst hd h0;rintro k s' ⟨i,h,tk,d,m',nx,rfl,hi,rfl,hS,hd,F',N',hn',hJ⟩;have next:∀h₁:Heap,(∀b o,b∉[I]→h.get? b=some o→h₁.get? b=some o)→Fr h₀ env.locals h₁ m'∧News h₀ env.locals h₁ nx:=fun h₁ hk=>
  ⟨⟨F'.ns.at' fun o e=>hk _ o (fun h=>hL (ms1 h)) e,fun b o e=>hk b o (fun hm=>by rw [ms1 hm,hI] at e;cases e) (F'.keep b o e),F'.above⟩,fun p hp=>⟨hk _ _ (fun h=>hn' p hp (ms1 h)) (N' p hp).1,(N' p hp).2⟩⟩
 clear F' N'
 by_cases hlt:i<n
 ·refine W.item i _ _ _ hlt hS fun v h₁ tk₁ hPv hS₁ hk=>?_;have FN:=next h₁ hk;refine Bp (hSI _ _ hS₁) ?_;intro oI ho;refine hgo i v _ _ _ hPv hS₁ ?_;refine Ac (turn i v m' nx oI h₁ tk₁ d hlt hPv hS₁ hd hJ hn' FN.1 (fc1 ⟨⟨ho,Ne.symm hL,hI⟩,FN.2⟩)) (fun _ s₂ h₂=>Ac h₂ (fun f s₃ h₃=>?_) hE) hE;have key:WPg h₀ env.locals I oI s dp J (i+1) s₃→∃k',k'<n-i∧WSg h₀ env.locals I s dp J St n k' s₃:=by
   rintro ⟨h₄,tk₄,d₄,m₄,nx₄,e₄,hd₄,F₄,N₄,hn₄,hJ₄⟩;refine ⟨n-(i+1),Fx _ _ hlt,i+1,h₄,tk₄,d₄,m₄,nx₄,e₄,hlt,rfl,W.frame _ _ _ hS₁ fun b hb o e=>?_,hd₄,F₄,fun p hp=>N₄ p (.tail _ hp),hn₄,hJ₄⟩
   by_cases hbI:b=I
   ·have q:=(N₄ _ (.head _)).1;rw [hbI,ho] at e;rw [hbI,←e];exact q
   refine Bp (hl b hb hbI) ?_;intro ob hob;have q:=(FN.2 _ (hob _ _ _ hJ)).1;rw [q] at e;rw [←e];exact (N₄ _ (.tail _ (hob _ _ _ hJ₄))).1
  cases f with
  | ret v=>exact h₃
  | brk=>exact h₃
  | next=>exact key h₃
  | cont=>exact key h₃
 have hin:i=n:=Cd hi (Fm hlt);subst hin;refine W.done _ _ _ hS fun h₁ tk₁ hk=>Le (done m' nx h₁ tk₁ d hd hJ (next h₁ hk).1 (next h₁ hk).2)
theorem MT {t:AW}{io:Obj}{fp:List Addr}{n:Nat}{Pv:Nat→Value→Prop}{St:Nat→Heap→Prop}(W:Walks prog w A s.heap.objs.size fp [s.heap.objs.size] n Pv St)
  (hE:DR (model prog w) A env E) (hSI:∀i h,St i h→∃o,h.get? s.heap.objs.size=some o)
  (hgo:∀i v (s':A4) (Q':Unit→A4→Prop) (E':Value→A4→Prop),Pv i v→St (i+1) s'.heap→Q' () s'→wpAny (model prog w) A (EF t (.ref s.heap.objs.size) v) Q' E' s') (J:JP) (hl:∀b∈fp,b≠s.heap.objs.size→∃o,∀i m nx,J i m nx→(b,o)∈nx) (hst:St 0 (s.heap.push io))
  (F:Fr h₀ env.locals s.heap m) (N:News h₀ env.locals s.heap news) (h0:J 0 m news)
  (turn:∀i v m₁ nx oI h tk,i<n→Pv i v→J i m₁ nx→(∀p∈nx,p.1≠s.heap.objs.size)→Fr h₀ env.locals h m₁→News h₀ env.locals h ((s.heap.objs.size,oI)::nx)→
   wpAny (model prog w) A (DM t env v) (fun _ s₂=>wpAny (model prog w) A (execs body env) (LEnd h₀ env.locals s.heap.objs.size oI s J (i+1) Q) E s₂) E { s with heap:=h,toks:=tk })
  (done:∀m₁ nx h tk,J n m₁ nx→Fr h₀ env.locals h m₁→News h₀ env.locals h nx→Q .next { s with heap:=h,toks:=tk }) :
  KU prog w A env t body Q E (.ref s.heap.objs.size) { s with heap:=s.heap.push io }:=
 RW (dp:=fun d=>d=s.drawn) W hE hSI hgo J hl hst rfl F N h0 (fun i v m₁ nx oI h tk d hi hv _ hd hJ hn F N=>by
  subst hd;refine Ac (turn i v m₁ nx oI h tk hi hv hJ hn F N) (fun _ s₂ h₂=>Ac h₂ (fun f s₃ h₃=>?_) fun _ _ h=>h) fun _ _ h=>h;have key:LEi h₀ env.locals s.heap.objs.size oI s J (i+1) s₃→WPg h₀ env.locals s.heap.objs.size oI s (fun d=>d=s.drawn) J (i+1) s₃:=by
   rintro ⟨h,tk,m,nx,e,F,N,hn,hJ⟩;exact ⟨h,tk,s.drawn,m,nx,e,rfl,F,N,hn,hJ⟩
  cases f with
  | ret v=>exact h₃
  | brk=>exact h₃
  | next=>exact key h₃
  | cont=>exact key h₃) fun m₁ nx h tk d hd hJ F N=>by subst hd;exact done m₁ nx h tk hJ F N
theorem L4 {elts:List AW}{x1:Nat}{tp:Pos}{l:Addr}{items:Array Value}{ep:Nat}(hv:∀(i:Nat)(v:Value),items[i]? = some v→∃a,v=A3 a)(hh:A.handled=none)(hE:DR (model prog w) A env E)(J:JP)(hl:∀i m nx,J i m nx→(l,A1 items ep)∈nx)
  (F:Fr h₀ env.locals s.heap m) (N:News h₀ env.locals s.heap news) (h0:J 0 m news)
  (turn:∀I i v m₁ nx oI h tk,items[i]? = some v→J i m₁ nx→(∀p∈nx,p.1≠I)→Fr h₀ env.locals h m₁→News h₀ env.locals h ((I,oI)::nx)→
   wpAny (model prog w) A (DM (.Tuple elts x1 tp) env v) (fun _ s₂=>wpAny (model prog w) A (execs body env) (LEnd h₀ env.locals I oI s J (i+1) Q) E s₂) E { s with heap:=h,toks:=tk })
  (done:∀m₁ nx h tk,J items.size m₁ nx→Fr h₀ env.locals h m₁→News h₀ env.locals h nx→Q .next { s with heap:=h,toks:=tk }) :
  wpAny (model prog w) A (CR (.ref l)) (fun it s₂=>KU prog w A env (.Tuple elts x1 tp) body Q E it s₂) E s:=by
 have hm:=hl _ _ _ h0;have hli:s.heap.IsList l items:=N.isList hm;have hlt:l<s.heap.objs.size:=AZ (N _ hm).1;refine DB hli ?_;have hW:=LU (prog:=prog) (w:=w) (A:=A) hh s.heap.objs.size l (A7 hlt) items;refine MT hW hE ?_ ?_ J (fun b hb hne=>⟨A1 items ep,by rw [(mc1 hb).elim (fun e=>absurd e hne) ms1];exact hl⟩) ⟨⟨_,Aa _ rfl,rfl,rfl⟩,hli.at fun o e=>AE _ e⟩ F N h0 (fun i v m₁ nx oI h tk _ hv=>turn _ i v m₁ nx oI h tk hv) done
 ·rintro i h ⟨⟨o,ho,_⟩,_⟩;exact ⟨o,ho⟩
 rintro i v s' Q' E' hP ⟨hit,_⟩ hQ;refine Bp (hv i v hP) ?_;intro a e91;subst e91;exact Do hit hQ
theorem Oe {x:Str}{px:Pos}{r:Addr}{a b c:Int}{t u v:Tok}{n:Nat}(hh:A.handled=none)(hE:DR (model prog w) A env E)(hr:OE s.heap r a b c t u v)(hsmall:Pu a b c=true)(hn:Ke a b c=(n:Int))(J:JP)
  (F:Fr h₀ env.locals s.heap m) (N:News h₀ env.locals s.heap news) (h0:J 0 m news)
  (turn:∀I i t m₁ nx oI h tk,i<n→J i m₁ nx→(∀p∈nx,p.1≠I)→Fr h₀ env.locals h m₁→News h₀ env.locals h ((I,oI)::nx)→
   wpAny (model prog w) A (DM (.Name x px) env (.int (a+(i:Int)*c) t)) (fun _ s₂=>wpAny (model prog w) A (execs body env) (LEnd h₀ env.locals I oI s J (i+1) Q) E s₂) E { s with heap:=h,toks:=tk })
  (done:∀m₁ nx h tk,J n m₁ nx→Fr h₀ env.locals h m₁→News h₀ env.locals h nx→Q .next { s with heap:=h,toks:=tk }) :
  wpAny (model prog w) A (CR (.ref r)) (fun it s₂=>KU prog w A env (.Name x px) body Q E it s₂) E s:=by
 refine RQ hr hsmall ?_;have hW:=Walks.range (prog:=prog) (w:=w) (A:=A) hh s.heap.objs.size a c n;refine MT hW hE (fun i h st=>⟨_,st⟩) (fun i v s' Q' E' _ _ hQ=>AC hQ) J (fun b hb hne=>absurd (ms1 hb) hne) ?hst F N h0 (fun i v m₁ nx oI h tk hi hv hJ hn F' N'=>?_) done
 case hst=>
  show IsRangeIter _ _ _ _ _;rw [hn];simpa using Aa _ rfl
 refine Bp hv ?_;(try clear hv);intro t' e91;subst e91;exact turn _ i t' m₁ nx oI h tk hi hJ hn F' N'
end
theorem Dg {M:Model}{A:AO}{E:Value→A4→Prop}{s:A4}{h₀:Heap}{L a:Addr}{m:Str→Option Value}{cn:Str}{cs:Scope}{ccd:Value}{cl:List (Str×Addr)}{x:Str}{v:Value}{Q:Unit→A4→Prop}{news:List (Addr×Obj)}{c:Addr}{o:Obj}{v₀:Option Value}
  (F:Fr h₀ L s.heap m) (N:News h₀ L s.heap news) (hm:(c,o)∈news) (hd:o.data = .cell v₀) (hc:cl.lookup x=some c)
  (h:∀h' o',Fr h₀ L h' m→News h₀ L h' (CD c o' news)→o'.data = .cell (some v)→Q () { s with heap:=h' })
  (hk:cs.kind = .function:=by rfl) (hx:(envX cn cs L a ccd cl).kindOf x=some .cell:=by rfl):wpAny M A (storeName (envX cn cs L a ccd cl) x v) Q E s:=
 storeX_C F (EN N hm) hc (UpdF.head (fun p hp=>by simpa using (mf1 hp).2)) hd (fun h' o' F' N' hd'=>h h' o' F' (GP N') hd') hk hx
section
open PySem.F
theorem Ou:mroOf (.type "map")=pure [.type "map",.type "object"]:=by rw [mroOf_type];kernel_rfl
theorem JH:Df (.type "map") "__new__" = pure (some (.builtin "map.__new__")):=by rw [CH,Bc];kernel_rfl
theorem Jz:Slot "map" "__init__" "object.__init__" :=
 .of (owner:= "object") (n:= "__init__") (by rw [CH,Bc];kernel_rfl) (by decide +kernel) (by decide +kernel) (by decide +kernel)
  (by first | exact .inl (by decide +kernel) | exact .inr (by decide +kernel)) (by rw [C1];kernel_rfl)
theorem Gv:Slot "map" "__iter__" "map.__iter__" :=
 .of (owner:= "map") (n:= "__iter__") (by rw [CH,Bc];kernel_rfl) (by decide +kernel) (by decide +kernel) (by decide +kernel)
  (by first | exact .inl (by decide +kernel) | exact .inr (by decide +kernel)) (by rw [C1];kernel_rfl)
theorem slot_map_next:Slot "map" "__next__" "map.__next__" :=
 .of (owner:= "map") (n:= "__next__") (by rw [CH,Bc];kernel_rfl) (by decide +kernel) (by decide +kernel) (by decide +kernel)
  (by first | exact .inl (by decide +kernel) | exact .inr (by decide +kernel)) (by rw [C1];kernel_rfl)
theorem Nx:TypeCalled "map" "map.__new__" "object.__init__" :=
 ⟨by decide +kernel,by decide +kernel,⟨_,_,Ou⟩,madeBy_type Ou JH (by decide +kernel),by decide +kernel,by rw [C1];kernel_rfl,Jz⟩
theorem JA (a b:Value):checkTypeCall "map" ⟨[a,b],[]⟩=pure ():=by kernel_rfl
theorem K8 (a b:Value):Gc "map.__new__" ⟨[.type "map",a,b],[]⟩=pure ():=by kernel_rfl
theorem KM:Gp table "map.__new__" = some Builtin.«map.__new__»:=entryFor_of_tree (by kernel_rfl)
theorem JO:Gp table "map.__iter__" = some Builtin.«dict_keyiterator.__iter__»:=
 entryFor_alias (id':= "dict_keyiterator.__iter__") (by rw [EU];kernel_rfl) (by first | rfl | decide +kernel | (unfold String.splitOn;simp +decide [String.splitOnAux])) (by decide +kernel) (by rw [EU];kernel_rfl)
theorem Gi:Gp table "map.__next__" = some Builtin.«map.__next__»:=entryFor_of_tree (by kernel_rfl)
theorem Iu (a:Value):JU "map.__iter__" ⟨[a],[]⟩:=by unfold JU;kernel_rfl
theorem GF (a:Value):JU "map.__next__" ⟨[a],[]⟩:=by unfold JU;kernel_rfl
theorem SQ:Ds (.type "map") (.type "map")=pure true:=by rw [C1];kernel_rfl
noncomputable abbrev Ez (t f:Addr):Obj:=⟨.type "map",none,.fields #[.ref t,.ref f],#[]⟩
noncomputable abbrev Rp (h:Heap)(l:Addr):Heap:=h.push { cls:=.type "list_iterator",data:=.fields #[.ref l,.int 0 0] }
noncomputable abbrev U0 (h:Heap)(l:Addr):Heap:=(Rp h l).push { cls:=.type "tuple",data:=.seq #[.ref h.objs.size] }
noncomputable abbrev Tz (h:Heap)(l f:Addr):Heap:=(U0 h l).push (Ez (Rp h l).objs.size f)
theorem K9 (f l:Addr)(xs:Array Value) :
  Meets (Builtin.«map.__new__» ⟨[.type "map",.ref f,.ref l],[]⟩) (fun _ R s=>s.heap.IsList l xs∧
   R (.ok (.ret (.ref (U0 s.heap l).objs.size))) { s with heap:=Tz s.heap l f }):=
 .of_wp fun prog w A R s h=>by
  obtain ⟨hp,g,d,tk,os⟩:=s;obtain ⟨hl1,h⟩:=h;have hsub:=SQ;have hL1:Heap.IsList (A4.heap ⟨hp,g,d,tk,os⟩) l xs:=hl1
  wp_walk using DB hL1
  exact ⟨_,rfl,h⟩
end
noncomputable abbrev OJ (q:Addr)(k:Int):Obj:=⟨.type "tuple_iterator",none,.fields #[.ref q,.int k 0],#[]⟩
section
open PySem.W.X
theorem Na (w:World)(A:AO)(s:A4)(q d:Addr)(a b c:Value)(Q E:Value→A4→Prop)
  (hb:s.heap.get? q=some ⟨.ref 135,some d,.seq #[a,b,c],#[]⟩) (X:(Mine.K w.params).In s.heap)
  (hret:∀l h',Mem s.heap h' [] [(l,⟨.type "tuple_iterator",none,.fields #[.ref q,.int 0 0],#[]⟩)]→Q (.ref l) { s with heap:=h' }) :
  wpAny (model (rw_nq0317_02.prog) w) A (call (.builtin "tuple.__iter__") [.ref q]) Q E s:=by
 have x5:s.heap.get? 135=some (kO w 135):=P5 X (by kernel_rfl);refine BN (JY ?_)
 with_reducible refine Fu (a:=q) (by kernel_rfl) hb ?_
 with_reducible refine Fu (a:=135) (by kernel_rfl) x5 ?_
 with_reducible refine Px (c2:=.builtin "tuple.__iter__" ⟨[.ref q],[]⟩) (by kernel_rfl) (by kernel_rfl) (JY ?_)
 with_reducible refine Tw (o:=⟨.type "tuple_iterator",none,.fields #[.ref q,.int 0 0],#[]⟩) (by kernel_rfl) (Mem.start _) rfl fun l h' D=>?_
 exact Pw (v:=.ref l) (by kernel_rfl) (hret l h' D)
end
section
variable {prog:AY}{w:World}{A:AO}{E:Value→A4→Prop}{s:A4}{h₀:Heap}{L:Addr}{m:Str→Option Value}{news:List (Addr×Obj)}{q it:Addr}{oq:Obj}{i:Nat}{items:Array Value}{n:Nat}{Q:Option Value→A4→Prop}
theorem GO {x:Value}(F:Fr h₀ L s.heap m)(N:News h₀ L s.heap ((it,OJ q (i:Int))::news))(hq:(q,oq)∈news)(hd:oq.data = .seq items n)(hx:items[i]? = some x)(hne:∀p∈news,p.1≠it)
  (h:∀h',Fr h₀ L h' m→News h₀ L h' ((it,OJ q ((i+1:Nat):Int))::news)→Q (some x) { s with heap:=h' }):wpAny (model prog w) A (DL (.ref it)) Q E s:=by
 have ho:=(N _ (.head _)).1;have hol:=(N _ (.tail _ hq)).1;have hT:s.TypeIs (.ref it) "tuple_iterator" :=⟨_,ho,rfl⟩;unfold DL;refine A2 (EJ (C0 (name:=A0 "__next__") hT JT (Bz JT hT entry_tupleiter_next ?_ (args_tupleiter_next _))));refine Lo (id:= "tuple_iterator.__next__") ho hol hd hx fun h' hs hg=>⟨_,rfl,AC ?_⟩;have hN:=C6 N (.head _) hs hg;refine h _ (F.change hs (N _ (.head _)).2.1 (N _ (.head _)).2.2) fun p hp=>hN p ?_;refine AH hp ?_ fun hp=>?_
 ·exact AV (.head _)
 exact A8 (.tail _ hp) (hne p hp)
theorem Kk (hh:A.handled=none)(F:Fr h₀ L s.heap m)(N:News h₀ L s.heap ((it,OJ q (i:Int))::news))(hq:(q,oq)∈news)(hd:oq.data = .seq items n)(hx:items[i]? = none)(hne:∀p∈news,p.1≠it)
  (h:∀h',Fr h₀ L h' m→News h₀ L h' news→Q none { s with heap:=h' }):wpAny (model prog w) A (DL (.ref it)) Q E s:=by
 have ho:=(N _ (.head _)).1;have hol:=(N _ (.tail _ hq)).1;have hT:s.TypeIs (.ref it) "tuple_iterator" :=⟨_,ho,rfl⟩;unfold DL;refine A2 (EJ (C0 (name:=A0 "__next__") hT JT (Bz JT hT entry_tupleiter_next ?_ (args_tupleiter_next _))));refine Ob (id:= "tuple_iterator.__next__") hh ho hol hd hx fun h1 h' e o' hs hg hx2=>?_;have F1:=F.change hs (N _ (.head _)).2.1 (N _ (.head _)).2.2;have hN:=C6 N (.head _) hs hg;have N1:News h₀ L _ news:=fun p hp=>hN p (A8 (.tail _ hp) (hne p hp));obtain ⟨k1,k2,⟨o,tt,hT2,hT3,_⟩⟩:=hx2;refine A2 (Eo (T:= "StopIteration") (b:=true) ⟨o,hT2,hT3⟩ isSubtype_stop ?_);exact AC (h _ ⟨F1.ns.keeps k1,fun b o e=>k1 b o (F1.keep b o e),F1.above⟩ fun p hp=>⟨k1 _ _ (N1 p hp).1,(N1 p hp).2⟩)
end
section
variable {w:World}{A:AO}{E:Value→A4→Prop}{s:A4}{h₀:Heap}{L:Addr}{m:Str→Option Value}{news:List (Addr×Obj)}{q d:Addr}{a b c:Value}
theorem Ej {M:Model}{h:Heap}{r:Option Value}{name:Str}(ho:h.get? q=some ⟨.ref 135,some d,.seq #[a,b,c] 0,#[]⟩)(X:(Mine.K w.params).In h)(e:findIn (Mine.K w.params) (.ref 135) name=some r):Looks M h (GY (.ref q) name) r:=
 ((Iy ho).andThen .now).andThen (looks_findIn X e)
theorem LF (w:World):findIn (Mine.K w.params) (.ref 135) "__iter__" = some (some (.builtin "tuple.__iter__")):=by kernel_rfl
theorem bsb {prog:AY}{self f g:Value}{fs:List Value}{name:Str}{P:Option (Value×List Value)→A4→Prop}(hl:Looks (model prog w) s.heap (GY self name) (some f))(hb:bindSpecial f self=pure (g,fs))(h:P (some (g,fs)) s):wpAny (model prog w) A (bindSpecialIfBound? self name) P E s:=by
 refine A2 (Looks.at hl (A2 (DQ (wpAny_ite ?_))));split
 ·exact A2 (FW hb (AC h))
 exact wpAny_tryCatch (A2 (FW hb (AC h)))
theorem Hm {Q:Value→A4→Prop}(F:Fr h₀ L s.heap m)(N:News h₀ L s.heap news)(X:(Mine.K w.params).In h₀)(hq:(q,Bs d a b c)∈news)
  (h:∀it h' tk,Fr h₀ L h' m→News h₀ L h' ((it,OJ q 0)::news)→(∀p∈news,p.1≠it)→Q (.ref it) { s with heap:=h',toks:=tk }):wpAny (model (rw_nq0317_02.prog) w) A (CR (.ref q)) Q E s:=by
 have ho:=(N _ hq).1;have X':=X.keeps F.keep;have hl:Looks (model (rw_nq0317_02.prog) w) s.heap (GY (.ref q) "__iter__") (some (.builtin "tuple.__iter__")):=Ej ho X' (LF w);have hgo:wpAny (model (rw_nq0317_02.prog) w) A (call (.builtin "tuple.__iter__") [.ref q]) (fun it s'=>∃T' r,s'.TypeIs it T'∧Df (.type T') "__next__" = pure (some r)∧Q it s') E s:=by
  refine Na w A s q d a b c _ _ ho X' fun it h' D=>?_;have N':=GQ D F N;refine ⟨"tuple_iterator",_,⟨_,(N' _ (.head _)).1,rfl⟩,JT.lookup,h it h' _ (Jk D F) N' fun p hp e=>D.ne_old 0 it _ rfl p.1 p.2 (N p hp).1 e.symm⟩
 have key:∀refuse:Sem Value,wpAny (model (rw_nq0317_02.prog) w) A (callSpecialIfBoundUnlessNone? (.ref q) "__iter__" refuse) (fun r s'=>∃it T' x,r=some it∧s'.TypeIs it T'∧Df (.type T') "__next__" = pure (some x)∧Q it s') E s:=by
  intro refuse;have fin:wpAny (model (rw_nq0317_02.prog) w) A (if (CS "tuple.__iter__" == AG)=true then (refuse >>= fun v=>pure (some v)) else (call (.builtin "tuple.__iter__") [.ref q] >>= fun v=>pure (some v))) (fun r s'=>∃it T' x,r=some it∧s'.TypeIs it T'∧Df (.type T') "__next__" = pure (some x)∧Q it s') E s:=by
   rw [if_neg (by rw [builtin_beq_none];decide)];exact A2 (Ac hgo (fun v s' ⟨T',r,h1,h2,h3⟩=>AC ⟨v,T',r,rfl,h1,h2,h3⟩) fun _ _ e=>e)
  exact Ak (A2 (bsb hl (slot_tuple_iter.bind _) fin))
 unfold CR;refine A2 (Looks.at hl ?_);show wpAny _ _ (callSpecialIfBoundUnlessNone? (.ref q) "__iter__" _ >>= _) _ _ _;refine A2 (Ac (key _) ?_ fun _ _ e=>e);rintro r s' ⟨it,T',x,rfl,hT,hl2,hQ⟩;exact A2 (HG hT hl2 (AC hQ))
theorem G6 {elts:List Expr} {k}{pos:Pos}{env:Env}{Q:Unit→A4→Prop}(hh:A.handled=none)(F:Fr h₀ L s.heap m)(N:News h₀ L s.heap news)(X:(Mine.K w.params).In h₀)(hq:(q,Bs d a b c)∈news)
  (hn:(assignEach elts env).length=3) (hstar:(assignEach elts env).findIdx? (·.1)=none)
  (h:∀h' tk,Fr h₀ L h' m→News h₀ L h' news→wpAny (model (rw_nq0317_02.prog) w) A (assignInOrder ((assignEach elts env).map (·.2)) [a,b,c]) Q E { s with heap:=h',toks:=tk }) :
  wpAny (model (rw_nq0317_02.prog) w) A (DM (.Tuple elts k pos) env (.ref q)) Q E s:=by
 have hl:Looks (model (rw_nq0317_02.prog) w) s.heap (GY (.ref q) "__iter__") (some (.builtin "tuple.__iter__")):=Ej (N _ hq).1 (X.keeps F.keep) (LF w);rw [assign_Tuple];refine A2 (FC ?_);unfold unpack;rw [hn,hstar];refine A2 (Ak ?_);unfold unpackItems;refine A2 ?_;unfold notIterableAtAll;refine A2 (Looks.at hl ?_);refine AC ?_;rw [if_neg Bn];refine A2 (Ak (Hm F N X hq fun it h1 tk F1 N1 hne=>?_));refine A2 (Ak ?_);show wpAny _ _ (DL (.ref it) >>= _) _ _ _;refine A2 (GO (i:=0) (items:=#[a,b,c]) F1 N1 hq rfl rfl hne fun h2 F2 N2=>?_);refine A2 (Ak ?_);show wpAny _ _ (DL (.ref it) >>= _) _ _ _;refine A2 (GO (i:=1) (items:=#[a,b,c]) F2 N2 hq rfl rfl hne fun h3 F3 N3=>?_);refine A2 (Ak ?_);show wpAny _ _ (DL (.ref it) >>= _) _ _ _;refine A2 (GO (i:=2) (items:=#[a,b,c]) F3 N3 hq rfl rfl hne fun h4 F4 N4=>?_);refine A2 (Ak (AC ?_));refine AC (AC (AC ?_));dsimp only [CF,List.length_nil];rw [if_neg (by decide)];refine A2 (Ak (Kk (i:=3) (items:=#[a,b,c]) hh F4 N4 hq rfl rfl hne fun h5 F5 N5=>?_));simp only [Option.isSome_none,MQ,if_false];exact AC (h h5 _ F5 N5)
end
section
open PySem.W.X
variable {α:Type}
noncomputable def frV (t:Sem α):Option { k:Tok→Sem α // t = .fresh k }:=sm (M:=fun t=>Option { k:Tok→Sem α // t = .fresh k }) t (fun _=>none) (fun _ _ _=>none) (fun _ _=>none) (fun k=>some ⟨k,rfl⟩) fun _ _ _ _ _=>none
noncomputable def frK (t:Sem α)(n:Tok):Sem α:=(frV t).elim t fun p=>p.1 n
noncomputable def frB (t:Sem α):Bool:=(frV t).isSome
theorem XV {prog:AY}{w:World}{A:AO}{c:Code}{Q:α→A4→Prop}{E:Value→A4→Prop}{s:A4}{t:Sem α}(e:frB t=true)(x:wpOwn (model prog w) A c (frK t s.toks) Q E { s with toks:=s.toks+1 }):wpOwn (model prog w) A c t Q E s:=by
 unfold frB at e;unfold frK at x;generalize frV t=v at e x
 cases v with
 | none=>cases e
 | some p=>
  rw [p.2];exact y_fresh _ prog w A c Q E s.heap s.gens s.drawn s.toks s.os _ x
end
section
open PySem.W.X
theorem U9 (w:World)(A:AO)(s:A4)(q d:Addr)(a b c:Value)(Q E:Value→A4→Prop)
  (hb:s.heap.get? q=some ⟨.ref 135,some d,.seq #[a,b,c],#[]⟩) (X:(Mine.K w.params).In s.heap)
  (hret:Q (.int 3 s.toks) { s with toks:=s.toks+1 }) :
  wpAny (model (rw_nq0317_02.prog) w) A (call (.builtin "tuple.__len__") [.ref q]) Q E s:=by
 have x5:s.heap.get? 135=some (kO w 135):=P5 X (by kernel_rfl);refine BN (JY ?_)
 with_reducible refine Fu (a:=q) (by kernel_rfl) hb ?_
 with_reducible refine Fu (a:=135) (by kernel_rfl) x5 ?_
 with_reducible refine Px (c2:=Code.builtin "tuple.__len__" { pos:=[A3 q] }) (by kernel_rfl) (by kernel_rfl) (JY ?_)
 with_reducible refine Fu (a:=q) (by kernel_rfl) hb ?_
 refine XV (by kernel_rfl) ?_;exact Pw (v:=.int 3 s.toks) (by kernel_rfl) hret
end
theorem Mo (w:World):findIn (Mine.K w.params) (.ref 135) "__len__" = some (some (.builtin "tuple.__len__")):=by kernel_rfl
theorem L5 {w:World}{A:AO}{E:Value→A4→Prop}{s:A4}{q d:Addr}{a b c:Value}{Q:Value→A4→Prop}(ho:s.heap.get? q=some (Bs d a b c))(X:(Mine.K w.params).In s.heap)
  (h:∀t tk,Q (.int 3 t) { s with toks:=tk }):wpAny (model (rw_nq0317_02.prog) w) A (call (.builtin "len") [.ref q]) Q E s:=by
 have hl:Looks (model (rw_nq0317_02.prog) w) s.heap (GY (.ref q) "__len__") (some (.builtin "tuple.__len__")):=Ej ho X (Mo w);refine Calls.call_function_entry kind_len plain_len entry_len (args_len1 _) ?_;unfold Builtin.«len»;refine A2 (m:=oneArg "len" _) (AC ?_);refine A2 (m:=callSpecial? (.ref q) (A0 "__len__")) ?_;refine A2 (Looks.at hl (Ak (A2 (FW (PySem.F.slot_tuple_len.bind _) (A2 (U9 w _ _ q d a b c _ _ ho X (AC ?_)))))));refine A2 (Ak (AC ?_));refine A2 (wpAny_letGo ?_);show wpAny _ _ (if (3:Int)<0 then _ else _) _ _ _;rw [if_neg (by decide)];show wpAny _ _ (if (3:Int)≥2 ^ 63 then _ else _) _ _ _;rw [if_neg (by decide)];exact A2 (wpAny_mkInt (AC ⟨_,rfl,h _ _⟩))
theorem Ue (w:World)(p:AY)(lo:List Str)(mean:CG→Option Value)(mg mb:Str→Option Value)
  (gd:Option (List Code)) (cn:Str) (cs:Scope) (a:Addr) (ccd:Value) (cl:List (Str×Addr)) (outer:List Env) (A₀:AO) (base h₀:Heap) (L:Addr) (m:Str→Option Value) (news:List (Addr×Obj)) (s:A4)
  (i j k:Int) (t1 t2 t3:Tok) (T0:Addr) (Q E:Value→A4→Prop)
  (B:Below A₀ base outer h₀) (F:Fr h₀ L s.heap m) (X:(Mine.K w.params).In h₀) (N:News h₀ L s.heap news) (T:Top p lo mean mg mb h₀) (hk:cs.kind = .function)
  (hT:(T0,(⟨.type "tuple",none,.seq #[.int i t1,.int j t2,.int k t3] 0,#[]⟩:Obj))∈news)
  (hret:∀q d h' tk',Fr h₀ L h' m→News h₀ L h' ((q,Bs d (.int i t1) (.int j t2) (.int k t3))::news)→(∀p∈news,p.1≠q)→Q (.ref q) { s with heap:=h',toks:=tk' }) :
  Bt (model (rw_nq0317_02.prog) w) (Bi 360 600 gd cn cs L a ccd cl outer) (.call (.ref 89) ⟨[.ref 135,.ref T0],[]⟩) (fun r s'=>match r with | .ok (.ret v)=>Q v s' | .ok _=>False | .error e=>E e s') s:=by
 k_with "+18" =>skip
 k_with "18" =>(fail_if_success k_extra "+19")
 k_with "k" =>k_extra "18"
 k_with "l" =>k_extra "18"
 k_with "ae" =>k_extra "18"
 revert X
 k_fill
 intro X
 k_dflt (refine' HJ (binds:=[(A0 "cls",.ref 135),(A0 "iterable",.ref T0)]) ?k1 ?k2 ?k3 ?k4 ?k5 ?kA ?kF ?kK ?k6 ?k7 ?k8 ?k9 ?kB ?_ ?c2 ?c3 ?c4 ?c5;(case kA=>exact rfl);(case kF=>exact rfl);(case kK=>assumption);(case k1=>k_asm);(case k2=>k_asm);(case k3=>k_asm);(case k4=>k_asm);(case k5=>k_asm);(case k6=>k_is);(case k7=>k_is);(case k8=>ktr_room);(case k9=>exact CA rfl);(case c5=>decide);(case kB=>exact locs rfl);(case c2=>exact rfl);(case c3=>exact rfl);(case c4=>exact rfl);k_whole;intro g' L' h' FG' F' N' B' X' T';(try dsimp only);(try k_fold))
 refine (let A9:AO:=_;(?_:wpAny _ A9 _ _ _ _));k_steps;refine Gh (X'.keeps F'.keep) fun tk2=>?_;k_steps;refine ⟨?_⟩;rename Fr _ _ _ _=>F2;rename News _ _ _ _=>N2;refine RX w _ _ _ i j k _ t1 t2 t3 _ _ (X'.keeps F2.keep) (N2 _ hT).1 fun q d h8 h9 k8 D=>?_;have F8:=PK k8 F2;have N8:News g' L' h8 news:=fun p hp=>⟨k8 _ _ (N2 p hp).1,(N2 p hp).2⟩;have F9:=Jk D F8;have N9:News g' L' h9 ((q,Bs d (.int i t1) (.int j t2) (.int k t3))::news):=Bo (GQ D F8 N8) (A6 (maL _ (.head _)) (fun p hp=>maR _ hp));have hq9:∀p∈news,p.1≠q:=fun p hp e=>D.ne_old 0 q _ rfl p.1 p.2 (N8 p hp).1 e.symm;clear N2 F2 N8 F8 D;k_steps;refine ⟨?_⟩;rename Fr _ _ _ _=>F3;rename News _ _ _ _=>N3;refine L5 (N3 _ (.head _)).1 (X'.keeps F3.keep) fun t tk=>?_;k_steps;rename Fr _ _ _ _=>F4;rename News _ _ _ _=>N4;exact hret q d _ _ F4 N4 hq9
section
variable {prog:AY}{w:World}{A:AO}{E:Value→A4→Prop}{s:A4}{h₀:Heap}{L:Addr}{m:Str→Option Value}{news:List (Addr×Obj)}{it l z t f:Addr}{i ep:Nat}{items:Array Value}
noncomputable abbrev Pz (a:Addr):Obj:=⟨.type "tuple",none,.seq #[.ref a] 0,#[]⟩
theorem Sv {x:Value}{Q:Value→A4→Prop}(F:Fr h₀ L s.heap m)(N:News h₀ L s.heap ((it,E8 l (i:Int))::news))(hl:(l,A1 items ep)∈news)(hx:items[i]? = some x)(hne:∀p∈news,p.1≠it)
  (h:∀h',Fr h₀ L h' m→News h₀ L h' ((it,E8 l ((i+1:Nat):Int))::news)→Q x { s with heap:=h' }):wpAny (model prog w) A (Et (.ref it)) Q E s:=by
 have ho:=(N _ (.head _)).1;have hol:=(N _ (.tail _ hl)).1;have hT:s.TypeIs (.ref it) "list_iterator" :=⟨_,ho,rfl⟩;unfold Et;refine A2 (C0 (name:=A0 "__next__") hT I6 (Bz I6 hT entry_listiter_next ?_ (args_listiter_next _)));refine Lo (id:= "list_iterator.__next__") ho hol rfl hx fun h' hs hg=>⟨_,rfl,AC ?_⟩;have hN:=C6 N (.head _) hs hg;refine h _ (F.change hs (N _ (.head _)).2.1 (N _ (.head _)).2.2) fun p hp=>hN p ?_;refine AH hp ?_ fun hp=>?_
 ·exact AV (.head _)
 exact A8 (.tail _ hp) (hne p hp)
theorem Ug {Q:Value→A4→Prop}(hh:A.handled=none)(F:Fr h₀ L s.heap m)(N:News h₀ L s.heap ((it,E8 l (i:Int))::news))(hl:(l,A1 items ep)∈news)(hx:items[i]? = none)(hne:∀p∈news,p.1≠it)
  (h:∀h1 h' e,Fr h₀ L h1 m→News h₀ L h1 news→O6 h1 h' e "StopIteration" →E (.ref e) { s with heap:=h' }):wpAny (model prog w) A (Et (.ref it)) Q E s:=by
 have ho:=(N _ (.head _)).1;have hol:=(N _ (.tail _ hl)).1;have hT:s.TypeIs (.ref it) "list_iterator" :=⟨_,ho,rfl⟩;unfold Et;refine A2 (C0 (name:=A0 "__next__") hT I6 (Bz I6 hT entry_listiter_next ?_ (args_listiter_next _)));refine Ob (id:= "list_iterator.__next__") hh ho hol rfl hx fun h1 h' e o' hs hg hx2=>?_;have hN:=C6 N (.head _) hs hg;exact h h1 h' e (F.change hs (N _ (.head _)).2.1 (N _ (.head _)).2.2) (fun p hp=>hN p (A8 (.tail _ hp) (hne p hp))) hx2
theorem NT {x:Value}{Q:Option Value→A4→Prop}(F:Fr h₀ L s.heap m)(N:News h₀ L s.heap ((it,E8 l (i:Int))::news))(hz:(z,Ez t f)∈news)(ht:(t,Pz it)∈news)(hl:(l,A1 items ep)∈news)(hx:items[i]? = some x)(hne:∀p∈news,p.1≠it)
  (h:∀h' E',Fr h₀ L h' m→News h₀ L h' ((it,E8 l ((i+1:Nat):Int))::news)→wpAny (model prog w) A.in1 (call (.ref f) [x]) (fun v s'=>Q (some v) s') E' { s with heap:=h' }):wpAny (model prog w) A (DL (.ref z)) Q E s:=by
 have hT:s.TypeIs (.ref z) "map" :=⟨_,(N _ (.tail _ hz)).1,rfl⟩;unfold DL;refine A2 (EJ (C0 (name:=A0 "__next__") hT slot_map_next (Bz slot_map_next hT Gi ?_ (GF _))));show wpAny _ _ (field (.ref z) 0 >>= _) _ _ s;refine A2 (J3 (N _ (.tail _ hz)).1 rfl (x:=.ref t) rfl ?_);show wpAny _ _ (seqItems? (.ref t) >>= _) _ _ s;refine A2 (Eb (N _ (.tail _ ht)).1 rfl ?_);dsimp only;refine A2 ?_;rw [←Array.forIn_toList,J6];refine A2 (A2 (Ak (Sv F N hl hx hne fun h1 F1 N1=>AC ?_)));dsimp only;rw [List.forIn_nil];refine AC ?_;show wpAny _ _ (field (.ref z) 1 >>= _) _ _ _;refine A2 (J3 (N1 _ (.tail _ hz)).1 rfl (x:=.ref f) rfl ?_);refine A2 (Ak (Ac (h h1 _ F1 N1) (fun v s' hv=>?_) fun _ _ e=>e));exact A2 (wpAny_letGo (AC ⟨_,rfl,AC hv⟩))
theorem Ov {Q:Option Value→A4→Prop}(hh:A.handled=none)(F:Fr h₀ L s.heap m)(N:News h₀ L s.heap ((it,E8 l (i:Int))::news))(hz:(z,Ez t f)∈news)(ht:(t,Pz it)∈news)(hl:(l,A1 items ep)∈news)(hx:items[i]? = none)(hne:∀p∈news,p.1≠it)
  (h:∀h',Fr h₀ L h' m→News h₀ L h' news→Q none { s with heap:=h' }):wpAny (model prog w) A (DL (.ref z)) Q E s:=by
 have hT:s.TypeIs (.ref z) "map" :=⟨_,(N _ (.tail _ hz)).1,rfl⟩;unfold DL;refine A2 (EJ (C0 (name:=A0 "__next__") hT slot_map_next (Bz slot_map_next hT Gi ?_ (GF _))));show wpAny _ _ (field (.ref z) 0 >>= _) _ _ s;refine A2 (J3 (N _ (.tail _ hz)).1 rfl (x:=.ref t) rfl ?_);show wpAny _ _ (seqItems? (.ref t) >>= _) _ _ s;refine A2 (Eb (N _ (.tail _ ht)).1 rfl ?_);dsimp only;refine A2 ?_;rw [←Array.forIn_toList,J6];refine A2 (A2 (Ak (Ug hh F N hl hx hne fun h1 h2 e F1 N1 hx2=>?_)));obtain ⟨k1,k2,⟨o,tt,hT2,hT3,_⟩⟩:=hx2;refine A2 (Eo (T:= "StopIteration") (b:=true) ?_ isSubtype_stop ?_)
 ·exact ⟨o,hT2,hT3⟩
 refine AC (h _ ⟨F1.ns.keeps k1,fun b o e=>k1 b o (F1.keep b o e),F1.above⟩ fun p hp=>⟨k1 _ _ (N1 p hp).1,(N1 p hp).2⟩)
end
section
open PySem.F
section
variable {w:World}{A:AO}{E:Value→A4→Prop}{s:A4}{x y dx dy:Addr}{i j k i' j' k':Int}{t1 t2 t3 u1 u2 u3:Tok}
theorem HV {M:Model}{h:Heap}{q d:Addr}{a b c:Value}(ho:h.get? q=some ⟨.ref 135,some d,.seq #[a,b,c] 0,#[]⟩)(X:(Mine.K w.params).In h):Looks M h (Ga (.ref q) (.type "tuple")) true:=
 ((Iy ho).andThen .now).andThen (looks_subIn X (by kernel_rfl))
theorem Q7 {P:Fin→A4→Prop}(hx:s.heap.get? x=some (Bs dx (.int i t1) (.int j t2) (.int k t3)))(hy:s.heap.get? y=some (Bs dy (.int i' u1) (.int j' u2) (.int k' u3)))(X:(Mine.K w.params).In s.heap)(hne:i≠i')
  (h:P (.done (.ret (.bool (decide (i<i'))))) s):wpAny (model (rw_nq0317_02.prog) w) A (Builtin.«tuple.__lt__» ⟨[.ref x,.ref y],[]⟩) P E s:=by
 show wpAny _ _ (Ga (.ref y) (.type "tuple") >>= _) _ _ s;refine A2 ((HV hy X).here ?_);rw [if_neg (show ¬((!true)=true) from Bn)];refine A2 (wpAny_tupleItemsOf hx rfl ?_);refine A2 (wpAny_tupleItemsOf hy rfl ?_);refine A2 ?_;refine (?_:wpAny _ _ (forIn ((A5 i t1,A5 i' u1)::(A5 j t2,A5 j' u2)::(A5 k t3,A5 k' u3)::[]) _ _) _ _ s);rw [J6];refine A2 ?_;refine (?_:wpAny _ _ (eqBool (.int i t1) (.int i' u1) >>= _) _ _ s);refine A2 (wpAny_eqBool_int ?_);have e:(i==i')=false:=beq_false_of_ne hne;rw [e];rw [if_pos (show (!false)=true from rfl)];refine A2 (GW ?_);show wpAny _ _ (compareOp .Lt (.int i t1) (.int i' u1) >>= _) _ _ s;refine A2 (lt_int ?_);exact A2 (AC (AC (AC (AC h))))
theorem Ql:builtinKind "tuple.__lt__" = some .slot:=by decide +kernel
theorem OM:splitId "tuple.__lt__" = some ("tuple", "__lt__"):=by decide +kernel
theorem Pd {M:Model}{Q:Unit→A4→Prop}{a b c v:Value}(hx:s.heap.get? x=some ⟨.ref 135,some dx,.seq #[a,b,c] 0,#[]⟩)(X:(Mine.K w.params).In s.heap)(h:Q () s) :
  wpAny M A (Gc "tuple.__lt__" ⟨[.ref x,v],[]⟩) Q E s:=by
 unfold Gc;rw [Ql];dsimp only;rw [OM];dsimp only;refine A2 ((HV hx X).here ?_);rw [if_neg (show ¬((!true)=true) from Bn)];have ha:=args_tuple_lt_2 (.ref x) v
 cases hsig:Dm "tuple.__lt__" with
 | none=>exact AC h
 | some sig=>
  unfold JU at ha;rw [hsig] at ha;have h2:O7 "tuple.__lt__" sig ⟨[.ref x,v],[]⟩=pure ():=ha;show wpAny M A (O7 "tuple.__lt__" sig ⟨[.ref x,v],[]⟩) Q E s;rw [h2];exact AC h
theorem TM (w:World):findIn (Mine.K w.params) (.ref 135) "__lt__" = some (some (.builtin "tuple.__lt__")):=by kernel_rfl
theorem Qc {Q:Bool→A4→Prop}(hu:A.units<cLine)(hx:s.heap.get? x=some (Bs dx (.int i t1) (.int j t2) (.int k t3)))(hy:s.heap.get? y=some (Bs dy (.int i' u1) (.int j' u2) (.int k' u3)))(X:(Mine.K w.params).In s.heap)(hne:i≠i')
  (h:Q (decide (i<i')) s):wpAny (model (rw_nq0317_02.prog) w) A (keyLt' oneType' (.ref x) (.ref y)) Q E s:=by
 rw [keyLt'_oneType,oneLt'_eq];rw [if_pos rfl];refine A2 (wpAny_cRoomFor hu ?_);have hl:Looks (model (rw_nq0317_02.prog) w) s.heap (GY (.ref x) "__lt__") (some (.builtin "tuple.__lt__")):=Ej hx X (TM w);have hgo:wpAny (model (rw_nq0317_02.prog) w) A (call (.builtin "tuple.__lt__") [.ref x,.ref y]) (fun v s'=>v = .bool (decide (i<i'))∧s'=s) E s:=
  BN (O0 slot_tuple_lt.plain entry_tuple_lt (Pd hx X (Ac (Q7 (P:=fun fin s'=>fin = .done (.ret (.bool (decide (i<i'))))∧s'=s) hx hy X hne ⟨rfl,rfl⟩) (fun fin s' hf=>?_) fun _ _ e=>e)))
 ·refine A2 (m:=callSpecialIfBound? (.ref x) "__lt__" [.ref y]) (Ak (A2 (bsb hl (slot_tuple_lt.bind _) (A2 (Ac hgo (fun v s' hv=>?_) fun _ _ e=>e)))));refine CL hv ?_;(try clear hv);intro e90 e91;subst e90;subst e91;exact AC (wpAny_truthy_bool h)
 refine CL hf ?_;(try clear hf);intro e90 e91;subst e90;subst e91;exact ⟨rfl,rfl⟩
end
end
section
open PySem.F
noncomputable def evT {α:Type}(lt:Nat→Nat→Bool):KasT α→α
 | .ret a=>a
 | .ask i j k=>evT lt (k (lt i j))
noncomputable def okT {α:Type}(n:Nat):KasT α→Bool
 | .ret _=>true
 | .ask i j k=>(decide (i<n)&&decide (j<n) && !decide (i=j))&&(okT n (k true)&&okT n (k false))
theorem Ut {α:Type}{lt:Nat→Nat→Bool}{n:Nat}{cmp:Nat→Nat→(Bool→A4→Prop)→A4→Prop}{Q:α→A4→Prop}{s:A4}
  (hc:∀i j C,i<n→j<n→i≠j→C (lt i j) s→cmp i j C s):∀t:KasT α,okT n t=true→Q (evT lt t) s→t.kasWp cmp Q s:=by
 intro xX
 induction xX with
 | ret a=>
  intro _ h;exact h
 | ask i j k iH=>
  intro ho h
  replace ho:((decide (i<n)&&decide (j<n) && !decide (i=j))&&(okT n (k true)&&okT n (k false)))=true:=ho
  simp only [C8,decide_eq_true_eq,Bool.not_eq_true',decide_eq_false_iff_not] at ho;refine hc i j _ ho.1.1.1 ho.1.1.2 ho.1.2 ?_;refine iH (lt i j) ?_ h;cases lt i j
  ·exact ho.2.2
  exact ho.2.1
noncomputable def tbN (l:List (Fin 5))(i j:Nat):Bool:=decide ((l.getD i 0).val<(l.getD j 0).val)
noncomputable def goodB (n:Nat)(lt:Nat→Nat→Bool):Bool:=(evT lt (HI n)).toList.isPerm (DH n)&&pwB lt (evT lt (HI n)).toList
where pwB (lt:Nat→Nat→Bool):List Nat→Bool
 | []=>true
 | a::l=>l.all (fun b=>lt a b)&&pwB lt l
theorem ok2:okT 2 (HI 2)=true:=by decide +kernel
theorem ok3:okT 3 (HI 3)=true:=by decide +kernel
theorem ok4:okT 4 (HI 4)=true:=by decide +kernel
theorem Vf:∀a b:Fin 5,a≠b→goodB 2 (tbN [a,b])=true:=by decide +kernel
theorem Ve:∀a b c:Fin 5,[a,b,c].Nodup→goodB 3 (tbN [a,b,c])=true:=by decide +kernel
theorem Vd:∀a b c d:Fin 5,[a,b,c,d].Nodup→goodB 4 (tbN [a,b,c,d])=true:=by decide +kernel
theorem Vc:∀{l:List (Fin 5)},l.Nodup→2≤l.length→l.length≤4→goodB l.length (tbN l)=true
 | [],_,h,_=>absurd h (by decide)
 | [_],_,h,_=>absurd h (Ka 1)
 | [a,b],hn,_,_=>Vf a b fun e=>(Ce.mp hn).1 (e▸.head _)
 | [_,_,_],hn,_,_=>Ve _ _ _ hn
 | [_,_,_,_],hn,_,_=>Vd _ _ _ _ hn
 | _::_::_::_::_::l,_,_,h=>absurd h (Nat.not_le.mpr (J4 5 l.length))
theorem RG {ks:List Int}{x y:Int}(h:x<y)(hx:x∈ks):ks.countP (fun z=>decide (z<x))<ks.countP (fun z=>decide (z<y)):=by
 rw [Dx,Dx];have e:ks.filter (fun z=>decide (z<x))=(ks.filter fun z=>decide (z<y)).filter fun z=>decide (z<x):=by
  rw [List.filter_filter];refine List.filter_congr fun z _=>?_
  by_cases hz:z<x
  ·rw [decide_eq_true hz,decide_eq_true (Int.lt_trans hz h)];rfl
  rw [decide_eq_false hz];rfl
 rw [e];exact LG (List.mem_filter.mpr ⟨hx,decide_eq_true h⟩) (decide_eq_false (DY x))
theorem SX {ks:List Int}(hn:ks.Nodup)(h2:2≤ks.length)(h4:ks.length≤4):∃lt,(∀i j,i<ks.length→j<ks.length→i≠j→lt i j=decide (ks.getD i 0<ks.getD j 0))∧goodB ks.length lt=true:=by
 have hr:∀x,ks.countP (fun z=>decide (z<x))<5:=fun x=>FF (Am List.countP_le_length h4);refine (let r:Int→Fin 5:=fun x=>⟨ks.countP fun z=>decide (z<x),hr x⟩;?_);have hlt:∀{x y:Int},x∈ks→x<y→(r x).val<(r y).val:=fun hx h=>RG h hx;have hinj:(ks.map r).Nodup:=List.pairwise_map.mpr (List.Pairwise.imp_of_mem (fun {x y} hx hy hne e=>by
  rcases HP x y with h | h | h
  ·exact absurd (congrArg Fin.val e) (A7 (hlt hx h))
  ·exact hne h
  exact absurd (congrArg Fin.val e.symm) (A7 (hlt hy h))) hn)
 refine ⟨tbN (ks.map r),fun i j hi hj _=>?_,?_⟩
 ·have e:∀i,i<ks.length→(ks.map r).getD i 0=r (ks.getD i 0):=fun i hi=>by
   rw [BO,BO,AX,Ax hi];rfl
  have hm:∀i,i<ks.length→ks.getD i 0∈ks:=fun i hi=>by
   rw [BO,Ax hi];exact Fo hi
  unfold tbN;rw [e i hi,e j hj]
  by_cases h:ks.getD i 0<ks.getD j 0
  ·rw [decide_eq_true h,decide_eq_true (hlt (hm i hi) h)]
  refine (decide_eq_false fun q=>?_).trans (decide_eq_false h).symm;rcases Int.lt_or_eq_of_le (Int.not_lt.mp h) with h | h
  ·exact Av _ (Ay q (hlt (hm j hj) h))
  rw [h] at q;exact Av _ q
 have:=Vc hinj (by rw [AB];exact h2) (by rw [AB];exact h4);rw [AB] at this;exact this
theorem QO {lt:Nat→Nat→Bool}:∀{l:List Nat},goodB.pwB lt l=true→l.Pairwise fun a b=>lt a b=true:=by
 intro xX
 induction xX with
 | nil=>
  intro _;exact .nil
 | cons a l iH=>
  intro h
  replace h:(l.all (fun b=>lt a b)&&goodB.pwB lt l)=true:=h
  simp only [C8,List.all_eq_true] at h;exact .cons h.1 (iH h.2)
theorem Nd {α:Type}(l:List α)(d:α):(DH l.length).map (fun i=>l.getD i d)=l:=by
 apply FK;intro i;rw [AX]
 by_cases h:i<l.length
 ·rw [LX h,Ax h];show some (l.getD i d)=_;rw [BO,Ax h];rfl
 rw [DJ (by simpa using h),DJ (by simpa using h)];rfl
structure MB where
 q:Addr
 d:Addr
 i:Int
 j:Int
 k:Int
 t1:Tok
 t2:Tok
 t3:Tok
noncomputable abbrev Ig (e:MB):Obj:=Bs e.d (.int e.i e.t1) (.int e.j e.t2) (.int e.k e.t3)
noncomputable def Bf (l:List MB):List Value:=l.map fun e=>A3 e.q
noncomputable def HK (l:List MB):List (Addr×Obj):=l.map fun e=>(e.q,Ig e)
theorem H1 {l:List MB}{e:MB}(h:e∈l):(e.q,Ig e)∈HK l:=mm2 ⟨e,h,rfl⟩
section
variable {w:World}{A:AO}{E:Value→A4→Prop}{s:A4}{h₀:Heap}{L D:Addr}{m:Str→Option Value}{news:List (Addr×Obj)}{mb:List MB}{n:Nat}
theorem Ki {o:Obj}{l:List (Addr×Obj)}:UpdF D o ([]++(D,o)::l.filter fun p=>decide (p.1≠D)) (fun o'=>(D,o')::l.filter fun p=>decide (p.1≠D)):=
 .head fun p hp=>by simpa using (mf1 hp).2
theorem QD {Q:Value→A4→Prop}(hu:A.in1.units<cLine)(F:Fr h₀ L s.heap m)(X:(Mine.K w.params).In h₀)(N:News h₀ L s.heap news)(hD:(D,A1 (Bf mb).toArray n)∈news)(hm:∀e∈mb,(e.q,Ig e)∈news)(hq:∀e∈mb,e.q≠D)
  (hn:(mb.map (·.i)).Nodup) (h2:2≤mb.length) (h4:mb.length≤4)
  (hret:∀mb' h' c,mb'.Perm mb→mb'.Pairwise (fun a b=>a.i<b.i)→Fr h₀ L h' m→News h₀ L h' (CD D (A1 (Bf mb').toArray c) news)→Q .none { s with heap:=h' }) :
  wpAny (model (rw_nq0317_02.prog) w) A (call (.builtin "list.sort") [.ref D]) Q E s:=by
 have dm:MB:=⟨0,0,0,0,0,0,0,0⟩;have hl:(Bf mb).length=mb.length:=AB _;refine Aq (SX hn (by rw [AB];exact h2) (by rw [AB];exact h4)) ?_;intro lt ag gd;rw [AB] at ag gd;have okn:okT mb.length (HI mb.length)=true:=by
  have h:mb.length=2∨mb.length=3∨mb.length=4:=by lia
  rcases h with h | h | h<;>rw [h]
  ·exact ok2
  ·exact ok3
  exact ok4
 unfold goodB at gd;rw [C8] at gd;have hp:(evT lt (HI mb.length)).toList.Perm (DH mb.length):=List.isPerm_iff.mp gd.1;have hpw:=QO gd.2;have hlt:∀i∈(evT lt (HI mb.length)).toList,i<mb.length:=fun i hi=>List.mem_range.mp (hp.mem_iff.mp hi);have hv:∀i,i<mb.length→(Bf mb).getD i AG=A3 (mb.getD i dm).q:=by
  intro i hi;rw [BO,BO];unfold Bf;rw [AX,Ax hi];rfl
 have hk:∀i,i<mb.length→(mb.map (·.i)).getD i 0=(mb.getD i dm).i:=by
  intro i hi;rw [BO,BO,AX,Ax hi];rfl
 have hme:∀i,i<mb.length→mb.getD i dm∈mb:=by
  intro i hi;rw [BO,Ax hi];exact Fo hi
 have fm:∀{o:Obj} {e:MB},e∈mb→(e.q,Ig e)∈(D,o)::news.filter fun p=>decide (p.1≠D):=fun he=>.tail _ (List.mem_filter.mpr ⟨hm _ he,by simpa using hq _ he⟩);have nb:∀{h:Heap} {o:Obj},News h₀ L h ((D,o)::news.filter fun p=>decide (p.1≠D))→News h₀ L h (CD D o news):=fun N'=>GP N';refine kas_lsort (T:=.ref 135) (vs:=Bf mb) F (EN N hD) Ki (by simp) (by rw [hl];exact h2) (by rw [hl];lia) ?hT rfl (fun e1 h' F' N'=>?_)
 case hT=>
  intro e1 h F' N' v hv;refine mmE hv ?_;intro e he;exact (Iy (N' _ (fm he)).1).andThen .now
 rw [hl];refine Ut (n:=mb.length) (lt:=lt) (fun i j C hi hj hij hC=>?_) _ okn ?_
 ·unfold kas_ask;rw [hv i hi,hv j hj];have hne:(mb.getD i dm).i≠(mb.getD j dm).i:=by
   rw [←hk i hi,←hk j hj];intro h;rw [BO,BO,Ax (by rw [AB];exact hi),Ax (by rw [AB];exact hj)] at h;exact hij ((List.getElem_inj hn).mp h)
  refine Qc hu (N' _ (fm (hme i hi))).1 (N' _ (fm (hme j hj))).1 (X.keeps F'.keep) hne ?_;rw [←hk i hi,←hk j hj,←ag i j hi hj hij];exact hC
 have e:(evT lt (HI mb.length)).toList.map (fun i=>(Bf mb).getD i AG)=Bf ((evT lt (HI mb.length)).toList.map fun i=>mb.getD i dm):=by
  unfold Bf;rw [Ao];exact Az fun i hi=>hv i (hlt i hi)
 rw [e];refine KasFin.intro F' N' Ki fun h'' c F'' N''=>hret _ h'' c ?_ ?_ F'' (nb N'')
 ·have:=hp.map fun i=>mb.getD i dm;rw [Nd] at this;exact this
 refine List.pairwise_map.mpr ?_;refine List.Pairwise.imp_of_mem (fun {a b} ha hb hab=>?_) (hpw.and (hp.nodup_iff.mpr List.nodup_range));rw [←hk a (hlt a ha),←hk b (hlt b hb)];have:=ag a b (hlt a ha) (hlt b hb) hab.2;rw [hab.1] at this;exact of_decide_eq_true this.symm
end
end
section
open PySem.F
section
variable {prog:AY}{w:World}{A:AO}{E:Value→A4→Prop}{s:A4}{h₀:Heap}{L D:Addr}{m:Str→Option Value}{news:List (Addr×Obj)}{n:Nat}
theorem QF {vs:List Value}{Q:Value→A4→Prop}(F:Fr h₀ L s.heap m)(N:News h₀ L s.heap news)(hD:(D,A1 vs.toArray n)∈news)(h1:vs.length<2)
  (hret:∀h' c,Fr h₀ L h' m→News h₀ L h' (CD D (A1 vs.toArray c) news)→Q .none { s with heap:=h' }) :
  wpAny (model prog w) A (call (.builtin "list.sort") [.ref D]) Q E s:=by
 have nz:=N _ hD;have ho:s.heap.get? D=some (EK "list" vs.toArray n):=nz.1;refine Bz PySem.F.slot_list_sort ⟨_,ho,rfl⟩ PySem.F.entry_list_sort ?_ (args_list_sort _);have s1:=BL s.heap D (Ar fun _=>(#[]:Array Value));refine Bp (⟨_,get?_update_seq ho fun _=>#[]⟩:∃e1,(s.heap.update D (Ar fun _=>(#[]:Array Value))).get? D=some (EK "list" #[] e1)) ?_;intro e1 ho1;have F3:Fr h₀ L (((s.heap.update D (Ar fun _=>(#[]:Array Value))).push (EK "tuple" vs.toArray 0)).push (EK "list" #[] 0)) m:=((kas_fr F s1 nz.2.1 nz.2.2).push _).push _;have N3:News h₀ L (((s.heap.update D (Ar fun _=>(#[]:Array Value))).push (EK "tuple" vs.toArray 0)).push (EK "list" #[] 0)) (CD D (EK "list" #[] e1) news):=
  ((C6 N hD s1 ho1).grown fun b x e=>AE _ (AE _ e))
 rw [list_sort_plain];refine A2 (listItems_at ho rfl ?_);refine A2 (listUpdate_at ho rfl ?_ (by rw [Ae,DP];lia) (B0 _));refine A2 (seqEpoch_at ho1 rfl ?_);refine A2 (wpAny_newTuple ?_ (by show vs.length≤_;rw [DP];lia));refine A2 (wpAny_newList ?_ (B0 _));refine Ak ?_;refine (?_:wpAny (model prog w) A.in1 _ _ E { s with heap:=((s.heap.update D (Ar fun _=>(#[]:Array Value))).push (EK "tuple" vs.toArray 0)).push (EK "list" #[] 0) });dsimp only;have h2:vs.toArray.size<2:=by rw [Ae];exact h1
 rw [if_pos h2,if_pos h2];refine A2 (AC ?_);rw [StateT.run_pure];refine A2 (AC ?_);dsimp only;have na:=N3 (D,EK "list" #[] e1) (AV hD);have hout:(arrOf (SortSt.mk' general' (vs.toArray.zip vs.toArray) #[] 7 none)).map (·.2)=vs.toArray:=by
  show (vs.toArray.zip vs.toArray).map (·.2)=_;apply Array.toList_inj.mp;simp [List.map_snd_zip]
 rw [hout];have s2:=BL (((s.heap.update D (Ar fun _=>(#[]:Array Value))).push (EK "tuple" vs.toArray 0)).push (EK "list" #[] 0)) D (Ar fun _=>vs.toArray);refine Bp (⟨_,get?_update_seq na.1 fun _=>vs.toArray⟩:∃c2,((((s.heap.update D (Ar fun _=>(#[]:Array Value))).push (EK "tuple" vs.toArray 0)).push (EK "list" #[] 0)).update D (Ar fun _=>vs.toArray)).get? D=some (EK "list" vs.toArray c2)) ?_;intro c2 hc2;refine A2 (seqEpoch_at na.1 rfl ?_);refine A2 (listUpdate_at na.1 rfl ?_ (B0 _) (by rw [Ae,DP];lia));rw [if_neg (by rw [bne_self_eq_false];exact Bn)];refine AC ⟨_,rfl,hret _ c2 (F3.change s2 na.2.1 na.2.2) ?_⟩;have h:=C6 N3 (AV hD) s2 hc2;refine Bo h fun p hp=>?_;rcases Ie hp with ⟨rfl,_⟩ | ⟨hn,hp⟩
 ·exact AV (AV hD)
 exact A8 (A8 hp hn) hn
end
end
section
variable {prog:AY}{w:World}{A:AO}{E:Value→A4→Prop}{s:A4}{env:Env}{h₀:Heap}{Q:Flow→A4→Prop}{body:List Stmt}
theorem Si {σ:Type}{x:Str}{r:Addr}{a₀ b₀:Int}{t₀ u₀ v₀:Tok}{n:Nat}{m₀:Str→Option Value}(Led:σ→List (Addr×Obj))(ps:σ→List (Str×Value))(C7:List Str)(P:Nat→σ→Prop)(c₀:σ)(hh:A.handled=none)
  (hr:OE s.heap r a₀ b₀ 1 t₀ u₀ v₀) (hsmall:Pu a₀ b₀ 1=true) (hn:Ke a₀ b₀ 1=(n:Int))
  (F:Fr h₀ env.locals s.heap m₀) (N:News h₀ env.locals s.heap (Led c₀)) (hP:P 0 c₀) (hk:∀p∈ps c₀,m₀ p.1=some p.2)
  (turn:∀(i:Nat) (c:σ) t (u:Str→Option Value) h tk own wr,i<n→P i c→(∀p∈Led c,p.1∉wr)→(∀b∈wr,∃o,(b,o)∈own)→(∀p∈own,p.1∈wr)→
   Fr h₀ env.locals h (fun y=>if y=x then some (.int (a₀+(i:Int)) t) else kstB (fun z=>if C7.contains z then u z else m₀ z) (ps c) y)→News h₀ env.locals h (Led c++own)→
   wpAny (model prog w) A (execs body env) (TurnPost h₀ env.locals wr own (SJ Led ps [x] C7 m₀ P (i+1)) { s with heap:=h,toks:=tk } Q) E { s with heap:=h,toks:=tk })
  (done:∀(c:σ) (u:Str→Option Value) h tk,P n c→Fr h₀ env.locals h (fun y=>if y=x then u y else kstB (fun z=>if C7.contains z then u z else m₀ z) (ps c) y)→News h₀ env.locals h (Led c)→Q .next { s with heap:=h,toks:=tk }) :
  wpAny (model prog w) A (CR (.ref r)) (fun it s₂=>LoopAtV prog w A h₀ env x body Q E it s₂) E s:=by
 have hLs:env.locals<s.heap.objs.size:=F.ns.lt;refine RQ hr hsmall ?_;have W:Walks prog w A s.heap.objs.size [s.heap.objs.size] [s.heap.objs.size] n (fun i v=>i<n∧∃t,v = .int (a₀+i*1) t)
   (fun i h=>IsRangeIter h s.heap.objs.size (a₀+(i:Nat)*1) ((n:Int)-(i:Nat)) 1):=(Walks.range hh _ a₀ 1 n).bound
 refine SY Led ps C7 P c₀ W ?_ ?_ ?_ ?_ ?_ (F.push _) (fun p hp=>⟨AE _ (N p hp).1,(N p hp).2⟩) hP hk ?_ done
 ·intro i h hs b hb;rw [ms1 hb];exact ⟨_,hs⟩
 ·intro hm;exact A7 hLs (ms1 hm)
 ·intro b hb;rw [ms1 hb];exact GZ F
 ·intro p hp hb;exact A7 (AZ (N p hp).1) (ms1 hb)
 ·show IsRangeIter _ _ _ _ _;rw [hn];simpa using Aa _ rfl
 rintro i c v u h tk own hi ⟨_,t,rfl⟩ hPc hn' hw hf F₁ N₁;rw [Int.mul_one] at F₁;exact turn i c t u h tk own _ hi hPc hn' hw hf F₁ N₁
end
noncomputable abbrev JL:=List (Int×Int×Tok)
noncomputable def Qg (l:JL):List (Int×Value):=l.map fun e=>(e.1,.int e.2.1 e.2.2)
noncomputable def Q0 (l:JL)(j k:Int)(t:Tok):JL:=if l.any (fun e=>e.1=j) then l.map (fun e=>if e.1=j then (e.1,k,t) else e) else l++[(j,k,t)]
theorem Lm (l:JL)(j k:Int)(t:Tok):C7 (Qg l) j (.int k t)=Qg (Q0 l j k t):=by
 unfold C7 Q0 Qg;rw [List.any_map];have e:((fun kv:Int×Value=>decide (kv.1=j))∘fun e:Int×Int×Tok=>(e.1,A5 e.2.1 e.2.2))=fun e=>decide (e.1=j):=rfl;rw [e];split
 ·rw [Ao,Ao];apply Az;intro a _;show (if a.1=j then (a.1,A5 k t) else (a.1,A5 a.2.1 a.2.2))=((if a.1=j then (a.1,k,t) else a).1,A5 (if a.1=j then (a.1,k,t) else a).2.1 (if a.1=j then (a.1,k,t) else a).2.2);split<;>rfl
 rw [AI];rfl
noncomputable def E7 (l:List (Int×Int))(j:Int):Int:=((l.find? fun e=>e.1=j).map (·.2)).getD 0
noncomputable def QR (l:List (Int×Int))(j k:Int):List (Int×Int):=if l.any (fun e=>e.1=j) then l.map (fun e=>if e.1=j then (e.1,k) else e) else l++[(j,k)]
noncomputable def HU (l:JL):List (Int×Int):=l.map fun e=>(e.1,e.2.1)
theorem QQ (l:JL)(j k:Int)(t:Tok):HU (Q0 l j k t)=QR (HU l) j k:=by
 unfold Q0 QR HU;rw [List.any_map];have e:((fun kv:Int×Int=>decide (kv.1=j))∘fun e:Int×Int×Tok=>(e.1,e.2.1))=fun e=>decide (e.1=j):=rfl;rw [e];split
 ·rw [Ao,Ao];apply Az;intro a _;show ((if a.1=j then (a.1,k,t) else a).1,(if a.1=j then (a.1,k,t) else a).2.1)=if a.1=j then (a.1,k) else (a.1,a.2.1)
  split<;>rfl
 rw [AI];rfl
theorem Kh (l:JL)(j:Int)(t:Tok):∃t',(BR (Qg l) j).getD (.int 0 t) = .int (E7 (HU l) j) t':=by
 unfold BR Qg E7 HU;rw [FJ,FJ];have e1:((fun kv:Int×Value=>decide (kv.1=j))∘fun e:Int×Int×Tok=>(e.1,A5 e.2.1 e.2.2))=fun e=>decide (e.1=j):=rfl;have e2:((fun kv:Int×Int=>decide (kv.1=j))∘fun e:Int×Int×Tok=>(e.1,e.2.1))=fun e=>decide (e.1=j):=rfl;rw [e1,e2]
 cases EH (fun e:Int×Int×Tok=>decide (e.1=j)) l with
 | none=>exact ⟨t,rfl⟩
 | some a=>exact ⟨a.2.2,rfl⟩
structure PB3 where
 bi:Int
 bj:Int
 bs:Int
noncomputable def JM (i:Int)(old:List (Int×Int))(b:PB3)(j:Int):PB3:=if E7 old (j-1)+1>b.bs then ⟨i-(E7 old (j-1)+1)+1,j-(E7 old (j-1)+1)+1,E7 old (j-1)+1⟩ else b
noncomputable def Ff (i blo bhi:Int)(old:List (Int×Int)):List Int→PB3→List (Int×Int)→PB3×List (Int×Int)
 | [],b,new=>(b,new)
 | j::js,b,new=>if j<blo then Ff i blo bhi old js b new else if bhi≤j then (b,new) else Ff i blo bhi old js (JM i old b j) (QR new j (E7 old (j-1)+1))
noncomputable def H5 (x y:Str)(i:Int):List Int:=match x.cps[i.toNat]? with | some c=>La y y.cps.size c | none=>[]
noncomputable def Jf (x y:Str)(blo bhi:Int):List Int→PB3→List (Int×Int)→PB3
 | [],b,_=>b
 | i::is,b,old=>Jf x y blo bhi is (Ff i blo bhi old (H5 x y i) b []).1 (Ff i blo bhi old (H5 x y i) b []).2
noncomputable def Hl (a b:Int):List Int:=(DH (b-a).toNat).map fun (i:Nat)=>a+(i:Int)
noncomputable def flm (x y:Str)(alo ahi blo bhi:Int):PB3:=Jf x y blo bhi (Hl alo ahi) ⟨alo,blo,0⟩ []
theorem T5 {its:List (Int×Tok)}{n:Nat}{v:Value}(h:(its.map fun p=>A5 p.1 p.2).toArray[n]? = some v):∃p,its[n]? = some p∧v = .int p.1 p.2:=by
 rw [Bj,AX] at h;refine Aq (Option.map_eq_some_iff.mp h) ?_;intro p hp e92;subst e92;exact ⟨p,hp,rfl⟩
theorem Qo {its:List (Int×Tok)}{js:List Int}{n:Nat}{p:Int×Tok}(hj:its.map (·.1)=js)(h:its[n]? = some p):js.drop n=p.1::js.drop (n+1):=by
 have:js[n]? = some p.1:=by rw [←hj,AX,h];rfl
 refine Bp (List.getElem?_eq_some_iff.mp this) ?_;intro hl he;rw [EX hl,he]
theorem NK (l:List (Int×Int))(j k j':Int):E7 (QR l j k) j'=if j'=j then k else E7 l j':=by
 unfold QR
 by_cases ha:(l.any fun e=>e.1=j)=true
 ·rw [if_pos ha];unfold E7;rw [FJ];have e:((fun e:Int×Int=>decide (e.1=j'))∘fun e:Int×Int=>if e.1=j then (e.1,k) else e)=fun e=>decide (e.1=j'):=by
   funext a
   show decide ((if a.1=j then (a.1,k) else a).1=j')=_;split<;>rfl
  rw [e]
  by_cases hj:j'=j
  ·subst hj;rw [if_pos rfl];refine Aq (List.any_eq_true.mp ha) ?_;intro a ha1 ha2
   cases hf:EH (fun e:Int×Int=>decide (e.1=j')) l with
   | none=>exact absurd ha2 (by simpa using Ck.mp hf a ha1)
   | some b=>
    have hb:b.1=j':=by simpa using CO hf
    show (if b.1=j' then (b.1,k) else b).2=k;rw [if_pos hb]
  rw [if_neg hj]
  cases hf:EH (fun e:Int×Int=>decide (e.1=j')) l with
  | none=>rfl
  | some b=>
   have hb:b.1=j':=by simpa using CO hf
   show (if b.1=j then (b.1,k) else b).2=b.2;rw [if_neg (by lia)]
 rw [if_neg ha];unfold E7;rw [HN]
 by_cases hj:j'=j
 ·subst hj;rw [if_pos rfl];have hn:EH (fun e:Int×Int=>decide (e.1=j')) l=none:=by
   rw [Ck];intro a ham hae;exact ha (List.any_eq_true.mpr ⟨a,ham,hae⟩)
  rw [hn];simp
 rw [if_neg hj];have:EH (fun e:Int×Int=>decide (e.1=j')) [(j,k)]=none:=by
  simp [List.find?_cons,show ¬j=j' from fun e=>hj e.symm]
 rw [this,Option.or_none]
noncomputable def inB (blo bhi:Int)(js:List Int):List Int:=js.filter fun j=>decide (blo≤j)&&decide (j<bhi)
theorem K5 {x y:Str}{blo bhi i:Int}{is:List Int}{b:PB3}{old:List (Int×Int)}:Jf x y blo bhi (i::is) b old=Jf x y blo bhi is (Ff i blo bhi old (H5 x y i) b []).1 (Ff i blo bhi old (H5 x y i) b []).2:=rfl
theorem KG {i blo bhi:Int}{old:List (Int×Int)}{j:Int}{js:List Int}{b:PB3}{new:List (Int×Int)}:Ff i blo bhi old (j::js) b new=if j<blo then Ff i blo bhi old js b new else if bhi≤j then (b,new) else Ff i blo bhi old js (JM i old b j) (QR new j (E7 old (j-1)+1)):=rfl
theorem Qp (i blo bhi:Int)(old:List (Int×Int)):∀(js:List Int)(b:PB3)(new:List (Int×Int)),js.Pairwise (· < ·)→
  Ff i blo bhi old js b new=((inB blo bhi js).foldl (JM i old) b,(inB blo bhi js).foldl (fun n j=>QR n j (E7 old (j-1)+1)) new):=by
 intro xX
 induction xX with
 | nil=>
  intro b new _;exact rfl
 | cons j js iH=>
  intro b new h;rw [List.pairwise_cons] at h;rw [KG]
  by_cases h1:j<blo
  ·rw [if_pos h1,iH b new h.2];unfold inB;rw [Fp,if_neg (by simp;lia)]
  rw [if_neg h1]
  by_cases h2:bhi≤j
  ·rw [if_pos h2];have:inB blo bhi (j::js)=[]:=by
    unfold inB;rw [List.filter_eq_nil_iff];intro a ha;refine AQ ha ?_ fun ha=>?_
    ·simp;lia
    have:=h.1 a ha;simp;lia
   rw [this];rfl
  rw [if_neg h2,iH _ _ h.2];unfold inB;rw [Fp,if_pos (by simp;lia)];rfl
theorem Nj (f:Int→Int):∀(js:List Int)(new:List (Int×Int))(j:Int),E7 (js.foldl (fun n j=>QR n j (f j)) new) j=if j∈js then f j else E7 new j:=by
 intro xX
 induction xX with
 | nil=>
  intro new j;simp
 | cons a js iH=>
  intro new j;rw [Ee,iH]
  by_cases h:j∈js
  ·rw [if_pos h,if_pos (.tail _ h)]
  rw [if_neg h,NK]
  by_cases ha:j=a
  ·subst ha;simp
  rw [if_neg ha,if_neg (by simp [ha,h])]
theorem Qq (y:Str)(n c:Nat):(La y n c).Pairwise (· < ·):=by
 unfold La;refine List.Pairwise.map (R:=fun a b:Nat=>a<b) _ (fun a b h=>Int.ofNat_lt.mpr h) ?_;exact List.Pairwise.filter _ List.pairwise_lt_range
theorem QX {y:Str}{c:Nat}{j:Int}:j∈La y y.cps.size c↔0≤j∧y.cps[j.toNat]? = some c:=by
 unfold La;rw [List.mem_map]
 constructor
 ·rintro ⟨k,hk,rfl⟩;have:=mf1 hk;exact ⟨Ag k,by simpa using this.2⟩
 rintro ⟨h0,hc⟩;refine ⟨j.toNat,List.mem_filter.mpr ⟨List.mem_range.mpr ?_,by simpa using hc⟩,Bl h0⟩;rcases ER j.toNat y.cps.size with h | h
 ·exact h
 rw [DA h] at hc;cases hc
theorem Ml (x y:Str)(i:Int):(H5 x y i).Pairwise (· < ·):=by
 unfold H5;split
 ·exact Qq _ _ _
 exact List.Pairwise.nil
theorem mem_jsOf {x y:Str}{i j:Int}:j∈H5 x y i↔0≤j∧∃c,x.cps[i.toNat]? = some c∧y.cps[j.toNat]? = some c:=by
 unfold H5
 cases hc:x.cps[i.toNat]? with
 | some c=>
  show j∈La y y.cps.size c↔_;rw [QX]
  constructor
  ·exact fun h=>⟨h.1,c,rfl,h.2⟩
  rintro ⟨h,c',e,h'⟩;injection e with e;subst e;exact ⟨h,h'⟩
 | none=>
  show j∈[]↔_
  constructor
  ·intro h;cases h
  rintro ⟨_,c,e,_⟩;injection e
noncomputable def JB (x y:Str)(alo blo bhi:Int):Nat→Int→Int
 | 0,_=>0
 | r+1,j=>if blo≤j∧j<bhi∧j∈H5 x y (alo+(r:Int)) then JB x y alo blo bhi r (j-1)+1 else 0
section
variable {x y:Str}{alo blo bhi:Int}
theorem UE (j:Int):JB x y alo blo bhi 0 j=0:=rfl
theorem Km (r:Nat)(j:Int):JB x y alo blo bhi (r+1) j=if blo≤j∧j<bhi∧j∈H5 x y (alo+(r:Int)) then JB x y alo blo bhi r (j-1)+1 else 0:=rfl
theorem IN:∀(r:Nat)(j:Int),0≤JB x y alo blo bhi r j
 | 0,_=>BX _
 | r+1,j=>by
  rw [Km];split
  ·have:=IN r (j-1);lia
  exact BX _
theorem mem_inB {js:List Int}{j:Int}:j∈inB blo bhi js↔j∈js∧blo≤j∧j<bhi:=by
 unfold inB;rw [List.mem_filter];simp
def BestOn (x y:Str)(alo blo bhi:Int)(D:Nat→Int→Prop)(b:PB3):Prop:=
 0≤b.bs∧(∀r j,D r j→JB x y alo blo bhi r j≤b.bs)∧
 ((b.bs=0∧b.bi=alo∧b.bj=blo)∨
  (∃r j,D r j∧JB x y alo blo bhi r j=b.bs∧0<b.bs∧b.bi=alo+(r:Int)-b.bs∧b.bj=j-b.bs+1∧∀r' j',D r' j'→(r'<r∨(r'=r∧j'<j))→JB x y alo blo bhi r' j'<b.bs))
theorem Pg {R:Nat}{old:List (Int×Int)}(hold:∀j,E7 old j=JB x y alo blo bhi R j):∀(js ds:List Int)(b:PB3),(∀j∈js,blo≤j∧j<bhi∧j∈H5 x y (alo+(R:Int)))→js.Pairwise (· < ·)→(∀d∈ds,∀j∈js,d<j)→
  BestOn x y alo blo bhi (fun r j=>r≤R∨(r=R+1∧j∈ds)) b→BestOn x y alo blo bhi (fun r j=>r≤R∨(r=R+1∧(j∈ds∨j∈js))) (js.foldl (JM (alo+(R:Int)) old) b):=by
 intro xX
 induction xX with
 | nil=>
  intro ds b _ _ _ hb;simpa using hb
 | cons j js iH=>
  intro ds b hm hp hd hb;rw [List.pairwise_cons] at hp;have hS:JB x y alo blo bhi (R+1) j=E7 old (j-1)+1:=by
   rw [Km,if_pos (hm j (.head _)),hold]
  have hstep:BestOn x y alo blo bhi (fun r j'=>r≤R∨(r=R+1∧j'∈ds++[j])) (JM (alo+(R:Int)) old b j):=by
   refine Dj (hb) ?_;(try clear hb);intro h0 h1 h2;unfold JM;rw [←hS]
   by_cases hgt:JB x y alo blo bhi (R+1) j>b.bs
   ·rw [if_pos hgt];refine ⟨BC (Ah h0 hgt),?_,.inr ⟨R+1,j,.inr ⟨rfl,by simp⟩,rfl,Ah h0 hgt,by show alo+(R:Int)-JB x y alo blo bhi (R+1) j+1=alo+((R+1:Nat):Int)-JB x y alo blo bhi (R+1) j;lia,rfl,?_⟩⟩
    ·intro r j' hD;show _≤JB x y alo blo bhi (R+1) j;rcases hD with hD | ⟨rfl,hD⟩
     ·exact AP (h1 r j' (.inl hD)) (BC hgt)
     refine AF hD (fun hD=>?_) fun hD=>?_
     ·exact AP (h1 (R+1) j' (.inr ⟨rfl,hD⟩)) (BC hgt)
     rw [ms1 hD];exact BX _
    intro r' j' hD hl;show _<JB x y alo blo bhi (R+1) j;rcases hD with hD | ⟨rfl,hD⟩
    ·exact Ah (h1 r' j' (.inl hD)) hgt
    refine AF hD (fun hD=>?_) fun hD=>?_
    ·exact Ah (h1 (R+1) j' (.inr ⟨rfl,hD⟩)) hgt
    rw [ms1 hD] at hl;exact hl.elim (fun h=>absurd h (Av _)) fun h=>absurd h.2 (DY _)
   rw [if_neg hgt];refine ⟨h0,?_,?_⟩
   ·intro r j' hD;rcases hD with hD | ⟨rfl,hD⟩
    ·exact h1 r j' (.inl hD)
    refine AF hD (fun hD=>?_) fun hD=>?_
    ·exact h1 (R+1) j' (.inr ⟨rfl,hD⟩)
    rw [ms1 hD];exact Int.not_lt.mp hgt
   rcases h2 with h2 | ⟨r,jw,hD,he,hpos,hbi,hbj,hall⟩
   ·exact .inl h2
   refine .inr ⟨r,jw,?_,he,hpos,hbi,hbj,?_⟩
   ·rcases hD with hD | ⟨e,hD⟩
    ·exact .inl hD
    exact .inr ⟨e,maL _ hD⟩
   intro r' j' hD' hl;rcases hD' with hD' | ⟨rfl,hD'⟩
   ·exact hall r' j' (.inl hD') hl
   refine AF hD' (fun hD'=>?_) fun hD'=>?_
   ·exact hall (R+1) j' (.inr ⟨rfl,hD'⟩) hl
   rw [ms1 hD'] at hl;rcases hD with hD | ⟨rfl,hD⟩
   ·exact hl.elim (fun h=>absurd (Ay (Al R) h) (Nat.not_lt.mpr hD)) fun h=>absurd hD (h.1▸Ka R)
   exact hl.elim (fun h=>absurd h (Av _)) fun h=>absurd h.2 (Int.not_lt.mpr (BC (hd jw hD j (.head _))))
  have hrec:=iH (ds++[j]) _ (fun a ha=>hm a (.tail _ ha)) hp.2 (fun d hdm a ha=>by
   refine AF hdm (fun hdm=>?_) fun hdm=>?_
   ·exact hd d hdm a (.tail _ ha)
   rw [ms1 hdm];exact hp.1 a ha) hstep
  have eD:(fun (r:Nat) (j':Int)=>r≤R∨(r=R+1∧(j'∈ds++[j]∨j'∈js)))=fun r j'=>r≤R∨(r=R+1∧(j'∈ds∨j'∈j::js)):=by
   funext r j'
   apply propext;simp only [Cf,Cj,BD,Au,or_false,or_assoc]
  rw [eD] at hrec;exact hrec
theorem BestOn.all {R:Nat}{ds:List Int}{b:PB3}(h:BestOn x y alo blo bhi (fun r j=>r≤R∨(r=R+1∧j∈ds)) b)(hds:∀j,j∉ds→JB x y alo blo bhi (R+1) j=0):BestOn x y alo blo bhi (fun r _=>r≤R+1) b:=by
 refine Dj (h) ?_;(try clear h);intro h0 h1 h2;refine ⟨h0,?_,?_⟩
 ·intro r j hr;rcases ER R r with h | h
  ·have e:r=R+1:=Cd hr h;subst e
   by_cases hj:j∈ds
   ·exact h1 _ j (.inr ⟨rfl,hj⟩)
   rw [hds j hj];exact h0
  exact h1 r j (.inl h)
 rcases h2 with h2 | ⟨r,jw,hD,he,hpos,hbi,hbj,hall⟩
 ·exact .inl h2
 refine .inr ⟨r,jw,?_,he,hpos,hbi,hbj,?_⟩
 ·rcases hD with h | ⟨h,_⟩<;>lia
 intro r' j' hr' hl;rcases ER R r' with h | h
 ·have e:r'=R+1:=Cd hr' h;subst e
  by_cases hj:j'∈ds
  ·exact hall _ j' (.inr ⟨rfl,hj⟩) hl
  rw [hds j' hj];exact hpos
 exact hall r' j' (.inl h) hl
theorem Lv:∀(n R:Nat)(b:PB3)(old:List (Int×Int)),(∀j,E7 old j=JB x y alo blo bhi R j)→BestOn x y alo blo bhi (fun r _=>r≤R) b→
  BestOn x y alo blo bhi (fun r _=>r≤R+n) (Jf x y blo bhi ((List.range' R n).map fun (i:Nat)=>alo+(i:Int)) b old):=by
 intro xX
 induction xX with
 | zero=>
  intro R b old _ hb;exact hb
 | succ n iH=>
  intro R b old hold hb;rw [List.range'_succ,Bx,K5,Qp _ _ _ _ _ _ _ (Ml x y _)];have hm:∀j∈inB blo bhi (H5 x y (alo+(R:Int))),blo≤j∧j<bhi∧j∈H5 x y (alo+(R:Int)):=fun j hj=>by
   have:=mem_inB.mp hj;exact ⟨this.2.1,this.2.2,this.1⟩
  have hz:∀j,j∉inB blo bhi (H5 x y (alo+(R:Int)))→JB x y alo blo bhi (R+1) j=0:=fun j hj=>by
   rw [Km,if_neg];rintro ⟨h1,h2,h3⟩;exact hj (mem_inB.mpr ⟨h3,h1,h2⟩)
  have e0:BestOn x y alo blo bhi (fun r j=>r≤R∨(r=R+1∧j∈([]:List Int))) b:=by
   have:(fun (r:Nat) (j:Int)=>r≤R∨(r=R+1∧j∈([]:List Int)))=fun r _=>r≤R:=by
    funext r j;simp
   rw [this];exact hb
  have h1:=Pg hold _ [] b hm (List.Pairwise.filter _ (Ml x y _)) (by simp) e0;have h2:BestOn x y alo blo bhi (fun r _=>r≤R+1) ((inB blo bhi (H5 x y (alo+(R:Int)))).foldl (JM (alo+(R:Int)) old) b):=by
   refine BestOn.all (ds:=inB blo bhi (H5 x y (alo+(R:Int)))) ?_ hz;simpa using h1
  have h3:=iH (R+1) _ ((inB blo bhi (H5 x y (alo+(R:Int)))).foldl (fun n j=>QR n j (E7 old (j-1)+1)) []) (fun j=>by
   rw [Nj (fun j=>E7 old (j-1)+1)]
   by_cases hj:j∈inB blo bhi (H5 x y (alo+(R:Int)))
   ·rw [if_pos hj,Km,if_pos (hm j hj),hold]
   rw [if_neg hj,hz j hj];rfl) h2
  have e:R+1+n=R+(n+1):=by lia
  rw [e] at h3;exact h3
theorem R3 (ahi:Int):BestOn x y alo blo bhi (fun r _=>r≤(ahi-alo).toNat) (flm x y alo ahi blo bhi):=by
 have h:=Lv (x:=x) (y:=y) (alo:=alo) (blo:=blo) (bhi:=bhi) (ahi-alo).toNat 0 ⟨alo,blo,0⟩ [] (fun j=>rfl) ⟨BX _,fun r j hr=>by
  have:r=0:=by lia
  subst this;exact BX _,.inl ⟨rfl,rfl,rfl⟩⟩
 rw [Nat.zero_add] at h;unfold flm Hl;rw [List.range_eq_range'];exact h
def Go (x y:Str)(i j n:Int):Prop:=∀t,0≤t→t<n→∃c,x.cps[(i+t).toNat]? = some c∧y.cps[(j+t).toNat]? = some c
theorem asl (a b:Int):a+b-a=b:=by rw [FL,Gs]
theorem jn1 (j n:Int):j-1-n+1=j-(n+1)+1:=by lia
theorem jn0 (j:Int)(n:Nat):j-((n+1:Nat):Int)+1≤j:=by lia
theorem OL (halo:0≤alo)(hblo:0≤blo):∀(n r:Nat)(j:Int),1≤n→((n:Int)≤JB x y alo blo bhi r j↔n≤r∧blo≤j-n+1∧j<bhi∧Go x y (alo+(r:Int)-n) (j-n+1) n):=by
 intro xX
 induction xX with
 | zero=>
  intro _ _ h;exact absurd h (by lia)
 | succ n iH=>
  intro yY
  cases yY with
  | zero=>
   intro j _;rw [UE]
   constructor
   ·intro h;exact absurd h (Int.not_le.mpr (Int.natCast_pos.mpr (Iw n)))
   rintro ⟨h,_⟩;exact absurd h (Nat.not_succ_le_zero n)
  | succ r=>
   intro j _;rw [Km]
   by_cases hc:blo≤j∧j<bhi∧j∈H5 x y (alo+(r:Int))
   ·rw [if_pos hc];refine Dj (hc) ?_;(try clear hc);intro c1 c2 c3;obtain ⟨c3,c,c4,c5⟩:=mem_jsOf.mp c3;rcases Nat.eq_zero_or_pos n with rfl | hn
    ·have:=IN (x:=x) (y:=y) (alo:=alo) (blo:=blo) (bhi:=bhi) r (j-1)
     constructor
     ·intro _;refine ⟨by lia,by lia,c2,?_⟩;intro t h0 h1;have:t=0:=by lia
      subst this;exact ⟨c,by rw [show alo+((r+1:Nat):Int)-((0+1:Nat):Int)+0=alo+(r:Int) by lia];exact c4,by rw [show j-((0+1:Nat):Int)+1+0=j by lia];exact c5⟩
     intro _;lia
    have ih:=iH r (j-1) hn
    constructor
    ·intro h;refine Fi (ih.mp (by lia)) ?_;intro a1 a2 a3 a4;refine ⟨Fl a1,AP a2 (Ca (jn1 j n)),c2,?_⟩;intro t h0 h1
     by_cases ht:t<(n:Int)
     ·refine Aq (a4 t h0 ht) ?_;intro c' b1 b2;exact ⟨c',by rw [show alo+((r+1:Nat):Int)-((n+1:Nat):Int)+t=alo+(r:Int)-(n:Int)+t by lia];exact b1,by rw [show j-((n+1:Nat):Int)+1+t=j-1-(n:Int)+1+t by lia];exact b2⟩
     have:t=(n:Int):=by lia
     subst this;exact ⟨c,by rw [show alo+((r+1:Nat):Int)-((n+1:Nat):Int)+(n:Int)=alo+(r:Int) by lia];exact c4,by rw [show j-((n+1:Nat):Int)+1+(n:Int)=j by lia];exact c5⟩
    rintro ⟨a1,a2,a3,a4⟩;have:=ih.mpr ⟨Nat.le_of_succ_le_succ a1,AP a2 (Ca (jn1 j n).symm),Int.lt_trans (J7 j (by decide)) a3,fun t h0 h1=>by
     refine Aq (a4 t h0 (by lia)) ?_;intro c' b1 b2;exact ⟨c',by rw [show alo+(r:Int)-(n:Int)+t=alo+((r+1:Nat):Int)-((n+1:Nat):Int)+t by lia];exact b1,by rw [show j-1-(n:Int)+1+t=j-((n+1:Nat):Int)+1+t by lia];exact b2⟩⟩
    exact Int.add_le_add_right this 1
   rw [if_neg hc]
   constructor
   ·intro h;exact absurd h (Int.not_le.mpr (Int.natCast_pos.mpr (Iw n)))
   rintro ⟨a1,a2,a3,a4⟩;exfalso;apply hc;refine Aq (a4 (n:Int) (by lia) (by lia)) ?_;intro c' b1 b2;have hj:=AP a2 (jn0 j n);refine ⟨hj,a3,mem_jsOf.mpr ⟨AP hblo hj,c',?_,?_⟩⟩
   ·rw [show alo+(r:Int)=alo+((r+1:Nat):Int)-((n+1:Nat):Int)+(n:Int) by lia];exact b1
   rw [show j=j-((n+1:Nat):Int)+1+(n:Int) by lia];exact b2
structure FlmOk (x y:Str)(alo ahi blo bhi:Int)(b:PB3):Prop where
 s0:0≤b.bs
 i0:alo≤b.bi
 i1:b.bi+b.bs≤ahi
 j0:blo≤b.bj
 j1:b.bj+b.bs≤bhi
 run:Go x y b.bi b.bj b.bs
 none:b.bs=0→b.bi=alo∧b.bj=blo
 most:∀i j n,alo≤i→blo≤j→1≤n→i+n≤ahi→j+n≤bhi→Go x y i j n→n≤b.bs
 first:∀i j,alo≤i→blo≤j→1≤b.bs→i+b.bs≤ahi→j+b.bs≤bhi→Go x y i j b.bs→b.bi<i∨(b.bi=i∧b.bj≤j)
theorem Rw (j n:Int):j+n-1-n+1=j:=by lia
theorem V6 (a i n:Int):a+(i+n-a)-n=i:=by lia
theorem fm5 {a j s b:Int}(h:b=j-s+1)(g:a<b):a+s-1<j:=by lia
theorem fm6 {i s a r r' b:Int}(q:i+s-a=r')(e:b=a+r-s)(h:i<b):r'<r:=by lia
theorem Hr {ahi:Int}(halo:0≤alo)(hblo:0≤blo)(ha:alo≤ahi)(hb:blo≤bhi):FlmOk x y alo ahi blo bhi (flm x y alo ahi blo bhi):=by
 refine Dj (R3 (x:=x) (y:=y) (alo:=alo) (blo:=blo) (bhi:=bhi) ahi) ?_;intro h0 h1 h2;generalize flm x y alo ahi blo bhi=b at h0 h1 h2;have hge:∀(i j:Int) (n:Nat),alo≤i→blo≤j→1≤n→i+n≤ahi→j+n≤bhi→Go x y i j n→∃r:Nat,i+n-alo=r∧(n:Int)≤JB x y alo blo bhi r (j+n-1)∧JB x y alo blo bhi r (j+n-1)≤b.bs:=by
  clear h2;intro i j n a1 a2 a3 a4 a5 a6;refine Bp (CT (a:=i+n-alo) (Ab (AP a1 (Aj (Ag n))))) ?_;intro r hr;have h9:r≤(ahi-alo).toNat:=(O5 (Ab ha)).mpr (by rw [←hr];exact DU a4 alo);refine ⟨r,hr,(OL (x:=x) (y:=y) (alo:=alo) (blo:=blo) (bhi:=bhi) halo hblo n r (j+n-1) a3).mpr ⟨by lia,?_,AR (Int.sub_one_lt_of_le (BX _)) a5,?_⟩,h1 r (j+n-1) h9⟩
  ·rw [Rw];exact a2
  rw [Rw,←hr,V6];exact a6
 have most:∀i j n,alo≤i→blo≤j→1≤n→i+n≤ahi→j+n≤bhi→Go x y i j n→n≤b.bs:=by
  clear h2;intro i j n a1 a2 a3 a4 a5 a6;obtain ⟨n,rfl⟩:=CT (AP (by decide) a3);refine Dn (hge i j n a1 a2 (Int.ofNat_le.mp a3) a4 a5 a6) ?_;intro r _ g1 g2;exact AP g1 g2
 rcases h2 with ⟨e1,e2,e3⟩ | ⟨r,j,hr,he,hpos,hbi,hbj,hall⟩
 ·exact ⟨h0,Ca e2.symm,by rw [e1,e2,DV];exact ha,Ca e3.symm,by rw [e1,e3,DV];exact hb,fun t t0 h=>absurd (Ah t0 h) (by rw [e1];exact DY 0),fun _=>⟨e2,e3⟩,most,fun i j _ _ h=>absurd h (by rw [e1];exact DY 0)⟩
 refine Bp (CT h0) ?_;intro S hS;have hr':(r:Int)≤ahi-alo:=(O5 (Ab ha)).mp hr;rw [hS] at hbi hbj he hpos;refine Fi ((OL (x:=x) (y:=y) (alo:=alo) (blo:=blo) (bhi:=bhi) halo hblo S r j (Int.ofNat_lt.mp hpos)).mp (Ca he.symm)) ?_;intro a1 a2 a3 a4;have hrun:Go x y b.bi b.bj b.bs:=by
  rw [hbi,hbj,hS];exact a4
 refine ⟨h0,by rw [hbi,E6];exact Aj (Ab (Int.ofNat_le.mpr a1)),by rw [hbi,hS,Gq];exact Int.add_le_of_le_sub_left hr',by rw [hbj];exact a2,by rw [hbj,hS,CC,FL 1,←CC,Gq];exact a3,hrun,fun e=>absurd hpos (by rw [←hS,e];exact DY 0),most,?_⟩;intro i j' b1 b2 b3 b4 b5 b6;rw [hS] at b3 b4 b5 b6;refine Dn (hge i j' S b1 b2 (Int.ofNat_lt.mp hpos) b4 b5 b6) ?_;intro r' q0 q1 q2;rw [hS] at q2;have q3:=Ef q2 q1;have q4:r'≤(ahi-alo).toNat:=(O5 (Ab ha)).mpr (by rw [←q0];exact DU b4 alo);have no:¬(r'<r∨r'=r∧j'+(S:Int)-1<j):=fun h=>by
  have:=hall r' (j'+S-1) q4 h;rw [q3,hS] at this;exact DY _ this
 clear hall most hge h1 hrun b6 a4 q1 q2 q3 q4;rcases HP b.bi i with h | h | h
 ·exact .inl h
 ·refine .inr ⟨h,?_⟩;rcases Int.lt_or_le j' b.bj with hj | hj
  ·exact absurd (.inr ⟨Int.ofNat.inj (q0.symm.trans (by rw [←h,hbi,Gq,asl];rfl)),fm5 hbj hj⟩) no
  exact hj
 exact absurd (.inl (Int.ofNat_lt.mp (fm6 q0 hbi h))) no
theorem FlmOk.left {ahi:Int}{b:PB3}(h:FlmOk x y alo ahi blo bhi b)(halo:0≤alo)(hblo:0≤blo)(h1:alo<b.bi)(h2:blo<b.bj){c:Nat}(hx:x.cps[(b.bi-1).toNat]? = some c)(hy:y.cps[(b.bj-1).toNat]? = some c):False:=by
 have:=h.most (b.bi-1) (b.bj-1) (b.bs+1) (by lia) (by lia) (by have:=h.s0;lia) (by have:=h.i1;lia) (by have:=h.j1;lia) (by
  intro t t0 t1
  by_cases e:t=0
  ·subst e;exact ⟨c,by rw [DV];exact hx,by rw [DV];exact hy⟩
  refine Aq (h.run (t-1) (by lia) (by lia)) ?_;intro c' b1 b2;exact ⟨c',by rw [show b.bi-1+t=b.bi+(t-1) by lia];exact b1,by rw [show b.bj-1+t=b.bj+(t-1) by lia];exact b2⟩)
 lia
theorem FlmOk.right {ahi:Int}{b:PB3}(h:FlmOk x y alo ahi blo bhi b)(halo:0≤alo)(hblo:0≤blo)(h1:b.bi+b.bs<ahi)(h2:b.bj+b.bs<bhi){c:Nat}(hx:x.cps[(b.bi+b.bs).toNat]? = some c)(hy:y.cps[(b.bj+b.bs).toNat]? = some c):False:=by
 have:=h.most b.bi b.bj (b.bs+1) h.i0 h.j0 (by have:=h.s0;lia) (by lia) (by lia) (by
  intro t t0 t1
  by_cases e:t=b.bs
  ·subst e;exact ⟨c,hx,hy⟩
  exact h.run t t0 (by lia))
 lia
end
noncomputable def occ (x y:Str)(k run:Int):Bool:=!(Kd y (Bh x (some k) (some (k+run))) 0 y.length 1).isEmpty
def Pl (x y:Str)(r:Int):Prop:=∀k,0≤k→k<(x.length:Int)-r+1→occ x y k r=false
def LongRel (x y:Str)(k pl rn:Int):Prop:=
 (k=0∧pl=0∧rn=0∧∀r,1≤r→r≤(x.length:Int)→Pl x y r)∨
 (1≤rn∧rn≤(x.length:Int)∧0≤k∧k<(x.length:Int)-rn+1∧occ x y k rn=true∧pl=KZ y (Bh x (some k) (some (k+rn)))∧
  (∀k',0≤k'→k'<k→occ x y k' rn=false)∧∀r,rn<r→r≤(x.length:Int)→Pl x y r)
section
open PySem.StrLaws
theorem Gu {l m:List Nat}:∀{n p k:Nat},p+n≤l.length→k+n≤m.length→((l.drop p).take n=(m.drop k).take n↔∀t,t<n→l[p+t]? = m[k+t]?):=by
 intro n p k h1 h2
 constructor
 ·intro h t ht;have:=congrArg (fun z=>z[t]?) h;simp only [Ep,if_pos ht,Er] at this;exact this
 intro h;apply FK;intro t;rw [Ep,Ep]
 by_cases ht:t<n
 ·rw [if_pos ht,if_pos ht,Er,Er];exact h t ht
 rw [if_neg ht,if_neg ht]
theorem Ja {x:Str}{k run:Int}(h0:0≤k)(h1:0≤run)(h2:k+run≤x.length):Bh x (some k) (some (k+run))=⟨((x.cps.toList.drop k.toNat).take run.toNat).toArray⟩:=by
 have:Bh x (some k) (some (k+run))=sliceText x (some k) (some (k+run)):=rfl;rw [this,sliceText_plain ⟨h0,Aj h1,h2⟩,show k+run-k=run by rw [FL];exact Gs run k]
theorem LO {x y:Str}{k run:Int}(h0:0≤k)(h1:0≤run)(h2:k+run≤x.length)(p:Nat):At y (Bh x (some k) (some (k+run))) y.length p↔(p:Int)+run≤y.length∧Go x y k p run:=by
 refine Bp (CT h0) ?_;intro k e91;subst e91;refine Bp (CT h1) ?_;intro run e91;subst e91;have h3:k+run≤x.cps.toList.length:=Int.ofNat_le.mp h2;have hlen:(Bh x (some (k:Int)) (some ((k:Int)+(run:Int)))).length=run:=by
  rw [Ja h0 h1 h2];show (Ge _).size=_;rw [Ae,Bm,Fn];exact Nat.min_eq_left (Nat.le_sub_of_add_le (by rw [Nat.add_comm];exact h3))
 unfold At;rw [subAt_eq,hlen,Ja h0 h1 h2,beq_iff_eq];show p+run≤y.cps.toList.length∧_=(x.cps.toList.drop k).take run↔_
 constructor
 ·rintro ⟨a,b⟩;refine ⟨Int.ofNat_le.mpr a,?_⟩;rw [Gu a h3] at b;intro t t0 t1;refine Bp (CT t0) ?_;intro t e91;subst e91;have t2:t<run:=Int.ofNat_lt.mp t1;have:=b t t2;have hlt:k+t<x.cps.size:=B5 (Nat.add_lt_add_left t2 k) h3;refine ⟨x.cps[k+t],BU hlt,?_⟩;simp only [C9] at this;exact this.trans (BU hlt)
 rintro ⟨a,b⟩;have a:p+run≤y.cps.toList.length:=Int.ofNat_le.mp a;refine ⟨a,?_⟩;rw [Gu a h3];intro t ht;refine Aq (b t (Ag t) (Int.ofNat_lt.mpr ht)) ?_;intro c c1 c2;simp only [C9];exact c2.trans c1.symm
theorem Lw {x y:Str}{k run:Int}(h0:0≤k)(h1:0≤run)(h2:k+run≤x.length):occ x y k run=true↔∃p:Nat,(p:Int)+run≤y.length∧Go x y k p run:=by
 unfold occ;rw [found_iff]
 constructor
 ·rintro ⟨p,hp⟩;exact ⟨p,(LO h0 h1 h2 p).mp hp⟩
 rintro ⟨p,hp⟩;exact ⟨p,(LO h0 h1 h2 p).mpr hp⟩
theorem Nk {x y:Str}{k run:Int}(h0:0≤k)(h1:0≤run)(h2:k+run≤x.length){p:Nat}(hp:(p:Int)+run≤y.length)(hr:Go x y k p run)(hmin:∀q:Nat,(q:Int)+run≤y.length→Go x y k q run→p≤q):KZ y (Bh x (some k) (some (k+run)))=p:=by
 unfold KZ;rcases occ_head y (Bh x (some k) (some (k+run))) 1 (Ap _) with ⟨_,hn⟩ | ⟨i,r,e,hi,hlt⟩
 ·exact absurd ((LO h0 h1 h2 p).mpr ⟨hp,hr⟩) (hn p)
 rw [e];show (i:Int)=p;have a1:=(LO h0 h1 h2 i).mp hi;have a2:=hmin i a1.1 a1.2;rcases ER p i with h | h
 ·exact absurd ((LO h0 h1 h2 p).mpr ⟨hp,hr⟩) (hlt p h)
 lia
theorem Jr {x y:Str}{b:PB3}(h:FlmOk x y 0 x.length 0 y.length b):LongRel x y b.bi b.bj b.bs:=by
 have s0:=h.s0;have i0:=h.i0;have i1:=h.i1;have j0:=h.j0;have j1:=h.j1;have no:∀r,b.bs<r→r≤(x.length:Int)→Pl x y r:=by
  intro r hr hl k k0 k1
  cases ho:occ x y k r with
  | false=>rfl
  | true=>
   refine Aq ((Lw k0 (by lia) (by lia)).mp ho) ?_;intro p p1 p2;have:=h.most k p r k0 (by lia) (by lia) (by lia) p1 p2;lia
 by_cases e:b.bs=0
 ·refine CL (h.none e) ?_;intro e1 e2;exact .inl ⟨e1,e2,e,fun r h1 h2=>no r (by lia) h2⟩
 refine .inr ⟨by lia,by lia,i0,by lia,?_,?_,?_,no⟩
 ·exact (Lw i0 s0 i1).mpr ⟨b.bj.toNat,by rw [Bl j0];exact j1,by rw [Bl j0];exact h.run⟩
 ·refine ((Nk i0 s0 i1 (p:=b.bj.toNat) (by rw [Bl j0];exact j1) (by rw [Bl j0];exact h.run) ?_).trans (Bl j0)).symm;intro q q1 q2;have:=h.first b.bi q i0 (by lia) (by lia) i1 q1 q2;exact Int.toNat_le.mpr (this.resolve_left (DY _)).2
 intro k' k0 k1
 cases ho:occ x y k' b.bs with
 | false=>rfl
 | true=>
  refine Aq ((Lw k0 s0 (by lia)).mp ho) ?_;intro p p1 p2;have:=h.first k' p k0 (by lia) (by lia) (by lia) p1 p2;lia
theorem i2g (a b:Int):a+(b-a)=b:=by lia
theorem i2c (a b c t:Int):a+(b-a+c+t)=b+c+t:=by lia
theorem i2d {a b c h:Int}(e:b+c≤h):b-a+c≤h-a:=by lia
theorem i2e {n a b c h:Int}(e:n=h-a):n-(b-a+c)=h-(b+c):=by lia
theorem i2f {t a b c h:Int}(e:t<h-(b+c)):b-a+c+t<h-a:=by lia
theorem i2h {a i n h:Int}(e:i+n≤h-a):a+i+n≤h:=by
 rw [CC];exact Int.add_le_of_le_sub_left e
theorem LD {x y xs ys:Str}{alo ahi blo bhi:Int}{b:PB3}(h:FlmOk x y alo ahi blo bhi b)(halo:0≤alo)(hblo:0≤blo)(hx:(xs.length:Int)=ahi-alo)(hy:(ys.length:Int)=bhi-blo)
  (hxs:∀t,0≤t→t<ahi-alo→xs.cps[t.toNat]? = x.cps[(alo+t).toNat]?) (hys:∀t,0≤t→t<bhi-blo→ys.cps[t.toNat]? = y.cps[(blo+t).toNat]?) :
  FlmOk xs ys 0 xs.length 0 ys.length ⟨b.bi-alo,b.bj-blo,b.bs⟩:=by
 have s0:=h.s0;have i0:=h.i0;have i1:=h.i1;have j0:=h.j0;have j1:=h.j1;have conv:∀i j n,0≤i→0≤j→i+n≤ahi-alo→j+n≤bhi-blo→(Go xs ys i j n↔Go x y (alo+i) (blo+j) n):=by
  intro i j n a1 a2 a3 a4
  constructor
  ·intro hr t t0 t1;refine Aq (hr t t0 t1) ?_;intro c c1 c2;rw [hxs _ (BQ a1 t0) (AR (Cb t1 i) a3)] at c1;rw [hys _ (BQ a2 t0) (AR (Cb t1 j) a4)] at c2;exact ⟨c,by rw [CC];exact c1,by rw [CC];exact c2⟩
  intro hr t t0 t1;refine Aq (hr t t0 t1) ?_;intro c c1 c2;refine ⟨c,?_,?_⟩
  ·rw [hxs _ (BQ a1 t0) (AR (Cb t1 i) a3),←CC];exact c1
  rw [hys _ (BQ a2 t0) (AR (Cb t1 j) a4),←CC];exact c2
 refine ⟨s0,Ab i0,hx▸i2d i1,Ab j0,hy▸i2d j1,?_,?_,?_,?_⟩
 ·refine (conv _ _ _ (Ab i0) (Ab j0) (i2d i1) (i2d j1)).mpr ?_;show Go x y (alo+(b.bi-alo)) (blo+(b.bj-blo)) b.bs;rw [i2g,i2g];exact h.run
 ·intro e;refine CL (h.none e) ?_;intro e1 e2;exact ⟨Int.sub_eq_zero.mpr e1,Int.sub_eq_zero.mpr e2⟩
 ·intro i j n a1 a2 a3 a4 a5 hr;rw [hx] at a4;rw [hy] at a5;exact h.most (alo+i) (blo+j) n (Aj a1) (Aj a2) a3 (i2h a4) (i2h a5) ((conv i j n a1 a2 a4 a5).mp hr)
 intro i j a1 a2 a3 a4 a5 hr;rw [hx] at a4;rw [hy] at a5;rcases h.first (alo+i) (blo+j) (Aj a1) (Aj a2) a3 (i2h a4) (i2h a5) ((conv i j b.bs a1 a2 a4 a5).mp hr) with h | ⟨h,h'⟩
 ·exact .inl (Int.sub_left_lt_of_lt_add h)
 exact .inr ⟨by show b.bi-alo=i;rw [h,asl],Int.sub_left_le_of_le_add h'⟩
theorem LongRel.uniq {x y:Str}{k pl rn k' pl' rn':Int}(h:LongRel x y k pl rn)(h':LongRel x y k' pl' rn'):k=k'∧pl=pl'∧rn=rn':=by
 rcases h with ⟨a1,a2,a3,a4⟩ | ⟨a1,a2,a3,a4,a5,a6,a7,a8⟩<;>rcases h' with ⟨b1,b2,b3,b4⟩ | ⟨b1,b2,b3,b4,b5,b6,b7,b8⟩
 ·exact ⟨by lia,by lia,by lia⟩
 ·have:=a4 rn' b1 b2 k' b3 b4;rw [b5] at this;cases this
 ·have:=b4 rn a1 a2 k a3 a4;rw [a5] at this;cases this
 have e:rn=rn':=by
  rcases HP rn rn' with h | h | h
  ·have:=a8 rn' h b2 k' b3 b4;rw [b5] at this;cases this
  ·exact h
  have:=b8 rn h a2 k a3 a4;rw [a5] at this;cases this
 subst e;have e:k=k':=by
  rcases HP k k' with h | h | h
  ·have:=b7 k a3 h;rw [a5] at this;cases this
  ·exact h
  have:=a7 k' b3 h;rw [b5] at this;cases this
 subst e;exact ⟨rfl,a6.trans b6.symm,rfl⟩
end
noncomputable abbrev TR:=Int×Int×Int
inductive JR (x y:Str):Int→Int→Int→Int→List TR→Prop
 | nil {alo ahi blo bhi:Int} (h:(flm x y alo ahi blo bhi).bs=0):JR x y alo ahi blo bhi []
 | cons {alo ahi blo bhi:Int} {l1 l2:List TR} (b:PB3) (hb:b=flm x y alo ahi blo bhi) (h:1≤b.bs) (h1:JR x y alo b.bi blo b.bj l1) (h2:JR x y (b.bi+b.bs) ahi (b.bj+b.bs) bhi l2) :
   JR x y alo ahi blo bhi (l1++(b.bi,b.bj,b.bs)::l2)
theorem Uy (x y:Str)(n:Nat):∀(alo ahi blo bhi:Int),ahi-alo≤n→0≤alo→0≤blo→alo≤ahi→blo≤bhi→∃l,JR x y alo ahi blo bhi l:=by
 induction n with
 | zero=>
  intro alo ahi blo bhi hn h1 h2 h3 h4;have ok:=Hr (x:=x) (y:=y) h1 h2 h3 h4;have i0:=ok.i0;have i1:=ok.i1
  by_cases e:(flm x y alo ahi blo bhi).bs=0
  ·exact ⟨[],.nil e⟩
  have p:1≤(flm x y alo ahi blo bhi).bs:=iln ok.s0 (Ne.symm e);exact absurd (Ah i0 (AR (BK _ p) i1)) (Int.not_lt.mpr (Fz hn))
 | succ n ih=>
  intro alo ahi blo bhi hn h1 h2 h3 h4;have ok:=Hr (x:=x) (y:=y) h1 h2 h3 h4;have i0:=ok.i0;have i1:=ok.i1
  by_cases e:(flm x y alo ahi blo bhi).bs=0
  ·exact ⟨[],.nil e⟩
  have p:1≤(flm x y alo ahi blo bhi).bs:=iln ok.s0 (Ne.symm e);have s0:=ok.s0;have j0:=ok.j0;have j1:=ok.j1;obtain ⟨l1,c1⟩:=ih alo (flm x y alo ahi blo bhi).bi blo (flm x y alo ahi blo bhi).bj (G0 (AR (Int.sub_lt_sub_right (AR (BK _ p) i1) alo) hn)) h1 h2 i0 j0;obtain ⟨l2,c2⟩:=ih ((flm x y alo ahi blo bhi).bi+(flm x y alo ahi blo bhi).bs) ahi ((flm x y alo ahi blo bhi).bj+(flm x y alo ahi blo bhi).bs) bhi (G0 (AR (Int.sub_lt_sub_left (Ah i0 (BK _ p)) ahi) hn)) (BQ (AP h1 i0) s0) (BQ (AP h2 j0) s0) i1 j1;exact ⟨_,.cons _ rfl p c1 c2⟩
def W7 (x y:Str)(alo ahi blo bhi:Int)(b:TR):Prop:=alo≤b.1∧b.1+b.2.2≤ahi∧blo≤b.2.1∧b.2.1+b.2.2≤bhi∧1≤b.2.2∧Go x y b.1 b.2.1 b.2.2
def RO (b c:TR):Prop:=b.1+b.2.2≤c.1∧b.2.1+b.2.2≤c.2.1∧¬(b.1+b.2.2=c.1∧b.2.1+b.2.2=c.2.1)
theorem Xa {a b:Nat}{l i s h:Int}(h1:(a:Int)≤i-l)(h2:(b:Int)≤h-(i+s))(h3:1≤s):((a+(b+1):Nat):Int)≤h-l:=by lia
theorem PV {x y:Str}{alo ahi blo bhi:Int}{l:List TR}(h:JR x y alo ahi blo bhi l):0≤alo→0≤blo→alo≤ahi→blo≤bhi→
  (∀b∈l,W7 x y alo ahi blo bhi b)∧l.Pairwise RO∧(l.length:Int)≤ahi-alo:=by
 induction h with
 | nil h=>intro h1 h2 h3 h4;exact ⟨AA _,.nil,Ab h3⟩
 | @cons alo ahi blo bhi l1 l2 b hb h c1 c2 ih1 ih2=>
  intro h1 h2 h3 h4;have ok:=Hr (x:=x) (y:=y) h1 h2 h3 h4;rw [←hb] at ok;have i0:=ok.i0;have i1:=ok.i1;have j0:=ok.j0;have j1:=ok.j1;obtain ⟨a1,a2,a3⟩:=ih1 h1 h2 i0 j0;obtain ⟨b1,b2,b3⟩:=ih2 (BQ (AP h1 i0) (BC h)) (BQ (AP h2 j0) (BC h)) i1 j1;have u1:b.bi≤b.bi+b.bs:=Aj (BC h);have u2:b.bj≤b.bj+b.bs:=Aj (BC h);refine ⟨?_,?_,?_⟩
  ·intro c hc;rcases Cf.mp hc with hc | hc
   ·obtain ⟨q1,q2,q3,q4,q5,q6⟩:=a1 c hc;exact ⟨q1,AP q2 (AP u1 i1),q3,AP q4 (AP u2 j1),q5,q6⟩
   rcases mc1 hc with rfl | hc
   ·exact ⟨i0,i1,j0,j1,h,ok.run⟩
   obtain ⟨q1,q2,q3,q4,q5,q6⟩:=b1 c hc;exact ⟨AP i0 (AP u1 q1),q2,AP j0 (AP u2 q3),q4,q5,q6⟩
  ·refine List.pairwise_append.mpr ⟨a2,.cons ?_ b2,?_⟩
   ·intro c hc;obtain ⟨q1,q2,q3,q4,q5,q6⟩:=b1 c hc;refine ⟨q1,q3,fun e=>?_⟩;obtain ⟨ch,e1,e2⟩:=q6 0 (BX _) q5;rw [DV] at e1 e2;exact ok.right h1 h2 (Ah (Ca e.1) (AR (BK _ q5) q2)) (Ah (Ca e.2) (AR (BK _ q5) q4)) (c:=ch) (by show x.cps[(b.bi+b.bs).toNat]? = _;rw [e.1];exact e1) (by show y.cps[(b.bj+b.bs).toNat]? = _;rw [e.2];exact e2)
   intro c hc d hd;obtain ⟨q1,q2,q3,q4,q5,q6⟩:=a1 c hc;rcases mc1 hd with rfl | hd
   ·refine ⟨q2,q4,fun e=>?_⟩;obtain ⟨e0,e0'⟩:c.1+c.2.2=b.bi∧c.2.1+c.2.2=b.bj:=e;obtain ⟨ch,e1,e2⟩:=q6 (c.2.2-1) (Ab q5) (J7 _ (by decide));exact ok.left h1 h2 (Ah q1 (AR (BK _ q5) (Ca e0))) (Ah q3 (AR (BK _ q5) (Ca e0'))) (c:=ch) (by rw [←e0,E6];exact e1) (by rw [←e0',E6];exact e2)
   obtain ⟨r1,r2,r3,r4,r5,r6⟩:=b1 d hd;have s1:=Ah q2 (AR (BK _ h) r1);exact ⟨BC s1,BC (Ah q4 (AR (BK _ h) r3)),fun e=>absurd e.1 (J0 s1)⟩
  rw [Ai,CF];exact Xa a3 b3 h
structure QE where
 a:Addr
 p:Int
 q:Int
 r:Int
 t:Int
 k1:Tok
 k2:Tok
 k3:Tok
 k4:Tok
noncomputable abbrev QN (e:QE):Obj:=⟨.type "tuple",none,.seq #[.int e.p e.k1,.int e.q e.k2,.int e.r e.k3,.int e.t e.k4] 0,#[]⟩
noncomputable def Fb (l:List QE):List Value:=(l.map fun e=>A3 e.a).reverse
noncomputable def M2 (l:List QE):List (Addr×Obj):=l.map fun e=>(e.a,QN e)
noncomputable def IM (e:MB):TR:=(e.i,e.j,e.k)
noncomputable abbrev QL:=QE×List TR
def qOk (x y:Str)(q:QL):Prop:=0≤q.1.p∧q.1.p≤q.1.q∧q.1.q≤x.length∧0≤q.1.r∧q.1.r≤q.1.t∧q.1.t≤y.length∧JR x y q.1.p q.1.q q.1.r q.1.t q.2
noncomputable def qM (qs:List QL):Nat:=(qs.map fun q=>2*(q.1.q-q.1.p).toNat+1).sum
theorem US (qs:List QL):qs.length≤qM qs:=by
 unfold qM
 induction qs with
 | nil=>exact Ap _
 | cons q qs ih=>simp only [Bx,List.sum_cons,CF];exact Am (O2 (Nat.add_comm _ _)) (EG (J4 1 _) ih)
def CutQ (c:Prop)(p q r t:Int)(new:List QE):Prop:=(¬c∧new=[])∨(c∧∃e:QE,new=[e]∧e.p=p∧e.q=q∧e.r=r∧e.t=t)
theorem TT {x y:Str}{alo ahi blo bhi:Int}{l:List TR}(h:JR x y alo ahi blo bhi l)(h1:0≤alo)(h2:0≤blo)(h3:alo≤ahi)(h4:blo≤bhi)(h5:¬(alo<ahi∧blo<bhi)):l=[]:=by
 have ok:=Hr (x:=x) (y:=y) h1 h2 h3 h4;have i0:=ok.i0;have i1:=ok.i1;have j0:=ok.j0;have j1:=ok.j1
 cases h with
 | nil _=>rfl
 | cons b hb h c1 c2=>subst hb;exact absurd ⟨Ah i0 (AR (BK _ h) i1),Ah j0 (AR (BK _ h) j1)⟩ h5
theorem Kw {l1 l2:List QE}(h:l1=[]∨∃e,l1=[e]):Fb l2++l1.map (fun e=>A3 e.a)=Fb (l1++l2):=by
 unfold Fb;rw [AI,List.reverse_append];rcases h with rfl | ⟨e,rfl⟩<;>rfl
theorem CutQ.one {c:Prop}{p q r t:Int}{new:List QE}(h:CutQ c p q r t new):new=[]∨∃e,new=[e]:=by
 rcases h with ⟨_,h⟩ | ⟨_,e,h,_⟩
 ·exact .inl h
 exact .inr ⟨e,h⟩
theorem Mq {x y:Str}{alo ahi blo bhi:Int}{l:List TR}{new:List QE}(hi:CutQ (alo<ahi∧blo<bhi) alo ahi blo bhi new)(h:JR x y alo ahi blo bhi l)(h1:0≤alo)(h2:0≤blo)(h3:alo≤ahi)(h4:blo≤bhi)(h5:ahi≤x.length)(h6:bhi≤y.length) :
  ∃qn:List QL,qn.map (·.1)=new∧(∀q∈qn,qOk x y q)∧qn.flatMap (·.2)=l∧qM qn≤2*(ahi-alo).toNat+1:=by
 rcases hi with ⟨c,rfl⟩ | ⟨c,e,rfl,rfl,rfl,rfl,rfl⟩
 ·refine ⟨[],rfl,AA _,?_,by simp [qM]⟩;rw [TT h h1 h2 h3 h4 c];rfl
 exact ⟨[(e,l)],rfl,fs1 ⟨h1,h3,h5,h2,h4,h6,h⟩,by simp,by simp [qM]⟩
theorem tn3 {l i s h:Int}(a:l≤i)(b:1≤s)(c:i+s≤h):(i-l).toNat+(h-(i+s)).toNat+1≤(h-l).toNat:=by
 have u:=Bl (Ab a);have v:=Bl (Ab c);generalize (i-l).toNat=m at u ⊢;generalize (h-(i+s)).toNat=n at v ⊢;exact (O5 (by lia)).mpr (by lia)
theorem tn4 {a b m n k:Nat}(p:a≤2*m+1)(q:b≤2*n+1)(r:m+n+1≤k):b+a<2*k+1:=by lia
theorem Og {x y:Str}{qa:Addr}{alo ahi blo bhi:Int}{k1 k2 k3 k4:Tok}{l:List TR}{b:PB3}{new1 new2:List QE}(hq:qOk x y (⟨qa,alo,ahi,blo,bhi,k1,k2,k3,k4⟩,l))(hb:flm x y alo ahi blo bhi=b)(h0:b.bs≠0)
  (hi1:CutQ (alo<b.bi∧blo<b.bj) alo b.bi blo b.bj new1) (hi2:CutQ (b.bi+b.bs<ahi∧b.bj+b.bs<bhi) (b.bi+b.bs) ahi (b.bj+b.bs) bhi new2) :
  ∃qn:List QL,qn.map (·.1)=new2++new1∧(∀q∈qn,qOk x y q)∧((b.bi,b.bj,b.bs)::qn.flatMap (·.2)).Perm l∧qM qn<2*(ahi-alo).toNat+1:=by
 refine Nn hq ?_;(try clear hq);intro z1 z2 z3 z4 z5 z6 z7;dsimp only at z1 z2 z3 z4 z5 z6 z7;have ok:=Hr (x:=x) (y:=y) z1 z4 z2 z5;rw [hb] at ok;have s0:=ok.s0;have i0:=ok.i0;have i1:=ok.i1;have j0:=ok.j0;have j1:=ok.j1
 cases z7 with
 | nil h=>rw [hb] at h;exact absurd h h0
 | @cons _ _ _ _ l1 l2 b' hb' h c1 c2=>
  rw [hb] at hb';subst hb';refine MA (Mq hi1 c1 z1 z4 i0 j0 (AP (AP (Aj s0) i1) z3) (AP (AP (Aj s0) j1) z6)) ?_;intro q1 a1 a2 a3 a4;refine MA (Mq hi2 c2 (BQ (AP z1 i0) s0) (BQ (AP z4 j0) s0) i1 j1 z3 z6) ?_;intro q2 b1 b2 b3 b4;refine ⟨q2++q1,by rw [AI,a1,b1],?_,?_,?_⟩
  ·intro q hq;rcases Cf.mp hq with hq | hq
   ·exact b2 q hq
   exact a2 q hq
  ·rw [Cy,a3,b3];exact (List.Perm.cons _ JW).trans List.perm_middle.symm
  have e:qM (q2++q1)=qM q2+qM q1:=by unfold qM;rw [AI,List.sum_append]
  rw [e];exact tn4 a4 b4 (tn3 i0 h i1)
def St1 (l₀:List TR)(i:Nat)(b:TR)(ws:List TR):Prop:=(i=0∧b=(0,0,0)∧ws=[])∨(∃i',i=i'+1∧l₀[i']? = some b∧ws=l₀.take i')
section
variable {l₀:List TR}{i:Nat}{i1 j1 k1 i2 j2 k2:Int}{ws:List TR}
theorem UI (hl:l₀.Pairwise RO)(h:St1 l₀ i (i1,j1,k1) ws)(h2:l₀[i]? = some (i2,j2,k2))(e1:i1+k1=i2)(e2:j1+k1=j2):St1 l₀ (i+1) (i1,j1,k1+k2) ws:=by
 rcases h with ⟨rfl,e,rfl⟩ | ⟨i',rfl,h3,rfl⟩
 ·cases e;refine .inr ⟨0,rfl,?_,rfl⟩;rw [h2,←e1,←e2];simp
 exfalso;refine Bp (List.getElem?_eq_some_iff.mp h3) ?_;intro p1 p2;refine Bp (List.getElem?_eq_some_iff.mp h2) ?_;intro q1 q2;have:=List.pairwise_iff_getElem.mp hl i' (i'+1) p1 q1 (Al _);rw [p2,q2] at this;exact this.2.2 ⟨e1,e2⟩
theorem Rc (h:St1 l₀ i (i1,j1,k1) ws)(h2:l₀[i]? = some (i2,j2,k2))(hk:k1≠0):St1 l₀ (i+1) (i2,j2,k2) (ws++[(i1,j1,k1)]):=by
 rcases h with ⟨rfl,e,rfl⟩ | ⟨i',rfl,h3,rfl⟩
 ·cases e;exact absurd rfl hk
 refine .inr ⟨i'+1,rfl,h2,?_⟩;rw [E4,h3];rfl
theorem UG (h1:∀b∈l₀,1≤b.2.2)(h:St1 l₀ i (i1,j1,k1) ws)(h2:l₀[i]? = some (i2,j2,k2))(hk:k1=0):St1 l₀ (i+1) (i2,j2,k2) ws:=by
 rcases h with ⟨rfl,e,rfl⟩ | ⟨i',rfl,h3,rfl⟩
 ·exact .inr ⟨0,rfl,h2,rfl⟩
 have:=h1 _ (AK h3);have h4:1≤k1:=this;lia
theorem SU (h:St1 l₀ l₀.length (i1,j1,k1) ws)(hk:k1≠0):ws++[(i1,j1,k1)]=l₀:=by
 rcases h with ⟨_,e,rfl⟩ | ⟨i',e,h3,rfl⟩
 ·cases e;exact absurd rfl hk
 have e2:l₀.take (i'+1)=l₀:=by rw [←e];exact List.take_length
 rw [E4,h3] at e2;exact e2
theorem SV (h1:∀b∈l₀,1≤b.2.2)(h:St1 l₀ l₀.length (i1,j1,k1) ws)(hk:k1=0):ws=l₀:=by
 rcases h with ⟨e,_,rfl⟩ | ⟨i',e,h3,rfl⟩
 ·exact (Di e).symm
 have:=h1 _ (AK h3);have h4:1≤k1:=this;lia
end
structure TE where
 a:Addr
 i:Int
 j:Int
 k:Int
 t1:Tok
 t2:Tok
 t3:Tok
noncomputable abbrev Kl (e:TE):Obj:=⟨.type "tuple",none,.seq #[.int e.i e.t1,.int e.j e.t2,.int e.k e.t3] 0,#[]⟩
noncomputable def DK (l:List TE):List Value:=l.map fun e=>A3 e.a
noncomputable def Hx (l:List TE):List (Addr×Obj):=l.map fun e=>(e.a,Kl e)
noncomputable def teT (e:TE):TR:=(e.i,e.j,e.k)
theorem FQ {ms:List MB}{i:Nat}{v:Value}(h:(Bf ms).toArray[i]? = some v):∃e,ms[i]? = some e∧v = .ref e.q:=by
 rw [Bj] at h;unfold Bf at h;rw [AX,Option.map_eq_some_iff] at h;refine Aq h ?_;(try clear h);intro e h1 h2;exact ⟨e,h1,h2.symm⟩
theorem UH {l₀ ws:List TR}{i:Nat}{b:TR}(h:St1 l₀ i b ws):ws.length≤l₀.length:=by
 rcases h with ⟨_,_,rfl⟩ | ⟨i',_,_,rfl⟩
 ·exact B0 _
 rw [Bm];exact Nat.min_le_right _ _
theorem VL {a:Addr}{o o':Obj}{r:List (Addr×Obj)}(h:∀p∈r,p.1≠a):∀q∈(a,o')::r,q∈CD a o' ((a,o)::r):=fun q hq=>AH hq (AV (.head _)) fun hq=>A8 (.tail _ hq) (h q hq)
theorem Rm {g h:Heap}{L:Addr}{news:List (Addr×Obj)}{p q:Addr×Obj}(N:News g L h news)(hp:p∈news)(hq:q∈news)(hc:p.2.cls≠q.2.cls):p.1≠q.1:=fun e=>by
 have a:=(N p hp).1;have b:=(N q hq).1;rw [e] at a;rw [a] at b;exact hc (congrArg Obj.cls (BM b))
def VB (o:Obj):Prop:=o.cls≠.type "dict" ∨∃v,o.data = .cell v
theorem VT {g h:Heap}{L:Addr}{news:List (Addr×Obj)}{p q:Addr×Obj}(N:News g L h news)(hp:p∈news)(hq:q∈news)(h1:VB p.2)(h2:q.2.cls = .type "dict")(h3:∀v,q.2.data≠.cell v):p.1≠q.1:=fun e=>by
 have a:=(N p hp).1;have b:=(N q hq).1;rw [e] at a;rw [a] at b;have e2:=BM b;rcases h1 with h | ⟨v,h⟩
 ·exact h (e2▸h2)
 exact h3 v (e2▸h)
section
variable {w:World}{A:AO}{E:Value→A4→Prop}{s:A4}{h₀:Heap}{L:Addr}{m:Str→Option Value}
theorem NP:Df (.type "map") "__len__" = pure none:=by rw [CH,Bc];kernel_rfl
theorem M0:Df (.type "map") "__length_hint__" = pure none:=by rw [CH,Bc];kernel_rfl
theorem Qb {z t f:Addr}{Q:Bool→A4→Prop}(hz:s.heap.get? z=some (Ez t f))(h:Q true s):wpAny (model (rw_nq0317_02.prog) w) A (DO (.ref z)) Q E s:=by
 unfold DO;refine A2 (HG (T:= "map") ⟨_,hz,rfl⟩ NP ?_);dsimp only;refine Lb (fun hab=>absurd hab (by decide +kernel)) (fun _=>?_);refine Lb (fun hab=>absurd hab (by decide)) (fun _=>?_);refine A2 (HG (T:= "map") ⟨_,hz,rfl⟩ M0 ?_);exact AC h
theorem XS {S it:Addr}{oS:Obj}{bl:List MB}{R0:List (Addr×Obj)}(hS:S≠it)(ho:∀e∈bl,e.q≠it∧e.q≠S)(hR0:∀p∈R0,p.1≠it∧p.1≠S):∀p∈(S,oS)::(HK bl++R0),p.1≠it:=by
 intro p hp;rcases mc1 hp with rfl | hp
 ·exact hS
 refine AF hp (fun hp=>?_) fun hp=>?_
 ·refine mmE hp ?_;intro e he;exact (ho e he).1
 exact (hR0 p hp).1
theorem R5 {S z t f it ln:Addr}{ws:List TE}{en:Nat}{R0:List (Addr×Obj)}{R:DN→A4→Prop}(hh:A.handled=none)
  (hmk:∀(s':A4) (T0:Addr) (i j k:Int) (t1 t2 t3:Tok) (news':List (Addr×Obj)) (Q' E':Value→A4→Prop),Fr h₀ L s'.heap m→News h₀ L s'.heap news'→(T0,(⟨.type "tuple",none,.seq #[.int i t1,.int j t2,.int k t3] 0,#[]⟩:Obj))∈news'→(f,Eu (.ref 89) (.ref 135))∈news'→
   (∀q d h' tk',Fr h₀ L h' m→News h₀ L h' ((q,Bs d (.int i t1) (.int j t2) (.int k t3))::news')→(∀p∈news',p.1≠q)→Q' (.ref q) { s' with heap:=h',toks:=tk' })→wpAny (model (rw_nq0317_02.prog) w) A.in1.in1 (call (.ref f) [.ref T0]) Q' E' s')
  (hz:(z,Ez t f)∈R0) (ht:(t,Pz it)∈R0) (hf:(f,Eu (.ref 89) (.ref 135))∈R0) (hl:(ln,A1 (DK ws).toArray en)∈R0) (hw:∀e∈ws,(e.a,Kl e)∈R0) (hwl:ws.length≤100) (hR0:∀p∈R0,p.1≠it∧p.1≠S) (hS:S≠it)
  (hfin:∀h' tk bl c,bl.map IM=ws.map teT→Fr h₀ L h' m→News h₀ L h' ((S,A1 (Bf bl).toArray c)::(HK bl++R0))→R (.ok (.ret .none)) { s with heap:=h',toks:=tk }) :
  ∀(k i:Nat) (bl:List MB) (c:Nat) (h:Heap) (tk:Nat),ws.length-i=k→i≤ws.length→bl.map IM=(ws.take i).map teT→(∀e∈bl,e.q≠it∧e.q≠S)→Fr h₀ L h m→News h₀ L h ((it,E8 ln (i:Int))::(S,A1 (Bf bl).toArray c)::(HK bl++R0))→
   Bt (model (rw_nq0317_02.prog) w) A (.builtin "list.extend.loop" ⟨[.ref S,.ref z,.none],[]⟩) R { s with heap:=h,toks:=tk }:=by
 intro k
 induction k with
 | zero=>
  intro i bl c h tk hk hi hb ho F N;have hin:i=ws.length:=sb0 hk hi;subst hin;have hne:∀p∈(S,A1 (Bf bl).toArray c)::(HK bl++R0),p.1≠it:=XS hS ho hR0;refine CI EW ?_;rw [BY C4 _];show wpAny _ A.in1 (DL (.ref z) >>= _) _ _ _;refine A2 (Ov hh F N (.tail _ (maR _ hz)) (.tail _ (maR _ ht)) (.tail _ (maR _ hl)) (by simp [DK]) hne fun h1 F1 N1=>?_);exact AC (hfin h1 tk bl c (by rw [hb,List.take_length]) F1 N1)
 | succ k ih=>
  intro i bl c h tk hk hi hb ho F N;have hlt:i<ws.length:=sb1 hk;have hne:∀p∈(S,A1 (Bf bl).toArray c)::(HK bl++R0),p.1≠it:=XS hS ho hR0;refine Bp (⟨_,Ax hlt⟩:∃e,ws[i]? = some e) ?_;intro e he;have hem:=AK he;refine CI EW ?_;rw [BY C4 _];show wpAny _ A.in1 (DL (.ref z) >>= _) _ _ _;refine A2 (NT (x:=.ref e.a) F N (.tail _ (maR _ hz)) (.tail _ (maR _ ht)) (.tail _ (maR _ hl)) (by rw [Bj];unfold DK;rw [AX,he];rfl) hne fun h1 E' F1 N1=>
   hmk { s with heap:=h1,toks:=tk } e.a e.i e.j e.k e.t1 e.t2 e.t3 _ _ E' F1 N1 (mT2 (maR _ (hw e hem))) (mT2 (maR _ hf)) fun q d h2 tk2 F2 N2 hq=>?_)
  have hS2:=(N2 _ mH2);have hbl:bl.length=i:=by
   have:=congrArg Bk hb;simp at this;lia
  show wpAny _ A.in1 (FX S (·.push (.ref q)) >>= _) _ _ _;refine A2 (Cm hS2.1 rfl (AC ⟨Ct C4 _,?_⟩) ?z1 ?z2)
  case z1=>rw [DP];unfold Bf;simp;lia
  case z2=>rw [DP];unfold Bf;simp;lia
  have hs:=BL h2 S (Ar (·.push (A3 q)));have eo:Ar (·.push (A3 q)) (A1 (Bf bl).toArray c)=A1 ((Bf bl).toArray.push (.ref q)) (c+1):=by simp [Ar,A1]
  have N3:=C6 (o':=A1 ((Bf bl).toArray.push (.ref q)) (c+1)) N2 mH2 hs ((Aw _ hS2.1 rfl).trans (congrArg some eo));have hqS:S≠q:=hq _ mH1;have hqi:it≠q:=hq _ (.head _);refine ih (i+1) (bl++[⟨q,d,e.i,e.j,e.k,e.t1,e.t2,e.t3⟩]) (c+1) _ tk2 (sb2 hk) hlt ?_ ?_ (F2.change hs hS2.2.1 hS2.2.2) ?_
  ·rw [AI,hb,E4,he,AI];rfl
  ·intro e' he';rcases Cf.mp he' with h | h
   ·exact ho e' h
   rw [ms1 h];exact ⟨hqi.symm,hqS.symm⟩
  refine Bo N3 fun p hp=>?_;refine AH hp (A8 mH1 (Ne.symm hS)) fun hp=>?_;refine AH hp ?_ fun hp=>?_
  ·have e9:(Bf (bl++[⟨q,d,e.i,e.j,e.k,e.t1,e.t2,e.t3⟩])).toArray=(Bf bl).toArray.push (.ref q):=by simp [Bf]
   rw [e9];exact AV mH2
  have e9:HK (bl++[⟨q,d,e.i,e.j,e.k,e.t1,e.t2,e.t3⟩])=HK bl++[(q,Bs d (.int e.i e.t1) (.int e.j e.t2) (.int e.k e.t3))]:=by simp [HK]
  rw [e9] at hp;refine AF hp (fun hp=>AF hp (fun hp=>?_) fun hp=>?_) fun hp=>?_
  ·refine A8 (mT3 (maL _ hp)) ?_;refine mmE hp ?_;intro e' he';exact (ho e' he').2
  ·rw [ms1 hp];exact A8 (.head _) (Ne.symm hqS)
  exact A8 (mT3 (maR _ hp)) (hR0 p hp).2
theorem Qa {z t f:Addr}{Q:Value→A4→Prop}(hz:s.heap.get? z=some (Ez t f))(h:Q (.ref z) s):wpAny (model (rw_nq0317_02.prog) w) A (CR (.ref z)) Q E s:=by
 have hT:s.TypeIs (.ref z) "map" :=⟨_,hz,rfl⟩;refine Ti hT Gv (Bz Gv hT JO ?_ (Iu _));show wpAny _ _ (ret (.ref z)) _ _ s;exact AC ⟨_,rfl, "map",_,hT,slot_map_next.lookup,h⟩
theorem Qe {z t f it ln:Addr}{ws:List TE}{en:Nat}{R0:List (Addr×Obj)}{Q:Value→A4→Prop}(hh:A.handled=none)
  (hmk:∀(s':A4) (T0:Addr) (i j k:Int) (t1 t2 t3:Tok) (news':List (Addr×Obj)) (Q' E':Value→A4→Prop),Fr h₀ L s'.heap m→News h₀ L s'.heap news'→(T0,(⟨.type "tuple",none,.seq #[.int i t1,.int j t2,.int k t3] 0,#[]⟩:Obj))∈news'→(f,Eu (.ref 89) (.ref 135))∈news'→
   (∀q d h' tk',Fr h₀ L h' m→News h₀ L h' ((q,Bs d (.int i t1) (.int j t2) (.int k t3))::news')→(∀p∈news',p.1≠q)→Q' (.ref q) { s' with heap:=h',toks:=tk' })→wpAny (model (rw_nq0317_02.prog) w) A.in1.in1.in1 (call (.ref f) [.ref T0]) Q' E' s')
  (F:Fr h₀ L s.heap m) (N:News h₀ L s.heap ((it,E8 ln 0)::R0)) (hz:(z,Ez t f)∈R0) (ht:(t,Pz it)∈R0) (hf:(f,Eu (.ref 89) (.ref 135))∈R0) (hl:(ln,A1 (DK ws).toArray en)∈R0) (hw:∀e∈ws,(e.a,Kl e)∈R0) (hwl:ws.length≤100) (hR0:∀p∈R0,p.1≠it)
  (hret:∀S h' tk bl c,bl.map IM=ws.map teT→(∀p∈R0,p.1≠S)→Fr h₀ L h' m→News h₀ L h' ((S,A1 (Bf bl).toArray c)::(HK bl++R0))→Q (.ref S) { s with heap:=h',toks:=tk }) :
  wpAny (model (rw_nq0317_02.prog) w) A (call (.type "list") [.ref z]) Q E s:=by
 refine callType_codes (Q₁:=fun obj s₁=>obj = .ref s.heap.objs.size∧s₁ = { s with heap:=s.heap.push { cls:=.type "list",data:=.seq #[] } }) PySem.F.called_list (PySem.F.typeCall_list_1 _) PySem.F.entry_list_init
  (code_list_new _ ⟨rfl,rfl⟩) fun obj s₁ h₁=>?_
 refine CL h₁ ?_;(try clear h₁);intro e90 e91;subst e90;subst e91;have hS:(s.heap.push { cls:=.type "list",data:=.seq #[] }).get? s.heap.objs.size=some { cls:=.type "list",data:=.seq #[] }:=Aa _ rfl;have hlt:∀{p:Addr×Obj},p∈(it,E8 ln 0)::R0→p.1<s.heap.objs.size:=fun hp=>AZ (N _ hp).1;have hSL:s.heap.objs.size≠L:=AN F.ns.lt;have hS0:h₀.get? s.heap.objs.size=none:=by
  cases e:h₀.get? s.heap.objs.size with
  | none=>rfl
  | some o=>exact absurd (AZ (F.keep _ _ e)) (Av _)
 have F1:Fr h₀ L (s.heap.push { cls:=.type "list",data:=.seq #[] }) m:=F.push _;have N1:News h₀ L (s.heap.push { cls:=.type "list",data:=.seq #[] }) ((s.heap.objs.size,A1 #[] 0)::(it,E8 ln 0)::R0):=fc1 ⟨⟨hS,hSL,hS0⟩,fun p hp=>⟨AE _ (N p hp).1,(N p hp).2⟩⟩;generalize s.heap.push { cls:=.type "list",data:=.seq #[] }=hp1 at *;generalize s.heap.objs.size=S at *;refine ⟨⟨_,hS,rfl⟩,PySem.F.args_list_init_2 _ _,?_⟩;have hzs:z≠S:=A7 (hlt (p:=(z,Ez t f)) (.tail _ hz));have key:∀(h:Heap) (c:Nat),Fr h₀ L h m→News h₀ L h ((S,A1 #[] c)::(it,E8 ln 0)::R0)→Bt (model (rw_nq0317_02.prog) w) A.in1 (.builtin "list.extend.loop" ⟨[.ref S,.ref z,.none],[]⟩) (wants (fun r s₂=>r=AG∧Q (A3 S) s₂) E) { s with heap:=h }:=by
  intro h c Fh Nh;refine R5 (A:=A.in1) (s:=s) (S:=S) (R0:=R0) (ln:=ln) (it:=it) (ws:=ws) (en:=en) hh hmk hz ht hf hl hw hwl (fun p hp=>⟨hR0 p hp,A7 (hlt (.tail _ hp))⟩) (AN (hlt (p:=(it,E8 ln 0)) (.head _))) (fun h' tk bl c' hb F' N'=>⟨rfl,hret S h' tk bl c' hb (fun p hp=>A7 (hlt (.tail _ hp))) F' N'⟩) ws.length 0 [] c h s.toks rfl (B0 _) rfl (AA _) Fh ?_;exact Bo Nh (A6 mH1 (A6 (.head _) fun p hp=>mT2 hp))
 show wpAny _ _ (do let old ←G4 (.ref S);Builtin.List.listUpdate (.ref S) (fun _=>#[]);letGo old.toList.reverse;Bv (.ref S) (.ref z) .none) _ _ _;refine A2 ?_;unfold G4;refine A2 (Eb hS rfl (AC ?_));show wpAny _ _ (FX S (fun _=>#[]) >>= fun _=>letGo (#[]:Array Value).toList.reverse >>= fun _=>Bv (.ref S) (.ref z) .none) _ _ _;refine A2 (Cm hS rfl ?_);have hs2:=BL hp1 S (Ar fun _=>(#[]:Array Value));have hS2:=Aw (Ar (fun _=>(#[]:Array Value))) hS rfl;have F2:Fr h₀ L (hp1.update S (Ar fun _=>(#[]:Array Value))) m:=F1.change hs2 hSL hS0;have N2:News h₀ L (hp1.update S (Ar fun _=>(#[]:Array Value))) ((S,A1 #[] 0)::(it,E8 ln 0)::R0):=Bo (C6 (o':=A1 #[] 0) N1 (.head _) hs2 hS2) (VL fun p hp=>A7 (hlt hp));generalize hp1.update S (Ar fun _=>(#[]:Array Value))=hp2 at *;refine A2 (wpAny_letGo ?_);unfold Bv;refine A2 (Hd (T:= "map") ⟨_,(N2 _ (mT2 hz)).1,rfl⟩ ?_);have h1:Cw (.ref S) (.ref z)=false:=by simp [Cw,Ne.symm hzs]
 have h2:(AL "map" == AL "list")=false:=by decide
 have h3:(AL "map" == AL "tuple")=false:=by decide
 rw [h1,h2,h3,if_neg (by decide)];refine A2 (Qa (N2 _ (mT2 hz)).1 ?_);refine A2 (Ak (Qb (N2 _ (mT2 hz)).1 ?_));refine Lb (fun _=>?_) (fun hab=>absurd rfl hab);refine A2 (GW ?_);refine A2 ?_;show wpAny _ _ (FX S (·.push .none) >>= fun _=>FX S (·.pop)) _ _ _;have hS3:=(N2 _ (.head _)).1;refine A2 (Cm hS3 rfl ?_);have hS4:=Aw (Ar (·.push AG)) hS3 rfl;have hs4:=BL hp2 S (Ar (·.push AG));have N4:=C6 N2 (.head _) hs4 hS4;have F4:=F2.change hs4 hSL hS0;refine Cm (hz:=by seq_fits) hS4 rfl ?_;have hS5:=Aw (Ar (·.pop)) hS4 rfl;have hs5:=BL (hp2.update S (Ar (·.push AG))) S (Ar (·.pop));have N5:=C6 (o':=A1 #[] 2) N4 (AV (.head _)) hs5 hS5;refine AC ⟨Ct C4 _,key _ 2 (F4.change hs5 hSL hS0) (Bo N5 fun p hp=>?_)⟩;refine AH hp (AV (AV (.head _))) fun hp=>?_;have hpS:p.1≠S:=A7 (hlt hp);exact A8 (A8 (.tail _ hp) hpS) hpS
theorem VV {f ln:Addr}{items:Array Value}{en:Nat}{news:List (Addr×Obj)}{Q:Value→A4→Prop}(F:Fr h₀ L s.heap m)(N:News h₀ L s.heap news)(hl:(ln,A1 items en)∈news)
  (hret:∀z t it h',Fr h₀ L h' m→News h₀ L h' ((z,Ez t f)::(t,Pz it)::(it,E8 ln 0)::news)→z≠it→t≠it→(∀p∈news,p.1≠it)→Q (.ref z) { s with heap:=h' }) :
  wpAny (model (rw_nq0317_02.prog) w) A (call (.type "map") [.ref f,.ref ln]) Q E s:=by
 refine callType_new Nx (by decide) (JA _ _) (K8 _ _) (fun obj=>PySem.F.args_object_init_3 obj _ _) KM (K9 f ln items) ⟨N.isList hl,?_⟩;have hlt:∀p∈news,p.1<s.heap.objs.size:=fun p hp=>AZ (N p hp).1;have z1:(Rp s.heap ln).objs.size=s.heap.objs.size+1:=Bq ..;have z2:(U0 s.heap ln).objs.size=s.heap.objs.size+2:=by rw [Bq,z1]
 have F3:Fr h₀ L (Tz s.heap ln f) m:=((F.push _).push _).push _;have nw:∀a,s.heap.objs.size≤a→a≠L∧h₀.get? a=none:=by
  intro a ha;refine ⟨AN (B5 F.ns.lt ha),?_⟩
  cases e:h₀.get? a with
  | none=>rfl
  | some o=>exact absurd (AZ (F.keep _ _ e)) (Nat.not_lt_of_le ha)
 have g3:(Tz s.heap ln f).get? (U0 s.heap ln).objs.size=some (Ez (Rp s.heap ln).objs.size f):=Aa _ rfl;have g2:(Tz s.heap ln f).get? (Rp s.heap ln).objs.size=some (Pz s.heap.objs.size):=AE _ (Aa _ rfl);have g1:(Tz s.heap ln f).get? s.heap.objs.size=some (E8 ln 0):=AE _ (AE _ (Aa _ rfl));have N3:News h₀ L (Tz s.heap ln f) (((U0 s.heap ln).objs.size,Ez (Rp s.heap ln).objs.size f)::((Rp s.heap ln).objs.size,Pz s.heap.objs.size)::(s.heap.objs.size,E8 ln 0)::news):=
  fc1 ⟨⟨g3,nw _ (by rw [z2];lia)⟩,fc1 ⟨⟨g2,nw _ (by rw [z1];lia)⟩,fc1 ⟨⟨g1,nw _ (Ap _)⟩,fun p hp=>⟨AE _ (AE _ (AE _ (N p hp).1)),(N p hp).2⟩⟩⟩⟩
 have n2:(U0 s.heap ln).objs.size≠s.heap.objs.size:=by rw [z2];exact AN (Nat.lt_add_of_pos_right (by decide))
 have n1:(Rp s.heap ln).objs.size≠s.heap.objs.size:=by rw [z1];exact AN (Al _)
 exact ⟨⟨_,g3,rfl⟩,hret _ _ _ _ F3 N3 n2 n1 fun p hp=>A7 (hlt p hp)⟩
end
noncomputable def Dz (target iter:AW)(ifs:List AW)(emit:Sem Unit)(e:AW)(depth:Nat)(it acc:Value)(env:Env):Sem Fin:=do
 OA iter.pos
 match ←DL it with
 | none=>pure (.done .next)
 | some v=>
  EF target it v
  DM target env v
  let mut ok:=true
  for c in ifs do
   if ok then ok ←isTrue c env (eval c env)
  if ok then emit
  again (.compLoop e depth it acc env)
noncomputable def Mt (elt:AW)(acc:Value)(env:Env):Sem Unit:=do let _ ←call (.builtin "list.append") [acc,←eval elt env]
noncomputable def Mu (k v:AW)(acc:Value)(env:Env):Sem Unit:=do
 let kv ←eval k env
 let vv ←LR [kv] (eval v env)
 match acc with
 | .ref d=>do
  OA { k.pos with endLine:=v.pos.endLine,endCol:=v.pos.endCol }
  LR [kv,vv] (dictSet d kv vv)
 | _=>unsupported "internal:dictcomp"
noncomputable def LM (e iter:AW)(depth:Nat)(acc:Value)(env:Env):Sem Unit:=do
 let x ←eval iter env
 OA iter.pos
 let x ←Ch iter env x
 let _ ←runOwn (.compStart e depth (←LR [x] (CR x)) acc env) env
noncomputable def S6 (target iter:AW)(ifs:List AW)(k l:Sem Fin)(it:Value)(env:Env):Sem Fin:=do
 OA iter.pos
 match ←DL it with
 | none=>pure (.done .next)
 | some v=>
  EF target it v
  DM target env v
  let mut ok:=true
  for c in ifs do
   if ok then ok ←isTrue c env (eval c env)
  if ok then k else l
theorem Ms {e iter:AW}{depth:Nat}{acc:Value}{env:Env}{k:Sem Fin}:(eval iter env >>= fun x=>OA iter.pos >>= fun _=>Ch iter env x >>= fun x=>LR [x] (CR x) >>= fun y=>runOwn (.compStart e depth y acc env) env >>= fun _=>k)=(LM e iter depth acc env >>= fun _=>k):=
 Eq.symm ((Dk (m:=Sem) ..).trans (congrArg _ (funext fun x=>(Dk (m:=Sem) ..).trans (congrArg _ (funext fun _=>(Dk (m:=Sem) ..).trans (congrArg _ (funext fun x=>(Dk (m:=Sem) ..).trans (congrArg _ (funext fun y=>Dk (m:=Sem) ..)))))))))
noncomputable abbrev Ht (ifs:List AW)(env:Env):Sem Bool:=forIn ifs true fun c r=>if r=true then do let ok ←isTrue c env (eval c env);pure (J8 ok) else pure (J8 r)
inductive Hc:AW→Prop
 | list (elt gens scope pos):Hc (.ListComp elt gens scope pos)
 | set (elt gens scope pos):Hc (.SetComp elt gens scope pos)
 | dict (k v gens scope pos):Hc (.DictComp k v gens scope pos)
section
variable {prog:AY}{w:World}{A:AO}{E:Value→A4→Prop}{s:A4}{R:DN→A4→Prop}
theorem Nu {e target iter:AW}{ifs:List AW}{emit:Sem Unit}{depth:Nat}{it acc:Value}{env:Env}(ck:Hc e)(ht:Dt e depth it acc env=Dz target iter ifs emit e depth it acc env)(J:Nat→A4→Prop)
  (turn:∀n s,J n s→wpAny (model prog w) A (DL it) (fun r s₁=>match r with
   | none=>R (.ok .next) s₁
   | some v=>wpAny (model prog w) A (EF target it v) (fun _ s₂=>wpAny (model prog w) A (DM target env v) (fun _ s₃=>wpAny (model prog w) A (Ht ifs env) (fun ok s₄=>
     if ok=true then wpAny (model prog w) A emit (fun _ s₅=>∃m,m<n∧J m s₅) (notedBy (model prog w) A env fun e s'=>R (.error e) s') s₄ else ∃m,m<n∧J m s₄)
     (notedBy (model prog w) A env fun e s'=>R (.error e) s') s₃) (notedBy (model prog w) A env fun e s'=>R (.error e) s') s₂) (notedBy (model prog w) A env fun e s'=>R (.error e) s') s₁) (notedBy (model prog w) A env fun e s'=>R (.error e) s') s)
  (n:Nat) (h:J n s):Bt (model prog w) A (.compLoop e depth it acc env) R s:=by
 have key:∀n s,J n s→wpAny (model prog w) A ((Dt e depth it acc env).onRaise (fun x=>do noteFrame x env;theTreesLotGoes x)) (fun fin s'=>match fin with | .done f=>R (.ok f) s' | .again c'=>c' = .compLoop e depth it acc env∧∃m,m<n∧J m s') (fun e s'=>R (.error e) s') s:=by
  intro n s hI;refine wpAny_noted ?_;rw [ht];unfold Dz;refine A2 (FC (A2 (Ac (turn n s hI) (fun r s₁ h₁=>?_) fun _ _ h'=>h')))
  cases r with
  | none=>exact AC h₁
  | some v=>
   refine A2 (Ac h₁ (fun _ s₂ h₂=>A2 (Ac h₂ (fun _ s₃ h₃=>A2 (Ac h₃ (fun ok s₄ h₄=>?_) fun _ _ h'=>h')) fun _ _ h'=>h')) fun _ _ h'=>h')
   cases ok with
   | false=>exact AC ⟨rfl,h₄⟩
   | true=>exact A2 (Ac h₄ (fun _ s₅ h₅=>AC ⟨rfl,h₅⟩) fun _ _ h'=>h')
 cases ck with
 | list elt gens scope pos=>exact codeAny_loop rfl J (fun n s hI=>key n s hI) n h
 | set elt gens scope pos=>exact codeAny_loop rfl J (fun n s hI=>key n s hI) n h
 | dict k v gens scope pos=>exact codeAny_loop rfl J (fun n s hI=>key n s hI) n h
theorem Gm {e : AW} {g : EL} {depth : Nat} {it acc : Value} {env : Env} (ck : Hc e) (hg : (clausesOf e)[depth]? = some g) (ha : g.is_async = 0)
  (h0 : Bt (model prog w) A (.compLoop e depth it acc env) R s)
  (h : wpAny (model prog w) A (CR it) (fun it' s' => Bt (model prog w) A (.compLoop e depth it' acc env) R s') (notedBy (model prog w) A env fun x s' => R (.error x) s') s) :
  Bt (model prog w) A (.compStart e depth it acc env) R s := by
 have q : ∀ it', (Code.compLoop e depth it' acc env).quiet = true := by intro it'; cases ck <;> rfl
 have key : wpAny (model prog w) A ((compStart e depth it acc env).onRaise (fun x => do noteFrame x env; OA theWindowsPlace)) (fun fin s' => match fin with | .done f => R (.ok f) s' | .again c' => c'.quiet = true ∧ Bt (model prog w) A c' R s') (fun e s' => R (.error e) s') s := by
  refine wpAny_notedAt ?_;unfold compStart;rw [hg];have ha' : (Option.elim (some g) false fun x => x.is_async != 0) = false := by show (g.is_async != 0) = false; rw [ha]; rfl
  rw [ha'];refine A2 (DQ ?_)
  cases hb : (model prog w).w.params.followText "comprehension-iter-twice" with
  | true =>
   rw [if_pos rfl]
   first
    | exact AC ⟨q _, h0⟩
    | exact A2 (AC (AC ⟨q _, h0⟩))
  | false =>
   rw [if_neg (by decide)];refine A2 (GW ?_);dsimp only;refine A2 (FC (A2 (Ac h (fun it' s' h' => AC ⟨q _, h'⟩) fun _ _ x => x)))
 cases ck with
 | list elt gens scope pos => exact Co key
 | set elt gens scope pos => exact Co key
 | dict k v gens scope pos => exact Co key
end
inductive CEi {σ:Type}(h₀:Heap)(L:Addr)(m:Str→Option Value)(C:Addr)(wr:List Addr)(own:List (Addr×Obj))(Led:σ→List (Addr×Obj))(P:Nat→σ→(Str→Option Value)→Prop)(i:Nat)(g:Array IC)(d:Drawn)(os:EA)(s₂:A4):Prop
 | mk (h':Heap) (tk:Nat) (c:σ) (oC:Obj) (m':Str→Option Value) (e:s₂=⟨h',g,d,tk,os⟩) (F:Fr h₀ L h' m) (N:News h₀ L h' ((C,oC)::(Led c++own))) (hn:Bu oC m') (hw:∀p∈Led c,p.1∉C::wr) (hP:P i c m'):CEi h₀ L m C wr own Led P i g d os s₂
inductive CLs {σ:Type}(h₀:Heap)(L:Addr)(m:Str→Option Value)(C:Addr)(wr:List Addr)(Led:σ→List (Addr×Obj))(P:Nat→σ→(Str→Option Value)→Prop)(St:Nat→Heap→Prop)(n:Nat)(s:A4)(k:Nat)(s':A4):Prop
 | mk (h':Heap) (tk:Nat) (c:σ) (oC:Obj) (m':Str→Option Value) (i:Nat) (e:s' = { s with heap:=h',toks:=tk }) (hst:St i h') (F:Fr h₀ L h' m) (N:News h₀ L h' ((C,oC)::Led c)) (hn:Bu oC m') (hw:∀p∈Led c,p.1∉C::wr) (hP:P i c m') (hi:i≤n) (hk:k=n+1-i):CLs h₀ L m C wr Led P St n s k s'
def HF {σ:Type}(h₀:Heap)(L:Addr)(m:Str→Option Value)(C:Addr)(wr:List Addr)(own:List (Addr×Obj))(Led:σ→List (Addr×Obj))(P:Nat→σ→(Str→Option Value)→Prop)(i:Nat)(s₁ s₂:A4):Prop:=
 CEi h₀ L m C wr own Led P i s₁.gens s₁.drawn s₁.os s₂
theorem HY {σ:Type}{h₀:Heap}{L:Addr}{m:Str→Option Value}{C:Addr}{wr:List Addr}{own news:List (Addr×Obj)}{Led:σ→List (Addr×Obj)}{P:Nat→σ→(Str→Option Value)→Prop}{i:Nat}{s₁:A4}{h':Heap}{tk:Nat}{oC:Obj}{m':Str→Option Value}
  (c:σ) (F:Fr h₀ L h' m) (N:News h₀ L h' news) (hC:(C,oC)∈news) (hn:Bu oC m') (h1:∀p∈Led c,p∈news) (h2:∀p∈own,p∈news) (h3:∀p∈Led c,p.1∉C::wr) (hP:P i c m'):HF h₀ L m C wr own Led P i s₁ { s₁ with heap:=h',toks:=tk }:=
 ⟨h',tk,c,oC,m',rfl,F,Bo N (A6 (hC) (fun p hp=>by
  refine AF hp (fun hp=>?_) fun hp=>?_
  ·exact h1 p hp
  exact h2 p hp)),hn,h3,hP⟩
section
variable {prog:AY}{w:World}{A:AO}{E:Value→A4→Prop}{s:A4}{R:DN→A4→Prop}{h₀:Heap}{L C:Addr}{m:Str→Option Value}
theorem W0 {σ:Type}{e iter t:AW}{ifs:List AW}{emit:Sem Unit}{depth:Nat}{acc:Value}{env:Env}{I:Addr}{fp wr:List Addr}{n:Nat}{Pv:Nat→Value→Prop}{St:Nat→Heap→Prop}
  (ck:Hc e) (ht:Dt e depth (.ref I) acc env=Dz t iter ifs emit e depth (.ref I) acc env)
  (W:Walks prog w A I fp wr n Pv St) (hlive:∀i h,St i h→∀b∈wr,∃o,h.get? b=some o) (hEC:env.locals=C)
  (hgo:∀i v (s':A4) (Q':Unit→A4→Prop) (E':Value→A4→Prop),Pv i v→St (i+1) s'.heap→Q' () s'→wpAny (model prog w) A (EF t (.ref I) v) Q' E' s')
  (hCL:C≠L) (hC₀:h₀.get? C=none) (hLf:L∉fp) (hCf:C∉fp) (hwr:∀b∈wr,h₀.get? b=none)
  (Led:σ→List (Addr×Obj)) (P:Nat→σ→(Str→Option Value)→Prop) (c₀:σ) {oC₀:Obj} {m₀:Str→Option Value}
  (hst:St 0 s.heap) (F:Fr h₀ L s.heap m) (N:News h₀ L s.heap ((C,oC₀)::Led c₀)) (hn:Bu oC₀ m₀) (hnw:∀p∈Led c₀,p.1∉C::wr) (hP:P 0 c₀ m₀)
  (turn:∀i v c oC m₁ h tk own E',i<n→Pv i v→P i c m₁→(∀p∈Led c,p.1∉C::wr)→(∀b∈wr,∃o,(b,o)∈own)→(∀p∈own,p.1∈fp)→Bu oC m₁→Fr h₀ L h m→News h₀ L h ((C,oC)::(Led c++own))→
   wpAny (model prog w) A (DM t env v) (fun _ s₂=>wpAny (model prog w) A (Ht ifs env) (fun ok s₃=>if ok=true then wpAny (model prog w) A emit (fun _ s₄=>HF h₀ L m C wr own Led P (i+1) { s with heap:=h,toks:=tk } s₄) E' s₃ else HF h₀ L m C wr own Led P (i+1) { s with heap:=h,toks:=tk } s₃) E' s₂) E' { s with heap:=h,toks:=tk })
  (done:∀c oC m' h tk,P n c m'→Fr h₀ L h m→News h₀ L h ((C,oC)::Led c)→Bu oC m'→(∀p∈Led c,p.1∉C::wr)→R (.ok .next) { s with heap:=h,toks:=tk }) :
  Bt (model prog w) A (.compLoop e depth (.ref I) acc env) R s:=by
 have hLw:L∉wr:=fun h=>hLf (W.sub _ h);have hCw:C∉wr:=fun h=>hCf (W.sub _ h);have old:∀b o,h₀.get? b=some o→b∉wr:=fun b o e hb=>by rw [hwr b hb] at e;cases e
 refine Nu ck ht
  (CLs h₀ L m C wr Led P St n s) ?_ (n+1)
  ⟨s.heap,s.toks,c₀,oC₀,m₀,0,rfl,hst,F,N,hn,hnw,hP,B0 _,rfl⟩
 clear hst F N hn hnw hP;rintro k s' ⟨h',tk,c,oC,m',i,rfl,hst',F',N',hn',hnw',hP',hi,rfl⟩;have hoffw:∀p∈(C,oC)::Led c,p.1∉wr:=by
  intro p hp;refine AQ hp ?_ fun hp=>?_
  ·exact hCw
  exact fun h=>hnw' p hp (.tail _ h)
 have next:∀h₁:Heap,(∀b o,b∉wr→h'.get? b=some o→h₁.get? b=some o)→Fr h₀ L h₁ m∧News h₀ L h₁ ((C,oC)::Led c):=fun h₁ hk₁=>
  ⟨⟨F'.ns.at' fun o e=>hk₁ _ o hLw e,fun b o e=>hk₁ b o (old b o e) (F'.keep b o e),F'.above⟩,fun p hp=>⟨hk₁ _ _ (hoffw p hp) (N' p hp).1,(N' p hp).2⟩⟩
 by_cases hlt:i<n
 ·refine W.item i _ _ _ hlt hst' fun v h₁ tk₁ hPv hst₁ hk₁=>?_;refine CL (next h₁ hk₁) ?_;intro F₁ N₁;clear next hoffw F' N' hk₁ hst';refine hgo i v _ _ _ hPv hst₁ ?_;have Nown:News h₀ L h₁ (ownOf h₀ fp h₁):=news_ownOf hLf;have N₂:News h₀ L h₁ ((C,oC)::(Led c++ownOf h₀ fp h₁)):=by
   intro p hp;refine AQ hp ?_ fun hp=>?_
   ·exact N₁ _ (.head _)
   refine AF hp (fun hp=>?_) fun hp=>?_
   ·exact N₁ p (.tail _ hp)
   exact Nown p hp
  have hown:∀b∈wr,∃o,(b,o)∈ownOf h₀ fp h₁:=fun b hb=>by
   refine Bp (hlive _ _ hst₁ b hb) ?_;intro o ho;exact ⟨o,mem_ownOf (W.sub b hb) (hwr b hb) ho⟩
  have key:∀s₄,HF h₀ L m C wr (ownOf h₀ fp h₁) Led P (i+1) { s with heap:=h₁,toks:=tk₁ } s₄→∃mm,mm<n+1-i∧CLs h₀ L m C wr Led P St n s mm s₄:=by
   rintro s₄ ⟨h₄,tk₄,c₄,oC₄,m₄,e₄,F₄,N₄,hn₄,hnw₄,hP₄⟩;refine ⟨n+1-(i+1),Nat.sub_lt_sub_left (FF hi) (Al i),h₄,tk₄,c₄,oC₄,m₄,i+1,e₄,?_,F₄,Bo N₄ (fun p hp=>?_),hn₄,hnw₄,hP₄,hlt,rfl⟩
   ·refine W.frame _ _ _ hst₁ fun b hb o e=>?_
    cases hn:h₀.get? b with
    | some o₀=>
     have q:=F₁.keep b o₀ hn;rw [e] at q;rw [q];exact F₄.keep b o₀ hn
    | none=>exact (N₄ _ (.tail _ (maR _ (mem_ownOf hb hn e)))).1
   refine AH hp ?_ fun hp=>?_
   ·exact .head _
   exact .tail _ (maL _ hp)
  refine Ac (turn i v c oC m' h₁ _ (ownOf h₀ fp h₁) _ hlt hPv hP' hnw' hown ownOf_sub hn' F₁ N₂) (fun _ s₂ h₂=>Ac h₂ (fun ok s₃ h₃=>?_) fun _ _ e=>e) fun _ _ e=>e
  cases ok with
  | false=>
   simp only [MQ,if_false] at h₃ ⊢;exact key _ h₃
  | true=>
   simp only [if_true] at h₃ ⊢;exact Ac h₃ (fun _ s₄ h₄=>key _ h₄) fun _ _ e=>e
 have hin:i=n:=Cd hi (Fm hlt);subst hin;refine W.done _ _ _ hst' fun h₁ tk₁ hk₁=>?_;exact done c oC m' h₁ tk₁ hP' (next h₁ hk₁).1 (next h₁ hk₁).2 hn' hnw'
theorem Pb {σ : Type} {e iter : AW} {x : Str} {px : Pos} {ifs : List AW} {emit : Sem Unit} {depth : Nat} {acc : Value} {env : Env} {I : Addr} {fp wr : List Addr} {n : Nat} {Pv : Nat → Value → Prop} {St : Nat → Heap → Prop}
  (ck : Hc e) (ht : Dt e depth (.ref I) acc env = Dz (.Name x px) iter ifs emit e depth (.ref I) acc env)
  (W : Walks prog w A I fp wr n Pv St) (hlive : ∀ i h, St i h → ∀ b ∈ wr, ∃ o, h.get? b = some o) (hEC : env.locals = C) (hx : env.kindOf x = some .local) (hp : (env.scope.kind == .class || (env.scope.kind == .module && env.locals != env.globals)) = false)
  (hCL : C ≠ L) (hC₀ : h₀.get? C = none) (hLf : L ∉ fp) (hCf : C ∉ fp) (hwr : ∀ b ∈ wr, h₀.get? b = none)
  (Led : σ → List (Addr × Obj)) (P : Nat → σ → (Str → Option Value) → Prop) (c₀ : σ) {oC₀ : Obj} {m₀ : Str → Option Value}
  (hst : St 0 s.heap) (F : Fr h₀ L s.heap m) (N : News h₀ L s.heap ((C, oC₀) :: Led c₀)) (hn : Bu oC₀ m₀) (hnw : ∀ p ∈ Led c₀, p.1 ∉ C :: wr) (hP : P 0 c₀ m₀)
  (turn : ∀ i v c oC m₁ h tk own E', i < n → Pv i v → P i c m₁ → (∀ p ∈ Led c, p.1 ∉ C :: wr) → (∀ b ∈ wr, ∃ o, (b, o) ∈ own) → (∀ p ∈ own, p.1 ∈ fp) → Bu oC (fun y => if y = x then some v else m₁ y) → Fr h₀ L h m → News h₀ L h ((C, oC) :: (Led c ++ own)) →
   wpAny (model prog w) A (Ht ifs env) (fun ok s₃ => if ok = true then wpAny (model prog w) A emit (fun _ s₄ => HF h₀ L m C wr own Led P (i + 1) { s with heap := h, toks := tk } s₄) E' s₃ else HF h₀ L m C wr own Led P (i + 1) { s with heap := h, toks := tk } s₃) E' { s with heap := h, toks := tk })
  (done : ∀ c oC m' h tk, P n c m' → Fr h₀ L h m → News h₀ L h ((C, oC) :: Led c) → Bu oC m' → (∀ p ∈ Led c, p.1 ∉ C :: wr) → R (.ok .next) { s with heap := h, toks := tk }) :
  Bt (model prog w) A (.compLoop e depth (.ref I) acc env) R s := by
 refine W0 ck ht W hlive hEC (fun i v s' Q' E' _ _ hQ => AC hQ) hCL hC₀ hLf hCf hwr Led P c₀ hst F N hn hnw hP (fun i v c oC m₁ h tk own E' hi hv hP' hnw' hown hsub hn' F' N' => ?_) done;refine Ba (EP hx (hEC ▸ hn'.ns (N' _ (.head _)).1) (fun h₂ hn₂ hs₂ => ?_) hp);rw [hEC] at hn₂ hs₂;refine Aq (LCg.ns_obj hn₂) ?_; intro oC₂ hoC₂ hnC₂;refine turn i v c oC₂ m₁ h₂ (tk + 1) own E' hi hv hP' hnw' hown hsub hnC₂ (F'.change hs₂ hCL hC₀) fun p hp => ?_;refine AQ hp ⟨hoC₂, hCL, hC₀⟩ fun hp => ?_;have q := N' p (.tail _ hp);refine ⟨(hs₂.2 _ fun e => ?_).trans q.1, q.2⟩;exact AF hp (fun hp => hnw' p hp (e ▸ .head _)) fun hp => hCf (e ▸ hsub p hp)
end
def CGo (prog:AY)(w:World)(A:AO)(E:Value→A4→Prop)(h₀:Heap)(L:Addr)(m:Str→Option Value)(env:Env)(e:AW)(scope:Scope)(cl:List (Str×Addr))(mk:Obj→Prop)(RR:Value→Addr→DN→A4→Prop)(it:Value)(s₂:A4):Prop:=
 ∃I fp wr n Pv St news,it = .ref I∧Walks prog w A I fp wr n Pv St∧St 0 s₂.heap∧(∀b∈fp,b<s₂.heap.objs.size)∧Fr h₀ L s₂.heap m∧News h₀ L s₂.heap news∧
  ∀C D oC oD h tk,mk oD→(∀p∈news,p.1≠C∧p.1≠D)→C∉fp→D∉fp→D≠C→C≠L→L<D→h₀.get? C=none→h₀.get? D=none→St 0 h→Fr h₀ L h m→News h₀ L h ((C,oC)::(D,oD)::news)→Bu oC (fun _=>none)→
   Bt (model prog w) A (.compLoop e 0 (.ref I) (.ref D) (CM scope cl C env)) (RR (.ref D) C) { s₂ with heap:=h,toks:=tk }
section
variable {prog:AY}{w:World}{A:AO}{E:Value→A4→Prop}{s:A4}{h₀:Heap}{L:Addr}{m:Str→Option Value}{env:Env}
theorem KP {e:AW}{g:EL}{gs:List EL}{scope:Scope}{cl:List (Str×Addr)}{mk:Obj→Prop}{newAcc:Sem Value}{RR:Value→Addr→DN→A4→Prop}{it:Value}(ck:Hc e)(hcl:clausesOf e=g::gs)(ha:g.is_async=0)
  (hacc:∀(s:A4) (Q:Value→A4→Prop),(∀o,mk o→o.isFreed=false→Q (.ref s.heap.objs.size) { s with heap:=s.heap.push o })→wpAny (model prog w) A newAcc Q E s)
  (hcell:∀y∈scope.names,y.2≠.cell) (hkind:scope.kind = .function) (h:CGo prog w A E h₀ L m env e scope cl mk RR it s) :
  wpAny (model prog w) A newAcc (fun acc s₃=>wpAny (model prog w) A (newFunctionEnv scope env.globals cl [] env.qual none .none (some env)) (fun cenv s₄=>
   Bt (model prog w) A (.compStart e 0 it acc { cenv with scope:=relabel scope env }) (RR acc cenv.locals) s₄) E s₃) E s:=by
 refine Vm (h) ?_;(try clear h);intro I fp wr n Pv St news e97 W hst hfp F N go;subst e97;refine hacc s _ fun o ho hof=>?_;refine wpAny_newFunctionEnv hcell (by intro y hy;simp at hy) (fun h₁ hns₁ hsb₁=>?_) hkind;dsimp only at hns₁ hsb₁ ⊢;generalize hH2:s.heap.push o=H2 at hns₁ hsb₁ ⊢;have hC:H2.objs.size=s.heap.objs.size+1:=by rw [←hH2,Bq]
 have hDC:s.heap.objs.size≠H2.objs.size:=by rw [hC];exact A7 (Al _)
 have below:∀b,b<s.heap.objs.size→b≠H2.objs.size∧b≠s.heap.objs.size:=fun b hb=>⟨by rw [hC];exact A7 (AU hb),A7 hb⟩;have hDf:s.heap.objs.size∉fp:=fun hm=>Av _ (hfp _ hm);have hCf:H2.objs.size∉fp:=fun hm=>by have:=hfp _ hm;rw [hC] at this;exact Av _ (Nat.lt_of_succ_lt this)
 have old:∀b o',s.heap.get? b=some o'→h₁.get? b=some o':=fun b o' e=>hsb₁.extBut b o' (below b (AZ e)).1 (AE _ (hH2▸AE _ e));have haccAt:h₁.get? s.heap.objs.size=some o:=hsb₁.extBut _ _ hDC (AE _ (hH2▸Aa _ hof));have hst₁:St 0 h₁:=W.frame _ _ _ hst fun b _ o e=>old b o e;have fresh₀:∀a,s.heap.objs.size≤a→h₀.get? a=none:=fun a ha=>by
  cases e:h₀.get? a with
  | none=>rfl
  | some o'=>exact absurd (AZ (F.keep a o' e)) (Nat.not_lt.mpr ha)
 have hLlt:L<s.heap.objs.size:=F.ns.lt;have hDL:s.heap.objs.size≠L:=Ne.symm (below L hLlt).2;have hCL:H2.objs.size≠L:=Ne.symm (below L hLlt).1;have hC₀:h₀.get? H2.objs.size=none:=fresh₀ _ (by rw [hC];exact Dh _);have hD₀:h₀.get? s.heap.objs.size=none:=fresh₀ _ (Ap _);refine Aq (LCg.ns_obj hns₁) ?_;intro oC hoC hnC;have N₁:News h₀ L h₁ ((H2.objs.size,oC)::(s.heap.objs.size,o)::news):=by
  intro p hp;refine AQ hp ?_ fun hp=>?_
  ·exact ⟨hoC,hCL,hC₀⟩
  refine AQ hp ?_ fun hp=>?_
  ·exact ⟨haccAt,hDL,hD₀⟩
  exact ⟨old _ _ (N p hp).1,(N p hp).2⟩
 have loop:=go H2.objs.size s.heap.objs.size oC o h₁ (s.toks+([]:List (Str×Value)).length) ho (fun p hp=>below _ (AZ (N p hp).1)) hCf hDf hDC hCL hLlt hC₀ hD₀ hst₁ (F.keeps old) N₁ hnC;exact Gm (g:=g) ck (by rw [hcl];rfl) ha loop (W.self 0 _ _ _ hst₁ loop)
theorem Ji (s:A4)(Q:Value→A4→Prop)(h:∀o,o=A1 #[] 0→o.isFreed=false→Q (.ref s.heap.objs.size) { s with heap:=s.heap.push o }):wpAny (model prog w) A (newList []) Q E s:=
 Db (h _ rfl rfl)
theorem PY {elt target iter:AW}{ifs:List AW}{rest:List EL}{scope:Scope}{cl:List (Str×Addr)}{pos:Pos}{Q:Value→A4→Prop}
  (hclos:closureFor scope env=pure cl) (hcell:∀y∈scope.names,y.2≠.cell) (hkind:scope.kind = .function) (hnames:∀y∈scope.names,y.2 = .local→scope.names.lookup y.1=some .local)
  (h:wpAny (model prog w) A (eval iter env) (fun xv s₁=>wpAny (model prog w) A (CR xv) (CGo prog w A E h₀ L m env (.ListComp elt (⟨target,iter,ifs,0⟩::rest) scope pos) scope cl (fun o=>o=A1 #[] 0) (fun acc C=>Ec (model prog w) A E none Q acc C)) E s₁) E s)
  (hs:∀x,Ch iter env x=pure x:=by intro _;rfl) :
  wpAny (model prog w) A (eval (.ListComp elt (⟨target,iter,ifs,0⟩::rest) scope pos) env) Q E s:=by
 rw [eval_ListComp];refine JS (use:=none) rfl hs hclos hkind hnames (Ac h (fun xv s₁ h₁=>Ac h₁ (fun it s₂ h₂=>?_) fun _ _ e=>e) fun _ _ e=>e);exact KP (.list _ _ _ _) rfl rfl Ji hcell hkind h₂
theorem NR (s:A4)(Q:Value→A4→Prop)(h:∀o,o=Fk [] 0→o.isFreed=false→Q (.ref s.heap.objs.size) { s with heap:=s.heap.push o }):wpAny (model prog w) A (newDict) Q E s:=
 Db (h _ rfl rfl)
theorem PZ {k v target iter:AW}{ifs:List AW}{rest:List EL}{scope:Scope}{cl:List (Str×Addr)}{pos:Pos}{Q:Value→A4→Prop}
  (hclos:closureFor scope env=pure cl) (hcell:∀y∈scope.names,y.2≠.cell) (hkind:scope.kind = .function) (hnames:∀y∈scope.names,y.2 = .local→scope.names.lookup y.1=some .local)
  (h:wpAny (model prog w) A (eval iter env) (fun xv s₁=>wpAny (model prog w) A (CR xv) (CGo prog w A E h₀ L m env (.DictComp k v (⟨target,iter,ifs,0⟩::rest) scope pos) scope cl (fun o=>o=Fk [] 0) (fun acc C=>Ec (model prog w) A E none Q acc C)) E s₁) E s)
  (hs:∀x,Ch iter env x=pure x:=by intro _;rfl) :
  wpAny (model prog w) A (eval (.DictComp k v (⟨target,iter,ifs,0⟩::rest) scope pos) env) Q E s:=by
 rw [show eval (.DictComp k v (⟨target,iter,ifs,0⟩::rest) scope pos) env=comprehension (.DictComp k v (⟨target,iter,ifs,0⟩::rest) scope pos) scope env (firstIterPos (⟨target,iter,ifs,0⟩::rest) pos) newDict (firstAsync (⟨target,iter,ifs,0⟩::rest)) (firstIter (⟨target,iter,ifs,0⟩::rest) env) from rfl];refine JS (use:=none) rfl hs hclos hkind hnames (Ac h (fun xv s₁ h₁=>Ac h₁ (fun it s₂ h₂=>?_) fun _ _ e=>e) fun _ _ e=>e);exact KP (.dict _ _ _ _ _) rfl rfl NR hcell hkind h₂
theorem HD {elt target iter:AW}{y:Str}{py:Pos}{ifs:List AW}{rest:List EL}{scope:Scope}{cl:List (Str×Addr)}{pos spos:Pos}{Q:Flow→A4→Prop}
  (hsw:swapsWith (.ListComp elt (⟨target,iter,ifs,0⟩::rest) scope pos) (some (.Name y py)) spos.line env=pure true)
  (hclos:closureFor scope env=pure cl) (hcell:∀y∈scope.names,y.2≠.cell) (hkind:scope.kind = .function) (hnames:∀y∈scope.names,y.2 = .local→scope.names.lookup y.1=some .local)
  (h:wpAny (model prog w) A (eval iter env) (fun xv s₁=>wpAny (model prog w) A (CR xv) (CGo prog w A E h₀ L m env (.ListComp elt (⟨target,iter,ifs,0⟩::rest) scope pos) scope cl (fun o=>o=A1 #[] 0) (fun acc C=>Ec (model prog w) A E (some (DM (.Name y py) env)) (fun _ s'=>Q .next s') acc C)) E s₁) E s)
  (hs:∀x,Ch iter env x=pure x:=by intro _;rfl) :
  wpAny (model prog w) A (exec (.Assign [.Name y py] (.ListComp elt (⟨target,iter,ifs,0⟩::rest) scope pos) spos) env) Q E s:=by
 rw [exec_Assign_Name_used _ _ _ _ hsw];refine A2 (FC (A2 ?_));show wpAny _ A (do let _ ←comprehension (.ListComp elt (⟨target,iter,ifs,0⟩::rest) scope pos) scope env _ (newList []) false (eval iter env) (some (DM (.Name y py) env))) _ _ s;refine A2 (Ac (JS (use:=some (DM (.Name y py) env)) (Q:=fun _ s'=>Q .next s') rfl hs hclos hkind hnames
  (Ac h (fun xv s₁ h₁=>Ac h₁ (fun it s₂ h₂=>?_) fun _ _ e=>e) fun _ _ e=>e)) (fun _ s' hq=>AC (AC hq)) fun _ _ e=>e)
 exact KP (.list _ _ _ _) rfl rfl Ji hcell hkind h₂
theorem Gz {C:Addr}{acc:Value}{oC:Obj}{m':Str→Option Value}{news:List (Addr×Obj)}{Q:Value→A4→Prop}{f:Flow}{hh:Heap}(F:Fr h₀ L hh m)(N:News h₀ L hh ((C,oC)::news))(hn:Bu oC m')(hoff:∀p∈news,p.1≠C)(h:∀h',Fr h₀ L h' m→News h₀ L h' news→Q acc { s with heap:=h' })(es:s.heap=hh:=by rfl) :
  Ec (model prog w) A E none Q acc C (.ok f) s:=by
 subst es;exact ⟨m',hn.ns (N _ (.head _)).1,fun h' hs=>h h' (F.change hs (N _ (.head _)).2.1 (N _ (.head _)).2.2) fun p hp=>⟨(hs.2 _ (hoff p hp)).trans (N p (.tail _ hp)).1,(N p (.tail _ hp)).2⟩⟩
theorem Fc {C : Addr} {y : Str} {py : Pos} {acc : Value} {oC : Obj} {m' : Str → Option Value} {news : List (Addr × Obj)} {Q : A4 → Prop} {f : Flow} (hLe : env.locals = L) (hy : env.kindOf y = some .local) (hp : (env.scope.kind == .class || (env.scope.kind == .module && env.locals != env.globals)) = false)
  {hh : Heap} (F : Fr h₀ L hh m) (N : News h₀ L hh ((C, oC) :: news)) (hn : Bu oC m') (hoff : ∀ p ∈ news, p.1 ≠ C) (h : ∀ h' tk', Fr h₀ L h' (fun z => if z = y then some acc else m z) → News h₀ L h' news → Q { s with heap := h', toks := tk' }) (es : s.heap = hh := by rfl) :
  Ec (model prog w) A E (some (DM (.Name y py) env)) (fun _ s' => Q s') acc C (.ok f) s := by
 subst hLe es;show wpAny _ A (DM (.Name y py) env acc) _ _ _;refine Ba (EP hy F.ns (fun h₂ hn₂ hs₂ => ?_) hp);have hL₀ : h₀.get? env.locals = none := Cz F.above;have F₂ : Fr h₀ env.locals h₂ (fun z => if z = y then some acc else m z) := ⟨hn₂, fun b o e => hs₂.extBut b o (fun q => by rw [q, hL₀] at e; cases e) (F.keep b o e), F.above⟩;have hCL := (N _ (.head _)).2.1;refine ⟨m', (hn.ns (N _ (.head _)).1).sameBut hs₂ hCL, fun h'' hs'' => h h'' _ (F₂.change hs'' hCL (N _ (.head _)).2.2) fun p hp => ⟨(hs''.2 _ (hoff p hp)).trans ((hs₂.2 _ (N p (.tail _ hp)).2.1).trans (N p (.tail _ hp)).1), (N p (.tail _ hp)).2⟩⟩
end
def U2 (prog:AY)(w:World)(A:AO)(v:Value)(s:A4)(n:Nat)(Pv:Nat→Value→Prop)(fpx:List Addr):Prop:=
 ∃(o:Obj) (St:Nat→Heap→Prop),(∀(Q:Value→A4→Prop) (E:Value→A4→Prop),Q (.ref s.heap.objs.size) { s with heap:=s.heap.push o }→wpAny (model prog w) A (CR v) Q E s)∧
  Walks prog w A s.heap.objs.size (s.heap.objs.size::fpx) [s.heap.objs.size] n Pv St∧St 0 (s.heap.push o)∧(∀i h,St i h→∃o,h.get? s.heap.objs.size=some o)∧(∀b∈fpx,b<s.heap.objs.size)
section
variable {prog:AY}{w:World}{A:AO}{E:Value→A4→Prop}{s:A4}{h₀:Heap}{L:Addr}{m:Str→Option Value}{env:Env}
theorem Jx {l:Addr}{items:Array Value}(hh:A.handled=none)(hl:s.heap.IsList l items):U2 prog w A (.ref l) s items.size (fun i v=>items[i]? = some v) [l]:=by
 refine Aq (id hl) ?_;intro ol hol hol2;have hlt:=AZ hol;exact ⟨_,_,fun Q E hq=>DB hl hq,LU hh s.heap.objs.size l (A7 hlt) items,⟨⟨_,Aa _ rfl,rfl,rfl⟩,hl.at fun o e=>AE _ e⟩,
  fun i h st=>by obtain ⟨⟨o,ho,_⟩,_⟩:=st;exact ⟨o,ho⟩,fun b hb=>by rw [ms1 hb];exact hlt⟩
theorem IR {r:Addr}{a b c:Int}{t u v:Tok}{n:Nat}(hh:A.handled=none)(hr:OE s.heap r a b c t u v)(hsmall:Pu a b c=true)(hn:Ke a b c=(n:Int)) :
  U2 prog w A (.ref r) s n (fun i v=>i<n∧∃t,v = .int (a+i*c) t) []:=
 ⟨_,_,fun Q E hq=>RQ hr hsmall hq,(Walks.range hh s.heap.objs.size a c n).bound,by
  show IsRangeIter _ _ _ _ _;rw [hn];simpa using Aa _ rfl,fun i h st=>⟨_,st⟩,fun b hb=>nomatch hb⟩
theorem KR {σ:Type}{e iter:AW}{x:Str}{px:Pos}{ifs:List AW}{emit:Addr→Addr→Sem Unit}{scope:Scope}{cl:List (Str×Addr)}{mk:Obj→Prop}{RR:Value→Addr→DN→A4→Prop}{v:Value}{n:Nat}{Pv:Nat→Value→Prop}{fpx:List Addr}{news:List (Addr×Obj)}
  (ck:Hc e) (ht:∀I D C,Dt e 0 (.ref I) (.ref D) (CM scope cl C env)=Dz (.Name x px) iter ifs (emit D C) e 0 (.ref I) (.ref D) (CM scope cl C env)) (hkind:scope.kind = .function) (hx:scope.names.lookup x=some .local)
  (S:U2 prog w A v s n Pv fpx) (F:Fr h₀ L s.heap m) (N:News h₀ L s.heap news) (hLf:L∉fpx)
  (Led:Addr→σ→List (Addr×Obj)) (P:Addr→Nat→σ→(Str→Option Value)→Prop) (c₀:Addr→Obj→σ) (hLed:∀D oD,mk oD→Led D (c₀ D oD)=(D,oD)::news) (hP:∀D oD,mk oD→P D 0 (c₀ D oD) (fun _=>none))
  (turn:∀C D I i v c oC m₁ h tk own E',D≠C→I≠C→I≠D→(∀p∈news,p.1≠C∧p.1≠D∧p.1≠I)→i<n→Pv i v→P D i c m₁→(∀p∈Led D c,p.1∉[C,I])→(∃o,(I,o)∈own)→(∀p∈own,p.1=I∨p.1∈fpx)→Bu oC (fun y=>if y=x then some v else m₁ y)→Fr h₀ L h m→News h₀ L h ((C,oC)::(Led D c++own))→
   wpAny (model prog w) A (Ht ifs (CM scope cl C env)) (fun ok s₃=>if ok=true then wpAny (model prog w) A (emit D C) (fun _ s₄=>HF h₀ L m C [I] own (Led D) (P D) (i+1) { s with heap:=h,toks:=tk } s₄) E' s₃ else HF h₀ L m C [I] own (Led D) (P D) (i+1) { s with heap:=h,toks:=tk } s₃) E' { s with heap:=h,toks:=tk })
  (done:∀C D c oC m' h tk,L<D→D≠C→(∀p∈news,p.1≠C∧p.1≠D)→P D n c m'→Fr h₀ L h m→News h₀ L h ((C,oC)::Led D c)→Bu oC m'→(∀p∈Led D c,p.1≠C)→RR (.ref D) C (.ok .next) { s with heap:=h,toks:=tk }) :
  wpAny (model prog w) A (CR v) (CGo prog w A E h₀ L m env e scope cl mk RR) E s:=by
 refine R6 (S) ?_;(try clear S);intro o St hit W hst hlive hfpx;have hLlt:L<s.heap.objs.size:=F.ns.lt;refine hit _ _ ⟨s.heap.objs.size,s.heap.objs.size::fpx,[s.heap.objs.size],n,Pv,St,news,rfl,W,hst,?_,F.push o,fun p hp=>⟨AE _ (N p hp).1,(N p hp).2⟩,?_⟩
 ·intro b hb;show b<(s.heap.push o).objs.size;rw [Bq];refine AQ hb ?_ fun hb=>?_
  ·exact Al _
  exact AU (hfpx b hb)
 intro C D oC oD h tk ho hoff hCf hDf hDC hCL hDL hC₀ hD₀ hst' F' N' hnC;have hCI:s.heap.objs.size≠C:=fun q=>hCf (q▸.head _);have hDI:s.heap.objs.size≠D:=fun q=>hDf (q▸.head _);have hnI:∀p∈news,p.1≠s.heap.objs.size:=fun p hp=>A7 (AZ (N p hp).1);refine Pb ck (ht _ _ _) W (fun i h st b hb=>by rw [ms1 hb];exact hlive i h st) rfl (lookup_relabel_local hx) (by simp [CM,relabel,hkind]) hCL hC₀ (fun hm=>?_) hCf ?_ (Led D) (P D) (c₀ D oD) hst' F' (by rw [hLed D oD ho];exact N') hnC ?_ (hP D oD ho) ?_ ?_
 ·rcases mc1 hm with q | hm
  ·exact A7 hLlt q
  exact hLf hm
 ·intro b hb;rw [ms1 hb];exact GZ F
 ·intro p hp hm;rw [hLed D oD ho] at hp
  first | refine AH hp ?_ fun hp=>?_ | rcases mc1 hp with rfl | hp
  ·rcases mc1 hm with q | hm
   ·exact hDC q
   exact hDI (ms1 hm).symm
  rcases mc1 hm with q | hm
  ·exact (hoff p hp).1 q
  exact hnI p hp (ms1 hm)
 ·intro i v c oC₁ m₁ h₁ tk₁ own E' hi hPv hPc hnw hown hof hn F₁ N₁;exact turn C D _ i v c oC₁ m₁ h₁ tk₁ own E' hDC hCI hDI (fun p hp=>⟨(hoff p hp).1,(hoff p hp).2,hnI p hp⟩) hi hPv hPc hnw (hown _ (.head _)) (fun p hp=>mc1 (hof p hp)) hn F₁ N₁
 intro c oC₁ m₁ h₁ tk₁ hPc F₁ N₁ hn hnw;exact done C D c oC₁ m₁ h₁ tk₁ hDL hDC hoff hPc F₁ N₁ hn fun p hp q=>hnw p hp (q▸.head _)
theorem KS {σ:Type}{e iter:AW}{x:Str}{px:Pos}{ifs:List AW}{emit:Addr→Addr→Sem Unit}{scope:Scope}{cl:List (Str×Addr)}{mk:Obj→Prop}{RR:Value→Addr→DN→A4→Prop}{v:Value}{n:Nat}{Pv:Nat→Value→Prop}{fpx:List Addr}{news:List (Addr×Obj)}
  (ck:Hc e) (ht:∀I D C,Dt e 0 (.ref I) (.ref D) (CM scope cl C env)=Dz (.Name x px) iter ifs (emit D C) e 0 (.ref I) (.ref D) (CM scope cl C env)) (hkind:scope.kind = .function) (hx:scope.names.lookup x=some .local)
  (S:U2 prog w A v s n Pv fpx) (F:Fr h₀ L s.heap m) (N:News h₀ L s.heap news) (hLf:L∉fpx)
  (Led:Addr→σ→List (Addr×Obj)) (P:Addr→Nat→σ→(Str→Option Value)→Prop) (c₀:Addr→Obj→σ) (hLed:∀D oD,mk oD→Led D (c₀ D oD)=(D,oD)::news) (hP:∀D oD,mk oD→P D 0 (c₀ D oD) (fun _=>none))
  (turn:∀C D I i v c oC m₁ h tk own E',D≠C→I≠C→I≠D→(∀p∈news,p.1≠C∧p.1≠D∧p.1≠I)→i<n→Pv i v→P D i c m₁→(∀p∈Led D c,p.1∉[C,I])→(∃o,(I,o)∈own)→(∀p∈own,p.1=I∨p.1∈fpx)→Bu oC (fun y=>if y=x then some v else m₁ y)→Fr h₀ L h m→News h₀ L h ((C,oC)::(Led D c++own))→
   wpAny (model prog w) A (Ht ifs (CM scope cl C env)) (fun ok s₃=>if ok=true then wpAny (model prog w) A (emit D C) (fun _ s₄=>HF h₀ L m C [I] own (Led D) (P D) (i+1) { s with heap:=h,toks:=tk } s₄) E' s₃ else HF h₀ L m C [I] own (Led D) (P D) (i+1) { s with heap:=h,toks:=tk } s₃) E' { s with heap:=h,toks:=tk })
  (done:∀C D c oC m' h tk,D≠C→(∀p∈news,p.1≠C∧p.1≠D)→P D n c m'→Fr h₀ L h m→News h₀ L h ((C,oC)::Led D c)→Bu oC m'→(∀p∈Led D c,p.1≠C)→RR (.ref D) C (.ok .next) { s with heap:=h,toks:=tk }) :
  wpAny (model prog w) A (CR v) (CGo prog w A E h₀ L m env e scope cl mk RR) E s:=
 KR ck ht hkind hx S F N hLf Led P c₀ hLed hP turn fun C D c oC m' h tk _=>done C D c oC m' h tk
theorem KE {e iter:AW}{depth:Nat}{acc:Value}{Q:Unit→A4→Prop}(hs:∀x,Ch iter env x=pure x)
  (h:wpAny (model prog w) A (eval iter env) (fun xv s₁=>wpAny (model prog w) A (CR xv) (fun it s₂=>Bt (model prog w) A (.compStart e depth it acc env) (fun r s'=>match r with | .ok _=>Q () s' | .error x=>cameBackBy (model prog w) A env E x s') s₂) E s₁) E s) :
  wpAny (model prog w) A (LM e iter depth acc env) Q E s:=by
 unfold LM;refine A2 (Ac h (fun xv s₁ h₁=>A2 (FC (A2 (FW (hs xv) (A2 (Ak (Ac h₁ (fun it s₂ h₂=>A2 (wpAny_runOwn (Tl h₂ fun r s' hr=>?_))) fun _ _ x=>x))))))) fun _ _ x=>x)
 cases r with
 | ok f=>exact AC hr
 | error x=>exact hr
theorem Pc {σ:Type}{e iter:AW}{x:Str}{px:Pos}{ifs:List AW}{emit:Sem Unit}{scope:Scope}{cl:List (Str×Addr)}{depth:Nat}{g:EL}{C:Addr}{acc v:Value}{R:DN→A4→Prop}{n:Nat}{Pv:Nat→Value→Prop}{fpx:List Addr}
  (ck:Hc e) (hg:(clausesOf e)[depth]? = some g) (ha:g.is_async=0)
  (ht:∀I,Dt e depth (.ref I) acc (CM scope cl C env)=Dz (.Name x px) iter ifs emit e depth (.ref I) acc (CM scope cl C env)) (hkind:scope.kind = .function) (hx:scope.names.lookup x=some .local)
  (S:U2 prog w A v s n Pv fpx) (hLf:L∉fpx) (hCf:C∉fpx)
  (Led:σ→List (Addr×Obj)) (P:Nat→σ→(Str→Option Value)→Prop) (c₀:σ) {oC₀:Obj} {m₀:Str→Option Value}
  (F:Fr h₀ L s.heap m) (N:News h₀ L s.heap ((C,oC₀)::Led c₀)) (hn:Bu oC₀ m₀) (hnw:∀p∈Led c₀,p.1≠C) (hP:P 0 c₀ m₀)
  (turn:∀I i v c oC m₁ h tk own E',I≠C→(∀p∈Led c₀,p.1≠I)→i<n→Pv i v→P i c m₁→(∀p∈Led c,p.1∉[C,I])→(∃o,(I,o)∈own)→(∀p∈own,p.1=I∨p.1∈fpx)→Bu oC (fun y=>if y=x then some v else m₁ y)→Fr h₀ L h m→News h₀ L h ((C,oC)::(Led c++own))→
   wpAny (model prog w) A (Ht ifs (CM scope cl C env)) (fun ok s₃=>if ok=true then wpAny (model prog w) A emit (fun _ s₄=>HF h₀ L m C [I] own Led P (i+1) { s with heap:=h,toks:=tk } s₄) E' s₃ else HF h₀ L m C [I] own Led P (i+1) { s with heap:=h,toks:=tk } s₃) E' { s with heap:=h,toks:=tk })
  (done:∀c oC m' h tk,P n c m'→Fr h₀ L h m→News h₀ L h ((C,oC)::Led c)→Bu oC m'→(∀p∈Led c,p.1≠C)→R (.ok .next) { s with heap:=h,toks:=tk }) :
  wpAny (model prog w) A (CR v) (fun it s₂=>Bt (model prog w) A (.compStart e depth it acc (CM scope cl C env)) R s₂) E s:=by
 refine R6 (S) ?_;(try clear S);intro o St hit W hst hlive hfpx;have hLlt:L<s.heap.objs.size:=F.ns.lt;have hC:=N _ (.head _);have hClt:C<s.heap.objs.size:=AZ hC.1;have loop:Bt (model prog w) A (.compLoop e depth (.ref s.heap.objs.size) acc (CM scope cl C env)) R { s with heap:=s.heap.push o }:=by
  refine Pb ck (ht _) W (fun i h st b hb=>by rw [ms1 hb];exact hlive i h st) rfl (lookup_relabel_local hx) (by simp [CM,relabel,hkind]) hC.2.1 hC.2.2 (fun hm=>?_) (fun hm=>?_) ?_ Led P c₀ hst (F.push o) (fun p hp=>⟨AE _ (N p hp).1,(N p hp).2⟩) hn ?_ hP ?_ ?_
  ·rcases mc1 hm with q | hm
   ·exact A7 hLlt q
   exact hLf hm
  ·rcases mc1 hm with q | hm
   ·exact A7 hClt q
   exact hCf hm
  ·intro b hb;rw [ms1 hb];exact GZ F
  ·intro p hp hm;rcases mc1 hm with q | hm
   ·exact hnw p hp q
   exact A7 (AZ (N p (.tail _ hp)).1) (ms1 hm)
  ·intro i v c oC₁ m₁ h₁ tk₁ own E' hi hPv hPc hnw' hown hof hn F₁ N₁;exact turn _ i v c oC₁ m₁ h₁ tk₁ own E' (AN hClt) (fun p hp=>A7 (AZ (N p (.tail _ hp)).1)) hi hPv hPc hnw' (hown _ (.head _)) (fun p hp=>mc1 (hof p hp)) hn F₁ N₁
  intro c oC₁ m₁ h₁ tk₁ hPc F₁ N₁ hn hnw';exact done c oC₁ m₁ h₁ tk₁ hPc F₁ N₁ hn fun p hp q=>hnw' p hp (q▸.head _)
 exact hit _ _ (Gm ck hg ha loop (W.self 0 _ _ _ hst loop))
end
section
variable {prog:AY}{w:World}{A:AO}{E:Value→A4→Prop}{s:A4}{R:DN→A4→Prop}{h₀:Heap}{L C:Addr}{m:Str→Option Value}
end
section
variable {prog:AY}{w:World}{A:AO}{E:Value→A4→Prop}{s:A4}{h₀:Heap}{L:Addr}{m:Str→Option Value}{env:Env}
end
section
variable {elt t0 i0 t1 i1:AW}{f0 f1:List AW}{scope:Scope}{pos:Pos}{it acc:Value}{env:Env}
theorem II:Dt (.ListComp elt [⟨t0,i0,f0,0⟩] scope pos) 0 it acc env=Dz t0 i0 f0 (Mt elt acc env) (.ListComp elt [⟨t0,i0,f0,0⟩] scope pos) 0 it acc env:=by rfl
theorem Mr:Dt (.ListComp elt [⟨t0,i0,f0,0⟩,⟨t1,i1,f1,0⟩] scope pos) 0 it acc env=Dz t0 i0 f0 (LM (.ListComp elt [⟨t0,i0,f0,0⟩,⟨t1,i1,f1,0⟩] scope pos) i1 1 acc env) (.ListComp elt [⟨t0,i0,f0,0⟩,⟨t1,i1,f1,0⟩] scope pos) 0 it acc env:=
 congrArg (fun k=>S6 t0 i0 f0 k (again (.compLoop (.ListComp elt [⟨t0,i0,f0,0⟩,⟨t1,i1,f1,0⟩] scope pos) 0 it acc env)) it env) (Ms (k:=again (.compLoop (.ListComp elt [⟨t0,i0,f0,0⟩,⟨t1,i1,f1,0⟩] scope pos) 0 it acc env)))
theorem LI:Dt (.ListComp elt [⟨t0,i0,f0,0⟩,⟨t1,i1,f1,0⟩] scope pos) 1 it acc env=Dz t1 i1 f1 (Mt elt acc env) (.ListComp elt [⟨t0,i0,f0,0⟩,⟨t1,i1,f1,0⟩] scope pos) 1 it acc env:=by rfl
end
section
variable {prog:AY}{w:World}{A:AO}{E:Value→A4→Prop}{s:A4}{env:Env}
theorem GR {elt:AW}{acc:Value}{Q:Unit→A4→Prop}(h:wpAny (model prog w) A (eval elt env) (fun v s₁=>wpAny (model prog w) A (call (.builtin "list.append") [acc,v]) (fun _ s₂=>Q () s₂) E s₁) E s):wpAny (model prog w) A (Mt elt acc env) Q E s:=by
 unfold Mt;exact A2 (Ac h (fun v s₁ h₁=>A2 (Ac h₁ (fun _ s₂ h₂=>AC h₂) fun _ _ x=>x)) fun _ _ x=>x)
end
section
variable {prog:AY}{w:World}{A:AO}{E:Value→A4→Prop}{s:A4}{h₀:Heap}{L:Addr}{m:Str→Option Value}{env:Env}
theorem V1 {σ:Type}{e iter:AW}{elts:List AW}{x1:Nat}{tp:Pos}{ifs:List AW}{emit:Addr→Addr→Sem Unit}{scope:Scope}{cl:List (Str×Addr)}{mk:Obj→Prop}{RR:Value→Addr→DN→A4→Prop}{l:Addr}{items:Array Value}{news:List (Addr×Obj)}
  (ck:Hc e) (ht:∀I D C,Dt e 0 (.ref I) (.ref D) (CM scope cl C env)=Dz (.Tuple elts x1 tp) iter ifs (emit D C) e 0 (.ref I) (.ref D) (CM scope cl C env)) (hkind:scope.kind = .function)
  (hv:∀(i:Nat) (v:Value),items[i]? = some v→∃a,v=A3 a) (hh:A.handled=none) (hl:s.heap.IsList l items) (F:Fr h₀ L s.heap m) (N:News h₀ L s.heap news) (hLf:L≠l)
  (Led:Addr→σ→List (Addr×Obj)) (P:Addr→Nat→σ→(Str→Option Value)→Prop) (c₀:Addr→Obj→σ) (hLed:∀D oD,mk oD→Led D (c₀ D oD)=(D,oD)::news) (hP:∀D oD,mk oD→P D 0 (c₀ D oD) (fun _=>none))
  (turn:∀C D I i v c oC m₁ h tk own E',D≠C→I≠C→I≠D→(∀p∈news,p.1≠C∧p.1≠D∧p.1≠I)→items[i]? = some v→P D i c m₁→(∀p∈Led D c,p.1∉[C,I])→(∃o,(I,o)∈own)→(∀p∈own,p.1=I∨p.1=l)→Bu oC m₁→Fr h₀ L h m→News h₀ L h ((C,oC)::(Led D c++own))→
   wpAny (model prog w) A (DM (.Tuple elts x1 tp) (CM scope cl C env) v) (fun _ s₂=>wpAny (model prog w) A (Ht ifs (CM scope cl C env)) (fun ok s₃=>if ok=true then wpAny (model prog w) A (emit D C) (fun _ s₄=>HF h₀ L m C [I] own (Led D) (P D) (i+1) { s with heap:=h,toks:=tk } s₄) E' s₃ else HF h₀ L m C [I] own (Led D) (P D) (i+1) { s with heap:=h,toks:=tk } s₃) E' s₂) E' { s with heap:=h,toks:=tk })
  (done:∀C D c oC m' h tk,D≠C→(∀p∈news,p.1≠C∧p.1≠D)→P D items.size c m'→Fr h₀ L h m→News h₀ L h ((C,oC)::Led D c)→Bu oC m'→(∀p∈Led D c,p.1≠C)→RR (.ref D) C (.ok .next) { s with heap:=h,toks:=tk }) :
  wpAny (model prog w) A (CR (.ref l)) (CGo prog w A E h₀ L m env e scope cl mk RR) E s:=by
 refine Aq (id hl) ?_;intro ol hol hol2;have hlt:=AZ hol;have W:=LU (prog:=prog) (w:=w) (A:=A) hh s.heap.objs.size l (A7 hlt) items;have hst:(fun i (h:Heap)=>h.IsListIter s.heap.objs.size l i∧h.IsList l items) 0 (s.heap.push { cls:=.type "list_iterator",data:=.fields #[.ref l,.int 0 0] }):=⟨⟨_,Aa _ rfl,rfl,rfl⟩,hl.at fun o e=>AE _ e⟩;have hLlt:L<s.heap.objs.size:=F.ns.lt;refine DB hl ⟨s.heap.objs.size,[s.heap.objs.size,l],[s.heap.objs.size],items.size,_,_,news,rfl,W,hst,?_,F.push _,fun p hp=>⟨AE _ (N p hp).1,(N p hp).2⟩,?_⟩
 ·intro b hb;show b<(s.heap.push _).objs.size;rw [Bq];refine AQ hb ?_ fun hb=>?_
  ·exact Al _
  rw [ms1 hb];exact AU hlt
 intro C D oC oD h tk ho hoff hCf hDf hDC hCL hDL hC₀ hD₀ hst' F' N' hnC;have hCI:s.heap.objs.size≠C:=fun q=>hCf (q▸.head _);have hDI:s.heap.objs.size≠D:=fun q=>hDf (q▸.head _);have hnI:∀p∈news,p.1≠s.heap.objs.size:=fun p hp=>A7 (AZ (N p hp).1);refine W0 ck (ht _ _ _) W (fun i h st b hb=>by rw [ms1 hb];obtain ⟨⟨o,ho,_⟩,_⟩:=st;exact ⟨o,ho⟩) rfl (fun i v s' Q' E' hP st hQ=>by obtain ⟨a,rfl⟩:=hv i v hP;exact Do st.1 hQ) hCL hC₀ (fun hm=>?_) hCf ?_ (Led D) (P D) (c₀ D oD) hst' F' (by rw [hLed D oD ho];exact N') hnC ?_ (hP D oD ho) ?_ ?_
 ·rcases mc1 hm with q | hm
  ·exact A7 hLlt q
  exact hLf (ms1 hm)
 ·intro b hb;rw [ms1 hb];exact GZ F
 ·intro p hp hm;rw [hLed D oD ho] at hp
  first | refine AH hp ?_ fun hp=>?_ | rcases mc1 hp with rfl | hp
  ·rcases mc1 hm with q | hm
   ·exact hDC q
   exact hDI (ms1 hm).symm
  rcases mc1 hm with q | hm
  ·exact (hoff p hp).1 q
  exact hnI p hp (ms1 hm)
 ·intro i v c oC₁ m₁ h₁ tk₁ own E' hi hPv hPc hnw hown hof hn F₁ N₁;exact turn C D _ i v c oC₁ m₁ h₁ tk₁ own E' hDC hCI hDI (fun p hp=>⟨(hoff p hp).1,(hoff p hp).2,hnI p hp⟩) hPv hPc hnw (hown _ (.head _)) (fun p hp=>(mc1 (hof p hp)).imp id ms1) hn F₁ N₁
 intro c oC₁ m₁ h₁ tk₁ hPc F₁ N₁ hn hnw;exact done C D c oC₁ m₁ h₁ tk₁ hDC hoff hPc F₁ N₁ hn fun p hp q=>hnw p hp (q▸.head _)
end
section
variable {M:Model}{A:AO}{E:Value→A4→Prop}{s:A4}{h₀:Heap}{L C:Addr}{m m₁:Str→Option Value}{env:Env}
theorem G7 {x : Str} {v : Value} {oC : Obj} {tl : List (Addr × Obj)} {Q : Unit → A4 → Prop} (F : Fr h₀ L s.heap m) (N : News h₀ L s.heap ((C, oC) :: tl)) (hn : Bu oC m₁) (hoff : ∀ p ∈ tl, p.1 ≠ C)
  (h : ∀ h' oC', Fr h₀ L h' m → News h₀ L h' ((C, oC') :: tl) → Bu oC' (fun y => if y = x then some v else m₁ y) → Q () { s with heap := h', toks := s.toks + 1 })
  (hEC : env.locals = C := by rfl) (hx : env.kindOf x = some .local := by rfl) (hp : (env.scope.kind == .class || (env.scope.kind == .module && env.locals != env.globals)) = false := by rfl) : wpAny M A (storeName env x v) Q E s := by
 subst hEC;refine EP hx (hn.ns (N _ (.head _)).1) (fun h₂ hn₂ hs₂ => ?_) hp;refine Aq (LCg.ns_obj hn₂) ?_; intro oC₂ hoC₂ hnC₂;exact h h₂ oC₂ (F.change hs₂ (N _ (.head _)).2.1 (N _ (.head _)).2.2) (fc1 ⟨⟨hoC₂, (N _ (.head _)).2⟩, fun p hp' => ⟨(hs₂.2 _ (hoff p hp')).trans (N p (.tail _ hp')).1, (N p (.tail _ hp')).2⟩⟩) hnC₂
end
section
variable {k v t0 i0 t1 i1:AW}{f0 f1:List AW}{scope:Scope}{pos:Pos}{it acc:Value}{env:Env}
theorem RF:Dt (.DictComp k v [⟨t0,i0,f0,0⟩] scope pos) 0 it acc env=Dz t0 i0 f0 (Mu k v acc env) (.DictComp k v [⟨t0,i0,f0,0⟩] scope pos) 0 it acc env:=by rfl
theorem RE:Dt (.DictComp k v [⟨t0,i0,f0,0⟩,⟨t1,i1,f1,0⟩] scope pos) 0 it acc env=Dz t0 i0 f0 (LM (.DictComp k v [⟨t0,i0,f0,0⟩,⟨t1,i1,f1,0⟩] scope pos) i1 1 acc env) (.DictComp k v [⟨t0,i0,f0,0⟩,⟨t1,i1,f1,0⟩] scope pos) 0 it acc env:=
 congrArg (fun kk=>S6 t0 i0 f0 kk (again (.compLoop (.DictComp k v [⟨t0,i0,f0,0⟩,⟨t1,i1,f1,0⟩] scope pos) 0 it acc env)) it env) (Ms (k:=again (.compLoop (.DictComp k v [⟨t0,i0,f0,0⟩,⟨t1,i1,f1,0⟩] scope pos) 0 it acc env)))
theorem PX:Dt (.DictComp k v [⟨t0,i0,f0,0⟩,⟨t1,i1,f1,0⟩] scope pos) 1 it acc env=Dz t1 i1 f1 (Mu k v acc env) (.DictComp k v [⟨t0,i0,f0,0⟩,⟨t1,i1,f1,0⟩] scope pos) 1 it acc env:=by rfl
end
section
variable {prog:AY}{w:World}{A:AO}{E:Value→A4→Prop}{s:A4}{env:Env}{h₀:Heap}{L:Addr}{m:Str→Option Value}{news:List (Addr×Obj)}
theorem Mp {k v:AW}{d:Addr}{Q:Unit→A4→Prop}(h:wpAny (model prog w) A (eval k env) (fun kv s₁=>wpAny (model prog w) A (eval v env) (fun vv s₂=>wpAny (model prog w) A (dictSet d kv vv) Q E s₂) E s₁) E s):wpAny (model prog w) A (Mu k v (.ref d) env) Q E s:=by
 unfold Mu;exact A2 (Ac h (fun kv s₁ h₁=>A2 (Ak (Ac h₁ (fun vv s₂ h₂=>A2 (FC (Ak h₂))) fun _ _ x=>x))) fun _ _ x=>x)
structure DE where
 k:Int
 v:Int
 t:Tok
noncomputable def kvD (l:List DE):List (Int×Value):=l.map fun e=>(e.k,A5 e.v e.t)
theorem Gg {l:List DE}{e:DE}(hn:(l.map (·.k)).Nodup)(he:e∈l):BR (kvD l) e.k=some (.int e.v e.t):=by
 unfold BR kvD
 induction l with
 | nil=>cases he
 | cons a l ih=>
  rw [Bx,List.find?_cons]
  by_cases h:a.k=e.k
  ·have:e=a:=by
    rcases mc1 he with h1 | h1
    ·exact h1
    rw [Bx,Ce] at hn;exact absurd (mm2 ⟨e,h1,h.symm⟩) hn.1
   subst this;simp
  have h2:decide (a.k=e.k)=false:=decide_eq_false h;simp only [h2];rcases mc1 he with h1 | h1
  ·exact absurd (by rw [h1]) h
  rw [Bx,Ce] at hn;exact ih hn.2 h1
theorem Oz {l:List DE}{k v:Int}{t:Tok}(h:∀e∈l,e.k≠k):C7 (kvD l) k (.int v t)=kvD (l++[⟨k,v,t⟩]):=by
 unfold C7;rw [if_neg]
 ·unfold kvD;rw [AI];rfl
 intro hh;rw [List.any_eq_true] at hh;refine Aq hh ?_;intro p hp hk;unfold kvD at hp;refine Aq (mm1 hp) ?_;intro e he e92;subst e92;exact h e he (of_decide_eq_true hk)
theorem L9 {k:Int}{v:Value}(h:(AM prog w).is k v=true):∃t,v = .int k t:=PyProof.V.Flat.int_inv (kdl_flat_int h)
section
variable {K:Type} [DecidableEq K] {knd:KeyKind prog w K}{d:Addr}{o:Obj}{kvs:List (K×Value)}
theorem S2 {k:K}{key v:Value}{pre post:List (Addr×Obj)}{Q:Unit→A4→Prop}(F:Fr h₀ L s.heap m)(N:News h₀ L s.heap (pre++(d,o)::post))(hd:o.IsDictOf knd kvs)(hkey:knd.is k key=true)(h1:∀p∈pre,p.1≠d)(h2:∀p∈post,p.1≠d)(hsz:kvs.length≤FD)
  (h:∀h' o',Fr h₀ L h' m→News h₀ L h' (pre++(d,o')::post)→o'.IsDictOf knd (C7 kvs k v)→Q () { s with heap:=h',toks:=s.toks+1 }):wpAny (model prog w) A (dictSet d key v) Q E s:=by
 have hm:=N (d,o) (maR _ (.head _));refine wpAny_dictSet_pairs (hsz:=hsz) hkey (Heap.dictOf_iff.mpr ⟨o,hm.1,hd⟩) fun h' hmm hs=>?_;refine Aq (Heap.dictOf_iff.mp hmm) ?_;intro o' ho' hd';exact h h' o' (F.change hs hm.2.1 hm.2.2) (N.setIn h1 h2 hs ho') hd'
theorem Ma (hh:A.handled=none)(N:News h₀ L s.heap news)(hp:(d,o)∈news)(hd:o.IsDictOf knd kvs)(lo:(d==BV)=false):U2 prog w A (.ref d) s kvs.length (fun i v=>∃k x,kvs[i]? = some (k,x)∧knd.is k v=true) [d]:=by
 refine I0 (id hd) ?_;intro es ep r;have hm:s.heap.DictAt knd d kvs ep:=⟨o,es,(N _ hp).1,r⟩;have hlt:d<s.heap.objs.size:=AZ (N _ hp).1;exact ⟨_,_,fun Q E hq=>Tj lo hm hq,Walks.dictKeys hh s.heap.objs.size d (A7 hlt) kvs ep,⟨⟨_,Aa _ rfl,rfl,rfl⟩,hm.at' fun o e=>AE _ e⟩,
  fun i h st=>by obtain ⟨⟨o,ho,_⟩,_⟩:=st;exact ⟨o,ho⟩,fun b hb=>by rw [ms1 hb];exact hlt⟩
theorem S5 {x:Str}{px:Pos}{body:List Stmt}{Q:Flow→A4→Prop}(hh:A.handled=none)(hE:DR (model prog w) A env E)(hd:o.IsDictOf knd kvs)(lo:(d==BV)=false)(J:JP)(hl:∀i m nx,J i m nx→(d,o)∈nx)
  (F:Fr h₀ env.locals s.heap m) (N:News h₀ env.locals s.heap news) (h0:J 0 m news)
  (turn:∀I i k v u m₁ nx oI h tk,kvs[i]? = some (k,u)→knd.is k v=true→J i m₁ nx→(∀p∈nx,p.1≠I)→Fr h₀ env.locals h m₁→News h₀ env.locals h ((I,oI)::nx)→
   wpAny (model prog w) A (DM (.Name x px) env v) (fun _ s₂=>wpAny (model prog w) A (execs body env) (LEnd h₀ env.locals I oI s J (i+1) Q) E s₂) E { s with heap:=h,toks:=tk })
  (done:∀m₁ nx h tk,J kvs.length m₁ nx→Fr h₀ env.locals h m₁→News h₀ env.locals h nx→Q .next { s with heap:=h,toks:=tk }) :
  wpAny (model prog w) A (CR (.ref d)) (fun it s₂=>KU prog w A env (.Name x px) body Q E it s₂) E s:=by
 have hp:=hl _ _ _ h0;refine I0 (id hd) ?_;intro es ep r;have hm:s.heap.DictAt knd d kvs ep:=⟨o,es,(N _ hp).1,r⟩;have hlt:d<s.heap.objs.size:=AZ (N _ hp).1;refine Tj lo hm ?_;have hW:=Walks.dictKeys (prog:=prog) (w:=w) (A:=A) (knd:=knd) hh s.heap.objs.size d (A7 hlt) kvs ep;refine MT hW hE (fun i h st=>?_) (fun i v s' Q' E' _ _ hQ=>AC hQ) J (fun b hb hne=>⟨o,by rw [(mc1 hb).elim (fun e=>absurd e hne) ms1];exact hl⟩) ⟨⟨_,Aa _ rfl,rfl,rfl⟩,hm.at' fun o e=>AE _ e⟩ F N h0 (fun i v m₁ nx oI h tk _ hv hJ hn F' N'=>?_) done
 ·obtain ⟨⟨o,ho,_⟩,_⟩:=st;exact ⟨o,ho⟩
 refine HA hv ?_;intro k u hk hk2;exact turn _ i k v u m₁ nx oI h tk hk hk2 hJ hn F' N'
end
theorem W1 {σ:Type}{e iter:AW}{elts:List AW}{x1:Nat}{tp:Pos}{ifs:List AW}{emit:Sem Unit}{scope:Scope}{cl:List (Str×Addr)}{depth:Nat}{g:EL}{C l:Addr}{acc:Value}{R:DN→A4→Prop}{items:Array Value}
  (ck:Hc e) (hg:(clausesOf e)[depth]? = some g) (ha:g.is_async=0)
  (ht:∀I,Dt e depth (.ref I) acc (CM scope cl C env)=Dz (.Tuple elts x1 tp) iter ifs emit e depth (.ref I) acc (CM scope cl C env)) (hkind:scope.kind = .function)
  (hv:∀(i:Nat) (v:Value),items[i]? = some v→∃a,v=A3 a) (hh:A.handled=none) (hl:s.heap.IsList l items) (hLf:L≠l) (hCf:C≠l)
  (Led:σ→List (Addr×Obj)) (P:Nat→σ→(Str→Option Value)→Prop) (c₀:σ) {oC₀:Obj} {m₀:Str→Option Value}
  (F:Fr h₀ L s.heap m) (N:News h₀ L s.heap ((C,oC₀)::Led c₀)) (hn:Bu oC₀ m₀) (hnw:∀p∈Led c₀,p.1≠C) (hP:P 0 c₀ m₀)
  (turn:∀I i v c oC m₁ h tk own E',I≠C→(∀p∈Led c₀,p.1≠I)→items[i]? = some v→P i c m₁→(∀p∈Led c,p.1∉[C,I])→(∃o,(I,o)∈own)→(∀p∈own,p.1=I∨p.1=l)→Bu oC m₁→Fr h₀ L h m→News h₀ L h ((C,oC)::(Led c++own))→
   wpAny (model prog w) A (DM (.Tuple elts x1 tp) (CM scope cl C env) v) (fun _ s₂=>wpAny (model prog w) A (Ht ifs (CM scope cl C env)) (fun ok s₃=>if ok=true then wpAny (model prog w) A emit (fun _ s₄=>HF h₀ L m C [I] own Led P (i+1) { s with heap:=h,toks:=tk } s₄) E' s₃ else HF h₀ L m C [I] own Led P (i+1) { s with heap:=h,toks:=tk } s₃) E' s₂) E' { s with heap:=h,toks:=tk })
  (done:∀c oC m' h tk,P items.size c m'→Fr h₀ L h m→News h₀ L h ((C,oC)::Led c)→Bu oC m'→(∀p∈Led c,p.1≠C)→R (.ok .next) { s with heap:=h,toks:=tk }) :
  wpAny (model prog w) A (CR (.ref l)) (fun it s₂=>Bt (model prog w) A (.compStart e depth it acc (CM scope cl C env)) R s₂) E s:=by
 refine Aq (id hl) ?_;intro ol hol hol2;have hlt:=AZ hol;have W:=LU (prog:=prog) (w:=w) (A:=A) hh s.heap.objs.size l (A7 hlt) items;have hst:(fun i (h:Heap)=>h.IsListIter s.heap.objs.size l i∧h.IsList l items) 0 (s.heap.push { cls:=.type "list_iterator",data:=.fields #[.ref l,.int 0 0] }):=⟨⟨_,Aa _ rfl,rfl,rfl⟩,hl.at fun o e=>AE _ e⟩;have hLlt:L<s.heap.objs.size:=F.ns.lt;have hC:=N _ (.head _);have hClt:C<s.heap.objs.size:=AZ hC.1;have loop:Bt (model prog w) A (.compLoop e depth (.ref s.heap.objs.size) acc (CM scope cl C env)) R { s with heap:=s.heap.push { cls:=.type "list_iterator",data:=.fields #[.ref l,.int 0 0] } }:=by
  refine W0 ck (ht _) W (fun i h st b hb=>by rw [ms1 hb];obtain ⟨⟨o,ho,_⟩,_⟩:=st;exact ⟨o,ho⟩) rfl (fun i v s' Q' E' hP st hQ=>by obtain ⟨a,rfl⟩:=hv i v hP;exact Do st.1 hQ) hC.2.1 hC.2.2 (fun hm=>?_) (fun hm=>?_) ?_ Led P c₀ hst (F.push _) (fun p hp=>⟨AE _ (N p hp).1,(N p hp).2⟩) hn ?_ hP ?_ ?_
  ·rcases mc1 hm with q | hm
   ·exact A7 hLlt q
   exact hLf (ms1 hm)
  ·rcases mc1 hm with q | hm
   ·exact A7 hClt q
   exact hCf (ms1 hm)
  ·intro b hb;rw [ms1 hb];exact GZ F
  ·intro p hp hm;rcases mc1 hm with q | hm
   ·exact hnw p hp q
   exact A7 (AZ (N p (.tail _ hp)).1) (ms1 hm)
  ·intro i v c oC₁ m₁ h₁ tk₁ own E' hi hPv hPc hnw' hown hof hn F₁ N₁;exact turn _ i v c oC₁ m₁ h₁ tk₁ own E' (AN hClt) (fun p hp=>A7 (AZ (N p (.tail _ hp)).1)) hPv hPc hnw' (hown _ (.head _)) (fun p hp=>(mc1 (hof p hp)).imp id ms1) hn F₁ N₁
  intro c oC₁ m₁ h₁ tk₁ hPc F₁ N₁ hn hnw';exact done c oC₁ m₁ h₁ tk₁ hPc F₁ N₁ hn fun p hp q=>hnw' p hp (q▸.head _)
 exact DB hl (Gm ck hg ha loop (W.self 0 _ _ _ hst loop))
end
section
variable {w:World}{A:AO}{E:Value→A4→Prop}{s:A4}{h₀:Heap}{L:Addr}{m:Str→Option Value}{q d:Addr}{a b c:Value}
theorem VW {α:Type}{M:Model}{x y:Sem α}{k:Prop} [Decidable k] {Q:α→A4→Prop}(hc:k)(h:wpAny M A x Q E s):wpAny M A (if k then x else y) Q E s:=by rw [if_pos hc];exact h
theorem VX {α:Type}{M:Model}{x y:Sem α}{k:Prop} [Decidable k] {Q:α→A4→Prop}(hc:¬k)(h:wpAny M A y Q E s):wpAny M A (if k then x else y) Q E s:=by rw [if_neg hc];exact h
theorem MX {M:Model}{h:Heap}(ho:h.get? q=some (Bs d a b c)):Looks M h (HH (.ref q)) (.ref 135):=by
 unfold HH;exact Looks.andThen (Iy ho) Looks.now
theorem NU {Q:Bool→A4→Prop}(ho:s.heap.get? q=some (Bs d a b c))(X:(Mine.K w.params).In s.heap)(h:∀tk,Q true { s with toks:=tk }):wpAny (model (rw_nq0317_02.prog) w) A (DO (.ref q)) Q E s:=by
 unfold DO;refine A2 (Looks.at (Ej ho X (Mo w)) ?_);generalize hid:("tuple.__len__" : String)=id0;dsimp only;rw [show splitId id0=some ("tuple", "__len__") from by subst hid;decide +kernel];dsimp only;refine A2 (Looks.at (HV ho X) ?_);refine VX (by decide) ?_;subst hid;refine VW (by decide +kernel) ?_;refine A2 (Looks.at (MX ho) ?_);dsimp only;refine A2 (L5 ho X fun t tk=>?_);refine A2 (m:=asInt? _) (AC ?_);exact AC (h tk)
noncomputable def mIt (a b c:Value):Array Value:=#[a,b,c]
theorem Sw {S it:Addr}{R0:List (Addr×Obj)}{R:DN→A4→Prop}(hh:A.handled=none)(hq:(q,Bs d a b c)∈R0)(hR0:∀p∈R0,p.1≠it∧p.1≠S)(hS:S≠it)
  (hfin:∀h' tk n,Fr h₀ L h' m→News h₀ L h' ((S,A1 #[a,b,c] n)::R0)→R (.ok (.ret .none)) { s with heap:=h',toks:=tk }) :
  ∀(k i n:Nat) (h:Heap) (tk:Nat),3-i=k→i≤3→Fr h₀ L h m→News h₀ L h ((it,OJ q (i:Int))::(S,A1 ((mIt a b c).toList.take i).toArray n)::R0)→
   Bt (model (rw_nq0317_02.prog) w) A (.builtin "list.extend.loop" ⟨[.ref S,.ref it,.none],[]⟩) R { s with heap:=h,toks:=tk }:=by
 intro k
 induction k with
 | zero=>
  intro i n h tk hk hi F N;have hin:i=3:=sb0 hk hi;subst hin;refine CI EW ?_;rw [BY C4 _];show wpAny _ A.in1 (DL (.ref it) >>= _) _ _ _;refine A2 (Kk hh F N (.tail _ hq) rfl rfl (fun p hp=>AQ hp hS fun hp=>(hR0 p hp).1) fun h1 F1 N1=>?_);exact AC (hfin h1 tk n F1 N1)
 | succ k ih=>
  intro i n h tk hk hi F N;have hlt:i<3:=sb1 hk;refine Bp (⟨_,BU (show i<(mIt a b c).size from hlt)⟩:∃x,(mIt a b c)[i]? = some x) ?_;intro x hx;refine CI EW ?_;rw [BY C4 _];show wpAny _ A.in1 (DL (.ref it) >>= _) _ _ _;refine A2 (GO (x:=x) F N (.tail _ hq) rfl hx (fun p hp=>AQ hp hS fun hp=>(hR0 p hp).1) fun h1 F1 N1=>?_);have hS2:=N1 _ mH1;have hln:((mIt a b c).toList.take i).length≤3:=by rw [Bm];exact Nat.min_le_right _ _
  show wpAny _ A.in1 (FX S (·.push x) >>= _) _ _ _;refine A2 (Cm hS2.1 rfl (AC ⟨Ct C4 _,?_⟩) ?z1 ?z2)
  case z1=>rw [DP,Ae];lia
  case z2=>rw [DP,Array.size_push,Ae];lia
  have hs:=BL h1 S (Ar (·.push x));have eo:Ar (·.push x) (A1 ((mIt a b c).toList.take i).toArray n)=A1 ((mIt a b c).toList.take (i+1)).toArray (n+1):=by
   rw [CB,C9,hx];simp [Ar,A1]
  have N2:=C6 (o':=A1 ((mIt a b c).toList.take (i+1)).toArray (n+1)) N1 mH1 hs ((Aw _ hS2.1 rfl).trans (congrArg some eo));refine ih (i+1) (n+1) _ tk (sb2 hk) hlt (F1.change hs hS2.2.1 hS2.2.2) (Bo N2 fun p hp=>?_);refine AH hp (A8 (.head _) (Ne.symm hS)) fun hp=>?_;refine AH hp (AV mH1) fun hp=>?_;exact A8 (mT2 hp) (hR0 p hp).2
theorem NV {news:List (Addr×Obj)}{Q:Value→A4→Prop}(hh:A.handled=none)(F:Fr h₀ L s.heap m)(N:News h₀ L s.heap news)(X:(Mine.K w.params).In h₀)(hq:(q,Bs d a b c)∈news)
  (hret:∀S h' tk n,(∀p∈news,p.1<S)→Fr h₀ L h' m→News h₀ L h' ((S,A1 #[a,b,c] n)::news)→Q (.ref S) { s with heap:=h',toks:=tk }) :
  wpAny (model (rw_nq0317_02.prog) w) A (call (.type "list") [.ref q]) Q E s:=by
 refine callType_codes (Q₁:=fun obj s₁=>obj = .ref s.heap.objs.size∧s₁ = { s with heap:=s.heap.push { cls:=.type "list",data:=.seq #[] } }) PySem.F.called_list (PySem.F.typeCall_list_1 _) PySem.F.entry_list_init
  (code_list_new _ ⟨rfl,rfl⟩) fun obj s₁ h₁=>?_
 refine CL h₁ ?_;(try clear h₁);intro e90 e91;subst e90;subst e91;have hS:(s.heap.push { cls:=.type "list",data:=.seq #[] }).get? s.heap.objs.size=some { cls:=.type "list",data:=.seq #[] }:=Aa _ rfl;have hlt:∀{p:Addr×Obj},p∈news→p.1<s.heap.objs.size:=fun hp=>AZ (N _ hp).1;have hSL:s.heap.objs.size≠L:=AN F.ns.lt;have hS0:h₀.get? s.heap.objs.size=none:=by
  cases e:h₀.get? s.heap.objs.size with
  | none=>rfl
  | some o=>exact absurd (AZ (F.keep _ _ e)) (Av _)
 have F1:Fr h₀ L (s.heap.push { cls:=.type "list",data:=.seq #[] }) m:=F.push _;have N1:News h₀ L (s.heap.push { cls:=.type "list",data:=.seq #[] }) ((s.heap.objs.size,A1 #[] 0)::news):=fc1 ⟨⟨hS,hSL,hS0⟩,fun p hp=>⟨AE _ (N p hp).1,(N p hp).2⟩⟩;generalize s.heap.push { cls:=.type "list",data:=.seq #[] }=hp1 at *;generalize s.heap.objs.size=S at *;refine ⟨⟨_,hS,rfl⟩,PySem.F.args_list_init_2 _ _,?_⟩;have hqS:q≠S:=A7 (hlt (p:=(q,Bs d a b c)) hq);show wpAny _ _ (do let old ←G4 (.ref S);Builtin.List.listUpdate (.ref S) (fun _=>#[]);letGo old.toList.reverse;Bv (.ref S) (.ref q) .none) _ _ _;refine A2 ?_;unfold G4;refine A2 (Eb hS rfl (AC ?_));show wpAny _ _ (FX S (fun _=>#[]) >>= fun _=>letGo (#[]:Array Value).toList.reverse >>= fun _=>Bv (.ref S) (.ref q) .none) _ _ _;refine A2 (Cm hS rfl ?_);have hs2:=BL hp1 S (Ar fun _=>(#[]:Array Value));have hS2:=Aw (Ar (fun _=>(#[]:Array Value))) hS rfl;have F2:Fr h₀ L (hp1.update S (Ar fun _=>(#[]:Array Value))) m:=F1.change hs2 hSL hS0;have N2:News h₀ L (hp1.update S (Ar fun _=>(#[]:Array Value))) ((S,A1 #[] 0)::news):=Bo (C6 (o':=A1 #[] 0) N1 (.head _) hs2 hS2) (VL fun p hp=>A7 (hlt hp));generalize hp1.update S (Ar fun _=>(#[]:Array Value))=hp2 at *;refine A2 (wpAny_letGo ?_);unfold Bv;refine A2 (Looks.at (MX (N2 _ (.tail _ hq)).1) ?_);have h1:Cw (.ref S) (.ref q)=false:=by simp [Cw,Ne.symm hqS]
 have h2:(A3 135==AL "list")=false:=by decide
 have h3:(A3 135==AL "tuple")=false:=by decide
 rw [h1,h2,h3,if_neg (by decide)];refine A2 (Hm F2 N2 X (.tail _ hq) fun it h4 tk4 F4 N4 hit=>?_);have hitS:S≠it:=hit _ (.head _);have hS4:=N4 _ mH1;refine A2 (Ak (NU (N4 _ (mT2 hq)).1 (X.keeps F4.keep) fun tk5=>?_));refine Lb (fun _=>?_) (fun hab=>absurd rfl hab);refine A2 (GW ?_);refine A2 ?_;show wpAny _ _ (FX S (·.push .none) >>= fun _=>FX S (·.pop)) _ _ _;refine A2 (Cm hS4.1 rfl ?_);have hS5:=Aw (Ar (·.push AG)) hS4.1 rfl;have hs5:=BL h4 S (Ar (·.push AG));have N5:=C6 N4 mH1 hs5 hS5;have F5:=F4.change hs5 hSL hS0;refine Cm (hz:=by seq_fits) hS5 rfl ?_;have hS6:=Aw (Ar (·.pop)) hS5 rfl;have hs6:=BL (h4.update S (Ar (·.push AG))) S (Ar (·.pop));have N6:=C6 (o':=A1 #[] 2) N5 (AV mH1) hs6 hS6;refine AC ⟨Ct C4 _,?_⟩;refine Sw (A:=A.in1) (s:=s) (S:=S) (it:=it) (R0:=news) hh hq (fun p hp=>⟨hit p (.tail _ hp),A7 (hlt hp)⟩) hitS (fun h' tk n F' N'=>⟨rfl,hret S h' tk n (fun p hp=>hlt hp) F' N'⟩) 3 0 2 _ _ rfl (B0 _) (F5.change hs6 hSL hS0) (Bo N6 fun p hp=>?_);refine AH hp (A8 (A8 (.head _) (Ne.symm hitS)) (Ne.symm hitS)) fun hp=>?_;refine AH hp (AV (AV mH1)) fun hp=>?_;have hpS:p.1≠S:=A7 (hlt hp);exact A8 (A8 (mT2 hp) hpS) hpS
end
structure PT where
 a:Addr
 i:Int
 j:Int
 t1:Tok
 t2:Tok
noncomputable abbrev CP (p:PT):Obj:=⟨.type "tuple",none,.seq #[.int p.i p.t1,.int p.j p.t2] 0,#[]⟩
noncomputable def BZ (l:List PT):List Value:=l.map fun e=>A3 e.a
noncomputable def Hy (l:List PT):List (Addr×Obj):=l.map fun e=>(e.a,CP e)
noncomputable def ptP (e:PT):Int×Int:=(e.i,e.j)
theorem EC {es:List PT}{i:Nat}{v:Value}(hv:(BZ es).toArray[i]? = some v):∃e,es[i]? = some e∧A3 e.a=v:=by
 unfold BZ at hv;rw [Bj,AX] at hv
 cases he:es[i]? with
 | none=>rw [he] at hv;cases hv
 | some e=>rw [he] at hv;exact ⟨e,rfl,BM hv⟩
theorem Jc {es:List PT}(i:Nat)(v:Value)(hv:(BZ es).toArray[i]? = some v):∃a,v=A3 a:=by
 refine Aq (EC hv) ?_;intro e he hve;exact ⟨_,hve.symm⟩
noncomputable def H3 (p q r:Int×Int):Bool:=
 decide (¬(p.1-r.1=0∧q.1-p.2=0∧r.2-q.2=0))&&(decide (0≤p.1-r.1∧0≤q.1-p.2∧0≤r.2-q.2)||decide (p.1-r.1≤0∧q.1-p.2≤0∧r.2-q.2≤0))
noncomputable def H4 (A B C:List (Int×Int)):Bool:=A.any fun p=>B.any fun q=>C.any fun r=>H3 p q r
theorem Gt {α:Type}{l:List α}{i:Nat}{a:α}{P:α→Prop}(h:∀x∈l.take i,P x)(hx:l[i]? = some a)(ha:P a):∀x∈l.take (i+1),P x:=by
 intro x hx';rw [CB,hx] at hx';refine AF hx' (h x) fun hx'=>?_;rw [ms1 hx'];exact ha
theorem Fs {l:List PT}{i:Nat}{e:PT}(h:l[i]? = some e):(l.map ptP)[i]? = some (ptP e):=by rw [AX,h];rfl
theorem Jw {l:List PT}{P:Int×Int→Prop}(h:∀x∈(l.map ptP).take (BZ l).toArray.size,P x):∀x∈l.map ptP,P x:=by
 rw [BA (by unfold BZ;rw [Ae,AB,AB];exact Ap _)] at h;exact h
theorem leadT_iff {p q r:Int×Int}:H3 p q r=true↔¬(p.1-r.1=0∧q.1-p.2=0∧r.2-q.2=0)∧((0≤p.1-r.1∧0≤q.1-p.2∧0≤r.2-q.2)∨(p.1-r.1≤0∧q.1-p.2≤0∧r.2-q.2≤0)):=by
 unfold H3;rw [C8,RT,decide_eq_true_iff,decide_eq_true_iff,decide_eq_true_iff]
theorem Rs {p q r:Int×Int}(h:¬(¬(p.1-r.1=0∧q.1-p.2=0∧r.2-q.2=0)∧((0≤p.1-r.1∧0≤q.1-p.2∧0≤r.2-q.2)∨(p.1-r.1≤0∧q.1-p.2≤0∧r.2-q.2≤0)))):H3 p q r=false:=by
 cases e:H3 p q r with
 | false=>rfl
 | true=>exact absurd (leadT_iff.mp e) h
theorem L6 {A B C:List (Int×Int)}{p q r:Int×Int}(hp:p∈A)(hq:q∈B)(hr:r∈C)(h:H3 p q r=true):H4 A B C=true:=
 List.any_eq_true.mpr ⟨p,hp,List.any_eq_true.mpr ⟨q,hq,List.any_eq_true.mpr ⟨r,hr,h⟩⟩⟩
theorem Td {α:Type}{l:List α}{f:α→Bool}(h:∀x∈l,f x=false):l.any f=false:=by
 cases e:l.any f with
 | false=>rfl
 | true=>
  refine Aq (List.any_eq_true.mp e) ?_;intro x hx h2;rw [h x hx] at h2;cases h2
noncomputable abbrev LM1 (lT:Addr)(u:Str→Option Value):Str→Option Value:=fun z=>if z=A0 "told" then some (.ref lT) else u z
set_option tactic.hygienic true in
theorem lm1 {g h:Heap}{L lT:Addr}{m:Str→Option Value}(F:Fr g L h m)(h1:m (A0 "told")=some (.ref lT)):Fr g L h (LM1 lT m):=by
 have e:m=LM1 lT m:=by
  funext z
  unfold LM1;split
  ·rename_i e;rw [e];exact h1
  rfl
 exact Eq.mp (congrArg (Fr g L h) e) F
noncomputable abbrev LM2 (lT:Addr)(a b:Int)(ta tb:Tok)(u:Str→Option Value):Str→Option Value:=fun z=>if z=A0 "told" then some (.ref lT) else if z=A0 "a" then some (.int a ta) else if z=A0 "b" then some (.int b tb) else u z
set_option tactic.hygienic true in
theorem lm2 {g h:Heap}{L lT:Addr}{a b:Int}{ta tb:Tok}{m:Str→Option Value}(F:Fr g L h m)(h1:m (A0 "told")=some (.ref lT))(h2:m (A0 "a")=some (.int a ta))(h3:m (A0 "b")=some (.int b tb)):Fr g L h (LM2 lT a b ta tb m):=by
 have e:m=LM2 lT a b ta tb m:=by
  funext z
  unfold LM2;split
  ·rename_i e;rw [e];exact h1
  split
  ·rename_i e;rw [e];exact h2
  split
  ·rename_i e;rw [e];exact h3
  rfl
 exact Eq.mp (congrArg (Fr g L h) e) F
noncomputable abbrev LM3 (lT:Addr)(a b on c:Int)(ta tb to tc:Tok)(u:Str→Option Value):Str→Option Value:=fun z=>if z=A0 "told" then some (.ref lT) else if z=A0 "a" then some (.int a ta) else if z=A0 "b" then some (.int b tb) else if z=A0 "on" then some (.int on to) else if z=A0 "c" then some (.int c tc) else u z
set_option tactic.hygienic true in
theorem lm3 {g h:Heap}{L lT:Addr}{a b on c:Int}{ta tb to tc:Tok}{m:Str→Option Value}(F:Fr g L h m)(h1:m (A0 "told")=some (.ref lT))(h2:m (A0 "a")=some (.int a ta))(h3:m (A0 "b")=some (.int b tb))(h4:m (A0 "on")=some (.int on to))(h5:m (A0 "c")=some (.int c tc)):Fr g L h (LM3 lT a b on c ta tb to tc m):=by
 have e:m=LM3 lT a b on c ta tb to tc m:=by
  funext z
  unfold LM3;split
  ·rename_i e;rw [e];exact h1
  split
  ·rename_i e;rw [e];exact h2
  split
  ·rename_i e;rw [e];exact h3
  split
  ·rename_i e;rw [e];exact h4
  split
  ·rename_i e;rw [e];exact h5
  rfl
 exact Eq.mp (congrArg (Fr g L h) e) F
inductive LJ1 (lT:Addr)(G:List (Addr×Obj))(P:Nat→Prop)(i:Nat)(m:Str→Option Value)(nx:List (Addr×Obj)):Prop
 | mk (h1:m (A0 "told")=some (.ref lT)) (hn:G=nx) (hP:P i):LJ1 lT G P i m nx
inductive LJ2 (lT:Addr)(a b:Int)(ta tb:Tok)(G:List (Addr×Obj))(P:Nat→Prop)(i:Nat)(m:Str→Option Value)(nx:List (Addr×Obj)):Prop
 | mk (h1:m (A0 "told")=some (.ref lT)) (h2:m (A0 "a")=some (.int a ta)) (h3:m (A0 "b")=some (.int b tb)) (hn:G=nx) (hP:P i):LJ2 lT a b ta tb G P i m nx
inductive LJ3 (lT:Addr)(a b on c:Int)(ta tb to tc:Tok)(G:List (Addr×Obj))(P:Nat→Prop)(i:Nat)(m:Str→Option Value)(nx:List (Addr×Obj)):Prop
 | mk (h1:m (A0 "told")=some (.ref lT)) (h2:m (A0 "a")=some (.int a ta)) (h3:m (A0 "b")=some (.int b tb)) (h4:m (A0 "on")=some (.int on to)) (h5:m (A0 "c")=some (.int c tc)) (hn:G=nx) (hP:P i):LJ3 lT a b on c ta tb to tc G P i m nx
theorem ldf {a b c M M':Int}(x:0≤a∧0≤b∧0≤c∨a≤0∧b≤0∧c≤0)(n:¬0≤M)(h:M=a∨M=b∨M=c)(n':¬M'≤0)(h':M'=a∨M'=b∨M'=c):False:=by
 rcases x with ⟨x1,x2,x3⟩ | ⟨x1,x2,x3⟩
 ·rcases h with rfl | rfl | rfl<;>exact n (by assumption)
 rcases h' with rfl | rfl | rfl<;>exact n' (by assumption)
theorem Uh (w:World)(p:AY)(lo:List Str)(mean:CG→Option Value)(mg mb:Str→Option Value)
  (gd:Option (List Code)) (cn:Str) (cs:Scope) (a:Addr) (ccd:Value) (cl:List (Str×Addr)) (outer:List Env) (A₀:AO) (base h₀:Heap) (L:Addr) (m:Str→Option Value) (G:List (Addr×Obj)) (s:A4)
  (lT l0 l1 l2:Addr) (eT e0 e1 e2:Nat) (p0 p1 p2:List PT) (Q E:Value→A4→Prop)
  (B:Below A₀ base outer h₀) (F:Fr h₀ L s.heap m) (X:(Mine.K w.params).In h₀) (N:News h₀ L s.heap G) (T:Top p lo mean mg mb h₀) (hk:cs.kind = .function)
  (hT:(lT,A1 #[.ref l0,.ref l1,.ref l2] eT)∈G) (h0:(l0,A1 (BZ p0).toArray e0)∈G) (h1:(l1,A1 (BZ p1).toArray e1)∈G) (h2:(l2,A1 (BZ p2).toArray e2)∈G)
  (g0:∀e∈p0,(e.a,CP e)∈G) (g1:∀e∈p1,(e.a,CP e)∈G) (g2:∀e∈p2,(e.a,CP e)∈G)
  (b0:∀e∈p0,0≤e.i∧e.i≤4∧0≤e.j∧e.j≤4) (b1:∀e∈p1,0≤e.i∧e.i≤4∧0≤e.j∧e.j≤4) (b2:∀e∈p2,0≤e.i∧e.i≤4∧0≤e.j∧e.j≤4)
  (hret:∀h' tk',Fr h₀ L h' m→News h₀ L h' G→Q (.bool (H4 (p0.map ptP) (p1.map ptP) (p2.map ptP))) { s with heap:=h',toks:=tk' }) :
  wpAny (model (rw_nq0317_02.prog) w) (Bi 340 400 gd cn cs L a ccd cl outer) (call (.ref 383) [.ref lT]) Q E s:=by
 k_with "+19" =>skip
 k_with "19" =>(fail_if_success k_extra "+20")
 k_with "k" =>k_extra "19"
 k_with "ap" =>k_extra "19"
 k_with "bd" =>k_extra "19"
 k_with "exec For Tuple Subscript" =>(k_extra "19";refine Af ?_)
 k_with "be" =>k_extra "19"
 k_with "ao" =>k_extra "19"
 k_with "bf" =>k_extra "19"
 have N0:News h₀ L s.heap ((lT,A1 #[.ref l0,.ref l1,.ref l2] eT)::G):=Bo N (A6 hT fun q hq=>hq);clear N;revert X
 k_fill
 intro X;refine BN ?_
 k_dflt (refine' HJ (binds:=[(A0 "told",.ref lT)]) ?k1 ?k2 ?k3 ?k4 ?k5 ?kA ?kF ?kK ?k6 ?k7 ?k8 ?k9 ?kB ?_ ?c2 ?c3 ?c4 ?c5;(case kA=>exact rfl);(case kF=>exact rfl);(case kK=>assumption);(case k1=>k_asm);(case k2=>k_asm);(case k3=>k_asm);(case k4=>k_asm);(case k5=>k_asm);(case k6=>k_is);(case k7=>k_is);(case k8=>ktr_room);(case k9=>exact CA rfl);(case c5=>decide);(case kB=>exact locs rfl);(case c2=>exact rfl);(case c3=>exact rfl);(case c4=>exact rfl);k_whole;intro g' L' h' FG' F' N' B' X' T';(try dsimp only);(try k_fold))
 refine (let A9:AO:=_;(?_:wpAny _ A9 _ _ _ _));k_steps;refine ⟨?_⟩;refine ED ?_ (by intro _;with_unfolding_all rfl);k_steps;refine ⟨?_⟩;rename Fr _ _ _ _=>F1;rename News _ _ _ _=>N1;have N2:=Bo N1 (fun q hq=>.tail _ hq);refine L4 (l:=l0) (items:=(BZ p0).toArray) (ep:=e0) Jc rfl (by passes_own) (LJ1 lT G fun i=>∀p∈(p0.map ptP).take i,(p1.map ptP).any (fun q=>(p2.map ptP).any fun r=>H3 p q r)=false) (fun i m nx h=>by obtain ⟨_,rfl,_⟩:=h;exact h0) F1 N2 ⟨rfl,rfl,fun p hp=>by cases hp⟩ ?turn1 ?done1
 case turn1=>
  clear F1 N1 N2;rintro I i v m₁ nx oI h tk hv ⟨k1,rfl,hP⟩ hnI F3 N3;refine Aq (EC hv) ?_;intro e he e92;subst e92;have F4:=lm1 F3 k1;have N4:=Bo N3 (A6 (.head _) (A6 (.tail _ (g0 e (AK he))) (A6 (.tail _ hT) fun q hq=>.tail _ hq)));clear F3 N3;k_steps;refine ⟨?_⟩;refine ED ?_ (by intro _;with_unfolding_all rfl);k_steps;refine ⟨?_⟩;rename Fr _ _ _ _=>F5;rename News _ _ _ _=>N5;refine L4 (l:=l1) (items:=(BZ p1).toArray) (ep:=e1) Jc rfl (by passes_own) (LJ2 lT e.i e.j e.t1 e.t2 ((I,oI)::G) fun i=>∀q∈(p1.map ptP).take i,(p2.map ptP).any (fun r=>H3 (ptP e) q r)=false) (fun i m nx h=>by obtain ⟨_,_,_,rfl,_⟩:=h;exact .tail _ h1) F5 (Bo N5 (A6 (.head _) fun q hq=>mT3 hq)) ⟨rfl,rfl,rfl,rfl,fun p hp=>by cases hp⟩ ?turn2 ?done2
  case turn2=>
   clear F5 N5;rintro I2 i2 v2 m₂ nx oI2 h tk hv2 ⟨k1,k2,k3,rfl,hP2⟩ hnI2 F3 N3;refine Aq (EC hv2) ?_;intro f hf e92;subst e92;have F4:=lm2 F3 k1 k2 k3;have N4:=Bo N3 (A6 (.head _) (A6 (.tail _ (.tail _ (g1 f (AK hf)))) (A6 (.tail _ (.tail _ hT)) fun q hq=>.tail _ hq)));clear F3 N3;k_steps;refine ⟨?_⟩;refine ED ?_ (by intro _;with_unfolding_all rfl);k_steps;refine ⟨?_⟩;rename Fr _ _ _ _=>F5;rename News _ _ _ _=>N5;refine L4 (l:=l2) (items:=(BZ p2).toArray) (ep:=e2) Jc rfl (by passes_own) (LJ3 lT e.i e.j f.i f.j e.t1 e.t2 f.t1 f.t2 ((I2,oI2)::(I,oI)::G) fun i=>∀r∈(p2.map ptP).take i,H3 (ptP e) (ptP f) r=false) (fun i m nx h=>by obtain ⟨_,_,_,_,_,rfl,_⟩:=h;exact .tail _ (.tail _ h2)) F5 (Bo N5 (A6 (.head _) (A6 mH3 fun q hq=>mT4 hq))) ⟨rfl,rfl,rfl,rfl,rfl,rfl,fun p hp=>by cases hp⟩ ?turn3 ?done3
   case turn3=>
    clear F5 N5;rintro I3 i3 v3 m₃ nx oI3 h tk hv3 ⟨k1,k2,k3,k4,k5,rfl,hP3⟩ hnI3 F3 N3;refine Aq (EC hv3) ?_;intro r hr e92;subst e92;have F4:=lm3 F3 k1 k2 k3 k4 k5;have N4:=Bo N3 (A6 (.head _) (A6 (.tail _ (.tail _ (.tail _ (g2 r (AK hr))))) fun q hq=>.tail _ hq));clear F3 N3;have a0:=b0 e (AK he);have a1:=b1 f (AK hf);have a2:=b2 r (AK hr);k_steps
    ·rename [_,_,_]=([0,0,0]:List Int)=>hz;rename Fr _ _ _ _=>F9;rename News _ _ _ _=>N9;refine ⟨?_⟩;refine ⟨_,_,_,_,rfl,F9,Bo N9 (A6 mH2 fun q hq=>mT4 hq),hnI3,⟨rfl,rfl,rfl,rfl,rfl,rfl,Gt hP3 (Fs hr) (Rs ?_)⟩⟩;simp only [List.cons.injEq,and_true] at hz;exact fun h=>h.1 hz
    ·rename ¬[_,_,_]=([0,0,0]:List Int)=>hz;rename Fr _ _ _ _=>F9;rename News _ _ _ _=>N9;rename _∨_=>ha;rename _∧_∧_≤_=>hb;rename (0:Int)≤_=>hc;refine ⟨?_⟩;dsimp +zetaDelta only [LEnd];refine leaveK_ F9 N9 fun F12 N12=>?_;have hl:H4 (p0.map ptP) (p1.map ptP) (p2.map ptP)=true:=L6 (AK (Fs he)) (AK (Fs hf)) (AK (Fs hr)) (leadT_iff.mpr ⟨?_,?_⟩)
     ·rw [hl] at hret;exact hret _ _ F12 (Bo N12 fun q hq=>mT6 hq)
     ·intro h;exact hz (by obtain ⟨x1,x2,x3⟩:=h;unfold ptP at x1 x2 x3;dsimp only at x1 x2 x3;rw [x1,x2,x3])
     left
     unfold ptP;dsimp only;exact ⟨AP hc hb.1,AP hc hb.2.1,AP hc hb.2.2⟩
    ·rename ¬[_,_,_]=([0,0,0]:List Int)=>hz;rename Fr _ _ _ _=>F9;rename News _ _ _ _=>N9;rename _∨_=>ha;rename _∧_∧_≤_=>hb;rename _≤(0:Int)=>hc;refine ⟨?_⟩;dsimp +zetaDelta only [LEnd];refine leaveK_ F9 N9 fun F12 N12=>?_;have hl:H4 (p0.map ptP) (p1.map ptP) (p2.map ptP)=true:=L6 (AK (Fs he)) (AK (Fs hf)) (AK (Fs hr)) (leadT_iff.mpr ⟨?_,?_⟩)
     ·rw [hl] at hret;exact hret _ _ F12 (Bo N12 fun q hq=>mT6 hq)
     ·intro h;exact hz (by obtain ⟨x1,x2,x3⟩:=h;unfold ptP at x1 x2 x3;dsimp only at x1 x2 x3;rw [x1,x2,x3])
     right
     unfold ptP;dsimp only;exact ⟨AP hb.1 hc,AP hb.2.1 hc,AP hb.2.2 hc⟩
    rename Fr _ _ _ _=>F9;rename News _ _ _ _=>N9;refine ⟨?_⟩;refine ⟨_,_,_,_,rfl,F9,Bo N9 (A6 mH2 fun q hq=>mT4 hq),hnI3,⟨rfl,rfl,rfl,rfl,rfl,rfl,Gt hP3 (Fs hr) (Rs ?_)⟩⟩;rintro ⟨x1,x2⟩;unfold ptP at x2;dsimp only at x2;exact ldf x2 ‹¬(0:Int)≤_› ‹_› ‹¬_≤(0:Int)› ‹_›
   clear F5 N5;rintro m₃ nx h tk ⟨k1,k2,k3,k4,k5,rfl,hP3⟩ F3 N3;k_steps;refine ⟨?_⟩;refine ⟨_,_,_,_,rfl,F3,N3,hnI2,⟨k1,k2,k3,rfl,Gt hP2 (Fs hf) (Td (Jw hP3))⟩⟩
  clear F5 N5;rintro m₃ nx h tk ⟨k1,k2,k3,rfl,hP2⟩ F3 N3;k_steps;refine ⟨?_⟩;refine ⟨_,_,_,_,rfl,F3,N3,hnI,⟨k1,rfl,Gt hP (Fs he) (Td (Jw hP2))⟩⟩
 clear F1 N1 N2;rintro m₃ nx h tk ⟨k1,rfl,hP⟩ F3 N3;k_steps;rename News h₀ L _ _=>kN;rename Fr h₀ L _ _=>kF;have hl:H4 (p0.map ptP) (p1.map ptP) (p2.map ptP)=false:=Td (Jw hP);rw [hl] at hret;exact hret _ _ kF kN
structure LE where
 a:Addr
 i:Int
 j:Int
 k:Int
 t1:Tok
 t2:Tok
 t3:Tok
 e:Nat
noncomputable abbrev GB (e:LE):Obj:=A1 #[.int e.i e.t1,.int e.j e.t2,.int e.k e.t3] e.e
noncomputable def By (l:List LE):List Value:=l.map fun e=>A3 e.a
noncomputable def Hz (l:List LE):List (Addr×Obj):=l.map fun e=>(e.a,GB e)
noncomputable def leT (e:LE):TR:=(e.i,e.j,e.k)
noncomputable def shT (a b:Int)(t:TR):TR:=(a+t.1,b+t.2.1,t.2.2)
inductive Hb:Str→Str→List TR→Prop
 | nil {x y:Str} (h:∀r,1≤r→r≤(x.length:Int)→Pl x y r):Hb x y []
 | cons {x y:Str} {k pl rn:Int} {l1 l2:List TR} (h:LongRel x y k pl rn) (h1:1≤rn) (h2:0≤pl) (c1:Hb (Bh x none (some k)) (Bh y none (some pl)) l1) (c2:Hb (Bh x (some (k+rn)) none) (Bh y (some (pl+rn)) none) l2) :
   Hb x y (l1++(k,pl,rn)::l2.map (shT (k+rn) (pl+rn)))
inductive CtJ (L':Addr)(m₀:Str→Option Value)(news:List (Addr×Obj))(P:Nat→Prop)(i:Nat)(m:Str→Option Value)(nx:List (Addr×Obj)):Prop
 | mk (oP oK oR:Obj) (vP vK vR:Option Value) (hm:m=m₀) (hn:nx=(L'+1+1+1,oP)::(L'+1+1,oK)::(L'+1,oR)::news) (dP:oP.data = .cell vP) (dK:oK.data = .cell vK) (dR:oR.data = .cell vR) (hP:P i):CtJ L' m₀ news P i m nx
inductive CtK (L' I:Addr)(oI oR:Obj)(m₀:Str→Option Value)(news:List (Addr×Obj))(P:Nat→Prop)(i:Nat)(m:Str→Option Value)(nx:List (Addr×Obj)):Prop
 | mk (oP oK:Obj) (vP vK:Option Value) (hm:m=m₀) (hn:nx=(I,oI)::(L'+1+1+1,oP)::(L'+1+1,oK)::(L'+1,oR)::news) (dP:oP.data = .cell vP) (dK:oK.data = .cell vK) (hP:P i):CtK L' I oI oR m₀ news P i m nx
theorem VP {h₀ h:Heap}{L c:Addr}{o o':Obj}{pre suf:List (Addr×Obj)}(N:News h₀ L h (CD c o' (pre++(c,o)::suf)))(h1:∀p∈pre,p.1≠c)(h2:∀p∈suf,p.1≠c):News h₀ L h (pre++(c,o')::suf):=
 Bo N fun q hq=>AF hq (fun hq=>A8 (maL _ hq) (h1 q hq)) fun hq=>AH hq (AV (maR _ (.head _))) fun hq=>A8 (maR _ (.tail _ hq)) (h2 q hq)
theorem VN {x y:Str}{k run:Int}(h:0≤KZ y (Bh x (some k) (some (k+run)))):occ x y k run=true:=by
 unfold KZ at h;unfold occ;generalize Kd y (Bh x (some k) (some (k+run))) 0 y.length 1=l at h
 cases l with
 | nil=>exact absurd h (by decide)
 | cons a l=>rfl
theorem VO {x y:Str}{k run:Int}(h:¬0≤KZ y (Bh x (some k) (some (k+run)))):occ x y k run=false:=by
 unfold KZ at h;unfold occ;generalize Kd y (Bh x (some k) (some (k+run))) 0 y.length 1=l at h
 cases l with
 | nil=>rfl
 | cons a l=>exact absurd (Ag a) h
structure LJ where
 es:List LE
 ep:Nat
theorem KC {x y:Str}{l:List TR}(h:Hb x y l):l.length≤x.length:=by
 induction h with
 | nil _=>exact B0 _
 | @cons x y k pl rn l1 l2 h h1 h2 c1 c2 i1 i2=>
  rcases h with ⟨_,_,h3,_⟩ | ⟨_,h3,h4,h5,_⟩
  ·lia
  have a1:=(fact_slice_ns x k).1 h4 (by lia);have a2:=(fact_slice_sn x (k+rn)).1 (by lia) (by lia);rw [Ai,CF,AB];lia
noncomputable abbrev TK {h₀ h:Heap}{L:Addr}{m:Str→Option Value}(_:Fr h₀ L h m):Str→Option Value:=m
theorem Jn {es:List LE}{i:Nat}{v:Value}(hv:(By es).toArray[i]? = some v):∃e,es[i]? = some e∧A3 e.a=v:=by
 unfold By at hv;rw [Bj,AX] at hv
 cases he:es[i]? with
 | none=>rw [he] at hv;cases hv
 | some e=>rw [he] at hv;exact ⟨e,rfl,BM hv⟩
set_option tactic.hygienic true in
theorem Uz (w:World)(p:AY)(lo:List Str)(mean:CG→Option Value)(mg mb:Str→Option Value)
  (gd:Option (List Code)) (cn:Str) (cs:Scope) (a:Addr) (ccd:Value) (cl:List (Str×Addr)) (outer:List Env) (A₀:AO) (base h₀:Heap) (L:Addr) (m:Str→Option Value) (news:List (Addr×Obj)) (s:A4)
  (x y:Str) (tx ty:Tok) (n D U:Nat) (Q E:Value→A4→Prop)
  (ih:1≤x.length→∀(cn:Str) (cs:Scope) (a:Addr) (ccd:Value) (cl:List (Str×Addr)) (outer:List Env) (A₀:AO) (base h₀:Heap) (L:Addr) (m:Str→Option Value) (news:List (Addr×Obj)) (s:A4) (x y:Str) (tx ty:Tok) (Q E:Value→A4→Prop),
   Below A₀ base outer h₀→Fr h₀ L s.heap m→(Mine.K w.params).In h₀→News h₀ L s.heap news→Top p lo mean mg mb h₀→cs.kind = .function→x.length≤n→y.length≤4→
   (∀D ep es h' tk',Hb x y (es.map leT)→(∀p∈news,p.1≠D∧∀e∈es,p.1≠e.a)→Fr h₀ L h' m→News h₀ L h' ((D,A1 (By es).toArray ep)::(Hz es++news))→Q (.ref D) { s with heap:=h',toks:=tk' })→
   wpAny (model (rw_nq0317_02.prog) w) (Bi (D+5) (U+10) gd cn cs L a ccd cl outer) (call (.ref 376) [.str x tx,.str y ty]) Q E s)
  (B:Below A₀ base outer h₀) (F:Fr h₀ L s.heap m) (X:(Mine.K w.params).In h₀) (N:News h₀ L s.heap news) (T:Top p lo mean mg mb h₀) (hk:cs.kind = .function)
  (hn:n≤3) (hD:D≤340) (hU:U≤400) (hx:x.length≤n+1) (hy:y.length≤4)
  (hret:∀D ep es h' tk',Hb x y (es.map leT)→(∀p∈news,p.1≠D∧∀e∈es,p.1≠e.a)→Fr h₀ L h' m→News h₀ L h' ((D,A1 (By es).toArray ep)::(Hz es++news))→Q (.ref D) { s with heap:=h',toks:=tk' }) :
  wpAny (model (rw_nq0317_02.prog) w) (Bi D U gd cn cs L a ccd cl outer) (call (.ref 376) [.str x tx,.str y ty]) Q E s:=by
 k_with "+20" =>skip
 k_with "20" =>(fail_if_success k_extra "+21")
 k_with "k" =>k_extra "20"
 k_with "j" =>k_extra "20"
 k_with "bg" =>k_extra "20"
 k_with "bh" =>k_extra "20"
 k_with "t" =>k_extra "20"
 k_with "bd" =>k_extra "20"
 k_with "bf" =>k_extra "20"
 k_with "aj" =>k_extra "20"
 k_with "bi" =>k_extra "20"
 k_with "bj" =>k_extra "20"
 k_with "an" =>k_extra "20"
 revert X
 k_fill
 intro X;refine BN ?_
 k_dflt (refine' code_defC (binds:=[(A0 "one",.str x tx),(A0 "two",.str y ty)]) ?k1 ?k2 ?k3 ?k4 ?k5 ?kA ?kF ?kK ?k6 ?k7 ?k8 ?k9 ?kB ?kD ?_ ?c2 ?c3 ?c4;(case kA=>exact rfl);(case kF=>exact rfl);(case kK=>assumption);(case k1=>k_asm);(case k2=>k_asm);(case k3=>k_asm);(case k4=>k_asm);(case k5=>k_asm);(case k6=>k_is);(case k7=>k_is);(case k8=>ktr_room);(case k9=>exact CA rfl);(case kB=>exact rfl);(case kD=>decide +kernel);(case c2=>exact rfl);(case c3=>exact rfl);(case c4=>exact rfl);k_whole;intro g' L' h' tk' cells' FG' F' N' Y' B' X' T' l1;k_cells Y';(try simp only [BJ,BS] at N');(try dsimp only);(try k_fold))
 refine (let A9:AO:=_;let E9:Value→A4→Prop:=_;(?_:wpAny _ A9 _ _ E9 _));refine (let cA:Addr:=L'+1;let cB:Addr:=L'+1+1;let cC:Addr:=L'+1+1+1;?_);rename_i o1 o2 o3 d1 d2 d3;have d1':o1.data = .cell none:=d1;have d2':o2.data = .cell none:=d2;have d3':o3.data = .cell none:=d3;clear d1 d2 d3;refine (let m1:Str→Option Value:=fun z=>if z=A0 "two" then some (.str y ty) else if z=A0 "one" then some (.str x tx) else none;?_);have F1:Fr g' L' h' m1:=F';clear F';rename News g' L' _ _=>N1;k_steps;refine ⟨?_⟩;refine ED ?_ (by intro _;with_unfolding_all rfl);k_steps;refine ⟨?_⟩;rename Fr _ _ _ _=>F2;rename News _ _ _ _=>N2;rename OE _ _ _ _ _ _ _ _=>hR;refine Oe (n:=x.length) rfl (by passes_own) hR (small_down (by lia) (by lia) (by lia) (by lia)) (rangeSize_downNat _ _) (CtJ L' m1 news fun i=>∀r,(x.length:Int)-i<r→r≤(x.length:Int)→Pl x y r) F2 N2 ⟨o1,o2,o3,_,_,_,rfl,rfl,d1',d2',d3',fun r h1 h2=>absurd h1 (by lia)⟩ ?turn ?done
 case turn=>
  clear hR F2 N2 d1' d2' d3';rintro I i ti m₂ nx oI h tk hi ⟨oP,oK,oR,vP,vK,vR,rfl,rfl,dP,dK,dR,hP⟩ hnI F3 N3;have hL1:I≠cA:=(hnI _ mH2).symm;have hL2:I≠cB:=(hnI _ mH1).symm;have hL3:I≠cC:=(hnI _ (.head _)).symm;have hLn:∀p∈news,p.1≠I:=fun p hp=>hnI p (mT3 hp);have hn1:∀p∈news,p.1≠cA:=fun p hp=>A7 (AU (l1 p hp));have hn2:∀p∈news,p.1≠cB:=fun p hp=>A7 (AU (AU (l1 p hp)));have hn3:∀p∈news,p.1≠cC:=fun p hp=>A7 (AU (AU (AU (l1 p hp))));have h32:cC≠cB:=AN (Al _);have h31:cC≠cA:=AN (AU (Al _));have h21:cB≠cA:=AN (Al _);refine Ba (Dg F3 N3 mH3 dR rfl fun h4 oR4 F4 N4 dR4=>?_);have N5:=VP (pre:=[(I,oI),(cC,oP),(cB,oK)]) (suf:=news) N4 (fc1 ⟨hL1,fc1 ⟨h31,fc1 ⟨h21,AA _⟩⟩⟩) hn1;simp only [BJ,BS] at N5;clear F3 N3 N4 dR;refine CV ((x.length:Int)+(i:Int) * -1) ?_;intro run hrun;rw [←hrun] at dR4;k_with "+21" =>skip
  k_with "21" =>(fail_if_success k_extra "+22")
  k_with "k" =>k_extra "21"
  k_with "j" =>k_extra "21"
  k_with "bg" =>k_extra "21"
  k_with "bh" =>k_extra "21"
  k_with "t" =>k_extra "21"
  k_with "bd" =>k_extra "21"
  k_with "bf" =>k_extra "21"
  k_with "aj" =>k_extra "21"
  k_with "bi" =>k_extra "21"
  k_with "bj" =>k_extra "21"
  k_with "an" =>k_extra "21"
  k_steps;refine ⟨?_⟩;refine ED ?_ (by intro _;with_unfolding_all rfl);k_steps;refine ⟨?_⟩;rename Fr _ _ _ _=>F6;rename News _ _ _ _=>N6;rename OE _ _ _ _ _ _ _ _=>hR;have hr1:(x.length:Int)-run+1=((i+1:Nat):Int):=by lia
  rw [hr1] at hR;refine Oe (n:=i+1) rfl (by passes_own) hR (small_one (by lia) (by lia) (by lia) (by lia)) (by rw [rangeSize_nat];lia) (CtK L' I oI oR4 m1 news fun j=>∀k,0≤k→k<(j:Int)→occ x y k run=false) F6 N6 ⟨oP,oK,_,_,rfl,rfl,dP,dK,fun k h1 h2=>absurd h2 (by lia)⟩ ?turn2 ?done2
  case turn2=>
   clear hR F6 N6 dP dK;rintro I2 j tj m₂ nx oI2 h tk hj ⟨oP2,oK2,vP2,vK2,rfl,rfl,dP,dK,hP2⟩ hnI2 F7 N7;refine Ba (Dg F7 N7 mH3 dK rfl fun h8 oK8 F8 N8 dK8=>?_);have hJ1:I2≠cA:=(hnI2 _ mH3).symm;have hJ2:I2≠cB:=(hnI2 _ mH2).symm;have hJ3:I2≠cC:=(hnI2 _ mH1).symm;have hJI:I2≠I:=(hnI2 _ (.head _)).symm;have hJn:∀p∈news,p.1≠I2:=fun p hp=>hnI2 p (mT4 hp);have N9:=VP (pre:=[(I2,oI2),(I,oI),(cC,oP2)]) (suf:=(cA,oR4)::news) N8 (fc1 ⟨hJ2,fc1 ⟨hL2,fc1 ⟨h32,AA _⟩⟩⟩) (fc1 ⟨h21.symm,hn2⟩);simp only [BJ,BS] at N9;clear F7 N7 N8 dK;refine CV (0+(j:Int)*1) ?_;intro k hk0;rw [←hk0] at dK8;k_steps;rename Fr _ _ _ _=>F10;rename News _ _ _ _=>N10;rename (Bh x (some k) (some (k+run))).length≤x.length=>hsl;refine Dg F10 N10 mH2 dP rfl fun h11 oP11 F11 N11 dP11=>?_;have N12:=VP (pre:=[(I2,oI2),(I,oI)]) (suf:=(cB,oK8)::(cA,oR4)::news) N11 (fc1 ⟨hJ3,fc1 ⟨hL3,AA _⟩⟩) (fc1 ⟨h32.symm,fc1 ⟨h31.symm,hn3⟩⟩);simp only [BJ,BS] at N12;clear F10 N10 N11 dP;refine CV (KZ y (Bh x (some k) (some (k+run)))) ?_;intro pl hpl;rw [←hpl] at dP11;k_steps
   ·rename Fr _ _ _ _=>F13;rename News _ _ _ _=>N13;rename 0≤pl=>hpl0;rename (Bh x (some (k+run)) none).length≤x.length=>hs1;rename (Bh y (some (pl+run)) none).length≤y.length=>hs2;refine ⟨?_⟩;refine CK (Bi (D+5) (U+10) gd (A0 "_law_cut") _ L' 376 (.ref 375) _ (envX cn cs L a ccd cl::outer)) rfl (show D+1≤D+5 by lia) rfl rfl (show U+3≤U+10 by lia) ?_;refine ih (by lia) _ _ _ _ _ _ _ _ _ _ _ _ _ _ _ _ _ _ _ B' F13 X' N13 T' rfl (by have:=(fact_slice_sn x (k+run)).1 (by lia) (by lia);lia) (by lia) (fun D1 ep1 es1 h14 tk14 hc1 hoff1 F14 N14=>?_);have hl1:es1.length≤4:=by
     have:=KC hc1;rw [AB] at this;lia
    refine CV (Hz es1++news) ?_;intro tl1 htl1;have N15:News g' L' h14 ((D1,A1 (By es1).toArray ep1)::(I2,oI2)::(I,oI)::(cC,oP11)::(cB,oK8)::(cA,oR4)::tl1):=Bo N14 (A6 (.head _) (A6 (.tail _ (maR _ (.head _))) (A6 (.tail _ (maR _ mH1)) (A6 (.tail _ (maR _ mH2)) (A6 (.tail _ (maR _ mH3)) (A6 (.tail _ (maR _ mH4)) fun q hq=>by
     rw [htl1] at hq;exact AF hq (fun hq=>.tail _ (maL _ hq)) fun hq=>.tail _ (maR _ (mT5 hq))))))))
    clear F13 N13 N14;k_steps;refine ⟨?_⟩;rename Fr _ _ _ _=>F16;rename News _ _ _ _=>N16;refine HD (h₀:=g') (L:=L') (m:=TK F16) (by rfl) (by with_unfolding_all rfl) (by decide) (by rfl) (by decide) ?_;k_steps;refine ⟨?_⟩;rename Fr _ _ _ _=>F17;rename News _ _ _ _=>N17;refine CV ((D1,A1 (By es1).toArray ep1)::(I2,oI2)::(I,oI)::(cC,oP11)::(cB,oK8)::(cA,oR4)::tl1) ?_;intro nw hnw;refine V1 (σ:=LJ) (.list _ _ _ _) (fun I D C=>II) rfl ?hv rfl (BI N17 (.head _)) F17 (hnw▸N17) (fun e=>(N17 _ (.head _)).2.1 e.symm)
      (fun D c=>(D,A1 (By c.es).toArray c.ep)::(Hz c.es++nw)) (fun D i c m₁=>c.es.map leT=((es1.map leT).take i).map (shT (k+run) (pl+run))∧∀e∈c.es,e.a≠D∧∀p∈nw,p.1≠e.a) (fun D oD=>⟨[],0⟩) (fun D oD ho=>by subst ho;rfl) (fun D oD ho=>⟨rfl,AA _⟩) ?Dz ?cdone
    case hv=>
     intro i v hv;refine Aq (Jn hv) ?_;intro e he hve;exact ⟨_,hve.symm⟩
    case Dz=>
     intro C2 D3 Ic i v c oC m₁ h t7 own2 E' hDC hCI hDI hoff hv1 hP hnw4 hown hof hn F2 N2;refine Aq (Jn hv1) ?_;intro e he e92;subst e92;have hmx:∀q∈Hz c.es++nw++own2,q∈(C2,oC)::(D3,A1 (By c.es).toArray c.ep)::(e.a,GB e)::(cC,oP11)::(cB,oK8)::(cA,oR4)::(Hz c.es++nw++own2):=fun q hq=>mT6 hq;have N6:News g' L' h ((C2,oC)::(D3,A1 (By c.es).toArray c.ep)::(e.a,GB e)::(cC,oP11)::(cB,oK8)::(cA,oR4)::(Hz c.es++nw++own2)):=by
      have hnws:∀q∈nw,q∈(C2,oC)::((D3,A1 (By c.es).toArray c.ep)::(Hz c.es++nw)++own2):=fun q hq=>.tail _ (maL _ (.tail _ (maR _ hq)));refine Bo N2 (A6 (.head _) (A6 mH1 (A6 (hnws _ ?_) (A6 (hnws _ ?_) (A6 (hnws _ ?_) (A6 (hnws _ ?_) fun q hq=>mT2 hq))))))
      ·rw [hnw,htl1];exact mT6 (maL _ (mm2 ⟨e,AK he,rfl⟩))
      ·rw [hnw];exact mH3
      ·rw [hnw];exact mH4
      rw [hnw];exact mH5
     dsimp only [TK] at F2;clear N2 N17;refine CV (Hz c.es++nw++own2) ?_;intro tlx htlx;rw [←htlx] at N6 hmx;have hnw9:∀q∈nw,q.1≠C2∧q.1≠D3∧q.1≠Ic:=hoff;have hownC:∀p∈own2,p.1≠C2∧p.1≠D3:=fun p hp=>by
      rcases hof p hp with q | q
      ·exact ⟨q▸hCI,q▸hDI⟩
      have:=hoff (D1,A1 (By es1).toArray ep1) (hnw▸.head _);exact ⟨q▸this.1,q▸this.2.1⟩
     have hcD:∀p∈Hz c.es,p.1≠D3:=fun p hp=>by
      refine mmE hp ?_;intro e' he';exact (hP.2 e' he').1
     have hea:(e.a,GB e)∈nw:=by rw [hnw,htl1];exact mT6 (maL _ (mm2 ⟨e,AK he,rfl⟩))
     have hcP:(cC,oP11)∈nw:=by rw [hnw];exact mH3
     have hcK:(cB,oK8)∈nw:=by rw [hnw];exact mH4
     have hcR:(cA,oR4)∈nw:=by rw [hnw];exact mH5
     have htC:∀p∈tlx,p.1≠C2∧p.1≠D3:=fun p hp=>by
      rw [htlx] at hp;refine AF hp (fun hp=>AF hp (fun hp=>?_) fun hp=>?_) fun hp=>hownC p hp
      ·exact ⟨fun q=>hnw4 p (.tail _ (maL _ hp)) (q▸.head _),hcD p hp⟩
      exact ⟨(hoff p hp).1,(hoff p hp).2.1⟩
     have hoC:∀p∈(D3,A1 (By c.es).toArray c.ep)::(e.a,GB e)::(cC,oP11)::(cB,oK8)::(cA,oR4)::tlx,p.1≠C2:=
      fc1 ⟨hDC,fc1 ⟨(hoff _ hea).1,fc1 ⟨(hoff _ hcP).1,fc1 ⟨(hoff _ hcK).1,fc1 ⟨(hoff _ hcR).1,fun p hp=>(htC p hp).1⟩⟩⟩⟩⟩
     k_steps;rename Fr _ _ _ _=>F7;rename News _ _ _ _=>N7;refine G7 F7 N7 hn hoC fun h8 oC8 F8 N8 hn8=>?_;refine Dd (Ba (G7 F8 N8 hn8 hoC fun h9 oC9 F9 N9 hn9=>?_));refine Dd (Ba (G7 F9 N9 hn9 hoC fun h10 oC10 F10 N10 hn10=>?_));refine MM ?_;clear F7 N7 F8 N8 hn8 F9 N9 hn9;refine CV (α:=Str→Option Value) (fun y=>if y=A0 "size" then some (A5 e.k e.t3) else (fun y=>if y=A0 "j" then some (A5 e.j e.t2) else (fun y=>if y=A0 "i" then some (A5 e.i e.t1) else m₁ y) y) y) ?_;intro m₃ hm₃;have hz1:m₃ (A0 "i")=some (.int e.i e.t1):=by rw [hm₃];rfl
     have hz2:m₃ (A0 "j")=some (.int e.j e.t2):=by rw [hm₃];rfl
     have hz3:m₃ (A0 "size")=some (.int e.k e.t3):=by rw [hm₃];rfl
     rw [←hm₃] at hn10;refine Cn ?_;k_steps;refine GR ?_;k_with "i" =>k_extra "21"
     k_steps;rename News _ _ _ _=>N11;rename Fr _ _ _ _=>F11;rename _∧_∧_∧_∧_∧_∧_=>l11;rename_i D5 _;refine ⟨?_⟩;have hcl:c.es.length≤4:=by
      have:=congrArg Bk hP.1;simp only [AB,Bm] at this;lia
     refine CW F11 N11 mH2 (Bw (by unfold By;rw [Ae,AB];lia)) fun h12 F12 N12=>?_;clear F11 N11;show HF _ _ _ _ _ _ _ _ _ _ _;have hmy:∀q∈tlx,q∈CD D3 (A1 ((By c.es).toArray.push (.ref D5)) (c.ep+1)) ((D5,GB ⟨D5,k+run+e.i,pl+run+e.j,e.k,t7+1+1+1+1,t7+1+1+1+1+1+1,e.t3,0⟩)::(C2,oC10)::(D3,A1 (By c.es).toArray c.ep)::(e.a,GB e)::(cC,oP11)::(cB,oK8)::(cA,oR4)::tlx):=
      fun q hq=>A8 (mT7 hq) (htC q hq).2
     have e1:(By (c.es++[(⟨D5,k+run+e.i,pl+run+e.j,e.k,t7+1+1+1+1,t7+1+1+1+1+1+1,e.t3,0⟩:LE)])).toArray=(By c.es).toArray.push (.ref D5):=by simp [By]
     have e2:Hz (c.es++[(⟨D5,k+run+e.i,pl+run+e.j,e.k,t7+1+1+1+1,t7+1+1+1+1+1+1,e.t3,0⟩:LE)])=Hz c.es++[(D5,GB ⟨D5,k+run+e.i,pl+run+e.j,e.k,t7+1+1+1+1,t7+1+1+1+1+1+1,e.t3,0⟩)]:=by simp [Hz]
     have hD5t:∀p∈tlx,p.1≠D5:=fun p hp=>A7 (Cs l11.2.2.2.2.2.2 p hp);refine HY (⟨c.es++[⟨D5,k+run+e.i,pl+run+e.j,e.k,t7+1+1+1+1,t7+1+1+1+1+1+1,e.t3,0⟩],c.ep+1⟩:LJ) F12 N12 (oC:=oC10) (m':=m₃) (A8 mH1 hDC.symm) hn10 (fun q hq=>?_) (fun q hq=>?_) (fun q hq hm=>?_) ⟨?_,?_⟩
     ·dsimp only at hq;rw [e1,e2] at hq;refine AH hq (AV mH2) fun hq=>?_;refine AF hq (fun hq=>AF hq (fun hq=>?_) fun hq=>?_) fun hq=>?_
      ·exact hmy q (htlx▸maL _ (maL _ hq))
      ·rw [ms1 hq];exact A8 (.head _) (AN l11.2.1)
      exact hmy q (htlx▸maL _ (maR _ hq))
     ·exact hmy q (htlx▸maR _ hq)
     ·dsimp only at hq;rw [e2] at hq;rcases mc1 hq with rfl | hq
      ·exact hnw4 _ (.head _) hm
      refine AF hq (fun hq=>AF hq (fun hq=>?_) fun hq=>?_) fun hq=>?_
      ·exact hnw4 q (.tail _ (maL _ hq)) hm
      ·rw [ms1 hq] at hm;rcases mc1 hm with q1 | hm
       ·exact absurd l11.1 (by rw [show D5=C2 from q1];exact Av _)
       refine Bp hown ?_;(try clear hown);intro oo ho;exact hD5t _ (htlx▸maR _ ho) (ms1 hm).symm
      exact hnw4 q (.tail _ (maR _ hq)) hm
     ·rw [AI,hP.1,CB,AX,he,AI];rfl
     intro e' he';rcases Cf.mp he' with h | h
     ·exact hP.2 e' h
     rw [ms1 h];refine ⟨AN l11.2.1,fun p hp=>hD5t p (htlx▸maL _ (maR _ hp))⟩
    intro C2 D3 c oC m' h2 tk2 hDC hoff hP F2 N2 hn2 hnw4;show Ec _ _ _ _ _ _ _ _ _;refine Fc (L:=L') rfl rfl rfl F2 N2 hn2 hnw4 fun h3 tk3 F3 N3=>?_;dsimp only [TK] at F3;clear F2 N2 N17;obtain ⟨es3,ep3⟩:=c;refine CL hP ?_;(try clear hP);intro hP1 hP2';dsimp only at hP1 hP2' N3;rw [BA (by unfold By;rw [Ae,AB,AB];exact Ap _)] at hP1;have hnwc:∀q∈news,q∈nw:=fun q hq=>by rw [hnw,htl1];exact mT6 (maR _ hq)
    refine CV (Hz es3++news) ?_;intro tl3 htl3;have N4:News g' L' h3 ((D3,A1 (By es3).toArray ep3)::(cC,oP11)::(cB,oK8)::(cA,oR4)::tl3):=by
     refine Bo N3 (A6 (.head _) (A6 (.tail _ (maR _ ?_)) (A6 (.tail _ (maR _ ?_)) (A6 (.tail _ (maR _ ?_)) fun q hq=>?_))))
     ·rw [hnw];exact mH3
     ·rw [hnw];exact mH4
     ·rw [hnw];exact mH5
     rw [htl3] at hq;exact AF hq (fun hq=>.tail _ (maL _ hq)) fun hq=>.tail _ (maR _ (hnwc q hq))
    clear N3;k_with "aj" =>k_extra "21"
    k_with "bf" =>k_extra "21"
    k_with "an" =>k_extra "21"
    k_steps;rename Fr _ _ _ _=>F5;rename News _ _ _ _=>N5;refine ⟨?_⟩;refine CK (Bi (D+5) (U+10) gd (A0 "_law_cut") _ L' 376 (.ref 375) _ (envX cn cs L a ccd cl::outer)) rfl (show D+1≤D+5 by lia) rfl rfl (show U+3≤U+10 by lia) ?_;refine ih (by lia) _ _ _ _ _ _ _ _ _ _ _ _ _ _ _ _ _ _ _ B' F5 X' N5 T' rfl (by have:=(fact_slice_ns x k).1 (by lia) (by lia);lia) (by lia) (fun D4 ep4 es4 h24 tk24 hc4 hoff4 F24 N24=>?_);have hl3:es3.length≤4:=by
     have:=congrArg Bk hP1;simp only [AB] at this;lia
    have hl4:es4.length≤4:=by
     have:=KC hc4;rw [AB] at this;lia
    refine CV (Hz es4++tl3) ?_;intro tl5 htl5;have N25:News g' L' h24 ((D4,A1 (By es4).toArray ep4)::(D3,A1 (By es3).toArray ep3)::(cC,oP11)::(cB,oK8)::(cA,oR4)::tl5):=Bo N24 (A6 (.head _) (A6 (.tail _ (maR _ (.head _))) (A6 (.tail _ (maR _ mH1)) (A6 (.tail _ (maR _ mH2)) (A6 (.tail _ (maR _ mH3)) fun q hq=>by
     rw [htl5] at hq;exact AF hq (fun hq=>.tail _ (maL _ hq)) fun hq=>.tail _ (maR _ (mT4 hq)))))))
    clear F5 N5 N24;k_steps;rename Fr _ _ _ _=>F6;rename News _ _ _ _=>N6;refine ⟨?_⟩;rename_i D5 _ l5 D6 _ _;refine add_arrays F6 N6 (BI N6 mH2) (BI N6 (.head _)) (fun h9 F9 N9=>?_) (Bw (by unfold By;simp;lia));clear F6 N6;k_steps;rename Fr _ _ _ _=>F6;rename News _ _ _ _=>N6;refine ⟨?_⟩;refine add_arrays F6 N6 (BI N6 (.head _)) (BI N6 mH4) (fun h11 F11 N11=>?_) (Bw (by unfold By;simp;lia));have hfr:∀p∈news,p.1≠h9.objs.size:=fun p hp=>A7 (AZ (N6 p (mT8 (htl5▸maR _ (htl3▸maR _ hp)))).1);have hfr5:∀p∈news,p.1≠D5:=fun p hp=>A7 (Cs l5.2.2.2.2.2 p (htl5▸maR _ (htl3▸maR _ hp)));clear F6 N6;k_steps;refine ⟨?_⟩;dsimp +zetaDelta only [LEnd];refine leaveK_ F11 N11 fun F12 N12=>?_;refine Dn (⟨⟨D5,k,pl,run,_,_,_,0⟩,rfl,rfl,Bo N12 (A6 mH3 (AA _))⟩:∃e5:LE,e5.a=D5∧leT e5=(k,pl,run)∧News h₀ L h11 [(e5.a,GB e5)]) ?_;intro e5 a5 b5 N5;have e8:(((By es4).toArray.toList ++ #[A3 D5].toList).toArray.toList++(By es3).toArray.toList).toArray=(By (es4++e5::es3)).toArray:=by unfold By;simp [a5]
    rw [e8] at N12;refine hret _ 0 (es4++e5::es3) _ _ ?_ (fun p hp=>⟨hfr p hp,fun e he=>?_⟩) F12 (fun p hp=>?_)
    ·rw [AI,Bx,hP1,b5];exact .cons (.inr ⟨by lia,by lia,by lia,by lia,VN (hpl▸hpl0),hpl,fun k' h1 h2=>hP2 k' h1 (by lia),fun r h1 h2=>hP r (by lia) h2⟩) (by lia) hpl0 hc4 hc1
    ·rcases Cf.mp he with h | h
     ·exact (hoff4 p (mT4 (htl3▸maR _ hp))).2 e h
     rcases mc1 h with rfl | h
     ·rw [a5];exact hfr5 p hp
     exact (hP2' e h).2 p (hnwc p hp)
    refine AQ hp (N12 _ (.head _)) fun hp=>?_;refine AF hp (fun hp=>?_) fun hp=>?_
    ·unfold Hz at hp;rw [AI,Bx] at hp;refine AF hp (fun hp=>?_) fun hp=>?_
     ·exact N12 p (mT9 (htl5▸maL _ hp))
     refine AQ hp (N5 _ (.head _)) fun hp=>?_;exact N12 p (mT9 (htl5▸maR _ (htl3▸maL _ hp)))
    exact N12 p (mT9 (htl5▸maR _ (htl3▸maR _ hp)))
   rename ¬0≤pl=>hpl0;refine ⟨?_⟩;refine ⟨_,_,_,_,rfl,F11,N12,fc1 ⟨hJI.symm,fc1 ⟨hJ3.symm,fc1 ⟨hJ2.symm,fc1 ⟨hJ1.symm,hJn⟩⟩⟩⟩,⟨oP11,oK8,_,_,rfl,rfl,dP11,dK8,fun k' h1 h2=>?_⟩⟩
   by_cases he:k'=k
   ·subst he;exact VO (hpl▸hpl0)
   exact hP2 k' h1 (by lia)
  clear hR F6 N6 dP dK;rintro m₁ nx h tk ⟨oP2,oK2,vP2,vK2,rfl,rfl,dP,dK,hP2⟩ F7 N7;k_steps;refine ⟨?_⟩;refine ⟨_,_,_,_,rfl,F7,N7,fc1 ⟨hL3.symm,fc1 ⟨hL2.symm,fc1 ⟨hL1.symm,hLn⟩⟩⟩,⟨oP2,oK2,oR4,_,_,_,rfl,rfl,dP,dK,dR4,fun r h1 h2=>?_⟩⟩
  by_cases he:r=run
  ·subst he;intro k h3 h4;exact hP2 k h3 (by lia)
  exact hP r (by lia) h2
 clear hR F2 N2 d1' d2' d3';rintro m₁ nx h tk ⟨oP2,oK2,oR2,vP2,vK2,vR2,rfl,rfl,dP,dK,dR,hP2⟩ F7 N7;k_steps;rename_i D9 _ F9 N9 l9 kF kN _ _;exact hret D9 0 [] _ _ (.nil fun r h1 h2=>hP2 r (by lia) h2) (fun p hp=>⟨A7 (Cs l9.2.2.2 p hp),AA _⟩) kF (Bo kN (A6 (.head _) fun q hq=>mT4 hq))
theorem Vx (w:World)(p:AY)(lo:List Str)(mean:CG→Option Value)(mg mb:Str→Option Value)(gd:Option (List Code)):∀(n:Nat),n≤4→∀(D U:Nat),D+5*n≤340→U+10*n≤400→∀(cn:Str)(cs:Scope)(a:Addr)(ccd:Value)(cl:List (Str×Addr))(outer:List Env)(A₀:AO)(base h₀:Heap)(L:Addr)(m:Str→Option Value)(news:List (Addr×Obj))(s:A4)(x y:Str)(tx ty:Tok)(Q E:Value→A4→Prop),
   Below A₀ base outer h₀→Fr h₀ L s.heap m→(Mine.K w.params).In h₀→News h₀ L s.heap news→Top p lo mean mg mb h₀→cs.kind = .function→x.length≤n→y.length≤4→
   (∀D ep es h' tk',Hb x y (es.map leT)→(∀p∈news,p.1≠D∧∀e∈es,p.1≠e.a)→Fr h₀ L h' m→News h₀ L h' ((D,A1 (By es).toArray ep)::(Hz es++news))→Q (.ref D) { s with heap:=h',toks:=tk' })→
   wpAny (model (rw_nq0317_02.prog) w) (Bi D U gd cn cs L a ccd cl outer) (call (.ref 376) [.str x tx,.str y ty]) Q E s:=by
 intro n
 induction n with
 | zero=>
  intro _ D U hD hU _ _ _ _ _ _ _ _ _ _ _ _ _ x _ _ _ _ _ B F X N T hk hx hy hret;exact Uz w p lo mean mg mb gd _ _ _ _ _ _ _ _ _ _ _ _ _ x _ _ _ 0 D U _ _ (fun h=>absurd h (by lia)) B F X N T hk (by lia) (by lia) (by lia) (by lia) hy hret
 | succ n ih=>
  intro hn D U hD hU _ _ _ _ _ _ _ _ _ _ _ _ _ x _ _ _ _ _ B F X N T hk hx hy hret;exact Uz w p lo mean mg mb gd _ _ _ _ _ _ _ _ _ _ _ _ _ x _ _ _ n D U _ _ (fun _=>ih (by lia) (D+5) (U+10) (by lia) (by lia)) B F X N T hk (by lia) (by lia) (by lia) hx hy hret
theorem Vz (w:World)(p:AY)(lo:List Str)(mean:CG→Option Value)(mg mb:Str→Option Value)
  (gd:Option (List Code)) (cn:Str) (cs:Scope) (a:Addr) (ccd:Value) (cl:List (Str×Addr)) (outer:List Env) (A₀:AO) (base h₀:Heap) (L:Addr) (m:Str→Option Value) (news:List (Addr×Obj)) (s:A4) (x y:Str) (tx ty:Tok) (Q E:Value→A4→Prop)
  (B:Below A₀ base outer h₀) (F:Fr h₀ L s.heap m) (X:(Mine.K w.params).In h₀) (N:News h₀ L s.heap news) (T:Top p lo mean mg mb h₀) (hk:cs.kind = .function) (hx:x.length≤4) (hy:y.length≤4)
  (hret:∀D ep es h' tk',Hb x y (es.map leT)→(∀p∈news,p.1≠D∧∀e∈es,p.1≠e.a)→Fr h₀ L h' m→News h₀ L h' ((D,A1 (By es).toArray ep)::(Hz es++news))→Q (.ref D) { s with heap:=h',toks:=tk' }) :
  wpAny (model (rw_nq0317_02.prog) w) (Bi 320 360 gd cn cs L a ccd cl outer) (call (.ref 376) [.str x tx,.str y ty]) Q E s:=
 Vx w p lo mean mg mb gd 4 (Ap _) 320 360 (by decide) (by decide) _ _ _ _ _ _ _ _ _ _ _ _ _ _ _ _ _ _ _ B F X N T hk hx hy hret
structure OS where
 b:PB3
 t1:Tok
 t2:Tok
 t3:Tok
 jd:Addr
 jo:Obj
 jl:JL
structure IS where
 b:PB3
 t1:Tok
 t2:Tok
 t3:Tok
 no:Obj
 nl:JL
theorem IW {a b:Int}{i:Nat}(h:i<(b-a).toNat):(Hl a b).drop i=(a+(i:Int))::(Hl a b).drop (i+1):=by
 have e:(Hl a b)[i]? = some (a+(i:Int)):=by
  unfold Hl;rw [AX,LX h];rfl
 refine Bp (List.getElem?_eq_some_iff.mp e) ?_;intro hl he;rw [EX hl,he]
theorem U7 {h₀:Heap}{L:Addr}{wr:List Addr}{own:List (Addr×Obj)}{J:(Str→Option Value)→List (Addr×Obj)→Prop}{s₁ s₂:A4}{Q:Flow→A4→Prop}(h:Q .next s₂):TurnPost h₀ L wr own J s₁ Q .brk s₂:=h
theorem V2 {n:Nat}{k:Int}(h0:0≤k)(h1:k<n)(hx:n≤64) : -9223372036854775808<k∧k<9223372036854775808∧-(n:Int)≤k∧k<n:=⟨AR (by decide) h0,Int.lt_trans h1 (Ah (Int.ofNat_le.mpr hx) (by decide)),AP (Int.neg_nonpos_of_nonneg (Ag n)) h0,h1⟩
theorem L7 {x y:Str}{i j:Int}(i0:0≤i)(i1:i<x.length)(j0:0≤j)(j1:j<y.length)(h:(Tm x i==Tm y j)=true):∃c,x.cps[i.toNat]? = some c∧y.cps[j.toNat]? = some c:=by
 have e1:x.cps[i.toNat]? = some (x.cps[i.toNat]'((Iz i0).mpr i1)):=BU _;have e2:y.cps[j.toNat]? = some (y.cps[j.toNat]'(by have:y.length=y.cps.size:=rfl;lia)):=BU _;rw [item_meets i0 e1,item_meets j0 e2] at h;have:=one_inj.mp (eq_of_beq h);exact ⟨_,e1,by rw [this];exact e2⟩
def V8 (s:A4)(b:Bool)(s₂:A4):Prop:=b=false∧∃tk,s₂ = { s with toks:=tk }
theorem IE {prog:AY}{w:World}{A:AO}{E:Value→A4→Prop}{s:A4}{env:Env}{test:AW}{body:List Stmt}{pos:Pos}{Q:Flow→A4→Prop}(hE:DR (model prog w) A env E)
  (h:wpAny (model prog w) A (isTrue test env (eval test env)) (V8 s) E s) (hn:∀tk,Q .next { s with toks:=tk }):wpAny (model prog w) A (exec (.While test body [] pos) env) Q E s:=by
 refine whl_start 1 (whl_turn hE (Ac h (fun b s₂ hb=>?_) (fun _ _ e=>e)));obtain ⟨rfl,tk,rfl⟩:=hb;exact WhlIf.no rfl (Le (hn tk))
theorem PH {g h:Heap}{L:Addr}{m:Str→Option Value}{nm:Str}{v:Value}(F:Fr g L h m)(e:m nm=some v):Fr g L h (fun y=>if y=nm then some v else m y):=by
 have:(fun y=>if y=nm then some v else m y)=m:=by
  funext y
  by_cases h:y=nm
  ·rw [if_pos h,h,e]
  rw [if_neg h]
 rw [this];exact F
def IfQ (g:Heap)(L:Addr)(nm:Str)(n:Int)(m:Str→Option Value)(led:List (Addr×Obj))(s:A4)(fl:Flow)(s':A4):Prop:=fl = .next∧∃h' tk' t,s' = { s with heap:=h',toks:=tk' }∧Fr g L h' (fun y=>if y=nm then some (.int n t) else m y)∧News g L h' led
theorem Ry {M:Model}{A:AO}{E:Value→A4→Prop}{s:A4}{env:Env}{st:Stmt}{Q:Flow→A4→Prop}{g:Heap}{L:Addr}{m:Str→Option Value}{led:List (Addr×Obj)}(nm:Str)(n:Int)(F:Fr g L s.heap m)(N:News g L s.heap led)
  (h1:wpAny M A (exec st env) (IfQ g L nm n m led s) E s)
  (h2:∀h' tk' t,Fr g L h' (fun y=>if y=nm then some (.int n t) else m y)→News g L h' led→Q .next { s with heap:=h',toks:=tk' }):wpAny M A (exec st env) Q E s:=
 Ac h1 (fun fl s' h=>by
  obtain ⟨rfl,h',tk',t,rfl,F',N'⟩:=h;exact h2 h' tk' t F' N') fun _ _ e=>e
theorem VS {g h:Heap}{L:Addr}{p:Addr×Obj}{l:List (Addr×Obj)}(N:News g L h (p::l)):News g L h l:=Bo N fun _ hq=>.tail _ hq
set_option tactic.hygienic true in
theorem Xb (w:World)(p:AY)(lo:List Str)(mean:CG→Option Value)(mg mb:Str→Option Value)
  (gd:Option (List Code)) (cn:Str) (cs:Scope) (a:Addr) (ccd:Value) (cl:List (Str×Addr)) (outer:List Env) (A₀:AO) (base h₀:Heap) (L:Addr) (m:Str→Option Value) (G news:List (Addr×Obj)) (s:A4)
  (x y:Str) (xa:Addr) (alo ahi blo bhi:Int) (q1 q2 q3 q4:Tok) (Q E:Value→A4→Prop)
  (B:Below A₀ base outer h₀) (F:Fr h₀ L s.heap m) (X:(Mine.K w.params).In h₀) (N:News h₀ L s.heap (G++news)) (T:Top p lo mean mg mb h₀) (hk:cs.kind = .function)
  (hS:SM w x y xa G) (hx:x.length≤64) (hy:y.length≤64) (h1:0≤alo) (h2:alo≤ahi) (h3:ahi≤x.length) (h4:0≤blo) (h5:blo≤bhi) (h6:bhi≤y.length)
  (args:List Value) (va vb:Value) (hva:va = .int ahi q2∨va = .none∧ahi=(x.length:Int)) (hvb:vb = .int bhi q4∨vb = .none∧bhi=(y.length:Int))
  (hb:∀(f:FuncData) oc od osl,(Mine.K w.params).lookup 196=some ⟨oc,od,.func f,osl⟩→BindsTo s f ⟨args,[]⟩ [(A0 "self",.ref xa),(A0 "alo",.int alo q1),(A0 "ahi",va),(A0 "blo",.int blo q3),(A0 "bhi",vb)])
  (hret:∀q d t1 t2 t3 h' tk',Fr h₀ L h' m→News h₀ L h' ((q,Bs d (.int (flm x y alo ahi blo bhi).bi t1) (.int (flm x y alo ahi blo bhi).bj t2) (.int (flm x y alo ahi blo bhi).bs t3))::(G++news))→(∀p∈G++news,p.1≠q)→Q (.ref q) { s with heap:=h',toks:=tk' }) :
  wpAny (model (rw_nq0317_02.prog) w) (Bi 350 500 gd cn cs L a ccd cl outer) (call (.ref 196) args) Q E s:=by
 k_with "+22" =>skip
 k_with "22" =>(fail_if_success k_extra "+23")
 k_with "k" =>k_extra "22"
 k_with "b" =>k_extra "22"
 k_with "c" =>k_extra "22"
 k_with "d" =>k_extra "22"
 k_with "e" =>k_extra "22"
 k_with "f" =>k_extra "22"
 k_with "g" =>k_extra "22"
 k_with "bk" =>k_extra "22"
 k_with "bl" =>k_extra "22"
 k_with "bm" =>k_extra "22"
 k_with "u" =>k_extra "22"
 k_with "n" =>k_extra "22"
 k_with "o" =>k_extra "22"
 k_with "bn" =>k_extra "22"
 k_with "bo" =>k_extra "22"
 k_with "bp" =>k_extra "22"
 refine (let G9:Prop:=_;(?_:G9));obtain ⟨d,b2,bj,bp,o2,BB,tx,ty,t1,t2,t3,t4,t5,t6,t7,t8,t9,t10,l1,l2,rfl,hd,hB,lo2⟩:=hS;refine (?_:wpAny _ _ _ _ _ _);simp only [BJ] at N;refine CV (LZ BB++news) ?_;intro tl htl;rw [←htl] at N;revert X
 k_fill
 intro X;refine BN ?_
 k_dflt (refine' HJ (binds:=[(A0 "self",.ref xa),(A0 "alo",.int alo q1),(A0 "ahi",va),(A0 "blo",.int blo q3),(A0 "bhi",vb)]) ?k1 ?k2 ?k3 ?k4 ?k5 ?kA ?kF ?kK ?k6 ?k7 ?k8 ?k9 ?kB ?_ ?c2 ?c3 ?c4 ?c5;(case kA=>exact rfl);(case kF=>exact rfl);(case kK=>assumption);(case k1=>k_asm);(case k2=>k_asm);(case k3=>k_asm);(case k4=>k_asm);(case k5=>k_asm);(case k6=>k_is);(case k7=>k_is);(case k8=>ktr_room);(case k9=>exact hb _ _ _ _ (by k_is));(case c5=>decide);(case kB=>exact locs rfl);(case c2=>exact rfl);(case c3=>exact rfl);(case c4=>exact rfl);k_whole;intro g' L' h' FG' F' N' B' X' T';(try dsimp only);(try k_fold))
 refine (let A9:AO:=_;(?_:wpAny _ A9 _ _ _ _));refine (let oS:Obj:=_;have N9:News _ _ _ (_::_::_::(_,oS)::_):=N';?_);clear N';have N':=N9;clear N9;k_with "bq" =>k_extra "22"
 k_steps;refine ⟨?_⟩;refine Nq F' N' X' mH1 fun q h7 tk7 F7 N7 hq7=>?_;k_steps;refine ⟨?_⟩;rename Fr _ _ _ _=>F';rename News _ _ _ _=>N';have N8:=VS N';clear N';refine (let R9:List (Addr×Obj):=_;have N9:News _ _ _ R9:=N8;?_);clear N8;have N':=N9;clear N9;refine Ry (A0 "ahi") ahi F' N' ?i1 ?i2
 case i1=>
  rcases hva with hv | ⟨hv,hn⟩
  ·subst hv;k_with "+23" =>skip
   k_with "23" =>(fail_if_success k_extra "+24")
   k_with "k" =>k_extra "23"
   k_with "b" =>k_extra "23"
   k_with "c" =>k_extra "23"
   k_with "d" =>k_extra "23"
   k_with "e" =>k_extra "23"
   k_with "f" =>k_extra "23"
   k_with "g" =>k_extra "23"
   k_with "bk" =>k_extra "23"
   k_with "bl" =>k_extra "23"
   k_with "bm" =>k_extra "23"
   k_with "u" =>k_extra "23"
   k_with "n" =>k_extra "23"
   k_with "o" =>k_extra "23"
   k_with "bn" =>k_extra "23"
   k_with "bo" =>k_extra "23"
   k_with "bp" =>k_extra "23"
   k_steps;exact ⟨rfl,_,_,_,rfl,PH F' rfl,N'⟩
  subst hv;k_with "+24" =>skip
  k_with "24" =>(fail_if_success k_extra "+25")
  k_with "k" =>k_extra "24"
  k_with "b" =>k_extra "24"
  k_with "c" =>k_extra "24"
  k_with "d" =>k_extra "24"
  k_with "e" =>k_extra "24"
  k_with "f" =>k_extra "24"
  k_with "g" =>k_extra "24"
  k_with "bk" =>k_extra "24"
  k_with "bl" =>k_extra "24"
  k_with "bm" =>k_extra "24"
  k_with "u" =>k_extra "24"
  k_with "n" =>k_extra "24"
  k_with "o" =>k_extra "24"
  k_with "bn" =>k_extra "24"
  k_with "bo" =>k_extra "24"
  k_with "bp" =>k_extra "24"
  k_steps;rename Fr _ _ _ _=>F9;rename News _ _ _ _=>N9;rw [hn];exact ⟨rfl,_,_,_,rfl,F9,N9⟩
 case i2=>
 clear F' N';intro _ _ _ F' N';k_with "bq" =>k_extra "24"
 k_steps;refine ⟨?_⟩;rename Fr _ _ _ _=>F';rename News _ _ _ _=>N';refine Ry (A0 "bhi") bhi F' N' ?i1 ?i2
 case i1=>
  rcases hvb with hv | ⟨hv,hn⟩
  ·subst hv;k_with "+25" =>skip
   k_with "25" =>(fail_if_success k_extra "+26")
   k_with "k" =>k_extra "25"
   k_with "b" =>k_extra "25"
   k_with "c" =>k_extra "25"
   k_with "d" =>k_extra "25"
   k_with "e" =>k_extra "25"
   k_with "f" =>k_extra "25"
   k_with "g" =>k_extra "25"
   k_with "bk" =>k_extra "25"
   k_with "bl" =>k_extra "25"
   k_with "bm" =>k_extra "25"
   k_with "u" =>k_extra "25"
   k_with "n" =>k_extra "25"
   k_with "o" =>k_extra "25"
   k_with "bn" =>k_extra "25"
   k_with "bo" =>k_extra "25"
   k_with "bp" =>k_extra "25"
   k_steps;exact ⟨rfl,_,_,_,rfl,PH F' rfl,N'⟩
  subst hv;k_with "+26" =>skip
  k_with "26" =>(fail_if_success k_extra "+27")
  k_with "k" =>k_extra "26"
  k_with "b" =>k_extra "26"
  k_with "c" =>k_extra "26"
  k_with "d" =>k_extra "26"
  k_with "e" =>k_extra "26"
  k_with "f" =>k_extra "26"
  k_with "g" =>k_extra "26"
  k_with "bk" =>k_extra "26"
  k_with "bl" =>k_extra "26"
  k_with "bm" =>k_extra "26"
  k_with "u" =>k_extra "26"
  k_with "n" =>k_extra "26"
  k_with "o" =>k_extra "26"
  k_with "bn" =>k_extra "26"
  k_with "bo" =>k_extra "26"
  k_with "bp" =>k_extra "26"
  k_steps;rename Fr _ _ _ _=>F9;rename News _ _ _ _=>N9;rw [hn];exact ⟨rfl,_,_,_,rfl,F9,N9⟩
 case i2=>
 clear F' N';intro _ _ _ F' N';k_with "+27" =>skip
 k_with "27" =>(fail_if_success k_extra "+28")
 k_with "k" =>k_extra "27"
 k_with "b" =>k_extra "27"
 k_with "c" =>k_extra "27"
 k_with "d" =>k_extra "27"
 k_with "e" =>k_extra "27"
 k_with "f" =>k_extra "27"
 k_with "g" =>k_extra "27"
 k_with "bk" =>k_extra "27"
 k_with "bl" =>k_extra "27"
 k_with "bm" =>k_extra "27"
 k_with "u" =>k_extra "27"
 k_with "n" =>k_extra "27"
 k_with "o" =>k_extra "27"
 k_with "bn" =>k_extra "27"
 k_with "bo" =>k_extra "27"
 k_with "bp" =>k_extra "27"
 k_with "j" =>k_extra "27"
 k_steps;refine ⟨?_⟩;rename_i t0 _ _ _ _ _ _ _ _ _ _ _ jd _ jo lo2j hsj fsj hij fij l1j _ _ _ l' _ l1l _ _ _ _ _ _ _ hR hF hN _;refine CV ((bp,Eh l2)::(xa,AT 242 d)::(d,oS)::tl) ?_;intro tl2 htl2;have hN2:News _ _ _ ((jd,jo)::(l',A1 #[] 0)::(b2,o2)::(q,Fj "set.__contains__" (.ref bj))::(bj,Eh l1)::tl2):=Bo hN (A6 mH1 (A6 (.head _) (A6 mH8 (A6 mH3 (A6 mH5 (fun p hp=>by
  rw [htl2] at hp;refine AH hp ?_ fun hp=>?_
  ·exact mH4
  refine AH hp ?_ fun hp=>?_
  ·exact mH6
  refine AH hp ?_ fun hp=>?_
  ·exact mH7
  exact mT9 hp))))))
 refine Si (σ:=OS) (fun c=>(c.jd,c.jo)::(l',A1 #[] 0)::(b2,o2)::(q,Fj "set.__contains__" (.ref bj))::(bj,Eh l1)::tl2)
  (fun c=>[(A0 "besti",.int c.b.bi c.t1),(A0 "bestj",.int c.b.bj c.t2),(A0 "bestsize",.int c.b.bs c.t3),(A0 "j2len",.ref c.jd)])
  [A0 "j2lenget",A0 "newj2len",A0 "j",A0 "k"]
  (fun i c=>c.jo.IsDictOf (AM rw_nq0317_02.prog w) (Qg c.jl)∧(c.jd==BV)=false∧Jf x y blo bhi ((Hl alo ahi).drop i) c.b (HU c.jl)=flm x y alo ahi blo bhi)
  ⟨⟨alo,blo,0⟩,q1,q3,t0,jd,jo,[]⟩ rfl hR (small_one (by lia) (by lia) (by lia) (by lia)) (rangeSize_nat _ _) hF hN2 ?hP ?hk ?turn ?done
 case hP=>exact ⟨hij,lo2j,rfl⟩
 case hk=>exact fc1 ⟨rfl,fc1 ⟨rfl,fc1 ⟨rfl,fc1 ⟨rfl,AA _⟩⟩⟩⟩
 case turn=>
  clear hR hF hN hN2;intro i c ti u h tk own wr hi hPc hoff hw hf F' N';refine (let At1:AO:=_;let Qt1:Flow→A4→Prop:=_;(?_:wpAny _ At1 _ Qt1 _ _));refine (let mt1:Str→Option Value:=_;have F9:Fr _ _ _ mt1:=F';?_);clear F';have F':=F9;clear F9;refine Dj (hPc) ?_;(try clear hPc);intro hjd hlo hres;simp only [BJ] at N';have s0:0≤alo+(i:Int):=BQ h1 (Ag i);have s1:alo+(i:Int)<x.length:=AR (Int.add_lt_of_lt_sub_left (Int.lt_toNat.mp hi)) h3;refine Fi (V2 s0 s1 hx) ?_;intro v1 v2 v3 v4;k_steps;refine ⟨?_⟩;refine Vh F' N' X' (.head _) hjd fun jq h8 tk8 F8 N8 hq8=>?_;k_steps;refine ⟨?_⟩;rename_i nd _ no lon hsn fsn hin fin l1n F9 hit;rename News _ _ _ _=>N9;have hxi:∃ch,x.cps[(alo+(i:Int)).toNat]? = some ch:=by
   exact ⟨_,BU (show (alo+(i:Int)).toNat<x.cps.size from (Iz s0).mpr s1)⟩
  refine Bp (hxi) ?_;(try clear hxi);intro ch hch;rw [item_meets s0 hch];have hAll:AllLt nd ((jq,Fj "dict.get" (A3 c.jd))::(c.jd,c.jo)::(l',A1 #[] 0)::(b2,o2)::(q,Fj "set.__contains__" (A3 bj))::(bj,Eh l1)::(tl2++own)):=l1n;refine Aq (Mj N9) ?_;intro R hRdef N9;have hRn:∀p∈R,p.1≠nd:=by rw [hRdef];exact fun p hp=>A7 (Cs hAll p hp)
  have hjs:H5 x y (alo+(i:Int))=La y y.cps.size ch:=by unfold H5;rw [hch]
  have hlist:∃(la:Addr) (its:List (Int×Tok)) (ep:Nat),(BR (Kf BB) (⟨#[ch]⟩:Str)).getD (.ref l') = .ref la∧(la,A1 (its.map fun p:Int×Tok=>A5 p.1 p.2).toArray ep)∈R∧its.map (·.1)=H5 x y (alo+(i:Int)):=by
   rw [hjs]
   cases hv:BR (Kf BB) (⟨#[ch]⟩:Str) with
   | some v=>
    refine Dn (Hf hv) ?_;intro e he e92 e93;subst e92;subst e93;refine ⟨e.a,e.its,e.ep,rfl,?_,hB.its e he⟩;rw [hRdef,htl2,htl];exact mT6 (maL _ (.tail _ (.tail _ (.tail _ (maL _ (mm2 ⟨e,he,rfl⟩))))))
   | none=>
    refine ⟨l',[],0,rfl,?_,(hB.rest ch (Hg hv)).symm⟩;rw [hRdef];exact mH2
  refine Vp (hlist) ?_;(try clear hlist);intro la its ep hla hlm hits;have hownR:∀q∈own,q∈R:=by rw [hRdef];exact fun q hq=>mT6 (maR _ hq)
  refine kdg_get2 N9 (by rw [hRdef];exact mH4) hd lo2 (strKind_is _ _ _ _) _ rfl ?_;rw [hla];refine Rq (σ:=IS) (fun c2=>(nd,c2.no)::R)
   (fun c2=>[(A0 "besti",.int c2.b.bi c2.t1),(A0 "bestj",.int c2.b.bj c2.t2),(A0 "bestsize",.int c2.b.bs c2.t3)])
   [A0 "k"]
   (fun n c2=>c2.no.IsDictOf (AM rw_nq0317_02.prog w) (Qg c2.nl)∧Ff (alo+(i:Int)) blo bhi (HU c.jl) ((H5 x y (alo+(i:Int))).drop n) c2.b (HU c2.nl)=Ff (alo+(i:Int)) blo bhi (HU c.jl) (H5 x y (alo+(i:Int))) c.b []∧c2.nl.length≤n)
   ⟨c.b,c.t1,c.t2,c.t3,no,[]⟩ rfl (BI N9 (.tail _ hlm)) ?hLne F9 N9 ?hP2 ?hk2 ?turn2 ?done2
  case hLne=>exact (N9 _ (.tail _ hlm)).2.1
  case hP2=>exact ⟨hin,rfl,Ap _⟩
  case hk2=>exact fc1 ⟨rfl,fc1 ⟨rfl,fc1 ⟨rfl,AA _⟩⟩⟩
  case turn2=>
   intro n c2 v u2 h9 tk9 own2 wr2 hv hP2 hoff2 hw2 hf2 F' N';refine (let At2:AO:=_;let Qt2:Flow→A4→Prop:=_;(?_:wpAny _ At2 _ Qt2 _ _));refine (let mt2:Str→Option Value:=_;have F9:Fr _ _ _ mt2:=F';?_);clear F';have F':=F9;clear F9;refine (let G9:Prop:=_;(?_:G9));obtain ⟨⟨j,tj⟩,hp,rfl⟩:=T5 hv;refine (?_:wpAny _ _ _ _ _ _);have hdrop:=Qo hits hp;refine Dj (hP2) ?_;(try clear hP2);intro hn2 hin2 hln2;simp only [BJ] at N';k_steps
   ·rename_i hlt;show DX _ _ _ _ _ _ _;refine HT c2 F' N' ?_ ?_ hoff2 ⟨hn2,?_,Nat.le_succ_of_le hln2⟩ ?_ ?_
    ·intro q hq;refine AH hq ?_ fun hq=>?_
     ·exact .head _
     exact .tail _ (maL _ hq)
    ·exact fun q hq=>.tail _ (maR _ hq)
    ·rw [hdrop] at hin2;rw [←hin2];show _=Ff _ _ _ _ (j::_) _ _;rw [KG,if_pos hlt]
    ·exact fc1 ⟨rfl,fc1 ⟨rfl,fc1 ⟨rfl,AA _⟩⟩⟩
    intro z h1 h2 h3;have e1:z≠A0 "j" :=CU h1 (by decide);dsimp only [mt2,mt1];rw [if_neg e1];exact Ek h3 h2
   ·rename_i hj1 _ hj2;refine U7 ?_;k_steps;have hfin:(c2.b,HU c2.nl)=Ff (alo+(i:Int)) blo bhi (HU c.jl) (H5 x y (alo+(i:Int))) c.b []:=by
     rw [←hin2,hdrop];show _=Ff _ _ _ _ (j::_) _ _;rw [KG,if_neg hj1,if_pos hj2]
    rename Fr _ _ _ _=>F7;rename News _ _ _ _=>N7;show DX _ _ _ _ _ _ _;refine HT (σ:=OS) ⟨c2.b,c2.t1,c2.t2,c2.t3,nd,c2.no,c2.nl⟩ F7 N7 ?h1 ?h2 ?h3 ⟨hn2,lon,?_⟩ ?hps ?hz
    case h1=>
     intro q hq;refine AH hq ?_ fun hq=>?_
     ·exact .head _
     refine .tail _ (maL _ ?_);rw [hRdef];refine AH hq ?_ fun hq=>?_
     ·exact mH2
     refine AH hq ?_ fun hq=>?_
     ·exact mH3
     refine AH hq ?_ fun hq=>?_
     ·exact mH4
     refine AH hq ?_ fun hq=>?_
     ·exact mH5
     exact mT6 (maL _ hq)
    case h2=>exact fun q hq=>.tail _ (maL _ (hownR q hq))
    case h3=>
     intro q hq;refine AQ hq ?_ fun hq=>?_
     ·intro hm;refine Bp (hw _ hm) ?_;intro o ho;exact hRn _ (hownR _ ho) rfl
     exact hoff q (.tail _ hq)
    case hps=>exact fc1 ⟨rfl,fc1 ⟨rfl,fc1 ⟨rfl,fc1 ⟨rfl,AA _⟩⟩⟩⟩
    case hz=>
     intro z h1 h2 h3;have e1:z≠A0 "j" :=CU h3 (by decide);have e2:z≠A0 "k" :=CU h3 (by decide);have e3:z≠A0 "newj2len" :=CU h3 (by decide);have e4:z≠A0 "j2lenget" :=CU h3 (by decide);have e5:z≠A0 "i" :=CU h1 (by decide);have e6:z≠A0 "besti" :=h2 _ (.head _);have e7:z≠A0 "bestj" :=h2 _ mH1;have e8:z≠A0 "bestsize" :=h2 _ mH2;have e9:z≠A0 "j2len" :=h2 _ mH3;dsimp only [mt2,mt1];rw [if_neg e9,if_neg e1];refine (Ek (show [A0 "k"].contains z=false by simpa using e2) (fc1 ⟨e6,fc1 ⟨e7,fc1 ⟨e8,AA _⟩⟩⟩)).trans ?_;simp only [if_neg e3,if_neg e4,if_neg e5];exact Ek h3 (fc1 ⟨e6,fc1 ⟨e7,fc1 ⟨e8,fc1 ⟨e9,AA _⟩⟩⟩⟩)
    rw [←hres,IW hi,K5,←hfin]
   rename_i hj1 _ hj2;refine ⟨?_⟩;refine FT (id:= "dict.get") (self:=.ref c.jd) ?_;have hmq:(jq,Fj "dict.get" (A3 c.jd))∈(nd,c2.no)::(R++own2):=by rw [hRdef];exact mH1
   have hmd:(c.jd,c.jo)∈(nd,c2.no)::(R++own2):=by rw [hRdef];exact mH2
   k_steps
   ·exact (N' _ hmq).1
   refine Uk N' hmq hmd hjd (BH _ _ _ _) hlo ?_;refine Bp (Kh c.jl (j-1) (tk9+1+1)) ?_;intro tg hg;k_steps;rw [hg];k_steps;refine ⟨?_⟩;rename Fr _ _ _ _=>F5;rename News _ _ _ _=>N5;refine Gx F5 N5 (.head _) hn2 (BH _ _ _ _) (Bw ?hz5) fun h5 o5 F6 N6 hd6=>?_
   case hz5=>
    have h64:n<y.cps.size:=by
     have h1:n<its.length:=by
      rcases ER n its.length with h | h
      ·exact h
      rw [DJ h] at hp;cases hp
     have h2:its.length=(H5 x y (alo+(i:Int))).length:=by rw [←hits,AB]
     have h3:=Mn y y.cps.size ch;rw [←hjs] at h3;lia
    have h65:y.cps.size≤64:=hy;unfold Qg;rw [AB];lia
   rw [Lm] at hd6;refine (let G9:Prop:=_;(?_:G9));obtain ⟨tn,hd6⟩:∃tn,o5.IsDictOf (AM rw_nq0317_02.prog w) (Qg (Q0 c2.nl j (E7 (HU c.jl) (j-1)+1) tn)):=⟨_,hd6⟩;refine (?_:wpAny _ _ _ _ _ _);have hla':la≠nd:=hRn _ hlm;have hmem6:∀p∈(nd,o5)::R,p∈CD nd o5 ((nd,c2.no)::(R++own2)):=by
    intro p hp;refine AH hp ?_ fun hp=>?_
    ·exact AV (.head _)
    exact A8 (.tail _ (maL _ hp)) (hRn p hp)
   have hown6:∀p∈own2,p∈CD nd o5 ((nd,c2.no)::(R++own2)):=by
    intro p hp;refine A8 (.tail _ (maR _ hp)) ?_;rcases hf2 p hp with h | h
    ·exact fun e=>hoff2 (nd,c2.no) (.head _) (e▸h)
    rw [h];exact hla'
   have hoff6:∀p∈(nd,o5)::R,p.1∉wr2:=by
    intro p hp;refine AQ hp ?_ fun hp=>?_
    ·exact hoff2 (nd,c2.no) (.head _)
    exact hoff2 p (.tail _ hp)
   have hres6:Ff (alo+(i:Int)) blo bhi (HU c.jl) ((H5 x y (alo+(i:Int))).drop (n+1)) (JM (alo+(i:Int)) (HU c.jl) c2.b j) (HU (Q0 c2.nl j (E7 (HU c.jl) (j-1)+1) tn))=Ff (alo+(i:Int)) blo bhi (HU c.jl) (H5 x y (alo+(i:Int))) c.b []:=by
    rw [hdrop] at hin2;rw [←hin2,QQ];show _=Ff _ _ _ _ (j::_) _ _;rw [KG,if_neg hj1,if_neg hj2]
   have hlen6:(Q0 c2.nl j (E7 (HU c.jl) (j-1)+1) tn).length≤n+1:=by
    unfold Q0;split
    ·rw [AB];lia
    rw [Ai];simp;lia
   k_steps
   ·rename c2.b.bs<_=>hgt;rename Fr _ _ _ _=>F7;rename News _ _ _ _=>N7;have hst:JM (alo+(i:Int)) (HU c.jl) c2.b j=⟨alo+(i:Int)-(E7 (HU c.jl) (j-1)+1)+1,j-(E7 (HU c.jl) (j-1)+1)+1,E7 (HU c.jl) (j-1)+1⟩:=if_pos hgt;rw [hst] at hres6;refine Bp (TJ F7 (A0 "besti") rfl) ?_;intro t1 e1;refine Bp (TJ F7 (A0 "bestj") rfl) ?_;intro t2 e2;refine Bp (TJ F7 (A0 "bestsize") rfl) ?_;intro t3 e3;show DX _ _ _ _ _ _ _;refine HT (σ:=IS) ⟨⟨_,_,_⟩,t1,t2,t3,o5,Q0 c2.nl j (E7 (HU c.jl) (j-1)+1) tn⟩ F7 N7 (fun p hp=>.tail _ (hmem6 p hp)) (fun p hp=>.tail _ (hown6 p hp)) hoff6 ⟨hd6,hres6,hlen6⟩ (fc1 ⟨e1,fc1 ⟨e2,fc1 ⟨e3,AA _⟩⟩⟩) ?_;intro z h1 h2 h3;have e1:z≠A0 "j" :=CU h1 (by decide);have e4:z≠A0 "k" :=CU h3 (by decide);have e5:z≠A0 "besti" :=h2 _ (.head _);have e6:z≠A0 "bestj" :=h2 _ mH1;have e7:z≠A0 "bestsize" :=h2 _ mH2;dsimp only [mt2,mt1];refine (if_neg e5).trans ((if_neg e6).trans ((if_neg e7).trans ((if_neg e4).trans ((if_neg e1).trans ?_))));exact Ek h3 (fc1 ⟨e5,fc1 ⟨e6,fc1 ⟨e7,AA _⟩⟩⟩)
   rename ¬(c2.b.bs<_)=>hgt;have hst:JM (alo+(i:Int)) (HU c.jl) c2.b j=c2.b:=if_neg hgt;rw [hst] at hres6;show DX _ _ _ _ _ _ _;refine HT (σ:=IS) ⟨c2.b,c2.t1,c2.t2,c2.t3,o5,Q0 c2.nl j (E7 (HU c.jl) (j-1)+1) tn⟩ F6 N6 hmem6 hown6 hoff6 ⟨hd6,hres6,hlen6⟩ (fc1 ⟨rfl,fc1 ⟨rfl,fc1 ⟨rfl,AA _⟩⟩⟩) ?_;intro z h1 h2 h3;have e1:z≠A0 "j" :=CU h1 (by decide);have e4:z≠A0 "k" :=CU h3 (by decide);dsimp only [mt2,mt1];rw [if_neg e4,if_neg e1];exact Ek h3 h2
  case done2=>
   intro c2 u2 h9 tk9 hP2 F' N';refine (let mt3:Str→Option Value:=_;have F9:Fr _ _ _ mt3:=F';?_);clear F';have F':=F9;clear F9;refine Dj (hP2) ?_;(try clear hP2);intro hn2 hin2 hln2;k_steps;have hfin:(c2.b,HU c2.nl)=Ff (alo+(i:Int)) blo bhi (HU c.jl) (H5 x y (alo+(i:Int))) c.b []:=by
    rw [←hin2,List.drop_eq_nil_of_le (by rw [←hits,Ae,AB,AB];exact Ap _)];rfl
   rename Fr _ _ _ _=>F7;rename News _ _ _ _=>N7;show DX _ _ _ _ _ _ _;refine HT (σ:=OS) ⟨c2.b,c2.t1,c2.t2,c2.t3,nd,c2.no,c2.nl⟩ F7 N7 ?h1 ?h2 ?h3 ⟨hn2,lon,?_⟩ ?hps ?hz
   case h1=>
    intro q hq;refine AH hq ?_ fun hq=>?_
    ·exact .head _
    refine .tail _ ?_;rw [hRdef];refine AH hq ?_ fun hq=>?_
    ·exact mH2
    refine AH hq ?_ fun hq=>?_
    ·exact mH3
    refine AH hq ?_ fun hq=>?_
    ·exact mH4
    refine AH hq ?_ fun hq=>?_
    ·exact mH5
    exact mT6 (maL _ hq)
   case h2=>exact fun q hq=>.tail _ (hownR q hq)
   case h3=>
    intro q hq;refine AQ hq ?_ fun hq=>?_
    ·intro hm;refine Bp (hw _ hm) ?_;intro o ho;exact hRn _ (hownR _ ho) rfl
    exact hoff q (.tail _ hq)
   case hps=>exact fc1 ⟨rfl,fc1 ⟨rfl,fc1 ⟨rfl,fc1 ⟨rfl,AA _⟩⟩⟩⟩
   case hz=>
    intro z h1 h2 h3;have e1:z≠A0 "j" :=CU h3 (by decide);have e2:z≠A0 "k" :=CU h3 (by decide);have e3:z≠A0 "newj2len" :=CU h3 (by decide);have e4:z≠A0 "j2lenget" :=CU h3 (by decide);have e5:z≠A0 "i" :=CU h1 (by decide);have e6:z≠A0 "besti" :=h2 _ (.head _);have e7:z≠A0 "bestj" :=h2 _ mH1;have e8:z≠A0 "bestsize" :=h2 _ mH2;have e9:z≠A0 "j2len" :=h2 _ mH3;dsimp only [mt3,mt1];rw [if_neg e9,if_neg e1];refine (Ek (show [A0 "k"].contains z=false by simpa using e2) (fc1 ⟨e6,fc1 ⟨e7,fc1 ⟨e8,AA _⟩⟩⟩)).trans ?_;simp only [if_neg e3,if_neg e4,if_neg e5];exact Ek h3 (fc1 ⟨e6,fc1 ⟨e7,fc1 ⟨e8,fc1 ⟨e9,AA _⟩⟩⟩⟩)
   rw [←hres,IW hi,K5,←hfin]
 clear hR hF hN hN2;intro c u h tk hPc F' N';refine (let mt4:Str→Option Value:=_;have F9:Fr _ _ _ mt4:=F';?_);clear F';have F':=F9;clear F9;refine Dj (hPc) ?_;(try clear hPc);intro hjd hlo hres;have hfl:c.b=flm x y alo ahi blo bhi:=by
  rw [←hres,List.drop_eq_nil_of_le (by unfold Hl;simp)];rfl
 clear hres;have hok:=Hr (x:=x) (y:=y) h1 h4 h2 h5;rw [←hfl] at hok;have z1:=hok.s0;have z2:=hok.i0;have z3:=hok.i1;have z4:=hok.j0;have z5:=hok.j1;k_steps;refine ⟨?_⟩;have hmq:(q,Fj "set.__contains__" (.ref bj))∈(c.jd,c.jo)::(l',A1 #[] 0)::(b2,o2)::(q,Fj "set.__contains__" (.ref bj))::(bj,Eh l1)::tl2:=mH3;have hmb:(bj,Eh l1)∈(c.jd,c.jo)::(l',A1 #[] 0)::(b2,o2)::(q,Fj "set.__contains__" (.ref bj))::(bj,Eh l1)::tl2:=mH4;refine IE (by passes_own) ?t1 fun tk11=>?_
 case t1=>
  k_steps
  ·refine ⟨?_⟩;refine FT (id:= "set.__contains__") (self:=.ref bj) ?_;k_steps
   ·exact (N' _ hmq).1
   refine Ea w _ _ q bj l1 _ _ _ _ (N' _ hmq).1 (N' _ hmb).1 fun tk2=>?_;have a0:0≤c.b.bi-1:=Ab (Ah h1 (by assumption));have c0:0≤c.b.bj-1:=Ab (Ah h4 (by assumption));refine Fi (V2 a0 (AR (J7 _ (by decide)) (AP (AP (Aj z1) z3) h3)) hx) ?_;intro a1 a2 a3 a4;refine Fi (V2 c0 (AR (J7 _ (by decide)) (AP (AP (Aj z1) z5) h6)) hy) ?_;intro c1 c2 c3 c4;k_steps
   ·rename (Tm _ _==Tm _ _)=true=>he;refine Aq (L7 a0 a4 c0 c4 he) ?_;intro d0 d1 d2;exact (hok.left h1 h4 (by assumption) (by assumption) d1 d2).elim
   exact ⟨rfl,_,rfl⟩
  ·exact ⟨rfl,_,rfl⟩
  exact ⟨rfl,_,rfl⟩
 k_steps;refine ⟨?_⟩;refine IE (by passes_own) ?t2 fun tk21=>?_
 case t2=>
  k_steps
  ·refine ⟨?_⟩;refine FT (id:= "set.__contains__") (self:=.ref bj) ?_;k_steps
   ·exact (N' _ hmq).1
   refine Ea w _ _ q bj l1 _ _ _ _ (N' _ hmq).1 (N' _ hmb).1 fun tk2=>?_;have a0:0≤c.b.bi+c.b.bs:=BQ (AP h1 z2) z1;have c0:0≤c.b.bj+c.b.bs:=BQ (AP h4 z4) z1;refine Fi (V2 a0 (AR (by assumption) h3) hx) ?_;intro a1 a2 a3 a4;refine Fi (V2 c0 (AR (by assumption) h6) hy) ?_;intro c1 c2 c3 c4;k_steps
   ·rename (Tm _ _==Tm _ _)=true=>he;refine Aq (L7 a0 a4 c0 c4 he) ?_;intro d0 d1 d2;exact (hok.right h1 h4 (by assumption) (by assumption) d1 d2).elim
   exact ⟨rfl,_,rfl⟩
  ·exact ⟨rfl,_,rfl⟩
  exact ⟨rfl,_,rfl⟩
 k_steps;refine ⟨?_⟩;refine IE (by passes_own) ?t3 fun tk31=>?_
 case t3=>
  k_steps
  ·refine ⟨?_⟩;refine FT (id:= "set.__contains__") (self:=.ref bj) ?_;k_steps
   ·exact (N' _ hmq).1
   refine Ea w _ _ q bj l1 _ _ _ _ (N' _ hmq).1 (N' _ hmb).1 fun tk2=>?_;k_steps;exact ⟨rfl,_,rfl⟩
  ·exact ⟨rfl,_,rfl⟩
  exact ⟨rfl,_,rfl⟩
 k_steps;refine ⟨?_⟩;refine IE (by passes_own) ?t4 fun tk41=>?_
 case t4=>
  k_steps
  ·refine ⟨?_⟩;refine FT (id:= "set.__contains__") (self:=.ref bj) ?_;k_steps
   ·exact (N' _ hmq).1
   refine Ea w _ _ q bj l1 _ _ _ _ (N' _ hmq).1 (N' _ hmb).1 fun tk2=>?_;k_steps;exact ⟨rfl,_,rfl⟩
  ·exact ⟨rfl,_,rfl⟩
  exact ⟨rfl,_,rfl⟩
 k_steps;refine CK (Bi 360 600 gd (A0 "SequenceMatcher.find_longest_match") _ L' 196 (.ref 195) [] (envX cn cs L a ccd cl::outer)) rfl (show 351≤360 by decide) rfl rfl (show 503≤600 by decide) ?_;refine Sq w _ _ _ _ _ _ _ _ _ _ _ _ _ _ _ _ _ _ _ _ _ _ _ _ _ _ _ B' F' X' N' T' rfl (fun qq dd h1 tk1 F1 N1 hq1=>?_);clear F' N';k_steps;rename Fr _ _ _ _=>F9;rename News _ _ _ _=>N9;rw [hfl] at N9;have hsub:∀p∈((bp,Eh l2)::(bj,Eh l1)::(xa,AT 242 d)::(d,Fk [ent w "isjunk" t1 .none,ent w "a" t2 (.str x tx),ent w "b" t3 (.str y ty),ent w "autojunk" t4 (.bool false),ent w "matching_blocks" t5 .none,ent w "opcodes" t6 .none,ent w "fullbcount" t7 .none,ent w "b2j" t8 (.ref b2),ent w "bjunk" t9 (.ref bj),ent w "bpopular" t10 (.ref bp)] 10)::(b2,o2)::LZ BB)++news,p∈(c.jd,c.jo)::(l',A1 #[] 0)::(b2,o2)::(q,Fj "set.__contains__" (.ref bj))::(bj,Eh l1)::tl2:=by
  intro p hp;rw [htl2,htl];refine AF hp (fun hp=>?_) fun hp=>?_
  ·refine AH hp ?_ fun hp=>?_
   ·exact mH5
   refine AH hp ?_ fun hp=>?_
   ·exact mH4
   refine AH hp ?_ fun hp=>?_
   ·exact mH6
   refine AH hp ?_ fun hp=>?_
   ·exact mH7
   refine AH hp ?_ fun hp=>?_
   ·exact mH2
   exact mT8 (maL _ hp)
  exact mT8 (maR _ hp)
 refine hret qq dd c.t1 c.t2 c.t3 _ _ F9 (Bo N9 fun p hp=>?_) (fun p hp=>hq1 p (hsub p hp));refine AH hp ?_ fun hp=>?_
 ·exact .head _
 exact .tail _ (hsub p hp)
theorem Vi {K:Frag}{a:Addr}{f f':FuncData}{oc oc':Value}{od od':Option Addr}{osl osl':Array (Option Value)}(h:K.lookup a=some ⟨oc,od,.func f,osl⟩)(h':K.lookup a=some ⟨oc',od',.func f',osl'⟩):f=f':=by
 rw [h] at h';simp only [Option.some.injEq,Obj.mk.injEq,Data.func.injEq] at h';exact h'.2.2.1
theorem Vj (w:World)(p:AY)(lo:List Str)(mean:CG→Option Value)(mg mb:Str→Option Value)
  (gd:Option (List Code)) (cn:Str) (cs:Scope) (a:Addr) (ccd:Value) (cl:List (Str×Addr)) (outer:List Env) (A₀:AO) (base h₀:Heap) (L:Addr) (m:Str→Option Value) (G news:List (Addr×Obj)) (s:A4)
  (x y:Str) (xa:Addr) (alo ahi blo bhi:Int) (q1 q2 q3 q4:Tok) (Q E:Value→A4→Prop)
  (B:Below A₀ base outer h₀) (F:Fr h₀ L s.heap m) (X:(Mine.K w.params).In h₀) (N:News h₀ L s.heap (G++news)) (T:Top p lo mean mg mb h₀) (hk:cs.kind = .function)
  (hS:SM w x y xa G) (hx:x.length≤64) (hy:y.length≤64) (h1:0≤alo) (h2:alo≤ahi) (h3:ahi≤x.length) (h4:0≤blo) (h5:blo≤bhi) (h6:bhi≤y.length)
  (hret:∀q d t1 t2 t3 h' tk',Fr h₀ L h' m→News h₀ L h' ((q,Bs d (.int (flm x y alo ahi blo bhi).bi t1) (.int (flm x y alo ahi blo bhi).bj t2) (.int (flm x y alo ahi blo bhi).bs t3))::(G++news))→(∀p∈G++news,p.1≠q)→Q (.ref q) { s with heap:=h',toks:=tk' }) :
  wpAny (model (rw_nq0317_02.prog) w) (Bi 350 500 gd cn cs L a ccd cl outer) (call (.ref 196) [.ref xa,.int alo q1,.int ahi q2,.int blo q3,.int bhi q4]) Q E s:=by
 refine Xb w p lo mean mg mb gd cn cs a ccd cl outer A₀ base h₀ L m G news s x y xa alo ahi blo bhi q1 q2 q3 q4 Q E B F X N T hk hS hx hy h1 h2 h3 h4 h5 h6 _ _ _ (.inl rfl) (.inl rfl) (fun f oc od osl h=>?_) hret;have e:=Vi h (show (Mine.K w.params).lookup 196=some ⟨_,_,.func _,_⟩ by k_is);rw [e];have X':=X.keeps F.keep;exact Q1 (by k_in) rfl (by k_is) rfl rfl rfl
section
variable {w:World}{A:AO}{E:Value→A4→Prop}{s:A4}{h₀:Heap}{L:Addr}{m:Str→Option Value}{news:List (Addr×Obj)}
theorem Ud {xa dd b2 bj bp:Addr}{x y:Str}{u1 u2 v1 v2 v3 v4 v5 v6 v7 v8 v9 v10:Tok}{v:Value}{Q:Unit→A4→Prop}(F:Fr h₀ L s.heap m)(X:(Mine.K w.params).In h₀)(N:News h₀ L s.heap news)(h1:(xa,AT 242 dd)∈news)
  (h2:(dd,Fk [ent w "isjunk" v1 AG,ent w "a" v2 (AD x u1),ent w "b" v3 (AD y u2),ent w "autojunk" v4 (B6 false),ent w "matching_blocks" v5 AG,ent w "opcodes" v6 AG,ent w "fullbcount" v7 AG,ent w "b2j" v8 (A3 b2),ent w "bjunk" v9 (A3 bj),ent w "bpopular" v10 (A3 bp)] 10)∈news)
  (h:∀h',Fr h₀ L h' m→News h₀ L h' (CD dd (Fk [ent w "isjunk" v1 AG,ent w "a" v2 (AD x u1),ent w "b" v3 (AD y u2),ent w "autojunk" v4 (B6 false),ent w "matching_blocks" v5 v,ent w "opcodes" v6 AG,ent w "fullbcount" v7 AG,ent w "b2j" v8 (A3 b2),ent w "bjunk" v9 (A3 bj),ent w "bpopular" v10 (A3 bp)] 10) news)→Q () { s with heap:=h',toks:=s.toks+2 }) :
  wpAny (model rw_nq0317_02.prog w) A (OB (.ref xa) (A0 "matching_blocks") v) Q E s:=by
 revert X
 k_fill
 intro X;refine' HB F X N h1 h2 ?k6 ?k7 ?k8 ?k9 ?k10 ?k11 ?k13 h;(case k6=>k_is);(case k7=>k_is);(case k8=>k_is);(case k9=>k_is);(case k10=>k_get);(case k11=>k_put);(case k13=>exact Ad rfl)
end
noncomputable abbrev GMm (xa lq lm:Addr)(la lb:Int)(ta tb:Tok)(u:Str→Option Value):Str→Option Value:=fun z=>if z=A0 "self" then some (.ref xa) else if z=A0 "la" then some (.int la ta) else if z=A0 "lb" then some (.int lb tb) else if z=A0 "queue" then some (.ref lq) else if z=A0 "matching_blocks" then some (.ref lm) else u z
set_option tactic.hygienic true in
theorem Ur {xa lq lm:Addr}{la lb:Int}{ta tb:Tok}{m:Str→Option Value}(h1:m (A0 "self")=some (.ref xa))(h2:m (A0 "la")=some (.int la ta))(h3:m (A0 "lb")=some (.int lb tb))(h4:m (A0 "queue")=some (.ref lq))(h5:m (A0 "matching_blocks")=some (.ref lm)) :
  m=GMm xa lq lm la lb ta tb m:=by
 funext z
 unfold GMm;split
 ·rename_i e;rw [e];exact h1
 split
 ·rename_i e;rw [e];exact h2
 split
 ·rename_i e;rw [e];exact h3
 split
 ·rename_i e;rw [e];exact h4
 split
 ·rename_i e;rw [e];exact h5
 rfl
theorem PL {g h:Heap}{L xa lq lm:Addr}{la lb:Int}{ta tb:Tok}{m:Str→Option Value}(F:Fr g L h m)(h1:m (A0 "self")=some (.ref xa))(h2:m (A0 "la")=some (.int la ta))(h3:m (A0 "lb")=some (.int lb tb))(h4:m (A0 "queue")=some (.ref lq))(h5:m (A0 "matching_blocks")=some (.ref lm)) :
  Fr g L h (GMm xa lq lm la lb ta tb m):=Eq.mp (congrArg (Fr g L h) (Ur h1 h2 h3 h4 h5)) F
noncomputable abbrev GNm (xa ln:Addr)(la lb i1 j1 k1:Int)(ta tb t1 t2 t3:Tok)(u:Str→Option Value):Str→Option Value:=fun z=>if z=A0 "self" then some (.ref xa) else if z=A0 "la" then some (.int la ta) else if z=A0 "lb" then some (.int lb tb) else if z=A0 "non_adjacent" then some (.ref ln) else if z=A0 "i1" then some (.int i1 t1) else if z=A0 "j1" then some (.int j1 t2) else if z=A0 "k1" then some (.int k1 t3) else u z
set_option tactic.hygienic true in
theorem Jp {xa ln:Addr}{la lb i1 j1 k1:Int}{ta tb t1 t2 t3:Tok}{m:Str→Option Value}(h1:m (A0 "self")=some (.ref xa))(h2:m (A0 "la")=some (.int la ta))(h3:m (A0 "lb")=some (.int lb tb))(h4:m (A0 "non_adjacent")=some (.ref ln))(h5:m (A0 "i1")=some (.int i1 t1))(h6:m (A0 "j1")=some (.int j1 t2))(h7:m (A0 "k1")=some (.int k1 t3)) :
  m=GNm xa ln la lb i1 j1 k1 ta tb t1 t2 t3 m:=by
 funext z
 unfold GNm;split
 ·rename_i e;rw [e];exact h1
 split
 ·rename_i e;rw [e];exact h2
 split
 ·rename_i e;rw [e];exact h3
 split
 ·rename_i e;rw [e];exact h4
 split
 ·rename_i e;rw [e];exact h5
 split
 ·rename_i e;rw [e];exact h6
 split
 ·rename_i e;rw [e];exact h7
 rfl
inductive NJ (x y:Str)(xa ln:Addr)(ta tb:Tok)(R:List (Addr×Obj))(l₀:List TR)(i:Nat)(m:Str→Option Value)(nx:List (Addr×Obj)):Prop
 | mk (ws:List TE) (i1 j1 k1:Int) (t1 t2 t3:Tok) (u:Str→Option Value) (en:Nat) (hm:m=GNm xa ln x.length y.length i1 j1 k1 ta tb t1 t2 t3 u) (hn:nx=(ln,A1 (DK ws).toArray en)::(Hx ws++R)) (hs:St1 l₀ i (i1,j1,k1) (ws.map teT)) (ho:∀e∈ws,e.a≠ln):NJ x y xa ln ta tb R l₀ i m nx
inductive QJ (s:A4)(g':Heap)(L':Addr)(x y:Str)(xa lq lm:Addr)(ta tb:Tok)(G rest:List (Addr×Obj))(l₀:List TR)(n:Nat)(s₁:A4):Prop
 | mk (qs:List QL) (ms:List MB) (eq em:Nat) (h:Heap) (tk:Nat) (u:Str→Option Value)
   (e:s₁ = { s with heap:=h,toks:=tk }) (F:Fr g' L' h (GMm xa lq lm x.length y.length ta tb u))
   (N:News g' L' h ((lm,A1 (Bf ms).toArray em)::(lq,A1 (Fb (qs.map (·.1))).toArray eq)::(M2 (qs.map (·.1))++(HK ms++(G++rest)))))
   (hq:∀q∈qs,qOk x y q) (hp:(ms.map IM++qs.flatMap (·.2)).Perm l₀) (hn:n=qM qs) (hb:ms.length+n≤9) (ho1:∀q∈qs,q.1.a≠lm∧q.1.a≠lq) (ho2:∀e∈ms,e.q≠lm∧e.q≠lq):QJ s g' L' x y xa lq lm ta tb G rest l₀ n s₁
theorem Vq {α0:Sort u0}{α1:Sort u1}{α2:Sort u2}{p0:α0→α1→α2→Prop}{G:Prop}(h:∃a0 a1 a2,p0 a0 a1 a2)(f:∀a0 a1 a2,p0 a0 a1 a2→G):G:=by obtain ⟨a0,a1,a2,h0⟩:=h;exact f a0 a1 a2 h0
inductive XU (s:A4)(g':Heap)(L':Addr)(m':Str→Option Value)(ln:Addr)(R:List (Addr×Obj))(l₀:List TR)(s₁:A4):Prop
 | mk (h:Heap) (tk en:Nat) (ws:List TE) (e:s₁ = { s with heap:=h,toks:=tk }) (F:Fr g' L' h m') (N:News g' L' h ((ln,A1 (DK ws).toArray en)::(Hx ws++R))) (hs:ws.map teT=l₀) (ho:∀e∈ws,e.a≠ln):XU s g' L' m' ln R l₀ s₁
inductive XT (s:A4)(g':Heap)(L':Addr)(m':Str→Option Value)(lm lq:Addr)(oM:Obj)(vs:List Value)(R:List (Addr×Obj))(c:Prop)(p q r t:Int)(s₁:A4):Prop
 | mk (h:Heap) (tk eq:Nat) (new:List QE) (e:s₁ = { s with heap:=h,toks:=tk }) (F:Fr g' L' h m') (N:News g' L' h ((lm,oM)::(lq,A1 (vs++new.map fun e=>A3 e.a).toArray eq)::(M2 new++R)))
   (hi:CutQ c p q r t new) (hn:∀e∈new,e.a≠lm∧e.a≠lq∧∀p∈R,p.1≠e.a):XT s g' L' m' lm lq oM vs R c p q r t s₁
theorem UR {g h:Heap}{L lm lq D:Addr}{om oq od:Obj}{vs:List Value}{e':Nat}{R:List (Addr×Obj)}(N:News g L h (CD lq (A1 (vs.toArray.push (A3 D)) e') ((D,od)::(lm,om)::(lq,oq)::R)))(hD:D≠lq)(hm:lm≠lq)(hR:∀p∈R,p.1≠lq) :
  News g L h ((lm,om)::(lq,A1 (vs++[A3 D]).toArray e')::(D,od)::R):=by
 have e:vs.toArray.push (A3 D)=(vs++[A3 D]).toArray:=by simp
 rw [e] at N;exact Bo N fun q hq=>
 AH hq (A8 mH1 hm) fun hq=>AH hq (AV (o:=oq) mH2) fun hq=>AH hq (A8 (.head _) hD) fun hq=>A8 (mT3 hq) (hR q hq)
theorem Of {s:A4}{g' h:Heap}{L':Addr}{x y:Str}{xa lq lm mq md:Addr}{ta tb tk t1 t2 t3:Tok}{G rest:List (Addr×Obj)}{l₀ lq0:List TR}{u:Str→Option Value}{new:List QE}{qs:List QL}{ms:List MB}{b:PB3}{e1 e2 wt:Nat}
  (F:Fr g' L' h (GMm xa lq lm x.length y.length ta tb u)) (N:News g' L' h ((lm,A1 ((Bf ms).toArray.push (.ref mq)) e1)::(lq,A1 (Fb (new++qs.map (·.1))).toArray e2)::(M2 new++((mq,Bs md (.int b.bi t1) (.int b.bj t2) (.int b.bs t3))::(M2 (qs.map (·.1))++(HK ms++(G++rest)))))))
  (hq:∀q∈qs,qOk x y q) (hp:(ms.map IM++(lq0++qs.flatMap (·.2))).Perm l₀) (hqs:∃qn:List QL,qn.map (·.1)=new∧(∀q∈qn,qOk x y q)∧((b.bi,b.bj,b.bs)::qn.flatMap (·.2)).Perm lq0∧qM qn<wt)
  (hb:ms.length+(wt+qM qs)≤9) (ho1:∀q∈qs,q.1.a≠lm∧q.1.a≠lq) (hon:∀e∈new,e.a≠lm∧e.a≠lq) (ho2:∀e∈ms,e.q≠lm∧e.q≠lq) (hmq:mq≠lm∧mq≠lq) :
  ∃n',n'<wt+qM qs∧QJ s g' L' x y xa lq lm ta tb G rest l₀ n' { s with heap:=h,toks:=tk }:=by
 refine MA hqs ?_;(try clear hqs);intro qn e91 a1 a2 a3;subst e91;have em:qM (qn++qs)=qM qn+qM qs:=by unfold qM;rw [AI,List.sum_append]
 refine ⟨qM (qn++qs),by lia,qn++qs,ms++[⟨mq,md,b.bi,b.bj,b.bs,t1,t2,t3⟩],e2,e1,h,tk,u,rfl,F,?_,?_,?_,rfl,?_,?_,?_⟩
 ·refine Bo N fun q hq=>?_;refine AH hq ?_ fun hq=>?_
  ·have e:(Bf (ms++[⟨mq,md,b.bi,b.bj,b.bs,t1,t2,t3⟩])).toArray=(Bf ms).toArray.push (.ref mq):=by simp [Bf]
   rw [e];exact .head _
  refine AH hq ?_ fun hq=>?_
  ·rw [AI];exact mH1
  refine mT2 ?_;rw [AI] at hq;unfold M2 HK at *;rw [AI,AI] at hq;simp only [Cf,BD,Bx,ES,Au,or_false] at hq ⊢;rcases hq with (h | h) | ((h | h) | h)
  ·exact .inl h
  ·exact .inr (.inr (.inl h))
  ·exact .inr (.inr (.inr (.inl h)))
  ·exact .inr (.inl h)
  exact .inr (.inr (.inr (.inr h)))
 ·intro q hq';rcases Cf.mp hq' with h | h
  ·exact a1 q h
  exact hq q h
 ·rw [AI,Cy,BP];refine List.Perm.trans (List.Perm.append_left _ ?_) hp;show (IM _::([]++(qn.flatMap (·.2)++qs.flatMap (·.2)))).Perm _;exact List.Perm.append_right (qs.flatMap (·.2)) a2
 ·rw [Ai,E0];lia
 ·intro q hq';rcases Cf.mp hq' with h | h
  ·exact hon q.1 (mm2 ⟨q,h,rfl⟩)
  exact ho1 q h
 intro e he;rcases Cf.mp he with h | h
 ·exact ho2 e h
 rw [ms1 h];exact hmq
theorem Xf {x y:Str}{alo ahi blo bhi:Int}{l:List TR}(h:JR x y alo ahi blo bhi l)(h0:(flm x y alo ahi blo bhi).bs=0):l=[]:=by
 cases h with
 | nil _=>rfl
 | cons b hb h c1 c2=>subst hb;lia
theorem pw1 {α:Type}{r:α→α→Prop}{l:List α}(h:l.length<2):l.Pairwise r:=by
 cases l with
 | nil=>exact .nil
 | cons a l=>
  cases l with
  | nil=>exact I8 _ _
  | cons b l=>exact absurd h (Nat.not_lt.mpr (J4 2 l.length))
theorem UJ {w:World}{A:AO}{E:Value→A4→Prop}{s:A4}{h₀:Heap}{L D:Addr}{m:Str→Option Value}{news:List (Addr×Obj)}{mb:List MB}{n:Nat}{Q:Value→A4→Prop}(hu:A.in1.units<cLine)(F:Fr h₀ L s.heap m)(X:(Mine.K w.params).In h₀)(N:News h₀ L s.heap news)(hD:(D,A1 (Bf mb).toArray n)∈news)(hm:∀e∈mb,(e.q,Ig e)∈news)(hq:∀e∈mb,e.q≠D)
  (hn:(mb.map (·.i)).Nodup) (h4:mb.length≤4)
  (hret:∀mb' h' c,mb'.Perm mb→mb'.Pairwise (fun a b=>a.i<b.i)→Fr h₀ L h' m→News h₀ L h' (CD D (A1 (Bf mb').toArray c) news)→Q .none { s with heap:=h' }) :
  wpAny (model (rw_nq0317_02.prog) w) A (call (.builtin "list.sort") [.ref D]) Q E s:=by
 rcases ER mb.length 2 with h | h
 ·refine QF F N hD (by unfold Bf;rw [AB];exact h) fun h' c=>hret mb h' c (.refl _) (pw1 h)
 exact QD hu F X N hD hm hq hn h h4 hret
theorem NB {ms ms':List MB}{l₀:List TR}(hp:(ms.map IM).Perm l₀)(hl:l₀.Pairwise RO)(h1:∀b∈l₀,1≤b.2.2)(hp':ms'.Perm ms)(hs:ms'.Pairwise fun a b=>a.i<b.i):ms'.map IM=l₀:=by
 have hs2:(ms'.map IM).Pairwise fun a b=>a.1<b.1:=List.pairwise_map.mpr hs;have hl2:l₀.Pairwise fun a b=>a.1<b.1:=hl.imp_of_mem fun {a b} ha _ hab=>by have:=h1 a ha;have:=hab.1;lia
 refine List.Perm.eq_of_pairwise (le:=fun a b=>a.1<b.1) (fun a b _ _ h1 h2=>by lia) hs2 hl2 ((hp'.map IM).trans hp)
theorem On {ms:List MB}{l₀:List TR}(hp:(ms.map IM).Perm l₀)(hl:l₀.Pairwise RO)(h1:∀b∈l₀,1≤b.2.2):(ms.map (·.i)).Nodup:=by
 have hl2:(l₀.map (·.1)).Nodup:=List.pairwise_map.mpr (hl.imp_of_mem fun {a b} ha _ hab=>by have:=h1 a ha;have:=hab.1;lia);have e:ms.map (·.i)=(ms.map IM).map (·.1):=by rw [Ao];rfl
 rw [e];exact (hp.map (·.1)).nodup_iff.mpr hl2
theorem Ra {g h:Heap}{L ln I D:Addr}{oI od:Obj}{vs:List Value}{e e':Nat}{R:List (Addr×Obj)}(N:News g L h (CD ln (A1 (vs.toArray.push (A3 D)) e') ((D,od)::(I,oI)::(ln,A1 vs.toArray e)::R)))(hD:D≠ln)(hI:I≠ln)(hR:∀p∈R,p.1≠ln) :
  News g L h ((ln,A1 (vs++[A3 D]).toArray e')::(D,od)::(I,oI)::R):=by
 have e:vs.toArray.push (A3 D)=(vs++[A3 D]).toArray:=by simp
 rw [e] at N;exact Bo N fun q hq=>AH hq (AV mH2) fun hq=>AH hq (A8 (.head _) hD) fun hq=>AH hq (A8 mH1 hI) fun hq=>A8 (mT3 hq) (hR q hq)
theorem RY {I ln:Addr}{oI:Obj}{e:TE}{ws:List TE}{n:Nat}{R tl big:List (Addr×Obj)}(h:tl=Hx ws++R)(hb:∀q∈(ln,A1 (DK ws++[A3 e.a]).toArray n)::(e.a,Kl e)::(I,oI)::tl,q∈big) :
  ∀q∈(I,oI)::(ln,A1 (DK (ws++[e])).toArray n)::(Hx (ws++[e])++R),q∈big:=by
 intro q hq;subst h;have e1:DK (ws++[e])=DK ws++[A3 e.a]:=by simp [DK]
 have e2:Hx (ws++[e])=Hx ws++[(e.a,Kl e)]:=by simp [Hx]
 rw [e1,e2] at hq;refine hb q ?_;simp only [Cf,BD,Au,or_false] at hq ⊢;rcases hq with h | h | (h | h) | h
 ·exact .inr (.inr (.inl h))
 ·exact .inl h
 ·exact .inr (.inr (.inr (.inl h)))
 ·exact .inr (.inl h)
 exact .inr (.inr (.inr (.inr h)))
theorem UA {ln:Addr}{o:Obj}{e:TE}{ws:List TE}{R:List (Addr×Obj)}{p:Addr×Obj}(h:p∈(ln,o)::(Hx (ws++[e])++R)):p.1=ln∨p.1=e.a∨p∈Hx ws++R:=by
 have e2:Hx (ws++[e])=Hx ws++[(e.a,Kl e)]:=by simp [Hx]
 rw [e2] at h;simp only [Cf,BD,Au,or_false] at h ⊢;rcases h with h | (h | h) | h
 ·exact .inl (by rw [h])
 ·exact .inr (.inr (.inl h))
 ·exact .inr (.inl (by rw [h]))
 exact .inr (.inr (.inr h))
theorem RZ {g h:Heap}{L ln:Addr}{e:TE}{ws:List TE}{n n':Nat}{R tl:List (Addr×Obj)}(N:News g L h (CD ln (A1 ((DK ws).toArray.push (A3 e.a)) n') ((e.a,Kl e)::(ln,A1 (DK ws).toArray n)::tl)))(hl:tl=Hx ws++R)(hD:e.a≠ln)(hR:∀p∈tl,p.1≠ln) :
  News g L h ((ln,A1 (DK (ws++[e])).toArray n')::(Hx (ws++[e])++R)):=by
 have e1:(DK ws).toArray.push (A3 e.a)=(DK (ws++[e])).toArray:=by simp [DK]
 have e2:Hx (ws++[e])=Hx ws++[(e.a,Kl e)]:=by simp [Hx]
 rw [e1] at N;rw [e2];subst hl;refine Bo N fun q hq=>?_;refine AH hq (AV mH1) fun hq=>?_;simp only [Cf,BD,Au,or_false] at hq;rcases hq with (h | h) | h
 ·exact A8 (mT2 (maL _ h)) (hR q (maL _ h))
 ·rw [h];exact A8 (.head _) hD
 exact A8 (mT2 (maR _ h)) (hR q (maR _ h))
theorem MY {prog:AY}{w:World}{A:AO}{E:Value→A4→Prop}{s:A4}{h₀:Heap}{L l:Addr}{news:List (Addr×Obj)}{items:Array Value}{ep:Nat}{Q:Bool→A4→Prop}{b:Bool}(N:News h₀ L s.heap news)(hm:(l,A1 items ep)∈news)(hfit:items.size≤100000)
  (e:(!items.isEmpty)=b) (h:Q b { s with toks:=s.toks+1+1 }):wpAny (model prog w) A (truthy (.ref l)) Q E s:=FZ N hm hfit (e.symm▸h)
set_option tactic.hygienic true in
theorem Vg (w:World)(p:AY)(lo:List Str)(mean:CG→Option Value)(mg mb:Str→Option Value)
  (gd:Option (List Code)) (cn:Str) (cs:Scope) (a:Addr) (ccd:Value) (cl:List (Str×Addr)) (outer:List Env) (A₀:AO) (base h₀:Heap) (L:Addr) (m:Str→Option Value) (G rest:List (Addr×Obj)) (s:A4)
  (x y:Str) (xa:Addr) (Q E:Value→A4→Prop)
  (B:Below A₀ base outer h₀) (F:Fr h₀ L s.heap m) (X:(Mine.K w.params).In h₀) (N:News h₀ L s.heap (G++rest)) (T:Top p lo mean mg mb h₀) (hk:cs.kind = .function)
  (hS:SM w x y xa G) (hx:x.length≤4) (hy:y.length≤4) (hrd:∀p∈rest,VB p.2)
  (hret:∀D ep bl l h' tk',JR x y 0 x.length 0 y.length l→bl.map IM=l++[((x.length:Int),(y.length:Int),(0:Int))]→(∀p∈rest,p.1≠D)→Fr h₀ L h' m→News h₀ L h' ((D,A1 (Bf bl).toArray ep)::(HK bl++rest))→Q (.ref D) { s with heap:=h',toks:=tk' }) :
  wpAny (model (rw_nq0317_02.prog) w) (Bi 340 400 gd cn cs L a ccd cl outer) (call (.ref 203) [.ref xa]) Q E s:=by
 k_with "+28" =>skip
 k_with "28" =>(fail_if_success k_extra "+29")
 k_with "k" =>k_extra "28"
 k_with "b" =>k_extra "28"
 k_with "c" =>k_extra "28"
 k_with "d" =>k_extra "28"
 k_with "e" =>k_extra "28"
 k_with "f" =>k_extra "28"
 k_with "g" =>k_extra "28"
 k_with "ap" =>k_extra "28"
 k_with "u" =>k_extra "28"
 k_with "br" =>k_extra "28"
 k_with "bs" =>k_extra "28"
 k_with "ak" =>k_extra "28"
 k_with "aj" =>k_extra "28"
 k_with "bt" =>k_extra "28"
 k_with "z" =>k_extra "28"
 k_with "i" =>k_extra "28"
 k_with "ag" =>k_extra "28"
 k_with "bu" =>k_extra "28"
 k_with "bd" =>k_extra "28"
 k_with "ao" =>k_extra "28"
 k_with "bv" =>k_extra "28"
 refine (let G9:Prop:=_;(?_:G9));obtain ⟨dd,b2,bj,bp,o9,BB,u1,u2,v1,v2,v3,v4,v5,v6,v7,v8,v9,v10,lb1,lb2,hG,hq1,hq2,hq3⟩:=id hS;refine (?_:wpAny _ _ _ _ _ _);have N8:=N;rw [hG] at N8;simp only [BJ] at N8;refine CV (LZ BB++rest) ?_;intro tl htl;rw [←htl] at N8;refine (let oS:Obj:=_;have N9:News _ _ _ (_::_::_::(_,oS)::_):=N8;?_);clear N8;have hGs:V9 (G=_):=⟨hG⟩;have htls:V9 (tl=_):=⟨htl⟩;clear N hq1 hq2 hG htl;revert X
 k_fill
 intro X;refine BN ?_
 k_dflt (refine' HJ (binds:=[(A0 "self",.ref xa)]) ?k1 ?k2 ?k3 ?k4 ?k5 ?kA ?kF ?kK ?k6 ?k7 ?k8 ?k9 ?kB ?_ ?c2 ?c3 ?c4 ?c5;(case kA=>exact rfl);(case kF=>exact rfl);(case kK=>assumption);(case k1=>k_asm);(case k2=>k_asm);(case k3=>k_asm);(case k4=>k_asm);(case k5=>k_asm);(case k6=>k_is);(case k7=>k_is);(case k8=>ktr_room);(case k9=>exact CA rfl);(case c5=>decide);(case kB=>exact locs rfl);(case c2=>exact rfl);(case c3=>exact rfl);(case c4=>exact rfl);k_whole;intro g' L' h' FG' F' N' B' X' T';(try dsimp only);(try k_fold))
 refine (let A9:AO:=_;(?_:wpAny _ A9 _ _ _ _));k_steps;refine ⟨?_⟩;rename_i D1 _ l1 lq _ l2 _ _ _ lm _ l3 h1 F1 N1;refine Bp (Uy x y x.length 0 x.length 0 y.length (by lia) (BX _) (BX _) (Ag _) (Ag _)) ?_;intro l₀ hl₀;refine Vq (⟨_,_,_,PL (xa:=xa) (lq:=lq) (lm:=lm) (la:=x.length) (lb:=y.length) F1 rfl rfl rfl rfl rfl⟩:∃ta tb u,Fr g' L' h1 (GMm xa lq lm x.length y.length ta tb u)) ?_;intro ta tb u0 F2;clear F1;have hsub:∀q∈G++rest,q∈(bp,Eh lb2)::(bj,Eh lb1)::(xa,AT 242 dd)::(dd,oS)::(b2,o9)::tl:=by
  intro q hq;rw [hGs.out] at hq;rw [htls.out];simpa only [BJ] using hq
 obtain ⟨k1,k2,k3,k4,N2⟩:∃k1 k2 k3 k4,News g' L' h1 ((lm,A1 (Bf []).toArray 0)::(lq,A1 (Fb [⟨D1,0,x.length,0,y.length,k1,k2,k3,k4⟩]).toArray 0)::(D1,QN ⟨D1,0,x.length,0,y.length,k1,k2,k3,k4⟩)::(G++rest)):=
  ⟨_,_,_,_,Bo N1 (A6 (.head _) (A6 mH1 (A6 mH2 fun q hq=>mT4 (hsub q hq))))⟩
 clear N1;have hlml:lq≠lm:=A7 l3.1;have hGR:∀p∈G++rest,p.1≠lm∧p.1≠lq:=fun p hp=>by
  refine Vu l3 ?_;(try clear l3);intro _ _ _ a1 a2 a3 a4 a5 a6;refine TP l2 ?_;(try clear l2);intro _ _ b1 b2 b3 b4 b5 b6;have hp':=hsub p hp;refine AQ (P:=fun p=>p.1≠lm∧p.1≠lq) hp' ⟨A7 a1,A7 b1⟩ fun hp'=>?_;refine AQ (P:=fun p=>p.1≠lm∧p.1≠lq) hp' ⟨A7 a2,A7 b2⟩ fun hp'=>?_;refine AQ (P:=fun p=>p.1≠lm∧p.1≠lq) hp' ⟨A7 a3,A7 b3⟩ fun hp'=>?_;refine AQ (P:=fun p=>p.1≠lm∧p.1≠lq) hp' ⟨A7 a4,A7 b4⟩ fun hp'=>?_;refine AQ (P:=fun p=>p.1≠lm∧p.1≠lq) hp' ⟨A7 a5,A7 b5⟩ fun hp'=>?_;exact ⟨A7 (Cs a6 p hp'),A7 (Cs b6 p hp')⟩
 refine Ju (QJ s g' L' x y xa lq lm ta tb G rest l₀) (2*(x.length:Int).toNat+1) ?j0 ?turn (by passes_own)
 case j0=>
  refine ⟨[(⟨D1,0,x.length,0,y.length,k1,k2,k3,k4⟩,l₀)],[],0,0,h1,_,u0,rfl,F2,N2,?_,?_,?_,?_,?_,AA _⟩
  ·exact fs1 ⟨BX _,Ag _,BX _,BX _,Ag _,BX _,hl₀⟩
  ·simp
  ·simp [qM]
  ·simp;lia
  exact fs1 ⟨A7 l3.2.1,A7 l2.1⟩
 case turn=>
  intro n s₁ h1;obtain ⟨qs,ms,eq,em,h,tk,u,rfl,F4,N4,hq,hp,hn,hb,ho1,ho2⟩:=h1;have hql:=US qs;refine CV (M2 (qs.map (·.1))++(HK ms++(G++rest))) ?_;intro tl4 htl4;rw [←htl4] at N4;k_steps;refine ⟨?_⟩
  cases qs with
  | nil=>
   refine MY N4 mH1 (B0 _) (b:=false) rfl ?_;refine Uo ?_;refine Dj (PV hl₀ (BX _) (BX _) (Ag _) (Ag _)) ?_;intro hc1 hc2 hc3;have hp2:(ms.map IM).Perm l₀:=by simpa using hp
   have hc4:∀b∈l₀,1≤b.2.2:=fun b hb=>(hc1 b hb).2.2.2.2.1;k_steps;refine ⟨?_⟩;refine UJ (mb:=ms) (by k_units) F4 X' N4 (.head _) (fun e he=>mT2 (htl4▸maR _ (maL _ (H1 he)))) (fun e he=>(ho2 e he).1) (On hp2 hc2 hc4) (by have:=hp2.length_eq;rw [AB] at this;lia) fun ms' h6 c6 hpm hpw F6 N6=>?_;have hml':=NB hp2 hc2 hc4 hpm hpw;refine CV ((lm,A1 (Bf ms').toArray c6)::(xa,AT 242 dd)::(dd,oS)::(HK ms'++rest)) ?_;intro R hRR;have N7:News g' L' h6 R:=by
    rw [hRR];rw [htl4] at N6;refine Bo N6 (A6 (AV (.head _)) (A6 ?_ (A6 ?_ fun q hq'=>?_)))
    ·exact A8 (mT2 (maR _ (maR _ (maL _ (hGs.out▸mH2))))) (A7 l3.2.2.2.2.2.1)
    ·exact A8 (mT2 (maR _ (maR _ (maL _ (hGs.out▸mH3))))) (A7 l3.2.2.2.2.2.2.1)
    refine AF hq' (fun hq'=>?_) fun hq'=>?_
    ·refine mmE hq' ?_;intro e he;have he2:=hpm.mem_iff.mp he;exact A8 (mT2 (maR _ (maL _ (H1 he2)))) (ho2 e he2).1
    exact A8 (mT2 (maR _ (maR _ (maR _ hq')))) (hGR q (maR _ hq')).1
   clear N6 N4 F4;k_steps;refine ⟨?_⟩;rename Fr _ _ _ _=>F8;rename News _ _ _ _=>N8;rename_i ln _ l4 _;refine ED ?_ (by intro _;with_unfolding_all rfl);k_steps;refine ⟨?_⟩;have hsz:∀{i:Nat} {b:TR} (ws:List TE),St1 l₀ i b (ws.map teT)→(DK ws).toArray.size≤100000:=fun ws h=>by
    have:=UH h;unfold DK;simp at this ⊢;lia
   refine L4 (l:=lm) (items:=(Bf ms').toArray) (ep:=c6) ?hv rfl (by passes_own) (NJ x y xa ln ta tb R l₀) ?hl F8 N8 ?h0 ?turn ?done
   case hv=>
    intro i v hv;refine Aq (FQ hv) ?_;intro e he hve;exact ⟨_,hve⟩
   case hl=>
    rintro i m nx ⟨ws,i1,j1,k1,t1,t2,t3,u,en,hm,hn,hs,ho⟩;rw [hn,hRR];exact .tail _ (maR _ (.head _))
   case h0=>exact ⟨[],0,0,0,_,_,_,_,0,Jp rfl rfl rfl rfl rfl rfl rfl,rfl,.inl ⟨rfl,rfl,rfl⟩,AA _⟩
   case turn=>
    clear F8 N8;rintro I i v m₁ nx oI h tk hv ⟨ws,i1,j1,k1,t1,t2,t3,u,en,rfl,rfl,hs,ho⟩ hnI F9 N9;refine Aq (FQ hv) ?_;intro e he e92;subst e92;have hi2:l₀[i]? = some (e.i,e.j,e.k):=by rw [←hml',AX,he];rfl
    refine G6 rfl F9 N9 X' (.tail _ (.tail _ (maR _ (hRR▸mT3 (maL _ (H1 (AK he))))))) rfl rfl fun h10 tk10 F10 N10=>?_;clear F9 N9;refine CV (Hx ws++R) ?_;intro tl9 htl9;rw [←htl9] at N10 hnI;have hIl:I≠ln:=(hnI _ (.head _)).symm;have htln:∀p∈tl9,p.1≠ln:=fun p hp=>by
     rw [htl9] at hp;refine AF hp (fun hp=>?_) fun hp=>?_
     ·refine mmE hp ?_;intro e' he';exact ho e' he'
     exact A7 (l4 p hp)
    k_with "+29" =>skip
    k_with "29" =>(fail_if_success k_extra "+30")
    k_with "k" =>k_extra "29"
    k_with "b" =>k_extra "29"
    k_with "c" =>k_extra "29"
    k_with "d" =>k_extra "29"
    k_with "e" =>k_extra "29"
    k_with "f" =>k_extra "29"
    k_with "g" =>k_extra "29"
    k_with "ap" =>k_extra "29"
    k_with "i" =>k_extra "29"
    k_with "bf" =>k_extra "29"
    k_steps
    ·rename_i c1 c2 _ _ F15 N15;refine ⟨?_⟩;rw [htl9] at N15;exact ⟨_,_,_,_,rfl,F15,N15,htl9▸hnI,⟨ws,i1,j1,k1+e.k,_,_,_,_,en,Jp rfl rfl rfl rfl rfl rfl rfl,rfl,UI hc2 hs hi2 c1 c2,ho⟩⟩
    ·rename_i hk0 D2 h12 F12 N12 l12;refine ⟨?_⟩;refine CW F12 N12 mH2 (Bw (hsz ws hs)) fun h13 F13 N13=>?_;have N14:=Ra N13 (AN l12.2.1) hIl htln;clear F12 N12 N13;k_steps;refine ⟨?_⟩;rename Fr _ _ _ _=>F15;rename News _ _ _ _=>N15;refine ⟨_,_,_,_,rfl,F15,Bo N15 (RY (e:=⟨D2,i1,j1,k1,t1,t2,t3⟩) htl9 (fun q hq=>.tail _ hq)),fun p hp=>?_,⟨ws++[⟨D2,i1,j1,k1,t1,t2,t3⟩],e.i,e.j,e.k,_,_,_,_,en+1,Jp rfl rfl rfl rfl rfl rfl rfl,rfl,by rw [AI];exact Rc hs hi2 hk0,fun e' he'=>?_⟩⟩
     ·rcases UA hp with h | h | h
      ·exact h▸hIl.symm
      ·rw [h];exact AN l12.1
      exact hnI p (.tail _ (htl9▸h))
     rcases Cf.mp he' with h | h
     ·exact ho e' h
     rw [ms1 h];exact AN l12.2.1
    ·rename k1=0=>hk0;rename Fr _ _ _ _=>F15;rename News _ _ _ _=>N15;refine ⟨?_⟩;rw [htl9] at N15;exact ⟨_,_,_,_,rfl,F15,Bo N15 (fun q hq=>.tail _ hq),htl9▸hnI,⟨ws,e.i,e.j,e.k,_,_,_,_,en,Jp rfl rfl rfl rfl rfl rfl rfl,rfl,UG hc4 hs hi2 hk0,ho⟩⟩
    ·rename_i hk0 D2 h12 F12 N12 l12;refine ⟨?_⟩;refine CW F12 N12 mH2 (Bw (hsz ws hs)) fun h13 F13 N13=>?_;have N14:=Ra N13 (AN l12.2.1) hIl htln;clear F12 N12 N13;k_steps;refine ⟨?_⟩;rename Fr _ _ _ _=>F15;rename News _ _ _ _=>N15;refine ⟨_,_,_,_,rfl,F15,Bo N15 (RY (e:=⟨D2,i1,j1,k1,t1,t2,t3⟩) htl9 (fun q hq=>.tail _ hq)),fun p hp=>?_,⟨ws++[⟨D2,i1,j1,k1,t1,t2,t3⟩],e.i,e.j,e.k,_,_,_,_,en+1,Jp rfl rfl rfl rfl rfl rfl rfl,rfl,by rw [AI];exact Rc hs hi2 hk0,fun e' he'=>?_⟩⟩
     ·rcases UA hp with h | h | h
      ·exact h▸hIl.symm
      ·rw [h];exact AN l12.1
      exact hnI p (.tail _ (htl9▸h))
     rcases Cf.mp he' with h | h
     ·exact ho e' h
     rw [ms1 h];exact AN l12.2.1
    rename k1=0=>hk0;rename Fr _ _ _ _=>F15;rename News _ _ _ _=>N15;refine ⟨?_⟩;rw [htl9] at N15;exact ⟨_,_,_,_,rfl,F15,Bo N15 (fun q hq=>.tail _ hq),htl9▸hnI,⟨ws,e.i,e.j,e.k,_,_,_,_,en,Jp rfl rfl rfl rfl rfl rfl rfl,rfl,UG hc4 hs hi2 hk0,ho⟩⟩
   clear F8 N8;rintro m₁ nx h tk ⟨ws,i1,j1,k1,t1,t2,t3,u,en,rfl,rfl,hs,ho⟩ F9 N9;have hmz:(Bf ms').toArray.size=l₀.length:=by rw [←hml'];simp [Bf]
   rw [hmz] at hs;refine CV (Hx ws++R) ?_;intro tl9 htl9;rw [←htl9] at N9;have htln:∀p∈tl9,p.1≠ln:=fun p hp=>by
    rw [htl9] at hp;refine AF hp (fun hp=>?_) fun hp=>?_
    ·refine mmE hp ?_;intro e' he';exact ho e' he'
    exact A7 (l4 p hp)
   k_with "+30" =>skip
   k_with "30" =>(fail_if_success k_extra "+31")
   k_with "k" =>k_extra "30"
   k_with "b" =>k_extra "30"
   k_with "c" =>k_extra "30"
   k_with "d" =>k_extra "30"
   k_with "e" =>k_extra "30"
   k_with "f" =>k_extra "30"
   k_with "g" =>k_extra "30"
   k_with "ap" =>k_extra "30"
   k_with "exec If" =>(k_extra "30";refine Af ?_)
   k_steps;refine ⟨?_⟩;refine Ac (Q:=fun f s'=>f = .next∧XU s g' L' (GNm xa ln x.length y.length i1 j1 k1 ta tb t1 t2 t3 u) ln R l₀ s') ?if3 ?rest3 (fun _ _ e=>e)
   case if3=>
    k_with "+31" =>skip
    k_with "31" =>(fail_if_success k_extra "+32")
    k_with "k" =>k_extra "31"
    k_with "b" =>k_extra "31"
    k_with "c" =>k_extra "31"
    k_with "d" =>k_extra "31"
    k_with "e" =>k_extra "31"
    k_with "f" =>k_extra "31"
    k_with "g" =>k_extra "31"
    k_with "ap" =>k_extra "31"
    k_with "i" =>k_extra "31"
    k_steps
    ·rename_i hk0 D2 h12 F12 N12 l12;refine ⟨?_⟩;refine CW F12 N12 mH1 (Bw (hsz ws hs)) fun h13 F13 N13=>?_;k_steps;have N14:News g' L' h13 ((ln,A1 (DK (ws++[(⟨D2,i1,j1,k1,t1,t2,t3⟩:TE)])).toArray (en+1))::(Hx (ws++[(⟨D2,i1,j1,k1,t1,t2,t3⟩:TE)])++R)):=RZ N13 htl9 (AN l12.1) htln;refine ⟨_,_,_,ws++[(⟨D2,i1,j1,k1,t1,t2,t3⟩:TE)],rfl,F13,N14,(by rw [AI];exact SU hs hk0),fun e' he'=>?_⟩;rcases Cf.mp he' with h | h
     ·exact ho e' h
     rw [ms1 h];exact AN l12.1
    rename k1=0=>hk0;rw [htl9] at N9;exact ⟨_,_,_,ws,rfl,F9,N9,SV hc4 hs hk0,ho⟩
   clear F9 N9;rintro f s' ⟨rfl,h12,tk12,en2,ws2,rfl,F16,N16,hs2,ho3⟩;clear htl9 htln tl9;refine CV (Hx ws2++R) ?_;intro tl9 htl9;rw [←htl9] at N16;have htln:∀p∈tl9,p.1≠ln:=fun p hp=>by
    rw [htl9] at hp;refine AF hp (fun hp=>?_) fun hp=>?_
    ·refine mmE hp ?_;intro e' he';exact ho3 e' he'
    exact A7 (l4 p hp)
   k_with "call type:map" =>(k_extra "31";refine Af ?_)
   k_with "au" =>k_extra "31"
   k_steps;refine ⟨?_⟩;rename_i D3 h13 F17 N17 l13;refine CW F17 N17 mH1 (Bw (by have:=congrArg Bk hs2;unfold DK;simp at this ⊢;lia)) fun h14 F18 N18=>?_;obtain ⟨e3,he3,N19⟩:∃e3:TE,teT e3=((x.length:Int),(y.length:Int),(0:Int))∧News g' L' h14 ((ln,A1 (DK (ws2++[e3])).toArray (en2+1))::(Hx (ws2++[e3])++R)):=
    ⟨⟨D3,x.length,y.length,0,_,_,_⟩,rfl,RZ (e:=⟨D3,x.length,y.length,0,_,_,_⟩) N18 htl9 (AN l13.1) htln⟩
   clear F17 N17 N18;refine CV (ws2++[e3]) ?_;intro ws3 hws3;rw [←hws3] at N19;have hs3:ws3.map teT=l₀++[((x.length:Int),(y.length:Int),(0:Int))]:=by rw [hws3,AI,hs2,←he3];rfl
   k_with "bw" =>k_extra "31"
   k_steps;refine ⟨?_⟩;rename Fr _ _ _ _=>F20;rename News _ _ _ _=>N20;rename_i mq _ l20;refine VV F20 N20 mH1 fun z t it h21 F21 N21 nz1 nz2 nz3=>?_;clear F20 N20;k_steps;refine ⟨?_⟩;refine Qe (z:=z) (t:=t) (f:=mq) (it:=it) (ln:=ln) (ws:=ws3) (en:=en2+1) (R0:=(z,Ez t mq)::(t,Pz it)::(mq,Eu (.ref 89) (.ref 135))::(ln,A1 (DK ws3).toArray (en2+1))::(Hx ws3++R)) rfl ?hmk F21 (Bo N21 (A6 mH2 (A6 (.head _) (A6 mH1 fun q hq=>mT3 hq)))) (.head _) mH1 mH2 mH3 (fun e he=>mT4 (maL _ (mm2 ⟨e,he,rfl⟩))) (by have:=congrArg Bk hs3;simp at this;lia) (fc1 ⟨nz1,fc1 ⟨nz2,nz3⟩⟩) fun S h22 tk22 bl c22 hbl hS22 F22 N22=>?rr
   case hmk=>
    intro s' T0 i j k t1 t2 t3 news' Q' E' F30 N30 hT0 hf0 hr;refine CK (Bi 360 600 gd (A0 "SequenceMatcher.get_matching_blocks") _ L' 203 (.ref 202) [] (envX cn cs L a ccd cl::outer)) rfl (Ad rfl) rfl rfl (Ad rfl) ?_;exact call_meth N30 hf0 (Ue w p lo mean mg mb gd _ _ 203 (.ref 202) _ _ _ _ _ _ _ news' s' i j k t1 t2 t3 T0 Q' E' B' F30 X' N30 T' rfl hT0 hr)
   clear F21 N21;k_steps;refine ⟨?_⟩;have hRR2:∀q∈(xa,AT 242 dd)::(dd,oS)::(HK ms'++rest),q∈R:=fun q hq=>hRR▸.tail _ hq;have hin:∀q∈R,q∈(S,A1 (Bf bl).toArray c22)::(HK bl++((z,Ez t mq)::(t,Pz it)::(mq,Eu (.ref 89) (.ref 135))::(ln,A1 (DK ws3).toArray (en2+1))::(Hx ws3++R))):=fun q hq=>.tail _ (maR _ (mT4 (maR _ hq)));refine Ud F22 X' N22 (hin _ (hRR2 _ (.head _))) (hin _ (hRR2 _ mH1)) fun h23 F23 N23=>?_;have hSd:S≠dd:=(hS22 _ (mT4 (maR _ (hRR2 _ mH1)))).symm;have N24:News g' L' h23 ((S,A1 (Bf bl).toArray c22)::(xa,AT 242 dd)::(dd,Fk [ent w "isjunk" v1 AG,ent w "a" v2 (AD x u1),ent w "b" v3 (AD y u2),ent w "autojunk" v4 (B6 false),ent w "matching_blocks" v5 (A3 S),ent w "opcodes" v6 AG,ent w "fullbcount" v7 AG,ent w "b2j" v8 (A3 b2),ent w "bjunk" v9 (A3 bj),ent w "bpopular" v10 (A3 bp)] 10)::(HK bl++rest)):=by
    have hxi:=hin _ (hRR2 _ (.head _));have hdi:=hin _ (hRR2 _ mH1);refine Bo N23 (A6 (A8 (.head _) hSd) (A6 (A8 hxi (Rm N22 hxi hdi (by intro e;cases e))) (A6 (AV hdi) fun q hq'=>?_)));refine AF hq' (fun hq'=>?_) fun hq'=>?_
    ·have hqi:=List.mem_cons_of_mem (S,A1 (Bf bl).toArray c22) (Kb ((z,Ez t mq)::(t,Pz it)::(mq,Eu (.ref 89) (.ref 135))::(ln,A1 (DK ws3).toArray (en2+1))::(Hx ws3++R)) hq');refine A8 hqi (Rm N22 hqi hdi ?_);refine mmE hq' ?_;intro e' he';intro e;cases e
    have hqi:=hin _ (hRR2 _ (mT2 (maR _ hq')));exact A8 hqi (VT N22 hqi hdi (hrd q hq') rfl (by intro v e;cases e))
   have hrS:∀p∈rest,p.1≠S:=fun p hp=>hS22 _ (mT4 (maR _ (hRR2 _ (mT2 (maR _ hp)))));clear F22 N22 N23;k_steps;rename Fr h₀ _ _ _=>F25;rename News h₀ _ _ _=>N25;exact hret S c22 bl l₀ h23 _ hl₀ (hbl.trans hs3) hrS F25 (Bo N25 (A6 (.head _) fun q hq'=>mT3 hq'))
  | cons q qs=>
   k_with "+32" =>skip
   k_with "32" =>(fail_if_success k_extra "+33")
   k_with "k" =>k_extra "32"
   k_with "b" =>k_extra "32"
   k_with "c" =>k_extra "32"
   k_with "d" =>k_extra "32"
   k_with "e" =>k_extra "32"
   k_with "f" =>k_extra "32"
   k_with "g" =>k_extra "32"
   k_with "ap" =>k_extra "32"
   k_with "u" =>k_extra "32"
   k_with "br" =>k_extra "32"
   k_with "bs" =>k_extra "32"
   k_with "ak" =>k_extra "32"
   k_with "aj" =>k_extra "32"
   k_with "bt" =>k_extra "32"
   k_with "z" =>k_extra "32"
   k_with "i" =>k_extra "32"
   k_with "ag" =>k_extra "32"
   k_with "bu" =>k_extra "32"
   k_with "bd" =>k_extra "32"
   k_with "ao" =>k_extra "32"
   k_with "bv" =>k_extra "32"
   obtain ⟨⟨qa,alo,ahi,blo,bhi,k1,k2,k3,k4⟩,lq0⟩:=q;have e9:Fb (Tr (·.1) (((⟨qa,alo,ahi,blo,bhi,k1,k2,k3,k4⟩,lq0):QL)::qs))=Fb (qs.map (·.1))++[A3 qa]:=by simp [Fb]
   rw [e9] at N4;refine MY N4 mH1 (by unfold Fb;simp at hql ⊢;lia) (b:=true) (by simp) ?_;refine Un ?_;refine Nn (hq _ (.head _)) ?_;intro z1 z2 z3 z4 z5 z6 z7;dsimp only at z1 z2 z3 z4 z5 z6 z7;k_steps;refine ⟨?_⟩;refine Sj F4 N4 mH1 (by unfold Fb;simp at hql ⊢;lia) fun h6 F6 N6=>?_;clear F4 N4;have hR:∀p∈M2 (qs.map (·.1))++(HK ms++(G++rest)),p.1≠lm∧p.1≠lq:=fun p hp=>by
    refine AF hp (fun hp=>?_) fun hp=>?_
    ·refine mmE hp ?_;intro e he;refine mmE he ?_;intro q hq';exact ho1 q (.tail _ hq')
    refine AF hp (fun hp=>?_) fun hp=>?_
    ·refine mmE hp ?_;intro e he;exact ho2 e he
    exact hGR p hp
   have hn2:n=(2*(ahi-alo).toNat+1)+qM qs:=hn;have N7:News g' L' h6 ((lm,A1 (Bf ms).toArray em)::(lq,A1 (Fb (qs.map (·.1))).toArray (eq+1))::(qa,(⟨.type "tuple",none,.seq #[.int alo k1,.int ahi k2,.int blo k3,.int bhi k4] 0,#[]⟩:Obj))::(xa,AT 242 dd)::(dd,oS)::(M2 (qs.map (·.1))++(HK ms++(G++rest)))):=by
    rw [htl4] at N6;refine Bo N6 (A6 (A8 (.head _) (Ne.symm hlml)) (A6 (AV mH1) (A6 (A8 mH2 (ho1 _ (.head _)).2) (A6 ?_ (A6 ?_ fun q hq'=>A8 (mT3 hq') (hR q hq').2)))))
    ·exact A8 (mT2 (maR _ (maR _ (maL _ (hGs.out▸mH2))))) (A7 l2.2.2.2.2.1)
    exact A8 (mT2 (maR _ (maR _ (maL _ (hGs.out▸mH3))))) (A7 l2.2.2.2.2.2.1)
   refine CV (M2 (qs.map (·.1))++(HK ms++(G++rest))) ?_;intro tl5 htl5;rw [←htl5] at N7;clear N6;k_steps;refine ⟨?_⟩;rename Fr _ _ _ _=>F8;rename News _ _ _ _=>N9;have N10:News g' L' _ (G++((lm,A1 (Bf ms).toArray em)::(lq,A1 (Fb (qs.map (·.1))).toArray (eq+1))::(M2 (qs.map (·.1))++(HK ms++rest)))):=Bo N9 fun q hq=>by
    rw [htl5];refine AF hq (fun hq=>?_) fun hq=>?_
    ·exact mT5 (maR _ (maR _ (maL _ hq)))
    refine AH hq (.head _) fun hq=>?_;refine AH hq mH1 fun hq=>?_;refine AF hq (fun hq=>?_) fun hq=>?_
    ·exact mT5 (maL _ hq)
    refine AF hq (fun hq=>?_) fun hq=>?_
    ·exact mT5 (maR _ (maL _ hq))
    exact mT5 (maR _ (maR _ (maR _ hq)))
   clear N9;refine CK (Bi 350 500 gd (A0 "SequenceMatcher.get_matching_blocks") _ L' 203 (.ref 202) [] (envX cn cs L a ccd cl::outer)) rfl (show 341≤350 by decide) rfl rfl (show 403≤500 by decide) ?_;refine Vj w p lo mean mg mb gd _ _ 203 (.ref 202) _ _ _ _ _ _ _ G _ _ x y xa alo ahi blo bhi k1 k2 k3 k4 _ _ B' F8 X' N10 T' rfl hS (by lia) (by lia) z1 z2 z3 z4 z5 z6 fun mq md t1 t2 t3 h9 tk9 F9 N9 hmq=>?_;clear F8 N10;refine CV (flm x y alo ahi blo bhi) ?_;intro b hbb;rw [←hbb] at N9;refine G6 rfl F9 N9 X' (.head _) rfl rfl fun h10 tk10 F10 N10=>?_;clear F9 N9;have hml:mq≠lm∧mq≠lq:=⟨fun e=>hmq _ (maR _ (.head _)) e.symm,fun e=>hmq _ (maR _ mH1) e.symm⟩;have hmR:∀p∈M2 (qs.map (·.1))++(HK ms++(G++rest)),p.1≠mq:=fun p hp=>hmq p (by
    refine AF hp (fun hp=>?_) fun hp=>?_
    ·exact maR _ (mT2 (maL _ hp))
    refine AF hp (fun hp=>?_) fun hp=>?_
    ·exact maR _ (mT2 (maR _ (maL _ hp)))
    refine AF hp (fun hp=>?_) fun hp=>?_
    ·exact maL _ hp
    exact maR _ (mT2 (maR _ (maR _ hp))))
   have N11:News g' L' h10 ((lm,A1 (Bf ms).toArray em)::(lq,A1 (Fb (qs.map (·.1))).toArray (eq+1))::(mq,Bs md (.int b.bi t1) (.int b.bj t2) (.int b.bs t3))::tl5):=Bo N10 (A6 (.tail _ (maR _ (.head _))) (A6 (.tail _ (maR _ mH1)) (A6 (.head _) fun q hq'=>by
    rw [htl5] at hq';refine AF hq' (fun hq'=>?_) fun hq'=>?_
    ·exact .tail _ (maR _ (mT2 (maL _ hq')))
    refine AF hq' (fun hq'=>?_) fun hq'=>?_
    ·exact .tail _ (maR _ (mT2 (maR _ (maL _ hq'))))
    refine AF hq' (fun hq'=>?_) fun hq'=>?_
    ·exact .tail _ (maL _ hq')
    exact .tail _ (maR _ (mT2 (maR _ (maR _ hq')))))))
   clear N10;k_steps
   ·refine ⟨?_⟩;rename Fr _ _ _ _=>F12;rename News _ _ _ _=>N12;rename b.bs≠0=>hk0;refine CW F12 N12 (.head _) (Bw (by unfold Bf;simp;lia)) fun h11 F13 N13=>?_;have N14:=Bo N13 (VL (o':=A1 ((Bf ms).toArray.push (.ref mq)) (em+1)) (fc1 ⟨hlml,fc1 ⟨hml.1,fun p hp=>(hR p (htl5▸hp)).1⟩⟩));clear F12 N12 N13;refine (let m13:Str→Option Value:=_;have F15:Fr _ _ _ m13:=F13;?_);clear F13;k_steps;refine ⟨?_⟩;refine Ac (Q:=fun f s'=>f = .next∧XT s g' L' m13 lm lq (A1 ((Bf ms).toArray.push (.ref mq)) (em+1)) (Fb (qs.map (·.1))) ((mq,Bs md (.int b.bi t1) (.int b.bj t2) (.int b.bs t3))::tl5) (alo<b.bi∧blo<b.bj) alo b.bi blo b.bj s') ?if1 ?rest1 (fun _ _ e=>e)
    case if1=>
     k_with "+33" =>skip
     k_with "33" =>(fail_if_success k_extra "+34")
     k_with "k" =>k_extra "33"
     k_with "b" =>k_extra "33"
     k_with "c" =>k_extra "33"
     k_with "d" =>k_extra "33"
     k_with "e" =>k_extra "33"
     k_with "f" =>k_extra "33"
     k_with "g" =>k_extra "33"
     k_with "ap" =>k_extra "33"
     k_with "i" =>k_extra "33"
     k_steps
     ·rename_i c1 c2 D2 h12 F12 N12 l12;refine ⟨?_⟩;refine CW F12 N12 mH2 (Bw (by unfold Fb;simp at hql ⊢;lia)) fun h16 F16 N16=>?_;k_steps;refine ⟨_,_,_,[⟨D2,alo,b.bi,blo,b.bj,_,_,_,_⟩],rfl,F16,UR N16 (AN l12.2.1) (Ne.symm hlml) (fc1 ⟨hml.2,fun p hp=>(hR p (htl5▸hp)).2⟩),.inr ⟨⟨c1,c2⟩,_,rfl,rfl,rfl,rfl,rfl⟩,fs1 ⟨AN l12.1,AN l12.2.1,fc1 ⟨A7 l12.2.2.1,fun p hp=>A7 (Cs l12.2.2.2 p hp)⟩⟩⟩
     ·rename_i c1 c2;refine ⟨_,_,_,[],rfl,F15,(by rw [ES,C5];exact N14),.inl ⟨fun c=>c2 c.2,rfl⟩,AA _⟩
     rename_i c1;refine ⟨_,_,_,[],rfl,F15,(by rw [ES,C5];exact N14),.inl ⟨fun c=>c1 c.1,rfl⟩,AA _⟩
    clear F15 N14;rintro f s' ⟨rfl,h12,tk12,eq2,new1,rfl,F16,N16,hi1,hn1⟩;rw [Kw hi1.one] at N16;refine CV (M2 new1++((mq,Bs md (.int b.bi t1) (.int b.bj t2) (.int b.bs t3))::tl5)) ?_;intro tl6 htl6;rw [←htl6] at N16;k_steps
    ·rename_i c1 c2 D2 h12 F17 N17 l12;refine ⟨?_⟩;refine CW F17 N17 mH2 (Bw (by have:=hi1.one;unfold Fb;simp at hql ⊢;rcases this with h | ⟨e,h⟩<;>rw [h]<;>simp<;>lia)) fun h16 F18 N18=>?_;have N19:=UR N18 (AN l12.2.1) (Ne.symm hlml) (fun p hp=>by
      rw [htl6] at hp;refine AF hp (fun hp=>?_) fun hp=>?_
      ·refine mmE hp ?_;intro e he;exact (hn1 e he).2.1
      rcases mc1 hp with rfl | hp
      ·exact hml.2
      exact (hR p (htl5▸hp)).2)
     obtain ⟨e2,⟨y0,y1,y2,y3,y4⟩,N20⟩:∃e2:QE,(e2.a=D2∧e2.p=b.bi+b.bs∧e2.q=ahi∧e2.r=b.bj+b.bs∧e2.t=bhi)∧News g' L' h16 ((lm,A1 ((Bf ms).toArray.push (.ref mq)) (em+1))::(lq,A1 (Fb (new1++qs.map (·.1))++[A3 e2.a]).toArray (eq2+1))::(D2,QN e2)::tl6):=
      ⟨⟨D2,_,_,_,_,_,_,_,_⟩,⟨rfl,rfl,rfl,rfl,rfl⟩,N19⟩
     clear F17 N17 N18 N19;have N21:News g' L' h16 ((lm,A1 ((Bf ms).toArray.push (.ref mq)) (em+1))::(lq,A1 (Fb (([e2]++new1)++qs.map (·.1))).toArray (eq2+1))::(M2 ([e2]++new1)++((mq,Bs md (.int b.bi t1) (.int b.bj t2) (.int b.bs t3))::(M2 (qs.map (·.1))++(HK ms++(G++rest)))))):=by
      rw [BP,←Kw (.inr ⟨e2,rfl⟩),←htl5];have e9:M2 ([e2]++new1)++((mq,Bs md (.int b.bi t1) (.int b.bj t2) (.int b.bs t3))::tl5)=(D2,QN e2)::tl6:=by
       rw [htl6,←y0];rfl
      rw [e9];exact N20
     k_steps;dsimp only [WEnd];rw [hn2];refine Of (PL F18 rfl rfl rfl rfl rfl) N21 (fun q hq'=>hq q (.tail _ hq')) hp (Og (hq _ (.head _)) hbb.symm hk0 hi1 (.inr ⟨⟨c1,c2⟩,e2,rfl,y1,y2,y3,y4⟩)) (by rw [hn2] at hb;exact hb) (fun q hq'=>ho1 q (.tail _ hq')) (fc1 ⟨y0▸⟨AN l12.1,AN l12.2.1⟩,fun e he=>⟨(hn1 e he).1,(hn1 e he).2.1⟩⟩) ho2 hml
    ·rename_i c1 c2;dsimp only [WEnd];rw [hn2];rw [htl6,htl5] at N16;exact Of (PL F16 rfl rfl rfl rfl rfl) N16 (fun q hq'=>hq q (.tail _ hq')) hp (Og (hq _ (.head _)) hbb.symm hk0 hi1 (.inl ⟨fun c=>c2 c.2,rfl⟩)) (by rw [hn2] at hb;exact hb) (fun q hq'=>ho1 q (.tail _ hq')) (fun e he=>⟨(hn1 e he).1,(hn1 e he).2.1⟩) ho2 hml
    rename_i c1;dsimp only [WEnd];rw [hn2];rw [htl6,htl5] at N16;exact Of (PL F16 rfl rfl rfl rfl rfl) N16 (fun q hq'=>hq q (.tail _ hq')) hp (Og (hq _ (.head _)) hbb.symm hk0 hi1 (.inl ⟨fun c=>c1 c.1,rfl⟩)) (by rw [hn2] at hb;exact hb) (fun q hq'=>ho1 q (.tail _ hq')) (fun e he=>⟨(hn1 e he).1,(hn1 e he).2.1⟩) ho2 hml
   rename_i hk0;rename Fr _ _ _ _=>F12;rename News _ _ _ _=>N11;refine ⟨?_⟩;dsimp only [WEnd];rw [hn2];rw [htl5] at N11;have hz:lq0=[]:=by
    exact Xf z7 (by rw [←hbb];exact hk0)
   refine ⟨qM qs,by lia,qs,ms,_,_,_,_,_,rfl,PL F12 rfl rfl rfl rfl rfl,Bo N11 (A6 (.head _) (A6 mH1 fun q hq'=>mT3 hq')),fun q hq'=>hq q (.tail _ hq'),?_,rfl,by lia,fun q hq'=>ho1 q (.tail _ hq'),ho2⟩;rw [hz] at hp;exact hp
theorem JD {prog:AY}{w:World}{A:AO}{E:Value→A4→Prop}{s:A4}{h₀:Heap}{L l:Addr}{news:List (Addr×Obj)}{its:Array Value}{n:Nat}{k:Int}{t:Tok}{x:Value}{value slice:AW}{Q:Value→A4→Prop}
  (N:News h₀ L s.heap news) (hm:(l,A1 its n)∈news) (h0:0≤k) (h1:k<2 ^ 63) (hx:its[k.toNat]? = some x) (h:Q x s)
  (hb:subscripted slice false (.ref l) (.int k t)=operate [.ref l,.int k t] (getItem (.ref l) (.int k t)):=by with_unfolding_all rfl) :
  wpAny (model prog w) A (subscriptTail value slice (.ref l) (.int k t)) Q E s:=
 tail_any (BI N hm).typeIs slot_list_getitem.lookup (wpAny_getItem_list (BI N hm) h0 h1 hx h) hb
theorem JG {h₀ h:Heap}{L c:Addr}{o o':Obj}{pre suf:List (Addr×Obj)}(N:News h₀ L h (CD c o' (pre++(c,o)::suf)))(h1:∀p∈pre,p.1≠c)(h2:∀p∈suf,p.1≠c):News h₀ L h (pre++(c,o')::suf):=
 Bo N fun q hq=>AF hq (fun hq=>A8 (maL _ hq) (h1 q hq)) fun hq=>AH hq (AV (maR _ (.head _))) fun hq=>A8 (maR _ (.tail _ hq)) (h2 q hq)
section
variable {prog:AY}{w:World}{A:AO}{E:Value→A4→Prop}{s:A4}{h₀:Heap}{L a:Addr}{m:Str→Option Value}{cn:Str}{cs:Scope}{ccd:Value}{cl:List (Str×Addr)}
end
theorem UK {x:Str}{k:Int}(h0:0≤k)(h1:k≤x.length):((Bh x none (some k)).length:Int)=k∧∀t,0≤t→t<k→(Bh x none (some k)).cps[t.toNat]? = x.cps[t.toNat]?:=by
 have e:Bh x none (some k)=⟨((x.cps.toList.drop 0).take (k-0).toNat).toArray⟩:=StrLaws.sliceText_to ⟨h0,h1⟩;have hl:x.cps.toList.length=x.length:=rfl;rw [e]
 constructor
 ·show (((Ge _).size:Nat):Int)=k;rw [Ae,Bm,Fn,hl,Gf,Nat.sub_zero,Nat.min_eq_left (Int.toNat_le.mpr h1),Bl h0]
 intro t t0 t1;show (Ge _)[t.toNat]? = _;rw [Gf,Bj,Ep,if_pos ((Int.toNat_lt_toNat (Ah t0 t1)).mpr t1),Er,Nat.zero_add,C9]
theorem OP {x:Str}{k:Int}(h0:0≤k)(h1:k≤x.length):((Bh x (some k) none).length:Int)=x.length-k∧∀t,0≤t→t<x.length-k→(Bh x (some k) none).cps[t.toNat]? = x.cps[(k+t).toNat]?:=by
 have e:Bh x (some k) none=⟨((x.cps.toList.drop k.toNat).take ((x.cps.toList.length:Int)-k).toNat).toArray⟩:=StrLaws.sliceText_from ⟨h0,h1⟩;have hl:x.cps.toList.length=x.length:=rfl;rw [e]
 constructor
 ·show (((Ge _).size:Nat):Int)=_;rw [Ae,Bm,Fn,hl];refine Bp (CT h0) ?_;intro k e91;subst e91;rw [Int.toNat_sub,E5,Nat.min_self,Int.ofNat_sub (Int.ofNat_le.mp h1)]
 intro t t0 t1;show (Ge _)[t.toNat]? = _;rw [Bj,Ep,if_pos (by rw [hl];exact (Int.toNat_lt_toNat (Ah t0 t1)).mpr t1),Er,C9,Int.toNat_add h0 t0]
theorem Ox {x y:Str}{l l':List TR}(h:Hb x y l)(h':Hb x y l'):l=l':=by
 induction h generalizing l' with
 | @nil x y h=>
  cases h' with
  | nil _=>rfl
  | cons h2 h3 _ _ _=>exact absurd (LongRel.uniq (.inl ⟨rfl,rfl,rfl,h⟩) h2).2.2 (J0 h3)
 | @cons x y k pl rn l1 l2 h h1 h2 c1 c2 ih1 ih2=>
  cases h' with
  | nil h3=>exact absurd (LongRel.uniq (.inl ⟨rfl,rfl,rfl,h3⟩) h).2.2 (J0 h1)
  | cons h3 _ _ d1 d2=>
   refine Dj (LongRel.uniq h h3) ?_;intro e90 e91 e92;subst e90;subst e91;subst e92;rw [ih1 d1,ih2 d2]
theorem Se (a b c d:Int)(l:List TR):(l.map (shT a b)).map (shT c d)=l.map (shT (c+a) (d+b)):=by
 rw [Ao];apply Az;intro t _;show (c+(a+t.1),d+(b+t.2.1),t.2.2)=(c+a+t.1,d+b+t.2.1,t.2.2);rw [CC,CC]
theorem Vy {x y:Str}{alo ahi blo bhi:Int}{l:List TR}(h:JR x y alo ahi blo bhi l):0≤alo→0≤blo→alo≤ahi→blo≤bhi→∀xs ys:Str,(xs.length:Int)=ahi-alo→(ys.length:Int)=bhi-blo→
  (∀t,0≤t→t<ahi-alo→xs.cps[t.toNat]? = x.cps[(alo+t).toNat]?)→(∀t,0≤t→t<bhi-blo→ys.cps[t.toNat]? = y.cps[(blo+t).toNat]?)→∃l',Hb xs ys l'∧l=l'.map (shT alo blo):=by
 induction h with
 | @nil alo ahi blo bhi h=>
  intro h1 h2 h3 h4 xs ys hx hy cx cy;have ok:=Jr (LD (Hr (x:=x) (y:=y) h1 h2 h3 h4) h1 h2 hx hy cx cy);refine ⟨[],.nil ?_,rfl⟩;rcases ok with ⟨_,_,_,q⟩ | ⟨q,_⟩
  ·exact q
  have q:1≤(flm x y alo ahi blo bhi).bs:=q;lia
 | @cons alo ahi blo bhi l1 l2 b hb h c1 c2 ih1 ih2=>
  intro h1 h2 h3 h4 xs ys hx hy cx cy;have ok0:=Hr (x:=x) (y:=y) h1 h2 h3 h4;rw [←hb] at ok0;have ok:=Jr (LD ok0 h1 h2 hx hy cx cy);have i0:=ok0.i0;have i1:=ok0.i1;have j0:=ok0.j0;have j1:=ok0.j1;have ok:LongRel xs ys (b.bi-alo) (b.bj-blo) b.bs:=ok;have e1:∀t,alo+(b.bi-alo+b.bs+t)=b.bi+b.bs+t:=fun t=>i2c _ _ _ _;have e2:∀t,blo+(b.bj-blo+b.bs+t)=b.bj+b.bs+t:=fun t=>i2c _ _ _ _;have k1:0≤b.bi-alo+b.bs:=BQ (Ab i0) (BC h);have k2:0≤b.bj-blo+b.bs:=BQ (Ab j0) (BC h);have n1:b.bi<ahi:=AR (BK _ h) i1;have n2:b.bj<bhi:=AR (BK _ h) j1;refine CL (UK (x:=xs) (k:=b.bi-alo) (Ab i0) (hx▸DU (BC n1) _)) ?_;intro p1 p2;refine CL (UK (x:=ys) (k:=b.bj-blo) (Ab j0) (hy▸DU (BC n2) _)) ?_;intro p3 p4;refine CL (OP (x:=xs) (k:=b.bi-alo+b.bs) k1 (hx▸i2d i1)) ?_;intro p5 p6;refine CL (OP (x:=ys) (k:=b.bj-blo+b.bs) k2 (hy▸i2d j1)) ?_;intro p7 p8;refine Aq (ih1 h1 h2 i0 j0 _ _ p1 p3 (fun t t0 t1=>(p2 t t0 t1).trans (cx t t0 (AR t1 (DU (BC n1) _)))) (fun t t0 t1=>(p4 t t0 t1).trans (cy t t0 (AR t1 (DU (BC n2) _))))) ?_;intro m1 d1 e92;subst e92;obtain ⟨m2,d2,rfl⟩:=ih2 (BQ (AP h1 i0) (BC h)) (BQ (AP h2 j0) (BC h)) i1 j1 _ _ (p5.trans (i2e hx)) (p7.trans (i2e hy))
   (fun t t0 t1=>(p6 t t0 (i2e hx▸t1)).trans ((cx _ (BQ k1 t0) (i2f t1)).trans (by rw [e1])))
   (fun t t0 t1=>(p8 t t0 (i2e hy▸t1)).trans ((cy _ (BQ k2 t0) (i2f t1)).trans (by rw [e2])))
  refine ⟨_,.cons ok h (Ab j0) d1 d2,?_⟩;rw [AI,Bx,Se];show _=_++(alo+(b.bi-alo),blo+(b.bj-blo),b.bs)::_;rw [i2g,i2g,←CC,i2g,←CC,i2g]
theorem RD {x y:Str}{l:List TR}(h:JR x y 0 x.length 0 y.length l):Hb x y l:=by
 obtain ⟨l',h1,h2⟩:=Vy h (BX 0) (BX 0) (Ag _) (Ag _) x y (Gf _).symm (Gf _).symm (fun t _ _=>by rw [O3]) (fun t _ _=>by rw [O3]);have e:l'.map (shT 0 0)=l':=by
  conv=>rhs;rw [←List.map_id l']
  apply Az;intro t _;show (0+t.1,0+t.2.1,t.2.2)=t;rw [O3,O3]
 rw [h2,e];exact h1
theorem PU {x y:Str}{l:List TR}(h:JR x y 0 x.length 0 y.length l):∀t∈l,0≤t.1∧0≤t.2.1∧1≤t.2.2∧t.1+t.2.2≤x.length∧t.2.1+t.2.2≤y.length:=by
 intro t ht;refine TQ ((PV h (BX 0) (BX 0) (Ag _) (Ag _)).1 t ht) ?_;intro a1 a2 a3 a4 a5 _;exact ⟨a1,a3,a5,a2,a4⟩
noncomputable def Lu (t:TR):List (Int×Int):=(DH t.2.2.toNat).map fun (r:Nat)=>(t.1+(r:Int),t.2.1+(r:Int))
noncomputable def DW (l:List TR):List (Int×Int):=l.flatMap Lu
theorem Ia {t:TR}{p:Int×Int}(h:p∈Lu t):t.1≤p.1∧p.1<t.1+t.2.2∧t.2.1≤p.2∧p.2<t.2.1+t.2.2:=by
 refine Aq (List.mem_map.mp h) ?_;intro r hr e92;subst e92;have h9:(r:Int)<t.2.2:=Int.lt_toNat.mp (List.mem_range.mp hr);exact ⟨Aj (Ag r),Cb h9 _,Aj (Ag r),Cb h9 _⟩
theorem QS {x y:Str}{tr:List TR}(h:JR x y 0 x.length 0 y.length tr):((DW tr).Pairwise fun p q=>p.1<q.1∧p.2<q.2)∧∀p∈DW tr,0≤p.1∧p.1<x.length∧0≤p.2∧p.2<y.length:=by
 constructor
 ·unfold DW;refine List.pairwise_flatMap.mpr ⟨fun t ht=>?_,?_⟩
  ·unfold Lu;refine List.pairwise_map.mpr (List.pairwise_lt_range.imp fun {a b} hab=>?_);exact ⟨Cb (Int.ofNat_lt.mpr hab) _,Cb (Int.ofNat_lt.mpr hab) _⟩
  refine (PV h (BX 0) (BX 0) (Ag _) (Ag _)).2.1.imp fun {a b} hab p hp q hq=>?_;refine Dj hab ?_;(try clear hab);intro h1 h2 _;have a:=Ia hp;have b:=Ia hq;exact ⟨AR a.2.1 (AP h1 b.1),AR a.2.2.2 (AP h2 b.2.2.1)⟩
 intro p hp;refine Aq (List.mem_flatMap.mp hp) ?_;intro t ht hp;have a:=Ia hp;refine R7 (PU h t ht) ?_;intro b1 b2 _ b4 b5;exact ⟨AP b1 a.1,AR a.2.1 b4,AP b2 a.2.2.1,AR a.2.2.2 b5⟩
noncomputable def fnB (s:Stmt):List Stmt:=FE (fun _=>List Stmt) s (fun _ _ b _ _ _ _ _ _ _=>b) fun _=>[]
noncomputable def IU (s:Stmt):Scope:=FE (fun _=>Scope) s (fun _ _ _ _ _ _ s _ _ _=>s) fun _=>{ kind:=.function,names:=[],isGenerator:=false,isCoroutine:=false,more:=[] }
noncomputable def VD (s:Stmt):AW×List Stmt:=PySem.hasAnn.match_1 (fun _=>AW×List Stmt) s (fun e _ _ _ _=>(e,[])) (fun t _ b _ _=>(t,b)) (fun t _ b _ _=>(t,b)) (fun t b _ _=>(t,b)) (fun t b _ _=>(t,b)) (fun _ b _=>(.Name OD Kx,b)) (fun _ b _=>(.Name OD Kx,b)) (fun b _ _ _ _=>(.Name OD Kx,b)) (fun b _ _ _ _=>(.Name OD Kx,b)) (fun e _ _=>(e,[])) fun _=>(.Name OD Kx,[])
noncomputable def Mw (s:Stmt):List Stmt:=(VD s).2
noncomputable def Q8 (s:Stmt):AW:=(VD s).1
noncomputable def NZ:Stmt:=at9 pw.main.body 20
noncomputable def NY (i:Nat):Stmt:=at9 (fnB NZ) i
noncomputable abbrev Dy (L a:Addr)(ccd:Value):Env:=envX (A0 "law") (IU NZ) L a ccd [(A0 "told",L+1+1),(A0 "ends",L+1)]
noncomputable def Cc (x y z:Str)(i:Int):Str:=if i=0 then x else if i=1 then y else z
noncomputable abbrev LwM (lw:Addr)(u:Str→Option Value):Str→Option Value:=fun z=>if z=A0 "words" then some (.ref lw) else u z
set_option tactic.hygienic true in
theorem lw1 {g h:Heap}{L lw:Addr}{m:Str→Option Value}(F:Fr g L h m)(h1:m (A0 "words")=some (.ref lw)):Fr g L h (LwM lw m):=by
 have e:m=LwM lw m:=by
  funext z
  unfold LwM;split
  ·rename_i e;rw [e];exact h1
  rfl
 exact Eq.mp (congrArg (Fr g L h) e) F
theorem RU {x y z:Str}{t1 t2 t3:Tok}{k:Int}(h:0≤k∧k≤2):∃tu,(#[AD x t1,.str y t2,.str z t3]:Array Value)[k.toNat]? = some (.str (Cc x y z k) tu):=by
 have:k=0∨k=1∨k=2:=by lia
 rcases this with rfl | rfl | rfl
 ·exact ⟨t1,rfl⟩
 ·exact ⟨t2,rfl⟩
 exact ⟨t3,rfl⟩
theorem MS {x y z:Str}{k:Int}(hx:x.length≤4)(hy:y.length≤4)(hz:z.length≤4):(Cc x y z k).length≤4:=by
 unfold Cc;split
 ·exact hx
 split
 ·exact hy
 exact hz
noncomputable def pdT (t:TR):PyData:=.list [.int t.1,.int t.2.1,.int t.2.2]
theorem Mf {h₀ h:Heap}{L:Addr}{news:List (Addr×Obj)}(N:News h₀ L h news):∀{l:List LE},(∀e∈l,(e.a,GB e)∈news)→ReadsAll h (By l) ((l.map leT).map pdT) (l.map (·.a)):=by
 intro xX
 induction xX with
 | nil=>
  intro _;exact .nil
 | cons e l iH=>
  intro hl;have h1:Reads h (.ref e.a) (pdT (leT e)) [e.a]:=reads_list_at (N _ (hl e (.head _))).1 rfl rfl (readsAll_cons_val (.int _ _) (readsAll_cons_val (.int _ _) (readsAll_cons_val (.int _ _) .nil)));exact .cons h1 (iH fun e he=>hl e (.tail _ he))
theorem OW (l:List TR):Tp (.list (l.map pdT))=true:=by
 have h1:∀l:List TR,PyData.canLayAll0 (l.map pdT)=true:=by
  intro l
  induction l with
  | nil=>rfl
  | cons x l ih=>simpa [PyData.canLayAll0,PyData.canLay0,pdT] using ih
 have h2:∀l:List TR,PyData.depthAll (l.map pdT)≤2:=by
  intro l
  induction l with
  | nil=>decide
  | cons x l ih=>simp [PyData.depthAll,PyData.depth,pdT];exact Nat.max_le.mpr ⟨by decide,ih⟩
 have:=h2 l;simp only [Tp,PyData.canLay0,PyData.depth,h1,Bool.true_and];exact decide_eq_true (by lia)
theorem NS {prog:AY}{w:World}{A:AO}{E:Value→A4→Prop}{s:A4}{h₀:Heap}{L x y:Addr}{news:List (Addr×Obj)}{l1 l2:List LE}{e1 e2:Nat}{Q:Value→A4→Prop}(N:News h₀ L s.heap news)(hx:(x,A1 (By l1).toArray e1)∈news)(hy:(y,A1 (By l2).toArray e2)∈news)(h1:∀e∈l1,(e.a,GB e)∈news)(h2:∀e∈l2,(e.a,GB e)∈news)(he:l1.map leT=l2.map leT)
  (hu:A.units+64<cLine) (h:Q (.bool false) s):wpAny (model prog w) A (compareOp .NotEq (.ref x) (.ref y)) Q E s:=by
 have sh:=OW (l1.map leT);have r2:=Mf N h2;rw [←he] at r2;refine ne_dataH (reads_list_at (N _ hx).1 rfl rfl (Mf N h1)) (reads_list_at (N _ hy).1 rfl rfl r2) sh sh hu ?_;rw [PySem.SeqAt.eqv_refl _ (SeqAt.canLay_of_shaped sh)];exact h
theorem News.app {h₀ h:Heap}{L:Addr}{l1 l2:List (Addr×Obj)}(N1:News h₀ L h l1)(N2:News h₀ L h l2):News h₀ L h (l1++l2):=fun p hp=>AF hp (fun hp=>N1 p hp) fun hp=>N2 p hp
structure PJ where
 ps:List PT
 ep:Nat
theorem Om {l:List TR}(h:∀t∈l,t.2.2≤4):(DW l).length≤4*l.length:=by
 induction l with
 | nil=>exact Ap _
 | cons t l ih=>
  have h1:=h t (.head _);have h2:=ih fun u hu=>h u (.tail _ hu);have h3:(Lu t).length=t.2.2.toNat:=by unfold Lu;rw [AB,FH]
  unfold DW at h2 ⊢;rw [HM,Ai,h3,CF];lia
theorem kb1 {i k:Int}{n:Nat}(h:i+k≤n)(hk:1≤k)(hn:n≤4):i≤4:=AP (AP (Aj (BC hk)) h) (Int.ofNat_le.mpr hn)
theorem kb2 {i k:Int}{n:Nat}(h0:0≤i)(h:i+k≤n)(hn:n≤4):k≤4:=AP (AP (Int.le_add_of_nonneg_left h0) h) (Int.ofNat_le.mpr hn)
set_option tactic.hygienic true in
theorem Pf (w:World)(p:AY)(lo:List Str)(mean:CG→Option Value)(mg mb:Str→Option Value)(base g:Heap)(L a:Addr)(ccd:Value)(m:Str→Option Value)(s:A4)
  (G:List (Addr×Obj)) (lw lT:Addr) (ew nT:Nat) (x y z:Str) (t1 t2 t3:Tok) (its:Array Value) (oT:Obj) (e:PT) (Q:Flow→A4→Prop) (E1 E2:Value→A4→Prop)
  (B:Below callerA base [] g) (F:Fr g L s.heap m) (X:(Mine.K w.params).In g) (N:News g L s.heap ((lT,A1 its nT)::G)) (T:Top p lo mean mg mb g)
  (hw:m (A0 "words")=some (.ref lw)) (hW:(lw,A1 #[.str x t1,.str y t2,.str z t3] ew)∈G) (he:(e.a,CP e)∈G) (hT:(L+1+1,oT)∈G) (dT:oT.data = .cell (some (.ref lT))) (hG:∀p∈G,p.1≠lT) (hnd:∀p∈G,VB p.2)
  (hx:x.length≤4) (hy:y.length≤4) (hz:z.length≤4) (hi:0≤e.i∧e.i≤2) (hj:0≤e.j∧e.j≤2) (hts:its.size≤10)
  (hret:∀ps tr D pe h' tk' m',JR (Cc x y z e.i) (Cc x y z e.j) 0 (Cc x y z e.i).length 0 (Cc x y z e.j).length tr→ps.map ptP=DW tr→m' (A0 "words")=some (.ref lw)→D≠lT→(∀p∈G,p.1≠D)→(∀e'∈ps,e'.a≠D∧e'.a≠lT∧∀p∈G,p.1≠e'.a)→Fr g L h' m'→News g L h' ((lT,A1 (its.push (.ref D)) (nT+1))::(D,A1 (BZ ps).toArray pe)::(Hy ps++G))→Q .next { s with heap:=h',toks:=tk' }) :
  wpAny (model (rw_nq0317_02.prog) w) (callerA.deeper (Dy L a ccd)) (DM (Q8 (NY 3)) (Dy L a ccd) (.ref e.a)) (fun _ s₂=>wpAny (model (rw_nq0317_02.prog) w) (callerA.deeper (Dy L a ccd)) (execs (Mw (NY 3)) (Dy L a ccd)) Q (fun e s'=>wpAny (model (rw_nq0317_02.prog) w) (callerA.deeper (Dy L a ccd)) («leaving» (Dy L a ccd) e) (fun _ s''=>E1 e s'') (fun e' s''=>E2 e' s'') s') s₂) (fun e s'=>wpAny (model (rw_nq0317_02.prog) w) (callerA.deeper (Dy L a ccd)) («leaving» (Dy L a ccd) e) (fun _ s''=>E1 e s'') (fun e' s''=>E2 e' s'') s') s:=by
 dsimp only [Dy,NY,NZ,IU,fnB,VD,Mw,Q8,at9,pw,Cv];have hkk:(IU NZ).kind = .function:=by with_unfolding_all rfl
 k_with "+34" =>skip
 k_with "34" =>(fail_if_success k_extra "+35")
 k_with "k" =>k_extra "34"
 k_with "ap" =>k_extra "34"
 k_with "call ref" =>(k_extra "34";first | ((with_unfolding_all show wpAny _ _ (call (A3 376) _) _ _ _);refine Af ?_) | ((with_unfolding_all show wpAny _ _ (call (A3 203) _) _ _ _);refine Af ?_) | ((with_unfolding_all show wpAny _ _ (call (A3 242) _) _ _ _);refine Af ?_))
 k_with "ao" =>k_extra "34"
 k_with "bj" =>k_extra "34"
 k_with "bi" =>k_extra "34"
 k_with "bx" =>k_extra "34"
 k_with "an" =>k_extra "34"
 k_with "bw" =>k_extra "34"
 k_with "call type:list cons nil" =>(k_extra "34";refine Af ?_)
 k_with "by" =>k_extra "34"
 have F0:=lw1 F hw;have N0:News g L s.heap ((e.a,CP e)::(L+1+1,oT)::(lw,A1 #[.str x t1,.str y t2,.str z t3] ew)::(lT,A1 its nT)::G):=Bo N (A6 (.tail _ he) (A6 (.tail _ hT) (A6 (.tail _ hW) fun q hq=>hq)));clear F N;revert X
 k_fill
 intro X;refine (let A9:AO:=_;let e9:Env:=_;let E9:Value→A4→Prop:=_;(?_:wpAny _ A9 (DM _ e9 _) (fun _ s₂=>wpAny _ A9 (execs _ e9) _ E9 s₂) E9 _));refine (let cB:Addr:=L+1+1;?_);k_steps;refine ⟨?_⟩;rename Fr _ _ _ _=>F1;rename News _ _ _ _=>N1;refine Bp (RU (x:=x) (y:=y) (z:=z) (t1:=t1) (t2:=t2) (t3:=t3) hi) ?_;intro tu hu;refine Bp (RU (x:=x) (y:=y) (z:=z) (t1:=t1) (t2:=t2) (t3:=t3) hj) ?_;intro tv hv;have hul:(Cc x y z e.i).length≤4:=MS hx hy hz;have hvl:(Cc x y z e.j).length≤4:=MS hx hy hz;generalize Cc x y z e.i=u1 at hu hul hret ⊢;generalize Cc x y z e.j=u2 at hv hvl hret ⊢;refine JD N1 mH2 hi.1 (by lia) hu ?_;k_steps;rename Fr _ _ _ _=>F1;rename News _ _ _ _=>N1;refine ⟨?_⟩;refine JD N1 mH2 hj.1 (by lia) hv ?_;k_steps;rename Fr _ _ _ _=>F1;rename News _ _ _ _=>N1;refine ⟨?_⟩;refine CK (Bi 350 500 _ (A0 "law") _ L a ccd _ []) rfl (Ad rfl) rfl rfl (Ad rfl) ?_;refine XZ _ _ _ _ _ _ _ _ _ _ _ _ _ _ _ _ _ _ _ _ u1 u2 _ _ _ _ B F1 X N1 T rfl (by lia) (by lia) fun xa GM h2 tk2 hSM F2 N2=>?_;refine (let G9:Prop:=_;(?_:G9));obtain ⟨d,b2,bj,bp,o2,BB,tx,ty,u3,u4,u5,u6,u7,u8,u9,u10,u11,u12,l1,l2,hGM,_,_,_⟩:=id hSM;refine (?_:wpAny _ _ _ _ _ _);refine CV (GM++(e.a,CP e)::(cB,oT)::(lw,A1 #[.str x t1,.str y t2,.str z t3] ew)::(lT,A1 its nT)::G) ?_;intro tl2 htl2;rw [←htl2] at N2;have N3:=Bo N2 (A6 (by rw [htl2,hGM];exact mH2) (A6 (by rw [htl2,hGM];exact mH3) fun q hq=>hq));clear N2;k_steps;refine ⟨?_⟩;rename Fr _ _ _ _=>F3;rename News _ _ _ _=>N3;refine CK (Bi 340 400 _ (A0 "law") _ L a ccd _ []) rfl (Ad rfl) rfl rfl (Ad rfl) ?_;refine Vg _ _ _ _ _ _ _ _ _ _ _ _ _ _ _ _ _ _ GM ((cB,oT)::(lw,A1 #[.str x t1,.str y t2,.str z t3] ew)::(lT,A1 its nT)::G) _ u1 u2 xa _ _ B F3 X (Bo N3 fun q hq=>mT2 (by rw [htl2];exact AF hq (fun hq=>maL _ hq) fun hq=>maR _ (.tail _ hq))) T rfl hSM hul hvl (fun p hp=>AQ hp (hnd _ hT) fun hp=>AQ hp (hnd _ hW) fun hp=>AQ hp (.inl (show AL "list" ≠AL "dict" by decide)) fun hp=>hnd p hp) fun D4 ep4 bl tr h4 tk4 hcut hbl hoff4 F4 N4=>?_;clear F3 N3 hSM hGM htl2;refine CV (HK bl++G) ?_;intro tl4 htl4;have N5:News g L h4 ((D4,A1 (Bf bl).toArray ep4)::(cB,oT)::(lw,A1 #[.str x t1,.str y t2,.str z t3] ew)::(lT,A1 its nT)::tl4):=Bo N4 (A6 (.head _) (A6 (.tail _ (maR _ (.head _))) (A6 (.tail _ (maR _ mH1)) (A6 (.tail _ (maR _ mH2)) fun q hq=>by
  rw [htl4] at hq;exact AF hq (fun hq=>.tail _ (maL _ hq)) fun hq=>.tail _ (maR _ (mT3 hq))))))
 clear N4;have hlc:=RD hcut;have htl:tr.length≤4:=Am (KC hlc) hul;have hbll:bl.length≤5:=by
  have:=congrArg Bk hbl;rw [AB,Ai,E0] at this;lia
 k_steps;refine ⟨?_⟩;rename Fr _ _ _ _=>F6;rename News _ _ _ _=>N6;refine (let mt9:Str→Option Value:=_;have F9:Fr _ _ _ mt9:=F6;?_);clear F6;refine PY (h₀:=g) (L:=L) (m:=mt9) (by with_unfolding_all rfl) (by decide) (by rfl) (by decide) ?_;k_steps;refine ⟨?_⟩;rename Fr _ _ _ _=>F7;rename News _ _ _ _=>N7;refine CV ((D4,A1 (Bf bl).toArray ep4)::(cB,oT)::(lw,A1 #[.str x t1,.str y t2,.str z t3] ew)::(lT,A1 its nT)::tl4) ?_;intro nw hnw;refine KS (σ:=LJ) (.list _ _ _ _) (fun I D C=>II) rfl rfl (Jx rfl (BI N7 (.head _))) F7 (hnw▸N7) (fun hm=>(N7 _ (.head _)).2.1 (ms1 hm).symm)
  (fun D c=>(D,A1 (By c.es).toArray c.ep)::(Hz c.es++nw)) (fun D i c m₁=>c.es.map leT=(bl.map IM).take i∧∀e∈c.es,e.a≠D∧∀p∈nw,p.1≠e.a) (fun D oD=>⟨[],0⟩) (fun D oD ho=>by subst ho;rfl) (fun D oD ho=>⟨rfl,AA _⟩) ?Dz ?cdone
 case Dz=>
  intro C2 D3 Ic i v c oC m₁ h t7 own2 E' hDC hCI hDI hoff hi hv1 hP hnw4 hown hof hn F2 N2;refine Aq (FQ hv1) ?_;intro b hb e92;subst e92;refine CL hP ?_;(try clear hP);intro hP1 hP2;obtain ⟨es,ep⟩:=c;dsimp only at hP1 hP2 N2 hnw4;refine CV (α:=Str→Option Value) (fun y=>if y=A0 "block" then some (A3 b.q) else m₁ y) ?_;intro m₃ hm₃;have hkb:m₃ (A0 "block")=some (A3 b.q):=by rw [hm₃];rfl
  rw [←hm₃] at hn;have hbn:(b.q,Ig b)∈nw:=by rw [hnw,htl4];exact mT4 (maL _ (H1 (AK hb)))
  refine CV (Hz es++nw++own2) ?_;intro tlx htlx;have N8:News g L h ((C2,oC)::(D3,A1 (By es).toArray ep)::(b.q,Ig b)::tlx):=Bo N2 (A6 (.head _) (A6 mH1 (A6 (.tail _ (maL _ (.tail _ (maR _ hbn)))) fun q hq=>by rw [htlx] at hq;exact mT2 hq)));clear N2 N7 F7;have htC:∀p∈tlx,p.1≠C2∧p.1≠D3:=fun p hp=>by
   rw [htlx] at hp;refine AF hp (fun hp=>AF hp (fun hp=>?_) fun hp=>?_) fun hp=>?_
   ·refine ⟨fun q=>hnw4 p (.tail _ (maL _ hp)) (q▸.head _),?_⟩;refine mmE hp ?_;intro e' he';exact (hP2 e' he').1
   ·exact ⟨(hoff p hp).1,(hoff p hp).2.1⟩
   rcases hof p hp with q | q
   ·exact ⟨q▸hCI,q▸hDI⟩
   have h9:=hoff (D4,A1 (Bf bl).toArray ep4) (hnw▸.head _);rw [ms1 q];exact ⟨h9.1,h9.2.1⟩
  refine Cn ?_;k_steps;refine GR ?_;k_with "i" =>k_extra "34"
  k_steps;refine ⟨?_⟩;rename Fr _ _ _ _=>F10;rename News _ _ _ _=>N10;refine NV rfl F10 N10 X mH2 fun S h11 tk11 n11 hlt F11 N11=>?_;clear F10 N10;k_steps;refine ⟨?_⟩;rename Fr _ _ _ _=>F12;rename News _ _ _ _=>N12;have hcl:es.length≤5:=by
   have:=congrArg Bk hP1;rw [AB,Bm,AB] at this;lia
  refine CW F12 N12 mH2 (Bw (by unfold By;rw [Ae,AB];lia)) fun h13 F13 N13=>?_;clear F12 N12;show HF _ _ _ _ _ _ _ _ _ _ _;have hmy:∀q∈tlx,q∈CD D3 (A1 ((By es).toArray.push (.ref S)) (ep+1)) ((S,GB ⟨S,b.i,b.j,b.k,b.t1,b.t2,b.t3,n11⟩)::(C2,oC)::(D3,A1 (By es).toArray ep)::(b.q,Ig b)::tlx):=
   fun q hq=>A8 (mT4 hq) (htC q hq).2
  have e1:(By (es++[(⟨S,b.i,b.j,b.k,b.t1,b.t2,b.t3,n11⟩:LE)])).toArray=(By es).toArray.push (.ref S):=by simp [By]
  have e2:Hz (es++[(⟨S,b.i,b.j,b.k,b.t1,b.t2,b.t3,n11⟩:LE)])=Hz es++[(S,GB ⟨S,b.i,b.j,b.k,b.t1,b.t2,b.t3,n11⟩)]:=by simp [Hz]
  have hSt:∀p∈tlx,p.1≠S:=fun p hp=>A7 (hlt p (mT3 hp));have hSD:S≠D3:=AN (hlt _ mH1);have hSC:S≠C2:=AN (hlt _ (.head _));refine HY (⟨es++[⟨S,b.i,b.j,b.k,b.t1,b.t2,b.t3,n11⟩],ep+1⟩:LJ) F13 N13 (oC:=oC) (m':=m₃) (A8 mH1 hDC.symm) hn (fun q hq=>?_) (fun q hq=>?_) (fun q hq hm=>?_) ⟨?_,?_⟩
  ·dsimp only at hq;rw [e1,e2] at hq;refine AH hq (AV mH2) fun hq=>?_;refine AF hq (fun hq=>AF hq (fun hq=>?_) fun hq=>?_) fun hq=>?_
   ·exact hmy q (htlx▸maL _ (maL _ hq))
   ·rw [ms1 hq];exact A8 (.head _) hSD
   exact hmy q (htlx▸maL _ (maR _ hq))
  ·exact hmy q (htlx▸maR _ hq)
  ·dsimp only at hq;rw [e2] at hq;rcases mc1 hq with rfl | hq
   ·exact hnw4 _ (.head _) hm
   refine AF hq (fun hq=>AF hq (fun hq=>?_) fun hq=>?_) fun hq=>?_
   ·exact hnw4 q (.tail _ (maL _ hq)) hm
   ·rw [ms1 hq] at hm;rcases mc1 hm with q1 | hm
    ·exact hSC q1
    refine Bp hown ?_;(try clear hown);intro oo ho;exact hSt _ (htlx▸maR _ ho) (ms1 hm).symm
   exact hnw4 q (.tail _ (maR _ hq)) hm
  ·show (es++[_]).map leT=_;rw [AI,hP1,CB,AX,hb];rfl
  intro e' he';rcases Cf.mp he' with h | h
  ·exact hP2 e' h
  rw [ms1 h];exact ⟨hSD,fun p hp=>hSt p (htlx▸maL _ (maR _ hp))⟩
 case cdone=>
  intro C2 D3 c oC m' h2 tk2 hDC hoff hP F2 N2 hn2 hnw4;show Ec _ _ _ _ _ _ _ _ _;refine Gz F2 N2 hn2 hnw4 fun h3 F3 N3=>?_;obtain ⟨es1,ep1⟩:=c;refine CL hP ?_;(try clear hP);intro hP1 hP2;dsimp only at hP1 hP2 N3;clear F2 N2 N7 F7;rw [BA (by unfold Bf;rw [Ae,AB,AB];exact Ap _),hbl] at hP1;refine CV (Hz es1++HK bl++G) ?_;intro tl5 htl5;have N8:News g L h3 ((D3,A1 (By es1).toArray ep1)::(D4,A1 (Bf bl).toArray ep4)::(cB,oT)::(lw,A1 #[.str x t1,.str y t2,.str z t3] ew)::(lT,A1 its nT)::tl5):=by
   rw [hnw] at N3;refine Bo N3 (A6 (.head _) (A6 (.tail _ (maR _ (.head _))) (A6 (.tail _ (maR _ mH1)) (A6 (.tail _ (maR _ mH2)) (A6 (.tail _ (maR _ mH3)) fun q hq=>?_)))));rw [htl5] at hq;refine AF hq (fun hq=>AF hq (fun hq=>.tail _ (maL _ hq)) fun hq=>?_) fun hq=>?_
   ·exact .tail _ (maR _ (mT4 (by rw [htl4];exact maL _ hq)))
   exact .tail _ (maR _ (mT4 (by rw [htl4];exact maR _ hq)))
  clear N3;k_steps;refine ⟨?_⟩;rename Fr _ _ _ _=>F8;rename News _ _ _ _=>N8;refine JD N8 mH3 hi.1 (by lia) hu ?_;k_steps;refine ⟨?_⟩;rename Fr _ _ _ _=>F8;rename News _ _ _ _=>N8;refine JD N8 mH3 hj.1 (by lia) hv ?_;k_steps;refine ⟨?_⟩;rename Fr _ _ _ _=>F8;rename News _ _ _ _=>N8;refine CK (Bi 320 360 _ (A0 "law") _ L a ccd _ []) rfl (Ad rfl) rfl rfl (Ad rfl) ?_;refine Vz _ _ _ _ _ _ _ _ _ _ _ _ _ _ _ _ _ _ _ _ u1 u2 _ _ _ _ B F8 X N8 T rfl hul hvl fun D6 ep6 es6 h6 tk6 hcut6 hoff6 F9 N9=>?_;clear F8 N8;have hc6:es6.map leT=tr:=Ox hcut6 hlc;have h6l:es6.length≤4:=by
   have:=congrArg Bk hc6;rw [AB] at this;lia
  refine CV (Hz es6++tl5) ?_;intro tl6 htl6;have N10:News g L h6 ((D6,A1 (By es6).toArray ep6)::(D3,A1 (By es1).toArray ep1)::(D4,A1 (Bf bl).toArray ep4)::(cB,oT)::(lw,A1 #[.str x t1,.str y t2,.str z t3] ew)::(lT,A1 its nT)::tl6):=Bo N9 (A6 (.head _) (A6 (.tail _ (maR _ (.head _))) (A6 (.tail _ (maR _ mH1)) (A6 (.tail _ (maR _ mH2)) (A6 (.tail _ (maR _ mH3)) (A6 (.tail _ (maR _ mH4)) fun q hq=>by
   rw [htl6] at hq;exact AF hq (fun hq=>.tail _ (maL _ hq)) fun hq=>.tail _ (maR _ (mT5 hq))))))))
  clear N9;k_steps;refine ⟨?_⟩;rename Fr _ _ _ _=>F10;rename News _ _ _ _=>N10;refine JD N10 mH4 hi.1 (by lia) hu ?_;k_steps;refine ⟨?_⟩;rename Fr _ _ _ _=>F10;rename News _ _ _ _=>N10;refine JD N10 mH4 hj.1 (by lia) hv ?_;k_steps;refine ⟨?_⟩;rename Fr _ _ _ _=>F10;rename News _ _ _ _=>N10;rename_i l8 _ q8 l7 _ q7;refine add_arrays F10 N10 (BI N10 mH2) (BI N10 (.head _)) (fun h11 F11 N11=>?_) (Bw (by unfold By;rw [Ae,AB];show es6.length+1≤_;lia));generalize h6.objs.size=zz at N11 ⊢;clear F10 N10;refine Dn (⟨⟨l8,u1.length,u2.length,0,_,_,_,0⟩,rfl,rfl,Bo N11 (A6 mH2 (AA _))⟩:∃e8:LE,e8.a=l8∧leT e8=((u1.length:Int),(u2.length:Int),0)∧News g L h11 [(e8.a,GB e8)]) ?_;intro e8 a8 b8 N8;have h66:∀e∈es6,(e.a,GB e)∈tl6:=fun e he=>by rw [htl6];exact maL _ (mm2 ⟨e,he,rfl⟩)
  have h55:∀e∈es1,(e.a,GB e)∈tl6:=fun e he=>by rw [htl6,htl5];exact maR _ (maL _ (maL _ (mm2 ⟨e,he,rfl⟩)))
  refine NS (l1:=es1) (l2:=es6++[e8]) (e1:=ep1) (e2:=0) (News.app N8 N11) (.tail _ mH4) (.tail _ ?_) (fun e he=>.tail _ (mT9 (h55 e he))) (fun e he=>?_) ?_ (by ke_room) ?_
  ·have e9:(By (es6++[e8])).toArray=((By es6).toArray.toList ++ #[A3 l8].toList).toArray:=by unfold By;simp [a8]
   rw [e9];exact .head _
  ·rcases Cf.mp he with h | h
   ·exact .tail _ (mT9 (h66 e h))
   rw [ms1 h];exact .head _
  ·rw [hP1,AI,hc6];show _=tr++[leT e8];rw [b8]
  clear N8;k_steps;refine ⟨?_⟩;rename Fr _ _ _ _=>F12;rename News _ _ _ _=>N12;have hbm:∀b∈bl,0≤b.i∧b.i≤4∧0≤b.j∧b.j≤4∧0≤b.k∧b.k≤4:=by
   intro b hb;have hm:IM b∈tr++[((u1.length:Int),(u2.length:Int),(0:Int))]:=by rw [←hbl];exact mm2 ⟨b,hb,rfl⟩
   rcases Cf.mp hm with h | h
   ·refine R7 (PU hcut _ h) ?_;intro a1 a2 a3 a4 a5;dsimp only [IM] at a1 a2 a3 a4 a5;exact ⟨a1,kb1 a4 a3 hul,a2,kb1 a5 a3 hvl,BC a3,kb2 a1 a4 hul⟩
   have h9:=ms1 h;have a1:b.i=u1.length:=congrArg (fun t:TR=>t.1) h9;have a2:b.j=u2.length:=congrArg (fun t:TR=>t.2.1) h9;have a3:b.k=0:=congrArg (fun t:TR=>t.2.2) h9;rw [a1,a2,a3];exact ⟨Ag _,Int.ofNat_le.mpr hul,Ag _,Int.ofNat_le.mpr hvl,by decide,by decide⟩
  refine CV (HK bl++G) ?_;intro tl9 htl9;have N13:News g L h11 ((D4,A1 (Bf bl).toArray ep4)::(lT,A1 its nT)::tl9):=Bo N12 (A6 mH5 (A6 mH8 fun q hq=>by
   rw [htl9] at hq;refine mT9 ?_;rw [htl6,htl5];exact AF hq (fun hq=>maR _ (maL _ (maR _ hq))) fun hq=>maR _ (maR _ hq)))
  clear N12;refine PY (h₀:=g) (L:=L) (m:=mt9) (by with_unfolding_all rfl) (by decide) (by rfl) (by decide) ?_;k_steps;refine ⟨?_⟩;rename Fr _ _ _ _=>F14;rename News _ _ _ _=>N14;refine CV ((D4,A1 (Bf bl).toArray ep4)::(lT,A1 its nT)::tl9) ?_;intro nv hnv;refine V1 (σ:=PJ) (.list _ _ _ _) (fun I D C=>Mr) rfl ?hvv rfl (BI N14 (.head _)) F14 (hnv▸N14) (fun e=>(N14 _ (.head _)).2.1 e.symm)
    (fun D c=>(D,A1 (BZ c.ps).toArray c.ep)::(Hy c.ps++nv)) (fun D i c m₁=>c.ps.map ptP=DW ((bl.map IM).take i)∧∀e∈c.ps,e.a≠D∧∀p∈nv,p.1≠e.a) (fun D oD=>⟨[],0⟩) (fun D oD ho=>by subst ho;rfl) (fun D oD ho=>⟨rfl,AA _⟩) ?Dz ?cdone
  case hvv=>
   intro i v hv;refine Aq (FQ hv) ?_;intro e he hve;exact ⟨_,hve⟩
  case Dz=>
   intro C2 D9 Ic i v c oC m₁ h t7 own2 E' hDC hCI hDI hoff hv1 hP hnw4 hown hof hn F2 N2;refine Aq (FQ hv1) ?_;intro b hb e92;subst e92;refine CL hP ?_;(try clear hP);intro hP1 hP2;obtain ⟨ps,pe⟩:=c;dsimp only at hP1 hP2 N2 hnw4;have hbl':=AK hb;refine TQ (hbm b hbl') ?_;intro k1 k2 k3 k4 k5 k6;have hbn:(b.q,Ig b)∈nv:=by rw [hnv,htl9];exact mT2 (maL _ (H1 hbl'))
   refine CV (Hy ps++nv++own2) ?_;intro tlx htlx;have N8:News g L h ((C2,oC)::(D9,A1 (BZ ps).toArray pe)::(b.q,Ig b)::tlx):=Bo N2 (A6 (.head _) (A6 mH1 (A6 (.tail _ (maL _ (.tail _ (maR _ hbn)))) fun q hq=>by rw [htlx] at hq;exact mT2 hq)));clear N2 N14 F14;have htC:∀p∈tlx,p.1≠C2∧p.1≠D9:=fun p hp=>by
    rw [htlx] at hp;refine AF hp (fun hp=>AF hp (fun hp=>?_) fun hp=>?_) fun hp=>?_
    ·refine ⟨fun q=>hnw4 p (.tail _ (maL _ hp)) (q▸.head _),?_⟩;refine mmE hp ?_;intro e' he';exact (hP2 e' he').1
    ·exact ⟨(hoff p hp).1,(hoff p hp).2.1⟩
    rcases hof p hp with q | q
    ·exact ⟨q▸hCI,q▸hDI⟩
    have h9:=hoff (D4,A1 (Bf bl).toArray ep4) (hnv▸.head _);rw [q];exact ⟨h9.1,h9.2.1⟩
   have hoC:∀p∈(D9,A1 (BZ ps).toArray pe)::(b.q,Ig b)::tlx,p.1≠C2:=fc1 ⟨hDC,fc1 ⟨(hoff _ hbn).1,fun p hp=>(htC p hp).1⟩⟩;refine G6 rfl F2 N8 X mH2 rfl rfl fun h5 tk5 F5 N5=>?_;clear F2 N8;refine Dd (Ba (G7 F5 N5 hn hoC fun h8 oC8 F8 N8 hn8=>?_));refine Dd (Ba (G7 F8 N8 hn8 hoC fun h9 oC9 F9 N9 hn9=>?_));refine Dd (Ba (G7 F9 N9 hn9 hoC fun h10 oC10 F10 N10 hn10=>?_));refine MM ?_;clear F5 N5 F8 N8 hn8 F9 N9 hn9;refine CV (α:=Str→Option Value) (fun y=>if y=A0 "size" then some (A5 b.k b.t3) else (fun y=>if y=A0 "j" then some (A5 b.j b.t2) else (fun y=>if y=A0 "i" then some (A5 b.i b.t1) else m₁ y) y) y) ?_;intro m₃ hm₃;have hz1:m₃ (A0 "i")=some (.int b.i b.t1):=by rw [hm₃];rfl
   have hz2:m₃ (A0 "j")=some (.int b.j b.t2):=by rw [hm₃];rfl
   have hz3:m₃ (A0 "size")=some (.int b.k b.t3):=by rw [hm₃];rfl
   rw [←hm₃] at hn10;refine Cn ?_;k_steps;refine KE (by intro _;with_unfolding_all rfl) ?_;k_steps;refine ⟨?_⟩;rename Fr _ _ _ _=>F11;rename News _ _ _ _=>N11;rename OE _ _ _ _ _ _ _ _=>hR;have hps:(DW ((bl.map IM).take i)).length≤20:=by
    have h1:=Om (l:=(bl.map IM).take i) fun t ht=>by
     refine Aq (List.mem_map.mp (List.mem_of_mem_take ht)) ?_;intro b' hb' e92;subst e92;exact (hbm b' hb').2.2.2.2.2
    rw [Bm,AB] at h1;lia
   refine CV (nv++own2) ?_;intro tly htly;refine Pc (σ:=PJ) (.list _ _ _ _) rfl rfl (fun I=>LI) rfl rfl (IR (n:=b.k.toNat) rfl hR (small_one (by lia) (by lia) (by lia) (by lia)) (by rw [rangeSize_nat];lia)) (fun hm=>nomatch hm) (fun hm=>nomatch hm)
    (fun c=>(D9,A1 (BZ c.ps).toArray c.ep)::(Hy c.ps++tly)) (fun r c m₁=>c.ps.map ptP=DW ((bl.map IM).take i)++(DH r).map (fun (r:Nat)=>(b.i+(r:Int),b.j+(r:Int)))∧(∀e∈c.ps,e.a≠D9∧e.a≠C2∧(∀p∈tly,p.1≠e.a))∧m₁ (A0 "i")=some (.int b.i b.t1)∧m₁ (A0 "j")=some (.int b.j b.t2)) ⟨ps,pe⟩ F11 (Bo N11 (A6 (.head _) (A6 mH1 fun q hq=>?s1))) hn10 ?s2 ⟨by rw [List.range_zero,ES,C5];exact hP1,?s3,hz1,hz2⟩ ?turn2 ?done2
   case s1=>
    refine mT3 ?_;rw [htlx,BP,←htly];exact hq
   case s2=>
    refine fun p hp=>AQ hp hDC fun hp=>(htC p ?_).1;rw [htlx,BP,←htly];exact hp
   case s3=>
    intro e he;have h9:=hnw4 (e.a,CP e) (.tail _ (maL _ (mm2 ⟨e,he,rfl⟩)));refine ⟨(hP2 e he).1,fun q=>h9 (q▸.head _),fun p hp q=>?_⟩;rw [htly] at hp;refine AF hp (fun hp=>(hP2 e he).2 p hp q) fun hp=>?_;rcases hof p hp with q2 | q2
    ·exact h9 (.tail _ (q▸q2▸.head _))
    exact (hP2 e he).2 (D4,A1 (Bf bl).toArray ep4) (hnv▸.head _) (q2.symm.trans q)
   case turn2=>
    intro I2 r v c oC₂ m₂ h₂ t8 own3 E₂ hI2C hI2 hr hv2 hPr hnw5 hown3 hof3 hn2 F13 N13;obtain ⟨ps2,pe2⟩:=c;refine Fi hPr ?_;(try clear hPr);intro p1 p2 p3 p4;dsimp only at p1 p2 N13 hnw5;refine Bp hv2.2 ?_;intro tt e92;subst e92;have er1:(0:Int)+(r:Int)*1=(r:Int):=by lia
    rw [er1] at hn2;refine CV (α:=Str→Option Value) (fun y=>if y=A0 "t" then some (A5 r tt) else m₂ y) ?_;intro m₄ hm₄;have w1:m₄ (A0 "i")=some (.int b.i b.t1):=by rw [hm₄];exact p3
    have w2:m₄ (A0 "j")=some (.int b.j b.t2):=by rw [hm₄];exact p4
    have w3:m₄ (A0 "t")=some (.int r tt):=by rw [hm₄];rfl
    rw [←hm₄] at hn2;clear N11 F11;refine CV (Hy ps2++tly++own3) ?_;intro tlz htlz;have N14:News g L h₂ ((C2,oC₂)::(D9,A1 (BZ ps2).toArray pe2)::tlz):=Bo N13 (A6 (.head _) (A6 mH1 fun q hq=>by rw [htlz] at hq;exact mT2 hq));clear N13;have hzD:∀q∈tlz,q.1≠D9:=by
     intro q hq;rw [htlz] at hq;refine AF hq (fun hq=>AF hq (fun hq=>?_) fun hq=>?_) fun hq=>?_
     ·refine mmE hq ?_;intro e' he';exact (p2 e' he').1
     ·exact (htC q (by rw [htlx,BP,←htly];exact maR _ hq)).2
     rcases hof3 q hq with q2 | q2
     ·exact q2▸(hI2 (D9,_) (.head _)).symm
     cases q2
    have hp2l:ps2.length≤24:=by
     have:=congrArg Bk p1;rw [AB,Ai,AB,FH] at this;lia
    have hrb:r<4:=by lia
    refine Cn ?_;k_steps;refine GR ?_;k_with "i" =>k_extra "34"
    k_steps;refine ⟨?_⟩;rename Fr _ _ _ _=>F15;rename News _ _ _ _=>N15;rename_i D5 _ l5;refine CW F15 N15 mH2 (Bw (by unfold BZ;rw [Ae,AB];lia)) fun h16 F16 N16=>?_;clear F15 N15;show HF _ _ _ _ _ _ _ _ _ _ _;refine (let G9:Prop:=_;(?_:G9));refine Dn (⟨⟨D5,b.i+r,b.j+r,t8,t8+1⟩,rfl,rfl,Bo N16 (A6 (A8 (.head _) (AN l5.2.1)) (AA _))⟩:∃e5:PT,e5.a=D5∧ptP e5=(b.i+(r:Int),b.j+(r:Int))∧News g L h16 [(e5.a,CP e5)]) ?_;intro e5 a5 b5 N5;refine (?_:HF _ _ _ _ _ _ _ _ _ _ _);subst a5;have hmy:∀q∈tlz,q∈CD D9 (A1 ((BZ ps2).toArray.push (.ref e5.a)) (pe2+1)) ((e5.a,{ cls:=AL "tuple",data:=FO #[A5 (b.i + ↑r) t8,A5 (b.j + ↑r) (t8+1)] })::(C2,oC₂)::(D9,A1 (BZ ps2).toArray pe2)::tlz):=
     fun q hq=>A8 (mT3 hq) (hzD q hq)
    have e1:(BZ (ps2++[e5])).toArray=(BZ ps2).toArray.push (.ref e5.a):=by simp [BZ]
    have e2:Hy (ps2++[e5])=Hy ps2++[(e5.a,CP e5)]:=by simp [Hy]
    have h5t:∀p∈tlz,p.1≠e5.a:=fun p hp=>A7 (Cs l5.2.2 p hp);have N17:=News.app N5 N16;refine HY (⟨ps2++[e5],pe2+1⟩:PJ) F16 N17 (oC:=oC₂) (m':=m₄) (.tail _ (A8 mH1 hDC.symm)) hn2 (fun q hq=>?_) (fun q hq=>?_) (fun q hq hm=>?_) ⟨?_,?_,w1,w2⟩
    ·dsimp only at hq;rw [e1,e2] at hq;refine AH hq (.tail _ (AV mH2)) fun hq=>?_;refine AF hq (fun hq=>AF hq (fun hq=>?_) fun hq=>?_) fun hq=>?_
     ·exact .tail _ (hmy q (htlz▸maL _ (maL _ hq)))
     ·rw [ms1 hq];exact .head _
     exact .tail _ (hmy q (htlz▸maL _ (maR _ hq)))
    ·exact .tail _ (hmy q (htlz▸maR _ hq))
    ·dsimp only at hq;rw [e2] at hq;rcases mc1 hq with rfl | hq
     ·exact hnw5 _ (.head _) hm
     refine AF hq (fun hq=>AF hq (fun hq=>?_) fun hq=>?_) fun hq=>?_
     ·exact hnw5 q (.tail _ (maL _ hq)) hm
     ·rw [ms1 hq] at hm;rcases mc1 hm with q1 | hm
      ·exact AN l5.1 q1
      refine Bp hown3 ?_;(try clear hown3);intro oo ho;exact h5t _ (htlz▸maR _ ho) (ms1 hm).symm
     exact hnw5 q (.tail _ (maR _ hq)) hm
    ·show (ps2++[e5]).map ptP=_;rw [AI,p1,J5,AI,BP];show _++(_++[ptP e5])=_;rw [b5];rfl
    intro e' he';rcases Cf.mp he' with h | h
    ·exact p2 e' h
    rw [ms1 h];exact ⟨AN l5.2.1,AN l5.1,fun p hp=>h5t p (htlz▸maL _ (maR _ hp))⟩
   intro c oC₂ m₂ h₂ tk₂ hPr F13 N13 hn2 hnw5;obtain ⟨ps2,pe2⟩:=c;refine Fi hPr ?_;(try clear hPr);intro p1 p2 _ _;dsimp only at p1 p2 N13 hnw5;show HF _ _ _ _ _ _ _ _ _ _ _;refine HY (⟨ps2,pe2⟩:PJ) F13 N13 (oC:=oC₂) (m':=m₂) (.head _) hn2 (fun q hq=>?_) (fun q hq=>?_) (fun q hq hm=>?_) ⟨?_,fun e he=>⟨(p2 e he).1,fun p hp=>(p2 e he).2.2 p (htly▸maL _ hp)⟩⟩
   ·refine AH hq mH1 fun hq=>?_;exact AF hq (fun hq=>mT2 (maL _ hq)) fun hq=>mT2 (maR _ (htly▸maL _ hq))
   ·exact mT2 (maR _ (htly▸maR _ hq))
   ·rcases mc1 hq with rfl | hq
    ·exact hnw4 (D9,_) (.head _) hm
    refine AF hq (fun hq=>?_) fun hq=>hnw4 q (.tail _ (maR _ hq)) hm;refine Aq (mm1 hq) ?_;intro e' he' e92;subst e92;rcases mc1 hm with q1 | hm
    ·exact (p2 e' he').2.1 q1
    refine Bp hown ?_;(try clear hown);intro oo ho;exact (p2 e' he').2.2 _ (htly▸maR _ ho) (ms1 hm).symm
   show ps2.map ptP=_;rw [p1,CB,AX,hb];unfold DW;rw [Cy,show List.flatMap Lu (Option.map IM (some b)).toList=Lu (IM b) from C5 _];rfl
  case cdone=>
   intro C2 D9 c oC m' h2 tk2 hDC hoff hP F2 N2 hn2 hnw4;show Ec _ _ _ _ _ _ _ _ _;refine Gz F2 N2 hn2 hnw4 fun h3 F3 N3=>?_;obtain ⟨ps,pe⟩:=c;refine CL hP ?_;(try clear hP);intro hP1 hP2;dsimp only at hP1 hP2 N3;clear F2 N2 N14 F14;rw [BA (by unfold Bf;rw [Ae,AB,AB];exact Ap _),hbl] at hP1;k_with "i" =>k_extra "34"
   refine CV (Hy ps++G) ?_;intro tla htla;have N15:News g L h3 ((D9,A1 (BZ ps).toArray pe)::(lT,A1 its nT)::tla):=Bo N3 (A6 (.head _) (A6 (.tail _ (maR _ (hnv▸mH1))) fun q hq=>by
    rw [htla] at hq;exact AF hq (fun hq=>.tail _ (maL _ hq)) fun hq=>.tail _ (maR _ (hnv▸mT2 (htl9▸maR _ hq)))))
   clear N3;k_steps;refine ⟨?_⟩;rename Fr _ _ _ _=>F16;rename News _ _ _ _=>N16;refine CW F16 N16 mH1 (Bw (by lia)) fun h17 F17 N17=>?_;have hDT:D9≠lT:=((hoff (lT,A1 its nT) (hnv▸mH1)).2).symm;have hGn:∀p∈G,p∈nv:=fun p hp=>hnv▸mT2 (htl9▸maR _ hp);have haT:∀e'∈ps,e'.a≠D9∧e'.a≠lT∧∀p∈G,p.1≠e'.a:=fun e' he'=>⟨(hP2 e' he').1,((hP2 e' he').2 (lT,A1 its nT) (hnv▸mH1)).symm,fun p hp=>(hP2 e' he').2 p (hGn p hp)⟩;have htT:∀q∈tla,q.1≠lT:=fun q hq=>by
    rw [htla] at hq;refine AF hq (fun hq=>?_) fun hq=>hG q hq;refine mmE hq ?_;intro e' he';exact (haT e' he').2.1
   have N18:=JG (pre:=[(D9,A1 (BZ ps).toArray pe)]) N17 (fc1 ⟨hDT,AA _⟩) htT;have hpp:ps.map ptP=DW tr:=by
    rw [hP1];unfold DW;rw [Cy];exact C5 _
   k_steps;refine hret ps tr D9 pe _ _ _ hcut hpp rfl hDT (fun p hp=>(hoff p (hGn p hp)).2) haT F17 (Bo N18 (A6 mH1 (A6 (.head _) fun q hq=>mT2 (by rw [htla];exact hq))))
theorem Nv {M:Model}{A:AO}{c:Code}{R:DN→A4→Prop}{s:A4}(A':AO)(h1:A'.handled=A.handled)(h2:A.depth≤A'.depth)(h3:A'.frames=A.frames)(h4:A'.guards=A.guards)(h5:A.units≤A'.units)
  (h:Bt M A' c R s):Bt M A c R s:=fun Γ p hc hΓ=>h Γ p hc ⟨hΓ.1.trans h1.symm,Am hΓ.2.1 h2,fun l hl=>hΓ.2.2.1 l (h3▸hl),fun g hg=>hΓ.2.2.2.1 g (h4▸hg),Am hΓ.2.2.2.2 h5⟩
theorem QW {M:Model}{A:AO}{E:Value→A4→Prop}{s:A4}{env:Env}{o e:Expr}{name:Str}{apos pos p:Pos}{Q:Value→A4→Prop}
  (h:wpAny M A (eval o env) (fun ov s₁=>wpAny M A (Dc ov name true) (fun f s₂=>wpAny M A (KY pos f [] (Fv pos (Cx [.Starred e p] env)) []) Q E s₂) E s₁) E s)
  (he:eval (.Call (.Attribute o name apos) [.Starred e p] [] pos) env=(do
   let ov ←eval o env
   OA apos.atName
   let (f,first) ←LR [ov] (do pure (←Dc ov name true,[]))
   let cp ←pure pos
   KY cp f first (Fv pos (Cx [.Starred e p] env)) []):=by rfl) :
  wpAny M A (eval (.Call (.Attribute o name apos) [.Starred e p] [] pos) env) Q E s:=by
 rw [he]
 refine A2 (Ac h (fun ov s₁ h₁=>A2 (FC (A2 (Ak (A2 (Ac h₁ (fun f s₂ h₂=>AC (A2 (AC h₂))) fun _ _ x=>x)))))) fun _ _ x=>x)
theorem MH {M:Model}{A:AO}{E:Value→A4→Prop}{s:A4}{K:Frag}{env:Env}{pos p:Pos}{q f:Addr}{self:Value}{first:List Value}{Q:Value→A4→Prop}{e:Expr}(hf:fnIn K f=true)
  (h:wpAny M A (eval e env) (fun v s₁=>StarOf M A E v (fun vs s₂=>MethP K q f self s₂.heap∧wpAny M A (call (.ref q) (first++vs)) Q E s₂) s₁) E s)
  (he:Cx [.Starred e p] env=[(true,eval e env)]:=by rfl) :
  wpAny M A (KY pos (.ref q) first (Fv pos (Cx [.Starred e p] env)) []) Q E s:=by
 rw [he];exact ks_call (P:=MethP K q f self) rfl (fun h X=>keeps_M hf h X) (ks_lone h)
inductive Tg:Gr→List Int→List (List Int)→Prop
 | nil (g:Gr):Tg g [] []
 | cons {g:Gr} {rs:List Int} {gs:List (List Int)}:rs≠[]→rs.length≤12→rs.Nodup→(∀x∈rs,x∈g.map (·.nm))→(∀q∈rs,∀r∈rs,r∉gsc g q)→Tg (EY (Gl g rs,[]) rs).1 (EY (Gl g rs,[]) rs).2 gs→Tg g rs (rs::gs)
theorem HW:∀(xs:List Int)(g:Gr)(x:Int),gsc (Gl g xs) x=gsc g x
 | [],g,x=>rfl
 | y::xs,g,x=>by
  show gsc (Gl (gup g y fun e=>{ e with np:=-1 }) xs) x=_;rw [HW xs];exact Il (f:=fun e=>{ e with np:=-1 }) (fun _=>rfl) (fun _=>rfl) x
theorem M7 (g:Gr)(x:Int)(f:GN→GN)(h:∀e,(f e).nm=e.nm):(gup g x f).map (·.nm)=g.map (·.nm):=by
 unfold gup;rw [Ao];apply Az;intro e _;show (if e.nm=x then f e else e).nm=e.nm;split
 ·exact h e
 rfl
theorem PC:∀(xs:List Int)(g:Gr)(x:Int),gnp g x = -1→x∈g.map (·.nm)→gnp (Gl g xs) x = -1:=by
 intro xX
 induction xX with
 | nil=>
  intro g x h _;exact h
 | cons y xs iH=>
  intro g x h hm;show gnp (Gl (gup g y fun e=>{ e with np:=-1 }) xs) x=_;refine iH _ x ?_ (by rw [M7 _ _ (fun e=>{ e with np:=-1 }) fun _=>rfl];exact hm);unfold gnp;rw [FA (f:=fun e=>{ e with np:=-1 }) (fun _=>rfl)];unfold gnp at h
  cases hf:g.find? fun e=>e.nm=x with
  | none=>
   rw [hf] at h;exact h
  | some e=>
   rw [hf] at h;show (if e.nm=y then { e with np:=-1 } else e).np = -1;split
   ·rfl
   exact h
theorem TG:∀(xs:List Int)(g:Gr)(x:Int),x∈xs→x∈g.map (·.nm)→gnp (Gl g xs) x = -1:=by
 intro xX
 induction xX with
 | nil=>
  intro _ _ h _;exact nomatch h
 | cons y xs iH=>
  intro g x h hm;show gnp (Gl (gup g y fun e=>{ e with np:=-1 }) xs) x=_;have hm2:x∈(gup g y fun e=>{ e with np:=-1 }).map (·.nm):=by rw [M7 _ _ (fun e=>{ e with np:=-1 }) fun _=>rfl];exact hm
  by_cases hxy:x=y
  ·refine PC xs _ x ?_ hm2;subst hxy;unfold gnp;rw [FA (f:=fun e=>{ e with np:=-1 }) (fun _=>rfl)]
   cases hf:g.find? fun e=>e.nm=x with
   | none=>
    refine Aq (mm1 hm) ?_;intro e he hx;have:=Ck.mp hf e he;simp at this;exact absurd hx this
   | some e=>
    have hx:e.nm=x:=by simpa using CO hf
    show (if e.nm=x then { e with np:=-1 } else e).np = -1;rw [if_pos hx]
  rcases mc1 h with h | h
  ·exact absurd h hxy
  exact iH _ x h hm2
theorem SH {prog:AY}{w:World}{A:AO}{E:Value→A4→Prop}{s:A4}{env:Env}{h₀:Heap}{m:Str→Option Value}{news:List (Addr×Obj)}{x:Str}{px:Pos}{body:List Stmt}{Q:Flow→A4→Prop}{l:Addr}{items:Array Value}(hh:A.handled=none)(hE:DR (model prog w) A env E)(J:JP)(hl:∀i m nx,J i m nx→(l,(⟨.type "tuple",none,.seq items 0,#[]⟩:Obj))∈nx)
  (F:Fr h₀ env.locals s.heap m) (N:News h₀ env.locals s.heap news) (h0:J 0 m news)
  (turn:∀I i v m₁ nx oI h tk,items[i]? = some v→J i m₁ nx→(∀p∈nx,p.1≠I)→Fr h₀ env.locals h m₁→News h₀ env.locals h ((I,oI)::nx)→
   wpAny (model prog w) A (DM (.Name x px) env v) (fun _ s₂=>wpAny (model prog w) A (execs body env) (LEnd h₀ env.locals I oI s J (i+1) Q) E s₂) E { s with heap:=h,toks:=tk })
  (done:∀m₁ nx h tk,J items.size m₁ nx→Fr h₀ env.locals h m₁→News h₀ env.locals h nx→Q .next { s with heap:=h,toks:=tk }) :
  wpAny (model prog w) A (CR (.ref l)) (fun it s₂=>KU prog w A env (.Name x px) body Q E it s₂) E s:=by
 have hm:=hl _ _ _ h0;have hli:s.heap.IsTuple l items:=⟨_,(N _ hm).1,rfl,_,rfl⟩;have hlt:l<s.heap.objs.size:=AZ (N _ hm).1;refine wpAny_pyIter_tuple hli ?_;have hW:=Walks.tuple (prog:=prog) (w:=w) (A:=A) hh s.heap.objs.size l (A7 hlt) items;refine MT hW hE (fun i h st=>?_) (fun i v s' Q' E' _ _ hQ=>AC hQ) J (fun b hb hne=>⟨⟨.type "tuple",none,.seq items 0,#[]⟩,by rw [(mc1 hb).elim (fun e=>absurd e hne) ms1];exact hl⟩) ⟨⟨_,Aa _ rfl,rfl,rfl⟩,hli.at fun o e=>AE _ e⟩ F N h0 (fun i v m₁ nx oI h tk _ hv=>turn _ i v m₁ nx oI h tk hv) done;obtain ⟨⟨o,ho,_⟩,_⟩:=st;exact ⟨o,ho⟩
def Ris (xs:Array Nat):Prop:=xs.toList.Pairwise (· < ·)
def RP (t:CN):Prop:=t.plain=true→Ris t.place∧t.dummies = #[]
theorem md1 {lo hi:Nat}(h:lo<hi):lo≤(lo+hi)/2∧(lo+hi)/2<hi:=
 ⟨(Nat.le_div_iff_mul_le Nat.two_pos).mpr (Nat.mul_two lo▸Nat.add_le_add_left (Be h) lo),(Nat.div_lt_iff_lt_mul Nat.two_pos).mpr (Nat.mul_two hi▸Nat.add_lt_add_right h hi)⟩
theorem Md {xs:Array Nat}(h:Ris xs){i k:Nat}(hik:i<k)(hk:k<xs.size):xs.getD i 0<xs.getD k 0:=by
 have:=(List.pairwise_iff_getElem.mp h) i k (by rw [Bb];exact Ay hik hk) (by rw [Bb];exact hk) hik;simpa [Tv,Ay hik hk,hk] using this
theorem TZ {xs:Array Nat}{j fuel lo hi:Nat}:EV xs j (fuel+1) lo hi=if lo<hi then (if xs.getD ((lo+hi)/2) j<j then EV xs j fuel ((lo+hi)/2+1) hi else EV xs j fuel lo ((lo+hi)/2)) else lo:=rfl
set_option tactic.hygienic true in
theorem RL {xs:Array Nat}(h:Ris xs)(j:Nat):∀(fuel lo hi:Nat),hi-lo≤fuel→lo≤hi→hi≤xs.size→(∀i,i<lo→xs.getD i 0<j)→(∀i,hi≤i→i<xs.size→j≤xs.getD i 0)→
  (∀i,i<EV xs j fuel lo hi→xs.getD i 0<j)∧(∀i,EV xs j fuel lo hi≤i→i<xs.size→j≤xs.getD i 0)∧EV xs j fuel lo hi≤xs.size:=by
 intro xX
 induction xX with
 | zero=>
  intro lo hi hf hl hs h1 h2;have:lo=hi:=Cd hl (Nat.sub_eq_zero_iff_le.mp (Nat.le_zero.mp hf));subst this;exact ⟨h1,h2,hs⟩
 | succ fuel iH=>
  intro lo hi hf hl hs h1 h2;rw [TZ];split
  ·rename_i hlt;refine CL (md1 hlt) ?_;intro a1 a2;generalize (lo+hi)/2=d at a1 a2 ⊢;have hg:xs.getD d j=xs.getD d 0:=by
    have:d<xs.size:=B5 a2 hs;simp [Tv,this]
   rw [hg];split
   ·rename_i hm;refine iH _ hi (FG (B5 (Nat.sub_lt_sub_left hlt (FF a1)) hf)) a2 hs (fun i hi'=>?_) h2
    by_cases e:i=d
    ·rw [e];exact hm
    exact Ay (Md h (MO (FG hi') e) (B5 a2 hs)) hm
   rename_i hm;refine iH lo _ (FG (B5 (Nat.sub_lt_sub_right a1 a2) hf)) a1 (Am (Be a2) hs) h1 (fun i hi' his=>?_)
   by_cases e:i=d
   ·rw [e];exact Nat.not_lt.mp hm
   exact Be (DG (Nat.not_lt.mp hm) (Md h (MO hi' (Ne.symm e)) his))
  rename_i hlt;have:lo=hi:=Cd hl (Nat.not_lt.mp hlt);subst this;exact ⟨h1,h2,hs⟩
theorem HZ {xs:Array Nat}(h:Ris xs)(j:Nat):(∀i,i<Bg xs j→xs.getD i 0<j)∧(∀i,Bg xs j≤i→i<xs.size→j≤xs.getD i 0)∧Bg xs j≤xs.size:=
 RL h j xs.size 0 xs.size (Nat.sub_le _ _) (B0 _) (Ap _) (fun i hi=>absurd hi (Ed i)) (fun i h1 h2=>absurd h2 (Nat.not_lt.mpr h1))
theorem MJ {xs:Array Nat}(h:Ris xs):Bg xs 0=0:=by
 cases e:Bg xs 0 with
 | zero=>rfl
 | succ n=>exact absurd ((HZ h 0).1 0 (by rw [e];exact Iw n)) (Ed _)
theorem Ny {xs:Array Nat}(h:Ris xs){i:Nat}(hi:i<xs.size):Bg xs (xs.getD i 0+1)=i+1:=by
 refine Dj (HZ h (xs.getD i 0+1)) ?_;intro h1 h2 h3;have a:i<Bg xs (xs.getD i 0+1):=by
  refine Nat.lt_of_not_le fun hle=>?_;exact Av _ (h2 i hle hi)
 have b:Bg xs (xs.getD i 0+1)≤i+1:=by
  refine Fm fun hlt=>?_;have h4:=h1 (i+1) hlt;exact Nat.not_lt.mpr (FG h4) (Md h (Nat.lt_add_one i) (B5 hlt h3))
 exact Cd b a
theorem Nc {xs:Array Nat}(h:Ris xs){j:Nat}(hj:xs[Bg xs j]?≠some j):Ris (To xs (Bg xs j) j):=by
 refine Dj (HZ h j) ?_;intro h1 h2 h3;generalize Bg xs j=p at h1 h2 h3 hj;have e:(To xs p j).toList=xs.toList.take p++([j]++xs.toList.drop p):=by
  unfold To;simp [Array.toList_extract,List.extract];exact BA (by rw [Fn,Bb];exact Ap _)
 unfold Ris;rw [e,List.pairwise_append,List.pairwise_append];have ge:∀i (hi:i<xs.size),xs.getD i 0=xs[i]:=fun i hi=>by simp [Tv,hi]
 have hd:∀b∈xs.toList.drop p,j<b:=by
  intro b hb;obtain ⟨i,hi,e9⟩:=LW hb;rw [List.getElem_drop] at e9;have hs:p+i<xs.size:=by rw [Fn,Bb] at hi;exact Nat.add_lt_of_lt_sub' hi
  rw [Array.getElem_toList] at e9;have hle:=h2 (p+i) (Pq _ _) hs;rw [ge _ hs,e9] at hle
  by_cases hi0:i=0
  ·subst hi0;have:xs[p]? = some b:=by rw [←e9];exact BU _
   rcases Nat.lt_or_eq_of_le hle with h | h
   ·exact h
   exact absurd (by rw [this,h]) hj
  have hp:=h2 p (Ap _) (DG (Pq p i) hs);have hlt:=Md h (Nat.lt_add_of_pos_right (MN hi0)) hs;rw [ge _ hs,e9] at hlt;exact DG hp hlt
 have ht:∀a∈xs.toList.take p,a<j:=by
  intro a ha;obtain ⟨i,hi,e9⟩:=LW ha;rw [List.getElem_take,Array.getElem_toList] at e9;rw [Bm,Bb] at hi;have hi:=Nat.lt_min.mp hi;have:=h1 i hi.1;rw [ge _ hi.2,e9] at this;exact this
 refine ⟨JX (List.take_sublist _ _) h,⟨I8 _ _,JX (List.drop_sublist _ _) h,fun a ha b hb=>?_⟩,fun a ha b hb=>?_⟩
 ·rw [ms1 ha];exact hd b hb
 rcases Cf.mp hb with hb | hb
 ·rw [ms1 hb];exact ht a ha
 exact Ay (ht a ha) (hd b hb)
theorem Ls {t:CN}(hd:t.dummies = #[]){h:Int}:∀(fuel:Nat)(p:CN.Probe){j:Nat}{dm:Option Nat},p.dummy=none→Tn t (fun _=>h+1) h fuel p=some (.empty j dm)→dm=none∧t.place[Bg t.place j]?≠some j:=by
 intro xX
 induction xX with
 | zero=>
  intro p j dm hp e;exact nomatch (show (none:Option CN.Met)=_ from e)
 | succ fuel iH=>
  intro p j dm hp e
  replace e:(match t.slot p.j with | .empty=>some (.empty p.j p.dummy) | .dummy=>Tn t (fun _=>h+1) h fuel (t.advance { p with dummy:=some p.j }) | .live i=>if h+1==h then some (.candidate p.j i (t.advance p)) else Tn t (fun _=>h+1) h fuel (t.advance p))=some (.empty j dm):=e
  have hnd:CN.has t.dummies p.j=false:=by rw [hd];unfold CN.has;rfl
  have hadv:(t.advance p).dummy=none:=by
   unfold CN.advance;split
   ·exact hp
   exact hp
  unfold CN.slot at e;dsimp only at e
  by_cases hl:t.place[Bg t.place p.j]? = some p.j
  ·rw [if_pos (by rw [hl];exact beq_self_eq_true _)] at e;dsimp only at e;have hb:(h+1==h)=false:=beq_false_of_ne (O4 (Int.lt_succ h));rw [hb,if_neg (by decide)] at e;exact iH _ hadv e
  rw [if_neg (fun hh=>hl (eq_of_beq hh)),hnd,if_neg (by decide)] at e;dsimp only at e;cases e;exact ⟨hp,hl⟩
theorem Qx {t:CN}(hr:Ris t.place)(hd:t.dummies = #[]){h:Int}{slot:Nat}{wd:Bool}(e:t.freeSlot h=some (slot,wd)):Ris (t.put slot).1.place∧(t.put slot).1.dummies = #[]:=by
 revert e;unfold CN.freeSlot
 cases hp:t.probe (fun _=>h+1) h (t.probeStart h) with
 | none=>intro e;cases e
 | some m=>
  cases m with
  | candidate=>intro e;cases e
  | empty j dm=>
   intro e;obtain ⟨h1,h2⟩:=Ls hd _ _ (by rfl) hp;subst h1;cases e;refine ⟨Nc hr h2,?_⟩;show (if CN.has t.dummies j then _ else t.dummies)=_;rw [hd];rfl
theorem Oy {t:CN}(h:RP t)(es:Array (Int×Value))(k:Int)(x:Value):RP (layNew t es k x).2.1:=by
 unfold layNew
 cases hf:t.freeSlot k with
 | some p=>
  obtain ⟨slot,wd⟩:=p;show RP (I7 (t.put slot).1 _);unfold I7;split
  ·intro hp;refine CL (h hp) ?_;intro h1 h2;exact Qx h1 h2 hf
  intro hp;cases hp
 | none=>intro hp;cases hp
theorem Qd {g:Nat→Option Nat}:∀l:List Nat,((l.filterMap fun j=>(g j).map (j,·)).map (·.1)).Sublist l:=by
 intro xX
 induction xX with
 | nil=>
  exact .slnil
 | cons j l iH=>
  rw [List.filterMap_cons]
  cases hg:g j with
  | none=>simpa [hg] using (iH).cons j
  | some k=>simpa [hg] using (iH).cons_cons j
theorem Oc {t t':CN}{hs:Array Int}{n:Nat}{ord:Array Nat}(h:t.relaid hs n=some (t',ord)):Ris t'.place∧t'.dummies = #[]:=by
 unfold CN.relaid CN.laid at h
 cases ho:CN.layClean (CN.sizeAbove n-1) hs with
 | none=>rw [ho] at h;cases h
 | some ow=>
  rw [ho] at h;have h2:=BM h;have h4:_=t':=congrArg Ci h2;rw [←h4];refine ⟨?_,rfl⟩;show List.Pairwise (· < ·) _;exact JX (Qd _) List.pairwise_lt_range
theorem Lp (t:CN)(es:Array (Int×Value))(n:Nat):RP (KX t es n).2.1:=by
 unfold KX
 cases h:t.relaid (es.map (·.1)) n with
 | some p=>
  obtain ⟨t',ord⟩:=p;dsimp only;split
  ·exact fun _=>Oc h
  intro hp;cases hp
 | none=>intro hp;cases hp
def SetS (prog:AY)(w:World)(o:Obj)(ks:List Int):Prop:=
 o.ExactSet∧ks.Nodup∧∃es ep t,o.data = .set es ep t∧CJ (es.toList.map (·.2)) ks∧ElemsOf (AM prog w) es.toList∧t.fits es.size=true∧
  (w.params.followText "set-order" = false→t.led=true)∧RP t
set_option tactic.hygienic true in
theorem NX (t:CN)(es:Array (Int×Value))(h:Int)(x:Value):(layNew t es h x).2.1.led=t.led:=by
 unfold layNew;split
 ·rename_i slot wd _;show (I7 (t.put slot).1 _).led=t.led;unfold I7 CN.standIn;split<;>rfl
 rfl
theorem NG {t t':CN}{hs:Array Int}{n:Nat}{ord:Array Nat}(h:t.relaid hs n=some (t',ord)):t'.led=t.led∧t'.plain=t.plain:=by
 unfold CN.relaid CN.laid at h
 cases ho:CN.layClean (CN.sizeAbove n-1) hs with
 | none=>rw [ho] at h;cases h
 | some ow=>
  rw [ho] at h;have h2:=BM h;have h3:=congrArg Ci h2;have h4:_=t':=h3;exact ⟨by rw [←h4],by rw [←h4]⟩
set_option tactic.hygienic true in
theorem Kt (t:CN)(es:Array (Int×Value))(n:Nat):(KX t es n).2.1.led=t.led:=by
 unfold KX;split
 ·rename_i t' ord h;have:=NG h;dsimp only;split
  ·exact this.1
  rfl
 rfl
section
variable {prog:AY}{w:World}{A:AO}{E:Value→A4→Prop}{s:A4}
theorem GC {vs:List Value}{ks:List Int}(h:CJ vs ks)(k:Int):k∈ks↔∃v∈vs,(AM prog w).is k v=true:=by
 induction h with
 | nil=>simp
 | cons x t h ih=>
  rw [BD,ih]
  constructor
  ·rintro (rfl | ⟨v,hv,hk⟩)
   ·exact ⟨_,.head _,BH _ _ _ _⟩
   exact ⟨v,.tail _ hv,hk⟩
  rintro ⟨v,hv,hk⟩;rcases mc1 hv with rfl | hv
  ·have:=(AM prog w).inj _ _ _ hk (BH prog w x t);exact .inl this
  exact .inr ⟨v,hv,hk⟩
theorem NF (led:Bool)(hl:w.params.followText "set-order" = false→led=true):SetS prog w { cls:=.type "set",dict:=none,data:=.set #[] 0 (.fresh 0 0 led) } []:=
 ⟨⟨rfl,rfl,rfl⟩,CY,#[],0,_,rfl,.nil,fun e he=>by simp at he,by rfl,hl,fun _=>⟨.nil,rfl⟩⟩
theorem Rb {a:Addr}{o:Obj}{es es1:Array (Int×Value)}{ep:Nat}{t t1:CN}{ks:List Int}{Q:Unit→A4→Prop}(ho:s.heap.get? a=some o)(hex:o.ExactSet)(hd:o.data = .set es ep t)(hz:es1.size≤FD)
  (h:∀h' o',EB a s.heap h'→h'.get? a=some o'→o'.ExactSet→o'.data = .set es1 (ep+1) t1→Q () { s with heap:=h' }):wpAny (model prog w) A (storeSet a es1 t1) Q E s:=by
 refine wpAny_storeSet_of ho hd ?_ hz;have hg:(s.heap.update a (Obj.putSet es1 t1)).get? a=some { o with data:=.set es1 (ep+1) t1 }:=by
  have:=Aw (Obj.putSet es1 t1) ho (by rw [putSet_of es1 t1 hd];rfl);rw [putSet_of es1 t1 hd] at this;exact this
 exact h _ _ (BL ..) hg hex rfl
theorem OZ {a:Addr}{o:Obj}{ks:List Int}{x:Int}{tx:Tok}{Q:Bool→A4→Prop}(ho:s.heap.get? a=some o)(hS:SetS prog w o ks)(hroom:ks.length+1<Dp)
  (h:∀h' o' ks',EB a s.heap h'→h'.get? a=some o'→SetS prog w o' ks'→(x∈ks∧ks'=ks∨x∉ks∧ks'.Perm (ks++[x]))→Q (!decide (x∈ks)) { s with heap:=h' }) :
  wpAny (model prog w) A (setAddHashed a (.int x tx) ((AM prog w).hash x)) Q E s:=by
 refine (let G9:Prop:=_;(?_:G9));obtain ⟨hex,hnd,es,ep,t,hd,hst,hel,hf,hled,hpl⟩:=id hS;refine (?_:wpAny _ _ _ _ _ _);have hsz:es.size=ks.length:=by have:=hst.length;simpa using this
 have hkey:(AM prog w).is x (.int x tx)=true:=BH _ _ _ _;have hsc:(A5 x tx).scannable=true:=rfl;unfold setAddHashed setAddHashedIn;refine Ak (A2 (ET ho hd hf ?_));dsimp only;rw [byScan_of hsc (by lia) hel];rw [if_pos rfl];unfold setAddByScan;refine A2 ?_;refine A2 (GW ?_);refine A2 (wpAny_setScan_of hkey ho hd hf hel ?_)
 cases hr:List.findIdx? (fun e=>(AM prog w).is x e.2) es.toList with
 | some j=>
  dsimp only;refine Aq (List.findIdx?_eq_some_iff_getElem.mp hr) ?_;intro hj hpj _;have hm:x∈ks:=(GC (prog:=prog) (w:=w) hst x).mpr ⟨es.toList[j].2,mm2 ⟨_,Fo hj,rfl⟩,hpj⟩;have e:s = { s with heap:=s.heap }:=by cases s;rfl
  have h9:=h s.heap o ks (EB.refl a s.heap) ho hS (.inl ⟨hm,rfl⟩);rw [decide_eq_true hm] at h9;exact AC (AC (e▸h9))
 | none=>
  dsimp only;have hm:x∉ks:=by
   intro hm;refine Aq ((GC (prog:=prog) (w:=w) hst x).mp hm) ?_;intro v hv hk;refine Aq (mm1 hv) ?_;intro e he e92;subst e92;have:=List.findIdx?_eq_none_iff.mp hr e he;rw [hk] at this;cases this
  have hgw:∀(b:Bool) {s₁:A4} {Q':Unit→A4→Prop},Q' () s₁→wpAny (model prog w) A (match b with | true=>rule "set.scan.the-table-gave-way" | false=>pure ()) Q' E s₁:=
   fun b s₁ Q' hq=>by cases b<;>first | exact AC hq | exact GW hq
  have hperm:=layNew_perm t es ((AM prog w).hash x) (.int x tx);have hfits:=layNew_fits t es ((AM prog w).hash x) (.int x tx);have hled1:=NX t es ((AM prog w).hash x) (.int x tx);have hpl1:=Oy hpl es ((AM prog w).hash x) (.int x tx);generalize hL:layNew t es ((AM prog w).hash x) (.int x tx)=L at hperm hfits hled1 hpl1 ⊢;obtain ⟨es1,t1,wasDummy,gave⟩:=L;dsimp only at hperm hfits hled1 hpl1 ⊢;rw [O8] at hperm;have hel1:ElemsOf (AM prog w) es1.toList:=(hel.push hkey hsc).perm hperm;have hz1:es1.size=es.size+1:=by rw [←Bb,hperm.length_eq,Ai,Bb];rfl
  refine A2 (hgw _ ?_);have fin:∀(t2:CN),t2.fits es1.size=true→t2.led=t.led→RP t2→∀(h':Heap) (o':Obj) (es2:Array (Int×Value)) (ep2:Nat),EB a s.heap h'→h'.get? a=some o'→o'.ExactSet→o'.data = .set es2 ep2 t2→es2.toList.Perm es1.toList→Q true { s with heap:=h' }:=by
   intro t2 hf2 hl2 hp2 h' o' es2 ep2 hsb ho' hex' hd' hpm;have hpm2:es2.toList.Perm (es.toList++[((AM prog w).hash x,A5 x tx)]):=hpm.trans hperm;obtain ⟨ks',hk1,hk2⟩:∃ks',CJ (es2.toList.map (·.2)) ks'∧ks'.Perm (ks++[x]):=by
    have hall:∀v,v∈es2.toList.map (·.2)→∃x t,v=A5 x t:=by
     intro v hv;have hv2:v∈(es.toList++[((AM prog w).hash x,A5 x tx)]).map (·.2):=(hpm2.map (·.2)).mem_iff.mp hv;rw [AI] at hv2;refine AF hv2 (fun hv2=>?_) fun hv2=>?_
     ·exact hst.all v hv2
     rw [ms1 hv2];exact ⟨_,_,rfl⟩
    refine ⟨_,intsAre_map _ hall,?_⟩;have:=(hpm2.map (·.2)).map numOf;rw [AI,AI,hst.nums] at this;exact this
   have hnd':ks'.Nodup:=by
    rw [hk2.nodup_iff,CZ];exact ⟨hnd,by simp,fun a ha b hb e=>hm (by rw [←ms1 hb,←e];exact ha)⟩
   have hz2:es2.size=es1.size:=by rw [←Bb,hpm.length_eq,Bb]
   have h9:=h h' o' ks' hsb ho' ⟨hex',hnd',es2,ep2,t2,hd',hk1,hel1.perm hpm,by rw [hz2];exact hf2,fun e=>hl2.trans (hled e),hp2⟩ (.inr ⟨hm,hk2⟩);rw [decide_eq_false hm] at h9;exact h9
  have rest:∀(t2:CN),t2.fits es1.size=true→t2.led=t.led→RP t2→wpAny (model prog w) A (do
    storeSet a es1 t2
    if (!wasDummy&&t2.tooFull)=true then do
      (match (KX t2 es1 (Dv es1.size)).2.2 with | true=>rule "set.scan.the-table-gave-way" | false=>pure ())
      storeSet a (KX t2 es1 (Dv es1.size)).1 (KX t2 es1 (Dv es1.size)).2.1
      pure (some true)
     else pure (some true)) (fun r s'=>wpAny (model prog w) A (match r with | some added=>pure added | none=>setAddHashedIn a (.int x tx) ((AM prog w).hash x) 99999) Q E s') E s:=by
   intro t2 hf2 hl2 hp2;refine A2 (Rb (ks:=ks) ho hex hd (by rw [DP];have:=hroom;rw [show Dp=4096 from rfl] at this;lia) fun h1 o1 hs1 ho1 hex1 hd1=>?_);split
   ·have hp:=relayAll_perm t2 es1 (Dv es1.size);have hfr:=relayAll_fits t2 es1 (Dv es1.size);have hlr:=Kt t2 es1 (Dv es1.size);have hpr:=Lp t2 es1 (Dv es1.size);generalize hRl:KX t2 es1 (Dv es1.size)=Rl at hp hfr hlr hpr ⊢;obtain ⟨es2,t3,gave2⟩:=Rl;dsimp only at hp hfr hlr hpr ⊢;have hz3:es2.size=es1.size:=by rw [←Bb,hp.length_eq,Bb]
    refine A2 (hgw _ ?_);refine A2 (Rb (s:={ s with heap:=h1 }) (ks:=ks) ho1 hex1 hd1 (by rw [DP,hz3];have:=hroom;rw [show Dp=4096 from rfl] at this;lia) fun h2 o2 hs2 ho2 hex2 hd2=>?_);exact AC (AC (fin t3 (by rw [←hz3];exact hfr) (hlr.trans hl2) hpr h2 o2 es2 _ (hs1.trans hs2) ho2 hex2 hd2 hp))
   exact AC (AC (fin t2 hf2 hl2 hp2 h1 o1 es1 _ hs1 ho1 hex1 hd1 .rfl))
  cases hpt:t1.plain with
  | true=>
   rw [if_pos rfl];refine A2 ?_;rw [hashByValue_scannable 8 hsc];refine AC ?_;unfold plainKind;rw [if_pos rfl];exact rest _ hfits hled1 hpl1
  | false=>
   rw [if_neg Bn];refine A2 (AC ?_);rw [if_pos rfl];exact rest _ hfits hled1 hpl1
theorem SetS.typeIs {a:Addr}{o:Obj}{ks:List Int}(h:SetS prog w o ks)(ho:s.heap.get? a=some o):s.TypeIs (.ref a) "set" :=⟨o,ho,h.1.1⟩
end
theorem Mc:Manifest.owners.lookup (String.ofList ['r','o','t','a','r','e','t','i','_','t','e','s'].reverse)=some Manifest.sig_set_iterator:=by kernel_rfl
theorem si_next:Slot "set_iterator" "__next__" "set_iterator.__next__" :=
 .of (owner:= "set_iterator") (n:= "__next__") (by rw [CH,Bc];kernel_rfl) (by decide +kernel) (by decide +kernel) (by decide +kernel)
  (by first | exact .inl (by decide +kernel) | exact .inr (by decide +kernel)) (by rw [C1];kernel_rfl)
theorem Gw:Gp table "set_iterator.__next__" = some Builtin.«set_iterator.__next__»:=entryFor_of_tree (by kernel_rfl)
theorem Hj (a:Value):JU "set_iterator.__next__" ⟨[a],[]⟩:=by
 unfold JU;rw [signature?_of (id:= "set_iterator.__next__") (n:=['_','_','t','x','e','n','_','_']) (o:=['r','o','t','a','r','e','t','i','_','t','e','s']) (by kernel_rfl) Mc];kernel_rfl
theorem OV:Slot "set_iterator" "__iter__" "set_iterator.__iter__" :=
 .of (owner:= "set_iterator") (n:= "__iter__") (by rw [CH,Bc];kernel_rfl) (by decide +kernel) (by decide +kernel) (by decide +kernel)
  (by first | exact .inl (by decide +kernel) | exact .inr (by decide +kernel)) (by rw [C1];kernel_rfl)
theorem K0:Gp table "set_iterator.__iter__" = some Builtin.«dict_keyiterator.__iter__»:=
 entryFor_alias (id':= "dict_keyiterator.__iter__") (by rw [EU];kernel_rfl) rfl (by decide +kernel) (by rw [EU];kernel_rfl)
theorem Kq (a:Value):JU "set_iterator.__iter__" ⟨[a],[]⟩:=by
 unfold JU;rw [signature?_of (id:= "set_iterator.__iter__") (n:=['_','_','r','e','t','i','_','_']) (o:=['r','o','t','a','r','e','t','i','_','t','e','s']) (by kernel_rfl) Mc];kernel_rfl
theorem JE:Gp table "set.__iter__" = some Builtin.«frozenset.__iter__»:=
 entryFor_alias (id':= "frozenset.__iter__") (by rw [EU];kernel_rfl) rfl (by decide +kernel) (by rw [EU];kernel_rfl)
section
variable {prog:AY}{w:World}{A:AO}{E:Value→A4→Prop}{s:A4}
theorem Ex {α:Type}{x:α}{l:List α}:∀{i:Nat},l[i]? = some x→(x::l.eraseIdx i).Perm l:=by
 induction l with
 | nil=>intro i h;simp at h
 | cons y l iH=>
  intro i h
  cases i with
  | zero=>
   simp at h;subst h;exact .rfl
  | succ i=>
   rw [List.getElem?_cons_succ] at h;rw [List.eraseIdx_cons_succ];exact (List.Perm.swap y x _).trans ((iH h).cons y)
theorem RI {n:Nat}{src:Source}{Q:Nat→A4→Prop}(hn:n≠0)(h:∀j d,j<n→Q j { s with drawn:=d }):wpAny (model prog w) A (choose src n) Q E s:=
 fun Γ p hΓ=>⟨hn,h _ _ (Nat.mod_lt _ (MN hn))⟩
theorem MC {α:Type}:∀(n:Nat)(l:List α)(s:A4){Q:List α→A4→Prop},l.length=n→(∀(l':List α)(d:Drawn),l'.Perm l→Q l' { s with drawn:=d })→wpAny (model prog w) A (drawOrder n l) Q E s:=by
 intro xX
 induction xX with
 | zero=>
  intro l s Q hn h;have:l=[]:=Di hn;subst this;exact AC (h [] s.drawn .rfl)
 | succ n iH=>
  intro yY
  cases yY with
  | nil=>
   intro s Q hn h;exact nomatch hn
  | cons x l=>
   intro s Q hn h;refine A2 (RI (by simp) fun j d hlt=>?_);have hx:(x::l)[j]? = some (x::l)[j]:=Ax hlt;rw [hx];refine A2 (iH ((x::l).eraseIdx j) { s with drawn:=d } (by rw [Ts hlt,hn];rfl) fun l' d' hp=>AC ?_);exact h _ d' (((hp.cons _)).trans (Ex hx))
theorem UW {α:Type}{next:Nat→Nat}{fuel k:Nat}{left:List α}{out:Array α}{x:α}(h:left[next k%left.length]? = some x):He next (fuel+1) k left out=He next fuel (k+1) (left.eraseIdx (next k%left.length)) (out.push x):=by
 show (match left[next k%left.length]? with | some x=>He next fuel (k+1) (left.eraseIdx (next k%left.length)) (out.push x) | none=>out)=_;rw [h]
theorem UX {α:Type}{next:Nat→Nat}{fuel k:Nat}{left:List α}{out:Array α}(h:left[next k%left.length]? = none):He next (fuel+1) k left out=out:=by
 show (match left[next k%left.length]? with | some x=>He next fuel (k+1) (left.eraseIdx (next k%left.length)) (out.push x) | none=>out)=_;rw [h]
theorem Sl {α:Type}(next:Nat→Nat):∀(fuel k:Nat)(left:List α)(out:Array α),left.length≤fuel→(He next fuel k left out).toList.Perm (out.toList++left):=by
 intro xX
 induction xX with
 | zero=>
  intro k left out h;have:left=[]:=Di (by lia);subst this;show out.toList.Perm (out.toList++[]);simp
 | succ fuel iH=>
  intro k left out h
  cases hx:left[next k%left.length]? with
  | some x=>
   rw [UW hx];have hlt:=(List.getElem?_eq_some_iff.mp hx).1;refine (iH (k+1) _ _ (by rw [Ts hlt];lia)).trans ?_;rw [O8,BP];exact (List.Perm.refl _).append (Ex hx)
  | none=>
   rw [UX hx]
   cases left with
   | nil=>simp
   | cons y l=>
    have:=List.getElem?_eq_none_iff.mp hx;have h2:next k%(y::l).length<(y::l).length:=Nat.mod_lt _ (by simp);lia
theorem Ol {α:Type}(next:Nat→Nat)(xs:Array α):(OC next xs).toList.Perm xs.toList:=by
 have:=Sl next xs.size 0 xs.toList #[] (by simp);simpa [OC] using this
end
noncomputable abbrev K1 (first:Value)(i:Int)(sv:Value)(n ep:Nat):Obj:={ cls:=.type "set_iterator",data:=.fields #[first,.int i 0,sv,.int n 0,.int ep 0] }
inductive MK (w:World)(a:Addr)(es:Array (Int×Value))(ep:Nat)(t:CN)(T:Addr)(vs:List Value)(h:Heap):Nat→Value→Prop
 | text (i:Nat):w.params.followText "set-order" = true→vs=(OC (w.params.setOrder a ep) es).toList.map (·.2)→MK w a es ep t T vs h i (.int 0 0)
 | drawn (i:Nat) (js:List Nat):h.get? T=some ⟨.type "tuple",none,.seq (js.map fun (j:Nat)=>A5 (j:Int) 0).toArray 0,#[]⟩→js.Perm (DH es.size)→js.length=vs.length→(∀(k j:Nat) (e:Int×Value),js[k]? = some j→es[j]? = some e→vs[k]? = some e.2)→MK w a es ep t T vs h i (.ref T)
 | slots (i:Nat) (first:Nat):w.params.followText "set-order" = false→(!t.plain&&decide (es.size>1))=false→t.led=true→(es.size≤1∨Ris t.place)→vs=es.toList.map (·.2)→Bg t.place first=i→MK w a es ep t T vs h i (.int first 0)
def SSt (w:World)(I a:Addr)(o:Obj)(es:Array (Int×Value))(ep:Nat)(t:CN)(T:Addr)(vs:List Value)(i:Nat)(h:Heap):Prop:=
 h.get? a=some o∧∃first,h.get? I=some (K1 first i (.ref a) es.size ep)∧MK w a es ep t T vs h i first
theorem Ri {xs:Array Nat}{n:Nat}(h:n≤1∨Ris xs)(hs:xs.size=n):Ris xs:=by
 rcases h with h | h
 ·unfold Ris;obtain ⟨l⟩:=xs;have hl:l.length=n:=hs
  match l,hl with
  | [],_=>exact .nil
  | [x],_=>exact I8 _ _
  | x::y::r,hl=>simp at hl;lia
 exact h
section
variable {prog:AY}{w:World}{A:AO}{E:Value→A4→Prop}{s:A4}
theorem EM {I:Addr}{first sv:Value}{i:Int}{n ep:Nat}(h:s.heap.get? I=some (K1 first i sv n ep)):s.TypeIs (.ref I) "set_iterator" :=⟨_,h,rfl⟩
theorem Is {t:CN}{n:Nat}(h:t.fits n=true):t.place.size=n:=by
 unfold CN.fits at h;simp only [C8,beq_iff_eq] at h;exact h.1
theorem Mb {I:Addr}{first sv:Value}{i:Int}{n ep:Nat}{k:Nat}{x:Value}{h:Heap}(ho:h.get? I=some (K1 first i sv n ep)) :
  (h.update I (Q2 (·.setIfInBounds k x))).get? I=some { cls:=.type "set_iterator",data:=.fields ((#[first,.int i 0,sv,.int n 0,.int ep 0]:Array Value).setIfInBounds k x) }:=
 Aw _ ho rfl
theorem IH {I a:Addr}{o:Obj}{es:Array (Int×Value)}{ep:Nat}{t:CN}{slot:Nat}{i:Nat}{Q:Option Value→A4→Prop}
  (hI:s.heap.get? I=some (K1 (.int (slot:Int) 0) i (.ref a) es.size ep)) (ho:s.heap.get? a=some o) (hd:o.data = .set es ep t) (hf:t.fits es.size=true)
  (h:wpAny (model prog w) A.in1 (do
    match ←setNext a (slot:Int).toNat (i:Int).toNat (ep:Int).toNat with
    | some (x,next)=>
     KW (.ref I) 0 (Dr next)
     KW (.ref I) 1 (Dr ((i:Int)+1))
     ret x
    | none=>KW (.ref I) 2 .none;raiseNew (←newExc (.type "StopIteration") []))
   (fun fin s'=>∃r,fin = .done (.ret r)∧Q (some r) s') (fun e s'=>wpAny (model prog w) A (Ga e (.type "StopIteration")) (fun b s''=>b=true∧Q none s'') E s') s) :
  wpAny (model prog w) A (DL (.ref I)) Q E s:=by
 unfold DL;refine A2 (EJ (C0 (name:=A0 "__next__") (EM hI) si_next (Bz si_next (EM hI) Gw ?_ (Hj _))));unfold Builtin.«set_iterator.__next__»;refine A2 (m:=slotArgs _ _ _) (AC ?_);refine A2 (wpAny_fieldsOf hI rfl ?_);dsimp only;refine A2 (Pp ho hd hf ?_);rw [if_neg (by simp)];refine Ac h (fun fin s' hq=>?_) (fun e s' hq=>?_)
 ·refine Aq (hq) ?_;(try clear hq);intro r e91 hr;subst e91;exact ⟨r,rfl,AC hr⟩
 refine A2 (Ac hq (fun b s'' hb=>?_) fun _ _ e=>e);refine CL (hb) ?_;(try clear hb);intro e90 hb;subst e90;exact AC hb
theorem Mh {I a:Addr}{o:Obj}{es:Array (Int×Value)}{ep:Nat}{t:CN}{T:Addr}{i:Nat}{Q:Option Value→A4→Prop}
  (hI:s.heap.get? I=some (K1 (.ref T) i (.ref a) es.size ep)) (ho:s.heap.get? a=some o) (hd:o.data = .set es ep t) (hf:t.fits es.size=true)
  (h:wpAny (model prog w) A.in1 (do
    let some Br ←seqItems? (.ref T) | unsupported "internal:set_iterator"
    match Br[(i:Int).toNat]? with
    | some (.int place _)=>
     let x ←setNextDrawn a place.toNat (ep:Int).toNat
     KW (.ref I) 1 (Dr ((i:Int)+1))
     ret x
    | some _=>unsupported "internal:set_iterator"
    | none=>KW (.ref I) 0 (Dr 0);KW (.ref I) 2 .none;raiseNew (←newExc (.type "StopIteration") []))
   (fun fin s'=>∃r,fin = .done (.ret r)∧Q (some r) s') (fun e s'=>wpAny (model prog w) A (Ga e (.type "StopIteration")) (fun b s''=>b=true∧Q none s'') E s') s) :
  wpAny (model prog w) A (DL (.ref I)) Q E s:=by
 unfold DL;refine A2 (EJ (C0 (name:=A0 "__next__") (EM hI) si_next (Bz si_next (EM hI) Gw ?_ (Hj _))));unfold Builtin.«set_iterator.__next__»;refine A2 (m:=slotArgs _ _ _) (AC ?_);refine A2 (wpAny_fieldsOf hI rfl ?_);dsimp only;refine A2 (Pp ho hd hf ?_);rw [if_neg (by simp)];refine Ac h (fun fin s' hq=>?_) (fun e s' hq=>?_)
 ·refine Aq (hq) ?_;(try clear hq);intro r e91 hr;subst e91;exact ⟨r,rfl,AC hr⟩
 refine A2 (Ac hq (fun b s'' hb=>?_) fun _ _ e=>e);refine CL (hb) ?_;(try clear hb);intro e90 hb;subst e90;exact AC hb
theorem Ln {Q:Option Value→A4→Prop}{P:Fin→A4→Prop}(hh:A.handled=none)(hQ:∀h',(∀b o,s.heap.get? b=some o→h'.get? b=some o)→Q none { s with heap:=h' }) :
  wpAny (model prog w) A.in1 (do raiseNew (←newExc (.type "StopIteration") [])) P (fun e s'=>wpAny (model prog w) A (Ga e (.type "StopIteration")) (fun b s''=>b=true∧Q none s'') E s') s:=by
 refine UF hh fun h' e hx=>?_;obtain ⟨k1,k2,⟨o,tt,hT2,hT3,_⟩⟩:=hx;exact Eo (T:= "StopIteration") (b:=true) ⟨o,hT2,hT3⟩ isSubtype_stop ⟨rfl,hQ _ k1⟩
theorem Hk {a:Addr}{o:Obj}{es:Array (Int×Value)}{ep:Nat}{t:CN}{slot i:Nat}{Q:Option (Value×Nat)→A4→Prop}(ho:s.heap.get? a=some o)(hd:o.data = .set es ep t)(hf:t.fits es.size=true)
  (ht:w.params.followText "set-order" = true) (h:Q (((OC (w.params.setOrder a ep) es)[i]?).map fun e=>(e.2,slot)) s):wpAny (model prog w) A (setNext a slot i ep) Q E s:=by
 unfold setNext;refine A2 (ET ho hd hf ?_);dsimp only;unfold setsByText;refine A2 (A2 (DQ (AC ?_)));rw [show (model prog w).w.params.followText "set-order" = true from ht];rw [if_pos rfl,if_neg (by rw [bne_self_eq_false];exact Bn)];refine A2 ?_;unfold setWalk;refine A2 (ET ho hd hf ?_);dsimp only;unfold setsByText;refine A2 (A2 (DQ (AC ?_)));rw [show (model prog w).w.params.followText "set-order" = true from ht];rw [if_pos rfl];refine A2 (DQ (AC ?_));exact AC h
theorem IT {a:Addr}{o:Obj}{es:Array (Int×Value)}{ep:Nat}{t:CN}{slot i:Nat}{Q:Option (Value×Nat)→A4→Prop}(ho:s.heap.get? a=some o)(hd:o.data = .set es ep t)(hf:t.fits es.size=true)
  (ht:w.params.followText "set-order" = false) (hz:(!t.plain&&decide (es.size>1))=false) (hl:t.led=true)
  (h:Q (match es[Bg t.place slot]?,t.place[Bg t.place slot]? with | some (_,x),some j=>some (x,j+1) | _,_=>none) s):wpAny (model prog w) A (setNext a slot i ep) Q E s:=by
 unfold setNext;refine A2 (ET ho hd hf ?_);dsimp only;unfold setsByText;refine A2 (A2 (DQ (AC ?_)));rw [show (model prog w).w.params.followText "set-order" = false from ht];rw [if_neg Bn];show wpAny (model prog w) A (if (!t.plain&&decide (es.size>1))=true then _ else _) Q E s;rw [hz,if_neg (by decide)];refine A2 ?_;show wpAny (model prog w) A (if (!t.led && !es.isEmpty)=true then unsupported "set:maker-not-led" else pure ()) _ E s;rw [hl];exact AC (AC h)
theorem JF {a:Addr}{o:Obj}{es:Array (Int×Value)}{ep:Nat}{t:CN}{place:Nat}{e:Int×Value}{Q:Value→A4→Prop}(ho:s.heap.get? a=some o)(hd:o.data = .set es ep t)(hf:t.fits es.size=true)
  (he:es[place]? = some e) (h:Q e.2 s):wpAny (model prog w) A (setNextDrawn a place ep) Q E s:=by
 unfold setNextDrawn;refine A2 (ET ho hd hf ?_);dsimp only;rw [if_neg (by rw [bne_self_eq_false];exact Bn)];rw [he];exact AC h
theorem Sb {I a T:Addr}{o:Obj}{es:Array (Int×Value)}{ep:Nat}{t:CN}{vs:List Value}{i:Nat}{v:Value}{Q:Option Value→A4→Prop}(hd:o.data = .set es ep t)(hf:t.fits es.size=true)(hIa:I≠a)(hIT:I≠T)(hlen:vs.length=es.size)
  (st:SSt w I a o es ep t T vs i s.heap) (hv:vs[i]? = some v) (hQ:∀h',SSt w I a o es ep t T vs (i+1) h'→(∀b o,b≠I→s.heap.get? b=some o→h'.get? b=some o)→Q (some v) { s with heap:=h' }) :
  wpAny (model prog w) A (DL (.ref I)) Q E s:=by
 obtain ⟨ho,first,hI,hr⟩:=st
 cases hr with
 | text ht hvs=>
  refine IH (slot:=0) hI ho hd hf ?_;refine A2 (Hk ho hd hf ht ?_);refine (let G9:Prop:=_;(?_:G9));obtain ⟨e,he,hev⟩:∃e,(OC (w.params.setOrder a ep) es)[((i:Int)).toNat]? = some e∧e.2=v:=by
   rw [hvs,AX] at hv;refine Aq (Option.map_eq_some_iff.mp hv) ?_;intro e he hev;exact ⟨e,by simpa using he,hev⟩
  refine (?_:wpAny _ _ _ _ _ _);rw [show ((ep:Int)).toNat=ep from E5 ep] at *;rw [he];dsimp only [Option.map];refine A2 (Cg hI rfl (by simp) ?_);have h1:=Mb (k:=0) (x:=Dr (((0:Int).toNat:Nat):Int)) hI;refine A2 (Cg h1 rfl (by simp) ?_);have h2:=Aw (Q2 (·.setIfInBounds 1 (Dr ((i:Int)+1)))) h1 rfl;refine AC ⟨_,rfl,?_⟩;rw [hev];refine hQ _ ⟨?_,_,h2,.text _ ht hvs⟩ fun b o' hb e'=>?_
  ·exact (BF _ _ hIa).trans ((BF _ _ hIa).trans ho)
  exact (BF _ _ (Ne.symm hb)).trans ((BF _ _ (Ne.symm hb)).trans e')
 | drawn js hT hjs hjl hjv=>
  refine Mh hI ho hd hf ?_;refine A2 (Eb hT rfl ?_);dsimp only;refine (let G9:Prop:=_;(?_:G9));obtain ⟨j,hj⟩:∃j,js[i]? = some j:=by
   have:=(List.getElem?_eq_some_iff.mp hv).1;exact ⟨js[i]'(by lia),Ax _⟩
  refine (?_:wpAny _ _ _ _ _ _);have hjm:j<es.size:=by
   have:=hjs.mem_iff.mp (AK hj);exact List.mem_range.mp this
  have he:es[j]? = some es[j]:=BU hjm;have hev:es[j].2=v:=by
   have:=hjv i j _ hj he;rw [hv] at this;exact (BM this).symm
  have hpl:(js.map fun (j:Nat)=>A5 (j:Int) 0).toArray[((i:Int)).toNat]? = some (.int (j:Int) 0):=by
   simp [hj]
  rw [hpl];dsimp only;refine A2 (JF (e:=es[j]) ho hd hf (by simpa using he) ?_);refine A2 (Cg hI rfl (by simp) ?_);have h1:=Mb (k:=1) (x:=Dr ((i:Int)+1)) hI;refine AC ⟨_,rfl,?_⟩;rw [hev];refine hQ _ ⟨?_,_,h1,.drawn _ js ?_ hjs hjl hjv⟩ fun b o' hb e'=>?_
  ·exact (BF _ _ hIa).trans ho
  ·exact (BF _ _ hIT).trans hT
  exact (BF _ _ (Ne.symm hb)).trans e'
 | slots first ht hz hl hz9 hvs hi=>
  have hlt:=(List.getElem?_eq_some_iff.mp hv).1;have hp:=Ri hz9 (Is hf);refine IH (slot:=first) hI ho hd hf ?_;refine A2 (IT ho hd hf ht hz hl ?_);have hps:t.place.size=es.size:=Is hf;rw [show ((first:Int)).toNat=first from rfl,hi];have hp0:t.place[i]? = some (t.place.getD i 0):=by
   have:i<t.place.size:=by lia
   simp [Tv,this]
  have he0:es[i]? = some (es[i]'(by lia)):=BU _;have hev:(es[i]'(by lia)).2=v:=by
   rw [hvs] at hv;simp at hv;refine Bp (hv) ?_;(try clear hv);intro q1 q2;rw [he0] at q2;exact congrArg Dw (BM q2)
  rw [hp0,he0];dsimp only;refine A2 (Cg hI rfl (by simp) ?_);have h1:=Mb (k:=0) (x:=Dr ((t.place.getD i 0+1:Nat):Int)) hI;refine A2 (Cg h1 rfl (by simp) ?_);have h2:=Aw (Q2 (·.setIfInBounds 1 (Dr ((i:Int)+1)))) h1 rfl;refine AC ⟨_,rfl,?_⟩;rw [hev];refine hQ _ ⟨?_,_,h2,.slots (i+1) (t.place.getD i 0+1) ht hz hl hz9 hvs (Ny hp (by lia))⟩ fun b o' hb e'=>?_
  ·exact (BF _ _ hIa).trans ((BF _ _ hIa).trans ho)
  exact (BF _ _ (Ne.symm hb)).trans ((BF _ _ (Ne.symm hb)).trans e')
theorem Sc {I a T:Addr}{o:Obj}{es:Array (Int×Value)}{ep:Nat}{t:CN}{vs:List Value}{i:Nat}{Q:Option Value→A4→Prop}(hh:A.handled=none)(hd:o.data = .set es ep t)(hf:t.fits es.size=true)(hIa:I≠a)(hIT:I≠T)(hlen:vs.length=es.size)
  (hin:i=vs.length) (st:SSt w I a o es ep t T vs i s.heap) (hQ:∀h',(∀b o,b≠I→s.heap.get? b=some o→h'.get? b=some o)→Q none { s with heap:=h' }) :
  wpAny (model prog w) A (DL (.ref I)) Q E s:=by
 obtain ⟨ho,first,hI,hr⟩:=st;have hoff:∀{h1:Heap} {k:Nat} {x:Value} b o',b≠I→h1.get? b=some o'→(h1.update I (Q2 (·.setIfInBounds k x))).get? b=some o':=fun b o' hb e'=>(BF _ _ (Ne.symm hb)).trans e'
 cases hr with
 | text ht hvs=>
  refine IH (slot:=0) hI ho hd hf ?_;refine A2 (Hk ho hd hf ht ?_);have he:(OC (w.params.setOrder a ep) es)[((i:Int)).toNat]? = none:=by
   rw [E5,hin];apply DA;rw [hvs];simp
  rw [show ((ep:Int)).toNat=ep from E5 ep] at *;rw [he];dsimp only [Option.map];refine A2 (Cg hI rfl (by simp) ?_);exact Ln hh fun h' hk=>hQ h' fun b o' hb e'=>hk b o' (hoff b o' hb e')
 | drawn js hT hjs hjl hjv=>
  refine Mh hI ho hd hf ?_;refine A2 (Eb hT rfl ?_);dsimp only;have hpl:(js.map fun (j:Nat)=>A5 (j:Int) 0).toArray[((i:Int)).toNat]? = none:=by
   rw [E5,hin];apply DA;simp [hjl]
  rw [hpl];dsimp only;refine A2 (Cg hI rfl (by simp) ?_);have h1:=Mb (k:=0) (x:=Dr 0) hI;refine A2 (Cg h1 rfl (by simp) ?_);exact Ln hh fun h' hk=>hQ h' fun b o' hb e'=>hk b o' (hoff b o' hb (hoff b o' hb e'))
 | slots first ht hz hl hz9 hvs hi=>
  refine IH hI ho hd hf ?_;refine A2 (IT ho hd hf ht hz hl ?_);have hn:(match es[Bg t.place ((first:Int)).toNat]?,t.place[Bg t.place ((first:Int)).toNat]? with | some (_,x),some j=>some (x,j+1) | _,_=>none)=(none:Option (Value×Nat)):=by
   rw [E5,hi];have:es[i]? = none:=DA (by lia);rw [this]
  rw [hn];dsimp only;refine A2 (Cg hI rfl (by simp) ?_);exact Ln hh fun h' hk=>hQ h' fun b o' hb e'=>hk b o' (hoff b o' hb e')
end
section
variable {prog:AY}{w:World}{A:AO}{E:Value→A4→Prop}{s:A4}
theorem Rd {a:Addr}{es:Array (Int×Value)}{ep:Nat}{t:CN}{T:Addr}{vs:List Value}{h h':Heap}{i:Nat}{first:Value}(hT:∀o,h.get? T=some o→h'.get? T=some o)(x:MK w a es ep t T vs h i first):MK w a es ep t T vs h' i first:=by
 cases x with
 | text h1 h2=>exact .text _ h1 h2
 | drawn js h1 h2 h3 h4=>exact .drawn _ js (hT _ h1) h2 h3 h4
 | slots first h1 h2 h3 h4 h5 h6=>exact .slots _ first h1 h2 h3 h4 h5 h6
theorem QK {I a T:Addr}{o:Obj}{es:Array (Int×Value)}{ep:Nat}{t:CN}{vs:List Value}(hh:A.handled=none)(hd:o.data = .set es ep t)(hf:t.fits es.size=true)(hIa:I≠a)(hIT:I≠T)(hlen:vs.length=es.size) :
  Walks prog w A I [I,a,T] [I] vs.length (fun i v=>vs[i]? = some v) (SSt w I a o es ep t T vs) where
 sub:=fun b hb=>by simp at hb;simp [hb]
 frame:=fun i h h' st hk=>by
  obtain ⟨ho,first,hI,hr⟩:=st;exact ⟨hk a (by simp) _ ho,first,hk I (by simp) _ hI,Rd (fun o e=>hk T (by simp) o e) hr⟩
 item:=fun i s Q E hi st hQ=>by
  have hv:vs[i]? = some vs[i]:=Ax hi;refine Sb hd hf hIa hIT hlen st hv fun h' st' hk=>?_;exact hQ _ h' s.toks hv st' fun b o hb e=>hk b o (fun q=>hb (by simp [q])) e
 done:=fun s Q E st hQ=>Sc hh hd hf hIa hIT hlen rfl st fun h' hk=>hQ h' s.toks fun b o hb e=>hk b o (fun q=>hb (by simp [q])) e
 self:=fun i s Q E st hQ=>by
  obtain ⟨ho,first,hI,hr⟩:=st;refine Ti (EM hI) OV (Bz OV (EM hI) K0 ?_ (Kq _));show wpAny _ _ (ret (.ref I)) _ _ s;exact AC ⟨_,rfl, "set_iterator",_,EM hI,si_next.lookup,hQ⟩
theorem L8 {vs vs':List Value}{ks:List Int}(h:CJ vs ks)(hp:vs'.Perm vs):∃ks',CJ vs' ks'∧ks'.Perm ks:=by
 refine ⟨_,intsAre_map _ fun v hv=>h.all v (hp.mem_iff.mp hv),?_⟩;have:=hp.map numOf;rw [h.nums] at this;exact this
theorem KA (es:Array (Int×Value)):(DH es.size).map (fun j=>(es[j]?.map (·.2)).getD .none)=es.toList.map (·.2):=by
 apply FK;intro j;rw [AX,AX]
 by_cases hj:j<es.size
 ·rw [LX hj,C9,BU hj];simp [BU hj]
 rw [DJ (by simpa using hj),DJ (by simpa using hj)];rfl
theorem T6 {a:Addr}{o:Obj}{ks:List Int}{Q:Value→A4→Prop}(ho:s.heap.get? a=some o)(hS:SetS prog w o ks)(hz:ks.length≤1000)
  (hQ:∀es ep t I T vs ks' h' d,o.data = .set es ep t→t.fits es.size=true→(∀b o,s.heap.get? b=some o→h'.get? b=some o)→s.heap.objs.size≤I→I<h'.objs.size→T<h'.objs.size→I≠T→I≠a→(T=a∨s.heap.objs.size≤T)→SSt w I a o es ep t T vs 0 h'→CJ vs ks'→ks'.Perm ks→vs.length=es.size→
   Q (.ref I) { s with heap:=h',drawn:=d }) :
  wpAny (model prog w) A (CR (.ref a)) Q E s:=by
 refine (let G9:Prop:=_;(?_:G9))
 obtain ⟨hex,hnd,es,ep,t,hd,hst,hel,hf,hled,hpl⟩:=id hS
 refine (?_:wpAny _ _ _ _ _ _)
 have hT:=hS.typeIs ho
 have ha:=AZ ho
 have hsz:es.size=ks.length:=by have:=hst.length;simpa using this
 refine Ti hT F.slot_set_iter (Bz F.slot_set_iter hT JE ?_ (F.args_set_iter_1 _))
 unfold Builtin.«frozenset.__iter__»
 refine A2 (m:=Builtin.Frozenset.slot0 _ _) (AC ?_)
 unfold Builtin.Frozenset.sizeOf
 refine A2 (A2 (Pp ho hd hf (AC ?_)))
 refine A2 ?_
 unfold setDrawn
 refine A2 (ET ho hd hf ?_)
 dsimp only
 unfold setsByText
 refine A2 (A2 (DQ (AC ?_)))
 refine AC ?_
 dsimp only
 have fin:∀(first:Value) (s1:A4) (T:Addr) (vs:List Value),(∃d h1,s1 = { s with heap:=h1,drawn:=d })→(∀b o,s.heap.get? b=some o→s1.heap.get? b=some o)→s.heap.objs.size≤s1.heap.objs.size→T<s1.heap.objs.size→(T=a∨s.heap.objs.size≤T)→MK w a es ep t T vs s1.heap 0 first→vs.Perm (es.toList.map (·.2))→
   wpAny (model prog w) A.in1 (do
       let e ←setEpoch a
       let r ←newFields "set_iterator" [first,Dr 0,A3 a,Dr (es.size:Int),Dr (e:Int)]
       ret r) (fun fin s'=>∃v,fin=Fin.done (Flow.ret v)∧∃T' r,s'.TypeIs v T'∧Df (AL T') (A0 "__next__")=pure (some r)∧Q v s') E s1:=by
  rintro first s1 T vs ⟨d,h1,rfl⟩ hk hle hTl hTa hr hpm
  refine A2 (wpAny_setEpoch_of (hk _ _ ho) hd hf ?_)
  refine A2 (Db ?_)
  have hI:(h1.push (K1 first (0:Nat) (.ref a) es.size ep)).get? h1.objs.size=some (K1 first (0:Nat) (.ref a) es.size ep):=Aa _ rfl
  have up:∀b o,h1.get? b=some o→(h1.push (K1 first (0:Nat) (.ref a) es.size ep)).get? b=some o:=fun b o e=>AE _ e
  refine Aq (L8 hst hpm) ?_;intro ks' hk1 hk2
  refine AC ⟨_,rfl, "set_iterator",_,EM (s:={ s with heap:=h1.push (K1 first (0:Nat) (.ref a) es.size ep),drawn:=d }) hI,si_next.lookup,?_⟩
  refine hQ es ep t h1.objs.size T vs ks' _ d hd hf (fun b o e=>up b o (hk b o e)) hle (by rw [Bq];exact Al _) (by rw [Bq];exact AU hTl) (AN hTl) (AN (B5 ha hle)) hTa ⟨up _ _ (hk _ _ ho),first,hI,Rd (fun o e=>up T o e) hr⟩ hk1 hk2 ?_
  have:=hpm.length_eq
  simpa using this
 have key:∀c:Bool,c=(!t.plain&&decide (es.size>1))→wpAny (model prog w) A.in1 (if (!(model prog w).w.params.followText "set-order" && c)=true then do
   let js ←drawOrder es.size (DH es.size)
   let first ←newTuple (js.map fun (i:Nat)=>Dr (i:Int))
   let e ←setEpoch a
   let r ←newFields "set_iterator" [first,Dr 0,A3 a,Dr (es.size:Int),Dr (e:Int)]
   ret r
  else do
   let first ←pure (Dr 0)
   let e ←setEpoch a
   let r ←newFields "set_iterator" [first,Dr 0,A3 a,Dr (es.size:Int),Dr (e:Int)]
   ret r) (fun fin s'=>∃v,fin=Fin.done (Flow.ret v)∧∃T' r,s'.TypeIs v T'∧Df (AL T') (A0 "__next__")=pure (some r)∧Q v s') E s:=by
  intro c hc0
  cases hb:w.params.followText "set-order" with
  | true=>
   rw [show (model prog w).w.params.followText "set-order" = true from hb,if_neg (by simp)]
   refine A2 (AC ?_)
   exact fin _ s a _ ⟨s.drawn,s.heap,rfl⟩ (fun _ _ e=>e) (Ap _) ha (.inl rfl) (.text 0 hb rfl) ((Ol _ _).map _)
  | false=>
   rw [show (model prog w).w.params.followText "set-order" = false from hb]
   cases hc:c with
   | true=>
    rw [if_pos (by rfl)]
    refine A2 (MC es.size (DH es.size) s (by simp) fun js d hjs=>?_)
    have hjl:js.length=es.size:=by rw [hjs.length_eq];simp
    refine A2 (wpAny_newTuple ?_)
    refine fin _ _ s.heap.objs.size (js.map fun j=>(es[j]?.map (·.2)).getD .none) ⟨d,_,rfl⟩ (fun _ _ e=>AE _ e) (by rw [Bq];exact Dh _) (by rw [Bq];exact Al _) (.inr (Ap _)) (.drawn 0 js ?_ hjs (by simp) ?_) ?_
    ·exact Aa _ rfl
    ·intro k j e hk he
     rw [AX,hk]
     simp [he]
    rw [←KA es]
    exact hjs.map _
   | false=>
    rw [if_neg (by simp)]
    refine A2 (AC ?_)
    have hz1:(!t.plain&&decide (es.size>1))=false:=hc0.symm.trans hc
    have hz2:es.size≤1∨Ris t.place:=by
     cases hpt:t.plain with
     | true=>exact .inr (hpl hpt).1
     | false=>
      rw [hpt] at hz1
      simp at hz1
      exact .inl hz1
    exact fin _ s a _ ⟨s.drawn,s.heap,rfl⟩ (fun _ _ e=>e) (Ap _) ha (.inl rfl) (.slots 0 0 hb hz1 (hled hb) hz2 rfl (MJ (Ri hz2 (Is hf)))) (List.Perm.refl _)
 exact key _ rfl
end
section
variable {prog:AY}{w:World}{A:AO}{E:Value→A4→Prop}{s:A4}
theorem U4 {α:Type}{M:Model}{c:Prop} [Decidable c] {x y:Sem α}{Q:α→A4→Prop}(hc:c)(h:wpAny M A x Q E s):wpAny M A (if c then x else y) Q E s:=by rw [if_pos hc];exact h
theorem VI {α:Type}{M:Model}{c:Prop} [Decidable c] {x y:Sem α}{Q:α→A4→Prop}(hc:¬c)(h:wpAny M A y Q E s):wpAny M A (if c then x else y) Q E s:=by rw [if_neg hc];exact h
theorem Nr {a:Addr}{o:Obj}{ks:List Int}{Q:List Value→A4→Prop}(hh:A.handled=none)(ho:s.heap.get? a=some o)(hS:SetS prog w o ks)(hz:ks.length≤1000)
  (hQ:∀vs ks' h' d tk,(∀b o,s.heap.get? b=some o→h'.get? b=some o)→CJ vs ks'→ks'.Perm ks→Q vs { s with heap:=h',drawn:=d,toks:=tk }) :
  wpAny (model prog w) A (collect (.ref a)) Q E s:=by
 have ha:=AZ ho;have hSa:s.heap.objs.size≠a:=AN ha;unfold collect;refine A2 (wpAny_runValue (CI F.entry_proto_collect ?_));rw [BY F.plain_proto_collect _];show wpAny _ A.in1 (newList [] >>= fun l=>again (.builtin "list.__iadd__" ⟨[l,.ref a],[]⟩)) _ _ s;refine A2 (Db ?_);refine AC ⟨Ct J9 _,CI F.entry_list_iadd ?_⟩;rw [BY J9 _];have hS₁:(s.heap.push { cls:=.type "list",data:=.seq ([]:List Value).toArray }).get? s.heap.objs.size=some { cls:=.type "list",data:=.seq ([]:List Value).toArray }:=Aa _ rfl;have ho₁:(s.heap.push { cls:=.type "list",data:=.seq ([]:List Value).toArray }).get? a=some o:=AE _ ho;show wpAny _ A.in1 (Bv (.ref s.heap.objs.size) (.ref a) (.ref s.heap.objs.size)) _ _ _;unfold Bv;refine A2 (Hd (hS.typeIs (s:={ s with heap:=s.heap.push { cls:=.type "list",data:=.seq ([]:List Value).toArray } }) ho₁) ?_);have h1:Cw (.ref s.heap.objs.size) (.ref a)=false:=by simp [Cw,hSa]
 rw [if_neg (by rw [h1];decide)];refine A2 (T6 (s:={ s with heap:=s.heap.push { cls:=.type "list",data:=.seq ([]:List Value).toArray } }) ho₁ hS hz fun es ep t I T vs ks' h' d hd hf hk hle hIl hTl hIT hIa hTa hst hvs hks hvl=>?_);have ho₂:h'.get? a=some o:=hk _ _ ho₁;have hS₂:=hk _ _ hS₁;refine A2 (Ak ?_);unfold DO;have hT₂:({ s with heap:=h',drawn:=d }:A4).TypeIs (.ref a) "set" :=⟨o,ho₂,hS.1.1⟩;refine A2 (HG hT₂ F.slot_set_len.lookup ?_)
 (generalize hid:("set.__len__" : String)=id0;wp_delta;rw [show splitId id0=some ("set", "__len__") from by subst hid;decide +kernel];subst hid)
 refine A2 (Eo (b:=true) hT₂ (by rw [C1];kernel_rfl) ?_);refine VI (by decide) ?_;refine U4 (by decide +kernel) ?_;refine A2 (Hd hT₂ ?_);refine AC ?_;refine U4 (by decide +kernel) ?_;refine A2 (GW ?_);refine A2 ?_;show wpAny _ A.in1 (FX s.heap.objs.size (·.push .none) >>= fun _=>FX s.heap.objs.size (·.pop)) _ _ _;refine A2 (Cm hS₂ rfl ?_);have hS₃:=Aw (Ar (·.push AG)) hS₂ rfl;refine Cm hS₃ rfl ?_;have hS₄:=Aw (Ar (·.pop)) hS₃ rfl;have oth:∀b o,b≠s.heap.objs.size→h'.get? b=some o→((h'.update s.heap.objs.size (Ar (·.push AG))).update s.heap.objs.size (Ar (·.pop))).get? b=some o:=
  fun b o hb e=>(BF _ _ (Ne.symm hb)).trans ((BF _ _ (Ne.symm hb)).trans e)
 have hle':s.heap.objs.size<I:=by
  have:(s.heap.push { cls:=AL "list",data:=FO ([]:List Value).toArray }).objs.size≤I:=hle;rw [Bq] at this;exact this
 have hSf:s.heap.objs.size∉[I,a,T]:=by
  intro hm;simp only [BD,Au,or_false] at hm;rcases hm with e | e | e
  ·exact A7 hle' e
  ·exact hSa e
  rcases hTa with h9 | h9
  ·exact hSa (e.trans h9)
  have h9':(s.heap.push { cls:=AL "list",data:=FO ([]:List Value).toArray }).objs.size≤T:=h9;rw [Bq,←e] at h9';exact Ka _ h9'
 have W:=(QK (prog:=prog) (A:=A.in1) (w:=w) (I:=I) (a:=a) (T:=T) (o:=o) (es:=es) (ep:=ep) (t:=t) (vs:=vs) hh hd hf hIa hIT hvl);have hvlen:vs.length≤FD:=by
  have:=hvs.length;have h2:=hks.length_eq;rw [DP];lia
 refine AC ⟨Ct C4 _,codeAny_extend_loopS W.toS hvlen _ hSf _ vs.length 0 _ _ _ rfl (B0 _) (W.frame 0 _ _ hst fun b hb o e=>oth b o (fun q=>hSf (q▸hb)) e) hS₄ (ItemsOf.nil _) fun s' acc' c' hm hS' hacc=>?_⟩;show wpAny _ A (load s.heap.objs.size >>= _) _ _ s';refine A2 (wpAny_load hS' ?_);refine AC ?_;have hacc2:acc'.toList=vs:=by
  apply FK;intro j
  cases e:acc'[j]? with
  | some v=>
   rw [C9,e];exact (hacc.2 j v e).symm
  | none=>
   rw [C9,e];have h3:=hacc.1;have h4:acc'.size≤j:=by simpa using e
   exact (DJ (by lia)).symm
 have es':s' = { s with heap:=s'.heap,drawn:=d,toks:=s'.toks }:=by
  have h1:=hm.gens;have h2:=hm.drawn;have h3:=hm.os;obtain ⟨hp9,gn9,dr9,tk9,os9⟩:=s';dsimp only at h1 h2 h3 ⊢;subst h1 h2 h3;rfl
 rw [es'];show Q acc'.toList _;rw [hacc2];refine hQ vs ks' s'.heap d s'.toks (fun b o' e=>?_) hvs hks;have hbS:b≠s.heap.objs.size:=A7 (AZ e);have e2:=hk b o' (AE _ e);refine hm.heap b o' ?_ (oth b o' hbS e2);intro hmm;rcases mc1 hmm with q | q
 ·exact hbS q
 rw [Cj] at q;rw [q] at e;exact absurd (AZ e) (Nat.not_lt.mpr (Be hle'))
end
section
variable {prog:AY}{w:World}{A:AO}{R:DN→A4→Prop}{I:Addr}{fp wr:List Addr}{GG:Array IC→Array IC→Prop}{n:Nat}{P:Nat→Value→Prop}{St:Nat→A4→Prop}
theorem NE (W:WalksS prog w A.in1 I fp wr GG n P St)(S:Addr)(hSf:S∉fp)(val:Nat→Int)(hval:∀i v,P i v→∃t,v = .int (val i) t)(hb:n+1<Dp) :
  ∀(k i:Nat) (s:A4) (o:Obj) (ks:List Int),n-i=k→i≤n→St i s→s.heap.get? S=some o→SetS prog w o ks→ks.length≤i→(∀x,x∈ks↔∃j,j<i∧val j=x)→
   (∀s' o' ks',Moved (S::wr) GG s s'→s'.heap.get? S=some o'→SetS prog w o' ks'→ks'.length≤n→(∀x,x∈ks'↔∃j,j<n∧val j=x)→R (.ok (.ret .none)) s')→
   Bt (model prog w) A (.builtin "set.update.loop" ⟨[.ref S,.ref I],[]⟩) R s:=by
 have hSw:S∉wr:=fun h=>hSf (W.sub _ h);have hsub:∀b∈wr,b∈S::wr:=fun b hb=>List.mem_cons_of_mem _ hb;intro k
 induction k with
 | zero=>
  intro i s o ks hk hi hst ho hS hl hm hR;have hin:i=n:=sb0 hk hi;subst hin;refine CI F.entry_set_update_loop ?_;rw [BY OF _];show wpAny _ A.in1 (DL (.ref I) >>= _) _ _ s;refine A2 (W.done s _ _ hst fun s' hmv=>?_);show wpAny _ A.in1 (ret AG) _ _ s';exact AC (hR s' o ks (hmv.mono hsub) (hmv.heap S _ hSw ho) hS hl hm)
 | succ k ih=>
  intro i s o ks hk hi hst ho hS hl hm hR;have hlt:i<n:=sb1 hk;refine CI F.entry_set_update_loop ?_;rw [BY OF _];show wpAny _ A.in1 (DL (.ref I) >>= _) _ _ s;refine A2 (W.item i s _ _ hlt hst fun v s' hP hst' hmv=>?_);refine Bp (hval i v hP) ?_;intro t e92;subst e92;show wpAny _ A.in1 (LR [A5 (val i) t] (setAdd S (.int (val i) t)) >>= _) _ _ s';refine A2 (Ak ?_);unfold setAdd;refine Ak ?_;refine A2 ((AM prog w).pyHash (k:=val i) (BH _ _ _ _) ?_);refine OZ (s:={ s' with toks:=s'.toks+1 }) (hmv.heap S _ hSw ho) hS (DG (Nat.add_le_add_right (Am hl (Be hlt)) 1) hb) fun h' o' ks' hsb ho' hS' hk'=>?_;have hl':ks'.length≤i+1:=by
   rcases hk' with ⟨_,rfl⟩ | ⟨_,hp⟩
   ·lia
   rw [hp.length_eq,Ai];simp;lia
  have hm':∀x,x∈ks'↔∃j,j<i+1∧val j=x:=by
   intro x;have hx:x∈ks'↔x∈ks∨x=val i:=by
    rcases hk' with ⟨h9,rfl⟩ | ⟨_,hp⟩
    ·exact ⟨.inl,fun h=>h.elim id fun e=>e▸h9⟩
    rw [hp.mem_iff,Cf,Cj]
   rw [hx,hm]
   constructor
   ·rintro (⟨j,hj,e⟩ | e)
    ·exact ⟨j,by lia,e⟩
    exact ⟨i,Al i,e.symm⟩
   rintro ⟨j,hj,e⟩
   by_cases hji:j=i
   ·exact .inr (by rw [←e,hji])
   exact .inl ⟨j,by lia,e⟩
  refine AC ⟨Ct OF _,ih (i+1) _ o' ks' (sb2 hk) hlt (W.frame _ s' _ _ hst' (Dh _) fun b hb o e=>?_) ho' hS' hl' hm' fun s'' o'' ks'' hm'' a1 a2 a3 a4=>?_⟩
  ·rw [hsb.2 b (fun h:b=S=>hSf (by rw [←h];exact hb))];exact e
  refine hR s'' o'' ks'' (Moved.trans W.gtrans ((hmv.mono hsub).then_heap (Dh _) fun b o hb e=>?_) hm'') a1 a2 a3 a4;rw [hsb.2 b (fun h:b=S=>hb (by rw [h];exact List.mem_cons_self))];exact e
end
theorem JC:Ds (.type "dict_values") (.type "set")=pure false:=by rw [C1];kernel_rfl
theorem GU:Ds (.type "dict_values") (.type "frozenset")=pure false:=by rw [C1];kernel_rfl
theorem K7 (a:Value):Gc "set.__new__" ⟨[.type "set",a],[]⟩=pure ():=PySem.F.newCall_set_1 a
section
variable {prog:AY}{w:World}{A:AO}{E:Value→A4→Prop}{s:A4}
theorem I5 (a:Value){Q₁:Value→A4→Prop}
  (h:∀led:Bool,(w.params.followText "set-order" = false→led=true)→Q₁ (.ref s.heap.objs.size) { s with heap:=s.heap.push { cls:=.type "set",dict:=none,data:=.set #[] 0 (.fresh 0 0 led) } }) :
  Bt (model prog w) A (.call (.builtin "set.__new__") ⟨[.type "set",a],[]⟩) (wants Q₁ E) s:=by
 k_with "+35" =>skip
 k_with "35" =>(fail_if_success k_extra "+36")
 k_with "bz" =>k_extra "35"
 refine Co ?_;show wpAny _ A.in1 (do Gc "set.__new__" ⟨[.type "set",a],[]⟩;again (.builtin "set.__new__" ⟨[.type "set",a],[]⟩)) _ _ s;refine A2 (FW (K7 a) (AC ⟨Ct F.plain_set_new _,CI F.entry_set_new ?_⟩));rw [BY F.plain_set_new _];unfold Builtin.«set.__new__» Builtin.Frozenset.newClass;have hsub:=sub_set_self;obtain ⟨hp,g,d,tk,os⟩:=s;dsimp only
 repeat k_extra "wq"
 refine DQ (AC ?_);dsimp only;dsimp only [newObj];refine A2 (wpAny_alloc (AC ?_));exact AC (h _ fun e=>by show (!w.params.followText "set-order")=true;rw [e];rfl)
variable {K:Type} [DecidableEq K] {knd:KeyKind prog w K}
theorem It {v d:Addr}{kvs:List (K×Value)}{ep:Nat}(val:Nat→Int){Q:Value→A4→Prop}
  (hh:A.handled=none) (hv:s.heap.IsValuesView v d) (hm:s.heap.DictAt knd d kvs ep) (hval:∀(i:Nat) (x:Value),(∃k,kvs[i]? = some (k,x))→∃t,x=A5 (val i) t) (hb:kvs.length+1<Dp)
  (h:∀(h':Heap) (tk:Nat) (o:Obj) (ks:List Int),h'.get? s.heap.objs.size=some o→SetS prog w o ks→ks.length≤kvs.length→(∀x,x∈ks↔∃j,j<kvs.length∧val j=x)→
   (∀b o,b<s.heap.objs.size→s.heap.get? b=some o→h'.get? b=some o)→Q (.ref s.heap.objs.size) { s with heap:=h',toks:=tk }) :
  wpAny (model prog w) A (call (.type "set") [.ref v]) Q E s:=by
 k_with "bz" =>k_extra "35"
 refine I0 F.called_set.mro ?_;intro c tl hmro;have hmade:=F.called_set.made;have hsub:=F.called_set.sub;refine BN (Co ?_);show wpAny _ _ (callAny (.type "set") _) _ _ _;refine AC ⟨Code.quiet_builtin _ (by decide +kernel),CI F.entry_type_call ?_⟩;rw [AO.under_plain (weight_type_call_type "set" [.ref v] []) rfl];have h1:=F.called_set.notType;have h2:=F.called_set.canCreate;have hct:=F.typeCall_set_1 (.ref v)
 repeat (any_goals (first | assumption | k_extra "wq"))
 refine Tl (I5 (.ref v) (E:=E) (Q₁:=fun obj s₁=>∃led:Bool,(w.params.followText "set-order" = false→led=true)∧obj = .ref s.heap.objs.size∧s₁ = { s with heap:=s.heap.push { cls:=.type "set",dict:=none,data:=.set #[] 0 (.fresh 0 0 led) } }) fun led hl=>⟨led,hl,rfl,rfl⟩) fun r s₁ hr=>?_
 cases r with
 | error e=>exact hr
 | ok fl=>
  cases fl with
  | ret obj=>
   refine Dn hr ?_;(try clear hr);intro led hled e92 e93;subst e92;subst e93;have hS:(s.heap.push { cls:=.type "set",dict:=none,data:=.set #[] 0 (.fresh 0 0 led) }).get? s.heap.objs.size=some { cls:=.type "set",dict:=none,data:=.set #[] 0 (.fresh 0 0 led) }:=Aa _ rfl;have hT:A4.TypeIs { s with heap:=s.heap.push { cls:=.type "set",dict:=none,data:=.set #[] 0 (.fresh 0 0 led) } } (.ref s.heap.objs.size) "set" :=⟨_,hS,rfl⟩;have hli:=F.called_set.init.lookup;have hbi:=F.called_set.init.bind (.ref s.heap.objs.size)
   repeat (any_goals (first | assumption | k_extra "wq"))
   refine Tl (O0 (R:=wants (fun r s₂=>r = .none∧∃h' tk o ks,s₂ = { s with heap:=h',toks:=tk }∧h'.get? s.heap.objs.size=some o∧SetS prog w o ks∧ks.length≤kvs.length∧(∀x,x∈ks↔∃j,j<kvs.length∧val j=x)∧
     (∀b o,b<s.heap.objs.size→s.heap.get? b=some o→h'.get? b=some o)) E) F.called_set.init.plain F.entry_set_init (check_set_init_1 hT ?_)) fun r₂ s₂ hr₂=>?_
   ·refine Dn (id hv) ?_;intro ol hol hcl hdl;obtain ⟨ocls,odict,odata,oslots⟩:=ol;simp only at hcl hdl;subst hcl;subst hdl;have hol':(s.heap.push { cls:=.type "set",dict:=none,data:=.set #[] 0 (.fresh 0 0 led) }).get? v=some { cls:=.type "dict_values",dict:=odict,data:=.fields #[.ref d],slots:=oslots }:=AE _ hol;have hsls:=JC;have hslf:=GU;have hne:(AL "dict_values" == AL "dict")=false:=by decide
    have hl1:(s.heap.push { cls:=.type "set",dict:=none,data:=.set #[] 0 (.fresh 0 0 led) }).IsValuesView v d:=⟨_,hol',rfl,rfl⟩;have hm1:(s.heap.push { cls:=.type "set",dict:=none,data:=.set #[] 0 (.fresh 0 0 led) }).DictAt knd d kvs ep:=hm.push _;unfold Builtin.«set.__init__» noKeywords Builtin.Frozenset.updateFrom;generalize hPI:CR=PI
    repeat k_extra "wq"
    subst hPI;refine wpAny_pyIter_values hl1 hm1 ?_;refine A2 (wpAny_runValue ?_);have hlS:d<s.heap.objs.size:=hm.lt_size;have hh3:A.in1.in1.in1.handled=none:=by simp [hh]
    have hneI:d≠(s.heap.push { cls:=.type "set",dict:=none,data:=.set #[] 0 (.fresh 0 0 led) }).objs.size:=by
     rw [Bq];exact A7 (AU hlS)
    have hSf:s.heap.objs.size∉[(s.heap.push { cls:=.type "set",dict:=none,data:=.set #[] 0 (.fresh 0 0 led) }).objs.size,d]:=by
     rw [Bq];simp only [BD,Cj,Au,or_false,not_or];exact ⟨A7 (Al _),AN hlS⟩
    refine NE ((Walks.dictValues hh3 _ d hneI kvs ep).toS) s.heap.objs.size hSf val hval hb (kvs.length-0) 0 _ { cls:=.type "set",dict:=none,data:=.set #[] 0 (.fresh 0 0 led) } [] (by lia) (B0 _)
     ⟨⟨_,Aa _ rfl,rfl,rfl⟩,(hm1.push _)⟩ (AE _ hS) (NF led hled) (B0 _) (fun x=>⟨fun h=>absurd h Au,fun ⟨j,hj,_⟩=>absurd hj (Ed j)⟩) ?hR
    intro s' o' ks' hm' a1 a2 a3 a4;obtain ⟨h',g',d',tk',os'⟩:=s';have eg:g'=s.gens:=hm'.gens;have ed:d'=s.drawn:=hm'.drawn;have eo:os'=s.os:=hm'.os;subst eg;subst ed;subst eo;show wpAny _ _ _ _ _ _;refine AC ?_;show wpAny _ _ (ret AG) _ _ _;refine AC ⟨rfl,h',tk',o',ks',rfl,a1,a2,a3,a4,fun b o hb e=>?_⟩;have hb1:b≠s.heap.objs.size:=A7 hb;have hb2:b≠(s.heap.push { cls:=.type "set",dict:=none,data:=.set #[] 0 (.fresh 0 0 led) }).objs.size:=by
     rw [Bq];exact A7 (AU hb)
    exact hm'.heap b o (by simp only [BD,Cj,Au,or_false,not_or];exact ⟨hb1,hb2⟩) (AE _ (AE _ e))
   cases r₂ with
   | error e=>exact hr₂
   | ok fl₂=>
    cases fl₂ with
    | ret r=>
     obtain ⟨rfl,h',tk,o',ks',rfl,a1,a2,a3,a4,a5⟩:=hr₂
     repeat (any_goals (first | assumption | k_extra "wq"))
     exact h _ _ o' ks' a1 a2 a3 a4 a5
    | _=>exact hr₂.elim
  | _=>exact hr.elim
end
section
variable {prog:AY}{w:World}{A:AO}{E:Value→A4→Prop}{s:A4}
theorem Kp {B:Addr}{vs:List Value}{ns:List Int}{e:Nat}{Q:Value→A4→Prop}(hB:s.heap.get? B=some (EK "list" vs.toArray e))(hI:CJ vs ns)(h64:vs.length<64)
  (h:∀(out:Array Value) ss h' e',CJ out.toList ss→ss.Perm ns→ss.Pairwise (·≤·)→(∀b o,b≠B→s.heap.get? b=some o→h'.get? b=some o)→h'.get? B=some (EK "list" out e')→Q .none { s with heap:=h' }) :
  wpAny (model prog w) A (call (.builtin "list.sort") [.ref B]) Q E s:=by
 refine Bz slot_list_sort ⟨_,hB,rfl⟩ entry_list_sort (list_sort_tree hB hI h64 fun out ns' a1 a2 a3=>⟨_,rfl,?_⟩) (args_list_sort _);refine Bp (sortedHeap_at (out:=out) hB) ?_;intro e' he;refine h out ns' _ e' a1 a2 a3 (fun b o hb eb=>?_) he;have hlt:=AZ eb;rw [sortedHeap_old hb hlt];exact eb
theorem NC {v:Value}{G:List Value→A4→Prop}{Q:Value→A4→Prop}
  (hcol:∀(Q':List Value→A4→Prop) (E':Value→A4→Prop),(∀vs s',G vs s'→Q' vs s')→wpAny (model prog w) A.in1 (collect v) Q' E' s)
  (hG:∀vs s',G vs s'→(∃ks',CJ vs ks')∧vs.length<64)
  (h:∀vs s₁ ks' (out:Array Value) ss h' e,G vs s₁→CJ vs ks'→CJ out.toList ss→ss.Perm ks'→ss.Pairwise (·≤·)→(∀b o,s₁.heap.get? b=some o→h'.get? b=some o)→h'.get? s₁.heap.objs.size=some (EK "list" out e)→Q (.ref s₁.heap.objs.size) { s₁ with heap:=h' }) :
  wpAny (model prog w) A (call (.builtin "sorted") [v]) Q E s:=by
 refine Calls.call_function_entry kind_sorted plain_sorted entry_sorted (args_sorted1 _) ?_;unfold Builtin.«sorted»;refine A2 (m:=checkCount "sorted" 1 1 _) (AC ?_);refine A2 (hcol _ _ fun vs s₁ hg=>?_);refine (let G9:Prop:=_;(?_:G9));obtain ⟨⟨ks',hS⟩,h64⟩:=hG vs s₁ hg;refine (?_:wpAny _ _ _ _ _ _);refine A2 (wpAny_newList ?_);have hoL:(s₁.heap.push (EK "list" vs.toArray 0)).get? s₁.heap.objs.size=some (EK "list" vs.toArray 0):=Aa _ rfl;show wpAny _ _ _ _ _ { s₁ with heap:=s₁.heap.push (EK "list" vs.toArray 0) };refine A2 (Ak (Kp (s:={ s₁ with heap:=s₁.heap.push (EK "list" vs.toArray 0) }) hoL hS h64 fun out ss h' e a1 a2 a3 hk he=>?_));refine AC ⟨_,rfl,h vs s₁ ks' _ ss _ e hg hS a1 a2 a3 (fun b o eb=>?_) he⟩;exact hk b o (A7 (AZ eb)) (AE _ eb)
variable {h₀:Heap}{L:Addr}{m:Str→Option Value}{news:List (Addr×Obj)}
theorem Ko {a:Addr}{o:Obj}{ks:List Int}{Q:Value→A4→Prop}(hh:A.handled=none)(F:Fr h₀ L s.heap m)(N:News h₀ L s.heap news)(hm:(a,o)∈news)(hS:SetS prog w o ks)(hz:ks.length<64)
  (h:∀l h' tk d vs ss ep,Fr h₀ L h' m→News h₀ L h' ((l,A1 vs ep)::news)→(∀p∈news,p.1<l)→CJ vs.toList ss→ss.Perm ks→ss.Pairwise (·≤·)→Q (.ref l) { s with heap:=h',toks:=tk,drawn:=d }) :
  wpAny (model prog w) A (call (.builtin "sorted") [.ref a]) Q E s:=by
 refine NC (G:=fun vs s'=>∃ks' h' d tk,s' = { s with heap:=h',drawn:=d,toks:=tk }∧(∀b o,s.heap.get? b=some o→h'.get? b=some o)∧CJ vs ks'∧ks'.Perm ks) (fun Q' E' hq=>?_) ?_ ?_
 ·exact Nr hh (N _ hm).1 hS (by lia) fun vs ks' h' d tk hk h1 h2=>hq vs _ ⟨ks',h',d,tk,rfl,hk,h1,h2⟩
 ·rintro vs s' ⟨ks',h',d,tk,rfl,hk,h1,h2⟩;exact ⟨⟨ks',h1⟩,by have:=h1.length;have:=h2.length_eq;lia⟩
 rintro vs s₁ ks₁ out ss h₂ e ⟨ks',h',d,tk,rfl,hk,h1,h2⟩ hv ho hp hs hk₂ hat;have hks:ks₁.Perm ks:=by
  have:ks₁=ks':=by rw [←hv.nums,←h1.nums]
  rw [this];exact h2
 have up:∀b o,s.heap.get? b=some o→h₂.get? b=some o:=fun b o e=>hk₂ b o (hk b o e);refine h h'.objs.size h₂ tk d out ss e (F.keeps up) (fun p hp=>?_) (fun p hp=>?_) ho (hp.trans hks) hs
 ·refine AQ hp ?_ fun hp=>?_
  ·refine ⟨hat,?_,?_⟩
   ·intro q;have q':h'.objs.size=L:=q;exact Av _ (q'▸(F.keeps hk).ns.lt)
   exact Cz (Am (F.keeps hk).above (Be (F.keeps hk).ns.lt))
  exact ⟨up _ _ (N p hp).1,(N p hp).2⟩
 exact AZ (hk _ _ (N p hp).1)
theorem TA {vs:List Value}{ns:List Int}(hl:vs.length=ns.length)(h:∀(j:Nat)(v:Value),vs[j]? = some v→∃t n,ns[j]? = some n∧v = .int n t):CJ vs ns:=by
 induction vs generalizing ns with
 | nil=>
  cases ns with
  | nil=>exact .nil
  | cons n ns=>cases hl
 | cons v vs ih=>
  cases ns with
  | nil=>cases hl
  | cons n ns=>
   refine HA (h 0 v rfl) ?_;intro t n' e1 e2;have e3:n=n':=BM e1;subst e3 e2;exact .cons n t (ih (Nat.succ.inj hl) fun j v hv=>h (j+1) v hv)
theorem Jy {d:Addr}{o:Obj}{kvs:List (Int×Value)}{Q:Value→A4→Prop}(hh:A.handled=none)(F:Fr h₀ L s.heap m)(N:News h₀ L s.heap news)(hm:(d,o)∈news)(hd:o.IsDictOf (AM prog w) kvs)(lo:(d==BV)=false)(hz:kvs.length<64)
  (h:∀l h' tk vs ss ep,Fr h₀ L h' m→News h₀ L h' ((l,A1 vs ep)::news)→(∀p∈news,p.1<l)→CJ vs.toList ss→ss.Perm (kvs.map (·.1))→ss.Pairwise (·≤·)→Q (.ref l) { s with heap:=h',toks:=tk }) :
  wpAny (model prog w) A (call (.builtin "sorted") [.ref d]) Q E s:=by
 refine I0 (id hd) ?_;intro es ep r;have hat:s.heap.DictAt (AM prog w) d kvs ep:=⟨o,es,(N _ hm).1,r⟩;refine kdu_sorted (kdl_dict (knd:=AM prog w) (kvs:=kvs) (ep:=ep) lo) hh F N hat (kdl_size (by lia)) fun B h' tk vs F' N' l1 hl hv=>?_;have hI:CJ vs (kvs.map (·.1)):=TA (by rw [hl,AB]) fun j v e=>by
  refine HA (hv j v e) ?_;intro k x hx hk;refine Bp (L9 hk) ?_;intro t e91;subst e91;exact ⟨t,k,by rw [AX,hx];rfl,rfl⟩
 refine Kp (s:={ s with heap:=h',toks:=tk }) (N' _ (.head _)).1 hI (by lia) fun out ss h2 e' a1 a2 a3 hk he=>?_;have hBL:=(N' _ (.head _)).2.1;refine h B h2 tk out ss e' ⟨F'.ns.at' fun o' e=>hk L o' (Ne.symm hBL) e,fun b o' e=>hk b o' (fun q=>by rw [q,(N' _ (.head _)).2.2] at e;cases e) (F'.keep b o' e),F'.above⟩ (fun p hp=>?_) l1 a1 a2 a3;refine AQ hp ⟨he,(N' _ (.head _)).2⟩ fun hp=>?_;exact ⟨hk _ _ (A7 (l1 p hp)) (N' p (.tail _ hp)).1,(N' p (.tail _ hp)).2⟩
theorem Ks {v d:Addr}{o:Obj}{l:List DE}{Q:Value→A4→Prop}(hh:A.handled=none)(F:Fr h₀ L s.heap m)(N:News h₀ L s.heap news)(hv:(v,{ cls:=.type "dict_values",data:=.fields #[.ref d] })∈news)(hm:(d,o)∈news)(hd:o.IsDictOf (AM prog w) (kvD l))(hz:l.length≤1000)
  (h:∀S h' tk oS ks,Fr h₀ L h' m→News h₀ L h' ((S,oS)::news)→(∀p∈news,p.1<S)→SetS prog w oS ks→ks.length≤l.length→(∀x,x∈ks↔∃e∈l,e.v=x)→Q (.ref S) { s with heap:=h',toks:=tk }) :
  wpAny (model prog w) A (call (.type "set") [.ref v]) Q E s:=by
 refine I0 (id hd) ?_;intro es ep r;have hat:s.heap.DictAt (AM prog w) d (kvD l) ep:=⟨o,es,(N _ hm).1,r⟩;have hkl:(kvD l).length=l.length:=by unfold kvD;rw [AB]
 have hv':s.heap.IsValuesView v d:=⟨_,(N _ hv).1,rfl,rfl⟩;have hat':∀{i:Nat} {k:Int} {x:Value},(kvD l)[i]? = some (k,x)→∃e,l[i]? = some e∧x = .int e.v e.t:=fun {i k x} hx=>by
  unfold kvD at hx;rw [AX] at hx
  cases he:l[i]? with
  | none=>rw [he] at hx;cases hx
  | some e=>rw [he] at hx;exact ⟨e,rfl,(congrArg Dw (BM hx)).symm⟩
 refine It (fun i=>((l[i]?).map (·.v)).getD 0) hh hv' hat (fun i x ⟨k,hx⟩=>?_) (by unfold Dp;lia) fun h' tk oS ks a1 a2 a3 a4 a5=>?_
 ·refine Aq (hat' hx) ?_;intro e he e92;subst e92;exact ⟨e.t,by rw [he];rfl⟩
 have hLlt:L<s.heap.objs.size:=F.ns.lt;refine h _ h' tk oS ks ⟨F.ns.at' fun o' e=>a5 L o' hLlt e,fun b o' e=>a5 b o' (AZ (F.keep b o' e)) (F.keep b o' e),F.above⟩ (fun p hp=>?_) (fun p hp=>AZ (N p hp).1) a2 (by rw [←hkl];exact a3) (fun x=>?_)
 ·refine AQ hp ⟨a1,AN hLlt,?_⟩ fun hp=>?_
  ·cases hq:h₀.get? s.heap.objs.size with
   | none=>rfl
   | some o'=>exact absurd (AZ (F.keep _ _ hq)) (Av _)
  exact ⟨a5 _ _ (AZ (N p hp).1) (N p hp).1,(N p hp).2⟩
 rw [a4 x,hkl]
 constructor
 ·rintro ⟨j,hj,e⟩;have hj':l[j]? = some l[j]:=Ax hj;rw [hj'] at e;exact ⟨l[j],Fo hj,e⟩
 rintro ⟨e,he,rfl⟩;obtain ⟨j,hj,ej⟩:=LW he;exact ⟨j,hj,by rw [Ax hj,ej];rfl⟩
end
noncomputable def wPl (ns:List Nat)(w n:Nat):List Int:=(DH n).map fun (k:Nat)=>4*(w:Int)+(k:Int)
noncomputable def Mx (ns:List Nat)(i:Nat):List Int:=(DH i).flatMap fun w=>wPl ns w (ns.getD w 0)
noncomputable def Br (ns:List Nat):List Int:=Mx ns 3
noncomputable def Kg (f:Int→Int)(pq:Int×Int)(k:Int):Int:=if f k=f pq.2 then f pq.1 else f k
noncomputable def I4 (ms:List (Int×Int)):Int→Int:=ms.foldl Kg id
noncomputable def deP (e:DE):Int×Int:=(e.k,e.v)
structure KJ where
 l:List DE
 o:Obj
theorem IL (ns:List Nat)(i:Nat):Mx ns (i+1)=Mx ns i++wPl ns i (ns.getD i 0):=by
 unfold Mx;rw [J5,Cy,List.flatMap_singleton]
theorem MU (ns:List Nat)(i j:Nat):wPl ns i (j+1)=wPl ns i j++[4*(i:Int)+(j:Int)]:=by
 unfold wPl;rw [J5,AI];rfl
theorem wPl_mem {ns:List Nat}{w n:Nat}{k:Int}:k∈wPl ns w n↔∃j,j<n∧k=4*(w:Int)+(j:Int):=by
 unfold wPl;rw [List.mem_map]
 constructor
 ·rintro ⟨j,hj,rfl⟩;exact ⟨j,List.mem_range.mp hj,rfl⟩
 rintro ⟨j,hj,rfl⟩;exact ⟨j,List.mem_range.mpr hj,rfl⟩
theorem upPl_mem {ns:List Nat}{i:Nat}{k:Int}:k∈Mx ns i↔∃w,w<i∧∃j,j<ns.getD w 0∧k=4*(w:Int)+(j:Int):=by
 unfold Mx;rw [List.mem_flatMap]
 constructor
 ·rintro ⟨w,hw,h⟩;exact ⟨w,List.mem_range.mp hw,wPl_mem.mp h⟩
 rintro ⟨w,hw,h⟩;exact ⟨w,List.mem_range.mpr hw,wPl_mem.mpr h⟩
theorem Rk {ns:List Nat}(h4:∀w,ns.getD w 0≤4){i j:Nat}:4*(i:Int)+(j:Int)∉Mx ns i++wPl ns i j:=by
 intro hm;rcases Cf.mp hm with h | h
 ·obtain ⟨w,hw,j',hj',e⟩:=upPl_mem.mp h;have:=h4 w;lia
 refine Aq (wPl_mem.mp h) ?_;intro j' hj' e;lia
theorem IF {ns:List Nat}(h4:∀w,ns.getD w 0≤4):∀i,(Mx ns i).length≤4*i:=by
 intro xX
 induction xX with
 | zero=>
  exact B0 _
 | succ i iH=>
  rw [IL,Ai];have:=iH;have h:=h4 i;have e:(wPl ns i (ns.getD i 0)).length=ns.getD i 0:=by unfold wPl;rw [AB,FH]
  rw [e];lia
noncomputable def idP (k:Int):Int×Int:=(k,k)
theorem GS {l:List DE}{f:Int→Int×Int}{ks:List Int}(h:l.map deP=ks.map f)(hf:∀k,(f k).1=k):l.map (·.k)=ks:=by
 have:=congrArg (Tr Ci) h;rw [Ao,Ao] at this;have e:(Ci∘f)=id:=by funext k;exact hf k
 rw [e,List.map_id] at this;exact this
theorem Hp {K:Type} [DecidableEq K] {prog:AY}{w:World}{knd:KeyKind prog w K}:(Fk [] 0).IsDictOf knd []:=by
 refine Aq (Heap.dictOf_iff.mp (Heap.DictOf.new (knd:=knd) {})) ?_;intro o ho hd;rw [Aa _ rfl] at ho;cases (BM ho);exact hd
theorem V4 {P:Nat→Prop}:(∀{i:Nat},i<3→P i)↔P 0∧P 1∧P 2:=by
 refine ⟨fun h=>⟨h (by decide),h (by decide),h (by decide)⟩,fun h i hi=>?_⟩
 cases i with
 | zero=>exact h.1
 | succ i=>
  cases i with
  | zero=>exact h.2.1
  | succ i=>
   cases i with
   | zero=>exact h.2.2
   | succ i=>exact absurd hi (Nat.not_lt.mpr (J4 3 i))
theorem SC {x y z:Str}{t1 t2 t3:Tok}{i:Nat}(hi:i<3):∃u tu,(#[AD x t1,.str y t2,.str z t3]:Array Value)[((i:Int)).toNat]? = some (.str u tu)∧u.length=[x.length,y.length,z.length].getD i 0:=by
 revert i;rw [V4];exact ⟨⟨x,t1,rfl,rfl⟩,⟨y,t2,rfl,rfl⟩,z,t3,rfl,rfl⟩
theorem Oj {ns:List Nat}(h4:∀w,ns.getD w 0≤4){i:Nat}(h:(Mx ns i).Nodup):∀j,(Mx ns i++wPl ns i j).Nodup:=by
 intro xX
 induction xX with
 | zero=>
  rw [show wPl ns i 0=[] from rfl,C5];exact h
 | succ j iH=>
  rw [MU,←BP];refine CZ.mpr ⟨iH,Ce.mpr ⟨Au,CY⟩,fun a ha b hb e=>?_⟩;rw [e,ms1 hb] at ha;exact Rk h4 ha
theorem GL {ns:List Nat}(h4:∀w,ns.getD w 0≤4):∀i,(Mx ns i).Nodup
 | 0=>CY
 | i+1=>by rw [IL];exact Oj h4 (GL h4 i) _
theorem KO {l:List DE}{pls:List Int}{f:Int→Int}(h:l.map deP=pls.map fun k=>(k,f k)):(∀e∈l,e.k∈pls∧e.v=f e.k)∧∀k∈pls,∃e∈l,e.k=k∧e.v=f k:=by
 constructor
 ·intro e he;have:deP e∈pls.map fun k=>(k,f k):=by rw [←h];exact mm2 ⟨e,he,rfl⟩
  refine Aq (mm1 this) ?_;intro k hk e9;have e1:k=e.k:=congrArg Ci e9;have e2:f k=e.v:=congrArg Dw e9;rw [←e1];exact ⟨hk,e2.symm⟩
 intro k hk;have:(k,f k)∈l.map deP:=by rw [h];exact mm2 ⟨k,hk,rfl⟩
 refine Aq (mm1 this) ?_;intro e he e9;exact ⟨e,he,congrArg Ci e9,congrArg Dw e9⟩
theorem KD {l:List DE}{i:Nat}{k:Int}{x:Value}(h:(kvD l)[i]? = some (k,x)):∃e,l[i]? = some e∧e.k=k:=by
 unfold kvD at h;rw [AX] at h
 cases he:l[i]? with
 | none=>rw [he] at h;cases h
 | some e=>rw [he] at h;exact ⟨e,rfl,congrArg Ci (BM h)⟩
inductive KdJ (L':Addr)(m₀:Str→Option Value)(G':List (Addr×Obj))(W:Obj→List (Int×Value)→Prop)(pls:List Int)(f:Nat→Int→Int)(i:Nat)(m:Str→Option Value)(nx:List (Addr×Obj)):Prop
 | mk (D:Addr) (oC oD oP oQ:Obj) (l:List DE) (vP vQ:Option Value) (hm:m=m₀) (hn:nx=(L'+1+1,oC)::(D,oD)::(L'+1+1+1+1,oQ)::(L'+1+1+1,oP)::G') (dC:oC.data = .cell (some (.ref D))) (dP:oP.data = .cell vP) (dQ:oQ.data = .cell vQ)
   (hd:W oD (kvD l)) (lo:(D==BV)=false) (hl:l.map deP=pls.map fun k=>(k,f i k)) (h2:D≠L'+1+1) (h3:D≠L'+1+1+1) (h5:D≠L'+1+1+1+1) (h0:D≠L') (hG:∀p∈G',p.1≠D):KdJ L' m₀ G' W pls f i m nx
theorem Rv {prog:AY}{w:World}{A:AO}{E':Value→A4→Prop}{s0:A4}{hh h₀:Heap}{tk0:Nat}{L C D I:Addr}{m m₃:Str→Option Value}{own nw post:List (Addr×Obj)}{l l2:List DE}{b:DE}{j:Nat}{g:DE→Int×Int}{oC oD:Obj}{v9:Int}{tb t9:Tok}
  (F:Fr h₀ L hh m) (N:News h₀ L hh ((C,oC)::(D,oD)::post)) (hn:Bu oC m₃) (hd:oD.IsDictOf (AM prog w) (kvD l2)) (hCD:C≠D) (h2:∀q∈post,q.1≠D) (hnew:∀a∈l2,a.k≠b.k) (hlen:l2.length≤12) (h3:∀p∈(D,oD)::nw,¬p.1∈[C,I]) (s1:∀q∈nw,q∈post) (s2:∀q∈own,q∈post)
  (hb:l[j]? = some b) (q9:l2.map deP=(l.take j).map g) (hv:(b.k,v9)=g b) :
  wpAny (model prog w) A (dictSet D (.int b.k tb) (.int v9 t9)) (fun _ s4=>HF h₀ L m C [I] own (fun c:KJ=>(D,c.o)::nw) (fun j c _=>c.o.IsDictOf (AM prog w) (kvD c.l)∧c.l.map deP=(l.take j).map g) (j+1) s0 s4) E' { s0 with heap:=hh,toks:=tk0 }:=by
 refine S2 (pre:=[(C,oC)]) F N hd (BH _ _ _ _) (fc1 ⟨hCD,AA _⟩) h2 (Bw (by unfold kvD;rw [AB];lia)) fun h12 o12 F12 N12 hd12=>?_;rw [Oz hnew] at hd12;refine HY (⟨l2++[⟨b.k,v9,t9⟩],o12⟩:KJ) F12 N12 (oC:=oC) (m':=m₃) (.head _) hn (fun q hq=>?_) (fun q hq=>mT2 (s2 q hq)) (fun q hq hm=>?_) ⟨hd12,?_⟩
 ·exact AH hq mH1 fun hq=>mT2 (s1 q hq)
 ·rcases mc1 hq with rfl | hq
  ·exact h3 (D,oD) (.head _) hm
  exact h3 q (.tail _ hq) hm
 rw [CB,hb,AI,AI,q9,show (some b).toList.map g=[g b] from rfl,←hv];rfl
set_option tactic.hygienic true in
theorem Pa (w:World)(p:AY)(lo:List Str)(mean:CG→Option Value)(mg mb:Str→Option Value)
  (gd:Option (List Code)) (cn:Str) (cs:Scope) (a:Addr) (ccd:Value) (cl:List (Str×Addr)) (outer:List Env) (A₀:AO) (base h₀:Heap) (L:Addr) (m:Str→Option Value) (G:List (Addr×Obj)) (s:A4)
  (lw lm:Addr) (ew em:Nat) (x y z:Str) (t1 t2 t3:Tok) (ps:List PT) (Q E:Value→A4→Prop)
  (B:Below A₀ base outer h₀) (F:Fr h₀ L s.heap m) (X:(Mine.K w.params).In h₀) (N:News h₀ L s.heap G) (T:Top p lo mean mg mb h₀) (hk:cs.kind = .function)
  (hW:(lw,A1 #[.str x t1,.str y t2,.str z t3] ew)∈G) (hM:(lm,A1 (BZ ps).toArray em)∈G) (gM:∀e∈ps,(e.a,CP e)∈G)
  (hx:x.length≤4) (hy:y.length≤4) (hz:z.length≤4) (bM:∀e∈ps,e.i∈Br [x.length,y.length,z.length]∧e.j∈Br [x.length,y.length,z.length])
  (hret:∀D o l h' tk',o.IsDictOf (AM rw_nq0317_02.prog w) (kvD l)→l.map deP=(Br [x.length,y.length,z.length]).map (fun k=>(k,I4 (ps.map ptP) k))→(D==BV)=false→(∀p∈G,p.1≠D)→
   Fr h₀ L h' m→News h₀ L h' ((D,o)::G)→Q (.ref D) { s with heap:=h',toks:=tk' }) :
  wpAny (model (rw_nq0317_02.prog) w) (Bi 340 400 gd cn cs L a ccd cl outer) (call (.ref 388) [.ref lw,.ref lm]) Q E s:=by
 k_with "+36" =>skip
 k_with "36" =>(fail_if_success k_extra "+37")
 k_with "k" =>k_extra "36"
 k_with "bd" =>k_extra "36"
 k_with "be" =>k_extra "36"
 k_with "ao" =>k_extra "36"
 k_with "bf" =>k_extra "36"
 k_with "eval DictComp" =>(k_extra "36";refine Af ?_)
 k_with "by" =>k_extra "36"
 have N0:News h₀ L s.heap ((lw,A1 #[.str x t1,.str y t2,.str z t3] ew)::G):=Bo N (A6 hW fun q hq=>hq);clear N;revert X
 k_fill
 intro X;refine BN ?_
 k_dflt (refine' code_defC (binds:=[(A0 "words",.ref lw),(A0 "matches",.ref lm)]) ?k1 ?k2 ?k3 ?k4 ?k5 ?kA ?kF ?kK ?k6 ?k7 ?k8 ?k9 ?kB ?kD ?_ ?c2 ?c3 ?c4;(case kA=>exact rfl);(case kF=>exact rfl);(case kK=>assumption);(case k1=>k_asm);(case k2=>k_asm);(case k3=>k_asm);(case k4=>k_asm);(case k5=>k_asm);(case k6=>k_is);(case k7=>k_is);(case k8=>ktr_room);(case k9=>exact CA rfl);(case kB=>exact rfl);(case kD=>decide +kernel);(case c2=>exact rfl);(case c3=>exact rfl);(case c4=>exact rfl);k_whole;intro g' L' h' tk' cells' FG' F' N' Y' B' X' T' l1;k_cells Y';(try simp only [BJ,BS] at N');(try dsimp only);(try k_fold))
 refine (let A9:AO:=_;let E9:Value→A4→Prop:=_;(?_:wpAny _ A9 _ _ E9 _));refine (let cA:Addr:=L'+1;let cB:Addr:=L'+1+1;let cC:Addr:=L'+1+1+1;let cD:Addr:=L'+1+1+1+1;?_);rename_i o1 o2 o3 o4 d1 d2 d3 d4;have d1':o1.data = .cell none:=d1;have d2':o2.data = .cell none:=d2;have d3':o3.data = .cell none:=d3;have d4':o4.data = .cell (some (.ref lw)):=d4;clear d1 d2 d3 d4;refine (let m1:Str→Option Value:=fun z=>if z=A0 "matches" then some (.ref lm) else none;?_);have F1:Fr g' L' h' m1:=F';clear F';rename News g' L' _ _=>N1;have h4:∀w,[x.length,y.length,z.length].getD w 0≤4:=by
  intro w
  match w with
  | 0=>exact hx
  | 1=>exact hy
  | 2=>exact hz
  | (n+3)=>exact B0 _
 refine CV [x.length,y.length,z.length] ?_;intro ns hns;k_steps;refine ⟨?_⟩;refine PZ (h₀:=g') (L:=L') (m:=m1) (by with_unfolding_all rfl) (by decide) (by rfl) (by decide) ?_;k_steps;refine ⟨?_⟩;rename Fr _ _ _ _=>F6;rename News _ _ _ _=>N6;rename OE _ _ _ _ _ _ _ _=>hR;have hmod:(1:Nat)<g'.objs.size:=modules_low T'.nolimit;refine CV ((cD,o1)::(cC,o2)::(cB,o3)::(cA,o4)::(lw,A1 #[AD x t1,.str y t2,.str z t3] ew)::G) ?_;intro nw hnw;have hcW:(cA,o4)∈nw:=by rw [hnw];exact mH3
 have hlW:(lw,A1 #[AD x t1,.str y t2,.str z t3] ew)∈nw:=by rw [hnw];exact mH4
 refine KR (σ:=KJ) (.dict _ _ _ _ _) (fun I D C=>RE) rfl rfl (IR (n:=3) rfl hR rfl rfl) F6 (hnw▸N6) (fun hm=>nomatch hm)
  (fun D c=>(D,c.o)::nw) (fun D i c m₁=>c.o.IsDictOf (AM rw_nq0317_02.prog w) (kvD c.l)∧c.l.map deP=(Mx ns i).map idP) (fun D oD=>⟨[],oD⟩) (fun D oD ho=>rfl) (fun D oD ho=>⟨by subst ho;exact Hp,rfl⟩) ?Dz ?cdone
 case Dz=>
  intro C2 D3 I i v c oC m₁ h t7 own2 E' hDC hCI hDI hoff hi3 hv1 hP hnw4 hown hof hn F2 N2;refine CL hP ?_;(try clear hP);intro q1 q2;obtain ⟨l,oD⟩:=c;dsimp only at q1 q2 N2;refine Bp hv1.2 ?_;intro tw e92;subst e92;have ew1:(0:Int)+(i:Int)*1=(i:Int):=by lia
  rw [ew1] at hn;refine CV (α:=Str→Option Value) (fun y=>if y=A0 "w" then some (A5 i tw) else m₁ y) ?_;intro m₃ hm₃;have hkw:m₃ (A0 "w")=some (A5 i tw):=by rw [hm₃];rfl
  rw [←hm₃] at hn;refine CV (nw++own2) ?_;intro tlx htlx;have hnwx:∀q∈nw,q∈tlx:=fun q hq=>htlx▸maL _ hq;have N7:News g' L' h ((C2,oC)::(D3,oD)::(cA,o4)::(lw,A1 #[AD x t1,.str y t2,.str z t3] ew)::tlx):=Bo N2 (A6 (.head _) (A6 mH1 (A6 (mT2 (maL _ hcW)) (A6 (mT2 (maL _ hlW)) fun q hq=>mT2 (by rw [htlx] at hq;exact hq)))));have hCx:∀q∈tlx,q.1≠C2∧q.1≠D3:=by
   intro q hq;rw [htlx] at hq;refine AF hq (fun hq=>⟨(hoff q hq).1,(hoff q hq).2.1⟩) fun hq=>?_;rcases hof q hq with e2 | e2
   ·exact ⟨e2▸hCI,e2▸hDI⟩
   cases e2
  clear N2 N6 F6;refine Cn ?_;k_steps;refine KE (by intro _;with_unfolding_all rfl) ?_;k_steps;refine ⟨?_⟩;rename Fr _ _ _ _=>F8;rename News _ _ _ _=>N8;refine HA (SC (x:=x) (y:=y) (z:=z) (t1:=t1) (t2:=t2) (t3:=t3) hi3) ?_;intro u tu hu hul;rw [←hns] at hul;have hu4:u.length≤4:=by
   have:=h4 i;rw [←hns] at this;lia
  refine JD N8 mH3 (Ag _) (by lia) hu ?_;k_steps;rename Fr _ _ _ _=>F8;rename News _ _ _ _=>N8;rename OE _ _ _ _ _ _ _ _=>hR2;refine ⟨?_⟩;refine CV ((cA,o4)::(lw,A1 #[AD x t1,.str y t2,.str z t3] ew)::tlx) ?_;intro tly htly;refine Pc (σ:=KJ) (.dict _ _ _ _ _) rfl rfl (fun I=>PX) rfl rfl (IR (n:=u.length) rfl hR2 (small_one (by lia) (by lia) (by lia) (by lia)) (by rw [rangeSize_nat];lia)) (fun hm=>nomatch hm) (fun hm=>nomatch hm)
   (fun c=>(D3,c.o)::tlx) (fun j c m₁=>c.o.IsDictOf (AM rw_nq0317_02.prog w) (kvD c.l)∧c.l.map deP=(Mx ns i++wPl ns i j).map idP∧m₁ (A0 "w")=some (.int i tw)) ⟨l,oD⟩ F8 (Bo N8 (A6 (.head _) (A6 mH1 fun q hq=>mT4 hq))) hn
   (fun q hq=>AQ hq hDC fun hq=>(hCx q hq).1) ⟨q1,by rw [show wPl ns i 0=[] from rfl,C5];exact q2,hkw⟩ ?turn2 ?done2
  case turn2=>
   intro I2 j v c oC₂ m₂ h₂ t8 own3 E₂ hI2C hI2 hj hv2 hP2 hnw5 hown3 hof3 hn2 F9 N9;obtain ⟨l2,oD2⟩:=c;refine Dj hP2 ?_;(try clear hP2);intro p1 p2 p3;dsimp only at p1 p2 N9 hnw5;refine Bp hv2.2 ?_;intro tk9 e92;subst e92;have ej1:(0:Int)+(j:Int)*1=(j:Int):=by lia
   rw [ej1] at hn2;refine CV (α:=Str→Option Value) (fun y=>if y=A0 "k" then some (A5 j tk9) else m₂ y) ?_;intro m₄ hm₄;have hkw4:m₄ (A0 "w")=some (A5 i tw):=by rw [hm₄];exact p3
   have hkk4:m₄ (A0 "k")=some (A5 j tk9):=by rw [hm₄];rfl
   rw [←hm₄] at hn2;clear N8 F8;refine CV (tlx++own3) ?_;intro tlz htlz;have N10:News g' L' h₂ ((C2,oC₂)::(D3,oD2)::tlz):=by rw [htlz];exact N9
   clear N9;have hDz:∀q∈tlz,q.1≠D3:=by
    intro q hq;rw [htlz] at hq;refine AF hq (fun hq=>(hCx q hq).2) fun hq=>?_;rcases hof3 q hq with e2 | e2
    ·exact e2▸(hI2 (D3,oD) (.head _)).symm
    cases e2
   refine Cn ?_;k_steps;refine Mp ?_;k_with "ca" =>k_extra "36"
   k_steps;rename Fr _ _ _ _=>F11;rename News _ _ _ _=>N11;refine ⟨?_⟩;have hlen:l2.length≤4*i+j:=by
    have:=congrArg Bk p2;rw [AB,AB,Ai] at this;have h9:=IF (by rw [hns];exact h4) (ns:=ns) i;have e9:(wPl ns i j).length=j:=by unfold wPl;rw [AB,FH]
    lia
   have hnew:∀e∈l2,e.k≠4*(i:Int)+(j:Int):=by
    intro e he e9;have:=GS p2 (fun k=>rfl);exact Rk (ns:=ns) (by rw [hns];exact h4) (i:=i) (j:=j) (by rw [←e9,←this];exact mm2 ⟨e,he,rfl⟩)
   refine S2 (pre:=[(C2,oC₂)]) F11 N11 p1 (BH _ _ _ _) (fc1 ⟨hDC.symm,AA _⟩) hDz (Bw (by unfold kvD;rw [AB];lia)) fun h12 o12 F12 N12 hd12=>?_;rw [Oz hnew] at hd12;clear F11 N11;show HF _ _ _ _ _ _ _ _ _ _ _;refine HY (⟨l2++[⟨4*(i:Int)+(j:Int),4*(i:Int)+(j:Int),_⟩],o12⟩:KJ) F12 N12 (oC:=oC₂) (m':=m₄) (.head _) hn2 (fun q hq=>?_) (fun q hq=>?_) (fun q hq hm=>?_) ⟨hd12,?_,hkw4⟩
   ·dsimp only at hq;refine AH hq mH1 fun hq=>mT2 (htlz▸maL _ hq)
   ·exact mT2 (by rw [htlz];exact maR _ hq)
   ·dsimp only at hq;rcases mc1 hq with rfl | hq
    ·exact hnw5 (D3,oD2) (.head _) hm
    exact hnw5 q (.tail _ hq) hm
   dsimp only;rw [MU,←BP,AI,AI,p2];rfl
  intro c oC₂ m₂ h₂ tk₂ hP2 F9 N9 hn2 hnw5;obtain ⟨l2,oD2⟩:=c;refine Dj hP2 ?_;(try clear hP2);intro p1 p2 p3;dsimp only at p1 p2 N9 hnw5;rw [hul,←IL] at p2;show HF _ _ _ _ _ _ _ _ _ _ _;refine HY (⟨l2,oD2⟩:KJ) F9 N9 (oC:=oC₂) (m':=m₂) (.head _) hn2 (fun q hq=>?_) (fun q hq=>?_) (fun q hq hm=>?_) ⟨p1,p2⟩
  ·exact AH hq mH1 fun hq=>mT2 (hnwx q hq)
  ·exact mT2 (by rw [htlx];exact maR _ hq)
  rcases mc1 hq with rfl | hq
  ·exact hnw4 (D3,oD) (.head _) hm
  exact hnw4 q (.tail _ hq) hm
 intro C2 D3 c oC m' h2 tk2 hLD hDC hoff hP F2 N2 hn2 hnw4;show Ec _ _ _ _ _ _ _ _ _;refine Gz F2 N2 hn2 hnw4 fun h3 F3 N3=>?_;obtain ⟨l0,oD0⟩:=c;refine CL hP ?_;(try clear hP);intro q1 q2;dsimp only at q1 q2 N3;clear F2 N2 N6 F6;have lo0:(D3==BV)=false:=by
  have e:BV=1:=rfl;rw [e];exact beq_false_of_ne fun e=>Ix hmod (DG F3.above (e▸hLD))
 rw [hnw] at N3;have N4:News g' L' h3 ((cB,o3)::(D3,oD0)::(cD,o1)::(cC,o2)::(cA,o4)::G):=Bo N3 (A6 mH3 (A6 (.head _) (A6 mH1 (A6 mH2 (A6 mH4 fun q hq=>mT6 hq)))));clear N3;k_steps;rename Fr _ _ _ _=>F5;rename News _ _ _ _=>N5;have h32:cC≠cB:=AN (Al _);have h21:cB≠cA:=AN (Al _);have h31:cC≠cA:=AN (AU (Al _));have h42:cD≠cB:=AN (AU (Al _));have h43:cD≠cC:=AN (Al _);have h41:cD≠cA:=AN (AU (AU (Al _)));have g0:∀p∈(cA,o4)::G,p.1<cB:=fun p hp=>AQ hp (Al _) fun hp=>AU (AU (l1 p (.tail _ hp)));have g2:∀p∈(cA,o4)::G,p.1≠cB:=fun p hp=>A7 (g0 p hp);have g3:∀p∈(cA,o4)::G,p.1≠cC:=fun p hp=>A7 (AU (g0 p hp));have g4:∀p∈(cA,o4)::G,p.1≠cD:=fun p hp=>A7 (AU (AU (g0 p hp)));refine Dg F5 N5 (.head _) d3' rfl fun h6 o36 F6 N6 d36=>?_;have hD2:D3≠cB:=((hoff (cB,o3) (hnw▸mH2)).2).symm;have hD3:D3≠cC:=((hoff (cC,o2) (hnw▸mH1)).2).symm;have hD4:D3≠cD:=((hoff (cD,o1) (hnw▸.head _)).2).symm;have hDG:∀p∈(cA,o4)::G,p.1≠D3:=fun p hp=>(hoff p (hnw▸mT3 (AH hp (.head _) fun hp=>mT2 hp))).2;have N7:=JG (pre:=[]) (suf:=(D3,oD0)::(cD,o1)::(cC,o2)::(cA,o4)::G) N6 (AA _) (fc1 ⟨hD2,fc1 ⟨h42,fc1 ⟨h32,g2⟩⟩⟩);rw [BS] at N7;clear F5 N5 N6;k_steps;refine ⟨?_⟩;refine ED ?_ (by intro _;with_unfolding_all rfl);k_steps;refine ⟨?_⟩;rename Fr _ _ _ _=>F8;rename News _ _ _ _=>N8;refine L4 (l:=lm) (items:=(BZ ps).toArray) (ep:=em) Jc rfl (by passes_own) (KdJ L' m1 ((cA,o4)::G) (fun o kvs=>o.IsDictOf (AM rw_nq0317_02.prog w) kvs) (Br ns) fun i=>I4 ((ps.map ptP).take i)) (fun i m nx h=>by obtain ⟨D,oC,oD,oP,oQ,l,vP,vQ,hm,rfl,_⟩:=h;exact mT5 hM) F8 N8 ⟨D3,o36,oD0,o2,o1,l0,_,_,rfl,rfl,d36,d2',d1',q1,lo0,q2,hD2,hD3,hD4,fun e=>Av _ (e▸hLD),hDG⟩ ?turn ?done
 case turn=>
  clear F8 N8;rintro I i v m₁ nx oI h tk hv ⟨D,oC,oD,oP,oQ,l,vP,vQ,rfl,rfl,dC,dP,dQ,hd,lo,hl,c2,c3,c4,c0,cG⟩ hnI F3 N3;refine Aq (EC hv) ?_;intro e he e92;subst e92;have i2:I≠cB:=(hnI _ (.head _)).symm;have iD:I≠D:=(hnI _ mH1).symm;have i4:I≠cD:=(hnI _ mH2).symm;have i3:I≠cC:=(hnI _ mH3).symm;have iG:∀p∈(cA,o4)::G,p.1≠I:=fun p hp=>hnI p (mT4 hp);have N4:News g' L' h ((cC,oP)::(cD,oQ)::(I,oI)::(cB,oC)::(D,oD)::(e.a,CP e)::(cA,o4)::G):=Bo N3 (A6 mH4 (A6 mH3 (A6 (.head _) (A6 mH1 (A6 mH2 (A6 (mT6 (gM e (AK he))) fun q hq=>mT5 hq))))));clear N3;k_steps;rename Fr _ _ _ _=>F5;rename News _ _ _ _=>N5;have F5':Fr g' L' _ m1:=F5;have N5':News g' L' _ ((cC,oP)::(cD,oQ)::(I,oI)::(cB,oC)::(D,oD)::(cA,o4)::G):=Bo N5 (A6 (.head _) (A6 mH1 (A6 mH2 (A6 mH3 (A6 mH4 fun q hq=>mT6 hq)))));refine Dg F5' N5' (.head _) dP rfl fun h6 oP6 F6 N6 dP6=>?_;have N7:=JG (pre:=[]) N6 (AA _) (fc1 ⟨h43,fc1 ⟨i3,fc1 ⟨h32.symm,fc1 ⟨c3,g3⟩⟩⟩⟩);rw [BS] at N7;refine Dd (Ba (Dg F6 N7 mH1 dQ rfl fun h8 oQ8 F8 N8 dQ8=>?_));refine MM ?_;have N9:=JG (pre:=[(cC,oP6)]) N8 (fc1 ⟨h43.symm,AA _⟩) (fc1 ⟨i4,fc1 ⟨h42.symm,fc1 ⟨c4,g4⟩⟩⟩);rw [BJ,BS] at N9;clear F5 N5 F5' N5' N6 F6 N7 N8;k_steps;refine ⟨?_⟩;refine PZ (h₀:=g') (L:=L') (m:=m1) (by with_unfolding_all rfl) (by decide) (by rfl) (by decide) ?_;k_steps;refine ⟨?_⟩;rename Fr _ _ _ _=>F6;rename News _ _ _ _=>N6;refine CV ((cC,oP6)::(cD,oQ8)::(I,oI)::(cB,oC)::(D,oD)::(cA,o4)::G) ?_;intro nw2 hnw2;have kP:(cC,oP6)∈nw2:=by rw [hnw2];exact .head _
  have kQ:(cD,oQ8)∈nw2:=by rw [hnw2];exact mH1
  have kC:(cB,oC)∈nw2:=by rw [hnw2];exact mH3
  have kD:(D,oD)∈nw2:=by rw [hnw2];exact mH4
  refine CV (I4 ((ps.map ptP).take i)) ?_;intro fi hfi;rw [←hfi] at hl;refine CL (KO hl) ?_;intro hm1 hm2;have hkeys:l.map (·.k)=Br ns:=GS hl fun _=>rfl;have hnd:(l.map (·.k)).Nodup:=by rw [hkeys];exact GL (by rw [hns];exact h4) 3
  have hlen:l.length≤12:=by
   have:=congrArg Bk hkeys;rw [AB] at this;have h9:=IF (by rw [hns];exact h4) (ns:=ns) 3;unfold Br at this;lia
  refine Dn (hm2 e.i (by rw [hns];exact (bM e (AK he)).1)) ?_;intro ep hep ep1 ep2;refine Dn (hm2 e.j (by rw [hns];exact (bM e (AK he)).2)) ?_;intro eq heq eq1 eq2;have vP:BR (kvD l) e.i=some (.int ep.v ep.t):=by rw [←ep1];exact Gg hnd hep
  have vQ:BR (kvD l) e.j=some (.int eq.v eq.t):=by rw [←eq1];exact Gg hnd heq
  refine KR (σ:=KJ) (.dict _ _ _ _ _) (fun I D C=>RF) rfl rfl (Ma rfl (hnw2▸N6) kD hd lo) F6 (hnw2▸N6) (fun hm=>c0 (ms1 hm).symm)
   (fun D c=>(D,c.o)::nw2) (fun D j c m₁=>c.o.IsDictOf (AM rw_nq0317_02.prog w) (kvD c.l)∧c.l.map deP=(l.take j).map fun a=>(a.k,Kg fi (ptP e) a.k)) (fun D oD=>⟨[],oD⟩) (fun D oD ho=>rfl) (fun D oD ho=>⟨by subst ho;exact Hp,rfl⟩) ?cturn2 ?cdone2
  case cturn2=>
   intro C2 D9 I9 j v c oC9 m₁ h t7 own2 E' hDC9 hCI hDI hoff9 hj hv1 hP hnw4 hown hof hn F2 N2;refine CL hP ?_;(try clear hP);intro q8 q9;obtain ⟨l2,oD2⟩:=c;dsimp only at q8 q9 N2;refine HA hv1 ?_;intro kk xx hkx hkv;refine Aq (KD hkx) ?_;intro b hb e92;subst e92;refine Bp (L9 hkv) ?_;intro tb e92;subst e92;have hbl:=AK hb;have vB:BR (kvD l) b.k=some (.int b.v b.t):=Gg hnd hbl;have hbv:=(hm1 b hbl).2;refine CV (α:=Str→Option Value) (fun y=>if y=A0 "place" then some (A5 b.k tb) else m₁ y) ?_;intro m₃ hm₃;have hkp:m₃ (A0 "place")=some (A5 b.k tb):=by rw [hm₃];rfl
   rw [←hm₃] at hn;refine CV (nw2++own2) ?_;intro tlx htlx;have hnwx:∀q∈nw2,q∈tlx:=fun q hq=>htlx▸maL _ hq;have N7:News g' L' h ((C2,oC9)::(D9,oD2)::(D,oD)::(cB,oC)::(cC,oP6)::(cD,oQ8)::tlx):=Bo N2 (A6 (.head _) (A6 mH1 (A6 (mT2 (maL _ kD)) (A6 (mT2 (maL _ kC)) (A6 (mT2 (maL _ kP)) (A6 (mT2 (maL _ kQ)) fun q hq=>mT2 (by rw [htlx] at hq;exact hq)))))));have hCx:∀q∈tlx,q.1≠C2∧q.1≠D9:=by
    intro q hq;rw [htlx] at hq;refine AF hq (fun hq=>⟨(hoff9 q hq).1,(hoff9 q hq).2.1⟩) fun hq=>?_;rcases hof q hq with e2 | e2
    ·exact ⟨e2▸hCI,e2▸hDI⟩
    rw [ms1 e2];exact ⟨(hoff9 _ kD).1,(hoff9 _ kD).2.1⟩
   have hDz:∀q∈(D,oD)::(cB,oC)::(cC,oP6)::(cD,oQ8)::tlx,q.1≠D9:=
    fc1 ⟨(hCx _ (hnwx _ kD)).2,fc1 ⟨(hCx _ (hnwx _ kC)).2,fc1 ⟨(hCx _ (hnwx _ kP)).2,fc1 ⟨(hCx _ (hnwx _ kQ)).2,fun q hq=>(hCx q hq).2⟩⟩⟩⟩
   clear N2 N6 F6;have hlen2:l2.length≤12:=by
    have:=congrArg Bk q9;rw [AB,AB,Bm] at this;lia
   have hnew:∀e∈l2,e.k≠b.k:=by
    intro a ha e9;have hk2:l2.map (·.k)=(l.take j).map (·.k):=by
     have:=congrArg (Tr Ci) q9;rw [Ao,Ao] at this;exact this
    have h1:b.k∈(l.take j).map (·.k):=by rw [←hk2,←e9];exact mm2 ⟨a,ha,rfl⟩
    have hs:(l.map (·.k))=(l.take j).map (·.k)++(l.drop j).map (·.k):=by rw [←AI,List.take_append_drop]
    rw [hs] at hnd;refine (CZ.mp hnd).2.2 _ h1 _ (mm2 ⟨b,?_,rfl⟩) rfl;rw [EX (List.getElem?_eq_some_iff.mp hb).1,(List.getElem?_eq_some_iff.mp hb).2];exact .head _
   refine Cn ?_;k_steps;refine Mp ?_;k_with "ca" =>k_extra "36"
   k_steps;rename Fr _ _ _ _=>F8;rename News _ _ _ _=>N8;refine ⟨?_⟩;refine GH N8 mH2 hd (BH _ _ _ _) vB ?_;k_steps;rename Fr _ _ _ _=>F8;rename News _ _ _ _=>N8;refine ⟨?_⟩;refine GH N8 mH2 hd (BH _ _ _ _) vQ ?_;k_steps
   ·rename b.v=eq.v=>hbq;rename Fr _ _ _ _=>F8;rename News _ _ _ _=>N8;refine ⟨?_⟩;refine GH N8 mH2 hd (BH _ _ _ _) vP ?_;refine Rv F8 N8 hn q8 hDC9.symm hDz hnew hlen2 hnw4 (fun q hq=>mT4 (hnwx q hq)) (fun q hq=>mT4 (by rw [htlx];exact maR _ hq)) hb q9 ?_;dsimp only [Kg,ptP];rw [if_pos (by rw [←hbv,←eq2];exact hbq),←ep2]
   rename b.v≠eq.v=>hbq;rename Fr _ _ _ _=>F8;rename News _ _ _ _=>N8;refine ⟨?_⟩;refine GH N8 mH2 hd (BH _ _ _ _) vB ?_;refine Rv F8 N8 hn q8 hDC9.symm hDz hnew hlen2 hnw4 (fun q hq=>mT4 (hnwx q hq)) (fun q hq=>mT4 (by rw [htlx];exact maR _ hq)) hb q9 ?_;dsimp only [Kg,ptP];rw [if_neg (by rw [←hbv,←eq2];exact hbq),←hbv]
  intro C2 D9 c oC9 m' h2 tk2 hLD9 hDC9 hoff9 hP F2 N2 hn2 hnw4;show Ec _ _ _ _ _ _ _ _ _;refine Gz F2 N2 hn2 hnw4 fun h3 F3 N3=>?_;obtain ⟨l2,oD2⟩:=c;refine CL hP ?_;(try clear hP);intro q8 q9;dsimp only at q8 q9 N3;clear F2 N2 N6 F6;have lo9:(D9==BV)=false:=by
   have e:BV=1:=rfl;rw [e];exact beq_false_of_ne fun e=>Ix hmod (DG F3.above (e▸hLD9))
  rw [BA (by unfold kvD;rw [AB];exact Ap _)] at q9;have q10:l2.map deP=(Br ns).map fun k=>(k,I4 ((ps.map ptP).take (i+1)) k):=by
   rw [q9,←hkeys,Ao];apply Az;intro a _;rw [CB,Fs he,hfi];show _=(a.k,List.foldl Kg id (_++[ptP e]) a.k);rw [FI];rfl
  have d2:D9≠cB:=((hoff9 _ kC).2).symm;have d3:D9≠cC:=((hoff9 _ kP).2).symm;have d5:D9≠cD:=((hoff9 _ kQ).2).symm;have dI:D9≠I:=((hoff9 (I,oI) (hnw2▸mH2)).2).symm;have dG:∀p∈(cA,o4)::G,p.1≠D9:=fun p hp=>(hoff9 p (hnw2▸mT5 hp)).2;have N4:News g' L' h3 ((cB,oC)::(I,oI)::(D9,oD2)::(cD,oQ8)::(cC,oP6)::(cA,o4)::G):=by
   rw [hnw2] at N3;exact Bo N3 (A6 mH4 (A6 mH3 (A6 (.head _) (A6 mH2 (A6 mH1 fun q hq=>mT6 hq)))))
  clear N3;k_steps;rename Fr _ _ _ _=>F5;rename News _ _ _ _=>N5;refine Dg F5 N5 (.head _) dC rfl fun h6 oC6 F6 N6 dC6=>?_;have N7:=JG (pre:=[]) N6 (AA _) (fc1 ⟨i2,fc1 ⟨d2,fc1 ⟨h42,fc1 ⟨h32,g2⟩⟩⟩⟩);rw [BS] at N7;clear F5 N5 N6;k_steps;rename Fr _ _ _ _=>F8;rename News _ _ _ _=>N8;refine ⟨?_⟩;exact ⟨_,_,_,_,rfl,F8,Bo N8 (A6 mH1 (A6 (.head _) fun q hq=>mT2 hq)),(fc1 ⟨i2.symm,fc1 ⟨dI,fc1 ⟨i4.symm,fc1 ⟨i3.symm,iG⟩⟩⟩⟩),⟨D9,oC6,oD2,oP6,oQ8,l2,_,_,rfl,rfl,dC6,dP6,dQ8,q8,lo9,q10,d2,d3,d5,fun e=>Av _ (e▸hLD9),dG⟩⟩
 clear F8 N8;rintro m₁ nx h tk ⟨D,oC,oD,oP,oQ,l,vP,vQ,rfl,rfl,dC,dP,dQ,hd,lo,hl,c2,c3,c4,c0,cG⟩ F3 N3;rw [BA (by unfold BZ;rw [Ae,AB,AB];exact Ap _)] at hl;k_steps;rename News h₀ L _ _=>kN;rename Fr h₀ L _ _=>kF;exact hret D oD l _ _ hd (by rw [hl,hns]) lo (fun p hp=>cG p (.tail _ hp)) kF (Bo kN (A6 mH1 fun q hq=>mT5 hq))
noncomputable def JN (f:Int→Int)(g:Gr)(k:Int):Gr:=if k.fmod 4=0 then KI g (f k) else Ni g (f k) (f (k-1))
noncomputable def gPl (f:Int→Int)(ks:List Int):Gr:=ks.foldl (JN f) []
theorem Qu (f:Int→Int){l:List DE}{i:Nat}{e:DE}(h:l[i]? = some e):gPl f ((l.take (i+1)).map (·.k))=JN f (gPl f ((l.take i).map (·.k))) e.k:=by
 rw [CB,h,AI];unfold gPl;rw [show (some e).toList.map (·.k)=[e.k] from rfl,FI];rfl
theorem K4 {ns:List Nat}(h4:∀w,ns.getD w 0≤4){k:Int}(h:k∈Br ns)(hk:k.fmod 4≠0):k-1∈Br ns:=by
 obtain ⟨w,hw,j,hj,e⟩:=upPl_mem.mp h;have:=h4 w;have h0:(0:Int)≤k:=e▸BQ (Int.mul_nonneg (by decide) (Ag w)) (Ag j);rw [Tu _ (by lia)] at hk;refine upPl_mem.mpr ⟨w,hw,j-1,DG (Nat.sub_le _ _) hj,?_⟩
 cases j with
 | zero=>exact absurd (by rw [e];exact Tt _ _ _) hk
 | succ j=>
  rw [e];show 4*(w:Int)+((j:Int)+1)-1=_;rw [←CC,Gs];rfl
inductive KsJ (w:World)(xa d n2 D:Addr)(od:Obj)(G:List (Addr×Obj))(gs:Nat→Gr)(i:Nat)(m:Str→Option Value)(nx:List (Addr×Obj)):Prop
 | mk (ns:List NI) (oo:Obj) (h1:m (A0 "sorter")=some (.ref xa)) (h2:m (A0 "column")=some (.ref D)) (hn:nx=(xa,AT 362 d)::(d,od)::(n2,oo)::(C3 ns++G))
   (pr:BW ns=gs i) (dic:oo.IsDictOf (AM rw_nq0317_02.prog w) (Da ns)) (nn:(ns.map (·.nm)).Nodup) (nd:(GK xa d n2 ns).Nodup) (off:∀p∈G,p.1∉GK xa d n2 ns) (len:ns.length≤2*i) (scl:∀e∈ns,e.sc.length≤i):KsJ w xa d n2 D od G gs i m nx
noncomputable abbrev KM1 (xa D:Addr)(u:Str→Option Value):Str→Option Value:=fun z=>if z=A0 "sorter" then some (.ref xa) else if z=A0 "column" then some (.ref D) else u z
set_option tactic.hygienic true in
theorem km1 {g h:Heap}{L xa D:Addr}{m:Str→Option Value}(F:Fr g L h m)(h1:m (A0 "sorter")=some (.ref xa))(h2:m (A0 "column")=some (.ref D)):Fr g L h (KM1 xa D m):=by
 have e:m=KM1 xa D m:=by
  funext z
  unfold KM1;split
  ·rename_i e;rw [e];exact h1
  split
  ·rename_i e;rw [e];exact h2
  rfl
 exact Eq.mp (congrArg (Fr g L h) e) F
theorem Qk {prog:AY}{w:World}{g h:Heap}{L xa d n2 D:Addr}{o2 oD od:Obj}{G:List (Addr×Obj)}{m:Str→Option Value}{PP:Prop}(N:News g L h ((n2,o2)::(xa,AT 362 d)::(d,od)::(D,oD)::G))(F:Fr g L h (fun y=>if y=A0 "sorter" then some (.ref xa) else m y))(l9:xa<n2∧d<n2∧D<n2∧AllLt n2 G)(l8:D<d∧AllLt d G)(l7:d<xa)(hi:o2.IsDictOf (AM prog w) [])(lo2:(n2==BV)=false)
  (hod:∃t1 t2 t3 t4 t5 t6,od=tsD w t1 t2 t3 t4 t5 t6 n2)
  (k:∀xa d n2 o2 t1 t2 t3 t4 t5 t6,News g L h ((xa,AT 362 d)::(d,tsD w t1 t2 t3 t4 t5 t6 n2)::(n2,o2)::(C3 []++G))→Fr g L h (fun y=>if y=A0 "sorter" then some (.ref xa) else m y)→(GK xa d n2 []).Nodup→(∀p∈G,p.1∉GK xa d n2 [])→o2.IsDictOf (AM prog w) []→(n2==BV)=false→PP):PP:=by
 obtain ⟨t1,t2,t3,t4,t5,t6,rfl⟩:=hod;refine k xa d n2 o2 t1 t2 t3 t4 t5 t6 (Bo N (A6 mH1 (A6 mH2 (A6 (.head _) fun q hq=>mT4 hq)))) F ?_ ?_ hi lo2
 ·show [xa,d,n2].Nodup;simp only [Ce,BD,Au,or_false,not_or,CY,and_true,not_false_eq_true];exact ⟨⟨AN l7,A7 l9.1⟩,A7 l9.2.1⟩
 intro p hp hg;have h9:p.1<d:=Cs l8.2 p hp;have hg':p.1∈[xa,d,n2]:=hg;simp only [BD,Au,or_false] at hg';rcases hg' with e | e | e
 ·rw [e] at h9;exact Ix h9 l7
 ·rw [e] at h9;exact Av _ h9
 rw [e] at h9;exact Ix h9 l9.2.1
theorem Rt {xa d n2 I:Addr}{o1 od oo:Obj}{ns:List NI}{G:List (Addr×Obj)}(h:I∉GK xa d n2 ns)(hG:∀p∈G,p.1≠I):∀p∈(xa,o1)::(d,od)::(n2,oo)::(C3 ns++G),p.1≠I:=
 fc1 ⟨fun e=>h (e▸.head _),fc1 ⟨fun e=>h (e▸.tail _ (.head _)),fc1 ⟨fun e=>h (e▸.tail _ (.tail _ (.head _))),fun p hp=>AF hp (fun hp e=>h (.tail _ (.tail _ (.tail _ (mm2 ⟨p,hp,e⟩))))) fun hp=>hG p hp⟩⟩⟩
theorem Ru {xa d n2 I:Addr}{o1 od oo oI:Obj}{ns:List NI}{G:List (Addr×Obj)}:∀q∈(I,oI)::(xa,o1)::(d,od)::(n2,oo)::(C3 ns++G),q∈(xa,o1)::(d,od)::(n2,oo)::(C3 ns++(I,oI)::G):=
 A6 (mT3 (maR _ (.head _))) (A6 (.head _) (A6 mH1 (A6 mH2 fun _ hq=>AF hq (fun hq=>mT3 (maL _ hq)) fun hq=>mT3 (maR _ (.tail _ hq)))))
theorem QC (w:World)(p:AY)(lo:List Str)(mean:CG→Option Value)(mg mb:Str→Option Value)
  (gd:Option (List Code)) (cn:Str) (cs:Scope) (a:Addr) (ccd:Value) (cl:List (Str×Addr)) (outer:List Env) (A₀:AO) (base h₀:Heap) (L:Addr) (m:Str→Option Value) (G:List (Addr×Obj)) (s:A4)
  (D:Addr) (oD:Obj) (l:List DE) (ns0:List Nat) (f:Int→Int) (Q E:Value→A4→Prop)
  (B:Below A₀ base outer h₀) (F:Fr h₀ L s.heap m) (X:(Mine.K w.params).In h₀) (N:News h₀ L s.heap G) (T:Top p lo mean mg mb h₀) (hk:cs.kind = .function)
  (hD:(D,oD)∈G) (hd:oD.IsDictOf (AM rw_nq0317_02.prog w) (kvD l)) (lo0:(D==BV)=false) (h4:∀w,ns0.getD w 0≤4) (hl:l.map deP=(Br ns0).map fun k=>(k,f k))
  (hret:∀xa d n2 t1 t2 t3 t4 t5 t6 ns oo h' tk',(n2==BV)=false→BW ns=gPl f (Br ns0)→oo.IsDictOf (AM rw_nq0317_02.prog w) (Da ns)→(ns.map (·.nm)).Nodup→(GK xa d n2 ns).Nodup→(∀p∈G,p.1∉GK xa d n2 ns)→ns.length≤24→(∀e∈ns,e.sc.length≤12)→
   Fr h₀ L h' m→News h₀ L h' ((xa,AT 362 d)::(d,tsD w t1 t2 t3 t4 t5 t6 n2)::(n2,oo)::(C3 ns++G))→Q (.ref xa) { s with heap:=h',toks:=tk' }) :
  wpAny (model (rw_nq0317_02.prog) w) (Bi 340 400 gd cn cs L a ccd cl outer) (call (.ref 395) [.ref D]) Q E s:=by
 k_with "+37" =>skip
 k_with "37" =>(fail_if_success k_extra "+38")
 k_with "a" =>k_extra "37"
 k_with "ap" =>k_extra "37"
 k_with "bd" =>k_extra "37"
 k_with "t" =>k_extra "37"
 k_with "ao" =>k_extra "37"
 k_with "bf" =>k_extra "37"
 k_with "call ref" =>(k_extra "37";((with_unfolding_all show wpAny _ _ (call (A3 312) _) _ _ _);refine Af ?_))
 k_with "by" =>k_extra "37"
 k_with "cb" =>k_extra "37"
 have N0:News h₀ L s.heap ((D,oD)::G):=Bo N (A6 hD fun q hq=>hq);clear N;revert X
 k_fill
 intro X;refine BN ?_
 k_dflt (refine' HJ (binds:=[(A0 "column",.ref D)]) ?k1 ?k2 ?k3 ?k4 ?k5 ?kA ?kF ?kK ?k6 ?k7 ?k8 ?k9 ?kB ?_ ?c2 ?c3 ?c4 ?c5;(case kA=>exact rfl);(case kF=>exact rfl);(case kK=>assumption);(case k1=>k_asm);(case k2=>k_asm);(case k3=>k_asm);(case k4=>k_asm);(case k5=>k_asm);(case k6=>k_is);(case k7=>k_is);(case k8=>ktr_room);(case k9=>exact CA rfl);(case c5=>decide);(case kB=>exact locs rfl);(case c2=>exact rfl);(case c3=>exact rfl);(case c4=>exact rfl);k_whole;intro g' L' h' FG' F' N' B' X' T';(try dsimp only);(try k_fold))
 refine (let A9:AO:=_;(?_:wpAny _ A9 _ _ _ _));k_steps;refine ⟨?_⟩;rename _<_∧_<_∧_<_∧AllLt _ G=>l9;rename _<_∧AllLt _ G=>l8;rename _<_=>l7;rename Obj.IsDictOf (AM _ _) _ []=>hi2;rename (_==BV)=false=>lo2;rename Fr _ _ _ _=>F2;rename News _ _ _ _=>N2;refine Qk N2 F2 l9 l8 l7 hi2 lo2 ⟨_,_,_,_,_,_,rfl⟩ fun xa d n2 o2 t1 t2 t3 t4 t5 t6 N3 F3 hnd hoff hi3 lo3=>?_;clear l9 l8 l7 hi2 lo2;refine ED ?_ (by intro _;with_unfolding_all rfl);clear N2 F2;have N4:News g' L' _ ((D,oD)::(xa,AT 362 d)::(d,tsD w t1 t2 t3 t4 t5 t6 n2)::(n2,o2)::G):=Bo N3 (A6 (mT3 hD) fun q hq=>hq);clear N3;k_steps;refine ⟨?_⟩;rename Fr _ _ _ _=>F5;rename News _ _ _ _=>N5;have N6:=Bo N5 (fun q hq=>.tail _ hq);have hkeys:l.map (·.k)=Br ns0:=GS hl fun _=>rfl;have hndk:(l.map (·.k)).Nodup:=by rw [hkeys];exact GL h4 3
 have hll:l.length≤12:=by
  have:=congrArg Bk hkeys;rw [AB] at this;have h9:=IF h4 3;unfold Br at this;lia
 refine CL (KO hl) ?_;intro hm1 hm2;refine S5 (d:=D) (o:=oD) rfl (by passes_own) hd lo0 (KsJ w xa d n2 D (tsD w t1 t2 t3 t4 t5 t6 n2) G fun i=>gPl f ((l.take i).map (·.k))) (fun i m nx h=>by obtain ⟨ns,oo,_,_,rfl,_⟩:=h;exact mT3 (maR _ hD)) F5 N6 ⟨[],o2,rfl,rfl,rfl,rfl,hi3,CY,hnd,hoff,B0 _,AA _⟩ ?turn ?done
 case turn=>
  clear F5 N5 N6 hi3 hnd hoff;rintro I i k v u m₁ nx oI h tk hv hkv ⟨ns,oo,g1,g2,rfl,pr,dic,nn,nd,off,len,scl⟩ hnI F3 N3;refine Aq (KD hv) ?_;intro e he e92;subst e92;refine Bp (L9 hkv) ?_;intro te e92;subst e92;have hel:=AK he;have hev:=(hm1 e hel).2;have hep:=(hm1 e hel).1;have F4:=km1 F3 g1 g2;have hoffI:∀p∈(I,oI)::G,p.1∉GK xa d n2 ns:=fun p hp hg=>by
   rcases mc1 hp with rfl | hp
   ·rcases mc1 hg with e1 | hg
    ·exact hnI _ (.head _) e1.symm
    rcases mc1 hg with e1 | hg
    ·exact hnI _ mH1 e1.symm
    rcases mc1 hg with e1 | hg
    ·exact hnI _ mH2 e1.symm
    refine Aq (mm1 hg) ?_;intro q hq e1;exact hnI q (mT3 (maL _ hq)) e1
   exact off p hp hg
  refine CV (C3 ns++(I,oI)::G) ?_;intro tl htl;have hDt:(D,oD)∈tl:=by rw [htl];exact maR _ (.tail _ hD)
  have N4:News g' L' h ((xa,AT 362 d)::(d,tsD w t1 t2 t3 t4 t5 t6 n2)::(n2,oo)::tl):=Bo N3 (A6 mH1 (A6 mH2 (A6 mH3 fun q hq=>by
   rw [htl] at hq;exact AF hq (fun hq=>mT4 (maL _ hq)) fun hq=>AH hq (.head _) fun hq=>mT4 (maR _ hq))))
  clear N3 F3;have hil:i<l.length:=(List.getElem?_eq_some_iff.mp he).1;have hgs:=Qu f he;k_steps
  ·rename Int.fmod _ _=0=>hz;rename Fr _ _ _ _=>F8;rename News _ _ _ _=>N8;refine ⟨?_⟩;refine GH N8 (mT3 hDt) hd (BH _ _ _ _) (Gg hndk hel) ?_;k_steps;refine ⟨?_⟩;rename Fr _ _ _ _=>F8;rename News _ _ _ _=>N8;rw [htl] at N8;refine CK (Bi 350 500 gd (A0 "_law_sorter") _ L' 395 (.ref 394) [] (envX cn cs L a ccd cl::outer)) rfl (show 341≤350 by decide) rfl rfl (show 403≤500 by decide) ?_;refine V7 _ _ _ _ _ _ _ _ _ _ _ _ _ _ _ _ _ _ ((I,oI)::G) _ _ _ xa d n2 oo ns t1 t2 t3 t4 t5 t6 _ _ B' F8 X' N8 T' rfl trivial dic lo3 nn (by lia) i (by lia) scl nd hoffI fun ns' o2' h' tk' q1 q2 q3 q4 q5 q6 q7 F9 N9=>?_;clear F8 N8;k_steps;refine ⟨?_⟩;refine ⟨_,_,_,_,rfl,F9,Bo N9 Ru,Rt (q5 _ (.head _)) (fun p hp=>hnI p (mT3 (maR _ hp))),⟨ns',o2',rfl,rfl,rfl,?_,q2,q3,q4,fun p hp=>q5 p (.tail _ hp),by lia,fun a ha=>Am (q7 a ha) (Dh _)⟩⟩;show BW ns'=gPl f ((l.take (i+1)).map (·.k));rw [hgs,q1,pr,JN,if_pos hz,hev]
  rename Int.fmod _ _≠0=>hz;rename Fr _ _ _ _=>F8;rename News _ _ _ _=>N8;have hpk:=K4 h4 hep hz;refine Dn (hm2 _ hpk) ?_;intro e2 he2 e2k e2v;have vQ:BR (kvD l) (e.k-1)=some (.int e2.v e2.t):=by rw [←e2k];exact Gg hndk he2
  refine ⟨?_⟩;refine GH N8 (mT3 hDt) hd (BH _ _ _ _) (Gg hndk hel) ?_;k_steps;rename Fr _ _ _ _=>F8;rename News _ _ _ _=>N8;refine ⟨?_⟩;refine GH N8 (mT3 hDt) hd (BH _ _ _ _) vQ ?_;k_steps;refine ⟨?_⟩;rename Fr _ _ _ _=>F8;rename News _ _ _ _=>N8;rw [htl] at N8;refine CK (Bi 350 500 gd (A0 "_law_sorter") _ L' 395 (.ref 394) [] (envX cn cs L a ccd cl::outer)) rfl (show 341≤350 by decide) rfl rfl (show 403≤500 by decide) ?_;refine W3 _ _ _ _ _ _ _ _ _ _ _ _ _ _ _ _ _ _ ((I,oI)::G) _ _ _ _ _ xa d n2 oo ns t1 t2 t3 t4 t5 t6 _ _ B' F8 X' N8 T' rfl trivial trivial dic lo3 nn (by lia) i (by lia) scl nd hoffI fun ns' o2' h' tk' q1 q2 q3 q4 q5 q6 q7 F9 N9=>?_;clear F8 N8;k_steps;refine ⟨?_⟩;refine ⟨_,_,_,_,rfl,F9,Bo N9 Ru,Rt (q5 _ (.head _)) (fun p hp=>hnI p (mT3 (maR _ hp))),⟨ns',o2',rfl,rfl,rfl,?_,q2,q3,q4,fun p hp=>q5 p (.tail _ hp),by lia,fun a ha=>Am (q7 a ha) (Ap _)⟩⟩;show BW ns'=gPl f ((l.take (i+1)).map (·.k));rw [hgs,q1,pr,JN,if_neg hz,hev,←e2v]
 clear F5 N5 N6 hi3 hnd hoff;rintro m₁ nx h tk ⟨ns,oo,g1,g2,rfl,pr,dic,nn,nd,off,len,scl⟩ F3 N3;have F4:=km1 F3 g1 g2;refine CV (C3 ns++G) ?_;intro tl htl;rw [←htl] at N3;have hkl:(kvD l).length=l.length:=by unfold kvD;rw [AB]
 rw [hkl] at len scl;simp only [hkl] at pr;rw [BA (Ap _),hkeys] at pr;k_steps;rename News h₀ L _ _=>kN;rename Fr h₀ L _ _=>kF;rw [htl] at kN;exact hret xa d n2 t1 t2 t3 t4 t5 t6 ns oo _ _ lo3 pr dic nn nd off (by lia) (fun e he=>Am (scl e he) hll) kF kN
noncomputable abbrev Py (xs:List (Int×Tok)):Obj:=⟨.type "tuple",none,.seq (An xs) 0,#[]⟩
theorem Ik:∀xs:List (Int×Tok),CJ (An xs).toList (xs.map (·.1))
 | []=>.nil
 | x::xs=>by
  have:=Ik xs;unfold An at this ⊢;exact .cons x.1 x.2 (by simpa using this)
theorem Sd (xs:List Int):Tp (.tuple (xs.map .int))=true:=by
 simp only [Tp,PyData.canLay0,PyData.depth,canLayAll_ints,PyProof.Rows.depthAll_ints,C8,decide_eq_true_eq];decide
theorem Jj {prog:AY}{w:World}{A:AO}{E:Value→A4→Prop}{s:A4}{h₀:Heap}{L x y:Addr}{news:List (Addr×Obj)}{xs:List (Int×Tok)}{Q:Value→A4→Prop}(N:News h₀ L s.heap news)(hx:(x,Py xs)∈news)(hy:(y,(⟨.type "tuple",none,.seq #[] 0,#[]⟩:Obj))∈news)
  (hu:A.units+64<cLine) (b:Bool) (hb:(!xs.isEmpty)=b) (h:Q (.bool b) s):wpAny (model prog w) A (compareOp .NotEq (.ref x) (.ref y)) Q E s:=by
 subst hb;refine ne_dataH (reads_tuple_at (N.get hx) rfl rfl (ints_readAll _ (Ik xs))) (reads_tuple_at (N.get hy) rfl rfl .nil) (Sd _) (by decide) hu ?_
 cases xs with
 | nil=>simpa [PyData.eqv,PyData.eqvAll] using h
 | cons a r=>simpa [PyData.eqv,PyData.eqvAll] using h
theorem Os {prog:AY}{w:World}{A:AO}{E:Value→A4→Prop}{s:A4}{h₀:Heap}{L x y:Addr}{news:List (Addr×Obj)}{vs us:Array Value}{ns:List Int}{e1 e2:Nat}{Q:Value→A4→Prop}(N:News h₀ L s.heap news)(hx:(x,A1 vs e1)∈news)(hy:(y,A1 us e2)∈news)(h1:CJ vs.toList ns)(h2:CJ us.toList ns)
  (hu:A.units+64<cLine) (h:Q (.bool false) s):wpAny (model prog w) A (compareOp .NotEq (.ref x) (.ref y)) Q E s:=by
 have sh:=shaped_ints ns;refine ne_dataH (reads_of_ints (vs:=vs.toList) (BI N hx) h1) (reads_of_ints (vs:=us.toList) (BI N hy) h2) sh sh hu ?_;rw [PySem.SeqAt.eqv_refl _ (SeqAt.canLay_of_shaped sh)];exact h
noncomputable abbrev ShM (xa T0:Addr)(n:Int)(tn:Tok)(u:Str→Option Value):Str→Option Value:=fun z=>if z=A0 "sorter" then some (.ref xa) else if z=A0 "fresh" then some (.ref T0) else if z=A0 "number" then some (.int n tn) else u z
set_option tactic.hygienic true in
theorem VK {g h:Heap}{L xa T0:Addr}{n:Int}{tn:Tok}{m:Str→Option Value}(F:Fr g L h m)(h1:m (A0 "sorter")=some (.ref xa))(h2:m (A0 "fresh")=some (.ref T0))(h3:m (A0 "number")=some (.int n tn)):Fr g L h (ShM xa T0 n tn m):=by
 have e:m=ShM xa T0 n tn m:=by
  funext z
  unfold ShM;split
  ·rename_i e;rw [e];exact h1
  split
  ·rename_i e;rw [e];exact h2
  split
  ·rename_i e;rw [e];exact h3
  rfl
 exact Eq.mp (congrArg (Fr g L h) e) F
inductive ShJ (w:World)(s:A4)(g':Heap)(L' xa Gd d n2 D:Addr)(t1 t2 t3 t5:Tok)(o2 oCol:Obj)(ns:List NI)(rest:List (Addr×Obj))(gs:List (List Int))(lev:Int→Int)(n:Nat)(s₁:A4):Prop
 | mk (c:List NI) (xs:List (Int×Tok)) (T0:Addr) (oG oOne oGrp:Obj) (lG:List DE) (vOne:Option Value) (g:Gr) (gsd gs1:List (List Int)) (t4 t6 tn:Tok) (po nf:Int) (ep:Nat) (h:Heap) (tk:Nat) (mm:Str→Option Value)
   (e:s₁ = { s with heap:=h,toks:=tk }) (m1:mm (A0 "sorter")=some (.ref xa)) (m2:mm (A0 "fresh")=some (.ref T0)) (m3:mm (A0 "number")=some (.int gsd.length tn)) (F:Fr g' L' h mm)
   (N:News g' L' h ((T0,Py xs)::(xa,AT 362 d)::(d,tsR w t1 t2 t3 t4 t5 t6 n2 (.ref D) po nf)::(n2,o2)::(D,A1 #[] ep)::(C3 c++(L'+1+1+1,oOne)::(L'+1+1,oGrp)::(L'+1,oCol)::(Gd,oG)::rest)))
   (p1:Da c=Da ns) (p2:c.map (·.nm)=ns.map (·.nm)) (p3:GK xa d n2 c=GK xa d n2 ns) (p5:∀x,gsc (BW c) x=gsc (BW ns) x) (p4:BW c=Gl g (xs.map (·.1))) (hr:Tg g (xs.map (·.1)) gs1) (hgs:gsd++gs1=gs) (hn:n=gs1.length)
   (dOne:oOne.data = .cell vOne) (dGrp:oGrp.data = .cell (some (.ref Gd))) (hG:oG.IsDictOf (AM rw_nq0317_02.prog w) (kvD lG)) (hlG:lG.map deP=gsd.flatten.map fun x=>(x,lev x))
   (hs:T0∉D::GK xa d n2 ns) (hs2:∀p∈(L'+1+1+1,oOne)::(L'+1+1,oGrp)::(L'+1,oCol)::(Gd,oG)::rest,p.1≠T0):ShJ w s g' L' xa Gd d n2 D t1 t2 t3 t5 o2 oCol ns rest gs lev n s₁
theorem a1n (n:Nat):n<n+1:=Al n
theorem a2n (n:Nat):n<n+1+1:=AU (a1n n)
theorem a3n (n:Nat):n<n+1+1+1:=AU (a2n n)
inductive ShK (w:World)(L' xa Gd T0:Addr)(num:Int)(tn:Tok)(G1:List (Addr×Obj))(lev:Int→Int)(ks xe:List Int)(i:Nat)(m:Str→Option Value)(nx:List (Addr×Obj)):Prop
 | mk (oOne oG:Obj) (lG:List DE) (vOne:Option Value) (m1:m (A0 "sorter")=some (.ref xa)) (m2:m (A0 "fresh")=some (.ref T0)) (m3:m (A0 "number")=some (.int num tn)) (hn:nx=(L'+1+1+1,oOne)::(Gd,oG)::G1) (dOne:oOne.data = .cell vOne) (hG:oG.IsDictOf (AM rw_nq0317_02.prog w) (kvD lG)) (hlG:lG.map deP=(ks++xe.take i).map fun x=>(x,lev x)):ShK w L' xa Gd T0 num tn G1 lev ks xe i m nx
theorem My {xs:List (Int×Tok)}{i:Nat}{v:Value}(h:(An xs)[i]? = some v):∃q,xs[i]? = some q∧v = .int q.1 q.2:=by
 unfold An at h;rw [Bj,AX] at h
 cases he:xs[i]? with
 | none=>rw [he] at h;cases h
 | some e=>rw [he] at h;exact ⟨e,rfl,(BM h).symm⟩
noncomputable def Em (lev f:Int→Int)(x:Int)(l:List DE):List Int:=(l.filter fun e=>decide (e.v=x)&&decide (0<e.k.fmod 4)).map fun e=>lev (f (e.k-1))
structure AJ where
 its:Array Value
 ep:Nat
 as:List Int
inductive ShG (L':Addr)(G2:List (Addr×Obj))(i:Nat)(m:Str→Option Value)(nx:List (Addr×Obj)):Prop
 | mk (oOne:Obj) (vOne:Option Value) (hn:nx=(L'+1+1+1,oOne)::G2) (dOne:oOne.data = .cell vOne):ShG L' G2 i m nx
theorem Te {lev f:Int→Int}{x:Int}{l:List DE}{j:Nat}{b:DE}(hb:l[j]? = some b)(h1:b.v=x)(h2:0<b.k.fmod 4):Em lev f x (l.take (j+1))=Em lev f x (l.take j)++[lev (f (b.k-1))]:=by
 unfold Em;rw [CB,hb,Es,AI]
 congr 1
 simp [h1,h2]
theorem Pj {lev f:Int→Int}{x:Int}{l:List DE}{j:Nat}{b:DE}(hb:l[j]? = some b)(h:¬(b.v=x∧0<b.k.fmod 4)):Em lev f x (l.take (j+1))=Em lev f x (l.take j):=by
 unfold Em;rw [CB,hb,Es];have:List.filter (fun e:DE=>decide (e.v=x)&&decide (0<e.k.fmod 4)) (some b).toList=[]:=by
  refine List.filter_eq_nil_iff.mpr fun a ha=>?_;have ha':a=b:=ms1 ha;subst ha';simpa using h
 rw [this,C5]
structure VA (w:World)(xa d n2 D:Addr)(o2:Obj)(ns:List NI)(rest:List (Addr×Obj)):Prop where
 hd:o2.IsDictOf (AM rw_nq0317_02.prog w) (Da ns)
 lo2:(n2==BV)=false
 hnn:(ns.map (·.nm)).Nodup
 hl:ns.length≤24
 hnd:(GK xa d n2 ns).Nodup
 hoff:∀p∈rest,p.1∉D::GK xa d n2 ns
 hD:D∉GK xa d n2 ns
 hscl:∀e∈ns,e.sc.length≤12
 hcl:∀x b,b∈gsc (BW ns) x→b∈ns.map (·.nm)
set_option tactic.hygienic true in
theorem ND (w:World)(p:AY)(lo:List Str)(mean:CG→Option Value)(mg mb:Str→Option Value)
  (gd:Option (List Code)) (cn:Str) (cs:Scope) (a:Addr) (ccd:Value) (cl:List (Str×Addr)) (outer:List Env) (A₀:AO) (base h₀:Heap) (L:Addr) (m:Str→Option Value) (rest:List (Addr×Obj)) (s:A4)
  (D0 xa d n2 D:Addr) (oD o2:Obj) (l:List DE) (ns:List NI) (rs:List (Int×Tok)) (gs:List (List Int)) (lev:Int→Int) (ep:Nat) (t1 t2 t3 t4 t5 t6:Tok) (po nf:Int) (Q E:Value→A4→Prop)
  (B:Below A₀ base outer h₀) (F:Fr h₀ L s.heap m) (X:(Mine.K w.params).In h₀) (N:News h₀ L s.heap ((xa,AT 362 d)::(d,tsR w t1 t2 t3 t4 t5 t6 n2 (.ref D) po nf)::(n2,o2)::(D,A1 (An rs) ep)::(C3 ns++rest))) (T:Top p lo mean mg mb h₀) (hk:cs.kind = .function)
  (S:VA w xa d n2 D o2 ns rest) (hD0:(D0,oD)∈rest) (hd0:oD.IsDictOf (AM rw_nq0317_02.prog w) (kvD l)) (lo0:(D0==BV)=false)
  (hrun:Tg (BW ns) (rs.map (·.1)) gs) (hgl:gs.length≤24) (hrl:rs.length≤24) (hrn:∀q∈rs,q.1∈ns.map (·.nm))
  (hgn:gs.flatten.Nodup) (hgl9:gs.flatten.length≤24) (hgk:∀x,x∈gs.flatten↔∃e∈l,e.v=x) (hlv:∀(k:Nat) (r:List Int),gs[k]? = some r→∀x∈r,lev x=(k:Int)+1) (f:Int→Int) (ns0:List Nat) (h4:∀w,ns0.getD w 0≤4) (hlf:l.map deP=(Br ns0).map fun k=>(k,f k))
  (hmax:∀x∈gs.flatten,∀M,M∈Em lev f x l++[0]→(∀a∈Em lev f x l++[0],a≤M)→lev x=1+M)
  (hret:∀h' tk' d',Fr h₀ L h' m→News h₀ L h' rest→Q (.bool true) { s with heap:=h',toks:=tk',drawn:=d' }) :
  wpAny (model (rw_nq0317_02.prog) w) (Bi 340 400 gd cn cs L a ccd cl outer) (call (.ref 407) [.ref D0,.ref xa]) Q E s:=by
 k_with "+38" =>skip
 k_with "38" =>(fail_if_success k_extra "+39")
 k_with "k" =>k_extra "38"
 k_with "bd" =>k_extra "38"
 k_with "t" =>k_extra "38"
 k_with "u" =>k_extra "38"
 k_with "exec While Compare cons nil" =>(k_extra "38";refine Af ?_)
 k_with "ao" =>k_extra "38"
 k_with "bf" =>k_extra "38"
 k_with "ak" =>k_extra "38"
 k_with "aj" =>k_extra "38"
 k_with "bx" =>k_extra "38"
 k_with "call builtin:sorted" =>(k_extra "38";refine Af ?_)
 k_with "call type:set" =>(k_extra "38";refine Af ?_)
 k_with "call type:set cons nil" =>(k_extra "38";refine Af ?_)
 k_with "bj" =>k_extra "38"
 k_with "bi" =>k_extra "38"
 k_with "by" =>k_extra "38"
 k_with "cb" =>k_extra "38"
 k_with "o" =>k_extra "38"
 refine CV (C3 ns++rest) ?_;intro tl htl;rw [←htl] at N;have hD0t:(D0,oD)∈tl:=by rw [htl];exact maR _ hD0
 revert X
 k_fill
 intro X;refine BN ?_
 k_dflt (refine' code_defC (binds:=[(A0 "column",.ref D0),(A0 "sorter",.ref xa)]) ?k1 ?k2 ?k3 ?k4 ?k5 ?kA ?kF ?kK ?k6 ?k7 ?k8 ?k9 ?kB ?kD ?_ ?c2 ?c3 ?c4;(case kA=>exact rfl);(case kF=>exact rfl);(case kK=>assumption);(case k1=>k_asm);(case k2=>k_asm);(case k3=>k_asm);(case k4=>k_asm);(case k5=>k_asm);(case k6=>k_is);(case k7=>k_is);(case k8=>ktr_room);(case k9=>exact CA rfl);(case kB=>exact rfl);(case kD=>decide +kernel);(case c2=>exact rfl);(case c3=>exact rfl);(case c4=>exact rfl);k_whole;intro g' L' h' tk' cells' FG' F' N' Y' B' X' T' l1;k_cells Y';(try simp only [BJ,BS] at N');(try dsimp only);(try k_fold))
 refine (let A9:AO:=_;let E9:Value→A4→Prop:=_;(?_:wpAny _ A9 _ _ E9 _));refine (let cA:Addr:=L'+1;let cB:Addr:=L'+1+1;let cC:Addr:=L'+1+1+1;?_);rename_i oOne oGrp oCol dA dB dC;have dOne:oOne.data = .cell none:=dA;have dGrp:oGrp.data = .cell none:=dB;have dCol:oCol.data = .cell (some (.ref D0)):=dC;clear dA dB dC;refine (let m1:Str→Option Value:=fun z=>if z=A0 "sorter" then some (.ref xa) else none;?_);have F1:Fr g' L' h' m1:=F';clear F';k_steps;rename_i Gd h1 oG F1 N1 loG _ _ hiG _ lG;have c32:cC≠cB:=AN (Al _);have c21:cB≠cA:=AN (Al _);have c31:cC≠cA:=AN (AU (Al _));have hGK:∀b∈D::GK xa d n2 ns,b<L':=by
  intro b hb;refine AQ hb (l1 _ mH3) fun hb=>?_;refine AQ hb (l1 _ (.head _)) fun hb=>?_;refine AQ hb (l1 _ mH1) fun hb=>?_;refine AQ hb (l1 _ mH2) fun hb=>?_;refine mmE hb ?_;intro p hp;exact l1 p (mT4 (by rw [htl];exact maL _ hp))
 have hrL:∀p∈rest,p.1<L':=fun p hp=>l1 p (mT4 (by rw [htl];exact maR _ hp));have hGdL:cC<Gd:=lG.1;have hR9:∀oA oB oC oE,∀p∈(cC,oA)::(cB,oB)::(cA,oC)::(Gd,oE)::rest,p.1∉D::GK xa d n2 ns:=by
  intro oA oB oC oE p hp hm;have hb:=hGK _ hm;have hge:∀p∈[(cC,oA),(cB,oB),(cA,oC),(Gd,oE)],L'<p.1:=fc1 ⟨a3n L',fc1 ⟨a2n L',fc1 ⟨a1n L',fc1 ⟨Ay (a3n L') hGdL,AA _⟩⟩⟩⟩;have hp':p∈[(cC,oA),(cB,oB),(cA,oC),(Gd,oE)]++rest:=hp;refine AF hp' (fun hp=>Ix hb (hge p hp)) fun hp=>S.hoff p hp hm
 have hrG:∀p∈rest,p.1≠Gd:=fun p hp=>A7 (Ay (hrL p hp) (Ay (a3n L') hGdL));have hrC:∀p∈rest,p.1≠cC∧p.1≠cB∧p.1≠cA:=fun p hp=>have h9:=AU (hrL p hp);⟨A7 (AU (AU h9)),A7 (AU h9),A7 h9⟩;have N2:News g' L' h1 ((cB,oGrp)::(xa,AT 362 d)::(d,tsR w t1 t2 t3 t4 t5 t6 n2 (.ref D) po nf)::(n2,o2)::(D,A1 (An rs) ep)::(C3 ns++(cC,oOne)::(cA,oCol)::(Gd,oG)::rest)):=Bo N1 (A6 mH2 (A6 mH4 (A6 mH5 (A6 mH6 (A6 mH7 fun q hq=>by
  refine AF hq (fun hq=>mT8 (by rw [htl];exact maL _ hq)) fun hq=>?_;exact AH hq mH1 fun hq=>AH hq mH3 fun hq=>AH hq (.head _) fun hq=>mT8 (by rw [htl];exact maR _ hq))))))
 refine Dg F1 N2 (.head _) dGrp rfl fun h2 oGrp2 F2 N3 dGrp2=>?_;have hx2:∀b∈D::GK xa d n2 ns,b≠cB:=fun b hb=>A7 (Ay (hGK b hb) (a2n L'));have N4:=JG (pre:=[]) N3 (AA _) (fc1 ⟨hx2 _ mH1,fc1 ⟨hx2 _ mH2,fc1 ⟨hx2 _ mH3,fc1 ⟨hx2 _ (.head _),fun p hp=>AF hp (fun hp=>hx2 _ (.tail _ (En (mm2 ⟨p,hp,rfl⟩)))) fun hp=>AQ hp c32 fun hp=>AQ hp c21.symm fun hp=>AQ hp (AN (Ay (a1n _) hGdL)) fun hp=>(hrC p hp).2.1⟩⟩⟩⟩);rw [BS] at N4;clear F1 N1 N2 N3 lG;refine CV (C3 ns++(cC,oOne)::(cA,oCol)::(Gd,oG)::rest) ?_;intro tl2 htl2;rw [←htl2] at N4;k_steps;refine ⟨?_⟩;rename Fr _ _ _ _=>F5;rename News _ _ _ _=>N5;have N6:=Bo N5 (news':=(xa,AT 362 d)::(d,tsR w t1 t2 t3 t4 t5 t6 n2 (.ref D) po nf)::(n2,o2)::(D,A1 (An rs) ep)::(C3 ns++(cC,oOne)::(cB,oGrp2)::(cA,oCol)::(Gd,oG)::rest)) (A6 mH1 (A6 mH2 (A6 mH3 (A6 mH4 fun q hq=>by
  refine AF hq (fun hq=>mT5 (by rw [htl2];exact maL _ hq)) fun hq=>?_;exact AH hq (mT5 (by rw [htl2];exact maR _ (.head _))) fun hq=>AH hq (.head _) fun hq=>mT5 (by rw [htl2];exact maR _ (.tail _ hq))))))
 clear N5;refine CK (Bi 350 500 gd (A0 "_law_shortest") _ L' 407 (.ref 406) _ (envX cn cs L a ccd cl::outer)) rfl (show 341≤350 by decide) rfl rfl (show 403≤500 by decide) ?_;refine Ip w p lo mean mg mb gd _ _ 407 (.ref 406) _ _ _ _ _ _ _ _ _ xa d n2 D o2 ns rs ep t1 t2 t3 t4 t5 t6 po nf _ _ B' F5 X' N6 T' rfl S.hd S.lo2 S.hnn (by have:=S.hl;lia) (by lia) hrn (fun _ _=>trivial) S.hnd (hR9 _ _ _ _) S.hD fun T0 c t4' po' ep8 h2 tk2 p1 p2 p3 p4 hT0 hT0r F7 N7=>?_;clear F5 N6;refine CV (C3 c++(cC,oOne)::(cB,oGrp2)::(cA,oCol)::(Gd,oG)::rest) ?_;intro tl3 htl3;rw [←htl3] at N7;k_steps;refine ⟨?_⟩;rename Fr _ _ _ _=>F8;rename News _ _ _ _=>N8;rw [htl3] at N8;refine Ju (ShJ w s g' L' xa Gd d n2 D t1 t2 t3 t5 o2 oCol ns rest gs lev) gs.length ⟨c,rs,T0,oG,oOne,oGrp2,[],none,BW ns,[],gs,t4',t6,_,po',nf,ep8,_,_,_,rfl,rfl,rfl,rfl,F8,N8,p1,p2,p3,fun x=>by rw [p4,HW],p4,hrun,rfl,rfl,dOne,dGrp2,hiG,rfl,hT0,hT0r⟩ ?turn (by passes_own);clear F8 N8 p1 p2 p3 p4 hT0 hT0r;intro n s₁ h1;obtain ⟨c,xs,T0,oG,oOne,oGrp,lG,vOne,g,gsd,gs1,t4,t6,tn,po,nf,ep,h,tk,mm,rfl,m1',m2',m3',F4,N4,p1,p2,p3,p5,p4,hr,hgs,hn,dOne,dGrp,hG,hlG,hs,hs2⟩:=h1;have F5:=VK F4 m1' m2' m3';clear F4;have hgn9:g.map (·.nm)=ns.map (·.nm):=by
  have h9:(BW c).map (·.nm)=c.map (·.nm):=by unfold BW;rw [Ao];rfl
  have h8:∀(l:List Int) (g:Gr),(Gl g l).map (·.nm)=g.map (·.nm):=by
   intro l
   induction l with
   | nil=>intro g;rfl
   | cons y l ih=>intro g;show (Gl (gup g y _) l).map (·.nm)=_;rw [ih,M7 _ _ (fun e=>{ e with np:=-1 }) fun _=>rfl]
  rw [←p2,←h9,p4,h8]
 refine CV (C3 c++(cC,oOne)::(cB,oGrp)::(cA,oCol)::(Gd,oG)::rest) ?_;intro tl4 htl4;rw [←htl4] at N4;k_steps;refine ⟨?_⟩;rename Fr _ _ _ _=>F6;rename News _ _ _ _=>N6
 cases xs with
 | nil=>
  refine Jj N6 mH1 (.head _) (by ke_room) false rfl ?_;have hg1:gs1=[]:=by
   generalize hxe:Tr (fun x:Int×Tok=>x.1) []=xe at hr
   cases hr with
   | nil=>rfl
   | cons h9 _ _ _ _ _=>exact absurd hxe.symm h9
  subst hg1;rw [C5] at hgs;subst hgs;clear hr p4 hn;refine (let mt9:Str→Option Value:=_;have F9:Fr _ _ _ mt9:=F6;?_);clear F6;have N9:News g' L' _ ((Gd,oG)::(cB,oGrp)::(cC,oOne)::(cA,oCol)::(D0,oD)::rest):=Bo N6 (A6 (mT6 (htl4▸maR _ mH3)) (A6 (mT6 (htl4▸maR _ mH1)) (A6 (mT6 (htl4▸maR _ (.head _))) (A6 (mT6 (htl4▸maR _ mH2)) (A6 (mT6 (htl4▸maR _ (mT4 hD0))) fun q hq=>mT6 (htl4▸maR _ (mT4 hq)))))));clear N6;rename _<_∧_<_∧_<_∧_<_∧_<_∧AllLt _ tl4=>lD;clear lD;k_steps;refine ⟨?_⟩;rename Fr _ _ _ _=>F10;rename News _ _ _ _=>N10;have hkeys:l.map (·.k)=Br ns0:=GS hlf fun _=>rfl;have hkn:(l.map (·.k)).Nodup:=by rw [hkeys];exact GL h4 3
  refine CL (KO hlf) ?_;intro hm1 hm2;have hll:l.length≤12:=by
   have:=congrArg Bk hkeys;rw [AB] at this;have h9:=IF h4 3;unfold Br at this;lia
  have hkG:lG.map (·.k)=gsd.flatten:=GS hlG fun _=>rfl;have hkG2:(kvD lG).map (·.1)=gsd.flatten:=by
   rw [←hkG];unfold kvD;rw [Ao];rfl
  have hGl:lG.length≤24:=by
   have:=congrArg Bk hkG;rw [AB] at this;lia
  refine Jy rfl F10 N10 (.head _) hG loG (by unfold kvD;rw [AB];lia) fun l1' h10 tk10 vs1 ss1 ep1 F11 N11 _ hI1 hp1 hs1=>?_;rw [hkG2] at hp1;clear F10 N10;have N12:=Bo N11 (A6 (mT5 (.head _)) (A6 (.head _) (A6 mH1 (A6 mH2 (A6 mH3 (A6 mH4 fun q hq=>mT6 hq))))));clear N11;k_steps;refine ⟨?_⟩;rename Fr _ _ _ _=>F13;rename News _ _ _ _=>N13;refine Ks rfl F13 N13 (.head _) mH1 hd0 (by lia) fun S9 h14 tk14 oS ks F14 N14 lS hS hSl hSk=>?_;clear F13 N13;k_steps;refine ⟨?_⟩;rename Fr _ _ _ _=>F15;rename News _ _ _ _=>N15;refine Ko rfl F15 N15 (.head _) hS (by lia) fun l2' h16 tk16 dr16 vs2 ss2 ep2 F17 N17 _ hI2 hp2 hs2'=>?_;have hss:ss1=ss2:=by
   have hpk:ks.Perm gsd.flatten:=(List.perm_ext_iff_of_nodup hS.2.1 hgn).mpr fun x=>by rw [hSk x,hgk x]
   exact List.Perm.eq_of_pairwise (fun a b _ _ h1 h2=>Ef h1 h2) hs1 hs2' (hp1.trans (hpk.symm.trans hp2.symm))
  have N18:=Bo N17 (news':=(l1',A1 vs1 ep1)::(l2',A1 vs2 ep2)::(Gd,oG)::(cB,oGrp)::(cC,oOne)::(cA,oCol)::(D0,oD)::rest) (A6 mH4 (A6 (.head _) (A6 mH5 (A6 mH6 (A6 mH7 (A6 mH8 (A6 mH3 fun q hq=>mT9 hq)))))));clear F15 N15 N17;subst hss;k_steps;refine ⟨?_⟩;rename Fr _ _ _ _=>F19;rename News _ _ _ _=>N19;refine Os N19 (.head _) mH1 hI1 hI2 (by ke_room) ?_;k_steps;refine ⟨?_⟩;have hGn:(lG.map (·.k)).Nodup:=by rw [hkG];exact hgn
  refine CL (KO hlG) ?_;intro hq1 hq2;refine ED ?_ (by intro _;with_unfolding_all rfl);k_steps;refine ⟨?_⟩;rename Fr _ _ _ _=>F20;rename News _ _ _ _=>N20;refine CV ((cB,oGrp)::(cA,oCol)::(Gd,oG)::(D0,oD)::rest) ?_;intro G2 hG2;have kGr:(cB,oGrp)∈G2:=by rw [hG2];exact .head _
  have kCo:(cA,oCol)∈G2:=by rw [hG2];exact mH1
  have kGd:(Gd,oG)∈G2:=by rw [hG2];exact mH2
  have kD0:(D0,oD)∈G2:=by rw [hG2];exact mH3
  have hG2a:∀p∈G2,p.1≠cC:=by
   intro p hp;rw [hG2] at hp;exact AQ hp c32.symm fun hp=>AQ hp c31.symm fun hp=>AQ hp (AN hGdL) fun hp=>AQ hp ((hrC _ hD0).1) fun hp=>(hrC p hp).1
  have N21:News g' L' _ ((cC,oOne)::G2):=Bo N20 (A6 mH4 (by rw [hG2];exact A6 mH3 (A6 mH5 (A6 mH2 (A6 mH6 fun q hq=>mT7 hq)))));refine S5 (d:=Gd) (o:=oG) rfl (by passes_own) hG loG (ShG L' G2) (fun i m nx h=>by obtain ⟨_,_,rfl,_⟩:=h;exact .tail _ kGd) F20 N21 ⟨oOne,vOne,rfl,dOne⟩ ?gturn ?EY
  case gturn=>
   clear F20 N20 N21 dOne;rintro I i k v u m₁ nx oI h tk hv hkv ⟨oOne,vOne,rfl,dOne⟩ hnI F3 N3;refine Aq (KD hv) ?_;intro e he e92;subst e92;refine Bp (L9 hkv) ?_;intro te e92;subst e92;have hel:=AK he;have hef:=(hq1 e hel).1;have hev:=(hq1 e hel).2;have iO:I≠cC:=(hnI _ (.head _)).symm;refine Ba (Dg F3 N3 mH1 dOne rfl fun h6 oOne6 F6 N6 dOne6=>?_);have N7:=JG (pre:=[(I,oI)]) N6 (fc1 ⟨iO,AA _⟩) hG2a;rw [BJ,BS] at N7;clear F3 N3 N6;refine (let mt8:Str→Option Value:=_;have F9:Fr _ _ _ mt8:=F6;?_);clear F6;have N8:News g' L' h6 ((cC,oOne6)::(cB,oGrp)::(cA,oCol)::(Gd,oG)::(D0,oD)::(I,oI)::G2):=Bo N7 (A6 mH1 (A6 (mT2 kGr) (A6 (mT2 kCo) (A6 (mT2 kGd) (A6 (mT2 kD0) (A6 (.head _) fun q hq=>mT2 hq))))));clear N7;k_steps;refine ⟨?_⟩;refine HD (h₀:=g') (L:=L') (m:=mt8) (by rfl) (by with_unfolding_all rfl) (by decide) (by rfl) (by decide) ?_;k_steps;refine ⟨?_⟩;rename Fr _ _ _ _=>F10;rename News _ _ _ _=>N10;refine CV ((cC,oOne6)::(cB,oGrp)::(cA,oCol)::(Gd,oG)::(D0,oD)::(I,oI)::G2) ?_;intro nw hnw;have jO:(cC,oOne6)∈nw:=by rw [hnw];exact .head _
   have jGr:(cB,oGrp)∈nw:=by rw [hnw];exact mH1
   have jCo:(cA,oCol)∈nw:=by rw [hnw];exact mH2
   have jGd:(Gd,oG)∈nw:=by rw [hnw];exact mH3
   have jD0:(D0,oD)∈nw:=by rw [hnw];exact mH4
   refine KS (σ:=AJ) (.list _ _ _ _) (fun I D C=>II) rfl rfl (Ma rfl (hnw▸N10) jD0 hd0 lo0) F10 (hnw▸N10) (fun hm=>absurd (ms1 hm).symm (N10 _ mH4).2.1)
    (fun D c=>(D,A1 c.its c.ep)::nw) (fun D j c m₁=>CJ c.its.toList c.as∧c.as=Em lev f e.k (l.take j)) (fun D oD=>⟨#[],0,[]⟩) (fun D oD ho=>by subst ho;rfl) (fun D oD ho=>⟨.nil,rfl⟩) ?Dz ?cdone
   case Dz=>
    intro C2 D9 I9 j v c oC9 m₁ h t7 own2 E' hDC9 hCI hDI hoff9 hj hv1 hP hnw4 hown hof hn F2 N2;obtain ⟨q8,q9⟩:=hP;obtain ⟨its,iep,as⟩:=c;dsimp only at q8 q9 N2;refine HA hv1 ?_;intro kk xx hkx hkv2;refine Aq (KD hkx) ?_;intro b hb e92;subst e92;refine Bp (L9 hkv2) ?_;intro tb e92;subst e92;have hbl:=AK hb;have hbv:=(hm1 b hbl).2;refine CV (α:=Str→Option Value) (fun y=>if y=A0 "place" then some (A5 b.k tb) else m₁ y) ?_;intro m₃ hm₃;have hkp:m₃ (A0 "place")=some (A5 b.k tb):=by rw [hm₃];rfl
    rw [←hm₃] at hn;refine CV (nw++own2) ?_;intro tlx htlx;have hnwx:∀q∈nw,q∈tlx:=fun q hq=>htlx▸maL _ hq;have N11:News g' L' h ((C2,oC9)::(D9,A1 its iep)::(D0,oD)::(Gd,oG)::(cA,oCol)::(cB,oGrp)::(cC,oOne6)::tlx):=Bo N2 (A6 (.head _) (A6 mH1 (A6 (mT2 (maL _ jD0)) (A6 (mT2 (maL _ jGd)) (A6 (mT2 (maL _ jCo)) (A6 (mT2 (maL _ jGr)) (A6 (mT2 (maL _ jO)) fun q hq=>mT2 (by rw [htlx] at hq;exact hq))))))));have hCx:∀q∈tlx,q.1≠C2∧q.1≠D9:=by
     intro q hq;rw [htlx] at hq;refine AF hq (fun hq=>⟨(hoff9 q hq).1,(hoff9 q hq).2.1⟩) fun hq=>?_;rcases hof q hq with e2 | e2
     ·exact ⟨e2▸hCI,e2▸hDI⟩
     rw [ms1 e2];exact ⟨(hoff9 _ jD0).1,(hoff9 _ jD0).2.1⟩
    clear N2 N10 F10;refine wpAny_tests_one ?_;k_steps;rename Fr _ _ _ _=>F12;rename News _ _ _ _=>N12;refine ⟨?_⟩;refine GH N12 mH2 hd0 (BH _ _ _ _) (Gg hkn hbl) ?_;k_steps
    ·rename b.v=e.k=>hb1;rename 0<Int.fmod b.k 4=>hb2;have hpk:b.k-1∈Br ns0:=K4 h4 (hm1 b hbl).1 (O4 hb2);refine Dn (hm2 _ hpk) ?_;intro e2 he2 e2k e2v;have vQ:BR (kvD l) (b.k-1)=some (.int e2.v e2.t):=by rw [←e2k];exact Gg hkn he2
     refine Dn (hq2 e2.v ((hgk _).mpr ⟨e2,he2,rfl⟩)) ?_;intro e3 he3 e3k e3v;have vG:BR (kvD lG) e2.v=some (.int e3.v e3.t):=by rw [←e3k];exact Gg hGn he3
     refine GR ?_;k_with "i" =>k_extra "38"
     k_with "subscriptTail Name Subscript ref int" =>(k_extra "38";refine Af ?_)
     k_steps;rename Fr _ _ _ _=>F13;rename News _ _ _ _=>N13;refine ⟨?_⟩;refine GH N13 mH2 hd0 (BH _ _ _ _) vQ ?_;k_steps;rename Fr _ _ _ _=>F13;rename News _ _ _ _=>N13;refine ⟨?_⟩;refine GH N13 mH3 hG (BH _ _ _ _) vG ?_;k_steps;rename Fr _ _ _ _=>F14;rename News _ _ _ _=>N14;refine ⟨?_⟩;have hil:its.size≤12:=by
      have h1:=q8.length;have h2:as.length≤j:=by
       rw [q9];unfold Em;rw [AB];exact Am (DI _ _) (by rw [Bm];lia)
      have h3:(kvD l).length=l.length:=by unfold kvD;rw [AB]
      rw [Bb] at h1;lia
     refine CW F14 N14 mH1 (Bw (by lia)) fun h15 F15 N15=>?_;clear F14 N14;have N16:=JG (pre:=[(C2,oC9)]) N15 (fc1 ⟨hDC9.symm,AA _⟩) (fc1 ⟨(hCx _ (hnwx _ jD0)).2,fc1 ⟨(hCx _ (hnwx _ jGd)).2,fc1 ⟨(hCx _ (hnwx _ jCo)).2,fc1 ⟨(hCx _ (hnwx _ jGr)).2,fc1 ⟨(hCx _ (hnwx _ jO)).2,fun q hq=>(hCx q hq).2⟩⟩⟩⟩⟩);rw [BJ,BS] at N16;clear N15;show HF _ _ _ _ _ _ _ _ _ _ _;refine HY (⟨its.push (.int e3.v e3.t),iep+1,as++[e3.v]⟩:AJ) F15 N16 (oC:=oC9) (m':=m₃) (.head _) hn (fun q hq=>?_) (fun q hq=>?_) (fun q hq hm=>?_) ⟨?_,?_⟩
     ·exact AH hq mH1 fun hq=>mT7 (hnwx q hq)
     ·exact mT7 (by rw [htlx];exact maR _ hq)
     ·rcases mc1 hq with rfl | hq
      ·exact hnw4 (D9,_) (.head _) hm
      exact hnw4 q (.tail _ hq) hm
     ·exact intsAre_push q8
     show as++[e3.v]=_;rw [Te hb hb1 hb2,←q9,e3v,e2v]
    ·rename ¬0<Int.fmod b.k 4=>ha;refine HY (⟨its,iep,as⟩:AJ) (by assumption) N12 (oC:=oC9) (m':=m₃) (.head _) hn (fun q hq=>?_) (fun q hq=>?_) (fun q hq hm=>?_) ⟨q8,?_⟩
     ·exact AH hq mH1 fun hq=>mT7 (hnwx q hq)
     ·exact mT7 (by rw [htlx];exact maR _ hq)
     ·rcases mc1 hq with rfl | hq
      ·exact hnw4 (D9,_) (.head _) hm
      exact hnw4 q (.tail _ hq) hm
     rw [Pj hb fun h=>ha h.2];exact q9
    rename b.v≠e.k=>ha;refine HY (⟨its,iep,as⟩:AJ) (by assumption) N12 (oC:=oC9) (m':=m₃) (.head _) hn (fun q hq=>?_) (fun q hq=>?_) (fun q hq hm=>?_) ⟨q8,?_⟩
    ·exact AH hq mH1 fun hq=>mT7 (hnwx q hq)
    ·exact mT7 (by rw [htlx];exact maR _ hq)
    ·rcases mc1 hq with rfl | hq
     ·exact hnw4 (D9,_) (.head _) hm
     exact hnw4 q (.tail _ hq) hm
    rw [Pj hb fun h=>ha h.1];exact q9
   intro C2 D9 c oC9 m' h2 tk2 hDC9 hoff9 hP F2 N2 hn2 hnw4;show Ec _ _ _ _ _ _ _ _ _;refine Fc (L:=L') rfl rfl rfl F2 N2 hn2 hnw4 fun h3 tk3 F3 N3=>?_;obtain ⟨its,iep,as⟩:=c;obtain ⟨q8,q9⟩:=hP;dsimp only at q8 q9 N3;clear F2 N2 N10 F10;rw [BA (by unfold kvD;rw [AB];exact Ap _)] at q9;rw [hnw] at N3;k_steps;rename Fr _ _ _ _=>F4;rename News _ _ _ _=>N4;refine ⟨?_⟩;refine GH N4 mH4 hG (BH _ _ _ _) (Gg hGn hel) ?_;k_with "call builtin:max" =>(k_extra "38";refine Af ?_)
   k_steps;rename Fr _ _ _ _=>F5;rename News _ _ _ _=>N5;have hal:as.length≤12:=by
    rw [q9];unfold Em;rw [AB];exact Am (DI _ _) hll
   refine kmk_add_ints F5 N5 (kso_isList N5 mH1 rfl) (kso_isList N5 (.head _) rfl) q8 (.cons 0 _ .nil) (fun D8 us h8 F8 N8 l8 hI8=>?_) (Bw (by rw [E0];lia));clear F5 N5;k_steps;refine ⟨?_⟩;rename Fr _ _ _ _=>F8;rename News _ _ _ _=>N8;refine kso_max F8 N8 (BI N8 (.head _)) hI8 (by rw [Ai];exact Iw _) rfl fun h9 M tM tk9 F9 N9 hM1 hM2=>?_;clear F8 N8;have hlevM:e.v=1+M:=by
    rw [hev];rw [q9] at hM1 hM2;exact hmax e.k hef M hM1 hM2
   k_steps
   all_goals try (rename e.v≠1+M=>hne;exact absurd hlevM hne)
   refine ⟨?_⟩;refine ⟨_,_,_,_,rfl,F9,Bo N9 (A6 mH8 (A6 mH3 fun q hq=>mT9 hq)),?_,⟨oOne6,_,rfl,dOne6⟩⟩;exact fc1 ⟨iO.symm,fun p hp=>hnI p (.tail _ hp)⟩
  clear F20 N20 N21 dOne;rintro m₁ nx h tk ⟨oOne,vOne,rfl,dOne⟩ F3 N3;k_steps;rename News h₀ L _ _=>kN;rename Fr h₀ L _ _=>kF;exact hret _ _ _ kF (Bo kN fun q hq=>.tail _ (by rw [hG2];exact mT4 hq))
 | cons x0 xs=>
  refine Jj N6 mH1 (.head _) (by ke_room) true rfl ?_;generalize hxe:(x0::xs).map (·.1)=xe at hr p4
  cases hr with
  | nil=>cases hxe
  | @cons _ _ gs2 r1 r2 r3 r4 r5 r6=>
   k_steps;refine ⟨?_⟩;refine ED ?_ (by intro _;with_unfolding_all rfl);k_steps;refine ⟨?_⟩;rename Fr _ _ _ _=>F7;rename News _ _ _ _=>N7;rename _<_∧_<_∧_<_∧_<_∧_<_∧AllLt _ tl4=>lD;have hT9:=hs2 _ (.head _);have hT8:=hs2 _ mH1;have hT7:=hs2 _ mH2;have hT6:=hs2 _ mH3;have hlevx:∀x∈xe,lev x=(gsd.length:Int)+1:=hlv gsd.length xe (by rw [←hgs];simp);have hgk9:(gsd.flatten++xe).length≤24:=by
    have:=hgl9;rw [←hgs,LY,HL,←BP,Ai] at this;lia
   rw [Ai] at hgk9;have hnd9:(gsd.flatten++xe).Nodup:=by
    have:=hgn;rw [←hgs,LY,HL,←BP] at this;exact (CZ.mp this).1
   refine CV ((T0,Py (x0::xs))::(cB,oGrp)::(cA,oCol)::(xa,AT 362 d)::(d,tsR w t1 t2 t3 t4 t5 t6 n2 (.ref D) po nf)::(n2,o2)::(D,A1 #[] ep)::(C3 c++rest)) ?_;intro G1 hG1;have N8:News g' L' _ ((cC,oOne)::(Gd,oG)::G1):=Bo N7 (A6 (mT6 (htl4▸maR _ (.head _))) (A6 (mT6 (htl4▸maR _ mH3)) fun q hq=>by
    rw [hG1] at hq;refine AH hq mH1 fun hq=>AH hq (mT6 (htl4▸maR _ mH1)) fun hq=>AH hq (mT6 (htl4▸maR _ mH2)) fun hq=>AH hq mH2 fun hq=>AH hq mH3 fun hq=>AH hq mH4 fun hq=>AH hq mH5 fun hq=>?_;rw [htl4];exact AF hq (fun hq=>mT6 (maL _ hq)) fun hq=>mT6 (maR _ (mT4 hq))))
   have hcL:∀b∈D::GK xa d n2 ns,b<L':=hGK;have hG1a:∀p∈G1,p.1≠cC∧p.1≠Gd:=by
    intro p hp;rw [hG1] at hp;have hGK9:∀b∈D::GK xa d n2 ns,b≠cC∧b≠Gd:=fun b hb=>⟨A7 (Ay (hcL b hb) (a3n L')),A7 (Ay (hcL b hb) (Ay (a3n L') hGdL))⟩;refine AQ hp ⟨Ne.symm hT9,Ne.symm hT6⟩ fun hp=>?_;refine AQ hp ⟨c32.symm,A7 (Ay (a1n _) hGdL)⟩ fun hp=>?_;refine AQ hp ⟨c31.symm,A7 (Ay (a2n _) hGdL)⟩ fun hp=>?_;refine AQ hp (hGK9 _ mH1) fun hp=>?_;refine AQ hp (hGK9 _ mH2) fun hp=>?_;refine AQ hp (hGK9 _ mH3) fun hp=>?_;refine AQ hp (hGK9 _ (.head _)) fun hp=>?_;refine AF hp (fun hp=>hGK9 _ (.tail _ (p3▸En (mm2 ⟨p,hp,rfl⟩)))) fun hp=>⟨(hrC p hp).1,hrG p hp⟩
   have hT1:(T0,Py (x0::xs))∈G1:=by rw [hG1];exact .head _
   have hGr1:(cB,oGrp)∈G1:=by rw [hG1];exact mH1
   refine SH (l:=T0) (items:=An (x0::xs)) rfl (by passes_own) (ShK w L' xa Gd T0 ((gsd.length:Int)+1) _ G1 lev gsd.flatten xe) (fun i m nx h=>by obtain ⟨_,_,_,_,_,_,_,rfl,_⟩:=h;exact .tail _ (.tail _ hT1)) F7 N8 ⟨oOne,oG,lG,vOne,rfl,rfl,rfl,rfl,dOne,hG,by rw [List.take_zero,C5];exact hlG⟩ ?fturn ?fdone
   case fturn=>
    clear F7 N7 N8 dOne hG hlG;rintro I i v m₁ nx oI h tk hv ⟨oOne,oG,lG,vOne,m1',m2',m3',rfl,dOne,hG,hlG⟩ hnI F3 N3;refine Aq (My hv) ?_;intro q hq e92;subst e92;have F8:=VK F3 m1' m2' m3';have N4:News g' L' h ((cC,oOne)::(I,oI)::(Gd,oG)::(cB,oGrp)::G1):=Bo N3 (A6 mH1 (A6 (.head _) (A6 mH2 (A6 (mT3 hGr1) fun q hq=>mT3 hq))));have iO:I≠cC:=(hnI _ (.head _)).symm;have iG:I≠Gd:=(hnI _ mH1).symm;have i2:I≠cB:=(hnI _ (.tail _ (.tail _ hGr1))).symm;refine Ba (Dg F8 N4 (.head _) dOne rfl fun h6 oOne6 F6 N6 dOne6=>?_);have N7:=JG (pre:=[]) N6 (AA _) (fc1 ⟨iO,fc1 ⟨AN hGdL,fc1 ⟨c32.symm,fun p hp=>(hG1a p hp).1⟩⟩⟩);rw [BS] at N7;clear F3 N3 F8 N4 N6;k_steps;rename Fr _ _ _ _=>F8;rename News _ _ _ _=>N8;refine ⟨?_⟩;have hqe:xe[i]? = some q.1:=by rw [←hxe,AX,hq];rfl
    have hks:lG.map (·.k)=gsd.flatten++xe.take i:=GS hlG fun _=>rfl;have hil:i<xe.length:=(List.getElem?_eq_some_iff.mp hqe).1;have hlen:lG.length≤60:=by
     have h1:=congrArg Bk hks;have h2:=hgk9;rw [AB,Ai,Bm] at h1;lia
    have hnew:∀e∈lG,e.k≠q.1:=by
     intro e he e9;have h1:q.1∈gsd.flatten++xe.take i:=by rw [←hks,←e9];exact mm2 ⟨e,he,rfl⟩
     have h2:gsd.flatten++xe=(gsd.flatten++xe.take i)++xe.drop i:=by rw [BP,List.take_append_drop]
     rw [h2] at hnd9;refine (CZ.mp hnd9).2.2 _ h1 _ ?_ rfl;rw [EX hil,(List.getElem?_eq_some_iff.mp hqe).2];exact .head _
    refine Gx F8 N8 mH2 hG (BH _ _ _ _) (Bw (by unfold kvD;rw [AB];lia)) fun h9 oG9 F9 N9 hd9=>?_;rw [Oz hnew] at hd9;have N10:=JG (pre:=[(cC,oOne6),(I,oI)]) N9 (fc1 ⟨A7 hGdL,fc1 ⟨iG,AA _⟩⟩) (fc1 ⟨A7 (Ay (a1n _) hGdL),fun p hp=>(hG1a p hp).2⟩);simp only [BJ,BS] at N10;clear F8 N8 N9;k_steps;rename Fr _ _ _ _=>F11;rename News _ _ _ _=>N11;refine ⟨?_⟩;refine ⟨_,_,_,_,rfl,F11,Bo N11 (A6 mH1 (A6 (.head _) (A6 mH2 fun q hq=>mT4 hq))),fc1 ⟨iO.symm,fc1 ⟨iG.symm,fun p hp=>hnI p (mT2 hp)⟩⟩,⟨oOne6,oG9,lG++[⟨q.1,(gsd.length:Int)+1,_⟩],_,rfl,rfl,rfl,rfl,dOne6,hd9,?_⟩⟩;rw [CB,hqe,←BP];simp only [AI,hlG];rw [show Tr (fun x=>(x,lev x)) (some q.1).toList=[(q.1,lev q.1)] from rfl,hlevx q.1 (AK hqe)];rfl
   clear F7 N7 N8 dOne hG hlG;rintro m₁ nx h tk ⟨oOne,oG,lG,vOne,m1',m2',m3',rfl,dOne,hG,hlG⟩ F3 N3;have F8:=VK F3 m1' m2' m3';have hxl:(An (x0::xs)).size=xe.length:=by rw [←hxe];unfold An;simp
   rw [hxl,BA (Ap _)] at hlG;refine CV (C3 c++(cC,oOne)::(cB,oGrp)::(cA,oCol)::(Gd,oG)::rest) ?_;intro tl5 htl5;have N4:News g' L' h ((T0,Py (x0::xs))::(xa,AT 362 d)::(d,tsR w t1 t2 t3 t4 t5 t6 n2 (.ref D) po nf)::(n2,o2)::(D,A1 #[] ep)::tl5):=by
    rw [hG1] at N3;exact Bo N3 (A6 mH2 (A6 mH5 (A6 mH6 (A6 mH7 (A6 mH8 fun q hq=>by
     rw [htl5] at hq;refine AF hq (fun hq=>mT9 (maL _ hq)) fun hq=>?_;exact AH hq (.head _) fun hq=>AH hq mH3 fun hq=>AH hq mH4 fun hq=>AH hq mH1 fun hq=>mT9 (maR _ hq))))))
   clear F3 N3;k_steps;refine QW ?_;k_steps;rename News _ _ _ _=>N10;rename Fr _ _ _ _=>F10;rename_i q _ l2;refine TQ (l2) ?_;(try clear l2);intro z1 z2 z3 z4 z5 z6;refine MH (K:=Mine.K w.params) (q:=q) (f:=345) (self:=.ref xa) (by revert X';k_fill;intro X';k_is) ?_;k_steps;have hlen9:(x0::xs).length≤12:=by
    have:=congrArg Bk hxe;rw [AB] at this;lia
   refine star_seq (ws:=(x0::xs).map fun q=>A5 q.1 q.2) F10 N10 mH1 rfl rfl (.inr rfl) (by unfold An;rfl) (by rw [DP];unfold An;simp at hlen9 ⊢;lia) fun h11 F11 N11=>?_;clear F10 N10;refine ⟨methP N11 (.head _) (X'.keeps F11.keep),?_⟩;refine call_meth N11 (.head _) ?_;have N12:News g' L' h11 ((xa,AT 362 d)::(d,tsR w t1 t2 t3 t4 t5 t6 n2 (.ref D) po nf)::(n2,o2)::(D,A1 (An []) ep)::(C3 c++(q,Eu (.ref 345) (.ref xa))::(T0,Py (x0::xs))::(cC,oOne)::(cB,oGrp)::(cA,oCol)::(Gd,oG)::rest)):=Bo N11 (A6 mH2 (A6 mH3 (A6 mH4 (A6 mH5 fun y hy=>by
    refine AF hy (fun hy=>mT6 (htl5▸maL _ hy)) fun hy=>?_;exact AH hy (.head _) fun hy=>AH hy mH1 fun hy=>mT6 (htl5▸maR _ hy)))))
   clear N11;have hqGK:q∉D::GK xa d n2 ns:=by
    intro hm;rcases mc1 hm with e | hm
    ·exact Av _ (e▸z5)
    rcases mc1 hm with e | hm
    ·exact Av _ (e▸z2)
    rcases mc1 hm with e | hm
    ·exact Av _ (e▸z3)
    rcases mc1 hm with e | hm
    ·exact Av _ (e▸z4)
    have hm2:q∈FB (C3 c):=by
     have h9:GK xa d n2 c=GK xa d n2 ns:=p3;unfold GK at h9;injection h9 with _ h9;injection h9 with _ h9;injection h9 with _ h9;rw [h9];exact hm
    refine Aq (mm1 hm2) ?_;intro y hy e;have:=Cs z6 y (htl5▸maL _ hy);rw [e] at this;exact Av _ this
   have hoffd:∀y∈(q,Eu (.ref 345) (.ref xa))::(T0,Py (x0::xs))::(cC,oOne)::(cB,oGrp)::(cA,oCol)::(Gd,oG)::rest,y.1∉D::GK xa d n2 ns:=
    fun y hy=>AQ hy hqGK fun hy=>AQ hy hs fun hy=>hR9 _ _ _ _ y hy
   have hcn:(c.map (·.nm)).Nodup:=by rw [p2];exact S.hnn
   have hcl2:c.length=ns.length:=by
    have:=congrArg Bk p2;rw [AB,AB] at this;exact this
   have hcsc:∀e∈c,e.sc.length≤1000:=by
    intro e he;have hm:e.nm∈ns.map (·.nm):=p2▸mm2 ⟨e,he,rfl⟩;refine Aq (mm1 hm) ?_;intro e0 he0 h0;have h1:=H6 S.hnn he0;have h2:=H6 hcn he;have h0':e0.nm=e.nm:=h0;rw [h0'] at h1;rw [p5,h1] at h2;have h3:=congrArg Bk h2;rw [AB,AB] at h3;have:=S.hscl e0 he0;lia
   have hxn:∀y∈(x0::xs),y.1∈ns.map (·.nm):=fun y hy=>by rw [←hgn9];exact r4 _ (hxe▸mm2 ⟨y,hy,rfl⟩)
   have hsl:=S.hl;refine Nv (Bi 350 500 gd (A0 "_law_shortest") _ L' 407 (.ref 406) _ (envX cn cs L a ccd cl::outer)) rfl (show 341≤350 by decide) rfl rfl (show 403≤500 by decide) ?_;refine Ux w p lo mean mg mb gd _ _ 407 (.ref 406) _ _ _ _ _ _ _ _ _ xa d n2 D o2 c (x0::xs) [] ep t1 t2 t3 t4 t5 t6 po nf _ _ _ B' F11 X' N12 T' rfl (by rw [p1];exact S.hd) S.lo2 hcn (by lia) (by lia) (fun y hy=>by rw [p2];exact hxn y hy) (fun _ _=>trivial) (by rw [p3];exact S.hnd)
    (fun y hy hm=>hoffd y hy (p3▸hm)) (by rw [p3];exact S.hD) rfl (by rw [BS,AB];exact hlen9) (fun y hy=>by rw [p4];exact TG _ _ _ (hxe▸mm2 ⟨y,hy,rfl⟩) (by rw [hgn9];exact hxn y hy)) (by rw [hxe];exact r3)
    (fun y hy z hz=>by rw [p4,HW];exact r5 _ (hxe▸mm2 ⟨y,hy,rfl⟩) _ (hxe▸mm2 ⟨z,hz,rfl⟩)) hcsc (fun x b hb=>by rw [p2];exact S.hcl x b (p5 x▸hb)) (B0 _)
    fun T2 c2 h12 tk12 k1 k2 k3 k4 hT2 hT2r F12 N13=>?_
   clear F11 N12;obtain ⟨c2n,c2r,c2e,c2t,c2f⟩:=c2;dsimp only at k1 k2 k3 k4 N13;rw [hxe,p4] at k4;have k5:BW c2n=(EY (Gl g xe,[]) xe).1:=congrArg Ci k4;have k6:c2r.map (·.1)=(EY (Gl g xe,[]) xe).2:=congrArg Dw k4;rw [←k5,←k6] at r6;clear k4;refine CV (C3 c2n++(q,Eu (.ref 345) (.ref xa))::(T0,Py (x0::xs))::(cC,oOne)::(cB,oGrp)::(cA,oCol)::(Gd,oG)::rest) ?_;intro tl13 htl13;rw [←htl13] at N13;k_steps;refine ⟨?_⟩;rename Fr _ _ _ _=>F14;rename News _ _ _ _=>N14;have N15:News g' L' h12 ((xa,AT 362 d)::(d,tsR w t1 t2 t3 t4 t5 c2t n2 (.ref D) po c2f)::(n2,o2)::(D,A1 (An c2r) c2e)::(C3 c2n++(q,Eu (.ref 345) (.ref xa))::(T0,Py (x0::xs))::(cC,oOne)::(cB,oGrp)::(cA,oCol)::(Gd,oG)::rest)):=Bo N14 fun y hy=>by
    rw [←htl13] at hy;exact .tail _ hy
   have k2':c2n.map (·.nm)=ns.map (·.nm):=k2.trans p2;have k3':GK xa d n2 c2n=GK xa d n2 ns:=k3.trans p3;have hrl2:c2r.length≤24∧∀y∈c2r,y.1∈c2n.map (·.nm):=by
    have h9:(BW c2n).map (·.nm)=c2n.map (·.nm):=by unfold BW;rw [Ao];rfl
    generalize hce:c2r.map (·.1)=ce at r6;have hcl3:c2r.length=ce.length:=by rw [←hce,AB]
    cases r6 with
    | nil=>
     have:c2r=[]:=by simpa using hce
     rw [this];exact ⟨B0 _,fun y hy=>absurd hy Au⟩
    | cons _ u2 _ u4 _ _=>
     exact ⟨by lia,fun y hy=>by rw [←h9];exact u4 _ (hce▸mm2 ⟨y,hy,rfl⟩)⟩
   show wpAny _ _ (call (.ref 324) [.ref xa]) _ _ _;refine CK (Bi 350 500 gd (A0 "_law_shortest") _ L' 407 (.ref 406) _ (envX cn cs L a ccd cl::outer)) rfl (show 341≤350 by decide) rfl rfl (show 403≤500 by decide) ?_;have hc2l:c2n.length=ns.length:=by
    have:=congrArg Bk k2';rw [AB,AB] at this;exact this
   refine Ip w p lo mean mg mb gd _ _ 407 (.ref 406) _ _ _ _ _ _ _ _ _ xa d n2 D o2 c2n c2r c2e t1 t2 t3 t4 t5 c2t po c2f _ _ B' F14 X' N15 T' rfl (by rw [k1,p1];exact S.hd) S.lo2 (by rw [k2'];exact S.hnn) (by lia) (by lia) hrl2.2
    (fun _ _=>trivial) (by rw [k3'];exact S.hnd) (fun y hy hm=>hoffd y hy (k3'▸hm)) (by rw [k3'];exact S.hD) fun T3 c4 t4'' po'' ep9 h15 tk15 j1 j2 j3 j4 hT3 hT3r F16 N16=>?_
   clear F14 N14 N15;have N17:=Bo N16 (news':=(T3,Py c2r)::(xa,AT 362 d)::(d,tsR w t1 t2 t3 t4'' t5 c2t n2 (.ref D) po'' c2f)::(n2,o2)::(D,A1 #[] ep9)::(C3 c4++(cC,oOne)::(cB,oGrp)::(cA,oCol)::(Gd,oG)::rest)) (A6 (.head _) (A6 mH1 (A6 mH2 (A6 mH3 (A6 mH4 fun y hy=>AF hy (fun hy=>mT5 (maL _ hy)) fun hy=>mT5 (maR _ (mT2 hy)))))));clear N16;refine CV (C3 c4++(cC,oOne)::(cB,oGrp)::(cA,oCol)::(Gd,oG)::rest) ?_;intro tl16 htl16;rw [←htl16] at N17;k_steps;refine ⟨?_⟩;rename Fr _ _ _ _=>F18;rename News _ _ _ _=>N18;rw [htl16] at N18;rw [show (gsd.length:Int)+1=((gsd++[xe]).length:Int) by rw [Ai];rfl] at F18;dsimp +zetaDelta only [WEnd];refine ⟨gs2.length,by rw [hn];exact Al _,c4,c2r,T3,oG,oOne,oGrp,lG,vOne,BW c2n,gsd++[xe],gs2,t4'',c2t,_,po'',c2f,ep9,_,_,_,rfl,rfl,rfl,rfl,F18,N18,?_,?_,?_,?_,j4,r6,?_,rfl,dOne,dGrp,hG,?_,?_,?_⟩
   ·rw [j1,k1,p1]
   ·rw [j2,k2']
   ·rw [j3,k3']
   ·intro x;have hgd:∀(l:List Int) (st:Gr×List Int) (x:Int),gsc (EY st l).1 x=gsc st.1 x:=by
     intro l
     induction l with
     | nil=>intro st x;rfl
     | cons y l ih=>intro st x;show gsc (EY (Dl st y) l).1 x=_;rw [ih,H7]
    rw [j4,HW,k5,hgd,←p4];exact p5 x
   ·rw [BP];exact hgs
   ·rw [hlG,LY];simp
   ·exact fun hm=>hT3 (by rw [k3'];exact hm)
   exact fun y hy=>hT3r y (mT2 hy)
theorem QG (w:World)(p:AY)(lo:List Str)(mean:CG→Option Value)(mg mb:Str→Option Value)
  (gd:Option (List Code)) (cn:Str) (cs:Scope) (a:Addr) (ccd:Value) (cl:List (Str×Addr)) (A₀:AO) (base h₀:Heap) (L:Addr) (m:Str→Option Value) (rest:List (Addr×Obj)) (s:A4)
  (xa d n2:Addr) (o2:Obj) (ns:List NI) (t1 t2 t3 t4 t5 t6:Tok) (Q E:Value→A4→Prop)
  (B:Below A₀ base [] h₀) (F:Fr h₀ L s.heap m) (X:(Mine.K w.params).In h₀) (N:News h₀ L s.heap ((xa,AT 362 d)::(d,tsD w t1 t2 t3 t4 t5 t6 n2)::(n2,o2)::(C3 ns++rest))) (T:Top p lo mean mg mb h₀) (hk:cs.kind = .function)
  (XB:(Mine.K w.params).In base) (TB:Top p lo mean mg mb base)
  (hd:o2.IsDictOf (AM rw_nq0317_02.prog w) (Da ns)) (lo2:(n2==BV)=false) (hnn:(ns.map (·.nm)).Nodup) (hl:ns.length≤100)
  (hcl:∀e∈ns,∀q∈e.sc,q.1∈ns.map (·.nm)) (hnd:(GK xa d n2 ns).Nodup) (tl:List (Addr×Obj)) (htl:tl=C3 ns++rest) (hoff:∀p∈rest,p.1∉GK xa d n2 ns)
  (hret:∀b h' tk' D ys ep,ys.toList=IV ns→(b=true→∀e∈ns,Acc (FU ns) e.nm)→(b=false→∃e∈ns,¬Acc (FU ns) e.nm)→Fr h₀ L h' m→News h₀ L h' ((xa,AT 362 d)::(d,tsR w t1 t2 t3 t4 t5 t6 n2 (.ref D) 0 0)::(n2,o2)::(C3 ns++(D,A1 ys ep)::rest))→
   (∀p∈(xa,AT 362 d)::(d,tsD w t1 t2 t3 t4 t5 t6 n2)::(n2,o2)::tl,p.1≠D)→Q (.bool b) { s with heap:=h',toks:=tk' }) :
  wpAny (model (rw_nq0317_02.prog) w) (Bi 340 400 gd cn cs L a ccd cl []) (call (.ref 402) [.ref xa]) Q E s:=by
 k_with "+39" =>skip
 k_with "39" =>(fail_if_success k_extra "+40")
 k_with "k" =>k_extra "39"
 k_with "ah" =>k_extra "39"
 k_with "call ref" =>(k_extra "39";((with_unfolding_all show wpAny _ _ (call (A3 317) _) _ _ _);refine Af ?_))
 rw [←htl] at N;have XB':=XB;have TB':=TB;revert X
 k_fill
 intro X;refine BN ?_
 k_dflt (refine' Nt (binds:=[(A0 "sorter",.ref xa)]) ?k1 ?k2 ?k3 ?k4 ?k5 ?kA ?k6 ?k7 ?k8 ?k9 ?kB ?_ ?cK ?c2 ?c3 ?c4 ?c5;(case kA=>exact rfl);(case k2=>k_asm);(case k1=>k_asm);(case k3=>k_asm);(case k4=>k_asm);(case k5=>k_asm);(case k6=>k_is);(case k7=>k_is);(case k8=>ktr_room);(case k9=>first | exact CA rfl | exact Q1 (by k_in) rfl (by k_is) rfl rfl rfl);(case kB=>exact locs rfl);(case cK=>assumption);(case c2=>exact rfl);(case c3=>exact rfl);(case c4=>exact rfl);(case c5=>decide);k_whole;intro g' L' h' FG' F' N' B' X' T' D';(try dsimp only);(try k_fold))
 refine (let A9:AO:=_;(?_:wpAny _ A9 _ _ _ _));k_steps;refine ⟨?_⟩;refine wpAny_Try_except ?_;k_steps;refine ⟨?_⟩;rename Fr _ _ _ _=>F1;rename News _ _ _ _=>N1;rw [htl] at N1;refine CK (Bi 350 500 gd (A0 "_law_smooth") _ L' 402 (.ref 401) [] [envX cn cs L a ccd cl]) rfl (show 341≤350 by decide) rfl rfl (show 403≤500 by decide) ?_;refine Oh _ _ _ _ _ _ _ _ _ _ _ _ _ base _ g' _ _ rest _ xa d n2 o2 ns t1 t2 t3 t4 t5 t6 _ _ B' F1 X' N1 T' rfl XB' TB' D' FY.refl hd lo2 hnn hl hcl (fun _ _=>trivial) hnd tl htl hoff ?hrP ?heP
 case hrP=>
  intro h8 tk8 g8 Dq ys ep q1 q2 T8 F8 N8 q3 B8 X8 P8 D8;clear F1 N1;refine CV (C3 ns++(Dq,A1 ys ep)::rest) ?_;intro tl8 htl8;rw [←htl8] at N8;k_steps;rename News h₀ _ _ _=>kN;rename Fr h₀ _ _ _=>kF;rw [htl8] at kN;exact hret true _ _ Dq ys ep q1 (fun _=>q2) (fun e=>nomatch e) kF kN q3
 intro G g8 e t vs l its el h8 tk8 Dq ys ep q1 q2 T8 B8 F8 R8 q4 q5;clear F1 N1;k_steps;refine caught_SO0 (KF:=Mine.K w.params) R8 F8 B8 q4 XB' TB' (D'.turn T8) T8 ?exC ?qC (fun h9 g9 news2 T9 F9 N9 _ Nl9 B9 X9 P9 D9=>?kC)
 case exC=>k_is
 case qC=>kts_isx
 clear F8 R8 N9;have Nl:=Bo Nl9 (fun q hq=>.tail _ hq);clear Nl9;refine CV (C3 ns++(Dq,A1 ys ep)::rest) ?_;intro tl8 htl8;rw [←htl8] at Nl;k_steps;rename News h₀ _ _ _=>kN;rename Fr h₀ _ _ _=>kF;rw [htl8] at kN;exact hret false _ _ Dq ys ep q1 (fun e=>nomatch e) (fun _=>q2) kF kN q5
section
variable {prog:AY}{w:World}{A:AO}{E:Value→A4→Prop}{s:A4}{env:Env}{h₀:Heap}{Q:Flow→A4→Prop}{body:List Stmt}
theorem Nm {xi xc : Str} {pk pv pt : Pos} {x1 : Nat} {l : Addr} {items : Array Value} {m : Str → Option Value} {news : List (Addr × Obj)} (hh : A.handled = none) 
  (hxi : env.kindOf xi = some .local) (hxc : env.kindOf xc = some .local)
  (hp : (env.scope.kind == .class || (env.scope.kind == .module && env.locals != env.globals)) = false) (hE : DR (model prog w) A env E)
  (hl : s.heap.IsList l items) (hlL : l ≠ env.locals)
  (F : Fr h₀ env.locals s.heap m) (N : News h₀ env.locals s.heap news) (J : Nat → (Str → Option Value) → List (Addr × Obj) → Prop) (h0 : J 0 m news)
  (turn : ∀ (i : Nat) (v : Value) ti m₁ nx h tk own wr, items[i]? = some v → J i m₁ nx → (∀ p ∈ nx, p.1 ∉ wr) → (∀ b ∈ wr, ∃ o, (b, o) ∈ own) → (∀ p ∈ own, p.1 ∈ wr ∨ p.1 = l) →
   Fr h₀ env.locals h (fun y => if y = xc then some v else if y = xi then some (.int i ti) else m₁ y) → News h₀ env.locals h (nx ++ own) →
   wpAny (model prog w) A (execs body env) (TurnPost h₀ env.locals wr own (J (i + 1)) { s with heap := h, toks := tk } Q) E { s with heap := h, toks := tk })
  (done : ∀ m₁ nx h tk, J items.size m₁ nx → Fr h₀ env.locals h m₁ → News h₀ env.locals h nx → Q .next { s with heap := h, toks := tk }) :
  wpAny (model prog w) A (call (.type "enumerate") [.ref l]) (fun xv s₁ => wpAny (model prog w) A (CR xv) (fun it s₂ => ML prog w A env (.Tuple [.Name xi pk, .Name xc pv] x1 pt) body Q E it s₂) E s₁) E s := by
 have hLs : env.locals < s.heap.objs.size := F.ns.lt;have hab : h₀.objs.size ≤ env.locals := F.above;refine Aq (id hl) ?_; intro ol hol _;have hlt : l < s.heap.objs.size := AZ hol;refine call_enumerate_list hl fun h' he hit hsz hk => ?_;have F' : Fr h₀ env.locals h' m := ⟨F.ns.keeps hk, fun b o e => hk b o (F.keep b o e), F.above⟩;have N' : News h₀ env.locals h' news := fun p hp => ⟨hk _ _ (N p hp).1, (N p hp).2⟩;refine wpAny_pyIter_enum he ?_;refine UU (P2 := fun i v0 v1 => ∃ ti, items[i]? = some v1 ∧ v0 = .int i ti) hh (WalksT.enumerateD (Draws.list (A := A.in1) hh s.heap.objs.size l (A7 hlt) items) (s.heap.objs.size + 1) (EQ _) (fun hm => ?_) (by simp)) ?_ ?_ hxi hxc hp hE ?_ ?_ ?_ ⟨⟨_, by simpa using he⟩, hit, hl.at fun o e => hk l o e⟩ F' N' J h0 ?_ ?_
 ·rcases mc1 hm with e | hm
  ·exact EQ _ e
  have h9 := ms1 hm;rw [← h9] at hlt;exact Nat.not_lt.mpr (Dh _) hlt
 ·rintro i vals ⟨ti, v, hc, rfl⟩;exact ⟨_, _, rfl, ti, hc, rfl⟩
 ·rintro i h ⟨⟨old, he'⟩, hs'⟩ b hb;refine AQ hb ?_ fun hb => ?_
  ·exact ⟨_, he'⟩
  rw [ms1 hb];refine Aq (hs'.1) ?_; intro o ho _;exact ⟨o, ho⟩
 ·intro hm;rcases mc1 hm with e | hm
  ·exact A7 (AU hLs) e
  rcases mc1 hm with e | hm
  ·exact A7 hLs e
  exact hlL (ms1 hm).symm
 ·intro b hb;refine AQ hb ?_ fun hb => ?_
  ·exact Cz (Am hab (Be (AU hLs)))
  rw [ms1 hb]; exact Cz (Am hab (Be hLs))
 ·intro p hp' hb;have hq1 : p.1 < s.heap.objs.size := AZ (N p hp').1;rcases mc1 hb with e1 | hb
  ·exact A7 (AU hq1) e1
  exact A7 hq1 (ms1 hb)
 ·rintro i v0 v1 m₁ nx h tk own hi ⟨ti, hc, rfl⟩ hJ hn hw hf F₁ N₁;refine turn i v1 ti m₁ nx h tk own _ hc hJ hn hw (fun p hp => ?_) F₁ N₁;have hm := hf p hp;rcases mc1 hm with e | hm
  ·exact .inl (e ▸ .head _)
  rcases mc1 hm with e | hm
  ·exact .inl (e ▸ mH1)
  exact .inr (ms1 hm)
 exact fun m₁ nx h tk hJ F₁ N₁ => done m₁ nx h tk hJ F₁ N₁
theorem TO {σ : Type} {xi xc : Str} {pk pv pt : Pos} {x1 : Nat} {l : Addr} {items : Array Value} {m₀ : Str → Option Value} (Led : σ → List (Addr × Obj)) (ps : σ → List (Str × Value)) (C7 : List Str) (P : Nat → σ → Prop) (c₀ : σ) (hh : A.handled = none) 
  (hxi : env.kindOf xi = some .local) (hxc : env.kindOf xc = some .local)
  (hp : (env.scope.kind == .class || (env.scope.kind == .module && env.locals != env.globals)) = false) (hE : DR (model prog w) A env E)
  (hl : s.heap.IsList l items) (hlL : l ≠ env.locals)
  (F : Fr h₀ env.locals s.heap m₀) (N : News h₀ env.locals s.heap (Led c₀)) (hP : P 0 c₀) (hk : ∀ p ∈ ps c₀, m₀ p.1 = some p.2)
  (turn : ∀ (i : Nat) (c : σ) (v : Value) ti (u : Str → Option Value) h tk own wr, items[i]? = some v → P i c → (∀ p ∈ Led c, p.1 ∉ wr) → (∀ b ∈ wr, ∃ o, (b, o) ∈ own) → (∀ p ∈ own, p.1 ∈ wr ∨ p.1 = l) →
   Fr h₀ env.locals h (fun y => if y = xc then some v else if y = xi then some (.int i ti) else kstB (fun z => if C7.contains z then u z else m₀ z) (ps c) y) → News h₀ env.locals h (Led c ++ own) →
   wpAny (model prog w) A (execs body env) (TurnPost h₀ env.locals wr own (SJ Led ps [xi, xc] C7 m₀ P (i + 1)) { s with heap := h, toks := tk } Q) E { s with heap := h, toks := tk })
  (done : ∀ (c : σ) (u : Str → Option Value) h tk, P items.size c → Fr h₀ env.locals h (fun y => if y = xc then u y else if y = xi then u y else kstB (fun z => if C7.contains z then u z else m₀ z) (ps c) y) → News h₀ env.locals h (Led c) → Q .next { s with heap := h, toks := tk }) :
  wpAny (model prog w) A (call (.type "enumerate") [.ref l]) (fun xv s₁ => wpAny (model prog w) A (CR xv) (fun it s₂ => ML prog w A env (.Tuple [.Name xi pk, .Name xc pv] x1 pt) body Q E it s₂) E s₁) E s := by
 refine Nm hh hxi hxc hp hE hl hlL F N (SJ Led ps [xi, xc] C7 m₀ P) ⟨c₀, rfl, hP, hk, fun _ _ _ _ => rfl⟩ ?_ ?_
 ·rintro i v ti m₁ nx h tk own wr hc ⟨c, rfl, hPc, h1, h2⟩ hn hw hf F₁ N₁;rw [OR h1 h2] at F₁;exact turn i c v ti m₁ h tk own wr hc hPc hn hw hf F₁ N₁
 rintro m₁ nx h tk ⟨c, rfl, hPc, h1, h2⟩ F₁ N₁;rw [OQ h1 h2] at F₁;exact done c m₁ h tk hPc F₁ N₁
end
theorem OY {prog:AY}{w:World}{A:AO}{E:Value→A4→Prop}{s:A4}{h₀:Heap}{L l:Addr}{m:Str→Option Value}{news:List (Addr×Obj)}{its:Array Value}{n:Nat}{k:Int}{t:Tok}{v:Value}{Q:Unit→A4→Prop}
  (F:Fr h₀ L s.heap m) (N:News h₀ L s.heap news) (hm:(l,A1 its n)∈news) (h0:0≤k) (h1:k<its.size) (hz:its.size≤64)
  (h:∀h' n' v',v'=v→Fr h₀ L h' m→News h₀ L h' (CD l (A1 (its.setIfInBounds k.toNat v') n') news)→Q () { s with heap:=h' }):wpAny (model prog w) A (setItem (.ref l) (.int k t) v) Q E s:=by
 refine ki_setAt (N _ hm).1 h0 (by lia) h1 ?_;have hs:EB l s.heap (s.heap.update l (Ar (·.setIfInBounds k.toNat v))):=BL ..;refine Bp (⟨_,rfl⟩:∃n',Ar (·.setIfInBounds k.toNat v) (A1 its n)=A1 (its.setIfInBounds k.toNat v) n') ?_;intro n' hn';exact h _ n' v rfl (F.change hs (N _ hm).2.1 (N _ hm).2.2) (C6 N hm hs (by rw [←hn'];exact Aw _ (N _ hm).1 rfl))
theorem Gk {vs:List Value}{xs:List Int}{i:Nat}{v:Value}(h:CJ vs xs)(e:vs[i]? = some v):∃x t,v = .int x t∧xs[i]? = some x:=by
 induction h generalizing i with
 | nil=>rw [List.getElem?_nil] at e;cases e
 | cons x t h ih=>
  cases i with
  | zero=>exact ⟨x,t,(BM e).symm,rfl⟩
  | succ i=>exact ih e
theorem M5 {vs:List Value}{xs:List Int}(i:Nat)(y:Int)(t:Tok)(h:CJ vs xs):CJ (vs.set i (.int y t)) (xs.set i y):=by
 induction h generalizing i with
 | nil=>exact .nil
 | cons x u h ih=>
  cases i with
  | zero=>exact .cons y t h
  | succ i=>exact .cons x u (ih i)
structure WC where
 vs:List Value
 as:List Int
 ep:Nat
structure WS where
 its:Array Value
 ep:Nat
 ss:List Str
theorem QH {c:Int}:(Bh (A0 "abc") (some (c.fmod 4)) (some (c.fmod 4+1))).length≤1:=by
 have h0:=Int.fmod_nonneg_of_pos c (show (0:Int)<4 by decide);have h1:=MP c (show (0:Int)<4 by decide);generalize c.fmod 4=r at *;have:r=0∨r=1∨r=2∨r=3:=by lia
 rcases this with rfl | rfl | rfl | rfl<;>decide +kernel
theorem Qn {l:List Str}(h:∀x∈l,x.length≤1):(PySem.Txt.join (A0 "") l).length≤l.length:=by
 show (Builtin.Str.glued (A0 "") l).length≤_;rw [StrLaws.glued_eq_join]
 cases l with
 | nil=>exact B0 _
 | cons a r=>
  have z:(A0 "").length=0:=by decide
  rw [len_join_cons,z,Nat.mul_zero,Nat.add_zero];have:=StrLaws.sumLen_le (a::r) h;rw [Nat.mul_one] at this;exact this
theorem IP {vs:List Value}{ss:List Str}(h:StrsAre vs ss):CarriedAll vs (ss.map fun a=>PyData.str a):=by
 induction h with
 | nil=>exact .nil
 | cons x t h ih=>exact .cons (.str x t) ih
theorem Ij {prog:AY}{w:World}{A:AO}{E:Value→A4→Prop}{s:A4}{D:Addr}{its:Array Value}{ss:List Str}{lo hi:Option Int}{t:Tok}{Q:Value→A4→Prop}(hl:s.heap.IsList D (slicePick its lo hi none))(hs:StrsAre its.toList ss)(h1:∀x∈ss,x.length≤1)(hn:ss.length=12)(h4:kms_hi hi 12-Iv lo 12≤4)
  (h:∀x t' k,x.length≤4→Q (.str x t') { s with toks:=k }):wpAny (model prog w) A (call (.builtin "str.join") [.str (A0 "") t,.ref D]) Q E s:=by
 have e:its.toList.length=12:=by rw [hs.length,hn]
 have q:StrsAre ((its.toList.drop (Iv lo 12)).take (kms_hi hi 12-Iv lo 12)) ((ss.drop (Iv lo 12)).take (kms_hi hi 12-Iv lo 12)):=(hs.drop' _).take' _;have hl2:s.heap.IsList D ((its.toList.drop (Iv lo 12)).take (kms_hi hi 12-Iv lo 12)).toArray:=by
  have e2:=kms_pick_eq its lo hi;unfold kms_pick at e2;rw [e] at e2;rw [←e2];exact hl
 have hm:∀a∈(ss.drop (Iv lo 12)).take (kms_hi hi 12-Iv lo 12),a.length≤1:=fun a ha=>h1 a (List.mem_of_mem_drop (List.mem_of_mem_take ha));have hz:((ss.drop (Iv lo 12)).take (kms_hi hi 12-Iv lo 12)).length≤4:=by rw [Bm];exact Am (Nat.min_le_left _ _) h4
 refine KT.join_B (l:=(ss.drop (Iv lo 12)).take (kms_hi hi 12-Iv lo 12)) (g:=fun a=>a) 1 hl2 (IP q) hm (by lia) (by decide) fun t' k=>?_;refine h _ t' k ?_;rw [List.map_id'];exact Am (Qn hm) hz
theorem RM {prog:AY}{w:World}{A:AO}{E:Value→A4→Prop}{s:A4}{h₀:Heap}{L l:Addr}{m:Str→Option Value}{news:List (Addr×Obj)}{its:Array Value}{n:Nat}{x:Value}{Q:Value→A4→Prop}(F:Fr h₀ L s.heap m)(N:News h₀ L s.heap news)(hm:(l,A1 its n)∈news)(hsz:its.size≤FD)
  (h:∀h' v,v=x→Fr h₀ L h' m→News h₀ L h' (CD l (A1 (its.push v) (n+1)) news)→Q .none { s with heap:=h' }):wpAny (model prog w) A (call (.builtin "list.append") [.ref l,x]) Q E s:=
 CW F N hm hsz fun h' F' N'=>h h' x rfl F' N'
noncomputable abbrev Ir {h₀ h:Heap}{L:Addr}{m:Str→Option Value}(_:Fr h₀ L h m):Str→Option Value:=m
theorem wd1 {a g m:Int}{i:Nat}(e:a=g+m)(h:0≤g∧g≤3+3*(i:Int))(m0:0≤m)(m1:m<4):0≤a∧a≤3+3*((i+1:Nat):Int):=by
 subst e;exact ⟨BQ h.1 m0,AP (Int.add_le_add h.2 (G0 m1)) (show 3+3*(i:Int)+3≤3+3*((i+1:Nat):Int) by lia)⟩
set_option tactic.hygienic true in
theorem SB (w:World)(p:AY)(lo:List Str)(mean:CG→Option Value)(mg mb:Str→Option Value)
  (gd:Option (List Code)) (cn:Str) (cs:Scope) (a:Addr) (ccd:Value) (cl:List (Str×Addr)) (outer:List Env) (A₀:AO) (base h₀:Heap) (L:Addr) (m:Str→Option Value) (rest:List (Addr×Obj)) (s:A4)
  (lx:Addr) (vs:List Value) (xs:List Int) (Q E:Value→A4→Prop)
  (B:Below A₀ base outer h₀) (F:Fr h₀ L s.heap m) (X:(Mine.K w.params).In h₀) (N:News h₀ L s.heap rest) (T:Top p lo mean mg mb h₀) (hk:cs.kind = .function)
  (hL:h₀.IsList lx vs.toArray) (hI:CJ vs xs) (hlen:xs.length≤63)
  (hret:∀D x y z t1 t2 t3 ep h' tk',x.length≤4→y.length≤4→z.length≤4→(∀p∈rest,p.1≠D)→Fr h₀ L h' m→News h₀ L h' ((D,A1 #[.str x t1,.str y t2,.str z t3] ep)::rest)→Q (.ref D) { s with heap:=h',toks:=tk' }) :
  wpAny (model (rw_nq0317_02.prog) w) (Bi 340 400 gd cn cs L a ccd cl outer) (call (.ref 371) [.ref lx]) Q E s:=by
 k_with "+40" =>skip
 k_with "40" =>(fail_if_success k_extra "+41")
 k_with "p" =>k_extra "40"
 k_with "execs cons" =>(k_extra "40";(k_here;(try dsimp only);first | k_made | ((fail_if_success (fail_if_success k_gentoks));refine (let tk:Nat:=_;(?_:wpAny _ _ _ _ _ ⟨_,_,_,tk,_⟩))) | ((with_reducible refine GX ?_);(try dsimp only);(try (with_reducible rename News _ _ _ ((_,A1 (Ge (A5 _ _::_)) _)::_)=>nQ;refine (let oS:Obj:=_;have N9:News _ _ _ ((_,oS)::_):=nQ;?_);clear nQ;revert N9;intro _));refine (let qv:Flow→A4→Prop:=_;(?_:wpAny _ _ _ qv _ _)))))
 k_with "h" =>k_extra "40"
 k_with "t" =>k_extra "40"
 k_with "call type:enumerate" =>(k_extra "40";refine Af ?_)
 k_with "bj" =>k_extra "40"
 k_with "bi" =>k_extra "40"
 k_with "ao" =>k_extra "40"
 k_with "TurnPost" =>(k_extra "40";refine Af ?_)
 k_with "o" =>k_extra "40"
 revert X
 k_fill
 intro X;refine BN ?_
 k_dflt (refine' HJ (binds:=[(A0 "script",.ref lx)]) ?k1 ?k2 ?k3 ?k4 ?k5 ?kA ?kF ?kK ?k6 ?k7 ?k8 ?k9 ?kB ?_ ?c2 ?c3 ?c4 ?c5;(case kA=>exact rfl);(case kF=>exact rfl);(case kK=>assumption);(case k1=>k_asm);(case k2=>k_asm);(case k3=>k_asm);(case k4=>k_asm);(case k5=>k_asm);(case k6=>k_is);(case k7=>k_is);(case k8=>ktr_room);(case k9=>exact CA rfl);(case c5=>decide);(case kB=>exact locs rfl);(case c2=>exact rfl);(case c3=>exact rfl);(case c4=>exact rfl);k_whole;intro g' L' h' FG' F' N' B' X' T';(try dsimp only);(try k_fold))
 refine (let A9:AO:=_;(?_:wpAny _ A9 _ _ _ _));have hL':g'.IsList lx vs.toArray:=hL.at fun o e=>FG'.keep lx o e;k_steps;refine ⟨?_⟩;rename Fr _ _ _ _=>F2;rename News _ _ _ _=>N2;rename CJ _ (List.take 60 xs)=>hI2;rename_i lc _ lc1 _ D2 vs2 hh2 hC2 _ lD;have hDl:D2≠L':=(N2 _ (.head _)).2.1;refine Aq (⟨_,Bo N2 (A6 mH1 (A6 (.head _) fun q hq=>mT2 hq)),.cons _ _ (.cons _ _ (.cons _ _ (.cons _ _ (.cons _ _ (.cons _ _ (.cons _ _ (.cons _ _ (.cons _ _ (.cons _ _ (.cons _ _ (.cons _ _ .nil)))))))))))⟩:∃vs0:List Value,News g' L' hh2 ((lc,A1 vs0.toArray 0)::(D2,A1 vs2.toArray 0)::rest)∧CJ vs0 [0,0,1,3,2,0,0,3,1,2,2,3]) ?_;intro vs0 N3 hI0;have hDl2:s.heap=s.heap:=rfl;refine TO (σ:=WC) (fun c=>(lc,A1 c.vs.toArray c.ep)::(D2,A1 vs2.toArray 0)::rest) (fun _=>[]) []
  (fun i c=>CJ c.vs c.as∧c.as.length=12∧∀a∈c.as,0≤a∧a≤3+3*i)
  ⟨vs0,[0,0,1,3,2,0,0,3,1,2,2,3],0⟩ rfl rfl rfl rfl (by passes_own) (BI N2 (.head _)) hDl F2 N3 ⟨hI0,rfl,(show ∀a∈[(0:Int),0,1,3,2,0,0,3,1,2,2,3],0≤a∧a≤3+3*((0:Nat):Int) by decide)⟩ (AA _) ?turn ?done
 case turn=>
  clear F2 N2 N3;intro i c v ti u h tk own wr hv hP hoffw hw hf F3 N3
  with_reducible refine Dj hP ?_;(try clear hP);intro p1 p2 p3
  obtain ⟨cvs,cas,cep⟩:=c;dsimp only at p1 p2 p3 N3 F3 hoffw;have F4:Fr g' L' h (Ir F3):=F3;dsimp only [Ir] at F4;refine (let mt1:Str→Option Value:=_;have F9:Fr _ _ _ mt1:=F4;?_);clear F4;have F4:=F9;clear F9;clear F3;refine CV (rest++own) ?_;intro tl htl;have N4:News g' L' h ((lc,A1 cvs.toArray cep)::(D2,A1 vs2.toArray 0)::tl):=by rw [htl];exact N3
  clear N3;refine HA (Gk (i:=i) (v:=v) hI2 (by simpa using hv)) ?_;intro xv tv e92 hx;subst e92;have hi60:i<60:=by
   have:=(List.getElem?_eq_some_iff.mp hx).1;lia
  k_steps;refine ⟨?_⟩;refine OY F4 N4 (.head _) (Int.fmod_nonneg (by lia) (by decide)) ?_ ?_ fun h8 n8 v8 hv8 F8 N8=>?_
  ·rw [Ae,p1.length,p2];exact MP _ (by decide)
  ·rw [Ae,p1.length,p2];decide
  refine HA (⟨_,_,hv8,rfl⟩:∃y ty,v8 = .int y ty∧y=cas.getD ((i:Int).fmod 12).toNat 0+xv.fmod 4) ?_;intro y ty e92 hy;subst e92;clear hv8;refine CV (((i:Int).fmod 12).toNat) ?_;intro kk hkk;rw [←hkk] at hy N8;have e9:∀v,cvs.toArray.setIfInBounds kk v=(cvs.set kk v).toArray:=fun v=>by simp
  rw [e9] at N8;have hx0:0≤xv.fmod 4:=Int.fmod_nonneg_of_pos _ (by decide);have hx1:xv.fmod 4<4:=MP _ (by decide);have hg:0≤cas.getD kk 0∧cas.getD kk 0≤3+3*(i:Int):=by
   by_cases hk9:kk<cas.length
   ·have e:cas.getD kk 0=cas[kk]:=by simp [List.getD,hk9]
    rw [e];exact p3 _ (Fo hk9)
   have e:cas.getD kk 0=0:=by simp [List.getD,Nat.not_lt.mp hk9]
   rw [e];lia
  k_steps;refine ⟨?_⟩;dsimp only [TurnPost];rename Fr _ _ _ _=>F10;rename News _ _ _ _=>N10;refine HT (⟨cvs.set kk (.int y ty),cas.set kk y,n8⟩:WC) F10 N10 (fun q hq=>?_) (fun q hq=>?_) (fun q hq=>?_) ⟨M5 _ _ _ p1,by rw [List.length_set];exact p2,fun a ha=>?_⟩ (AA _) (fun z h1 _ h2=>?_)
  ·refine AH hq (AV (.head _)) fun hq=>?_;refine AH hq (A8 mH1 (AN lD.1)) fun hq=>?_;refine A8 (mT2 (htl▸maL _ hq)) (A7 (lc1 q hq))
  ·refine A8 (mT2 (htl▸maR _ hq)) ?_;intro e;rcases hf q hq with h | h
   ·exact hoffw (lc,A1 cvs.toArray cep) (.head _) (e▸h)
   exact A7 lD.1 (e.symm.trans h)
  ·refine AQ hq (hoffw (lc,A1 cvs.toArray cep) (.head _)) fun hq=>?_;exact hoffw q (.tail _ hq)
  ·rcases List.mem_or_eq_of_mem_set ha with h | rfl
   ·exact ⟨(p3 a h).1,AP (p3 a h).2 (Int.add_le_add_left (Int.mul_le_mul_of_nonneg_left (Int.ofNat_le.mpr (Dh i)) (by decide)) 3)⟩
   rename _=cas.getD kk 0+_=>hy9;exact wd1 hy9 hg hx0 hx1
  have e1:z≠A0 "k" :=CU h1 (by decide);have e2:z≠A0 "x" :=CU h1 (by decide);dsimp only [mt1];rw [if_neg e2,if_neg e1];exact EI h2
 clear F2 N2 N3;intro c u h tk hP F3 N3
 with_reducible refine Dj hP ?_;(try clear hP);intro p1 p2 p3
 obtain ⟨cvs,cas,cep⟩:=c;dsimp only at p1 p2 p3 N3 F3;have F4:Fr g' L' h (Ir F3):=F3;dsimp only [Ir] at F4;clear F3;have hsz:vs2.length≤60:=by rw [hI2.length,Bm];exact Nat.min_le_left _ _
 have N4:News g' L' h ((lc,A1 cvs.toArray cep)::rest):=Bo N3 (A6 (.head _) fun q hq=>mT2 hq);clear N3;k_steps;refine ⟨?_⟩;refine HD (h₀:=g') (L:=L') (m:=Ir F4) (by rfl) (by with_unfolding_all rfl) (by decide) (by rfl) (by decide) ?_;k_steps;refine ⟨?_⟩;rename Fr _ _ _ _=>F6;rename News _ _ _ _=>N6;dsimp only [Ir];have hlcL:lc≠L':=(N6 _ (.head _)).2.1;refine CV ((lc,A1 cvs.toArray cep)::rest) ?_;intro nw hnw;refine KS (σ:=WS) (.list _ _ _ _) (fun I D C=>II) rfl rfl (Jx rfl (BI N6 (.head _))) F6 (hnw▸N6) (fun hm=>hlcL (ms1 hm).symm)
  (fun D c=>(D,A1 c.its c.ep)::nw) (fun D i c m₁=>StrsAre c.its.toList c.ss∧c.ss.length=i∧∀x∈c.ss,x.length≤1) (fun D oD=>⟨#[],0,[]⟩) (fun D oD ho=>by subst ho;rfl) (fun D oD ho=>⟨.nil,rfl,AA _⟩) ?Dz ?cdone
 case Dz=>
  intro C2 D3 I j v c oC m₁ h t7 own2 E' hDC hCI hDI hoff hi6 hv1 hP hnw4 hown hof hn F2 N2
  with_reducible refine Dj hP ?_;(try clear hP);intro q1 q2 q3
  obtain ⟨its,iep,ss⟩:=c;dsimp only at q1 q2 q3 N2;refine HA (Gk (i:=j) (v:=v) p1 (by simpa using hv1)) ?_;intro cc tc e92 hcc;subst e92;refine CV (α:=Str→Option Value) (fun y=>if y=A0 "cell" then some (A5 cc tc) else m₁ y) ?_;intro m₃ hm₃;have hkk:m₃ (A0 "cell")=some (A5 cc tc):=by rw [hm₃];rfl
  rw [←hm₃] at hn;have hcb:=p3 cc (AK hcc);have hcb2:(vs2.toArray.size:Int)≤60:=by rw [Ae];lia
  refine CV (nw++own2) ?_;intro tlx htlx;have N7:News g' L' h ((C2,oC)::(D3,A1 its iep)::tlx):=by
   rw [htlx];exact N2
  have hD3:∀q∈tlx,q.1≠D3:=by
   intro q hq;rw [htlx] at hq;refine AF hq (fun hq=>(hoff q hq).2.1) fun hq=>?_;rcases hof q hq with e2 | e2
   ·rw [e2];exact hDI
   rw [ms1 e2];exact (hoff (lc,A1 cvs.toArray cep) (hnw▸.head _)).2.1
  clear N2 N6 F6;refine Cn ?_;k_steps;refine GR ?_;k_with "i" =>k_extra "40"
  k_steps;rename Fr _ _ _ _=>F7;rename News _ _ _ _=>N7;refine ⟨?_⟩;have q9:=q1.length;have q10:j<12:=by
   have:=(List.getElem?_eq_some_iff.mp hcc).1;lia
  refine RM F7 N7 mH1 (Bw (by rw [←Bb,q9,q2];lia)) fun h8 v8 hv8 F8 N8=>?_;refine Bp (⟨_,hv8⟩:∃t8,v8 = .str (Bh (A0 "abc") (some (cc.fmod 4)) (some (cc.fmod 4+1))) t8) ?_;intro t8 e92;subst e92;clear hv8;show HF _ _ _ _ _ _ _ _ _ _ _;refine HY (⟨its.push (.str (Bh (A0 "abc") (some (cc.fmod 4)) (some (cc.fmod 4+1))) t8),iep+1,ss++[Bh (A0 "abc") (some (cc.fmod 4)) (some (cc.fmod 4+1))]⟩:WS) F8 N8 (oC:=oC) (m':=m₃) (A8 (.head _) hDC.symm) hn (fun q hq=>?_) (fun q hq=>?_) (fun q hq hm=>?_) ⟨?_,?_,?_⟩
  rotate_left 3
  ·show StrsAre (its.push _).toList _;rw [O8];exact q1.append' (.cons _ _ .nil)
  ·show (ss++[_]).length=_;rw [Ai,q2];rfl
  ·intro x hx;rcases Cf.mp hx with h | h
   ·exact q3 x h
   rw [ms1 h];exact QH
  ·refine AH hq (AV mH1) fun hq=>?_;have hq':q∈tlx:=htlx▸maL _ hq;exact A8 (mT2 hq') (hD3 q hq')
  ·have hq':q∈tlx:=htlx▸maR _ hq;exact A8 (mT2 hq') (hD3 q hq')
  rcases mc1 hq with rfl | hq
  ·exact hnw4 _ (.head _) hm
  exact hnw4 q (.tail _ hq) hm
 intro C2 D3 c oC m' h2 tk2 hDC hoff hP F2 N2 hn2 hnw4;show Ec _ _ _ _ _ _ _ _ _;refine Fc (L:=L') rfl rfl rfl F2 N2 hn2 hnw4 fun h3 tk3 F3 N3=>?_;clear F2 N2 N6 F6
 with_reducible refine Dj hP ?_;(try clear hP);intro q1 q2 q3
 obtain ⟨its,iep,ss⟩:=c;dsimp only [Ir] at q1 q2 q3 N3 F3;rw [hnw] at N3;have q4:ss.length=12:=by rw [q2,Ae,p1.length,p2]
 k_with "call builtin:str.join" =>(k_extra "40";refine Af ?_)
 k_steps;rename News _ _ _ _=>N4;refine ⟨?_⟩;refine Ij (BI N4 (.head _)) q1 q3 q4 (by decide) fun x1 t1 k1 hx1=>?_;k_steps;rename News _ _ _ _=>N4;refine ⟨?_⟩;refine Ij (BI N4 (.head _)) q1 q3 q4 (by decide) fun x2 t2 k2 hx2=>?_;k_steps;rename News _ _ _ _=>N4;refine ⟨?_⟩;refine Ij (BI N4 (.head _)) q1 q3 q4 (by decide) fun x3 t3 k3 hx3=>?_;k_steps;rename_i D9 _ _ _ l9 _ kN _ _;refine hret D9 x1 x2 x3 _ _ _ 0 _ _ hx1 hx2 hx3 (fun p hp=>A7 (Cs l9.2.2.2.2.2 p hp)) (by assumption) (Bo kN (A6 (.head _) fun q hq=>mT6 hq))
theorem Jq {g:Gr}{b:Int}(h:b∈g.map (·.nm)):∃e,g.find? (fun e=>e.nm=b)=some e∧e.nm=b:=by
 cases hf:g.find? (fun e=>decide (e.nm=b)) with
 | some e=>exact ⟨e,rfl,by simpa using CO hf⟩
 | none=>
  refine Aq (mm1 h) ?_;intro e he e92;subst e92;exact absurd (Ck.mp hf e he) (by simp)
theorem Ew {g:Gr}{x:Int}{f:GN→GN}(h:∀e,(f e).nm=e.nm):(gup g x f).map (·.nm)=g.map (·.nm):=by
 unfold gup;rw [Ao];apply Az;intro e _;show (if e.nm=x then f e else e).nm=e.nm;split
 ·exact h e
 rfl
theorem Io {g:Gr}{x:Int}{f:GN→GN}{k:Int→Int}(h:∀e,(f e).nm=e.nm)(hk:∀e,(f e).np=k e.np)(hx:x∈g.map (·.nm)):gnp (gup g x f) x=k (gnp g x):=by
 refine Aq (Jq hx) ?_;intro e he hn;unfold gnp;rw [FA h,he];show (if e.nm=x then f e else e).np=k e.np;rw [if_pos hn,hk]
theorem PD {g:Gr}{x b:Int}{f:GN→GN}(h:∀e,(f e).nm=e.nm)(hk:∀e,(f e).np=e.np):gnp (gup g x f) b=gnp g b:=by
 unfold gnp;rw [FA h]
 cases hf:g.find? fun e=>e.nm=b with
 | none=>rfl
 | some e=>
  show (if e.nm=x then f e else e).np=e.np;split
  ·exact hk e
  rfl
theorem PB {g:Gr}{x:Int}{f:GN→GN}(h:∀e,(f e).nm=e.nm){b:Int}(hb:b≠x):gsc (gup g x f) b=gsc g b:=by
 unfold gsc;rw [FA h]
 cases hf:g.find? fun e=>e.nm=b with
 | none=>rfl
 | some e=>
  have h1:e.nm=b:=by simpa using CO hf
  show (if e.nm=x then f e else e).sc=e.sc;rw [if_neg (by rw [h1];exact hb)]
theorem M8 {g:Gr}{x:Int}{f:GN→GN}{k:List Int→List Int}(h:∀e,(f e).nm=e.nm)(hk:∀e,(f e).sc=k e.sc)(hx:x∈g.map (·.nm)):gsc (gup g x f) x=k (gsc g x):=by
 refine Aq (Jq hx) ?_;intro e he hn;unfold gsc;rw [FA h,he];show (if e.nm=x then f e else e).sc=k e.sc;rw [if_pos hn,hk]
set_option tactic.hygienic true in
theorem Fg (g:Gr)(x b:Int):b∈(KI g x).map (·.nm)↔b∈g.map (·.nm)∨b=x:=by
 unfold KI;split
 ·rename_i h;exact ⟨Or.inl,fun q=>q.elim id fun e=>e▸h⟩
 rw [AI,Cf];exact or_congr Iff.rfl Cj
set_option tactic.hygienic true in
theorem HX {g:Gr}(x:Int)(h:(g.map (·.nm)).Nodup):((KI g x).map (·.nm)).Nodup:=by
 unfold KI;split
 ·exact h
 rename_i hx;rw [AI,CZ];refine ⟨h,by simp,?_⟩;intro a ha b hb e;have e':a=x:=by rw [ms1 hb] at e;exact e
 exact hx (e'▸ha)
set_option tactic.hygienic true in
theorem KH (g:Gr)(x b:Int):gnp (KI g x) b=gnp g b:=by
 unfold KI;split
 ·rfl
 unfold gnp;rw [HN]
 cases hf:g.find? fun e=>e.nm=b with
 | some e=>rfl
 | none=>
  show (match EH (fun e:GN=>decide (e.nm=b)) [⟨x,0,[]⟩] with | some e=>e.np | none=>0)=0;rw [List.find?_singleton];split<;>rename_i h
  ·split at h
   ·cases h;rfl
   cases h
  rfl
set_option tactic.hygienic true in
theorem Im (g:Gr)(x b:Int):gsc (KI g x) b=gsc g b:=by
 unfold KI;split
 ·rfl
 unfold gsc;rw [HN]
 cases hf:g.find? fun e=>e.nm=b with
 | some e=>rfl
 | none=>
  show (match EH (fun e:GN=>decide (e.nm=b)) [⟨x,0,[]⟩] with | some e=>e.sc | none=>[])=[];rw [List.find?_singleton];split<;>rename_i h
  ·split at h
   ·cases h;rfl
   cases h
  rfl
noncomputable abbrev MW (k:Int→Int)(e:GN):GN:={ e with np:=k e.np }
noncomputable abbrev U5 (n:Int)(e:GN):GN:={ e with sc:=e.sc++[n] }
theorem H8 (g:Gr)(n p b:Int):b∈(Ni g n p).map (·.nm)↔b∈g.map (·.nm)∨b=n∨b=p:=by
 unfold Ni;rw [Ew (f:=U5 n) (fun _=>rfl),Fg,Ew (f:=MW fun z=>z+1) (fun _=>rfl),Fg,or_assoc]
theorem Ng {g:Gr}(n p:Int)(h:(g.map (·.nm)).Nodup):((Ni g n p).map (·.nm)).Nodup:=by
 unfold Ni;rw [Ew (f:=U5 n) (fun _=>rfl)];refine HX _ ?_;rw [Ew (f:=MW fun z=>z+1) (fun _=>rfl)];exact HX _ h
theorem TI (g:Gr)(n p b:Int):gnp (Ni g n p) b=gnp g b+if n=b then 1 else 0:=by
 unfold Ni;rw [PD (f:=U5 n) (fun _=>rfl) (fun _=>rfl),KH]
 by_cases hc:n=b
 ·subst hc;rw [if_pos rfl,Io (f:=MW fun z=>z+1) (k:=fun z=>z+1) (fun _=>rfl) (fun _=>rfl) ((Fg _ _ _).mpr (.inr rfl)),KH]
 rw [if_neg hc,FS (f:=MW fun z=>z+1) (fun _=>rfl) (fun q=>hc q.symm),KH,DV]
theorem TH (g:Gr)(n p b:Int):gsc (Ni g n p) b=gsc g b++if p=b then [n] else []:=by
 unfold Ni
 by_cases hc:p=b
 ·subst hc;rw [if_pos rfl,M8 (f:=U5 n) (k:=fun z=>z++[n]) (fun _=>rfl) (fun _=>rfl) ((Fg _ _ _).mpr (.inr rfl)),Im,Il (f:=MW fun z=>z+1) (fun _=>rfl) (fun _=>rfl),Im]
 rw [if_neg hc,PB (f:=U5 n) (fun _=>rfl) (fun q=>hc q.symm),Im,Il (f:=MW fun z=>z+1) (fun _=>rfl) (fun _=>rfl),Im,C5]
structure GE (g:Gr)(es:List (Int×Int)):Prop where
 nd:(g.map (·.nm)).Nodup
 np:∀b,gnp g b=((es.countP fun q=>decide (q.2=b):Nat):Int)
 sc:∀b,gsc g b=(es.filter fun q=>decide (q.1=b)).map (·.2)
 mem:∀q∈es,q.1∈g.map (·.nm)∧q.2∈g.map (·.nm)
theorem GE.nil:GE [] []:=⟨.nil,fun _=>rfl,fun _=>rfl,fun _ h=>nomatch h⟩
theorem GE.get {g:Gr}{es:List (Int×Int)}(H:GE g es)(x:Int):GE (KI g x) es:=
 ⟨HX x H.nd,fun b=>by rw [KH,H.np],fun b=>by rw [Im,H.sc],fun q hq=>⟨(Fg _ _ _).mpr (.inl (H.mem q hq).1),(Fg _ _ _).mpr (.inl (H.mem q hq).2)⟩⟩
theorem GE.add {g:Gr}{es:List (Int×Int)}(H:GE g es)(n p:Int):GE (Ni g n p) (es++[(p,n)]):=by
 refine ⟨Ng n p H.nd,fun b=>?_,fun b=>?_,fun q hq=>?_⟩
 ·rw [TI,H.np,List.countP_append,List.countP_singleton]
  by_cases h:n=b<;>simp [h]
 ·rw [TH,H.sc,Es,AI]
  congr 1
  by_cases h:p=b<;>simp [h]
 rcases Cf.mp hq with h | h
 ·exact ⟨(H8 _ _ _ _).mpr (.inl (H.mem q h).1),(H8 _ _ _ _).mpr (.inl (H.mem q h).2)⟩
 rw [ms1 h];exact ⟨(H8 _ _ _ _).mpr (.inr (.inr rfl)),(H8 _ _ _ _).mpr (.inr (.inl rfl))⟩
noncomputable def Hs (f:Int→Int)(ks:List Int):List (Int×Int):=(ks.filter fun k=>decide (k.fmod 4≠0)).map fun k=>(f (k-1),f k)
theorem Qr {f:Int→Int}{g:Gr}{es:List (Int×Int)}(H:GE g es)(k:Int):GE (JN f g k) (es++Hs f [k]):=by
 unfold JN Hs
 by_cases h:k.fmod 4=0
 ·rw [if_pos h];simpa [h] using H.get (f k)
 rw [if_neg h];simpa [h] using H.add (f k) (f (k-1))
theorem Qs (f:Int→Int):∀(ks:List Int)(g:Gr)(es:List (Int×Int)),GE g es→GE (ks.foldl (JN f) g) (es++Hs f ks):=by
 intro xX
 induction xX with
 | nil=>
  intro g es H;simpa [Hs] using H
 | cons k ks iH=>
  intro g es H;have h1:=iH _ _ (Qr (f:=f) H k);have e:es++Hs f [k]++Hs f ks=es++Hs f (k::ks):=by
   rw [BP]
   congr 1
   unfold Hs;rw [←AI,←Es];rfl
  rw [e] at h1;exact h1
theorem Hq (f:Int→Int)(ks:List Int):GE (gPl f ks) (Hs f ks):=Qs f ks [] [] .nil
theorem esPl_mem {f:Int→Int}{ks:List Int}{q:Int×Int}:q∈Hs f ks↔∃k∈ks,k.fmod 4≠0∧q=(f (k-1),f k):=by
 unfold Hs;rw [List.mem_map]
 constructor
 ·rintro ⟨k,hk,rfl⟩;refine CL (List.mem_filter.mp hk) ?_;intro h1 h2;exact ⟨k,h1,of_decide_eq_true h2,rfl⟩
 rintro ⟨k,h1,h2,rfl⟩;exact ⟨k,List.mem_filter.mpr ⟨h1,decide_eq_true h2⟩,rfl⟩
theorem PA {f:Int→Int}{g:Gr}{k b:Int}:b∈(JN f g k).map (·.nm)↔b∈g.map (·.nm)∨b=f k∨(k.fmod 4≠0∧b=f (k-1)):=by
 unfold JN
 by_cases h:k.fmod 4=0
 ·rw [if_pos h,Fg];simp [h]
 rw [if_neg h,H8];simp [h]
theorem PE (f:Int→Int):∀(ks:List Int)(g:Gr)(b:Int),b∈(ks.foldl (JN f) g).map (·.nm)↔b∈g.map (·.nm)∨∃k∈ks,b=f k∨(k.fmod 4≠0∧b=f (k-1)):=by
 intro xX
 induction xX with
 | nil=>
  intro g b;simp
 | cons k ks iH=>
  intro g b;rw [Ee,iH,PA];simp only [BD,exists_eq_or_imp]
  constructor
  ·rintro ((h | h) | h)
   ·exact .inl h
   ·exact .inr (.inl h)
   exact .inr (.inr h)
  rintro (h | h | h)
  ·exact .inl (.inl h)
  ·exact .inl (.inr h)
  exact .inr h
theorem gpl_mem {f:Int→Int}{ks:List Int}{b:Int}:b∈(gPl f ks).map (·.nm)↔∃k∈ks,b=f k∨(k.fmod 4≠0∧b=f (k-1)):=by
 unfold gPl;rw [PE];simp
theorem GE.sc_mem {g:Gr}{es:List (Int×Int)}(H:GE g es){f b:Int}:b∈gsc g f↔(f,b)∈es:=by
 rw [H.sc]
 constructor
 ·intro h;refine Aq (mm1 h) ?_;intro q hq e92;subst e92;refine CL (mf1 hq) ?_;intro h1 h2;have:q.1=f:=of_decide_eq_true h2;subst this;exact h1
 intro h;exact mm2 ⟨(f,b),List.mem_filter.mpr ⟨h,decide_eq_true rfl⟩,rfl⟩
noncomputable def lv (g0:Gr)(es:List (Int×Int)):Nat→List Int
 | 0=>g0.map (·.nm)
 | k+1=>(lv g0 es k).filter fun b=>es.any fun q=>decide (q.2=b)&&decide (q.1∈lv g0 es k)
theorem Jm {g0:Gr}{es:List (Int×Int)}{k:Nat}{b:Int}(h:b∈lv g0 es (k+1)):b∈lv g0 es k:=(mf1 h).1
theorem M1 {g0:Gr}{es:List (Int×Int)}{k:Nat}{b:Int}(h:b∈lv g0 es (k+1)):∃f,(f,b)∈es∧f∈lv g0 es k:=by
 have h2:=(mf1 h).2;refine Aq (List.any_eq_true.mp h2) ?_;intro q hq hc;simp only [C8,decide_eq_true_eq] at hc;refine CL (hc) ?_;(try clear hc);intro h3 h4;subst h3;exact ⟨q.1,hq,h4⟩
theorem KB {g0:Gr}{es:List (Int×Int)}(H:GE g0 es):∀{k:Nat}{f b:Int},(f,b)∈es→f∈lv g0 es k→b∈lv g0 es (k+1):=by
 intro k
 induction k with
 | zero=>
  intro f b he hf;refine List.mem_filter.mpr ⟨(H.mem _ he).2,List.any_eq_true.mpr ⟨_,he,?_⟩⟩;exact Bool.and_eq_true_iff.mpr ⟨decide_eq_true rfl,decide_eq_true hf⟩
 | succ k ih=>
  intro f b he hf;refine List.mem_filter.mpr ⟨ih he (Jm hf),List.any_eq_true.mpr ⟨_,he,?_⟩⟩;exact Bool.and_eq_true_iff.mpr ⟨decide_eq_true rfl,decide_eq_true hf⟩
theorem Su {g0:Gr}{es:List (Int×Int)}(H:GE g0 es){k:Nat}{b:Int}:b∈lv g0 es (k+1)↔∃f,(f,b)∈es∧f∈lv g0 es k:=
 ⟨M1,fun ⟨f,h1,h2⟩=>KB H h1 h2⟩
theorem Ow {g0:Gr}{es:List (Int×Int)}{b:Int}:∀{k j:Nat},k≤j→b∈lv g0 es j→b∈lv g0 es k:=by
 intro k j h hb
 induction h with
 | refl=>exact hb
 | step _ ih=>exact ih (Jm hb)
theorem Kz (st:Gr×List Int)(c:Int):(J2 st c).1.map (·.nm)=st.1.map (·.nm):=Ew (f:=MW fun z=>z-1) (fun _=>rfl)
theorem Je:∀(l:List Int)(st:Gr×List Int),(l.foldl J2 st).1.map (·.nm)=st.1.map (·.nm)
 | [],_=>rfl
 | c::l,st=>by rw [Ee,Je l,Kz]
theorem IZ (st:Gr×List Int)(x:Int):(Dl st x).1.map (·.nm)=st.1.map (·.nm):=by
 unfold Dl;rw [Je];exact Ew (f:=MW fun _=>-2) (fun _=>rfl)
theorem Jd:∀(xs:List Int)(st:Gr×List Int),(EY st xs).1.map (·.nm)=st.1.map (·.nm)
 | [],_=>rfl
 | x::xs,st=>by
  show (EY (Dl st x) xs).1.map (·.nm)=_;rw [Jd xs,IZ]
theorem Ky:∀(xs:List Int)(st:Gr×List Int)(b:Int),gsc (EY st xs).1 b=gsc st.1 b
 | [],_,_=>rfl
 | x::xs,st,b=>by
  show gsc (EY (Dl st x) xs).1 b=_;rw [Ky xs,H7]
theorem P6 {p q:Prop} [Decidable p] [Decidable q] {a b:Nat}(h:p↔q):(if p then a else b)=if q then a else b:=by
 by_cases k:p
 ·rw [if_pos k,if_pos (h.mp k)]
 rw [if_neg k,if_neg fun q=>k (h.mpr q)]
theorem Rx (n:Int)(k m a:Nat):a+(if 1≤n∧n≤(k:Int) then 1 else 0)+(if 1≤n-(k:Int)∧n-(k:Int)≤(m:Int) then 1 else 0)=a+if 1≤n∧n≤((k+m:Nat):Int) then 1 else 0:=by
 have e:((k+m:Nat):Int)=(k:Int)+m:=rfl;rw [e]
 by_cases h1:1≤n
 ·by_cases h2:n≤k
  ·rw [if_pos ⟨h1,h2⟩,if_neg (fun h=>by lia),if_pos ⟨h1,by lia⟩]
  rw [if_neg (fun h=>h2 h.2)];refine congrArg (a + ·) (P6 ⟨fun h=>⟨h1,by lia⟩,fun h=>⟨by lia,by lia⟩⟩)
 rw [if_neg (fun h=>h1 h.1),if_neg (fun h=>h1 (by lia)),if_neg (fun h=>h1 h.1)]
theorem RC:∀(l:List Int)(st:Gr×List Int)(b:Int),b∈st.1.map (·.nm)→
  gnp (l.foldl J2 st).1 b=gnp st.1 b-(l.count b:Int)∧(l.foldl J2 st).2.count b=st.2.count b+if 1≤gnp st.1 b∧gnp st.1 b≤(l.count b:Int) then 1 else 0:=by
 intro xX
 induction xX with
 | nil=>
  intro st b hb;refine ⟨(Gf _).symm,?_⟩;rw [if_neg]
  ·rfl
  exact fun h=>absurd (show (1:Int)≤0 from AP h.1 h.2) (by decide)
 | cons c l iH=>
  intro st b hb;obtain ⟨h1,h2⟩:=iH (J2 st c) b (by rw [Kz];exact hb);rw [Ee,h1,h2,List.count_cons]
  by_cases hc:c=b
  ·subst hc;have e1:gnp (J2 st c).1 c=gnp st.1 c-1:=Io (f:=MW fun z=>z-1) (k:=fun z=>z-1) (fun _=>rfl) (fun _=>rfl) hb;have e2:(J2 st c).2.count c=st.2.count c+if gnp st.1 c=1 then 1 else 0:=by
    show (if gnp st.1 c=1 then st.2++[c] else st.2).count c=_;split
    ·rw [HO];simp
    rfl
   rw [e1,e2];simp only [beq_self_eq_true,if_true];refine ⟨by rw [Int.sub_sub,FL];rfl,?_⟩;rw [Nat.add_comm (List.count c l) 1,←Rx]
   congr 2
   exact P6 (Iff.intro (fun h=>⟨Ca h.symm,Ca h⟩) fun h=>Ef h.2 h.1)
  have e1:gnp (J2 st c).1 b=gnp st.1 b:=FS (f:=MW fun z=>z-1) (fun _=>rfl) (fun q=>hc q.symm);have e2:(J2 st c).2.count b=st.2.count b:=by
   show (if gnp st.1 c=1 then st.2++[c] else st.2).count b=_;split
   ·rw [HO,List.count_cons_of_ne hc];simp
   rfl
  rw [e1,e2];have e3:(c==b)=false:=by simpa using hc
  rw [e3];exact ⟨rfl,rfl⟩
theorem TS:∀(l:List Int)(st:Gr×List Int)(b:Int),b∈(l.foldl J2 st).2→b∈st.2∨b∈l:=by
 intro xX
 induction xX with
 | nil=>
  intro st b h;exact .inl h
 | cons c l iH=>
  intro st b h;rcases iH (J2 st c) b h with h | h
  ·have h':b∈(if gnp st.1 c=1 then st.2++[c] else st.2):=h;split at h'
   ·refine AF h' (fun h'=>?_) fun h'=>?_
    ·exact .inl h'
    exact .inr (by rw [ms1 h'];exact .head _)
   exact .inl h'
  exact .inr (.tail _ h)
theorem PR:∀(xs:List Int)(st:Gr×List Int)(b:Int),b∈st.1.map (·.nm)→b∉xs→
  gnp (EY st xs).1 b=gnp st.1 b-((xs.flatMap (gsc st.1)).count b:Int)∧(EY st xs).2.count b=st.2.count b+if 1≤gnp st.1 b∧gnp st.1 b≤((xs.flatMap (gsc st.1)).count b:Int) then 1 else 0:=by
 intro xX
 induction xX with
 | nil=>
  intro st b hb hn;refine ⟨(Gf _).symm,?_⟩;rw [if_neg]
  ·rfl
  exact fun h=>absurd (show (1:Int)≤0 from AP h.1 h.2) (by decide)
 | cons x xs iH=>
  intro st b hb hn;obtain ⟨h1,h2⟩:=iH (Dl st x) b (by rw [IZ];exact hb) (fun q=>hn (.tail _ q));have hbx:b≠x:=fun e=>hn (e▸.head _);have e0:gnp (gup st.1 x fun e=>{ e with np:=-2 }) b=gnp st.1 b:=FS (f:=MW fun _=>-2) (fun _=>rfl) hbx;obtain ⟨h3,h4⟩:=RC (gsc st.1 x) (gup st.1 x fun e=>{ e with np:=-2 },st.2) b (by show b∈(gup st.1 x _).map (·.nm);rw [Ew (f:=MW fun _=>-2) (fun _=>rfl)];exact hb);have e1:(Dl st x)=(gsc st.1 x).foldl J2 (gup st.1 x fun e=>{ e with np:=-2 },st.2):=rfl;rw [←e1] at h3 h4;have e2:xs.flatMap (gsc (Dl st x).1)=xs.flatMap (gsc st.1):=by
   congr 1
   funext q
   exact H7 st x q
  rw [e2] at h1 h2;rw [show (EY st (x::xs))=EY (Dl st x) xs from rfl,h1,h2,h4,h3,HM,HO];dsimp only;rw [e0];exact ⟨Int.sub_sub _ _ _,Rx _ _ _ _⟩
theorem RA:∀(xs:List Int)(st:Gr×List Int)(b:Int),b∈(EY st xs).2→b∈st.2∨b∈xs.flatMap (gsc st.1):=by
 intro xX
 induction xX with
 | nil=>
  intro st b h;exact .inl h
 | cons x xs iH=>
  intro st b h;have e2:xs.flatMap (gsc (Dl st x).1)=xs.flatMap (gsc st.1):=by
   congr 1
   funext q
   exact H7 st x q
  rw [HM,Cf];rcases iH (Dl st x) b h with h | h
  ·rcases TS _ _ _ h with h | h
   ·exact .inl h
   exact .inr (.inl h)
  rw [e2] at h;exact .inr (.inr h)
theorem IY:∀(xs:List Int)(g:Gr),(Gl g xs).map (·.nm)=g.map (·.nm)
 | [],_=>rfl
 | x::xs,g=>by
  show (Gl (gup g x _) xs).map (·.nm)=_;rw [IY xs,Ew (f:=MW fun _=>-1) (fun _=>rfl)]
theorem Mg:∀(xs:List Int)(g:Gr)(b:Int),b∉xs→gnp (Gl g xs) b=gnp g b
 | [],_,_,_=>rfl
 | x::xs,g,b,h=>by
  show gnp (Gl (gup g x _) xs) b=_;have hb:b≠x:=fun e=>h (by rw [e];exact .head _);rw [Mg xs _ b (fun q=>h (.tail _ q)),FS (f:=MW fun _=>-1) (fun _=>rfl) hb]
theorem Hu {α:Type}{p q r:α→Bool}:∀(l:List α),(∀x∈l,(p x=true↔(q x=true∨r x=true))∧¬(q x=true∧r x=true))→l.countP p=l.countP q+l.countP r:=by
 intro xX
 induction xX with
 | nil=>
  intro _;exact rfl
 | cons x l iH=>
  intro h;have ih:=iH fun y hy=>h y (.tail _ hy);refine CL (h x (.head _)) ?_;intro h1 h2;rw [Ps,Ps,Ps,ih]
  cases hq:q x with
  | true=>
   have hr:r x=false:=Bool.eq_false_iff.mpr fun hr=>h2 ⟨hq,hr⟩;rw [h1.mpr (.inl hq),hr];exact Nat.add_right_comm _ _ 1
  | false=>
   cases hr:r x with
   | true=>
    rw [h1.mpr (.inr hr)];rfl
   | false=>
    have hp:p x=false:=Bool.eq_false_iff.mpr fun hp=>(h1.mp hp).elim (fun h=>absurd (hq.symm.trans h) (by decide)) fun h=>absurd (hr.symm.trans h) (by decide);rw [hp];rfl
theorem MD {g0:Gr}{es:List (Int×Int)}(H:GE g0 es)(b:Int):∀(rs:List Int),rs.Nodup→(rs.flatMap (gsc g0)).count b=es.countP fun q=>decide (q.2=b)&&decide (q.1∈rs):=by
 intro xX
 induction xX with
 | nil=>
  intro _;rw [List.flatMap_nil,List.count_nil]
  symm
  rw [List.countP_eq_zero];intro q _;simp
 | cons x rs iH=>
  intro hn;refine CL (nc1 hn) ?_;intro n1 n2;rw [HM,HO,iH n2,H.sc];have e1:((es.filter fun q=>decide (q.1=x)).map (·.2)).count b=es.countP fun q=>decide (q.2=b)&&decide (q.1=x):=by
   rw [List.count,List.countP_map,List.countP_filter]
   congr 1
  rw [e1]
  symm
  refine Hu es fun q _=>?_;simp only [C8,decide_eq_true_eq,BD]
  constructor
  ·constructor
   ·rintro ⟨h1,h2 | h2⟩
    ·exact .inl ⟨h1,h2⟩
    exact .inr ⟨h1,h2⟩
   rintro (⟨h1,h2⟩ | ⟨h1,h2⟩)
   ·exact ⟨h1,.inl h2⟩
   exact ⟨h1,.inr h2⟩
  rintro ⟨⟨_,h1⟩,⟨_,h2⟩⟩;exact n1 (h1▸h2)
structure Kst (g0:Gr)(es:List (Int×Int))(k:Nat)(g:Gr)(rs:List Int):Prop where
 nms:g.map (·.nm)=g0.map (·.nm)
 sc:∀x,gsc g x=gsc g0 x
 np:∀b∈lv g0 es k,gnp g b=((es.countP fun q=>decide (q.2=b)&&decide (q.1∈lv g0 es k):Nat):Int)
 nd:rs.Nodup
 mem:∀b,b∈rs↔b∈lv g0 es k∧b∉lv g0 es (k+1)
theorem MF {g0:Gr}{es:List (Int×Int)}(H:GE g0 es){k:Nat}{b:Int}:1≤(es.countP fun q=>decide (q.2=b)&&decide (q.1∈lv g0 es k))↔b∈lv g0 es (k+1):=by
 show 0<_↔_;rw [List.countP_pos_iff,Su H]
 constructor
 ·rintro ⟨q,hq,hc⟩;simp only [C8,decide_eq_true_eq] at hc;refine CL (hc) ?_;(try clear hc);intro h1 h2;subst h1;exact ⟨q.1,hq,h2⟩
 rintro ⟨f,h1,h2⟩;exact ⟨_,h1,Bool.and_eq_true_iff.mpr ⟨decide_eq_true rfl,decide_eq_true h2⟩⟩
theorem Sx {g0:Gr}{es:List (Int×Int)}(H:GE g0 es){k:Nat}{g:Gr}{rs:List Int}(K:Kst g0 es k g rs):∀q∈rs,∀r∈rs,r∉gsc g q:=by
 intro q hq r hr hc;rw [K.sc,H.sc_mem] at hc;exact ((K.mem r).mp hr).2 (KB H hc ((K.mem q).mp hq).1)
theorem Qj {g0:Gr}{es:List (Int×Int)}(H:GE g0 es){k:Nat}{g:Gr}{rs:List Int}(K:Kst g0 es k g rs):Kst g0 es (k+1) (EY (Gl g rs,[]) rs).1 (EY (Gl g rs,[]) rs).2:=by
 have hsc:rs.flatMap (gsc (Gl g rs))=rs.flatMap (gsc g0):=by
  congr 1
  funext q
  rw [HW,K.sc]
 have hnm:∀b∈lv g0 es (k+1),b∈(Gl g rs).map (·.nm)∧b∉rs:=fun b hb=>⟨by rw [IY,K.nms];exact Ow (B0 _) hb,fun hr=>((K.mem b).mp hr).2 hb⟩;have hfold:∀b∈lv g0 es (k+1),gnp (EY (Gl g rs,[]) rs).1 b=((es.countP fun q=>decide (q.2=b)&&decide (q.1∈lv g0 es (k+1)):Nat):Int)∧(EY (Gl g rs,[]) rs).2.count b=if b∈lv g0 es (k+2) then 0 else 1:=by
  intro b hb;refine CL (hnm b hb) ?_;intro b1 b2;refine CL (PR rs (Gl g rs,[]) b b1 b2) ?_;intro h1 h2;dsimp only at h1 h2;rw [hsc,MD H b rs K.nd,Mg _ _ _ b2,K.np b (Jm hb)] at h1 h2;have hs:(es.countP fun q=>decide (q.2=b)&&decide (q.1∈lv g0 es k))=(es.countP fun q=>decide (q.2=b)&&decide (q.1∈rs))+es.countP fun q=>decide (q.2=b)&&decide (q.1∈lv g0 es (k+1)):=by
   refine Hu es fun q _=>?_;simp only [C8,decide_eq_true_eq];refine ⟨⟨?_,?_⟩,?_⟩
   ·rintro ⟨h1,h2⟩
    by_cases hc:q.1∈lv g0 es (k+1)
    ·exact .inr ⟨h1,hc⟩
    exact .inl ⟨h1,(K.mem _).mpr ⟨h2,hc⟩⟩
   ·rintro (⟨h1,h2⟩ | ⟨h1,h2⟩)
    ·exact ⟨h1,((K.mem _).mp h2).1⟩
    exact ⟨h1,Jm h2⟩
   rintro ⟨⟨_,h1⟩,⟨_,h2⟩⟩;exact ((K.mem _).mp h1).2 h2
  have p1:=(MF H).mpr hb;have p2:1≤(es.countP fun q=>decide (q.2=b)&&decide (q.1∈lv g0 es (k+1)))↔b∈lv g0 es (k+2):=MF H;rw [hs] at h1 h2 p1;generalize (es.countP fun q=>decide (q.2=b)&&decide (q.1∈rs))=n1 at *;generalize (es.countP fun q=>decide (q.2=b)&&decide (q.1∈lv g0 es (k+1)))=n2 at *;refine ⟨by rw [h1];lia,?_⟩;rw [h2,List.count_nil]
  by_cases hc:b∈lv g0 es (k+2)
  ·rw [if_pos hc,if_neg];have:=p2.mpr hc;lia
  rw [if_neg hc,if_pos];have:¬1≤n2:=fun q=>hc (p2.mp q);lia
 have hout:∀b,b∈(EY (Gl g rs,[]) rs).2→b∈lv g0 es (k+1):=by
  intro b hb;rcases RA _ _ _ hb with h | h
  ·exact absurd h Au
  rw [show rs.flatMap (gsc (Gl g rs,([]:List Int)).1)=rs.flatMap (gsc (Gl g rs)) from rfl,hsc] at h;refine Aq (List.mem_flatMap.mp h) ?_;intro f hf hb2;exact KB H (H.sc_mem.mp hb2) ((K.mem f).mp hf).1
 refine ⟨by rw [Jd,IY,K.nms],fun x=>by rw [Ky,HW,K.sc],fun b hb=>(hfold b hb).1,?_,fun b=>?_⟩
 ·rw [List.nodup_iff_count];intro b
  by_cases hb:b∈(EY (Gl g rs,[]) rs).2
  ·rw [(hfold b (hout b hb)).2];split<;>lia
  rw [List.count_eq_zero_of_not_mem hb];lia
 constructor
 ·intro hb;have h1:=hout b hb;refine ⟨h1,fun hc=>?_⟩;have h2:=(hfold b h1).2;rw [if_pos hc] at h2;exact absurd (List.count_pos_iff.mpr hb) (by lia)
 rintro ⟨h1,h2⟩;have h3:=(hfold b h1).2;rw [if_neg h2] at h3;exact List.count_pos_iff.mp (by lia)
theorem P0 {g0:Gr}{es:List (Int×Int)}(H:GE g0 es){rs:List Int}(hn:rs.Nodup)(hm:∀b,b∈rs↔b∈g0.map (·.nm)∧gnp g0 b=0):Kst g0 es 0 g0 rs:=by
 have hc:∀b,(es.countP fun q=>decide (q.2=b))=es.countP fun q=>decide (q.2=b)&&decide (q.1∈lv g0 es 0):=by
  intro b;refine List.countP_congr fun q hq=>?_;have:q.1∈lv g0 es 0:=(H.mem q hq).1;simp [this]
 refine ⟨rfl,fun _=>rfl,fun b _=>?_,hn,fun b=>?_⟩
 ·rw [H.np,hc]
 rw [hm,H.np,hc];refine and_congr Iff.rfl ?_;have p2:1≤(es.countP fun q=>decide (q.2=b)&&decide (q.1∈lv g0 es 0))↔b∈lv g0 es 1:=MF H;rw [←p2];lia
theorem VY {g0:Gr}{es:List (Int×Int)}{k:Nat}{b:Int}(h1:b∈lv g0 es k)(h2:b∉lv g0 es (k+1)):(lv g0 es (k+1)).length<(lv g0 es k).length:=by
 refine LG h1 ?_;rw [Bool.eq_false_iff];intro hc;exact h2 (List.mem_filter.mpr ⟨h1,hc⟩)
inductive Wk (es:List (Int×Int))(c:Int):Bool→Int→Prop
 | refl:Wk es c false c
 | step {f:Bool} {x y:Int} (h:Wk es c f x) (e:(x,y)∈es):Wk es c true y
theorem ID {es:List (Int×Int)}{c:Int}{f:Bool}{x:Int}(h:Wk es c f x):(f=false∧x=c)∨∃y f',(c,y)∈es∧Wk es y f' x:=by
 induction h with
 | refl=>exact .inl ⟨rfl,rfl⟩
 | step h e ih=>
  rcases ih with ⟨_,rfl⟩ | ⟨y,f',h1,h2⟩
  ·exact .inr ⟨_,false,e,.refl⟩
  exact .inr ⟨y,true,h1,.step h2 e⟩
theorem RV {es:List (Int×Int)}{c:Int}(h:Acc (fun b a=>(a,b)∈es) c):¬Wk es c true c:=by
 induction h with
 | intro c _ ih=>
  intro h;rcases ID h with ⟨h1,_⟩ | ⟨y,f,h1,h2⟩
  ·cases h1
  exact ih y h1 (.step h2 h1)
theorem TN {p q:Int→Bool}:∀{l:List Int},(∀x∈l,p x=true→q x=true)→(∃x∈l,q x=true∧p x=false)→(l.filter p).length<(l.filter q).length:=by
 intro xX
 induction xX with
 | nil=>
  intro _ h;obtain ⟨x,hx,_⟩:=h;cases hx
 | cons y l iH=>
  intro h1 h2;have le:(l.filter p).length≤(l.filter q).length:=by
   rw [←Dx,←Dx];exact List.countP_mono_left fun x hx=>h1 x (.tail _ hx)
  by_cases hy:q y=true∧p y=false
  ·rw [IA hy.1,IB (by rw [hy.2];decide)];exact FF le
  refine Aq h2 ?_;(try clear h2);intro x hx h3;have hxl:x∈l:=by
   rcases mc1 hx with rfl | h
   ·exact absurd h3 hy
   exact h
  have ih:=iH (fun x hx=>h1 x (.tail _ hx)) ⟨x,hxl,h3⟩
  cases hp:p y with
  | true=>
   rw [IA hp,IA (h1 y (.head _) hp)];exact Nat.succ_lt_succ ih
  | false=>
   rw [IB (by rw [hp];decide)]
   cases hq:q y with
   | true=>exact absurd ⟨hq,hp⟩ hy
   | false=>rw [IB (by rw [hq];decide)];exact ih
open Classical in
theorem Od {es:List (Int×Int)}(V:List Int)(hV:∀q∈es,q.1∈V)(hc:∀c,¬Wk es c true c):∃r:Int→Nat,(∀q∈es,r q.1<r q.2)∧∀c,r c≤V.length:=by
 refine ⟨fun c=>(V.filter fun x=>decide (Wk es x true c)).length,fun q hq=>?_,fun c=>DI _ _⟩;refine TN (fun x _ h=>?_) ⟨q.1,hV q hq,?_,?_⟩
 ·exact decide_eq_true (.step (of_decide_eq_true h) hq)
 ·exact decide_eq_true (.step .refl hq)
 exact decide_eq_false (hc q.1)
theorem RN {es:List (Int×Int)}{r:Int→Nat}{N:Nat}(h:∀q∈es,r q.1<r q.2)(hN:∀c,r c≤N):∀(n:Nat)(c:Int),N-r c≤n→Acc (fun b a=>(a,b)∈es) c:=by
 intro xX
 induction xX with
 | zero=>
  intro c hn;exact ⟨c,fun y hy=>by
  have h1:=h _ hy;exact absurd (Nat.sub_eq_zero_iff_le.mp (Nat.le_zero.mp hn)) (Nat.not_le.mpr (B5 h1 (hN y)))⟩
 | succ n iH=>
  intro c hn;exact ⟨c,fun y hy=>iH y (Am (Nat.sub_le_sub_left (h _ hy) N) (show N-(r c+1)≤n from by rw [Tq];exact Nat.sub_le_of_le_add hn))⟩
theorem Oo {r:Int→Nat}{L:List Int}(h:∀b∈L,∃f∈L,r f<r b):L=[]:=by
 have key:∀n b,r b≤n→b∉L:=by
  intro n
  induction n with
  | zero=>
   intro b hb hm;refine Aq (h b hm) ?_;intro f _ hf;exact absurd (B5 hf hb) (Ed _)
  | succ n ih=>
   intro b hb hm;refine Aq (h b hm) ?_;intro f h1 hf;exact ih f (FG (B5 hf hb)) h1
 exact List.eq_nil_iff_forall_not_mem.mpr fun b hb=>key _ b (Ap _) hb
theorem Lz:∀{l m:List Int},l.Nodup→(∀x∈l,x∈m)→l.length≤m.length:=by
 intro xX
 induction xX with
 | nil=>
  intro m _ _;exact B0 _
 | cons a l iH=>
  intro m hn hs;refine CL (nc1 hn) ?_;intro h1 h2;have ha:=hs a (.head _);have:=iH (m:=m.erase a) h2 fun x hx=>(List.mem_erase_of_ne (fun (e:x=a)=>h1 (e▸hx))).mpr (hs x (.tail _ hx));rw [List.length_erase_of_mem ha] at this;exact Am (Nat.add_le_add_right this 1) (O2 (Nat.sub_add_cancel (List.length_pos_of_mem ha)))
structure W4 (g0:Gr)(es:List (Int×Int))(k:Nat)(gs:List (List Int))(lev:Int→Int):Prop where
 nd:gs.flatten.Nodup
 mem:∀x,x∈gs.flatten↔x∈lv g0 es k
 num:∀(j:Nat) (r:List Int),gs[j]? = some r→∀x∈r,lev x=(j:Int)+1
 pos:∀x∈lv g0 es k,1≤lev x
 up:∀x∈lv g0 es k,∀p∈lv g0 es k,(p,x)∈es→lev p<lev x
 pre:∀x∈lv g0 es k,lev x=1∨∃p∈lv g0 es k,(p,x)∈es∧lev x=lev p+1
theorem UN {g0:Gr}{es:List (Int×Int)}(H:GE g0 es){r:Int→Nat}(hr:∀q∈es,r q.1<r q.2)(hN:(g0.map (·.nm)).length≤12):∀(n k:Nat)(g:Gr)(rs:List Int),Kst g0 es k g rs→(lv g0 es k).length≤n→∃gs lev,Tg g rs gs∧gs.length≤n∧W4 g0 es k gs lev:=by
 intro n
 induction n with
 | zero=>
  intro k g rs K hl;have e:lv g0 es k=[]:=Di (Nat.le_zero.mp hl);have e2:rs=[]:=List.eq_nil_iff_forall_not_mem.mpr fun b hb=>by
   have:=((K.mem b).mp hb).1;rw [e] at this;cases this
  subst e2;refine ⟨[],fun _=>0,.nil g,Ap _,.nil,fun x=>by rw [e];rfl,fun j r h=>by simp at h,?_,?_,?_⟩<;>rw [e]<;>intro x hx<;>cases hx
 | succ n ih=>
  intro k g rs K hl
  by_cases e2:rs=[]
  ·have e:lv g0 es k=[]:=Oo (r:=r) fun b hb=>by
    by_cases hb2:b∈lv g0 es (k+1)
    ·refine Aq (M1 hb2) ?_;intro f h1 h2;exact ⟨f,h2,hr _ h1⟩
    have:=(K.mem b).mpr ⟨hb,hb2⟩;rw [e2] at this;cases this
   subst e2;refine ⟨[],fun _=>0,.nil g,B0 _,.nil,fun x=>by rw [e];rfl,fun j r h=>by simp at h,?_,?_,?_⟩<;>rw [e]<;>intro x hx<;>cases hx
  have hlt:(lv g0 es (k+1)).length<(lv g0 es k).length:=by
   cases rs with
   | nil=>exact absurd rfl e2
   | cons b rs=>
    refine CL ((K.mem b).mp (.head _)) ?_;intro h1 h2;exact VY h1 h2
  obtain ⟨gs,lev,c1,c2,c3⟩:=ih (k+1) _ _ (Qj H K) (by lia);have hsub:∀x∈rs,x∈g0.map (·.nm):=fun x hx=>Ow (B0 k) ((K.mem x).mp hx).1;have hdis:∀x∈rs,x∉lv g0 es (k+1):=fun x hx=>((K.mem x).mp hx).2;have hcov:∀x,x∈lv g0 es k→x∈rs∨x∈lv g0 es (k+1):=fun x hx=>by
   by_cases h:x∈lv g0 es (k+1)
   ·exact .inr h
   exact .inl ((K.mem x).mpr ⟨hx,h⟩)
  have hl1:∀x∈rs,(if x∈rs then 1 else lev x+1)=(1:Int):=fun x hx=>if_pos hx;have hl2:∀x∈lv g0 es (k+1),(if x∈rs then 1 else lev x+1)=lev x+1:=fun x hx=>if_neg fun h=>hdis x h hx;refine ⟨rs::gs,fun x=>if x∈rs then 1 else lev x+1,.cons e2 (Am (Lz K.nd hsub) hN) K.nd (fun x hx=>by rw [K.nms];exact hsub x hx) (Sx H K) c1,Fl c2,?_,?_,?_,?_,?_,?_⟩
  ·rw [HL,CZ];refine ⟨K.nd,c3.nd,fun a ha b hb e=>hdis a ha ?_⟩;rw [e];exact (c3.mem b).mp hb
  ·intro x;rw [HL,Cf,c3.mem];exact ⟨fun h=>h.elim (fun h=>((K.mem x).mp h).1) Jm,hcov x⟩
  ·intro j rr hj x hx
   cases j with
   | zero=>
    cases BM hj;rw [hl1 x hx];rfl
   | succ j=>
    have hj':gs[j]? = some rr:=hj;have hxl:x∈lv g0 es (k+1):=(c3.mem x).mp (List.mem_flatten.mpr ⟨rr,AK hj',hx⟩);rw [hl2 x hxl,c3.num j rr hj' x hx];rfl
  ·intro x hx;rcases hcov x hx with h | h
   ·rw [hl1 x h];exact BX _
   rw [hl2 x h];have:=c3.pos x h;lia
  ·intro x hx p hp he;have hx2:x∈lv g0 es (k+1):=KB H he hp;rw [hl2 x hx2];rcases hcov p hp with h | h
   ·rw [hl1 p h];have:=c3.pos x hx2;lia
   rw [hl2 p h];have:=c3.up x hx2 p h he;lia
  intro x hx;rcases hcov x hx with h | h
  ·exact .inl (hl1 x h)
  right
  rw [hl2 x h];rcases c3.pre x h with h1 | ⟨p,h1,h2,h3⟩
  ·refine Aq (M1 h) ?_;intro p h2 h3;refine ⟨p,h3,h2,?_⟩;rcases hcov p h3 with h4 | h4
   ·rw [hl1 p h4,h1]
   have:=c3.up x h p h4 h2;have:=c3.pos p h4;lia
  exact ⟨p,Jm h1,h2,by rw [hl2 p h1,h3]⟩
inductive Rch (M:Int→Int→Int→Int→Prop)(V:Int→Int→Prop)(w k:Int):Bool→Int→Int→Prop
 | refl:Rch M V w k false w k
 | hop {f:Bool} {x a y b:Int} (h:Rch M V w k f x a) (hm:M x y a b):Rch M V w k f y b
 | step {f:Bool} {x a:Int} (h:Rch M V w k f x a) (hv:V x (a+1)):Rch M V w k true x (a+1)
structure Pn (M:Int→Int→Int→Int→Prop):Prop where
 ne:∀w x a b,M w x a b→w≠x
 three:∀w x a b,M w x a b→0≤w∧w≤2∧0≤x∧x≤2
 sym:∀w x a b,M w x a b→M x w b a
 mono:∀w x a b a' b',M w x a b→M w x a' b'→b≤b'→a≤a'
 strict:∀w x a b a' b',M w x a b→M w x a' b'→b<b'→a<a'
 round:∀w x y a b c d e f,M w x a b→M x y c d→M y w e f→b≤c→d≤e→f≤a→b=c∧d=e∧f=a
inductive Xh (M:Int→Int→Int→Int→Prop)(w k:Int)(f:Bool)(w' k':Int):Prop
 | one (h:w=w') (h1:k≤k') (h2:f=true→k<k')
 | two (a b:Int) (h:w≠w') (hm:M w w' a b) (h1:k≤a) (h2:b≤k') (h3:f=true→k<a∨b<k')
 | three (x a b c d:Int) (h:w≠w') (hm:M w x a b) (hm2:M x w' c d) (h1:k≤a) (h2:b≤c) (h3:d≤k') (h4:f=true→k<a∨b<c∨d<k')
theorem Vl:∀w x y z:Fin 3,x≠y→w≠x→w≠y→w≠z→z≠x→y=z:=by decide
theorem M9 {w:Int}(h:0≤w)(h2:w≤2):∃a:Fin 3,(a.val:Int)=w:=⟨⟨w.toNat,(Iz h).mpr (Ah h2 (by decide))⟩,Bl h⟩
theorem XW {w x y z:Int}(t1:0≤x∧x≤2∧0≤y∧y≤2)(t2:0≤w∧w≤2∧0≤z∧z≤2)(a:x≠y)(b:w≠x)(c:w≠y)(d:w≠z)(e:z≠x):y=z:=by
 obtain ⟨x,rfl⟩:=M9 t1.1 t1.2.1;obtain ⟨y,rfl⟩:=M9 t1.2.2.1 t1.2.2.2;obtain ⟨w,rfl⟩:=M9 t2.1 t2.2.1;obtain ⟨z,rfl⟩:=M9 t2.2.2.1 t2.2.2.2;rw [Vl w x y z (fun h=>a (h▸rfl)) (fun h=>b (h▸rfl)) (fun h=>c (h▸rfl)) (fun h=>d (h▸rfl)) fun h=>e (h▸rfl)]
theorem Sh {M:Int→Int→Int→Int→Prop}{V:Int→Int→Prop}(G:Pn M){w k:Int}{f:Bool}{w' k':Int}(h:Rch M V w k f w' k'):Xh M w k f w' k':=by
 induction h with
 | refl=>exact .one rfl (BX _) fun h=>by cases h
 | @step f x a h hv ih=>
  rcases ih with ⟨h0,h1,h2⟩ | ⟨a',b,h0,hm,h1,h2,h3⟩ | ⟨x',a',b,c,d,h0,hm,hm2,h1,h2,h3,h4⟩
  ·exact .one h0 (BC (Cr h1)) fun _=>Cr h1
  ·exact .two a' b h0 hm h1 (BC (Cr h2)) fun _=>.inr (Cr h2)
  exact .three x' a' b c d h0 hm hm2 h1 h2 (BC (Cr h3)) fun _=>.inr (.inr (Cr h3))
 | @hop f x a y b h hm ih=>
  have hxy:=G.ne _ _ _ _ hm;rcases ih with ⟨h0,h1,h2⟩ | ⟨a',b',h0,hm1,h1,h2,h3⟩ | ⟨x',a',b',c,d,h0,hm1,hm2,h1,h2,h3,h4⟩
  ·subst h0;exact .two a b hxy hm h1 (BX _) fun hf=>.inl (h2 hf)
  ·by_cases hy:w=y
   ·subst hy;have s:=G.sym _ _ _ _ hm;have l1:=G.mono _ _ _ _ _ _ hm1 s h2;refine .one rfl (AP h1 l1) fun hf=>?_;rcases h3 hf with h | h
    ·exact AR h l1
    exact Ah h1 (G.strict _ _ _ _ _ _ hm1 s h)
   refine .three x a' b' a b hy hm1 hm h1 h2 (BX _) fun hf=>?_;rcases h3 hf with h | h
   ·exact .inl h
   exact .inr (.inl h)
  by_cases hy:w=y
  ·subst hy
   by_cases hl:b≤a'
   ·have r:=G.round _ _ _ _ _ _ _ _ _ hm1 hm2 hm h2 h3 hl;refine .one rfl (r.2.2.symm▸h1) fun hf=>?_;rcases h4 hf with h | h | h
    ·exact r.2.2.symm▸h
    ·exact absurd r.1 (J0 h)
    exact absurd r.2.1 (J0 h)
   exact .one rfl (AP h1 (BC (Int.not_le.mp hl))) fun _=>Ah h1 (Int.not_le.mp hl)
  have t1:=G.three _ _ _ _ hm;have t2:=G.three _ _ _ _ hm1;have n1:=G.ne _ _ _ _ hm1;have n2:=G.ne _ _ _ _ hm2;have hyx:y=x':=XW t1 t2 hxy h0 hy n1 n2;subst hyx;have s:=G.sym _ _ _ _ hm;have l1:=G.mono _ _ _ _ _ _ hm2 s h3;refine .two a' b' n1 hm1 h1 (AP h2 l1) fun hf=>?_;rcases h4 hf with h | h | h
  ·exact .inl h
  ·exact .inr (AR h l1)
  exact .inr (Ah h2 (G.strict _ _ _ _ _ _ hm2 s h))
theorem Sg {M:Int→Int→Int→Int→Prop}{V:Int→Int→Prop}(G:Pn M){w k:Int}(h:Rch M V w k true w k):False:=by
 rcases Sh G h with ⟨_,_,h2⟩ | ⟨_,_,h0,_⟩ | ⟨_,_,_,_,_,h0,_⟩
 ·exact absurd (h2 rfl) (DY _)
 ·exact h0 rfl
 exact h0 rfl
section
noncomputable def vC (c:Int):Int:=if c=1 then 1 else 0
noncomputable def wC (c:Int):Int:=if c=0 then 1 else 2
noncomputable def Fa (A B C:List (Int×Int))(c:Int):List (Int×Int):=if c=0 then A else if c=1 then B else C
noncomputable def mOf (T:Int→List (Int×Int))(c:Int):List (Int×Int):=(T c).map fun p=>(4*vC c+p.1,4*wC c+p.2)
noncomputable def Bd (T:Int→List (Int×Int))(ks:List Int):List (Int×Int):=ks.flatMap (mOf T)
noncomputable def kepts:List (List Int):=[[0,1],[1,2],[0,2],[0,1,2]]
structure TOk (n0 n1 n2:Nat)(A B C:List (Int×Int)):Prop where
 i0:A.Pairwise fun p q=>p.1<q.1∧p.2<q.2
 i1:B.Pairwise fun p q=>p.1<q.1∧p.2<q.2
 i2:C.Pairwise fun p q=>p.1<q.1∧p.2<q.2
 b0:∀p∈A,0≤p.1∧p.1<n0∧0≤p.2∧p.2<n1
 b1:∀p∈B,0≤p.1∧p.1<n1∧0≤p.2∧p.2<n2
 b2:∀p∈C,0≤p.1∧p.1<n0∧0≤p.2∧p.2<n2
set_option tactic.hygienic true in
theorem RH {S:Int→Prop}:∀(ms:List (Int×Int))(g:Int→Int),(∀p p',g p=g p'→(S p↔S p'))→(∀q∈ms,S q.1↔S q.2)→∀p p',ms.foldl Kg g p=ms.foldl Kg g p'→(S p↔S p'):=by
 intro xX
 induction xX with
 | nil=>
  intro g h _;exact h
 | cons q ms iH=>
  intro g h hm;refine iH (Kg g q) (fun p p' e=>?_) fun q' hq'=>hm q' (.tail _ hq');have hq:=hm q (.head _);unfold Kg at e;split at e<;>split at e
  ·rename_i h1 h2;exact h p p' (h1.trans h2.symm)
  ·rename_i h1 h2;exact (h p q.2 h1).trans (hq.symm.trans (h _ _ e))
  ·rename_i h1 h2;exact (h _ _ e).trans (hq.trans (h p' q.2 h2).symm)
  exact h p p' e
theorem LK:∀(ms:List (Int×Int))(g:Int→Int)(p p':Int),g p=g p'→ms.foldl Kg g p=ms.foldl Kg g p'
 | [],g,p,p',h=>h
 | q::ms,g,p,p',h=>LK ms (Kg g q) p p' (by unfold Kg;rw [h])
theorem TU:∀(ms:List (Int×Int))(g:Int→Int)(q:Int×Int),q∈ms→ms.foldl Kg g q.1=ms.foldl Kg g q.2:=by
 intro xX
 induction xX with
 | nil=>intro g q h;cases h
 | cons a ms iH=>
  intro g q h;rcases mc1 h with rfl | h
  ·refine LK ms (Kg g q) _ _ ?_;unfold Kg;rw [if_pos (rfl:g q.2=g q.2)];split<;>rfl
  exact iH (Kg g a) q h
def MR (T:Int→List (Int×Int))(ks:List Int)(w x a b:Int):Prop:=∃c∈ks,(w=vC c∧x=wC c∧(a,b)∈T c)∨(w=wC c∧x=vC c∧(b,a)∈T c)
structure TSt (T:Int→List (Int×Int))(ks:List Int):Prop where
 c3:∀c∈ks,c=0∨c=1∨c=2
 inc:∀c∈ks,(T c).Pairwise fun p q=>p.1<q.1∧p.2<q.2
 b4:∀c∈ks,∀p∈T c,0≤p.1∧p.1<4∧0≤p.2∧p.2<4
theorem OG {c c':Int}(h:c=0∨c=1∨c=2)(h':c'=0∨c'=1∨c'=2):(vC c=vC c'→wC c=wC c'→c=c')∧(vC c=wC c'→wC c=vC c'→False)∧vC c≠wC c∧0≤vC c∧vC c≤2∧0≤wC c∧wC c≤2:=by
 rcases h with rfl | rfl | rfl<;>rcases h' with rfl | rfl | rfl<;>decide
theorem Rj {l:List (Int×Int)}(h:l.Pairwise fun p q=>p.1<q.1∧p.2<q.2):∀p∈l,∀q∈l,p=q∨(p.1<q.1∧p.2<q.2)∨(q.1<p.1∧q.2<p.2):=by
 induction l with
 | nil=>intro p hp;cases hp
 | cons a l ih=>
  refine CL (List.pairwise_cons.mp h) ?_;intro h1 h2;intro p hp q hq;rcases mc1 hp with rfl | hp'<;>rcases mc1 hq with rfl | hq'
  ·exact .inl rfl
  ·exact .inr (.inl (h1 q hq'))
  ·exact .inr (.inr (h1 p hp'))
  exact ih h2 p hp' q hq'
theorem Ro {T:Int→List (Int×Int)}{ks:List Int}(S:TSt T ks){w x a b a' b':Int}(h:MR T ks w x a b)(h':MR T ks w x a' b'):(a=a'∧b=b')∨(a<a'∧b<b')∨(a'<a∧b'<b):=by
 refine Aq h ?_;intro c hc h;refine Aq h' ?_;intro c' hc' h';refine Dj (OG (S.c3 c hc) (S.c3 c' hc')) ?_;intro i1 i2 _;rcases h with ⟨e1,e2,h⟩ | ⟨e1,e2,h⟩<;>rcases h' with ⟨e1',e2',h'⟩ | ⟨e1',e2',h'⟩
 ·obtain rfl:=i1 (e1.symm.trans e1') (e2.symm.trans e2');rcases Rj (S.inc c hc) _ h _ h' with e | e | e
  ·cases e;exact .inl ⟨rfl,rfl⟩
  ·exact .inr (.inl e)
  exact .inr (.inr e)
 ·exact (i2 (e1.symm.trans e1') (e2.symm.trans e2')).elim
 ·exact (i2 (e2.symm.trans e2') (e1.symm.trans e1')).elim
 obtain rfl:=i1 (e2.symm.trans e2') (e1.symm.trans e1');rcases Rj (S.inc c hc) _ h _ h' with e | e | e
 ·cases e;exact .inl ⟨rfl,rfl⟩
 ·exact .inr (.inl ⟨e.2,e.1⟩)
 exact .inr (.inr ⟨e.2,e.1⟩)
theorem VU {T:Int→List (Int×Int)}{ks:List Int}(S:TSt T ks){d a b:Int}(hd:d=0∨d=1∨d=2)(h:MR T ks (vC d) (wC d) a b):d∈ks∧(a,b)∈T d:=by
 obtain ⟨c,hc,h⟩:=h;have v:=OG hd (S.c3 c hc);rcases h with h | h
 ·exact v.1 h.1 h.2.1▸⟨hc,h.2.2⟩
 exact (v.2.1 h.1 h.2.1).elim
theorem GA {T:Int→List (Int×Int)}{ks:List Int}{w x a b:Int}(h:MR T ks w x a b):MR T ks x w b a:=by
 obtain ⟨c,hc,h⟩:=h;exact ⟨c,hc,h.elim (fun h=>.inr ⟨h.2.1,h.1,h.2.2⟩) fun h=>.inl ⟨h.2.1,h.1,h.2.2⟩⟩
set_option synthInstance.maxSize 1000 in
theorem Vk:∀w x y:Fin 3,w≠x→x≠y→y≠w→(w=0∧x=1∧y=2)∨(w=1∧x=2∧y=0)∨(w=2∧x=0∧y=1)∨(w=0∧x=2∧y=1)∨(w=2∧x=1∧y=0)∨(w=1∧x=0∧y=2):=by decide
theorem So {T:Int→List (Int×Int)}{ks:List Int}(S:TSt T ks)(hr:0∈ks→1∈ks→2∈ks→H4 (T 0) (T 1) (T 2)=false):Pn (MR T ks):=by
 have lead:0∈ks→1∈ks→2∈ks→∀p∈T 0,∀q∈T 1,∀r∈T 2,H3 p q r=false:=by
  intro k0 k1 k2 p hp q hq r hr';have h:=hr k0 k1 k2;unfold H4 at h
  cases e:H3 p q r with
  | false=>rfl
  | true=>rw [List.any_eq_true.mpr ⟨p,hp,List.any_eq_true.mpr ⟨q,hq,List.any_eq_true.mpr ⟨r,hr',e⟩⟩⟩] at h;cases h
 have lead2:∀{p q r:Int×Int},H3 p q r=false→(0≤p.1-r.1∧0≤q.1-p.2∧0≤r.2-q.2)∨(p.1-r.1≤0∧q.1-p.2≤0∧r.2-q.2≤0)→p.1-r.1=0∧q.1-p.2=0∧r.2-q.2=0:=by
  intro p q r h h2
  by_cases h0:p.1-r.1=0∧q.1-p.2=0∧r.2-q.2=0
  ·exact h0
  unfold H3 at h;rw [decide_eq_true h0,Bool.true_and] at h;rcases h2 with h2 | h2
  ·rw [decide_eq_true h2] at h;cases h
  rw [decide_eq_true h2,Bool.or_true] at h;cases h
 have key:∀a b c d e f,MR T ks 0 1 a b→MR T ks 1 2 c d→MR T ks 2 0 e f→(b≤c∧d≤e∧f≤a)∨(c≤b∧e≤d∧a≤f)→b=c∧d=e∧f=a:=by
  intro a b c d e f h1 h2 h3 hl;have m0:=VU S (d:=0) (.inl rfl) h1;have m1:=VU S (d:=1) (.inr (.inl rfl)) h2;have m2:=VU S (d:=2) (.inr (.inr rfl)) (GA h3);have z:=lead2 (lead m0.1 m1.1 m2.1 _ m0.2 _ m1.2 _ m2.2) (hl.imp (fun h=>⟨Ab h.2.2,Ab h.1,Ab h.2.1⟩) fun h=>⟨Fy h.2.2,Fy h.1,Fy h.2.1⟩);exact ⟨(Int.sub_eq_zero.mp z.2.1).symm,(Int.sub_eq_zero.mp z.2.2).symm,(Int.sub_eq_zero.mp z.1).symm⟩
 have three:∀w x a b,MR T ks w x a b→(0≤w∧w≤2∧0≤x∧x≤2)∧w≠x:=by
  rintro w x a b ⟨c,hc,h⟩;have v:=(OG (S.c3 c hc) (S.c3 c hc)).2.2;rcases h with h | h<;>rw [h.1,h.2.1]
  ·exact ⟨v.2,v.1⟩
  exact ⟨⟨v.2.2.2.1,v.2.2.2.2,v.2.1,v.2.2.1⟩,v.1.symm⟩
 refine ⟨fun w x a b h=>(three w x a b h).2,fun w x a b h=>(three w x a b h).1,fun w x a b h=>GA h,?_,?_,?_⟩
 ·intro w x a b a' b' h h' hl;rcases Ro S h h' with e | e | e
  ·exact Ca e.1
  ·exact BC e.1
  exact absurd hl (Int.not_le.mpr e.2)
 ·intro w x a b a' b' h h' hl;rcases Ro S h h' with e | e | e
  ·exact absurd hl (by rw [e.2];exact DY _)
  ·exact e.1
  exact absurd hl (Int.not_lt.mpr (BC e.2))
 intro w x y a b c d e f h1 h2 h4 l1 l2 l3;have t1:=three _ _ _ _ h1;have t2:=three _ _ _ _ h2;have t4:=(three _ _ _ _ h4).2;obtain ⟨w,rfl⟩:=M9 t1.1.1 t1.1.2.1;obtain ⟨x,rfl⟩:=M9 t2.1.1 t2.1.2.1;obtain ⟨y,rfl⟩:=M9 t2.1.2.2.1 t2.1.2.2.2;have p:=Vk w x y (fun h=>t1.2 (h▸rfl)) (fun h=>t2.2 (h▸rfl)) fun h=>t4 (h▸rfl);clear t1 t2 t4;rcases p with ⟨rfl,rfl,rfl⟩ | ⟨rfl,rfl,rfl⟩ | ⟨rfl,rfl,rfl⟩ | ⟨rfl,rfl,rfl⟩ | ⟨rfl,rfl,rfl⟩ | ⟨rfl,rfl,rfl⟩
 ·exact key a b c d e f h1 h2 h4 (.inl ⟨l1,l2,l3⟩)
 ·have z:=key e f a b c d h4 h1 h2 (.inl ⟨l3,l1,l2⟩);exact ⟨z.2.1,z.2.2,z.1⟩
 ·have z:=key c d e f a b h2 h4 h1 (.inl ⟨l2,l3,l1⟩);exact ⟨z.2.2,z.1,z.2.1⟩
 ·have z:=key f e d c b a (GA h4) (GA h2) (GA h1) (.inr ⟨l2,l1,l3⟩);exact ⟨z.2.1.symm,z.1.symm,z.2.2.symm⟩
 ·have z:=key d c b a f e (GA h2) (GA h1) (GA h4) (.inr ⟨l1,l3,l2⟩);exact ⟨z.1.symm,z.2.2.symm,z.2.1.symm⟩
 have z:=key b a f e d c (GA h1) (GA h4) (GA h2) (.inr ⟨l3,l2,l1⟩);exact ⟨z.2.2.symm,z.2.1.symm,z.1.symm⟩
end
noncomputable def Ei (ns:List NI):List (Int×Tok):=(ns.filter fun e=>e.np==0).map fun e=>(e.nm,e.tn)
theorem b4_ {p:Int×Int}{m n:Nat}(hm:m≤4)(hn:n≤4)(h:0≤p.1∧p.1<m∧0≤p.2∧p.2<n):0≤p.1∧p.1<4∧0≤p.2∧p.2<4:=⟨h.1,AR h.2.1 (Int.ofNat_le.mpr hm),h.2.2.1,AR h.2.2.2 (Int.ofNat_le.mpr hn)⟩
theorem dig {w a x b:Int}(e:4*w+a=4*x+b)(a0:0≤a)(a4:a<4)(b0:0≤b)(b4:b<4):w=x∧a=b:=by lia
theorem am {w a:Int}(hm:(4*w+a)%4≠0)(ha:0≤a):1≤a:=iln ha fun e=>hm (by rw [←e,DV,Int.mul_emod_right])
theorem a4_ {a:Int}(h:a<4):a-1<4:=Ah (Int.sub_le_self a (by decide)) h
theorem sz {a b:Int}(h:0≤a-b)(n:¬b<a):a-b=0:=Ef (Fy (Int.not_lt.mp n)) h
theorem sn {a b:Int}(h:a-b≤0)(n:¬a<b):a-b=0:=Ef h (Ab (Int.not_lt.mp n))
theorem mx {l M a:Int}(h:l=a+1)(h1:M<l)(h2:a≤M):l=1+M:=by
 subst h;rw [Ef (G0 h1) h2,FL]
theorem SI {n0 n1 n2:Nat}{A B C:List (Int×Int)}(h4:n0≤4∧n1≤4∧n2≤4)(O:TOk n0 n1 n2 A B C){ks:List Int}(hk:ks∈kepts):TSt (Fa A B C) ks:=by
 have hc:∀c∈ks,c=0∨c=1∨c=2:=by
  unfold kepts at hk;simp only [BD,Au,or_false] at hk;rcases hk with rfl | rfl | rfl | rfl<;>decide
 refine ⟨hc,fun c h=>?_,fun c h=>?_⟩<;>rcases hc c h with rfl | rfl | rfl
 ·exact O.i0
 ·exact O.i1
 ·exact O.i2
 ·exact fun p hp=>b4_ h4.1 h4.2.1 (O.b0 p hp)
 ·exact fun p hp=>b4_ h4.2.1 h4.2.2 (O.b1 p hp)
 exact fun p hp=>b4_ h4.1 h4.2.2 (O.b2 p hp)
theorem R1 {k:Int}:k.fmod 4=k%4:=Tu _ (by decide)
section
variable {T:Int→List (Int×Int)}{ks P:List Int}
def SP (T:Int→List (Int×Int))(ks:List Int)(w0 a0:Int)(fl:Bool)(c:Int):Prop:=∃x a,c=4*x+a∧0≤a∧a<4∧Rch (MR T ks) (fun _ _=>True) w0 a0 fl x a
theorem ON (S:TSt T ks){w0 a0:Int}{fl:Bool}:∀q∈Bd T ks,SP T ks w0 a0 fl q.1↔SP T ks w0 a0 fl q.2:=by
 intro q hq;refine Aq (List.mem_flatMap.mp hq) ?_;intro c hc hq;refine Aq (mm1 hq) ?_;intro p hp e92;subst e92;have hb:=S.b4 c hc p hp
 constructor
 ·rintro ⟨x,a,h1,h2,h3,h4⟩;dsimp only at h1;refine CL (dig h1.symm h2 h3 hb.1 hb.2.1:x=vC c∧a=p.1) ?_;intro e90 e91;subst e90;subst e91;exact ⟨wC c,p.2,rfl,hb.2.2.1,hb.2.2.2,.hop h4 ⟨c,hc,.inl ⟨rfl,rfl,hp⟩⟩⟩
 rintro ⟨x,a,h1,h2,h3,h4⟩;dsimp only at h1;refine CL (dig h1.symm h2 h3 hb.2.2.1 hb.2.2.2:x=wC c∧a=p.2) ?_;intro e90 e91;subst e90;subst e91;exact ⟨vC c,p.1,rfl,hb.1,hb.2.1,.hop h4 ⟨c,hc,.inr ⟨rfl,rfl,hp⟩⟩⟩
theorem VH (S:TSt T ks)(hP:∀k∈P,∃w a:Int,k=4*w+a∧0≤a∧a<4){c0:Int}{fl:Bool}{c w0 a0:Int}(h:Wk (Hs (I4 (Bd T ks)) P) c0 fl c)(h0:I4 (Bd T ks) (4*w0+a0)=c0)(h1:0≤a0∧a0<4) :
  ∀k',I4 (Bd T ks) k'=c→SP T ks w0 a0 fl k':=by
 have inv:∀{fl:Bool} {p p':Int},I4 (Bd T ks) p=I4 (Bd T ks) p'→(SP T ks w0 a0 fl p↔SP T ks w0 a0 fl p'):=fun {fl p p'} e=>RH (Bd T ks) id (fun p p' e=>by rw [show p=p' from e]) (ON S) p p' e
 induction h with
 | refl=>
  intro k' e;exact (inv (e.trans h0.symm)).mpr ⟨w0,a0,rfl,h1.1,h1.2,.refl⟩
 | @step f x y h e ih=>
  intro k' ek;refine Dn (esPl_mem.mp e) ?_;intro k hk hm e2;have ex:x=I4 (Bd T ks) (k-1):=congrArg Ci e2;have ey:y=I4 (Bd T ks) k:=congrArg Dw e2;refine PO (hP k hk) ?_;intro w a e92 ha ha4;subst e92;rw [R1] at hm;refine Vs (ih _ ex.symm) ?_;intro x' a' q1 q2 q3 q4;refine CL (dig ((E6 _ _ _).symm.trans q1) (Ab (am hm ha)) (a4_ ha4) q2 q3) ?_;intro e5 e6;obtain rfl:x'=w:=e5.symm;obtain rfl:a'=a-1:=e6.symm;refine (inv (ek.trans ey)).mpr ⟨x',a,rfl,ha,ha4,?_⟩;have:=Rch.step q4 trivial;rw [Gq] at this;exact this
theorem VQ (S:TSt T ks)(G:Pn (MR T ks))(hP:∀k∈P,∃w a:Int,k=4*w+a∧0≤a∧a<4):∀c,¬Wk (Hs (I4 (Bd T ks)) P) c true c:=by
 intro c h;rcases ID h with ⟨h1,_⟩ | ⟨y,f,h1,h2⟩
 ·cases h1
 refine Dn (esPl_mem.mp h1) ?_;intro k hk hm e2;have ex:c=I4 (Bd T ks) (k-1):=congrArg Ci e2;refine PO (hP k hk) ?_;intro w a e92 ha ha4;subst e92;rw [R1] at hm;obtain ⟨x',a',q1,q2,q3,q4⟩:=VH S hP (w0:=w) (a0:=a-1) h (by rw [ex,←E6]) ⟨Ab (am hm ha),a4_ ha4⟩ _ ex.symm;refine CL (dig ((E6 _ _ _).symm.trans q1) (Ab (am hm ha)) (a4_ ha4) q2 q3) ?_;intro e5 e6;obtain rfl:x'=w:=e5.symm;obtain rfl:a'=a-1:=e6.symm;exact Sg G q4
end
theorem Sk {ns:List Nat}(h4:∀w,ns.getD w 0≤4):∀k∈Br ns,∃w a:Int,k=4*w+a∧0≤a∧a<4:=by
 intro k hk;obtain ⟨w,hw,j,hj,e⟩:=upPl_mem.mp hk;exact ⟨w,j,e,Ag j,Int.ofNat_lt.mpr (B5 hj (h4 w))⟩
theorem Us {n0 n1 n2:Nat}(h4:n0≤4∧n1≤4∧n2≤4):∀w,[n0,n1,n2].getD w 0≤4
 | 0=>h4.1
 | 1=>h4.2.1
 | 2=>h4.2.2
 | _+3=>B0 _
theorem U3 {f:Int→Int}{P:List Int}{c w:Int}:∀(d:Nat)(fl:Bool)(i:Int),0≤i→i+d<4→(∀j,i≤j→j≤i+d→4*w+j∈P)→Wk (Hs f P) c fl (f (4*w+i))→∃fl',Wk (Hs f P) c fl' (f (4*w+(i+d)))∧(fl=true∨0<d→fl'=true):=by
 intro xX
 induction xX with
 | zero=>
  intro fl i h0 h1 hp h;exact ⟨fl,by rw [show i+((0:Nat):Int)=i from DV i];exact h,fun h=>h.elim id fun h=>absurd h (by decide)⟩
 | succ d iH=>
  intro fl i h0 h1 hp h;have ed:i+((d+1:Nat):Int)=i+1+(d:Int):=by rw [CC,FL 1];rfl
  rw [ed] at h1 hp ⊢;have u1:=BC (Int.lt_succ i);have u2:i+1≤i+1+(d:Int):=Aj (Ag d);have hs:Wk (Hs f P) c true (f (4*w+(i+1))):=.step h (esPl_mem.mpr ⟨4*w+(i+1),hp (i+1) u1 u2,by rw [R1,Tt,Int.emod_eq_of_lt (AP h0 u1) (Ah u2 h1)];exact O4 (Cr h0),by rw [←CC,Gs]⟩);refine Aq (iH true (i+1) (AP h0 u1) h1 (fun j a b=>hp j (AP u1 a) b) hs) ?_;intro fl' k1 k2;exact ⟨fl',k1,fun _=>k2 (.inl rfl)⟩
theorem JZ {f:Int→Int}{P:List Int}{c w:Int}{fl:Bool}{i j:Int}(h0:0≤i)(hij:i≤j)(h1:j<4)(hp:∀t,0≤t→t≤j→4*w+t∈P)(h:Wk (Hs f P) c fl (f (4*w+i))):∃fl',Wk (Hs f P) c fl' (f (4*w+j))∧(fl=true∨i<j→fl'=true):=by
 refine Bp (Int.le.dest hij) ?_;intro n e91;subst e91;refine Aq (U3 n fl i h0 h1 (fun t a b=>hp t (AP h0 a) b) h) ?_;intro fl' k1 k2;exact ⟨fl',k1,fun h=>k2 (h.imp id fun h=>MN fun e=>absurd h (by rw [e];exact Int.not_lt.mpr (Ca (DV i))))⟩
theorem Qf {n0 n1 n2:Nat}{A B C:List (Int×Int)}(h4:n0≤4∧n1≤4∧n2≤4)(O:TOk n0 n1 n2 A B C)(hl:H4 A B C=true):∃c,Wk (Hs (I4 (Bd (Fa A B C) [0,1,2])) (Br [n0,n1,n2])) c true c:=by
 unfold H4 at hl;refine Aq (List.any_eq_true.mp hl) ?_;intro p hp hl;refine Aq (List.any_eq_true.mp hl) ?_;intro q hq hl;refine Aq (List.any_eq_true.mp hl) ?_;intro r hr hl;have bp:=O.b0 p hp;have bq:=O.b1 q hq;have br:=O.b2 r hr;have inP:∀(w:Nat) (n:Nat),[n0,n1,n2].getD w 0=n→w<3→∀{j:Int},j<n→∀t,0≤t→t≤j→4*(w:Int)+t∈Br [n0,n1,n2]:=fun w n e hw j hj t t0 t1=>upPl_mem.mpr ⟨w,hw,t.toNat,by rw [e];exact (Iz t0).mpr (Ah t1 hj),by rw [Bl t0]⟩;have cp:=b4_ h4.1 h4.2.1 bp;have cq:=b4_ h4.2.1 h4.2.2 bq;have cr:=b4_ h4.1 h4.2.2 br;have eq:∀(c:Int) (t:Int×Int),c∈[0,1,2]→t∈Fa A B C c→I4 (Bd (Fa A B C) [0,1,2]) (4*vC c+t.1)=I4 (Bd (Fa A B C) [0,1,2]) (4*wC c+t.2):=fun c t hc ht=>
  TU (Bd (Fa A B C) [0,1,2]) id (4*vC c+t.1,4*wC c+t.2) (List.mem_flatMap.mpr ⟨c,hc,mm2 ⟨t,ht,rfl⟩⟩)
 have e0:I4 (Bd (Fa A B C) [0,1,2]) (4*((0:Nat):Int)+p.1)=I4 (Bd (Fa A B C) [0,1,2]) (4*((1:Nat):Int)+p.2):=eq 0 p (by decide) hp;have e1:I4 (Bd (Fa A B C) [0,1,2]) (4*((1:Nat):Int)+q.1)=I4 (Bd (Fa A B C) [0,1,2]) (4*((2:Nat):Int)+q.2):=eq 1 q (by decide) hq;have e2:I4 (Bd (Fa A B C) [0,1,2]) (4*((0:Nat):Int)+r.1)=I4 (Bd (Fa A B C) [0,1,2]) (4*((2:Nat):Int)+r.2):=eq 2 r (by decide) hr;generalize I4 (Bd (Fa A B C) [0,1,2])=f at *;unfold H3 at hl;refine CL (Bool.and_eq_true_iff.mp hl) ?_;intro hl1 hl2;have hl1:=of_decide_eq_true hl1;rcases Bool.or_eq_true_iff.mp hl2 with h | h
 ·have h:=of_decide_eq_true h;obtain ⟨f1,a1,b1⟩:=JZ (f:=f) (c:=f (4*((0:Nat):Int)+r.1)) (w:=((0:Nat):Int)) (i:=r.1) (j:=p.1) br.1 (Kc h.1) cp.2.1 (inP 0 n0 rfl (by decide) bp.2.1) .refl;rw [e0] at a1;obtain ⟨f2,a2,b2⟩:=JZ (w:=((1:Nat):Int)) (i:=p.2) (j:=q.1) bp.2.2.1 (Kc h.2.1) cq.2.1 (inP 1 n1 rfl (by decide) bq.2.1) a1;rw [e1] at a2;obtain ⟨f3,a3,b3⟩:=JZ (w:=((2:Nat):Int)) (i:=q.2) (j:=r.2) bq.2.2.1 (Kc h.2.2) cr.2.2.2 (inP 2 n2 rfl (by decide) br.2.2.2) a2;rw [←e2] at a3;have:f3=true:=by
   refine b3 ?_
   by_cases h3:q.2<r.2
   ·exact .inr h3
   refine .inl (b2 ?_)
   by_cases h2:p.2<q.1
   ·exact .inr h2
   exact .inl (b1 (.inr (Classical.byContradiction fun n=>hl1 ⟨sz h.1 n,sz h.2.1 h2,sz h.2.2 h3⟩)))
  subst this;exact ⟨_,a3⟩
 have h:=of_decide_eq_true h;obtain ⟨f1,a1,b1⟩:=JZ (f:=f) (c:=f (4*((0:Nat):Int)+p.1)) (w:=((0:Nat):Int)) (i:=p.1) (j:=r.1) bp.1 (Fz h.1) cr.2.1 (inP 0 n0 rfl (by decide) br.2.1) .refl;rw [e2] at a1;obtain ⟨f2,a2,b2⟩:=JZ (w:=((2:Nat):Int)) (i:=r.2) (j:=q.2) br.2.2.1 (Fz h.2.2) cq.2.2.2 (inP 2 n2 rfl (by decide) bq.2.2.2) a1;rw [←e1] at a2;obtain ⟨f3,a3,b3⟩:=JZ (w:=((1:Nat):Int)) (i:=q.1) (j:=p.2) bq.1 (Fz h.2.1) cp.2.2.2 (inP 1 n1 rfl (by decide) bp.2.2.2) a2;rw [←e0] at a3;have:f3=true:=by
  refine b3 ?_
  by_cases h3:q.1<p.2
  ·exact .inr h3
  refine .inl (b2 ?_)
  by_cases h2:r.2<q.2
  ·exact .inr h2
  exact .inl (b1 (.inr (Classical.byContradiction fun n=>hl1 ⟨sn h.1 n,sn h.2.1 h3,sn h.2.2 h2⟩)))
 subst this;exact ⟨_,a3⟩
theorem MZ {ns:List NI}{f:Int→Int}{P:List Int}(h:BW ns=gPl f P):FU ns=fun b a=>(a,b)∈Hs f P:=by
 funext b a
 have e:GT ns a=gsc (BW ns) a:=by
  unfold GT gsc BW;rw [FJ];show _=match (EH (fun e:NI=>decide (e.nm=a)) ns).map DF with | some e=>e.sc | none=>[]
  cases EH (fun e:NI=>decide (e.nm=a)) ns<;>rfl
 show (b∈GT ns a)=_;rw [e,h,(Hq f P).sc_mem]
theorem L3 {ns:List NI}{g:Gr}(h:BW ns=g):g.map (·.nm)=ns.map (·.nm):=by
 rw [←h];unfold BW;rw [Ao];rfl
theorem Ok {f:Int→Int}{pls:List Int}{ns:List NI}(h:BW ns=gPl f pls):∀e∈ns,∀q∈e.sc,q.1∈ns.map (·.nm):=by
 intro e he q hq;have hnd:(ns.map (·.nm)).Nodup:=by rw [←L3 h];exact (Hq f pls).nd
 have hs:=H6 hnd he;have:q.1∈gsc (gPl f pls) e.nm:=by rw [←h,hs];exact mm2 ⟨q,hq,rfl⟩
 rw [(Hq f pls).sc_mem] at this;rw [←L3 h];exact ((Hq f pls).mem _ this).2
theorem NM {f:Int→Int}{pls:List Int}{ns:List NI}(h:BW ns=gPl f pls):∀x b,b∈gsc (BW ns) x→b∈ns.map (·.nm):=by
 intro x b hb;rw [h,(Hq f pls).sc_mem] at hb;rw [←L3 h];exact ((Hq f pls).mem _ hb).2
theorem Oi {n0 n1 n2:Nat}{A B C:List (Int×Int)}(h4:n0≤4∧n1≤4∧n2≤4)(O:TOk n0 n1 n2 A B C){ks:List Int}(hk:ks∈kepts){ns:List NI}(h:BW ns=gPl (I4 (Bd (Fa A B C) ks)) (Br [n0,n1,n2]))(hn:(ns.map (·.nm)).Nodup) :
  (∀e∈ns,Acc (FU ns) e.nm)↔(ks.length<3∨H4 A B C=false):=by
 rw [MZ h];have H:=Hq (I4 (Bd (Fa A B C) ks)) (Br [n0,n1,n2])
 constructor
 ·intro ha;unfold kepts at hk;simp only [BD,Au,or_false] at hk;rcases hk with rfl | rfl | rfl | rfl
  ·exact .inl (by decide)
  ·exact .inl (by decide)
  ·exact .inl (by decide)
  right
  cases hl:H4 A B C with
  | false=>rfl
  | true=>
   refine Bp (Qf h4 O hl) ?_;intro c hc;rcases ID hc with ⟨h1,_⟩ | ⟨y,f,h1,_⟩
   ·cases h1
   have hm:=(H.mem _ h1).1;rw [L3 h] at hm;refine Aq (mm1 hm) ?_;intro e he e2;have:=ha e he;rw [e2] at this;exact absurd hc (RV this)
 intro hc e he;have S:=SI h4 O hk;have G:Pn (MR (Fa A B C) ks):=So S fun k0 k1 k2=>by
  rcases hc with hc | hc
  ·exfalso;unfold kepts at hk;simp only [BD,Au,or_false] at hk;rcases hk with rfl | rfl | rfl | rfl
   ·exact absurd k2 (by decide)
   ·exact absurd k0 (by decide)
   ·exact absurd k1 (by decide)
   exact absurd hc (by decide)
  exact hc
 refine Aq (Od _ (fun q hq=>(H.mem q hq).1) (VQ S G (Sk (Us h4)))) ?_;intro r r1 r2;exact RN r1 r2 _ _ (Ap _)
theorem NL (ns:List Nat)(h4:∀w,ns.getD w 0≤4):(Br ns).length≤12:=by
 have w0:=h4 0;have w1:=h4 1;have w2:=h4 2;have e:Br ns=wPl ns 0 (ns.getD 0 0)++(wPl ns 1 (ns.getD 1 0)++(wPl ns 2 (ns.getD 2 0)++[])):=rfl;have hw:∀i n,(wPl ns i n).length=n:=fun i n=>by unfold wPl;rw [AB,FH]
 rw [e,Ai,Ai,Ai,hw,hw,hw,List.length_nil];exact EG w0 (EG w1 (EG w2 (Ap 0)))
theorem UV {f:Int→Int}{ns0:List Nat}(h4:∀w,ns0.getD w 0≤4){ns:List NI}(h:BW ns=gPl f (Br ns0))(hn:(ns.map (·.nm)).Nodup)(hl24:ns.length≤24)(hacc:∀e∈ns,Acc (FU ns) e.nm){l:List DE}(hlf:l.map deP=(Br ns0).map fun k=>(k,f k)) :
  ∃gs lev,Tg (BW ns) ((Ei ns).map (·.1)) gs∧gs.length≤24∧(Ei ns).length≤24∧(∀q∈Ei ns,q.1∈ns.map (·.nm))∧gs.flatten.Nodup∧gs.flatten.length≤24∧(∀x,x∈gs.flatten↔∃e∈l,e.v=x)∧
   (∀(k:Nat) (r:List Int),gs[k]? = some r→∀x∈r,lev x=(k:Int)+1)∧(∀x∈gs.flatten,∀M,M∈Em lev f x l++[0]→(∀a∈Em lev f x l++[0],a≤M)→lev x=1+M):=by
 have H:=Hq f (Br ns0);have hnm:=L3 h;have hl:ns.length≤12:=by
  have h1:=Lz (m:=(Br ns0).map f) hn fun x hx=>by
   rw [←hnm] at hx;obtain ⟨k,hk,h1 | ⟨h1,h2⟩⟩:=gpl_mem.mp hx
   ·exact mm2 ⟨k,hk,h1.symm⟩
   exact mm2 ⟨k-1,K4 h4 hk h1,h2.symm⟩
  rw [AB,AB] at h1;exact Am h1 (Am (NL ns0 h4) (by decide))
 rw [MZ h] at hacc;have hcyc:∀c,¬Wk (Hs f (Br ns0)) c true c:=by
  intro c hc;rcases ID hc with ⟨h1,_⟩ | ⟨y,f',h1,_⟩
  ·cases h1
  have hm:=(H.mem _ h1).1;rw [hnm] at hm;refine Aq (mm1 hm) ?_;intro e he e2;have:=hacc e he;rw [e2] at this;exact absurd hc (RV this)
 refine Aq (Od _ (fun q hq=>(H.mem q hq).1) hcyc) ?_;intro r r1 r2;have hrl:(Ei ns).length≤ns.length:=by
  unfold Ei;rw [AB];exact DI _ _
 have hrs:∀q∈Ei ns,∃e∈ns,e.np=0∧e.nm=q.1:=by
  intro q hq;refine Aq (mm1 hq) ?_;intro e he e92;subst e92;refine CL (mf1 he) ?_;intro h1 h2;exact ⟨e,h1,by simpa using h2,rfl⟩
 have hnp:∀e∈ns,gnp (gPl f (Br ns0)) e.nm=e.np:=by
  intro e he;have:=KL hn he;rw [h] at this;unfold gnp;rw [this];rfl
 have K:Kst (gPl f (Br ns0)) (Hs f (Br ns0)) 0 (gPl f (Br ns0)) ((Ei ns).map (·.1)):=by
  refine P0 H ?_ fun b=>⟨fun hb=>?_,fun hb=>?_⟩
  ·have hs:(Ei ns).map (·.1)=(ns.filter fun e=>e.np==0).map (·.nm):=by
    unfold Ei;rw [Ao];rfl
   rw [hs];exact List.Nodup.sublist (List.filter_sublist.map _) hn
  ·refine Aq (mm1 hb) ?_;intro q hq e92;subst e92;refine Dn (hrs q hq) ?_;intro e he e1 e2;rw [hnm,←e2];exact ⟨mm2 ⟨e,he,rfl⟩,(hnp e he).trans e1⟩
  refine CL hb ?_;(try clear hb);intro h1 h2;rw [hnm] at h1;refine Aq (mm1 h1) ?_;intro e he e92;subst e92;rw [hnp e he] at h2;exact mm2 ⟨(e.nm,e.tn),mm2 ⟨e,List.mem_filter.mpr ⟨he,by rw [h2];rfl⟩,rfl⟩,rfl⟩
 have hle:(lv (gPl f (Br ns0)) (Hs f (Br ns0)) 0).length≤12:=by
  show ((gPl f (Br ns0)).map (·.nm)).length≤12;rw [hnm,AB];exact hl
 refine PO (UN H r1 hle 12 0 _ _ K hle) ?_;intro gs lev c1 c2 c3;have hmem:∀x,x∈gs.flatten↔x∈ns.map (·.nm):=fun x=>by
  rw [c3.mem,←hnm];rfl
 have hin:∀e∈l,e.k∈Br ns0∧e.v=f e.k:=by
  intro e he;have:deP e∈(Br ns0).map fun k=>(k,f k):=by rw [←hlf];exact mm2 ⟨e,he,rfl⟩
  refine Aq (mm1 this) ?_;intro k hk e2;have e3:k=e.k:=congrArg Ci e2;have e4:f k=e.v:=congrArg Dw e2;subst e3;exact ⟨hk,e4.symm⟩
 have hout:∀k∈Br ns0,∃e∈l,e.k=k∧e.v=f k:=by
  intro k hk;have:(k,f k)∈l.map deP:=by rw [hlf];exact mm2 ⟨k,hk,rfl⟩
  refine Aq (mm1 this) ?_;intro e he e2;exact ⟨e,he,congrArg Ci e2,congrArg Dw e2⟩
 refine ⟨gs,lev,by rw [h];exact c1,Am c2 (by decide),Am hrl (Am hl (by decide)),fun q hq=>?_,c3.nd,?_,fun x=>?_,c3.num,?_⟩
 ·refine Dn (hrs q hq) ?_;intro e he _ e2;exact mm2 ⟨e,he,e2⟩
 ·have:=Lz c3.nd fun x hx=>(hmem x).mp hx;rw [AB] at this;lia
 ·rw [c3.mem];show x∈(gPl f (Br ns0)).map (·.nm)↔_;rw [gpl_mem]
  constructor
  ·rintro ⟨k,hk,h1 | ⟨h1,h2⟩⟩
   ·refine Dn (hout k hk) ?_;intro e he _ e2;exact ⟨e,he,e2.trans h1.symm⟩
   refine Dn (hout _ (K4 h4 hk h1)) ?_;intro e he _ e2;exact ⟨e,he,e2.trans h2.symm⟩
  rintro ⟨e,he,rfl⟩;exact ⟨e.k,(hin e he).1,.inl (hin e he).2⟩
 intro x hx M hM hub;have hx0:=(c3.mem x).mp hx;have hah:∀{a:Int},a∈Em lev f x l↔∃p,(p,x)∈Hs f (Br ns0)∧a=lev p:=by
  intro a;unfold Em
  constructor
  ·intro ha;refine Aq (mm1 ha) ?_;intro e he e92;subst e92;refine CL (mf1 he) ?_;intro h1 h2;refine CL (Bool.and_eq_true_iff.mp h2) ?_;intro h2 h3;have h2:=of_decide_eq_true h2;have h3:=of_decide_eq_true h3;refine CL (hin e h1) ?_;intro q1 q2;exact ⟨_,esPl_mem.mpr ⟨e.k,q1,O4 h3,by rw [←h2,q2]⟩,rfl⟩
  rintro ⟨p,hp,rfl⟩;refine Dn (esPl_mem.mp hp) ?_;intro k hk hm e2;refine Dn (hout k hk) ?_;intro e he q1 q2;have e3:p=f (k-1):=congrArg Ci e2;have e4:x=f k:=congrArg Dw e2;refine mm2 ⟨e,List.mem_filter.mpr ⟨he,Bool.and_eq_true_iff.mpr ⟨decide_eq_true (q2.trans e4.symm),decide_eq_true ?_⟩⟩,by rw [q1,e3]⟩;rw [q1];rw [R1] at hm ⊢;exact iln (Int.emod_nonneg _ (by decide)) (Ne.symm hm)
 have hp0:∀p,(p,x)∈Hs f (Br ns0)→p∈lv (gPl f (Br ns0)) (Hs f (Br ns0)) 0:=fun p hp=>(H.mem _ hp).1;have hMle:M<lev x:=by
  rcases Cf.mp hM with hm | hm
  ·refine Aq (hah.mp hm) ?_;intro p hp e92;subst e92;exact c3.up x hx0 p (hp0 p hp) hp
  rw [ms1 hm];exact c3.pos x hx0
 rcases c3.pre x hx0 with h1 | ⟨p,h1,h2,h3⟩
 ·have:=hub 0 (List.mem_append_right _ (.head _));exact mx h1 hMle this
 have:=hub (lev p) (Kb _ (hah.mpr ⟨p,h2,rfl⟩));exact mx h3 hMle this
theorem Lq {ys:Array Value}{ns:List NI}(h:ys.toList=IV ns):ys=An (Ei ns):=by
 have e:ys=(IV ns).toArray:=by rw [←h]
 rw [e];unfold IV An Ei;rw [Ao];rfl
theorem Uj {ks:List Int}(h:ks∈kepts):(∀c∈ks,c=0∨c=1∨c=2)∧ks.length≤3:=by
 unfold kepts at h;simp only [BD,Au,or_false] at h;rcases h with rfl | rfl | rfl | rfl
 ·exact ⟨by decide,by decide⟩
 ·exact ⟨by decide,by decide⟩
 ·exact ⟨by decide,by decide⟩
 exact ⟨by decide,by decide⟩
theorem U8 {G:List (Addr×Obj)}{d0 d1 d2:Addr}{q0 q1 q2:Nat}{e0 e1 e2:PT}{p0 p1 p2:List PT}{n0 n1 n2:Nat}(he0:(e0.a,CP e0)∈G)(he1:(e1.a,CP e1)∈G)(he2:(e2.a,CP e2)∈G)(v0:ptP e0=(0,1))(v1:ptP e1=(1,2))(v2:ptP e2=(0,2))
  (hd0:(d0,A1 (BZ p0).toArray q0)∈G) (hd1:(d1,A1 (BZ p1).toArray q1)∈G) (hd2:(d2,A1 (BZ p2).toArray q2)∈G) (g0:∀e∈p0,(e.a,CP e)∈G) (g1:∀e∈p1,(e.a,CP e)∈G) (g2:∀e∈p2,(e.a,CP e)∈G) (O:TOk n0 n1 n2 (p0.map ptP) (p1.map ptP) (p2.map ptP)) (h4:n0≤4∧n1≤4∧n2≤4) {c:Int} (hc:c=0∨c=1∨c=2) :
  ∃dc pc qc ec,(#[A3 d0,.ref d1,.ref d2]:Array Value)[c.toNat]? = some (.ref dc)∧(dc,A1 (BZ pc).toArray qc)∈G∧(∀e∈pc,(e.a,CP e)∈G)∧pc.map ptP=Fa (p0.map ptP) (p1.map ptP) (p2.map ptP) c∧(#[A3 e0.a,.ref e1.a,.ref e2.a]:Array Value)[c.toNat]? = some (.ref ec.a)∧(ec.a,CP ec)∈G∧ec.i=vC c∧ec.j=wC c∧(∀e∈pc,0≤e.i∧e.i<4∧0≤e.j∧e.j<4)∧pc.length≤4:=by
 have hl:∀{n m:Nat} {ps:List PT},n≤4→m≤4→((ps.map ptP).Pairwise fun p q=>p.1<q.1∧p.2<q.2)→(∀p∈ps.map ptP,0≤p.1∧p.1<n∧0≤p.2∧p.2<m)→(∀e∈ps,0≤e.i∧e.i<4∧0≤e.j∧e.j<4)∧ps.length≤4:=by
  intro n m ps hn hm hi hb
  constructor
  ·intro e he;have h:=hb (ptP e) (mm2 ⟨e,he,rfl⟩);exact ⟨h.1,AR h.2.1 (Int.ofNat_le.mpr hn),h.2.2.1,AR h.2.2.2 (Int.ofNat_le.mpr hm)⟩
  have key:∀(l:List (Int×Int)) (k:Int),(l.Pairwise fun p q=>p.1<q.1∧p.2<q.2)→(∀p∈l,k≤p.1∧p.1<4)→k≤4→(l.length:Int)≤4-k:=by
   intro l
   induction l with
   | nil=>intro k _ _ hk;simp;lia
   | cons a l ih=>
    intro k hp hb hk;have h1:=hb a (.head _);have h2:=ih (a.1+1) (List.pairwise_cons.mp hp).2 (fun p hp'=>⟨((List.pairwise_cons.mp hp).1 p hp').1,(hb p (.tail _ hp')).2⟩) (by lia);rw [CF];lia
  have:=key (ps.map ptP) 0 hi (fun p hp=>⟨(hb p hp).1,by have:=(hb p hp).2.1;lia⟩) (by lia);rw [AB] at this;lia
 rcases hc with rfl | rfl | rfl
 ·have:=hl (by lia) (by lia) O.i0 O.b0;exact ⟨d0,p0,q0,e0,rfl,hd0,g0,rfl,rfl,he0,congrArg Ci v0,congrArg Dw v0,this.1,this.2⟩
 ·have:=hl (by lia) (by lia) O.i1 O.b1;exact ⟨d1,p1,q1,e1,rfl,hd1,g1,rfl,rfl,he1,congrArg Ci v1,congrArg Dw v1,this.1,this.2⟩
 have:=hl (by lia) (by lia) O.i2 O.b2;exact ⟨d2,p2,q2,e2,rfl,hd2,g2,rfl,rfl,he2,congrArg Ci v2,congrArg Dw v2,this.1,this.2⟩
theorem QY {n0 n1 n2:Nat}{A B C:List (Int×Int)}(O:TOk n0 n1 n2 A B C){ks:List Int}(hk:∀c∈ks,c=0∨c=1∨c=2){q:Int×Int}(h:q∈Bd (Fa A B C) ks):q.1∈Br [n0,n1,n2]∧q.2∈Br [n0,n1,n2]:=by
 unfold Bd at h;refine Aq (List.mem_flatMap.mp h) ?_;intro c hc hq;unfold mOf at hq;refine mmE hq ?_;intro p hp;have key:∀(w:Nat) (i:Int),w<3→0≤i→i<([n0,n1,n2].getD w 0:Nat)→4*(w:Int)+i∈Br [n0,n1,n2]:=fun w i hw h0 h1=>upPl_mem.mpr ⟨w,hw,i.toNat,(Iz h0).mpr h1,by rw [Bl h0]⟩;rcases hk c hc with rfl | rfl | rfl
 ·have h9:=O.b0 p hp;exact ⟨key 0 p.1 (by decide) h9.1 h9.2.1,key 1 p.2 (by decide) h9.2.2.1 h9.2.2.2⟩
 ·have h9:=O.b1 p hp;exact ⟨key 1 p.1 (by decide) h9.1 h9.2.1,key 2 p.2 (by decide) h9.2.2.1 h9.2.2.2⟩
 have h9:=O.b2 p hp;exact ⟨key 0 p.1 (by decide) h9.1 h9.2.1,key 2 p.2 (by decide) h9.2.2.1 h9.2.2.2⟩
set_option tactic.hygienic true in
theorem Sy (w : World) (p : AY) (lo : List Str) (mean : CG → Option Value) (mg mb : Str → Option Value) (g : Heap) (L a : Addr) (ccd : Value) (m : Str → Option Value) (s : A4)
  (G : List (Addr × Obj)) (lw lT le lk d0 d1 d2 : Addr) (ew eT ee ek q0 q1 q2 : Nat) (x y z : Str) (t1 t2 t3 : Tok) (oE oT : Obj) (e0 e1 e2 : PT) (p0 p1 p2 : List PT) (kv : List Value) (ks : List Int) (Q : Flow → A4 → Prop) (E1 E2 : Value → A4 → Prop)
  (B : Below callerA g [] g) (F : Fr g L s.heap m) (X : (Mine.K w.params).In g) (N : News g L s.heap G) (T : Top p lo mean mg mb g)
  (hw : m (A0 "words") = some (.ref lw)) (hW : (lw, A1 #[.str x t1, .str y t2, .str z t3] ew) ∈ G) (hT : (L + 1 + 1, oT) ∈ G) (dT : oT.data = .cell (some (.ref lT))) (hE : (L + 1, oE) ∈ G) (dE : oE.data = .cell (some (.ref le)))
  (hlT : (lT, A1 #[.ref d0, .ref d1, .ref d2] eT) ∈ G) (hle : (le, A1 #[.ref e0.a, .ref e1.a, .ref e2.a] ee) ∈ G) (he0 : (e0.a, CP e0) ∈ G) (he1 : (e1.a, CP e1) ∈ G) (he2 : (e2.a, CP e2) ∈ G) (v0 : ptP e0 = (0, 1)) (v1 : ptP e1 = (1, 2)) (v2 : ptP e2 = (0, 2))
  (hd0 : (d0, A1 (BZ p0).toArray q0) ∈ G) (hd1 : (d1, A1 (BZ p1).toArray q1) ∈ G) (hd2 : (d2, A1 (BZ p2).toArray q2) ∈ G) (g0 : ∀ e ∈ p0, (e.a, CP e) ∈ G) (g1 : ∀ e ∈ p1, (e.a, CP e) ∈ G) (g2 : ∀ e ∈ p2, (e.a, CP e) ∈ G)
  (hlk : (lk, A1 kv.toArray ek) ∈ G) (hI : CJ kv ks) (hks : ks ∈ kepts) (hx : x.length ≤ 4) (hy : y.length ≤ 4) (hz : z.length ≤ 4) (O : TOk x.length y.length z.length (p0.map ptP) (p1.map ptP) (p2.map ptP))
  (hret : ∀ h' tk' d' m', m' (A0 "words") = some (.ref lw) → Fr g L h' m' → News g L h' G → Q .next { s with heap := h', toks := tk', drawn := d' }) :
  wpAny (model (rw_nq0317_02.prog) w) (callerA.deeper (Dy L a ccd)) (DM (Q8 (NY 4)) (Dy L a ccd) (.ref lk)) (fun _ s₂ => wpAny (model (rw_nq0317_02.prog) w) (callerA.deeper (Dy L a ccd)) (execs (Mw (NY 4)) (Dy L a ccd)) Q (fun e s' => wpAny (model (rw_nq0317_02.prog) w) (callerA.deeper (Dy L a ccd)) («leaving» (Dy L a ccd) e) (fun _ s'' => E1 e s'') (fun e' s'' => E2 e' s'') s') s₂) (fun e s' => wpAny (model (rw_nq0317_02.prog) w) (callerA.deeper (Dy L a ccd)) («leaving» (Dy L a ccd) e) (fun _ s'' => E1 e s'') (fun e' s'' => E2 e' s'') s') s := by
 dsimp only [Dy, NY, NZ, IU, fnB, VD, Mw, Q8, at9, pw, Cv];k_with "+41" => skip
 k_with "41" => (fail_if_success k_extra "+42")
 k_with "k" => k_extra "41"
 k_with "ap" => k_extra "41"
 k_with "call ref" => (k_extra "41"; first | ((with_unfolding_all show wpAny _ _ (call (A3 383) _) _ _ _); refine Af ?_) | ((with_unfolding_all show wpAny _ _ (call (A3 388) _) _ _ _); refine Af ?_) | ((with_unfolding_all show wpAny _ _ (call (A3 395) _) _ _ _); refine Af ?_) | ((with_unfolding_all show wpAny _ _ (call (A3 402) _) _ _ _); refine Af ?_) | ((with_unfolding_all show wpAny _ _ (call (A3 407) _) _ _ _); refine Af ?_))
 k_with "ao" => k_extra "41"
 k_with "bj" => k_extra "41"
 k_with "bi" => k_extra "41"
 k_with "by" => k_extra "41"
 have F0 := lw1 F hw;have N0 : News g L s.heap ((lk, A1 kv.toArray ek) :: (L + 1 + 1, oT) :: (L + 1, oE) :: (le, A1 #[.ref e0.a, .ref e1.a, .ref e2.a] ee) :: (lT, A1 #[.ref d0, .ref d1, .ref d2] eT) :: G) := Bo N (A6 hlk (A6 hT (A6 hE (A6 hle (A6 hlT fun q hq => hq)))));clear F N;revert X
 k_fill
 intro X;refine (let A9 : AO := _; let e9 : Env := _; let E9 : Value → A4 → Prop := _; (?_ : wpAny _ A9 (DM _ e9 _) (fun _ s₂ => wpAny _ A9 (execs _ e9) _ E9 s₂) E9 _));k_steps;refine ⟨?_⟩;refine CL (Uj hks) ?_; intro hkc hkl;have hkvl := hI.length;rename Fr _ _ _ _ => F1;rename News _ _ _ _ => N1;refine (let mt9 : Str → Option Value := _; have F9 : Fr _ _ _ mt9 := F1; ?_);clear F1;refine HD (h₀ := g) (L := L) (m := mt9) (by rfl) (by with_unfolding_all rfl) (by decide) (by rfl) (by decide) ?_;k_steps;refine ⟨?_⟩;rename Fr _ _ _ _ => F2;rename News _ _ _ _ => N2;refine CV ((lk, A1 kv.toArray ek) :: (L + 1 + 1, oT) :: (L + 1, oE) :: (le, A1 #[.ref e0.a, .ref e1.a, .ref e2.a] ee) :: (lT, A1 #[.ref d0, .ref d1, .ref d2] eT) :: G) ?_; intro nw hnw;have kT : (L + 1 + 1, oT) ∈ nw := by rw [hnw]; exact mH1
 have kE : (L + 1, oE) ∈ nw := by rw [hnw]; exact mH2
 have kle : (le, A1 #[.ref e0.a, .ref e1.a, .ref e2.a] ee) ∈ nw := by rw [hnw]; exact mH3
 have klT : (lT, A1 #[.ref d0, .ref d1, .ref d2] eT) ∈ nw := by rw [hnw]; exact mH4
 have kG : ∀ p ∈ G, p ∈ nw := fun p hp => by rw [hnw]; exact mT5 hp
 refine CV (Fa (p0.map ptP) (p1.map ptP) (p2.map ptP)) ?_; intro TF hTF;refine KS (σ := PJ) (.list _ _ _ _) (fun I D C => Mr) rfl rfl (Jx rfl (BI N2 (.head _))) F2 (hnw ▸ N2) (fun hm => (N2 _ (.head _)).2.1 (ms1 hm).symm)
  (fun D c => (D, A1 (BZ c.ps).toArray c.ep) :: (Hy c.ps ++ nw)) (fun D i c m₁ => c.ps.map ptP = Bd TF (ks.take i) ∧ c.ps.length ≤ 4 * i ∧ ∀ e ∈ c.ps, e.a ≠ D ∧ ∀ p ∈ nw, p.1 ≠ e.a) (fun D oD => ⟨[], 0⟩) (fun D oD ho => by subst ho; rfl) (fun D oD ho => ⟨rfl, B0 _, AA _⟩) ?Dz ?cdone
 case Dz =>
  intro C2 D9 Ic i v c oC m₁ h t7 own2 E' hDC hCI hDI hoff hi hv1 hP hnw4 hown hof hn F3 N3;refine Dj hP ?_; (try clear hP); intro hP1 hPl hP2;obtain ⟨ps, pe⟩ := c;dsimp only at hP1 hP2 hPl N3 hnw4;refine HA (Gk (i := i) (v := v) hI (by simpa using hv1)) ?_; intro cc tc e92 hcc; subst e92;have hc3 := hkc cc (AK hcc);have hi3 : i < 3 := B5 (List.getElem?_eq_some_iff.mp hcc).1 hkl;refine (let G9 : Prop := _; (?_ : G9));obtain ⟨dc, pc, qc, ec, y1, y2, y3, y4, y5, y6, y7, y8, y9, y10⟩ := U8 he0 he1 he2 v0 v1 v2 hd0 hd1 hd2 g0 g1 g2 O ⟨hx, hy, hz⟩ hc3;refine (?_ : wpAny _ _ _ _ _ _);rw [← hTF] at y4;refine CV (α := Str → Option Value) (fun y => if y = A0 "c" then some (A5 cc tc) else m₁ y) ?_; intro m₃ hm₃;have hkc3 : m₃ (A0 "c") = some (A5 cc tc) := by rw [hm₃]; rfl
  rw [← hm₃] at hn;refine CV (Hy ps ++ nw ++ own2) ?_; intro tlx htlx;have hnx : ∀ q ∈ nw, q ∈ (C2, oC) :: ((D9, A1 (BZ ps).toArray pe) :: (Hy ps ++ nw) ++ own2) := fun q hq => .tail _ (maL _ (.tail _ (maR _ hq)));have N4 : News g L h ((C2, oC) :: (D9, A1 (BZ ps).toArray pe) :: (L + 1 + 1, oT) :: (lT, A1 #[.ref d0, .ref d1, .ref d2] eT) :: tlx) := Bo N3 (A6 (.head _) (A6 mH1 (A6 (hnx _ kT) (A6 (hnx _ klT) fun q hq => by rw [htlx] at hq; exact mT2 hq))));clear N3 N2 F2;have htC : ∀ p ∈ tlx, p.1 ≠ C2 ∧ p.1 ≠ D9 := fun p hp => by
   rw [htlx] at hp;refine AF hp (fun hp => AF hp (fun hp => ?_) fun hp => ?_) fun hp => ?_
   ·refine ⟨fun q => hnw4 p (.tail _ (maL _ hp)) (q ▸ .head _), ?_⟩;refine mmE hp ?_; intro e' he';exact (hP2 e' he').1
   ·exact ⟨(hoff p hp).1, (hoff p hp).2.1⟩
   rcases hof p hp with q | q
   ·exact ⟨q ▸ hCI, q ▸ hDI⟩
   have h9 := hoff (lk, A1 kv.toArray ek) (hnw ▸ .head _);rw [ms1 q];exact ⟨h9.1, h9.2.1⟩
  refine Cn ?_;k_steps;refine KE (by intro _; with_unfolding_all rfl) ?_;k_steps;refine ⟨?_⟩;rename Fr _ _ _ _ => F5;rename News _ _ _ _ => N5;refine JD N5 mH3 (by lia) (by lia) y1 ?_;k_steps;refine ⟨?_⟩;rename Fr _ _ _ _ => F5;rename News _ _ _ _ => N5;refine CV (nw ++ own2) ?_; intro tly htly;have htx : tlx = Hy ps ++ tly := by rw [htlx, BP, htly]
  have hny : ∀ q ∈ nw, q ∈ tly := fun q hq => by rw [htly]; exact maL _ hq
  have N6 : News g L h ((C2, oC) :: (D9, A1 (BZ ps).toArray pe) :: (Hy ps ++ tly)) := Bo N5 (A6 (.head _) (A6 mH1 fun q hq => mT4 (by rw [htx]; exact hq)));have hdcn : (dc, A1 (BZ pc).toArray qc) ∈ tly := hny _ (kG _ y2);have hdcN := N6 _ (mT2 (maR _ hdcn));refine W1 (σ := PJ) (.list _ _ _ _) rfl rfl (fun I => LI) rfl Jc rfl (BI N6 (mT2 (maR _ hdcn))) hdcN.2.1.symm (hoff _ (kG _ y2)).1.symm
   (fun c => (D9, A1 (BZ c.ps).toArray c.ep) :: (Hy c.ps ++ tly)) (fun r c m₁ => c.ps.map ptP = Bd TF (ks.take i) ++ ((pc.map ptP).take r).map (fun p => (4 * vC cc + p.1, 4 * wC cc + p.2)) ∧ c.ps.length ≤ 4 * i + r ∧ (∀ e ∈ c.ps, e.a ≠ D9 ∧ e.a ≠ C2 ∧ ∀ p ∈ tly, p.1 ≠ e.a) ∧ m₁ (A0 "c") = some (.int cc tc)) ⟨ps, pe⟩ F5 N6 hn ?s2 ⟨by rw [List.take_zero, ES, C5]; exact hP1, hPl, ?s3, hkc3⟩ ?turn2 ?done2
  case s2 =>
   refine fun p hp => AQ hp hDC fun hp => (htC p ?_).1;rw [htx];exact hp
  case s3 =>
   intro e he;have h9 := hnw4 (e.a, CP e) (.tail _ (maL _ (mm2 ⟨e, he, rfl⟩)));refine ⟨(hP2 e he).1, fun q => h9 (q ▸ .head _), fun p hp q => ?_⟩;rw [htly] at hp;refine AF hp (fun hp => (hP2 e he).2 p hp q) fun hp => ?_;rcases hof p hp with q2 | q2
   ·exact h9 (.tail _ (q ▸ q2 ▸ .head _))
   exact (hP2 e he).2 (lk, A1 kv.toArray ek) (hnw ▸ .head _) ((ms1 q2).symm.trans q)
  case turn2 =>
   intro I2 r v c oC₂ m₂ h₂ t8 own3 E₂ hI2C hI2 hv2 hPr hnw5 hown3 hof3 hn2 F13 N13;obtain ⟨ps2, pe2⟩ := c;refine Fi hPr ?_; (try clear hPr); intro z1 z2 z3 z4;dsimp only at z1 z2 z3 N13 hnw5;refine Aq (EC hv2) ?_; intro b hb e92; subst e92;have hbl := AK hb;refine Fi (y9 b hbl) ?_; intro b1 b2 b3 b4;have hbt : (b.a, CP b) ∈ tly := hny _ (kG _ (y3 b hbl));have hect : (ec.a, CP ec) ∈ tly := hny _ (kG _ y6);clear N5 F5 N6;refine CV (Hy ps2 ++ tly ++ own3) ?_; intro tlz htlz;have hzt : ∀ q ∈ tly, q ∈ tlz := fun q hq => by rw [htlz]; exact maL _ (maR _ hq)
   have N14 : News g L h₂ ((C2, oC₂) :: (D9, A1 (BZ ps2).toArray pe2) :: (b.a, CP b) :: (ec.a, CP ec) :: (L + 1, oE) :: (le, A1 #[.ref e0.a, .ref e1.a, .ref e2.a] ee) :: tlz) := by
    have hs : ∀ q ∈ tlz, q ∈ (C2, oC₂) :: ((D9, A1 (BZ ps2).toArray pe2) :: (Hy ps2 ++ tly) ++ own3) := fun q hq => by rw [htlz] at hq; exact mT2 hq
    exact Bo N13 (A6 (.head _) (A6 mH1 (A6 (hs _ (hzt _ hbt)) (A6 (hs _ (hzt _ hect)) (A6 (hs _ (hzt _ (hny _ kE))) (A6 (hs _ (hzt _ (hny _ kle))) hs))))))
   clear N13;have hzC : ∀ q ∈ tlz, q.1 ≠ C2 ∧ q.1 ≠ D9 := by
    intro q hq;rw [htlz] at hq;refine AF hq (fun hq => AF hq (fun hq => ?_) fun hq => ?_) fun hq => ?_
    ·refine mmE hq ?_; intro e' he';exact ⟨(z3 e' he').2.1, (z3 e' he').1⟩
    ·exact htC q (by rw [htx]; exact maR _ hq)
    rcases hof3 q hq with q2 | q2
    ·exact ⟨q2 ▸ hI2C, q2 ▸ (hI2 (D9, _) (.head _)).symm⟩
    rw [q2]; exact ⟨(hoff _ (kG _ y2)).1, (hoff _ (kG _ y2)).2.1⟩
   have hoC : ∀ p ∈ (D9, A1 (BZ ps2).toArray pe2) :: (b.a, CP b) :: (ec.a, CP ec) :: (L + 1, oE) :: (le, A1 #[.ref e0.a, .ref e1.a, .ref e2.a] ee) :: tlz, p.1 ≠ C2 :=
    fc1 ⟨hDC, fc1 ⟨(hzC _ (hzt _ hbt)).1, fc1 ⟨(hzC _ (hzt _ hect)).1, fc1 ⟨(hzC _ (hzt _ (hny _ kE))).1, fc1 ⟨(hzC _ (hzt _ (hny _ kle))).1, fun p hp => (hzC p hp).1⟩⟩⟩⟩⟩
   k_steps;rename Fr _ _ _ _ => F15;rename News _ _ _ _ => N15;refine G7 F15 N15 hn2 hoC fun h8 oC8 F16 N16 hn8 => ?_;refine Dd (Ba (G7 F16 N16 hn8 hoC fun h9 oC9 F17 N17 hn9 => ?_));refine MM ?_;clear F15 N15 F16 N16 hn8;refine CV (α := Str → Option Value) (fun y => if y = A0 "j" then some (A5 b.j b.t2) else (fun y => if y = A0 "i" then some (A5 b.i b.t1) else m₂ y) y) ?_; intro m₄ hm₄;have w1 : m₄ (A0 "i") = some (.int b.i b.t1) := by rw [hm₄]; rfl
   have w2 : m₄ (A0 "j") = some (.int b.j b.t2) := by rw [hm₄]; rfl
   have w3 : m₄ (A0 "c") = some (.int cc tc) := by rw [hm₄]; exact z4
   rw [← hm₄] at hn9;refine Cn ?_;k_steps;refine GR ?_;k_with "i" => k_extra "41"
   k_steps;refine ⟨?_⟩;rename Fr _ _ _ _ => F18;rename News _ _ _ _ => N18;refine JD N18 (.tail _ mH4) (by lia) (by lia) y5 ?_;k_steps;refine ⟨?_⟩;rename Fr _ _ _ _ => F18;rename News _ _ _ _ => N18;refine JD N18 (.tail _ mH4) (by lia) (by lia) y5 ?_;k_steps;refine ⟨?_⟩;rename Fr _ _ _ _ => F19;rename News _ _ _ _ => N19;rename_i D5 _ l5;have hpcl : r < 4 := by
    have := (List.getElem?_eq_some_iff.mp hb).1;lia
   refine CW F19 N19 mH2 (Bw (by unfold BZ; rw [Ae, AB]; lia)) fun h20 F20 N20 => ?_;clear F19 N19;show HF _ _ _ _ _ _ _ _ _ _ _;refine (let G9 : Prop := _; (?_ : G9));refine Dn (⟨⟨D5, 4 * ec.i + b.i, 4 * ec.j + b.j, _, _⟩, rfl, rfl, Bo N20 (A6 (A8 (.head _) (AN l5.2.1)) (AA _))⟩ : ∃ e5 : PT, e5.a = D5 ∧ ptP e5 = (4 * ec.i + b.i, 4 * ec.j + b.j) ∧ News g L h20 [(e5.a, CP e5)]) ?_; intro e5 a5 b5 N5;refine (?_ : HF _ _ _ _ _ _ _ _ _ _ _);subst a5;have N21 := News.app N5 N20;have hmy : ∀ oX, ∀ q ∈ tlz, q ∈ [(e5.a, CP e5)] ++ CD D9 (A1 ((BZ ps2).toArray.push (.ref e5.a)) (pe2 + 1)) ((e5.a, oX) :: (C2, oC9) :: (D9, A1 (BZ ps2).toArray pe2) :: (b.a, CP b) :: (ec.a, CP ec) :: (L + 1, oE) :: (le, A1 #[.ref e0.a, .ref e1.a, .ref e2.a] ee) :: tlz) :=
    fun _ q hq => .tail _ (A8 (mT7 hq) (hzC q hq).2)
   have q1 : (BZ (ps2 ++ [e5])).toArray = (BZ ps2).toArray.push (.ref e5.a) := by simp [BZ]
   have q2 : Hy (ps2 ++ [e5]) = Hy ps2 ++ [(e5.a, CP e5)] := by simp [Hy]
   have h5t : ∀ p ∈ tlz, p.1 ≠ e5.a := fun p hp => A7 (Cs l5.2.2.2.2.2.2 p hp);refine HY (⟨ps2 ++ [e5], pe2 + 1⟩ : PJ) F20 N21 (oC := oC9) (m' := m₄) (.tail _ (A8 mH1 hDC.symm)) hn9 (fun q hq => ?_) (fun q hq => ?_) (fun q hq hm => ?_) ⟨?_, ?_, ?_, w3⟩
   ·dsimp only at hq;rw [q1, q2] at hq;refine AH hq (.tail _ (AV mH2)) fun hq => ?_;refine AF hq (fun hq => AF hq (fun hq => ?_) fun hq => ?_) fun hq => ?_
    ·exact hmy _ q (htlz ▸ maL _ (maL _ hq))
    ·rw [ms1 hq]; exact .head _
    exact hmy _ q (htlz ▸ maL _ (maR _ hq))
   ·exact hmy _ q (htlz ▸ maR _ hq)
   ·dsimp only at hq;rw [q2] at hq;rcases mc1 hq with rfl | hq
    ·exact hnw5 _ (.head _) hm
    refine AF hq (fun hq => AF hq (fun hq => ?_) fun hq => ?_) fun hq => ?_
    ·exact hnw5 q (.tail _ (maL _ hq)) hm
    ·rw [ms1 hq] at hm;rcases mc1 hm with u1 | hm
     ·exact AN l5.1 u1
     refine Bp hown3 ?_; (try clear hown3); intro oo ho;exact h5t _ (htlz ▸ maR _ ho) (ms1 hm).symm
    exact hnw5 q (.tail _ (maR _ hq)) hm
   ·show (ps2 ++ [e5]).map ptP = _;rw [AI, z1, CB, Fs hb, AI, BP];show _ ++ (_ ++ [ptP e5]) = _ ++ (_ ++ [(4 * vC cc + b.i, 4 * wC cc + b.j)]);rw [b5, y7, y8]
   ·show (ps2 ++ [e5]).length ≤ _;rw [Ai, E0];lia
   intro e' he';rcases Cf.mp he' with h | h
   ·exact z3 e' h
   rw [ms1 h];exact ⟨AN l5.2.1, AN l5.1, fun p hp => h5t p (hzt p hp)⟩
  intro c oC₂ m₂ h₂ tk₂ hPr F13 N13 hn2 hnw5;obtain ⟨ps2, pe2⟩ := c;refine Fi hPr ?_; (try clear hPr); intro z1 z2 z3 _;dsimp only at z1 z2 z3 N13 hnw5;show HF _ _ _ _ _ _ _ _ _ _ _;have hpz : (BZ pc).toArray.size = pc.length := by unfold BZ; rw [Ae, AB]
  refine HY (⟨ps2, pe2⟩ : PJ) F13 N13 (oC := oC₂) (m' := m₂) (.head _) hn2 (fun q hq => ?_) (fun q hq => ?_) (fun q hq hm => ?_) ⟨?_, ?_, fun e he => ⟨(z3 e he).1, fun p hp => (z3 e he).2.2 p (hny p hp)⟩⟩
  ·refine AH hq mH1 fun hq => ?_;exact AF hq (fun hq => mT2 (maL _ hq)) fun hq => mT2 (maR _ (hny q hq))
  ·exact mT2 (maR _ (htly ▸ maR _ hq))
  ·rcases mc1 hq with rfl | hq
   ·exact hnw4 (D9, _) (.head _) hm
   refine AF hq (fun hq => ?_) fun hq => hnw4 q (.tail _ (maR _ hq)) hm;refine Aq (mm1 hq) ?_; intro e' he' e92; subst e92;rcases mc1 hm with u1 | hm
   ·exact (z3 e' he').2.1 u1
   refine Bp hown ?_; (try clear hown); intro oo ho;exact (z3 e' he').2.2 _ (htly ▸ maR _ ho) (ms1 hm).symm
  ·show ps2.map ptP = _;rw [hpz, BA (l := pc.map ptP) (by rw [AB]; exact Ap _), y4] at z1;rw [z1, CB, hcc];unfold Bd;rw [Cy, show List.flatMap (mOf TF) (some cc).toList = mOf TF cc from C5 _];rfl
  show ps2.length ≤ _;rw [hpz] at z2;lia
 intro C2 D9 c oC m' h2 tk2 hDC hoff hP F3 N3 hn2 hnw4;show Ec _ _ _ _ _ _ _ _ _;refine Fc (L := L) rfl rfl rfl F3 N3 hn2 hnw4 fun h3 tk3 F4 N4 => ?_;obtain ⟨ps, pe⟩ := c;refine Dj hP ?_; (try clear hP); intro hP1 hPl hP2;dsimp only at hP1 hP2 hPl N4;clear F3 N3 N2 F2;rw [BA (by rw [Ae, hkvl]; exact Ap _)] at hP1;have hpsl : ps.length ≤ 12 := by
  rw [Ae, hkvl] at hPl;lia
 refine CV (Hy ps ++ G) ?_; intro G2 hG2;have hGG : ∀ p ∈ G, p ∈ G2 := fun p hp => by rw [hG2]; exact maR _ hp
 have N5 : News g L h3 ((D9, A1 (BZ ps).toArray pe) :: G2) := Bo N4 (A6 (.head _) fun q hq => by
  rw [hG2] at hq;exact AF hq (fun hq => .tail _ (maL _ hq)) fun hq => .tail _ (maR _ (kG q hq)))
 clear N4;have hbm : ∀ e ∈ ps, e.i ∈ Br [x.length, y.length, z.length] ∧ e.j ∈ Br [x.length, y.length, z.length] := by
  intro e he;have hm : ptP e ∈ Bd TF ks := by rw [← hP1]; exact mm2 ⟨e, he, rfl⟩
  rw [hTF] at hm;exact QY O hkc hm
 refine (let mt8 : Str → Option Value := _; have F8 : Fr _ _ _ mt8 := F4; ?_);clear F4;k_steps;refine ⟨?_⟩;rename Fr _ _ _ _ => F9;rename News _ _ _ _ => N9;refine CK (Bi 340 400 _ (A0 "law") _ L a ccd _ []) rfl (Ad rfl) rfl rfl (Ad rfl) ?_;refine Pa _ _ _ _ _ _ _ _ _ _ _ _ _ _ _ _ _ _ ((D9, A1 (BZ ps).toArray pe) :: G2) _ lw D9 ew pe x y z t1 t2 t3 ps _ _ B F9 X N9 T rfl (.tail _ (hGG _ hW)) (.head _) (fun e he => .tail _ (by rw [hG2]; exact maL _ (mm2 ⟨e, he, rfl⟩))) hx hy hz hbm fun cD oD l h10 tk10 hdD hlD loD hfD F10 N10 => ?_;clear F9 N9;k_steps;refine ⟨?_⟩;rename Fr _ _ _ _ => F11;rename News _ _ _ _ => N11;have h4w : ∀ w, [x.length, y.length, z.length].getD w 0 ≤ 4 := Us ⟨hx, hy, hz⟩;refine CV ((cD, oD) :: (D9, A1 (BZ ps).toArray pe) :: G2) ?_; intro G3 hG3;rw [← hG3] at N11;have h3c : (cD, oD) ∈ G3 := by rw [hG3]; exact .head _
 have h3G : ∀ p ∈ G, p ∈ G3 := fun p hp => by rw [hG3]; exact mT2 (hGG p hp)
 refine CK (Bi 340 400 _ (A0 "law") _ L a ccd _ []) rfl (Ad rfl) rfl rfl (Ad rfl) ?_;refine QC _ _ _ _ _ _ _ _ _ _ _ _ _ _ _ _ _ _ G3 _ cD oD l _ _ _ _ B F11 X N11 T rfl h3c hdD loD h4w hlD fun xa d n2 u1 u2 u3 u4 u5 u6 ns oo h12 tk12 lon hpr hdic hnn hnd hoffn hnl hscl F12 N12 => ?_;clear F11 N11;rw [hP1, hTF] at hpr hlD;refine CV (C3 ns ++ G3) ?_; intro tl4 htl4;rw [← htl4] at N12;k_steps;refine ⟨?_⟩;rename Fr _ _ _ _ => F13;rename News _ _ _ _ => N13;rw [htl4] at N13;refine CK (Bi 340 400 _ (A0 "law") _ L a ccd _ []) rfl (Ad rfl) rfl rfl (Ad rfl) ?_;refine QG _ _ _ _ _ _ _ _ _ _ _ _ _ _ _ _ _ G3 _ xa d n2 oo ns u1 u2 u3 u4 u5 u6 _ _ B F13 X N13 T rfl X T hdic lon hnn (by lia) (Ok hpr) hnd tl4 htl4 hoffn fun b h14 tk14 Dq ys eq hys hb1 hb0 F14 N14 hqf => ?_;clear F13 N13;have hsm := Oi ⟨hx, hy, hz⟩ O hks hpr hnn;have hys2 := Lq hys;subst hys2;have hDGK : Dq ∉ GK xa d n2 ns := by
  intro hm;rcases mc1 hm with e | hm
  ·exact hqf _ (.head _) e.symm
  rcases mc1 hm with e | hm
  ·exact hqf _ mH1 e.symm
  rcases mc1 hm with e | hm
  ·exact hqf _ mH2 e.symm
  refine Aq (mm1 hm) ?_; intro q hq e;exact hqf q (mT3 (by rw [htl4]; exact maL _ hq)) e
 have hoD : ∀ p ∈ G3, p.1 ∉ Dq :: GK xa d n2 ns := fun p hp hm => by
  rcases mc1 hm with e | hm
  ·exact hqf p (mT3 (by rw [htl4]; exact maR _ hp)) e
  exact hoffn p hp hm
 have hsh : (∀ e ∈ ns, Acc (FU ns) e.nm) → ∀ (s' : A4) (mm : Str → Option Value) (Q' E' : Value → A4 → Prop), Fr g L s'.heap mm → News g L s'.heap ((xa, AT 362 d) :: (d, tsR w u1 u2 u3 u4 u5 u6 n2 (.ref Dq) 0 0) :: (n2, oo) :: (C3 ns ++ (Dq, A1 (An (Ei ns)) eq) :: G3)) →
   (∀ h' tk' d', Fr g L h' mm → News g L h' G3 → Q' (.bool true) { s' with heap := h', toks := tk', drawn := d' }) → wpAny (model (rw_nq0317_02.prog) w) (callerA.deeper (Dy L a ccd)) (call (.ref 407) [.ref cD, .ref xa]) Q' E' s' := by
  intro hacc s' mm Q' E' F' N' hq;refine Vr (UV h4w hpr hnn hnl hacc hlD) ?_; intro gs lev r1 r2 r3 r4 r5 r6 r7 r8 r9;refine CK (Bi 340 400 _ (A0 "law") (IU NZ) L a ccd [(A0 "told", L + 1 + 1), (A0 "ends", L + 1)] []) rfl (Ad rfl) rfl rfl (Ad rfl) ?_;exact ND _ _ _ _ _ _ _ _ _ _ _ _ _ _ _ _ _ _ G3 _ cD xa d n2 Dq oD oo l ns (Ei ns) gs lev eq u1 u2 u3 u4 u5 u6 0 0 _ _ B F' X (Bo N' (A6 (.head _) (A6 mH1 (A6 mH2 (A6 (mT3 (maR _ (.head _))) fun q hq => mT3 (AF hq (fun hq => maL _ hq) fun hq => maR _ (.tail _ hq))))))) T (by with_unfolding_all rfl)
   ⟨hdic, lon, hnn, hnl, hnd, hoD, hDGK, hscl, NM hpr⟩ h3c hdD loD r1 r2 r3 r4 r5 r6 r7 r8 _ _ h4w hlD r9 hq
 by_cases h3 : ks.length < 3
 ·have hacc := hsm.mpr (.inl h3);have hbt : b = true := by
   cases b with
   | true => rfl
   | false => obtain ⟨e, he, hn⟩ := hb0 rfl; exact absurd (hacc e he) hn
  subst hbt;refine CV (C3 ns ++ (Dq, A1 (An (Ei ns)) eq) :: G3) ?_; intro tl5 htl5;have N15 : News g L h14 ((lk, A1 kv.toArray ek) :: (L + 1 + 1, oT) :: (xa, AT 362 d) :: (d, tsR w u1 u2 u3 u4 u5 u6 n2 (.ref Dq) 0 0) :: (n2, oo) :: tl5) := Bo N14 (A6 (mT3 (maR _ (.tail _ (h3G _ hlk)))) (A6 (mT3 (maR _ (.tail _ (h3G _ hT)))) (A6 (.head _) (A6 mH1 (A6 mH2 fun q hq => mT3 (by rw [htl5] at hq; exact hq))))));clear N14;k_steps
  all_goals try (rename (true != decide _) = true => hne; rw [decide_eq_true (by lia)] at hne; cases hne)
  refine ⟨?_⟩;rename Fr _ _ _ _ => F16;rename News _ _ _ _ => N16;refine hsh hacc _ _ _ _ F16 (Bo N16 fun q hq => mT2 (by rw [htl5]; exact hq)) fun h17 tk17 d17 F17 N17 => ?_;clear F16 N16;k_steps;exact hret _ _ _ _ rfl F17 (Bo N17 h3G)
 have hbl : ∀ {n m : Nat} {qs : List PT}, n ≤ 4 → m ≤ 4 → (∀ p ∈ qs.map ptP, 0 ≤ p.1 ∧ p.1 < n ∧ 0 ≤ p.2 ∧ p.2 < m) → ∀ e ∈ qs, 0 ≤ e.i ∧ e.i ≤ 4 ∧ 0 ≤ e.j ∧ e.j ≤ 4 := by
  intro n m qs hn hm hb e he;have h := hb (ptP e) (mm2 ⟨e, he, rfl⟩);exact ⟨h.1, AP (BC h.2.1) (Int.ofNat_le.mpr hn), h.2.2.1, AP (BC h.2.2.2) (Int.ofNat_le.mpr hm)⟩
 have c0 := hbl hx hy O.b0;have c1 := hbl hy hz O.b1;have c2 := hbl hx hz O.b2;refine CV (C3 ns ++ (Dq, A1 (An (Ei ns)) eq) :: G3) ?_; intro tl5 htl5;have h5G : ∀ p ∈ G, p ∈ tl5 := fun p hp => by rw [htl5]; exact maR _ (.tail _ (h3G p hp))
 have N15 : News g L h14 ((lk, A1 kv.toArray ek) :: (L + 1 + 1, oT) :: (xa, AT 362 d) :: (d, tsR w u1 u2 u3 u4 u5 u6 n2 (.ref Dq) 0 0) :: (n2, oo) :: tl5) := Bo N14 (A6 (mT3 (maR _ (.tail _ (h3G _ hlk)))) (A6 (mT3 (maR _ (.tail _ (h3G _ hT)))) (A6 (.head _) (A6 mH1 (A6 mH2 fun q hq => mT3 (by rw [htl5] at hq; exact hq))))));clear N14;have hbv : b = !H4 (p0.map ptP) (p1.map ptP) (p2.map ptP) := by
  cases hl : H4 (p0.map ptP) (p1.map ptP) (p2.map ptP) with
  | false =>
   cases b with
   | true => rfl
   | false => obtain ⟨e, he, hn⟩ := hb0 rfl; exact absurd (hsm.mpr (.inr hl) e he) hn
  | true =>
   cases b with
   | false => rfl
   | true =>
    rcases hsm.mp (hb1 rfl) with h | h
    ·exact absurd h h3
    rw [hl] at h; cases h
 k_steps;refine ⟨?_⟩;rename Fr _ _ _ _ => F16;rename News _ _ _ _ => N16;refine CK (Bi 340 400 _ (A0 "law") _ L a ccd _ []) rfl (Ad rfl) rfl rfl (Ad rfl) ?_;refine Uh _ _ _ _ _ _ _ _ _ _ _ _ _ _ _ _ _ _ _ _ lT d0 d1 d2 eT q0 q1 q2 p0 p1 p2 _ _ B F16 X N16 T rfl (mT5 (h5G _ hlT)) (mT5 (h5G _ hd0)) (mT5 (h5G _ hd1)) (mT5 (h5G _ hd2)) (fun e he => mT5 (h5G _ (g0 e he))) (fun e he => mT5 (h5G _ (g1 e he))) (fun e he => mT5 (h5G _ (g2 e he))) c0 c1 c2 fun h17 tk17 F17 N17 => ?_;clear F16 N16
 cases hl : H4 (p0.map ptP) (p1.map ptP) (p2.map ptP) with
 | true =>
  rw [hl] at hbv;have hbv' : b = false := hbv;subst hbv';k_steps;exact hret _ _ _ _ rfl (by assumption) (Bo N17 fun q hq => mT5 (h5G q hq))
 | false =>
  rw [hl] at hbv;have hbv' : b = true := hbv;subst hbv';have hacc := hsm.mpr (.inr hl);k_steps;refine ⟨?_⟩;rename Fr _ _ _ _ => F18;rename News _ _ _ _ => N18;refine hsh hacc _ _ _ _ F18 (Bo N18 fun q hq => mT2 (by rw [htl5]; exact hq)) fun h19 tk19 d19 F19 N19 => ?_;clear F18 N18;k_steps;exact hret _ _ _ _ rfl F19 (Bo N19 h3G)
inductive LEj (h₀:Heap)(L I:Addr)(oI:Obj)(s:A4)(J:JP)(i:Nat)(s₃:A4):Prop
 | mk (h:Heap) (tk:Nat) (d:Drawn) (m:Str→Option Value) (nx:List (Addr×Obj)) (e:s₃ = { s with heap:=h,toks:=tk,drawn:=d }) (F:Fr h₀ L h m) (N:News h₀ L h ((I,oI)::nx)) (hn:∀p∈nx,p.1≠I) (hJ:J i m nx):LEj h₀ L I oI s J i s₃
def W5 (h₀:Heap)(L I:Addr)(oI:Obj)(s:A4)(J:JP)(i:Nat)(Q:Flow→A4→Prop)(f:Flow)(s₃:A4):Prop:=
 match f with
 | .ret v=>Q (.ret v) s₃
 | .brk=>Q .next s₃
 | _=>LEj h₀ L I oI s J i s₃
section
variable {prog:AY}{w:World}{A:AO}{E:Value→A4→Prop}{s:A4}{env:Env}{Q:Flow→A4→Prop}{body:List Stmt}{h₀:Heap}{m:Str→Option Value}{news:List (Addr×Obj)}
theorem Rr {t:AW}{l:Addr}{items:Array Value}{ep:Nat}(hh:A.handled=none)(hE:DR (model prog w) A env E)
  (hgo:∀(I:Addr) i v (s':A4) (Q':Unit→A4→Prop) (E':Value→A4→Prop),items[i]? = some v→s'.heap.IsListIter I l (i+1)→Q' () s'→wpAny (model prog w) A (EF t (.ref I) v) Q' E' s') (J:JP) (hl:∀i m nx,J i m nx→(l,A1 items ep)∈nx)
  (F:Fr h₀ env.locals s.heap m) (N:News h₀ env.locals s.heap news) (h0:J 0 m news)
  (turn:∀I i v m₁ nx oI h tk d,items[i]? = some v→J i m₁ nx→oI.cls≠.type "dict" →(∀p∈nx,p.1≠I)→Fr h₀ env.locals h m₁→News h₀ env.locals h ((I,oI)::nx)→
   wpAny (model prog w) A (DM t env v) (fun _ s₂=>wpAny (model prog w) A (execs body env) (W5 h₀ env.locals I oI s J (i+1) Q) E s₂) E { s with heap:=h,toks:=tk,drawn:=d })
  (done:∀m₁ nx h tk d,J items.size m₁ nx→Fr h₀ env.locals h m₁→News h₀ env.locals h nx→Q .next { s with heap:=h,toks:=tk,drawn:=d }) :
  wpAny (model prog w) A (CR (.ref l)) (fun it s₂=>KU prog w A env t body Q E it s₂) E s:=by
 have hm:=hl _ _ _ h0;have hli:s.heap.IsList l items:=N.isList hm;have hlt:l<s.heap.objs.size:=AZ (N _ hm).1;refine DB hli ?_;have Wk:=LU (prog:=prog) (w:=w) (A:=A) hh s.heap.objs.size l (A7 hlt) items;refine RW (dp:=fun _=>True) Wk hE (fun i h st=>?_) (fun i v s' Q' E' hv st=>hgo _ i v s' Q' E' hv st.1) J (fun b hb hne=>⟨A1 items ep,by rw [(mc1 hb).elim (fun e=>absurd e hne) ms1];exact hl⟩) ⟨⟨_,Aa _ rfl,rfl,rfl⟩,hli.at fun o e=>AE _ e⟩ trivial F N h0 (fun i v m₁ nx oI h tk d _ hv hS _ hJ hn F N=>?_) fun m₁ nx h tk d _=>done m₁ nx h tk d
 ·obtain ⟨⟨o,ho,_⟩,_⟩:=st;exact ⟨o,ho⟩
 have hoc:oI.cls≠.type "dict" :=by
  obtain ⟨⟨o,ho,hc,_⟩,_⟩:=hS;have q:_=some oI:=(N _ (.head _)).1;rw [ho] at q;cases q;rw [hc];decide
 refine Ac (turn _ i v m₁ nx oI h tk d hv hJ hoc hn F N) (fun _ s₂ h₂=>Ac h₂ (fun f s₃ h₃=>?_) fun _ _ h=>h) fun _ _ h=>h;have key:LEj h₀ env.locals s.heap.objs.size oI s J (i+1) s₃→WPg h₀ env.locals s.heap.objs.size oI s (fun _=>True) J (i+1) s₃:=by
  rintro ⟨h,tk,d,m,nx,e,F,N,hn,hJ⟩;exact ⟨h,tk,d,m,nx,e,trivial,F,N,hn,hJ⟩
 cases f with
 | ret v=>exact h₃
 | brk=>exact h₃
 | next=>exact key h₃
 | cont=>exact key h₃
end
section
local macro_rules | `(tactic| k_in) => `(tactic| assumption)
theorem Qv {elts:List AW}{p:Pos}{env:Env}{x:Value}:Ch (.List elts p) env x=pure x:=by with_unfolding_all rfl
noncomputable abbrev TD:=Addr×List PT×Nat
noncomputable def M3 (d:TD):List (Addr×Obj):=(d.1,A1 (BZ d.2.1).toArray d.2.2)::Hy d.2.1
noncomputable def Ku (l:List TD):List Value:=l.map fun d=>A3 d.1
inductive J1 (lw lT:Addr)(x y z:Str)(es:List PT)(R:List (Addr×Obj))(i:Nat)(m:Str→Option Value)(nx:List (Addr×Obj)):Prop
 | mk (hw:m (A0 "words")=some (.ref lw)) (l:List TD) (nT:Nat) (hl:l.length=i) (hx:nx=(lT,A1 (Ku l).toArray nT)::(l.flatMap M3++R)) (ho:∀p∈l.flatMap M3++R,p.1≠lT∧VB p.2)
  (hP:∀(k:Nat) (d:TD),l[k]? = some d→∃e tr,es[k]? = some e∧JR (Cc x y z e.i) (Cc x y z e.j) 0 (Cc x y z e.i).length 0 (Cc x y z e.j).length tr∧d.2.1.map ptP=DW tr):J1 lw lT x y z es R i m nx
theorem Vb {α:Type}{l:List α}(h:l.length=3):∃a b c,l=[a,b,c]:=by
 cases l with
 | nil=>cases h
 | cons a l=>
  cases l with
  | nil=>cases h
  | cons b l=>
   cases l with
   | nil=>cases h
   | cons c l=>
    cases l with
    | nil=>exact ⟨a,b,c,rfl⟩
    | cons d l=>cases h
theorem Xg {a b c d:Value}{P:Value→Prop}(ha:P a)(hb:P b)(hc:P c)(hd:P d):∀(i:Nat)(v:Value),(#[a,b,c,d]:Array Value)[i]? = some v→P v
 | 0,_,h=>by cases h;exact ha
 | 1,_,h=>by cases h;exact hb
 | 2,_,h=>by cases h;exact hc
 | 3,_,h=>by cases h;exact hd
 | _+4,_,h=>by cases h
open Mine in
set_option tactic.hygienic true in
theorem hdWalk (said:rw_nq0317_02.row.wellSaid=true):rw_nq0317_02.row.Holds:=by
 k_with "+42" =>skip
 k_with "42" =>(fail_if_success k_extra "+43")
 k_with "q" =>k_extra "42"
 k_with "call ref" =>(k_extra "42";first | ((with_unfolding_all show wpAny _ _ (call (A3 371) _) _ _ _);refine Af ?_) | ((with_unfolding_all show wpAny _ _ (call (A3 376) _) _ _ _);refine Af ?_) | ((with_unfolding_all show wpAny _ _ (call (A3 383) _) _ _ _);refine Af ?_) | ((with_unfolding_all show wpAny _ _ (call (A3 388) _) _ _ _);refine Af ?_) | ((with_unfolding_all show wpAny _ _ (call (A3 395) _) _ _ _);refine Af ?_) | ((with_unfolding_all show wpAny _ _ (call (A3 402) _) _ _ _);refine Af ?_) | ((with_unfolding_all show wpAny _ _ (call (A3 407) _) _ _ _);refine Af ?_) | ((with_unfolding_all show wpAny _ _ (call (A3 203) _) _ _ _);refine Af ?_) | ((with_unfolding_all show wpAny _ _ (call (A3 242) _) _ _ _);refine Af ?_))
 k_with "bd" =>k_extra "42"
 k_with "be" =>k_extra "42"
 k_with "bu" =>k_extra "42"
 k_with "t" =>k_extra "42"
 k_with "exec For Name List cons nil" =>(k_extra "42";refine Af ?_)
 k_with "ao" =>k_extra "42"
 k_with "bf" =>k_extra "42"
 k_with "bj" =>k_extra "42"
 k_with "bi" =>k_extra "42"
 k_with "bx" =>k_extra "42"
 k_with "an" =>k_extra "42"
 refine holds_open (d:=?d) (kwd:=?kwd) (q:=Mine.q) (loose:=loose) (Xt:=Xt) (XP:=XL Mine.q []) (Yf:=Hook.obs (kHook Mine.K asK Jt)) (Ya:=Hook.val (kHook Mine.K asK Jt)) (YP:=Hook.says (kHook Mine.K asK Jt)) (N:=6900) Mine.left (Hook.of (kHook Mine.K asK Jt)) (Hook.keeps (kHook Mine.K asK Jt)) (fun s e=>xl_of s (Bool.and_eq_true_iff.mp e).1) XL.keeps ?h1 ?h2 ?h3 (fun s e=>recFacts_of (Bool.and_eq_true_iff.mp e).2) ?h4 ?h5 ?h6 ?h7 ?hw ?hc
 case h1=>rfl
 case h2=>rfl
 case h3=>rfl
 case h4=>rfl
 case h5=>exact said
 case h6=>decide +kernel
 case h7=>exact ⟨rfl,rfl,rfl,rfl,rfl,by decide +kernel⟩
 case hw=>w_witness2
 clear said
 k_go0
 all_goals try k_fold
 rename A4=>s1;rename World=>Wd;k_steps;refine ⟨?_⟩;rename Fr _ _ _ _=>F1;rename News _ _ _ _=>N1;rename Top _ _ _ _ _ _=>T1;rename Below _ _ _ _=>B1;rename Frag.In (Mine.K _) _=>X1;rename CJ _ _=>I1;rename Heap.IsList _ _ _=>L1;have B2:Below callerA s1.heap [] s1.heap:=B1;clear B1;have B1:=B2;clear B2;refine (let mt0:Str→Option Value:=_;have F9:Fr _ _ _ mt0:=F1;?_);clear F1;have F1:=F9;clear F9;rename_i oT oE dT dE _;refine CK (Bi 340 400 _ (A0 "law") _ _ _ _ _ []) rfl (Ad rfl) rfl rfl (Ad rfl) ?_;refine SB _ _ _ _ _ _ _ _ _ _ _ _ _ _ _ _ _ ?mm ?rr _ _ ?vv ?xx _ _ B1 ?hF X1 ?hN T1 ?hk ?hL ?hI ?hl ?hr
 case hF=>exact F1
 case hN=>exact N1
 case hk=>rfl
 case hL=>exact L1
 case hI=>exact I1
 case hl=>exact Int.ofNat_le.mp (Int.not_lt.mp (by assumption))
 clear F1 N1;intro lw x y z t1 t2 t3 ew h' tk' hx hy hz hwn F1 N1;k_steps;rename Fr _ _ _ _=>F2;rename News _ _ _ _=>N2;rename_i ae0 _ m0 ae1 _ m1 ae2 _ m2 le _ m3;refine Dg (c:=s1.heap.objs.size+1) F2 N2 mH6 dE rfl fun h3 oE3 F3 N3 dE3=>?_;clear F2 N2;refine (let G9:Prop:=_;(?_:G9));have hlw1:lw≠s1.heap.objs.size+1:=fun e=>hwn _ (.tail _ (.head _)) e.symm;have hlw2:lw≠s1.heap.objs.size+1+1:=fun e=>hwn _ (.head _) e.symm;have hne:∀{z:Addr},s1.heap.objs.size+1+1<z→z≠s1.heap.objs.size+1+1∧z≠s1.heap.objs.size+1:=fun h=>⟨AN h,AN (Nat.lt_of_succ_lt h)⟩;obtain ⟨e0,a0,v0,o0⟩:∃e:PT,e.a=ae0∧ptP e=(0,1)∧CP e = { cls:=AL "tuple",data:=FO #[A5 0 tk,A5 1 (tk+1)] 0 }:=⟨⟨ae0,0,1,_,_⟩,rfl,rfl,rfl⟩;obtain ⟨e1,a1,v1,o1⟩:∃e:PT,e.a=ae1∧ptP e=(1,2)∧CP e = { cls:=AL "tuple",data:=FO #[A5 1 (tk+1+1),A5 2 (tk+1+1+1)] 0 }:=⟨⟨ae1,1,2,_,_⟩,rfl,rfl,rfl⟩;obtain ⟨e2,a2,v2,o2⟩:∃e:PT,e.a=ae2∧ptP e=(0,2)∧CP e = { cls:=AL "tuple",data:=FO #[A5 0 (tk+1+1+1+1),A5 2 (tk+1+1+1+1+1)] 0 }:=⟨⟨ae2,0,2,_,_⟩,rfl,rfl,rfl⟩;rw [←o0,←o1,←o2] at N3;subst a0 a1 a2;have N4:News T1.heap s1.heap.objs.size h3 ((le,A1 #[.ref e0.a,.ref e1.a,.ref e2.a] 0)::(e2.a,CP e2)::(e1.a,CP e1)::(e0.a,CP e0)::(lw,A1 #[.str x t1,.str y t2,.str z t3] ew)::(s1.heap.objs.size+1+1,oT)::(s1.heap.objs.size+1,oE3)::[]):=
  Bo N3 (A6 (A8 (.head _) (hne m3.2.2.2.2.1).2) (A6 (A8 mH1 (hne m2.2.2.2.1).2) (A6 (A8 mH2 (hne m1.2.2.1).2) (A6 (A8 mH3 (hne m0.2.1).2) (A6 (A8 mH4 hlw1) (A6 (A8 mH5 (EQ _)) (A6 (AV mH6) (AA _))))))))
 have hR1:∀p∈[(le,A1 #[.ref e0.a,.ref e1.a,.ref e2.a] 0),(e2.a,CP e2),(e1.a,CP e1),(e0.a,CP e0),(lw,A1 #[.str x t1,.str y t2,.str z t3] ew)],p.1≠s1.heap.objs.size+1+1:=
  fc1 ⟨(hne m3.2.2.2.2.1).1,fc1 ⟨(hne m2.2.2.2.1).1,fc1 ⟨(hne m1.2.2.1).1,fc1 ⟨(hne m0.2.1).1,fs1 hlw2⟩⟩⟩⟩
 clear N3 m0 m1 m2 m3;refine (?_:wpAny _ _ _ _ _ _);k_steps;rename Fr _ _ _ _=>F5;rename News _ _ _ _=>N5;rename_i lT _ m4;refine Dg (c:=s1.heap.objs.size+1+1) F5 N5 mH6 dT rfl fun h6 oT6 F6 N6 dT6=>?_;clear F5 N5;have N7:News T1.heap s1.heap.objs.size h6 ((lT,A1 #[] 0)::(le,A1 #[.ref e0.a,.ref e1.a,.ref e2.a] 0)::(e2.a,CP e2)::(e1.a,CP e1)::(e0.a,CP e0)::(lw,A1 #[.str x t1,.str y t2,.str z t3] ew)::(s1.heap.objs.size+1+1,oT6)::(s1.heap.objs.size+1,oE3)::[]):=
  Bo N6 (A6 (A8 (.head _) (hne m4.2.2.2.2.2.1).1) (A6 (A8 mH1 (hR1 _ (.head _))) (A6 (A8 mH2 (hR1 _ mH1)) (A6 (A8 mH3 (hR1 _ mH2)) (A6 (A8 mH4 (hR1 _ mH3)) (A6 (A8 mH5 (hR1 _ mH4)) (A6 (AV mH6) (A6 (A8 mH7 (EQ _).symm) (AA _)))))))))
 clear N6;refine CV [(le,A1 #[.ref e0.a,.ref e1.a,.ref e2.a] 0),(e2.a,CP e2),(e1.a,CP e1),(e0.a,CP e0),(lw,A1 #[.str x t1,.str y t2,.str z t3] ew),(s1.heap.objs.size+1+1,oT6),(s1.heap.objs.size+1,oE3)] ?_;intro R hR;have hRl:∀p∈R,p.1≠lT∧VB p.2:=by
  have nl:AL "list" ≠AL "dict" :=by decide
  have nt:AL "tuple" ≠AL "dict" :=by decide
  rw [hR];exact fc1 ⟨⟨A7 m4.1,.inl nl⟩,fc1 ⟨⟨A7 m4.2.1,.inl nt⟩,fc1 ⟨⟨A7 m4.2.2.1,.inl nt⟩,fc1 ⟨⟨A7 m4.2.2.2.1,.inl nt⟩,fc1 ⟨⟨A7 m4.2.2.2.2.1,.inl nl⟩,fc1 ⟨⟨A7 m4.2.2.2.2.2.1,.inr ⟨_,dT6⟩⟩,fs1 ⟨A7 m4.2.2.2.2.2.2,.inr ⟨_,dE3⟩⟩⟩⟩⟩⟩⟩⟩
 have hRe:(le,A1 (BZ [e0,e1,e2]).toArray 0)∈R:=by rw [hR];exact .head _
 have hRw:(lw,A1 #[.str x t1,.str y t2,.str z t3] ew)∈R:=by rw [hR];exact mH4
 have hRT:(s1.heap.objs.size+1+1,oT6)∈R:=by rw [hR];exact mH5
 have hRE:(s1.heap.objs.size+1,oE3)∈R:=by rw [hR];exact mH6
 have hRt:∀e∈[e0,e1,e2],(e.a,CP e)∈R:=by
  rw [hR];exact fc1 ⟨mH3,fc1 ⟨mH2,fs1 mH1⟩⟩
 have hRv:∀e∈[e0,e1,e2],(0≤e.i∧e.i≤2)∧0≤e.j∧e.j≤2:=by
  have key:∀{e:PT} {a b:Int},ptP e=(a,b)→(0≤a∧a≤2)∧0≤b∧b≤2→(0≤e.i∧e.i≤2)∧0≤e.j∧e.j≤2:=fun h k=>by cases h;exact k
  exact fc1 ⟨key v0 (by decide),fc1 ⟨key v1 (by decide),fs1 (key v2 (by decide))⟩⟩
 k_steps;refine ⟨?_⟩;rename Fr _ _ _ _=>F8;rename News _ _ _ _=>N8;refine ED ?_ (by intro _;with_unfolding_all rfl);k_steps;refine ⟨?_⟩;rename Fr _ _ _ _=>F9;rename News _ _ _ _=>N9;refine Rr (l:=le) (items:=(BZ [e0,e1,e2]).toArray) (ep:=0) rfl (by passes_own) (fun I i v s' Q' E' hv hit hQ=>?hgo) (J1 lw lT x y z [e0,e1,e2] R) (fun i m nx hJ=>?hl) F9 (hR▸N9) ⟨rfl,[],0,rfl,rfl,fun p hp=>hRl p hp,fun k d hd=>nomatch hd⟩ ?turn ?done
 case hgo=>
  obtain ⟨a,rfl⟩:=Jc _ _ hv;exact Do hit hQ
 case hl=>
  obtain ⟨_,l,nT,_,rfl,_⟩:=hJ;exact .tail _ (maR _ hRe)
 case turn=>
  intro I i v m₁ nx oI h tk d hv hJ hoc hn F10 N10;refine (let G9:Prop:=_;(?_:G9));obtain ⟨e,he,rfl⟩:=EC hv;obtain ⟨hw1,l,nT,hli,rfl,hlt,hP⟩:=hJ;have hem:=AK he;refine (?_:wpAny _ _ _ _ _ _);have hil:l.length≤3:=by
   have:=(List.getElem?_eq_some_iff.mp he).1;rw [hli];exact Be this
  with_unfolding_all refine Pf _ _ _ _ _ _ _ _ _ _ _ m₁ _ ((I,oI)::(l.flatMap M3++R)) lw lT _ nT x y z t1 t2 t3 (Ku l).toArray oT6 e _ _ _ B1 F10 X1 (Bo N10 (A6 mH1 (A6 (.head _) fun q hq=>mT2 hq))) T1 hw1 (.tail _ (maR _ hRw)) (.tail _ (maR _ (hRt e hem))) (.tail _ (maR _ hRT)) dT6 (fc1 ⟨(hn _ (.head _)).symm,fun p hp=>(hlt p hp).1⟩) (fc1 ⟨.inl hoc,fun p hp=>(hlt p hp).2⟩) hx hy hz (hRv e hem).1 (hRv e hem).2 (by unfold Ku;rw [Ae,AB];lia) ?hblk
  intro ps tr D pe h11 tk11 m11 hcut hps hw11 hDl hDG hpsG F11 N11;refine ⟨h11,tk11,d,m11,(lT,A1 (Ku (l++[(D,ps,pe)])).toArray (nT+1))::((l++[(D,ps,pe)]).flatMap M3++R),rfl,F11,?_,?_,hw11,l++[(D,ps,pe)],nT+1,?_,rfl,?_,?_⟩
  ·have e1:(Ku (l++[(D,ps,pe)])).toArray=(Ku l).toArray.push (.ref D):=by simp [Ku]
   have e2:(l++[(D,ps,pe)]).flatMap M3=l.flatMap M3++((D,A1 (BZ ps).toArray pe)::Hy ps):=by simp [M3]
   rw [e1,e2];refine Bo N11 (A6 (mT2 (maR _ (.head _))) (A6 (.head _) fun q hq=>AF hq (fun hq=>AF hq (fun hq=>mT2 (maR _ (.tail _ (maL _ hq)))) fun hq=>AH hq mH1 fun hq=>mT2 (maL _ hq)) fun hq=>mT2 (maR _ (.tail _ (maR _ hq)))))
  ·have e2:(l++[(D,ps,pe)]).flatMap M3=l.flatMap M3++((D,A1 (BZ ps).toArray pe)::Hy ps):=by simp [M3]
   rw [e2];refine fc1 ⟨(hn (lT,A1 (Ku l).toArray nT) (.head _):lT≠I),fun q hq=>AF hq (fun hq=>AF hq (fun hq=>hn q (.tail _ (maL _ hq))) fun hq=>?_) fun hq=>hn q (.tail _ (maR _ hq))⟩;rcases mc1 hq with rfl | hq
   ·exact (hDG _ (.head _)).symm
   obtain ⟨e',he',rfl⟩:=mm1 hq;exact ((hpsG e' he').2.2 _ (.head _)).symm
  ·rw [Ai,hli];rfl
  ·have e2:(l++[(D,ps,pe)]).flatMap M3=l.flatMap M3++((D,A1 (BZ ps).toArray pe)::Hy ps):=by simp [M3]
   rw [e2];refine fun q hq=>AF hq (fun hq=>AF hq (fun hq=>hlt q (maL _ hq)) fun hq=>?_) fun hq=>hlt q (maR _ hq);rcases mc1 hq with rfl | hq
   ·exact ⟨hDl,.inl (show AL "list" ≠AL "dict" by decide)⟩
   obtain ⟨e',he',rfl⟩:=mm1 hq;exact ⟨(hpsG e' he').2.1,.inl (show AL "tuple" ≠AL "dict" by decide)⟩
  intro k d hd
  by_cases hk:k<l.length
  ·rw [List.getElem?_append_left hk] at hd;exact hP k d hd
  rw [List.getElem?_append_right (Fm hk)] at hd;have hk0:k-l.length=0:=by
   have:=(List.getElem?_eq_some_iff.mp hd).1;rw [E0] at this;lia
  rw [hk0] at hd;cases hd;have hki:k=i:=hli▸Cd (Nat.sub_eq_zero_iff_le.mp hk0) (Nat.not_lt.mp hk);exact ⟨e,tr,hki▸he,hcut,hps⟩
 intro m₁ nx h tk d hJ F10 N10;obtain ⟨hw1,l,nT,hli,rfl,hlt,hP⟩:=hJ;obtain ⟨c0,c1,c2,rfl⟩:=Vb hli;obtain ⟨d0,p0,q0⟩:=c0;obtain ⟨d1,p1,q1⟩:=c1;obtain ⟨d2,p2,q2⟩:=c2;have O:TOk x.length y.length z.length (p0.map ptP) (p1.map ptP) (p2.map ptP):=by
  have key:∀{e e':PT} {a b:Int} {u v:Str} {ps:List PT},ptP e=(a,b)→Cc x y z a=u→Cc x y z b=v→e=e'→(∃tr,JR (Cc x y z e'.i) (Cc x y z e'.j) 0 (Cc x y z e'.i).length 0 (Cc x y z e'.j).length tr∧ps.map ptP=DW tr)→((ps.map ptP).Pairwise fun p q=>p.1<q.1∧p.2<q.2)∧∀p∈ps.map ptP,0≤p.1∧p.1<u.length∧0≤p.2∧p.2<v.length:=by
   intro e e' a b u v ps h1 h2 h3 h4 h5;subst h4;cases h1;obtain ⟨tr,h6,h7⟩:=h5;rw [h7,←h2,←h3];exact QS h6
  have k0:∃e tr,some e0=some e∧JR (Cc x y z e.i) (Cc x y z e.j) 0 (Cc x y z e.i).length 0 (Cc x y z e.j).length tr∧p0.map ptP=DW tr:=hP 0 _ rfl;have k1:∃e tr,some e1=some e∧JR (Cc x y z e.i) (Cc x y z e.j) 0 (Cc x y z e.i).length 0 (Cc x y z e.j).length tr∧p1.map ptP=DW tr:=hP 1 _ rfl;have k2:∃e tr,some e2=some e∧JR (Cc x y z e.i) (Cc x y z e.j) 0 (Cc x y z e.i).length 0 (Cc x y z e.j).length tr∧p2.map ptP=DW tr:=hP 2 _ rfl;obtain ⟨f0,tr0,g0,r0⟩:=k0;obtain ⟨f1,tr1,g1,r1⟩:=k1;obtain ⟨f2,tr2,g2,r2⟩:=k2;have s0:=key v0 rfl rfl (BM g0) ⟨tr0,r0⟩;have s1:=key v1 rfl rfl (BM g1) ⟨tr1,r1⟩;have s2:=key v2 rfl rfl (BM g2) ⟨tr2,r2⟩;exact ⟨s0.1,s1.1,s2.1,s0.2,s1.2,s2.2⟩
 clear hP;have N11:News T1.heap s1.heap.objs.size h ((lT,A1 #[.ref d0,.ref d1,.ref d2] nT)::([(d0,p0,q0),(d1,p1,q1),(d2,p2,q2)].flatMap M3++R)):=N10;have F11:Fr T1.heap s1.heap.objs.size h m₁:=F10;clear N10 F10 F9 N9 hlt hli;obtain ⟨G,hG⟩:∃G:List (Addr×Obj),G=(lT,A1 #[.ref d0,.ref d1,.ref d2] nT)::([(d0,p0,q0),(d1,p1,q1),(d2,p2,q2)].flatMap M3++R):=⟨_,rfl⟩;have N12:News T1.heap s1.heap.objs.size h G:=by rw [hG];exact N11
 have hGR:∀p∈R,p∈G:=fun p hp=>by rw [hG];exact .tail _ (maR _ hp)
 have hGT:(lT,A1 #[.ref d0,.ref d1,.ref d2] nT)∈G:=by rw [hG];exact .head _
 have hGD:∀d∈[(d0,p0,q0),(d1,p1,q1),(d2,p2,q2)],(d.1,A1 (BZ d.2.1).toArray d.2.2)∈G:=fun d hd=>by rw [hG];exact .tail _ (maL _ (List.mem_flatMap.mpr ⟨d,hd,.head _⟩))
 have hGE:∀d∈[(d0,p0,q0),(d1,p1,q1),(d2,p2,q2)],∀e∈d.2.1,(e.a,CP e)∈G:=fun d hd e he=>by rw [hG];exact .tail _ (maL _ (List.mem_flatMap.mpr ⟨d,hd,.tail _ (mm2 ⟨e,he,rfl⟩)⟩))
 clear N11 hG;dsimp only [qv];k_steps;refine ⟨?_⟩
 with_reducible refine ED ?_ ?hfs
 case hfs=>intro _;with_reducible exact Qv
 k_steps;refine ⟨?_⟩;rename_i l0 _ _ l1 _ _ l2 _ _ l3 _ _ lo h12 F13 N13 _;have hsel:∃G2,News T1.heap s1.heap.objs.size h12 G2∧(∀p∈G,p∈G2)∧(lo,A1 #[.ref l0,.ref l1,.ref l2,.ref l3] 0)∈G2∧∀(i:Nat) (v:Value),(#[A3 l0,.ref l1,.ref l2,.ref l3]:Array Value)[i]? = some v→∃lk kv ks ek,v = .ref lk∧(lk,A1 kv.toArray ek)∈G2∧CJ kv ks∧ks∈kepts:=by
  exact ⟨_,N13,fun p hp=>mT5 hp,.head _,Xg ⟨l0,[_,_],[0,1],0,rfl,mH4,.cons _ _ (.cons _ _ .nil),.head _⟩ ⟨l1,[_,_],[1,2],0,rfl,mH3,.cons _ _ (.cons _ _ .nil),mH1⟩ ⟨l2,[_,_],[0,2],0,rfl,mH2,.cons _ _ (.cons _ _ .nil),mH2⟩ ⟨l3,[_,_,_],[0,1,2],0,rfl,mH1,.cons _ _ (.cons _ _ (.cons _ _ .nil)),mH3⟩⟩
 refine MA hsel ?_;intro G2 N14 hsub hlo hsel2;clear N13 hsel;refine Rr (l:=lo) (items:=#[.ref l0,.ref l1,.ref l2,.ref l3]) (ep:=0) rfl (by passes_own) (fun I i v s' Q' E' hv hit hQ=>?hgo2) (fun i m nx=>m (A0 "words")=some (.ref lw)∧nx=G2) (fun i m nx hJ=>hJ.2▸hlo) F13 N14 ⟨hw1,rfl⟩ ?turn2 ?done2
 case hgo2=>exact AC hQ
 case turn2=>
  intro I i v m₂ nx oI h13 tk13 d13 hv hJ hoc hn F15 N15;refine Uv (hsel2 i v hv) ?_;intro lk kv ks ek e92 hlk hI hks;subst e92;refine CL hJ ?_;intro hw2 e93;subst e93;clear hsel2
  with_unfolding_all refine Sy _ _ _ _ _ _ _ _ _ _ m₂ _ ((I,oI)::nx) lw lT le lk d0 d1 d2 ew nT 0 ek q0 q1 q2 x y z t1 t2 t3 oE3 oT6 e0 e1 e2 p0 p1 p2 kv ks _ _ _ B1 F15 X1 N15 T1 hw2 (.tail _ (hsub _ (hGR _ hRw))) (.tail _ (hsub _ (hGR _ hRT))) dT6 (.tail _ (hsub _ (hGR _ hRE))) dE3 (.tail _ (hsub _ hGT)) (.tail _ (hsub _ (hGR _ hRe))) (.tail _ (hsub _ (hGR _ (hRt _ (.head _))))) (.tail _ (hsub _ (hGR _ (hRt _ mH1)))) (.tail _ (hsub _ (hGR _ (hRt _ mH2)))) v0 v1 v2 (.tail _ (hsub _ (hGD _ (.head _)))) (.tail _ (hsub _ (hGD _ mH1))) (.tail _ (hsub _ (hGD _ mH2))) (fun e he=>.tail _ (hsub _ (hGE _ (.head _) e he))) (fun e he=>.tail _ (hsub _ (hGE _ mH1 e he))) (fun e he=>.tail _ (hsub _ (hGE _ mH2 e he))) (.tail _ hlk) hI hks hx hy hz O ?hkept
  intro h16 tk16 d16 m16 hw16 F16 N16;exact ⟨h16,tk16,d16,m16,nx,rfl,F16,N16,hn,hw16,rfl⟩
 intro m₂ nx h14 tk14 d14 hJ F15 N15;dsimp only [qv];clear hsel2;have F16:Fr T1.heap s1.heap.objs.size h14 m₂:=F15;have N16:News T1.heap s1.heap.objs.size h14 nx:=N15;clear F15 N15;k_steps
end
end Mine
theorem PySem.Challenge.cw_nq0317_02_holds : PySem.Challenge.rw_nq0317_02.Holds := by
 exact holds_law (by decide +kernel) Mine.hdWalk
