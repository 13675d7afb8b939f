import PyProof.Rows.All
import Wide.All
import OpenK.AllK
import Wide.FinOn
import PySem.Challenge.RW_uy0025_02
set_option Elab.async false
set_option genSizeOf false
set_option tactic.hygienic false
set_option maxRecDepth 100000
set_option genCtorIdx false
set_option compiler.extract_closed false
set_option backward.match.sparseCases false
set_option bootstrap.genMatcherCode false
set_option genInjectivity false
set_option maxHeartbeats 4000000
set_option linter.all false
set_option linter.unusedVariables false
open Option renaming some → aa, none → aC, isSome_iff_exists → bZ, map_eq_some_iff → cQ, bind_eq_some_iff → iT, bind_some → lL, isNone_iff_eq_none → lV
open PySem renaming wpAny_bind → aj, wpAny_pure → au, Value → aB, Expr → aF, Str → aM, wpAny → aO, Shared → aV, Addr → aW, wpAny_mono → bJ, Heap → bL, Around → bQ, wpAny_holding → bT, mainGlobals → bW, wpAny_field → cZ, builtinsNs → dD, wpAny_Name → dN, wpAny_standAt → dR, sliceBounds → eE, Builtin → eF, wpAny_loadName_local → eG, wpAny_newObj_type → eN, Env → fu, wpAny_of_eq → fX, wpAny_seqItems → gf, wpAny_call_entry → gj, builtinKind → gC, codeAny → gD, model → gK, isSubtype_type → ir, builtinLookup_eq_fast → iK, DictEntry → iR, sizeLine_eq → jf, wpAny_callSpecial?_slot → ji, Scope → jB, FuncData → jC, rawInt → jD, wpAny_rule → jE, ExceptHandler → jK, letOwnedTupleGo → jL, isInstance → jU, wpAny_loadPart → km, seqIndex? → kE, wpAny_setField_rec → lC, NameKind → lD, typeLookup_type → lF, attributeBase → lM, wpAny_storeName_local → lU, standAt → mj, wpAny_Call_ofName → mq, recursionLimit → mO, wpAny_call → mR, keywordEach → mU, checkBoundCall → mW, Program → nq, TriplesOk → nA, wpAny_handleBy_builtin_as → nH, binaryOp → oE, starEach → oF, Obj → oH, wpAny_specialOf → oK, wpAny_loadPart' → oO, wpAny_Constant_str → oY, wpAny_pyIter_tuple → ph, slot_listiter_next → pF, isSubtype → pI, Stmt → pM, holding → pU, wpAny_assign_Name → pW, wpAny_setField → pZ, foldedSetIterable → qb, newFunctionEnv → qd, Pos → qg, wpAt_of_wpAny → qt, call_meets → qF, compareOp → qH, wpAny_isInstance → qI, wpAny_attempt → qL, swappedStores → qN, wpAny_newFunctionEnv → qR, wpAny_execs_nil → rC, Arguments → rY, getMethod → rZ, swapsWith → su, sizeLine → sO, assignEach → sS, backToKw → sU, methodCall → sW, Keyword → tY, wpAny_letGo → tZ, Comprehension → uw, pyIter → uy, wpAny_onRaise → uz, Operator → uJ, World → uK, wpAny_execs_cons → uM, sliceRange → vp, truthy → vy, typeOf → vz, assign → vB, wpAny_updateSeq → vI, Stmt → vX, codeAny_call_function → vZ, PyData → wQ, wpAny_letTemporaryGo → wU, IsPart → wV, pyNext → wX, bindArgs → wZ, wpAny_updateSeq_pair → xg, splitId → xK, setItem → xM, cellsFrom → xP, ks_wpAny_isType_cls → ye, builtinType_eq_fast → yg, Model → yw, cLine → yC, typeIs_int → yV, backTo → yX, argsOk → yZ, Result → za, ks_wpAt_execs_cons → zc, preSum → zj, GenState → zZ, entryFor → Ab, slot_list_getitem → Ac, wpAny_typeOf → Ad, codeAny_mono → Af, wpAny_Return_some → Ag, callWith → Ah, getMethod_builtin → Al, rule → BL, checkBuiltinCall → BP, entryFor_of_tree → BX, codeAmong → Ca, wpAny_BinOp → Cq, codeAny_of_tree → Ea, codeAny_builtin → Eb, getItem → En, getAttr → Eo, wpAny_listPart → Hl, wpAny_load → Hn, methodCallForm → Hq, typeLookup → Hr, wpAny_fieldsOf → Ht, ZipApart → Hu, closureFor → Hv, wpAny_bindName → Hw, typeIs_str → Hx, wpAny_release → Rb, assignInOrder → Rg, Sem → RW, wpAny_listSubscript_int → RZ, strValues → Ss, spliced → adg, wpAny_mkText → adh, exec → adk, wpAny_nextOf_list_item → adp, codeAny_compStart_list → adq, cStatics → aog, loadName → aoi, codeAny_call_builtin → aoj, subscripted → aok, interactive → aom, wpAny_mkInt → aoo, strIterType → aoq, bindName → aor, unbindBehindTheSuite → aos, handleBy → aot, intText? → aov, wpAny_loadName_cell → aud, wpAny_loadName_free → aue, entry_listiter_next → auj
open Nat renaming le_trans → ak, le_refl → aN, le_add_right → aQ, lt_of_le_of_lt → bz, lt_of_lt_of_le → bA, add_le_add_right → bB, add_le_add_left → bK, le_of_eq → bM, le_of_lt → bR, add_right_comm → cB, zero_le → cL, succ_le_succ → cO, ne_of_lt → dh, lt_trans → dw, le_succ → dC, le_of_lt_succ → dF, le_of_not_lt → eU, lt_irrefl → eX, succ_pos → fB, lt_succ_self → fP, le_succ_of_le → gq, add_le_add → gB, add_assoc → gO, lt_succ_of_lt → gV, le_antisymm → gZ, not_lt_of_le → iG, add_comm → iM, le_add_left → jg, zero_add → kW, min_le_left → lg, min_eq_left → lu, div_lt_of_lt_mul → lX, mod_lt → lY, not_lt_zero → nG, lt_of_le_of_ne → nR, lt_add_of_pos_right → nZ, le_of_succ_le → pB, sub_self → pG, ne_of_gt → qT, lt_succ_of_le → sG, succ → tH, add_sub_cancel_left → tU, sub_zero → ux, sub_le → uB, le_of_succ_le_succ → uC, le_of_ble_eq_true → uO, lt_of_sub_eq_succ → uQ, mul_le_mul_left → vY, sub_lt_sub_left → wi, add_lt_add_left → wj, sub_lt → xj, le_total → xY, add_sub_of_le → xZ, add_zero → yf, min_le_right → yW, lt_of_not_le → zf, min_eq_right → zg, succ_ne_zero → zq, blt_eq → Ce, succ_add_eq_add_succ → Ef, le_of_sub_eq_zero → Lb, sub_eq_zero_of_le → Lf, add_lt_add_right → Ri, one_pos → Rj, le_sub_one_of_lt → Rk, le_zero → Rq, sub_lt_sub_right → Rr, add_sub_cancel' → Su, not_lt → adn, pos_of_ne_zero → adw, lt_or_eq_of_le → adx, blt → afb, not_le_of_lt → aon, succ_ne_self → aop, le_of_not_le → apb, le_max_left → auk
open Option.some renaming inj → aq
open Bool renaming true → az, false → aG, false_ne_true → bU, or_eq_true_iff → dJ, and_eq_true → fO, eq_false_iff → gR, eq_iff_iff → jc, and_false → jq, or_eq_true → kZ, or_false → mY, true_and → pQ, false_and → Bd, and_eq_false_iff → Ho, or_eq_false_iff → Le, and_eq_true_iff → Lj, and_assoc → aur
open List renaming length_append → aA, append_assoc → aH, length_map → aJ, getElem?_eq_some_iff → aL, mem_singleton → aP, mem_of_getElem? → aR, mem_cons → aY, append_nil → bh, length_set → bx, getElem?_set_self → bC, getElem?_eq_getElem → bD, all_eq_true → bF, getElem?_set_ne → bH, map_cons → bV, isEmpty_iff → bY, map_append → cC, range → cD, mem_flatten → cG, filterMap_cons_some → cP, length_cons → cW, mem_append → cX, map_map → cY, contains_iff_mem → dj, filterMap_cons_none → dm, mem_map → dq, forall_mem_cons → dz, mem_range → dK, getD_eq_getElem?_getD → dO, forIn_cons → dW, flatten_cons → dX, filter_cons_of_neg → eQ, getElem?_map → eV, eq_nil_of_length_eq_zero → eZ, mem_append_right → fQ, length_filter_le → fU, filter_cons_of_pos → fY, flatten_append → gh, nodup_cons → gF, mem_filter → gG, getElem?_append_right → gM, map_congr_left → gU, foldl_cons → gY, getElem?_append_left → ig, length_take → iC, set_set → iH, sum_cons → jk, replicate → jN, flatten_nil → jR, filter_append → kh, mem_iff_getElem? → lB, lookup → lN, extract_eq_take_drop → mD, drop_eq_getElem_cons → mF, length_reverse → mK, set_comm → mZ, nil_append → nC, findIdx?_eq_some_iff_getElem → nY, mapM_cons → oJ, drop_zero → oM, length_range → oN, take_append_drop → pN, length_nil → qw, replicate_succ → qD, length_flatten → qG, mem_filterMap → ru, pairwise_cons → rz, getElem?_drop → rA, pairwise_iff_getElem → rG, mem_or_eq_of_mem_set → rH, filter → rR, any_cons → sy, getElem?_take_of_lt → sE, length_drop → tB, drop_length → tC, filter_cons → tG, take_of_length_le → uc, find?_cons_of_pos → ud, map_nil → ue, getElem?_eq_none → uG, mem_append_left → uZ, filter_eq_self → vL, findIdx?_cons → wC, length_zipIdx → wF, filterMap_nil → wG, zip_cons_cons → wH, size_toArray → xN, reverse_cons → xO, lookup_cons → yz, take_length → yD, all_toArray → yE, length_zip → zG, mem_zipIdx_iff_getElem? → zK, getElem?_concat_length → An, foldl → Ay, take_left → Az, mem_of_find?_eq_some → BW, length_eraseIdx_le → DY, pairwise_singleton → Ed, find?_cons_of_neg → Et, drop_of_length_le → Eu, map_set → Ex, filter_eq_nil_iff → Ey, append_eq_nil_iff → Ez, length_pos_of_mem → EY, length_singleton → Hy, countP_le_length → Hz, set_append_right → HB, mem_of_mem_take → Lg, mem_cons_of_mem → Lh, length_take_le' → Li, count_le_length → Lk, getElem?_range → Rn, length_pos_iff → Rp, zip_nil_right → Sh, nodup_append → ade, any_eq_false → ado, take_add_one → adt, find?_append → ady, any_eq_true → aet, getElem_mem → aex, range'_succ → afa, find?_some → aol, foldr_cons → aow, take_left' → aox, find?_cons → aoz, count_cons → apa, forIn_nil → aui, drop_drop → auo, take_zero → aup, filterMap → auq, sum → aus
open PySem.Heap renaming get?_push_of_some → aK, get?_push_size → bj, lt_size → cA, get?_none_of_le → fZ, size_push → gQ, get?_update_self → iz, get?_update_other → jh, SameBut → jG, Ns → qM, IsCell → uX, ExtBut → uY
open List.cons renaming inj → bI
open Array renaming length_toList → cj, getElem?_toList → cu, getElem?_eq_getElem → dG, toList_append → dH, append_empty → iB, toList_push → jF, getElem?_eq_some_iff → lE, toList_inj → lW, size → pO, toArray_toList → pP, toList_extract → pX, extract → vJ, append_assoc → vV, empty_append → vW, size_append → wR, toList_eraseIdxIfInBounds → xQ, getElem?_eq_none → Ec, mem_iff_getElem → Ep, getElem_eq_getD → Er, mem_toList_iff → Hs, size_extract → Rc, any_toList → adi, size_push → aey
open PySem.PyData renaming strOk → cz, depth → qp, eqv → qK, tuple → tE, eqvAll → vD, int → vK, canLay0 → zE, str → zJ, canLayAll0 → QW, depthAll → adf
open Int renaming natCast_nonneg → cJ, le_trans → cV, ofNat_le → du, natCast_add → ie, ofNat_lt → iJ, lt_of_le_of_lt → ju, not_lt → jx, add_sub_cancel → jy, mul_le_mul_of_nonneg_left → jZ, lt_of_lt_of_le → kI, max_eq_right → mH, toNat_of_nonneg → mQ, toNat → nW, le_of_eq → pg, toNat_natCast → pC, not_le → pR, min_eq_left → qJ, fdiv_eq_ediv_of_nonneg → rF, toNat_le → uA, sub_nonneg_of_le → vC, sub_add_cancel → wY, toNat_lt → xX, ediv_one → yc, le_of_lt → yd, add_comm → yh, natCast_ediv → zr, ofNat_nonneg → zu, natCast_mul → Aa, le_max_left → Ae, le_antisymm → Ak, fmod_eq_emod_of_nonneg → Cd, sub_neg → QZ, add_lt_add_right → Rf, sub_nonpos_of_le → Rh, toNat_of_nonpos → Sg, min_eq_right → aou, natCast_emod → aoy, max_eq_left → aul, min_le_left → aum
open PySem.Obj renaming mapSeq → dM, data_mapFields → kJ, isFreed_of_fields → uN, putName → vA, cls_mapFields → aev
open PySem.Builtin.List renaming listFitsIndex → dZ, listSubscript? → iQ, listTooLong → xJ
open PySem.NameKind renaming free → fD, cell → uP
open PySem.W renaming hideAll → fK, looks_findIn → fM, findIn → gb, emptyDict → gk, dictOf → iU, of_hideAll → iV, hideAll_get → jM, Looks → lA, callWith_of → mV, tabObj → nO, looks_nsIn → oZ, hideAll_none → pY, looks_mroIn → qQ, typeIn → uv, looks_clsIn → wW, specialIn → xH, makesIn → zX, stepT → zY, lookIn_dict → Cr, SharedT → Em, WellAll → Ew, clsIn → Hi, noSeq → Hj, keepIn → Hk, getL → Ra, mroIn → RX, hasDictIn → Sd, nsIn → acz, takesIn → ada, Frag → aof, openEnds → aoh
open PySem.Calls renaming spliced_cons → ik, evalArgs_plain → kO, spliced_nil → lz
open PySem.Txt renaming lower → iD, isspace → nU, split → qZ, join → vq, replace → zB, count → El
open PySem.Sem renaming wp → iW
open PySem.Value renaming type → jl, none → tK, ref → adl
open ForInStep renaming yield → jt
open Exists renaming elim → jA
open PySem.Manifest renaming canonical → jO, signature? → lJ, find? → Sq
open PySem.Builtin.Range renaming rangeFitsLong → jP, small → lq
open Prod.mk renaming inj → jQ
open PySem.W.Looks renaming of_pure → kY, ld → uL
open PyProof.Rows renaming subscriptTail → lK, tail_any → Hm, loadName_read → QX, AllBare → adu
open PySem.Str renaming empty → mz, ofString → oX, ext' → Ro, mk → adv
open PySem.F renaming ks_slot_super_ga → mG, slot_str_split → nQ, slot_zip_next → oR, args_str_split_2 → rE, entry_str_split → rQ, slot_str_join → tQ, type_str_join → tR, slot_tuple_iterator_next → wg, excStr_ValueError → zH, excStr_TypeError → Ai, slot_list_insert → Aj, type_list_append → Am, args_zip_next_1 → Ba, slot_list_index → Bb, slot_dict_items → Bc, entry_zip_next → BZ, type_list_pop → Cu
open And renaming elim → nu
open PySem.P renaming str_of_exc_one → nP, len_str → Sv
open PySem.Sre renaming Seen → pA
open PySem.Heap.SameBut renaming update → pD
open Nat.succ renaming inj → qi
open PySem.WalksT renaming enumerateD → rD
open PUnit renaming unit → tL
open PySem.Builtin.Str renaming strKind → tM, strSliceIndices → wB, occurrences → yx
open PySem.Around renaming frames_deeper → uF, under_plainId → Es
open PySem.ScopeKind renaming function → uR
open PySem.Challenge renaming rw_uy0025_02 → uT
open PySem.Code renaming quiet_builtin → wD
open PySem.Unicode renaming isSpace → yj
open PySem.Heap.IsSliceOf renaming new → zF
open PySem.IntMulOk renaming of_left → Ld
open PySem.Flow renaming next → aeu
open PySem.Builtin.SmallTypes renaming nextOf → aew
open Array.mk renaming inj → aez
open PySem.Bind renaming checkArgs → auf
open PySem.AutoIntOps renaming iadd_0 → auh
open Prod renaming fst → aun
section
namespace Mine.Internal
theorem bG {c:Prop}{h:Decidable c}(k:c){α:Sort _}{t e:α}:ite c t e=t:=if_pos k
theorem bu {c:Prop}{h:Decidable c}(k:¬c){α:Sort _}{t e:α}:ite c t e=e:=if_neg k
theorem fH {p:Prop}[i:Decidable p](h:decide p=az):p:=of_decide_eq_true h
theorem gJ {p:Prop}[i:Decidable p](h:p):decide p=az:=decide_eq_true h
theorem fG {α:Type _}[BEq α][LawfulBEq α]{a b:α}(h:(a==b)=az):a=b:=eq_of_beq h
@[elab_as_elim] theorem aD {α:Sort _} {a b:α} {motive:∀J:α,Prop} (h:a=b) (p:motive b):motive a:=h▸p
@[elab_as_elim] theorem nF {α:Sort _} {a b:α} {motive:∀J:α,Prop} (h:a=b) (p:motive a):motive b:=h▸p
theorem rT {α:Type _}{l:List α}{a:α}(i:Nat)(h:l[i]?=aa a):a∈l:=aR h
theorem iu {α:Type _}{a:α}{C:Prop}(h:aC=aa a):C:=by cases h
theorem Sw {α:Type _}{a:α}{C:Prop}(h:aa a=aC):C:=iu h.symm
theorem nxC {α:Type _}{a:α}{l:List α}{C:Prop}(h: []=a::l):C:=by cases h
theorem nxD {α:Type _}{a:α}{l:List α}{C:Prop}(h:a::l= []):C:=nxC h.symm
theorem Cv {α:Type _}{a:α}{C:Prop}(h:a∈([]:List α)):C:=absurd h List.not_mem_nil
theorem rU {C:Prop}(h:aG=az):C:=by cases h
theorem Lp {C:Prop}(h:az=aG):C:=rU h.symm
theorem nxZ {n:Nat}{C:Prop}(h:0=n+1):C:=by cases h
theorem nxY {n:Nat}{C:Prop}(h:n+1=0):C:=nxZ h.symm
theorem nxL {n:Nat}{C:Prop}(h:n<0):C:=absurd h (nG n)
theorem qm {P:Prop}(f:∀G:Prop,∀J:(∀J:P,G),G):P:=f P λx=>x
theorem lO {α:Sort _}{p q:∀J:α,Prop}{b:Prop}(h:∃x,p x∧q x)(f:∀x,∀J:p x,∀J:q x,b):b:=h.elim λx h=>f x h.1 h.2
theorem Rt {α:Sort _}{p q r:∀J:α,Prop}{b:Prop}(h:∃x,p x∧q x∧r x)(f:∀x,∀J:p x,∀J:q x,∀J:r x,b):b:=h.elim λx h=>f x h.1 h.2.1 h.2.2
theorem exX {α β:Sort _}{p:∀J:α,∀J:β,Prop}{b:Prop}(h:∃x,∃y,p x y)(f:∀x y,∀J:p x y,b):b:=h.elim λx h=>h.elim λy h=>f x y h
theorem exY {α β:Sort _}{p q:∀J:α,∀J:β,Prop}{b:Prop}(h:∃x,∃y,p x y∧q x y)(f:∀x y,∀J:p x y,∀J:q x y,b):b:=h.elim λx h=>h.elim λy h=>f x y h.1 h.2
theorem Be {p q r b:Prop}(h:p∧q∧r)(f:∀J:p,∀J:q,∀J:r,b):b:=f h.1 h.2.1 h.2.2
theorem anB {p q r s b:Prop}(h:p∧q∧r∧s)(f:∀J:p,∀J:q,∀J:r,∀J:s,b):b:=f h.1 h.2.1 h.2.2.1 h.2.2.2
abbrev PQ (β:Type):Type:=∀J:β,∀J:PySem.Shared,Prop
open PySem
theorem oh {α:Type}{M:yw}{A:bQ}{t t':RW α}{Q:PQ α}{E:PQ aB}{s:aV}(h:t=t')(k:aO M A t' Q E s):aO M A t Q E s:=h▸k
set_option genCtorIdx true in
inductive V where
 | none | bool (b:Bool) | int (i:Int) | str (s:aM) | tup (l:List V) | ref (i:Nat) | gl (v:aB)
 | exc (cls:String) (msg:aM) | Ao (k:aF) | mat | Ru (i:Nat)
inductive j6 where
 | bad | cst (v:V) | loc (x:aM) | cR (x:aM) | gn (x:aM)
 | xR (o:BoolOp) (l:List j6) | bin (o:uJ) (a b:j6) | not (a:j6) | neg (a:j6)
 | ite (t a b:j6) | tup (l:List j6) | lst (l:List j6) | cmp (o:CmpOp) (a b:j6)
 | call (f:j6) (args:List j6) (kn:List aM) (Lq:List j6) | bN (o:j6) (n:aM) (args:List j6) (kn:List aM) (Lq:List j6)
 | star (o:j6) (n:aM) (a:j6) | sup (n:aM)
 | attr (o:j6) (n:aM) | sub (o i:j6) | vM (o a b c:j6)
 | comp (elt t it:j6) (ifs:List j6) (xT:List aM) | lam (k:aF) | dot (a b:j6) | Sx (o:j6) (a b:aM)
 | xU (l:List j6) | Cg (e:j6)
structure zL where
 cls:aM
 x:aM
 pre:aM
 to:aM
inductive n6 where
 | bad | expr (e:j6) | ret (e:j6) | asg (t e:j6) | Lr (x:aM) (o:uJ) (e:j6) | Bf (a i:j6) (o:uJ) (e:j6)
 | del (o i:j6) | ite (t:j6) (a b:List n6) | whl (t:j6) (b:List n6) | oU (t it:j6) (b o:List n6)
 | raise (cls:String) (msg:aM) | afc (b:List n6) (hs:List zL) | pass | brk | cont
noncomputable abbrev j8:=List (aM×V)
set_option genCtorIdx true in
inductive p6 where
 | list (l:List V) | inst (c:aW) (d:j8) | acc (c:aW) (d:j8) (l:List V) | vN
noncomputable abbrev Hp:=List p6
set_option genCtorIdx true in
inductive Res (α:Type) where
 | ok (a:α) | exc (cls:String) (msg:aM)
noncomputable abbrev Out (α:Type):=Option (Res α×Hp)
noncomputable def jd {α β:Type}(r:Out α)(f:α->Hp->Out β):Out β:=match r with
 | some (.ok a,H)=>f a H
 | some (.exc c m,H)=>aa (.exc c m,H)
 | none=>aC
noncomputable abbrev ok {α:Type}(a:α)(H:Hp):Out α:=aa (.ok a,H)
noncomputable def opt {α β:Type}(o:Option α)(f:α->Option β):Option β:=match o with
 | some a=>f a
 | none=>aC
noncomputable def fV {β:Type}(b:Bool)(r:Option β):Option β:=if b=az then r else aC
section
open PySem.W PyProof.Rows
noncomputable def ao6 (K:aof)(C:aW):Bool:=(opt (K.lookup C) λo=>opt (Hi K C) λcd=>fV (!cd.abstract&& !cd.hasDel&&(o.slots.toList[4]?).join==aa (.builtin "list.__new__")&& !cd.mro.isEmpty&&cd.mro.contains (.ref C)&&cd.mro.contains (.type "list")&&
   xH K (.ref C) "__call__"==aa (aa (.builtin "type.__call__"))&&instIn K (.ref C) (.type "type")==aa az) (aa az)).isSome
end
structure Fm where
 loc:j8
 cR:j8
 lk:List Nat
structure St where
 loc:j8
 cR:j8
 hp:Hp
noncomputable abbrev v7 (α:Type):=Option (Res α×St)
noncomputable def N7 {α β:Type}(r:v7 α)(f:α->St->v7 β):v7 β:=match r with
 | some (.ok a,σ)=>f a σ
 | some (.exc c m,σ)=>aa (.exc c m,σ)
 | none=>aC
noncomputable abbrev fc {α:Type}(a:α)(σ:St):v7 α:=aa (.ok a,σ)
noncomputable def St.fm (σ:St)(lk:List Nat):Fm:=⟨σ.loc,σ.cR,lk⟩
noncomputable def jV {α:Type}(σ:St)(r:Out α):v7 α:=match r with
 | some (a,H)=>aa (a,{σ with hp:=H})
 | none=>aC
noncomputable def upd (e:j8)(x:aM)(v:V):j8:=match e with
 | []=> [(x,v)]
 | (y,u)::r=>if y=x then(x,v)::r else(y,u)::upd r x v
theorem Cw {x y:aM}{u v:V}{r:j8}:upd ((y,u)::r) x v=if y=x then(x,v)::r else(y,u)::upd r x v:=rfl
noncomputable def del (e:j8)(x:aM):j8:=e.filter λp=>p.1≠x
noncomputable def alloc (H:Hp)(o:p6):Out V:=ok (.ref H.length) (H++ [o])
noncomputable def put {α:Type}(lk:List Nat)(H:Hp)(i:Nat)(o:p6)(a:α):Out α:=fV (!lk.contains i) (ok a (H.set i o))
set_option genCtorIdx true in
inductive Fl where
 | next | brk | cont | ret (v:V)
structure Fn where
 params:List aM
 dflt:j8
 eY:List aM
 kwarg:Option aM
 cells:List aM
 body:List n6
 shapes:List (Nat×List aM)
structure Gl where
 glob:aM->Option V
 fn:aW->Option Fn
 bN:aW->aM->Option aW
 fW:aW
 re:aW->Option (Nat->Bool)
 lam:aF->Option (List aM×j6)
noncomputable def room (n:Nat):Bool:=decide (n≤16777216)
noncomputable def small (i:Int):Bool:=decide (-9223372036854775808≤i)&&decide (i<9223372036854775808)
noncomputable def mid (i:Int):Bool:=decide (-1000000000000000≤i)&&decide (i≤1000000000000000)
noncomputable def intOf:V->Option Int
 | .int i=>aa i
 | _=>aC
noncomputable def strOf:V->Option aM
 | .str s=>aa s
 | _=>aC
noncomputable def uf:V->Option (List V)
 | .tup l=>aa l
 | _=>aC
noncomputable def refOf:V->Option Nat
 | .ref i=>aa i
 | _=>aC
noncomputable def Sy (v:V):Option Nat:=opt (strOf v) λs=>match s.cps.toList with
 | [c]=>aa c
 | _=>aC
noncomputable def lst:p6->Option (List V)
 | .list l=>aa l
 | _=>aC
noncomputable def ins:p6->Option (aW×j8)
 | .inst c d=>aa (c,d)
 | _=>aC
noncomputable def a6e:p6->Option (aW×j8×List V)
 | .acc c d l=>aa (c,d,l)
 | _=>aC
noncomputable def listAt (H:Hp)(v:V):Option (Nat×List V):=opt (refOf v) λi=>opt H[i]? λo=>opt (lst o) λl=>aa (i,l)
noncomputable def ug (H:Hp)(v:V):Option (Nat×aW×j8):=opt (refOf v) λi=>opt H[i]? λo=>opt (ins o) λp=>aa (i,p)
noncomputable def sX (H:Hp)(v:V):Option (Nat×aW×j8×List V):=opt (refOf v) λi=>opt H[i]? λo=>opt (a6e o) λp=>aa (i,p)
noncomputable def ao7:List V->Option (List aM)
 | []=>aa []
 | v::r=>opt (strOf v) λs=>opt (ao7 r) λl=>aa (s::l)
noncomputable def au3:List V->Option (List Int)
 | []=>aa []
 | v::r=>opt (intOf v) λs=>opt (au3 r) λl=>aa (s::l)
noncomputable def Z9 (H:Hp)(v:V):Option (List Int):=opt (listAt H v) λp=>au3 p.2
noncomputable def Rv (s:aM):Option V:=fV (room s.length) (aa (.str s))
noncomputable def ao8 (H:Hp)(v:V):Option (List V):=match v with
 | .tup l=>aa l
 | .str s=>aa (s.cps.toList.map λc=> .str ⟨#[c]⟩)
 | .Ru i=>opt H[i]? λo=>match o with
  | .vN=>aa []
  | _=>aC
 | .ref i=>opt H[i]? lst
 | _=>aC
noncomputable def aj3:V->List Nat
 | .ref i=> [i]
 | .Ru i=> [i]
 | _=> []
noncomputable def R9 {α β:Type}(f:α->Hp->Out β):List α->Hp->Out (List β)
 | [],H=>ok [] H
 | e::r,H=>jd (f e H) λv H=>jd (R9 f r H) λvs H=>ok (v::vs) H
noncomputable def V5 (H:Hp):Nat->V->Option wQ
 | 0,_=>aC
 | n+1,v=>match v with
  | .none=>aa .none
  | .bool b=>aa (.bool b)
  | .int i=>aa (.int i)
  | .str s=>fV (cz s) (aa (.str s))
  | .tup l=>(l.mapM (V5 H n)).map .tuple
  | .ref i=>opt H[i]? λo=>opt (lst o) λl=>(l.mapM (V5 H n)).map .list
  | _=>aC
noncomputable def eqP (H:Hp)(a b:V):Option Bool:=opt (V5 H 8 a) λx=>opt (V5 H 8 b) λy=>aa (qK x y)
noncomputable def apf:∀J:wQ,Option (List wQ)
 | .list l=>aa l
 | _=>aC
noncomputable def SJ (H:Hp)(a b:V):Option Bool:=opt (V5 H 8 b) λy=>opt (apf y) λds=>opt (V5 H 8 a) λd=>aa (!(ds.any λy=>qK y d))
noncomputable def idx {α:Type}(l:List α)(i:Int):Option α:=if 0≤i then l[i.toNat]? else if 0≤i+l.length then l[(i+l.length).toNat]? else aC
noncomputable def T5:V->Option (Option Int)
 | .none=>aa aC
 | .int i=>aa (aa i)
 | _=>aC
noncomputable def picks (lo hi st:Option Int)(n:Nat):List Nat:=vp (eE lo hi st n).1 (eE lo hi st n).2.1 (eE lo hi st n).2.2
noncomputable def jJ {α:Type}(l:List α)(lo hi st:Option Int):List α:=(picks lo hi st l.length).filterMap (l[·]?)
noncomputable def au4 (s:aM)(lo hi st:Option Int):aM:=if st.getD 1==1&&(picks lo hi st s.length).length==s.length then s else⟨(jJ s.cps.toList lo hi st).toArray⟩
noncomputable def SM {β:Type}(a b c:V)(f:Option Int->Option Int->Option Int->Option β):Option β:=opt (T5 a) λlo=>opt (T5 b) λhi=>opt (T5 c) λst=>if st=aa 0 then aC else f lo hi st
noncomputable def toS (l:List Nat):aM:=⟨l.toArray⟩
noncomputable def al2 (x:Int):List Int->List Int
 | []=> [x]
 | y::r=>if x≤y then x::y::r else y::al2 x r
theorem Fb {x y:Int}{r:List Int}:al2 x (y::r)=if x≤y then x::y::r else y::al2 x r:=rfl
noncomputable def ab3 (l:List Int):List Int:=l.foldr al2 []
noncomputable def pairOf (v:V):Option (aM×aM):=opt (uf v) λl=>match l with
 | [a,b]=>opt (strOf a) λx=>opt (strOf b) λy=>aa (x,y)
 | _=>aC
noncomputable def pairs:List V->Option (List (aM×aM))
 | []=>aa []
 | v::r=>opt (pairOf v) λp=>opt (pairs r) λl=>aa (p::l)
noncomputable def w7 (l:List (aM×aM)):Nat:=(l.map λp=>p.1.length+p.2.length).sum
noncomputable def v6 (l:List (aM×aM)):aM:=l.foldr (λp s=>(p.1.append p.2).append s) mz
noncomputable def HD (d:j8)(l:List V):Option (Int×List (aM×aM)):=opt (d.lookup ("_initial_size":aM)) λv=>opt (intOf v) λn=>opt (pairs l) λps=>
 fV (mid n&&room (w7 ps)&&decide (l.length≤1000000)) (aa (n,ps))
noncomputable def ad3 (d:j8)(l:List V):Option Int:=opt (HD d l) λp=>fV (decide (0≤p.1+(w7 p.2:Int))) (aa (p.1+(w7 p.2:Int)))
noncomputable def a6g:p6->Option Bool
 | .list l=>aa (!l.isEmpty)
 | .acc _ d l=>opt (ad3 d l) λk=>aa (k !=0)
 | _=>aC
noncomputable def Q3 (H:Hp)(v:V):Option Bool:=match v with
 | .none=>aa aG
 | .bool b=>aa b
 | .int i=>aa (i !=0)
 | .str s=>fV (room s.length) (aa (s.length !=0))
 | .mat=>aa az
 | .ref i=>opt H[i]? λo=>match o with
  | .list l=>aa (!l.isEmpty)
  | .acc _ d l=>opt (ad3 d l) λk=>aa (k !=0)
  | _=>aC
 | _=>aC
noncomputable def tru (H:Hp)(v:V):Out Bool:=opt (Q3 H v) λb=>ok b H
noncomputable def rep {α:Type}(l:List α)(n:Int):List α:=(jN n.toNat l).flatten
noncomputable def few (n:Int):Bool:=decide (0≤n)&&decide (n≤1000000)
noncomputable def a6i (H:Hp)(a b:V):Out V:=match a with
 | .int x=>opt (intOf b) λy=>ok (.int (x+y)) H
 | .str x=>opt (strOf b) λy=>opt (Rv (x.append y)) λv=>ok v H
 | .ref i=>opt (listAt H (.ref i)) λp=>opt (listAt H b) λq=>fV (room (p.2.length+q.2.length)) (alloc H (.list (p.2++q.2)))
 | _=>aC
noncomputable def a6j (H:Hp)(a b:V):Out V:=match a with
 | .int x=>opt (intOf b) λy=>fV (small x&&small y) (ok (.int (x*y)) H)
 | .str x=>opt (intOf b) λn=>fV (few n&&room (x.length*n.toNat)) (ok (.str (toS (rep x.cps.toList n))) H)
 | .ref i=>opt (listAt H (.ref i)) λp=>opt (intOf b) λn=>fV (few n&&room (p.2.length*n.toNat)) (alloc H (.list (rep p.2 n)))
 | _=>aC
noncomputable def K8 (H:Hp)(o:uJ)(a b:V):Out V:=match o with
 | .Add=>a6i H a b
 | .Mult=>a6j H a b
 | .Sub=>opt (intOf a) λx=>opt (intOf b) λy=>ok (.int (x-y)) H
 | .FloorDiv=>opt (intOf a) λx=>opt (intOf b) λy=>fV (decide (0<y)&&decide (y<1073741824)) (ok (.int (x.fdiv y)) H)
 | .Mod=>opt (intOf a) λx=>opt (intOf b) λy=>fV (decide (0<y)) (ok (.int (x.fmod y)) H)
 | _=>aC
noncomputable def Fd:V->Option aB
 | .gl v=>aa v
 | _=>aC
noncomputable def ava:aB->Option String
 | .type t=>aa t
 | _=>aC
noncomputable def aph (a b:V):Option Bool:=opt (Fd a) λu=>opt (ava u) λx=>opt (Fd b) λw=>opt (ava w) λy=>aa (decide (x=y))
noncomputable def isNone:V->Option Bool
 | .none=>aa az
 | .gl _=>aC
 | _=>aa aG
noncomputable def isP (a b:V):Option Bool:=match b with
 | .none=>isNone a
 | b=>aph a b
noncomputable def ltP (a b:V):Option Bool:=opt (intOf a) λx=>opt (intOf b) λy=>aa (decide (x<y))
noncomputable def Q5 (H:Hp)(o:CmpOp)(x y:V):Option Bool:=match o with
 | .Lt=>ltP x y
 | .Gt=>ltP y x
 | .Eq=>eqP H x y
 | .NotEq=>(eqP H x y).map (!·)
 | .Is=>isP x y
 | .IsNot=>(isP x y).map (!·)
 | .NotIn=>SJ H x y
 | _=>aC
noncomputable def Cy (k:Int):p6->Option V
 | .list l=>idx l k
 | .acc _ _ l=>idx l k
 | _=>aC
noncomputable def Z0 (H:Hp)(o i:V):Option V:=opt (intOf i) λk=>fV (small k) (match o with
 | .tup l=>idx l k
 | .str s=>opt (idx s.cps.toList k) λc=>aa (.str ⟨#[c]⟩)
 | .ref j=>opt H[j]? (Cy k)
 | _=>aC)
noncomputable def a6k (H:Hp)(lo hi st:Option Int):p6->Out V
 | .list l=>alloc H (.list (jJ l lo hi st))
 | .acc _ _ l=>alloc H (.list (jJ l lo hi st))
 | _=>aC
noncomputable def Cz (H:Hp)(o a b c:V):Out V:=SM a b c λlo hi st=>match o with
 | .str s=>opt (Rv (au4 s lo hi st)) λv=>ok v H
 | .ref i=>opt H[i]? (a6k H lo hi st)
 | _=>aC
noncomputable def setAt {α:Type}(l:List α)(k:Int)(v:α):Option (List α):=if 0≤k then(if k<l.length then aa (l.set k.toNat v) else aC) else if 0≤k+l.length then aa (l.set (k+l.length).toNat v) else aC
noncomputable def z7:List aM:= ["_headers","_maxlen","_continuation_ws","_continuation_ws_len","_splitchars","_lines","_current_line","_initial_size"]
noncomputable def SN:V->Bool
 | .gl _=>aG
 | _=>az
noncomputable def aD9:p6->Option j8
 | .inst _ d=>aa d
 | .acc _ d _=>aa d
 | _=>aC
noncomputable def Ls (H:Hp)(o:V)(n:aM):Option V:=fV (z7.contains n) (opt (refOf o) λi=>opt H[i]? λx=>opt (aD9 x) λd=>opt (d.lookup n) λv=>fV (SN v) (aa v))
noncomputable def SQ (lk:List Nat)(H:Hp)(i:Nat)(n:aM)(v:V):p6->Out Unit
 | .inst c d=>fV (decide (d.length<100)) (put lk H i (.inst c (upd d n v)) ())
 | .acc c d l=>fV (decide (d.length<100)) (put lk H i (.acc c (upd d n v) l) ())
 | _=>aC
noncomputable def V6 (lk:List Nat)(H:Hp)(o:V)(n:aM)(v:V):Out Unit:=fV (z7.contains n) (opt (refOf o) λi=>opt H[i]? (SQ lk H i n v))
noncomputable def SX (l new:List V)(lo hi:Option Int):List V:=l.take (eE lo hi aC l.length).1.toNat++new++l.drop (max (eE lo hi aC l.length).1 (eE lo hi aC l.length).2.1).toNat
noncomputable def afe (lk:List Nat)(H:Hp)(i:Nat)(new:List V)(lo hi:Option Int):p6->Out Unit
 | .list l=>fV (room (l.length+new.length)) (put lk H i (.list (SX l new lo hi)) ())
 | .acc c d l=>fV (room (l.length+new.length)) (put lk H i (.acc c d (SX l new lo hi)) ())
 | _=>aC
noncomputable def am6 (lk:List Nat)(H:Hp)(o x y v:V):Out Unit:=opt (listAt H v) λnew=>opt (T5 x) λlo=>opt (T5 y) λhi=>opt (refOf o) λi=>opt H[i]? (afe lk H i new.2 lo hi)
noncomputable def aIj (H:Hp):p6->Out V
 | .list l=>ok (.int l.length) H
 | .acc _ d l=>opt (ad3 d l) λk=>ok (.int k) H
 | _=>aC
noncomputable def a6m (H:Hp)(v:V):Out V:=match v with
 | .str s=>fV (room s.length) (ok (.int s.length) H)
 | .tup l=>fV (room l.length) (ok (.int l.length) H)
 | .ref i=>opt H[i]? (aIj H)
 | _=>aC
noncomputable def api:List Int->Option (Int×List Int)
 | n::ns=>aa (n,ns)
 | []=>aC
noncomputable def G4 (H:Hp)(b:String)(v:V):Out V:=
 if b="len" then a6m H v
 else if b="sum" then opt (Z9 H v) λns=>fV (decide (ns.length≤1000)&&ns.all mid) (ok (.int ns.sum) H)
 else if b="max" then opt (Z9 H v) λns=>opt (api ns) λp=>ok (.int (p.2.foldl max p.1)) H
 else if b="min" then opt (Z9 H v) λns=>opt (api ns) λp=>ok (.int (p.2.foldl min p.1)) H
 else if b="sorted" then opt (Z9 H v) λns=>fV (decide (ns.length<64)) (alloc H (.list ((ab3 ns).map .int)))
 else if b="ord" then opt (Sy v) λc=>ok (.int c) H
 else aC
noncomputable def a6n (H:Hp)(v:V):Out V:=match v with
 | .str s=>ok (.str s) H
 | .int i=>fV (decide (0≤i)&&decide (i<10)) (ok (.str (toS [48+i.toNat])) H)
 | .exc _ m=>ok (.str m) H
 | .ref i=>opt (sX H (.ref i)) λp=>opt (pairs p.2.2.2) λps=>opt (Rv (v6 ps)) λv=>ok v H
 | _=>aC
noncomputable def a6o (H:Hp)(v:V):Out V:=match v with
 | .str _=>ok (.gl (.type "str")) H
 | .tup _=>ok (.gl (.type "tuple")) H
 | .ref i=>opt (listAt H (.ref i)) λU=>ok (.gl (.type "list")) H
 | _=>aC
noncomputable def Lw (H:Hp)(t:String)(v:V):Out V:=
 if t="str" then a6n H v
 else if t="int" then opt (Sy v) λc=>fV (decide (48≤c)&&decide (c≤57)) (ok (.int ((c:Int)-48)) H)
 else if t="type" then a6o H v
 else aC
noncomputable def partsOf (s t:aM):List aM:=Builtin.Str.partsBetween s (yx s t 0 s.length (s.length+1)) t.length
noncomputable def one:List V->Option V
 | [v]=>aa v
 | _=>aC
noncomputable def Lx (H:Hp)(s:aM)(n:aM)(vs:List V):Out V:=
 if n=("lower":aM) then fV (vs.isEmpty&&room (iD s).length) (ok (.str (iD s)) H)
 else if n=("isspace":aM) then fV vs.isEmpty (ok (.bool (nU s)) H)
 else opt (one vs) λv=>
  if n=("join":aM) then opt (listAt H v) λl=>opt (ao7 l.2) λxs=>fV (room ((xs.map (·.length)).sum+xs.length*s.length)) (ok (.str (vq s xs)) H)
  else if n=("split":aM) then opt (strOf v) λt=>fV (t.length !=0&&room s.length&&room (partsOf s t).length) (alloc H (.list ((qZ s t).map .str)))
  else if n=("count":aM) then opt (strOf v) λt=>ok (.int (El s t)) H
  else aC
noncomputable def two:List V->Option (V×V)
 | [a,b]=>aa (a,b)
 | _=>aC
noncomputable def Fe (lk:List Nat)(H:Hp)(i:Nat)(l:List V)(n:aM)(vs:List V):Out V:=
 if n=("append":aM) then opt (one vs) λv=>fV (room (l.length+1)) (put lk H i (.list (l++ [v])) .none)
 else if n=("index":aM) then opt (one vs) λv=>opt (strOf v) λx=>opt (ao7 l) λxs=>opt (xs.findIdx? (·==x)) λk=>ok (.int k) H
 else if n=("insert":aM) then opt (two vs) λp=>opt (intOf p.1) λk=>fV (decide (0≤k)&&decide (k≤l.length)&&room (l.length+1)) (put lk H i (.list (l.take k.toNat++p.2::l.drop k.toNat)) .none)
 else aC
noncomputable def Ly (lk:List Nat)(H:Hp)(i:Nat)(c:aW)(d:j8)(l:List V)(n:aM):Out V:=
 if n=("__init__":aM) then put lk H i (.acc c d []) .none
 else if n=("__len__":aM) then ok (.int l.length) H
 else if n=("pop":aM) then opt l.getLast? λx=>put lk H i (.acc c d l.dropLast) x
 else aC
noncomputable def asks {α:Type}(f:aM->Option α):List aM->Option (List (aM×α))
 | []=>aa []
 | x::r=>opt (f x) λv=>opt (asks f r) λq=>aa ((x,v)::q)
noncomputable def given {α:Type}(kn:List aM)(ks:List α)(df:List (aM×α))(x:aM):Option α:=((kn.zip ks).lookup x).or (df.lookup x)
noncomputable def binds (f:Fn)(vs:List V)(kn:List aM)(ks:List V)(H:Hp):Option (j8×Hp):=
 fV (f.shapes.contains (vs.length,kn)&&(ks.length==kn.length)) (
  opt (asks (given kn ks f.dflt) (f.params.drop vs.length++f.eY)) λr=>match f.kwarg with
   | some k=>aa (f.params.zip vs++r++ [(k,.ref H.length)],H++ [.vN])
   | none=>aa (f.params.zip vs++r,H))
noncomputable def Tc (H:Hp)(x y:V):Out V:=opt (Z9 H x) λns=>opt (uf y) λm=>opt (au3 m) λms=>
 fV (ns.all small&&ms.all small&&decide (ns.length≤1000)) (alloc H (.list ((ns.zip ms).map λp=> .int (p.1*p.2))))
noncomputable def Rw (l:List V):List V:=l.zipIdx.map λp=> .tup [.int p.2,p.1]
noncomputable def upV (a b:Int):List V:=(cD (b-a).toNat).map λ(i:Nat)=> .int (a+i)
noncomputable def CG (a b:Int):List V:=(cD (a-b).toNat).map λ(i:Nat)=> .int (a-i)
noncomputable def a6p:List Int->Option (List V)
 | [n]=>aa (upV 0 n)
 | [a,b]=>aa (upV a b)
 | [a,b,c]=>fV (decide (c= -1)) (aa (CG a b))
 | _=>aC
mutual
noncomputable def V.lt (m:Nat):V->Bool
 | .tup l=>V.qO m l
 | .ref i=>decide (i<m)
 | .Ru i=>decide (i<m)
 | _=>az
noncomputable def V.qO (m:Nat):List V->Bool
 | []=>az
 | v::l=>V.lt m v&&V.qO m l
end
noncomputable def Rx (m:Nat):j8->Bool
 | []=>az
 | p::d=>p.2.lt m&&Rx m d
noncomputable def M4 (m:Nat):p6->Bool
 | .list l=>V.qO m l
 | .inst _ d=>Rx m d
 | .acc _ d l=>Rx m d&&V.qO m l
 | .vN=>az
noncomputable def M5 (m:Nat):Hp->Bool
 | []=>az
 | o::H=>M4 m o&&M5 m H
noncomputable def Lz (k:Nat)(r:Out V):Out V:=match r with
 | some (.ok v,H)=>if H.length=k then aa (.ok v,H) else if (v.lt k&&M5 k (H.take k))=az then aa (.ok v,H.take k) else aa (.ok v,H)
 | r=>r
noncomputable def G5 (f:n6->St->v7 Fl):List n6->St->v7 Fl
 | [],σ=>fc .next σ
 | s::r,σ=>N7 (f s σ) λfl σ=>match fl with
  | .next=>G5 f r σ
  | fl=>fc fl σ
noncomputable def U5 (step:V->St->v7 Fl)(fin:St->v7 Fl):List V->St->v7 Fl
 | [],σ=>fin σ
 | v::r,σ=>N7 (step v σ) λfl σ=>match fl with
  | .next | .cont=>U5 step fin r σ
  | .brk=>fc .next σ
  | .ret v=>fc (.ret v) σ
noncomputable def Bg (test:St->v7 Bool)(body:St->v7 Fl):Nat->St->v7 Fl
 | 0,_=>aC
 | n+1,σ=>N7 (test σ) λb σ=>if b then N7 (body σ) λfl σ=>(match fl with
   | .next | .cont=>Bg test body n σ
   | .brk=>fc .next σ
   | .ret v=>fc (.ret v) σ) else fc .next σ
noncomputable def ao9 (step:V->St->v7 Unit):List V->St->v7 Unit
 | [],σ=>fc () σ
 | v::r,σ=>N7 (step v σ) λU σ=>ao9 step r σ
noncomputable def allB (f:j6->Hp->Out Bool):List j6->Hp->Out Bool
 | [],H=>ok az H
 | e::r,H=>jd (f e H) λb H=>if b then allB f r H else ok aG H
noncomputable def a6q (f:j6->Hp->Out V)(o:BoolOp):List j6->Hp->Out V
 | [],_=>aC
 | [e],H=>f e H
 | e::r,H=>jd (f e H) λv H=>jd (tru H v) λt H=>if t==(o== .Or) then ok v H else a6q f o r H
noncomputable def a6r (f:j6->Hp->Out Bool)(o:BoolOp):List j6->Hp->Out Bool
 | [],H=>ok (o== .And) H
 | e::r,H=>jd (f e H) λt H=>if t==(o== .Or) then ok t H else a6r f o r H
noncomputable def Td (H:Hp)(o:uJ)(a b:V):Out V:=match o with
 | .Add=>(match a with
  | .int x=>opt (intOf b) λy=>ok (.int (x+y)) H
  | .str x=>opt (strOf b) λy=>opt (Rv (x.append y)) λv=>ok v H
  | _=>aC)
 | _=>aC
noncomputable def HF (H:Hp)(o i:V):Option V:=opt (listAt H o) λp=>opt (intOf i) λk=>fV (small k) (idx p.2 k)
noncomputable def hnd (lk:List Nat)(h:zL)(m:aM)(σ:St):v7 Fl:=opt (Rv (h.pre.append m)) λt=>opt (σ.loc.lookup h.to) λv=>opt (listAt σ.hp v) λp=>
 fV (room (p.2.length+1)) (N7 (jV σ (put lk σ.hp p.1 (.list (p.2++ [t])) ())) λU σ=>fc .next {σ with loc:=del σ.loc h.x})
noncomputable def avc (f:j6->V->St->v7 Unit):List j6->List V->St->v7 Unit
 | [], [],σ=>fc () σ
 | t::ts,v::vs,σ=>N7 (f t v σ) λU σ=>avc f ts vs σ
 | _,_,_=>aC
structure Rec where
 e:Fm->j6->Hp->Out V
 b:Fm->j6->Hp->Out Bool
 t:List Nat->j6->V->St->v7 Unit
 f:List Nat->aW->List V->List aM->List V->Hp->Out V
 s:List Nat->n6->St->v7 Fl
section
variable (G:Gl)(r:Rec)
noncomputable def Q6 (c:aW)(d:j8)(m:aM):Option aW:=match d.lookup m with
 | some _=>aC
 | none=>G.bN c m
noncomputable def LK (lk:List Nat)(ov iv v:V)(H:Hp):Out Unit:=match iv with
 | .int k=>opt (listAt H ov) λp=>fV (small k) (opt (setAt p.2 k v) λm=>put lk H p.1 (.list m) ())
 | .str s=>opt (ug H ov) λp=>opt (G.bN p.2.1 ("__setitem__":aM)) λf=>jd (r.f lk f [ov,.str s,v] [] [] H) λU H=>ok () H
 | _=>aC
noncomputable def afg (lk:List Nat)(ov iv:V)(H:Hp):Out Unit:=match iv with
 | .int k=>opt (listAt H ov) λp=>fV (decide (0≤k)&&decide (k<p.2.length)) (put lk H p.1 (.list (p.2.eraseIdx k.toNat)) ())
 | .str s=>opt (ug H ov) λp=>opt (G.bN p.2.1 ("__delitem__":aM)) λf=>jd (r.f lk f [ov,.str s] [] [] H) λU H=>ok () H
 | _=>aC
noncomputable def CJ (lk:List Nat)(a g:aW)(vs:List V)(kn:List aM)(ks:List V)(H:Hp):Out V:=
 jd (r.f lk g (.ref H.length::vs) kn ks (H++ [if a=G.fW then .acc a [] [] else .inst a []])) λv H'=>match v with
  | .none=>ok (.ref H.length) H'
  | _=>aC
noncomputable def a6t (lk:List Nat)(v:aB)(vs:List V)(kn:List aM)(ks:List V)(H:Hp):Out V:=match v with
 | .ref a=>(match G.bN a ("__init__":aM) with
  | some g=>CJ G r lk a g vs kn ks H
  | none=>r.f lk a vs kn ks H)
 | .builtin b=>fV kn.isEmpty (opt (one vs) λv=>G4 H b v)
 | .type t=>fV kn.isEmpty (opt (one vs) λv=>Lw H t v)
 | _=>aC
noncomputable def callC (φ:Fm)(k:aF)(H:Hp):Out V:=fV (φ.loc.lookup ("errors":aM)).isSome (opt (G.lam k) λp=>r.e ⟨[],φ.cR.filter λq=>p.1.contains q.1,φ.lk⟩ p.2 H)
noncomputable def HH (φ:Fm)(f:V)(vs:List V)(kn:List aM)(ks:List V)(H:Hp):Out V:=match f with
 | .Ao k=>fV (vs.isEmpty&&kn.isEmpty) (callC G r φ k H)
 | .gl v=>a6t G r φ.lk v vs kn ks H
 | _=>aC
set_option genCtorIdx true in
inductive Ry where
 | fn (f:aW) | str (s:aM) | lst (i:Nat) | acc (i:Nat) | re (bad:Nat->Bool) | vN (i:Nat)
noncomputable def V7:List aM:= ["lower","isspace","join","split","count"]
noncomputable def aa1:List aM:= ["append","index","insert"]
noncomputable def Te (i:Nat)(m:aM):p6->Option Ry
 | .vN=>fV (decide (m=("items":aM))) (aa (.vN i))
 | .inst c d=>(Q6 G c d m).map .fn
 | .acc c d _=>(match d.lookup m with
  | some _=>aC
  | none=>match G.bN c m with
   | some f=>aa (.fn f)
   | none=>fV (decide (m=("append":aM))) (aa (.acc i)))
 | .list _=>fV (aa1.contains m) (aa (.lst i))
noncomputable def Rz (H:Hp)(ov:V)(m:aM):Option Ry:=match ov with
 | .str s=>fV (V7.contains m) (aa (.str s))
 | .gl (.ref a)=>fV (decide (m=("search":aM))) (opt (G.re a) λbad=>aa (.re bad))
 | .ref i=>opt H[i]? (Te G i m)
 | _=>aC
noncomputable def U8 (lk:List Nat)(tg:Ry)(ov:V)(m:aM)(vs:List V)(kn:List aM)(ks:List V)(H:Hp):Out V:=match tg with
 | .fn f=>r.f lk f (ov::vs) kn ks H
 | .str s=>fV kn.isEmpty (Lx H s m vs)
 | .re bad=>fV kn.isEmpty (opt (one vs) λv=>opt (strOf v) λs=>fV (room s.length) (ok (if s.cps.toList.any bad then .mat else .none) H))
 | .vN i=>fV (vs.isEmpty&&kn.isEmpty) (opt H[i]? λo=>match o with
  | .vN=>ok (.Ru i) H
  | _=>aC)
 | .acc _=>fV kn.isEmpty (opt (one vs) λv=>opt (sX H ov) λp=>fV (room (p.2.2.2.length+1)) (put lk H p.1 (.acc p.2.1 p.2.2.1 (p.2.2.2++ [v])) .none))
 | .lst _=>fV kn.isEmpty (opt (listAt H ov) λp=>Fe lk H p.1 p.2 m vs)
noncomputable def avd (H:Hp)(ov:V)(m:aM):Option aW:=opt (sX H ov) λp=>Q6 G p.2.1 p.2.2.1 m
noncomputable def yl (φ:Fm)(it:j6)(H:Hp):Out (List V×List Nat):=match it with
 | .xU l=>jd (R9 (r.e φ) l H) λvs H=>opt (au3 vs) λns=>fV (ns.all λi=>small (4*i)) (opt (a6p ns) λl=>ok (l, []) H)
 | .Cg e=>jd (r.e φ e H) λv H=>match v with
  | .Ru _=>aC
  | v=>opt (ao8 H v) λl=>ok (Rw l,aj3 v) H
 | e=>jd (r.e φ e H) λv H=>opt (ao8 H v) λl=>ok (l,aj3 v) H
noncomputable def CK (lk:List Nat)(i:Nat)(v:V)(H:Hp):Out Unit:=opt (listAt H (.ref i)) λp=>fV (room (p.2.length+1)) (put lk H p.1 (.list (p.2++ [v])) ())
noncomputable def turn (lk:List Nat)(i:Nat)(elt t:j6)(ifs:List j6)(v:V)(σ:St):v7 Unit:=
 N7 (r.t lk t v σ) λU σ=>N7 (jV σ (allB (r.b (σ.fm lk)) ifs σ.hp)) λgood σ=>if good then jV σ (jd (r.e (σ.fm lk) elt σ.hp) λv H=>CK lk i v H) else fc () σ
noncomputable def apk (φ:Fm)(elt t it:j6)(ifs:List j6)(xT:List aM)(H:Hp):Out V:=jd (yl r φ it H) λq H=>
 match ao9 (turn r (q.2++φ.lk) H.length elt t ifs) q.1 ⟨[],φ.cR.filter λp=>xT.contains p.1,H++ [.list []]⟩ with
 | some (.ok _,σ)=>ok (.ref H.length) σ.hp
 | _=>aC
noncomputable def a6u (φ:Fm)(e:j6)(H:Hp):Out V:=match e with
 | .cst v=>ok v H
 | .loc x=>opt (φ.loc.lookup x) λv=>ok v H
 | .cR x=>opt (φ.cR.lookup x) λv=>ok v H
 | .gn x=>opt (G.glob x) λv=>ok v H
 | .xR o l=>a6q (r.e φ) o l H
 | .not a=>jd (r.e φ a H) λv H=>jd (tru H v) λb H=>ok (.bool !b) H
 | .neg a=>jd (r.e φ a H) λv H=>opt (intOf v) λi=>ok (.int (-i)) H
 | .ite t a b=>jd (r.b φ t H) λc H=>if c then r.e φ a H else r.e φ b H
 | .tup l=>jd (R9 (r.e φ) l H) λvs H=>ok (.tup vs) H
 | .lst l=>jd (R9 (r.e φ) l H) λvs H=>alloc H (.list vs)
 | .bin o a b=>jd (r.e φ a H) λx H=>jd (r.e φ b H) λy H=>K8 H o x y
 | .cmp o a b=>jd (r.e φ a H) λx H=>jd (r.e φ b H) λy H=>opt (Q5 H o x y) λc=>ok (.bool c) H
 | .call f args kn Lq=>jd (r.e φ f H) λfv H=>jd (R9 (r.e φ) args H) λvs H=>jd (R9 (r.e φ) Lq H) λks H=>HH G r φ fv vs kn ks H
 | .bN o m args kn Lq=>jd (r.e φ o H) λov H=>opt (Rz G H ov m) λtg=>jd (R9 (r.e φ) args H) λvs H=>jd (R9 (r.e φ) Lq H) λks H=>U8 r φ.lk tg ov m vs kn ks H
 | .star o m a=>jd (r.e φ o H) λov H=>opt (avd G H ov m) λf=>jd (r.e φ a H) λav H=>opt (uf av) λvs=>fV (decide (vs.length≤1000)) (r.f φ.lk f (ov::vs) [] [] H)
 | .sup m=>opt (φ.loc.lookup ("self":aM)) λv=>opt (sX H v) λp=>Ly φ.lk H p.1 p.2.1 p.2.2.1 p.2.2.2 m
 | .attr o m=>jd (r.e φ o H) λov H=>opt (Ls H ov m) λv=>ok v H
 | .sub o i=>jd (r.e φ o H) λov H=>jd (r.e φ i H) λiv H=>opt (Z0 H ov iv) λv=>ok v H
 | .vM o a b c=>jd (r.e φ o H) λov H=>jd (r.e φ a H) λx H=>jd (r.e φ b H) λy H=>jd (r.e φ c H) λz H=>Cz H ov x y z
 | .comp elt t it ifs xT=>apk r φ elt t it ifs xT H
 | .dot a b=>jd (r.e φ a H) λx H=>jd (r.e φ b H) λy H=>Tc H x y
 | .Sx o a b=>jd (r.e φ o H) λv H=>opt (strOf v) λs=>fV (decide (a≠b)&&room (s.length+(s.length+1)*b.length)) (ok (.str (zB s a b)) H)
 | .lam k=>fV (φ.loc.lookup ("errors":aM)).isSome (ok (.Ao k) H)
 | _=>aC
noncomputable def a6v (φ:Fm)(e:j6)(H:Hp):Out Bool:=match e with
 | .not a=>jd (r.b φ a H) λb H=>ok (!b) H
 | .xR o l=>a6r (r.b φ) o l H
 | .ite t a b=>jd (r.b φ t H) λc H=>if c then r.b φ a H else r.b φ b H
 | e=>jd (r.e φ e H) λv H=>tru H v
noncomputable def stepT (lk:List Nat)(t:j6)(v:V)(σ:St):v7 Unit:=match t with
 | .loc x=>fc () {σ with loc:=upd σ.loc x v}
 | .cR x=>fc () {σ with cR:=upd σ.cR x v}
 | .attr o m=>jV σ (jd (r.e (σ.fm lk) o σ.hp) λov H=>V6 lk H ov m v)
 | .sub o i=>jV σ (jd (r.e (σ.fm lk) o σ.hp) λov H=>jd (r.e (σ.fm lk) i H) λiv H=>LK G r lk ov iv v H)
 | .vM o a b _=>jV σ (jd (r.e (σ.fm lk) o σ.hp) λov H=>jd (r.e (σ.fm lk) a H) λx H=>jd (r.e (σ.fm lk) b H) λy H=>am6 lk H ov x y v)
 | .tup ts=>opt (uf v) λl=>fV (decide (ts.length=l.length)) (avc (r.t lk) ts l σ)
 | _=>aC
noncomputable def HJ (r:v7 Fl):Out V:=match r with
 | some (.ok (.ret v),σ)=>ok v σ.hp
 | some (.ok .next,σ)=>ok .none σ.hp
 | some (.ok _,_)=>aC
 | some (.exc c m,σ)=>aa (.exc c m,σ.hp)
 | none=>aC
noncomputable def a6w (lk:List Nat)(a:aW)(vs:List V)(kn:List aM)(ks:List V)(H:Hp):Out V:=opt (G.fn a) λf=>opt (binds f vs kn ks H) λp=>
 Lz H.length (HJ (G5 (r.s lk) f.body ⟨p.1.filter λq=> !f.cells.contains q.1,p.1.filter λq=>f.cells.contains q.1,p.2⟩))
noncomputable def yF (c:aM):Option String:=if c=("ValueError":aM) then aa "ValueError" else if c=("TypeError":aM) then aa "TypeError" else aC
noncomputable def Aq (lk:List Nat)(s:n6)(σ:St):v7 Fl:=match s with
 | .expr e=>N7 (jV σ (r.e (σ.fm lk) e σ.hp)) λU σ=>fc .next σ
 | .ret e=>N7 (jV σ (r.e (σ.fm lk) e σ.hp)) λv σ=>fc (.ret v) σ
 | .asg t e=>N7 (jV σ (r.e (σ.fm lk) e σ.hp)) λv σ=>N7 (r.t lk t v σ) λU σ=>fc .next σ
 | .Lr x o e=>opt (σ.cR.lookup x) λold=>N7 (jV σ (jd (r.e (σ.fm lk) e σ.hp) λv H=>Td H o old v)) λv σ=>fc .next {σ with cR:=upd σ.cR x v}
 | .Bf a i o e=>N7 (jV σ (jd (r.e (σ.fm lk) a σ.hp) λov H=>jd (r.e (σ.fm lk) i H) λiv H=>opt (HF H ov iv) λold=>jd (r.e (σ.fm lk) e H) λv H=>jd (Td H o old v) λw H=>LK G r lk ov iv w H)) λU σ=>fc .next σ
 | .del o i=>N7 (jV σ (jd (r.e (σ.fm lk) o σ.hp) λov H=>jd (r.e (σ.fm lk) i H) λiv H=>afg G r lk ov iv H)) λU σ=>fc .next σ
 | .ite t a b=>N7 (jV σ (r.b (σ.fm lk) t σ.hp)) λc σ=>if c then G5 (r.s lk) a σ else G5 (r.s lk) b σ
 | .whl t b=>Bg (λσ=>jV σ (r.b (σ.fm lk) t σ.hp)) (G5 (r.s lk) b) 64 σ
 | .oU t it b o=>N7 (jV σ (yl r (σ.fm lk) it σ.hp)) λq σ=>U5 (λv σ=>N7 (r.t (q.2++lk) t v σ) λU σ=>G5 (r.s (q.2++lk)) b σ) (G5 (r.s lk) o) q.1 σ
 | .raise c m=>aa (.exc c m,σ)
 | .afc b hs=>(match G5 (r.s lk) b σ with
  | some (.ok f,σ)=>fc f σ
  | some (.exc c m,σ)=>opt (hs.find? λh=>h.cls=oX c) λh=>hnd lk h m σ
  | none=>aC)
 | .pass=>fc .next σ
 | .brk=>fc .brk σ
 | .cont=>fc .cont σ
 | .bad=>aC
noncomputable def u9:Nat->Rec
 | 0=>⟨λU U U=>aC,λU U U=>aC,λU U U U=>aC,λU U U U U U=>aC,λU U U=>aC⟩
 | n+1=>⟨a6u G (u9 n),a6v (u9 n),stepT G (u9 n),a6w G (u9 n),Aq G (u9 n)⟩
end
noncomputable abbrev dY (G:Gl)(n:Nat):=(u9 G n).e
noncomputable abbrev vG (G:Gl)(n:Nat):=(u9 G n).b
noncomputable abbrev K5 (G:Gl)(n:Nat):=(u9 G n).t
noncomputable abbrev p8 (G:Gl)(n:Nat):=(u9 G n).f
noncomputable abbrev iY (G:Gl)(n:Nat):=(u9 G n).s
end Mine.Internal
end
section
namespace Mine.Internal
open PySem PySem.W PySem.Calls PyProof.Rows
noncomputable abbrev pw:nq:=PySem.Challenge.pw_uy0025_02
structure FT where
 a:aW
 i:Nat
 j:Option Nat
 code:aW
 RB:aB
 HN:aB
 cc:Bool
 q:aM
 ob:List (aW×oH)
 kt:Nat
 dv:List (aM×aB)
 shapes:List (Nat×List aM)
 P:List aM
 W:List aM
 kx:Option aM
 cl:List aM
structure HR where
 params:rY
 body:FuncBody
 scope:jB
 globals:aW
 blt:aW
 closure:List (aM×aW)
 code:aB
 qual:aM
 RB:aB
 HN:aB
noncomputable def dOf (fd:jC):HR:=⟨fd.params,fd.body,fd.scope,fd.globals,fd.builtins,fd.closure,fd.code,fd.qualname,fd.defaults,fd.kwdefaults⟩
noncomputable def apl:∀J:Data,Option jC
 | .func fd=>aa fd
 | _=>aC
noncomputable def apm:∀J:Data,Option (Array aB)
 | .fields vs=>aa vs
 | _=>aC
noncomputable def apn:∀J:Data,Option (iR×Nat)
 | .dict ⟨[e]⟩ n=>aa (e,n)
 | _=>aC
noncomputable def Tf:aB->Option aM
 | .str q _=>aa q
 | _=>aC
noncomputable def fnD (h:bL)(a:aW):Option HR:=opt (h.get? a) λo=>opt (apl o.data) λfd=>aa (dOf fd)
noncomputable def HS (hs:Int)(kt:Nat):oH:={cls:= .type "dict",data:= .dict #[⟨hs,.str "key" kt,.none⟩] 1}
noncomputable def kdN (h:bL):aB->Option (Option oH)
 | .ref d=>aa (opt (h.get? d) λo=>opt (apn o.data) λq=>aa {o with data:= .dict #[⟨0,q.1.key,q.1.val⟩] q.2})
 | _=>aC
noncomputable def Tg (t:FT):Option (Option oH):=match t.HN with
 | .ref _=>aa (aa (HS 0 t.kt))
 | _=>aC
noncomputable def Fg (h:bL)(c:aW):Option (aM×aM):=opt (h.get? c) λo=>opt (apm o.data) λvs=>opt (vs[1]?:Option aB) λx=>opt (Tf x) λq=>opt (vs[2]?:Option aB) λy=>opt (Tf y) λf=>aa (q,f)
noncomputable def stD:∀J:pM,Option (rY×List pM×jB)
 | .FunctionDef _ a b _ _ _ sc _ _ _=>aa (a,b,sc)
 | _=>aC
noncomputable def stB:∀J:pM,List pM
 | .ClassDef _ _ _ b .. =>b
 | _=> []
noncomputable def aIm (i:Nat):Option Nat->Option pM
 | none=>pw.main.body[i]?
 | some j=>(pw.main.body[i]?).bind λs=>(stB s)[j]?
noncomputable def defAt (t:FT):Option (rY×List pM×jB):=(aIm t.i t.j).bind stD
noncomputable def Th (t:FT):Option HR:=(defAt t).map λd=>⟨d.1,.stmts d.2.1,d.2.2,bW,dD,if t.cc then[("__class__",146)] else[],.ref t.code,t.q,t.RB,t.HN⟩
noncomputable def ft0:FT:=⟨47,3,aC,46,.ref 39,.ref 40,aG,"insort_right", [(39,{cls:= .type "tuple",data:= .seq #[.int 0 291,.none]})],292, [("lo",.int 0 291),("hi",.none),("key",.none)], [(2, []),(3, [])], ["a","x","lo","hi"], ["key"],aC, []⟩
noncomputable def ft1:FT:=⟨56,4,aC,55,.ref 48,.ref 49,aG,"bisect_right", [(48,{cls:= .type "tuple",data:= .seq #[.int 0 304,.none]})],305, [("lo",.int 0 304),("hi",.none),("key",.none)], [(2, []),(3, []),(4, [])], ["a","x","lo","hi"], ["key"],aC, []⟩
noncomputable def ft2:FT:=⟨65,5,aC,64,.ref 57,.ref 58,aG,"bisect_left", [(57,{cls:= .type "tuple",data:= .seq #[.int 0 318,.none]})],319, [("lo",.int 0 318),("hi",.none),("key",.none)], [(2, [])], ["a","x","lo","hi"], ["key"],aC, []⟩
noncomputable def ft3:FT:=⟨79,9,aa 0,78,.none,.none,aG,"_ValueFormatter.__init__", [],0, [], [(5, [])], ["self","headerlen","maxlen","continuation_ws","splitchars"], [],aC, []⟩
noncomputable def ft4:FT:=⟨86,9,aa 1,85,.none,.none,aG,"_ValueFormatter._str", [],0, [], [(2, [])], ["self","linesep"], [],aC, []⟩
noncomputable def ft5:FT:=⟨100,9,aa 3,99,.none,.none,aG,"_ValueFormatter.newline", [],0, [], [(1, [])], ["self"], [],aC, []⟩
noncomputable def ft6:FT:=⟨135,9,aa 8,134,.none,.none,aG,"_ValueFormatter._append_chunk", [],0, [], [(3, [])], ["self","fws","string"], [],aC, []⟩
noncomputable def ft7:FT:=⟨159,10,aa 0,158,.ref 151,.none,az,"_Accumulator.__init__", [(151,{cls:= .type "tuple",data:= .seq #[.int 0 458]})],0, [("initial_size",.int 0 458)], [(2, [])], ["self","initial_size"], [],aC, []⟩
noncomputable def ft8:FT:=⟨166,10,aa 1,165,.none,.none,aG,"_Accumulator.push", [],0, [], [(3, [])], ["self","fws","string"], [],aC, []⟩
noncomputable def ft9:FT:=⟨174,10,aa 2,173,.ref 167,.none,aG,"_Accumulator.pop_from", [(167,{cls:= .type "tuple",data:= .seq #[.int 0 477]})],0, [("i",.int 0 477)], [(2, [])], ["self","i"], [],aC, []⟩
noncomputable def avf:FT:=⟨182,10,aa 3,181,.none,.none,az,"_Accumulator.pop", [],0, [], [(1, [])], ["self"], [],aC, []⟩
noncomputable def Fi:FT:=⟨189,10,aa 4,188,.none,.none,aG,"_Accumulator.__len__", [],0, [], [(1, [])], ["self"], [],aC, []⟩
noncomputable def Fj:FT:=⟨196,10,aa 5,195,.none,.none,aG,"_Accumulator.__str__", [],0, [], [(1, [])], ["self"], [],aC, []⟩
noncomputable def Ti:FT:=⟨204,10,aa 6,203,.ref 197,.none,aG,"_Accumulator.reset", [(197,{cls:= .type "tuple",data:= .seq #[.none]})],0, [("startval",.none)], [(1, []),(2, [])], ["self","startval"], [],aC, []⟩
noncomputable def avh:FT:=⟨211,10,aa 7,210,.none,.none,aG,"_Accumulator.is_onlyws", [],0, [], [(1, [])], ["self"], [],aC, []⟩
noncomputable def avi:FT:=⟨219,10,aa 8,218,.none,.none,az,"_Accumulator.part_count", [],0, [], [(1, [])], ["self"], [],aC, []⟩
noncomputable def Tj:FT:=⟨264,16,aa 0,263,.ref 257,.none,aG,"Headers.__init__", [(257,{cls:= .type "tuple",data:= .seq #[.none]})],0, [("headers",.none)], [(1, []),(2, [])], ["self","headers"], [],aC, []⟩
noncomputable def avj:FT:=⟨271,16,aa 1,270,.none,.none,aG,"Headers._convert_string_type", [],0, [], [(2, ["name"])], ["self","value"], ["name"],aC, []⟩
noncomputable def avk:FT:=⟨285,16,aa 3,284,.none,.none,aG,"Headers.__setitem__", [],0, [], [(3, [])], ["self","name","val"], [],aC, []⟩
noncomputable def avl:FT:=⟨290,16,aa 4,289,.none,.none,aG,"Headers.__delitem__", [],0, [], [(2, [])], ["self","name"], [],aC, ["name"]⟩
noncomputable def avm:FT:=⟨309,16,aa 7,308,.none,.none,aG,"Headers.get_all", [],0, [], [(2, [])], ["self","name"], [],aC, ["name"]⟩
noncomputable def avn:FT:=⟨317,16,aa 8,316,.ref 310,.none,aG,"Headers.get", [(310,{cls:= .type "tuple",data:= .seq #[.none]})],0, [("default",.none)], [(2, [])], ["self","name","default"], [],aC, []⟩
noncomputable def avo:FT:=⟨334,16,aa 11,333,.none,.none,aG,"Headers.items", [],0, [], [(1, [])], ["self"], [],aC, []⟩
noncomputable def avp:FT:=⟨367,16,aa 16,366,.none,.none,aG,"Headers.add_header", [],0, [], [(3, [])], ["self","_name","_value"], [],aa "_params", []⟩
noncomputable def avq:FT:=⟨379,18,aC,378,.none,.none,aG,"_law_tree", [],0, [], [(0, [])], [], [],aC, []⟩
noncomputable def avr:FT:=⟨386,19,aC,385,.none,.none,aG,"_law_word", [],0, [], [(3, [])], ["book","nodes","name"], [],aC, []⟩
noncomputable def avs:FT:=⟨393,20,aC,392,.none,.none,aG,"_law_letter", [],0, [], [(2, [])], ["nodes","pile"], [],aC, []⟩
noncomputable def avt:FT:=⟨400,21,aC,399,.none,.none,aG,"_law_grow", [],0, [], [(4, [])], ["book","nodes","weights","name"], [],aC, []⟩
noncomputable def avu:FT:=⟨407,22,aC,406,.none,.none,aG,"_law_rank", [],0, [], [(2, [])], ["ranked","count"], [],aC, []⟩
noncomputable def avv:FT:=⟨412,23,aC,411,.none,.none,aG,"_law_follow", [],0, [], [(4, [])], ["placed","knots","loads","name"], [],aC, ["knots","loads","seat","moved"]⟩
noncomputable def avw:FT:=⟨417,24,aC,416,.none,.none,aG,"_law_sound", [],0, [], [(3, [])], ["nodes","ranked","sent"], [],aC, ["sent","deep","counts","rising"]⟩
noncomputable def avx:FT:=⟨424,25,aC,423,.none,.none,aG,"_law_fold", [],0, [], [(3, [])], ["words","head","width"], [],aC, []⟩
noncomputable def vO:List FT:= [ft0,ft1,ft2,ft3,ft4,ft5,ft6,ft7,ft8,ft9,avf,Fi,Fj,Ti,avh,avi,Tj,avj,avk,avl,avm,avn,avo,avp,avq,avr,avs,avt,avu,avv,avw,avx]
noncomputable def N8:FT:=⟨429,26,aC,428,.none,.none,aG,"law", [],0, [], [(1, [])], ["script"], [],aC, ["script","sent","ranked"]⟩
noncomputable def yG:List (aW×aM×aW):= [(138,"__init__",79),(138,"_str",86),(138,"newline",100),(138,"_append_chunk",135),(222,"__init__",159),(222,"push",166),(222,"pop_from",174),(222,"pop",182),(222,"reset",204),(222,"is_onlyws",211),(222,"part_count",219),(370,"__init__",264),(370,"_convert_string_type",271),(370,"__setitem__",285),(370,"__delitem__",290),(370,"get_all",309),(370,"get",317),(370,"items",334),(370,"add_header",367)]
noncomputable def LQ:List aW:= [184,191,426]
noncomputable def kA:List aW:= [0,2,3,137,138,221,222,369,370,79,86,100,135,159,166,174,182,189,196,204,211,219,264,271,285,290,309,317,334,367]
noncomputable def afh (h:bL)(l:List aW):aof:=l.filterMap λa=>(h.get? a).map λo=>(a,o)
theorem HW (h:bL):∀l:List aW,(afh h l).In h:=by
 intro zz
 induction zz with
 | nil=>
  intro _ _ e;exact iu e
 | cons a l ih=>
  intro b o e;unfold afh at e;replace e:=List.filterMap_cons▸e;cases ha:h.get? a with
  | none=>rw[ha]at e;exact ih b o e
  | some oa=>
   replace e:=ha▸e;have e:((a,oa)::afh h l).lookup b=aa o:=e;rw[yz]at e;cases q:b==a with
   | true=>replace e:=q▸e;cases e;refine aD (fG q) ?_;exact ha
   | false=>rw[q]at e;exact ih b o e
noncomputable def Tn (K:aof)(x:aM):Option aB:=match acz K bW x with
 | some (aa u)=>aa u
 | some aC=>(match acz K dD x with
  | some (aa u)=>aa u
  | _=>aC)
 | none=>aC
noncomputable def afi:List (aM×aB):= [("range",.type "range"),("enumerate",.type "enumerate"),("zip",.type "zip"),("str",.type "str"),("super",.type "super"),("ValueError",.type "ValueError"),("TypeError",.type "TypeError"),("sum",.builtin "sum"),("len",.builtin "len"),("int",.type "int"),("list",.type "list"),("type",.type "type"),("ord",.builtin "ord"),("max",.builtin "max"),("min",.builtin "min"),("sorted",.builtin "sorted"),("bisect_right",.ref 56),("insort_right",.ref 47),("bisect_left",.ref 65),("_ValueFormatter",.ref 138),("_Accumulator",.ref 222),("Headers",.ref 370),("_name_disallowed_re",.ref 236),("_value_disallowed_re",.ref 241),("_law_tree",.ref 379),("_law_word",.ref 386),("_law_letter",.ref 393),("_law_grow",.ref 400),("_law_rank",.ref 407),("_law_follow",.ref 412),("_law_sound",.ref 417),("_law_fold",.ref 424)]
noncomputable def LR:List aW:= [138,222,370]
noncomputable def avy:List (aW×aM×Option aB):= [(222,"__getitem__",aa (.builtin "list.__getitem__")),(222,"__setitem__",aa (.builtin "list.__setitem__")),(222,"append",aa (.builtin "list.append")),(222,"__getattribute__",aa (.builtin "list.__getattribute__")),(222,"__getattr__",aC),(222,"__iter__",aa (.builtin "list.__iter__")),(138,"__getattribute__",aa (.builtin "object.__getattribute__")),(370,"__getattribute__",aa (.builtin "object.__getattribute__")),(138,"__getattr__",aC),(370,"__getattr__",aC),(138,"__setattr__",aa (.builtin "object.__setattr__")),(222,"__setattr__",aa (.builtin "object.__setattr__")),(370,"__setattr__",aa (.builtin "object.__setattr__")),(222,"__bool__",aC),(222,"__len__",aa (.ref 189)),(222,"__str__",aa (.ref 196))]
noncomputable def afj:List (aW×oH):= [
 (235,{cls:= .type "tuple",data:= .seq #[.int 14 0,.int 10 0,.int 4 0,.int 1 0,.int 1 0,.int 22 0,.int 0 0,.int 31 0,.int 16 0,.int 127 0,.int 0 0,.int 13 0,.int 7 0,.int 22 0,.int 0 0,.int 31 0,.int 16 0,.int 127 0,.int 0 0,.int 1 0] 0}),(236,{cls:= .type "re.Pattern",data:= .fields #[.str "[\\x00-\\x1F\\x7F]" 579,.int 32 602,.int 0 0,.none,.none,.ref 235,.int 0 0]}),(240,{cls:= .type "tuple",data:= .seq #[.int 14 0,.int 14 0,.int 4 0,.int 1 0,.int 1 0,.int 9 0,.int 4294966783 0,.int 0 0,.int 0 0,.int 2147483648 0,.int 0 0,.int 0 0,.int 0 0,.int 0 0,.int 0 0,.int 13 0,.int 11 0,.int 9 0,.int 4294966783 0,.int 0 0,.int 0 0,.int 2147483648 0,.int 0 0,.int 0 0,.int 0 0,.int 0 0,.int 0 0,.int 1 0] 0}),(241,{cls:= .type "re.Pattern",data:= .fields #[.str "[\\x00-\\x08\\x0A-\\x1F\\x7F]" 605,.int 32 636,.int 0 0,.none,.none,.ref 240,.int 0 0]}),(4,{cls:= .type "module",dict:=aa 0,data:= .plain}),(188,{cls:= .type "code",data:= .fields #[.str "__len__" 495,.str "_Accumulator.__len__" 496,.str "/claim/cut.py" 497,.int 140 0,.int 1 0,.int 0 0,.int 0 0,.int 3 0,.ref 183,.bool az,.int 276 0,.ref 184,.none,.ref 185,.ref 186,.ref 187,.int 499 0,.int 140 0,.str "/claim/cut.py" 500]}),(195,{cls:= .type "code",data:= .fields #[.str "__str__" 502,.str "_Accumulator.__str__" 503,.str "/claim/cut.py" 504,.int 143 0,.int 1 0,.int 0 0,.int 0 0,.int 3 0,.ref 190,.bool az,.int 276 0,.ref 191,.none,.ref 192,.ref 193,.ref 194,.int 506 0,.int 143 0,.str "/claim/cut.py" 507]}),(428,{cls:= .type "code",data:= .fields #[.str "law" 881,.str "law" 882,.str "/claim/cut.py" 883,.int 308 0,.int 1 0,.int 0 0,.int 0 0,.int 3 0,.ref 425,.bool az,.int 276 0,.ref 426,.none,.none,.none,.ref 427,.int 884 0,.int 308 0,.str "/claim/cut.py" 885]}),(146,{cls:= .type "cell",data:= .cell (aa (.ref 222))})]
structure ym where
 fns:List (Option HR)
 cds:List (Option (aM×aM))
 tb:List (Option oH)
 objs:List (Option oH)
 dob:List (List (Option oH))
 kd:List (Option (Option oH))
 cls:List (Option (aM×List aB×Bool))
 Tp:List (Option aB)
 yo:List (Option (Option aB))
 mth:List (Option (Option aB))
 Ma:List (Bool×Option aB×Option (Option aB)×Option Bool)
 attr:List (List (Option (Option aB)))
 gl:List (Option aB)
 ns:List (Option (Option aB))
 bs:List Bool
 one:Bool
 bm:Option aB
 em:Option aM
 lw:Option aB
 nl:Bool
noncomputable def aIv:aB->Option aM
 | .str s _=>aa s
 | _=>aC
noncomputable def avz:List aW:= [19,227,232,237]
noncomputable def isL:aB->Bool
 | .type t=>t=="list"
 | _=>aG
noncomputable def noL:Nat->List oH->Bool
 | _, []=>az
 | n,o::r=>(!isL o.cls || avz.contains n)&&noL (n+1) r
@[irreducible] noncomputable def base (h:bL):bL:=fK h (LQ++avz)
noncomputable def lQ (h:bL):aof:=afh (base h) kA
noncomputable def Tq (h:bL):ym where
 fns:=(N8::vO).map λt=>fnD (base h) t.a
 cds:=(N8::vO).map λt=>Fg (base h) t.code
 tb:=LQ.map h.get?
 objs:=afj.map λp=>(base h).get? p.1
 dob:=(N8::vO).map λt=>t.ob.map λp=>(base h).get? p.1
 kd:=(N8::vO).map λt=>kdN (base h) t.HN
 cls:=LR.map λc=>(Hi (lQ h) c).map λcd=>(cd.qualname,cd.mro,cd.hasDict)
 Tp:=LR.map λc=>((lQ h).lookup c).map (·.cls)
 yo:=avy.map λq=>gb (lQ h) (.ref q.1) q.2.1
 mth:=yG.map λq=>gb (lQ h) (.ref q.1) q.2.1
 Ma:=(yG.map (λq:aW×aM×aW=>q.2.2)++ [189,196]).map λ(g:aW)=>(fnIn (lQ h) g,uv (lQ h) (.ref g),xH (lQ h) (.ref g) "__get__",ada (lQ h) (.ref g))
 attr:=LR.map λc=>z7.map λn=>gb (lQ h) (.ref c) n
 gl:=afi.map λp=>Tn (lQ h) p.1
 ns:= [acz (lQ h) aog "thirdparty.any"]
 bs:= [RX (lQ h) 222 (.type "list")==aa az,Hj (lQ h) 138,Hj (lQ h) 222,Hj (lQ h) 370,zX (lQ h) 138,ao6 (lQ h) 222,zX (lQ h) 370,(base h).isNs bW,(base h).noLimitOk,Hk (lQ h) (.ref 138),Hk (lQ h) (.ref 222),Hk (lQ h) (.ref 370)]
 one:=((base h).get? sysModules).isSome
 bm:=(base h).nsMap bW "__builtins__"
 em:=(Tn (lQ h) "EMPTYSTRING").bind aIv
 lw:=(base h).nsMap bW "law"
 nl:=noL 0 h.objs.toList
noncomputable def Fo:ym where
 fns:=(N8::vO).map Th
 cds:=(N8::vO).map λt=>aa (t.q,pw.main.file)
 tb:=LQ.map λU=>aa (nO #[])
 objs:=afj.map λp=>aa p.2
 dob:=(N8::vO).map λt=>t.ob.map λp=>aa p.2
 kd:=(N8::vO).map Tg
 cls:= [aa ("_ValueFormatter", [.ref 138,.type "object"],az),aa ("_Accumulator", [.ref 222,.type "list",.type "object"],az),aa ("Headers", [.ref 370,.type "object"],az)]
 Tp:=LR.map λU=>aa (.type "type")
 yo:=avy.map λq=>aa q.2.2
 mth:=yG.map λq=>aa (aa (.ref q.2.2))
 Ma:=(yG.map (λq:aW×aM×aW=>q.2.2)++ [189,196]).map λ(g:aW)=>(az,aa (.type "function"),aa (aa (.builtin "function.__get__")),aa aG)
 attr:=LR.map λc=>z7.map λn=>aa aC
 gl:=afi.map λp=>aa p.2
 ns:= [aa aC]
 bs:= [az,az,az,az,az,az,az,az,az,az,az,az]
 one:=az
 bm:=aa (.ref 4)
 em:=aa ""
 lw:=aa (.ref 429)
 nl:=az
section
section
variable {tb:String->Option eF}{p:nq}{w:uK}{CN:Nat}{ann:Option aB}
noncomputable def au5 (tb:String->Option eF)(p:nq)(w:uK)(CN:Nat)(ann:Option aB):Nat->∀J:Em,∀J:Thread,Option Em
 | 0,_,_=>aC
 | n+1,s,t=>match through t with
  | true=>aa s
  | false=>match stepOk CN ann t with
   | false=>aC
   | true=>match zY (denote tb) p w s t with
    | some r=>au5 tb p w CN ann n r.1 r.2
    | none=>aC
theorem aG0:∀{n:Nat}{s s':Em}{t:Thread},∀J:au5 tb p w CN ann n s t=aa s',topRun tb p w CN ann n s.abs t=aa s'.abs
 | 0,_,_,_,h=>nomatch h
 | n+1,s,s',t,h=>by
  replace h:(match through t with | true=>aa s | false=>match stepOk CN ann t with | false=>aC | true=>match zY (denote tb) p w s t with | some r=>au5 tb p w CN ann n r.1 r.2 | none=>aC)=aa s':=h;unfold topRun;cases ht:through t with
  | true=>rw[ht]at h;cases h;rfl
  | false=>
   rw[ht]at h;cases hk:stepOk CN ann t with
   | false=>rw[hk]at h;cases h
   | true=>
    rw[hk]at h;cases hs:zY (denote tb) p w s t with
    | none=>rw[hs]at h;cases h
    | some r=>rw[hs]at h;rw[stepT_spec (s':=r.1) (t':=r.2) hs];exact aG0 h
noncomputable def ofL:List oH->∀J:BT,Nat->Option (BT×Nat)
 | [],t,n=>aa (t,n)
 | o::r,t,n=>match ((t.ins n o).get n).isSome with
  | true=>ofL r (t.ins n o) (n+1)
  | false=>aC
theorem aK6 {life:Life}:∀{l:List oH}{t:BT}{n:Nat}{r:BT×Nat},∀J:ofL l t n=aa r,absHeap r.1 r.2 life=⟨(absHeap t n life).objs++l.toArray,life⟩
 | [],t,n,r,h=>by obtain rfl:=aq h;rw[iB];rfl
 | o::l,t,n,r,h=>by
  replace h:(match ((t.ins n o).get n).isSome with | true=>ofL l (t.ins n o) (n+1) | false=>aC)=aa r:=h;cases hs:((t.ins n o).get n).isSome with
  | false=>rw[hs]at h;cases h
  | true=>
   rw[hs]at h;rw[aK6 h,absHeap_ins hs];show Heap.mk ((absHeap t n life).objs.push o++l.toArray) life=_;rw[Array.push_eq_append,vV,List.toArray_cons o l]
noncomputable def ofS (s:aV):Option Em:=(ofL s.heap.objs.toList .nil 0).map λr=>⟨r.1,r.2,s.heap.life,s.gens,s.drawn,s.toks,s.os⟩
theorem Tt {s:aV}{r:Em}(h:ofS s=aa r):r.abs=s:=by obtain⟨q,h1,rfl⟩:=cQ.mp h;show Shared.mk (absHeap q.1 q.2 s.heap.life) _ _ _ _=s;rw[aK6 h1];obtain⟨⟨⟨o⟩,life⟩,g,d,t,os⟩:=s;show Shared.mk ⟨(#[]:Array oH)++o.toArray,life⟩ _ _ _ _=_;rw[vW]
noncomputable def apo (tb:String->Option eF)(p:nq)(w:uK)(N:Nat)(iI:aV)(sT:Em):Option aV:=
 match iI.heap.isNs bW&&iI.gens.size==0 with
 | true=>(au5 tb p w iI.heap.objs.size (iI.heap.nsMap bW "__annotations__") N sT (topStub p)).bind λaU=>match staticsOk (importedModules p.main.body) iI.heap aU.abs.heap&&namesBound p aU.abs.heap&&gensDone aU.abs&&laidKept iI.heap aU.abs.heap with
  | true=>aa aU.abs
  | false=>aC
 | false=>aC
noncomputable def apq (tb:String->Option eF)(p:nq)(w:uK)(N:Nat):Option aV:=(fencedOpening tb p w N).bind λiI=>(ofS iI).bind (apo tb p w N iI)
theorem afk {N:Nat}{s:aV}(h:apq tb p w N=aa s):aoh tb p w N=aa s:=by
 obtain⟨iI,h1,h⟩:=iT.mp h;obtain⟨sT,h2,h⟩:=iT.mp h;unfold aoh;rw[h1];show topFrom tb p w N iI=aa s;unfold apo at h;unfold topFrom;cases h3:(iI.heap.isNs bW&&iI.gens.size==0) with
 | false=>rw[h3]at h;cases h
 | true=>
  rw[h3]at h;obtain⟨aU,h4,h⟩:=iT.mp h;have h5:=aG0 h4;rw[Tt h2]at h5;dsimp only;rw[h5];exact h
end
noncomputable def qv:nq:=view pw [0,26]
noncomputable def loose:List PySem.Str:= ["_wall","insort_right","bisect_right","bisect_left","NL","EMPTYSTRING","_ValueFormatter","_Accumulator","tspecials","_name_disallowed_re","_value_disallowed_re","_formatparam","Headers","_law_tree","_law_word","_law_letter","_law_grow","_law_rank","_law_follow","_law_sound","_law_fold"]
theorem ar0 {α:Type}{F:aV->α}{L:α}{w:uK}(h:(apq treeTable pw w 5034).map F=aa L):(aoh treeTable pw w 5034).map F=aa L:=by obtain⟨s,e,h⟩:=cQ.mp h;rw[afk e];exact congrArg aa h
theorem a66:LeftO pw qv loose (λs=>xlAt qv [] s&&recOk [] s) (λU=>()) (λU=>()) 5034:=λw=>ar0 (by
 kernel_rfl)
theorem a67:∀w,(aoh treeTable pw w 5034).map (λs=>Tq s.heap)=aa Fo:=λw=>ar0 (by
 kernel_rfl)
end
end Mine.Internal
end
section
namespace Mine.Internal
open PySem
noncomputable abbrev Kd:=aM->Option lD
noncomputable def kdOf (sc:jB):Kd:=λx=>sc.names.lookup x
noncomputable def mb {α:Type}(o:Option α)(f:α->j6):j6:=match o with
 | some a=>f a
 | none=> .bad
noncomputable def gm (b:Bool)(e:j6):j6:=if b=az then e else .bad
noncomputable def sb {α:Type}(o:Option α)(f:α->n6):n6:=match o with
 | some a=>f a
 | none=> .bad
noncomputable def gs (b:Bool)(e:n6):n6:=if b=az then e else .bad
noncomputable def CP {α:Type}:List α->Option α
 | [a]=>aa a
 | _=>aC
noncomputable def duo {α:Type}:List α->Option (α×α)
 | [a,b]=>aa (a,b)
 | _=>aC
noncomputable def qx:aF->Option (aM×qg)
 | .Name x p=>aa (x,p)
 | _=>aC
noncomputable def aj4:aF->Option (aF×aM×qg)
 | .Attribute o m p=>aa (o,m,p)
 | _=>aC
noncomputable def am7:aF->Option (aF×List aF×List tY×qg)
 | .Call f l ks p=>aa (f,l,ks,p)
 | _=>aC
noncomputable def constOf:aF->Option (Const×Nat×qg)
 | .Constant c j p=>aa (c,j,p)
 | _=>aC
noncomputable def aIx:∀J:Const,Option aM
 | .str s=>aa s
 | _=>aC
noncomputable def litOf (e:aF):Option (aM×Nat×qg):=opt (constOf e) λc=>opt (aIx c.1) λs=>aa (s,c.2)
noncomputable def Tu:aF->Option (aF×uJ×aF×qg)
 | .BinOp a o b p=>aa (a,o,b,p)
 | _=>aC
noncomputable def tupleOf:aF->Option (List aF×Nat×qg)
 | .Tuple l j p=>aa (l,j,p)
 | _=>aC
noncomputable def R4:aF->Option aF
 | .Starred a _=>aa a
 | _=>aC
noncomputable def jz:aF->Option (Option aF×Option aF×Option aF×qg)
 | .Slice a b c p=>aa (a,b,c,p)
 | _=>aC
noncomputable def apr:aF->Option (aF×aF×qg)
 | .Subscript o i p=>aa (o,i,p)
 | _=>aC
noncomputable def al3 (k:Kd)(x:aM)(e:aF):Option (qg×List aF×qg):=opt (am7 e) λc=>opt (qx c.1) λnm=>fV (c.2.2.1.isEmpty&&decide (nm.1=x)&&(k x==aa .globalImplicit)) (aa (nm.2,c.2.1,c.2.2.2))
noncomputable def keysOf:List tY->Option (List aM×List aF)
 | []=>aa ([], [])
 | k::r=>opt k.arg λn=>opt (keysOf r) λp=>aa (n::p.1,k.value::p.2)
noncomputable def ad4 (k:Kd)(sc:jB):Bool:=(sc.names.all λp=>p.2 != .free || k p.1==aa .cell || k p.1==aa .free)&&(sc.kind== .function)&&decide ((sc.names.map (·.1)).Nodup)&& !((sc.names.lookup ("errors":aM))==aa .local)&& !((sc.names.lookup ("__class__":aM))==aa .free)&&sc.names.all (λp=>p.2== .local || p.2== .free || p.2== .globalImplicit)
noncomputable def Tv (sc:jB):List aM:=sc.names.filterMap λp=>if p.2= .free then aa p.1 else aC
noncomputable def ab0:aF->Bool
 | .Call f l ks _=> !(l.isEmpty&&ks.isEmpty&&(qx f).isSome)
 | _=>az
noncomputable def HX (k:Kd)(a:rY)(sc:jB):Bool:=a.posonlyargs.isEmpty&&a.args.isEmpty&&a.kwonlyargs.isEmpty&&a.vararg.isNone&&a.kwarg.isNone&&a.defaults.isEmpty&&a.kw_defaults.isEmpty&&(sc.names.all λp=>p.2== .globalImplicit || (p.2== .free&&(k p.1==aa .cell || k p.1==aa .free)&&decide (p.1≠("__class__":aM))))&&(sc.kind== .function)&& !sc.isCoroutine&& !sc.isGenerator&&decide ((sc.names.map (·.1)).Nodup)
noncomputable def apt (e:aF):Option (aM×aM):=opt (tupleOf e) λt=>opt (duo t.1) λd=>opt (qx d.1) λx=>opt (qx d.2) λy=>aa (x.1,y.1)
structure Dot where
 a:aM
 b:aM
 x:aF
 y:aF
noncomputable def apu (e:aF):Option ((aM×qg)×(aM×qg)×uJ×qg):=opt (Tu e) λp=>opt (qx p.1) λa=>opt (qx p.2.2.1) λb=>aa (a,b,p.2.1,p.2.2.2)
noncomputable def apv (k:Kd)(e:aF):Option (qg×(aF×aF)×qg):=opt (al3 k ("zip":aM) e) λc=>opt (duo c.2.1) λd=>aa (c.1,d,c.2.2)
noncomputable def au6 (k:Kd)(sc:jB)(e:aF)(g:uw):Option Dot:=opt (apu e) λp=>opt (apt g.target) λt=>opt (apv k g.iter) λc=>
 fV ((p.2.2.1== .Mult)&&decide (p.1.1=t.1)&&decide (p.2.1.1=t.2)&&decide (p.1.1≠p.2.1.1)&&decide (p.1.1≠("__debug__":aM))&&decide (p.2.1.1≠("__debug__":aM))&&g.ifs.isEmpty&&(sc.names.lookup p.1.1==aa .local)&&(sc.names.lookup p.2.1.1==aa .local)&&sc.names.all (λp=>p.2== .local)) (aa ⟨p.1.1,p.2.1.1,c.2.1.1,c.2.1.2⟩)
noncomputable def isSet:aF->Bool
 | .Set _ _ _=>az
 | _=>aG
noncomputable def M8 (l:List aF):Bool:=l.all λt=>(R4 t).isNone
section
variable (r:aF->j6)(k:Kd)
noncomputable def CQ (x:aM):j6:=if x=("__debug__":aM) then .cst (.bool az) else gm (decide (x≠("__classdict__":aM))) (mb (k x) λd=>match d with
 | .local=> .loc x
 | .cell=> .cR x
 | .free=> .cR x
 | .globalImplicit=> .gn x
 | _=> .bad)
noncomputable def Tw:∀J:Const,j6
 | .none=> .cst .none
 | .bool b=> .cst (.bool b)
 | .int i=> .cst (.int i)
 | .str s=> .cst (.str s)
 | _=> .bad
noncomputable def cUn (a:aF):∀J:UnaryOp,j6
 | .Not=> .not (r a)
 | .USub=> .neg (r a)
 | _=> .bad
noncomputable def Fp (o:Option aF):j6:=match o with
 | none=> .cst .none
 | some e=>r e
noncomputable def apw (o:aF)(ap:qg)(args:List aF)(ks:List tY)(p:qg):j6:=mb (am7 o) λc=>mb (aj4 c.1) λm=>mb (litOf m.1) λU=>mb (duo args) λd=>mb (litOf d.1) λa=>mb (litOf d.2) λb=>gm ((ap.endLine==p.line)&&ks.isEmpty) (.Sx (r o) a.1 b.1)
noncomputable def CT (o:aF)(m:aM)(ap:qg)(args:List aF)(ks:List tY)(p:qg):j6:=
 if m=("replace":aM) then apw r o ap args ks p
 else gm (ab0 o&&(ap.endLine==p.line)&&decide (args.length+ks.length<20)) (match opt (CP args) R4 with
  | some a=>gm ks.isEmpty (.star (r o) m (r a))
  | none=>gm (M8 args) (mb (keysOf ks) λq=> .bN (r o) m (args.map r) q.1 (q.2.map r)))
noncomputable def CV (f:aF)(args:List aF)(ks:List tY)(p:qg):j6:=match aj4 f with
 | some q=>CT r q.1 q.2.1 q.2.2 args ks p
 | none=>gm (M8 args) (mb (keysOf ks) λq=> .call (r f) (args.map r) q.1 (q.2.map r))
noncomputable def Tz (o i:aF):j6:=match jz i with
 | some s=> .vM (r o) (Fp r s.1) (Fp r s.2.1) (Fp r s.2.2.1)
 | none=> .sub (r o) (r i)
noncomputable def cI (it:aF):j6:=match al3 k ("range":aM) it with
 | some c=>gm (M8 c.2.1) (.xU (c.2.1.map r))
 | none=>match al3 k ("enumerate":aM) it with
  | some c=>gm (M8 c.2.1) (mb (CP c.2.1) λa=> .Cg (r a))
  | none=>r it
noncomputable def awc (x:aM):j6:=gm (decide (x≠("__class__":aM))) (mb (k x) λd=>match d with
 | .local=> .loc x
 | .cell=> .cR x
 | _=> .bad)
noncomputable def cT:Nat->aF->j6
 | 0,_=> .bad
 | n+1,e=>match e with
  | .Name x _=>awc k x
  | .Attribute o m _=> .attr (r o) m
  | .Subscript o i _=>(match jz i with
   | some s=>gm s.2.2.1.isNone (.vM (r o) (Fp r s.1) (Fp r s.2.1) (.cst .none))
   | none=> .sub (r o) (r i))
  | .Tuple l _ _=>gm (l.all λt=>(R4 t).isNone) (.tup (l.map (cT n)))
  | _=> .bad
end
noncomputable def TF:j6->Bool
 | .Cg _=>az
 | _=>aG
noncomputable def aj5:j6->Bool
 | .tup _=>az
 | _=>aG
noncomputable def awe (i t:j6):Bool:= !TF i || aj5 t
noncomputable def cE:Nat->Kd->aF->j6
 | 0,_,_=> .bad
 | n+1,k,e=>match e with
  | .Constant c _ _=>Tw c
  | .Name x _=>CQ k x
  | .BoolOp op vs _=> .xR op (vs.map (cE n k))
  | .BinOp a o b _=> .bin o (cE n k a) (cE n k b)
  | .UnaryOp o a _=>cUn (cE n k) a o
  | .IfExp t a b _=> .ite (cE n k t) (cE n k a) (cE n k b)
  | .Tuple l _ _=>gm (decide (l.length≤1000)) (.tup (l.map (cE n k)))
  | .List l _=>gm (decide (l.length≤1000)) (.lst (l.map (cE n k)))
  | .Compare a os bs _=>mb (CP os) λo=>mb (CP bs) λb=>gm (!isSet b) (.cmp o (cE n k a) (cE n k b))
  | .Call f args ks p=>CV (cE n k) f args ks p
  | .Attribute o m _=>gm (ab0 o) (.attr (cE n k o) m)
  | .Subscript o i _=>Tz (cE n k) o i
  | .ListComp e gs sc _=>mb (CP gs) λg=>gm ((g.is_async==0)&&ad4 k sc&& !isSet g.iter) (match au6 k sc e g with
   | some d=>gm (M8 [d.x,d.y]) (.dot (cE n k d.x) (cE n k d.y))
   | none=>gm (awe (cI (cE n k) k g.iter) (cT (cE n (kdOf sc)) (kdOf sc) n g.target)) (.comp (cE n (kdOf sc) e) (cT (cE n (kdOf sc)) (kdOf sc) n g.target) (cI (cE n k) k g.iter) (g.ifs.map (cE n (kdOf sc))) (Tv sc)))
  | .Lambda a b sc p=>gm (HX k a sc) (.lam (.Lambda a b sc p))
  | _=> .bad
set_option backward.match.sparseCases true in
noncomputable def nameAt (k:Kd)(ln:Nat):aF->Option aM
 | .Name id pos=>if k id==aa .local&&pos.line==ln then aa id else aC
 | _=>aC
set_option backward.match.sparseCases true in
noncomputable def aA8 (k:Kd)(ts vs:List aF):Option (Option (List aM)):=
 if !(ts.length==2 || ts.length==3) || vs.length !=ts.length then aa aC
 else if vs.any fun | .Starred .. =>az | _=>aG then aa aC
 else if (ts.filterMap (nameAt k ((ts.head?.map (·.pos.line)).getD 0))).length !=ts.length || (ts.filterMap (nameAt k ((ts.head?.map (·.pos.line)).getD 0))).eraseDups.length !=(ts.filterMap (nameAt k ((ts.head?.map (·.pos.line)).getD 0))).length then aa aC
 else if vs.all (foldedForSure 8) then aa aC
 else if vs.all (constantsAlone 8) then aC
 else aa (aa (ts.filterMap (nameAt k ((ts.head?.map (·.pos.line)).getD 0))))
noncomputable def aA9 (k:Kd)(t e:aF):Option (Option (List aM)):=match tupleOf t with
 | none=>aa aC
 | some ts=>match tupleOf e with
  | none=>aa aC
  | some vs=>aA8 k ts.1 vs.1
noncomputable def cText (k:Kd)(x:aM)(e:aF):Option aM:=opt (Tu e) λp=>opt (litOf p.1) λs=>opt (al3 k ("str":aM) p.2.2.1) λc=>opt (CP c.2.1) λa=>opt (qx a) λy=>fV ((p.2.1== .Add)&&decide (y.1=x)) (aa s.1)
noncomputable def TG:∀J:vX,Option aF
 | .Expr e _=>aa e
 | _=>aC
noncomputable def apx (s:vX):Option ((aM×qg)×(aM×qg)×aF×List tY×qg):=opt (TG s) λe=>opt (am7 e) λq=>opt (aj4 q.1) λm=>opt (qx m.1) λy=>opt (CP q.2.1) λa=>aa (y,m.2,a,q.2.2)
noncomputable def cH (k:Kd):∀J:jK,Option zL
 | .ExceptHandler t x b _=>opt t λt=>opt (qx t) λc=>opt x λx=>opt (CP b) λst=>opt (apx st) λq=>opt (cText k x q.2.2.1) λpre=>
  fV ((yF c.1).isSome&&(k c.1==aa .globalImplicit)&&(k x==aa .local)&&decide (x≠("errors":aM))&&decide (x≠("__debug__":aM))&&q.2.2.2.1.isEmpty&&decide (q.2.1.1=("append":aM))&&(k q.1.1==aa .local)&&decide (q.1.1≠x)&&decide (q.1.1≠("__debug__":aM))&&(q.2.1.2.endLine==q.2.2.2.2.line)) (aa ⟨c.1,x,pre,q.1.1⟩)
noncomputable def cHs (k:Kd):List jK->Option (List zL)
 | []=>aa []
 | h::r=>opt (cH k h) λa=>opt (cHs k r) λl=>aa (a::l)
noncomputable def am8:aF->Bool
 | .ListComp .. =>az
 | .SetComp .. =>az
 | .DictComp .. =>az
 | _=>aG
noncomputable def awf:aF->Bool
 | .ListComp .. =>az
 | _=>aG
noncomputable def CW:aF->Bool
 | .Name x _=>decide (x≠("__class__":aM))
 | .Attribute .. =>az
 | .Subscript .. =>az
 | .Tuple .. =>az
 | _=>aG
noncomputable def ar3:Option (Option (List aM))->Bool
 | some aC=>az
 | some (aa l)=>match duo l with
  | some p=>decide (p.1≠p.2)&&(decide (p.1≠("__class__":aM))&&decide (p.2≠("__class__":aM)))
  | none=>aG
 | none=>aG
noncomputable def CX:j6->Bool
 | .dot .. =>az
 | _=>aG
section
variable (r:aF->j6)(k:Kd)
noncomputable def a7a (o:uJ)(e:aF):aF->n6
 | .Name x _=>gs (decide (x≠("__class__":aM))&&(k x==aa .cell)) (.Lr x o (r e))
 | .Subscript a i _=>gs (jz i).isNone (.Bf (r a) (r i) o (r e))
 | _=> .bad
noncomputable def TJ (x c:Option aF):n6:=gs c.isNone (sb x λx=>sb (am7 x) λq=>sb (qx q.1) λnm=>sb (CP q.2.1) λe=>sb (litOf e) λt=>sb (yF nm.1) λcls=>gs (q.2.2.1.isEmpty&&(k nm.1==aa .globalImplicit)) (.raise cls t.1))
end
noncomputable def cS:Nat->Kd->∀J:vX,n6
 | 0,_,_=> .bad
 | n+1,k,s=>match s with
  | .Expr e _=>gs (!am8 e) (.expr (cE n k e))
  | .Return o _=> .ret (Fp (cE n k) o)
  | .Assign ts e _=>sb (CP ts) λt=>gs (ar3 (aA9 k t e)&&CW t&&(!am8 e || awf e)&& !CX (cE n k e)) (.asg (cT (cE n k) k (n+2) t) (cE n k e))
  | .AugAssign t o e _=>a7a (cE n k) k o e t
  | .Delete ts _=>sb (CP ts) λt=>sb (apr t) λq=>gs (jz q.2.1).isNone (.del (cE n k q.1) (cE n k q.2.1))
  | .If t a b _=> .ite (cE n k t) (a.map (cS n k)) (b.map (cS n k))
  | .While t b o _=>gs o.isEmpty (.whl (cE n k t) (b.map (cS n k)))
  | .For t it b o _=>gs (!TF (cI (cE n k) k it)&& !isSet it) (.oU (cT (cE n k) k n t) (cI (cE n k) k it) (b.map (cS n k)) (o.map (cS n k)))
  | .Raise x c _=>TJ k x c
  | .Try b hs o f _=>gs (o.isEmpty&&f.isEmpty&& !hs.isEmpty) (sb (cHs k hs) λmhs=> .afc (b.map (cS n k)) mhs)
  | .Pass _=> .pass
  | .Break _=> .brk
  | .Continue _=> .cont
  | _=> .bad
noncomputable def aj6:List aM:= ["__init__","__len__","pop"]
noncomputable def TP (k:Kd)(e:aF):Option aM:=opt (am7 e) λc=>opt (aj4 c.1) λm=>opt (al3 k ("super":aM) m.1) λs=>
 fV (c.2.1.isEmpty&&c.2.2.1.isEmpty&&s.2.1.isEmpty&&aj6.contains m.2.1&&(k ("__class__":aM)==aa .free)&&(k ("self":aM)==aa .local)&&(m.2.2.endLine==c.2.2.2.line)) (aa m.2.1)
noncomputable def afo (k:Kd):∀J:vX,Option n6
 | .Expr e _=>opt (TP k e) λx=>aa (.expr (.sup x))
 | .Return o _=>opt o λe=>opt (TP k e) λx=>aa (.ret (.sup x))
 | _=>aC
noncomputable def TQ (n:Nat)(k:Kd):List vX->List n6
 | []=> []
 | st::r=>(match r.isEmpty,afo k st with
  | true,aa m=>m
  | _,_=>cS n k st)::TQ n k r
noncomputable def apy:aF->Option (List aM×j6)
 | .Lambda a b sc _=>fV (HX (λU=>aa .free) a sc) (aa (Tv sc,cE 40 (kdOf sc) b))
 | _=>aC
end Mine.Internal
end
section
namespace Mine.Internal
open PySem PySem.W PySem.Calls PyProof.Rows
section
noncomputable abbrev eO:=List (List aW)
noncomputable def itK:List aB:= [.type "list_iterator",.type "tuple_iterator",.type "range_iterator",.type "longrange_iterator",.type "str_ascii_iterator",.type "str_iterator",.type "enumerate",.type "dict_itemiterator",.type "list_reverseiterator"]
def K3 (o:oH):Prop:=o.cls= .type "list" ∨(∃c,o.cls= .ref c)∨o.cls= .type "dict" ∨o.cls= .type "frame" ∨o.cls= .type "cell" ∨o.cls= .none∨(∃es n,o.data= .dict es n)∨(∃v,o.data= .cell v)∨o.cls∈itK
noncomputable def aIy:∀J:Data,Bool
 | .dict _ _=>az
 | .cell _=>az
 | _=>aG
theorem ar4 (hc:o.cls= .type t)(ht:jl t∉ [jl "list",.type "dict",.type "frame",.type "cell"]++itK)(hd:aIy o.data=aG):¬K3 o:=by
 intro h;rw[K3,hc]at h;rcases h with q | ⟨_,q⟩ | q | q | q | q | ⟨es,n,q⟩ | ⟨v,q⟩ | q
 ·exact ht (q▸ .head _)
 ·cases q
 ·exact ht (q▸ .tail _ (.head _))
 ·exact ht (q▸rT 2 rfl)
 ·exact ht (q▸rT 3 rfl)
 ·cases q
 ·rw[q]at hd;exact Lp hd
 ·rw[q]at hd;exact Lp hd
 ·exact ht (fQ _ q)
theorem ai0:¬K3 {cls:= .type "tuple",data:= .seq vs n}:=ar4 rfl (by decide) rfl
theorem ab6 (hc:o.cls= .type t)(hd:o.data= .fields vs)(ht:jl t∉ [jl "list",.type "dict",.type "frame",.type "cell"]++itK):¬K3 o:=
 ar4 hc ht (by refine aD hd ?_;rfl)
structure Cx where
 prog:nq
 w:uK
 g0:bL
 K:aof
 inK:K.In g0
 G:Gl
 awg:oH->aW->oH->aF->Prop
 vd:fu->Prop
 Bh:Array zZ->Prop
 tabs:List aW
 tabsOk:bL->Prop
 vP:∀h h':bL,∀J:(∀t∈tabs,h'.get? t=h.get? t),∀J:(∀b o,∀J:h.get? b=aa o,∀J:¬K3 o,h'.get? b=aa o),∀J:tabsOk h,tabsOk h'
 nJ:∀h:bL,∀J:tabsOk h,∀t∈tabs,∃o,h.get? t=aa o∧o.cls= .none
noncomputable abbrev Cx.M (Γ:Cx):yw:=gK Γ.prog Γ.w
noncomputable abbrev m7 (l:List fu):List aW:=l.filterMap (·.frame)
noncomputable abbrev uD (s:aV)(X:List aW):aV:={s with heap:=fK s.heap X}
inductive Mf (i:Int):aB->Prop
 | mk (t:Tok):Mf i (.int i t)
inductive Mg (x:aM):aB->Prop
 | mk (t:Tok):Mg x (.str x t)
inductive Mh (h:bL)(P:List aB->Prop):aB->Prop
 | mk (a:aW) (vs:Array aB) (n:Nat) (ha:h.get? a=aa {cls:= .type "tuple",data:= .seq vs n}) (hs:P vs.toList):Mh h P (.ref a)
inductive afp (ρ:eO)(i:Nat):aB->Prop
 | mk (a:aW) (r:List aW) (e:ρ[i]?=aa (a::r)):afp ρ i (.ref a)
structure CZ (h:bL)(c:String)(m:aM)(e:aW)(o:oH)(vs:Array aB)(t:aW)(tk:Tok)(n:Nat):Prop where
 he:h.get? e=aa o
 hc:o.cls= .type c
 hd:o.data= .fields vs
 cc:c="ValueError" ∨c="TypeError"
 h0:vs[0]?=aa (.ref t)
 ht:h.get? t=aa {cls:= .type "tuple",data:= .seq #[.str m tk] n}
inductive a7d (X:List aW)(a:aW)(vs:Array aB)(h':bL)(fl:aB):Prop
 | mk (T:aW) (oT:oH) (ts:Array aB) (h1:vs[1]?=aa (.ref T)) (h2:T∈X) (h3:T≠a) (h4:h'.get? T=aa oT) (h5:oT.data= .fields ts) (h6:ts[3]?=aa fl):a7d X a vs h' fl
noncomputable def Way (X:List aW)(a:aW)(vs:Array aB)(h':bL):Option aB->Prop
 | none=>vs[1]?=aa .none
 | some fl=>a7d X a vs h' fl
inductive Z1 (h:bL)(l:List fu)(c:String)(m:aM)(a:aW)(X:List aW)(h':bL)(x:Option aB):Prop
 | mk (o:oH) (vs:Array aB) (t:aW) (tk:Tok) (n:Nat) (off:∀b∈X,h.get? b=aC) (mem:a∈X) (ex:CZ h' c m a o vs t tk n) (tX:t∉X) (tF:t∉m7 l) (way:Way X a vs h' x):Z1 h l c m a X h' x
def HY (l:List fu)(x:Option aB):Prop:=x=aC∨x=aa .none∨∃env r L,l=env::r∧env.frame=aa L∧x=aa (jD L)
inductive Fly (h:bL)(l:List fu)(c:String)(m:aM)(X:List aW)(h':bL):aB->Prop
 | mk (a:aW) (x:Option aB) (fx:Z1 h l c m a X h' x) (at_:HY l x):Fly h l c m X h' (.ref a)
inductive a7e (h:bL)(c:String)(m:aM):aB->Prop
 | mk (e:aW) (o:oH) (vs:Array aB) (t:aW) (tk:Tok) (n:Nat) (x:CZ h c m e o vs t tk n):a7e h c m (.ref e)
inductive a7f (Γ:Cx)(h:bL)(k:aF):aB->Prop
 | mk (a:aW) (o:oH) (c:aW) (oc:oH) (ha:h.get? a=aa o) (hm:¬K3 o) (hc:h.get? c=aa oc) (hmc:¬K3 oc) (hl:Γ.awg o c oc k):a7f Γ h k (.ref a)
inductive a7g (h:bL):aB->Prop
 | mk (a:aW) (o:oH) (ha:h.get? a=aa o) (hc:o.cls= .type "re.Match") (hm:¬K3 o):a7g h (.ref a)
inductive awh (ρ:eO)(h:bL)(i:Nat):aB->Prop
 | mk (a d:aW) (hd:ρ[i]?=aa [d]) (ha:h.get? a=aa {cls:= .type "dict_items",data:= .fields #[.ref d]}):awh ρ h i (.ref a)
inductive Dc (P:aB->Prop)(Q:List aB->Prop):List aB->Prop
 | mk (u:aB) (us:List aB) (hu:P u) (hs:Q us):Dc P Q (u::us)
mutual
noncomputable def VR (Γ:Cx)(ρ:eO)(h:bL):V->aB->Prop
 | .none=>(·= .none)
 | .bool b=>(·= .bool b)
 | .int i=>Mf i
 | .str s=>Mg s
 | .tup l=>Mh h (gA Γ ρ h l)
 | .ref i=>afp ρ i
 | .gl v=>(·=v)
 | .exc c m=>a7e h c m
 | .Ao k=>a7f Γ h k
 | .mat=>a7g h
 | .Ru i=>awh ρ h i
noncomputable def gA (Γ:Cx)(ρ:eO)(h:bL):List V->List aB->Prop
 | []=>(·= [])
 | v::l=>Dc (VR Γ ρ h v) (gA Γ ρ h l)
end
inductive TV (x:aM)(P:aB->Prop)(Q:List iR->Prop):List iR->Prop
 | mk (hh:Int) (t:Tok) (u:aB) (es:List iR) (hu:P u) (hs:Q es):TV x P Q (⟨hh,.str x t,u⟩::es)
noncomputable def DR (Γ:Cx)(ρ:eO)(h:bL):j8->List iR->Prop
 | []=>(·= [])
 | (x,v)::d=>TV x (VR Γ ρ h v) (DR Γ ρ h d)
inductive apz (Γ:Cx)(ρ:eO)(h:bL)(l:List V):List aW->Prop
 | mk (a:aW) (xs:Array aB) (n:Nat) (ha:h.get? a=aa (listOf xs n)) (hs:gA Γ ρ h l xs.toList) (hz:l.length≤16777216):apz Γ ρ h l [a]
inductive aqa (Γ:Cx)(ρ:eO)(h:bL)(c:aW)(d:j8):List aW->Prop
 | mk (a dx:aW) (es:List iR) (n:Nat) (ha:h.get? a=aa (instObj c dx)) (hd:h.get? dx=aa (iU es n)) (pJ:DR Γ ρ h d es) (hi:(Γ.G.bN c "__init__").isSome=az) (hc:c≠Γ.G.fW):aqa Γ ρ h c d [a,dx]
inductive a7h (Γ:Cx)(ρ:eO)(h:bL)(c:aW)(d:j8)(l:List V):List aW->Prop
 | mk (a dx:aW) (es:List iR) (n:Nat) (xs:Array aB) (k:Nat) (ha:h.get? a=aa {cls:= .ref c,dict:=aa dx,data:= .seq xs k}) (hd:h.get? dx=aa (iU es n)) (pJ:DR Γ ρ h d es) (hs:gA Γ ρ h l xs.toList) (hz:l.length≤16777216)
   (hc:c=Γ.G.fW) (hi:(Γ.G.bN c "__init__").isSome=az):a7h Γ ρ h c d l [a,dx]
inductive a7i (h:bL):List aW->Prop
 | mk (d:aW) (n:Nat) (hd:h.get? d=aa (iU [] n)):a7i h [d]
noncomputable def OR (Γ:Cx)(ρ:eO)(h:bL):p6->List aW->Prop
 | .list l=>apz Γ ρ h l
 | .inst c d=>aqa Γ ρ h c d
 | .acc c d l=>a7h Γ ρ h c d l
 | .vN=>a7i h
structure Ia (FS:List aW)(W:aW->Prop)(h h':bL):Prop where
 vH:∀b o,∀J:h.get? b=aa o,∀J:¬K3 o,h'.get? b=aa o
 keep:∀b o,∀J:h.get? b=aa o,∀J:¬W b,∀J:b∉FS,h'.get? b=aa o
 fs:∀b o,∀J:h.get? b=aa o,∀J:¬W b,∀J:b∈FS,∃sl,h'.get? b=aa {o with slots:=sl}
theorem Ia.refl (FS:List aW)(W:aW->Prop)(h:bL):Ia FS W h h:=⟨λU U e U=>e,λU U e U U=>e,λU o e U U=>⟨o.slots,e⟩⟩
theorem Ia.then {W uH:aW->Prop}(x:Ia FS W h jj)(y:Ia FS uH jj ni)(hw:∀b o,∀J:h.get? b=aa o,∀J:uH b,W b):Ia FS W h ni:=
 ⟨λb o e n=>y.vH b o (x.vH b o e n) n,λb o e n f=>y.keep b o (x.keep b o e n f) (λq=>n (hw b o e q)) f,λb o e n f=>
  (x.fs b o e n f).elim λU TY=>(y.fs b _ TY (λq=>n (hw b o e q)) f).elim λsl' afq=>⟨sl',afq⟩⟩
theorem Ia.of_keeps {W:aW->Prop}(k:∀b o,∀J:h.get? b=aa o,h'.get? b=aa o):Ia FS W h h':=
 ⟨λb o e U=>k b o e,λb o e U U=>k b o e,λb o e U U=>⟨o.slots,k b o e⟩⟩
theorem Ia.Ua {W:aW->Prop}(hD:h.get? D=aa o)(hm:K3 o)(hW:W D)(k:∀b o,∀J:b≠D,∀J:h.get? b=aa o,h'.get? b=aa o):Ia FS W h h':=by
 refine⟨λb o' e n=> ?_,λb o' e n U=> ?_,λb o' e n U=> ?_⟩
 ·refine k b o' ?_ e
  rintro rfl;replace e:=hD▸e;cases e;exact n hm
 ·exact k b o' (λq=>n (q▸hW)) e
 ·exact⟨o'.slots,k b o' (λq=>n (q▸hW)) e⟩
theorem Ia.weaken {W W':aW->Prop}(x:Ia FS W h h')(hw:∀b,∀J:W b,W' b):Ia FS W' h h':=
 ⟨x.vH,λb o e n f=>x.keep b o e (λq=>n (hw b q)) f,λb o e n f=>x.fs b o e (λq=>n (hw b q)) f⟩
def Wr (Γ:Cx)(lk:List Nat)(ρ:eO)(b:aW):Prop:=b∈Γ.tabs∨∃i r,ρ[i]?=aa r∧b∈r∧i∉lk
structure H9 (ρ:eO)(h:bL)(fj:eO):Prop where
 more:∃τ,fj=ρ++τ∧∀b∈τ.flatten,h.get? b=aC
theorem H9.refl (ρ:eO)(h:bL):H9 ρ h ρ:=⟨[],by simp,λU hb=>by simp at hb⟩
theorem H9.get (x:H9 ρ h fj){i:Nat}(e:ρ[i]?=aa r):fj[i]?=aa r:=by obtain⟨τ,rfl,_⟩:=x.more;refine aD (ig (aL.mp e).1) ?_;exact e
theorem H9.wr (x:H9 ρ h fj)(hb:Wr Γ lk fj b):Wr Γ lk ρ b∨h.get? b=aC:=by
 obtain⟨τ,rfl,hn⟩:=x.more;rcases hb with hb | ⟨i,r,e,hm,hl⟩
 ·exact .inl (.inl hb)
 by_cases hi:i<ρ.length
 ·rw[ig hi]at e
  exact .inl (.inr ⟨i,r,e,hm,hl⟩)
 ·rw[gM (eU hi)]at e
  exact .inr (hn b (cG.mpr ⟨r,aR e,hm⟩))
theorem ar5 {h h':bL}(hk:∀o,∀J:h.get? b=aa o,∃o',h'.get? b=aa o')(e:h'.get? b=aC):h.get? b=aC:=by
 cases q:h.get? b with
 | none=>rfl
 | some o=>obtain⟨o',e'⟩:=hk o q;replace e':=e▸e';exact iu e'
def O7 (h h':bL):Prop:=∀b o,∀J:h.get? b=aa o,∃o',h'.get? b=aa o'
theorem O7.none (x:O7 h h')(e:h'.get? b=aC):h.get? b=aC:=ar5 (λo q=>x b o q) e
theorem H9.trans (x:H9 ρ h aZ)(y:H9 aZ jj dI)(l:O7 h jj):H9 ρ h dI:=by
 obtain⟨τ,rfl,hn⟩:=x.more;obtain⟨τ',rfl,Bj⟩:=y.more;refine⟨τ++τ',by rw[aH],λb hb=> ?_⟩;rw[gh,cX]at hb;rcases hb with hb | hb
 ·exact hn b hb
 ·exact l.none (Bj b hb)
section
variable {Γ:Cx}{ρ fj:eO}{h jj h':bL}
theorem CZ.type (x:CZ h c m e o vs t tk n):¬K3 o:=by
 refine ab6 x.hc x.hd ?_;rcases x.cc with rfl | rfl
 ·decide
 ·decide
theorem CZ.mono (im:∀b o,∀J:h.get? b=aa o,∀J:¬K3 o,h'.get? b=aa o)(x:CZ h c m e o vs t tk n):CZ h' c m e o vs t tk n:=
 ⟨im _ _ x.he x.type,x.hc,x.hd,x.cc,x.h0,im _ _ x.ht ai0⟩
theorem VR.mono (g:H9 ρ jj fj)(im:∀b o,∀J:h.get? b=aa o,∀J:¬K3 o,h'.get? b=aa o):∀{v:V}{u:aB},∀J:VR Γ ρ h v u,VR Γ fj h' v u:=by
 intro v;refine V.rec (motive_1:=λv=>∀{u:aB},∀J:VR Γ ρ h v u,VR Γ fj h' v u) (motive_2:=λl=>∀{us:List aB},∀J:gA Γ ρ h l us,gA Γ fj h' l us) (λx=>x) (λU u x=>x) (λU u x=>x) (λU u x=>x) ?_ ?_ (λU u x=>x) ?_ ?_ ?_ ?_ (λx=>x) ?_ v
 ·rintro l ih _ ⟨a,vs,n,ht,hs⟩
  exact .mk a vs n (im _ _ ht ai0) (ih hs)
 ·rintro i _ ⟨a,r,e⟩
  exact .mk a r (g.get e)
 ·rintro c m _ ⟨e,o,vs,t,tk,n,x⟩
  exact .mk e o vs t tk n (x.mono im)
 ·rintro k _ ⟨a,o,c,oc,h1,h2,h3,h4,h5⟩
  exact .mk a o c oc (im _ _ h1 h2) h2 (im _ _ h3 h4) h4 h5
 ·rintro _ ⟨a,o,h1,h2,h3⟩
  exact .mk a o (im _ _ h1 h3) h2 h3
 ·rintro i _ ⟨a,d,h1,h2⟩
  exact .mk a d (g.get h1) (im _ _ h2 (ab6 rfl rfl (by decide)))
 ·rintro v l ih1 ih2 _ ⟨u,us,hv,hs⟩
  exact .mk u us (ih1 hv) (ih2 hs)
theorem gA.mono (g:H9 ρ jj fj)(im:∀b o,∀J:h.get? b=aa o,∀J:¬K3 o,h'.get? b=aa o):∀{l:List V}{us:List aB},∀J:gA Γ ρ h l us,gA Γ fj h' l us:=by
 intro l
 induction l with
 | nil=>exact λx=>x
 | cons v l ih=>
  rintro _ ⟨u,us,hv,hs⟩;exact .mk u us (hv.mono g im) (ih hs)
theorem DR.mono (g:H9 ρ jj fj)(im:∀b o,∀J:h.get? b=aa o,∀J:¬K3 o,h'.get? b=aa o):∀{d:j8}{es:List iR},∀J:DR Γ ρ h d es,DR Γ fj h' d es:=by
 intro zz
 induction zz with
 | nil=>
  intro _ x;exact x
 | cons hd0 _ ih=>
  obtain⟨_,_⟩:=hd0;rintro _ ⟨hh,t,u,es,hv,hs⟩;exact .mk hh t u es (hv.mono g im) (ih hs)
theorem OR.mono (g:H9 ρ jj fj)(im:∀b o,∀J:h.get? b=aa o,∀J:¬K3 o,h'.get? b=aa o):∀{m:p6}{r:List aW},∀J:OR Γ ρ h m r,∀J:(∀b∈r,∀o,∀J:h.get? b=aa o,h'.get? b=aa o),OR Γ fj h' m r:=by
 intro m;cases m with
 | list l=>
  rintro _ ⟨a,xs,n,ha,hs,hz⟩ k;exact .mk a xs n (k a (.head _) _ ha) (hs.mono g im) hz
 | inst c d=>
  rintro _ ⟨a,dx,es,n,ha,hd,pJ,hi,hc⟩ k;exact .mk a dx es n (k a (.head _) _ ha) (k dx (.tail _ (.head _)) _ hd) (pJ.mono g im) hi hc
 | acc c d l=>
  rintro _ ⟨a,dx,es,n,xs,q,ha,hd,pJ,hs,hz,hc,hi⟩ k;exact .mk a dx es n xs q (k a (.head _) _ ha) (k dx (.tail _ (.head _)) _ hd) (pJ.mono g im) (hs.mono g im) hz hc hi
 | vN=>
  rintro _ ⟨d,n,hd⟩ k;exact .mk d n (k d (.head _) _ hd)
end
structure SR (Γ:Cx)(ρ:eO)(H:Hp)(s:aV):Prop where
 len:ρ.length=H.length
 nodup:ρ.flatten.Nodup
 objs:∀(i:Nat)(o:p6),∀J:H[i]?=aa o,∃r,ρ[i]?=aa r∧OR Γ ρ s.heap o r
 base:∀b o,∀J:Γ.g0.get? b=aa o,s.heap.get? b=aa o
 apart:∀b∈ρ.flatten,Γ.g0.get? b=aC
 lR:∀b∈ρ.flatten,b∉Γ.tabs
 gens:Γ.Bh s.gens
 tabs:Γ.tabsOk s.heap
structure Ext (Γ:Cx)(FS:List aW)(W:aW->Prop)(ρ:eO)(s:aV)(fj:eO)(s':aV):Prop where
 grow:H9 ρ s.heap fj
 vf:Ia FS W s.heap s'.heap
 live:O7 s.heap s'.heap
 os:s'.os=s.os
 drawn:s'.drawn=s.drawn
theorem Ext.refl {W:aW->Prop}:Ext Γ FS W ρ s ρ s:=⟨.refl _ _,.refl _ _ _,λU o e=>⟨o,e⟩,rfl,rfl⟩
theorem O7.trans (x:O7 h jj)(y:O7 jj ni):O7 h ni:=λb o e=>let ⟨o',e'⟩:=x b o e;y b o' e'
theorem Ext.trans' {W uH:aW->Prop}(x:Ext Γ FS W ρ s aZ aU)(y:Ext Γ FS uH aZ aU dI bO)(hw:∀b,∀J:uH b,W b∨s.heap.get? b=aC):Ext Γ FS W ρ s dI bO:=
 ⟨x.grow.trans y.grow x.live,x.vf.then y.vf λb U e q=>(hw b q).resolve_right λz=>(iu (z.symm.trans e)),x.live.trans y.live,y.os.trans x.os,y.drawn.trans x.drawn⟩
theorem Ext.trans (x:Ext Γ FS (Wr Γ lk ρ) ρ s aZ aU)(y:Ext Γ FS (Wr Γ lk aZ) aZ aU dI bO):Ext Γ FS (Wr Γ lk ρ) ρ s dI bO:=x.trans' y λU q=>x.grow.wr q
theorem VR.ext {W:aW->Prop}(x:VR Γ ρ s.heap v u)(e:Ext Γ FS W ρ s fj s'):VR Γ fj s'.heap v u:=x.mono e.grow e.vf.vH
theorem gA.ext {W:aW->Prop}(x:gA Γ ρ s.heap v u)(e:Ext Γ FS W ρ s fj s'):gA Γ fj s'.heap v u:=x.mono e.grow e.vf.vH
theorem Z1.less (f:Z1 jj l c m a X h' x)(lv:O7 h jj):Z1 h l c m a X h' x:=
 match f with
 | .mk o vs t tk n e1 e2 e3 e4 e5 e6=> .mk o vs t tk n (λb hb=>lv.none (e1 b hb)) e2 e3 e4 e5 e6
theorem Fly.less:∀{e:aB},∀J:Fly jj l c m X h' e,∀J:O7 h jj,Fly h l c m X h' e:=by rintro _ ⟨a,x,f,q⟩ lv;exact .mk a x (f.less lv) q
inductive Mi (Γ:Cx)(ρ:eO)(h:bL)(e:fu):Prop
 | mk (L:aW) (o:oH) (es:Array iR) (n:Nat) (hk:e.scope.kind≠ .module) (hf:e.frame=aa L) (ho:h.get? L=aa o) (hd:o.data= .dict es n) (hb:L∉ρ.flatten) (ht:L∉Γ.tabs) (hg:Γ.g0.get? L=aC):Mi Γ ρ h e
abbrev I7 (Γ:Cx)(l:List fu)(ρ:eO)(h:bL):Prop:=∀e∈l,Mi Γ ρ h e
inductive NsR (Γ:Cx)(ρ:eO)(h:bL)(L:aW)(loc:j8):Prop
 | mk (m:aM->Option aB) (hn:h.Ns L m) (hl:∀x v,∀J:loc.lookup x=aa v,∃u,m x=aa u∧VR Γ ρ h v u):NsR Γ ρ h L loc
inductive Dd (Γ:Cx)(ρ:eO)(h:bL)(cells:List (aM×aW))(x:aM)(v:V):Prop
 | mk (c:aW) (u:aB) (hc:cells.lookup x=aa c) (ho:h.IsCell c (aa u)) (hv:VR Γ ρ h v u):Dd Γ ρ h cells x v
inductive IsC (h:bL)(c:aW):Prop
 | mk (o:oH) (v:Option aB) (ho:h.get? c=aa o) (hd:o.data= .cell v):IsC h c
structure FR (Γ:Cx)(l:List fu)(ρ:eO)(h:bL)(env:fu)(loc cR:j8):Prop where
 uU:I7 Γ l ρ h
 ns:NsR Γ ρ h env.locals loc
 cells:∀x v,∀J:cR.lookup x=aa v,Dd Γ ρ h env.cells x v
 wI:env.locals∉ρ.flatten
 xV:∀x c,∀J:env.cells.lookup x=aa c,c∉ρ.flatten
 xW:env.locals∉Γ.tabs
 sY:∀x c,∀J:env.cells.lookup x=aa c,c∉Γ.tabs
 Bk:Γ.g0.get? env.locals=aC
 vQ:∀x c,∀J:env.cells.lookup x=aa c,∀J:x≠("__class__":aM),Γ.g0.get? c=aC
 qe:∀x c,∀J:env.cells.lookup x=aa c,IsC h c
 apart:∀x y c,∀J:env.cells.lookup x=aa c,∀J:env.cells.lookup y=aa c,x=y
 neL:∀x c,∀J:env.cells.lookup x=aa c,c≠env.locals
 Mj:∀J:(loc.lookup ("errors":aM)).isSome=az,Γ.vd env
end
section
structure v9 (Γ:Cx)(k:Kd)(env:fu):Prop where
 kind:env.scope.kind= .function
 glob:env.globals=bW
 blt:env.builtins=dD
 loc:∀x,∀J:k x=aa .local,env.kindOf x=aa .local
 Ub:∀x,∀J:k x=aa .cell,env.kindOf x=aa .cell∧(env.cells.lookup x).isSome
 xT:∀x,∀J:k x=aa .free,(env.kindOf x=aa .cell∨env.kindOf x=aa .free)∧(env.cells.lookup x).isSome
 gn:∀x,∀J:k x=aa .globalImplicit,env.kindOf x=aa .globalImplicit
 Mj:∀J:k ("errors":aM)=aa .local,Γ.vd env
theorem v9.cR (O:v9 Γ k env)(x:aM)(h:k x=aa .cell∨k x=aa .free):env.kindOf x=aa .cell∨env.kindOf x=aa .free:=
 h.elim (λh=> .inl (O.Ub x h).1) λh=>(O.xT x h).1
structure jW (A:bQ)(l:List fu)(n:Nat):Prop where
 hand:A.handled=aC
 frames:A.frames=aa l
 depth:A.depth+4*n+20<mO
 units:A.units+16*n+400<yC
theorem jW.less (x:jW A l n)(h:m≤n):jW A l m:=⟨x.hand,x.frames,bz (bB (bK (vY 4 h) _) 20) x.depth,bz (bB (bK (vY 16 h) _) 400) x.units⟩
theorem jW.dep (a:jW A l (n+1)):A.depth+1+4*n+20<mO:=
 bz (bB (ak (bM (cB A.depth 1 (4*n))) (show A.depth+(4*n+1)≤A.depth+(4*n+4) from bK (bK (by decide) _) _)) 20) a.depth
theorem jW.uni {n c:Nat}(a:jW A l (n+1))(h:c≤16):A.units+c+16*n+400<yC:=
 bz (bB (ak (bM (cB A.units c (16*n))) (ak (bM (gO _ _ _)) (bK (bK h _) _))) 400) a.units
theorem jW.pred (x:jW A l (n+1)):jW A l n:=x.less (dC n)
theorem jW.zero (x:jW A l n):jW A l 0:=x.less (cL n)
def N6 (Γ:Cx)(l:List fu)(lk:List Nat)(ρ:eO)(s:aV){α β:Type}(q:Res α)(H':Hp)(R:eO->bL->α->β->Prop)(Q:PQ β)(E:PQ aB):Prop:=match q with
 | .ok v=>∀fj s' u,∀J:Ext Γ (m7 l) (Wr Γ lk ρ) ρ s fj s',∀J:SR Γ fj H' s',∀J:R fj s'.heap v u,Q u s'
 | .exc c m=>∀fj s' e X,∀J:Ext Γ (m7 l) (Wr Γ lk ρ) ρ s fj (uD s' X),∀J:SR Γ fj H' (uD s' X),∀J:Fly s.heap l c m X s'.heap e,E e s'
abbrev v5 (Γ:Cx):eO->bL->V->aB->Prop:=VR Γ
abbrev a7k (Γ:Cx):eO->bL->List V->List aB->Prop:=gA Γ
abbrev De:eO->bL->Bool->Bool->Prop:=λU U v u=>u=v
abbrev TT:eO->bL->Unit->Unit->Prop:=λU U U U=>True
def jo (Γ:Cx)(l:List fu)(lk:List Nat)(A:bQ)(ρ:eO)(s:aV){α β:Type}(r:Out α)(t:RW β)(R:eO->bL->α->β->Prop):Prop:=
 ∀q H',∀J:r=aa (q,H'),∀(Q:PQ β)(E:PQ aB),∀J:N6 Γ l lk ρ s q H' R Q E,aO Γ.M A t Q E s
section
variable {Γ:Cx}{l:List fu}{lk:List Nat}{A:bQ}{ρ aZ fj:eO}{H H':Hp}{s aU s':aV}{α β γ δ:Type}{R:eO->bL->α->β->Prop}{R':eO->bL->γ->∀J:δ,Prop}{Q:PQ β}{E:PQ aB}
theorem N6.ext (P:N6 Γ l lk ρ s q H' R Q E)(x:Ext Γ (m7 l) (Wr Γ lk ρ) ρ s aZ aU):N6 Γ l lk aZ aU q H' R Q E:=by
 cases q with
 | ok _=>exact λfj s' u x' S' r=>P fj s' u (x.trans x') S' r
 | exc _ _=>exact λfj s' e X x' S' r=>P fj s' e X (x.trans x') S' (r.less x.live)
theorem N6.take (ev:aa (r,H)=aa (q,H'))(P:N6 Γ l lk ρ s q H' R Q E):N6 Γ l lk ρ s r H R Q E:=by cases ev;exact P
theorem SR.same (S:SR Γ ρ H s)(hh:s'.heap=s.heap:=by rfl)(hg:s'.gens=s.gens:=by rfl):SR Γ ρ H s':=
 ⟨S.len,S.nodup,hh▸S.objs,hh▸S.base,S.apart,S.lR,hg▸S.gens,hh▸S.tabs⟩
theorem Ext.same {W:aW->Prop}(hh:s'.heap=s.heap:=by rfl)(ho:s'.os=s.os:=by rfl)(hd:s'.drawn=s.drawn:=by rfl):Ext Γ FS W ρ s ρ s':=
 ⟨.refl _ _,hh▸ .refl _ _ _,hh▸λU o e=>⟨o,e⟩,ho,hd⟩
theorem N6.ok (P:N6 Γ l lk ρ s (.ok v) H' R Q E)(S:SR Γ ρ H' s)(r:R ρ s.heap v u)(hh:s'.heap=s.heap:=by rfl)(hg:s'.gens=s.gens:=by rfl)(ho:s'.os=s.os:=by rfl)(hd:s'.drawn=s.drawn:=by rfl):Q u s':=
 P ρ s' u (.same hh ho hd) (S.same hh hg) (hh▸r)
theorem jo.none:jo Γ l lk A ρ s (aC:Out α) t R:=λU U e=>iu e
theorem jo.ok (h:∀Q E,∀J:N6 Γ l lk ρ s (.ok v) H R Q E,aO Γ.M A t Q E s):jo Γ l lk A ρ s (aa (.ok v,H)) t R:=λU U e Q E P=>h Q E (P.take e)
theorem jo.pure (S:SR Γ ρ H s)(h:R ρ s.heap v u):jo Γ l lk A ρ s (aa (.ok v,H)) (pure u) R:= .ok λU U P=>au (P.ok S h)
theorem jo.opt {f:α->Out γ}(h:∀a,∀J:o=aa a,jo Γ l lk A ρ s (f a) t R'):jo Γ l lk A ρ s (opt o f) t R':=by
 cases o with
 | none=>exact .none
 | some a=>exact h a rfl
theorem jo.fV (h:∀J:b=az,jo Γ l lk A ρ s r t R'):jo Γ l lk A ρ s (fV b r) t R':=by
 cases b with
 | true=>exact h rfl
 | false=>exact .none
theorem jo.of (h:jo Γ l lk A ρ s r t R)(i:∀Q E,∀J:aO Γ.M A t Q E s,aO Γ.M A t' Q E s):jo Γ l lk A ρ s r t' R:=λq H' e Q E P=>i Q E (h q H' e Q E P)
def n8 (Γ:Cx)(l:List fu)(lk:List Nat)(ρ:eO)(s:aV){α β:Type}(r:Out α)(W:∀J:(PQ β),∀J:(PQ aB),Prop)(R:eO->bL->α->β->Prop):Prop:=
 ∀q H',∀J:r=aa (q,H'),∀(Q:PQ β)(E:PQ aB),∀J:N6 Γ l lk ρ s q H' R Q E,W Q E
theorem n8.Ml {f:α->Hp->Out γ}{W:β->aV->∀J:(PQ δ),∀J:(PQ aB),Prop}(h:n8 Γ l lk ρ s r awj R)(BL:∀Q E,∀J:awj (λu s'=>W u s' Q E) E,W' Q E)
  (kk:∀v cM aZ aU u,∀J:Ext Γ (m7 l) (Wr Γ lk ρ) ρ s aZ aU,∀J:SR Γ aZ cM aU,∀J:R aZ aU.heap v u,n8 Γ l lk aZ aU (f v cM) (W u aU) R'):n8 Γ l lk ρ s (jd r f) W' R':=λq H' ev Q E P=>by
 refine BL Q E ?_;rcases r with _ | ⟨v | ⟨c,m⟩,cM⟩
 ·exact iu ev
 ·exact h _ _ rfl _ _ λaZ aU u x cg r=>kk v cM aZ aU u x cg r _ _ ev Q E (P.ext x)
 ·exact h _ _ rfl _ _ (P.take ev:N6 Γ l lk ρ s (.exc c m) cM R' Q E)
theorem n8.of {W W':∀J:(PQ β),∀J:(PQ aB),Prop}(h:n8 Γ l lk ρ s r W R)(i:∀Q E,∀J:W Q E,W' Q E):n8 Γ l lk ρ s r W' R:=λq H' e Q E P=>i Q E (h q H' e Q E P)
theorem jo.iZ {f:α->Hp->Out γ}{W:β->aV->∀J:(PQ δ),∀J:(PQ aB),Prop}(h:jo Γ l lk A' ρ s r t R)(BL:∀Q E,∀J:aO Γ.M A' t (λu s'=>W u s' Q E) E s,W' Q E)
  (kk:∀v cM aZ aU u,∀J:Ext Γ (m7 l) (Wr Γ lk ρ) ρ s aZ aU,∀J:SR Γ aZ cM aU,∀J:R aZ aU.heap v u,n8 Γ l lk aZ aU (f v cM) (W u aU) R'):n8 Γ l lk ρ s (jd r f) W' R':=
 n8.Ml h BL kk
theorem jo.Ml {f:α->Hp->Out γ}{g:β->RW δ}(h:jo Γ l lk A' ρ s r t R)(BL:∀Q E,∀J:aO Γ.M A' t (λu s'=>aO Γ.M A (g u) Q E s') E s,aO Γ.M A t' Q E s)
  (kk:∀v cM aZ aU u,∀J:Ext Γ (m7 l) (Wr Γ lk ρ) ρ s aZ aU,∀J:SR Γ aZ cM aU,∀J:R aZ aU.heap v u,jo Γ l lk A aZ aU (f v cM) (g u) R'):jo Γ l lk A ρ s (jd r f) t' R':=
 h.iZ BL kk
theorem n8.none:n8 Γ l lk ρ s (aC:Out α) W R:=λU U e=>iu e
theorem n8.ok (h:∀Q E,∀J:N6 Γ l lk ρ s (.ok v) H R Q E,W Q E):n8 Γ l lk ρ s (aa (.ok v,H)) W R:=λU U e Q E P=>h Q E (P.take e)
theorem n8.opt {f:α->Out γ}(h:∀a,∀J:o=aa a,n8 Γ l lk ρ s (f a) W R'):n8 Γ l lk ρ s (opt o f) W R':=by
 cases o with
 | none=>exact .none
 | some a=>exact h a rfl
theorem n8.fV (h:∀J:b=az,n8 Γ l lk ρ s r W R'):n8 Γ l lk ρ s (fV b r) W R':=by
 cases b with
 | true=>exact h rfl
 | false=>exact .none
theorem jo.bind {f:α->Hp->Out γ}{g:β->RW δ}(h:jo Γ l lk A ρ s r t R)
  (kk:∀v cM aZ aU u,∀J:Ext Γ (m7 l) (Wr Γ lk ρ) ρ s aZ aU,∀J:SR Γ aZ cM aU,∀J:R aZ aU.heap v u,jo Γ l lk A aZ aU (f v cM) (g u) R'):jo Γ l lk A ρ s (jd r f) (t>>=g) R':=
 h.Ml (λU U w=>aj w) kk
end
section
variable {Γ:Cx}{FS:List aW}{W W' uH:aW->Prop}{lk:List Nat}{ρ fj aZ dI:eO}{s s' aU bO:aV}
theorem Ext.weaken (x:Ext Γ FS W ρ s fj s')(hw:∀b,∀J:W b,W' b):Ext Γ FS W' ρ s fj s':=⟨x.grow,x.vf.weaken hw,x.live,x.os,x.drawn⟩
structure OffW (Γ:Cx)(ρ:eO)(b:aW):Prop where
 obj:b∉ρ.flatten
 tab:b∉Γ.tabs
theorem Ext.off (hb:b∉ρ.flatten)(ht:b∉Γ.tabs):¬Wr Γ lk ρ b:=λq=>q.elim ht (by rintro⟨_,r,e,hm,_⟩;exact hb (cG.mpr ⟨r,aR e,hm⟩))
theorem Ext.Uc (x:Ext Γ FS W ρ s fj s')(hb:b∉ρ.flatten)(e:s.heap.get? b=aa o):b∉fj.flatten:=λhm=>by obtain⟨τ,rfl,hn⟩:=x.grow.more;rw[gh,cX]at hm;exact hm.elim hb λhm=>iu ((hn b hm).symm.trans e)
inductive Df (h:bL)(b:aW)(o:oH):Prop
 | mk (o':oH) (ho:h.get? b=aa o') (hd:o'.data=o.data):Df h b o
theorem Ext.data (x:Ext Γ FS (Wr Γ lk ρ) ρ s fj s')(hb:b∉ρ.flatten)(ht:b∉Γ.tabs)(e:s.heap.get? b=aa o):Df s'.heap b o:=by
 by_cases hf:b∈FS
 ·exact(x.vf.fs b o e (Ext.off hb ht) hf).elim λsl e'=>⟨_,e',rfl⟩
 ·exact⟨o,x.vf.keep b o e (Ext.off hb ht) hf,rfl⟩
theorem Df.ns {h h':bL}{m:aM->Option aB}(hl:∀o,∀J:h.get? b=aa o,Df h' b o)(hn:h.Ns b m):h'.Ns b m:=by obtain⟨o,es,ep,ho,hd,r⟩:=hn;obtain⟨o',uh,Dg⟩:=hl o ho;exact⟨o',es,ep,uh,Dg.trans hd,r⟩
theorem Mi.sH (K:Mi Γ ρ h e)(hl:∀L o,∀J:L∉ρ.flatten,∀J:L∉Γ.tabs,∀J:h.get? L=aa o,Df h' L o∧L∉fj.flatten):Mi Γ fj h' e:=by obtain⟨L,o,es,n,hk,hf,ho,hd,hb,ht,hg⟩:=K;obtain⟨⟨o',uh,Dg⟩,hn⟩:=hl L o hb ht ho;exact⟨L,o',es,n,hk,hf,uh,Dg.trans hd,hn,ht,hg⟩
theorem IsC.sH (x:IsC h c)(hl:∀o,∀J:h.get? c=aa o,Df h' c o):IsC h' c:=by obtain⟨o,v,ho,hd⟩:=x;obtain⟨o',uh,Dg⟩:=hl o ho;exact⟨o',v,uh,Dg.trans hd⟩
theorem Df.cell {h h':bL}(hl:∀o,∀J:h.get? c=aa o,Df h' c o)(x:h.IsCell c v):h'.IsCell c v:=by refine lO x λo ho hd=> ?_;obtain⟨o',uh,Dg⟩:=hl o ho;exact⟨o',uh,Dg.trans hd⟩
theorem NsR.there (x:NsR Γ ρ h L loc):∃o,h.get? L=aa o:=by obtain⟨_,⟨o,_,_,ho,_⟩,_⟩:=x;exact⟨o,ho⟩
theorem NsR.sH (x:NsR Γ ρ h L loc)(hl:∀o,∀J:h.get? L=aa o,Df h' L o)(hv:∀v u,∀J:VR Γ ρ h v u,VR Γ fj h' v u):NsR Γ fj h' L loc:=by obtain⟨m,hn,hl'⟩:=x;exact⟨m,Df.ns hl hn,λx v e=>(hl' x v e).imp λu q=>⟨q.1,hv v u q.2⟩⟩
theorem Dd.sH (y:Dd Γ ρ h cs x v)(hl:∀c o,∀J:cs.lookup x=aa c,∀J:h.get? c=aa o,Df h' c o)(hv:∀v u,∀J:VR Γ ρ h v u,VR Γ fj h' v u):Dd Γ fj h' cs x v:=by obtain⟨c,u,hc,ho,hr⟩:=y;exact⟨c,u,hc,Df.cell (hl c · hc) ho,hv v u hr⟩
theorem FR.sH (F:FR Γ l ρ h env loc cR)(hl:∀L o,∀J:L∉ρ.flatten,∀J:L∉Γ.tabs,∀J:h.get? L=aa o,Df h' L o∧L∉fj.flatten)(hv:∀v u,∀J:VR Γ ρ h v u,VR Γ fj h' v u):FR Γ l fj h' env loc cR:=
 ⟨λe he=>(F.uU e he).sH hl,F.ns.sH (λo e=>(hl _ o F.wI F.xW e).1) hv,λx v e=>(F.cells x v e).sH (λc o hc e=>(hl c o (F.xV x c hc) (F.sY x c hc) e).1) hv,F.ns.there.elim λo e=>(hl _ o F.wI F.xW e).2,λx c e=>(F.qe x c e).casesOn λo U ho U=>(hl c o (F.xV x c e) (F.sY x c e) ho).2,F.xW,F.sY,F.Bk,F.vQ,λx c e=>(F.qe x c e).sH λo ho=>(hl c o (F.xV x c e) (F.sY x c e) ho).1,F.apart,F.neL,F.Mj⟩
theorem Ext.sH (x:Ext Γ FS (Wr Γ lk ρ) ρ s fj s')(L:aW)(o:oH)(h1:L∉ρ.flatten)(h2:L∉Γ.tabs)(e:s.heap.get? L=aa o):Df s'.heap L o∧L∉fj.flatten:=⟨x.data h1 h2 e,x.Uc h1 e⟩
theorem I7.ext (K:I7 Γ l ρ s.heap)(x:Ext Γ FS (Wr Γ lk ρ) ρ s fj s'):I7 Γ l fj s'.heap:=λe he=>(K e he).sH x.sH
theorem FR.ext (F:FR Γ l ρ s.heap env loc cR)(x:Ext Γ FS (Wr Γ lk ρ) ρ s fj s'):FR Γ l fj s'.heap env loc cR:=F.sH x.sH λU U h=>h.ext x
end
end
section
section
variable {Γ:Cx}{ρ fj:eO}{H:Hp}{s s':aV}{h h':bL}{r:List aW}{mo mo':p6}{i:Nat}{FS:List aW}{W:aW->Prop}{lk:List Nat}
theorem aG1 (nd:ρ.flatten.Nodup)(hi:ρ[i]?=aa r)(hj:ρ[j]?=aa r')(ne:i≠j)(hb:b∈r)(hb':b∈r'):False:=by have h2:=rG.mp (List.pairwise_flatten.mp nd).2;obtain⟨li,e1⟩:=aL.mp hi;obtain⟨lj,e2⟩:=aL.mp hj;exact(Nat.lt_or_gt_of_ne ne).elim (λq=>h2 i j li lj q b (e1▸hb) b (e2▸hb') rfl) λq=>h2 j i lj li q b (e2▸hb') b (e1▸hb) rfl
inductive S5 (h:bL)(b:aW):Prop
 | mk (o:oH) (ho:h.get? b=aa o) (hm:K3 o):S5 h b
theorem mk1 (hb:b∈ [a])(ha:h.get? a=aa o)(hm:K3 o):S5 h b:=⟨o,aP.mp hb▸ha,hm⟩
theorem mk2 (hb:b∈ [a,d])(ha:h.get? a=aa o)(hm:K3 o)(hd:h.get? d=aa od)(hm':K3 od):S5 h b:=(aY.mp hb).elim (λq=>⟨o,q▸ha,hm⟩) λq=>mk1 q hd hm'
theorem OR.a7l:∀{mo:p6}{r:List aW},∀J:OR Γ ρ h mo r,∀J:b∈r,S5 h b
 | .list _,_,.mk _ _ _ ha _ _,hb=>mk1 hb ha (.inl rfl)
 | .inst c _,_,.mk _ _ _ _ ha hd _ _ _,hb=>mk2 hb ha (.inr (.inl ⟨c,rfl⟩)) hd (.inr (.inr (.inl rfl)))
 | .acc c _ _,_,.mk _ _ _ _ _ _ ha hd _ _ _ _ _,hb=>mk2 hb ha (.inr (.inl ⟨c,rfl⟩)) hd (.inr (.inr (.inl rfl)))
 | .vN,_,.mk _ _ hd,hb=>mk1 hb hd (.inr (.inr (.inl rfl)))
inductive aqb (Γ:Cx)(ρ:eO)(h:bL)(i:Nat)(o:p6):Prop
 | mk (r:List aW) (hr:ρ[i]?=aa r) (om:OR Γ ρ h o r):aqb Γ ρ h i o
theorem SR.at_ (S:SR Γ ρ H s)(hi:H[i]?=aa mo):aqb Γ ρ s.heap i mo:=(S.objs i mo hi).elim λr q=>⟨r,q.1,q.2⟩
theorem SR.or (S:SR Γ ρ H s)(hi:H[i]?=aa mo)(hr:ρ[i]?=aa r):OR Γ ρ s.heap mo r:=(S.objs i mo hi).elim λU q=>(aq (hr.symm.trans q.1))▸q.2
theorem SR.live (S:SR Γ ρ H s)(hb:b∈ρ.flatten):S5 s.heap b:=by refine lO (cG.mp hb) λr hr hb=> ?_;obtain⟨i,hi,e⟩:=List.getElem_of_mem hr;exact(S.or (bD (S.len▸hi)) ((bD hi).trans (congrArg aa e))).a7l hb
theorem ac2 {α:Type}{l:List α}{a:α}{n:Nat}(h:l.length=n):(l++ [a])[n]?=aa a:=by subst h;simp
theorem aS2 {α:Type}{l:List α}{a b:α}(e:(l++ [a])[i]?=aa b):l[i]?=aa b∨(i=l.length∧b=a):=by
 rcases Nat.lt_or_ge i l.length with hi | hi
 ·exact .inl ((ig hi).symm.trans e)
 ·rw[gM hi]at e
  have h2:=Nat.lt_one_iff.mp ((aL.mp e).1);simp only[h2]at e;exact .inr ⟨gZ (Lb h2) hi,(aq e).symm⟩
theorem SR.Mm (S:SR Γ ρ H s)(kp:∀b o,∀J:b∈Γ.tabs,∀J:s.heap.get? b=aa o,s'.heap.get? b=aa o)(im:∀b o,∀J:s.heap.get? b=aa o,∀J:¬K3 o,s'.heap.get? b=aa o):Γ.tabsOk s'.heap:=
 Γ.vP _ _ (λt ht=>(Γ.nJ _ S.tabs t ht).elim λo q=>(kp t o ht q.1).trans q.1.symm) im S.tabs
theorem SR.rI (S:SR Γ ρ H s)(kp:∀b o,∀J:s.heap.get? b=aa o,s'.heap.get? b=aa o)(fr:∀b∈r,s.heap.get? b=aC)(rn:r.Nodup)(x:OR Γ (ρ++ [r]) s'.heap mo r)(hg:s'.gens=s.gens:=by rfl):SR Γ (ρ++ [r]) (H++ [mo]) s':=by
 have fl:(ρ++ [r]).flatten=ρ.flatten++r:=by simp
 have g:H9 ρ s.heap (ρ++ [r]):=⟨[r],rfl,λb hb=>fr b (by simpa using hb)⟩;have new:∀{b},∀J:b∈r,∀{o},s.heap.get? b≠aa o:=λhb U e=>iu ((fr _ hb).symm.trans e);refine⟨by refine aD aA (aD aA (aD S.len ?_));rfl, ?_,λi o e=> ?_,λb o e=>kp b o (S.base b o e),λb hb=> ?_,λb hb=> ?_,hg▸S.gens,S.Mm (λb o U e=>kp b o e) (λb o e U=>kp b o e)⟩
 ·rw[fl,ade]
  exact⟨S.nodup,rn,λa ha b hb q=>(S.live ha).casesOn λU ho U=>new (q▸hb) ho⟩
 ·rcases aS2 e with e | ⟨e,q⟩
  ·exact(S.objs i o e).imp λr' q=>⟨g.get q.1,q.2.mono g (λb o e U=>kp b o e) λb U o e=>kp b o e⟩
  ·exact⟨r,e▸ac2 S.len,q▸x⟩
 ·rw[fl,cX]at hb
  refine hb.elim (S.apart b) λhb=> ?_;cases q:Γ.g0.get? b with
  | none=>rfl
  | some o=>exact(new hb (S.base b o q)).elim
 ·rw[fl,cX]at hb
  exact hb.elim (S.lR b) λhb ht=>(Γ.nJ _ S.tabs b ht).elim λo q=>new hb q.1
theorem Ext.rI (kp:∀b o,∀J:s.heap.get? b=aa o,s'.heap.get? b=aa o)(fr:∀b∈r,s.heap.get? b=aC)(ho:s'.os=s.os:=by rfl)(hd:s'.drawn=s.drawn:=by rfl):Ext Γ FS W ρ s (ρ++ [r]) s':=
 ⟨⟨[r],rfl,λb hb=>fr b (by simpa using hb)⟩,.of_keeps kp,λb o e=>⟨o,kp b o e⟩,ho,hd⟩
theorem SR.keeps (S:SR Γ ρ H s)(kp:∀b o,∀J:s.heap.get? b=aa o,s'.heap.get? b=aa o)(hg:s'.gens=s.gens:=by rfl):SR Γ ρ H s':=
 ⟨S.len,S.nodup,λi o e=>(S.objs i o e).imp λU q=>⟨q.1,q.2.mono (H9.refl ρ s.heap) (λb o e U=>kp b o e) λb U o e=>kp b o e⟩,λb o e=>kp b o (S.base b o e),S.apart,S.lR,hg▸S.gens,S.Mm (λb o U e=>kp b o e) λb o e U=>kp b o e⟩
theorem Ext.keeps (kp:∀b o,∀J:s.heap.get? b=aa o,s'.heap.get? b=aa o)(ho:s'.os=s.os:=by rfl)(hd:s'.drawn=s.drawn:=by rfl):Ext Γ FS W ρ s ρ s':=
 ⟨.refl _ _,.of_keeps kp,λb o e=>⟨o,kp b o e⟩,ho,hd⟩
theorem OR.vH (om:OR Γ ρ h mo r)(kp:∀b o,∀J:b∉r,∀J:h.get? b=aa o,h'.get? b=aa o)(b:aW)(o:oH)(e:h.get? b=aa o)(n:¬K3 o):h'.get? b=aa o:=
 kp b o (λhb=>(om.a7l hb).casesOn λU ho hm=>n (aq (ho.symm.trans e)▸hm)) e
theorem SR.Fq (S:SR Γ ρ H s)(hi:H[i]?=aa mo)(hr:ρ[i]?=aa r)(kp:∀b o,∀J:b∉r,∀J:s.heap.get? b=aa o,s'.heap.get? b=aa o)(x:OR Γ ρ s'.heap mo' r)(hg:s'.gens=s.gens:=by rfl):SR Γ ρ (H.set i mo') s':=by
 have im:=(S.or hi hr).vH kp;have mem:∀b∈r,b∈ρ.flatten:=λb hb=>cG.mpr ⟨r,aR hr,hb⟩;refine⟨aD bx (aD S.len rfl),S.nodup,λj o e=> ?_,λb o e=>kp b o (λhb=>iu ((S.apart b (mem b hb)).symm.trans e)) (S.base b o e),S.apart,S.lR,hg▸S.gens,S.Mm (λb o hb e=>kp b o (λq=>S.lR b (mem b q) hb) e) im⟩;by_cases hj:i=j
 ·subst hj
  rw[bC (aL.mp hi).1]at e;exact⟨r,hr,aq e▸x⟩
 ·rw[bH hj]at e
  exact(S.objs j o e).imp λr' q=>⟨q.1,q.2.mono (H9.refl ρ s.heap) im λb hb o e=>kp b o (λhb'=>aG1 S.nodup hr q.1 hj hb' hb) e⟩
theorem Ext.Fq (S:SR Γ ρ H s)(hi:H[i]?=aa mo)(hr:ρ[i]?=aa r)(hl:i∉lk)(kp:∀b o,∀J:b∉r,∀J:s.heap.get? b=aa o,s'.heap.get? b=aa o)(lv:∀b∈r,∃o,s'.heap.get? b=aa o)(ho:s'.os=s.os:=by rfl)(hd:s'.drawn=s.drawn:=by rfl):Ext Γ FS (Wr Γ lk ρ) ρ s ρ s':=by
 have wr:∀b∈r,Wr Γ lk ρ b:=λb hb=> .inr ⟨i,r,hr,hb,hl⟩;refine⟨.refl _ _,⟨(S.or hi hr).vH kp,λb o e n U=>kp b o (λhb=>n (wr b hb)) e,λb o e n U=>⟨o.slots,kp b o (λhb=>n (wr b hb)) e⟩⟩,λb o e=> ?_,ho,hd⟩;by_cases hb:b∈r
 ·exact lv b hb
 ·exact⟨o,kp b o hb e⟩
theorem J0 (h:bL):h.get? h.objs.size=aC:=fZ (aN _)
theorem K7 (h:bL)(o:oH):∀b x,∀J:h.get? b=aa x,(h.push o).get? b=aa x:=λU U e=>aK _ e
theorem aj7 (h:bL):∀b∈ [h.objs.size],h.get? b=aC:=λb hb=>aP.mp hb▸J0 h
theorem ay6 (ρ:eO)(h:bL):H9 ρ h (ρ++ [[h.objs.size]]):=⟨_,rfl,λb hb=>aj7 h b (by simpa using hb)⟩
theorem gA.nil (x:gA Γ ρ h [] us):us= []:=x
theorem gA.length:∀{l:List V}{us:List aB},∀J:gA Γ ρ h l us,us.length=l.length:=by
 intro zz
 induction zz with
 | nil=>
  intro _ x;exact congrArg List.length x.nil
 | cons _ _ ih=>
  rintro _ ⟨_,_,_,hs⟩;exact congrArg tH (ih hs)
end
section
variable {Γ:Cx}{l:List fu}{lk:List Nat}{A:bQ}{ρ:eO}{H:Hp}{s:aV}{α β:Type}{R:eO->bL->α->β->Prop}{Q:PQ aB}{E:PQ aB}{vs:List V}{us:List aB}{t:RW aB}
theorem ar6 (S:SR Γ ρ H s)(hv:gA Γ ρ s.heap vs us)(hz:vs.length≤16777216)(P:N6 Γ l lk ρ s (.ok (.ref H.length)) (H++ [.list vs]) (v5 Γ) Q E):Q (.ref s.heap.objs.size) {s with heap:=s.heap.push {cls:= .type "list",data:= .seq us.toArray}}:=
 have kp:=K7 s.heap {cls:= .type "list",data:= .seq us.toArray}
 P (ρ++ [[s.heap.objs.size]]) _ _ (Ext.rI kp (aj7 _)) (S.rI kp (aj7 _) (by simp) ⟨_,us.toArray,0,bj _ rfl,hv.mono (ay6 ρ _) λb o e U=>kp b o e,hz⟩) ⟨_, [],ac2 S.len⟩
theorem Ud (S:SR Γ ρ H s)(hv:gA Γ ρ s.heap vs us)(P:N6 Γ l lk ρ s (.ok (.tup vs)) H (v5 Γ) Q E):Q (.ref s.heap.objs.size) {s with heap:=s.heap.push {cls:= .type "tuple",data:= .seq us.toArray}}:=
 have kp:=K7 s.heap {cls:= .type "tuple",data:= .seq us.toArray}
 P ρ _ _ (Ext.keeps kp) (S.keeps kp) ⟨_,us.toArray,0,bj _ rfl,hv.mono (H9.refl ρ s.heap) λb o e U=>kp b o e⟩
theorem jo.alloc (S:SR Γ ρ H s)(hv:gA Γ ρ s.heap vs us)(hz:vs.length≤16777216)(h:∀Q E,∀J:Q (.ref s.heap.objs.size) {s with heap:=s.heap.push {cls:= .type "list",data:= .seq us.toArray}},aO Γ.M A t Q E s):jo Γ l lk A ρ s (alloc H (.list vs)) t (v5 Γ):=
 .ok λQ E P=>h Q E (ar6 S hv hz P)
theorem jo.put {t:RW β}(h:∀J:i∉lk,∀Q E,∀J:N6 Γ l lk ρ s (.ok a) (H.set i o) R Q E,aO Γ.M A t Q E s):jo Γ l lk A ρ s (put lk H i o a) t R:=
 .fV λhn=> .ok (h (by simpa using hn))
end
section
variable {Γ:Cx}{ρ:eO}{H:Hp}{s:aV}{h:bL}{v:V}{u:aB}
theorem p7 {α:Type}{a:α}{C:Prop}(h:(aC:Option α)=aa a):C:=iu h
theorem S9 {α β:Type}{o:Option α}{f:α->Option β}{b:β}(e:opt o f=aa b):∃a,o=aa a∧f a=aa b:=by
 cases o with
 | none=>exact p7 e
 | some a=>exact⟨a,rfl,e⟩
theorem T3 {β:Type}{c:Bool}{r:Option β}{b:β}(e:fV c r=aa b):c=az∧r=aa b:=by
 cases c with
 | false=>exact p7 e
 | true=>exact⟨rfl,e⟩
theorem g8 {α β:Type}{o:Option α}{f:α->Option β}{b:β}{C:Prop}(e:opt o f=aa b)(k:∀a,∀J:o=aa a,∀J:f a=aa b,C):C:=(S9 e).elim λa h=>k a h.1 h.2
theorem I5 {β:Type}{c:Bool}{r:Option β}{b:β}{C:Prop}(e:fV c r=aa b)(k:∀J:c=az,∀J:r=aa b,C):C:=k (T3 e).1 (T3 e).2
theorem aG2 (e:intOf v=aa i):v= .int i:=by
 cases v with
 | int j=>exact congrArg V.int (aq e)
 | _=>exact p7 e
theorem aG3 (e:strOf v=aa i):v= .str i:=by
 cases v with
 | str j=>exact congrArg V.str (aq e)
 | _=>exact p7 e
theorem aG4 (e:uf v=aa l):v= .tup l:=by
 cases v with
 | tup j=>exact congrArg V.tup (aq e)
 | _=>exact p7 e
theorem Ue (e:Fd v=aa w):v= .gl w:=by
 cases v with
 | gl j=>exact congrArg V.gl (aq e)
 | _=>exact p7 e
theorem VR.intOf (x:VR Γ ρ h v u)(e:intOf v=aa i):Mf i u:=(aG2 e▸x:VR Γ ρ h (.int i) u)
theorem VR.strOf (x:VR Γ ρ h v u)(e:strOf v=aa i):Mg i u:=(aG3 e▸x:VR Γ ρ h (.str i) u)
theorem VR.uf (x:VR Γ ρ h v u)(e:uf v=aa l):Mh h (gA Γ ρ h l) u:=(aG4 e▸x:VR Γ ρ h (.tup l) u)
theorem VR.Fd (x:VR Γ ρ h v u)(e:Fd v=aa w):u=w:=(Ue e▸x:VR Γ ρ h (.gl w) u)
inductive W3 (Γ:Cx)(ρ:eO)(H:Hp)(h:bL)(i:Nat)(l:List V):aB->Prop
 | mk (a:aW) (xs:Array aB) (n:Nat) (hi:H[i]?=aa (.list l)) (hr:ρ[i]?=aa [a]) (ha:h.get? a=aa (listOf xs n)) (hs:gA Γ ρ h l xs.toList) (hz:l.length≤16777216):W3 Γ ρ H h i l (.ref a)
inductive ap0 (Γ:Cx)(ρ:eO)(H:Hp)(h:bL)(i:Nat)(c:aW)(d:j8):aB->Prop
 | mk (a dx:aW) (es:List iR) (n:Nat) (hi:H[i]?=aa (.inst c d)) (hr:ρ[i]?=aa [a,dx]) (ha:h.get? a=aa (instObj c dx)) (hd:h.get? dx=aa (iU es n)) (pJ:DR Γ ρ h d es) (uE:(Γ.G.bN c "__init__").isSome=az) (hc:c≠Γ.G.fW):ap0 Γ ρ H h i c d (.ref a)
inductive Bl (Γ:Cx)(ρ:eO)(H:Hp)(h:bL)(i:Nat)(c:aW)(d:j8)(l:List V):aB->Prop
 | mk (a dx:aW) (es:List iR) (n:Nat) (xs:Array aB) (k:Nat) (hi:H[i]?=aa (.acc c d l)) (hr:ρ[i]?=aa [a,dx]) (ha:h.get? a=aa {cls:= .ref Γ.G.fW,dict:=aa dx,data:= .seq xs k}) (hd:h.get? dx=aa (iU es n)) (pJ:DR Γ ρ h d es) (hs:gA Γ ρ h l xs.toList) (hz:l.length≤16777216)
   (hc:c=Γ.G.fW) (uE:(Γ.G.bN Γ.G.fW "__init__").isSome=az):Bl Γ ρ H h i c d l (.ref a)
theorem ai8 {i:Nat}(e:ρ[i]?=aa (a::r))(e':ρ[i]?=aa (b::r')):a=b:=(bI (aq (e.symm.trans e'))).1
theorem VR.list (x:VR Γ ρ s.heap (.ref i) u)(S:SR Γ ρ H s)(hi:H[i]?=aa (.list l)):W3 Γ ρ H s.heap i l u:=by obtain⟨b,r,e⟩:=x;obtain⟨r',hr,⟨a,xs,n,ha,hs,hz⟩⟩:=S.at_ hi;obtain rfl:=ai8 e hr;exact⟨b,xs,n,hi,hr,ha,hs,hz⟩
theorem VR.inst (x:VR Γ ρ s.heap (.ref i) u)(S:SR Γ ρ H s)(hi:H[i]?=aa (.inst c d)):ap0 Γ ρ H s.heap i c d u:=by obtain⟨b,r,e⟩:=x;obtain⟨r',hr,⟨a,dx,es,n,ha,hd,pJ,h1,h2⟩⟩:=S.at_ hi;obtain rfl:=ai8 e hr;exact⟨b,dx,es,n,hi,hr,ha,hd,pJ,h1,h2⟩
theorem VR.acc (x:VR Γ ρ s.heap (.ref i) u)(S:SR Γ ρ H s)(hi:H[i]?=aa (.acc c d l)):Bl Γ ρ H s.heap i c d l u:=by obtain⟨b,r,e⟩:=x;obtain⟨r',hr,⟨a,dx,es,n,xs,k,ha,hd,pJ,hs,hz,h1,h2⟩⟩:=S.at_ hi;obtain rfl:=ai8 e hr;exact⟨b,dx,es,n,xs,k,hi,hr,h1▸ha,hd,pJ,hs,hz,h1,h1▸h2⟩
theorem al4 (e:refOf v=aa i):v= .ref i:=by
 cases v with
 | ref j=>exact congrArg V.ref (aq e)
 | _=>exact p7 e
theorem lst_inv (e:lst o=aa l):o= .list l:=by
 cases o with
 | list j=>exact congrArg p6.list (aq e)
 | _=>exact p7 e
theorem afs (e:ins o=aa p):o= .inst p.1 p.2:=by
 cases o with
 | inst c d=>exact aq e▸rfl
 | _=>exact p7 e
theorem Ug (e:a6e o=aa p):o= .acc p.1 p.2.1 p.2.2:=by
 cases o with
 | acc c d l=>exact aq e▸rfl
 | _=>exact p7 e
theorem am9 {α:Type}{f:p6->Option α}{p:Nat×α}(e:(opt (refOf v) λi=>opt H[i]? λo=>opt (f o) λx=>aa (i,x))=aa p):∃o,v= .ref p.1∧H[p.1]?=aa o∧f o=aa p.2:=by refine g8 e λi e1 e=> ?_;refine g8 e λo e2 e=> ?_;refine g8 e λx e3 e=> ?_;obtain rfl:(i,x)=p:=aq e;exact⟨o,al4 e1,e2,e3⟩
theorem aS3 (e:listAt H v=aa p):v= .ref p.1∧H[p.1]?=aa (.list p.2):=(am9 e).elim λU q=>⟨q.1,lst_inv q.2.2▸q.2.1⟩
theorem VR.listAt (x:VR Γ ρ s.heap v u)(S:SR Γ ρ H s)(e:listAt H v=aa p):W3 Γ ρ H s.heap p.1 p.2 u:=have q:=aS3 e;(q.1▸x:VR Γ ρ s.heap (.ref p.1) u).list S q.2
theorem VR.ug (x:VR Γ ρ s.heap v u)(S:SR Γ ρ H s)(e:ug H v=aa p):ap0 Γ ρ H s.heap p.1 p.2.1 p.2.2 u:=(am9 e).elim λU q=>(q.1▸x:VR Γ ρ s.heap (.ref p.1) u).inst S (afs q.2.2▸q.2.1)
theorem VR.sX (x:VR Γ ρ s.heap v u)(S:SR Γ ρ H s)(e:sX H v=aa p):Bl Γ ρ H s.heap p.1 p.2.1 p.2.2.1 p.2.2.2 u:=(am9 e).elim λU q=>(q.1▸x:VR Γ ρ s.heap (.ref p.1) u).acc S (Ug q.2.2▸q.2.1)
end
end
section
section
variable {Γ:Cx}{l:List fu}{lk:List Nat}{A:bQ}{ρ:eO}{H:Hp}{s:aV}{h:bL}{a b:V}{u v:aB}
theorem J3 {a:aW}(e:h.get? a=aa (listOf xs n)):h.IsList a xs:=⟨_,e,rfl,n,rfl⟩
theorem af7 {a:aW}(e:h.get? a=aa {cls:= .type "tuple",data:= .seq xs n}):h.IsTuple a xs:=⟨_,e,rfl,n,rfl⟩
theorem gA.append:∀{l m:List V}{us vs:List aB},∀J:gA Γ ρ h l us,∀J:gA Γ ρ h m vs,gA Γ ρ h (l++m) (us++vs):=by
 intro zz;cases zz with
 | nil=>
  intro _ _ _ x y;refine aD x.nil ?_;exact y
 | cons _ _=>
  rintro _ _ _ ⟨_,_,hv,hs⟩ y;exact .mk _ _ hv (hs.append y)
theorem gA.rep {l:List V}(x:gA Γ ρ h l us):∀j:Nat,gA Γ ρ h (jN j l).flatten (jN j us).flatten:=by
 intro zz;cases zz with
 | zero=>
  exact rfl
 | succ j=>
  refine aD qD (aD qD (aD dX (aD dX ?_)));exact x.append (x.rep j)
theorem gA.size {l:List V}{xs:Array aB}(x:gA Γ ρ h l xs.toList):xs.size=l.length:=cj.symm.trans x.length
theorem aJ7 {l b:aW}(ho:s.heap.get? l=aa (listOf vs n))(ho2:s.heap.get? b=aa (listOf ws n2))
  (h:Q (.ref s.heap.objs.size) {s with heap:=s.heap.push {cls:= .type "list",data:= .seq (vs++ws)}}) (wJ:vs.size+ws.size≤sO):aO (gK prog w) A (oE .Add (.ref l) (.ref b)) Q E s:=
 concat_meets ⟨_,ho,rfl⟩ ⟨_,ho2,rfl⟩ noFill_list_add seq_list_add PySem.F.slot_list_add PySem.F.entry_list_add (PySem.F.args_list_add_2 _ _) (list_addW l b vs ws n n2 aC aC #[] #[] wJ) ⟨ho,ho2,h⟩
theorem aK7 {l:aW}{u:Tok}
  (hl:s.heap.get? l=aa (listOf items k)) (hlo: -(2^63:Int)≤x) (hhi:x<2^63) (wJ:items.size*x.toNat≤2^24)
  (h:Q (.ref s.heap.objs.size) {s with heap:=s.heap.push {cls:= .type "list",data:= .seq (Ay (λx1 x2=>x1++x2) #[] (jN (if items.isEmpty=az then 0 else x.toNat) items))}}):
  aO (gK prog w) A (oE .Mult (.ref l) (.int x u)) Q E s:=
 wpAny_binaryOp_repeat_ref (by decide) ⟨_,hl,rfl⟩ (λs'=>yV s' x u) noFill_list_mul F.fills_int_mul F.slot_int_rmul repeat_list F.slot_int_index.lookup
  (qF F.slot_int_rmul (yV s x u) F.entry_int_rmul (F.args_int_rmul_2 _ _) (int___rmul___int_list x u l items k)
   ⟨hl,rfl,⟨_,hl,rfl⟩,qF F.slot_list_mul ⟨_,hl,rfl⟩ F.entry_list_mul (F.args_list_mul_2 _ _)
    (AutoListH.list___mul___list_int_3 l items k x u (by simp [dZ];exact⟨hlo,hhi⟩) (by lia) (by simp [xJ,sO];assumption))
    ⟨hl,h⟩⟩)
theorem aG5 {α:Type}(x:Array α):∀j acc,(Ay (λx1 x2=>x1++x2) acc (jN j x)).toList=acc.toList++(jN j x.toList).flatten:=by
 intro zz
 induction zz with
 | zero=>
  intro acc;simp
 | succ j ih=>
  intro acc;simp only[qD,gY,ih,qD,dX,dH,aH]
theorem aft (h0:0≤n):Txt.mul x n=toS (rep x.cps.toList n):=by
 unfold Txt.mul toS rep;by_cases h1:n<1
 ·have:n=0:=by lia
  subst this;simp [mz]
 ·rw[bu h1]
  by_cases h2:(n==1 || x.length==0)=az
  ·rw[bG h2]
   rcases dJ.mp h2 with q | q
   ·have:n=1:=by simpa using q
    subst this;cases x;simp
   ·have:x.cps.size=0:=by simpa [Str.length] using q
    obtain⟨c⟩:=x;have hc:=Array.eq_empty_of_size_eq_zero this;subst hc;simp
  ·rw[bu h2]
   congr 1
   apply Array.ext';rw[aG5];simp
theorem I2 (h:room n=az):n≤16777216:=fH h
theorem j5 {a b:Bool}(h:(a&&b)=az):a=az∧b=az:=(fO _ _).mp h
theorem afu {n:Nat}(h:n≤16777216):(n:Int)<2^63:=ju (du.mpr h) (by decide)
theorem d7 {a b:Bool}(h:(a&&b)=az):a=az:=(j5 h).1
theorem j9 {a b:Bool}(h:(a&&b)=az):b=az:=(j5 h).2
theorem V8 (h:small i=az): -9223372036854775808≤i∧i<9223372036854775808:=⟨fH (d7 h),fH (j9 h)⟩
theorem Uh (h:few i=az):0≤i∧i≤1000000:=⟨fH (d7 h),fH (j9 h)⟩
theorem au7 {v:V}(h:Rv x=aa v):v= .str x∧x.length≤16777216:=⟨(aq (T3 h).2).symm,I2 (T3 h).1⟩
theorem aM.oV (x y:aM):(x.append y).length=x.length+y.length:=wR
theorem aE0 (h:∀J:x.length≤16777216,∀Q E,∀J:(∀tk yq,Q (.str x tk) {s with toks:=yq}),aO Γ.M A t Q E s)(S:SR Γ ρ H s):jo Γ l lk A ρ s (opt (Rv x) λv=>Mine.Internal.ok v H) t (v5 Γ):=
 .opt λw hw=> .ok λQ E P=>h (au7 hw).2 Q E λtk yq=>P.ok S (aD ((au7 hw).1) (.mk tk))
theorem af8 (S:SR Γ ρ H s)(h:∀Q E,∀J:(∀tk yq,Q (.int i tk) {s with toks:=yq}),aO Γ.M A t Q E s):jo Γ l lk A ρ s (aa (.ok (.int i),H)) t (v5 Γ):= .ok λQ E P=>h Q E λU U=>P.ok S (.mk _)
theorem afv (S:SR Γ ρ H s):jo Γ l lk A ρ s (opt (Rv (x.append y)) λv=>Mine.Internal.ok v H) (oE .Add (.str x t) (.str y t')) (v5 Γ):=
 aE0 (λhz Q E h=>add_str (λt' tk=>h t' tk) (by rw[aM.oV]at hz;exact hz)) S
theorem afw (S:SR Γ ρ H s)(hx:W3 Γ ρ H s.heap i xs u)(hy:W3 Γ ρ H s.heap j ys v)(hr:xs.length+ys.length≤16777216):jo Γ l lk A ρ s (Mine.Internal.alloc H (.list (xs++ys))) (oE .Add u v) (v5 Γ):=by obtain⟨a1,us,n1,e1,r1,g1,v1,z1⟩:=hx;obtain⟨a2,vs,n2,e2,r2,g2,v2,z2⟩:=hy;refine .alloc S (v1.append v2) (aD aA hr) λQ E h=>aJ7 g1 g2 ?_ (by refine aD v1.size (aD v2.size ?_);exact hr);rw[←dH,pP]at h;exact h
theorem afx (S:SR Γ ρ H s)(hx:VR Γ ρ s.heap a u)(hy:VR Γ ρ s.heap b v):jo Γ l lk A ρ s (a6i H a b) (oE .Add u v) (v5 Γ):=by
 cases a with
 | int x=>
  refine .opt λy e=> ?_;obtain⟨t⟩:=(show Mf x u from hx);obtain⟨t'⟩:=hy.intOf e;exact af8 S λQ E h=>add_int (h _ _)
 | str x=>
  refine .opt λy e=> ?_;obtain⟨t⟩:=(show Mg x u from hx);obtain⟨t'⟩:=hy.strOf e;exact afv S
 | ref i=>exact .opt λp e=> .opt λq e'=> .fV λhr=>afw S (hx.listAt S e) (hy.listAt S e') (I2 hr)
 | _=>exact .none
theorem afy (S:SR Γ ρ H s)(h:(few n&&room (x.length*n.toNat))=az):jo Γ l lk A ρ s (Mine.Internal.ok (.str (toS (rep x.cps.toList n))) H) (oE .Mult (.str x t) (.int n t')) (v5 Γ):=by
 refine nu (λh0 h1=> ?_) (Uh (d7 h));have h2:=I2 (j9 h);refine .ok λQ E P=>SB.mul ⟨by simp;lia,λhn U=> ?_,λhn U=> ?_⟩ λt' k=>P.ok S (aD (aft h0) (.mk t'))
 ·have hle:=ak (Nat.le_mul_of_pos_right _ (by omega)) h2
  have:(x.length:Int)≤(2^63-1)/n:=by
   apply Int.le_ediv_of_mul_le (by omega);have:((x.length*n.toNat:Nat):Int)=(x.length:Int)*n:=by simp only[Aa,mQ h0]
   lia
  lia
 ·show decide (_>sO)=aG
  simp [sO];lia
theorem afz (S:SR Γ ρ H s)(hx:W3 Γ ρ H s.heap i xs u)(h:(few n&&room (xs.length*n.toNat))=az):jo Γ l lk A ρ s (Mine.Internal.alloc H (.list (rep xs n))) (oE .Mult u (.int n t)) (v5 Γ):=by
 refine nu (λh0 h1=> ?_) (Uh (d7 h));have h2:=I2 (j9 h);obtain⟨a1,us,n1,e1,r1,g1,v1,z1⟩:=hx;have hl:(rep xs n).length≤16777216:=by refine aD qG (aD List.map_replicate (aD List.sum_replicate_nat ?_));rw[Nat.mul_comm];exact h2
 refine .alloc S (v1.rep _) hl λQ E h=>aK7 g1 (by lia) (by lia) (aD v1.size h2) ?_;have:(Ay (λx1 x2=>x1++x2) #[] (jN (if us.isEmpty=az then 0 else n.toNat) us))=(jN n.toNat us.toList).flatten.toArray:=by
  apply Array.ext';simp only[aG5];by_cases q:us.isEmpty=az
  ·have:us= #[]:=by simpa using q
   subst this;simp
  ·refine aD (bu q) ?_;simp
 refine aD this ?_;exact h
theorem aga (S:SR Γ ρ H s)(hx:VR Γ ρ s.heap a u)(hy:VR Γ ρ s.heap b v):jo Γ l lk A ρ s (a6j H a b) (oE .Mult u v) (v5 Γ):=by
 cases a with
 | int x=>
  refine .opt λy e=> .fV λhs=> ?_;obtain⟨t⟩:=(show Mf x u from hx);obtain⟨t'⟩:=hy.intOf e;have h1:=V8 (d7 hs);exact af8 S λQ E h=>mul_int (h _ _) (Ld (intBits_le_64 (by lia) (by lia)))
 | str x=>
  refine .opt λy e=> .fV λhs=> ?_;obtain⟨t⟩:=(show Mg x u from hx);obtain⟨t'⟩:=hy.intOf e;exact afy S hs
 | ref i=>
  refine .opt λp e=> .opt λn e'=> .fV λhr=> ?_;obtain⟨t'⟩:=hy.intOf e';exact afz S (hx.listAt S e) hr
 | _=>exact .none
theorem ay7 {f:Int->Int->Out V}{t:RW aB}(hx:VR Γ ρ s.heap a u)(hy:VR Γ ρ s.heap b v)(h:∀x y t t',jo Γ l lk A ρ s (f x y) (oE op (.int x t) (.int y t')) (v5 Γ)):jo Γ l lk A ρ s (opt (Mine.Internal.intOf a) λx=>opt (Mine.Internal.intOf b) λy=>f x y) (oE op u v) (v5 Γ):=by refine .opt λx e=> .opt λy e'=> ?_;obtain⟨t⟩:=hx.intOf e;obtain⟨t'⟩:=hy.intOf e';exact h x y t t'
theorem agb (S:SR Γ ρ H s)(hx:VR Γ ρ s.heap a u)(hy:VR Γ ρ s.heap b v):jo Γ l lk A ρ s (K8 H o a b) (oE o u v) (v5 Γ):=by
 cases o with
 | Add=>exact afx S hx hy
 | Mult=>exact aga S hx hy
 | Sub=>exact ay7 (t:=pure u) hx hy λx y t t'=>af8 S λQ E h=>sub_int (h _ _)
 | FloorDiv=>exact ay7 (t:=pure u) hx hy λx y t t'=> .fV λhb=>af8 S λQ E h=>
   have h1:=fH (d7 hb);have h2:=fH (j9 hb)
   floordiv_int (by lia) (h _ _) (.inl (PyProof.noPylong_small (by lia)))
 | Mod=>exact ay7 (t:=pure u) hx hy λx y t t'=> .fV λhb=>af8 S λQ E h=>
   have h1:=fH hb
   mod_int' (by lia) (h _ _)
 | _=>exact .none
end
end
section
section
variable {Γ:Cx}{l:List fu}{lk:List Nat}{A:bQ}{ρ:eO}{H:Hp}{s:aV}{h:bL}{a b:V}{u v:aB}
inductive RdV (h:bL)(j:Nat)(d:wQ)(u:aB):Prop
 | mk (as:List aW) (r:Reads h u d as) (c:d.canLay0=az) (z:d.depth≤j):RdV h j d u
inductive zM (h:bL)(j:Nat)(ds:List wQ)(us:List aB):Prop
 | mk (as:List aW) (r:ReadsAll h us ds as) (c:QW ds=az) (z:adf ds≤j):zM h j ds us
theorem zM.nil:zM h j [] []:=⟨[],.nil,by decide,by simp [adf]⟩
theorem zM.cons (x:RdV h j d u)(y:zM h j ds us):zM h j (d::ds) (u::us):=by obtain⟨as,r,c,z⟩:=x;obtain⟨bs,r',c',z'⟩:=y;exact⟨as++bs,.cons r r',by simp [QW,c,c'],Nat.max_le.mpr ⟨z,z'⟩⟩
theorem aJ8 {α β:Type}{f:α->Option β}{a:α}{l:List α}{bs:List β}(h:(a::l).mapM f=aa bs):∃b r,f a=aa b∧l.mapM f=aa r∧bs=b::r:=by rw[oJ]at h;exact lO (iT.mp h) λb h1 h=>(lO (iT.mp h) λr h2 h=>⟨b,r,h1,h2,(aq h).symm⟩)
theorem Ui (ih:∀v d u,∀J:V5 H j v=aa d,∀J:VR Γ ρ h v u,RdV h j d u):∀{l:List V}{ds:List wQ}{us:List aB},∀J:l.mapM (V5 H j)=aa ds,∀J:gA Γ ρ h l us,zM h j ds us:=by
 intro zz
 induction zz with
 | nil=>
  intro _ _ e x;obtain rfl:=x.nil;cases e;exact .nil
 | cons v l ihr=>
  rintro _ _ e ⟨u,us,hv,hs⟩;obtain⟨d,r,e1,e2,rfl⟩:=aJ8 e;exact .cons (ih v d u e1 hv) (ihr e2 hs)
theorem af9 {α β:Type}{o:Option α}{f:α->β}{b:β}(e:o.map f=aa b):∃a,o=aa a∧f a=b:=cQ.mp e
theorem Mp {l:List V}(x:Mh h (gA Γ ρ h l) u)(g:∀{us},∀J:gA Γ ρ h l us,zM h j ds us):RdV h (j+1) (.tuple ds) u:=by obtain⟨a,vs,n,ha,hs⟩:=x;obtain⟨as,r,c,z⟩:=g hs;exact⟨as,.tuple ha rfl rfl r,by simpa [zE] using c,by simp only[qp];exact cO (by assumption)⟩
theorem Mq {l:List V}(x:W3 Γ ρ H h i l u)(g:∀{us},∀J:gA Γ ρ h l us,zM h j ds us):RdV h (j+1) (.list ds) u:=by obtain⟨a,xs,n,_,_,ha,hs,_⟩:=x;obtain⟨as,r,c,z⟩:=g hs;exact⟨a::as,.list ha rfl rfl r,by simpa [zE] using c,by simp only[qp];exact cO (by assumption)⟩
theorem ap1 (S:SR Γ ρ H s):∀j v d u,∀J:V5 H j v=aa d,∀J:VR Γ ρ s.heap v u,RdV s.heap j d u:=by
 intro zz
 induction zz with
 | zero=>
  intro _ _ _ e _;exact p7 e
 | succ j ih=>
  intro v d u e x;cases v with
  | none=>obtain rfl:=aq e;obtain rfl:=x;exact⟨[],.none,rfl,by simp [qp]⟩
  | bool b=>obtain rfl:=aq e;obtain rfl:=x;exact⟨[],.bool b,rfl,by simp [qp]⟩
  | int i=>obtain rfl:=aq e;obtain⟨t⟩:=x;exact⟨[],.int i t,rfl,by simp [qp]⟩
  | str y=>
   refine I5 e λc e=> ?_;obtain rfl:=aq e;obtain⟨t⟩:=x;exact⟨[],.str y t,by simpa [zE] using c,by simp [qp]⟩
  | tup l=>
   obtain⟨ds,e1,rfl⟩:=af9 e;exact Mp x λhs=>Ui (ih) e1 hs
  | ref i=>
   refine g8 e λo hi e=> ?_;refine g8 e λl hl e=> ?_;obtain⟨ds,e1,rfl⟩:=af9 e;exact Mq (VR.list x S (lst_inv hl▸hi)) λhs=>Ui (ih) e1 hs
  | _=>exact p7 e
theorem al5 (h1:d.canLay0=az)(h2:d.depth≤8):SeqAt.shaped d=az:=by delta SeqAt.shaped;simp only[h1,pQ,decide_eq_true_eq];exact ak (by assumption) (by decide)
inductive Two (h:bL)(u v:aB)(b:Bool):Prop
 | mk (dx dy:wQ) (x:RdV h 8 dx u) (y:RdV h 8 dy v) (e:qK dx dy=b):Two h u v b
theorem Ib (S:SR Γ ρ H s)(e:eqP H a b=aa b')(hx:VR Γ ρ s.heap a u)(hy:VR Γ ρ s.heap b v):Two s.heap u v b':=g8 e λdx e1 e=>(g8 e λdy e2 e=>⟨dx,dy,ap1 S 8 _ _ _ e1 hx,ap1 S 8 _ _ _ e2 hy,aq e⟩)
structure al6 (Γ:Cx):Prop where
 a7m:∀(l:List fu)(lk:List Nat)(A:bQ)(H:Hp)(i:Nat)(c:aW)(d:j8)(xs:List V)(k:Int)(ρ:eO)(s:aV)(u:aB),∀J:jW A l 0,∀J:ad3 d xs=aa k,∀J:SR Γ ρ H s,∀J:Bl Γ ρ H s.heap i c d xs u,jo Γ l lk A ρ s (ok (k !=0) H) (vy u) De
 agd:∀(A:bQ)(s:aV)(a:aW)(o:oH)(Q:PQ Bool)(E:PQ aB),∀J:s.heap.get? a=aa o,∀J:o.cls= .type "re.Match",∀J:(∀tk,Q az {s with toks:=tk}),aO Γ.M A (vy (.ref a)) Q E s
theorem aS4 (S:SR Γ ρ H s)(x:W3 Γ ρ H s.heap i xs u):jo Γ l lk A ρ s (ok (!xs.isEmpty) H) (vy u) De:=by
 obtain⟨a',ys,n,hi,hr,ha,hs,hz⟩:=x;refine .ok λQ E P=>wpAny_truthy_list (J3 ha) (afu (ak (bM hs.size) hz)) (P.ok S ?_)
 congr 1
 rw[jc,Array.isEmpty_iff_size_eq_zero,List.isEmpty_iff_length_eq_zero,hs.size]
theorem truthy_str (S:SR Γ ρ H s)(hr:room x.length=az):jo Γ l lk A ρ s (ok (x.length !=0) H) (vy (.str x t)) De:=by refine .ok λQ E P=>PySem.P.truthy_str (pR.mpr (afu (I2 hr))) (P.ok S ?_);show((x.length:Int) !=0)=(x.length !=0);rw[jc];simp
theorem aS5 (pr:al6 Γ)(ao:jW A l 0)(S:SR Γ ρ H s)(hv:VR Γ ρ s.heap (.ref i) u)(hi:H[i]?=aa o):jo Γ l lk A ρ s (opt (a6g o) λb=>ok b H) (vy u) De:=by
 cases o with
 | list l=>exact aS4 S (VR.list hv S hi)
 | acc c d xs=>
  exact .opt λb e=>(g8 e λk hk e=>(nF (aq e) (pr.a7m l lk A H i c d xs k ρ s u ao hk S (VR.acc hv S hi))))
 | _=>exact .none
theorem age {α β γ:Type}{o:Option α}{f:α->Option β}{g:β->Option γ}:opt (opt o f) g=opt o λa=>opt (f a) g:=by cases o<;>rfl
theorem agf {α β:Type}{b:Bool}{o:Option α}{f:α->Option β}:opt (fV b o) f=fV b (opt o f):=by cases b<;>rfl
theorem ai1 (pr:al6 Γ)(ao:jW A l 0)(S:SR Γ ρ H s)(hv:VR Γ ρ s.heap a u):jo Γ l lk A ρ s (tru H a) (vy u) De:=by
 cases a with
 | none=>obtain rfl:=(show u=_ from hv);exact .ok λQ E P U U U=>P.ok S rfl
 | bool c=>obtain rfl:=hv;exact .ok λQ E P U U U=>P.ok S rfl
 | int i=>obtain⟨t⟩:=hv;exact .ok λQ E P=>PySem.P.truthy_int (P.ok S rfl)
 | str x=>
  obtain⟨t⟩:=hv;show jo _ _ _ _ _ _ (opt (fV (room x.length) (aa (x.length !=0))) λb=>ok b H) _ _;refine aD agf ?_;exact .fV λhr=>truthy_str S hr
 | mat=>obtain⟨a',o,ha,hc,_⟩:=hv;exact .ok λQ E P=>pr.agd A s a' o Q E ha hc λtk=>P.ok S rfl
 | ref i=>
  unfold tru Q3;refine aD age ?_;exact .opt λo hi=>aS5 pr ao S hv hi
 | _=>exact .none
theorem VR.yH (x:VR Γ ρ h a u)(e:isNone a=aa aG):u≠ .none:=by
 rintro rfl;cases a with
 | none=>cases e
 | gl w=>exact iu e
 | bool b=>cases x
 | int i=>cases x
 | str i=>cases x
 | tup l=>cases x
 | ref i=>cases x
 | exc c m=>cases x
 | Ao k=>cases x
 | mat=>cases x
 | Ru i=>cases x
theorem Mr {b:Bool}(e:isNone a=aa b)(x:VR Γ ρ h a u):(u== .none)=b:=by
 cases b with
 | false=>simpa using x.yH e
 | true=>
  cases a with
  | none=>obtain rfl:=x;rfl
  | _=>cases e
theorem aK8 (e:ava w=aa t):w= .type t:=by
 cases w with
 | type j=>exact congrArg jl (aq e)
 | _=>exact p7 e
theorem agg (e:aph a b=aa c)(hx:VR Γ ρ h a u)(hy:VR Γ ρ h b v):∃x y,u= .type x∧v= .type y∧c=decide (x=y):=g8 e λw e1 e=>(g8 e λx e2 e=>(g8 e λw' e3 e=>(g8 e λy e4 e=>⟨x,y,(hx.Fd e1).trans (aK8 e2),(hy.Fd e3).trans (aK8 e4),(aq e).symm⟩)))
theorem Uj (x y:String):(jl x==jl y)=decide (x=y):=by rw[jc,beq_iff_eq,decide_eq_true_eq];exact⟨λe=>Value.type.inj e,λe=>congrArg _ e⟩
theorem Uk (e:isP a b=aa c)(hx:VR Γ ρ s.heap a u)(hy:VR Γ ρ s.heap b v):(∀J:Q (.bool c) s,aO Γ.M A (qH .Is u v) Q E s)∧(∀J:Q (.bool (!c)) s,aO Γ.M A (qH .IsNot u v) Q E s):=by
 cases b with
 | none=>
  obtain rfl:=hy;obtain rfl:=Mr e hx;exact⟨λq=>is_none_gen q,λq=>isnot_none_gen q⟩
 | _=>
  obtain⟨x,y,rfl,rfl,rfl⟩:=agg e hx hy;rw[←Uj];exact⟨λq=>wpAny_is_plain rfl q,λq=>wpAny_isNot_plain rfl q⟩
theorem Ul (e:ltP a b=aa c)(hx:VR Γ ρ s.heap a u)(hy:VR Γ ρ s.heap b v)(q:Q (.bool c) s):aO Γ.M A (qH .Lt u v) Q E s∧aO Γ.M A (qH .Gt v u) Q E s:=by refine g8 e λx e1 e=> ?_;refine g8 e λy e2 e=> ?_;obtain rfl:=aq e;obtain⟨t⟩:=hx.intOf e1;obtain⟨t'⟩:=hy.intOf e2;exact⟨lt_int q,gt_int q⟩
theorem Ms (e:apf d=aa ds):d= .list ds:=by
 cases d with
 | list j=>exact congrArg PyData.list (aq e)
 | _=>exact p7 e
theorem Mt (hu:A.units+400<yC)(S:SR Γ ρ H s)(e:SJ H a b=aa c)(hx:VR Γ ρ s.heap a u)(hy:VR Γ ρ s.heap b v)(q:Q (.bool c) s):aO Γ.M A (qH .NotIn u v) Q E s:=by refine g8 e λdy e1 e=> ?_;refine g8 e λds e2 e=> ?_;refine g8 e λdx e3 e=> ?_;obtain rfl:=aq e;obtain rfl:=Ms e2;obtain⟨as,r1,c1,z1⟩:=ap1 S 8 _ _ _ e1 hy;obtain⟨bs,r2,c2,z2⟩:=ap1 S 8 _ _ _ e3 hx;exact SeqAt.notIn_list_reads r1 r2 c1 c2 (bz (ak (bK (ak (yW _ _) z2) _) (show A.units+9≤A.units+400 from bK (by decide) _)) hu) q
theorem Um (hu:A.units+400<yC)(t:Two s.heap u v c):(∀J:Q (.bool c) s,aO Γ.M A (qH .Eq u v) Q E s)∧(∀J:Q (.bool (!c)) s,aO Γ.M A (qH .NotEq u v) Q E s):=by obtain⟨dx,dy,⟨as,r1,c1,z1⟩,⟨bs,r2,c2,z2⟩,rfl⟩:=t;exact⟨λq=>SeqAt.compareEq_shaped r1 r2 (al5 c1 z1) (al5 c2 z2) (by lia) q,λq=>SeqAt.compareNe_shaped r1 r2 (al5 c1 z1) (al5 c2 z2) (by lia) q⟩
theorem awp (ao:jW A l 0)(S:SR Γ ρ H s)(hx:VR Γ ρ s.heap a u)(hy:VR Γ ρ s.heap b v)(e:Q5 H o a b=aa c)(q:Q (.bool c) s):aO Γ.M A (qH o u v) Q E s:=by
 have hu:A.units+400<yC:=by have:=ao.units;exact Nat.succ_le_of_lt (by assumption)
 cases o with
 | Lt=>exact(Ul e hx hy q).1
 | Gt=>exact(Ul e hy hx q).2
 | Eq=>exact(Um hu (Ib S e hx hy)).1 q
 | NotEq=>obtain⟨b',e',rfl⟩:=af9 e;exact(Um hu (Ib S e' hx hy)).2 q
 | Is=>exact(Uk e hx hy).1 q
 | IsNot=>obtain⟨b',e',rfl⟩:=af9 e;exact(Uk e' hx hy).2 q
 | NotIn=>exact Mt hu S e hx hy q
 | _=>exact p7 e
theorem Ie (ao:jW A l 0)(S:SR Γ ρ H s)(hx:VR Γ ρ s.heap a u)(hy:VR Γ ρ s.heap b v):jo Γ l lk A ρ s (opt (Q5 H o a b) λc=>ok (.bool c) H) (qH o u v) (v5 Γ):=
 .opt λU e=> .ok λU U P=>awp ao S hx hy e (P.ok S rfl)
end
end
section
def v4 (Γ:Cx)(n:Nat)(k:Kd)(e:aF)(me:j6):Prop:=
 ∀(env:fu)(l:List fu)(A:bQ)(φ:Fm)(H:Hp)(ρ:eO)(s:aV),∀J:v9 Γ k env,∀J:jW A l n,∀J:SR Γ ρ H s,∀J:FR Γ l ρ s.heap env φ.loc φ.cR,jo Γ l φ.lk A ρ s (dY Γ.G n φ me H) (eval e env) (v5 Γ)
def W6 (Γ:Cx)(n:Nat)(k:Kd)(e:aF)(me:j6):Prop:=
 ∀(env:fu)(l:List fu)(A:bQ)(φ:Fm)(H:Hp)(ρ:eO)(s:aV),∀J:v9 Γ k env,∀J:jW A l n,∀J:SR Γ ρ H s,∀J:FR Γ l ρ s.heap env φ.loc φ.cR,jo Γ l φ.lk A ρ s (vG Γ.G n φ me H) (isTrue e env (eval e env)) De
abbrev O8 (Γ:Cx)(n m:Nat)(k:Kd):Prop:=∀e,v4 Γ n k e (cE m k e)
abbrev AllB (Γ:Cx)(n m:Nat)(k:Kd):Prop:=∀e,W6 Γ n k e (cE m k e)
def Ci (Γ:Cx)(x:aM)(u:aB):Prop:=acz Γ.K bW x=aa (aa u)∨(acz Γ.K bW x=aa aC∧acz Γ.K dD x=aa (aa u))
structure W9 (Γ:Cx):Prop where
 glob:∀x v,∀J:Γ.G.glob x=aa v,∃u,Ci Γ x u∧∀ρ h,VR Γ ρ h v u
 xU:Ci Γ "range" (.type "range")
 Cg:Ci Γ "enumerate" (.type "enumerate")
 zip:Ci Γ "zip" (.type "zip")
 str:Ci Γ "str" (.type "str")
 sup:Ci Γ "super" (.type "super")
 ve:Ci Γ "ValueError" (.type "ValueError")
 te:Ci Γ "TypeError" (.type "TypeError")
section
variable {Γ:Cx}{n m:Nat}{k:Kd}
theorem SR.rJ (S:SR Γ ρ H s):Γ.K.In s.heap:=λb o e=>S.base b o (Γ.inK b o e)
theorem Y4:v4 Γ n k e .bad:=by cases n<;>exact λU U U U U U U U U U U=> .none
theorem X7 {α:Type}{e:aF}{o:Option α}{f:α->j6}(h:∀a,∀J:o=aa a,v4 Γ n k e (f a)):v4 Γ n k e (mb o f):=by
 cases o with
 | none=>exact Y4
 | some a=>exact h a rfl
theorem U9 (h:∀J:b=az,v4 Γ n k e me):v4 Γ n k e (gm b me):=by
 cases b with
 | true=>exact h rfl
 | false=>exact Y4
theorem G9 {a b:aM}(h:a≠b):(a==b)=aG:=beq_eq_false_iff_ne.mpr h
theorem snd_const:v4 Γ (n+1) k (.Constant c j p) (Tw c):=by
 cases c with
 | none=>exact λenv l A φ H ρ s O a S F=> .ok λQ E P=>wpAny_Constant_none (P.ok S rfl)
 | bool b=>exact λenv l A φ H ρ s O a S F=> .ok λQ E P=>wpAny_Constant_bool (P.ok S rfl)
 | int i=>exact λenv l A φ H ρ s O a S F=> .ok λQ E P=>wpAny_Constant_int (P.ok S (.mk _))
 | str x=>exact λenv l A φ H ρ s O a S F=> .ok λQ E P=>oY (P.ok S (.mk _))
 | _=>exact Y4
theorem Mu:v4 Γ (n+1) k (.Name ("__debug__":aM) p) (.cst (.bool az)):=λenv l A φ H ρ s O a S F=> .ok λQ E P=>by show aO _ _ (do mj p;if (("__debug__":aM)==("__debug__":aM))=az then debugConstant else aoi env ("__debug__":aM)) _ _ _;exact aD (bG (by decide)) (aj (dR (aj (jE (au (P.ok S rfl))))))
theorem W8 (O:v9 Γ k env)(hk:k x=aa .globalImplicit)(g:Ci Γ x u)(S:SR Γ ρ H s)(h:Q u s):aO M A (aoi env x) Q E s:=by
 refine oh (QX O.kind (O.gn x hk)) ?_;delta loadGlobal;refine aD O.glob (aD O.blt ?_);rcases g with g | ⟨g1,g2⟩
 ·exact aj ((oZ S.rJ g).here (au h))
 ·exact aj ((oZ S.rJ g1).here (aj ((oZ S.rJ g2).here (au h))))
theorem agh (hx:x≠("__debug__":aM))(hk:k x=aa .local):v4 Γ (n+1) k (.Name x p) (.loc x):=λenv l A φ H ρ s O a S F=> .opt λv hv=> .ok λQ E P=>by obtain⟨m,hn,hl⟩:=F.ns;exact(hl x v hv).elim λu q=>dN (eG O.kind (O.loc x hk) hn q.1 (P.ok S q.2)) (G9 hx)
theorem Ig (hx:x≠("__debug__":aM))(hx':x≠("__classdict__":aM))(hk:k x=aa .cell∨k x=aa .free):v4 Γ (n+1) k (.Name x p) (.cR x):=λenv l A φ H ρ s O a S F=> .opt λv hv=> .ok λQ E P=>by obtain⟨c,u,hc,hu,hr⟩:=F.cells x v hv;exact(O.cR x hk).elim (λq=>dN (aud O.kind q hc hu (P.ok S hr)) (G9 hx)) λq=>dN (aue O.kind q hc hu (P.ok S hr) (G9 hx')) (G9 hx)
theorem agi (G:W9 Γ)(hx:x≠("__debug__":aM))(hk:k x=aa .globalImplicit):v4 Γ (n+1) k (.Name x p) (.gn x):=λenv l A φ H ρ s O a S F=> .opt λv hv=> .ok λQ E P=>
 (G.glob x v hv).elim λu q=>dN (W8 O hk q.1 S (P.ok S (q.2 ρ s.heap))) (G9 hx)
theorem Un (G:W9 Γ):v4 Γ (n+1) k (.Name x p) (CQ k x):=by
 delta CQ;by_cases hx:x=("__debug__":aM)
 ·subst hx;refine aD (bG rfl) ?_;exact Mu
 refine aD (bu hx) ?_;refine U9 λhx'=>X7 λd hd=> ?_;cases d with
 | «local»=>exact agh hx hd
 | cell=>exact Ig hx (fH hx') (.inl hd)
 | free=>exact Ig hx (fH hx') (.inr hd)
 | globalImplicit=>exact agi G hx hd
 | _=>exact Y4
theorem agj (e:aF)(env:fu):(∃a p,e= .Starred a p)∨∀rest,oF (e::rest) env=(aG,eval e env)::oF rest env:=by
 cases e with
 | Starred a p=>exact .inl ⟨a,p,rfl⟩
 | _=>exact .inr λU=>rfl
theorem Uo:cE m k (.Starred a p)= .bad:=by cases m<;>rfl
theorem awq:dY Γ.G n φ .bad H=aC:=by cases n<;>rfl
section
variable {env:fu}{l:List fu}{A:bQ}{φ:Fm}{H:Hp}{ρ:eO}{s:aV}
theorem ac7 {α β γ:Type}(r:Out α)(g:α->Hp->Out β)(f:β->Hp->Out γ):jd (jd r g) f=jd r λv H=>jd (g v H) f:=by rcases r with _ | ⟨_ | _,_⟩<;>rfl
def agk (Γ:Cx)(N:Nat)(ρ:eO)(h:bL)(vs:List V)(us:List aB):Prop:=gA Γ ρ h vs us∧vs.length=N
theorem awr (ih:O8 Γ n m k)(O:v9 Γ k env)(a:jW A l n)(pos:qg):∀(es:List aF){H:Hp}{ρ:eO}{s:aV},∀J:SR Γ ρ H s,∀J:FR Γ l ρ s.heap env φ.loc φ.cR,jo Γ l φ.lk A ρ s (R9 (dY Γ.G n φ) (es.map (cE m k)) H) (adg (yX pos (oF es env))) (agk Γ es.length):=by
 intro zz
 induction zz with
 | nil=>
  intro _ _ _ S F;exact .ok λU U P=>lz (P.ok S ⟨rfl,rfl⟩)
 | cons e es ihr=>
  intro _ _ _ S F;exact(agj e env).elim (λ⟨a,p,q⟩=>by
    subst q;show jo _ _ _ _ _ _ (jd (dY Γ.G n φ (cE m k (.Starred a p)) _) _) _ _;refine aD Uo (aD awq ?_);exact .none) λq=>by
    rw[q];exact((ih e env l A φ _ _ _ O a S F).iZ (λQ E w=>ik w) λv cM aZ aU u cU cg hv=>
     (ihr cg (F.ext cU)).iZ (λQ E w=>w) λvs ou dI bO us dB fJ je=> .ok λQ E P=>P.ok fJ ⟨.mk u us (hv.ext dB) je.1,congrArg tH je.2⟩)
end
theorem agk.len (x:agk Γ N ρ h vs us):us.length=N:=x.1.length.trans x.2
theorem agl (ih:O8 Γ n m k)(hz:es.length≤1000):v4 Γ (n+1) k (.Tuple es j p) (.tup (es.map (cE m k))):=λenv l A φ H ρ s O a S F=>
 (awr ih O a.pred p es S F).iZ (λQ E w=>wpAny_Tuple w) λvs cM aZ aU us cU cg hv=> .ok λQ E P=>⟨hv.len▸ak hz (by decide),Ud cg hv.1 P⟩
theorem agm (ih:O8 Γ n m k)(hz:es.length≤1000):v4 Γ (n+1) k (.List es p) (.lst (es.map (cE m k))):=λenv l A φ H ρ s O a S F=>
 (awr ih O a.pred p es S F).iZ (λQ E w=>wpAny_List w) λvs cM aZ aU us cU cg hv=> .ok λQ E P=>⟨hv.len▸ak hz (by decide),ar6 cg hv.1 (hv.2▸ak hz (by decide)) P⟩
theorem agn {mt me mo:j6}(ht:W6 Γ n k t mt)(hb:v4 Γ n k b me)(ho:v4 Γ n k o mo):v4 Γ (n+1) k (.IfExp t b o p) (.ite mt me mo):=λenv l A φ H ρ s O a S F=>
 (ht env l A φ H ρ s O a.pred S F).iZ (λQ E w=>wpAny_IfExp w) λv cM aZ aU u cU cg hv=>by
  obtain rfl:=hv;cases u with
  | true=>exact hb env l A φ cM aZ aU O a.pred cg (F.ext cU)
  | false=>exact ho env l A φ cM aZ aU O a.pred cg (F.ext cU)
theorem Up {mt me mo:j6}(ht:W6 Γ n k t mt)(hb:W6 Γ n k b me)(ho:W6 Γ n k o mo):W6 Γ (n+1) k (.IfExp t b o p) (.ite mt me mo):=λenv l A φ H ρ s O a S F=>
 (ht env l A φ H ρ s O a.pred S F).bind λv cM aZ aU u cU cg hv=>by
  obtain rfl:=hv;cases u with
  | true=>exact hb env l A φ cM aZ aU O a.pred cg (F.ext cU)
  | false=>exact ho env l A φ cM aZ aU O a.pred cg (F.ext cU)
theorem ago (hx:v4 Γ n k x mx)(hy:v4 Γ n k y my):v4 Γ (n+1) k (.BinOp x o y p) (.bin o mx my):=λenv l A φ H ρ s O a S F=>
 (hx env l A φ H ρ s O a.pred S F).iZ (λQ E w=>Cq w) λv cM aZ aU u cU cg hv=>
  (hy env l A φ cM aZ aU O a.pred cg (F.ext cU)).iZ (λQ E w=>w) λagp ou dI bO vR dB fJ oG=>agb fJ (hv.ext dB) oG
theorem agq (hx:v4 Γ n k x mx):v4 Γ (n+1) k (.UnaryOp .USub x p) (.neg mx):=λenv l A φ H ρ s O a S F=>
 (hx env l A φ H ρ s O a.pred S F).iZ (λQ E w=>wpAny_UnaryOp w) λv cM aZ aU u cU cg hv=> .opt λi e=>by obtain⟨t⟩:=hv.intOf e;exact af8 cg λQ E h=>PySem.P.neg_int (h _ _)
theorem Uq (h:aO M A (vy u) (λb s'=>Q (.bool !b) s') E s):aO M A (unaryOp .Not u) Q E s:=bT (oh (bG (by decide)) (aj (bJ h (λU U z=>au z) λU U z=>z)))
theorem agr (pr:al6 Γ)(hx:v4 Γ n k x mx):v4 Γ (n+1) k (.UnaryOp .Not x p) (.not mx):=λenv l A φ H ρ s O a S F=>
 (hx env l A φ H ρ s O a.pred S F).iZ (λQ E w=>wpAny_UnaryOp w) λv cM aZ aU u cU cg hv=>
  (ai1 pr a.zero cg hv).iZ (λQ E w=>Uq w) λb ou dI bO vR dB fJ e=> .ok λQ E P=>P.ok fJ (by refine aD e ?_;rfl)
theorem Ur (hx:W6 Γ n k x mx):W6 Γ (n+1) k (.UnaryOp .Not x p) (.not mx):=λenv l A φ H ρ s O a S F=>
 (hx env l A φ H ρ s O a.pred S F).iZ (λQ E w=>wpAny_isTrue_Not w) λv cM aZ aU u cU cg hv=> .ok λQ E P=>P.ok cg (aD hv rfl)
noncomputable def plainT:j6->Bool
 | .not _=>aG
 | .xR _ _=>aG
 | .ite _ _ _=>aG
 | _=>az
theorem Ih (h:plainT me=az):vG Γ.G (n+1) φ me H=jd (dY Γ.G n φ me H) λv H=>opt (Q3 H v) λb=>ok b H:=by
 cases me with
 | not a=>exact rU h
 | xR o l=>exact rU h
 | ite t a b=>exact rU h
 | _=>rfl
theorem aK9 (pr:al6 Γ)(hx:v4 Γ n k x mx)(hsh:∀env w,isTrue x env w=(do let v←w;mj x.pos;pU [v] (vy v)))(hp:plainT mx=az):W6 Γ (n+1) k x mx:=λenv l A φ H ρ s O a S F=>by rw[Ih hp,hsh];exact(hx env l A φ H ρ s O a.pred S F).bind λv cM aZ aU u cU cg hv=>(ai1 pr a.zero cg hv).of λQ E w=>aj (dR (bT w))
set_option backward.match.sparseCases true in
theorem Us (ih:AllB Γ n m k):W6 Γ (n+1) k (.BoolOp o es p) (.xR o (es.map (cE m k))):=λenv l A φ H ρ s O a S F=>by
 induction es generalizing H ρ s with
 | nil=>exact .pure S rfl
 | cons e es ihs=>
  refine(ih e env l A φ H ρ s O a.pred S F).bind λv cM aZ aU u cU cg hv=> ?_;obtain rfl:=hv;cases o<;>cases u
  ·exact .pure cg rfl
  ·exact ihs cM aZ aU cg (F.ext cU)
  ·exact ihs cM aZ aU cg (F.ext cU)
  ·exact .pure cg rfl
set_option backward.match.sparseCases true in
theorem ags (pr:al6 Γ)(ih:O8 Γ n m k):v4 Γ (n+1) k (.BoolOp o es p) (.xR o (es.map (cE m k))):=λenv l A φ H ρ s O a S F=>by
 induction es generalizing H ρ s with
 | nil=>exact .none
 | cons e es ihs=>
  cases es with
  | nil=>exact ih e env l A φ H ρ s O a.pred S F
  | cons afq es=>
   refine(ih e env l A φ H ρ s O a.pred S F).bind λv cM aZ aU u cU cg hv=> ?_;refine(ai1 pr a.zero cg hv).iZ (λQ E w=>aj (dR (aj (bT w)))) λt ou dI bO vR dB fJ ht=> ?_;obtain rfl:vR=t:=ht;cases o<;>cases vR
   ·exact .ok λQ E P=>au (P.ok fJ (hv.ext dB))
   ·exact ihs ou dI bO fJ ((F.ext cU).ext dB)
   ·exact ihs ou dI bO fJ ((F.ext cU).ext dB)
   ·exact .ok λQ E P=>au (P.ok fJ (hv.ext dB))
theorem Ut (h:isSet e=aG)(o:CmpOp):behindInMarks o e=aG:=by
 cases e with
 | Set a b c=>exact Lp h
 | _=>rfl
theorem agt (hx:v4 Γ n k x mx)(hy:v4 Γ n k y my)(hs:isSet y=aG):v4 Γ (n+1) k (.Compare x [o] [y] p) (.cmp o mx my):=λenv l A φ H ρ s O a S F=>
 (hx env l A φ H ρ s O a.pred S F).iZ (λQ E w=>wpAny_Compare1 w (Ut hs o)) λv cM aZ aU u cU cg hv=>
  (hy env l A φ cM aZ aU O a.pred cg (F.ext cU)).iZ (λQ E w=>w) λagp ou dI bO vR dB fJ oG=>Ie a.zero fJ (hv.ext dB) oG
theorem Uu (pr:al6 Γ)(hx:v4 Γ n k x mx)(hy:v4 Γ n k y my)(hs:isSet y=aG):W6 Γ (n+1+1) k (.Compare x [o] [y] p) (.cmp o mx my):=λenv l A φ H ρ s O a S F=>by
 show jo Γ l φ.lk A ρ s (jd (jd (dY Γ.G n φ mx H) λx H=>jd (dY Γ.G n φ my H) λy H=>opt (Q5 H o x y) λc=>ok (.bool c) H) λv H=>tru H v) _ _;rw[ac7];refine(hx env l A φ H ρ s O a.pred.pred S F).iZ (λQ E w=>wpAny_isTrue_Compare1 w (Ut hs o)) λv cM aZ aU u cU cg hv=> ?_;simp only[ac7];exact(hy env l A φ cM aZ aU O a.pred.pred cg (F.ext cU)).iZ (λQ E w=>w) λagp ou dI bO vR dB fJ oG=>
  (Ie a.zero fJ (hv.ext dB) oG).iZ (λQ E w=>w) λaJi Bm qy jX Uv oW rK yI=>ai1 pr a.zero rK yI
end
end
section
variable {Γ:Cx}
structure M6 (Γ:Cx):Prop where
 mro:RX Γ.K Γ.G.fW (.type "list")=aa az
 seq:Hj Γ.K Γ.G.fW=az
 get:gb Γ.K (.ref Γ.G.fW) "__getitem__"=aa (aa (.builtin "list.__getitem__"))
 set:gb Γ.K (.ref Γ.G.fW) "__setitem__"=aa (aa (.builtin "list.__setitem__"))
 app:gb Γ.K (.ref Γ.G.fW) "append"=aa (aa (.builtin "list.append"))
 ga:gb Γ.K (.ref Γ.G.fW) "__getattribute__"=aa (aa (.builtin "list.__getattribute__"))
 Uw:gb Γ.K (.ref Γ.G.fW) "__getattr__"=aa aC
 iter:gb Γ.K (.ref Γ.G.fW) "__iter__"=aa (aa (.builtin "list.__iter__"))
def Ii (h:bL)(x c:aW):Prop:=∃o,h.get? x=aa o∧o.cls= .ref c
theorem Ii.type (t:Ii h x c):lA M h (vz (.ref x)) (.ref c):=lO t λo e hc=>(hc▸(uL e).andThen .now)
theorem InstAt.ty (I:InstAt h x ox c od):Ii h x c:=⟨ox,I.at_,I.cls⟩
theorem Mv
  (hk:gC i=aa .slot∨gC i=aa .method) (hs:xK i=aa (owner,n)) (hi:lA M s.heap (jU self (.type owner)) az) (ha:yZ i ⟨self::rest, []⟩) (q:Q () s):
  aO M A (BP i ⟨self::rest, []⟩) Q E s:=by
 rcases hk with hk | hk
 ·exact check_slot hk hs hi ha q
 ·rw[BP];refine aD hk (aD hs ?_)
  refine aj (hi.here ?_);cases awt:lJ i with
  | none=>exact au q
  | some sig=>
   simp only[yZ,awt]at ha;show aO M A (auf i sig ⟨self::rest, []⟩) Q E s;refine aD ha ?_;exact au q
section
variable {A:bQ}{E:PQ aB}{s:aV}{x:aW}
theorem aj8 (K:M6 Γ)(X:Γ.K.In s.heap)(I:Ii s.heap x Γ.G.fW){id n:String}(hk:gC id=aa .slot∨gC id=aa .method)(hs:xK id=aa ("list",n))(plain:plainId id=az)
  (entry:Ab table id=aa B) (args:yZ id ⟨.ref x::rest, []⟩) (h:aO Γ.M A.in1 (B ⟨.ref x::rest, []⟩) (λfin s'=>∃v,fin= .done (.ret v)∧Q v s') E s):aO Γ.M A (call (.builtin id) (.ref x::rest)) Q E s:=by
 refine mR (aoj plain entry (Mv hk hs (I.type.andThen (qQ X K.mro)) args (bJ h (λfin s' h'=> ?_) λU U h'=>h')));obtain⟨v,rfl,hv⟩:=h';exact hv
theorem Ux (K:M6 Γ)(X:Γ.K.In s.heap)(I:InstAt s.heap x ox Γ.G.fW od){id:String}(hf:gb Γ.K (.ref Γ.G.fW) name=aa (aa (.builtin id)))(ht:vz (.builtin id)=pure (.type "method_descriptor"))
  (hs:shadowIn od name=aa aG) (h:Q (.builtin id, [.ref x]) s):aO Γ.M A (rZ (.ref x) name pl) Q E s:=by
 refine aj (aj (I.type.here ((fM X K.ga).here ?_)));dsimp only;refine aD (show jO "list.__getattribute__"="object.__getattribute__" by decide+kernel) (aD (bu (by decide)) ?_);refine aj (aj (I.type.here ((fM X K.Uw).here ?_)));refine aj (aj (I.type.here ((fM X hf).here ?_)));dsimp only;refine aD ht ?_;refine aj (au ?_);refine aD (bu (by decide+kernel)) ?_;refine aj (km I.at_ ?_);have hd:=I.dict;cases e:ox.dict with
 | none=>exact aj (jE (au h))
 | some dx=>
  cases od with
  | none=>replace hd:=e▸hd;exact hd.elim
  | some o=>
   rw[e]at hd;exact lO (cQ.mp hs) λr a b=>(aj (aj (km hd (oh (nsLook_of a) (au (aD b (aj (jE (au h)))))))))
theorem ax9 (X:Γ.K.In s.heap)(I:Ii s.heap x c){id:String}(hf:gb Γ.K (.ref c) name=aa (aa (.builtin id)))(slot:Slot "list" name id)
  (h:aO Γ.M A (call (.builtin id) (.ref x::args)) (λv=>Q (aa v)) E s):aO Γ.M A (callSpecial? (.ref x) name args) Q E s:=by
 refine aj (aj (I.type.here ((fM X hf).here ?_)));refine bT ?_;rw[slot.bind];exact aj (au (aj (bJ h (λU U z=>au z) λU U z=>z)))
theorem Ij (K:M6 Γ)(X:Γ.K.In s.heap)(I:Ii s.heap x Γ.G.fW)(h:Q k s):aO Γ.M A (sequenceKey (.ref x) k name) Q E s:=aj (I.type.here (aj ((anyM_none X K.seq).here (oh (bG rfl) (au h)))))
theorem aL0:gC "list.__getitem__"=aa .slot∨gC "list.__getitem__"=aa .method:=by decide+kernel
theorem aL1:gC "list.__setitem__"=aa .slot∨gC "list.__setitem__"=aa .method:=by decide+kernel
theorem aQ2:gC "list.append"=aa .slot∨gC "list.append"=aa .method:=by decide+kernel
theorem aQ3 (K:M6 Γ)(X:Γ.K.In s.heap)(I:Ii s.heap x Γ.G.fW)
  (h:aO Γ.M A.in1 (eF.«list.__getitem__» ⟨[.ref x,i], []⟩) (λfin s'=>∃v,fin= .done (.ret v)∧Q v s') E s):aO Γ.M A (En (.ref x) i) Q E s:=bT (aj (Ij K X I (aj (ax9 X I K.get Ac (aj8 K X I aL0 (by decide+kernel:xK "list.__getitem__"=aa ("list","__getitem__")) (by decide+kernel) entry_list_getitem (args_list_getitem _ _) (bJ h (by rintro fin s' ⟨v,e,q⟩;exact⟨v,e,au q⟩) λU U z=>z))))))
theorem aQ4 (K:M6 Γ)(X:Γ.K.In s.heap)(I:Ii s.heap x Γ.G.fW)
  (h:aO Γ.M A.in1 (eF.«list.__setitem__» ⟨[.ref x,i,v], []⟩) (λfin s'=>∃v,fin= .done (.ret v)∧Q () s') E s):aO Γ.M A (xM (.ref x) i v) Q E s:=bT (aj (Ij K X I (aj (ax9 X I K.set slot_list_setitem (aj8 K X I aL1 (by decide+kernel:xK "list.__setitem__"=aa ("list","__setitem__")) (by decide+kernel) entry_list_setitem (args_list_setitem _ _ _) (bJ h (by rintro fin s' ⟨v,e,q⟩;exact⟨v,e,au q⟩) λU U z=>z))))))
theorem aL2 (K:M6 Γ)(X:Γ.K.In s.heap)(I:Ii s.heap x Γ.G.fW)(hs:aok slice aG (.ref x) i=operate ops (En (.ref x) i))
  (h:aO Γ.M A.in1 (eF.«list.__getitem__» ⟨[.ref x,i], []⟩) (λfin s'=>∃v,fin= .done (.ret v)∧Q v s') E s):aO Γ.M A (lK value slice (.ref x) i) Q E s:=aj (aj (aj (I.type.here ((fM X K.get).here (au (aD hs (aj (wpAny_operating (bJ (aQ3 K X I h) (λr jX rB=>aj (wU (au rB))) λU U x=>x)))))))))
end
end
section
section
variable {M:yw}{A:bQ}{E:PQ aB}{s:aV}{l:aW}{o:oH}{items:Array aB}{nn:Nat}{F:PQ Fin}
set_option tactic.hygienic true in
theorem aj9 (h:kE i N=aa j):(0≤i∧i.toNat=j)∨(i<0∧0≤i+N∧(i+N).toNat=j):=by
 unfold kE at h;dsimp only at h;by_cases h0:i<0
 ·rw[bG h0]at h
  split at h
  ·rename_i hb
   simp only[fO,decide_eq_true_eq,decide_eq_true_eq]at hb;exact .inr ⟨h0,hb.1,aq h⟩
  ·exact iu h
 ·replace h:=(bu h0)▸h
  split at h
  ·exact .inl ⟨jx.mp h0,aq h⟩
  ·exact iu h
theorem aQ5 (ho:s.heap.get? l=aa o)(hd:o.data= .seq items nn)(Uy:dZ k=az)(hk:kE k items.size=aa j)(hx:items[j]?=aa v)
  (h:F (.done (.ret v)) s):aO M A (eF.«list.__getitem__» ⟨[.ref l,.int k t], []⟩) F E s:=by
 show aO _ _ (iQ (.int k t)>>=_) _ _ s;refine aj (RZ Uy ?_);cases k with
 | ofNat p=>
  have hp:=(aj9 hk).elim (λq=>q.2) λq=>absurd q.1 (jx.mpr (cJ p));subst hp;refine aj (aj (wpAny_seqItemAt ho hd (au ?_)));refine aD hx ?_
  first | exact aj (au (au h)) | exact au (au h) | exact au h
 | negSucc p=>
  refine aj (aj ?_);refine aj (gf ho hd (au (au ?_)));refine aD hk ?_;rw[lL];refine aD hx ?_
  first | exact aj (au (au h)) | exact au (au h) | exact au h
theorem aL3 {lo hi st:Option Int}(hs:s.heap.IsSliceOf sl vl vu vs)(pl:wV vl lo)(pu:wV vu hi)(ps:wV vs st)(h0:st≠aa 0)(h:Q (rawPart lo,rawPart hi,rawPart st) s):
  aO M A (Builtin.List.listSliceParts (.ref sl)) Q E s:=by
 refine Rt hs λos hos Eg hds=> ?_;rw[listSliceParts_eq];refine aj (cZ hos hds (x:=vs) rfl (aj (Hl ps ?_)));rw[bu]
 ·exact aj (cZ hos hds (x:=vl) rfl (aj (Hl pl (aj (cZ hos hds (x:=vu) rfl (aj (Hl pu (au h))))))))
 ·cases st with
  | none=>exact bU
  | some c=>
   intro hh;have:c=0:=by simpa [rawPart,jD] using hh
   exact h0 (aD this rfl)
theorem ar7 (hs:s.heap.IsSliceOf sl vl vu vs)(h:Q aC s):aO M A (iQ (.ref sl)) Q E s:=Rt hs λos hos Eg hds=>(aj (oK ⟨os,hos,Eg⟩ slice_no_index (au h)))
theorem ai2 (ho:s.heap.get? a=aa o)(hd:o.data= .seq xs c)(h:Q xs s):aO M A (Builtin.List.listItems (.ref a)) Q E s:=
 aj (gf ho hd (au h))
theorem aQ6 {lo hi st:Option Int}(ho:s.heap.get? l=aa o)(hd:o.data= .seq items nn)(hs:s.heap.IsSliceOf sl vl vu vs)(pl:wV vl lo)(pu:wV vu hi)(ps:wV vs st)(h0:st≠aa 0)(hz:items.size≤sO)
  (h:F (.done (.ret (.ref s.heap.objs.size))) {s with heap:=s.heap.push {cls:= .type "list",data:= .seq (slicePick items lo hi st)}}):
  aO M A (eF.«list.__getitem__» ⟨[.ref l,.ref sl], []⟩) F E s:=by
 show aO _ _ (iQ (.ref sl)>>=_) _ _ s;exact aj (ar7 hs (Rt (id hs) λos hos Eg hds=>(aj (Ad ⟨os,hos,Eg⟩ (oh (bu (by decide)) (aj (aL3 hs pl pu ps h0 (aj (ai2 ho hd (aj (fX (sliceIndices_raw lo hi st items.size h0) (aj (eN (au h) (ak (slicePick_size_le items lo hi st) hz))))))))))))))
end
set_option tactic.hygienic true in
theorem Ik {α:Type}{l:List α}{i:Int}{x:α}(h:idx l i=aa x):∃j,kE i l.length=aa j∧l[j]?=aa x:=by
 unfold idx at h;unfold kE;by_cases h0:0≤i
 ·replace h:=(bG h0)▸h
  have hl:=(aL.mp h).1;refine⟨i.toNat, ?_,h⟩;rw[bu (jx.mpr h0),bG];simp only[fO,decide_eq_true_eq,decide_eq_true_eq];exact⟨h0,(xX h0).mp hl⟩
 ·replace h:=(bu h0)▸h
  split at h
  ·rename_i h1
   refine⟨(i+l.length).toNat, ?_,h⟩;rw[bG (pR.mp h0),bG];simp only[fO,decide_eq_true_eq,decide_eq_true_eq];exact⟨h1,(xX h1).mp ((aL.mp h).1)⟩
  ·exact iu h
section
variable {Γ:Cx}{ρ:eO}{H:Hp}{s:aV}{h:bL}{l:List fu}{lk:List Nat}{A:bQ}{u v:aB}{value:aF}{Q:PQ aB}{E:PQ aB}
theorem gA.get:∀{l:List V}{us:List aB},∀J:gA Γ ρ h l us,∀{i:Nat}{x:V}{u:aB},∀J:l[i]?=aa x,∀J:us[i]?=aa u,VR Γ ρ h x u:=by
 intro l
 induction l with
 | nil=>exact λU U U U e=>iu e
 | cons v l ih=>
  rintro _ ⟨u,us,hv,hs⟩ i x u' e e';cases i with
  | zero=>exact aq e▸aq e'▸hv
  | succ i=>exact ih hs e e'
inductive Uz (Γ:Cx)(ρ:eO)(h:bL)(us:Array aB)(i:Int)(x:V):Prop
 | mk (j:Nat) (u:aB) (h1:kE i us.size=aa j) (h2:us[j]?=aa u) (hu:VR Γ ρ h x u):Uz Γ ρ h us i x
theorem aB0 {l:List V}(hv:gA Γ ρ h l us.toList)(e:idx l i=aa x):Uz Γ ρ h us i x:=by refine lO (Ik e) λj h1 h2=> ?_;have hj:=hv.size▸(aL.mp h2).1;exact⟨j,us[j],hv.size▸h1,dG hj,hv.get h2 (by refine aD (cu) ?_;exact dG hj)⟩
theorem W4 (h:jz i=aC)(o v:aB):aok i aG o v=operate [o,v] (En o v):=by
 cases i with
 | Slice a b c p=>exact Sw h
 | _=>rfl
theorem aB1 (hk:small k=az):dZ k=az:=by have:=V8 hk;simp [dZ];assumption
theorem ay0 (ha:s.heap.get? a=aa (listOf us n))(hk:small k=az)(y:Uz Γ ρ s.heap us k x)(hQ:∀u,∀J:VR Γ ρ s.heap x u,Q u s):aO Γ.M A (En (.ref a) (.int k t)) Q E s:=by
 obtain⟨j,y,h1,h2,hy⟩:=y;obtain⟨z1,z2⟩:=V8 hk;rcases aj9 h1 with⟨h0,rfl⟩ | ⟨h0,hb,rfl⟩
 ·exact wpAny_getItem_list (J3 ha) h0 z2 h2 (hQ y hy)
 ·exact wpAny_getItem_list_neg (J3 ha) h0 (Int.le_of_sub_nonneg (by rw[QZ];exact hb)) z1 h2 (hQ y hy)
theorem agv (hn:jz slice=aC)(hk:small k=az)(y:Mh s.heap (gA Γ ρ s.heap xs) u)(e:idx xs k=aa x)(hQ:∀u,∀J:VR Γ ρ s.heap x u,Q u s):aO Γ.M A (lK value slice u (.int k t)) Q E s:=by obtain⟨a,us,nn,ha,hs⟩:=y;obtain⟨j,y,h1,h2,hy⟩:=aB0 hs e;exact Hm ⟨_,ha,rfl⟩ F.slot_tuple_getitem.lookup (PySem.P.getItem_tuple ha (V8 hk).1 (V8 hk).2 h1 h2 (hQ y hy)) (W4 hn _ _)
theorem agw (hn:jz slice=aC)(hk:small k=az)(e:idx x.cps.toList k=aa c)(hQ:∀tk yq,Q (.str ⟨#[c]⟩ tk) {s with toks:=yq}):aO Γ.M A (lK value slice (.str x t) (.int k t')) Q E s:=by
 refine lO (Ik e) λj h1 h2=> ?_;obtain⟨z1,z2⟩:=V8 hk;refine Hm rfl F.slot_str_getitem.lookup (PySem.P.getItem_str ?_ ?_ (hQ _ _)) (W4 hn _ _)
 ·rw[Le,decide_eq_false_iff_not,decide_eq_false_iff_not];exact⟨jx.mpr z1,pR.mpr z2⟩
 ·refine aD (show x.length=x.cps.toList.length from cj.symm) (aD h1 ?_)
  rw[cu]at h2;exact h2
theorem agx (K:M6 Γ)(S:SR Γ ρ H s)(hn:jz slice=aC)(hk:small k=az)(hv:VR Γ ρ s.heap (.ref j) u)(hj:H[j]?=aa o)(e:Cy k o=aa x)(hQ:∀u,∀J:VR Γ ρ s.heap x u,Q u s):aO Γ.M A (lK value slice u (.int k t)) Q E s:=by
 cases o with
 | list xs=>
  obtain⟨a,us,n,_,_,ha,hs,_⟩:=VR.list hv S hj;exact Hm (J3 ha).typeIs Ac.lookup (ay0 ha hk (aB0 hs e) hQ) (W4 hn _ _)
 | acc c d xs=>
  obtain⟨a,dx,es,n,us,kk,_,_,ha,_,_,hs,_⟩:=VR.acc hv S hj;obtain⟨j,y,h1,h2,hy⟩:=aB0 hs e;exact aL2 K S.rJ ⟨_,ha,rfl⟩ (W4 hn _ _) (aQ5 ha rfl (aB1 hk) h1 h2 ⟨_,rfl,hQ y hy⟩)
 | _=>exact p7 e
theorem agy (K:M6 Γ)(hn:jz slice=aC)(S:SR Γ ρ H s)(ho:VR Γ ρ s.heap o u)(hi:VR Γ ρ s.heap i v):jo Γ l lk A ρ s (opt (Z0 H o i) λw=>ok w H) (lK value slice u v) (v5 Γ):= .opt λw e=> .ok λQ E P=>by
 refine g8 e λk e1 e=> ?_;refine I5 e λhk e=> ?_;obtain⟨t⟩:=hi.intOf e1;cases o with
 | tup xs=>exact agv hn hk ho e λu hu=>P.ok S hu
 | str x=>
  refine g8 e λc hc e=> ?_;obtain rfl:=aq e;obtain⟨t'⟩:=ho;exact agw hn hk hc λtk yq=>P.ok S (.mk tk)
 | ref j=>
  exact g8 e λx hj e=>(agx K S hn hk ho hj e λu hu=>P.ok S hu)
 | _=>exact p7 e
inductive ag7 (p:Option Int):aB->Prop
 | mk (q:Option (Int×Tok)) (hp:wV (partValue q) p) (e:q.map (·.1)=p):ag7 p (partValue q)
theorem VR.part {v:V}(hv:VR Γ ρ h v u)(e:T5 v=aa p):ag7 p u:=by
 cases v with
 | none=>obtain rfl:=aq e;obtain rfl:=hv;exact .mk aC .none rfl
 | int i=>obtain rfl:=aq e;obtain⟨t⟩:=hv;exact .mk (aa (i,t)) (.int i t) rfl
 | _=>exact p7 e
theorem ag7.is (x:ag7 p u):wV u p:=x.casesOn λU hp U=>hp
theorem gA.picks {l:List V}{us:Array aB}(hv:gA Γ ρ h l us.toList):∀(is:List Nat),gA Γ ρ h (is.filterMap (l[·]?)) (is.filterMap (us[·]?)):=by
 intro zz
 induction zz with
 | nil=>
  exact rfl
 | cons i is ih=>
  by_cases q:i<l.length
  ·have q':=hv.size▸q
   rw[cP (bD q),cP (dG q')];exact⟨us[i],_,hv.get (bD q) (by refine aD (cu) ?_;exact dG q'),ih⟩
  ·have q':=hv.size▸q
   rw[dm (by simpa using q),dm (by simpa using q')];exact ih
theorem gA.jJ {l:List V}(hv:gA Γ ρ h l us.toList)(lo hi st:Option Int):gA Γ ρ h (Mine.Internal.jJ l lo hi st) (slicePick us lo hi st).toList:=by unfold Mine.Internal.jJ Mine.Internal.picks slicePick;exact nF hv.size (gA.picks hv _)
theorem aE1 (sa sb sc:Option aF)(sp:qg)(o v:aB):∃ops,aok (.Slice sa sb sc sp) aG o v=operate ops (En o v):=by
 cases sc with
 | none=>exact⟨_,rfl⟩
 | some e=>exact⟨_,rfl⟩
theorem aG6 {l:List V}{us:Array aB}(hv:gA Γ ρ h l us.toList)(lo hi st:Option Int):(jJ l lo hi st).length≤l.length:=nF ((hv.jJ lo hi st).length) (nF hv.size (aD cj (slicePick_size_le us lo hi st)))
set_option tactic.hygienic true in
theorem cut_str (S:SR Γ ρ H s){lo hi st:Option Int}{sa sb sc:Option aF}(ha:ag7 lo va)(hb:ag7 hi vb)(hc:ag7 st vc)(h0:st≠aa 0)(hs:s.heap.IsSliceOf sl va vb vc):
  jo Γ l lk A ρ s (opt (Rv (au4 x lo hi st)) λv=>ok v H) (lK value (.Slice sa sb sc sp) (.str x t) (.ref sl)) (v5 Γ):=by
 refine jA (aE1 sa sb sc sp (.str x t) (.ref sl)) λops UG=> ?_;obtain⟨ql,_,rfl⟩:=ha;obtain⟨qu,_,rfl⟩:=hb;obtain⟨qs,_,hst⟩:=hc;refine aE0 (λyJ Q E P=>Hm rfl F.slot_str_getitem.lookup (wpAny_getItem_str_slice hs ?_ ?_) UG) S
 ·refine aD hst ?_
  cases st with
  | none=>rfl
  | some z=>
   have:z≠0:=λq=>h0 (aD q rfl);simpa using this
 ·unfold sliceMade slicePicked
  refine aD hst ?_;have hp:picks (ql.map (·.1)) (qu.map (·.1)) st x.length=wB (ql.map (·.1)) (qu.map (·.1)) (st.getD 1) x.length:=rfl;unfold au4 at P yJ;rw[hp]at P yJ
  split
  ·rename_i hif
   replace P:=(bG hif)▸P;exact P _ _
  ·rename_i hif
   rw[bu hif]at P yJ;have e:jJ x.cps.toList (ql.map (·.1)) (qu.map (·.1)) st=(wB (ql.map (·.1)) (qu.map (·.1)) (st.getD 1) x.length).filterMap (x.cps[·]?):=by
    delta jJ;refine aD cj (aD hp ?_)
    congr 1
    funext i
    exact cu
   rw[e]at P yJ;exact⟨yJ,P _ _⟩
theorem aha (K:M6 Γ)(S:SR Γ ρ H s){lo hi st:Option Int}{sa sb sc:Option aF}(ha:ag7 lo va)(hb:ag7 hi vb)(hc:ag7 st vc)(h0:st≠aa 0)(hs:s.heap.IsSliceOf sl va vb vc)
  (hv:VR Γ ρ s.heap (.ref j) u) (hj:H[j]?=aa o):jo Γ l lk A ρ s (a6k H lo hi st o) (lK value (.Slice sa sb sc sp) u (.ref sl)) (v5 Γ):=by
 cases o with
 | list xs=>
  obtain⟨a,us,n,_,_,hA,je,hz⟩:=VR.list hv S hj;obtain⟨ops,UG⟩:=aE1 sa sb sc sp (.ref a) (.ref sl);refine .alloc S (je.jJ lo hi st) (ak (aG6 je _ _ _) hz) λQ E q=>Hm (J3 hA).typeIs Ac.lookup (wpAny_getItem_list_slice (J3 hA) hs ha.is hb.is hc.is h0 ?_ (je.size▸hz)) UG;simp only[pP]at q;exact q
 | acc c d xs=>
  obtain⟨a,dx,es,n,us,kk,_,_,hA,_,_,je,hz,_⟩:=VR.acc hv S hj;obtain⟨ops,UG⟩:=aE1 sa sb sc sp (.ref a) (.ref sl);refine .alloc S (je.jJ lo hi st) (ak (aG6 je _ _ _) hz) λQ E q=>aL2 K S.rJ ⟨_,hA,rfl⟩ UG (aQ6 hA rfl hs ha.is hb.is hc.is h0 (je.size▸hz) ⟨_,rfl, ?_⟩);simp only[pP]at q;exact q
 | _=>exact .none
theorem ahb (K:M6 Γ)(S:SR Γ ρ H s){sa sb sc:Option aF}(ho:VR Γ ρ s.heap o u)(ha:VR Γ ρ s.heap a va)(hb:VR Γ ρ s.heap b vb)(hc:VR Γ ρ s.heap c vc)(hs:s.heap.IsSliceOf sl va vb vc):
  jo Γ l lk A ρ s (Cz H o a b c) (lK value (.Slice sa sb sc sp) u (.ref sl)) (v5 Γ):=by
 refine .opt λlo e1=> .opt λhi e2=> .opt λst e3=> ?_;by_cases h0:st=aa 0
 ·rw[bG h0];exact .none
 rw[bu h0];cases o with
 | str x=>obtain⟨t⟩:=ho;exact cut_str S (ha.part e1) (hb.part e2) (hc.part e3) h0 hs
 | ref j=>exact .opt λx hj=>aha K S (ha.part e1) (hb.part e2) (hc.part e3) h0 hs ho hj
 | _=>exact .none
end
section
variable {Γ:Cx}{n m:Nat}{k:Kd}
theorem ahc (K:M6 Γ)(ho:v4 Γ n k o mo)(hi:v4 Γ n k i mi)(hc:jz i=aC):v4 Γ (n+1) k (.Subscript o i p) (.sub mo mi):=λenv l A φ H ρ s O a S F=>
 (ho env l A φ H ρ s O a.pred S F).iZ (λQ E w=>Subscript_ w) λv cM aZ aU u cU cg hv=>
  (hi env l A φ cM aZ aU O a.pred cg (F.ext cU)).iZ (λQ E w=>w) λagp ou dI bO vR dB fJ oG=>agy K hc fJ (hv.ext dB) oG
theorem UJ (ih:O8 Γ n m k)(o:Option aF)(env:fu)(l:List fu)(A:bQ)(φ:Fm)(H:Hp)(ρ:eO)(s:aV)(O:v9 Γ k env)(a:jW A l n)(S:SR Γ ρ H s)(F:FR Γ l ρ s.heap env φ.loc φ.cR):jo Γ l φ.lk A ρ s (dY Γ.G n φ (Fp (cE m k) o) H) (evalPart o env) (v5 Γ):=by
 cases o with
 | some e=>exact ih e env l A φ H ρ s O a S F
 | none=>
  cases n with
  | zero=>exact .none
  | succ n=>exact .pure S rfl
theorem ahd (K:M6 Γ)(ih:O8 Γ n m k){sa sb sc:Option aF}(ho:v4 Γ n k o mo):v4 Γ (n+1) k (.Subscript o (.Slice sa sb sc sp) p) (.vM mo (Fp (cE m k) sa) (Fp (cE m k) sb) (Fp (cE m k) sc)):=λenv l A φ H ρ s O a S F=>
 (ho env l A φ H ρ s O a.pred S F).iZ (λQ E w=>Subscript_ w) λv cM aZ aU u cU cg hv=>
  (UJ ih sa env l A φ cM aZ aU O a.pred cg (F.ext cU)).iZ (λQ E w=>wpAny_Slice w) λagp ou dI bO vR dB fJ oG=>
   (UJ ih sb env l A φ ou dI bO O a.pred fJ ((F.ext cU).ext dB)).iZ (λQ E w=>w) λaJi Bm qy jX Uv oW rK yI=>
    (UJ ih sc env l A φ Bm qy jX O a.pred rK (((F.ext cU).ext dB).ext oW)).iZ (λQ E w=>w) λaX3 aJl aqf sI a7o uI zN UL=>
     have kp:=K7 sI.heap {cls:= .type "slice",data:= .fields #[vR,Uv,a7o]};have rM:=Ext.keeps kp
     λq H' e Q E P=>ahb K (zN.keeps kp) ((hv.ext (dB.trans (oW.trans uI))).ext rM) ((oG.ext (oW.trans uI)).ext rM) ((yI.ext uI).ext rM) (UL.ext rM) (zF _ _ _ _) q H' e Q E (P.ext rM)
end
end
end Mine.Internal
end
section
namespace Mine.Internal
open PySem PySem.W PySem.Calls PyProof.Rows Builtin.ObjectAttr
variable {Γ:Cx}
structure Fv (Γ:Cx):Prop where
 hasDict:∀c,∀J:(Γ.G.bN c "__init__").isSome=az,Sd Γ.K c=az
 get:∀c,∀J:(Γ.G.bN c "__init__").isSome=az,∀J:c≠Γ.G.fW,gb Γ.K (.ref c) "__getattribute__"=aa (aa (.builtin "object.__getattribute__"))
 set:∀c,∀J:(Γ.G.bN c "__init__").isSome=az,gb Γ.K (.ref c) "__setattr__"=aa (aa (.builtin "object.__setattr__"))
 over:∀c,∀J:(Γ.G.bN c "__init__").isSome=az,∃cd,Hi Γ.K c=aa cd∧(onlyObject cd.mro=az∨cd.mro= [.ref c,.type "list",.type "object"])
 attr:∀c,∀J:(Γ.G.bN c "__init__").isSome=az,∀n,∀J:z7.contains n=az,gb Γ.K (.ref c) n=aa aC
section
variable {ρ:eO}{h:bL}{v:V}{u:aB}
theorem VR.handed (x:VR Γ ρ h v u)(hg:SN v=az):handedIn u=az:=by
 cases v with
 | gl w=>exact rU hg
 | none=>obtain rfl:=x;rfl
 | bool b=>obtain rfl:=x;rfl
 | int i=>obtain⟨t⟩:=x;rfl
 | str i=>obtain⟨t⟩:=x;rfl
 | tup l=>obtain⟨a,vs,n,_,_⟩:=x;rfl
 | ref i=>obtain⟨a,r,_⟩:=x;rfl
 | exc c m=>obtain⟨e,o,vs,t,tk,n,_⟩:=x;rfl
 | Ao k=>obtain⟨a,o,c,oc,_,_,_,_,_⟩:=x;rfl
 | mat=>obtain⟨a,o,_,_,_⟩:=x;rfl
 | Ru i=>obtain⟨a,d,_,_⟩:=x;rfl
inductive a7p (P:aB->Prop)(r:Option (Option aB)):Prop
 | mk (u:aB) (e:r=aa (aa u)) (hu:P u):a7p P r
theorem UT:Ra y (⟨hh,.str y t,u⟩::es)=aa (aa u):=by simp [Ra,Value.isStr]
theorem Mw (q:x≠y):Ra x (⟨hh,.str y t,u⟩::es)=Ra x es:=by simp [Ra,Value.isStr,(G9 λz=>q z.symm),DictEntry.refKey]
theorem DR.look:∀{d:j8}{es:List iR},∀J:DR Γ ρ h d es,∀x,(∀v,∀J:d.lookup x=aa v,a7p (VR Γ ρ h v) (Ra x es))∧(∀J:d.lookup x=aC,Ra x es=aa aC):=by
 intro zz
 induction zz with
 | nil=>
  intro _ r x;obtain rfl:=r;exact⟨λv e=>p7 e,λU=>rfl⟩
 | cons hd0 d ih=>
  obtain⟨y,w⟩:=hd0;rintro _ ⟨hh,t,u,es,hv,hs⟩ x;by_cases q:x=y
  ·subst q
   exact aD List.lookup_cons_self (aD UT ⟨λv e=>⟨u,rfl,aq e▸hv⟩,λe=>Sw e⟩)
  ·refine aD (Mw q) (aD yz (aD (G9 q) ?_))
   exact ih hs x
theorem DR.some (r:DR Γ ρ h d es)(x:aM):(Ra x es).isSome=az:=by
 cases e:d.lookup x with
 | none=>refine aD ((r.look x).2 e) ?_;rfl
 | some v=>obtain⟨u,hu,_⟩:=(r.look x).1 v e;refine aD hu ?_;rfl
theorem DR.len:∀{d:j8}{es:List iR},∀J:DR Γ ρ h d es,es.length=d.length:=by
 intro zz
 induction zz with
 | nil=>
  intro _ r;exact congrArg List.length r
 | cons _ _ ih=>
  rintro _ ⟨_,_,_,_,_,hs⟩;exact congrArg tH (ih hs)
theorem DR.put (hv:VR Γ ρ h v u):∀{d:j8}{es:List iR},∀J:DR Γ ρ h d es,DR Γ ρ h (upd d x v) (putL x hsh (.str x tk) u es):=by
 intro zz
 induction zz with
 | nil=>
  intro _ r;obtain rfl:=r;exact .mk hsh tk u [] hv rfl
 | cons hd0 d ih=>
  obtain⟨y,w⟩:=hd0;rintro _ ⟨hh,t,u',es,hw,hs⟩;by_cases q:y=x
  ·subst q
   exact aD (show putL y hsh (.str y tk) u (⟨hh,.str y t,u'⟩::es)=⟨hh,.str y t,u⟩::es from bG (beq_self_eq_true y)) (aD Cw (aD (bG rfl) (.mk hh t u es hv hs)))
  ·have e:putL x hsh (.str x tk) u (⟨hh,.str y t,u'⟩::es)=⟨hh,.str y t,u'⟩::putL x hsh (.str x tk) u es:=bu λh=>q (fG h)
   exact aD e (aD Cw (aD (bu q) (.mk hh t u' _ hw (ih hs))))
end
section
variable {A:bQ}{E:PQ aB}{s:aV}{x:aW}{ox:oH}{od:Option oH}
theorem ax8:gC "list.__getattribute__"=aa .slot∨gC "list.__getattribute__"=aa .method:=by decide+kernel
theorem ay1 (K:M6 Γ)(X:Γ.K.In s.heap)(I:InstAt s.heap x ox Γ.G.fW od)(hf:findObj Γ.K Γ.G.fW od name=aa r)
  (h:match r with
   | .value v=>handedIn v=az∧Q v {s with toks:=s.toks+1}
   | .bind g a=>aO Γ.M A.in1 (call g [a,.ref x,.ref Γ.G.fW]) (λv s'=>aO Γ.M A (handedOut v) Q E s') (λU U=>False) {s with toks:=s.toks+1}
   | .missing=>False):aO Γ.M A (Eo (.ref x) name expr) Q E s:=by
 refine aj (adh (bT (aj ?_)));have X':Γ.K.In ({s with toks:=s.toks+1}:aV).heap:=X;have I':InstAt ({s with toks:=s.toks+1}:aV).heap x ox Γ.G.fW od:=I;refine I'.type.here (aj ((fM X' K.ga).here ?_));refine aj ?_;refine(fM X' K.Uw).here ?_;refine aj (qL (bT ?_));refine oh (bu (by cases expr<;>decide)) ?_;simp only[PySem.F.slot_list_getattribute.bind];refine aj (au ?_);refine aj8 K X' (InstAt.ty I') ax8 (by decide+kernel:xK "list.__getattribute__"=aa ("list","__getattribute__")) (by decide+kernel) am_entry_list_getattribute (PySem.F.args_list_getattribute_2 _ _) ?_;refine aj (au ?_);refine aj (au ?_);refine aj (I'.type.here (aj ((looks_find X' I' hf).here ?_)));cases r with
 | value v=>
  refine au ⟨v,rfl, ?_⟩;refine oh (handedOut_of h.1) ?_;exact au h.2
 | bind g a=>
  exact aj (bT (bJ h (λv s' z=>au ⟨v,rfl,z⟩) λU U z=>z.elim))
 | missing=>exact h.elim
theorem a7q (K:M6 Γ)(C:Fv Γ)(X:Γ.K.In s.heap)(I:InstAt s.heap x ox c (aa (iU es nn)))(hc:(Γ.G.bN c "__init__").isSome=az)(hn:z7.contains name=az)
  (hl:Ra name es=aa (aa v)) (hv:handedIn v=az) (h:Q v {s with toks:=s.toks+1}):aO Γ.M A (Eo (.ref x) name az) Q E s:=by
 have f:findObj Γ.K c (aa (iU es nn)) name=aa (.value v):=findObj_own (C.hasDict c hc) (C.attr c hc name hn) rfl (by simp only[Cr];exact hl);by_cases q:c=Γ.G.fW
 ·subst q
  exact ay1 K X I f ⟨hv,h⟩
 ·exact get_value X I (C.get c hc q) f hv h
end
inductive Dh (Γ:Cx)(ρ:eO)(H:Hp)(h:bL)(i:Nat)(d:j8)(m:j8->p6):aB->Prop
 | mk (a dx c:aW) (ox:oH) (es:List iR) (n:Nat) (hi:H[i]?=aa (m d)) (hr:ρ[i]?=aa [a,dx]) (I:InstAt h a ox c (aa (iU es n))) (Cj:ox.dict=aa dx) (hd:h.get? dx=aa (iU es n)) (oA:a≠dx) (pJ:DR Γ ρ h d es) (uE:(Γ.G.bN c "__init__").isSome=az)
   (re:∀h' d' es' n',∀J:(∀b o,∀J:h.get? b=aa o,∀J:¬K3 o,h'.get? b=aa o),∀J:h'.get? a=aa ox,∀J:h'.get? dx=aa (iU es' n'),∀J:DR Γ ρ h' d' es',OR Γ ρ h' (m d') [a,dx]):Dh Γ ρ H h i d m (.ref a)
section
variable {ρ:eO}{H:Hp}{s:aV}{i:Nat}{u w:aB}{l:List fu}{lk:List Nat}{A:bQ}{E:PQ aB}{o v:V}{x:aM}
theorem ap0.dict (y:ap0 Γ ρ H s.heap i c d u):Dh Γ ρ H s.heap i d (.inst c) u:=by obtain⟨a,dx,es,n,hi,hr,ha,hd,pJ,h1,h2⟩:=y;exact⟨a,dx,c,_,es,n,hi,hr,⟨ha,rfl,rfl,hd⟩,rfl,hd,(λe=>by simp only[e,hd]at ha;cases ha),pJ,h1,λh' d' es' n' im e1 e2 e3=> .mk a dx es' n' e1 e2 e3 h1 h2⟩
theorem Bl.dict (y:Bl Γ ρ H s.heap i c d xs u):Dh Γ ρ H s.heap i d (.acc c · xs) u:=by obtain⟨a,dx,es,n,us,k,hi,hr,ha,hd,pJ,hs,hz,hc,h1⟩:=y;subst hc;exact⟨a,dx,_,_,es,n,hi,hr,⟨ha,rfl,rfl,hd⟩,rfl,hd,(λe=>by simp only[e,hd]at ha;cases ha),pJ,h1,λh' d' es' n' im e1 e2 e3=> .mk a dx es' n' us k e1 e2 e3 (hs.mono (H9.refl ρ s.heap) im) hz rfl h1⟩
inductive a7r (Γ:Cx)(ρ:eO)(H:Hp)(h:bL)(i:Nat)(d:j8)(u:aB):Prop
 | mk (m:j8->p6) (y:Dh Γ ρ H h i d m u):a7r Γ ρ H h i d u
theorem UW (S:SR Γ ρ H s)(hv:VR Γ ρ s.heap (.ref i) u)(hi:H[i]?=aa ob)(e:aD9 ob=aa d):a7r Γ ρ H s.heap i d u:=by
 cases ob with
 | inst c d'=>obtain rfl:=aq e;exact⟨_,(VR.inst hv S hi).dict⟩
 | acc c d' xs=>obtain rfl:=aq e;exact⟨_,(VR.acc hv S hi).dict⟩
 | _=>exact p7 e
theorem Va (K:M6 Γ)(C:Fv Γ)(S:SR Γ ρ H s)(ho:VR Γ ρ s.heap o u):jo Γ l lk A ρ s (opt (Ls H o x) λv=>ok v H) (Eo u x az) (v5 Γ):= .opt λv e=> .ok λQ E P=>by refine I5 e λhn e=> ?_;refine g8 e λi e1 e=> ?_;refine g8 e λob hi e=> ?_;refine g8 e λd hd e=> ?_;refine g8 e λw hw e=> ?_;refine I5 e λhg e=> ?_;obtain rfl:=aq e;obtain rfl:=al4 e1;obtain⟨m,⟨a,dx,c,ox,es,n,_,_,I,_,_,_,pJ,uE,_⟩⟩:=UW S ho hi hd;obtain⟨y,hy,hr⟩:=(pJ.look x).1 w hw;exact a7q K C S.rJ I uE hn hy (hr.handed hg) (P.ok S hr)
theorem aQ7 (self:aB):refuseLoop self "__setattr__" [.type "list",.type "object"]=pure ():=rfl
theorem awu {l:List aB}(h:onlyObject l=az∨l= [.ref c,.type "list",.type "object"])(self:aB):refuseLoop self "__setattr__" l=pure ()∧l.contains (.type "object")=az∧l.isEmpty=aG:=by
 rcases h with h | rfl
 ·exact⟨refuse_only self h,only_has h,by cases l with | nil=>cases h | cons _ _=>rfl⟩
 ·exact⟨by simp only[refuseLoop_ref,aQ7],rfl,rfl⟩
theorem Vb (name:aM)(hsh:Int)(key v:aB):∀es:List iR,(putL name hsh key v es).length≤es.length+1:=by
 intro zz
 induction zz with
 | nil=>
  exact aN _
 | cons e r ih=>
  show(@ite _ _ _ _ (e::putL name hsh key v r)).length≤_
  split
  ·exact dC _
  ·exact cO (ih)
theorem Vc {h:bL}{name:aM}{hsh:Int}{key v:aB}(D:h.get? dx=aa (iU es nn)):(h.update dx (vA name hsh key v)).get? dx=aa (iU (putL name hsh key v es) (putN name es nn)):=by rw[←putName_dict];exact iz _ D (by rw[putName_dict];rfl)
set_option tactic.hygienic true in
theorem Vd {v:aB}(D:s.heap.get? dx=aa (iU es nn))(hl:(Ra name es).isSome=az)(hz:es.length≤1000)
  (h:∀hsh,Q () {s with heap:=s.heap.update dx (vA name hsh (.str name s.toks) v),toks:=s.toks+1}):aO M A (nsSet dx name v) Q E s:=by
 refine aj (aj (wpAny_askSetting (au (aj (adh (aj (km D ?_)))))));have cc:(!es.toArray.any (·.key.isStr name)&&es.toArray.any (·.refKey))=aG:=by
  refine nF adi (nF adi ?_);unfold Ra at hl
  split at hl
  ·rename_i en he
   rw[aet.mpr ⟨en,BW he,aol he⟩];rfl
  ·split at hl
   ·exact rU hl
   ·rename_i z
    simp only[z,jq]
 refine aD (show(iU es nn).data= .dict es.toArray nn from rfl) ?_;dsimp only;rw[aRefKeyMayBeTheName_at];refine aD cc ?_;exact wpAny_updatePart D (h _)
theorem aJm (C:Fv Γ){v:aB}(X:Γ.K.In s.heap)(I:InstAt s.heap xa ox c (aa (iU es nn)))(hd:ox.dict=aa dx)(D:s.heap.get? dx=aa (iU es nn))
  (hc:(Γ.G.bN c "__init__").isSome=az) (hn:z7.contains name=az) (hl:(Ra name es).isSome=az) (hz:es.length≤1000)
  (h:∀hsh,R (.ok (.ret .none)) {s with heap:=s.heap.update dx (vA name hsh (.str name s.toks) v),toks:=s.toks+1}):
  gD Γ.M A (.call (.builtin "object.__setattr__") ⟨[.ref xa,.str name tk,v], []⟩) R s:=by
 refine lO (C.over c hc) λcd RC hm=> ?_;refine Be (awu hm (.ref xa)) λm1 m2 m3=> ?_;have SF:=PySem.F.store_object;refine aoj SF.slot.plain SF.entry (@check_slot Γ.M _ _ s "object.__setattr__" "object" "__setattr__" (.ref xa) [.str name tk,v] [] _ SF.kind SF.split (I.type.andThen (qQ X (by delta RX;refine aD RC ?_;rw[lL,bu (by rw[m3];decide),m2]))) (SF.args (.ref xa) (.str name tk) v) ?_);rw[osa_eq,refuse_eq];refine aj (aj (I.type.here (aj (((wW X RC).andThen .now:lA Γ.M s.heap (mroOf (.ref c)) cd.mro).here ?_))));refine aD m1 ?_;refine au (aj (I.type.here (aj ((fM X (C.attr c hc name hn)).here (aj (au ?_))))));obtain⟨hx,wk,hno,-⟩:=id I;obtain⟨oc,odi,oda,osl⟩:=ox;dsimp only at wk hd;subst wk hd;refine aj (au (aj (aj (km hx (aj ((wW X RC).here ?_))))));refine aD (show cd.hasDict=az from(any_some (C.hasDict c hc)).elim λcd' q=>aq (RC.symm.trans q.1)▸q.2) ?_;exact au (aj (au (aj (Vd D hl hz λhsh=>aj (wpAny_lookBehind (Vc D) (by
  exact pastItsLine_dict (by refine aD xN ?_;exact ak (Vb name _ _ v es) (ak (cO hz) (by decide)))) (au (h hsh)))))))
theorem ay2 (C:Fv Γ)(S:SR Γ ρ H s)(hv:VR Γ ρ s.heap v w){m:j8->p6}(y:Dh Γ ρ H s.heap i d m u)(hn:z7.contains x=az)(hz:d.length<100):jo Γ l lk A ρ s (put lk H i (m (upd d x v)) ()) (setAttr u x w) TT:= .put λvg Q E P=>by
 obtain⟨a,dx,c,ox,es,n,hi,hr,I,Cj,hd,oA,pJ,uE,re⟩:=y;refine set_plain S.rJ I (C.set c uE) (aJm C S.rJ I Cj hd uE hn (pJ.some x) (pJ.len▸ak (bR hz) (by decide)) λhsh=> ?_);have other:∀b,∀J:b≠dx,(s.heap.update dx (vA x hsh (.str x (s.toks+1)) w)).get? b=s.heap.get? b:=λb hb=>jh _ _ (Ne.symm hb);have D':=Vc (name:=x) (hsh:=hsh) (key:= .str x (s.toks+1)) (v:=w) hd;have A':=(other a oA).trans I.at_;have cU:Ext Γ (m7 l) (Wr Γ lk ρ) ρ s ρ {s with heap:=s.heap.update dx (vA x hsh (.str x (s.toks+1)) w),toks:=s.toks+1+1}:=Ext.Fq S hi hr vg (λb o hb e=>(other b λz=>hb (z▸ .tail _ (.head _))).trans e) λb hb=>by
  rcases aY.mp hb with rfl | q
  ·exact⟨_,A'⟩
  ·cases aP.mp q
   exact⟨_,D'⟩
 exact P ρ _ () cU (S.Fq hi hr (λb o hb e=>(other b λz=>hb (z▸ .tail _ (.head _))).trans e) (re _ _ _ _ cU.vf.vH A' D' (DR.put (hv.mono (H9.refl ρ s.heap) cU.vf.vH) (pJ.mono (H9.refl ρ s.heap) cU.vf.vH)))) trivial
theorem Ve (C:Fv Γ)(S:SR Γ ρ H s)(ho:VR Γ ρ s.heap o u)(hv:VR Γ ρ s.heap v w):jo Γ l lk A ρ s (V6 lk H o x v) (setAttr u x w) TT:=by
 refine .fV λhn=> .opt λi e=> .opt λob hi=> ?_;obtain rfl:=al4 e;cases ob with
 | inst c d=>exact .fV λhz=>ay2 C S hv (VR.inst ho S hi).dict hn (fH hz)
 | acc c d xs=>exact .fV λhz=>ay2 C S hv (VR.acc ho S hi).dict hn (fH hz)
 | _=>exact .none
end
theorem au8 (h:ab0 o=az)(x:aM)(env:fu)(w:RW aB):lM o x env w=w:=by
 cases o with
 | Call f l ks p=>
  cases f with
  | Name y q=>
   cases l with
   | nil=>
    cases ks with
    | nil=>exact rU h
    | cons _ _=>rfl
   | cons _ _=>rfl
  | _=>rfl
 | _=>rfl
theorem Vf (K:M6 Γ)(C:Fv Γ)(ho:v4 Γ n k o mo)(hb:ab0 o=az):v4 Γ (n+1) k (.Attribute o x p) (.attr mo x):=λenv l A φ H ρ s O a S F=>
 (ho env l A φ H ρ s O a.pred S F).iZ (λQ E w=>by
  show aO _ _ (do
   let ov←lM o x env (eval o env)
   mj p.atName
   let r←pU [ov] (Eo ov x az)
   letTemporaryGo o ov r
   pure r) _ _ _
  rw[au8 hb];exact aj (bJ w (λu s' z=>aj (dR (aj (bT (bJ z (λr bO z=>aj (wU (au z))) λU U z=>z))))) λU U z=>z)) λv cM aZ aU u cU cg hv=>Va K C cg hv
end Mine.Internal
end
section
namespace Mine.Internal
open PySem PySem.W PySem.Calls PyProof.Rows
section
def wK (Γ:Cx)(k:Kd)(lk:List Nat)(ρ:eO)(env:fu)(b:aW):Prop:=Wr Γ lk ρ b∨b=env.locals∨∃x,k x=aa .cell∧env.cells.lookup x=aa b
inductive ahe (P:aB->Prop):Flow->Prop
 | mk (u:aB) (hu:P u):ahe P (.ret u)
noncomputable def Ar (Γ:Cx)(ρ:eO)(h:bL):Fl->Flow->Prop
 | .next=>(·= .next)
 | .brk=>(·= .brk)
 | .cont=>(·= .cont)
 | .ret v=>ahe (VR Γ ρ h v)
def J1 (Γ:Cx)(k:Kd)(l:List fu)(env:fu)(lk:List Nat)(ρ:eO)(s:aV){α β:Type}(q:Res α)(jY:St)(R:eO->bL->α->β->Prop)(Q:PQ β)(E:PQ aB):Prop:=match q with
 | .ok v=>∀fj s' u,∀J:Ext Γ (m7 l) (wK Γ k lk ρ env) ρ s fj s',∀J:SR Γ fj jY.hp s',∀J:FR Γ l fj s'.heap env jY.loc jY.cR,∀J:R fj s'.heap v u,Q u s'
 | .exc c m=>∀fj s' e X,∀J:Ext Γ (m7 l) (wK Γ k lk ρ env) ρ s fj (uD s' X),∀J:SR Γ fj jY.hp (uD s' X),∀J:FR Γ l fj (uD s' X).heap env jY.loc jY.cR,∀J:Fly s.heap l c m X s'.heap e,E e s'
def I3 (Γ:Cx)(k:Kd)(l:List fu)(env:fu)(lk:List Nat)(ρ:eO)(s:aV){α β:Type}(r:v7 α)(W:∀J:(PQ β),∀J:(PQ aB),Prop)(R:eO->bL->α->β->Prop):Prop:=
 ∀q jY,∀J:r=aa (q,jY),∀(Q:PQ β)(E:PQ aB),∀J:J1 Γ k l env lk ρ s q jY R Q E,W Q E
section
variable {Γ:Cx}{k:Kd}{l:List fu}{env:fu}{lk:List Nat}{A:bQ}{ρ aZ fj:eO}{H H':Hp}{s aU s':aV}{σ gW jY:St}{α β γ δ:Type}{R:eO->bL->α->β->Prop}{R':eO->bL->γ->∀J:δ,Prop}{Q:PQ β}{E:PQ aB}{W:∀J:(PQ β),∀J:(PQ aB),Prop}
theorem wK.back (g:H9 ρ h fj)(q:wK Γ k lk fj env b):wK Γ k lk ρ env b∨h.get? b=aC:=
 q.elim (λq=>(g.wr q).imp .inl id) λq=> .inl (.inr q)
theorem Ext.toS (x:Ext Γ (m7 l) (Wr Γ lk ρ) ρ s fj s'):Ext Γ (m7 l) (wK Γ k lk ρ env) ρ s fj s':=x.weaken λU q=> .inl q
theorem J1.ext (P:J1 Γ k l env lk ρ s q jY R Q E)(x:Ext Γ (m7 l) (wK Γ k lk ρ env) ρ s aZ aU):J1 Γ k l env lk aZ aU q jY R Q E:=by
 cases q with
 | ok _=>exact λfj s' u x' S' F' r=>P fj s' u (x.trans' x' λb q=>q.back x.grow) S' F' r
 | exc _ _=>exact λfj s' e X x' S' F' r=>P fj s' e X (x.trans' x' λb q=>q.back x.grow) S' F' (r.less x.live)
theorem J1.take (ev:aa (r,σ)=aa (q,jY))(P:J1 Γ k l env lk ρ s q jY R Q E):J1 Γ k l env lk ρ s r σ R Q E:=by cases ev;exact P
theorem J1.done {u:β}(P:J1 Γ k l env lk ρ s (.ok v) σ R Q E)(S:SR Γ ρ σ.hp s)(F:FR Γ l ρ s.heap env σ.loc σ.cR)(r:R ρ s.heap v u):Q u s:=P ρ s u .refl S F r
theorem I3.none:I3 Γ k l env lk ρ s (aC:v7 α) W R:=λU U e=>iu e
theorem I3.ok (h:∀Q E,∀J:J1 Γ k l env lk ρ s (.ok v) σ R Q E,W Q E):I3 Γ k l env lk ρ s (aa (.ok v,σ)) W R:=λU U e Q E P=>h Q E (P.take e)
theorem I3.opt {f:α->v7 γ}{W:∀J:(PQ δ),∀J:(PQ aB),Prop}(h:∀a,∀J:o=aa a,I3 Γ k l env lk ρ s (f a) W R'):I3 Γ k l env lk ρ s (opt o f) W R':=by
 cases o with
 | none=>exact .none
 | some a=>exact h a rfl
theorem I3.fV (h:∀J:b=az,I3 Γ k l env lk ρ s r W R):I3 Γ k l env lk ρ s (fV b r) W R:=by
 cases b with
 | true=>exact h rfl
 | false=>exact .none
theorem I3.of (h:I3 Γ k l env lk ρ s r W R)(i:∀Q E,∀J:W Q E,W' Q E):I3 Γ k l env lk ρ s r W' R:=λq H' e Q E P=>i Q E (h q H' e Q E P)
theorem I3.lift (h:n8 Γ l lk ρ s r W R)(F:FR Γ l ρ s.heap env σ.loc σ.cR):I3 Γ k l env lk ρ s (jV σ r) W R:=λq jY ev Q E P=>by
 rcases r with _ | ⟨v | ⟨c,m⟩,cM⟩
 ·exact iu ev
 ·exact h _ _ rfl _ _ λaZ aU u x cg r=>P.take ev aZ aU u x.toS cg (F.ext x) r
 ·exact h _ _ rfl _ _ λaZ aU e X x cg f=>(P.take ev:J1 Γ k l env lk ρ s (.exc c m) {σ with hp:=cM} R Q E) aZ aU e X x.toS cg (F.ext x) f
theorem I3.step {f:α->St->v7 γ}(h:I3 Γ k l env lk ρ s r W R)(ev:N7 r f=aa (q,jY))(P:J1 Γ k l env lk ρ s q jY R' Q' E)
  (kk:∀v gW aZ aU u,∀J:f v gW=aa (q,jY),∀J:Ext Γ (m7 l) (wK Γ k lk ρ env) ρ s aZ aU,∀J:SR Γ aZ gW.hp aU,∀J:FR Γ l aZ aU.heap env gW.loc gW.cR,∀J:R aZ aU.heap v u,∀J:J1 Γ k l env lk aZ aU q jY R' Q' E,Q u aU):W Q E:=by
 rcases r with _ | ⟨v | ⟨c,m⟩,gW⟩
 ·exact iu ev
 ·exact h _ _ rfl _ _ λaZ aU u x cg pK r=>kk v gW aZ aU u ev x cg pK r (P.ext x)
 ·exact h _ _ rfl _ _ (P.take ev:J1 Γ k l env lk ρ s (.exc c m) gW R' Q' E)
theorem I3.Ml {f:α->St->v7 γ}{uH:β->aV->∀J:(PQ δ),∀J:(PQ aB),Prop}(h:I3 Γ k l env lk ρ s r W R)(BL:∀Q E,∀J:W (λu s'=>uH u s' Q E) E,W' Q E)
  (kk:∀v gW aZ aU u,∀J:Ext Γ (m7 l) (wK Γ k lk ρ env) ρ s aZ aU,∀J:SR Γ aZ gW.hp aU,∀J:FR Γ l aZ aU.heap env gW.loc gW.cR,∀J:R aZ aU.heap v u,I3 Γ k l env lk aZ aU (f v gW) (uH u aU) R'):I3 Γ k l env lk ρ s (N7 r f) W' R':=
 λU U ev Q E P=>BL Q E (h.step ev P λv gW aZ aU u lG x cg pK r Fw=>kk v gW aZ aU u x cg pK r _ _ lG Q E Fw)
theorem n8.Aq {f:α->St->v7 γ}(h:n8 Γ l lk ρ s r W R)(F:FR Γ l ρ s.heap env σ.loc σ.cR)(ev:N7 (jV σ r) f=aa (q,jY))(P:J1 Γ k l env lk ρ s q jY R' Q' E)
  (kk:∀v cM aZ aU u,∀J:f v {σ with hp:=cM}=aa (q,jY),∀J:Ext Γ (m7 l) (Wr Γ lk ρ) ρ s aZ aU,∀J:SR Γ aZ cM aU,∀J:R aZ aU.heap v u,∀J:J1 Γ k l env lk aZ aU q jY R' Q' E,Q u aU):W Q E:=by
 rcases r with _ | ⟨v | ⟨c,m⟩,cM⟩
 ·exact iu ev
 ·exact h _ _ rfl _ _ λaZ aU u x cg r=>kk v cM aZ aU u ev x cg r (P.ext x.toS)
 ·exact h _ _ rfl _ _ λaZ aU e X x cg f=>(P.take ev:J1 Γ k l env lk ρ s (.exc c m) {σ with hp:=cM} R' Q' E) aZ aU e X x.toS cg (F.ext x) f
theorem n8.Av {f:α->St->v7 γ}{uH:β->aV->∀J:(PQ δ),∀J:(PQ aB),Prop}(h:n8 Γ l lk ρ s r W R)(F:FR Γ l ρ s.heap env σ.loc σ.cR)(BL:∀Q E,∀J:W (λu s'=>uH u s' Q E) E,W' Q E)
  (kk:∀v cM aZ aU u,∀J:Ext Γ (m7 l) (Wr Γ lk ρ) ρ s aZ aU,∀J:SR Γ aZ cM aU,∀J:R aZ aU.heap v u,I3 Γ k l env lk aZ aU (f v {σ with hp:=cM}) (uH u aU) R'):I3 Γ k l env lk ρ s (N7 (jV σ r) f) W' R':=
 λU U ev Q E P=>BL Q E (h.Aq F ev P λv cM aZ aU u lG x cg r Fw=>kk v cM aZ aU u x cg r _ _ lG Q E Fw)
theorem jo.stmt {f:α->St->v7 γ}{uH:β->aV->∀J:(PQ δ),∀J:(PQ aB),Prop}(h:jo Γ l lk A' ρ s r t R)(F:FR Γ l ρ s.heap env σ.loc σ.cR)(BL:∀Q E,∀J:aO Γ.M A' t (λu s'=>uH u s' Q E) E s,W' Q E)
  (kk:∀v cM aZ aU u,∀J:Ext Γ (m7 l) (Wr Γ lk ρ) ρ s aZ aU,∀J:SR Γ aZ cM aU,∀J:R aZ aU.heap v u,I3 Γ k l env lk aZ aU (f v {σ with hp:=cM}) (uH u aU) R'):I3 Γ k l env lk ρ s (N7 (jV σ r) f) W' R':=
 n8.Av h F BL kk
end
structure Own (k:Kd)(env:fu)(l:List fu):Prop where
 kd:∀x,env.kindOf x=k x
 head:∃r,l=env::r
 frame:env.frame=aa env.locals
def T6 (Γ:Cx)(n:Nat)(k:Kd)(st:pM)(ms:n6):Prop:=
 ∀(env:fu)(l:List fu)(A:bQ)(lk:List Nat)(σ:St)(ρ:eO)(s:aV),∀J:v9 Γ k env,∀J:Own k env l,∀J:jW A l n,∀J:SR Γ ρ σ.hp s,∀J:FR Γ l ρ s.heap env σ.loc σ.cR,I3 Γ k l env lk ρ s (iY Γ.G n lk ms σ) (λQ E=>aO Γ.M A (adk st env) Q E s) (Ar Γ)
def Di (Γ:Cx)(n:Nat)(k:Kd)(t:aF)(mt:j6):Prop:=
 ∀(env:fu)(l:List fu)(A:bQ)(lk:List Nat)(v:V)(σ:St)(ρ:eO)(s:aV)(u:aB),∀J:v9 Γ k env,∀J:jW A l n,∀J:SR Γ ρ σ.hp s,∀J:FR Γ l ρ s.heap env σ.loc σ.cR,∀J:VR Γ ρ s.heap v u,I3 Γ k l env lk ρ s (K5 Γ.G n lk mt v σ) (λQ E=>aO Γ.M A (vB t env u) Q E s) TT
abbrev yK (Γ:Cx)(n:Nat):Prop:=∀m k st,T6 Γ n k st (cS m k st)
section
variable {Γ:Cx}{k:Kd}{l:List fu}{lk:List Nat}{A:bQ}{ρ:eO}{H:Hp}{s s':aV}{h h':bL}{c:aW}{o o':oH}{env:fu}{loc cR:j8}{x:aM}{v:V}{u:aB}{W:aW->Prop}{FS:List aW}
theorem qM.vh {m:aM->Option aB}(x:h.Ns a m):S5 h a:=by obtain⟨o,es,ep,ho,hd,_⟩:=x;exact⟨o,ho,.inr (.inr (.inr (.inr (.inr (.inr (.inl ⟨es,ep,hd⟩))))))⟩
theorem uX.vh {v:Option aB}(x:h.IsCell a v):S5 h a:=lO x λo ho hd=>⟨o,ho,.inr (.inr (.inr (.inr (.inr (.inr (.inr (.inl ⟨v,hd⟩)))))))⟩
theorem aE2 (T:S5 h c)(sb:∀b,∀J:b≠c,h'.get? b=h.get? b)(b:aW)(o:oH)(e:h.get? b=aa o)(n:¬K3 o):h'.get? b=aa o:=
 (sb b λq=>T.casesOn λU ho hm=>n (aq ((q▸ho).symm.trans e)▸hm)).trans e
theorem SR.apart1 (S:SR Γ ρ H s)(T:S5 s.heap c)(hr:c∉ρ.flatten)(ht:c∉Γ.tabs)(hg0:Γ.g0.get? c=aC)(sb:∀b,∀J:b≠c,s'.heap.get? b=s.heap.get? b)(hg:s'.gens=s.gens:=by rfl):SR Γ ρ H s':=⟨S.len,S.nodup,λi o' e=>(S.objs i o' e).imp λr q=>⟨q.1,q.2.mono (H9.refl ρ s.heap) (aE2 T sb) λb hb o'' e'=>(sb b λz=>hr (cG.mpr ⟨r,aR q.1,z▸hb⟩)).trans e'⟩,λb o' e=>(sb b λq=>by simp only[q,hg0]at e;exact iu e).trans (S.base b o' e),S.apart,S.lR,hg▸S.gens,S.Mm (λb o hb e=>(sb b λq=>ht (q▸hb)).trans e) (aE2 T sb)⟩
theorem Ext.apart1 (T:S5 s.heap c)(hW:W c)(uh:s'.heap.get? c=aa o')(sb:∀b,∀J:b≠c,s'.heap.get? b=s.heap.get? b)(h1:s'.os=s.os:=by rfl)(h2:s'.drawn=s.drawn:=by rfl):Ext Γ FS W ρ s ρ s':=
 T.casesOn λo ho hm=>⟨.refl _ _,.Ua ho hm hW λb o e q=>(sb b e).trans q,λb o q=>if e:b=c then⟨o',e▸uh⟩ else⟨o,(sb b e).trans q⟩,h1,h2⟩
theorem X3:(upd e x v).lookup y=if y=x then aa v else e.lookup y:=by
 induction e with
 | nil=>
  simp only[show upd [] x v= [(x,v)] from rfl,lN];by_cases h:y=x
  ·subst h;simp
  ·simp [h,G9 h]
 | cons p r ih=>
  obtain⟨z,u⟩:=p;refine aD Cw ?_;by_cases h:z=x
  ·subst h
   simp only[if_true,lN];by_cases h':y=z
   ·subst h';simp
   ·simp [h',G9 h']
  ·simp only[bu h,lN]
   by_cases h':y=z
   ·subst h';simp [h]
   ·simp [G9 h',ih]
theorem VR.one (T:S5 h c)(sb:∀b,∀J:b≠c,h'.get? b=h.get? b)(x:VR Γ ρ h v u):VR Γ ρ h' v u:=x.mono (H9.refl ρ h) (aE2 T sb)
theorem IsC.one (y:IsC h b)(sb:∀J:b≠c,h'.get? b=h.get? b)(hc:∀J:b=c,IsC h' b):IsC h' b:=by
 by_cases q:b=c
 ·exact hc q
 ·obtain⟨o,w,ho,hd⟩:=y
  exact⟨o,w,(sb q).trans ho,hd⟩
theorem I7.one (K:I7 Γ l ρ h)(sb:∀b,∀J:b≠c,h'.get? b=h.get? b)(hc:∀o es n,∀J:h.get? c=aa o,∀J:o.data= .dict es n,∃o' es n,h'.get? c=aa o'∧o'.data= .dict es n):I7 Γ l ρ h':=λe he=>by
 obtain⟨L,o,es,n,hk,hf,ho,hd,r1,r2,r3⟩:=K e he;by_cases q:L=c
 ·subst q
  obtain⟨o',es',n',h1,h2⟩:=hc o es n ho hd;exact⟨L,o',es',n',hk,hf,h1,h2,r1,r2,r3⟩
 ·exact⟨L,o,es,n,hk,hf,(sb L q).trans ho,hd,r1,r2,r3⟩
theorem FR.Vg {m':aM->Option aB}(F:FR Γ l ρ h env loc cR)(T:S5 h env.locals)(Bj:h'.Ns env.locals m')(sb:∀b,∀J:b≠env.locals,h'.get? b=h.get? b)(hl:∀y v,∀J:Mx.lookup y=aa v,∃u,m' y=aa u∧VR Γ ρ h v u)(lw:∀J:(Mx.lookup ("errors":aM)).isSome=az,Γ.vd env):FR Γ l ρ h' env Mx cR:=by
 refine⟨F.uU.one sb λU U U U U=> ?_,⟨_,Bj,λy w e=>(hl y w e).imp λu q=>⟨q.1,q.2.one T sb⟩⟩,λy w e=> ?_,F.wI,F.xV,F.xW,F.sY,F.Bk,F.vQ,λy c e=>(F.qe y c e).one (sb c) λq=>absurd q (F.neL y c e),F.apart,F.neL,lw⟩
 ·obtain⟨o',es,ep,uh,Dg,_⟩:=Bj
  exact⟨o',es,ep,uh,Dg⟩
 ·obtain⟨c,u',hc,⟨o,ho,hd⟩,hv'⟩:=F.cells y w e
  exact⟨c,u',hc,⟨o,(sb c (F.neL y c hc)).trans ho,hd⟩,hv'.one T sb⟩
theorem FR.stLoc {m:aM->Option aB}(My:∀J:x=("errors":aM),Γ.vd env)(F:FR Γ l ρ h env loc cR)(hn:h.Ns env.locals m)(hl:∀y v,∀J:loc.lookup y=aa v,∃u,m y=aa u∧VR Γ ρ h v u)
  (Bj:h'.Ns env.locals (λy=>if y=x then aa u else m y)) (sb:jG env.locals h h') (hv:VR Γ ρ h v u):FR Γ l ρ h' env (upd loc x v) cR:=by
 refine F.Vg (qM.vh hn) Bj sb.2 (λy w e=> ?_) λh=> ?_
 ·rw[X3]at e
  by_cases q:y=x
  ·rw[bG q]at e
   exact⟨u,bG q,aq e▸hv⟩
  ·rw[bu q]at e
   exact(hl y w e).imp λu' q'=>⟨(bu q).trans q'.1,q'.2⟩
 ·by_cases q:x=("errors":aM)
  ·exact My q
  ·exact F.Mj (by rwa [X3,bu (λz=>q z.symm)]at h)
theorem FR.a7t (F:FR Γ l ρ h env loc cR)(hx:env.cells.lookup x=aa c)(hc:h.IsCell c aX8)(hc':h'.IsCell c (aa u))(sb:jG c h h')(hv:VR Γ ρ h v u):FR Γ l ρ h' env loc (upd cR x v):=by
 have T:=uX.vh hc;obtain⟨m,hn,hl⟩:=F.ns;refine⟨F.uU.one sb.2 λo es n e1 e2=> ?_,⟨m,hn.sameBut sb (λq=>F.neL x c hx q.symm),λy w e=>(hl y w e).imp λu' q=>⟨q.1,q.2.one T sb.2⟩⟩,λy w e=> ?_,F.wI,F.xV,F.xW,F.sY,F.Bk,F.vQ,λy c1 e=>(F.qe y c1 e).one (sb.2 c1) λq=> ?_,F.apart,F.neL,F.Mj⟩
 ·refine lO hc λo2 e3 e4=> ?_
  obtain rfl:=aq (e1.symm.trans e3);cases e2.symm.trans e4
 ·rw[X3]at e
  by_cases q:y=x
  ·rw[bG q]at e
   exact⟨c,u,q▸hx,hc',(aq e▸hv).one T sb.2⟩
  ·rw[bu q]at e
   obtain⟨c1,u',hc1,hi,hv'⟩:=F.cells y w e;exact⟨c1,u',hc1,hi.sameBut sb (λq'=>q (F.apart y x c1 hc1 (q'▸hx))),hv'.one T sb.2⟩
 ·refine lO hc' λo' uh Dg=> ?_
  exact⟨o',_,q▸uh,Dg⟩
theorem aB2 {σ:St}(O:v9 Γ k env)(hx:k x=aa .local)(S:SR Γ ρ σ.hp s)(F:FR Γ l ρ s.heap env σ.loc σ.cR)(hv:VR Γ ρ s.heap v u)
  (P:∀s',∀J:Ext Γ (m7 l) (wK Γ k lk ρ env) ρ s ρ s',∀J:SR Γ ρ σ.hp s',∀J:FR Γ l ρ s'.heap env (upd σ.loc x v) σ.cR,Q () s'):aO Γ.M A (storeName env x u) Q E s:=by
 obtain⟨m,hn,hl⟩:=F.ns;refine lU (O.loc x hx) hn (λh' Bj sb=> ?_) (by refine aD O.kind ?_;rfl);obtain⟨o',uh,_⟩:=qM.vh Bj;exact P _ (.apart1 (qM.vh hn) (.inr (.inl rfl)) uh sb.2) (S.apart1 (qM.vh hn) F.wI F.xW F.Bk sb.2) (FR.stLoc (λe=>O.Mj (e▸hx)) F hn hl Bj sb hv)
theorem Vh {σ:St}(O:v9 Γ k env)(hx:k x=aa .cell)(hxc:x≠("__class__":aM))(S:SR Γ ρ σ.hp s)(F:FR Γ l ρ s.heap env σ.loc σ.cR)(hv:VR Γ ρ s.heap v u)
  (P:∀s',∀J:Ext Γ (m7 l) (wK Γ k lk ρ env) ρ s ρ s',∀J:SR Γ ρ σ.hp s',∀J:FR Γ l ρ s'.heap env σ.loc (upd σ.cR x v),Q () s'):aO Γ.M A (storeName env x u) Q E s:=by
 refine nu (λhk hs=> ?_) (O.Ub x hx);obtain⟨c,hc⟩:=bZ.mp hs;obtain⟨o,w,ho,hd⟩:=F.qe x c hc;have hi:s.heap.IsCell c w:=⟨o,ho,hd⟩;have T:=uX.vh hi;refine wpAny_storeName_cell O.kind hk hc hi λh' vU sb=> ?_;obtain⟨o',uh,_⟩:=uX.vh vU;exact P _ (.apart1 T (.inr (.inr ⟨x,hx,hc⟩)) uh sb.2) (S.apart1 T (F.xV x c hc) (F.sY x c hc) (F.vQ x c hc hxc) sb.2) (F.a7t hc hi vU sb hv)
end
section
variable {Γ:Cx}{n:Nat}{k:Kd}
theorem Vi (hx:k x=aa .local):Di Γ (n+1) k (.Name x p) (.loc x):=λenv l A lk v σ ρ s u O a S F hv=> .ok λQ E P=>
 pW (aB2 O hx S F hv λs' x' S' F'=>P ρ s' () x' S' F' trivial)
theorem Vj (hx:k x=aa .cell)(hxc:x≠("__class__":aM)):Di Γ (n+1) k (.Name x p) (.cR x):=λenv l A lk v σ ρ s u O a S F hv=> .ok λQ E P=>
 pW (Vh O hx hxc S F hv λs' x' S' F'=>P ρ s' () x' S' F' trivial)
theorem ac4:Di Γ n k t .bad:=by
 cases n with
 | zero=>exact λU U U U U U U U U U U U U U=> .none
 | succ n=>exact λU U U U U U U U U U U U U U=> .none
theorem Mz (C:Fv Γ)(ho:v4 Γ n k o mo):Di Γ (n+1) k (.Attribute o x p) (.attr mo x):=λenv l A lk v σ ρ s u O a S F hv=>by
 refine .lift ((ho env l A (σ.fm lk) σ.hp ρ s O a.pred S F).iZ (λQ E w=> ?_) λov cM aZ aU ahg cU cg qU=>Ve (A:=A) C cg qU (hv.ext cU)) F;show aO _ _ (do
  let ov←pU [u] (eval o env)
  mj p.atName
  pU [u,ov] (setAttr ov x u)
  release [u,ov] []) _ _ _
 exact aj (bT (bJ w (λov s' z=>aj (dR (aj (bT (bJ z (λU U z=>Rb z) λU U z=>z))))) λU U z=>z))
end
end
section
structure R5 (Γ:Cx):Prop where
 bN:∀c x g,∀J:Γ.G.bN c x=aa g,gb Γ.K (.ref c) x=aa (aa (.ref g))∧uv Γ.K (.ref g)=aa (.type "function")∧(Γ.G.fn g).isSome
 get:∀c x g,∀J:Γ.G.bN c x=aa g,(∃ga,gb Γ.K (.ref c) "__getattribute__"=aa (aa (.builtin ga))∧jO ga="object.__getattribute__")∧gb Γ.K (.ref c) "__getattr__"=aa aC
structure ad8 (Γ:Cx):Prop where
 plain:∀c,∀J:(Γ.G.bN c "__init__").isSome=az,Hj Γ.K c=az
set_option backward.match.sparseCases true in
noncomputable abbrev Ret (Q:PQ aB)(E:PQ aB):PQ za:=λr s'=>match r with | .ok (.ret v)=>Q v s' | .ok _=>False | .error e=>E e s'
def Il (Γ:Cx)(n:Nat):Prop:=
 ∀(l:List fu)(A:bQ)(lk:List Nat)(a:aW)(vs ks:List V)(kn:List aM)(H:Hp)(ρ:eO)(s:aV)(us lZ:List aB),∀J:jW A l n,∀J:SR Γ ρ H s,∀J:I7 Γ l ρ s.heap,∀J:gA Γ ρ s.heap vs us,∀J:gA Γ ρ s.heap ks lZ,n8 Γ l lk ρ s (p8 Γ.G n lk a vs kn ks H) (λQ E=>gD Γ.M A (.call (.ref a) ⟨us,kn.zip lZ⟩) (Ret Q E) s) (v5 Γ)
section
variable {M:yw}{A:bQ}{E:PQ aB}{s:aV}{l:aW}{o:oH}{items:Array aB}{nn:Nat}{F:PQ Fin}
theorem aQ8 (ho:s.heap.get? l=aa o)(hd:o.data= .seq items nn)(Uy:dZ k=az)(hk:kE k items.size=aa j)(hj:j<items.size)
  (h:F (.done (.ret .none)) {s with heap:=s.heap.update l (dM (·.setIfInBounds j v))}):aO M A (eF.«list.__setitem__» ⟨[.ref l,.int k t,v], []⟩) F E s:=by
 show aO _ _ (iQ (.int k t)>>=_) _ _ s;refine aj (RZ Uy ?_);cases k with
 | ofNat p=>
  have hp:=(aj9 hk).elim (λq=>q.2) λq=>absurd q.1 (jx.mpr (cJ p));subst hp;exact aj (aj (wpAny_seqItemAt ho hd (au (aD (dG hj) (aj (wpAny_setSeqItemAt ho hd (au h)))))))
 | negSucc p=>
  refine aj (aj ?_);refine aj (gf ho hd (au (au ?_)));refine aD hk ?_;rw[lL];refine aD (dG hj) ?_;exact(aj (wpAny_setSeqItemAt ho hd (au h)))
theorem aL4 {n m a b:Nat}(h:a≤b):min a n+m+(n-b)≤n+m:=by rw[cB];exact bB ((xY b n).elim (λq=>ak (bB (ak (lg _ _) h) _) (bM (xZ q))) λq=>aD (Lf q) (yW _ _)) m
theorem Vk (h:a≤b):min a n-0+m+(min n n-b)≤n+m:=by rw[Nat.min_self];exact aL4 h
theorem aL5 (x y:Int):x.toNat≤(max x y).toNat:=Int.toNat_le_toNat (Ae x y)
theorem ay3 {lo hi:Option Int}(ho:s.heap.get? l=aa o)(hd:o.data= .seq items nn)(hs:s.heap.IsSliceOf sl vl vu .none)(pl:wV vl lo)(pu:wV vu hi)
  (hj:s.heap.get? j=aa oj) (hjd:oj.data= .seq new nj) (hjc:oj.cls= .type "list") (hz:items.size+new.size≤sO)
  (h:F (.done (.ret .none)) {s with heap:=s.heap.update l (dM λxs=>xs.extract 0 (eE lo hi aC items.size).1.toNat++new++xs.extract (max (eE lo hi aC items.size).1 (eE lo hi aC items.size).2.1).toNat xs.size)}):
  aO M A (eF.«list.__setitem__» ⟨[.ref l,.ref sl,.ref j], []⟩) F E s:=by
 show aO _ _ (iQ (.ref sl)>>=_) _ _ s;refine aj (ar7 hs ?_);refine Rt (id hs) λos hos Eg hds=> ?_;refine aj (Ad ⟨os,hos,Eg⟩ ?_);refine oh (bu (by decide)) ?_;refine aj (aL3 hs pl pu .none (by simp) ?_);have N:∀{Q:PQ (Array aB)},∀J:Q new s,aO M A (Builtin.List.listAllItems (.ref j) "must assign iterable to extended slice") Q E s:=λq=>by exact aj (Ad ⟨oj,hj,hjc⟩ (oh (bG (by decide)) (ai2 hj hjd q)))
 dsimp only
 split
 case' isTrue=>refine aj (ai2 hj hjd ?_)
 case' isFalse=>refine aj (N ?_)
 all_goals
  refine aj (ai2 ho hd ?_);refine aj (fX (sliceIndices_raw lo hi aC items.size (by simp)) ?_);show aO _ _ (if ((1:Int)==1)=az then _ else _) _ _ s;rw[bG (by decide)];refine aj (jE ?_);rw[bu (by delta xJ;simpa using hz)];refine aj (vI ho hd ?_ (ak (aQ _ _) (by assumption)) ?_)
  ·exact aj (tZ (au h))
  ·simp only[wR,wR,Rc,Rc]
   exact gq (ak (Vk (aL5 _ _)) hz)
end
section
variable {Γ:Cx}{ρ:eO}{H:Hp}{s:aV}{h:bL}{i:Nat}{u v w x:aB}{l:List fu}{lk:List Nat}{A:bQ}{E:PQ aB}{Q:PQ Unit}
theorem aL6 {m:List V->p6}(S:SR Γ ρ H s)(hi:H[i]?=aa (m xs))(hr:ρ[i]?=aa (b::r))(ha:s.heap.get? b=aa {cls:=c,dict:=d,data:= .seq us n})(hb:b∉r)(lv:∀a∈r,∃o,s.heap.get? a=aa o)
  (re:∀h' l' us' n',∀J:(∀b o,∀J:s.heap.get? b=aa o,∀J:¬K3 o,h'.get? b=aa o),∀J:h'.get? b=aa {cls:=c,dict:=d,data:= .seq us' n'},∀J:(∀a∈r,h'.get? a=s.heap.get? a),∀J:gA Γ ρ h' l' us'.toList,∀J:l'.length≤16777216,OR Γ ρ h' (m l') (b::r))
  (vg:i∉lk) (f:Array aB->Array aB) (hv:gA Γ ρ s.heap xs' (f us).toList) (hz:xs'.length≤16777216) (tk:Nat) {R:eO->bL->Unit->Unit->Prop} (P:∀x:Ext Γ (m7 l) (Wr Γ lk ρ) ρ s ρ {s with heap:=s.heap.update b (dM f),toks:=tk},∀J:SR Γ ρ (H.set i (m xs')) {s with heap:=s.heap.update b (dM f),toks:=tk},Q () {s with heap:=s.heap.update b (dM f),toks:=tk}):
  Q () {s with heap:=s.heap.update b (dM f),toks:=tk}:=by
 have hB:∃n',(s.heap.update b (dM f)).get? b=aa {cls:=c,dict:=d,data:= .seq (f us) n'}:=⟨_,iz _ ha rfl⟩;obtain⟨n',hB⟩:=hB;have other:∀a,∀J:a≠b,(s.heap.update b (dM f)).get? a=s.heap.get? a:=λa h=>jh _ _ (Ne.symm h);have x:Ext Γ (m7 l) (Wr Γ lk ρ) ρ s ρ {s with heap:=s.heap.update b (dM f),toks:=tk}:=Ext.Fq S hi hr vg (λa o h e=>(other a λz=>h (z▸ .head _)).trans e) λa h=>by
  rcases aY.mp h with rfl | q
  ·exact⟨_,hB⟩
  ·exact(lv a q).imp λo e=>((λa h=>other a λe=>hb (e▸h)) a q).trans e
 exact P x (S.Fq hi hr (λa o h e=>(other a λz=>h (z▸ .head _)).trans e) (re _ _ _ _ x.vf.vH hB (λa h=>other a λe=>hb (e▸h)) (hv.ext x) hz))
theorem ac8 (S:SR Γ ρ H s)(hi:H[i]?=aa (.list xs))(hr:ρ[i]?=aa [b])(ha:s.heap.get? b=aa (listOf us n))(vg:i∉lk)(f:Array aB->Array aB)(hv:gA Γ ρ s.heap xs' (f us).toList)(hz:xs'.length≤16777216)(tk:Nat)
  (P:∀x:Ext Γ (m7 l) (Wr Γ lk ρ) ρ s ρ {s with heap:=s.heap.update b (dM f),toks:=tk},∀J:SR Γ ρ (H.set i (.list xs')) {s with heap:=s.heap.update b (dM f),toks:=tk},Q () {s with heap:=s.heap.update b (dM f),toks:=tk}):Q () {s with heap:=s.heap.update b (dM f),toks:=tk}:=
 aL6 (R:=TT) S hi hr ha nofun nofun (λh' l' us' n' im e U hv hz'=> .mk b us' n' e hv hz') vg f hv hz tk P
theorem ap2 (S:SR Γ ρ H s)(hi:H[i]?=aa (.acc Γ.G.fW d xs))(hr:ρ[i]?=aa [b,dx])(ha:s.heap.get? b=aa {cls:= .ref Γ.G.fW,dict:=aa dx,data:= .seq us n})(hd:s.heap.get? dx=aa (iU es nd))(pJ:DR Γ ρ s.heap d es)(uE:(Γ.G.bN Γ.G.fW "__init__").isSome=az)
  (vg:i∉lk) (f:Array aB->Array aB) (hv:gA Γ ρ s.heap xs' (f us).toList) (hz:xs'.length≤16777216) (tk:Nat)
  (P:∀x:Ext Γ (m7 l) (Wr Γ lk ρ) ρ s ρ {s with heap:=s.heap.update b (dM f),toks:=tk},∀J:SR Γ ρ (H.set i (.acc Γ.G.fW d xs')) {s with heap:=s.heap.update b (dM f),toks:=tk},Q () {s with heap:=s.heap.update b (dM f),toks:=tk}):Q () {s with heap:=s.heap.update b (dM f),toks:=tk}:=
 aL6 (R:=TT) S hi hr ha (λq=>(λe=>by rw[e,ha]at hd;cases hd) (aP.mp q).symm) (λc hc=>⟨_,aP.mp hc▸hd⟩) (λh' l' us' n' im e er hv hz'=> .mk b dx es nd us' n' e ((er dx (.head _)).trans hd) (pJ.mono (H9.refl ρ s.heap) im) hv hz' rfl uE) vg f hv hz tk P
theorem gA.aJo (hu:VR Γ ρ h a u):∀{xs:List V}{us:List aB}(j:Nat),∀J:gA Γ ρ h xs us,gA Γ ρ h (xs.set j a) (us.set j u):=by
 intro l
 induction l with
 | nil=>exact λU x=>x.nil▸rfl
 | cons v l ih=>
  rintro _ j ⟨u',us,hv,hs⟩;cases j with
  | zero=>exact .mk _ us hu hs
  | succ j=>exact .mk _ _ hv (ih j hs)
set_option tactic.hygienic true in
theorem MF {α:Type}{xs r:List α}{k:Int}{a:α}(e:setAt xs k a=aa r):∃j,kE k xs.length=aa j∧j<xs.length∧r=xs.set j a:=by
 unfold setAt at e;unfold kE
 split at e
 ·rename_i h0
  split at e
  ·rename_i h1
   refine⟨k.toNat, ?_,(xX h0).mpr h1,(aq e).symm⟩;rw[bu (jx.mpr h0),bG];simp only[fO,decide_eq_true_eq,decide_eq_true_eq];exact⟨h0,h1⟩
  ·exact iu e
 ·rename_i h0
  split at e
  ·rename_i h1
   refine⟨(k+xs.length).toNat, ?_,(xX h1).mpr (kI (Rf (pR.mp h0) _) (pg (Int.zero_add _))),(aq e).symm⟩;rw[bG (pR.mp h0),bG];simp only[fO,decide_eq_true_eq,decide_eq_true_eq];exact⟨h1,kI (Rf (pR.mp h0) _) (pg (Int.zero_add _))⟩
  ·exact iu e
theorem ar8 {i v:aB}(ha:s.heap.get? b=aa (listOf us nn))
  (h:aO Γ.M A.in1 (eF.«list.__setitem__» ⟨[.ref b,i,v], []⟩) (λfin s'=>∃v,fin= .done (.ret v)∧Q () s') E s):aO Γ.M A (xM (.ref b) i v) Q E s:=by
 refine bT (aj (wpAny_sequenceKey ⟨_,ha,rfl⟩ (by decide) ?_));refine aj (ji ⟨_,ha,rfl⟩ F.slot_list_setitem (gj F.slot_list_setitem ⟨_,ha,rfl⟩ F.entry_list_setitem ?_ (F.args_list_setitem_3 _ _ _)));exact bJ h (by rintro fin s' ⟨v,e,q⟩;exact⟨v,e,au q⟩) λU U z=>z
theorem Vl (S:SR Γ ρ H s)(y:W3 Γ ρ H s.heap i xs u)(hx:VR Γ ρ s.heap a x)(hk:small k=az)(e:setAt xs k a=aa r):jo Γ l lk A ρ s (put lk H i (.list r) ()) (xM u (.int k t) x) TT:= .put λvg Q E P=>by obtain⟨b,us,nn,hi,hr,ha,hs,hz⟩:=y;obtain⟨j,h1,h2,rfl⟩:=MF e;exact ar8 ha (aQ8 ha rfl (aB1 hk) (hs.size▸h1) (hs.size▸h2) ⟨_,rfl,ac8 S hi hr ha vg _ (by refine aD Array.toList_setIfInBounds ?_;exact gA.aJo hx j hs) (aD bx hz) s.toks λx S'=>P ρ _ () x S' trivial⟩)
theorem Vm {Q:PQ aB}(h:gD Γ.M A (.call f ⟨args, []⟩) (Ret Q E) s):aO Γ.M A (call f args) Q E s:=
 mR (Af h λr s' h=>by rcases r with e | (v | _ | _ | _)<;>first | exact h.elim | exact h)
theorem aL7 (Mo:R5 Γ)(hF:Il Γ n)(a:jW A l n)(S:SR Γ ρ H s)(K:I7 Γ l ρ s.heap)(y:ap0 Γ ρ H s.heap i c d u)(hg:Γ.G.bN c name=aa g)(hs:gA Γ ρ s.heap vs us)(hu:VR Γ ρ s.heap (.ref i) u):
  n8 Γ l lk ρ s (jd (p8 Γ.G n lk g (.ref i::vs) [] [] H) λU H=>ok () H) (λQ E=>aO Γ.M A (callSpecial? u name us) (λr s'=>∃v,r=aa v∧Q () s') E s) TT:=by
 have F:=hF l A lk g (.ref i::vs) [] [] H ρ s (u::us) [] a S K (Dc.mk u us hu hs) rfl;obtain⟨b,dx,es,n,hi,hr,ha,hd,pJ,uE,hc⟩:=y;exact Be (Mo.bN c _ g hg) λm1 m2 m3=>(F.Ml (λQ E w=>special_fn S.rJ (od:=aa (iU es n)) ⟨ha,rfl,rfl,hd⟩ m1 m2 (bJ (Vm w) (λv s' z=>⟨v,rfl,z⟩) λU U z=>z)) λv cM aZ aU w cU cg U=> .ok λQ E P=>P.ok cg trivial)
theorem keyed (I:ad8 Γ)(S:SR Γ ρ H s)(y:ap0 Γ ρ H s.heap i c d u){Q:PQ aB}(h:Q kv s):aO Γ.M A (sequenceKey u kv name) Q E s:=by obtain⟨b,dx,es,n,hi,hr,ha,hd,pJ,uE,hc⟩:=y;exact aj ((show InstAt s.heap b (instObj c dx) c (aa (iU es n)) from⟨ha,rfl,rfl,hd⟩).type.here (aj ((anyM_none S.rJ (I.plain c uE)).here (oh (bG rfl) (au h)))))
theorem aL8 (Mo:R5 Γ)(I:ad8 Γ)(hF:Il Γ n)(a:jW A l n)(S:SR Γ ρ H s)(K:I7 Γ l ρ s.heap){ov iv v:V}(ho:VR Γ ρ s.heap ov u)(hi:VR Γ ρ s.heap iv w)(hv:VR Γ ρ s.heap v x):jo Γ l lk A ρ s (LK Γ.G (u9 Γ.G n) lk ov iv v H) (xM u w x) TT:=by
 cases iv with
 | int k=>
  refine .opt λp e=> .fV λhk=> .opt λm hm=> ?_;obtain⟨t⟩:=hi;exact Vl S (ho.listAt S e) hv hk hm
 | str y=>
  refine .opt λp e=> .opt λf hf=> ?_;obtain rfl:=(am9 e).elim λU q=>q.1;have y':=ho.ug S e;exact n8.of (aL7 Mo hF a S K y' hf (.mk w _ hi (Dc.mk x [] hv rfl)) ho) λQ E z=>bT (aj (keyed I S y' (aj (bJ z (by rintro r s' ⟨v,e,z⟩;refine aD e ?_;exact au z) λU U z=>z))))
 | _=>exact .none
theorem gA.erase:∀{xs:List V}{us:List aB}(j:Nat),∀J:gA Γ ρ h xs us,gA Γ ρ h (xs.eraseIdx j) (us.eraseIdx j):=by
 intro l
 induction l with
 | nil=>exact λU x=>x.nil▸rfl
 | cons v l ih=>
  rintro _ j ⟨u',us,hv,hs⟩;cases j with
  | zero=>exact hs
  | succ j=>exact .mk _ _ hv (ih j hs)
set_option tactic.hygienic true in
theorem MJ {α:Type}(us:Array α)(j:Nat):(us.eraseIdxIfInBounds j).toList=us.toList.eraseIdx j:=by
 delta Array.eraseIdxIfInBounds
 split
 ·simp
 ·rename_i h
  rw[List.eraseIdx_of_length_le (by simpa using h)]
theorem Vn (S:SR Γ ρ H s){k:Int}(y:W3 Γ ρ H s.heap i xs u)(hk:0≤k∧k<xs.length):jo Γ l lk A ρ s (put lk H i (.list (xs.eraseIdx k.toNat)) ()) (delItem u (.int k t)) TT:= .put λvg Q E P=>by
 obtain⟨b,us,nn,hi,hr,ha,hs,hz⟩:=y;have hsi:kE k us.size=aa k.toNat:=by unfold kE;dsimp only;refine aD (bu (jx.mpr hk.1)) ?_;rw[bG];simp only[fO,decide_eq_true_eq,decide_eq_true_eq];exact hs.size▸hk
 exact PySem.P.delItem_list ha (by delta dZ;simp only[fO,decide_eq_true_eq,decide_eq_true_eq];exact⟨cV (by decide) hk.1,kI hk.2 (cV (du.mpr hz) (by decide))⟩) hsi
  (ac8 S hi hr ha vg (λxs=>xs.eraseIdxIfInBounds k.toNat) (by simp only[MJ];exact hs.erase _) (ak (DY ..) hz) s.toks λx S'=>P ρ _ () x S' trivial) (aD hs.size hz)
theorem Vo (Mo:R5 Γ)(I:ad8 Γ)(hF:Il Γ n)(a:jW A l n)(S:SR Γ ρ H s)(K:I7 Γ l ρ s.heap)(ho:VR Γ ρ s.heap ov u)(hi:VR Γ ρ s.heap iv w):jo Γ l lk A ρ s (afg Γ.G (u9 Γ.G n) lk ov iv H) (delItem u w) TT:=by
 cases iv with
 | int k=>
  refine .opt λp e=> .fV λhk=> ?_;obtain⟨t⟩:=hi;exact Vn S (ho.listAt S e) ⟨fH (d7 hk),fH (j9 hk)⟩
 | str y=>
  refine .opt λp e=> .opt λf hf=> ?_;obtain rfl:=(am9 e).elim λU q=>q.1;exact n8.of (aL7 Mo hF a S K (ho.ug S e) hf (.mk w _ hi rfl) ho) λQ E z=>(bT (aj (keyed I S (ho.ug S e) (aj (bJ z (by rintro r s' ⟨v,e,z⟩;refine aD e ?_;exact au z) λU U z=>z)))))
 | _=>exact .none
theorem gA.take:∀{xs:List V}{us:List aB}(j:Nat),∀J:gA Γ ρ h xs us,gA Γ ρ h (xs.take j) (us.take j)
 | _,_,0,_=>rfl
 | [],_,_+1,x=>by refine aD x.nil ?_;rfl
 | _::_,_,j+1,.mk _ _ hv hs=> .mk _ _ hv (gA.take j hs)
theorem gA.drop:∀{xs:List V}{us:List aB}(j:Nat),∀J:gA Γ ρ h xs us,gA Γ ρ h (xs.drop j) (us.drop j)
 | _,_,0,x=>x
 | [],_,_+1,x=>by refine aD x.nil ?_;rfl
 | _::_,_,j+1,.mk _ _ _ hs=>gA.drop j hs
theorem aB3 {us ns:Array aB}{lo hi:Option Int}(hv:gA Γ ρ h xs us.toList)(hn:gA Γ ρ h new ns.toList):
  gA Γ ρ h (SX xs new lo hi) (us.extract 0 (eE lo hi aC us.size).1.toNat++ns++us.extract (max (eE lo hi aC us.size).1 (eE lo hi aC us.size).2.1).toNat us.size).toList:=by
 simp only[hv.size,dH,dH,pX,pX,mD,mD,oM,ux];refine((hv.take _).append hn).append ?_;have:=(hv.drop (max (eE lo hi aC xs.length).1 (eE lo hi aC xs.length).2.1).toNat).take (xs.length-(max (eE lo hi aC xs.length).1 (eE lo hi aC xs.length).2.1).toNat);rwa [uc (by simp)]at this
theorem aB4 (xs new:List V)(lo hi:Option Int):(SX xs new lo hi).length≤xs.length+new.length:=aD aA (aD aA (aD iC (aD tB (aL4 (aL5 _ _)))))
theorem aS6 (K:M6 Γ)(S:SR Γ ρ H s)(ho:VR Γ ρ s.heap o u)(ha:VR Γ ρ s.heap a va)(hb:VR Γ ρ s.heap b vb)(hw:VR Γ ρ s.heap c w)(hs:s.heap.IsSliceOf sl va vb .none):jo Γ l lk A ρ s (am6 lk H o a b c) (xM u (.ref sl) w) TT:=by
 refine .opt λp e=> .opt λlo e1=> .opt λhi e2=> .opt λj e3=> .opt λob hj=> ?_;obtain rfl:=al4 e3;obtain⟨bn,ns,n2,_,_,han,xm,_⟩:=hw.listAt S e;have h1:=(ha.part e1).is;have h2:=(hb.part e2).is;cases ob with
 | list xs=>
  refine .fV λhr=> .put λvg Q E P=> ?_;obtain⟨b',us,nn,hi,hr',hA,je,hz⟩:=VR.list ho S hj;exact ar8 hA (ay3 hA rfl hs h1 h2 han rfl rfl (by refine aD je.size (aD xm.size ?_);exact I2 hr) ⟨_,rfl,ac8 S hi hr' hA vg _ (aB3 je xm) (ak (aB4 _ _ _ _) (I2 hr)) s.toks λx S'=>P ρ _ () x S' trivial⟩)
 | acc c d xs=>
  refine .fV λhr=> .put λvg Q E P=> ?_;obtain⟨b',dx,es,nn,us,kk,hi,hr',hA,hd,pJ,je,hz,rfl,uE⟩:=VR.acc ho S hj;exact aQ4 K S.rJ ⟨_,hA,rfl⟩ (ay3 hA rfl hs h1 h2 han rfl rfl (by refine aD je.size (aD xm.size ?_);exact I2 hr) ⟨_,rfl,ap2 S hi hr' hA hd pJ uE vg _ (aB3 je xm) (ak (aB4 _ _ _ _) (I2 hr)) s.toks λx S'=>P ρ _ () x S' trivial⟩)
 | _=>exact .none
end
end
section
section
variable {Γ:Cx}{n m:Nat}{k:Kd}
set_option backward.match.sparseCases true in
theorem aS7 (o i:aF)(p:qg)(env:fu)(u:aB):vB (.Subscript o i p) env u=(do
  let ov←pU [u] (eval o env)
  let iv←pU [u,ov] (eval i env)
  mj p
  pU [u,ov,iv] (xM ov iv u)
  release (match i with | .Slice _ _ aC _=> [iv,u,ov] | _=> [u,ov,iv]) []):=rfl
theorem aL9
  (h:aO M A (eval o env) (λov aU=>aO M A (eval i env) (λiv bO=>aO M A (xM ov iv u) Q E bO) E aU) E s):aO M A (vB (.Subscript o i p) env u) Q E s:=by
 rw[aS7];exact aj (bT (bJ h (λov aU h=>aj (bT (bJ h (λiv bO h=>aj (dR (aj (bT (bJ h (λU U z=>Rb z) λU U z=>z))))) λU U z=>z))) λU U z=>z))
theorem Vp (Mo:R5 Γ)(I:ad8 Γ)(hF:Il Γ n)(ho:v4 Γ n k o mo)(hi:v4 Γ n k i mi):Di Γ (n+1) k (.Subscript o i p) (.sub mo mi):=λenv l A lk v σ ρ s u O a S F hv=>
 .lift ((ho env l A (σ.fm lk) σ.hp ρ s O a.pred S F).iZ (λQ E w=>aL9 w) λov cM aZ aU ahg cU cg qU=>
  (hi env l A (σ.fm lk) cM aZ aU O a.pred cg (F.ext cU)).iZ (λQ E w=>w) λiv ou dI bO vR dB fJ oG=>aL8 Mo I hF a.pred fJ ((F.ext cU).ext dB).uU (qU.ext dB) oG ((hv.ext cU).ext dB)) F
theorem Vq (K:M6 Γ)(ih:O8 Γ n m k){sa sb:Option aF}(ho:v4 Γ n k o mo):Di Γ (n+1) k (.Subscript o (.Slice sa sb aC sp) p) (.vM mo (Fp (cE m k) sa) (Fp (cE m k) sb) mc):=λenv l A lk v σ ρ s u O a S F hv=>
 .lift ((ho env l A (σ.fm lk) σ.hp ρ s O a.pred S F).iZ (λQ E w=>aL9 w) λov cM aZ aU ahg cU cg qU=>
  (UJ ih sa env l A (σ.fm lk) cM aZ aU O a.pred cg (F.ext cU)).iZ (λQ E w=>wpAny_Slice w) λva ou dI bO vR dB fJ oG=>
   (UJ ih sb env l A (σ.fm lk) ou dI bO O a.pred fJ ((F.ext cU).ext dB)).iZ (λQ E w=>bJ w (λU U z=>au z) λU U z=>z) λvb Bm qy jX Uv oW rK yI=>
    have kp:=K7 jX.heap {cls:= .type "slice",data:= .fields #[vR,Uv,.none]};have rM:=Ext.keeps kp
    λq H' e Q E P=>aS6 K (rK.keeps kp) ((qU.ext (dB.trans oW)).ext rM) ((oG.ext oW).ext rM) (yI.ext rM) ((hv.ext (cU.trans (dB.trans oW))).ext rM) (zF _ _ _ _) q H' e Q E (P.ext rM)) F
theorem Fx (h:(R4 t).isNone=az)(rest:List aF)(env:fu):sS (t::rest) env=(aG,vB t env)::sS rest env:=by
 cases t with
 | Starred a p=>exact rU h
 | _=>rfl
abbrev MK (Γ:Cx)(n j:Nat)(r:aF->j6)(k:Kd):Prop:=∀t,Di Γ n k t (cT r k j t)
section
variable {env:fu}{l:List fu}{A:bQ}{lk:List Nat}{j:Nat}{r:aF->j6}
theorem Vr (env:fu):∀{ts:List aF},∀J:(ts.all λt=>(R4 t).isNone)=az,(sS ts env).findIdx? (·.1)=aC∧(sS ts env).length=ts.length:=by
 intro zz
 induction zz with
 | nil=>
  intro _;exact⟨rfl,rfl⟩
 | cons t ts ih=>
  intro h;rw[Fx (d7 h)];exact⟨by rw[wC];simp [(ih (j9 h)).1],congrArg tH (ih (j9 h)).2⟩
theorem Vs (ih:MK Γ n j r k)(O:v9 Γ k env)(a:jW A l n):∀{ts:List aF}{vs:List V}{us:List aB}{σ:St}{ρ:eO}{s:aV},∀J:(ts.all λt=>(R4 t).isNone)=az,∀J:SR Γ ρ σ.hp s,∀J:FR Γ l ρ s.heap env σ.loc σ.cR,∀J:gA Γ ρ s.heap vs us,I3 Γ k l env lk ρ s (avc (K5 Γ.G n lk) (ts.map (cT r k j)) vs σ) (λQ E=>aO Γ.M A (Rg ((sS ts env).map (·.2)) us) Q E s) TT:=by
 intro l
 induction l with
 | nil=>
  intro vs us σ ρ s _ S F hv;cases vs with
  | nil=>
   obtain rfl:=hv.nil;exact .ok λQ E P=>au (P.done S F trivial)
  | cons v vs=>exact .none
 | cons t ts ihs=>
  intro vs us σ ρ s h S F hv;cases vs with
  | nil=>exact .none
  | cons v vs=>
   obtain⟨u,us,hu,hs⟩:=hv;rw[Fx (d7 h)];exact(ih t env l A lk v _ _ _ u O a S F hu).Ml (λQ E w=>(aj (bT w):aO _ _ (do pU us (vB t env u);Rg ((sS ts env).map (·.2)) us) Q E _)) λU gW aZ aU U cU cg pK U=>ihs (j9 h) cg pK (hs.ext cU)
theorem Vt (ih:MK Γ n j r k)(h:(ts.all λt=>(R4 t).isNone)=az):Di Γ (n+1) k (.Tuple ts i p) (.tup (ts.map (cT r k j))):=λenv l A lk v σ ρ s u O a S F hv=> .opt λvs e=> .fV λhl=>by
 obtain⟨i1,i2⟩:=Vr env h;obtain⟨t,us,nn,ht,je⟩:=hv.uf e;have hl:ts.length=vs.length:=by have:=fH hl;rwa [aJ]at this
 intro q jY ev Q E P;refine wpAny_assign_Tuple a.hand ⟨_,ht,rfl,nn,rfl⟩ (i2.trans (hl.trans je.size.symm)) i1 λh' he=> ?_;have x:Ext Γ (m7 l) (Wr Γ lk ρ) ρ s ρ {s with heap:=h'}:=Ext.keeps (λb o e=>he b o (dh (cA e)) e);exact Vs ih O a.pred h (S.keeps (λb o e=>he b o (dh (cA e)) e)) (F.ext x) (je.ext x) q jY ev Q E (P.ext x.toS)
end
theorem Vu (K:M6 Γ)(C:Fv Γ)(Mo:R5 Γ)(I:ad8 Γ)(hF:Il Γ n)(ih:O8 Γ n m k)(it:MK Γ n j (cE m k) k):MK Γ (n+1) (j+1) (cE m k) k:=λt=>by
 cases t with
 | Name x p=>
  show Di Γ (n+1) k (.Name x p) (gm _ (mb (k x) _));cases hx:decide (x≠("__class__":aM)) with
  | false=>exact ac4
  | true=>
   cases hk:k x with
   | none=>exact ac4
   | some d=>
    cases d with
    | «local»=>exact Vi hk
    | cell=>exact Vj hk (fH hx)
    | _=>exact ac4
 | Attribute o x p=>exact Mz C (ih o)
 | Tuple ts i p=>
  show Di Γ (n+1) k (.Tuple ts i p) (gm (ts.all λt=>(R4 t).isNone) (.tup (ts.map (cT (cE m k) k j))));cases h:(ts.all λt=>(R4 t).isNone) with
  | false=>exact ac4
  | true=>exact Vt it h
 | Subscript o i p=>
  cases i with
  | Slice sa sb sc sp=>
   cases sc with
   | none=>exact Vq K ih (ih o)
   | some e=>exact ac4
  | _=>exact Vp Mo I hF (ih o) (ih _)
 | _=>exact ac4
section
variable {env:fu}{l:List fu}{A:bQ}{lk:List Nat}
theorem ak0 {st:pM}:T6 Γ n k st .bad:=by
 cases n with
 | zero=>exact λU U U U U U U U U U U U=> .none
 | succ n=>exact λU U U U U U U U U U U U=> .none
theorem Y5 {α:Type}{st:pM}{o:Option α}{f:α->n6}(h:∀a,∀J:o=aa a,T6 Γ n k st (f a)):T6 Γ n k st (sb o f):=by
 cases o with
 | none=>exact ak0
 | some a=>exact h a rfl
theorem Y6 {st:pM}(h:∀J:b=az,T6 Γ n k st ms):T6 Γ n k st (gs b ms):=by
 cases b with
 | true=>exact h rfl
 | false=>exact ak0
theorem ak1 (ih:yK Γ n)(O:v9 Γ k env)(W:Own k env l)(a:jW A l n):∀(sts:List pM){σ:St}{ρ:eO}{s:aV},∀J:SR Γ ρ σ.hp s,∀J:FR Γ l ρ s.heap env σ.loc σ.cR,I3 Γ k l env lk ρ s (G5 (iY Γ.G n lk) (sts.map (cS m k)) σ) (λQ E=>aO Γ.M A (execs sts env) Q E s) (Ar Γ):=by
 intro zz
 induction zz with
 | nil=>
  intro _ _ _ S F;exact .ok λQ E P=>rC (P.done S F rfl)
 | cons st sts ihr=>
  intro _ _ _ S F;exact(ih m k st env l A lk _ _ _ O W a S F).Ml (λQ E w=>uM w) λfl gW aZ aU u x cg pK r=>by
   cases fl with
   | next=>obtain rfl:u= .next:=r;exact ihr cg pK
   | brk=>obtain rfl:u= .brk:=r;exact .ok λQ E P=>P.done cg pK rfl
   | cont=>obtain rfl:u= .cont:=r;exact .ok λQ E P=>P.done cg pK rfl
   | ret v=>obtain⟨w,hv⟩:=r;exact .ok λQ E P=>P.done cg pK ⟨w,hv⟩
end
theorem MN:T6 Γ (n+1) k (.Pass p) .pass:=λenv l A lk σ ρ s O W a S F=> .ok λQ E P=>aj (dR (au (P.done S F rfl)))
theorem Vv:T6 Γ (n+1) k (.Break p) .brk:=λenv l A lk σ ρ s O W a S F=> .ok λQ E P=>aj (dR (au (P.done S F rfl)))
theorem MP:T6 Γ (n+1) k (.Continue p) .cont:=λenv l A lk σ ρ s O W a S F=> .ok λQ E P=>aj (dR (au (P.done S F rfl)))
theorem MT (he:v4 Γ n k e me)(hs:∀env,su e aC p.line env=pure aG):T6 Γ (n+1) k (.Expr e p) (.expr me):=λenv l A lk σ ρ s O W a S F=>
 (he env l A (σ.fm lk) σ.hp ρ s O a.pred S F).stmt F (λQ E w=>wpAny_Expr_any w (by simp [aom,O.kind]) (hs env)) λv cM aZ aU u cU cg hv=> .ok λQ E P=>P.done cg (F.ext cU) rfl
theorem Vw (ih:O8 Γ n m k):T6 Γ (n+1) k (.Return o p) (.ret (Fp (cE m k) o)):=λenv l A lk σ ρ s O W a S F=>by
 cases o with
 | some e=>exact(ih e env l A (σ.fm lk) σ.hp ρ s O a.pred S F).stmt F (λQ E w=>Ag w) λv cM aZ aU u cU cg hv=> .ok λQ E P=>P.done cg (F.ext cU) (ahe.mk u hv)
 | none=>
  cases n with
  | zero=>exact .none
  | succ n=>exact .ok λQ E P=>wpAny_Return_none (P.done S F (ahe.mk .none rfl))
theorem Vx {mt:j6}(ht:W6 Γ n k t mt)(ih:yK Γ n):T6 Γ (n+1) k (.If t b o p) (.ite mt (b.map (cS m k)) (o.map (cS m k))):=λenv l A lk σ ρ s O W a S F=>
 (ht env l A (σ.fm lk) σ.hp ρ s O a.pred S F).stmt F (λQ E w=>wpAny_If w) λv cM aZ aU u cU cg hv=>by
  obtain rfl:u=v:=hv;cases u with
  | true=>exact ak1 ih O W a.pred b cg (F.ext cU)
  | false=>exact ak1 ih O W a.pred o cg (F.ext cU)
end
end
section
variable {Γ:Cx}{n m:Nat}{k:Kd}
theorem an0 (hf:e.frame=aa L):m7 (e::r)=L::m7 r:=cP hf
theorem I7.aJp {base h jj:bL}(kp:∀b o,∀J:jj.get? b=aa o,h.get? b=aa o):∀{l:List fu},∀J:I7 Γ l ρ jj,∀J:(∀L∈m7 l,base.get? L=aC),h.FunFrames base l:=by
 intro zz
 induction zz with
 | nil=>
  intro _ _;exact trivial
 | cons e r ih=>
  intro K hb;obtain⟨L,o,es,n,hk,hf,ho,hd,_⟩:=K e (.head _);replace hb:=(an0 hf)▸hb;exact⟨hk,⟨L,o,hf,hb L (.head _),kp _ _ ho,λvs q=>nomatch hd.symm.trans q⟩,ih (λe' he'=>K e' (.tail _ he')) λL' hL=>hb L' (.tail _ hL)⟩
structure xn (FS:List aW)(h h':bL):Prop where
 keep:∀b o,∀J:h.get? b=aa o,∀J:b∉FS,h'.get? b=aa o
 fs:∀b o,∀J:h.get? b=aa o,∀J:b∈FS,∃sl,h'.get? b=aa {o with slots:=sl}
theorem xn.refl (FS:List aW)(h:bL):xn FS h h:=⟨λU U e U=>e,λU o e U=>⟨o.slots,e⟩⟩
theorem xn.trans (x:xn FS h jj)(y:xn FS jj ni):xn FS h ni:=
 ⟨λb o e n=>y.keep b o (x.keep b o e n) n,λb o e n=>(x.fs b o e n).elim λU e1=>(y.fs b _ e1 n).elim λsl' e2=>⟨sl',e2⟩⟩
theorem xn.sH (x:xn FS h h')(b:aW)(o:oH)(e:h.get? b=aa o):Df h' b o:=by
 by_cases q:b∈FS
 ·exact(x.fs b o e q).elim λsl e'=>⟨_,e',rfl⟩
 ·exact⟨o,x.keep b o e q,rfl⟩
theorem xn.live (x:xn FS h h'):O7 h h':=λb o e=>(x.sH b o e).casesOn λo' e' U=>⟨o',e'⟩
theorem xn.of_keeps (kp:∀b o,∀J:h.get? b=aa o,h'.get? b=aa o):xn FS h h':=⟨λb o e U=>kp b o e,λb o e U=>⟨o.slots,kp b o e⟩⟩
theorem Q7 (e:(fK h X).get? b=aa o):b∉X:=λhb=>iu ((pY X hb).symm.trans e)
theorem Fz (T:aW):(adl T !=tK)=az:=rfl
section
variable {M:yw}{A:bQ}{E:PQ aB}{s':aV}{h:bL}{l outer:List fu}{env:fu}{c:String}{mm:aM}{a L:aW}{X:List aW}{ρ:eO}{Q:PQ Unit}
theorem ae0 (K:I7 Γ l ρ h)(hb:b∈m7 l):∃o es n,h.get? b=aa o∧o.data= .dict es n∧b∉ρ.flatten∧b∉Γ.tabs∧Γ.g0.get? b=aC:=by refine lO (ru.mp hb) λe he hfe=> ?_;obtain⟨L',o,es,n,_,hf,ho,hd,h1,h2,h3⟩:=K e he;obtain rfl:=aq (hf.symm.trans hfe);exact⟨o,es,n,ho,hd,h1,h2,h3⟩
theorem aG7 (fr:A.frames=aa (env::outer))(hf:env.frame=aa L)(K:I7 Γ (env::outer) ρ (fK s'.heap X))(lv:O7 h (fK s'.heap X))
  (hX:∀b∈X,h.get? b=aC) (aX:a∈X) (ha:aU.heap.get? a=aa o) (oc:o.cls= .type c) (cc:c="ValueError" ∨c="TypeError") (od:o.data= .fields vs) (h1:1<vs.size) (h0:vs[0]?=aa (.ref t)) (tX:t∉X) (tf:t∉m7 (env::outer))
  (ht:s'.heap.get? t=aa {cls:= .type "tuple",data:= .seq #[.str mm tk] n}) (k1:∀b,∀J:b∉X,aU.heap.get? b=s'.heap.get? b)
  (hQ:∀pL T,∀J:Z1 h (env::outer) c mm a (T::X) pL (aa (jD L)),∀J:xn (m7 (env::outer)) (fK s'.heap X) (fK pL (T::X)),Q () {aU with heap:=pL}):
  aO M A (do let a'←frameOf env;let pl←entryPlaceOf L aFf;let b←EntryCells.newEntry hd a' .none (jD L) .none pl;setField (.ref a) 1 b) Q E aU:=by
 have awz:∀b o,∀J:(fK s'.heap X).get? b=aa o,aU.heap.get? b=aa o:=λb o e=>(k1 b (Q7 e)).trans (iV _ e);refine wpAny_entryW fr (K.aJp awz λL' hL=>(λb hb=>pY _ (cX.mpr hb)) L' (.inl hL)) hf ha (λb o e=>iV _ e) ((λb hb=>pY _ (cX.mpr hb)) a (.inr aX)) od h1 h0 λpL hN=> ?_;refine qm λY Z=> ?_;obtain⟨N1,N2,⟨oe,ws,T,oT,ts,he,⟨hec,he0⟩,hed,hT1,hTb,hTa,hT,Vy,hT3⟩,N4⟩:=hN;refine Z ?_;have axa:∀b o,∀J:(fK s'.heap X).get? b=aa o,∀J:b∉m7 (env::outer),(fK aU.heap (m7 (env::outer)++X)).get? b=aa o:=λb o e nf=>jM _ (awz b o e) λq=>(cX.mp q).elim nf (Q7 e);have a7y:∀b o,∀J:(fK s'.heap X).get? b=aa o,b≠T:=λb o e q=>iu (hTb.symm.trans (axa T o (q▸e) (λq=>(N2.mem q).elim (by rintro _ ⟨o',uh,Dg⟩;exact Dg _ (aq (hT.symm.trans uh)▸Vy)))));have out:∀b o,∀J:(fK s'.heap X).get? b=aa o,b∉T::X:=λb o e q=>(aY.mp q).elim (a7y b o e) (Q7 e);refine hQ pL T (.mk oe ws t tk n (λb hb=> ?_) (.tail _ aX) ⟨he,hec.trans oc,hed,cc,he0,N1 t _ (axa t _ (jM X ht tX) tf)⟩ (out t _ (jM X ht tX)) tf (.mk T oT ts hT1 (.head _) hTa hT Vy hT3)) ⟨λb o' e nf=>jM _ (N1 b o' (axa b o' e nf)) (out b o' e),λb o' e hb=> ?_⟩
 ·rcases aY.mp hb with rfl | hb
  ·cases q:h.get? b with
   | none=>rfl
   | some o2=>exact(lv b o2 q).elim λo3 e3=>absurd rfl (a7y b o3 e3)
  ·exact hX b hb
 ·obtain⟨o2,es,ep,uh,Dg,_⟩:=ae0 K hb
  obtain rfl:=aq (e.symm.trans uh);exact(N4 b o' (awz b o' e) λvs q=>nomatch Dg.symm.trans q).elim λsl hs=>⟨sl,jM _ hs (out b o' e)⟩
def aqj (L:aW)(x:Option aB):Prop:=x=aC∨x=aa .none∨x=aa (jD L)
theorem ay8 (fr:A.frames=aa (env::outer))(hf:env.frame=aa L)(K:I7 Γ (env::outer) ρ (fK s'.heap X))(lv:O7 h (fK s'.heap X))(f:Z1 h (env::outer) c mm a X s'.heap x)(hx:aqj L x)
  (hQ:∀pL X',∀J:Z1 h (env::outer) c mm a X' pL (aa (jD L)),∀J:xn (m7 (env::outer)) (fK s'.heap X) (fK pL X'),Q () {s' with heap:=pL}):aO M A (noteFrame (.ref a) env) Q E s':=by
 have f':=f;obtain⟨o,vs,t,tk,n,hX,aX,⟨ha,oc,od,cc,h0,ht⟩,tX,tf,w⟩:=f;delta noteFrame;refine aD hf ?_;rcases hx with rfl | rfl | rfl
 ·have w':=w
  exact aj (cZ ha od w' (aD (bu (by decide)) (aG7 fr hf K lv hX aX ha oc cc od (lE.mp w').1 h0 tX tf ht (λU U=>rfl) λpL T=>hQ pL _)))
 ·obtain⟨T,oT,ts,h1,TX,Ta,hT,Vy,h3⟩:=w
  refine aj (cZ ha od h1 ?_);rw[bG (Fz T)];refine aj (cZ hT Vy h3 ?_);refine aD (bu (by simp [jD])) ?_;refine aj (pZ hT Vy (lE.mp h3).1 ?_);have other:∀b,∀J:b≠T,(s'.heap.update T (Obj.mapFields (·.setIfInBounds 3 tK))).get? b=s'.heap.get? b:=λb hb=>jh _ _ (Ne.symm hb);exact aG7 fr hf K lv hX aX ((other a (Ne.symm Ta)).trans ha) oc cc od (lE.mp h1).1 h0 tX tf ht (λb hb=>other b λq=>hb (q▸TX)) λpL T=>hQ pL _
 ·obtain⟨T,oT,ts,h1,TX,Ta,hT,Vy,h3⟩:=w
  refine aj (cZ ha od h1 ?_);rw[bG (Fz T)];exact aj (cZ hT Vy h3 (aD (bG (by simp)) (au (hQ _ X f' (.refl _ _)))))
theorem au9 (f:Z1 h l c mm a X s'.heap (aa fl))
  (hQ:∀pL,∀J:Z1 h l c mm a X pL (aa (to.elim .none λf=>jD f)),∀J:(∀b o,∀J:(fK s'.heap X).get? b=aa o,(fK pL X).get? b=aa o),Q () {s' with heap:=pL}):aO M A (setFlight (.ref a) to) Q E s':=by
 obtain⟨o,vs,t,tk,n,hX,aX,⟨ha,oc,od,cc,h0,ht⟩,tX,tf,w⟩:=f;obtain⟨T,oT,ts,h1,TX,Ta,hT,Vy,h3⟩:=w;have other:∀b,∀J:b≠T,(s'.heap.update T (Obj.mapFields (·.setIfInBounds 3 (to.elim tK λf=>jD f)))).get? b=s'.heap.get? b:=λb hb=>jh _ _ (Ne.symm hb);have wJ:=(lE.mp h3).1;refine aj (cZ ha od h1 ?_);refine oh (bG (Fz T)) ?_;exact pZ hT Vy wJ (hQ _ (.mk o vs t tk n hX aX ⟨(other a (Ne.symm Ta)).trans ha,oc,od,cc,h0,(other t λq=>tX (q▸TX)).trans ht⟩ tX tf (.mk T _ _ h1 TX Ta
  (iz _ hT (uN (kJ Vy _))) (kJ Vy _) (by simp [wJ]))) λb o e=>jM X ((other b λq=>Q7 e (q▸TX)).trans (iV _ e)) (Q7 e))
theorem FJ (hf:env.frame=aa L)(hx:HY (env::outer) x):aqj L x:=hx.imp id λq=>q.imp id λ⟨env',r,L',e1,e2,q⟩=>by obtain⟨rfl,rfl⟩:=bI e1;obtain rfl:=aq (hf.symm.trans e2);exact q
theorem Z1.left (hf:env.frame=aa L)(f:Z1 h (env::outer) c mm a X pL x):Z1 h outer c mm a X pL x:=f.casesOn λo vs t tk n r1 r2 r3 r4 r5 r6=> .mk o vs t tk n r1 r2 r3 r4 (λq=>r5 (an0 hf▸ .tail _ q)) r6
theorem aG8 (fr:A.frames=aa (env::outer))(hf:env.frame=aa L)(K:I7 Γ (env::outer) ρ (fK s'.heap X))(lv:O7 h (fK s'.heap X))(f:Fly h (env::outer) c mm X s'.heap e)
  (hQ:∀pL X',∀J:Fly h outer c mm X' pL e,∀J:xn (m7 (env::outer)) (fK s'.heap X) (fK pL X'),Q () {s' with heap:=pL}):aO M A (leaving env e) Q E s':=by
 obtain⟨a,x,f,hx⟩:=f;exact aj (ay8 fr hf K lv f (FJ hf hx) λpL X' f' st=>au9 f' λh3 f3 k3=>hQ h3 X' (.mk a _ (f3.left hf) (.inr (.inl rfl))) (st.trans (.of_keeps k3)))
theorem Vz (fr:A.frames=aa (env::outer))(hf:env.frame=aa L)(K:I7 Γ (env::outer) ρ (fK s'.heap X))(lv:O7 h (fK s'.heap X))(f:Fly h (env::outer) c mm X s'.heap e)
  (hQ:∀pL X',∀J:Fly h (env::outer) c mm X' pL e,∀J:xn (m7 (env::outer)) (fK s'.heap X) (fK pL X'),R e {s' with heap:=pL}):notedBy M A env (cameBackBy M A env R) e s':=by
 obtain⟨a,x,f,hx⟩:=f;refine ay8 fr hf K lv f (FJ hf hx) λpL X' f' st=> ?_;have f'':=f';obtain⟨o,vs,t,tk,n,_,_,⟨r3,_,r6,_,_,_⟩,_,_,w⟩:=f';obtain⟨T,oT,ts,h1,_,_,_,_,_⟩:=w;exact aj (cZ r3 r6 h1 (aD (bu (by simp)) (aD hf (au9 f'' λh3 f3 k3=>hQ h3 X' (.mk a _ f3 (.inr (.inr ⟨env,outer,L,rfl,hf,rfl⟩))) (st.trans (.of_keeps k3))))))
end
section
variable {ρ:eO}{H:Hp}{s aU:aV}{l:List fu}{W:aW->Prop}{env:fu}{loc cR:j8}
theorem xn.vH (st:xn (m7 l) h jj)(K:I7 Γ l ρ h)(b:aW)(o:oH)(e:h.get? b=aa o)(nm:¬K3 o):jj.get? b=aa o:=by
 by_cases q:b∈m7 l
 ·obtain⟨o',es,ep,uh,hd,_⟩:=ae0 K q
  obtain rfl:=aq (e.symm.trans uh);exact absurd (.inr (.inr (.inr (.inr (.inr (.inr (.inl ⟨es,ep,hd⟩))))))) nm
 ·exact st.keep b o e q
theorem xn.ext (st:xn (m7 l) s.heap aU.heap)(K:I7 Γ l ρ s.heap)(ho:aU.os=s.os:=by rfl)(hd:aU.drawn=s.drawn:=by rfl):Ext Γ (m7 l) W ρ s ρ aU:=
 ⟨.refl _ _,⟨st.vH K,λb o e U f=>st.keep b o e f,λb o e U f=>st.fs b o e f⟩,st.live,ho,hd⟩
theorem xn.sr (st:xn (m7 l) s.heap aU.heap)(K:I7 Γ l ρ s.heap)(S:SR Γ ρ H s)(hg:aU.gens=s.gens:=by rfl):SR Γ ρ H aU:=⟨S.len,S.nodup,λi o e=>(S.objs i o e).imp λr q=>⟨q.1,q.2.mono (H9.refl ρ s.heap) (st.vH K) λb hb o' e'=>st.keep b o' e' λz=>(ae0 K z).elim (by rintro _ ⟨_,_,_,_,h1,_⟩;exact h1 (cG.mpr ⟨r,aR q.1,hb⟩))⟩,λb o e=>st.keep b o (S.base b o e) λz=>(ae0 K z).elim (by rintro _ ⟨_,_,_,_,_,_,h3⟩;exact(iu (h3.symm.trans e))),S.apart,S.lR,hg▸S.gens,S.Mm (λb o hb e=>st.keep b o e λz=>(ae0 K z).elim (by rintro _ ⟨_,_,_,_,_,h2,_⟩;exact h2 hb)) (st.vH K)⟩
theorem FR.stp (F:FR Γ l ρ h env loc cR)(st:xn (m7 l) h h'):FR Γ l ρ h' env loc cR:=
 F.sH (λL o h1 U e=>⟨st.sH L o e,h1⟩) λv u x=>x.mono (H9.refl ρ h) (st.vH F.uU)
theorem Nb {cls:String}{lk:List Nat}(hc:cls="ValueError" ∨cls="TypeError"){mm:aM}{tk:Tok}{α β:Type}{R:eO->bL->α->β->Prop}{Q:PQ β}{E:PQ aB}{e:aW}{h':bL}(S:SR Γ ρ H s)(K:I7 Γ l ρ s.heap)
  (P:N6 Γ l lk ρ s (.exc cls mm) H R Q E) (hm:Heap.MadeExc s.heap h' e cls [.str mm tk]):E (.ref e) {s with heap:=h'}:=by
 refine Rt hm.there λt he ht0 ht=> ?_;have kp:∀b o,∀J:s.heap.get? b=aa o,(fK h' [e]).get? b=aa o:=λb o q=>jM [e] (hm.keeps b o q) λz=>by rw[aP]at z;subst z;replace q:=hm.new▸q;exact iu q
 exact P ρ {s with heap:=h'} (.ref e) [e] (Ext.keeps kp) (S.keeps kp) (.mk e aC
  (.mk _ _ t tk 0 (λb hb=>aP.mp hb▸hm.new) (.head _) ⟨he,rfl,rfl,hc,rfl,ht⟩ (λz=>(λz=>by rw[z,he]at ht;cases ht) (aP.mp z)) (λz=>(ae0 K z).elim (by rintro _ ⟨_,_,ho,_⟩;exact iu (ht0.symm.trans ho))) rfl) (.inl rfl))
theorem J1.back {A:bQ}{lk:List Nat}{α β:Type}{q:Res α}{jY:St}{R:eO->bL->α->β->Prop}{Q:PQ β}{E:PQ aB}
  (W:Own k env l) (a:jW A l n) (P:J1 Γ k l env lk ρ s q jY R Q E):J1 Γ k l env lk ρ s q jY R Q (notedBy Γ.M A env (cameBackBy Γ.M A env E)):=by
 cases q with
 | ok v=>exact P
 | exc c m=>
  intro fj s' e X x S F f;obtain⟨r,rfl⟩:=W.head;exact Vz a.frames W.frame F.uU x.live f λpL X' f' st=>(P fj {s' with heap:=pL} e X' (x.trans' (st.ext (W:=λU=>False) F.uU) λb q=>q.elim) (st.sr F.uU S) (F.stp st) f')
end
end
section
variable {Γ:Cx}{n m:Nat}{k:Kd}
section
variable {l:List fu}{lk:List Nat}{A:bQ}{ρ:eO}{H:Hp}{s:aV}{u v:aB}{a b:V}
theorem Im (S:SR Γ ρ H s)(hx:VR Γ ρ s.heap a u)(hy:VR Γ ρ s.heap b v):jo Γ l lk A ρ s (Td H o a b) (inplaceOp o u v) (v5 Γ):=by
 cases o with
 | Add=>
  cases a with
  | int x=>
   refine .opt λy e=> ?_;obtain⟨t⟩:=(show Mf x u from hx);obtain⟨t'⟩:=hy.intOf e;exact af8 S λQ E h=>auh (h _ _)
  | str x=>
   refine .opt λy e=> ?_;obtain⟨t⟩:=(show Mg x u from hx);obtain⟨t'⟩:=hy.strOf e;exact aE0 (λhz Q E h=>iadd_str (λt' tk=>h t' tk) (by rw[aM.oV]at hz;exact hz)) S
  | _=>exact .none
 | _=>exact .none
theorem Nf (S:SR Γ ρ H s)(ho:VR Γ ρ s.heap a u)(hi:VR Γ ρ s.heap b v):n8 Γ l lk ρ s (opt (HF H a b) λw=>ok w H) (λQ E=>aO Γ.M A (En u v) Q E s) (v5 Γ):= .opt λw e=> .ok λQ E P=>by refine g8 e λp e1 e=> ?_;refine g8 e λk e2 e=> ?_;refine I5 e λhk e=> ?_;obtain⟨t⟩:=hi.intOf e2;obtain⟨a',us,nn,_,_,ha,hs,_⟩:=ho.listAt S e1;exact ay0 ha hk (aB0 hs e) λy hy=>P.ok S hy
end
theorem Ng (hx:k x=aa .cell)(hxc:x≠("__class__":aM))(he:v4 Γ n k e me):T6 Γ (n+1) k (.AugAssign (.Name x np) o e p) (.Lr x o me):=λenv l A lk σ ρ s O W a S F=> .opt λold hold=>by
 obtain⟨c,u,hc,hu,hr⟩:=F.cells x old hold;exact((he env l A (σ.fm lk) σ.hp ρ s O a.pred S F).iZ (λQ E w=>w) λv cM aZ aU w cU cg hv=>Im cg (hr.ext cU) hv:n8 Γ l lk ρ s _ _ (v5 Γ)).Av F
  (λQ E w=>wpAny_AugAssign_Name (aud O.kind (O.Ub x hx).1 hc hu w)) λw cM aZ aU y cU cg hw=> .ok λQ E P=>Vh (σ:={σ with hp:=cM}) O hx hxc cg (F.ext cU) hw λs' dB fJ yL=>P aZ s' aeu dB fJ yL rfl
theorem ahk {α:Type}{o:Option V}{f:V->Hp->Out α}(H:Hp):jd (opt o λw=>ok w H) f=opt o λw=>f w H:=by cases o<;>rfl
theorem aE3 (h:jz i=aC)(ov iv new:aB):augStore i ov iv new=(do pU [new,ov,iv] (xM ov iv new);release [new,ov,iv] [];pure .next):=by
 cases i with
 | Slice a b c p=>exact Sw h
 | _=>rfl
theorem Nh (Mo:R5 Γ)(I:ad8 Γ)(hF:Il Γ n)(ho:v4 Γ n k o mo)(hi:v4 Γ n k i mi)(he:v4 Γ n k e me)(hc:jz i=aC):T6 Γ (n+1) k (.AugAssign (.Subscript o i sp) op e p) (.Bf mo mi op me):=λenv l A lk σ ρ s O W a S F=>
 n8.Av ((ho env l A (σ.fm lk) σ.hp ρ s O a.pred S F).iZ (λQ E w=>w) λov cM aZ aU ahg cU cg qU=>
  (hi env l A (σ.fm lk) cM aZ aU O a.pred cg (F.ext cU)).iZ (λQ E w=>w) λiv ou dI bO vR dB fJ oG=>
   ahk ou▸(Nf fJ (qU.ext dB) oG).Ml (λQ E w=>w) λold Bm qy jX Uv oW rK yI=>
    (he env l A (σ.fm lk) Bm qy jX O a.pred rK (F.ext (cU.trans (dB.trans oW)))).iZ (λQ E w=>w) λv aJl aqf sI a7o uI zN UL=>
     (Im zN (VR.ext yI uI) UL).iZ (λQ E w=>w) λw aYp yM kj aYq rM Bo a70=>
      aL8 Mo I hF a.pred Bo (F.ext (cU.trans (dB.trans (oW.trans (uI.trans rM))))).uU (qU.ext (dB.trans (oW.trans (uI.trans rM)))) (oG.ext (oW.trans (uI.trans rM))) a70)
  F (λQ E w=>wpAny_AugAssign_SubscriptAny w (aE3 hc)) λU cM aZ aU U cU cg U=> .ok λQ E P=>P.done cg (F.ext cU) rfl
theorem VB
  (h:aO M A (eval o env) (λov aU=>aO M A (eval i env) (λiv bO=>aO M A (delItem ov iv) (λU s'=>Q .next s') E bO) E aU) E s):aO M A (adk (.Delete [.Subscript o i sp] p) env) Q E s:=by
 refine wpAny_Delete (wpAny_deleteEach_cons ?_);show aO _ _ (do
  let ov←eval o env
  let iv←pU [ov] (eval i env)
  mj sp
  pU [ov,iv] (delItem ov iv)
  release [ov,iv] []) _ _ _
 exact aj (bJ h (λov aU h=>aj (bT (bJ h (λiv bO h=>aj (dR (aj (bT (bJ h (λU U z=>Rb (wpAny_deleteEach_nil z)) λU U z=>z))))) λU U z=>z))) λU U z=>z)
theorem VD (Mo:R5 Γ)(I:ad8 Γ)(hF:Il Γ n)(ho:v4 Γ n k o mo)(hi:v4 Γ n k i mi):T6 Γ (n+1) k (.Delete [.Subscript o i sp] p) (.del mo mi):=λenv l A lk σ ρ s O W a S F=>
 n8.Av ((ho env l A (σ.fm lk) σ.hp ρ s O a.pred S F).iZ (λQ E w=>w) λov cM aZ aU ahg cU cg qU=>
  (hi env l A (σ.fm lk) cM aZ aU O a.pred cg (F.ext cU)).iZ (λQ E w=>w) λiv ou dI bO vR dB fJ oG=>Vo Mo I hF a.pred fJ (F.ext (cU.trans dB)).uU (qU.ext dB) oG)
  F (λQ E w=>VB w) λU cM aZ aU U cU cg U=> .ok λQ E P=>P.done cg (F.ext cU) rfl
theorem aG9 (Fc:ExcCallFacts cls nid iid)(Gc:ExcRaiseFacts cls)(hcc:cls="ValueError" ∨cls="TypeError")(hd:c≠("__debug__":aM))(hk:k c=aa .globalImplicit)(hg:Ci Γ c (.type cls)):T6 Γ (n+1) k (.Raise (aa (.Call (.Name c np) [.Constant (.str msg) j ep] [] cp)) aC p) (.raise cls msg):=λenv l A lk σ ρ s O W a S F q jY ev Q E P=>by refine wpAny_Raise_call Fc Gc a.hand rfl (dN (W8 O hk hg S ⟨rfl, ?_⟩) (G9 hd));refine kO ?_;show aO _ _ (adg ((aG,eval (.Constant (.str msg) j ep) env):: [])) _ _ _;refine ik (oY (lz ⟨rfl,by simp [jf],λh' e hm=> ?_⟩));exact Nb (R:=v5 Γ) (Q:=λU U=>True) hcc (S.same) (F.uU) (λfj s' e X x S' f=>(P.take ev:J1 Γ k l env lk ρ s (.exc cls msg) σ (Ar Γ) Q E) fj s' e X ((Ext.same:Ext Γ (m7 l) (Wr Γ lk ρ) ρ s ρ _).trans x).toS S' (F.ext ((Ext.same:Ext Γ (m7 l) (Wr Γ lk ρ) ρ s ρ _).trans x)) f) hm
theorem aH0 (h:yF c=aa x):(c=("ValueError":aM)∧x="ValueError")∨(c=("TypeError":aM)∧x="TypeError"):=by
 unfold yF at h;by_cases q:c=("ValueError":aM)
 ·replace h:=(bG q)▸h;exact .inl ⟨q,(aq h).symm⟩
 ·replace h:=(bu q)▸h
  by_cases q':c=("TypeError":aM)
  ·rw[bG q']at h;exact .inr ⟨q',(aq h).symm⟩
  ·replace h:=(bu q')▸h;exact iu h
theorem aS8 (G:W9 Γ)(hk:k c=aa .globalImplicit)(hx:yF c=aa x):T6 Γ (n+1) k (.Raise (aa (.Call (.Name c np) [.Constant (.str msg) j ep] [] cp)) aC p) (.raise x msg):=by
 rcases aH0 hx with⟨rfl,rfl⟩ | ⟨rfl,rfl⟩
 ·exact aG9 PySem.F.excCall_ValueError PySem.F.excRaise_ValueError (.inl rfl) (by decide) hk G.ve
 ·exact aG9 PySem.F.excCall_TypeError PySem.F.excRaise_TypeError (.inr rfl) (by decide) hk G.te
theorem VF {mt:j6}(ht:W6 Γ n k t mt)(ih:yK Γ n):T6 Γ (n+1) k (.While t b [] p) (.whl mt (b.map (cS m k))):=λenv l A lk σ ρ s O W a S F q jY ev Q E P=>by
 refine wpAny_While (codeAny_whileLoop (λj aU=>∃gW aZ,Bg (λσ=>jV σ (vG Γ.G n (σ.fm lk) mt σ.hp)) (G5 (iY Γ.G n lk) (b.map (cS m k))) j gW=aa (q,jY)∧SR Γ aZ gW.hp aU∧FR Γ l aZ aU.heap env gW.loc gW.cR∧J1 Γ k l env lk aZ aU q jY (Ar Γ) Q E)
  (λj aU hI=> ?_) 64 ⟨σ,ρ,ev,S,F,P⟩)
 refine qm λY Z=> ?_;obtain⟨gW,aZ,lG,cg,pK,Fw⟩:=hI;refine Z ?_;cases j with
 | zero=>exact p7 lG
 | succ j=>
  refine n8.Aq (ht env l A (gW.fm lk) gW.hp aZ aU O a.pred cg pK) pK lG (Fw.back W a) λv ou dI bO u aqk dB fJ hv axb=> ?_;obtain rfl:u=v:=hv;cases u with
  | false=>
   exact rC (axb.take aqk dI bO .next .refl fJ (pK.ext dB) rfl)
  | true=>
   refine I3.step (ak1 (σ:={gW with hp:=ou}) ih O W a.pred b fJ (pK.ext dB)) aqk axb λfl aql qy jX u Io oW rK Dj r aYs=> ?_;have Ip:=(Fw.ext dB.toS).ext oW;cases fl with
   | next=>obtain rfl:u= .next:=r;exact⟨j,fP j,aql,qy,Io,rK,Dj,Ip⟩
   | cont=>obtain rfl:u= .cont:=r;exact⟨j,fP j,aql,qy,Io,rK,Dj,Ip⟩
   | brk=>obtain rfl:u= .brk:=r;exact(Ip.take Io).done rK Dj rfl
   | ret v=>obtain⟨w,hv⟩:=r;exact(Ip.take Io).done rK Dj ⟨w,hv⟩
end
section
variable {Γ:Cx}{n m:Nat}{k:Kd}
structure Off (X:aW->Prop)(h h':bL):Prop where
 keep:∀b o,∀J:¬X b,∀J:h.get? b=aa o,h'.get? b=aa o
 turns:∀b o,∀J:X b,∀J:h.get? b=aa o,K3 o
structure VG (Γ:Cx)(ρ:eO)(b:aW):Prop where
 obj:b∉ρ.flatten
 tab:b∉Γ.tabs
 base:Γ.g0.get? b=aC
structure aJr (l:List fu)(env:fu)(b:aW):Prop where
 fs:b∉m7 l
 loc:b≠env.locals
 cR:∀y c,∀J:env.cells.lookup y=aa c,b≠c
section
variable {X:aW->Prop}{ρ aZ:eO}{H:Hp}{h h':bL}{s s' aU bO:aV}{l:List fu}{env:fu}{loc cR:j8}{FS:List aW}{W:aW->Prop}{lk Ir:List Nat}{b:aW}
theorem Off.vH (x:Off X h h')(b:aW)(o:oH)(e:h.get? b=aa o)(nm:¬K3 o):h'.get? b=aa o:=x.keep b o (λq=>nm (x.turns b o q e)) e
theorem SR.off (S:SR Γ ρ H s)(x:Off X s.heap s'.heap)(hx:∀b,∀J:X b,VG Γ ρ b)(hg:s'.gens=s.gens:=by rfl):SR Γ ρ H s':=
 ⟨S.len,S.nodup,λi o e=>(S.objs i o e).imp λr q=>⟨q.1,q.2.mono (H9.refl ρ s.heap) x.vH λb hb o' e'=>x.keep b o' (λz=>(hx b z).obj (cG.mpr ⟨r,aR q.1,hb⟩)) e'⟩,λb o e=>x.keep b o (λq=>by replace e:=((hx b q).base)▸e;exact iu e) (S.base b o e),S.apart,S.lR,hg▸S.gens,S.Mm (λb o hb e=>x.keep b o (λq=>(hx b q).tab hb) e) x.vH⟩
theorem Ext.aJs (x:Off X s.heap s'.heap)(lv:O7 s.heap s'.heap)(hw:∀b,∀J:X b,W b)(h1:s'.os=s.os:=by rfl)(h2:s'.drawn=s.drawn:=by rfl):Ext Γ FS W ρ s ρ s':=
 ⟨.refl _ _,⟨x.vH,λb o e n U=>x.keep b o (λq=>n (hw b q)) e,λb o e n U=>⟨o.slots,x.keep b o (λq=>n (hw b q)) e⟩⟩,lv,h1,h2⟩
theorem FR.off (F:FR Γ l ρ s.heap env loc cR)(x:Off X s.heap s'.heap)(hx:∀b,∀J:X b,aJr l env b):FR Γ l ρ s'.heap env loc cR:=by
 obtain⟨m,hn,hl⟩:=F.ns;refine⟨λe he=> ?_,⟨m, ?_,λy v e=>(hl y v e).imp λu q=>⟨q.1,(λz=>z.mono (H9.refl ρ s.heap) x.vH) q.2⟩⟩,λy v e=> ?_,F.wI,F.xV,F.xW,F.sY,F.Bk,F.vQ,λy c e=> ?_,F.apart,F.neL,F.Mj⟩
 ·obtain⟨L,o,es,n,hk,hf,ho,hd,r1,r2,r3⟩:=F.uU e he
  exact⟨L,o,es,n,hk,hf,x.keep L o (λq=>(hx L q).fs (ru.mpr ⟨e,he,hf⟩)) ho,hd,r1,r2,r3⟩
 ·obtain⟨o,es,ep,ho,r⟩:=hn
  exact⟨o,es,ep,x.keep _ o (λq=>(hx _ q).loc rfl) ho,r⟩
 ·obtain⟨c,u,hc,⟨o,ho,hd⟩,hv⟩:=F.cells y v e
  exact⟨c,u,hc,⟨o,x.keep c o (λq=>(hx c q).cR y c hc rfl) ho,hd⟩,(λz=>z.mono (H9.refl ρ s.heap) x.vH) hv⟩
 ·obtain⟨o,v,ho,hd⟩:=F.qe y c e
  exact⟨o,v,x.keep c o (λq=>(hx c q).cR y c e rfl) ho,hd⟩
theorem Ext.axc (x:Ext Γ FS W ρ s aZ aU)(kp:∀b o,∀J:¬X b,∀J:aU.heap.get? b=aa o,bO.heap.get? b=aa o)(new:∀b,∀J:X b,s.heap.get? b=aC)(h1:bO.os=aU.os:=by rfl)(h2:bO.drawn=aU.drawn:=by rfl):Ext Γ FS W ρ s aZ bO:=
 have nx:∀b o,∀J:s.heap.get? b=aa o,¬X b:=λb o e q=>iu ((new b q).symm.trans e)
 ⟨x.grow,⟨λb o e nm=>kp b o (nx b o e) (x.vf.vH b o e nm),λb o e nw nf=>kp b o (nx b o e) (x.vf.keep b o e nw nf),λb o e nw hf=>(x.vf.fs b o e nw hf).imp λsl e'=>kp b _ (nx b o e) e'⟩,λb o e=>(x.live b o e).imp λo' e'=>kp b _ (nx b o e) e',h1.trans x.os,h2.trans x.drawn⟩
theorem wK.less (hl:∀i∈lk,i∈Ir)(q:wK Γ k Ir ρ env b):wK Γ k lk ρ env b:=q.imp (λq=>q.imp id (by rintro⟨i,r,e,hm,hn⟩;exact⟨i,r,e,hm,λz=>hn (hl i z)⟩)) id
theorem J1.lock {α β:Type}{q:Res α}{jY:St}{R:eO->bL->α->β->Prop}{Q:PQ β}{E:PQ aB}(P:J1 Γ k l env lk ρ s q jY R Q E)(hl:∀i∈lk,i∈Ir):J1 Γ k l env Ir ρ s q jY R Q E:=by
 cases q with
 | ok _=>exact λfj s' u x=>P fj s' u (x.weaken λU q=>q.less hl)
 | exc _ _=>exact λfj s' e X x=>P fj s' e X (x.weaken λU q=>q.less hl)
theorem K4 (S:SR Γ ρ H s)(hb:s.heap.get? b=aC):VG Γ ρ b:=by
 refine⟨λq=> ?_,λq=> ?_, ?_⟩
 ·obtain⟨o,e,_⟩:=S.live q;replace e:=hb▸e;exact iu e
 ·exact(Γ.nJ _ S.tabs b q).elim λo e=>iu (hb.symm.trans e.1)
 ·cases q:Γ.g0.get? b with
  | none=>rfl
  | some o=>exact iu (hb.symm.trans (S.base b o q))
structure Still (Γ:Cx)(k:Kd)(l:List fu)(env:fu)(lk:List Nat)(ρ:eO)(b:aW):Prop where
 wr:¬wK Γ k lk ρ env b
 fs:b∉m7 l
theorem ar9 (S:SR Γ ρ H s)(F:FR Γ l ρ s.heap env loc cR)(hb:s.heap.get? b=aC):Still Γ k l env lk ρ b:=by
 have B:=K4 S hb;refine⟨λq=> ?_,λq=>(ae0 F.uU q).elim (by rintro _ ⟨_,_,ho,_⟩;exact iu (hb.symm.trans ho))⟩;rcases q with(q | ⟨i,r,e,hm,_⟩) | q | ⟨x,_,q⟩
 ·exact B.tab q
 ·exact B.obj (cG.mpr ⟨r,aR e,hm⟩)
 ·obtain⟨o,ho⟩:=F.ns.there
  simp only[←q,hb]at ho;exact iu ho
 ·obtain⟨o,_,ho,_⟩:=F.qe x b q
  replace ho:=hb▸ho;exact iu ho
theorem Iu (S:SR Γ ρ H s)(F:FR Γ l ρ s.heap env loc cR)(hb:s.heap.get? b=aa o)(hm:¬K3 o):Still Γ k l env lk ρ b:=by
 have no:¬S5 s.heap b:=λt=>t.casesOn λo' uh hm'=>hm (aq (uh.symm.trans hb)▸hm');refine⟨λq=>no ?_,λq=>(ae0 F.uU q).elim (by rintro o' ⟨es,ep,ho,hd,_⟩;exact no ⟨o',ho,.inr (.inr (.inr (.inr (.inr (.inr (.inl ⟨es,ep,hd⟩))))))⟩)⟩;rcases q with(q | ⟨i,r,e,hr,_⟩) | q | ⟨x,_,q⟩
 ·exact(Γ.nJ _ S.tabs b q).elim λo' e=>⟨o',e.1,.inr (.inr (.inr (.inr (.inr (.inl e.2)))))⟩
 ·exact S.live (cG.mpr ⟨r,aR e,hr⟩)
 ·obtain⟨m,hn,_⟩:=F.ns
  exact q▸qM.vh hn
 ·obtain⟨o',v,uh,hd⟩:=F.qe x b q
  exact uX.vh ⟨o',uh,hd⟩
theorem ay9 (S:SR Γ ρ H s)(F:FR Γ l ρ s.heap env loc cR)(hr:ρ[i]?=aa r)(hb:b∈r)(hi:i∈lk):Still Γ k l env lk ρ b:=by
 have hm:=cG.mpr ⟨r,aR hr,hb⟩;refine⟨λq=> ?_,λq=>(ae0 F.uU q).elim (by rintro _ ⟨_,_,_,_,h1,_⟩;exact h1 hm)⟩;rcases q with(q | ⟨j,r',e,hm',hj⟩) | q | ⟨x,_,q⟩
 ·exact S.lR b hm q
 ·exact aG1 S.nodup hr e (λz=>hj (z▸hi)) hb hm'
 ·exact F.wI (q▸hm)
 ·exact F.xV x b q hm
end
structure xq (Γ:Cx)(A:bQ)(I:aW)(fp wr:List aW)(n:Nat)(P:Nat->aB->Prop)(St:Nat->bL->Prop):Prop where
 sub:∀b∈wr,b∈fp
 frame:∀i h h',St i h->∀J:(∀b∈fp,∀o,∀J:h.get? b=aa o,h'.get? b=aa o),St i h'
 item:∀i (s:aV) (Q:PQ (Option aB)) (E:PQ aB),∀J:i<n,St i s.heap->
  ∀J:(∀v h' tk,∀J:P i v,St (i+1) h'->∀J:(∀b o,∀J:b∉wr,∀J:s.heap.get? b=aa o,h'.get? b=aa o),Q (aa v) {s with heap:=h',toks:=tk}),aO Γ.M A (wX (.ref I)) Q E s
 done:∀(s:aV)(Q:PQ (Option aB))(E:PQ aB),St n s.heap->
  ∀J:(∀h' tk,∀J:(∀b o,∀J:b∉wr,∀J:s.heap.get? b=aa o,h'.get? b=aa o),Q aC {s with heap:=h',toks:=tk}),aO Γ.M A (wX (.ref I)) Q E s
 turns:∀i h,St i h->∀b∈wr,S5 h b
 self:∀i (s:aV) (Q:PQ aB) (E:PQ aB),St i s.heap->∀J:Q (.ref I) s,aO Γ.M A (uy (.ref I)) Q E s
 go:∀(i:Nat)(target:aF)(v:aB)(s:aV)(Q:PQ Unit)(E:PQ aB),∀J:0<i,∀J:i≤n,St i s.heap->∀J:Q () s,aO Γ.M A (jL target (.ref I) v) Q E s
structure ItC (Γ:Cx)(A:bQ)(tg:aF)(I:aW)(fp wr:List aW)(n:Nat)(P:Nat->aB->bL->Prop)(St:Nat->bL->Prop):Prop where
 sub:∀b∈wr,b∈fp
 frame:∀i h h',St i h->∀J:(∀b∈fp,∀o,∀J:h.get? b=aa o,h'.get? b=aa o),St i h'
 item:∀i (s:aV) (Q:PQ aB) (E:PQ aB),∀J:i<n,St i s.heap->∀J:(∀v h' tk,∀J:P i v h',St (i+1) h'->∀J:(∀b o,∀J:b∉wr,∀J:s.heap.get? b=aa o,h'.get? b=aa o),Q v {s with heap:=h',toks:=tk}),aO Γ.M A (wX (.ref I)) (λr aU=>∃v,r=aa v∧aO Γ.M A (jL tg (.ref I) v) (λU bO=>Q v bO) E aU) E s
 done:∀(s:aV)(Q:PQ (Option aB))(E:PQ aB),St n s.heap->∀J:(∀h' tk,∀J:(∀b o,∀J:b∉wr,∀J:s.heap.get? b=aa o,h'.get? b=aa o),Q aC {s with heap:=h',toks:=tk}),aO Γ.M A (wX (.ref I)) Q E s
 turns:∀i h,St i h->∀b∈wr,S5 h b
 self:∀i (s:aV) (Q:PQ aB) (E:PQ aB),St i s.heap->∀J:Q (.ref I) s,aO Γ.M A (uy (.ref I)) Q E s
theorem xq.toC {P:Nat->aB->Prop}{St:Nat->bL->Prop}(T:xq Γ A I fp wr n P St)(tg:aF):ItC Γ A tg I fp wr n (λi v U=>P i v) St:=
 ⟨T.sub,T.frame,λi s U E hi st hQ=>T.item i s _ E hi st λv h' tk hv RD kp=>⟨v,rfl,T.go (i+1) tg v _ _ E (fB _) hi RD (hQ v h' tk hv RD kp)⟩,T.done,T.turns,T.self⟩
theorem ItC.next {P:Nat->aB->bL->Prop}{St:Nat->bL->Prop}(T:ItC Γ A tg I fp wr n P St){Q:PQ aB}(hi:i<n)(st:St i s.heap)
  (hr:∀v aU,∀J:aO Γ.M A (jL tg (.ref I) v) (λU bO=>Q v bO) E aU,Qr (aa v) aU) (h:∀v h' tk,∀J:P i v h',St (i+1) h'->∀J:(∀b o,∀J:b∉wr,∀J:s.heap.get? b=aa o,h'.get? b=aa o),Q v {s with heap:=h',toks:=tk}):
  aO Γ.M A (wX (.ref I)) Qr E s:=
 bJ (T.item i s Q E hi st h) (by rintro _ aU ⟨v,e,z⟩;exact e▸hr v aU z) λU U z=>z
inductive aqm (Γ:Cx)(k:Kd)(A:bQ)(tg:aF)(l:List fu)(env:fu)(lk:List Nat)(ρ:eO)(h₀ h:bL)(vs:List V):aB->Prop
 | mk (I:aW) (fp wr:List aW) (P:Nat->aB->bL->Prop) (St:Nat->bL->Prop) (yN:ItC Γ A tg I fp wr vs.length P St) (RG:St 0 h) (val:∀(i:Nat)(v:aB)(x:V)(fj:eO)(h':bL),∀J:P i v h',∀J:vs[i]?=aa x,∀J:H9 ρ h fj,∀J:(∀b o,∀J:h.get? b=aa o,∀J:¬K3 o,h'.get? b=aa o),VR Γ fj h' x v) (live:∀b∈fp,∃o,h.get? b=aa o)
   (off:∀b∈fp,Still Γ k l env lk ρ b) (new:∀b∈wr,h₀.get? b=aC) (free:∀b∈wr,VG Γ ρ b) (cR:∀b∈wr,∀y c,∀J:env.cells.lookup y=aa c,b≠c):aqm Γ k A tg l env lk ρ h₀ h vs (.ref I)
abbrev Bp (Γ:Cx)(k:Kd)(A:bQ)(tg:aF)(l:List fu)(env:fu)(lk:List Nat)(h₀:bL):eO->bL->List V×List Nat->aB->Prop:=
 λρ h q it=>aqm Γ k A tg l env (q.2++lk) ρ h₀ h q.1 it
def Dk (Γ:Cx)(n:Nat)(k:Kd)(tg:aF)(it:aF)(mi:j6):Prop:=
 ∀(env:fu)(l:List fu)(A:bQ)(φ:Fm)(H:Hp)(ρ:eO)(s:aV),∀J:v9 Γ k env,∀J:jW A l n,∀J:SR Γ ρ H s,∀J:FR Γ l ρ s.heap env φ.loc φ.cR,n8 Γ l φ.lk ρ s (yl (u9 Γ.G n) φ mi H) (λQ E=>aO Γ.M A (eval it env) (λx aU=>aO Γ.M A (uy x) Q E aU) E s) (Bp Γ k A tg l env φ.lk s.heap)
noncomputable def aE4:List String:= ["enumerate","zip","dict_itemiterator","dict_reverseitemiterator","odict_iterator","itertools.zip_longest","itertools.pairwise"]
theorem a72 (ho:s.heap.get? I=aa o)(hc:o.cls= .type T)
  (hT:aE4.contains T=aG) (hQ:Q () s):aO M A (jL target (.ref I) v) Q E s:=by
 have arm:∀p:qg,aO M A (jL (.List [] p) (.ref I) v) Q E s:=λp=>by
  obtain⟨cl,di,da,sl⟩:=o;obtain rfl:cl= .type T:=hc;cases v with
  | ref a=>
   refine aj (Hn ho ?_);cases da with
   | fields vs=>
    show aO _ _ (if (aE4.contains T&&vs[0]?==aa (jD a))=az then _ else _) _ _ _;exact aD hT (au hQ)
   | _=>exact au hQ
  | _=>exact au hQ
 cases target with
 | Tuple l j p=>exact arm p
 | List l p=>exact arm p
 | _=>exact au hQ
theorem xq.ofWalks {P:Nat->aB->Prop}{St:Nat->bL->Prop}(W:Walks Γ.prog Γ.w A I fp wr n P St)(turns:∀i h,St i h->∀b∈wr,S5 h b)
  (go:∀i target v s Q E,St i s.heap->∀J:Q () s,aO Γ.M A (jL target (.ref I) v) Q E s):xq Γ A I fp wr n P St:=
 ⟨W.sub,W.frame,W.item,W.done,turns,W.self,λi t v s Q E U U=>go i t v s Q E⟩
inductive ItO (h:bL)(I:aW):Prop
 | mk (o:oH) (T:String) (ho:h.get? I=aa o) (hc:o.cls= .type T) (hk:jl T∈itK) (hn:aE4.contains T=aG):ItO h I
theorem xq.of1 {P:Nat->aB->Prop}{St:Nat->bL->Prop}(W:Walks Γ.prog Γ.w A I fp [I] n P St)(io:∀i h,St i h->ItO h I):xq Γ A I fp [I] n P St:=
 .ofWalks W (λi h st b hb=>(io i h st).casesOn λo T ho hc hk U=>⟨o,aP.mp hb▸ho,.inr (.inr (.inr (.inr (.inr (.inr (.inr (.inr (hc▸hk))))))))⟩)
  λi t v s Q E st hQ=>(io i _ st).casesOn λo T ho hc U hn=>a72 ho hc hn hQ
theorem xq.list (hh:A.handled=aC)(oA:ax≠I)(items:Array aB):xq Γ A I [I,ax] [I] items.size (λi v=>items[i]?=aa v) (λi h=>h.IsListIter I ax i∧h.IsList ax items):=
 .of1 (Walks.list hh I ax oA items) λi h st=>st.1.elim λo q=>⟨o,_,q.1,q.2.1,by decide,by decide⟩
theorem xq.tuple (hh:A.handled=aC)(oA:ax≠I)(items:Array aB):xq Γ A I [I,ax] [I] items.size (λi v=>items[i]?=aa v) (λi h=>h.IsTupleIter I ax i∧h.IsTuple ax items):=
 .of1 (Walks.tuple hh I ax oA items) λi h st=>st.1.elim λo q=>⟨o,_,q.1,q.2.1,by decide,by decide⟩
theorem xq.range (hh:A.handled=aC)(I:aW)(a c:Int)(n:Nat):xq Γ A I [I] [I] n (λi v=>∃t,v= .int (a+i*c) t) (λi h=>IsRangeIter h I (a+(i:Nat)*c) ((n:Int)-(i:Nat)) c):=
 .of1 (Walks.range hh I a c n) λi h st=>⟨_,_,st,rfl,by decide,by decide⟩
theorem xq.str (hh:A.handled=aC)(I:aW)(x:aM)(t:Tok)(hty:ty="str_ascii_iterator" ∨ty="str_iterator"):xq Γ A I [I] [I] x.cps.size (SignAt x) (λi h=>h.IsStrIter I ty x t i):=
 .of1 (hty.elim (λe=>e▸Walks.strAscii hh I x t) (λe=>e▸Walks.strWide hh I x t)) λi h st=>st.elim λo q=>⟨o,_,q.1,q.2.1,by rcases hty with rfl | rfl<;>decide,by rcases hty with rfl | rfl<;>decide⟩
theorem xq.items (hh:A.handled=aC)(oA:d≠I)(ep:Nat):xq Γ A I [I,d] [I] 0 (λU U=>False) (λi h=>∃ok ov,IsItemIter h I d i 0 ep ok ov∧h.DictAt (strKind Γ.prog Γ.w) d [] ep) where
 sub:=λb hb=>aP.mp hb▸ .head _
 frame:=λi h h' st hk=>by refine qm λY Z=> ?_;obtain⟨ok,ov,h1,o,es,ho,r⟩:=st;exact Z ⟨ok,ov,hk I (.head _) _ h1,o,es,hk d (.tail _ (.head _)) _ ho,r⟩
 item:=λi s Q E hi=>absurd hi (nG i)
 done:=λs Q E st hQ=>by exact exY st λok ov h1 h2=>(wpAny_pyNext_items_end hh h1 h2 rfl λh' he'=>hQ h' s.toks λb o hb e=>he' b o (λh=>hb (h▸ .head _)) e)
 turns:=λi h st b hb=>by exact exY st λok ov h1 _=>⟨_,aP.mp hb▸h1,.inr (.inr (.inr (.inr (.inr (.inr (.inr (.inr (by simp [itK]))))))))⟩
 go:=λi t v s Q E h0 h1=>absurd h0 (adn.mpr h1)
 self:=λi s Q E st h=>by exact exY st λok ov h1 h2=>(kcp_self h1 h)
theorem xq.len {P:Nat->aB->Prop}{St:Nat->bL->Prop}(x:xq Γ A I fp wr n P St)(e:n=n'):xq Γ A I fp wr n' P St:=e▸x
section
variable {A:bQ}{l:List fu}{env:fu}{lk:List Nat}{ρ:eO}{H:Hp}{s:aV}{loc cR:j8}{Q:PQ aB}{E:PQ aB}{h₀:bL}
theorem ai9 (S:SR Γ ρ H s)(F:FR Γ l ρ s.heap env loc cR)(lv:O7 h₀ s.heap){P:Nat->aB->Prop}{St:Nat->bL->Prop}(T:xq Γ A s.heap.objs.size fp [s.heap.objs.size] vs.length P St)
  (RG:St 0 (s.heap.push o)) (fpo:∀b∈fp,b=s.heap.objs.size∨((∃o,s.heap.get? b=aa o)∧Still Γ k l env (um++lk) ρ b)) (hv:∀i v x,∀J:P i v,∀J:vs[i]?=aa x,VR Γ ρ (s.heap.push o) x v)
  (hf:o.isFreed=aG) (Pq:N6 Γ l lk ρ s (.ok (vs,um)) H (Bp Γ k A tg l env lk h₀) Q E):Q (.ref s.heap.objs.size) {s with heap:=s.heap.push o}:=by
 have nb:=J0 s.heap;refine Pq ρ {s with heap:=s.heap.push o} _ (Ext.keeps (K7 s.heap o)) (S.keeps (K7 s.heap o)) (.mk _ fp _ _ St (T.toC tg) RG (λi v x fj h' hp hx g im=>(hv i v x hp hx).mono g im) (λb hb=> ?_) (λb hb=> ?_) (λb hb=>aP.mp hb▸lv.none nb) (λb hb=>aP.mp hb▸K4 S nb) λb hb y c e z=> ?_)
 ·rcases fpo b hb with rfl | ⟨e,_⟩
  ·exact⟨o,bj _ hf⟩
  ·exact e.imp λo' e=>(K7 s.heap o) b o' e
 ·rcases fpo b hb with rfl | ⟨_,h⟩
  ·exact ar9 S F nb
  ·exact h
 ·obtain rfl:=aP.mp hb
  obtain⟨o',_,ho,_⟩:=F.qe y c e;simp only[←z,nb]at ho;exact iu ho
end
end
section
variable {Γ:Cx}{n m:Nat}{k:Kd}
section
variable {A:bQ}{l:List fu}{env:fu}{lk:List Nat}{ρ:eO}{H:Hp}{s:aV}{loc cR:j8}{h₀:bL}{u:aB}{tg:aF}
abbrev ItS (Γ:Cx)(k:Kd)(A:bQ)(tg:aF)(l:List fu)(env:fu)(lk:List Nat)(h₀:bL)(ρ:eO)(H:Hp)(s:aV)(q:List V×List Nat)(u:aB):Prop:=
 n8 Γ l lk ρ s (ok q H) (λQ E=>aO Γ.M A (uy u) Q E s) (Bp Γ k A tg l env lk h₀)
theorem axd (hh:A.handled=aC)(S:SR Γ ρ H s)(F:FR Γ l ρ s.heap env loc cR)(lv:O7 h₀ s.heap)(hv:Mh s.heap (gA Γ ρ s.heap vs) u):ItS Γ k A tg l env lk h₀ ρ H s (vs, []) u:= .ok λQ E P=>by
 obtain⟨t,us,nn,ht,je⟩:=hv;refine ph (af7 ht) (ai9 S F lv ((xq.tuple hh (dh (cA ht)) us).len je.size) ⟨⟨_,bj _ rfl,rfl,rfl⟩,af7 (K7 _ _ _ _ ht)⟩ (λb hb=> ?_) (λi w x hw hx=> ?_) rfl P)
 ·exact(aY.mp hb).imp id λhb=>by refine aD (aP.mp hb) ?_;exact⟨⟨_,ht⟩,Iu S F ht ai0⟩
 ·exact(je.get hx (by refine aD (cu) ?_;exact hw)).mono (H9.refl ρ s.heap) λb o e U=>K7 _ _ b o e
theorem axe (hh:A.handled=aC)(S:SR Γ ρ H s)(F:FR Γ l ρ s.heap env loc cR)(lv:O7 h₀ s.heap)(hv:W3 Γ ρ H s.heap i vs u):ItS Γ k A tg l env lk h₀ ρ H s (vs, [i]) u:= .ok λQ E P=>by
 obtain⟨t,us,nn,_,hr,ht,je,_⟩:=hv;refine wpAny_pyIter_list (J3 ht) (ai9 S F lv ((xq.list hh (dh (cA ht)) us).len je.size) ⟨⟨_,bj _ rfl,rfl,rfl⟩,J3 (K7 _ _ _ _ ht)⟩ (λb hb=> ?_) (λi w x hw hx=> ?_) rfl P)
 ·exact(aY.mp hb).imp id λhb=>by refine aD (aP.mp hb) ?_;exact⟨⟨_,ht⟩,ay9 S F hr (.head _) (.head _)⟩
 ·exact(je.get hx (by refine aD (cu) ?_;exact hw)).mono (H9.refl ρ s.heap) λb o e U=>K7 _ _ b o e
theorem axf (hh:A.handled=aC)(S:SR Γ ρ H s)(F:FR Γ l ρ s.heap env loc cR)(lv:O7 h₀ s.heap):ItS Γ k A tg l env lk h₀ ρ H s (x.cps.toList.map λc=> .str ⟨#[c]⟩, []) (.str x t):= .ok λQ E P=>by
 have val:∀h i w y,∀J:SignAt x i w,∀J:(x.cps.toList.map λc=>V.str ⟨#[c]⟩)[i]?=aa y,VR Γ ρ h y w:=λh i w y hw hy=>by obtain⟨c,tk,hc,rfl⟩:=hw;rw[eV,cu,hc]at hy;obtain rfl:=aq hy;exact .mk tk
 have len:x.cps.size=(x.cps.toList.map λc=>V.str ⟨#[c]⟩).length:=by simp only[aJ,cj]
 by_cases ha:x.cps.all (·<128)=az
 ·exact wpAny_pyIter_ascii ha (ai9 S F lv ((xq.str hh _ x t (.inl rfl)).len len) ⟨_,bj _ rfl,rfl,rfl⟩ (λb hb=> .inl (aP.mp hb)) (val _) rfl P)
 ·exact wpAny_pyIter_wide (by simpa using ha) (ai9 S F lv ((xq.str hh _ x t (.inr rfl)).len len) ⟨_,bj _ rfl,rfl,rfl⟩ (λb hb=> .inl (aP.mp hb)) (val _) rfl P)
theorem axg (hh:A.handled=aC)(S:SR Γ ρ H s)(F:FR Γ l ρ s.heap env loc cR)(lv:O7 h₀ s.heap)(hv:awh ρ s.heap i u)(hi:H[i]?=aa .vN):ItS Γ k A tg l env lk h₀ ρ H s ([], [i]) u:= .ok λQ E P=>by obtain⟨b,d,hr,hb⟩:=hv;obtain⟨d,nn,Cj⟩:=(S.or hi hr);have nil:∀{h':bL},∀J:h'.get? d=aa (iU [] nn),h'.DictAt (strKind Γ.prog Γ.w) d [] nn:=λe=>⟨_, #[],e,⟨rfl,rfl,rfl⟩,rfl,λe he=>by simp at he,.nil,by decide⟩;refine wpAny_pyIter_items ⟨_,hb,rfl,rfl⟩ (nil Cj) (ai9 S F lv (xq.items hh (dh (cA Cj)) nn) ⟨_,_,bj _ rfl,nil (K7 _ _ _ _ Cj)⟩ (λb' hb=> ?_) (λj w x hw hx=>hw.elim) rfl P);exact(aY.mp hb).imp id λhb=>by refine aD (aP.mp hb) ?_;exact⟨⟨_,Cj⟩,ay9 S F hr (.head _) (.head _)⟩
theorem axh (hh:A.handled=aC)(S:SR Γ ρ H s)(F:FR Γ l ρ s.heap env loc cR)(lv:O7 h₀ s.heap)(hv:VR Γ ρ s.heap v u):n8 Γ l lk ρ s (opt (ao8 H v) λl=>ok (l,aj3 v) H) (λQ E=>aO Γ.M A (uy u) Q E s) (Bp Γ k A tg l env lk h₀):= .opt λvs e=>by
 cases v with
 | tup xs=>obtain rfl:=aq e;exact axd hh S F lv hv
 | str x=>obtain rfl:=aq e;obtain⟨t⟩:=hv;exact axf hh S F lv
 | ref i=>
  exact g8 e λo hi e=>(axe hh S F lv (VR.list hv S (lst_inv e▸hi)))
 | Ru i=>
  refine g8 e λo hi e=> ?_;cases o with
  | vN=>obtain rfl:=aq e;exact axg hh S F lv hv hi
  | _=>exact p7 e
 | _=>exact p7 e
end
noncomputable def VH:j6->Bool
 | .xU _=>aG
 | .Cg _=>aG
 | _=>az
theorem aB5 (he:v4 Γ n k e me)(hp:VH me=az):Dk Γ n k tg e me:=λenv l A φ H ρ s O a S F=>by
 have e':yl (u9 Γ.G n) φ me H=jd (dY Γ.G n φ me H) λv H=>opt (ao8 H v) λl=>ok (l,aj3 v) H:=by
  cases me with
  | xU l=>exact rU hp
  | Cg e=>exact rU hp
  | _=>rfl
 exact aD e' ((he env l A φ H ρ s O a S F).iZ (λQ E w=>w) λv cM aZ aU u cU cg hv=>axh a.hand cg (F.ext cU) cU.live hv)
end
section
variable {Γ:Cx}{n m:Nat}{k:Kd}
structure VJ (Γ:Cx)(k:Kd)(l:List fu)(env:fu)(lk um:List Nat)(wr:List aW)(Ni:Nat->bL->Prop)(iy:eO)(iI:aV)(dI:eO)(bO:aV)(i:Nat)(σ:St)(ρ:eO)(s:aV):Prop where
 S:SR Γ ρ σ.hp s
 F:FR Γ l ρ s.heap env σ.loc σ.cR
 Bq:Ext Γ (m7 l) (wK Γ k lk iy env) iy iI ρ s
 dB:Ext Γ (m7 l) (λb=>wK Γ k (um++lk) dI env b∨b∈wr) dI bO ρ s
 st:Ni i s.heap
section
variable {A:bQ}{l:List fu}{env:fu}{lk um:List Nat}{iy dI ρ fj:eO}{iI bO s s':aV}{vs:List V}{I:aW}{fp wr:List aW}{P:Nat->aB->bL->Prop}{tg:aF}{Iv:Nat->bL->Prop}{i:Nat}{σ jY:St}
structure ap3 (Γ:Cx)(k:Kd)(A:bQ)(tg:aF)(l:List fu)(env:fu)(lk um:List Nat)(dI:eO)(iI bO:aV)(vs:List V)(I:aW)(fp wr:List aW)(P:Nat->aB->bL->Prop)(Iv:Nat->bL->Prop):Prop where
 yN:ItC Γ A tg I fp wr vs.length P Iv
 val:∀(i:Nat)(v:aB)(x:V)(fj:eO)(h':bL),∀J:P i v h',∀J:vs[i]?=aa x,∀J:H9 dI bO.heap fj,∀J:(∀b o,∀J:bO.heap.get? b=aa o,∀J:¬K3 o,h'.get? b=aa o),VR Γ fj h' x v
 live:∀b∈fp,∃o,bO.heap.get? b=aa o
 off:∀b∈fp,Still Γ k l env (um++lk) dI b
 new:∀b∈wr,iI.heap.get? b=aC
 free:∀b∈wr,VG Γ dI b
 cR:∀b∈wr,∀y c,∀J:env.cells.lookup y=aa c,b≠c
theorem VJ.moved (T:ap3 Γ k A tg l env lk um dI iI bO vs I fp wr P Iv)(L:VJ Γ k l env lk um wr Iv iy iI dI bO i σ ρ s){tk:Nat}(kp:∀b o,∀J:b∉wr,∀J:s.heap.get? b=aa o,h'.get? b=aa o):
  SR Γ ρ σ.hp {s with heap:=h',toks:=tk}∧FR Γ l ρ h' env σ.loc σ.cR∧Ext Γ (m7 l) (wK Γ k lk iy env) iy iI ρ {s with heap:=h',toks:=tk}:=by
 have OO:Off (·∈wr) s.heap h':=⟨λb o nb e=>kp b o nb e,λb o hb e=>(T.yN.turns i _ L.st b hb).casesOn λo' e' hm=>aq (e'.symm.trans e)▸hm⟩;have free:∀b,∀J:b∈wr,VG Γ ρ b:=λb hb=>⟨λhm=>by
  obtain⟨τ,rfl,hn⟩:=L.dB.grow.more;rw[gh,cX]at hm;exact hm.elim (T.free b hb).obj λhm=>(T.live b (T.yN.sub b hb)).elim λo' uh=>(iu ((hn b hm).symm.trans uh)),(T.free b hb).tab,(T.free b hb).base⟩
 exact⟨L.S.off OO free,L.F.off (s':={s with heap:=h',toks:=tk}) OO λb hb=>⟨(T.off b (T.yN.sub b hb)).fs,λz=>(T.off b (T.yN.sub b hb)).wr (.inr (.inl z)),λy c e=>T.cR b hb y c e⟩,L.Bq.axc kp T.new⟩
theorem VJ.item (T:ap3 Γ k A tg l env lk um dI iI bO vs I fp wr P Iv)(L:VJ Γ k l env lk um wr Iv iy iI dI bO i σ ρ s){tk:Nat}(kp:∀b o,∀J:b∉wr,∀J:s.heap.get? b=aa o,h'.get? b=aa o)(st:Iv (i+1) h'):VJ Γ k l env lk um wr Iv iy iI dI bO (i+1) σ ρ {s with heap:=h',toks:=tk}:=Be (L.moved T kp) λS F x=>⟨S,F,x,L.dB.trans' (Ext.aJs ⟨λb o nb e=>kp b o nb e,λb o hb e=>(T.yN.turns i _ L.st b hb).casesOn λo' e' hm=>aq (e'.symm.trans e)▸hm⟩ (λb o e=>if z:b∈wr then((T.yN.turns (i+1) _ st b z).casesOn λo' e' U=>⟨o',e'⟩) else⟨o,kp b o z e⟩) λb hb=>hb) λb hb=> .inl (.inr hb),st⟩
theorem VJ.turn (T:ap3 Γ k A tg l env lk um dI iI bO vs I fp wr P Iv)(L:VJ Γ k l env lk um wr Iv iy iI dI bO i σ ρ s)(y:Ext Γ (m7 l) (wK Γ k (um++lk) ρ env) ρ s fj s')(S:SR Γ fj jY.hp s')(F:FR Γ l fj s'.heap env jY.loc jY.cR):VJ Γ k l env lk um wr Iv iy iI dI bO i jY fj s':=
 ⟨S,F,L.Bq.trans' y λb z=>(z.back L.Bq.grow).imp (λz=>z.less λi h=>fQ _ h) id,L.dB.trans' y λb z=>(z.back L.dB.grow).imp .inl id,T.yN.frame _ _ _ L.st λb hb o e=>y.vf.keep b o e (λz=>(z.back L.dB.grow).elim (T.off b hb).wr λz=>(T.live b hb).elim λo' uh=>(iu (z.symm.trans uh))) (T.off b hb).fs⟩
end
noncomputable abbrev Iw (Γ:Cx)(n:Nat)(lk:List Nat)(mt:j6)(mb:List n6)(v:V)(σ:St):v7 Fl:=N7 (K5 Γ.G n lk mt v σ) λU σ=>G5 (iY Γ.G n lk) mb σ
theorem VK {mt mi:j6}(ht:Di Γ n k t mt)(hi:Dk Γ n k t it mi)(ih:yK Γ n)(hf:∀env x,qb it env x=pure x):T6 Γ (n+1) k (.For t it b o p) (.oU mt mi (b.map (cS m k)) (o.map (cS m k))):=λenv l A lk σ ρ s O W a S F q jY ev Q E P=>by
 refine wpAny_For ?_ (hf env);refine n8.Aq (hi env l A (σ.fm lk) σ.hp ρ s O a.pred S F) F ev P λq1 cM dI bO itv lG dB fJ hit axb=> ?_;obtain⟨I,fp,wr,PI,Ni,yN,RG,val,live,off,new,free,cR⟩:=hit;have T:ap3 Γ k A t l env lk q1.2 dI s bO q1.1 I fp wr PI Ni:=⟨yN,val,live,off,new,free,cR⟩;refine codeAny_forLoop_any (λj aU=>∃i gW aZ,i≤q1.1.length∧j=q1.1.length-i∧U5 (Iw Γ n (q1.2++lk) mt (b.map (cS m k))) (G5 (iY Γ.G n lk) (o.map (cS m k))) (q1.1.drop i) gW=aa (q,jY)∧VJ Γ k l env lk q1.2 wr Ni ρ s dI bO i gW aZ aU)
  (λj aU hI=> ?_) q1.1.length ⟨0,{σ with hp:=cM},dI,cL _,rfl,lG,fJ,F.ext dB,dB.toS,.refl,RG⟩
 obtain⟨i,gW,aZ,hle,rfl,lG,L⟩:=hI;by_cases vU:i<q1.1.length
 ·rw[mF vU]at lG
  refine yN.next vU L.st (λv aU z=>z) λv h' tk hv RD kp=> ?_;have L':=L.item (tk:=tk) T kp RD;have sim:I3 Γ k l env (q1.2++lk) aZ {aU with heap:=h',toks:=tk} (Iw Γ n (q1.2++lk) mt (b.map (cS m k)) q1.1[i] gW) _ (Ar Γ):=
   (ht env l A (q1.2++lk) q1.1[i] gW aZ _ v O a.pred L'.S L'.F (val i v _ _ _ hv (bD vU) L'.dB.grow L'.dB.vf.vH)).Ml (λQ E w=>w) λU aSz aqf sI U uI zN axj U=>ak1 ih O W a.pred b zN axj
  refine sim.step lG (J1.back W a ((P.ext L'.Bq).lock λi h=>fQ q1.2 h)) λfl Iz yM kj u Aw rM Bo VL r aJw=> ?_;have ahn:=L'.turn T rM Bo VL;cases fl with
  | next=>obtain rfl:u= .next:=r;exact⟨q1.1.length-(i+1),by lia,i+1,Iz,yM,vU,rfl,Aw,ahn⟩
  | cont=>obtain rfl:u= .cont:=r;exact⟨q1.1.length-(i+1),by lia,i+1,Iz,yM,vU,rfl,Aw,ahn⟩
  | brk=>obtain rfl:u= .brk:=r;exact P.take Aw yM kj .next ahn.Bq Bo VL rfl
  | ret w=>obtain⟨w',hw⟩:=r;exact P.take Aw yM kj (.ret w') ahn.Bq Bo VL ⟨w',hw⟩
 ·obtain rfl:i=q1.1.length:=gZ hle (eU vU)
  replace lG:=tC▸lG;exact yN.done aU _ _ L.st λh' tk kp=>(Be (L.moved T kp) λS' F' x'=>(ak1 ih O W a.pred o S' F' q jY lG _ _ (J1.back W a (P.ext x'))))
end
section
variable {Γ:Cx}{n m:Nat}{k:Kd}
def W5 (Γ:Cx)(h:bL)(u:aB):Prop:=∃k,(k=Keeper.frame∨k=Keeper.machine∨k=Keeper.boundFrame)∧lA Γ.M h (keeperOf u) k
theorem keep_pure (e:keeperOf u=pure .machine):W5 Γ h u:=⟨.machine,.inr (.inl rfl),kY e⟩
structure aJx (kw:List (Option aM×RW aB))(kn:List aM):Prop where
 names:kw.filterMap (·.1)=kn
 all:kw.all (·.1.isSome)=az
 aC:kw.any (·.1.isNone)=aG
theorem aB6 (h:keysOf (x::r)=aa p):∃y q,x.arg=aa y∧keysOf r=aa q∧p=(y::q.1,x.value::q.2):=g8 h λy h1 h=>(g8 h λq h2 h=>⟨y,q,h1,h2,(aq h).symm⟩)
theorem aqn (pos:qg)(env:fu):∀{ks:List tY}{p:List aM×List aF},∀J:keysOf ks=aa p,aJx (sU pos (mU ks env)) p.1:=by
 intro zz
 induction zz with
 | nil=>
  intro _ h;obtain rfl:=aq h;exact⟨rfl,rfl,rfl⟩
 | cons hd0 r ih=>
  obtain⟨y,e,z⟩:=hd0;intro p h;obtain⟨y,q,rfl,h2,rfl⟩:=aB6 h;obtain⟨i1,i2,i3⟩:=ih h2;exact⟨congrArg (y::·) i1,i2,i3⟩
section
variable {env:fu}{l:List fu}{A:bQ}{φ:Fm}{ρ:eO}{H:Hp}{s:aV}
theorem aJy (ih:O8 Γ n m k)(O:v9 Γ k env)(a:jW A l n)(pos:qg):∀{ks:List tY}{p:List aM×List aF}{H:Hp}{ρ:eO}{s:aV},∀J:keysOf ks=aa p,∀J:SR Γ ρ H s,∀J:FR Γ l ρ s.heap env φ.loc φ.cR,jo Γ l φ.lk A ρ s (R9 (dY Γ.G n φ) (p.2.map (cE m k)) H) (evalAll ((sU pos (mU ks env)).map (·.2))) (a7k Γ):=by
 intro zz
 induction zz with
 | nil=>
  intro _ _ _ _ hk S F;obtain rfl:=aq hk;exact .ok λQ E P=>wpAny_evalAll_nil (P.ok S rfl)
 | cons hd0 r ihr=>
  obtain⟨y,e,z⟩:=hd0;intro p _ _ _ hk S F;obtain⟨y,q,rfl,h2,rfl⟩:=aB6 hk;exact(ih e env l A φ _ _ _ O a S F).iZ (λQ E w=>(wpAny_evalAll_cons (aj (bJ w (λu s' z=>aj (dR (au z))) λU U z=>z)):aO _ _ (evalAll ((do let v←eval e env;mj pos;pure v)::(sU pos (mU r env)).map (·.2))) Q E _)) λv cM aZ aU u cU cg hv=>
   (ihr h2 cg (F.ext cU)).iZ (λQ E w=>w) λvs ou dI bO us dB fJ je=> .ok λQ E P=>P.ok fJ (Dc.mk u us (hv.ext dB) je)
theorem aJ9 (h1:args.any (·.1)=aG)(h2:keywords.all (·.1.isSome)=az)
  (h:aO M A (adg args) (λvs aU=>aO M A (evalAll (keywords.map (·.2))) (λks bO=>Q ⟨vs,(keywords.filterMap (·.1)).zip ks⟩ bO) E aU) E s):aO M A (evalArgs f az args keywords) Q E s:=by
 cases args with
 | nil=>exact evalArgs_kw_nil h2 λΓ p hΓ=>h Γ p hΓ Γ p hΓ
 | cons x rest=>
  obtain⟨b,x⟩:=x;rw[sy,Le]at h1;obtain rfl:b=aG:=h1.1;exact evalArgs_kw h2 h
theorem VM (h:(R4 e).isNone=az)(env:fu)(rest:List aF):oF (e::rest) env=(aG,eval e env)::oF rest env:=by
 cases e with
 | Starred a p=>exact rU h
 | _=>rfl
theorem ap4 (env:fu)(pos:qg):∀{es:List aF},∀J:M8 es=az,(yX pos (oF es env)).any (·.1)=aG:=by
 intro zz
 induction zz with
 | nil=>
  intro _;exact rfl
 | cons e es ih=>
  intro h;rw[VM (d7 h)];simpa [yX] using ih (j9 h)
theorem Dl (ih:O8 Γ n m k)(O:v9 Γ k env)(a:jW A l n){pos:qg}{α β:Type}{R:eO->bL->α->β->Prop}{args:List aF}{ks:List tY}{p:List aM×List aF}{f:List V->List V->Hp->Out α}{fv:aB}{first:List aB}{K:aB->aV->∀J:(PQ β),∀J:(PQ aB),Prop}
  (hn:M8 args=az) (hk:keysOf ks=aa p) (S:SR Γ ρ H s) (F:FR Γ l ρ s.heap env φ.loc φ.cR)
  (kk:∀vs VN cM aZ aU us lZ,∀J:Ext Γ (m7 l) (Wr Γ φ.lk ρ) ρ s aZ aU,∀J:SR Γ aZ cM aU,∀J:agk Γ args.length aZ aU.heap vs us,∀J:gA Γ aZ aU.heap VN lZ,n8 Γ l φ.lk aZ aU (f vs VN cM) (λQ E=>W5 Γ aU.heap fv∧aO Γ.M A (call fv (first++us) (p.1.zip lZ)) (λv s'=>K v s' Q E) E aU) R):
  n8 Γ l φ.lk ρ s (jd (R9 (dY Γ.G n φ) (args.map (cE m k)) H) λvs H=>jd (R9 (dY Γ.G n φ) (p.2.map (cE m k)) H) λks H=>f vs ks H)
   (λQ E=>aO Γ.M A (Ah pos fv first (yX pos (oF args env)) (sU pos (mU ks env))) (λv s'=>K v s' Q E) E s) R:=by
 obtain⟨k1,k2,k3⟩:=aqn pos env hk;refine(awr ih O a pos args S F).iZ
  (λQ E w=>mV (P:=λh=>W5 Γ h fv) (by refine aD (ap4 env pos hn) (aD k3 ?_);rfl) (λh p=>p) (aJ9 (ap4 env pos hn) k2 (aD k1 w))) λvs cM aZ aU us cU cg hv=> ?_
 exact(aJy ih O a pos hk cg (F.ext cU)).iZ (λQ E w=>w) λVN ou dI bO lZ dB fJ hkv=>kk vs VN ou dI bO us lZ (cU.trans dB) fJ ⟨hv.1.ext dB,hv.2⟩ hkv
end
def axk (Γ:Cx)(n:Nat):Prop:=
 ∀(env:fu)(l:List fu)(A:bQ)(φ:Fm)(fv:V)(vs ks:List V)(kn:List aM)(H:Hp)(ρ:eO)(s:aV)(u:aB)(us lZ:List aB),∀J:jW A l (n+1),∀J:SR Γ ρ H s,∀J:FR Γ l ρ s.heap env φ.loc φ.cR,∀J:VR Γ ρ s.heap fv u,∀J:gA Γ ρ s.heap vs us,∀J:gA Γ ρ s.heap ks lZ,n8 Γ l φ.lk ρ s (HH Γ.G (u9 Γ.G n) φ fv vs kn ks H) (λQ E=>W5 Γ s.heap u∧aO Γ.M A (call u us (kn.zip lZ)) Q E s) (v5 Γ)
theorem VP (hV:axk Γ n)(ih:O8 Γ n m k)(hf:v4 Γ n k f mf)(hn:M8 args=az)(hk:keysOf ks=aa q)
  (hsh:∀env,eval (.Call f args ks p) env=(do Ah p (←eval f env) [] (yX p (oF args env)) (sU p (mU ks env)))):v4 Γ (n+1) k (.Call f args ks p) (.call mf (args.map (cE m k)) q.1 (q.2.map (cE m k))):=λenv l A φ H ρ s O a S F=>
 (hf env l A φ H ρ s O a.pred S F).iZ (λQ E w=>oh (hsh env) (aj w)) λv cM aZ aU u cU cg hv=>
  Dl ih O a.pred hn hk cg (F.ext cU) λvs VN ou dI bO us lZ dB fJ je hkv=>hV env l A φ v vs VN q.1 ou dI bO u us lZ a fJ (F.ext (cU.trans dB)) (hv.ext dB) je.1 hkv
end
section
variable {Γ:Cx}{n m:Nat}{k:Kd}
inductive J9:List Int->List aB->Prop
 | nil:J9 [] []
 | cons (i:Int) (t:Tok) (ns:List Int) (us:List aB) (h:J9 ns us):J9 (i::ns) (.int i t::us)
theorem as3:∀{vs:List V}{ns:List Int}{us:List aB},∀J:au3 vs=aa ns,∀J:gA Γ ρ h vs us,J9 ns us:=by
 intro zz
 induction zz with
 | nil=>
  intro _ _ e x;obtain rfl:=aq e;obtain rfl:=x.nil;exact .nil
 | cons v vs ih=>
  rintro ns _ e ⟨u,us,hv,hs⟩;refine g8 e λi e1 e=> ?_;refine g8 e λns' e2 e=> ?_;obtain rfl:=aq e;obtain⟨t⟩:=hv.intOf e1;exact .cons i t ns' us (ih e2 hs)
def near (i:Int):Prop:= -2305843009213693952≤i∧i<2305843009213693952
theorem IK (h:small (4*i)=az):near i:=⟨Int.le_of_mul_le_mul_left ((V8 h).1) (by decide),Int.lt_of_mul_lt_mul_left ((V8 h).2) (by decide)⟩
theorem fits (h1: -9223372036854775808≤i)(h2:i<9223372036854775808):jP i=az:=by delta jP;simp only[fO,decide_eq_true_eq,decide_eq_true_eq];exact⟨h1,h2⟩
theorem Nj (h:near i):jP i=az:=fits (cV (by decide) h.1) (Int.lt_trans h.2 (by decide))
theorem a74 (ha:near a)(hb:near b):jP (b-a).toNat=az:=
 fits (cV (by decide) (cJ _)) (iJ.mpr ((Int.toNat_lt' (by decide)).mpr (kI (Int.add_lt_add_of_lt_of_le hb.2 (Int.neg_le_neg ha.1)) (by decide))))
open Builtin.Range in
theorem aqp {a b:Int}(ha:near a)(hb:near b):lq a b 1=az∧rangeSize a b 1=(b-a).toNat:=by
 have e:rangeSize a b 1=(b-a).toNat:=by
  delta rangeSize;rw[bG (by decide)];by_cases h:a<b
  ·rw[bG h,yc,wY];exact(mQ (vC (yd h))).symm
  ·rw[bu h];exact(congrArg Nat.cast (Sg (Rh (jx.mp h)))).symm
 refine⟨?_,e⟩;delta lq;refine aD e (aD (bG (by decide)) ?_);simp only[fO,kZ];exact⟨⟨⟨⟨Nj ha,Nj hb⟩,by decide⟩,a74 ha hb⟩,.inr (Nj (by simp only[Int.sub_self,Int.add_zero];exact hb))⟩
open Builtin.Range in
theorem aho (ha:near a)(hb:near b):lq a b (-1)=az∧rangeSize a b (-1)=(a-b).toNat:=by
 have e:rangeSize a b (-1)=(a-b).toNat:=by
  delta rangeSize;rw[bu (by decide)];by_cases h:a>b
  ·rw[bG h,show(-(-1:Int))=1 by rfl,yc,wY];exact(mQ (vC (yd h))).symm
  ·rw[bu h];exact(congrArg Nat.cast (Sg (Rh (jx.mp h)))).symm
 refine⟨?_,e⟩;delta lq;refine aD e (aD (bu (by decide)) ?_);simp only[fO,kZ];exact⟨⟨⟨⟨Nj ha,Nj hb⟩,by decide⟩,a74 hb ha⟩,.inr (Nj (by simp only[show(-1+1:Int)=0 from rfl,Int.add_zero];exact hb))⟩
section
variable {tg:aF}{l:List fu}{env:fu}{lk:List Nat}{ρ:eO}{H:Hp}{s:aV}{loc cR:j8}{A:bQ}{Q:PQ aB}{E:PQ aB}{h₀:bL}
theorem FN (hh:A.handled=aC)(S:SR Γ ρ H s)(F:FR Γ l ρ s.heap env loc cR)(lv:O7 h₀ s.heap){N tk:Nat}(hsm:lq a b c=az)(hN:Builtin.Range.rangeSize a b c=N)(hv:vs=(cD N).map λ(i:Nat)=>V.int (a+i*c))
  (P:N6 Γ l lk ρ s (.ok (vs, [])) H (Bp Γ k A tg l env lk h₀) Q E):aO Γ.M A (uy (.ref s.heap.objs.size)) Q E {s with heap:=s.heap.push {cls:= .type "range",data:= .fields #[.int a t,.int b u,.int c v]},toks:=tk}:=by
 have kp:=K7 s.heap {cls:= .type "range",data:= .fields #[.int a t,.int b u,.int c v]};have dB:Ext Γ (m7 l) (Wr Γ lk ρ) ρ s ρ {s with heap:=s.heap.push {cls:= .type "range",data:= .fields #[.int a t,.int b u,.int c v]},toks:=tk}:=Ext.keeps kp;refine wpAny_pyIter_range (bj _ rfl) hsm ?_;refine aD hN ?_;refine ai9 (S.keeps kp) (F.ext dB) (lv.trans dB.live) ((xq.range hh _ a c N).len (by simp only[hv,aJ,oN])) ?_ (λb hb=> .inl (aP.mp hb)) (λi w x hw hx=> ?_) rfl (P.ext dB)
 ·show(Heap.push _ _).get? _=aa _
  rw[bj _ rfl];simp
 ·obtain⟨tk,rfl⟩:=hw
  rw[hv,eV]at hx;obtain⟨j,hj,rfl⟩:=af9 hx;obtain⟨h1,h2⟩:=aL.mp hj;rw[List.getElem_range]at h2;subst h2;exact .mk tk
theorem ahp (hh:A.handled=aC)(S:SR Γ ρ H s)(F:FR Γ l ρ s.heap env loc cR)(lv:O7 h₀ s.heap)(hu:J9 ns us)(hs:(ns.all λi=>small (4*i))=az):
  n8 Γ l lk ρ s (opt (a6p ns) λl=>ok (l, []) H) (λQ E=>aO Γ.M A (call (.type "range") us []) (λx aU=>aO Γ.M A (uy x) Q E aU) E s) (Bp Γ k A tg l env lk h₀):= .opt λvs e=> .ok λQ E P=>by
 cases hu with
 | nil=>exact p7 e
 | cons i t ns us h=>
  have n1:=IK (d7 hs);cases h with
  | nil=>
   obtain⟨o1,o2⟩:=aqp (a:=0) ⟨by decide,by decide⟩ n1;exact call_range_1 (FN hh S F lv o1 o2 (by refine nF (aq e) ?_;delta upV;simp) P)
  | cons j t' ns us h=>
   have n2:=IK (d7 (j9 hs));cases h with
   | nil=>
    obtain⟨o1,o2⟩:=aqp n1 n2;exact call_range_2 (FN hh S F lv o1 o2 (by refine nF (aq e) ?_;delta upV;simp) P)
   | cons c t'' ns us h=>
    cases h with
    | nil=>
     refine I5 e λhc e=> ?_;obtain rfl:c= -1:=fH hc;obtain⟨o1,o2⟩:=aho n1 n2;exact call_range_3 (by decide) (FN hh S F lv o1 o2 (by refine nF (aq e) ?_;exact gU λi U=>congrArg V.int (by lia)) P) (.inl (by delta Builtin.divisionGoesByPylong;rw[Ho];exact .inl (by decide)))
    | cons d t ns us h=>exact p7 e
end
theorem VV (G:W9 Γ)(ih:O8 Γ n m k)(hk:k ("range":aM)=aa .globalImplicit)(hn:M8 args=az):Dk Γ n k tg (.Call (.Name ("range":aM) np) args [] p) (.xU (args.map (cE m k))):=λenv l A φ H ρ s O a S F=>by refine n8.of (Dl (p:=([], [])) ih O a hn rfl S F λvs VN cM aZ aU us lZ cU cg je hkv=> .opt λns e=> .fV λhs=>(ahp a.hand cg (F.ext cU) cU.live (as3 e je.1) hs).of λQ E w=>⟨keep_pure rfl,w⟩) λQ E w=>mq (dN (W8 O hk G.xU S w) (by decide))
end
section
variable {Γ:Cx}{n m:Nat}{k:Kd}
section
variable {α:Type}{r r':List (aM×α)}{x y:aM}{v:α}
theorem z6:((x,v)::r).lookup x=aa v:=by simp only[lN,beq_self_eq_true]
theorem w5 (h:x≠y):((y,v)::r).lookup x=r.lookup x:=by simp only[lN,G9 h]
theorem Nk:∀{r:List (aM×α)},∀J:x∉r.map (·.1),r.lookup x=aC:=by
 intro zz
 induction zz with
 | nil=>
  intro _;exact rfl
 | cons hd0 r ih=>
  obtain⟨y,v⟩:=hd0;intro h;exact(w5 λq=>h (aY.mpr (.inl q))).trans (ih λq=>h (.tail _ q))
theorem az0:∀{r:List (aM×α)}{v:α},∀J:r.lookup x=aa v,x∈r.map (·.1):=by
 intro zz
 induction zz with
 | nil=>
  intro _ e;exact iu e
 | cons hd0 r ih=>
  obtain⟨y,w⟩:=hd0;intro v e;exact if q:x=y then aY.mpr (.inl q) else .tail _ (ih ((w5 q).symm.trans e))
theorem aH1:∀{r:List (aM×α)},∀J:r.lookup x=aC,(r++r').lookup x=r'.lookup x:=by
 intro zz
 induction zz with
 | nil=>
  intro _;exact rfl
 | cons hd0 r ih=>
  obtain⟨y,v⟩:=hd0;intro h;exact if q:x=y then Sw ((q▸z6:((y,v)::r).lookup x=aa v).symm.trans h) else(w5 q).trans (ih ((w5 q).symm.trans h))
theorem aS9:∀{r:List (aM×α)},∀J:r.lookup x=aa v,(r++r').lookup x=aa v:=by
 intro zz
 induction zz with
 | nil=>
  intro h;exact iu h
 | cons hd0 r ih=>
  obtain⟨y,w⟩:=hd0;intro h;exact if q:x=y then(q▸z6:((y,w)::(r++r')).lookup x=aa w).trans ((q▸z6:((y,w)::r).lookup x=aa w).symm.trans h) else(w5 q).trans (ih ((w5 q).symm.trans h))
theorem Wa:∀{r:List (aM×α)},∀J:(r.map (·.1)).Nodup,∀x,r.reverse.lookup x=r.lookup x:=by
 intro zz
 induction zz with
 | nil=>
  intro _ _;exact rfl
 | cons hd0 r ih=>
  obtain⟨y,v⟩:=hd0;intro nd x;refine aD xO ?_;by_cases q:x=y
  ·subst q
   exact(aH1 ((ih (gF.mp nd).2 x).trans (Nk (gF.mp nd).1))).trans (z6.trans z6.symm)
  ·refine aD (w5 q) (nF (ih (gF.mp nd).2 x) ?_)
   cases h:r.reverse.lookup x with
   | none=>exact(aH1 h).trans (w5 q)
   | some w=>exact aS9 h
theorem V9 (f:aM->Bool):∀{b:List (aM×α)}{x:aM}{v:α},∀J:(b.filter λp=>f p.1).lookup x=aa v,f x=az∧b.lookup x=aa v:=by
 intro zz
 induction zz with
 | nil=>
  intro _ _ e;exact iu e
 | cons hd0 r ih=>
  obtain⟨y,w⟩:=hd0;intro x v e;by_cases h:f y=az
  ·rw[show((y,w)::r).filter (λp=>f p.1)=_ from fY h]at e
   by_cases q:x=y
   ·subst q;exact⟨h,z6.trans (z6.symm.trans e)⟩
   ·rw[w5 q]at e⊢;exact ih e
  ·rw[show((y,w)::r).filter (λp=>f p.1)=_ from eQ h]at e
   have i:=ih e;exact⟨i.1,(w5 λq=>h ((congrArg (λz=>f z=az) q).mp i.1)).trans i.2⟩
end
inductive aqq (x:aM)(P:aB->Prop)(Q:List (aM×aB)->Prop):List (aM×aB)->Prop
 | mk (u:aB) (bs:List (aM×aB)) (hu:P u) (hs:Q bs):aqq x P Q ((x,u)::bs)
noncomputable def BR (Γ:Cx)(ρ:eO)(h:bL):j8->List (aM×aB)->Prop
 | []=>(·= [])
 | (x,v)::r=>aqq x (VR Γ ρ h v) (BR Γ ρ h r)
section
variable {ρ fj:eO}{h h' jj:bL}
theorem BR.mono (g:H9 ρ jj fj)(im:∀b o,∀J:h.get? b=aa o,∀J:¬K3 o,h'.get? b=aa o):∀{b:j8}{bs:List (aM×aB)},∀J:BR Γ ρ h b bs,BR Γ fj h' b bs:=by
 intro zz
 induction zz with
 | nil=>
  intro _ x;exact x
 | cons hd0 r ih=>
  obtain⟨y,v⟩:=hd0;rintro _ ⟨u,bs,hv,hs⟩;exact .mk u bs (hv.mono g im) (ih hs)
theorem BR.names:∀{b:j8}{bs:List (aM×aB)},∀J:BR Γ ρ h b bs,bs.map (·.1)=b.map (·.1):=by
 intro zz
 induction zz with
 | nil=>
  intro _ x;exact congrArg (List.map (·.1)) x
 | cons hd0 r ih=>
  obtain⟨y,v⟩:=hd0;rintro _ ⟨u,bs,hv,hs⟩;exact congrArg (y::·) (ih hs)
inductive av0 (Γ:Cx)(ρ:eO)(h:bL)(v:V)(bs:List (aM×aB))(x:aM):Prop
 | mk (u:aB) (hu:bs.lookup x=aa u) (hv:VR Γ ρ h v u):av0 Γ ρ h v bs x
theorem BR.look:∀{b:j8}{bs:List (aM×aB)},∀J:BR Γ ρ h b bs,∀{x:aM}{v:V},∀J:b.lookup x=aa v,av0 Γ ρ h v bs x:=by
 intro zz
 induction zz with
 | nil=>
  intro _ _ x v e;exact iu e
 | cons hd0 r ih=>
  obtain⟨y,w⟩:=hd0;rintro _ ⟨u,bs,hv,hs⟩ x v e;by_cases q:x=y
  ·subst q
   exact⟨u,z6,aq (z6.symm.trans e)▸hv⟩
  ·obtain⟨u',hu,hr⟩:=ih hs ((w5 q).symm.trans e)
   exact⟨u',(w5 q).trans hu,hr⟩
theorem BR.append:∀{b c:j8}{bs cs:List (aM×aB)},∀J:BR Γ ρ h b bs,∀J:BR Γ ρ h c cs,BR Γ ρ h (b++c) (bs++cs):=by
 intro zz
 induction zz with
 | nil=>
  intro _ _ _ x y;refine aD x ?_;exact y
 | cons hd0 r ih=>
  obtain⟨z,v⟩:=hd0;rintro _ _ _ ⟨u,bs,hv,hs⟩ y;exact .mk u _ hv (ih hs y)
theorem BR.zip:∀{xs:List aM}{vs:List V}{us:List aB},∀J:gA Γ ρ h vs us,BR Γ ρ h (xs.zip vs) (xs.zip us)
 | [],_,_,_=>rfl
 | x::xs, [],us,q=>by refine aD (gA.nil q) ?_;rfl
 | x::xs,v::vs,_,.mk u us hv hs=> .mk u _ hv (BR.zip hs)
end
inductive IV (Γ:Cx)(f:Fn)(fd:jC):Prop
 | own (hc:fd.closure= []) (nf:∀x,kdOf fd.scope x≠aa .free):IV Γ f fd
 | cls (hc:f.cells= []) (nc:∀x∈fd.scope.names,x.2≠ .cell) (fr:∀x,∀J:kdOf fd.scope x=aa .free,x=("__class__":aM)) (c:aW) (o:oH) (v:Option aB) (wk:fd.closure= [(("__class__":aM),c)]) (hco:Γ.g0.get? c=aa o) (RC:o.data= .cell v) (hct:c∉Γ.tabs):IV Γ f fd
noncomputable abbrev Fn.names (f:Fn):List aM:=f.params++f.eY++f.kwarg.toList
def an1 (f:Fn)(us:List aB)(r:List (aM×aB))(s:aV)(Q:PQ (List (aM×aB))):Prop:=match f.kwarg with
 | none=>Q (f.params.zip us++r) s
 | some kx=>Q (f.params.zip us++r++ [(kx,.ref s.heap.objs.size)]) {s with heap:=s.heap.push gk}
structure FrmOk (Γ:Cx)(f:Fn)(fd:jC):Prop where
 kind:fd.scope.kind= .function
 glob:fd.globals=bW
 blt:fd.builtins=dD
 kinds:∀x∈f.names,kdOf fd.scope x=aa (if f.cells.contains x then .cell else .local)
 mode:IV Γ f fd
 nodup:f.names.Nodup
 nos:("errors":aM)∉f.names
structure FnAt (Γ:Cx)(a:aW)(f:Fn)(o:oH)(fd:jC)(body:List pM)(dU:List (aM×aB)):Prop extends FrmOk Γ f fd where
 obj:Γ.g0.get? a=aa o
 data:o.data= .func fd
 co:fd.scope.isCoroutine=aG
 gen:fd.scope.isGenerator=aG
 stmts:fd.body= .stmts body
 code:Γ.g0.CodeRec fd.code fd.qualname
 noe:kdOf fd.scope ("errors":aM)≠aa .local
 RB:∀x v,∀J:f.dflt.lookup x=aa v,∀ρ h,av0 Γ ρ h v dU x
 bind:∀(np:Nat)(kn:List aM),∀J:(np,kn)∈f.shapes,∀us lZ:List aB,∀J:us.length=np,∀J:lZ.length=kn.length,∀r',∀J:asks (given kn lZ dU) (f.params.drop np++f.eY)=aa r',∀(M:yw)(A:bQ)(Q:PQ (List (aM×aB)))(E:PQ aB)(s:aV),∀J:(∀b o,∀J:Γ.g0.get? b=aa o,s.heap.get? b=aa o),∀J:an1 f us r' s Q,aO M A (wZ fd ⟨us,kn.zip lZ⟩) Q E s
 tr:∃kf,f.body=TQ kf (kdOf fd.scope) body
theorem aM0:∀{kn:List aM}{ks:List V}{lZ:List aB},∀J:lZ.length=ks.length,∀{x:aM},∀J:(kn.zip ks).lookup x=aC,(kn.zip lZ).lookup x=aC
 | [],_,_,_,_,_=>rfl
 | a::kn,_, [],_,_,_=>by refine aD Sh ?_;rfl
 | a::kn, [],_::_,e,x,_=>nxY e
 | a::kn,v::ks,u::us,e,x,h=>by
  by_cases q:x=a
  ·subst q;exact Sw (z6.symm.trans h)
  ·exact(w5 q).trans (aM0 (qi e) ((w5 q).symm.trans h))
theorem Nm (hk:gA Γ ρ h ks lZ)(hd:∀x v,∀J:df.lookup x=aa v,av0 Γ ρ h v dU x)(e:given kn ks df x=aa v):∃u,given kn lZ dU x=aa u∧VR Γ ρ h v u:=by
 unfold given at e⊢;cases q:(kn.zip ks).lookup x with
 | none=>
  replace e:=q▸e;obtain⟨u,hu,hr⟩:=hd x v e;exact⟨u,by rw[aM0 hk.length q];exact hu,hr⟩
 | some w=>
  rw[q]at e;obtain⟨u,hu,hr⟩:=(BR.zip hk).look q;exact⟨u,by rw[hu];rfl,aq e▸hr⟩
inductive a76 (Γ:Cx)(ρ:eO)(h:bL)(g:aM->Option aB)(xs:List aM)(r:j8):Prop
 | mk (r':List (aM×aB)) (e:asks g xs=aa r') (b:BR Γ ρ h r r') (nm:r.map (·.1)=xs):a76 Γ ρ h g xs r
theorem Wb {f:aM->Option V}{g:aM->Option aB}(hg:∀x v,∀J:f x=aa v,∃u,g x=aa u∧VR Γ ρ h v u):∀{xs:List aM}{r:j8},∀J:asks f xs=aa r,a76 Γ ρ h g xs r:=by
 intro zz
 induction zz with
 | nil=>
  intro r e;exact aq e▸⟨[],rfl,rfl,rfl⟩
 | cons x xs ih=>
  intro r e;refine g8 e λv hv e=> ?_;refine g8 e λq hq e=> ?_;refine lO (hg x v hv) λu hu hr=> ?_;obtain⟨r',h1,h2,h3⟩:=ih hq;obtain rfl:=aq e;exact⟨(x,u)::r',by rw[asks,hu,opt,h1];rfl,.mk u r' hr h2,congrArg (x::·) h3⟩
theorem aK0:∀(names:List (aM×lD))(n:Nat)(acc:List (aM×aW)),∀J:(acc.lookup x).isSome,((xP n names acc).lookup x).isSome:=by
 intro zz
 induction zz with
 | nil=>
  intro _ _ h;exact h
 | cons hd0 r ih=>
  obtain⟨y,kd⟩:=hd0;intro n acc h;unfold xP
  split
  ·refine ih _ _ ?_
   by_cases q:x=y
   ·subst q;refine aD z6 ?_;rfl
   ·refine aD (w5 q) ?_;exact h
  ·exact ih _ _ h
theorem ah8:∀(names:List (aM×lD))(n:Nat)(acc:List (aM×aW)),∀J:names.lookup x=aa .cell,((xP n names acc).lookup x).isSome:=by
 intro zz
 induction zz with
 | nil=>
  intro _ _ h;exact iu h
 | cons hd0 r ih=>
  obtain⟨y,kd⟩:=hd0;intro n acc h;unfold xP;by_cases q:x=y
  ·subst q
   obtain rfl:=aq (z6.symm.trans h);exact aD (bG (beq_self_eq_true _)) (aK0 r _ _ (by refine aD z6 ?_;rfl))
  ·rw[w5 q]at h
   split
   ·exact ih _ _ h
   ·exact ih _ _ h
theorem Wc {kindOf:aM->Option lD}:∀{bs:List (aM×aB)}{m:aM->Option aB}{x:aM}{u:aB},∀J:(bs.map (·.1)).Nodup,∀J:kindOf x=aa .local,∀J:bs.lookup x=aa u,bindL kindOf bs m x=aa u:=by
 intro zz
 induction zz with
 | nil=>
  intro _ _ _ _ _ e;exact iu e
 | cons hd0 r ih=>
  obtain⟨y,v⟩:=hd0;intro m x u nd hk e;by_cases q:x=y
  ·subst q
   have:∀{bs:List (aM×aB)}{m:aM->Option aB},∀J:x∉bs.map (·.1),bindL kindOf bs m x=m x:=λ{bs}=>by
    induction bs with
    | nil=>exact λU=>rfl
    | cons p r ih=>
     intro m h;simp only[bindL,ih λq=>h (.tail _ q)]
     split
     ·exact bu λq=>h (aY.mpr (.inl q))
     ·rfl
   rw[bindL,this (gF.mp nd).1,bG hk,bG rfl];exact z6.symm.trans e
  ·simp only[bindL]
   exact ih (gF.mp nd).2 hk ((w5 q).symm.trans e)
theorem Wd {kindOf:aM->Option lD}:∀{bs:List (aM×aB)}{m:aM->Option aB}{x:aM}{u:aB},∀J:(bs.map (·.1)).Nodup,∀J:kindOf x≠aa .local,∀J:bs.lookup x=aa u,bindC kindOf bs m x=aa u:=by
 intro zz
 induction zz with
 | nil=>
  intro _ _ _ _ _ e;exact iu e
 | cons hd0 r ih=>
  obtain⟨y,v⟩:=hd0;intro m x u nd hk e;by_cases q:x=y
  ·subst q
   have:∀{bs:List (aM×aB)}{m:aM->Option aB},∀J:x∉bs.map (·.1),bindC kindOf bs m x=m x:=λ{bs}=>by
    induction bs with
    | nil=>exact λU=>rfl
    | cons p r ih=>
     intro m h;simp only[bindC,ih λq=>h (.tail _ q)]
     split
     ·rfl
     ·exact bu λq=>h (aY.mpr (.inl q))
   rw[bindC,this (gF.mp nd).1,bu hk,bG rfl];exact z6.symm.trans e
  ·simp only[bindC]
   exact ih (gF.mp nd).2 hk ((w5 q).symm.trans e)
end
section
variable {Γ:Cx}{n m:Nat}{k:Kd}
structure AtF (a:aW)(fd:jC)(env:fu):Prop where
 func:env.func=aa a
 code:env.code=fd.code
 cls:∀c,∀J:fd.closure= [(("__class__":aM),c)],env.cells.lookup ("__class__":aM)=aa c
abbrev We (fd:jC)(h:bL)(env:fu):Prop:=∀c,∀J:(c=env.locals∨∃x,kdOf fd.scope x=aa .cell∧env.cells.lookup x=aa c),h.get? c=aC
structure Made (Γ:Cx)(a:aW)(f:Fn)(fd:jC)(l:List fu)(ρ:eO)(H:Hp)(s:aV)(b:j8)(env:fu)(bO:aV):Prop where
 O:v9 Γ (kdOf fd.scope) env
 W:Own (kdOf fd.scope) env (env::l)
 T:AtF a fd env
 S:SR Γ ρ H bO
 F:FR Γ (env::l) ρ bO.heap env (b.filter λp=> !f.cells.contains p.1) (b.filter λp=>f.cells.contains p.1)
 x:∀W:aW->Prop,Ext Γ (m7 l) W ρ s ρ bO
 new:We fd s.heap env
structure a77 (Γ:Cx)(ρ:eO)(h:bL)(L:aW)(x:aM)(c:aW):Prop where
 is:IsC h c
 obj:c∉ρ.flatten
 tab:c∉Γ.tabs
 base:∀J:x≠("__class__":aM),Γ.g0.get? c=aC
 ne:c≠L
inductive aqr (h:bL)(cs:List (aM×aW))(x:aM)(u:aB):Prop
 | mk (c:aW) (hc:cs.lookup x=aa c) (ho:h.IsCell c (aa u)):aqr h cs x u
section
variable {a:aW}{f:Fn}{fd:jC}{A:bQ}{l:List fu}{ρ:eO}{H:Hp}{s bO:aV}{Q:PQ fu}{E:PQ aB}{b:j8}{bs:List (aM×aB)}{env:fu}
theorem FrmOk.loc (F:FrmOk Γ f fd)(hb:bs.map (·.1)=f.names)(h:f.cells.contains x=aG)(e:bs.lookup x=aa u):kdOf fd.scope x=aa .local:=by refine aD (F.kinds x (hb▸az0 e)) (aD h ?_);rfl
theorem FrmOk.cR (F:FrmOk Γ f fd)(hb:bs.map (·.1)=f.names)(h:f.cells.contains x=az)(e:bs.lookup x=aa u):kdOf fd.scope x=aa .cell:=by refine aD (F.kinds x (hb▸az0 e)) (aD h ?_);rfl
theorem aH2 (F:FrmOk Γ f fd)(S:SR Γ ρ H s)(K:I7 Γ l ρ s.heap)(B:BR Γ ρ s.heap b bs)(hb:b.map (·.1)=f.names)(kp:∀b o,∀J:s.heap.get? b=aa o,bO.heap.get? b=aa o)(hk:env.scope.kind= .function)(hf:env.frame=aa env.locals)(fL:s.heap.get? env.locals=aC)
  {m:aM->Option aB} (ns:bO.heap.Ns env.locals m) (hl:∀x u,∀J:f.cells.contains x=aG,∀J:bs.lookup x=aa u,m x=aa u) (hc:∀x u,∀J:f.cells.contains x=az,∀J:bs.lookup x=aa u,aqr bO.heap env.cells x u)
  (cf:∀x c,∀J:env.cells.lookup x=aa c,a77 Γ ρ bO.heap env.locals x c) (ap:∀x y c,∀J:env.cells.lookup x=aa c,∀J:env.cells.lookup y=aa c,x=y):
  FR Γ (env::l) ρ bO.heap env (b.filter λp=> !f.cells.contains p.1) (b.filter λp=>f.cells.contains p.1):=by
 have B':=B.mono (H9.refl ρ s.heap) λb o e U=>kp b o e;have fr:=K4 S fL;refine⟨λe he=> ?_,⟨m,ns,λy v e=> ?_⟩,λy v e=> ?_,fr.obj,λy c e=>(cf y c e).obj,fr.tab,λy c e=>(cf y c e).tab,fr.base,λy c e=>(cf y c e).base,λy c e=>(cf y c e).is,ap,λy c e=>(cf y c e).ne,λh=> ?_⟩
 ·rcases aY.mp he with rfl | he
  ·obtain⟨o,es,n,ho,hd,_⟩:=ns
   exact⟨_,o,es,n,by refine aD hk ?_;decide,hf,ho,hd,fr.obj,fr.tab,fr.base⟩
  ·obtain⟨L,o,es,n,h1,h2,h3,h4,h5,h6,h7⟩:=K e he
   exact⟨L,o,es,n,h1,h2,kp L o h3,h4,h5,h6,h7⟩
 ·have q:=V9 (λz=> !f.cells.contains z) e
  obtain⟨u,hu,hv⟩:=B'.look q.2;exact⟨u,hl y u (Bool.not_eq_true' _▸q.1) hu,hv⟩
 ·have q:=V9 (λz=>f.cells.contains z) e
  obtain⟨u,hu,hv⟩:=B'.look q.2;obtain⟨c,h1,h2⟩:=hc y u q.1 hu;exact⟨c,u,h1,h2,hv⟩
 ·obtain⟨v,e⟩:=bZ.mp h
  exact absurd (hb▸az0 (V9 (λz=> !f.cells.contains z) e).2) F.nos
abbrev Dm (Γ:Cx)(a:aW)(fd:jC)(s:aV):Prop:=∀J:kdOf fd.scope ("errors":aM)=aa .local,fd.closure= []∧Γ.vd (callEnvC fd s.heap.objs.size a)
theorem Np (F:FrmOk Γ f fd)(S:SR Γ ρ H s)(K:I7 Γ l ρ s.heap)(B:BR Γ ρ s.heap b bs)(hb:b.map (·.1)=f.names)(lw:Dm Γ a fd s)(wk:fd.closure= [])(hnf:∀x,kdOf fd.scope x≠aa .free)
  (hQ:∀env bO,∀J:Made Γ a f fd l ρ H s b env bO,Q env bO):aO M A (qd fd.scope fd.globals fd.closure bs (fd.qualname++".<locals>.") (aa a) fd.code aC fd.builtins) Q E s:=by
 have hbs:=B.names.trans hb;refine aD wk ?_;refine wpAny_newFunctionEnv_cells F.kind (λp hp=> ?_) λenv he bO I=> ?_
 ·have h:=(λp hp=>F.kinds p.1 (hbs▸dq.mpr ⟨p,hp,rfl⟩)) p hp
  cases q:f.cells.contains p.1 with
  | false=>rw[q]at h;exact .inl h
  | true=>rw[q]at h;exact .inr ⟨h,ah8 _ _ _ h⟩
 ·obtain rfl:env=callEnvC fd s.heap.objs.size a:=he
  obtain⟨h',tk,rfl⟩:=I.toInCall.same;have fC:∀x c,∀J:(callEnvC fd s.heap.objs.size a).cells.lookup x=aa c,s.heap.get? c=aC:=λx c hc=>(λc hc=>fZ hc) _ (bR (I.above x c (mem_of_lookup hc)));refine hQ _ _ ⟨⟨F.kind,F.glob,F.blt,λx hx=>hx,λx hx=>⟨hx,ah8 _ _ _ hx⟩,λx hx=>absurd hx (hnf x),λx hx=>hx,λhx=>(lw hx).2⟩,⟨λx=>rfl,⟨l,rfl⟩,rfl⟩,⟨rfl,rfl,λc e=>nxC (wk.symm.trans e)⟩,S.keeps I.toInCall.keep, ?_,λU=>Ext.keeps I.toInCall.keep,λc hc=>hc.elim (λq=>q▸(λc hc=>fZ hc) _ (aN _)) (by rintro⟨x,_,q⟩;exact fC x c q)⟩;refine aH2 F S K B hb I.toInCall.keep F.kind rfl ((λc hc=>fZ hc) _ (aN _)) I.toInCall.ns (λx u h e=>Wc (hbs▸F.nodup) (F.loc hbs h e) e) (λx u h e=> ?_) (λx c e=> ?_) λx y c e1 e2=>name_of_addr I.apart (mem_of_lookup e1) (mem_of_lookup e2)
  ·have hk:=F.cR hbs h e
   obtain⟨c,hc⟩:=bZ.mp (ah8 fd.scope.names (s.heap.objs.size+1) [] hk);exact⟨c,hc,Wd (hbs▸F.nodup) (show kdOf fd.scope x≠aa .local by refine aD hk ?_;decide) e▸I.cell x c hc⟩
  ·have fr:=K4 S (fC x c e)
   exact lO (I.cell x c e) λo' uh Dg=>⟨⟨o',_,uh,Dg⟩,fr.obj,fr.tab,λU=>fr.base,λq=>eX _ (q▸I.above x c (mem_of_lookup e))⟩
theorem Nq (F:FrmOk Γ f fd)(S:SR Γ ρ H s)(K:I7 Γ l ρ s.heap)(B:BR Γ ρ s.heap b bs)(hb:b.map (·.1)=f.names)(lw:Dm Γ a fd s)(hfc:f.cells= [])(hnc:∀x∈fd.scope.names,x.2≠ .cell)(hfr:∀x,∀J:kdOf fd.scope x=aa .free,x=("__class__":aM))
  (wk:fd.closure= [(("__class__":aM),c)]) (hco:Γ.g0.get? c=aa oc) (RC:oc.data= .cell vc) (hct:c∉Γ.tabs)
  (hQ:∀env bO,∀J:Made Γ a f fd l ρ H s b env bO,Q env bO):aO M A (qd fd.scope fd.globals fd.closure bs (fd.qualname++".<locals>.") (aa a) fd.code aC fd.builtins) Q E s:=by
 have nce:∀x,f.cells.contains x=aG:=λx=>by refine aD hfc ?_;rfl
 have nc:∀x,kdOf fd.scope x≠aa .cell:=λx q=>hnc _ (mem_of_lookup q) rfl;have cc:∀y c',∀J: [(("__class__":aM),c)].lookup y=aa c',y="__class__" ∧c'=c:=λy c' e=>
  if q:y="__class__" then⟨q,aq (e.symm.trans (q▸z6))⟩ else iu ((w5 q).symm.trans e)
 refine aD wk ?_;refine qR hnc (λp hp=> ?_) (λh' hn sb=> ?_) F.kind
 ·exact(F.kinds p.1 ((B.names.trans hb)▸dq.mpr ⟨p,hp,rfl⟩)).trans (by rw[nce];rfl)
 ·have kp:∀b o,∀J:s.heap.get? b=aa o,h'.get? b=aa o:=λb o e=>(sb.2 b (dh (cA e))).trans (aK _ e)
  refine hQ _ _ ⟨⟨F.kind,F.glob,F.blt,λx hx=>hx,λx hx=>absurd hx (nc x),λx hx=>⟨.inr hx,by refine aD (hfr x hx) ?_;rfl⟩,λx hx=>hx,λhx=>nxC ((lw hx).1.symm.trans wk)⟩,⟨λx=>rfl,⟨l,rfl⟩,rfl⟩,⟨rfl,rfl,λc' e=>by replace e:=wk▸e;cases e;rfl⟩,S.keeps kp, ?_,λU=>Ext.keeps kp,λc' hc=>hc.elim (λq=>q▸(J0 _)) (by rintro⟨x,q,_⟩;exact absurd q (nc x))⟩;refine aH2 F S K B hb kp F.kind rfl (J0 _) hn (λx u h e=>(Wa ((B.names.trans hb)▸F.nodup) x).trans e) (λx u h e=>rU ((nce x).symm.trans h)) (λx c' e=> ?_) λx y c' e1 e2=>(cc x c' e1).1.trans (cc y c' e2).1.symm;obtain⟨rfl,rfl⟩:=cc x c' e;exact⟨⟨oc,vc,kp _ _ (S.base _ _ hco),RC⟩,λq=>(iu ((S.apart c' q).symm.trans hco)),hct,λq=>absurd rfl q,λq=>(Sw ((S.base _ _ hco).symm.trans ((congrArg s.heap.get? q).trans (J0 _))))⟩
theorem ap5 (F:FrmOk Γ f fd)(S:SR Γ ρ H s)(K:I7 Γ l ρ s.heap)(B:BR Γ ρ s.heap b bs)(hb:b.map (·.1)=f.names)(lw:Dm Γ a fd s)(hQ:∀env bO,∀J:Made Γ a f fd l ρ H s b env bO,Q env bO):
  aO M A (qd fd.scope fd.globals fd.closure bs (fd.qualname++".<locals>.") (aa a) fd.code aC fd.builtins) Q E s:=by
 cases F.mode with
 | own hc nf=>exact Np F S K B hb lw hc nf hQ
 | cls hc nc fr c o v wk hco RC hct=>exact Nq F S K B hb lw hc nc fr wk hco RC hct hQ
end
end
section
section
variable {Γ:Cx}{ρ:eO}{h:bL}{m:Nat}
theorem aE5 {α:Type}{l:List α}{i:Nat}{a:α}(e:l[i]?=aa a)(hi:i<m):(l.take m)[i]?=aa a:=(sE hi).trans e
theorem VR.gc:∀{v:V}{u:aB},∀J:VR Γ ρ h v u,∀J:v.lt m=az,VR Γ (ρ.take m) h v u:=by
 intro v;refine V.rec (motive_1:=λv=>∀{u:aB},∀J:VR Γ ρ h v u,∀J:v.lt m=az,VR Γ (ρ.take m) h v u) (motive_2:=λl=>∀{us:List aB},∀J:gA Γ ρ h l us,∀J:V.qO m l=az,gA Γ (ρ.take m) h l us) (λx U=>x) (λU u x U=>x) (λU u x U=>x) (λU u x U=>x) ?_ ?_ (λU u x U=>x) (λU U u x U=>x) (λU u x U=>x) (λx U=>x) ?_ (λx U=>x) ?_ v
 ·rintro l ih _ ⟨a,vs,n,ht,hs⟩ c
  exact .mk a vs n ht (ih hs c)
 ·rintro i _ ⟨a,r,e⟩ c
  exact .mk a r (aE5 e (fH c))
 ·rintro i _ ⟨a,d,h1,h2⟩ c
  exact .mk a d (aE5 h1 (fH c)) h2
 ·rintro v l ih1 ih2 _ ⟨u,us,hv,hs⟩ c
  exact .mk u us (ih1 hv (d7 c)) (ih2 hs (j9 c))
theorem gA.gc:∀{l:List V}{us:List aB},∀J:gA Γ ρ h l us,∀J:V.qO m l=az,gA Γ (ρ.take m) h l us:=by
 intro l
 induction l with
 | nil=>exact λx U=>x
 | cons v l ih=>
  rintro _ ⟨u,us,hv,hs⟩ c;exact .mk u us (hv.gc (d7 c)) (ih hs (j9 c))
theorem DR.gc:∀{d:j8}{es:List iR},∀J:DR Γ ρ h d es,∀J:Rx m d=az,DR Γ (ρ.take m) h d es:=by
 intro zz
 induction zz with
 | nil=>
  intro _ x _;exact x
 | cons hd0 _ ih=>
  obtain⟨_,_⟩:=hd0;rintro _ ⟨hh,t,u,es,hv,hs⟩ c;exact .mk hh t u es (hv.gc (d7 c)) (ih hs (j9 c))
theorem OR.gc:∀{o:p6}{r:List aW},∀J:OR Γ ρ h o r,∀J:M4 m o=az,OR Γ (ρ.take m) h o r:=by
 intro o;cases o with
 | list l=>
  rintro _ ⟨a,xs,n,ha,hs,hz⟩ c;exact .mk a xs n ha (hs.gc c) hz
 | inst c d=>
  rintro _ ⟨a,dx,es,n,ha,hd,pJ,hi,hc⟩ c;exact .mk a dx es n ha hd (pJ.gc c) hi hc
 | acc c d l=>
  rintro _ ⟨a,dx,es,n,xs,q,ha,hd,pJ,hs,hz,hc,hi⟩ c;exact .mk a dx es n xs q ha hd (pJ.gc (d7 c)) (hs.gc (j9 c)) hz hc hi
 | vN=>exact λx U=>x
theorem a79:∀{H:Hp},∀J:M5 m H=az,∀J:o∈H,M4 m o=az:=by
 intro zz
 induction zz with
 | nil=>
  intro _ e;exact Cv e
 | cons _ _ ih=>
  intro c e;exact(aY.mp e).elim (λq=>q▸(d7 c)) (ih (j9 c))
theorem ah2 (hb:b∈(ρ.take m).flatten):b∈ρ.flatten:=lO (cG.mp hb) λr hr hb=>(cG.mpr ⟨r,Lg hr,hb⟩)
theorem SR.gc (S:SR Γ ρ (H++T) s)(c:M5 H.length H=az):SR Γ (ρ.take H.length) H s where
 len:=by refine aD iC (aD S.len (aD aA ?_));exact lu (aQ _ _)
 nodup:=by have nd:=S.nodup;rw[←pN H.length ρ,gh]at nd;exact(ade.mp nd).1
 objs:=λi o e=>by have hi:=(aL.mp e).1;refine lO (S.objs i o ((ig hi).trans e)) λr h1 h2=> ?_;exact⟨r,aE5 h1 hi,h2.gc (a79 c (aR e))⟩
 base:=S.base
 apart:=λb hb=>S.apart b (ah2 hb)
 lR:=λb hb=>S.lR b (ah2 hb)
 gens:=S.gens
 tabs:=S.tabs
theorem Wf:∀{d:j8},∀J:Rx m d=az,∀J:d.lookup x=aa v,v.lt m=az:=by
 intro zz
 induction zz with
 | nil=>
  intro _ e;exact iu e
 | cons hd0 d ih=>
  obtain⟨y,u⟩:=hd0;intro c e;by_cases q:x=y
  ·subst q
   obtain rfl:=aq (z6.symm.trans e);exact(d7 c)
  ·exact ih (j9 c) ((w5 q).symm.trans e)
theorem FR.gc (F:FR Γ l ρ h env loc cR)(f:aM->Bool)(hl:Rx m (loc.filter λp=>f p.1)=az)(hc:Rx m cR=az):FR Γ l (ρ.take m) h env (loc.filter λp=>f p.1) cR where
 uU:=λe he=>(F.uU e he).casesOn λL o es n hk hf ho hd hb ht hg=> .mk L o es n hk hf ho hd (λq=>hb (ah2 q)) ht hg
 ns:=F.ns.casesOn λmm hn hv=> .mk mm hn λx v e=>(hv x v (V9 f e).2).imp λu z=>⟨z.1,z.2.gc (Wf hl e)⟩
 cells:=λx v e=>(F.cells x v e).casesOn λc u h1 h2 h3=> .mk c u h1 h2 (h3.gc (Wf hc e))
 wI:=λq=>F.wI (ah2 q)
 xV:=λx c e q=>F.xV x c e (ah2 q)
 xW:=F.xW
 sY:=F.sY
 Bk:=F.Bk
 vQ:=F.vQ
 qe:=F.qe
 apart:=F.apart
 neL:=F.neL
 Mj:=λq=>by obtain⟨v,e⟩:=bZ.mp q;exact F.Mj (by refine aD ((V9 f e).2) ?_;rfl)
end
theorem Ext.gc {W:aW->Prop}(x:Ext Γ FS W ρ s fj s'):Ext Γ FS W ρ s ρ s':=⟨.refl _ _,x.vf,x.live,x.os,x.drawn⟩
theorem H9.take (g:H9 ρ h fj):fj.take ρ.length=ρ:=by obtain⟨τ,rfl,_⟩:=g.more;exact Az
theorem n8.Lz (hk:ρ.length=k)(h:n8 Γ l lk ρ s r W (v5 Γ)):n8 Γ l lk ρ s (Lz k r) W (v5 Γ):=λq H' ev Q E P=>by
 subst hk
 match r,ev,h with
 | some (.exc c m,H),ev,h=>exact h _ _ ev _ _ P
 | some (.ok v,H),ev,h=>
  have ev:(if H.length=ρ.length then aa (.ok v,H) else if (v.lt ρ.length&&M5 ρ.length (H.take ρ.length))=az then aa (.ok v,H.take ρ.length) else aa (.ok v,H))=aa (q,H'):=ev;by_cases h1:H.length=ρ.length
  ·rw[bG h1]at ev;exact h _ _ ev _ _ P
  ·rw[bu h1]at ev
   by_cases h2:(v.lt ρ.length&&M5 ρ.length (H.take ρ.length))=az
   ·replace ev:=(bG h2)▸ev
    refine h _ _ rfl Q E λfj s' u x S R=>(P.take ev:N6 Γ l lk ρ s (.ok v) (H.take ρ.length) (v5 Γ) Q E) ρ s' u x.gc ?_ (x.grow.take▸VR.gc R (d7 h2));have hl:(H.take ρ.length).length=ρ.length:=by rw[iC,lu];exact lO x.grow.more λτ e _=>(nF S.len (aD e (aD aA (aQ _ _))))
    have z:=(show SR Γ fj (H.take ρ.length++H.drop ρ.length) s' from by rw[pN];exact S).gc (by refine aD hl ?_;exact(j9 h2));rw[hl,x.grow.take]at z;exact z
   ·rw[bu h2]at ev;exact h _ _ ev _ _ P
end
section
variable {Γ:Cx}{n m:Nat}{k:Kd}
theorem jW.deeper (a:jW A l (n+1)):jW (A.deeper env) (env::l) n:=
 ⟨a.hand,uF a.frames,a.dep,a.uni (by decide)⟩
theorem jW.room (a:jW A l n):A.depth<mO:=bz (ak (aQ _ _) (aQ _ _)) a.depth
theorem Ext.call (x:Ext Γ (m7 l) (Wr Γ lk ρ) ρ s aZ aU)(y:Ext Γ (m7 (env::l)) (wK Γ k lk aZ env) aZ aU fj s')(hf:env.frame=aa env.locals)(new:∀c,∀J:(c=env.locals∨∃x,k x=aa .cell∧env.cells.lookup x=aa c),s.heap.get? c=aC):Ext Γ (m7 l) (Wr Γ lk ρ) ρ s fj s':=by have nw:∀b o,∀J:s.heap.get? b=aa o,∀J:¬Wr Γ lk ρ b,¬wK Γ k lk aZ env b:=λb o e nb q=>q.elim (λq=>(x.grow.wr q).elim nb λq=>(iu (q.symm.trans e))) λq=>(iu ((new b q).symm.trans e));have nf:∀b o,∀J:s.heap.get? b=aa o,∀J:b∉m7 l,b∉m7 (env::l):=λb o e nb q=>(aY.mp (an0 hf▸q)).elim (λq=>iu ((new b (.inl q)).symm.trans e)) nb;refine⟨x.grow.trans y.grow x.live,⟨λb o e nm=>y.vf.vH b o (x.vf.vH b o e nm) nm,λb o e w f=>y.vf.keep b o (x.vf.keep b o e w f) (nw b o e w) (nf b o e f),λb o e w f=> ?_⟩,x.live.trans y.live,y.os.trans x.os,y.drawn.trans x.drawn⟩;obtain⟨sl,TY⟩:=x.vf.fs b o e w f;exact(y.vf.fs b _ TY (nw b o e w) (an0 hf▸ .tail _ f)).elim λsl' afq=>⟨sl',afq⟩
inductive FnT (Γ:Cx)(a:aW)(f:Fn):Prop
 | mk (o:oH) (fd:jC) (body:List pM) (dU:List (aM×aB)) (at_:FnAt Γ a f o fd body dU):FnT Γ a f
structure av1 (Γ:Cx):Prop where
 fns:∀a f,∀J:Γ.G.fn a=aa f,FnT Γ a f
 qW:Γ.g0.NoLimit
def IW (Γ:Cx)(n:Nat)(a:aW)(fd:jC)(body:List pM):Prop:=∀(st:pM)(ms:n6),∀J:afo (kdOf fd.scope) st=aa ms,∀(env:fu)(l:List fu)(A:bQ)(lk:List Nat)(σ:St)(ρ:eO)(s:aV),∀J:v9 Γ (kdOf fd.scope) env,∀J:Own (kdOf fd.scope) env l,∀J:AtF a fd env,∀J:jW A l n,∀J:SR Γ ρ σ.hp s,∀J:FR Γ l ρ s.heap env σ.loc σ.cR,I3 Γ (kdOf fd.scope) l env lk ρ s (iY Γ.G n lk ms σ) (λQ E=>_root_.PySem.wpAt Γ.M A (.func body env) (adk st env) Q E s) (Ar Γ)
def Wg (Γ:Cx):Prop:=∀(n:Nat)(a:aW)(f:Fn)(o:oH)(fd:jC)(body:List pM)(dU:List (aM×aB)),∀J:FnAt Γ a f o fd body dU,∀J:Γ.G.fn a=aa f,IW Γ n a fd body
theorem aH3 {kf:Nat}{k:Kd}{st:pM}{sts:List pM}:∃ms,TQ kf k (st::sts)=ms::TQ kf k sts∧(ms=cS kf k st∨afo k st=aa ms):=by
 refine⟨_,rfl, ?_⟩;cases sts.isEmpty with
 | false=>exact .inl rfl
 | true=>
  cases afo k st with
  | none=>exact .inl rfl
  | some m=>exact .inr rfl
theorem Ja (Sp:IW Γ n a fd body)
  (ih:yK Γ n)
  (O:v9 Γ (kdOf fd.scope) env) (W:Own (kdOf fd.scope) env l) (T:AtF a fd env) (ao:jW A l n):
  ∀(sts:List pM){σ:St}{ρ:eO}{s:aV},∀J:SR Γ ρ σ.hp s,∀J:FR Γ l ρ s.heap env σ.loc σ.cR,I3 Γ (kdOf fd.scope) l env lk ρ s (G5 (iY Γ.G n lk) (TQ kf (kdOf fd.scope) sts) σ) (λQ E=>_root_.PySem.wpAt Γ.M A (.func body env) (execs sts env) Q E s) (Ar Γ)
 | [],_,_,_,S,F=> .ok λQ E P=>qt (rC (P.done S F rfl))
 | st::sts,σ,ρ,s,S,F=>by
  refine lO (aH3 (kf:=kf) (k:=kdOf fd.scope) (st:=st) (sts:=sts)) λms e h=> ?_;refine aD e ?_;have one:I3 Γ (kdOf fd.scope) l env lk ρ s (iY Γ.G n lk ms σ) (λQ E=>_root_.PySem.wpAt Γ.M A (.func body env) (adk st env) Q E s) (Ar Γ):=by
   rcases h with rfl | h
   ·exact(ih kf _ st env l A lk σ ρ s O W ao S F).of λQ E w=>qt w
   ·exact Sp st ms h env l A lk σ ρ s O W T ao S F
  refine one.Ml (λQ E w=>zc w) λfl gW aZ aU u x cg pK r=> ?_;cases fl with
  | next=>obtain rfl:u= .next:=r;exact Ja Sp ih O W T ao sts cg pK
  | brk=>obtain rfl:u= .brk:=r;exact .ok λQ E P=>P.done cg pK rfl
  | cont=>obtain rfl:u= .cont:=r;exact .ok λQ E P=>P.done cg pK rfl
  | ret v=>obtain⟨w,hv⟩:=r;exact .ok λQ E P=>P.done cg pK ⟨w,hv⟩
set_option backward.match.sparseCases true in
noncomputable abbrev aKh (f:Flow):aB:=match f with
 | .ret v=>v
 | _=> .none
theorem Nr (h:I3 Γ (kdOf fd.scope) (env::l) env lk aZ aU r awj (Ar Γ))(ao:jW A l (n+1))(hf:env.frame=aa env.locals)
  (x:Ext Γ (m7 l) (Wr Γ lk ρ) ρ s aZ aU) (new:We fd s.heap env):
  n8 Γ l lk ρ s (HJ r) (λQ E=>awj (λf s'=>Q (aKh f) s') (λe s'=>aO Γ.M (A.deeper env) (leaving env e) (λU s''=>E e s'') (λe' s''=>E e' s'') s')) (v5 Γ):=λq H' ev Q E P=>by
 match r,ev,h with
 | some (.ok (.ret v),σ),ev,h=>
  refine h _ _ rfl _ _ λfj s' u y S F r=> ?_;obtain⟨w,hv⟩:=r;exact(P.take ev:N6 Γ l lk ρ s (.ok v) σ.hp (v5 Γ) Q E) fj s' w (x.call y hf new) S hv
 | some (.ok .next,σ),ev,h=>
  refine h _ _ rfl _ _ λfj s' u y S F r=> ?_;obtain rfl:u= .next:=r;exact(P.take ev:N6 Γ l lk ρ s (.ok .none) σ.hp (v5 Γ) Q E) fj s' .none (x.call y hf new) S rfl
 | some (.ok .brk,σ),ev,_=>exact p7 ev
 | some (.ok .cont,σ),ev,_=>exact p7 ev
 | some (.exc c mm,σ),ev,h=>
  exact h _ _ rfl _ _ λfj s' e X y S F f=>(aG8 (uF ao.frames) hf F.uU (x.live.trans y.live) (f.less x.live) λpL X' f' st=>((P.take ev:N6 Γ l lk ρ s (.exc c mm) σ.hp (v5 Γ) Q E) fj {s' with heap:=pL} e X' (x.call (y.trans' (st.ext (W:=λU=>False) F.uU) λb q=>q.elim) hf new) (st.sr F.uU S) f'))
theorem aM1 (ih:yK Γ n)(Sp:IW Γ n a fd body)(nl:Γ.g0.NoLimit)(ao:jW A l (n+1))(F:FrmOk Γ f fd)
  (Bq:Ext Γ (m7 l) (Wr Γ lk iy) iy iI ρ s) (S:SR Γ ρ H s) (K:I7 Γ l ρ s.heap) (B:BR Γ ρ s.heap b bs) (hb:b.map (·.1)=f.names) (lw:Dm Γ a fd s):
  n8 Γ l lk iy iI (HJ (G5 (iY Γ.G n lk) (TQ kf (kdOf fd.scope) body) ⟨b.filter λp=> !f.cells.contains p.1,b.filter λp=>f.cells.contains p.1,H⟩))
   (λQ E=>aO M A.in1 (qd fd.scope fd.globals fd.closure bs (fd.qualname++".<locals>.") (aa a) fd.code aC fd.builtins) (λenv bO=>bO.heap.NoLimit∧gD Γ.M A (.func body env) (Ret Q E) bO) E s) (v5 Γ):=λq H' ev Q E P=>
 ap5 F S K B hb lw λenv bO D=>⟨nl.keeps D.S.base,ks_codeAny_funcAt
  (Nr (Ja Sp ih D.O D.W D.T ao.deeper body D.S D.F) ao D.W.frame (Bq.trans' (D.x (Wr Γ lk iy)) λb q=> .inl q) (λc hc=>Bq.live.none (D.new c hc)) q H' ev Q E P)⟩
theorem I7.grow (K:I7 Γ l ρ h)(kp:∀b o,∀J:h.get? b=aa o,h'.get? b=aa o)(x:H9 ρ h fj):I7 Γ l fj h':=λe he=>(K e he).sH λL o hb U e=>⟨⟨o,kp L o e,rfl⟩,λq=>by
 obtain⟨τ,rfl,hn⟩:=x.more;rw[gh,cX]at q;exact q.elim hb λq=>iu ((hn L q).symm.trans e)⟩
theorem Jb {α:Type}:∀(xs:List aM)(vs:List α),(xs.zip vs).map (·.1)=xs.take vs.length
 | [], []=>rfl
 | [],_::_=>rfl
 | x::xs, []=>rfl
 | x::xs,v::vs=>congrArg (x::·) (Jb xs vs)
inductive Wh (Γ:Cx)(ρ:eO)(H:Hp)(s:aV)(f:Fn)(us:List aB)(r':List (aM×aB))(b:j8)(cM:Hp):Prop
 | plain (hk:f.kwarg=aC) (hH:cM=H) (B:BR Γ ρ s.heap b (f.params.zip us++r')) (hb:b.map (·.1)=f.names):Wh Γ ρ H s f us r' b cM
 | kw (kx:aM) (hk:f.kwarg=aa kx) (hH:cM=H++ [.vN]) (B:BR Γ (ρ++ [[s.heap.objs.size]]) (s.heap.push gk) b (f.params.zip us++r'++ [(kx,.ref s.heap.objs.size)])) (hb:b.map (·.1)=f.names):Wh Γ ρ H s f us r' b cM
inductive aqt (Γ:Cx)(ρ:eO)(H:Hp)(s:aV)(f:Fn)(us lZ:List aB)(kn:List aM)(dU:List (aM×aB))(b:j8)(cM:Hp):Prop
 | mk (r':List (aM×aB)) (hs:(us.length,kn)∈f.shapes) (hl:lZ.length=kn.length) (e:asks (given kn lZ dU) (f.params.drop us.length++f.eY)=aa r') (x:Wh Γ ρ H s f us r' b cM):aqt Γ ρ H s f us lZ kn dU b cM
theorem Nt (hlen:ρ.length=H.length)(hd:∀x v,∀J:f.dflt.lookup x=aa v,av0 Γ ρ s.heap v dU x)(hv:gA Γ ρ s.heap vs us)(hk:gA Γ ρ s.heap ks lZ)(e:binds f vs kn ks H=aa p):
  aqt Γ ρ H s f us lZ kn dU p.1 p.2:=by
 refine I5 e λhc e=> ?_;refine g8 e λr hr e=> ?_;obtain⟨r',h1,B,nm⟩:=Wb (λx v=>Nm hk hd) hr;have hb:(f.params.zip vs++r).map (·.1)=f.params++f.eY:=by rw[cC,Jb,nm,←aH,pN]
 refine⟨r',by refine aD hv.length ?_;exact dj.mp (d7 hc),hk.length.trans (fG (j9 hc)),by refine aD hv.length ?_;exact h1, ?_⟩;cases hw:f.kwarg with
 | none=>
  replace e:=hw▸e;obtain rfl:=aq e;exact .plain hw rfl ((BR.zip hv).append B) (by simp only[hb,Fn.names,hw];exact(bh _).symm)
 | some kx=>
  rw[hw]at e;obtain rfl:=aq e;refine .kw kx hw rfl ((((BR.zip hv).append B).mono (ay6 ρ s.heap) λb o e U=>K7 s.heap gk b o e).append (.mk _ [] ?_ rfl)) (by simp only[cC,hb,Fn.names,hw];rfl);exact⟨_, [],ac2 hlen⟩
theorem aKi (G:av1 Γ)(Sp:Wg Γ)(ih:yK Γ n):Il Γ (n+1):=λl A lk a vs ks kn H ρ s us lZ ao S K hv hk=>
 .opt λf hf=> .opt λp hp=>by
  refine qm λY Z=> ?_;obtain⟨o,fd,body,dU,F⟩:=G.fns a f hf;obtain⟨kf,tr⟩:=F.tr;obtain⟨r',hs,hl,e,x⟩:=Nt S.len (λx v e=>F.RB x v e ρ s.heap) hv hk hp;refine Z ?_;have lw:∀s,Dm Γ a fd s:=λs q=>absurd q F.noe;refine aD tr ?_;refine n8.Lz S.len (n8.of ?_
   λQ E w=>vZ ao.room (S.base _ _ F.obj) F.data F.co F.gen F.stmts (F.code.keeps S.base) (F.bind us.length kn hs us lZ rfl hl r' e _ _ _ _ _ S.base w))
  delta an1;cases x with
  | plain hw hH B hb=>
   exact aD hw (aD hH (aM1 ih (Sp n a f o fd body dU F hf) G.qW ao F.toFrmOk .refl S K B hb (lw _)))
  | kw kx hw hH B hb=>
   refine aD hw (aD hH ?_);have kp:=K7 s.heap gk;exact aM1 ih (Sp n a f o fd body dU F hf) G.qW ao F.toFrmOk (Ext.rI kp (aj7 s.heap)) (S.rI kp (aj7 s.heap) (by simp) ⟨_,0,bj _ rfl⟩) (K.grow kp (ay6 ρ s.heap)) B hb (lw _)
end
section
variable {Γ:Cx}{n m:Nat}{k:Kd}
section
variable {A:bQ}{E:PQ aB}{s:aV}{env:fu}
theorem ac5 (h:gD M A (.call f ⟨args,kw⟩) (Ret Q E) s):aO M A (call f args kw) Q E s:=
 mR (Af h λr s' h=>by rcases r with e | (v | _ | _ | _)<;>first | exact h.elim | exact h)
theorem Jc (h1:args.any (·.1)=aG)(h2:Lq.all (·.1.isSome)=az)(h3:n<20):Hq n args Lq=az:=by
 delta Hq;have e1:(args.all λx=> !x.1)=az:=by rw[bF];intro x hx;have:=ado.mp h1 x hx;simpa using this
 refine aD e1 (aD h2 ?_);simp only[pQ,decide_eq_true_eq]
 split
 ·exact dw h3 (by decide)
 ·exact bA (Ri h3 _) (by decide)
theorem ah3 (hb:ab0 o=az)(hl:(ap.endLine==p.line)=az)
  (h1:(yX p (oF args env)).any (·.1)=aG) (h2:(sU p (mU ks env)).all (·.1.isSome)=az) (h3:args.length+ks.length<20)
  (h:aO Γ.M A (eval o env) (λov aU=>∀pl,aO Γ.M A (rZ ov name pl) (λfx bO=>aO Γ.M A (Ah p fx.1 fx.2 (yX p (oF args env)) (sU p (mU ks env))) Q E bO) E aU) E s):
  aO Γ.M A (eval (.Call (.Attribute o name ap) args ks p) env) Q E s:=by
 have e:eval (.Call (.Attribute o name ap) args ks p) env=(do
   let ov←lM o name env (eval o env)
   mj ap.atName
   sW o name ap p env ov (args.length+ks.length) (yX p (oF args env)) (sU p (mU ks env))):=by cases args<;>rfl
 rw[e,au8 hb];refine aj (bJ h (λov aU jj=>aj (dR ?_)) λU U z=>z);delta sW;refine aD (Jc h1 h2 h3) ?_;refine aj (bT ?_);refine oh (bG rfl) ?_;refine bJ (jj _) (λfx bO ni=> ?_) λU U z=>z;obtain⟨f,first⟩:=fx;exact aj (oh (bG ((kZ _ _).mpr (.inr hl))) (au ni))
theorem Nu (X:Γ.K.In s.heap)(I:InstAt s.heap x ox C od)
  (hga:gb Γ.K (.ref C) "__getattribute__"=aa (aa (.builtin ga))) (aKj:jO ga="object.__getattribute__") (hk:gb Γ.K (.ref C) "__getattr__"=aa aC) (hf:gb Γ.K (.ref C) name=aa (aa (.ref f)))
  (ht:uv Γ.K (.ref f)=aa (.type "function")) (hs:shadowIn od name=aa aG) (h:Q (.ref f, [.ref x]) s):aO M A (rZ (.ref x) name pl) Q E s:=by
 refine aj (aj (I.type.here ((fM X hga).here ?_)));dsimp only;refine aD aKj (aD (bu (by decide)) ?_);refine aj (aj (I.type.here ((fM X hk).here ?_)));refine aj (aj (I.type.here ((fM X hf).here (aj ((looks_typeIn X ht).here ?_)))));refine aD (bu (by decide+kernel)) ?_;refine aj (km I.at_ ?_);have hd:=I.dict;cases e:ox.dict with
 | none=>exact aj (jE (au h))
 | some dx=>
  cases od with
  | none=>replace hd:=e▸hd;exact hd.elim
  | some o=>
   rw[e]at hd;exact lO (cQ.mp hs) λr a b=>(aj (aj (km hd (oh (nsLook_of a) (au (aD b (aj (jE (au h)))))))))
end
def Found (Γ:Cx)(s:aV)(u:aB)(x:aM)(fv:aB):Prop:=∀(A:bQ)(pl:RW Bool)(Q:PQ (aB×List aB))(E:PQ aB),∀J:Q (fv, [u]) s,aO Γ.M A (rZ u x pl) Q E s
section
variable {ρ:eO}{H:Hp}{s:aV}{u:aB}{x:aM}
theorem aM2 (Mo:R5 Γ)(S:SR Γ ρ H s)(I:InstAt s.heap a ob c (aa (iU es nn)))(pJ:DR Γ ρ s.heap d es)(hn:d.lookup x=aC)(hg:Γ.G.bN c x=aa f):Found Γ s (.ref a) x (.ref f):=λA pl Q E h=>by refine Be (Mo.bN c x _ hg) λm1 m2 m3=> ?_;obtain⟨⟨ga,g1,g2⟩,g3⟩:=Mo.get c x _ hg;refine Nu S.rJ I g1 g2 g3 m1 m2 ?_ h;show(lookIn x (iU es nn)).map _=_;simp only[Cr,(pJ.look x).2 hn];rfl
theorem ap6 (e:Q6 G c d x=aa f):d.lookup x=aC∧G.bN c x=aa f:=by
 unfold Q6 at e;cases q:d.lookup x with
 | some v=>rw[q]at e;exact p7 e
 | none=>rw[q]at e;exact⟨rfl,e⟩
theorem Wi (e:Te G i x mo=aa (.fn f)):(∃c d,mo= .inst c d∧Q6 G c d x=aa f)∨∃c d l,mo= .acc c d l∧Q6 G c d x=aa f:=by
 cases mo with
 | vN=>exact nomatch (T3 e).2
 | list l=>exact nomatch (T3 e).2
 | inst c d=>
  exact lO (cQ.mp e) λg hg q=>(.inl ⟨c,d,rfl,by cases q;exact hg⟩)
 | acc c d l=>
  refine .inr ⟨c,d,l,rfl, ?_⟩;unfold Te at e;delta Q6;cases q:d.lookup x with
  | some v=>simp only[q]at e;exact p7 e
  | none=>
   simp only[q]at e⊢;cases q':G.bN c x with
   | some g=>replace e:=q'▸e;cases e;rfl
   | none=>rw[q']at e;exact nomatch (T3 e).2
theorem axn (Mo:R5 Γ)(S:SR Γ ρ H s)(hv:VR Γ ρ s.heap ov u)(hl:Rz Γ.G H ov x=aa (.fn f)):Found Γ s u x (.ref f)∧(Γ.G.fn f).isSome:=by
 cases ov with
 | str t=>exact nomatch (T3 hl).2
 | ref i=>
  refine g8 hl λo hi e=> ?_;rcases Wi e with⟨c,d,rfl,q⟩ | ⟨c,d,l,rfl,q⟩
  ·obtain⟨hn,hg⟩:=ap6 q
   obtain⟨b,dx,es,n,hi,hr,ha,hd,pJ,uE,hc⟩:=hv.inst S hi;exact⟨aM2 Mo S ⟨ha,rfl,rfl,hd⟩ pJ hn hg,(Mo.bN c x _ hg).2.2⟩
  ·obtain⟨hn,hg⟩:=ap6 q
   obtain⟨b,r,hr⟩:=hv;obtain⟨a,dx,es,n,xs,kk,ha,hd,pJ,hs,hz,hc,uE⟩:=S.or hi hr;exact⟨aM2 Mo S ⟨ha,rfl,rfl,hd⟩ pJ hn hg,(Mo.bN c x _ hg).2.2⟩
 | gl v=>
  cases v with
  | ref a=>
   exact g8 (T3 hl).2 λb U e=>(nomatch e)
  | _=>exact p7 hl
 | _=>exact p7 hl
theorem Jd (G:av1 Γ)(hf:(Γ.G.fn f).isSome)(hb:∀b o,∀J:Γ.g0.get? b=aa o,h.get? b=aa o):W5 Γ h (.ref f):=by obtain⟨fn,hfn⟩:=bZ.mp hf;obtain⟨o,fd,body,dU,F⟩:=G.fns f fn hfn;refine⟨.frame,.inl rfl, ?_⟩;exact(uL (hb _ _ F.obj)).andThen (aD F.data Looks.now)
end
def axo (Γ:Cx)(n:Nat)(tg:Ry)(ov:V)(x:aM)(u fv:aB):Prop:=
 ∀(l:List fu)(A:bQ)(lk:List Nat)(vs ks:List V)(kn:List aM)(H:Hp)(ρ:eO)(s:aV)(us lZ:List aB),∀J:jW A l n,∀J:SR Γ ρ H s,∀J:VR Γ ρ s.heap ov u,∀J:I7 Γ l ρ s.heap,∀J:gA Γ ρ s.heap vs us,∀J:gA Γ ρ s.heap ks lZ,n8 Γ l lk ρ s (U8 (u9 Γ.G n) lk tg ov x vs kn ks H) (λQ E=>W5 Γ s.heap fv∧aO Γ.M A (call fv (u::us) (kn.zip lZ)) Q E s) (v5 Γ)
inductive MAt (Γ:Cx)(n:Nat)(tg:Ry)(ov:V)(x:aM)(s:aV)(u:aB):Prop
 | mk (fv:aB) (found:Found Γ s u x fv) (calls:axo Γ n tg ov x u fv):MAt Γ n tg ov x s u
def a8c (Γ:Cx)(n:Nat):Prop:=
 ∀(ov:V)(x:aM)(tg:Ry)(H:Hp)(ρ:eO)(s:aV)(u:aB),∀J:SR Γ ρ H s,∀J:Rz Γ.G H ov x=aa tg,∀J:VR Γ ρ s.heap ov u,MAt Γ n tg ov x s u
theorem Wj (hM:a8c Γ n)(ih:O8 Γ n m k)(ho:v4 Γ n k o mo)(hb:ab0 o=az)(hl:(ap.endLine==p.line)=az)
  (h3:args.length+ks.length<20) (hn:M8 args=az) (hk:keysOf ks=aa q):v4 Γ (n+1) k (.Call (.Attribute o x ap) args ks p) (.bN mo x (args.map (cE m k)) q.1 (q.2.map (cE m k))):=λenv l A φ H ρ s O a S F=>
 (ho env l A φ H ρ s O a.pred S F).iZ (λQ E w=>ah3 hb hl (ap4 env p hn) (aqn p env hk).all h3 w) λov cM aZ aU u cU cg hv=> .opt λtg ht=>by obtain⟨fv,g1,g2⟩:=hM ov x tg cM aZ aU u cg ht hv;refine n8.of (Dl ih O a.pred hn hk cg (F.ext cU) λvs VN ou dI bO us lZ dB fJ je hkv=>g2 l A φ.lk vs VN q.1 ou dI bO us lZ a.pred fJ (hv.ext dB) ((F.ext cU).ext dB).uU je.1 hkv) λQ E w pl=>g1 A pl _ E w
structure BM (Γ:Cx):Prop where
 find:∀(ov:V)(x:aM)(tg:Ry)(H:Hp)(ρ:eO)(s:aV)(u:aB),∀J:SR Γ ρ H s,∀J:Rz Γ.G H ov x=aa tg,∀J:(∀f,tg≠ .fn f),∀J:VR Γ ρ s.heap ov u,∃id,Found Γ s u x (.builtin id)∧∀(r:Rec)(n:Nat)(l:List fu)(A:bQ)(lk:List Nat)(vs:List V)(H:Hp)(ρ:eO)(s:aV)(us:List aB),∀J:jW A l n,∀J:SR Γ ρ H s,∀J:VR Γ ρ s.heap ov u,∀J:gA Γ ρ s.heap vs us,n8 Γ l lk ρ s (U8 r lk tg ov x vs [] [] H) (λQ E=>aO Γ.M A (call (.builtin id) (u::us)) Q E s) (v5 Γ)
theorem Wk (ht:∀f,tg≠ .fn f)(h:U8 r lk tg ov x vs kn ks H=aa q):kn= []∧U8 r lk tg ov x vs [] [] H=aa q:=by
 cases kn with
 | nil=>
  cases tg with
  | fn f=>exact absurd rfl (ht f)
  | _=>exact⟨rfl,h⟩
 | cons y r=>
  cases tg with
  | fn f=>exact absurd rfl (ht f)
  | vN i=>exact rU (j9 (T3 h).1)
  | _=>exact rU ((T3 h).1)
theorem aKl (G:av1 Γ)(Mo:R5 Γ)(B:BM Γ)(hF:Il Γ n):a8c Γ n:=λov x tg H ρ s u S hl hv=>by
 by_cases ht:∃f,tg= .fn f
 ·obtain⟨f,rfl⟩:=ht
  obtain⟨g1,g2⟩:=axn Mo S hv hl;exact⟨.ref f,g1,λl A lk vs ks kn cM aZ aU us lZ a cg qU K je hks=>
   n8.of (hF l A lk f (ov::vs) ks kn cM aZ aU (u::us) lZ a cg K (.mk u us qU je) hks) λQ E w=>⟨Jd G g2 cg.base,ac5 w⟩⟩
 ·have ht:∀f,tg≠ .fn f:=λf e=>ht ⟨f,e⟩
  refine lO (B.find ov x tg H ρ s u S hl ht hv) λid g1 g2=> ?_;refine⟨.builtin id,g1,λl A lk vs ks kn cM aZ aU us lZ a cg qU K je hks q H' ev Q E P=> ?_⟩;obtain⟨rfl,ev'⟩:=Wk ht ev;exact⟨keep_pure rfl,g2 (u9 Γ.G n) n l A lk vs cM aZ aU us a cg qU je q H' ev' Q E P⟩
end
section
variable {Γ:Cx}{n m:Nat}{k:Kd}
theorem jW.make {C:aW}{us:List aB}{kw:List (aM×aB)}(a:jW A l (n+1)):jW (A.under (.builtin "type.__call__" ⟨.ref C::us,kw⟩)) l n:=by
 refine⟨a.hand, ?_, ?_, ?_⟩
 ·show pushEnvs (Code.builtin "type.__call__" ⟨.ref C::us,kw⟩).envs A.frames=aa l
  refine aD (show(Code.builtin "type.__call__" ⟨.ref C::us,kw⟩).envs= [] from rfl) (aD a.frames ?_);rfl
 ·exact a.dep
 ·exact a.uni (c:=1) (by decide)
structure Wl (Γ:Cx):Prop where
 makes:∀c g,∀J:Γ.G.bN c "__init__"=aa g,∀J:c≠Γ.G.fW,zX Γ.K c=az
 acc:∀g,∀J:Γ.G.bN Γ.G.fW "__init__"=aa g,∀(A:bQ)(rest:List aB)(kw:List (aM×aB))(R:PQ za)(s:aV),∀J:Γ.K.In s.heap,∀J:A.depth+4<mO,∀J:gD Γ.M (A.under (.builtin "type.__call__" ⟨.ref Γ.G.fW::rest,kw⟩)) (.call (.ref g) ⟨.ref (s.heap.objs.size+1)::rest,kw⟩) (InitBack (s.heap.objs.size+1) R)
   {s with heap:=(s.heap.push gk).push {cls:= .ref Γ.G.fW,dict:=aa s.heap.objs.size,data:= .seq #[]}},gD Γ.M A (.call (.ref Γ.G.fW) ⟨rest,kw⟩) R s
 keep:∀c g,∀J:Γ.G.bN c "__init__"=aa g,W5 Γ Γ.g0 (.ref c)
theorem W5.base (x:W5 Γ h u)(hb:∀b o,∀J:h.get? b=aa o,h'.get? b=aa o):W5 Γ h' u:=x.imp λU q=>⟨q.1,q.2.keeps hb⟩
section
variable {l:List fu}{A:bQ}{lk:List Nat}{ρ aZ:eO}{H:Hp}{s aU:aV}
theorem n8.back {α β:Type}{r:Out α}{W:∀J:(PQ β),∀J:(PQ aB),Prop}{R:eO->bL->α->β->Prop}(h:n8 Γ l lk aZ aU r W R)(x:Ext Γ (m7 l) (Wr Γ lk ρ) ρ s aZ aU):n8 Γ l lk ρ s r W R:=λq H' e Q E P=>h q H' e Q E (P.ext x)
theorem FP (h:bL)(ob:oH)(b:aW)(o:oH)(e:h.get? b=aa o):((h.push gk).push ob).get? b=aa o:=aK _ (aK _ e)
theorem Wm (h:bL):∀b∈ [h.objs.size+1,h.objs.size],h.get? b=aC:=λb hb=>
 fZ ((aY.mp hb).elim (λq=>q▸dC _) λq=>aP.mp q▸aN _)
theorem Wo (h:bL)(ob:oH)(hf:ob.isFreed=aG):((h.push gk).push ob).get? (h.objs.size+1)=aa ob:=by refine nF (gQ h gk) ?_;exact bj _ hf
theorem aM3 (h:bL)(ob:oH):((h.push gk).push ob).get? h.objs.size=aa gk:=aK _ (bj _ rfl)
theorem aH4 (hF:Il Γ n)(ao:jW A' l n)(S:SR Γ ρ H s)(K:I7 Γ l ρ s.heap)(je:gA Γ ρ s.heap vs us)(hks:gA Γ ρ s.heap ks lZ)
  (x:OR Γ (ρ++ [[s.heap.objs.size+1,s.heap.objs.size]]) ((s.heap.push gk).push ob) mo [s.heap.objs.size+1,s.heap.objs.size]):
  n8 Γ l lk ρ s (jd (p8 Γ.G n lk g (.ref H.length::vs) kn ks (H++ [mo])) λv H'=>match v with
    | .none=>ok (.ref H.length) H'
    | _=>aC)
   (λQ E=>gD Γ.M A' (.call (.ref g) ⟨.ref (s.heap.objs.size+1)::us,kn.zip lZ⟩) (InitBack (s.heap.objs.size+1) (Ret Q E)) {s with heap:=(s.heap.push gk).push ob}) (v5 Γ):=by
 have cg:SR Γ (ρ++ [[s.heap.objs.size+1,s.heap.objs.size]]) (H++ [mo]) {s with heap:=(s.heap.push gk).push ob}:=S.rI (FP s.heap ob) (Wm s.heap) (by simp) x;have cU:Ext Γ (m7 l) (Wr Γ lk ρ) ρ s (ρ++ [[s.heap.objs.size+1,s.heap.objs.size]]) {s with heap:=(s.heap.push gk).push ob}:=Ext.rI (FP s.heap ob) (Wm s.heap);have self:afp (ρ++ [[s.heap.objs.size+1,s.heap.objs.size]]) H.length (.ref (s.heap.objs.size+1)):=⟨_, [s.heap.objs.size],ac2 S.len⟩;refine n8.back ?_ cU;refine(hF l A' lk g (.ref H.length::vs) ks kn _ _ _ (.ref (s.heap.objs.size+1)::us) lZ ao cg (K.grow (FP s.heap ob) cU.grow) (.mk _ us self (je.ext cU)) (hks.ext cU)).Ml (W:=λu s' Q U=>u= .none∧Q (.ref (s.heap.objs.size+1)) s') (λQ E w=> ?_) λv ou dI bO u dB fJ hv=> ?_
 ·refine Af w λr s' h=> ?_
  rcases r with e | (v | _ | _ | _)<;>exact h
 ·cases v with
  | none=>exact .ok λQ E P=>⟨hv,P.ok fJ (by obtain⟨_,r,e⟩:=self;exact⟨_,r,dB.grow.get e⟩)⟩
  | _=>exact .none
theorem Nv (C:Wl Γ)(Mo:R5 Γ)(hF:Il Γ n)(ao:jW A l (n+1))(hm:Γ.G.bN a "__init__"=aa g)(S:SR Γ ρ H s)(K:I7 Γ l ρ s.heap)(je:gA Γ ρ s.heap vs us)(hks:gA Γ ρ s.heap ks lZ):
  n8 Γ l lk ρ s (CJ Γ.G (u9 Γ.G n) lk a g vs kn ks H) (λQ E=>aO Γ.M A (call (.ref a) us (kn.zip lZ)) Q E s) (v5 Γ):=by
 delta CJ;by_cases hc:a=Γ.G.fW
 ·subst hc
  refine aD (bG rfl) ?_;refine n8.of (aH4 hF ao.make S K je hks (.mk _ _ [] 0 #[] 0 (Wo s.heap {cls:= .ref Γ.G.fW,dict:=aa s.heap.objs.size,data:= .seq #[]} rfl) (aM3 s.heap _) rfl rfl (cL _) rfl (by refine aD hm ?_;rfl))) λQ E w=>ac5 (C.acc g hm A us (kn.zip lZ) _ s S.rJ (by have:=ao.depth;omega) w)
 ·refine aD (bu hc) ?_
  refine Be (Mo.bN a _ g hm) λm1 m2 m3=> ?_;refine n8.of (aH4 hF (ao.make (C:=a) (us:=us) (kw:=kn.zip lZ)) S K je hks (.mk _ _ [] 0 (Wo s.heap (instObj a s.heap.objs.size) rfl) (aM3 s.heap _) rfl (by refine aD hm ?_;rfl) hc)) λQ E w=>ac5 ?_;obtain⟨hh,gg,d,t,os⟩:=s;exact make_core (makes_of S.rJ (C.makes a g hm hc)) (fM S.rJ m1) (λself=>bind_fn S.rJ self m2) (.inl rfl) w
end
structure BV (Γ:Cx):Prop where
 fn:∀(l:List fu)(A:bQ)(lk:List Nat)(b:String)(v:V)(H:Hp)(ρ:eO)(s:aV)(u:aB),∀J:jW A l 0,∀J:SR Γ ρ H s,∀J:VR Γ ρ s.heap v u,jo Γ l lk A ρ s (G4 H b v) (call (.builtin b) [u] []) (v5 Γ)
 ty:∀(l:List fu)(A:bQ)(lk:List Nat)(b:String)(v:V)(H:Hp)(ρ:eO)(s:aV)(u:aB),∀J:jW A l 0,∀J:SR Γ ρ H s,∀J:VR Γ ρ s.heap v u,jo Γ l lk A ρ s (Lw H b v) (call (.type b) [u] []) (v5 Γ)
 lam:∀(n:Nat),∀J:(∀m k,O8 Γ n m k),∀(env:fu)(l:List fu)(A:bQ)(φ:Fm)(i:aF)(H:Hp)(ρ:eO)(s:aV)(u:aB),∀J:jW A l (n+1),∀J:SR Γ ρ H s,∀J:FR Γ l ρ s.heap env φ.loc φ.cR,∀J:VR Γ ρ s.heap (.Ao i) u,n8 Γ l φ.lk ρ s (callC Γ.G (u9 Γ.G n) φ i H) (λQ E=>W5 Γ s.heap u∧aO Γ.M A (call u [] []) Q E s) (v5 Γ)
theorem aT0 (h:p8 Γ.G n lk a vs kn ks H=aa r):(Γ.G.fn a).isSome:=by
 cases n with
 | zero=>exact p7 h
 | succ n=>obtain⟨f,hf,_⟩:=S9 h;refine aD hf ?_;rfl
theorem n8.keep {l:List fu}{lk:List Nat}{ρ:eO}{s:aV}{α β:Type}{r:Out α}{W:∀J:(PQ β),∀J:(PQ aB),Prop}{R:eO->bL->α->β->Prop}{p:Prop}(hp:p)(h:n8 Γ l lk ρ s r W R):n8 Γ l lk ρ s r (λQ E=>p∧W Q E) R:=h.of λU U w=>⟨hp,w⟩
theorem Y7 (h:one vs=aa v):vs= [v]:=by
 cases vs with
 | nil=>exact p7 h
 | cons a r=>
  cases r with
  | nil=>exact congrArg (·:: []) (aq h)
  | cons _ _=>exact p7 h
theorem FQ (h:kn.isEmpty=az):kn= []:=bY.mp h
theorem aKm (G:av1 Γ)(Mo:R5 Γ)(C:Wl Γ)(B:BV Γ)(hF:Il Γ n)(ih:∀m k,O8 Γ n m k):axk Γ n:=λenv l A φ fv vs ks kn H ρ s u us lZ a S F hv je hks=>by
 cases fv with
 | Ao i=>
  refine .fV λh=> ?_;obtain rfl:=bY.mp (d7 h);obtain rfl:=FQ (j9 h);obtain rfl:=gA.nil je;exact B.lam n ih env l A φ i H ρ s u a S F hv
 | gl v=>
  obtain rfl:u=v:=hv;cases u with
  | ref b=>
   cases hm:Γ.G.bN b ("__init__":aM) with
   | some g=>
    rw[show HH Γ.G (u9 Γ.G n) φ (.gl (.ref b)) vs kn ks H=CJ Γ.G (u9 Γ.G n) φ.lk b g vs kn ks H from show(match Γ.G.bN b ("__init__":aM) with | some g=>CJ Γ.G (u9 Γ.G n) φ.lk b g vs kn ks H | none=>(u9 Γ.G n).f φ.lk b vs kn ks H)=_ from by rw[hm]];exact(Nv C Mo hF a hm S F.uU je hks).keep ((C.keep b g hm).base S.base)
   | none=>
    rw[show HH Γ.G (u9 Γ.G n) φ (.gl (.ref b)) vs kn ks H=p8 Γ.G n φ.lk b vs kn ks H from show(match Γ.G.bN b ("__init__":aM) with | some g=>CJ Γ.G (u9 Γ.G n) φ.lk b g vs kn ks H | none=>(u9 Γ.G n).f φ.lk b vs kn ks H)=p8 Γ.G n φ.lk b vs kn ks H from by rw[hm]];exact λq H' ev Q E P=>⟨Jd G (aT0 ev) S.base,ac5 (hF l A φ.lk b vs ks kn H ρ s us lZ a.pred S F.uU je hks q H' ev Q E P)⟩
  | builtin b=>
   refine .fV λh=> .opt λv hv=> ?_;obtain rfl:=FQ h;obtain rfl:=Y7 hv;obtain⟨u,us,hu,hs⟩:=je;obtain rfl:=gA.nil hs;exact n8.keep (keep_pure rfl) (B.fn l A φ.lk b v H ρ s u a.zero S hu)
  | type b=>
   refine .fV λh=> .opt λv hv=> ?_;obtain rfl:=FQ h;obtain rfl:=Y7 hv;obtain⟨u,us,hu,hs⟩:=je;obtain rfl:=gA.nil hs;exact n8.keep (keep_pure rfl) (B.ty l A φ.lk b v H ρ s u a.zero S hu)
  | _=>exact .none
 | _=>exact .none
end
end Mine.Internal
end
section
namespace Mine.Internal
open PySem PySem.W PySem.Calls PyProof.Rows Builtin
variable {Γ:Cx}
structure FW (M:yw)(h:bL)(C:aW):Prop where
 obj:∃oc od cd sl,h.get? C=aa ⟨oc,od,.cls cd,sl⟩∧cd.abstract=aG∧cd.hasDel=aG∧cd.mro.isEmpty=aG
 made:lA M h (Bind.madeBy (.ref C)) (aa "list.__new__")
 base:lA M h (Bind.staticBase (.ref C)) (.ref C)
 self:lA M h (pI (.ref C) (.ref C)) az
 top:lA M h (pI (.ref C) (.type "list")) az
 call:lA M h (specialOf (.ref C) "__call__") (aa (.builtin "type.__call__"))
 typ:lA M h (jU (.ref C) (.type "type")) az
theorem aH5 {K:aof}(e:Hi K C=aa cd):∃oc od sl,K.lookup C=aa ⟨oc,od,.cls cd,sl⟩:=by
 delta Hi at e;cases q:K.lookup C with
 | none=>replace e:=q▸e;exact iu e
 | some o=>
  rw[q]at e;obtain⟨oc,od,d,sl⟩:=o;cases d with
  | cls cd'=>exact⟨oc,od,sl,aD (aq e) rfl⟩
  | _=>exact iu e
theorem av2 (h:(!b)=az):b=aG:=by
 cases b with
 | true=>exact h.symm
 | false=>rfl
theorem Ny {K:aof}(X:K.In h)(e:ao6 K C=az):FW M h C:=by
 obtain⟨u,e⟩:=bZ.mp e;refine g8 e λo ho e=> ?_;refine g8 e λcd hc e=> ?_;refine I5 e λe U=> ?_;refine(aH5 hc).elim λoc q=>q.elim λod q=>q.elim λsl q=> ?_;obtain rfl:=aq (ho.symm.trans q);have hm:lA M h (mroOf (.ref C)) cd.mro:=(wW X hc).andThen .now;obtain⟨c,l,hl⟩:∃c l,cd.mro=c::l:=by
  cases q:cd.mro with
  | nil=>cases(congrArg List.isEmpty q).symm.trans (av2 (j9 (d7 (d7 (d7 (d7 e))))))
  | cons c l=>exact⟨c,l,rfl⟩
 have made:lA M h (Bind.madeBy (.ref C)) (aa "list.__new__"):=by intro A Q E s k q;refine aj (hm A _ E s k ?_);refine aD hl ?_;rw[dW];refine aj (aj (aj (aj (km (k _ _ (X _ _ ho)) (au ?_)))));refine nF (cu) (aD (fG (j9 (d7 (d7 (d7 (d7 (d7 e))))))) ?_);exact au (au (au q))
 refine⟨⟨oc,od,cd,sl,X _ _ ho,(av2 (d7 (d7 (d7 (d7 (d7 (d7 (d7 e)))))))),(av2 (j9 (d7 (d7 (d7 (d7 (d7 (d7 e)))))))),(av2 (j9 (d7 (d7 (d7 (d7 e))))))⟩,made, ?_,qQ X ?_,qQ X ?_,looks_specialIn X (fG (j9 (d7 e))),looks_instIn X (fG (j9 e))⟩
 ·intro A Q E s k q
  refine aj (hm A _ E s k ?_);refine aD hl ?_;rw[dW];exact aj (aj (aj (made A _ E s k (au (au (au q))))))
 ·delta RX;rw[hc,lL,bu (by rw[(av2 (j9 (d7 (d7 (d7 (d7 e))))))];decide),(j9 (d7 (d7 (d7 e))))]
 ·delta RX;rw[hc,lL,bu (by rw[(av2 (j9 (d7 (d7 (d7 (d7 e))))))];decide),(j9 (d7 (d7 e)))]
namespace Ln
theorem kind:gC "list.__new__"=aa .builtinFn:=by decide+kernel
theorem split:xK "list.__new__"=aa ("list","__new__"):=by decide+kernel
theorem args (a:aB)(rest:List aB)(kw:List (aM×aB)):yZ "list.__new__" ⟨a::rest,kw⟩:=rfl
end Ln
section
variable {prog:nq}{w:uK}{A:bQ}{K:aof}{C:aW}{R:PQ za}{h:bL}{g:Array zZ}{d:Drawn}{t:Nat}{os:OsState}
theorem av3 (Y:FW (gK prog w) h C)
  (hq:R (.ok (.ret (.ref (h.objs.size+1)))) ⟨(h.push gk).push {cls:= .ref C,dict:=aa h.objs.size,data:= .seq #[]},g,d,t,os⟩):
  gD (gK prog w) A (.call (.builtin "list.__new__") ⟨.ref C::rest,kw⟩) R ⟨h,g,d,t,os⟩:=by
 obtain⟨⟨oc,od,cd,sl,hC,e1,e2,e4⟩,made,base,self,top,call,typ⟩:=Y;refine codeAny_call_builtin_code (wD _ (by decide+kernel)) ?_;delta BP;refine aD Ln.kind (aD Ln.split ?_);refine oh (bG (by decide)) ?_;refine aj (ye hC rfl ?_);refine oh (bu (by decide)) ?_;refine aj (top.here ?_);refine oh (bu (by decide)) ?_;refine aj (base.here ?_);refine aj (made.here ?_);refine oh (bu (by decide)) ?_;have fin:gD (gK prog w) A (.builtin "list.__new__" ⟨.ref C::rest,kw⟩) R ⟨h,g,d,t,os⟩:=by refine codeAny_builtin_stack PySem.F.entry_list_new rfl λp st=> ?_;dsimp only;refine aD owner_list_new ?_;refine aj (ye hC rfl ?_);refine oh (bu (by decide)) ?_;refine aj (top.here ?_);refine oh (bu (by decide)) ?_;refine aj (au ?_);refine oh (bu (by simp [typeHasDict])) ?_;refine aj (eN ?_ (by size_fits));dsimp only;refine aj ?_;delta newObj;refine oh (bu (by decide)) ?_;refine aj (wpAny_alloc (aj (aj (Hn (aK _ (aK _ hC)) (au ?_)))));refine aD e2 ?_;refine au (au ?_);show R _ _;rw[gQ];exact hq
 cases awt:lJ "list.__new__" with
 | none=>exact au fin
 | some sig=>
  have:=Ln.args (.ref C) rest kw;simp only[yZ,awt]at this;dsimp only;exact aD this (au fin)
theorem Wq (Y:FW (gK prog w) h C)(hi:lA (gK prog w) h (Hr (.ref C) "__init__") (aa init))(hb:∀self,lA (gK prog w) h (bindSpecial init self) (init, [self]))
  (hq:gD (gK prog w) (A.under (.builtin "type.__call__" ⟨.ref C::rest,kw⟩)) (.call init ⟨.ref (h.objs.size+1)::rest,kw⟩) (InitBack (h.objs.size+1) R) ⟨(h.push gk).push {cls:= .ref C,dict:=aa h.objs.size,data:= .seq #[]},g,d,t,os⟩):
  gD (gK prog w) A (.call (.ref C) ⟨rest,kw⟩) R ⟨h,g,d,t,os⟩:=by
 have Y':=Y;obtain⟨⟨oc,od,cd,sl,hC,e1,e2,e4⟩,made,base,self,top,call,typ⟩:=Y;refine Ea ?_;refine nd_load hC ?_;show aO _ _ (callAny.viaDunder (.ref C) _) _ _ _;refine aj (call.at ?_);dsimp only;rw[tc_bind];refine aj (au (aj (au ?_)));refine au (a:=Fin.again (.call (.builtin "type.__call__") ⟨.ref C::rest,kw⟩)) (And.intro rfl ?_);refine codeAny_call_builtin_at (wD _ (by decide+kernel)) entry_typeCall (check_slot tc_kind tc_split typ (tc_args _ _ _) ?_);have hm:lA (gK prog w) h (mroOf (.ref C)) cd.mro:=((uL hC).andThen .now).andThen .now
 repeat (first | simp only[e4,Bool.false_eq_true,if_false] | with_reducible refine mR ?_ | lk)
 refine av3 Y' ?_;have k:∀b o,∀J:h.get? b=aa o,((h.push gk).push {cls:= .ref C,dict:=aa h.objs.size,data:= .seq #[]}).get? b=aa o:=λb o e=>aK _ (aK _ e);have hx:((h.push gk).push {cls:= .ref C,dict:=aa h.objs.size,data:= .seq #[]}).get? (h.objs.size+1)=aa {cls:= .ref C,dict:=aa h.objs.size,data:= .seq #[]}:=by heap_get
 have t1:lA (gK prog w) ((h.push gk).push {cls:= .ref C,dict:=aa h.objs.size,data:= .seq #[]}) (vz (.ref (h.objs.size+1))) (.ref C):=(uL hx).andThen .now;have s1:=self.keeps k;have i1:=hi.keeps k;have b1:=(hb (.ref (h.objs.size+1))).keeps k
 repeat (first | with_reducible refine mR ?_ | lk)
 refine Af hq λr s' z=> ?_;rcases r with e | (v | _ | _ | _)<;>first | exact z | exact z.elim | skip
 obtain⟨rfl,z⟩:=z;exact au (au z)
end
structure Ws (Γ:Cx):Prop where
 acc:ao6 Γ.K Γ.G.fW=az
 makes:∀c g,∀J:Γ.G.bN c "__init__"=aa g,∀J:c≠Γ.G.fW,zX Γ.K c=az
 keep:∀c g,∀J:Γ.G.bN c "__init__"=aa g,W5 Γ Γ.g0 (.ref c)
theorem a8d (Mo:R5 Γ)(K:Ws Γ):Wl Γ where
 makes:=K.makes
 keep:=K.keep
 acc:=λg hg A rest kw R s X hd h=>by refine Be (Mo.bN _ _ g hg) λm1 m2 m3=> ?_;obtain⟨hh,gg,d,t,os⟩:=s;exact Wq (Ny X K.acc) (fM X m1) (λself=>bind_fn X self m2) h
end Mine.Internal
end
section
namespace Mine.Internal
open PySem PySem.W PySem.Calls PyProof.Rows
variable {Γ:Cx}
namespace RE
open Sre
structure qj (code:Array Nat)(pc:Nat)(bad:Nat->Bool):Prop where
 one:∀c seen,∃rN,inSet code c code.size 5 az seen= .ok (bad c,rN)
 two:∀c seen,∃rN,accepts code pc c seen= .ok (bad c,rN)
 lt:pc<code.size
 lt2:pc+itemWidth code pc<code.size
 op:ops[code.getD pc 0]?=aa .IN
 op2:ops[code.getD (pc+itemWidth code pc) 0]?=aa .SUCCESS
 first:∀m:M,∀J:m.code=code,m.hasFirstSet=az
noncomputable def m0 (code text:Array Nat)(pc:Nat):M:={code,text,lim:=text.size,start:=0,pc,pos:=0,handed:=0,marks:= #[],seen:=({}:pA).add 14}
structure yO (code:Array Nat)(pc:Nat):Prop where
 eq:∀text,forSearch code text 0 0 text.size aG=if (decide (0>text.size) || decide (text.size-0<1))=az then(m0 code text pc).say aG else({m0 code text pc with lastStart:=text.size}:M).attemptFrom 0 az
inductive Adm (bad:Nat->Bool)(m:M)(fuel s:Nat)(seen:pA):Prop
 | no (s2:pA) (e:m.admitted fuel s seen= .ok (aC,s2)) (k:∀j,∀J:s≤j,∀J:j<m.lim,bad (m.text.getD j 0)=aG)
 | yes (j:Nat) (s2:pA) (e:m.admitted fuel s seen= .ok (aa j,s2)) (h1:s≤j) (h2:j<m.lim) (h3:bad (m.text.getD j 0)=az)
theorem adm {code:Array Nat}{bad:Nat->Bool}(C:qj code pc bad)(hm:m.code=code)(fuel:Nat):∀s seen,∀J:m.lim-s<fuel,∀J:s≤m.lim,Adm bad m fuel s seen:=by
 induction fuel with
 | zero=>exact λs seen h U=>absurd h (nG _)
 | succ fuel ih=>
  intro s seen h hs;by_cases hl:s≥m.lim
  ·exact .no seen (bG hl) λj h1 h2=>absurd (bA h2 hl) (adn.mpr h1)
  ·obtain⟨rN,e⟩:=C.one (m.text.getD s 0) seen
   have e0:m.admitted (fuel+1) s seen=if bad (m.text.getD s 0) then .ok (aa s,rN) else m.admitted fuel (s+1) rN:=by refine(bu hl).trans ?_;refine aD hm (aD e ?_);cases bad (m.text.getD s 0)<;>rfl
   cases hb:bad (m.text.getD s 0) with
   | true=>exact .yes s rN (by refine aD e0 (aD hb ?_);rfl) (aN _) (zf hl) hb
   | false=>
    have e1:m.admitted (fuel+1) s seen=m.admitted fuel (s+1) rN:=by refine aD e0 (aD hb ?_);rfl
    cases ih (s+1) rN (bA (Nat.sub_succ_lt_self _ _ (zf hl)) (dF h)) (zf hl) with
    | no s2 e2 k=>exact .no s2 (e1.trans e2) λj h1 h2=>(Nat.eq_or_lt_of_le h1).elim (λq=>q▸hb) λq=>k j q h2
    | yes j s2 e2 h1 h2 h3=>exact .yes j s2 (e1.trans e2) (pB h1) h2 h3
theorem aB7 (m:M)(n:Nat)(h:m.outcome.isSome=az):m.runFor n=m:=by
 cases n with
 | zero=>rfl
 | succ n=>exact bG h
theorem ah4 (m:M)(n:Nat)(h:m.outcome=aC):m.runFor (n+1)=m.step.runFor n:=bu (by refine aD h ?_;decide)
theorem aH6 (m:M)(h:m.outcome=aC)(ha:m.answer=aC)(hl:m.pc<m.code.size):m.step=m.exec:=by delta M.step;refine aD (bu (by refine aD h ?_;exact bU)) (aD ha ?_);simp only;exact aD (bG hl) rfl
theorem Wt (m:M)(hf:m.frames= [])(ho:m.outcome=aC):∃m',(m.say aG).runFor 4=m'∧m'.outcome=aa .failed:=by
 refine⟨_,rfl, ?_⟩;refine aD (ah4 _ _ (by exact ho)) ?_;have:(m.say aG).step={m.say aG with outcome:=aa .failed}:=by delta M.step;refine aD (bu (by refine aD ho ?_;decide)) ?_;show(match aa aG,m.frames with | some yes, []=>_ | some yes,f::rest=>_ | none,_=>_)=_;rw[hf];rfl
 exact aD this (aD (aB7 _ _ rfl) rfl)
noncomputable def mL (code text:Array Nat)(pc:Nat):M:={m0 code text pc with lastStart:=text.size}
noncomputable def m1 (code text:Array Nat)(pc j:Nat)(s:pA):M:={mL code text pc with seen:=s,start:=j,pos:=j,handed:=j,frames:= [{wait:= .nextStart,pc,pos:=j,outermost:=az}],weight:=1}
noncomputable def m2 (code text:Array Nat)(pc j q:Nat)(s t:pA):M:={m1 code text pc j s with seen:=t,pc:=q,pos:=j+1}
noncomputable def m3 (code text:Array Nat)(pc j q:Nat)(s t u:pA):M:=({m2 code text pc j q s t with seen:=u,handed:=j+1}:M).say az
section
variable {code text:Array Nat}{pc j q:Nat}{bad:Nat->Bool}{s t u:pA}
theorem a8f (C:qj code pc bad)(hj:j<text.size)(e:accepts code pc (text.getD j 0) (s.add (code.getD pc 0))= .ok (az,t)):(m1 code text pc j s).step=m2 code text pc j (pc+itemWidth code pc) s t:=by rw[aH6 (m1 code text pc j s) rfl rfl C.lt];show(match ops[code.getD (pc+0) 0]? with | none=>_ | some op=>_)=_;rw[yf,C.op];show(if j≥text.size then _ else(match accepts code pc (text.getD j 0) (s.add (code.getD (pc+0) 0)) with | .error why=>_ | .ok (aG,seen)=>_ | .ok (az,seen)=>_))=_;rw[bu (aon hj),yf,e];rfl
theorem a8g (hl:q<code.size)(ho:ops[code.getD q 0]?=aa .SUCCESS):(m2 code text pc j q s t).step=m3 code text pc j q s t (t.add (code.getD q 0)):=by rw[aH6 (m2 code text pc j q s t) rfl rfl hl];show(match ops[code.getD (q+0) 0]? with | none=>_ | some op=>_)=_;rw[yf,ho];rfl
theorem a8h (m:M)(ha:m.answer=aa az)(hf:m.frames= [])(ho:m.outcome=aC):m.step={m with outcome:=aa .matched}:=by delta M.step;refine aD (bu (by refine aD ho ?_;decide)) (aD ha (aD hf ?_));rfl
theorem ahq (C:qj code pc bad)(hj:j<text.size)(hb:bad (text.getD j 0)=az):((m1 code text pc j s).runFor 4).outcome=aa .matched:=by refine jA (C.two (text.getD j 0) (s.add (code.getD pc 0))) λt e=> ?_;rw[hb]at e;refine aD (ah4 _ _ rfl) (aD (a8f C hj e) (aD (ah4 _ _ rfl) (aD (a8g C.lt2 C.op2) (aD (ah4 _ _ rfl) ?_))));refine qm λY Z=> ?_;obtain⟨m4,e4,a4,f4,o4⟩:=(show∃m4:M,(m3 code text pc j (pc+itemWidth code pc) s t (t.add (code.getD (pc+itemWidth code pc) 0))).step=m4∧m4.answer=aa az∧m4.frames= []∧m4.outcome=aC from⟨_,rfl,rfl,rfl,rfl⟩);exact Z (aD e4 (aD (ah4 _ _ o4) (aD (a8h m4 a4 f4 o4) (aD (aB7 _ _ rfl) rfl))))
theorem Wu:text.toList.any bad=az↔∃j,j<text.size∧bad (text.getD j 0)=az:=by
 rw[aet];constructor
 ·rintro⟨c,hc,hb⟩
  obtain⟨j,hj,rfl⟩:=Ep.mp (Hs.mp hc);exact⟨j,hj,by rw[←Er];exact hb⟩
 ·rintro⟨j,hj,hb⟩
  exact⟨text[j],Hs.mpr (Array.getElem_mem hj),by rw[←Er]at hb;exact hb⟩
theorem Je (k:∀j,∀J:j<text.size,bad (text.getD j 0)=aG):text.toList.any bad=aG:=gR.mpr λq=>(Wu.mp q).elim λj z=>bU ((k j z.1).symm.trans z.2)
theorem attempt (C:qj code pc bad):∃m',((mL code text pc).attemptFrom 0 az).runFor 4=m'∧m'.outcome=aa (if text.toList.any bad then .matched else .failed):=by
 delta M.attemptFrom;refine aD (C.first _ rfl) (aD (bu (by decide)) ?_);cases(adm C (m:=mL code text pc) rfl (text.size+1-0) 0 (({}:pA).add 14) (aN _) (cL _)) with
 | no s2 e k=>
  exact aD e (aD (Je λj=>k j (cL _)) (Wt _ rfl rfl))
 | yes j s2 e h1 h2 h3=>
  refine aD e (aD (Wu.mpr ⟨j,h2,h3⟩) ?_);refine⟨_,rfl, ?_⟩;have a1:(M.attemptAt {mL code text pc with mustAdvance:=aG,seen:=s2} j az)=m1 code text pc j s2:=by unfold M.attemptAt M.attempt;refine aD (bu (by show¬(0+1+0>16777216);decide)) ?_;rfl
  exact aD a1 (ahq C h2 h3)
end
theorem FZ {code:Array Nat}{bad:Nat->Bool}(C:qj code pc bad)(S:yO code pc)(text:Array Nat):∃m',(forSearch code text 0 0 text.size aG).runFor 4=m'∧m'.outcome=aa (if text.toList.any bad then .matched else .failed):=by
 rw[S.eq];by_cases h0:text.size<1
 ·refine aD (bG (by simp only[kZ,decide_eq_true_eq,decide_eq_true_eq];exact .inr h0)) (aD (Je λj hj=>absurd hj (iG (ak (dF h0) (cL _)))) ?_)
  exact Wt (m0 code text pc) rfl rfl
 ·refine aD (bu (by simp only[kZ,decide_eq_true_eq,decide_eq_true_eq];exact λq=>q.elim (nG _) h0)) ?_
  exact attempt C
end RE
section
variable {M:yw}{A:bQ}{E:PQ aB}{s:aV}
open Builtin.Re
theorem Nz {b:Nat->Bool}{t:Nat->String}(h:Q ⟨⟩ s):∀(l:List Nat),aO M A (forIn l tL λi U=>(if b i=az then(do BL (t i);pure (jt tL)) else pure (jt tL):RW (ForInStep PUnit))) Q E s:=by
 intro zz
 induction zz with
 | nil=>
  exact au h
 | cons i l ih=>
  rw[dW];refine aj ?_
  split
  ·exact aj (jE (au (ih)))
  ·exact au (ih)
theorem a8i (hm:m.runFor 4=m')(ho:m'.outcome=aa o)(h1:∀J:o= .matched,Q (aa m') s)(h2:∀J:o= .failed,Q aC s)(h3:∀w,o≠ .stuck w):aO M A (reRunToEnd m) Q E s:=by
 delta reRunToEnd;have d:reDrive (2^64) m=pure m':=by unfold reDrive;show(if (m.runFor 4).outcome.isSome=az then pure (m.runFor 4) else _)=_;refine aD hm (aD ho ?_);rfl
 refine aD d ?_;refine aj (au ?_);refine aj (Nz ?_ _);refine aD ho ?_;cases o with
 | matched=>exact au (h1 rfl)
 | failed=>exact au (h2 rfl)
 | stuck w=>exact absurd rfl (h3 w)
theorem ay4:Slot "re.Pattern" "search" "re.Pattern.search":=
 .of (owner:="re.Pattern") (n:="search") (by rw[lF,iK];kernel_rfl) (by decide+kernel) (by decide+kernel) (by decide+kernel)
  (by first | exact .inl (by decide+kernel) | exact .inr (by decide+kernel)) (by rw[ir];kernel_rfl)
theorem aQ9:vz (.builtin "re.Pattern.search")=pure (.type "method_descriptor"):=by refine aD yg ?_;kernel_rfl
theorem aM4:Ab table "re.Pattern.search"=aa eF.«re.Pattern.search»:=BX rfl
theorem aR0 (a b:aB):yZ "re.Pattern.search" ⟨[a,b], []⟩:=rfl
theorem aK1:PlainAttrs "re.Pattern":=
 ⟨⟨"object.__getattribute__",by rw[lF,iK];kernel_rfl,by decide+kernel⟩,by rw[lF,iK];kernel_rfl⟩
def av4 (h:bL)(a:aW)(code:Array Nat):Prop:=∃o vs t cs n ot,h.get? a=aa o∧o.cls= .type "re.Pattern" ∧o.dict=aC∧o.data= .fields vs∧reRawNat (vs.getD 2 .none)=0∧reRawNat (vs.getD 6 .none)=0∧vs.getD 5 .none= .ref t∧h.get? t=aa ot∧ot.data= .seq cs n∧(cs.map reRawOf).map (·.toNat)=code
theorem aT1 {code:Array Nat}(hp:av4 s.heap a code)(hx:x.length≤16777216)
  (h:Q {pattern:= .ref a,string:= .str x t,code,text:=x.cps,kind:=0,groups:=0,pos:=0,lim:=x.cps.size} s):aO M A (reTarget "re.Pattern.search" "search" ⟨[.ref a,.str x t], []⟩) Q E s:=by
 refine qm λY Z=> ?_;obtain⟨o,vs,tt,cs,n,ot,ho,hc,_,hd,h2,h6,h5,hot,Eg,sZ⟩:=hp;refine Z ?_;show aO _ _ (reNamed "re.Pattern.search" "search" ["string","pos","endpos"] 1 [.str x t] []>>=_) _ _ _;refine aD (show reNamed "re.Pattern.search" "search" ["string","pos","endpos"] 1 [.str x t] []=pure [aa (.str x t),aC,aC] from rfl) ?_;refine aj (au ?_);refine aj (au ?_);refine aj (au ?_);refine aj (Ht ho hd ?_);refine aj (au ?_);refine aD h6 (oh (bu (by decide)) ?_);refine oh (bu (by decide)) ?_;refine aj (au ?_);refine aD h5 (aD h2 ?_);refine aj (aj (gf hot Eg (au ?_)));refine au ?_;have e3:min (2^63-1:Int).toNat x.cps.size=x.cps.size:=by have:x.cps.size≤16777216:=hx;refine aD (show(2^63-1:Int).toNat=9223372036854775807 from by decide) ?_;exact zg (ak this (by decide))
 show Q ⟨.ref a,.str x t,(cs.map reRawOf).map (·.toNat),x.cps,0,0,min (0:Int).toNat x.cps.size,min (2^63-1:Int).toNat x.cps.size⟩ s;refine aD (show min (0:Int).toNat x.cps.size=0 from rfl) (aD e3 (aD sZ ?_));exact h
end
section
variable {prog:nq}{w:uK}{A:bQ}{E:PQ aB}{s:aV}
open Builtin.Re
theorem aT2 {code:Array Nat}{bad:Nat->Bool}(hp:av4 s.heap a code)(C:RE.qj code pc bad)(S:RE.yO code pc)(hx:x.length≤16777216)
  (hy:∀J:x.cps.toList.any bad=az,∀m h' o,∀J:(∀b o,∀J:s.heap.get? b=aa o,h'.get? b=aa o),∀J:h'.get? m=aa o,∀J:o.cls= .type "re.Match",∀J:(∃fs,o.data= .fields fs),Q (.ref m) {s with heap:=h'}) (hn:∀J:x.cps.toList.any bad=aG,Q .none s):
  aO (gK prog w) A (call (.builtin "re.Pattern.search") [.ref a,.str x t]) Q E s:=by
 have hT:s.TypeIs (.ref a) "re.Pattern":=by obtain⟨o,_,_,_,_,_,ho,hc,_⟩:=hp;exact⟨o,ho,hc⟩
 refine gj ay4 hT aM4 ?_ (aR0 _ _);refine aj (aT1 hp hx ?_);refine lO (RE.FZ C S x.cps) λm' e1 e2=> ?_;refine aj (a8i e1 e2 (λe=> ?_) (λe=> ?_) λw e=> ?_)
 ·have hb:x.cps.toList.any bad=az:=by
   cases q:x.cps.toList.any bad with
   | true=>rfl
   | false=>rw[q]at e;cases e
  refine aj ?_;refine aj (wpAny_newTuple ?_ (aD jf (uO rfl)));refine eN ?_;refine au ⟨_,rfl,hy hb _ _ _ (λb o e=>aK _ (aK _ e)) (bj _ rfl) rfl ⟨_,rfl⟩⟩
 ·have hb:x.cps.toList.any bad=aG:=by
   cases q:x.cps.toList.any bad with
   | false=>rfl
   | true=>rw[q]at e;cases e
  exact au ⟨_,rfl,hn hb⟩
 ·cases q:x.cps.toList.any bad<;>rw[q]at e<;>cases e
end
end Mine.Internal
end
section
namespace Mine.Internal
open PySem PySem.W PySem.Calls PyProof.Rows
open PySem.AutoSeq1 (wpAny_loadPart')
variable {Γ:Cx}{n m:Nat}{k:Kd}
section
variable {prog:nq}{w:uK}{A:bQ}{E:PQ aB}{s:aV}
theorem Wv (hh:A.handled=aC)(hit:s.heap.IsTupleIter it t i)(ht:s.heap.IsTuple t items)
  (h1:∀x h',∀J:items[i]?=aa x,∀J:h'.IsTupleIter it t (i+1),∀J:jG it s.heap h',F (.done (.ret x)) {s with heap:=h'})
  (h2:∀J:items[i]?=aC,∀h' e,∀J:uY it s.heap h',∀J:(∃o,h'.get? e=aa o∧o.cls= .type "StopIteration"),E' (.ref e) {s with heap:=h'}):
  aO (gK prog w) A (eF.«tuple_iterator.__next__» ⟨[.ref it], []⟩) F E' s:=by
 refine Rt (id hit) λo ho hc hd=> ?_;obtain⟨ol,hol,_,nl,hdl⟩:=ht;show aO _ _ (field (.ref it) 0>>=_) _ _ s;refine aj (cZ ho hd (x:= .ref t) rfl ?_);refine aD (bu bU) ?_;refine aj (cZ ho hd (x:= .int i 0) rfl ?_);refine aj (gf hol hdl ?_);cases hx:items[i]? with
 | some x=>
  simp only[pC,hx];refine aj (pZ ho hd (by simp) (au (h1 x _ hx ?_ (pD ..))));exact⟨_,iz _ ho (uN (kJ hd _)),(aev ..).trans hc,by
   rw[kJ hd];simp [jD]⟩
 | none=>
  simp only[pC,hx];refine aj (jE (aj (pZ ho hd (by simp) ?_)));refine aj ?_;refine aj (eN ?_ (by size_fits));refine aj (fX (a:=tK) (by first | rfl | (rfl)) ?_);refine eN ?_ (by size_fits);exact aj (wpAny_handled (aD hh (aj (au (wpAny_throw (h2 hx _ _ (((pD ..).extBut.push _).push _) ⟨_,bj _ rfl,rfl⟩))))))
theorem ap7 (hh:A.handled=aC)(hit:s.heap.IsTupleIter it t i)(ht:s.heap.IsTuple t items)
  (h1:∀x h',∀J:items[i]?=aa x,∀J:h'.IsTupleIter it t (i+1),∀J:jG it s.heap h',Q x {s with heap:=h'})
  (h2:∀J:items[i]?=aC,∀h' e,∀J:uY it s.heap h',∀J:(∃o,h'.get? e=aa o∧o.cls= .type "StopIteration"),E (.ref e) {s with heap:=h'}):
  aO (gK prog w) A (aew (.ref it)) Q E s:=by
 refine aj (ji hit.typeIs wg (gj wg hit.typeIs PySem.F.entry_tuple_iterator_next ?_ (PySem.F.args_tuple_iterator_next_1 _)));exact Wv hh hit ht (λx h' hx hi hs=>⟨x,rfl,au (h1 x h' hx hi hs)⟩) h2
theorem NB (hh:A.handled=aC)(it t:aW)(oA:t≠it)(items:Array aB):Draws prog w A it [it,t] items.size (λi v=>items[i]?=aa v) (λi h=>h.IsTupleIter it t i∧h.IsTuple t items) where
 live:=λU U st=>let ⟨o,ho,_⟩:=st.1;⟨o,ho⟩
 frame:=λU U U st hk=>by obtain⟨⟨o,ho,r⟩,o',uh,r'⟩:=st;exact⟨⟨o,hk it (by simp) o ho,r⟩,o',hk t (by simp) o' uh,r'⟩
 item:=λi s Q E hi st hQ=>ap7 hh st.1 st.2 (λx h' hx axp Ga=>hQ x h' s.toks hx ⟨axp,st.2.extBut Ga.extBut oA⟩ Ga) λhx=>by simp [hi]at hx
 done:=λs Q E st hE=>ap7 hh st.1 st.2 (λx h' hx=>by simp at hx) λU=>hE
set_option tactic.hygienic true in
set_option maxHeartbeats 1000000 in
theorem aM5 (l:aW)(items:Array aB)(n:Nat)(vN:Option aW)(sl:Array (Option aB)):
  Meets (eF.«enumerate.__new__» ⟨[.type "enumerate",.ref l], []⟩) (λU R s=>s.heap.get? l=aa {cls:= .type "tuple",dict:=vN,data:= .seq items n,slots:=sl}∧
   R (.ok (.ret (.ref (s.heap.push {cls:= .type "tuple_iterator",data:= .fields #[.ref l,.int 0 0]}).objs.size)))
    {s with heap:=(s.heap.push {cls:= .type "tuple_iterator",data:= .fields #[.ref l,.int 0 0]}).push {cls:= .type "enumerate",data:= .fields #[.none,.bool aG,.ref s.heap.objs.size,jD 0,.none,.none]}}):=
 .of_wp λprog w A R s h=>by
  obtain⟨hp,g,d,tk,os⟩:=s;obtain⟨hl,h⟩:=h;have aKq:=sub_enumerate;have hL:Heap.IsTuple (Shared.heap ⟨hp,g,d,tk,os⟩) l items:=⟨_,hl,rfl,n,rfl⟩
  wp_walk using oO hl
  refine wpAny_stack_any λst=>au ?_
  split
  ·rename_i c _ _ _ _ _
   cases(c==jl "enumerate")
   ·wp_walk using oO hl,ph hL
    exact⟨_,rfl,h⟩
   ·wp_walk using oO hl,ph hL
    exact⟨_,rfl,h⟩
  ·wp_walk using oO hl,ph hL
   exact⟨_,rfl,h⟩
theorem aK2 (hl:s.heap.get? l=aa {cls:= .type "tuple",data:= .seq items n})
  (h:∀h',∀J:IsEnum h' (s.heap.objs.size+1) s.heap.objs.size 0 .none,∀J:h'.IsTupleIter s.heap.objs.size l 0,∀J:h'.objs.size=s.heap.objs.size+2,∀J:(∀b o,∀J:s.heap.get? b=aa o,h'.get? b=aa o),Q (.ref (s.heap.objs.size+1)) {s with heap:=h'}):
  aO (gK prog w) A (call (.type "enumerate") [.ref l]) Q E s:=by
 refine callType_new PySem.F.called_enumerate (by decide) (PySem.F.typeCall_enumerate_1 _) (PySem.F.newCall_enumerate_1 _) (λobj=>PySem.F.args_object_init_2 obj _) PySem.F.entry_enumerate_new (aM5 l items n aC #[]) ⟨hl, ?_⟩;have hz:(s.heap.push {cls:= .type "tuple_iterator",data:= .fields #[.ref l,.int 0 0]}).objs.size=s.heap.objs.size+1:=gQ ..;refine aD hz ?_;have he:IsEnum ((s.heap.push {cls:= .type "tuple_iterator",data:= .fields #[.ref l,.int 0 0]}).push {cls:= .type "enumerate",data:= .fields #[.none,.bool aG,.ref s.heap.objs.size,jD 0,.none,.none]}) (s.heap.objs.size+1) s.heap.objs.size 0 .none:=by have:=bj (s.heap.push {cls:= .type "tuple_iterator",data:= .fields #[.ref l,.int 0 0]}) (o:={cls:= .type "enumerate",data:= .fields #[.none,.bool aG,.ref s.heap.objs.size,jD 0,.none,.none]}) rfl;rw[hz]at this;exact this
 exact⟨⟨_,he,rfl⟩,h _ he ⟨_,aK _ (bj _ rfl),rfl,rfl⟩ (by rw[gQ,hz]) λb o x=>aK _ (aK _ x)⟩
end
end Mine.Internal
end
section
namespace Mine.Internal
open PySem PySem.W PySem.Calls PyProof.Rows
variable {Γ:Cx}
section
variable {prog:nq}{w:uK}{A:bQ}{E:PQ aB}{s:aV}
structure Z3 (h:bL)(z TI TO i1 i2 l1 l2:aW)(k:Nat)(xs ys:Array aB)(f0:aB):Prop where
 z:IsZip h z TI TO f0
 ti:IsPair h TI (.ref i1) (.ref i2)
 to:∃a b,IsPair h TO a b
 i1:h.IsListIter i1 l1 k
 i2:h.IsTupleIter i2 l2 k
 l1:h.IsList l1 xs
 l2:h.IsTuple l2 ys
theorem Ww {Q:PQ aB}(hh:A.handled=aC)(D:Hu z TI TO i1 i2 l1 l2)(S:Z3 s.heap z TI TO i1 i2 l1 l2 k xs ys .none)(hx:xs[k]?=aa x)(hy:ys[k]?=aa y)
  (hQ:∀h',∀J:Z3 h' z TI TO i1 i2 l1 l2 (k+1) xs ys (jD s.heap.objs.size),∀J:IsPair h' s.heap.objs.size x y,∀J:h'.objs.size=s.heap.objs.size+1,∀J:(∀c o,∀J:c≠z,∀J:c≠TO,∀J:c≠i1,∀J:c≠i2,∀J:s.heap.get? c=aa o,h'.get? c=aa o),Q (.ref s.heap.objs.size) {s with heap:=h'}):
  aO (gK prog w) A (eF.«zip.__next__» ⟨[.ref z], []⟩) (λfin s'=>∃v,fin= .done (.ret v)∧Q v s') E s:=by
 obtain⟨hz,hTI,⟨a,b,hTO⟩,h1,h2,hl1,hl2⟩:=S;refine aj (m:=field (.ref z) 2) (cZ hz rfl (x:= .bool aG) rfl ?_);refine aj (cZ hz rfl (x:= .ref TI) rfl ?_);refine aj (gf hTI rfl ?_);refine aj ?_;refine aj (cZ hz rfl (x:= .none) rfl (au ?_));refine oh (bG rfl) ?_;refine aj (jE ?_);refine aj (cZ hz rfl (x:= .ref TO) rfl ?_);refine aj (lC hz (by simp) λjj xu qz=> ?_);replace xu:IsZip jj z TI TO .ellipsis:=xu;refine aj (oh (dW ..) (aj (aj (uz ?_))));refine aj (adp (h1.extBut qz.extBut D.i1z) (hl1.extBut qz.extBut D.l1z) hx λni aqv rO=>au ?_);refine aj (gf (rO.extBut _ _ D.TOi1 (qz.extBut _ _ D.TOz hTO)) rfl ?_);refine aj (xg (rO.extBut _ _ D.TOi1 (qz.extBut _ _ D.TOz hTO)) λrB Br rP=> ?_);replace Br:IsPair rB TO x b:=Br;refine aj (tZ (au (oh (dW ..) (aj (aj (uz ?_))))));have wL:∀c o,∀J:c≠z,∀J:c≠i1,∀J:c≠TO,∀J:s.heap.get? c=aa o,rB.get? c=aa o:=λc o c1 c2 c3 e=>rP.extBut _ _ c3 (rO.extBut _ _ c2 (qz.extBut _ _ c1 e));have Wx:rB.IsTupleIter i2 l2 k:=by obtain⟨o,e,r⟩:=h2;exact⟨o,wL _ _ D.i2z D.i12.symm D.TOi2.symm e,r⟩
 have Gb:rB.IsTuple l2 ys:=by obtain⟨o,e,r⟩:=hl2;exact⟨o,wL _ _ D.l2z D.l2i1 D.l2TO e,r⟩
 refine aj (ap7 hh Wx Gb (λy' wM hy' a8m uo=>au ?_) λe=>by rw[hy]at e;exact Sw e);obtain rfl:y=y':=by replace hy':=hy▸hy';cases hy';rfl
 have Wy:=uo.extBut _ _ D.TOi2 Br;refine aj (gf Wy rfl ?_);refine aj (xg Wy λvm Bs xF=> ?_);replace Bs:IsPair vm TO x y:=Bs;refine aj (tZ (au (oh (aui ..) (au ?_))));refine aj (gf Bs rfl ?_);refine aj (wpAny_newTuple ?_);have wJ:vm.objs.size=s.heap.objs.size:=aD xF.1 (aD uo.1 (aD rP.1 (aD rO.1 (aD qz.1 rfl))));have Wz:=xF.extBut _ _ D.TOz.symm (uo.extBut _ _ D.i2z.symm (rP.extBut _ _ D.TOz.symm (rO.extBut _ _ D.i1z.symm xu)));have yP:∀c o,∀J:c≠z,∀J:c≠TO,∀J:c≠i1,∀J:c≠i2,∀J:s.heap.get? c=aa o,vm.get? c=aa o:=λc o c1 c2 c3 c4 e=>xF.extBut _ _ c2 (uo.extBut _ _ c4 (wL c o c1 c3 c2 e));have a8n:vm.IsTupleIter i2 l2 (k+1):=by obtain⟨o,e,r⟩:=a8m;exact⟨o,xF.extBut _ _ D.TOi2.symm e,r⟩
 refine aj ?_;have a8o:IsZip (vm.push {cls:= .type "tuple",data:= .seq #[x,y]}) z TI TO .ellipsis:=aK _ Wz;refine aj (lC a8o (by simp) λaKr WD WK=> ?_);replace WD:IsZip aKr z TI TO (jD vm.objs.size):=WD;refine lC WD (by simp) λahs Jf WL=> ?_;replace Jf:IsZip ahs z TI TO (jD vm.objs.size):=Jf;have up:∀c o,∀J:c≠z,∀J:vm.get? c=aa o,ahs.get? c=aa o:=λc o c1 e=>WL.extBut _ _ c1 (WK.extBut _ _ c1 (aK _ e));have aqw:=WL.extBut _ _ (qT (cA Wz)) (WK.extBut _ _ (qT (cA Wz)) (bj _ rfl));have hz8:ahs.objs.size=vm.objs.size+1:=by simp only[WL.1,WK.1,gQ]
 rw[wJ]at Jf aqw hz8;refine au ⟨_,rfl, ?_⟩;refine aD wJ ?_;exact hQ ahs ⟨Jf,up _ _ D.TIz (yP _ _ D.TIz D.TITO D.TIi1 D.TIi2 hTI),⟨_,_,up _ _ D.TOz Bs⟩,(((aqv.extBut rP.extBut D.TOi1.symm).extBut uo.extBut D.i12).extBut xF.extBut D.TOi1.symm).at λo e=>up _ o D.i1z e,by obtain⟨o,e,r⟩:=a8n;exact⟨o,up _ o D.i2z e,r⟩,hl1.at λo e=>up _ o D.l1z (yP _ o D.l1z D.l1TO D.l1i1 D.l1i2 e),by obtain⟨o,e,r⟩:=hl2;exact⟨o,up _ o D.l2z (yP _ o D.l2z D.l2TO D.l2i1 D.l2i2 e),r⟩⟩ aqw hz8 λc o c1 c2 c3 c4 e=>up c o c1 (yP c o c1 c2 c3 c4 e)
theorem aht (hh:A.handled=aC)(D:Hu z TI TO i1 i2 l1 l2)(S:Z3 s.heap z TI TO i1 i2 l1 l2 k xs ys .none)(axr:xs[k]?=aC∨ys[k]?=aC)
  (hE:∀h' e,∀J:(∀c o,∀J:c≠z,∀J:c≠TO,∀J:c≠i1,∀J:c≠i2,∀J:s.heap.get? c=aa o,h'.get? c=aa o),∀J:(∃o,h'.get? e=aa o∧o.cls= .type "StopIteration"),E (.ref e) {s with heap:=h'}):
  aO (gK prog w) A (eF.«zip.__next__» ⟨[.ref z], []⟩) Q E s:=by
 obtain⟨hz,hTI,⟨a,b,hTO⟩,h1,h2,hl1,hl2⟩:=S;refine aj (m:=field (.ref z) 2) (cZ hz rfl (x:= .bool aG) rfl ?_);refine aj (cZ hz rfl (x:= .ref TI) rfl ?_);refine aj (gf hTI rfl ?_);refine aj ?_;refine aj (cZ hz rfl (x:= .none) rfl (au ?_));refine oh (bG rfl) ?_;refine aj (jE ?_);refine aj (cZ hz rfl (x:= .ref TO) rfl ?_);refine aj (lC hz (by simp) λjj xu qz=> ?_);replace xu:IsZip jj z TI TO .ellipsis:=xu;refine aj (oh (dW ..) (aj (aj (uz ?_))));cases hx:xs[k]? with
 | none=>
  refine aj (wpAny_nextOf_list_end hh (h1.extBut qz.extBut D.i1z) (hl1.extBut qz.extBut D.l1z) hx λni e rO he=> ?_);refine lO he λoe hoe hce=> ?_;have aqx:=rO _ _ D.i1z.symm xu;have hez:e≠z:=λx=>by cases x;replace hoe:=aqx▸hoe;cases hoe;simp at hce
  refine lC aqx (by simp) λrB U rP=>hE rB e (λc o c1 U c3 U x=>rP.extBut _ _ c1 (rO _ _ c3 (qz.extBut _ _ c1 x))) ⟨oe,rP.extBut _ _ hez hoe,hce⟩
 | some x=>
  have hy:ys[k]?=aC:=by
   rcases axr with h | h
   ·replace h:=hx▸h;exact Sw h
   ·exact h
  refine aj (adp (h1.extBut qz.extBut D.i1z) (hl1.extBut qz.extBut D.l1z) hx λni aqv rO=>au ?_);refine aj (gf (rO.extBut _ _ D.TOi1 (qz.extBut _ _ D.TOz hTO)) rfl ?_);refine aj (xg (rO.extBut _ _ D.TOi1 (qz.extBut _ _ D.TOz hTO)) λrB Br rP=> ?_);refine aj (tZ (au (oh (dW ..) (aj (aj (uz ?_))))));have wL:∀c o,∀J:c≠z,∀J:c≠i1,∀J:c≠TO,∀J:s.heap.get? c=aa o,rB.get? c=aa o:=λc o c1 c2 c3 e=>rP.extBut _ _ c3 (rO.extBut _ _ c2 (qz.extBut _ _ c1 e));have Wx:rB.IsTupleIter i2 l2 k:=by obtain⟨o,e,r⟩:=h2;exact⟨o,wL _ _ D.i2z D.i12.symm D.TOi2.symm e,r⟩
  have Gb:rB.IsTuple l2 ys:=by obtain⟨o,e,r⟩:=hl2;exact⟨o,wL _ _ D.l2z D.l2i1 D.l2TO e,r⟩
  refine aj (ap7 hh Wx Gb (λy' wM hy'=>by replace hy':=hy▸hy';exact iu hy') λU wM e uo he=> ?_);refine lO he λoe hoe hce=> ?_;have aqy:=uo _ _ D.i2z.symm (rP.extBut _ _ D.TOz.symm (rO.extBut _ _ D.i1z.symm xu));have hez:e≠z:=λx=>by cases x;replace hoe:=aqy▸hoe;cases hoe;simp at hce
  refine lC aqy (by simp) λvm U xF=>hE vm e (λc o c1 c2 c3 c4 x=>xF.extBut _ _ c1 (uo _ _ c4 (wL c o c1 c3 c2 x))) ⟨oe,xF.extBut _ _ hez hoe,hce⟩
end
end Mine.Internal
end
section
namespace Mine.Internal
open PySem PySem.W PySem.Calls PyProof.Rows
open PySem.AutoSeq1 (wpAny_loadPart')
variable {Γ:Cx}{n m:Nat}{k:Kd}
noncomputable abbrev zH2 (h:bL)(l1 l2:aW):bL:=(zipH1 h l1).push {cls:= .type "tuple_iterator",data:= .fields #[.ref l2,.int 0 0]}
noncomputable abbrev zH3 (h:bL)(l1 l2:aW):bL:=(zH2 h l1 l2).push {cls:= .type "tuple",data:= .seq #[.ref h.objs.size,.ref (zipH1 h l1).objs.size]}
noncomputable abbrev zH4 (h:bL)(l1 l2:aW):bL:=(zH3 h l1 l2).push {cls:= .type "tuple",data:= .seq #[.none,.none]}
noncomputable abbrev zH5 (h:bL)(l1 l2:aW):bL:=(zH4 h l1 l2).push {cls:= .type "zip",data:= .fields #[.none,.bool aG,.bool aG,.ref (zH2 h l1 l2).objs.size,.ref (zH3 h l1 l2).objs.size]}
theorem NK (l1 l2:aW)(xs ys:Array aB):
  Meets (eF.«zip.__new__» ⟨[.type "zip",.ref l1,.ref l2], []⟩) (λU R s=>s.heap.IsList l1 xs∧s.heap.IsTuple l2 ys∧
   R (.ok (.ret (.ref (zH4 s.heap l1 l2).objs.size))) {s with heap:=zH5 s.heap l1 l2}):=
 .of_wp λprog w A R s h=>by
  obtain⟨hp,g,d,tk,os⟩:=s;refine Be h λhl1 hl2 h=> ?_;have aKq:=sub_zip;have hL2:Heap.IsTuple (Shared.heap ⟨hp.push {cls:= .type "list_iterator",data:= .fields #[.ref l1,.int 0 0]},g,d,tk,os⟩) l2 ys:=by exact lO hl2 λo e r=>⟨o,aK _ e,r⟩
  wp_walk using wpAny_pyIter_list hl1,ph hL2
  exact⟨_,rfl,h⟩
section
variable {prog:nq}{w:uK}{A:bQ}{E:PQ aB}{s:aV}
theorem WM (hl1:s.heap.IsList l1 xs)(hl2:s.heap.IsTuple l2 ys)
  (h:∀h',∀J:Z3 h' (s.heap.objs.size+4) (s.heap.objs.size+2) (s.heap.objs.size+3) s.heap.objs.size (s.heap.objs.size+1) l1 l2 0 xs ys .none,∀J:h'.objs.size=s.heap.objs.size+5,∀J:(∀c o,∀J:s.heap.get? c=aa o,h'.get? c=aa o),Q (.ref (s.heap.objs.size+4)) {s with heap:=h'}):
  aO (gK prog w) A (call (.type "zip") [.ref l1,.ref l2]) Q E s:=by
 refine callType_new PySem.F.called_zip (by decide) (PySem.F.typeCall_zip_2 _ _) (PySem.F.newCall_zip_2 _ _) (λobj=>PySem.F.args_object_init_3 obj _ _) PySem.F.entry_zip_new (NK l1 l2 xs ys) ⟨hl1,hl2, ?_⟩;have z1:(zipH1 s.heap l1).objs.size=s.heap.objs.size+1:=gQ ..;have z2:(zH2 s.heap l1 l2).objs.size=s.heap.objs.size+2:=by rw[gQ,z1]
 have z3:(zH3 s.heap l1 l2).objs.size=s.heap.objs.size+3:=by rw[gQ,z2]
 have z4:(zH4 s.heap l1 l2).objs.size=s.heap.objs.size+4:=by rw[gQ,z3]
 have kp:∀c o,∀J:s.heap.get? c=aa o,(zH5 s.heap l1 l2).get? c=aa o:=λc o x=>aK _ (aK _ (aK _ (aK _ (aK _ x))));have g5:(zH5 s.heap l1 l2).get? (zH4 s.heap l1 l2).objs.size=aa _:=bj _ rfl;have g4:(zH5 s.heap l1 l2).get? (zH3 s.heap l1 l2).objs.size=aa _:=aK _ (bj _ rfl);have g3:(zH5 s.heap l1 l2).get? (zH2 s.heap l1 l2).objs.size=aa _:=aK _ (aK _ (bj _ rfl));have g2:(zH5 s.heap l1 l2).get? (zipH1 s.heap l1).objs.size=aa _:=aK _ (aK _ (aK _ (bj _ rfl)));rw[z2,z3,z4]at g5;rw[z1,z2]at g3;rw[z3]at g4;rw[z1]at g2;exact aD z4 (lO hl1 λo1 e1 r1=>(lO hl2 λo2 e2 r2=>⟨⟨_,g5,rfl⟩,h _ ⟨g5,g3,⟨_,_,g4⟩,⟨_,(aK _ (aK _ (aK _ (aK _ (bj _ rfl))))),rfl,rfl⟩,⟨_,g2,rfl,rfl⟩,⟨o1,kp _ _ e1,r1⟩,⟨o2,kp _ _ e2,r2⟩⟩ (by rw[gQ,z4]) kp⟩))
theorem WN {k:Nat}{Q:PQ aB}(hh:A.handled=aC)(D:Hu z TI TO i1 i2 l1 l2)(S:Z3 s.heap z TI TO i1 i2 l1 l2 k xs ys .none)(hx:xs[k]?=aa x)(hy:ys[k]?=aa y)
  (hr:∀v aU,∀J:aO (gK prog w) A (jL (.Tuple elts kk pos) (.ref z) v) (λU bO=>Q v bO) E aU,Qr (aa v) aU)
  (hQ:∀h',∀J:Z3 h' z TI TO i1 i2 l1 l2 (k+1) xs ys .none,∀J:h'.IsTuple s.heap.objs.size #[x,y],∀J:(∀c o,∀J:c≠z,∀J:c≠TO,∀J:c≠i1,∀J:c≠i2,∀J:s.heap.get? c=aa o,h'.get? c=aa o),Q (.ref s.heap.objs.size) {s with heap:=h'}):aO (gK prog w) A (wX (.ref z)) Qr E s:=by
 refine aj (qL (ji ⟨_,S.z,rfl⟩ oR (gj oR ⟨_,S.z,rfl⟩ BZ (Ww hh D S hx hy λh' S' hp wJ kp=>au (hr _ _ ?_)) (Ba _))));refine wpAny_letOwnedTupleGo_zip S'.z λpL aKt sb=>hQ pL ?_ ⟨_,sb.extBut _ _ (qT (cA S.z)) hp,rfl,_,rfl⟩ λc o c1 c2 c3 c4 e=>sb.extBut _ _ c1 (kp c o c1 c2 c3 c4 e);obtain⟨q1,q2,⟨a,b,q3⟩,q4,q5,q6,q7⟩:=S';exact⟨aKt,sb.extBut _ _ D.TIz q2,⟨a,b,sb.extBut _ _ D.TOz q3⟩,q4.extBut sb.extBut D.i1z,by obtain⟨o,e,r⟩:=q5;exact⟨o,sb.extBut _ _ D.i2z e,r⟩,q6.extBut sb.extBut D.l1z,by obtain⟨o,e,r⟩:=q7;exact⟨o,sb.extBut _ _ D.l2z e,r⟩⟩
theorem WQ {k:Nat}(hh:A.handled=aC)(D:Hu z TI TO i1 i2 l1 l2)(S:Z3 s.heap z TI TO i1 i2 l1 l2 k xs ys .none)(axr:xs[k]?=aC∨ys[k]?=aC)
  (hQ:∀h',∀J:(∀c o,∀J:c≠z,∀J:c≠TO,∀J:c≠i1,∀J:c≠i2,∀J:s.heap.get? c=aa o,h'.get? c=aa o),Q aC {s with heap:=h'}):aO (gK prog w) A (wX (.ref z)) Q E s:=by
 refine aj (qL (ji ⟨_,S.z,rfl⟩ oR
  (gj oR ⟨_,S.z,rfl⟩ BZ (aht hh D S axr λh' e hk he=> ?_) (Ba _))))
 exact lO he λo ho hc=>(aj (qI ⟨o,ho,hc⟩ isSubtype_stop (au (hQ _ hk))))
end
end Mine.Internal
end
section
namespace Mine.Internal
open PySem PySem.W PySem.Calls PyProof.Rows
section
variable {Γ:Cx}
namespace Sp
theorem av5:Slot "wrapper_descriptor" "__get__" "wrapper_descriptor.__get__":= .of (owner:="wrapper_descriptor") (n:="__get__") (by rw[lF,iK];kernel_rfl) (by decide+kernel) (by decide+kernel) (by decide+kernel)
 (by first | exact .inl (by decide+kernel) | exact .inr (by decide+kernel)) (by rw[ir];kernel_rfl)
theorem Jg:Slot "method_descriptor" "__get__" "method_descriptor.__get__":= .of (owner:="method_descriptor") (n:="__get__") (by rw[lF,iK];kernel_rfl) (by decide+kernel) (by decide+kernel) (by decide+kernel)
 (by first | exact .inl (by decide+kernel) | exact .inr (by decide+kernel)) (by rw[ir];kernel_rfl)
theorem aM6:Ab table "wrapper_descriptor.__get__"=aa eF.«wrapper_descriptor.__get__»:=BX rfl
theorem WR:Ab table "method_descriptor.__get__"=aa eF.«method_descriptor.__get__»:=BX rfl
theorem Jh (a b c:aB):yZ "wrapper_descriptor.__get__" ⟨[a,b,c], []⟩:=rfl
theorem ahv (a b c:aB):yZ "method_descriptor.__get__" ⟨[a,b,c], []⟩:=rfl
theorem Ji:vz (.builtin "list.__init__")=pure (.type "wrapper_descriptor"):=by refine aD yg ?_;kernel_rfl
theorem WT:vz (.builtin "list.__len__")=pure (.type "wrapper_descriptor"):=by refine aD yg ?_;kernel_rfl
variable {M:yw}{A:bQ}{E:PQ aB}{s:aV}{x C:aW}{Q:PQ Fin}
theorem aT3 (h:Q (.done (.ret (.ref s.heap.objs.size))) {s with heap:=s.heap.push {cls:= .type bt,data:= .fields vs.toArray}})(hb:vs.length<20:=by decide):aO M A (do ret (←newFields bt vs)) Q E s:=aj (eN (au h) (by size_fits))
theorem as4 {nm:aM}(hi:lA M s.heap (jU (.ref x) (.type "list")) az)(h:Q (.done (.ret (.ref s.heap.objs.size))) {s with heap:=s.heap.push {cls:= .type bt,data:= .fields #[d,.ref x]}}):
  aO M A (do (do let (_,cls)←(pure (nm,.type "list"):RW (aM×aB));if !(←jU (.ref x) cls) then R);ret (←newFields bt [d,.ref x])) Q E s:=
 aj (aj (au (aj (hi.here (au (aT3 h (by simp)))))))
theorem WW (hi:lA M s.heap (jU (.ref x) (.type "list")) az)(h:Q (.done (.ret (.ref s.heap.objs.size))) {s with heap:=s.heap.push {cls:= .type "method-wrapper",data:= .fields #[.builtin "list.__init__",.ref x]}}):
  aO M A (eF.«wrapper_descriptor.__get__» ⟨[.builtin "list.__init__",.ref x,.ref C], []⟩) Q E s:=aj (fX rfl (as4 (nm:="__init__") hi h))
theorem ahw (hi:lA M s.heap (jU (.ref x) (.type "list")) az)(h:Q (.done (.ret (.ref s.heap.objs.size))) {s with heap:=s.heap.push {cls:= .type "method-wrapper",data:= .fields #[.builtin "list.__len__",.ref x]}}):
  aO M A (eF.«wrapper_descriptor.__get__» ⟨[.builtin "list.__len__",.ref x,.ref C], []⟩) Q E s:=aj (fX rfl (as4 (nm:="__len__") hi h))
theorem ahx (hi:lA M s.heap (jU (.ref x) (.type "list")) az)(h:Q (.done (.ret (.ref s.heap.objs.size))) {s with heap:=s.heap.push {cls:= .type "builtin_function_or_method",data:= .fields #[.builtin "list.pop",.ref x]}}):
  aO M A (eF.«method_descriptor.__get__» ⟨[.builtin "list.pop",.ref x,.ref C], []⟩) Q E s:=by
 refine aj (fX (a:=(.builtin "list.pop",aa (.ref x),aa (.ref C))) rfl ?_);exact oh (bu (by decide+kernel)) (as4 (nm:="pop") hi h)
structure Binds (Γ:Cx)(x C:aW)(id bt:String):Prop where
 ty:∃dt g,vz (.builtin id)=pure (.type dt)∧Hr (.type dt) "__get__"=pure (aa (.builtin g))∧∀{A:bQ}{s:aV}{Q:PQ aB}{E:PQ aB},∀J:lA Γ.M s.heap (jU (.ref x) (.type "list")) az,∀J:Q (.ref s.heap.objs.size) {s with heap:=s.heap.push {cls:= .type bt,data:= .fields #[.builtin id,.ref x]}},aO Γ.M A (call (.builtin g) [.builtin id,.ref x,.ref C]) Q E s
theorem Gd:Binds Γ x C "list.__init__" "method-wrapper":=⟨_,_,Ji,av5.lookup,λhi h=>gj av5 Ji aM6 (WW hi ⟨_,rfl,h⟩) (Jh _ _ _)⟩
theorem NP:Binds Γ x C "list.__len__" "method-wrapper":=⟨_,_,WT,av5.lookup,λhi h=>gj av5 WT aM6 (ahw hi ⟨_,rfl,h⟩) (Jh _ _ _)⟩
theorem NQ:Binds Γ x C "list.pop" "builtin_function_or_method":=⟨_,_,Cu,Jg.lookup,λhi h=>gj Jg Cu WR (ahx hi ⟨_,rfl,h⟩) (ahv _ _ _)⟩
end Sp
section
variable {A:bQ}{E:PQ aB}{s:aV}{x C D so:aW}{id bt:String}{name:aM}
theorem WX (B:Sp.Binds Γ x C id bt)(hi:lA Γ.M s.heap (jU (.ref x) (.type "list")) az)
  (Ck:s.heap.get? so=aa (ks_superObj D x C)) (ho:acz Γ.K aog "thirdparty.any"=aa aC) (hC:lA Γ.M s.heap (mroOf (.ref C)) l) (X:Γ.K.In s.heap)
  (hf:alongIn Γ.K name ((l.dropWhile (· != .ref D)).drop 1)=aa (aa (.builtin id))) (hxC:x≠C) (hn:(name==("__class__":aM))=aG)
  (h:Q (.done (.ret (.ref s.heap.objs.size))) {s with heap:=s.heap.push {cls:= .type bt,data:= .fields #[.builtin id,.ref x]}}):
  aO Γ.M A (eF.«super.__getattribute__» ⟨[.ref so,.str name tk], []⟩) Q E s:=by
 obtain⟨dt,g,h1,h2,h3⟩:=B.ty;obtain⟨hp,gs,d,t,os⟩:=s;show aO _ _ (field (.ref so) 0>>=_) Q E _;refine aj (cZ Ck rfl (show(#[.ref D,.ref x,.ref C]:Array aB)[0]?=aa (.ref D) from rfl) ?_);refine aj (cZ Ck rfl (show(#[.ref D,.ref x,.ref C]:Array aB)[1]?=aa (.ref x) from rfl) ?_);refine aj (cZ Ck rfl (show(#[.ref D,.ref x,.ref C]:Array aB)[2]?=aa (.ref C) from rfl) ?_);refine aD hn ?_;rw[mY];refine aD (bu (by simp)) ?_;refine aj (ks_wpAny_notOpaque (looks_opaque X ho) ?_);refine aD (bu (by simp)) ?_;refine aj (hC.here ?_);refine aj (ks_forIn_along X (λU U=>rfl) rfl ?_ hf);exact aj (fX h1 (aj (fX h2 (aD (show(adl x==adl C)=aG from by simp [hxC]) (aD (bu (by simp)) (aj (bT (h3 hi (aj (au (au (au h))))))))))))
theorem NT (B:Sp.Binds Γ x C id bt)(hi:lA Γ.M s.heap (jU (.ref x) (.type "list")) az)
  (Ck:s.heap.get? so=aa (ks_superObj D x C)) (ho:acz Γ.K aog "thirdparty.any"=aa aC) (hC:lA Γ.M s.heap (mroOf (.ref C)) l) (X:Γ.K.In s.heap)
  (hf:alongIn Γ.K name ((l.dropWhile (· != .ref D)).drop 1)=aa (aa (.builtin id))) (hxC:x≠C) (hn:(name==("__class__":aM))=aG)
  (h:Q (.ref s.heap.objs.size, []) {s with heap:=s.heap.push {cls:= .type bt,data:= .fields #[.builtin id,.ref x]},toks:=s.toks+1}):
  aO Γ.M A (rZ (.ref so) name pl) Q E s:=by
 have hT:∀t',({s with toks:=t'}:aV).TypeIs (.ref so) "super":=λU=>⟨_,Ck,rfl⟩;refine aj (oK (hT s.toks) mG.lookup ?_);refine oh (bG PySem.F.ks_canon_super_ga) ?_;refine aj (aj (adh (bT (aj (Ad (hT (s.toks+1)) (aj (fX mG.lookup ?_)))))));refine aj (fX rfl ?_);refine aj (qL (bT ?_));refine aj (fX (mG.bind _) ?_);refine bJ (Q:=λv s'=>v= .ref s.heap.objs.size∧s'={s with heap:=s.heap.push {cls:= .type bt,data:= .fields #[.builtin id,.ref x]},toks:=s.toks+1}) (E:=λU U=>False)
  (gj mG (hT (s.toks+1)) PySem.F.ks_entry_super_ga (WX B hi Ck ho hC X hf hxC hn ⟨_,rfl,rfl,rfl⟩) (PySem.F.ks_gaArgs_super _ _)) (λv s' hv=> ?_) λU U z=>z.elim
 obtain⟨rfl,rfl⟩:=hv;exact au (au h)
theorem aT4 (hb:s.heap.get? b=aa {cls:= .type bt,data:= .fields #[.builtin id,.ref x]})(hbt:bt="method-wrapper" ∨bt="builtin_function_or_method")
  (plain:plainId id=az) (entry:Ab table id=aa B) (hc:aO Γ.M A.in1 (mW id ⟨[.ref x], []⟩) (λU s'=>s'=s) (λU U=>False) s)
  (h:aO Γ.M A.in1 (B ⟨[.ref x], []⟩) (λfin s'=>∃v,fin= .done (.ret v)∧Q v s') E s):aO Γ.M A (call (.ref b) []) Q E s:=by
 refine mR (Ea ?_);refine aj (Hn hb ?_);dsimp only;refine aD (bG (by rcases hbt with rfl | rfl<;>decide)) ?_;show aO _ _ (if (jl bt !=jl "method")=az then(do mW id ⟨[.ref x], []⟩;again (.builtin id ⟨[.ref x], []⟩)) else _) _ _ _;refine aD (bG (by rcases hbt with rfl | rfl<;>decide)) ?_;refine aj (bJ hc (λU s' e=> ?_) λU U z=>z.elim);cases e;refine au ⟨plainId_quiet plain _,Eb entry ?_⟩;refine aD (Es plain _) ?_;refine bJ h (λfin s' h'=> ?_) λU U z=>z;obtain⟨v,rfl,hv⟩:=h';exact hv
theorem NZ (h:Q () s):aO Γ.M A (mW "list.__init__" ⟨[.ref x], []⟩) Q E s:=
 fX rfl h
theorem WY (h:Q () s):aO Γ.M A (mW "list.__len__" ⟨[.ref x], []⟩) Q E s:=
 fX rfl h
theorem Xa (sig:Manifest.Signature)(hs:lJ "list.pop"=aa sig)(full:String)(hf:full="_Accumulator.pop")(v:aW):auf "list.pop" {sig with full} ⟨[.ref v], []⟩=pure ():=by
 subst hf;have:sig=(lJ "list.pop").get (by decide+kernel):=by simp [hs]
 subst this;kernel_rfl
theorem Xb (hm:lA Γ.M s.heap (jU (.ref x) (.type "module")) aG)(hx:s.heap.get? x=aa oc)(hc:oc.cls= .ref C)(hd:∀c,oc.data≠ .cls c)
 (hC:lA Γ.M s.heap (classData C) cd) (hq:cd.qualname=("_Accumulator":aM)) (hT:lA Γ.M s.heap (vz (.ref C)) (.type "type")) (h:Q () s):aO Γ.M A (mW "list.pop" ⟨[.ref x], []⟩) Q E s:=by
 refine jA (bZ.mp (by decide+kernel:(lJ "list.pop").isSome=az)) λsig hs=> ?_;delta mW;simp only[hs,(show gC "list.pop"=aa .method from by decide+kernel)];exact aD (bu (by decide)) (aj (hm.here (aD (bu (by decide+kernel)) (aj (ks_wpAny_isType_inst hx hd (aD (bu (by decide)) (aj (aj (Hn hx (au (aD hc (aj (hC.here (aj (hT.here (aD (bG (by decide)) (fX (Xa sig hs _ (by refine aD hq ?_;decide+kernel) _) h)))))))))))))))))
variable {o:oH}{us:Array aB}{nn:Nat}{Q:PQ PySem.Fin}
theorem Xc (ha:s.heap.get? x=aa o)(hd:o.data= .seq us nn)(hz:us.size≤sO)(h:Q (.done (.ret .none)) {s with heap:=s.heap.update x (dM λU=> #[])}):
  aO Γ.M A (eF.«list.__init__» ⟨[.ref x], []⟩) Q E s:=by
 refine aj (wpAny_listItems ha hd ?_);refine aj (vI ha hd ?_ ?_ ?_)
 ·exact aj (tZ (au h))
 ·exact hz
 ·refine aD jf ?_;simp
theorem ahy (ha:s.heap.get? x=aa o)(hd:o.data= .seq us nn)(h:∀tk,Q (.done (.ret (.int us.size tk))) {s with toks:=s.toks+1}):
  aO Γ.M A (eF.«list.__len__» ⟨[.ref x], []⟩) Q E s:=aj (fX rfl (aj (aj (km ha (aD hd (au (aj (aoo (au (h _))))))))))
theorem ahz (ha:s.heap.get? x=aa o)(hd:o.data= .seq us nn)(hn:us.size=n+1)(hv:us[n]?=aa v)(hz:us.size≤sO)(h:Q (.done (.ret v)) {s with heap:=s.heap.update x (dM λus=>us.eraseIdxIfInBounds n)}):
  aO Γ.M A (eF.«list.pop» ⟨[.ref x], []⟩) Q E s:=by
 refine aj (fX rfl ?_);dsimp only;refine aj (au ?_);refine aD (bu (by decide)) ?_;refine aj (wpAny_listItems ha hd ?_);refine aD (bu (by simp [Array.isEmpty,hn])) ?_;have hk:kE (-1) us.size=aa n:=by unfold kE;refine aD hn ?_;simp;lia
 refine aD hk ?_;simp only[lL,hv,Option.map_some];exact aj (vI ha hd (au h) hz (nF cj (aD xQ (ak (List.eraseIdx_sublist ..).length_le (aD cj (gq hz))))))
end
end
section
variable {Γ:Cx}
def SeqAt (h:bL)(a:aW)(items:Array aB):Prop:=∃o,h.get? a=aa o∧∃n,o.data= .seq items n
theorem SeqAt.at' (x:SeqAt h a items)(k:∀o,∀J:h.get? a=aa o,h'.get? a=aa o):SeqAt h' a items:=lO x λo e r=>⟨o,k o e,r⟩
section
variable {prog:nq}{w:uK}{A:bQ}{E:PQ aB}{s:aV}{it l:aW}{i:Nat}{items:Array aB}
theorem Xd (hit:s.heap.IsListIter it l i)(hl:SeqAt s.heap l items)(hx:items[i]?=aa x)(hQ:∀h',∀J:h'.IsListIter it l (i+1),∀J:jG it s.heap h',Q (aa x) {s with heap:=h'}):
  aO (gK prog w) A (wX (.ref it)) Q E s:=by
 refine Rt (id hit) λo ho hc hd=> ?_;obtain⟨ol,hol,nl,hdl⟩:=hl;refine aj (qL (ji hit.typeIs pF (gj pF hit.typeIs auj ?_ (args_listiter_next _))));refine aj (m:=field (.ref it) 0) (cZ ho hd (x:= .ref l) rfl ?_);refine oh (bu bU) ?_;refine aj (cZ ho hd (x:= .int i 0) rfl ?_);refine aj (gf hol hdl ?_);simp only[pC,hx];refine aj (pZ ho hd (by simp) (au ⟨x,rfl,au (hQ _ ?_ (pD ..))⟩));exact⟨_,iz _ ho (uN (kJ hd _)),(aev ..).trans hc,by rw[kJ hd];simp [jD]⟩
theorem Xe (hh:A.handled=aC)(hit:s.heap.IsListIter it l i)(hl:SeqAt s.heap l items)(hx:items[i]?=aC)(hQ:∀h',∀J:uY it s.heap h',Q aC {s with heap:=h'}):
  aO (gK prog w) A (wX (.ref it)) Q E s:=by
 refine Rt (id hit) λo ho hc hd=> ?_;obtain⟨ol,hol,nl,hdl⟩:=hl;refine aj (qL (ji hit.typeIs pF (gj pF hit.typeIs auj ?_ (args_listiter_next _))));refine aj (m:=field (.ref it) 0) (cZ ho hd (x:= .ref l) rfl ?_);refine oh (bu bU) ?_;refine aj (cZ ho hd (x:= .int i 0) rfl ?_);refine aj (gf hol hdl ?_);simp only[pC,hx];refine aj (jE (aj (pZ ho hd (by simp) ?_)));refine aj ?_;refine aj (eN ?_ (by size_fits));refine aj (fX (a:=tK) (by first | rfl | (rfl)) ?_);refine eN ?_ (by size_fits);refine aj (wpAny_handled ?_);refine aD hh ?_;refine aj (au (wpAny_throw ?_));refine aj (qI ⟨_,bj _ rfl,rfl⟩ isSubtype_stop ?_);exact au (hQ _ (((pD ..).extBut.push _).push _))
theorem Xf (hh:A.handled=aC)(I ax:aW)(oA:ax≠I)(items:Array aB)(Ts:Nat->aW)(vals:Nat->Array aB)(hit:∀j,∀J:j<items.size,items[j]?=aa (.ref (Ts j)))(hTI:∀j,∀J:j<items.size,Ts j≠I):
  WalksU prog w A I (I::ax::(cD items.size).map Ts) [I] items.size (λj v=>j<items.size∧v=vals j)
   (λj h=>h.IsListIter I ax j∧SeqAt h ax items∧∀k,∀J:k<items.size,h.IsTuple (Ts k) (vals k))
   (λj T h=>(j<items.size∧T=Ts j)∧h.IsListIter I ax (j+1)∧SeqAt h ax items∧∀k,∀J:k<items.size,h.IsTuple (Ts k) (vals k)) where
 sub:=λb hb=>by simp at hb;simp [hb]
 frame:=λU U U st hk=>⟨st.1.at λo e=>hk I (by simp) o e,st.2.1.at' λo e=>hk ax (by simp) o e,λk hk'=>(st.2.2 k hk').at λo e=>hk (Ts k) (Lh _ (Lh _ (dq.mpr ⟨k,dK.mpr hk',rfl⟩))) o e⟩
 item:=λi s Q E hi st hQ=>by exact Xd st.1 st.2.1 (hit i hi) λh' axp Ga=>(hQ (Ts i) (vals i) h' s.toks ⟨hi,rfl⟩ ((λk hk'=>(st.2.2 k hk').extBut Ga.extBut (hTI k hk')) i hi) ⟨⟨hi,rfl⟩,axp,st.2.1.at' (λo e=>Ga.extBut ax o oA e),(λk hk'=>(st.2.2 k hk').extBut Ga.extBut (hTI k hk'))⟩ λb o hb e=>Ga.extBut b o (λh=>hb (by simp [h])) e)
 go:=λU U U U U s Q U hm hQ=>wpAny_letOwnedTupleGo_listiter hm.2.1 (hQ s.heap hm.2 λU U U e=>e)
 apart:=λj T U hm axs=>by
  rcases aY.mp axs with e | e
  ·exact hTI j hm.1.1 (hm.1.2▸e)
  ·exact Cv e
 done:=λs Q E st hQ=>Xe hh st.1 st.2.1 (by simp) λh' he'=>hQ h' s.toks λb o hb e=>he' b o (λh=>hb (by simp [h])) e
 self:=λU U U U st hQ=>wpAny_pyIter_listiter st.1 hQ
end
section
variable {A:bQ}{E:PQ aB}{s:aV}{x:aW}
theorem Oa:gC "list.__iter__"=aa .slot∨gC "list.__iter__"=aa .method:=by decide+kernel
theorem Ob (X:Γ.K.In s.heap)(I:Ii s.heap x c){id:String}(hf:gb Γ.K (.ref c) name=aa (aa (.builtin id)))(slot:Slot "list" name id)
  (h:aO Γ.M A (call (.builtin id) [.ref x]) (λv=>Q (aa v)) E s):aO Γ.M A (callSpecialIfBoundUnlessNone? (.ref x) name axt) Q E s:=by
 refine bT (aj (aj (aj (I.type.here ((fM X hf).here ?_)))));simp only[slot.bind];refine aj (wpAny_askSetting (wpAny_ite ?_));have fin:aO Γ.M A (if (Value.builtin id==tK)=az then(axt>>=λv=>pure (aa v)) else(call (.builtin id) [.ref x]>>=λv=>pure (aa v))) Q E s:=by exact aj (bJ h (λv s' z=>au z) λU U z=>z)
 split
 ·exact aj (au (au fin))
 ·exact wpAny_tryCatch (aj (au (au fin)))
theorem Xg (K:M6 Γ)(X:Γ.K.In s.heap)(I:Ii s.heap x Γ.G.fW)(h:Q (.ref s.heap.objs.size) {s with heap:=s.heap.push {cls:= .type "list_iterator",data:= .fields #[.ref x,.int 0 0]}}):
  aO Γ.M A (uy (.ref x)) Q E s:=by
 refine aj (aj (I.type.here ((fM X K.iter).here ?_)));refine aj (Ob X I K.iter slot_list_iter ?_);refine aj8 K X I Oa (by decide+kernel:xK "list.__iter__"=aa ("list","__iter__")) (by decide+kernel) entry_list_iter (args_list_iter _) ?_;show aO _ _ (do ret (←newFields "list_iterator" [.ref x,jD 0])) _ _ s;refine aj (eN (au ⟨_,rfl, ?_⟩) (by size_fits));exact aj (oK ⟨_,bj _ rfl,rfl⟩ pF.lookup (au h))
end
section
variable {prog:nq}{w:uK}{A:bQ}{E:PQ aB}{s:aV}{I:aW}{fp wr:List aW}{G:Array zZ->Array zZ->Prop}{n:Nat}{P:Nat->aB->Prop}{St:PQ Nat}
theorem Oc (W:WalksS prog w A I fp wr G n P St):WalksS prog w A I fp wr G (n+1) (λi v=>∃j,i=j+1∧P j v) (λi s=>∃j,i=j+1∧St j s) where
 sub:=W.sub
 grefl:=W.grefl
 gtrans:=W.gtrans
 frame:=(by rintro i s h' tk ⟨j,e,st⟩ ht hk;exact⟨j,e,W.frame j s h' tk st ht hk⟩)
 item:=(by rintro i s Q E hi ⟨j,e,st⟩ hQ;exact W.item j s Q E (by lia) st λv s' hP RD hm=>hQ v s' ⟨j,e,hP⟩ ⟨j+1,congrArg tH (by assumption),RD⟩ hm)
 done:=λs Q E ⟨j,e,st⟩ hQ=>W.done s Q E ((show j=n by lia)▸st) hQ
 self:=(by rintro i s Q E ⟨j,e,st⟩ hQ;exact W.self j s Q E st hQ)
theorem Od (a b:aB):yZ "sum" ⟨[a,b], []⟩:=rfl
noncomputable def ai3 (k:Int)(val:Nat->Int):Nat->Int
 | 0=>k
 | i+1=>val i
set_option backward.match.sparseCases true in
theorem Xh
  (h:aO (gK prog w) A.in1 (uy x) (λit bO=>∃(I:aW) (fp wr:List aW) (G:Array zZ->Array zZ->Prop) (n:Nat) (P:Nat->aB->Prop) (St:PQ Nat) (val:Nat->Int),it= .ref I∧WalksS prog w A.in1 I fp wr G n P St∧St 0 bO∧(∀b∈fp,b<bO.heap.objs.size)∧(∀i v,∀J:P i v,∃t,v= .int (val i) t)∧
   ∀s' t',∀J:Moved wr G bO s',Q (.int (zj (ai3 k val) (n+1)) t') s') E s):
  aO (gK prog w) A (call (.builtin "sum") [x,.int k t]) Q E s:=by
 refine call_function_tree PySem.F.kind_sum PySem.F.plain_sum PySem.F.entry_sum (Od _ _) ?_;unfold eF.«sum»;refine oh (bu (show¬2+0>2 by decide)) ?_;refine aj (fX rfl ?_);refine aj (bJ h (λit bO ni=> ?_) λU U e=>e);refine qm λY Z=> ?_;obtain⟨I,fp,wr,G,n,P,St,val,rfl,W,hst,hfp,aKw,hQ⟩:=ni;refine Z ?_;have tail:∀tk st yq,∀J:(st=0∨st=2),∀J:bO.toks≤yq,aO (gK prog w) A.in1 (do
   forIn [("str","strings","''"),("bytes","bytes","b''"),("bytearray","bytearray","b''")] tL λ(x:String×String×String) U=>do
    let b←jU (.int k tk) (.type x.1)
    if b=az then do
     BL "sum.start-refused"
     raiseErrorMade "TypeError" (toString "sum() can't sum "++toString x.2.fst++toString " [use "++toString x.2.snd++toString ".join(seq) instead]")
     pure (jt tL)
    else pure (jt tL)
   let l←newList [.int k tk]
   again (.builtin "sum.loop" ⟨[.ref I,l,jD st,jD 0], []⟩)) (λfin s'=>match fin with
    | .done f=>(match (Except.ok f:za) with
     | .ok (.ret v)=>Q v s'
     | .ok _=>False
     | .error e=>E e s')
    | .again c'=>c'.quiet=az∧gD (gK prog w) A c' (λr s'=>match r with
     | .ok (.ret v)=>Q v s'
     | .ok _=>False
     | .error e=>E e s') s') (λe s'=>E e s') {bO with toks:=yq}:=by
  intro tk st yq hs htk;refine aj (oh (dW ..) (aj (aj (qI (T:="int") (b:=aG) (yV _ _ _) PySem.sub_int_str ?_))));refine oh (bu (by decide)) (au (oh (dW ..) (aj (aj (qI (yV _ _ _) PySem.sub_int_bytes ?_)))));refine oh (bu (by decide)) (au (oh (dW ..) (aj (aj (qI (yV _ _ _) PySem.sub_int_bytearray ?_)))));refine oh (bu (by decide)) (au (oh (aui ..) (au ?_)));refine aj (eN ?_);refine au ⟨plainId_quiet PySem.F.plain_sum_loop _,codeAny_sum_loopAnyS (Oc W) (ai3 k val) (by rintro i v ⟨j,e,hP⟩;subst e;exact aKw j v hP) bO.heap.objs.size (λhm=>eX _ (hfp _ hm)) n 1 _ tk 0 st hs (by rfl) (fB _)
   ⟨0,rfl,W.frame 0 bO _ _ hst htk λb U o e=>aK _ e⟩ ?_ λs' t' hm=> ?_⟩
  ·have e:zj (ai3 k val) 1=k:=by simp [zj,ai3]
   exact aD e (bj _ rfl)
  ·exact hQ s' t' (hm.drop_new htk)
 dsimp only
 split
 ·exact aj (jE (aj (aoo (aj (au (tail bO.toks 0 _ (.inl rfl) (dC _)))))))
 ·exact aj (au (tail t 2 bO.toks (.inr rfl) (aN _)))
end
end
section
variable {Γ:Cx}{n m:Nat}{k:Kd}
noncomputable def H7 (cells:List (aM×aW)):List (aM×lD)->List (aM×aW)->List (aM×aW)
 | [],acc=>acc
 | (x,.free)::r,acc=>H7 cells r ((x,(cells.lookup x).getD 0)::acc)
 | _::r,acc=>H7 cells r acc
theorem aM7:∀(names:List (aM×lD))(acc:List (aM×aW)),∀J:(∀x,∀J:(x,fD)∈names,(env.cells.lookup x).isSome=az),(forIn names acc λ(x:aM×lD) (cs:List (aM×aW))=>if (x.2== .free)=az then(do let a←cellOf env x.1;pure (jt ((x.1,a)::cs))) else pure (jt cs):RW (List (aM×aW)))=pure (H7 env.cells names acc):=by
 intro zz
 induction zz with
 | nil=>
  intro _ _;exact rfl
 | cons hd0 r ih=>
  obtain⟨x,kd⟩:=hd0;intro acc h;rw[dW];have ih:=λacc=>ih acc λy hy=>h y (.tail _ hy);cases kd with
  | free=>
   obtain⟨c,hc⟩:=bZ.mp (h x (.head _));refine aD (show cellOf env x=pure c from by delta cellOf;exact aD hc rfl) ?_;show _=pure (H7 env.cells r ((x,(env.cells.lookup x).getD 0)::acc));exact aD hc (ih _)
  | _=>exact ih _
theorem ap8 (h:∀x,∀J:(x,fD)∈scope.names,(env.cells.lookup x).isSome=az):Hv scope env=pure (H7 env.cells scope.names []):=
 (rfl:Hv scope env=(forIn scope.names [] _>>=λcs=>pure cs)).trans (congrArg (λt=>t>>=λcs=>pure cs) (aM7 scope.names [] h))
theorem az1:∀{names:List (aM×lD)}{acc:List (aM×aW)},∀J:(∀x,∀J:(x,fD)∈names,(cells.lookup x).isSome=az),∀J:(H7 cells names acc).lookup x=aa c,acc.lookup x=aa c∨((x,fD)∈names∧cells.lookup x=aa c):=by
 intro zz
 induction zz with
 | nil=>
  intro _ _ e;exact .inl e
 | cons hd0 r ih=>
  obtain⟨y,kd⟩:=hd0;intro acc h e;have h':∀x,∀J:(x,fD)∈r,(cells.lookup x).isSome=az:=λz hz=>h z (.tail _ hz);cases kd with
  | free=>
   rcases ih h' e with e | e
   ·by_cases q:x=y
    ·subst q
     obtain⟨c',hc⟩:=bZ.mp (h x (.head _));rw[z6,hc]at e;exact .inr ⟨.head _,hc.trans e⟩
    ·exact .inl ((w5 q).symm.trans e)
   ·exact .inr ⟨.tail _ e.1,e.2⟩
  | _=>exact(ih h' e).imp id λe=>⟨.tail _ e.1,e.2⟩
theorem Xi:∀{names:List (aM×lD)}{acc:List (aM×aW)},∀J:(acc.lookup x).isSome=az,((H7 cells names acc).lookup x).isSome=az:=by
 intro zz
 induction zz with
 | nil=>
  intro _ e;exact e
 | cons hd0 r ih=>
  obtain⟨y,kd⟩:=hd0;intro acc e;cases kd with
  | free=>
   refine ih ?_;by_cases q:x=y
   ·subst q;refine aD z6 ?_;rfl
   ·refine aD (w5 q) ?_;exact e
  | _=>exact ih e
theorem az2:∀{names:List (aM×lD)}{acc:List (aM×aW)},∀J:(x,fD)∈names,((H7 cells names acc).lookup x).isSome=az:=by
 intro zz
 induction zz with
 | nil=>intros;contradiction
 | cons hd0 r ih=>
  obtain⟨y,kd⟩:=hd0;intro acc h;rcases aY.mp h with q | q
  ·cases q
   exact Xi (names:=r) (by refine aD z6 ?_;rfl)
  ·cases kd with
   | _=>exact ih q
theorem aib (h:(Tv sc).contains x=az):(x,fD)∈sc.names:=by
 obtain⟨⟨y,kd⟩,hp,e⟩:=ru.mp (dj.mp h);by_cases q:kd= .free
 ·rw[bG q]at e
  obtain rfl:=aq e;exact q▸hp
 ·replace e:=(bu q)▸e;exact iu e
structure CompK (k:Kd)(sc:jB):Prop where
 xT:∀x,∀J:(x,fD)∈sc.names,k x=aa .cell∨k x=aa .free
 kind:sc.kind= .function
 nodup:(sc.names.map (·.1)).Nodup
 noe:sc.names.lookup ("errors":aM)≠aa .local
 sJ:∀p∈sc.names,p.2≠ .cell
theorem Jj {α:Type}:∀{r:List (aM×α)},∀J:(r.map (·.1)).Nodup,∀{x:aM}{v:α},∀J:(x,v)∈r,r.lookup x=aa v:=by
 intro zz
 induction zz with
 | nil=>intros;contradiction
 | cons hd0 r ih=>
  obtain⟨y,w⟩:=hd0;intro nd x v h;rcases aY.mp h with h | h
  ·cases h;exact z6
  ·exact(w5 λ(q:x=y)=>(gF.mp nd).1 (q▸dq.mpr ⟨(x,v),h,rfl⟩)).trans (ih (gF.mp nd).2 h)
theorem aM8 (h:ad4 k sc=az):CompK k sc:=by
 refine⟨λx hx=> ?_,fG (j9 (d7 (d7 (d7 (d7 h))))),fH (j9 (d7 (d7 (d7 h)))),λe=> ?_,λp hp e=> ?_⟩
 ·have:=bF.mp (d7 (d7 (d7 (d7 (d7 h))))) _ hx
  rcases dJ.mp this with q | q
  ·exact .inl (fG ((dJ.mp q).resolve_left nofun))
  ·exact .inr (fG q)
 ·have h3':=(j9 (d7 (d7 h)))
  rw[e]at h3';exact rU h3'
 ·have:=bF.mp (j9 h) p hp
  rw[e]at this;exact rU this
theorem as5 {sc:jB}{env:fu}:∀{names:List (aM×lD)}{kd:lD},∀J:names.lookup x=aa kd,(names.map λ(n,k)=>if (k== .free&&env.scope.kind== .function&&env.kindOf n==aa .cell) then(n,uP) else(n,k)).lookup x=aa kd∨(kd= .free∧(names.map λ(n,k)=>if (k== .free&&env.scope.kind== .function&&env.kindOf n==aa .cell) then(n,uP) else(n,k)).lookup x=aa .cell):=by
 intro zz
 induction zz with
 | nil=>intros;contradiction
 | cons hd0 r ih=>
  obtain⟨y,kd'⟩:=hd0;intro kd h;show lN x ((if (kd'==fD&&env.scope.kind== .function&&env.kindOf y==aa .cell)=az then(y,uP) else(y,kd'))::_)=_∨_∧lN x ((if (kd'==fD&&env.scope.kind== .function&&env.kindOf y==aa .cell)=az then(y,uP) else(y,kd'))::_)=_;by_cases q:x=y
  ·subst q
   obtain rfl:=aq (z6.symm.trans h);by_cases hc:(kd'==fD&&env.scope.kind== .function&&env.kindOf x==aa .cell)=az
   ·rw[bG hc];exact .inr ⟨fG (d7 (d7 hc)),z6⟩
   ·rw[bu hc];exact .inl z6
  ·have ih:=ih ((w5 q).symm.trans h)
   by_cases hc:(kd'==fD&&env.scope.kind== .function&&env.kindOf y==aa .cell)=az
   ·rw[bG hc,w5 q];exact ih
   ·rw[bu hc,w5 q];exact ih
noncomputable abbrev Oe (sc:jB)(env:fu)(L:aW):fu:=compEnvC sc (H7 env.cells sc.names []) L env
theorem CompK.has (c:CompK k sc)(O:v9 Γ k env)(x:aM)(hx:(x,fD)∈sc.names):(env.cells.lookup x).isSome=az:=(c.xT x hx).elim (λh=>(O.Ub x h).2) λh=>(O.xT x h).2
theorem CompK.a8q (c:CompK k sc)(O:v9 Γ k env):v9 Γ (kdOf sc) (Oe sc env L) where
 kind:=c.kind
 glob:=O.glob
 blt:=O.blt
 loc:=λx hx=>lookup_relabel_local hx
 Ub:=λx hx=>absurd rfl (c.sJ _ (mem_of_lookup hx))
 xT:=λx hx=>⟨((as5 (sc:=sc) hx).imp id (·.2)).symm,az2 (mem_of_lookup hx)⟩
 gn:=λx hx=>(as5 (sc:=sc) hx).resolve_right λh=>nomatch h.1
 Mj:=λhx=>absurd hx c.noe
section
variable {l:List fu}{ρ:eO}{H:Hp}{s:aV}{env:fu}{loc cR:j8}{sc:jB}{h':bL}
theorem CompK.old (c:CompK k sc)(O:v9 Γ k env)(e:(Oe sc env L).cells.lookup x=aa a):env.cells.lookup x=aa a:=((az1 (c.has O) e).resolve_left nofun).2
theorem FR.takes (fr:∀x,∀J:(x,fD)∈sc.names,(env.cells.lookup x).isSome=az)(S:SR Γ ρ H s)(F:FR Γ l ρ s.heap env loc cR){env':fu}(hl:env'.locals=L)(wk:env'.cells=H7 env.cells sc.names [])(hL:s.heap.get? L=aC)(kp:∀b o,∀J:s.heap.get? b=aa o,h'.get? b=aa o)(hn:h'.Ns L λU=>aC):
  FR Γ l ρ h' env' [] (cR.filter λp=>(Tv sc).contains p.1):=by
 have F':=F.sH (λL o h1 U e=>⟨⟨o,kp L o e,rfl⟩,h1⟩) λv u x=>x.mono (H9.refl ρ s.heap) λb o e U=>kp b o e;have old:∀{x:aM}{a:aW},∀J:env'.cells.lookup x=aa a,env.cells.lookup x=aa a:=λe=>((az1 fr ((congrArg (lN _) wk).symm.trans e)).resolve_left nofun).2;refine⟨F'.uU,⟨_,hl▸hn,λy v e=>iu e⟩,λy v e=> ?_,hl▸(K4 S hL).obj,λy a e=>F.xV y a (old e),hl▸(K4 S hL).tab,λy a e=>F.sY y a (old e),hl▸(K4 S hL).base,λy a e=>F.vQ y a (old e),λy a e=>F'.qe y a (old e),λx y a e e'=>F.apart x y a (old e) (old e'),λy a e q=> ?_,λh=>rU h⟩
 ·obtain⟨hf,e⟩:=V9 _ e
  obtain⟨a,u,ha,hu,hv⟩:=F'.cells y v e;obtain⟨a',ha'⟩:=bZ.mp (az2 (aib hf));exact⟨a,u,(congrArg (lN y) wk).trans (ha'.trans ((((az1 fr ha').resolve_left nofun).2).symm.trans ha)),hu,hv⟩
 ·obtain⟨o,_,ho,_⟩:=F.qe y a (old e)
  obtain rfl:a=L:=q.trans hl;exact iu (hL.symm.trans ho)
theorem CompK.frame (c:CompK k sc)(O:v9 Γ k env)(S:SR Γ ρ H s)(F:FR Γ l ρ s.heap env loc cR)(hL:s.heap.get? L=aC)(kp:∀b o,∀J:s.heap.get? b=aa o,h'.get? b=aa o)(hn:h'.Ns L λU=>aC):
  FR Γ l ρ h' (Oe sc env L) [] (cR.filter λp=>(Tv sc).contains p.1):=FR.takes (c.has O) S F rfl rfl hL kp hn
end
end
section
variable {Γ:Cx}{n m:Nat}{k:Kd}
theorem ai4 (hl:s.heap.get? l=aa (listOf items nn))(hz:items.size≤16777216)
  (h:Q .none {s with heap:=s.heap.update l (dM (·.push x))}):aO (gK prog w) A (call (.builtin "list.append") [.ref l,x]) Q E s:=
 qF slot_list_append ⟨_,hl,rfl⟩ entry_list_append (args_list_append _ _) (PySem.AutoListH.list_append_list_val_0 l items nn x (aD jf hz)) ⟨hl,h⟩
noncomputable abbrev ag0 (env:fu)(ifs:List aF)(b:Bool):RW Bool:=forIn ifs b λc r=>if r=az then do let ok←isTrue c env (eval c env);pure (jt ok) else pure (jt r)
theorem aq9 (I:PQ Nat)(E:PQ aB)
  (turn:∀n s,∀J:I n s,aO (gK prog w) A (wX it) (λr aU=>match r with
   | none=>R (.ok .next) aU
   | some v=>aO (gK prog w) A (jL target it v) (λU iI=>aO (gK prog w) A (vB target env v) (λU bO=>
     aO (gK prog w) A (ag0 env ifs az) (λok jX=>
      if ok=az then aO (gK prog w) A (eval elt env) (λx sI=>
       aO (gK prog w) A (call (.builtin "list.append") [acc,x]) (λU kj=>∃m,m<n∧I m kj) (λU U=>False) sI) (λU U=>False) jX
      else∃m,m<n∧I m jX) (λU U=>False) bO) (λU U=>False) iI) (λU U=>False) aU) (λU U=>False) s)
  (n:Nat) (h:I n s):gD (gK prog w) A (.compLoop (.ListComp elt [⟨target,iter,ifs,0⟩] scope pos) 0 it acc env) R s:=by
 refine codeAny_loop rfl I (λn s hI=> ?_) n h;refine wpAny_noted ?_;rw[compTurn_list];refine aj (dR (aj (bJ (turn n s hI) (λr aU jj=> ?_) λU U h'=>h'.elim)));cases r with
 | none=>exact au jj
 | some v=>
  refine aj (bJ jj (λU iI h₀=> ?_) λU U h'=>h'.elim);refine aj (bJ h₀ (λU bO ni=>aj (bJ ni (λok jX rB=> ?_) λU U h'=>h'.elim)) λU U h'=>h'.elim);cases ok with
  | false=>exact au ⟨rfl,rB⟩
  | true=>
   exact aj (aj (bJ rB (λx sI wM=>aj (bJ wM (λU kj vm=>au (au ⟨rfl,vm⟩)) λU U h'=>h'.elim)) λU U h'=>h'.elim))
section
variable {env:fu}{l:List fu}{A:bQ}{ρ:eO}{s:aV}{H:Hp}
theorem Og (es:List aF):ag0 env es aG=pure aG:=by
 induction es with
 | nil=>rfl
 | cons e es ih=>exact(dW ..).trans ih
theorem Oh (ih:AllB Γ n m k)(O:v9 Γ k env)(a:jW A l n):∀(es:List aF){H:Hp}{ρ:eO}{s:aV},∀J:SR Γ ρ H s,∀J:FR Γ l ρ s.heap env φ.loc φ.cR,jo Γ l φ.lk A ρ s (allB (vG Γ.G n φ) (es.map (cE m k)) H) (ag0 env es az) De:=by
 intro zz
 induction zz with
 | nil=>
  intro _ _ _ S F;exact .pure S rfl
 | cons e es ihr=>
  intro _ _ _ S F;refine((ih e env l A φ _ _ _ O a S F).iZ (W:=λb aU Q E=>aO Γ.M A (ag0 env es b) Q E aU) (λQ E w=> ?_) λb cM aZ aU u cU cg hb=> ?_:n8 Γ l φ.lk _ _ _ (λQ E=>aO Γ.M A (ag0 env (e::es) az) Q E _) De)
  ·show aO _ _ (forIn (e::es) az _) _ _ _
   rw[dW];exact aj (aj (bJ w (λb aU z=>au z) λU U z=>z))
  ·obtain rfl:u=b:=hb
   cases u with
   | true=>exact ihr cg (F.ext cU)
   | false=>exact .ok λQ E P=>Og es▸au (P.ok cg rfl)
theorem Xj (S:SR Γ ρ H s)(hr:ρ[i]?=aa [D])(hv:VR Γ ρ s.heap v u):n8 Γ l lk ρ s (CK lk i v H) (λQ E=>aO Γ.M A (call (.builtin "list.append") [.ref D,u]) (λU s'=>Q () s') E s) TT:= .opt λp e=> .fV λhz=> .fV λhn=> .ok λQ E P=>by obtain⟨a,us,nn,hi,hr',ha,hs,hz'⟩:=VR.listAt (v:= .ref i) ⟨D, [],hr⟩ S e;refine ai4 ha (hs.size▸hz') (ac8 S hi hr' ha (by simpa using hn) _ ?_ (aD aA (I2 hz)) s.toks λx S'=>P ρ _ () x S' trivial);exact aD jF (hs.append (.mk u [] hv rfl))
theorem Xk {sc:jB}{elt t:aF}{ifs:List aF}{mt:j6}{lk:List Nat}(hT:Di Γ n k t mt)(hB:AllB Γ n m k)(hE:O8 Γ n m k)(O:v9 Γ k env)(a:jW A l n)(S:SR Γ ρ σ.hp s)(F:FR Γ l ρ s.heap env σ.loc σ.cR)(hr:ρ[i]?=aa [D])(hv:VR Γ ρ s.heap v u):
  I3 Γ k l env lk ρ s (turn (u9 Γ.G n) lk i (cE m k elt) mt (ifs.map (cE m k)) v σ) (λQ E=>aO Γ.M A (vB t env u) (λU bO=>aO Γ.M A (ag0 env ifs az) (λok jX=>
   if ok=az then aO Γ.M A (eval elt env) (λx sI=>aO Γ.M A (call (.builtin "list.append") [.ref D,x]) (λU kj=>Q () kj) E sI) E jX else Q () jX) E bO) E s) TT:=
 (hT env l A lk v σ ρ s u O a S F hv).Ml (λQ E w=>w) λU gW aZ aU U cU cg pK U=>
  (Oh hB O a ifs cg pK).stmt pK (λQ E w=>w) λb ou dI bO c dB fJ hb=>by
   obtain rfl:c=b:=hb;cases c with
   | false=>exact .ok λQ E P=>P.done fJ (pK.ext dB) trivial
   | true=>
    exact .lift ((hE elt env l A (gW.fm lk) ou dI bO O a fJ (pK.ext dB)).iZ (λQ E w=>w) λw Bm qy jX x oW rK hw=>Xj rK (oW.grow.get (dB.grow.get (cU.grow.get hr))) hw) (pK.ext dB)
inductive Xl (Γ:Cx)(k:Kd)(l:List fu)(env:fu)(lk um:List Nat)(wr:List aW)(Ni:Nat->bL->Prop)(iy:eO)(iI:aV)(dI:eO)(bO:aV)(step:V->St->v7 Unit)(vs:List V)(jY:St)(j:Nat)(s:aV):Prop
 | mk (i:Nat) (σ:St) (ρ:eO) (hi:i≤vs.length) (hj:j=vs.length-i) (ev:ao9 step (vs.drop i) σ=aa (.ok (),jY)) (L:VJ Γ k l env lk um wr Ni iy iI dI bO i σ ρ s):Xl Γ k l env lk um wr Ni iy iI dI bO step vs jY j s
theorem Xm {mt:j6}{PI:Nat->aB->bL->Prop}{Ni:Nat->bL->Prop}
  (T:ap3 Γ k A t l env lk um dI iI bO vs I fp wr PI Ni) (hT:Di Γ n k t mt) (hB:AllB Γ n m k) (hE:O8 Γ n m k) (O:v9 Γ k env) (a:jW A l n) (hr:dI[i]?=aa [D]) (aLa:VJ Γ k l env lk um wr Ni iy iI dI bO 0 σ ρ s)
  (ev:ao9 (turn (u9 Γ.G n) (um++lk) i (cE m k elt) mt (ifs.map (cE m k))) vs σ=aa (.ok (),jY))
  (fin:∀fj s',∀J:SR Γ fj jY.hp s',∀J:FR Γ l fj s'.heap env jY.loc jY.cR,∀J:Ext Γ (m7 l) (wK Γ k lk iy env) iy iI fj s',∀J:fj[i]?=aa [D],R (.ok .next) s'):
  gD Γ.M A (.compLoop (.ListComp elt [⟨t,it,ifs,0⟩] sc p) 0 (.ref I) (.ref D) env) R s:=by
 refine aq9 (E:=λU U=>False) (Xl Γ k l env lk um wr Ni iy iI dI bO (turn (u9 Γ.G n) (um++lk) i (cE m k elt) mt (ifs.map (cE m k))) vs jY) (λj aU hI=> ?_) vs.length ⟨0,σ,ρ,cL _,rfl,ev,aLa⟩;obtain⟨i',gW,aZ,hle,rfl,lG,L⟩:=hI;by_cases vU:i'<vs.length
 ·rw[mF vU]at lG
  refine T.yN.next vU L.st (λv aU z=>z) λv h' tk hv RD kp=> ?_;have L':=L.item (tk:=tk) T kp RD;exact(Xk (sc:=sc) hT hB hE O a L'.S L'.F (L'.dB.grow.get hr) (T.val i' v _ _ _ hv (bD vU) L'.dB.grow L'.dB.vf.vH)).step (Q:=λU kj=>∃j,j<vs.length-i'∧Xl Γ k l env lk um wr Ni iy iI dI bO (turn (u9 Γ.G n) (um++lk) i (cE m k elt) mt (ifs.map (cE m k))) vs jY j kj) (R':=TT) lG (λU U U U U U U=>trivial) λU Iz yM kj U Aw rM Bo VL r aJw=>⟨vs.length-(i'+1),by omega,i'+1,Iz,yM,vU,rfl,Aw,L'.turn T rM Bo VL⟩
 ·obtain rfl:i'=vs.length:=gZ hle (eU vU)
  replace lG:=tC▸lG;obtain rfl:=(jQ (aq lG)).2;exact T.yN.done aU _ _ L.st λh' tk kp=>(Be (L.moved T kp) λS' F' x'=>(fin _ _ S' F' x' (L.dB.grow.get hr)))
end
end
section
variable {Γ:Cx}{n m:Nat}{k:Kd}
theorem R6 {h:bL}(e:h.get? a=aa o)(e':h.get? b=aC):a≠b:=λz=>by subst z;exact iu (e'.symm.trans e)
theorem n8.step {l:List fu}{lk:List Nat}{ρ:eO}{s:aV}{α β γ δ:Type}{r:Out α}{f:α->Hp->Out γ}{q:Res γ}{H':Hp}{W:∀J:(PQ β),∀J:(PQ aB),Prop}{R:eO->bL->α->β->Prop}{R':eO->bL->γ->∀J:δ,Prop}{Q:PQ β}{Q':PQ δ}{E:PQ aB}
  (h:n8 Γ l lk ρ s r W R) (ev:jd r f=aa (q,H')) (P:N6 Γ l lk ρ s q H' R' Q' E) (kk:∀v cM aZ aU u,∀J:f v cM=aa (q,H'),∀J:Ext Γ (m7 l) (Wr Γ lk ρ) ρ s aZ aU,∀J:SR Γ aZ cM aU,∀J:R aZ aU.heap v u,Q u aU):W Q E:=by
 rcases r with _ | ⟨v | ⟨c,m⟩,cM⟩
 ·exact iu ev
 ·exact h _ _ rfl _ _ λaZ aU u x cg r=>kk v cM aZ aU u ev x cg r
 ·exact h _ _ rfl _ _ (P.take ev:N6 Γ l lk ρ s (.exc c m) cM R' Q' E)
section
variable {env:fu}{l:List fu}{A:bQ}{lk um:List Nat}{ρ aZ dI:eO}{s aU bO:aV}{H:Hp}{sc:jB}{vs:List V}
theorem CompK.it {P:Nat->aB->bL->Prop}{St:Nat->bL->Prop}(c:CompK k sc)(O:v9 Γ k env)(hL:aU.heap.get? L=aC)(x:Ext Γ (m7 l) (Wr Γ lk aZ) aZ aU dI bO)
  (kp:∀b o,∀J:aU.heap.get? b=aa o,bO.heap.get? b=aa o) (T:ap3 Γ k A tg l env lk um aZ s aU vs I fp wr P St):ap3 Γ (kdOf sc) A tg l (Oe sc env L) lk um dI s bO vs I fp wr P St where
 yN:=T.yN
 val:=λi v y fj h' hp hy g im=>T.val i v y fj h' hp hy (x.grow.trans g x.live) λb o e nm=>im b o (kp b o e) nm
 live:=λb hb=>(T.live b hb).imp λo e=>kp b o e
 off:=λb hb=>by
  obtain⟨o,ho⟩:=T.live b hb;refine⟨λq=> ?_,(T.off b hb).fs⟩;rcases q with q | q | ⟨y,hy,_⟩
  ·exact(x.grow.wr q).elim (λq=>(T.off b hb).wr (.inl q)) λq=>iu (q.symm.trans ho)
  ·exact R6 ho hL q
  ·exact c.sJ _ (mem_of_lookup hy) rfl
 new:=T.new
 free:=λb hb=>(T.live b (T.yN.sub b hb)).elim λo ho=>⟨x.Uc (T.free b hb).obj ho,(T.free b hb).tab,(T.free b hb).base⟩
 cR:=λb hb y a e=>T.cR b hb y a (c.old O e)
inductive Xn (Γ:Cx)(s:aV)(ρ:eO)(h:bL)(v:V):aW×aW->Prop
 | mk (D C:aW) (m:aM->Option aB) (hv:VR Γ ρ h v (.ref D)) (hn:h.Ns C m) (new:s.heap.get? C=aC) (off:C∉ρ.flatten) (ne:D≠C):Xn Γ s ρ h v (D,C)
abbrev arb (Γ:Cx)(A:bQ)(env:fu)(s:aV)(elt t it:aF)(ifs:List aF)(sc:jB)(p pos:qg)(use:Option (aB->RW Unit))(Q:PQ (aW×aW))(E:PQ aB):Prop:=
 ∀Q':PQ aB,∀J:(∀d s',∀J:Q d s',compPost Γ.M A E use Q' (.ref d.1) d.2 (.ok .next) s'),aO Γ.M A (comprehension (.ListComp elt [⟨t,it,ifs,0⟩] sc p) sc env pos (newList []) aG (eval it env) use) Q' E s
theorem aH7 {mt mi:j6}{use:Option (aB->RW Unit)}(O:v9 Γ k env)(a:jW A l n)(ok:ad4 k sc=az)(hI:Dk Γ n k t it mi)(hT:Di Γ n (kdOf sc) t mt)(hB:AllB Γ n m (kdOf sc))(hE:O8 Γ n m (kdOf sc))
  (hs:∀env x,qb it env x=pure x) (S:SR Γ ρ H s) (F:FR Γ l ρ s.heap env φ.loc φ.cR):
  n8 Γ l φ.lk ρ s (apk (u9 Γ.G n) φ (cE m (kdOf sc) elt) mt mi (ifs.map (cE m (kdOf sc))) (Tv sc) H) (arb Γ A env s elt t it ifs sc p pos use) (Xn Γ s):=by
 have c:=aM8 ok;intro q H' ev Q E P Q' hQ;refine wpAny_comprehension_free rfl (hs env) (ap8 (c.has O)) c.kind (λx hx hl=>Jj c.nodup (show(x.1,NameKind.local)∈sc.names by refine nF hl ?_;exact hx)) (n8.step (hI env l A φ H ρ s O a S F) ev P λa8r cM aZ aU itv ev cU cg hit=> ?_);obtain⟨I,fp,wr,PI,Ni,yN,RG,val,live,off,new,free,cR⟩:=hit;have kpD:=K7 aU.heap {cls:= .type "list",data:= .seq #[]};have D0:=J0 aU.heap;have SD:SR Γ (aZ++ [[aU.heap.objs.size]]) (cM++ [.list []]) {aU with heap:=aU.heap.push {cls:= .type "list",data:= .seq #[]}}:=cg.rI kpD (aj7 _) (by simp) ⟨_, #[],0,bj _ rfl,rfl,cL _⟩;have xD:Ext Γ (m7 l) (Wr Γ φ.lk aZ) aZ aU (aZ++ [[aU.heap.objs.size]]) {aU with heap:=aU.heap.push {cls:= .type "list",data:= .seq #[]}}:=Ext.rI kpD (aj7 _);have C0:=J0 (aU.heap.push {cls:= .type "list",data:= .seq #[]});refine eN (qR c.sJ (by intro y hy;simp at hy) (λni xm hsb=> ?_) c.kind);generalize hC:(aU.heap.push {cls:= .type "list",data:= .seq #[]}).objs.size=C at*
 have kp2:∀b o,∀J:(aU.heap.push {cls:= .type "list",data:= .seq #[]}).get? b=aa o,ni.get? b=aa o:=λb o e=>hsb.extBut b o (R6 e C0) (aK _ e);have fJ:SR Γ (aZ++ [[aU.heap.objs.size]]) (cM++ [.list []]) {aU with heap:=ni,toks:=aU.toks+0}:=SD.keeps kp2;have dB:Ext Γ (m7 l) (Wr Γ φ.lk aZ) aZ aU (aZ++ [[aU.heap.objs.size]]) {aU with heap:=ni,toks:=aU.toks+0}:=xD.trans (Ext.keeps kp2);have C1:=ar5 (λo e=>⟨o,kpD _ o e⟩) C0;have ard:=yN.frame _ _ _ RG λb U o e=>(λb o e=>kp2 b o (kpD b o e)) b o e;have xs:Ext Γ (m7 l) (wK Γ (kdOf sc) φ.lk ρ (Oe sc env C)) ρ s (aZ++ [[aU.heap.objs.size]]) {aU with heap:=ni,toks:=aU.toks+0}:=(cU.trans dB).toS;have loop:gD Γ.M A (.compLoop (.ListComp elt [⟨t,it,ifs,0⟩] sc p) 0 (.ref I) (.ref aU.heap.objs.size) (Oe sc env C)) (compPost Γ.M A E use Q' (.ref aU.heap.objs.size) C) {aU with heap:=ni,toks:=aU.toks+0}:=by
  cases hr:ao9 (turn (u9 Γ.G n) (a8r.2++φ.lk) cM.length (cE m (kdOf sc) elt) mt (ifs.map (cE m (kdOf sc)))) a8r.1 ⟨[],φ.cR.filter λp=>(Tv sc).contains p.1,cM++ [.list []]⟩ with
  | none=>simp only[hr]at ev;exact iu ev
  | some r=>
   obtain⟨r,jY⟩:=r;cases r with
   | exc _ _=>simp only[hr]at ev;exact iu ev
   | ok u=>
    replace ev:=hr▸ev;refine Xm (c.it O C1 dB (λb o e=>kp2 b o (kpD b o e)) ⟨yN,val,live,off,new,free,cR⟩) hT hB hE (c.a8q O) a (ac2 cg.len) ⟨fJ,(c.frame O SD ((F.ext cU).ext xD) C0 kp2 xm),xs,.refl,ard⟩ hr λfj s' S' F' x' hr'=> ?_;obtain⟨m',Bj,_⟩:=F'.ns;exact hQ (aU.heap.objs.size,C) s' ((P.take ev:N6 Γ l φ.lk ρ s (.ok (.ref cM.length)) jY.hp (Xn Γ s) Q E) fj s' _ (Ext.refl.trans' x' λb z=>z.imp id λz=>z.elim (λz=>cU.live.none (z▸C1)) (by rintro⟨y,hy,_⟩;exact absurd rfl (c.sJ _ (mem_of_lookup hy)))) S' ⟨_,C,m',⟨_, [],hr'⟩,Bj,cU.live.none C1,F'.wI,R6 (bj aU.heap rfl) C0⟩)
 exact adq loop (yN.self 0 _ _ _ ard loop)
end
end
section
variable {Γ:Cx}{n m:Nat}{k:Kd}
section
variable {env:fu}{l:List fu}{A:bQ}{lk:List Nat}{ρ fj:eO}{s s':aV}{H H':Hp}{sc:jB}{elt t it:aF}{ifs:List aF}{mt mi:j6}{p pos:qg}
theorem gone {m:aM->Option aB}(S:SR Γ ρ H s)(S':SR Γ fj H' s')(x:Ext Γ (m7 l) (Wr Γ lk ρ) ρ s fj s')(C0:s.heap.get? C=aC)(hn:s'.heap.Ns C m)(off:C∉fj.flatten)(sb:jG C s'.heap h'):
  SR Γ fj H' {s' with heap:=h'}∧Ext Γ (m7 l) (Wr Γ lk ρ) ρ s fj {s' with heap:=h'}:=
 ⟨S'.apart1 (qM.vh hn) off (K4 S C0).tab (K4 S C0).base sb.2,x.axc (λb o nb e=>(sb.2 b nb).trans e) λb hb=>hb▸C0⟩
theorem Xo (ok:ad4 k sc=az)(hI:Dk Γ n k t it mi)(hT:Di Γ n (kdOf sc) t mt)(hB:AllB Γ n m (kdOf sc))(hE:O8 Γ n m (kdOf sc))(hs:∀env x,qb it env x=pure x):
  v4 Γ (n+1) k (.ListComp elt [⟨t,it,ifs,0⟩] sc p) (.comp (cE m (kdOf sc) elt) mt mi (ifs.map (cE m (kdOf sc))) (Tv sc)):=λenv l A φ H ρ s O a S F q H' ev Q E P=>by
 refine aH7 O a.pred ok hI hT hB hE hs S F q H' ev (λd s'=>compPost Γ.M A E aC Q (.ref d.1) d.2 (.ok .next) s') E ?_ Q λU U z=>z;cases q with
 | exc c m=>exact P
 | ok v=>
  intro fj s' d x S' r;obtain⟨D,C,m,hv,hn,C0,off,ne⟩:=r;refine⟨m,hn,λh' sb=> ?_⟩;obtain⟨fJ,dB⟩:=gone S S' x C0 hn off sb;exact P fj _ _ dB fJ (hv.one (qM.vh hn) sb.2)
theorem Xp (h:(R4 t).isNone=az):assignAll u ((sS [t] env).map (·.2))=vB t env u:=by rw[Fx h];rfl
theorem az3 (he:v4 Γ n k e me)(ht:Di Γ n k t mt)(hst:(R4 t).isNone=az)(O:v9 Γ k env)(a:jW A l n)(hs:swapsWithSole [t] e p.line env=pure aG)(hw:qN [t] e env=pure aC)(S:SR Γ ρ σ.hp s)(F:FR Γ l ρ s.heap env σ.loc σ.cR):
  I3 Γ k l env lk ρ s (iY Γ.G (n+1) lk (.asg mt me) σ) (λQ E=>aO Γ.M A (adk (.Assign [t] e p) env) Q E s) (Ar Γ):=
 (he env l A (σ.fm lk) σ.hp ρ s O a S F).stmt F (λQ E w=>wpAny_Assign_stores (bJ w (λu aU z=>oh (Xp hst) z) λU U z=>z) hs hw) λv cM aZ aU u cU cg hv=>
  (ht env l A lk v {σ with hp:=cM} aZ aU u O a cg (F.ext cU) hv).Ml (λQ E w=>w) λU a8s dI bO U dB fJ yL U=> .ok λQ E P=>P.done fJ yL rfl
theorem Oi {K:PQ (aW×aW)}(hsw:su (.ListComp elt [⟨t,it,ifs,0⟩] sc p) (aa (.Name y py)) pos.line env=pure az)
  (h:arb Γ A env s elt t it ifs sc p (firstIterPos [⟨t,it,ifs,0⟩] p) (aa (vB (.Name y py) env)) K E)
  (hK:∀d s',∀J:K d s',aO Γ.M A (vB (.Name y py) env (.ref d.1)) (λU s''=>∃m,s''.heap.Ns d.2 m∧∀h',∀J:jG d.2 s''.heap h',Q aeu {s'' with heap:=h'}) E s'):
  aO Γ.M A (adk (.Assign [.Name y py] (.ListComp elt [⟨t,it,ifs,0⟩] sc p) pos) env) Q E s:=oh (exec_Assign_Name_used _ _ _ _ hsw) (aj (dR (aj (aj (h _ λd s' z=>bJ (hK d s' z) (by rintro _ s'' ⟨m,hn,r⟩;exact⟨m,hn,λh' sb=>au (au (r h' sb))⟩) λU U z=>z)))))
theorem Oj (hy:k y=aa .local)(ok:ad4 k sc=az)(hI:Dk Γ n k t it mi)(hT:Di Γ n (kdOf sc) t mt)(hB:AllB Γ n m (kdOf sc))(hE:O8 Γ n m (kdOf sc))(hs:∀env x,qb it env x=pure x)(O:v9 Γ k env)(a:jW A l n)
  (hsw:su (.ListComp elt [⟨t,it,ifs,0⟩] sc p) (aa (.Name y py)) pos.line env=pure az) (S:SR Γ ρ σ.hp s) (F:FR Γ l ρ s.heap env σ.loc σ.cR):
  I3 Γ k l env lk ρ s (iY Γ.G (n+1+1) lk (.asg (.loc y) (.comp (cE m (kdOf sc) elt) mt mi (ifs.map (cE m (kdOf sc))) (Tv sc))) σ) (λQ E=>aO Γ.M A (adk (.Assign [.Name y py] (.ListComp elt [⟨t,it,ifs,0⟩] sc p) pos) env) Q E s) (Ar Γ):=λq jY ev Q E P=>by
 refine Oi hsw ?_ λU U z=>z;refine n8.Aq (aH7 O a ok hI hT hB hE hs S F) F ev P λv cM aZ aU d lG cU cg r Fw=> ?_;obtain⟨D,C,m,hv,hn,C0,off,ne⟩:=r;obtain⟨f1,f2⟩:=ar9 (lk:=lk) S F C0;refine pW (aB2 (σ:={σ with hp:=cM}) (lk:=lk) O hy cg (F.ext cU) hv λjX oW rK Dj=> ?_);obtain⟨oC,hC,mC⟩:=qM.vh hn;have Xq:=oW.vf.keep C oC hC (λz=>(z.elim (λz=>z.elim (K4 S C0).tab (by rintro⟨i,r,e,hm,_⟩;exact off (cG.mpr ⟨r,aR e,hm⟩))) λz=>f1 (.inr z))) f2;refine⟨m,(Df.ns (λo e=>⟨oC,Xq,congrArg Obj.data (aq (hC.symm.trans e))⟩) hn),λh' sb=> ?_⟩;refine(P.take lG:J1 Γ k l env lk ρ s (.ok .next) {σ with loc:=upd σ.loc y v,hp:=cM} (Ar Γ) Q E) aZ {jX with heap:=h'} .next ?_ (rK.apart1 ⟨oC,Xq,mC⟩ off (K4 S C0).tab (K4 S C0).base sb.2) (Dj.off ⟨λb o nb e=>(sb.2 b nb).trans e,λb o hb e=>aq (Xq.symm.trans (hb▸e))▸mC⟩ λb hb=> ?_) rfl
 ·exact(cU.toS.trans' oW λb z=>z.back cU.grow).axc (λb o nb e=>(sb.2 b nb).trans e) λb hb=>hb▸C0
 ·obtain rfl:b=C:=hb
  exact⟨f2,λz=>f1 (.inr (.inl z)),λy' c e z=>(F.qe y' c e).casesOn λo U ho U=>R6 ho C0 z.symm⟩
end
end
section
variable {Γ:Cx}{n m:Nat}{k:Kd}
inductive EnP (PD:Nat->aB->Prop)(i:Nat)(h:bL):aB->Prop
 | mk (T:aW) (tk:Tok) (y:aB) (hy:PD i y) (hT:h.get? T=aa {cls:= .type "tuple",data:= .seq #[.int i tk,y]}):EnP PD i h (.ref T)
theorem Jk {b e i:aW}(hb:b∈ [e,i]):b=e∨b=i:=(aY.mp hb).imp id aP.mp
theorem ae2 (ho:h.get? b=aa o)(hc:o.cls= .type T)(hk:jl T∈itK):S5 h b:=⟨o,ho,.inr (.inr (.inr (.inr (.inr (.inr (.inr (.inr (hc▸hk))))))))⟩
theorem ItC.enum {PD:Nat->aB->Prop}{StD:Nat->bL->Prop}(D:Draws Γ.prog Γ.w A.in1 it fpD N PD StD)(hei:e≠it)(hef:e∉fpD)(hif:it∈fpD)(tD:∀i h,∀J:StD i h,S5 h it){elts:List aF}{kk:Nat}{pos:qg}:
  ItC Γ A (.Tuple elts kk pos) e (e::fpD) [e,it] N (λi v h=>EnP PD i h v) (λi h=>(∃old,IsEnum h e it i old)∧StD i h) where
 sub:=(rD D e hei hef hif).sub
 frame:=(rD D e hei hef hif).frame
 done:=(rD D e hei hef hif).done
 self:=(rD D e hei hef hif).self
 turns:=λi h st b hb=>(Jk hb).elim (λq=>q▸st.1.elim λold he=>ae2 he rfl (by decide)) λq=>q▸tD i h st.2
 item:=λi s Q E hi st hQ=>by obtain⟨⟨old,he⟩,hs⟩:=st;refine wpAny_pyNext_enum_itemD D he hs hi hei hef λx h' tk hP ho Ga hT wJ hk=>⟨_,rfl,wpAny_letOwnedTupleGo_enum ho λpL he' sb=> ?_⟩;exact hQ _ pL (tk+1) ⟨_,tk,x,hP,(sb.2 _ (qT (cA he))).trans hT⟩ ⟨⟨x,by simpa using he'⟩,D.frame _ _ _ Ga λb hb o y=>(sb.2 b λq=>hef (q▸hb)).trans y⟩ λb o hb y=>((sb.2 b (λq=>hb (q▸ .head _))).trans (hk b o (λq=>hb (q▸ .head _)) (λq=>hb (q▸ .tail _ (.head _))) y))
theorem Xr {i:Nat}(h:(Rw l)[i]?=aa x):∃y,l[i]?=aa y∧x= .tup [.int i,y]:=by unfold Rw at h;rw[eV]at h;obtain⟨p,hp,rfl⟩:=af9 h;rw[List.getElem?_zipIdx]at hp;obtain⟨y,hy,rfl⟩:=af9 hp;exact⟨y,hy,by rw[kW]⟩
theorem Xu (l:List V):(Rw l).length=l.length:=by delta Rw;rw[aJ,wF]
section
variable {A:bQ}{l:List fu}{env:fu}{lk:List Nat}{ρ:eO}{H:Hp}{s:aV}{loc cR:j8}{Q:PQ aB}{E:PQ aB}{h₀:bL}{tg:aF}
theorem axw (S:SR Γ ρ H s)(F:FR Γ l ρ s.heap env loc cR)(lv:O7 h₀ s.heap){P:Nat->aB->bL->Prop}{St:Nat->bL->Prop}(T:ItC Γ A tg I fp wr vs.length P St)(kp:∀b o,∀J:s.heap.get? b=aa o,h'.get? b=aa o)(RG:St 0 h')
  (fpo:∀b∈fp,(s.heap.get? b=aC∧∃o,h'.get? b=aa o)∨((∃o,s.heap.get? b=aa o)∧Still Γ k l env (um++lk) ρ b)) (wn:∀b∈wr,s.heap.get? b=aC) (hv:∀i v x fj pL,∀J:P i v pL,∀J:vs[i]?=aa x,∀J:H9 ρ h' fj,∀J:(∀b o,∀J:h'.get? b=aa o,∀J:¬K3 o,pL.get? b=aa o),VR Γ fj pL x v)
  (Pq:N6 Γ l lk ρ s (.ok (vs,um)) H (Bp Γ k A tg l env lk h₀) Q E):Q (.ref I) {s with heap:=h',toks:=tk}:=
 Pq ρ {s with heap:=h',toks:=tk} _ (Ext.keeps kp) (S.keeps kp) (.mk _ fp wr P St T RG hv (λb hb=>(fpo b hb).elim (·.2) λq=>q.1.imp λo e=>kp b o e) (λb hb=>(fpo b hb).elim (λq=>ar9 S F q.1) (·.2)) (λb hb=>lv.none (wn b hb)) (λb hb=>K4 S (wn b hb)) λb hb y c e=>(F.qe y c e).casesOn λo U ho U=>(R6 ho (wn b hb)).symm)
theorem av6 (S:SR Γ ρ H s)(F:FR Γ l ρ s.heap env loc cR)(lv:O7 h₀ s.heap){um:List Nat}{PD:Nat->aB->Prop}{StD:Nat->bL->Prop}
  (D:Draws Γ.prog Γ.w A.in1 s.heap.objs.size (s.heap.objs.size::rest) N PD StD) (tD:∀i h,∀J:StD i h,S5 h s.heap.objs.size) (hr:∀b∈rest,(∃o,s.heap.get? b=aa o)∧Still Γ k l env (um++lk) ρ b)
  (hN:N=vs.length) (kp:∀b o,∀J:s.heap.get? b=aa o,h'.get? b=aa o) (he:IsEnum h' (s.heap.objs.size+1) s.heap.objs.size 0 .none) (RG:StD 0 h') (hv:∀i y x,∀J:PD i y,∀J:vs[i]?=aa x,VR Γ ρ s.heap x y)
  (Pq:N6 Γ l lk ρ s (.ok (Rw vs,um)) H (Bp Γ k A (.Tuple elts kk pos) l env lk h₀) Q E):aO Γ.M A (uy (.ref (s.heap.objs.size+1))) Q E {s with heap:=h',toks:=tk}:=by
 have fe:s.heap.get? (s.heap.objs.size+1)=aC:=fZ (dC _);obtain rfl:N=(Rw vs).length:=by rw[Xu];exact hN
 have T:=ItC.enum (elts:=elts) (kk:=kk) (pos:=pos) D (aop _) (λh=>(aY.mp h).elim (aop _) λh=>(hr _ h).1.elim λo ho=>iu (fe.symm.trans ho)) (.head _) tD;refine T.self 0 _ Q E ⟨⟨_,he⟩,RG⟩ (axw S F lv T kp ⟨⟨_,he⟩,RG⟩ (λb hb=> ?_) (λb hb=>(Jk hb).elim (λq=>q▸fe) λq=>q▸(J0 s.heap)) (λi v x fj pL hp hx g im=> ?_) Pq)
 ·rcases aY.mp hb with rfl | hb
  ·exact .inl ⟨fe,_,he⟩
  ·rcases aY.mp hb with rfl | hb
   ·exact .inl ⟨(J0 s.heap),(tD 0 h' RG).casesOn λo ho U=>⟨o,ho⟩⟩
   ·exact .inr (hr b hb)
 ·obtain⟨y,hy,rfl⟩:=Xr hx
  obtain⟨T',yq,w,hw,hT'⟩:=hp;exact⟨T',_,_,hT',.mk _ _ ⟨yq⟩ (.mk w [] ((hv i w y hw hy).mono ((Ext.keeps (Γ:=Γ) (FS:= []) (W:=λU=>False) (s':={s with heap:=h'}) kp).grow.trans g (λb o e=>⟨o,kp b o e⟩)) λb o e nm=>im b o (kp b o e) nm) rfl)⟩
theorem aic {φ:Fm}{me:j6}{H:Hp}{β:Type}(g:V->Hp->Out β):jd (dY Γ.G n φ me H) g=jd (R9 (dY Γ.G n φ) [me] H) λvs H=>jd (ok [] H) λ(ks:List V) H=>opt (one vs) λv=>g v H:=by show _=jd (jd (dY Γ.G n φ me H) λv H=>ok [v] H) _;simp only[ac7];rfl
theorem Xv (hh:A.in1.handled=aC)(S:SR Γ ρ H s)(F:FR Γ l ρ s.heap env loc cR)(lv:O7 h₀ s.heap)(hv:VR Γ ρ s.heap v u):
  n8 Γ l lk ρ s (match v with | .Ru _=>aC | v=>opt (ao8 H v) λl=>ok (Rw l,aj3 v) H) (λQ E=>aO Γ.M A (call (.type "enumerate") [u]) (λx s'=>aO Γ.M A (uy x) Q E s') E s) (Bp Γ k A (.Tuple elts kk pos) l env lk h₀):=by
 cases v with
 | tup xs=>
  refine .ok λQ E P=> ?_;obtain⟨t,us,nn,ht,hs⟩:=hv;exact aK2 ht λh' he hit hz kp=>av6 S F lv (NB hh _ t (dh (cA ht)) us) (λi h st=>st.1.elim λo q=>ae2 q.1 q.2.1 (by decide)) (λb hb=>aP.mp hb▸⟨⟨_,ht⟩,Iu S F ht ai0⟩) hs.size kp he ⟨hit,af7 (kp _ _ ht)⟩ (λi y x hy hx=>hs.get hx (by rw[cu];exact hy)) P
 | str x=>
  refine .ok λQ E P=> ?_;obtain⟨t⟩:=hv;have val:∀i w y,∀J:SignAt x i w,∀J:(x.cps.toList.map λc=>V.str ⟨#[c]⟩)[i]?=aa y,VR Γ ρ s.heap y w:=λi w y hw hy=>by obtain⟨c,tk,hc,rfl⟩:=hw;simp only[eV,cu,hc]at hy;obtain rfl:=aq hy;exact .mk tk
  have len:x.cps.size=(x.cps.toList.map λc=>V.str ⟨#[c]⟩).length:=by simp only[aJ,cj]
  refine call_enumerate_str λh' he hit hz kp=> ?_;by_cases ha:x.cps.all (·<128)=az
  ·rw[show aoq x="str_ascii_iterator" by exact bG ha]at hit
   exact av6 (um:= []) S F lv (Draws.strAscii hh _ x t) (λi h st=>st.elim λo q=>ae2 q.1 q.2.1 (by decide)) nofun len kp he hit val P
  ·rw[show aoq x="str_iterator" by delta aoq;exact aD (bu ha) rfl]at hit
   exact av6 (um:= []) S F lv (Draws.strWide hh _ x t) (λi h st=>st.elim λo q=>ae2 q.1 q.2.1 (by decide)) nofun len kp he hit val P
 | ref i=>
  refine .opt λys e=> ?_;refine g8 e λo hi e=> ?_;obtain⟨a,us,nn,_,hr,ha,hs,_⟩:=VR.list hv S (lst_inv e▸hi);exact .ok λQ E P=>call_enumerate_list (J3 ha) λh' he hit hz kp=>av6 S F lv (Draws.list hh _ a (dh (cA ha)) us) (λi h st=>st.1.elim λo q=>ae2 q.1 q.2.1 (by decide)) (λb hb=>aP.mp hb▸⟨⟨_,ha⟩,ay9 S F hr (.head _) (.head _)⟩) hs.size kp he ⟨hit,J3 (kp _ _ ha)⟩ (λi y x hy hx=>hs.get hx (by rw[cu];exact hy)) P
 | _=>exact .none
end
theorem Xw (G:W9 Γ)(ih:O8 Γ n m k)(hk:k ("enumerate":aM)=aa .globalImplicit)(hn:M8 [e]=az):Dk Γ n k (.Tuple elts kk pos) (.Call (.Name ("enumerate":aM) np) [e] [] p) (.Cg (cE m k e)):=λenv l A φ H ρ s O a S F=>by show n8 Γ l φ.lk ρ s (jd (dY Γ.G n φ (cE m k e) H) λv H=>match v with | .Ru _=>aC | v=>opt (ao8 H v) λl=>ok (Rw l,aj3 v) H) _ _;rw[aic];refine n8.of (Dl (p:=([], [])) ih O a hn rfl S F λvs VN cM aZ aU us lZ cU cg je hkv=> .opt λv hv=> ?_) λQ E w=>mq (dN (W8 O hk G.Cg S w) (by decide));obtain rfl:=Y7 hv;obtain⟨u,us,hu,hs⟩:=je.1;obtain rfl:=gA.nil hs;exact n8.keep (keep_pure rfl) (Xv a.hand cg (F.ext cU) cU.live hu)
end
section
variable {Γ:Cx}{n m:Nat}{k:Kd}
theorem J9.get (h:J9 ns us):∀{i:Nat}{a:Int},∀J:ns[i]?=aa a,∃t,us[i]?=aa (.int a t):=by
 induction h with
 | nil=>exact λe=>iu e
 | cons b t ns us h ih=>
  intro i a e;cases i with
  | zero=>exact⟨t,aq e▸rfl⟩
  | succ i=>exact ih e
theorem J9.snoc:∀{ns:List Int}{us:List aB},∀J:J9 ns us,J9 (ns++ [a]) (us++ [.int a t]):=by
 intro ns us zz;cases zz with
 | nil=>
  exact .cons a t [] [] .nil
 | cons b t' ns us h=>
  exact .cons b t' _ _ h.snoc
theorem J9.length:∀{ns:List Int}{us:List aB},∀J:J9 ns us,us.length=ns.length:=by
 intro ns us zz;cases zz with
 | nil=>
  exact rfl
 | cons b t' ns us h=>
  exact congrArg tH h.length
theorem J9.vrs {ρ:eO}{h:bL}:∀{ns:List Int}{us:List aB},∀J:J9 ns us,gA Γ ρ h (ns.map .int) us:=by
 intro ns us zz;cases zz with
 | nil=>
  exact rfl
 | cons b t' ns us h=>
  exact .mk _ us ⟨t'⟩ h.vrs
noncomputable abbrev axx (z TI TO i1 i2 l1 l2:aW):List aW:= [z,TI,TO,i1,i2,l1,l2]
theorem Z3.up {z TI TO i1 i2 l1 l2:aW}(S:Z3 h z TI TO i1 i2 l1 l2 i xs ys f)(kp:∀c∈axx z TI TO i1 i2 l1 l2,∀o,∀J:h.get? c=aa o,h'.get? c=aa o):Z3 h' z TI TO i1 i2 l1 l2 i xs ys f:=by refine qm λY Z=> ?_;obtain⟨q1,q2,⟨a,b,q3⟩,⟨o4,q4,r4⟩,⟨o5,q5,r5⟩,⟨o6,q6,r6⟩,⟨o7,q7,r7⟩⟩:=S;exact Z ⟨kp _ (.head _) _ q1,kp _ (.tail _ (.head _)) _ q2,⟨a,b,kp _ (rT 2 rfl) _ q3⟩,⟨o4,kp _ (rT 3 rfl) _ q4,r4⟩,⟨o5,kp _ (rT 4 rfl) _ q5,r5⟩,⟨o6,kp _ (rT 5 rfl) _ q6,r6⟩,⟨o7,kp _ (rT 6 rfl) _ q7,r7⟩⟩
inductive a8w (h₀:bL)(z TI TO i1 i2 l1 l2 D C:aW)(xs ys:Array aB)(ps:List Int)(s:aV)(j:Nat):aV->Prop
 | mk (i:Nat) (h:bL) (tk:Nat) (M:aM->Option aB) (us:Array aB) (nn:Nat) (hi:i≤ps.length) (hj:j=ps.length-i) (St:Z3 h z TI TO i1 i2 l1 l2 i xs ys .none) (hN:h.Ns C M) (hD:h.get? D=aa (listOf us nn)) (hu:J9 (ps.take i) us.toList) (kp:∀c o,∀J:h₀.get? c=aa o,h.get? c=aa o):a8w h₀ z TI TO i1 i2 l1 l2 D C xs ys ps s j {s with heap:=h,toks:=tk}
section
variable {A:bQ}{s:aV}{R:PQ za}{h₀:bL}
theorem Xx {M:aM->Option aB}(hh:A.handled=aC)(hab:a≠b)(da:a≠("__debug__":aM))(db:b≠("__debug__":aM))(hk:ce.scope.kind= .function)(hka:ce.kindOf a=aa .local)(hkb:ce.kindOf b=aa .local)
  (hN:s.heap.Ns ce.locals M) (hD:s.heap.get? D=aa (listOf us nn)) (hDC:D≠ce.locals) (hT:s.heap.IsTuple T #[.int x t1,.int y t2]) (s1:small x=az) (s2:small y=az) (hz:us.size≤16777216)
  (hQ:∀(h':bL)(M':aM->Option aB)(t tk:Nat),∀J:h'.Ns ce.locals M',∀J:(∀c o,∀J:c≠ce.locals,∀J:s.heap.get? c=aa o,h'.get? c=aa o),Q .none {s with heap:=h'.update D (dM (·.push (.int (x*y) t))),toks:=tk}):
  aO Γ.M A (vB (.Tuple [.Name a pd,.Name b pe] j pf) ce (.ref T)) (λU bO=>aO Γ.M A (eval (.BinOp (.Name a pa) .Mult (.Name b pb) pc) ce) (λw sI=>aO Γ.M A (call (.builtin "list.append") [.ref D,w]) Q (λU U=>False) sI) (λU U=>False) bO) (λU U=>False) s:=by
 have hp:(ce.scope.kind== .class || (ce.scope.kind== .module&&ce.locals !=ce.globals))=aG:=by refine aD hk ?_;rfl
 refine wpAny_assign_Tuple hh hT rfl rfl λni Dn=> ?_;replace Dn:uY s.heap.objs.size s.heap ni:=Dn;refine aj (bT (pW (lU hka (hN.keeps (λc o e=>Dn c o (dh (cA e)) e)) (λrB a8y rP=> ?_) hp)));refine aj (bT (pW (lU hkb a8y (λwM Dp uo=>au ?_) hp)));refine Cq (dN (eG hk hka Dp ((bu hab).trans (bG rfl)) ?_) (G9 da));refine dN (eG hk hkb Dp (bG rfl) ?_) (G9 db);have s1:=V8 s1;have s2:=V8 s2;exact mul_int (ai4 ((λc o hc e=>uo.extBut _ _ hc (rP.extBut _ _ hc ((λc o e=>Dn c o (dh (cA e)) e) c o e))) _ _ hDC hD) hz (hQ wM _ _ _ Dp (λc o hc e=>uo.extBut _ _ hc (rP.extBut _ _ hc ((λc o e=>Dn c o (dh (cA e)) e) c o e))))) (Ld (intBits_le_64 (by lia) (by lia)))
theorem Xy {M:aM->Option aB}(hh:A.handled=aC)(Z:Hu z TI TO i1 i2 l1 l2)(St:Z3 h z TI TO i1 i2 l1 l2 0 xs ys .none)
  (My:J9 ns xs.toList) (RJ:J9 ms ys.toList) (xm:ns.all small=az) (hms:ms.all small=az) (hlen:ns.length≤1000) (hab:a≠b) (da:a≠("__debug__":aM)) (db:b≠("__debug__":aM)) (hk:ce.scope.kind= .function) (hka:ce.kindOf a=aa .local) (hkb:ce.kindOf b=aa .local) (hC:ce.locals=C)
  (hN:h.Ns C M) (hD:h.get? D=aa (listOf #[] nn)) (hDC:D≠C) (off:∀c∈axx z TI TO i1 i2 l1 l2,c≠D∧c≠C) (fr:∀c∈ [z,TO,i1,i2,D,C],h₀.get? c=aC) (kp:∀c o,∀J:h₀.get? c=aa o,h.get? c=aa o)
  (hR:∀h' tk M' us nn,∀J:h'.Ns C M',∀J:h'.get? D=aa (listOf us nn),∀J:J9 ((ns.zip ms).map λp=>p.1*p.2) us.toList,∀J:(∀c o,∀J:h₀.get? c=aa o,h'.get? c=aa o),R (.ok .next) {s with heap:=h',toks:=tk}):
  gD Γ.M A (.compLoop (.ListComp (.BinOp (.Name a pa) .Mult (.Name b pb) pc) [⟨.Tuple [.Name a pd,.Name b pe] j pf,it, [],0⟩] sc pp) 0 (.ref z) (.ref D) ce) R {s with heap:=h,toks:=tk}:=by
 subst hC;have fr':∀{c},∀J:c∈ [z,TO,i1,i2,D,ce.locals],∀{c' o},∀J:h₀.get? c'=aa o,c'≠c:=λhc U U e=>R6 e (fr _ hc);have oz:=off z (.head _);have oTO:=off TO (rT 2 rfl);have o1:=off i1 (rT 3 rfl);have o2:=off i2 (rT 4 rfl);have hpl:((ns.zip ms).map λp=>p.1*p.2).length=min ns.length ms.length:=by rw[aJ,zG]
 have hxl:xs.size=ns.length:=by rw[←cj,My.length]
 have hyl:ys.size=ms.length:=by rw[←cj,RJ.length]
 refine aq9 (E:=λU U=>False) (a8w h₀ z TI TO i1 i2 l1 l2 D ce.locals xs ys ((ns.zip ms).map λp=>p.1*p.2) s) (λc jX hI=> ?_) _ ⟨0,h,tk,M, #[],nn,cL _,rfl,St,hN,hD,.nil,kp⟩;obtain⟨i,h,tk,M',us,n',hi,rfl,Iv,hN',hD',hus,kp⟩:=hI;have kz:∀{h':bL},∀J:(∀c o,∀J:c≠z,∀J:c≠TO,∀J:c≠i1,∀J:c≠i2,∀J:h.get? c=aa o,h'.get? c=aa o),∀c o,∀J:h₀.get? c=aa o,h'.get? c=aa o:=λkq c o e=>kq c o (fr' (.head _) e) (fr' (.tail _ (.head _)) e) (fr' (rT 2 rfl) e) (fr' (rT 3 rfl) e) (kp c o e);have kC:∀{h':bL},∀J:(∀c o,∀J:c≠z,∀J:c≠TO,∀J:c≠i1,∀J:c≠i2,∀J:h.get? c=aa o,h'.get? c=aa o),h'.Ns ce.locals M':=λkq=>hN'.at' λo e=>kq _ o oz.2.symm oTO.2.symm o1.2.symm o2.2.symm e;have kD:∀{h':bL},∀J:(∀c o,∀J:c≠z,∀J:c≠TO,∀J:c≠i1,∀J:c≠i2,∀J:h.get? c=aa o,h'.get? c=aa o),h'.get? D=aa (listOf us n'):=λkq=>kq _ _ oz.1.symm oTO.1.symm o1.1.symm o2.1.symm hD';by_cases wu:i<((ns.zip ms).map λp=>p.1*p.2).length
 ·have ha:=bA (hpl▸wu) (lg ..)
  have hb:=bA (hpl▸wu) (yW ..);refine jA (My.get (bD ha)) λt1 hx=> ?_;obtain⟨t2,hy⟩:=RJ.get (bD hb);rw[cu]at hx hy;refine WN hh Z Iv hx hy (λv aU h=>h) λjj a80 a81 xG=> ?_;have hul:us.size≤16777216:=by have h1:=hus.length;simp only[cj,iC]at h1;exact aD h1 (ak (lg _ _) (ak (bR ha) (ak hlen (by decide))))
  refine bJ (Xx hh hab da db hk hka hkb (kC xG) (kD xG) hDC a81 (bF.mp xm _ (aex ha)) (bF.mp hms _ (aex hb)) hul λwM aLd t a82 Dp axz=> ?_) (λU bO z=>wpAny_tests_nil (by rw[bG rfl];exact z)) λU U z=>z;have aya:∀c o,∀J:c≠D,∀J:wM.get? c=aa o,(wM.update D (dM (·.push (.int (ns[i]*ms[i]) t)))).get? c=aa o:=λc o hc e=>(jh _ _ (Ne.symm hc)).trans e;refine⟨_,wi wu (fP i),⟨i+1,_,a82,aLd,_,_,wu,rfl,a80.up λc hc o e=>aya c o (off c hc).1 (axz c o (off c hc).2 e),Dp.at' λo e=>aya _ o hDC.symm e,iz _ (axz D _ hDC (kD xG)) rfl, ?_,λc o e=>aya c o (fr' (rT 4 rfl) e) (axz c o (fr' (rT 5 rfl) e) (kz xG c o e))⟩⟩;refine aD adt (aD (eV) (aD ((List.getElem?_zip_eq_some (z:=(ns[i],ms[i]))).mpr ⟨bD ha,bD hb⟩) (aD jF ?_)));exact hus.snoc
 ·have he:=gZ hi (eU wu)
  refine WQ hh Z Iv ?_ λjj xG=> ?_
  ·rw[hpl]at he
   exact(xY ns.length ms.length).imp (λq=>Ec (by refine aD he (aD hxl (aD (lu q) ?_));exact aN _)) λq=>Ec (by refine aD he (aD hyl (aD (zg q) ?_));exact aN _)
  ·rw[he,yD]at hus
   exact hR jj tk M' us n' (kC xG) (kD xG) hus (kz xG)
end
end
section
variable {Γ:Cx}{n m:Nat}{k:Kd}
section
variable {e:aF}
theorem S7 (h:qx e=aa q):e= .Name q.1 q.2:=by
 cases e with
 | Name x p=>exact aq h▸rfl
 | _=>exact p7 h
theorem ai5 (h:aj4 e=aa q):e= .Attribute q.1 q.2.1 q.2.2:=by
 cases e with
 | Attribute o x p=>exact aq h▸rfl
 | _=>exact p7 h
theorem ae3 (h:am7 e=aa q):e= .Call q.1 q.2.1 q.2.2.1 q.2.2.2:=by
 cases e with
 | Call f l ks p=>exact aq h▸rfl
 | _=>exact p7 h
theorem aR1 (h:constOf e=aa q):e= .Constant q.1 q.2.1 q.2.2:=by
 cases e with
 | Constant c j p=>exact aq h▸rfl
 | _=>exact p7 h
theorem aH8 (h:Tu e=aa q):e= .BinOp q.1 q.2.1 q.2.2.1 q.2.2.2:=by
 cases e with
 | BinOp a o b p=>exact aq h▸rfl
 | _=>exact p7 h
theorem am4 (h:tupleOf e=aa q):e= .Tuple q.1 q.2.1 q.2.2:=by
 cases e with
 | Tuple l j p=>exact aq h▸rfl
 | _=>exact p7 h
theorem aT5 (h:R4 e=aa q):∃p,e= .Starred q p:=by
 cases e with
 | Starred a p=>exact aq h▸⟨p,rfl⟩
 | _=>exact p7 h
theorem aR2 (h:jz e=aa q):e= .Slice q.1 q.2.1 q.2.2.1 q.2.2.2:=by
 cases e with
 | Slice a b c p=>exact aq h▸rfl
 | _=>exact p7 h
theorem Ol (h:apr e=aa q):e= .Subscript q.1 q.2.1 q.2.2:=by
 cases e with
 | Subscript o i p=>exact aq h▸rfl
 | _=>exact p7 h
theorem O1 {α:Type}{l:List α}{a:α}(h:CP l=aa a):l= [a]:=by
 rcases l with _ | ⟨b,_ | ⟨c,r⟩⟩
 ·exact p7 h
 ·exact congrArg (·:: []) (aq h)
 ·exact p7 h
theorem an2 {α:Type}{l:List α}{a:α×α}(h:duo l=aa a):l= [a.1,a.2]:=by
 rcases l with _ | ⟨b,_ | ⟨c,_ | ⟨d,r⟩⟩⟩
 ·exact p7 h
 ·exact p7 h
 ·exact aq h▸rfl
 ·exact p7 h
theorem ah5 (h:litOf e=aa q):e= .Constant (.str q.1) q.2.1 q.2.2:=by
 refine g8 h λc h1 h=> ?_;refine g8 h λs h2 h=> ?_;obtain rfl:=aq h;refine aD (aR1 h1) ?_;cases hc:c.1 with
 | str x=>rw[hc]at h2;obtain rfl:x=s:=aq h2;rfl
 | _=>rw[hc]at h2;exact p7 h2
theorem aa5 (h:al3 k x e=aa q):e= .Call (.Name x q.1) q.2.1 [] q.2.2∧k x=aa .globalImplicit:=by refine g8 h λc h1 h=> ?_;refine g8 h λnm h2 h=> ?_;refine I5 h λhc h=> ?_;obtain rfl:=aq h;obtain rfl:=fH (j9 (d7 hc));refine⟨?_,fG (j9 hc)⟩;exact aD (ae3 h1) (aD (S7 h2) (aD (bY.mp (d7 (d7 hc))) rfl))
theorem Om (h:apt e=aa q):∃p1 p2 j p,e= .Tuple [.Name q.1 p1,.Name q.2 p2] j p:=by refine g8 h λt h1 h=> ?_;refine g8 h λd h2 h=> ?_;refine g8 h λx h3 h=> ?_;refine g8 h λy h4 h=> ?_;obtain rfl:=aq h;exact⟨x.2,y.2,t.2.1,t.2.2,aD (am4 h1) (aD (an2 h2) (aD (S7 h3) (aD (S7 h4) rfl)))⟩
structure ayc (k:Kd)(sc:jB)(d:Dot):Prop where
 gn:k ("zip":aM)=aa .globalImplicit
 ne:d.a≠d.b
 da:d.a≠("__debug__":aM)
 db:d.b≠("__debug__":aM)
 la:sc.names.lookup d.a=aa .local
 lb:sc.names.lookup d.b=aa .local
 all:∀p∈sc.names,p.2= .local
theorem Oo (h:apu e=aa q):e= .BinOp (.Name q.1.1 q.1.2) q.2.2.1 (.Name q.2.1.1 q.2.1.2) q.2.2.2:=by refine g8 h λp h1 h=> ?_;refine g8 h λa h2 h=> ?_;refine g8 h λb h3 h=> ?_;obtain rfl:=aq h;exact aD (aH8 h1) (aD (S7 h2) (aD (S7 h3) rfl))
theorem aH9 (h:apv k e=aa q):e= .Call (.Name ("zip":aM) q.1) [q.2.1.1,q.2.1.2] [] q.2.2∧k ("zip":aM)=aa .globalImplicit:=by refine g8 h λc h1 h=> ?_;refine g8 h λd h2 h=> ?_;obtain rfl:=aq h;exact⟨aD (aa5 h1).1 (aD (an2 h2) rfl),(aa5 h1).2⟩
theorem Oq (h:au6 k sc e g=aa d):ayc k sc d∧∃pa pb pc pd pe j pf np p,e= .BinOp (.Name d.a pa) .Mult (.Name d.b pb) pc∧g=⟨.Tuple [.Name d.a pd,.Name d.b pe] j pf,.Call (.Name ("zip":aM) np) [d.x,d.y] [] p, [],g.is_async⟩:=by
 refine g8 h λp h1 h=> ?_;refine g8 h λt h4 h=> ?_;refine g8 h λc h5 h=> ?_;refine I5 h λhc h=> ?_;obtain rfl:=aq h;refine⟨⟨(aH9 h5).2,fH (j9 (d7 (d7 (d7 (d7 (d7 (d7 hc))))))),fH (j9 (d7 (d7 (d7 (d7 (d7 hc)))))),fH (j9 (d7 (d7 (d7 (d7 hc))))),fG (j9 (d7 (d7 hc))),fG (j9 (d7 hc)),λp hp=>fG (bF.mp (j9 hc) p hp)⟩, ?_⟩;refine qm λY Z=> ?_;obtain⟨p1,p2,j,pf,ht⟩:=Om h4;obtain⟨tg,yN,ifs,as⟩:=g;refine Z ?_;refine⟨p.1.2,p.2.1.2,p.2.2.2,p1,p2,j,pf,c.1,c.2.2, ?_, ?_⟩
 ·exact aD (Oo h1) (aD (fG (d7 (d7 (d7 (d7 (d7 (d7 (d7 (d7 (d7 hc)))))))))) rfl)
 ·exact aD (show tg=_ from ht) (aD (show yN=_ from(aH9 h5).1) (aD (show ifs= [] from bY.mp (j9 (d7 (d7 (d7 hc))))) (aD (fH (j9 (d7 (d7 (d7 (d7 (d7 (d7 (d7 (d7 hc)))))))))) (aD (fH (j9 (d7 (d7 (d7 (d7 (d7 (d7 (d7 hc))))))))) rfl))))
end
theorem Jl (h:two vs=aa p):vs= [p.1,p.2]:=by
 rcases vs with _ | ⟨b,_ | ⟨c,_ | ⟨d,r⟩⟩⟩
 ·exact p7 h
 ·exact p7 h
 ·exact aq h▸rfl
 ·exact p7 h
theorem aid {φ:Fm}{mx my:j6}{H:Hp}{β:Type}(g:V->V->Hp->Out β):(jd (dY Γ.G n φ mx H) λx H=>jd (dY Γ.G n φ my H) λy H=>g x y H)=jd (R9 (dY Γ.G n φ) [mx,my] H) λvs H=>jd (ok [] H) λ(ks:List V) H=>opt (two vs) λp=>g p.1 p.2 H:=by
 show _=jd (jd (dY Γ.G n φ mx H) λv H=>jd (jd (dY Γ.G n φ my H) λv H=>ok [v] H) λvs H=>ok (v::vs) H) _;rw[ac7]
 congr 1
 funext v H
 rw[ac7,ac7];rfl
theorem an3 (S:SR Γ ρ H s)(x:VR Γ ρ s.heap v u)(e:Z9 H v=aa ns):∃a us nn,u= .ref a∧s.heap.get? a=aa (listOf us nn)∧J9 ns us.toList:=by refine g8 e λp h1 h2=> ?_;obtain⟨a,us,nn,hi,hr,ha,hs,hz⟩:=x.listAt S h1;exact⟨a,us,nn,rfl,ha,as3 h2 hs⟩
end
section
variable {Γ:Cx}{n m:Nat}{k:Kd}
theorem Z3.there {z TI TO i1 i2 l1 l2:aW}(S:Z3 h z TI TO i1 i2 l1 l2 i xs ys f):∀c∈axx z TI TO i1 i2 l1 l2,c<h.objs.size:=by refine qm λY Z=> ?_;obtain⟨q1,q2,⟨a,b,q3⟩,⟨o4,q4,_⟩,⟨o5,q5,_⟩,⟨o6,q6,_⟩,⟨o7,q7,_⟩⟩:=S;exact Z (dz.mpr ⟨cA q1,dz.mpr ⟨cA q2,dz.mpr ⟨cA q3,dz.mpr ⟨cA q4,dz.mpr ⟨cA q5,dz.mpr ⟨cA q6,dz.mpr ⟨cA q7,nofun⟩⟩⟩⟩⟩⟩⟩)
section
variable {A:bQ}{l:List fu}{env:fu}{lk:List Nat}{ρ:eO}{H:Hp}{s:aV}{sc:jB}{d:Dot}{pa pb pc pd pe pf pp pq np:qg}{j:Nat}
noncomputable abbrev aie (d:Dot)(pa pb pc:qg):aF:= .BinOp (.Name d.a pa) .Mult (.Name d.b pb) pc
noncomputable abbrev aif (d:Dot)(pd pe pf np pq:qg)(j:Nat):uw:=⟨.Tuple [.Name d.a pd,.Name d.b pe] j pf,.Call (.Name ("zip":aM) np) [d.x,d.y] [] pq, [],0⟩
abbrev a87 (Γ:Cx)(A:bQ)(env:fu)(sc:jB)(e:aF)(g:uw)(pp:qg)(it:aB)(s:aV)(Q:PQ aB)(E:PQ aB):Prop:=
 aO Γ.M A (uy it) (λit bO=>aO Γ.M A (newList []) (λacc jX=>
   aO Γ.M A (qd sc env.globals [] [] env.qual aC .none (aa env)) (λaih sI=>
    gD Γ.M A (.compStart (.ListComp e [g] sc pp) 0 it acc {aih with scope:=sc})
     (λr s'=>∃m,s'.heap.Ns aih.locals m∧∀h',∀J:jG aih.locals s'.heap h',match r with | .ok _=>Q acc {s' with heap:=h'} | .error x=>aO Γ.M A (passOn "comprehension.variables-let-go" x {aih with scope:=sc}) Q E {s' with heap:=h'}) sI) E jX) E bO) E s
theorem Xz (c:CompK k sc)(K:ayc k sc d)(hh:A.handled=aC)(S:SR Γ ρ H s)(h1:s.heap.get? l1=aa (listOf us n1))(h2:s.heap.get? l2=aa {cls:= .type "tuple",data:= .seq vs n2})(hu:J9 ns us.toList)(hv:J9 ms vs.toList)
  (s1:ns.all small=az) (s2:ms.all small=az) (hl:ns.length≤1000) (P:N6 Γ l lk ρ s (.ok (.ref H.length)) (H++ [.list ((ns.zip ms).map λp=> .int (p.1*p.2))]) (v5 Γ) Q E):
  aO Γ.M A (call (.type "zip") [.ref l1,.ref l2]) (λit s'=>a87 Γ A env sc (aie d pa pb pc) (aif d pd pe pf np pq j) pp it s' Q E) E s:=by
 refine WM (J3 h1) (af7 h2) λh' Z wJ kp=>wpAny_pyIter_zip Z.z ?_;have kpD:=K7 h' {cls:= .type "list",data:= .seq #[]};have C0:=J0 (h'.push {cls:= .type "list",data:= .seq #[]});refine eN (qR c.sJ (by intro y hy;simp at hy) (λni xm hsb=> ?_) c.kind);have kp2:∀b o,∀J:(h'.push {cls:= .type "list",data:= .seq #[]}).get? b=aa o,ni.get? b=aa o:=λb o e=>hsb.extBut b o (R6 e C0) (aK _ e);have fr:∀{c:aW},∀J:s.heap.objs.size≤c,s.heap.get? c=aC:=λh=>fZ h;have k2:∀b o,∀J:h'.get? b=aa o,ni.get? b=aa o:=λb o e=>kp2 b o (kpD b o e);have hC:(h'.push {cls:= .type "list",data:= .seq #[]}).objs.size=h'.objs.size+1:=gQ ..;have C1:s.heap.get? (h'.push {cls:= .type "list",data:= .seq #[]}).objs.size=aC:=fr (by refine aD hC (aD wJ ?_);lia);have DC:h'.objs.size≠(h'.push {cls:= .type "list",data:= .seq #[]}).objs.size:=by rw[hC];exact dh (fP _)
 have loop:gD Γ.M A (.compLoop (.ListComp (aie d pa pb pc) [aif d pd pe pf np pq j] sc pp) 0 (.ref (s.heap.objs.size+4)) (.ref h'.objs.size) {newEnv sc (h'.push {cls:= .type "list",data:= .seq #[]}).objs.size env.globals [] env.qual aC .none (aa env) dD with scope:=sc})
   (λr s'=>∃m,s'.heap.Ns (h'.push {cls:= .type "list",data:= .seq #[]}).objs.size m∧∀pL,∀J:jG (h'.push {cls:= .type "list",data:= .seq #[]}).objs.size s'.heap pL,match r with | .ok _=>Q (.ref h'.objs.size) {s' with heap:=pL} | .error x=>aO Γ.M A (passOn "comprehension.variables-let-go" x {newEnv sc (h'.push {cls:= .type "list",data:= .seq #[]}).objs.size env.globals [] env.qual aC .none (aa env) dD with scope:=sc}) Q E {s' with heap:=pL}) {s with heap:=ni,toks:=s.toks+0}:=by
  refine Xy hh (zipApart_new (cA h1) (cA h2)) (Z.up λc U o e=>k2 c o e) hu hv s1 s2 hl K.ne K.da K.db c.kind K.la K.lb rfl xm (kp2 _ _ (bj h' rfl)) DC (λc hc=> ?_) (λc hc=> ?_) (λb o e=>k2 b o (kp b o e)) λrB tk M us' nn hN hD hi a88=>⟨M,hN,λwM sb=> ?_⟩
  ·have lt:=Z.there c hc
   exact⟨dh lt,by rw[hC];exact dh (gV lt)⟩
  ·revert c
   exact dz.mpr ⟨fr (aQ _ _),dz.mpr ⟨fr (aQ _ _),dz.mpr ⟨fr (aN _),dz.mpr ⟨fr (aQ _ _),dz.mpr ⟨(fr (aD wJ (aQ _ _))),dz.mpr ⟨C1,nofun⟩⟩⟩⟩⟩⟩
  ·have arf:∀b o,∀J:s.heap.get? b=aa o,wM.get? b=aa o:=λb o e=>sb.extBut b o (R6 e C1) (a88 b o e)
   have frD:∀b∈ [h'.objs.size],s.heap.get? b=aC:=λb hb=>aP.mp hb▸(fr (aD wJ (aQ _ _)));refine P (ρ++ [[h'.objs.size]]) {s with heap:=wM,toks:=tk} _ (Ext.rI arf frD) (S.rI arf frD (by simp) ⟨_,us',nn,sb.extBut _ _ DC hD, ?_, ?_⟩) ⟨_, [],ac2 S.len⟩
   ·have:=hi.vrs (Γ:=Γ) (ρ:=ρ++ [[h'.objs.size]]) (h:=wM)
    rwa [cY]at this
   ·simp only[aJ,zG]
    exact ak (lg _ _) (ak hl (by decide))
 exact adq loop (wpAny_pyIter_zip (Z.up λc U o e=>k2 c o e).z loop)
theorem aii (G:W9 Γ)(L:O8 Γ n m k)(c:CompK k sc)(K:ayc k sc d)(hn:M8 [d.x,d.y]=az):v4 Γ (n+1) k (.ListComp (aie d pa pb pc) [aif d pd pe pf np pq j] sc pp) (.dot (cE m k d.x) (cE m k d.y)):=λenv l A φ H ρ s O a S F=>by
 show jo Γ l φ.lk A ρ s (jd (dY Γ.G n φ (cE m k d.x) H) λx H=>jd (dY Γ.G n φ (cE m k d.y) H) λy H=>Tc H x y) _ _;simp only[aid];refine n8.of (Dl (p:=([], [])) (K:=λx aU Q E=>a87 Γ A env sc (aie d pa pb pc) (aif d pd pe pf np pq j) pp x aU Q E) L O a.pred hn rfl S F λvs VN cM aZ aU us lZ cU cg je hkv=> .opt λp hp=> ?_)
  λQ E w=>wpAny_ListComp (λw hw e=>nomatch (K.all w hw).symm.trans e) c.kind (λw hw hl=>Jj c.nodup (show(w.1,NameKind.local)∈sc.names by refine nF hl ?_;exact hw)) (mq (dN (W8 O K.gn G.zip S w) (by decide))) (λU=>rfl)
 obtain rfl:=Jl hp;obtain⟨u,us,hu,hs⟩:=je.1;obtain⟨v,us,hv,hs⟩:=hs;obtain rfl:=gA.nil hs;refine .keep (keep_pure rfl) (.opt λns e1=> .opt λmm e2=> .opt λms e3=> .fV λhc=> .ok λQ E P=> ?_);obtain⟨l1,xs,n1,rfl,h1,i1⟩:=an3 cg hu e1;obtain⟨l2,ys,n2,h2,ht⟩:=hv.uf e2;exact Xz c K a.hand cg h1 h2 i1 (as3 e3 ht) (d7 (d7 hc)) (j9 (d7 hc)) (fH (j9 hc)) P
end
end
section
variable {Γ:Cx}{n m:Nat}{k:Kd}
theorem Jm (hb:b∉X):(fK h X).get? b=h.get? b:=by
 cases e:h.get? b with
 | some o=>exact jM X e hb
 | none=>
  cases e':(fK h X).get? b with
  | none=>rfl
  | some o=>exact Sw ((iV X e').symm.trans e)
theorem az4 {X:List aW}(sb:∀b,∀J:b≠c,h'.get? b=h.get? b)(b:aW)(hb:b≠c):(fK h' X).get? b=(fK h X).get? b:=by
 by_cases q:b∈X
 ·simp only[pY X q,pY X q]
 ·simp only[Jm q,Jm q,sb b hb]
theorem ae4 (O:v9 Γ k env)(hk:k x=aa .globalImplicit)(g:Ci Γ x u)(X:Γ.K.In s.heap)(h:Q u s):aO M A (aoi env x) Q E s:=by
 refine oh (QX O.kind (O.gn x hk)) ?_;delta loadGlobal;refine aD O.glob (aD O.blt ?_);rcases g with g | ⟨g1,g2⟩
 ·exact aj ((oZ X g).here (au h))
 ·exact aj ((oZ X g1).here (aj ((oZ X g2).here (au h))))
theorem ap9 (h:(del e x).lookup y=aa v):y≠x∧e.lookup y=aa v:=(V9 (λz=>decide (z≠x)) h).imp fH id
inductive aij (h:bL)(c:String)(mm:aM)(a:aW):Prop
 | mk (o:oH) (vs:Array aB) (t:aW) (tk:Tok) (n:Nat) (x:CZ h c mm a o vs t tk n):aij h c mm a
structure Ot (Γ:Cx)(l:List fu)(env:fu)(ρ:eO)(H:Hp)(loc cR:j8)(X:List aW)(a:aW)(c:String)(mm:aM)(m:aM->Option aB)(s:aV):Prop where
 S:SR Γ ρ H (uD s X)
 F:FR Γ l ρ (uD s X).heap env loc cR
 exc:aij s.heap c mm a
 hn:s.heap.Ns env.locals m
 hl:∀y v,∀J:loc.lookup y=aa v,∃u,m y=aa u∧VR Γ ρ (uD s X).heap v u
section
variable {l:List fu}{env:fu}{ρ iy:eO}{H:Hp}{loc Mx cR:j8}{X:List aW}{a:aW}{c:String}{mm:aM}{M M':aM->Option aB}{s iI:aV}{h':bL}{tk:Nat}{W:aW->Prop}
theorem Ot.rJ (C:Ot Γ l env ρ H loc cR X a c mm M s):Γ.K.In s.heap:=λb o e=>iV X (C.S.rJ b o e)
theorem Ot.off (C:Ot Γ l env ρ H loc cR X a c mm M s):env.locals∉X:=C.F.ns.there.elim λo ho=>Q7 ho
theorem XC (hn:h'.Ns env.locals M)(hX:env.locals∉X):(fK h' X).Ns env.locals M:=by obtain⟨o,es,ep,ho,r⟩:=hn;exact⟨o,es,ep,jM X ho hX,r⟩
theorem Ot.of (S:SR Γ ρ H (uD s X))(F:FR Γ l ρ (uD s X).heap env loc cR)(f:Z1 h₀ l c mm a X s.heap x):∃M,Ot Γ l env ρ H loc cR X a c mm M s:=by refine qm λY Z=> ?_;obtain⟨o,vs,t,tk,n,hX,aX,ex,tX,tf,w⟩:=f;obtain⟨M,⟨oL,es,ep,ho,r⟩,hl⟩:=F.ns;exact Z ⟨M,S,F,⟨o,vs,t,tk,n,ex⟩,⟨oL,es,ep,iV X ho,r⟩,hl⟩
theorem Ot.write (C:Ot Γ l env ρ H loc cR X a c mm M s)(Bj:h'.Ns env.locals M')(sb:jG env.locals s.heap h')(hl:∀y v,∀J:Mx.lookup y=aa v,M' y=M y∧loc.lookup y=aa v):
  Ot Γ l env ρ H Mx cR X a c mm M' {s with heap:=h',toks:=tk}∧Ext Γ (m7 l) (·=env.locals) ρ (uD s X) ρ (uD {s with heap:=h',toks:=tk} X):=by
 have sb':=az4 (X:=X) sb.2;have T:=qM.vh (XC C.hn C.off);have hnH:=XC Bj C.off;refine qm λY Z=> ?_;obtain⟨oL,hoL,_⟩:=qM.vh hnH;obtain⟨oD,esD,epD,hoD,hdD,_⟩:=C.hn;have hl':∀y v,∀J:Mx.lookup y=aa v,∃u,M' y=aa u∧VR Γ ρ (uD s X).heap v u:=λy v e=>(C.hl y v (hl y v e).2).imp λu q=>⟨(hl y v e).1.trans q.1,q.2⟩;obtain⟨o,vs,t,yq,n,⟨e1,e2,e3,e4,e5,e6⟩⟩:=C.exc;refine Z ?_;exact⟨⟨C.S.apart1 T C.F.wI C.F.xW C.F.Bk sb',C.F.Vg T hnH sb' hl' λh=>C.F.Mj ((bZ.mp h).elim λv e=>by refine aD ((hl _ v e).2) ?_;rfl),⟨o,vs,t,yq,n,(sb.2 a (λq=>by rw[q,hoD]at e1;cases e1;cases hdD.symm.trans e3)).trans e1,e2,e3,e4,e5,(sb.2 t (λq=>by rw[q,hoD]at e6;cases e6;cases hdD)).trans e6⟩,Bj,λy v e=>(hl' y v e).imp λu q=>⟨q.1,q.2.one T sb'⟩⟩,.apart1 T rfl hoL sb'⟩
theorem Ot.fin (C:Ot Γ l env ρ H (del loc x) cR X a c mm M s)(O:v9 Γ k env)(hx:k x=aa .local)(hW:W env.locals)(xs:Ext Γ (m7 l) W iy iI ρ (uD s X))
  (hQ:∀s',∀J:Ext Γ (m7 l) W iy iI ρ s',∀J:SR Γ ρ H s',∀J:FR Γ l ρ s'.heap env (del loc x) cR,Q () s'):aO Γ.M A (do aor env x .none;aos env x pos) Q E s:=by
 have kf:(env.scope.kind== .class || (env.scope.kind== .module&&env.locals !=env.globals))=aG:=by refine aD O.kind ?_;rfl
 refine aj (Hw (lU (O.loc x hx) C.hn (λh1 hn1 sb1=> ?_) kf));obtain⟨C1,x1⟩:=C.write hn1 sb1 λy v e=>⟨bu (ap9 e).1,e⟩;refine uz (wpAny_unbindName_local (O.loc x hx) hn1 (bG rfl) kf λh2 u hn2 sb2=> ?_);obtain⟨C2,x2⟩:=C1.write hn2 sb2 λy v e=>⟨bu (ap9 e).1,e⟩;have kp:∀b o,∀J:(fK h2 X).get? b=aa o,h2.get? b=aa o:=λb o e=>iV X e;have xr:Ext Γ (m7 l) (λU=>False) ρ (uD {s with heap:=h2,toks:=s.toks+1} X) ρ {s with heap:=h2,toks:=s.toks+1}:=Ext.keeps kp;exact hQ _ (((xs.trans' x1 (λb hb=> .inl (hb▸hW))).trans' x2 (λb hb=> .inl (hb▸hW))).trans' xr λb hb=>hb.elim) (SR.keeps C2.S kp) (FR.ext (lk:= []) C2.F (xr.weaken λU z=>z.elim))
end
structure Ou (k:Kd)(h:zL):Prop where
 exc:(yF h.cls).isSome=az
 kc:k h.cls=aa .globalImplicit
 kx:k h.x=aa .local
 xe:h.x≠("errors":aM)
 xd:h.x≠("__debug__":aM)
 kt:k h.to=aa .local
 ne:h.to≠h.x
 td:h.to≠("__debug__":aM)
 ks:k ("str":aM)=aa .globalImplicit
noncomputable abbrev Jo (h:zL)(j:Nat)(p1 p2 p3 p4 p5:qg):aF:= .BinOp (.Constant (.str h.pre) j p1) .Add (.Call (.Name ("str":aM) p2) [.Name h.x p3] [] p4) p5
inductive aik (h:zL):∀J:jK,Prop
 | mk (j:Nat) (p1 p2 p3 p4 p5 np yp ap p ep pos:qg) (hl:(ap.endLine==p.line)=az):aik h (.ExceptHandler (aa (.Name h.cls np)) (aa h.x) [.Expr (.Call (.Attribute (.Name h.to yp) ("append":aM) ap) [Jo h j p1 p2 p3 p4 p5] [] p) ep] pos)
theorem Ov (h:cText k x e=aa pre):k ("str":aM)=aa .globalImplicit∧∃j p1 p2 p3 p4 p5,e= .BinOp (.Constant (.str pre) j p1) .Add (.Call (.Name ("str":aM) p2) [.Name x p3] [] p4) p5:=by refine lO (S9 h) λp h1 h=> ?_;refine lO (S9 h) λs h2 h=> ?_;refine lO (S9 h) λc h3 h=> ?_;refine lO (S9 h) λa h4 h=> ?_;refine lO (S9 h) λy h5 h=> ?_;obtain⟨hc,h⟩:=T3 h;obtain rfl:=aq h;obtain⟨q,hk⟩:=aa5 h3;exact⟨hk,s.2.1,s.2.2,c.1,y.2,c.2.2,p.2.2.2,aD (aH8 h1) (aD (ah5 h2) (aD q (aD (O1 h4) (aD (S7 h5) (aD (fH (j9 hc)) (aD (fG (d7 hc)) rfl))))))⟩
theorem aT6 (h:TG s=aa e):∃p,s= .Expr e p:=by
 cases s with
 | Expr a p=>exact aq h▸⟨p,rfl⟩
 | _=>exact p7 h
theorem Ow (h:apx s=aa q):∃ep,s= .Expr (.Call (.Attribute (.Name q.1.1 q.1.2) q.2.1.1 q.2.1.2) [q.2.2.1] q.2.2.2.1 q.2.2.2.2) ep:=by refine g8 h λe h1 h=> ?_;refine g8 h λc h2 h=> ?_;refine g8 h λm h3 h=> ?_;refine g8 h λy h4 h=> ?_;refine g8 h λa h5 h=> ?_;obtain rfl:=aq h;refine(aT6 h1).imp λep h=> ?_;exact aD h (aD (ae3 h2) (aD (ai5 h3) (aD (S7 h4) (aD (O1 h5) rfl))))
theorem ayd (e:cH k hd=aa h):Ou k h∧aik h hd:=by obtain⟨t,x,b,pos⟩:=hd;refine g8 e λt ht e=> ?_;refine g8 e λc h1 e=> ?_;refine g8 e λx hx e=> ?_;refine g8 e λst h2 e=> ?_;refine g8 e λq h3 e=> ?_;refine g8 e λpre h8 e=> ?_;refine I5 e λhc e=> ?_;obtain rfl:=aq e;refine qm λY Z=> ?_;obtain⟨hk,j,p1,p2,p3,p4,p5,q8⟩:=Ov h8;obtain⟨ep,q3⟩:=Ow h3;refine Z ?_;refine⟨⟨(d7 (d7 (d7 (d7 (d7 (d7 (d7 (d7 (d7 (d7 hc)))))))))),fG (j9 (d7 (d7 (d7 (d7 (d7 (d7 (d7 (d7 (d7 hc)))))))))),fG (j9 (d7 (d7 (d7 (d7 (d7 (d7 (d7 (d7 hc))))))))),fH (j9 (d7 (d7 (d7 (d7 (d7 (d7 (d7 hc)))))))),fH (j9 (d7 (d7 (d7 (d7 (d7 (d7 hc))))))),fG (j9 (d7 (d7 (d7 hc)))),fH (j9 (d7 (d7 hc))),fH (j9 (d7 hc)),hk⟩, ?_⟩;exact aD ht (aD (S7 h1) (aD hx (aD (O1 h2) (aD q3 (aD q8 (aD (bY.mp (j9 (d7 (d7 (d7 (d7 (d7 hc))))))) (aD (fH (j9 (d7 (d7 (d7 (d7 hc)))))) (.mk _ _ _ _ _ _ _ _ _ _ _ _ (j9 hc)))))))))
end
section
variable {Γ:Cx}{n m:Nat}{k:Kd}
theorem aye:pI (.type "ValueError") (.type "ValueError")=pure az:=by rw[ir];kernel_rfl
theorem ayf:pI (.type "TypeError") (.type "TypeError")=pure az:=by rw[ir];kernel_rfl
theorem ayg:pI (.type "ValueError") (.type "TypeError")=pure aG:=by rw[ir];kernel_rfl
theorem ayh:pI (.type "TypeError") (.type "ValueError")=pure aG:=by rw[ir];kernel_rfl
theorem XD:pI (.type "ValueError") (.type "BaseException")=pure az:=by rw[ir];kernel_rfl
theorem XF:pI (.type "TypeError") (.type "BaseException")=pure az:=by rw[ir];kernel_rfl
theorem XH:pI (.type ((Sq "ValueError").elim "type" λx=>x.metatype)) (.type "tuple")=pure aG:=by rw[ir];kernel_rfl
theorem XJ:pI (.type ((Sq "TypeError").elim "type" λx=>x.metatype)) (.type "tuple")=pure aG:=by rw[ir];kernel_rfl
theorem ayi {α β:Type}{lk:List Nat}{H:Hp}{i:Nat}{o:p6}{a:α}{σ jY:St}{f:α->St->v7 β}{q:Res β}(e:N7 (jV σ (put lk H i o a)) f=aa (q,jY)):i∉lk∧f a {σ with hp:=H.set i o}=aa (q,jY):=by
 unfold put at e;cases h:lk.contains i with
 | true=>rw[h]at e;exact iu e
 | false=>rw[h]at e;exact⟨λhm=>(Lp ((dj.mpr hm).symm.trans h)),e⟩
section
variable {A:bQ}{env:fu}{s:aV}{E:PQ aB}{h:zL}{M:aM->Option aB}{a:aW}{c:String}{mm:aM}
theorem XK (G:W9 Γ)(O:v9 Γ k env)(K:Ou k h)(hu:A.units+30<yC)(X:Γ.K.In s.heap)(hn:s.heap.Ns env.locals M)(hm:M h.x=aa (.ref a))(ex:aij s.heap c mm a)(hz:(h.pre.append mm).length≤16777216)
  (hQ:∀tk yq,Q (.str (h.pre.append mm) tk) {s with toks:=yq}):aO Γ.M A (eval (Jo h j p1 p2 p3 p4 p5) env) Q E s:=by
 obtain⟨o,vs,t,tk,n,⟨e1,e2,e3,e4,e5,e6⟩⟩:=ex;refine Cq (oY (mq (dN (ae4 O K.ks G.str X ?_) (by decide))));refine mV (P:=λU=>True) rfl (λh U=>⟨.machine,.inr (.inl rfl),kY rfl⟩) (kO ?_);refine ik (dN (eG O.kind (O.loc _ K.kx) hn hm ?_) (G9 K.xd));refine lz ⟨trivial, ?_⟩;have fin:aO Γ.M A (oE .Add (.str h.pre s.toks) (.str mm tk)) Q E {s with toks:=s.toks+1}:=add_str (λt' yq=>hQ t' yq) (by rw[aM.oV]at hz;exact hz);rcases e4 with rfl | rfl
 ·exact nP zH (bz (bK (by decide) _) hu) ⟨o,vs,e1,e2,e3,e5⟩ ⟨_,n,e6,rfl,rfl⟩ fin
 ·exact nP Ai (bz (bK (by decide) _) hu) ⟨o,vs,e1,e2,e3,e5⟩ ⟨_,n,e6,rfl,rfl⟩ fin
theorem Ox (G:W9 Γ)(O:v9 Γ k env)(K:Ou k h)(hl:(ap.endLine==p.line)=az)(hu:A.units+30<yC)(X:Γ.K.In s.heap)(hn:s.heap.Ns env.locals M)(hm:M h.x=aa (.ref a))(ex:aij s.heap c mm a)(hz:(h.pre.append mm).length≤16777216)
  (ht:M h.to=aa (.ref D)) (hD:s.heap.get? D=aa (listOf us nD)) (hs:us.size≤16777216) (hQ:∀tk yq,Q .next {s with heap:=s.heap.update D (dM (·.push (.str (h.pre.append mm) tk))),toks:=yq}):
  aO Γ.M A (execs [.Expr (.Call (.Attribute (.Name h.to yp) ("append":aM) ap) [Jo h j p1 p2 p3 p4 p5] [] p) ep] env) Q E s:=by
 refine uM (wpAny_Expr_any ?_ (by simp [aom,O.kind]) rfl);refine ah3 rfl hl rfl rfl (uQ rfl) (dN (eG O.kind (O.loc _ K.kt) hn ht λpl=> ?_) (G9 K.td));refine getMethod_list_append hD rfl rfl ?_;refine mV (P:=λU=>True) rfl (λh U=>⟨.machine,.inr (.inl rfl),kY rfl⟩) (kO ?_);refine ik (XK G O K hu X hn hm ex hz λtk yq=>lz ⟨trivial, ?_⟩);exact ai4 hD hs (rC (hQ tk yq))
end
section
variable {l:List fu}{env:fu}{ρ iy:eO}{X:List aW}{a:aW}{c:String}{mm:aM}{s iI:aV}{lk:List Nat}{A:bQ}{σ jY:St}{q:Res Fl}{h₀:bL}{Q:PQ Flow}{E:PQ aB}{hd:jK}{h:zL}{rest:List jK}
theorem av7 {c:aM}(h:(yF c).isSome=az):c≠("__debug__":aM):=λe=>by subst e;exact absurd h (by decide)
theorem XM (G:W9 Γ)(O:v9 Γ k env)(K:Ou k h)(hs:aik h hd)(oA:h.cls≠oX c)(S:SR Γ ρ σ.hp (uD s X))(f:Z1 h₀ l c mm a X s.heap (aa .none))
  (w:aO Γ.M A (aot (.ref a) env rest) Q E s):aO Γ.M A (aot (.ref a) env (hd::rest)) Q E s:=by
 refine qm λY Z=> ?_;obtain⟨j,p1,p2,p3,p4,p5,np,yp,ap,p,ep,pos,hl⟩:=hs;obtain⟨o,vs,t,tk,n,hX,aX,⟨e1,e2,e3,e4,e5,e6⟩,tX,tf,wy⟩:=f;obtain⟨x,hx⟩:=bZ.mp K.exc;refine Z ?_;rcases aH0 hx with⟨q,_⟩ | ⟨q,_⟩<;>rcases e4 with rfl | rfl
 ·exact absurd q oA
 ·exact nH XD XH ayh (dN (ae4 O K.kc (q▸G.ve) (λb o e=>iV X (S.rJ b o e)) ⟨rfl,⟨o,e1,e2⟩,w⟩) (G9 (av7 K.exc)))
 ·exact nH XF XJ ayg (dN (ae4 O K.kc (q▸G.te) (λb o e=>iV X (S.rJ b o e)) ⟨rfl,⟨o,e1,e2⟩,w⟩) (G9 (av7 K.exc)))
 ·exact absurd q oA
theorem aM9 (G:W9 Γ)(O:v9 Γ k env)(hu:A.units+30<yC)(K:Ou k h)(hl:(ap.endLine==p.line)=az)(S:SR Γ ρ σ.hp (uD s X))(F:FR Γ l ρ (uD s X).heap env σ.loc σ.cR)(f:Z1 h₀ l c mm a X s.heap (aa .none))
  (xs:Ext Γ (m7 l) (wK Γ k lk iy env) iy iI ρ (uD s X)) (ev:hnd lk h mm σ=aa (q,jY)) (P:J1 Γ k l env lk iy iI q jY (Ar Γ) Q E):
  aO Γ.M A (setFlight (.ref a) aC) (λU bO=>aO Γ.M A (storeName env h.x (.ref a)) (λU jX=>aO Γ.M A (execs [.Expr (.Call (.Attribute (.Name h.to yp) ("append":aM) ap) [Jo h j p1 p2 p3 p4 p5] [] p) ep] env) (λfl sI=>
    aO Γ.M A' (do aor env h.x .none;aos env h.x pos) (λU kj=>Q fl kj) E sI) E3 jX) E2 bO) E1 s:=by
 refine au9 f λh4 f4 k4=> ?_;have x4:Ext Γ (m7 l) (λU=>False) ρ (uD s X) ρ (uD {s with heap:=h4} X):=Ext.keeps k4;obtain⟨M,C4⟩:=Ot.of (S.keeps k4) (FR.ext (lk:=lk) F (x4.weaken λU z=>z.elim)) f4;refine lU (O.loc _ K.kx) C4.hn (λh5 hn5 sb5=> ?_) (by refine aD O.kind ?_;rfl);obtain⟨C5,x5⟩:=C4.write hn5 sb5 λy v e=>⟨bu (ap9 e).1,(ap9 e).2⟩;have xs5:=(xs.trans' x4 λb z=>z.elim).trans' x5 λb hb=> .inl (hb▸(.inr (.inl rfl)));refine g8 ev λt ht ev=> ?_;refine g8 ev λv hv ev=> ?_;refine g8 ev λpl hp ev=> ?_;refine I5 ev λhr ev=> ?_;refine qm λY Z=> ?_;obtain⟨vg,ev⟩:=ayi ev;obtain⟨rfl,hz⟩:=au7 ht;refine Z ?_;refine lO (C4.hl h.to v hv) λu hu1 hvu=> ?_;obtain⟨D,us,nD,hi,hrr,hD,hDs,hDz⟩:=(VR.ext hvu x5).listAt C5.S hp;have hDr:=iV X hD;refine Ox G O K hl hu C5.rJ hn5 (bG rfl) C5.exc hz ((bu K.ne).trans hu1) hDr (hDs.size▸hDz) λtk1 tk2=> ?_;have other:∀b,∀J:b≠D,(h5.update D (dM (·.push (.str (h.pre.append mm) tk1)))).get? b=h5.get? b:=λb hb=>jh _ _ (Ne.symm hb);obtain⟨nE,hb6⟩:∃n,(h5.update D (dM (·.push (.str (h.pre.append mm) tk1)))).get? D=aa (listOf (us.push (.str (h.pre.append mm) tk1)) n):=⟨_,iz _ hDr rfl⟩;generalize h5.update D (dM (·.push (.str (h.pre.append mm) tk1)))=h6 at*
 have x6:Ext Γ (m7 l) (Wr Γ lk ρ) ρ (uD {s with heap:=h5,toks:=s.toks+1} X) ρ (uD {s with heap:=h6,toks:=tk2} X):=Ext.Fq C5.S hi hrr vg (λb o hb e=>(az4 other b λq=>hb (q▸ .head _)).trans e) λb hb=>by obtain rfl:=aP.mp hb;exact⟨_,(jM X hb6 (Q7 hD))⟩
 have S6:=C5.S.Fq (s':=uD {s with heap:=h6,toks:=tk2} X) (mo':= .list (pl.2++ [.str (h.pre.append mm)])) hi hrr (λb o hb e=>(az4 other b λq=>hb (q▸ .head _)).trans e) ⟨D,_,_,(jM X hb6 (Q7 hD)),by
  refine aD jF ?_;exact(gA.ext hDs x6).append (.mk _ [] ⟨tk1⟩ rfl),by refine aD aA ?_;exact I2 hr⟩
 have dat:∀{b:aW}{o:oH},∀J:h5.get? b=aa o,∀J:(∀us n,o.data≠ .seq us n)∨o.cls≠ .type "list",b≠D:=λe d z=>by simp only[z,hDr]at e;cases e;exact d.elim (λd=>d _ _ rfl) λd=>d rfl
 obtain⟨o,vs,t,tk,n,⟨e1,e2,e3,e4,e5,e6⟩⟩:=C5.exc;have C6:Ot Γ l env ρ (σ.hp.set pl.1 (.list (pl.2++ [.str (h.pre.append mm)]))) (del σ.loc h.x) σ.cR X a c mm _ {s with heap:=h6,toks:=tk2}:=
  ⟨S6,C5.F.ext x6,⟨o,vs,t,tk,n,(other a (dat e1 (.inl λus n q=>nomatch e3.symm.trans q))).trans e1,e2,e3,e4,e5,(other t (dat e6 (.inr (show jl "tuple" ≠ .type "list" by decide)))).trans e6⟩,Df.ns (λo e=>⟨o,(other _ λ(z:env.locals=D)=>C5.F.wI (aD z (cG.mpr ⟨_,aR hrr,.head _⟩))).trans e,rfl⟩) hn5,λy v e=>(C5.hl y v e).imp λu q=>⟨q.1,VR.ext q.2 x6⟩⟩
 exact C6.fin O K.kx (.inr (.inl rfl)) (xs5.trans' x6.toS λb z=>z.back xs5.grow) λs' xf Sf Ff=>(P.take ev:J1 Γ k l env lk iy iI (.ok .next) {σ with hp:=σ.hp.set pl.1 (.list (pl.2++ [.str (h.pre.append mm)])),loc:=del σ.loc h.x} (Ar Γ) Q E) ρ s' .next xf Sf Ff rfl
theorem ail (G:W9 Γ)(O:v9 Γ k env)(a0:jW A l (n+1))(K:Ou k h)(hs:aik h hd)(wk:h.cls=oX c)(S:SR Γ ρ σ.hp (uD s X))(F:FR Γ l ρ (uD s X).heap env σ.loc σ.cR)(f:Z1 h₀ l c mm a X s.heap (aa .none))
  (xs:Ext Γ (m7 l) (wK Γ k lk iy env) iy iI ρ (uD s X)) (ev:hnd lk h mm σ=aa (q,jY)) (P:J1 Γ k l env lk iy iI q jY (Ar Γ) Q E):aO Γ.M A (aot (.ref a) env (hd::rest)) Q E s:=by
 obtain⟨j,p1,p2,p3,p4,p5,np,yp,ap,p,ep,pos,hl⟩:=hs;have f0:=f;obtain⟨o,vs,t,tk,nn,hX,aX,⟨e1,e2,e3,e4,e5,e6⟩,tX,tf,wy⟩:=f0;have hu:(A.mark (aa (.ref a))).units+30<yC:=by have:=a0.units;show A.units+30<yC;lia
 rcases e4 with rfl | rfl
 ·exact nH XD XH aye (dN (ae4 O K.kc (wk▸G.ve) (λb o e=>iV X (S.rJ b o e)) ⟨rfl,⟨o,e1,e2⟩,aM9 G O hu K hl S F f xs ev P⟩) (G9 (av7 K.exc)))
 ·exact nH XF XJ ayf (dN (ae4 O K.kc (wk▸G.te) (λb o e=>iV X (S.rJ b o e)) ⟨rfl,⟨o,e1,e2⟩,aM9 G O hu K hl S F f xs ev P⟩) (G9 (av7 K.exc)))
theorem Jp (G:W9 Γ)(O:v9 Γ k env)(a0:jW A l (n+1))(S:SR Γ ρ σ.hp (uD s X))(F:FR Γ l ρ (uD s X).heap env σ.loc σ.cR)(f:Z1 h₀ l c mm a X s.heap (aa .none))
  (xs:Ext Γ (m7 l) (wK Γ k lk iy env) iy iI ρ (uD s X)) (ev:hnd lk h mm σ=aa (q,jY)) (P:J1 Γ k l env lk iy iI q jY (Ar Γ) Q E):∀{hs:List jK}{mhs:List zL},∀J:cHs k hs=aa mhs,∀J:(mhs.find? λh=>h.cls=oX c)=aa h,aO Γ.M A (aot (.ref a) env hs) Q E s
 | [],_,e,hf=>by obtain rfl:=aq e;exact iu hf
 | y::ys,mhs,e,hf=>by
  refine g8 e λmy e1 e=> ?_;refine g8 e λmys e2 e=> ?_;obtain rfl:=aq e;obtain⟨K,hs⟩:=ayd e1;by_cases wk:my.cls=oX c
  ·rw[ud (by simpa using wk)]at hf
   obtain rfl:=aq hf;exact ail G O a0 K hs wk S F f xs ev P
  ·rw[Et (by simpa using wk)]at hf
   exact XM G O K hs wk S f (Jp G O a0 S F f xs ev P e2 hf)
end
theorem XN (G:W9 Γ)(ih:yK Γ n)(hh:cHs k hs=aa mhs)(oA:hs.isEmpty=aG):T6 Γ (n+1) k (.Try b hs [] [] p) (.afc (b.map (cS m k)) mhs):=λenv l A lk σ ρ s O W a S F q jY ev Q E P=>by
 cases hs with
 | nil=>exact Lp oA
 | cons y ys=>
  refine wpAny_Try_except ?_;have ev:(match G5 (iY Γ.G n lk) (b.map (cS m k)) σ with
   | some (.ok f,σ)=>fc f σ
   | some (.exc c m,σ)=>opt (mhs.find? λh=>h.cls=oX c) λh=>hnd lk h m σ
   | none=>aC)=aa (q,jY):=ev
  cases hq:G5 (iY Γ.G n lk) (b.map (cS m k)) σ with
  | none=>simp only[hq]at ev;exact iu ev
  | some pr=>
   obtain⟨res,gW⟩:=pr;rw[hq]at ev;cases res with
   | ok fl=>
    refine(ak1 ih O W a.pred b S F) _ _ hq _ _ λfj s' u x S' F' r=> ?_;have P':=P.take ev fj s';cases fl with
    | next=>obtain rfl:u= .next:=r;exact rC (P' .next x S' F' rfl)
    | brk=>obtain rfl:u= .brk:=r;exact P' .brk x S' F' rfl
    | cont=>obtain rfl:u= .cont:=r;exact P' .cont x S' F' rfl
    | ret v=>obtain⟨w,hv⟩:=r;exact P' (.ret w) x S' F' ⟨w,hv⟩
   | exc c mm=>
    refine g8 ev λh hf ev=> ?_;refine(ak1 ih O W a.pred b S F) _ _ hq _ _ λfj s' e X x S' F' fl=> ?_;obtain⟨r,rfl⟩:=W.head;obtain⟨a',xo,f,hx⟩:=fl;refine ay8 a.frames W.frame F'.uU x.live f (FJ W.frame hx) λpL X' f' st=> ?_;have RD:xn (m7 (env::r)) (uD s' X).heap (uD {s' with heap:=pL} X').heap:=st;refine au9 f' λh3 f3 k3=> ?_;have x3:Ext Γ (m7 (env::r)) (λU=>False) fj (uD {s' with heap:=pL} X') fj (uD {s' with heap:=h3} X'):=Ext.keeps k3;exact Jp G O a ((RD.sr F'.uU S').keeps k3) (FR.ext (lk:=lk) (F'.stp RD) (x3.weaken λU z=>z.elim)) f3 ((x.trans' (RD.ext (W:=λU=>False) F'.uU) λb q=>q.elim).trans' x3 λb q=>q.elim) ev P hh hf
end
section
variable {Γ:Cx}{n m:Nat}{k:Kd}
theorem Jq (h:nameAt k ln t=aa x):k x=aa .local∧∃p,t= .Name x p:=by
 cases t with
 | Name y p=>
  have h:(if (k y==aa .local&&p.line==ln)=az then aa y else aC)=aa x:=h;by_cases c:(k y==aa .local&&p.line==ln)=az
  ·rw[bG c]at h
   obtain rfl:=aq h;exact⟨fG (d7 c),p,rfl⟩
  ·replace h:=(bu c)▸h;exact iu h
 | _=>exact p7 h
inductive Jr (k:Kd)(ts vs:List aF):Option (List aM)->Prop
 | no:Jr k ts vs aC
 | two (x y:aM) (px py:qg) (ht:ts= [.Name x px,.Name y py]) (hx:k x=aa .local) (hy:k y=aa .local):Jr k ts vs (aa [x,y])
theorem XQ (hl:(ts.filterMap (nameAt k ln)).length=ts.length)(h:ts.filterMap (nameAt k ln)= [x,y]):Jr k ts vs (aa [x,y]):=by
 rw[h]at hl;rcases ts with _ | ⟨a,_ | ⟨b,_ | ⟨c,r⟩⟩⟩
 ·exact nxY hl
 ·cases hl
 ·cases ha:nameAt k ln a with
  | none=>
   rw[dm ha]at h;cases hb:nameAt k ln b with
   | none=>replace h:=(dm hb)▸h;exact nxC h
   | some v=>rw[cP hb]at h;cases h
  | some u=>
   rw[cP ha]at h;cases hb:nameAt k ln b with
   | none=>rw[dm hb]at h;cases h
   | some v=>
    rw[cP hb]at h;refine nF (bI h).1 (nF ((bI (bI h).2).1) ?_);obtain⟨h1,p1,rfl⟩:=Jq ha;obtain⟨h2,p2,rfl⟩:=Jq hb;exact .two _ _ p1 p2 rfl h1 h2
 ·cases hl
theorem ifs {α:Type}{c1 c2 c3 c4 c5:Prop} [Decidable c1] [Decidable c2] [Decidable c3] [Decidable c4] [Decidable c5] {a b r:α}{f:α->Prop}(h:f (if c1 then a else if c2 then a else if c3 then a else if c4 then a else if c5 then b else r)):(¬c3∧f r)∨f a∨f b:=by
 by_cases h1:c1
 ·rw[bG h1]at h;exact .inr (.inl h)
 by_cases h2:c2
 ·rw[bu h1,bG h2]at h;exact .inr (.inl h)
 by_cases h3:c3
 ·rw[bu h1,bu h2,bG h3]at h;exact .inr (.inl h)
 by_cases h4:c4
 ·rw[bu h1,bu h2,bu h3,bG h4]at h;exact .inr (.inl h)
 by_cases h5:c5
 ·rw[bu h1,bu h2,bu h3,bu h4,bG h5]at h;exact .inr (.inr h)
 ·rw[bu h1,bu h2,bu h3,bu h4,bu h5]at h;exact .inl ⟨h3,h⟩
set_option backward.match.sparseCases true in
theorem Oz {i j:Nat}{p q:qg}(hb:env.blockKind= .function)(hk:env.kindOf=k)(h:aA8 k ts vs=aa r):qN [.Tuple ts i p] (.Tuple vs j q) env=pure r:=by
 have key:∀(c1 c2 c3 c4 c5:Prop) [Decidable c1] [Decidable c2] [Decidable c3] [Decidable c4] [Decidable c5] (nm:Option (List aM)) (bad:RW (Option (List aM))),∀J:(if c1 then aa aC else if c2 then aa aC else if c3 then aa aC else if c4 then aa aC else if c5 then aC else aa nm)=aa r,(if c1 then pure aC else if c2 then pure aC else if c3 then pure aC else if c4 then pure aC else if c5 then bad else pure nm:RW (Option (List aM)))=pure r:=by
  intro c1 c2 c3 c4 c5 _ _ _ _ _ nm bad h;by_cases h1:c1
  ·rw[bG h1]at h⊢;rw[aq h]
  rw[bu h1]at h⊢;by_cases h2:c2
  ·rw[bG h2]at h⊢;rw[aq h]
  rw[bu h2]at h⊢;by_cases h3:c3
  ·rw[bG h3]at h⊢;rw[aq h]
  rw[bu h3]at h⊢;by_cases h4:c4
  ·rw[bG h4]at h⊢;rw[aq h]
  rw[bu h4]at h⊢;by_cases h5:c5
  ·replace h:=(bG h5)▸h;exact iu h
  rw[bu h5]at h⊢;rw[aq h]
 subst hk;show(if ((_ || (env.blockKind !=uR))=az) then(pure aC:RW (Option (List aM))) else _)=_;refine aD hb (aD (show(uR !=uR)=aG from rfl) ?_);rw[mY];exact key _ _ _ _ _ _ _ h
theorem aT7 (h:aA8 k ts vs=aa (aa l))(hd:duo l=aa (x,y)):Jr k ts vs (aa [x,y]):=by
 rcases ifs (f:=λz=>z=aa (aa l)) h with⟨h3,h⟩ | h | h
 ·have e:=aq (aq h)
  rw[kZ,not_or]at h3;exact XQ (Decidable.not_not.mp λz=>h3.1 (bne_iff_ne.mpr z)) (e.trans (an2 hd))
 ·cases aq h
 ·exact iu h
theorem FR.two (oA:x≠y)(F:FR Γ l ρ h env (upd (upd loc y b) x a) cR):FR Γ l ρ h env (upd (upd loc x a) y b) cR:=by
 have eq:∀z,(upd (upd loc x a) y b).lookup z=(upd (upd loc y b) x a).lookup z:=λz=>by
  refine aD X3 (aD X3 (aD X3 (aD X3 ?_)));by_cases h1:z=y
  ·rw[bG h1,bu (λq=>oA (q.symm.trans h1)),bG h1]
  ·rw[bu h1,bu h1]
 obtain⟨M,hn,hl⟩:=F.ns;exact⟨F.uU,⟨M,hn,λz v e=>hl z v ((eq z).symm.trans e)⟩,F.cells,F.wI,F.xV,F.xW,F.sY,F.Bk,F.vQ,F.qe,F.apart,F.neL,λh=>F.Mj (by rw[←eq];exact h)⟩
theorem gA.two (x:gA Γ ρ h [a,b] us):∃u v,us= [u,v]∧VR Γ ρ h a u∧VR Γ ρ h b v:=by obtain⟨u,us,hu,hs⟩:=x;obtain⟨v,us,hv,hs⟩:=hs;obtain rfl:=gA.nil hs;exact⟨u,v,rfl,hu,hv⟩
theorem ayj (e:K5 Γ.G n lk (.tup [.loc x,.loc y]) v σ=aa (q,jY)):∃a b,v= .tup [a,b]∧q= .ok ()∧jY={σ with loc:=upd (upd σ.loc x a) y b}:=by
 cases n with
 | zero=>exact iu e
 | succ n=>
  refine g8 e λl h1 e=> ?_;refine I5 e λh2 e=> ?_;rcases l with _ | ⟨a,_ | ⟨b,_ | ⟨c,r⟩⟩⟩
  ·exact nxY (fH h2)
  ·cases(fH h2)
  ·cases n with
   | zero=>exact iu e
   | succ n=>
    exact⟨a,b,aG4 h1,(jQ (aq e)).1.symm,(jQ (aq e)).2.symm⟩
  ·cases(fH h2)
theorem OD (hx:k x=aa .local)(hy:k y=aa .local)(oA:x≠y)(he:v4 Γ n k e me)(O:v9 Γ k env)(a:jW A l n)
  (hs:swapsWithSole [.Tuple [.Name x px,.Name y py] i pt] e p.line env=pure aG) (hw:qN [.Tuple [.Name x px,.Name y py] i pt] e env=pure (aa [x,y])) (S:SR Γ ρ σ.hp s) (F:FR Γ l ρ s.heap env σ.loc σ.cR):
  I3 Γ k l env lk ρ s (iY Γ.G (n+1) lk (.asg (.tup [.loc x,.loc y]) me) σ) (λQ E=>aO Γ.M A (adk (.Assign [.Tuple [.Name x px,.Name y py] i pt] e p) env) Q E s) (Ar Γ):=by
 refine(he env l A (σ.fm lk) σ.hp ρ s O a S F).stmt (uH:=λu aU Q E=>aO Γ.M A (unpackItems u 2 aC) (λus bO=>aO Γ.M A (Rg [aor env y,aor env x] us.reverse) (λU=>Q aeu) E bO) E aU) F (λQ E w=> ?_) λv cM aZ aU u cU cg hv q jY ev Q E P=> ?_
 ·simp only[exec_Assign_arm];refine aD hs ?_
  exact aj (dR (aj (au (oh (bu (by decide)) (aD hw (aj (bJ w (λu aU z=>aj (au (aj (jE (aj (bJ z (λus bO z=>aj (bJ z (λU U z=>au z) λU U z=>z)) λU U z=>z)))))) λU U z=>z)))))))
 ·have ev:(N7 (K5 Γ.G n lk (.tup [.loc x,.loc y]) v {σ with hp:=cM}) λU σ=>fc Fl.next σ)=aa (q,jY):=ev
  cases hr:K5 Γ.G n lk (.tup [.loc x,.loc y]) v {σ with hp:=cM} with
  | none=>rw[hr]at ev;exact iu ev
  | some r=>
   refine qm λY Z=> ?_;obtain⟨r,a8s⟩:=r;obtain⟨a',b',rfl,rfl,rfl⟩:=ayj hr;refine Z ?_;rw[hr]at ev;obtain⟨t,us,nn,ht,hus⟩:=hv;refine nF (show us.size=2 from hus.size) ?_;refine wpAny_unpackItems_tuple a.hand (af7 ht) λh' he=> ?_;have dB:Ext Γ (m7 l) (Wr Γ lk aZ) aZ aU aZ {aU with heap:=h'}:=Ext.keeps (λb o e=>he b o (dh (cA e)) e);refine qm λY Z=> ?_;obtain⟨u1,u2,hu,hv1,hv2⟩:=(hus.ext dB).two;exact Z (aD hu (aj (bT (Hw (aB2 (σ:={σ with hp:=cM}) O hy (cg.keeps (λb o e=>he b o (dh (cA e)) e)) ((F.ext cU).ext dB) hv2 λjX oW rK Dj=>(aj (bT (Hw (aB2 (σ:={σ with hp:=cM,loc:=upd σ.loc y b'}) O hx rK Dj (hv1.ext oW) λsI uI zN axj=>au (P.take ev aZ sI .next ((dB.toS.trans' oW λb q=> .inl q).trans' uI λb q=> .inl q) zN (axj.two oA) rfl))))))))))
end
section
variable {Γ:Cx}{n m:Nat}{k:Kd}
structure Ge (Γ:Cx):Prop where
 fn:∀c x g,∀J:Γ.G.bN c x=aa g,fnIn Γ.K g=az∧xH Γ.K (.ref g) "__get__"=aa (aa (.builtin "function.__get__"))∧ada Γ.K (.ref g)=aa aG
 name:∀x g,∀J:Γ.G.bN Γ.G.fW x=aa g,copiedNames.contains x=aG
theorem OJ (hb:ab0 o=az)
  (h:aO Γ.M A (eval o env) (λov aU=>aO Γ.M A (Eo ov name az) (λf bO=>aO Γ.M A (Ah p f [] [(az,do let v←eval e env;mj p;pure v)] []) Q E bO) E aU) E s):
  aO Γ.M A (eval (.Call (.Attribute o name ap) [.Starred e sp] [] p) env) Q E s:=by
 have e1:eval (.Call (.Attribute o name ap) [.Starred e sp] [] p) env=(do
   let ov←lM o name env (eval o env)
   mj ap.atName
   sW o name ap p env ov 1 [(az,do let v←eval e env;mj p;pure v)] []):=by rfl
 rw[e1,au8 hb];refine aj (bJ h (λov aU jj=>aj (dR ?_)) λU U z=>z);delta sW;refine aD (show Hq 1 [(az,do let v←eval e env;mj p;pure v)] []=aG from rfl) ?_;refine aj (bT ?_);refine oh (bu (by decide)) ?_;refine aj (bJ jj (λf bO ni=>au ?_) λU U z=>z);delta methodCallPos;exact aD (bG (by rfl)) (aj (au ni))
theorem XR (K:M6 Γ)(C:Fv Γ)(Mo:R5 Γ)(B:Ge Γ)(hF:Il Γ n)(ho:v4 Γ n k o mo)(he:v4 Γ n k e me)(hb:ab0 o=az):v4 Γ (n+1) k (.Call (.Attribute o x ap) [.Starred e sp] [] p) (.star mo x me):=λenv l A φ H ρ s O a S F=>
 (ho env l A φ H ρ s O a.pred S F).iZ (λQ E w=>OJ hb w) λov cM aZ aU u cU cg hv=> .opt λg hg=>by refine g8 hg λp' h1 h2=> ?_;have hi0:=(am9 h1).elim λU q=>q.1;obtain⟨hd0,hm⟩:=ap6 h2;obtain⟨b,dx,es,nn,us,kk,hi,hr,hA,Cj,pJ,je,hz,hc,uE⟩:=hv.sX cg h1;replace hm:=hc▸hm;refine Be (Mo.bN _ _ _ hm) λm1 m2 m3=> ?_;refine Be (B.fn _ _ _ hm) λb1 b2 b3=> ?_;have dB:Ext Γ (m7 l) (Wr Γ φ.lk aZ) aZ aU aZ {aU with heap:=aU.heap.push (methodObj (.ref g) (.ref b)),toks:=aU.toks+1}:=Ext.keeps (K7 _ _);refine λq H' ev Q E P=>ay1 K cg.rJ (⟨hA,rfl,rfl,Cj⟩:InstAt aU.heap b _ Γ.G.fW (aa (iU es nn))) (findObj_fn (C.hasDict _ uE) m1 b2 b3 (B.name _ _ hm) (by simp only[Cr];exact(pJ.look x).2 hd0)) (mR (fn_get cg.rJ m2 (handed_on rfl ?_)));refine ks_call rfl (λh z=>z) (ks_lone ?_);refine(he env l A φ cM aZ _ O a.pred (cg.keeps (K7 _ _)) ((F.ext cU).ext dB)).iZ (W:=λw jX Q E=>StarOf Γ.M A E w (λus sI=>W5 Γ sI.heap (.ref aU.heap.objs.size)∧aO Γ.M A (call (.ref aU.heap.objs.size) ([]++us) []) Q E sI) jX) (λQ E w=>w) (λav Bm qy jX w oW rK hw=> .opt λvs je=> .fV λhl=> ?_) q H' ev Q E (P.ext dB);obtain⟨t,ts,tn,ht,hts⟩:=hw.uf je;have arh:=oW.vf.vH _ _ (bj aU.heap rfl) (ab6 rfl rfl (by decide));intro q H' ev Q E P;refine aj (oK ⟨_,ht,rfl⟩ PySem.F.slot_tuple_iter.lookup (au ⟨rfl, ?_⟩));refine wpAny_collect_seq t (.inr rfl) ht rfl rfl (λh' kp'=> ?_) (by refine aD hts.size (aD jf ?_);exact ak (fH hl) (by decide));have uI:Ext Γ (m7 l) (Wr Γ φ.lk qy) qy jX qy {jX with heap:=h'}:=Ext.keeps kp';have zN:SR Γ qy Bm {jX with heap:=h'}:=rK.keeps kp';refine⟨keeps_M b1 _ ⟨kp' _ _ arh,zN.rJ⟩,mR (method_call (kp' _ _ arh) ?_)⟩;exact hF l A φ.lk g (ov::vs) [] [] Bm qy _ (.ref b::ts.toList) [] a.pred zN (((F.ext cU).ext dB).ext (oW.trans uI)).uU (.mk _ _ (((hv.ext dB).ext oW).ext uI) (hts.ext uI)) rfl q H' ev Q E (P.ext uI)
end
section
variable {Γ:Cx}{n m:Nat}{k:Kd}
inductive ag8 (h:bL)(q:aM):aB->Prop
 | mk (c:aW) (o:oH) (vs:Array aB) (t:Tok) (ho:h.get? c=aa o) (hc:o.cls= .type "code") (hd:o.data= .fields vs) (h1:vs[1]?=aa (.str q t)):ag8 h q (.ref c)
theorem ag8.keeps (kp:∀b o,∀J:o.cls= .type "code",∀J:h.get? b=aa o,h'.get? b=aa o):∀J:ag8 h q cv,ag8 h' q cv:=by rintro⟨c,o,vs,t,h1,hc,h2,h3⟩;exact .mk c o vs t (kp _ _ hc h1) hc h2 h3
inductive V0 (P:aW)(q:aM)(h:bL):Prop
 | mk (ps:Array aB) (hP:h.get? P=aa (nO ps)) (ht:nA ps.toList) (hc:∀pos cv,∀J:Ca pos ps.toList=aa cv,ag8 h q cv):V0 P q h
inductive Gf (cells:List (aM×aW))(q:aM):oH->aW->oH->aF->Prop
 | mk (args:rY) (body:aF) (sc:jB) (p:qg) (pm:aB) (c:aW) (ctv:aB) (oc:oH) (vs:Array aB) (t:Tok) (h1:oc.cls= .type "code") (h2:oc.data= .fields vs) (h3:vs[1]?=aa (.str q t)) (hf:∀x,∀J:(x,fD)∈sc.names,(cells.lookup x).isSome=az):Gf cells q (kla_obj "<lambda>" q args body sc (H7 cells sc.names []) pm c ctv) c oc (.Lambda args body sc p)
inductive U0 (P:aW)(h h':bL):Prop
 | mk (ps more:Array aB) (hP:h.get? P=aa (nO ps)) (hP':h'.get? P=aa (nO (ps++more))) (ht:nA (ps++more).toList):U0 P h h'
theorem U0.later (k:∀o,∀J:h'.get? P=aa o,pL.get? P=aa o):∀J:U0 P h h',U0 P h pL:=by rintro⟨ps,more,hP,hP',ht⟩;exact .mk ps more hP (k _ hP') ht
theorem U0.there:∀J:U0 P h h',∃o,h'.get? P=aa o:=by rintro⟨_,_,_,hP',_⟩;exact⟨_,hP'⟩
theorem U0.same (hP:h.get? P=aa (nO ps))(hP':h'.get? P=aa (nO ps))(ht:nA ps.toList):U0 P h h':=
 .mk ps #[] hP (aD iB hP') (aD iB ht)
structure ain (Γ:Cx)(cells:List (aM×aW))(c P:aW)(q:aM):Prop where
 env:∀env,∀J:Γ.vd env,env.cells=cells∧env.code= .ref c∧env.qual++"<lambda>"=q
 hd:CodeHd Γ.g0 c P
 tab:P∈Γ.tabs
 gP:Γ.g0.get? P=aC
 tabs:∀h,∀J:Γ.tabsOk h,V0 P q h
 put:∀h h',∀J:Γ.tabsOk h,∀J:(∀b o,∀J:b≠P,∀J:h.get? b=aa o,h'.get? b=aa o),∀J:U0 P h h',∀J:V0 P q h',Γ.tabsOk h'
 lam:Γ.awg=Gf cells q
 a9b:Γ.G.lam=apy
 main:∃mg bm ob,Γ.g0.Ns bW mg∧mg "__builtins__"=aa (.ref bm)∧bm≠dD∧bm≠bW∧Γ.g0.get? bm=aa ob∧ob.cls= .type "module" ∧ob.dict=aa dD∧ob.data= .plain
theorem aE6 {pos p:qg}(h:nA l)(e:Ca p (l++ [jD pos.line,jD pos.col,c])=aa cv):Ca p l=aa cv∨cv=c:=by
 fun_induction nA l with
 | case1=>
  by_cases q:((pos.line:Int)==(p.line:Int)&&(pos.col:Int)==(p.col:Int))=az
  ·exact .inr (aq ((bG q).symm.trans e)).symm
  ·exact iu ((bu q).symm.trans e)
 | case2 a t b u x r ih=>
  by_cases q:(a==(p.line:Int)&&b==(p.col:Int))=az
  ·exact .inl ((bG q).trans ((bG q).symm.trans e))
  ·exact(ih h ((bu q).symm.trans e)).imp (λz=>(bu q).trans z) id
 | case3 l h1 h2=>exact h.elim
theorem aN0 {FS:List aW}{lk:List Nat}(S:SR Γ ρ H s)(hP:P∈Γ.tabs)(hg:Γ.g0.get? P=aC)(kp:∀b o,∀J:b≠P,∀J:s.heap.get? b=aa o,s'.heap.get? b=aa o)(lv:∃o,s'.heap.get? P=aa o)(T:Γ.tabsOk s'.heap)(G:Γ.Bh s'.gens)
  (h1:s'.os=s.os) (h2:s'.drawn=s.drawn):SR Γ ρ H s'∧Ext Γ FS (Wr Γ lk ρ) ρ s ρ s':=by
 refine lO (Γ.nJ _ S.tabs P hP) λoP hoP hcP=> ?_;have mP:K3 oP:= .inr (.inr (.inr (.inr (.inr (.inl hcP)))));refine⟨⟨S.len,S.nodup,λi o e=>(S.objs i o e).imp λr q=>⟨q.1,q.2.mono (H9.refl ρ s.heap) (λb o e nm=>kp b o (λz=>by simp only[z,hoP]at e;cases e;exact nm mP) e) λb hb o e=>kp b o (λz=>S.lR b (cG.mpr ⟨r,aR q.1,hb⟩) (z▸hP)) e⟩,λb o e=>kp b o (R6 e hg) (S.base b o e),S.apart,S.lR,G,T⟩,⟨.refl _ _,.Ua hoP mP (.inl hP) kp,λb o e=> ?_,h1,h2⟩⟩;by_cases z:b=P
 ·refine aD z ?_;exact lv
 ·exact⟨o,kp b o z e⟩
section
variable {M:yw}{A:bQ}{E:PQ aB}{s:aV}{env:fu}{c P:aW}{q:aM}{pos:qg}{zO:List (aM×aW)}{params:rY}{body:aF}{scope:jB}{Q:PQ aB}
theorem XS (wk:Hv scope env=pure zO)(hge:env.globals=bW)(sZ:env.code= .ref c)(C:CodeHd s.heap c P)(T:V0 P q s.heap){mg:aM->Option aB}(hg:s.heap.Ns bW mg)(hbm:mg "__builtins__"=aa (.ref bm))(oA:bm≠dD)(hng:bm≠bW)
  (hob:s.heap.get? bm=aa ob) (h1:ob.cls= .type "module") (h2:ob.dict=aa dD) (h3:ob.data= .plain) (hq:env.qual++"<lambda>"=q) (ayk:defaultsOf params env=([], []))
  (hQ:∀c' ctv h' tk,∀J:(∀b o,∀J:b≠P,∀J:s.heap.get? b=aa o,h'.get? b=aa o),∀J:U0 P s.heap h',∀J:V0 P q h',∀J:ag8 h' q (.ref c'),Q (.ref h'.objs.size) {s with heap:=h'.push (kla_obj "<lambda>" q params body scope zO ((mg "__name__").getD .none) c' ctv),toks:=tk}):
  aO M A (eval (.Lambda params body scope pos) env) Q E s:=by
 obtain⟨ps,hP,ht,Eg⟩:=T;have hbP:bm≠P:=λe=>by simp only[e,hP]at hob;cases hob;cases h1
 have hgP:bW≠P:=λe=>by obtain⟨o,es,ep,ho,hd,_⟩:=hg;simp only[e,hP]at ho;cases ho;cases hd
 refine kla_eval ayk ?_;refine aD hq ?_;cases hf:Ca pos ps.toList with
 | some cv=>
  obtain⟨c',oc,vs,t,g1,g2,g3,g4⟩:=(Eg pos cv hf);exact kla_makeFunctionHit wk hge hg sZ C hP ht hf ⟨bm,ob,hbm,oA,hng,hbP,hob,h1,h2,h3⟩ λctv h' tk kp U=>
   hQ c' ctv h' tk (λb o U e=>kp b o e) (.same hP (kp _ _ hP) ht) ⟨ps,kp _ _ hP,ht,λp cv e=>(Eg p cv e).keeps λb o U e=>kp b o e⟩ (.mk c' oc vs t (kp _ _ g1) g2 g3 g4)
 | none=>
  rw[makeFunction_eq];simp only[Sh,wG,List.isEmpty_nil,if_true,pure_bind];delta makeTail;refine aD wk (aD hge ?_);refine aj (au ?_);have made:∀cl jj,∀J:(∀b o,∀J:s.heap.get? b=aa o,jj.get? b=aa o),∀ark:Nat,aO M A (functionCode env pos pos.line "<lambda>" q params scope (.expr body)) (λcv bO=>aO M A (do
     let bi←builtinsFor bW env.builtins
     let nm←nsGet bW "__name__"
     let dc←(pure .none:RW aB)
     newObj (.type "function") (.func {name:="<lambda>",qualname:=q,params,body:= .expr body,scope,globals:=bW,closure:=zO,closureTuple:=cl,code:=cv,builtins:=bi,defaults:= .none,kwdefaults:= .none,annotations:=aC,pyModule:=nm.getD .none,doc:=dc})) Q E bO) E {s with heap:=jj,toks:=ark}:=λcl jj kp ark=>by
   refine wpAny_functionCodeX sZ ((C.keeps kp).code (kp _ _ hP) ht) ((C.keeps kp).tab (kp _ _ hP)) hf λc' h' tk hx hge wu U aLn htb aLo=> ?_;have cx:ag8 h' q (.ref c'):=by obtain⟨c₂,oc,vs,t,e,g1,g2,g3⟩:=aLn;cases e;obtain⟨P',_,_,⟨⟨o',vs',f1,f2,_⟩,_⟩⟩:=aLo;obtain rfl:=aq (g1.symm.trans f1);exact .mk c' oc vs t g1 f2 g2 g3
   refine aj (wpAny_builtinsFor ((hg.keeps kp).extBut hx hgP) hbm oA ((λb o hb e=>hx b o hb (kp b o e)) _ _ hbP hob) h1 h2 h3 (aj (wpAny_nsGet ((hg.keeps kp).extBut hx hgP) (aj (au (eN ?_ (by size_fits)))))));have ht':nA (ps++ #[jD pos.line,jD pos.col,.ref c']).toList:=by rw[dH];exact TriplesOk_snoc _ _ _ _ ht
   refine hQ c' cl h' tk (λb o hb e=>hx b o hb (kp b o e)) ⟨ps,_,hP,htb.2,ht'⟩ ⟨_,htb.2,ht',λp cv e=> ?_⟩ cx;rw[dH]at e;exact(aE6 ht e).elim (λe=>(Eg p cv e).keeps λb o hc e=>(λb o hb e=>hx b o hb (kp b o e)) _ _ (λz=>by simp only[z,hP]at e;cases e;cases hc) e) λe=>e▸cx
  cases zO with
  | nil=>exact aj (au (aj (made .none s.heap (λU U e=>e) s.toks)))
  | cons a r=>exact aj (wpAny_newTextTuple (aj (made _ _ (λb o e=>aK _ e) _)))
end
theorem V0.push (T:V0 P q h)(o:oH):V0 P q (h.push o):=
 T.casesOn λps hP ht hc=> .mk ps (aK _ hP) ht λp cv e=>(hc p cv e).keeps λb o U e=>aK _ e
structure aLq (k:Kd)(a:rY)(sc:jB):Prop extends CompK k sc where
 po:a.posonlyargs= []
 ar:a.args= []
 ko:a.kwonlyargs= []
 va:a.vararg=aC
 kw:a.kwarg=aC
 df:a.defaults= []
 kd:a.kw_defaults= []
 co:sc.isCoroutine=aG
 ge:sc.isGenerator=aG
theorem J4 (h:(!b)=az):b=aG:=by cases b<;>first | rfl | exact rU h
theorem av8 (h:HX k a sc=az):aLq k a sc:=by have nm:∀p∈sc.names,p.2= .globalImplicit∨(p.2= .free∧(k p.1=aa .cell∨k p.1=aa .free)):=λp hp=>(dJ.mp (bF.mp (j9 (d7 (d7 (d7 (d7 h))))) p hp)).imp fG λq=>⟨fG (d7 (d7 q)),(dJ.mp (j9 (d7 q))).imp fG fG⟩;refine{xT:=λx hx=>((nm _ hx).resolve_left nofun).2,kind:=fG (j9 (d7 (d7 (d7 h)))),nodup:=fH (j9 h),noe:=λe=>(nm _ (mem_of_lookup e)).elim nofun λq=>(nomatch q.1),sJ:=λp hp e=>(nm p hp).elim (λq=>nomatch q.symm.trans e) λq=>(nomatch q.1.symm.trans e),po:=bY.mp (d7 (d7 (d7 (d7 (d7 (d7 (d7 (d7 (d7 (d7 (d7 h))))))))))),ar:=bY.mp (j9 (d7 (d7 (d7 (d7 (d7 (d7 (d7 (d7 (d7 (d7 h))))))))))),ko:=bY.mp (j9 (d7 (d7 (d7 (d7 (d7 (d7 (d7 (d7 (d7 h)))))))))),va:=lV.mp (j9 (d7 (d7 (d7 (d7 (d7 (d7 (d7 (d7 h))))))))),kw:=lV.mp (j9 (d7 (d7 (d7 (d7 (d7 (d7 (d7 h)))))))),df:=bY.mp (j9 (d7 (d7 (d7 (d7 (d7 (d7 h))))))),kd:=bY.mp (j9 (d7 (d7 (d7 (d7 (d7 h)))))),co:=J4 (j9 (d7 (d7 h))),ge:=J4 (j9 (d7 h))}
theorem aio (K:ain Γ cells c P q)(ok:HX k args sc=az):v4 Γ (n+1) k (.Lambda args body sc p) (.lam (.Lambda args body sc p)):=λenv l A φ H ρ s O a S F=> .fV λhe=> .ok λQ E Po=>by
 refine Be (K.env env (F.Mj he)) λe1 e2 e3=> ?_;obtain⟨mg,bm,ob,hg,hbm,oA,hng,hob,h1,h2,h3⟩:=K.main;have free:=(av8 ok).toCompK.has O;have ayk:defaultsOf args env=([], []):=by obtain⟨a1,a2,a3,a4,a5,a6,a7⟩:=args;obtain rfl:_= []:=(av8 ok).df;obtain rfl:_= []:=(av8 ok).kd;rfl
 refine XS (ap8 free) O.glob e2 (K.hd.keeps S.base) (K.tabs _ S.tabs) (hg.keeps S.base) hbm oA hng (S.base _ _ hob) h1 h2 h3 e3 ayk λc' ctv h' tk kp up T cx=> ?_;refine qm λY Z=> ?_;obtain⟨S',x'⟩:=aN0 (FS:=m7 l) (lk:=φ.lk) (s':={s with heap:=h'.push (kla_obj "<lambda>" q args body sc (H7 env.cells sc.names []) ((mg "__name__").getD .none) c' ctv),toks:=tk}) S K.tab K.gP (λb o hb e=>aK _ (kp b o hb e)) ((up.later λo e=>aK _ e).there) (K.put _ _ S.tabs (λb o hb e=>aK _ (kp b o hb e)) (up.later λo e=>aK _ e) (T.push (kla_obj "<lambda>" q args body sc (H7 env.cells sc.names []) ((mg "__name__").getD .none) c' ctv))) S.gens rfl rfl;obtain⟨c₂,oc,vs,t,g1,g2,g3,g4⟩:=cx;exact Z (Po ρ _ _ x' S' ⟨_,_,_,oc,bj _ rfl,ar4 rfl (by decide) rfl,aK _ g1,ar4 g2 (by decide) (by refine aD g3 ?_;rfl),by refine aD K.lam (aD e1 ?_);exact .mk _ _ _ _ _ _ _ _ vs t g2 g3 g4 (e1▸free)⟩)
theorem bind_none (h1:fd.params.posonlyargs= [])(h2:fd.params.args= [])(h3:fd.params.kwonlyargs= [])(h4:fd.params.vararg=aC)(h5:fd.params.kwarg=aC)(h6:fd.defaults= .none)(h7:fd.kwdefaults= .none):wZ fd ⟨[], []⟩=pure []:=by obtain⟨nm,qn,ps,bd,sc,gl,cl,df,kd,dc,pm,an,co,ct,bl⟩:=fd;obtain⟨a1,a2,a3,a4,a5,a6,a7⟩:=ps;simp only at h1 h2 h3 h4 h5 h6 h7;subst h1 h2 h3 h4 h5 h6 h7;rfl
theorem FR.push {env e:fu}(F:FR Γ l ρ h env loc cR)(he:Mi Γ ρ h e):FR Γ (e::l) ρ h env loc cR:={F with uU:=λe' h'=>(aY.mp h').elim (λq=>q▸he) (F.uU e')}
theorem Pa (h:jo Γ (env::l) lk (A.deeper env) ρ aU r (eval body env) (v5 Γ))(ao:jW A l (n+1))(hf:env.frame=aa env.locals)(K:I7 Γ (env::l) ρ aU.heap)
  (x:Ext Γ (m7 l) (Wr Γ lk ρ) ρ s ρ aU) (new:∀c,∀J:(c=env.locals∨∃x,k x=aa .cell∧env.cells.lookup x=aa c),s.heap.get? c=aC):n8 Γ l lk ρ s r (λQ E=>gD Γ.M A (.expr body env) (Ret Q E) aU) (v5 Γ):=λq H' ev Q E P=>by
 refine kla_codeExpr (h q H' ev _ _ ?_);cases q with
 | ok v=>exact λfj s' u y S' hv'=>P fj s' u (x.call y.toS hf new) S' hv'
 | exc cc mm=>
  intro fj s' e X y S' f;exact aG8 (uF ao.frames) hf (K.ext y) (x.live.trans y.live) (f.less x.live) λpL X' f' st=>(P fj {s' with heap:=pL} e X' (x.call (y.toS.trans' (st.ext (W:=λU=>False) (K.ext y)) λb q=>q.elim) hf new) (st.sr (K.ext y) S') f')
theorem XX (K:ain Γ cells c P q)(Nl:Γ.g0.NoLimit)(ih:∀m k,O8 Γ n m k)(env:fu)(l:List fu)(A:bQ)(φ:Fm)(i:aF)(H:Hp)(ρ:eO)(s:aV)(u:aB)(a:jW A l (n+1))(S:SR Γ ρ H s)(F:FR Γ l ρ s.heap env φ.loc φ.cR)(hv:VR Γ ρ s.heap (.Ao i) u):
  n8 Γ l φ.lk ρ s (callC Γ.G (u9 Γ.G n) φ i H) (λQ E=>W5 Γ s.heap u∧aO Γ.M A (call u [] []) Q E s) (v5 Γ):= .fV λhe=> .opt λpm hpm=>by
 rw[K.a9b]at hpm;obtain⟨f,o,c',oc,ho,hnm,hoc,hnc,hl⟩:=hv;replace hl:=K.lam▸hl;obtain⟨args,body,sc,p,pmv,c',ctv,oc,vs,t,g1,g2,g3,free⟩:=hl;refine I5 hpm λhok hpm=> ?_;obtain rfl:=aq hpm;have L:=av8 hok;refine Be (K.env env (F.Mj he)) λe1 e2 e3=> ?_;refine .keep ⟨.frame,.inl rfl,(uL ho).andThen Looks.now⟩ (n8.of (W:=λQ E=>aO Γ.M A.in1 (qd sc bW (H7 cells sc.names []) [] (q++".<locals>.") (aa f) (.ref c') aC dD) (λen bO=>bO.heap.NoLimit∧gD Γ.M A (.expr body en) (Ret Q E) bO) E s) ?_ λQ E w=>mR (kla_callFunE a.room ho rfl L.co L.ge rfl ⟨c',oc,vs,t,rfl,hoc,g2,g3⟩ ?_))
 rotate_left
 ·refine oh (bind_none L.po L.ar L.ko L.va L.kw rfl rfl) ?_
  exact au w
 ·intro r H' ev Q E Po
  refine qR L.sJ (λx hx=>Cv hx) (λjj xm hsb=>⟨(Nl.keeps S.base).fresh _ hsb, ?_⟩) L.kind;have kp:∀b o,∀J:s.heap.get? b=aa o,jj.get? b=aa o:=λb o e=>hsb.extBut b o (dh (cA e)) (aK _ e);have fL:=J0 s.heap;have fJ:SR Γ ρ H {s with heap:=jj,toks:=s.toks+0}:=S.keeps kp;have x:Ext Γ (m7 l) (Wr Γ φ.lk ρ) ρ s ρ {s with heap:=jj,toks:=s.toks+0}:=Ext.keeps kp;have B:=K4 S fL;refine qm λY Z=> ?_;obtain⟨oL,es,ep,hoL,hdL,_⟩:=id xm;refine Z ?_;have F':=(FR.takes (env':=newEnv sc s.heap.objs.size bW (H7 cells sc.names []) (q++".<locals>.") (aa f) (.ref c') aC dD) (aD e1 free) S F rfl (aD e1 rfl) fL kp xm).push (e:=newEnv sc s.heap.objs.size bW (H7 cells sc.names []) (q++".<locals>.") (aa f) (.ref c') aC dD) ⟨_,oL,es,ep,by refine aD L.kind ?_;decide,rfl,hoL,hdL,B.obj,B.tab,B.base⟩;exact Pa (k:=kdOf sc) (ih 40 (kdOf sc) body _ _ _ ⟨[],φ.cR.filter λp=>(Tv sc).contains p.1,φ.lk⟩ H ρ _ (show v9 Γ (kdOf sc) (newEnv sc s.heap.objs.size bW (H7 cells sc.names []) (q++".<locals>.") (aa f) (.ref c') aC dD) from⟨L.kind,rfl,rfl,λx hx=>hx,λx hx=>absurd rfl (L.sJ _ (mem_of_lookup hx)),λx hx=>⟨.inr hx,az2 (mem_of_lookup hx)⟩,λx hx=>hx,λhx=>absurd hx L.noe⟩) a.deeper fJ F') a rfl F'.uU x (λc hc=>hc.elim (λq=>q▸fL) (by rintro⟨x,hx,_⟩;exact absurd rfl (L.sJ _ (mem_of_lookup hx)))) r H' ev Q E Po
end
section
variable {Γ:Cx}{n m:Nat}{k:Kd}
section
variable {l:List fu}{lk:List Nat}{A:bQ}{ρ:eO}{H:Hp}{s:aV}{u:aB}{vs:List V}{us:List aB}{y:aM}{t:Tok}{v:V}
theorem gA.one (x:gA Γ ρ h [v] us):∃u,us= [u]∧VR Γ ρ h v u:=by obtain⟨u,us,hu,hs⟩:=x;obtain rfl:=gA.nil hs;exact⟨u,rfl,hu⟩
theorem aI0:∀{l:List V}{us:List aB}{xs:List aM},∀J:gA Γ ρ h l us,∀J:ao7 l=aa xs,StrsAre us xs:=by
 intro zz
 induction zz with
 | nil=>
  intro _ _ hv e;obtain rfl:=hv.nil;obtain rfl:=aq e;exact .nil
 | cons v l ih=>
  rintro _ _ ⟨u,us,hu,hs⟩ e;refine g8 e λy e1 e=> ?_;refine g8 e λys e2 e=> ?_;obtain rfl:=aq e;obtain⟨t⟩:=hu.strOf e1;exact .cons y t (ih hs e2)
theorem aip:∀{l:List (aM×Tok)}{xs:List aM},∀J:l.map (·.1)=xs,gA Γ ρ h (xs.map .str) (Ss l):=by
 intro zz
 induction zz with
 | nil=>
  rintro _ rfl;exact rfl
 | cons p l ih=>
  rintro _ rfl;exact .mk _ _ ⟨p.2⟩ (ih rfl)
theorem aiq (h:room n=az):Builtin.Str.tooLong n=aG:=by have:=I2 h;exact aD jf (decide_eq_false (adn.mpr this))
theorem aE7 (h:room n=az):n≤sO:=by refine aD jf ?_;exact I2 h
theorem m_lower (S:SR Γ ρ H s)(je:gA Γ ρ s.heap vs us):jo Γ l lk A ρ s (Lx H y "lower" vs) (call (.builtin "str.lower") (.str y t::us)) (v5 Γ):= .fV λh=> .ok λQ E P=>by obtain rfl:=bY.mp (d7 h);obtain rfl:=je.nil;exact SC.lower (aiq (j9 h)) (P.ok S ⟨_⟩)
theorem aN1:Lx H y "isspace" vs=fV vs.isEmpty (ok (.bool (nU y)) H):=(bu (by decide)).trans (bG rfl)
theorem m_isspace (S:SR Γ ρ H s)(je:gA Γ ρ s.heap vs us):jo Γ l lk A ρ s (Lx H y "isspace" vs) (call (.builtin "str.isspace") (.str y t::us)) (v5 Γ):=by
 refine aD aN1 ?_;exact .fV λh=> .ok λQ E P=>by obtain rfl:=bY.mp h;obtain rfl:=je.nil;exact SC.isspace (P.ok S rfl)
theorem az5 (h1:x≠("lower":aM))(h2:x≠("isspace":aM)):Lx H y x vs=opt (one vs) λv=>
  if x=("join":aM) then opt (listAt H v) λl=>opt (ao7 l.2) λxs=>fV (room ((xs.map (·.length)).sum+xs.length*y.length)) (ok (.str (vq y xs)) H)
  else if x=("split":aM) then opt (strOf v) λt=>fV (t.length !=0&&room y.length&&room (partsOf y t).length) (alloc H (.list ((qZ y t).map .str)))
  else if x=("count":aM) then opt (strOf v) λt=>ok (.int (El y t)) H
  else aC:=(bu h1).trans (bu h2)
theorem ayl (S:SR Γ ρ H s)(je:gA Γ ρ s.heap vs us):jo Γ l lk A ρ s (Lx H y "join" vs) (call (.builtin "str.join") (.str y t::us)) (v5 Γ):=by refine aD (az5 (by decide) (by decide)) ?_;refine .opt λv hv=> ?_;refine aD (bG rfl) ?_;obtain rfl:=Y7 hv;obtain⟨w,rfl,hw⟩:=je.one;refine .opt λp hp=> .opt λxs hx=> .fV λhr=> .ok λQ E P=> ?_;obtain⟨b,us,nn,_,_,hb,hs,_⟩:=hw.listAt S hp;exact join_list (J3 hb) (aI0 hs hx) (I2 hr) λt' k=>P.ok S ⟨t'⟩
theorem air (S:SR Γ ρ H s)(je:gA Γ ρ s.heap vs us):jo Γ l lk A ρ s (Lx H y "count" vs) (call (.builtin "str.count") (.str y t::us)) (v5 Γ):=by refine aD (az5 (by decide) (by decide)) ?_;refine .opt λv hv=> ?_;refine aD (bu (by decide)) (aD (bu (by decide)) (aD (bG rfl) ?_));obtain rfl:=Y7 hv;obtain⟨w,rfl,hw⟩:=je.one;refine .opt λz hz=> .ok λQ E P=> ?_;obtain⟨t'⟩:=hw.strOf hz;exact SC.count (P.ok S ⟨_⟩)
theorem split_len (x y:aM):(qZ x y).length≤max 1 (partsOf x y).length:=by
 unfold qZ partsOf
 split
 ·exact auk _ _
 split
 ·exact auk _ _
 ·exact Nat.le_max_right _ _
theorem m_split (S:SR Γ ρ H s)(je:gA Γ ρ s.heap vs us):jo Γ l lk A ρ s (Lx H y "split" vs) (call (.builtin "str.split") (.str y t::us)) (v5 Γ):=by
 refine aD (az5 (by decide) (by decide)) ?_;refine .opt λv hv=> ?_;refine aD (bu (by decide)) (aD (bG rfl) ?_);obtain rfl:=Y7 hv;obtain⟨w,rfl,hw⟩:=je.one;refine .opt λz hz=> .fV λhc=> .ok λQ E P=> ?_;obtain⟨t'⟩:=hw.strOf hz;have hz0:(z.length==0)=aG:=by simpa using (d7 (d7 hc))
 have hlen:((qZ y z).map V.str).length≤16777216:=by rw[aJ];exact ak (split_len y z) (Nat.max_le.mpr ⟨by decide,I2 (j9 hc)⟩)
 have back:∀(lv:List (aM×Tok))(tk:Nat),∀J:lv.map (·.1)=qZ y z,Q (.ref s.heap.objs.size) {s with toks:=tk,heap:=s.heap.push {cls:= .type "list",data:= .seq (Ss lv).toArray}}:=λlv tk e=>
  ar6 (s:={s with toks:=tk}) S.same (aip e) hlen (P.ext .same)
 cases h1:(decide (y.length<z.length) || decide (tM y<tM z)) with
 | false=>
  cases hf:(yx y z 0 y.length (y.length+1)).isEmpty with
  | false=>
   refine qF nQ (Hx _ _ _) rQ (rE _ _) (meets_str_split_sep y z t t' h1 hz0 hf (aE7 (j9 (d7 hc))) (aE7 (j9 hc))) ?_;rw[strsFrom_eq];exact back (numbered s.toks _) _ ((numbered_texts _ _).trans ((bu (ne_true_of_eq_false h1)).trans (bu (ne_true_of_eq_false hf))).symm)
  | true=>exact qF nQ (Hx _ _ _) rQ (rE _ _) (meets_str_split_not_found y z t t' h1 hz0 hf) (back [(y,t)] s.toks ((bu (ne_true_of_eq_false h1)).trans (bG hf)).symm)
 | true=>exact qF nQ (Hx _ _ _) rQ (rE _ _) (meets_str_split_cannot_occur y z t t' h1) (back [(y,t)] s.toks (bG h1).symm)
variable {i:Nat}{xs:List V}
theorem Yb (S:SR Γ ρ H s)(hu:W3 Γ ρ H s.heap i xs u)(je:gA Γ ρ s.heap vs us):jo Γ l lk A ρ s (Fe lk H i xs "append" vs) (call (.builtin "list.append") (u::us)) (v5 Γ):= .opt λv hv=> .fV λhr=> .put λvg Q E P=>by obtain rfl:=Y7 hv;obtain⟨w,rfl,hw⟩:=je.one;obtain⟨b,ys,nn,hi,wz,hb,hs,hz⟩:=hu;exact ai4 hb (hs.size▸hz) (ac8 (Q:=λU=>Q .none) S hi wz hb vg _ (by refine aD jF ?_;exact hs.append (.mk w [] hw rfl)) (aD aA (I2 hr)) s.toks λx S'=>P ρ _ .none x S' rfl)
theorem Yc (S:SR Γ ρ H s)(hu:W3 Γ ρ H s.heap i xs u)(je:gA Γ ρ s.heap vs us):jo Γ l lk A ρ s (Fe lk H i xs "insert" vs) (call (.builtin "list.insert") (u::us)) (v5 Γ):=by
 refine aD (show Fe lk H i xs "insert" vs=opt (two vs) λp=>opt (intOf p.1) λk=>fV (decide (0≤k)&&decide (k≤xs.length)&&room (xs.length+1)) (put lk H i (.list (xs.take k.toNat++p.2::xs.drop k.toNat)) .none) from(bu (by decide)).trans ((bu (by decide)).trans (bG rfl))) ?_;refine .opt λp hp=> .opt λj hj=> .fV λhc=> .put λvg Q E P=> ?_;have h0:=fH (d7 (d7 hc));have hk:=fH (j9 (d7 hc));have hr:=I2 (j9 hc);obtain rfl:=Jl hp;obtain⟨w,w',rfl,hw,hw'⟩:=je.two;obtain⟨t⟩:=hw.intOf hj;obtain⟨b,ys,nn,hi,wz,hb,hs,hz⟩:=hu;have Uy:dZ j=az:=by delta dZ;simp only[fO,decide_eq_true_eq,decide_eq_true_eq];exact⟨cV (by decide) h0,ju hk (afu hz)⟩
 refine qF Aj ⟨_,hb,rfl⟩ PySem.F.entry_list_insert (PySem.F.args_list_insert_3 _ _ _) (PySem.AutoSeq1.list_insert_list_int_val_1 b ys nn j t w' (by refine aD Uy ?_;decide) (by refine aD jf (aD hs.size ?_);exact pB hr)) ⟨hb, ?_⟩;refine ac8 (Q:=λU=>Q .none) S hi wz hb vg (λxs:Array aB=>
   have k:=if j<0 then nW (j+↑(pO xs)) else min (nW j) (pO xs)
   Array.push (vJ xs 0 k) w'++vJ xs k) ?_ ?_ s.toks λx S'=>P ρ _ .none x S' rfl
 ·show gA _ _ _ _ ((Array.push (vJ ys 0 (if j<0 then nW (j+↑(pO ys)) else min (nW j) (pO ys))) w'++vJ ys (if j<0 then nW (j+↑(pO ys)) else min (nW j) (pO ys))).toList)
  simp only[(show(if j<0 then nW (j+↑(pO ys)) else min (nW j) (pO ys))=j.toNat from by refine aD (bu (jx.mpr h0)) (aD hs.size ?_);exact lu (uA.mpr hk)),dH,jF,pX,pX,mD,mD,oM,ux,aH];refine(hs.take _).append (.mk w' _ hw' ?_);rw[uc (by refine aD tB (aD cj ?_);exact aN _)];exact hs.drop _
 ·refine aD aA (aD cW (aD iC (aD tB ?_)))
  have:min j.toNat xs.length+(xs.length-j.toNat)=xs.length:=by refine aD (lu (uA.mpr hk)) ?_;exact Su (uA.mpr hk)
  rw[←gO];refine aD this ?_;exact hr
theorem Js {xs:List aM}(h:StrsAre us xs):∀{i:Nat}{u:aB},∀J:us[i]?=aa u,∃y t,u= .str y t∧xs[i]?=aa y:=by
 induction h with
 | nil=>intro i u e;exact iu e
 | cons y t r ih=>
  intro i u e;cases i with
  | zero=>exact⟨y,t,(aq e).symm,rfl⟩
  | succ i=>exact ih e
noncomputable def isStr (x:aM):aB->Bool
 | .str y _=>y==x
 | _=>aG
theorem ais (S:SR Γ ρ H s)(hu:W3 Γ ρ H s.heap i xs u)(je:gA Γ ρ s.heap vs us):jo Γ l lk A ρ s (Fe lk H i xs "index" vs) (call (.builtin "list.index") (u::us)) (v5 Γ):=by
 refine aD (show Fe lk H i xs "index" vs=opt (one vs) λv=>opt (strOf v) λx=>opt (ao7 xs) λxs=>opt (xs.findIdx? (·==x)) λk=>ok (.int k) H from(bu (by decide)).trans (bG rfl)) ?_;refine .opt λv hv=> .opt λx hx=> .opt λzs Ga=> .opt λj hf=> .ok λQ E P=> ?_;obtain rfl:=Y7 hv;obtain⟨w,rfl,hw⟩:=je.one;obtain⟨t⟩:=hw.strOf hx;obtain⟨b,ys,nn,hi,wz,hb,hs,hz⟩:=hu;have are:=aI0 hs Ga;rw[nY]at hf;refine lO hf λhk hkx hkn=> ?_;have hzl:zs.length=ys.size:=by refine nF cj ?_;exact(StrsAre.length are).symm
 have at_:∀(m:Nat)(hm:m<ys.size),isStr x ys[m]=(zs[m]'(hzl▸hm)==x):=λm hm=>by obtain⟨y,tt,e1,e2⟩:=Js are (i:=m) (by refine aD (cu) ?_;exact dG hm);refine aD e1 (aD (aq ((bD (hzl▸hm)).symm.trans e2)) ?_);rfl
 refine qF Bb ⟨_,hb,rfl⟩ PySem.F.entry_list_index (PySem.F.args_list_index_2 _ _)
  (MeetsSeq.list_index b ys nn (.str x t) (isStr x) (λy hy=> ?_) j (hzl▸hk) (kI (iJ.mpr hk) (cV (du.mpr (ak (bM (hzl.trans hs.size)) hz)) (by decide))) (aD (at_ j (hzl▸hk)) hkx) (λm hm wu=>by rw[at_ m hm];exact gR.mpr (hkn m wu))) ⟨hb,P.ok S ⟨_⟩⟩
 obtain⟨j,hj,rfl⟩:=Ep.mp hy;obtain⟨y,tt,e1,e2⟩:=Js are (i:=j) (by refine aD (cu) ?_;exact dG hj);refine aD e1 ?_;intro prog w A E s Q h;exact wpAny_eqBool_str (by rw[←Bool.beq_eq_decide_eq];exact h)
end
end
section
variable {Γ:Cx}{n m:Nat}{k:Kd}
structure as6 (Γ:Cx):Prop where
 len:∀(l:List fu)(lk:List Nat)(A:bQ)(H:Hp)(i:Nat)(c:aW)(d:j8)(xs:List V)(k:Int)(ρ:eO)(s:aV)(u:aB),∀J:jW A l 0,∀J:ad3 d xs=aa k,∀J:SR Γ ρ H s,∀J:Bl Γ ρ H s.heap i c d xs u,jo Γ l lk A ρ s (ok (.int k) H) (call (.builtin "len") [u]) (v5 Γ)
 str:∀(l:List fu)(lk:List Nat)(A:bQ)(H:Hp)(i:Nat)(c:aW)(d:j8)(xs:List V)(ps:List (aM×aM))(ρ:eO)(s:aV)(u:aB),∀J:jW A l 0,∀J:pairs xs=aa ps,∀J:room (v6 ps).length=az,∀J:SR Γ ρ H s,∀J:Bl Γ ρ H s.heap i c d xs u,jo Γ l lk A ρ s (ok (.str (v6 ps)) H) (call (.type "str") [u]) (v5 Γ)
theorem J9.are:∀{ns:List Int}{us:List aB},∀J:J9 ns us,IntsAre us ns:=by
 intro ns us zz;cases zz with
 | nil=>
  exact .nil
 | cons i t _ _ h=>
  exact .cons i t h.are
theorem J9.aym (h:IntsAre us ns):J9 ns us:=by
 induction h with
 | nil=>exact .nil
 | cons i t _ ih=>exact .cons i t _ _ ih
theorem Bt (h:J9 ns us.toList):∃xs,us=intItems xs∧ns=xs.toList.map (·.1):=by
 refine jA h.are.allInts.items λxs e=> ?_;have e':us=intItems xs:=by simpa using e
 exact⟨xs,e',by refine nF h.are.numsOf ?_;rw[←nums_intItems,←e']⟩
theorem sum_bound:∀{ns:List Int},∀J:(∀n∈ns,-B≤n∧n≤B),-(B*ns.length)≤ns.sum∧ns.sum≤B*ns.length:=by
 intro zz
 induction zz with
 | nil=>
  intro _;exact⟨by simp,by simp⟩
 | cons n ns ih=>
  intro h;obtain⟨h1,h2⟩:=h n (.head _);obtain⟨h3,h4⟩:=ih λm hm=>h m (.tail _ hm);simp only[jk,cW,ie,Int.mul_add];exact⟨cV (pg Int.neg_add) (cV (Int.add_le_add h3 (cV (pg (congrArg Neg.neg (Int.mul_one B))) h1)) (pg (yh _ _))),cV (pg (yh _ _)) (Int.add_le_add h4 (cV h2 (pg (Int.mul_one B).symm)))⟩
theorem aI1 {f:Int->Int->Int}{le:Int->Int->Prop}(aLu:∀a b,∀J:le a b,∀J:le b a,a=b)(hf:∀a b,(f a b=a∨f a b=b)∧le a (f a b)∧le b (f a b))(tr:∀a b c,∀J:le a b,∀J:le b c,le a c)(rf:∀a,le a a):∀{ns:List Int}{n m:Int},∀J:m∈n::ns,∀J:(∀a∈n::ns,le a m),ns.foldl f n=m:=by
 intro zz;cases zz with
 | nil=>
  intro n m hm _;exact(aP.mp hm).symm
 | cons k ns=>
  intro n m hm h;have up:∀{ns:List Int}{n:Int},le n (ns.foldl f n)∧(∀a∈ns,le a (ns.foldl f n))∧(ns.foldl f n∈n::ns):=λ{ns}=>by
   induction ns with
   | nil=>exact λ{n}=>⟨rf n,nofun,.head _⟩
   | cons k ns ih=>
    intro n;refine Be (ih (n:=f n k)) λi1 i2 i3=> ?_;refine Be (hf n k) λc l1 l2=> ?_;refine⟨tr _ _ _ l1 i1,λa ha=>(aY.mp ha).elim (λq=>aD q (tr _ _ _ l2 i1)) (i2 a), ?_⟩;rcases aY.mp i3 with q | q
    ·show Ay f (f n k) ns∈_
     rw[q];exact c.elim (λc=>by rw[c];exact .head _) λc=>by rw[c];exact .tail _ (.head _)
    ·exact .tail _ (.tail _ q)
  refine Be (up (ns:=k::ns) (n:=n)) λu1 u2 u3=> ?_;refine aLu _ _ (h _ u3) ?_;rcases aY.mp hm with rfl | hm
  ·exact u1
  ·exact u2 m hm
section
variable {prog:nq}{w:uK}{A:bQ}{E:PQ aB}{s:aV}{b:aW}{us:Array aB}{ns:List Int}{Q:PQ aB}
theorem aE8 (h:j<xs.size):numAt xs j∈xs.toList.map (·.1):=by simp only[numAt_eq];exact PySem.getD_mem (by simp only[aJ,cj];exact h)
theorem Jt {P:Int->Prop}(h:∀j,∀J:j<xs.size,P (numAt xs j)):∀a∈xs.toList.map (·.1),P a:=λa ha=>by obtain⟨j,hj,rfl⟩:=List.mem_iff_getElem.mp ha;have:=h j (by rwa [aJ,cj]at hj);rwa [numAt_eq,dO,bD hj]at this
theorem ait {n:Int}(hh:A.handled=aC)(hl:s.heap.IsList b us)(hi:J9 (n::ns) us.toList)(h:∀h' t tk,∀J:(∀b o,∀J:s.heap.get? b=aa o,h'.get? b=aa o),Q (.int (ns.foldl max n) t) {s with heap:=h',toks:=tk}):aO (gK prog w) A (call (.builtin "max") [.ref b]) Q E s:=by
 obtain⟨xs,rfl,xm⟩:=Bt hi;have wJ:0<xs.size:=by refine nF cj (nF (aJ (f:=(·.1))) (nF xm ?_));exact fB _
 refine max_intList hh hl wJ λv h' tk hv hk=> ?_;obtain⟨t,rfl⟩:=intItems_at hv;obtain⟨h1,h2⟩:=argBest_gt (numAt xs) (xs.size-1);exact(aI1 (λU U=>Ak) (λa b=>⟨(Int.le_total a b).elim (λh=> .inr (mH h)) λh=> .inl (aul h),Ae a b,Int.le_max_right a b⟩) (λU U U=>cV) Int.le_refl (xm▸aE8 (bz h1 (xj wJ Rj))) (xm▸Jt λj hj=>h2 j (Rk hj)))▸h h' t tk hk
theorem aiu {n:Int}(hh:A.handled=aC)(hl:s.heap.IsList b us)(hi:J9 (n::ns) us.toList)(h:∀h' t tk,∀J:(∀b o,∀J:s.heap.get? b=aa o,h'.get? b=aa o),Q (.int (ns.foldl min n) t) {s with heap:=h',toks:=tk}):aO (gK prog w) A (call (.builtin "min") [.ref b]) Q E s:=by
 obtain⟨xs,rfl,xm⟩:=Bt hi;have wJ:0<xs.size:=by refine nF cj (nF (aJ (f:=(·.1))) (nF xm ?_));exact fB _
 refine min_intList hh hl wJ λv h' tk hv hk=> ?_;obtain⟨t,rfl⟩:=intItems_at hv;obtain⟨h1,h2⟩:=argBest_lt (numAt xs) (xs.size-1);exact(aI1 (λU U h h'=>Ak h' h) (λa b=>⟨(Int.le_total a b).elim (λh=> .inl (qJ h)) λh=> .inr (aou h),aum a b,Int.min_le_right a b⟩) (λU U U h h'=>cV h' h) Int.le_refl (xm▸aE8 (bz h1 (xj wJ Rj))) (xm▸Jt λj hj=>h2 j (Rk hj)))▸h h' t tk hk
theorem aiv (hh:A.handled=aC)(hl:s.heap.IsList b us)(hi:J9 ns us.toList)(hn:ns.length≤1000)(hb:ns.all mid=az)
  (h:∀h' t tk,∀J:(∀b o,∀J:s.heap.get? b=aa o,h'.get? b=aa o),Q (.int ns.sum t) {s with heap:=h',toks:=tk}):aO (gK prog w) A (call (.builtin "sum") [.ref b]) Q E s:=by
 obtain⟨xs,rfl,xm⟩:=Bt hi;have hb:∀n∈ns,-1000000000000000≤n∧n≤1000000000000000:=λn hn=>(j5 (bF.mp hb n hn)).imp fH fH;refine sum_intList hh hl (λj hj=>⟨?_, ?_⟩) λh' tk t' hk=> ?_
 ·obtain⟨h1,h2⟩:=hb _ (xm▸aE8 hj)
  exact⟨cV (by decide) h1,ju h2 (by decide)⟩
 ·simp only[preSum_eq,←xm]
  obtain⟨h1,h2⟩:=sum_bound λn hn=>hb n (Lg hn);exact⟨cV (by decide) (cV (Int.neg_le_neg (jZ (du.mpr (ak (Li _ _) hn)) (by decide))) h1),ju (cV h2 (jZ (du.mpr (ak (Li _ _) hn)) (by decide))) (by decide)⟩
 ·have:=h h' t' tk hk
  simp only[preSum_eq,←xm,(show xs.size=ns.length from by simp only[xm,aJ,cj]),yD];exact this
theorem aK3 (hq:Q (.type "str") s):aO (gK prog w) A (call (.type "type") [.str x t]) Q E s:=by
 obtain⟨h,g,d,tk,os⟩:=s;refine mR (Ea ?_);refine au ⟨wD _ (by decide+kernel),Eb entry_type_call ?_⟩
 repeat (first | exact hq | wp_step)
end
theorem insI_perm (x:Int):∀l:List Int,(al2 x l).Perm (x::l):=by
 intro zz
 induction zz with
 | nil=>
  exact .refl _
 | cons y r ih=>
  simp only[Fb];by_cases h:x≤y
  ·rw[bG h]
  ·rw[bu h];exact((ih).cons y).trans (.swap x y r)
theorem sortI_perm:∀l:List Int,(ab3 l).Perm l:=by
 intro zz
 induction zz with
 | nil=>
  exact .refl _
 | cons x r ih=>
  exact(insI_perm x _).trans ((ih).cons x)
theorem aR3 (x:Int):∀{l:List Int},∀J:l.Pairwise (·≤·),(al2 x l).Pairwise (·≤·):=by
 intro zz
 induction zz with
 | nil=>
  intro _;exact Ed _ _
 | cons y r ih=>
  intro h;simp only[Fb];refine nu (λh1 h2=> ?_) (rz.mp h);by_cases hxy:x≤y
  ·rw[bG hxy]
   exact rz.mpr ⟨λa ha=>(aY.mp ha).elim (λq=>q▸hxy) λha=>cV hxy (h1 a ha),h⟩
  ·rw[bu hxy]
   exact rz.mpr ⟨λa ha=>(aY.mp ((insI_perm x r).mem_iff.mp ha)).elim (λq=>q▸yd (pR.mp hxy)) (h1 a),ih h2⟩
theorem aN2:∀l:List Int,(ab3 l).Pairwise (·≤·):=by
 intro zz
 induction zz with
 | nil=>
  exact .nil
 | cons x r ih=>
  exact aR3 x (ih)
section
variable {l:List fu}{lk:List Nat}{A:bQ}{ρ:eO}{H:Hp}{s:aV}{v:V}{u:aB}
theorem Pb (S:SR Γ ρ H s)(fa:s.heap.get? a=aC)(kp:∀b o,∀J:s.heap.get? b=aa o,h'.get? b=aa o)(ha:h'.get? a=aa (listOf us nn))(hu:J9 ns us.toList)(hz:ns.length≤16777216)(P:N6 Γ l lk ρ s (.ok (.ref H.length)) (H++ [.list (ns.map .int)]) (v5 Γ) Q E):Q (.ref a) {s with heap:=h',toks:=tk}:=
 P (ρ++ [[a]]) {s with heap:=h',toks:=tk} _ (Ext.rI kp (λb hb=>aP.mp hb▸fa)) (S.rI kp (λb hb=>aP.mp hb▸fa) (by simp) ⟨_,us,nn,ha,hu.vrs,by rw[aJ];exact hz⟩) ⟨_, [],ac2 S.len⟩
set_option tactic.hygienic true in
theorem aI2 (e:Sy v=aa c):v= .str ⟨#[c]⟩:=by
 refine g8 e λx h1 e=> ?_;refine aD (aG3 h1) ?_;obtain⟨cps⟩:=x
 congr
 have e:(match cps.toList with | [c]=>aa c | _=>aC)=aa c:=e
 split at e
 ·rename_i d h
  obtain rfl:=aq e;exact lW.mp h
 ·exact iu e
theorem aiw (G:as6 Γ)(a:jW A l 0)(S:SR Γ ρ H s)(hu:VR Γ ρ s.heap v u):jo Γ l lk A ρ s (a6m H v) (call (.builtin "len") [u]) (v5 Γ):=by
 cases v with
 | str x=>
  refine .fV λhr=> .ok λQ E P=> ?_;obtain⟨t⟩:=hu;exact Sv (by have:=I2 hr;lia) (P.ok S ⟨_⟩)
 | tup xs=>
  refine .fV λhr=> .ok λQ E P=> ?_;obtain⟨t,ts,nn,ht,hts⟩:=hu;exact len_tuple (af7 ht) (by have:=I2 hr;have:=hts.size;lia) (P.ok S (aD hts.size ⟨_⟩))
 | ref i=>
  refine .opt λo hi=> ?_;cases o with
  | list xs=>
   refine .ok λQ E P=> ?_;obtain⟨t,ts,nn,_,_,ht,hts,hz⟩:=VR.list hu S hi;exact call_len_list (J3 ht) (by have:=hts.size;lia) (P.ok S (aD hts.size ⟨_⟩))
  | acc c d xs=>exact .opt λk hk=>G.len l lk A H i c d xs k ρ s u a hk S (VR.acc hu S hi)
  | _=>exact .none
 | _=>exact .none
theorem ayn (G:as6 Γ)(b:String)(a:jW A l 0)(S:SR Γ ρ H s)(hu:VR Γ ρ s.heap v u):jo Γ l lk A ρ s (G4 H b v) (call (.builtin b) [u] []) (v5 Γ):=by
 delta G4;by_cases h1:b="len"
 ·subst h1;refine aD (bG rfl) ?_;exact aiw G a S hu
 refine aD (bu h1) ?_;by_cases h2:b="sum"
 ·cases h2;refine aD (bG rfl) ?_
  refine .opt λns e=> .fV λhc=> .ok λQ E P=> ?_;obtain⟨t,us,nn,rfl,ht,hi⟩:=an3 S hu e;exact aiv a.hand (J3 ht) hi (fH (d7 hc)) (j9 hc) λh' t tk kp=>P ρ {s with heap:=h',toks:=tk} _ (Ext.keeps kp) (S.keeps kp) ⟨t⟩
 refine aD (bu h2) ?_;by_cases h3:b="max"
 ·subst h3;refine aD (bG rfl) ?_
  refine .opt λns e=> .opt λp hp=> .ok λQ E P=> ?_;obtain⟨t,us,nn,rfl,ht,hi⟩:=an3 S hu e;cases ns with
  | nil=>exact p7 hp
  | cons n ns=>
   obtain rfl:=aq hp;exact ait a.hand (J3 ht) hi λh' t tk kp=>P ρ {s with heap:=h',toks:=tk} _ (Ext.keeps kp) (S.keeps kp) ⟨t⟩
 refine aD (bu h3) ?_;by_cases h4:b="min"
 ·subst h4;refine aD (bG rfl) ?_
  refine .opt λns e=> .opt λp hp=> .ok λQ E P=> ?_;obtain⟨t,us,nn,rfl,ht,hi⟩:=an3 S hu e;cases ns with
  | nil=>exact p7 hp
  | cons n ns=>
   obtain rfl:=aq hp;exact aiu a.hand (J3 ht) hi λh' t tk kp=>P ρ {s with heap:=h',toks:=tk} _ (Ext.keeps kp) (S.keeps kp) ⟨t⟩
 refine aD (bu h4) ?_;by_cases h5:b="sorted"
 ·subst h5;refine aD (bG rfl) ?_
  refine .opt λns e=> .fV λh64=> .ok λQ E P=> ?_;obtain⟨t,us,nn,rfl,ht,hi⟩:=an3 S hu e;refine sorted_ints (aD pP (J3 ht)) hi.are (aD hi.length (fH h64)) λout ns' g1 g2 g3=> ?_;obtain⟨e,he⟩:=sortedAll_at s.heap us.toList out;obtain rfl:ns'=ab3 ns:=(g2.trans (sortI_perm ns).symm).eq_of_pairwise (λU U U U=>Ak) g3 (aN2 ns);exact Pb S (fZ (dC _)) (λb o e=>sortedAll_old e) he (.aym g1) (by refine aD ((sortI_perm ns).length_eq) ?_;exact ak (bR (fH h64)) (by decide)) P
 refine aD (bu h5) ?_;by_cases h6:b="ord"
 ·subst h6;refine aD (bG rfl) ?_
  refine .opt λc e=> .ok λQ E P=> ?_;obtain rfl:=aI2 e;obtain⟨t⟩:=hu;exact PySem.P.ord_of_char (P.ok S ⟨_⟩)
 exact aD (bu h6) .none
theorem aix:∀i:Fin 10,oX (toString (i.1:Int))=toS [48+i.1]:=by decide
theorem aiy:∀i:Fin 10,aov ⟨#[48+i.1]⟩=aa (i.1:Int):=by decide+kernel
theorem aiz (G:as6 Γ)(a:jW A l 0)(S:SR Γ ρ H s)(hu:VR Γ ρ s.heap v u):jo Γ l lk A ρ s (a6n H v) (call (.type "str") [u] []) (v5 Γ):=by
 cases v with
 | str x=>
  refine .ok λQ E P=> ?_;obtain⟨t⟩:=hu;exact PySem.P.str_of_str (P.ok S ⟨t⟩)
 | int i=>
  refine .fV λhc=> .ok λQ E P=> ?_;obtain⟨t⟩:=hu;have e:=aix ⟨i.toNat,by lia⟩;rw[show((⟨i.toNat,by lia⟩:Fin 10).1:Int)=i from mQ (fH (d7 hc))]at e;exact PySem.P.str_of_int (bz (Nat.log2_le_self _) (iJ.mp (by rw[Int.natAbs_of_nonneg (fH (d7 hc))];exact Int.lt_trans (fH (j9 hc)) (by decide)))) (P.ok S (aD e ⟨_⟩))
 | exc c m=>
  refine .ok λQ E P=> ?_;obtain⟨e,o,vs',t,tk,n,⟨he,hc,hd,hcc,h0,ht⟩⟩:=hu;have hA:A.units+2<yC:=bz (bK (by decide) _) a.units;rcases hcc with rfl | rfl
  ·exact nP zH hA ⟨o,vs',he,hc,hd,h0⟩ ⟨_,n,ht,rfl,rfl⟩ (P.ok S ⟨_⟩)
  ·exact nP Ai hA ⟨o,vs',he,hc,hd,h0⟩ ⟨_,n,ht,rfl,rfl⟩ (P.ok S ⟨_⟩)
 | ref i=>
  refine .opt λp hp=> .opt λps e=> .opt λw hw=> ?_;obtain⟨rfl,hz⟩:=au7 hw;exact G.str l lk A H p.1 _ _ _ ps ρ s u a e (gJ hz) S (VR.sX hu S hp)
 | _=>exact .none
theorem aja (S:SR Γ ρ H s)(hu:VR Γ ρ s.heap v u):jo Γ l lk A ρ s (a6o H v) (call (.type "type") [u] []) (v5 Γ):=by
 cases v with
 | str x=>
  refine .ok λQ E P=> ?_;obtain⟨t⟩:=hu;exact aK3 (P.ok S rfl)
 | tup xs=>
  refine .ok λQ E P=> ?_;obtain⟨t,ts,nn,ht,hts⟩:=hu;exact kto_cont ⟨_,ht,rfl⟩ (by decide) (P.ok S rfl)
 | ref i=>
  refine .opt λp hp=> .ok λQ E P=> ?_;obtain⟨t,ts,nn,_,_,ht,hts,hz⟩:=VR.listAt hu S hp;exact kto_cont ⟨_,ht,rfl⟩ (by decide) (P.ok S rfl)
 | _=>exact .none
theorem ayo (G:as6 Γ)(b:String)(a:jW A l 0)(S:SR Γ ρ H s)(hu:VR Γ ρ s.heap v u):jo Γ l lk A ρ s (Lw H b v) (call (.type b) [u] []) (v5 Γ):=by
 delta Lw;by_cases h1:b="str"
 ·subst h1;refine aD (bG rfl) ?_;exact aiz G a S hu
 refine aD (bu h1) ?_;by_cases h2:b="int"
 ·subst h2;refine aD (bG rfl) ?_
  refine .opt λc e=> .fV λhc=> .ok λQ E P=> ?_;obtain rfl:=aI2 e;obtain⟨t⟩:=hu;have h0:=fH (d7 hc);have e:aov ⟨#[c]⟩=aa ((c:Int)-48):=by have:=aiy ⟨c-48,bz (Nat.sub_le_sub_right (fH (j9 hc)) 48) (by decide)⟩;simp only at this;rw[xZ h0,Int.ofNat_sub h0]at this;exact this
  exact KIN.call_text e (show 1≤640 by decide) (P.ok S ⟨_⟩)
 refine aD (bu h2) ?_;by_cases h3:b="type"
 ·subst h3;refine aD (bG rfl) ?_;exact aja S hu
 exact aD (bu h3) .none
end
end
section
variable {Γ:Cx}
structure Yd (Γ:Cx):Prop where
 sys:∃o,Γ.g0.get? sysModules=aa o
 re:∀a bad,∀J:Γ.G.re a=aa bad,∃code pc,av4 Γ.g0 a code∧RE.qj code pc bad∧RE.yO code pc
theorem av4.keeps {code:Array Nat}(x:av4 h a code)(kp:∀b o,∀J:h.get? b=aa o,h'.get? b=aa o):av4 h' a code:=by refine qm λY Z=> ?_;obtain⟨o,vs,t,cs,n,ot,ho,hc,hdi,hd,h2,h6,h5,hot,Eg,sZ⟩:=x;exact Z ⟨o,vs,t,cs,n,ot,kp _ _ ho,hc,hdi,hd,h2,h6,h5,kp _ _ hot,Eg,sZ⟩
section
variable {l:List fu}{lk:List Nat}{A:bQ}{ρ:eO}{H:Hp}{s:aV}{u:aB}{vs:List V}{us:List aB}{i:Nat}{ov:V}{x:aM}
theorem Ye (R:Yd Γ){bad:Nat->Bool}(hb:Γ.G.re a=aa bad)(S:SR Γ ρ H s)(je:gA Γ ρ s.heap vs us):jo Γ l lk A ρ s (opt (one vs) λv=>opt (strOf v) λs=>fV (room s.length) (ok (if s.cps.toList.any bad then V.mat else .none) H)) (call (.builtin "re.Pattern.search") (.ref a::us)) (v5 Γ):= .opt λv hv=> .opt λy hy=> .fV λhr=> .ok λQ E P=>by
 obtain rfl:=Y7 hv;obtain⟨w,rfl,hw⟩:=je.one;obtain⟨t⟩:=hw.strOf hy;obtain⟨code,pc,h1,h2,h3⟩:=R.re _ _ hb;refine aT2 (h1.keeps S.base) h2 h3 (I2 hr) (λhy m h' o kp hm hc ⟨fs,hd⟩=> ?_) λhn=> ?_
 ·rw[bG hy]at P
  exact P ρ {s with heap:=h'} _ (Ext.keeps kp) (S.keeps kp) ⟨m,o,hm,hc,ar4 hc (by decide) (by refine aD hd ?_;rfl)⟩
 ·rw[bu (by refine aD hn ?_;decide)]at P
  exact P.ok S rfl
theorem av9 (R:Yd Γ)(hi:H[i]?=aa .vN)(S:SR Γ ρ H s)(hu:afp ρ i u):jo Γ l lk A ρ s (ok (.Ru i) H) (call (.builtin "dict.items") [u]) (v5 Γ):= .ok λQ E P=>by
 obtain⟨d,r,hr⟩:=hu;obtain⟨r',wz,⟨d',nn,hd⟩⟩:=S.at_ hi;obtain rfl:=ai8 hr wz;have hD:s.heap.DictAt (strKind Γ.prog Γ.w) d [] nn:=⟨_, #[],hd,⟨rfl,rfl,rfl⟩,rfl,λe he=>by simp at he,.nil,by decide⟩;have hg:=S.apart d (cG.mpr ⟨_,aR wz,.head _⟩);have hS:(d==sysModules)=aG:=beq_eq_false_iff_ne.mpr λe=>by obtain⟨o,ho⟩:=R.sys;simp only[e,ho]at hg;exact Sw hg
 refine call_meetsIn Bc hD.dictOf.typeIs PySem.F.entry_dict_items (PySem.F.args_dict_items_1 _) (meets_dict_items (strKind Γ.prog Γ.w) d hS) ⟨⟨_,hD.dictOf⟩, ?_⟩;have kp:=K7 s.heap {cls:= .type "dict_items",data:= .fields #[.ref d]};exact P ρ {s with heap:=s.heap.push {cls:= .type "dict_items",data:= .fields #[.ref d]}} _ (Ext.keeps kp) (S.keeps kp) ⟨_,d,wz,bj _ rfl⟩
theorem aR4 (K:M6 Γ)(hu:Bl Γ ρ H s.heap j c d xs u)(S:SR Γ ρ H s)(hw:VR Γ ρ s.heap v w):jo Γ l lk A ρ s (fV (room (xs.length+1)) (put lk H j (.acc c d (xs++ [v])) V.none)) (call (.builtin "list.append") [u,w]) (v5 Γ):= .fV λhr=> .put λvg Q E P=>by obtain⟨b,dx,es,nn,ys,kk,hi,wz,hA,hd,pJ,hs,hz,rfl,uE⟩:=hu;refine aj8 K S.rJ ⟨_,hA,rfl⟩ aQ2 (by decide+kernel:xK "list.append"=aa ("list","append")) (by decide+kernel) PySem.F.entry_list_append (PySem.F.args_list_append_2 _ _) ?_;show aO _ _ (updateSeq b (·.push w)>>=λU=>ret .none) _ _ _;refine aj (vI hA rfl ?_ (by refine aD hs.size (aD jf ?_);exact hz) (by rw[aey,hs.size];exact gq (aE7 hr)));exact au ⟨_,rfl,ap2 (Q:=λU=>Q .none) S hi wz hA hd pJ uE vg (·.push w) (by refine aD jF ?_;exact hs.append (.mk w [] hw rfl)) (aD aA (I2 hr)) s.toks λx S'=>P ρ _ .none x S' rfl⟩
theorem az6 (hu:W3 Γ ρ H s.heap i xs u){id:String}(slot:Slot "list" x id)(hty:vz (.builtin id)=pure (.type "method_descriptor")):Found Γ s u x (.builtin id):=λA pl Q E h=>by obtain⟨a,us,nn,_,_,ha,_⟩:=hu;exact Al ⟨_,ha,rfl⟩ PySem.F.plainAttrs_list slot hty (λb e=>by cases e;exact⟨_,ha,rfl⟩) h
theorem aq0 {id:String}(slot:Slot "str" x id)(hty:vz (.builtin id)=pure (.type "method_descriptor"))(h:Q (.builtin id, [.str y t]) s):aO Γ.M A (rZ (.str y t) x pl) Q E s:=by with_reducible exact GM.of (.str y t) (Hx _ _ _) slot hty GM.noRef h
theorem an4 {id:String}(slot:Slot "str" x id)(hty:vz (.builtin id)=pure (.type "method_descriptor")):Found Γ s (.str y t) x (.builtin id):=λA pl Q E h=>by with_reducible exact aq0 slot hty h
theorem ayp (h:V7.contains x=az):x="lower" ∨x="isspace" ∨x="join" ∨x="split" ∨x="count":=by simpa [V7] using h
theorem ayq (h:aa1.contains x=az):x="append" ∨x="index" ∨x="insert":=by simpa [aa1] using h
abbrev arn (Γ:Cx)(tg:Ry)(ov:V)(x:aM)(u:aB)(id:String):Prop:=∀(r:Rec)(n:Nat)(l:List fu)(A:bQ)(lk:List Nat)(vs:List V)(H:Hp)(ρ:eO)(s:aV)(us:List aB),∀J:jW A l n,∀J:SR Γ ρ H s,∀J:VR Γ ρ s.heap ov u,∀J:gA Γ ρ s.heap vs us,n8 Γ l lk ρ s (U8 r lk tg ov x vs [] [] H) (λQ E=>aO Γ.M A (call (.builtin id) (u::us)) Q E s) (v5 Γ)
theorem ayr (h:V7.contains x=az):∃id,Found Γ s (.str y t) x (.builtin id)∧arn Γ (.str y) (.str y) x (.str y t) id:=by
 rcases ayp h with rfl | rfl | rfl | rfl | rfl
 ·exact⟨"str.lower",by with_reducible exact an4 PySem.F.slot_str_lower PySem.F.type_str_lower,λr n l A lk vs H ρ s us a S hv je=>m_lower S je⟩
 ·exact⟨"str.isspace",by with_reducible exact an4 PySem.F.slot_str_isspace PySem.F.type_str_isspace,λr n l A lk vs H ρ s us a S hv je=>m_isspace S je⟩
 ·exact⟨"str.join",by with_reducible exact an4 tQ tR,λr n l A lk vs H ρ s us a S hv je=>ayl S je⟩
 ·exact⟨"str.split",by with_reducible exact an4 nQ PySem.F.type_str_split,λr n l A lk vs H ρ s us a S hv je=>m_split S je⟩
 ·exact⟨"str.count",by with_reducible exact an4 PySem.F.slot_str_count PySem.F.type_str_count,λr n l A lk vs H ρ s us a S hv je=>air S je⟩
theorem ays (h:aa1.contains x=az)(hu:W3 Γ ρ H s.heap j xs u):∃id,Found Γ s u x (.builtin id)∧arn Γ (.lst i) ov x u id:=by
 rcases ayq h with rfl | rfl | rfl
 ·exact⟨"list.append",by with_reducible exact az6 hu PySem.F.slot_list_append Am,λr n l A lk vs H ρ s us a S hv je=> .opt λp e=>Yb S (hv.listAt S e) je⟩
 ·exact⟨"list.index",by with_reducible exact az6 hu Bb PySem.F.type_list_index,λr n l A lk vs H ρ s us a S hv je=> .opt λp e=>ais S (hv.listAt S e) je⟩
 ·exact⟨"list.insert",by with_reducible exact az6 hu Aj PySem.F.type_list_insert,λr n l A lk vs H ρ s us a S hv je=> .opt λp e=>Yc S (hv.listAt S e) je⟩
theorem bm (K:M6 Γ)(R:Yd Γ):BM Γ where
 find:=λov x tg H ρ s u S hl ht hv=>by
  cases ov with
  | str y=>
   refine I5 hl λhx hl=> ?_;obtain rfl:=aq hl;obtain⟨t⟩:=hv;exact ayr hx
  | gl v=>
   cases v with
   | ref a=>
    refine I5 hl λhx hl=> ?_;refine g8 hl λbad hb hl=> ?_;obtain rfl:=aq hl;obtain rfl:=fH hx;obtain rfl:u= .ref a:=hv;refine qm λY Z=> ?_;obtain⟨code,pc,h1,_,_⟩:=R.re _ _ hb;obtain⟨o,_,_,_,_,_,ho,hc,hd,_⟩:=h1.keeps S.base;exact Z ⟨_,λA pl Q E h=>Al ⟨o,ho,hc⟩ aK1 ay4 aQ9 (λb e=>by cases e;exact⟨o,ho,hd⟩) h,λr n l A lk vs H ρ s us a S hv je=>Ye R hb S je⟩
   | _=>exact p7 hl
  | ref i=>
   refine g8 hl λo hi hl=> ?_;cases o with
   | vN=>
    refine I5 hl λhx hl=> ?_;obtain rfl:=aq hl;obtain rfl:=fH hx;obtain⟨r',wz,⟨d',nn,hd⟩⟩:=S.at_ hi;obtain⟨d,r,hr⟩:=hv;obtain rfl:=ai8 hr wz;refine⟨_,λA pl Q E h=>Al ⟨_,hd,rfl⟩ PySem.F.plainAttrs_dict Bc PySem.F.type_dict_items (λb e=>by cases e;exact⟨_,hd,rfl⟩) h,λr n l A lk vs H ρ s us a S hv je=> .fV λhz=> .opt λo hi=> ?_⟩;obtain rfl:=bY.mp (d7 hz);obtain rfl:=je.nil;cases o with
    | vN=>exact av9 R hi S hv
    | _=>exact .none
   | inst c d=>
    exact lO (cQ.mp hl) λf _ e=>(absurd e.symm (ht f))
   | acc c d xs=>
    have hl:(match d.lookup x with
     | some _=>aC
     | none=>match Γ.G.bN c x with
      | some f=>aa (Ry.fn f)
      | none=>fV (decide (x=("append":aM))) (aa (.acc i)))=aa tg:=hl
    cases hd:d.lookup x with
    | some v=>rw[hd]at hl;exact p7 hl
    | none=>
     rw[hd]at hl;cases hm:Γ.G.bN c x with
     | some f=>simp only[hm]at hl;exact absurd (aq hl).symm (ht f)
     | none=>
      simp only[hm]at hl;refine I5 hl λhx hl=> ?_;obtain rfl:=aq hl;obtain rfl:=fH hx;obtain⟨b,dx,es,nn,ys,kk,hi,wz,hA,hD,pJ,hs,hz,hc,uE⟩:=VR.acc hv S hi;exact⟨_,λA pl Q E h=>Ux K S.rJ (od:=aa (iU es nn)) ⟨hA,rfl,rfl,hD⟩ K.app Am (by show(lookIn _ (iU es nn)).map _=_;simp only[Cr,(pJ.look _).2 hd];rfl) h,λr n l A lk vs H ρ s us a S hv je=> .opt λv h1=> .opt λp e=>by
       obtain rfl:=Y7 h1;obtain⟨w,rfl,hw⟩:=je.one;exact aR4 K (hv.sX S e) S hw⟩
   | list xs=>
    refine I5 hl λhx hl=> ?_;obtain rfl:=aq hl;exact ays hx (VR.list hv S hi)
  | _=>exact p7 hl
end
end
section
variable {Γ:Cx}
structure Ju (sc:jB):Prop where
 co:sc.isCoroutine=aG
 kind:sc.kind= .function
 zO:∀env,Hv sc env=pure []
 cell:∀y∈sc.names,y.2≠ .cell
 z:sc.names.lookup (".0":aM)=aa NameKind.local
 f:sc.names.lookup ("fws":aM)=aa NameKind.local
 p:sc.names.lookup ("part":aM)=aa NameKind.local
structure ak2 (Γ:Cx)(c P:aW):Prop where
 tab:P∈Γ.tabs
 gP:Γ.g0.get? P=aC
 hd:CodeHd Γ.g0 c P
 at_:∀h,∀J:Γ.tabsOk h,∃ps,h.get? P=aa (nO ps)∧nA ps.toList
 put:∀h h',∀J:Γ.tabsOk h,∀J:(∀b o,∀J:b≠P,∀J:h.get? b=aa o,h'.get? b=aa o),∀J:U0 P h h',Γ.tabsOk h'
 bare:∀g,Γ.Bh g↔adu g
 qW:Γ.g0.NoLimit
 main:∃mg bm ob,Γ.g0.Ns bW mg∧mg "__builtins__"=aa (.ref bm)∧bm≠dD∧bm≠bW∧Γ.g0.get? bm=aa ob∧ob.cls= .type "module" ∧ob.dict=aa dD∧ob.data= .plain
theorem Yg (hc:env.code= .ref c)(C:CodeHd s.heap c P)(hP:s.heap.get? P=aa (nO ps))(ht:nA ps.toList)
  (hQ:∀code h' tk more,∀J:uY P s.heap h',∀J:h'.get? P=aa (nO (ps++more)),∀J:nA (ps++more).toList,Q code {s with heap:=h',toks:=tk}):aO M A (genexprCode env pos qualname scope) Q E s:=by
 cases hf:Ca pos ps.toList with
 | none=>
  exact wpAny_genexprCodeX hc (C.code hP ht) (C.tab hP) hf λc' h' tk hx U U U U htb U=>hQ _ _ _ _ hx htb.2 (aD dH (TriplesOk_snoc _ _ _ _ ht))
 | some cv=>
  refine qm λY Z=> ?_;obtain⟨o,vs,file,tf,flags,tg,inF,text,tt,e1,_,e3,_,f3,_⟩:=C;refine Z ?_;unfold genexprCode codeAt;exact aD hc (oh (bu bU) (aj (Ht e1 e3 (aD f3 (aj (Ht hP rfl (aD hf (au (hQ cv s.heap s.toks #[] (Heap.ExtBut.refl _ _) (aD iB hP) (aD iB ht))))))))))
noncomputable def addrOf (ys:Array aB)(j:Nat):aW:=match ys[j]? with
 | some (.ref b)=>b
 | _=>0
noncomputable def aw0 (h:bL)(a:aW):Array aB:=match h.get? a with
 | some ⟨_,_,.seq vs _,_⟩=>vs
 | _=> #[]
inductive Yh (h:bL)(ps:List (aM×aM))(j:Nat):aB->Prop
 | mk (T:aW) (x1 x2:aM) (t1 t2:Tok) (n:Nat) (hp:ps[j]?=aa (x1,x2)) (hT:h.get? T=aa {cls:= .type "tuple",data:= .seq #[.str x1 t1,.str x2 t2] n}):Yh h ps j (.ref T)
theorem pairs_at:∀{xs:List V}{us:List aB}{ps:List (aM×aM)},∀J:gA Γ ρ h xs us,∀J:pairs xs=aa ps,∀{j:Nat}{u:aB},∀J:us[j]?=aa u,Yh h ps j u:=by
 intro zz
 induction zz with
 | nil=>
  intro _ _ hv _ _ _ e;obtain rfl:=hv.nil;exact iu e
 | cons x xs ih=>
  rintro _ ps ⟨u,us,hu,hs⟩ hp j u' e;refine g8 hp λp h1 hp=> ?_;refine g8 hp λvo h2 hp=> ?_;obtain rfl:=aq hp;cases j with
  | zero=>
   obtain rfl:=aq e;refine g8 h1 λl e1 h1=> ?_
   match l,e1,h1 with
   | [a,b],e1,h1=>
    refine g8 h1 λx1 q1 h1=> ?_;refine g8 h1 λx2 q2 h1=> ?_;obtain rfl:=aq h1;obtain⟨T,vs,n,hT,je⟩:=hu.uf e1;obtain⟨u1,u2,e,g1,g2⟩:=je.two;obtain⟨t1⟩:=g1.strOf q1;obtain⟨t2⟩:=g2.strOf q2;obtain rfl:vs= #[.str x1 t1,.str x2 t2]:=lW.mp e;exact⟨T,x1,x2,t1,t2,n,rfl,hT⟩
  | succ j=>
   obtain⟨T,x1,x2,t1,t2,n,a,c⟩:=ih hs h2 e;exact⟨T,x1,x2,t1,t2,n,a,c⟩
theorem pairs_len:∀{xs:List V}{ps:List (aM×aM)},∀J:pairs xs=aa ps,ps.length=xs.length:=by
 intro zz
 induction zz with
 | nil=>
  intro _ e;obtain rfl:=aq e;rfl
 | cons x xs ih=>
  intro ps hp;refine g8 hp λp h1 hp=> ?_;refine g8 hp λvo h2 hp=> ?_;obtain rfl:=aq hp;exact congrArg tH (ih h2)
theorem ay5 (n:Nat):passing (λU=>az) n 0=cD n:=by simp [passing]
section
variable {k:Kd}{env:fu}{l:List fu}{A:bQ}{ρ:eO}{H:Hp}{s:aV}{E:PQ aB}{loc cR:j8}{c P a dx:aW}{sc:jB}{xs:List V}{ps:List (aM×aM)}{ys:Array aB}{nn:Nat}{elt:aF}{Fy:aM->aM->aB->Prop}
structure ayu (Γ:Cx)(A:bQ)(P c:aW)(ps:List (aM×aM))(Fy:aM->aM->aB->Prop)(s:aV)(ga:aW)(kj:aV)(fp wr:List aW)(g:Nat)(St:PQ Nat):Prop where
 kp:∀b o,∀J:b≠P,∀J:s.heap.get? b=aa o,kj.heap.get? b=aa o
 code:U0 P s.heap kj.heap
 bare:adu kj.gens
 os:kj.os=s.os
 drawn:kj.drawn=s.drawn
 W:WalksS Γ.prog Γ.w A.in4 ga fp wr (GenOnlyQ g) ps.length (λj y=>∃p,ps[j]?=aa p∧Fy p.1 p.2 y) St
 st:St 0 kj
 low:∀b∈fp,b<kj.heap.objs.size
 new:∀b∈wr,s.heap.get? b=aC
 ty:∀i s',St i s'->s'.TypeIs (.ref ga) "generator"
 gaf:ga∈fp
theorem Jv (KA:M6 Γ)(T:ak2 Γ c P)(C:Ju sc)(O:v9 Γ k env)(hse:k ("self":aM)=aa .local)(sZ:env.code= .ref c)(hh:A.handled=aC)(yJ:A.depth<mO)(S:SR Γ ρ H s){m:aM->Option aB}(hn:s.heap.Ns env.locals m)(hm:m ("self":aM)=aa (.ref a))
  (hA:s.heap.get? a=aa {cls:= .ref Γ.G.fW,dict:=aa dx,data:= .seq ys nn}) (ha:a∈ρ.flatten) (RJ:gA Γ ρ s.heap xs ys.toList) (My:pairs xs=aa ps)
  (aLx:∀(C':aW)(code:aB)(A':bQ)(E':PQ aB)(x1 x2:aM)(t1 t2:Tok)(bO:aV) m₂,∀J:A'.handled=aC,∀J:(x1,x2)∈ps,∀J:Γ.K.In bO.heap,∀J:bO.heap.Ns C' m₂,∀J:m₂ "fws"=aa (.str x1 t1),∀J:m₂ "part"=aa (.str x2 t2),aO Γ.M A' (eval elt (genEnv sc [] C' code dD env)) (λy jX=>Fy x1 x2 y∧Keeps bO jX) E' bO)
  (hQ:∀ga kj fp wr g St,∀J:ayu Γ A P c ps Fy s ga kj fp wr g St,Q (.ref ga) kj):
  aO Γ.M A (eval (.GeneratorExp elt [⟨.Tuple [.Name ("fws":aM) p1,.Name ("part":aM) p2] kt p3,.Name ("self":aM) p4, [],0⟩] sc pos) env) Q E s:=by
 refine lO (T.at_ _ S.tabs) λtb hP htb=> ?_;refine qm λY Z=> ?_;obtain⟨mg,bm,ob,hmg,hbm,oA,hng,hob,h1,h2,h3⟩:=T.main;refine Z ?_;refine lO (Γ.nJ _ S.tabs P T.tab) λoP hoP hcP=> ?_;have haP:a≠P:=λe=>S.lR a ha (e▸T.tab);refine wpAny_GeneratorExp_walksQT hh C.co (C.zO env) C.cell C.z C.f C.p (by decide) C.kind yJ ?_ (λU=>rfl);refine dN (eG O.kind (O.loc _ hse) hn hm ?_) (G9 (by decide));refine Xg KA S.rJ ⟨_,hA,rfl⟩ ⟨(T.qW.keeps S.base).keeps λb o e=>aK _ e, ?_⟩;refine Yg sZ (T.hd.keeps λb o e=>aK _ (S.base b o e)) (aK _ hP) htb λcode rB aUv more hx hc' ht'=> ?_;have wL:∀b o,∀J:b≠P,∀J:s.heap.get? b=aa o,rB.get? b=aa o:=λb o hb e=>hx b o hb (aK _ e);have yr:∀b o,∀J:Γ.g0.get? b=aa o,rB.get? b=aa o:=λb o e=>wL b o (R6 e T.gP) (S.base b o e);refine aD O.glob ?_;refine wpAny_builtinsFor (hmg.keeps yr) hbm oA (yr _ _ hob) h1 h2 h3 ?_;have nI:s.heap.get? s.heap.objs.size=aC:=J0 _;have Yi:=cA (hx _ _ ((R6 hoP nI).symm) (bj _ rfl));have hat:∀j,∀J:j<ys.size,∃x1 x2 t1 t2 n,ys[j]?=aa (.ref (addrOf ys j))∧ps[j]?=aa (x1,x2)∧s.heap.get? (addrOf ys j)=aa {cls:= .type "tuple",data:= .seq #[.str x1 t1,.str x2 t2] n}∧aw0 s.heap (addrOf ys j)= #[.str x1 t1,.str x2 t2]:=λj hj=>by
  obtain⟨u,hu⟩:∃u,ys[j]?=aa u:=⟨_,dG hj⟩;obtain⟨T',x1,x2,t1,t2,n,e2,e3⟩:=pairs_at RJ My (by rw[cu];exact hu);have e4:addrOf ys j=T':=by delta addrOf;exact aD hu rfl
  exact⟨x1,x2,t1,t2,n,by refine aD e4 ?_;exact hu,e2,by refine aD e4 ?_;exact e3,by delta aw0;exact aD e4 (aD e3 rfl)⟩
 have Yj:∀j,∀J:j<ys.size,rB.IsTuple (addrOf ys j) (aw0 s.heap (addrOf ys j)):=λj hj=>by obtain⟨x1,x2,t1,t2,n,e1,e2,e3,e4⟩:=hat j hj;refine aD e4 ?_;refine⟨_,wL _ _ (λz=> ?_) e3,rfl,n,rfl⟩;simp only[z,hoP]at e3;cases e3;cases hcP
 refine⟨s.heap.objs.size,s.heap.objs.size::a::(cD ys.size).map (addrOf ys), [s.heap.objs.size],ys.size,_,_,_,λU=>az,(λi y=>∃p,ps[i]?=aa p∧Fy p.1 p.2 y),rfl,λA' hA'=>Xf hA' _ a (R6 hA nI) ys (addrOf ys) (λj=>aw0 s.heap (addrOf ys j)) (λj hj=>(hat j hj).elim (by rintro _ ⟨_,_,_,_,e,_⟩;exact e)) (λj hj=>(hat j hj).elim (by rintro _ ⟨_,_,_,_,_,_,e3,_⟩;exact R6 e3 nI)),λi vals hv=> ?_,⟨⟨_,(hx _ _ ((R6 hoP nI).symm) (bj _ rfl)),rfl,rfl⟩,⟨_,wL _ _ haP hA,nn,rfl⟩,Yj⟩,λb hb=> ?_,T.qW.keeps yr,λaxs=> ?_,λbaj a9g=>⟨λA' E' i va vb bO m₂ hA' hP hN hma hmb hkp=>au ⟨rfl,bO.heap,bO.toks,rfl,λU U e=>e⟩,λA' E' i va vb bO m₂ hA' hP U hN hma hmb hkp=> ?_⟩,λga vm tk gs hgb hag ayv yP W aLy=> ?_⟩
 ·obtain⟨hi,rfl⟩:=hv
  obtain⟨x1,x2,t1,t2,n,_,_,_,e4⟩:=hat i hi;exact⟨_,_,e4⟩
 ·rcases aY.mp hb with rfl | hb
  ·exact Yi
  ·rcases aY.mp hb with rfl | hb
   ·exact cA (wL _ _ haP hA)
   ·obtain⟨j,hj,rfl⟩:=dq.mp hb
    exact lO (Yj j (dK.mp hj)) λ_ e _=>(cA e)
 ·obtain⟨mc,⟨o,_,_,ho,_⟩,_⟩:=T.qW.keeps S.base
  exact R6 ho nI (aP.mp axs)
 ·obtain⟨hi,hv⟩:=hP
  refine qm λY Z=> ?_;obtain⟨x1,x2,t1,t2,n,_,e2,_,e4⟩:=hat i hi;refine Z ?_;simp only[e4]at hv;refine qm λY Z=> ?_;obtain⟨rfl,rfl⟩:va= .str x1 t1∧vb= .str x2 t2:=by simpa using hv
  refine Z ?_;refine bJ (aLx _ code A' E' x1 x2 t1 t2 bO m₂ hA' (aR e2) (λb o e=> ?_) hN hma hmb) (by rintro y jX ⟨z1,z2⟩;exact⟨⟨_,e2,z1⟩,z2⟩) λU U z=>z;have eb:=yr b o (Γ.inK b o e);exact hkp b (dK.mpr (cA eb)) (λhm=>R6 (S.base b o (Γ.inK b o e)) nI (aP.mp hm)) o (a9g b o eb)
 ·simp only[show(passing (λU=>az) ys.size 0).length=ps.length by simp only[ay5,oN,(RJ.size.trans (pairs_len My).symm)]]at W
  refine hQ ga _ _ _ _ _ ⟨λb o hb e=>yP b o (wL b o hb e),⟨tb,more,hP,yP _ _ hc',ht'⟩,((T.bare _).mp S.gens).push hgb,rfl,rfl,W.imp λj y ⟨i,hi,p,e1,e2⟩=> ?_,aLy,λb hb=> ?_,λb hb=> ?_,λi s' st=>st.1.typeIs,.head _⟩
  ·rw[ay5]at hi
   have hj:=(aL.mp hi).1;rw[oN]at hj;rw[Rn hj]at hi;exact⟨p,aq hi▸e1,e2⟩
  ·show b<vm.objs.size
   rw[ayv];rcases aY.mp hb with rfl | hb
   ·exact fP _
   ·rcases aY.mp hb with rfl | hb
    ·exact gV hag
    ·exact gV (dw (dK.mp hb) hag)
  ·rcases aY.mp hb with rfl | hb
   ·exact fZ (bR Yi)
   ·refine aD (aP.mp hb) ?_;exact nI
structure aB8 (Γ:Cx)(g c:aW)(body:List pM)(kd:Kd):Prop where
 fn:∃f o fd dU,FnAt Γ g f o fd body dU∧f.params= [("self":aM)]∧f.eY= []∧f.kwarg=aC∧f.cells= []∧(1, [])∈f.shapes∧fd.code= .ref c∧kdOf fd.scope=kd
structure Rm (A:bQ):Prop where
 hand:A.handled=aC
 depth:A.depth+4<mO
theorem jW.rm (a:jW A l 0)(h:A'.handled=A.handled)(d:A'.depth≤A.depth+4):Rm A':=⟨h.trans a.hand,bz (ak (bB d 4) (show A.depth+8≤A.depth+20 from bK (by decide) _)) a.depth⟩
theorem aN3 (T:ak2 Γ c P){FS:List aW}{lk:List Nat}(S:SR Γ ρ H s)(kp:∀b o,∀J:b≠P,∀J:s.heap.get? b=aa o,s'.heap.get? b=aa o)(hc:U0 P s.heap s'.heap)(hg:adu s'.gens)(h1:s'.os=s.os)(h2:s'.drawn=s.drawn):SR Γ ρ H s'∧Ext Γ FS (Wr Γ lk ρ) ρ s ρ s':=
 aN0 S T.tab T.gP kp hc.there (T.put _ _ S.tabs kp hc) ((T.bare _).mpr hg) h1 h2
theorem ayu.fin {St:PQ Nat}{lk:List Nat}(G:ayu Γ A P c ps Fy s ga kj fp wr g St)(T:ak2 Γ c P)(S:SR Γ ρ H s)(hm:Moved wr (GenOnlyQ g) {kj with toks:=tk} s'){FS:List aW}:SR Γ ρ H s'∧Ext Γ FS (Wr Γ lk ρ) ρ s ρ s':=
 aN3 T S (λbb oo oA e=>hm.heap bb oo (λz=>iu ((G.new bb z).symm.trans e)) (G.kp bb oo oA e)) (G.code.casesOn λps more q q' r=> .mk ps more q (hm.heap _ _ (λy=>iu ((G.new _ y).symm.trans q)) q') r) (hm.gens.bare G.bare) (hm.os.trans G.os) (hm.drawn.trans G.drawn)
variable {lk:List Nat}{u:aB}{i:Nat}{g:aW}{body:List pM}{kd:Kd}{R:PQ za}
set_option backward.match.sparseCases true in
theorem aI3 (D:aB8 Γ g c body kd)(qW:Γ.g0.NoLimit)(a:Rm A)(S:SR Γ ρ H s)(hu:VR Γ ρ s.heap (.ref i) u)
  (h:∀env bO,∀J:v9 Γ kd env,∀J:env.code= .ref c,∀J:SR Γ ρ H bO,∀J:FR Γ [env] ρ bO.heap env [(("self":aM),.ref i)] [],∀J:(∀W:aW->Prop,Ext Γ (m7 l) W ρ s ρ bO),aO Γ.M (A.deeper env) (execs body env) (λf s'=>R (.ok (.ret (match f with | .ret v=>v | _=> .none))) s') (λU U=>False) bO):gD Γ.M A (.call (.ref g) ⟨[u], []⟩) R s:=by
 refine qm λY Z=> ?_;obtain⟨f,o,fd,dU,F,h1,h2,h3,h4,h5,h6,rfl⟩:=D.fn;refine Z ?_;refine vZ (bz (aQ _ 4) a.depth) (S.base _ _ F.obj) F.data F.co F.gen F.stmts (F.code.keeps S.base) ?_;refine F.bind 1 [] h5 [u] [] rfl rfl [] (by refine aD h1 (aD h2 ?_);rfl) _ _ _ _ _ S.base ?_;delta an1;refine aD h3 (aD h1 ?_);refine ap5 (l:= []) F.toFrmOk S (λe he=>Cv he) (show BR Γ ρ s.heap [(("self":aM),.ref i)] [(("self":aM),u)] from .mk u [] hu rfl) (by simp only[Fn.names,h1,h2,h3];rfl) (λq=>absurd q F.noe) λenv bO D=>⟨qW.keeps D.S.base, ?_⟩;refine codeAny_func (bJ (h env bO D.O (D.T.code.trans h6) D.S ?_ λW=> ?_) (λU U z=>z) λU U z=>z.elim)
 ·have yL:=D.F
  rw[h4]at yL;exact yL
 ·have x:=D.x W
  exact⟨x.grow,⟨x.vf.vH,λb o e w U=>x.vf.keep b o e w nofun,λb o e w U=>⟨o.slots,x.vf.keep b o e w nofun⟩⟩,x.live,x.os,x.drawn⟩
end
end
section
variable {Γ:Cx}
section
variable {A:bQ}{s:aV}
theorem Jw (h1:env.scope.kind= .function)(h2:env.kindOf x=aa .globalImplicit)(h3:env.globals=bW)(h4:env.builtins=dD)(gr:Ci Γ x v)(X:Γ.K.In s.heap)(h:Q v s):aO M A (aoi env x) Q E s:=by
 rw[QX h1 h2];delta loadGlobal;refine aD h3 (aD h4 ?_);rcases gr with z | ⟨z1,z2⟩
 ·exact aj ((oZ X z).here (au h))
 ·exact aj ((oZ X z1).here (aj ((oZ X z2).here (au h))))
theorem as7 {env:fu}{m:aM->Option aB}(h1:env.scope.kind= .function)(h2:env.kindOf "len"=aa .globalImplicit)(h3:env.globals=bW)(h4:env.builtins=dD)(gr:Ci Γ "len" (.builtin "len"))(X:Γ.K.In s.heap)
  (hx:env.kindOf x=aa .local) (hN:s.heap.Ns env.locals m) (hm:m x=aa (.str y t)) (hd:x≠("__debug__":aM)) (hs:y.length≤16777216) (h:∀tk k',Q (.int y.length tk) {s with toks:=k'}) (p0 p1 p2:qg):aO Γ.M A (eval (.Call (.Name ("len":aM) p0) [.Name x p1] [] p2) env) Q E s:=by
 refine mq (dN (Jw h1 h2 h3 h4 gr X ?_) (G9 (by decide)));refine mV (P:=λU=>True) rfl (λh U=>⟨.machine,.inr (.inl rfl),kY rfl⟩) (kO ?_);refine ik (dN (eG h1 hx hN hm ?_) (G9 hd));refine lz ⟨trivial, ?_⟩;exact Sv (pR.mpr (afu hs)) (h _ _)
end
noncomputable def an5 (ps:List (aM×aM))(j:Nat):Int:=match ps[j]? with
 | some p=>(p.1.length+p.2.length:Nat)
 | none=>0
theorem aR5 (g:Nat->Int):∀j n,zj (ai3 n g) (j+2)=zj (ai3 (n+g 0) λi=>g (i+1)) (j+1):=by
 intro zz
 induction zz with
 | zero=>
  intro n;simp [zj,ai3]
 | succ j ih=>
  intro n;rw[zj,ih n];rfl
theorem am5 (p:aM×aM)(ps:List (aM×aM)):w7 (p::ps)=p.1.length+p.2.length+w7 ps:=by delta w7;exact aD bV (aD jk rfl)
theorem Pg:∀(ps:List (aM×aM))(n:Int),zj (ai3 n (an5 ps)) (ps.length+1)=n+(w7 ps:Int):=by
 intro zz
 induction zz with
 | nil=>
  intro n;simp [zj,ai3,w7]
 | cons p ps ih=>
  intro n;rw[cW,aR5,show(λi=>an5 (p::ps) (i+1))=an5 ps from rfl,ih,am5,ie,Int.add_assoc];rfl
theorem Jx:∀{ps:List (aM×aM)}{p:aM×aM},∀J:p∈ps,p.1.length+p.2.length≤w7 ps:=by
 intro zz
 induction zz with
 | nil=>intros;contradiction
 | cons q ps ih=>
  intro p h;rw[am5];rcases aY.mp h with rfl | h
  ·exact aQ _ _
  ·exact ak (ih h) (jg _ _)
theorem Rm.deep (a:Rm A):(A.deeper env).depth<mO:=bz (bK (show 1≤4 by decide) A.depth) a.depth
inductive Yk (sc:jB):List pM->Prop
 | mk (a0 a1 a2 b0 b1 b2 b3 p1 p2 p3 p4:qg) (kt:Nat) (pos q0 q1 q2 q3 q4:qg):Yk sc [.Return (aa (.Call (.Name ("sum":aM) q0) [.GeneratorExp (.BinOp (.Call (.Name ("len":aM) a0) [.Name ("fws":aM) a1] [] a2) .Add (.Call (.Name ("len":aM) b0) [.Name ("part":aM) b1] [] b2) b3) [⟨.Tuple [.Name ("fws":aM) p1,.Name ("part":aM) p2] kt p3,.Name ("self":aM) p4, [],0⟩] sc pos,.Attribute (.Name ("self":aM) q1) ("_initial_size":aM) q2] [] q3)) q4]
inductive Yl (sc:jB):List pM->Prop
 | mk (a0 a1 a2 a3 a4 a5:qg) (b0:Nat) (p1 p2 p3 p4:qg) (kt:Nat) (pos q0 q1 q3 q4:qg) (ha:(a1.endLine==a5.line)=az) (hq:(q1.endLine==q3.line)=az):Yl sc [.Return (aa (.Call (.Attribute (.Name ("EMPTYSTRING":aM) q0) ("join":aM) q1) [.GeneratorExp (.Call (.Attribute (.Name ("EMPTYSTRING":aM) a0) ("join":aM) a1) [.Tuple [.Name ("fws":aM) a2,.Name ("part":aM) a3] b0 a4] [] a5) [⟨.Tuple [.Name ("fws":aM) p1,.Name ("part":aM) p2] kt p3,.Name ("self":aM) p4, [],0⟩] sc pos] [] q3)) q4]
structure aB9 (Γ:Cx)(g c P:aW)(body:List pM)(kd:Kd)(sc:jB):Prop where
 tab:ak2 Γ c P
 dn:aB8 Γ g c body kd
 RK:Ju sc
 scl:sc.names.lookup ("len":aM)=aa .globalImplicit
 Jy:kd ("self":aM)=aa .local
 aMa:kd ("sum":aM)=aa .globalImplicit
 aMb:Ci Γ "sum" (.builtin "sum")
 a9j:Ci Γ "len" (.builtin "len")
 bd:Yk sc body
structure Gg (Γ:Cx)(g c P:aW)(body:List pM)(kd:Kd)(sc:jB):Prop where
 tab:ak2 Γ c P
 dn:aB8 Γ g c body kd
 RK:Ju sc
 sce:sc.names.lookup ("EMPTYSTRING":aM)=aa .globalImplicit
 Jy:kd ("self":aM)=aa .local
 aMc:kd ("EMPTYSTRING":aM)=aa .globalImplicit
 aMd:∃t,Ci Γ "EMPTYSTRING" (.str "" t)
 bd:Yl sc body
section
variable {l:List fu}{lk:List Nat}{A:bQ}{ρ:eO}{H:Hp}{s:aV}{u:aB}{i:Nat}{g c P cl:aW}{body:List pM}{kd:Kd}{sc:jB}{R:PQ za}{d:j8}{xs:List V}{k:Int}
theorem aI4 (h:HD d xs=aa p):d.lookup ("_initial_size":aM)=aa (.int p.1)∧pairs xs=aa p.2∧mid p.1=az∧room (w7 p.2)=az:=by refine g8 h λv h1 h=> ?_;refine g8 h λn h2 h=> ?_;refine g8 h λps h3 h=> ?_;refine I5 h λhc h=> ?_;obtain rfl:=aq h;exact⟨aG2 h2▸h1,h3,(j5 (d7 hc)).1,(j5 (d7 hc)).2⟩
theorem ajc (KA:M6 Γ)(C:Fv Γ)(L:aB9 Γ g c P body kd sc)(a:Rm A)(S:SR Γ ρ H s)(hi:H[i]?=aa (.acc cl d xs))(hp:HD d xs=aa p)(hu:VR Γ ρ s.heap (.ref i) u)
  (h:∀s' t,∀J:SR Γ ρ H s',∀J:Ext Γ (m7 l) (Wr Γ lk ρ) ρ s ρ s',R (.ok (.ret (.int (p.1+(w7 p.2:Int)) t))) s'):gD Γ.M A (.call (.ref g) ⟨[u], []⟩) R s:=by
 refine anB (aI4 hp) λhd ht hm1 hr=> ?_;obtain⟨a0,a1,a2,b0,b1,b2,b3,p1,p2,p3,p4,kt,pos,q0,q1,q2,q3,q4⟩:=L.bd;refine aI3 (l:=l) L.dn L.tab.qW a S hu λenv bO O sZ fJ yL dB=> ?_;obtain⟨m,hn,hl⟩:=yL.ns;refine lO (hl ("self":aM) (.ref i) rfl) λu' hm hu'=> ?_;obtain⟨b,dx,es,nn,ys,kk,_,wz,hA,Cj,pJ,RJ,hz,_,uE⟩:=VR.acc hu' fJ hi;have hb:=cG.mpr ⟨_,aR wz,.head _⟩;refine uM (Ag ?_);refine mq (dN (W8 O L.aMa L.aMb fJ ?_) (G9 (by decide)));refine mV (P:=λU=>True) rfl (λh U=>⟨.machine,.inr (.inl rfl),kY rfl⟩) (kO ?_);refine ik (Jv (Fy:=λx1 x2 y=>∃t,y= .int ((x1.length+x2.length:Nat):Int) t) KA L.tab L.RK O L.Jy sZ a.hand a.deep fJ hn hm hA hb RJ ht (λC' code A' E' x1 x2 t1 t2 jX m₂ hA' ayw ajd hN hf hp'=> ?_) λga kj fp wr gg St G=> ?_)
 ·have hle:=ak (Jx ayw) (I2 hr)
  refine Cq (as7 (env:=genEnv sc [] C' code dD env) L.RK.kind L.scl O.glob rfl L.a9j ajd L.RK.f hN hf (by decide) (ak (aQ _ _) hle) (λtk k'=> ?_) a0 a1 a2);refine as7 (env:=genEnv sc [] C' code dD env) (s:={jX with toks:=k'}) L.RK.kind L.scl O.glob rfl L.a9j ajd L.RK.p hN hp' (by decide) (ak (jg _ _) hle) (λtk2 k2=> ?_) b0 b1 b2;exact wpAny_add_int ⟨⟨_,by rw[ie]⟩,jX.heap,_,rfl,λU U e=>e⟩
 ·refine nu (λBo rM=> ?_) (aN3 (FS:=m7 l) (lk:=lk) L.tab fJ G.kp G.code G.bare G.os G.drawn)
  have mem:∀{z:aW},∀J:z∈ [b,dx],z≠P:=λhz e=>fJ.lR _ (cG.mpr ⟨_,aR wz,hz⟩) (e▸L.tab.tab);have a9l:=G.kp _ _ (mem (.tail _ (.head _))) Cj;obtain⟨w,hw,hvw⟩:=(pJ.look ("_initial_size":aM)).1 _ hd;obtain⟨tn⟩:=hvw;refine ik ?_;show aO _ _ (do
   let ov←lM (.Name ("self":aM) q1) ("_initial_size":aM) env (eval (.Name ("self":aM) q1) env)
   mj q2.atName
   let r←pU [ov] (Eo ov ("_initial_size":aM) az)
   letTemporaryGo (.Name ("self":aM) q1) ov r
   pure r) _ _ _
  rw[au8 rfl];refine aj (dN (eG O.kind (O.loc _ L.Jy) (hn.at' λo e=>G.kp _ o (λz=>yL.xW (z▸L.tab.tab)) e) hm (aj (dR (aj (bT ?_))))) (G9 (by decide)));refine a7q KA C Bo.rJ (⟨(G.kp _ _ (mem (.head _)) hA),rfl,rfl,a9l⟩:InstAt kj.heap b _ Γ.G.fW (aa (iU es nn))) uE (by decide) hw rfl ?_;refine aj (wU (au (lz ⟨trivial, ?_⟩)));refine Xh (G.W.in4_1.self 0 {kj with toks:=kj.toks+1} _ _ (G.W.frame 0 kj kj.heap (kj.toks+1) G.st (dC _) λU U U e=>e) ⟨ga,fp,wr,_,_,_,_,an5 p.2,rfl,G.W.in4_1,(G.W.frame 0 kj kj.heap (kj.toks+1) G.st (dC _) λU U U e=>e),G.low,(by rintro j v ⟨p,e,t,ev⟩;exact⟨t,by refine aD ev ?_;delta an5;exact aD e rfl⟩),λs' t' hm'=> ?_⟩);refine aD (Pg p.2 p.1) ?_;obtain⟨ayx,ayy⟩:=G.fin L.tab fJ hm';exact h s' t' ayx ((dB _).trans ayy)
end
noncomputable def aE9 (p:aM×aM):aM:=p.1.append p.2
theorem Ph:∀(r:List aM)(acc:Array Nat),r.foldl (λacc p=>acc++(#[]:Array Nat)++p.cps) acc=acc++(r.foldr (λy z=>y.append z) mz).cps:=by
 intro zz
 induction zz with
 | nil=>
  intro acc;exact(iB ..).symm
 | cons y r ih=>
  intro acc;rw[gY,ih,aow,iB,vV];rfl
theorem a9m (ys:List aM):vq ⟨#[]⟩ ys=ys.foldr (λy z=>y.append z) mz:=by
 cases ys with
 | nil=>rfl
 | cons y r=>
  show adv ((r.drop 0).foldl (λacc p=>acc++(#[]:Array Nat)++p.cps) y.cps)=_;rw[oM,Ph];rfl
theorem Ym:∀{ps:List (aM×aM)},(ps.map aE9).foldr (λy z=>y.append z) mz=v6 ps∧((ps.map aE9).map (·.length)).sum=(v6 ps).length∧w7 ps=(v6 ps).length:=by
 intro zz
 induction zz with
 | nil=>
  exact⟨rfl,rfl,rfl⟩
 | cons p ps ih=>
  refine Be ih λi1 i2 i3=> ?_;have hl:(v6 (p::ps)).length=(p.1.length+p.2.length)+(v6 ps).length:=by show((p.1.append p.2).append (v6 ps)).length=_;rw[aM.oV,aM.oV]
  refine⟨?_, ?_, ?_⟩
  ·refine aD bV (aD aow (aD i1 ?_));rfl
  ·simp only[bV,bV,jk,i2,hl]
   show(p.1.append p.2).length+_=_;rw[aM.oV]
  ·simp only[am5,i3,hl]
theorem aN4:("":aM)=⟨#[]⟩:=by decide
theorem Pj (x1 x2:aM)(h:x1.length+x2.length≤16777216):(([x1,x2]:List aM).map (·.length)).sum+([x1,x2]:List aM).length*("":aM).length≤16777216:=by refine aD aN4 ?_;assumption
section
variable {l:List fu}{lk:List Nat}{A:bQ}{ρ:eO}{H:Hp}{s:aV}{u:aB}{i:Nat}{g c P cl:aW}{body:List pM}{kd:Kd}{sc:jB}{R:PQ za}{d:j8}{xs:List V}{k:Int}{ps:List (aM×aM)}
theorem aje (KA:M6 Γ)(L:Gg Γ g c P body kd sc)(a:Rm A)(S:SR Γ ρ H s)(hi:H[i]?=aa (.acc cl d xs))(hp:pairs xs=aa ps)(hr:room (v6 ps).length=az)(hu:VR Γ ρ s.heap (.ref i) u)
  (h:∀s' t,∀J:SR Γ ρ H s',∀J:Ext Γ (m7 l) (Wr Γ lk ρ) ρ s ρ s',R (.ok (.ret (.str (v6 ps) t))) s'):gD Γ.M A (.call (.ref g) ⟨[u], []⟩) R s:=by
 refine Be (Ym (ps:=ps)) λz1 z2 z3=> ?_;obtain⟨te,ge⟩:=L.aMd;obtain⟨a0,a1,a2,a3,a4,a5,b0,p1,p2,p3,p4,kt,pos,q0,q1,q3,q4,ha1,hq1⟩:=L.bd;refine aI3 (l:=l) L.dn L.tab.qW a S hu λenv bO O sZ fJ yL dB=> ?_;obtain⟨m,hn,hl⟩:=yL.ns;refine lO (hl ("self":aM) (.ref i) rfl) λu' hm hu'=> ?_;obtain⟨b,dx,es,nn,ys,kk,_,wz,hA,Cj,pJ,RJ,hz,_,uE⟩:=VR.acc hu' fJ hi;refine uM (Ag ?_);refine ah3 rfl hq1 rfl rfl (uQ rfl) (dN (W8 O L.aMc ge fJ λpl=> ?_) (G9 (by decide)));refine(by with_reducible exact aq0 tQ tR ·) ?_;refine mV (P:=λU=>True) rfl (λh U=>⟨.machine,.inr (.inl rfl),kY rfl⟩) (kO ?_);refine ik (Jv (Fy:=λx1 x2 y=>∃t,y= .str (x1.append x2) t) KA L.tab L.RK O L.Jy sZ a.hand a.deep fJ hn hm hA (cG.mpr ⟨_,aR wz,.head _⟩) RJ hp (λC' code A' E' x1 x2 t1 t2 jX m₂ hA' ayw ajd hN hf hp'=> ?_) λga kj fp wr gg St G=> ?_)
 ·have hle:=ak (Jx ayw) (z3▸(I2 hr))
  refine ah3 rfl ha1 rfl rfl (uQ rfl) (dN (Jw L.RK.kind L.sce O.glob rfl ge ajd λpl=> ?_) (G9 (by decide)));refine(by with_reducible exact aq0 tQ tR ·) ?_;refine mV (P:=λU=>True) rfl (λh U=>⟨.machine,.inr (.inl rfl),kY rfl⟩) (kO ?_);show aO _ _ (adg ((aG,eval (.Tuple [.Name ("fws":aM) a2,.Name ("part":aM) a3] b0 a4) (genEnv sc [] C' code dD env)):: [])) _ _ _;refine ik (wpAny_Tuple ?_);refine ik (dN (eG L.RK.kind L.RK.f hN hf ?_) (G9 (by decide)));refine ik (dN (eG L.RK.kind L.RK.p hN hp' ?_) (G9 (by decide)));refine lz ⟨by refine aD jf ?_;exact uO rfl,lz ⟨trivial, ?_⟩⟩;refine join_tuple ⟨_,bj _ rfl,rfl,_,rfl⟩ (.cons _ _ (.cons _ _ .nil)) (Pj x1 x2 hle) λt' k'=> ?_;exact⟨⟨t',by congr 1⟩,jX.heap.push _,k',rfl,λU U e=>aK _ e⟩
 ·refine lz ⟨trivial, ?_⟩
  refine aD aN4 ?_;refine SC.joinGen G.W.in4_2 G.ty G.st G.low G.gaf (by rintro j v ⟨p,e,t,ev⟩;exact⟨_,t,ev⟩) (λs' lt hm' a9n=> ?_) (by refine aD jf (aD (pairs_len hp) ?_);exact hz);have wu:lt.map (·.1)=ps.map aE9:=by
   apply List.ext_getElem?;intro j;refine aD (eV) (aD (eV) ?_);by_cases hj:j<lt.length
   ·obtain⟨p,e,t,ev⟩:=a9n.2 j (.str lt[j].1 lt[j].2) (by simp [Ss,bD hj])
    injection ev with e1 _
    refine aD (bD hj) (aD e ?_);exact congrArg aa e1
   ·refine aD (uG (eU hj)) (aD (uG (nF (show lt.length=ps.length from by simpa [Ss] using a9n.1) (eU hj))) ?_);rfl
  refine aD wu ?_;refine⟨joinOk_of (by refine aD z2 ?_;simpa [Str.length] using (I2 hr)),λt' k'=> ?_⟩;rw[a9m,z1];refine nu (λayx ayy=> ?_) (G.fin (FS:=m7 l) (lk:=lk) L.tab fJ hm');exact h {s' with toks:=k'} t' (ayx.same) ((dB _).trans (ayy.trans (Ext.same)))
end
end
section
variable {Γ:Cx}
section
variable {A:bQ}{s:aV}{x c g:aW}{ox:oH}{od:Option oH}{Q:PQ aB}{E:PQ aB}
noncomputable abbrev Gh (Q:PQ aB)(E:PQ aB):PQ za:=Ret (λv s'=>∃i t,v= .int i t∧0≤i∧i<1000000000000000000∧∀t' tk,Q (.int i t') {s' with toks:=tk}) E
theorem Jz (X:Γ.K.In s.heap)(I:InstAt s.heap x ox c od)(m1:gb Γ.K (.ref c) "__len__"=aa (aa (.ref g)))(m2:uv Γ.K (.ref g)=aa (.type "function"))
  (h:gD Γ.M A.in1 (.call (.ref g) ⟨[.ref x], []⟩) (Gh Q E) s):aO Γ.M A.in1 (eF.«len» ⟨[.ref x], []⟩) (λfin s'=>∃v,fin= .done (.ret v)∧Q v s') E s:=by
 refine aj (au ?_);refine aj (special_fn X I m1 m2 (bJ (ac5 h) (λv s' z=> ?_) λU U y=>y));obtain⟨i,t,rfl,h0,hs,hq⟩:=z;exact aj (bT (au (aj (tZ (oh (bu (by lia)) (oh (bu (by lia)) (aj (aoo (au ⟨_,rfl,hq _ _⟩)))))))))
theorem a9o (X:Γ.K.In s.heap)(I:InstAt s.heap x ox c od)(m1:gb Γ.K (.ref c) "__len__"=aa (aa (.ref g)))(m2:uv Γ.K (.ref g)=aa (.type "function"))
  (h:gD Γ.M A.in1 (.call (.ref g) ⟨[.ref x], []⟩) (Gh Q E) s):aO Γ.M A (call (.builtin "len") [.ref x] []) Q E s:=
 Calls.call_function_entry kind_len plain_len entry_len (args_len1 _) (Jz X I m1 m2 h)
theorem a9p (X:Γ.K.In s.heap)(hu:A.units+50<yC)(I:InstAt s.heap x ox c od)(m1:gb Γ.K (.ref c) "__str__"=aa (aa (.ref g)))(m2:uv Γ.K (.ref g)=aa (.type "function"))
  (h:gD Γ.M A.in1.in1 (.call (.ref g) ⟨[.ref x], []⟩) (Ret (λv s'=>(∃i t,v= .str i t)∧∀tk,Q v {s' with toks:=tk}) E) s):aO Γ.M A (call (.type "str") [.ref x] []) Q E s:=by
 refine kso_call (bz (bK (show 2≤50 by decide) A.units) hu) X I m1 (beq_iff_eq.mpr m2) (bJ (ac5 h) (λv s' z=> ?_) λU U y=>y);obtain⟨⟨i,t,rfl⟩,hq⟩:=z;exact hq s'.toks
end
theorem aT8:Hr (.type "re.Match") "__bool__"=pure aC:=by rw[lF,iK];kernel_rfl
theorem Pk:Hr (.type "re.Match") "__len__"=pure aC:=by rw[lF,iK];kernel_rfl
theorem agd (ho:s.heap.get? a=aa o)(hc:o.cls= .type "re.Match")(h:∀tk,Q az {s with toks:=tk}):aO Γ.M A (vy (.ref a)) Q E s:=aj (aj (oK ⟨o,ho,hc⟩ aT8 (au (aj (oK ⟨o,ho,hc⟩ Pk (au (h s.toks)))))))
theorem truthy_own (X:Γ.K.In s.heap)(I:Ii s.heap x c)(hb:gb Γ.K (.ref c) "__bool__"=aa aC)(hl:gb Γ.K (.ref c) "__len__"=aa (aa (.ref g)))
  (h:aO Γ.M A (runValue (.builtin "len" ⟨[.ref x], []⟩)) (λv s'=>∃i t,v= .int i t∧Q (i !=0) s') E s):aO Γ.M A (vy (.ref x)) Q E s:=by
 refine aj (aj (aj (I.type.here ((fM X hb).here (au ?_)))));refine aj (aj (I.type.here ((fM X hl).here ?_)));refine oh (bu (by simp)) ?_;refine aj (bJ h (λv s' z=> ?_) λU U z=>z);obtain⟨i,t,rfl,z⟩:=z;exact au z
structure aw1 (Γ:Cx):Prop where
 bool:gb Γ.K (.ref Γ.G.fW) "__bool__"=aa aC
 len:∃g c P body kd sc,gb Γ.K (.ref Γ.G.fW) "__len__"=aa (aa (.ref g))∧uv Γ.K (.ref g)=aa (.type "function")∧aB9 Γ g c P body kd sc
 str:∃g c P body kd sc,gb Γ.K (.ref Γ.G.fW) "__str__"=aa (aa (.ref g))∧uv Γ.K (.ref g)=aa (.type "function")∧Gg Γ g c P body kd sc
section
variable {l:List fu}{lk:List Nat}{A A':bQ}{H:Hp}{i:Nat}{c:aW}{d:j8}{xs:List V}{k:Int}{ρ:eO}{s:aV}{u:aB}{E:PQ aB}{Q:PQ aB}
theorem JB (KA:M6 Γ)(C:Fv Γ)(L:aB9 Γ g cc P body kd sc)(a:Rm A)(hk:ad3 d xs=aa k)(S:SR Γ ρ H s)(hi:H[i]?=aa (.acc c d xs))(hu:VR Γ ρ s.heap (.ref i) u)
  (h:∀s' t,∀J:SR Γ ρ H s',∀J:Ext Γ (m7 l) (Wr Γ lk ρ) ρ s ρ s',Q (.int k t) s'):gD Γ.M A (.call (.ref g) ⟨[u], []⟩) (Gh Q E) s:=by
 refine g8 hk λp hp hk=> ?_;refine I5 hk λh0 hk=> ?_;obtain rfl:=aq hk;refine anB (aI4 hp) λ_ _ h1 h2=> ?_;have h3:=fH (j9 h1);have h4:=I2 h2;exact ajc KA C L a S hi hp hu λs' t S' x'=>⟨_,t,rfl,fH h0,by omega,λt' tk=>h {s' with toks:=tk} t' (S'.same) (x'.trans (Ext.same))⟩
theorem ayz (KA:M6 Γ)(C:Fv Γ)(D:aw1 Γ):as6 Γ where
 len:=λl lk A H i c d xs k ρ s u a hk S hu=> .ok λQ E P=>by refine qm λY Z=> ?_;obtain⟨g,cc,P',body,kd,sc,h1,h2,L⟩:=D.len;obtain⟨b,dx,es,nn,ys,kk,hi,wz,hA,Cj,pJ,RJ,hz,rfl,uE⟩:=hu;exact Z (a9o S.rJ (od:=aa (iU es nn)) ⟨hA,rfl,rfl,Cj⟩ h1 h2 (JB KA C L (a.rm rfl (aQ _ _)) hk S hi ⟨b, [dx],wz⟩ λs' t S' x'=>P ρ s' _ x' S' ⟨t⟩))
 str:=λl lk A H i c d xs ps ρ s u a hp hr S hu=> .ok λQ E P=>by refine qm λY Z=> ?_;obtain⟨g,cc,P',body,kd,sc,h1,h2,L⟩:=D.str;obtain⟨b,dx,es,nn,ys,kk,hi,wz,hA,Cj,pJ,RJ,hz,rfl,uE⟩:=hu;exact Z (a9p S.rJ (by have:=a.units;lia) (od:=aa (iU es nn)) ⟨hA,rfl,rfl,Cj⟩ h1 h2 (aje KA L (a.rm rfl (aQ _ _)) S hi hp hr ⟨b, [dx],wz⟩ λs' t S' x'=>⟨⟨_,_,rfl⟩,λtk=>P ρ {s' with toks:=tk} _ (x'.trans (Ext.same)) (S'.same) ⟨t⟩⟩))
theorem a9q (KA:M6 Γ)(C:Fv Γ)(D:aw1 Γ):al6 Γ where
 a7m:=λl lk A H i c d xs k ρ s u a hk S hu=> .ok λQ E P=>by refine qm λY Z=> ?_;obtain⟨g,cc,P',body,kd,sc,h1,h2,L⟩:=D.len;obtain⟨b,dx,es,nn,ys,kk,hi,wz,hA,Cj,pJ,RJ,hz,rfl,uE⟩:=hu;exact Z (truthy_own S.rJ ⟨_,hA,rfl⟩ D.bool h1 (wpAny_runValue (Eb entry_len (aD (Es plain_len _) (bJ (Jz (Q:=λv s'=>∃i t,v= .int i t∧Q (i !=0) s') S.rJ (od:=aa (iU es nn)) ⟨hA,rfl,rfl,Cj⟩ h1 h2 (JB KA C L (a.rm rfl (aQ _ _)) hk S hi ⟨b, [dx],wz⟩ λs' t S' x'=>⟨k,t,rfl,P ρ s' _ x' S' rfl⟩)) (λfin s' z=>by obtain⟨v,rfl,z⟩:=z;exact z) λU U z=>z)))))
 agd:=λA s a o Q E ho hc h=>agd ho hc h
end
end
section
variable {Γ:Cx}{n m:Nat}{k:Kd}
structure Pn (Γ:Cx):Prop where
 opq:acz Γ.K aog "thirdparty.any"=aa aC
 cls:∃cd,Hi Γ.K Γ.G.fW=aa cd∧cd.qualname=("_Accumulator":aM)∧cd.mro= [.ref Γ.G.fW,.type "list",.type "object"]
 typ:∃o,Γ.K.lookup Γ.G.fW=aa o∧o.cls= .type "type"
 at_:∀a f,∀J:Γ.G.fn a=aa f,∀o fd,∀J:Γ.g0.get? a=aa o,∀J:o.data= .func fd,∀J:kdOf fd.scope ("__class__":aM)=aa .free,∃ar cc oc vs tf cl ocl,(fd.params.posonlyargs++fd.params.args).head?=aa ar∧ar.arg=("self":aM)∧fd.code= .ref cc∧Γ.g0.get? cc=aa oc∧oc.data= .fields vs∧vs[2]?=aa (.str Γ.prog.main.file tf)∧fd.closure= [(("__class__":aM),cl)]∧Γ.g0.get? cl=aa ocl∧ocl.data= .cell (aa (.ref Γ.G.fW))
 top:(Γ.prog.main.scope.names.lookup ("super":aM)).isSome=aG
theorem n8.put {α β:Type}{R:eO->bL->α->β->Prop}{l:List fu}{lk:List Nat}{ρ:eO}{H:Hp}{s:aV}{i:Nat}{o:p6}{a:α}{W:∀J:(PQ β),∀J:(PQ aB),Prop}(h:∀J:i∉lk,∀Q E,∀J:N6 Γ l lk ρ s (.ok a) (H.set i o) R Q E,W Q E):n8 Γ l lk ρ s (put lk H i o a) W R:= .fV λhn=> .ok (h (by simpa using hn))
theorem ajf {α:Type}{xs:List α}{v:α}(h:xs.getLast?=aa v):∃n,xs.length=n+1∧xs[n]?=aa v:=by
 rw[List.getLast?_eq_getElem?]at h;cases xs with
 | nil=>exact iu h
 | cons a r=>exact⟨r.length,rfl,h⟩
theorem aK4 (C:aW):(([.ref C,.type "list",.type "object"]:List aB).dropWhile (· != .ref C)).drop 1= [.type "list",.type "object"]:=by simp [List.dropWhile]
theorem Yn (K:aof)(r:List aB)(h:fastBuiltinOwn "list" x=aa v):alongIn K x (.type "list"::r)=aa (aa v):=by simp only[alongIn,ownIn,h]
theorem Pr (h:aj6.contains x=az):x="__init__" ∨x="__len__" ∨x="pop":=by simpa [aj6] using h
theorem aT9 {id bt:String}(hb:h.get? b=aa {cls:= .type bt,data:= .fields #[.builtin id,.ref x]})(hbt:bt="method-wrapper" ∨bt="builtin_function_or_method"):W5 Γ h (.ref b):=by refine⟨.machine,.inr (.inl rfl), ?_⟩;refine(uL hb).andThen ?_;dsimp only;exact aD (bG (by rcases hbt with rfl | rfl<;>decide)) (aD (bG (by rcases hbt with rfl | rfl<;>decide)) .now)
theorem aq1 (hl:(ap.endLine==p.line)=az)
  (h:_root_.PySem.wpAt Γ.M A c (lM o name env (eval o env)) (λov aU=>∀pl,aO Γ.M A (rZ ov name pl) (λfx bO=>aO Γ.M A (Ah p fx.1 fx.2 [] []) Q E bO) E aU) E s):
  _root_.PySem.wpAt Γ.M A c (eval (.Call (.Attribute o name ap) [] [] p) env) Q E s:=by
 have e:eval (.Call (.Attribute o name ap) [] [] p) env=(do
   let ov←lM o name env (eval o env)
   mj ap.atName
   sW o name ap p env ov 0 [] []):=rfl
 refine aD e ?_;refine _root_.PySem.wpAt_bind (ks_wpAt_mono h (λov aU jj=>qt (aj (dR ?_))) λU U z=>z);delta sW;refine aD (Jc rfl rfl (by decide)) ?_;refine aj (bT ?_);refine oh (bG rfl) ?_;refine bJ (jj _) (λfx bO ni=> ?_) λU U z=>z;obtain⟨f,first⟩:=fx;exact aj (oh (bG ((kZ _ _).mpr (.inr hl))) (au ni))
section
variable {a:aW}{f:Fn}{o:oH}{fd:jC}{body:List pM}{dU:List (aM×aB)}{env:fu}{l:List fu}{A:bQ}{lk:List Nat}{ρ:eO}{H:Hp}{s:aV}{loc cR:j8}{Q:PQ aB}{E:PQ aB}{x:aM}
structure a9r (fd:jC)(x:aM):Prop where
 mem:aj6.contains x=az
 sup:kdOf fd.scope ("super":aM)=aa .globalImplicit
 cls:kdOf fd.scope ("__class__":aM)=aa .free
 self:kdOf fd.scope ("self":aM)=aa .local
theorem az7 (KA:M6 Γ)(KS:Pn Γ){id bt:String}(S:SR Γ ρ H s)(hA:s.heap.get? b=aa {cls:= .ref Γ.G.fW,dict:=aa dx,data:= .seq ys kk})(kp:∀b o,∀J:s.heap.get? b=aa o,h'.get? b=aa o)(Ck:h'.get? sp=aa {cls:= .type "super",data:= .fields #[.ref Γ.G.fW,.ref b,.ref Γ.G.fW]})
  (hat:(x==("__class__":aM))=aG) (hB:Sp.Binds Γ b Γ.G.fW id bt) (hbt:bt="method-wrapper" ∨bt="builtin_function_or_method") (hfb:fastBuiltinOwn "list" x=aa (.builtin id)) (hpl:plainId id=az) (hen:Ab table id=aa B)
  (aMi:∀bO:aV,∀J:Γ.K.In bO.heap,∀J:bO.heap.get? b=aa {cls:= .ref Γ.G.fW,dict:=aa dx,data:= .seq ys kk},aO Γ.M A.in1 (mW id ⟨[.ref b], []⟩) (λU s'=>s'=bO) (λU U=>False) bO)
  (aMj:∀bO:aV,∀J:(∀b o,∀J:s.heap.get? b=aa o,bO.heap.get? b=aa o),∀J:Ext Γ (m7 l) (Wr Γ lk ρ) ρ s ρ bO,∀J:SR Γ ρ H bO,∀J:bO.heap.get? b=aa {cls:= .ref Γ.G.fW,dict:=aa dx,data:= .seq ys kk},aO Γ.M A.in1 (B ⟨[.ref b], []⟩) (λfin s'=>∃v,fin= .done (.ret v)∧Q v s') E bO):
  aO Γ.M A (rZ (.ref sp) x pl) (λfx bO=>aO Γ.M A (Ah p fx.1 fx.2 [] []) Q E bO) E {s with heap:=h'}:=by
 refine Rt KS.cls λcd Gi hq Yo=> ?_;refine lO KS.typ λoC hoC htC=> ?_;have cg:SR Γ ρ H {s with heap:=h'}:=S.keeps kp;have oA:b≠Γ.G.fW:=λe=>by have:=S.rJ _ _ hoC;rw[←e,hA]at this;cases this;cases htC
 refine NT hB ((show Ii h' b Γ.G.fW from⟨_,(kp _ _ hA),rfl⟩).type.andThen (qQ cg.rJ KA.mro)) Ck KS.opq ((wW cg.rJ Gi).andThen .now) cg.rJ (by simp only[Yo,aK4];exact Yn _ _ hfb) oA hat ?_;have uq:∀y oy,∀J:s.heap.get? y=aa oy,(h'.push {cls:= .type bt,data:= .fields #[.builtin id,.ref b]}).get? y=aa oy:=λy oy e=>aK _ (kp y oy e);have aro:(h'.push {cls:= .type bt,data:= .fields #[.builtin id,.ref b]}).get? h'.objs.size=aa {cls:= .type bt,data:= .fields #[.builtin id,.ref b]}:=Heap.get?_push_at rfl rfl;have fJ:SR Γ ρ H {s with heap:=h'.push {cls:= .type bt,data:= .fields #[.builtin id,.ref b]},toks:=s.toks+1}:=S.keeps uq;exact mV (P:=λh=>W5 Γ h (.ref h'.objs.size)) rfl (λh z=>z) (evalArgs_nil3 ⟨aT9 aro hbt,aT4 aro hbt hpl hen (aMi _ fJ.rJ (uq _ _ hA)) (aMj _ uq (Ext.keeps uq) fJ (uq _ _ hA))⟩)
set_option tactic.hygienic true in
theorem az8 (KS:Pn Γ)(KG:W9 Γ)(FA:FnAt Γ a f o fd body dU)(hf:Γ.G.fn a=aa f)(N:a9r fd x)(hat:(x==("__class__":aM))=aG)(O:v9 Γ (kdOf fd.scope) env)(W:Own (kdOf fd.scope) env l)(T:AtF a fd env)(S:SR Γ ρ H s)(F:FR Γ l ρ s.heap env loc cR)
  (hl:∃v,loc.lookup ("self":aM)=aa v∧∀u,∀J:VR Γ ρ s.heap v u,u= .ref b) (hA:s.heap.get? b=aa {cls:= .ref Γ.G.fW,dict:=aa dx,data:= .seq ys kk})
  (hQ:∀h',∀J:(∀b o,∀J:s.heap.get? b=aa o,h'.get? b=aa o),∀J:h'.get? s.heap.objs.size=aa {cls:= .type "super",data:= .fields #[.ref Γ.G.fW,.ref b,.ref Γ.G.fW]},Q (.ref s.heap.objs.size) {s with heap:=h'}):
  _root_.PySem.wpAt Γ.M A (.func body env) (lM (.Call (.Name ("super":aM) p0) [] [] p1) x env (eval (.Call (.Name ("super":aM) p0) [] [] p1) env)) Q E s:=by
 refine qm λY Z=> ?_;obtain⟨ar,cc,oc,vs,tf,cl,ocl,hp,har,hco,hcc,hoc,je,aMn,wk,RC⟩:=KS.at_ a f hf o fd FA.obj FA.data N.cls;refine Z ?_;refine Rt KS.cls λcd Gi hq Yo=> ?_;obtain⟨m,hn,vg⟩:=F.ns;refine lO hl λv hv hvu=> ?_;refine lO (vg _ _ hv) λu hu hr=> ?_;obtain rfl:=hvu u hr;obtain⟨oD,hD1,hD2⟩:∃oD,s.heap.get? Γ.G.fW=aa oD∧oD.data= .cls cd:=by obtain⟨oc,od,sl,z⟩:=aH5 Gi;exact⟨_,S.rJ _ _ z,rfl⟩
 refine ks_wpAt_super_base (O.gn _ N.sup) ((W.kd _).trans N.cls) hat T.func (S.base _ _ FA.obj) FA.data hp (T.code.trans hco) (S.base _ _ hcc) hoc je (by simp) KS.top ?_;refine W8 O N.sup KG.sup S ⟨rfl, ?_⟩;refine aue O.kind ((W.kd _).trans N.cls) (T.cls _ aMn) ⟨ocl,S.base _ _ wk,RC⟩ ?_ (G9 (by decide));refine aD har ?_;refine eG O.kind (O.loc _ N.self) hn hu (ye hD1 hD2 ⟨rfl, ?_⟩);exact ks_wpAny_call_super hD1 hD2 hA rfl (by simp) (qQ S.rJ (by simp [RX,Gi,Yo])) λh' Ck kp=>hQ h' kp Ck
theorem Yp:Ly lk H i c d xs "__len__"=ok (.int xs.length) H:=(bu (by decide)).trans (bG rfl)
theorem Yq:Ly lk H i c d xs "pop"=opt xs.getLast? λx=>put lk H i (.acc c d xs.dropLast) x:=(bu (by decide)).trans ((bu (by decide)).trans (bG rfl))
theorem aN5 (KA:M6 Γ)(KS:Pn Γ)(KG:W9 Γ)(FA:FnAt Γ a f o fd body dU)(hf:Γ.G.fn a=aa f)(N:a9r fd x)(O:v9 Γ (kdOf fd.scope) env)(W:Own (kdOf fd.scope) env l)(T:AtF a fd env)(S:SR Γ ρ H s)(F:FR Γ l ρ s.heap env loc cR)(p0 p1 ap p:qg)(hap:(ap.endLine==p.line)=az):
  n8 Γ l lk ρ s (dY Γ.G n ⟨loc,cR,lk⟩ (.sup x) H) (λQ E=>_root_.PySem.wpAt Γ.M A (.func body env) (eval (.Call (.Attribute (.Call (.Name ("super":aM) p0) [] [] p1) x ap) [] [] p) env) Q E s) (v5 Γ):=by
 cases n with
 | zero=>exact .none
 | succ n=>
  refine .opt λv hv=> .opt λq hq=> ?_;obtain⟨_,hn,vg⟩:=F.ns;refine lO (vg _ _ hv) λu _ hu=> ?_;obtain⟨b,dx,es,nn,ys,kk,hi,wz,hA,hd,pJ,hs,hz,hc,uE⟩:=hu.sX S hq;have wJ:=hs.size;have self:∃v,loc.lookup ("self":aM)=aa v∧∀u,∀J:VR Γ ρ s.heap v u,u= .ref b:=⟨v,hv,λu hu=>by
   obtain⟨_,_,_,_,_,_,_,h1,_⟩:=hu.sX S hq;exact aD (ai8 wz h1) rfl⟩
  rw[hc]at hi⊢;refine Rt KS.cls λcd Gi hqn Yo=> ?_;refine lO KS.typ λoC hoC htC=> ?_;rcases Pr N.mem with rfl | rfl | rfl
  ·refine .put λvg Q E P=>aq1 hap (az8 KS KG FA hf N (by decide) O W T S F self hA λh' kp Ck pl=> ?_)
   exact az7 KA KS S hA kp Ck (by decide) Sp.Gd (.inl rfl) rfl (by decide+kernel) PySem.F.entry_list_init (λbO U U=>NZ rfl) λbO uq dB fJ uV=>Xc uV rfl (by refine aD wJ (aD jf ?_);exact hz) ⟨_,rfl,ap2 (Q:=λU=>Q .none) fJ hi wz uV (uq _ _ hd) (pJ.mono (H9.refl ρ s.heap) λb o e U=>uq b o e) uE vg (λU=> #[]) (show gA Γ ρ bO.heap [] [] from rfl) (cL _) bO.toks λx S'=>P ρ _ .none (dB.trans x) S' rfl⟩
  ·refine aD Yp ?_
   exact .ok λQ E P=>aq1 hap (az8 KS KG FA hf N (by decide) O W T S F self hA λh' kp Ck pl=>(az7 KA KS S hA kp Ck (by decide) Sp.NP (.inl rfl) rfl (by decide+kernel) PySem.F.entry_list_len (λbO U U=>WY rfl) λbO U dB fJ uV=>ahy uV rfl λtk=>⟨_,rfl,P ρ {bO with toks:=bO.toks+1} _ (dB.trans (Ext.same)) (fJ.same) (aD wJ ⟨tk⟩)⟩))
  ·refine aD Yq ?_
   refine .opt λv hgl=> .put λvg Q E P=> ?_;refine lO (ajf hgl) λn' Bj aMo=> ?_;obtain⟨w,hw⟩:∃w,ys[n']?=aa w:=⟨_,dG (show n'<ys.size by refine aD wJ (aD Bj ?_);exact fP _)⟩;refine aq1 hap (az8 KS KG FA hf N (by decide) O W T S F self hA λh' kp Ck pl=> ?_);refine az7 (l:=l) (lk:=lk) KA KS S hA kp Ck (by decide) Sp.NQ (.inr rfl) rfl (by decide+kernel) PySem.F.entry_list_pop (λbO azb uV=> ?_) λbO uq dB fJ uV=>ahz uV rfl (wJ.trans Bj) hw (by refine aD wJ (aD jf ?_);exact hz) ⟨_,rfl, ?_⟩
   ·have aMp:Ii bO.heap b Γ.G.fW:=⟨_,uV,rfl⟩
    exact Xb (aMp.type.andThen (qQ azb (by simp [RX,Gi,Yo]))) uV rfl (by simp) (wW azb Gi) hqn (htC▸(uL (azb _ _ hoC)).andThen .now) rfl
   ·refine ap2 (Q:=λU=>Q w) fJ hi wz uV (uq _ _ hd) (pJ.mono (H9.refl ρ s.heap) λb o e U=>uq b o e) uE vg (λus=>us.eraseIdxIfInBounds n') ?_ (by refine aD List.length_dropLast ?_;exact ak (uB _ _) hz) bO.toks λx S'=>P ρ _ w (dB.trans x) S' ((hs.get aMo (cu.trans hw)).ext (dB.trans x))
    simp only[xQ,List.eraseIdx_eq_take_drop_succ,Eu (by refine aD cj (aD wJ (aD Bj ?_));exact aN _),bh,List.dropLast_eq_take,Bj];exact(hs.take n').ext dB
end
structure aMq (k:Kd)(e:aF)(x:aM):Prop where
 sup:k ("super":aM)=aa .globalImplicit
 cls:k ("__class__":aM)=aa .free
 self:k ("self":aM)=aa .local
 mem:aj6.contains x=az
 is:∃p0 p1 ap p,e= .Call (.Attribute (.Call (.Name ("super":aM) p0) [] [] p1) x ap) [] [] p∧(ap.endLine==p.line)=az
theorem al7 (h:TP k e=aa x):aMq k e x:=by refine lO (S9 h) λc h1 h=> ?_;refine lO (S9 h) λm h2 h=> ?_;refine lO (S9 h) λg h3 h=> ?_;obtain⟨hb,h⟩:=T3 h;obtain rfl:=aq h;have e:=ae3 h1;simp only[ai5 h2,(aa5 h3).1,bY.mp (d7 (d7 (d7 (d7 (d7 (d7 hb)))))),bY.mp (j9 (d7 (d7 (d7 (d7 (d7 hb)))))),bY.mp (j9 (d7 (d7 (d7 (d7 hb)))))]at e;exact⟨(aa5 h3).2,fG (j9 (d7 (d7 hb))),fG (j9 (d7 hb)),(j9 (d7 (d7 (d7 hb)))),⟨_,_,_,_,e,(j9 hb)⟩⟩
theorem azc (KA:M6 Γ)(KS:Pn Γ)(KG:W9 Γ):Wg Γ:=λn a f o fd body dU FA hf st ms hs env l A lk σ ρ s O W T ao S F=>by
 cases n with
 | zero=>exact .none
 | succ n=>
  cases st with
  | Expr e pe=>
   obtain⟨x,hx,h⟩:=S9 hs;obtain rfl:=aq h;refine qm λY Z=> ?_;obtain⟨h1,h2,h3,h4,p0,p1,ap,p,rfl,hap⟩:=al7 hx;exact Z ((aN5 KA KS KG FA hf ⟨h4,h1,h2,h3⟩ O W T S F p0 p1 ap p hap).Av F (λQ E w=>ks_wpAt_Expr_any w (by simp [aom,O.kind]) rfl) λv cM aZ aU u cU cg hv=>(.ok λQ E P=>P.done cg (F.ext cU) rfl))
  | Return oe pe=>
   obtain⟨e,rfl,h'⟩:=S9 hs;refine lO (S9 h') λx hx h=> ?_;obtain rfl:=aq h;refine qm λY Z=> ?_;obtain⟨h1,h2,h3,h4,p0,p1,ap,p,rfl,hap⟩:=al7 hx;exact Z ((aN5 KA KS KG FA hf ⟨h4,h1,h2,h3⟩ O W T S F p0 p1 ap p hap).Av F (λQ E w=>ks_wpAt_Return_some w) λv cM aZ aU u cU cg hv=>(.ok λQ E P=>P.done cg (F.ext cU) ⟨u,hv⟩))
  | _=>exact iu hs
end
section
variable {Γ:Cx}
theorem as8 {Γ:Ctx}(h:Runs M Γ p t fs s e s'):s.toks≤s'.toks:=by
 induction h<;>first
  | exact aN _
  | assumption
  | exact ak (by assumption) (by assumption)
  | exact ak (dC _) (by assumption)
theorem aU0 {Γ:Ctx}(h:Wakes M Γ p g r s res s'):s.toks≤s'.toks:=by
 unfold Wakes at h
 split at h
 ·exact h.elim
 ·split at h
  ·obtain⟨TY,aU,h1,_,_,rfl⟩:=h
   have:=as8 h1;exact this
  ·rw[h.2];exact aN _
  ·rw[h.2];exact aN _
 ·obtain⟨TY,aU,h1,_,_,rfl⟩:=h
  have:=as8 h1;exact this
 ·rw[h.2];exact aN _
 ·rw[h.2];exact aN _
theorem wp_toks {α:Type}{M:yw}{Γ:Ctx}{N:Nat}(t:RW α):∀{Q:α->PQ qg}{E:aB->PQ qg}{p:qg}{s:aV},∀J:N≤s.toks,∀J:iW M Γ t Q E p s,iW M Γ t (λa p s'=>N≤s'.toks∧Q a p s') (λe p s'=>N≤s'.toks∧E e p s') p s:=by
 induction t with
 | pure a=>intro Q E p s hN h;rw[iW]at h⊢;exact⟨hN,h⟩
 | raise e=>intro Q E p s hN h;rw[iW]at h⊢;exact⟨hN,h⟩
 | unsupported w=>intro Q E p s hN h;rw[iW]at h;exact h.elim
 | finish e=>intro Q E p s hN h;rw[iW]at h;exact h.elim
 | rule _ k ih=>intro Q E p s hN h;rw[iW]at h⊢;exact ih () hN h
 | «at» _ k ih=>intro Q E p s hN h;rw[iW]at h⊢;exact ih () hN h
 | load a part k ih=>intro Q E p s hN h;rw[iW]at h⊢;obtain⟨o,ho,h⟩:=h;exact⟨o,ho,ih o hN h⟩
 | update a part f k ih=>intro Q E p s hN h;rw[iW]at h⊢;exact⟨h.1,ih () hN h.2⟩
 | loadIfAlive a k ih=>intro Q E p s hN h;rw[iW]at h⊢;exact ih _ hN h
 | point _ k ih=>intro Q E p s hN h;rw[iW]at h⊢;exact ih () hN h
 | register _ k ih=>intro Q E p s hN h;rw[iW]at h;exact h.elim
 | alloc o k ih=>intro Q E p s hN h;rw[iW]at h⊢;exact ih _ hN h
 | fresh k ih=>intro Q E p s hN h;rw[iW]at h⊢;exact ih _ (gq hN) h
 | ask k ih=>intro Q E p s hN h;rw[iW]at h⊢;exact ih _ hN h
 | choose src n k ih=>intro Q E p s hN h;rw[iW]at h⊢;exact⟨h.1,ih _ hN h.2⟩
 | os q l k ih=>intro Q E p s hN h;rw[iW]at h⊢;exact ih _ hN h
 | call c hd g l k ih=>
  intro Q E p s hN h;rw[iW]at h⊢;exact exY h λr s' h1 h2=>⟨r,s',h1,ih r (ak hN (as8 h1)) h2⟩
 | handled own k ih=>intro Q E p s hN h;rw[iW]at h⊢;exact ih _ hN h
 | genState g k ih=>intro Q E p s hN h;rw[iW]at h⊢;obtain⟨st,hs,h⟩:=h;exact⟨st,hs,ih _ hN h⟩
 | newGen c k ih=>intro Q E p s hN h;rw[iW]at h⊢;exact ih _ hN h
 | resume g r l k ih=>
  intro Q E p s hN h;rw[iW]at h⊢;exact exY h λres s' h1 h2=>⟨res,s',h1,ih res (ak hN (aU0 h1)) h2⟩
 | yield v g l k ih=>intro Q E p s hN h;rw[iW]at h;exact h.elim
 | stack k ih=>intro Q E p s hN h;rw[iW]at h⊢;exact ih _ hN h
 | fork _ k ih=>intro Q E p s hN h;rw[iW]at h;exact h.elim
 | thread k ih=>intro Q E p s hN h;rw[iW]at h⊢;exact ih _ hN h
 | await _ _ k ih=>intro Q E p s hN h;rw[iW]at h;exact h.elim
theorem aR6 {α:Type}{M:yw}{A:bQ}{env:fu}{x:aM}{k:Nat}{pos:qg}{f:aB->RW α}{Q:PQ α}{E:PQ aB}{s:aV}(h:aO M A (eval (.Constant (.str x) k pos) env>>=f) (λa s'=>∀J:1≤s'.toks,Q a s') E s):aO M A (eval (.Constant (.str x) k pos) env>>=f) Q E s:=λΓ p hΓ=>by have h:=h Γ p hΓ;rw[Sem.wp_bind']at h⊢;have h:=h;have:=Sem.wp_mono M Γ _ (λa p s' h=>h.2 h.1) (λe p s' h=>h.2) p _ (wp_toks (f (.str x s.toks)) (fB _) h);exact this
structure JC (o:aF):Prop where
 is:∃(z:aM) (zi:Nat) (zp nap op:qg) (nm:aM) (yQ:List aF) (oks:List tY),o= .Call (.Attribute (.Constant (.str z) zi zp) nm nap) yQ oks op
theorem Yr (h:JC o)(w:aO Γ.M A (eval o env) (λv s'=>∀J:1≤s'.toks,Q v s') E s):aO Γ.M A (eval o env) Q E s:=by
 obtain⟨z,zi,zp,nap,op,nm,yQ,oks,rfl⟩:=h;have e1:eval (.Call (.Attribute (.Constant (.str z) zi zp) nm nap) yQ oks op) env=eval (.Constant (.str z) zi zp) env>>=λov=>(do
   mj nap.atName
   sW (.Constant (.str z) zi zp) nm nap op env ov (yQ.length+oks.length) (yX op (oF yQ env)) (sU op (mU oks env))):=by cases yQ<;>rfl
 rw[e1]at w⊢;exact aR6 w
theorem JC.bare (h:JC o):ab0 o=az:=by obtain⟨z,zi,zp,nap,op,nm,yQ,oks,rfl⟩:=h;show(!(_&&_&&aG))=az;rw[jq];rfl
theorem Ys (hl:(ap.endLine==p.line)=az)(ri:JC o)(ho:v4 Γ n k o mo):
  v4 Γ (n+1) k (.Call (.Attribute o ("replace":aM) ap) [.Constant (.str a) i1 p1,.Constant (.str b) i2 p2] [] p) (.Sx mo a b):=λenv l A φ H ρ s O ao S F=>
 (ho env l A φ H ρ s O ao.pred S F).iZ
  (λQ E w=>ah3 ri.bare hl rfl rfl (by show 2+0<20;decide) (Yr ri w)) λov cM aZ aU u cU cg hv=> .opt λy hy=> .fV λhc=> .ok λQ E P aMs pl=>by
  obtain⟨t⟩:=hv.strOf hy;obtain⟨h1,h2⟩:=j5 hc;refine(by with_reducible exact aq0 PySem.F.slot_str_replace PySem.F.type_str_replace ·) ?_;refine mV (P:=λU=>True) rfl (λh U=>⟨.machine,.inr (.inl rfl),kY rfl⟩) (kO ?_);show aO _ _ (adg ((aG,eval (.Constant (.str a) i1 p1) env)::(aG,eval (.Constant (.str b) i2 p2) env):: [])) _ _ _;refine ik (oY ?_);refine ik (oY ?_);refine lz ⟨trivial, ?_⟩;exact SC.replace (qT aMs) (zq _) (dh (fP _)) (G9 (fH h1)) (fH h2) λt' kk=>P.ok cg ⟨t'⟩
theorem Yt (ih:O8 Γ n m k):v4 Γ (n+1) k (.Call (.Attribute o ("replace":aM) ap) args ks p) (apw (cE m k) o ap args ks p):=
 X7 λc h1=>X7 λq h2=>X7 λz h3=>X7 λd h4=>X7 λa h5=>X7 λb h6=>U9 λh7=>by obtain rfl:=bY.mp (j9 h7);refine aD (an2 h4) (aD (ah5 h5) (aD (ah5 h6) ?_));refine Ys (d7 h7) ⟨⟨z.1,z.2.1,z.2.2,q.2.2,c.2.2.2,q.2.1,c.2.1,c.2.2.1, ?_⟩⟩ (ih o);exact aD (ae3 h1) (aD (ai5 h2) (aD (ah5 h3) rfl))
end
section
variable {Γ:Cx}{n m:Nat}{k:Kd}
structure Given (Γ:Cx)(cells:List (aM×aW))(c P:aW)(q:aM):Prop where
 acc:M6 Γ
 sup:Pn Γ
 gn:W9 Γ
 Dq:Fv Γ
 defs:aw1 Γ
 fns:av1 Γ
 mo:R5 Γ
 made:Ws Γ
 item:ad8 Γ
 jd:Ge Γ
 re:Yd Γ
 lam:ain Γ cells c P q
structure Lv (Γ:Cx)(n:Nat):Prop where
 e:∀m k,O8 Γ n m k
 b:∀m k,AllB Γ n m k
 t:∀m k j,MK Γ n j (cE m k) k
 s:yK Γ n
 f:Il Γ n
noncomputable def ki:j6->Nat
 | .xU _=>2
 | .Cg _=>2
 | .not _=>1
 | .xR _ _=>1
 | .ite _ _ _=>1
 | _=>0
noncomputable def kx:aF->Nat
 | .UnaryOp _ _ _=>1
 | .BoolOp _ _ _=>1
 | .IfExp _ _ _ _=>1
 | _=>0
theorem Z4 (h:ki e≤j):ki (gm b e)≤j:=by
 cases b with
 | true=>exact h
 | false=>exact cL j
theorem RL {α:Type}{o:Option α}{f:α->j6}{j:Nat}(h:∀a,ki (f a)≤j):ki (mb o f)≤j:=by
 cases o with
 | some a=>exact h a
 | none=>exact cL j
theorem Yu {r:aF->j6}:ki (CT r o x ap args ks p)≤0:=by
 delta CT;by_cases h:x=("replace":aM)
 ·rw[bG h]
  exact RL λU=>RL λU=>RL λU=>RL λU=>RL λU=>RL λU=>Z4 (aN 0)
 ·rw[bu h]
  refine Z4 ?_;cases opt (CP args) R4 with
  | some a=>exact Z4 (aN 0)
  | none=>exact Z4 (RL λU=>aN 0)
theorem Yv (e:aF):ki (cE m k e)≤kx e:=by
 cases m with
 | zero=>exact cL _
 | succ m=>
  cases e with
  | Constant c j p=>cases c<;>exact aN 0
  | Name x p=>
   show ki (CQ k x)≤0;delta CQ;by_cases h:x=("__debug__":aM)
   ·rw[bG h];exact aN 0
   ·rw[bu h]
    exact Z4 (RL λd=>by cases d<;>exact aN 0)
  | UnaryOp o a p=>cases o<;>first | exact aN 1 | exact cL 1
  | Tuple l j p=>exact Z4 (aN 0)
  | List l p=>exact Z4 (aN 0)
  | Compare a os bs p=>exact RL λo=>RL λb=>Z4 (aN 0)
  | Call f args ks p=>
   show ki (CV (cE m k) f args ks p)≤0;delta CV;cases aj4 f with
   | some q=>exact Yu
   | none=>exact Z4 (RL λU=>aN 0)
  | Attribute o x p=>exact Z4 (aN 0)
  | Subscript o i p=>
   show ki (Tz (cE m k) o i)≤0;delta Tz;cases jz i<;>exact aN 0
  | ListComp el gs sc p=>
   refine RL λg=>Z4 ?_;cases au6 k sc el g with
   | some d=>exact Z4 (aN 0)
   | none=>exact Z4 (aN 0)
  | Lambda a b sc p=>exact Z4 (aN 0)
  | _=>first | exact aN 1 | exact aN 0
theorem Pu (h:ki e≤1):VH e=az:=by
 cases e with
 | xU l=>exact absurd h (show¬(2:Nat)≤1 by decide)
 | Cg e=>exact absurd h (show¬(2:Nat)≤1 by decide)
 | _=>rfl
theorem aI5 (h:ki e≤0):plainT e=az:=by
 cases e with
 | not a=>exact absurd h (show¬(1:Nat)≤0 by decide)
 | xR o l=>exact absurd h (show¬(1:Nat)≤0 by decide)
 | ite t a b=>exact absurd h (show¬(1:Nat)≤0 by decide)
 | _=>rfl
theorem a9s (e:aF):kx e≤1:=by
 cases e with
 | _=>first | exact aN 1 | exact cL 1
theorem az9 (G:W9 Γ)(ih:O8 Γ n m k)(tg it:aF)(h:TF (cI (cE m k) k it)=aG∨∃elts j p,tg= .Tuple elts j p):Dk Γ n k tg it (cI (cE m k) k it):=by
 unfold cI at h⊢;cases h1:al3 k ("range":aM) it with
 | some c=>
  rw[h1]at h;dsimp only at h⊢;cases h2:M8 c.2.1 with
  | false=>exact aB5 Y4 rfl
  | true=>
   obtain⟨h3,h4⟩:=aa5 h1;exact aD h3 (VV G ih h4 h2)
 | none=>
  rw[h1]at h;dsimp only at h⊢;cases h5:al3 k ("enumerate":aM) it with
  | some c=>
   rw[h5]at h;dsimp only at h⊢;cases h2:M8 c.2.1 with
   | false=>exact aB5 Y4 rfl
   | true=>
    rw[h2]at h;cases h6:CP c.2.1 with
    | none=>exact aB5 Y4 rfl
    | some a=>
     rw[h6]at h;obtain⟨h3,h4⟩:=aa5 h5;rw[(O1 h6)]at h3 h2;rcases h with h | ⟨elts,j,p,rfl⟩
     ·exact Lp h
     ·refine aD h3 ?_
      exact Xw G ih h4 h2
  | none=>exact aB5 (ih it) (Pu (ak (Yv it) (a9s it)))
theorem a9t (h:aj5 (gm b e)=az):aj5 e=az:=by
 cases b with
 | false=>exact rU h
 | true=>exact h
theorem aMu {α:Type}{o:Option α}{f:α->j6}(h:aj5 (mb o f)=az):∃a,aj5 (f a)=az:=by
 cases o with
 | none=>exact rU h
 | some a=>exact⟨a,h⟩
theorem aI6 {r:aF->j6}(h:aj5 (cT r k j t)=az):∃elts i p,t= .Tuple elts i p:=by
 cases j with
 | zero=>exact rU h
 | succ j=>
  cases t with
  | Tuple l i p=>exact⟨l,i,p,rfl⟩
  | Name x p=>
   obtain⟨d,h⟩:=aMu (a9t h);cases d<;>exact rU h
  | Subscript o i p=>
   have h:aj5 (match jz i with
    | some s=>gm s.2.2.1.isNone (.vM (r o) (Fp r s.1) (Fp r s.2.1) (.cst .none))
    | none=> .sub (r o) (r i))=az:=h
   cases hs:jz i with
   | none=>replace h:=hs▸h;exact rU h
   | some s=>replace h:=hs▸h;cases a9t h
  | _=>exact rU h
theorem aA0 (h:isSet it=aG)(env:fu)(x:aB):qb it env x=pure x:=by
 cases it with
 | Set a b c=>exact Lp h
 | _=>rfl
section
variable {cells:List (aM×aW)}{c P:aW}{q:aM}
theorem Given.V (W:Given Γ cells c P q)(L:Lv Γ n):axk Γ n:=
 have A:=ayz W.acc W.Dq W.defs
 aKm W.fns W.mo (a8d W.mo W.made) {fn:=λl A' lk b v H ρ s u a S hu=>ayn A b a S hu,ty:=λl A' lk b v H ρ s u a S hu=>ayo A b a S hu,lam:=λn ih env l A φ i H ρ s u a S F hv=>XX W.lam W.fns.qW ih env l A φ i H ρ s u a S F hv} L.f L.e
theorem Given.pr (W:Given Γ cells c P q):al6 Γ:=a9q W.acc W.Dq W.defs
theorem Px (W:Given Γ cells c P q)(L:Lv Γ n):v4 Γ (n+1) k (.Call (.Attribute o x ap) args ks p) (CT (cE m k) o x ap args ks p):=by
 delta CT;by_cases h:x=("replace":aM)
 ·refine aD (bG h) (aD h ?_);exact Yt (L.e m k)
 ·refine aD (bu h) ?_
  refine U9 λhb=> ?_;refine nu (λhb h3=> ?_) (j5 hb);obtain⟨h1,h2⟩:=j5 hb;cases hs:opt (CP args) R4 with
  | some a=>
   refine U9 λhe=> ?_;refine g8 hs λb e1 e2=> ?_;obtain⟨sp,rfl⟩:=aT5 e2;exact aD (O1 e1) (aD (bY.mp he) (XR W.acc W.Dq W.mo W.jd L.f (L.e m k o) (L.e m k a) h1))
  | none=>
   exact U9 λhn=>X7 λq hq=>Wj (aKl W.fns W.mo (bm W.acc W.re) L.f) (L.e m k) (L.e m k o) h1 h2 (fH h3) hn hq
theorem Py (W:Given Γ cells c P q)(L:Lv Γ n):v4 Γ (n+1) k (.Call f args ks p) (CV (cE m k) f args ks p):=by
 delta CV;cases hf:aj4 f with
 | some q=>refine aD (ai5 hf) ?_;exact Px W L
 | none=>
  refine U9 λhn=>X7 λq hq=>VP (W.V L) (L.e m k) (L.e m k f) hn hq λenv=> ?_;cases f with
  | Attribute o x ap=>exact Sw hf
  | _=>rfl
theorem Yw (W:Given Γ cells c P q)(L:Lv Γ n):v4 Γ (n+1) k (.Subscript o i p) (Tz (cE m k) o i):=by
 delta Tz;cases hs:jz i with
 | none=>exact ahc W.acc (L.e m k o) (L.e m k i) hs
 | some s=>refine aD (aR2 hs) ?_;exact ahd W.acc (L.e m k) (L.e m k o)
theorem Pz (W:Given Γ cells c P q)(L:Lv Γ n){gs:List uw}:v4 Γ (n+1) k (.ListComp e gs sc p) (cE (m+1) k (.ListComp e gs sc p)):=by
 refine X7 λg hg=>U9 λhb=> ?_;obtain⟨hb,h3⟩:=j5 hb;obtain⟨h1,h2⟩:=j5 hb;refine aD (O1 hg) ?_;cases hd:au6 k sc e g with
 | some d=>
  refine U9 λhn=> ?_;refine qm λY Z=> ?_;obtain⟨K,pa,pb,pc,pd,pe,j,pf,np,pq,rfl,hgg⟩:=Oq hd;exact Z (aD hgg (aD (fG h1) (aii W.gn (L.e m k) (aM8 h2) K hn)))
 | none=>
  refine U9 λhi=> ?_;obtain⟨t,it,ifs,ia⟩:=g;obtain rfl:ia=0:=fG h1;refine Xo h2 (az9 W.gn (L.e m k) t it ?_) (L.t m (kdOf sc) m t) (L.b m _) (L.e m _) (aA0 (J4 h3));rcases dJ.mp hi with hi | hi
  ·exact .inl (J4 hi)
  ·exact .inr (aI6 hi)
theorem azd (W:Given Γ cells c P q)(L:Lv Γ n)(m:Nat)(k:Kd):O8 Γ (n+1) m k:=λe=>by
 cases m with
 | zero=>exact Y4
 | succ m=>
  cases e with
  | Constant c j p=>exact snd_const
  | Name x p=>exact Un W.gn
  | BoolOp o vs p=>exact ags W.pr (L.e m k)
  | BinOp a o b p=>exact ago (L.e m k a) (L.e m k b)
  | UnaryOp o a p=>
   cases o with
   | Not=>exact agr W.pr (L.e m k a)
   | USub=>exact agq (L.e m k a)
   | _=>exact Y4
  | IfExp t a b p=>exact agn (L.b m k t) (L.e m k a) (L.e m k b)
  | Tuple l j p=>exact U9 λh=>agl (L.e m k) (fH h)
  | List l p=>exact U9 λh=>agm (L.e m k) (fH h)
  | Compare a os bs p=>exact X7 λo ho=>X7 λb hb=>U9 λh=>by refine aD (O1 ho) (aD (O1 hb) ?_);exact agt (L.e m k a) (L.e m k b) (J4 h)
  | Call f args ks p=>exact Py W L
  | Attribute o x p=>exact U9 λh=>Vf W.acc W.Dq (L.e m k o) h
  | Subscript o i p=>exact Yw W L
  | ListComp e gs sc p=>exact Pz W L
  | Lambda a b sc p=>exact U9 λh=>aio W.lam h
  | _=>exact Y4
theorem aN6 (h:plainT me=az):W6 Γ 1 k e me:=λenv l A φ H ρ s O a S F=>by refine aD (Ih h) ?_;exact .none
theorem aq2:W6 Γ n k e .bad:=match n with
 | 0=>λU U U U U U U U U U U=> .none
 | 1=>aN6 rfl
 | _+2=>λU U U U U U U U U U U=> .none
theorem JD {α:Type}{e:aF}{o:Option α}{f:α->j6}(h:∀a,∀J:o=aa a,W6 Γ n k e (f a)):W6 Γ n k e (mb o f):=by
 cases o with
 | none=>exact aq2
 | some a=>exact h a rfl
theorem ajg (h:∀J:b=az,W6 Γ n k e me):W6 Γ n k e (gm b me):=by
 cases b with
 | true=>exact h rfl
 | false=>exact aq2
theorem aze (W:Given Γ cells c P q)(L:∀j≤n,Lv Γ j)(m:Nat)(k:Kd):AllB Γ (n+1) m k:=λe=>by
 have L':=L n (aN n);cases m with
 | zero=>exact aq2
 | succ m=>
  have val:∀J:(∀env w,isTrue e env w=(do let v←w;mj e.pos;pU [v] (vy v))),∀J:kx e≤0,W6 Γ (n+1) k e (cE (m+1) k e):=λh h0=>aK9 W.pr (L'.e (m+1) k e) h (aI5 (ak (Yv e) h0));cases e with
  | BoolOp o vs p=>exact Us (L'.b m k)
  | UnaryOp o a p=>
   cases o with
   | Not=>exact Ur (L'.b m k a)
   | USub=>exact aK9 W.pr (L'.e (m+1) k _) (λU U=>rfl) rfl
   | _=>exact aq2
  | IfExp t a b p=>exact Up (L'.b m k t) (L'.b m k a) (L'.b m k b)
  | Compare a os bs p=>
   cases n with
   | zero=>exact aN6 (aI5 (Yv _))
   | succ n=>
    exact JD λo ho=>JD λb hb=>ajg λh=>by refine aD (O1 ho) (aD (O1 hb) ?_);exact Uu W.pr ((L n (dC n)).e m k a) ((L n (dC n)).e m k b) (J4 h)
  | _=>exact val (λU U=>rfl) (aN 0)
end
end
section
variable {Γ:Cx}{n m:Nat}{k:Kd}
section
variable {cells:List (aM×aW)}{c P:aW}{q:aM}
theorem Yx (W:Given Γ cells c P q)(L:Lv Γ n):T6 Γ (n+1) k (.AugAssign t o e p) (a7a (cE m k) k o e t):=by
 cases t with
 | Name x np=>exact Y6 λh=>have h:=j5 h;Ng (fG h.2) (fH h.1) (L.e m k e)
 | Subscript a i sp=>exact Y6 λh=>Nh W.mo W.item L.f (L.e m k a) (L.e m k i) (L.e m k e) (lV.mp h)
 | _=>exact ak0
theorem aU1 (W:Given Γ cells c P q):T6 Γ (n+1) k (.Raise x cc p) (TJ k x cc):=
 Y6 λh0=>Y5 λx' h1=>Y5 λq h2=>Y5 λnm h3=>Y5 λe h4=>Y5 λt h5=>Y5 λcls h6=>Y6 λh7=>by obtain⟨f,l,ks,cp⟩:=q;obtain⟨cn,np⟩:=nm;obtain⟨msg,j,ep⟩:=t;obtain rfl:=h1;obtain rfl:=lV.mp h0;obtain rfl:ks= []:=bY.mp (d7 h7);obtain rfl:=ae3 h2;obtain rfl:f= .Name cn np:=S7 h3;obtain rfl:l= [e]:=O1 h4;obtain rfl:e= .Constant (.str msg) j ep:=ah5 h5;exact aS8 W.gn (fG (j9 h7)) h6
theorem as9 (h:am8 e=aG)(t:Option aF)(j:Nat)(env:fu):su e t j env=pure aG:=by
 cases e with
 | ListComp a b c d=>exact Lp h
 | SetComp a b c d=>exact Lp h
 | DictComp a b c d e=>exact Lp h
 | _=>rfl
theorem aN7 (h:CW t=az):(R4 t).isNone=az:=by
 cases t with
 | Starred a b=>exact rU h
 | _=>rfl
theorem JF (ht:CW t=az)(h:tupleOf t=aC∨tupleOf e=aC):qN [t] e env=pure aC:=by
 cases t with
 | Tuple l i p=>
  cases e with
  | Tuple l' i' p'=>exact h.elim nofun nofun
  | _=>rfl
 | List l p=>exact rU ht
 | _=>rfl
inductive Yy (k:Kd)(t e:aF)(env:fu):Prop
 | none (h:qN [t] e env=pure aC):Yy k t e env
 | two (x y:aM) (px py:qg) (i:Nat) (pt:qg) (ht:t= .Tuple [.Name x px,.Name y py] i pt) (he:am8 e=aG) (hx:k x=aa .local) (hy:k y=aa .local) (oA:x≠y) (hcx:x≠("__class__":aM)) (hcy:y≠("__class__":aM)) (h:qN [t] e env=pure (aa [x,y])):Yy k t e env
theorem aj0 (hb:env.blockKind= .function)(hk:env.kindOf=k)(ht:CW t=az)(h:ar3 (aA9 k t e)=az):Yy k t e env:=by
 unfold aA9 at h;cases h1:tupleOf t with
 | none=>exact .none (JF ht (.inl h1))
 | some ts=>
  rw[h1]at h;cases h2:tupleOf e with
  | none=>exact .none (JF ht (.inr h2))
  | some vs=>
   rw[h2]at h;dsimp only at h;obtain⟨ts,i,pt⟩:=ts;obtain⟨vs,j,pe⟩:=vs;obtain rfl:=am4 h1;obtain rfl:=am4 h2;cases h3:aA8 k ts vs with
   | none=>replace h:=h3▸h;exact rU h
   | some r=>
    have hw:=Oz (i:=i) (j:=j) (p:=pt) (q:=pe) hb hk h3;cases r with
    | none=>exact .none hw
    | some l=>
     replace h:=h3▸h;cases hd:duo l with
     | none=>unfold ar3 at h;dsimp only at h;rw[hd]at h;exact rU h
     | some p=>
      unfold ar3 at h;dsimp only at h;rw[hd]at h;obtain⟨x,y⟩:=p;simp only[an2 hd]at hw;cases aT7 h3 hd with
      | two _ _ px py ht hx hy=>exact .two x y px py i pt (aD ht rfl) rfl hx hy (fH (d7 h)) (fH (d7 (j9 h))) (fH (j9 (j9 h))) hw
theorem azf (O:v9 Γ k env):env.blockKind= .function:=by delta Env.blockKind;refine aD O.kind ?_;rfl
theorem Yz (W:Given Γ cells c P q)(L:∀j≤n,Lv Γ j){gs:List uw}{mt:j6}(hmt:mt= .loc y)(hy:k y=aa .local)(O:v9 Γ k env)(a:jW A l (n+1))(hd:CX (cE (m+1) k (.ListComp elt gs sc p))=aG)
  (hsw:su (.ListComp elt gs sc p) (aa (.Name y py)) pos.line env=pure az) (S:SR Γ ρ σ.hp s) (F:FR Γ l ρ s.heap env σ.loc σ.cR):
  I3 Γ k l env lk ρ s (iY Γ.G (n+1) lk (.asg mt (cE (m+1) k (.ListComp elt gs sc p))) σ) (λQ E=>aO Γ.M A (adk (.Assign [.Name y py] (.ListComp elt gs sc p) pos) env) Q E s) (Ar Γ):=by
 subst hmt;have bad:I3 Γ k l env lk ρ s (iY Γ.G (n+1) lk (.asg (.loc y) .bad) σ) (λQ E=>aO Γ.M A (adk (.Assign [.Name y py] (.ListComp elt gs sc p) pos) env) Q E s) (Ar Γ):=by
  cases n with
  | zero=>exact .none
  | succ n=>exact .none
 cases n with
 | zero=>exact .none
 | succ n=>
  have ajh:=L n (dC n);have e1:cE (m+1) k (.ListComp elt gs sc p)=mb (CP gs) λg=>gm ((g.is_async==0)&&ad4 k sc&& !isSet g.iter) (match au6 k sc elt g with
   | some d=>gm (M8 [d.x,d.y]) (.dot (cE m k d.x) (cE m k d.y))
   | none=>gm (awe (cI (cE m k) k g.iter) (cT (cE m (kdOf sc)) (kdOf sc) m g.target)) (.comp (cE m (kdOf sc) elt) (cT (cE m (kdOf sc)) (kdOf sc) m g.target) (cI (cE m k) k g.iter) (g.ifs.map (cE m (kdOf sc))) (Tv sc))):=rfl
  rw[e1]at hd⊢;cases hg:CP gs with
  | none=>exact bad
  | some g=>
   replace hd:=hg▸hd;obtain rfl:=O1 hg;have hd:CX (gm ((g.is_async==0)&&ad4 k sc&& !isSet g.iter) _)=aG:=hd;show I3 Γ k l env lk ρ s (iY Γ.G (n+1+1) lk (.asg (.loc y) (gm ((g.is_async==0)&&ad4 k sc&& !isSet g.iter) _)) σ) _ _;cases hb:((g.is_async==0)&&ad4 k sc&& !isSet g.iter) with
   | false=>exact bad
   | true=>
    replace hd:=hb▸hd;cases hdo:au6 k sc elt g with
    | some d=>
     rw[hdo]at hd;have hd:CX (gm (M8 [d.x,d.y]) (.dot (cE m k d.x) (cE m k d.y)))=aG:=hd;show I3 Γ k l env lk ρ s (iY Γ.G (n+1+1) lk (.asg (.loc y) (gm (M8 [d.x,d.y]) (.dot (cE m k d.x) (cE m k d.y)))) σ) _ _;cases hn:M8 [d.x,d.y] with
     | false=>exact bad
     | true=>rw[hn]at hd;exact Lp hd
    | none=>
     cases hi:awe (cI (cE m k) k g.iter) (cT (cE m (kdOf sc)) (kdOf sc) m g.target) with
     | false=>exact bad
     | true=>
      obtain⟨t,it,ifs,ia⟩:=g;obtain rfl:ia=0:=fG (d7 (d7 hb));refine Oj hy (j9 (d7 hb)) (az9 W.gn (ajh.e m k) t it ?_) (ajh.t m (kdOf sc) m t) (ajh.b m _) (ajh.e m _) (aA0 (J4 (j9 hb))) O a.pred.pred hsw S F;rcases dJ.mp hi with hi | hi
      ·exact .inl (J4 hi)
      ·exact .inr (aI6 hi)
theorem Gj {r:aF->j6}(hy:k y=aa .local)(hc:y≠("__class__":aM)):cT r k (j+1) (.Name y py)= .loc y:=by show gm (decide (y≠("__class__":aM))) (mb (k y) _)=_;refine aD hy (aD (gJ hc) ?_);rfl
theorem aji (t:aF):(∃y p,t= .Name y p)∨∀el gs sc cp ln env,su (.ListComp el gs sc cp) (aa t) ln env=pure aG:=by
 cases t with
 | Name y p=>exact .inl ⟨y,p,rfl⟩
 | _=>exact .inr λU U U U U U=>rfl
theorem YB (h:awf e=az):∃el gs sc cp,e= .ListComp el gs sc cp:=by
 cases e with
 | ListComp el gs sc cp=>exact⟨el,gs,sc,cp,rfl⟩
 | _=>exact rU h
theorem YC (W:Given Γ cells c P q)(L:∀j≤n,Lv Γ j)(h1:ar3 (aA9 k t e)=az)(h2:CW t=az)(h3:(!am8 e || awf e)=az)(h4:CX (cE m k e)=aG):T6 Γ (n+1) k (.Assign [t] e p) (.asg (cT (cE m k) k (m+2) t) (cE m k e)):=λenv l A lk σ ρ s O Wn a S F=>by
 have he:=(L n (aN n)).e m k e;have ht:=(L n (aN n)).t m k (m+2) t;cases aj0 (azf O) (funext Wn.kd) h2 h1 with
 | two x y px py i pt htt hc hx hy oA hcx hcy hw=>
  subst htt;have e1:cT (cE m k) k (m+2) (.Tuple [.Name x px,.Name y py] i pt)= .tup [.loc x,.loc y]:=by show gm _ (.tup [cT (cE m k) k (m+1) (.Name x px),cT (cE m k) k (m+1) (.Name y py)])=_;refine aD (Gj hx hcx) (aD (Gj hy hcy) ?_);rfl
  exact aD e1 (OD hx hy oA he O a.pred (show su e (aa (.Tuple [.Name x px,.Name y py] i pt)) p.line env=pure aG from as9 hc _ _ env) hw S F)
 | none hw=>
  cases hc:am8 e with
  | false=>exact az3 he ht (aN7 h2) O a.pred (as9 hc _ _ env) hw S F
  | true=>
   rw[hc]at h3;obtain⟨el,gs,sc,cp,rfl⟩:=YB ((dJ.mp h3).resolve_left λz=>rU z);rcases aji t with⟨y,py,rfl⟩ | hno
   ·have e1:su (.ListComp el gs sc cp) (aa (.Name y py)) p.line env=pure (env.blockKind== .function&&env.kindOf y==aa .local&&py.line==cp.line&& !(sc.names.any λ(n,k)=>n==y&&(k== .local || k== .cell))):=rfl
    cases hb:(env.blockKind== .function&&env.kindOf y==aa .local&&py.line==cp.line&& !(sc.names.any λ(n,k)=>n==y&&(k== .local || k== .cell))) with
    | false=>exact az3 he ht rfl O a.pred (by rw[hb]at e1;exact e1) hw S F
    | true=>
     rw[hb]at e1;cases m with
     | zero=>
      cases n with
      | zero=>exact .none
      | succ n=>exact .none
     | succ m=>exact Yz W L (Gj ((Wn.kd y).symm.trans (fG (j9 (d7 (d7 hb))))) (fH h2)) ((Wn.kd y).symm.trans (fG (j9 (d7 (d7 hb))))) O a h4 e1 S F
   ·exact az3 he ht (aN7 h2) O a.pred (hno _ _ _ _ _ _) hw S F
theorem azg (W:Given Γ cells c P q)(L:∀j≤n,Lv Γ j):yK Γ (n+1):=λm k st=>by
 have L':=L n (aN n);cases m with
 | zero=>exact ak0
 | succ m=>
  cases st with
  | Expr e p=>exact Y6 λh=>MT (L'.e m k e) (as9 (J4 h) aC _)
  | Return o p=>exact Vw (L'.e m k)
  | Assign ts e p=>
   exact Y5 λt h1=>Y6 λh=>(aD (O1 h1) (YC W L (d7 (d7 (d7 h))) (j9 (d7 (d7 h))) (j9 (d7 h)) (J4 (j9 h))))
  | AugAssign t o e p=>exact Yx W L'
  | Delete ts p=>
   exact Y5 λt h1=>Y5 λq' h2=>Y6 λh3=>(aD (O1 h1) (aD (Ol h2) (VD W.mo W.item L'.f (L'.e m k q'.1) (L'.e m k q'.2.1))))
  | If t a b p=>exact Vx (L'.b m k t) L'.s
  | While t b o p=>
   exact Y6 λh=>(aD (bY.mp h) (VF (L'.b m k t) L'.s))
  | For t it b o p=>
   exact Y6 λh=>(VK (L'.t m k m t) (az9 W.gn (L'.e m k) t it (.inl (J4 (d7 h)))) L'.s (aA0 (J4 (j9 h))))
  | Raise x cc p=>exact aU1 W
  | Try b hs o f p=>
   exact Y6 λh=>Y5 λmhs hm=>(aD (bY.mp (d7 (d7 h))) (aD (bY.mp (j9 (d7 h))) (XN W.gn L'.s hm (J4 (j9 h)))))
  | Pass p=>exact MN
  | Break p=>exact Vv
  | Continue p=>exact MP
  | _=>exact ak0
theorem azh (W:Given Γ cells c P q)(L:Lv Γ n)(m:Nat)(k:Kd):∀j,MK Γ (n+1) j (cE m k) k:=by
 intro zz;cases zz with
 | zero=>
  exact λt=>ac4
 | succ j=>
  exact Vu W.acc W.Dq W.mo W.item L.f (L.e m k) (L.t m k j)
theorem ajj:Lv Γ 0 where
 e:=λU U U U U U U U U U U U U U=> .none
 b:=λU U U U U U U U U U U U U U=> .none
 t:=λU U U U U U U U U U U U U U U U U U=> .none
 s:=λU U U U U U U U U U U U U U U=> .none
 f:=λU U U U U U U U U U U U U U U U U=> .none
theorem sound (W:Given Γ cells c P q)(n:Nat):Lv Γ n:=by
 induction n using Nat.strongRecOn with
 | ind n ih=>
  cases n with
  | zero=>exact ajj
  | succ n=>
   have L:∀j≤n,Lv Γ j:=λj hj=>ih j (sG hj);have L':=L n (aN n);exact{e:=azd W L',b:=aze W L,t:=azh W L',s:=azg W L,f:=aKi W.fns (azc W.acc W.sup W.gn) L'.s}
end
end
section
namespace RE
open Sre
noncomputable def ur:Array Nat:= #[14,10,4,1,1,22,0,31,16,127,0,13,7,22,0,31,16,127,0,1]
noncomputable def nM (c:Nat):Bool:=decide (c≤31) || c==127
noncomputable def mJ:Array Nat:= #[14,14,4,1,1,9,4294966783,0,0,2147483648,0,0,0,0,0,13,11,9,4294966783,0,0,2147483648,0,0,0,0,0,1]
noncomputable def qC (c:Nat):Bool:=decide (c<256)&&(mJ.getD (6+c/32) 0).testBit (c % 32)
theorem aN8 (c:Nat)(i:Nat)(hi:i=5∨i=13)(seen:pA):∃rN,inSet ur c 20 i az seen= .ok (nM c,rN):=by
 have e:∃s1 s2 s3,inSet ur c 20 i az seen=if (decide (0≤c)&&decide (c≤31))=az then .ok (az,s1) else if (c==127)=az then .ok (az,s2) else .ok (!az,s3):=by
  rcases hi with rfl | rfl
  ·exact⟨_,_,_,rfl⟩
  ·exact⟨_,_,_,rfl⟩
 obtain⟨s1,s2,s3,e⟩:=e;refine aD e ?_;delta nM;cases h1:decide (c≤31) with
 | true=>exact⟨s1,rfl⟩
 | false=>
  cases h2:c==127 with
  | true=>exact⟨s2,rfl⟩
  | false=>exact⟨s3,rfl⟩
theorem PB:qj ur 11 nM where
 one:=λc seen=>aN8 c 5 (.inl rfl) seen
 two:=λc seen=>aN8 c 13 (.inr rfl) seen
 lt:=by decide
 lt2:=by decide
 op:=rfl
 op2:=rfl
 first:=λm h=>by delta M.hasFirstSet;refine aD h ?_;rfl
theorem Dr:yO ur 11:=⟨λU=>rfl⟩
theorem azi (i:Nat)(h:i<8):mJ.getD (17+(1+i)) 0=mJ.getD (6+i) 0:=by
 have:∀i:Fin 8,mJ.getD (17+(1+i.1)) 0=mJ.getD (6+i.1) 0:=by decide
 exact this ⟨i,h⟩
theorem JG (c:Nat)(i:Nat)(hi:i=5∨i=17)(seen:pA):∃rN,inSet mJ c 28 i az seen= .ok (qC c,rN):=by
 have e:∃s1 s2,inSet mJ c 28 i az seen=if (decide (c<256)&&(mJ.getD (i+(1+c/32)) 0).testBit (c % 32))=az then .ok (az,s1) else .ok (!az,s2):=by
  rcases hi with rfl | rfl
  ·exact⟨_,_,rfl⟩
  ·exact⟨_,_,rfl⟩
 obtain⟨s1,s2,e⟩:=e;have e2:(decide (c<256)&&(mJ.getD (i+(1+c/32)) 0).testBit (c % 32))=qC c:=by
  delta qC;by_cases hc:c<256
  ·rcases hi with rfl | rfl
   ·exact aD (show 5+(1+c/32)=6+c/32 by exact(gO _ _ _).symm) rfl
   ·exact aD (azi _ (by lia)) rfl
  ·simp [hc]
 refine aD e (aD e2 ?_);cases qC c with
 | true=>exact⟨s1,rfl⟩
 | false=>exact⟨s2,rfl⟩
theorem YD:qj mJ 15 qC where
 one:=λc seen=>JG c 5 (.inl rfl) seen
 two:=λc seen=>JG c 17 (.inr rfl) seen
 lt:=by decide
 lt2:=by decide
 op:=rfl
 op2:=rfl
 first:=λm h=>by delta M.hasFirstSet;refine aD h ?_;rfl
theorem Gk:yO mJ 15:=⟨λU=>rfl⟩
end RE
end
noncomputable def Gm (t:FT):rY:=match defAt t with
 | some d=>d.1
 | none=>⟨[], [],aC, [], [],aC, []⟩
noncomputable def fdOf (t:FT)(q:aM):jC:={name:=q,qualname:=q,params:=Gm t,body:= .stmts [],scope:=⟨.function, [],aG,aG, []⟩,globals:=0,closure:= [],defaults:=t.RB,kwdefaults:=t.HN}
theorem ajk (h1:fd.params=Gm t)(h2:fd.defaults=t.RB)(h3:fd.kwdefaults=t.HN):wZ fd args=wZ (fdOf t fd.qualname) args:=by obtain⟨a,b,c,d,e,f,g,h,i,j,k,l,m,n,o⟩:=fd;obtain rfl:=h1;obtain rfl:=h2;obtain rfl:=h3;rfl
noncomputable def kdF (t:FT)(hs:Int):aof:=match t.HN with
 | .ref d=> [(d,HS hs t.kt)]
 | _=> []
noncomputable def JH:Nat->∀J:(List aB->Prop),Prop
 | 0,P=>P []
 | n+1,P=>∀u,JH n λus=>P (u::us)
theorem arp:∀{n:Nat}{P:List aB->Prop},∀J:JH n P,∀us:List aB,∀J:us.length=n,P us:=by
 intro n
 induction n with
 | zero=>exact λh us e=>eZ e▸h
 | succ n ih=>
  intro P h us e;cases us with
  | nil=>exact nxZ e
  | cons u us=>exact ih (h u) us (qi e)
noncomputable abbrev ajl (t:FT)(np:Nat)(kn:List aM)(lZ:List aB):Option (List (aM×aB)):=asks (given kn lZ t.dv) (t.P.drop np++t.W)
abbrev G8 (t:FT)(np:Nat)(kn:List aM)(us lZ:List aB):Prop:=∀(S:Setting)(hs:Int)(q:aM),peek (t.ob++kdF t hs) S (wZ (fdOf t q) ⟨us,kn.zip lZ⟩)=(ajl t np kn lZ).map (t.P.zip us++·)
abbrev arq (t:FT)(kx:aM)(np:Nat)(kn:List aM)(us lZ:List aB):Prop:=∀q:aM,wZ (fdOf t q) ⟨us,kn.zip lZ⟩=(do let d←PySem.alloc gk;pure (t.P.zip us++((ajl t np kn lZ).getD []++ [(kx,.ref d)])))
def v8 (t:FT)(sh:Nat×List aM):Prop:=JH sh.1 λus=>JH sh.2.length λlZ=>match t.kx with
 | none=>G8 t sh.1 sh.2 us lZ
 | some kx=>arq t kx sh.1 sh.2 us lZ
theorem K9 {α:Type}{p:α->Prop}:∀x∈([]:List α),p x:=λU h=>Cv h
theorem u5 {α:Type}{p:α->Prop}{a:α}{l:List α}(h:p a)(t:∀x∈l,p x):∀x∈a::l,p x:=λx hx=>(aY.mp hx).elim (λe=>e▸h) (t x)
theorem aMy:v8 ft0 (2, []):=λu0 u1=>(λS hs q=>by kernel_rfl:G8 ft0 2 [] [u0,u1] [])
theorem aMz:v8 ft0 (3, []):=λu0 u1 u2=>(λS hs q=>by kernel_rfl:G8 ft0 3 [] [u0,u1,u2] [])
theorem aNa:v8 ft1 (2, []):=λu0 u1=>(λS hs q=>by kernel_rfl:G8 ft1 2 [] [u0,u1] [])
theorem aNb:v8 ft1 (3, []):=λu0 u1 u2=>(λS hs q=>by kernel_rfl:G8 ft1 3 [] [u0,u1,u2] [])
theorem aNc:v8 ft1 (4, []):=λu0 u1 u2 u3=>(λS hs q=>by kernel_rfl:G8 ft1 4 [] [u0,u1,u2,u3] [])
theorem aNd:v8 ft2 (2, []):=λu0 u1=>(λS hs q=>by kernel_rfl:G8 ft2 2 [] [u0,u1] [])
theorem aNe:v8 ft3 (5, []):=λu0 u1 u2 u3 u4=>(λS hs q=>by kernel_rfl:G8 ft3 5 [] [u0,u1,u2,u3,u4] [])
theorem aNf:v8 ft4 (2, []):=λu0 u1=>(λS hs q=>by kernel_rfl:G8 ft4 2 [] [u0,u1] [])
theorem aNg:v8 ft5 (1, []):=λu0=>(λS hs q=>by kernel_rfl:G8 ft5 1 [] [u0] [])
theorem aNh:v8 ft6 (3, []):=λu0 u1 u2=>(λS hs q=>by kernel_rfl:G8 ft6 3 [] [u0,u1,u2] [])
theorem aNi:v8 ft7 (2, []):=λu0 u1=>(λS hs q=>by kernel_rfl:G8 ft7 2 [] [u0,u1] [])
theorem aNj:v8 ft8 (3, []):=λu0 u1 u2=>(λS hs q=>by kernel_rfl:G8 ft8 3 [] [u0,u1,u2] [])
theorem aNk:v8 ft9 (2, []):=λu0 u1=>(λS hs q=>by kernel_rfl:G8 ft9 2 [] [u0,u1] [])
theorem a9u:v8 avf (1, []):=λu0=>(λS hs q=>by kernel_rfl:G8 avf 1 [] [u0] [])
theorem a9v:v8 Fi (1, []):=λu0=>(λS hs q=>by kernel_rfl:G8 Fi 1 [] [u0] [])
theorem a9w:v8 Fj (1, []):=λu0=>(λS hs q=>by kernel_rfl:G8 Fj 1 [] [u0] [])
theorem a9x:v8 Ti (1, []):=λu0=>(λS hs q=>by kernel_rfl:G8 Ti 1 [] [u0] [])
theorem a9y:v8 Ti (2, []):=λu0 u1=>(λS hs q=>by kernel_rfl:G8 Ti 2 [] [u0,u1] [])
theorem a9z:v8 avh (1, []):=λu0=>(λS hs q=>by kernel_rfl:G8 avh 1 [] [u0] [])
theorem a90:v8 avi (1, []):=λu0=>(λS hs q=>by kernel_rfl:G8 avi 1 [] [u0] [])
theorem a91:v8 Tj (1, []):=λu0=>(λS hs q=>by kernel_rfl:G8 Tj 1 [] [u0] [])
theorem a92:v8 Tj (2, []):=λu0 u1=>(λS hs q=>by kernel_rfl:G8 Tj 2 [] [u0,u1] [])
theorem a93:v8 avj (2, ["name"]):=λu0 u1 k0=>(λS hs q=>by kernel_rfl:G8 avj 2 ["name"] [u0,u1] [k0])
theorem a94:v8 avk (3, []):=λu0 u1 u2=>(λS hs q=>by kernel_rfl:G8 avk 3 [] [u0,u1,u2] [])
theorem a95:v8 avl (2, []):=λu0 u1=>(λS hs q=>by kernel_rfl:G8 avl 2 [] [u0,u1] [])
theorem a96:v8 avm (2, []):=λu0 u1=>(λS hs q=>by kernel_rfl:G8 avm 2 [] [u0,u1] [])
theorem a97:v8 avn (2, []):=λu0 u1=>(λS hs q=>by kernel_rfl:G8 avn 2 [] [u0,u1] [])
theorem a98:v8 avo (1, []):=λu0=>(λS hs q=>by kernel_rfl:G8 avo 1 [] [u0] [])
theorem a99:v8 avp (3, []):=λu0 u1 u2=>(λq=>by kernel_rfl:arq avp "_params" 3 [] [u0,u1,u2] [])
theorem aAa:v8 avq (0, []):=(λS hs q=>by kernel_rfl:G8 avq 0 [] [] [])
theorem aAb:v8 avr (3, []):=λu0 u1 u2=>(λS hs q=>by kernel_rfl:G8 avr 3 [] [u0,u1,u2] [])
theorem aAc:v8 avs (2, []):=λu0 u1=>(λS hs q=>by kernel_rfl:G8 avs 2 [] [u0,u1] [])
theorem aAd:v8 avt (4, []):=λu0 u1 u2 u3=>(λS hs q=>by kernel_rfl:G8 avt 4 [] [u0,u1,u2,u3] [])
theorem aAe:v8 avu (2, []):=λu0 u1=>(λS hs q=>by kernel_rfl:G8 avu 2 [] [u0,u1] [])
theorem aAf:v8 avv (4, []):=λu0 u1 u2 u3=>(λS hs q=>by kernel_rfl:G8 avv 4 [] [u0,u1,u2,u3] [])
theorem aAg:v8 avw (3, []):=λu0 u1 u2=>(λS hs q=>by kernel_rfl:G8 avw 3 [] [u0,u1,u2] [])
theorem aAh:v8 avx (3, []):=λu0 u1 u2=>(λS hs q=>by kernel_rfl:G8 avx 3 [] [u0,u1,u2] [])
theorem YF:∀t∈vO,∀sh∈t.shapes,v8 t sh:=
 (u5 (u5 aMy (u5 aMz K9)) (u5 (u5 aNa (u5 aNb (u5 aNc K9))) (u5 (u5 aNd K9) (u5 (u5 aNe K9) (u5 (u5 aNf K9) (u5 (u5 aNg K9) (u5 (u5 aNh K9) (u5 (u5 aNi K9) (u5 (u5 aNj K9) (u5 (u5 aNk K9) (u5 (u5 a9u K9) (u5 (u5 a9v K9) (u5 (u5 a9w K9) (u5 (u5 a9x (u5 a9y K9)) (u5 (u5 a9z K9) (u5 (u5 a90 K9) (u5 (u5 a91 (u5 a92 K9)) (u5 (u5 a93 K9) (u5 (u5 a94 K9) (u5 (u5 a95 K9) (u5 (u5 a96 K9) (u5 (u5 a97 K9) (u5 (u5 a98 K9) (u5 (u5 a99 K9) (u5 (u5 aAa K9) (u5 (u5 aAb K9) (u5 (u5 aAc K9) (u5 (u5 aAd K9) (u5 (u5 aAe K9) (u5 (u5 aAf K9) (u5 (u5 aAg K9) (u5 (u5 aAh K9) K9))))))))))))))))))))))))))))))))
theorem hl:LeftO pw qv loose (λs=>xlAt qv [] s&&recOk [] s) (λs=>Tq s.heap) (λU=>Fo) 5034:=λw=>by refine lO (cQ.mp (a67 w)) λs e h=> ?_;refine lO (cQ.mp (a66 w)) λs' e' g=> ?_;obtain rfl:s'=s:=aq (e'.symm.trans e);exact aD e (congrArg aa (Prod.ext (show openSeen qv loose (importedModules pw.main.body) (λs=>xlAt qv [] s&&recOk [] s) az s'=openGood qv loose from congrArg aun g) h))
noncomputable def T7 (t:FT):List pM:=match defAt t with
 | some d=>d.2.1
 | none=> []
noncomputable def O9 (t:FT):jB:=match defAt t with
 | some d=>d.2.2
 | none=>⟨.function, [],aG,aG, []⟩
structure FnR (h:bL)(t:FT)(o:oH)(fd:jC):Prop where
 obj:h.get? t.a=aa o
 data:o.data= .func fd
 par:fd.params=Gm t
 body:fd.body= .stmts (T7 t)
 Eh:fd.scope=O9 t
 glob:fd.globals=bW
 blt:fd.builtins=dD
 zO:fd.closure=if t.cc then[(("__class__":aM),(146:aW))] else[]
 code:fd.code= .ref t.code
 qual:fd.qualname=t.q
 RB:fd.defaults=t.RB
 HN:fd.kwdefaults=t.HN
theorem ajm (e:apl d=aa fd):d= .func fd:=by
 cases d with
 | func f=>exact congrArg Data.func (aq e)
 | _=>exact p7 e
theorem ajn (e:apm d=aa vs):d= .fields vs:=by
 cases d with
 | fields f=>exact congrArg Data.fields (aq e)
 | _=>exact p7 e
theorem ajo (e:apn d=aa q):d= .dict #[q.1] q.2:=by
 cases d with
 | dict es n=>
  rcases es with⟨_ | ⟨a,_ | ⟨b,r⟩⟩⟩
  ·exact p7 e
  ·exact aq e▸rfl
  ·exact p7 e
 | _=>exact p7 e
theorem JK (e:Tf v=aa q):∃t,v= .str q t:=by
 cases v with
 | str a t=>exact⟨t,congrArg (Value.str · t) (aq e)⟩
 | _=>exact p7 e
theorem azk (e:fnD h t.a=Th t)(s:(defAt t).isSome=az):∃o fd,FnR h t o fd:=by
 obtain⟨d,hd⟩:=bZ.mp s;simp only[(show Th t=aa ⟨d.1,.stmts d.2.1,d.2.2,bW,dD,if t.cc then[(("__class__":aM),(146:aW))] else[],.ref t.code,t.q,t.RB,t.HN⟩ from by delta Th;refine aD hd ?_;rfl)]at e;refine g8 e λo ho e=> ?_;refine g8 e λfd hf e=> ?_
 ·have e:=aq e
  exact⟨_,fd,ho,ajm hf,(congrArg HR.params e).trans (show Gm t=d.1 from by delta Gm;exact aD hd rfl).symm,(congrArg HR.body e).trans (congrArg FuncBody.stmts (show T7 t=d.2.1 from by delta T7;exact aD hd rfl).symm),(congrArg HR.scope e).trans (show O9 t=d.2.2 from by delta O9;exact aD hd rfl).symm,congrArg HR.globals e,congrArg HR.blt e,congrArg HR.closure e,congrArg HR.code e,congrArg HR.qual e,congrArg HR.RB e,congrArg HR.HN e⟩
structure CdR (h:bL)(c:aW)(q f:aM):Prop where
 is:∃o vs t t',h.get? c=aa o∧o.data= .fields vs∧vs[1]?=aa (.str q t)∧vs[2]?=aa (.str f t')
theorem YG (e:Fg h c=aa (q,f)):CdR h c q f:=by refine g8 e λo ho e=> ?_;refine g8 e λvs hd e=> ?_;refine g8 e λx h1 e=> ?_;refine g8 e λq' hx e=> ?_;refine g8 e λy h2 e=> ?_;refine g8 e λf' hy e=> ?_;obtain⟨rfl,rfl⟩:=jQ (aq e);obtain⟨t,rfl⟩:=JK hx;obtain⟨t',rfl⟩:=JK hy;exact⟨o,vs,t,t',ho,ajn hd,h1,h2⟩
theorem azl (e:kdN h (.ref d)=aa (aa (HS 0 kt))):∃hs,h.get? d=aa (HS hs kt):=by refine g8 (aq e) λo ho e=> ?_;refine g8 e λq hq e=> ?_;have e:=aq e;refine⟨q.1.hash,ho.trans (congrArg aa ?_)⟩;have ed:=Data.dict.inj (congrArg Obj.data e);have hd:=ajo hq;rw[show q.1=⟨q.1.hash,.str "key" kt,.none⟩ from nF (show q.1.key= .str "key" kt from congrArg DictEntry.key ((bI (aez ed.1)).1)) (nF (show q.1.val= .none from congrArg DictEntry.val ((bI (aez ed.1)).1)) rfl),show q.2=1 from ed.2]at hd;obtain⟨c,dd,da,sl⟩:=o;refine aD (show da=_ from hd) (aD (show c= .type "dict" from congrArg Obj.cls e) (aD (show dd=aC from congrArg Obj.dict e) (aD (show sl= #[] from congrArg Obj.slots e) ?_)));rfl
noncomputable def toD:aB->V
 | .int i _=> .int i
 | _=> .none
noncomputable def isD:aB->Bool
 | .none=>az
 | .int _ _=>az
 | _=>aG
noncomputable def fnOf (t:FT):Fn:={params:=t.P,dflt:=t.dv.map λp=>(p.1,toD p.2),eY:=t.W,kwarg:=t.kx,cells:=t.cl,body:=TQ 40 (kdOf (O9 t)) (T7 t),shapes:=t.shapes}
noncomputable def nms (t:FT):List aM:=t.P++t.W++t.kx.toList
noncomputable def aNm (t:FT):Bool:=(defAt t).isSome&&(((O9 t).kind== .function)&&(!(O9 t).isCoroutine&&(!(O9 t).isGenerator&&((nms t).all (λx=>kdOf (O9 t) x==aa (if t.cl.contains x then .cell else .local))&&(decide (nms t).Nodup&&(!(nms t).contains "errors" &&(t.dv.all (λp=>isD p.2)&&
 (if t.cc then t.cl.isEmpty&&(O9 t).names.all (λp=>p.2 != .cell&&(p.2 != .free || decide (p.1="__class__"))) else(O9 t).names.all λp=>p.2 != .free))))))))
noncomputable def noE (t:FT):Bool:= !(kdOf (O9 t) "errors"==aa .local)
theorem an6:(N8::vO).all aNm=az:=rfl
theorem ajp:vO.all noE=az:=rfl
noncomputable def YH:List (aW×Fn):=vO.map λt=>(t.a,fnOf t)
noncomputable def gl:Gl where
 glob:=λx=>(afi.lookup x).map V.gl
 fn:=λa=>YH.lookup a
 bN:=λc x=>(yG.find? λq=>q.1==c&&q.2.1==x).map λq=>q.2.2
 fW:=222
 re:=λa=>if a=236 then aa RE.nM else if a=241 then aa RE.qC else aC
 lam:=apy
inductive tu (P:aW)(h:bL):Prop
 | mk (ps:Array aB) (hP:h.get? P=aa (nO ps)) (ht:nA ps.toList):tu P h
noncomputable abbrev PJ:aM:="law.<locals>.<lambda>"
structure TabsOk (h:bL):Prop where
 len:tu 184 h
 str:tu 191 h
 lam:V0 426 PJ h
theorem tu.keeps (k:∀o,∀J:h.get? P=aa o,h'.get? P=aa o):∀J:tu P h,tu P h':=by rintro⟨ps,hP,ht⟩;exact .mk ps (k _ hP) ht
theorem tu.of:∀J:U0 P h h',tu P h':=by rintro⟨_,_,_,hP',ht⟩;exact .mk _ hP' ht
theorem ag8.im (im:∀b o,∀J:h.get? b=aa o,∀J:¬K3 o,h'.get? b=aa o):∀J:ag8 h q cv,ag8 h' q cv
 | .mk c o vs t h1 hc h2 h3=> .mk c o vs t (im _ _ h1 (ab6 hc h2 (by decide))) hc h2 h3
theorem V0.keeps (k:∀o,∀J:h.get? P=aa o,h'.get? P=aa o)(im:∀b o,∀J:h.get? b=aa o,∀J:¬K3 o,h'.get? b=aa o):∀J:V0 P q h,V0 P q h':=by rintro⟨ps,hP,ht,hc⟩;exact .mk ps (k _ hP) ht λpos cv e=>(hc pos cv e).im im
section
structure Hd (h:bL):Prop where
 obs:Tq h=Fo
section
theorem V1 {α β:Type}{f g:α->β}{l:List α}(e:l.map f=l.map g):∀x∈l,f x=g x:=List.map_inj_left.mp e
theorem Hd.fns (e:Hd h):∀t∈N8::vO,fnD (base h) t.a=Th t:=V1 (congrArg ym.fns e.obs)
theorem Hd.cds (e:Hd h):∀t∈N8::vO,Fg (base h) t.code=aa (t.q,pw.main.file):=V1 (congrArg ym.cds e.obs)
theorem Hd.tb (e:Hd h):∀a∈LQ,h.get? a=aa (nO #[]):=V1 (congrArg ym.tb e.obs)
theorem Hd.objs (e:Hd h):∀p∈afj,(base h).get? p.1=aa p.2:=V1 (congrArg ym.objs e.obs)
theorem Hd.dob (e:Hd h)(t:FT)(ht:t∈N8::vO):∀p∈t.ob,(base h).get? p.1=aa p.2:=
 V1 (V1 (show((N8::vO).map λt=>t.ob.map λp=>(base h).get? p.1)=((N8::vO).map λt=>t.ob.map λp=>aa p.2) from congrArg ym.dob e.obs) t ht)
theorem Hd.kd (e:Hd h):∀t∈N8::vO,kdN (base h) t.HN=Tg t:=V1 (congrArg ym.kd e.obs)
theorem Hd.Tp (e:Hd h):∀c∈LR,((lQ h).lookup c).map (·.cls)=aa (.type "type"):=V1 (congrArg ym.Tp e.obs)
theorem Hd.yo (e:Hd h):∀q∈avy,gb (lQ h) (.ref q.1) q.2.1=aa q.2.2:=V1 (congrArg ym.yo e.obs)
theorem Hd.mth (e:Hd h):∀q∈yG,gb (lQ h) (.ref q.1) q.2.1=aa (aa (.ref q.2.2)):=V1 (congrArg ym.mth e.obs)
theorem Hd.Ma (e:Hd h):∀g∈yG.map (λq:aW×aM×aW=>q.2.2)++ [189,196],(fnIn (lQ h) g,uv (lQ h) (.ref g),xH (lQ h) (.ref g) "__get__",ada (lQ h) (.ref g))=(az,aa (.type "function"),aa (aa (.builtin "function.__get__")),aa aG):=V1 (congrArg ym.Ma e.obs)
theorem Hd.attr (e:Hd h)(c:aW)(hc:c∈LR):∀n∈z7,gb (lQ h) (.ref c) n=aa aC:=
 V1 (V1 (show(LR.map λc=>z7.map λn=>gb (lQ h) (.ref c) n)=(LR.map λc=>z7.map λn=>aa aC) from congrArg ym.attr e.obs) c hc)
theorem Hd.gl (e:Hd h):∀p∈afi,Tn (lQ h) p.1=aa p.2:=V1 (congrArg ym.gl e.obs)
structure aAj (h:bL):Prop where
 b0:(RX (lQ h) 222 (.type "list")==aa az)=az
 b1:Hj (lQ h) 138=az
 b2:Hj (lQ h) 222=az
 b3:Hj (lQ h) 370=az
 b4:zX (lQ h) 138=az
 b5:ao6 (lQ h) 222=az
 b6:zX (lQ h) 370=az
 b7:(base h).isNs bW=az
 b8:(base h).noLimitOk=az
 b9:Hk (lQ h) (.ref 138)=az
 b10:Hk (lQ h) (.ref 222)=az
 b11:Hk (lQ h) (.ref 370)=az
theorem Hd.bb (e:Hd h):aAj h:=by have h2:=bI (bI (bI (congrArg ym.bs e.obs)).2).2;have h5:=bI (bI (bI h2.2).2).2;have h8:=bI (bI (bI h5.2).2).2;exact⟨(bI (congrArg ym.bs e.obs)).1,(bI (bI (congrArg ym.bs e.obs)).2).1,h2.1,(bI h2.2).1,(bI (bI h2.2).2).1,h5.1,(bI h5.2).1,(bI (bI h5.2).2).1,h8.1,(bI h8.2).1,(bI (bI h8.2).2).1,(bI (bI (bI h8.2).2).2).1⟩
structure PK (h:bL)(c:aW)(x:aM)(m:List aB):Prop where
 is:∃cd,Hi (lQ h) c=aa cd∧cd.qualname=x∧cd.mro=m∧cd.hasDict=az
theorem aF0 (e:(Hi (lQ h) c).map (λcd=>(cd.qualname,cd.mro,cd.hasDict))=aa (x,m,az)):PK h c x m:=lO (cQ.mp e) λcd h1 h2=>⟨cd,h1,congrArg aun h2,congrArg (λp=>p.2.1) h2,congrArg (λp=>p.2.2) h2⟩
structure aNo (h:bL):Prop where
 c0:PK h 138 "_ValueFormatter" [.ref 138,.type "object"]
 c1:PK h 222 "_Accumulator" [.ref 222,.type "list",.type "object"]
 c2:PK h 370 "Headers" [.ref 370,.type "object"]
theorem Hd.cc (e:Hd h):aNo h:=by have h0:=bI (congrArg ym.cls e.obs);exact⟨aF0 h0.1,aF0 (bI h0.2).1,aF0 (bI (bI h0.2).2).1⟩
end
noncomputable def aq3 (N:aW):List (aM×aW):=xP (N+1) (O9 N8).names []
structure aNp (N:aW)(env:fu):Prop where
 cells:env.cells=aq3 N
 code:env.code= .ref 428
 qual:env.qual++"<lambda>"=PJ
theorem vP (k:∀t∈LQ,h'.get? t=h.get? t)(im:∀b o,∀J:h.get? b=aa o,∀J:¬K3 o,h'.get? b=aa o)(x:TabsOk h):TabsOk h':=
 ⟨x.len.keeps λo e=>(k 184 (.head _)).trans e,x.str.keeps λo e=>(k 191 (.tail _ (.head _))).trans e,x.lam.keeps (λo e=>(k 426 (.tail _ (.tail _ (.head _)))).trans e) im⟩
theorem tu.live:∀J:tu P h,∃o,h.get? P=aa o∧o.cls= .none:=by rintro⟨ps,hP,_⟩;exact⟨_,hP,rfl⟩
theorem V0.live:∀J:V0 P q h,∃o,h.get? P=aa o∧o.cls= .none:=by rintro⟨ps,hP,_,_⟩;exact⟨_,hP,rfl⟩
theorem aNq {p:aW->Prop}(h1:p 184)(h2:p 191)(h3:p 426):∀t∈LQ,p t:=u5 h1 (u5 h2 (u5 h3 K9))
theorem nJ (x:TabsOk h):∀t∈LQ,∃o,h.get? t=aa o∧o.cls= .none:=aNq x.len.live x.str.live x.lam.live
noncomputable def cx (w:uK)(h:bL)(N:aW):Cx where
 prog:=pw
 w:=w
 g0:=base h
 K:=lQ h
 inK:=HW _ _
 G:=gl
 awg:=Gf (aq3 N) PJ
 vd:=aNp N
 Bh:=adu
 tabs:=LQ
 tabsOk:=TabsOk
 vP:=λU U=>vP
 nJ:=λU=>nJ
end
section
section
structure azm (t:FT):Prop where
 isd:(defAt t).isSome=az
 kind:(O9 t).kind= .function
 co:(O9 t).isCoroutine=aG
 gen:(O9 t).isGenerator=aG
 kinds:∀x∈nms t,kdOf (O9 t) x=aa (if t.cl.contains x then .cell else .local)
 nodup:(nms t).Nodup
 nos:(nms t).contains "errors"=aG
 dv:(t.dv.all λp=>isD p.2)=az
 mode:(if t.cc then t.cl.isEmpty&&(O9 t).names.all (λp=>p.2 != .cell&&(p.2 != .free || decide (p.1="__class__"))) else(O9 t).names.all λp=>p.2 != .free)=az
theorem Gn (ht:t∈N8::vO):azm t:=by have h5:=j5 (j5 (j5 (j5 (j5 (bF.mp an6 t ht)).2).2).2).2;exact⟨(j5 (bF.mp an6 t ht)).1,fG (j5 (j5 (bF.mp an6 t ht)).2).1,J4 (j5 (j5 (j5 (bF.mp an6 t ht)).2).2).1,J4 (j5 (j5 (j5 (j5 (bF.mp an6 t ht)).2).2).2).1,λx hx=>fG (bF.mp h5.1 x hx),fH (j5 h5.2).1,J4 (j5 (j5 h5.2).2).1,(j5 (j5 (j5 h5.2).2).2).1,(j5 (j5 (j5 h5.2).2).2).2⟩
theorem ae5 {k k':lD}(h:(k !=k')=az):k≠k':=λq=>by replace h:=q▸h;exact absurd h (by cases k'<;>decide)
theorem ajq (e:Hd h)(c:azm t)(r:FnR (base h) t o fd):IV (cx w h N) (fnOf t) fd:=by
 have h1:=c.mode;have h2:=r.zO;cases q:t.cc with
 | true=>
  rw[q]at h1 h2;have h3:=λx hx=>j5 (bF.mp (j5 h1).2 x hx);refine .cls (bY.mp (j5 h1).1) (λx hx=>ae5 (h3 x (r.Eh▸hx)).1) (λx hx=> ?_) 146 _ _ h2 (e.objs _ (rT 8 rfl)) rfl (show 146∉LQ by decide);rw[r.Eh]at hx;exact(dJ.mp (h3 _ (mem_of_lookup hx)).2).elim (λz=>absurd rfl (ae5 z)) λz=>fH z
 | false=>
  rw[q]at h1 h2;exact .own h2 λx hx=>by rw[r.Eh]at hx;exact absurd rfl (ae5 (bF.mp h1 _ (mem_of_lookup hx)))
theorem YJ (e:Hd h)(c:azm t)(r:FnR (base h) t o fd):FrmOk (cx w h N) (fnOf t) fd where
 kind:=r.Eh▸c.kind
 glob:=r.glob
 blt:=r.blt
 kinds:=λx hx=>r.Eh▸c.kinds x hx
 mode:=ajq e c r
 nodup:=c.nodup
 nos:=λq=>Lp ((dj.mpr q).symm.trans c.nos)
theorem azn:∀{dv:List (aM×aB)},∀J:(dv.all λp=>isD p.2)=az,∀{x:aM}{v:V},∀J:(dv.map λp=>(p.1,toD p.2)).lookup x=aa v,av0 Γ ρ h v dv x:=by
 intro zz
 induction zz with
 | nil=>
  intro _ _ _ e;exact iu e
 | cons hd0 r ih=>
  obtain⟨y,u⟩:=hd0;intro c x v e;by_cases q:x=y
  ·subst q
   refine⟨u,z6, ?_⟩;obtain rfl:=aq (z6.symm.trans e);cases u with
   | none=>exact rfl
   | int i t=>exact⟨t⟩
   | _=>exact rU ((j5 c).1)
  ·obtain⟨u',h1,h2⟩:=ih (j5 c).2 ((w5 q).symm.trans e)
   exact⟨u',(w5 q).trans h1,h2⟩
theorem aAl (e:Hd h)(ht:t∈N8::vO):∃hs,∀p∈kdF t hs,(base h).get? p.1=aa p.2:=by
 have h1:=e.kd t ht;unfold Tg at h1;delta kdF;cases hk:t.HN with
 | ref d=>
  rw[hk]at h1;obtain⟨hs,q⟩:=azl h1;exact⟨hs,λp hp=>(aP.mp hp).symm▸q⟩
 | _=>exact⟨0,λp hp=>Cv hp⟩
theorem JL (e:Hd h)(ht:t∈N8::vO)(r:FnR (base h) t o fd)(hB:v8 t (np,kn))(h1:us.length=np)(h2:lZ.length=kn.length)(hr:asks (given kn lZ t.dv) (t.P.drop np++t.W)=aa r')
  (hk:∀b o,∀J:(base h).get? b=aa o,s.heap.get? b=aa o) (hq:an1 (fnOf t) us r' s Q):aO M A (wZ fd ⟨us,kn.zip lZ⟩) Q E s:=by
 have hb:=arp (arp hB us h1) lZ h2;refine oh (ajk r.par r.RB r.HN) ?_;unfold an1 at hq;rw[show(fnOf t).kwarg=t.kx from rfl]at hq;cases hx:t.kx with
 | none=>
  rw[hx]at hb hq;obtain⟨Ga,hd⟩:=aAl e ht;exact(Looks.of_peek (λa o q=>(cX.mp (mem_of_lookupK q)).elim (λz=>hk _ _ (e.dob t ht _ z)) λz=>hk _ _ (hd _ z)) ((hb ⟨M.prog,M.w.params⟩ Ga fd.qualname).trans (by simp only[ajl,hr];rfl))).here hq
 | some kx=>
  rw[hx]at hb hq;simp only[hb fd.qualname,ajl,hr];have hq:Q (t.P.zip us++r'++ [(kx,.ref s.heap.objs.size)]) {s with heap:=s.heap.push gk}:=hq;rw[aH]at hq;exact aj (wpAny_alloc (au hq))
theorem JM (e:Hd h)(ht:t∈N8::vO)(r:FnR (base h) t o fd):(base h).CodeRec fd.code fd.qualname:=by obtain⟨o,vs,tk,yq,h1,h2,h3,h4⟩:=(YG (e.cds t ht)).is;exact⟨_,o,vs,tk,r.code,h1,h2,r.qual▸h3⟩
theorem JN (e:Hd h)(ht:t∈vO)(r:FnR (base h) t o fd):FnAt (cx w h N) t.a (fnOf t) o fd (T7 t) t.dv:=
 have c:=Gn (.tail _ ht)
 {YJ e c r with
  obj:=r.obj
  data:=r.data
  co:=r.Eh▸c.co
  gen:=r.Eh▸c.gen
  stmts:=r.body
  code:=JM e (.tail _ ht) r
  noe:=λq=>by have h1:=J4 (bF.mp ajp t ht);rw[r.Eh]at q;rw[q]at h1;exact absurd h1 (by decide)
  RB:=λx v q ρ h=>azn c.dv q
  bind:=λnp kn hs us lZ h1 h2 r' hr M A Q E s hk hq=>JL e (.tail _ ht) r (YF t ht (np,kn) hs) h1 h2 hr hk hq
  tr:=⟨40,by refine aD r.Eh ?_;rfl⟩}
theorem Hd.fnR (e:Hd h)(ht:t∈N8::vO):∃o fd,FnR (base h) t o fd:=azk (e.fns t ht) (Gn ht).isd
theorem aF1:∀{l:List (aW×Fn)}{a:aW}{f:Fn},∀J:l.lookup a=aa f,(a,f)∈l:=by
 intro zz
 induction zz with
 | nil=>
  intro _ _ e;exact iu e
 | cons hd0 r ih=>
  obtain⟨b,g⟩:=hd0;intro a f e;rw[yz]at e;cases q:a==b with
  | true=>replace e:=q▸e;cases e;refine aD (fG q) ?_;exact .head _
  | false=>rw[q]at e;exact .tail _ (ih e)
theorem YK (q:gl.fn a=aa f):∃t∈vO,t.a=a∧fnOf t=f:=lO (dq.mp (aF1 q)) λt ht q=>⟨t,ht,congrArg aun q,congrArg Prod.snd q⟩
theorem aAm (e:Hd h):av1 (cx w h N) where
 fns:=λa f q=>by obtain⟨t,ht,rfl,rfl⟩:=YK q;exact exX (e.fnR (.tail _ ht)) λo fd r=>⟨o,fd,_,_,JN e ht r⟩
 qW:= .of_ok e.bb.b8
end
end
section
section
theorem ak3 (q:gl.bN c x=aa g):(c,x,g)∈yG:=by obtain⟨p,hp,rfl⟩:=cQ.mp q;have h1:=j5 (aol (p:=λq:aW×aM×aW=>q.1==c&&q.2.1==x) hp);exact nF (fG h1.1) (nF (fG h1.2) (BW hp))
theorem ajr:(yG.all λq=>LR.contains q.1)=az:=rfl
theorem ac9 {p:aW->Prop}(h1:p 138)(h2:p 222)(h3:p 370):∀c∈LR,p c:=u5 h1 (u5 h2 (u5 h3 K9))
theorem aq4 (q:gl.bN c x=aa g):c∈LR:=dj.mp (bF.mp ajr _ (ak3 q))
theorem ag1 (q:(gl.bN c "__init__").isSome=az):c∈LR:=(bZ.mp q).elim λU q=>aq4 q
theorem PK.dict (r:PK h c x m):Sd (lQ h) c=az:=by obtain⟨cd,h1,_,_,h4⟩:=r.is;delta Sd;exact aD h1 h4
theorem aNr (e:Hd h):M6 (cx w h N) where
 mro:=fG (e.bb.b0)
 seq:=e.bb.b2
 get:=(e.yo _ (.head _):)
 set:=(e.yo _ (.tail _ (.head _)):)
 app:=(e.yo _ (rT 2 rfl):)
 ga:=(e.yo _ (rT 3 rfl):)
 Uw:=(e.yo _ (rT 4 rfl):)
 iter:=(e.yo _ (rT 5 rfl):)
theorem Dq (e:Hd h):Fv (cx w h N) where
 hasDict:=λc q=>ac9 (p:=λc=>Sd (lQ h) c=az) e.cc.c0.dict e.cc.c1.dict e.cc.c2.dict c (ag1 q)
 get:=λc q=>ac9 (p:=λc=>∀J:c≠222,gb (lQ h) (.ref c) "__getattribute__"=aa (aa (.builtin "object.__getattribute__"))) (λU=>(e.yo _ (rT 6 rfl):)) (λz=>absurd rfl z) (λU=>(e.yo _ (rT 7 rfl):)) c (ag1 q)
 set:=λc q=>ac9 (p:=λc=>gb (lQ h) (.ref c) "__setattr__"=aa (aa (.builtin "object.__setattr__"))) ((e.yo _ (rT 10 rfl):)) ((e.yo _ (rT 11 rfl):)) ((e.yo _ (rT 12 rfl):)) c (ag1 q)
 over:=λc q=>ac9 (p:=λc=>∃cd,Hi (lQ h) c=aa cd∧(onlyObject cd.mro=az∨cd.mro= [.ref c,.type "list",.type "object"])) (e.cc.c0.is.elim λcd z=>⟨cd,z.1,.inl (z.2.2.1▸rfl)⟩) (e.cc.c1.is.elim λcd z=>⟨cd,z.1,.inr z.2.2.1⟩) (e.cc.c2.is.elim λcd z=>⟨cd,z.1,.inl (z.2.2.1▸rfl)⟩) c (ag1 q)
 attr:=λc q n hn=>e.attr c (ag1 q) n (dj.mp hn)
theorem ajs:(yG.all λq=>(YH.lookup q.2.2).isSome)=az:=rfl
structure FnK (h:bL)(g:aW):Prop where
 fn:fnIn (lQ h) g=az
 ty:uv (lQ h) (.ref g)=aa (.type "function")
 get:xH (lQ h) (.ref g) "__get__"=aa (aa (.builtin "function.__get__"))
 tk:ada (lQ h) (.ref g)=aa aG
theorem YL (z:(fnIn (lQ h) g,uv (lQ h) (.ref g),xH (lQ h) (.ref g) "__get__",ada (lQ h) (.ref g))=(az,aa (.type "function"),aa (aa (.builtin "function.__get__")),aa aG)):FnK h g:=
 have b:=jQ (jQ z).2
 ⟨(jQ z).1,b.1,(jQ b.2).1,(jQ b.2).2⟩
theorem fnK (e:Hd h)(q:gl.bN c x=aa g):FnK h g:=YL (e.Ma g (uZ _ (dq.mpr ⟨_,ak3 q,rfl⟩)))
theorem YM:(jO "list.__getattribute__"=="object.__getattribute__")=az:=by decide+kernel
theorem aN9:(jO "object.__getattribute__"=="object.__getattribute__")=az:=by decide+kernel
theorem azo (e:Hd h):R5 (cx w h N) where
 bN:=λc x g q=>⟨e.mth _ (ak3 q),(fnK e q).ty,bF.mp ajs _ (ak3 q)⟩
 get:=λc x g q=>ac9 (p:=λc=>(∃ga,gb (lQ h) (.ref c) "__getattribute__"=aa (aa (.builtin ga))∧jO ga="object.__getattribute__")∧gb (lQ h) (.ref c) "__getattr__"=aa aC)
  ⟨⟨_,(e.yo _ (rT 6 rfl):),fG aN9⟩,(e.yo _ (rT 8 rfl):)⟩ ⟨⟨_,(e.yo _ (rT 3 rfl):),fG YM⟩,(e.yo _ (rT 4 rfl):)⟩ ⟨⟨_,(e.yo _ (rT 7 rfl):),fG aN9⟩,(e.yo _ (rT 9 rfl):)⟩ c (aq4 q)
theorem azp (e:Hd h):ad8 (cx w h N):=⟨λc q=>ac9 (p:=λc=>Hj (lQ h) c=az) (e.bb.b1) (e.bb.b2) (e.bb.b3) c (ag1 q)⟩
theorem aAo (e:Hd h):Ws (cx w h N) where
 acc:=e.bb.b5
 makes:=λc g q=>ac9 (p:=λc=>∀J:c≠222,zX (lQ h) c=az) (λU=>e.bb.b4) (λz=>absurd rfl z) (λU=>e.bb.b6) c (aq4 q)
 keep:=λc g q=>keeps_K (ac9 (p:=λc=>Hk (lQ h) (.ref c)=az) (e.bb.b9) (e.bb.b10) (e.bb.b11) c (aq4 q)) _ (HW _ _)
theorem ajt:(yG.all λq=> !copiedNames.contains q.2.1)=az:=rfl
theorem azq (e:Hd h):Ge (cx w h N) where
 fn:=λc x g q=>⟨(fnK e q).fn,(fnK e q).get,(fnK e q).tk⟩
 name:=λx g q=>J4 (bF.mp ajt _ (ak3 q))
theorem aNs (e:Hd h):Yd (cx w h N) where
 sys:=bZ.mp (congrArg ym.one e.obs)
 re:=λa bad q=>by
  have q:(if a=236 then aa RE.nM else if a=241 then aa RE.qC else aC)=aa bad:=q;by_cases h1:a=236
  ·subst h1
   obtain rfl:=aq ((bG rfl).symm.trans q);exact⟨RE.ur,11,⟨_,_,_,_,_,_,e.objs _ (.tail _ (.head _)),rfl,rfl,rfl,rfl,rfl,rfl,e.objs _ (.head _),rfl,by kernel_rfl⟩,RE.PB,RE.Dr⟩
  ·rw[bu h1]at q
   by_cases h2:a=241
   ·subst h2
    obtain rfl:=aq ((bG rfl).symm.trans q);exact⟨RE.mJ,15,⟨_,_,_,_,_,_,e.objs _ (rT 3 rfl),rfl,rfl,rfl,rfl,rfl,rfl,e.objs _ (.tail _ (.tail _ (.head _))),rfl,by kernel_rfl⟩,RE.YD,RE.Gk⟩
   ·replace q:=(bu h2)▸q;exact iu q
theorem YQ (q:Tn (lQ h) x=aa u):Ci (cx w h N) x u:=by
 delta Tn at q;cases h1:acz (lQ h) bW x with
 | none=>replace q:=h1▸q;exact iu q
 | some o=>
  replace q:=h1▸q;cases o with
  | some u'=>cases q;exact .inl h1
  | none=>
   cases h2:acz (lQ h) dD x with
   | none=>replace q:=h2▸q;exact iu q
   | some o=>
    replace q:=h2▸q;cases o with
    | none=>exact iu q
    | some u'=>cases q;exact .inr ⟨h1,h2⟩
theorem aNt (e:Hd h):W9 (cx w h N) where
 glob:=λx v q=>by obtain⟨u,h1,rfl⟩:=cQ.mp q;exact⟨u,YQ (e.gl _ (mem_of_lookup h1)),λU U=>rfl⟩
 xU:=YQ (e.gl _ (.head _):)
 Cg:=YQ (e.gl _ (.tail _ (.head _)):)
 zip:=YQ (e.gl _ (rT 2 rfl):)
 str:=YQ (e.gl _ (rT 3 rfl):)
 sup:=YQ (e.gl _ (rT 4 rfl):)
 ve:=YQ (e.gl _ (rT 5 rfl):)
 te:=YQ (e.gl _ (rT 6 rfl):)
noncomputable def art (t:FT):Bool:= !(kdOf (O9 t) "__class__"==aa .free) || (t.cc&&((Gm t).posonlyargs++(Gm t).args).head?.map (·.arg)==aa "self")
theorem aju:vO.all art=az:=rfl
theorem YS:(pw.main.scope.names.lookup ("super":aM)).isSome=aG:=rfl
theorem aNu (e:Hd h):Pn (cx w h N) where
 opq:=congrArg (λo:ym=>o.ns.getD 0 aC) e.obs
 cls:=e.cc.c1.is.imp λcd z=>⟨z.1,z.2.1,z.2.2.1⟩
 typ:=by exact lO (cQ.mp (e.Tp 222 (.tail _ (.head _)))) λo h1 h2=>⟨o,h1,h2⟩
 at_:=λa f q o fd ho hd hk=>by
  refine qm λY Z=> ?_;obtain⟨t,ht,rfl,rfl⟩:=YK q;refine Z ?_;refine exX (e.fnR (.tail _ ht)) λo' fd' r=> ?_;obtain rfl:=aq (r.obj.symm.trans ho);obtain rfl:fd'=fd:=by have z:=r.data.symm.trans hd;cases z;rfl
  have h1:=bF.mp aju t ht;unfold art at h1;rw[r.Eh]at hk;rw[hk]at h1;have h1:=j5 h1;refine lO (cQ.mp (fG h1.2)) λar h2 h3=> ?_;refine qm λY Z=> ?_;obtain⟨oc,vs,tk,tf,g1,g2,g3,g4⟩:=(YG (e.cds t (.tail _ ht))).is;exact Z ⟨ar,t.code,oc,vs,tf,146,_,r.par▸h2,h3,r.code,g1,g2,g4,r.zO.trans (by refine aD h1.1 ?_;rfl),e.objs _ (rT 8 rfl),rfl⟩
 top:=YS
end
end
section
noncomputable def RM:List pM->jB
 | [.Return (aa (.Call _ (.GeneratorExp _ _ sc _::_) _ _)) _]=>sc
 | _=>⟨.function, [],aG,aG, []⟩
theorem aAp:Yk (RM (T7 Fi)) (T7 Fi):= .mk _ _ _ _ _ _ _ _ _ _ _ _ _ _ _ _ _ _
theorem aAq:Yl (RM (T7 Fj)) (T7 Fj):= .mk _ _ _ _ _ _ _ _ _ _ _ _ _ _ _ _ _ rfl rfl
noncomputable abbrev YT (sc:jB):Bool:= !sc.isCoroutine&&(sc.kind== .function&&(sc.names.all (λy=>y.2 != .cell)&&(kdOf sc ".0"==aa .local&&(kdOf sc "fws"==aa .local&&kdOf sc "part"==aa .local))))
theorem ajv:YT (RM (T7 Fi))=az:=by kernel_rfl
theorem ajw:YT (RM (T7 Fj))=az:=by kernel_rfl
theorem ajx (cs:List (aM×aW)):H7 cs (RM (T7 Fi)).names []= []:=by kernel_rfl
theorem ajy (cs:List (aM×aW)):H7 cs (RM (T7 Fj)).names []= []:=by kernel_rfl
theorem ajz:((RM (T7 Fi)).names.all λy=>y.2 != .free)=az:=by kernel_rfl
theorem aka:((RM (T7 Fj)).names.all λy=>y.2 != .free)=az:=by kernel_rfl
theorem aO0 (h:YT sc=az)(hn:(sc.names.all λy=>y.2 != .free)=az)(hf:∀cs,H7 cs sc.names []= []):Ju sc:=
 have h3:=j5 (j5 (j5 h).2).2
 ⟨J4 (j5 h).1,fG (j5 (j5 h).2).1,λenv=>(ap8 λx hx=>absurd rfl (ae5 (bF.mp hn _ hx))).trans (by rw[hf]),λy hy=>ae5 (bF.mp h3.1 y hy),fG (j5 h3.2).1,fG (j5 (j5 h3.2).2).1,fG (j5 (j5 h3.2).2).2⟩
section
variable {h:bL}
theorem aF2 (e:Hd h):∃mg bm ob,(base h).Ns bW mg∧mg "__builtins__"=aa (.ref bm)∧bm≠dD∧bm≠bW∧(base h).get? bm=aa ob∧ob.cls= .type "module" ∧ob.dict=aa dD∧ob.data= .plain:=
 ⟨_,4,_,.of_isNs e.bb.b7,congrArg ym.bm e.obs,by decide,by decide,e.objs _ (.tail _ (.tail _ (.tail _ (.tail _ (.head _))))),rfl,rfl,rfl⟩
theorem aA1 (ha:a∈LQ):(base h).get? a=aC:=by delta base;exact pY _ (uZ _ ha)
theorem azr (hP:h.get? P=aa (nO ps))(hc:o.cls= .type "code")(e:h.get? b=aa o):b≠P:=λq=>by simp only[q,hP]at e;cases e;cases hc
theorem V0.aru (hQ:h.get? Q=aa (nO ps))(oA:P≠Q)(k:∀b o,∀J:b≠Q,∀J:h.get? b=aa o,h'.get? b=aa o):∀J:V0 P q h,V0 P q h':=by rintro⟨ps,hP,ht,hc⟩;exact .mk ps (k _ _ oA hP) ht λpos cv e=>(hc pos cv e).keeps λb o hc e=>k b o (azr hQ hc e) e
theorem U0.at:∀J:U0 P h h',∃ps,h.get? P=aa (nO ps):=by rintro⟨ps,_,hP,_,_⟩;exact⟨ps,hP⟩
theorem akb (x:TabsOk h)(k:∀b o,∀J:b≠184,∀J:h.get? b=aa o,h'.get? b=aa o)(u:U0 184 h h'):TabsOk h':=
 u.at.elim λps hP=>⟨.of u,x.str.keeps λo=>k 191 o (by decide),x.lam.aru hP (by decide) k⟩
theorem akc (x:TabsOk h)(k:∀b o,∀J:b≠191,∀J:h.get? b=aa o,h'.get? b=aa o)(u:U0 191 h h'):TabsOk h':=
 u.at.elim λps hP=>⟨x.len.keeps λo=>k 184 o (by decide),.of u,x.lam.aru hP (by decide) k⟩
theorem tu.at:∀J:tu P h,∃ps,h.get? P=aa (nO ps)∧nA ps.toList:=by rintro⟨ps,hP,ht⟩;exact⟨ps,hP,ht⟩
theorem azs (e:Hd h):ak2 (cx w h N) 188 184 where
 tab:= .head _
 gP:=aA1 (.head _)
 hd:=⟨_,_,_,_,_,_,_,_,_,e.objs _ (.tail _ (.tail _ (.tail _ (.tail _ (.tail _ (.head _)))))),rfl,rfl,rfl,rfl,rfl,rfl,rfl,rfl,by decide⟩
 at_:=λh x=>x.len.at
 put:=λh h'=>akb
 bare:=λg=>Iff.rfl
 qW:= .of_ok e.bb.b8
 main:=aF2 e
theorem strTab (e:Hd h):ak2 (cx w h N) 195 191 where
 tab:= .tail _ (.head _)
 gP:=aA1 (.tail _ (.head _))
 hd:=⟨_,_,_,_,_,_,_,_,_,e.objs _ (.tail _ (.tail _ (.tail _ (.tail _ (.tail _ (.tail _ (.head _))))))),rfl,rfl,rfl,rfl,rfl,rfl,rfl,rfl,by decide⟩
 at_:=λh x=>x.str.at
 put:=λh h'=>akc
 bare:=λg=>Iff.rfl
 qW:= .of_ok e.bb.b8
 main:=aF2 e
theorem m11:Fi∈vO:= .tail _ (.tail _ (.tail _ (.tail _ (.tail _ (.tail _ (.tail _ (.tail _ (.tail _ (.tail _ (.tail _ (.head _)))))))))))
theorem m12:Fj∈vO:= .tail _ (.tail _ (.tail _ (.tail _ (.tail _ (.tail _ (.tail _ (.tail _ (.tail _ (.tail _ (.tail _ (.tail _ (.head _))))))))))))
theorem YW (e:Hd h)(ht:t∈vO)(hp:t.P= [("self":aM)])(hw:t.W= [])(hk:t.kx=aC)(hc:t.cl= [])(hs:(1, [])∈t.shapes):aB8 (cx w h N) t.a t.code (T7 t) (kdOf (O9 t)):=exX (e.fnR (.tail _ ht)) λo fd r=>⟨fnOf t,o,fd,t.dv,JN e ht r,hp,hw,hk,hc,hs,r.code,aD r.Eh rfl⟩
theorem kd_len:(kdOf (O9 Fi) "self"==aa .local&&kdOf (O9 Fi) "sum"==aa .globalImplicit&&kdOf (RM (T7 Fi)) "len"==aa .globalImplicit)=az:=by kernel_rfl
theorem YX:(kdOf (O9 Fj) "self"==aa .local&&kdOf (O9 Fj) "EMPTYSTRING"==aa .globalImplicit&&kdOf (RM (T7 Fj)) "EMPTYSTRING"==aa .globalImplicit)=az:=by kernel_rfl
theorem azt (e:Hd h):aB9 (cx w h N) 189 188 184 (T7 Fi) (kdOf (O9 Fi)) (RM (T7 Fi)):=
 have h2:=j5 (j5 kd_len).1
 ⟨azs e,YW e m11 rfl rfl rfl rfl (.head _),aO0 ajv ajz ajx,fG (j5 kd_len).2,fG h2.1,fG h2.2,YQ (e.gl _ (.tail _ (.tail _ (.tail _ (.tail _ (.tail _ (.tail _ (.tail _ (.head _)))))))):),YQ (e.gl _ (.tail _ (.tail _ (.tail _ (.tail _ (.tail _ (.tail _ (.tail _ (.tail _ (.head _))))))))):),aAp⟩
theorem azu (e:Hd h):∃t,Ci (cx w h N) "EMPTYSTRING" (.str "" t):=by
 refine lO (iT.mp (congrArg ym.em e.obs)) λu h1 h2=> ?_;cases u with
 | str s t=>obtain rfl:s="":=aq h2;exact⟨t,YQ h1⟩
 | _=>exact iu h2
theorem azv (e:Hd h):Gg (cx w h N) 196 195 191 (T7 Fj) (kdOf (O9 Fj)) (RM (T7 Fj)):=
 have h2:=j5 (j5 YX).1
 ⟨strTab e,YW e m12 rfl rfl rfl rfl (.head _),aO0 ajw aka ajy,fG (j5 YX).2,fG h2.1,fG h2.2,azu e,aAq⟩
theorem tyK (e:Hd h)(hg:g∈([189,196]:List aW)):uv (lQ h) (.ref g)=aa (.type "function"):=(YL (e.Ma g (fQ _ hg))).ty
theorem akd (e:Hd h):aw1 (cx w h N) where
 bool:=(e.yo _ (.tail _ (.tail _ (.tail _ (.tail _ (.tail _ (.tail _ (.tail _ (.tail _ (.tail _ (.tail _ (.tail _ (.tail _ (.tail _ (.head _)))))))))))))):)
 len:=⟨189,188,184,_,_,_,(e.yo _ (.tail _ (.tail _ (.tail _ (.tail _ (.tail _ (.tail _ (.tail _ (.tail _ (.tail _ (.tail _ (.tail _ (.tail _ (.tail _ (.tail _ (.head _))))))))))))))):),tyK e (.head _),azt e⟩
 str:=⟨196,195,191,_,_,_,(e.yo _ (.tail _ (.tail _ (.tail _ (.tail _ (.tail _ (.tail _ (.tail _ (.tail _ (.tail _ (.tail _ (.tail _ (.tail _ (.tail _ (.tail _ (.tail _ (.head _)))))))))))))))):),tyK e (.tail _ (.head _)),azv e⟩
theorem aNx (e:Hd h):ain (cx w h N) (aq3 N) 428 426 PJ where
 env:=λenv x=>⟨x.cells,x.code,x.qual⟩
 hd:=⟨_,_,_,_,_,_,_,_,_,e.objs _ (.tail _ (.tail _ (.tail _ (.tail _ (.tail _ (.tail _ (.tail _ (.head _)))))))),rfl,rfl,rfl,rfl,rfl,rfl,rfl,rfl,by decide⟩
 tab:= .tail _ (.tail _ (.head _))
 gP:=aA1 (.tail _ (.tail _ (.head _)))
 tabs:=λh x=>x.lam
 put:=λh h' x k u T=>⟨x.len.keeps λo=>k 184 o (by decide),x.str.keeps λo=>k 191 o (by decide),T⟩
 lam:=rfl
 a9b:=rfl
 main:=aF2 e
theorem ake (e:Hd h):Given (cx w h N) (aq3 N) 428 426 PJ where
 acc:=aNr e
 sup:=aNu e
 gn:=aNt e
 Dq:=Dq e
 defs:=akd e
 fns:=aAm e
 mo:=azo e
 made:=aAo e
 item:=azp e
 jd:=azq e
 re:=aNs e
 lam:=aNx e
end
end
section
inductive RN (G:Gl)(n:Nat)(lk:List Nat):List n6->St->Prop
 | ret {ms:n6} {r:List n6} {σ jY:St} (e:iY G n lk ms σ=aa (.ok (.ret (.bool az)),jY)):RN G n lk (ms::r) σ
 | step {ms:n6} {r:List n6} {σ jY:St} (e:iY G n lk ms σ=aa (.ok .next,jY)) (y:RN G n lk r jY):RN G n lk (ms::r) σ
 | gc {r:List n6} {loc cR:j8} {H T:Hp} (f:aM->Bool) (hl:Rx H.length (loc.filter λp=>f p.1)=az) (hc:Rx H.length cR=az) (hH:M5 H.length H=az) (y:RN G n lk r ⟨loc.filter λp=>f p.1,cR,H⟩):RN G n lk r ⟨loc,cR,H++T⟩
structure Bu (Γ:Cx)(lk:List Nat)(aU:aV)(ρ:eO)(s:aV):Prop where
 keep:∀b o,∀J:aU.heap.get? b=aa o,∀J:b∉Γ.tabs,s.heap.get? b=aa o
 live:O7 aU.heap s.heap
 os:s.os=aU.os
 nw:∀(i:Nat) r,∀J:ρ[i]?=aa r,∀J:i∉lk,∀b∈r,aU.heap.get? b=aC
section
theorem Bu.ext (O:Bu Γ lk aU ρ s)(x:Ext Γ (m7 l) (wK Γ k lk ρ env) ρ s fj s')(fs:∀b∈m7 l,aU.heap.get? b=aC)(own:∀c,∀J:(c=env.locals∨∃x,k x=aa .cell∧env.cells.lookup x=aa c),aU.heap.get? c=aC):Bu Γ lk aU fj s' where
 keep:=λb o e ht=>x.vf.keep b o (O.keep b o e ht) (λq=>by
  rcases q with(q | ⟨i,r,h1,h2,h3⟩) | q
  ·exact ht q
  ·exact iu ((O.nw i r h1 h3 b h2).symm.trans e)
  ·exact iu ((own b q).symm.trans e)) λq=>iu ((fs b q).symm.trans e)
 live:=O.live.trans x.live
 os:=x.os.trans O.os
 nw:=λi r e hi b hb=>by
  obtain⟨τ,rfl,hn⟩:=x.grow.more;by_cases q:i<ρ.length
  ·rw[ig q]at e
   exact O.nw i r e hi b hb
  ·rw[gM (eU q)]at e
   exact O.live.none (hn b (cG.mpr ⟨r,aR e,hb⟩))
theorem Bu.gc (O:Bu Γ lk aU ρ s):Bu Γ lk aU (ρ.take m) s where
 keep:=O.keep
 live:=O.live
 os:=O.os
 nw:=λi r e=>O.nw i r (by rw[←e,sE];exact bA (aL.mp e).1 (List.length_take_le _ _))
theorem akf (Sp:IW Γ n a fd body)(ih:yK Γ n)(O:v9 Γ (kdOf fd.scope) env)(W:Own (kdOf fd.scope) env l)(T:AtF a fd env)(ao:jW A l n)
  (fs:∀b∈m7 l,aU.heap.get? b=aC) (own:We fd aU.heap env) (fin:∀H fj s',∀J:SR Γ fj H s',∀J:Bu Γ lk aU fj s',Q (.ret (.bool az)) s'):
  ∀{ms:List n6}{σ:St},∀J:RN Γ.G n lk ms σ,∀{sts:List pM}{ρ:eO}{s:aV},∀J:TQ kf (kdOf fd.scope) sts=ms,∀J:SR Γ ρ σ.hp s,∀J:FR Γ l ρ s.heap env σ.loc σ.cR,∀J:Bu Γ lk aU ρ s,_root_.PySem.wpAt Γ.M A (.func body env) (execs sts env) Q E s:=λ{ms σ} y=>by
 have one:∀{ms:n6}{r:List n6}{σ:St}{sts:List pM}{ρ:eO}{s:aV},∀J:TQ kf (kdOf fd.scope) sts=ms::r,∀J:SR Γ ρ σ.hp s,∀J:FR Γ l ρ s.heap env σ.loc σ.cR,∃st aAr,sts=st::aAr∧TQ kf (kdOf fd.scope) aAr=r∧
   I3 Γ (kdOf fd.scope) l env lk ρ s (iY Γ.G n lk ms σ) (λQ E=>_root_.PySem.wpAt Γ.M A (.func body env) (adk st env) Q E s) (Ar Γ):=λ{ms r σ sts ρ s} e S F=>by
  cases sts with
  | nil=>exact nxC e
  | cons st sts=>
   refine lO (aH3 (kf:=kf) (k:=kdOf fd.scope) (st:=st) (sts:=sts)) λms' e' h=> ?_;rw[e']at e;obtain⟨rfl,rfl⟩:=bI e;refine⟨st,sts,rfl,rfl, ?_⟩;rcases h with rfl | h
   ·exact(ih kf _ st env l A lk σ ρ s O W ao S F).of λQ E w=>qt w
   ·exact Sp st _ h env l A lk σ ρ s O W T ao S F
 induction y with
 | ret e=>
  intro sts ρ s hb S F D;obtain⟨st,sts,rfl,hb,h⟩:=one hb S F;refine zc (h _ _ e _ _ λfj s' u x S' F' r=> ?_);obtain⟨w,hw⟩:=r;obtain rfl:w= .bool az:=hw;exact fin _ _ _ S' (D.ext x fs own)
 | step e y ihy=>
  intro sts ρ s hb S F D;obtain⟨st,sts,rfl,hb,h⟩:=one hb S F;refine zc (h _ _ e _ _ λfj s' u x S' F' r=> ?_);obtain rfl:u= .next:=r;exact ihy hb S' F' (D.ext x fs own)
 | gc f hl hc hH y ihy=>exact λhb S F D=>ihy hb (S.gc hH) (F.gc f hl hc) D.gc
end
end
section
noncomputable def aj1:List n6:=TQ 40 (kdOf (O9 N8)) (T7 N8)
noncomputable def aw2 (ns:List Int):St:=⟨[], [("script",.ref 0)], [.list (ns.map .int)]⟩
theorem aAs:v8 N8 (1, []):=λu0=>(λS hs q=>by kernel_rfl:G8 N8 1 [] [u0] [])
theorem YZ:∀{l:List oH}{n i:Nat}{o:oH},∀J:noL n l=az,∀J:l[i]?=aa o,∀J:isL o.cls=az,avz.contains (n+i)=az
 | [],_,_,_,_,e,_=>iu e
 | a::l,n,0,o,h,e,c=>by obtain rfl:=aq e;exact(dJ.mp (j5 h).1).elim (λz=>rU ((J4 z).symm.trans c)) id
 | a::l,n,i+1,o,h,e,c=>by have:=YZ (j5 h).2 e c;rw[gO,iM 1 i]at this;exact this
theorem Za {h:bL}(e:h.get? a=aa o):h.objs.toList[a]?=aa o:=by refine aD (cu) ?_;exact(Heap.get?_some_iff.mp e).1
section
variable {aU:aV}{vs:List aB}
theorem Zb (e:Hd h)(kp:∀b o,∀J:h.get? b=aa o,aU.heap.get? b=aa o)(ha:aU.heap.get? zP=aa {cls:= .type "list",data:= .seq vs.toArray}):(base h).get? zP=aC:=by
 cases q:(base h).get? zP with
 | none=>rfl
 | some o=>
  unfold base at q;obtain rfl:=aq ((kp _ _ (iV _ q)).symm.trans ha);have:=YZ (congrArg ym.nl e.obs) (Za (iV _ q)) rfl;rw[kW]at this;exact iu ((pY _ (fQ LQ (dj.mp this))).symm.trans q)
theorem aF3 (e:(base h).get? a=aa o):h.get? a=aa o:=by unfold base at e;exact iV _ e
theorem azw:(kdOf (O9 N8) "__class__"==aa .free)=aG:=rfl
noncomputable abbrev scr:j8:= [("script",.ref 0)]
theorem akg:(scr.filter λp=> !(fnOf N8).cells.contains p.1)= []:=rfl
theorem akh:(scr.filter λp=>(fnOf N8).cells.contains p.1)=scr:=rfl
inductive aq5:List Int->List aB->Prop
 | nil:aq5 [] []
 | cons (i:Int) (t:Tok) (l:List Int) (us:List aB) (h:aq5 l us):aq5 (i::l) (.int i t::us)
theorem aq5.vrs {Γ:Cx}{ρ:eO}{h:bL}:∀{l:List Int}{us:List aB},∀J:aq5 l us,gA Γ ρ h (l.map .int) us:=by
 intro l us zz;cases zz with
 | nil=>
  exact rfl
 | cons i t l us h=>
  exact .mk _ us ⟨t⟩ h.vrs
theorem aki:jW callerA [] 101:=⟨rfl,rfl,by decide,by decide⟩
theorem Zc (e:Hd h)(kp:∀b o,∀J:h.get? b=aa o,aU.heap.get? b=aa o)(hg:adu aU.gens)(ha:aU.heap.get? zP=aa {cls:= .type "list",data:= .seq vs.toArray})(hv:aq5 ns vs)(hz:ns.length≤16777216)
  (y:RN gl 100 [0] aj1 (aw2 ns)) (fin:∀H fj s',∀J:SR (cx w h aU.heap.objs.size) fj H s',∀J:Bu (cx w h aU.heap.objs.size) [0] aU fj s',Q (.bool az) s'):aO (gK pw w) callerA (call (.ref 429) [.ref zP] []) Q E aU:=by
 refine exX (e.fnR (.head _)) λo fd r=> ?_;have c:=Gn (.head _);have F:FrmOk (cx w h aU.heap.objs.size) (fnOf N8) fd:=YJ e c r;have kb:∀b o,∀J:(base h).get? b=aa o,aU.heap.get? b=aa o:=λb o q=>kp b o (aF3 q);have tb:∀t∈LQ,aU.heap.get? t=aa (nO #[]):=λt ht=>kp _ _ (e.tb t ht);have S:SR (cx w h aU.heap.objs.size) [[zP]] [.list (ns.map .int)] aU:=
  {len:=rfl
   nodup:=gF.mpr ⟨λz=>(Cv z),List.nodup_nil⟩
   objs:=λi o q=>by
    cases i with
    | zero=>
     obtain rfl:=aq q;exact⟨[zP],rfl,.mk zP vs.toArray 0 ha hv.vrs (by rw[aJ];exact hz)⟩
    | succ i=>exact iu q
   base:=kb
   apart:=λb hb=>(aP.mp hb).symm▸Zb e kp ha
   lR:=λb hb ht=>by obtain rfl:b=zP:=aP.mp hb;exact nomatch ha.symm.trans (tb b ht)
   gens:=hg
   tabs:=⟨.mk _ (tb 184 (.head _)) trivial,.mk _ (tb 191 (.tail _ (.head _))) trivial,.mk _ (tb 426 (.tail _ (.tail _ (.head _)))) trivial λpos cv q=>iu q⟩}
 refine ac5 (vZ (by decide) (kb _ _ r.obj) r.data (r.Eh▸c.co) (r.Eh▸c.gen) r.body ((JM e (.head _) r).keeps kb) (JL e (.head _) r aAs (lZ:= []) rfl rfl rfl kb ?_));refine ap5 (l:= []) (b:=scr) F S (λU q=>Cv q) (.mk _ [] (.mk zP [] rfl) rfl) rfl (λq=>⟨r.zO,⟨?_,r.code, ?_⟩⟩) λenv bO D=>⟨(Heap.NoLimit.of_ok e.bb.b8).keeps D.S.base,ks_codeAny_funcAt ?_⟩
 ·show xP _ fd.scope.names []=_
  refine aD r.Eh ?_;rfl
 ·show(fd.qualname++".<locals>.")++"<lambda>"=PJ
  refine aD r.qual ?_;decide
 ·have xx:=D.x λU=>False
  refine akf (λst ms q=> ?_) (sound (ake e) 100).s D.O D.W D.T aki.deeper (λb hb=> ?_) D.new (λH fj s' S' O'=>fin H fj s' S' O') y (by refine aD r.Eh ?_;rfl) D.S (by have F:=D.F;simp only[akg,akh]at F;exact F) ⟨λb o q hb=>xx.vf.keep b o q id λz=>(Cv z),xx.live,xx.os,λi r q hi b hb=> ?_⟩
  ·have no:kdOf fd.scope "__class__" ≠aa .free:=λz=>by
    have:=azw;rw[←r.Eh,z]at this;exact absurd this (by decide)
   cases st with
   | Expr ee p=>
    exact g8 q λx hx U=>(absurd (al7 hx).cls no)
   | Return oo p=>
    exact g8 q λee U q=>(g8 q λx hx U=>(absurd (al7 hx).cls no))
   | _=>exact iu q
  ·rw[an0 D.W.frame]at hb
   exact(aY.mp hb).elim (λz=>D.new b (.inl z)) λz=>(Cv z)
  ·cases i with
   | zero=>exact absurd (.head _) hi
   | succ i=>exact iu q
end
end
theorem aI7 (hw:Ew P h vals args):∀d r,∀J:args=d::r,∃v vs,vals=v::vs∧Well P h v d∧Ew P h vs r:=by
 cases hw with
 | nil=>intro d r e;exact nxC e
 | cons hx hs=>intro d r e;obtain⟨rfl,rfl⟩:=bI e;exact⟨_,_,rfl,hx,hs⟩
theorem aO1 (hw:Ew P h vals args):∀J:args= [],vals= []:=by
 cases hw with
 | nil=>exact λU=>rfl
 | cons hx hs=>intro e;exact nxD e
theorem PL (hw:Well P h v d):∀xs,∀J:d= .list xs,∃a vs,v= .ref a∧h.get? a=aa {cls:= .type "list",data:= .seq vs.toArray}∧Ew P h vs xs:=by
 cases hw with
 | list ha hv=>intro xs e;obtain rfl:=WData.list.inj e;exact⟨_,_,rfl,ha,hv⟩
 | _=>intro xs e;cases e
theorem Zd (hw:Well P h v d):∀i,∀J:d= .int i,∃t,v= .int i t:=by
 cases hw with
 | int i t=>intro j e;obtain rfl:=WData.int.inj e;exact⟨t,rfl⟩
 | _=>intro xs e;cases e
theorem aAt:∀{vs:List aB},∀J:WShape.hasItems [] xs .int=az,∀J:Ew P h vs xs,∃ns:List Int,ns.length=xs.length∧aq5 ns vs:=by
 induction xs with
 | nil=>intro vs _ hw;exact⟨[],rfl,aO1 hw rfl▸ .nil⟩
 | cons x xs ih=>
  intro vs c hw;obtain⟨i,rfl⟩:=hasW_int (j5 c).1;obtain⟨v,us,rfl,hx,hs⟩:=aI7 hw _ _ rfl;obtain⟨t,rfl⟩:=Zd hx _ rfl;exact lO (ih (j5 c).2 hs) λns h1 h2=>⟨i::ns,congrArg (·+1) h1,.cons i t ns _ h2⟩
noncomputable def aOa:∀J:WData,Option WData
 | .bool b=>aa (.bool (!b))
 | _=>aC
noncomputable def idW:∀J:WData,Option WData
 | .bool aG=>aa (.bool aG)
 | .bool az=>aa (.bool az)
 | _=>aC
noncomputable abbrev Row:=uT
theorem azy (p:Row.row.toRowW.pre.holds [] {args:= [.list xs]}=az):xs.length≤63:=by
 have e:Row.row.toRowW.pre.value [] {args:= [.list xs]}=(((less? (.int 63) (.int (xs.length:Int))).map WData.bool).bind aOa).bind idW:=by kernel_rfl
 unfold WTm.holds at p;replace p:=e▸p;replace p:=(show less? (.int 63) (.int (xs.length:Int))=aa (decide ((63:Int)<xs.length)) from by kernel_rfl)▸p;cases q:decide ((63:Int)<xs.length) with
 | true=>replace p:=q▸p;exact rU p
 | false=>exact eU λz=>of_decide_eq_false q (iJ.mpr z)
theorem PN:Row.wellSaid=az:=by decide+kernel
theorem aU2 {h h':bL}(n:h.isNs bW=az)(kp:∀b o,∀J:h.get? b=aa o,h'.get? b=aa o)(e:h.nsMap bW x=v):h'.nsMap bW x=v:=nF e (nF (((Heap.Ns.of_isNs n).keeps kp).eq_nsMap) rfl)
theorem azz (C:∀ns:List Int,∀J:ns.length≤63,RN gl 100 [0] aj1 (aw2 ns)){mg:aM->Option aB}(e:Hd h)(kp:∀b o,∀J:h.get? b=aa o,aU.heap.get? b=aa o)(hmn:aU.heap.Ns bW mg)(hmg:mg "law"=aa (.ref a))(hg:aU.gens= #[])
  {cl:aM->Option aW} (a0a:Row.row.toRowW.claim.pre args=az) (hwl:Ew w.params aU.heap vals args):
  aO (gK pw w) callerA (call (.ref a) vals []) (λv s'=>GoodWG Row.row.toRowW.claim cl mean args aU (.ok (.ret v)) s') (λe s'=>GoodWG Row.row.toRowW.claim cl mean args aU (.error e) s') aU:=by
 refine nu (λp1 p2=> ?_) (pre_splitW a0a);obtain⟨d,r,rfl,q1,q2⟩:=hasAllW_cons p1;obtain rfl:=hasAllW_nil q2;obtain⟨xs,rfl,q3⟩:=hasW_list q1;have hlen:=azy p2;obtain⟨v,us,rfl,hx,hs⟩:=aI7 hwl _ _ rfl;obtain rfl:=aO1 hs rfl;obtain⟨zP,vs,rfl,ha,hv⟩:=PL hx _ rfl;refine lO (aAt q3 hv) λns h1 h2=> ?_;obtain rfl:a=429:=by rw[hmn.eq_nsMap]at hmg;exact Value.ref.inj (aq (hmg.symm.trans (aU2 e.bb.b7 (λb o q=>kp b o (aF3 q)) (congrArg ym.lw e.obs))))
 replace hlen:=h1▸hlen;refine Zc e kp (AllBare.of_eq hg) ha h2 (ak hlen (by decide)) (C ns hlen) λH fj s' S' O'=>⟨.inl ⟨_,.bool az, [],rfl,λcls=>rfl,.bool az,by kernel_rfl,λU=>⟨.nil,λU q=>Cv q⟩⟩,⟨λb o q=> ?_,O'.live⟩,O'.os,S'.gens⟩;by_cases hb:b∈LQ
 ·obtain rfl:=aq ((kp _ _ (e.tb b hb)).symm.trans q)
  have ct:∀{c:aW}{ps:Array aB}{oc:oH}{vs:Array aB},∀J:(c,oc)∈afj,∀J:oc.cls= .type "code",∀J:oc.data= .fields vs,∀J:vs[11]?=aa (.ref b),∀J:s'.heap.get? b=aa (nO ps),asItWas aU.heap s'.heap b (nO #[]):=λ{c ps oc vs} m1 m2 m3 m4 m5=> .inr (.inl ⟨⟨c,oc,vs,kp _ _ (aF3 (e.objs _ m1)),m2,m3,m4⟩,rfl, #[],ps,rfl,by refine aD vW ?_;exact m5⟩);have T:=S'.tabs;rcases aY.mp hb with rfl | hb
  ·exact T.len.casesOn λps hP U=>ct (rT 5 rfl) rfl rfl rfl hP
  rcases aY.mp hb with rfl | hb
  ·exact T.str.casesOn λps hP U=>ct (rT 6 rfl) rfl rfl rfl hP
  ·obtain rfl:=aP.mp hb
   exact T.lam.casesOn λps hP U U=>ct (rT 7 rfl) rfl rfl rfl hP
 ·exact .inl (O'.keep b o q hb)
theorem aAu (C:∀ns:List Int,∀J:ns.length≤63,RN gl 100 [0] aj1 (aw2 ns)):Row.Holds:=
 holds_law PN λaOc=>holds_open (YP:=λU h=>∃h₀,Hd h₀∧∀b o,∀J:h₀.get? b=aa o,h.get? b=aa o)
  hl (λw s e=>⟨s.heap,⟨e⟩,λU U q=>q⟩) (by rintro w h h' ⟨h₀,e,k⟩ k';exact⟨h₀,e,λb o q=>k' _ _ (k _ _ q)⟩) (λs e=>xl_of s (Lj.mp e).1) XL.keeps (by rfl) (by rfl) (by rfl) (λs e=>recFacts_of (Lj.mp e).2) (by rfl) aOc (by decide+kernel) ⟨rfl,rfl,rfl,rfl,rfl,by decide+kernel⟩ ⟨[.list []],by decide+kernel,by decide+kernel⟩
  (by rintro w iI aU mg mb G ⟨h₀,e,kp⟩ a o pm cd doc dV kV ho hd RC hD hmg hg args vals as a0a bbj hrd hwl hlo;exact azz C e kp G.T.g hmg hg a0a hwl)
end Mine.Internal
end
section
namespace Mine.Internal
open PySem
noncomputable def f47:Fn:={params:= ["a","x","lo","hi"],dflt:= [("lo",.int 0),("hi",.none),("key",.none)],eY:= ["key"],kwarg:=aC,cells:= [],body:= [.ite (.cmp .Is (.loc "key") (.cst (.none))) [.asg (.loc "lo") (.call (.gn "bisect_right") [(.loc "a"),(.loc "x"),(.loc "lo"),(.loc "hi")] [] [])] [.asg (.loc "lo") (.call (.gn "bisect_right") [(.loc "a"),(.call (.loc "key") [(.loc "x")] [] []),(.loc "lo"),(.loc "hi")] ["key"] [(.loc "key")])],.expr (.bN (.loc "a") "insert" [(.loc "lo"),(.loc "x")] [] [])],shapes:= [(2, []),(3, [])]}
noncomputable def JP:List n6:= [.asg (.loc "mid") (.bin .FloorDiv (.bin .Add (.loc "lo") (.loc "hi")) (.cst (.int 2))),.ite (.cmp .Lt (.loc "x") (.sub (.loc "a") (.loc "mid"))) [.asg (.loc "hi") (.loc "mid")] [.asg (.loc "lo") (.bin .Add (.loc "mid") (.cst (.int 1)))]]
noncomputable def aAv:List n6:= [.asg (.loc "mid") (.bin .FloorDiv (.bin .Add (.loc "lo") (.loc "hi")) (.cst (.int 2))),.ite (.cmp .Lt (.loc "x") (.call (.loc "key") [(.sub (.loc "a") (.loc "mid"))] [] [])) [.asg (.loc "hi") (.loc "mid")] [.asg (.loc "lo") (.bin .Add (.loc "mid") (.cst (.int 1)))]]
noncomputable def f56:Fn:={params:= ["a","x","lo","hi"],dflt:= [("lo",.int 0),("hi",.none),("key",.none)],eY:= ["key"],kwarg:=aC,cells:= [],body:= [.ite (.cmp .Lt (.loc "lo") (.cst (.int 0))) [.raise "ValueError" "lo must be non-negative"] [],.ite (.cmp .Is (.loc "hi") (.cst (.none))) [.asg (.loc "hi") (.call (.gn "len") [(.loc "a")] [] [])] [],.ite (.cmp .Is (.loc "key") (.cst (.none))) [.whl (.cmp .Lt (.loc "lo") (.loc "hi")) JP] [.whl (.cmp .Lt (.loc "lo") (.loc "hi")) aAv],.ret (.loc "lo")],shapes:= [(2, []),(3, []),(4, [])]}
noncomputable def JQ:List n6:= [.asg (.loc "mid") (.bin .FloorDiv (.bin .Add (.loc "lo") (.loc "hi")) (.cst (.int 2))),.ite (.cmp .Lt (.sub (.loc "a") (.loc "mid")) (.loc "x")) [.asg (.loc "lo") (.bin .Add (.loc "mid") (.cst (.int 1)))] [.asg (.loc "hi") (.loc "mid")]]
noncomputable def aAw:List n6:= [.asg (.loc "mid") (.bin .FloorDiv (.bin .Add (.loc "lo") (.loc "hi")) (.cst (.int 2))),.ite (.cmp .Lt (.call (.loc "key") [(.sub (.loc "a") (.loc "mid"))] [] []) (.loc "x")) [.asg (.loc "lo") (.bin .Add (.loc "mid") (.cst (.int 1)))] [.asg (.loc "hi") (.loc "mid")]]
noncomputable def f65:Fn:={params:= ["a","x","lo","hi"],dflt:= [("lo",.int 0),("hi",.none),("key",.none)],eY:= ["key"],kwarg:=aC,cells:= [],body:= [.ite (.cmp .Lt (.loc "lo") (.cst (.int 0))) [.raise "ValueError" "lo must be non-negative"] [],.ite (.cmp .Is (.loc "hi") (.cst (.none))) [.asg (.loc "hi") (.call (.gn "len") [(.loc "a")] [] [])] [],.ite (.cmp .Is (.loc "key") (.cst (.none))) [.whl (.cmp .Lt (.loc "lo") (.loc "hi")) JQ] [.whl (.cmp .Lt (.loc "lo") (.loc "hi")) aAw],.ret (.loc "lo")],shapes:= [(2, [])]}
noncomputable def f79:Fn:={params:= ["self","headerlen","maxlen","continuation_ws","splitchars"],dflt:= [],eY:= [],kwarg:=aC,cells:= [],body:= [.asg (.attr (.loc "self") "_maxlen") (.loc "maxlen"),.asg (.attr (.loc "self") "_continuation_ws") (.loc "continuation_ws"),.asg (.attr (.loc "self") "_continuation_ws_len") (.call (.gn "len") [(.loc "continuation_ws")] [] []),.asg (.attr (.loc "self") "_splitchars") (.loc "splitchars"),.asg (.attr (.loc "self") "_lines") (.lst []),.asg (.attr (.loc "self") "_current_line") (.call (.gn "_Accumulator") [(.loc "headerlen")] [] [])],shapes:= [(5, [])]}
noncomputable def f86:Fn:={params:= ["self","linesep"],dflt:= [],eY:= [],kwarg:=aC,cells:= [],body:= [.expr (.bN (.loc "self") "newline" [] [] []),.ret (.bN (.loc "linesep") "join" [(.attr (.loc "self") "_lines")] [] [])],shapes:= [(2, [])]}
noncomputable def aAx:Fn:={params:= ["self"],dflt:= [],eY:= [],kwarg:=aC,cells:= [],body:= [.asg (.loc "end_of_line") (.bN (.attr (.loc "self") "_current_line") "pop" [] [] []),.ite (.cmp .NotEq (.loc "end_of_line") (.tup [(.cst (.str " ")),(.cst (.str ""))])) [.expr (.star (.attr (.loc "self") "_current_line") "push" (.loc "end_of_line"))] [],.ite (.cmp .Gt (.call (.gn "len") [(.attr (.loc "self") "_current_line")] [] []) (.cst (.int 0))) [.ite (.xR .And [(.bN (.attr (.loc "self") "_current_line") "is_onlyws" [] [] []),(.attr (.loc "self") "_lines")]) [.Bf (.attr (.loc "self") "_lines") (.neg (.cst (.int 1))) .Add (.call (.gn "str") [(.attr (.loc "self") "_current_line")] [] [])] [.expr (.bN (.attr (.loc "self") "_lines") "append" [(.call (.gn "str") [(.attr (.loc "self") "_current_line")] [] [])] [] [])]] [],.expr (.bN (.attr (.loc "self") "_current_line") "reset" [] [] [])],shapes:= [(1, [])]}
noncomputable def Gp:List n6:= [.ite (.bN (.loc "ch") "isspace" [] [] []) [.asg (.loc "fws") (.sub (.sub (.attr (.loc "self") "_current_line") (.loc "i")) (.cst (.int 0))),.ite (.xR .And [(.loc "fws"),(.cmp .Eq (.sub (.loc "fws") (.cst (.int 0))) (.loc "ch"))]) [.brk] []] [],.asg (.loc "prevpart") (.sub (.sub (.attr (.loc "self") "_current_line") (.bin .Sub (.loc "i") (.cst (.int 1)))) (.cst (.int 1))),.ite (.xR .And [(.loc "prevpart"),(.cmp .Eq (.sub (.loc "prevpart") (.neg (.cst (.int 1)))) (.loc "ch"))]) [.brk] []]
noncomputable def Gq:List n6:= [.oU (.loc "i") (.xU [(.bin .Sub (.bN (.attr (.loc "self") "_current_line") "part_count" [] [] []) (.cst (.int 1))),(.cst (.int 0)),(.neg (.cst (.int 1)))]) Gp [.cont],.brk]
noncomputable def aOd:Fn:={params:= ["self","fws","string"],dflt:= [],eY:= [],kwarg:=aC,cells:= [],body:= [.expr (.bN (.attr (.loc "self") "_current_line") "push" [(.loc "fws"),(.loc "string")] [] []),.ite (.cmp .Gt (.call (.gn "len") [(.attr (.loc "self") "_current_line")] [] []) (.attr (.loc "self") "_maxlen")) [.oU (.loc "ch") (.attr (.loc "self") "_splitchars") Gq [.asg (.tup [(.loc "fws"),(.loc "part")]) (.bN (.attr (.loc "self") "_current_line") "pop" [] [] []),.ite (.cmp .Gt (.attr (.attr (.loc "self") "_current_line") "_initial_size") (.cst (.int 0))) [.expr (.bN (.loc "self") "newline" [] [] []),.ite (.not (.loc "fws")) [.asg (.loc "fws") (.cst (.str " "))] []] [],.expr (.bN (.attr (.loc "self") "_current_line") "push" [(.loc "fws"),(.loc "part")] [] []),.ret (.cst (.none))],.asg (.loc "remainder") (.bN (.attr (.loc "self") "_current_line") "pop_from" [(.loc "i")] [] []),.expr (.bN (.attr (.loc "self") "_lines") "append" [(.call (.gn "str") [(.attr (.loc "self") "_current_line")] [] [])] [] []),.expr (.bN (.attr (.loc "self") "_current_line") "reset" [(.loc "remainder")] [] [])] []],shapes:= [(3, [])]}
noncomputable def aOe:Fn:={params:= ["self","initial_size"],dflt:= [("initial_size",.int 0)],eY:= [],kwarg:=aC,cells:= [],body:= [.asg (.attr (.loc "self") "_initial_size") (.loc "initial_size"),.expr (.sup "__init__")],shapes:= [(2, [])]}
noncomputable def aOf:Fn:={params:= ["self","fws","string"],dflt:= [],eY:= [],kwarg:=aC,cells:= [],body:= [.expr (.bN (.loc "self") "append" [(.tup [(.loc "fws"),(.loc "string")])] [] [])],shapes:= [(3, [])]}
noncomputable def aOg:Fn:={params:= ["self","i"],dflt:= [("i",.int 0)],eY:= [],kwarg:=aC,cells:= [],body:= [.asg (.loc "popped") (.vM (.loc "self") (.loc "i") (.cst (.none)) (.cst (.none))),.asg (.vM (.loc "self") (.loc "i") (.cst (.none)) (.cst (.none))) (.lst []),.ret (.loc "popped")],shapes:= [(2, [])]}
noncomputable def aOh:Fn:={params:= ["self"],dflt:= [],eY:= [],kwarg:=aC,cells:= [],body:= [.ite (.cmp .Eq (.bN (.loc "self") "part_count" [] [] []) (.cst (.int 0))) [.ret (.tup [(.cst (.str "")),(.cst (.str ""))])] [],.ret (.sup "pop")],shapes:= [(1, [])]}
noncomputable def aOi:Fn:={params:= ["self"],dflt:= [],eY:= [],kwarg:=aC,cells:= [],body:= [.ret (.call (.gn "sum") [.bad,(.attr (.loc "self") "_initial_size")] [] [])],shapes:= [(1, [])]}
noncomputable def aOj:Fn:={params:= ["self"],dflt:= [],eY:= [],kwarg:=aC,cells:= [],body:= [.ret (.bN (.gn "EMPTYSTRING") "join" [.bad] [] [])],shapes:= [(1, [])]}
noncomputable def aOk:Fn:={params:= ["self","startval"],dflt:= [("startval",.none)],eY:= [],kwarg:=aC,cells:= [],body:= [.ite (.cmp .Is (.loc "startval") (.cst (.none))) [.asg (.loc "startval") (.lst [])] [],.asg (.vM (.loc "self") (.cst (.none)) (.cst (.none)) (.cst (.none))) (.loc "startval"),.asg (.attr (.loc "self") "_initial_size") (.cst (.int 0))],shapes:= [(1, []),(2, [])]}
noncomputable def aOl:Fn:={params:= ["self"],dflt:= [],eY:= [],kwarg:=aC,cells:= [],body:= [.ret (.xR .And [(.cmp .Eq (.attr (.loc "self") "_initial_size") (.cst (.int 0))),(.xR .Or [(.not (.loc "self")),(.bN (.call (.gn "str") [(.loc "self")] [] []) "isspace" [] [] [])])])],shapes:= [(1, [])]}
noncomputable def aOm:Fn:={params:= ["self"],dflt:= [],eY:= [],kwarg:=aC,cells:= [],body:= [.ret (.sup "__len__")],shapes:= [(1, [])]}
noncomputable def Ze:List n6:= [.expr (.bN (.loc "self") "_convert_string_type" [(.loc "k")] ["name"] [(.cst (.bool az))]),.expr (.bN (.loc "self") "_convert_string_type" [(.loc "v")] ["name"] [(.cst (.bool aG))])]
noncomputable def aOn:Fn:={params:= ["self","headers"],dflt:= [("headers",.none)],eY:= [],kwarg:=aC,cells:= [],body:= [.asg (.loc "headers") (.ite (.cmp .IsNot (.loc "headers") (.cst (.none))) (.loc "headers") (.lst [])),.ite (.cmp .IsNot (.call (.gn "type") [(.loc "headers")] [] []) (.gn "list")) [.raise "TypeError" "Headers must be a list of name/value tuples"] [],.asg (.attr (.loc "self") "_headers") (.loc "headers"),.ite (.cst (.bool az)) [.oU (.tup [(.loc "k"),(.loc "v")]) (.loc "headers") Ze []] []],shapes:= [(1, []),(2, [])]}
noncomputable def aOo:Fn:={params:= ["self","value"],dflt:= [],eY:= ["name"],kwarg:=aC,cells:= [],body:= [.ite (.cmp .Is (.call (.gn "type") [(.loc "value")] [] []) (.gn "str")) [.asg (.loc "regex") (.ite (.loc "name") (.gn "_name_disallowed_re") (.gn "_value_disallowed_re")),.ite (.bN (.loc "regex") "search" [(.loc "value")] [] []) [.raise "ValueError" "Control characters not allowed in headers"] [],.ret (.loc "value")] [],.bad],shapes:= [(2, ["name"])]}
noncomputable def aOp:Fn:={params:= ["self","name","val"],dflt:= [],eY:= [],kwarg:=aC,cells:= [],body:= [.del (.loc "self") (.loc "name"),.expr (.bN (.attr (.loc "self") "_headers") "append" [(.tup [(.bN (.loc "self") "_convert_string_type" [(.loc "name")] ["name"] [(.cst (.bool az))]),(.bN (.loc "self") "_convert_string_type" [(.loc "val")] ["name"] [(.cst (.bool aG))])])] [] [])],shapes:= [(3, [])]}
noncomputable def aOq:Fn:={params:= ["self","name"],dflt:= [],eY:= [],kwarg:=aC,cells:= ["name"],body:= [.asg (.cR "name") (.bN (.loc "self") "_convert_string_type" [(.bN (.cR "name") "lower" [] [] [])] ["name"] [(.cst (.bool az))]),.asg (.vM (.attr (.loc "self") "_headers") (.cst (.none)) (.cst (.none)) (.cst (.none))) (.comp (.loc "kv") (.loc "kv") (.attr (.loc "self") "_headers") [(.cmp .NotEq (.bN (.sub (.loc "kv") (.cst (.int 0))) "lower" [] [] []) (.cR "name"))] ["name"])],shapes:= [(2, [])]}
noncomputable def aOr:Fn:={params:= ["self","name"],dflt:= [],eY:= [],kwarg:=aC,cells:= ["name"],body:= [.asg (.cR "name") (.bN (.loc "self") "_convert_string_type" [(.bN (.cR "name") "lower" [] [] [])] ["name"] [(.cst (.bool az))]),.ret (.comp (.sub (.loc "kv") (.cst (.int 1))) (.loc "kv") (.attr (.loc "self") "_headers") [(.cmp .Eq (.bN (.sub (.loc "kv") (.cst (.int 0))) "lower" [] [] []) (.cR "name"))] ["name"])],shapes:= [(2, [])]}
noncomputable def Zf:List n6:= [.ite (.cmp .Eq (.bN (.loc "k") "lower" [] [] []) (.loc "name")) [.ret (.loc "v")] []]
noncomputable def aOs:Fn:={params:= ["self","name","default"],dflt:= [("default",.none)],eY:= [],kwarg:=aC,cells:= [],body:= [.asg (.loc "name") (.bN (.loc "self") "_convert_string_type" [(.bN (.loc "name") "lower" [] [] [])] ["name"] [(.cst (.bool az))]),.oU (.tup [(.loc "k"),(.loc "v")]) (.attr (.loc "self") "_headers") Zf [],.ret (.loc "default")],shapes:= [(2, [])]}
noncomputable def aOt:Fn:={params:= ["self"],dflt:= [],eY:= [],kwarg:=aC,cells:= [],body:= [.ret (.vM (.attr (.loc "self") "_headers") (.cst (.none)) (.cst (.none)) (.cst (.none)))],shapes:= [(1, [])]}
noncomputable def a0b:List n6:= [.asg (.loc "k") (.bN (.loc "self") "_convert_string_type" [(.loc "k")] ["name"] [(.cst (.bool az))]),.ite (.cmp .Is (.loc "v") (.cst (.none))) [.expr (.bN (.loc "parts") "append" [.bad] [] [])] [.asg (.loc "v") (.bN (.loc "self") "_convert_string_type" [(.loc "v")] ["name"] [(.cst (.bool aG))]),.expr (.bN (.loc "parts") "append" [(.call (.gn "_formatparam") [.bad,(.loc "v")] [] [])] [] [])]]
noncomputable def aOu:Fn:={params:= ["self","_name","_value"],dflt:= [],eY:= [],kwarg:=aa "_params",cells:= [],body:= [.asg (.loc "parts") (.lst []),.ite (.cmp .IsNot (.loc "_value") (.cst (.none))) [.asg (.loc "_value") (.bN (.loc "self") "_convert_string_type" [(.loc "_value")] ["name"] [(.cst (.bool aG))]),.expr (.bN (.loc "parts") "append" [(.loc "_value")] [] [])] [],.oU (.tup [(.loc "k"),(.loc "v")]) (.bN (.loc "_params") "items" [] [] []) a0b [],.expr (.bN (.attr (.loc "self") "_headers") "append" [(.tup [(.bN (.loc "self") "_convert_string_type" [(.loc "_name")] ["name"] [(.cst (.bool az))]),(.bN (.cst (.str "; ")) "join" [(.loc "parts")] [] [])])] [] [])],shapes:= [(3, [])]}
noncomputable def aOv:Fn:={params:= [],dflt:= [],eY:= [],kwarg:=aC,cells:= [],body:= [.ret (.tup [(.comp (.tup [(.loc "name"),(.call (.gn "str") [(.loc "seat")] [] [])]) (.tup [(.loc "seat"),(.loc "name")]) (.Cg (.cst (.str "abcde"))) [] []),(.lst [(.cst (.str "a")),(.cst (.str "b")),(.cst (.str "c")),(.cst (.str "d")),(.cst (.str "e")),(.cst (.str "aa")),(.cst (.str "bb")),(.cst (.str "cc")),(.cst (.str "dd"))]),(.lst [(.cst (.int 1)),(.cst (.int 1)),(.cst (.int 1)),(.cst (.int 1)),(.cst (.int 1)),(.cst (.int 2)),(.cst (.int 2)),(.cst (.int 3)),(.cst (.int 5))])])],shapes:= [(0, [])]}
noncomputable def Zg:List n6:= [.ite (.cmp .Lt (.loc "seat") (.cst (.int 8))) [.asg (.tup [(.loc "word"),(.loc "seat")]) (.tup [(.bin .Add (.sub (.cst (.str "01")) (.bin .Mod (.loc "seat") (.cst (.int 2)))) (.loc "word")),(.bN (.loc "nodes") "index" [(.bin .Mult (.sub (.cst (.str "abcd")) (.bin .FloorDiv (.loc "seat") (.cst (.int 2)))) (.cst (.int 2)))] [] [])])] []]
noncomputable def aOw:Fn:={params:= ["book","nodes","name"],dflt:= [],eY:= [],kwarg:=aC,cells:= [],body:= [.asg (.tup [(.loc "seat"),(.loc "word")]) (.tup [(.call (.gn "int") [(.bN (.loc "book") "get" [(.loc "name")] [] [])] [] []),(.cst (.str ""))]),.oU (.loc "turn") (.xU [(.cst (.int 8))]) Zg [],.ret (.loc "word")],shapes:= [(3, [])]}
noncomputable def aC0:List n6:= [.ite (.cmp .Eq (.call (.gn "len") [(.sub (.loc "nodes") (.loc "seat"))] [] []) (.cst (.int 2))) [.asg (.loc "seat") (.bin .Add (.bin .Mult (.cst (.int 2)) (.bin .Sub (.call (.gn "ord") [(.sub (.sub (.loc "nodes") (.loc "seat")) (.cst (.int 0)))] [] []) (.cst (.int 97)))) (.call (.gn "int") [(.sub (.bN (.loc "pile") "pop" [] [] []) (.cst (.int 1)))] [] []))] []]
noncomputable def aOx:Fn:={params:= ["nodes","pile"],dflt:= [],eY:= [],kwarg:=aC,cells:= [],body:= [.asg (.loc "seat") (.cst (.int 8)),.oU (.loc "turn") (.xU [(.cst (.int 8))]) aC0 [],.ret (.sub (.loc "nodes") (.loc "seat"))],shapes:= [(2, [])]}
noncomputable def Gr:List n6:= [.ite (.cmp .Eq (.call (.gn "len") [(.sub (.loc "nodes") (.loc "one"))] [] []) (.cst (.int 1))) [.asg (.sub (.loc "book") (.sub (.loc "nodes") (.loc "one"))) (.call (.gn "str") [(.loc "one")] [] [])] []]
noncomputable def an7:List n6:= [.asg (.loc "last") (.bin .Sub (.call (.gn "bisect_right") [(.loc "weights"),(.sub (.loc "weights") (.loc "seat"))] [] []) (.cst (.int 1))),.ite (.cmp .NotEq (.loc "last") (.loc "seat")) [.asg (.tup [(.sub (.loc "nodes") (.loc "seat")),(.sub (.loc "nodes") (.loc "last"))]) (.tup [(.sub (.loc "nodes") (.loc "last")),(.sub (.loc "nodes") (.loc "seat"))]),.oU (.loc "one") (.tup [(.loc "seat"),(.loc "last")]) Gr []] [],.Bf (.loc "weights") (.loc "last") .Add (.cst (.int 1)),.ite (.cmp .Eq (.loc "last") (.cst (.int 8))) [.ret (.cst (.none))] [],.asg (.loc "seat") (.bN (.loc "nodes") "index" [(.bin .Mult (.sub (.cst (.str "abcd")) (.bin .FloorDiv (.loc "last") (.cst (.int 2)))) (.cst (.int 2)))] [] [])]
noncomputable def aOy:Fn:={params:= ["book","nodes","weights","name"],dflt:= [],eY:= [],kwarg:=aC,cells:= [],body:= [.asg (.loc "seat") (.call (.gn "int") [(.bN (.loc "book") "get" [(.loc "name")] [] [])] [] []),.oU (.loc "turn") (.xU [(.cst (.int 9))]) an7 []],shapes:= [(4, [])]}
noncomputable def aOz:Fn:={params:= ["ranked","count"],dflt:= [],eY:= [],kwarg:=aC,cells:= [],body:= [.del (.loc "ranked") (.call (.gn "bisect_left") [(.loc "ranked"),(.loc "count")] [] []),.ret (.call (.gn "insort_right") [(.loc "ranked"),(.bin .Add (.loc "count") (.cst (.int 1)))] [] [])],shapes:= [(2, [])]}
noncomputable def ak4:List n6:= [.asg (.loc "last") (.call (.gn "max") [(.comp (.loc "place") (.loc "place") (.xU [(.cst (.int 9))]) [(.cmp .Eq (.sub (.cR "loads") (.loc "place")) (.sub (.cR "loads") (.cR "seat")))] ["loads","seat"])] [] []),.ite (.cmp .NotEq (.loc "last") (.cR "seat")) [.asg (.tup [(.sub (.cR "knots") (.cR "seat")),(.sub (.cR "knots") (.loc "last"))]) (.tup [(.sub (.cR "knots") (.loc "last")),(.sub (.cR "knots") (.cR "seat"))]),.asg (.cR "moved") (.comp (.tup [(.sub (.cR "knots") (.loc "place")),(.call (.gn "str") [(.loc "place")] [] [])]) (.loc "place") (.tup [(.cR "seat"),(.loc "last")]) [(.cmp .Eq (.call (.gn "len") [(.sub (.cR "knots") (.loc "place"))] [] []) (.cst (.int 1)))] ["knots"]),.asg (.vM (.loc "placed") (.cst (.none)) (.cst (.none)) (.cst (.none))) (.bin .Add (.comp (.loc "pair") (.loc "pair") (.loc "placed") [(.cmp .NotIn (.sub (.loc "pair") (.cst (.int 0))) (.comp (.loc "one") (.tup [(.loc "one"),(.loc "place")]) (.cR "moved") [] []))] ["moved"]) (.cR "moved"))] [],.Bf (.cR "loads") (.loc "last") .Add (.cst (.int 1)),.ite (.cmp .Eq (.loc "last") (.cst (.int 8))) [.ret (.cst (.none))] [],.asg (.cR "seat") (.bN (.cR "knots") "index" [(.bin .Mult (.sub (.cst (.str "abcd")) (.bin .FloorDiv (.loc "last") (.cst (.int 2)))) (.cst (.int 2)))] [] [])]
noncomputable def aPa:Fn:={params:= ["placed","knots","loads","name"],dflt:= [],eY:= [],kwarg:=aC,cells:= ["knots","loads","seat","moved"],body:= [.asg (.cR "seat") (.bN (.cR "knots") "index" [(.loc "name")] [] []),.oU (.loc "turn") (.xU [(.cst (.int 9))]) ak4 []],shapes:= [(4, [])]}
noncomputable def Zh:List n6:= [.asg (.sub (.cR "deep") (.loc "seat")) (.bin .Add (.cst (.int 1)) (.sub (.cR "deep") (.bN (.loc "nodes") "index" [(.bin .Mult (.sub (.cst (.str "abcd")) (.bin .FloorDiv (.loc "seat") (.cst (.int 2)))) (.cst (.int 2)))] [] [])))]
noncomputable def aPb:Fn:={params:= ["nodes","ranked","sent"],dflt:= [],eY:= [],kwarg:=aC,cells:= ["sent","deep","counts","rising"],body:= [.asg (.cR "deep") (.bin .Mult (.lst [(.cst (.int 0))]) (.cst (.int 9))),.oU (.loc "seat") (.xU [(.cst (.int 7)),(.neg (.cst (.int 1))),(.neg (.cst (.int 1)))]) Zh [],.asg (.cR "counts") (.comp (.bin .Add (.cst (.int 1)) (.bN (.cR "sent") "count" [(.loc "letter")] [] [])) (.loc "letter") (.cst (.str "abcde")) [] ["sent"]),.asg (.tup [(.loc "cost"),(.cR "rising")]) (.tup [(.call (.gn "sum") [(.comp (.bin .Mult (.sub (.cR "counts") (.bin .Sub (.call (.gn "ord") [(.loc "name")] [] []) (.cst (.int 97)))) (.sub (.cR "deep") (.loc "seat"))) (.tup [(.loc "seat"),(.loc "name")]) (.Cg (.loc "nodes")) [(.cmp .Eq (.call (.gn "len") [(.loc "name")] [] []) (.cst (.int 1)))] ["counts","deep"])] [] []),(.call (.gn "sorted") [(.cR "counts")] [] [])]),.ret (.xR .And [(.cmp .Eq (.loc "ranked") (.cR "rising")),(.cmp .Eq (.loc "cost") (.call (.gn "min") [(.comp (.call (.gn "sum") [(.dot (.cR "rising") (.loc "shape"))] [] []) (.loc "shape") (.tup [(.tup [(.cst (.int 3)),(.cst (.int 3)),(.cst (.int 2)),(.cst (.int 2)),(.cst (.int 2))]),(.tup [(.cst (.int 4)),(.cst (.int 4)),(.cst (.int 3)),(.cst (.int 2)),(.cst (.int 1))]),(.tup [(.cst (.int 3)),(.cst (.int 3)),(.cst (.int 3)),(.cst (.int 3)),(.cst (.int 1))])]) [] ["rising"])] [] []))])],shapes:= [(3, [])]}
noncomputable def Gs:List n6:= [.asg (.loc "used") (.bin .Add (.call (.gn "len") [(.sub (.loc "rows") (.neg (.cst (.int 1))))] [] []) (.ite (.cmp .Eq (.call (.gn "len") [(.loc "rows")] [] []) (.cst (.int 1))) (.loc "head") (.cst (.int 0)))),.asg (.loc "rows") (.ite (.cmp .Gt (.bin .Add (.bin .Add (.loc "used") (.cst (.int 1))) (.call (.gn "len") [(.loc "word")] [] [])) (.loc "width")) (.bin .Add (.loc "rows") (.lst [(.bin .Add (.cst (.str " ")) (.loc "word"))])) (.bin .Add (.vM (.loc "rows") (.cst (.none)) (.neg (.cst (.int 1))) (.cst (.none))) (.lst [(.bin .Add (.bin .Add (.sub (.loc "rows") (.neg (.cst (.int 1)))) (.cst (.str " "))) (.loc "word"))])))]
noncomputable def aPc:Fn:={params:= ["words","head","width"],dflt:= [],eY:= [],kwarg:=aC,cells:= [],body:= [.asg (.loc "rows") (.ite (.xR .And [(.loc "head"),(.cmp .Gt (.bin .Add (.loc "head") (.call (.gn "len") [(.sub (.loc "words") (.cst (.int 0)))] [] [])) (.loc "width"))]) (.lst [(.cst (.str "")),(.bin .Add (.cst (.str " ")) (.sub (.loc "words") (.cst (.int 0))))]) (.lst [(.sub (.loc "words") (.cst (.int 0)))])),.oU (.loc "word") (.vM (.loc "words") (.cst (.int 1)) (.cst (.none)) (.cst (.none))) Gs [],.ret (.loc "rows")],shapes:= [(3, [])]}
noncomputable def s0:n6:= .asg (.loc "cells") (.comp (.bin .Add (.loc "cell") (.call (.gn "sum") [(.comp (.bin .Mod (.loc "number") (.cst (.int 1000000))) (.loc "number") (.vM (.cR "script") (.loc "k") (.cst (.int 60)) (.cst (.int 9))) [] [])] [] [])) (.tup [(.loc "k"),(.loc "cell")]) (.Cg (.tup [(.cst (.int 0)),(.cst (.int 1)),(.cst (.int 5)),(.cst (.int 0)),(.cst (.int 2)),(.cst (.int 5)),(.cst (.int 4)),(.cst (.int 0)),(.cst (.int 26))])) [] ["script"])
noncomputable def s1:n6:= .asg (.loc "message") (.comp (.sub (.cst (.str "abcdeABCDE")) (.bin .Mod (.loc "cell") (.cst (.int 10)))) (.loc "cell") (.vM (.loc "cells") (.cst (.none)) (.cst (.int 8)) (.cst (.none))) [] [])
noncomputable def s2:n6:= .asg (.tup [(.loc "head"),(.loc "width"),(.cR "ranked"),(.loc "words"),(.loc "post"),(.loc "pile"),(.loc "errors")]) (.tup [(.bin .Mod (.sub (.loc "cells") (.cst (.int 8))) (.cst (.int 4))),(.bin .Add (.cst (.int 3)) (.bin .Mod (.bin .FloorDiv (.sub (.loc "cells") (.cst (.int 8))) (.cst (.int 4))) (.cst (.int 8)))),(.bin .Mult (.lst [(.cst (.int 1))]) (.cst (.int 5))),(.lst []),(.call (.gn "Headers") [] [] []),(.call (.gn "_Accumulator") [(.cst (.int 1))] [] []),(.lst [])])
noncomputable def s3:n6:= .asg (.tup [(.loc "pairs"),(.loc "nodes"),(.loc "weights")]) (.call (.gn "_law_tree") [] [] [])
noncomputable def s4:n6:= .asg (.tup [(.loc "book"),(.loc "maker"),(.cR "sent")]) (.tup [(.call (.gn "Headers") [(.loc "pairs")] [] []),(.call (.gn "_ValueFormatter") [(.loc "head"),(.loc "width"),(.cst (.str " ")),(.cst (.str " "))] [] []),(.cst (.str ""))])
noncomputable def Zi:List n6:= [.ite (.not (.call (.gn "_law_sound") [(.loc "nodes"),(.cR "ranked"),(.cR "sent")] [] [])) [.ret (.cst (.bool aG))] [],.expr (.bN (.loc "words") "append" [(.call (.gn "_law_word") [(.loc "book"),(.loc "nodes"),(.loc "sign")] [] [])] [] []),.expr (.bN (.loc "maker") "_append_chunk" [(.ite (.cR "sent") (.cst (.str " ")) (.cst (.str ""))),(.sub (.loc "words") (.neg (.cst (.int 1))))] [] []),.expr (.call (.gn "_law_grow") [(.loc "book"),(.loc "nodes"),(.loc "weights"),(.loc "sign")] [] []),.ite (.cmp .IsNot (.call (.gn "_law_rank") [(.cR "ranked"),(.bin .Add (.cst (.int 1)) (.bN (.cR "sent") "count" [(.bN (.loc "sign") "lower" [] [] [])] [] []))] [] []) (.cst (.none))) [.ret (.cst (.bool aG))] [],.Lr "sent" .Add (.bN (.loc "sign") "lower" [] [] [])]
noncomputable def s5:n6:= .oU (.loc "sign") (.loc "message") Zi []
noncomputable def s6:n6:= .ite (.not (.call (.gn "_law_sound") [(.loc "nodes"),(.cR "ranked"),(.cR "sent")] [] [])) [.ret (.cst (.bool aG))] []
noncomputable def s7:n6:= .asg (.loc "rows") (.bN (.bN (.loc "maker") "_str" [(.cst (.str "\n"))] [] []) "split" [(.cst (.str "\n"))] [] [])
noncomputable def arv:List n6:= [.expr (.bN (.loc "post") "add_header" [(.cst (.str "Code")),(.loc "row")] [] [])]
noncomputable def s8:n6:= .oU (.loc "row") (.loc "rows") arv []
noncomputable def s9:n6:= .ite (.xR .Or [(.cmp .NotEq (.loc "rows") (.call (.gn "_law_fold") [(.loc "words"),(.loc "head"),(.loc "width")] [] [])),(.cmp .NotEq (.bN (.loc "post") "items" [] [] []) (.comp (.tup [(.cst (.str "Code")),(.loc "row")]) (.loc "row") (.loc "rows") [] []))]) [.ret (.cst (.bool aG))] []
noncomputable def s10:n6:= .asg (.loc "bits") (.Sx (.bN (.cst (.str "")) "join" [(.bN (.loc "post") "get_all" [(.cst (.str "cODE"))] [] [])] [] []) " " "")
noncomputable def Zj:List n6:= [.expr (.bN (.loc "pile") "push" [(.cst (.str "")),(.loc "bit")] [] [])]
noncomputable def s11:n6:= .oU (.loc "bit") (.vM (.loc "bits") (.cst (.none)) (.cst (.none)) (.neg (.cst (.int 1)))) Zj []
noncomputable def s12:n6:= .ite (.cmp .NotEq (.lst [(.bN (.loc "pile") "part_count" [] [] []),(.call (.gn "len") [(.loc "pile")] [] []),(.call (.gn "str") [(.loc "pile")] [] [])]) (.lst [(.call (.gn "len") [(.loc "bits")] [] []),(.bin .Add (.cst (.int 1)) (.call (.gn "len") [(.loc "bits")] [] [])),(.vM (.bN (.cst (.str "")) "join" [(.loc "words")] [] []) (.cst (.none)) (.cst (.none)) (.neg (.cst (.int 1))))])) [.ret (.cst (.bool aG))] []
noncomputable def s13:n6:= .asg (.tup [(.loc "placed"),(.loc "knots"),(.loc "loads")]) (.call (.gn "_law_tree") [] [] [])
noncomputable def Zk:List n6:= [.ite (.cmp .NotEq (.call (.gn "_law_letter") [(.loc "knots"),(.loc "pile")] [] []) (.loc "sign")) [.ret (.cst (.bool aG))] [],.expr (.call (.gn "_law_follow") [(.loc "placed"),(.loc "knots"),(.loc "loads"),(.loc "sign")] [] [])]
noncomputable def s14:n6:= .oU (.loc "sign") (.cR "sent") Zk []
noncomputable def s15:n6:= .ite (.cmp .NotEq (.lst [(.bN (.loc "pile") "pop" [] [] []),(.call (.gn "len") [(.loc "pile")] [] []),(.loc "nodes"),(.loc "weights"),(.bN (.loc "book") "items" [] [] []),(.loc "pairs")]) (.lst [(.tup [(.cst (.str "")),(.cst (.str ""))]),(.cst (.int 1)),(.loc "knots"),(.loc "loads"),(.loc "placed"),(.loc "placed")])) [.ret (.cst (.bool aG))] []
noncomputable def an8:List n6:= [.afc [.expr (.bN (.loc "errors") "append" [(.call (.loc "call") [] [] [])] [] [])] [⟨"ValueError","error","value: ","errors"⟩,⟨"TypeError","error","type: ","errors"⟩]]
noncomputable def s16:n6:=aj1.getD 16 .bad
noncomputable def s17:n6:= .asg (.tup [(.loc "control"),(.loc "below")]) (.tup [(.cst (.str "value: Control characters not allowed in headers")),(.cst (.str "value: lo must be non-negative"))])
noncomputable def s18:n6:= .ret (.xR .And [(.cmp .Eq (.loc "errors") (.lst [(.cst (.str "type: Headers must be a list of name/value tuples")),(.loc "control"),(.loc "control"),(.loc "below"),(.loc "below")])),(.cmp .Eq (.cR "ranked") (.call (.gn "sorted") [(.comp (.bin .Add (.cst (.int 1)) (.bN (.cR "sent") "count" [(.loc "letter")] [] [])) (.loc "letter") (.cst (.str "abcde")) [] ["sent"])] [] []))])
noncomputable def Zm:List (aW×Fn):= [(47,f47),(56,f56),(65,f65),(79,f79),(86,f86),(100,aAx),(135,aOd),(159,aOe),(166,aOf),(174,aOg),(182,aOh),(189,aOi),(196,aOj),(204,aOk),(211,aOl),(219,aOm),(264,aOn),(271,aOo),(285,aOp),(290,aOq),(309,aOr),(317,aOs),(334,aOt),(367,aOu),(379,aOv),(386,aOw),(393,aOx),(400,aOy),(407,aOz),(412,aPa),(417,aPb),(424,aPc)]
theorem a0d:YH=Zm:=by kernel_rfl
noncomputable def gL:Gl:={gl with fn:=λa=>Zm.lookup a}
theorem aAy:gl=gL:=by unfold gL gl;exact aD a0d rfl
theorem Zn:aj1= [s0,s1,s2,s3,s4,s5,s6,s7,s8,s9,s10,s11,s12,s13,s14,s15,s16,s17,s18]:=by kernel_rfl
section
section
variable {α β:Type}
theorem f9 {f:α->Option β}{a:α}(h:o=aa a)(k:f a=R):opt o f=R:=by subst h;exact k
theorem m8 (h:b=az)(k:r=R):fV b r=R:=by subst h;exact k
theorem j7 {f:α->Hp->Out β}(h:X=ok v H)(k:f v H=R):jd X f=R:=by subst h;exact k
theorem w6 {f:α->St->v7 β}(h:X=fc v σ)(k:f v σ=R):N7 X f=R:=by subst h;exact k
theorem H6 (h:X=ok v H):jV σ X=fc v {σ with hp:=H}:=by subst h;rfl
theorem d8 {f:α->Hp->Out β}:R9 f [] H=ok [] H:=rfl
theorem c7 {f:α->Hp->Out β}(h:f e H=ok v H1)(k:R9 f r H1=ok vs H2):R9 f (e::r) H=ok (v::vs) H2:=j7 h (j7 k rfl)
end
section
theorem j4:dY G (n+1) φ (.cst v) H=ok v H:=rfl
theorem d9 (h:φ.loc.lookup s=aa v):dY G (n+1) φ (.loc s) H=ok v H:=f9 h rfl
theorem J6 (h:φ.cR.lookup s=aa v):dY G (n+1) φ (.cR s) H=ok v H:=f9 h rfl
theorem zQ (h:G.glob s=aa v):dY G (n+1) φ (.gn s) H=ok v H:=f9 h rfl
theorem aw3 (h:vG G n φ t H=ok az H1)(k:dY G n φ a H1=R):dY G (n+1) φ (.ite t a b) H=R:=j7 h k
theorem aw4 (h:vG G n φ t H=ok aG H1)(k:dY G n φ b H1=R):dY G (n+1) φ (.ite t a b) H=R:=j7 h k
theorem U6 (h:R9 (dY G n φ) l H=ok vs H1):dY G (n+1) φ (.tup l) H=ok (.tup vs) H1:=j7 h rfl
theorem Z2 (h:R9 (dY G n φ) l H=ok vs H1):dY G (n+1) φ (.lst l) H=ok (.ref H1.length) (H1++ [.list vs]):=j7 h rfl
theorem G7 (h1:dY G n φ a H=ok x H1)(h2:dY G n φ b H1=ok y H2)(k:K8 H2 p x y=R):dY G (n+1) φ (.bin p a b) H=R:=j7 h1 (j7 h2 k)
theorem u6 (h1:dY G n φ a H=ok x H1)(h2:dY G n φ b H1=ok y H2)(k:Q5 H2 p x y=aa bb):dY G (n+1) φ (.cmp p a b) H=ok (.bool bb) H2:=j7 h1 (j7 h2 (f9 k rfl))
theorem a0e (h:dY G n φ a H=ok (.int j) H1):dY G (n+1) φ (.neg a) H=ok (.int (-j)) H1:=j7 h rfl
theorem akj (h:dY G n φ a H=ok x H1)(ht:Q3 H1 x=aa bb)(k:(if bb then dY G n φ b H1 else ok x H1)=R):dY G (n+1) φ (.xR .And [a,b]) H=R:=j7 h (j7 (f9 ht rfl) (by cases bb<;>exact k))
theorem z8 (h:dY G n φ o H=ok ov H1)(k:Ls H1 ov m=aa v):dY G (n+1) φ (.attr o m) H=ok v H1:=j7 h (f9 k rfl)
theorem I4 (h1:dY G n φ o H=ok ov H1)(h2:dY G n φ i H1=ok iv H2)(k:Z0 H2 ov iv=aa v):dY G (n+1) φ (.sub o i) H=ok v H2:=j7 h1 (j7 h2 (f9 k rfl))
theorem Ds (h0:dY G n φ o H=ok ov H1)(h1:dY G n φ a H1=ok x H2)(h2:dY G n φ b H2=ok y H3)(h3:dY G n φ c H3=ok z H4)(k:Cz H4 ov x y z=R):dY G (n+1) φ (.vM o a b c) H=R:=j7 h0 (j7 h1 (j7 h2 (j7 h3 k)))
theorem JR (hg:G.glob s=aa (.gl (.ref ad)))(hm:G.bN ad "__init__"=aC)(ha:R9 (dY G (n+1) φ) l H=ok vs H1)(k:p8 G (n+1) φ.lk ad vs [] [] H1=R):dY G (n+2) φ (.call (.gn s) l [] []) H=R:=
 j7 (zQ hg) (j7 ha (j7 d8 (by
  show(match G.bN ad ("__init__":aM) with | some g=>CJ G (u9 G (n+1)) φ.lk ad g vs [] [] H1 | none=>p8 G (n+1) φ.lk ad vs [] [] H1)=R;refine aD hm ?_;exact k)))
theorem akk (hg:G.glob s=aa (.gl (.ref ad)))(hm:G.bN ad "__init__"=aa g)(ha:R9 (dY G (n+1) φ) l H=ok vs H1)(k:p8 G (n+1) φ.lk g (.ref H1.length::vs) [] [] (H1++ [if ad=G.fW then .acc ad [] [] else .inst ad []])=ok .none H2):dY G (n+2) φ (.call (.gn s) l [] []) H=ok (.ref H1.length) H2:=
 j7 (zQ hg) (j7 ha (j7 d8 (by
  show(match G.bN ad ("__init__":aM) with | some g=>CJ G (u9 G (n+1)) φ.lk ad g vs [] [] H1 | none=>p8 G (n+1) φ.lk ad vs [] [] H1)=_;refine aD hm ?_;exact j7 k rfl)))
theorem O2 (hg:G.glob s=aa (.gl (.builtin q)))(ha:dY G (n+1) φ a H=ok x H1)(k:G4 H1 q x=R):dY G (n+2) φ (.call (.gn s) [a] [] []) H=R:=j7 (zQ hg) (j7 (c7 ha d8) (j7 d8 k))
theorem PT (hg:G.glob s=aa (.gl (.type q)))(ha:dY G (n+1) φ a H=ok x H1)(k:Lw H1 q x=R):dY G (n+2) φ (.call (.gn s) [a] [] []) H=R:=j7 (zQ hg) (j7 (c7 ha d8) (j7 d8 k))
theorem t7 (ho:dY G n φ o H=ok ov H1)(hl:Rz G H1 ov m=aa tg)(ha:R9 (dY G n φ) l H1=ok vs H2)(hk:R9 (dY G n φ) Lq H2=ok ks H3)(k:U8 (u9 G n) φ.lk tg ov m vs kn ks H3=R):dY G (n+1) φ (.bN o m l kn Lq) H=R:=j7 ho (f9 hl (j7 ha (j7 hk k)))
theorem arw (ho:dY G n φ o H=ok ov H1)(hl:avd G H1 ov m=aa ad)(ha:dY G n φ a H1=ok (.tup vs) H2)(hz:vs.length≤1000)(k:p8 G n φ.lk ad (ov::vs) [] [] H2=R):dY G (n+1) φ (.star o m a) H=R:=j7 ho (f9 hl (j7 ha (f9 rfl (m8 (gJ hz) k))))
theorem aAz {p q:aM}(ho:dY G n φ o H=ok (.str s) H1)(hz:(decide (p≠q)&&room (s.length+(s.length+1)*q.length))=az):dY G (n+1) φ (.Sx o p q) H=ok (.str (zB s p q)) H1:=j7 ho (f9 rfl (m8 hz rfl))
theorem aPd (h1:dY G n φ a H=ok x H1)(h2:dY G n φ b H1=ok y H2)(k:Tc H2 x y=R):dY G (n+1) φ (.dot a b) H=R:=j7 h1 (j7 h2 k)
theorem t8 (h:dY G n φ (.cmp p a b) H=ok (.bool bb) H1):vG G (n+1) φ (.cmp p a b) H=ok bb H1:=j7 h rfl
theorem Zo (h:φ.loc.lookup s=aa v)(k:Q3 H v=aa bb):vG G (n+2) φ (.loc s) H=ok bb H:=j7 (d9 h) (f9 k rfl)
theorem aBa (h:φ.cR.lookup s=aa v)(k:Q3 H v=aa bb):vG G (n+2) φ (.cR s) H=ok bb H:=j7 (J6 h) (f9 k rfl)
theorem aBb (k:Q3 H v=aa bb):vG G (n+2) φ (.cst v) H=ok bb H:=f9 k rfl
theorem JS (h:dY G n φ (.bN o m l kn Lq) H=ok v H1)(k:Q3 H1 v=aa bb):vG G (n+1) φ (.bN o m l kn Lq) H=ok bb H1:=j7 h (f9 k rfl)
theorem aBc (h:dY G n φ (.call o l kn Lq) H=ok v H1)(k:Q3 H1 v=aa bb):vG G (n+1) φ (.call o l kn Lq) H=ok bb H1:=j7 h (f9 k rfl)
theorem aBd (h:vG G n φ a H=ok bb H1):vG G (n+1) φ (.not a) H=ok (!bb) H1:=j7 h rfl
theorem a0f (h:vG G n φ a H=ok bb H1)(k:(if bb then vG G n φ b H1 else ok aG H1)=ok cc H2):vG G (n+1) φ (.xR .And [a,b]) H=ok cc H2:=
 j7 h (by cases bb with
  | false=>exact k
  | true=>exact j7 k (by cases cc<;>rfl))
theorem bOr (h:vG G n φ a H=ok bb H1)(k:(if bb then ok az H1 else vG G n φ b H1)=ok cc H2):vG G (n+1) φ (.xR .Or [a,b]) H=ok cc H2:=
 j7 h (by cases bb with
  | true=>exact k
  | false=>exact j7 k (by cases cc<;>rfl))
theorem arx (hf:G.fn ad=aa F)(hb:binds F vs kn ks H=aa p)(k:Lz H.length (HJ (G5 (iY G n lk) F.body ⟨p.1.filter λq=> !F.cells.contains q.1,p.1.filter λq=>F.cells.contains q.1,p.2⟩))=R):p8 G (n+1) lk ad vs kn ks H=R:=f9 hf (f9 hb k)
end
section
theorem o9:G5 (iY G n lk) [] σ=fc .next σ:=rfl
theorem j0 (h:iY G n lk st σ=fc .next wA)(k:G5 (iY G n lk) r wA=R):G5 (iY G n lk) (st::r) σ=R:=w6 h k
theorem K6 (h:iY G n lk st σ=fc (.ret v) wA):G5 (iY G n lk) (st::r) σ=fc (.ret v) wA:=w6 h rfl
theorem akl (h:iY G n lk st σ=fc .brk wA):G5 (iY G n lk) (st::r) σ=fc .brk wA:=w6 h rfl
theorem arz (h:iY G n lk st σ=fc .cont wA):G5 (iY G n lk) (st::r) σ=fc .cont wA:=w6 h rfl
theorem M9 (h:dY G n ⟨L,C,lk⟩ e H=ok v H1):iY G (n+1) lk (.expr e) ⟨L,C,H⟩=fc .next ⟨L,C,H1⟩:=w6 (H6 h) rfl
theorem S8 (h:dY G n ⟨L,C,lk⟩ e H=ok v H1):iY G (n+1) lk (.ret e) ⟨L,C,H⟩=fc (.ret v) ⟨L,C,H1⟩:=w6 (H6 h) rfl
theorem t6 (h:dY G n ⟨L,C,lk⟩ e H=ok v H1)(k:K5 G n lk t v ⟨L,C,H1⟩=fc () wA):iY G (n+1) lk (.asg t e) ⟨L,C,H⟩=fc .next wA:=w6 (H6 h) (w6 k rfl)
theorem J2 (h:vG G n ⟨L,C,lk⟩ t H=ok az H1)(k:G5 (iY G n lk) bd ⟨L,C,H1⟩=R):iY G (n+1) lk (.ite t bd od) ⟨L,C,H⟩=R:=w6 (H6 h) k
theorem M7 (h:vG G n ⟨L,C,lk⟩ t H=ok aG H1)(k:G5 (iY G n lk) od ⟨L,C,H1⟩=R):iY G (n+1) lk (.ite t bd od) ⟨L,C,H⟩=R:=w6 (H6 h) k
noncomputable abbrev Q8 (G:Gl)(n:Nat)(lk:List Nat)(t:j6)(bd:List n6)(v:V)(σ:St):v7 Fl:=N7 (K5 G n lk t v σ) λU σ=>G5 (iY G n lk) bd σ
theorem W7 (h:yl (u9 G n) ⟨L,C,lk⟩ i H=ok (vs,lks) H1)(k:U5 (Q8 G n (lks++lk) t bd) (G5 (iY G n lk) od) vs ⟨L,C,H1⟩=R):iY G (n+1) lk (.oU t i bd od) ⟨L,C,H⟩=R:=w6 (H6 h) k
theorem aBe (k:Bg (λσ=>jV σ (vG G n (σ.fm lk) t σ.hp)) (G5 (iY G n lk) bd) 64 σ=R):iY G (n+1) lk (.whl t bd) σ=R:=k
theorem aBf (h1:dY G n ⟨L,C,lk⟩ o H=ok ov H1)(h2:dY G n ⟨L,C,lk⟩ i H1=ok iv H2)(k:afg G (u9 G n) lk ov iv H2=ok () H3):iY G (n+1) lk (.del o i) ⟨L,C,H⟩=fc .next ⟨L,C,H3⟩:=w6 (H6 (j7 h1 (j7 h2 k))) rfl
theorem aBg (h0:C.lookup s=aa x)(h:dY G n ⟨L,C,lk⟩ e H=ok y H1)(k:Td H1 p x y=ok z H2):iY G (n+1) lk (.Lr s p e) ⟨L,C,H⟩=fc .next ⟨L,upd C s z,H2⟩:=f9 h0 (w6 (H6 (j7 h k)) rfl)
theorem asa (h1:dY G n ⟨L,C,lk⟩ o H=ok ov H1)(h2:dY G n ⟨L,C,lk⟩ i H1=ok iv H2)(h3:HF H2 ov iv=aa x)(h4:dY G n ⟨L,C,lk⟩ e H2=ok y H3)(h5:Td H3 p x y=ok z H4)(k:LK G (u9 G n) lk ov iv z H4=ok () H5):iY G (n+1) lk (.Bf o i p e) ⟨L,C,H⟩=fc .next ⟨L,C,H5⟩:=w6 (H6 (j7 h1 (j7 h2 (f9 h3 (j7 h4 (j7 h5 k)))))) rfl
theorem n7:K5 G (n+1) lk (.loc s) v ⟨L,C,H⟩=fc () ⟨upd L s v,C,H⟩:=rfl
theorem Dt:K5 G (n+1) lk (.cR s) v ⟨L,C,H⟩=fc () ⟨L,upd C s v,H⟩:=rfl
theorem Zq (h:dY G n ⟨L,C,lk⟩ o H=ok ov H1)(k:V6 lk H1 ov m v=ok () H2):K5 G (n+1) lk (.attr o m) v ⟨L,C,H⟩=fc () ⟨L,C,H2⟩:=H6 (j7 h k)
theorem PX (h1:dY G n ⟨L,C,lk⟩ o H=ok ov H1)(h2:dY G n ⟨L,C,lk⟩ i H1=ok iv H2)(k:LK G (u9 G n) lk ov iv v H2=ok () H3):K5 G (n+1) lk (.sub o i) v ⟨L,C,H⟩=fc () ⟨L,C,H3⟩:=H6 (j7 h1 (j7 h2 k))
theorem Zr (h1:dY G n ⟨L,C,lk⟩ o H=ok ov H1)(h2:dY G n ⟨L,C,lk⟩ a H1=ok x H2)(h3:dY G n ⟨L,C,lk⟩ b H2=ok y H3)(k:am6 lk H3 ov x y v=ok () H4):K5 G (n+1) lk (.vM o a b c) v ⟨L,C,H⟩=fc () ⟨L,C,H4⟩:=H6 (j7 h1 (j7 h2 (j7 h3 k)))
theorem Z5 (h1:K5 G n lk a x σ=fc () wA)(h2:K5 G n lk b y wA=fc () σ2):K5 G (n+1) lk (.tup [a,b]) (.tup [x,y]) σ=fc () σ2:=w6 h1 (w6 h2 rfl)
theorem asb (h1:K5 G n lk a x σ=fc () wA)(h2:K5 G n lk b y wA=fc () σ2)(h3:K5 G n lk c z σ2=fc () σ3):K5 G (n+1) lk (.tup [a,b,c]) (.tup [x,y,z]) σ=fc () σ3:=w6 h1 (w6 h2 (w6 h3 rfl))
theorem akm {t:St->v7 Bool}{b:St->v7 Fl}(h:t σ=fc aG wA):Bg t b (n+1) σ=fc .next wA:=w6 h rfl
theorem JT {t:St->v7 Bool}{b:St->v7 Fl}(h:t σ=fc az wA)(k:b wA=fc .next σ2)(z:Bg t b n σ2=R):Bg t b (n+1) σ=R:=w6 h (w6 k z)
theorem R0 {p:V->St->v7 Fl}{q:St->v7 Fl}(h:p v σ=fc .next wA)(k:U5 p q vs wA=R):U5 p q (v::vs) σ=R:=w6 h k
theorem aBi {p:V->St->v7 Fl}{q:St->v7 Fl}(h:p v σ=fc .cont wA)(k:U5 p q vs wA=R):U5 p q (v::vs) σ=R:=w6 h k
theorem aBj {p:V->St->v7 Fl}{q:St->v7 Fl}(h:p v σ=fc .brk wA):U5 p q (v::vs) σ=fc .next wA:=w6 h rfl
theorem a0g {p:V->St->v7 Fl}{q:St->v7 Fl}(h:p v σ=fc (.ret x) wA):U5 p q (v::vs) σ=fc (.ret x) wA:=w6 h rfl
theorem Q4 (h:K5 G n lk t v σ=fc () wA)(k:G5 (iY G n lk) bd wA=R):Q8 G n lk t bd v σ=R:=w6 h k
end
theorem H8 (h:H.length=k):Lz k (ok v H)=ok v H:=bG h
theorem akn (hv:v.lt H.length=az)(hH:M5 H.length H=az):Lz H.length (ok v (H++T))=ok v H:=by
 show(if (H++T).length=H.length then aa (Res.ok v,H++T) else if (v.lt H.length&&M5 H.length ((H++T).take H.length))=az then aa (Res.ok v,(H++T).take H.length) else aa (Res.ok v,H++T))=_;refine aD Az ?_;by_cases h:(H++T).length=H.length
 ·refine aD (bG h) ?_
  have:T= []:=eZ (by rw[aA]at h;exact Nat.add_left_cancel h);simp only[this,bh]
 ·refine aD (bu h) (aD hv (aD hH ?_));rfl
end
end Mine.Internal
end
section
namespace Mine.Internal
open PySem Builtin Builtin.Str StrLaws
noncomputable def Z6 (c:Nat):Nat->List Nat->List Nat
 | _, []=> []
 | k,x::r=>if x=c then k::Z6 c (k+1) r else Z6 c (k+1) r
theorem aw5:Z6 c k (x::r)=if x=c then k::Z6 c (k+1) r else Z6 c (k+1) r:=rfl
theorem ako (hs:s.cps.toList=l):∀m k st,∀J:k+m=l.length,∀J:st.2≤k,∀J:st.1.size≤k,(forIn (List.range' k (m+1)) st (occBody s ⟨#[c]⟩ s.length (s.length+1))).run.fst.toList=st.1.toList++Z6 c k (l.drop k):=by
 intro zz
 induction zz with
 | zero=>
  intro k st h h1 h2;refine aD afa ?_;rw[dW];delta occBody;exact aD (bu (λq=>by have:=q.1.2;simp only[(show s.length=l.length from by refine nF hs ?_;rfl)]at this;exact absurd this (h▸Nat.not_succ_le_self k))) (aD (List.drop_eq_nil_of_le (bM h.symm)) ((bh _).symm))
 | succ m ih=>
  intro k st h h1 h2;have hk:=h▸nZ (fB m);refine aD afa ?_;rw[dW,mF hk];delta occBody;have key:=subAt_one s c k;rw[hs,bD hk]at key;by_cases hc:l[k]=c
  ·have q:=key.mpr (congrArg aa hc)
   refine aD (bG ⟨⟨⟨by refine aD (show s.length=l.length from by refine nF hs ?_;rfl) ?_;exact sG (ak h2 (bR hk)),h1⟩,q.1⟩,q.2⟩) ?_;refine(ih (k+1) (st.1.push k,k+1) ((Ef k m).trans h) (aN _) (by rw[aey];exact cO (by assumption))).trans ?_;refine aD aw5 (aD (bG hc) ?_);rw[jF,aH];rfl
  ·refine aD (bu λq=>hc (aq (key.mp ⟨q.1.2,q.2⟩))) ?_
   exact(ih (k+1) (st.1,st.2) ((Ef k m).trans h) (gq h1) (gq h2)).trans (aD aw5 (aD (bu hc) rfl))
theorem aw6 (l:List Nat)(c:Nat):occurrences (toS l) (toS [c]) 0 (toS l).length ((toS l).length+1)=Z6 c 0 l:=by rw[occ_eq];have hl:(toS l).length=l.length:=xN;exact(ako rfl l.length 0 (#[],0) (kW _) (aN 0) (aN 0)).trans rfl
theorem N5 (l:List Nat):(toS l).length=l.length:=xN
theorem akp (c:Nat):∀l k,(Z6 c k l).length=l.count c:=by
 intro zz
 induction zz with
 | nil=>
  intro _;exact rfl
 | cons x r ih=>
  intro k;simp only[aw5];by_cases h:x=c
  ·rw[bG h,h,List.count_cons_self,cW,ih]
  ·rw[bu h,List.count_cons_of_ne h,ih]
theorem akq (l:List Nat)(c:Nat):El (toS l) (toS [c])=(l.count c:Nat):=by delta El;rw[aw6,akp]
noncomputable def cutAt (c:Nat):List Nat->List (List Nat)
 | []=> [[]]
 | x::r=>if x=c then[]::cutAt c r else match cutAt c r with
  | []=> [[x]]
  | p::q=>(x::p)::q
theorem al8:cutAt c (x::r)=if x=c then[]::cutAt c r else match cutAt c r with
  | []=> [[x]]
  | p::q=>(x::p)::q:=rfl
theorem a0h (c:Nat):∀l,cutAt c l≠ []:=by
 intro zz;cases zz with
 | nil=>
  intro h;exact nxD h
 | cons x r=>
  intro h;simp only[al8]at h
  split at h
  ·exact nxD h
  ·split at h<;>exact nxD h
theorem ase (l:List Nat)(i j:Nat):strSub (toS l) i j=toS ((l.drop i).take (j-i)):=by apply Ro;apply lW.mp;rw[strSub_toList];rfl
theorem Qa (c:Nat)(w:List Nat):∀l a k,∀J:a≤k,∀J:w.drop k=l,∀J:k+l.length=w.length,∃p q,cutAt c l=p::q∧partsFrom (toS w) 1 a (Z6 c k l)=toS ((w.drop a).take (k-a)++p)::q.map toS:=by
 intro zz
 induction zz with
 | nil=>
  intro a k h h1 h2;exact⟨[], [],rfl,by
   show[strSub (toS w) a (toS w).length]=_;simp only[ase,N5,bh,show k=w.length from h2];rfl⟩
 | cons x r ih=>
  intro a k h h1 h2;have hk:w.drop (k+1)=r:=by refine nF auo (aD h1 ?_);rfl
  have hx:w[k]?=aa x:=by
   have:(w.drop k)[0]?=aa x:=by refine aD h1 ?_;rfl
   rw[rA]at this;exact this
  have h2':k+1+r.length=w.length:=by refine nF h2 (aD cW ?_);exact cB _ _ _
  by_cases hc:x=c
  ·obtain⟨p,q,e1,e2⟩:=ih (k+1) (k+1) (aN _) hk h2'
   refine⟨[],cutAt c r,aD al8 (aD (bG hc) rfl), ?_⟩;refine aD aw5 (aD (bG hc) ?_);show strSub (toS w) a k::partsFrom (toS w) 1 (k+1) _=_;simp only[e2,e1,ase,bh,pG,aup,nC];rfl
  ·obtain⟨p,q,e1,e2⟩:=ih a (k+1) (gq h) hk h2'
   refine⟨x::p,q,aD al8 (aD (bu hc) (aD e1 rfl)), ?_⟩;refine aD aw5 (aD (bu hc) (aD e2 ?_));have:(w.drop a).take (k+1-a)=(w.drop a).take (k-a)++ [x]:=by refine aD (Nat.succ_sub h) (aD adt (aD (rA) (aD (xZ h) (aD hx ?_))));rfl
   simp only[this,aH];rfl
theorem aF4 (c:Nat)(l:List Nat):partsBetween (toS l) (Z6 c 0 l) 1=(cutAt c l).map toS:=by refine exY (Qa c l l 0 0 (aN _) rfl (kW _)) λp q e1 e2=> ?_;simp only[partsBetween_eq,e2,e1];rfl
theorem JV (c:Nat):∀l k,∀J:Z6 c k l= [],cutAt c l= [l]:=by
 intro zz
 induction zz with
 | nil=>
  intro _ _;exact rfl
 | cons x r ih=>
  intro k h;simp only[aw5]at h;by_cases hc:x=c
  ·replace h:=(bG hc)▸h;exact nxD h
  ·rw[bu hc]at h
   exact aD al8 (aD (bu hc) (aD (ih _ h) rfl))
theorem Zt (h:∀x∈l,x<256):tM (toS l)=1:=bG (aD yE (bF.mpr λx hx=>gJ (h x hx)))
theorem akr (h:∀x∈l,x<256)(hc:c<256):qZ (toS l) (toS [c])=(cutAt c l).map toS:=by
 delta qZ;rw[aw6,Zt h,Zt λx hx=>by rw[aP.mp hx];exact hc,N5,N5];by_cases h0:l= []
 ·subst h0;rfl
 ·refine aD (bu (by
   have:0<l.length:=Rp.mpr h0;simp only[Hy,eX,decide_false,mY,decide_eq_true_eq];exact iG (by assumption))) ?_
  by_cases h1:Z6 c 0 l= []
  ·refine aD h1 (aD (JV c l 0 h1) ?_);rfl
  ·refine aD (bu (λq=>h1 (bY.mp q))) ?_
   exact aF4 c l
theorem aO2 (c:Nat):∀l:List Nat,(cutAt c l).flatten=l.filter (·≠c):=by
 intro zz
 induction zz with
 | nil=>
  exact rfl
 | cons x r ih=>
  simp only[al8];by_cases hc:x=c
  ·refine aD (bG hc) (aD (eQ (by simp [hc])) ?_);exact ih
  ·refine aD (bu hc) (aD (fY (by simp [hc])) (nF ih ?_))
   cases q:cutAt c r with
   | nil=>exact absurd q (a0h c r)
   | cons p t=>rfl
theorem at3:∀ls:List (List Nat),Str.join (toS []) (ls.map toS)=toS ls.flatten
 | []=>rfl
 | [a]=>by simp only[dX,jR,bh];rfl
 | a::b::r=>by show toS a++toS []++Str.join (toS []) ((b::r).map toS)=_;refine aD (at3 (b::r)) ?_;apply Ro;apply lW.mp;simp only[Str.cps_append,dH];show a++ []++(b::r).flatten=a++(b::r).flatten;rw[bh]
theorem JW (ls:List (List Nat)):vq (toS []) (ls.map toS)=toS ls.flatten:=(glued_eq_join _ _).trans (at3 ls)
theorem a0i (l:List Nat)(c:Nat):zB (toS l) (toS [c]) (toS [])=toS (l.filter (·≠c)):=by
 delta zB;rw[aw6];by_cases h1:Z6 c 0 l= []
 ·refine aD h1 ?_;simp only[←aO2,JV c l 0 h1,dX,jR,bh]
  rfl
 ·have e:((Z6 c 0 l).isEmpty || ((toS [c]).length==0&&(toS []).length==0))=aG:=by
   rw[show((toS [c]).length==0&&(toS []).length==0)=aG from rfl,mY];exact gR.mpr λz=>h1 (bY.mp z)
  refine aD e ?_;show glued (toS []) _=_;simp only[show(toS [c]).length=1 from rfl,aF4,glued_eq_join,at3,aO2]
noncomputable def rowsOf (c:Nat):List (List Nat)->List Nat
 | []=> []
 | [a]=>a
 | a::r=>a++c::rowsOf c r
theorem a0j:rowsOf c (a::b::r)=a++c::rowsOf c (b::r):=rfl
theorem join_rows (c:Nat):∀ls:List (List Nat),vq (toS [c]) (ls.map toS)=toS (rowsOf c ls):=λls=>by
 refine(glued_eq_join _ _).trans ?_
 induction ls with
 | nil=>rfl
 | cons a r ih=>
  cases r with
  | nil=>rfl
  | cons b r=>
   show toS a++toS [c]++Str.join (toS [c]) ((b::r).map toS)=_;refine aD ih ?_;apply Ro;apply lW.mp;simp only[Str.cps_append,dH];rw[aH];rfl
theorem aks (t:List Nat):∀a:List Nat,∀J:c∉a,cutAt c (a++c::t)=a::cutAt c t:=by
 intro zz
 induction zz with
 | nil=>
  intro _;rw[nC,al8,bG rfl]
 | cons x a ih=>
  intro h;exact aD List.cons_append (aD al8 (aD (bu (λq:x=c=>h (aY.mpr (.inl q.symm)))) (aD (ih λq=>h (.tail _ q)) rfl)))
theorem Zu:∀a:List Nat,∀J:c∉a,cutAt c a= [a]:=by
 intro zz
 induction zz with
 | nil=>
  intro _;exact rfl
 | cons x a ih=>
  intro h;exact aD al8 (aD (bu (λq:x=c=>h (aY.mpr (.inl q.symm)))) (aD (ih λq=>h (.tail _ q)) rfl))
theorem aO3:∀ls:List (List Nat),∀J:ls≠ [],∀J:(∀a∈ls,c∉a),cutAt c (rowsOf c ls)=ls
 | [],h,_=>absurd rfl h
 | [a],_,h=>Zu a (h a (.head _))
 | a::b::r,_,h=>by exact aD a0j (aD (aks _ a (h a (.head _))) (aD (aO3 (b::r) (λq=>nxD q) λx hx=>h x (.tail _ hx)) rfl))
theorem al9 (a b:List Nat):(toS a).append (toS b)=toS (a++b):=by apply Ro;apply lW.mp;refine aD dH ?_;rfl
theorem aBk (h:toS a=toS b):a=b:=congrArg (λs:aM=>s.cps.toList) h
end Mine.Internal
end
section
namespace Mine.Internal
open PySem
section
variable {α:Type}{i k:Nat}{v:V}
theorem W0 {α β:Type}{a:α}{f:α->Option β}:opt (aa a) f=f a:=rfl
theorem Zv {β:Type}{r:Option β}:fV az r=r:=rfl
theorem R7 (h:lk.contains i=aG):put lk H i o a=ok a (H.set i o):=by delta put;refine aD h ?_;rfl
theorem K1 (h:H[i]?=aa (.list l)):listAt H (.ref i)=aa (i,l):=f9 rfl (f9 h rfl)
theorem O3 (h:n≤1000):room n=az:=gJ (ak h (by decide))
theorem Y8 {n:Nat}(h:n≤1000):small (n:Int)=az:=by delta small;rw[gJ (cV (by decide) (cJ n)),gJ (ju (du.mpr h) (by decide))];rfl
theorem Zw (e:l[k]?=aa v):idx l (k:Int)=aa v:=by delta idx;exact aD (bG (cJ k)) e
theorem J8 (h:H[i]?=aa (.list l))(e:l[k]?=aa v)(hk:k≤1000):Z0 H (.ref i) (.int k)=aa v:=
 f9 (f:=λk=>fV (small k) (opt H[i]? (Cy k))) rfl (m8 (Y8 hk) (f9 h (Zw e)))
theorem Zx:idx (l++ [v]) (-1)=aa v:=by
 have e:(-1+((l++ [v]).length:Int))=(l.length:Int):=by exact aD aA ((yh _ _).trans (jy (l.length:Int) 1))
 delta idx;exact aD (bu (show¬(0:Int)≤-1 by decide)) (aD e (aD (bG (cJ _)) (An)))
theorem Zy:small (-1)=az:=rfl
theorem akt {k:Int}(h:H[i]?=aa (.list l)):Z0 H (.ref i) (.int k)=fV (small k) (idx l k):=(show fV (small k) (opt H[i]? (Cy k))=_ by refine aD h ?_;rfl)
theorem Zz (h:H[i]?=aa (.list (l++ [v]))):Z0 H (.ref i) (.int (-1))=aa v:=by refine aD (akt h) (aD Zx (aD Zy ?_));rfl
theorem aku (hk:k<l.length):setAt l (k:Int) v=aa (l.set k v):=by delta setAt;refine aD (bG (cJ k)) (aD (bG (iJ.mpr hk)) ?_);rfl
theorem ak5 (h:H[i]?=aa (.list l))(hk:k<l.length)(hz:k≤1000)(hl:lk.contains i=aG):LK G r lk (.ref i) (.int k) v H=ok () (H.set i (.list (l.set k v))):=by show opt (listAt H (.ref i)) (λp=>fV (small (k:Int)) (opt (setAt p.2 (k:Int) v) λm=>put lk H p.1 (.list m) ()))=_;exact aD (K1 h) (aD W0 (aD (aku hk) (aD (Y8 hz) (aD W0 (aD Zv (R7 hl))))))
theorem JX (h:H[i]?=aa (.list l))(e:l[k]?=aa v)(hk:k≤1000):HF H (.ref i) (.int k)=aa v:=
 f9 (K1 h) (f9 rfl (m8 (Y8 hk) (Zw e)))
theorem an9 (h:H[i]?=aa (.list l))(hz:l.length<1000)(hl:lk.contains i=aG){j:Nat}:U8 r lk (.lst j) (.ref i) ("append":aM) [v] [] [] H=ok .none (H.set i (.list (l++ [v]))):=
 m8 rfl (f9 (K1 h) (f9 (f:=λv=>fV (room (l.length+1)) (put lk H i (.list (l++ [v])) V.none)) rfl (m8 (O3 hz) (R7 hl))))
end
noncomputable abbrev nV (n:Nat):V:= .int n
theorem V2 {l:List Nat}{k x:Nat}(e:l[k]?=aa x):(l.map nV)[k]?=aa (.int x):=by refine aD (eV) (aD e ?_);rfl
theorem aw7:∀l:List Nat,au3 (l.map nV)=aa (l.map λ(n:Nat)=>(n:Int)):=by
 intro zz
 induction zz with
 | nil=>
  exact rfl
 | cons x r ih=>
  exact f9 rfl (f9 (ih) rfl)
theorem aBl (a b:Nat):((a:Int)+b).fdiv 2=((a+b)/2:Nat):=by rw[←ie,zr,rF _ (by decide)];rfl
section
variable {l:List Nat}
noncomputable def mdE:Option Nat->j8
 | none=> []
 | some m=> [("mid",.int m)]
noncomputable abbrev RP (i x lo hi:Nat)(o:Option Nat)(H:Hp):St:=⟨("a",.ref i)::("x",.int x)::("lo",.int lo)::("hi",.int hi)::("key",.none)::mdE o, [],H⟩
theorem ZC (h:lo<hi):lo≤(lo+hi)/2∧(lo+hi)/2<hi:=⟨(Nat.le_div_iff_mul_le (by decide)).mpr ((Nat.mul_two lo).symm▸bK (bR h) lo),(Nat.div_lt_iff_lt_mul (by decide)).mpr ((Nat.mul_two hi).symm▸Ri h hi)⟩
theorem akv {x y:Nat}:K8 H .FloorDiv (.int ((x:Int)+y)) (.int 2)=ok (.int ((x+y)/2:Nat)) H:=by rw[←aBl];rfl
theorem aq6 {x y:Nat}(h:x<y):Q5 H .Lt (.int x) (.int y)=aa az:=congrArg aa (gJ (iJ.mpr h))
theorem ai6 {x y:Nat}(h:¬x<y):Q5 H .Lt (.int x) (.int y)=aa aG:=congrArg aa (decide_eq_false λq=>h (iJ.mp q))
theorem aky (h:H[i]?=aa (.list (l.map nV)))(e:l[(lo+hi)/2]?=aa y)(hz:(lo+hi)/2≤1000)(hy:x<y)(o:Option Nat):
  G5 (iY gL (n+9) lk) JP (RP i x lo hi o H)=fc .next (RP i x lo ((lo+hi)/2) (aa ((lo+hi)/2)) H):=by
 cases o<;>exact j0 (t6 (G7 (G7 (d9 rfl) (d9 rfl) rfl) j4 akv) n7) (j0 (J2 (t8 (u6 (d9 rfl) (I4 (d9 rfl) (d9 rfl) (J8 h (V2 e) hz)) (aq6 hy))) (j0 (t6 (d9 rfl) n7) o9)) o9)
theorem akz (h:H[i]?=aa (.list (l.map nV)))(e:l[(lo+hi)/2]?=aa y)(hz:(lo+hi)/2≤1000)(hy:¬x<y)(o:Option Nat):
  G5 (iY gL (n+9) lk) JP (RP i x lo hi o H)=fc .next (RP i x ((lo+hi)/2+1) hi (aa ((lo+hi)/2)) H):=by
 cases o<;>exact j0 (t6 (G7 (G7 (d9 rfl) (d9 rfl) rfl) j4 akv) n7) (j0 (M7 (t8 (u6 (d9 rfl) (I4 (d9 rfl) (d9 rfl) (J8 h (V2 e) hz)) (ai6 hy))) (j0 (t6 (G7 (d9 rfl) j4 rfl) n7) o9)) o9)
def X8 (l:List Nat):Prop:=∀(j j' y y':Nat),∀J:l[j]?=aa y,∀J:l[j']?=aa y',∀J:j≤j',y≤y'
theorem Qc (h:H[i]?=aa (.list (l.map nV)))(hz:l.length≤1000):∀k lo hi o,∀J:hi-lo≤k,∀J:lo≤hi,∀J:hi≤l.length,∀J:(∀j y:Nat,∀J:l[j]?=aa y,∀J:j<lo,y≤x),∀J:(∀j y:Nat,∀J:l[j]?=aa y,∀J:hi≤j,x<y),∀J:X8 l,∃r vU o',Bg (λσ=>jV σ (vG gL (n+9) (σ.fm lk) (.cmp .Lt (.loc "lo") (.loc "hi")) σ.hp)) (G5 (iY gL (n+9) lk) JP) (k+1) (RP i x lo hi o H)=fc .next (RP i x r vU o' H)∧r≤l.length∧(∀j y:Nat,∀J:l[j]?=aa y,∀J:j<r,y≤x)∧(∀j y:Nat,∀J:l[j]?=aa y,∀J:r≤j,x<y):=λk=>by
 induction k with
 | zero=>
  intro lo hi o h1 h2 h3 h4 h5 _;obtain rfl:hi=lo:=gZ (Lb (Rq.mp h1)) h2;exact⟨hi,hi,o,akm (H6 (t8 (u6 (d9 rfl) (d9 rfl) (ai6 (eX hi))))),h3,h4,h5⟩
 | succ k ih=>
  intro lo hi o h1 h2 h3 h4 h5 h6;by_cases wu:lo<hi
  ·have hm:=ZC wu
   have hml:=bA hm.2 h3;have e:=bD hml;by_cases hy:x<l[(lo+hi)/2]
   ·obtain⟨r,vU,o',q,q1⟩:=ih lo ((lo+hi)/2) (aa ((lo+hi)/2)) (dF (bA (Rr hm.1 hm.2) h1)) hm.1 (bR hml) h4 (λj y ej hj=>bA hy (h6 _ _ _ _ e ej hj)) h6
    exact⟨r,vU,o',JT (H6 (t8 (u6 (d9 rfl) (d9 rfl) (aq6 wu)))) (aky h e (ak (bR hml) hz) hy o) q,q1⟩
   ·obtain⟨r,vU,o',q,q1⟩:=ih ((lo+hi)/2+1) hi (aa ((lo+hi)/2)) (dF (bA (wi wu (sG hm.1)) h1)) hm.2 h3 (λj y ej hj=>ak (h6 _ _ _ _ ej e (dF hj)) (eU hy)) h5 h6
    exact⟨r,vU,o',JT (H6 (t8 (u6 (d9 rfl) (d9 rfl) (aq6 wu)))) (akz h e (ak (bR hml) hz) hy o) q,q1⟩
  ·obtain rfl:hi=lo:=gZ (eU wu) h2
   exact⟨hi,hi,o,akm (H6 (t8 (u6 (d9 rfl) (d9 rfl) (ai6 wu)))),h3,h4,h5⟩
end
end Mine.Internal
end
section
namespace Mine.Internal.X2
open PySem
section
section
theorem G6 (hf:G.fn ad=aa F)(hb:binds F vs kn ks H=aa (b,H0))(hL:(b.filter λq=> !F.cells.contains q.1)=L)(hC:(b.filter λq=>F.cells.contains q.1)=C)(hq:G5 (iY G n lk) F.body ⟨L,C,H0⟩=fc (.ret v) ⟨L',C',H'⟩)(hg:Lz H.length (ok v H')=ok v H''):p8 G (n+1) lk ad vs kn ks H=ok v H'':=by subst hL hC;exact arx hf hb (aD hq hg)
theorem M3 (hf:G.fn ad=aa F)(hb:binds F vs kn ks H=aa (b,H0))(hL:(b.filter λq=> !F.cells.contains q.1)=L)(hC:(b.filter λq=>F.cells.contains q.1)=C)(hq:G5 (iY G n lk) F.body ⟨L,C,H0⟩=fc .next ⟨L',C',H'⟩)(hg:Lz H.length (ok .none H')=ok .none H''):p8 G (n+1) lk ad vs kn ks H=ok .none H'':=by subst hL hC;exact arx hf hb (aD hq hg)
end
section
variable {i x:Nat}{l:List Nat}
theorem as7 {l:List V}(h:H[i]?=aa (.list l)):G4 H "len" (.ref i)=ok (.int l.length) H:=by delta G4;exact aD (bG rfl) (f9 h rfl)
theorem JZ (h:H[i]?=aa (.list (l.map nV))):G4 H "len" (.ref i)=ok (.int l.length) H:=by rw[as7 h,aJ]
theorem aO4 {p:Nat->Bool}(h0:r≤l.length)(h1:∀j y:Nat,∀J:l[j]?=aa y,∀J:j<r,p y=az)(h2:∀j y:Nat,∀J:l[j]?=aa y,∀J:r≤j,p y=aG):r=l.countP p:=by
 refine nF (pN r l) ?_;rw[List.countP_append,List.countP_eq_length.mpr,List.countP_eq_zero.mpr,iC,lu h0,yf]
 ·intro y hy
  obtain⟨j,hj⟩:=lB.mp hy;rw[rA]at hj;exact aD (h2 _ _ hj (aQ _ _)) bU
 ·intro y hy
  obtain⟨j,hj⟩:=lB.mp hy;have wu:=(aL.mp hj).1;rw[iC]at wu;rw[sE (bA wu (lg _ _))]at hj;exact h1 _ _ hj (bA wu (lg _ _))
noncomputable abbrev Du (i x:Nat):j8:= [("a",.ref i),("x",.int x),("lo",.int 0),("hi",.none),("key",.none)]
theorem aI8 (h:H[i]?=aa (.list (l.map nV)))(hz:l.length≤60)(hs:X8 l):∃L',G5 (iY gL (n+11) lk) f56.body ⟨Du i x, [],H⟩=fc (.ret (.int (l.countP (·≤x)))) ⟨L', [],H⟩:=by refine qm λY Z=> ?_;obtain⟨r,vU,o',e,h1,h2,h3⟩:=Qc h (ak hz (by decide)) 63 0 l.length aC (ak (uB _ _) (ak hz (by decide))) (cL _) (aN _) (λj y U q=>absurd q (nG j)) (λj y e q=>absurd (aL.mp e).1 (iG q)) hs;refine Z ?_;refine nF (aO4 h1 (λj y e q=>gJ (h2 j y e q)) (λj y e q=>decide_eq_false (aon (h3 j y e q)))) ?_;refine⟨_,j0 (M7 (t8 (u6 (d9 rfl) j4 (ai6 (eX 0)))) o9) (j0 (J2 (t8 (u6 (d9 rfl) j4 rfl)) (j0 (t6 (O2 rfl (d9 rfl) (JZ h)) n7) o9)) (j0 (J2 (t8 (u6 (d9 rfl) j4 rfl)) (j0 (aBe e) o9)) (K6 (S8 (d9 rfl)))))⟩
theorem a0m (h:H[i]?=aa (.list (l.map nV)))(hz:l.length≤60)(hs:X8 l):p8 gL (n+12) lk 56 [.ref i,.int x] [] [] H=ok (.int (l.countP (·≤x))) H:=
 (aI8 h hz hs).elim λL' e=>G6 rfl (b:=Du i x) rfl rfl rfl e (H8 rfl)
theorem a0n (h:H[i]?=aa (.list (l.map nV)))(hz:l.length≤60)(hs:X8 l):p8 gL (n+12) lk 56 [.ref i,.int x,.int 0,.none] [] [] H=ok (.int (l.countP (·≤x))) H:=
 (aI8 h hz hs).elim λL' e=>G6 rfl (b:=Du i x) rfl rfl rfl e (H8 rfl)
theorem a0o {l:List V}(h:H[i]?=aa (.list l))(hk:k≤l.length)(hz:l.length<1000)(hl:lk.contains i=aG):U8 r lk (.lst j) (.ref i) ("insert":aM) [.int k,v] [] [] H=ok .none (H.set i (.list (l.take k++v::l.drop k))):=by refine m8 rfl (f9 (K1 h) ?_);show opt (aa (V.int k,v)) (λp=>opt (intOf p.1) λk=>fV (decide (0≤k)&&decide (k≤l.length)&&room (l.length+1)) (put lk H i (.list (l.take k.toNat++p.2::l.drop k.toNat)) V.none))=_;exact aD W0 (aD (show intOf (V.int k)=aa (k:Int) from rfl) (aD W0 (aD (gJ (cJ k)) (aD (gJ (du.mpr hk)) (aD (O3 hz) (R7 hl))))))
noncomputable def a0p (l:List Nat)(x:Nat):List Nat:=l.take (l.countP (·≤x))++x::l.drop (l.countP (·≤x))
theorem Gu:gL.glob "bisect_right"=aa (.gl (.ref 56)):=rfl
theorem a0q:gL.glob "bisect_left"=aa (.gl (.ref 65)):=rfl
theorem a0r:gL.glob "insort_right"=aa (.gl (.ref 47)):=rfl
theorem Gv:gL.bN 56 "__init__"=aC:=rfl
theorem a0s:gL.bN 65 "__init__"=aC:=rfl
theorem a0t:gL.bN 47 "__init__"=aC:=rfl
theorem X4 {l:List V}(hm:aa1.contains m=az)(h:H[i]?=aa (.list l)):Rz G H (.ref i) m=aa (.lst i):=f9 h (m8 hm rfl)
theorem aBm:aa1.contains ("insert":aM)=az:=rfl
theorem aw8:aa1.contains ("append":aM)=az:=rfl
theorem ash:aa1.contains ("index":aM)=az:=rfl
theorem a0u (h:H[i]?=aa (.list (l.map nV)))(hz:l.length≤60)(hs:X8 l)(hl:lk.contains i=aG):p8 gL (n+20) lk 47 [.ref i,.int x] [] [] H=ok .none (H.set i (.list ((a0p l x).map nV))):=by
 refine M3 rfl (b:=Du i x) rfl rfl rfl (j0 (J2 (t8 (u6 (d9 rfl) j4 rfl)) (j0 (t6 (JR Gu Gv (c7 (d9 rfl) (c7 (d9 rfl) (c7 (d9 rfl) (c7 (d9 rfl) d8)))) (a0n h hz hs)) n7) o9)) (j0 (M9 (t7 (d9 rfl) (X4 aBm h) (c7 (d9 rfl) (c7 (d9 rfl) d8)) d8 (a0o h ?_ ?_ hl))) o9)) ?_
 ·rw[aJ];exact Hz
 ·rw[aJ];exact bz hz (by decide)
 ·delta a0p
  exact aD cC (aD List.map_take (aD bV (aD List.map_drop (H8 (bx ..)))))
end
end
section
section
variable {H:Hp}{i x lo hi:Nat}{l:List Nat}
theorem alb (h:H[i]?=aa (.list (l.map nV)))(e:l[(lo+hi)/2]?=aa y)(hz:(lo+hi)/2≤1000)(hy:y<x)(o:Option Nat):
  G5 (iY gL (n+9) lk) JQ (RP i x lo hi o H)=fc .next (RP i x ((lo+hi)/2+1) hi (aa ((lo+hi)/2)) H):=by
 cases o<;>exact j0 (t6 (G7 (G7 (d9 rfl) (d9 rfl) rfl) j4 akv) n7) (j0 (J2 (t8 (u6 (I4 (d9 rfl) (d9 rfl) (J8 h (V2 e) hz)) (d9 rfl) (aq6 hy))) (j0 (t6 (G7 (d9 rfl) j4 rfl) n7) o9)) o9)
theorem alc (h:H[i]?=aa (.list (l.map nV)))(e:l[(lo+hi)/2]?=aa y)(hz:(lo+hi)/2≤1000)(hy:¬y<x)(o:Option Nat):
  G5 (iY gL (n+9) lk) JQ (RP i x lo hi o H)=fc .next (RP i x lo ((lo+hi)/2) (aa ((lo+hi)/2)) H):=by
 cases o<;>exact j0 (t6 (G7 (G7 (d9 rfl) (d9 rfl) rfl) j4 akv) n7) (j0 (M7 (t8 (u6 (I4 (d9 rfl) (d9 rfl) (J8 h (V2 e) hz)) (d9 rfl) (ai6 hy))) (j0 (t6 (d9 rfl) n7) o9)) o9)
theorem Qd (h:H[i]?=aa (.list (l.map nV)))(hz:l.length≤1000):∀k lo hi o,∀J:hi-lo≤k,∀J:lo≤hi,∀J:hi≤l.length,∀J:(∀j y:Nat,∀J:l[j]?=aa y,∀J:j<lo,y<x),∀J:(∀j y:Nat,∀J:l[j]?=aa y,∀J:hi≤j,x≤y),∀J:X8 l,∃r vU o',Bg (λσ=>jV σ (vG gL (n+9) (σ.fm lk) (.cmp .Lt (.loc "lo") (.loc "hi")) σ.hp)) (G5 (iY gL (n+9) lk) JQ) (k+1) (RP i x lo hi o H)=fc .next (RP i x r vU o' H)∧r≤l.length∧(∀j y:Nat,∀J:l[j]?=aa y,∀J:j<r,y<x)∧(∀j y:Nat,∀J:l[j]?=aa y,∀J:r≤j,x≤y):=λk=>by
 induction k with
 | zero=>
  intro lo hi o h1 h2 h3 h4 h5 _;obtain rfl:hi=lo:=gZ (Nat.sub_eq_zero_iff_le.mp (Rq.mp h1)) h2;exact⟨hi,hi,o,akm (H6 (t8 (u6 (d9 rfl) (d9 rfl) (ai6 (eX hi))))),h3,h4,h5⟩
 | succ k ih=>
  intro lo hi o h1 h2 h3 h4 h5 h6;by_cases wu:lo<hi
  ·have hm:=ZC wu
   have hml:=bA hm.2 h3;have e:=bD hml;by_cases hy:l[(lo+hi)/2]<x
   ·obtain⟨r,vU,o',q,q1⟩:=ih ((lo+hi)/2+1) hi (aa ((lo+hi)/2)) (dF (bA (wi wu (sG hm.1)) h1)) hm.2 h3 (λj y ej hj=>bz (h6 _ _ _ _ ej e (dF hj)) hy) h5 h6
    exact⟨r,vU,o',JT (H6 (t8 (u6 (d9 rfl) (d9 rfl) (aq6 wu)))) (alb h e (ak (bR hml) hz) hy o) q,q1⟩
   ·obtain⟨r,vU,o',q,q1⟩:=ih lo ((lo+hi)/2) (aa ((lo+hi)/2)) (dF (bA (Rr hm.1 hm.2) h1)) hm.1 (bR hml) h4 (λj y ej hj=>ak (eU hy) (h6 _ _ _ _ e ej hj)) h6
    exact⟨r,vU,o',JT (H6 (t8 (u6 (d9 rfl) (d9 rfl) (aq6 wu)))) (alc h e (ak (bR hml) hz) hy o) q,q1⟩
  ·obtain rfl:hi=lo:=gZ (eU wu) h2
   exact⟨hi,hi,o,akm (H6 (t8 (u6 (d9 rfl) (d9 rfl) (ai6 wu)))),h3,h4,h5⟩
theorem a0v (h:H[i]?=aa (.list (l.map nV)))(hz:l.length≤60)(hs:X8 l):p8 gL (n+12) lk 65 [.ref i,.int x] [] [] H=ok (.int (l.countP (·<x))) H:=by
 refine qm λY Z=> ?_;obtain⟨r,vU,o',e,h1,h2,h3⟩:=Qd h (ak hz (by decide)) 63 0 l.length aC (ak (uB _ _) (ak hz (by decide))) (cL _) (aN _) (λj y U q=>absurd q (nG j)) (λj y e q=>absurd (aL.mp e).1 (iG q)) hs;refine Z ?_;refine nF (aO4 h1 (λj y e q=>gJ (h2 j y e q)) (λj y e q=>decide_eq_false (iG (h3 j y e q)))) ?_;exact G6 rfl (b:=Du i x) rfl rfl rfl
  (j0 (M7 (t8 (u6 (d9 rfl) j4 (ai6 (eX 0)))) o9) (j0 (J2 (t8 (u6 (d9 rfl) j4 rfl)) (j0 (t6 (O2 rfl (d9 rfl) (JZ h)) n7) o9)) (j0 (J2 (t8 (u6 (d9 rfl) j4 rfl)) (j0 (aBe e) o9)) (K6 (S8 (d9 rfl)))))) (H8 rfl)
theorem a0w {l:List V}(h:H[i]?=aa (.list l))(hk:k<l.length)(hl:lk.contains i=aG):afg G r lk (.ref i) (.int k) H=ok () (H.set i (.list (l.eraseIdx k))):=by show opt (listAt H (.ref i)) (λp=>fV (decide (0≤(k:Int))&&decide ((k:Int)<p.2.length)) (put lk H p.1 (.list (p.2.eraseIdx (k:Int).toNat)) ()))=_;exact aD (K1 h) (aD W0 (aD (gJ (cJ k)) (aD (gJ (iJ.mpr hk)) (R7 hl))))
theorem aI9 {α β:Type}(f:α->β):∀(l:List α)(k:Nat),(l.map f).eraseIdx k=(l.eraseIdx k).map f
 | [],_=>rfl
 | _::_,0=>rfl
 | a::l,k+1=>congrArg (f a::·) (aI9 f l k)
noncomputable def Dv (l:List Nat)(x:Nat):List Nat:=a0p (l.eraseIdx (l.countP (·<x))) (x+1)
theorem Qe (h:H[i]?=aa (.list (l.map nV)))(hi:i<H.length)(hz:l.length≤60)(hs:X8 l)(Ga:X8 (l.eraseIdx (l.countP (·<x))))(hx:l.countP (·<x)<l.length)(hl:lk.contains i=aG):
  p8 gL (n+24) lk 407 [.ref i,.int x] [] [] H=ok .none (H.set i (.list ((Dv l x).map nV))):=by
 have e:=a0u (n:=n+1) (x:=x+1) (bC hi) (ak (DY ..) hz) Ga hl;simp only[iH]at e;refine G6 rfl rfl rfl rfl
  (j0 (aBf (d9 rfl) (JR a0q a0s (c7 (d9 rfl) (c7 (d9 rfl) d8)) (a0v h hz hs)) (a0w h (by simp only[aJ];exact hx) hl)) (K6 (S8 (JR a0r a0t (c7 (d9 rfl) (c7 (G7 (d9 rfl) j4 rfl) d8)) ?_)))) (H8 (bx ..))
 simp only[aI9];exact e
end
end
section
structure Cl (lk:List Nat)(H:Hp):Prop where
 hp:M5 H.length H=az
 lk:∀j∈lk,j<H.length
section
variable {m i j:Nat}{H T:Hp}{lk:List Nat}{α:Type}
theorem aO5:∀{H:Hp}{j:Nat},∀J:M5 m H=az,∀J:M4 m o=az,M5 m (H.set j o)=az
 | [],_,h,_=>h
 | a::H,0,h,ho=>by show(M4 m o&&M5 m H)=az;refine aD ho (aD ((j5 h).2) ?_);rfl
 | a::H,j+1,h,ho=>by show(M4 m a&&M5 m (H.set j o))=az;refine aD ((j5 h).1) (aD (aO5 (j5 h).2 ho) ?_);rfl
theorem Cl.set (c:Cl lk H)(ho:M4 H.length o=az):Cl lk (H.set j o):=⟨by refine aD bx ?_;exact aO5 c.hp ho,by refine aD bx ?_;exact c.lk⟩
theorem Cl.drop {v:V}(c:Cl lk H)(hv:v.lt H.length=az):Lz H.length (ok v (H++T))=ok v H:=akn hv c.hp
theorem m6 (h:H[i]?=aa o):(H++T)[i]?=aa o:=(ig (aL.mp h).1).trans h
theorem q9:(H++ [o])[H.length]?=aa o:=An
theorem ad0:(H++ [o]).set H.length o'=H++ [o']:=by rw[HB _ _ (aN _),pG];rfl
theorem R3 (h:i<H.length):(H++T).set i o=H.set i o++T:=List.set_append_left _ _ h
theorem ag3 {f:α->V}(h:∀a,(f a).lt m=az):∀l:List α,V.qO m (l.map f)=az:=by
 intro zz
 induction zz with
 | nil=>
  exact rfl
 | cons a l ih=>
  show((f a).lt m&&V.qO m (l.map f))=az;refine aD (h a) (aD ih ?_);rfl
variable {ifs:List j6}
theorem T8 (hl:lk.contains H.length=aG)(hz:acc.length<1000):CK lk H.length v (H++ [.list acc])=ok () (H++ [.list (acc++ [v])]):=f9 (K1 q9) (m8 (O3 hz) (aD (R7 hl) (aD ad0 rfl)))
theorem qX (h1:K5 G n lk t v σ=fc () ⟨L,C,H⟩)(h2:allB (vG G n ⟨L,C,lk⟩) ifs H=ok az H1)(h3:dY G n ⟨L,C,lk⟩ elt H1=ok w H2)(h4:CK lk i w H2=ok () H3):turn (u9 G n) lk i elt t ifs v σ=fc () ⟨L,C,H3⟩:=
 w6 h1 (w6 (H6 h2) (H6 (j7 h3 h4)))
theorem Ax (h1:K5 G n lk t v σ=fc () ⟨L,C,H⟩)(h2:allB (vG G n ⟨L,C,lk⟩) ifs H=ok aG H1):turn (u9 G n) lk i elt t ifs v σ=fc () ⟨L,C,H1⟩:=
 w6 h1 (w6 (H6 h2) rfl)
theorem aa7 {f:j6->Hp->Out Bool}:allB f [] H=ok az H:=rfl
theorem ao0 {f:j6->Hp->Out Bool}(h:f e H=ok az H1):allB f [e] H=ok az H1:=j7 h rfl
theorem ao1 {f:j6->Hp->Out Bool}(h:f e H=ok aG H1):allB f [e] H=ok aG H1:=j7 h rfl
theorem aU3 (f:α->V)(g:α->Option V)(st:Option α->j8):∀(vs:List α)(o:Option α)(acc:List V),∀J:acc.length+vs.length≤1000,∀J:(∀a∈vs,∀(o:Option α)(acc:List V),∀J:acc.length<1000,turn (u9 G n) lk H.length elt t ifs (f a) ⟨st o,C,H++ [.list acc]⟩=fc () ⟨st (aa a),C,H++ [.list (acc++(g a).toList)]⟩),∃o',ao9 (turn (u9 G n) lk H.length elt t ifs) (vs.map f) ⟨st o,C,H++ [.list acc]⟩=fc () ⟨st o',C,H++ [.list (acc++vs.filterMap g)]⟩:=by
 intro zz
 induction zz with
 | nil=>
  intro o acc _ _;exact⟨o,by refine aD wG ?_;rw[bh];rfl⟩
 | cons a vs ih=>
  intro o acc hz h;have hg:(acc++(g a).toList).length+vs.length≤1000:=by
   refine aD aA ?_;have:(g a).toList.length≤1:=by cases g a<;>first | exact aN 1 | exact cL 1
   exact ak (bB (bK this _) _) (ak (bM (cB _ 1 _)) hz)
  obtain⟨o',e⟩:=ih (aa a) (acc++(g a).toList) hg λb hb=>h b (.tail _ hb);refine⟨o',(w6 (h a (.head _) o acc (bA (nZ (fB _)) hz)) e).trans ?_⟩;rw[aH];cases q:g a with
  | none=>refine aD (dm q) ?_;rfl
  | some b=>refine aD (cP q) ?_;rfl
theorem ZD (f:α->V)(g:α->Option V)(st:Option α->j8){vs:List α}(h0:st aC= [])(hi:yl (u9 G n) φ it H=ok (vs.map f,lks) H1)(hC:(φ.cR.filter λp=>xT.contains p.1)=C)(hz:vs.length≤1000)
  (h:∀a∈vs,∀(o:Option α)(acc:List V),∀J:acc.length<1000,turn (u9 G n) (lks++φ.lk) H1.length elt t ifs (f a) ⟨st o,C,H1++ [.list acc]⟩=fc () ⟨st (aa a),C,H1++ [.list (acc++(g a).toList)]⟩):
  dY G (n+1) φ (.comp elt t it ifs xT) H=ok (.ref H1.length) (H1++ [.list (vs.filterMap g)]):=by
 obtain⟨o',e⟩:=aU3 f g st vs aC [] (by simp only[qw,kW];exact hz) h;rw[h0]at e;refine j7 hi ?_;rw[←hC]at e;refine aD e ?_;rfl
end
end
section
noncomputable abbrev pV (p:aM×aM):V:= .tup [.str p.1,.str p.2]
structure Ei (s:aM):Prop where
 low:iD s=s
 ok:cz s=az
 good:s.cps.toList.any RE.nM=aG
 len:s.length≤1000
structure Bv (s:aM):Prop where
 good:s.cps.toList.any RE.qC=aG
 len:s.length≤1000
section
theorem aC1:gL.glob "type"=aa (.gl (.type "type")):=rfl
theorem ai7:gL.glob "str"=aa (.gl (.type "str")):=rfl
theorem U3:gL.glob "len"=aa (.gl (.builtin "len")):=rfl
theorem asl:gL.glob "int"=aa (.gl (.type "int")):=rfl
theorem aBn:gL.glob "_name_disallowed_re"=aa (.gl (.ref 236)):=rfl
theorem aBo:gL.glob "_value_disallowed_re"=aa (.gl (.ref 241)):=rfl
theorem aBp:Rz gL H (.gl (.ref 236)) ("search":aM)=aa (.re RE.nM):=rfl
theorem aBq:Rz gL H (.gl (.ref 241)) ("search":aM)=aa (.re RE.qC):=rfl
theorem aO6:Lw H "type" (.str s)=ok (.gl (.type "str")) H:=rfl
theorem ZF:Q5 H .Is (.gl (.type "str")) (.gl (.type "str"))=aa az:=rfl
theorem aJ0 {bad:Nat->Bool}(hb:s.cps.toList.any bad=aG)(hz:s.length≤1000):U8 r lk (.re bad) ov m [.str s] [] [] H=ok .none H:=by refine m8 rfl (f9 rfl (f9 rfl (m8 (O3 hz) ?_)));refine aD hb ?_;rfl
theorem aC2 (hg:s.cps.toList.any RE.nM=aG)(hz:s.length≤1000):p8 gL (n+12) lk 271 [v,.str s] ["name"] [.bool az] H=ok (.str s) H:=
 G6 rfl rfl rfl rfl
  (K6 (J2 (t8 (u6 (PT aC1 (d9 rfl) aO6) (zQ ai7) ZF)) (j0 (t6 (aw3 (Zo rfl rfl) (zQ aBn)) n7) (j0 (M7 (JS (t7 (d9 rfl) aBp (c7 (d9 rfl) d8) d8 (aJ0 hg hz)) rfl) o9) (K6 (S8 (d9 rfl))))))) (H8 rfl)
theorem Gw (h:Bv s):p8 gL (n+12) lk 271 [v,.str s] ["name"] [.bool aG] H=ok (.str s) H:=
 G6 rfl rfl rfl rfl
  (K6 (J2 (t8 (u6 (PT aC1 (d9 rfl) aO6) (zQ ai7) ZF)) (j0 (t6 (aw4 (Zo rfl rfl) (zQ aBo)) n7) (j0 (M7 (JS (t7 (d9 rfl) aBq (c7 (d9 rfl) d8) d8 (aJ0 h.good h.len)) rfl) o9) (K6 (S8 (d9 rfl))))))) (H8 rfl)
structure Ka (H:Hp)(i j:Nat)(ps:List (aM×aM)):Prop where
 inst:H[i]?=aa (.inst 370 [("_headers",.ref j)])
 row:H[j]?=aa (.list (ps.map pV))
 len:ps.length<900
theorem O6 (h:H[i]?=aa (.inst c d))(hm:Q6 gL c d m=aa f):Rz gL H (.ref i) m=aa (.fn f):=f9 h (by show(Q6 gL c d m).map Ry.fn=_;refine aD hm ?_;rfl)
theorem ak6:Q6 gL 370 [("_headers",j)] "_convert_string_type"=aa 271:=rfl
theorem aBr:Q6 gL 370 [("_headers",j)] "get"=aa 317:=rfl
theorem aBs:Q6 gL 370 [("_headers",j)] "add_header"=aa 367:=rfl
theorem aBt:Q6 gL 370 [("_headers",j)] "get_all"=aa 309:=rfl
theorem av9:Q6 gL 370 [("_headers",j)] "items"=aa 334:=rfl
theorem aBu:gL.bN 370 "__delitem__"=aa 290:=rfl
theorem aBv:gL.bN 370 "__setitem__"=aa 285:=rfl
theorem Dw:z7.contains ("_headers":aM)=az:=rfl
theorem Y9 (hn:z7.contains m=az)(h:H[i]?=aa o)(hd:aD9 o=aa d)(hl:d.lookup m=aa v)(hg:SN v=az):Ls H (.ref i) m=aa v:=
 m8 hn (f9 rfl (f9 h (f9 hd (f9 hl (m8 hg rfl)))))
theorem ak7 (h:Ka H i j ps):Ls H (.ref i) ("_headers":aM)=aa (.ref j):=Y9 Dw h.inst rfl rfl rfl
theorem Dy:V7.contains ("lower":aM)=az:=rfl
theorem O4 (hm:V7.contains m=az):Rz gL H (.str s) m=aa (.str s):=m8 hm rfl
theorem Dz (h:iD s=nm)(hz:nm.length≤1000):U8 r lk (.str s) ov ("lower":aM) [] [] [] H=ok (.str nm) H:=by refine m8 rfl ?_;delta Lx;exact aD (bG rfl) (aD h (m8 (by refine aD (O3 hz) ?_;rfl) rfl))
theorem aA2 (hv:φ.loc.lookup ("self":aM)=aa (.ref i))(h:Ka H i j ps)(he:dY gL (n+13) φ e H=ok (.str nm) H)(hl:iD nm=lm)(hk:Ei lm):
  dY gL (n+15) φ (.bN (.loc "self") "_convert_string_type" [(.bN e "lower" [] [] [])] ["name"] [(.cst (.bool az))]) H=ok (.str lm) H:=
 t7 (d9 hv) (O6 h.inst ak6) (c7 (t7 he (O4 Dy) d8 d8 (Dz hl hk.len)) d8) (c7 j4 d8) (aC2 hk.good hk.len)
theorem eqS (ha:cz a=az)(hb:cz b=az):eqP H (.str a) (.str b)=aa (a==b):=
 f9 (m8 ha rfl) (f9 (m8 hb rfl) rfl)
noncomputable def kvE:Option (aM×aM)->j8
 | none=> []
 | some p=> [("k",.str p.1),("v",.str p.2)]
noncomputable def aPj:Option (aM×aM)->Fl
 | some p=> .ret (.str p.2)
 | none=> .next
theorem ZG {lk0:List Nat}(hk:Ei lm):∀(ps:List (aM×aM))(o:Option (aM×aM)),∀J:(∀p∈ps,Ei p.1),∃o',U5 (Q8 gL (n+15) lk (.tup [.loc "k",.loc "v"]) Zf) (G5 (iY gL (n+15) lk0) []) (ps.map pV) ⟨("self",.ref i)::("name",.str lm)::("default",.none)::kvE o, [],H⟩=
  fc (aPj (ps.find? λp=>p.1==lm)) ⟨("self",.ref i)::("name",.str lm)::("default",.none)::kvE o', [],H⟩:=by
 intro zz
 induction zz with
 | nil=>
  intro o _;exact⟨o,rfl⟩
 | cons p ps ih=>
  intro o h;have ht:K5 gL (n+15) lk (.tup [.loc "k",.loc "v"]) (pV p) ⟨("self",.ref i)::("name",.str lm)::("default",.none)::kvE o, [],H⟩=fc () ⟨("self",.ref i)::("name",.str lm)::("default",.none)::kvE (aa p), [],H⟩:=by cases o<;>exact Z5 n7 n7
  have hp:=h p (.head _);have hc:dY gL (n+13) ⟨("self",.ref i)::("name",.str lm)::("default",.none)::kvE (aa p), [],lk⟩ (.cmp .Eq (.bN (.loc "k") "lower" [] [] []) (.loc "name")) H=ok (.bool (p.1==lm)) H:=
   u6 (t7 (d9 rfl) (O4 Dy) d8 d8 (Dz hp.low hp.len)) (d9 rfl) (eqS hp.ok hk.ok)
  cases q:p.1==lm with
  | true=>
   replace hc:=q▸hc;exact⟨aa p,by refine aD (ud (by exact q)) ?_;exact a0g (Q4 ht (K6 (J2 (t8 hc) (K6 (S8 (d9 rfl))))))⟩
  | false=>
   rw[q]at hc;obtain⟨o',e⟩:=ih (aa p) λp hp=>h p (.tail _ hp);exact⟨o',by refine aD (Et (by refine aD q ?_;exact bU)) ?_;exact R0 (Q4 ht (j0 (M7 (t8 hc) o9) o9)) e⟩
theorem ZJ (h:Ka H i j ps)(hl:iD nm=lm)(hk:Ei lm)(ZK:∀p∈ps,Ei p.1)(hf:ps.find? (λp=>p.1==lm)=aa p):p8 gL (n+20) lk 317 [.ref i,.str nm] [] [] H=ok (.str p.2) H:=by
 refine jA (ZG (n:=n+3) (i:=i) (lk:= [j]++lk) (lk0:=lk) (H:=H) hk ps aC ZK) λo' e=> ?_;simp only[hf]at e;exact G6 rfl rfl rfl rfl
  (j0 (t6 (aA2 rfl h (d9 rfl) hl hk) n7) (K6 (W7 (j7 (z8 (d9 rfl) (ak7 h)) (f9 (f9 h.row rfl) rfl)) e))) (H8 rfl)
end
end
section
section
variable {ps:List (aM×aM)}
noncomputable def kvV:Option (aM×aM)->j8
 | none=> []
 | some p=> [("kv",pV p)]
theorem aC3 (o:Option (aM×aM))(p:aM×aM):K5 gL (n+1) Ir (.loc "kv") (pV p) ⟨kvV o,C,H⟩=fc () ⟨kvV (aa p),C,H⟩:=by cases o<;>exact n7
theorem a00 (q:aM×aM->Bool):∀ps:List (aM×aM),(ps.filterMap λp=>if q p then aa (pV p) else aC)=(ps.filter q).map pV:=by
 intro zz
 induction zz with
 | nil=>
  exact rfl
 | cons p ps ih=>
  cases h:q p with
  | true=>rw[cP (by rw[h];rfl),fY (h),bV,ih]
  | false=>rw[dm (by rw[h];rfl),eQ (by rw[h];exact bU),ih]
theorem neS (ha:cz a=az)(hb:cz b=az):Q5 H .NotEq (.str a) (.str b)=aa (!(a==b)):=by show(eqP H (.str a) (.str b)).map (!·)=_;refine aD (eqS ha hb) ?_;rfl
theorem Kc (h:Ka H i j ps):ug H (.ref i)=aa (i,370, [(("_headers":aM),V.ref j)]):=f9 rfl (f9 h.inst rfl)
theorem ae9 (ps:List (aM×aM)):V.qO m (ps.map pV)=az:=ag3 (λU=>rfl) ps
theorem aF5 (l new:List V):SX l new aC aC=new:=by delta SX;refine aD (show eE aC aC aC l.length=(0,(l.length:Int),1) from rfl) ?_;simp only[Int.toNat_zero,aup,nC,show(max 0 (l.length:Int)).toNat=l.length from congrArg nW (mH (cJ _)),tC,bh]
theorem ZL (hn:H[k]?=aa (.list new))(hl:H[j]?=aa (.list l))(hz:l.length+new.length≤1000)(hk:lk.contains j=aG):am6 lk H (.ref j) .none .none (.ref k)=ok () (H.set j (.list new)):=by refine f9 (K1 hn) (f9 rfl (f9 rfl (f9 rfl (f9 hl ?_))));show fV (room (l.length+new.length)) (put lk H j (.list (SX l new aC aC)) ())=_;rw[aF5];exact m8 (O3 hz) (R7 hk)
theorem ZM (c:Cl lk H)(h:Ka H i j ps)(hl:iD nm=lm)(hk:Ei lm)(ZK:∀p∈ps,Ei p.1)(hz:ps.length≤450)(hj:lk.contains j=aG):p8 gL (n+20) lk 290 [.ref i,.str nm] [] [] H=ok .none (H.set j (.list ((ps.filter λp=> !(p.1==lm)).map pV))):=by
 have hjl:=(aL.mp h.row).1;have e:=ZD (n:=n+17) (φ:=⟨[("self",.ref i)], [("name",.str lm)],lk⟩) (elt:= .loc "kv") (it:= .attr (.loc "self") "_headers") (xT:= ["name"]) (C:= [("name",.str lm)]) pV (λp=>if (!(p.1==lm))=az then aa (pV p) else aC) kvV rfl (j7 (z8 (d9 rfl) (ak7 h)) (f9 (f9 h.row rfl) rfl)) rfl (ak hz (by decide)) (λp hp o acc ha=>by
   have hc:dY gL (n+16) ⟨kvV (aa p), [("name",.str lm)], [j]++lk⟩ (.cmp .NotEq (.bN (.sub (.loc "kv") (.cst (.int 0))) "lower" [] [] []) (.cR "name")) (H++ [.list acc])=ok (.bool (!(p.1==lm))) (H++ [.list acc]):=
    u6 (t7 (I4 (d9 rfl) j4 rfl) (O4 Dy) d8 d8 (Dz (ZK p hp).low (ZK p hp).len)) (J6 rfl) (neS (ZK p hp).ok hk.ok)
   cases q: !(p.1==lm) with
   | true=>
    rw[q]at hc;exact aD (bG rfl) (qX (aC3 o p) (ao0 (t8 hc)) (d9 rfl) (T8 (gR.mpr λq=>(aY.mp (dj.mp q)).elim (λq=>eX _ (q▸hjl)) λq=>eX _ (c.lk _ q)) ha))
   | false=>
    rw[q]at hc;refine aD (bu bU) ?_;refine(Ax (aC3 o p) (ao1 (t8 hc))).trans ?_;show _=fc () ⟨_,_,H++ [.list (acc++ [])]⟩;rw[bh])
 rw[a00]at e;have hs:=ZL (show(H++ [p6.list ((ps.filter λp=> !(p.1==lm)).map pV)])[H.length]?=aa (.list ((ps.filter λp=> !(p.1==lm)).map pV)) from q9) (m6 h.row) (by rw[aJ,aJ];have:=fU (λp:aM×aM=> !(p.1==lm)) ps;exact ak (gB hz (ak this hz)) (by decide)) hj;rw[R3 hjl]at hs;refine M3 rfl rfl rfl rfl
  (j0 (t6 (aA2 rfl h (J6 rfl) hl hk) Dt) (j0 (t6 e (Zr (z8 (d9 rfl) (Y9 Dw (m6 h.inst) rfl rfl rfl)) j4 j4 hs)) o9)) ?_
 have z:=(c.set (j:=j) (o:= .list ((ps.filter λp=> !(p.1==lm)).map pV)) (ae9 _)).drop (T:= [.list ((ps.filter λp=> !(p.1==lm)).map pV)]) (v:= .none) rfl;rw[bx]at z;exact z
theorem a01 (h:Ka H i j ps)(hz:qs.length<900):Ka (H.set j (.list (qs.map pV))) i j qs where
 inst:=(bH (λq=>by
  have:=h.row;rw[q,h.inst]at this;cases this)).trans h.inst
 row:=bC (aL.mp h.row).1
 len:=hz
theorem ZP (q:aM×aM->Bool)(hz:ps.length≤450):(ps.filter q).length≤450:=ak (fU _ _) hz
theorem ZQ (c:Cl lk H)(h:Ka H i j ps)(hk:Ei nm)(hv:Bv vl)(ZK:∀p∈ps,Ei p.1)(hz:ps.length≤450)(hj:lk.contains j=aG):p8 gL (n+25) lk 285 [.ref i,.str nm,.str vl] [] [] H=ok .none (H.set j (.list ((ps.filter (λp=> !(p.1==nm))++ [(nm,vl)]).map pV))):=by
 have hf:=ZP (λp=> !(p.1==nm)) hz;have h1:=a01 h (bz hf (by decide));have ha:(H.set j (.list ((ps.filter λp=> !(p.1==nm)).map pV))).set j (.list ((ps.filter λp=> !(p.1==nm)).map pV++ [pV (nm,vl)]))=H.set j (.list ((ps.filter (λp=> !(p.1==nm))++ [(nm,vl)]).map pV)):=by simp only[iH,cC];rfl
 have ap:=an9 (j:=j) (v:=pV (nm,vl)) h1.row (by rw[aJ];exact bz hf (by decide)) hj (r:=u9 gL (n+22));simp only[ha]at ap;exact M3 rfl rfl rfl rfl
  (j0 (aBf (d9 rfl) (d9 rfl) (f9 (Kc h) (f9 aBu (j7 (ZM c h hk.low hk ZK hz hj) rfl))))
   (j0 (M9 (t7 (z8 (d9 rfl) (ak7 h1)) (X4 aw8 h1.row) (c7 (U6 (c7 (t7 (d9 rfl) (O6 h1.inst ak6) (c7 (d9 rfl) d8) (c7 j4 d8) (aC2 hk.good hk.len)) (c7 (t7 (d9 rfl) (O6 h1.inst ak6) (c7 (d9 rfl) d8) (c7 j4 d8) (Gw hv)) d8))) d8) d8 ap)) o9)) (H8 (bx ..))
theorem ao2 (hv:v.lt k=aG):Lz k (ok v H)=ok v H:=by show(if H.length=k then aa (Res.ok v,H) else if (v.lt k&&M5 k (H.take k))=az then aa (Res.ok v,H.take k) else aa (Res.ok v,H))=_;refine aD hv ?_;rw[Bd,bu bU,ite_self]
theorem aj2:(V.ref m).lt m=aG:=decide_eq_false (eX m)
theorem eqC (ha:cz a=az)(hb:cz b=az):Q5 H .Eq (.str a) (.str b)=aa (a==b):=eqS ha hb
theorem aBy (q:aM×aM->Bool):∀ps:List (aM×aM),(ps.filterMap λp=>if q p then aa (V.str p.2) else aC)=(ps.filter q).map λp=> .str p.2:=by
 intro zz
 induction zz with
 | nil=>
  exact rfl
 | cons p ps ih=>
  cases h:q p with
  | true=>rw[cP (by rw[h];rfl),fY (h),bV,ih]
  | false=>rw[dm (by rw[h];rfl),eQ (by rw[h];exact bU),ih]
theorem ZR (c:Cl lk H)(h:Ka H i j ps)(hl:iD nm=lm)(hk:Ei lm){lw:aM×aM->aM}(ZK:∀p∈ps,iD p.1=lw p∧cz (lw p)=az∧(lw p).length≤1000)(hz:ps.length≤450):p8 gL (n+20) lk 309 [.ref i,.str nm] [] [] H=ok (.ref H.length) (H++ [.list ((ps.filter λp=>lw p==lm).map λp=> .str p.2)]):=by
 have e:=ZD (n:=n+17) (φ:=⟨[("self",.ref i)], [("name",.str lm)],lk⟩) (elt:= .sub (.loc "kv") (.cst (.int 1))) (it:= .attr (.loc "self") "_headers") (xT:= ["name"]) (C:= [("name",.str lm)]) pV (λp=>if (lw p==lm)=az then aa (.str p.2) else aC) kvV rfl (j7 (z8 (d9 rfl) (ak7 h)) (f9 (f9 h.row rfl) rfl)) rfl (ak hz (by decide)) (λp hp o acc ha=>by
   have hc:dY gL (n+16) ⟨kvV (aa p), [("name",.str lm)], [j]++lk⟩ (.cmp .Eq (.bN (.sub (.loc "kv") (.cst (.int 0))) "lower" [] [] []) (.cR "name")) (H++ [.list acc])=ok (.bool (lw p==lm)) (H++ [.list acc]):=
    u6 (t7 (I4 (d9 rfl) j4 rfl) (O4 Dy) d8 d8 (Dz (ZK p hp).1 (ZK p hp).2.2)) (J6 rfl) (eqC (ZK p hp).2.1 hk.ok)
   cases q:lw p==lm with
   | true=>
    rw[q]at hc;exact aD (bG rfl) (qX (aC3 o p) (ao0 (t8 hc)) (I4 (d9 rfl) j4 rfl) (T8 (gR.mpr λq=>(aY.mp (dj.mp q)).elim (λq=>eX _ (q▸((aL.mp h.row).1))) λq=>eX _ (c.lk _ q)) ha))
   | false=>
    rw[q]at hc;refine aD (bu bU) ?_;refine(Ax (aC3 o p) (ao1 (t8 hc))).trans ?_;show _=fc () ⟨_,_,H++ [.list (acc++ [])]⟩;rw[bh])
 rw[aBy]at e;exact G6 rfl rfl rfl rfl
  (j0 (t6 (aA2 rfl h (J6 rfl) hl hk) Dt) (K6 (S8 e))) (ao2 aj2)
end
end
section
theorem a02 (a b:Nat):vp a b 1=(cD (b-a)).map (a+·):=by
 have e:(if (1:Int)>0 then(if (a:Int)<b then((b:Int)-a+1-1)/1 else 0) else(if (a:Int)>b then((a:Int)-b-1-1)/(-1) else 0)).toNat=b-a:=by
  rw[bG (by decide)];by_cases h:(a:Int)<b
  ·rw[bG h,yc,jy,Int.toNat_sub]
  ·rw[bu h];exact(Lf (du.mp (jx.mp h))).symm
 delta vp;dsimp only;exact aD e (gU λk U=>congrArg (λz:Int=>(a+z).toNat) (Int.one_mul k))
theorem aR7 (n:Nat):vp ((n:Int)-1) (-1) (-1)=(cD n).map λk=>n-1-k:=by
 have e:(if (-1:Int)>0 then(if (n:Int)-1< -1 then(-1-((n:Int)-1)+ -1-1)/ -1 else 0) else(if (n:Int)-1> -1 then((n:Int)-1- -1- -1-1)/(- -1) else 0)).toNat=n:=by
  rw[bu (by decide)];cases n with
  | zero=>rfl
  | succ n=>rw[bG (show((n+1:Nat):Int)-1> -1 from kI (show(-1:Int)<0 by decide) (vC (du.mpr (fB n)))),QZ,QZ,wY,jy,show(- -1:Int)=1 from rfl,yc];rfl
 delta vp;dsimp only;refine aD e ?_;exact gU λk U=>by simp only[Int.neg_mul,Int.one_mul,←Int.sub_eq_add_neg,Int.sub_sub,Nat.sub_sub];exact Int.toNat_sub n (1+k)
section
variable {α:Type}
theorem at4 {a b:Nat}(h:eE lo hi st l.length=((a:Int),(b:Int),(1:Int)))(hab:a≤b)(hb:b≤l.length):jJ l lo hi st=(l.drop a).take (b-a):=by unfold jJ picks;refine aD h ?_;simp only[a02,StrLaws.picks l _ _ (ak (bM (Su hab)) hb)]
theorem ZS:jJ l aC aC aC=l:=by rw[at4 rfl (cL _) (aN _),oM,ux,yD]
theorem Qf (h:1≤l.length):jJ l (aa 1) aC aC=l.drop 1:=by
 rw[at4 ?_ h (aN _)]
 ·exact uc (bM tB)
 ·show((max 0 (min 1 (l.length:Int)),(l.length:Int),1):Int×Int×Int)=_
  exact aD (congrArg (max 0) (qJ (du.mpr h))) rfl
theorem Qg (h:1≤l.length):jJ l aC (aa (-1)) aC=l.take (l.length-1):=by
 rw[at4 (b:=l.length-1) ?_ (cL _) (uB _ _)]
 ·simp only[oM,ux]
 ·show((0,max 0 (min (-1+(l.length:Int)) (l.length:Int)),1):Int×Int×Int)=_
  refine aD (show max (0:Int) (min (-1+(l.length:Int)) (l.length:Int))=((l.length-1:Nat):Int) from by
   exact aD ((yh _ _).trans (Int.ofNat_sub h).symm) (aD (qJ (du.mpr (uB _ _))) (aD (mH (cJ _)) rfl))) ?_
  rfl
theorem ZV:jJ l aC aC (aa (-1))=l.reverse:=by
 unfold jJ picks;refine aD (show eE aC aC (aa (-1)) l.length=((l.length:Int)-1,-1,-1) from rfl) ?_;rw[aR7];have:∀m,∀J:m≤l.length,((cD m).map λk=>l.length-1-k).filterMap (l[·]?)=(l.drop (l.length-m)).reverse:=λm=>by
  induction m with
  | zero=>intro _;simp only[ux,tC];rfl
  | succ m ih=>
   intro hm;refine aD List.range_succ (aD cC (aD List.filterMap_append (aD (ih (pB hm)) ?_)));refine aD (mF (xj (bA (fB m) hm) (fB m))) (aD (show l.length-(m+1)+1=l.length-m from Nat.succ_pred_eq_of_pos (Nat.sub_pos_of_lt hm)) (aD xO ?_));refine congrArg _ ?_;show auq (l[·]?) [l.length-1-m]=_;refine aD (Nat.sub_right_comm _ _ _) (aD (cP (bD (xj (bA (fB m) hm) (fB m)))) ?_);rfl
 simp only[this _ (aN _),pG,oM]
end
section
theorem ak8 {k:Nat}(h:H[k]?=aa (.list l))(h1:T5 x=aa lo)(h2:T5 y=aa hi)(h3:T5 z=aa st)(h0:st≠aa 0):Cz H (.ref k) x y z=ok (.ref H.length) (H++ [.list (jJ l lo hi st)]):=f9 h1 (f9 h2 (f9 h3 (aD (bu h0) (f9 h rfl))))
theorem aC4 (h:Ka H i j ps):p8 gL (n+12) lk 334 [.ref i] [] [] H=ok (.ref H.length) (H++ [.list (ps.map pV)]):=by
 have e:=ak8 h.row (x:= .none) (y:= .none) (z:= .none) rfl rfl rfl (λq=>iu q);rw[ZS]at e;exact G6 rfl rfl rfl rfl
  (K6 (S8 (Ds (z8 (d9 rfl) (ak7 h)) j4 j4 j4 e))) (ao2 aj2)
theorem aC5:V7.contains ("join":aM)=az:=rfl
theorem asm:∀xs:List aM,ao7 (xs.map V.str)=aa xs:=by
 intro zz
 induction zz with
 | nil=>
  exact rfl
 | cons x xs ih=>
  exact f9 rfl (f9 (ih) rfl)
theorem aC6 {k:Nat}{r:Rec}{ov:V}{xs:List aM}(h:H[k]?=aa (.list (xs.map V.str)))(hz:(xs.map (·.length)).sum+xs.length*s.length≤16777216):U8 r lk (.str s) ov ("join":aM) [.ref k] [] [] H=ok (.str (vq s xs)) H:=by refine m8 rfl ?_;delta Lx;exact aD (bu (by decide+kernel)) (aD (bu (by decide+kernel)) (f9 rfl (aD (bG rfl) (f9 (K1 h) (f9 (asm xs) (m8 (gJ hz) rfl))))))
theorem ZW (c:Cl lk H)(h:Ka H i j ps)(hg:nm.cps.toList.any RE.nM=aG)(hn:nm.length≤1000)(hv:Bv vl)(hz:ps.length≤450)(hj:lk.contains j=aG):p8 gL (n+20) lk 367 [.ref i,.str nm,.str vl] [] [] H=ok .none (H.set j (.list ((ps++ [(nm,vl)]).map pV))):=by
 have hf:lk.contains (H++ [p6.vN]).length=aG:=gR.mpr λq=>by have:=c.lk _ (dj.mp q);rw[aA]at this;exact Nat.not_succ_lt_self this
 have hr:((H++ [p6.vN])++ [p6.list [.str vl]])[j]?=aa (.list (ps.map pV)):=m6 (m6 h.row);have a1:=λr=>an9 (v:=V.str vl) (r:=r) (j:=(H++ [p6.vN]).length) (q9 (o:= .list [])) (by decide) hf;simp only[ad0]at a1;have a2:=λr=>an9 (v:=pV (nm,vl)) (r:=r) (j:=j) hr (by rw[aJ];exact bz hz (by decide)) hj;have e2:((H++ [p6.vN])++ [p6.list [.str vl]]).set j (.list (ps.map pV++ [pV (nm,vl)]))=H.set j (.list ((ps++ [(nm,vl)]).map pV))++ [.vN,.list [.str vl]]:=by simp only[aH,R3 ((aL.mp h.row).1),cC];rfl
 simp only[e2]at a2;have jn:=λr=>aC6 (s:="; ") (r:=r) (lk:=lk) (ov:= .str "; ") (xs:= [vl]) (q9 (H:=H++ [p6.vN])) (by
  exact ak (bB hv.len 2) (by decide))
 refine M3 rfl rfl rfl rfl
  (j0 (t6 (Z2 d8) n7) (j0 (J2 (t8 (u6 (d9 rfl) j4 rfl)) (j0 (t6 (t7 (d9 rfl) (O6 (m6 (m6 h.inst)) ak6) (c7 (d9 rfl) d8) (c7 j4 d8) (Gw hv)) n7) (j0 (M9 (t7 (d9 rfl) (X4 aw8 q9) (c7 (d9 rfl) d8) d8 (a1 _))) o9)))
   (j0 (W7 (j7 (t7 (d9 rfl) (f9 (m6 q9) rfl) d8 d8 (m8 rfl (f9 (m6 q9) rfl))) (f9 (f9 (m6 q9) rfl) rfl)) rfl)
    (j0 (M9 (t7 (z8 (d9 rfl) (Y9 Dw (m6 (m6 h.inst)) rfl rfl rfl)) (X4 aw8 hr) (c7 (U6 (c7 (t7 (d9 rfl) (O6 (m6 (m6 h.inst)) ak6) (c7 (d9 rfl) d8) (c7 j4 d8) (aC2 hg hn)) (c7 (t7 j4 (O4 aC5) (c7 (d9 rfl) d8) d8 (jn _)) d8))) d8) d8 (a2 _))) o9)))) ?_
 have z:=(c.set (j:=j) (o:= .list ((ps++ [(nm,vl)]).map pV)) (ae9 _)).drop (T:= [.vN,.list [.str vl]]) (v:= .none) rfl;simp only[bx]at z;exact z
end
end
section
noncomputable abbrev zR (z:Nat):j8:= [("_initial_size",.int z)]
noncomputable abbrev mX (z:Nat)(ps:List (aM×aM)):p6:= .acc 222 (zR z) (ps.map pV)
structure Qh (z:Nat)(ps:List (aM×aM)):Prop where
 z:z≤1000
 s:w7 ps≤1000
 l:ps.length≤400
section
variable {n a k z:Nat}
theorem aO7:∀ps:List (aM×aM),pairs (ps.map pV)=aa ps:=by
 intro zz
 induction zz with
 | nil=>
  exact rfl
 | cons p ps ih=>
  exact f9 (a:=p) rfl (f9 (ih) rfl)
theorem aCb (h:z≤1000):mid (z:Int)=az:=by delta mid;refine aD (gJ (cV (by decide) (cJ z))) (aD (gJ (cV (du.mpr h) (by decide))) ?_);rfl
theorem ZX (h:Qh z ps):HD (zR z) (ps.map pV)=aa ((z:Int),ps):=
 f9 rfl (f9 rfl (f9 (aO7 ps) (m8 (by rw[aCb h.z,O3 h.s,aJ,gJ (ak h.l (by decide))];rfl) rfl)))
theorem aJ1 (h:Qh z ps):ad3 (zR z) (ps.map pV)=aa ((z+w7 ps:Nat):Int):=
 f9 (ZX h) (m8 (gJ (zu _)) (by simp only[ie]))
theorem ao3 (h:H[a]?=aa (mX z ps)):sX H (.ref a)=aa (a,222,zR z,ps.map pV):=f9 rfl (f9 h rfl)
theorem ao4 (h:H[a]?=aa (mX z ps))(hs:Qh z ps):G4 H "len" (.ref a)=ok (.int (z+w7 ps:Nat)) H:=by delta G4;refine aD (bG rfl) ?_;refine f9 h ?_;show opt (ad3 (zR z) (ps.map pV)) (λk=>ok (V.int k) H)=_;refine aD (aJ1 hs) ?_;rfl
theorem aw9 (h:H[a]?=aa (mX z ps))(hs:(v6 ps).length≤1000):Lw H "str" (.ref a)=ok (.str (v6 ps)) H:=by delta Lw;exact aD (bG rfl) (f9 (ao3 h) (f9 (aO7 ps) (f9 (m8 (O3 hs) rfl) rfl)))
theorem J7 (h:H[a]?=aa (mX z ps))(h1:(zR z).lookup m=aC)(h2:gL.bN 222 m=aa f):Rz gL H (.ref a) m=aa (.fn f):=by refine f9 h ?_;show(match (zR z).lookup m with | some _=>aC | none=>match gL.bN 222 m with | some f=>aa (Ry.fn f) | none=>fV (decide (m=("append":aM))) (aa (Ry.acc a)))=_;exact aD h1 (aD h2 rfl)
theorem ZZ (h:H[a]?=aa (mX z ps)):Rz gL H (.ref a) ("append":aM)=aa (.acc a):=f9 h (aD (show(zR z).lookup ("append":aM)=aC from(by kernel_rfl)) (aD (show gL.bN 222 ("append":aM)=aC from rfl) (m8 (gJ rfl) rfl)))
theorem alf {v:V}(h:H[a]?=aa (mX z ps))(hz:ps.length<1000)(hl:lk.contains a=aG):U8 r lk (.acc a) (.ref a) ("append":aM) [v] [] [] H=ok .none (H.set a (.acc 222 (zR z) (ps.map pV++ [v]))):=m8 rfl (f9 rfl (f9 (ao3 h) (m8 (O3 (by rw[aJ];exact hz)) (R7 hl))))
theorem ad1 (h:H[a]?=aa (mX z ps))(hz:ps.length<1000)(hl:lk.contains a=aG):p8 gL (n+10) lk 166 [.ref a,.str s,.str t] [] [] H=ok .none (H.set a (mX z (ps++ [(s,t)]))):=by
 have e:=λr=>alf (r:=r) (v:=pV (s,t)) h hz hl;rw[show p6.acc 222 (zR z) (ps.map pV++ [pV (s,t)])=mX z (ps++ [(s,t)]) from by simp only[mX,cC];rfl]at e;exact M3 rfl rfl rfl rfl
  (j0 (M9 (t7 (d9 rfl) (ZZ h) (c7 (U6 (c7 (d9 rfl) (c7 (d9 rfl) d8))) d8) d8 (e _))) o9) (H8 (bx ..))
theorem alg (hv:φ.loc.lookup ("self":aM)=aa (.ref a))(h:H[a]?=aa (mX z ps)):dY gL (n+1) φ (.sup "__len__") H=ok (.int ps.length) H:=by refine f9 hv (f9 (ao3 h) ?_);delta Ly;rw[bu (by decide+kernel),bG rfl,aJ]
theorem alh (hv:φ.loc.lookup ("self":aM)=aa (.ref a))(h:H[a]?=aa (mX z (ps++ [p])))(hl:φ.lk.contains a=aG):dY gL (n+1) φ (.sup "pop") H=ok (pV p) (H.set a (mX z ps)):=by refine f9 hv (f9 (ao3 h) ?_);delta Ly;refine aD (bu (by decide+kernel)) (aD (bu (by decide+kernel)) (aD (bG rfl) (aD cC (aD bV (aD ue (aD (List.getLast?_concat) (aD List.dropLast_concat ?_)))))));exact R7 hl
theorem ab1 (h:H[a]?=aa (mX z ps)):p8 gL (n+10) lk 219 [.ref a] [] [] H=ok (.int ps.length) H:=
 G6 rfl rfl rfl rfl (K6 (S8 (alg rfl h))) (H8 rfl)
theorem DG:(zR z).lookup ("part_count":aM)=aC:=rfl
theorem at5:(zR z).lookup ("push":aM)=aC:=rfl
theorem ax0:(zR z).lookup ("pop":aM)=aC:=rfl
theorem aPl:(zR z).lookup ("pop_from":aM)=aC:=rfl
theorem aCe:(zR z).lookup ("is_onlyws":aM)=aC:=rfl
theorem asn:(zR z).lookup ("reset":aM)=aC:=rfl
theorem DK:gL.bN 222 "part_count"=aa 219:=rfl
theorem at6:gL.bN 222 "push"=aa 166:=rfl
theorem ax1:gL.bN 222 "pop"=aa 182:=rfl
theorem aPm:gL.bN 222 "pop_from"=aa 174:=rfl
theorem aCg:gL.bN 222 "is_onlyws"=aa 211:=rfl
theorem aso:gL.bN 222 "reset"=aa 204:=rfl
theorem Cm {x y:Nat}:Q5 H .Eq (.int x) (.int y)=aa (decide (x=y)):=by refine congrArg aa ?_;rw[jc];exact(beq_iff_eq).trans (Int.ofNat_inj.trans decide_eq_true_iff.symm)
theorem aO8 (h:H[a]?=aa (mX z [])):p8 gL (n+20) lk 182 [.ref a] [] [] H=ok (pV ("","")) H:=
 G6 rfl rfl rfl rfl
  (K6 (J2 (t8 (u6 (t7 (d9 rfl) (J7 h DG DK) d8 d8 (ab1 h)) j4 (Cm))) (K6 (S8 (U6 (c7 j4 (c7 j4 d8))))))) (H8 rfl)
theorem aq7 {p:aM×aM}(h:H[a]?=aa (mX z (ps++ [p])))(hl:lk.contains a=aG):p8 gL (n+20) lk 182 [.ref a] [] [] H=ok (pV p) (H.set a (mX z ps)):=
 G6 rfl rfl rfl rfl
  (j0 (M7 (t8 (u6 (t7 (d9 rfl) (J7 h DG DK) d8 d8 (ab1 h)) j4 (Cm.trans (congrArg aa (decide_eq_false (aD aA (zq _))))))) o9) (K6 (S8 (alh rfl h hl)))) (H8 (bx ..))
end
end
section
section
variable {n a k z:Nat}
theorem rOr (h:dY G n φ e H=ok x H1)(ht:Q3 H1 x=aa bb)(k:(if bb then ok x H1 else dY G n φ f H1)=R):dY G (n+1) φ (.xR .Or [e,f]) H=R:=j7 h (j7 (f9 ht rfl) (by cases bb<;>exact k))
theorem aPn (h:dY G n φ e H=ok x H1)(ht:Q3 H1 x=aa bb):dY G (n+1) φ (.not e) H=ok (.bool !bb) H1:=j7 h (j7 (f9 ht rfl) rfl)
theorem asp:z7.contains ("_initial_size":aM)=az:=rfl
theorem aA3 (h:H[a]?=aa (mX z ps)):Ls H (.ref a) ("_initial_size":aM)=aa (.int z):=Y9 asp h rfl rfl rfl
theorem Ke (h:H[a]?=aa (mX z ps))(hl:lk.contains a=aG):V6 lk H (.ref a) ("_initial_size":aM) (.int 0)=ok () (H.set a (mX 0 ps)):=
 m8 asp (f9 rfl (f9 h (m8 rfl (R7 hl))))
theorem aq8 {x:V}(hx:T5 x=aa lo)(hn:H[k]?=aa (.list new))(h:H[a]?=aa (mX z ps))(hz:ps.length+new.length≤1000)(hk:lk.contains a=aG):am6 lk H (.ref a) x .none (.ref k)=ok () (H.set a (.acc 222 (zR z) (SX (ps.map pV) new lo aC))):=by refine f9 (K1 hn) (f9 hx (f9 rfl (f9 rfl (f9 h ?_))));show fV (room ((ps.map pV).length+new.length)) (put lk H a (.acc 222 (zR z) (SX (ps.map pV) new lo aC)) ())=_;rw[aJ];exact m8 (O3 hz) (R7 hk)
theorem aC7 {m z:Nat}(ps:List (aM×aM)):M4 m (mX z ps)=az:=by show(Rx m (zR z)&&V.qO m (ps.map pV))=az;rw[ae9];rfl
theorem reset_0 (c:Cl lk H)(h:H[a]?=aa (mX z ps))(hz:ps.length≤900)(hl:lk.contains a=aG):p8 gL (n+12) lk 204 [.ref a] [] [] H=ok .none (H.set a (mX 0 [])):=by
 have ha:=(aL.mp h).1;have e:=aq8 (x:= .none) rfl (q9) (show(H++ [p6.list []])[a]?=aa (mX z ps) from m6 h) (ak hz (by decide)) hl;rw[aF5,R3 ha]at e;have e2:=Ke (show(H.set a (mX z [])++ [p6.list []])[a]?=aa (mX z []) from m6 (bC ha)) hl;rw[R3 (aD bx ha),iH]at e2;refine M3 rfl rfl rfl rfl
  (j0 (J2 (t8 (u6 (d9 rfl) j4 rfl)) (j0 (t6 (Z2 d8) n7) o9)) (j0 (t6 (d9 rfl) (Zr (d9 rfl) j4 j4 e)) (j0 (t6 j4 (Zq (d9 rfl) e2)) o9))) ?_
 have z:=(c.set (j:=a) (aC7 (z:=0) [])).drop (T:= [.list []]) (v:= .none) rfl;rw[bx]at z;exact z
theorem reset_1 (h:H[a]?=aa (mX z ps))(hk:H[k]?=aa (.list (qs.map pV)))(hz:ps.length≤450)(hq:qs.length≤450)(hl:lk.contains a=aG):p8 gL (n+12) lk 204 [.ref a,.ref k] [] [] H=ok .none (H.set a (mX 0 qs)):=by
 have e:=aq8 (x:= .none) rfl hk h (by rw[aJ];exact ak (gB hz hq) (by decide)) hl;rw[aF5]at e;have e2:=Ke (H:=H.set a (mX z qs)) (bC ((aL.mp h).1)) hl;simp only[iH]at e2;exact M3 rfl rfl rfl rfl
  (j0 (M7 (t8 (u6 (d9 rfl) j4 rfl)) o9) (j0 (t6 (d9 rfl) (Zr (d9 rfl) j4 j4 e)) (j0 (t6 j4 (Zq (d9 rfl) e2)) o9))) (H8 (bx ..))
theorem aJ2 (h:k≤n):eE (aa (k:Int)) aC aC n=((k:Int),(n:Int),(1:Int)):=by show((max 0 (min (if (k:Int)<0 then(k:Int)+n else k) (n:Int)),(n:Int),1):Int×Int×Int)=_;exact aD (bu (jx.mpr (cJ k))) (aD (qJ (du.mpr h)) (aD (mH (cJ k)) rfl))
theorem ali (h:H[a]?=aa (mX z ps))(h1:T5 x=aa lo)(h2:T5 y=aa hi)(h3:T5 w=aa st)(h0:st≠aa 0):Cz H (.ref a) x y w=ok (.ref H.length) (H++ [.list (jJ (ps.map pV) lo hi st)]):=f9 h1 (f9 h2 (f9 h3 (aD (bu h0) (f9 h rfl))))
theorem alj {p:aM×aM}(h:H[a]?=aa (mX z (ps++ [p])))(hz:ps.length≤450)(hl:lk.contains a=aG):p8 gL (n+12) lk 174 [.ref a,.int ps.length] [] [] H=ok (.ref H.length) (H.set a (mX z ps)++ [.list ([p].map pV),.list []]):=by
 have RQ:((ps++ [p]).map pV).length=ps.length+1:=by rw[aJ,aA];rfl
 have hd:jJ ((ps++ [p]).map pV) (aa (ps.length:Int)) aC aC= [p].map pV:=by refine aD (at4 (b:=ps.length+1) (by refine aD RQ ?_;exact aJ2 (dC _)) (dC _) (bM RQ.symm)) (aD cC (aD (List.drop_left' (aJ ..)) ?_));rw[tU];rfl
 have ht:SX ((ps++ [p]).map pV) [] (aa (ps.length:Int)) aC=ps.map pV:=by delta SX;refine aD RQ (aD (aJ2 (dC _)) ?_);rw[pC,cC,aox (aJ ..),bh,show(max (ps.length:Int) ((ps.length+1:Nat):Int)).toNat=ps.length+1 from congrArg nW (mH (du.mpr (dC _))),Eu (by rw[aA,aJ];exact aN _),bh]
 have e1:Cz H (.ref a) (.int ps.length) .none .none=ok (.ref H.length) (H++ [.list ([p].map pV)]):=by exact aD (ali h (st:=aC) rfl rfl rfl (λq=>iu q)) (aD hd rfl)
 have e2:=aq8 (x:= .int ps.length) rfl (q9) (show(H++ [p6.list ([p].map pV)]++ [p6.list []])[a]?=aa (mX z (ps++ [p])) from m6 (m6 h)) (by refine aD aA ?_;exact ak (cO hz) (by decide)) hl;rw[ht,aH,R3 ((aL.mp h).1)]at e2;refine G6 rfl rfl rfl rfl
  (j0 (t6 (Ds (d9 rfl) (d9 rfl) j4 j4 e1) n7) (j0 (t6 (Z2 d8) (Zr (d9 rfl) (d9 rfl) j4 (by rw[aH];exact e2))) (K6 (S8 (d9 rfl))))) (ao2 aj2)
theorem asq:V7.contains ("isspace":aM)=az:=rfl
theorem asr (h:nU s=b):U8 r lk (.str s) ov ("isspace":aM) [] [] [] H=ok (.bool b) H:=by refine m8 rfl ?_;delta Lx;refine aD (bu (by decide+kernel)) (aD (bG rfl) (aD h ?_));rfl
theorem alk (h:H[a]?=aa (mX z ps))(hs:Qh z ps):Q3 H (.ref a)=aa (((z+w7 ps:Nat):Int) !=0):=by refine f9 h ?_;show opt (ad3 (zR z) (ps.map pV)) (λk=>aa (k !=0))=_;refine aD (aJ1 hs) ?_;rfl
theorem aaa (h:H[a]?=aa (mX z ps))(hs:Qh z ps)(hn:(v6 ps).length≤1000)(ho:z≠0∨(w7 ps≠0∧nU (v6 ps)=aG)):p8 gL (n+20) lk 211 [.ref a] [] [] H=ok (.bool aG) H:=by
 refine G6 rfl rfl rfl rfl (K6 (S8 ?_)) (H8 rfl);by_cases hz:z=0
 ·refine nu (λh1 h2=> ?_) (ho.resolve_left (λq=>q hz))
  have ht:Q3 H (.ref a)=aa az:=by rw[alk h hs];refine congrArg aa ?_;rw[bne_iff_ne];exact λq=>h1 (Nat.eq_zero_of_add_eq_zero_left (Int.ofNat.inj q))
  exact akj (u6 (z8 (d9 rfl) (aA3 h)) j4 (Cm.trans (congrArg aa (gJ hz)))) rfl (rOr (aPn (d9 rfl) ht) rfl (t7 (PT ai7 (d9 rfl) (aw9 h hn)) (O4 asq) d8 d8 (asr h2)))
 ·exact akj (u6 (z8 (d9 rfl) (aA3 h)) j4 (Cm.trans (congrArg aa (decide_eq_false hz)))) rfl rfl
end
end
section
noncomputable abbrev Kf (w l a:Nat):j8:= [("_maxlen",.int w),("_continuation_ws",.str " "),("_continuation_ws_len",.int 1),("_splitchars",.str " "),("_lines",.ref l),("_current_line",.ref a)]
structure Mk (H:Hp)(i l a w:Nat):Prop where
 inst:H[i]?=aa (.inst 138 (Kf w l a))
 il:l≠i
 ia:a≠i
 la:l≠a
 hl:l<H.length
 ha:a<H.length
noncomputable def lH (H:Hp)(l a:Nat)(ls:List aM)(z:Nat)(ps:List (aM×aM)):Hp:=(H.set l (.list (ls.map V.str))).set a (mX z ps)
section
variable {lk:List Nat}{H:Hp}{s t:aM}{r:Rec}
theorem Q0:(lH H l a ls z ps).length=H.length:=aD bx (aD bx rfl)
theorem Mk.yR (M:Mk H i l a w):(lH H l a ls z ps)[i]?=aa (.inst 138 (Kf w l a)):=aD (bH M.ia) (aD (bH M.il) (aD M.inst rfl))
theorem Mk.aab (M:Mk H i l a w):(lH H l a ls z ps)[l]?=aa (.list (ls.map V.str)):=aD (bH (Ne.symm M.la)) (aD (bC M.hl) rfl)
theorem Mk.jT (M:Mk H i l a w):(lH H l a ls z ps)[a]?=aa (mX z ps):=aD (bC (aD bx M.ha)) rfl
theorem yS:(lH H l a ls z ps).set a (mX z' qs)=lH H l a ls z' qs:=by delta lH;simp only[iH]
theorem Mk.ass (M:Mk H i l a w):(lH H l a ls z ps).set l (.list (tV.map V.str))=lH H l a tV z ps:=by delta lH;rw[mZ _ _ (Ne.symm M.la),iH]
theorem aF6 (xs:List aM):V.qO m (xs.map V.str)=az:=ag3 (λU=>rfl) xs
theorem Cl.lH (c:Cl lk H):Cl lk (X2.lH H l a ls z ps):=(c.set (o:= .list (ls.map V.str)) (aF6 ls)).set (aC7 ps)
theorem asu:z7.contains ("_maxlen":aM)=az:=rfl
theorem asv:z7.contains ("_splitchars":aM)=az:=rfl
theorem aac:z7.contains ("_lines":aM)=az:=rfl
theorem aad:z7.contains ("_current_line":aM)=az:=rfl
theorem Mk.max (M:Mk H i l a w):Ls (lH H l a ls z ps) (.ref i) ("_maxlen":aM)=aa (.int w):=Y9 asu M.yR rfl rfl rfl
theorem Mk.spl (M:Mk H i l a w):Ls (lH H l a ls z ps) (.ref i) ("_splitchars":aM)=aa (.str " "):=Y9 asv M.yR rfl rfl rfl
theorem Mk.lin (M:Mk H i l a w):Ls (lH H l a ls z ps) (.ref i) ("_lines":aM)=aa (.ref l):=Y9 aac M.yR rfl rfl rfl
theorem Mk.cur (M:Mk H i l a w):Ls (lH H l a ls z ps) (.ref i) ("_current_line":aM)=aa (.ref a):=Y9 aad M.yR rfl rfl rfl
theorem neP {p q:aM×aM}(h1:cz p.1=az)(h2:cz p.2=az)(h3:cz q.1=az)(h4:cz q.2=az):Q5 H .NotEq (pV p) (pV q)=aa (!(p.1==q.1&&p.2==q.2)):=by
 have e:∀p:aM×aM,∀J:cz p.1=az,∀J:cz p.2=az,V5 H 8 (pV p)=aa (.tuple [.str p.1,.str p.2]):=λp h1 h2=>by show(List.mapM (V5 H 7) [V.str p.1,V.str p.2]).map tE=_;have e1:∀s:aM,∀J:cz s=az,V5 H 7 (V.str s)=aa (.str s):=λs h=>m8 h rfl;refine aD oJ (aD (e1 _ h1) (aD oJ (aD (e1 _ h2) ?_)));rfl
 show((opt (V5 H 8 (pV p)) λx=>opt (V5 H 8 (pV q)) λy=>aa (qK x y))).map (!·)=_;refine aD (e p h1 h2) (aD (e q h3 h4) ?_);show aa (!(p.1==q.1&&(p.2==q.2&&az)))=_;rw[Bool.and_true]
theorem gtN {x y:Nat}(h:y<x):Q5 H .Gt (.int x) (.int y)=aa az:=congrArg aa (gJ (iJ.mpr h))
theorem gtF {x y:Nat}(h:¬y<x):Q5 H .Gt (.int x) (.int y)=aa aG:=congrArg aa (decide_eq_false λq=>h (iJ.mp q))
structure aCi (z:Nat)(ps:List (aM×aM)):Prop where
 sz:Qh z ps
 n:(v6 ps).length≤1000
theorem aJ3 (h:H[a]?=aa (mX z ps)):avd gL H (.ref a) ("push":aM)=aa 166:=f9 (ao3 h) (by
 show(match (zR z).lookup ("push":aM) with | some _=>aC | none=>gL.bN 222 ("push":aM))=_;exact aD at5 (aD at6 rfl))
noncomputable abbrev nlE (i:Nat)(o:Option (aM×aM)):j8:=("self",.ref i)::match o with
 | none=> []
 | some p=> [("end_of_line",pV p)]
theorem Kg (M:Mk H i l a w)(c:Cl lk H)(h:aCi z ps)(hp:0<z+w7 ps)(ho:z≠0∨(w7 ps≠0∧nU (v6 ps)=aG))(hl:lk.contains l=aG)(ha:lk.contains a=aG)(hz:ls.length<900){p:aM×aM}{r:List n6}(hr:aAx.body.drop 2=r):
  G5 (iY gL (n+30) lk) r ⟨nlE i (aa p), [],lH H l a ls z ps⟩=fc .next ⟨nlE i (aa p), [],lH H l a (ls++ [v6 ps]) 0 []⟩:=by
 subst hr;have ap:=λr=>an9 (v:=V.str (v6 ps)) (r:=r) (j:=l) (M.aab (z:=z) (ps:=ps)) (by rw[aJ];exact dw hz (by decide)) hl;rw[show ls.map V.str++ [V.str (v6 ps)]=(ls++ [v6 ps]).map V.str from by rw[cC];rfl,M.ass]at ap;have rs:=reset_0 (n:=n+16) (z:=z) (Cl.lH (ls:=ls++ [v6 ps]) c) M.jT (ak h.sz.l (by decide)) ha;simp only[yS]at rs;exact j0 (J2 (t8 (u6 (O2 U3 (z8 (d9 rfl) M.cur) (ao4 M.jT h.sz)) j4 (gtN hp))) (j0 (M7 (a0f (JS (t7 (z8 (d9 rfl) M.cur) (J7 M.jT aCe aCg) d8 d8 (aaa M.jT h.sz h.n ho)) rfl) rfl) (j0 (M9 (t7 (z8 (d9 rfl) M.lin) (X4 aw8 M.aab) (c7 (PT ai7 (z8 (d9 rfl) M.cur) (aw9 M.jT h.n)) d8) d8 (ap _))) o9)) o9))
  (j0 (M9 (t7 (z8 (d9 rfl) M.cur) (J7 M.jT asn aso) d8 d8 rs)) o9)
end
end
section
section
theorem asw:Q6 gL 138 (Kf w l a) "newline"=aa 100:=rfl
theorem aCj:Q6 gL 138 (Kf w l a) "_str"=aa 86:=rfl
theorem aCk:cz " "=az:=by kernel_rfl
theorem alm:cz ""=az:=by kernel_rfl
theorem aae (M:Mk H i l a w)(c:Cl lk H)(h:aCi z (qs++ [p]))(h1:cz p.1=az)(h2:cz p.2=az)(h3:(p.1==(" ":aM)&&p.2==("":aM))=aG)(hp:0<z+w7 (qs++ [p]))(ho:z≠0∨(w7 (qs++ [p])≠0∧nU (v6 (qs++ [p]))=aG))(hl:lk.contains l=aG)(ha:lk.contains a=aG)(hz:ls.length<900):
  p8 gL (n+31) lk 100 [.ref i] [] [] (lH H l a ls z (qs++ [p]))=ok .none (lH H l a (ls++ [v6 (qs++ [p])]) 0 []):=by
 have hq:qs.length<1000:=by have:=h.sz.l;rw[aA]at this;exact bA (fP _) (ak this (by decide))
 have e1:=aq7 (n:=n+8) (z:=z) (ps:=qs) (p:=p) (M.jT (ls:=ls)) ha;simp only[yS]at e1;have e2:=ad1 (n:=n+17) (z:=z) (s:=p.1) (t:=p.2) (M.jT (ls:=ls)) hq ha;simp only[yS]at e2;have ne:=neP (H:=lH H l a ls z qs) (q:=(" ","")) h1 h2 aCk alm;rw[h3]at ne;exact M3 rfl rfl rfl rfl
  (j0 (t6 (t7 (z8 (d9 rfl) M.cur) (J7 M.jT ax0 ax1) d8 d8 e1) n7)
   (j0 (J2 (t8 (u6 (d9 rfl) (U6 (c7 j4 (c7 j4 d8))) ne)) (j0 (M9 (arw (z8 (d9 rfl) M.cur) (aJ3 M.jT) (d9 rfl) (show 2≤1000 by decide) e2)) o9)) (Kg M c h hp ho hl ha hz rfl))) (H8 (aD Q0 (aD Q0 rfl)))
theorem aln (M:Mk H i l a w)(c:Cl lk H)(hz0:z≠0)(hz1:z≤1000)(hl:lk.contains l=aG)(ha:lk.contains a=aG)(hz:ls.length<900):
  p8 gL (n+31) lk 100 [.ref i] [] [] (lH H l a ls z [])=ok .none (lH H l a (ls++ [("":aM)]) 0 []):=by
 have e2:=ad1 (n:=n+17) (z:=z) (ps:= []) (s:="") (t:="") (M.jT (ls:=ls)) (by decide) ha;simp only[yS]at e2;have ne:=neP (H:=lH H l a ls z []) (p:=("","")) (q:=(" ","")) alm alm aCk alm;rw[show(((("":aM),("":aM)).1==((" ":aM),("":aM)).1&&(("":aM),("":aM)).2==((" ":aM),("":aM)).2))=aG from by kernel_rfl]at ne;have tl:=Kg (n:=n) (ps:= [("","")]) (p:=("","")) M c ⟨⟨hz1,by decide+kernel,by decide⟩,by decide+kernel⟩ (bA (adw hz0) (aQ _ _)) (.inl hz0) hl ha hz rfl;rw[show v6 [(("":aM),("":aM))]="" from by kernel_rfl]at tl;exact M3 rfl rfl rfl rfl
  (j0 (t6 (t7 (z8 (d9 rfl) M.cur) (J7 M.jT ax0 ax1) d8 d8 (aO8 M.jT)) n7)
   (j0 (J2 (t8 (u6 (d9 rfl) (U6 (c7 j4 (c7 j4 d8))) ne)) (j0 (M9 (arw (z8 (d9 rfl) M.cur) (aJ3 M.jT) (d9 rfl) (show 2≤1000 by decide) e2)) o9)) tl)) (H8 (aD Q0 (aD Q0 rfl)))
theorem aaf (M:Mk H i l a w){sep:aM}{lks:List Nat}(e:p8 gL (n+31) lk 100 [.ref i] [] [] (lH H l a ls z ps)=ok .none (lH H l a tV 0 []))(hz:(tV.map (·.length)).sum+tV.length*sep.length≤16777216):
  p8 gL (n+34) lk 86 [.ref i,.str sep] [] [] (lH H l a ls z ps)=ok (.str (vq sep tV)) (lH H l a tV 0 []):=
 G6 rfl rfl rfl rfl
  (j0 (M9 (t7 (d9 rfl) (O6 M.yR asw) d8 d8 e)) (K6 (S8 (t7 (d9 rfl) (O4 aC5) (c7 (z8 (d9 rfl) M.lin) d8) d8 (aC6 M.aab hz))))) (H8 (aD Q0 (aD Q0 rfl)))
end
end
section
section
noncomputable abbrev chL (i:Nat)(f s:aM):j8:= [("self",.ref i),("fws",.str f),("string",.str s)]
theorem ax2 (M:Mk H i l a w)(hq:ps.length<1000)(ha:lk.contains a=aG):iY gL (n+29) lk (.expr (.bN (.attr (.loc "self") "_current_line") "push" [(.loc "fws"),(.loc "string")] [] [])) ⟨chL i f s, [],lH H l a ls z ps⟩=fc .next ⟨chL i f s, [],lH H l a ls z (ps++ [(f,s)])⟩:=by have e:=ad1 (n:=n+17) (z:=z) (s:=f) (t:=s) (M.jT (ls:=ls)) hq ha;simp only[yS]at e;exact M9 (t7 (z8 (d9 rfl) M.cur) (J7 M.jT at5 at6) (c7 (d9 rfl) (c7 (d9 rfl) d8)) d8 e)
theorem aC8 (M:Mk H i l a w)(h:Qh z ps)(hL:L.lookup ("self":aM)=aa (.ref i))(hb:decide (w<z+w7 ps)=b):vG gL (n+5) ⟨L, [],lk⟩ (.cmp .Gt (.call (.gn "len") [(.attr (.loc "self") "_current_line")] [] []) (.attr (.loc "self") "_maxlen")) (lH H l a ls z ps)=ok b (lH H l a ls z ps):=by
 subst hb;by_cases q:w<z+w7 ps
 ·rw[gJ q]
  exact t8 (u6 (O2 U3 (z8 (d9 hL) M.cur) (ao4 M.jT h)) (z8 (d9 hL) M.max) (gtN q))
 ·rw[decide_eq_false q]
  exact t8 (u6 (O2 U3 (z8 (d9 hL) M.cur) (ao4 M.jT h)) (z8 (d9 hL) M.max) (gtF q))
theorem Kh (M:Mk H i l a w)(h:Qh z (ps++ [(f,s)]))(ha:lk.contains a=aG)(hw:¬w<z+w7 (ps++ [(f,s)])):p8 gL (n+30) lk 135 [.ref i,.str f,.str s] [] [] (lH H l a ls z ps)=ok .none (lH H l a ls z (ps++ [(f,s)])):=by
 have hq:ps.length<1000:=by have:=h.l;rw[aA]at this;exact bA (fP _) (ak this (by decide))
 exact M3 rfl (b:=chL i f s) rfl rfl rfl (j0 (ax2 M hq ha) (j0 (M7 (aC8 M h rfl (decide_eq_false hw)) o9) o9)) (H8 (aD Q0 (aD Q0 rfl)))
theorem Qi (m:Nat):∃r,CG ((m+1:Nat):Int) 0= .int ((m+1:Nat):Int)::r:=by refine⟨((cD m).map tH).map λ(i:Nat)=>V.int (((m+1:Nat):Int)-i), ?_⟩;show(cD (m+1)).map (λ(i:Nat)=>V.int (((m+1:Nat):Int)-i))=_;refine aD List.range_succ_eq_map (aD bV ?_);rfl
theorem aCl (h1:dY G n φ e1 H=ok (.int x) H1)(h2:dY G n φ e2 H1=ok (.int y) H2)(h3:dY G n φ e3 H2=ok (.int (-1)) H3)(hs:([x,y,-1].all λi=>small (4*i))=az):yl (u9 G n) φ (.xU [e1,e2,e3]) H=ok (CG x y, []) H3:=
 j7 (c7 h1 (c7 h2 (c7 h3 d8))) (f9 rfl (m8 hs (f9 rfl rfl)))
theorem a03 {m:Nat}(h:m≤1000):([(m:Int),0,-1].all λi=>small (4*i))=az:=by
 have e:small (4*(m:Int))=az:=by delta small;rw[gJ (by exact zu _),gJ (ju (jZ (du.mpr h) (by decide)) (by decide))];rfl
 show(small (4*(m:Int))&&(small (4*0)&&(small (4* -1)&&az)))=az;rw[e];kernel_rfl
theorem aCm:((m+1:Nat):Int)-1=(m:Int):=jy (m:Int) 1
theorem asx (h:dY G n φ e H=ok (.str " ") H)(he:∀H,yl (u9 G n) φ e H=jd (dY G n φ e H) λv H=>opt (ao8 H v) λl=>ok (l,aj3 v) H):yl (u9 G n) φ e H=ok ([.str " "], []) H:=by rw[he];exact j7 h (f9 (by kernel_rfl) rfl)
theorem a04:nU " "=az:=by kernel_rfl
theorem aCn:Q5 H .Eq (.str " ") (.str " ")=aa az:=by kernel_rfl
theorem sp_0:Z0 H (.str " ") (.int 0)=aa (.str " "):=rfl
theorem alo {k:Nat}(h:H[a]?=aa (mX z ps))(e:(ps.map pV)[k]?=aa v)(hk:k≤1000):Z0 H (.ref a) (.int k)=aa v:=
 f9 (f:=λk=>fV (small k) (opt H[a]? (Cy k))) rfl (m8 (Y8 hk) (f9 h (Zw e)))
noncomputable abbrev spS:aM:=" "
theorem aag (h:H[i]?=aa (.inst 138 (Kf w l a))):Ls H (.ref i) ("_current_line":aM)=aa (.ref a):=Y9 aad h rfl rfl rfl
theorem a05 (h:H[i]?=aa (.inst 138 (Kf w l a))):Ls H (.ref i) ("_lines":aM)=aa (.ref l):=Y9 aac h rfl rfl rfl
noncomputable def Gx:List n6:= [.asg (.tup [(.loc "fws"),(.loc "part")]) (.bN (.attr (.loc "self") "_current_line") "pop" [] [] []),.ite (.cmp .Gt (.attr (.attr (.loc "self") "_current_line") "_initial_size") (.cst (.int 0))) [.expr (.bN (.loc "self") "newline" [] [] []),.ite (.not (.loc "fws")) [.asg (.loc "fws") (.cst (.str " "))] []] [],.expr (.bN (.attr (.loc "self") "_current_line") "push" [(.loc "fws"),(.loc "part")] [] []),.ret (.cst (.none))]
noncomputable abbrev Gy (i:Nat)(f s:aM):j8:= [("self",.ref i),("fws",.str f),("string",.str s),("ch",.str " ")]
noncomputable abbrev aPr (i:Nat)(s:aM)(k:Nat):j8:= [("self",.ref i),("fws",.str " "),("string",.str s),("ch",.str " "),("i",.int k)]
theorem alp (M:Mk H i l a w)(m:Nat)(hm:ps.length=m+1)(hq:ps.length≤399):iY gL (n+38) lk (.oU (.loc "ch") (.attr (.loc "self") "_splitchars") Gq Gx) ⟨chL i spS s, [],lH H l a ls z (ps++ [(spS,s)])⟩=
  fc .next ⟨aPr i s ps.length, [],lH H l a ls z (ps++ [(spS,s)])⟩:=by
 refine jA (Qi m) λr hr=> ?_;rw[←hm]at hr;have ct:=ab1 (n:=n+22) (lk:=lk) (z:=z) (ps:=ps++ [(spS,s)]) (M.jT (ls:=ls));rw[aA]at ct;have hi:yl (u9 gL (n+36)) ⟨Gy i spS s, [],lk⟩ (.xU [(.bin .Sub (.bN (.attr (.loc "self") "_current_line") "part_count" [] [] []) (.cst (.int 1))),(.cst (.int 0)),(.neg (.cst (.int 1)))]) (lH H l a ls z (ps++ [(spS,s)]))=ok (.int ps.length::r, []) (lH H l a ls z (ps++ [(spS,s)])):=by exact nF hr (aCl (G7 (t7 (z8 (d9 rfl) M.cur) (J7 M.jT DG DK) d8 d8 (ab1 M.jT)) j4 (by refine aD aA ?_;exact congrArg (λx=>ok (V.int x) _) aCm)) j4 (a0e j4) (a03 (ak hq (by decide))))
 exact W7 (asx (z8 (d9 rfl) M.spl) λU=>rfl) (aBj (Q4 n7 (j0 (W7 hi (aBj (Q4 n7 (akl (J2 (JS (t7 (d9 rfl) (O4 asq) d8 d8 (asr a04)) rfl) (j0 (t6 (I4 (I4 (z8 (d9 rfl) M.cur) (d9 rfl) (show Z0 (lH H l a ls z (ps++ [(spS,s)])) (.ref a) (.int ps.length)=aa (pV (spS,s)) from alo M.jT (by refine aD cC ?_;rw[gM (by rw[aJ];exact aN _),aJ,pG];rfl) (ak hq (by decide)))) j4 rfl) n7) (akl (J2 (a0f (Zo rfl rfl) (t8 (u6 (I4 (d9 rfl) j4 sp_0) (d9 rfl) aCn))) (akl rfl))))))))) (akl rfl))))
end
end
section
section
theorem alq (hk:k=H.length):(H++o::T)[k]?=aa o:=by simp only[hk,gM (aN _),pG];rfl
theorem a06 (M:Mk H i l a w)(c:Cl lk H)(h:Qh z (ps++ [(spS,s)]))(h0:ps≠ [])(h1:(v6 ps).length≤1000)(ha:lk.contains a=aG)(hl:lk.contains l=aG)(hz:ls.length<900)(hw:w<z+w7 (ps++ [(spS,s)])):p8 gL (n+40) lk 135 [.ref i,.str spS,.str s] [] [] (lH H l a ls z ps)=ok .none (lH H l a (ls++ [v6 ps]) 0 [(spS,s)]):=by
 have hq:ps.length≤399:=by have:=h.l;rw[aA]at this;exact uC this
 obtain⟨m,hm⟩:∃m,ps.length=m+1:=Nat.exists_eq_succ_of_ne_zero λq=>h0 (eZ q);have e1:=alj (n:=n+24) (z:=z) (p:=(spS,s)) (M.jT (ls:=ls)) (ak hq (by decide)) ha;rw[yS]at e1;have e2:=λr=>an9 (H:=lH H l a ls z ps++ [.list ([(spS,s)].map pV),.list []]) (v:=V.str (v6 ps)) (r:=r) (j:=l) (m6 (M.aab)) (by rw[aJ];exact dw hz (by decide)) hl;rw[R3 (show∀{ls z ps},l<(lH H l a ls z ps).length from λ{_ _ _}=>by rw[Q0];exact M.hl),show ls.map V.str++ [V.str (v6 ps)]=(ls++ [v6 ps]).map V.str from by rw[cC];rfl,M.ass]at e2;have e3:=reset_1 (n:=n+24) (H:=lH H l a (ls++ [v6 ps]) z ps++ [.list ([(spS,s)].map pV),.list []]) (k:=(lH H l a ls z (ps++ [(spS,s)])).length) (qs:= [(spS,s)]) (m6 M.jT) (alq (by exact aD Q0 (aD Q0 rfl))) (ak hq (by decide)) (show 1≤450 by decide) ha;rw[R3 (show∀{ls z ps},a<(lH H l a ls z ps).length from λ{_ _ _}=>by rw[Q0];exact M.ha),yS]at e3;have z:=(Cl.lH (l:=l) (a:=a) (ls:=ls++ [v6 ps]) (z:=0) (ps:= [(spS,s)]) c).drop (T:= [.list ([(spS,s)].map pV),.list []]) (v:= .none) rfl;refine M3 rfl rfl rfl rfl
  (j0 (ax2 M (bz hq (by decide)) ha) (j0 (J2 (aC8 M h rfl (gJ hw)) (j0 (alp M m hm hq) (j0 (t6 (t7 (z8 (d9 rfl) M.cur) (J7 M.jT aPl aPm) (c7 (d9 rfl) d8) d8 e1) n7)
   (j0 (M9 (t7 (z8 (d9 rfl) (a05 (m6 M.yR))) (X4 aw8 (m6 M.aab)) (c7 (PT ai7 (z8 (d9 rfl) (aag (m6 M.yR))) (aw9 (m6 M.jT) h1)) d8) d8 (e2 _)))
    (j0 (M9 (t7 (z8 (d9 rfl) (aag (m6 M.yR))) (J7 (m6 M.jT) asn aso) (c7 (d9 rfl) d8) d8 e3)) o9))))) o9)) ?_
 rw[Q0]at z;exact aD Q0 z
theorem Kl (M:Mk H i l a w)(he:iY gL (n+37) lk (.oU (.loc "i") (.xU [(.bin .Sub (.bN (.attr (.loc "self") "_current_line") "part_count" [] [] []) (.cst (.int 1))),(.cst (.int 0)),(.neg (.cst (.int 1)))]) Gp [.cont]) ⟨Gy i f s, [],lH H l a ls z [(f,s)]⟩=fc .cont ⟨Gy i f s, [],lH H l a ls z [(f,s)]⟩)(k:G5 (iY gL (n+37) lk) Gx ⟨Gy i f s, [],lH H l a ls z [(f,s)]⟩=R):
  iY gL (n+38) lk (.oU (.loc "ch") (.attr (.loc "self") "_splitchars") Gq Gx) ⟨chL i f s, [],lH H l a ls z [(f,s)]⟩=R:=
 W7 (asx (z8 (d9 rfl) M.spl) λU=>rfl) (aBi (Q4 n7 (arz he)) k)
theorem aO9 (M:Mk H i l a w):iY gL (n+37) lk (.oU (.loc "i") (.xU [(.bin .Sub (.bN (.attr (.loc "self") "_current_line") "part_count" [] [] []) (.cst (.int 1))),(.cst (.int 0)),(.neg (.cst (.int 1)))]) Gp [.cont]) ⟨Gy i f s, [],lH H l a ls z [(f,s)]⟩=fc .cont ⟨Gy i f s, [],lH H l a ls z [(f,s)]⟩:=by
 have hi:yl (u9 gL (n+36)) ⟨Gy i f s, [],lk⟩ (.xU [(.bin .Sub (.bN (.attr (.loc "self") "_current_line") "part_count" [] [] []) (.cst (.int 1))),(.cst (.int 0)),(.neg (.cst (.int 1)))]) (lH H l a ls z [(f,s)])=ok (CG 0 0, []) (lH H l a ls z [(f,s)]):=
  aCl (G7 (t7 (z8 (d9 rfl) M.cur) (J7 M.jT DG DK) d8 d8 (ab1 M.jT)) j4 rfl) j4 (a0e j4) rfl
 rw[show CG 0 0= [] from by kernel_rfl]at hi;exact W7 hi (arz rfl)
theorem aah (h:H[a]?=aa (mX z ps)):Ls H (.ref a) ("_initial_size":aM)=aa (.int z):=aA3 h
theorem Qj (M:Mk H i l a w)(h:Qh 0 [(f,s)])(ha:lk.contains a=aG)(hw:w<0+w7 [(f,s)]):p8 gL (n+40) lk 135 [.ref i,.str f,.str s] [] [] (lH H l a ls 0 [])=ok .none (lH H l a ls 0 [(f,s)]):=by
 have e1:=aq7 (n:=n+15) (z:=0) (ps:= []) (p:=(f,s)) (M.jT (ls:=ls)) ha;simp only[yS]at e1;have e2:=ad1 (n:=n+25) (z:=0) (ps:= []) (s:=f) (t:=s) (M.jT (ls:=ls)) (by decide) ha;simp only[yS]at e2;exact G6 rfl (b:=chL i f s) rfl rfl rfl
  (j0 (ax2 M (by decide) ha) (K6 (J2 (aC8 M h rfl (gJ hw)) (K6 (Kl M (aO9 M)
   (j0 (t6 (t7 (z8 (d9 rfl) M.cur) (J7 M.jT ax0 ax1) d8 d8 e1) (Z5 n7 n7))
    (j0 (M7 (t8 (u6 (z8 (z8 (d9 rfl) M.cur) (aah M.jT)) j4 (gtF (eX 0)))) o9)
     (j0 (M9 (t7 (z8 (d9 rfl) M.cur) (J7 M.jT at5 at6) (c7 (d9 rfl) (c7 (d9 rfl) d8)) d8 e2)) (K6 (S8 j4)))))))))) (H8 (aD Q0 (aD Q0 rfl)))
theorem Qk (M:Mk H i l a w)(c:Cl lk H)(h:Qh z [(("":aM),s)])(hz0:z≠0)(ha:lk.contains a=aG)(hl:lk.contains l=aG)(hz:ls.length<900)(hw:w<z+w7 [(("":aM),s)]):p8 gL (n+40) lk 135 [.ref i,.str "",.str s] [] [] (lH H l a ls z [])=ok .none (lH H l a (ls++ [("":aM)]) 0 [(spS,s)]):=by
 have e1:=aq7 (n:=n+15) (z:=z) (ps:= []) (p:=("",s)) (M.jT (ls:=ls)) ha;simp only[yS]at e1;have e2:=ad1 (n:=n+25) (z:=0) (ps:= []) (s:=spS) (t:=s) (M.jT (ls:=ls++ [("":aM)])) (by decide) ha;simp only[yS]at e2;exact G6 rfl rfl rfl rfl
  (j0 (ax2 M (by decide) ha) (K6 (J2 (aC8 M h rfl (gJ hw)) (K6 (Kl M (aO9 M)
   (j0 (t6 (t7 (z8 (d9 rfl) M.cur) (J7 M.jT ax0 ax1) d8 d8 e1) (Z5 n7 n7))
    (j0 (J2 (t8 (u6 (z8 (z8 (d9 rfl) M.cur) (aah M.jT)) j4 (gtN (adw hz0)))) (j0 (M9 (t7 (d9 rfl) (O6 M.yR asw) d8 d8 (aln M c hz0 h.z hl ha hz))) (j0 (J2 (aBd (bb:=aG) (Zo rfl rfl)) (j0 (t6 j4 n7) o9)) o9)))
     (j0 (M9 (t7 (z8 (d9 rfl) M.cur) (J7 M.jT at5 at6) (c7 (d9 rfl) (c7 (d9 rfl) d8)) d8 e2)) (K6 (S8 j4)))))))))) (H8 (aD Q0 (aD Q0 rfl)))
end
end
section
noncomputable def nm (i:Nat):aM:=if i<5 then toS [97+i] else toS [92+i,92+i]
noncomputable abbrev nT (i:Nat):V:= .str (nm i)
noncomputable abbrev dg (s:Nat):aM:=toS [48+s]
theorem R1 {p:Nat->Bool}{n:Nat}(h:((cD n).all p)=az){i:Nat}(hi:i<n):p i=az:=bF.mp h i (dK.mpr hi)
theorem aai:((cD 9).all λi=>iD (nm i)==nm i&&(cz (nm i)&&(!(nm i).cps.toList.any RE.nM&&decide ((nm i).length≤1000))))=az:=by kernel_rfl
theorem ag9 {i:Nat}(h:i<9):Ei (nm i):=
 have h2:=j5 (j5 (R1 aai h)).2
 ⟨fG (j5 (R1 aai h)).1,h2.1,J4 (j5 h2.2).1,fH (j5 h2.2).2⟩
theorem Ql:((cD 9).all λi=>(cD 9).all λj=>(nm i==nm j)==decide (i=j))=az:=by kernel_rfl
theorem Km {i j:Nat}(hi:i<9)(hj:j<9):(nm i==nm j)=decide (i=j):=fG (R1 (R1 (p:=λi=>(cD 9).all λj=>(nm i==nm j)==decide (i=j)) Ql hi) hj)
theorem aU4:((cD 9).all λi=>(nm i).length==if i<5 then 1 else 2)=az:=by kernel_rfl
theorem a07 {i:Nat}(hi:i<9):(nm i).length=if i<5 then 1 else 2:=fG (R1 aU4 hi)
section
variable {n i j k x y s t:Nat}{lk:List Nat}{H:Hp}{nd:List Nat}{r:Rec}{ov:V}
theorem aaj:((cD 4).all λk=>(idx ("abcd":aM).cps.toList (k:Int))==aa (97+k))=az:=by kernel_rfl
theorem getI_str {c:aM}{k:Int}:Z0 H (.str c) (.int k)=fV (small k) (opt (idx c.cps.toList k) λx=>aa (.str ⟨#[x]⟩)):=rfl
theorem alr (h:k<4):Z0 H (.str "abcd") (.int k)=aa (.str (toS [97+k])):=by have e:idx ("abcd":aM).cps.toList (k:Int)=aa (97+k):=fG (R1 (p:=λk=>(idx ("abcd":aM).cps.toList (k:Int))==aa (97+k)) aaj h);refine aD getI_str (aD (Y8 (ak (bR h) (by decide))) (aD e ?_));rfl
theorem twice (h:k<4):K8 H .Mult (.str (toS [97+k])) (.int 2)=ok (nT (5+k)) H:=by
 have e:nm (5+k)=toS [97+k,97+k]:=by delta nm;exact aD (bu (iG (aQ 5 k))) (aD (show 92+(5+k)=97+k by exact(gO _ _ _).symm) rfl)
 simp only[nT,e];rfl
theorem half {s:Nat}:K8 H .FloorDiv (.int s) (.int 2)=ok (.int (s/2:Nat)) H:=by refine nF (show(s:Int).fdiv 2=((s/2:Nat):Int) from by rw[zr,rF _ (by decide)];rfl) ?_;rfl
theorem odd {s:Nat}:K8 H .Mod (.int s) (.int 2)=ok (.int (s % 2:Nat)) H:=by refine nF (show(s:Int).fmod 2=((s % 2:Nat):Int) from by rw[aoy,Cd _ (by decide)];rfl) ?_;rfl
theorem a08 {φ:Fm}{e:j6}(he:dY gL (n+1) φ e H=ok (.int s) H)(h:s<8):dY gL (n+4) φ (.bin .Mult (.sub (.cst (.str "abcd")) (.bin .FloorDiv e (.cst (.int 2)))) (.cst (.int 2))) H=ok (nT (5+s/2)) H:=
 G7 (I4 j4 (G7 he j4 half) (alr (lX h))) j4 (twice (lX h))
theorem als:∀{nd:List Nat},∀J:(∀x∈nd,x<9),∀J:j<9,(nd.map nm).findIdx? (·==nm j)=nd.findIdx? (·==j):=by
 intro zz
 induction zz with
 | nil=>
  intro _ _;exact rfl
 | cons x nd ih=>
  intro h hj;refine aD bV (aD (wC) (aD (wC) (aD (Km (h x (.head _)) hj) (aD (ih (λy hy=>h y (.tail _ hy)) hj) ?_))));rfl
theorem asy {m:Nat}(h:H[i]?=aa (.list (nd.map nT)))(hn:∀x∈nd,x<9)(hj:j<9)(hf:nd.findIdx? (·==j)=aa k):U8 r lk (.lst m) (.ref i) ("index":aM) [nT j] [] [] H=ok (.int k) H:=by refine m8 rfl (f9 (K1 h) ?_);delta Fe;refine aD (bu (by decide+kernel)) (aD (bG rfl) ?_);refine f9 (a:=nT j) rfl (f9 (a:=nm j) rfl ?_);have e:=asm (nd.map nm);rw[cY]at e;refine f9 e ?_;refine aD (als hn hj) (aD hf ?_);rfl
theorem alu {φ:Fm}{e o:j6}(ho:dY gL (n+4) φ o H=ok (.ref i) H)(he:dY gL (n+1) φ e H=ok (.int s) H)(h8:s<8)(h:H[i]?=aa (.list (nd.map nT)))(hn:∀x∈nd,x<9)(hf:nd.findIdx? (·==5+s/2)=aa k):dY gL (n+5) φ (.bN o "index" [(.bin .Mult (.sub (.cst (.str "abcd")) (.bin .FloorDiv e (.cst (.int 2)))) (.cst (.int 2)))] [] []) H=ok (.int k) H:=
 t7 ho (X4 ash h) (c7 (a08 he h8) d8) d8 (asy h hn (show 5+s/2<5+4 from wj (lX h8) 5) hf)
end
noncomputable def iter {α:Type}(f:α->α):Nat->α->α
 | 0,a=>a
 | n+1,a=>iter f n (f a)
theorem Qm {α:Type}{p:V->St->v7 Fl}{q:St->v7 Fl}(S:α->Option V->St)(f:α->α)(inv:Nat->α->Prop)(N:Nat)(hi:∀k a,∀J:k<N,∀J:inv k a,inv (k+1) (f a))(h:∀k a o v,∀J:k<N,∀J:inv k a,p v (S a o)=fc .next (S (f a) (aa v))):∀(vs:List V)(k:Nat)(a:α)(o:Option V),∀J:k+vs.length≤N,∀J:inv k a,∃o',U5 p q vs (S a o)=q (S (iter f vs.length a) o'):=by
 intro zz
 induction zz with
 | nil=>
  intro _ a o _ _;exact⟨o,rfl⟩
 | cons v vs ih=>
  intro k a o hz ha;have hk:k<N:=bA (nZ (fB _)) hz;obtain⟨o',e⟩:=ih (k+1) (f a) (aa v) (by rw[gO,iM 1];exact hz) (hi k a hk ha);exact⟨o',(R0 (h k a o v hk ha) rfl).trans e⟩
noncomputable def Gz (x:aM):Option V->j8
 | none=> []
 | some v=> [(x,v)]
noncomputable def Cp (nd:List Nat)(s:Nat):Nat:=nd.findIdx (·==5+s/2)
noncomputable def P0 (nd:List Nat)(a:Nat×List Nat):Nat×List Nat:=if a.1<8 then(Cp nd a.1,(48+a.1 % 2)::a.2) else a
structure Nd (nd:List Nat):Prop where
 lt:∀x∈nd,x<9
 len:nd.length=9
 kn:∀k,∀J:k<4,(5+k)∈nd
theorem Nd.up {nd:List Nat}(N:Nd nd){s:Nat}(h:s<8):nd.findIdx? (·==5+s/2)=aa (Cp nd s)∧Cp nd s<9:=⟨List.findIdx?_eq_some_of_exists ⟨_,(N.kn (s/2) (lX h)),beq_self_eq_true _⟩,N.len▸(List.findIdx_lt_length_of_exists ⟨_,(N.kn (s/2) (lX h)),beq_self_eq_true _⟩)⟩
end
section
noncomputable abbrev zy (p:Nat×Nat):aM×aM:=(nm p.1,dg p.2)
section
variable {n i j k x y s t:Nat}{bk:List (Nat×Nat)}
theorem alv:∀{bk:List (Nat×Nat)},∀J:(∀p∈bk,p.1<9),∀J:x<9,(bk.map zy).find? (λp=>p.1==nm x)=(bk.find? λp=>p.1==x).map zy:=by
 intro zz
 induction zz with
 | nil=>
  intro _ _;exact rfl
 | cons p bk ih=>
  intro h hx;refine aD bV (aD (aoz) (aD (aoz) (aD (ih (λq hq=>h q (.tail _ hq)) hx) ?_)));refine aD (show((zy p).1==nm x)=(p.1==x) from(Km (h p (.head _)) hx).trans (by rw[jc];exact decide_eq_true_iff.trans beq_iff_eq.symm)) ?_;cases p.1==x<;>rfl
theorem aak (h:s<10):Lw H "int" (.str (dg s))=ok (.int s) H:=by delta Lw;refine aD (bu (by decide+kernel)) (aD (bG rfl) ?_);refine aD W0 (aD (gJ (aQ 48 s)) (aD (gJ (bK (dF h) 48)) (aD (show((48+s:Nat):Int)-48=(s:Int) from by rw[iM];exact jy (s:Int) 48) ?_)));rfl
theorem aal (ho:dY gL (n+21) φ o H=ok (.ref i) H)(he:dY gL (n+21) φ e H=ok (.str nmx) H)(h:Ka H i j (bk.map zy))(hb:∀p∈bk,p.1<9)(hx:x<9)(hl:iD nmx=nm x)(hf:bk.find? (λp=>p.1==x)=aa (x,s))(hs:s<10):
  dY gL (n+23) φ (.call (.gn "int") [(.bN o "get" [e] [] [])] [] []) H=ok (.int s) H:=by
 exact PT asl (t7 ho (O6 h.inst aBr) (c7 he d8) d8 (ZJ h hl (ag9 hx) (λp hp=>by
  obtain⟨q,hq,rfl⟩:=dq.mp hp;exact ag9 (hb q hq)) (by refine aD (alv hb hx) (aD hf ?_);rfl))) (aak hs)
noncomputable abbrev wdS (ib jn:Nat)(nmx:aM)(H:Hp)(a:Nat×List Nat)(o:Option V):St:=⟨("book",.ref ib)::("nodes",.ref jn)::("name",.str nmx)::("seat",.int a.1)::("word",.str (toS a.2))::Gz "turn" o, [],H⟩
theorem alw:((cD 2).all λk=>(idx ("01":aM).cps.toList (k:Int))==aa (48+k))=az:=rfl
theorem a09 (h:k<2):Z0 H (.str "01") (.int k)=aa (.str (dg k)):=by refine aD getI_str (aD (Y8 (ak (bR h) (by decide))) (aD (fG (R1 alw h)) ?_));rfl
theorem add_str:K8 H .Add (.str a) (.str b)=opt (Rv (a.append b)) λv=>ok v H:=rfl
theorem aan (h:l.length≤1000):Rv (toS l)=aa (.str (toS l)):=m8 (O3 (by rw[N5];exact h)) rfl
theorem DN (h:(a++b).length≤1000):K8 H .Add (.str (toS a)) (.str (toS b))=ok (.str (toS (a++b))) H:=by simp only[add_str,al9,aan h];rfl
theorem alx (N:Nd nd)(h:H[jn]?=aa (.list (nd.map nT)))(hz:a.2.length≤100)(o:Option V)(v:V):Q8 gL (n+12) lk (.loc "turn") Zg v (wdS ib jn nmx H a o)=fc .next (wdS ib jn nmx H (P0 nd a) (aa v)):=by
 obtain⟨s,wd⟩:=a;refine Q4 (by cases o<;>exact n7) ?_;delta P0;by_cases h8:s<8
 ·rw[bG h8]
  exact j0 (J2 (t8 (u6 (d9 rfl) j4 (aq6 h8))) (j0 (t6 (U6 (c7 (G7 (I4 j4 (G7 (d9 rfl) j4 odd) (a09 (lY _ (by decide)))) (d9 rfl) (DN (cO (ak hz (by decide))))) (c7 (alu (d9 rfl) (d9 rfl) h8 h N.lt (N.up h8).1) d8))) (Z5 n7 n7)) o9)) o9
 ·rw[bu h8]
  exact j0 (M7 (t8 (u6 (d9 rfl) j4 (ai6 h8))) o9) o9
theorem aao {m:Nat}(h:dY G n φ e H=ok (.int m) H)(hm:m≤9):yl (u9 G n) φ (.xU [e]) H=ok (upV 0 m, []) H:=
 j7 (c7 h d8) (f9 rfl (m8 (by
  have hs:small (4*(m:Int))=az:=by delta small;rw[gJ (cV (by decide) (Int.mul_nonneg (by decide) (cJ m))),gJ (ju (jZ (du.mpr hm) (by decide)) (by decide))];rfl
  show(small (4*(m:Int))&&az)=az;refine aD hs ?_;rfl) (f9 rfl rfl)))
noncomputable def R2 (nd:List Nat)(s:Nat):List Nat:=(iter (P0 nd) 8 (s, [])).2
theorem Qn (N:Nd nd)(h:Ka H ib jb (bk.map zy))(hn:H[jn]?=aa (.list (nd.map nT)))(hb:∀p∈bk,p.1<9)(hx:x<9)(hl:iD nmx=nm x)(hf:bk.find? (λp=>p.1==x)=aa (x,s))(hs:s<9):
  p8 gL (n+30) lk 386 [.ref ib,.ref jn,.str nmx] [] [] H=ok (.str (toS (R2 nd s))) H:=by
 obtain⟨o',e⟩:=Qm (wdS ib jn nmx H) (P0 nd) (λk a=>a.2.length≤k) 8 (λk a U ha=>by
  delta P0
  split
  ·exact cO ha
  ·exact gq ha) (λk a o v hk ha=>alx N hn (ak ha (ak (bR hk) (by decide))) o v) (upV 0 8) 0 (s, []) aC (by decide) (aN 0)
 exact G6 rfl rfl rfl rfl
  (j0 (t6 (U6 (c7 (aal (d9 rfl) (d9 rfl) h hb hx hl hf (gV hs)) (c7 j4 d8))) (Z5 n7 n7)) (j0 (W7 (aao j4 (by decide)) e) (K6 (S8 (d9 rfl))))) (H8 rfl)
end
end
section
noncomputable def pl:List Nat->List (aM×aM)
 | []=> []
 | b::r=>pl r++ [((("":aM)),toS [b])]
noncomputable def pH (H:Hp)(ip:Nat)(bs:List Nat):Hp:=H.set ip (mX 1 (pl bs))
inductive Pth (nd:List Nat)(t:Nat):Nat->List Nat->Prop
 | leaf (x:Nat) (h:nd[t]?=aa x) (hx:x<5):Pth nd t t []
 | a1a (s x c:Nat) (w:List Nat) (h:nd[s]?=aa x) (hx:5≤x) (hc:c<2) (k:Pth nd t (2*(x-5)+c) w):Pth nd t s ((48+c)::w)
section
variable {n i j k x y s t:Nat}{nd:List Nat}
theorem a1b:((cD 9).all λx=>x<5 || (idx (nm x).cps.toList 0==aa (92+x)))=az:=rfl
theorem nm_0 (h:x<9)(h5:5≤x):Z0 H (nT x) (.int 0)=aa (.str (toS [92+x])):=by refine aD getI_str (aD (show small 0=az from by kernel_rfl) (aD (fG ((dJ.mp (R1 a1b h)).resolve_left λq=>absurd (fH q) (iG h5))) ?_));rfl
theorem at7 (h:x<9):G4 H "len" (nT x)=ok (.int (if x<5 then 1 else 2:Nat)) H:=by delta G4;refine aD (bG rfl) ?_;show fV (room (nm x).length) (ok (V.int ((nm x).length:Nat)) H)=_;refine aD (a07 h) (aD (O3 (by split<;>decide)) ?_);rfl
theorem asz:G4 H "ord" (.str (toS [c]))=ok (.int c) H:=by delta G4;refine aD (bu (by decide+kernel)) (aD (bu (by decide+kernel)) (aD (bu (by decide+kernel)) (aD (bu (by decide+kernel)) (aD (bu (by decide+kernel)) (aD (bG rfl) ?_)))));rfl
theorem ata:gL.glob "ord"=aa (.gl (.builtin "ord")):=rfl
theorem aCp (h5:5≤x):K8 H .Sub (.int (92+x:Nat)) (.int 97)=ok (.int (x-5:Nat)) H:=by obtain⟨k,rfl⟩:=Nat.exists_eq_add_of_le h5;rw[tU,←gO,iM];exact congrArg (λz=>ok (V.int z) H) (jy k 97)
theorem aCq {a b:Nat}(ha:a≤1000)(hb:b≤1000):K8 H .Mult (.int a) (.int b)=ok (.int (a*b:Nat)) H:=by show opt (aa (b:Int)) (λy=>fV (small (a:Int)&&small y) (ok (V.int ((a:Int)*y)) H))=_;rw[W0,Y8 ha,Y8 hb,←Aa];rfl
theorem Bw {a b:Nat}:K8 H .Add (.int a) (.int b)=ok (.int (a+b:Nat)) H:=by simp only[ie];rfl
noncomputable abbrev ltS (jn ip:Nat)(H:Hp)(s:Nat)(bs:List Nat)(o:Option V):St:=⟨("nodes",.ref jn)::("pile",.ref ip)::("seat",.int s)::Gz "turn" o, [],pH H ip bs⟩
theorem aly (h:H[jn]?=aa (.list (nd.map nT)))(oA:ip≠jn):(pH H ip bs)[jn]?=aa (.list (nd.map nT)):=(bH oA).trans h
theorem aCr (hi:ip<H.length):(pH H ip bs)[ip]?=aa (mX 1 (pl bs)):=bC hi
theorem ah0 (e:nd[s]?=aa x):(nd.map nT)[s]?=aa (nT x):=by refine aD (eV) (aD e ?_);rfl
theorem alz (h:H[jn]?=aa (.list (nd.map nT)))(oA:ip≠jn)(hi:ip<H.length)(N:Nd nd)(hx:nd[s]?=aa x)(h5:5≤x)(hc:c<2)(hl:lk.contains ip=aG)(o:Option V)(v:V):
  Q8 gL (n+32) lk (.loc "turn") aC0 v (ltS jn ip H s ((48+c)::bs) o)=fc .next (ltS jn ip H (2*(x-5)+c) bs (aa v)):=by
 have h9:=N.lt x (aR hx);have hs:s≤1000:=by have:=(aL.mp hx).1;rw[N.len]at this;exact ak (bR this) (by decide)
 have pp:=aq7 (n:=n+6) (H:=pH H ip ((48+c)::bs)) (aCr hi) hl;simp only[show(pH H ip ((48+c)::bs)).set ip (mX 1 (pl bs))=pH H ip bs from iH ..]at pp;have tl:=at7 (H:=pH H ip ((48+c)::bs)) h9;rw[bu (iG h5)]at tl;exact Q4 (by cases o<;>exact n7) (j0 (J2 (t8 (u6 (O2 U3 (I4 (d9 rfl) (d9 rfl) (J8 (aly h oA) (ah0 hx) hs)) tl) j4 (Cm))) (j0 (t6 (G7 (G7 j4 (G7 (O2 ata (I4 (I4 (d9 rfl) (d9 rfl) (J8 (aly h oA) (ah0 hx) hs)) j4 (nm_0 h9 h5)) asz) j4 (aCp h5)) (aCq (by decide) (ak (uB _ _) (ak (bR h9) (by decide))))) (PT asl (I4 (t7 (d9 rfl) (J7 (aCr hi) ax0 ax1) d8 d8 pp) j4 rfl) (aak (dw hc (by decide)))) Bw) n7) o9)) o9)
theorem ama (h:H[jn]?=aa (.list (nd.map nT)))(oA:ip≠jn)(N:Nd nd)(hx:nd[s]?=aa x)(h5:x<5)(o:Option V)(v:V):
  Q8 gL (n+32) lk (.loc "turn") aC0 v (ltS jn ip H s bs o)=fc .next (ltS jn ip H s bs (aa v)):=by
 have hs:s≤1000:=by have:=(aL.mp hx).1;rw[N.len]at this;exact ak (bR this) (by decide)
 have tl:=at7 (H:=pH H ip bs) (N.lt x (aR hx));rw[bG h5]at tl;exact Q4 (by cases o<;>exact n7) (j0 (M7 (t8 (u6 (O2 U3 (I4 (d9 rfl) (d9 rfl) (J8 (aly h oA) (ah0 hx) hs)) tl) j4 (Cm))) o9) o9)
theorem amb {q:St->v7 Fl}(h:H[jn]?=aa (.list (nd.map nT)))(oA:ip≠jn)(hi:ip<H.length)(N:Nd nd)(hl:lk.contains ip=aG):∀vs s w o,∀J:Pth nd t s w,∀J:w.length≤vs.length,∃o',U5 (Q8 gL (n+32) lk (.loc "turn") aC0) q vs (ltS jn ip H s (w++bs) o)=q (ltS jn ip H t bs o'):=by
 intro zz
 induction zz with
 | nil=>
  intro s w o p hz;obtain rfl:=eZ (Rq.mp hz);cases p;exact⟨o,rfl⟩
 | cons v vs ih=>
  intro s w o p hz;cases p with
  | leaf x hx h5=>
   obtain⟨o',e⟩:=ih t [] (aa v) (.leaf x hx h5) (cL _);exact⟨o',R0 (ama h oA N hx h5 o v) e⟩
  | a1a _ x c w hx h5 hc k=>
   obtain⟨o',e⟩:=ih _ w (aa v) k (uC hz);exact⟨o',R0 (alz h oA hi N hx h5 hc hl o v) e⟩
theorem aR8 (h:H[jn]?=aa (.list (nd.map nT)))(oA:ip≠jn)(hi:ip<H.length)(N:Nd nd)(hl:lk.contains ip=aG)(p:Pth nd t 8 w)(hw:w.length≤8)(hx:nd[t]?=aa x):p8 gL (n+36) lk 393 [.ref jn,.ref ip] [] [] (pH H ip (w++bs))=ok (nT x) (pH H ip bs):=by
 refine jA (amb (n:=n+2) (bs:=bs) (q:=G5 (iY gL (n+34) lk) []) h oA hi N hl (upV 0 8) 8 w aC p hw) λo' e=> ?_;have ht:t≤1000:=by have:=(aL.mp hx).1;rw[N.len]at this;exact ak (bR this) (by decide)
 exact G6 rfl rfl rfl rfl
  (j0 (t6 j4 n7) (j0 (W7 (aao j4 (by decide)) e) (K6 (S8 (I4 (d9 rfl) (d9 rfl) (J8 (aly h oA) (ah0 hx) ht)))))) (H8 (aD bx (aD bx rfl)))
end
end
section
theorem J5:∀{L:j8},(upd L x v).lookup x=aa v:=by
 intro zz
 induction zz with
 | nil=>
  exact z6
 | cons hd0 L ih=>
  obtain⟨y,u⟩:=hd0;refine aD Cw ?_;by_cases h:y=x
  ·rw[bG h];exact z6
  ·rw[bu h,w5 (Ne.symm h)];exact ih
theorem Z7 (h:y≠x):∀{L:j8},(upd L x v).lookup y=L.lookup y:=by
 intro zz
 induction zz with
 | nil=>
  exact w5 h
 | cons hd0 L ih=>
  obtain⟨z,u⟩:=hd0;refine aD Cw ?_;by_cases q:z=x
  ·rw[bG q]
   subst q;exact aD (w5 h) (aD (w5 h) rfl)
  ·rw[bu q]
   by_cases q2:y=z
   ·subst q2;exact aD z6 (aD z6 rfl)
   ·refine aD (w5 q2) (aD (w5 q2) ?_);exact ih
structure Gt (H:Hp)(ib jb jn jw:Nat):Prop where
 inst:H[ib]?=aa (.inst 370 [("_headers",.ref jb)])
 bn:jb≠jn
 bw:jb≠jw
 nw:jn≠jw
 aPt:jb≠ib
 aPu:jn≠ib
 aPv:jw≠ib
 lb:jb<H.length
 ln:jn<H.length
 lw:jw<H.length
noncomputable abbrev Bx (bk:List (Nat×Nat)):p6:= .list ((bk.map zy).map pV)
noncomputable abbrev yt (nd:List Nat):p6:= .list (nd.map nT)
noncomputable abbrev wO (W:List Nat):p6:= .list (W.map nV)
noncomputable def gH (H:Hp)(jb jn jw:Nat)(bk:List (Nat×Nat))(nd W:List Nat):Hp:=((H.set jb (Bx bk)).set jn (yt nd)).set jw (wO W)
section
variable {n ib jb jn jw s x y:Nat}{lk:List Nat}
theorem af0:(gH H jb jn jw bk nd W).length=H.length:=aD bx (aD bx (aD bx rfl))
theorem Gt.amd (g:Gt H ib jb jn jw):(gH H jb jn jw bk nd W)[jw]?=aa (wO W):=bC (by refine aD bx (aD bx ?_);exact g.lw)
theorem Gt.Qo (g:Gt H ib jb jn jw):(gH H jb jn jw bk nd W)[jn]?=aa (yt nd):=(bH (Ne.symm g.nw)).trans (bC (aD bx g.ln))
theorem Gt.aPw (g:Gt H ib jb jn jw):(gH H jb jn jw bk nd W)[jb]?=aa (Bx bk):=(bH (Ne.symm g.bw)).trans ((bH (Ne.symm g.bn)).trans (bC g.lb))
theorem Gt.yR (g:Gt H ib jb jn jw):(gH H jb jn jw bk nd W)[ib]?=aa (.inst 370 [("_headers",.ref jb)]):=(bH g.aPv).trans ((bH g.aPu).trans ((bH g.aPt).trans g.inst))
theorem aap:(gH H jb jn jw bk nd W).set jw (wO W')=gH H jb jn jw bk nd W':=by delta gH;simp only[iH]
theorem Gt.atc (g:Gt H ib jb jn jw):(gH H jb jn jw bk nd W).set jn (yt GC)=gH H jb jn jw bk GC W:=by delta gH;rw[mZ _ _ (Ne.symm g.nw),iH]
theorem Gt.aCs (g:Gt H ib jb jn jw):(gH H jb jn jw bk nd W).set jb (Bx GD)=gH H jb jn jw GD nd W:=by delta gH;rw[mZ _ _ (Ne.symm g.bw),mZ _ _ (Ne.symm g.bn),iH]
theorem Gt.hd (g:Gt H ib jb jn jw)(hz:bk.length<900):Ka (gH H jb jn jw bk nd W) ib jb (bk.map zy):=⟨g.yR,g.aPw,by rw[aJ];exact hz⟩
theorem aC9 (l:List Nat):V.qO m (l.map nT)=az:=ag3 (λU=>rfl) l
theorem T4 (l:List Nat):V.qO m (l.map nV)=az:=ag3 (λU=>rfl) l
theorem Cl.gH (c:Cl lk H):Cl lk (X2.gH H jb jn jw bk nd W):=((c.set (o:=Bx bk) (ae9 _)).set (o:=yt nd) (aC9 _)).set (T4 _)
noncomputable def Qp (bk:List (Nat×Nat))(x s:Nat):List (Nat×Nat):=bk.filter (λp=> !(p.1==x))++ [(x,s)]
theorem ame (hx:x<9):∀{bk:List (Nat×Nat)},∀J:(∀p∈bk,p.1<9),(bk.map zy).filter (λp=> !(p.1==nm x))=(bk.filter λp=> !(p.1==x)).map zy:=by
 intro zz
 induction zz with
 | nil=>
  intro _;exact rfl
 | cons p bk ih=>
  intro h;refine aD bV (aD tG (aD tG (aD (show(!((zy p).1==nm x))=(!(p.1==x)) from congrArg (!·) ((Km (h p (.head _)) hx).trans (by rw[jc];exact decide_eq_true_iff.trans beq_iff_eq.symm))) (aD (ih λq hq=>h q (.tail _ hq)) ?_))));cases !(p.1==x)<;>rfl
theorem a1c:((cD 9).all λs=> !(dg s).cps.toList.any RE.qC)=az:=rfl
theorem atd (h:s<9):Bv (dg s):=⟨J4 (R1 a1c h),by rw[N5];exact(show 1≤1000 by decide)⟩
theorem GF (h:s<10):Lw H "str" (.int s)=ok (.str (dg s)) H:=by delta Lw;exact aD (bG rfl) (m8 (by refine aD (gJ (cJ s)) (aD (gJ (iJ.mpr h)) ?_);rfl) rfl)
theorem aCt (g:Gt H ib jb jn jw)(c:Cl lk H)(hb:∀p∈bk,p.1<9)(hz:bk.length≤400)(hl:lk.contains jb=aG)(hx:x<9)(hs:s<9)(ht:dY gL (n+26) ⟨L, [],lk⟩ t (gH H jb jn jw bk nd W)=ok (.ref ib) (gH H jb jn jw bk nd W))(he:dY gL (n+26) ⟨L, [],lk⟩ e (gH H jb jn jw bk nd W)=ok (nT x) (gH H jb jn jw bk nd W)):
  K5 gL (n+27) lk (.sub t e) (.str (dg s)) ⟨L, [],gH H jb jn jw bk nd W⟩=fc () ⟨L, [],gH H jb jn jw (Qp bk x s) nd W⟩:=by
 have h:=g.hd (nd:=nd) (W:=W) (bz hz (by decide));have e:=ZQ (n:=n+1) (Cl.gH c) h (ag9 hx) (atd hs) (λp hp=>by
  obtain⟨q,hq,rfl⟩:=dq.mp hp;exact ag9 (hb q hq)) (by rw[aJ];exact ak hz (by decide)) hl
 rw[ame hx hb,show(bk.filter (λp=> !(p.1==x))).map zy++ [(nm x,dg s)]=(Qp bk x s).map zy from by delta Qp;simp only[cC];rfl,g.aCs]at e;exact PX ht he (f9 (Kc h) (f9 aBv (j7 e rfl)))
end
end
section
structure GL (L:j8)(ib jn jw s:Nat):Prop where
 book:L.lookup ("book":aM)=aa (.ref ib)
 nodes:L.lookup ("nodes":aM)=aa (.ref jn)
 wts:L.lookup ("weights":aM)=aa (.ref jw)
 DP:L.lookup ("seat":aM)=aa (.int s)
section
variable {n ib jb jn jw s la x y a b:Nat}
theorem GL.upd (G:GL L ib jn jw s){x:aM}{v:V}(h1:("book":aM)≠x)(h2:("nodes":aM)≠x)(h3:("weights":aM)≠x)(h4:("seat":aM)≠x):GL (upd L x v) ib jn jw s:=
 ⟨(Z7 h1).trans G.book,(Z7 h2).trans G.nodes,(Z7 h3).trans G.wts,(Z7 h4).trans G.DP⟩
theorem GL.aCu (G:GL L ib jn jw s){t:Nat}:GL (Mine.Internal.upd L "seat" (.int t)) ib jn jw t:=
 ⟨(Z7 (by decide+kernel)).trans G.book,(Z7 (by decide+kernel)).trans G.nodes,(Z7 (by decide+kernel)).trans G.wts,J5⟩
noncomputable def note (bk:List (Nat×Nat))(x s:Nat):List (Nat×Nat):=if x<5 then Qp bk x s else bk
theorem aP0 (g:Gt H ib jb jn jw)(c:Cl lk H)(G:GL L ib jn jw y)(N:∀x∈nd,x<9)(hb:∀p∈bk,p.1<9)(hz:bk.length≤400)(hl:lk.contains jb=aG)(hs:s<9)(hx:nd[s]?=aa x):
  Q8 gL (n+30) lk (.loc "one") Gr (.int s) ⟨L, [],gH H jb jn jw bk nd W⟩=fc .next ⟨upd L "one" (.int s), [],gH H jb jn jw (note bk x s) nd W⟩:=by
 have G':=G.upd (x:="one") (v:= .int s) (by decide+kernel) (by decide+kernel) (by decide+kernel) (by decide+kernel);have h9:=N x (aR hx);have gi:∀{bk W},Z0 (gH H jb jn jw bk nd W) (.ref jn) (.int s)=aa (nT x):=λ{_ _}=>J8 g.Qo (ah0 hx) (ak (bR hs) (by decide));have tl:=at7 (H:=gH H jb jn jw bk nd W) h9;refine Q4 n7 ?_;delta note;by_cases h5:x<5
 ·rw[bG h5]at tl⊢
  exact j0 (J2 (t8 (u6 (O2 U3 (I4 (d9 G'.nodes) (d9 J5) gi) tl) j4 (Cm))) (j0 (t6 (PT ai7 (d9 J5) (GF (gV hs))) (aCt g c hb hz hl h9 hs (d9 G'.book) (I4 (d9 G'.nodes) (d9 J5) gi))) o9)) o9
 ·rw[bu h5]at tl⊢
  exact j0 (M7 (t8 (u6 (O2 U3 (I4 (d9 G'.nodes) (d9 J5) gi) tl) j4 (Cm))) o9) o9
noncomputable def V3 (nd:List Nat)(s t a b:Nat):List Nat:=(nd.set s b).set t a
theorem swap_lt (N:∀x∈nd,x<9)(ha:a<9)(hb:b<9):∀x∈V3 nd s y a b,x<9:=λx hx=>
 (rH hx).elim (λh=>(rH h).elim (N x) λh=>h▸hb) λh=>h▸ha
theorem ac6 {α β:Type}(f:α->β)(l:List α)(k:Nat)(v:α):(l.map f).set k (f v)=(l.set k v).map f:=(Ex ..).symm
theorem a1f (g:Gt H ib jb jn jw)(c:Cl lk H)(G:GL L ib jn jw s)(hla:L.lookup ("last":aM)=aa (.int la))(N:∀x∈nd,x<9)(hb:∀p∈bk,p.1<9)(hz:bk.length≤390)(hl:lk.contains jb=aG)(RQ:lk.contains jn=aG)(hs:s<nd.length)(a1g:la<nd.length)(hn9:nd.length=9)(oA:la≠s)(ha:nd[s]?=aa a)(hbb:nd[la]?=aa b):
  G5 (iY gL (n+33) lk) [.asg (.tup [(.sub (.loc "nodes") (.loc "seat")),(.sub (.loc "nodes") (.loc "last"))]) (.tup [(.sub (.loc "nodes") (.loc "last")),(.sub (.loc "nodes") (.loc "seat"))]),.oU (.loc "one") (.tup [(.loc "seat"),(.loc "last")]) Gr []] ⟨L, [],gH H jb jn jw bk nd W⟩=
   fc .next ⟨upd (upd L "one" (.int s)) "one" (.int la), [],gH H jb jn jw (note (note bk b s) a la) (V3 nd s la a b) W⟩:=by
 have hs9:=hn9▸hs;have hl9:=hn9▸a1g;have ks:s≤1000:=ak (bR hs9) (by decide);have kl:la≤1000:=ak (bR hl9) (by decide);have hb9:=N b (aR hbb);have s1:=λr=>ak5 (G:=gL) (r:=r) (v:=nT b) (g.Qo (bk:=bk) (W:=W)) (by rw[aJ];exact hs) ks RQ;have s2:=λr=>ak5 (G:=gL) (r:=r) (v:=nT a) (g.Qo (bk:=bk) (nd:=nd.set s b) (W:=W)) (by simp only[aJ,bx];exact a1g) kl RQ;rw[ac6,g.atc]at s1;rw[ac6,g.atc]at s2;have e1:(V3 nd s la a b)[s]?=aa b:=by exact aD (bH oA) (aD (bC hs) rfl)
 have e2:(V3 nd s la a b)[la]?=aa a:=by exact aD (bC (by rw[bx];exact a1g)) rfl
 have nt:(note bk b s).length≤400:=by
  unfold note Qp
  split
  ·rw[aA]
   exact ak (bB (ak (fU _ _) hz) 1) (by decide)
  ·exact ak hz (by decide)
 have nb:∀p∈note bk b s,p.1<9:=λp hp=>by
  unfold note Qp at hp
  split at hp
  ·exact(cX.mp hp).elim (λq=>hb p (gG.mp q).1) λq=>by refine aD (aP.mp q) ?_;exact hb9
  ·exact hb p hp
 have N':=swap_lt (s:=s) (y:=la) N (N a (aR ha)) hb9;exact j0 (t6 (U6 (c7 (I4 (d9 G.nodes) (d9 hla) (J8 g.Qo (ah0 hbb) kl)) (c7 (I4 (d9 G.nodes) (d9 G.DP) (J8 g.Qo (ah0 ha) ks)) d8))) (Z5 (PX (d9 G.nodes) (d9 G.DP) (s1 _)) (PX (d9 G.nodes) (d9 hla) (s2 _))))
  (j0 (W7 (j7 (U6 (c7 (d9 G.DP) (c7 (d9 hla) d8))) rfl)
   (R0 (aP0 g c G N' hb (ak hz (by decide)) hl hs9 e1) (R0 (aP0 g c (G.upd (by decide+kernel) (by decide+kernel) (by decide+kernel) (by decide+kernel)) N' nb nt hl hl9 e2) rfl))) o9)
end
end
section
noncomputable def rW (W:List Nat)(s:Nat):Nat:=W.countP (·≤W.getD s 0)-1
noncomputable def qP (nd:List Nat)(s la:Nat):List Nat:=if la=s then nd else V3 nd s la (nd.getD s 0) (nd.getD la 0)
noncomputable def Qq (bk:List (Nat×Nat))(nd:List Nat)(s la:Nat):List (Nat×Nat):=if la=s then bk else note (note bk (nd.getD la 0) s) (nd.getD s 0) la
noncomputable def wN (W:List Nat)(la:Nat):List Nat:=W.set la (W.getD la 0+1)
noncomputable def am0:Nat->List Nat->List Nat->List (Nat×Nat)->Nat->Option (List Nat×List Nat×List (Nat×Nat))
 | 0,_,_,_,_=>aC
 | k+1,nd,W,bk,s=>if W.Pairwise (·≤·) then(if rW W s=8 then aa (qP nd s (rW W s),wN W (rW W s),Qq bk nd s (rW W s)) else am0 k (qP nd s (rW W s)) (wN W (rW W s)) (Qq bk nd s (rW W s)) (Cp (qP nd s (rW W s)) (rW W s))) else aC
theorem at8 (h:l.Pairwise (·≤·)):X8 l:=λj j' y y' e e' hj=>by
 obtain⟨h1,rfl⟩:=aL.mp e;obtain⟨h2,rfl⟩:=aL.mp e';rcases adx hj with q | q
 ·exact rG.mp h j j' h1 h2 q
 ·subst q;exact aN _
section
variable {n ib jb jn jw s la x y a b:Nat}
theorem getD_at {l:List Nat}(h:k<l.length):l[k]?=aa (l.getD k 0):=by refine aD (dO) (aD (bD h) ?_);rfl
theorem aaq (hW:W.length=9)(hs:s<9):rW W s<9∧W.countP (·≤W.getD s 0)=rW W s+1:=by have h1:0<W.countP (·≤W.getD s 0):=List.countP_pos_iff.mpr ⟨_,aR (getD_at (hW▸hs)),gJ (aN _)⟩;exact⟨bA (xj h1 Rj) (hW▸Hz),(Nat.sub_add_cancel h1).symm⟩
theorem aar (hs:s<l.length)(hl:la<l.length)(hx:x∈l):x∈V3 l s la (l.getD s 0) (l.getD la 0):=by
 refine jA (lB.mp hx) λj hj=> ?_;by_cases h1:j=s
 ·subst h1
  have:=(getD_at hs).symm.trans hj;exact aD (aq this) (aR (bC (aD bx hl)))
 ·by_cases h2:j=la
  ·subst h2
   have:=(getD_at hl).symm.trans hj;exact aD (aq this) (aR ((bH h1).trans (bC hs)))
  ·exact aR ((bH (Ne.symm h2)).trans ((bH (Ne.symm h1)).trans hj))
theorem Nd.swap (N:Nd nd)(hs:s<9)(hl:la<9):Nd (qP nd s la):=by
 delta qP
 split
 ·exact N
 ·exact⟨swap_lt N.lt (N.lt _ (aR (getD_at (N.len▸hs)))) (N.lt _ (aR (getD_at (N.len▸hl)))),by refine aD bx (aD bx ?_);exact N.len,λk hk=>aar (N.len▸hs) (N.len▸hl) (N.kn k hk)⟩
theorem Ko (hx:x<9)(hb:∀p∈bk,p.1<9):(∀p∈note bk x s,p.1<9)∧(note bk x s).length≤bk.length+1:=by
 unfold note Qp
 split
 ·exact⟨λp hp=>(cX.mp hp).elim (λq=>hb p (gG.mp q).1) λq=>by refine aD (aP.mp q) ?_;exact hx,by refine aD aA ?_;exact bB (fU _ _) 1⟩
 ·exact⟨hb,dC _⟩
theorem GJ (N:Nd nd)(hs:s<9)(hl:la<9)(hb:∀p∈bk,p.1<9):(∀p∈Qq bk nd s la,p.1<9)∧(Qq bk nd s la).length≤bk.length+2:=by
 delta Qq
 split
 ·exact⟨hb,aQ _ _⟩
 ·have h1:=Ko (s:=s) (N.lt _ (aR (getD_at (N.len▸hl)))) hb
  have h2:=Ko (s:=la) (N.lt _ (aR (getD_at (N.len▸hs)))) h1.1;exact⟨h2.1,ak h2.2 (bB h1.2 1)⟩
theorem neN:Q5 H .NotEq (.int x) (.int y)=aa (!decide (x=y)):=by show(Q5 H .Eq (.int x) (.int y)).map (!·)=_;refine aD Cm ?_;rfl
theorem aCw:K8 H .Sub (.int (x+1:Nat)) (.int 1)=ok (.int x) H:=by show ok (V.int (((x+1:Nat):Int)-1)) H=_;exact aD aCm rfl
structure LkG (lk:List Nat)(jb jn jw:Nat):Prop where
 b:lk.contains jb=aG
 n:lk.contains jn=aG
 w:lk.contains jw=aG
theorem a1h (g:Gt H ib jb jn jw)(c:Cl lk H)(G:GL L ib jn jw s)(K:LkG lk jb jn jw)(N:Nd nd)(hW:W.length=9)(hb:∀p∈bk,p.1<9)(hz:bk.length≤390)(hs:s<9)(hp:W.Pairwise (·≤·))(v:V):
  ∃L',GL L' ib jn jw s∧L'.lookup ("last":aM)=aa (.int (rW W s))∧∀{R:v7 Fl},∀J:G5 (iY gL (n+40) lk) (an7.drop 3) ⟨L', [],gH H jb jn jw (Qq bk nd s (rW W s)) (qP nd s (rW W s)) (wN W (rW W s))⟩=R,Q8 gL (n+40) lk (.loc "turn") an7 v ⟨L, [],gH H jb jn jw bk nd W⟩=R:=by
 refine nu (λl9 hc=> ?_) (aaq hW hs);have G1:=G.upd (x:="turn") (v:=v) (by decide+kernel) (by decide+kernel) (by decide+kernel) (by decide+kernel);have G2:=G1.upd (x:="last") (v:= .int (rW W s)) (by decide+kernel) (by decide+kernel) (by decide+kernel) (by decide+kernel);have gw:Z0 (gH H jb jn jw bk nd W) (.ref jw) (.int s)=aa (.int (W.getD s 0)):=J8 g.amd (V2 (getD_at (hW▸hs))) (ak (bR hs) (by decide));have bi:=a0m (n:=n+25) (lk:=lk) (x:=W.getD s 0) (g.amd (bk:=bk) (nd:=nd) (W:=W)) (by rw[hW];decide) (at8 hp);replace bi:=hc▸bi;have kl:rW W s≤1000:=ak (bR l9) (by decide);have e3:∀{L' bk nd},∀J:GL L' ib jn jw s,∀J:L'.lookup ("last":aM)=aa (.int (rW W s)),iY gL (n+40) lk (.Bf (.loc "weights") (.loc "last") .Add (.cst (.int 1))) ⟨L', [],gH H jb jn jw bk nd W⟩=fc .next ⟨L', [],gH H jb jn jw bk nd (wN W (rW W s))⟩:=λ{L' bk nd} G' hl'=>by have st:=ak5 (G:=gL) (r:=u9 gL (n+39)) (v:=nV (W.getD (rW W s) 0+1)) (g.amd (bk:=bk) (nd:=nd) (W:=W)) (by simp only[aJ,hW];exact l9) kl K.w;simp only[ac6,aap]at st;exact asa (d9 G'.wts) (d9 hl') (JX g.amd (V2 (getD_at (hW▸l9))) kl) j4 (rfl) st
 by_cases q:rW W s=s
 ·refine⟨_,G2,J5,λ{R} k'=>Q4 n7 (j0 (t6 (G7 (JR Gu Gv (c7 (d9 G1.wts) (c7 (I4 (d9 G1.wts) (d9 G1.DP) gw) d8)) bi) j4 aCw) n7) ?_)⟩
  simp only[Qq,qP,bG q,bG q]at k';exact j0 (M7 (t8 (u6 (d9 J5) (d9 G2.DP) (neN.trans (congrArg (λb=>aa (!b)) (gJ q))))) o9) (j0 (e3 G2 J5) k')
 ·have G3:=(G2.upd (x:="one") (v:= .int s) (by decide+kernel) (by decide+kernel) (by decide+kernel) (by decide+kernel)).upd (x:="one") (v:= .int (rW W s)) (by decide+kernel) (by decide+kernel) (by decide+kernel) (by decide+kernel)
  refine⟨_,G3,((Z7 (by decide+kernel)).trans ((Z7 (by decide+kernel)).trans J5)),λ{R} k'=>Q4 n7 (j0 (t6 (G7 (JR Gu Gv (c7 (d9 G1.wts) (c7 (I4 (d9 G1.wts) (d9 G1.DP) gw) d8)) bi) j4 aCw) n7) ?_)⟩;simp only[Qq,qP,bu q,bu q]at k';exact j0 (J2 (t8 (u6 (d9 J5) (d9 G2.DP) (neN.trans (congrArg (λb=>aa (!b)) (decide_eq_false q))))) (a1f g c G2 J5 N.lt hb hz K.b K.n (N.len▸hs) (N.len▸l9) N.len q (getD_at (N.len▸hs)) (getD_at (N.len▸l9)))) (j0 (e3 G3 ((Z7 (by decide+kernel)).trans ((Z7 (by decide+kernel)).trans J5))) k')
theorem a1i (hl:L.lookup ("last":aM)=aa (.int (8:Nat))):G5 (iY gL (n+40) lk) (an7.drop 3) ⟨L, [],H⟩=fc (.ret .none) ⟨L, [],H⟩:=
 K6 (J2 (t8 (u6 (d9 hl) j4 (Cm.trans (congrArg aa (gJ rfl))))) (K6 (S8 j4)))
theorem aPy (hl:L.lookup ("last":aM)=aa (.int la))(hn:L.lookup ("nodes":aM)=aa (.ref jn))(N:Nd nd)(h:H[jn]?=aa (yt nd))(h8:la<8):G5 (iY gL (n+40) lk) (an7.drop 3) ⟨L, [],H⟩=fc .next ⟨upd L "seat" (.int (Cp nd la)), [],H⟩:=
 j0 (M7 (t8 (u6 (d9 hl) j4 (Cm.trans (congrArg aa (decide_eq_false (dh h8)))))) o9) (j0 (t6 (alu (d9 hn) (d9 hl) h8 h N.lt (N.up h8).1) n7) o9)
theorem Qs {q:St->v7 Fl}(g:Gt H ib jb jn jw)(c:Cl lk H)(K:LkG lk jb jn jw):∀(vs:List V)(nd W:List Nat)(bk:List (Nat×Nat))(s:Nat)(L:j8)(r:List Nat×List Nat×List (Nat×Nat)),∀J:GL L ib jn jw s,∀J:Nd nd,∀J:W.length=9,∀J:(∀p∈bk,p.1<9),∀J:bk.length+2*vs.length≤390,∀J:s<9,∀J:am0 vs.length nd W bk s=aa r,∃L',U5 (Q8 gL (n+40) lk (.loc "turn") an7) q vs ⟨L, [],gH H jb jn jw bk nd W⟩=fc (.ret .none) ⟨L', [],gH H jb jn jw r.2.2 r.1 r.2.1⟩:=by
 intro zz
 induction zz with
 | nil=>
  intro _ _ _ _ _ _ _ _ _ _ _ _ e;exact iu e
 | cons v vs ih=>
  intro nd W bk s L r G N hW hb hz hs e;have e:=e;replace e:(if _ then(if _ then _ else am0 _ _ _ _ _) else aC)=aa r:=e;by_cases hp:W.Pairwise (·≤·)
  ·replace e:=(bG hp)▸e
   refine nu (λl9 _=> ?_) (aaq hW hs);refine Rt (a1h (n:=n) g c G K N hW hb (ak (aQ _ _) (by assumption)) hs hp v) λL1 G1 hl gt=> ?_;by_cases h8:rW W s=8
   ·rw[bG h8]at e
    obtain rfl:=aq e;exact⟨L1,a0g (gt (a1i (hl.trans (congrArg (λk:Nat=>aa (V.int k)) h8))))⟩
   ·rw[bu h8]at e
    exact jA (ih (qP nd s (rW W s)) (wN W (rW W s)) (Qq bk nd s (rW W s)) (Cp (qP nd s (rW W s)) (rW W s)) _ r G1.aCu (N.swap hs l9) (aD bx hW) (GJ N hs l9 hb).1 (ak (bB (GJ N hs l9 hb).2 _) (ak (bM (cB _ 2 _)) hz)) ((N.swap hs l9).up (nR (dF l9) h8)).2 e) λL2 e2=>⟨L2,R0 (gt (aPy hl G1.nodes (N.swap hs l9) g.Qo (nR (dF l9) h8))) e2⟩
  ·replace e:=(bu hp)▸e;exact iu e
theorem Qt (g:Gt H ib jb jn jw)(c:Cl lk H)(K:LkG lk jb jn jw)(N:Nd nd)(hW:W.length=9)(hb:∀p∈bk,p.1<9)(hz:bk.length≤370)(hx:x<9)(aPz:iD nmx=nm x)(hf:bk.find? (λp=>p.1==x)=aa (x,s))(hs:s<9)(e:am0 9 nd W bk s=aa r):
  p8 gL (n+42) lk 400 [.ref ib,.ref jn,.ref jw,V.str nmx] [] [] (gH H jb jn jw bk nd W)=ok .none (gH H jb jn jw r.2.2 r.1 r.2.1):=by
 obtain⟨L',e'⟩:=Qs g c K (upV 0 9) nd W bk s [("book",.ref ib),("nodes",.ref jn),("weights",.ref jw),("name",V.str nmx),("seat",.int s)] r ⟨rfl,rfl,rfl,rfl⟩ N hW hb (bB hz 20 |>ak (bK (by decide) _)) hs e;exact G6 rfl rfl rfl rfl
  (j0 (t6 (aal (d9 rfl) (d9 rfl) (g.hd (bz hz (by decide))) hb hx aPz hf (gV hs)) n7) (K6 (W7 (aao j4 (by decide)) e'))) (H8 (aD af0 (aD af0 rfl)))
end
end
section
section
variable {H H1 H2 H3 T:Hp}{ifs:List j6}{α:Type}
theorem GK:(H++o::T)[H.length]?=aa o:=by rw[gM (aN _),pG];rfl
theorem amg:(H++o::T).set H.length o'=H++o'::T:=by rw[HB _ _ (aN _),pG];rfl
theorem aA4 (hl:lk.contains H.length=aG)(hz:acc.length<1000):CK lk H.length v (H++ .list acc::T)=ok () (H++ .list (acc++ [v])::T):=f9 (K1 GK) (m8 (O3 hz) (aD (R7 hl) (aD amg rfl)))
theorem aR9 (f:α->V)(g:α->Option V)(st:Option α->j8):∀(vs:List α)(o:Option α)(acc:List V)(T:Hp),∀J:acc.length+vs.length≤1000,∀J:(∀a∈vs,∀(o:Option α)(acc:List V)(T:Hp),∀J:acc.length<1000,∃T',turn (u9 G n) lk H.length elt t ifs (f a) ⟨st o,C,H++ .list acc::T⟩=fc () ⟨st (aa a),C,H++ .list (acc++(g a).toList)::T'⟩),∃o' T',ao9 (turn (u9 G n) lk H.length elt t ifs) (vs.map f) ⟨st o,C,H++ .list acc::T⟩=fc () ⟨st o',C,H++ .list (acc++vs.filterMap g)::T'⟩:=by
 intro zz
 induction zz with
 | nil=>
  intro o acc T _ _;exact⟨o,T,by refine aD wG ?_;rw[bh];rfl⟩
 | cons a vs ih=>
  intro o acc T hz h;have hg:(acc++(g a).toList).length+vs.length≤1000:=by
   refine aD aA ?_;have:(g a).toList.length≤1:=by cases g a<;>first | exact aN 1 | exact cL 1
   exact ak (bB (bK this _) _) (ak (bM (cB _ 1 _)) hz)
  obtain⟨T1,e1⟩:=h a (.head _) o acc T (bA (nZ (fB _)) hz);refine exX (ih (aa a) (acc++(g a).toList) T1 hg λb hb=>h b (.tail _ hb)) λo' T' e=> ?_;refine⟨o',T',(w6 e1 e).trans ?_⟩;rw[aH];cases q:g a with
  | none=>refine aD (dm q) ?_;rfl
  | some b=>refine aD (cP q) ?_;rfl
theorem GP (f:α->V)(g:α->Option V)(st:Option α->j8){vs:List α}(h0:st aC= [])(hi:yl (u9 G n) φ it H=ok (vs.map f,lks) H1)(hC:(φ.cR.filter λp=>xT.contains p.1)=C)(hz:vs.length≤1000)
  (h:∀a∈vs,∀(o:Option α)(acc:List V)(T:Hp),∀J:acc.length<1000,∃T',turn (u9 G n) (lks++φ.lk) H1.length elt t ifs (f a) ⟨st o,C,H1++ .list acc::T⟩=fc () ⟨st (aa a),C,H1++ .list (acc++(g a).toList)::T'⟩):
  ∃T',dY G (n+1) φ (.comp elt t it ifs xT) H=ok (.ref H1.length) (H1++ .list (vs.filterMap g)::T'):=by
 obtain⟨o',T',e⟩:=aR9 f g st vs aC [] [] (by simp only[qw,kW];exact hz) h;rw[h0]at e;refine⟨T',j7 hi ?_⟩;rw[←hC]at e;refine aD e ?_;rfl
theorem aas:∀(l:List Nat)(a:Nat),(l.map λ(n:Nat)=>(n:Int)).foldl max (a:Int)=(l.foldl max a:Nat):=by
 intro zz
 induction zz with
 | nil=>
  intro _;exact rfl
 | cons b l ih=>
  intro a;simp only[bV,gY,gY,←ih,show max (a:Int) (b:Int)=((max a b:Nat):Int) from(xY a b).elim (λh=>by rw[Nat.max_eq_right h,mH (du.mpr h)]) λh=>by rw[Nat.max_eq_left h,aul (du.mpr h)]]
theorem aat:∀(l:List Nat)(a:Nat),(l.map λ(n:Nat)=>(n:Int)).foldl min (a:Int)=(l.foldl min a:Nat):=by
 intro zz
 induction zz with
 | nil=>
  intro _;exact rfl
 | cons b l ih=>
  intro a;simp only[bV,gY,gY,←ih,show min (a:Int) (b:Int)=((min a b:Nat):Int) from(xY a b).elim (λh=>by rw[lu h,qJ (du.mpr h)]) λh=>by rw[zg h,aou (du.mpr h)]]
theorem aCx (h:H[i]?=aa (.list (l.map nV)))(oA:l≠ []):G4 H "max" (.ref i)=ok (.int (l.foldl max 0:Nat)) H:=by
 delta G4;refine aD (bu (by decide+kernel)) (aD (bu (by decide+kernel)) (aD (bG rfl) ?_));delta Z9;refine aD (K1 h) ?_;refine f9 (aw7 l) ?_;cases l with
 | nil=>exact absurd rfl oA
 | cons a l=>
  show ok (V.int ((l.map λ(n:Nat)=>(n:Int)).foldl max (a:Int))) H=_;simp only[aas,gY,Nat.zero_max]
theorem amh:∀{xs:List aM},∀J:(∀x∈xs,cz x=az),(xs.map V.str).mapM (V5 H (m+1))=aa (xs.map zJ):=by
 intro zz
 induction zz with
 | nil=>
  intro _;exact rfl
 | cons x xs ih=>
  intro h;refine aD bV (aD oJ (aD (show V5 H (m+1) (.str x)=aa (.str x) from m8 (h x (.head _)) rfl) (aD (ih λy hy=>h y (.tail _ hy)) ?_)));rfl
theorem ami:∀{xs:List aM},((xs.map zJ).any λy=>qK y (.str x))=xs.any (·==x):=by
 intro zz
 induction zz with
 | nil=>
  exact rfl
 | cons y xs ih=>
  refine aD bV (aD sy (aD sy (aD ih ?_)));rfl
theorem aCy {xs:List aM}(h:H[i]?=aa (.list (xs.map V.str)))(hx:cz x=az)(My:∀x∈xs,cz x=az):Q5 H .NotIn (.str x) (.ref i)=aa (!(xs.any (·==x))):=f9 (f9 h (f9 rfl (by refine aD (amh My) ?_;rfl))) (f9 rfl (f9 (m8 hx rfl) (aD ami rfl)))
end
end
section
structure Ft (H:Hp)(jb jn jw:Nat):Prop where
 bn:jb≠jn
 bw:jb≠jw
 nw:jn≠jw
 lb:jb<H.length
 ln:jn<H.length
 lw:jw<H.length
noncomputable abbrev cF (jn jw s:Nat)(mv:Option V):j8:=("knots",.ref jn)::("loads",.ref jw)::("seat",.int s)::Gz "moved" mv
noncomputable def plV (o:Option Nat):j8:=Gz "place" (o.map nV)
noncomputable def idxs (W:List Nat)(s:Nat):List Nat:=(cD 9).filter λp=>decide (W.getD p 0=W.getD s 0)
noncomputable def uW (W:List Nat)(s:Nat):Nat:=(idxs W s).foldl max 0
noncomputable def X5 (nd:List Nat)(s la:Nat):List (Nat×Nat):=([s,la].filter λp=>decide (nd.getD p 0<5)).map λp=>(nd.getD p 0,p)
theorem aCz:gL.glob "max"=aa (.gl (.builtin "max")):=rfl
theorem up9:upV 0 9=(cD 9).map nV:=rfl
section
variable {lk:List Nat}
theorem Ft.atw (f:Ft H jb jn jw):(gH H jb jn jw bk nd W++T)[jw]?=aa (wO W):=m6 (bC (by refine aD bx (aD bx ?_);exact f.lw))
theorem Ft.atn (f:Ft H jb jn jw):(gH H jb jn jw bk nd W++T)[jn]?=aa (yt nd):=m6 ((bH (Ne.symm f.nw)).trans (bC (aD bx f.ln)))
theorem Ft.atb (f:Ft H jb jn jw):(gH H jb jn jw bk nd W++T)[jb]?=aa (Bx bk):=m6 ((bH (Ne.symm f.bw)).trans ((bH (Ne.symm f.bn)).trans (bC f.lb)))
theorem Ft.aDa (f:Ft H jb jn jw):(gH H jb jn jw bk nd W)[jn]?=aa (yt nd):=(bH (Ne.symm f.nw)).trans (bC (aD bx f.ln))
theorem Ft.sw (f:Ft H jb jn jw):(gH H jb jn jw bk nd W++T).set jw (wO W')=gH H jb jn jw bk nd W'++T:=aD (R3 (aD af0 f.lw)) (aD aap rfl)
theorem Ft.sn (f:Ft H jb jn jw):(gH H jb jn jw bk nd W++T).set jn (yt GC)=gH H jb jn jw bk GC W++T:=by rw[R3 (aD af0 f.ln)];delta gH;rw[mZ _ _ (Ne.symm f.nw),iH]
theorem Ft.sb (f:Ft H jb jn jw):(gH H jb jn jw bk nd W++T).set jb (Bx GD)=gH H jb jn jw GD nd W++T:=by rw[R3 (aD af0 f.lb)];delta gH;refine aD (mZ _ _ (Ne.symm f.bw)) (aD (mZ _ _ (Ne.symm f.bn)) ?_);rw[iH]
theorem Ft.free (c:∀j∈lk,j<H.length):∀T:Hp,lk.contains (gH H jb jn jw bk nd W++T).length=aG:=λT=>gR.mpr λq=>eX _ (bA (c _ (dj.mp q)) (by refine aD aA (aD af0 ?_);exact aQ _ _))
theorem Kp {α:Type}{q:α->Bool}{f:α->V}:∀l:List α,(l.filterMap λa=>if q a=az then aa (f a) else aC)=(l.filter q).map f:=by
 intro zz
 induction zz with
 | nil=>
  exact rfl
 | cons a l ih=>
  cases h:q a with
  | true=>rw[cP (by exact bG h),fY h,bV,ih]
  | false=>rw[dm (by exact aD (bu (by rw[h];exact bU)) rfl),eQ (by rw[h];exact bU),ih]
theorem aD0 (o:Option Nat)(p:Nat):K5 gL (n+1) Ir (.loc "place") (nV p) ⟨plV o,C,H⟩=fc () ⟨plV (aa p),C,H⟩:=by cases o<;>exact n7
theorem aDb (h:P[jw]?=aa (wO W))(hW:W.length=9)(hs:s<9)(hf:lk.contains P.length=aG):
  dY gL (n+12) ⟨L,cF jn jw s mv,lk⟩ (.call (.gn "max") [(.comp (.loc "place") (.loc "place") (.xU [(.cst (.int 9))]) [(.cmp .Eq (.sub (.cR "loads") (.loc "place")) (.sub (.cR "loads") (.cR "seat")))] ["loads","seat"])] [] []) P=ok (.int (uW W s)) (P++ [.list ((idxs W s).map nV)]):=by
 have e:=ZD (G:=gL) (n:=n+10) (φ:=⟨L,cF jn jw s mv,lk⟩) (elt:= .loc "place") (xT:= ["loads","seat"]) (H:=P) nV (λp=>if decide (W.getD p 0=W.getD s 0)=az then aa (nV p) else aC) plV rfl (by refine nF up9 ?_;exact aao j4 (by decide)) (by cases mv<;>kernel_rfl) (by decide) (λp hp o acc ha=>by
   have hc:dY gL (n+9) ⟨plV (aa p), [("loads",.ref jw),("seat",.int s)], []++lk⟩ (.cmp .Eq (.sub (.cR "loads") (.loc "place")) (.sub (.cR "loads") (.cR "seat"))) (P++ [.list acc])=ok (.bool (decide (W.getD p 0=W.getD s 0))) (P++ [.list acc]):=
    u6 (I4 (J6 rfl) (d9 rfl) (J8 (m6 h) (V2 (getD_at (hW▸(dK.mp hp)))) (ak (bR (dK.mp hp)) (by decide)))) (I4 (J6 rfl) (J6 rfl) (J8 (m6 h) (V2 (getD_at (hW▸hs))) (ak (bR hs) (by decide)))) Cm
   cases q:decide (W.getD p 0=W.getD s 0) with
   | true=>
    rw[q]at hc;exact aD (bG rfl) (qX (aD0 o p) (ao0 (t8 hc)) (d9 rfl) (T8 hf ha))
   | false=>
    rw[q]at hc;refine aD (bu bU) ?_;refine(Ax (aD0 o p) (ao1 (t8 hc))).trans ?_;show _=fc () ⟨_,_,P++ [.list (acc++ [])]⟩;rw[bh])
 rw[Kp]at e;exact O2 aCz e (aCx q9 (List.ne_nil_of_mem (gG.mpr ⟨dK.mpr hs,gJ rfl⟩)))
end
end
section
noncomputable abbrev zT (p:Nat×Nat):V:=pV (zy p)
noncomputable def aQc:Option (Nat×Nat)->j8
 | none=> []
 | some p=> [("one",nT p.1),("place",.str (dg p.2))]
noncomputable def Kq (o:Option (Nat×Nat)):j8:=Gz "pair" (o.map zT)
noncomputable def GQ (bk mv:List (Nat×Nat)):List (Nat×Nat):=bk.filter (λp=> !(mv.any λm=>m.1==p.1))++mv
section
variable {n jb jn jw s la x y a b:Nat}{bk GD mv:List (Nat×Nat)}
theorem aDc (h:P[jn]?=aa (yt nd))(N:Nd nd)(hs:s<9)(hl:la<9)(hla:L.lookup ("last":aM)=aa (.int la))(hf:lk.contains P.length=aG):
  dY gL (n+12) ⟨L,cF jn jw s om,lk⟩ (.comp (.tup [(.sub (.cR "knots") (.loc "place")),(.call (.gn "str") [(.loc "place")] [] [])]) (.loc "place") (.tup [(.cR "seat"),(.loc "last")]) [(.cmp .Eq (.call (.gn "len") [(.sub (.cR "knots") (.loc "place"))] [] []) (.cst (.int 1)))] ["knots"]) P=ok (.ref P.length) (P++ [.list ((X5 nd s la).map zT)]):=by
 have e:=ZD (n:=n+11) (φ:=⟨L,cF jn jw s om,lk⟩) (elt:= .tup [(.sub (.cR "knots") (.loc "place")),(.call (.gn "str") [(.loc "place")] [] [])]) (it:= .tup [(.cR "seat"),(.loc "last")]) (xT:= ["knots"]) (lks:= []) nV (λp=>if decide (nd.getD p 0<5)=az then aa (zT (nd.getD p 0,p)) else aC) plV (vs:= [s,la]) rfl (j7 (U6 (c7 (J6 rfl) (c7 (d9 hla) d8))) rfl) (by cases om<;>kernel_rfl) (show 2≤1000 by decide) (λp hp o acc ha=>by
   have hp:=(aY.mp hp).elim (λq=>q▸hs) λq=>aP.mp q▸hl;have gi:∀{acc},Z0 (P++ [.list acc]) (.ref jn) (.int p)=aa (nT (nd.getD p 0)):=λ{_}=>J8 (m6 h) (ah0 (getD_at (N.len▸hp))) (ak (bR hp) (by decide));have hc:dY gL (n+10) ⟨plV (aa p), [("knots",.ref jn)], []++lk⟩ (.cmp .Eq (.call (.gn "len") [(.sub (.cR "knots") (.loc "place"))] [] []) (.cst (.int 1))) (P++ [.list acc])=ok (.bool (decide (nd.getD p 0<5))) (P++ [.list acc]):=
    u6 (O2 U3 (I4 (J6 rfl) (d9 rfl) gi) (at7 (N.lt _ (aR (getD_at (N.len▸hp)))))) j4 ((Cm).trans (congrArg aa (by by_cases q:nd.getD p 0<5<;>simp only[q,if_true,if_false,decide_true,decide_false]<;>rfl)))
   cases q:decide (nd.getD p 0<5) with
   | true=>
    rw[q]at hc;exact aD (bG rfl) (qX (aD0 o p) (ao0 (t8 hc)) (U6 (c7 (I4 (J6 rfl) (d9 rfl) gi) (c7 (PT ai7 (d9 rfl) (GF (gV hp))) d8))) (T8 hf ha))
   | false=>
    rw[q]at hc;refine aD (bu bU) ?_;refine(Ax (aD0 o p) (ao1 (t8 hc))).trans ?_;show _=fc () ⟨_,_,P++ [.list (acc++ [])]⟩;rw[bh])
 rw[Kp,show(([s,la].filter λp=>decide (nd.getD p 0<5)).map λp=>zT (nd.getD p 0,p))=(X5 nd s la).map zT from by delta X5;simp only[cY];rfl]at e;exact e
theorem ad2 {α:Type}{f:α->V}(l:List α):(l.filterMap λa=>aa (f a))=l.map f:=congrFun (List.filterMap_eq_map) l
theorem a1j (hC:C.lookup ("moved":aM)=aa (.ref jm))(h:Q[jm]?=aa (.list (mv.map zT)))(hz:mv.length≤1000)(hf:([jm]++lk).contains Q.length=aG):
  dY gL (n+5) ⟨L,C,lk⟩ (.comp (.loc "one") (.tup [(.loc "one"),(.loc "place")]) (.cR "moved") [] []) Q=ok (.ref Q.length) (Q++ [.list ((mv.map λm=>nm m.1).map V.str)]):=by
 have e:=ZD (G:=gL) (n:=n+4) (φ:=⟨L,C,lk⟩) (elt:= .loc "one") (t:= .tup [(.loc "one"),(.loc "place")]) (it:= .cR "moved") (xT:= []) zT (λp=>aa (nT p.1)) aQc rfl (j7 (J6 hC) (f9 (f9 h rfl) rfl)) (Ey.mpr λU U q=>rU q) hz (λp hp o acc ha=>
  qX (by cases o<;>exact Z5 n7 n7) aa7 (d9 rfl) (T8 hf ha))
 rw[ad2,show(mv.map λp=>nT p.1)=(mv.map λm=>nm m.1).map V.str from by rw[cY];rfl]at e;exact e
end
end
section
section
variable {lk:List Nat}{H P Q T:Hp}{bk GD mv:List (Nat×Nat)}
theorem a1k (hx:x<9):∀{mv:List (Nat×Nat)},∀J:(∀p∈mv,p.1<9),(mv.map λm=>nm m.1).any (·==nm x)=mv.any λm=>m.1==x:=by
 intro zz
 induction zz with
 | nil=>
  intro _;exact rfl
 | cons p mv ih=>
  intro h;refine aD bV (aD sy (aD sy (aD (ih λq hq=>h q (.tail _ hq)) (aD (Km (h p (.head _)) hx) ?_))));rfl
theorem aau (o:Option (Nat×Nat))(p:Nat×Nat):K5 gL (n+1) Ir (.loc "pair") (zT p) ⟨Kq o,C,H⟩=fc () ⟨Kq (aa p),C,H⟩:=by cases o<;>exact n7
theorem fresh (c:∀j∈lk,j<P.length)(h:P.length≤k):lk.contains k=aG:=gR.mpr λq=>eX _ (bA (c _ (dj.mp q)) h)
theorem a1l (hb:P[jb]?=aa (Bx bk))(hm:P[jm]?=aa (.list (mv.map zT)))(b9:∀p∈bk,p.1<9)(m9:∀p∈mv,p.1<9)(zb:bk.length≤400)(zm:mv.length≤2)(hp:L.lookup ("placed":aM)=aa (.ref jb))(c:∀j∈lk,j<P.length):
  ∃T',dY gL (n+12) ⟨L,cF jn jw s (aa (.ref jm)),lk⟩ (.comp (.loc "pair") (.loc "pair") (.loc "placed") [(.cmp .NotIn (.sub (.loc "pair") (.cst (.int 0))) (.comp (.loc "one") (.tup [(.loc "one"),(.loc "place")]) (.cR "moved") [] []))] ["moved"]) P=ok (.ref P.length) (P++ .list ((bk.filter λp=> !(mv.any λm=>m.1==p.1)).map zT)::T'):=by
 have c1:∀j∈ [jb]++lk,j<P.length:=λj hj=>(aY.mp hj).elim (λq=>q▸((aL.mp hb).1)) (c j);obtain⟨T',e⟩:=GP (n:=n+11) (φ:=⟨L,cF jn jw s (aa (.ref jm)),lk⟩) (elt:= .loc "pair") (it:= .loc "placed") (xT:= ["moved"]) zT (λp=>if (!(mv.any λm=>m.1==p.1))=az then aa (zT p) else aC) Kq rfl (j7 (d9 hp) (f9 (f9 (hb.trans (by simp only[Bx,cY];rfl)) rfl) rfl)) rfl (ak zb (by decide)) (λp hq o acc T ha=>by
   have hc:=u6 (n:=n+9) (φ:=⟨Kq (aa p), [("moved",.ref jm)], [jb]++lk⟩) (a:= .sub (.loc "pair") (.cst (.int 0))) (I4 (d9 rfl) j4 rfl) (a1j (Q:=P++ .list acc::T) rfl (m6 hm) (ak zm (by decide)) (fresh (λj hj=>(aY.mp hj).elim (λq=>q▸((aL.mp hm).1)) (c1 j)) (aD aA (aQ _ _)))) (aCy q9 (ag9 (b9 p hq)).ok λy hy=>by
    obtain⟨q,hq,rfl⟩:=dq.mp hy;exact(ag9 (m9 q hq)).ok)
   rw[a1k (b9 p hq) m9,aH]at hc;cases q: !(mv.any λm=>m.1==p.1) with
   | true=>
    rw[q]at hc;exact aD (bG rfl) ⟨_,qX (aau o p) (ao0 (t8 hc)) (d9 rfl) (aA4 (fresh c1 (aN _)) ha)⟩
   | false=>
    rw[q]at hc;refine aD (bu bU) ?_;refine⟨T++ [.list ((mv.map λm=>nm m.1).map V.str)],(Ax (aau o p) (ao1 (t8 hc))).trans ?_⟩;show _=fc () ⟨_,_,P++ .list (acc++ [])::_⟩;rw[bh];rfl)
 rw[Kp]at e;exact⟨T',e⟩
end
end
section
noncomputable def RT (bk:List (Nat×Nat))(nd:List Nat)(s la:Nat):List (Nat×Nat):=if la=s then bk else GQ bk (X5 (qP nd s la) s la)
noncomputable def GR:Nat->List Nat->List Nat->List (Nat×Nat)->Nat->Option (List Nat×List Nat×List (Nat×Nat))
 | 0,_,_,_,_=>aC
 | k+1,nd,W,bk,s=>if uW W s=8 then aa (qP nd s (uW W s),wN W (uW W s),RT bk nd s (uW W s)) else GR k (qP nd s (uW W s)) (wN W (uW W s)) (RT bk nd s (uW W s)) (Cp (qP nd s (uW W s)) (uW W s))
section
theorem fold_lt:∀{l:List Nat}{a:Nat},∀J:a<m,∀J:(∀x∈l,x<m),l.foldl max a<m:=by
 intro zz
 induction zz with
 | nil=>
  intro _ h _;exact h
 | cons b l ih=>
  intro a h hl;exact ih (Nat.max_lt.mpr ⟨h,hl b (.head _)⟩) λx hx=>hl x (.tail _ hx)
theorem aav:uW W s<9:=fold_lt (by decide) λx hx=>dK.mp (gG.mp hx).1
theorem aaw (N:Nd nd):(∀p∈X5 nd s la,p.1<9)∧(X5 nd s la).length≤2:=
 ⟨λp hp=>by
  obtain⟨q,hq,rfl⟩:=dq.mp hp;exact dw (fH (gG.mp hq).2) (by decide),by delta X5;rw[aJ];exact fU _ _⟩
theorem atg (N:Nd nd)(hs:s<9)(hl:la<9)(hb:∀p∈bk,p.1<9):(∀p∈RT bk nd s la,p.1<9)∧(RT bk nd s la).length≤bk.length+2:=by
 delta RT
 split
 ·exact⟨hb,aQ _ _⟩
 ·have h:=aaw (s:=s) (la:=la) (N.swap hs hl)
  delta GQ;exact⟨λp hp=>(cX.mp hp).elim (λq=>hb p (gG.mp q).1) (h.1 p),by rw[aA];exact gB (fU _ _) h.2⟩
theorem add_l (h1:H[i]?=aa (.list l))(h2:H[j]?=aa (.list m))(hz:l.length+m.length≤1000):K8 H .Add (.ref i) (.ref j)=ok (.ref H.length) (H++ [.list (l++m)]):=
 f9 (K1 h1) (f9 (K1 h2) (m8 (O3 hz) rfl))
theorem a1m (f:Ft H jb jn jw)(oA:la≠s)(N:Nd nd)(hs:s<9)(hl:la<9)(b9:∀p∈bk,p.1<9)(zb:bk.length≤400)(hp:L.lookup ("placed":aM)=aa (.ref jb))(hla:L.lookup ("last":aM)=aa (.int la))(c:∀j∈lk,j<H.length)(hlb:lk.contains jb=aG)(RQ:lk.contains jn=aG):
  ∃om' T',G5 (iY gL (n+30) lk) ((match ak4 with | [_,.ite _ b _,_,_,_]=>b | _=> [])) ⟨L,cF jn jw s om,gH H jb jn jw bk nd W++T⟩=fc .next ⟨L,cF jn jw s om',gH H jb jn jw (RT bk nd s la) (qP nd s la) W++T'⟩:=by
 have ks:s≤1000:=ak (bR hs) (by decide);have kl:la≤1000:=ak (bR hl) (by decide);have s1:=λr=>ak5 (G:=gL) (r:=r) (v:=nT (nd.getD la 0)) (f.atn (bk:=bk) (nd:=nd) (W:=W) (T:=T)) (by simp only[aJ,N.len];exact hs) ks RQ;have s2:=λr=>ak5 (G:=gL) (r:=r) (v:=nT (nd.getD s 0)) (f.atn (bk:=bk) (nd:=nd.set s (nd.getD la 0)) (W:=W) (T:=T)) (by simp only[aJ,bx,N.len];exact hl) kl RQ;rw[ac6,f.sn]at s1;rw[ac6,f.sn]at s2;have e0:qP nd s la=V3 nd s la (nd.getD s 0) (nd.getD la 0):=bu oA;have mo:=aaw (s:=s) (la:=la) (N.swap hs hl);have c0:∀{nd:List Nat}{T':Hp},∀j∈lk,j<(gH H jb jn jw bk nd W++T').length:=λ{_ _} j hj=>bA (c j hj) (by refine aD aA (aD af0 ?_);exact aQ _ _);have em:=aDc (n:=n+17) (om:=om) (P:=gH H jb jn jw bk (qP nd s la) W++T) (jw:=jw) f.atn (N.swap hs hl) hs hl hla (fresh c0 (aN _));simp only[aH]at em;obtain⟨T1,er⟩:=a1l (n:=n+16) (jw:=jw) (jn:=jn) (s:=s) (P:=gH H jb jn jw bk (qP nd s la) W++(T++ [p6.list ((X5 (qP nd s la) s la).map zT)])) f.atb (by rw[←aH];exact q9) b9 mo.1 zb mo.2 hp c0;rw[aH]at er;have en:((bk.filter λp:Nat×Nat=> !((X5 (qP nd s la) s la).any λm=>m.1==p.1)).map zT++(X5 (qP nd s la) s la).map zT)=((GQ bk (X5 (qP nd s la) s la)).map zy).map pV:=by delta GQ;rw[cY,cC];rfl
 have ea:=(add_l (by rw[←aH];exact GK) (by rw[←aH,←aH];exact m6 q9) (by simp only[aJ,aJ];exact ak (gB (ak (fU _ _) zb) mo.2) (by decide))).trans (congrArg (ok _) ((aH _ _ _).trans (congrArg (λl=>gH H jb jn jw bk (qP nd s la) W++(T++ [p6.list ((X5 (qP nd s la) s la).map zT)]++p6.list ((bk.filter λp:Nat×Nat=> !((X5 (qP nd s la) s la).any λm=>m.1==p.1)).map zT)::T1++ [p6.list l])) en)));have hb:=ZL (H:=gH H jb jn jw bk (qP nd s la) W++(T++ [p6.list ((X5 (qP nd s la) s la).map zT)]++p6.list ((bk.filter λp:Nat×Nat=> !((X5 (qP nd s la) s la).any λm=>m.1==p.1)).map zT)::T1++ [Bx (GQ bk (X5 (qP nd s la) s la))])) (by rw[←aH];exact q9) f.atb (by
  simp only[aJ,aJ,aJ,aJ];refine aD aA ?_;exact ak (gB zb (gB (ak (fU _ _) zb) mo.2)) (by decide)) hlb
 rw[f.sb]at hb;refine aD (show RT bk nd s la=GQ bk (X5 (qP nd s la) s la) from bu oA) ?_;rw[e0]at em er hb ea⊢;exact⟨_,_,j0 (t6 (U6 (c7 (I4 (J6 rfl) (d9 hla) (J8 f.atn (ah0 (getD_at (N.len▸hl))) kl)) (c7 (I4 (J6 rfl) (J6 rfl) (J8 f.atn (ah0 (getD_at (N.len▸hs))) ks)) d8))) (Z5 (PX (J6 rfl) (J6 rfl) (s1 _)) (PX (J6 rfl) (d9 hla) (s2 _))))
  (j0 (t6 em (by cases om<;>exact Dt)) (j0 (t6 (G7 er (J6 rfl) ea) (Zr (d9 hp) j4 j4 hb)) o9))⟩
end
end
section
section
theorem a1n (f:Ft H jb jn jw)(K:LkG lk jb jn jw)(c:∀j∈lk,j<H.length)(N:Nd nd)(hW:W.length=9)(b9:∀p∈bk,p.1<9)(zb:bk.length≤400)(hs:s<9)(hp:L.lookup ("placed":aM)=aa (.ref jb))(v:V):
  ∃L' om' T',L'.lookup ("placed":aM)=aa (.ref jb)∧L'.lookup ("last":aM)=aa (.int (uW W s))∧∀{R:v7 Fl},∀J:G5 (iY gL (n+40) lk) (ak4.drop 3) ⟨L',cF jn jw s om',gH H jb jn jw (RT bk nd s (uW W s)) (qP nd s (uW W s)) (wN W (uW W s))++T'⟩=R,Q8 gL (n+40) lk (.loc "turn") ak4 v ⟨L,cF jn jw s om,gH H jb jn jw bk nd W++T⟩=R:=by
 have l9:uW W s<9:=aav;have kl:uW W s≤1000:=ak (bR l9) (by decide);have p2:(upd (upd L "turn" v) "last" (.int (uW W s))).lookup ("placed":aM)=aa (.ref jb):=(Z7 (by decide+kernel)).trans ((Z7 (by decide+kernel)).trans hp);have hm:=aDb (n:=n+27) (L:=upd L "turn" v) (mv:=om) (jn:=jn) (P:=gH H jb jn jw bk nd W++T) f.atw hW hs (Ft.free c T);simp only[aH]at hm;have e3:∀{om' bk nd T'},iY gL (n+40) lk (.Bf (.cR "loads") (.loc "last") .Add (.cst (.int 1))) ⟨upd (upd L "turn" v) "last" (.int (uW W s)),cF jn jw s om',gH H jb jn jw bk nd W++T'⟩=fc .next ⟨upd (upd L "turn" v) "last" (.int (uW W s)),cF jn jw s om',gH H jb jn jw bk nd (wN W (uW W s))++T'⟩:=λ{om' bk nd T'}=>by have st:=ak5 (G:=gL) (r:=u9 gL (n+39)) (v:=nV (W.getD (uW W s) 0+1)) (f.atw (bk:=bk) (nd:=nd) (T:=T')) (by rw[aJ,hW];exact l9) kl K.w;rw[ac6,f.sw]at st;exact asa (J6 rfl) (d9 J5) (JX f.atw (V2 (getD_at (hW▸l9))) kl) j4 (by simp only[nV,ie];rfl) st
 by_cases q:uW W s=s
 ·refine⟨_,om,T++ [.list ((idxs W s).map nV)],p2,J5,λ{R} k'=>Q4 n7 (j0 (t6 hm n7) ?_)⟩
  rw[RT,qP,bG q,bG q]at k';exact j0 (M7 (t8 (u6 (d9 J5) (J6 rfl) (neN.trans (congrArg (λb=>aa (!b)) (gJ q))))) o9) (j0 e3 k')
 ·obtain⟨om',T',es⟩:=a1m f q N hs l9 b9 zb p2 J5 c K.b K.n
  refine⟨_,om',T',p2,J5,λ{R} k'=>Q4 n7 (j0 (t6 hm n7) ?_)⟩;exact j0 (J2 (t8 (u6 (d9 J5) (J6 rfl) (neN.trans (congrArg (λb=>aa (!b)) (decide_eq_false q))))) es) (j0 e3 k')
theorem a1o (hl:L.lookup ("last":aM)=aa (.int (8:Nat))):G5 (iY gL (n+40) lk) (ak4.drop 3) ⟨L,C,H⟩=fc (.ret .none) ⟨L,C,H⟩:=
 K6 (J2 (t8 (u6 (d9 hl) j4 (Cm.trans (congrArg aa (gJ rfl))))) (K6 (S8 j4)))
theorem aQd (hl:L.lookup ("last":aM)=aa (.int la))(N:Nd nd)(h:H[jn]?=aa (yt nd))(h8:la<8):G5 (iY gL (n+40) lk) (ak4.drop 3) ⟨L,cF jn jw s om,H⟩=fc .next ⟨L,cF jn jw (Cp nd la) om,H⟩:=
 j0 (M7 (t8 (u6 (d9 hl) j4 (Cm.trans (congrArg aa (decide_eq_false (dh h8)))))) o9) (j0 (t6 (alu (J6 rfl) (d9 hl) h8 h N.lt (N.up h8).1) (by cases om<;>exact Dt)) o9)
theorem a1p {q:St->v7 Fl}(f:Ft H jb jn jw)(K:LkG lk jb jn jw)(c:∀j∈lk,j<H.length):∀(vs:List V)(nd W:List Nat)(bk:List (Nat×Nat))(s:Nat)(L:j8)(om:Option V)(T:Hp)(r:List Nat×List Nat×List (Nat×Nat)),∀J:L.lookup ("placed":aM)=aa (.ref jb),∀J:Nd nd,∀J:W.length=9,∀J:(∀p∈bk,p.1<9),∀J:bk.length+2*vs.length≤400,∀J:s<9,∀J:GR vs.length nd W bk s=aa r,∃L' C' T',U5 (Q8 gL (n+40) lk (.loc "turn") ak4) q vs ⟨L,cF jn jw s om,gH H jb jn jw bk nd W++T⟩=fc (.ret .none) ⟨L',C',gH H jb jn jw r.2.2 r.1 r.2.1++T'⟩:=by
 intro zz
 induction zz with
 | nil=>
  intro _ _ _ _ _ _ _ _ _ _ _ _ _ _ e;exact iu e
 | cons v vs ih=>
  intro nd W bk s L om T r hp N hW hb hz hs e;have e:=e;replace e:(if _ then _ else GR _ _ _ _ _)=aa r:=e;obtain⟨L1,om1,T1,G1,hl,gt⟩:=a1n (n:=n) (om:=om) (T:=T) f K c N hW hb (ak (aQ _ _) hz) hs hp v;by_cases h8:uW W s=8
  ·rw[bG h8]at e
   obtain rfl:=aq e;exact⟨L1,_,T1,a0g (gt (a1o (hl.trans (congrArg (λk:Nat=>aa (V.int k)) h8))))⟩
  ·rw[bu h8]at e
   have l9:uW W s<9:=aav;obtain⟨L2,C2,T2,e2⟩:=ih (qP nd s (uW W s)) (wN W (uW W s)) (RT bk nd s (uW W s)) (Cp (qP nd s (uW W s)) (uW W s)) L1 om1 T1 r G1 (N.swap hs l9) (aD bx hW) (atg N hs l9 hb).1 (ak (bB (atg N hs l9 hb).2 _) (ak (bM (cB _ 2 _)) hz)) ((N.swap hs l9).up (nR (dF l9) h8)).2 e;exact⟨L2,C2,T2,R0 (gt (aQd hl (N.swap hs l9) f.atn (nR (dF l9) h8))) e2⟩
theorem aS0 (f:Ft H jb jn jw)(c:Cl lk H)(K:LkG lk jb jn jw)(N:Nd nd)(hW:W.length=9)(hb:∀p∈bk,p.1<9)(hz:bk.length≤380)(hx:x<9)(hf:nd.findIdx? (·==x)=aa s)(hs:s<9)(e:GR 9 nd W bk s=aa r):
  p8 gL (n+42) lk 412 [.ref jb,.ref jn,.ref jw,nT x] [] [] (gH H jb jn jw bk nd W)=ok .none (gH H jb jn jw r.2.2 r.1 r.2.1):=by
 obtain⟨L',C',T',e'⟩:=a1p f K c.lk (upV 0 9) nd W bk s [("placed",.ref jb),("name",nT x)] aC [] r rfl N hW hb (ak (bB hz 18) (by decide)) hs e;simp only[bh]at e';have z:=(Cl.gH (jb:=jb) (jn:=jn) (jw:=jw) (bk:=r.2.2) (nd:=r.1) (W:=r.2.1) c).drop (T:=T') (v:= .none) rfl;rw[af0,←af0]at z;exact G6 rfl rfl rfl rfl
  (j0 (t6 (t7 (J6 rfl) (X4 ash (f.aDa)) (c7 (d9 rfl) d8) d8 (asy f.aDa N.lt hx hf)) Dt) (K6 (W7 (aao j4 (by decide)) e'))) z
end
end
section
noncomputable def DQ:List Nat:= [0,1,2,3,4,5,6,7,8]
noncomputable def w0:List Nat:= [1,1,1,1,1,2,2,3,5]
noncomputable def Ej:List (Nat×Nat):=(cD 5).map λi=>(i,i)
noncomputable def snV:Option Nat->j8
 | none=> []
 | some i=> [("seat",.int i),("name",nT i)]
noncomputable def enN (i:Nat):V:= .tup [.int i,nT i]
theorem en5:Rw (("abcde":aM).cps.toList.map λc=> .str ⟨#[c]⟩)=(cD 5).map enN:=rfl
section
theorem amk:∀vs:List V,R9 (dY G (n+1) φ) (vs.map .cst) H=ok vs H:=by
 intro zz
 induction zz with
 | nil=>
  exact rfl
 | cons _ vs ih=>
  exact c7 j4 (ih)
theorem Kr (hl:vs.map .cst=l)(hk:A.length=k):dY G (n+2) φ (.lst l) (H++A)=ok (.ref (H.length+k)) (H++(A++ [.list vs])):=by subst hl hk;refine(Z2 (amk vs)).trans ?_;simp only[aA,aH]
theorem nds:(yt DQ)= .list [.str "a",.str "b",.str "c",.str "d",.str "e",.str "aa",.str "bb",.str "cc",.str "dd"]:=rfl
theorem a1q:yl (u9 gL (n+1)) φ (.Cg (.cst (.str "abcde"))) H=ok ((cD 5).map enN, []) H:=by refine nF en5 ?_;rfl
theorem aJ4 (hf:lk.contains H.length=aG):p8 gL (n+12) lk 379 [] [] [] H=ok (.tup [.ref H.length,.ref (H.length+1),.ref (H.length+2)]) (H++ [Bx Ej,yt DQ,wO w0]):=by
 have e:=ZD (n:=n+8) (φ:=⟨[], [],lk⟩) (elt:= .tup [(.loc "name"),(.call (.gn "str") [(.loc "seat")] [] [])]) (t:= .tup [(.loc "seat"),(.loc "name")]) (xT:= []) (C:= []) enN (λi=>aa (zT (i,i))) snV rfl a1q rfl (by decide) (λp hp o acc ha=>
  qX (by cases o<;>exact Z5 n7 n7) aa7 (U6 (c7 (d9 rfl) (c7 (PT ai7 (d9 rfl) (GF (dw (dK.mp hp) (by decide)))) d8))) (T8 hf ha))
 rw[ad2,show((cD 5).map λi=>zT (i,i))=(Ej.map zy).map pV from by kernel_rfl]at e;have z:Lz H.length (ok (.tup [.ref H.length,.ref (H.length+1),.ref (H.length+2)]) (H++ [Bx Ej,yt DQ,wO w0]))=ok (.tup [.ref H.length,.ref (H.length+1),.ref (H.length+2)]) (H++ [Bx Ej,yt DQ,wO w0]):=ao2 (by
  show((V.ref H.length).lt H.length&&_)=aG;refine aD aj2 ?_;rfl)
 rw[nds]at z⊢;exact G6 rfl (b:= []) rfl rfl rfl (K6 (S8 (U6 (c7 e (c7 (Kr rfl rfl) (c7 (Kr rfl rfl) d8)))))) z
end
end
section
noncomputable def af1 (nd d:List Nat)(s:Nat):List Nat:=d.set s (1+d.getD (Cp nd s) 0)
noncomputable def d0:List Nat:= [0,0,0,0,0,0,0,0,0]
noncomputable def downs:List Nat:= [7,6,5,4,3,2,1,0]
noncomputable def Z8 (nd:List Nat):List Nat:=downs.foldl (af1 nd) d0
noncomputable abbrev zA (xs:List Nat):aM:=toS (xs.map (97+·))
noncomputable def cN (xs:List Nat)(i:Nat):Nat:=1+xs.count i
noncomputable def sdL (jn jr:Nat)(o:Option V):j8:=("nodes",.ref jn)::("ranked",.ref jr)::Gz "seat" o
section
theorem aJ5:(af1 nd d s).length=d.length:=aD bx rfl
theorem Qu (N:Nd nd)(h:P[jn]?=aa (yt nd))(hl:lk.contains P.length=aG){q:St->v7 Fl}:∀(vs:List Nat)(d:List Nat)(o:Option V),∀J:(∀s∈vs,s<8),∀J:d.length=9,∃o',U5 (Q8 gL (n+12) lk (.loc "seat") Zh) q (vs.map nV) ⟨sdL jn jr o, [("sent",.str (zA xs)),("deep",.ref P.length)],P++ [wO d]⟩=q ⟨sdL jn jr o', [("sent",.str (zA xs)),("deep",.ref P.length)],P++ [wO (vs.foldl (af1 nd) d)]⟩:=by
 intro zz
 induction zz with
 | nil=>
  intro _ o _ _;exact⟨o,rfl⟩
 | cons s vs ih=>
  intro d o hv hd;have h8:=hv s (.head _);obtain⟨o',e⟩:=ih (af1 nd d s) (aa (.int s)) (λx hx=>hv x (.tail _ hx)) (aJ5.trans hd);refine⟨o',(R0 ?_ e)⟩;have st:=λr=>ak5 (G:=gL) (r:=r) (v:=nV (1+d.getD (Cp nd s) 0)) (q9 (o:=wO d)) (by simp only[aJ,hd];exact gV h8) (ak (bR h8) (by decide)) hl;simp only[ac6,ad0]at st;exact Q4 (by cases o<;>exact n7) (j0 (t6 (G7 j4 (I4 (J6 rfl) (alu (d9 rfl) (d9 rfl) h8 (m6 h) N.lt (N.up h8).1) (J8 q9 (V2 (getD_at (hd▸(N.up h8).2))) (ak (bR (N.up h8).2) (by decide)))) (by simp only[nV,ie];rfl)) (PX (J6 rfl) (d9 rfl) (st _))) o9)
noncomputable def aay (o:Option Nat):j8:=Gz "letter" (o.map nT)
theorem aQf:(("abcde":aM).cps.toList.map λc=>(V.str ⟨#[c]⟩))=(cD 5).map nT:=rfl
theorem aDd:∀xs:List Nat,(xs.map (97+·)).count (97+i)=xs.count i:=by
 intro zz
 induction zz with
 | nil=>
  exact rfl
 | cons x xs ih=>
  exact aD bV (aD apa (aD apa (aD ih (aD (show((97+x)==(97+i))=(x==i) from by rw[jc,beq_iff_eq,beq_iff_eq];exact Nat.add_left_cancel_iff) rfl))))
theorem ath:V7.contains ("count":aM)=az:=rfl
theorem ati (h:i<5):U8 r lk (.str (zA xs)) ov ("count":aM) [nT i] [] [] H=ok (.int (xs.count i)) H:=by refine m8 rfl ?_;delta Lx;refine aD (bu (by decide+kernel)) (aD (bu (by decide+kernel)) ?_);refine f9 rfl ?_;refine aD (bu (by decide+kernel)) (aD (bu (by decide+kernel)) (aD (bG rfl) ?_));refine f9 rfl ?_;simp only[nm,bG h,akq,aDd]
theorem a1r (o:Option Nat)(i:Nat):K5 gL (n+1) Ir (.loc "letter") (nT i) ⟨aay o,C,H⟩=fc () ⟨aay (aa i),C,H⟩:=by cases o<;>exact n7
theorem aP1 (hC:C.lookup ("sent":aM)=aa (.str (zA xs)))(hf:(C.filter λp=>(["sent"]:List aM).contains p.1)=([("sent",.str (zA xs))]:j8))(hl:lk.contains P.length=aG):
  dY gL (n+8) ⟨L,C,lk⟩ (.comp (.bin .Add (.cst (.int 1)) (.bN (.cR "sent") "count" [(.loc "letter")] [] [])) (.loc "letter") (.cst (.str "abcde")) [] ["sent"]) P=ok (.ref P.length) (P++ [wO ((cD 5).map (cN xs))]):=by
 have e:=ZD (n:=n+7) (φ:=⟨L,C,lk⟩) (elt:= .bin .Add (.cst (.int 1)) (.bN (.cR "sent") "count" [(.loc "letter")] [] [])) (it:= .cst (.str "abcde")) nT (λi=>aa (nV (cN xs i))) aay rfl (by refine nF aQf ?_;rfl) hf (by decide) (λi hi o acc ha=>
  qX (a1r o i) aa7 (G7 j4 (t7 (J6 rfl) (O4 ath) (c7 (d9 rfl) d8) d8 (ati (dK.mp hi))) (by simp only[nV,cN,ie];rfl)) (T8 hl ha))
 rw[ad2]at e;exact e
end
end
section
noncomputable def ah1 (nd cs d:List Nat):List Nat:=(nd.zipIdx.filter λp=>decide (p.1<5)).map λp=>cs.getD p.1 0*d.getD p.2 0
noncomputable def enP (p:Nat×Nat):V:= .tup [.int p.2,nT p.1]
noncomputable def enL:Option (Nat×Nat)->j8
 | none=> []
 | some p=> [("seat",.int p.2),("name",nT p.1)]
theorem aaz:gL.glob "sum"=aa (.gl (.builtin "sum")):=rfl
theorem aDe:gL.glob "min"=aa (.gl (.builtin "min")):=rfl
theorem aP2:gL.glob "sorted"=aa (.gl (.builtin "sorted")):=rfl
section
variable {nd d cs xs l:List Nat}
theorem aba:∀l:List Nat,(l.map λ(n:Nat)=>(n:Int)).sum=(l.sum:Nat):=by
 intro zz
 induction zz with
 | nil=>
  exact rfl
 | cons a l ih=>
  simp only[bV,jk,jk,ih,ie]
theorem abb (h:H[i]?=aa (.list (l.map nV)))(hz:l.length≤1000)(hm:∀x∈l,x≤1000000):G4 H "sum" (.ref i)=ok (.int (l.sum:Nat)) H:=by delta G4;refine aD (bu (by decide+kernel)) (aD (bG rfl) ?_);delta Z9;refine aD (K1 h) ?_;refine f9 (aw7 l) (m8 ?_ (by rw[aba]));rw[aJ,gJ hz,pQ,List.all_map,bF];intro x hx;have:=hm x hx;show(decide (-1000000000000000≤(x:Int))&&decide ((x:Int)≤1000000000000000))=az;refine aD (gJ (zu _)) (aD (gJ (cV (du.mpr this) (by decide))) ?_);rfl
theorem aDf (h:H[i]?=aa (.list ((a::l).map nV))):G4 H "min" (.ref i)=ok (.int (l.foldl min a:Nat)) H:=by delta G4;refine aD (bu (by decide+kernel)) (aD (bu (by decide+kernel)) (aD (bu (by decide+kernel)) (aD (bG rfl) ?_)));delta Z9;refine aD (K1 h) ?_;refine f9 (aw7 (a::l)) ?_;show ok (V.int ((l.map λ(n:Nat)=>(n:Int)).foldl min (a:Int))) H=_;rw[aat]
theorem aP3 (h:H[i]?=aa (.list (l.map nV)))(hz:l.length<64)(hs:ab3 (l.map λ(n:Nat)=>(n:Int))=m.map λ(n:Nat)=>(n:Int)):G4 H "sorted" (.ref i)=ok (.ref H.length) (H++ [wO m]):=by delta G4;refine aD (bu (by decide+kernel)) (aD (bu (by decide+kernel)) (aD (bu (by decide+kernel)) (aD (bu (by decide+kernel)) (aD (bG rfl) ?_))));delta Z9;refine aD (K1 h) ?_;refine f9 (aw7 l) (m8 (by rw[aJ];exact gJ hz) ?_);simp only[hs,wO,cY];rfl
theorem a1s (h5:x<5):G4 H "ord" (nT x)=ok (.int (97+x:Nat)) H:=by simp only[nT,nm,bG h5];exact asz
theorem a1t:K8 H .Sub (.int (97+x:Nat)) (.int 97)=ok (.int x) H:=by show ok (V.int (((97+x:Nat):Int)-97)) H=_;rw[iM,show((x+97:Nat):Int)-97=(x:Int) from jy x 97]
theorem abd (o:Option (Nat×Nat))(p:Nat×Nat):K5 gL (n+2) Ir (.tup [(.loc "seat"),(.loc "name")]) (enP p) ⟨enL o,C,H⟩=fc () ⟨enL (aa p),C,H⟩:=by cases o<;>exact Z5 n7 n7
theorem a1u (hL:L.lookup ("nodes":aM)=aa (.ref jn))(hf:(C.filter λp=>(["counts","deep"]:List aM).contains p.1)=([("deep",.ref dp),("counts",.ref cp)]:j8))(hn:P[jn]?=aa (yt nd))(hd:P[dp]?=aa (wO d))(hc:P[cp]?=aa (wO cs))(N:Nd nd)(ld:d.length=9)(lc:cs.length=5)(bd:∀x∈d,x≤1000)(bc:∀x∈cs,x≤1000)(c:∀j∈lk,j<P.length):
  dY gL (n+12) ⟨L,C,lk⟩ (.call (.gn "sum") [(.comp (.bin .Mult (.sub (.cR "counts") (.bin .Sub (.call (.gn "ord") [(.loc "name")] [] []) (.cst (.int 97)))) (.sub (.cR "deep") (.loc "seat"))) (.tup [(.loc "seat"),(.loc "name")]) (.Cg (.loc "nodes")) [(.cmp .Eq (.call (.gn "len") [(.loc "name")] [] []) (.cst (.int 1)))] ["counts","deep"])] [] []) P=ok (.int ((ah1 nd cs d).sum:Nat)) (P++ [wO (ah1 nd cs d)]):=by
 have hi:yl (u9 gL (n+10)) ⟨L,C,lk⟩ (.Cg (.loc "nodes")) P=ok (nd.zipIdx.map enP, [jn]) P:=by exact nF (show Rw (nd.map nT)=nd.zipIdx.map enP from by delta Rw;refine aD List.zipIdx_map (aD cY ?_);rfl) (j7 (d9 hL) (f9 (f9 hn rfl) rfl))
 have e:=ZD (elt:= .bin .Mult (.sub (.cR "counts") (.bin .Sub (.call (.gn "ord") [(.loc "name")] [] []) (.cst (.int 97)))) (.sub (.cR "deep") (.loc "seat"))) enP (λp=>if decide (p.1<5)=az then aa (nV (cs.getD p.1 0*d.getD p.2 0)) else aC) enL rfl hi hf (by refine aD wF (aD N.len ?_);decide) (λp hp o acc ha=>by
   have hx:=zK.mp hp;have hs:=N.len▸(aL.mp hx).1;have ht:dY gL (n+9) ⟨enL (aa p), [("deep",.ref dp),("counts",.ref cp)], [jn]++lk⟩ (.cmp .Eq (.call (.gn "len") [(.loc "name")] [] []) (.cst (.int 1))) (P++ [.list acc])=ok (.bool (decide (p.1<5))) (P++ [.list acc]):=
    u6 (O2 U3 (d9 rfl) (at7 (N.lt _ (aR hx)))) j4 ((Cm).trans (congrArg aa (by by_cases q:p.1<5<;>simp only[q,if_true,if_false,decide_true,decide_false]<;>rfl)))
   cases q:decide (p.1<5) with
   | true=>
    simp only[q]at ht;refine aD (bG rfl) ?_;have h5:=fH q;exact qX (abd o p) (ao0 (t8 ht)) (G7 (I4 (J6 rfl) (G7 (O2 ata (d9 rfl) (a1s h5)) j4 a1t) (J8 (m6 hc) (V2 (getD_at (lc▸h5))) (ak (bR h5) (by decide)))) (I4 (J6 rfl) (d9 rfl) (J8 (m6 hd) (V2 (getD_at (ld▸hs))) (ak (bR hs) (by decide)))) (aCq (bc _ (aR (getD_at (lc▸h5)))) (bd _ (aR (getD_at (ld▸hs)))))) (T8 (fresh (λj hj=>(aY.mp hj).elim (λq=>q▸((aL.mp hn).1)) (c j)) (aN _)) ha)
   | false=>
    rw[q]at ht;refine aD (bu bU) ?_;refine(Ax (abd o p) (ao1 (t8 ht))).trans ?_;show _=fc () ⟨_,_,P++ [.list (acc++ [])]⟩;rw[bh])
 rw[Kp,show((nd.zipIdx.filter λp=>decide (p.1<5)).map λp=>nV (cs.getD p.1 0*d.getD p.2 0))=(ah1 nd cs d).map nV from by refine aD cY ?_;rfl]at e;refine O2 aaz e (abb q9 ?_ ?_)
 ·delta ah1
  rw[aJ];exact ak (fU _ _) (by refine aD wF (aD N.len ?_);decide)
 ·intro x hx
  obtain⟨p,hp,rfl⟩:=dq.mp hx;exact Nat.mul_le_mul (bc _ (aR (getD_at (lc▸fH (gG.mp hp).2)))) (bd _ (aR (getD_at (ld▸N.len▸(aL.mp (zK.mp (gG.mp hp).1)).1))))
end
end
section
noncomputable def aDg:List (List Nat):= [[3,3,2,2,2], [4,4,3,2,1], [3,3,3,3,1]]
noncomputable def RV (rk l:List Nat):List Nat:=(rk.zip l).map λp=>p.1*p.2
noncomputable def shV (l:List Nat):V:= .tup (l.map nV)
noncomputable def shE (o:Option (List Nat)):j8:=Gz "shape" (o.map shV)
section
theorem aml:∀l:List Nat,(l.map nV).mapM (V5 H (m+1))=aa (l.map λ(k:Nat)=>vK k):=by
 intro zz
 induction zz with
 | nil=>
  exact rfl
 | cons x l ih=>
  refine aD bV (aD oJ (aD ih ?_));rfl
theorem abe:∀l:List Nat,vD (l.map λ(k:Nat)=>vK k) (l.map λ(k:Nat)=>vK k)=az:=by
 intro zz
 induction zz with
 | nil=>
  exact rfl
 | cons x l ih=>
  simp only[bV,vD,qK,beq_self_eq_true,pQ];exact ih
theorem eqL (h:H[i]?=aa (wO l))(k:H[j]?=aa (wO l)):Q5 H .Eq (.ref i) (.ref j)=aa az:=by have e:∀{i},∀J:H[i]?=aa (wO l),V5 H 8 (.ref i)=aa (.list (l.map λ(k:Nat)=>vK k)):=λh=>f9 h (f9 rfl (by simp only[aml];rfl));exact f9 (e h) (f9 (e k) (congrArg aa (abe l)))
theorem aDh (h:H[i]?=aa (wO rk))(hz:rk.length≤1000)(b1:∀x∈rk,x≤1000)(b2:∀x∈l,x≤1000):Tc H (.ref i) (shV l)=ok (.ref H.length) (H++ [wO (RV rk l)]):=by
 have sm:∀{l:List Nat},∀J:(∀x∈l,x≤1000),((l.map λ(n:Nat)=>(n:Int)).all small)=az:=λ{l} b=>by rw[List.all_map,bF];exact λx hx=>by rw[Function.comp_apply];exact Y8 (b x hx)
 unfold Tc Z9;refine aD (K1 h) ?_;refine f9 (aw7 rk) (f9 rfl (f9 (aw7 l) (m8 ?_ ?_)))
 ·simp only[sm b1,sm b2,aJ,gJ hz];rfl
 ·have:((rk.map λ(n:Nat)=>(n:Int)).zip (l.map λ(n:Nat)=>(n:Int))).map (λp=>V.int (p.1*p.2))=(RV rk l).map nV:=by
   exact aD List.zip_map (aD cY (aD cY (gU λp U=>by show V.int ((p.1:Int)*p.2)=nV (p.1*p.2);simp only[nV,Aa])))
  refine aD this ?_;rfl
theorem amm (b1:∀x∈rk,x≤1000)(b2:∀x∈l,x≤1000):∀x∈RV rk l,x≤1000000:=λx hx=>by obtain⟨p,hp,rfl⟩:=dq.mp hx;have:=List.of_mem_zip hp;exact Nat.mul_le_mul (b1 _ this.1) (b2 _ this.2)
theorem a1v (o:Option (List Nat))(p:List Nat):K5 gL (n+1) Ir (.loc "shape") (shV p) ⟨shE o,C,H⟩=fc () ⟨shE (aa p),C,H⟩:=by cases o<;>exact n7
theorem aDi (hf:(C.filter λp=>(["rising"]:List aM).contains p.1)=([("rising",.ref jr)]:j8))(hr:P[jr]?=aa (wO rk))(lr:rk.length=5)(br:∀x∈rk,x≤1000)(c:∀j∈lk,j<P.length):
  ∃T',dY gL (n+12) ⟨L,C,lk⟩ (.call (.gn "min") [(.comp (.call (.gn "sum") [(.dot (.cR "rising") (.loc "shape"))] [] []) (.loc "shape") (.tup [(.tup [(.cst (.int 3)),(.cst (.int 3)),(.cst (.int 2)),(.cst (.int 2)),(.cst (.int 2))]),(.tup [(.cst (.int 4)),(.cst (.int 4)),(.cst (.int 3)),(.cst (.int 2)),(.cst (.int 1))]),(.tup [(.cst (.int 3)),(.cst (.int 3)),(.cst (.int 3)),(.cst (.int 3)),(.cst (.int 1))])]) [] ["rising"])] [] []) P=ok (.int (([(RV rk [4,4,3,2,1]).sum,(RV rk [3,3,3,3,1]).sum].foldl min (RV rk [3,3,2,2,2]).sum:Nat):Int)) (P++T'):=by
 obtain⟨T',e⟩:=GP (n:=n+10) (φ:=⟨L,C,lk⟩) (elt:= .call (.gn "sum") [(.dot (.cR "rising") (.loc "shape"))] [] []) (it:= .tup [(.tup [(.cst (.int 3)),(.cst (.int 3)),(.cst (.int 2)),(.cst (.int 2)),(.cst (.int 2))]),(.tup [(.cst (.int 4)),(.cst (.int 4)),(.cst (.int 3)),(.cst (.int 2)),(.cst (.int 1))]),(.tup [(.cst (.int 3)),(.cst (.int 3)),(.cst (.int 3)),(.cst (.int 3)),(.cst (.int 1))])]) (lks:= []) shV (λl=>aa (nV (RV rk l).sum)) shE (vs:=aDg) rfl rfl hf (show 3≤1000 by decide) (λl hl o acc T ha=>by
   have bl:=(show∀l∈aDg,∀x∈l,x≤1000 by decide) l hl;refine⟨T++ [wO (RV rk l)],qX (a1v o l) aa7 (O2 aaz (aPd (J6 rfl) (d9 rfl) (aDh (m6 hr) (by rw[lr];decide) br bl)) (abb q9 ?_ (amm br bl))) ?_⟩
   ·delta RV
    rw[aJ,zG,lr];exact ak (lg _ _) (by decide)
   ·rw[aH]
    exact aA4 (fresh c (aN _)) ha)
 rw[ad2]at e;exact⟨_,O2 aDe e (aDf GK)⟩
end
end
section
section
noncomputable def DW (rk:List Nat):Nat:= [(RV rk [4,4,3,2,1]).sum,(RV rk [3,3,3,3,1]).sum].foldl min (RV rk [3,3,2,2,2]).sum
noncomputable abbrev Ks (xs:List Nat):List Nat:=(cD 5).map (cN xs)
theorem aP4:∀(vs d:List Nat),(vs.foldl (af1 nd) d).length=d.length:=by
 intro zz
 induction zz with
 | nil=>
  intro _;exact rfl
 | cons s vs ih=>
  intro d;exact(ih (af1 nd d s)).trans aJ5
theorem amn:∀(vs d:List Nat)(m:Nat),∀J:(∀x∈d,x≤m),∀x∈vs.foldl (af1 nd) d,x≤m+vs.length:=by
 intro zz
 induction zz with
 | nil=>
  intro _ _ h;exact h
 | cons s vs ih=>
  intro d m h;exact λx hx=>by
   have:=ih (af1 nd d s) (m+1) (λx hx=>by
    rcases rH hx with q | q
    ·exact gq (h x q)
    ·rw[q,iM]
     refine cO ?_;by_cases u:Cp nd s<d.length
     ·exact h _ (aR (getD_at u))
     ·refine aD (dO) (aD (uG (eU u)) ?_);exact cL _) x hx
   exact ak this (bM (cB m 1 _))
theorem aQh:K8 (H++ [.list [.int 0]]) .Mult (.ref H.length) (.int 9)=ok (.ref (H++ [p6.list [.int 0]]).length) (H++ [p6.list [.int 0]]++ [wO d0]):=by refine f9 (K1 q9) (f9 rfl (m8 rfl ?_));refine aD (show rep [V.int 0] 9=d0.map nV from by kernel_rfl) ?_;rfl
theorem aQi:yl (u9 gL (n+2)) φ (.xU [(.cst (.int 7)),(.neg (.cst (.int 1))),(.neg (.cst (.int 1)))]) H=ok (downs.map nV, []) H:=by kernel_rfl
theorem aD1 (c:Cl lk H)(N:Nd nd)(hn:H[jn]?=aa (yt nd))(hr:H[jr]?=aa (wO rk))(lr:rk.length=5)(br:∀x∈rk,x≤1000)(zx:xs.length≤900)
  (hs:ab3 ((Ks xs).map λ(n:Nat)=>(n:Int))=rk.map λ(n:Nat)=>(n:Int)) (hc:(ah1 nd (Ks xs) (Z8 nd)).sum=DW rk):
  p8 gL (n+20) lk 417 [.ref jn,.ref jr,.str (zA xs)] [] [] H=ok (.bool az) H:=by
 have f1:∀T:Hp,lk.contains (H++T).length=aG:=λT=>fresh c.lk (by simp only[aA];exact aQ _ _);have c1:∀T:Hp,∀j∈lk,j<(H++T).length:=λT j hj=>bA (c.lk j hj) (by simp only[aA];exact aQ _ _);obtain⟨o',e2⟩:=Qu N (m6 hn) (f1 _) downs d0 aC (by decide) rfl;have e3:=aP1 (n:=n+10) (L:=sdL jn jr o') (P:=H++ [.list [.int 0]]++ [wO (Z8 nd)]) (C:= [("sent",.str (zA xs)),("deep",.ref (H++ [p6.list [.int 0]]).length)]) rfl rfl (by rw[aH];exact f1 _);have e4:=a1u (n:=n+5) (cs:=Ks xs) (L:=sdL jn jr o') (C:= [("sent",.str (zA xs)),("deep",.ref (H++ [p6.list [.int 0]]).length),("counts",.ref (H++ [p6.list [.int 0]]++ [wO (Z8 nd)]).length)]) rfl rfl (m6 (m6 (m6 hn))) (m6 q9) q9 N (aP4 downs d0) rfl
  (λx hx=>ak (amn downs d0 0 (by decide) x hx) (by decide)) (λx hx=>by
   obtain⟨i,hi,rfl⟩:=dq.mp hx;have:=Lk (a:=i) (l:=xs);exact ak (bK (ak this zx) 1) (by decide)) (by rw[aH,aH];exact c1 _)
 have e5:=aP3 (H:=H++ [.list [.int 0]]++ [wO (Z8 nd)]++ [wO (Ks xs)]++ [wO (ah1 nd (Ks xs) (Z8 nd))]) (m6 q9) (show 5<64 by decide) hs;obtain⟨T',e6⟩:=aDi (C:= [("sent",.str (zA xs)),("deep",.ref (H++ [p6.list [.int 0]]).length),("counts",.ref (H++ [p6.list [.int 0]]++ [wO (Z8 nd)]).length),("rising",.ref (H++ [p6.list [.int 0]]++ [wO (Z8 nd)]++ [wO (Ks xs)]++ [wO (ah1 nd (Ks xs) (Z8 nd))]).length)]) rfl q9 lr br (by rw[aH,aH,aH,aH];exact c1 _);exact G6 rfl rfl rfl rfl
  (j0 (t6 (G7 (Z2 (c7 j4 d8)) j4 aQh) Dt) (j0 (W7 aQi e2) (j0 (t6 e3 Dt) (j0 (t6 (U6 (c7 e4 (c7 (O2 aP2 (J6 rfl) e5) d8))) (Z5 n7 Dt))
   (K6 (S8 (akj (u6 (d9 rfl) (J6 rfl) (eqL (m6 (m6 (m6 (m6 (m6 hr))))) q9)) rfl
    (u6 (d9 J5) e6 (Cm.trans (congrArg aa (gJ hc)))))))))))
  (by rw[aH,aH,aH,aH,aH];exact c.drop rfl)
end
end
section
noncomputable abbrev sV (l:List Nat):V:= .str (toS l)
noncomputable abbrev I6 (ls:List (List Nat)):p6:= .list (ls.map sV)
noncomputable def I9 (hd w:Nat)(a:List (List Nat)×List Nat)(x:List Nat):List (List Nat)×List Nat:=
 if w<a.2.length+(if a.1.length+1=1 then hd else 0)+1+x.length then(a.1++ [a.2],32::x) else(a.1,a.2++ [32]++x)
noncomputable def O5 (hd w:Nat)(x:List Nat):List (List Nat)×List Nat:=if hd≠0∧w<hd+x.length then([[]],32::x) else([],x)
noncomputable def flE:Option (V×V)->j8
 | none=> []
 | some p=> [("word",p.1),("used",p.2)]
noncomputable abbrev flL (iw hd w r:Nat)(o:Option (V×V)):j8:=("words",.ref iw)::("head",.int hd)::("width",.int w)::("rows",.ref r)::flE o
section
theorem GX:(" ":aM)=toS [32]:=rfl
theorem abf (h:x.length≤900):K8 H .Add (.str " ") (sV x)=ok (sV (32::x)) H:=aD GX (DN (cO (ak h (by decide))))
theorem amo (h:l.length≤900):K8 H .Add (sV l) (.str " ")=ok (sV (l++ [32])) H:=aD GX (DN (by refine aD aA ?_;exact ak (bB h 1) (by decide)))
theorem at9 (h:l.length≤900):G4 H "len" (sV l)=ok (.int l.length) H:=by delta G4;refine aD (bG rfl) ?_;refine m8 (O3 (by rw[N5];exact ak h (by decide))) ?_;rw[N5]
theorem aA5 (h:P[r]?=aa (I6 (ls++ [l]))):Z0 P (.ref r) (.int (-1))=aa (sV l):=by simp only[I6,cC]at h;exact Zz h
theorem atj (h:dY gL m φ e P=ok v H1):dY gL (m+1) φ (.lst [e]) P=ok (.ref H1.length) (H1++ [.list [v]]):=Z2 (c7 h d8)
theorem Qv:dY gL (m+2) φ (.neg (.cst (.int 1))) P=ok (.int (-1)) P:=a0e j4
theorem aJ6 (hr:L1.lookup ("rows":aM)=aa (.ref r))(hh:L1.lookup ("head":aM)=aa (.int hd))(h:P[r]?=aa (I6 (ls++ [l])))(l9:l.length≤900):dY gL (n+13) ⟨L1, [],lk⟩ (.bin .Add (.call (.gn "len") [(.sub (.loc "rows") (.neg (.cst (.int 1))))] [] []) (.ite (.cmp .Eq (.call (.gn "len") [(.loc "rows")] [] []) (.cst (.int 1))) (.loc "head") (.cst (.int 0)))) P=ok (.int (l.length+(if ls.length+1=1 then hd else 0):Nat)) P:=by
 have hq:=u6 (n:=n+9) (φ:=⟨L1, [],lk⟩) (O2 U3 (d9 hr) (as7 h)) j4 (Cm (y:=1));rw[aJ,aA]at hq;refine G7 (O2 U3 (I4 (d9 hr) Qv (aA5 h)) (at9 l9)) ?_ Bw;by_cases q:ls.length+1=1
 ·rw[bG q]
  rw[show decide (ls.length+ [l].length=1)=az from gJ q]at hq;exact aw3 (t8 hq) (d9 hh)
 ·rw[bu q]
  rw[show decide (ls.length+ [l].length=1)=aG from decide_eq_false q]at hq;exact aw4 (t8 hq) j4
theorem Qw (h:P[r]?=aa (I6 (ls++ [l])))(hl:l.length+x.length≤800)(hz:ls.length≤800)(o:Option (V×V)):
  ∃r' T' o',Q8 gL (n+14) lk (.loc "word") Gs (sV x) ⟨flL iw hd w r o, [],P⟩=fc .next ⟨flL iw hd w r' o', [],P++T'⟩∧P.length≤r'∧(P++T')[r']?=aa (I6 ((I9 hd w (ls,l) x).1++ [(I9 hd w (ls,l) x).2])):=by
 have l9:l.length≤900:=ak (ak (aQ _ _) hl) (by decide);have x9:x.length≤900:=ak (ak (jg _ _) hl) (by decide);refine qm λY Z=> ?_;obtain⟨L1,ht,hr,hh,hw,hx,hwo,hL⟩:∃L1:j8,K5 gL (n+14) lk (.loc "word") (sV x) ⟨flL iw hd w r o, [],P⟩=fc () ⟨L1, [],P⟩∧L1.lookup ("rows":aM)=aa (.ref r)∧L1.lookup ("head":aM)=aa (.int hd)∧L1.lookup ("width":aM)=aa (.int w)∧L1.lookup ("word":aM)=aa (sV x)∧L1.lookup ("words":aM)=aa (.ref iw)∧∀u r',upd (upd L1 "used" u) "rows" (.ref r')=flL iw hd w r' (aa (sV x,u)):=by
  cases o with
  | none=>exact⟨_,n7,rfl,rfl,rfl,rfl,rfl,λU U=>rfl⟩
  | some p=>exact⟨_,n7,rfl,rfl,rfl,rfl,rfl,λU U=>rfl⟩
 refine Z ?_;have hn:∀{y:aM}{v:V}{u:V},∀J:y≠("used":aM),∀J:L1.lookup y=aa v,(upd L1 "used" u).lookup y=aa v:=λhy h=>(Z7 hy).trans h;have hx1:=hn (u:= .int (l.length+(if ls.length+1=1 then hd else 0):Nat)) (by decide+kernel) hx;have hr1:=hn (u:= .int (l.length+(if ls.length+1=1 then hd else 0):Nat)) (by decide+kernel) hr;have hc:∀{b},∀J:Q5 P .Gt (.int (l.length+(if ls.length+1=1 then hd else 0)+1+x.length:Nat)) (.int w)=aa b,vG gL (n+12) ⟨upd L1 "used" (.int (l.length+(if ls.length+1=1 then hd else 0):Nat)), [],lk⟩ (.cmp .Gt (.bin .Add (.bin .Add (.loc "used") (.cst (.int 1))) (.call (.gn "len") [(.loc "word")] [] [])) (.loc "width")) P=ok b P:=λhb=>
  t8 (u6 (G7 (G7 (d9 J5) j4 (Bw)) (O2 U3 (d9 hx1) (at9 x9)) Bw) (d9 (hn (u:= .int (l.length+(if ls.length+1=1 then hd else 0):Nat)) (by decide+kernel) hw)) hb)
 have hm:∀(ls:List (List Nat))(l:List Nat),ls.map sV++ [sV l]=(ls++ [l]).map sV:=λls l=>by simp only[cC];rfl
 delta I9;by_cases q:w<l.length+(if ls.length+1=1 then hd else 0)+1+x.length
 ·refine aD (bG q) ?_
  refine⟨(P++ [p6.list [sV (32::x)]]).length, [p6.list [sV (32::x)]]++ [I6 (ls++ [l]++ [32::x])],aa (sV x,.int (l.length+(if ls.length+1=1 then hd else 0):Nat)),Q4 ht (j0 (t6 (aJ6 hr hh h l9) n7) (j0 (t6 (aw3 (hc (gtN q)) (G7 (d9 hr1) (atj (G7 j4 (d9 hx1) (abf x9))) ((add_l (H:=P++ [.list [sV (32::x)]]) (m6 h) q9 (by rw[aJ,aA];exact ak (bB (bB hz 1) 1) (by decide))).trans (by rw[hm,aH P [_] [_]])))) ?_) o9)), ?_, ?_⟩
  ·rw[←hL];exact n7
  ·repeat rw[aA]
   exact aQ _ _
  ·rw[←aH];exact q9
 ·refine aD (bu q) ?_
  have ec:=ak8 h (x:= .none) (y:= .int (-1)) (z:= .none) rfl rfl rfl (λq=>iu q);rw[Qg (by simp only[aJ,aA];exact jg 1 _),show((ls++ [l]).map sV).take (((ls++ [l]).map sV).length-1)=ls.map sV from by rw[←hm];refine aD aA ?_;exact Az]at ec;have ea:=(add_l (H:=P++ [.list (ls.map sV)]++ [.list [sV (l++ [32]++x)]]) (m6 q9) q9 (by rw[aJ];exact ak (bB hz 1) (by decide)));rw[hm]at ea;refine⟨(P++ [p6.list (ls.map sV)]++ [p6.list [sV (l++ [32]++x)]]).length, [p6.list (ls.map sV)]++([p6.list [sV (l++ [32]++x)]]++ [I6 (ls++ [l++ [32]++x])]),aa (sV x,.int (l.length+(if ls.length+1=1 then hd else 0):Nat)),Q4 ht (j0 (t6 (aJ6 hr hh h l9) n7) (j0 (t6 (aw4 (hc (gtF q)) (G7 (Ds (d9 hr1) j4 Qv j4 ec) (atj (G7 (G7 (I4 (d9 hr1) Qv (aA5 (m6 h))) j4 (amo l9)) (d9 hx1) (DN (by refine aD aA (aD aA ?_);exact ak (bM (cB _ 1 _)) (ak (cO hl) (by decide)))))) (ea.trans (congrArg (ok _) ((aH _ _ _).trans (aH P _ _)))))) ?_) o9)), ?_, ?_⟩
  ·rw[←hL];exact n7
  ·repeat rw[aA]
   exact ak (aQ _ _) (aQ _ _)
  ·rw[←aH,←aH];exact q9
end
end
section
section
variable {n iw hd w r:Nat}
noncomputable def X6 (hd w:Nat)(x:List Nat)(xs:List (List Nat)):List (List Nat)×List Nat:=xs.foldl (I9 hd w) (O5 hd w x)
theorem am1 {a:List (List Nat)×List Nat}:(I9 hd w a x).2.length≤a.2.length+(x.length+1)∧(I9 hd w a x).1.length≤a.1.length+1:=by
 delta I9;by_cases q:w<a.2.length+(if a.1.length+1=1 then hd else 0)+1+x.length
 ·rw[bG q]
  exact⟨jg _ _,by refine aD aA ?_;exact aN _⟩
 ·rw[bu q]
  exact⟨by refine aD aA (aD aA ?_);exact bM (cB _ 1 _),dC _⟩
theorem Qx {q:St->v7 Fl}:∀(xs:List (List Nat))(a:List (List Nat)×List Nat)(P:Hp)(r:Nat)(o:Option (V×V)),∀J:P[r]?=aa (I6 (a.1++ [a.2])),∀J:a.2.length+(xs.map λx=>x.length+1).sum≤800,∀J:a.1.length+xs.length≤800,∀J:m≤P.length,∀J:m≤r,∃r' T' o',U5 (Q8 gL (n+14) lk (.loc "word") Gs) q (xs.map sV) ⟨flL iw hd w r o, [],P⟩=q ⟨flL iw hd w r' o', [],P++T'⟩∧m≤r'∧(P++T')[r']?=aa (I6 ((xs.foldl (I9 hd w) a).1++ [(xs.foldl (I9 hd w) a).2])):=by
 intro zz
 induction zz with
 | nil=>
  intro a P r o h _ _ _ hr;exact⟨r, [],o,by rw[bh];rfl,hr,by rw[bh];exact h⟩
 | cons x xs ih=>
  intro a P r o h hz hn hm hr;refine qm λY Z=> ?_;obtain⟨r1,T1,o1,e1,m1,h1⟩:=Qw h (ak (bK (ak (dC _) (aQ _ _)) _) hz) (ak (aQ _ _) hn) o;obtain⟨r2,T2,o2,e2,m2,h2⟩:=ih (I9 hd w a x) (P++T1) r1 o1 h1 (ak (bB (am1 (hd:=hd) (w:=w) (x:=x) (a:=a)).1 _) (ak (bM (gO _ _ _)) hz)) (ak (bB (am1).2 _) (ak (bM (cB _ 1 _)) hn)) (by refine aD aA ?_;exact ak hm (aQ _ _)) (ak hm m1);refine Z ?_;rw[aH]at e2 h2;exact⟨r2,T1++T2,o2,R0 e1 e2,m2,h2⟩
theorem amq {k:Nat}:Q3 H (.int k)=aa (decide (k≠0)):=by cases k<;>rfl
theorem Qy (h:H[iw]?=aa (I6 (x::xs)))(hx:x.length≤800):
  ∃r T,dY gL (n+14) ⟨[("words",.ref iw),("head",.int hd),("width",.int w)], [],lk⟩ (.ite (.xR .And [(.loc "head"),(.cmp .Gt (.bin .Add (.loc "head") (.call (.gn "len") [(.sub (.loc "words") (.cst (.int 0)))] [] [])) (.loc "width"))]) (.lst [(.cst (.str "")),(.bin .Add (.cst (.str " ")) (.sub (.loc "words") (.cst (.int 0))))]) (.lst [(.sub (.loc "words") (.cst (.int 0)))])) H=ok (.ref r) (H++T)∧H.length≤r∧(H++T)[r]?=aa (I6 ((O5 hd w x).1++ [(O5 hd w x).2])):=by
 delta O5;have ht:∀{b:Bool},∀J:(∀J:hd≠0,Q5 H .Gt (.int (hd+x.length:Nat)) (.int w)=aa b),∀J:(∀J:hd=0,b=aG),vG gL (n+13) ⟨[("words",.ref iw),("head",.int hd),("width",.int w)], [],lk⟩ (.xR .And [(.loc "head"),(.cmp .Gt (.bin .Add (.loc "head") (.call (.gn "len") [(.sub (.loc "words") (.cst (.int 0)))] [] [])) (.loc "width"))]) H=ok b H:=λ{b} h1 h2=>by
  refine a0f (Zo rfl amq) ?_;by_cases q:hd=0
  ·refine aD (decide_eq_false (λk=>k q)) (aD (h2 q) ?_);rfl
  ·refine aD (gJ q) ?_
   exact t8 (u6 (G7 (d9 rfl) (O2 U3 (I4 (d9 rfl) j4 (J8 (k:=0) h rfl (by decide))) (at9 (ak hx (by decide)))) Bw) (d9 rfl) (h1 q))
 by_cases q:hd≠0∧w<hd+x.length
 ·rw[bG q]
  exact⟨H.length, [I6 [[],32::x]],aw3 (ht (λU=>gtN q.2) λk=>absurd k q.1) (Z2 (c7 j4 (c7 (G7 j4 (I4 (d9 rfl) j4 (J8 (k:=0) h rfl (by decide))) (abf (ak hx (by decide)))) d8))),aN _,q9⟩
 ·rw[bu q]
  exact⟨H.length, [I6 [x]],aw4 (ht (λk=>gtF λz=>q ⟨k,z⟩) λU=>rfl) (Z2 (c7 (I4 (d9 rfl) j4 (J8 (k:=0) h rfl (by decide))) d8)),aN _,q9⟩
theorem Qz (h:H[iw]?=aa (I6 (x::xs)))(hz:x.length+1+(xs.map λx=>x.length+1).sum≤800)(hn:xs.length≤700):
  ∃r T,p8 gL (n+16) lk 424 [.ref iw,.int hd,.int w] [] [] H=ok (.ref r) (H++T)∧(H++T)[r]?=aa (I6 ((X6 hd w x xs).1++ [(X6 hd w x xs).2])):=by
 refine qm λY Z=> ?_;obtain⟨r1,T1,e1,m1,h1⟩:=Qy h (ak (ak (dC _) (aQ _ _)) hz);refine Z ?_;have f1:(O5 hd w x).2.length≤x.length+1∧(O5 hd w x).1.length≤1:=by
  delta O5;by_cases q:hd≠0∧w<hd+x.length
  ·rw[bG q];exact⟨aN _,aN _⟩
  ·rw[bu q];exact⟨dC _,cL _⟩
 have ec:=ak8 (H:=H++T1) (m6 h) (x:= .int 1) (y:= .none) (z:= .none) rfl rfl rfl (λq=>iu q);rw[Qf (jg 1 _),show((x::xs).map sV).drop 1=xs.map sV from rfl]at ec;refine qm λY Z=> ?_;obtain⟨r2,T2,o2,e2,m2,h2⟩:=Qx xs (O5 hd w x) (H++T1++ [.list (xs.map sV)]) r1 aC (m6 h1) (ak (bB f1.1 _) hz) (ak (gB f1.2 hn) (by decide)) (by rw[aH,aA];exact aQ _ _) m1;refine Z ?_;have ef:=W7 (show yl (u9 gL (n+14)) ⟨[("words",.ref iw),("head",.int hd),("width",.int w),("rows",.ref r1)], [],lk⟩ (.vM (.loc "words") (.cst (.int 1)) (.cst .none) (.cst .none)) (H++T1)=ok (xs.map sV, [(H++T1).length]) (H++T1++ [.list (xs.map sV)]) from j7 (Ds (d9 rfl) j4 j4 j4 ec) (f9 (f9 q9 rfl) rfl)) (e2.trans o9);rw[(show H++T1++ [.list (xs.map sV)]++T2=H++(T1++([.list (xs.map sV)]++T2)) from by rw[aH,aH])]at ef h2;exact⟨r2,T1++([.list (xs.map sV)]++T2),G6 rfl rfl rfl rfl
  (j0 (t6 e1 n7) (j0 ef (K6 (S8 (d9 rfl))))) (ao2 (show(V.ref r2).lt H.length=aG from decide_eq_false (iG m2))),h2⟩
end
end
section
noncomputable def kcV:Option (Nat×Nat)->j8
 | none=> []
 | some p=> [("k",.int p.2),("cell",.int p.1)]
noncomputable def kcP (p:Nat×Nat):V:= .tup [.int p.2,.int p.1]
noncomputable def nuV (o:Option Int):j8:=Gz "number" (o.map .int)
noncomputable def DX (x:Int):Nat:=(x.fmod 1000000).toNat
noncomputable def abg:List Nat:= [0,1,5,0,2,5,4,0,26]
noncomputable def part (ns:List Int)(k:Nat):List Int:=jJ ns (aa k) (aa 60) (aa 9)
noncomputable def abh (ns:List Int)(p:Nat×Nat):Nat:=p.1+((part ns p.2).map DX).sum
noncomputable def ax3 (ns:List Int):List Nat:=abg.zipIdx.map (abh ns)
section
theorem aP5 {α β:Type}{f:α->β}{l:List α}{lo hi st:Option Int}:jJ (l.map f) lo hi st=(jJ l lo hi st).map f:=by delta jJ;simp only[aJ,List.map_filterMap];refine congrFun (congrArg auq (funext λk=> ?_)) _;exact eV
theorem aP6:(part ns k).length≤7:=by
 refine ak (List.length_filterMap_le _ _) ?_;delta picks;have e:eE (aa (k:Int)) (aa 60) (aa 9) ns.length=(max 0 (min (k:Int) ns.length),max 0 (min 60 (ns.length:Int)),9):=by show(max 0 (min (if (k:Int)<0 then(k:Int)+ns.length else k) (ns.length:Int)),max 0 (min 60 (ns.length:Int)),(9:Int))=_;exact aD (bu (jx.mpr (cJ k))) rfl
 refine aD e ?_;delta vp;rw[aJ,oN];dsimp only;rw[bG (show(9:Int)>0 by decide)];by_cases q:max 0 (min (k:Int) ns.length)<max 0 (min 60 (ns.length:Int))
 ·rw[bG q];exact uA.mpr (cV (Int.ediv_le_ediv (by decide) (Int.sub_le_sub_right (Int.add_le_add_right (cV (Int.sub_le_self _ (Ae _ _)) (Int.max_le.mpr ⟨by decide,aum _ _⟩)) 9) 1)) (by decide))
 ·rw[bu q];exact cL _
theorem aDk (x:Int):K8 H .Mod (.int x) (.int 1000000)=ok (nV (DX x)) H:=by show ok (V.int (x.fmod 1000000)) H=_;rw[nV,DX,mQ (Int.fmod_nonneg_of_pos _ (by decide))]
theorem amr (x:Int):DX x≤1000000:=uA.mpr (yd (Int.fmod_lt_of_pos x (by decide)))
theorem a1w (o:Option Int)(x:Int):K5 gL (n+1) Ir (.loc "number") (.int x) ⟨nuV o,C,H⟩=fc () ⟨nuV (aa x),C,H⟩:=by cases o<;>exact n7
theorem a1x (o:Option (Nat×Nat))(p:Nat×Nat):K5 gL (n+2) Ir (.tup [(.loc "k"),(.loc "cell")]) (kcP p) ⟨kcV o,C,H⟩=fc () ⟨kcV (aa p),C,H⟩:=by cases o<;>exact Z5 n7 n7
theorem a1y (h:Q[0]?=aa (.list (ns.map .int)))(hL:L.lookup ("k":aM)=aa (.int k))(c:∀j∈lk,j<Q.length):
  ∃T',dY gL (n+8) ⟨L, [("script",.ref 0)],lk⟩ (.call (.gn "sum") [(.comp (.bin .Mod (.loc "number") (.cst (.int 1000000))) (.loc "number") (.vM (.cR "script") (.loc "k") (.cst (.int 60)) (.cst (.int 9))) [] [])] [] []) Q=ok (.int (((part ns k).map DX).sum:Nat)) (Q++T'):=by
 have ec:=ak8 h (x:= .int k) (y:= .int 60) (z:= .int 9) rfl rfl rfl (by decide);rw[aP5]at ec;have e:=ZD (elt:= .bin .Mod (.loc "number") (.cst (.int 1000000))) (xT:= []) (λx:Int=>V.int x) (λx=>aa (nV (DX x))) nuV rfl (show yl (u9 gL (n+6)) ⟨L, [("script",.ref 0)],lk⟩ (.vM (.cR "script") (.loc "k") (.cst (.int 60)) (.cst (.int 9))) Q=ok ((part ns k).map .int, [Q.length]) (Q++ [.list ((part ns k).map .int)]) from j7 (Ds (J6 rfl) (d9 hL) j4 j4 ec) (f9 (f9 q9 rfl) rfl)) rfl (ak aP6 (by decide)) (λx hx o acc ha=>
  qX (a1w o x) aa7 (G7 (d9 rfl) j4 (aDk x)) (T8 (fresh (λj hj=>by
   refine aD aA ?_;exact(aY.mp hj).elim (λq=>q▸fP _) λq=>gV (c j q)) (aN _)) ha))
 simp only[ad2,aH,show((part ns k).map λx=>nV (DX x))=((part ns k).map DX).map nV from by rw[cY];rfl]at e;refine⟨_,O2 aaz e (abb (by rw[←aH];exact q9) (by rw[aJ];exact ak aP6 (by decide)) λx hx=> ?_)⟩;obtain⟨y,_,rfl⟩:=dq.mp hx;exact amr y
noncomputable abbrev scO (ns:List Int):p6:= .list (ns.map .int)
theorem aDl:yl (u9 gL (n+3)) φ (.Cg (.tup [(.cst (.int 0)),(.cst (.int 1)),(.cst (.int 5)),(.cst (.int 0)),(.cst (.int 2)),(.cst (.int 5)),(.cst (.int 4)),(.cst (.int 0)),(.cst (.int 26))])) H=ok (abg.zipIdx.map kcP, []) H:=rfl
theorem st_0:∃T',iY gL (n+12) [0] s0 ⟨[], [("script",.ref 0)], [scO ns]⟩=fc .next ⟨[("cells",.ref 1)], [("script",.ref 0)], [scO ns,wO (ax3 ns)]++T'⟩:=by
 obtain⟨T',e⟩:=GP (n:=n+10) (φ:=⟨[], [("script",.ref 0)], [0]⟩) (elt:= .bin .Add (.loc "cell") (.call (.gn "sum") [(.comp (.bin .Mod (.loc "number") (.cst (.int 1000000))) (.loc "number") (.vM (.cR "script") (.loc "k") (.cst (.int 60)) (.cst (.int 9))) [] [])] [] [])) kcP (λp=>aa (nV (abh ns p))) kcV rfl aDl (by kernel_rfl) (show 9≤1000 by decide) (λp hp o acc T ha=>by
   have c0:∀{X:Hp},∀j∈([]++ [0]:List Nat),j<([scO ns]++X).length:=λ{X} j hj=>by rw[aP.mp hj];exact fB _
   obtain⟨T1,e1⟩:=a1y (L:=kcV (aa p)) rfl rfl c0;exact⟨T++T1,qX (a1x o p) aa7 (G7 (d9 rfl) e1 Bw) (aA4 (fresh c0 (aN _)) ha)⟩)
 rw[ad2,show(abg.zipIdx.map λp=>nV (abh ns p))=(ax3 ns).map nV from by delta ax3;simp only[cY];rfl]at e;exact⟨T',t6 e n7⟩
end
end
section
theorem aDm:gL.glob "_Accumulator"=aa (.gl (.ref 222)):=rfl
theorem a1z:gL.bN 222 "__init__"=aa 159:=rfl
theorem atl:gL.glob "Headers"=aa (.gl (.ref 370)):=rfl
theorem abi:gL.bN 370 "__init__"=aa 264:=rfl
theorem aQo:gL.glob "_ValueFormatter"=aa (.gl (.ref 138)):=rfl
theorem aDn:gL.bN 138 "__init__"=aa 79:=rfl
theorem abj:gL.glob "list"=aa (.gl (.type "list")):=rfl
section
variable {n k z:Nat}
theorem abk (hv:φ.loc.lookup ("self":aM)=aa (.ref H.length))(hl:φ.lk.contains H.length=aG):dY gL (n+1) φ (.sup "__init__") (H++ [mX z []])=ok .none (H++ [mX z []]):=by refine f9 hv (f9 (ao3 q9) ?_);delta Ly;refine aD (bG rfl) (aD (R7 hl) (aD ad0 ?_));rfl
theorem abl (hl:lk.contains H.length=aG):p8 gL (n+10) lk 159 [.ref H.length,.int z] [] [] (H++ [.acc 222 [] []])=ok .none (H++ [mX z []]):=by
 have e1:V6 lk (H++ [.acc 222 [] []]) (.ref H.length) "_initial_size" (.int z)=ok () (H++ [mX z []]):=m8 rfl (f9 rfl (f9 q9 (m8 rfl (by
  refine aD (R7 hl) (aD ad0 ?_);rfl))))
 exact M3 rfl rfl rfl rfl
  (j0 (t6 (d9 rfl) (Zq (d9 rfl) e1)) (j0 (M9 (abk rfl hl)) o9)) (H8 (by refine aD aA (aD aA ?_);rfl))
theorem av3 (he:dY gL (n+10) φ e H=ok (.int z) H1)(hl:φ.lk.contains H1.length=aG):dY gL (n+11) φ (.call (.gn "_Accumulator") [e] [] []) H=ok (.ref H1.length) (H1++ [mX z []]):=
 akk aDm a1z (c7 he d8) (by
  exact aD (bG (show(222:Nat)=gL.fW by kernel_rfl)) (abl hl))
end
end
section
section
variable {H H1:Hp}{ps:List (aM×aM)}
theorem abm:∀H:Hp,M5 m (H++ [o])=(M5 m H&&M4 m o):=by
 intro zz
 induction zz with
 | nil=>
  show(M4 m o&&az)=(az&&M4 m o);simp only[Bool.and_true,pQ]
 | cons a H ih=>
  show(M4 m a&&M5 m (H++ [o]))=((M4 m a&&M5 m H)&&M4 m o);simp only[ih,aur]
theorem Ku (h:M4 (H.length+1) o=aG):Lz (H.length+1) (ok v (H++ [o]++T))=ok v (H++ [o]++T):=by show(if (H++ [o]++T).length=H.length+1 then aa (Res.ok v,H++ [o]++T) else if (v.lt (H.length+1)&&M5 (H.length+1) ((H++ [o]++T).take (H.length+1)))=az then aa (Res.ok v,(H++ [o]++T).take (H.length+1)) else aa (Res.ok v,H++ [o]++T))=_;refine aD (aox (by refine aD aA ?_;rfl)) ?_;simp only[abm,h,jq,jq,bu bU,ite_self]
theorem abn {q:St->v7 Fl}{d:j8}(hi:H[i]?=aa (.inst 370 [("_headers",.ref j)])):∀(ps:List (aM×aM))(o:Option (aM×aM)),∀J:(∀p∈ps,Ei p.1∧Bv p.2),∃o',U5 (Q8 gL (n+15) lk (.tup [.loc "k",.loc "v"]) Ze) q (ps.map pV) ⟨("self",.ref i)::("headers",hv)::kvE o, [],H⟩=q ⟨("self",.ref i)::("headers",hv)::kvE o', [],H⟩:=by
 intro zz
 induction zz with
 | nil=>
  intro o _;exact⟨o,rfl⟩
 | cons p ps ih=>
  intro o h;refine jA (ih (aa p) λp hp=>h p (.tail _ hp)) λo' e=> ?_;refine⟨o',R0 (Q4 (by cases o<;>exact Z5 n7 n7) ?_) e⟩;exact j0 (M9 (t7 (d9 rfl) (O6 hi ak6) (c7 (d9 rfl) d8) (c7 j4 d8) (aC2 (h p (.head _)).1.good (h p (.head _)).1.len))) (j0 (M9 (t7 (d9 rfl) (O6 hi ak6) (c7 (d9 rfl) d8) (c7 j4 d8) (Gw (h p (.head _)).2))) o9)
noncomputable abbrev Ek (j:Nat):p6:= .inst 370 [("_headers",.ref j)]
theorem ams:M4 m (Ek m)=aG:=by show((V.ref m).lt m&&az)=aG;refine aD aj2 ?_;rfl
theorem Kv:Q5 H .IsNot (.gl (.type "list")) (.gl (.type "list"))=aa aG:=rfl
theorem abo (h:H[i]?=aa (.list l)):Lw H "type" (.ref i)=ok (.gl (.type "list")) H:=f9 (K1 h) rfl
theorem yH:Q5 H .IsNot (.ref i) .none=aa az:=rfl
theorem au0 (h1:φ.loc.lookup x=aa (.ref j))(h:H[j]?=aa (.list l)):yl (u9 gL (n+1)) φ (.loc x) H=ok (l, [j]) H:=j7 (d9 h1) (f9 (f9 h rfl) rfl)
theorem QB (hl:lk.contains H.length=aG):p8 gL (n+18) lk 264 [.ref H.length] [] [] (H++ [.inst 370 []])=ok .none (H++ [Ek (H.length+1)]++ [.list []]):=by
 have e1:V6 lk (H++ [.inst 370 []]++ [.list []]) (.ref H.length) "_headers" (.ref (H.length+1))=ok () (H++ [Ek (H.length+1)]++ [.list []]):=m8 Dw (f9 rfl (f9 (m6 q9) (m8 rfl (by
  refine aD (R7 hl) (aD (R3 (aD aA (fP _))) (aD ad0 ?_));rfl))))
 have e0:dY gL (n+15) ⟨[("self",.ref H.length),("headers",.none)], [],lk⟩ (.lst []) (H++ [.inst 370 []])=ok (.ref (H.length+1)) (H++ [.inst 370 []]++ [.list []]):=by have:=Z2 (G:=gL) (n:=n+14) (φ:=⟨[("self",.ref H.length),("headers",.none)], [],lk⟩) (H:=H++ [.inst 370 []]) d8;rw[aA]at this;exact this
 have hn:(H++ [Ek (H.length+1)]++ [p6.list []])[H.length+1]?=aa (.list []):=by have:=q9 (H:=H++ [Ek (H.length+1)]) (o:= .list []);rw[aA]at this;exact this
 have hn0:(H++ [p6.inst 370 []]++ [p6.list []])[H.length+1]?=aa (.list []):=by have:=q9 (H:=H++ [.inst 370 []]) (o:= .list []);rw[aA]at this;exact this
 refine M3 rfl rfl rfl rfl
  (j0 (t6 (aw4 (t8 (u6 (d9 rfl) j4 rfl)) e0) n7) (j0 (M7 (t8 (u6 (PT aC1 (d9 rfl) (abo hn0)) (zQ abj) Kv)) o9) (j0 (t6 (d9 rfl) (Zq (d9 rfl) e1)) (j0 (J2 (aBb rfl) (j0 (W7 (au0 rfl hn) o9) o9)) o9)))) ?_
 exact aD aA (Ku ams)
theorem QC (hr:H[j]?=aa (.list (ps.map pV)))(hp:∀p∈ps,Ei p.1∧Bv p.2)(hl:lk.contains H.length=aG):p8 gL (n+18) lk 264 [.ref H.length,.ref j] [] [] (H++ [.inst 370 []])=ok .none (H++ [Ek j]):=by
 have e1:V6 lk (H++ [.inst 370 []]) (.ref H.length) "_headers" (.ref j)=ok () (H++ [Ek j]):=m8 Dw (f9 rfl (f9 q9 (m8 rfl (by
  refine aD (R7 hl) (aD ad0 ?_);rfl))))
 obtain⟨o',e⟩:=abn (H:=H++ [Ek j]) (d:= []) q9 ps aC hp;exact M3 rfl rfl rfl rfl
  (j0 (t6 (aw3 (t8 (u6 (d9 rfl) j4 yH)) (d9 rfl)) n7) (j0 (M7 (t8 (u6 (PT aC1 (d9 rfl) (abo (m6 hr))) (zQ abj) Kv)) o9) (j0 (t6 (d9 rfl) (Zq (d9 rfl) e1)) (j0 (J2 (aBb rfl) (j0 (W7 (au0 rfl (m6 hr)) e) o9)) o9)))) (H8 (by refine aD aA (aD aA ?_);rfl))
theorem abp (hl:φ.lk.contains H.length=aG):dY gL (n+19) φ (.call (.gn "Headers") [] [] []) H=ok (.ref H.length) (H++ [Ek (H.length+1)]++ [.list []]):=
 akk atl abi d8 (by
  exact aD (bu (show(370:Nat)≠gL.fW by decide+kernel)) (QB hl))
theorem abq (he:dY gL (n+18) φ e H=ok (.ref j) H)(hr:H[j]?=aa (.list (ps.map pV)))(hp:∀p∈ps,Ei p.1∧Bv p.2)(hl:φ.lk.contains H.length=aG):dY gL (n+19) φ (.call (.gn "Headers") [e] [] []) H=ok (.ref H.length) (H++ [Ek j]):=
 akk atl abi (c7 he d8) (by
  exact aD (bu (show(370:Nat)≠gL.fW by decide+kernel)) (QC hr hp hl))
end
end
section
section
variable {n i j k z w:Nat}
theorem amt (hm:z7.contains m=az)(hd:d.length<100)(hl:lk.contains H.length=aG):V6 lk (H++ [.inst c d]++T) (.ref H.length) m v=ok () (H++ [.inst c (upd d m v)]++T):=
 m8 hm (f9 rfl (f9 (m6 q9) (m8 (gJ hd) (by
  exact aD (R7 hl) (aD (R3 (aD aA (fP _))) (aD ad0 rfl))))))
theorem aDp:z7.contains ("_continuation_ws":aM)=az:=rfl
theorem aDq:z7.contains ("_continuation_ws_len":aM)=az:=rfl
noncomputable abbrev vfL (i z w:Nat):j8:= [("self",.ref i),("headerlen",.int z),("maxlen",.int w),("continuation_ws",.str " "),("splitchars",.str " ")]
theorem amu (hl:∀T:Hp,lk.contains (H++T).length=aG):p8 gL (n+20) lk 79 [.ref H.length,.int z,.int w,.str " ",.str " "] [] [] (H++ [.inst 138 []])=ok .none (H++ [.inst 138 (Kf w (H.length+1) (H.length+2))]++ [.list [],mX z []]):=by
 have hl0:lk.contains H.length=aG:=by have:=hl [];rwa [bh]at this
 have s:∀{d:j8}{m:aM}{v:V}{T:Hp},∀J:z7.contains m=az,∀J:d.length<100,V6 lk (H++ [.inst 138 d]++T) (.ref H.length) m v=ok () (H++ [.inst 138 (upd d m v)]++T):=λh1 h2=>amt h1 h2 hl0;have s0:∀{d:j8}{m:aM}{v:V},∀J:z7.contains m=az,∀J:d.length<100,V6 lk (H++ [.inst 138 d]) (.ref H.length) m v=ok () (H++ [.inst 138 (upd d m v)]):=λ{d m v} h1 h2=>by have:=s (v:=v) (T:= []) h1 h2;rwa [bh,bh]at this
 have e5:∀{d:j8}{m:Nat},dY gL (m+1) ⟨vfL H.length z w, [],lk⟩ (.lst []) (H++ [.inst 138 d])=ok (.ref (H.length+1)) (H++ [.inst 138 d]++ [.list []]):=λ{d m}=>by have:=Z2 (G:=gL) (n:=m) (φ:=⟨vfL H.length z w, [],lk⟩) (H:=H++ [.inst 138 d]) d8;rw[aA]at this;exact this
 have e6:∀{d:j8},dY gL (n+18) ⟨vfL H.length z w, [],lk⟩ (.call (.gn "_Accumulator") [(.loc "headerlen")] [] []) (H++ [.inst 138 d]++ [.list []])=ok (.ref (H.length+2)) (H++ [.inst 138 d]++ [.list [],mX z []]):=λ{d}=>by have:=av3 (n:=n+7) (φ:=⟨vfL H.length z w, [],lk⟩) (e:= .loc "headerlen") (H:=H++ [.inst 138 d]++ [.list []]) (d9 rfl) (by rw[aH];exact hl _);rw[show(H++ [p6.inst 138 d]++ [p6.list []]).length=H.length+2 from by refine aD aA (aD aA ?_);rfl,aH (H++ [p6.inst 138 d]) [_] [_]]at this;exact this
 refine M3 rfl rfl rfl rfl
  (j0 (t6 (d9 rfl) (Zq (d9 rfl) (s0 asu (show 0<100 by decide)))) (j0 (t6 (d9 rfl) (Zq (d9 rfl) (s0 aDp (show 1<100 by decide)))) (j0 (t6 (O2 U3 (d9 rfl) rfl) (Zq (d9 rfl) (s0 aDq (show 2<100 by decide)))) (j0 (t6 (d9 rfl) (Zq (d9 rfl) (s0 asv (show 3<100 by decide)))) (j0 (t6 e5 (Zq (d9 rfl) (s aac (show 4<100 by decide)))) (j0 (t6 e6 (Zq (d9 rfl) (s aad (show 5<100 by decide)))) o9)))))) ?_
 refine aD aA ?_;exact Ku (by
  show((V.int w).lt (H.length+1)&&((V.str " ").lt (H.length+1)&&((V.int 1).lt (H.length+1)&&((V.str " ").lt (H.length+1)&&((V.ref (H.length+1)).lt (H.length+1)&&((V.ref (H.length+2)).lt (H.length+1)&&az))))))=aG;simp only[aj2,Bd,jq,jq,jq,jq])
theorem a2a {H1:Hp}(ha:dY gL (n+20) φ a H=ok (.int z) H)(hb:dY gL (n+20) φ b H=ok (.int w) H)(hl:∀T:Hp,φ.lk.contains (H++T).length=aG):dY gL (n+21) φ (.call (.gn "_ValueFormatter") [a,b,(.cst (.str " ")),(.cst (.str " "))] [] []) H=ok (.ref H.length) (H++ [.inst 138 (Kf w (H.length+1) (H.length+2))]++ [.list [],mX z []]):=
 akk aQo aDn (c7 ha (c7 hb (c7 j4 (c7 j4 d8)))) (by
  exact aD (bu (show(138:Nat)≠gL.fW by decide+kernel)) (amu hl))
end
end
section
noncomputable def sg (i:Nat):aM:=toS [if i<5 then 97+i else 60+i]
noncomputable abbrev zU (i:Nat):V:= .str (sg i)
noncomputable def ceV (o:Option Nat):j8:=Gz "cell" (o.map nV)
section
variable {n i j k z w:Nat}
theorem a2b {o x y z:j6}(he:dY G n φ (.vM o x y z) H=ok (.ref k) H1)(h:H1[k]?=aa (.list l)):yl (u9 G n) φ (.vM o x y z) H=ok (l, [k]) H1:=j7 he (f9 (f9 h rfl) rfl)
theorem a2c:((cD 10).all λi=>(idx ("abcdeABCDE":aM).cps.toList (i:Int))==aa (if i<5 then 97+i else 60+i))=az:=rfl
theorem aDr (h:i<10):Z0 H (.str "abcdeABCDE") (.int i)=aa (zU i):=by refine aD getI_str (aD (Y8 (ak (bR h) (by decide))) (aD (fG (R1 a2c h)) ?_));rfl
theorem a2d {a b:Nat}(hb:0<b):K8 H .Mod (.int a) (.int b)=ok (.int (a % b:Nat)) H:=nF (show(a:Int).fmod b=((a % b:Nat):Int) from by simp only[aoy,Cd _ (cJ b)]) (m8 (gJ (iJ.mpr hb)) rfl)
theorem a2e (o:Option Nat)(p:Nat):K5 gL (n+1) Ir (.loc "cell") (nV p) ⟨ceV o,C,H⟩=fc () ⟨ceV (aa p),C,H⟩:=by cases o<;>exact n7
noncomputable abbrev By (cs:List Nat):List Nat:=(cs.take 8).map (· % 10)
noncomputable abbrev H1' (ns:List Int)(cs:List Nat):Hp:= [scO ns,wO cs]
noncomputable abbrev H2' (ns:List Int)(cs:List Nat):Hp:= [scO ns,wO cs,wO (cs.take 8),.list ((By cs).map zU)]
theorem st_1 (hc:cs.length=9):iY gL (n+12) [0] s1 ⟨[("cells",.ref 1)], [("script",.ref 0)],H1' ns cs⟩=fc .next ⟨[("cells",.ref 1),("message",.ref 3)], [("script",.ref 0)],H2' ns cs⟩:=by
 have ec:=ak8 (H:=H1' ns cs) (k:=1) rfl (x:= .none) (y:= .int 8) (z:= .none) rfl rfl rfl (λq=>iu q);have ep:jJ (cs.map nV) aC (aa 8) aC=(cs.take 8).map nV:=by refine aD aP5 (aD (at4 (by refine aD hc ?_;rfl) (by decide) (by refine aD hc ?_;decide)) ?_);rfl
 rw[ep]at ec;have e:=ZD (elt:= .sub (.cst (.str "abcdeABCDE")) (.bin .Mod (.loc "cell") (.cst (.int 10)))) (xT:= []) nV (λc=>aa (zU (c % 10))) ceV rfl (show yl (u9 gL (n+10)) ⟨[("cells",.ref 1)], [("script",.ref 0)], [0]⟩ (.vM (.loc "cells") (.cst (.none)) (.cst (.int 8)) (.cst (.none))) (H1' ns cs)=ok ((cs.take 8).map nV, [(H1' ns cs).length]) (H1' ns cs++ [wO (cs.take 8)]) from a2b (Ds (d9 rfl) j4 j4 j4 ec) q9) rfl (by refine aD iC (aD hc ?_);decide) (λc hc o acc ha=>
  qX (a2e o c) aa7 (I4 j4 (G7 (d9 rfl) j4 (a2d (by decide))) (aDr (lY _ (by decide)))) (T8 rfl ha))
 rw[ad2,show((cs.take 8).map λc=>zU (c % 10))=(By cs).map zU from by refine aD cY ?_;rfl]at e;exact t6 e n7
end
end
section
noncomputable abbrev yU (cs:List Nat):Nat:=cs.getD 8 0 % 4
noncomputable abbrev yu (cs:List Nat):Nat:=3+cs.getD 8 0/4 % 8
noncomputable abbrev H3' (ns:List Int)(cs:List Nat):Hp:= [scO ns,wO cs,wO (cs.take 8),.list ((By cs).map zU),wO [1],wO [1,1,1,1,1],.list [],Ek 8,.list [],mX 1 [],.list []]
section
theorem aQq {a:Nat}:K8 H .FloorDiv (.int a) (.int 4)=ok (.int (a/4:Nat)) H:=by refine nF (show(a:Int).fdiv 4=((a/4:Nat):Int) from by rw[zr,rF _ (by decide)];rfl) ?_;rfl
theorem aQr:K8 (H++ [wO [1]]) .Mult (.ref H.length) (.int 5)=ok (.ref (H++ [wO [1]]).length) (H++ [wO [1]]++ [wO [1,1,1,1,1]]):=by refine f9 (K1 q9) (f9 rfl (m8 rfl ?_));refine aD (show rep ([1].map nV) 5= [1,1,1,1,1].map nV from by kernel_rfl) ?_;rfl
theorem st_2 (hc:cs.length=9):iY gL (n+25) [0] s2 ⟨[("cells",.ref 1),("message",.ref 3)], [("script",.ref 0)],H2' ns cs⟩=fc .next ⟨[("cells",.ref 1),("message",.ref 3),("head",.int (yU cs)),("width",.int (yu cs)),("words",.ref 6),("post",.ref 7),("pile",.ref 9),("errors",.ref 10)], [("script",.ref 0),("ranked",.ref 5)],H3' ns cs⟩:=by refine t6 (U6 (c7 (G7 (I4 (d9 rfl) j4 (J8 rfl (V2 (getD_at (by refine aD hc ?_;decide))) (by decide))) j4 (a2d (by decide))) (c7 (G7 j4 (G7 (G7 (I4 (d9 rfl) j4 (J8 rfl (V2 (getD_at (by refine aD hc ?_;decide))) (by decide))) j4 aQq) j4 (a2d (by decide))) (Bw)) (c7 (G7 (Z2 (c7 j4 d8)) j4 (aQr)) (c7 (Z2 d8) (c7 (abp rfl) (c7 (av3 j4 rfl) (c7 (Z2 d8) d8)))))))) ?_;kernel_rfl
end
end
section
noncomputable def HM (ns:List Int)(cs rk:List Nat)(ws:List (List Nat))(bk:List (Nat×Nat))(nd W:List Nat)(ls:List aM)(z:Nat)(ps:List (aM×aM)):Hp:=
 [scO ns,wO cs,wO (cs.take 8),.list ((By cs).map zU),wO [1],wO rk,I6 ws,Ek 8,.list [],mX 1 [],.list [],Bx bk,yt nd,wO W,Ek 11,.inst 138 (Kf (yu cs) 16 17),.list (ls.map V.str),mX z ps]
noncomputable abbrev L2' (cs:List Nat):j8:= [("cells",.ref 1),("message",.ref 3),("head",.int (yU cs)),("width",.int (yu cs)),("words",.ref 6),("post",.ref 7),("pile",.ref 9),("errors",.ref 10)]
noncomputable abbrev L3' (cs:List Nat):j8:= [("cells",.ref 1),("message",.ref 3),("head",.int (yU cs)),("width",.int (yu cs)),("words",.ref 6),("post",.ref 7),("pile",.ref 9),("errors",.ref 10),("pairs",.ref 11),("nodes",.ref 12),("weights",.ref 13)]
noncomputable abbrev L4' (cs:List Nat):j8:= [("cells",.ref 1),("message",.ref 3),("head",.int (yU cs)),("width",.int (yu cs)),("words",.ref 6),("post",.ref 7),("pile",.ref 9),("errors",.ref 10),("pairs",.ref 11),("nodes",.ref 12),("weights",.ref 13),("book",.ref 14),("maker",.ref 15)]
noncomputable abbrev C2':j8:= [("script",.ref 0),("ranked",.ref 5)]
noncomputable abbrev tW (xs:List Nat):j8:= [("script",.ref 0),("ranked",.ref 5),("sent",.str (zA xs))]
theorem abr:gL.glob "_law_tree"=aa (.gl (.ref 379)):=rfl
theorem abt:gL.bN 379 "__init__"=aC:=rfl
section
theorem a2f:∀p∈Ej.map zy,Ei p.1∧Bv p.2:=λp hp=>by obtain⟨q,hq,rfl⟩:=dq.mp hp;obtain⟨i,hi,rfl⟩:=dq.mp hq;have:=dK.mp hi;exact⟨ag9 (dw this (by decide)),atd (dw this (by decide))⟩
theorem st_3:iY gL (n+25) [0] s3 ⟨L2' cs,C2',H3' ns cs⟩=fc .next ⟨L3' cs,C2',H3' ns cs++ [Bx Ej,yt DQ,wO w0]⟩:=
 t6 (JR abr abt d8 (aJ4 rfl)) (asb n7 n7 n7)
theorem st_4:iY gL (n+25) [0] s4 ⟨L3' cs,C2',H3' ns cs++ [Bx Ej,yt DQ,wO w0]⟩=fc .next ⟨L4' cs,tW [],HM ns cs [1,1,1,1,1] [] Ej DQ w0 [] (yU cs) []⟩:=by have e2:dY gL (n+23) ⟨L3' cs,C2', [0]⟩ (.call (.gn "_ValueFormatter") [(.loc "head"),(.loc "width"),(.cst (.str " ")),(.cst (.str " "))] [] []) (H3' ns cs++ [Bx Ej,yt DQ,wO w0,Ek 11])=ok (.ref 15) (HM ns cs [1,1,1,1,1] [] Ej DQ w0 [] (yU cs) []):=a2a (H1:= []) (d9 rfl) (d9 rfl) (λT=>by kernel_rfl);refine t6 (U6 (c7 (abq (d9 rfl) rfl a2f rfl) (c7 e2 (c7 j4 d8)))) ?_;kernel_rfl
end
end
section
theorem amv:((cD 10).all λm=>iD (sg m)==nm (m % 5))=az:=rfl
theorem GZ (h:m<10):iD (sg m)=nm (m % 5):=fG (R1 amv h)
noncomputable abbrev LM (cs:List Nat)(o:Option V):j8:=("cells",.ref 1)::("message",.ref 3)::("head",.int (yU cs))::("width",.int (yu cs))::("words",.ref 6)::("post",.ref 7)::("pile",.ref 9)::("errors",.ref 10)::("pairs",.ref 11)::("nodes",.ref 12)::("weights",.ref 13)::("book",.ref 14)::("maker",.ref 15)::Gz "sign" o
theorem amw:gL.glob "_law_sound"=aa (.gl (.ref 417)):=rfl
theorem amx:gL.bN 417 "__init__"=aC:=rfl
theorem a2g:gL.glob "_law_word"=aa (.gl (.ref 386)):=rfl
theorem a2h:gL.bN 386 "__init__"=aC:=rfl
theorem a2i:gL.glob "_law_grow"=aa (.gl (.ref 400)):=rfl
theorem a2j:gL.bN 400 "__init__"=aC:=rfl
theorem a2k:gL.glob "_law_rank"=aa (.gl (.ref 407)):=rfl
theorem a2l:gL.bN 407 "__init__"=aC:=rfl
section
theorem ato (he:dY gL n φ e H=ok (zU m) H)(h:m<10):dY gL (n+1) φ (.bN e "lower" [] [] []) H=ok (nT (m % 5)) H:=
 t7 he (O4 Dy) d8 d8 (Dz (GZ h) (ag9 (dw (lY _ (by decide)) (show 5<9 by decide))).len)
theorem amy (hx:x<5)(hz:xs.length≤900):K8 H .Add (.str (zA xs)) (nT x)=ok (.str (zA (xs++ [x]))) H:=by simp only[nT,nm,bG hx];rw[DN (by rw[aA,aJ];exact ak (bB hz 1) (by decide)),zA];refine aD cC ?_;rfl
theorem aDu (hC:φ.cR.lookup ("sent":aM)=aa (.str (zA xs)))(he:dY gL (n+1) φ e H=ok (nT x) H)(h:x<5):dY gL (n+3) φ (.bin .Add (.cst (.int 1)) (.bN (.cR "sent") "count" [e] [] [])) H=ok (.int (cN xs x)) H:=
 G7 j4 (t7 (J6 hC) (O4 ath) (c7 he d8) d8 (ati h)) (Bw)
theorem aP7 (hL:L.lookup ("nodes":aM)=aa (.ref jn))(hr:C.lookup ("ranked":aM)=aa (.ref jr))(hs:C.lookup ("sent":aM)=aa (.str (zA xs)))(e:p8 gL (n+20) lk 417 [.ref jn,.ref jr,.str (zA xs)] [] [] H=ok (.bool az) H):
  iY gL (n+24) lk (.ite (.not (.call (.gn "_law_sound") [(.loc "nodes"),(.cR "ranked"),(.cR "sent")] [] [])) [.ret (.cst (.bool aG))] []) ⟨L,C,H⟩=fc .next ⟨L,C,H⟩:=
 M7 (aBd (bb:=az) (aBc (JR amw amx (c7 (d9 hL) (c7 (J6 hr) (c7 (J6 hs) d8))) e) rfl)) o9
theorem amz (hL:L.lookup ("sign":aM)=aa (zU m))(hs:C.lookup ("sent":aM)=aa (.str (zA xs)))(hm:m<10)(hz:xs.length≤900):iY gL (n+3) lk (.Lr "sent" .Add (.bN (.loc "sign") "lower" [] [] [])) ⟨L,C,H⟩=fc .next ⟨L,upd C "sent" (.str (zA (xs++ [m % 5]))),H⟩:=
 aBg hs (ato (d9 hL) hm) (amy (lY _ (by decide)) hz)
theorem ana (hL:L.lookup ("sign":aM)=aa (zU m))(hr:C.lookup ("ranked":aM)=aa (.ref jr))(hs:C.lookup ("sent":aM)=aa (.str (zA xs)))(hm:m<10)(e:p8 gL (n+24) lk 407 [.ref jr,.int (cN xs (m % 5))] [] [] H=ok .none H1):
  iY gL (n+28) lk (.ite (.cmp .IsNot (.call (.gn "_law_rank") [(.cR "ranked"),(.bin .Add (.cst (.int 1)) (.bN (.cR "sent") "count" [(.bN (.loc "sign") "lower" [] [] [])] [] []))] [] []) (.cst (.none))) [.ret (.cst (.bool aG))] []) ⟨L,C,H⟩=fc .next ⟨L,C,H1⟩:=
 M7 (t8 (u6 (JR a2k a2l (c7 (J6 hr) (c7 (aDu hs (ato (d9 hL) hm) (lY _ (by decide))) d8)) e) j4 rfl)) o9
theorem anb (hb:L.lookup ("book":aM)=aa (.ref ib))(hn:L.lookup ("nodes":aM)=aa (.ref jn))(hL:L.lookup ("sign":aM)=aa (zU m))(hw:L.lookup ("words":aM)=aa (.ref jw))(h:H[jw]?=aa (I6 ws))(hz:ws.length≤900)(hl:lk.contains jw=aG)
  (e:p8 gL (n+30) lk 386 [.ref ib,.ref jn,zU m] [] [] H=ok (.str (toS w)) H):
  iY gL (n+33) lk (.expr (.bN (.loc "words") "append" [(.call (.gn "_law_word") [(.loc "book"),(.loc "nodes"),(.loc "sign")] [] [])] [] [])) ⟨L,C,H⟩=fc .next ⟨L,C,H.set jw (I6 (ws++ [w]))⟩:=by
 have ea:=λr=>an9 (r:=r) (j:=jw) (v:=sV w) h (by rw[aJ];exact bz hz (by decide)) hl;rw[show ws.map sV++ [sV w]=(ws++ [w]).map sV from by rw[cC];rfl]at ea;exact M9 (t7 (d9 hw) (X4 aw8 h) (c7 (JR a2g a2h (c7 (d9 hb) (c7 (d9 hn) (c7 (d9 hL) d8))) e) d8) d8 (ea _))
theorem anc (hb:L.lookup ("book":aM)=aa (.ref ib))(hn:L.lookup ("nodes":aM)=aa (.ref jn))(hL:L.lookup ("sign":aM)=aa (zU m))(hw:L.lookup ("weights":aM)=aa (.ref jw))
  (e:p8 gL (n+42) lk 400 [.ref ib,.ref jn,.ref jw,zU m] [] [] H=ok .none H1):
  iY gL (n+44) lk (.expr (.call (.gn "_law_grow") [(.loc "book"),(.loc "nodes"),(.loc "weights"),(.loc "sign")] [] [])) ⟨L,C,H⟩=fc .next ⟨L,C,H1⟩:=
 M9 (JR a2i a2j (c7 (d9 hb) (c7 (d9 hn) (c7 (d9 hw) (c7 (d9 hL) d8)))) e)
theorem abu:Q6 gL 138 (Kf w l a) "_append_chunk"=aa 135:=rfl
theorem Kw (hz:xs.length≤900):Q3 H (.str (zA xs))=aa (decide (xs≠ [])):=by refine m8 (O3 (by rw[N5,aJ];exact ak hz (by decide))) ?_;rw[N5,aJ];cases xs<;>rfl
theorem abv (hm:L.lookup ("maker":aM)=aa (.ref i))(hw:L.lookup ("words":aM)=aa (.ref jw))(hs:C.lookup ("sent":aM)=aa (.str (zA xs)))(hz:xs.length≤900)(hi:H[i]?=aa (.inst 138 (Kf w' l a)))(h:H[jw]?=aa (I6 (ws++ [w])))
  (e:p8 gL (n+40) lk 135 [.ref i,.str (if xs= [] then "" else " "),sV w] [] [] H=ok .none H1):
  iY gL (n+42) lk (.expr (.bN (.loc "maker") "_append_chunk" [(.ite (.cR "sent") (.cst (.str " ")) (.cst (.str ""))),(.sub (.loc "words") (.neg (.cst (.int 1))))] [] [])) ⟨L,C,H⟩=fc .next ⟨L,C,H1⟩:=by
 have ef:dY gL (n+40) ⟨L,C,lk⟩ (.ite (.cR "sent") (.cst (.str " ")) (.cst (.str ""))) H=ok (.str (if xs= [] then "" else " ")) H:=by
  by_cases q:xs= []
  ·rw[bG q]
   exact aw4 (aBa hs ((Kw hz).trans (congrArg aa (decide_eq_false λk=>k q)))) j4
  ·rw[bu q]
   exact aw3 (aBa hs ((Kw hz).trans (congrArg aa (gJ q)))) j4
 exact M9 (t7 (d9 hm) (O6 hi abu) (c7 ef (c7 (I4 (d9 hw) Qv (aA5 h)) d8)) d8 e)
end
end
section
section
theorem aDv:Gt (HM ns cs rk ws bk nd W ls z ps) 14 11 12 13:=⟨rfl,by decide,by decide,by decide,by decide,by decide,by decide,show 11<18 by decide,show 12<18 by decide,show 13<18 by decide⟩
theorem abw:Mk (HM ns cs rk ws bk nd W ls z ps) 15 16 17 (yu cs):=⟨rfl,by decide,by decide,by decide,show 16<18 by decide,show 17<18 by decide⟩
theorem aA6 (l:List Int):V.qO m (l.map .int)=az:=ag3 (λU=>rfl) l
theorem ak9 {m:Nat}{α:Type}{f:α->aM}(l:List α):V.qO m (l.map λa=>V.str (f a))=az:=ag3 (λU=>rfl) l
theorem ax4 (h:∀j∈lk,j<18):Cl lk (HM ns cs rk ws bk nd W ls z ps):=⟨by
 show(V.qO 18 (ns.map .int)&&(V.qO 18 (cs.map nV)&&(V.qO 18 ((cs.take 8).map nV)&&(V.qO 18 ((By cs).map zU)&&(V.qO 18 ([1].map nV)&&(V.qO 18 (rk.map nV)&&(V.qO 18 (ws.map sV)&&(az&&(az&&(az&&(az&&(V.qO 18 ((bk.map zy).map pV)&&(V.qO 18 (nd.map nT)&&(V.qO 18 (W.map nV)&&(az&&(az&&(V.qO 18 (ls.map V.str)&&(az&&V.qO 18 (ps.map pV)&&az))))))))))))))))))=az;rw[aA6,T4,T4,ak9,T4,T4,ak9,ae9,aC9,T4,ag3 (λU=>rfl),ae9];rfl,h⟩
end
end
section
section
theorem QD (hm:m<10)(N:Nd nd)(hW:W.length=9)(hb:∀p∈bk,p.1<9)(zb:bk.length≤370)(hf:bk.find? (λp=>p.1==m % 5)=aa (m % 5,s))(hs9:s<9)(lr:rk.length=5)(br:∀x∈rk,x≤1000)(zx:xs.length≤800)(zw:ws.length≤800)
  (Ck:ab3 ((Ks xs).map λ(n:Nat)=>(n:Int))=rk.map λ(n:Nat)=>(n:Int)) (hco:(ah1 nd (Ks xs) (Z8 nd)).sum=DW rk) (hg:am0 9 nd W bk s=aa r)
  (h1:X8 rk) (h2:X8 (rk.eraseIdx (rk.countP (·<cN xs (m % 5))))) (h3:rk.countP (·<cN xs (m % 5))<rk.length)
  (hch:p8 gL (n+43) [3,0] 135 [.ref 15,.str (if xs= [] then "" else " "),sV (R2 nd s)] [] [] (HM ns cs rk (ws++ [R2 nd s]) bk nd W ls z ps)=ok .none (HM ns cs rk (ws++ [R2 nd s]) bk nd W tV z' vo)):
  Q8 gL (n+45) [3,0] (.loc "sign") Zi (zU m) ⟨LM cs o,tW xs,HM ns cs rk ws bk nd W ls z ps⟩=fc .next ⟨LM cs (aa (zU m)),tW (xs++ [m % 5]),HM ns cs (Dv rk (cN xs (m % 5))) (ws++ [R2 nd s]) r.2.2 r.1 r.2.1 tV z' vo⟩:=by
 have lk:∀j∈([3,0]:List Nat),j<18:=by decide
 have h5:m % 5<9:=dw (lY _ (by decide)) (show 5<9 by decide);have e4:=Qt (n:=n+1) (aDv (ns:=ns) (cs:=cs) (rk:=rk) (ws:=ws++ [R2 nd s]) (bk:=bk) (nd:=nd) (W:=W) (ls:=tV) (z:=z') (ps:=vo)) (ax4 lk) ⟨by decide,by decide,by decide⟩ N hW hb zb h5 (GZ hm) hf hs9 hg;have z9:=ak zx (show 800≤900 by decide);exact Q4 (by cases o<;>kernel_rfl) (j0 (aP7 rfl rfl rfl (aD1 (ax4 lk) N rfl rfl lr br (ak zx (by decide)) Ck hco)) (j0 (anb (L:=LM cs (aa (zU m))) (C:=tW xs) rfl rfl rfl rfl rfl (ak zw (by decide)) (by decide) (Qn N ⟨rfl,rfl,by rw[aJ];exact bz zb (by decide)⟩ rfl hb h5 (GZ hm) hf hs9)) (j0 (abv rfl rfl rfl z9 rfl rfl hch) (j0 (anc rfl rfl rfl rfl e4) (j0 (ana rfl rfl rfl hm (Qe rfl (show 5<18 by decide) (by rw[lr];decide) h1 h2 h3 (by decide))) (j0 (amz rfl rfl hm z9) o9))))))
end
end
section
structure ChR (hd:Nat)(a:List (List Nat)×List Nat)(x:List Nat)(ls:List aM)(z:Nat)(ps:List (aM×aM)):Prop where
 ls:ls=a.1.map toS
 st:v6 ps=toS a.2
 sm:w7 ps=a.2.length
 la:∃qs f,ps=qs++ [(f,toS x)]∧cz f=az
 z:z=if a.1.length+1=1 then hd else 0
section
variable {n i l a w z hd:Nat}{ls:List aM}
theorem aP8:w7 (ps++ [(f,s)])=w7 ps+(f.length+s.length):=by delta w7;refine aD cC (aD List.sum_append ?_);rfl
theorem ax5 (s:aM):s.append mz=s:=by show adv (s.cps++ #[])=s;exact aD iB rfl
theorem QF (a b c:aM):(a.append b).append c=a.append (b.append c):=by show adv ((a.cps++b.cps)++c.cps)=adv (a.cps++(b.cps++c.cps));exact aD vV rfl
theorem aP9:∀ps:List (aM×aM),v6 (ps++ [(f,s)])=(v6 ps).append (f.append s):=by
 intro zz
 induction zz with
 | nil=>
  show(f.append s).append mz=mz.append (f.append s);rw[ax5];show _=adv (#[]++(f.append s).cps);exact aD vW rfl
 | cons p ps ih=>
  show(p.1.append p.2).append (v6 (ps++ [(f,s)]))=((p.1.append p.2).append (v6 ps)).append (f.append s);simp only[ih,QF (p.1.append p.2)]
theorem abx:cz spS=az:=by kernel_rfl
theorem ax6:cz ""=az:=by kernel_rfl
theorem ChR.ne (R:ChR hd fa y ls z ps):ps≠ []:=λq=>by exact exY R.la λqs f h _=>(nxD ((Ez.mp (h.symm.trans q)).2))
theorem ane (M:Mk H i l a w)(c:Cl lk H)(R:ChR hd fa y ls z ps)(zh:hd≤1000)(zs:fa.2.length+(x.length+1)≤1000)(zp:ps.length<400)(zl:ls.length<900)(ha:lk.contains a=aG)(hl:lk.contains l=aG):
  ∃tV z' vo,p8 gL (n+40) lk 135 [.ref i,.str spS,sV x] [] [] (lH H l a ls z ps)=ok .none (lH H l a tV z' vo)∧ChR hd (I9 hd w fa x) x tV z' vo∧vo.length≤ps.length+1∧tV.length≤ls.length+1:=by
 have s1:spS.length=1:=rfl;have sm:w7 (ps++ [(spS,toS x)])=fa.2.length+(1+x.length):=aD aP8 (aD R.sm (aD (N5 x) (aD s1 rfl)));have sz:Qh z (ps++ [(spS,toS x)]):=⟨by rw[R.z];split<;>first | exact zh | exact cL _,by refine aD sm ?_;exact ak (bM (congrArg _ (iM 1 _))) zs,by refine aD aA ?_;exact zp⟩;have hz:z+w7 (ps++ [(spS,toS x)])=fa.2.length+(if fa.1.length+1=1 then hd else 0)+1+x.length:=by refine aD sm (aD R.z ?_);rw[Nat.add_left_comm,gO,gO]
 delta I9;by_cases q:w<fa.2.length+(if fa.1.length+1=1 then hd else 0)+1+x.length
 ·rw[bG q]
  refine⟨ls++ [v6 ps],0, [(spS,toS x)],a06 M c sz R.ne (by rw[R.st,N5];exact ak (aQ _ _) zs) ha hl zl (by rw[hz];exact q),⟨?_, ?_, ?_,⟨[],spS,rfl,abx⟩, ?_⟩,jg 1 _,by refine aD aA ?_;exact aN _⟩
  ·refine aD R.ls (aD R.st (aD cC ?_));rfl
  ·show(spS.append (toS x)).append mz=_
   rw[ax5,show spS=toS [32] from GX,al9];rfl
  ·show(spS.length+(toS x).length)+0=x.length+1
   refine aD s1 (aD (N5 x) ?_);lia
  ·rw[bu (by refine aD aA ?_;exact zq _∘qi)]
 ·rw[bu q]
  refine⟨ls,z,ps++ [(spS,toS x)],Kh M sz ha (by rw[hz];exact q),⟨R.ls, ?_, ?_,⟨ps,spS,rfl,abx⟩,R.z⟩,by refine aD aA ?_;exact aN _,dC _⟩
  ·rw[aP9,R.st,show spS=toS [32] from GX,al9,al9,←aH]
  ·simp only[sm,aA,aA,gO];rfl
theorem a2m (M:Mk H i l a w)(c:Cl lk H)(zh:hd≤1000)(zs:x.length≤900)(ha:lk.contains a=aG)(hl:lk.contains l=aG):
  ∃tV z' vo,p8 gL (n+40) lk 135 [.ref i,.str "",sV x] [] [] (lH H l a [] hd [])=ok .none (lH H l a tV z' vo)∧ChR hd (O5 hd w x) x tV z' vo∧vo.length≤1∧tV.length≤1:=by
 have e0:("":aM)=toS []:=rfl;have sm:w7 [(("":aM),toS x)]=x.length:=by show(("":aM).length+(toS x).length)+0=x.length;refine aD (show(("":aM)).length=0 from by kernel_rfl) (aD (N5 x) ?_);lia
 have st:v6 [(("":aM),toS x)]=toS x:=by show(("":aM).append (toS x)).append mz=toS x;rw[ax5,e0,al9];rfl
 have sz:Qh hd ([(("":aM),toS x)]):=⟨zh,by refine aD sm ?_;exact ak zs (by decide),show 1≤400 by decide⟩;delta O5;by_cases q:w<hd+x.length
 ·by_cases q0:hd=0
  ·refine aD (bu λk=>k.1 q0) ?_
   subst q0;exact⟨[],0, [("",toS x)],Qj M sz ha (aD sm q),⟨rfl,st,sm,⟨[],"",rfl,ax6⟩,rfl⟩,aN _,cL _⟩
  ·refine aD (bG ⟨q0,q⟩) ?_
   refine⟨[]++ [("":aM)],0, [(spS,toS x)],Qk M c sz q0 ha hl (show 0<900 by decide) (aD sm q),⟨?_, ?_, ?_,⟨[],spS,rfl,abx⟩,rfl⟩,aN _,aN _⟩
   ·refine aD e0 ?_;rfl
   ·show(spS.append (toS x)).append mz=_
    rw[ax5,show spS=toS [32] from GX,al9];rfl
   ·show(spS.length+(toS x).length)+0=x.length+1
    refine aD (show spS.length=1 from by kernel_rfl) (aD (N5 x) ?_);lia
 ·refine aD (bu λk=>q k.2) ?_
  exact⟨[],hd, [("",toS x)],Kh M sz ha (aD sm q),⟨rfl,st,sm,⟨[],"",rfl,ax6⟩,rfl⟩,aN _,cL _⟩
end
end
noncomputable def zV:List Nat->Bool
 | a::b::r=>Nat.ble a b&&zV (b::r)
 | _=>az
noncomputable def kF:Nat->List Nat->List Nat->Nat->Option (List Nat×List Nat)
 | 0,_,_,_=>aC
 | k+1,K,W,s=>if (zV W&&(uW W s==rW W s&&W.getD (rW W s) 0==W.getD s 0))=az then(if rW W s=8 then aa (qP K s (rW W s),wN W (rW W s)) else kF k (qP K s (rW W s)) (wN W (rW W s)) (Cp (qP K s (rW W s)) (rW W s))) else aC
noncomputable def U7 (x:Nat):List Nat->List Nat
 | []=> [x]
 | y::r=>if x≤y then x::y::r else y::U7 x r
noncomputable def aby (K W:List Nat):List Nat:=(K.zip W).filterMap λp=>if p.1<5 then aa p.2 else aC
noncomputable def qY (K W:List Nat):List Nat:=(aby K W).foldr U7 []
noncomputable def am2 (K W:List Nat):Nat:=(((K.zip W).zip (Z8 K)).map λp=>if p.1.1<5 then p.1.2*p.2 else 0).sum
noncomputable def stp (a:List Nat×List Nat):List (List Nat×List Nat):=(cD 9).filterMap λs=>if a.1.getD s 0<5 then kF 9 a.1 a.2 s else aC
noncomputable def dd:List (List Nat×List Nat)->List (List Nat×List Nat)
 | []=> []
 | a::r=>if (dd r).contains a then dd r else a::dd r
noncomputable def abz (a:List Nat×List Nat):Bool:=am2 a.1 a.2==DW (qY a.1 a.2)
noncomputable def good (a:List Nat×List Nat):Bool:=abz a&&(zV (qY a.1 a.2)&&(cD 9).all λs=> !(afb (a.1.getD s 0) 5) || (match kF 9 a.1 a.2 s with
 | none=>aG
 | some b=>(afb s 8&&(iter (P0 a.1) 8 (s, [])).1==8)&&((qY b.1 b.2==Dv (qY a.1 a.2) (a.2.getD s 0))&&(zV ((qY a.1 a.2).eraseIdx ((qY a.1 a.2).countP (·<a.2.getD s 0)))&&afb ((qY a.1 a.2).countP (·<a.2.getD s 0)) 5))))
noncomputable def chk:Nat->List (List Nat×List Nat)->Bool
 | 0,l=>l.all abz
 | k+1,l=>l.all good&&chk k (dd (l.flatMap stp))
noncomputable def fg (x:Nat):Nat:=if x<5 then 0 else x
theorem chk_0:chk 8 [(DQ.map fg,w0)]=az:=by kernel_rfl
section
section
variable {nd W K' W':List Nat}
theorem aDx:(fg x==5+k)=(x==5+k):=by
 delta fg;by_cases h:x<5
 ·rw[bG h,jc,beq_iff_eq,beq_iff_eq];exact iff_of_false (dh (bA (by decide) (aQ 5 k))) (dh (bA h (aQ 5 k)))
 ·rw[bu h]
theorem aca:Cp (nd.map fg) s=Cp nd s:=by delta Cp;rw[List.findIdx_map];exact congrArg (λp=>nd.findIdx p) (funext λx=>aDx)
theorem Ha:(nd.map fg).getD s 0=fg (nd.getD s 0):=by refine aD (dO) (aD (dO) (aD (eV) ?_));cases nd[s]?<;>rfl
theorem atq:qP (nd.map fg) s la=(qP nd s la).map fg:=by
 delta qP;by_cases h:la=s
 ·exact aD (bG h) (aD (bG h) rfl)
 ·refine aD (bu h) (aD (bu h) (aD Ha (aD Ha ?_)))
  exact aD Ex (aD Ex rfl)
theorem aD2:∀{l:List Nat},∀J:zV l=az,l.Pairwise (·≤·)
 | [],_=> .nil
 | [a],_=>Ed _ _
 | a::b::r,h=>by have hr:=aD2 (j5 h).2;have ab:=uO (j5 h).1;exact rz.mpr ⟨λx hx=>(aY.mp hx).elim (λq=>q▸ab) λq=>ak ab (List.rel_of_pairwise_cons hr q),hr⟩
end
end
section
structure Tr (nd W:List Nat)(bk:List (Nat×Nat))(c:Nat->Nat):Prop where
 N:Nd nd
 nn:∀i j y:Nat,∀J:nd[i]?=aa y,∀J:nd[j]?=aa y,i=j
 lw:W.length=9
 b5:∀p∈bk,p.1<5
 b9:∀p∈bk,p.2<9
 bf:∀t y:Nat,∀J:nd[t]?=aa y,∀J:y<5,bk.find? (λp=>p.1==y)=aa (y,t)
 wt:∀t y:Nat,∀J:nd[t]?=aa y,∀J:y<5,W.getD t 0=c y
noncomputable def inc (c:Nat->Nat)(x y:Nat):Nat:=if y=x then c y+1 else c y
section
variable {c:Nat->Nat}
theorem aK5:(Qp bk x s).find? (λp=>p.1==x)=aa (x,s):=by
 delta Qp;rw[ady,List.find?_eq_none.mpr λp hp=> ?_]
 ·simp only[Option.none_or]
  exact ud (beq_self_eq_true x)
 ·have:=(gG.mp hp).2
  intro q;replace this:=q▸this;exact rU this
theorem aS1 (h:y≠x)(e:bk.find? (λp=>p.1==y)=aa r):(Qp bk x s).find? (λp=>p.1==y)=aa r:=by
 refine aD (ady) (aD (List.find?_filter) ?_);have:(λp:Nat×Nat=>decide ((!(p.1==x))=az∧(p.1==y)=az))=λp=>p.1==y:=by
  funext p
  cases q:p.1==y with
  | false=>exact decide_eq_false λz=>rU z.2
  | true=>exact gJ ⟨by refine aD (beq_false_of_ne (λz=>h ((fG q).symm.trans z))) ?_;rfl,rfl⟩
 refine aD this (aD e ?_);rfl
theorem al0 (h:y≠x)(e:bk.find? (λp=>p.1==y)=aa r):(note bk x s).find? (λp=>p.1==y)=aa r:=by
 delta note
 split
 ·exact aS1 h e
 ·exact e
theorem ao5 (h:x<5):(note bk x s).find? (λp=>p.1==x)=aa (x,s):=by delta note;exact aD (bG h) aK5
set_option tactic.hygienic true in
theorem note_5 (h:∀p∈bk,p.1<5):∀p∈note bk x s,p.1<5:=λp hp=>by
 unfold note Qp at hp
 split at hp
 ·rename_i h5
  exact(cX.mp hp).elim (λq=>h p (gG.mp q).1) λq=>by refine aD (aP.mp q) ?_;exact h5
 ·exact h p hp
theorem note_9 (h:∀p∈bk,p.2<9)(hs:s<9):∀p∈note bk x s,p.2<9:=λp hp=>by
 unfold note Qp at hp
 split at hp
 ·exact(cX.mp hp).elim (λq=>h p (gG.mp q).1) λq=>by refine aD (aP.mp q) ?_;exact hs
 ·exact h p hp
theorem lt9 {l:List Nat}(h:l.length=9)(e:l[s]?=aa y):s<9:=h▸(aL.mp e).1
theorem ag6 {l:List Nat}(e:l[s]?=aa y):l.getD s 0=y:=by refine aD (dO) (aD e ?_);rfl
theorem aj0 (hs:nd[s]?=aa a)(hl:nd[la]?=aa b)(oA:la≠s)(e:(V3 nd s la a b)[t]?=aa y):(t=la∧y=a)∨(t=s∧y=b)∨(t≠s∧t≠la∧nd[t]?=aa y):=by
 unfold V3 at e;by_cases h1:t=la
 ·subst h1
  rw[bC (by refine aD bx ?_;exact(aL.mp hl).1)]at e;exact .inl ⟨rfl,(aq e).symm⟩
 ·rw[bH (Ne.symm h1)]at e
  by_cases h2:t=s
  ·subst h2
   rw[bC (aL.mp hs).1]at e;exact .inr (.inl ⟨rfl,(aq e).symm⟩)
  ·rw[bH (Ne.symm h2)]at e
   exact .inr (.inr ⟨h2,h1,e⟩)
theorem acb (h:t≠la):(wN W la).getD t 0=W.getD t 0:=aD (dO) (aD (bH (Ne.symm h)) (nF (dO) rfl))
theorem Ky (h:la<W.length):(wN W la).getD la 0=W.getD la 0+1:=by refine aD (dO) (aD (bC h) ?_);rfl
theorem aQ0:inc c x x=c x+1:=bG rfl
theorem aD3 (h:y≠x):inc c x y=c y:=bu h
theorem Tr.turn (R:Tr nd W bk c)(hx:nd[s]?=aa x)(hl:la<9)(hw:W.getD la 0=W.getD s 0):Tr (qP nd s la) (wN W la) (Qq bk nd s la) (inc c x)∧(qP nd s la)[la]?=aa x:=by
 have hb:=getD_at (R.N.len▸hl);have N':=R.N.swap (lt9 R.N.len hx) hl;unfold qP Qq;unfold qP at N';by_cases q:la=s
 ·subst q
  refine aD (bG rfl) (aD (bG rfl) ?_);refine⟨⟨R.N,R.nn,(aD bx R.lw),R.b5,R.b9,R.bf,λt y e h5=> ?_⟩,hx⟩;by_cases ht:t=la
  ·cases ht
   obtain rfl:y=x:=aq (e.symm.trans hx);exact aD (Ky (R.lw▸hl)) (aD aQ0 (aD (R.wt _ _ e h5) rfl))
  ·exact aD (acb ht) (aD (aD3 (λz:y=x=>ht (R.nn _ _ _ (z▸e) hx))) (aD (R.wt _ _ e h5) rfl))
 ·replace N':=(bu q)▸N'
  refine aD (bu q) (aD (bu q) ?_);rw[ag6 hx]at N'⊢;generalize nd.getD la 0=b at hb N'⊢;have hab:x≠b:=λz=>q (R.nn _ _ _ hb (z▸hx));refine⟨⟨N',λi j y e1 e2=> ?_,(aD bx R.lw),note_5 (note_5 R.b5),note_9 (note_9 R.b9 (lt9 R.N.len hx)) hl,λt y e h5=> ?_,λt y e h5=> ?_⟩, ?_⟩
  ·have n1:∀{t},∀J:t≠s,nd[t]?≠aa x:=λh z=>h (R.nn _ _ _ z hx)
   rcases aj0 hx hb q e1 with⟨rfl,rfl⟩ | ⟨rfl,rfl⟩ | ⟨a1,a2,a3⟩<;>rcases aj0 hx hb q e2 with⟨rfl,h⟩ | ⟨rfl,h⟩ | ⟨b1,b2,b3⟩
   ·rfl
   ·exact absurd h hab
   ·exact absurd b3 (n1 b1)
   ·exact absurd h.symm hab
   ·rfl
   ·exact absurd b3 ((λh z=>h (R.nn _ _ _ z hb)) b2)
   ·exact absurd (h▸a3) (n1 a1)
   ·exact absurd (h▸a3) ((λh z=>h (R.nn _ _ _ z hb)) a2)
   ·exact R.nn _ _ _ a3 b3
  ·rcases aj0 hx hb q e with⟨rfl,rfl⟩ | ⟨rfl,rfl⟩ | ⟨a1,a2,a3⟩
   ·exact ao5 h5
   ·exact al0 (Ne.symm hab) (ao5 h5)
   ·exact al0 (λz=>a1 (R.nn _ _ _ (z▸a3) hx)) (al0 (λz=>a2 (R.nn _ _ _ (z▸a3) hb)) (R.bf _ _ a3 h5))
  ·rcases aj0 hx hb q e with⟨rfl,rfl⟩ | ⟨rfl,rfl⟩ | ⟨a1,a2,a3⟩
   ·exact aD (Ky (R.lw▸hl)) (aD aQ0 (aD hw (aD (R.wt _ _ hx h5) rfl)))
   ·exact aD (acb (Ne.symm q)) (aD (aD3 (Ne.symm hab)) (nF hw (aD (R.wt _ _ hb h5) rfl)))
   ·exact aD (acb a2) (aD (aD3 (λz:y=x=>a1 (R.nn _ _ _ (z▸a3) hx))) (aD (R.wt _ _ a3 h5) rfl))
  ·delta V3
   exact bC (by rw[bx];exact(aL.mp hb).1)
theorem acd {p:Nat×Nat->Bool}(h:∀q,p q=az)(l:List (Nat×Nat)):l.filter p=l:=vL.mpr λq U=>h q
theorem aDy (R:Tr nd W bk c)(hx:nd[s]?=aa x)(hl:la<9):RT bk nd s la=Qq bk nd s la:=by
 have hb:=getD_at (R.N.len▸hl);unfold RT Qq qP;by_cases q:la=s
 ·exact aD (bG q) (aD (bG q) rfl)
 ·refine aD (bu q) (aD (bu q) (aD (bu q) (aD (ag6 hx) ?_)))
  generalize nd.getD la 0=b at hb;have e1:(V3 nd s la x b).getD la 0=x:=ag6 (bC (by refine aD bx ?_;exact(aL.mp hb).1));have e2:(V3 nd s la x b).getD s 0=b:=ag6 (by refine aD (bH q) ?_;exact bC (aL.mp hx).1);have em:X5 (V3 nd s la x b) s la=(if b<5 then[(b,s)] else[])++(if x<5 then[(x,la)] else[]):=by
   delta X5;refine aD tG (aD tG (aD e1 (aD e2 ?_)));by_cases h1:b<5
   ·by_cases h2:x<5
    ·rw[bG (gJ h1),bG (gJ h2),bG h1,bG h2]
     show[((V3 nd s la x b).getD s 0,s),((V3 nd s la x b).getD la 0,la)]=_;refine aD e1 (aD e2 ?_);rfl
    ·rw[bG (gJ h1),decide_eq_false h2,bG h1,bu h2]
     show[((V3 nd s la x b).getD s 0,s)]=_;refine aD e2 ?_;rfl
   ·by_cases h2:x<5
    ·rw[decide_eq_false h1,bG (gJ h2),bu h1,bG h2]
     show[((V3 nd s la x b).getD la 0,la)]=_;refine aD e1 ?_;rfl
    ·rw[decide_eq_false h1,decide_eq_false h2,bu h1,bu h2];rfl
  have cm:∀u v:Nat,(u==v)=(v==u):=λu v=>by rw[jc,beq_iff_eq,beq_iff_eq];exact eq_comm
  refine aD em ?_;unfold GQ note Qp;by_cases h1:b<5
  ·by_cases h2:x<5
   ·rw[bG h1,bG h2,bG h2,bG h1,kh,List.filter_filter,fY (by refine aD (beq_false_of_ne (Ne.symm (show x≠b from λz=>q (R.nn _ _ _ hb (z▸hx))))) ?_;rfl),List.filter_nil,aH]
    refine congrArg (·++_) (congrFun (congrArg rR (funext λp=> ?_)) bk);show(!(b==p.1 || (x==p.1 || aG)))=_;simp only[mY,Bool.not_or,cm b,cm x,Bool.and_comm]
   ·rw[bG h1,bu h2,bu h2,bG h1,bh]
    refine congrArg (·++_) (congrFun (congrArg rR (funext λp=> ?_)) bk);show(!(b==p.1 || aG))=_;simp only[mY,cm b]
  ·by_cases h2:x<5
   ·rw[bu h1,bG h2,bG h2,bu h1,nC]
    refine congrArg (·++_) (congrFun (congrArg rR (funext λp=> ?_)) bk);show(!(x==p.1 || aG))=_;simp only[mY,cm x]
   ·rw[bu h1,bu h2,bu h2,bu h1]
    rw[bh,bh];exact acd (λU=>rfl) bk
end
end
section
section
variable {c c':Nat->Nat}
theorem Tr.ext (R:Tr nd W bk c)(h:∀y,∀J:y<5,c y=c' y):Tr nd W bk c':=⟨R.N,R.nn,R.lw,R.b5,R.b9,R.bf,λt y e h5=>(R.wt t y e h5).trans (h y h5)⟩
theorem atr (N:Nd nd)(h:s<8):nd[Cp nd s]?=aa (5+s/2):=by refine lO (nY.mp (N.up h).1) λh1 h2 _=> ?_;exact aL.mpr ⟨h1,fG h2⟩
theorem ace:∀{k:Nat}{nd W:List Nat}{s x:Nat}{bk:List (Nat×Nat)}{c:Nat->Nat},∀J:Tr nd W bk c,∀J:nd[s]?=aa x,∀J:kF k (nd.map fg) W s=aa (K',W'),∃GC GD,am0 k nd W bk s=aa (GC,W',GD)∧GR k nd W bk s=aa (GC,W',GD)∧GC.map fg=K'∧Tr GC W' GD (inc c x)∧GD.length≤bk.length+2*k:=by
 intro zz
 induction zz with
 | zero=>
  intro _ _ _ _ _ _ _ _ h;exact iu h
 | succ k ih=>
  intro nd W s x bk c R hx h;replace h:(@ite _ _ _ (@ite _ _ _ _ (kF _ _ _ _)) aC)=_:=h;by_cases g:(zV W&&(uW W s==rW W s&&W.getD (rW W s) 0==W.getD s 0))=az
  ·replace h:=(bG g)▸h
   have g1:=j5 (j5 g).2;have l9:=(aaq R.lw (lt9 R.N.len hx)).1;refine nu (λR' hl=> ?_) (R.turn hx l9 (fG g1.2));have zb:=(GJ R.N (lt9 R.N.len hx) l9 λp hp=>dw (R.b5 p hp) (by decide)).2;show∃GC GD,(@ite _ _ _ (@ite _ _ _ _ (am0 _ _ _ _ _)) aC)=_∧(@ite _ _ _ _ (GR _ _ _ _ _))=_∧_;refine aD (bG (aD2 (j5 g).1)) (aD (fG g1.1) (aD (aDy R hx l9) ?_));by_cases q:rW W s=8
   ·rw[bG q]at h⊢
    refine aD (bG q) ?_;obtain⟨rfl,rfl⟩:=jQ (aq h);exact⟨_,_,rfl,rfl,atq.symm,R',by lia⟩
   ·rw[bu q]at h⊢
    refine aD (bu q) ?_;rw[atq,aca]at h;refine qm λY Z=> ?_;obtain⟨GC,GD,e1,e2,e3,e4,e5⟩:=ih R' (atr R'.N (nR (dF l9) q)) h;exact Z ⟨GC,GD,e1,e2,e3,e4.ext λy h5=>aD3 (by lia),by lia⟩
  ·replace h:=(bu g)▸h;exact iu h
theorem anf:∀k a,iter (P0 (nd.map fg)) k a=iter (P0 nd) k a:=λk a=>by
 have:P0 (nd.map fg)=P0 nd:=by
  funext a
  delta P0;exact aD aca rfl
 exact aD this rfl
theorem acf (N:Nd nd):∀k a,∀J:Pth nd t a.1 a.2,Pth nd t (iter (P0 nd) k a).1 (iter (P0 nd) k a).2:=by
 intro zz
 induction zz with
 | zero=>
  intro _ p;exact p
 | succ k ih=>
  rintro⟨s,w⟩ p;refine ih _ ?_;delta P0;by_cases h:s<8
  ·rw[bG h]
   refine .a1a _ _ _ _ (atr N h) (aQ _ _) (lY _ (by decide)) ?_;rw[tU,Nat.div_add_mod];exact p
  ·rw[bu h];exact p
theorem Kz:∀{s:Nat}{w:List Nat},∀J:Pth nd t s w,∀x∈w,x=48∨x=49
 | _,_,.leaf ..,_,h=>Cv h
 | _,_,.a1a s x c w _ _ hc k,y,h=>(aY.mp h).elim (λq=>q▸(adx (dF hc)).elim (λz=> .inl (congrArg (48+·) (Nat.lt_one_iff.mp z))) λz=> .inr (congrArg (48+·) z)) λq=>Kz k y q
theorem acg:∀k a,(iter (P0 nd) k a).2.length≤a.2.length+k:=by
 intro zz
 induction zz with
 | zero=>
  intro _;exact aN _
 | succ k ih=>
  intro a;refine ak (ih _) ?_;delta P0
  split
  ·show a.2.length+1+k≤_;lia
  ·exact dC _
theorem ang:∀k a,a.2.length≤(iter (P0 nd) k a).2.length:=by
 intro zz
 induction zz with
 | zero=>
  intro _;exact aN _
 | succ k ih=>
  intro a;refine ak ?_ (ih _);delta P0
  split
  ·exact dC _
  ·exact aN _
theorem ach (h:s<8):∀k,∀J:0<k,0<(iter (P0 nd) k (s, [])).2.length
 | k+1,_=>bA (by refine aD (show P0 nd (s, [])=(Cp nd s, [48+s % 2]) from bG h) ?_;exact fB _) (ang k _)
theorem anh (h:s<8):R2 nd s≠ []:=λq=>by have:=ach (nd:=nd) h 8 (by decide);unfold R2 at q;rw[q]at this;exact eX 0 this
theorem ani (N:Nd nd)(hx:nd[s]?=aa x)(h5:x<5)(h:(iter (P0 (nd.map fg)) 8 (s, [])).1=8):Pth nd s 8 (R2 nd s)∧(R2 nd s).length≤8∧∀y∈R2 nd s,y=48∨y=49:=by rw[anf]at h;have p:=acf N 8 (s, []) (.leaf x hx h5);simp only[h]at p;exact⟨p,ak (acg 8 (s, [])) (aN 8),Kz p⟩
end
end
section
section
variable {c c':Nat->Nat}
theorem Y0 (h:u≤v):U7 u (v::l)=u::v::l:=bG h
theorem V4 (h:¬u≤v):U7 u (v::l)=v::U7 u l:=bu h
theorem aci (a b:Nat):∀l:List Nat,U7 a (U7 b l)=U7 b (U7 a l):=by
 intro zz
 induction zz with
 | nil=>
  show U7 a [b]=U7 b [a];by_cases h:a≤b
  ·by_cases g:b≤a
   ·rw[gZ h g]
   ·rw[Y0 h,V4 g];rfl
  ·refine aD (V4 h) (aD (Y0 (apb h)) ?_);rfl
 | cons y r ih=>
  by_cases ha:a≤y
  ·by_cases hb:b≤y
   ·rw[Y0 ha,Y0 hb]
    by_cases h:a≤b
    ·by_cases g:b≤a
     ·exact aD (gZ h g) rfl
     ·exact aD (Y0 h) (aD (V4 g) (aD (Y0 hb) rfl))
    ·exact aD (V4 h) (aD (Y0 (apb h)) (aD (Y0 ha) rfl))
   ·rw[Y0 ha,V4 hb,Y0 ha,V4 (λq=>hb (ak q ha)),V4 hb]
  ·by_cases hb:b≤y
   ·rw[Y0 hb,V4 ha,V4 (λq=>ha (ak q hb)),V4 ha,Y0 hb]
   ·rw[V4 ha,V4 hb,V4 ha,V4 hb,ih]
theorem QG {l m:List Nat}(h:l.Perm m):l.foldr U7 []=m.foldr U7 []:=h.foldr_eq' (λx U y U z=>aci y x z) []
theorem Hb:U7 x (y::r)=if x≤y then x::y::r else y::U7 x r:=rfl
theorem acj (x:Nat):∀l:List Nat,al2 (x:Int) (l.map λ(n:Nat)=>(n:Int))=(U7 x l).map λ(n:Nat)=>(n:Int):=by
 intro zz
 induction zz with
 | nil=>
  exact rfl
 | cons y r ih=>
  simp only[bV,Fb,Hb];by_cases h:x≤y
  ·rw[bG h,bG (du.mpr h)];rfl
  ·rw[bu h,bu (λq=>h (du.mp q)),ih];rfl
theorem QH:∀l:List Nat,ab3 (l.map λ(n:Nat)=>(n:Int))=(l.foldr U7 []).map λ(n:Nat)=>(n:Int):=by
 intro zz
 induction zz with
 | nil=>
  exact rfl
 | cons x r ih=>
  show al2 (x:Int) (ab3 (r.map λ(n:Nat)=>(n:Int)))=_;exact aD ih (acj x _)
theorem anj:∀(l m:List Nat),∀J:l.Nodup,∀J:(∀x∈l,x∈m),∀J:m.length=l.length,l.Perm m:=by
 intro zz
 induction zz with
 | nil=>
  intro m _ _ h;rw[eZ h]
 | cons a l ih=>
  intro m hn hs h;have hn:=gF.mp hn;refine((ih (m.erase a) hn.2 (λx hx=>(List.mem_erase_of_ne λq:x=a=>hn.1 (q▸hx)).mpr (hs x (.tail _ hx))) ?_).cons a).trans (List.perm_cons_erase (hs a (.head _))).symm;refine aD (List.length_erase_of_mem (hs a (.head _))) (aD h ?_);rfl
theorem Tr.perm (R:Tr nd W bk c):nd.Perm (cD 9):=by refine anj _ _ (rG.mpr λi j hi hj hij e=> ?_) (λx hx=>dK.mpr (R.N.lt x hx)) (aD oN (aD R.N.len rfl));exact dh hij (R.nn i j _ (bD hi) (e▸bD hj))
theorem KC:fg x<5↔x<5:=by
 delta fg;by_cases h:x<5
 ·rw[bG h];exact⟨λU=>h,λU=>by decide⟩
 ·rw[bu h]
theorem KD:∀{nd W:List Nat},∀J:nd.length=W.length,∀J:(∀t y:Nat,∀J:nd[t]?=aa y,∀J:y<5,W.getD t 0=c y),aby (nd.map fg) W=(nd.filter λy=>decide (y<5)).map c
 | [],_,_,_=>rfl
 | x::nd, [],h,_=>nxY h
 | x::nd,v::W,h,hw=>by
  have ih:=KD (qi h) λt y e=>hw (t+1) y e;unfold aby at ih⊢;refine aD bV (aD wH ?_);by_cases q:x<5
  ·refine aD (cP (a:=(fg x,v)) (bG (KC.mpr q))) (aD (fY (a:=x) (gJ q)) (aD ih (aD bV (nF (hw 0 x rfl q) ?_))));rfl
  ·exact aD (dm (a:=(fg x,v)) (bu λz=>q (KC.mp z))) (aD (eQ (a:=x) (λz=>q (fH z))) (aD ih rfl))
theorem aF7 (R:Tr nd W bk (cN xs)):qY (nd.map fg) W=(Ks xs).foldr U7 []:=by delta qY;exact aD (KD (by exact aD R.N.len (aD R.lw rfl)) R.wt) (QG ((R.perm.filter _).map _))
theorem aF8 (R:Tr nd W bk (cN xs)):ab3 ((Ks xs).map λ(n:Nat)=>(n:Int))=(qY (nd.map fg) W).map λ(n:Nat)=>(n:Int):=by simp only[aF7 R,QH]
theorem ank (x:Nat):∀l:List Nat,(U7 x l).length=l.length+1:=by
 intro zz
 induction zz with
 | nil=>
  exact rfl
 | cons y r ih=>
  simp only[Hb]
  split
  ·rfl
  ·refine aD cW (aD ih ?_);rfl
theorem ack:∀l:List Nat,(l.foldr U7 []).length=l.length:=by
 intro zz
 induction zz with
 | nil=>
  exact rfl
 | cons x r ih=>
  exact(ank x _).trans (congrArg (·+1) (ih))
theorem anl:∀{l:List Nat},∀J:y∈U7 x l,y=x∨y∈l:=by
 intro zz
 induction zz with
 | nil=>
  intro h;exact .inl (aP.mp h)
 | cons z r ih=>
  intro h;simp only[Hb]at h
  split at h
  ·exact aY.mp h
  ·exact(aY.mp h).elim (λq=> .inr (q▸ .head _)) λq=>(ih q).imp id λq=> .tail _ q
theorem acn:∀{l:List Nat},∀J:y∈l.foldr U7 [],y∈l:=by
 intro zz
 induction zz with
 | nil=>
  intro h;exact Cv h
 | cons x r ih=>
  intro h;exact(anl h).elim (λq=>q▸ .head _) λq=> .tail _ (ih q)
theorem atu (R:Tr nd W bk (cN xs))(zx:xs.length≤900):∀x∈qY (nd.map fg) W,x≤1000:=λx hx=>by replace hx:=(aF7 R)▸hx;obtain⟨i,_,rfl⟩:=dq.mp (acn hx);have:=Lk (a:=i) (l:=xs);exact ak (bK (ak this zx) 1) (by decide)
theorem Hc (R:Tr nd W bk (cN xs)):(qY (nd.map fg) W).length=5:=by rw[aF7 R,ack];rfl
theorem KH {D cs:List Nat}:∀{nd W d:List Nat}{k:Nat},∀J:nd.length=W.length,∀J:D.drop k=d,∀J:nd.length=d.length,∀J:(∀t y:Nat,∀J:nd[t]?=aa y,∀J:y<5,W.getD t 0=cs.getD y 0),(((nd.zipIdx k).filter λp=>decide (p.1<5)).map λp=>cs.getD p.1 0*D.getD p.2 0).sum=((((nd.map fg).zip W).zip d).map λp=>if p.1.1<5 then p.1.2*p.2 else 0).sum
 | [],_,_,_,_,_,_,_=>rfl
 | x::nd, [],_,_,h,_,_,_=>nxY h
 | x::nd,v::W, [],_,_,_,h,_=>nxY h
 | x::nd,v::W,e::d,k,h1,h2,h3,hw=>by
  have he:D.getD k 0=e:=by
   have:(D.drop k)[0]?=aa e:=by refine aD h2 ?_;rfl
   rw[rA]at this;exact ag6 this
  simp only[List.zipIdx_cons,bV,wH,wH,bV,jk,←(KH (qi h1) (show D.drop (k+1)=d from by refine nF auo (aD h2 ?_);rfl) (qi h3) λt y e=>hw (t+1) y e)];by_cases q:x<5
  ·refine aD (fY (a:=(x,k)) (gJ q)) (aD bV (aD jk (aD (bG (KC.mpr q)) (aD he (nF (hw 0 x rfl q) ?_)))));rfl
  ·refine aD (eQ (a:=(x,k)) (λz=>q (fH z))) ?_;rw[bu (λz=>q (KC.mp z)),kW]
theorem anm:Z8 (nd.map fg)=Z8 nd:=by
 have:af1 (nd.map fg)=af1 nd:=by
  funext d s
  delta af1;exact aD aca rfl
 delta Z8;exact aD this rfl
theorem aDz (h:y<5):(Ks xs).getD y 0=cN xs y:=ag6 (by refine aD (eV) (aD (Rn h) ?_);rfl)
theorem KJ (R:Tr nd W bk (cN xs)):(ah1 nd (Ks xs) (Z8 nd)).sum=am2 (nd.map fg) W:=by unfold ah1 am2;simp only[anm];exact KH (aD R.N.len (aD R.lw rfl)) rfl (by refine aD R.N.len ?_;exact(aP4 downs d0).symm) λt y e h=>(R.wt t y e h).trans (aDz h).symm
set_option tactic.hygienic true in
theorem a2p:∀{l:List (List Nat×List Nat)}{a:List Nat×List Nat},∀J:a∈l,a∈dd l:=by
 intro zz
 induction zz with
 | nil=>intros;contradiction
 | cons b r ih=>
  intro a h;show a∈if (dd r).contains b then dd r else b::dd r
  split
  ·rename_i hc
   exact(aY.mp h).elim (λq=>q▸dj.mp hc) ih
  ·exact(aY.mp h).elim (λq=>q▸ .head _) λq=> .tail _ (ih q)
inductive Ok (k:Nat)(K W:List Nat):Prop
 | mk (l:List (List Nat×List Nat)) (h:chk k l=az) (m:(K,W)∈l)
theorem Ok.good (h:Ok (k+1) K W):X2.good (K,W)=az:=h.rec λl h m=>bF.mp (j5 h).1 _ m
theorem Ok.sound:∀{k:Nat},∀J:Ok k K W,am2 K W=DW (qY K W):=by
 intro zz;cases zz with
 | zero=>
  intro h;exact h.rec λl h m=>fG (bF.mp h _ m)
 | succ k=>
  intro h;exact fG (j5 h.good).1
structure Nx (k:Nat)(K W:List Nat)(s:Nat)(K' W':List Nat):Prop where
 e:kF 9 K W s=aa (K',W')
 up:(iter (P0 K) 8 (s, [])).1=8
 s8:s<8
 rk:qY K' W'=Dv (qY K W) (W.getD s 0)
 er:zV ((qY K W).eraseIdx ((qY K W).countP (·<W.getD s 0)))=az
 lt:(qY K W).countP (·<W.getD s 0)<5
 ok:Ok k K' W'
theorem Ok.next (h:Ok (k+1) K W)(hs:s<9)(h5:K.getD s 0<5):zV (qY K W)=az∧∃K' W',Nx k K W s K' W':=by
 have g:=j5 (j5 h.good).2;refine⟨g.1, ?_⟩;have g2:=(dJ.mp (bF.mp g.2 s (dK.mpr hs))).resolve_left λq=>by replace q:=(Ce.mpr h5)▸q;exact rU q
 cases e:kF 9 K W s with
 | none=>replace g2:=e▸g2;exact rU g2
 | some b=>
  rw[e]at g2;have g3:=j5 g2;refine⟨b.1,b.2,e,fG (j5 g3.1).2,Ce.mp (j5 g3.1).1,fG (j5 g3.2).1,(j5 (j5 g3.2).2).1,Ce.mp (j5 (j5 g3.2).2).2, ?_⟩;obtain⟨l,hc,m⟩:=h;exact⟨dd (l.flatMap stp),(j5 hc).2,a2p (List.mem_flatMap.mpr ⟨_,m,ru.mpr ⟨s,dK.mpr hs,by rw[bG h5];exact e⟩⟩)⟩
end
end
noncomputable abbrev Tree:=List Nat×List Nat×List (Nat×Nat)
structure xn (jH:List Nat)(t:Tree)(x s:Nat)(r:Tree):Prop where
 R:Tr t.1 t.2.1 t.2.2 (cN jH)
 hx:t.1[s]?=aa x
 h5:x<5
 g:am0 9 t.1 t.2.1 t.2.2 s=aa r
 f:GR 9 t.1 t.2.1 t.2.2 s=aa r
 p:Pth t.1 s 8 (R2 t.1 s)
 l8:(R2 t.1 s).length≤8
 w0:R2 t.1 s≠ []
 bit:∀y∈R2 t.1 s,y=48∨y=49
 so:am2 (t.1.map fg) t.2.1=DW (qY (t.1.map fg) t.2.1)
 s1:zV (qY (t.1.map fg) t.2.1)=az
 er:zV ((qY (t.1.map fg) t.2.1).eraseIdx ((qY (t.1.map fg) t.2.1).countP (·<cN jH x)))=az
 lt:(qY (t.1.map fg) t.2.1).countP (·<cN jH x)<5
 rk:qY (r.1.map fg) r.2.1=Dv (qY (t.1.map fg) t.2.1) (cN jH x)
 zb:r.2.2.length≤t.2.2.length+18
inductive Run:List Nat->Tree->List Nat->List (List Nat)->Tree->Prop
 | nil (jH:List Nat) (t:Tree) (R:Tr t.1 t.2.1 t.2.2 (cN jH)) (so:am2 (t.1.map fg) t.2.1=DW (qY (t.1.map fg) t.2.1)):Run jH t [] [] t
 | cons (jH:List Nat) (t:Tree) (x s:Nat) (r:Tree) (xs:List Nat) (ws:List (List Nat)) (t':Tree) (S:xn jH t x s r) (k:Run (jH++ [x]) r xs ws t'):Run jH t (x::xs) (R2 t.1 s::ws) t'
theorem ano:inc (cN jH) x=cN (jH++ [x]):=by
 funext y
 unfold inc cN;refine aD List.count_append (aD List.count_singleton ?_);by_cases h:y=x
 ·refine aD (bG h) (aD h (aD (bG (beq_self_eq_true x)) ?_));rfl
 ·refine aD (bu h) (aD (bu (λq=>h (fG q).symm)) ?_);rfl
theorem anp {c:Nat->Nat}(R:Tr nd W bk c)(h:x<9):∃s:Nat,nd[s]?=aa x:=lB.mp (R.perm.mem_iff.mpr (dK.mpr h))
theorem ar0:∀{xs jH:List Nat}{t:Tree}{k:Nat},∀J:Ok k (t.1.map fg) t.2.1,∀J:Tr t.1 t.2.1 t.2.2 (cN jH),∀J:xs.length≤k,∀J:(∀x∈xs,x<5),∃ws t',Run jH t xs ws t'
 | [],jH,t,k,o,R,_,_=>⟨[],t,.nil jH t R o.sound⟩
 | x::xs,jH,t,0,_,_,h,_=>nxL h
 | x::xs,jH,t,k+1,o,R,h,hx=>by have h5:=hx x (.head _);refine qm λY Z=> ?_;obtain⟨s,hs⟩:=anp R (dw h5 (by decide));obtain⟨s1,K',W',X⟩:=o.next (lt9 R.N.len hs) (by refine aD (show(t.1.map fg).getD s 0=0 from by refine aD Ha (aD (ag6 hs) ?_);exact bG h5) ?_;decide);obtain⟨GC,GD,e1,e2,e3,e4,e5⟩:=ace R hs X.e;refine Z ?_;refine Be (ani R.N hs h5 X.up) λp1 p2 p3=> ?_;have x1:=X.rk;have x2:=X.er;have x3:=X.lt;rw[(R.wt _ _ hs h5)]at x1 x2 x3;simp only[ano]at e4;subst e3;exact exX (ar0 X.ok e4 (uC h) λy hy=>hx y (.tail _ hy)) λws t' k'=>⟨_,t',.cons jH t x s (GC,W',GD) xs ws t' ⟨R,hs,h5,e1,e2,p1,p2,anh X.s8,p3,o.sound,s1,x2,x3,x1,e5⟩ k'⟩
noncomputable def t0:Tree:=(DQ,w0,Ej)
theorem nn0:((cD 9).all λt=>(DQ[t]?==aa t)&&(!(afb t 5) || ((Ej.find? (λp=>p.1==t)==aa (t,t))&&(w0.getD t 0==1))))=az:=rfl
theorem au1 (e:DQ[t]?=aa y):t<9∧y=t:=by have h:=(aL.mp e).1;have:=fG (j5 (R1 nn0 h)).1;exact⟨h,aq (e.symm.trans this)⟩
theorem atv (h:t<5):Ej.find? (λp=>p.1==t)=aa (t,t)∧w0.getD t 0=1:=by
 have:=(dJ.mp (j5 (R1 nn0 (dw h (by decide:5<9)))).2).resolve_left λq=>by replace q:=(Ce.mpr h)▸q;exact rU q
 exact⟨fG (j5 this).1,fG (j5 this).2⟩
theorem a2q:Nd DQ:=⟨λx hx=>by
 obtain⟨t,ht⟩:=lB.mp hx;have:=au1 ht;refine aD this.2 ?_;exact this.1,rfl,λk hk=>by
 refine aR (i:=5+k) ?_;exact fG (d7 (R1 nn0 (wj hk 5)))⟩
theorem tr0:Tr DQ w0 Ej (cN []) where
 N:=a2q
 nn:=λi j y e1 e2=>(au1 e1).2.symm.trans (au1 e2).2
 lw:=rfl
 b5:=λp hp=>by obtain⟨i,hi,rfl⟩:=dq.mp hp;exact dK.mp hi
 b9:=λp hp=>by obtain⟨i,hi,rfl⟩:=dq.mp hp;exact dw (dK.mp hi) (by decide)
 bf:=λt y e h=>by rw[(au1 e).2]at h⊢;exact(atv h).1
 wt:=λt y e h=>by rw[(au1 e).2]at h;exact(atv h).2
theorem run_0 (h:xs.length≤8)(h5:∀x∈xs,x<5):∃ws t',Run [] t0 xs ws t':=ar0 ⟨_,chk_0,.head _⟩ tr0 h h5
theorem Run.tr (r:Run jH t xs ws t'):Tr t'.1 t'.2.1 t'.2.2 (cN (jH++xs))∧am2 (t'.1.map fg) t'.2.1=DW (qY (t'.1.map fg) t'.2.1):=by
 induction r with
 | nil jH t R so=>rw[bh];exact⟨R,so⟩
 | cons jH t x s r xs ws t' S k ih=>rw[aH]at ih;exact ih
theorem Run.bits (r:Run jH t xs ws t'):ws.length=xs.length∧∀w∈ws,w.length≤8∧w≠ []∧∀y∈w,y=48∨y=49:=by
 induction r with
 | nil=>exact⟨rfl,λU h=>Cv h⟩
 | cons jH t x s r xs ws t' S k ih=>exact⟨congrArg (·+1) ih.1,λw hw=>(aY.mp hw).elim (λq=>q▸⟨S.l8,S.w0,S.bit⟩) (ih.2 w)⟩
section
inductive Fst (hd w:Nat):List (List Nat)->List aM->Nat->List (aM×aM)->Prop
 | nil:Fst hd w [] [] hd []
 | cons (x:List Nat) (xs:List (List Nat)) (ls:List aM) (z:Nat) (ps:List (aM×aM)) (y:List Nat) (R:ChR hd (X6 hd w x xs) y ls z ps) (my:y∈x::xs) (b1:ps.length≤xs.length+1) (b2:ls.length≤xs.length+1) (b3:(X6 hd w x xs).2.length≤10+10*xs.length):Fst hd w (x::xs) ls z ps
section
theorem aco (F:Fst hd w ws ls z ps)(M:Mk H i l a w)(c:Cl lk H)(zh:hd≤10)(zx:x.length≤8)(zw:ws.length≤20)(ha:lk.contains a=aG)(hl:lk.contains l=aG):
  ∃tV z' vo,p8 gL (n+40) lk 135 [.ref i,.str (if ws= [] then("":aM) else(" ":aM)),sV x] [] [] (lH H l a ls z ps)=ok .none (lH H l a tV z' vo)∧Fst hd w (ws++ [x]) tV z' vo:=by
 cases F with
 | nil=>
  refine qm λY Z=> ?_;obtain⟨tV,z',vo,e,R,b1,b2⟩:=a2m M c (ak zh (by decide)) (ak zx (by decide)) ha hl;refine Z ?_;refine⟨tV,z',vo,e,.cons x [] tV z' vo x R (.head _) b1 b2 ?_⟩;show(O5 _ w x).2.length≤10;delta O5
  split
  ·exact cO (ak zx (by decide))
  ·exact ak zx (by decide)
 | cons y ys _ _ _ y' R my b1 b2 b3=>
  refine qm λY Z=> ?_;obtain⟨tV,z',vo,e,R',b1',b2'⟩:=ane M c R (ak zh (by decide)) (ak (gB (ak b3 (bK (vY 10 (pB zw)) 10)) (cO zx)) (by decide)) (bz (ak b1 zw) (by decide)) (bz (ak b2 zw) (by decide)) ha hl;refine Z ?_;have ef:X6 hd w y (ys++ [x])=I9 hd w (X6 hd w y ys) x:=by delta X6;refine aD List.foldl_append ?_;rfl
  have hlen:(ys++ [x]).length=ys.length+1:=aA;rw[←ef]at R';refine⟨tV,z',vo,e,.cons y (ys++ [x]) tV z' vo x R' (fQ (y::ys) (.head _)) (ak b1' (cO (ak b1 (bM hlen.symm)))) (ak b2' (cO (ak b2 (bM hlen.symm)))) ?_⟩;refine aD ef (aD hlen ?_);have:=(am1 (hd:=hd) (w:=w) (x:=x) (a:=X6 hd w y ys)).1;exact ak this (ak (gB b3 (cO zx)) (show 10+10*ys.length+9≤10+10*ys.length+10 from bK (by decide) _))
theorem atx:yU cs≤10:=ak (bR (lY _ (by decide))) (by decide)
theorem QJ {q:St->v7 Fl}(r:Run jH t xs QK t'):∀{ms:List Nat}{ws:List (List Nat)}{ls:List aM}{z:Nat}{ps:List (aM×aM)}{o:Option V},∀J:ms.map (· % 5)=xs,∀J:(∀m∈ms,m<10),∀J:ws.length=jH.length,∀J:jH.length+xs.length≤20,∀J:t.2.2.length+18*xs.length≤370,∀J:Fst (yU cs) (yu cs) ws ls z ps,∃o' tV z' vo,U5 (Q8 gL (n+45) [3,0] (.loc "sign") Zi) q (ms.map zU) ⟨LM cs o,tW jH,HM ns cs (qY (t.1.map fg) t.2.1) ws t.2.2 t.1 t.2.1 ls z ps⟩=q ⟨LM cs o',tW (jH++xs),HM ns cs (qY (t'.1.map fg) t'.2.1) (ws++QK) t'.2.2 t'.1 t'.2.1 tV z' vo⟩∧Fst (yU cs) (yu cs) (ws++QK) tV z' vo:=by
 induction r with
 | nil jH t R so=>
  intro ms ws ls z ps o h _ _ _ _ F;obtain rfl:=List.map_eq_nil_iff.mp h;exact⟨o,ls,z,ps,by rw[bh,bh];rfl,by rw[bh];exact F⟩
 | cons jH t x s r xs QK t' S k ih=>
  intro ms ws ls z ps o h h10 zw zs zb F;cases ms with
  | nil=>exact nxC h
  | cons m ms=>
   obtain⟨h1,hm⟩:=bI h;subst h1;have zs:=zs;have hl:(jH++ [m % 5]).length=jH.length+1:=aA;have R:=S.R;obtain⟨ls1,z1,ps1,e1,F1⟩:=aco (n:=n+3) (lk:= [3,0]) (H:=HM ns cs (qY (t.1.map fg) t.2.1) (ws++ [R2 t.1 s]) t.2.2 t.1 t.2.1 ls z ps) F abw (ax4 (by decide)) atx S.l8 (ak (bM zw) (ak (aQ _ _) zs)) (by decide) (by decide);have hc:(if ws= [] then("":aM) else(" ":aM))=if jH= [] then("":aM) else(" ":aM):=by
    by_cases q:ws= []
    ·subst q
     rw[bG rfl,bG (eZ zw.symm)]
    ·rw[bu q,bu (λq'=>q (eZ (by refine aD zw (aD q' ?_);rfl)))]
   rw[hc]at e1;have e:=QD (o:=o) (h10 m (.head _)) R.N R.lw (λp hp=>dw (R.b5 p hp) (by decide)) (ak (aQ _ _) zb) (R.bf _ _ S.hx S.h5) (lt9 R.N.len S.hx) (Hc R) (atu R (ak (ak (aQ _ _) zs) (by decide))) (ak (ak (aQ _ _) zs) (by decide)) (ak (ak (bM zw) (ak (aQ _ _) zs)) (by decide)) (aF8 R) ((KJ R).trans S.so) S.g (at8 (aD2 S.s1)) (at8 (aD2 S.er)) (aD (Hc R) S.lt) e1;rw[←S.rk]at e;refine qm λY Z=> ?_;obtain⟨o',tV,z',vo,e',F'⟩:=ih hm (λy hy=>h10 y (.tail _ hy)) (aA.trans ((congrArg (·+1) zw).trans hl.symm)) (ak (bM (congrArg (·+xs.length) hl)) (ak (bM (cB _ 1 _)) zs)) (ak (bB S.zb _) (ak (bM (cB _ 18 _)) zb)) F1;refine Z ?_;rw[aH,aH]at e';rw[aH]at F';exact⟨o',tV,z',vo,R0 e e',F'⟩
end
end
section
structure Rd (H:Hp)(n:Nat)(v:V)(d:wQ):Prop where
 py:V5 H n v=aa d
 sf:qK d d=az
structure zM (H:Hp)(n:Nat)(vs:List V)(ds:List wQ):Prop where
 py:vs.mapM (V5 H n)=aa ds
 sf:vD ds ds=az
section
variable {α:Type}
theorem au2:Rd H (n+1) (.int k) (.int k):=⟨rfl,beq_self_eq_true k⟩
theorem af2 (h:cz s=az):Rd H (n+1) (.str s) (.str s):=⟨m8 h rfl,beq_self_eq_true s⟩
theorem ah6:zM H n [] []:=⟨rfl,rfl⟩
theorem I8 (h:Rd H n v d)(k:zM H n vs ds):zM H n (v::vs) (d::ds):=⟨by refine aD oJ (aD h.py (aD k.py ?_));rfl,by simp only[vD,h.sf,k.sf];rfl⟩
theorem al1 {f:α->V}{g:α->wQ}:∀{l:List α},∀J:(∀x∈l,Rd H n (f x) (g x)),zM H n (l.map f) (l.map g):=by
 intro zz
 induction zz with
 | nil=>
  intro _;exact ah6
 | cons x l ih=>
  intro h;exact I8 (h x (.head _)) (ih λy hy=>h y (.tail _ hy))
theorem aD4 (h:zM H n vs ds):Rd H (n+1) (.tup vs) (.tuple ds):=⟨by show(vs.mapM (V5 H n)).map tE=_;refine aD h.py ?_;rfl,h.sf⟩
theorem R8 (hi:H[i]?=aa (.list vs))(h:zM H n vs ds):Rd H (n+1) (.ref i) (.list ds):=⟨f9 hi (f9 rfl (by refine aD h.py ?_;rfl)),h.sf⟩
theorem aEc (h:Rd H 8 v d)(k:Rd H 8 w d):Q5 H .Eq v w=aa az:=f9 h.py (f9 k.py (congrArg aa h.sf))
theorem acp (h:Rd H 8 v d)(k:Rd H 8 w d):Q5 H .NotEq v w=aa aG:=by show(Q5 H .Eq v w).map (!·)=_;refine aD (aEc h k) ?_;rfl
theorem KN (h:∀x∈l,x<1114112):cz (toS l)=az:=by show(l.toArray.all λx=>decide (x<1114112))=az;exact aD yE (bF.mpr λx hx=>gJ (h x hx))
theorem KQ (h:x<9):Rd H (n+1) (nT x) (.str (nm x)):=af2 (ag9 h).ok
theorem ant (h:∀x∈l,x<256):Rd H (n+1) (sV l) (.str (toS l)):=af2 (KN λx hx=>dw (h x hx) (by decide))
theorem KR (hi:H[i]?=aa (wO l)):Rd H (n+2) (.ref i) (.list (l.map λ(k:Nat)=>vK k)):=R8 hi (al1 λx U=>au2)
theorem KY (hi:H[i]?=aa (I6 ls))(h:∀l∈ls,∀x∈l,x<256):Rd H (n+2) (.ref i) (.list (ls.map λl=>zJ (toS l))):=R8 hi (al1 λl hl=>ant (h l hl))
theorem st_5 (r:Run [] t0 xs ws t')(hx:(By cs).map (· % 5)=xs)(h8:xs.length=8):
  ∃o' tV z' vo,iY gL (n+47) [0] s5 ⟨L4' cs,tW [],HM ns cs [1,1,1,1,1] [] Ej DQ w0 [] (yU cs) []⟩=fc .next ⟨LM cs o',tW xs,HM ns cs (qY (t'.1.map fg) t'.2.1) ws t'.2.2 t'.1 t'.2.1 tV z' vo⟩∧Fst (yU cs) (yu cs) ws tV z' vo:=by
 refine qm λY Z=> ?_;obtain⟨o',tV,z',vo,e,F⟩:=QJ (o:=aC) r hx (λm hm=>by
  obtain⟨c,_,rfl⟩:=dq.mp hm;exact lY _ (by decide)) rfl (by rw[h8];decide) (by rw[h8];decide) .nil
 exact Z ⟨o',tV,z',vo,W7 (au0 rfl rfl) e,F⟩
theorem st_6 {ws:List (List Nat)}{ls:List aM}{z:Nat}{ps:List (aM×aM)}{o:Option V}(R:Tr nd W bk (cN xs))(so:am2 (nd.map fg) W=DW (qY (nd.map fg) W))(zx:xs.length≤800):
  iY gL (n+24) [0] s6 ⟨LM cs o,tW xs,HM ns cs (qY (nd.map fg) W) ws bk nd W ls z ps⟩=fc .next ⟨LM cs o,tW xs,HM ns cs (qY (nd.map fg) W) ws bk nd W ls z ps⟩:=
 aP7 rfl rfl rfl (aD1 (ax4 (by decide)) R.N rfl rfl (Hc R) (atu R (ak zx (by decide))) (ak zx (by decide)) (aF8 R) ((KJ R).trans so))
end
end
section
noncomputable def U4 (hd w:Nat):List (List Nat)->List (List Nat)
 | []=> []
 | x::xs=>(X6 hd w x xs).1++ [(X6 hd w x xs).2]
noncomputable abbrev Hf (x:Nat):Bool:=decide (x≠32)
def Hg (x:List Nat):Prop:=∀y∈x,y=48∨y=49
def Row3 (x:List Nat):Prop:=∀y∈x,y=32∨y=48∨y=49
section
theorem Hg.row (h:Hg x):Row3 x:=λy hy=> .inr (h y hy)
theorem Row3.lt (h:Row3 x):∀y∈x,y<256:=λy hy=>by rcases h y hy with rfl | rfl | rfl<;>decide
theorem Row3.app (h:Row3 x)(k:Row3 y):Row3 (x++y):=λz hz=>(cX.mp hz).elim (h z) (k z)
theorem Hh:Row3 [32]:=λy hy=> .inl (aP.mp hy)
theorem am3 (h:Hg x):x.filter Hf=x:=vL.mpr λy hy=>by rcases h y hy with rfl | rfl<;>decide
theorem aA7:I9 hd w fa x=(fa.1++ [fa.2],32::x)∨I9 hd w fa x=(fa.1,fa.2++ [32]++x):=by
 delta I9;generalize fa.2.length+(if fa.1.length+1=1 then hd else 0)+1+x.length=k;by_cases q:w<k
 ·rw[bG q];exact .inl rfl
 ·rw[bu q];exact .inr rfl
theorem anu:∀(xs:List (List Nat))(fa:List (List Nat)×List Nat),∀J:(∀x∈xs,Hg x),∀J:(∀r∈fa.1++ [fa.2],Row3 r),(∀r∈(xs.foldl (I9 hd w) fa).1++ [(xs.foldl (I9 hd w) fa).2],Row3 r)∧((xs.foldl (I9 hd w) fa).1++ [(xs.foldl (I9 hd w) fa).2]).flatten.filter Hf=(fa.1++ [fa.2]).flatten.filter Hf++xs.flatten∧(xs.foldl (I9 hd w) fa).1.length≤fa.1.length+xs.length:=by
 intro zz
 induction zz with
 | nil=>
  intro fa _ h;exact⟨h,by simp only[jR,bh];rfl,aN _⟩
 | cons x xs ih=>
  intro fa hx h;have hb:=hx x (.head _);have e1:∀r∈(I9 hd w fa x).1++ [(I9 hd w fa x).2],Row3 r:=by
   rcases aA7 with e | e<;>refine aD e ?_
   ·exact λr hr=>(cX.mp hr).elim (h r) λq=>aP.mp q▸Hh.app hb.row
   ·exact λr hr=>(cX.mp hr).elim (λq=>h r (uZ _ q)) λq=>aP.mp q▸((h _ (fQ _ (.head _))).app Hh).app hb.row
  have e2:((I9 hd w fa x).1++ [(I9 hd w fa x).2]).flatten.filter Hf=(fa.1++ [fa.2]).flatten.filter Hf++x:=by
   rcases aA7 with e | e<;>refine aD e ?_
   ·rw[gh,kh]
    refine congrArg (rR Hf (fa.1++ [fa.2]).flatten++·) ?_;rw[dX,jR,bh,eQ (by decide),am3 hb]
   ·dsimp only
    simp only[gh,gh,kh,kh,aH (rR Hf fa.1.flatten)];refine congrArg (rR Hf fa.1.flatten++·) ?_;simp only[dX,jR,bh,dX,jR,bh,kh,kh,am3 hb,show[32].filter Hf= [] from by decide,bh]
  refine⟨(ih (I9 hd w fa x) (λy hy=>hx y (.tail _ hy)) e1).1,by simp only[gY,(ih (I9 hd w fa x) (λy hy=>hx y (.tail _ hy)) e1).2.1,e2,dX,aH], ?_⟩;have:=(am1 (hd:=hd) (w:=w) (x:=x) (a:=fa)).2;have:=(ih (I9 hd w fa x) (λy hy=>hx y (.tail _ hy)) e1).2.2;refine aD gY (aD cW ?_);lia
theorem anv:∀{ws:List (List Nat)},∀J:(∀x∈ws,Hg x),(∀r∈U4 hd w ws,Row3 r)∧(U4 hd w ws).flatten.filter Hf=ws.flatten∧(U4 hd w ws).length≤ws.length+1:=by
 intro zz;cases zz with
 | nil=>
  intro _;exact⟨λU h=>(Cv h),rfl,cL _⟩
 | cons x xs=>
  intro h;have hb:=h x (.head _);have h1:(∀r∈(O5 hd w x).1++ [(O5 hd w x).2],Row3 r)∧((O5 hd w x).1++ [(O5 hd w x).2]).flatten.filter Hf=x∧(O5 hd w x).1.length≤1:=by
   delta O5
   split
   ·refine⟨λr hr=> ?_, ?_,aN _⟩
    ·rcases aY.mp hr with rfl | hr
     ·exact λU q=>Cv q
     ·exact aP.mp hr▸Hh.app hb.row
    ·show(32::x++ []).filter Hf=x
     rw[bh,eQ (by decide),am3 hb]
   ·refine⟨λr hr=>aP.mp hr▸hb.row, ?_,cL _⟩
    show(x++ []).filter Hf=x;rw[bh,am3 hb]
  have:=anu (hd:=hd) (w:=w) xs (O5 hd w x) (λy hy=>h y (.tail _ hy)) h1.1;refine⟨this.1,by refine aD this.2.1 (aD h1.2.1 ?_);rfl, ?_⟩;exact aD aA (aD cW (aD cW (aD qw (cO (ak this.2.2 (ak (bB h1.2.2 _) (bM (iM 1 _))))))))
theorem QL:∀{l:List Nat}{c:Nat},∀J:c∈l,∀J:yj c=aG,nU (toS l)=aG:=λ{l c} h hc=>by show(_&&l.toArray.all yj)=aG;refine aD yE ?_;refine Ho.mpr (.inr (gR.mpr λq=> ?_));replace hc:=(bF.mp q c h)▸hc;exact Lp hc
theorem QM (h:c=48∨c=49):yj c=aG:=by rcases h with rfl | rfl<;>kernel_rfl
end
end
section
section
variable {n m z i l a w hd s:Nat}
theorem aQ1:(ls++ [x]).flatten.length=ls.flatten.length+x.length:=by simp only[gh,aA,dX,jR,bh]
theorem acq:∀(xs:List (List Nat))(fa:List (List Nat)×List Nat),∀J:(∀x∈xs,x.length≤8),((xs.foldl (I9 hd w) fa).1++ [(xs.foldl (I9 hd w) fa).2]).flatten.length≤(fa.1++ [fa.2]).flatten.length+9*xs.length:=by
 intro zz
 induction zz with
 | nil=>
  intro fa _;exact aN _
 | cons x xs ih=>
  intro fa h;have h8:=h x (.head _);have e:((I9 hd w fa x).1++ [(I9 hd w fa x).2]).flatten.length≤(fa.1++ [fa.2]).flatten.length+9:=by
   rcases aA7 with e | e<;>refine aD e ?_<;>dsimp only<;>refine aD aQ1 (aD aQ1 ?_)
   ·refine aD cW ?_;lia
   ·refine aD aA (aD aA (aD Hy ?_));lia
  exact aD gY (aD cW (ak (ih (I9 hd w fa x) λy hy=>h y (.tail _ hy)) (ak (bB e _) (bM (cB _ 9 _)))))
theorem acr:∀{ws:List (List Nat)},∀J:(∀x∈ws,x.length≤8),(U4 hd w ws).flatten.length≤9*ws.length:=by
 intro zz;cases zz with
 | nil=>
  intro _;exact aN _
 | cons x xs=>
  intro h;have h8:=h x (.head _);have e:((O5 hd w x).1++ [(O5 hd w x).2]).flatten.length≤9:=by
   delta O5
   split
   ·show(32::x++ []).length≤9
    simp only[bh,cW];exact cO (by assumption)
   ·show(x++ []).length≤9
    rw[bh];exact gq (by assumption)
  have:=acq (hd:=hd) (w:=w) xs (O5 hd w x) λy hy=>h y (.tail _ hy);exact aD cW (ak this (ak (bB e _) (bM (iM 9 _))))
theorem aD5 {c:Nat}:∀ls:List (List Nat),(rowsOf c ls).length≤ls.flatten.length+ls.length
 | []=>aN _
 | [x]=>by show x.length≤(x++ []).length+1;rw[bh];exact dC _
 | x::y::r=>by have:=aD5 (c:=c) (y::r);exact aD aA (aD aA (aD cW (ak (bK (cO this) _) (bM (gO x.length (y::r).flatten.length ((y::r).length+1)).symm))))
theorem aD6:∀{ls:List (List Nat)},∀J:d∈rowsOf c ls,d=c∨∃r∈ls,d∈r
 | [],h=>Cv h
 | [x],h=> .inr ⟨x,.head _,h⟩
 | x::y::r,h=>(cX.mp h).elim (λq=> .inr ⟨x,.head _,q⟩) λq=>(aY.mp q).elim .inl λq=>(aD6 q).imp id (by rintro⟨r,h1,h2⟩;exact⟨r,.tail _ h1,h2⟩)
theorem acs:∀{ls:List (List Nat)},∀J:x∈ls,x.length≤ls.flatten.length:=by
 intro zz
 induction zz with
 | nil=>intros;contradiction
 | cons y r ih=>
  intro h;exact aD dX (aD aA ((aY.mp h).elim (λq=>q▸aQ _ _) λq=>ak (ih q) (jg _ _)))
theorem a2s:("\n":aM)=toS [10]:=rfl
theorem anw:V7.contains ("split":aM)=az:=rfl
theorem anx (h:∀x∈t,x<256)(hc:cutAt 10 t=rs)(z1:t.length≤1000)(z2:rs.length≤1000):U8 r lk (.str (toS t)) ov ("split":aM) [.str "\n"] [] [] H=ok (.ref H.length) (H++ [I6 rs]):=by
 refine m8 rfl ?_;delta Lx;refine aD (bu (by decide+kernel)) (aD (bu (by decide+kernel)) ?_);refine f9 rfl ?_;refine aD (bu (by decide+kernel)) (aD (bG rfl) ?_);refine f9 rfl ?_;have hp:partsOf (toS t) (toS [10])=rs.map toS:=by delta partsOf;rw[aw6,N5 [10]];exact(aF4 10 t).trans (aD hc rfl)
 refine aD a2s ?_;refine m8 ?_ ?_
 ·refine aD hp (aD (O3 (by rw[N5];exact z1)) (aD (O3 (by rw[aJ];exact z2)) ?_));rfl
 ·refine aD (akr h (by decide)) (aD hc (aD cY ?_));rfl
theorem a2t (h:y≠ []):(toS y==("":aM))=aG:=by refine beq_eq_false_iff_ne.mpr λq=>h ?_;rw[show("":aM)=toS [] from by kernel_rfl]at q;exact aBk q
structure BJ (ws:List (List Nat)):Prop where
 len:ws.length=8
 w:∀x∈ws,x.length≤8∧x≠ []∧Hg x
theorem BJ.rows (h:BJ ws):(∀r∈U4 hd w ws,Row3 r)∧(U4 hd w ws).flatten.filter Hf=ws.flatten∧(U4 hd w ws).length≤9∧(U4 hd w ws).flatten.length≤72∧U4 hd w ws≠ []:=by
 have a:=anv (hd:=hd) (w:=w) λx hx=>(h.w x hx).2.2;have b:=acr (hd:=hd) (w:=w) λx hx=>(h.w x hx).1;rw[h.len]at a b;refine⟨a.1,a.2.1,a.2.2,b,λq=> ?_⟩;cases ws with
 | nil=>exact nxZ h.len
 | cons x xs=>exact nxD ((Ez.mp q).2)
theorem anz (F:Fst hd w ws ls z ps)(o:BJ ws)(M:Mk H i l a w)(c:Cl lk H)(zh:hd≤10)(ha:lk.contains a=aG)(hl:lk.contains l=aG):p8 gL (n+31) lk 100 [.ref i] [] [] (lH H l a ls z ps)=ok .none (lH H l a ((U4 hd w ws).map toS) 0 []):=by
 cases F with
 | nil=>exact nxZ o.len
 | cons x xs _ _ _ y R my b1 b2 b3=>
  obtain⟨qs,f,rfl,hf⟩:=R.la;have hlen:xs.length+1=8:=o.len;have hy:=o.w y my;have hn:=Rp.mpr hy.2.1;have e1:=R.st;have e2:=R.sm;rw[aP9]at e1;rw[aP8,N5]at e2;have hm:∃c∈y,c=48∨c=49:=by obtain⟨c,hc⟩:=List.exists_mem_of_ne_nil y hy.2.1;exact⟨c,hc,hy.2.2 c hc⟩
  refine lO hm λc0 hc0 hb0=> ?_;have uE:c0∈(X6 hd w x xs).2:=by have:=congrArg (λs:aM=>s.cps.toList) e1;exact nF (show(((v6 qs).append (f.append (toS y))).cps).toList=(X6 hd w x xs).2 from this) (aD dH (aD dH (fQ _ (fQ _ hc0))))
  have zz:z≤10:=by refine aD R.z ?_;split<;>first | exact zh | exact cL _
  have e:=aae (n:=n) M c ⟨⟨ak (by assumption) (by decide),by refine aD R.sm ?_;lia,ak b1 (ak (bM hlen) (by decide))⟩,by simp only[R.st,N5];lia⟩ hf (KN λx hx=>dw (hy.2.2.row.lt x hx) (by decide)) (by refine aD (a2t hy.2.1) ?_;rw[jq]) (by refine aD R.sm ?_;exact bA (EY uE) (jg _ _)) (.inr ⟨by refine aD R.sm ?_;exact qT (EY uE),(by refine aD R.st ?_;exact QL uE (QM hb0))⟩) hl ha (bz b2 (bz (bM hlen) (by decide)));rw[R.st]at e;have e3:ls++ [toS (X6 hd w x xs).2]=(U4 hd w (x::xs)).map toS:=by refine aD R.ls ?_;refine aD cC ?_;rfl
  rw[e3]at e;exact e
theorem st_7 {L:j8}(F:Fst (yU cs) (yu cs) ws ls z ps)(o:BJ ws)(hm:L.lookup ("maker":aM)=aa (.ref 15)):
  iY gL (n+40) [0] s7 ⟨L,C,HM ns cs rk ws bk nd W ls z ps⟩=fc .next ⟨upd L "rows" (.ref 18),C,HM ns cs rk ws bk nd W ((U4 (yU cs) (yu cs) ws).map toS) 0 []++ [I6 (U4 (yU cs) (yu cs) ws)]⟩:=by
 have e:=anz (n:=n+3) (lk:= [0]) (H:=HM ns cs rk ws bk nd W ls z ps) F o abw (ax4 (by decide)) atx (by decide) (by decide);refine qm λY Z=> ?_;obtain⟨r1,r2,r3,r4,r5⟩:=o.rows;refine Z ?_;have hs:(((U4 (yU cs) (yu cs) ws).map toS).map (·.length)).sum=(U4 (yU cs) (yu cs) ws).flatten.length:=by exact aD cY (aD qG (congrArg aus (gU λx U=>N5 x)))
 have es:=aaf (sep:="\n") (lks:= []) (abw) e (by
  simp only[hs,aJ,show(("\n":aM)).length=1 from by kernel_rfl];exact ak (gB r4 (Nat.mul_le_mul_right 1 r3)) (by decide))
 rw[a2s,join_rows,←a2s]at es;have rl:=aD5 (c:=10) (U4 (yU cs) (yu cs) ws);exact t6 (t7 (t7 (d9 hm) (O6 rfl aCj) (c7 j4 d8) d8 es) (O4 anw) (c7 j4 d8) d8 (anx (λd hd=>(aD6 hd).elim (λq=>q▸by decide) (by rintro⟨r,h1,h2⟩;exact(r1 r h1).lt d h2)) (aO3 _ r5 λr hr q=>by rcases r1 r hr 10 q with h | h | h<;>cases h) (by lia) (ak (by assumption) (by decide)))) n7
end
end
section
noncomputable def HQ (ns:List Int)(cs rk:List Nat)(ws:List (List Nat))(hp pl:List (aM×aM))(er:List aM)(bk:List (Nat×Nat))(nd W:List Nat)(ls:List aM):Hp:=
 [scO ns,wO cs,wO (cs.take 8),.list ((By cs).map zU),wO [1],wO rk,I6 ws,Ek 8,.list (hp.map pV),mX 1 pl,.list (er.map V.str),Bx bk,yt nd,wO W,Ek 11,.inst 138 (Kf (yu cs) 16 17),.list (ls.map V.str),mX 0 []]
noncomputable abbrev zW (r:List Nat):aM×aM:=("Code",toS r)
noncomputable def rwE (o:Option V):j8:=Gz "row" o
section
variable {hp hp' pl pl':List (aM×aM)}
theorem atz:(HQ ns cs rk ws hp pl er bk nd W ls++T).set 9 (mX 1 pl')=HQ ns cs rk ws hp pl' er bk nd W ls++T:=rfl
theorem rlt (h:18≤m)(hk:k<18):(V.ref k).lt m=az:=gJ (bA hk h)
theorem QQ:∀H:Hp,M5 m (H++T)=(M5 m H&&M5 m T):=by
 intro zz
 induction zz with
 | nil=>
  show M5 m T=(az&&M5 m T);simp only[pQ]
 | cons a H ih=>
  show(M4 m a&&M5 m (H++T))=((M4 m a&&M5 m H)&&M5 m T);simp only[ih,aur]
theorem aua (h:18≤m):M5 m (HQ ns cs rk ws hp pl er bk nd W ls)=az:=by
 show(V.qO m (ns.map .int)&&(V.qO m (cs.map nV)&&(V.qO m ((cs.take 8).map nV)&&(V.qO m ((By cs).map zU)&&(V.qO m ([1].map nV)&&(V.qO m (rk.map nV)&&(V.qO m (ws.map sV)&&(((V.ref 8).lt m&&az)&&(V.qO m (hp.map pV)&&(M4 m (mX 1 pl)&&(V.qO m (er.map V.str)&&(V.qO m ((bk.map zy).map pV)&&(V.qO m (nd.map nT)&&(V.qO m (W.map nV)&&(((V.ref 11).lt m&&az)&&(M4 m (.inst 138 (Kf (yu cs) 16 17))&&(V.qO m (ls.map V.str)&&(M4 m (mX 0 [])&&az))))))))))))))))))=az;have e:M4 m (.inst 138 (Kf (yu cs) 16 17))=az:=by show(az&&(az&&(az&&(az&&((V.ref 16).lt m&&((V.ref 17).lt m&&az))))))=az;refine aD (rlt h (by decide)) (aD (rlt h (by decide)) ?_);rfl
 simp only[aA6,T4,T4,ak9,T4,T4,ak9,ae9,aC7,aF6,ae9,aC9,T4,aF6,aC7];refine aD (rlt h (by decide)) (aD (rlt h (by decide)) (aD e ?_));rfl
theorem ax7 (hT:M5 (18+T.length) T=az)(hl:∀j∈lk,j<18+T.length):Cl lk (HQ ns cs rk ws hp pl er bk nd W ls++T):=⟨by
 refine aD aA ?_;rw[QQ];refine aD (show(HQ ns cs rk ws hp pl er bk nd W ls).length=18 from rfl) (aD (aua (aQ _ _)) (aD hT ?_));rfl,λj hj=>by refine aD aA ?_;exact hl j hj⟩
theorem aD7:M4 m (I6 rs)=az:=ak9 rs
theorem aoa:(("Code":aM)).cps.toList.any RE.nM=aG:=rfl
theorem a2v:(("Code":aM)).length≤1000:=by decide+kernel
theorem acu:([32,48,49].all λy=> !RE.qC y)=az:=rfl
theorem Row3.vl (h:Row3 r)(hz:r.length≤1000):Bv (toS r) where
 good:=ado.mpr λy hy q=>by have:=bF.mp acu y (by rcases h y hy with rfl | rfl | rfl<;>decide);rw[q]at this;exact bU this
 len:=by rw[N5];exact hz
theorem acv {q:St->v7 Fl}{L:j8}(hL:∀o,(L++rwE o).lookup ("post":aM)=aa (.ref 7))(hu:∀o v,upd (L++rwE o) "row" v=L++rwE (aa v))(hT:M5 (18+T.length) T=az)(hl:∀j∈lk,j<18+T.length)(h8:lk.contains 8=aG):∀(rs:List (List Nat))(hp:List (aM×aM))(o:Option V),∀J:(∀r∈rs,Row3 r∧r.length≤1000),∀J:hp.length+rs.length≤400,∃o',U5 (Q8 gL (n+22) lk (.loc "row") arv) q (rs.map sV) ⟨L++rwE o,C,HQ ns cs rk ws hp pl er bk nd W ls++T⟩=q ⟨L++rwE o',C,HQ ns cs rk ws (hp++rs.map zW) pl er bk nd W ls++T⟩:=by
 intro zz
 induction zz with
 | nil=>
  intro hp o _ _;exact⟨o,by refine aD ue (aD ue ?_);rw[bh];rfl⟩
 | cons r rs ih=>
  intro hp o h hz;have e:=ZW (n:=n) (i:=7) (ax7 (ns:=ns) (cs:=cs) (rk:=rk) (ws:=ws) (pl:=pl) (er:=er) (bk:=bk) (nd:=nd) (W:=W) (ls:=ls) hT hl) ⟨rfl,rfl,bz (ak (aQ _ _) hz) (by decide)⟩ aoa a2v ((h r (.head _)).1.vl (h r (.head _)).2) (ak (ak (aQ _ _) hz) (by decide)) h8;obtain⟨o',e'⟩:=ih (hp++ [zW r]) (aa (sV r)) (λx hx=>h x (.tail _ hx)) (by refine aD aA ?_;exact ak (bM (cB _ 1 _)) hz);rw[aH]at e';exact⟨o',R0 (Q4 (by rw[←hu o];exact n7) (j0 (M9 (t7 (d9 (hL _)) (O6 rfl aBs) (c7 j4 (c7 (d9 (by rw[←hu o];exact J5)) d8)) d8 e)) o9)) e'⟩
noncomputable abbrev L7 (cs:List Nat):j8:=L4' cs++([("rows",.ref 18)]:j8)
theorem st_8 (h:∀r∈rs,Row3 r∧r.length≤1000)(hz:rs.length≤400):∃o',iY gL (n+25) [0] s8 ⟨L7 cs,C,HQ ns cs rk ws [] pl er bk nd W ls++ [I6 rs]⟩=fc .next ⟨L7 cs++rwE o',C,HQ ns cs rk ws (rs.map zW) pl er bk nd W ls++ [I6 rs]⟩:=by obtain⟨o',e⟩:=acv (L:=L7 cs) (λo=>by cases o<;>rfl) (λo v=>by cases o<;>kernel_rfl) (T:= [I6 rs]) (by show(M4 19 (I6 rs)&&az)=az;refine aD aD7 ?_;rfl) (show∀j∈([18,0]:List Nat),j<19 by decide) (by decide) rs [] aC h (by simp only[qw,kW];exact hz);exact⟨o',W7 (au0 rfl rfl) e⟩
end
end
section
noncomputable abbrev cdV (r:List Nat):V:=pV (zW r)
noncomputable def rwL (o:Option (List Nat)):j8:=rwE (o.map sV)
section
variable {ws rs:List (List Nat)}{hp hp' pl pl':List (aM×aM)}
theorem a2w:cz "Code"=az:=by kernel_rfl
theorem aub (h:∀r∈rs,∀x∈r,x<256):zM H (n+2) (rs.map cdV) (rs.map λr=>tE [.str "Code",.str (toS r)]):=al1 λr hr=>aD4 (I8 (af2 a2w) (I8 (ant (h r hr)) ah6))
theorem a2x (o:Option (List Nat))(p:List Nat):K5 gL (n+1) Ir (.loc "row") (sV p) ⟨rwL o,C,H⟩=fc () ⟨rwL (aa p),C,H⟩:=by cases o<;>exact n7
theorem aob (hL:L.lookup ("rows":aM)=aa (.ref i))(h:P[i]?=aa (I6 rs))(hz:rs.length≤1000)(hf:([i]++lk).contains P.length=aG):dY gL (n+4) ⟨L,C,lk⟩ (.comp (.tup [(.cst (.str "Code")),(.loc "row")]) (.loc "row") (.loc "rows") [] []) P=ok (.ref P.length) (P++ [.list (rs.map cdV)]):=by
 have e:=ZD (n:=n+3) (φ:=⟨L,C,lk⟩) (elt:= .tup [(.cst (.str "Code")),(.loc "row")]) (xT:= []) sV (λr=>aa (cdV r)) rwL rfl (au0 hL h) (Ey.mpr λU U q=>rU q) hz (λr hr o acc ha=>
  qX (a2x o r) aa7 (U6 (c7 j4 (c7 (d9 rfl) d8))) (T8 hf ha))
 rw[ad2]at e;exact e
theorem a2y:gL.glob "_law_fold"=aa (.gl (.ref 424)):=rfl
theorem a2z:gL.bN 424 "__init__"=aC:=rfl
theorem a3a:∀{ws:List (List Nat)},∀J:(∀x∈ws,x.length≤8),(ws.map λx=>x.length+1).sum≤9*ws.length:=by
 intro zz
 induction zz with
 | nil=>
  intro _;exact aN _
 | cons x ws ih=>
  intro h;have:=ih λy hy=>h y (.tail _ hy);have:=h x (.head _);exact aD bV (aD jk (aD cW (ak (gB (cO this) (ih λy hy=>h y (.tail _ hy))) (bM (iM 9 _)))))
theorem st_9 (o:BJ ws)(hr:rs=U4 (yU cs) (yu cs) ws):∃T,iY gL (n+30) [0] s9 ⟨L7 cs,C,HQ ns cs rk ws (rs.map zW) pl er bk nd W ls++ [I6 rs]⟩=fc .next ⟨L7 cs,C,HQ ns cs rk ws (rs.map zW) pl er bk nd W ls++([I6 rs]++T)⟩:=by
 obtain⟨r1,r2,r3,r4,r5⟩:=o.rows;rw[←hr]at r1 r3;have l1:∀r∈rs,∀x∈r,x<256:=λr hr=>(r1 r hr).lt;cases ws with
 | nil=>exact nxZ o.len
 | cons x xs=>
  have hx:=o.len;have s1:=a3a λx hx=>(o.w x hx).1;simp only[bV,jk,o.len]at s1;refine exY (Qz (n:=n+9) (lk:= [0]) (H:=HQ ns cs rk (x::xs) (rs.map zW) pl er bk nd W ls++ [I6 rs]) (iw:=6) (hd:=yU cs) (w:=yu cs) rfl (ak s1 (by decide)) (ak (pB (bM hx)) (by decide))) λr T1 e1 h1=> ?_;rw[show(X6 (yU cs) (yu cs) x xs).1++ [(X6 (yU cs) (yu cs) x xs).2]=rs from hr.symm]at h1;have hH:18<(HQ ns cs rk (x::xs) (rs.map zW) pl er bk nd W ls++ [I6 rs]++T1++ [p6.list ((rs.map zW).map pV)]).length:=by
   repeat refine aD aA ?_
   exact bA (show 18<18+1 by decide) (ak (aQ _ _) (aQ _ _))
  have e2:=aC4 (n:=n+13) (lk:= [0]) (H:=HQ ns cs rk (x::xs) (rs.map zW) pl er bk nd W ls++ [I6 rs]++T1) (i:=7) ⟨rfl,rfl,by rw[aJ];lia⟩;have e3:=aob (n:=n+22) (lk:= [0]) (L:=L7 cs) (C:=C) rfl (m6 rfl) (ak (by assumption) (by decide)) (fresh (λj hj=>by
   rcases aY.mp hj with rfl | hj
   ·exact hH
   ·simp only[aP.mp hj];exact dw (show 0<18 by decide) hH) (aN _))
  rw[cY,show(pV∘zW:List Nat->V)=cdV from rfl]at e2 e3;have e:=M7 (bd:= [.ret (.cst (.bool aG))]) (bOr (t8 (u6 (a:= .loc "rows") (b:= .call (.gn "_law_fold") [(.loc "words"),(.loc "head"),(.loc "width")] [] []) (d9 rfl) (JR a2y a2z (c7 (d9 rfl) (c7 (d9 rfl) (c7 (d9 rfl) d8))) e1) (acp (KY rfl l1) (KY h1 l1)))) (t8 (u6 (a:= .bN (.loc "post") "items" [] [] []) (t7 (d9 rfl) (O6 rfl av9) d8 d8 e2) e3 (acp (R8 (m6 q9) (aub l1)) (R8 q9 (aub l1)))))) o9;rw[aH,aH,aH]at e;exact⟨_,e⟩
theorem acw:iD "cODE"="code":=rfl
theorem acx:iD "Code"="code":=rfl
theorem aF9:Ei "code":=⟨by kernel_rfl,by kernel_rfl,by kernel_rfl,by decide+kernel⟩
theorem st_10 (h1:(rs.flatten).filter Hf=ws.flatten)(h2:rs.flatten.length≤1000)(h3:rs.length≤400):∃T,iY gL (n+30) [0] s10 ⟨L7 cs,C,HQ ns cs rk ws (rs.map zW) pl er bk nd W ls++ [I6 rs]⟩=fc .next ⟨upd (L7 cs) "bits" (sV ws.flatten),C,HQ ns cs rk ws (rs.map zW) pl er bk nd W ls++([I6 rs]++T)⟩:=by
 have e1:=ZR (n:=n+6) (H:=HQ ns cs rk ws (rs.map zW) pl er bk nd W ls++ [I6 rs]) (i:=7) (lw:=λU=> "code") (ax7 (by show(M4 19 (I6 rs)&&az)=az;refine aD aD7 ?_;rfl) (show∀j∈([0]:List Nat),j<19 by decide)) ⟨rfl,rfl,by rw[aJ];exact bz h3 (by decide)⟩ acw aF9 (λp hp=>by
  obtain⟨r,_,rfl⟩:=dq.mp hp;exact⟨acx,aF9.ok,aF9.len⟩) (by rw[aJ];exact ak (by assumption) (by decide))
 rw[vL.mpr (λp U=>beq_self_eq_true _),cY,show((λp:aM×aM=>V.str p.2)∘zW)=λr=>V.str (toS r) from rfl]at e1;have hs:((rs.map toS).map (·.length)).sum=rs.flatten.length:=by exact aD cY (aD qG (congrArg aus (gU λx U=>N5 x)))
 have e2:=λr=>aC6 (r:=r) (lk:= [0]) (ov:= .str "") (xs:=rs.map toS) (k:=(HQ ns cs rk ws (rs.map zW) pl er bk nd W ls++ [I6 rs]).length) (q9.trans (by refine aD cY ?_;rfl)) (by
  refine aD hs (aD (show(("":aM)).length=0 from by kernel_rfl) ?_);exact ak (by assumption) (by decide))
 rw[show("":aM)=toS [] from by kernel_rfl,JW,show toS []=("":aM) from by kernel_rfl]at e2;have e3:=aAz (φ:=⟨L7 cs,C, [0]⟩) (p:=" ") (q:="") (o:= .bN (.cst (.str "")) "join" [(.bN (.loc "post") "get_all" [(.cst (.str "cODE"))] [] [])] [] []) (t7 j4 (O4 aC5) (c7 (t7 (d9 rfl) (O6 rfl aBt) (c7 j4 d8) d8 e1) d8) d8 (e2 _)) (by
  refine aD (O3 (by simp only[N5,show(("":aM)).length=0 from by kernel_rfl,Nat.mul_zero];exact h2)) ?_;decide+kernel)
 rw[show(" ":aM)=toS [32] from GX,show("":aM)=toS [] from by kernel_rfl,a0i,h1,←show(" ":aM)=toS [32] from GX,←show("":aM)=toS [] from by kernel_rfl,aH]at e3;exact⟨_,t6 e3 n7⟩
end
end
section
noncomputable abbrev tdP (b:Nat):aM×aM:=(("":aM),toS [b])
noncomputable def QR (o:Option V):j8:=Gz "bit" o
section
theorem aD8:∀bs:List Nat,pl bs=bs.reverse.map tdP:=by
 intro zz
 induction zz with
 | nil=>
  exact rfl
 | cons b r ih=>
  show pl r++ [tdP b]=_;refine aD ih (aD xO (aD cC ?_));rfl
theorem a3b:∀l:List Nat,w7 (l.map tdP)=l.length:=by
 intro zz
 induction zz with
 | nil=>
  exact rfl
 | cons b r ih=>
  have:=ih;unfold w7 at this⊢;simp only[bV,bV,jk,this,cW,show(tdP b).1.length+(tdP b).2.length=1 from by show("":aM).length+(toS [b]).length=1;simp only[N5,show(("":aM)).length=0 from by kernel_rfl];rfl,iM]
theorem a3c:∀l:List Nat,v6 (l.map tdP)=toS l:=by
 intro zz
 induction zz with
 | nil=>
  exact rfl
 | cons b r ih=>
  show(("":aM).append (toS [b])).append (v6 (r.map tdP))=_;simp only[ih,show("":aM)=toS [] from by kernel_rfl,al9,al9];rfl
theorem QS {q:St->v7 Fl}{L:j8}(hL:∀o,(L++QR o).lookup ("pile":aM)=aa (.ref 9))(hu:∀o v,upd (L++QR o) "bit" v=L++QR (aa v))(h9:lk.contains 9=aG):∀(l:List Nat)(ps:List (aM×aM))(o:Option V),∀J:ps.length+l.length≤900,∃o',U5 (Q8 gL (n+12) lk (.loc "bit") Zj) q (l.map λb=>sV [b]) ⟨L++QR o,C,HQ ns cs rk ws hp ps er bk nd W ls++T⟩=q ⟨L++QR o',C,HQ ns cs rk ws hp (ps++l.map tdP) er bk nd W ls++T⟩:=by
 intro zz
 induction zz with
 | nil=>
  intro ps o _;exact⟨o,by refine aD ue (aD ue ?_);rw[bh];rfl⟩
 | cons b l ih=>
  intro ps o hz;have e:=ad1 (n:=n) (H:=HQ ns cs rk ws hp ps er bk nd W ls++T) (s:="") (t:=toS [b]) rfl (bz (ak (aQ _ _) hz) (by decide)) h9;obtain⟨o',e'⟩:=ih (ps++ [tdP b]) (aa (sV [b])) (by refine aD aA ?_;exact ak (bM (cB _ 1 _)) hz);rw[aH]at e';exact⟨o',R0 (Q4 (by rw[←hu o];exact n7) (j0 (M9 (t7 (d9 (hL _)) (J7 rfl at5 at6) (c7 j4 (c7 (d9 (by rw[←hu o];exact J5)) d8)) d8 e)) o9)) e'⟩
theorem KZ (hz:l.length≤1000):Cz H (sV l) .none .none (.int (-1))=ok (sV l.reverse) H:=by
 unfold Cz SM;refine aD (show T5 V.none=aa aC from rfl) (aD W0 (aD W0 (aD (show T5 (.int (-1))=aa (aa (-1)) from rfl) (aD W0 (aD (bu (by decide)) ?_)))));show opt (Rv (au4 (toS l) aC aC (aa (-1)))) (λv=>ok v H)=_;have e:au4 (toS l) aC aC (aa (-1))=toS l.reverse:=by delta au4;refine aD (show(((aa (-1):Option Int).getD 1)==1)=aG from by decide) ?_;rw[Bd,bu bU];exact congrArg toS (ZV)
 refine aD e (aD (aan (aD mK hz)) ?_);rfl
noncomputable abbrev L10 (cs ts:List Nat):j8:=L4' cs++([("rows",.ref 18),("bits",sV ts)]:j8)
theorem st_11 (hz:ts.length≤900):∃o',iY gL (n+15) [0] s11 ⟨L10 cs ts,C,HQ ns cs rk ws hp [] er bk nd W ls++T⟩=fc .next ⟨L10 cs ts++QR o',C,HQ ns cs rk ws hp (pl ts) er bk nd W ls++T⟩:=by obtain⟨o',e⟩:=QS (L:=L10 cs ts) (λo=>by cases o<;>rfl) (λo v=>by cases o<;>kernel_rfl) (lk:= []++ [0]) (by decide) ts.reverse [] aC (by simp only[qw,kW,mK];exact hz);rw[nC,←aD8]at e;refine⟨o',W7 (lks:= []) ?_ e⟩;exact j7 (Ds (d9 rfl) j4 j4 Qv (KZ (ak hz (by decide)))) rfl
theorem flat_8 (o:BJ ws):ws.flatten.length≤64:=by
 have:∀{ws:List (List Nat)},∀J:(∀x∈ws,x.length≤8),ws.flatten.length≤8*ws.length:=λ{ws}=>by
  induction ws with
  | nil=>exact λU=>aN _
  | cons x ws ih=>
   intro h;have:=ih λy hy=>h y (.tail _ hy);have:=h x (.head _);exact aD dX (aD aA (aD cW (ak (gB this (ih λy hy=>h y (.tail _ hy))) (bM (iM 8 _)))))
 have:=this λx hx=>(o.w x hx).1;rw[o.len]at this;exact this
theorem QT (o:BJ ws):Hg ws.flatten:=λy hy=>by exact lO (cG.mp hy) λx hx hy=>((o.w x hx).2.2 y hy)
theorem st_12 (o:BJ ws)(ht:ts=ws.flatten):∃T',iY gL (n+30) [0] s12 ⟨L10 cs ts++QR ob,C,HQ ns cs rk ws hp (pl ts) er bk nd W ls++T⟩=fc .next ⟨L10 cs ts++QR ob,C,HQ ns cs rk ws hp (pl ts) er bk nd W ls++T++T'⟩:=by
 have z:=flat_8 o;have bb:=QT o;rw[←ht]at z bb;have hp9:∀{T:Hp},(HQ ns cs rk ws hp (pl ts) er bk nd W ls++T)[9]?=aa (mX 1 (pl ts)):=λ{_}=>rfl;have hsm:w7 (pl ts)=ts.length:=by simp only[aD8,a3b,mK]
 have hst:v6 (pl ts)=toS ts.reverse:=by rw[aD8,a3c]
 have RQ:(pl ts).length=ts.length:=by simp only[aD8,aJ,mK]
 have hb:(L10 cs ts++QR ob).lookup ("bits":aM)=aa (sV ts):=by cases ob<;>rfl
 have hq:(L10 cs ts++QR ob).lookup ("pile":aM)=aa (.ref 9):=by cases ob<;>rfl
 have hw:(L10 cs ts++QR ob).lookup ("words":aM)=aa (.ref 6):=by cases ob<;>rfl
 have e1:=ab1 (n:=n+15) (lk:= [0]) (hp9 (T:=T));have e2:=ao4 (hp9 (T:=T)) ⟨by decide,by refine aD hsm ?_;lia,by refine aD RQ ?_;exact ak (by assumption) (by decide)⟩;have e3:=aw9 (hp9 (T:=T)) (by simp only[hst,N5,mK];lia);rw[hsm]at e2;rw[hst]at e3;rw[RQ]at e1;have f1:dY gL (n+27) ⟨L10 cs ts++QR ob,C, [0]⟩ (.lst [(.bN (.loc "pile") "part_count" [] [] []),(.call (.gn "len") [(.loc "pile")] [] []),(.call (.gn "str") [(.loc "pile")] [] [])]) (HQ ns cs rk ws hp (pl ts) er bk nd W ls++T)=ok (.ref (HQ ns cs rk ws hp (pl ts) er bk nd W ls++T).length) (HQ ns cs rk ws hp (pl ts) er bk nd W ls++T++ [.list [.int ts.length,.int (1+ts.length:Nat),sV ts.reverse]]):=
  Z2 (c7 (t7 (d9 hq) (J7 hp9 DG DK) d8 d8 e1) (c7 (O2 U3 (d9 hq) e2) (c7 (PT ai7 (d9 hq) e3) d8)))
 have hs:((ws.map toS).map (·.length)).sum=ws.flatten.length:=by exact aD cY (aD qG (congrArg aus (gU λx U=>N5 x)))
 have e4:=λr=>aC6 (r:=r) (lk:= [0]) (ov:= .str "") (xs:=ws.map toS) (k:=6) (H:=HQ ns cs rk ws hp (pl ts) er bk nd W ls++T++ [.list [.int ts.length,.int (1+ts.length:Nat),sV ts.reverse]]) (by refine aD cY ?_;rfl) (by
  refine aD hs (aD (show(("":aM)).length=0 from by kernel_rfl) (nF ht ?_));lia)
 rw[show("":aM)=toS [] from by kernel_rfl,JW,←ht,show toS []=("":aM) from by kernel_rfl]at e4;have f2:dY gL (n+27) ⟨L10 cs ts++QR ob,C, [0]⟩ (.lst [(.call (.gn "len") [(.loc "bits")] [] []),(.bin .Add (.cst (.int 1)) (.call (.gn "len") [(.loc "bits")] [] [])),(.vM (.bN (.cst (.str "")) "join" [(.loc "words")] [] []) (.cst (.none)) (.cst (.none)) (.neg (.cst (.int 1))))]) (HQ ns cs rk ws hp (pl ts) er bk nd W ls++T++ [.list [.int ts.length,.int (1+ts.length:Nat),sV ts.reverse]])=ok (.ref (HQ ns cs rk ws hp (pl ts) er bk nd W ls++T++ [p6.list [.int ts.length,.int (1+ts.length:Nat),sV ts.reverse]]).length) (HQ ns cs rk ws hp (pl ts) er bk nd W ls++T++ [.list [.int ts.length,.int (1+ts.length:Nat),sV ts.reverse]]++ [.list [.int ts.length,.int (1+ts.length:Nat),sV ts.reverse]]):=
  Z2 (c7 (O2 U3 (d9 hb) (at9 (by lia))) (c7 (G7 j4 (O2 U3 (d9 hb) (at9 (by lia))) (Bw)) (c7 (Ds (t7 j4 (O4 aC5) (c7 (d9 hw) d8) d8 (e4 _)) j4 j4 Qv (KZ (by lia))) d8)))
 have rd:∀{H:Hp},zM H 7 [.int ts.length,.int (1+ts.length:Nat),sV ts.reverse] [.int ts.length,.int (1+ts.length:Nat),.str (toS ts.reverse)]:=λ{H}=>I8 au2 (I8 au2 (I8 (ant (λx hx=>bb.row.lt x (List.mem_reverse.mp hx))) ah6));have e:=M7 (bd:= [.ret (.cst (.bool aG))]) (t8 (u6 f1 f2 (acp (R8 (m6 q9) rd) (R8 q9 rd)))) o9;rw[aH (HQ ns cs rk ws hp (pl ts) er bk nd W ls++T)]at e;exact⟨_,e⟩
noncomputable abbrev BK (cs:List Nat):j8:=L4' cs++([("placed",.ref 18),("knots",.ref 19),("loads",.ref 20)]:j8)
theorem st_13:iY gL (n+25) [0] s13 ⟨L4' cs,C,HQ ns cs rk ws hp ps er bk nd W ls⟩=fc .next ⟨BK cs,C,HQ ns cs rk ws hp ps er bk nd W ls++ [Bx Ej,yt DQ,wO w0]⟩:=
 t6 (JR abr abt d8 (aJ4 rfl)) (asb n7 n7 n7)
end
end
section
noncomputable abbrev tO (t:Tree):Hp:= [Bx t.2.2,yt t.1,wO t.2.1]
noncomputable def siE (o:Option V):j8:=Gz "sign" o
section
theorem a3d:gL.glob "_law_letter"=aa (.gl (.ref 393)):=rfl
theorem a3e:gL.bN 393 "__init__"=aC:=rfl
theorem a3f:gL.glob "_law_follow"=aa (.gl (.ref 412)):=rfl
theorem a3g:gL.bN 412 "__init__"=aC:=rfl
theorem auc:M5 m (tO t)=az:=by show(V.qO m ((t.2.2.map zy).map pV)&&(V.qO m (t.1.map nT)&&(V.qO m (t.2.1.map nV)&&az)))=az;simp only[ae9,aC9,T4];rfl
theorem Tr.idx {c:Nat->Nat}(R:Tr nd W bk c)(h:nd[s]?=aa x):nd.findIdx? (·==x)=aa s:=by obtain⟨h1,h2⟩:=aL.mp h;refine nY.mpr ⟨h1,by refine aD h2 ?_;exact beq_self_eq_true x,λj hj q=> ?_⟩;exact dh hj (R.nn j s x ((bD (dw hj h1)).trans (congrArg aa (fG q))) h)
theorem QV {q:St->v7 Fl}(k:Run jH t xs QK t'):∀{bs:List Nat}{o:Option V},∀J:t.2.2.length+18*xs.length≤370,∃o',U5 (Q8 gL (n+45) [0] (.loc "sign") Zk) q (xs.map nT) ⟨BK cs++siE o,C,HQ ns cs rk ws hp (pl (QK.flatten++bs)) er bk nd W ls++tO t⟩=q ⟨BK cs++siE o',C,HQ ns cs rk ws hp (pl bs) er bk nd W ls++tO t'⟩:=by
 induction k with
 | nil jH t R so=>exact λ{bs o} U=>⟨o,rfl⟩
 | cons jH t x s r xs QK t' S k ih=>
  intro bs o zb;have R:=S.R;have h9:x<9:=dw S.h5 (by decide);have e1:=aR8 (n:=n+5) (lk:= [0]) (jn:=19) (bs:=QK.flatten++bs) (H:=HQ ns cs rk ws hp (pl (R2 t.1 s++(QK.flatten++bs))) er bk nd W ls++tO t) rfl (by decide) (show 9<21 by decide) R.N rfl S.p S.l8 S.hx;unfold pH at e1;simp only[atz,atz]at e1;obtain⟨o',e3⟩:=ih (o:=aa (nT x)) (ak (bB S.zb _) (ak (bM (cB _ 18 _)) zb));refine⟨o',R0 (Q4 (wA:=⟨BK cs++siE (aa (nT x)),C,HQ ns cs rk ws hp (pl ((R2 t.1 s::QK).flatten++bs)) er bk nd W ls++tO t⟩) (by cases o<;>kernel_rfl) ?_) e3⟩;rw[dX,aH (R2 t.1 s)];exact j0 (M7 (t8 (u6 (JR a3d a3e (c7 (d9 rfl) (c7 (d9 rfl) d8)) e1) (d9 rfl) (acp (KQ h9) (KQ h9)))) o9) (j0 (M9 (JR a3f a3g (c7 (d9 rfl) (c7 (d9 rfl) (c7 (d9 rfl) (c7 (d9 rfl) d8)))) (aS0 (n:=n+1) (H:=HQ ns cs rk ws hp (pl (QK.flatten++bs)) er bk nd W ls++tO t) ⟨by decide,by decide,by decide,show 18<21 by decide,show 19<21 by decide,show 20<21 by decide⟩ (ax7 auc (show∀j∈([0]:List Nat),j<21 by decide)) ⟨rfl,rfl,rfl⟩ R.N R.lw (λp hp=>dw (R.b5 p hp) (by decide)) (ak (ak (aQ _ _) zb) (by decide)) h9 (R.idx S.hx) (lt9 R.N.len S.hx) S.f))) o9)
theorem aod:∀{xs:List Nat},∀J:(∀x∈xs,x<5),((zA xs).cps.toList.map λc=>(V.str ⟨#[c]⟩))=xs.map nT:=λ{xs} h=>by refine aD cY ?_;refine gU λx hx=> ?_;show sV [97+x]=V.str (nm x);delta nm;exact aD (bG (h x hx)) rfl
theorem a3h {φ:Fm}{x s:aM}(h:φ.cR.lookup x=aa (.str s)):yl (u9 gL (n+1)) φ (.cR x) H=ok (s.cps.toList.map λc=> .str ⟨#[c]⟩, []) H:=j7 (J6 h) (f9 rfl rfl)
theorem st_14 (k:Run [] t0 xs QK t')(h5:∀x∈xs,x<5)(h8:xs.length=8):∃o',iY gL (n+48) [0] s14 ⟨BK cs,tW xs,HQ ns cs rk ws hp (pl QK.flatten) er bk nd W ls++tO t0⟩=fc .next ⟨BK cs++siE o',tW xs,HQ ns cs rk ws hp (pl []) er bk nd W ls++tO t'⟩:=by obtain⟨o',e⟩:=QV k (o:=aC) (by refine aD h8 ?_;decide);rw[bh]at e;have hi:=a3h (n:=n+46) (φ:=⟨BK cs,tW xs, [0]⟩) (x:="sent") (H:=HQ ns cs rk ws hp (pl QK.flatten) er bk nd W ls++tO t0) rfl;rw[aod h5]at hi;exact⟨o',W7 hi e⟩
theorem aEd {c:Nat->Nat}(R:Tr nd W bk c):zM H (m+2) ((bk.map zy).map pV) (bk.map λp=>tE [.str (nm p.1),.str (dg p.2)]):=by
 refine aD cY ?_;exact al1 λp hp=>aD4 (I8 (af2 (ag9 (dw (R.b5 p hp) (by decide))).ok) (I8 (ant λx hx=>by
  have:=R.b9 p hp;refine aD (aP.mp hx) ?_;exact bA (wj this 48) (by decide)) ah6))
end
end
section
section
variable {c:Nat->Nat}
noncomputable abbrev bkL (t:Tree):p6:= .list ((t.2.2.map zy).map pV)
noncomputable abbrev La:V:= .tup [.str "",.str ""]
theorem st_15 (R:Tr t.1 t.2.1 t.2.2 c)(zb:t.2.2.length<900):iY gL (n+30) [0] s15 ⟨BK cs++siE o,C,HQ ns cs rk ws hp [] er t.2.2 t.1 t.2.1 ls++tO t⟩=fc .next ⟨BK cs++siE o,C,HQ ns cs rk ws hp [] er t.2.2 t.1 t.2.1 ls++(tO t++ [bkL t,.list [La,.int 1,.ref 12,.ref 13,.ref 21,.ref 11],.list [La,.int 1,.ref 19,.ref 20,.ref 18,.ref 18]])⟩:=by
 have hl:∀{y:aM}{v:V},∀J:(BK cs).lookup y=aa v,(BK cs++siE o).lookup y=aa v:=λ{y v} h=>by refine aD List.lookup_append (aD h ?_);rfl
 have f1:dY gL (n+27) ⟨BK cs++siE o,C, [0]⟩ (.lst [(.bN (.loc "pile") "pop" [] [] []),(.call (.gn "len") [(.loc "pile")] [] []),(.loc "nodes"),(.loc "weights"),(.bN (.loc "book") "items" [] [] []),(.loc "pairs")]) (HQ ns cs rk ws hp [] er t.2.2 t.1 t.2.1 ls++tO t)=ok (.ref (HQ ns cs rk ws hp [] er t.2.2 t.1 t.2.1 ls++tO t++ [bkL t]).length) (HQ ns cs rk ws hp [] er t.2.2 t.1 t.2.1 ls++tO t++ [bkL t]++ [.list [La,.int 1,.ref 12,.ref 13,.ref 21,.ref 11]]):=
  Z2 (c7 (t7 (d9 (hl rfl)) (J7 rfl ax0 ax1) d8 d8 (aO8 rfl)) (c7 (O2 U3 (d9 (hl rfl)) (ao4 (H:=HQ ns cs rk ws hp [] er t.2.2 t.1 t.2.1 ls++tO t) (a:=9) rfl ⟨by decide,by decide,by decide⟩)) (c7 (d9 (hl rfl)) (c7 (d9 (hl rfl)) (c7 (t7 (d9 (hl rfl)) (O6 rfl av9) d8 d8 (aC4 ⟨rfl,rfl,by rw[aJ];exact zb⟩)) (c7 (d9 (hl rfl)) d8))))))
 have f2:dY gL (n+27) ⟨BK cs++siE o,C, [0]⟩ (.lst [(.tup [(.cst (.str "")),(.cst (.str ""))]),(.cst (.int 1)),(.loc "knots"),(.loc "loads"),(.loc "placed"),(.loc "placed")]) (HQ ns cs rk ws hp [] er t.2.2 t.1 t.2.1 ls++tO t++ [bkL t]++ [.list [La,.int 1,.ref 12,.ref 13,.ref 21,.ref 11]])=ok (.ref (HQ ns cs rk ws hp [] er t.2.2 t.1 t.2.1 ls++tO t++ [bkL t]++ [p6.list [La,.int 1,.ref 12,.ref 13,.ref 21,.ref 11]]).length) (HQ ns cs rk ws hp [] er t.2.2 t.1 t.2.1 ls++tO t++ [bkL t]++ [.list [La,.int 1,.ref 12,.ref 13,.ref 21,.ref 11]]++ [.list [La,.int 1,.ref 19,.ref 20,.ref 18,.ref 18]]):=
  Z2 (c7 (U6 (c7 j4 (c7 j4 d8))) (c7 j4 (c7 (d9 (hl rfl)) (c7 (d9 (hl rfl)) (c7 (d9 (hl rfl)) (c7 (d9 (hl rfl)) d8))))))
 have f2:dY gL (n+27) ⟨BK cs++siE o,C, [0]⟩ (.lst [(.tup [(.cst (.str "")),(.cst (.str ""))]),(.cst (.int 1)),(.loc "knots"),(.loc "loads"),(.loc "placed"),(.loc "placed")]) (HQ ns cs rk ws hp [] er t.2.2 t.1 t.2.1 ls++(tO t++ [bkL t,.list [La,.int 1,.ref 12,.ref 13,.ref 21,.ref 11]]))=ok (.ref 23) (HQ ns cs rk ws hp [] er t.2.2 t.1 t.2.1 ls++(tO t++ [bkL t,.list [La,.int 1,.ref 12,.ref 13,.ref 21,.ref 11],.list [La,.int 1,.ref 19,.ref 20,.ref 18,.ref 18]])):=f2;generalize hH:HQ ns cs rk ws hp [] er t.2.2 t.1 t.2.1 ls++(tO t++ [bkL t,.list [La,.int 1,.ref 12,.ref 13,.ref 21,.ref 11],.list [La,.int 1,.ref 19,.ref 20,.ref 18,.ref 18]])=H at f2;have a:∀{k:Nat}{ob:p6},∀J:(HQ ns cs rk ws hp [] er t.2.2 t.1 t.2.1 ls++(tO t++ [bkL t,.list [La,.int 1,.ref 12,.ref 13,.ref 21,.ref 11],.list [La,.int 1,.ref 19,.ref 20,.ref 18,.ref 18]]))[k]?=aa ob,H[k]?=aa ob:=λh=>hH▸h;have rb:zM H 6 ((t.2.2.map zy).map pV) (t.2.2.map λp=>tE [.str (nm p.1),.str (dg p.2)]):=aEd R;exact M7 (t8 (u6 f1 f2 (acp (R8 (a rfl) (I8 (aD4 (I8 (af2 ax6) (I8 (af2 ax6) ah6))) (I8 au2 (I8 (R8 (a rfl) (al1 λx hx=>KQ (R.N.lt x hx))) (I8 (KR (a rfl)) (I8 (R8 (a rfl) rb) (I8 (R8 (a rfl) rb) ah6))))))) (R8 (a rfl) (I8 (aD4 (I8 (af2 ax6) (I8 (af2 ax6) ah6))) (I8 au2 (I8 (R8 (a rfl) (al1 λx hx=>KQ (R.N.lt x hx))) (I8 (KR (a rfl)) (I8 (R8 (a rfl) rb) (I8 (R8 (a rfl) rb) ah6)))))))))) o9
end
end
section
noncomputable def aEe:j6->aF
 | .lam k=>k
 | _=>default
noncomputable def aEf:j6->List j6
 | .tup l=>l
 | _=> []
noncomputable def aRd:n6->j6
 | .oU _ i _ _=>i
 | _=> .bad
noncomputable def Q9 (i:Nat):aF:=aEe ((aEf (aRd s16)).getD i .bad)
theorem a3i:s16= .oU (.loc "call") (.tup [.lam (Q9 0),.lam (Q9 1),.lam (Q9 2),.lam (Q9 3),.lam (Q9 4)]) an8 []:=rfl
section
noncomputable abbrev W2:List aM:= ["type: Headers must be a list of name/value tuples","value: Control characters not allowed in headers","value: Control characters not allowed in headers","value: lo must be non-negative","value: lo must be non-negative"]
noncomputable abbrev prV (a b:aM):V:= .tup [.str a,.str b]
noncomputable abbrev LC (cs:List Nat)(o:Option Nat):j8:=BK cs++Gz "call" (o.map λi=>V.Ao (Q9 i))
noncomputable def gT0:Hp:= [.inst 370 []]
noncomputable def gT1:Hp:= [.inst 370 [],.list [prV "a" "x",prV "b\t" "x"],.inst 370 [("_headers",.ref 22)]]
noncomputable def gT2:Hp:= [.inst 370 [],.list [prV "a" "x",prV "b\t" "x"],.inst 370 [("_headers",.ref 22)],.list [prV "a" "x\n"],.inst 370 [("_headers",.ref 24)]]
theorem er_0:Q8 gL (n+40) [0] (.loc "call") an8 (.Ao (Q9 0)) ⟨LC cs aC,tW xs,HQ ns cs rk ws hp [] [] bk nd W ls++tO t⟩=fc .next ⟨LC cs (aa 0),tW xs,HQ ns cs rk ws hp [] (W2.take 1) bk nd W ls++(tO t++gT0)⟩:=rfl
theorem er_1:Q8 gL (n+40) [0] (.loc "call") an8 (.Ao (Q9 1)) ⟨LC cs (aa 0),tW xs,HQ ns cs rk ws hp [] (W2.take 1) bk nd W ls++(tO t++gT0)⟩=fc .next ⟨LC cs (aa 1),tW xs,HQ ns cs rk ws hp [] (W2.take 2) bk nd W ls++(tO t++gT1)⟩:=rfl
theorem er_2:Q8 gL (n+40) [0] (.loc "call") an8 (.Ao (Q9 2)) ⟨LC cs (aa 1),tW xs,HQ ns cs rk ws hp [] (W2.take 2) bk nd W ls++(tO t++gT1)⟩=fc .next ⟨LC cs (aa 2),tW xs,HQ ns cs rk ws hp [] (W2.take 3) bk nd W ls++(tO t++gT2)⟩:=rfl
theorem er_3:Q8 gL (n+40) [0] (.loc "call") an8 (.Ao (Q9 3)) ⟨LC cs (aa 2),tW xs,HQ ns cs rk ws hp [] (W2.take 3) bk nd W ls++(tO t++gT2)⟩=fc .next ⟨LC cs (aa 3),tW xs,HQ ns cs rk ws hp [] (W2.take 4) bk nd W ls++(tO t++gT2)⟩:=rfl
theorem er_4:Q8 gL (n+40) [0] (.loc "call") an8 (.Ao (Q9 4)) ⟨LC cs (aa 3),tW xs,HQ ns cs rk ws hp [] (W2.take 4) bk nd W ls++(tO t++gT2)⟩=fc .next ⟨LC cs (aa 4),tW xs,HQ ns cs rk ws hp [] (W2.take 5) bk nd W ls++(tO t++gT2)⟩:=rfl
theorem acy {k:aF}(h:(φ.loc.lookup ("errors":aM)).isSome=az):dY gL (n+1) φ (.lam k) H=ok (.Ao k) H:=m8 h rfl
theorem st_16:iY gL (n+41) [0] s16 ⟨BK cs,tW xs,HQ ns cs rk ws hp [] [] bk nd W ls++tO t⟩=fc .next ⟨LC cs (aa 4),tW xs,HQ ns cs rk ws hp [] W2 bk nd W ls++(tO t++gT2)⟩:=by
 refine aD a3i ?_;have l:((BK cs).lookup ("errors":aM)).isSome=az:=rfl;have hi:yl (u9 gL (n+40)) ⟨BK cs,tW xs, [0]⟩ (.tup [.lam (Q9 0),.lam (Q9 1),.lam (Q9 2),.lam (Q9 3),.lam (Q9 4)]) (HQ ns cs rk ws hp [] [] bk nd W ls++tO t)=ok ([.Ao (Q9 0),.Ao (Q9 1),.Ao (Q9 2),.Ao (Q9 3),.Ao (Q9 4)], []) (HQ ns cs rk ws hp [] [] bk nd W ls++tO t):=by refine aD (U6 (n:=n+39) (φ:=⟨BK cs,tW xs, [0]⟩) (H:=HQ ns cs rk ws hp [] [] bk nd W ls++tO t) (c7 (acy (k:=Q9 0) l) (c7 (acy (k:=Q9 1) l) (c7 (acy (k:=Q9 2) l) (c7 (acy (k:=Q9 3) l) (c7 (acy (k:=Q9 4) l) d8)))))) ?_;rfl
 exact W7 hi (R0 er_0 (R0 er_1 (R0 er_2 (R0 er_3 (R0 er_4 o9)))))
noncomputable abbrev L17 (cs:List Nat):j8:=LC cs (aa 4)++([("control",.str "value: Control characters not allowed in headers"),("below",.str "value: lo must be non-negative")]:j8)
theorem st_17:iY gL (n+10) [0] s17 ⟨LC cs (aa 4),C,H⟩=fc .next ⟨L17 cs,C,H⟩:=t6 (U6 (c7 j4 (c7 j4 d8))) (Z5 n7 n7)
theorem a3k:W2.all cz=az:=by kernel_rfl
theorem aEh (h:dY G n φ a H=ok (.bool az) H1)(k:dY G n φ b H1=R):dY G (n+1) φ (.xR .And [a,b]) H=R:=akj h rfl k
theorem st_18 (R:Tr GC W' bk (cN xs))(hk:rk=qY (GC.map fg) W'):∃σ,iY gL (n+20) [0] s18 ⟨L17 cs,tW xs,HQ ns cs rk ws hp [] W2 bk nd W ls++T⟩=fc (.ret (.bool az)) σ:=by have rd:∀{H:Hp},zM H 7 (W2.map V.str) (W2.map zJ):=λ{H}=>al1 λx hx=>af2 (bF.mp a3k x hx);have f1:dY gL (n+18) ⟨L17 cs,tW xs, [0]⟩ (.cmp .Eq (.loc "errors") (.lst [(.cst (.str "type: Headers must be a list of name/value tuples")),(.loc "control"),(.loc "control"),(.loc "below"),(.loc "below")])) (HQ ns cs rk ws hp [] W2 bk nd W ls++T)=ok (.bool az) (HQ ns cs rk ws hp [] W2 bk nd W ls++T++ [p6.list (W2.map V.str)]):=u6 (d9 rfl) (Z2 (c7 j4 (c7 (d9 rfl) (c7 (d9 rfl) (c7 (d9 rfl) (c7 (d9 rfl) d8)))))) (aEc (R8 (m6 (show∀{T:Hp},(HQ ns cs rk ws hp [] W2 bk nd W ls++T)[10]?=aa (.list (W2.map V.str)) from λ{_}=>rfl)) rd) (R8 (q9) rd));generalize hH:HQ ns cs rk ws hp [] W2 bk nd W ls++T++ [p6.list (W2.map V.str)]=H1 at f1;have f3:=aP3 (H:=H1++ [wO (Ks xs)]) q9 (show 5<64 by decide) (aF8 R);rw[←hk]at f3;exact⟨_,S8 (aEh f1 (u6 (J6 rfl) (O2 aP2 (aP1 rfl rfl (fresh (λj hj=>aD (aP.mp hj) (nF hH (fB _))) (aN _))) f3) (eqL (m6 (m6 (by refine nF hH ?_;rfl))) q9)))⟩
end
end
end Mine.Internal.X2
end
section
namespace Mine.Internal.X2
open PySem
section
theorem yGc (f:aM->Bool)(e:(loc.filter λp=>f p.1)=L)(eH:H'=H++T)(hl:Rx H.length L=az)(hc:Rx H.length cR=az)(hH:M5 H.length H=az)(y:RN G n lk r ⟨L,cR,H⟩):RN G n lk r ⟨loc,cR,H'⟩:=by subst e eH;exact .gc f hl hc hH y
theorem a3l {hp pl:List (aM×aM)}:M5 (HQ ns cs rk ws hp pl er bk nd W ls).length (HQ ns cs rk ws hp pl er bk nd W ls)=az:=aua (aN 18)
theorem Run.len (r:Run jH t xs ws t'):t'.2.2.length≤t.2.2.length+18*xs.length:=by
 induction r with
 | nil=>exact aN _
 | cons jH t x s r xs ws t' S k ih=>
  have:=S.zb;exact aD cW (ak ih (ak (bB this _) (bM (cB _ 18 _))))
theorem aoe (ns:List Int):RN gl 100 [0] aj1 (aw2 ns):=by
 refine aD aAy (aD Zn ?_);have hc:(ax3 ns).length=9:=by delta ax3;rw[aJ];rfl
 generalize Eg:ax3 ns=cs at hc;generalize My:(By cs).map (· % 5)=xs;have h8:xs.length=8:=by simp only[←My,aJ,aJ,iC,hc];rfl
 have h5:∀x∈xs,x<5:=λx hx=>by replace hx:=My▸hx;obtain⟨y,_,rfl⟩:=dq.mp hx;exact lY _ (by decide)
 refine exX (run_0 (bM h8) h5) λws t' k=> ?_;obtain⟨R,so⟩:=k.tr;have bits:=k.bits;have o:BJ ws:=⟨bits.1.trans h8,bits.2⟩;simp only[nC]at R;obtain⟨T0,e0⟩:=st_0;rw[Eg]at e0;obtain⟨o5,ls,z,ps,e5,F⟩:=st_5 k My h8;have e7:=st_7 (n:=60) (ns:=ns) (rk:=qY (t'.1.map fg) t'.2.1) (bk:=t'.2.2) (nd:=t'.1) (W:=t'.2.1) (C:=tW xs) (L:=L4' cs) F o rfl;obtain⟨r1,r2,r3,r4,r5⟩:=o.rows;generalize hrs:U4 (yU cs) (yu cs) ws=rs at e7 r1 r2 r3 r4;obtain⟨o8,e8⟩:=st_8 (n:=75) (C:=tW xs) (ns:=ns) (cs:=cs) (rk:=qY (t'.1.map fg) t'.2.1) (ws:=ws) (pl:= []) (er:= []) (bk:=t'.2.2) (nd:=t'.1) (W:=t'.2.1) (ls:=rs.map toS) (λr hr=>⟨r1 r hr,ak (acs hr) (ak r4 (by decide))⟩) (by lia);obtain⟨T9,e9⟩:=st_9 (n:=70) (C:=tW xs) (ns:=ns) (cs:=cs) (rk:=qY (t'.1.map fg) t'.2.1) (pl:= []) (er:= []) (bk:=t'.2.2) (nd:=t'.1) (W:=t'.2.1) (ls:=rs.map toS) o hrs.symm;obtain⟨T10,e10⟩:=st_10 (n:=70) (C:=tW xs) (ns:=ns) (cs:=cs) (rk:=qY (t'.1.map fg) t'.2.1) (ws:=ws) (pl:= []) (er:= []) (bk:=t'.2.2) (nd:=t'.1) (W:=t'.2.1) (ls:=rs.map toS) r2 (ak r4 (by decide)) (by lia);obtain⟨o11,e11⟩:=st_11 (n:=85) (C:=tW xs) (ns:=ns) (cs:=cs) (rk:=qY (t'.1.map fg) t'.2.1) (ws:=ws) (hp:=rs.map zW) (er:= []) (bk:=t'.2.2) (nd:=t'.1) (W:=t'.2.1) (ls:=rs.map toS) (T:= [I6 rs]++T10) (ak (flat_8 o) (by decide));obtain⟨T12,e12⟩:=st_12 (n:=70) (C:=tW xs) (ns:=ns) (cs:=cs) (rk:=qY (t'.1.map fg) t'.2.1) (ws:=ws) (hp:=rs.map zW) (er:= []) (bk:=t'.2.2) (nd:=t'.1) (W:=t'.2.1) (ls:=rs.map toS) (T:= [I6 rs]++T10) o rfl (ob:=o11);obtain⟨o14,e14⟩:=st_14 (n:=52) (ns:=ns) (cs:=cs) (rk:=qY (t'.1.map fg) t'.2.1) (ws:=ws) (hp:=rs.map zW) (er:= []) (bk:=t'.2.2) (nd:=t'.1) (W:=t'.2.1) (ls:=rs.map toS) k h5 h8;have zb:t'.2.2.length<900:=by have:=k.len;rw[h8]at this;exact bz this (by decide)
 obtain⟨σ,e18⟩:=st_18 (n:=80) (ns:=ns) (cs:=cs) (ws:=ws) (hp:=rs.map zW) (nd:=t'.1) (W:=t'.2.1) (ls:=rs.map toS) (T:=tO t'++gT2) R rfl;refine .step e0 (yGc (λU=>az) rfl rfl rfl rfl ?_ (.step (st_1 hc) (.step (st_2 hc) (.step (st_3) (.step (st_4) (.step e5 (.step (st_6 (n:=76) (ns:=ns) (cs:=cs) (ws:=ws) (ls:=ls) (z:=z) (ps:=ps) (o:=o5) R so (by rw[h8];decide)) ?_)))))))
 ·show(V.qO 2 (ns.map .int)&&(V.qO 2 (cs.map nV)&&az))=az
  rw[aA6,T4];rfl
 exact yGc (λx=>x≠ "sign") (L:=L4' cs) (by cases o5<;>kernel_rfl) (bh _).symm rfl rfl (ax4 (lk:= [0]) (by decide)).hp (.step e7 (.step e8 (yGc (λx=>x≠ "row") (by cases o8<;>kernel_rfl) (bh _).symm rfl rfl ((ax7 (by show(M4 19 (I6 rs)&&az)=az;refine aD aD7 ?_;rfl) (show∀j∈([0]:List Nat),j<19 by decide)).hp) (.step e9 (yGc (λU=>az) rfl (aH _ _ _).symm rfl rfl ((ax7 (by show(M4 19 (I6 rs)&&az)=az;refine aD aD7 ?_;rfl) (show∀j∈([0]:List Nat),j<19 by decide)).hp) (.step e10 (.step e11 (.step e12 (yGc (λx=> !(["rows","bits","bit"]:List aM).contains x) (by cases o11<;>kernel_rfl) (aH _ _ _) rfl rfl a3l (.step (st_13) (.step e14 (.step (st_15 (n:=70) (C:=tW xs) (ns:=ns) (cs:=cs) (rk:=qY (t'.1.map fg) t'.2.1) (ws:=ws) (hp:=rs.map zW) (er:= []) (ls:=rs.map toS) (o:=o14) R zb) (yGc (λx=>x≠ "sign") (by cases o14<;>kernel_rfl) (aH _ _ _).symm rfl rfl (ax7 auc (show∀j∈([0]:List Nat),j<21 by decide)).hp (.step (st_16) (.step (st_17) (.ret e18))))))))))))))))
end
end Mine.Internal.X2
end
section
set_option maxRecDepth 100000 in
theorem PySem.Challenge.cw_uy0025_02_holds : PySem.Challenge.rw_uy0025_02.Holds :=
 Mine.Internal.aAu λns U=>Mine.Internal.X2.aoe ns
end